import JvmDerived
import JvmDerived.Pilot.@@N@@Statement
import JvmDerived.Pilot.@@N@@Code
set_option linter.unusedVariables false
set_option linter.unusedSimpArgs false
@@BLOCK:NumsL.lean.txt@@
namespace Jvm.Pilot.@@N@@
open Jvm Jvm.ClassFile Sem Op Lib Jvm.Free Jvm.Stand Jvm.LawKit Jvm.RoadKit Bundle Jvm.Pilot.@@N@@.Jvm.D
abbrev ym0 : MethodName := ⟨"java/util/Arrays", "fill", "([II)V"⟩
abbrev ym1 : MethodName := ⟨"java/util/Arrays", "fill", "([JJ)V"⟩
abbrev ym2 : MethodName := ⟨"java/lang/Math", "min", "(JJ)J"⟩
abbrev ym3 : MethodName := ⟨"java/lang/Math", "max", "(II)I"⟩
abbrev ym4 : MethodName := ⟨"com/example/kubera/kubera/FlowNetwork$NodeHeap", "<init>", "(I)V"⟩
abbrev ym5 : MethodName := ⟨"com/example/kubera/kubera/FlowNetwork$NodeHeap", "push", "(JI)V"⟩
abbrev ym6 : MethodName := ⟨"com/example/kubera/kubera/FlowNetwork$NodeHeap", "popNode", "()I"⟩
abbrev ym7 : MethodName := ⟨"com/example/kubera/kubera/FlowNetwork$NodeHeap", "isEmpty", "()Z"⟩
abbrev ym8 : MethodName := ⟨"com/example/kubera/kubera/FlowNetwork", "measure", "([J[J)Z"⟩
abbrev ym9 : MethodName := ⟨"com/example/kubera/kubera/FlowNetwork", "admissible", "(II[J)Z"⟩
abbrev ym10 : MethodName := ⟨"com/example/kubera/kubera/FlowNetwork", "blockingFlow", "([J[I[I)J"⟩
abbrev ym11 : MethodName := ⟨"com/example/kubera/kubera/FlowNetwork", "link", "(IIIJJ)V"⟩
abbrev ym12 : MethodName := ⟨"com/example/kubera/kubera/FlowNetwork", "addArc", "(IIJJJ)I"⟩
abbrev ym13 : MethodName := ⟨"com/example/kubera/kubera/FlowNetwork", "<init>", "(I)V"⟩
abbrev ym14 : MethodName := ⟨"com/example/kubera/kubera/FlowNetwork", "addSupply", "(IJ)V"⟩
abbrev ym15 : MethodName := ⟨"com/example/kubera/kubera/FlowNetwork", "flow", "(I)J"⟩
abbrev ym16 : MethodName := ⟨"com/example/kubera/kubera/FlowNetwork", "solve", "()Z"⟩
def Goes (p : Program) (e : Env) (below : List Frame) (s : State) (Q : Option Value → Heap → List Loc → Prop) (kc ks : Nat) (A : State) : Prop :=
  ∃ s₂ o, Steps p.tables e below A s₂ ∧ s₂.status = .running ∧ Ended s₂ below o ∧ ∃ v L, o = .returned v ∧ Q v s₂.heap L ∧ FrameEnd s o s₂ L kc ks
abbrev jv (x : Int64) : Slot := .val (.long x)
def QL (w : Option Value) (n0 : Nat) (v : Option Value) (h : Heap) (L : List Loc) : Prop := v = w ∧ Fr n0 L
theorem own_selp {s : State} {args : Array Value} {y : MethodName} {n : Nat} (hins : (Cond.instantiable y.cls n).before args s = true) (hpriv : (Cond.privateMethod y).before args s = true) (hinst : (Cond.instanceMethod y).before args s = true) (hy : y.cls ≠ "java/lang/invoke/MethodHandle" ∧ y.cls ≠ "java/lang/invoke/VarHandle") : (Cond.selects y.cls y y).before args s = true := by
  obtain ⟨c, k, hc, hk, -, hniab, -, -⟩ := Cond.instantiable_spec hins
  exact selects_self_of_private hc hk (Bool.or_eq_false_iff.mp hniab).1 (Cond.privateMethod_at hpriv) hinst hy
def QP (w : Option Value) (h0 : Heap) (n0 : Nat) (v : Option Value) (h : Heap) (L : List Loc) : Prop := v = w ∧ Fr n0 L ∧ h = h0
section OwnGoes
variable {p : Program} {l : Launch} {e : Env} {R : Room} {s : State} {m : MethodId} {args : Array Value} {below : List Frame} {meth : Method} {c : Code} {T : State} {locs : List Loc} {cells slots kc ks : Nat} {Q : Option Value → Heap → List Loc → Prop}
theorem Goes.st {A B : State} (h : ∀ t, Steps p.tables e below B t → Steps p.tables e below A t) (g : Goes p e below s Q kc ks B) : Goes p e below s Q kc ks A := by
  obtain ⟨s₂, o, h1, r⟩ := g
  exact ⟨s₂, o, h _ h1, r⟩
theorem Goes.cast {g g' : JFrame} (q : g = g') (h : Goes p e below s Q kc ks (T.setTop g')) : Goes p e below s Q kc ks (T.setTop g) := q ▸ h
theorem Goes.retI (X : Stand p l e R s m args below meth c T locs cells slots) (hx : p.tables.exec = Jvm.exec) (hlk : meth.locks = false) (hret : meth.sig.returnType = some .int) {pc : Nat} {Ls : Array Slot} {z : Int32} {rest : List Value} (hd : decode c.code pc = .ok (.ireturn, 1)) (hQ : Q (some (.int z)) T.heap locs) (h1 : cells ≤ kc) (h2 : slots ≤ ks) : Goes p e below s Q kc ks (T.setTop (mkF m pc Ls (.int z :: rest))) := by
  obtain ⟨fs, hr, hrun, hended, hW, hsame⟩ := X.leave (v := some (.int z)) (fun h => by rw [hret] at h; cases h)
  exact ⟨_, _, retOut X hx hret rfl (Or.inl ⟨rfl, Or.inl rfl, _, rfl⟩) hd hr, hrun, hended, _, _, rfl, hQ, ⟨_, rfl⟩, hW, hsame.mono h1 h2⟩
theorem Goes.retJ (X : Stand p l e R s m args below meth c T locs cells slots) (hx : p.tables.exec = Jvm.exec) (hlk : meth.locks = false) (hret : meth.sig.returnType = some .long) {pc : Nat} {Ls : Array Slot} {z : Int64} {rest : List Value} (hd : decode c.code pc = .ok (.lreturn, 1)) (hQ : Q (some (.long z)) T.heap locs) (h1 : cells ≤ kc) (h2 : slots ≤ ks) : Goes p e below s Q kc ks (T.setTop (mkF m pc Ls (.long z :: rest))) := by
  obtain ⟨fs, hr, hrun, hended, hW, hsame⟩ := X.leave (v := some (.long z)) (fun h => by rw [hret] at h; cases h)
  exact ⟨_, _, retOut X hx hret rfl (Or.inr (Or.inl ⟨rfl, rfl, _, rfl⟩)) hd hr, hrun, hended, _, _, rfl, hQ, ⟨_, rfl⟩, hW, hsame.mono h1 h2⟩
theorem Goes.retR (X : Stand p l e R s m args below meth c T locs cells slots) (hx : p.tables.exec = Jvm.exec) (hlk : meth.locks = false) {t : FieldType} (hret : meth.sig.returnType = some t) {w : Value} (ht : t.isReference = true) (hw : w.isRef = true) {pc : Nat} {Ls : Array Slot} {rest : List Value} (hd : decode c.code pc = .ok (.areturn, 1)) (hQ : Q (some w) T.heap locs) (h1 : cells ≤ kc) (h2 : slots ≤ ks) : Goes p e below s Q kc ks (T.setTop (mkF m pc Ls (w :: rest))) := by
  obtain ⟨fs, hr, hrun, hended, hW, hsame⟩ := X.leave (v := some w) (fun h => by rw [hret] at h; cases h)
  have hn : narrow t w = w := by cases t <;> cases w <;> first | rfl | (simp [FieldType.isReference] at ht) | (simp [Value.isRef] at hw)
  exact ⟨_, _, retOut X hx hret hn (Or.inr (Or.inr (Or.inr (Or.inr ⟨rfl, ht, hw⟩)))) hd hr, hrun, hended, _, _, rfl, hQ, ⟨_, rfl⟩, hW, hsame.mono h1 h2⟩
theorem Goes.retB (X : Stand p l e R s m args below meth c T locs cells slots) (hx : p.tables.exec = Jvm.exec) (hlk : meth.locks = false) {t : FieldType} (hret : meth.sig.returnType = some t) (ht : t = .boolean ∨ t = .byte ∨ t = .char ∨ t = .short) {pc : Nat} {Ls : Array Slot} {z : Int32} {rest : List Value} (hd : decode c.code pc = .ok (.ireturn, 1)) (hz : nar t z = z) (hQ : Q (some (.int z)) T.heap locs) (h1 : cells ≤ kc) (h2 : slots ≤ ks) : Goes p e below s Q kc ks (T.setTop (mkF m pc Ls (.int z :: rest))) := by
  obtain ⟨fs, hr, hrun, hended, hW, hsame⟩ := X.leave (v := some (.int z)) (fun h => by rw [hret] at h; cases h)
  exact ⟨_, _, retN X hx hret ht hd (by rw [hz]; exact hr), hrun, hended, _, _, rfl, hQ, ⟨_, rfl⟩, hW, hsame.mono h1 h2⟩
theorem Goes.retV (X : Stand p l e R s m args below meth c T locs cells slots) (hx : p.tables.exec = Jvm.exec) (hlk : meth.locks = false) (hret : meth.sig.returnType = none) {pc : Nat} {Ls : Array Slot} (hd : decode c.code pc = .ok (.return_, 1)) (hQ : Q none T.heap locs) (h1 : cells ≤ kc) (h2 : slots ≤ ks) : Goes p e below s Q kc ks (T.setTop (mkF m pc Ls [])) := by
  obtain ⟨fs, hr, hrun, hended, hW, hsame⟩ := X.leave (v := none) (fun _ => rfl)
  exact ⟨_, _, X.returnOut hx hret hd hr, hrun, hended, _, _, rfl, hQ, ⟨_, rfl⟩, hW, hsame.mono h1 h2⟩
end OwnGoes
theorem tltL {x y : Int64} (h : x < y) : ifCond.holds .lt (lcmpW x y) = true ∧ ifCond.holds .ge (lcmpW x y) = false ∧ ifCond.holds .gt (lcmpW y x) = true ∧ ifCond.holds .le (lcmpW y x) = false :=
  ⟨(if0 _ _).trans (tlt ((lw_lt x y).mpr h)).1, (if0 _ _).trans (tlt ((lw_lt x y).mpr h)).2.1, (if0 _ _).trans (tlt ((lw_gt y x).mpr h)).2.2.1, (if0 _ _).trans (tlt ((lw_gt y x).mpr h)).2.2.2⟩
theorem fltL {x y : Int64} (h : ¬ x < y) : ifCond.holds .lt (lcmpW x y) = false ∧ ifCond.holds .ge (lcmpW x y) = true ∧ ifCond.holds .gt (lcmpW y x) = false ∧ ifCond.holds .le (lcmpW y x) = true :=
  ⟨(if0 _ _).trans (flt fun q => h ((lw_lt x y).mp q)).1, (if0 _ _).trans (flt fun q => h ((lw_lt x y).mp q)).2.1, (if0 _ _).trans (flt fun q => h ((lw_gt y x).mp q)).2.2.1, (if0 _ _).trans (flt fun q => h ((lw_gt y x).mp q)).2.2.2⟩
theorem teqL {x y : Int64} (h : x = y) : ifCond.holds .eq (lcmpW x y) = true ∧ ifCond.holds .ne (lcmpW x y) = false :=
  ⟨(if0 _ _).trans (teq ((lw_eq x y).mpr h)).1, (if0 _ _).trans (teq ((lw_eq x y).mpr h)).2⟩
theorem feqL {x y : Int64} (h : ¬ x = y) : ifCond.holds .eq (lcmpW x y) = false ∧ ifCond.holds .ne (lcmpW x y) = true :=
  ⟨(if0 _ _).trans (feq fun q => h ((lw_eq x y).mp q)).1, (if0 _ _).trans (feq fun q => h ((lw_eq x y).mp q)).2⟩
def own_look {α : Type} (i : Nat) : List (Nat × α) → Option α
  | [] => none
  | (j, v) :: r => if i = j then some v else own_look i r
theorem own_look_mem {α : Type} {i : Nat} {v : α} : ∀ {L : List (Nat × α)}, own_look i L = some v → (i, v) ∈ L
  | [], h => by cases h
  | (j, w) :: r, h => by
    unfold own_look at h
    by_cases q : i = j
    · rw [if_pos q] at h; cases h; subst q; exact List.mem_cons_self
    · rw [if_neg q] at h; exact List.mem_cons_of_mem _ (own_look_mem h)
def own_pstep (ci : List (Nat × Int32)) (cl : List (Nat × Int64)) (i : Instr) (n : Nat) (g : JFrame) : Option JFrame :=
  match i with
  | .iload_n k => if n = 1 then (match g.locals[k.val]? with | some (.val (.int v)) => some { g with pc := g.pc + 1, stack := .int v :: g.stack } | _ => none) else none
  | .iload k => if n = 2 then (match g.locals[k]? with | some (.val (.int v)) => some { g with pc := g.pc + 2, stack := .int v :: g.stack } | _ => none) else none
  | .lload_n k => if n = 1 then (match g.locals[k.val]? with | some (.val (.long v)) => some { g with pc := g.pc + 1, stack := .long v :: g.stack } | _ => none) else none
  | .lload k => if n = 2 then (match g.locals[k]? with | some (.val (.long v)) => some { g with pc := g.pc + 2, stack := .long v :: g.stack } | _ => none) else none
  | .aload_n k => if n = 1 then (match g.locals[k.val]? with | some (.val v) => if v.isRef = true then some { g with pc := g.pc + 1, stack := v :: g.stack } else none | _ => none) else none
  | .aload k => if n = 2 then (match g.locals[k]? with | some (.val v) => if v.isRef = true then some { g with pc := g.pc + 2, stack := v :: g.stack } else none | _ => none) else none
  | .istore_n k => if n = 1 then (match g.stack with | .int x :: rest => (match storeLocals g.locals k.val (.int x) with | some l' => some { g with pc := g.pc + 1, stack := rest, locals := l' } | none => none) | _ => none) else none
  | .istore k => if n = 2 then (match g.stack with | .int x :: rest => (match storeLocals g.locals k (.int x) with | some l' => some { g with pc := g.pc + 2, stack := rest, locals := l' } | none => none) | _ => none) else none
  | .lstore_n k => if n = 1 then (match g.stack with | .long x :: rest => (match storeLocals g.locals k.val (.long x) with | some l' => some { g with pc := g.pc + 1, stack := rest, locals := l' } | none => none) | _ => none) else none
  | .lstore k => if n = 2 then (match g.stack with | .long x :: rest => (match storeLocals g.locals k (.long x) with | some l' => some { g with pc := g.pc + 2, stack := rest, locals := l' } | none => none) | _ => none) else none
  | .astore_n k => if n = 1 then (match g.stack with | x :: rest => (if x.isRef = true then (match storeLocals g.locals k.val x with | some l' => some { g with pc := g.pc + 1, stack := rest, locals := l' } | none => none) else none) | _ => none) else none
  | .astore k => if n = 2 then (match g.stack with | x :: rest => (if x.isRef = true then (match storeLocals g.locals k x with | some l' => some { g with pc := g.pc + 2, stack := rest, locals := l' } | none => none) else none) | _ => none) else none
  | .iconst i => if n = 1 then (some { g with pc := g.pc + 1, stack := .int (Int32.ofInt i) :: g.stack }) else none
  | .bipush i => if n = 2 then (some { g with pc := g.pc + 2, stack := .int (Int8.ofInt i).toInt32 :: g.stack }) else none
  | .sipush i => if n = 3 then (some { g with pc := g.pc + 3, stack := .int (Int16.ofInt i).toInt32 :: g.stack }) else none
  | .lconst k => if n = 1 then (some { g with pc := g.pc + 1, stack := .long (Int64.ofNat k) :: g.stack }) else none
  | .aconst_null => if n = 1 then (some { g with pc := g.pc + 1, stack := .null :: g.stack }) else none
  | .iadd => if n = 1 then (match g.stack with | .int y :: .int x :: rest => some { g with pc := g.pc + 1, stack := .int (x + y) :: rest } | _ => none) else none
  | .ladd => if n = 1 then (match g.stack with | .long y :: .long x :: rest => some { g with pc := g.pc + 1, stack := .long (x + y) :: rest } | _ => none) else none
  | .isub => if n = 1 then (match g.stack with | .int y :: .int x :: rest => some { g with pc := g.pc + 1, stack := .int (x - y) :: rest } | _ => none) else none
  | .lsub => if n = 1 then (match g.stack with | .long y :: .long x :: rest => some { g with pc := g.pc + 1, stack := .long (x - y) :: rest } | _ => none) else none
  | .imul => if n = 1 then (match g.stack with | .int y :: .int x :: rest => some { g with pc := g.pc + 1, stack := .int (x * y) :: rest } | _ => none) else none
  | .iand => if n = 1 then (match g.stack with | .int y :: .int x :: rest => some { g with pc := g.pc + 1, stack := .int (x &&& y) :: rest } | _ => none) else none
  | .land => if n = 1 then (match g.stack with | .long y :: .long x :: rest => some { g with pc := g.pc + 1, stack := .long (x &&& y) :: rest } | _ => none) else none
  | .ixor => if n = 1 then (match g.stack with | .int y :: .int x :: rest => some { g with pc := g.pc + 1, stack := .int (x ^^^ y) :: rest } | _ => none) else none
  | .iushr => if n = 1 then (match g.stack with | .int y :: .int x :: rest => some { g with pc := g.pc + 1, stack := .int ((x.toUInt32 >>> (y &&& 31).toUInt32).toInt32) :: rest } | _ => none) else none
  | .lcmp => if n = 1 then (match g.stack with | .long y :: .long x :: rest => some { g with pc := g.pc + 1, stack := .int (if x > y then 1 else if x = y then 0 else -1) :: rest } | _ => none) else none
  | .lneg => if n = 1 then (match g.stack with | .long v :: rest => some { g with pc := g.pc + 1, stack := .long (-v) :: rest } | _ => none) else none
  | .i2l => if n = 1 then (match g.stack with | .int v :: rest => some { g with pc := g.pc + 1, stack := .long (v.toInt64) :: rest } | _ => none) else none
  | .iinc k cst => if n = 3 then (match g.locals[k]? with | some (.val (.int x)) => (match storeLocals g.locals k (.int (x + Int32.ofInt cst)) with | some l' => some { g with pc := g.pc + 3, locals := l' } | none => none) | _ => none) else none
  | .dup => if n = 1 then (match g.stack with | x :: rest => (if x.category = 1 then some { g with pc := g.pc + 1, stack := x :: x :: rest } else none) | _ => none) else none
  | .pop => if n = 1 then (match g.stack with | x :: rest => (if x.category = 1 then some { g with pc := g.pc + 1, stack := rest } else none) | _ => none) else none
  | .goto o => if n = 3 then (if 0 ≤ (g.pc : Int) + o then some { g with pc := ((g.pc : Int) + o).toNat } else none) else none
  | .ldc i => if n = 2 then (match own_look i ci with | some v => some { g with pc := g.pc + 2, stack := .int v :: g.stack } | none => none) else none
  | .ldc2_w i => if n = 3 then (match own_look i cl with | some v => some { g with pc := g.pc + 3, stack := .long v :: g.stack } | none => none) else none
  | .idiv => if n = 1 then (match g.stack with | .int y :: .int x :: rest => (if y = 0 then none else some { g with pc := g.pc + 1, stack := .int (x / y) :: rest }) | _ => none) else none
  | .lrem => if n = 1 then (match g.stack with | .long y :: .long x :: rest => (if y = 0 then none else some { g with pc := g.pc + 1, stack := .long (x - (x / y) * y) :: rest }) | _ => none) else none
  | _ => none
section OwnRun
variable {p : Program} {l : Launch} {e : Env} {R : Room} {s : State} {m : MethodId} {args : Array Value} {below : List Frame} {meth : Method} {c : Code} {T target : State} {locs : List Loc} {cells slots kc ks : Nat} {own : String} {ci : List (Nat × Int32)} {cl : List (Nat × Int64)} {Q : Option Value → Heap → List Loc → Prop}
set_option maxHeartbeats 4000000 in
theorem own_pstep_ok (X : Stand p l e R s m args below meth c T locs cells slots) (hx : p.tables.exec = Jvm.exec) (hown : s.vm.findClass own = some m.cls) (hci : ∀ i v, (i, v) ∈ ci → (Cond.constant own i v).before args s = true) (hcl : ∀ i v, (i, v) ∈ cl → (Cond.constantLong own i v).before args s = true)
    {g g' : JFrame} (hg : g.method = m) {i : Instr} {n : Nat} (hd : decode c.code g.pc = .ok (i, n)) (hp : own_pstep ci cl i n g = some g') : (∀ target, Steps p.tables e below (T.setTop g') target → Steps p.tables e below (T.setTop g) target) ∧ g'.method = m := by
  cases i
  all_goals first
    | (exact absurd hp (by intro q; cases q))
    | skip
  case iload_n k =>
    by_cases hn : n = 1
    · subst hn
      replace hp : (match g.locals[k.val]? with | some (.val (.int v)) => some { g with pc := g.pc + 1, stack := .int v :: g.stack } | _ => none) = some g' := hp
      split at hp
      · skip
        cases hp
        exact ⟨fun _ hr => XS.iloadN X.here hx hg hd (by assumption) hr, hg⟩
      · cases hp
    · exact absurd hp (by intro q; rw [show own_pstep ci cl (.iload_n k) n g = none from if_neg hn] at q; cases q)
  case iload k =>
    by_cases hn : n = 2
    · subst hn
      replace hp : (match g.locals[k]? with | some (.val (.int v)) => some { g with pc := g.pc + 2, stack := .int v :: g.stack } | _ => none) = some g' := hp
      split at hp
      · skip
        cases hp
        exact ⟨fun _ hr => XS.iload X.here hx hg hd (by assumption) hr, hg⟩
      · cases hp
    · exact absurd hp (by intro q; rw [show own_pstep ci cl (.iload k) n g = none from if_neg hn] at q; cases q)
  case lload_n k =>
    by_cases hn : n = 1
    · subst hn
      replace hp : (match g.locals[k.val]? with | some (.val (.long v)) => some { g with pc := g.pc + 1, stack := .long v :: g.stack } | _ => none) = some g' := hp
      split at hp
      · skip
        cases hp
        exact ⟨fun _ hr => XS.lloadN X.here hx hg hd (by assumption) hr, hg⟩
      · cases hp
    · exact absurd hp (by intro q; rw [show own_pstep ci cl (.lload_n k) n g = none from if_neg hn] at q; cases q)
  case lload k =>
    by_cases hn : n = 2
    · subst hn
      replace hp : (match g.locals[k]? with | some (.val (.long v)) => some { g with pc := g.pc + 2, stack := .long v :: g.stack } | _ => none) = some g' := hp
      split at hp
      · skip
        cases hp
        exact ⟨fun _ hr => XS.lload X.here hx hg hd (by assumption) hr, hg⟩
      · cases hp
    · exact absurd hp (by intro q; rw [show own_pstep ci cl (.lload k) n g = none from if_neg hn] at q; cases q)
  case aload_n k =>
    by_cases hn : n = 1
    · subst hn
      replace hp : (match g.locals[k.val]? with | some (.val v) => if v.isRef = true then some { g with pc := g.pc + 1, stack := v :: g.stack } else none | _ => none) = some g' := hp
      split at hp
      · skip
        split at hp
        · skip
          cases hp
          exact ⟨fun _ hr => XS.aloadN X.here hx hg hd (by assumption) (by assumption) hr, hg⟩
        · cases hp
      · cases hp
    · exact absurd hp (by intro q; rw [show own_pstep ci cl (.aload_n k) n g = none from if_neg hn] at q; cases q)
  case aload k =>
    by_cases hn : n = 2
    · subst hn
      replace hp : (match g.locals[k]? with | some (.val v) => if v.isRef = true then some { g with pc := g.pc + 2, stack := v :: g.stack } else none | _ => none) = some g' := hp
      split at hp
      · skip
        split at hp
        · skip
          cases hp
          exact ⟨fun _ hr => XS.aload X.here hx hg hd (by assumption) (by assumption) hr, hg⟩
        · cases hp
      · cases hp
    · exact absurd hp (by intro q; rw [show own_pstep ci cl (.aload k) n g = none from if_neg hn] at q; cases q)
  case istore_n k =>
    by_cases hn : n = 1
    · subst hn
      replace hp : (match g.stack with | .int x :: rest => (match storeLocals g.locals k.val (.int x) with | some l' => some { g with pc := g.pc + 1, stack := rest, locals := l' } | none => none) | _ => none) = some g' := hp
      split at hp
      · skip
        split at hp
        · skip
          cases hp
          exact ⟨fun _ hr => XS.istoreN X.here hx hg hd (by assumption) (by assumption) hr, hg⟩
        · cases hp
      · cases hp
    · exact absurd hp (by intro q; rw [show own_pstep ci cl (.istore_n k) n g = none from if_neg hn] at q; cases q)
  case istore k =>
    by_cases hn : n = 2
    · subst hn
      replace hp : (match g.stack with | .int x :: rest => (match storeLocals g.locals k (.int x) with | some l' => some { g with pc := g.pc + 2, stack := rest, locals := l' } | none => none) | _ => none) = some g' := hp
      split at hp
      · skip
        split at hp
        · skip
          cases hp
          exact ⟨fun _ hr => XS.istore X.here hx hg hd (by assumption) (by assumption) hr, hg⟩
        · cases hp
      · cases hp
    · exact absurd hp (by intro q; rw [show own_pstep ci cl (.istore k) n g = none from if_neg hn] at q; cases q)
  case lstore_n k =>
    by_cases hn : n = 1
    · subst hn
      replace hp : (match g.stack with | .long x :: rest => (match storeLocals g.locals k.val (.long x) with | some l' => some { g with pc := g.pc + 1, stack := rest, locals := l' } | none => none) | _ => none) = some g' := hp
      split at hp
      · skip
        split at hp
        · skip
          cases hp
          exact ⟨fun _ hr => XS.lstoreN X.here hx hg hd (by assumption) (by assumption) hr, hg⟩
        · cases hp
      · cases hp
    · exact absurd hp (by intro q; rw [show own_pstep ci cl (.lstore_n k) n g = none from if_neg hn] at q; cases q)
  case lstore k =>
    by_cases hn : n = 2
    · subst hn
      replace hp : (match g.stack with | .long x :: rest => (match storeLocals g.locals k (.long x) with | some l' => some { g with pc := g.pc + 2, stack := rest, locals := l' } | none => none) | _ => none) = some g' := hp
      split at hp
      · skip
        split at hp
        · skip
          cases hp
          exact ⟨fun _ hr => XS.lstore X.here hx hg hd (by assumption) (by assumption) hr, hg⟩
        · cases hp
      · cases hp
    · exact absurd hp (by intro q; rw [show own_pstep ci cl (.lstore k) n g = none from if_neg hn] at q; cases q)
  case astore_n k =>
    by_cases hn : n = 1
    · subst hn
      replace hp : (match g.stack with | x :: rest => (if x.isRef = true then (match storeLocals g.locals k.val x with | some l' => some { g with pc := g.pc + 1, stack := rest, locals := l' } | none => none) else none) | _ => none) = some g' := hp
      split at hp
      · skip
        split at hp
        · skip
          split at hp
          · skip
            cases hp
            exact ⟨fun _ hr => XS.astoreN X.here hx hg hd (by assumption) (by assumption) (by assumption) hr, hg⟩
          · cases hp
        · cases hp
      · cases hp
    · exact absurd hp (by intro q; rw [show own_pstep ci cl (.astore_n k) n g = none from if_neg hn] at q; cases q)
  case astore k =>
    by_cases hn : n = 2
    · subst hn
      replace hp : (match g.stack with | x :: rest => (if x.isRef = true then (match storeLocals g.locals k x with | some l' => some { g with pc := g.pc + 2, stack := rest, locals := l' } | none => none) else none) | _ => none) = some g' := hp
      split at hp
      · skip
        split at hp
        · skip
          split at hp
          · skip
            cases hp
            exact ⟨fun _ hr => XS.astore X.here hx hg hd (by assumption) (by assumption) (by assumption) hr, hg⟩
          · cases hp
        · cases hp
      · cases hp
    · exact absurd hp (by intro q; rw [show own_pstep ci cl (.astore k) n g = none from if_neg hn] at q; cases q)
  case iconst i =>
    by_cases hn : n = 1
    · subst hn
      replace hp : (some { g with pc := g.pc + 1, stack := .int (Int32.ofInt i) :: g.stack }) = some g' := hp
      cases hp
      exact ⟨fun _ hr => XS.iconst X.here hx hg hd hr, hg⟩
    · exact absurd hp (by intro q; rw [show own_pstep ci cl (.iconst i) n g = none from if_neg hn] at q; cases q)
  case bipush i =>
    by_cases hn : n = 2
    · subst hn
      replace hp : (some { g with pc := g.pc + 2, stack := .int (Int8.ofInt i).toInt32 :: g.stack }) = some g' := hp
      cases hp
      exact ⟨fun _ hr => XS.bipush X.here hx hg hd hr, hg⟩
    · exact absurd hp (by intro q; rw [show own_pstep ci cl (.bipush i) n g = none from if_neg hn] at q; cases q)
  case sipush i =>
    by_cases hn : n = 3
    · subst hn
      replace hp : (some { g with pc := g.pc + 3, stack := .int (Int16.ofInt i).toInt32 :: g.stack }) = some g' := hp
      cases hp
      exact ⟨fun _ hr => XS.sipush X.here hx hg hd hr, hg⟩
    · exact absurd hp (by intro q; rw [show own_pstep ci cl (.sipush i) n g = none from if_neg hn] at q; cases q)
  case lconst k =>
    by_cases hn : n = 1
    · subst hn
      replace hp : (some { g with pc := g.pc + 1, stack := .long (Int64.ofNat k) :: g.stack }) = some g' := hp
      cases hp
      exact ⟨fun _ hr => XS.lconst X.here hx hg hd hr, hg⟩
    · exact absurd hp (by intro q; rw [show own_pstep ci cl (.lconst k) n g = none from if_neg hn] at q; cases q)
  case aconst_null =>
    by_cases hn : n = 1
    · subst hn
      replace hp : (some { g with pc := g.pc + 1, stack := .null :: g.stack }) = some g' := hp
      cases hp
      exact ⟨fun _ hr => XS.aconstNull X.here hx hg hd hr, hg⟩
    · exact absurd hp (by intro q; rw [show own_pstep ci cl (.aconst_null) n g = none from if_neg hn] at q; cases q)
  case iadd =>
    by_cases hn : n = 1
    · subst hn
      replace hp : (match g.stack with | .int y :: .int x :: rest => some { g with pc := g.pc + 1, stack := .int (x + y) :: rest } | _ => none) = some g' := hp
      split at hp
      · skip
        cases hp
        exact ⟨fun _ hr => XS.iadd X.here hx hg hd (by assumption) hr, hg⟩
      · cases hp
    · exact absurd hp (by intro q; rw [show own_pstep ci cl (.iadd) n g = none from if_neg hn] at q; cases q)
  case ladd =>
    by_cases hn : n = 1
    · subst hn
      replace hp : (match g.stack with | .long y :: .long x :: rest => some { g with pc := g.pc + 1, stack := .long (x + y) :: rest } | _ => none) = some g' := hp
      split at hp
      · skip
        cases hp
        exact ⟨fun _ hr => XS.ladd X.here hx hg hd (by assumption) hr, hg⟩
      · cases hp
    · exact absurd hp (by intro q; rw [show own_pstep ci cl (.ladd) n g = none from if_neg hn] at q; cases q)
  case isub =>
    by_cases hn : n = 1
    · subst hn
      replace hp : (match g.stack with | .int y :: .int x :: rest => some { g with pc := g.pc + 1, stack := .int (x - y) :: rest } | _ => none) = some g' := hp
      split at hp
      · skip
        cases hp
        exact ⟨fun _ hr => XS.isub X.here hx hg hd (by assumption) hr, hg⟩
      · cases hp
    · exact absurd hp (by intro q; rw [show own_pstep ci cl (.isub) n g = none from if_neg hn] at q; cases q)
  case lsub =>
    by_cases hn : n = 1
    · subst hn
      replace hp : (match g.stack with | .long y :: .long x :: rest => some { g with pc := g.pc + 1, stack := .long (x - y) :: rest } | _ => none) = some g' := hp
      split at hp
      · skip
        cases hp
        exact ⟨fun _ hr => XS.lsub X.here hx hg hd (by assumption) hr, hg⟩
      · cases hp
    · exact absurd hp (by intro q; rw [show own_pstep ci cl (.lsub) n g = none from if_neg hn] at q; cases q)
  case imul =>
    by_cases hn : n = 1
    · subst hn
      replace hp : (match g.stack with | .int y :: .int x :: rest => some { g with pc := g.pc + 1, stack := .int (x * y) :: rest } | _ => none) = some g' := hp
      split at hp
      · skip
        cases hp
        exact ⟨fun _ hr => XS.imul X.here hx hg hd (by assumption) hr, hg⟩
      · cases hp
    · exact absurd hp (by intro q; rw [show own_pstep ci cl (.imul) n g = none from if_neg hn] at q; cases q)
  case iand =>
    by_cases hn : n = 1
    · subst hn
      replace hp : (match g.stack with | .int y :: .int x :: rest => some { g with pc := g.pc + 1, stack := .int (x &&& y) :: rest } | _ => none) = some g' := hp
      split at hp
      · skip
        cases hp
        exact ⟨fun _ hr => XS.iand X.here hx hg hd (by assumption) hr, hg⟩
      · cases hp
    · exact absurd hp (by intro q; rw [show own_pstep ci cl (.iand) n g = none from if_neg hn] at q; cases q)
  case land =>
    by_cases hn : n = 1
    · subst hn
      replace hp : (match g.stack with | .long y :: .long x :: rest => some { g with pc := g.pc + 1, stack := .long (x &&& y) :: rest } | _ => none) = some g' := hp
      split at hp
      · skip
        cases hp
        exact ⟨fun _ hr => XS.land X.here hx hg hd (by assumption) hr, hg⟩
      · cases hp
    · exact absurd hp (by intro q; rw [show own_pstep ci cl (.land) n g = none from if_neg hn] at q; cases q)
  case ixor =>
    by_cases hn : n = 1
    · subst hn
      replace hp : (match g.stack with | .int y :: .int x :: rest => some { g with pc := g.pc + 1, stack := .int (x ^^^ y) :: rest } | _ => none) = some g' := hp
      split at hp
      · skip
        cases hp
        exact ⟨fun _ hr => XS.ixor X.here hx hg hd (by assumption) hr, hg⟩
      · cases hp
    · exact absurd hp (by intro q; rw [show own_pstep ci cl (.ixor) n g = none from if_neg hn] at q; cases q)
  case iushr =>
    by_cases hn : n = 1
    · subst hn
      replace hp : (match g.stack with | .int y :: .int x :: rest => some { g with pc := g.pc + 1, stack := .int ((x.toUInt32 >>> (y &&& 31).toUInt32).toInt32) :: rest } | _ => none) = some g' := hp
      split at hp
      · skip
        cases hp
        exact ⟨fun _ hr => XS.iushr X.here hx hg hd (by assumption) hr, hg⟩
      · cases hp
    · exact absurd hp (by intro q; rw [show own_pstep ci cl (.iushr) n g = none from if_neg hn] at q; cases q)
  case lcmp =>
    by_cases hn : n = 1
    · subst hn
      replace hp : (match g.stack with | .long y :: .long x :: rest => some { g with pc := g.pc + 1, stack := .int (if x > y then 1 else if x = y then 0 else -1) :: rest } | _ => none) = some g' := hp
      split at hp
      · skip
        cases hp
        exact ⟨fun _ hr => XS.lcmp X.here hx hg hd (by assumption) hr, hg⟩
      · cases hp
    · exact absurd hp (by intro q; rw [show own_pstep ci cl (.lcmp) n g = none from if_neg hn] at q; cases q)
  case lneg =>
    by_cases hn : n = 1
    · subst hn
      replace hp : (match g.stack with | .long v :: rest => some { g with pc := g.pc + 1, stack := .long (-v) :: rest } | _ => none) = some g' := hp
      split at hp
      · skip
        cases hp
        exact ⟨fun _ hr => XS.lneg X.here hx hg hd (by assumption) hr, hg⟩
      · cases hp
    · exact absurd hp (by intro q; rw [show own_pstep ci cl (.lneg) n g = none from if_neg hn] at q; cases q)
  case i2l =>
    by_cases hn : n = 1
    · subst hn
      replace hp : (match g.stack with | .int v :: rest => some { g with pc := g.pc + 1, stack := .long (v.toInt64) :: rest } | _ => none) = some g' := hp
      split at hp
      · skip
        cases hp
        exact ⟨fun _ hr => XS.i2l X.here hx hg hd (by assumption) hr, hg⟩
      · cases hp
    · exact absurd hp (by intro q; rw [show own_pstep ci cl (.i2l) n g = none from if_neg hn] at q; cases q)
  case iinc k cst =>
    by_cases hn : n = 3
    · subst hn
      replace hp : (match g.locals[k]? with | some (.val (.int x)) => (match storeLocals g.locals k (.int (x + Int32.ofInt cst)) with | some l' => some { g with pc := g.pc + 3, locals := l' } | none => none) | _ => none) = some g' := hp
      split at hp
      · skip
        split at hp
        · skip
          cases hp
          exact ⟨fun _ hr => XS.iinc X.here hx hg hd (by assumption) (by assumption) hr, hg⟩
        · cases hp
      · cases hp
    · exact absurd hp (by intro q; rw [show own_pstep ci cl (.iinc k cst) n g = none from if_neg hn] at q; cases q)
  case dup =>
    by_cases hn : n = 1
    · subst hn
      replace hp : (match g.stack with | x :: rest => (if x.category = 1 then some { g with pc := g.pc + 1, stack := x :: x :: rest } else none) | _ => none) = some g' := hp
      split at hp
      · skip
        split at hp
        · skip
          cases hp
          exact ⟨fun _ hr => XS.dup X.here hx hg hd (by assumption) (by assumption) hr, hg⟩
        · cases hp
      · cases hp
    · exact absurd hp (by intro q; rw [show own_pstep ci cl (.dup) n g = none from if_neg hn] at q; cases q)
  case pop =>
    by_cases hn : n = 1
    · subst hn
      replace hp : (match g.stack with | x :: rest => (if x.category = 1 then some { g with pc := g.pc + 1, stack := rest } else none) | _ => none) = some g' := hp
      split at hp
      · skip
        split at hp
        · skip
          cases hp
          exact ⟨fun _ hr => XS.pop X.here hx hg hd (by assumption) (by assumption) hr, hg⟩
        · cases hp
      · cases hp
    · exact absurd hp (by intro q; rw [show own_pstep ci cl (.pop) n g = none from if_neg hn] at q; cases q)
  case goto o =>
    by_cases hn : n = 3
    · subst hn
      replace hp : (if 0 ≤ (g.pc : Int) + o then some { g with pc := ((g.pc : Int) + o).toNat } else none) = some g' := hp
      split at hp
      · skip
        cases hp
        exact ⟨fun _ hr => XS.goto X.here hx hg rfl hd (by assumption) rfl hr, hg⟩
      · cases hp
    · exact absurd hp (by intro q; rw [show own_pstep ci cl (.goto o) n g = none from if_neg hn] at q; cases q)
  case ldc i =>
    by_cases hn : n = 2
    · subst hn
      replace hp : (match own_look i ci with | some v => some { g with pc := g.pc + 2, stack := .int v :: g.stack } | none => none) = some g' := hp
      split at hp
      · skip
        cases hp
        exact ⟨fun _ hr => X.ldcInt hx hown (hci _ _ (own_look_mem (by assumption))) hg hd _ hr, hg⟩
      · cases hp
    · exact absurd hp (by intro q; rw [show own_pstep ci cl (.ldc i) n g = none from if_neg hn] at q; cases q)
  case ldc2_w i =>
    by_cases hn : n = 3
    · subst hn
      replace hp : (match own_look i cl with | some v => some { g with pc := g.pc + 3, stack := .long v :: g.stack } | none => none) = some g' := hp
      split at hp
      · skip
        cases hp
        exact ⟨fun _ hr => X.ldc2Long hx hown (hcl _ _ (own_look_mem (by assumption))) hg hd _ hr, hg⟩
      · cases hp
    · exact absurd hp (by intro q; rw [show own_pstep ci cl (.ldc2_w i) n g = none from if_neg hn] at q; cases q)
  case idiv =>
    by_cases hn : n = 1
    · subst hn
      replace hp : (match g.stack with | .int y :: .int x :: rest => (if y = 0 then none else some { g with pc := g.pc + 1, stack := .int (x / y) :: rest }) | _ => none) = some g' := hp
      split at hp
      · skip
        split at hp
        · cases hp
        · cases hp; exact ⟨fun _ hr => XS.idiv X.here hx hg hd (by assumption) (by assumption) hr, hg⟩
      · cases hp
    · exact absurd hp (by intro q; rw [show own_pstep ci cl (.idiv) n g = none from if_neg hn] at q; cases q)
  case lrem =>
    by_cases hn : n = 1
    · subst hn
      replace hp : (match g.stack with | .long y :: .long x :: rest => (if y = 0 then none else some { g with pc := g.pc + 1, stack := .long (x - (x / y) * y) :: rest }) | _ => none) = some g' := hp
      split at hp
      · skip
        split at hp
        · cases hp
        · cases hp; exact ⟨fun _ hr => XS.lrem X.here hx hg hd (by assumption) (by assumption) hr, hg⟩
      · cases hp
    · exact absurd hp (by intro q; rw [show own_pstep ci cl (.lrem) n g = none from if_neg hn] at q; cases q)
def own_decs (code : ByteArray) (L : List (Nat × Instr × Nat)) : Bool := L.all fun q => decide (decode code q.1 = .ok (q.2.1, q.2.2))
def own_prun (ci : List (Nat × Int32)) (cl : List (Nat × Int64)) : List (Nat × Instr × Nat) → JFrame → Option JFrame
  | [], g => some g
  | (pc, i, n) :: r, g => if g.pc = pc then (match own_pstep ci cl i n g with | some g' => own_prun ci cl r g' | none => none) else none
theorem own_prun_ok (X : Stand p l e R s m args below meth c T locs cells slots) (hx : p.tables.exec = Jvm.exec) (hown : s.vm.findClass own = some m.cls) (hci : ∀ i v, (i, v) ∈ ci → (Cond.constant own i v).before args s = true) (hcl : ∀ i v, (i, v) ∈ cl → (Cond.constantLong own i v).before args s = true) {code : ByteArray} (hby : c.code = code) :
    ∀ (L : List (Nat × Instr × Nat)) (g g' : JFrame), g.method = m → own_decs code L = true → own_prun ci cl L g = some g' → Steps p.tables e below (T.setTop g') target → Steps p.tables e below (T.setTop g) target := by
  intro L
  induction L with
  | nil => intro g g' _ _ hp hr; cases hp; exact hr
  | cons q r ih =>
    intro g g' hg hd hp hr
    obtain ⟨pc, i, n⟩ := q
    have hd' : decide (decode code pc = .ok (i, n)) = true ∧ own_decs code r = true := by
      have : (decide (decode code pc = .ok (i, n)) && own_decs code r) = true := hd
      simpa using this
    replace hp : (if g.pc = pc then (match own_pstep ci cl i n g with | some g' => own_prun ci cl r g' | none => none) else none) = some g' := hp
    by_cases hpc : g.pc = pc
    · rw [if_pos hpc] at hp
      cases hs : own_pstep ci cl i n g with
      | none => rw [hs] at hp; cases hp
      | some g1 =>
        rw [hs] at hp
        have q := own_pstep_ok X hx hown hci hcl hg (i := i) (n := n) (by rw [hby, hpc]; exact of_decide_eq_true hd'.1) hs
        exact q.1 _ (ih g1 g' q.2 hd'.2 hp hr)
    · rw [if_neg hpc] at hp; cases hp
theorem Goes.run (X : Stand p l e R s m args below meth c T locs cells slots) (hx : p.tables.exec = Jvm.exec) (hown : s.vm.findClass own = some m.cls) (hci : ∀ i v, (i, v) ∈ ci → (Cond.constant own i v).before args s = true) (hcl : ∀ i v, (i, v) ∈ cl → (Cond.constantLong own i v).before args s = true) {code : ByteArray} (hby : c.code = code)
    {L : List (Nat × Instr × Nat)} (hd : own_decs code L = true) {g g' : JFrame} (hg : g.method = m) (hp : own_prun ci cl L g = some g') (h : Goes p e below s Q kc ks (T.setTop g')) : Goes p e below s Q kc ks (T.setTop g) :=
  Goes.st (fun _ k => own_prun_ok X hx hown hci hcl hby L g g' hg hd hp k) h
theorem own_ci0 {α : Type} {P : Nat → α → Prop} : ∀ i v, (i, v) ∈ ([] : List (Nat × α)) → P i v := fun _ _ q => nomatch q
theorem own_ciS {α : Type} {P : Nat → α → Prop} {j : Nat} {w : α} {L : List (Nat × α)} (h : P j w) (r : ∀ i v, (i, v) ∈ L → P i v) : ∀ i v, (i, v) ∈ (j, w) :: L → P i v := fun i v q => (List.mem_cons.mp q).elim (fun z => by cases z; exact h) (r i v)
end OwnRun
theorem own_rem32 (x y : Int32) : (x - (x / y) * y).toInt = x.toInt.tmod y.toInt := by
  have a := (x % y).toInt_lt; have b := (x % y).le_toInt
  rw [Int32.toInt_mod] at a b
  rw [Int32.toInt_sub, Int32.toInt_mul, Int32.toInt_div, Int.bmod_mul_bmod, Int.sub_bmod_bmod, Int.mul_comm, ← Int.tmod_def]
  exact Jvm.Kit.bmod32 b a
section OwnNums
variable {x y : Int64} {u v : Int32} {a b : Int}
theorem own_r32 (hx : u.toInt = a) (hy : v.toInt = b) (h0 : 0 ≤ a) : (u - (u / v) * v).toInt = a % b := by subst hx hy; rw [own_rem32, Int.tmod_eq_emod_of_nonneg h0]
theorem own_r64 (hx : x.toInt = a) (hy : y.toInt = b) (h0 : 0 ≤ a) : (x - (x / y) * y).toInt = a % b := by subst hx hy; rw [Jvm.Kit.i64_rem, Int.tmod_eq_emod_of_nonneg h0]
theorem own_mul64 (hx : x.toInt = a) (hy : y.toInt = b) (h1 : -2 ^ 63 ≤ a * b) (h2 : a * b < 2 ^ 63) : (x * y).toInt = a * b := by subst hx hy; exact Jvm.Kit.i64_mul h1 h2
theorem own_mul32 (hx : u.toInt = a) (hy : v.toInt = b) (h1 : -2 ^ 31 ≤ a * b) (h2 : a * b < 2 ^ 31) : (u * v).toInt = a * b := by subst hx hy; exact Jvm.Kit.i32_mul h1 h2
theorem own_add64 (hx : x.toInt = a) (hy : y.toInt = b) (h1 : -2 ^ 63 ≤ a + b) (h2 : a + b < 2 ^ 63) : (x + y).toInt = a + b := by subst hx hy; exact Jvm.Kit.i64_add h1 h2
theorem own_add32 (hx : u.toInt = a) (hy : v.toInt = b) (h1 : -2 ^ 31 ≤ a + b) (h2 : a + b < 2 ^ 31) : (u + v).toInt = a + b := by subst hx hy; exact Jvm.Kit.i32_add h1 h2
theorem own_sub64 (hx : x.toInt = a) (hy : y.toInt = b) (h1 : -2 ^ 63 ≤ a - b) (h2 : a - b < 2 ^ 63) : (x - y).toInt = a - b := by subst hx hy; exact Jvm.Kit.i64_sub h1 h2
theorem own_sub32 (hx : u.toInt = a) (hy : v.toInt = b) (h1 : -2 ^ 31 ≤ a - b) (h2 : a - b < 2 ^ 31) : (u - v).toInt = a - b := by subst hx hy; exact Jvm.Kit.i32_sub h1 h2
theorem own_i2l (hx : u.toInt = a) : u.toInt64.toInt = a := by subst hx; exact Jvm.Kit.i64_of_i32 u
theorem own_lt64 (hx : x.toInt = a) (hy : y.toInt = b) : x < y ↔ a < b := by rw [Int64.lt_iff_toInt_lt, hx, hy]
theorem own_lt32 (hx : u.toInt = a) (hy : v.toInt = b) : u < v ↔ a < b := by rw [Int32.lt_iff_toInt_lt, hx, hy]
theorem own_eq64 (hx : x.toInt = a) (hy : y.toInt = b) : x = y ↔ a = b := by rw [← Int64.toInt_inj, hx, hy]
theorem own_eq32 (hx : u.toInt = a) (hy : v.toInt = b) : u = v ↔ a = b := by rw [← Int32.toInt_inj, hx, hy]
theorem own_m32 (u : Int32) (m : Int32) {k : Nat} (hk : k < 32) (hm : m.toBitVec.toNat = 2 ^ k - 1) : ∃ a : Int, (u &&& m).toInt = a ∧ 0 ≤ a ∧ a < 2 ^ k ∧ a = u.toInt % 2 ^ k := by
  refine ⟨_, Jvm.Kit.i32_mask u m hk hm, Int.emod_nonneg _ (Int.ne_of_gt (Int.pow_pos (by decide))), Int.emod_lt_of_pos _ (Int.pow_pos (by decide)), rfl⟩
theorem own_m64 (x : Int64) (m : Int64) {k : Nat} (hk : k < 64) (hm : m.toBitVec.toNat = 2 ^ k - 1) : ∃ a : Int, (x &&& m).toInt = a ∧ 0 ≤ a ∧ a < 2 ^ k ∧ a = x.toInt % 2 ^ k := by
  refine ⟨_, Jvm.Kit.i64_mask x m hk hm, Int.emod_nonneg _ (Int.ne_of_gt (Int.pow_pos (by decide))), Int.emod_lt_of_pos _ (Int.pow_pos (by decide)), rfl⟩
theorem own_nm {P : Int → Prop} {z : Int} (h : P z) : ∃ a, a = z ∧ P a := ⟨z, rfl, h⟩
end OwnNums
theorem own_nat32 {u : Int32} {a : Int} (hu : u.toInt = a) (h0 : 0 ≤ a) {N : Nat} (h1 : a < N) : ∃ n : Nat, n < N ∧ u = Int32.ofNat n ∧ a = (n : Int) := by
  have q := u.toInt_lt
  refine ⟨a.toNat, by omega, ?_, by omega⟩
  apply Int32.toInt_inj.mp
  rw [Int32.toInt_ofNat_of_lt (by omega), hu]; omega
theorem own_bv64 {x : Int64} {a : Int} (hx : x.toInt = a) (h0 : 0 ≤ a) : (x.toBitVec.toNat : Int) = a := by
  have e : x.toInt = x.toBitVec.toInt := rfl
  have hb := x.toBitVec.isLt
  rw [e, BitVec.toInt_eq_toNat_cond] at hx
  split at hx <;> omega
theorem own_bv32 {x : Int32} {a : Int} (hx : x.toInt = a) (h0 : 0 ≤ a) : (x.toBitVec.toNat : Int) = a := by
  have e : x.toInt = x.toBitVec.toInt := rfl
  have hb := x.toBitVec.isLt
  rw [e, BitVec.toInt_eq_toNat_cond] at hx
  split at hx <;> omega
theorem own_shn (y : Int32) : ((y &&& 0x3f).toInt64.toUInt64).toNat < 64 := by
  obtain ⟨a, h1, h2, h3, -⟩ := own_m32 y (0x3f : Int32) (k := 6) (by decide) (by decide)
  have h4 := own_bv64 (own_i2l h1) h2
  have e : ((y &&& 0x3f).toInt64.toUInt64).toNat = (y &&& 0x3f).toInt64.toBitVec.toNat := rfl
  rw [e]
  omega
theorem own_ushr0 {x : Int64} {a : Int} (hx : x.toInt = a) (h0 : 0 ≤ a) (y : Int32) : ∃ b : Int, ((x.toUInt64 >>> (y &&& 0x3f).toInt64.toUInt64).toInt64).toInt = b ∧ 0 ≤ b ∧ b ≤ a := by
  refine ⟨_, Jvm.Kit.i64_lushr (by rw [Jvm.Kit.i64_nonneg, hx]; exact h0) rfl (own_shn y), ?_, ?_⟩
  · rw [hx]; exact Int.ediv_nonneg h0 (Int.le_of_lt (Int.pow_pos (by decide)))
  · rw [hx]; exact Int.ediv_le_self _ h0
theorem own_ushrk {x : Int64} {a : Int} (hx : x.toInt = a) (h0 : 0 ≤ a) {n : UInt64} {k : Nat} (hn : n.toNat = k) (hk : k < 64) {d : Int} (hd : (2 : Int) ^ k = d) : ((x.toUInt64 >>> n).toInt64).toInt = a / d := by
  rw [Jvm.Kit.i64_lushr (by rw [Jvm.Kit.i64_nonneg, hx]; exact h0) hn hk, hx, hd]
theorem own_ofbv32 {x : Int32} (h : x.toBitVec.toNat < 2 ^ 31) : x.toInt = (x.toBitVec.toNat : Int) := by
  have e : x.toInt = x.toBitVec.toInt := rfl
  rw [e, BitVec.toInt_eq_toNat_cond, if_pos (by omega)]
theorem own_xor32 {x y : Int32} {a b : Int} (hx : x.toInt = a) (hy : y.toInt = b) (h0 : 0 ≤ a) (h1 : 0 ≤ b) : ∃ c : Int, (x ^^^ y).toInt = c ∧ 0 ≤ c := by
  have p := own_bv32 hx h0; have q := own_bv32 hy h1
  have r := x.toInt_lt; have s := y.toInt_lt
  have e : (x ^^^ y).toBitVec.toNat = x.toBitVec.toNat ^^^ y.toBitVec.toNat := by simp [Int32.toBitVec_xor, BitVec.toNat_xor]
  have l : (x ^^^ y).toBitVec.toNat < 2 ^ 31 := by rw [e]; exact Nat.xor_lt_two_pow (by omega) (by omega)
  exact ⟨_, own_ofbv32 l, Int.natCast_nonneg _⟩
abbrev RF : Type := Sum (Addr × String × String × String × Value) (Addr × ClassId × FieldType × Int32 × List Value × Value)
abbrev RF.fld (o : Addr) (C f d : String) (v : Value) : RF := Sum.inl (o, C, f, d, v)
abbrev RF.arr (a : Addr) (k : ClassId) (ty : FieldType) (n : Int32) (vs : List Value) (dv : Value) : RF := Sum.inr (a, k, ty, n, vs, dv)
def RF.ok (Z : State) (h : Heap) : RF → Prop
  | .inl (o, C, f, d, v) => Fld Z h o C f d v
  | .inr (a, k, ty, n, vs, dv) => Arv Z h a k ty n vs dv
def own_all (Z : State) (h : Heap) : List RF → Prop
  | [] => True
  | a :: r => RF.ok Z h a ∧ own_all Z h r
abbrev HI : Type := Sum (Nat × Instr × Nat) (Sum (Nat × Nat × Nat) (Sum (Nat × Nat × Nat × Nat) (Sum (Nat × Nat) (Nat × Bool × ClassFile.Cond × Int × Bool))))
abbrev HI.p (pc : Nat) (i : Instr) (n : Nat) : HI := .inl (pc, i, n)
abbrev HI.f (pc ix k : Nat) : HI := .inr (.inl (pc, ix, k))
abbrev HI.I (pc k j : Nat) : HI := .inr (.inr (.inl (0, pc, k, j)))
abbrev HI.J (pc k j : Nat) : HI := .inr (.inr (.inl (1, pc, k, j)))
abbrev HI.Z (pc k j : Nat) : HI := .inr (.inr (.inl (2, pc, k, j)))
abbrev HI.l (pc k : Nat) : HI := .inr (.inr (.inr (.inl (pc, k))))
abbrev HI.b (pc : Nat) (cd : ClassFile.Cond) (o : Int) (t : Bool) : HI := .inr (.inr (.inr (.inr (pc, false, cd, o, t))))
abbrev HI.c (pc : Nat) (cd : ClassFile.Cond) (o : Int) (t : Bool) : HI := .inr (.inr (.inr (.inr (pc, true, cd, o, t))))
def own_aty : Nat → FieldType
  | 0 => .int
  | 1 => .long
  | _ => .boolean
def own_ain : Nat → Instr
  | 0 => .iaload
  | 1 => .laload
  | _ => .baload
def HI.dec : HI → Nat × Instr × Nat
  | .inl q => q
  | .inr (.inl (pc, ix, _)) => (pc, .getfield ix, 3)
  | .inr (.inr (.inl (ty, pc, _, _))) => (pc, own_ain ty, 1)
  | .inr (.inr (.inr (.inl (pc, _)))) => (pc, .arraylength, 1)
  | .inr (.inr (.inr (.inr (pc, false, cd, o, _)))) => (pc, .ifCond cd o, 3)
  | .inr (.inr (.inr (.inr (pc, true, cd, o, _)))) => (pc, .if_icmp cd o, 3)
def own_hal (ty : FieldType) (FL : List RF) (k j : Nat) (g : JFrame) : Option (JFrame × Prop) :=
  match FL[k]? with
  | some (.inr (a, _, ty', nn, vs, dv)) => (match g.stack with
    | .int x :: top :: rest => some ({ g with pc := g.pc + 1, stack := vs.getD j dv :: rest }, top = .ref a ∧ ty' = ty ∧ (x.toNatClampNeg = j ∧ ¬ x < 0 ∧ x < nn))
    | _ => none)
  | _ => none
def own_hstep (ci : List (Nat × Int32)) (cl : List (Nat × Int64)) (LK : List (Nat × String × String × String)) (FL : List RF) (i : HI) (g : JFrame) : Option (JFrame × Prop) :=
  match i with
  | .inl (_, i, n) => (match own_pstep ci cl i n g with | some g' => some (g', True) | none => none)
  | .inr (.inl (_, ix, k)) => (match own_look ix LK with
    | some q => (match FL[k]? with
      | some (.inl (o, C, f, d, v)) => (match g.stack with
        | top :: rest => some ({ g with pc := g.pc + 3, stack := v :: rest }, top = .ref o ∧ q = (C, f, d))
        | [] => none)
      | _ => none)
    | none => none)
  | .inr (.inr (.inl (ty, _, k, j))) => own_hal (own_aty ty) FL k j g
  | .inr (.inr (.inr (.inl (_, k)))) => (match FL[k]? with
    | some (.inr (a, _, _, nn, _, _)) => (match g.stack with
      | top :: rest => some ({ g with pc := g.pc + 1, stack := .int nn :: rest }, top = .ref a)
      | [] => none)
    | _ => none)
  | .inr (.inr (.inr (.inr (_, false, cd, o, t)))) => (match g.stack with
    | .int x :: rest => (match t with
      | true => if 0 ≤ (g.pc : Int) + o then some ({ g with pc := ((g.pc : Int) + o).toNat, stack := rest }, ifCond.holds cd x = true) else none
      | false => some ({ g with pc := g.pc + 3, stack := rest }, ifCond.holds cd x = false))
    | _ => none)
  | .inr (.inr (.inr (.inr (_, true, cd, o, t)))) => (match g.stack with
    | .int y :: .int x :: rest => (match t with
      | true => if 0 ≤ (g.pc : Int) + o then some ({ g with pc := ((g.pc : Int) + o).toNat, stack := rest }, if_icmp.holds cd x y = true) else none
      | false => some ({ g with pc := g.pc + 3, stack := rest }, if_icmp.holds cd x y = false))
    | _ => none)
def HI.plain : HI → Bool
  | .inl _ => true
  | .inr _ => false
def own_hrun (ci : List (Nat × Int32)) (cl : List (Nat × Int64)) (LK : List (Nat × String × String × String)) (FL : List RF) : List HI → JFrame → Option (JFrame × Prop)
  | [], g => some (g, True)
  | i :: r, g => if g.pc = (HI.dec i).1 then (match own_hstep ci cl LK FL i g with
    | some (g', P) => (match own_hrun ci cl LK FL r g' with
      | some (g2, P2) => some (g2, match HI.plain i with | true => P2 | false => P ∧ P2)
      | none => none)
    | none => none) else none
section OwnHRun
variable {p : Program} {l : Launch} {e : Env} {R : Room} {s : State} {m : MethodId} {args a0 : Array Value} {below : List Frame} {meth : Method} {c : Code} {T target Z : State} {locs : List Loc} {cells slots kc ks : Nat} {own : String} {ci : List (Nat × Int32)} {cl : List (Nat × Int64)} {Q : Option Value → Heap → List Loc → Prop} {LK : List (Nat × String × String × String)} {FL : List RF} {h : Heap}
theorem own_n : own_all Z h [] := trivial
theorem own_c1 {o : Addr} {C f d : String} {v : Value} (F : Fld Z h o C f d v) (r : own_all Z h FL) : own_all Z h (.fld o C f d v :: FL) := ⟨F, r⟩
theorem own_c2 {a : Addr} {k : ClassId} {ty : FieldType} {n : Int32} {vs : List Value} {dv : Value} (A : Arv Z h a k ty n vs dv) (r : own_all Z h FL) : own_all Z h (.arr a k ty n vs dv :: FL) := ⟨A, r⟩
theorem own_aget : ∀ {FL : List RF} {i : Nat} {x : RF}, own_all Z h FL → FL[i]? = some x → RF.ok Z h x
  | [], i, x, _, q => by simp at q
  | a :: r, 0, x, k, q => by simp at q; subst q; exact k.1
  | a :: r, i + 1, x, k, q => own_aget (FL := r) (i := i) k.2 (by simpa using q)
theorem own_ixok {x nn : Int32} {j : Nat} (h : (decide (x.toNatClampNeg = j) && decide (¬ x < 0) && decide (x < nn)) = true) : x.toNatClampNeg = j ∧ ¬ x < 0 ∧ x < nn := by
  simp only [Bool.and_eq_true, decide_eq_true_eq] at h
  exact ⟨h.1.1, h.1.2, h.2⟩
def Nx (p : Program) (l : Launch) (e : Env) (R : Room) (s : State) (m : MethodId) (args : Array Value) (below : List Frame) (meth : Method) (c : Code) (T : State) (locs : List Loc) (cells slots : Nat) (h : Heap) (g g' : JFrame) : Prop :=
  ∃ T', Stand p l e R s m args below meth c T' locs cells slots ∧ T'.heap = h ∧ (∀ target, Steps p.tables e below (T'.setTop g') target → Steps p.tables e below (T.setTop g) target) ∧ g'.method = m
theorem own_hal_ok (X : Stand p l e R s m args below meth c T locs cells slots) (eT : T.heap = h) (hF : own_all Z h FL) {g g' : JFrame} (hg : g.method = m) {k j : Nat} {P : Prop} {ty : FieldType} (hp : own_hal ty FL k j g = some (g', P)) (hP : P)
    (law : ∀ {a : Addr} {cell : Cell} {j : Int32} {v : Value}, T.heap[a]? = some cell → Z.isArrayOf cell ty → cell.vm ≠ .unknown → ¬ (j < 0 ∨ cell.slots.size ≤ j.toNatClampNeg) → cell.slots[j.toNatClampNeg]? = some v → ∀ {rest : List Value}, g.stack = .int j :: .ref a :: rest → ∀ target, Steps p.tables e below (T.setTop { g with pc := g.pc + 1, stack := v :: rest }) target → Steps p.tables e below (T.setTop g) target) :
    Nx p l e R s m args below meth c T locs cells slots h g g' := by
  unfold own_hal at hp
  split at hp
  · rename_i a kc ty' nn vs dv hk
    split at hp
    · rename_i x top rest hs
      cases hp
      obtain ⟨rfl, rfl, q1, q2, q3⟩ := hP
      obtain ⟨cl, Ar, q, S, M, Hs, G⟩ := (own_aget hF hk : Arv Z h a kc ty' nn vs dv)
      have hin : ¬ (x < 0 ∨ cl.slots.size ≤ x.toNatClampNeg) := inb_of S ⟨q2, q3⟩
      exact ⟨T, X, eT, fun target k => law (by rw [eT]; exact Ar.1) Ar.2.1 Ar.2.2 hin (Hs.at hin (by rw [q1])) hs target k, hg⟩
    · cases hp
  · cases hp
theorem own_hstep_ok (X : Stand p l e R s m args below meth c T locs cells slots) (hx : p.tables.exec = Jvm.exec) (hZ : Z.Warmed39 s.vm) (hown : s.vm.findClass own = some m.cls) (hci : ∀ i v, (i, v) ∈ ci → (Cond.constant own i v).before args s = true) (hcl : ∀ i v, (i, v) ∈ cl → (Cond.constantLong own i v).before args s = true) (hLK : ∀ q ∈ LK, (Cond.fieldLink own q.1 q.2.1 q.2.2.1 q.2.2.2).before a0 Z = true) (hF : own_all Z h FL) (eT : T.heap = h)
    {g g' : JFrame} (hg : g.method = m) {i : HI} {P : Prop} (hd : decode c.code g.pc = .ok (HI.dec i).2) (hp : own_hstep ci cl LK FL i g = some (g', P)) (hP : P) : Nx p l e R s m args below meth c T locs cells slots h g g' := by
  rcases i with ⟨pc, i, n⟩ | ⟨pc, ix, k⟩ | ⟨ty, pc, k, j⟩ | ⟨pc, k⟩ | ⟨pc, ic, cd, o, t⟩
  · replace hp : (match own_pstep ci cl i n g with | some g' => some (g', True) | none => none) = some (g', P) := hp
    split at hp
    · cases hp
      have q := own_pstep_ok X hx hown hci hcl hg hd (by assumption)
      exact ⟨T, X, eT, q.1, q.2⟩
    · cases hp
  · simp only [own_hstep] at hp
    split at hp
    · rename_i q hq
      split at hp
      · rename_i o C f d v hk
        split at hp
        · rename_i top rest hs
          cases hp
          obtain ⟨rfl, rfl⟩ := hP
          obtain ⟨T', X', e', st⟩ := getF X hx hZ hown (host := "") (Or.inl (hLK _ (own_look_mem hq))) Via.refl eT (own_aget hF hk : Fld Z h o C f d v) hg hs hd
          exact ⟨T', X', e', st, hg⟩
        · cases hp
      · cases hp
    · cases hp
  · match ty, hd, hp with
    | 0, hd, hp => exact own_hal_ok X eT hF hg hp hP (fun h1 h2 h3 h4 h5 _ h6 target k => X.iaload hx h1 (State.isArrayOf_alike hZ.alike h2) h3 h4 h5 hg h6 hd target k)
    | 1, hd, hp => exact own_hal_ok X eT hF hg hp hP (fun h1 h2 h3 h4 h5 _ h6 target k => X.laload hx h1 (State.isArrayOf_alike hZ.alike h2) h3 h4 h5 hg h6 hd target k)
    | _ + 2, hd, hp => exact own_hal_ok X eT hF hg hp hP (fun h1 h2 h3 h4 h5 _ h6 target k => X.baloadBooleans hx h1 (State.isArrayOf_alike hZ.alike h2) h3 h4 h5 hg h6 hd target k)
  · simp only [own_hstep] at hp
    split at hp
    · rename_i a kc ty nn vs dv hk
      split at hp
      · rename_i top rest hs
        cases hp
        obtain rfl := hP
        obtain ⟨cl, Ar, q, S, M, Hs, G⟩ := (own_aget hF hk : Arv Z h a kc ty nn vs dv)
        refine ⟨T, X, eT, fun target kk => X.arraylength hx (cell := cl) (by rw [eT]; exact Ar.1) (State.isArrayOf_alike hZ.alike Ar.2.1) hg hs hd _ ?_, hg⟩
        rw [len_of S M]
        exact kk
      · cases hp
    · cases hp
  · cases ic with
    | false =>
      simp only [own_hstep] at hp
      split at hp
      · rename_i x rest hs
        cases t with
        | true =>
          simp only [] at hp
          split at hp
          · cases hp
            exact ⟨T, X, eT, fun target k => XS.ifYes X.here hx hg rfl hd hs hP (by assumption) rfl k, hg⟩
          · cases hp
        | false =>
          simp only [] at hp
          cases hp
          exact ⟨T, X, eT, fun target k => XS.ifNo X.here hx hg hd hs hP k, hg⟩
      · cases hp
    | true =>
      simp only [own_hstep] at hp
      split at hp
      · rename_i y x rest hs
        cases t with
        | true =>
          simp only [] at hp
          split at hp
          · cases hp
            exact ⟨T, X, eT, fun target k => XS.icmpYes X.here hx hg rfl hd hs hP (by assumption) rfl k, hg⟩
          · cases hp
        | false =>
          simp only [] at hp
          cases hp
          exact ⟨T, X, eT, fun target k => XS.icmpNo X.here hx hg hd hs hP k, hg⟩
      · cases hp
def own_hdec (code : ByteArray) (L : List HI) : Bool := L.all fun q => decide (decode code (HI.dec q).1 = .ok (HI.dec q).2)
theorem own_hrun_ok (hx : p.tables.exec = Jvm.exec) (hZ : Z.Warmed39 s.vm) (hown : s.vm.findClass own = some m.cls) (hci : ∀ i v, (i, v) ∈ ci → (Cond.constant own i v).before args s = true) (hcl : ∀ i v, (i, v) ∈ cl → (Cond.constantLong own i v).before args s = true) (hLK : ∀ q ∈ LK, (Cond.fieldLink own q.1 q.2.1 q.2.2.1 q.2.2.2).before a0 Z = true) {code : ByteArray} (hby : c.code = code) (hF : own_all Z h FL) :
    ∀ (L : List HI) (T : State) (g g' : JFrame) (P : Prop), Stand p l e R s m args below meth c T locs cells slots → T.heap = h → g.method = m → own_hdec code L = true → own_hrun ci cl LK FL L g = some (g', P) → P → Nx p l e R s m args below meth c T locs cells slots h g g' := by
  intro L
  induction L with
  | nil => intro T g g' P X eT hg _ hp _; cases hp; exact ⟨T, X, eT, fun _ k => k, hg⟩
  | cons i r ih =>
    intro T g g' P X eT hg hd hp hP
    have hd' : decide (decode code (HI.dec i).1 = .ok (HI.dec i).2) = true ∧ own_hdec code r = true := by
      have : (decide (decode code (HI.dec i).1 = .ok (HI.dec i).2) && own_hdec code r) = true := hd
      simpa using this
    simp only [own_hrun] at hp
    split at hp
    · rename_i hpc
      split at hp
      · rename_i g1 P1 h1
        split at hp
        · rename_i g2 P2 h2
          cases hp
          have hq : P1 ∧ P2 := by
            rcases i with i | i
            case inr => exact hP
            refine ⟨?_, hP⟩
            simp only [own_hstep] at h1
            split at h1
            · cases h1; trivial
            · cases h1
          obtain ⟨T1, X1, e1, st1, m1⟩ := own_hstep_ok X hx hZ hown hci hcl hLK hF eT hg (i := i) (by rw [hby, hpc]; exact of_decide_eq_true hd'.1) h1 hq.1
          obtain ⟨T2, X2, e2, st2, m2⟩ := ih T1 g1 g' P2 X1 e1 m1 hd'.2 h2 hq.2
          exact ⟨T2, X2, e2, fun t k => st1 t (st2 t k), m2⟩
        · cases hp
      · cases hp
    · cases hp
def Cx (p : Program) (Z s : State) (m : MethodId) (args a0 : Array Value) (c : Code) (own : String) (ci : List (Nat × Int32)) (cl : List (Nat × Int64)) (LK : List (Nat × String × String × String)) (code : ByteArray) : Prop :=
  p.tables.exec = Jvm.exec ∧ Z.Warmed39 s.vm ∧ s.vm.findClass own = some m.cls ∧ (∀ i v, (i, v) ∈ ci → (Cond.constant own i v).before args s = true) ∧ (∀ i v, (i, v) ∈ cl → (Cond.constantLong own i v).before args s = true) ∧ (∀ q ∈ LK, (Cond.fieldLink own q.1 q.2.1 q.2.2.1 q.2.2.2).before a0 Z = true) ∧ c.code = code
theorem Cx.mk {code : ByteArray} (hx : p.tables.exec = Jvm.exec) (hZ : Z.Warmed39 s.vm) (hown : s.vm.findClass own = some m.cls) (hci : ∀ i v, (i, v) ∈ ci → (Cond.constant own i v).before args s = true) (hcl : ∀ i v, (i, v) ∈ cl → (Cond.constantLong own i v).before args s = true) (hLK : ∀ q ∈ LK, (Cond.fieldLink own q.1 q.2.1 q.2.2.1 q.2.2.2).before a0 Z = true) (hby : c.code = code) : Cx p Z s m args a0 c own ci cl LK code := ⟨hx, hZ, hown, hci, hcl, hLK, hby⟩
theorem rr {α β : Type} {a : α} {b : β} : a = a ∧ b = b := ⟨rfl, rfl⟩
theorem ra {α β : Type} {a : α} {b : β} {x nn : Int32} {j : Nat} (h : (decide (x.toNatClampNeg = j) && decide (¬ x < 0) && decide (x < nn)) = true) : a = a ∧ b = b ∧ (x.toNatClampNeg = j ∧ ¬ x < 0 ∧ x < nn) := ⟨rfl, rfl, own_ixok h⟩
theorem Goes.hrun (X : Stand p l e R s m args below meth c T locs cells slots) (eT : T.heap = h) {code : ByteArray} (C : Cx p Z s m args a0 c own ci cl LK code) (hF : own_all Z h FL)
    {L : List HI} (hd : own_hdec code L = true) {g g' : JFrame} (hg : g.method = m) {P : Prop} (hp : own_hrun ci cl LK FL L g = some (g', P)) (hP : P) (k : ∀ T', Stand p l e R s m args below meth c T' locs cells slots → T'.heap = h → Goes p e below s Q kc ks (T'.setTop g')) : Goes p e below s Q kc ks (T.setTop g) := by
  obtain ⟨hx, hZ, hown, hci, hcl, hLK, hby⟩ := C
  obtain ⟨T', X', e', st, -⟩ := own_hrun_ok hx hZ hown hci hcl hLK hby hF L T g g' P X eT hg hd hp hP
  exact Goes.st st (k T' X' e')
theorem Goes.sJ {n0 : Nat} (X : Stand p l e R s m args below meth c T locs cells slots) (eT : T.heap = h) (hx : p.tables.exec = Jvm.exec) (hZ : Z.Warmed39 s.vm) {a : Addr} {kc' : ClassId} {nn : Int32} {vs : List Value} {dv : Value} (A : Arv Z h a kc' .long nn vs dv) {j : Int32} {i : Nat} (ix : j.toNatClampNeg = i ∧ ¬ j < 0 ∧ j < nn) (hi : i < vs.length) (N : Fr n0 locs) (ga : n0 ≤ a) {x : Int64} {g : JFrame} (hg : g.method = m) {rest : List Value} (hs : g.stack = .long x :: .int j :: .ref a :: rest) (hd : decode c.code g.pc = .ok (.lastore, 1))
    (k : ∀ T' h' L', Stand p l e R s m args below meth c T' L' cells slots → T'.heap = h' → Wr h h' a j.toNatClampNeg (.long x) → Arv Z h' a kc' .long nn (vs.set i (.long x)) dv → Fr n0 L' → Goes p e below s Q kc ks (T'.setTop { g with pc := g.pc + 1, stack := rest })) : Goes p e below s Q kc ks (T.setTop g) := by
  obtain ⟨cl, Ar, q, S, M, Hs, G⟩ := A
  obtain ⟨T', h', X', e', W, st⟩ := stJ X hx hZ eT Ar (j := j) (inb_of S ⟨ix.2.1, ix.2.2⟩) (g := g) hg hs hd
  exact Goes.st st (k T' h' _ X' e' W (Arv.set Ar q S M Hs G rfl W i ix.1 hi) (Fr.snoc X' N ga))
theorem Goes.sI {n0 : Nat} (X : Stand p l e R s m args below meth c T locs cells slots) (eT : T.heap = h) (hx : p.tables.exec = Jvm.exec) (hZ : Z.Warmed39 s.vm) {a : Addr} {kc' : ClassId} {nn : Int32} {vs : List Value} {dv : Value} (A : Arv Z h a kc' .int nn vs dv) {j : Int32} {i : Nat} (ix : j.toNatClampNeg = i ∧ ¬ j < 0 ∧ j < nn) (hi : i < vs.length) (N : Fr n0 locs) (ga : n0 ≤ a) {x : Int32} {g : JFrame} (hg : g.method = m) {rest : List Value} (hs : g.stack = .int x :: .int j :: .ref a :: rest) (hd : decode c.code g.pc = .ok (.iastore, 1))
    (k : ∀ T' h' L', Stand p l e R s m args below meth c T' L' cells slots → T'.heap = h' → Wr h h' a j.toNatClampNeg (.int x) → Arv Z h' a kc' .int nn (vs.set i (.int x)) dv → Fr n0 L' → Goes p e below s Q kc ks (T'.setTop { g with pc := g.pc + 1, stack := rest })) : Goes p e below s Q kc ks (T.setTop g) := by
  obtain ⟨cl, Ar, q, S, M, Hs, G⟩ := A
  obtain ⟨T', h', X', e', W, st⟩ := stI X hx hZ eT Ar (j := j) (inb_of S ⟨ix.2.1, ix.2.2⟩) (g := g) hg hs hd
  exact Goes.st st (k T' h' _ X' e' W (Arv.set Ar q S M Hs G rfl W i ix.1 hi) (Fr.snoc X' N ga))
theorem Goes.sZ {n0 : Nat} (X : Stand p l e R s m args below meth c T locs cells slots) (eT : T.heap = h) (hx : p.tables.exec = Jvm.exec) (hZ : Z.Warmed39 s.vm) {a : Addr} {kc' : ClassId} {nn : Int32} {vs : List Value} {dv : Value} (A : Arv Z h a kc' .boolean nn vs dv) {j : Int32} {i : Nat} (ix : j.toNatClampNeg = i ∧ ¬ j < 0 ∧ j < nn) (hi : i < vs.length) (N : Fr n0 locs) (ga : n0 ≤ a) {x : Int32} {g : JFrame} (hg : g.method = m) {rest : List Value} (hs : g.stack = .int x :: .int j :: .ref a :: rest) (hd : decode c.code g.pc = .ok (.bastore, 1))
    (k : ∀ T' h' L', Stand p l e R s m args below meth c T' L' cells slots → T'.heap = h' → Wr h h' a j.toNatClampNeg (.int (nar .boolean x)) → Arv Z h' a kc' .boolean nn (vs.set i (.int (nar .boolean x))) dv → Fr n0 L' → Goes p e below s Q kc ks (T'.setTop { g with pc := g.pc + 1, stack := rest })) : Goes p e below s Q kc ks (T.setTop g) := by
  obtain ⟨cl, Ar, q, S, M, Hs, G⟩ := A
  obtain ⟨T', h', X', e', W, st⟩ := stZ X hx hZ eT Ar (j := j) (inb_of S ⟨ix.2.1, ix.2.2⟩) (g := g) hg hs hd
  exact Goes.st st (k T' h' _ X' e' W (Arv.set Ar q S M Hs G (fits_nar_bool _) W i ix.1 hi) (Fr.snoc X' N ga))
theorem own_oth {h' : Heap} {a : Addr} {K C C' n n' d d' : String} {v w : Value} (F : Fld Z h a C n d v) (W : Wr h h' a (Jvm.RoadKit.slotOf Z C' n' d') w) (L : Laid Z a0 K C n d) (L' : Laid Z a0 K C' n' d') (hn : n ≠ n' := by decide) (ht : (parseFieldDescriptor d).isSome = true := by decide) (ht' : (parseFieldDescriptor d').isSome = true := by decide) : Fld Z h' a C n d v := by
  obtain ⟨t, ht⟩ := Option.isSome_iff_exists.mp ht
  obtain ⟨t', ht'⟩ := Option.isSome_iff_exists.mp ht'
  exact Fld.other W F (Or.inr (slot_ne L L' hn ht ht'))
def RF.ob : RF → Addr
  | .inl q => q.1
  | .inr q => q.1
abbrev Dis (FL : List RF) (w : Addr) : Prop := ∀ x ∈ FL, RF.ob x ≠ w
theorem own_all.mp {h' : Heap} (k : ∀ x ∈ FL, RF.ok Z h x → RF.ok Z h' x) : own_all Z h FL → own_all Z h' FL := by
  induction FL with
  | nil => exact fun _ => trivial
  | cons a r ih => exact fun q => ⟨k a List.mem_cons_self q.1, ih (fun x hx => k x (List.mem_cons_of_mem _ hx)) q.2⟩
theorem own_all.ext {h' : Heap} (E : Ext h h') (A : own_all Z h FL) : own_all Z h' FL := own_all.mp (fun x _ q => by
  rcases x with ⟨o, C, f, dd, w⟩ | ⟨o, k, ty, n, vs, dv⟩
  · exact Fld.ext E q
  · exact Arv.ext q E) A
theorem own_all.wr {h' : Heap} {a : Addr} {sl : Nat} {v : Value} (W : Wr h h' a sl v) (D : Dis FL a) (A : own_all Z h FL) : own_all Z h' FL := own_all.mp (fun x hx q => by
  have d := D x hx
  rcases x with ⟨o, C, f, dd, w⟩ | ⟨o, k, ty, n, vs, dv⟩
  · exact Fld.other W q (Or.inl d)
  · exact Arv.other q W d) A
theorem own_all.keep {h' : Heap} {ws : List Addr} (K : Keep h h' ws) (D : ∀ w ∈ ws, Dis FL w) (A : own_all Z h FL) : own_all Z h' FL := own_all.mp (fun x hx q => by
  have d : RF.ob x ∉ ws := fun z => D _ z x hx rfl
  rcases x with ⟨o, C, f, dd, w⟩ | ⟨o, k, ty, n, vs, dv⟩
  · exact Fld.keep q K d
  · exact Arv.keep q K d) A
theorem own_all.dis {b : Addr} : ∀ {FL : List RF}, own_all Z h FL → h.size ≤ b → Dis FL b
  | [], _, _ => fun _ q => nomatch q
  | a :: r, A, hb => fun x q => by
    rcases List.mem_cons.mp q with rfl | q
    · have k := A.1
      rcases x with ⟨o, C, f, dd, w⟩ | ⟨o, k', ty, n, vs, dv⟩
      · exact Nat.ne_of_lt (Nat.lt_of_lt_of_le (Fld.lt k) hb)
      · exact Nat.ne_of_lt (Nat.lt_of_lt_of_le (Arv.lt k) hb)
    · exact own_all.dis A.2 hb x q
theorem own_d0 : ∀ w ∈ ([] : List Addr), Dis FL w := fun _ q => nomatch q
theorem own_dS {x : Addr} {xs : List Addr} (d : Dis FL x) (r : ∀ w ∈ xs, Dis FL w) : ∀ w ∈ x :: xs, Dis FL w := fun w q => by
  rcases List.mem_cons.mp q with rfl | q
  · exact d
  · exact r w q
end OwnHRun
def own_lk0 : List (Nat × String × String × String) := []
theorem own_lk0_ok {Z : State} {a0 : Array Value} (hw : ∀ d ∈ tables_1, d.before a0 Z = true) : ∀ q ∈ own_lk0, (Cond.fieldLink "java/util/Arrays" q.1 q.2.1 q.2.2.1 q.2.2.2).before a0 Z = true := fun q hq => hw _ ((by decide +kernel : ∀ q ∈ own_lk0, Cond.fieldLink "java/util/Arrays" q.1 q.2.1 q.2.2.1 q.2.2.2 ∈ tables_1) q hq)
theorem d1_13 : decode jdk_65_method_103_code 13 = .ok (.iastore, 1) := by decide +kernel
theorem d1_20 : decode jdk_65_method_103_code 20 = .ok (.return_, 1) := by decide +kernel
theorem pn1 : plainName "java/util/Arrays" = true := by first | (simp [plainName, overriddenIn]; done) | decide +kernel
theorem ef1 (m : MethodId) (x0 : Addr) (x1 : Int32) : entryFrame m #[(.ref x0), (.int x1)] 4 = (mkF m 0 #[rv x0, iv x1, .unset, .unset] []) := by first | (simp [entryFrame, mkF, argsToLocals, Value.category]; done) | rfl
def Q1 (Z : State) (x0 : Addr) (x1 : Int32) (kf : ClassId) (fa : Int32) (fb : Int32) (fc : Int32) (fd : Int32) (h0 : Heap) (n0 : Nat) (v : Option Value) (h : Heap) (L : List Loc) : Prop := v = none ∧ Fr n0 L ∧ Keep h0 h [x0] ∧ Arv Z h x0 kf .int (4 : Int32) [(.int x1), (.int x1), (.int x1), (.int x1)] (.int (0 : Int32))
set_option maxRecDepth 65536 in
set_option maxHeartbeats 40000000 in
theorem rm1 (l : Launch) (Z : State) (a0 : Array Value) (hw : ∀ d ∈ tables_1, d.before a0 Z = true) (ws : List Jvm.Cond) (x0 : Addr) (x1 : Int32) (kf : ClassId) (fa : Int32) (fb : Int32) (fc : Int32) (fd : Int32) (h0 : Heap) (n0 : Nat) (Z0 : n0 ≤ h0.size) (V_x0 : Arv Z h0 x0 kf .int (4 : Int32) [(.int fa), (.int fb), (.int fc), (.int fd)] (.int (0 : Int32))) (g_x0 : n0 ≤ x0) :
    MetFree l ym0 (head1 (Jvm.Cond.code ym0 jdk_65_method_103_code 4 none :: ws) ({ frames := 0, cells := 0, slots := 0, locals := 0 } : Room)) (fun a U => a = #[(.ref x0), (.int x1)] ∧ Z.Warmed39 U.vm ∧ U.heap = h0) (fun _ _ _ _ _ => True) (fun _ U o U' => ∃ v L, o = .returned v ∧ (Q1 Z x0 x1 kf fa fb fc fd h0 n0) v U'.heap L ∧ FrameEnd U o U' L ({ frames := 0, cells := 0, slots := 0, locals := 0 } : Room).cells ({ frames := 0, cells := 0, slots := 0, locals := 0 } : Room).slots) := by
  refine MetFree.of_bodySF (plainFor_of_name pn1) hisR ?_
  intro p e s m args below meth c s₁ Bd hml0 hP hK
  obtain ⟨rfl, hZ, hh⟩ := hP
  have hx := Bd.exec
  have hby := Bd.bytes
  have hml : c.maxLocals = 4 := hml0
  have hlk : meth.locks = false := BodyLoose.notSynchronized Bd
  have hown : s.vm.findClass "java/util/Arrays" = some m.cls := findClass_of_methodNamed Bd.named
  have hnm := (name_of_methodNamed Bd.named Bd.method).1
  have hci : ∀ i v, (i, v) ∈ ([] : List (Nat × Int32)) → (Jvm.Cond.constant "java/util/Arrays" i v).before #[(.ref x0), (.int x1)] s = true := own_ci0
  have hcl : ∀ i v, (i, v) ∈ ([] : List (Nat × Int64)) → (Jvm.Cond.constantLong "java/util/Arrays" i v).before #[(.ref x0), (.int x1)] s = true := own_ci0
  have X0 : Stand p l e ({ frames := 0, cells := 0, slots := 0, locals := 0 } : Room) s m #[(.ref x0), (.int x1)] below meth c s₁ [] 0 0 := Stand.of_body Bd
  have e0 : s₁.heap = h0 := by rw [← hh, Bd.state]; rfl
  have N0 := Fr.nil n0
  show Goes p e below s (Q1 Z x0 x1 kf fa fb fc fd h0 n0) ({ frames := 0, cells := 0, slots := 0, locals := 0 } : Room).cells ({ frames := 0, cells := 0, slots := 0, locals := 0 } : Room).slots (s₁.setTop (entryFrame m #[(.ref x0), (.int x1)] 4))
  refine Goes.cast (ef1 m x0 x1) ?_
  have hLK := own_lk0_ok hw
  have CX := Cx.mk hx hZ hown hci hcl hLK hby
  have K0 : Keep h0 h0 [x0] := Keep.refl h0 _
  refine Goes.hrun X0 e0 CX (own_c2 V_x0 own_n) (L := [.p 0 (.iconst 0) 1, .p 1 (.istore_n 2) 1, .p 2 (.aload_n 0) 1, .l 3 0, .p 4 (.istore_n 3) 1, .p 5 (.iload_n 2) 1, .p 6 (.iload_n 3) 1, .c 7 .ge 13 false, .p 10 (.aload_n 0) 1, .p 11 (.iload_n 2) 1, .p 12 (.iload_n 1) 1]) (by decide +kernel) rfl (g' := (mkF m 13 #[rv x0, iv x1, iv 0, iv 4] [(.int x1), (.int 0), (.ref x0)])) rfl ⟨rfl, by decide, trivial⟩ ?_
  intro T2 X2 e2
  refine Goes.sI X2 e2 hx hZ V_x0 (i := 0) (own_ixok (by decide)) (Nat.le_of_ble_eq_true rfl) N0 g_x0 rfl rfl (hb hby d1_13) ?_
  intro T3 h3 L3 X3 e3 W3 (V_x0 : Arv Z h3 x0 kf .int (4 : Int32) [(.int x1), (.int fb), (.int fc), (.int fd)] (.int (0 : Int32))) N3
  have K3 := K0.wr W3 (Or.inl (List.mem_of_getElem? (i := 0) rfl))
  refine Goes.hrun X3 e3 CX own_n (L := [.p 14 (.iinc 2 1) 3, .p 17 (.goto (-12)) 3, .p 5 (.iload_n 2) 1, .p 6 (.iload_n 3) 1, .c 7 .ge 13 false, .p 10 (.aload_n 0) 1, .p 11 (.iload_n 2) 1, .p 12 (.iload_n 1) 1]) (by decide +kernel) rfl (g' := (mkF m 13 #[rv x0, iv x1, iv 1, iv 4] [(.int x1), (.int 1), (.ref x0)])) rfl ⟨by decide, trivial⟩ ?_
  intro T5 X5 e5
  refine Goes.sI X5 e5 hx hZ V_x0 (i := 1) (own_ixok (by decide)) (Nat.le_of_ble_eq_true rfl) N3 g_x0 rfl rfl (hb hby d1_13) ?_
  intro T6 h6 L6 X6 e6 W6 (V_x0 : Arv Z h6 x0 kf .int (4 : Int32) [(.int x1), (.int x1), (.int fc), (.int fd)] (.int (0 : Int32))) N6
  have K6 := K3.wr W6 (Or.inl (List.mem_of_getElem? (i := 0) rfl))
  refine Goes.hrun X6 e6 CX own_n (L := [.p 14 (.iinc 2 1) 3, .p 17 (.goto (-12)) 3, .p 5 (.iload_n 2) 1, .p 6 (.iload_n 3) 1, .c 7 .ge 13 false, .p 10 (.aload_n 0) 1, .p 11 (.iload_n 2) 1, .p 12 (.iload_n 1) 1]) (by decide +kernel) rfl (g' := (mkF m 13 #[rv x0, iv x1, iv 2, iv 4] [(.int x1), (.int 2), (.ref x0)])) rfl ⟨by decide, trivial⟩ ?_
  intro T8 X8 e8
  refine Goes.sI X8 e8 hx hZ V_x0 (i := 2) (own_ixok (by decide)) (Nat.le_of_ble_eq_true rfl) N6 g_x0 rfl rfl (hb hby d1_13) ?_
  intro T9 h9 L9 X9 e9 W9 (V_x0 : Arv Z h9 x0 kf .int (4 : Int32) [(.int x1), (.int x1), (.int x1), (.int fd)] (.int (0 : Int32))) N9
  have K9 := K6.wr W9 (Or.inl (List.mem_of_getElem? (i := 0) rfl))
  refine Goes.hrun X9 e9 CX own_n (L := [.p 14 (.iinc 2 1) 3, .p 17 (.goto (-12)) 3, .p 5 (.iload_n 2) 1, .p 6 (.iload_n 3) 1, .c 7 .ge 13 false, .p 10 (.aload_n 0) 1, .p 11 (.iload_n 2) 1, .p 12 (.iload_n 1) 1]) (by decide +kernel) rfl (g' := (mkF m 13 #[rv x0, iv x1, iv 3, iv 4] [(.int x1), (.int 3), (.ref x0)])) rfl ⟨by decide, trivial⟩ ?_
  intro T11 X11 e11
  refine Goes.sI X11 e11 hx hZ V_x0 (i := 3) (own_ixok (by decide)) (Nat.le_of_ble_eq_true rfl) N9 g_x0 rfl rfl (hb hby d1_13) ?_
  intro T12 h12 L12 X12 e12 W12 (V_x0 : Arv Z h12 x0 kf .int (4 : Int32) [(.int x1), (.int x1), (.int x1), (.int x1)] (.int (0 : Int32))) N12
  have K12 := K9.wr W12 (Or.inl (List.mem_of_getElem? (i := 0) rfl))
  refine Goes.hrun X12 e12 CX own_n (L := [.p 14 (.iinc 2 1) 3, .p 17 (.goto (-12)) 3, .p 5 (.iload_n 2) 1, .p 6 (.iload_n 3) 1, .c 7 .ge 13 true]) (by decide +kernel) rfl (g' := (mkF m 20 #[rv x0, iv x1, iv 4, iv 4] [])) rfl ⟨by decide, trivial⟩ ?_
  intro T14 X14 e14
  refine Goes.retV X14 hx hlk Bd.returns (hb hby d1_20) ?_ (by decide) (by decide)
  show (Q1 Z x0 x1 kf fa fb fc fd h0 n0) _ _ _
  rw [e14]
  exact ⟨rfl, N12, K12, V_x0⟩
theorem d2_15 : decode jdk_65_method_101_code 15 = .ok (.lastore, 1) := by decide +kernel
theorem d2_22 : decode jdk_65_method_101_code 22 = .ok (.return_, 1) := by decide +kernel
theorem pn2 : plainName "java/util/Arrays" = true := by first | (simp [plainName, overriddenIn]; done) | decide +kernel
theorem ef2 (m : MethodId) (x0 : Addr) (x1 : Int64) : entryFrame m #[(.ref x0), (.long x1)] 5 = (mkF m 0 #[rv x0, jv x1, .second, .unset, .unset] []) := by first | (simp [entryFrame, mkF, argsToLocals, Value.category]; done) | rfl
def Q2 (Z : State) (x0 : Addr) (x1 : Int64) (kf : ClassId) (fa : Int64) (fb : Int64) (fc : Int64) (fd : Int64) (h0 : Heap) (n0 : Nat) (v : Option Value) (h : Heap) (L : List Loc) : Prop := v = none ∧ Fr n0 L ∧ Keep h0 h [x0] ∧ Arv Z h x0 kf .long (4 : Int32) [(.long x1), (.long x1), (.long x1), (.long x1)] (.long (0 : Int64))
set_option maxRecDepth 65536 in
set_option maxHeartbeats 40000000 in
theorem rm2 (l : Launch) (Z : State) (a0 : Array Value) (hw : ∀ d ∈ tables_1, d.before a0 Z = true) (ws : List Jvm.Cond) (x0 : Addr) (x1 : Int64) (kf : ClassId) (fa : Int64) (fb : Int64) (fc : Int64) (fd : Int64) (h0 : Heap) (n0 : Nat) (Z0 : n0 ≤ h0.size) (V_x0 : Arv Z h0 x0 kf .long (4 : Int32) [(.long fa), (.long fb), (.long fc), (.long fd)] (.long (0 : Int64))) (g_x0 : n0 ≤ x0) :
    MetFree l ym1 (head1 (Jvm.Cond.code ym1 jdk_65_method_101_code 5 none :: ws) ({ frames := 0, cells := 0, slots := 0, locals := 0 } : Room)) (fun a U => a = #[(.ref x0), (.long x1)] ∧ Z.Warmed39 U.vm ∧ U.heap = h0) (fun _ _ _ _ _ => True) (fun _ U o U' => ∃ v L, o = .returned v ∧ (Q2 Z x0 x1 kf fa fb fc fd h0 n0) v U'.heap L ∧ FrameEnd U o U' L ({ frames := 0, cells := 0, slots := 0, locals := 0 } : Room).cells ({ frames := 0, cells := 0, slots := 0, locals := 0 } : Room).slots) := by
  refine MetFree.of_bodySF (plainFor_of_name pn2) hisR ?_
  intro p e s m args below meth c s₁ Bd hml0 hP hK
  obtain ⟨rfl, hZ, hh⟩ := hP
  have hx := Bd.exec
  have hby := Bd.bytes
  have hml : c.maxLocals = 5 := hml0
  have hlk : meth.locks = false := BodyLoose.notSynchronized Bd
  have hown : s.vm.findClass "java/util/Arrays" = some m.cls := findClass_of_methodNamed Bd.named
  have hnm := (name_of_methodNamed Bd.named Bd.method).1
  have hci : ∀ i v, (i, v) ∈ ([] : List (Nat × Int32)) → (Jvm.Cond.constant "java/util/Arrays" i v).before #[(.ref x0), (.long x1)] s = true := own_ci0
  have hcl : ∀ i v, (i, v) ∈ ([] : List (Nat × Int64)) → (Jvm.Cond.constantLong "java/util/Arrays" i v).before #[(.ref x0), (.long x1)] s = true := own_ci0
  have X0 : Stand p l e ({ frames := 0, cells := 0, slots := 0, locals := 0 } : Room) s m #[(.ref x0), (.long x1)] below meth c s₁ [] 0 0 := Stand.of_body Bd
  have e0 : s₁.heap = h0 := by rw [← hh, Bd.state]; rfl
  have N0 := Fr.nil n0
  show Goes p e below s (Q2 Z x0 x1 kf fa fb fc fd h0 n0) ({ frames := 0, cells := 0, slots := 0, locals := 0 } : Room).cells ({ frames := 0, cells := 0, slots := 0, locals := 0 } : Room).slots (s₁.setTop (entryFrame m #[(.ref x0), (.long x1)] 5))
  refine Goes.cast (ef2 m x0 x1) ?_
  have hLK := own_lk0_ok hw
  have CX := Cx.mk hx hZ hown hci hcl hLK hby
  have K0 : Keep h0 h0 [x0] := Keep.refl h0 _
  refine Goes.hrun X0 e0 CX (own_c2 V_x0 own_n) (L := [.p 0 (.iconst 0) 1, .p 1 (.istore_n 3) 1, .p 2 (.aload_n 0) 1, .l 3 0, .p 4 (.istore 4) 2, .p 6 (.iload_n 3) 1, .p 7 (.iload 4) 2, .c 9 .ge 13 false, .p 12 (.aload_n 0) 1, .p 13 (.iload_n 3) 1, .p 14 (.lload_n 1) 1]) (by decide +kernel) rfl (g' := (mkF m 15 #[rv x0, jv x1, .second, iv 0, iv 4] [(.long x1), (.int 0), (.ref x0)])) rfl ⟨rfl, by decide, trivial⟩ ?_
  intro T2 X2 e2
  refine Goes.sJ X2 e2 hx hZ V_x0 (i := 0) (own_ixok (by decide)) (Nat.le_of_ble_eq_true rfl) N0 g_x0 rfl rfl (hb hby d2_15) ?_
  intro T3 h3 L3 X3 e3 W3 (V_x0 : Arv Z h3 x0 kf .long (4 : Int32) [(.long x1), (.long fb), (.long fc), (.long fd)] (.long (0 : Int64))) N3
  have K3 := K0.wr W3 (Or.inl (List.mem_of_getElem? (i := 0) rfl))
  refine Goes.hrun X3 e3 CX own_n (L := [.p 16 (.iinc 3 1) 3, .p 19 (.goto (-13)) 3, .p 6 (.iload_n 3) 1, .p 7 (.iload 4) 2, .c 9 .ge 13 false, .p 12 (.aload_n 0) 1, .p 13 (.iload_n 3) 1, .p 14 (.lload_n 1) 1]) (by decide +kernel) rfl (g' := (mkF m 15 #[rv x0, jv x1, .second, iv 1, iv 4] [(.long x1), (.int 1), (.ref x0)])) rfl ⟨by decide, trivial⟩ ?_
  intro T5 X5 e5
  refine Goes.sJ X5 e5 hx hZ V_x0 (i := 1) (own_ixok (by decide)) (Nat.le_of_ble_eq_true rfl) N3 g_x0 rfl rfl (hb hby d2_15) ?_
  intro T6 h6 L6 X6 e6 W6 (V_x0 : Arv Z h6 x0 kf .long (4 : Int32) [(.long x1), (.long x1), (.long fc), (.long fd)] (.long (0 : Int64))) N6
  have K6 := K3.wr W6 (Or.inl (List.mem_of_getElem? (i := 0) rfl))
  refine Goes.hrun X6 e6 CX own_n (L := [.p 16 (.iinc 3 1) 3, .p 19 (.goto (-13)) 3, .p 6 (.iload_n 3) 1, .p 7 (.iload 4) 2, .c 9 .ge 13 false, .p 12 (.aload_n 0) 1, .p 13 (.iload_n 3) 1, .p 14 (.lload_n 1) 1]) (by decide +kernel) rfl (g' := (mkF m 15 #[rv x0, jv x1, .second, iv 2, iv 4] [(.long x1), (.int 2), (.ref x0)])) rfl ⟨by decide, trivial⟩ ?_
  intro T8 X8 e8
  refine Goes.sJ X8 e8 hx hZ V_x0 (i := 2) (own_ixok (by decide)) (Nat.le_of_ble_eq_true rfl) N6 g_x0 rfl rfl (hb hby d2_15) ?_
  intro T9 h9 L9 X9 e9 W9 (V_x0 : Arv Z h9 x0 kf .long (4 : Int32) [(.long x1), (.long x1), (.long x1), (.long fd)] (.long (0 : Int64))) N9
  have K9 := K6.wr W9 (Or.inl (List.mem_of_getElem? (i := 0) rfl))
  refine Goes.hrun X9 e9 CX own_n (L := [.p 16 (.iinc 3 1) 3, .p 19 (.goto (-13)) 3, .p 6 (.iload_n 3) 1, .p 7 (.iload 4) 2, .c 9 .ge 13 false, .p 12 (.aload_n 0) 1, .p 13 (.iload_n 3) 1, .p 14 (.lload_n 1) 1]) (by decide +kernel) rfl (g' := (mkF m 15 #[rv x0, jv x1, .second, iv 3, iv 4] [(.long x1), (.int 3), (.ref x0)])) rfl ⟨by decide, trivial⟩ ?_
  intro T11 X11 e11
  refine Goes.sJ X11 e11 hx hZ V_x0 (i := 3) (own_ixok (by decide)) (Nat.le_of_ble_eq_true rfl) N9 g_x0 rfl rfl (hb hby d2_15) ?_
  intro T12 h12 L12 X12 e12 W12 (V_x0 : Arv Z h12 x0 kf .long (4 : Int32) [(.long x1), (.long x1), (.long x1), (.long x1)] (.long (0 : Int64))) N12
  have K12 := K9.wr W12 (Or.inl (List.mem_of_getElem? (i := 0) rfl))
  refine Goes.hrun X12 e12 CX own_n (L := [.p 16 (.iinc 3 1) 3, .p 19 (.goto (-13)) 3, .p 6 (.iload_n 3) 1, .p 7 (.iload 4) 2, .c 9 .ge 13 true]) (by decide +kernel) rfl (g' := (mkF m 22 #[rv x0, jv x1, .second, iv 4, iv 4] [])) rfl ⟨by decide, trivial⟩ ?_
  intro T14 X14 e14
  refine Goes.retV X14 hx hlk Bd.returns (hb hby d2_22) ?_ (by decide) (by decide)
  show (Q2 Z x0 x1 kf fa fb fc fd h0 n0) _ _ _
  rw [e14]
  exact ⟨rfl, N12, K12, V_x0⟩
theorem d3_3 : decode jdk_29_method_70_code 3 = .ok (.ifCond .gt 7, 3) := by decide +kernel
theorem d3_11 : decode jdk_29_method_70_code 11 = .ok (.lreturn, 1) := by decide +kernel
theorem ef3 (m : MethodId) (x0 : Int64) (x1 : Int64) : entryFrame m #[(.long x0), (.long x1)] 4 = (mkF m 0 #[jv x0, .second, jv x1, .second] []) := by first | (simp [entryFrame, mkF, argsToLocals, Value.category]; done) | rfl
def r3 (x0 : Int64) (x1 : Int64) : Int64 := (if x1 < x0 then x1 else x0)
set_option maxRecDepth 65536 in
set_option maxHeartbeats 40000000 in
theorem rm3 (l : Launch) (Z : State) (a0 : Array Value) (hw : ∀ d ∈ tables_1, d.before a0 Z = true) (ws : List Jvm.Cond) (x0 : Int64) (x1 : Int64) (h0 : Heap) (n0 : Nat) (Z0 : n0 ≤ h0.size) :
    MetFree l ym2 (head1 (Jvm.Cond.code ym2 jdk_29_method_70_code 4 (some .long) :: ws) ({ frames := 0, cells := 0, slots := 0, locals := 0 } : Room)) (fun a U => a = #[(.long x0), (.long x1)] ∧ Z.Warmed39 U.vm ∧ U.heap = h0) (fun _ _ _ _ _ => True) (fun _ U o U' => ∃ v L, o = .returned v ∧ (QP (some (.long (r3 x0 x1))) h0 n0) v U'.heap L ∧ FrameEnd U o U' L ({ frames := 0, cells := 0, slots := 0, locals := 0 } : Room).cells ({ frames := 0, cells := 0, slots := 0, locals := 0 } : Room).slots) := by
  refine MetFree.of_bodySF (Jvm.Free.JP.mathPlain rfl (by decide +kernel)) hisR ?_
  intro p e s m args below meth c s₁ Bd hml0 hP hK
  obtain ⟨rfl, hZ, hh⟩ := hP
  have hx := Bd.exec
  have hby := Bd.bytes
  have hml : c.maxLocals = 4 := hml0
  have hlk : meth.locks = false := BodyLoose.notSynchronized Bd
  have hown : s.vm.findClass "java/lang/Math" = some m.cls := findClass_of_methodNamed Bd.named
  have hnm := (name_of_methodNamed Bd.named Bd.method).1
  have hci : ∀ i v, (i, v) ∈ ([] : List (Nat × Int32)) → (Jvm.Cond.constant "java/lang/Math" i v).before #[(.long x0), (.long x1)] s = true := own_ci0
  have hcl : ∀ i v, (i, v) ∈ ([] : List (Nat × Int64)) → (Jvm.Cond.constantLong "java/lang/Math" i v).before #[(.long x0), (.long x1)] s = true := own_ci0
  have X0 : Stand p l e ({ frames := 0, cells := 0, slots := 0, locals := 0 } : Room) s m #[(.long x0), (.long x1)] below meth c s₁ [] 0 0 := Stand.of_body Bd
  have e0 : s₁.heap = h0 := by rw [← hh, Bd.state]; rfl
  have N0 := Fr.nil n0
  show Goes p e below s (QP (some (.long (r3 x0 x1))) h0 n0) ({ frames := 0, cells := 0, slots := 0, locals := 0 } : Room).cells ({ frames := 0, cells := 0, slots := 0, locals := 0 } : Room).slots (s₁.setTop (entryFrame m #[(.long x0), (.long x1)] 4))
  refine Goes.cast (ef3 m x0 x1) ?_
  refine Goes.run X0 hx hown hci hcl hby (L := [(0, .lload_n 0, 1), (1, .lload_n 2, 1), (2, .lcmp, 1)]) (by decide +kernel) rfl (g' := (mkF m 3 #[jv x0, .second, jv x1, .second] [(.int (lcmpW x0 x1))])) rfl ?_
  by_cases hc3_1 : x1 < x0
  · skip
    refine Goes.st (B := s₁.setTop (mkF m 10 #[jv x0, .second, jv x1, .second] [])) (fun t k => ?_) ?_
    · refine XS.ifYes X0.here hx rfl (pc0 := 3) (pc' := 10) rfl (hb hby d3_3) rfl (tltL hc3_1).2.2.1 (by decide) (by decide) ?_
      exact k
    refine Goes.run X0 hx hown hci hcl hby (L := [(10, .lload_n 2, 1)]) (by decide +kernel) rfl (g' := (mkF m 11 #[jv x0, .second, jv x1, .second] [(.long x1)])) rfl ?_
    exact Goes.retJ X0 hx hlk Bd.returns (hb hby d3_11) ⟨(congrArg (fun z => some (Value.long z)) (show (r3 x0 x1) = x1 from (if_pos hc3_1)).symm), N0, e0⟩ (by decide) (by decide)
  · skip
    refine Goes.st (B := s₁.setTop (mkF m 6 #[jv x0, .second, jv x1, .second] [])) (fun t k => ?_) ?_
    · refine XS.ifNo X0.here hx rfl (hb hby d3_3) rfl (fltL hc3_1).2.2.1 ?_
      exact k
    refine Goes.run X0 hx hown hci hcl hby (L := [(6, .lload_n 0, 1), (7, .goto 4, 3)]) (by decide +kernel) rfl (g' := (mkF m 11 #[jv x0, .second, jv x1, .second] [(.long x0)])) rfl ?_
    exact Goes.retJ X0 hx hlk Bd.returns (hb hby d3_11) ⟨(congrArg (fun z => some (Value.long z)) (show (r3 x0 x1) = x0 from (if_neg hc3_1)).symm), N0, e0⟩ (by decide) (by decide)
theorem d4_2 : decode jdk_29_method_65_code 2 = .ok (.if_icmp .lt 7, 3) := by decide +kernel
theorem d4_10 : decode jdk_29_method_65_code 10 = .ok (.ireturn, 1) := by decide +kernel
theorem ef4 (m : MethodId) (x0 : Int32) (x1 : Int32) : entryFrame m #[(.int x0), (.int x1)] 2 = (mkF m 0 #[iv x0, iv x1] []) := by first | (simp [entryFrame, mkF, argsToLocals, Value.category]; done) | rfl
def r4 (x0 : Int32) (x1 : Int32) : Int32 := (if x0 < x1 then x1 else x0)
set_option maxRecDepth 65536 in
set_option maxHeartbeats 40000000 in
theorem rm4 (l : Launch) (Z : State) (a0 : Array Value) (hw : ∀ d ∈ tables_1, d.before a0 Z = true) (ws : List Jvm.Cond) (x0 : Int32) (x1 : Int32) (h0 : Heap) (n0 : Nat) (Z0 : n0 ≤ h0.size) :
    MetFree l ym3 (head1 (Jvm.Cond.code ym3 jdk_29_method_65_code 2 (some .int) :: ws) ({ frames := 0, cells := 0, slots := 0, locals := 0 } : Room)) (fun a U => a = #[(.int x0), (.int x1)] ∧ Z.Warmed39 U.vm ∧ U.heap = h0) (fun _ _ _ _ _ => True) (fun _ U o U' => ∃ v L, o = .returned v ∧ (QP (some (.int (r4 x0 x1))) h0 n0) v U'.heap L ∧ FrameEnd U o U' L ({ frames := 0, cells := 0, slots := 0, locals := 0 } : Room).cells ({ frames := 0, cells := 0, slots := 0, locals := 0 } : Room).slots) := by
  refine MetFree.of_bodySF (Jvm.Free.JP.mathPlain rfl (by decide +kernel)) hisR ?_
  intro p e s m args below meth c s₁ Bd hml0 hP hK
  obtain ⟨rfl, hZ, hh⟩ := hP
  have hx := Bd.exec
  have hby := Bd.bytes
  have hml : c.maxLocals = 2 := hml0
  have hlk : meth.locks = false := BodyLoose.notSynchronized Bd
  have hown : s.vm.findClass "java/lang/Math" = some m.cls := findClass_of_methodNamed Bd.named
  have hnm := (name_of_methodNamed Bd.named Bd.method).1
  have hci : ∀ i v, (i, v) ∈ ([] : List (Nat × Int32)) → (Jvm.Cond.constant "java/lang/Math" i v).before #[(.int x0), (.int x1)] s = true := own_ci0
  have hcl : ∀ i v, (i, v) ∈ ([] : List (Nat × Int64)) → (Jvm.Cond.constantLong "java/lang/Math" i v).before #[(.int x0), (.int x1)] s = true := own_ci0
  have X0 : Stand p l e ({ frames := 0, cells := 0, slots := 0, locals := 0 } : Room) s m #[(.int x0), (.int x1)] below meth c s₁ [] 0 0 := Stand.of_body Bd
  have e0 : s₁.heap = h0 := by rw [← hh, Bd.state]; rfl
  have N0 := Fr.nil n0
  show Goes p e below s (QP (some (.int (r4 x0 x1))) h0 n0) ({ frames := 0, cells := 0, slots := 0, locals := 0 } : Room).cells ({ frames := 0, cells := 0, slots := 0, locals := 0 } : Room).slots (s₁.setTop (entryFrame m #[(.int x0), (.int x1)] 2))
  refine Goes.cast (ef4 m x0 x1) ?_
  refine Goes.run X0 hx hown hci hcl hby (L := [(0, .iload_n 0, 1), (1, .iload_n 1, 1)]) (by decide +kernel) rfl (g' := (mkF m 2 #[iv x0, iv x1] [(.int x1), (.int x0)])) rfl ?_
  by_cases hc2_1 : x0 < x1
  · skip
    refine Goes.st (B := s₁.setTop (mkF m 9 #[iv x0, iv x1] [])) (fun t k => ?_) ?_
    · refine XS.icmpYes X0.here hx rfl (pc0 := 2) (pc' := 9) rfl (hb hby d4_2) rfl (tlt hc2_1).1 (by decide) (by decide) ?_
      exact k
    refine Goes.run X0 hx hown hci hcl hby (L := [(9, .iload_n 1, 1)]) (by decide +kernel) rfl (g' := (mkF m 10 #[iv x0, iv x1] [(.int x1)])) rfl ?_
    exact Goes.retI X0 hx hlk Bd.returns (hb hby d4_10) ⟨(congrArg (fun z => some (Value.int z)) (show (r4 x0 x1) = x1 from (if_pos hc2_1)).symm), N0, e0⟩ (by decide) (by decide)
  · skip
    refine Goes.st (B := s₁.setTop (mkF m 5 #[iv x0, iv x1] [])) (fun t k => ?_) ?_
    · refine XS.icmpNo X0.here hx rfl (hb hby d4_2) rfl (flt hc2_1).1 ?_
      exact k
    refine Goes.run X0 hx hown hci hcl hby (L := [(5, .iload_n 0, 1), (6, .goto 4, 3)]) (by decide +kernel) rfl (g' := (mkF m 10 #[iv x0, iv x1] [(.int x0)])) rfl ?_
    exact Goes.retI X0 hx hlk Bd.returns (hb hby d4_10) ⟨(congrArg (fun z => some (Value.int z)) (show (r4 x0 x1) = x0 from (if_neg hc2_1)).symm), N0, e0⟩ (by decide) (by decide)
def own_lk1 : List (Nat × String × String × String) := [(13, "com/example/kubera/kubera/FlowNetwork$NodeHeap", "keys", "[J"), (19, "com/example/kubera/kubera/FlowNetwork$NodeHeap", "values", "[I"), (23, "com/example/kubera/kubera/FlowNetwork$NodeHeap", "size", "I")]
theorem own_lk1_ok {Z : State} {a0 : Array Value} (hw : ∀ d ∈ tables_1, d.before a0 Z = true) : ∀ q ∈ own_lk1, (Cond.fieldLink "com/example/kubera/kubera/FlowNetwork$NodeHeap" q.1 q.2.1 q.2.2.1 q.2.2.2).before a0 Z = true := fun q hq => hw _ ((by decide +kernel : ∀ q ∈ own_lk1, Cond.fieldLink "com/example/kubera/kubera/FlowNetwork$NodeHeap" q.1 q.2.1 q.2.2.1 q.2.2.2 ∈ tables_1) q hq)
theorem d5_1 : decode prog_8_method_1_code 1 = .ok (.invokespecial 1, 3) := by decide +kernel
theorem d5_7 : decode prog_8_method_1_code 7 = .ok (.invokestatic 7, 3) := by decide +kernel
theorem d5_10 : decode prog_8_method_1_code 10 = .ok (.newarray .long, 2) := by decide +kernel
theorem d5_12 : decode prog_8_method_1_code 12 = .ok (.putfield 13, 3) := by decide +kernel
theorem d5_21 : decode prog_8_method_1_code 21 = .ok (.newarray .int, 2) := by decide +kernel
theorem d5_23 : decode prog_8_method_1_code 23 = .ok (.putfield 19, 3) := by decide +kernel
theorem d5_26 : decode prog_8_method_1_code 26 = .ok (.return_, 1) := by decide +kernel
theorem pn5 : plainName "com/example/kubera/kubera/FlowNetwork$NodeHeap" = true := by first | (simp [plainName, overriddenIn]; done) | decide +kernel
theorem pd5_0 : parseMethodDescriptor "(II)I" = some ⟨[.int, .int], some .int⟩ := by decide +kernel
theorem ef5 (m : MethodId) (x0 : Addr) : entryFrame m #[(.ref x0), (.int 4)] 2 = (mkF m 0 #[rv x0, iv 4] []) := by first | (simp [entryFrame, mkF, argsToLocals, Value.category]; done) | rfl
def Q5 (Z : State) (x0 : Addr) (h0 : Heap) (n0 : Nat) (v : Option Value) (h : Heap) (L : List Loc) : Prop := ∃ (ks vs : Addr) (k_ks k_vs : ClassId), v = none ∧ Fr n0 L ∧ Keep h0 h [x0] ∧ h0.size ≤ ks ∧ h0.size ≤ vs ∧ ks ≠ vs ∧ Exa Z h x0 "com/example/kubera/kubera/FlowNetwork$NodeHeap" ∧ Fld Z h x0 "com/example/kubera/kubera/FlowNetwork$NodeHeap" "keys" "[J" (.ref ks) ∧ Fld Z h x0 "com/example/kubera/kubera/FlowNetwork$NodeHeap" "values" "[I" (.ref vs) ∧ Fld Z h x0 "com/example/kubera/kubera/FlowNetwork$NodeHeap" "size" "I" (.int 0) ∧ Arv Z h ks k_ks .long (4 : Int32) [(.long 0), (.long 0), (.long 0), (.long 0)] (.long 0) ∧ Arv Z h vs k_vs .int (4 : Int32) [(.int 0), (.int 0), (.int 0), (.int 0)] (.int 0)
set_option maxRecDepth 65536 in
set_option maxHeartbeats 40000000 in
theorem rm5 (l : Launch) (Z : State) (a0 : Array Value) (hw : ∀ d ∈ tables_1, d.before a0 Z = true) (ws : List Jvm.Cond) (x0 : Addr) (h0 : Heap) (n0 : Nat) (Z0 : n0 ≤ h0.size) (E_x0 : Exa Z h0 x0 "com/example/kubera/kubera/FlowNetwork$NodeHeap") (F_keys_x0 : Fld Z h0 x0 "com/example/kubera/kubera/FlowNetwork$NodeHeap" "keys" "[J" .null) (F_values_x0 : Fld Z h0 x0 "com/example/kubera/kubera/FlowNetwork$NodeHeap" "values" "[I" .null) (F_size_x0 : Fld Z h0 x0 "com/example/kubera/kubera/FlowNetwork$NodeHeap" "size" "I" (.int 0)) (g_x0 : n0 ≤ x0) :
    MetFree l ym4 (head1 (Jvm.Cond.code ym4 prog_8_method_1_code 2 none :: ws) ({ frames := 1, cells := 2, slots := 8, locals := 14 } : Room)) (fun a U => a = #[(.ref x0), (.int 4)] ∧ Z.Warmed39 U.vm ∧ U.heap = h0) (fun _ _ _ _ _ => True) (fun _ U o U' => ∃ v L, o = .returned v ∧ (Q5 Z x0 h0 n0) v U'.heap L ∧ FrameEnd U o U' L ({ frames := 1, cells := 2, slots := 8, locals := 14 } : Room).cells ({ frames := 1, cells := 2, slots := 8, locals := 14 } : Room).slots) := by
  refine MetFree.of_bodySF (plainFor_of_name pn5) hisR ?_
  intro p e s m args below meth c s₁ Bd hml0 hP hK
  obtain ⟨rfl, hZ, hh⟩ := hP
  have hx := Bd.exec
  have hby := Bd.bytes
  have hml : c.maxLocals = 2 := hml0
  have hlk : meth.locks = false := BodyLoose.notSynchronized Bd
  have hown : s.vm.findClass "com/example/kubera/kubera/FlowNetwork$NodeHeap" = some m.cls := findClass_of_methodNamed Bd.named
  have hnm := (name_of_methodNamed Bd.named Bd.method).1
  have w_10 := hw _ (List.mem_of_getElem? (i := 10) rfl)
  have w_11 := hw _ (List.mem_of_getElem? (i := 11) rfl)
  have w_12 := hw _ (List.mem_of_getElem? (i := 12) rfl)
  have w_17 := hw _ (List.mem_of_getElem? (i := 17) rfl)
  have w_66 := hw _ (List.mem_of_getElem? (i := 66) rfl)
  have w_79 := hw _ (List.mem_of_getElem? (i := 79) rfl)
  have w_84 := hw _ (List.mem_of_getElem? (i := 84) rfl)
  have w_85 := hw _ (List.mem_of_getElem? (i := 85) rfl)
  have w_86 := hw _ (List.mem_of_getElem? (i := 86) rfl)
  have w_87 := hw _ (List.mem_of_getElem? (i := 87) rfl)
  have w_88 := hw _ (List.mem_of_getElem? (i := 88) rfl)
  have w_89 := hw _ (List.mem_of_getElem? (i := 89) rfl)
  have w_90 := hw _ (List.mem_of_getElem? (i := 90) rfl)
  have w_91 := hw _ (List.mem_of_getElem? (i := 91) rfl)
  have w_98 := hw _ (List.mem_of_getElem? (i := 98) rfl)
  have hci : ∀ i v, (i, v) ∈ ([] : List (Nat × Int32)) → (Jvm.Cond.constant "com/example/kubera/kubera/FlowNetwork$NodeHeap" i v).before #[(.ref x0), (.int 4)] s = true := own_ci0
  have hcl : ∀ i v, (i, v) ∈ ([] : List (Nat × Int64)) → (Jvm.Cond.constantLong "com/example/kubera/kubera/FlowNetwork$NodeHeap" i v).before #[(.ref x0), (.int 4)] s = true := own_ci0
  have X0 : Stand p l e ({ frames := 1, cells := 2, slots := 8, locals := 14 } : Room) s m #[(.ref x0), (.int 4)] below meth c s₁ [] 0 0 := Stand.of_body Bd
  have e0 : s₁.heap = h0 := by rw [← hh, Bd.state]; rfl
  have N0 := Fr.nil n0
  show Goes p e below s (Q5 Z x0 h0 n0) ({ frames := 1, cells := 2, slots := 8, locals := 14 } : Room).cells ({ frames := 1, cells := 2, slots := 8, locals := 14 } : Room).slots (s₁.setTop (entryFrame m #[(.ref x0), (.int 4)] 2))
  refine Goes.cast (ef5 m x0) ?_
  have hLK := own_lk1_ok hw
  have CX := Cx.mk hx hZ hown hci hcl hLK hby
  have K0 : Keep h0 h0 [x0] := Keep.refl h0 _
  refine Goes.run X0 hx hown hci hcl hby (L := [(0, .aload_n 0, 1)]) (by decide +kernel) rfl (g' := (mkF m 1 #[rv x0, iv 4] [(.ref x0)])) rfl ?_
  obtain ⟨T1, X1, e1, st1⟩ := initO X0 hx hZ hown w_84 w_10 w_11 e0 (g := (mkF m 1 #[rv x0, iv 4] [(.ref x0)])) rfl (by rw [hml]; rfl) rfl (hb hby d5_1) (by decide) (W := 0) (by show 2 * 0 + _ ≤ _; exact Nat.le_of_eq rfl) (by decide)
  refine Goes.st st1 ?_
  refine Goes.run X1 hx hown hci hcl hby (L := [(4, .aload_n 0, 1), (5, .iload_n 1, 1), (6, .iconst 1, 1)]) (by decide +kernel) rfl (g' := (mkF m 7 #[rv x0, iv 4] [(.int 1), (.int 4), (.ref x0)])) rfl ?_
  obtain ⟨_, _, ⟨T2, L2, k2, n2⟩, -, X2, ⟨Lc2, hQ2, l2, y2, z2⟩, st2⟩ := Jvm.LawKit.callS X1 hx (y := ym3) hown (mvT hZ w_85) (mvT hZ w_86) (mvT hZ w_66) (mvT hZ w_87) (by decide) (backOf (W := 1) (rm4 l Z a0 hw [] (4 : Int32) (1 : Int32) h0 n0 Z0 ) hZ w_87 w_66 (by decide) (by decide)) (g := (mkF m 7 #[rv x0, iv 4] [(.int 1), (.int 4), (.ref x0)])) rfl (by rw [hml]; rfl) (argsL := [(.int 4), (.int 1)]) (rest := [(.ref x0)]) (lenOf pd5_0 rfl) rfl (by show 2 * 0 + _ ≤ _; exact Nat.le_of_eq rfl) (hb hby d5_7) (fun _ _ => ⟨rfl, e1, (by decide : 0 + 0 ≤ _), (by decide : 0 + 0 ≤ _)⟩)
  dsimp only [Pt.U, Pt.locs, Pt.cells, Pt.slots] at X2 l2 y2 z2 st2 hQ2
  subst l2 y2 z2
  obtain ⟨rfl, N2q, e2⟩ := hQ2
  have N2 := Fr.app N0 N2q
  refine Goes.st st2 ?_
  refine Goes.cast (g' := (mkF m 10 #[rv x0, iv 4] [(.int 4), (.ref x0)])) rfl ?_
  obtain ⟨T3, h3, k3, X3, e3, E3, A3, B3, st3⟩ := newPE X2 hx hZ (aty := .long) w_17 e2 (g := (mkF m 10 #[rv x0, iv 4] [(.int 4), (.ref x0)])) rfl (hb hby d5_10) rfl (by decide) (cap := 4) (by decide) (by decide) (by decide) (by decide) (ad := "[J") (by decide)
  obtain ⟨b3, g3⟩ : ∃ z, z = h0.size := ⟨_, rfl⟩
  rw [← g3] at A3 B3 st3
  have ne_x0_b3 : x0 ≠ b3 := Nat.ne_of_lt (Nat.lt_of_lt_of_le E_x0.lt (Nat.le_of_eq g3.symm))
  have g_b3 : n0 ≤ b3 := Nat.le_trans Z0 (Nat.le_of_eq g3.symm)
  have sz_b3 : h0.size ≤ b3 := Nat.le_trans K0.1 (Nat.le_of_eq g3.symm)
  have E_x0 := E_x0.ext E3
  have F_keys_x0 := F_keys_x0.ext E3
  have F_values_x0 := F_values_x0.ext E3
  have F_size_x0 := F_size_x0.ext E3
  have K3 := K0.ext E3
  have E_b3 : Exa Z h3 b3 "[J" := B3
  have V_b3 : Arv Z h3 b3 k3 .long (4 : Int32) [(.long 0), (.long 0), (.long 0), (.long 0)] (.long 0) := (Arv.new A3 (by decide)).pad (pad_rep [] (.long 0) 4)
  refine Goes.st st3 ?_
  obtain ⟨T4, h4, X4, e4, W4, st4⟩ := putF X3 hx hZ hown (host := "") (Or.inl w_88) Via.refl e3 F_keys_x0 E_x0 (Or.inl w_89) w_79 (ty := (.array .long)) (by decide) rfl rfl (g := (mkF m 12 #[rv x0, iv 4] [(.ref b3), (.ref x0)])) rfl rfl (hb hby d5_12)
  have E_x0 := E_x0.wr W4
  have F_keys_x0 : Fld Z h4 x0 "com/example/kubera/kubera/FlowNetwork$NodeHeap" "keys" "[J" (.ref b3) := F_keys_x0.same W4
  have F_values_x0 := own_oth F_values_x0 W4 (Or.inl w_91) (Or.inl w_89)
  have F_size_x0 := own_oth F_size_x0 W4 (Or.inl w_98) (Or.inl w_89)
  have E_b3 := E_b3.wr W4
  have V_b3 := V_b3.other W4 (Ne.symm ne_x0_b3)
  have K4 := K3.wr W4 (Or.inl (List.mem_of_getElem? (i := 0) rfl))
  have N4 := Fr.snoc X4 N2 g_x0
  refine Goes.st st4 ?_
  refine Goes.hrun X4 e4 CX (own_c1 F_keys_x0 (own_c2 V_b3 own_n)) (L := [.p 15 (.aload_n 0) 1, .p 16 (.aload_n 0) 1, .f 17 13 0, .l 20 1]) (by decide +kernel) rfl (g' := (mkF m 21 #[rv x0, iv 4] [(.int 4), (.ref x0)])) rfl ⟨rr, rfl, trivial⟩ ?_
  intro T5 X5 e5
  obtain ⟨T6, h6, k6, X6, e6, E6, A6, B6, st6⟩ := newPE X5 hx hZ (aty := .int) w_12 e5 (g := (mkF m 21 #[rv x0, iv 4] [(.int 4), (.ref x0)])) rfl (hb hby d5_21) rfl (by decide) (cap := 4) (by decide) (by decide) (by decide) (by decide) (ad := "[I") (by decide)
  obtain ⟨b6, g6⟩ : ∃ z, z = h4.size := ⟨_, rfl⟩
  rw [← g6] at A6 B6 st6
  have ne_b3_b6 : b3 ≠ b6 := Nat.ne_of_lt (Nat.lt_of_lt_of_le E_b3.lt (Nat.le_of_eq g6.symm))
  have ne_x0_b6 : x0 ≠ b6 := Nat.ne_of_lt (Nat.lt_of_lt_of_le E_x0.lt (Nat.le_of_eq g6.symm))
  have g_b6 : n0 ≤ b6 := Nat.le_trans (Nat.le_trans Z0 K4.1) (Nat.le_of_eq g6.symm)
  have sz_b6 : h0.size ≤ b6 := Nat.le_trans K4.1 (Nat.le_of_eq g6.symm)
  have E_x0 := E_x0.ext E6
  have F_keys_x0 := F_keys_x0.ext E6
  have F_values_x0 := F_values_x0.ext E6
  have F_size_x0 := F_size_x0.ext E6
  have E_b3 := E_b3.ext E6
  have V_b3 := V_b3.ext E6
  have K6 := K4.ext E6
  have E_b6 : Exa Z h6 b6 "[I" := B6
  have V_b6 : Arv Z h6 b6 k6 .int (4 : Int32) [(.int 0), (.int 0), (.int 0), (.int 0)] (.int 0) := (Arv.new A6 (by decide)).pad (pad_rep [] (.int 0) 4)
  refine Goes.st st6 ?_
  obtain ⟨T7, h7, X7, e7, W7, st7⟩ := putF X6 hx hZ hown (host := "") (Or.inl w_90) Via.refl e6 F_values_x0 E_x0 (Or.inl w_91) w_79 (ty := (.array .int)) (by decide) rfl rfl (g := (mkF m 23 #[rv x0, iv 4] [(.ref b6), (.ref x0)])) rfl rfl (hb hby d5_23)
  have E_x0 := E_x0.wr W7
  have F_keys_x0 := own_oth F_keys_x0 W7 (Or.inl w_89) (Or.inl w_91)
  have F_values_x0 : Fld Z h7 x0 "com/example/kubera/kubera/FlowNetwork$NodeHeap" "values" "[I" (.ref b6) := F_values_x0.same W7
  have F_size_x0 := own_oth F_size_x0 W7 (Or.inl w_98) (Or.inl w_91)
  have E_b3 := E_b3.wr W7
  have V_b3 := V_b3.other W7 (Ne.symm ne_x0_b3)
  have E_b6 := E_b6.wr W7
  have V_b6 := V_b6.other W7 (Ne.symm ne_x0_b6)
  have K7 := K6.wr W7 (Or.inl (List.mem_of_getElem? (i := 0) rfl))
  have N7 := Fr.snoc X7 N4 g_x0
  refine Goes.st st7 ?_
  refine Goes.retV X7 hx hlk Bd.returns (hb hby d5_26) ?_ (by decide) (by decide)
  show (Q5 Z x0 h0 n0) _ _ _
  rw [e7]
  exact ⟨b3, b6, k3, k6, rfl, N7, K7, sz_b3, sz_b6, ne_b3_b6, E_x0, F_keys_x0, F_values_x0, F_size_x0, V_b3, V_b6⟩
theorem d6_51 : decode prog_8_method_3_code 51 = .ok (.dup_x1, 1) := by decide +kernel
theorem d6_54 : decode prog_8_method_3_code 54 = .ok (.putfield 23, 3) := by decide +kernel
theorem d6_130 : decode prog_8_method_3_code 130 = .ok (.lastore, 1) := by decide +kernel
theorem d6_138 : decode prog_8_method_3_code 138 = .ok (.iastore, 1) := by decide +kernel
theorem d6_139 : decode prog_8_method_3_code 139 = .ok (.return_, 1) := by decide +kernel
theorem pn6 : plainName "com/example/kubera/kubera/FlowNetwork$NodeHeap" = true := by first | (simp [plainName, overriddenIn]; done) | decide +kernel
theorem ef6 (m : MethodId) (x0 : Addr) (x1 : Int64) (x2 : Int32) : entryFrame m #[(.ref x0), (.long x1), (.int x2)] 6 = (mkF m 0 #[rv x0, jv x1, .second, iv x2, .unset, .unset] []) := by first | (simp [entryFrame, mkF, argsToLocals, Value.category]; done) | rfl
def Q6 (Z : State) (x0 : Addr) (x1 : Int64) (x2 : Int32) (ks : Addr) (vs : Addr) (kk : ClassId) (kv : ClassId) (ka : Int64) (kb : Int64) (kc : Int64) (kd : Int64) (va : Int32) (vb : Int32) (vc : Int32) (vd : Int32) (h0 : Heap) (n0 : Nat) (v : Option Value) (h : Heap) (L : List Loc) : Prop := v = none ∧ Fr n0 L ∧ Keep h0 h [x0, ks, vs] ∧ Exa Z h x0 "com/example/kubera/kubera/FlowNetwork$NodeHeap" ∧ Fld Z h x0 "com/example/kubera/kubera/FlowNetwork$NodeHeap" "keys" "[J" (.ref ks) ∧ Fld Z h x0 "com/example/kubera/kubera/FlowNetwork$NodeHeap" "values" "[I" (.ref vs) ∧ Fld Z h x0 "com/example/kubera/kubera/FlowNetwork$NodeHeap" "size" "I" (.int 1) ∧ Arv Z h ks kk .long (4 : Int32) [(.long x1), (.long kb), (.long kc), (.long kd)] (.long (0 : Int64)) ∧ Arv Z h vs kv .int (4 : Int32) [(.int x2), (.int vb), (.int vc), (.int vd)] (.int (0 : Int32))
set_option maxRecDepth 65536 in
set_option maxHeartbeats 40000000 in
theorem rm6 (l : Launch) (Z : State) (a0 : Array Value) (hw : ∀ d ∈ tables_1, d.before a0 Z = true) (ws : List Jvm.Cond) (x0 : Addr) (x1 : Int64) (x2 : Int32) (ks : Addr) (vs : Addr) (kk : ClassId) (kv : ClassId) (ka : Int64) (kb : Int64) (kc : Int64) (kd : Int64) (va : Int32) (vb : Int32) (vc : Int32) (vd : Int32) (h0 : Heap) (n0 : Nat) (Z0 : n0 ≤ h0.size) (E_x0 : Exa Z h0 x0 "com/example/kubera/kubera/FlowNetwork$NodeHeap") (F_keys_x0 : Fld Z h0 x0 "com/example/kubera/kubera/FlowNetwork$NodeHeap" "keys" "[J" (.ref ks)) (F_values_x0 : Fld Z h0 x0 "com/example/kubera/kubera/FlowNetwork$NodeHeap" "values" "[I" (.ref vs)) (F_size_x0 : Fld Z h0 x0 "com/example/kubera/kubera/FlowNetwork$NodeHeap" "size" "I" (.int 0)) (V_ks : Arv Z h0 ks kk .long (4 : Int32) [(.long ka), (.long kb), (.long kc), (.long kd)] (.long (0 : Int64))) (V_vs : Arv Z h0 vs kv .int (4 : Int32) [(.int va), (.int vb), (.int vc), (.int vd)] (.int (0 : Int32))) (g_x0 : n0 ≤ x0) (g_ks : n0 ≤ ks) (g_vs : n0 ≤ vs) (ne_x0_ks : x0 ≠ ks) (ne_x0_vs : x0 ≠ vs) (ne_ks_vs : ks ≠ vs) :
    MetFree l ym5 (head1 (Jvm.Cond.code ym5 prog_8_method_3_code 6 none :: ws) ({ frames := 0, cells := 0, slots := 0, locals := 0 } : Room)) (fun a U => a = #[(.ref x0), (.long x1), (.int x2)] ∧ Z.Warmed39 U.vm ∧ U.heap = h0) (fun _ _ _ _ _ => True) (fun _ U o U' => ∃ v L, o = .returned v ∧ (Q6 Z x0 x1 x2 ks vs kk kv ka kb kc kd va vb vc vd h0 n0) v U'.heap L ∧ FrameEnd U o U' L ({ frames := 0, cells := 0, slots := 0, locals := 0 } : Room).cells ({ frames := 0, cells := 0, slots := 0, locals := 0 } : Room).slots) := by
  refine MetFree.of_bodySF (plainFor_of_name pn6) hisR ?_
  intro p e s m args below meth c s₁ Bd hml0 hP hK
  obtain ⟨rfl, hZ, hh⟩ := hP
  have hx := Bd.exec
  have hby := Bd.bytes
  have hml : c.maxLocals = 6 := hml0
  have hlk : meth.locks = false := BodyLoose.notSynchronized Bd
  have hown : s.vm.findClass "com/example/kubera/kubera/FlowNetwork$NodeHeap" = some m.cls := findClass_of_methodNamed Bd.named
  have hnm := (name_of_methodNamed Bd.named Bd.method).1
  have w_79 := hw _ (List.mem_of_getElem? (i := 79) rfl)
  have w_89 := hw _ (List.mem_of_getElem? (i := 89) rfl)
  have w_91 := hw _ (List.mem_of_getElem? (i := 91) rfl)
  have w_97 := hw _ (List.mem_of_getElem? (i := 97) rfl)
  have w_98 := hw _ (List.mem_of_getElem? (i := 98) rfl)
  have hci : ∀ i v, (i, v) ∈ ([] : List (Nat × Int32)) → (Jvm.Cond.constant "com/example/kubera/kubera/FlowNetwork$NodeHeap" i v).before #[(.ref x0), (.long x1), (.int x2)] s = true := own_ci0
  have hcl : ∀ i v, (i, v) ∈ ([] : List (Nat × Int64)) → (Jvm.Cond.constantLong "com/example/kubera/kubera/FlowNetwork$NodeHeap" i v).before #[(.ref x0), (.long x1), (.int x2)] s = true := own_ci0
  have X0 : Stand p l e ({ frames := 0, cells := 0, slots := 0, locals := 0 } : Room) s m #[(.ref x0), (.long x1), (.int x2)] below meth c s₁ [] 0 0 := Stand.of_body Bd
  have e0 : s₁.heap = h0 := by rw [← hh, Bd.state]; rfl
  have N0 := Fr.nil n0
  show Goes p e below s (Q6 Z x0 x1 x2 ks vs kk kv ka kb kc kd va vb vc vd h0 n0) ({ frames := 0, cells := 0, slots := 0, locals := 0 } : Room).cells ({ frames := 0, cells := 0, slots := 0, locals := 0 } : Room).slots (s₁.setTop (entryFrame m #[(.ref x0), (.long x1), (.int x2)] 6))
  refine Goes.cast (ef6 m x0 x1 x2) ?_
  have hLK := own_lk1_ok hw
  have CX := Cx.mk hx hZ hown hci hcl hLK hby
  have K0 : Keep h0 h0 [x0, ks, vs] := Keep.refl h0 _
  refine Goes.hrun X0 e0 CX (own_c1 F_size_x0 (own_c1 F_keys_x0 (own_c2 V_ks own_n))) (L := [.p 0 (.aload_n 0) 1, .f 1 23 0, .p 4 (.aload_n 0) 1, .f 5 13 1, .l 8 2, .c 9 .ne 37 true, .p 46 (.aload_n 0) 1, .p 47 .dup 1, .f 48 23 0]) (by decide +kernel) rfl (g' := (mkF m 51 #[rv x0, jv x1, .second, iv x2, .unset, .unset] [(.int 0), (.ref x0)])) rfl ⟨rr, rr, rfl, by decide, rr, trivial⟩ ?_
  intro T2 X2 e2
  refine Goes.st (B := T2.setTop (mkF m 52 #[rv x0, jv x1, .second, iv x2, .unset, .unset] [(.int 0), (.ref x0), (.int 0)])) (fun t k => ?_) ?_
  · refine XS.dupX1 X2.here hx rfl (hb hby d6_51) rfl rfl rfl ?_
    exact k
  refine Goes.run X2 hx hown hci hcl hby (L := [(52, .iconst 1, 1), (53, .iadd, 1)]) (by decide +kernel) rfl (g' := (mkF m 54 #[rv x0, jv x1, .second, iv x2, .unset, .unset] [(.int 1), (.ref x0), (.int 0)])) rfl ?_
  obtain ⟨T3, h3, X3, e3, W3, st3⟩ := putF X2 hx hZ hown (host := "") (Or.inl w_97) Via.refl e2 F_size_x0 E_x0 (Or.inl w_98) w_79 (ty := .int) (by decide) rfl rfl (g := (mkF m 54 #[rv x0, jv x1, .second, iv x2, .unset, .unset] [(.int 1), (.ref x0), (.int 0)])) rfl rfl (hb hby d6_54)
  have E_x0 := E_x0.wr W3
  have F_keys_x0 := own_oth F_keys_x0 W3 (Or.inl w_89) (Or.inl w_98)
  have F_values_x0 := own_oth F_values_x0 W3 (Or.inl w_91) (Or.inl w_98)
  have F_size_x0 : Fld Z h3 x0 "com/example/kubera/kubera/FlowNetwork$NodeHeap" "size" "I" (.int 1) := F_size_x0.same W3
  have V_ks := V_ks.other W3 (Ne.symm ne_x0_ks)
  have V_vs := V_vs.other W3 (Ne.symm ne_x0_vs)
  have K3 := K0.wr W3 (Or.inl (List.mem_of_getElem? (i := 0) rfl))
  have N3 := Fr.snoc X3 N0 g_x0
  refine Goes.st st3 ?_
  refine Goes.hrun X3 e3 CX (own_c1 F_keys_x0 own_n) (L := [.p 57 (.istore 4) 2, .p 59 (.iload 4) 2, .b 61 .le 62 true, .p 123 (.aload_n 0) 1, .f 124 13 0, .p 127 (.iload 4) 2, .p 129 (.lload_n 1) 1]) (by decide +kernel) rfl (g' := (mkF m 130 #[rv x0, jv x1, .second, iv x2, iv 0, .unset] [(.long x1), (.int 0), (.ref ks)])) rfl ⟨by decide, rr, trivial⟩ ?_
  intro T5 X5 e5
  refine Goes.sJ X5 e5 hx hZ V_ks (i := 0) (own_ixok (by decide)) (Nat.le_of_ble_eq_true rfl) N3 g_ks rfl rfl (hb hby d6_130) ?_
  intro T6 h6 L6 X6 e6 W6 (V_ks : Arv Z h6 ks kk .long (4 : Int32) [(.long x1), (.long kb), (.long kc), (.long kd)] (.long (0 : Int64))) N6
  have E_x0 := E_x0.wr W6
  have F_keys_x0 := F_keys_x0.other W6 (Or.inl ne_x0_ks)
  have F_values_x0 := F_values_x0.other W6 (Or.inl ne_x0_ks)
  have F_size_x0 := F_size_x0.other W6 (Or.inl ne_x0_ks)
  have V_vs := V_vs.other W6 (Ne.symm ne_ks_vs)
  have K6 := K3.wr W6 (Or.inl (List.mem_of_getElem? (i := 1) rfl))
  refine Goes.hrun X6 e6 CX (own_c1 F_values_x0 own_n) (L := [.p 131 (.aload_n 0) 1, .f 132 19 0, .p 135 (.iload 4) 2, .p 137 (.iload_n 3) 1]) (by decide +kernel) rfl (g' := (mkF m 138 #[rv x0, jv x1, .second, iv x2, iv 0, .unset] [(.int x2), (.int 0), (.ref vs)])) rfl ⟨rr, trivial⟩ ?_
  intro T7 X7 e7
  refine Goes.sI X7 e7 hx hZ V_vs (i := 0) (own_ixok (by decide)) (Nat.le_of_ble_eq_true rfl) N6 g_vs rfl rfl (hb hby d6_138) ?_
  intro T8 h8 L8 X8 e8 W8 (V_vs : Arv Z h8 vs kv .int (4 : Int32) [(.int x2), (.int vb), (.int vc), (.int vd)] (.int (0 : Int32))) N8
  have E_x0 := E_x0.wr W8
  have F_keys_x0 := F_keys_x0.other W8 (Or.inl ne_x0_vs)
  have F_values_x0 := F_values_x0.other W8 (Or.inl ne_x0_vs)
  have F_size_x0 := F_size_x0.other W8 (Or.inl ne_x0_vs)
  have V_ks := V_ks.other W8 ne_ks_vs
  have K8 := K6.wr W8 (Or.inl (List.mem_of_getElem? (i := 2) rfl))
  refine Goes.retV X8 hx hlk Bd.returns (hb hby d6_139) ?_ (by decide) (by decide)
  show (Q6 Z x0 x1 x2 ks vs kk kv ka kb kc kd va vb vc vd h0 n0) _ _ _
  rw [e8]
  exact ⟨rfl, N8, K8, E_x0, F_keys_x0, F_values_x0, F_size_x0, V_ks, V_vs⟩
theorem d6_101 : decode prog_8_method_3_code 101 = .ok (.lastore, 1) := by decide +kernel
theorem d6_115 : decode prog_8_method_3_code 115 = .ok (.iastore, 1) := by decide +kernel
theorem pn7 : plainName "com/example/kubera/kubera/FlowNetwork$NodeHeap" = true := by first | (simp [plainName, overriddenIn]; done) | decide +kernel
theorem ef7 (m : MethodId) (x0 : Addr) (x1 : Int64) (x2 : Int32) : entryFrame m #[(.ref x0), (.long x1), (.int x2)] 6 = (mkF m 0 #[rv x0, jv x1, .second, iv x2, .unset, .unset] []) := by first | (simp [entryFrame, mkF, argsToLocals, Value.category]; done) | rfl
def Q7 (Z : State) (x0 : Addr) (x1 : Int64) (x2 : Int32) (ks : Addr) (vs : Addr) (kk : ClassId) (kv : ClassId) (ka : Int64) (kb : Int64) (kc : Int64) (kd : Int64) (va : Int32) (vb : Int32) (vc : Int32) (vd : Int32) (h0 : Heap) (n0 : Nat) (v : Option Value) (h : Heap) (L : List Loc) : Prop := v = none ∧ Fr n0 L ∧ Keep h0 h [x0, ks, vs] ∧ Exa Z h x0 "com/example/kubera/kubera/FlowNetwork$NodeHeap" ∧ Fld Z h x0 "com/example/kubera/kubera/FlowNetwork$NodeHeap" "keys" "[J" (.ref ks) ∧ Fld Z h x0 "com/example/kubera/kubera/FlowNetwork$NodeHeap" "values" "[I" (.ref vs) ∧ Fld Z h x0 "com/example/kubera/kubera/FlowNetwork$NodeHeap" "size" "I" (.int 2) ∧ Arv Z h ks kk .long (4 : Int32) [(.long x1), (.long ka), (.long kc), (.long kd)] (.long (0 : Int64)) ∧ Arv Z h vs kv .int (4 : Int32) [(.int x2), (.int va), (.int vc), (.int vd)] (.int (0 : Int32))
set_option maxRecDepth 65536 in
set_option maxHeartbeats 40000000 in
theorem rm7 (l : Launch) (Z : State) (a0 : Array Value) (hw : ∀ d ∈ tables_1, d.before a0 Z = true) (ws : List Jvm.Cond) (x0 : Addr) (x1 : Int64) (x2 : Int32) (ks : Addr) (vs : Addr) (kk : ClassId) (kv : ClassId) (ka : Int64) (kb : Int64) (kc : Int64) (kd : Int64) (va : Int32) (vb : Int32) (vc : Int32) (vd : Int32) (h0 : Heap) (n0 : Nat) (Z0 : n0 ≤ h0.size) (E_x0 : Exa Z h0 x0 "com/example/kubera/kubera/FlowNetwork$NodeHeap") (F_keys_x0 : Fld Z h0 x0 "com/example/kubera/kubera/FlowNetwork$NodeHeap" "keys" "[J" (.ref ks)) (F_values_x0 : Fld Z h0 x0 "com/example/kubera/kubera/FlowNetwork$NodeHeap" "values" "[I" (.ref vs)) (F_size_x0 : Fld Z h0 x0 "com/example/kubera/kubera/FlowNetwork$NodeHeap" "size" "I" (.int 1)) (V_ks : Arv Z h0 ks kk .long (4 : Int32) [(.long ka), (.long kb), (.long kc), (.long kd)] (.long (0 : Int64))) (V_vs : Arv Z h0 vs kv .int (4 : Int32) [(.int va), (.int vb), (.int vc), (.int vd)] (.int (0 : Int32))) (g_x0 : n0 ≤ x0) (g_ks : n0 ≤ ks) (g_vs : n0 ≤ vs) (ne_x0_ks : x0 ≠ ks) (ne_x0_vs : x0 ≠ vs) (ne_ks_vs : ks ≠ vs) (hlt : x1 < ka) :
    MetFree l ym5 (head1 (Jvm.Cond.code ym5 prog_8_method_3_code 6 none :: ws) ({ frames := 0, cells := 0, slots := 0, locals := 0 } : Room)) (fun a U => a = #[(.ref x0), (.long x1), (.int x2)] ∧ Z.Warmed39 U.vm ∧ U.heap = h0) (fun _ _ _ _ _ => True) (fun _ U o U' => ∃ v L, o = .returned v ∧ (Q7 Z x0 x1 x2 ks vs kk kv ka kb kc kd va vb vc vd h0 n0) v U'.heap L ∧ FrameEnd U o U' L ({ frames := 0, cells := 0, slots := 0, locals := 0 } : Room).cells ({ frames := 0, cells := 0, slots := 0, locals := 0 } : Room).slots) := by
  refine MetFree.of_bodySF (plainFor_of_name pn7) hisR ?_
  intro p e s m args below meth c s₁ Bd hml0 hP hK
  obtain ⟨rfl, hZ, hh⟩ := hP
  have hx := Bd.exec
  have hby := Bd.bytes
  have hml : c.maxLocals = 6 := hml0
  have hlk : meth.locks = false := BodyLoose.notSynchronized Bd
  have hown : s.vm.findClass "com/example/kubera/kubera/FlowNetwork$NodeHeap" = some m.cls := findClass_of_methodNamed Bd.named
  have hnm := (name_of_methodNamed Bd.named Bd.method).1
  have w_79 := hw _ (List.mem_of_getElem? (i := 79) rfl)
  have w_89 := hw _ (List.mem_of_getElem? (i := 89) rfl)
  have w_91 := hw _ (List.mem_of_getElem? (i := 91) rfl)
  have w_97 := hw _ (List.mem_of_getElem? (i := 97) rfl)
  have w_98 := hw _ (List.mem_of_getElem? (i := 98) rfl)
  have hci : ∀ i v, (i, v) ∈ ([] : List (Nat × Int32)) → (Jvm.Cond.constant "com/example/kubera/kubera/FlowNetwork$NodeHeap" i v).before #[(.ref x0), (.long x1), (.int x2)] s = true := own_ci0
  have hcl : ∀ i v, (i, v) ∈ ([] : List (Nat × Int64)) → (Jvm.Cond.constantLong "com/example/kubera/kubera/FlowNetwork$NodeHeap" i v).before #[(.ref x0), (.long x1), (.int x2)] s = true := own_ci0
  have X0 : Stand p l e ({ frames := 0, cells := 0, slots := 0, locals := 0 } : Room) s m #[(.ref x0), (.long x1), (.int x2)] below meth c s₁ [] 0 0 := Stand.of_body Bd
  have e0 : s₁.heap = h0 := by rw [← hh, Bd.state]; rfl
  have N0 := Fr.nil n0
  show Goes p e below s (Q7 Z x0 x1 x2 ks vs kk kv ka kb kc kd va vb vc vd h0 n0) ({ frames := 0, cells := 0, slots := 0, locals := 0 } : Room).cells ({ frames := 0, cells := 0, slots := 0, locals := 0 } : Room).slots (s₁.setTop (entryFrame m #[(.ref x0), (.long x1), (.int x2)] 6))
  refine Goes.cast (ef7 m x0 x1 x2) ?_
  have hLK := own_lk1_ok hw
  have CX := Cx.mk hx hZ hown hci hcl hLK hby
  have K0 : Keep h0 h0 [x0, ks, vs] := Keep.refl h0 _
  refine Goes.hrun X0 e0 CX (own_c1 F_size_x0 (own_c1 F_keys_x0 (own_c2 V_ks own_n))) (L := [.p 0 (.aload_n 0) 1, .f 1 23 0, .p 4 (.aload_n 0) 1, .f 5 13 1, .l 8 2, .c 9 .ne 37 true, .p 46 (.aload_n 0) 1, .p 47 .dup 1, .f 48 23 0]) (by decide +kernel) rfl (g' := (mkF m 51 #[rv x0, jv x1, .second, iv x2, .unset, .unset] [(.int 1), (.ref x0)])) rfl ⟨rr, rr, rfl, by decide, rr, trivial⟩ ?_
  intro T2 X2 e2
  refine Goes.st (B := T2.setTop (mkF m 52 #[rv x0, jv x1, .second, iv x2, .unset, .unset] [(.int 1), (.ref x0), (.int 1)])) (fun t k => ?_) ?_
  · refine XS.dupX1 X2.here hx rfl (hb hby d6_51) rfl rfl rfl ?_
    exact k
  refine Goes.run X2 hx hown hci hcl hby (L := [(52, .iconst 1, 1), (53, .iadd, 1)]) (by decide +kernel) rfl (g' := (mkF m 54 #[rv x0, jv x1, .second, iv x2, .unset, .unset] [(.int 2), (.ref x0), (.int 1)])) rfl ?_
  obtain ⟨T3, h3, X3, e3, W3, st3⟩ := putF X2 hx hZ hown (host := "") (Or.inl w_97) Via.refl e2 F_size_x0 E_x0 (Or.inl w_98) w_79 (ty := .int) (by decide) rfl rfl (g := (mkF m 54 #[rv x0, jv x1, .second, iv x2, .unset, .unset] [(.int 2), (.ref x0), (.int 1)])) rfl rfl (hb hby d6_54)
  have E_x0 := E_x0.wr W3
  have F_keys_x0 := own_oth F_keys_x0 W3 (Or.inl w_89) (Or.inl w_98)
  have F_values_x0 := own_oth F_values_x0 W3 (Or.inl w_91) (Or.inl w_98)
  have F_size_x0 : Fld Z h3 x0 "com/example/kubera/kubera/FlowNetwork$NodeHeap" "size" "I" (.int 2) := F_size_x0.same W3
  have V_ks := V_ks.other W3 (Ne.symm ne_x0_ks)
  have V_vs := V_vs.other W3 (Ne.symm ne_x0_vs)
  have K3 := K0.wr W3 (Or.inl (List.mem_of_getElem? (i := 0) rfl))
  have N3 := Fr.snoc X3 N0 g_x0
  refine Goes.st st3 ?_
  refine Goes.hrun X3 e3 CX (own_c1 F_keys_x0 (own_c2 V_ks own_n)) (L := [.p 57 (.istore 4) 2, .p 59 (.iload 4) 2, .b 61 .le 62 false, .p 64 (.aload_n 0) 1, .f 65 13 0, .p 68 (.iload 4) 2, .p 70 (.iconst 1) 1, .p 71 .isub 1, .p 72 (.iconst 2) 1, .p 73 .idiv 1, .J 74 1 0, .p 75 (.lload_n 1) 1, .p 76 .lcmp 1, .b 77 .le 46 false, .p 80 (.iload 4) 2, .p 82 (.iconst 1) 1]) (by decide +kernel) rfl (g' := (mkF m 83 #[rv x0, jv x1, .second, iv x2, iv 1, .unset] [(.int 1), (.int 1)])) rfl ⟨by decide, rr, ra (by decide), (tltL (hlt : x1 < ka)).2.2.2, trivial⟩ ?_
  intro T6 X6 e6
  refine Goes.hrun X6 e6 CX (own_c1 F_keys_x0 (own_c2 V_ks own_n)) (L := [.p 83 .isub 1, .p 84 (.iconst 2) 1, .p 85 .idiv 1, .p 86 (.istore 5) 2, .p 88 (.aload_n 0) 1, .f 89 13 0, .p 92 (.iload 4) 2, .p 94 (.aload_n 0) 1, .f 95 13 0, .p 98 (.iload 5) 2, .J 100 1 0]) (by decide +kernel) rfl (g' := (mkF m 101 #[rv x0, jv x1, .second, iv x2, iv 1, iv 0] [(.long ka), (.int 1), (.ref ks)])) rfl ⟨rr, rr, ra (by decide), trivial⟩ ?_
  intro T7 X7 e7
  refine Goes.sJ X7 e7 hx hZ V_ks (i := 1) (own_ixok (by decide)) (Nat.le_of_ble_eq_true rfl) N3 g_ks rfl rfl (hb hby d6_101) ?_
  intro T8 h8 L8 X8 e8 W8 (V_ks : Arv Z h8 ks kk .long (4 : Int32) [(.long ka), (.long ka), (.long kc), (.long kd)] (.long (0 : Int64))) N8
  have E_x0 := E_x0.wr W8
  have F_keys_x0 := F_keys_x0.other W8 (Or.inl ne_x0_ks)
  have F_values_x0 := F_values_x0.other W8 (Or.inl ne_x0_ks)
  have F_size_x0 := F_size_x0.other W8 (Or.inl ne_x0_ks)
  have V_vs := V_vs.other W8 (Ne.symm ne_ks_vs)
  have K8 := K3.wr W8 (Or.inl (List.mem_of_getElem? (i := 1) rfl))
  refine Goes.hrun X8 e8 CX (own_c1 F_values_x0 (own_c2 V_vs own_n)) (L := [.p 102 (.aload_n 0) 1, .f 103 19 0, .p 106 (.iload 4) 2, .p 108 (.aload_n 0) 1, .f 109 19 0, .p 112 (.iload 5) 2, .I 114 1 0]) (by decide +kernel) rfl (g' := (mkF m 115 #[rv x0, jv x1, .second, iv x2, iv 1, iv 0] [(.int va), (.int 1), (.ref vs)])) rfl ⟨rr, rr, ra (by decide), trivial⟩ ?_
  intro T9 X9 e9
  refine Goes.sI X9 e9 hx hZ V_vs (i := 1) (own_ixok (by decide)) (Nat.le_of_ble_eq_true rfl) N8 g_vs rfl rfl (hb hby d6_115) ?_
  intro T10 h10 L10 X10 e10 W10 (V_vs : Arv Z h10 vs kv .int (4 : Int32) [(.int va), (.int va), (.int vc), (.int vd)] (.int (0 : Int32))) N10
  have E_x0 := E_x0.wr W10
  have F_keys_x0 := F_keys_x0.other W10 (Or.inl ne_x0_vs)
  have F_values_x0 := F_values_x0.other W10 (Or.inl ne_x0_vs)
  have F_size_x0 := F_size_x0.other W10 (Or.inl ne_x0_vs)
  have V_ks := V_ks.other W10 ne_ks_vs
  have K10 := K8.wr W10 (Or.inl (List.mem_of_getElem? (i := 2) rfl))
  refine Goes.hrun X10 e10 CX (own_c1 F_keys_x0 own_n) (L := [.p 116 (.iload 5) 2, .p 118 (.istore 4) 2, .p 120 (.goto (-61)) 3, .p 59 (.iload 4) 2, .b 61 .le 62 true, .p 123 (.aload_n 0) 1, .f 124 13 0, .p 127 (.iload 4) 2, .p 129 (.lload_n 1) 1]) (by decide +kernel) rfl (g' := (mkF m 130 #[rv x0, jv x1, .second, iv x2, iv 0, iv 0] [(.long x1), (.int 0), (.ref ks)])) rfl ⟨by decide, rr, trivial⟩ ?_
  intro T12 X12 e12
  refine Goes.sJ X12 e12 hx hZ V_ks (i := 0) (own_ixok (by decide)) (Nat.le_of_ble_eq_true rfl) N10 g_ks rfl rfl (hb hby d6_130) ?_
  intro T13 h13 L13 X13 e13 W13 (V_ks : Arv Z h13 ks kk .long (4 : Int32) [(.long x1), (.long ka), (.long kc), (.long kd)] (.long (0 : Int64))) N13
  have E_x0 := E_x0.wr W13
  have F_keys_x0 := F_keys_x0.other W13 (Or.inl ne_x0_ks)
  have F_values_x0 := F_values_x0.other W13 (Or.inl ne_x0_ks)
  have F_size_x0 := F_size_x0.other W13 (Or.inl ne_x0_ks)
  have V_vs := V_vs.other W13 (Ne.symm ne_ks_vs)
  have K13 := K10.wr W13 (Or.inl (List.mem_of_getElem? (i := 1) rfl))
  refine Goes.hrun X13 e13 CX (own_c1 F_values_x0 own_n) (L := [.p 131 (.aload_n 0) 1, .f 132 19 0, .p 135 (.iload 4) 2, .p 137 (.iload_n 3) 1]) (by decide +kernel) rfl (g' := (mkF m 138 #[rv x0, jv x1, .second, iv x2, iv 0, iv 0] [(.int x2), (.int 0), (.ref vs)])) rfl ⟨rr, trivial⟩ ?_
  intro T14 X14 e14
  refine Goes.sI X14 e14 hx hZ V_vs (i := 0) (own_ixok (by decide)) (Nat.le_of_ble_eq_true rfl) N13 g_vs rfl rfl (hb hby d6_138) ?_
  intro T15 h15 L15 X15 e15 W15 (V_vs : Arv Z h15 vs kv .int (4 : Int32) [(.int x2), (.int va), (.int vc), (.int vd)] (.int (0 : Int32))) N15
  have E_x0 := E_x0.wr W15
  have F_keys_x0 := F_keys_x0.other W15 (Or.inl ne_x0_vs)
  have F_values_x0 := F_values_x0.other W15 (Or.inl ne_x0_vs)
  have F_size_x0 := F_size_x0.other W15 (Or.inl ne_x0_vs)
  have V_ks := V_ks.other W15 ne_ks_vs
  have K15 := K13.wr W15 (Or.inl (List.mem_of_getElem? (i := 2) rfl))
  refine Goes.retV X15 hx hlk Bd.returns (hb hby d6_139) ?_ (by decide) (by decide)
  show (Q7 Z x0 x1 x2 ks vs kk kv ka kb kc kd va vb vc vd h0 n0) _ _ _
  rw [e15]
  exact ⟨rfl, N15, K15, E_x0, F_keys_x0, F_values_x0, F_size_x0, V_ks, V_vs⟩
theorem d7_14 : decode prog_8_method_4_code 14 = .ok (.putfield 23, 3) := by decide +kernel
theorem d7_153 : decode prog_8_method_4_code 153 = .ok (.lastore, 1) := by decide +kernel
theorem d7_162 : decode prog_8_method_4_code 162 = .ok (.iastore, 1) := by decide +kernel
theorem d7_164 : decode prog_8_method_4_code 164 = .ok (.ireturn, 1) := by decide +kernel
theorem pn8 : plainName "com/example/kubera/kubera/FlowNetwork$NodeHeap" = true := by first | (simp [plainName, overriddenIn]; done) | decide +kernel
theorem ef8 (m : MethodId) (x0 : Addr) : entryFrame m #[(.ref x0)] 7 = (mkF m 0 #[rv x0, .unset, .unset, .unset, .unset, .unset, .unset] []) := by first | (simp [entryFrame, mkF, argsToLocals, Value.category]; done) | rfl
def Q8 (Z : State) (x0 : Addr) (ks : Addr) (vs : Addr) (kk : ClassId) (kv : ClassId) (ka : Int64) (kb : Int64) (kc : Int64) (kd : Int64) (va : Int32) (vb : Int32) (vc : Int32) (vd : Int32) (h0 : Heap) (n0 : Nat) (v : Option Value) (h : Heap) (L : List Loc) : Prop := v = some (.int va) ∧ Fr n0 L ∧ Keep h0 h [x0, ks, vs] ∧ Exa Z h x0 "com/example/kubera/kubera/FlowNetwork$NodeHeap" ∧ Fld Z h x0 "com/example/kubera/kubera/FlowNetwork$NodeHeap" "keys" "[J" (.ref ks) ∧ Fld Z h x0 "com/example/kubera/kubera/FlowNetwork$NodeHeap" "values" "[I" (.ref vs) ∧ Fld Z h x0 "com/example/kubera/kubera/FlowNetwork$NodeHeap" "size" "I" (.int 0) ∧ Arv Z h ks kk .long (4 : Int32) [(.long ka), (.long kb), (.long kc), (.long kd)] (.long (0 : Int64)) ∧ Arv Z h vs kv .int (4 : Int32) [(.int va), (.int vb), (.int vc), (.int vd)] (.int (0 : Int32))
set_option maxRecDepth 65536 in
set_option maxHeartbeats 40000000 in
theorem rm8 (l : Launch) (Z : State) (a0 : Array Value) (hw : ∀ d ∈ tables_1, d.before a0 Z = true) (ws : List Jvm.Cond) (x0 : Addr) (ks : Addr) (vs : Addr) (kk : ClassId) (kv : ClassId) (ka : Int64) (kb : Int64) (kc : Int64) (kd : Int64) (va : Int32) (vb : Int32) (vc : Int32) (vd : Int32) (h0 : Heap) (n0 : Nat) (Z0 : n0 ≤ h0.size) (E_x0 : Exa Z h0 x0 "com/example/kubera/kubera/FlowNetwork$NodeHeap") (F_keys_x0 : Fld Z h0 x0 "com/example/kubera/kubera/FlowNetwork$NodeHeap" "keys" "[J" (.ref ks)) (F_values_x0 : Fld Z h0 x0 "com/example/kubera/kubera/FlowNetwork$NodeHeap" "values" "[I" (.ref vs)) (F_size_x0 : Fld Z h0 x0 "com/example/kubera/kubera/FlowNetwork$NodeHeap" "size" "I" (.int 1)) (V_ks : Arv Z h0 ks kk .long (4 : Int32) [(.long ka), (.long kb), (.long kc), (.long kd)] (.long (0 : Int64))) (V_vs : Arv Z h0 vs kv .int (4 : Int32) [(.int va), (.int vb), (.int vc), (.int vd)] (.int (0 : Int32))) (g_x0 : n0 ≤ x0) (g_ks : n0 ≤ ks) (g_vs : n0 ≤ vs) (ne_x0_ks : x0 ≠ ks) (ne_x0_vs : x0 ≠ vs) (ne_ks_vs : ks ≠ vs) :
    MetFree l ym6 (head1 (Jvm.Cond.code ym6 prog_8_method_4_code 7 (some .int) :: ws) ({ frames := 0, cells := 0, slots := 0, locals := 0 } : Room)) (fun a U => a = #[(.ref x0)] ∧ Z.Warmed39 U.vm ∧ U.heap = h0) (fun _ _ _ _ _ => True) (fun _ U o U' => ∃ v L, o = .returned v ∧ (Q8 Z x0 ks vs kk kv ka kb kc kd va vb vc vd h0 n0) v U'.heap L ∧ FrameEnd U o U' L ({ frames := 0, cells := 0, slots := 0, locals := 0 } : Room).cells ({ frames := 0, cells := 0, slots := 0, locals := 0 } : Room).slots) := by
  refine MetFree.of_bodySF (plainFor_of_name pn8) hisR ?_
  intro p e s m args below meth c s₁ Bd hml0 hP hK
  obtain ⟨rfl, hZ, hh⟩ := hP
  have hx := Bd.exec
  have hby := Bd.bytes
  have hml : c.maxLocals = 7 := hml0
  have hlk : meth.locks = false := BodyLoose.notSynchronized Bd
  have hown : s.vm.findClass "com/example/kubera/kubera/FlowNetwork$NodeHeap" = some m.cls := findClass_of_methodNamed Bd.named
  have hnm := (name_of_methodNamed Bd.named Bd.method).1
  have w_79 := hw _ (List.mem_of_getElem? (i := 79) rfl)
  have w_89 := hw _ (List.mem_of_getElem? (i := 89) rfl)
  have w_91 := hw _ (List.mem_of_getElem? (i := 91) rfl)
  have w_97 := hw _ (List.mem_of_getElem? (i := 97) rfl)
  have w_98 := hw _ (List.mem_of_getElem? (i := 98) rfl)
  have hci : ∀ i v, (i, v) ∈ ([] : List (Nat × Int32)) → (Jvm.Cond.constant "com/example/kubera/kubera/FlowNetwork$NodeHeap" i v).before #[(.ref x0)] s = true := own_ci0
  have hcl : ∀ i v, (i, v) ∈ ([] : List (Nat × Int64)) → (Jvm.Cond.constantLong "com/example/kubera/kubera/FlowNetwork$NodeHeap" i v).before #[(.ref x0)] s = true := own_ci0
  have X0 : Stand p l e ({ frames := 0, cells := 0, slots := 0, locals := 0 } : Room) s m #[(.ref x0)] below meth c s₁ [] 0 0 := Stand.of_body Bd
  have e0 : s₁.heap = h0 := by rw [← hh, Bd.state]; rfl
  have N0 := Fr.nil n0
  show Goes p e below s (Q8 Z x0 ks vs kk kv ka kb kc kd va vb vc vd h0 n0) ({ frames := 0, cells := 0, slots := 0, locals := 0 } : Room).cells ({ frames := 0, cells := 0, slots := 0, locals := 0 } : Room).slots (s₁.setTop (entryFrame m #[(.ref x0)] 7))
  refine Goes.cast (ef8 m x0) ?_
  have hLK := own_lk1_ok hw
  have CX := Cx.mk hx hZ hown hci hcl hLK hby
  have K0 : Keep h0 h0 [x0, ks, vs] := Keep.refl h0 _
  refine Goes.hrun X0 e0 CX (own_c1 F_values_x0 (own_c2 V_vs (own_c1 F_size_x0 own_n))) (L := [.p 0 (.aload_n 0) 1, .f 1 19 0, .p 4 (.iconst 0) 1, .I 5 1 0, .p 6 (.istore_n 1) 1, .p 7 (.aload_n 0) 1, .p 8 .dup 1, .f 9 23 2, .p 12 (.iconst 1) 1, .p 13 .isub 1]) (by decide +kernel) rfl (g' := (mkF m 14 #[rv x0, iv va, .unset, .unset, .unset, .unset, .unset] [(.int 0), (.ref x0)])) rfl ⟨rr, ra (by decide), rr, trivial⟩ ?_
  intro T1 X1 e1
  obtain ⟨T2, h2, X2, e2, W2, st2⟩ := putF X1 hx hZ hown (host := "") (Or.inl w_97) Via.refl e1 F_size_x0 E_x0 (Or.inl w_98) w_79 (ty := .int) (by decide) rfl rfl (g := (mkF m 14 #[rv x0, iv va, .unset, .unset, .unset, .unset, .unset] [(.int 0), (.ref x0)])) rfl rfl (hb hby d7_14)
  have E_x0 := E_x0.wr W2
  have F_keys_x0 := own_oth F_keys_x0 W2 (Or.inl w_89) (Or.inl w_98)
  have F_values_x0 := own_oth F_values_x0 W2 (Or.inl w_91) (Or.inl w_98)
  have F_size_x0 : Fld Z h2 x0 "com/example/kubera/kubera/FlowNetwork$NodeHeap" "size" "I" (.int 0) := F_size_x0.same W2
  have V_ks := V_ks.other W2 (Ne.symm ne_x0_ks)
  have V_vs := V_vs.other W2 (Ne.symm ne_x0_vs)
  have K2 := K0.wr W2 (Or.inl (List.mem_of_getElem? (i := 0) rfl))
  have N2 := Fr.snoc X2 N0 g_x0
  refine Goes.st st2 ?_
  refine Goes.hrun X2 e2 CX (own_c1 F_keys_x0 (own_c1 F_size_x0 (own_c2 V_ks (own_c1 F_values_x0 (own_c2 V_vs own_n))))) (L := [.p 17 (.aload_n 0) 1, .f 18 13 0, .p 21 (.aload_n 0) 1, .f 22 23 1, .J 25 2 0, .p 26 (.lstore_n 2) 1, .p 27 (.aload_n 0) 1, .f 28 19 3, .p 31 (.aload_n 0) 1, .f 32 23 1, .I 35 4 0, .p 36 (.istore 4) 2, .p 38 (.iconst 0) 1, .p 39 (.istore 5) 2, .p 41 (.iconst 2) 1, .p 42 (.iload 5) 2]) (by decide +kernel) rfl (g' := (mkF m 44 #[rv x0, iv va, jv ka, .second, iv va, iv 0, .unset] [(.int 0), (.int 2)])) rfl ⟨rr, rr, ra (by decide), rr, rr, ra (by decide), trivial⟩ ?_
  intro T4 X4 e4
  refine Goes.hrun X4 e4 CX (own_c1 F_size_x0 (own_c1 F_keys_x0 own_n)) (L := [.p 44 .imul 1, .p 45 (.iconst 1) 1, .p 46 .iadd 1, .p 47 (.aload_n 0) 1, .f 48 23 0, .c 51 .ge 95 true, .p 146 (.aload_n 0) 1, .f 147 13 1, .p 150 (.iload 5) 2, .p 152 (.lload_n 2) 1]) (by decide +kernel) rfl (g' := (mkF m 153 #[rv x0, iv va, jv ka, .second, iv va, iv 0, .unset] [(.long ka), (.int 0), (.ref ks)])) rfl ⟨rr, by decide, rr, trivial⟩ ?_
  intro T5 X5 e5
  refine Goes.sJ X5 e5 hx hZ V_ks (i := 0) (own_ixok (by decide)) (Nat.le_of_ble_eq_true rfl) N2 g_ks rfl rfl (hb hby d7_153) ?_
  intro T6 h6 L6 X6 e6 W6 (V_ks : Arv Z h6 ks kk .long (4 : Int32) [(.long ka), (.long kb), (.long kc), (.long kd)] (.long (0 : Int64))) N6
  have E_x0 := E_x0.wr W6
  have F_keys_x0 := F_keys_x0.other W6 (Or.inl ne_x0_ks)
  have F_values_x0 := F_values_x0.other W6 (Or.inl ne_x0_ks)
  have F_size_x0 := F_size_x0.other W6 (Or.inl ne_x0_ks)
  have V_vs := V_vs.other W6 (Ne.symm ne_ks_vs)
  have K6 := K2.wr W6 (Or.inl (List.mem_of_getElem? (i := 1) rfl))
  refine Goes.hrun X6 e6 CX (own_c1 F_values_x0 own_n) (L := [.p 154 (.aload_n 0) 1, .f 155 19 0, .p 158 (.iload 5) 2, .p 160 (.iload 4) 2]) (by decide +kernel) rfl (g' := (mkF m 162 #[rv x0, iv va, jv ka, .second, iv va, iv 0, .unset] [(.int va), (.int 0), (.ref vs)])) rfl ⟨rr, trivial⟩ ?_
  intro T7 X7 e7
  refine Goes.sI X7 e7 hx hZ V_vs (i := 0) (own_ixok (by decide)) (Nat.le_of_ble_eq_true rfl) N6 g_vs rfl rfl (hb hby d7_162) ?_
  intro T8 h8 L8 X8 e8 W8 (V_vs : Arv Z h8 vs kv .int (4 : Int32) [(.int va), (.int vb), (.int vc), (.int vd)] (.int (0 : Int32))) N8
  have E_x0 := E_x0.wr W8
  have F_keys_x0 := F_keys_x0.other W8 (Or.inl ne_x0_vs)
  have F_values_x0 := F_values_x0.other W8 (Or.inl ne_x0_vs)
  have F_size_x0 := F_size_x0.other W8 (Or.inl ne_x0_vs)
  have V_ks := V_ks.other W8 ne_ks_vs
  have K8 := K6.wr W8 (Or.inl (List.mem_of_getElem? (i := 2) rfl))
  refine Goes.run X8 hx hown hci hcl hby (L := [(163, .iload_n 1, 1)]) (by decide +kernel) rfl (g' := (mkF m 164 #[rv x0, iv va, jv ka, .second, iv va, iv 0, .unset] [(.int va)])) rfl ?_
  refine Goes.retI X8 hx hlk Bd.returns (hb hby d7_164) ?_ (by decide) (by decide)
  show (Q8 Z x0 ks vs kk kv ka kb kc kd va vb vc vd h0 n0) _ _ _
  rw [e8]
  exact ⟨rfl, N8, K8, E_x0, F_keys_x0, F_values_x0, F_size_x0, V_ks, V_vs⟩
theorem pn9 : plainName "com/example/kubera/kubera/FlowNetwork$NodeHeap" = true := by first | (simp [plainName, overriddenIn]; done) | decide +kernel
theorem ef9 (m : MethodId) (x0 : Addr) : entryFrame m #[(.ref x0)] 7 = (mkF m 0 #[rv x0, .unset, .unset, .unset, .unset, .unset, .unset] []) := by first | (simp [entryFrame, mkF, argsToLocals, Value.category]; done) | rfl
def Q9 (Z : State) (x0 : Addr) (ks : Addr) (vs : Addr) (kk : ClassId) (kv : ClassId) (ka : Int64) (kb : Int64) (kc : Int64) (kd : Int64) (va : Int32) (vb : Int32) (vc : Int32) (vd : Int32) (h0 : Heap) (n0 : Nat) (v : Option Value) (h : Heap) (L : List Loc) : Prop := v = some (.int va) ∧ Fr n0 L ∧ Keep h0 h [x0, ks, vs] ∧ Exa Z h x0 "com/example/kubera/kubera/FlowNetwork$NodeHeap" ∧ Fld Z h x0 "com/example/kubera/kubera/FlowNetwork$NodeHeap" "keys" "[J" (.ref ks) ∧ Fld Z h x0 "com/example/kubera/kubera/FlowNetwork$NodeHeap" "values" "[I" (.ref vs) ∧ Fld Z h x0 "com/example/kubera/kubera/FlowNetwork$NodeHeap" "size" "I" (.int 1) ∧ Arv Z h ks kk .long (4 : Int32) [(.long kb), (.long kb), (.long kc), (.long kd)] (.long (0 : Int64)) ∧ Arv Z h vs kv .int (4 : Int32) [(.int vb), (.int vb), (.int vc), (.int vd)] (.int (0 : Int32))
set_option maxRecDepth 65536 in
set_option maxHeartbeats 40000000 in
theorem rm9 (l : Launch) (Z : State) (a0 : Array Value) (hw : ∀ d ∈ tables_1, d.before a0 Z = true) (ws : List Jvm.Cond) (x0 : Addr) (ks : Addr) (vs : Addr) (kk : ClassId) (kv : ClassId) (ka : Int64) (kb : Int64) (kc : Int64) (kd : Int64) (va : Int32) (vb : Int32) (vc : Int32) (vd : Int32) (h0 : Heap) (n0 : Nat) (Z0 : n0 ≤ h0.size) (E_x0 : Exa Z h0 x0 "com/example/kubera/kubera/FlowNetwork$NodeHeap") (F_keys_x0 : Fld Z h0 x0 "com/example/kubera/kubera/FlowNetwork$NodeHeap" "keys" "[J" (.ref ks)) (F_values_x0 : Fld Z h0 x0 "com/example/kubera/kubera/FlowNetwork$NodeHeap" "values" "[I" (.ref vs)) (F_size_x0 : Fld Z h0 x0 "com/example/kubera/kubera/FlowNetwork$NodeHeap" "size" "I" (.int 2)) (V_ks : Arv Z h0 ks kk .long (4 : Int32) [(.long ka), (.long kb), (.long kc), (.long kd)] (.long (0 : Int64))) (V_vs : Arv Z h0 vs kv .int (4 : Int32) [(.int va), (.int vb), (.int vc), (.int vd)] (.int (0 : Int32))) (g_x0 : n0 ≤ x0) (g_ks : n0 ≤ ks) (g_vs : n0 ≤ vs) (ne_x0_ks : x0 ≠ ks) (ne_x0_vs : x0 ≠ vs) (ne_ks_vs : ks ≠ vs) :
    MetFree l ym6 (head1 (Jvm.Cond.code ym6 prog_8_method_4_code 7 (some .int) :: ws) ({ frames := 0, cells := 0, slots := 0, locals := 0 } : Room)) (fun a U => a = #[(.ref x0)] ∧ Z.Warmed39 U.vm ∧ U.heap = h0) (fun _ _ _ _ _ => True) (fun _ U o U' => ∃ v L, o = .returned v ∧ (Q9 Z x0 ks vs kk kv ka kb kc kd va vb vc vd h0 n0) v U'.heap L ∧ FrameEnd U o U' L ({ frames := 0, cells := 0, slots := 0, locals := 0 } : Room).cells ({ frames := 0, cells := 0, slots := 0, locals := 0 } : Room).slots) := by
  refine MetFree.of_bodySF (plainFor_of_name pn9) hisR ?_
  intro p e s m args below meth c s₁ Bd hml0 hP hK
  obtain ⟨rfl, hZ, hh⟩ := hP
  have hx := Bd.exec
  have hby := Bd.bytes
  have hml : c.maxLocals = 7 := hml0
  have hlk : meth.locks = false := BodyLoose.notSynchronized Bd
  have hown : s.vm.findClass "com/example/kubera/kubera/FlowNetwork$NodeHeap" = some m.cls := findClass_of_methodNamed Bd.named
  have hnm := (name_of_methodNamed Bd.named Bd.method).1
  have w_79 := hw _ (List.mem_of_getElem? (i := 79) rfl)
  have w_89 := hw _ (List.mem_of_getElem? (i := 89) rfl)
  have w_91 := hw _ (List.mem_of_getElem? (i := 91) rfl)
  have w_97 := hw _ (List.mem_of_getElem? (i := 97) rfl)
  have w_98 := hw _ (List.mem_of_getElem? (i := 98) rfl)
  have hci : ∀ i v, (i, v) ∈ ([] : List (Nat × Int32)) → (Jvm.Cond.constant "com/example/kubera/kubera/FlowNetwork$NodeHeap" i v).before #[(.ref x0)] s = true := own_ci0
  have hcl : ∀ i v, (i, v) ∈ ([] : List (Nat × Int64)) → (Jvm.Cond.constantLong "com/example/kubera/kubera/FlowNetwork$NodeHeap" i v).before #[(.ref x0)] s = true := own_ci0
  have X0 : Stand p l e ({ frames := 0, cells := 0, slots := 0, locals := 0 } : Room) s m #[(.ref x0)] below meth c s₁ [] 0 0 := Stand.of_body Bd
  have e0 : s₁.heap = h0 := by rw [← hh, Bd.state]; rfl
  have N0 := Fr.nil n0
  show Goes p e below s (Q9 Z x0 ks vs kk kv ka kb kc kd va vb vc vd h0 n0) ({ frames := 0, cells := 0, slots := 0, locals := 0 } : Room).cells ({ frames := 0, cells := 0, slots := 0, locals := 0 } : Room).slots (s₁.setTop (entryFrame m #[(.ref x0)] 7))
  refine Goes.cast (ef9 m x0) ?_
  have hLK := own_lk1_ok hw
  have CX := Cx.mk hx hZ hown hci hcl hLK hby
  have K0 : Keep h0 h0 [x0, ks, vs] := Keep.refl h0 _
  refine Goes.hrun X0 e0 CX (own_c1 F_values_x0 (own_c2 V_vs (own_c1 F_size_x0 own_n))) (L := [.p 0 (.aload_n 0) 1, .f 1 19 0, .p 4 (.iconst 0) 1, .I 5 1 0, .p 6 (.istore_n 1) 1, .p 7 (.aload_n 0) 1, .p 8 .dup 1, .f 9 23 2, .p 12 (.iconst 1) 1, .p 13 .isub 1]) (by decide +kernel) rfl (g' := (mkF m 14 #[rv x0, iv va, .unset, .unset, .unset, .unset, .unset] [(.int 1), (.ref x0)])) rfl ⟨rr, ra (by decide), rr, trivial⟩ ?_
  intro T1 X1 e1
  obtain ⟨T2, h2, X2, e2, W2, st2⟩ := putF X1 hx hZ hown (host := "") (Or.inl w_97) Via.refl e1 F_size_x0 E_x0 (Or.inl w_98) w_79 (ty := .int) (by decide) rfl rfl (g := (mkF m 14 #[rv x0, iv va, .unset, .unset, .unset, .unset, .unset] [(.int 1), (.ref x0)])) rfl rfl (hb hby d7_14)
  have E_x0 := E_x0.wr W2
  have F_keys_x0 := own_oth F_keys_x0 W2 (Or.inl w_89) (Or.inl w_98)
  have F_values_x0 := own_oth F_values_x0 W2 (Or.inl w_91) (Or.inl w_98)
  have F_size_x0 : Fld Z h2 x0 "com/example/kubera/kubera/FlowNetwork$NodeHeap" "size" "I" (.int 1) := F_size_x0.same W2
  have V_ks := V_ks.other W2 (Ne.symm ne_x0_ks)
  have V_vs := V_vs.other W2 (Ne.symm ne_x0_vs)
  have K2 := K0.wr W2 (Or.inl (List.mem_of_getElem? (i := 0) rfl))
  have N2 := Fr.snoc X2 N0 g_x0
  refine Goes.st st2 ?_
  refine Goes.hrun X2 e2 CX (own_c1 F_keys_x0 (own_c1 F_size_x0 (own_c2 V_ks (own_c1 F_values_x0 (own_c2 V_vs own_n))))) (L := [.p 17 (.aload_n 0) 1, .f 18 13 0, .p 21 (.aload_n 0) 1, .f 22 23 1, .J 25 2 1, .p 26 (.lstore_n 2) 1, .p 27 (.aload_n 0) 1, .f 28 19 3, .p 31 (.aload_n 0) 1, .f 32 23 1, .I 35 4 1, .p 36 (.istore 4) 2, .p 38 (.iconst 0) 1, .p 39 (.istore 5) 2, .p 41 (.iconst 2) 1, .p 42 (.iload 5) 2]) (by decide +kernel) rfl (g' := (mkF m 44 #[rv x0, iv va, jv kb, .second, iv vb, iv 0, .unset] [(.int 0), (.int 2)])) rfl ⟨rr, rr, ra (by decide), rr, rr, ra (by decide), trivial⟩ ?_
  intro T4 X4 e4
  refine Goes.hrun X4 e4 CX (own_c1 F_size_x0 (own_c1 F_keys_x0 own_n)) (L := [.p 44 .imul 1, .p 45 (.iconst 1) 1, .p 46 .iadd 1, .p 47 (.aload_n 0) 1, .f 48 23 0, .c 51 .ge 95 true, .p 146 (.aload_n 0) 1, .f 147 13 1, .p 150 (.iload 5) 2, .p 152 (.lload_n 2) 1]) (by decide +kernel) rfl (g' := (mkF m 153 #[rv x0, iv va, jv kb, .second, iv vb, iv 0, .unset] [(.long kb), (.int 0), (.ref ks)])) rfl ⟨rr, by decide, rr, trivial⟩ ?_
  intro T5 X5 e5
  refine Goes.sJ X5 e5 hx hZ V_ks (i := 0) (own_ixok (by decide)) (Nat.le_of_ble_eq_true rfl) N2 g_ks rfl rfl (hb hby d7_153) ?_
  intro T6 h6 L6 X6 e6 W6 (V_ks : Arv Z h6 ks kk .long (4 : Int32) [(.long kb), (.long kb), (.long kc), (.long kd)] (.long (0 : Int64))) N6
  have E_x0 := E_x0.wr W6
  have F_keys_x0 := F_keys_x0.other W6 (Or.inl ne_x0_ks)
  have F_values_x0 := F_values_x0.other W6 (Or.inl ne_x0_ks)
  have F_size_x0 := F_size_x0.other W6 (Or.inl ne_x0_ks)
  have V_vs := V_vs.other W6 (Ne.symm ne_ks_vs)
  have K6 := K2.wr W6 (Or.inl (List.mem_of_getElem? (i := 1) rfl))
  refine Goes.hrun X6 e6 CX (own_c1 F_values_x0 own_n) (L := [.p 154 (.aload_n 0) 1, .f 155 19 0, .p 158 (.iload 5) 2, .p 160 (.iload 4) 2]) (by decide +kernel) rfl (g' := (mkF m 162 #[rv x0, iv va, jv kb, .second, iv vb, iv 0, .unset] [(.int vb), (.int 0), (.ref vs)])) rfl ⟨rr, trivial⟩ ?_
  intro T7 X7 e7
  refine Goes.sI X7 e7 hx hZ V_vs (i := 0) (own_ixok (by decide)) (Nat.le_of_ble_eq_true rfl) N6 g_vs rfl rfl (hb hby d7_162) ?_
  intro T8 h8 L8 X8 e8 W8 (V_vs : Arv Z h8 vs kv .int (4 : Int32) [(.int vb), (.int vb), (.int vc), (.int vd)] (.int (0 : Int32))) N8
  have E_x0 := E_x0.wr W8
  have F_keys_x0 := F_keys_x0.other W8 (Or.inl ne_x0_vs)
  have F_values_x0 := F_values_x0.other W8 (Or.inl ne_x0_vs)
  have F_size_x0 := F_size_x0.other W8 (Or.inl ne_x0_vs)
  have V_ks := V_ks.other W8 ne_ks_vs
  have K8 := K6.wr W8 (Or.inl (List.mem_of_getElem? (i := 2) rfl))
  refine Goes.run X8 hx hown hci hcl hby (L := [(163, .iload_n 1, 1)]) (by decide +kernel) rfl (g' := (mkF m 164 #[rv x0, iv va, jv kb, .second, iv vb, iv 0, .unset] [(.int va)])) rfl ?_
  refine Goes.retI X8 hx hlk Bd.returns (hb hby d7_164) ?_ (by decide) (by decide)
  show (Q9 Z x0 ks vs kk kv ka kb kc kd va vb vc vd h0 n0) _ _ _
  rw [e8]
  exact ⟨rfl, N8, K8, E_x0, F_keys_x0, F_values_x0, F_size_x0, V_ks, V_vs⟩
theorem d8_12 : decode prog_8_method_2_code 12 = .ok (.ireturn, 1) := by decide +kernel
theorem pnA : plainName "com/example/kubera/kubera/FlowNetwork$NodeHeap" = true := by first | (simp [plainName, overriddenIn]; done) | decide +kernel
theorem efA (m : MethodId) (x0 : Addr) : entryFrame m #[(.ref x0)] 1 = (mkF m 0 #[rv x0] []) := by first | (simp [entryFrame, mkF, argsToLocals, Value.category]; done) | rfl
def rA (qs : Int32) : Int32 := (0 : Int32)
set_option maxRecDepth 65536 in
set_option maxHeartbeats 40000000 in
theorem rmA (l : Launch) (Z : State) (a0 : Array Value) (hw : ∀ d ∈ tables_1, d.before a0 Z = true) (ws : List Jvm.Cond) (x0 : Addr) (qs : Int32) (h0 : Heap) (n0 : Nat) (Z0 : n0 ≤ h0.size) (F_size_x0 : Fld Z h0 x0 "com/example/kubera/kubera/FlowNetwork$NodeHeap" "size" "I" (.int qs)) (hq : ¬ qs = (0 : Int32)) :
    MetFree l ym7 (head1 (Jvm.Cond.code ym7 prog_8_method_2_code 1 (some .boolean) :: ws) ({ frames := 0, cells := 0, slots := 0, locals := 0 } : Room)) (fun a U => a = #[(.ref x0)] ∧ Z.Warmed39 U.vm ∧ U.heap = h0) (fun _ _ _ _ _ => True) (fun _ U o U' => ∃ v L, o = .returned v ∧ (QP (some (.int (rA qs))) h0 n0) v U'.heap L ∧ FrameEnd U o U' L ({ frames := 0, cells := 0, slots := 0, locals := 0 } : Room).cells ({ frames := 0, cells := 0, slots := 0, locals := 0 } : Room).slots) := by
  refine MetFree.of_bodySF (plainFor_of_name pnA) hisR ?_
  intro p e s m args below meth c s₁ Bd hml0 hP hK
  obtain ⟨rfl, hZ, hh⟩ := hP
  have hx := Bd.exec
  have hby := Bd.bytes
  have hml : c.maxLocals = 1 := hml0
  have hlk : meth.locks = false := BodyLoose.notSynchronized Bd
  have hown : s.vm.findClass "com/example/kubera/kubera/FlowNetwork$NodeHeap" = some m.cls := findClass_of_methodNamed Bd.named
  have hnm := (name_of_methodNamed Bd.named Bd.method).1
  have hci : ∀ i v, (i, v) ∈ ([] : List (Nat × Int32)) → (Jvm.Cond.constant "com/example/kubera/kubera/FlowNetwork$NodeHeap" i v).before #[(.ref x0)] s = true := own_ci0
  have hcl : ∀ i v, (i, v) ∈ ([] : List (Nat × Int64)) → (Jvm.Cond.constantLong "com/example/kubera/kubera/FlowNetwork$NodeHeap" i v).before #[(.ref x0)] s = true := own_ci0
  have X0 : Stand p l e ({ frames := 0, cells := 0, slots := 0, locals := 0 } : Room) s m #[(.ref x0)] below meth c s₁ [] 0 0 := Stand.of_body Bd
  have e0 : s₁.heap = h0 := by rw [← hh, Bd.state]; rfl
  have N0 := Fr.nil n0
  show Goes p e below s (QP (some (.int (rA qs))) h0 n0) ({ frames := 0, cells := 0, slots := 0, locals := 0 } : Room).cells ({ frames := 0, cells := 0, slots := 0, locals := 0 } : Room).slots (s₁.setTop (entryFrame m #[(.ref x0)] 1))
  refine Goes.cast (efA m x0) ?_
  have hLK := own_lk1_ok hw
  have CX := Cx.mk hx hZ hown hci hcl hLK hby
  refine Goes.hrun X0 e0 CX (own_c1 F_size_x0 own_n) (L := [.p 0 (.aload_n 0) 1, .f 1 23 0, .b 4 .ne 7 true, .p 11 (.iconst 0) 1]) (by decide +kernel) rfl (g' := (mkF m 12 #[rv x0] [(.int 0)])) rfl ⟨rr, (if0 _ _).trans (feq (hq : ¬ (qs = (0 : Int32)))).2, trivial⟩ ?_
  intro T2 X2 e2
  exact Goes.retB X2 hx hlk (t := .boolean) Bd.returns (by simp) (hb hby d8_12) rfl ⟨(congrArg (fun z => some (Value.int z)) (show (rA qs) = (0 : Int32) from rfl).symm), N0, e2⟩ (by decide) (by decide)
def NetL (x0 hd nx cp co fa lo : Addr) (khd knx kco kfa klo : ClassId) (cA nA cB nB la lb : Int64) : List RF := [RF.fld x0 "com/example/kubera/kubera/FlowNetwork" "nodes" "I" (.int 4), RF.fld x0 "com/example/kubera/kubera/FlowNetwork" "source" "I" (.int 2), RF.fld x0 "com/example/kubera/kubera/FlowNetwork" "sink" "I" (.int 3), RF.fld x0 "com/example/kubera/kubera/FlowNetwork" "firstArcs" "[I" (.ref fa), RF.fld x0 "com/example/kubera/kubera/FlowNetwork" "heads" "[I" (.ref hd), RF.fld x0 "com/example/kubera/kubera/FlowNetwork" "nextArcs" "[I" (.ref nx), RF.fld x0 "com/example/kubera/kubera/FlowNetwork" "capacities" "[J" (.ref cp), RF.fld x0 "com/example/kubera/kubera/FlowNetwork" "costs" "[J" (.ref co), RF.arr fa kfa .int (4 : Int32) [(.int 5), (.int 6), (.int 4), (.int 7)] (.int (0 : Int32)), RF.arr hd khd .int (16 : Int32) [(.int 1), (.int 0), (.int 1), (.int 0), (.int 0), (.int 2), (.int 3), (.int 1)] (.int (0 : Int32)), RF.arr nx knx .int (16 : Int32) [(.int (-1)), (.int (-1)), (.int 0), (.int 1), (.int (-1)), (.int 2), (.int 3), (.int (-1))] (.int (0 : Int32)), RF.arr co kco .long (16 : Int32) [(.long cA), (.long nA), (.long cB), (.long nB), (.long 0), (.long 0), (.long 0), (.long 0)] (.long (0 : Int64)), RF.fld x0 "com/example/kubera/kubera/FlowNetwork" "lowers" "[J" (.ref lo), RF.arr lo klo .long (8 : Int32) [(.long la), (.long lb), (.long 0), (.long 0)] (.long (0 : Int64))]
def own_d1 (k P : Int64) : Int64 := (((0 : Int64) + k) + 0) - P
theorem own_pk (k P : Int64) : P + ((((0 : Int64) + k) + 0) - P) = k := by rw [Int64.zero_add, Int64.add_zero, Int64.add_comm, Int64.sub_add_cancel]
theorem own_d3 (k P : Int64) : ((own_d1 k P + 0) + P) - P = own_d1 k P := by rw [Int64.add_sub_cancel, Int64.add_zero]
theorem own_pk3 (k P : Int64) : P + (((((((0 : Int64) + k) + 0) - P) + 0) + P) - P) = k := (congrArg (P + ·) (own_d3 k P)).trans (own_pk k P)
theorem own_ltg {d P M : Int64} (h : d < M) : ((d + 0) + P) - P < M := by rw [Int64.add_sub_cancel, Int64.add_zero]; exact h
theorem own_ite {c : Prop} [Decidable c] {a b M : Int64} (h : a < M) (k : b < M) : (if c then a else b) < M := by
  split
  · exact h
  · exact k
theorem own_VD {q0 q2 kM cA cB pP : Int64} (h : ((0 : Int64) < q2 ∧ ((0 : Int64) < q0 → ¬ own_d1 cA pP < own_d1 cB pP) ∧ kM = cB) ∨ (¬ (0 : Int64) < q2 ∧ (0 : Int64) < q0 ∧ kM = cA)) (h2 : (0 : Int64) < q2) : (0 : Int64) < q0 → ¬ own_d1 cA pP < own_d1 cB pP := by
  rcases h with h | h
  · exact h.2.1
  · exact absurd h2 h.1
theorem own_VB {q0 q2 kM cA cB pP : Int64} (h : ((0 : Int64) < q2 ∧ ((0 : Int64) < q0 → ¬ own_d1 cA pP < own_d1 cB pP) ∧ kM = cB) ∨ (¬ (0 : Int64) < q2 ∧ (0 : Int64) < q0 ∧ kM = cA)) (h2 : ¬ (0 : Int64) < q2) : (0 : Int64) < q0 := by
  rcases h with h | h
  · exact absurd h.1 h2
  · exact h.2.1
theorem own_pkV {q0 q2 kM cA cB pP : Int64} (h : ((0 : Int64) < q2 ∧ ((0 : Int64) < q0 → ¬ own_d1 cA pP < own_d1 cB pP) ∧ kM = cB) ∨ (¬ (0 : Int64) < q2 ∧ (0 : Int64) < q0 ∧ kM = cA)) : pP + (if (0 : Int64) < q2 then own_d1 cB pP else own_d1 cA pP) = kM := by
  rcases h with h | h
  · rw [if_pos h.1, h.2.2]; exact own_pk _ _
  · rw [if_neg h.1, h.2.2]; exact own_pk _ _
theorem own_pkW {q0 q2 kM cA cB pP : Int64} (h : ((0 : Int64) < q2 ∧ ((0 : Int64) < q0 → ¬ own_d1 cA pP < own_d1 cB pP) ∧ kM = cB) ∨ (¬ (0 : Int64) < q2 ∧ (0 : Int64) < q0 ∧ kM = cA)) : pP + ((((if (0 : Int64) < q2 then own_d1 cB pP else own_d1 cA pP) + 0) + pP) - pP) = kM := by rw [Int64.add_sub_cancel, Int64.add_zero]; exact own_pkV h
theorem own_lt3 {k P M : Int64} (h : own_d1 k P < M) : ((own_d1 k P + 0) + P) - P < M := by rw [own_d3]; exact h
def own_lk2 : List (Nat × String × String × String) := [(9, "com/example/kubera/kubera/FlowNetwork", "heads", "[I"), (15, "com/example/kubera/kubera/FlowNetwork", "nextArcs", "[I"), (18, "com/example/kubera/kubera/FlowNetwork", "capacities", "[J"), (22, "com/example/kubera/kubera/FlowNetwork", "costs", "[J"), (25, "com/example/kubera/kubera/FlowNetwork", "lowers", "[J"), (28, "com/example/kubera/kubera/FlowNetwork", "nodes", "I"), (32, "com/example/kubera/kubera/FlowNetwork", "source", "I"), (35, "com/example/kubera/kubera/FlowNetwork", "sink", "I"), (38, "com/example/kubera/kubera/FlowNetwork", "supplies", "[J"), (41, "com/example/kubera/kubera/FlowNetwork", "firstArcs", "[I"), (57, "com/example/kubera/kubera/FlowNetwork", "arcs", "I")]
theorem own_lk2_ok {Z : State} {a0 : Array Value} (hw : ∀ d ∈ tables_1, d.before a0 Z = true) : ∀ q ∈ own_lk2, (Cond.fieldLink "com/example/kubera/kubera/FlowNetwork" q.1 q.2.1 q.2.2.1 q.2.2.2).before a0 Z = true := fun q hq => hw _ ((by decide +kernel : ∀ q ∈ own_lk2, Cond.fieldLink "com/example/kubera/kubera/FlowNetwork" q.1 q.2.1 q.2.2.1 q.2.2.2 ∈ tables_1) q hq)
theorem d9_4 : decode prog_7_method_8_code 4 = .ok (.invokestatic 89, 3) := by decide +kernel
theorem d9_11 : decode prog_7_method_8_code 11 = .ok (.newarray .boolean, 2) := by decide +kernel
theorem d9_14 : decode prog_7_method_8_code 14 = .ok (.new 92, 3) := by decide +kernel
theorem d9_22 : decode prog_7_method_8_code 22 = .ok (.invokespecial 94, 3) := by decide +kernel
theorem d9_33 : decode prog_7_method_8_code 33 = .ok (.lastore, 1) := by decide +kernel
theorem d9_41 : decode prog_7_method_8_code 41 = .ok (.invokevirtual 97, 3) := by decide +kernel
theorem d9_46 : decode prog_7_method_8_code 46 = .ok (.invokevirtual 101, 3) := by decide +kernel
theorem d9_54 : decode prog_7_method_8_code 54 = .ok (.invokevirtual 105, 3) := by decide +kernel
theorem d9_73 : decode prog_7_method_8_code 73 = .ok (.bastore, 1) := by decide +kernel
theorem d9_118 : decode prog_7_method_8_code 118 = .ok (.ifCond .le 59, 3) := by decide +kernel
theorem d9_167 : decode prog_7_method_8_code 167 = .ok (.lastore, 1) := by decide +kernel
theorem d9_174 : decode prog_7_method_8_code 174 = .ok (.invokevirtual 97, 3) := by decide +kernel
theorem d9_226 : decode prog_7_method_8_code 226 = .ok (.dup2, 1) := by decide +kernel
theorem d9_245 : decode prog_7_method_8_code 245 = .ok (.lastore, 1) := by decide +kernel
theorem d9_253 : decode prog_7_method_8_code 253 = .ok (.ireturn, 1) := by decide +kernel
theorem pnB : plainName "com/example/kubera/kubera/FlowNetwork" = true := by first | (simp [plainName, overriddenIn]; done) | decide +kernel
theorem pdB_0 : parseMethodDescriptor "([JJ)V" = some ⟨[(.array .long), .long], none⟩ := by decide +kernel
theorem pdB_1 : parseMethodDescriptor "(I)V" = some ⟨[.int], none⟩ := by decide +kernel
theorem pdB_2 : parseMethodDescriptor "(JI)V" = some ⟨[.long, .int], none⟩ := by decide +kernel
theorem pdB_3 : parseMethodDescriptor "()Z" = some ⟨[], some .boolean⟩ := by decide +kernel
theorem pdB_4 : parseMethodDescriptor "()I" = some ⟨[], some .int⟩ := by decide +kernel
theorem efB (m : MethodId) (x0 : Addr) (x1 : Addr) (x2 : Addr) : entryFrame m #[(.ref x0), (.ref x1), (.ref x2)] 10 = (mkF m 0 #[rv x0, rv x1, rv x2, .unset, .unset, .unset, .unset, .unset, .unset, .unset] []) := by first | (simp [entryFrame, mkF, argsToLocals, Value.category]; done) | rfl
def wB_150 (cA : Int64) (cB : Int64) (pP : Int64) (q0 : Int64) (q2 : Int64) : Int64 := ((((0 : Int64) + cB) + (0 : Int64)) - pP)
def wB_150_a (cA : Int64) (cB : Int64) (pP : Int64) (q0 : Int64) (q2 : Int64) : Int64 := ((((0 : Int64) + cA) + (0 : Int64)) - pP)
def wB_150_b (cA : Int64) (cB : Int64) (pP : Int64) (q0 : Int64) (q2 : Int64) : Int64 := ((((wB_150_a cA cB pP q0 q2) + (0 : Int64)) + pP) - pP)
def sB_245 (cA : Int64) (cB : Int64) (pP : Int64) (q0 : Int64) (q2 : Int64) : Int64 := (pP + (wB_150_a cA cB pP q0 q2))
def sB_245_a (cA : Int64) (cB : Int64) (pP : Int64) (q0 : Int64) (q2 : Int64) : Int64 := (pP + (wB_150_b cA cB pP q0 q2))
def jB_177_8 (cA : Int64) (cB : Int64) (pP : Int64) (q0 : Int64) (q2 : Int64) : Int64 := (if (0 : Int64) < q0 then (wB_150_a cA cB pP q0 q2) else (wB_150 cA cB pP q0 q2))
def jB_44_8 (cA : Int64) (cB : Int64) (pP : Int64) (q0 : Int64) (q2 : Int64) : Int64 := (if (0 : Int64) < q2 then (jB_177_8 cA cB pP q0 q2) else (wB_150_a cA cB pP q0 q2))
def jB_44_e0 (cA : Int64) (cB : Int64) (pP : Int64) (q0 : Int64) (q2 : Int64) : Int64 := (if (0 : Int64) < q2 then (wB_150 cA cB pP q0 q2) else (wB_150_a cA cB pP q0 q2))
def wB_150_c (cA : Int64) (cB : Int64) (pP : Int64) (q0 : Int64) (q2 : Int64) : Int64 := ((((jB_44_e0 cA cB pP q0 q2) + (0 : Int64)) + pP) - pP)
def sB_245_b (cA : Int64) (cB : Int64) (pP : Int64) (q0 : Int64) (q2 : Int64) : Int64 := (pP + (jB_44_e0 cA cB pP q0 q2))
def sB_245_c (cA : Int64) (cB : Int64) (pP : Int64) (q0 : Int64) (q2 : Int64) : Int64 := (pP + (wB_150_c cA cB pP q0 q2))
def QM (Z : State) (x1 x2 : Addr) (kx1 kx2 : ClassId) (kM : Int64) (h0 : Heap) (n0 : Nat) (v : Option Value) (h : Heap) (L : List Loc) : Prop := ∃ a b c d : Int64, v = some (.int 1) ∧ Fr n0 L ∧ Keep h0 h [x1, x2] ∧ Arv Z h x1 kx1 .long (4 : Int32) [(.long 0), (.long kM), (.long 0), (.long kM)] (.long (0 : Int64)) ∧ Arv Z h x2 kx2 .long (4 : Int32) [(.long a), (.long b), (.long c), (.long d)] (.long (0 : Int64))
set_option maxRecDepth 65536 in
set_option maxHeartbeats 40000000 in
theorem rmB (l : Launch) (Z : State) (a0 : Array Value) (hw : ∀ d ∈ tables_1, d.before a0 Z = true) (ws : List Jvm.Cond) (x0 : Addr) (x1 : Addr) (x2 : Addr) (hd : Addr) (nx : Addr) (cp : Addr) (co : Addr) (fa : Addr) (lo : Addr) (khd : ClassId) (knx : ClassId) (kco : ClassId) (kfa : ClassId) (kcp : ClassId) (klo : ClassId) (cA : Int64) (nA : Int64) (cB : Int64) (nB : Int64) (la : Int64) (lb : Int64) (kx1 : ClassId) (kx2 : ClassId) (q0 : Int64) (q1 : Int64) (q2 : Int64) (q3 : Int64) (q4 : Int64) (q5 : Int64) (q6 : Int64) (q7 : Int64) (pP : Int64) (ea : Int64) (eb : Int64) (ec : Int64) (ed : Int64) (kM : Int64) (h0 : Heap) (n0 : Nat) (Z0 : n0 ≤ h0.size) (NB : own_all Z h0 (NetL x0 hd nx cp co fa lo khd knx kco kfa klo cA nA cB nB la lb)) (V_cp : Arv Z h0 cp kcp .long (16 : Int32) [(.long q0), (.long q1), (.long q2), (.long q3), (.long q4), (.long q5), (.long q6), (.long q7)] (.long (0 : Int64))) (V_x1 : Arv Z h0 x1 kx1 .long (4 : Int32) [(.long 0), (.long pP), (.long 0), (.long pP)] (.long (0 : Int64))) (V_x2 : Arv Z h0 x2 kx2 .long (4 : Int32) [(.long ea), (.long eb), (.long ec), (.long ed)] (.long (0 : Int64))) (g_x1 : n0 ≤ x1) (g_x2 : n0 ≤ x2) (d_x1 : Dis (NetL x0 hd nx cp co fa lo khd knx kco kfa klo cA nA cB nB la lb) x1) (d_x2 : Dis (NetL x0 hd nx cp co fa lo khd knx kco kfa klo cA nA cB nB la lb) x2) (ne_x1_x2 : x1 ≠ x2) (ne_x1_cp : x1 ≠ cp) (ne_x2_cp : x2 ≠ cp) (pz4 : (0 : Int64) < q4) (pz6 : (0 : Int64) < q6) (hMA : own_d1 cA pP < (9223372036854775807 : Int64)) (hMB : own_d1 cB pP < (9223372036854775807 : Int64)) (hV : ((0 : Int64) < q2 ∧ (0 : Int64) < q0 ∧ own_d1 cA pP < own_d1 cB pP ∧ kM = cA) ∨ ((0 : Int64) < q2 ∧ ((0 : Int64) < q0 → ¬ own_d1 cA pP < own_d1 cB pP) ∧ kM = cB) ∨ (¬ (0 : Int64) < q2 ∧ (0 : Int64) < q0 ∧ kM = cA)) :
    MetFree l ym8 (head1 (Jvm.Cond.code ym8 prog_7_method_8_code 10 (some .boolean) :: ws) ({ frames := 2, cells := 4, slots := 15, locals := 28 } : Room)) (fun a U => a = #[(.ref x0), (.ref x1), (.ref x2)] ∧ Z.Warmed39 U.vm ∧ U.heap = h0) (fun _ _ _ _ _ => True) (fun _ U o U' => ∃ v L, o = .returned v ∧ (QM Z x1 x2 kx1 kx2 kM h0 n0) v U'.heap L ∧ FrameEnd U o U' L ({ frames := 2, cells := 4, slots := 15, locals := 28 } : Room).cells ({ frames := 2, cells := 4, slots := 15, locals := 28 } : Room).slots) := by
  refine MetFree.of_bodySF (plainFor_of_name pnB) hisR ?_
  intro p e s m args below meth c s₁ Bd hml0 hP hK
  obtain ⟨rfl, hZ, hh⟩ := hP
  have hx := Bd.exec
  have hby := Bd.bytes
  have hml : c.maxLocals = 10 := hml0
  have hlk : meth.locks = false := BodyLoose.notSynchronized Bd
  have hown : s.vm.findClass "com/example/kubera/kubera/FlowNetwork" = some m.cls := findClass_of_methodNamed Bd.named
  have hnm := (name_of_methodNamed Bd.named Bd.method).1
  have w_36 := hw _ (List.mem_of_getElem? (i := 36) rfl)
  have w_73 := hw _ (List.mem_of_getElem? (i := 73) rfl)
  have w_74 := hw _ (List.mem_of_getElem? (i := 74) rfl)
  have w_75 := hw _ (List.mem_of_getElem? (i := 75) rfl)
  have w_76 := hw _ (List.mem_of_getElem? (i := 76) rfl)
  have w_77 := hw _ (List.mem_of_getElem? (i := 77) rfl)
  have w_78 := hw _ (List.mem_of_getElem? (i := 78) rfl)
  have w_79 := hw _ (List.mem_of_getElem? (i := 79) rfl)
  have w_80 := hw _ (List.mem_of_getElem? (i := 80) rfl)
  have w_81 := hw _ (List.mem_of_getElem? (i := 81) rfl)
  have w_82 := hw _ (List.mem_of_getElem? (i := 82) rfl)
  have w_83 := hw _ (List.mem_of_getElem? (i := 83) rfl)
  have w_89 := hw _ (List.mem_of_getElem? (i := 89) rfl)
  have w_91 := hw _ (List.mem_of_getElem? (i := 91) rfl)
  have w_92 := hw _ (List.mem_of_getElem? (i := 92) rfl)
  have w_93 := hw _ (List.mem_of_getElem? (i := 93) rfl)
  have w_94 := hw _ (List.mem_of_getElem? (i := 94) rfl)
  have w_95 := hw _ (List.mem_of_getElem? (i := 95) rfl)
  have w_96 := hw _ (List.mem_of_getElem? (i := 96) rfl)
  have w_98 := hw _ (List.mem_of_getElem? (i := 98) rfl)
  have w_99 := hw _ (List.mem_of_getElem? (i := 99) rfl)
  have w_100 := hw _ (List.mem_of_getElem? (i := 100) rfl)
  have w_101 := hw _ (List.mem_of_getElem? (i := 101) rfl)
  have w_102 := hw _ (List.mem_of_getElem? (i := 102) rfl)
  have w_103 := hw _ (List.mem_of_getElem? (i := 103) rfl)
  have w_104 := hw _ (List.mem_of_getElem? (i := 104) rfl)
  have w_105 := hw _ (List.mem_of_getElem? (i := 105) rfl)
  have w_106 := hw _ (List.mem_of_getElem? (i := 106) rfl)
  have w_107 := hw _ (List.mem_of_getElem? (i := 107) rfl)
  have w_108 := hw _ (List.mem_of_getElem? (i := 108) rfl)
  have w_121 := hw _ (List.mem_of_getElem? (i := 121) rfl)
  have hci : ∀ i v, (i, v) ∈ ([] : List (Nat × Int32)) → (Jvm.Cond.constant "com/example/kubera/kubera/FlowNetwork" i v).before #[(.ref x0), (.ref x1), (.ref x2)] s = true := own_ci0
  have hcl : ∀ i v, (i, v) ∈ ([(87, 9223372036854775807), (119, 2305843009213693951)] : List (Nat × Int64)) → (Jvm.Cond.constantLong "com/example/kubera/kubera/FlowNetwork" i v).before #[(.ref x0), (.ref x1), (.ref x2)] s = true := (own_ciS (mvT hZ w_73) (own_ciS (mvT hZ w_121) own_ci0))
  have X0 : Stand p l e ({ frames := 2, cells := 4, slots := 15, locals := 28 } : Room) s m #[(.ref x0), (.ref x1), (.ref x2)] below meth c s₁ [] 0 0 := Stand.of_body Bd
  have e0 : s₁.heap = h0 := by rw [← hh, Bd.state]; rfl
  have N0 := Fr.nil n0
  show Goes p e below s (QM Z x1 x2 kx1 kx2 kM h0 n0) ({ frames := 2, cells := 4, slots := 15, locals := 28 } : Room).cells ({ frames := 2, cells := 4, slots := 15, locals := 28 } : Room).slots (s₁.setTop (entryFrame m #[(.ref x0), (.ref x1), (.ref x2)] 10))
  refine Goes.cast (efB m x0 x1 x2) ?_
  have hLK := own_lk2_ok hw
  have CX := Cx.mk hx hZ hown hci hcl hLK hby
  have K0 : Keep h0 h0 [x1, x2] := Keep.refl h0 _
  refine Goes.run X0 hx hown hci hcl hby (L := [(0, .aload_n 2, 1), (1, .ldc2_w 87, 3)]) (by decide +kernel) rfl (g' := (mkF m 4 #[rv x0, rv x1, rv x2, .unset, .unset, .unset, .unset, .unset, .unset, .unset] [(.long 9223372036854775807), (.ref x2)])) rfl ?_
  obtain ⟨_, _, ⟨T1, L1, k1, n1⟩, -, X1, ⟨Lc1, hQ1, l1, y1, z1⟩, st1⟩ := Jvm.LawKit.callS X0 hx (y := ym1) hown (mvT hZ w_74) (mvT hZ w_75) (mvT hZ w_36) (mvT hZ w_76) (by decide) (backOf (W := 0) (rm2 l Z a0 hw [] x2 (9223372036854775807 : Int64) kx2 ea eb ec ed h0 n0 Z0 V_x2 g_x2) hZ w_76 w_36 (by decide) (by decide)) (g := (mkF m 4 #[rv x0, rv x1, rv x2, .unset, .unset, .unset, .unset, .unset, .unset, .unset] [(.long 9223372036854775807), (.ref x2)])) rfl (by rw [hml]; rfl) (argsL := [(.ref x2), (.long 9223372036854775807)]) (rest := []) (lenOf pdB_0 rfl) rfl (by show 2 * 0 + _ ≤ _; exact Nat.le_of_eq rfl) (hb hby d9_4) (fun _ _ => ⟨rfl, e0, (by decide : 0 + 0 ≤ _), (by decide : 0 + 0 ≤ _)⟩)
  dsimp only [Pt.U, Pt.locs, Pt.cells, Pt.slots] at X1 l1 y1 z1 st1 hQ1
  subst l1 y1 z1
  obtain ⟨h1, eh1⟩ : ∃ z, z = T1.heap := ⟨_, rfl⟩
  rw [← eh1] at hQ1
  have e1 : T1.heap = h1 := eh1.symm
  obtain ⟨rfl, N1q, Kq1, o1_0⟩ := hQ1
  have N1 := Fr.app N0 N1q
  have NB := own_all.keep Kq1 (own_dS d_x2 own_d0) NB
  have V_cp := V_cp.keep Kq1 (ninS (Ne.symm ne_x2_cp) nin0)
  have V_x1 := V_x1.keep Kq1 (ninS ne_x1_x2 nin0)
  have V_x2 : Arv Z h1 x2 kx2 .long (4 : Int32) [(.long 9223372036854775807), (.long 9223372036854775807), (.long 9223372036854775807), (.long 9223372036854775807)] (.long (0 : Int64)) := o1_0
  have K1 := K0.trans Kq1 ((allS (Or.inl (List.mem_of_getElem? (i := 1) rfl)) all0))
  refine Goes.st st1 ?_
  refine Goes.hrun X1 e1 CX NB (L := [.p 7 (.aload_n 0) 1, .f 8 28 0]) (by decide +kernel) rfl (g' := (mkF m 11 #[rv x0, rv x1, rv x2, .unset, .unset, .unset, .unset, .unset, .unset, .unset] [(.int 4)])) rfl ⟨rr, trivial⟩ ?_
  intro T2 X2 e2
  obtain ⟨T3, h3, k3, X3, e3, E3, A3, B3, st3⟩ := newPE X2 hx hZ (aty := .boolean) w_77 e2 (g := (mkF m 11 #[rv x0, rv x1, rv x2, .unset, .unset, .unset, .unset, .unset, .unset, .unset] [(.int 4)])) rfl (hb hby d9_11) rfl (by decide) (cap := 4) (by decide) (by decide) (by decide) (by decide) (ad := "[Z") (by decide)
  obtain ⟨b3, g3⟩ : ∃ z, z = h1.size := ⟨_, rfl⟩
  rw [← g3] at A3 B3 st3
  have d_b3 := own_all.dis NB (Nat.le_of_eq g3.symm)
  have ne_cp_b3 : cp ≠ b3 := Nat.ne_of_lt (Nat.lt_of_lt_of_le V_cp.lt (Nat.le_of_eq g3.symm))
  have ne_x2_b3 : x2 ≠ b3 := Nat.ne_of_lt (Nat.lt_of_lt_of_le V_x2.lt (Nat.le_of_eq g3.symm))
  have ne_x1_b3 : x1 ≠ b3 := Nat.ne_of_lt (Nat.lt_of_lt_of_le V_x1.lt (Nat.le_of_eq g3.symm))
  have g_b3 : n0 ≤ b3 := Nat.le_trans (Nat.le_trans Z0 K1.1) (Nat.le_of_eq g3.symm)
  have sz_b3 : h0.size ≤ b3 := Nat.le_trans K1.1 (Nat.le_of_eq g3.symm)
  have V_cp := V_cp.ext E3
  have V_x1 := V_x1.ext E3
  have V_x2 := V_x2.ext E3
  have NB := own_all.ext E3 NB
  have K3 := K1.ext E3
  have E_b3 : Exa Z h3 b3 "[Z" := B3
  have V_b3 : Arv Z h3 b3 k3 .boolean (4 : Int32) [(.int 0), (.int 0), (.int 0), (.int 0)] (.int 0) := (Arv.new A3 (by decide)).pad (pad_rep [] (.int 0) 4)
  refine Goes.st st3 ?_
  refine Goes.run X3 hx hown hci hcl hby (L := [(13, .astore_n 3, 1)]) (by decide +kernel) rfl (g' := (mkF m 14 #[rv x0, rv x1, rv x2, rv b3, .unset, .unset, .unset, .unset, .unset, .unset] [])) rfl ?_
  obtain ⟨T4, h4, X4, e4, E4, A4, D4, -, st4⟩ := newO X3 hx hZ hown w_78 w_79 w_80 e3 (g := (mkF m 14 #[rv x0, rv x1, rv x2, rv b3, .unset, .unset, .unset, .unset, .unset, .unset] [])) rfl (hb hby d9_14) (by decide) (by decide)
  obtain ⟨b4, g4⟩ : ∃ z, z = h3.size := ⟨_, rfl⟩
  rw [← g4] at A4 D4 st4
  have d_b4 := own_all.dis NB (Nat.le_of_eq g4.symm)
  have ne_cp_b4 : cp ≠ b4 := Nat.ne_of_lt (Nat.lt_of_lt_of_le V_cp.lt (Nat.le_of_eq g4.symm))
  have ne_x2_b4 : x2 ≠ b4 := Nat.ne_of_lt (Nat.lt_of_lt_of_le V_x2.lt (Nat.le_of_eq g4.symm))
  have ne_x1_b4 : x1 ≠ b4 := Nat.ne_of_lt (Nat.lt_of_lt_of_le V_x1.lt (Nat.le_of_eq g4.symm))
  have ne_b3_b4 : b3 ≠ b4 := Nat.ne_of_lt (Nat.lt_of_lt_of_le E_b3.lt (Nat.le_of_eq g4.symm))
  have g_b4 : n0 ≤ b4 := Nat.le_trans (Nat.le_trans Z0 K3.1) (Nat.le_of_eq g4.symm)
  have sz_b4 : h0.size ≤ b4 := Nat.le_trans K3.1 (Nat.le_of_eq g4.symm)
  have V_cp := V_cp.ext E4
  have V_x1 := V_x1.ext E4
  have V_x2 := V_x2.ext E4
  have E_b3 := E_b3.ext E4
  have V_b3 := V_b3.ext E4
  have NB := own_all.ext E4 NB
  have K4 := K3.ext E4
  have E_b4 : Exa Z h4 b4 "com/example/kubera/kubera/FlowNetwork$NodeHeap" := A4
  have F_keys_b4 : Fld Z h4 b4 "com/example/kubera/kubera/FlowNetwork$NodeHeap" "keys" "[J" .null := D4 (Or.inl w_89) (ty := (.array .long)) (by decide)
  have F_values_b4 : Fld Z h4 b4 "com/example/kubera/kubera/FlowNetwork$NodeHeap" "values" "[I" .null := D4 (Or.inl w_91) (ty := (.array .int)) (by decide)
  have F_size_b4 : Fld Z h4 b4 "com/example/kubera/kubera/FlowNetwork$NodeHeap" "size" "I" (.int 0) := D4 (Or.inl w_98) (ty := .int) (by decide)
  refine Goes.st st4 ?_
  refine Goes.hrun X4 e4 CX NB (L := [.p 17 .dup 1, .p 18 (.aload_n 0) 1, .f 19 28 0]) (by decide +kernel) rfl (g' := (mkF m 22 #[rv x0, rv x1, rv x2, rv b3, .unset, .unset, .unset, .unset, .unset, .unset] [(.int 4), (.ref b4), (.ref b4)])) rfl ⟨rr, trivial⟩ ?_
  intro T5 X5 e5
  obtain ⟨_, _, ⟨T6, L6, k6, n6⟩, -, X6, ⟨Lc6, hQ6, l6, y6, z6⟩, st6⟩ := X5.specialBack hx (y := ym4) rfl hown (mvT hZ w_81) (mvT hZ w_82) (mvT hZ w_83) (by decide) (backOf (W := 1) (rm5 l Z a0 hw [] b4 h4 n0 (Nat.le_trans Z0 K4.1) E_b4 F_keys_b4 F_values_b4 F_size_b4 g_b4) hZ w_83 w_80 (by decide) (by decide)) (g := (mkF m 22 #[rv x0, rv x1, rv x2, rv b3, .unset, .unset, .unset, .unset, .unset, .unset] [(.int 4), (.ref b4), (.ref b4)])) rfl (by rw [hml]; rfl) (Steps.refl _) (a := b4) (argsL := [(.int 4)]) (rest := [(.ref b4)]) (lenOf pdB_1 rfl) rfl (by show 2 * 0 + _ ≤ _; exact Nat.le_of_eq rfl) (hb hby d9_22) (fun _ _ => ⟨rfl, e5, (by decide : 2 + 2 ≤ _), (by decide : 7 + 8 ≤ _)⟩)
  dsimp only [Pt.U, Pt.locs, Pt.cells, Pt.slots] at X6 l6 y6 z6 st6 hQ6
  subst l6 y6 z6
  obtain ⟨h6, eh6⟩ : ∃ z, z = T6.heap := ⟨_, rfl⟩
  rw [← eh6] at hQ6
  have e6 : T6.heap = h6 := eh6.symm
  obtain ⟨ks6, vs6, k_ks6, k_vs6, rfl, N6q, Kq6, sq_ks6, sq_vs6, nq6_0_1, o6_0, o6_1, o6_2, o6_3, o6_4, o6_5⟩ := hQ6
  have d_ks6 := own_all.dis NB sq_ks6
  have ne_b3_ks6 : b3 ≠ ks6 := Nat.ne_of_lt (Nat.lt_of_lt_of_le E_b3.lt sq_ks6)
  have ne_b4_ks6 : b4 ≠ ks6 := Nat.ne_of_lt (Nat.lt_of_lt_of_le E_b4.lt sq_ks6)
  have ne_cp_ks6 : cp ≠ ks6 := Nat.ne_of_lt (Nat.lt_of_lt_of_le V_cp.lt sq_ks6)
  have ne_x1_ks6 : x1 ≠ ks6 := Nat.ne_of_lt (Nat.lt_of_lt_of_le V_x1.lt sq_ks6)
  have ne_x2_ks6 : x2 ≠ ks6 := Nat.ne_of_lt (Nat.lt_of_lt_of_le V_x2.lt sq_ks6)
  have g_ks6 : n0 ≤ ks6 := Nat.le_trans (Nat.le_trans Z0 K4.1) sq_ks6
  have sz_ks6 : h0.size ≤ ks6 := Nat.le_trans K4.1 sq_ks6
  have d_vs6 := own_all.dis NB sq_vs6
  have ne_b3_vs6 : b3 ≠ vs6 := Nat.ne_of_lt (Nat.lt_of_lt_of_le E_b3.lt sq_vs6)
  have ne_b4_vs6 : b4 ≠ vs6 := Nat.ne_of_lt (Nat.lt_of_lt_of_le E_b4.lt sq_vs6)
  have ne_cp_vs6 : cp ≠ vs6 := Nat.ne_of_lt (Nat.lt_of_lt_of_le V_cp.lt sq_vs6)
  have ne_x1_vs6 : x1 ≠ vs6 := Nat.ne_of_lt (Nat.lt_of_lt_of_le V_x1.lt sq_vs6)
  have ne_x2_vs6 : x2 ≠ vs6 := Nat.ne_of_lt (Nat.lt_of_lt_of_le V_x2.lt sq_vs6)
  have g_vs6 : n0 ≤ vs6 := Nat.le_trans (Nat.le_trans Z0 K4.1) sq_vs6
  have sz_vs6 : h0.size ≤ vs6 := Nat.le_trans K4.1 sq_vs6
  have N6 := Fr.app N1 N6q
  have NB := own_all.keep Kq6 (own_dS d_b4 own_d0) NB
  have V_cp := V_cp.keep Kq6 (ninS ne_cp_b4 nin0)
  have V_x1 := V_x1.keep Kq6 (ninS ne_x1_b4 nin0)
  have V_x2 := V_x2.keep Kq6 (ninS ne_x2_b4 nin0)
  have E_b3 := E_b3.keep Kq6
  have V_b3 := V_b3.keep Kq6 (ninS ne_b3_b4 nin0)
  have K6 := K4.trans Kq6 ((allS (Or.inr sz_b4) all0))
  have E_b4 : Exa Z h6 b4 "com/example/kubera/kubera/FlowNetwork$NodeHeap" := o6_0
  have F_keys_b4 : Fld Z h6 b4 "com/example/kubera/kubera/FlowNetwork$NodeHeap" "keys" "[J" (.ref ks6) := o6_1
  have F_values_b4 : Fld Z h6 b4 "com/example/kubera/kubera/FlowNetwork$NodeHeap" "values" "[I" (.ref vs6) := o6_2
  have F_size_b4 : Fld Z h6 b4 "com/example/kubera/kubera/FlowNetwork$NodeHeap" "size" "I" (.int 0) := o6_3
  have V_ks6 : Arv Z h6 ks6 k_ks6 .long (4 : Int32) [(.long 0), (.long 0), (.long 0), (.long 0)] (.long 0) := o6_4
  have V_vs6 : Arv Z h6 vs6 k_vs6 .int (4 : Int32) [(.int 0), (.int 0), (.int 0), (.int 0)] (.int 0) := o6_5
  refine Goes.st (fun t k => st6.trans k) ?_
  refine Goes.hrun X6 e6 CX NB (L := [.p 25 (.astore 4) 2, .p 27 (.aload_n 2) 1, .p 28 (.aload_n 0) 1, .f 29 32 1, .p 32 (.lconst 0) 1]) (by decide +kernel) rfl (g' := (mkF m 33 #[rv x0, rv x1, rv x2, rv b3, rv b4, .unset, .unset, .unset, .unset, .unset] [(.long 0), (.int 2), (.ref x2)])) rfl ⟨rr, trivial⟩ ?_
  intro T7 X7 e7
  refine Goes.sJ X7 e7 hx hZ V_x2 (i := 2) (own_ixok (by decide)) (Nat.le_of_ble_eq_true rfl) N6 g_x2 rfl rfl (hb hby d9_33) ?_
  intro T8 h8 L8 X8 e8 W8 (V_x2 : Arv Z h8 x2 kx2 .long (4 : Int32) [(.long 9223372036854775807), (.long 9223372036854775807), (.long 0), (.long 9223372036854775807)] (.long (0 : Int64))) N8
  have NB := own_all.wr W8 d_x2 NB
  have V_cp := V_cp.other W8 (Ne.symm ne_x2_cp)
  have V_x1 := V_x1.other W8 ne_x1_x2
  have E_b3 := E_b3.wr W8
  have V_b3 := V_b3.other W8 (Ne.symm ne_x2_b3)
  have E_b4 := E_b4.wr W8
  have F_keys_b4 := F_keys_b4.other W8 (Or.inl (Ne.symm ne_x2_b4))
  have F_values_b4 := F_values_b4.other W8 (Or.inl (Ne.symm ne_x2_b4))
  have F_size_b4 := F_size_b4.other W8 (Or.inl (Ne.symm ne_x2_b4))
  have V_ks6 := V_ks6.other W8 (Ne.symm ne_x2_ks6)
  have V_vs6 := V_vs6.other W8 (Ne.symm ne_x2_vs6)
  have K8 := K6.wr W8 (Or.inl (List.mem_of_getElem? (i := 1) rfl))
  refine Goes.hrun X8 e8 CX NB (L := [.p 34 (.aload 4) 2, .p 36 (.lconst 0) 1, .p 37 (.aload_n 0) 1, .f 38 32 1]) (by decide +kernel) rfl (g' := (mkF m 41 #[rv x0, rv x1, rv x2, rv b3, rv b4, .unset, .unset, .unset, .unset, .unset] [(.int 2), (.long 0), (.ref b4)])) rfl ⟨rr, trivial⟩ ?_
  intro T9 X9 e9
  obtain ⟨cq10, kq10, q10a, q10b, q10c⟩ := isOf hZ e9 E_b4
  obtain ⟨_, _, ⟨T10, L10, k10, n10⟩, -, X10, ⟨Lc10, hQ10, l10, y10, z10⟩, st10⟩ := X9.virtualBack hx (y := ym5) (z := ym5) hown (mvT hZ w_92) (mvT hZ w_93) (notFace_of_selects (args := #[]) (mvT hZ w_95)) (mvT hZ w_95) (mvT hZ w_94) (by decide) (backOf (W := 0) (rm6 l Z a0 hw [] b4 (0 : Int64) (2 : Int32) ks6 vs6 k_ks6 k_vs6 (0 : Int64) (0 : Int64) (0 : Int64) (0 : Int64) (0 : Int32) (0 : Int32) (0 : Int32) (0 : Int32) h8 n0 (Nat.le_trans Z0 K8.1) E_b4 F_keys_b4 F_values_b4 F_size_b4 V_ks6 V_vs6 g_b4 g_ks6 g_vs6 ne_b4_ks6 ne_b4_vs6 nq6_0_1) hZ w_96 w_80 (by decide) (by decide)) q10a q10c (g := (mkF m 41 #[rv x0, rv x1, rv x2, rv b3, rv b4, .unset, .unset, .unset, .unset, .unset] [(.int 2), (.long 0), (.ref b4)])) rfl (by rw [hml]; rfl) (Steps.refl _) (argsL := [(.long 0), (.int 2)]) (rest := []) (lenOf pdB_2 rfl) rfl (by show 2 * 0 + _ ≤ _; exact Nat.le_of_eq rfl) (hb hby d9_41) (fun _ _ => ⟨rfl, e9, (by decide : 4 + 0 ≤ _), (by decide : 15 + 0 ≤ _)⟩)
  dsimp only [Pt.U, Pt.locs, Pt.cells, Pt.slots] at X10 l10 y10 z10 st10 hQ10
  subst l10 y10 z10
  obtain ⟨h10, eh10⟩ : ∃ z, z = T10.heap := ⟨_, rfl⟩
  rw [← eh10] at hQ10
  have e10 : T10.heap = h10 := eh10.symm
  obtain ⟨rfl, N10q, Kq10, o10_0, o10_1, o10_2, o10_3, o10_4, o10_5⟩ := hQ10
  have N10 := Fr.app N8 N10q
  have NB := own_all.keep Kq10 (own_dS d_b4 (own_dS d_ks6 (own_dS d_vs6 own_d0))) NB
  have V_cp := V_cp.keep Kq10 (ninS ne_cp_b4 (ninS ne_cp_ks6 (ninS ne_cp_vs6 nin0)))
  have V_x1 := V_x1.keep Kq10 (ninS ne_x1_b4 (ninS ne_x1_ks6 (ninS ne_x1_vs6 nin0)))
  have E_b3 := E_b3.keep Kq10
  have V_b3 := V_b3.keep Kq10 (ninS ne_b3_b4 (ninS ne_b3_ks6 (ninS ne_b3_vs6 nin0)))
  have V_x2 := V_x2.keep Kq10 (ninS ne_x2_b4 (ninS ne_x2_ks6 (ninS ne_x2_vs6 nin0)))
  have E_b4 : Exa Z h10 b4 "com/example/kubera/kubera/FlowNetwork$NodeHeap" := o10_0
  have F_keys_b4 : Fld Z h10 b4 "com/example/kubera/kubera/FlowNetwork$NodeHeap" "keys" "[J" (.ref ks6) := o10_1
  have F_values_b4 : Fld Z h10 b4 "com/example/kubera/kubera/FlowNetwork$NodeHeap" "values" "[I" (.ref vs6) := o10_2
  have F_size_b4 : Fld Z h10 b4 "com/example/kubera/kubera/FlowNetwork$NodeHeap" "size" "I" (.int 1) := o10_3
  have V_ks6 : Arv Z h10 ks6 k_ks6 .long (4 : Int32) [(.long 0), (.long 0), (.long 0), (.long 0)] (.long (0 : Int64)) := o10_4
  have V_vs6 : Arv Z h10 vs6 k_vs6 .int (4 : Int32) [(.int 2), (.int 0), (.int 0), (.int 0)] (.int (0 : Int32)) := o10_5
  have K10 := K8.trans Kq10 ((allS (Or.inr sz_b4) (allS (Or.inr sz_ks6) (allS (Or.inr sz_vs6) all0))))
  refine Goes.st (fun t k => st10.trans k) ?_
  refine Goes.run X10 hx hown hci hcl hby (L := [(44, .aload 4, 2)]) (by decide +kernel) rfl (g' := (mkF m 46 #[rv x0, rv x1, rv x2, rv b3, rv b4, .unset, .unset, .unset, .unset, .unset] [(.ref b4)])) rfl ?_
  obtain ⟨cq11, kq11, q11a, q11b, q11c⟩ := isOf hZ e10 E_b4
  obtain ⟨_, _, ⟨T11, L11, k11, n11⟩, -, X11, ⟨Lc11, hQ11, l11, y11, z11⟩, st11⟩ := X10.virtualBack hx (y := ym7) (z := ym7) hown (mvT hZ w_99) (mvT hZ w_100) (notFace_of_selects (args := #[]) (mvT hZ w_102)) (mvT hZ w_102) (mvT hZ w_101) (by decide) (backOf (W := 0) (rmA l Z a0 hw [] b4 (1 : Int32) h10 n0 (Nat.le_trans Z0 K10.1) F_size_b4 (by decide)) hZ w_103 w_80 (by decide) (by decide)) q11a q11c (g := (mkF m 46 #[rv x0, rv x1, rv x2, rv b3, rv b4, .unset, .unset, .unset, .unset, .unset] [(.ref b4)])) rfl (by rw [hml]; rfl) (Steps.refl _) (argsL := []) (rest := []) (lenOf pdB_3 rfl) rfl (by show 2 * 0 + _ ≤ _; exact Nat.le_of_eq rfl) (hb hby d9_46) (fun _ _ => ⟨rfl, e10, (by decide : 4 + 0 ≤ _), (by decide : 15 + 0 ≤ _)⟩)
  dsimp only [Pt.U, Pt.locs, Pt.cells, Pt.slots] at X11 l11 y11 z11 st11 hQ11
  subst l11 y11 z11
  obtain ⟨rfl, N11q, e11⟩ := hQ11
  have N11 := Fr.app N10 N11q
  refine Goes.st (fun t k => st11.trans k) ?_
  refine Goes.hrun X11 e11 CX NB (L := [.b 49 .ne 143 false, .p 52 (.aload 4) 2]) (by decide +kernel) rfl (g' := (mkF m 54 #[rv x0, rv x1, rv x2, rv b3, rv b4, .unset, .unset, .unset, .unset, .unset] [(.ref b4)])) rfl ⟨by decide, trivial⟩ ?_
  intro T13 X13 e13
  obtain ⟨cq14, kq14, q14a, q14b, q14c⟩ := isOf hZ e13 E_b4
  obtain ⟨_, _, ⟨T14, L14, k14, n14⟩, -, X14, ⟨Lc14, hQ14, l14, y14, z14⟩, st14⟩ := X13.virtualBack hx (y := ym6) (z := ym6) hown (mvT hZ w_104) (mvT hZ w_105) (notFace_of_selects (args := #[]) (mvT hZ w_107)) (mvT hZ w_107) (mvT hZ w_106) (by decide) (backOf (W := 0) (rm8 l Z a0 hw [] b4 ks6 vs6 k_ks6 k_vs6 (0 : Int64) (0 : Int64) (0 : Int64) (0 : Int64) (2 : Int32) (0 : Int32) (0 : Int32) (0 : Int32) h10 n0 (Nat.le_trans Z0 K10.1) E_b4 F_keys_b4 F_values_b4 F_size_b4 V_ks6 V_vs6 g_b4 g_ks6 g_vs6 ne_b4_ks6 ne_b4_vs6 nq6_0_1) hZ w_108 w_80 (by decide) (by decide)) q14a q14c (g := (mkF m 54 #[rv x0, rv x1, rv x2, rv b3, rv b4, .unset, .unset, .unset, .unset, .unset] [(.ref b4)])) rfl (by rw [hml]; rfl) (Steps.refl _) (argsL := []) (rest := []) (lenOf pdB_4 rfl) rfl (by show 2 * 0 + _ ≤ _; exact Nat.le_of_eq rfl) (hb hby d9_54) (fun _ _ => ⟨rfl, e13, (by decide : 4 + 0 ≤ _), (by decide : 15 + 0 ≤ _)⟩)
  dsimp only [Pt.U, Pt.locs, Pt.cells, Pt.slots] at X14 l14 y14 z14 st14 hQ14
  subst l14 y14 z14
  obtain ⟨h14, eh14⟩ : ∃ z, z = T14.heap := ⟨_, rfl⟩
  rw [← eh14] at hQ14
  have e14 : T14.heap = h14 := eh14.symm
  obtain ⟨rfl, N14q, Kq14, o14_0, o14_1, o14_2, o14_3, o14_4, o14_5⟩ := hQ14
  have N14 := Fr.app N11 N14q
  have NB := own_all.keep Kq14 (own_dS d_b4 (own_dS d_ks6 (own_dS d_vs6 own_d0))) NB
  have V_cp := V_cp.keep Kq14 (ninS ne_cp_b4 (ninS ne_cp_ks6 (ninS ne_cp_vs6 nin0)))
  have V_x1 := V_x1.keep Kq14 (ninS ne_x1_b4 (ninS ne_x1_ks6 (ninS ne_x1_vs6 nin0)))
  have E_b3 := E_b3.keep Kq14
  have V_b3 := V_b3.keep Kq14 (ninS ne_b3_b4 (ninS ne_b3_ks6 (ninS ne_b3_vs6 nin0)))
  have V_x2 := V_x2.keep Kq14 (ninS ne_x2_b4 (ninS ne_x2_ks6 (ninS ne_x2_vs6 nin0)))
  have E_b4 : Exa Z h14 b4 "com/example/kubera/kubera/FlowNetwork$NodeHeap" := o14_0
  have F_keys_b4 : Fld Z h14 b4 "com/example/kubera/kubera/FlowNetwork$NodeHeap" "keys" "[J" (.ref ks6) := o14_1
  have F_values_b4 : Fld Z h14 b4 "com/example/kubera/kubera/FlowNetwork$NodeHeap" "values" "[I" (.ref vs6) := o14_2
  have F_size_b4 : Fld Z h14 b4 "com/example/kubera/kubera/FlowNetwork$NodeHeap" "size" "I" (.int 0) := o14_3
  have V_ks6 : Arv Z h14 ks6 k_ks6 .long (4 : Int32) [(.long 0), (.long 0), (.long 0), (.long 0)] (.long (0 : Int64)) := o14_4
  have V_vs6 : Arv Z h14 vs6 k_vs6 .int (4 : Int32) [(.int 2), (.int 0), (.int 0), (.int 0)] (.int (0 : Int32)) := o14_5
  have K14 := K10.trans Kq14 ((allS (Or.inr sz_b4) (allS (Or.inr sz_ks6) (allS (Or.inr sz_vs6) all0))))
  refine Goes.st (fun t k => st14.trans k) ?_
  refine Goes.hrun X14 e14 CX (own_c2 V_b3 NB) (L := [.p 57 (.istore 5) 2, .p 59 (.aload_n 3) 1, .p 60 (.iload 5) 2, .Z 62 0 2, .b 63 .eq 6 true, .p 69 (.aload_n 3) 1, .p 70 (.iload 5) 2, .p 72 (.iconst 1) 1]) (by decide +kernel) rfl (g' := (mkF m 73 #[rv x0, rv x1, rv x2, rv b3, rv b4, iv 2, .unset, .unset, .unset, .unset] [(.int 1), (.int 2), (.ref b3)])) rfl ⟨ra (by decide), by decide, trivial⟩ ?_
  intro T16 X16 e16
  refine Goes.sZ X16 e16 hx hZ V_b3 (i := 2) (own_ixok (by decide)) (Nat.le_of_ble_eq_true rfl) N14 g_b3 rfl rfl (hb hby d9_73) ?_
  intro T17 h17 L17 X17 e17 W17 (V_b3 : Arv Z h17 b3 k3 .boolean (4 : Int32) [(.int 0), (.int 0), (.int 1), (.int 0)] (.int 0)) N17
  have NB := own_all.wr W17 d_b3 NB
  have V_cp := V_cp.other W17 ne_cp_b3
  have V_x1 := V_x1.other W17 ne_x1_b3
  have E_b3 := E_b3.wr W17
  have E_b4 := E_b4.wr W17
  have F_keys_b4 := F_keys_b4.other W17 (Or.inl (Ne.symm ne_b3_b4))
  have F_values_b4 := F_values_b4.other W17 (Or.inl (Ne.symm ne_b3_b4))
  have F_size_b4 := F_size_b4.other W17 (Or.inl (Ne.symm ne_b3_b4))
  have V_ks6 := V_ks6.other W17 (Ne.symm ne_b3_ks6)
  have V_vs6 := V_vs6.other W17 (Ne.symm ne_b3_vs6)
  have V_x2 := V_x2.other W17 ne_x2_b3
  have K17 := K14.wr W17 (Or.inr sz_b3)
  refine Goes.hrun X17 e17 CX NB (L := [.p 74 (.iload 5) 2, .p 76 (.aload_n 0) 1, .f 77 35 2, .c 80 .ne 6 true, .p 86 (.aload_n 0) 1, .f 87 41 3, .p 90 (.iload 5) 2, .I 92 8 2, .p 93 (.istore 6) 2, .p 95 (.iload 6) 2, .b 97 .lt 92 false, .p 100 (.aload_n 0) 1, .f 101 9 4, .p 104 (.iload 6) 2, .I 106 9 4, .p 107 (.istore 7) 2]) (by decide +kernel) rfl (g' := (mkF m 109 #[rv x0, rv x1, rv x2, rv b3, rv b4, iv 2, iv 4, iv 0, .unset, .unset] [])) rfl ⟨rr, by decide, rr, ra (by decide), by decide, rr, ra (by decide), trivial⟩ ?_
  intro T23 X23 e23
  refine Goes.hrun X23 e23 CX (own_c2 V_cp (own_c2 V_b3 (own_c2 V_x2 NB))) (L := [.p 109 (.aload_n 0) 1, .f 110 18 9, .p 113 (.iload 6) 2, .J 115 0 4, .p 116 (.lconst 0) 1, .p 117 .lcmp 1, .b 118 .le 59 false, .p 121 (.aload_n 3) 1, .p 122 (.iload 7) 2, .Z 124 1 0, .b 125 .ne 52 false, .p 128 (.aload_n 2) 1, .p 129 (.iload 5) 2, .J 131 2 2, .p 132 (.aload_n 0) 1, .f 133 22 10]) (by decide +kernel) rfl (g' := (mkF m 136 #[rv x0, rv x1, rv x2, rv b3, rv b4, iv 2, iv 4, iv 0, .unset, .unset] [(.ref co), (.long 0)])) rfl ⟨rr, ra (by decide), (tltL (pz4 : (0 : Int64) < q4)).2.2.2, ra (by decide), by decide, ra (by decide), rr, trivial⟩ ?_
  intro T24 X24 e24
  refine Goes.hrun X24 e24 CX (own_c2 V_x1 (own_c2 V_x2 NB)) (L := [.p 136 (.iload 6) 2, .J 138 13 4, .p 139 .ladd 1, .p 140 (.aload_n 1) 1, .p 141 (.iload 5) 2, .J 143 0 2, .p 144 .ladd 1, .p 145 (.aload_n 1) 1, .p 146 (.iload 7) 2, .J 148 0 0, .p 149 .lsub 1, .p 150 (.lstore 8) 2, .p 152 (.lload 8) 2, .p 154 (.aload_n 2) 1, .p 155 (.iload 7) 2, .J 157 1 0]) (by decide +kernel) rfl (g' := (mkF m 158 #[rv x0, rv x1, rv x2, rv b3, rv b4, iv 2, iv 4, iv 0, jv 0, .second] [(.long 9223372036854775807), (.long 0)])) rfl ⟨ra (by decide), ra (by decide), ra (by decide), ra (by decide), trivial⟩ ?_
  intro T25 X25 e25
  refine Goes.hrun X25 e25 CX NB (L := [.p 158 .lcmp 1, .b 159 .ge 18 false, .p 162 (.aload_n 2) 1, .p 163 (.iload 7) 2, .p 165 (.lload 8) 2]) (by decide +kernel) rfl (g' := (mkF m 167 #[rv x0, rv x1, rv x2, rv b3, rv b4, iv 2, iv 4, iv 0, jv 0, .second] [(.long 0), (.int 0), (.ref x2)])) rfl ⟨by decide, trivial⟩ ?_
  intro T26 X26 e26
  refine Goes.sJ X26 e26 hx hZ V_x2 (i := 0) (own_ixok (by decide)) (Nat.le_of_ble_eq_true rfl) N17 g_x2 rfl rfl (hb hby d9_167) ?_
  intro T27 h27 L27 X27 e27 W27 (V_x2 : Arv Z h27 x2 kx2 .long (4 : Int32) [(.long 0), (.long 9223372036854775807), (.long 0), (.long 9223372036854775807)] (.long (0 : Int64))) N27
  have NB := own_all.wr W27 d_x2 NB
  have V_cp := V_cp.other W27 (Ne.symm ne_x2_cp)
  have V_x1 := V_x1.other W27 ne_x1_x2
  have E_b3 := E_b3.wr W27
  have E_b4 := E_b4.wr W27
  have F_keys_b4 := F_keys_b4.other W27 (Or.inl (Ne.symm ne_x2_b4))
  have F_values_b4 := F_values_b4.other W27 (Or.inl (Ne.symm ne_x2_b4))
  have F_size_b4 := F_size_b4.other W27 (Or.inl (Ne.symm ne_x2_b4))
  have V_ks6 := V_ks6.other W27 (Ne.symm ne_x2_ks6)
  have V_vs6 := V_vs6.other W27 (Ne.symm ne_x2_vs6)
  have V_b3 := V_b3.other W27 (Ne.symm ne_x2_b3)
  have K27 := K17.wr W27 (Or.inl (List.mem_of_getElem? (i := 1) rfl))
  refine Goes.run X27 hx hown hci hcl hby (L := [(168, .aload 4, 2), (170, .lload 8, 2), (172, .iload 7, 2)]) (by decide +kernel) rfl (g' := (mkF m 174 #[rv x0, rv x1, rv x2, rv b3, rv b4, iv 2, iv 4, iv 0, jv 0, .second] [(.int 0), (.long 0), (.ref b4)])) rfl ?_
  obtain ⟨cq28, kq28, q28a, q28b, q28c⟩ := isOf hZ e27 E_b4
  obtain ⟨_, _, ⟨T28, L28, k28, n28⟩, -, X28, ⟨Lc28, hQ28, l28, y28, z28⟩, st28⟩ := X27.virtualBack hx (y := ym5) (z := ym5) hown (mvT hZ w_92) (mvT hZ w_93) (notFace_of_selects (args := #[]) (mvT hZ w_95)) (mvT hZ w_95) (mvT hZ w_94) (by decide) (backOf (W := 0) (rm6 l Z a0 hw [] b4 (0 : Int64) (0 : Int32) ks6 vs6 k_ks6 k_vs6 (0 : Int64) (0 : Int64) (0 : Int64) (0 : Int64) (2 : Int32) (0 : Int32) (0 : Int32) (0 : Int32) h27 n0 (Nat.le_trans Z0 K27.1) E_b4 F_keys_b4 F_values_b4 F_size_b4 V_ks6 V_vs6 g_b4 g_ks6 g_vs6 ne_b4_ks6 ne_b4_vs6 nq6_0_1) hZ w_96 w_80 (by decide) (by decide)) q28a q28c (g := (mkF m 174 #[rv x0, rv x1, rv x2, rv b3, rv b4, iv 2, iv 4, iv 0, jv 0, .second] [(.int 0), (.long 0), (.ref b4)])) rfl (by rw [hml]; rfl) (Steps.refl _) (argsL := [(.long 0), (.int 0)]) (rest := []) (lenOf pdB_2 rfl) rfl (by show 2 * 0 + _ ≤ _; exact Nat.le_of_eq rfl) (hb hby d9_174) (fun _ _ => ⟨rfl, e27, (by decide : 4 + 0 ≤ _), (by decide : 15 + 0 ≤ _)⟩)
  dsimp only [Pt.U, Pt.locs, Pt.cells, Pt.slots] at X28 l28 y28 z28 st28 hQ28
  subst l28 y28 z28
  obtain ⟨h28, eh28⟩ : ∃ z, z = T28.heap := ⟨_, rfl⟩
  rw [← eh28] at hQ28
  have e28 : T28.heap = h28 := eh28.symm
  obtain ⟨rfl, N28q, Kq28, o28_0, o28_1, o28_2, o28_3, o28_4, o28_5⟩ := hQ28
  have N28 := Fr.app N27 N28q
  have NB := own_all.keep Kq28 (own_dS d_b4 (own_dS d_ks6 (own_dS d_vs6 own_d0))) NB
  have V_cp := V_cp.keep Kq28 (ninS ne_cp_b4 (ninS ne_cp_ks6 (ninS ne_cp_vs6 nin0)))
  have V_x1 := V_x1.keep Kq28 (ninS ne_x1_b4 (ninS ne_x1_ks6 (ninS ne_x1_vs6 nin0)))
  have E_b3 := E_b3.keep Kq28
  have V_b3 := V_b3.keep Kq28 (ninS ne_b3_b4 (ninS ne_b3_ks6 (ninS ne_b3_vs6 nin0)))
  have V_x2 := V_x2.keep Kq28 (ninS ne_x2_b4 (ninS ne_x2_ks6 (ninS ne_x2_vs6 nin0)))
  have E_b4 : Exa Z h28 b4 "com/example/kubera/kubera/FlowNetwork$NodeHeap" := o28_0
  have F_keys_b4 : Fld Z h28 b4 "com/example/kubera/kubera/FlowNetwork$NodeHeap" "keys" "[J" (.ref ks6) := o28_1
  have F_values_b4 : Fld Z h28 b4 "com/example/kubera/kubera/FlowNetwork$NodeHeap" "values" "[I" (.ref vs6) := o28_2
  have F_size_b4 : Fld Z h28 b4 "com/example/kubera/kubera/FlowNetwork$NodeHeap" "size" "I" (.int 1) := o28_3
  have V_ks6 : Arv Z h28 ks6 k_ks6 .long (4 : Int32) [(.long 0), (.long 0), (.long 0), (.long 0)] (.long (0 : Int64)) := o28_4
  have V_vs6 : Arv Z h28 vs6 k_vs6 .int (4 : Int32) [(.int 0), (.int 0), (.int 0), (.int 0)] (.int (0 : Int32)) := o28_5
  have K28 := K27.trans Kq28 ((allS (Or.inr sz_b4) (allS (Or.inr sz_ks6) (allS (Or.inr sz_vs6) all0))))
  refine Goes.st (fun t k => st28.trans k) ?_
  refine Goes.hrun X28 e28 CX NB (L := [.p 177 (.aload_n 0) 1, .f 178 15 5, .p 181 (.iload 6) 2, .I 183 10 4, .p 184 (.istore 6) 2, .p 186 (.goto (-91)) 3, .p 95 (.iload 6) 2, .b 97 .lt 92 true, .p 189 (.goto (-145)) 3, .p 44 (.aload 4) 2]) (by decide +kernel) rfl (g' := (mkF m 46 #[rv x0, rv x1, rv x2, rv b3, rv b4, iv 2, iv (-1), iv 0, jv 0, .second] [(.ref b4)])) rfl ⟨rr, ra (by decide), by decide, trivial⟩ ?_
  intro T30 X30 e30
  obtain ⟨cq31, kq31, q31a, q31b, q31c⟩ := isOf hZ e30 E_b4
  obtain ⟨_, _, ⟨T31, L31, k31, n31⟩, -, X31, ⟨Lc31, hQ31, l31, y31, z31⟩, st31⟩ := X30.virtualBack hx (y := ym7) (z := ym7) hown (mvT hZ w_99) (mvT hZ w_100) (notFace_of_selects (args := #[]) (mvT hZ w_102)) (mvT hZ w_102) (mvT hZ w_101) (by decide) (backOf (W := 0) (rmA l Z a0 hw [] b4 (1 : Int32) h28 n0 (Nat.le_trans Z0 K28.1) F_size_b4 (by decide)) hZ w_103 w_80 (by decide) (by decide)) q31a q31c (g := (mkF m 46 #[rv x0, rv x1, rv x2, rv b3, rv b4, iv 2, iv (-1), iv 0, jv 0, .second] [(.ref b4)])) rfl (by rw [hml]; rfl) (Steps.refl _) (argsL := []) (rest := []) (lenOf pdB_3 rfl) rfl (by show 2 * 0 + _ ≤ _; exact Nat.le_of_eq rfl) (hb hby d9_46) (fun _ _ => ⟨rfl, e30, (by decide : 4 + 0 ≤ _), (by decide : 15 + 0 ≤ _)⟩)
  dsimp only [Pt.U, Pt.locs, Pt.cells, Pt.slots] at X31 l31 y31 z31 st31 hQ31
  subst l31 y31 z31
  obtain ⟨rfl, N31q, e31⟩ := hQ31
  have N31 := Fr.app N28 N31q
  refine Goes.st (fun t k => st31.trans k) ?_
  refine Goes.hrun X31 e31 CX NB (L := [.b 49 .ne 143 false, .p 52 (.aload 4) 2]) (by decide +kernel) rfl (g' := (mkF m 54 #[rv x0, rv x1, rv x2, rv b3, rv b4, iv 2, iv (-1), iv 0, jv 0, .second] [(.ref b4)])) rfl ⟨by decide, trivial⟩ ?_
  intro T33 X33 e33
  obtain ⟨cq34, kq34, q34a, q34b, q34c⟩ := isOf hZ e33 E_b4
  obtain ⟨_, _, ⟨T34, L34, k34, n34⟩, -, X34, ⟨Lc34, hQ34, l34, y34, z34⟩, st34⟩ := X33.virtualBack hx (y := ym6) (z := ym6) hown (mvT hZ w_104) (mvT hZ w_105) (notFace_of_selects (args := #[]) (mvT hZ w_107)) (mvT hZ w_107) (mvT hZ w_106) (by decide) (backOf (W := 0) (rm8 l Z a0 hw [] b4 ks6 vs6 k_ks6 k_vs6 (0 : Int64) (0 : Int64) (0 : Int64) (0 : Int64) (0 : Int32) (0 : Int32) (0 : Int32) (0 : Int32) h28 n0 (Nat.le_trans Z0 K28.1) E_b4 F_keys_b4 F_values_b4 F_size_b4 V_ks6 V_vs6 g_b4 g_ks6 g_vs6 ne_b4_ks6 ne_b4_vs6 nq6_0_1) hZ w_108 w_80 (by decide) (by decide)) q34a q34c (g := (mkF m 54 #[rv x0, rv x1, rv x2, rv b3, rv b4, iv 2, iv (-1), iv 0, jv 0, .second] [(.ref b4)])) rfl (by rw [hml]; rfl) (Steps.refl _) (argsL := []) (rest := []) (lenOf pdB_4 rfl) rfl (by show 2 * 0 + _ ≤ _; exact Nat.le_of_eq rfl) (hb hby d9_54) (fun _ _ => ⟨rfl, e33, (by decide : 4 + 0 ≤ _), (by decide : 15 + 0 ≤ _)⟩)
  dsimp only [Pt.U, Pt.locs, Pt.cells, Pt.slots] at X34 l34 y34 z34 st34 hQ34
  subst l34 y34 z34
  obtain ⟨h34, eh34⟩ : ∃ z, z = T34.heap := ⟨_, rfl⟩
  rw [← eh34] at hQ34
  have e34 : T34.heap = h34 := eh34.symm
  obtain ⟨rfl, N34q, Kq34, o34_0, o34_1, o34_2, o34_3, o34_4, o34_5⟩ := hQ34
  have N34 := Fr.app N31 N34q
  have NB := own_all.keep Kq34 (own_dS d_b4 (own_dS d_ks6 (own_dS d_vs6 own_d0))) NB
  have V_cp := V_cp.keep Kq34 (ninS ne_cp_b4 (ninS ne_cp_ks6 (ninS ne_cp_vs6 nin0)))
  have V_x1 := V_x1.keep Kq34 (ninS ne_x1_b4 (ninS ne_x1_ks6 (ninS ne_x1_vs6 nin0)))
  have E_b3 := E_b3.keep Kq34
  have V_b3 := V_b3.keep Kq34 (ninS ne_b3_b4 (ninS ne_b3_ks6 (ninS ne_b3_vs6 nin0)))
  have V_x2 := V_x2.keep Kq34 (ninS ne_x2_b4 (ninS ne_x2_ks6 (ninS ne_x2_vs6 nin0)))
  have E_b4 : Exa Z h34 b4 "com/example/kubera/kubera/FlowNetwork$NodeHeap" := o34_0
  have F_keys_b4 : Fld Z h34 b4 "com/example/kubera/kubera/FlowNetwork$NodeHeap" "keys" "[J" (.ref ks6) := o34_1
  have F_values_b4 : Fld Z h34 b4 "com/example/kubera/kubera/FlowNetwork$NodeHeap" "values" "[I" (.ref vs6) := o34_2
  have F_size_b4 : Fld Z h34 b4 "com/example/kubera/kubera/FlowNetwork$NodeHeap" "size" "I" (.int 0) := o34_3
  have V_ks6 : Arv Z h34 ks6 k_ks6 .long (4 : Int32) [(.long 0), (.long 0), (.long 0), (.long 0)] (.long (0 : Int64)) := o34_4
  have V_vs6 : Arv Z h34 vs6 k_vs6 .int (4 : Int32) [(.int 0), (.int 0), (.int 0), (.int 0)] (.int (0 : Int32)) := o34_5
  have K34 := K28.trans Kq34 ((allS (Or.inr sz_b4) (allS (Or.inr sz_ks6) (allS (Or.inr sz_vs6) all0))))
  refine Goes.st (fun t k => st34.trans k) ?_
  refine Goes.hrun X34 e34 CX (own_c2 V_b3 NB) (L := [.p 57 (.istore 5) 2, .p 59 (.aload_n 3) 1, .p 60 (.iload 5) 2, .Z 62 0 0, .b 63 .eq 6 true, .p 69 (.aload_n 3) 1, .p 70 (.iload 5) 2, .p 72 (.iconst 1) 1]) (by decide +kernel) rfl (g' := (mkF m 73 #[rv x0, rv x1, rv x2, rv b3, rv b4, iv 0, iv (-1), iv 0, jv 0, .second] [(.int 1), (.int 0), (.ref b3)])) rfl ⟨ra (by decide), by decide, trivial⟩ ?_
  intro T36 X36 e36
  refine Goes.sZ X36 e36 hx hZ V_b3 (i := 0) (own_ixok (by decide)) (Nat.le_of_ble_eq_true rfl) N34 g_b3 rfl rfl (hb hby d9_73) ?_
  intro T37 h37 L37 X37 e37 W37 (V_b3 : Arv Z h37 b3 k3 .boolean (4 : Int32) [(.int 1), (.int 0), (.int 1), (.int 0)] (.int 0)) N37
  have NB := own_all.wr W37 d_b3 NB
  have V_cp := V_cp.other W37 ne_cp_b3
  have V_x1 := V_x1.other W37 ne_x1_b3
  have E_b3 := E_b3.wr W37
  have E_b4 := E_b4.wr W37
  have F_keys_b4 := F_keys_b4.other W37 (Or.inl (Ne.symm ne_b3_b4))
  have F_values_b4 := F_values_b4.other W37 (Or.inl (Ne.symm ne_b3_b4))
  have F_size_b4 := F_size_b4.other W37 (Or.inl (Ne.symm ne_b3_b4))
  have V_ks6 := V_ks6.other W37 (Ne.symm ne_b3_ks6)
  have V_vs6 := V_vs6.other W37 (Ne.symm ne_b3_vs6)
  have V_x2 := V_x2.other W37 ne_x2_b3
  have K37 := K34.wr W37 (Or.inr sz_b3)
  refine Goes.hrun X37 e37 CX NB (L := [.p 74 (.iload 5) 2, .p 76 (.aload_n 0) 1, .f 77 35 2, .c 80 .ne 6 true, .p 86 (.aload_n 0) 1, .f 87 41 3, .p 90 (.iload 5) 2, .I 92 8 0, .p 93 (.istore 6) 2, .p 95 (.iload 6) 2, .b 97 .lt 92 false, .p 100 (.aload_n 0) 1, .f 101 9 4, .p 104 (.iload 6) 2, .I 106 9 5, .p 107 (.istore 7) 2]) (by decide +kernel) rfl (g' := (mkF m 109 #[rv x0, rv x1, rv x2, rv b3, rv b4, iv 0, iv 5, iv 2, jv 0, .second] [])) rfl ⟨rr, by decide, rr, ra (by decide), by decide, rr, ra (by decide), trivial⟩ ?_
  intro T41 X41 e41
  refine Goes.hrun X41 e41 CX (own_c2 V_cp NB) (L := [.p 109 (.aload_n 0) 1, .f 110 18 7, .p 113 (.iload 6) 2, .J 115 0 5, .p 116 (.lconst 0) 1, .p 117 .lcmp 1]) (by decide +kernel) rfl (g' := (mkF m 118 #[rv x0, rv x1, rv x2, rv b3, rv b4, iv 0, iv 5, iv 2, jv 0, .second] [(.int (lcmpW q5 (0 : Int64)))])) rfl ⟨rr, ra (by decide), trivial⟩ ?_
  intro T42 X42 e42
  have jn177_44 : ∀ (T45 : State) (L45 : List Loc) (X45 : Stand p l e ({ frames := 2, cells := 4, slots := 15, locals := 28 } : Room) s m #[(.ref x0), (.ref x1), (.ref x2)] below meth c T45 L45 4 15) (e45 : T45.heap = h37) (N45 : Fr n0 L45), Goes p e below s (QM Z x1 x2 kx1 kx2 kM h0 n0) ({ frames := 2, cells := 4, slots := 15, locals := 28 } : Room).cells ({ frames := 2, cells := 4, slots := 15, locals := 28 } : Room).slots (T45.setTop (mkF m 177 #[rv x0, rv x1, rv x2, rv b3, rv b4, iv 0, iv 5, iv 2, jv 0, .second] [])) := by
    intro T45 L45 X45 e45 N45
    refine Goes.hrun X45 e45 CX NB (L := [.p 177 (.aload_n 0) 1, .f 178 15 5, .p 181 (.iload 6) 2, .I 183 10 5, .p 184 (.istore 6) 2, .p 186 (.goto (-91)) 3]) (by decide +kernel) rfl (g' := (mkF m 95 #[rv x0, rv x1, rv x2, rv b3, rv b4, iv 0, iv 2, iv 2, jv 0, .second] [])) rfl ⟨rr, ra (by decide), trivial⟩ ?_
    intro T46 X46 e46
    rcases hV with ⟨pz2, pz0, hA, hk⟩ | hV
    · skip
      refine Goes.hrun X46 e46 CX (own_c2 V_cp NB) (L := [.p 95 (.iload 6) 2, .b 97 .lt 92 false, .p 100 (.aload_n 0) 1, .f 101 9 5, .p 104 (.iload 6) 2, .I 106 10 2, .p 107 (.istore 7) 2, .p 109 (.aload_n 0) 1, .f 110 18 7, .p 113 (.iload 6) 2, .J 115 0 2, .p 116 (.lconst 0) 1, .p 117 .lcmp 1, .b 118 .le 59 false, .p 121 (.aload_n 3) 1, .p 122 (.iload 7) 2]) (by decide +kernel) rfl (g' := (mkF m 124 #[rv x0, rv x1, rv x2, rv b3, rv b4, iv 0, iv 2, iv 1, jv 0, .second] [(.int 1), (.ref b3)])) rfl ⟨by decide, rr, ra (by decide), rr, ra (by decide), (tltL (pz2 : (0 : Int64) < q2)).2.2.2, trivial⟩ ?_
      intro T51 X51 e51
      refine Goes.hrun X51 e51 CX (own_c2 V_b3 (own_c2 V_x2 (own_c2 V_x1 NB))) (L := [.Z 124 0 1, .b 125 .ne 52 false, .p 128 (.aload_n 2) 1, .p 129 (.iload 5) 2, .J 131 1 0, .p 132 (.aload_n 0) 1, .f 133 22 10, .p 136 (.iload 6) 2, .J 138 14 2, .p 139 .ladd 1, .p 140 (.aload_n 1) 1, .p 141 (.iload 5) 2, .J 143 2 0, .p 144 .ladd 1, .p 145 (.aload_n 1) 1, .p 146 (.iload 7) 2]) (by decide +kernel) rfl (g' := (mkF m 148 #[rv x0, rv x1, rv x2, rv b3, rv b4, iv 0, iv 2, iv 1, jv 0, .second] [(.int 1), (.ref x1), (.long (((0 : Int64) + cB) + (0 : Int64)))])) rfl ⟨ra (by decide), by decide, ra (by decide), rr, ra (by decide), ra (by decide), trivial⟩ ?_
      intro T52 X52 e52
      refine Goes.hrun X52 e52 CX (own_c2 V_x1 (own_c2 V_x2 NB)) (L := [.J 148 0 1, .p 149 .lsub 1, .p 150 (.lstore 8) 2, .p 152 (.lload 8) 2, .p 154 (.aload_n 2) 1, .p 155 (.iload 7) 2, .J 157 1 1, .p 158 .lcmp 1, .b 159 .ge 18 false, .p 162 (.aload_n 2) 1, .p 163 (.iload 7) 2, .p 165 (.lload 8) 2]) (by decide +kernel) rfl (g' := (mkF m 167 #[rv x0, rv x1, rv x2, rv b3, rv b4, iv 0, iv 2, iv 1, jv (wB_150 cA cB pP q0 q2), .second] [(.long (wB_150 cA cB pP q0 q2)), (.int 1), (.ref x2)])) rfl ⟨ra (by decide), ra (by decide), (tltL (hMB : (wB_150 cA cB pP q0 q2) < (9223372036854775807 : Int64))).2.1, trivial⟩ ?_
      intro T53 X53 e53
      refine Goes.sJ X53 e53 hx hZ V_x2 (i := 1) (own_ixok (by decide)) (Nat.le_of_ble_eq_true rfl) N45 g_x2 rfl rfl (hb hby d9_167) ?_
      intro T54 h54 L54 X54 e54 W54 (V_x2 : Arv Z h54 x2 kx2 .long (4 : Int32) [(.long 0), (.long (wB_150 cA cB pP q0 q2)), (.long 0), (.long 9223372036854775807)] (.long (0 : Int64))) N54
      have NB := own_all.wr W54 d_x2 NB
      have V_cp := V_cp.other W54 (Ne.symm ne_x2_cp)
      have V_x1 := V_x1.other W54 ne_x1_x2
      have E_b3 := E_b3.wr W54
      have E_b4 := E_b4.wr W54
      have F_keys_b4 := F_keys_b4.other W54 (Or.inl (Ne.symm ne_x2_b4))
      have F_values_b4 := F_values_b4.other W54 (Or.inl (Ne.symm ne_x2_b4))
      have F_size_b4 := F_size_b4.other W54 (Or.inl (Ne.symm ne_x2_b4))
      have V_ks6 := V_ks6.other W54 (Ne.symm ne_x2_ks6)
      have V_vs6 := V_vs6.other W54 (Ne.symm ne_x2_vs6)
      have V_b3 := V_b3.other W54 (Ne.symm ne_x2_b3)
      have K54 := K37.wr W54 (Or.inl (List.mem_of_getElem? (i := 1) rfl))
      refine Goes.run X54 hx hown hci hcl hby (L := [(168, .aload 4, 2), (170, .lload 8, 2), (172, .iload 7, 2)]) (by decide +kernel) rfl (g' := (mkF m 174 #[rv x0, rv x1, rv x2, rv b3, rv b4, iv 0, iv 2, iv 1, jv (wB_150 cA cB pP q0 q2), .second] [(.int 1), (.long (wB_150 cA cB pP q0 q2)), (.ref b4)])) rfl ?_
      obtain ⟨cq55, kq55, q55a, q55b, q55c⟩ := isOf hZ e54 E_b4
      obtain ⟨_, _, ⟨T55, L55, k55, n55⟩, -, X55, ⟨Lc55, hQ55, l55, y55, z55⟩, st55⟩ := X54.virtualBack hx (y := ym5) (z := ym5) hown (mvT hZ w_92) (mvT hZ w_93) (notFace_of_selects (args := #[]) (mvT hZ w_95)) (mvT hZ w_95) (mvT hZ w_94) (by decide) (backOf (W := 0) (rm6 l Z a0 hw [] b4 (wB_150 cA cB pP q0 q2) (1 : Int32) ks6 vs6 k_ks6 k_vs6 (0 : Int64) (0 : Int64) (0 : Int64) (0 : Int64) (0 : Int32) (0 : Int32) (0 : Int32) (0 : Int32) h54 n0 (Nat.le_trans Z0 K54.1) E_b4 F_keys_b4 F_values_b4 F_size_b4 V_ks6 V_vs6 g_b4 g_ks6 g_vs6 ne_b4_ks6 ne_b4_vs6 nq6_0_1) hZ w_96 w_80 (by decide) (by decide)) q55a q55c (g := (mkF m 174 #[rv x0, rv x1, rv x2, rv b3, rv b4, iv 0, iv 2, iv 1, jv (wB_150 cA cB pP q0 q2), .second] [(.int 1), (.long (wB_150 cA cB pP q0 q2)), (.ref b4)])) rfl (by rw [hml]; rfl) (Steps.refl _) (argsL := [(.long (wB_150 cA cB pP q0 q2)), (.int 1)]) (rest := []) (lenOf pdB_2 rfl) rfl (by show 2 * 0 + _ ≤ _; exact Nat.le_of_eq rfl) (hb hby d9_174) (fun _ _ => ⟨rfl, e54, (by decide : 4 + 0 ≤ _), (by decide : 15 + 0 ≤ _)⟩)
      dsimp only [Pt.U, Pt.locs, Pt.cells, Pt.slots] at X55 l55 y55 z55 st55 hQ55
      subst l55 y55 z55
      obtain ⟨h55, eh55⟩ : ∃ z, z = T55.heap := ⟨_, rfl⟩
      rw [← eh55] at hQ55
      have e55 : T55.heap = h55 := eh55.symm
      obtain ⟨rfl, N55q, Kq55, o55_0, o55_1, o55_2, o55_3, o55_4, o55_5⟩ := hQ55
      have N55 := Fr.app N54 N55q
      have NB := own_all.keep Kq55 (own_dS d_b4 (own_dS d_ks6 (own_dS d_vs6 own_d0))) NB
      have V_cp := V_cp.keep Kq55 (ninS ne_cp_b4 (ninS ne_cp_ks6 (ninS ne_cp_vs6 nin0)))
      have V_x1 := V_x1.keep Kq55 (ninS ne_x1_b4 (ninS ne_x1_ks6 (ninS ne_x1_vs6 nin0)))
      have E_b3 := E_b3.keep Kq55
      have V_b3 := V_b3.keep Kq55 (ninS ne_b3_b4 (ninS ne_b3_ks6 (ninS ne_b3_vs6 nin0)))
      have V_x2 := V_x2.keep Kq55 (ninS ne_x2_b4 (ninS ne_x2_ks6 (ninS ne_x2_vs6 nin0)))
      have E_b4 : Exa Z h55 b4 "com/example/kubera/kubera/FlowNetwork$NodeHeap" := o55_0
      have F_keys_b4 : Fld Z h55 b4 "com/example/kubera/kubera/FlowNetwork$NodeHeap" "keys" "[J" (.ref ks6) := o55_1
      have F_values_b4 : Fld Z h55 b4 "com/example/kubera/kubera/FlowNetwork$NodeHeap" "values" "[I" (.ref vs6) := o55_2
      have F_size_b4 : Fld Z h55 b4 "com/example/kubera/kubera/FlowNetwork$NodeHeap" "size" "I" (.int 1) := o55_3
      have V_ks6 : Arv Z h55 ks6 k_ks6 .long (4 : Int32) [(.long (wB_150 cA cB pP q0 q2)), (.long 0), (.long 0), (.long 0)] (.long (0 : Int64)) := o55_4
      have V_vs6 : Arv Z h55 vs6 k_vs6 .int (4 : Int32) [(.int 1), (.int 0), (.int 0), (.int 0)] (.int (0 : Int32)) := o55_5
      have K55 := K54.trans Kq55 ((allS (Or.inr sz_b4) (allS (Or.inr sz_ks6) (allS (Or.inr sz_vs6) all0))))
      refine Goes.st (fun t k => st55.trans k) ?_
      refine Goes.hrun X55 e55 CX NB (L := [.p 177 (.aload_n 0) 1, .f 178 15 5, .p 181 (.iload 6) 2, .I 183 10 2, .p 184 (.istore 6) 2, .p 186 (.goto (-91)) 3, .p 95 (.iload 6) 2, .b 97 .lt 92 false, .p 100 (.aload_n 0) 1, .f 101 9 4, .p 104 (.iload 6) 2, .I 106 9 0, .p 107 (.istore 7) 2, .p 109 (.aload_n 0) 1, .f 110 18 6, .p 113 (.iload 6) 2]) (by decide +kernel) rfl (g' := (mkF m 115 #[rv x0, rv x1, rv x2, rv b3, rv b4, iv 0, iv 0, iv 1, jv (wB_150 cA cB pP q0 q2), .second] [(.int 0), (.ref cp)])) rfl ⟨rr, ra (by decide), by decide, rr, ra (by decide), rr, trivial⟩ ?_
      intro T60 X60 e60
      refine Goes.hrun X60 e60 CX (own_c2 V_cp (own_c2 V_b3 (own_c2 V_x2 NB))) (L := [.J 115 0 0, .p 116 (.lconst 0) 1, .p 117 .lcmp 1, .b 118 .le 59 false, .p 121 (.aload_n 3) 1, .p 122 (.iload 7) 2, .Z 124 1 1, .b 125 .ne 52 false, .p 128 (.aload_n 2) 1, .p 129 (.iload 5) 2, .J 131 2 0, .p 132 (.aload_n 0) 1, .f 133 22 10, .p 136 (.iload 6) 2, .J 138 14 0, .p 139 .ladd 1]) (by decide +kernel) rfl (g' := (mkF m 140 #[rv x0, rv x1, rv x2, rv b3, rv b4, iv 0, iv 0, iv 1, jv (wB_150 cA cB pP q0 q2), .second] [(.long ((0 : Int64) + cA))])) rfl ⟨ra (by decide), (tltL (pz0 : (0 : Int64) < q0)).2.2.2, ra (by decide), by decide, ra (by decide), rr, ra (by decide), trivial⟩ ?_
      intro T61 X61 e61
      refine Goes.hrun X61 e61 CX (own_c2 V_x1 (own_c2 V_x2 NB)) (L := [.p 140 (.aload_n 1) 1, .p 141 (.iload 5) 2, .J 143 0 0, .p 144 .ladd 1, .p 145 (.aload_n 1) 1, .p 146 (.iload 7) 2, .J 148 0 1, .p 149 .lsub 1, .p 150 (.lstore 8) 2, .p 152 (.lload 8) 2, .p 154 (.aload_n 2) 1, .p 155 (.iload 7) 2, .J 157 1 1, .p 158 .lcmp 1, .b 159 .ge 18 false, .p 162 (.aload_n 2) 1]) (by decide +kernel) rfl (g' := (mkF m 163 #[rv x0, rv x1, rv x2, rv b3, rv b4, iv 0, iv 0, iv 1, jv (wB_150_a cA cB pP q0 q2), .second] [(.ref x2)])) rfl ⟨ra (by decide), ra (by decide), ra (by decide), (tltL (hA : (wB_150_a cA cB pP q0 q2) < (wB_150 cA cB pP q0 q2))).2.1, trivial⟩ ?_
      intro T62 X62 e62
      refine Goes.run X62 hx hown hci hcl hby (L := [(163, .iload 7, 2), (165, .lload 8, 2)]) (by decide +kernel) rfl (g' := (mkF m 167 #[rv x0, rv x1, rv x2, rv b3, rv b4, iv 0, iv 0, iv 1, jv (wB_150_a cA cB pP q0 q2), .second] [(.long (wB_150_a cA cB pP q0 q2)), (.int 1), (.ref x2)])) rfl ?_
      refine Goes.sJ X62 e62 hx hZ V_x2 (i := 1) (own_ixok (by decide)) (Nat.le_of_ble_eq_true rfl) N55 g_x2 rfl rfl (hb hby d9_167) ?_
      intro T63 h63 L63 X63 e63 W63 (V_x2 : Arv Z h63 x2 kx2 .long (4 : Int32) [(.long 0), (.long (wB_150_a cA cB pP q0 q2)), (.long 0), (.long 9223372036854775807)] (.long (0 : Int64))) N63
      have NB := own_all.wr W63 d_x2 NB
      have V_cp := V_cp.other W63 (Ne.symm ne_x2_cp)
      have V_x1 := V_x1.other W63 ne_x1_x2
      have E_b3 := E_b3.wr W63
      have E_b4 := E_b4.wr W63
      have F_keys_b4 := F_keys_b4.other W63 (Or.inl (Ne.symm ne_x2_b4))
      have F_values_b4 := F_values_b4.other W63 (Or.inl (Ne.symm ne_x2_b4))
      have F_size_b4 := F_size_b4.other W63 (Or.inl (Ne.symm ne_x2_b4))
      have V_ks6 := V_ks6.other W63 (Ne.symm ne_x2_ks6)
      have V_vs6 := V_vs6.other W63 (Ne.symm ne_x2_vs6)
      have V_b3 := V_b3.other W63 (Ne.symm ne_x2_b3)
      have K63 := K55.wr W63 (Or.inl (List.mem_of_getElem? (i := 1) rfl))
      refine Goes.run X63 hx hown hci hcl hby (L := [(168, .aload 4, 2), (170, .lload 8, 2), (172, .iload 7, 2)]) (by decide +kernel) rfl (g' := (mkF m 174 #[rv x0, rv x1, rv x2, rv b3, rv b4, iv 0, iv 0, iv 1, jv (wB_150_a cA cB pP q0 q2), .second] [(.int 1), (.long (wB_150_a cA cB pP q0 q2)), (.ref b4)])) rfl ?_
      obtain ⟨cq64, kq64, q64a, q64b, q64c⟩ := isOf hZ e63 E_b4
      obtain ⟨_, _, ⟨T64, L64, k64, n64⟩, -, X64, ⟨Lc64, hQ64, l64, y64, z64⟩, st64⟩ := X63.virtualBack hx (y := ym5) (z := ym5) hown (mvT hZ w_92) (mvT hZ w_93) (notFace_of_selects (args := #[]) (mvT hZ w_95)) (mvT hZ w_95) (mvT hZ w_94) (by decide) (backOf (W := 0) (rm7 l Z a0 hw [] b4 (wB_150_a cA cB pP q0 q2) (1 : Int32) ks6 vs6 k_ks6 k_vs6 (wB_150 cA cB pP q0 q2) (0 : Int64) (0 : Int64) (0 : Int64) (1 : Int32) (0 : Int32) (0 : Int32) (0 : Int32) h63 n0 (Nat.le_trans Z0 K63.1) E_b4 F_keys_b4 F_values_b4 F_size_b4 V_ks6 V_vs6 g_b4 g_ks6 g_vs6 ne_b4_ks6 ne_b4_vs6 nq6_0_1 hA) hZ w_96 w_80 (by decide) (by decide)) q64a q64c (g := (mkF m 174 #[rv x0, rv x1, rv x2, rv b3, rv b4, iv 0, iv 0, iv 1, jv (wB_150_a cA cB pP q0 q2), .second] [(.int 1), (.long (wB_150_a cA cB pP q0 q2)), (.ref b4)])) rfl (by rw [hml]; rfl) (Steps.refl _) (argsL := [(.long (wB_150_a cA cB pP q0 q2)), (.int 1)]) (rest := []) (lenOf pdB_2 rfl) rfl (by show 2 * 0 + _ ≤ _; exact Nat.le_of_eq rfl) (hb hby d9_174) (fun _ _ => ⟨rfl, e63, (by decide : 4 + 0 ≤ _), (by decide : 15 + 0 ≤ _)⟩)
      dsimp only [Pt.U, Pt.locs, Pt.cells, Pt.slots] at X64 l64 y64 z64 st64 hQ64
      subst l64 y64 z64
      obtain ⟨h64, eh64⟩ : ∃ z, z = T64.heap := ⟨_, rfl⟩
      rw [← eh64] at hQ64
      have e64 : T64.heap = h64 := eh64.symm
      obtain ⟨rfl, N64q, Kq64, o64_0, o64_1, o64_2, o64_3, o64_4, o64_5⟩ := hQ64
      have N64 := Fr.app N63 N64q
      have NB := own_all.keep Kq64 (own_dS d_b4 (own_dS d_ks6 (own_dS d_vs6 own_d0))) NB
      have V_cp := V_cp.keep Kq64 (ninS ne_cp_b4 (ninS ne_cp_ks6 (ninS ne_cp_vs6 nin0)))
      have V_x1 := V_x1.keep Kq64 (ninS ne_x1_b4 (ninS ne_x1_ks6 (ninS ne_x1_vs6 nin0)))
      have E_b3 := E_b3.keep Kq64
      have V_b3 := V_b3.keep Kq64 (ninS ne_b3_b4 (ninS ne_b3_ks6 (ninS ne_b3_vs6 nin0)))
      have V_x2 := V_x2.keep Kq64 (ninS ne_x2_b4 (ninS ne_x2_ks6 (ninS ne_x2_vs6 nin0)))
      have E_b4 : Exa Z h64 b4 "com/example/kubera/kubera/FlowNetwork$NodeHeap" := o64_0
      have F_keys_b4 : Fld Z h64 b4 "com/example/kubera/kubera/FlowNetwork$NodeHeap" "keys" "[J" (.ref ks6) := o64_1
      have F_values_b4 : Fld Z h64 b4 "com/example/kubera/kubera/FlowNetwork$NodeHeap" "values" "[I" (.ref vs6) := o64_2
      have F_size_b4 : Fld Z h64 b4 "com/example/kubera/kubera/FlowNetwork$NodeHeap" "size" "I" (.int 2) := o64_3
      have V_ks6 : Arv Z h64 ks6 k_ks6 .long (4 : Int32) [(.long (wB_150_a cA cB pP q0 q2)), (.long (wB_150 cA cB pP q0 q2)), (.long 0), (.long 0)] (.long (0 : Int64)) := o64_4
      have V_vs6 : Arv Z h64 vs6 k_vs6 .int (4 : Int32) [(.int 1), (.int 1), (.int 0), (.int 0)] (.int (0 : Int32)) := o64_5
      have K64 := K63.trans Kq64 ((allS (Or.inr sz_b4) (allS (Or.inr sz_ks6) (allS (Or.inr sz_vs6) all0))))
      refine Goes.st (fun t k => st64.trans k) ?_
      refine Goes.hrun X64 e64 CX NB (L := [.p 177 (.aload_n 0) 1, .f 178 15 5, .p 181 (.iload 6) 2, .I 183 10 0, .p 184 (.istore 6) 2, .p 186 (.goto (-91)) 3, .p 95 (.iload 6) 2, .b 97 .lt 92 true, .p 189 (.goto (-145)) 3, .p 44 (.aload 4) 2]) (by decide +kernel) rfl (g' := (mkF m 46 #[rv x0, rv x1, rv x2, rv b3, rv b4, iv 0, iv (-1), iv 1, jv (wB_150_a cA cB pP q0 q2), .second] [(.ref b4)])) rfl ⟨rr, ra (by decide), by decide, trivial⟩ ?_
      intro T66 X66 e66
      obtain ⟨cq67, kq67, q67a, q67b, q67c⟩ := isOf hZ e66 E_b4
      obtain ⟨_, _, ⟨T67, L67, k67, n67⟩, -, X67, ⟨Lc67, hQ67, l67, y67, z67⟩, st67⟩ := X66.virtualBack hx (y := ym7) (z := ym7) hown (mvT hZ w_99) (mvT hZ w_100) (notFace_of_selects (args := #[]) (mvT hZ w_102)) (mvT hZ w_102) (mvT hZ w_101) (by decide) (backOf (W := 0) (rmA l Z a0 hw [] b4 (2 : Int32) h64 n0 (Nat.le_trans Z0 K64.1) F_size_b4 (by decide)) hZ w_103 w_80 (by decide) (by decide)) q67a q67c (g := (mkF m 46 #[rv x0, rv x1, rv x2, rv b3, rv b4, iv 0, iv (-1), iv 1, jv (wB_150_a cA cB pP q0 q2), .second] [(.ref b4)])) rfl (by rw [hml]; rfl) (Steps.refl _) (argsL := []) (rest := []) (lenOf pdB_3 rfl) rfl (by show 2 * 0 + _ ≤ _; exact Nat.le_of_eq rfl) (hb hby d9_46) (fun _ _ => ⟨rfl, e66, (by decide : 4 + 0 ≤ _), (by decide : 15 + 0 ≤ _)⟩)
      dsimp only [Pt.U, Pt.locs, Pt.cells, Pt.slots] at X67 l67 y67 z67 st67 hQ67
      subst l67 y67 z67
      obtain ⟨rfl, N67q, e67⟩ := hQ67
      have N67 := Fr.app N64 N67q
      refine Goes.st (fun t k => st67.trans k) ?_
      refine Goes.hrun X67 e67 CX NB (L := [.b 49 .ne 143 false, .p 52 (.aload 4) 2]) (by decide +kernel) rfl (g' := (mkF m 54 #[rv x0, rv x1, rv x2, rv b3, rv b4, iv 0, iv (-1), iv 1, jv (wB_150_a cA cB pP q0 q2), .second] [(.ref b4)])) rfl ⟨by decide, trivial⟩ ?_
      intro T69 X69 e69
      obtain ⟨cq70, kq70, q70a, q70b, q70c⟩ := isOf hZ e69 E_b4
      obtain ⟨_, _, ⟨T70, L70, k70, n70⟩, -, X70, ⟨Lc70, hQ70, l70, y70, z70⟩, st70⟩ := X69.virtualBack hx (y := ym6) (z := ym6) hown (mvT hZ w_104) (mvT hZ w_105) (notFace_of_selects (args := #[]) (mvT hZ w_107)) (mvT hZ w_107) (mvT hZ w_106) (by decide) (backOf (W := 0) (rm9 l Z a0 hw [] b4 ks6 vs6 k_ks6 k_vs6 (wB_150_a cA cB pP q0 q2) (wB_150 cA cB pP q0 q2) (0 : Int64) (0 : Int64) (1 : Int32) (1 : Int32) (0 : Int32) (0 : Int32) h64 n0 (Nat.le_trans Z0 K64.1) E_b4 F_keys_b4 F_values_b4 F_size_b4 V_ks6 V_vs6 g_b4 g_ks6 g_vs6 ne_b4_ks6 ne_b4_vs6 nq6_0_1) hZ w_108 w_80 (by decide) (by decide)) q70a q70c (g := (mkF m 54 #[rv x0, rv x1, rv x2, rv b3, rv b4, iv 0, iv (-1), iv 1, jv (wB_150_a cA cB pP q0 q2), .second] [(.ref b4)])) rfl (by rw [hml]; rfl) (Steps.refl _) (argsL := []) (rest := []) (lenOf pdB_4 rfl) rfl (by show 2 * 0 + _ ≤ _; exact Nat.le_of_eq rfl) (hb hby d9_54) (fun _ _ => ⟨rfl, e69, (by decide : 4 + 0 ≤ _), (by decide : 15 + 0 ≤ _)⟩)
      dsimp only [Pt.U, Pt.locs, Pt.cells, Pt.slots] at X70 l70 y70 z70 st70 hQ70
      subst l70 y70 z70
      obtain ⟨h70, eh70⟩ : ∃ z, z = T70.heap := ⟨_, rfl⟩
      rw [← eh70] at hQ70
      have e70 : T70.heap = h70 := eh70.symm
      obtain ⟨rfl, N70q, Kq70, o70_0, o70_1, o70_2, o70_3, o70_4, o70_5⟩ := hQ70
      have N70 := Fr.app N67 N70q
      have NB := own_all.keep Kq70 (own_dS d_b4 (own_dS d_ks6 (own_dS d_vs6 own_d0))) NB
      have V_cp := V_cp.keep Kq70 (ninS ne_cp_b4 (ninS ne_cp_ks6 (ninS ne_cp_vs6 nin0)))
      have V_x1 := V_x1.keep Kq70 (ninS ne_x1_b4 (ninS ne_x1_ks6 (ninS ne_x1_vs6 nin0)))
      have E_b3 := E_b3.keep Kq70
      have V_b3 := V_b3.keep Kq70 (ninS ne_b3_b4 (ninS ne_b3_ks6 (ninS ne_b3_vs6 nin0)))
      have V_x2 := V_x2.keep Kq70 (ninS ne_x2_b4 (ninS ne_x2_ks6 (ninS ne_x2_vs6 nin0)))
      have E_b4 : Exa Z h70 b4 "com/example/kubera/kubera/FlowNetwork$NodeHeap" := o70_0
      have F_keys_b4 : Fld Z h70 b4 "com/example/kubera/kubera/FlowNetwork$NodeHeap" "keys" "[J" (.ref ks6) := o70_1
      have F_values_b4 : Fld Z h70 b4 "com/example/kubera/kubera/FlowNetwork$NodeHeap" "values" "[I" (.ref vs6) := o70_2
      have F_size_b4 : Fld Z h70 b4 "com/example/kubera/kubera/FlowNetwork$NodeHeap" "size" "I" (.int 1) := o70_3
      have V_ks6 : Arv Z h70 ks6 k_ks6 .long (4 : Int32) [(.long (wB_150 cA cB pP q0 q2)), (.long (wB_150 cA cB pP q0 q2)), (.long 0), (.long 0)] (.long (0 : Int64)) := o70_4
      have V_vs6 : Arv Z h70 vs6 k_vs6 .int (4 : Int32) [(.int 1), (.int 1), (.int 0), (.int 0)] (.int (0 : Int32)) := o70_5
      have K70 := K64.trans Kq70 ((allS (Or.inr sz_b4) (allS (Or.inr sz_ks6) (allS (Or.inr sz_vs6) all0))))
      refine Goes.st (fun t k => st70.trans k) ?_
      refine Goes.hrun X70 e70 CX (own_c2 V_b3 NB) (L := [.p 57 (.istore 5) 2, .p 59 (.aload_n 3) 1, .p 60 (.iload 5) 2, .Z 62 0 1, .b 63 .eq 6 true, .p 69 (.aload_n 3) 1, .p 70 (.iload 5) 2, .p 72 (.iconst 1) 1]) (by decide +kernel) rfl (g' := (mkF m 73 #[rv x0, rv x1, rv x2, rv b3, rv b4, iv 1, iv (-1), iv 1, jv (wB_150_a cA cB pP q0 q2), .second] [(.int 1), (.int 1), (.ref b3)])) rfl ⟨ra (by decide), by decide, trivial⟩ ?_
      intro T72 X72 e72
      refine Goes.sZ X72 e72 hx hZ V_b3 (i := 1) (own_ixok (by decide)) (Nat.le_of_ble_eq_true rfl) N70 g_b3 rfl rfl (hb hby d9_73) ?_
      intro T73 h73 L73 X73 e73 W73 (V_b3 : Arv Z h73 b3 k3 .boolean (4 : Int32) [(.int 1), (.int 1), (.int 1), (.int 0)] (.int 0)) N73
      have NB := own_all.wr W73 d_b3 NB
      have V_cp := V_cp.other W73 ne_cp_b3
      have V_x1 := V_x1.other W73 ne_x1_b3
      have E_b3 := E_b3.wr W73
      have E_b4 := E_b4.wr W73
      have F_keys_b4 := F_keys_b4.other W73 (Or.inl (Ne.symm ne_b3_b4))
      have F_values_b4 := F_values_b4.other W73 (Or.inl (Ne.symm ne_b3_b4))
      have F_size_b4 := F_size_b4.other W73 (Or.inl (Ne.symm ne_b3_b4))
      have V_ks6 := V_ks6.other W73 (Ne.symm ne_b3_ks6)
      have V_vs6 := V_vs6.other W73 (Ne.symm ne_b3_vs6)
      have V_x2 := V_x2.other W73 ne_x2_b3
      have K73 := K70.wr W73 (Or.inr sz_b3)
      refine Goes.hrun X73 e73 CX NB (L := [.p 74 (.iload 5) 2, .p 76 (.aload_n 0) 1, .f 77 35 2, .c 80 .ne 6 true, .p 86 (.aload_n 0) 1, .f 87 41 3, .p 90 (.iload 5) 2, .I 92 8 1, .p 93 (.istore 6) 2, .p 95 (.iload 6) 2, .b 97 .lt 92 false, .p 100 (.aload_n 0) 1, .f 101 9 4, .p 104 (.iload 6) 2, .I 106 9 6, .p 107 (.istore 7) 2]) (by decide +kernel) rfl (g' := (mkF m 109 #[rv x0, rv x1, rv x2, rv b3, rv b4, iv 1, iv 6, iv 3, jv (wB_150_a cA cB pP q0 q2), .second] [])) rfl ⟨rr, by decide, rr, ra (by decide), by decide, rr, ra (by decide), trivial⟩ ?_
      intro T79 X79 e79
      refine Goes.hrun X79 e79 CX (own_c2 V_cp (own_c2 V_b3 (own_c2 V_x2 NB))) (L := [.p 109 (.aload_n 0) 1, .f 110 18 9, .p 113 (.iload 6) 2, .J 115 0 6, .p 116 (.lconst 0) 1, .p 117 .lcmp 1, .b 118 .le 59 false, .p 121 (.aload_n 3) 1, .p 122 (.iload 7) 2, .Z 124 1 3, .b 125 .ne 52 false, .p 128 (.aload_n 2) 1, .p 129 (.iload 5) 2, .J 131 2 1, .p 132 (.aload_n 0) 1, .f 133 22 10]) (by decide +kernel) rfl (g' := (mkF m 136 #[rv x0, rv x1, rv x2, rv b3, rv b4, iv 1, iv 6, iv 3, jv (wB_150_a cA cB pP q0 q2), .second] [(.ref co), (.long (wB_150_a cA cB pP q0 q2))])) rfl ⟨rr, ra (by decide), (tltL (pz6 : (0 : Int64) < q6)).2.2.2, ra (by decide), by decide, ra (by decide), rr, trivial⟩ ?_
      intro T80 X80 e80
      refine Goes.hrun X80 e80 CX (own_c2 V_x1 (own_c2 V_x2 NB)) (L := [.p 136 (.iload 6) 2, .J 138 13 6, .p 139 .ladd 1, .p 140 (.aload_n 1) 1, .p 141 (.iload 5) 2, .J 143 0 1, .p 144 .ladd 1, .p 145 (.aload_n 1) 1, .p 146 (.iload 7) 2, .J 148 0 3, .p 149 .lsub 1, .p 150 (.lstore 8) 2, .p 152 (.lload 8) 2, .p 154 (.aload_n 2) 1, .p 155 (.iload 7) 2, .J 157 1 3]) (by decide +kernel) rfl (g' := (mkF m 158 #[rv x0, rv x1, rv x2, rv b3, rv b4, iv 1, iv 6, iv 3, jv (wB_150_b cA cB pP q0 q2), .second] [(.long 9223372036854775807), (.long (wB_150_b cA cB pP q0 q2))])) rfl ⟨ra (by decide), ra (by decide), ra (by decide), ra (by decide), trivial⟩ ?_
      intro T81 X81 e81
      refine Goes.hrun X81 e81 CX NB (L := [.p 158 .lcmp 1, .b 159 .ge 18 false, .p 162 (.aload_n 2) 1, .p 163 (.iload 7) 2, .p 165 (.lload 8) 2]) (by decide +kernel) rfl (g' := (mkF m 167 #[rv x0, rv x1, rv x2, rv b3, rv b4, iv 1, iv 6, iv 3, jv (wB_150_b cA cB pP q0 q2), .second] [(.long (wB_150_b cA cB pP q0 q2)), (.int 3), (.ref x2)])) rfl ⟨(tltL (own_lt3 hMA : (wB_150_b cA cB pP q0 q2) < (9223372036854775807 : Int64))).2.1, trivial⟩ ?_
      intro T82 X82 e82
      refine Goes.sJ X82 e82 hx hZ V_x2 (i := 3) (own_ixok (by decide)) (Nat.le_of_ble_eq_true rfl) N73 g_x2 rfl rfl (hb hby d9_167) ?_
      intro T83 h83 L83 X83 e83 W83 (V_x2 : Arv Z h83 x2 kx2 .long (4 : Int32) [(.long 0), (.long (wB_150_a cA cB pP q0 q2)), (.long 0), (.long (wB_150_b cA cB pP q0 q2))] (.long (0 : Int64))) N83
      have NB := own_all.wr W83 d_x2 NB
      have V_cp := V_cp.other W83 (Ne.symm ne_x2_cp)
      have V_x1 := V_x1.other W83 ne_x1_x2
      have E_b3 := E_b3.wr W83
      have E_b4 := E_b4.wr W83
      have F_keys_b4 := F_keys_b4.other W83 (Or.inl (Ne.symm ne_x2_b4))
      have F_values_b4 := F_values_b4.other W83 (Or.inl (Ne.symm ne_x2_b4))
      have F_size_b4 := F_size_b4.other W83 (Or.inl (Ne.symm ne_x2_b4))
      have V_ks6 := V_ks6.other W83 (Ne.symm ne_x2_ks6)
      have V_vs6 := V_vs6.other W83 (Ne.symm ne_x2_vs6)
      have V_b3 := V_b3.other W83 (Ne.symm ne_x2_b3)
      have K83 := K73.wr W83 (Or.inl (List.mem_of_getElem? (i := 1) rfl))
      refine Goes.run X83 hx hown hci hcl hby (L := [(168, .aload 4, 2), (170, .lload 8, 2), (172, .iload 7, 2)]) (by decide +kernel) rfl (g' := (mkF m 174 #[rv x0, rv x1, rv x2, rv b3, rv b4, iv 1, iv 6, iv 3, jv (wB_150_b cA cB pP q0 q2), .second] [(.int 3), (.long (wB_150_b cA cB pP q0 q2)), (.ref b4)])) rfl ?_
      obtain ⟨cq84, kq84, q84a, q84b, q84c⟩ := isOf hZ e83 E_b4
      obtain ⟨_, _, ⟨T84, L84, k84, n84⟩, -, X84, ⟨Lc84, hQ84, l84, y84, z84⟩, st84⟩ := X83.virtualBack hx (y := ym5) (z := ym5) hown (mvT hZ w_92) (mvT hZ w_93) (notFace_of_selects (args := #[]) (mvT hZ w_95)) (mvT hZ w_95) (mvT hZ w_94) (by decide) (backOf (W := 0) (rm7 l Z a0 hw [] b4 (wB_150_b cA cB pP q0 q2) (3 : Int32) ks6 vs6 k_ks6 k_vs6 (wB_150 cA cB pP q0 q2) (wB_150 cA cB pP q0 q2) (0 : Int64) (0 : Int64) (1 : Int32) (1 : Int32) (0 : Int32) (0 : Int32) h83 n0 (Nat.le_trans Z0 K83.1) E_b4 F_keys_b4 F_values_b4 F_size_b4 V_ks6 V_vs6 g_b4 g_ks6 g_vs6 ne_b4_ks6 ne_b4_vs6 nq6_0_1 (own_lt3 hA)) hZ w_96 w_80 (by decide) (by decide)) q84a q84c (g := (mkF m 174 #[rv x0, rv x1, rv x2, rv b3, rv b4, iv 1, iv 6, iv 3, jv (wB_150_b cA cB pP q0 q2), .second] [(.int 3), (.long (wB_150_b cA cB pP q0 q2)), (.ref b4)])) rfl (by rw [hml]; rfl) (Steps.refl _) (argsL := [(.long (wB_150_b cA cB pP q0 q2)), (.int 3)]) (rest := []) (lenOf pdB_2 rfl) rfl (by show 2 * 0 + _ ≤ _; exact Nat.le_of_eq rfl) (hb hby d9_174) (fun _ _ => ⟨rfl, e83, (by decide : 4 + 0 ≤ _), (by decide : 15 + 0 ≤ _)⟩)
      dsimp only [Pt.U, Pt.locs, Pt.cells, Pt.slots] at X84 l84 y84 z84 st84 hQ84
      subst l84 y84 z84
      obtain ⟨h84, eh84⟩ : ∃ z, z = T84.heap := ⟨_, rfl⟩
      rw [← eh84] at hQ84
      have e84 : T84.heap = h84 := eh84.symm
      obtain ⟨rfl, N84q, Kq84, o84_0, o84_1, o84_2, o84_3, o84_4, o84_5⟩ := hQ84
      have N84 := Fr.app N83 N84q
      have NB := own_all.keep Kq84 (own_dS d_b4 (own_dS d_ks6 (own_dS d_vs6 own_d0))) NB
      have V_cp := V_cp.keep Kq84 (ninS ne_cp_b4 (ninS ne_cp_ks6 (ninS ne_cp_vs6 nin0)))
      have V_x1 := V_x1.keep Kq84 (ninS ne_x1_b4 (ninS ne_x1_ks6 (ninS ne_x1_vs6 nin0)))
      have E_b3 := E_b3.keep Kq84
      have V_b3 := V_b3.keep Kq84 (ninS ne_b3_b4 (ninS ne_b3_ks6 (ninS ne_b3_vs6 nin0)))
      have V_x2 := V_x2.keep Kq84 (ninS ne_x2_b4 (ninS ne_x2_ks6 (ninS ne_x2_vs6 nin0)))
      have E_b4 : Exa Z h84 b4 "com/example/kubera/kubera/FlowNetwork$NodeHeap" := o84_0
      have F_keys_b4 : Fld Z h84 b4 "com/example/kubera/kubera/FlowNetwork$NodeHeap" "keys" "[J" (.ref ks6) := o84_1
      have F_values_b4 : Fld Z h84 b4 "com/example/kubera/kubera/FlowNetwork$NodeHeap" "values" "[I" (.ref vs6) := o84_2
      have F_size_b4 : Fld Z h84 b4 "com/example/kubera/kubera/FlowNetwork$NodeHeap" "size" "I" (.int 2) := o84_3
      have V_ks6 : Arv Z h84 ks6 k_ks6 .long (4 : Int32) [(.long (wB_150_b cA cB pP q0 q2)), (.long (wB_150 cA cB pP q0 q2)), (.long 0), (.long 0)] (.long (0 : Int64)) := o84_4
      have V_vs6 : Arv Z h84 vs6 k_vs6 .int (4 : Int32) [(.int 3), (.int 1), (.int 0), (.int 0)] (.int (0 : Int32)) := o84_5
      have K84 := K83.trans Kq84 ((allS (Or.inr sz_b4) (allS (Or.inr sz_ks6) (allS (Or.inr sz_vs6) all0))))
      refine Goes.st (fun t k => st84.trans k) ?_
      refine Goes.hrun X84 e84 CX NB (L := [.p 177 (.aload_n 0) 1, .f 178 15 5, .p 181 (.iload 6) 2, .I 183 10 6, .p 184 (.istore 6) 2, .p 186 (.goto (-91)) 3, .p 95 (.iload 6) 2, .b 97 .lt 92 false, .p 100 (.aload_n 0) 1, .f 101 9 4, .p 104 (.iload 6) 2, .I 106 9 3, .p 107 (.istore 7) 2, .p 109 (.aload_n 0) 1, .f 110 18 6, .p 113 (.iload 6) 2]) (by decide +kernel) rfl (g' := (mkF m 115 #[rv x0, rv x1, rv x2, rv b3, rv b4, iv 1, iv 3, iv 0, jv (wB_150_b cA cB pP q0 q2), .second] [(.int 3), (.ref cp)])) rfl ⟨rr, ra (by decide), by decide, rr, ra (by decide), rr, trivial⟩ ?_
      intro T87 X87 e87
      refine Goes.hrun X87 e87 CX (own_c2 V_cp NB) (L := [.J 115 0 3, .p 116 (.lconst 0) 1, .p 117 .lcmp 1]) (by decide +kernel) rfl (g' := (mkF m 118 #[rv x0, rv x1, rv x2, rv b3, rv b4, iv 1, iv 3, iv 0, jv (wB_150_b cA cB pP q0 q2), .second] [(.int (lcmpW q3 (0 : Int64)))])) rfl ⟨ra (by decide), trivial⟩ ?_
      intro T88 X88 e88
      have jn177_90 : ∀ (T91 : State) (L91 : List Loc) (X91 : Stand p l e ({ frames := 2, cells := 4, slots := 15, locals := 28 } : Room) s m #[(.ref x0), (.ref x1), (.ref x2)] below meth c T91 L91 4 15) (e91 : T91.heap = h84) (N91 : Fr n0 L91), Goes p e below s (QM Z x1 x2 kx1 kx2 kM h0 n0) ({ frames := 2, cells := 4, slots := 15, locals := 28 } : Room).cells ({ frames := 2, cells := 4, slots := 15, locals := 28 } : Room).slots (T91.setTop (mkF m 177 #[rv x0, rv x1, rv x2, rv b3, rv b4, iv 1, iv 3, iv 0, jv (wB_150_b cA cB pP q0 q2), .second] [])) := by
        intro T91 L91 X91 e91 N91
        refine Goes.hrun X91 e91 CX NB (L := [.p 177 (.aload_n 0) 1, .f 178 15 5, .p 181 (.iload 6) 2, .I 183 10 3, .p 184 (.istore 6) 2, .p 186 (.goto (-91)) 3, .p 95 (.iload 6) 2, .b 97 .lt 92 false, .p 100 (.aload_n 0) 1, .f 101 9 4, .p 104 (.iload 6) 2, .I 106 9 1, .p 107 (.istore 7) 2, .p 109 (.aload_n 0) 1, .f 110 18 6, .p 113 (.iload 6) 2]) (by decide +kernel) rfl (g' := (mkF m 115 #[rv x0, rv x1, rv x2, rv b3, rv b4, iv 1, iv 1, iv 0, jv (wB_150_b cA cB pP q0 q2), .second] [(.int 1), (.ref cp)])) rfl ⟨rr, ra (by decide), by decide, rr, ra (by decide), rr, trivial⟩ ?_
        intro T94 X94 e94
        refine Goes.hrun X94 e94 CX (own_c2 V_cp NB) (L := [.J 115 0 1, .p 116 (.lconst 0) 1, .p 117 .lcmp 1]) (by decide +kernel) rfl (g' := (mkF m 118 #[rv x0, rv x1, rv x2, rv b3, rv b4, iv 1, iv 1, iv 0, jv (wB_150_b cA cB pP q0 q2), .second] [(.int (lcmpW q1 (0 : Int64)))])) rfl ⟨ra (by decide), trivial⟩ ?_
        intro T95 X95 e95
        have jn177_97 : ∀ (T98 : State) (L98 : List Loc) (X98 : Stand p l e ({ frames := 2, cells := 4, slots := 15, locals := 28 } : Room) s m #[(.ref x0), (.ref x1), (.ref x2)] below meth c T98 L98 4 15) (e98 : T98.heap = h84) (N98 : Fr n0 L98), Goes p e below s (QM Z x1 x2 kx1 kx2 kM h0 n0) ({ frames := 2, cells := 4, slots := 15, locals := 28 } : Room).cells ({ frames := 2, cells := 4, slots := 15, locals := 28 } : Room).slots (T98.setTop (mkF m 177 #[rv x0, rv x1, rv x2, rv b3, rv b4, iv 1, iv 1, iv 0, jv (wB_150_b cA cB pP q0 q2), .second] [])) := by
          intro T98 L98 X98 e98 N98
          refine Goes.hrun X98 e98 CX NB (L := [.p 177 (.aload_n 0) 1, .f 178 15 5, .p 181 (.iload 6) 2, .I 183 10 1, .p 184 (.istore 6) 2, .p 186 (.goto (-91)) 3, .p 95 (.iload 6) 2, .b 97 .lt 92 true, .p 189 (.goto (-145)) 3, .p 44 (.aload 4) 2]) (by decide +kernel) rfl (g' := (mkF m 46 #[rv x0, rv x1, rv x2, rv b3, rv b4, iv 1, iv (-1), iv 0, jv (wB_150_b cA cB pP q0 q2), .second] [(.ref b4)])) rfl ⟨rr, ra (by decide), by decide, trivial⟩ ?_
          intro T100 X100 e100
          obtain ⟨cq101, kq101, q101a, q101b, q101c⟩ := isOf hZ e100 E_b4
          obtain ⟨_, _, ⟨T101, L101, k101, n101⟩, -, X101, ⟨Lc101, hQ101, l101, y101, z101⟩, st101⟩ := X100.virtualBack hx (y := ym7) (z := ym7) hown (mvT hZ w_99) (mvT hZ w_100) (notFace_of_selects (args := #[]) (mvT hZ w_102)) (mvT hZ w_102) (mvT hZ w_101) (by decide) (backOf (W := 0) (rmA l Z a0 hw [] b4 (2 : Int32) h84 n0 (Nat.le_trans Z0 K84.1) F_size_b4 (by decide)) hZ w_103 w_80 (by decide) (by decide)) q101a q101c (g := (mkF m 46 #[rv x0, rv x1, rv x2, rv b3, rv b4, iv 1, iv (-1), iv 0, jv (wB_150_b cA cB pP q0 q2), .second] [(.ref b4)])) rfl (by rw [hml]; rfl) (Steps.refl _) (argsL := []) (rest := []) (lenOf pdB_3 rfl) rfl (by show 2 * 0 + _ ≤ _; exact Nat.le_of_eq rfl) (hb hby d9_46) (fun _ _ => ⟨rfl, e100, (by decide : 4 + 0 ≤ _), (by decide : 15 + 0 ≤ _)⟩)
          dsimp only [Pt.U, Pt.locs, Pt.cells, Pt.slots] at X101 l101 y101 z101 st101 hQ101
          subst l101 y101 z101
          obtain ⟨rfl, N101q, e101⟩ := hQ101
          have N101 := Fr.app N98 N101q
          refine Goes.st (fun t k => st101.trans k) ?_
          refine Goes.hrun X101 e101 CX NB (L := [.b 49 .ne 143 false, .p 52 (.aload 4) 2]) (by decide +kernel) rfl (g' := (mkF m 54 #[rv x0, rv x1, rv x2, rv b3, rv b4, iv 1, iv (-1), iv 0, jv (wB_150_b cA cB pP q0 q2), .second] [(.ref b4)])) rfl ⟨by decide, trivial⟩ ?_
          intro T103 X103 e103
          obtain ⟨cq104, kq104, q104a, q104b, q104c⟩ := isOf hZ e103 E_b4
          obtain ⟨_, _, ⟨T104, L104, k104, n104⟩, -, X104, ⟨Lc104, hQ104, l104, y104, z104⟩, st104⟩ := X103.virtualBack hx (y := ym6) (z := ym6) hown (mvT hZ w_104) (mvT hZ w_105) (notFace_of_selects (args := #[]) (mvT hZ w_107)) (mvT hZ w_107) (mvT hZ w_106) (by decide) (backOf (W := 0) (rm9 l Z a0 hw [] b4 ks6 vs6 k_ks6 k_vs6 (wB_150_b cA cB pP q0 q2) (wB_150 cA cB pP q0 q2) (0 : Int64) (0 : Int64) (3 : Int32) (1 : Int32) (0 : Int32) (0 : Int32) h84 n0 (Nat.le_trans Z0 K84.1) E_b4 F_keys_b4 F_values_b4 F_size_b4 V_ks6 V_vs6 g_b4 g_ks6 g_vs6 ne_b4_ks6 ne_b4_vs6 nq6_0_1) hZ w_108 w_80 (by decide) (by decide)) q104a q104c (g := (mkF m 54 #[rv x0, rv x1, rv x2, rv b3, rv b4, iv 1, iv (-1), iv 0, jv (wB_150_b cA cB pP q0 q2), .second] [(.ref b4)])) rfl (by rw [hml]; rfl) (Steps.refl _) (argsL := []) (rest := []) (lenOf pdB_4 rfl) rfl (by show 2 * 0 + _ ≤ _; exact Nat.le_of_eq rfl) (hb hby d9_54) (fun _ _ => ⟨rfl, e103, (by decide : 4 + 0 ≤ _), (by decide : 15 + 0 ≤ _)⟩)
          dsimp only [Pt.U, Pt.locs, Pt.cells, Pt.slots] at X104 l104 y104 z104 st104 hQ104
          subst l104 y104 z104
          obtain ⟨h104, eh104⟩ : ∃ z, z = T104.heap := ⟨_, rfl⟩
          rw [← eh104] at hQ104
          have e104 : T104.heap = h104 := eh104.symm
          obtain ⟨rfl, N104q, Kq104, o104_0, o104_1, o104_2, o104_3, o104_4, o104_5⟩ := hQ104
          have N104 := Fr.app N101 N104q
          have NB := own_all.keep Kq104 (own_dS d_b4 (own_dS d_ks6 (own_dS d_vs6 own_d0))) NB
          have V_cp := V_cp.keep Kq104 (ninS ne_cp_b4 (ninS ne_cp_ks6 (ninS ne_cp_vs6 nin0)))
          have V_x1 := V_x1.keep Kq104 (ninS ne_x1_b4 (ninS ne_x1_ks6 (ninS ne_x1_vs6 nin0)))
          have E_b3 := E_b3.keep Kq104
          have V_b3 := V_b3.keep Kq104 (ninS ne_b3_b4 (ninS ne_b3_ks6 (ninS ne_b3_vs6 nin0)))
          have V_x2 := V_x2.keep Kq104 (ninS ne_x2_b4 (ninS ne_x2_ks6 (ninS ne_x2_vs6 nin0)))
          have E_b4 : Exa Z h104 b4 "com/example/kubera/kubera/FlowNetwork$NodeHeap" := o104_0
          have F_keys_b4 : Fld Z h104 b4 "com/example/kubera/kubera/FlowNetwork$NodeHeap" "keys" "[J" (.ref ks6) := o104_1
          have F_values_b4 : Fld Z h104 b4 "com/example/kubera/kubera/FlowNetwork$NodeHeap" "values" "[I" (.ref vs6) := o104_2
          have F_size_b4 : Fld Z h104 b4 "com/example/kubera/kubera/FlowNetwork$NodeHeap" "size" "I" (.int 1) := o104_3
          have V_ks6 : Arv Z h104 ks6 k_ks6 .long (4 : Int32) [(.long (wB_150 cA cB pP q0 q2)), (.long (wB_150 cA cB pP q0 q2)), (.long 0), (.long 0)] (.long (0 : Int64)) := o104_4
          have V_vs6 : Arv Z h104 vs6 k_vs6 .int (4 : Int32) [(.int 1), (.int 1), (.int 0), (.int 0)] (.int (0 : Int32)) := o104_5
          have K104 := K84.trans Kq104 ((allS (Or.inr sz_b4) (allS (Or.inr sz_ks6) (allS (Or.inr sz_vs6) all0))))
          refine Goes.st (fun t k => st104.trans k) ?_
          refine Goes.hrun X104 e104 CX (own_c2 V_b3 NB) (L := [.p 57 (.istore 5) 2, .p 59 (.aload_n 3) 1, .p 60 (.iload 5) 2, .Z 62 0 3, .b 63 .eq 6 true, .p 69 (.aload_n 3) 1, .p 70 (.iload 5) 2, .p 72 (.iconst 1) 1]) (by decide +kernel) rfl (g' := (mkF m 73 #[rv x0, rv x1, rv x2, rv b3, rv b4, iv 3, iv (-1), iv 0, jv (wB_150_b cA cB pP q0 q2), .second] [(.int 1), (.int 3), (.ref b3)])) rfl ⟨ra (by decide), by decide, trivial⟩ ?_
          intro T106 X106 e106
          refine Goes.sZ X106 e106 hx hZ V_b3 (i := 3) (own_ixok (by decide)) (Nat.le_of_ble_eq_true rfl) N104 g_b3 rfl rfl (hb hby d9_73) ?_
          intro T107 h107 L107 X107 e107 W107 (V_b3 : Arv Z h107 b3 k3 .boolean (4 : Int32) [(.int 1), (.int 1), (.int 1), (.int 1)] (.int 0)) N107
          have NB := own_all.wr W107 d_b3 NB
          have V_cp := V_cp.other W107 ne_cp_b3
          have V_x1 := V_x1.other W107 ne_x1_b3
          have E_b3 := E_b3.wr W107
          have E_b4 := E_b4.wr W107
          have F_keys_b4 := F_keys_b4.other W107 (Or.inl (Ne.symm ne_b3_b4))
          have F_values_b4 := F_values_b4.other W107 (Or.inl (Ne.symm ne_b3_b4))
          have F_size_b4 := F_size_b4.other W107 (Or.inl (Ne.symm ne_b3_b4))
          have V_ks6 := V_ks6.other W107 (Ne.symm ne_b3_ks6)
          have V_vs6 := V_vs6.other W107 (Ne.symm ne_b3_vs6)
          have V_x2 := V_x2.other W107 ne_x2_b3
          have K107 := K104.wr W107 (Or.inr sz_b3)
          refine Goes.hrun X107 e107 CX (own_c2 V_b3 (own_c2 V_x2 NB)) (L := [.p 74 (.iload 5) 2, .p 76 (.aload_n 0) 1, .f 77 35 4, .c 80 .ne 6 false, .p 83 (.goto 109) 3, .p 192 (.aload_n 3) 1, .p 193 (.aload_n 0) 1, .f 194 35 4, .Z 197 0 3, .b 198 .ne 5 true, .p 203 (.aload_n 2) 1, .p 204 (.aload_n 0) 1, .f 205 35 4, .J 208 1 3, .p 209 (.lstore 5) 2, .p 211 (.iconst 0) 1]) (by decide +kernel) rfl (g' := (mkF m 212 #[rv x0, rv x1, rv x2, rv b3, rv b4, jv (wB_150_b cA cB pP q0 q2), .second, iv 0, jv (wB_150_b cA cB pP q0 q2), .second] [(.int 0)])) rfl ⟨rr, by decide, rr, ra (by decide), by decide, rr, ra (by decide), trivial⟩ ?_
          intro T112 X112 e112
          refine Goes.hrun X112 e112 CX NB (L := [.p 212 (.istore 7) 2, .p 214 (.iload 7) 2, .p 216 (.aload_n 0) 1, .f 217 28 0, .c 220 .ge 32 false, .p 223 (.aload_n 1) 1, .p 224 (.iload 7) 2]) (by decide +kernel) rfl (g' := (mkF m 226 #[rv x0, rv x1, rv x2, rv b3, rv b4, jv (wB_150_b cA cB pP q0 q2), .second, iv 0, jv (wB_150_b cA cB pP q0 q2), .second] [(.int 0), (.ref x1)])) rfl ⟨rr, by decide, trivial⟩ ?_
          intro T113 X113 e113
          refine Goes.st (B := T113.setTop (mkF m 227 #[rv x0, rv x1, rv x2, rv b3, rv b4, jv (wB_150_b cA cB pP q0 q2), .second, iv 0, jv (wB_150_b cA cB pP q0 q2), .second] [(.int 0), (.ref x1), (.int 0), (.ref x1)])) (fun t k => ?_) ?_
          · refine Jvm.Free.XT.dup2 X113.here hx rfl (hb hby d9_226) rfl rfl rfl ?_
            exact k
          refine Goes.hrun X113 e113 CX (own_c2 V_x1 (own_c2 V_b3 (own_c2 V_x2 NB))) (L := [.J 227 0 0, .p 228 (.aload_n 3) 1, .p 229 (.iload 7) 2, .Z 231 1 0, .b 232 .eq 10 false, .p 235 (.aload_n 2) 1, .p 236 (.iload 7) 2, .J 238 2 0, .p 239 (.goto 5) 3, .p 244 .ladd 1]) (by decide +kernel) rfl (g' := (mkF m 245 #[rv x0, rv x1, rv x2, rv b3, rv b4, jv (wB_150_b cA cB pP q0 q2), .second, iv 0, jv (wB_150_b cA cB pP q0 q2), .second] [(.long 0), (.int 0), (.ref x1)])) rfl ⟨ra (by decide), ra (by decide), by decide, ra (by decide), trivial⟩ ?_
          intro T114 X114 e114
          refine Goes.sJ X114 e114 hx hZ V_x1 (i := 0) (own_ixok (by decide)) (Nat.le_of_ble_eq_true rfl) N107 g_x1 rfl rfl (hb hby d9_245) ?_
          intro T115 h115 L115 X115 e115 W115 (V_x1 : Arv Z h115 x1 kx1 .long (4 : Int32) [(.long 0), (.long pP), (.long 0), (.long pP)] (.long (0 : Int64))) N115
          have NB := own_all.wr W115 d_x1 NB
          have V_cp := V_cp.other W115 (Ne.symm ne_x1_cp)
          have E_b3 := E_b3.wr W115
          have E_b4 := E_b4.wr W115
          have F_keys_b4 := F_keys_b4.other W115 (Or.inl (Ne.symm ne_x1_b4))
          have F_values_b4 := F_values_b4.other W115 (Or.inl (Ne.symm ne_x1_b4))
          have F_size_b4 := F_size_b4.other W115 (Or.inl (Ne.symm ne_x1_b4))
          have V_ks6 := V_ks6.other W115 (Ne.symm ne_x1_ks6)
          have V_vs6 := V_vs6.other W115 (Ne.symm ne_x1_vs6)
          have V_x2 := V_x2.other W115 (Ne.symm ne_x1_x2)
          have V_b3 := V_b3.other W115 (Ne.symm ne_x1_b3)
          have K115 := K107.wr W115 (Or.inl (List.mem_of_getElem? (i := 0) rfl))
          refine Goes.hrun X115 e115 CX NB (L := [.p 246 (.iinc 7 1) 3, .p 249 (.goto (-35)) 3, .p 214 (.iload 7) 2, .p 216 (.aload_n 0) 1, .f 217 28 0, .c 220 .ge 32 false, .p 223 (.aload_n 1) 1, .p 224 (.iload 7) 2]) (by decide +kernel) rfl (g' := (mkF m 226 #[rv x0, rv x1, rv x2, rv b3, rv b4, jv (wB_150_b cA cB pP q0 q2), .second, iv 1, jv (wB_150_b cA cB pP q0 q2), .second] [(.int 1), (.ref x1)])) rfl ⟨rr, by decide, trivial⟩ ?_
          intro T118 X118 e118
          refine Goes.st (B := T118.setTop (mkF m 227 #[rv x0, rv x1, rv x2, rv b3, rv b4, jv (wB_150_b cA cB pP q0 q2), .second, iv 1, jv (wB_150_b cA cB pP q0 q2), .second] [(.int 1), (.ref x1), (.int 1), (.ref x1)])) (fun t k => ?_) ?_
          · refine Jvm.Free.XT.dup2 X118.here hx rfl (hb hby d9_226) rfl rfl rfl ?_
            exact k
          refine Goes.hrun X118 e118 CX (own_c2 V_x1 (own_c2 V_b3 (own_c2 V_x2 NB))) (L := [.J 227 0 1, .p 228 (.aload_n 3) 1, .p 229 (.iload 7) 2, .Z 231 1 1, .b 232 .eq 10 false, .p 235 (.aload_n 2) 1, .p 236 (.iload 7) 2, .J 238 2 1, .p 239 (.goto 5) 3, .p 244 .ladd 1]) (by decide +kernel) rfl (g' := (mkF m 245 #[rv x0, rv x1, rv x2, rv b3, rv b4, jv (wB_150_b cA cB pP q0 q2), .second, iv 1, jv (wB_150_b cA cB pP q0 q2), .second] [(.long (pP + (wB_150_a cA cB pP q0 q2))), (.int 1), (.ref x1)])) rfl ⟨ra (by decide), ra (by decide), by decide, ra (by decide), trivial⟩ ?_
          intro T119 X119 e119
          refine Goes.sJ X119 e119 hx hZ V_x1 (i := 1) (own_ixok (by decide)) (Nat.le_of_ble_eq_true rfl) N115 g_x1 rfl rfl (hb hby d9_245) ?_
          intro T120 h120 L120 X120 e120 W120 (V_x1 : Arv Z h120 x1 kx1 .long (4 : Int32) [(.long 0), (.long (sB_245 cA cB pP q0 q2)), (.long 0), (.long pP)] (.long (0 : Int64))) N120
          have NB := own_all.wr W120 d_x1 NB
          have V_cp := V_cp.other W120 (Ne.symm ne_x1_cp)
          have E_b3 := E_b3.wr W120
          have E_b4 := E_b4.wr W120
          have F_keys_b4 := F_keys_b4.other W120 (Or.inl (Ne.symm ne_x1_b4))
          have F_values_b4 := F_values_b4.other W120 (Or.inl (Ne.symm ne_x1_b4))
          have F_size_b4 := F_size_b4.other W120 (Or.inl (Ne.symm ne_x1_b4))
          have V_ks6 := V_ks6.other W120 (Ne.symm ne_x1_ks6)
          have V_vs6 := V_vs6.other W120 (Ne.symm ne_x1_vs6)
          have V_x2 := V_x2.other W120 (Ne.symm ne_x1_x2)
          have V_b3 := V_b3.other W120 (Ne.symm ne_x1_b3)
          have K120 := K115.wr W120 (Or.inl (List.mem_of_getElem? (i := 0) rfl))
          refine Goes.hrun X120 e120 CX NB (L := [.p 246 (.iinc 7 1) 3, .p 249 (.goto (-35)) 3, .p 214 (.iload 7) 2, .p 216 (.aload_n 0) 1, .f 217 28 0, .c 220 .ge 32 false, .p 223 (.aload_n 1) 1, .p 224 (.iload 7) 2]) (by decide +kernel) rfl (g' := (mkF m 226 #[rv x0, rv x1, rv x2, rv b3, rv b4, jv (wB_150_b cA cB pP q0 q2), .second, iv 2, jv (wB_150_b cA cB pP q0 q2), .second] [(.int 2), (.ref x1)])) rfl ⟨rr, by decide, trivial⟩ ?_
          intro T123 X123 e123
          refine Goes.st (B := T123.setTop (mkF m 227 #[rv x0, rv x1, rv x2, rv b3, rv b4, jv (wB_150_b cA cB pP q0 q2), .second, iv 2, jv (wB_150_b cA cB pP q0 q2), .second] [(.int 2), (.ref x1), (.int 2), (.ref x1)])) (fun t k => ?_) ?_
          · refine Jvm.Free.XT.dup2 X123.here hx rfl (hb hby d9_226) rfl rfl rfl ?_
            exact k
          refine Goes.hrun X123 e123 CX (own_c2 V_x1 (own_c2 V_b3 (own_c2 V_x2 NB))) (L := [.J 227 0 2, .p 228 (.aload_n 3) 1, .p 229 (.iload 7) 2, .Z 231 1 2, .b 232 .eq 10 false, .p 235 (.aload_n 2) 1, .p 236 (.iload 7) 2, .J 238 2 2, .p 239 (.goto 5) 3, .p 244 .ladd 1]) (by decide +kernel) rfl (g' := (mkF m 245 #[rv x0, rv x1, rv x2, rv b3, rv b4, jv (wB_150_b cA cB pP q0 q2), .second, iv 2, jv (wB_150_b cA cB pP q0 q2), .second] [(.long 0), (.int 2), (.ref x1)])) rfl ⟨ra (by decide), ra (by decide), by decide, ra (by decide), trivial⟩ ?_
          intro T124 X124 e124
          refine Goes.sJ X124 e124 hx hZ V_x1 (i := 2) (own_ixok (by decide)) (Nat.le_of_ble_eq_true rfl) N120 g_x1 rfl rfl (hb hby d9_245) ?_
          intro T125 h125 L125 X125 e125 W125 (V_x1 : Arv Z h125 x1 kx1 .long (4 : Int32) [(.long 0), (.long (sB_245 cA cB pP q0 q2)), (.long 0), (.long pP)] (.long (0 : Int64))) N125
          have NB := own_all.wr W125 d_x1 NB
          have V_cp := V_cp.other W125 (Ne.symm ne_x1_cp)
          have E_b3 := E_b3.wr W125
          have E_b4 := E_b4.wr W125
          have F_keys_b4 := F_keys_b4.other W125 (Or.inl (Ne.symm ne_x1_b4))
          have F_values_b4 := F_values_b4.other W125 (Or.inl (Ne.symm ne_x1_b4))
          have F_size_b4 := F_size_b4.other W125 (Or.inl (Ne.symm ne_x1_b4))
          have V_ks6 := V_ks6.other W125 (Ne.symm ne_x1_ks6)
          have V_vs6 := V_vs6.other W125 (Ne.symm ne_x1_vs6)
          have V_x2 := V_x2.other W125 (Ne.symm ne_x1_x2)
          have V_b3 := V_b3.other W125 (Ne.symm ne_x1_b3)
          have K125 := K120.wr W125 (Or.inl (List.mem_of_getElem? (i := 0) rfl))
          refine Goes.hrun X125 e125 CX NB (L := [.p 246 (.iinc 7 1) 3, .p 249 (.goto (-35)) 3, .p 214 (.iload 7) 2, .p 216 (.aload_n 0) 1, .f 217 28 0, .c 220 .ge 32 false, .p 223 (.aload_n 1) 1, .p 224 (.iload 7) 2]) (by decide +kernel) rfl (g' := (mkF m 226 #[rv x0, rv x1, rv x2, rv b3, rv b4, jv (wB_150_b cA cB pP q0 q2), .second, iv 3, jv (wB_150_b cA cB pP q0 q2), .second] [(.int 3), (.ref x1)])) rfl ⟨rr, by decide, trivial⟩ ?_
          intro T128 X128 e128
          refine Goes.st (B := T128.setTop (mkF m 227 #[rv x0, rv x1, rv x2, rv b3, rv b4, jv (wB_150_b cA cB pP q0 q2), .second, iv 3, jv (wB_150_b cA cB pP q0 q2), .second] [(.int 3), (.ref x1), (.int 3), (.ref x1)])) (fun t k => ?_) ?_
          · refine Jvm.Free.XT.dup2 X128.here hx rfl (hb hby d9_226) rfl rfl rfl ?_
            exact k
          refine Goes.hrun X128 e128 CX (own_c2 V_x1 (own_c2 V_b3 (own_c2 V_x2 NB))) (L := [.J 227 0 3, .p 228 (.aload_n 3) 1, .p 229 (.iload 7) 2, .Z 231 1 3, .b 232 .eq 10 false, .p 235 (.aload_n 2) 1, .p 236 (.iload 7) 2, .J 238 2 3, .p 239 (.goto 5) 3, .p 244 .ladd 1]) (by decide +kernel) rfl (g' := (mkF m 245 #[rv x0, rv x1, rv x2, rv b3, rv b4, jv (wB_150_b cA cB pP q0 q2), .second, iv 3, jv (wB_150_b cA cB pP q0 q2), .second] [(.long (pP + (wB_150_b cA cB pP q0 q2))), (.int 3), (.ref x1)])) rfl ⟨ra (by decide), ra (by decide), by decide, ra (by decide), trivial⟩ ?_
          intro T129 X129 e129
          refine Goes.sJ X129 e129 hx hZ V_x1 (i := 3) (own_ixok (by decide)) (Nat.le_of_ble_eq_true rfl) N125 g_x1 rfl rfl (hb hby d9_245) ?_
          intro T130 h130 L130 X130 e130 W130 (V_x1 : Arv Z h130 x1 kx1 .long (4 : Int32) [(.long 0), (.long (sB_245 cA cB pP q0 q2)), (.long 0), (.long (sB_245_a cA cB pP q0 q2))] (.long (0 : Int64))) N130
          have NB := own_all.wr W130 d_x1 NB
          have V_cp := V_cp.other W130 (Ne.symm ne_x1_cp)
          have E_b3 := E_b3.wr W130
          have E_b4 := E_b4.wr W130
          have F_keys_b4 := F_keys_b4.other W130 (Or.inl (Ne.symm ne_x1_b4))
          have F_values_b4 := F_values_b4.other W130 (Or.inl (Ne.symm ne_x1_b4))
          have F_size_b4 := F_size_b4.other W130 (Or.inl (Ne.symm ne_x1_b4))
          have V_ks6 := V_ks6.other W130 (Ne.symm ne_x1_ks6)
          have V_vs6 := V_vs6.other W130 (Ne.symm ne_x1_vs6)
          have V_x2 := V_x2.other W130 (Ne.symm ne_x1_x2)
          have V_b3 := V_b3.other W130 (Ne.symm ne_x1_b3)
          have K130 := K125.wr W130 (Or.inl (List.mem_of_getElem? (i := 0) rfl))
          refine Goes.hrun X130 e130 CX NB (L := [.p 246 (.iinc 7 1) 3, .p 249 (.goto (-35)) 3, .p 214 (.iload 7) 2, .p 216 (.aload_n 0) 1, .f 217 28 0, .c 220 .ge 32 true, .p 252 (.iconst 1) 1]) (by decide +kernel) rfl (g' := (mkF m 253 #[rv x0, rv x1, rv x2, rv b3, rv b4, jv (wB_150_b cA cB pP q0 q2), .second, iv 4, jv (wB_150_b cA cB pP q0 q2), .second] [(.int 1)])) rfl ⟨rr, by decide, trivial⟩ ?_
          intro T132 X132 e132
          exact Goes.retB X132 hx hlk (t := .boolean) Bd.returns (by simp) (hb hby d9_253) rfl (by show QM Z x1 x2 kx1 kx2 kM h0 n0 _ _ _; rw [e132]; have q := V_x1; rw [show (sB_245 cA cB pP q0 q2) = kM from (own_pk cA pP).trans hk.symm, show (sB_245_a cA cB pP q0 q2) = kM from (own_pk3 cA pP).trans hk.symm] at q; exact ⟨_, _, _, _, rfl, N130, K130, q, V_x2⟩) (by decide) (by decide)
        by_cases hc118_93 : (0 : Int64) < q1
        · skip
          refine Goes.st (B := T95.setTop (mkF m 121 #[rv x0, rv x1, rv x2, rv b3, rv b4, iv 1, iv 1, iv 0, jv (wB_150_b cA cB pP q0 q2), .second] [])) (fun t k => ?_) ?_
          · refine XS.ifNo X95.here hx rfl (hb hby d9_118) rfl (tltL hc118_93).2.2.2 ?_
            exact k
          refine Goes.hrun X95 e95 CX (own_c2 V_b3 NB) (L := [.p 121 (.aload_n 3) 1, .p 122 (.iload 7) 2, .Z 124 0 0, .b 125 .ne 52 true]) (by decide +kernel) rfl (g' := (mkF m 177 #[rv x0, rv x1, rv x2, rv b3, rv b4, iv 1, iv 1, iv 0, jv (wB_150_b cA cB pP q0 q2), .second] [])) rfl ⟨ra (by decide), by decide, trivial⟩ ?_
          intro T134 X134 e134
          exact jn177_97 _ _ X134 e134 N91
        · skip
          refine Goes.st (B := T95.setTop (mkF m 177 #[rv x0, rv x1, rv x2, rv b3, rv b4, iv 1, iv 1, iv 0, jv (wB_150_b cA cB pP q0 q2), .second] [])) (fun t k => ?_) ?_
          · refine XS.ifYes X95.here hx rfl (pc0 := 118) (pc' := 177) rfl (hb hby d9_118) rfl (fltL hc118_93).2.2.2 (by decide) (by decide) ?_
            exact k
          exact jn177_97 _ _ X95 e95 N91
      by_cases hc118_86 : (0 : Int64) < q3
      · skip
        refine Goes.st (B := T88.setTop (mkF m 121 #[rv x0, rv x1, rv x2, rv b3, rv b4, iv 1, iv 3, iv 0, jv (wB_150_b cA cB pP q0 q2), .second] [])) (fun t k => ?_) ?_
        · refine XS.ifNo X88.here hx rfl (hb hby d9_118) rfl (tltL hc118_86).2.2.2 ?_
          exact k
        refine Goes.hrun X88 e88 CX (own_c2 V_b3 NB) (L := [.p 121 (.aload_n 3) 1, .p 122 (.iload 7) 2, .Z 124 0 0, .b 125 .ne 52 true]) (by decide +kernel) rfl (g' := (mkF m 177 #[rv x0, rv x1, rv x2, rv b3, rv b4, iv 1, iv 3, iv 0, jv (wB_150_b cA cB pP q0 q2), .second] [])) rfl ⟨ra (by decide), by decide, trivial⟩ ?_
        intro T136 X136 e136
        exact jn177_90 _ _ X136 e136 N84
      · skip
        refine Goes.st (B := T88.setTop (mkF m 177 #[rv x0, rv x1, rv x2, rv b3, rv b4, iv 1, iv 3, iv 0, jv (wB_150_b cA cB pP q0 q2), .second] [])) (fun t k => ?_) ?_
        · refine XS.ifYes X88.here hx rfl (pc0 := 118) (pc' := 177) rfl (hb hby d9_118) rfl (fltL hc118_86).2.2.2 (by decide) (by decide) ?_
          exact k
        exact jn177_90 _ _ X88 e88 N84
    · skip
      have jn44_162 : ∀ (T161 : State) (L161 : List Loc) (h161 : Heap) (X161 : Stand p l e ({ frames := 2, cells := 4, slots := 15, locals := 28 } : Room) s m #[(.ref x0), (.ref x1), (.ref x2)] below meth c T161 L161 4 15) (e161 : T161.heap = h161) (N161 : Fr n0 L161) (Zn161 : n0 ≤ h161.size) (K161 : Keep h0 h161 [x1, x2]) (NB : own_all Z h161 (NetL x0 hd nx cp co fa lo khd knx kco kfa klo cA nA cB nB la lb)) (E_b3 : Exa Z h161 b3 "[Z") (V_b3 : Arv Z h161 b3 k3 .boolean (4 : Int32) [(.int 1), (.int 0), (.int 1), (.int 0)] (.int 0)) (E_b4 : Exa Z h161 b4 "com/example/kubera/kubera/FlowNetwork$NodeHeap") (F_keys_b4 : Fld Z h161 b4 "com/example/kubera/kubera/FlowNetwork$NodeHeap" "keys" "[J" (.ref ks6)) (F_values_b4 : Fld Z h161 b4 "com/example/kubera/kubera/FlowNetwork$NodeHeap" "values" "[I" (.ref vs6)) (F_size_b4 : Fld Z h161 b4 "com/example/kubera/kubera/FlowNetwork$NodeHeap" "size" "I" (.int 1)) (V_cp : Arv Z h161 cp kcp .long (16 : Int32) [(.long q0), (.long q1), (.long q2), (.long q3), (.long q4), (.long q5), (.long q6), (.long q7)] (.long (0 : Int64))) (V_ks6 : Arv Z h161 ks6 k_ks6 .long (4 : Int32) [(.long (jB_44_e0 cA cB pP q0 q2)), (.long 0), (.long 0), (.long 0)] (.long (0 : Int64))) (V_vs6 : Arv Z h161 vs6 k_vs6 .int (4 : Int32) [(.int 1), (.int 0), (.int 0), (.int 0)] (.int (0 : Int32))) (V_x1 : Arv Z h161 x1 kx1 .long (4 : Int32) [(.long 0), (.long pP), (.long 0), (.long pP)] (.long (0 : Int64))) (V_x2 : Arv Z h161 x2 kx2 .long (4 : Int32) [(.long 0), (.long (jB_44_e0 cA cB pP q0 q2)), (.long 0), (.long 9223372036854775807)] (.long (0 : Int64))), Goes p e below s (QM Z x1 x2 kx1 kx2 kM h0 n0) ({ frames := 2, cells := 4, slots := 15, locals := 28 } : Room).cells ({ frames := 2, cells := 4, slots := 15, locals := 28 } : Room).slots (T161.setTop (mkF m 44 #[rv x0, rv x1, rv x2, rv b3, rv b4, iv 0, iv (-1), iv 1, jv (jB_44_8 cA cB pP q0 q2), .second] [])) := by
        intro T161 L161 h161 X161 e161 N161 Zn161 K161 NB E_b3 V_b3 E_b4 F_keys_b4 F_values_b4 F_size_b4 V_cp V_ks6 V_vs6 V_x1 V_x2
        refine Goes.run X161 hx hown hci hcl hby (L := [(44, .aload 4, 2)]) (by decide +kernel) rfl (g' := (mkF m 46 #[rv x0, rv x1, rv x2, rv b3, rv b4, iv 0, iv (-1), iv 1, jv (jB_44_8 cA cB pP q0 q2), .second] [(.ref b4)])) rfl ?_
        obtain ⟨cq163, kq163, q163a, q163b, q163c⟩ := isOf hZ e161 E_b4
        obtain ⟨_, _, ⟨T163, L163, k163, n163⟩, -, X163, ⟨Lc163, hQ163, l163, y163, z163⟩, st163⟩ := X161.virtualBack hx (y := ym7) (z := ym7) hown (mvT hZ w_99) (mvT hZ w_100) (notFace_of_selects (args := #[]) (mvT hZ w_102)) (mvT hZ w_102) (mvT hZ w_101) (by decide) (backOf (W := 0) (rmA l Z a0 hw [] b4 (1 : Int32) h161 n0 Zn161 F_size_b4 (by decide)) hZ w_103 w_80 (by decide) (by decide)) q163a q163c (g := (mkF m 46 #[rv x0, rv x1, rv x2, rv b3, rv b4, iv 0, iv (-1), iv 1, jv (jB_44_8 cA cB pP q0 q2), .second] [(.ref b4)])) rfl (by rw [hml]; rfl) (Steps.refl _) (argsL := []) (rest := []) (lenOf pdB_3 rfl) rfl (by show 2 * 0 + _ ≤ _; exact Nat.le_of_eq rfl) (hb hby d9_46) (fun _ _ => ⟨rfl, e161, (by decide : 4 + 0 ≤ _), (by decide : 15 + 0 ≤ _)⟩)
        dsimp only [Pt.U, Pt.locs, Pt.cells, Pt.slots] at X163 l163 y163 z163 st163 hQ163
        subst l163 y163 z163
        obtain ⟨rfl, N163q, e163⟩ := hQ163
        have N163 := Fr.app N161 N163q
        refine Goes.st (fun t k => st163.trans k) ?_
        refine Goes.hrun X163 e163 CX NB (L := [.b 49 .ne 143 false, .p 52 (.aload 4) 2]) (by decide +kernel) rfl (g' := (mkF m 54 #[rv x0, rv x1, rv x2, rv b3, rv b4, iv 0, iv (-1), iv 1, jv (jB_44_8 cA cB pP q0 q2), .second] [(.ref b4)])) rfl ⟨by decide, trivial⟩ ?_
        intro T165 X165 e165
        obtain ⟨cq166, kq166, q166a, q166b, q166c⟩ := isOf hZ e165 E_b4
        obtain ⟨_, _, ⟨T166, L166, k166, n166⟩, -, X166, ⟨Lc166, hQ166, l166, y166, z166⟩, st166⟩ := X165.virtualBack hx (y := ym6) (z := ym6) hown (mvT hZ w_104) (mvT hZ w_105) (notFace_of_selects (args := #[]) (mvT hZ w_107)) (mvT hZ w_107) (mvT hZ w_106) (by decide) (backOf (W := 0) (rm8 l Z a0 hw [] b4 ks6 vs6 k_ks6 k_vs6 (jB_44_e0 cA cB pP q0 q2) (0 : Int64) (0 : Int64) (0 : Int64) (1 : Int32) (0 : Int32) (0 : Int32) (0 : Int32) h161 n0 Zn161 E_b4 F_keys_b4 F_values_b4 F_size_b4 V_ks6 V_vs6 g_b4 g_ks6 g_vs6 ne_b4_ks6 ne_b4_vs6 nq6_0_1) hZ w_108 w_80 (by decide) (by decide)) q166a q166c (g := (mkF m 54 #[rv x0, rv x1, rv x2, rv b3, rv b4, iv 0, iv (-1), iv 1, jv (jB_44_8 cA cB pP q0 q2), .second] [(.ref b4)])) rfl (by rw [hml]; rfl) (Steps.refl _) (argsL := []) (rest := []) (lenOf pdB_4 rfl) rfl (by show 2 * 0 + _ ≤ _; exact Nat.le_of_eq rfl) (hb hby d9_54) (fun _ _ => ⟨rfl, e165, (by decide : 4 + 0 ≤ _), (by decide : 15 + 0 ≤ _)⟩)
        dsimp only [Pt.U, Pt.locs, Pt.cells, Pt.slots] at X166 l166 y166 z166 st166 hQ166
        subst l166 y166 z166
        obtain ⟨h166, eh166⟩ : ∃ z, z = T166.heap := ⟨_, rfl⟩
        rw [← eh166] at hQ166
        have e166 : T166.heap = h166 := eh166.symm
        obtain ⟨rfl, N166q, Kq166, o166_0, o166_1, o166_2, o166_3, o166_4, o166_5⟩ := hQ166
        have N166 := Fr.app N163 N166q
        have NB := own_all.keep Kq166 (own_dS d_b4 (own_dS d_ks6 (own_dS d_vs6 own_d0))) NB
        have E_b3 := E_b3.keep Kq166
        have V_b3 := V_b3.keep Kq166 (ninS ne_b3_b4 (ninS ne_b3_ks6 (ninS ne_b3_vs6 nin0)))
        have V_cp := V_cp.keep Kq166 (ninS ne_cp_b4 (ninS ne_cp_ks6 (ninS ne_cp_vs6 nin0)))
        have V_x1 := V_x1.keep Kq166 (ninS ne_x1_b4 (ninS ne_x1_ks6 (ninS ne_x1_vs6 nin0)))
        have V_x2 := V_x2.keep Kq166 (ninS ne_x2_b4 (ninS ne_x2_ks6 (ninS ne_x2_vs6 nin0)))
        have E_b4 : Exa Z h166 b4 "com/example/kubera/kubera/FlowNetwork$NodeHeap" := o166_0
        have F_keys_b4 : Fld Z h166 b4 "com/example/kubera/kubera/FlowNetwork$NodeHeap" "keys" "[J" (.ref ks6) := o166_1
        have F_values_b4 : Fld Z h166 b4 "com/example/kubera/kubera/FlowNetwork$NodeHeap" "values" "[I" (.ref vs6) := o166_2
        have F_size_b4 : Fld Z h166 b4 "com/example/kubera/kubera/FlowNetwork$NodeHeap" "size" "I" (.int 0) := o166_3
        have V_ks6 : Arv Z h166 ks6 k_ks6 .long (4 : Int32) [(.long (jB_44_e0 cA cB pP q0 q2)), (.long 0), (.long 0), (.long 0)] (.long (0 : Int64)) := o166_4
        have V_vs6 : Arv Z h166 vs6 k_vs6 .int (4 : Int32) [(.int 1), (.int 0), (.int 0), (.int 0)] (.int (0 : Int32)) := o166_5
        have K166 := K161.trans Kq166 ((allS (Or.inr sz_b4) (allS (Or.inr sz_ks6) (allS (Or.inr sz_vs6) all0))))
        refine Goes.st (fun t k => st166.trans k) ?_
        refine Goes.hrun X166 e166 CX (own_c2 V_b3 NB) (L := [.p 57 (.istore 5) 2, .p 59 (.aload_n 3) 1, .p 60 (.iload 5) 2, .Z 62 0 1, .b 63 .eq 6 true, .p 69 (.aload_n 3) 1, .p 70 (.iload 5) 2, .p 72 (.iconst 1) 1]) (by decide +kernel) rfl (g' := (mkF m 73 #[rv x0, rv x1, rv x2, rv b3, rv b4, iv 1, iv (-1), iv 1, jv (jB_44_8 cA cB pP q0 q2), .second] [(.int 1), (.int 1), (.ref b3)])) rfl ⟨ra (by decide), by decide, trivial⟩ ?_
        intro T168 X168 e168
        refine Goes.sZ X168 e168 hx hZ V_b3 (i := 1) (own_ixok (by decide)) (Nat.le_of_ble_eq_true rfl) N166 g_b3 rfl rfl (hb hby d9_73) ?_
        intro T169 h169 L169 X169 e169 W169 (V_b3 : Arv Z h169 b3 k3 .boolean (4 : Int32) [(.int 1), (.int 1), (.int 1), (.int 0)] (.int 0)) N169
        have NB := own_all.wr W169 d_b3 NB
        have E_b3 := E_b3.wr W169
        have E_b4 := E_b4.wr W169
        have F_keys_b4 := F_keys_b4.other W169 (Or.inl (Ne.symm ne_b3_b4))
        have F_values_b4 := F_values_b4.other W169 (Or.inl (Ne.symm ne_b3_b4))
        have F_size_b4 := F_size_b4.other W169 (Or.inl (Ne.symm ne_b3_b4))
        have V_cp := V_cp.other W169 ne_cp_b3
        have V_ks6 := V_ks6.other W169 (Ne.symm ne_b3_ks6)
        have V_vs6 := V_vs6.other W169 (Ne.symm ne_b3_vs6)
        have V_x1 := V_x1.other W169 ne_x1_b3
        have V_x2 := V_x2.other W169 ne_x2_b3
        have K169 := K166.wr W169 (Or.inr sz_b3)
        refine Goes.hrun X169 e169 CX NB (L := [.p 74 (.iload 5) 2, .p 76 (.aload_n 0) 1, .f 77 35 2, .c 80 .ne 6 true, .p 86 (.aload_n 0) 1, .f 87 41 3, .p 90 (.iload 5) 2, .I 92 8 1, .p 93 (.istore 6) 2, .p 95 (.iload 6) 2, .b 97 .lt 92 false, .p 100 (.aload_n 0) 1, .f 101 9 4, .p 104 (.iload 6) 2, .I 106 9 6, .p 107 (.istore 7) 2]) (by decide +kernel) rfl (g' := (mkF m 109 #[rv x0, rv x1, rv x2, rv b3, rv b4, iv 1, iv 6, iv 3, jv (jB_44_8 cA cB pP q0 q2), .second] [])) rfl ⟨rr, by decide, rr, ra (by decide), by decide, rr, ra (by decide), trivial⟩ ?_
        intro T175 X175 e175
        refine Goes.hrun X175 e175 CX (own_c2 V_cp (own_c2 V_b3 (own_c2 V_x2 NB))) (L := [.p 109 (.aload_n 0) 1, .f 110 18 9, .p 113 (.iload 6) 2, .J 115 0 6, .p 116 (.lconst 0) 1, .p 117 .lcmp 1, .b 118 .le 59 false, .p 121 (.aload_n 3) 1, .p 122 (.iload 7) 2, .Z 124 1 3, .b 125 .ne 52 false, .p 128 (.aload_n 2) 1, .p 129 (.iload 5) 2, .J 131 2 1, .p 132 (.aload_n 0) 1, .f 133 22 10]) (by decide +kernel) rfl (g' := (mkF m 136 #[rv x0, rv x1, rv x2, rv b3, rv b4, iv 1, iv 6, iv 3, jv (jB_44_8 cA cB pP q0 q2), .second] [(.ref co), (.long (jB_44_e0 cA cB pP q0 q2))])) rfl ⟨rr, ra (by decide), (tltL (pz6 : (0 : Int64) < q6)).2.2.2, ra (by decide), by decide, ra (by decide), rr, trivial⟩ ?_
        intro T176 X176 e176
        refine Goes.hrun X176 e176 CX (own_c2 V_x1 (own_c2 V_x2 NB)) (L := [.p 136 (.iload 6) 2, .J 138 13 6, .p 139 .ladd 1, .p 140 (.aload_n 1) 1, .p 141 (.iload 5) 2, .J 143 0 1, .p 144 .ladd 1, .p 145 (.aload_n 1) 1, .p 146 (.iload 7) 2, .J 148 0 3, .p 149 .lsub 1, .p 150 (.lstore 8) 2, .p 152 (.lload 8) 2, .p 154 (.aload_n 2) 1, .p 155 (.iload 7) 2, .J 157 1 3]) (by decide +kernel) rfl (g' := (mkF m 158 #[rv x0, rv x1, rv x2, rv b3, rv b4, iv 1, iv 6, iv 3, jv (wB_150_c cA cB pP q0 q2), .second] [(.long 9223372036854775807), (.long (wB_150_c cA cB pP q0 q2))])) rfl ⟨ra (by decide), ra (by decide), ra (by decide), ra (by decide), trivial⟩ ?_
        intro T177 X177 e177
        refine Goes.hrun X177 e177 CX NB (L := [.p 158 .lcmp 1, .b 159 .ge 18 false, .p 162 (.aload_n 2) 1, .p 163 (.iload 7) 2, .p 165 (.lload 8) 2]) (by decide +kernel) rfl (g' := (mkF m 167 #[rv x0, rv x1, rv x2, rv b3, rv b4, iv 1, iv 6, iv 3, jv (wB_150_c cA cB pP q0 q2), .second] [(.long (wB_150_c cA cB pP q0 q2)), (.int 3), (.ref x2)])) rfl ⟨(tltL (own_ltg (own_ite hMB hMA) : (wB_150_c cA cB pP q0 q2) < (9223372036854775807 : Int64))).2.1, trivial⟩ ?_
        intro T178 X178 e178
        refine Goes.sJ X178 e178 hx hZ V_x2 (i := 3) (own_ixok (by decide)) (Nat.le_of_ble_eq_true rfl) N169 g_x2 rfl rfl (hb hby d9_167) ?_
        intro T179 h179 L179 X179 e179 W179 (V_x2 : Arv Z h179 x2 kx2 .long (4 : Int32) [(.long 0), (.long (jB_44_e0 cA cB pP q0 q2)), (.long 0), (.long (wB_150_c cA cB pP q0 q2))] (.long (0 : Int64))) N179
        have NB := own_all.wr W179 d_x2 NB
        have E_b3 := E_b3.wr W179
        have E_b4 := E_b4.wr W179
        have F_keys_b4 := F_keys_b4.other W179 (Or.inl (Ne.symm ne_x2_b4))
        have F_values_b4 := F_values_b4.other W179 (Or.inl (Ne.symm ne_x2_b4))
        have F_size_b4 := F_size_b4.other W179 (Or.inl (Ne.symm ne_x2_b4))
        have V_cp := V_cp.other W179 (Ne.symm ne_x2_cp)
        have V_ks6 := V_ks6.other W179 (Ne.symm ne_x2_ks6)
        have V_vs6 := V_vs6.other W179 (Ne.symm ne_x2_vs6)
        have V_x1 := V_x1.other W179 ne_x1_x2
        have V_b3 := V_b3.other W179 (Ne.symm ne_x2_b3)
        have K179 := K169.wr W179 (Or.inl (List.mem_of_getElem? (i := 1) rfl))
        refine Goes.run X179 hx hown hci hcl hby (L := [(168, .aload 4, 2), (170, .lload 8, 2), (172, .iload 7, 2)]) (by decide +kernel) rfl (g' := (mkF m 174 #[rv x0, rv x1, rv x2, rv b3, rv b4, iv 1, iv 6, iv 3, jv (wB_150_c cA cB pP q0 q2), .second] [(.int 3), (.long (wB_150_c cA cB pP q0 q2)), (.ref b4)])) rfl ?_
        obtain ⟨cq180, kq180, q180a, q180b, q180c⟩ := isOf hZ e179 E_b4
        obtain ⟨_, _, ⟨T180, L180, k180, n180⟩, -, X180, ⟨Lc180, hQ180, l180, y180, z180⟩, st180⟩ := X179.virtualBack hx (y := ym5) (z := ym5) hown (mvT hZ w_92) (mvT hZ w_93) (notFace_of_selects (args := #[]) (mvT hZ w_95)) (mvT hZ w_95) (mvT hZ w_94) (by decide) (backOf (W := 0) (rm6 l Z a0 hw [] b4 (wB_150_c cA cB pP q0 q2) (3 : Int32) ks6 vs6 k_ks6 k_vs6 (jB_44_e0 cA cB pP q0 q2) (0 : Int64) (0 : Int64) (0 : Int64) (1 : Int32) (0 : Int32) (0 : Int32) (0 : Int32) h179 n0 (Nat.le_trans Z0 K179.1) E_b4 F_keys_b4 F_values_b4 F_size_b4 V_ks6 V_vs6 g_b4 g_ks6 g_vs6 ne_b4_ks6 ne_b4_vs6 nq6_0_1) hZ w_96 w_80 (by decide) (by decide)) q180a q180c (g := (mkF m 174 #[rv x0, rv x1, rv x2, rv b3, rv b4, iv 1, iv 6, iv 3, jv (wB_150_c cA cB pP q0 q2), .second] [(.int 3), (.long (wB_150_c cA cB pP q0 q2)), (.ref b4)])) rfl (by rw [hml]; rfl) (Steps.refl _) (argsL := [(.long (wB_150_c cA cB pP q0 q2)), (.int 3)]) (rest := []) (lenOf pdB_2 rfl) rfl (by show 2 * 0 + _ ≤ _; exact Nat.le_of_eq rfl) (hb hby d9_174) (fun _ _ => ⟨rfl, e179, (by decide : 4 + 0 ≤ _), (by decide : 15 + 0 ≤ _)⟩)
        dsimp only [Pt.U, Pt.locs, Pt.cells, Pt.slots] at X180 l180 y180 z180 st180 hQ180
        subst l180 y180 z180
        obtain ⟨h180, eh180⟩ : ∃ z, z = T180.heap := ⟨_, rfl⟩
        rw [← eh180] at hQ180
        have e180 : T180.heap = h180 := eh180.symm
        obtain ⟨rfl, N180q, Kq180, o180_0, o180_1, o180_2, o180_3, o180_4, o180_5⟩ := hQ180
        have N180 := Fr.app N179 N180q
        have NB := own_all.keep Kq180 (own_dS d_b4 (own_dS d_ks6 (own_dS d_vs6 own_d0))) NB
        have E_b3 := E_b3.keep Kq180
        have V_cp := V_cp.keep Kq180 (ninS ne_cp_b4 (ninS ne_cp_ks6 (ninS ne_cp_vs6 nin0)))
        have V_x1 := V_x1.keep Kq180 (ninS ne_x1_b4 (ninS ne_x1_ks6 (ninS ne_x1_vs6 nin0)))
        have V_b3 := V_b3.keep Kq180 (ninS ne_b3_b4 (ninS ne_b3_ks6 (ninS ne_b3_vs6 nin0)))
        have V_x2 := V_x2.keep Kq180 (ninS ne_x2_b4 (ninS ne_x2_ks6 (ninS ne_x2_vs6 nin0)))
        have E_b4 : Exa Z h180 b4 "com/example/kubera/kubera/FlowNetwork$NodeHeap" := o180_0
        have F_keys_b4 : Fld Z h180 b4 "com/example/kubera/kubera/FlowNetwork$NodeHeap" "keys" "[J" (.ref ks6) := o180_1
        have F_values_b4 : Fld Z h180 b4 "com/example/kubera/kubera/FlowNetwork$NodeHeap" "values" "[I" (.ref vs6) := o180_2
        have F_size_b4 : Fld Z h180 b4 "com/example/kubera/kubera/FlowNetwork$NodeHeap" "size" "I" (.int 1) := o180_3
        have V_ks6 : Arv Z h180 ks6 k_ks6 .long (4 : Int32) [(.long (wB_150_c cA cB pP q0 q2)), (.long 0), (.long 0), (.long 0)] (.long (0 : Int64)) := o180_4
        have V_vs6 : Arv Z h180 vs6 k_vs6 .int (4 : Int32) [(.int 3), (.int 0), (.int 0), (.int 0)] (.int (0 : Int32)) := o180_5
        have K180 := K179.trans Kq180 ((allS (Or.inr sz_b4) (allS (Or.inr sz_ks6) (allS (Or.inr sz_vs6) all0))))
        refine Goes.st (fun t k => st180.trans k) ?_
        refine Goes.hrun X180 e180 CX NB (L := [.p 177 (.aload_n 0) 1, .f 178 15 5, .p 181 (.iload 6) 2, .I 183 10 6, .p 184 (.istore 6) 2, .p 186 (.goto (-91)) 3, .p 95 (.iload 6) 2, .b 97 .lt 92 false, .p 100 (.aload_n 0) 1, .f 101 9 4, .p 104 (.iload 6) 2, .I 106 9 3, .p 107 (.istore 7) 2, .p 109 (.aload_n 0) 1, .f 110 18 6, .p 113 (.iload 6) 2]) (by decide +kernel) rfl (g' := (mkF m 115 #[rv x0, rv x1, rv x2, rv b3, rv b4, iv 1, iv 3, iv 0, jv (wB_150_c cA cB pP q0 q2), .second] [(.int 3), (.ref cp)])) rfl ⟨rr, ra (by decide), by decide, rr, ra (by decide), rr, trivial⟩ ?_
        intro T183 X183 e183
        refine Goes.hrun X183 e183 CX (own_c2 V_cp NB) (L := [.J 115 0 3, .p 116 (.lconst 0) 1, .p 117 .lcmp 1]) (by decide +kernel) rfl (g' := (mkF m 118 #[rv x0, rv x1, rv x2, rv b3, rv b4, iv 1, iv 3, iv 0, jv (wB_150_c cA cB pP q0 q2), .second] [(.int (lcmpW q3 (0 : Int64)))])) rfl ⟨ra (by decide), trivial⟩ ?_
        intro T184 X184 e184
        have jn177_186 : ∀ (T187 : State) (L187 : List Loc) (X187 : Stand p l e ({ frames := 2, cells := 4, slots := 15, locals := 28 } : Room) s m #[(.ref x0), (.ref x1), (.ref x2)] below meth c T187 L187 4 15) (e187 : T187.heap = h180) (N187 : Fr n0 L187), Goes p e below s (QM Z x1 x2 kx1 kx2 kM h0 n0) ({ frames := 2, cells := 4, slots := 15, locals := 28 } : Room).cells ({ frames := 2, cells := 4, slots := 15, locals := 28 } : Room).slots (T187.setTop (mkF m 177 #[rv x0, rv x1, rv x2, rv b3, rv b4, iv 1, iv 3, iv 0, jv (wB_150_c cA cB pP q0 q2), .second] [])) := by
          intro T187 L187 X187 e187 N187
          refine Goes.hrun X187 e187 CX NB (L := [.p 177 (.aload_n 0) 1, .f 178 15 5, .p 181 (.iload 6) 2, .I 183 10 3, .p 184 (.istore 6) 2, .p 186 (.goto (-91)) 3, .p 95 (.iload 6) 2, .b 97 .lt 92 false, .p 100 (.aload_n 0) 1, .f 101 9 4, .p 104 (.iload 6) 2, .I 106 9 1, .p 107 (.istore 7) 2, .p 109 (.aload_n 0) 1, .f 110 18 6, .p 113 (.iload 6) 2]) (by decide +kernel) rfl (g' := (mkF m 115 #[rv x0, rv x1, rv x2, rv b3, rv b4, iv 1, iv 1, iv 0, jv (wB_150_c cA cB pP q0 q2), .second] [(.int 1), (.ref cp)])) rfl ⟨rr, ra (by decide), by decide, rr, ra (by decide), rr, trivial⟩ ?_
          intro T190 X190 e190
          refine Goes.hrun X190 e190 CX (own_c2 V_cp NB) (L := [.J 115 0 1, .p 116 (.lconst 0) 1, .p 117 .lcmp 1]) (by decide +kernel) rfl (g' := (mkF m 118 #[rv x0, rv x1, rv x2, rv b3, rv b4, iv 1, iv 1, iv 0, jv (wB_150_c cA cB pP q0 q2), .second] [(.int (lcmpW q1 (0 : Int64)))])) rfl ⟨ra (by decide), trivial⟩ ?_
          intro T191 X191 e191
          have jn177_193 : ∀ (T194 : State) (L194 : List Loc) (X194 : Stand p l e ({ frames := 2, cells := 4, slots := 15, locals := 28 } : Room) s m #[(.ref x0), (.ref x1), (.ref x2)] below meth c T194 L194 4 15) (e194 : T194.heap = h180) (N194 : Fr n0 L194), Goes p e below s (QM Z x1 x2 kx1 kx2 kM h0 n0) ({ frames := 2, cells := 4, slots := 15, locals := 28 } : Room).cells ({ frames := 2, cells := 4, slots := 15, locals := 28 } : Room).slots (T194.setTop (mkF m 177 #[rv x0, rv x1, rv x2, rv b3, rv b4, iv 1, iv 1, iv 0, jv (wB_150_c cA cB pP q0 q2), .second] [])) := by
            intro T194 L194 X194 e194 N194
            refine Goes.hrun X194 e194 CX NB (L := [.p 177 (.aload_n 0) 1, .f 178 15 5, .p 181 (.iload 6) 2, .I 183 10 1, .p 184 (.istore 6) 2, .p 186 (.goto (-91)) 3, .p 95 (.iload 6) 2, .b 97 .lt 92 true, .p 189 (.goto (-145)) 3, .p 44 (.aload 4) 2]) (by decide +kernel) rfl (g' := (mkF m 46 #[rv x0, rv x1, rv x2, rv b3, rv b4, iv 1, iv (-1), iv 0, jv (wB_150_c cA cB pP q0 q2), .second] [(.ref b4)])) rfl ⟨rr, ra (by decide), by decide, trivial⟩ ?_
            intro T196 X196 e196
            obtain ⟨cq197, kq197, q197a, q197b, q197c⟩ := isOf hZ e196 E_b4
            obtain ⟨_, _, ⟨T197, L197, k197, n197⟩, -, X197, ⟨Lc197, hQ197, l197, y197, z197⟩, st197⟩ := X196.virtualBack hx (y := ym7) (z := ym7) hown (mvT hZ w_99) (mvT hZ w_100) (notFace_of_selects (args := #[]) (mvT hZ w_102)) (mvT hZ w_102) (mvT hZ w_101) (by decide) (backOf (W := 0) (rmA l Z a0 hw [] b4 (1 : Int32) h180 n0 (Nat.le_trans Z0 K180.1) F_size_b4 (by decide)) hZ w_103 w_80 (by decide) (by decide)) q197a q197c (g := (mkF m 46 #[rv x0, rv x1, rv x2, rv b3, rv b4, iv 1, iv (-1), iv 0, jv (wB_150_c cA cB pP q0 q2), .second] [(.ref b4)])) rfl (by rw [hml]; rfl) (Steps.refl _) (argsL := []) (rest := []) (lenOf pdB_3 rfl) rfl (by show 2 * 0 + _ ≤ _; exact Nat.le_of_eq rfl) (hb hby d9_46) (fun _ _ => ⟨rfl, e196, (by decide : 4 + 0 ≤ _), (by decide : 15 + 0 ≤ _)⟩)
            dsimp only [Pt.U, Pt.locs, Pt.cells, Pt.slots] at X197 l197 y197 z197 st197 hQ197
            subst l197 y197 z197
            obtain ⟨rfl, N197q, e197⟩ := hQ197
            have N197 := Fr.app N194 N197q
            refine Goes.st (fun t k => st197.trans k) ?_
            refine Goes.hrun X197 e197 CX NB (L := [.b 49 .ne 143 false, .p 52 (.aload 4) 2]) (by decide +kernel) rfl (g' := (mkF m 54 #[rv x0, rv x1, rv x2, rv b3, rv b4, iv 1, iv (-1), iv 0, jv (wB_150_c cA cB pP q0 q2), .second] [(.ref b4)])) rfl ⟨by decide, trivial⟩ ?_
            intro T199 X199 e199
            obtain ⟨cq200, kq200, q200a, q200b, q200c⟩ := isOf hZ e199 E_b4
            obtain ⟨_, _, ⟨T200, L200, k200, n200⟩, -, X200, ⟨Lc200, hQ200, l200, y200, z200⟩, st200⟩ := X199.virtualBack hx (y := ym6) (z := ym6) hown (mvT hZ w_104) (mvT hZ w_105) (notFace_of_selects (args := #[]) (mvT hZ w_107)) (mvT hZ w_107) (mvT hZ w_106) (by decide) (backOf (W := 0) (rm8 l Z a0 hw [] b4 ks6 vs6 k_ks6 k_vs6 (wB_150_c cA cB pP q0 q2) (0 : Int64) (0 : Int64) (0 : Int64) (3 : Int32) (0 : Int32) (0 : Int32) (0 : Int32) h180 n0 (Nat.le_trans Z0 K180.1) E_b4 F_keys_b4 F_values_b4 F_size_b4 V_ks6 V_vs6 g_b4 g_ks6 g_vs6 ne_b4_ks6 ne_b4_vs6 nq6_0_1) hZ w_108 w_80 (by decide) (by decide)) q200a q200c (g := (mkF m 54 #[rv x0, rv x1, rv x2, rv b3, rv b4, iv 1, iv (-1), iv 0, jv (wB_150_c cA cB pP q0 q2), .second] [(.ref b4)])) rfl (by rw [hml]; rfl) (Steps.refl _) (argsL := []) (rest := []) (lenOf pdB_4 rfl) rfl (by show 2 * 0 + _ ≤ _; exact Nat.le_of_eq rfl) (hb hby d9_54) (fun _ _ => ⟨rfl, e199, (by decide : 4 + 0 ≤ _), (by decide : 15 + 0 ≤ _)⟩)
            dsimp only [Pt.U, Pt.locs, Pt.cells, Pt.slots] at X200 l200 y200 z200 st200 hQ200
            subst l200 y200 z200
            obtain ⟨h200, eh200⟩ : ∃ z, z = T200.heap := ⟨_, rfl⟩
            rw [← eh200] at hQ200
            have e200 : T200.heap = h200 := eh200.symm
            obtain ⟨rfl, N200q, Kq200, o200_0, o200_1, o200_2, o200_3, o200_4, o200_5⟩ := hQ200
            have N200 := Fr.app N197 N200q
            have NB := own_all.keep Kq200 (own_dS d_b4 (own_dS d_ks6 (own_dS d_vs6 own_d0))) NB
            have E_b3 := E_b3.keep Kq200
            have V_cp := V_cp.keep Kq200 (ninS ne_cp_b4 (ninS ne_cp_ks6 (ninS ne_cp_vs6 nin0)))
            have V_x1 := V_x1.keep Kq200 (ninS ne_x1_b4 (ninS ne_x1_ks6 (ninS ne_x1_vs6 nin0)))
            have V_b3 := V_b3.keep Kq200 (ninS ne_b3_b4 (ninS ne_b3_ks6 (ninS ne_b3_vs6 nin0)))
            have V_x2 := V_x2.keep Kq200 (ninS ne_x2_b4 (ninS ne_x2_ks6 (ninS ne_x2_vs6 nin0)))
            have E_b4 : Exa Z h200 b4 "com/example/kubera/kubera/FlowNetwork$NodeHeap" := o200_0
            have F_keys_b4 : Fld Z h200 b4 "com/example/kubera/kubera/FlowNetwork$NodeHeap" "keys" "[J" (.ref ks6) := o200_1
            have F_values_b4 : Fld Z h200 b4 "com/example/kubera/kubera/FlowNetwork$NodeHeap" "values" "[I" (.ref vs6) := o200_2
            have F_size_b4 : Fld Z h200 b4 "com/example/kubera/kubera/FlowNetwork$NodeHeap" "size" "I" (.int 0) := o200_3
            have V_ks6 : Arv Z h200 ks6 k_ks6 .long (4 : Int32) [(.long (wB_150_c cA cB pP q0 q2)), (.long 0), (.long 0), (.long 0)] (.long (0 : Int64)) := o200_4
            have V_vs6 : Arv Z h200 vs6 k_vs6 .int (4 : Int32) [(.int 3), (.int 0), (.int 0), (.int 0)] (.int (0 : Int32)) := o200_5
            have K200 := K180.trans Kq200 ((allS (Or.inr sz_b4) (allS (Or.inr sz_ks6) (allS (Or.inr sz_vs6) all0))))
            refine Goes.st (fun t k => st200.trans k) ?_
            refine Goes.hrun X200 e200 CX (own_c2 V_b3 NB) (L := [.p 57 (.istore 5) 2, .p 59 (.aload_n 3) 1, .p 60 (.iload 5) 2, .Z 62 0 3, .b 63 .eq 6 true, .p 69 (.aload_n 3) 1, .p 70 (.iload 5) 2, .p 72 (.iconst 1) 1]) (by decide +kernel) rfl (g' := (mkF m 73 #[rv x0, rv x1, rv x2, rv b3, rv b4, iv 3, iv (-1), iv 0, jv (wB_150_c cA cB pP q0 q2), .second] [(.int 1), (.int 3), (.ref b3)])) rfl ⟨ra (by decide), by decide, trivial⟩ ?_
            intro T202 X202 e202
            refine Goes.sZ X202 e202 hx hZ V_b3 (i := 3) (own_ixok (by decide)) (Nat.le_of_ble_eq_true rfl) N200 g_b3 rfl rfl (hb hby d9_73) ?_
            intro T203 h203 L203 X203 e203 W203 (V_b3 : Arv Z h203 b3 k3 .boolean (4 : Int32) [(.int 1), (.int 1), (.int 1), (.int 1)] (.int 0)) N203
            have NB := own_all.wr W203 d_b3 NB
            have E_b3 := E_b3.wr W203
            have E_b4 := E_b4.wr W203
            have F_keys_b4 := F_keys_b4.other W203 (Or.inl (Ne.symm ne_b3_b4))
            have F_values_b4 := F_values_b4.other W203 (Or.inl (Ne.symm ne_b3_b4))
            have F_size_b4 := F_size_b4.other W203 (Or.inl (Ne.symm ne_b3_b4))
            have V_cp := V_cp.other W203 ne_cp_b3
            have V_ks6 := V_ks6.other W203 (Ne.symm ne_b3_ks6)
            have V_vs6 := V_vs6.other W203 (Ne.symm ne_b3_vs6)
            have V_x1 := V_x1.other W203 ne_x1_b3
            have V_x2 := V_x2.other W203 ne_x2_b3
            have K203 := K200.wr W203 (Or.inr sz_b3)
            refine Goes.hrun X203 e203 CX (own_c2 V_b3 (own_c2 V_x2 NB)) (L := [.p 74 (.iload 5) 2, .p 76 (.aload_n 0) 1, .f 77 35 4, .c 80 .ne 6 false, .p 83 (.goto 109) 3, .p 192 (.aload_n 3) 1, .p 193 (.aload_n 0) 1, .f 194 35 4, .Z 197 0 3, .b 198 .ne 5 true, .p 203 (.aload_n 2) 1, .p 204 (.aload_n 0) 1, .f 205 35 4, .J 208 1 3, .p 209 (.lstore 5) 2, .p 211 (.iconst 0) 1]) (by decide +kernel) rfl (g' := (mkF m 212 #[rv x0, rv x1, rv x2, rv b3, rv b4, jv (wB_150_c cA cB pP q0 q2), .second, iv 0, jv (wB_150_c cA cB pP q0 q2), .second] [(.int 0)])) rfl ⟨rr, by decide, rr, ra (by decide), by decide, rr, ra (by decide), trivial⟩ ?_
            intro T208 X208 e208
            refine Goes.hrun X208 e208 CX NB (L := [.p 212 (.istore 7) 2, .p 214 (.iload 7) 2, .p 216 (.aload_n 0) 1, .f 217 28 0, .c 220 .ge 32 false, .p 223 (.aload_n 1) 1, .p 224 (.iload 7) 2]) (by decide +kernel) rfl (g' := (mkF m 226 #[rv x0, rv x1, rv x2, rv b3, rv b4, jv (wB_150_c cA cB pP q0 q2), .second, iv 0, jv (wB_150_c cA cB pP q0 q2), .second] [(.int 0), (.ref x1)])) rfl ⟨rr, by decide, trivial⟩ ?_
            intro T209 X209 e209
            refine Goes.st (B := T209.setTop (mkF m 227 #[rv x0, rv x1, rv x2, rv b3, rv b4, jv (wB_150_c cA cB pP q0 q2), .second, iv 0, jv (wB_150_c cA cB pP q0 q2), .second] [(.int 0), (.ref x1), (.int 0), (.ref x1)])) (fun t k => ?_) ?_
            · refine Jvm.Free.XT.dup2 X209.here hx rfl (hb hby d9_226) rfl rfl rfl ?_
              exact k
            refine Goes.hrun X209 e209 CX (own_c2 V_x1 (own_c2 V_b3 (own_c2 V_x2 NB))) (L := [.J 227 0 0, .p 228 (.aload_n 3) 1, .p 229 (.iload 7) 2, .Z 231 1 0, .b 232 .eq 10 false, .p 235 (.aload_n 2) 1, .p 236 (.iload 7) 2, .J 238 2 0, .p 239 (.goto 5) 3, .p 244 .ladd 1]) (by decide +kernel) rfl (g' := (mkF m 245 #[rv x0, rv x1, rv x2, rv b3, rv b4, jv (wB_150_c cA cB pP q0 q2), .second, iv 0, jv (wB_150_c cA cB pP q0 q2), .second] [(.long 0), (.int 0), (.ref x1)])) rfl ⟨ra (by decide), ra (by decide), by decide, ra (by decide), trivial⟩ ?_
            intro T210 X210 e210
            refine Goes.sJ X210 e210 hx hZ V_x1 (i := 0) (own_ixok (by decide)) (Nat.le_of_ble_eq_true rfl) N203 g_x1 rfl rfl (hb hby d9_245) ?_
            intro T211 h211 L211 X211 e211 W211 (V_x1 : Arv Z h211 x1 kx1 .long (4 : Int32) [(.long 0), (.long pP), (.long 0), (.long pP)] (.long (0 : Int64))) N211
            have NB := own_all.wr W211 d_x1 NB
            have E_b3 := E_b3.wr W211
            have E_b4 := E_b4.wr W211
            have F_keys_b4 := F_keys_b4.other W211 (Or.inl (Ne.symm ne_x1_b4))
            have F_values_b4 := F_values_b4.other W211 (Or.inl (Ne.symm ne_x1_b4))
            have F_size_b4 := F_size_b4.other W211 (Or.inl (Ne.symm ne_x1_b4))
            have V_cp := V_cp.other W211 (Ne.symm ne_x1_cp)
            have V_ks6 := V_ks6.other W211 (Ne.symm ne_x1_ks6)
            have V_vs6 := V_vs6.other W211 (Ne.symm ne_x1_vs6)
            have V_x2 := V_x2.other W211 (Ne.symm ne_x1_x2)
            have V_b3 := V_b3.other W211 (Ne.symm ne_x1_b3)
            have K211 := K203.wr W211 (Or.inl (List.mem_of_getElem? (i := 0) rfl))
            refine Goes.hrun X211 e211 CX NB (L := [.p 246 (.iinc 7 1) 3, .p 249 (.goto (-35)) 3, .p 214 (.iload 7) 2, .p 216 (.aload_n 0) 1, .f 217 28 0, .c 220 .ge 32 false, .p 223 (.aload_n 1) 1, .p 224 (.iload 7) 2]) (by decide +kernel) rfl (g' := (mkF m 226 #[rv x0, rv x1, rv x2, rv b3, rv b4, jv (wB_150_c cA cB pP q0 q2), .second, iv 1, jv (wB_150_c cA cB pP q0 q2), .second] [(.int 1), (.ref x1)])) rfl ⟨rr, by decide, trivial⟩ ?_
            intro T214 X214 e214
            refine Goes.st (B := T214.setTop (mkF m 227 #[rv x0, rv x1, rv x2, rv b3, rv b4, jv (wB_150_c cA cB pP q0 q2), .second, iv 1, jv (wB_150_c cA cB pP q0 q2), .second] [(.int 1), (.ref x1), (.int 1), (.ref x1)])) (fun t k => ?_) ?_
            · refine Jvm.Free.XT.dup2 X214.here hx rfl (hb hby d9_226) rfl rfl rfl ?_
              exact k
            refine Goes.hrun X214 e214 CX (own_c2 V_x1 (own_c2 V_b3 (own_c2 V_x2 NB))) (L := [.J 227 0 1, .p 228 (.aload_n 3) 1, .p 229 (.iload 7) 2, .Z 231 1 1, .b 232 .eq 10 false, .p 235 (.aload_n 2) 1, .p 236 (.iload 7) 2, .J 238 2 1, .p 239 (.goto 5) 3, .p 244 .ladd 1]) (by decide +kernel) rfl (g' := (mkF m 245 #[rv x0, rv x1, rv x2, rv b3, rv b4, jv (wB_150_c cA cB pP q0 q2), .second, iv 1, jv (wB_150_c cA cB pP q0 q2), .second] [(.long (pP + (jB_44_e0 cA cB pP q0 q2))), (.int 1), (.ref x1)])) rfl ⟨ra (by decide), ra (by decide), by decide, ra (by decide), trivial⟩ ?_
            intro T215 X215 e215
            refine Goes.sJ X215 e215 hx hZ V_x1 (i := 1) (own_ixok (by decide)) (Nat.le_of_ble_eq_true rfl) N211 g_x1 rfl rfl (hb hby d9_245) ?_
            intro T216 h216 L216 X216 e216 W216 (V_x1 : Arv Z h216 x1 kx1 .long (4 : Int32) [(.long 0), (.long (sB_245_b cA cB pP q0 q2)), (.long 0), (.long pP)] (.long (0 : Int64))) N216
            have NB := own_all.wr W216 d_x1 NB
            have E_b3 := E_b3.wr W216
            have E_b4 := E_b4.wr W216
            have F_keys_b4 := F_keys_b4.other W216 (Or.inl (Ne.symm ne_x1_b4))
            have F_values_b4 := F_values_b4.other W216 (Or.inl (Ne.symm ne_x1_b4))
            have F_size_b4 := F_size_b4.other W216 (Or.inl (Ne.symm ne_x1_b4))
            have V_cp := V_cp.other W216 (Ne.symm ne_x1_cp)
            have V_ks6 := V_ks6.other W216 (Ne.symm ne_x1_ks6)
            have V_vs6 := V_vs6.other W216 (Ne.symm ne_x1_vs6)
            have V_x2 := V_x2.other W216 (Ne.symm ne_x1_x2)
            have V_b3 := V_b3.other W216 (Ne.symm ne_x1_b3)
            have K216 := K211.wr W216 (Or.inl (List.mem_of_getElem? (i := 0) rfl))
            refine Goes.hrun X216 e216 CX NB (L := [.p 246 (.iinc 7 1) 3, .p 249 (.goto (-35)) 3, .p 214 (.iload 7) 2, .p 216 (.aload_n 0) 1, .f 217 28 0, .c 220 .ge 32 false, .p 223 (.aload_n 1) 1, .p 224 (.iload 7) 2]) (by decide +kernel) rfl (g' := (mkF m 226 #[rv x0, rv x1, rv x2, rv b3, rv b4, jv (wB_150_c cA cB pP q0 q2), .second, iv 2, jv (wB_150_c cA cB pP q0 q2), .second] [(.int 2), (.ref x1)])) rfl ⟨rr, by decide, trivial⟩ ?_
            intro T219 X219 e219
            refine Goes.st (B := T219.setTop (mkF m 227 #[rv x0, rv x1, rv x2, rv b3, rv b4, jv (wB_150_c cA cB pP q0 q2), .second, iv 2, jv (wB_150_c cA cB pP q0 q2), .second] [(.int 2), (.ref x1), (.int 2), (.ref x1)])) (fun t k => ?_) ?_
            · refine Jvm.Free.XT.dup2 X219.here hx rfl (hb hby d9_226) rfl rfl rfl ?_
              exact k
            refine Goes.hrun X219 e219 CX (own_c2 V_x1 (own_c2 V_b3 (own_c2 V_x2 NB))) (L := [.J 227 0 2, .p 228 (.aload_n 3) 1, .p 229 (.iload 7) 2, .Z 231 1 2, .b 232 .eq 10 false, .p 235 (.aload_n 2) 1, .p 236 (.iload 7) 2, .J 238 2 2, .p 239 (.goto 5) 3, .p 244 .ladd 1]) (by decide +kernel) rfl (g' := (mkF m 245 #[rv x0, rv x1, rv x2, rv b3, rv b4, jv (wB_150_c cA cB pP q0 q2), .second, iv 2, jv (wB_150_c cA cB pP q0 q2), .second] [(.long 0), (.int 2), (.ref x1)])) rfl ⟨ra (by decide), ra (by decide), by decide, ra (by decide), trivial⟩ ?_
            intro T220 X220 e220
            refine Goes.sJ X220 e220 hx hZ V_x1 (i := 2) (own_ixok (by decide)) (Nat.le_of_ble_eq_true rfl) N216 g_x1 rfl rfl (hb hby d9_245) ?_
            intro T221 h221 L221 X221 e221 W221 (V_x1 : Arv Z h221 x1 kx1 .long (4 : Int32) [(.long 0), (.long (sB_245_b cA cB pP q0 q2)), (.long 0), (.long pP)] (.long (0 : Int64))) N221
            have NB := own_all.wr W221 d_x1 NB
            have E_b3 := E_b3.wr W221
            have E_b4 := E_b4.wr W221
            have F_keys_b4 := F_keys_b4.other W221 (Or.inl (Ne.symm ne_x1_b4))
            have F_values_b4 := F_values_b4.other W221 (Or.inl (Ne.symm ne_x1_b4))
            have F_size_b4 := F_size_b4.other W221 (Or.inl (Ne.symm ne_x1_b4))
            have V_cp := V_cp.other W221 (Ne.symm ne_x1_cp)
            have V_ks6 := V_ks6.other W221 (Ne.symm ne_x1_ks6)
            have V_vs6 := V_vs6.other W221 (Ne.symm ne_x1_vs6)
            have V_x2 := V_x2.other W221 (Ne.symm ne_x1_x2)
            have V_b3 := V_b3.other W221 (Ne.symm ne_x1_b3)
            have K221 := K216.wr W221 (Or.inl (List.mem_of_getElem? (i := 0) rfl))
            refine Goes.hrun X221 e221 CX NB (L := [.p 246 (.iinc 7 1) 3, .p 249 (.goto (-35)) 3, .p 214 (.iload 7) 2, .p 216 (.aload_n 0) 1, .f 217 28 0, .c 220 .ge 32 false, .p 223 (.aload_n 1) 1, .p 224 (.iload 7) 2]) (by decide +kernel) rfl (g' := (mkF m 226 #[rv x0, rv x1, rv x2, rv b3, rv b4, jv (wB_150_c cA cB pP q0 q2), .second, iv 3, jv (wB_150_c cA cB pP q0 q2), .second] [(.int 3), (.ref x1)])) rfl ⟨rr, by decide, trivial⟩ ?_
            intro T224 X224 e224
            refine Goes.st (B := T224.setTop (mkF m 227 #[rv x0, rv x1, rv x2, rv b3, rv b4, jv (wB_150_c cA cB pP q0 q2), .second, iv 3, jv (wB_150_c cA cB pP q0 q2), .second] [(.int 3), (.ref x1), (.int 3), (.ref x1)])) (fun t k => ?_) ?_
            · refine Jvm.Free.XT.dup2 X224.here hx rfl (hb hby d9_226) rfl rfl rfl ?_
              exact k
            refine Goes.hrun X224 e224 CX (own_c2 V_x1 (own_c2 V_b3 (own_c2 V_x2 NB))) (L := [.J 227 0 3, .p 228 (.aload_n 3) 1, .p 229 (.iload 7) 2, .Z 231 1 3, .b 232 .eq 10 false, .p 235 (.aload_n 2) 1, .p 236 (.iload 7) 2, .J 238 2 3, .p 239 (.goto 5) 3, .p 244 .ladd 1]) (by decide +kernel) rfl (g' := (mkF m 245 #[rv x0, rv x1, rv x2, rv b3, rv b4, jv (wB_150_c cA cB pP q0 q2), .second, iv 3, jv (wB_150_c cA cB pP q0 q2), .second] [(.long (pP + (wB_150_c cA cB pP q0 q2))), (.int 3), (.ref x1)])) rfl ⟨ra (by decide), ra (by decide), by decide, ra (by decide), trivial⟩ ?_
            intro T225 X225 e225
            refine Goes.sJ X225 e225 hx hZ V_x1 (i := 3) (own_ixok (by decide)) (Nat.le_of_ble_eq_true rfl) N221 g_x1 rfl rfl (hb hby d9_245) ?_
            intro T226 h226 L226 X226 e226 W226 (V_x1 : Arv Z h226 x1 kx1 .long (4 : Int32) [(.long 0), (.long (sB_245_b cA cB pP q0 q2)), (.long 0), (.long (sB_245_c cA cB pP q0 q2))] (.long (0 : Int64))) N226
            have NB := own_all.wr W226 d_x1 NB
            have E_b3 := E_b3.wr W226
            have E_b4 := E_b4.wr W226
            have F_keys_b4 := F_keys_b4.other W226 (Or.inl (Ne.symm ne_x1_b4))
            have F_values_b4 := F_values_b4.other W226 (Or.inl (Ne.symm ne_x1_b4))
            have F_size_b4 := F_size_b4.other W226 (Or.inl (Ne.symm ne_x1_b4))
            have V_cp := V_cp.other W226 (Ne.symm ne_x1_cp)
            have V_ks6 := V_ks6.other W226 (Ne.symm ne_x1_ks6)
            have V_vs6 := V_vs6.other W226 (Ne.symm ne_x1_vs6)
            have V_x2 := V_x2.other W226 (Ne.symm ne_x1_x2)
            have V_b3 := V_b3.other W226 (Ne.symm ne_x1_b3)
            have K226 := K221.wr W226 (Or.inl (List.mem_of_getElem? (i := 0) rfl))
            refine Goes.hrun X226 e226 CX NB (L := [.p 246 (.iinc 7 1) 3, .p 249 (.goto (-35)) 3, .p 214 (.iload 7) 2, .p 216 (.aload_n 0) 1, .f 217 28 0, .c 220 .ge 32 true, .p 252 (.iconst 1) 1]) (by decide +kernel) rfl (g' := (mkF m 253 #[rv x0, rv x1, rv x2, rv b3, rv b4, jv (wB_150_c cA cB pP q0 q2), .second, iv 4, jv (wB_150_c cA cB pP q0 q2), .second] [(.int 1)])) rfl ⟨rr, by decide, trivial⟩ ?_
            intro T228 X228 e228
            exact Goes.retB X228 hx hlk (t := .boolean) Bd.returns (by simp) (hb hby d9_253) rfl (by show QM Z x1 x2 kx1 kx2 kM h0 n0 _ _ _; rw [e228]; have q := V_x1; rw [show (sB_245_b cA cB pP q0 q2) = kM from own_pkV hV, show (sB_245_c cA cB pP q0 q2) = kM from own_pkW hV] at q; exact ⟨_, _, _, _, rfl, N226, K226, q, V_x2⟩) (by decide) (by decide)
          by_cases hc118_189 : (0 : Int64) < q1
          · skip
            refine Goes.st (B := T191.setTop (mkF m 121 #[rv x0, rv x1, rv x2, rv b3, rv b4, iv 1, iv 1, iv 0, jv (wB_150_c cA cB pP q0 q2), .second] [])) (fun t k => ?_) ?_
            · refine XS.ifNo X191.here hx rfl (hb hby d9_118) rfl (tltL hc118_189).2.2.2 ?_
              exact k
            refine Goes.hrun X191 e191 CX (own_c2 V_b3 NB) (L := [.p 121 (.aload_n 3) 1, .p 122 (.iload 7) 2, .Z 124 0 0, .b 125 .ne 52 true]) (by decide +kernel) rfl (g' := (mkF m 177 #[rv x0, rv x1, rv x2, rv b3, rv b4, iv 1, iv 1, iv 0, jv (wB_150_c cA cB pP q0 q2), .second] [])) rfl ⟨ra (by decide), by decide, trivial⟩ ?_
            intro T230 X230 e230
            exact jn177_193 _ _ X230 e230 N187
          · skip
            refine Goes.st (B := T191.setTop (mkF m 177 #[rv x0, rv x1, rv x2, rv b3, rv b4, iv 1, iv 1, iv 0, jv (wB_150_c cA cB pP q0 q2), .second] [])) (fun t k => ?_) ?_
            · refine XS.ifYes X191.here hx rfl (pc0 := 118) (pc' := 177) rfl (hb hby d9_118) rfl (fltL hc118_189).2.2.2 (by decide) (by decide) ?_
              exact k
            exact jn177_193 _ _ X191 e191 N187
        by_cases hc118_182 : (0 : Int64) < q3
        · skip
          refine Goes.st (B := T184.setTop (mkF m 121 #[rv x0, rv x1, rv x2, rv b3, rv b4, iv 1, iv 3, iv 0, jv (wB_150_c cA cB pP q0 q2), .second] [])) (fun t k => ?_) ?_
          · refine XS.ifNo X184.here hx rfl (hb hby d9_118) rfl (tltL hc118_182).2.2.2 ?_
            exact k
          refine Goes.hrun X184 e184 CX (own_c2 V_b3 NB) (L := [.p 121 (.aload_n 3) 1, .p 122 (.iload 7) 2, .Z 124 0 0, .b 125 .ne 52 true]) (by decide +kernel) rfl (g' := (mkF m 177 #[rv x0, rv x1, rv x2, rv b3, rv b4, iv 1, iv 3, iv 0, jv (wB_150_c cA cB pP q0 q2), .second] [])) rfl ⟨ra (by decide), by decide, trivial⟩ ?_
          intro T232 X232 e232
          exact jn177_186 _ _ X232 e232 N180
        · skip
          refine Goes.st (B := T184.setTop (mkF m 177 #[rv x0, rv x1, rv x2, rv b3, rv b4, iv 1, iv 3, iv 0, jv (wB_150_c cA cB pP q0 q2), .second] [])) (fun t k => ?_) ?_
          · refine XS.ifYes X184.here hx rfl (pc0 := 118) (pc' := 177) rfl (hb hby d9_118) rfl (fltL hc118_182).2.2.2 (by decide) (by decide) ?_
            exact k
          exact jn177_186 _ _ X184 e184 N180
      by_cases pz2 : (0 : Int64) < q2
      · have hA := own_VD hV pz2
        refine Goes.hrun X46 e46 CX (own_c2 V_cp NB) (L := [.p 95 (.iload 6) 2, .b 97 .lt 92 false, .p 100 (.aload_n 0) 1, .f 101 9 5, .p 104 (.iload 6) 2, .I 106 10 2, .p 107 (.istore 7) 2, .p 109 (.aload_n 0) 1, .f 110 18 7, .p 113 (.iload 6) 2, .J 115 0 2, .p 116 (.lconst 0) 1, .p 117 .lcmp 1, .b 118 .le 59 false, .p 121 (.aload_n 3) 1, .p 122 (.iload 7) 2]) (by decide +kernel) rfl (g' := (mkF m 124 #[rv x0, rv x1, rv x2, rv b3, rv b4, iv 0, iv 2, iv 1, jv 0, .second] [(.int 1), (.ref b3)])) rfl ⟨by decide, rr, ra (by decide), rr, ra (by decide), (tltL (pz2 : (0 : Int64) < q2)).2.2.2, trivial⟩ ?_
        intro T237 X237 e237
        refine Goes.hrun X237 e237 CX (own_c2 V_b3 (own_c2 V_x2 (own_c2 V_x1 NB))) (L := [.Z 124 0 1, .b 125 .ne 52 false, .p 128 (.aload_n 2) 1, .p 129 (.iload 5) 2, .J 131 1 0, .p 132 (.aload_n 0) 1, .f 133 22 10, .p 136 (.iload 6) 2, .J 138 14 2, .p 139 .ladd 1, .p 140 (.aload_n 1) 1, .p 141 (.iload 5) 2, .J 143 2 0, .p 144 .ladd 1, .p 145 (.aload_n 1) 1, .p 146 (.iload 7) 2]) (by decide +kernel) rfl (g' := (mkF m 148 #[rv x0, rv x1, rv x2, rv b3, rv b4, iv 0, iv 2, iv 1, jv 0, .second] [(.int 1), (.ref x1), (.long (((0 : Int64) + cB) + (0 : Int64)))])) rfl ⟨ra (by decide), by decide, ra (by decide), rr, ra (by decide), ra (by decide), trivial⟩ ?_
        intro T238 X238 e238
        refine Goes.hrun X238 e238 CX (own_c2 V_x1 (own_c2 V_x2 NB)) (L := [.J 148 0 1, .p 149 .lsub 1, .p 150 (.lstore 8) 2, .p 152 (.lload 8) 2, .p 154 (.aload_n 2) 1, .p 155 (.iload 7) 2, .J 157 1 1, .p 158 .lcmp 1, .b 159 .ge 18 false, .p 162 (.aload_n 2) 1, .p 163 (.iload 7) 2, .p 165 (.lload 8) 2]) (by decide +kernel) rfl (g' := (mkF m 167 #[rv x0, rv x1, rv x2, rv b3, rv b4, iv 0, iv 2, iv 1, jv (wB_150 cA cB pP q0 q2), .second] [(.long (wB_150 cA cB pP q0 q2)), (.int 1), (.ref x2)])) rfl ⟨ra (by decide), ra (by decide), (tltL (hMB : (wB_150 cA cB pP q0 q2) < (9223372036854775807 : Int64))).2.1, trivial⟩ ?_
        intro T239 X239 e239
        refine Goes.sJ X239 e239 hx hZ V_x2 (i := 1) (own_ixok (by decide)) (Nat.le_of_ble_eq_true rfl) N45 g_x2 rfl rfl (hb hby d9_167) ?_
        intro T240 h240 L240 X240 e240 W240 (V_x2 : Arv Z h240 x2 kx2 .long (4 : Int32) [(.long 0), (.long (wB_150 cA cB pP q0 q2)), (.long 0), (.long 9223372036854775807)] (.long (0 : Int64))) N240
        have NB := own_all.wr W240 d_x2 NB
        have V_cp := V_cp.other W240 (Ne.symm ne_x2_cp)
        have V_x1 := V_x1.other W240 ne_x1_x2
        have E_b3 := E_b3.wr W240
        have E_b4 := E_b4.wr W240
        have F_keys_b4 := F_keys_b4.other W240 (Or.inl (Ne.symm ne_x2_b4))
        have F_values_b4 := F_values_b4.other W240 (Or.inl (Ne.symm ne_x2_b4))
        have F_size_b4 := F_size_b4.other W240 (Or.inl (Ne.symm ne_x2_b4))
        have V_ks6 := V_ks6.other W240 (Ne.symm ne_x2_ks6)
        have V_vs6 := V_vs6.other W240 (Ne.symm ne_x2_vs6)
        have V_b3 := V_b3.other W240 (Ne.symm ne_x2_b3)
        have K240 := K37.wr W240 (Or.inl (List.mem_of_getElem? (i := 1) rfl))
        refine Goes.run X240 hx hown hci hcl hby (L := [(168, .aload 4, 2), (170, .lload 8, 2), (172, .iload 7, 2)]) (by decide +kernel) rfl (g' := (mkF m 174 #[rv x0, rv x1, rv x2, rv b3, rv b4, iv 0, iv 2, iv 1, jv (wB_150 cA cB pP q0 q2), .second] [(.int 1), (.long (wB_150 cA cB pP q0 q2)), (.ref b4)])) rfl ?_
        obtain ⟨cq241, kq241, q241a, q241b, q241c⟩ := isOf hZ e240 E_b4
        obtain ⟨_, _, ⟨T241, L241, k241, n241⟩, -, X241, ⟨Lc241, hQ241, l241, y241, z241⟩, st241⟩ := X240.virtualBack hx (y := ym5) (z := ym5) hown (mvT hZ w_92) (mvT hZ w_93) (notFace_of_selects (args := #[]) (mvT hZ w_95)) (mvT hZ w_95) (mvT hZ w_94) (by decide) (backOf (W := 0) (rm6 l Z a0 hw [] b4 (wB_150 cA cB pP q0 q2) (1 : Int32) ks6 vs6 k_ks6 k_vs6 (0 : Int64) (0 : Int64) (0 : Int64) (0 : Int64) (0 : Int32) (0 : Int32) (0 : Int32) (0 : Int32) h240 n0 (Nat.le_trans Z0 K240.1) E_b4 F_keys_b4 F_values_b4 F_size_b4 V_ks6 V_vs6 g_b4 g_ks6 g_vs6 ne_b4_ks6 ne_b4_vs6 nq6_0_1) hZ w_96 w_80 (by decide) (by decide)) q241a q241c (g := (mkF m 174 #[rv x0, rv x1, rv x2, rv b3, rv b4, iv 0, iv 2, iv 1, jv (wB_150 cA cB pP q0 q2), .second] [(.int 1), (.long (wB_150 cA cB pP q0 q2)), (.ref b4)])) rfl (by rw [hml]; rfl) (Steps.refl _) (argsL := [(.long (wB_150 cA cB pP q0 q2)), (.int 1)]) (rest := []) (lenOf pdB_2 rfl) rfl (by show 2 * 0 + _ ≤ _; exact Nat.le_of_eq rfl) (hb hby d9_174) (fun _ _ => ⟨rfl, e240, (by decide : 4 + 0 ≤ _), (by decide : 15 + 0 ≤ _)⟩)
        dsimp only [Pt.U, Pt.locs, Pt.cells, Pt.slots] at X241 l241 y241 z241 st241 hQ241
        subst l241 y241 z241
        obtain ⟨h241, eh241⟩ : ∃ z, z = T241.heap := ⟨_, rfl⟩
        rw [← eh241] at hQ241
        have e241 : T241.heap = h241 := eh241.symm
        obtain ⟨rfl, N241q, Kq241, o241_0, o241_1, o241_2, o241_3, o241_4, o241_5⟩ := hQ241
        have N241 := Fr.app N240 N241q
        have NB := own_all.keep Kq241 (own_dS d_b4 (own_dS d_ks6 (own_dS d_vs6 own_d0))) NB
        have V_cp := V_cp.keep Kq241 (ninS ne_cp_b4 (ninS ne_cp_ks6 (ninS ne_cp_vs6 nin0)))
        have V_x1 := V_x1.keep Kq241 (ninS ne_x1_b4 (ninS ne_x1_ks6 (ninS ne_x1_vs6 nin0)))
        have E_b3 := E_b3.keep Kq241
        have V_b3 := V_b3.keep Kq241 (ninS ne_b3_b4 (ninS ne_b3_ks6 (ninS ne_b3_vs6 nin0)))
        have V_x2 := V_x2.keep Kq241 (ninS ne_x2_b4 (ninS ne_x2_ks6 (ninS ne_x2_vs6 nin0)))
        have E_b4 : Exa Z h241 b4 "com/example/kubera/kubera/FlowNetwork$NodeHeap" := o241_0
        have F_keys_b4 : Fld Z h241 b4 "com/example/kubera/kubera/FlowNetwork$NodeHeap" "keys" "[J" (.ref ks6) := o241_1
        have F_values_b4 : Fld Z h241 b4 "com/example/kubera/kubera/FlowNetwork$NodeHeap" "values" "[I" (.ref vs6) := o241_2
        have F_size_b4 : Fld Z h241 b4 "com/example/kubera/kubera/FlowNetwork$NodeHeap" "size" "I" (.int 1) := o241_3
        have V_ks6 : Arv Z h241 ks6 k_ks6 .long (4 : Int32) [(.long (wB_150 cA cB pP q0 q2)), (.long 0), (.long 0), (.long 0)] (.long (0 : Int64)) := o241_4
        have V_vs6 : Arv Z h241 vs6 k_vs6 .int (4 : Int32) [(.int 1), (.int 0), (.int 0), (.int 0)] (.int (0 : Int32)) := o241_5
        have K241 := K240.trans Kq241 ((allS (Or.inr sz_b4) (allS (Or.inr sz_ks6) (allS (Or.inr sz_vs6) all0))))
        refine Goes.st (fun t k => st241.trans k) ?_
        refine Goes.hrun X241 e241 CX NB (L := [.p 177 (.aload_n 0) 1, .f 178 15 5, .p 181 (.iload 6) 2, .I 183 10 2, .p 184 (.istore 6) 2, .p 186 (.goto (-91)) 3, .p 95 (.iload 6) 2, .b 97 .lt 92 false, .p 100 (.aload_n 0) 1, .f 101 9 4, .p 104 (.iload 6) 2, .I 106 9 0, .p 107 (.istore 7) 2, .p 109 (.aload_n 0) 1, .f 110 18 6, .p 113 (.iload 6) 2]) (by decide +kernel) rfl (g' := (mkF m 115 #[rv x0, rv x1, rv x2, rv b3, rv b4, iv 0, iv 0, iv 1, jv (wB_150 cA cB pP q0 q2), .second] [(.int 0), (.ref cp)])) rfl ⟨rr, ra (by decide), by decide, rr, ra (by decide), rr, trivial⟩ ?_
        intro T244 X244 e244
        refine Goes.hrun X244 e244 CX (own_c2 V_cp NB) (L := [.J 115 0 0, .p 116 (.lconst 0) 1, .p 117 .lcmp 1]) (by decide +kernel) rfl (g' := (mkF m 118 #[rv x0, rv x1, rv x2, rv b3, rv b4, iv 0, iv 0, iv 1, jv (wB_150 cA cB pP q0 q2), .second] [(.int (lcmpW q0 (0 : Int64)))])) rfl ⟨ra (by decide), trivial⟩ ?_
        intro T245 X245 e245
        have jn177_248 : ∀ (T249 : State) (L249 : List Loc) (X249 : Stand p l e ({ frames := 2, cells := 4, slots := 15, locals := 28 } : Room) s m #[(.ref x0), (.ref x1), (.ref x2)] below meth c T249 L249 4 15) (e249 : T249.heap = h241) (N249 : Fr n0 L249), Goes p e below s (QM Z x1 x2 kx1 kx2 kM h0 n0) ({ frames := 2, cells := 4, slots := 15, locals := 28 } : Room).cells ({ frames := 2, cells := 4, slots := 15, locals := 28 } : Room).slots (T249.setTop (mkF m 177 #[rv x0, rv x1, rv x2, rv b3, rv b4, iv 0, iv 0, iv 1, jv (jB_177_8 cA cB pP q0 q2), .second] [])) := by
          intro T249 L249 X249 e249 N249
          refine Goes.hrun X249 e249 CX NB (L := [.p 177 (.aload_n 0) 1, .f 178 15 5, .p 181 (.iload 6) 2, .I 183 10 0, .p 184 (.istore 6) 2, .p 186 (.goto (-91)) 3, .p 95 (.iload 6) 2, .b 97 .lt 92 true, .p 189 (.goto (-145)) 3]) (by decide +kernel) rfl (g' := (mkF m 44 #[rv x0, rv x1, rv x2, rv b3, rv b4, iv 0, iv (-1), iv 1, jv (jB_177_8 cA cB pP q0 q2), .second] [])) rfl ⟨rr, ra (by decide), by decide, trivial⟩ ?_
          intro T251 X251 e251
          have q := jn44_162
          rw [show (jB_44_8 cA cB pP q0 q2) = (jB_177_8 cA cB pP q0 q2) from (if_pos pz2), show (jB_44_e0 cA cB pP q0 q2) = (wB_150 cA cB pP q0 q2) from (if_pos pz2)] at q
          exact q _ _ _ X251 e251 N249 (Nat.le_trans Z0 K241.1) K241 NB E_b3 V_b3 E_b4 F_keys_b4 F_values_b4 F_size_b4 V_cp V_ks6 V_vs6 V_x1 V_x2
        by_cases hc118_243 : (0 : Int64) < q0
        · skip
          refine Goes.st (B := T245.setTop (mkF m 121 #[rv x0, rv x1, rv x2, rv b3, rv b4, iv 0, iv 0, iv 1, jv (wB_150 cA cB pP q0 q2), .second] [])) (fun t k => ?_) ?_
          · refine XS.ifNo X245.here hx rfl (hb hby d9_118) rfl (tltL hc118_243).2.2.2 ?_
            exact k
          refine Goes.hrun X245 e245 CX (own_c2 V_b3 (own_c2 V_x2 (own_c2 V_x1 NB))) (L := [.p 121 (.aload_n 3) 1, .p 122 (.iload 7) 2, .Z 124 0 1, .b 125 .ne 52 false, .p 128 (.aload_n 2) 1, .p 129 (.iload 5) 2, .J 131 1 0, .p 132 (.aload_n 0) 1, .f 133 22 10, .p 136 (.iload 6) 2, .J 138 14 0, .p 139 .ladd 1, .p 140 (.aload_n 1) 1, .p 141 (.iload 5) 2, .J 143 2 0, .p 144 .ladd 1]) (by decide +kernel) rfl (g' := (mkF m 145 #[rv x0, rv x1, rv x2, rv b3, rv b4, iv 0, iv 0, iv 1, jv (wB_150 cA cB pP q0 q2), .second] [(.long (((0 : Int64) + cA) + (0 : Int64)))])) rfl ⟨ra (by decide), by decide, ra (by decide), rr, ra (by decide), ra (by decide), trivial⟩ ?_
          intro T254 X254 e254
          refine Goes.hrun X254 e254 CX (own_c2 V_x1 (own_c2 V_x2 NB)) (L := [.p 145 (.aload_n 1) 1, .p 146 (.iload 7) 2, .J 148 0 1, .p 149 .lsub 1, .p 150 (.lstore 8) 2, .p 152 (.lload 8) 2, .p 154 (.aload_n 2) 1, .p 155 (.iload 7) 2, .J 157 1 1, .p 158 .lcmp 1, .b 159 .ge 18 true]) (by decide +kernel) rfl (g' := (mkF m 177 #[rv x0, rv x1, rv x2, rv b3, rv b4, iv 0, iv 0, iv 1, jv (wB_150_a cA cB pP q0 q2), .second] [])) rfl ⟨ra (by decide), ra (by decide), (fltL (hA hc118_243 : ¬ ((wB_150_a cA cB pP q0 q2) < (wB_150 cA cB pP q0 q2)))).2.1, trivial⟩ ?_
          intro T255 X255 e255
          have q := jn177_248 _ _ X255 e255 N241
          rw [show (jB_177_8 cA cB pP q0 q2) = (wB_150_a cA cB pP q0 q2) from (if_pos hc118_243)] at q
          exact q
        · skip
          refine Goes.st (B := T245.setTop (mkF m 177 #[rv x0, rv x1, rv x2, rv b3, rv b4, iv 0, iv 0, iv 1, jv (wB_150 cA cB pP q0 q2), .second] [])) (fun t k => ?_) ?_
          · refine XS.ifYes X245.here hx rfl (pc0 := 118) (pc' := 177) rfl (hb hby d9_118) rfl (fltL hc118_243).2.2.2 (by decide) (by decide) ?_
            exact k
          have q := jn177_248 _ _ X245 e245 N241
          rw [show (jB_177_8 cA cB pP q0 q2) = (wB_150 cA cB pP q0 q2) from (if_neg hc118_243)] at q
          exact q
      · have pz0 := own_VB hV pz2
        refine Goes.hrun X46 e46 CX (own_c2 V_cp NB) (L := [.p 95 (.iload 6) 2, .b 97 .lt 92 false, .p 100 (.aload_n 0) 1, .f 101 9 5, .p 104 (.iload 6) 2, .I 106 10 2, .p 107 (.istore 7) 2, .p 109 (.aload_n 0) 1, .f 110 18 7, .p 113 (.iload 6) 2, .J 115 0 2, .p 116 (.lconst 0) 1, .p 117 .lcmp 1, .b 118 .le 59 true, .p 177 (.aload_n 0) 1, .f 178 15 6]) (by decide +kernel) rfl (g' := (mkF m 181 #[rv x0, rv x1, rv x2, rv b3, rv b4, iv 0, iv 2, iv 1, jv 0, .second] [(.ref nx)])) rfl ⟨by decide, rr, ra (by decide), rr, ra (by decide), (fltL (pz2 : ¬ ((0 : Int64) < q2))).2.2.2, rr, trivial⟩ ?_
        intro T262 X262 e262
        refine Goes.hrun X262 e262 CX (own_c2 V_cp NB) (L := [.p 181 (.iload 6) 2, .I 183 11 2, .p 184 (.istore 6) 2, .p 186 (.goto (-91)) 3, .p 95 (.iload 6) 2, .b 97 .lt 92 false, .p 100 (.aload_n 0) 1, .f 101 9 5, .p 104 (.iload 6) 2, .I 106 10 0, .p 107 (.istore 7) 2, .p 109 (.aload_n 0) 1, .f 110 18 7, .p 113 (.iload 6) 2, .J 115 0 0, .p 116 (.lconst 0) 1]) (by decide +kernel) rfl (g' := (mkF m 117 #[rv x0, rv x1, rv x2, rv b3, rv b4, iv 0, iv 0, iv 1, jv 0, .second] [(.long 0), (.long q0)])) rfl ⟨ra (by decide), by decide, rr, ra (by decide), rr, ra (by decide), trivial⟩ ?_
        intro T263 X263 e263
        refine Goes.hrun X263 e263 CX (own_c2 V_b3 (own_c2 V_x2 NB)) (L := [.p 117 .lcmp 1, .b 118 .le 59 false, .p 121 (.aload_n 3) 1, .p 122 (.iload 7) 2, .Z 124 0 1, .b 125 .ne 52 false, .p 128 (.aload_n 2) 1, .p 129 (.iload 5) 2, .J 131 1 0, .p 132 (.aload_n 0) 1, .f 133 22 9, .p 136 (.iload 6) 2, .J 138 13 0, .p 139 .ladd 1, .p 140 (.aload_n 1) 1, .p 141 (.iload 5) 2]) (by decide +kernel) rfl (g' := (mkF m 143 #[rv x0, rv x1, rv x2, rv b3, rv b4, iv 0, iv 0, iv 1, jv 0, .second] [(.int 0), (.ref x1), (.long ((0 : Int64) + cA))])) rfl ⟨(tltL (pz0 : (0 : Int64) < q0)).2.2.2, ra (by decide), by decide, ra (by decide), rr, ra (by decide), trivial⟩ ?_
        intro T264 X264 e264
        refine Goes.hrun X264 e264 CX (own_c2 V_x1 (own_c2 V_x2 NB)) (L := [.J 143 0 0, .p 144 .ladd 1, .p 145 (.aload_n 1) 1, .p 146 (.iload 7) 2, .J 148 0 1, .p 149 .lsub 1, .p 150 (.lstore 8) 2, .p 152 (.lload 8) 2, .p 154 (.aload_n 2) 1, .p 155 (.iload 7) 2, .J 157 1 1, .p 158 .lcmp 1, .b 159 .ge 18 false, .p 162 (.aload_n 2) 1, .p 163 (.iload 7) 2, .p 165 (.lload 8) 2]) (by decide +kernel) rfl (g' := (mkF m 167 #[rv x0, rv x1, rv x2, rv b3, rv b4, iv 0, iv 0, iv 1, jv (wB_150_a cA cB pP q0 q2), .second] [(.long (wB_150_a cA cB pP q0 q2)), (.int 1), (.ref x2)])) rfl ⟨ra (by decide), ra (by decide), ra (by decide), (tltL (hMA : (wB_150_a cA cB pP q0 q2) < (9223372036854775807 : Int64))).2.1, trivial⟩ ?_
        intro T265 X265 e265
        refine Goes.sJ X265 e265 hx hZ V_x2 (i := 1) (own_ixok (by decide)) (Nat.le_of_ble_eq_true rfl) N45 g_x2 rfl rfl (hb hby d9_167) ?_
        intro T266 h266 L266 X266 e266 W266 (V_x2 : Arv Z h266 x2 kx2 .long (4 : Int32) [(.long 0), (.long (wB_150_a cA cB pP q0 q2)), (.long 0), (.long 9223372036854775807)] (.long (0 : Int64))) N266
        have NB := own_all.wr W266 d_x2 NB
        have V_cp := V_cp.other W266 (Ne.symm ne_x2_cp)
        have V_x1 := V_x1.other W266 ne_x1_x2
        have E_b3 := E_b3.wr W266
        have E_b4 := E_b4.wr W266
        have F_keys_b4 := F_keys_b4.other W266 (Or.inl (Ne.symm ne_x2_b4))
        have F_values_b4 := F_values_b4.other W266 (Or.inl (Ne.symm ne_x2_b4))
        have F_size_b4 := F_size_b4.other W266 (Or.inl (Ne.symm ne_x2_b4))
        have V_ks6 := V_ks6.other W266 (Ne.symm ne_x2_ks6)
        have V_vs6 := V_vs6.other W266 (Ne.symm ne_x2_vs6)
        have V_b3 := V_b3.other W266 (Ne.symm ne_x2_b3)
        have K266 := K37.wr W266 (Or.inl (List.mem_of_getElem? (i := 1) rfl))
        refine Goes.run X266 hx hown hci hcl hby (L := [(168, .aload 4, 2), (170, .lload 8, 2), (172, .iload 7, 2)]) (by decide +kernel) rfl (g' := (mkF m 174 #[rv x0, rv x1, rv x2, rv b3, rv b4, iv 0, iv 0, iv 1, jv (wB_150_a cA cB pP q0 q2), .second] [(.int 1), (.long (wB_150_a cA cB pP q0 q2)), (.ref b4)])) rfl ?_
        obtain ⟨cq267, kq267, q267a, q267b, q267c⟩ := isOf hZ e266 E_b4
        obtain ⟨_, _, ⟨T267, L267, k267, n267⟩, -, X267, ⟨Lc267, hQ267, l267, y267, z267⟩, st267⟩ := X266.virtualBack hx (y := ym5) (z := ym5) hown (mvT hZ w_92) (mvT hZ w_93) (notFace_of_selects (args := #[]) (mvT hZ w_95)) (mvT hZ w_95) (mvT hZ w_94) (by decide) (backOf (W := 0) (rm6 l Z a0 hw [] b4 (wB_150_a cA cB pP q0 q2) (1 : Int32) ks6 vs6 k_ks6 k_vs6 (0 : Int64) (0 : Int64) (0 : Int64) (0 : Int64) (0 : Int32) (0 : Int32) (0 : Int32) (0 : Int32) h266 n0 (Nat.le_trans Z0 K266.1) E_b4 F_keys_b4 F_values_b4 F_size_b4 V_ks6 V_vs6 g_b4 g_ks6 g_vs6 ne_b4_ks6 ne_b4_vs6 nq6_0_1) hZ w_96 w_80 (by decide) (by decide)) q267a q267c (g := (mkF m 174 #[rv x0, rv x1, rv x2, rv b3, rv b4, iv 0, iv 0, iv 1, jv (wB_150_a cA cB pP q0 q2), .second] [(.int 1), (.long (wB_150_a cA cB pP q0 q2)), (.ref b4)])) rfl (by rw [hml]; rfl) (Steps.refl _) (argsL := [(.long (wB_150_a cA cB pP q0 q2)), (.int 1)]) (rest := []) (lenOf pdB_2 rfl) rfl (by show 2 * 0 + _ ≤ _; exact Nat.le_of_eq rfl) (hb hby d9_174) (fun _ _ => ⟨rfl, e266, (by decide : 4 + 0 ≤ _), (by decide : 15 + 0 ≤ _)⟩)
        dsimp only [Pt.U, Pt.locs, Pt.cells, Pt.slots] at X267 l267 y267 z267 st267 hQ267
        subst l267 y267 z267
        obtain ⟨h267, eh267⟩ : ∃ z, z = T267.heap := ⟨_, rfl⟩
        rw [← eh267] at hQ267
        have e267 : T267.heap = h267 := eh267.symm
        obtain ⟨rfl, N267q, Kq267, o267_0, o267_1, o267_2, o267_3, o267_4, o267_5⟩ := hQ267
        have N267 := Fr.app N266 N267q
        have NB := own_all.keep Kq267 (own_dS d_b4 (own_dS d_ks6 (own_dS d_vs6 own_d0))) NB
        have V_cp := V_cp.keep Kq267 (ninS ne_cp_b4 (ninS ne_cp_ks6 (ninS ne_cp_vs6 nin0)))
        have V_x1 := V_x1.keep Kq267 (ninS ne_x1_b4 (ninS ne_x1_ks6 (ninS ne_x1_vs6 nin0)))
        have E_b3 := E_b3.keep Kq267
        have V_b3 := V_b3.keep Kq267 (ninS ne_b3_b4 (ninS ne_b3_ks6 (ninS ne_b3_vs6 nin0)))
        have V_x2 := V_x2.keep Kq267 (ninS ne_x2_b4 (ninS ne_x2_ks6 (ninS ne_x2_vs6 nin0)))
        have E_b4 : Exa Z h267 b4 "com/example/kubera/kubera/FlowNetwork$NodeHeap" := o267_0
        have F_keys_b4 : Fld Z h267 b4 "com/example/kubera/kubera/FlowNetwork$NodeHeap" "keys" "[J" (.ref ks6) := o267_1
        have F_values_b4 : Fld Z h267 b4 "com/example/kubera/kubera/FlowNetwork$NodeHeap" "values" "[I" (.ref vs6) := o267_2
        have F_size_b4 : Fld Z h267 b4 "com/example/kubera/kubera/FlowNetwork$NodeHeap" "size" "I" (.int 1) := o267_3
        have V_ks6 : Arv Z h267 ks6 k_ks6 .long (4 : Int32) [(.long (wB_150_a cA cB pP q0 q2)), (.long 0), (.long 0), (.long 0)] (.long (0 : Int64)) := o267_4
        have V_vs6 : Arv Z h267 vs6 k_vs6 .int (4 : Int32) [(.int 1), (.int 0), (.int 0), (.int 0)] (.int (0 : Int32)) := o267_5
        have K267 := K266.trans Kq267 ((allS (Or.inr sz_b4) (allS (Or.inr sz_ks6) (allS (Or.inr sz_vs6) all0))))
        refine Goes.st (fun t k => st267.trans k) ?_
        refine Goes.hrun X267 e267 CX NB (L := [.p 177 (.aload_n 0) 1, .f 178 15 5, .p 181 (.iload 6) 2, .I 183 10 0, .p 184 (.istore 6) 2, .p 186 (.goto (-91)) 3, .p 95 (.iload 6) 2, .b 97 .lt 92 true, .p 189 (.goto (-145)) 3]) (by decide +kernel) rfl (g' := (mkF m 44 #[rv x0, rv x1, rv x2, rv b3, rv b4, iv 0, iv (-1), iv 1, jv (wB_150_a cA cB pP q0 q2), .second] [])) rfl ⟨rr, ra (by decide), by decide, trivial⟩ ?_
        intro T269 X269 e269
        have q := jn44_162
        rw [show (jB_44_8 cA cB pP q0 q2) = (wB_150_a cA cB pP q0 q2) from (if_neg pz2), show (jB_44_e0 cA cB pP q0 q2) = (wB_150_a cA cB pP q0 q2) from (if_neg pz2)] at q
        exact q _ _ _ X269 e269 N267 (Nat.le_trans Z0 K267.1) K267 NB E_b3 V_b3 E_b4 F_keys_b4 F_values_b4 F_size_b4 V_cp V_ks6 V_vs6 V_x1 V_x2
  by_cases hc118_40 : (0 : Int64) < q5
  · skip
    refine Goes.st (B := T42.setTop (mkF m 121 #[rv x0, rv x1, rv x2, rv b3, rv b4, iv 0, iv 5, iv 2, jv 0, .second] [])) (fun t k => ?_) ?_
    · refine XS.ifNo X42.here hx rfl (hb hby d9_118) rfl (tltL hc118_40).2.2.2 ?_
      exact k
    refine Goes.hrun X42 e42 CX (own_c2 V_b3 NB) (L := [.p 121 (.aload_n 3) 1, .p 122 (.iload 7) 2, .Z 124 0 2, .b 125 .ne 52 true]) (by decide +kernel) rfl (g' := (mkF m 177 #[rv x0, rv x1, rv x2, rv b3, rv b4, iv 0, iv 5, iv 2, jv 0, .second] [])) rfl ⟨ra (by decide), by decide, trivial⟩ ?_
    intro T271 X271 e271
    exact jn177_44 _ _ X271 e271 N37
  · skip
    refine Goes.st (B := T42.setTop (mkF m 177 #[rv x0, rv x1, rv x2, rv b3, rv b4, iv 0, iv 5, iv 2, jv 0, .second] [])) (fun t k => ?_) ?_
    · refine XS.ifYes X42.here hx rfl (pc0 := 118) (pc' := 177) rfl (hb hby d9_118) rfl (fltL hc118_40).2.2.2 (by decide) (by decide) ?_
      exact k
    exact jn177_44 _ _ X42 e42 N37
theorem own_t1 {a : Prop} [Decidable a] (h : a) : ¬ (if a then (1 : Int32) else 0) = 0 := by rw [if_pos h]; decide
theorem own_f1 {a : Prop} [Decidable a] (h : ¬ a) : (if a then (1 : Int32) else 0) = 0 := if_neg h
theorem own_t2 {a b : Prop} [Decidable a] [Decidable b] (h : a) (k : b) : ¬ (if a then (if b then (1 : Int32) else 0) else 0) = 0 := by rw [if_pos h, if_pos k]; decide
theorem own_f2 {a b : Prop} [Decidable a] [Decidable b] (h : ¬ a) : (if a then (if b then (1 : Int32) else 0) else 0) = 0 := if_neg h
theorem own_g2 {a b : Prop} [Decidable a] [Decidable b] (k : ¬ b) : (if a then (if b then (1 : Int32) else 0) else 0) = 0 := by
  by_cases h : a
  · rw [if_pos h, if_neg k]
  · exact if_neg h
theorem own_zz (P : Int64) : ((0 : Int64) + P) - P = 0 := by rw [Int64.zero_add, Int64.sub_self]
theorem d10_8 : decode prog_7_method_10_code 8 = .ok (.ifCond .le 31, 3) := by decide +kernel
theorem d10_40 : decode prog_7_method_10_code 40 = .ok (.ireturn, 1) := by decide +kernel
theorem pnE4 : plainName "com/example/kubera/kubera/FlowNetwork" = true := by first | (simp [plainName, overriddenIn]; done) | decide +kernel
theorem efE4 (m : MethodId) (x0 : Addr) (x3 : Addr) : entryFrame m #[(.ref x0), (.int 4), (.int 2), (.ref x3)] 4 = (mkF m 0 #[rv x0, iv 4, iv 2, rv x3] []) := by first | (simp [entryFrame, mkF, argsToLocals, Value.category]; done) | rfl
def rE4 (q4 : Int64) : Int32 := (if (0 : Int64) < q4 then (1 : Int32) else (0 : Int32))
set_option maxRecDepth 65536 in
set_option maxHeartbeats 40000000 in
theorem rmE4 (l : Launch) (Z : State) (a0 : Array Value) (hw : ∀ d ∈ tables_1, d.before a0 Z = true) (ws : List Jvm.Cond) (x0 : Addr) (x3 : Addr) (hd : Addr) (nx : Addr) (cp : Addr) (co : Addr) (fa : Addr) (lo : Addr) (khd : ClassId) (knx : ClassId) (kco : ClassId) (kfa : ClassId) (kcp : ClassId) (klo : ClassId) (cA : Int64) (nA : Int64) (cB : Int64) (nB : Int64) (la : Int64) (lb : Int64) (kx3 : ClassId) (q0 : Int64) (q1 : Int64) (q2 : Int64) (q3 : Int64) (q4 : Int64) (q5 : Int64) (q6 : Int64) (q7 : Int64) (pP : Int64) (h0 : Heap) (n0 : Nat) (Z0 : n0 ≤ h0.size) (NB : own_all Z h0 (NetL x0 hd nx cp co fa lo khd knx kco kfa klo cA nA cB nB la lb)) (V_cp : Arv Z h0 cp kcp .long (16 : Int32) [(.long q0), (.long q1), (.long q2), (.long q3), (.long q4), (.long q5), (.long q6), (.long q7)] (.long (0 : Int64))) (V_x3 : Arv Z h0 x3 kx3 .long (4 : Int32) [(.long 0), (.long pP), (.long 0), (.long pP)] (.long (0 : Int64))) :
    MetFree l ym9 (head1 (Jvm.Cond.code ym9 prog_7_method_10_code 4 (some .boolean) :: ws) ({ frames := 0, cells := 0, slots := 0, locals := 0 } : Room)) (fun a U => a = #[(.ref x0), (.int 4), (.int 2), (.ref x3)] ∧ Z.Warmed39 U.vm ∧ U.heap = h0) (fun _ _ _ _ _ => True) (fun _ U o U' => ∃ v L, o = .returned v ∧ (QP (some (.int (rE4 q4))) h0 n0) v U'.heap L ∧ FrameEnd U o U' L ({ frames := 0, cells := 0, slots := 0, locals := 0 } : Room).cells ({ frames := 0, cells := 0, slots := 0, locals := 0 } : Room).slots) := by
  refine MetFree.of_bodySF (plainFor_of_name pnE4) hisR ?_
  intro p e s m args below meth c s₁ Bd hml0 hP hK
  obtain ⟨rfl, hZ, hh⟩ := hP
  have hx := Bd.exec
  have hby := Bd.bytes
  have hml : c.maxLocals = 4 := hml0
  have hlk : meth.locks = false := BodyLoose.notSynchronized Bd
  have hown : s.vm.findClass "com/example/kubera/kubera/FlowNetwork" = some m.cls := findClass_of_methodNamed Bd.named
  have hnm := (name_of_methodNamed Bd.named Bd.method).1
  have w_73 := hw _ (List.mem_of_getElem? (i := 73) rfl)
  have w_121 := hw _ (List.mem_of_getElem? (i := 121) rfl)
  have hci : ∀ i v, (i, v) ∈ ([] : List (Nat × Int32)) → (Jvm.Cond.constant "com/example/kubera/kubera/FlowNetwork" i v).before #[(.ref x0), (.int 4), (.int 2), (.ref x3)] s = true := own_ci0
  have hcl : ∀ i v, (i, v) ∈ ([(87, 9223372036854775807), (119, 2305843009213693951)] : List (Nat × Int64)) → (Jvm.Cond.constantLong "com/example/kubera/kubera/FlowNetwork" i v).before #[(.ref x0), (.int 4), (.int 2), (.ref x3)] s = true := (own_ciS (mvT hZ w_73) (own_ciS (mvT hZ w_121) own_ci0))
  have X0 : Stand p l e ({ frames := 0, cells := 0, slots := 0, locals := 0 } : Room) s m #[(.ref x0), (.int 4), (.int 2), (.ref x3)] below meth c s₁ [] 0 0 := Stand.of_body Bd
  have e0 : s₁.heap = h0 := by rw [← hh, Bd.state]; rfl
  have N0 := Fr.nil n0
  show Goes p e below s (QP (some (.int (rE4 q4))) h0 n0) ({ frames := 0, cells := 0, slots := 0, locals := 0 } : Room).cells ({ frames := 0, cells := 0, slots := 0, locals := 0 } : Room).slots (s₁.setTop (entryFrame m #[(.ref x0), (.int 4), (.int 2), (.ref x3)] 4))
  refine Goes.cast (efE4 m x0 x3) ?_
  have hLK := own_lk2_ok hw
  have CX := Cx.mk hx hZ hown hci hcl hLK hby
  refine Goes.hrun X0 e0 CX (own_c2 V_cp NB) (L := [.p 0 (.aload_n 0) 1, .f 1 18 7, .p 4 (.iload_n 1) 1, .J 5 0 4, .p 6 (.lconst 0) 1, .p 7 .lcmp 1]) (by decide +kernel) rfl (g' := (mkF m 8 #[rv x0, iv 4, iv 2, rv x3] [(.int (lcmpW q4 (0 : Int64)))])) rfl ⟨rr, ra (by decide), trivial⟩ ?_
  intro T2 X2 e2
  by_cases hc8_1 : (0 : Int64) < q4
  · skip
    refine Goes.st (B := T2.setTop (mkF m 11 #[rv x0, iv 4, iv 2, rv x3] [])) (fun t k => ?_) ?_
    · refine XS.ifNo X2.here hx rfl (hb hby d10_8) rfl (tltL hc8_1).2.2.2 ?_
      exact k
    refine Goes.hrun X2 e2 CX (own_c2 V_x3 NB) (L := [.p 11 (.aload_n 0) 1, .f 12 22 8, .p 15 (.iload_n 1) 1, .J 16 12 4, .p 17 (.aload_n 3) 1, .p 18 (.iload_n 2) 1, .J 19 0 2, .p 20 .ladd 1, .p 21 (.aload_n 3) 1, .p 22 (.aload_n 0) 1, .f 23 9 5, .p 26 (.iload_n 1) 1, .I 27 10 4, .J 28 0 0, .p 29 .lsub 1, .p 30 (.lconst 0) 1]) (by decide +kernel) rfl (g' := (mkF m 31 #[rv x0, iv 4, iv 2, rv x3] [(.long 0), (.long 0)])) rfl ⟨rr, ra (by decide), ra (by decide), rr, ra (by decide), ra (by decide), trivial⟩ ?_
    intro T4 X4 e4
    refine Goes.hrun X4 e4 CX NB (L := [.p 31 .lcmp 1, .b 32 .ne 7 false, .p 35 (.iconst 1) 1, .p 36 (.goto 4) 3]) (by decide +kernel) rfl (g' := (mkF m 40 #[rv x0, iv 4, iv 2, rv x3] [(.int 1)])) rfl ⟨by decide, trivial⟩ ?_
    intro T5 X5 e5
    exact Goes.retB X5 hx hlk (t := .boolean) Bd.returns (by simp) (hb hby d10_40) rfl ⟨(congrArg (fun z => some (Value.int z)) (show (rE4 q4) = (1 : Int32) from (if_pos hc8_1)).symm), N0, e5⟩ (by decide) (by decide)
  · skip
    refine Goes.st (B := T2.setTop (mkF m 39 #[rv x0, iv 4, iv 2, rv x3] [])) (fun t k => ?_) ?_
    · refine XS.ifYes X2.here hx rfl (pc0 := 8) (pc' := 39) rfl (hb hby d10_8) rfl (fltL hc8_1).2.2.2 (by decide) (by decide) ?_
      exact k
    refine Goes.run X2 hx hown hci hcl hby (L := [(39, .iconst 0, 1)]) (by decide +kernel) rfl (g' := (mkF m 40 #[rv x0, iv 4, iv 2, rv x3] [(.int 0)])) rfl ?_
    exact Goes.retB X2 hx hlk (t := .boolean) Bd.returns (by simp) (hb hby d10_40) rfl ⟨(congrArg (fun z => some (Value.int z)) (show (rE4 q4) = (0 : Int32) from (if_neg hc8_1)).symm), N0, e2⟩ (by decide) (by decide)
theorem d10_32 : decode prog_7_method_10_code 32 = .ok (.ifCond .ne 7, 3) := by decide +kernel
theorem pnE2 : plainName "com/example/kubera/kubera/FlowNetwork" = true := by first | (simp [plainName, overriddenIn]; done) | decide +kernel
theorem efE2 (m : MethodId) (x0 : Addr) (x3 : Addr) : entryFrame m #[(.ref x0), (.int 2), (.int 0), (.ref x3)] 4 = (mkF m 0 #[rv x0, iv 2, iv 0, rv x3] []) := by first | (simp [entryFrame, mkF, argsToLocals, Value.category]; done) | rfl
def rE2 (cB : Int64) (q2 : Int64) (pP : Int64) : Int32 := (if (0 : Int64) < q2 then (if ((cB + (0 : Int64)) - pP) = (0 : Int64) then (1 : Int32) else (0 : Int32)) else (0 : Int32))
set_option maxRecDepth 65536 in
set_option maxHeartbeats 40000000 in
theorem rmE2 (l : Launch) (Z : State) (a0 : Array Value) (hw : ∀ d ∈ tables_1, d.before a0 Z = true) (ws : List Jvm.Cond) (x0 : Addr) (x3 : Addr) (hd : Addr) (nx : Addr) (cp : Addr) (co : Addr) (fa : Addr) (lo : Addr) (khd : ClassId) (knx : ClassId) (kco : ClassId) (kfa : ClassId) (kcp : ClassId) (klo : ClassId) (cA : Int64) (nA : Int64) (cB : Int64) (nB : Int64) (la : Int64) (lb : Int64) (kx3 : ClassId) (q0 : Int64) (q1 : Int64) (q2 : Int64) (q3 : Int64) (q4 : Int64) (q5 : Int64) (q6 : Int64) (q7 : Int64) (pP : Int64) (h0 : Heap) (n0 : Nat) (Z0 : n0 ≤ h0.size) (NB : own_all Z h0 (NetL x0 hd nx cp co fa lo khd knx kco kfa klo cA nA cB nB la lb)) (V_cp : Arv Z h0 cp kcp .long (16 : Int32) [(.long q0), (.long q1), (.long q2), (.long q3), (.long q4), (.long q5), (.long q6), (.long q7)] (.long (0 : Int64))) (V_x3 : Arv Z h0 x3 kx3 .long (4 : Int32) [(.long 0), (.long pP), (.long 0), (.long pP)] (.long (0 : Int64))) :
    MetFree l ym9 (head1 (Jvm.Cond.code ym9 prog_7_method_10_code 4 (some .boolean) :: ws) ({ frames := 0, cells := 0, slots := 0, locals := 0 } : Room)) (fun a U => a = #[(.ref x0), (.int 2), (.int 0), (.ref x3)] ∧ Z.Warmed39 U.vm ∧ U.heap = h0) (fun _ _ _ _ _ => True) (fun _ U o U' => ∃ v L, o = .returned v ∧ (QP (some (.int (rE2 cB q2 pP))) h0 n0) v U'.heap L ∧ FrameEnd U o U' L ({ frames := 0, cells := 0, slots := 0, locals := 0 } : Room).cells ({ frames := 0, cells := 0, slots := 0, locals := 0 } : Room).slots) := by
  refine MetFree.of_bodySF (plainFor_of_name pnE2) hisR ?_
  intro p e s m args below meth c s₁ Bd hml0 hP hK
  obtain ⟨rfl, hZ, hh⟩ := hP
  have hx := Bd.exec
  have hby := Bd.bytes
  have hml : c.maxLocals = 4 := hml0
  have hlk : meth.locks = false := BodyLoose.notSynchronized Bd
  have hown : s.vm.findClass "com/example/kubera/kubera/FlowNetwork" = some m.cls := findClass_of_methodNamed Bd.named
  have hnm := (name_of_methodNamed Bd.named Bd.method).1
  have w_73 := hw _ (List.mem_of_getElem? (i := 73) rfl)
  have w_121 := hw _ (List.mem_of_getElem? (i := 121) rfl)
  have hci : ∀ i v, (i, v) ∈ ([] : List (Nat × Int32)) → (Jvm.Cond.constant "com/example/kubera/kubera/FlowNetwork" i v).before #[(.ref x0), (.int 2), (.int 0), (.ref x3)] s = true := own_ci0
  have hcl : ∀ i v, (i, v) ∈ ([(87, 9223372036854775807), (119, 2305843009213693951)] : List (Nat × Int64)) → (Jvm.Cond.constantLong "com/example/kubera/kubera/FlowNetwork" i v).before #[(.ref x0), (.int 2), (.int 0), (.ref x3)] s = true := (own_ciS (mvT hZ w_73) (own_ciS (mvT hZ w_121) own_ci0))
  have X0 : Stand p l e ({ frames := 0, cells := 0, slots := 0, locals := 0 } : Room) s m #[(.ref x0), (.int 2), (.int 0), (.ref x3)] below meth c s₁ [] 0 0 := Stand.of_body Bd
  have e0 : s₁.heap = h0 := by rw [← hh, Bd.state]; rfl
  have N0 := Fr.nil n0
  show Goes p e below s (QP (some (.int (rE2 cB q2 pP))) h0 n0) ({ frames := 0, cells := 0, slots := 0, locals := 0 } : Room).cells ({ frames := 0, cells := 0, slots := 0, locals := 0 } : Room).slots (s₁.setTop (entryFrame m #[(.ref x0), (.int 2), (.int 0), (.ref x3)] 4))
  refine Goes.cast (efE2 m x0 x3) ?_
  have hLK := own_lk2_ok hw
  have CX := Cx.mk hx hZ hown hci hcl hLK hby
  refine Goes.hrun X0 e0 CX (own_c2 V_cp NB) (L := [.p 0 (.aload_n 0) 1, .f 1 18 7, .p 4 (.iload_n 1) 1, .J 5 0 2, .p 6 (.lconst 0) 1, .p 7 .lcmp 1]) (by decide +kernel) rfl (g' := (mkF m 8 #[rv x0, iv 2, iv 0, rv x3] [(.int (lcmpW q2 (0 : Int64)))])) rfl ⟨rr, ra (by decide), trivial⟩ ?_
  intro T2 X2 e2
  by_cases hc8_1 : (0 : Int64) < q2
  · skip
    refine Goes.st (B := T2.setTop (mkF m 11 #[rv x0, iv 2, iv 0, rv x3] [])) (fun t k => ?_) ?_
    · refine XS.ifNo X2.here hx rfl (hb hby d10_8) rfl (tltL hc8_1).2.2.2 ?_
      exact k
    refine Goes.hrun X2 e2 CX (own_c2 V_x3 NB) (L := [.p 11 (.aload_n 0) 1, .f 12 22 8, .p 15 (.iload_n 1) 1, .J 16 12 2, .p 17 (.aload_n 3) 1, .p 18 (.iload_n 2) 1, .J 19 0 0, .p 20 .ladd 1, .p 21 (.aload_n 3) 1, .p 22 (.aload_n 0) 1, .f 23 9 5, .p 26 (.iload_n 1) 1, .I 27 10 2, .J 28 0 1, .p 29 .lsub 1, .p 30 (.lconst 0) 1]) (by decide +kernel) rfl (g' := (mkF m 31 #[rv x0, iv 2, iv 0, rv x3] [(.long 0), (.long ((cB + (0 : Int64)) - pP))])) rfl ⟨rr, ra (by decide), ra (by decide), rr, ra (by decide), ra (by decide), trivial⟩ ?_
    intro T4 X4 e4
    refine Goes.run X4 hx hown hci hcl hby (L := [(31, .lcmp, 1)]) (by decide +kernel) rfl (g' := (mkF m 32 #[rv x0, iv 2, iv 0, rv x3] [(.int (lcmpW ((cB + (0 : Int64)) - pP) (0 : Int64)))])) rfl ?_
    by_cases hc32_3 : ((cB + (0 : Int64)) - pP) = (0 : Int64)
    · skip
      refine Goes.st (B := T4.setTop (mkF m 35 #[rv x0, iv 2, iv 0, rv x3] [])) (fun t k => ?_) ?_
      · refine XS.ifNo X4.here hx rfl (hb hby d10_32) rfl (teqL hc32_3).2 ?_
        exact k
      refine Goes.run X4 hx hown hci hcl hby (L := [(35, .iconst 1, 1), (36, .goto 4, 3)]) (by decide +kernel) rfl (g' := (mkF m 40 #[rv x0, iv 2, iv 0, rv x3] [(.int 1)])) rfl ?_
      exact Goes.retB X4 hx hlk (t := .boolean) Bd.returns (by simp) (hb hby d10_40) rfl ⟨(congrArg (fun z => some (Value.int z)) (show (rE2 cB q2 pP) = (1 : Int32) from ((if_pos hc8_1).trans (if_pos hc32_3))).symm), N0, e4⟩ (by decide) (by decide)
    · skip
      refine Goes.st (B := T4.setTop (mkF m 39 #[rv x0, iv 2, iv 0, rv x3] [])) (fun t k => ?_) ?_
      · refine XS.ifYes X4.here hx rfl (pc0 := 32) (pc' := 39) rfl (hb hby d10_32) rfl (feqL hc32_3).2 (by decide) (by decide) ?_
        exact k
      refine Goes.run X4 hx hown hci hcl hby (L := [(39, .iconst 0, 1)]) (by decide +kernel) rfl (g' := (mkF m 40 #[rv x0, iv 2, iv 0, rv x3] [(.int 0)])) rfl ?_
      exact Goes.retB X4 hx hlk (t := .boolean) Bd.returns (by simp) (hb hby d10_40) rfl ⟨(congrArg (fun z => some (Value.int z)) (show (rE2 cB q2 pP) = (0 : Int32) from ((if_pos hc8_1).trans (if_neg hc32_3))).symm), N0, e4⟩ (by decide) (by decide)
  · skip
    refine Goes.st (B := T2.setTop (mkF m 39 #[rv x0, iv 2, iv 0, rv x3] [])) (fun t k => ?_) ?_
    · refine XS.ifYes X2.here hx rfl (pc0 := 8) (pc' := 39) rfl (hb hby d10_8) rfl (fltL hc8_1).2.2.2 (by decide) (by decide) ?_
      exact k
    refine Goes.run X2 hx hown hci hcl hby (L := [(39, .iconst 0, 1)]) (by decide +kernel) rfl (g' := (mkF m 40 #[rv x0, iv 2, iv 0, rv x3] [(.int 0)])) rfl ?_
    exact Goes.retB X2 hx hlk (t := .boolean) Bd.returns (by simp) (hb hby d10_40) rfl ⟨(congrArg (fun z => some (Value.int z)) (show (rE2 cB q2 pP) = (0 : Int32) from (if_neg hc8_1)).symm), N0, e2⟩ (by decide) (by decide)
theorem pnE0 : plainName "com/example/kubera/kubera/FlowNetwork" = true := by first | (simp [plainName, overriddenIn]; done) | decide +kernel
theorem efE0 (m : MethodId) (x0 : Addr) (x3 : Addr) : entryFrame m #[(.ref x0), (.int 0), (.int 0), (.ref x3)] 4 = (mkF m 0 #[rv x0, iv 0, iv 0, rv x3] []) := by first | (simp [entryFrame, mkF, argsToLocals, Value.category]; done) | rfl
def rE0 (cA : Int64) (q0 : Int64) (pP : Int64) : Int32 := (if (0 : Int64) < q0 then (if ((cA + (0 : Int64)) - pP) = (0 : Int64) then (1 : Int32) else (0 : Int32)) else (0 : Int32))
set_option maxRecDepth 65536 in
set_option maxHeartbeats 40000000 in
theorem rmE0 (l : Launch) (Z : State) (a0 : Array Value) (hw : ∀ d ∈ tables_1, d.before a0 Z = true) (ws : List Jvm.Cond) (x0 : Addr) (x3 : Addr) (hd : Addr) (nx : Addr) (cp : Addr) (co : Addr) (fa : Addr) (lo : Addr) (khd : ClassId) (knx : ClassId) (kco : ClassId) (kfa : ClassId) (kcp : ClassId) (klo : ClassId) (cA : Int64) (nA : Int64) (cB : Int64) (nB : Int64) (la : Int64) (lb : Int64) (kx3 : ClassId) (q0 : Int64) (q1 : Int64) (q2 : Int64) (q3 : Int64) (q4 : Int64) (q5 : Int64) (q6 : Int64) (q7 : Int64) (pP : Int64) (h0 : Heap) (n0 : Nat) (Z0 : n0 ≤ h0.size) (NB : own_all Z h0 (NetL x0 hd nx cp co fa lo khd knx kco kfa klo cA nA cB nB la lb)) (V_cp : Arv Z h0 cp kcp .long (16 : Int32) [(.long q0), (.long q1), (.long q2), (.long q3), (.long q4), (.long q5), (.long q6), (.long q7)] (.long (0 : Int64))) (V_x3 : Arv Z h0 x3 kx3 .long (4 : Int32) [(.long 0), (.long pP), (.long 0), (.long pP)] (.long (0 : Int64))) :
    MetFree l ym9 (head1 (Jvm.Cond.code ym9 prog_7_method_10_code 4 (some .boolean) :: ws) ({ frames := 0, cells := 0, slots := 0, locals := 0 } : Room)) (fun a U => a = #[(.ref x0), (.int 0), (.int 0), (.ref x3)] ∧ Z.Warmed39 U.vm ∧ U.heap = h0) (fun _ _ _ _ _ => True) (fun _ U o U' => ∃ v L, o = .returned v ∧ (QP (some (.int (rE0 cA q0 pP))) h0 n0) v U'.heap L ∧ FrameEnd U o U' L ({ frames := 0, cells := 0, slots := 0, locals := 0 } : Room).cells ({ frames := 0, cells := 0, slots := 0, locals := 0 } : Room).slots) := by
  refine MetFree.of_bodySF (plainFor_of_name pnE0) hisR ?_
  intro p e s m args below meth c s₁ Bd hml0 hP hK
  obtain ⟨rfl, hZ, hh⟩ := hP
  have hx := Bd.exec
  have hby := Bd.bytes
  have hml : c.maxLocals = 4 := hml0
  have hlk : meth.locks = false := BodyLoose.notSynchronized Bd
  have hown : s.vm.findClass "com/example/kubera/kubera/FlowNetwork" = some m.cls := findClass_of_methodNamed Bd.named
  have hnm := (name_of_methodNamed Bd.named Bd.method).1
  have w_73 := hw _ (List.mem_of_getElem? (i := 73) rfl)
  have w_121 := hw _ (List.mem_of_getElem? (i := 121) rfl)
  have hci : ∀ i v, (i, v) ∈ ([] : List (Nat × Int32)) → (Jvm.Cond.constant "com/example/kubera/kubera/FlowNetwork" i v).before #[(.ref x0), (.int 0), (.int 0), (.ref x3)] s = true := own_ci0
  have hcl : ∀ i v, (i, v) ∈ ([(87, 9223372036854775807), (119, 2305843009213693951)] : List (Nat × Int64)) → (Jvm.Cond.constantLong "com/example/kubera/kubera/FlowNetwork" i v).before #[(.ref x0), (.int 0), (.int 0), (.ref x3)] s = true := (own_ciS (mvT hZ w_73) (own_ciS (mvT hZ w_121) own_ci0))
  have X0 : Stand p l e ({ frames := 0, cells := 0, slots := 0, locals := 0 } : Room) s m #[(.ref x0), (.int 0), (.int 0), (.ref x3)] below meth c s₁ [] 0 0 := Stand.of_body Bd
  have e0 : s₁.heap = h0 := by rw [← hh, Bd.state]; rfl
  have N0 := Fr.nil n0
  show Goes p e below s (QP (some (.int (rE0 cA q0 pP))) h0 n0) ({ frames := 0, cells := 0, slots := 0, locals := 0 } : Room).cells ({ frames := 0, cells := 0, slots := 0, locals := 0 } : Room).slots (s₁.setTop (entryFrame m #[(.ref x0), (.int 0), (.int 0), (.ref x3)] 4))
  refine Goes.cast (efE0 m x0 x3) ?_
  have hLK := own_lk2_ok hw
  have CX := Cx.mk hx hZ hown hci hcl hLK hby
  refine Goes.hrun X0 e0 CX (own_c2 V_cp NB) (L := [.p 0 (.aload_n 0) 1, .f 1 18 7, .p 4 (.iload_n 1) 1, .J 5 0 0, .p 6 (.lconst 0) 1, .p 7 .lcmp 1]) (by decide +kernel) rfl (g' := (mkF m 8 #[rv x0, iv 0, iv 0, rv x3] [(.int (lcmpW q0 (0 : Int64)))])) rfl ⟨rr, ra (by decide), trivial⟩ ?_
  intro T2 X2 e2
  by_cases hc8_1 : (0 : Int64) < q0
  · skip
    refine Goes.st (B := T2.setTop (mkF m 11 #[rv x0, iv 0, iv 0, rv x3] [])) (fun t k => ?_) ?_
    · refine XS.ifNo X2.here hx rfl (hb hby d10_8) rfl (tltL hc8_1).2.2.2 ?_
      exact k
    refine Goes.hrun X2 e2 CX (own_c2 V_x3 NB) (L := [.p 11 (.aload_n 0) 1, .f 12 22 8, .p 15 (.iload_n 1) 1, .J 16 12 0, .p 17 (.aload_n 3) 1, .p 18 (.iload_n 2) 1, .J 19 0 0, .p 20 .ladd 1, .p 21 (.aload_n 3) 1, .p 22 (.aload_n 0) 1, .f 23 9 5, .p 26 (.iload_n 1) 1, .I 27 10 0, .J 28 0 1, .p 29 .lsub 1, .p 30 (.lconst 0) 1]) (by decide +kernel) rfl (g' := (mkF m 31 #[rv x0, iv 0, iv 0, rv x3] [(.long 0), (.long ((cA + (0 : Int64)) - pP))])) rfl ⟨rr, ra (by decide), ra (by decide), rr, ra (by decide), ra (by decide), trivial⟩ ?_
    intro T4 X4 e4
    refine Goes.run X4 hx hown hci hcl hby (L := [(31, .lcmp, 1)]) (by decide +kernel) rfl (g' := (mkF m 32 #[rv x0, iv 0, iv 0, rv x3] [(.int (lcmpW ((cA + (0 : Int64)) - pP) (0 : Int64)))])) rfl ?_
    by_cases hc32_3 : ((cA + (0 : Int64)) - pP) = (0 : Int64)
    · skip
      refine Goes.st (B := T4.setTop (mkF m 35 #[rv x0, iv 0, iv 0, rv x3] [])) (fun t k => ?_) ?_
      · refine XS.ifNo X4.here hx rfl (hb hby d10_32) rfl (teqL hc32_3).2 ?_
        exact k
      refine Goes.run X4 hx hown hci hcl hby (L := [(35, .iconst 1, 1), (36, .goto 4, 3)]) (by decide +kernel) rfl (g' := (mkF m 40 #[rv x0, iv 0, iv 0, rv x3] [(.int 1)])) rfl ?_
      exact Goes.retB X4 hx hlk (t := .boolean) Bd.returns (by simp) (hb hby d10_40) rfl ⟨(congrArg (fun z => some (Value.int z)) (show (rE0 cA q0 pP) = (1 : Int32) from ((if_pos hc8_1).trans (if_pos hc32_3))).symm), N0, e4⟩ (by decide) (by decide)
    · skip
      refine Goes.st (B := T4.setTop (mkF m 39 #[rv x0, iv 0, iv 0, rv x3] [])) (fun t k => ?_) ?_
      · refine XS.ifYes X4.here hx rfl (pc0 := 32) (pc' := 39) rfl (hb hby d10_32) rfl (feqL hc32_3).2 (by decide) (by decide) ?_
        exact k
      refine Goes.run X4 hx hown hci hcl hby (L := [(39, .iconst 0, 1)]) (by decide +kernel) rfl (g' := (mkF m 40 #[rv x0, iv 0, iv 0, rv x3] [(.int 0)])) rfl ?_
      exact Goes.retB X4 hx hlk (t := .boolean) Bd.returns (by simp) (hb hby d10_40) rfl ⟨(congrArg (fun z => some (Value.int z)) (show (rE0 cA q0 pP) = (0 : Int32) from ((if_pos hc8_1).trans (if_neg hc32_3))).symm), N0, e4⟩ (by decide) (by decide)
  · skip
    refine Goes.st (B := T2.setTop (mkF m 39 #[rv x0, iv 0, iv 0, rv x3] [])) (fun t k => ?_) ?_
    · refine XS.ifYes X2.here hx rfl (pc0 := 8) (pc' := 39) rfl (hb hby d10_8) rfl (fltL hc8_1).2.2.2 (by decide) (by decide) ?_
      exact k
    refine Goes.run X2 hx hown hci hcl hby (L := [(39, .iconst 0, 1)]) (by decide +kernel) rfl (g' := (mkF m 40 #[rv x0, iv 0, iv 0, rv x3] [(.int 0)])) rfl ?_
    exact Goes.retB X2 hx hlk (t := .boolean) Bd.returns (by simp) (hb hby d10_40) rfl ⟨(congrArg (fun z => some (Value.int z)) (show (rE0 cA q0 pP) = (0 : Int32) from (if_neg hc8_1)).symm), N0, e2⟩ (by decide) (by decide)
theorem pnE6 : plainName "com/example/kubera/kubera/FlowNetwork" = true := by first | (simp [plainName, overriddenIn]; done) | decide +kernel
theorem efE6 (m : MethodId) (x0 : Addr) (x3 : Addr) : entryFrame m #[(.ref x0), (.int 6), (.int 1), (.ref x3)] 4 = (mkF m 0 #[rv x0, iv 6, iv 1, rv x3] []) := by first | (simp [entryFrame, mkF, argsToLocals, Value.category]; done) | rfl
def rE6 (q6 : Int64) (pP : Int64) : Int32 := (if (0 : Int64) < q6 then (if (((0 : Int64) + pP) - pP) = (0 : Int64) then (1 : Int32) else (0 : Int32)) else (0 : Int32))
set_option maxRecDepth 65536 in
set_option maxHeartbeats 40000000 in
theorem rmE6 (l : Launch) (Z : State) (a0 : Array Value) (hw : ∀ d ∈ tables_1, d.before a0 Z = true) (ws : List Jvm.Cond) (x0 : Addr) (x3 : Addr) (hd : Addr) (nx : Addr) (cp : Addr) (co : Addr) (fa : Addr) (lo : Addr) (khd : ClassId) (knx : ClassId) (kco : ClassId) (kfa : ClassId) (kcp : ClassId) (klo : ClassId) (cA : Int64) (nA : Int64) (cB : Int64) (nB : Int64) (la : Int64) (lb : Int64) (kx3 : ClassId) (q0 : Int64) (q1 : Int64) (q2 : Int64) (q3 : Int64) (q4 : Int64) (q5 : Int64) (q6 : Int64) (q7 : Int64) (pP : Int64) (h0 : Heap) (n0 : Nat) (Z0 : n0 ≤ h0.size) (NB : own_all Z h0 (NetL x0 hd nx cp co fa lo khd knx kco kfa klo cA nA cB nB la lb)) (V_cp : Arv Z h0 cp kcp .long (16 : Int32) [(.long q0), (.long q1), (.long q2), (.long q3), (.long q4), (.long q5), (.long q6), (.long q7)] (.long (0 : Int64))) (V_x3 : Arv Z h0 x3 kx3 .long (4 : Int32) [(.long 0), (.long pP), (.long 0), (.long pP)] (.long (0 : Int64))) :
    MetFree l ym9 (head1 (Jvm.Cond.code ym9 prog_7_method_10_code 4 (some .boolean) :: ws) ({ frames := 0, cells := 0, slots := 0, locals := 0 } : Room)) (fun a U => a = #[(.ref x0), (.int 6), (.int 1), (.ref x3)] ∧ Z.Warmed39 U.vm ∧ U.heap = h0) (fun _ _ _ _ _ => True) (fun _ U o U' => ∃ v L, o = .returned v ∧ (QP (some (.int (rE6 q6 pP))) h0 n0) v U'.heap L ∧ FrameEnd U o U' L ({ frames := 0, cells := 0, slots := 0, locals := 0 } : Room).cells ({ frames := 0, cells := 0, slots := 0, locals := 0 } : Room).slots) := by
  refine MetFree.of_bodySF (plainFor_of_name pnE6) hisR ?_
  intro p e s m args below meth c s₁ Bd hml0 hP hK
  obtain ⟨rfl, hZ, hh⟩ := hP
  have hx := Bd.exec
  have hby := Bd.bytes
  have hml : c.maxLocals = 4 := hml0
  have hlk : meth.locks = false := BodyLoose.notSynchronized Bd
  have hown : s.vm.findClass "com/example/kubera/kubera/FlowNetwork" = some m.cls := findClass_of_methodNamed Bd.named
  have hnm := (name_of_methodNamed Bd.named Bd.method).1
  have w_73 := hw _ (List.mem_of_getElem? (i := 73) rfl)
  have w_121 := hw _ (List.mem_of_getElem? (i := 121) rfl)
  have hci : ∀ i v, (i, v) ∈ ([] : List (Nat × Int32)) → (Jvm.Cond.constant "com/example/kubera/kubera/FlowNetwork" i v).before #[(.ref x0), (.int 6), (.int 1), (.ref x3)] s = true := own_ci0
  have hcl : ∀ i v, (i, v) ∈ ([(87, 9223372036854775807), (119, 2305843009213693951)] : List (Nat × Int64)) → (Jvm.Cond.constantLong "com/example/kubera/kubera/FlowNetwork" i v).before #[(.ref x0), (.int 6), (.int 1), (.ref x3)] s = true := (own_ciS (mvT hZ w_73) (own_ciS (mvT hZ w_121) own_ci0))
  have X0 : Stand p l e ({ frames := 0, cells := 0, slots := 0, locals := 0 } : Room) s m #[(.ref x0), (.int 6), (.int 1), (.ref x3)] below meth c s₁ [] 0 0 := Stand.of_body Bd
  have e0 : s₁.heap = h0 := by rw [← hh, Bd.state]; rfl
  have N0 := Fr.nil n0
  show Goes p e below s (QP (some (.int (rE6 q6 pP))) h0 n0) ({ frames := 0, cells := 0, slots := 0, locals := 0 } : Room).cells ({ frames := 0, cells := 0, slots := 0, locals := 0 } : Room).slots (s₁.setTop (entryFrame m #[(.ref x0), (.int 6), (.int 1), (.ref x3)] 4))
  refine Goes.cast (efE6 m x0 x3) ?_
  have hLK := own_lk2_ok hw
  have CX := Cx.mk hx hZ hown hci hcl hLK hby
  refine Goes.hrun X0 e0 CX (own_c2 V_cp NB) (L := [.p 0 (.aload_n 0) 1, .f 1 18 7, .p 4 (.iload_n 1) 1, .J 5 0 6, .p 6 (.lconst 0) 1, .p 7 .lcmp 1]) (by decide +kernel) rfl (g' := (mkF m 8 #[rv x0, iv 6, iv 1, rv x3] [(.int (lcmpW q6 (0 : Int64)))])) rfl ⟨rr, ra (by decide), trivial⟩ ?_
  intro T2 X2 e2
  by_cases hc8_1 : (0 : Int64) < q6
  · skip
    refine Goes.st (B := T2.setTop (mkF m 11 #[rv x0, iv 6, iv 1, rv x3] [])) (fun t k => ?_) ?_
    · refine XS.ifNo X2.here hx rfl (hb hby d10_8) rfl (tltL hc8_1).2.2.2 ?_
      exact k
    refine Goes.hrun X2 e2 CX (own_c2 V_x3 NB) (L := [.p 11 (.aload_n 0) 1, .f 12 22 8, .p 15 (.iload_n 1) 1, .J 16 12 6, .p 17 (.aload_n 3) 1, .p 18 (.iload_n 2) 1, .J 19 0 1, .p 20 .ladd 1, .p 21 (.aload_n 3) 1, .p 22 (.aload_n 0) 1, .f 23 9 5, .p 26 (.iload_n 1) 1, .I 27 10 6, .J 28 0 3, .p 29 .lsub 1, .p 30 (.lconst 0) 1]) (by decide +kernel) rfl (g' := (mkF m 31 #[rv x0, iv 6, iv 1, rv x3] [(.long 0), (.long (((0 : Int64) + pP) - pP))])) rfl ⟨rr, ra (by decide), ra (by decide), rr, ra (by decide), ra (by decide), trivial⟩ ?_
    intro T4 X4 e4
    refine Goes.run X4 hx hown hci hcl hby (L := [(31, .lcmp, 1)]) (by decide +kernel) rfl (g' := (mkF m 32 #[rv x0, iv 6, iv 1, rv x3] [(.int (lcmpW (((0 : Int64) + pP) - pP) (0 : Int64)))])) rfl ?_
    by_cases hc32_3 : (((0 : Int64) + pP) - pP) = (0 : Int64)
    · skip
      refine Goes.st (B := T4.setTop (mkF m 35 #[rv x0, iv 6, iv 1, rv x3] [])) (fun t k => ?_) ?_
      · refine XS.ifNo X4.here hx rfl (hb hby d10_32) rfl (teqL hc32_3).2 ?_
        exact k
      refine Goes.run X4 hx hown hci hcl hby (L := [(35, .iconst 1, 1), (36, .goto 4, 3)]) (by decide +kernel) rfl (g' := (mkF m 40 #[rv x0, iv 6, iv 1, rv x3] [(.int 1)])) rfl ?_
      exact Goes.retB X4 hx hlk (t := .boolean) Bd.returns (by simp) (hb hby d10_40) rfl ⟨(congrArg (fun z => some (Value.int z)) (show (rE6 q6 pP) = (1 : Int32) from ((if_pos hc8_1).trans (if_pos hc32_3))).symm), N0, e4⟩ (by decide) (by decide)
    · skip
      refine Goes.st (B := T4.setTop (mkF m 39 #[rv x0, iv 6, iv 1, rv x3] [])) (fun t k => ?_) ?_
      · refine XS.ifYes X4.here hx rfl (pc0 := 32) (pc' := 39) rfl (hb hby d10_32) rfl (feqL hc32_3).2 (by decide) (by decide) ?_
        exact k
      refine Goes.run X4 hx hown hci hcl hby (L := [(39, .iconst 0, 1)]) (by decide +kernel) rfl (g' := (mkF m 40 #[rv x0, iv 6, iv 1, rv x3] [(.int 0)])) rfl ?_
      exact Goes.retB X4 hx hlk (t := .boolean) Bd.returns (by simp) (hb hby d10_40) rfl ⟨(congrArg (fun z => some (Value.int z)) (show (rE6 q6 pP) = (0 : Int32) from ((if_pos hc8_1).trans (if_neg hc32_3))).symm), N0, e4⟩ (by decide) (by decide)
  · skip
    refine Goes.st (B := T2.setTop (mkF m 39 #[rv x0, iv 6, iv 1, rv x3] [])) (fun t k => ?_) ?_
    · refine XS.ifYes X2.here hx rfl (pc0 := 8) (pc' := 39) rfl (hb hby d10_8) rfl (fltL hc8_1).2.2.2 (by decide) (by decide) ?_
      exact k
    refine Goes.run X2 hx hown hci hcl hby (L := [(39, .iconst 0, 1)]) (by decide +kernel) rfl (g' := (mkF m 40 #[rv x0, iv 6, iv 1, rv x3] [(.int 0)])) rfl ?_
    exact Goes.retB X2 hx hlk (t := .boolean) Bd.returns (by simp) (hb hby d10_40) rfl ⟨(congrArg (fun z => some (Value.int z)) (show (rE6 q6 pP) = (0 : Int32) from (if_neg hc8_1)).symm), N0, e2⟩ (by decide) (by decide)
theorem own_cp8 {Z : State} {h : Heap} {cp : Addr} {kcp : ClassId} {a0 a1 a2 a3 a4 a5 a6 a7 r0 r1 r2 r3 r4 r5 r6 r7 : Int64} (V : Arv Z h cp kcp .long 16 [.long a0, .long a1, .long a2, .long a3, .long a4, .long a5, .long a6, .long a7] (.long 0)) (e0 : a0 = r0) (e1 : a1 = r1) (e2 : a2 = r2) (e3 : a3 = r3) (e4 : a4 = r4) (e5 : a5 = r5) (e6 : a6 = r6) (e7 : a7 = r7) : Arv Z h cp kcp .long 16 [.long r0, .long r1, .long r2, .long r3, .long r4, .long r5, .long r6, .long r7] (.long 0) := by
  subst e0 e1 e2 e3 e4 e5 e6 e7
  exact V
theorem own_pos {q : Int64} (h : ¬ rE4 q = 0) : (0 : Int64) < q := by
  by_cases k : (0 : Int64) < q
  · exact k
  · exact absurd (own_f1 k) h
theorem d11_2 : decode prog_7_method_9_code 2 = .ok (.invokestatic 44, 3) := by decide +kernel
theorem d11_9 : decode prog_7_method_9_code 9 = .ok (.newarray .int, 2) := by decide +kernel
theorem d11_22 : decode prog_7_method_9_code 22 = .ok (.iastore, 1) := by decide +kernel
theorem d11_34 : decode prog_7_method_9_code 34 = .ok (.iastore, 1) := by decide +kernel
theorem d11_97 : decode prog_7_method_9_code 97 = .ok (.invokevirtual 109, 3) := by decide +kernel
theorem d11_112 : decode prog_7_method_9_code 112 = .ok (.iastore, 1) := by decide +kernel
theorem d11_122 : decode prog_7_method_9_code 122 = .ok (.iastore, 1) := by decide +kernel
theorem d11_163 : decode prog_7_method_9_code 163 = .ok (.invokestatic 113, 3) := by decide +kernel
theorem d11_172 : decode prog_7_method_9_code 172 = .ok (.newarray .int, 2) := by decide +kernel
theorem d11_224 : decode prog_7_method_9_code 224 = .ok (.invokestatic 121, 3) := by decide +kernel
theorem d11_254 : decode prog_7_method_9_code 254 = .ok (.dup2, 1) := by decide +kernel
theorem d11_259 : decode prog_7_method_9_code 259 = .ok (.lastore, 1) := by decide +kernel
theorem d11_271 : decode prog_7_method_9_code 271 = .ok (.dup2, 1) := by decide +kernel
theorem d11_276 : decode prog_7_method_9_code 276 = .ok (.lastore, 1) := by decide +kernel
theorem d11_305 : decode prog_7_method_9_code 305 = .ok (.ifCond .le 9, 3) := by decide +kernel
theorem d11_382 : decode prog_7_method_9_code 382 = .ok (.invokevirtual 109, 3) := by decide +kernel
theorem d11_405 : decode prog_7_method_9_code 405 = .ok (.iastore, 1) := by decide +kernel
theorem d11_420 : decode prog_7_method_9_code 420 = .ok (.iastore, 1) := by decide +kernel
theorem d11_444 : decode prog_7_method_9_code 444 = .ok (.lreturn, 1) := by decide +kernel
theorem d11_449 : decode prog_7_method_9_code 449 = .ok (.iastore, 1) := by decide +kernel
theorem d11_491 : decode prog_7_method_9_code 491 = .ok (.iastore, 1) := by decide +kernel
theorem pnF : plainName "com/example/kubera/kubera/FlowNetwork" = true := by first | (simp [plainName, overriddenIn]; done) | decide +kernel
theorem pdF_0 : parseMethodDescriptor "([II)V" = some ⟨[(.array .int), .int], none⟩ := by decide +kernel
theorem pdF_1 : parseMethodDescriptor "(II[J)Z" = some ⟨[.int, .int, (.array .long)], some .boolean⟩ := by decide +kernel
theorem pdF_2 : parseMethodDescriptor "(JJ)J" = some ⟨[.long, .long], some .long⟩ := by decide +kernel
theorem efF (m : MethodId) (x0 : Addr) (x1 : Addr) (x2 : Addr) (x3 : Addr) : entryFrame m #[(.ref x0), (.ref x1), (.ref x2), (.ref x3)] 14 = (mkF m 0 #[rv x0, rv x1, rv x2, rv x3, .unset, .unset, .unset, .unset, .unset, .unset, .unset, .unset, .unset, .unset] []) := by first | (simp [entryFrame, mkF, argsToLocals, Value.category]; done) | rfl
def wF_227 (q0 : Int64) (q1 : Int64) (q2 : Int64) (q3 : Int64) (q4 : Int64) (q5 : Int64) (q7 : Int64) : Int64 := (r3 (2305843009213693951 : Int64) q4)
def wF_227_a (q0 : Int64) (q1 : Int64) (q2 : Int64) (q3 : Int64) (q4 : Int64) (q5 : Int64) (q7 : Int64) : Int64 := (r3 (wF_227 q0 q1 q2 q3 q4 q5 q7) q0)
def wF_227_b (q0 : Int64) (q1 : Int64) (q2 : Int64) (q3 : Int64) (q4 : Int64) (q5 : Int64) (q7 : Int64) : Int64 := (r3 (wF_227_a q0 q1 q2 q3 q4 q5 q7) q4)
def sF_259 (q0 : Int64) (q1 : Int64) (q2 : Int64) (q3 : Int64) (q4 : Int64) (q5 : Int64) (q7 : Int64) : Int64 := (q4 - (wF_227_b q0 q1 q2 q3 q4 q5 q7))
def sF_276 (q0 : Int64) (q1 : Int64) (q2 : Int64) (q3 : Int64) (q4 : Int64) (q5 : Int64) (q7 : Int64) : Int64 := (q5 + (wF_227_b q0 q1 q2 q3 q4 q5 q7))
def sF_259_a (q0 : Int64) (q1 : Int64) (q2 : Int64) (q3 : Int64) (q4 : Int64) (q5 : Int64) (q7 : Int64) : Int64 := (q0 - (wF_227_b q0 q1 q2 q3 q4 q5 q7))
def sF_276_a (q0 : Int64) (q1 : Int64) (q2 : Int64) (q3 : Int64) (q4 : Int64) (q5 : Int64) (q7 : Int64) : Int64 := (q1 + (wF_227_b q0 q1 q2 q3 q4 q5 q7))
def sF_276_b (q0 : Int64) (q1 : Int64) (q2 : Int64) (q3 : Int64) (q4 : Int64) (q5 : Int64) (q7 : Int64) : Int64 := (q7 + (wF_227_b q0 q1 q2 q3 q4 q5 q7))
def wF_288 (q0 : Int64) (q1 : Int64) (q2 : Int64) (q3 : Int64) (q4 : Int64) (q5 : Int64) (q7 : Int64) : Int64 := ((0 : Int64) + (wF_227_b q0 q1 q2 q3 q4 q5 q7))
def wF_227_c (q0 : Int64) (q1 : Int64) (q2 : Int64) (q3 : Int64) (q4 : Int64) (q5 : Int64) (q7 : Int64) : Int64 := (r3 (wF_227 q0 q1 q2 q3 q4 q5 q7) q2)
def wF_227_d (q0 : Int64) (q1 : Int64) (q2 : Int64) (q3 : Int64) (q4 : Int64) (q5 : Int64) (q7 : Int64) : Int64 := (r3 (wF_227_c q0 q1 q2 q3 q4 q5 q7) q4)
def sF_259_b (q0 : Int64) (q1 : Int64) (q2 : Int64) (q3 : Int64) (q4 : Int64) (q5 : Int64) (q7 : Int64) : Int64 := (q4 - (wF_227_d q0 q1 q2 q3 q4 q5 q7))
def sF_276_c (q0 : Int64) (q1 : Int64) (q2 : Int64) (q3 : Int64) (q4 : Int64) (q5 : Int64) (q7 : Int64) : Int64 := (q5 + (wF_227_d q0 q1 q2 q3 q4 q5 q7))
def sF_259_c (q0 : Int64) (q1 : Int64) (q2 : Int64) (q3 : Int64) (q4 : Int64) (q5 : Int64) (q7 : Int64) : Int64 := (q2 - (wF_227_d q0 q1 q2 q3 q4 q5 q7))
def sF_276_d (q0 : Int64) (q1 : Int64) (q2 : Int64) (q3 : Int64) (q4 : Int64) (q5 : Int64) (q7 : Int64) : Int64 := (q3 + (wF_227_d q0 q1 q2 q3 q4 q5 q7))
def sF_276_e (q0 : Int64) (q1 : Int64) (q2 : Int64) (q3 : Int64) (q4 : Int64) (q5 : Int64) (q7 : Int64) : Int64 := (q7 + (wF_227_d q0 q1 q2 q3 q4 q5 q7))
def wF_288_a (q0 : Int64) (q1 : Int64) (q2 : Int64) (q3 : Int64) (q4 : Int64) (q5 : Int64) (q7 : Int64) : Int64 := ((0 : Int64) + (wF_227_d q0 q1 q2 q3 q4 q5 q7))
def QF (Z : State) (x2 x3 cp : Addr) (kx2 kx3 kcp : ClassId) (u0 u1 u2 u3 u4 u5 u7 uw : Int64) (h0 : Heap) (n0 : Nat) (v : Option Value) (h : Heap) (L : List Loc) : Prop := ∃ (l0 l1 l2 l3 c0 c1 c2 c3 : Int32), v = some (.long uw) ∧ Fr n0 L ∧ Keep h0 h [x2, x3, cp] ∧ Arv Z h x2 kx2 .int (4 : Int32) [(.int l0), (.int l1), (.int l2), (.int l3)] (.int (0 : Int32)) ∧ Arv Z h x3 kx3 .int (4 : Int32) [(.int c0), (.int c1), (.int c2), (.int c3)] (.int (0 : Int32)) ∧ Arv Z h cp kcp .long (16 : Int32) [(.long u0), (.long u1), (.long u2), (.long u3), (.long u4), (.long u5), (.long u4), (.long u7)] (.long (0 : Int64))
set_option maxRecDepth 65536 in
set_option maxHeartbeats 40000000 in
theorem rmF (l : Launch) (Z : State) (a0 : Array Value) (hw : ∀ d ∈ tables_1, d.before a0 Z = true) (ws : List Jvm.Cond) (x0 : Addr) (x1 : Addr) (x2 : Addr) (x3 : Addr) (hd : Addr) (nx : Addr) (cp : Addr) (co : Addr) (fa : Addr) (lo : Addr) (khd : ClassId) (knx : ClassId) (kco : ClassId) (kfa : ClassId) (kcp : ClassId) (klo : ClassId) (cA : Int64) (nA : Int64) (cB : Int64) (nB : Int64) (la : Int64) (lb : Int64) (kx1 : ClassId) (kx2 : ClassId) (kx3 : ClassId) (q0 : Int64) (q1 : Int64) (q2 : Int64) (q3 : Int64) (q4 : Int64) (q5 : Int64) (q7 : Int64) (pP : Int64) (ya : Int32) (yb : Int32) (yc : Int32) (yd : Int32) (za : Int32) (zb : Int32) (zc : Int32) (zd : Int32) (u0 : Int64) (u1 : Int64) (u2 : Int64) (u3 : Int64) (u4 : Int64) (u5 : Int64) (u7 : Int64) (uw : Int64) (h0 : Heap) (n0 : Nat) (Z0 : n0 ≤ h0.size) (NB : own_all Z h0 (NetL x0 hd nx cp co fa lo khd knx kco kfa klo cA nA cB nB la lb)) (E_x0 : Exa Z h0 x0 "com/example/kubera/kubera/FlowNetwork") (V_cp : Arv Z h0 cp kcp .long (16 : Int32) [(.long q0), (.long q1), (.long q2), (.long q3), (.long q4), (.long q5), (.long q4), (.long q7)] (.long (0 : Int64))) (V_x1 : Arv Z h0 x1 kx1 .long (4 : Int32) [(.long 0), (.long pP), (.long 0), (.long pP)] (.long (0 : Int64))) (V_x2 : Arv Z h0 x2 kx2 .int (4 : Int32) [(.int ya), (.int yb), (.int yc), (.int yd)] (.int (0 : Int32))) (V_x3 : Arv Z h0 x3 kx3 .int (4 : Int32) [(.int za), (.int zb), (.int zc), (.int zd)] (.int (0 : Int32))) (g_x2 : n0 ≤ x2) (g_x3 : n0 ≤ x3) (g_cp : n0 ≤ cp) (d_x2 : Dis (NetL x0 hd nx cp co fa lo khd knx kco kfa klo cA nA cB nB la lb) x2) (d_x3 : Dis (NetL x0 hd nx cp co fa lo khd knx kco kfa klo cA nA cB nB la lb) x3) (d_cp : Dis (NetL x0 hd nx cp co fa lo khd knx kco kfa klo cA nA cB nB la lb) cp) (ne_x2_x1 : x2 ≠ x1) (ne_x2_x3 : x2 ≠ x3) (ne_x2_cp : x2 ≠ cp) (ne_x3_x1 : x3 ≠ x1) (ne_x3_cp : x3 ≠ cp) (ne_cp_x1 : cp ≠ x1) (pz4 : (0 : Int64) < q4) (hV : ((0 : Int64) < q0 ∧ (cA + (0 : Int64)) - pP = 0 ∧ ¬ ((cB + (0 : Int64)) - pP = 0) ∧ ((0 : Int64) < q4 - (r3 (r3 (r3 (2305843009213693951 : Int64) q4) q0) q4) → ¬ (0 : Int64) < q0 - (r3 (r3 (r3 (2305843009213693951 : Int64) q4) q0) q4)) ∧ q0 - (r3 (r3 (r3 (2305843009213693951 : Int64) q4) q0) q4) = u0 ∧ q1 + (r3 (r3 (r3 (2305843009213693951 : Int64) q4) q0) q4) = u1 ∧ q2 = u2 ∧ q3 = u3 ∧ q4 - (r3 (r3 (r3 (2305843009213693951 : Int64) q4) q0) q4) = u4 ∧ q5 + (r3 (r3 (r3 (2305843009213693951 : Int64) q4) q0) q4) = u5 ∧ q7 + (r3 (r3 (r3 (2305843009213693951 : Int64) q4) q0) q4) = u7 ∧ (0 : Int64) + (r3 (r3 (r3 (2305843009213693951 : Int64) q4) q0) q4) = uw) ∨ ((0 : Int64) < q2 ∧ (cB + (0 : Int64)) - pP = 0 ∧ ¬ ((cA + (0 : Int64)) - pP = 0) ∧ ((0 : Int64) < q4 - (r3 (r3 (r3 (2305843009213693951 : Int64) q4) q2) q4) → ¬ (0 : Int64) < q2 - (r3 (r3 (r3 (2305843009213693951 : Int64) q4) q2) q4)) ∧ q0 = u0 ∧ q1 = u1 ∧ q2 - (r3 (r3 (r3 (2305843009213693951 : Int64) q4) q2) q4) = u2 ∧ q3 + (r3 (r3 (r3 (2305843009213693951 : Int64) q4) q2) q4) = u3 ∧ q4 - (r3 (r3 (r3 (2305843009213693951 : Int64) q4) q2) q4) = u4 ∧ q5 + (r3 (r3 (r3 (2305843009213693951 : Int64) q4) q2) q4) = u5 ∧ q7 + (r3 (r3 (r3 (2305843009213693951 : Int64) q4) q2) q4) = u7 ∧ (0 : Int64) + (r3 (r3 (r3 (2305843009213693951 : Int64) q4) q2) q4) = uw)) :
    MetFree l ym10 (head1 (Jvm.Cond.code ym10 prog_7_method_9_code 14 (some .long) :: ws) ({ frames := 1, cells := 2, slots := 7, locals := 18 } : Room)) (fun a U => a = #[(.ref x0), (.ref x1), (.ref x2), (.ref x3)] ∧ Z.Warmed39 U.vm ∧ U.heap = h0) (fun _ _ _ _ _ => True) (fun _ U o U' => ∃ v L, o = .returned v ∧ (QF Z x2 x3 cp kx2 kx3 kcp u0 u1 u2 u3 u4 u5 u7 uw h0 n0) v U'.heap L ∧ FrameEnd U o U' L ({ frames := 1, cells := 2, slots := 7, locals := 18 } : Room).cells ({ frames := 1, cells := 2, slots := 7, locals := 18 } : Room).slots) := by
  refine MetFree.of_bodySF (plainFor_of_name pnF) hisR ?_
  intro p e s m args below meth c s₁ Bd hml0 hP hK
  obtain ⟨rfl, hZ, hh⟩ := hP
  have hx := Bd.exec
  have hby := Bd.bytes
  have hml : c.maxLocals = 14 := hml0
  have hlk : meth.locks = false := BodyLoose.notSynchronized Bd
  have hown : s.vm.findClass "com/example/kubera/kubera/FlowNetwork" = some m.cls := findClass_of_methodNamed Bd.named
  have hnm := (name_of_methodNamed Bd.named Bd.method).1
  have w_4 := hw _ (List.mem_of_getElem? (i := 4) rfl)
  have w_5 := hw _ (List.mem_of_getElem? (i := 5) rfl)
  have w_12 := hw _ (List.mem_of_getElem? (i := 12) rfl)
  have w_34 := hw _ (List.mem_of_getElem? (i := 34) rfl)
  have w_35 := hw _ (List.mem_of_getElem? (i := 35) rfl)
  have w_36 := hw _ (List.mem_of_getElem? (i := 36) rfl)
  have w_37 := hw _ (List.mem_of_getElem? (i := 37) rfl)
  have w_65 := hw _ (List.mem_of_getElem? (i := 65) rfl)
  have w_66 := hw _ (List.mem_of_getElem? (i := 66) rfl)
  have w_67 := hw _ (List.mem_of_getElem? (i := 67) rfl)
  have w_73 := hw _ (List.mem_of_getElem? (i := 73) rfl)
  have w_113 := hw _ (List.mem_of_getElem? (i := 113) rfl)
  have w_114 := hw _ (List.mem_of_getElem? (i := 114) rfl)
  have w_115 := hw _ (List.mem_of_getElem? (i := 115) rfl)
  have w_116 := hw _ (List.mem_of_getElem? (i := 116) rfl)
  have w_117 := hw _ (List.mem_of_getElem? (i := 117) rfl)
  have w_118 := hw _ (List.mem_of_getElem? (i := 118) rfl)
  have w_119 := hw _ (List.mem_of_getElem? (i := 119) rfl)
  have w_120 := hw _ (List.mem_of_getElem? (i := 120) rfl)
  have w_121 := hw _ (List.mem_of_getElem? (i := 121) rfl)
  have w_122 := hw _ (List.mem_of_getElem? (i := 122) rfl)
  have hci : ∀ i v, (i, v) ∈ ([] : List (Nat × Int32)) → (Jvm.Cond.constant "com/example/kubera/kubera/FlowNetwork" i v).before #[(.ref x0), (.ref x1), (.ref x2), (.ref x3)] s = true := own_ci0
  have hcl : ∀ i v, (i, v) ∈ ([(87, 9223372036854775807), (119, 2305843009213693951)] : List (Nat × Int64)) → (Jvm.Cond.constantLong "com/example/kubera/kubera/FlowNetwork" i v).before #[(.ref x0), (.ref x1), (.ref x2), (.ref x3)] s = true := (own_ciS (mvT hZ w_73) (own_ciS (mvT hZ w_121) own_ci0))
  have X0 : Stand p l e ({ frames := 1, cells := 2, slots := 7, locals := 18 } : Room) s m #[(.ref x0), (.ref x1), (.ref x2), (.ref x3)] below meth c s₁ [] 0 0 := Stand.of_body Bd
  have e0 : s₁.heap = h0 := by rw [← hh, Bd.state]; rfl
  have N0 := Fr.nil n0
  show Goes p e below s (QF Z x2 x3 cp kx2 kx3 kcp u0 u1 u2 u3 u4 u5 u7 uw h0 n0) ({ frames := 1, cells := 2, slots := 7, locals := 18 } : Room).cells ({ frames := 1, cells := 2, slots := 7, locals := 18 } : Room).slots (s₁.setTop (entryFrame m #[(.ref x0), (.ref x1), (.ref x2), (.ref x3)] 14))
  refine Goes.cast (efF m x0 x1 x2 x3) ?_
  have hLK := own_lk2_ok hw
  have CX := Cx.mk hx hZ hown hci hcl hLK hby
  have K0 : Keep h0 h0 [x2, x3, cp] := Keep.refl h0 _
  refine Goes.run X0 hx hown hci hcl hby (L := [(0, .aload_n 2, 1), (1, .iconst (-1), 1)]) (by decide +kernel) rfl (g' := (mkF m 2 #[rv x0, rv x1, rv x2, rv x3, .unset, .unset, .unset, .unset, .unset, .unset, .unset, .unset, .unset, .unset] [(.int (-1)), (.ref x2)])) rfl ?_
  obtain ⟨_, _, ⟨T1, L1, k1, n1⟩, -, X1, ⟨Lc1, hQ1, l1, y1, z1⟩, st1⟩ := Jvm.LawKit.callS X0 hx (y := ym0) hown (mvT hZ w_34) (mvT hZ w_35) (mvT hZ w_36) (mvT hZ w_37) (by decide) (backOf (W := 0) (rm1 l Z a0 hw [] x2 (-1 : Int32) kx2 ya yb yc yd h0 n0 Z0 V_x2 g_x2) hZ w_37 w_36 (by decide) (by decide)) (g := (mkF m 2 #[rv x0, rv x1, rv x2, rv x3, .unset, .unset, .unset, .unset, .unset, .unset, .unset, .unset, .unset, .unset] [(.int (-1)), (.ref x2)])) rfl (by rw [hml]; rfl) (argsL := [(.ref x2), (.int (-1))]) (rest := []) (lenOf pdF_0 rfl) rfl (by show 2 * 0 + _ ≤ _; exact Nat.le_of_eq rfl) (hb hby d11_2) (fun _ _ => ⟨rfl, e0, (by decide : 0 + 0 ≤ _), (by decide : 0 + 0 ≤ _)⟩)
  dsimp only [Pt.U, Pt.locs, Pt.cells, Pt.slots] at X1 l1 y1 z1 st1 hQ1
  subst l1 y1 z1
  obtain ⟨h1, eh1⟩ : ∃ z, z = T1.heap := ⟨_, rfl⟩
  rw [← eh1] at hQ1
  have e1 : T1.heap = h1 := eh1.symm
  obtain ⟨rfl, N1q, Kq1, o1_0⟩ := hQ1
  have N1 := Fr.app N0 N1q
  have NB := own_all.keep Kq1 (own_dS d_x2 own_d0) NB
  have E_x0 := E_x0.keep Kq1
  have V_cp := V_cp.keep Kq1 (ninS (Ne.symm ne_x2_cp) nin0)
  have V_x1 := V_x1.keep Kq1 (ninS (Ne.symm ne_x2_x1) nin0)
  have V_x3 := V_x3.keep Kq1 (ninS (Ne.symm ne_x2_x3) nin0)
  have V_x2 : Arv Z h1 x2 kx2 .int (4 : Int32) [(.int (-1)), (.int (-1)), (.int (-1)), (.int (-1))] (.int (0 : Int32)) := o1_0
  have K1 := K0.trans Kq1 ((allS (Or.inl (List.mem_of_getElem? (i := 0) rfl)) all0))
  refine Goes.st st1 ?_
  refine Goes.hrun X1 e1 CX NB (L := [.p 5 (.aload_n 0) 1, .f 6 28 0]) (by decide +kernel) rfl (g' := (mkF m 9 #[rv x0, rv x1, rv x2, rv x3, .unset, .unset, .unset, .unset, .unset, .unset, .unset, .unset, .unset, .unset] [(.int 4)])) rfl ⟨rr, trivial⟩ ?_
  intro T2 X2 e2
  obtain ⟨T3, h3, k3, X3, e3, E3, A3, B3, st3⟩ := newPE X2 hx hZ (aty := .int) w_12 e2 (g := (mkF m 9 #[rv x0, rv x1, rv x2, rv x3, .unset, .unset, .unset, .unset, .unset, .unset, .unset, .unset, .unset, .unset] [(.int 4)])) rfl (hb hby d11_9) rfl (by decide) (cap := 4) (by decide) (by decide) (by decide) (by decide) (ad := "[I") (by decide)
  obtain ⟨b3, g3⟩ : ∃ z, z = h1.size := ⟨_, rfl⟩
  rw [← g3] at A3 B3 st3
  have d_b3 := own_all.dis NB (Nat.le_of_eq g3.symm)
  have ne_cp_b3 : cp ≠ b3 := Nat.ne_of_lt (Nat.lt_of_lt_of_le V_cp.lt (Nat.le_of_eq g3.symm))
  have ne_x2_b3 : x2 ≠ b3 := Nat.ne_of_lt (Nat.lt_of_lt_of_le V_x2.lt (Nat.le_of_eq g3.symm))
  have ne_x1_b3 : x1 ≠ b3 := Nat.ne_of_lt (Nat.lt_of_lt_of_le V_x1.lt (Nat.le_of_eq g3.symm))
  have ne_x3_b3 : x3 ≠ b3 := Nat.ne_of_lt (Nat.lt_of_lt_of_le V_x3.lt (Nat.le_of_eq g3.symm))
  have g_b3 : n0 ≤ b3 := Nat.le_trans (Nat.le_trans Z0 K1.1) (Nat.le_of_eq g3.symm)
  have sz_b3 : h0.size ≤ b3 := Nat.le_trans K1.1 (Nat.le_of_eq g3.symm)
  have E_x0 := E_x0.ext E3
  have V_cp := V_cp.ext E3
  have V_x1 := V_x1.ext E3
  have V_x2 := V_x2.ext E3
  have V_x3 := V_x3.ext E3
  have NB := own_all.ext E3 NB
  have K3 := K1.ext E3
  have E_b3 : Exa Z h3 b3 "[I" := B3
  have V_b3 : Arv Z h3 b3 k3 .int (4 : Int32) [(.int 0), (.int 0), (.int 0), (.int 0)] (.int 0) := (Arv.new A3 (by decide)).pad (pad_rep [] (.int 0) 4)
  refine Goes.st st3 ?_
  refine Goes.hrun X3 e3 CX NB (L := [.p 11 (.astore 4) 2, .p 13 (.iconst 0) 1, .p 14 (.istore 5) 2, .p 16 (.aload_n 2) 1, .p 17 (.aload_n 0) 1, .f 18 32 1, .p 21 (.iconst 0) 1]) (by decide +kernel) rfl (g' := (mkF m 22 #[rv x0, rv x1, rv x2, rv x3, rv b3, iv 0, .unset, .unset, .unset, .unset, .unset, .unset, .unset, .unset] [(.int 0), (.int 2), (.ref x2)])) rfl ⟨rr, trivial⟩ ?_
  intro T4 X4 e4
  refine Goes.sI X4 e4 hx hZ V_x2 (i := 2) (own_ixok (by decide)) (Nat.le_of_ble_eq_true rfl) N1 g_x2 rfl rfl (hb hby d11_22) ?_
  intro T5 h5 L5 X5 e5 W5 (V_x2 : Arv Z h5 x2 kx2 .int (4 : Int32) [(.int (-1)), (.int (-1)), (.int 0), (.int (-1))] (.int (0 : Int32))) N5
  have NB := own_all.wr W5 d_x2 NB
  have E_x0 := E_x0.wr W5
  have V_cp := V_cp.other W5 (Ne.symm ne_x2_cp)
  have V_x1 := V_x1.other W5 (Ne.symm ne_x2_x1)
  have V_x3 := V_x3.other W5 (Ne.symm ne_x2_x3)
  have E_b3 := E_b3.wr W5
  have V_b3 := V_b3.other W5 (Ne.symm ne_x2_b3)
  have K5 := K3.wr W5 (Or.inl (List.mem_of_getElem? (i := 0) rfl))
  refine Goes.hrun X5 e5 CX NB (L := [.p 23 (.aload 4) 2, .p 25 (.iload 5) 2, .p 27 (.iinc 5 1) 3, .p 30 (.aload_n 0) 1, .f 31 32 1]) (by decide +kernel) rfl (g' := (mkF m 34 #[rv x0, rv x1, rv x2, rv x3, rv b3, iv 1, .unset, .unset, .unset, .unset, .unset, .unset, .unset, .unset] [(.int 2), (.int 0), (.ref b3)])) rfl ⟨rr, trivial⟩ ?_
  intro T6 X6 e6
  refine Goes.sI X6 e6 hx hZ V_b3 (i := 0) (own_ixok (by decide)) (Nat.le_of_ble_eq_true rfl) N5 g_b3 rfl rfl (hb hby d11_34) ?_
  intro T7 h7 L7 X7 e7 W7 (V_b3 : Arv Z h7 b3 k3 .int (4 : Int32) [(.int 2), (.int 0), (.int 0), (.int 0)] (.int 0)) N7
  have NB := own_all.wr W7 d_b3 NB
  have E_x0 := E_x0.wr W7
  have V_cp := V_cp.other W7 ne_cp_b3
  have V_x1 := V_x1.other W7 ne_x1_b3
  have V_x3 := V_x3.other W7 ne_x3_b3
  have E_b3 := E_b3.wr W7
  have V_x2 := V_x2.other W7 ne_x2_b3
  have K7 := K5.wr W7 (Or.inr sz_b3)
  refine Goes.hrun X7 e7 CX (own_c2 V_x2 (own_c2 V_b3 NB)) (L := [.p 35 (.iconst 0) 1, .p 36 (.istore 6) 2, .p 38 (.iload 6) 2, .p 40 (.iload 5) 2, .c 42 .ge 99 false, .p 45 (.aload_n 2) 1, .p 46 (.aload_n 0) 1, .f 47 35 4, .I 50 0 3, .b 51 .ge 90 false, .p 54 (.aload 4) 2, .p 56 (.iload 6) 2, .I 58 1 0, .p 59 (.istore 7) 2, .p 61 (.aload_n 0) 1, .f 62 41 5]) (by decide +kernel) rfl (g' := (mkF m 65 #[rv x0, rv x1, rv x2, rv x3, rv b3, iv 1, iv 0, iv 2, .unset, .unset, .unset, .unset, .unset, .unset] [(.ref fa)])) rfl ⟨by decide, rr, ra (by decide), by decide, ra (by decide), rr, trivial⟩ ?_
  intro T12 X12 e12
  refine Goes.hrun X12 e12 CX (own_c2 V_x2 NB) (L := [.p 65 (.iload 7) 2, .I 67 9 2, .p 68 (.istore 8) 2, .p 70 (.iload 8) 2, .b 72 .lt 63 false, .p 75 (.aload_n 0) 1, .f 76 9 5, .p 79 (.iload 8) 2, .I 81 10 4, .p 82 (.istore 9) 2, .p 84 (.aload_n 2) 1, .p 85 (.iload 9) 2, .I 87 0 0, .b 88 .ge 35 false, .p 91 (.aload_n 0) 1, .p 92 (.iload 8) 2]) (by decide +kernel) rfl (g' := (mkF m 94 #[rv x0, rv x1, rv x2, rv x3, rv b3, iv 1, iv 0, iv 2, iv 4, iv 0, .unset, .unset, .unset, .unset] [(.int 4), (.ref x0)])) rfl ⟨ra (by decide), by decide, rr, ra (by decide), ra (by decide), by decide, trivial⟩ ?_
  intro T13 X13 e13
  refine Goes.run X13 hx hown hci hcl hby (L := [(94, .iload 7, 2), (96, .aload_n 1, 1)]) (by decide +kernel) rfl (g' := (mkF m 97 #[rv x0, rv x1, rv x2, rv x3, rv b3, iv 1, iv 0, iv 2, iv 4, iv 0, .unset, .unset, .unset, .unset] [(.ref x1), (.int 2), (.int 4), (.ref x0)])) rfl ?_
  obtain ⟨cq14, q14a, q14b⟩ := E_x0.cell
  obtain ⟨_, _, ⟨T14, L14, k14, n14⟩, -, X14, ⟨Lc14, hQ14, l14, y14, z14⟩, st14⟩ := X13.privateBack hx (y := ym9) hown (mvT hZ w_113) (mvT hZ w_114) (own_selp (y := ym9) (mvT hZ w_4) (mvP hZ w_115) (mvT hZ w_114) (by decide)) (Cond.privateMethod_at (mvP hZ w_115 (args := #[]))) (mvT hZ w_116) (by decide) (backOf (W := 0) (rmE4 l Z a0 hw [] x0 x1 hd nx cp co fa lo khd knx kco kfa kcp klo cA nA cB nB la lb kx1 q0 q1 q2 q3 q4 q5 q4 q7 pP h7 n0 (Nat.le_trans Z0 K7.1) NB V_cp V_x1) hZ w_116 w_5 (by decide) (by decide)) (g := (mkF m 97 #[rv x0, rv x1, rv x2, rv x3, rv b3, iv 1, iv 0, iv 2, iv 4, iv 0, .unset, .unset, .unset, .unset] [(.ref x1), (.int 2), (.int 4), (.ref x0)])) rfl (by rw [hml]; rfl) (Steps.refl _) (a := x0) (by rw [e13]; exact q14a) q14b (argsL := [(.int 4), (.int 2), (.ref x1)]) (rest := []) (lenOf pdF_1 rfl) rfl (by show 2 * 0 + _ ≤ _; exact Nat.le_of_eq rfl) (hb hby d11_97) (fun _ _ => ⟨rfl, e13, (by decide : 1 + 0 ≤ _), (by decide : 4 + 0 ≤ _)⟩)
  dsimp only [Pt.U, Pt.locs, Pt.cells, Pt.slots] at X14 l14 y14 z14 st14 hQ14
  subst l14 y14 z14
  obtain ⟨rfl, N14q, e14⟩ := hQ14
  have N14 := Fr.app N7 N14q
  refine Goes.st (fun t k => st14.trans k) ?_
  refine Goes.hrun X14 e14 CX (own_c2 V_x2 NB) (L := [.b 100 .eq 23 false, .p 103 (.aload_n 2) 1, .p 104 (.iload 9) 2, .p 106 (.aload_n 2) 1, .p 107 (.iload 7) 2, .I 109 0 2, .p 110 (.iconst 1) 1, .p 111 .iadd 1]) (by decide +kernel) rfl (g' := (mkF m 112 #[rv x0, rv x1, rv x2, rv x3, rv b3, iv 1, iv 0, iv 2, iv 4, iv 0, .unset, .unset, .unset, .unset] [(.int 1), (.int 0), (.ref x2)])) rfl ⟨(if0 _ _).trans (feq (own_t1 pz4 : ¬ ((rE4 q4) = (0 : Int32)))).1, ra (by decide), trivial⟩ ?_
  intro T16 X16 e16
  refine Goes.sI X16 e16 hx hZ V_x2 (i := 0) (own_ixok (by decide)) (Nat.le_of_ble_eq_true rfl) N14 g_x2 rfl rfl (hb hby d11_112) ?_
  intro T17 h17 L17 X17 e17 W17 (V_x2 : Arv Z h17 x2 kx2 .int (4 : Int32) [(.int 1), (.int (-1)), (.int 0), (.int (-1))] (.int (0 : Int32))) N17
  have NB := own_all.wr W17 d_x2 NB
  have E_x0 := E_x0.wr W17
  have V_cp := V_cp.other W17 (Ne.symm ne_x2_cp)
  have V_x1 := V_x1.other W17 (Ne.symm ne_x2_x1)
  have V_x3 := V_x3.other W17 (Ne.symm ne_x2_x3)
  have E_b3 := E_b3.wr W17
  have V_b3 := V_b3.other W17 (Ne.symm ne_x2_b3)
  have K17 := K7.wr W17 (Or.inl (List.mem_of_getElem? (i := 0) rfl))
  refine Goes.run X17 hx hown hci hcl hby (L := [(113, .aload 4, 2), (115, .iload 5, 2), (117, .iinc 5 1, 3), (120, .iload 9, 2)]) (by decide +kernel) rfl (g' := (mkF m 122 #[rv x0, rv x1, rv x2, rv x3, rv b3, iv 2, iv 0, iv 2, iv 4, iv 0, .unset, .unset, .unset, .unset] [(.int 0), (.int 1), (.ref b3)])) rfl ?_
  refine Goes.sI X17 e17 hx hZ V_b3 (i := 1) (own_ixok (by decide)) (Nat.le_of_ble_eq_true rfl) N17 g_b3 rfl rfl (hb hby d11_122) ?_
  intro T18 h18 L18 X18 e18 W18 (V_b3 : Arv Z h18 b3 k3 .int (4 : Int32) [(.int 2), (.int 0), (.int 0), (.int 0)] (.int 0)) N18
  have NB := own_all.wr W18 d_b3 NB
  have E_x0 := E_x0.wr W18
  have V_cp := V_cp.other W18 ne_cp_b3
  have V_x1 := V_x1.other W18 ne_x1_b3
  have V_x3 := V_x3.other W18 ne_x3_b3
  have E_b3 := E_b3.wr W18
  have V_x2 := V_x2.other W18 ne_x2_b3
  have K18 := K17.wr W18 (Or.inr sz_b3)
  refine Goes.hrun X18 e18 CX NB (L := [.p 123 (.aload_n 0) 1, .f 124 15 5, .p 127 (.iload 8) 2, .I 129 10 4, .p 130 (.istore 8) 2, .p 132 (.goto (-62)) 3, .p 70 (.iload 8) 2, .b 72 .lt 63 true, .p 135 (.iinc 6 1) 3, .p 138 (.goto (-100)) 3, .p 38 (.iload 6) 2, .p 40 (.iload 5) 2, .c 42 .ge 99 false, .p 45 (.aload_n 2) 1, .p 46 (.aload_n 0) 1, .f 47 35 2]) (by decide +kernel) rfl (g' := (mkF m 50 #[rv x0, rv x1, rv x2, rv x3, rv b3, iv 2, iv 1, iv 2, iv (-1), iv 0, .unset, .unset, .unset, .unset] [(.int 3), (.ref x2)])) rfl ⟨rr, ra (by decide), by decide, by decide, rr, trivial⟩ ?_
  intro T24 X24 e24
  refine Goes.hrun X24 e24 CX (own_c2 V_x2 (own_c2 V_b3 NB)) (L := [.I 50 0 3, .b 51 .ge 90 false, .p 54 (.aload 4) 2, .p 56 (.iload 6) 2, .I 58 1 1, .p 59 (.istore 7) 2, .p 61 (.aload_n 0) 1, .f 62 41 5, .p 65 (.iload 7) 2, .I 67 10 0, .p 68 (.istore 8) 2, .p 70 (.iload 8) 2, .b 72 .lt 63 false, .p 75 (.aload_n 0) 1, .f 76 9 6, .p 79 (.iload 8) 2]) (by decide +kernel) rfl (g' := (mkF m 81 #[rv x0, rv x1, rv x2, rv x3, rv b3, iv 2, iv 1, iv 0, iv 5, iv 0, .unset, .unset, .unset, .unset] [(.int 5), (.ref hd)])) rfl ⟨ra (by decide), by decide, ra (by decide), rr, ra (by decide), by decide, rr, trivial⟩ ?_
  intro T25 X25 e25
  refine Goes.hrun X25 e25 CX (own_c2 V_x2 NB) (L := [.I 81 10 5, .p 82 (.istore 9) 2, .p 84 (.aload_n 2) 1, .p 85 (.iload 9) 2, .I 87 0 2, .b 88 .ge 35 true, .p 123 (.aload_n 0) 1, .f 124 15 6, .p 127 (.iload 8) 2, .I 129 11 5, .p 130 (.istore 8) 2, .p 132 (.goto (-62)) 3]) (by decide +kernel) rfl (g' := (mkF m 70 #[rv x0, rv x1, rv x2, rv x3, rv b3, iv 2, iv 1, iv 0, iv 2, iv 2, .unset, .unset, .unset, .unset] [])) rfl ⟨ra (by decide), ra (by decide), by decide, rr, ra (by decide), trivial⟩ ?_
  intro T26 X26 e26
  rcases hV with ⟨hk, hP, hN, hm, hr0, hr1, hr2, hr3, hr4, hr5, hr7, hrw⟩ | ⟨hk, hP, hN, hm, hr0, hr1, hr2, hr3, hr4, hr5, hr7, hrw⟩
  · skip
    refine Goes.hrun X26 e26 CX (own_c2 V_x2 NB) (L := [.p 70 (.iload 8) 2, .b 72 .lt 63 false, .p 75 (.aload_n 0) 1, .f 76 9 5, .p 79 (.iload 8) 2, .I 81 10 2, .p 82 (.istore 9) 2, .p 84 (.aload_n 2) 1, .p 85 (.iload 9) 2, .I 87 0 1, .b 88 .ge 35 false, .p 91 (.aload_n 0) 1, .p 92 (.iload 8) 2, .p 94 (.iload 7) 2, .p 96 (.aload_n 1) 1]) (by decide +kernel) rfl (g' := (mkF m 97 #[rv x0, rv x1, rv x2, rv x3, rv b3, iv 2, iv 1, iv 0, iv 2, iv 1, .unset, .unset, .unset, .unset] [(.ref x1), (.int 0), (.int 2), (.ref x0)])) rfl ⟨by decide, rr, ra (by decide), ra (by decide), by decide, trivial⟩ ?_
    intro T29 X29 e29
    obtain ⟨cq30, q30a, q30b⟩ := E_x0.cell
    obtain ⟨_, _, ⟨T30, L30, k30, n30⟩, -, X30, ⟨Lc30, hQ30, l30, y30, z30⟩, st30⟩ := X29.privateBack hx (y := ym9) hown (mvT hZ w_113) (mvT hZ w_114) (own_selp (y := ym9) (mvT hZ w_4) (mvP hZ w_115) (mvT hZ w_114) (by decide)) (Cond.privateMethod_at (mvP hZ w_115 (args := #[]))) (mvT hZ w_116) (by decide) (backOf (W := 0) (rmE2 l Z a0 hw [] x0 x1 hd nx cp co fa lo khd knx kco kfa kcp klo cA nA cB nB la lb kx1 q0 q1 q2 q3 q4 q5 q4 q7 pP h18 n0 (Nat.le_trans Z0 K18.1) NB V_cp V_x1) hZ w_116 w_5 (by decide) (by decide)) (g := (mkF m 97 #[rv x0, rv x1, rv x2, rv x3, rv b3, iv 2, iv 1, iv 0, iv 2, iv 1, .unset, .unset, .unset, .unset] [(.ref x1), (.int 0), (.int 2), (.ref x0)])) rfl (by rw [hml]; rfl) (Steps.refl _) (a := x0) (by rw [e29]; exact q30a) q30b (argsL := [(.int 2), (.int 0), (.ref x1)]) (rest := []) (lenOf pdF_1 rfl) rfl (by show 2 * 0 + _ ≤ _; exact Nat.le_of_eq rfl) (hb hby d11_97) (fun _ _ => ⟨rfl, e29, (by decide : 1 + 0 ≤ _), (by decide : 4 + 0 ≤ _)⟩)
    dsimp only [Pt.U, Pt.locs, Pt.cells, Pt.slots] at X30 l30 y30 z30 st30 hQ30
    subst l30 y30 z30
    obtain ⟨rfl, N30q, e30⟩ := hQ30
    have N30 := Fr.app N18 N30q
    refine Goes.st (fun t k => st30.trans k) ?_
    refine Goes.hrun X30 e30 CX NB (L := [.b 100 .eq 23 true, .p 123 (.aload_n 0) 1, .f 124 15 5, .p 127 (.iload 8) 2, .I 129 10 2, .p 130 (.istore 8) 2, .p 132 (.goto (-62)) 3, .p 70 (.iload 8) 2, .b 72 .lt 63 false, .p 75 (.aload_n 0) 1, .f 76 9 4, .p 79 (.iload 8) 2, .I 81 9 0, .p 82 (.istore 9) 2, .p 84 (.aload_n 2) 1, .p 85 (.iload 9) 2]) (by decide +kernel) rfl (g' := (mkF m 87 #[rv x0, rv x1, rv x2, rv x3, rv b3, iv 2, iv 1, iv 0, iv 0, iv 1, .unset, .unset, .unset, .unset] [(.int 1), (.ref x2)])) rfl ⟨(if0 _ _).trans (teq (own_g2 hN : (rE2 cB q2 pP) = (0 : Int32))).1, rr, ra (by decide), by decide, rr, ra (by decide), trivial⟩ ?_
    intro T34 X34 e34
    refine Goes.hrun X34 e34 CX (own_c2 V_x2 NB) (L := [.I 87 0 1, .b 88 .ge 35 false, .p 91 (.aload_n 0) 1, .p 92 (.iload 8) 2, .p 94 (.iload 7) 2, .p 96 (.aload_n 1) 1]) (by decide +kernel) rfl (g' := (mkF m 97 #[rv x0, rv x1, rv x2, rv x3, rv b3, iv 2, iv 1, iv 0, iv 0, iv 1, .unset, .unset, .unset, .unset] [(.ref x1), (.int 0), (.int 0), (.ref x0)])) rfl ⟨ra (by decide), by decide, trivial⟩ ?_
    intro T35 X35 e35
    obtain ⟨cq36, q36a, q36b⟩ := E_x0.cell
    obtain ⟨_, _, ⟨T36, L36, k36, n36⟩, -, X36, ⟨Lc36, hQ36, l36, y36, z36⟩, st36⟩ := X35.privateBack hx (y := ym9) hown (mvT hZ w_113) (mvT hZ w_114) (own_selp (y := ym9) (mvT hZ w_4) (mvP hZ w_115) (mvT hZ w_114) (by decide)) (Cond.privateMethod_at (mvP hZ w_115 (args := #[]))) (mvT hZ w_116) (by decide) (backOf (W := 0) (rmE0 l Z a0 hw [] x0 x1 hd nx cp co fa lo khd knx kco kfa kcp klo cA nA cB nB la lb kx1 q0 q1 q2 q3 q4 q5 q4 q7 pP h18 n0 (Nat.le_trans Z0 K18.1) NB V_cp V_x1) hZ w_116 w_5 (by decide) (by decide)) (g := (mkF m 97 #[rv x0, rv x1, rv x2, rv x3, rv b3, iv 2, iv 1, iv 0, iv 0, iv 1, .unset, .unset, .unset, .unset] [(.ref x1), (.int 0), (.int 0), (.ref x0)])) rfl (by rw [hml]; rfl) (Steps.refl _) (a := x0) (by rw [e35]; exact q36a) q36b (argsL := [(.int 0), (.int 0), (.ref x1)]) (rest := []) (lenOf pdF_1 rfl) rfl (by show 2 * 0 + _ ≤ _; exact Nat.le_of_eq rfl) (hb hby d11_97) (fun _ _ => ⟨rfl, e35, (by decide : 1 + 0 ≤ _), (by decide : 4 + 0 ≤ _)⟩)
    dsimp only [Pt.U, Pt.locs, Pt.cells, Pt.slots] at X36 l36 y36 z36 st36 hQ36
    subst l36 y36 z36
    obtain ⟨rfl, N36q, e36⟩ := hQ36
    have N36 := Fr.app N30 N36q
    refine Goes.st (fun t k => st36.trans k) ?_
    refine Goes.hrun X36 e36 CX (own_c2 V_x2 NB) (L := [.b 100 .eq 23 false, .p 103 (.aload_n 2) 1, .p 104 (.iload 9) 2, .p 106 (.aload_n 2) 1, .p 107 (.iload 7) 2, .I 109 0 0, .p 110 (.iconst 1) 1, .p 111 .iadd 1]) (by decide +kernel) rfl (g' := (mkF m 112 #[rv x0, rv x1, rv x2, rv x3, rv b3, iv 2, iv 1, iv 0, iv 0, iv 1, .unset, .unset, .unset, .unset] [(.int 2), (.int 1), (.ref x2)])) rfl ⟨(if0 _ _).trans (feq (own_t2 hk hP : ¬ ((rE0 cA q0 pP) = (0 : Int32)))).1, ra (by decide), trivial⟩ ?_
    intro T38 X38 e38
    refine Goes.sI X38 e38 hx hZ V_x2 (i := 1) (own_ixok (by decide)) (Nat.le_of_ble_eq_true rfl) N36 g_x2 rfl rfl (hb hby d11_112) ?_
    intro T39 h39 L39 X39 e39 W39 (V_x2 : Arv Z h39 x2 kx2 .int (4 : Int32) [(.int 1), (.int 2), (.int 0), (.int (-1))] (.int (0 : Int32))) N39
    have NB := own_all.wr W39 d_x2 NB
    have E_x0 := E_x0.wr W39
    have V_cp := V_cp.other W39 (Ne.symm ne_x2_cp)
    have V_x1 := V_x1.other W39 (Ne.symm ne_x2_x1)
    have V_x3 := V_x3.other W39 (Ne.symm ne_x2_x3)
    have E_b3 := E_b3.wr W39
    have V_b3 := V_b3.other W39 (Ne.symm ne_x2_b3)
    have K39 := K18.wr W39 (Or.inl (List.mem_of_getElem? (i := 0) rfl))
    refine Goes.run X39 hx hown hci hcl hby (L := [(113, .aload 4, 2), (115, .iload 5, 2), (117, .iinc 5 1, 3), (120, .iload 9, 2)]) (by decide +kernel) rfl (g' := (mkF m 122 #[rv x0, rv x1, rv x2, rv x3, rv b3, iv 3, iv 1, iv 0, iv 0, iv 1, .unset, .unset, .unset, .unset] [(.int 1), (.int 2), (.ref b3)])) rfl ?_
    refine Goes.sI X39 e39 hx hZ V_b3 (i := 2) (own_ixok (by decide)) (Nat.le_of_ble_eq_true rfl) N39 g_b3 rfl rfl (hb hby d11_122) ?_
    intro T40 h40 L40 X40 e40 W40 (V_b3 : Arv Z h40 b3 k3 .int (4 : Int32) [(.int 2), (.int 0), (.int 1), (.int 0)] (.int 0)) N40
    have NB := own_all.wr W40 d_b3 NB
    have E_x0 := E_x0.wr W40
    have V_cp := V_cp.other W40 ne_cp_b3
    have V_x1 := V_x1.other W40 ne_x1_b3
    have V_x3 := V_x3.other W40 ne_x3_b3
    have E_b3 := E_b3.wr W40
    have V_x2 := V_x2.other W40 ne_x2_b3
    have K40 := K39.wr W40 (Or.inr sz_b3)
    refine Goes.hrun X40 e40 CX NB (L := [.p 123 (.aload_n 0) 1, .f 124 15 5, .p 127 (.iload 8) 2, .I 129 10 0, .p 130 (.istore 8) 2, .p 132 (.goto (-62)) 3, .p 70 (.iload 8) 2, .b 72 .lt 63 true, .p 135 (.iinc 6 1) 3, .p 138 (.goto (-100)) 3, .p 38 (.iload 6) 2, .p 40 (.iload 5) 2, .c 42 .ge 99 false, .p 45 (.aload_n 2) 1, .p 46 (.aload_n 0) 1, .f 47 35 2]) (by decide +kernel) rfl (g' := (mkF m 50 #[rv x0, rv x1, rv x2, rv x3, rv b3, iv 3, iv 2, iv 0, iv (-1), iv 1, .unset, .unset, .unset, .unset] [(.int 3), (.ref x2)])) rfl ⟨rr, ra (by decide), by decide, by decide, rr, trivial⟩ ?_
    intro T46 X46 e46
    refine Goes.hrun X46 e46 CX (own_c2 V_x2 (own_c2 V_b3 NB)) (L := [.I 50 0 3, .b 51 .ge 90 false, .p 54 (.aload 4) 2, .p 56 (.iload 6) 2, .I 58 1 2, .p 59 (.istore 7) 2, .p 61 (.aload_n 0) 1, .f 62 41 5, .p 65 (.iload 7) 2, .I 67 10 1, .p 68 (.istore 8) 2, .p 70 (.iload 8) 2, .b 72 .lt 63 false, .p 75 (.aload_n 0) 1, .f 76 9 6, .p 79 (.iload 8) 2]) (by decide +kernel) rfl (g' := (mkF m 81 #[rv x0, rv x1, rv x2, rv x3, rv b3, iv 3, iv 2, iv 1, iv 6, iv 1, .unset, .unset, .unset, .unset] [(.int 6), (.ref hd)])) rfl ⟨ra (by decide), by decide, ra (by decide), rr, ra (by decide), by decide, rr, trivial⟩ ?_
    intro T47 X47 e47
    refine Goes.hrun X47 e47 CX (own_c2 V_x2 NB) (L := [.I 81 10 6, .p 82 (.istore 9) 2, .p 84 (.aload_n 2) 1, .p 85 (.iload 9) 2, .I 87 0 3, .b 88 .ge 35 false, .p 91 (.aload_n 0) 1, .p 92 (.iload 8) 2, .p 94 (.iload 7) 2, .p 96 (.aload_n 1) 1]) (by decide +kernel) rfl (g' := (mkF m 97 #[rv x0, rv x1, rv x2, rv x3, rv b3, iv 3, iv 2, iv 1, iv 6, iv 3, .unset, .unset, .unset, .unset] [(.ref x1), (.int 1), (.int 6), (.ref x0)])) rfl ⟨ra (by decide), ra (by decide), by decide, trivial⟩ ?_
    intro T48 X48 e48
    obtain ⟨cq49, q49a, q49b⟩ := E_x0.cell
    obtain ⟨_, _, ⟨T49, L49, k49, n49⟩, -, X49, ⟨Lc49, hQ49, l49, y49, z49⟩, st49⟩ := X48.privateBack hx (y := ym9) hown (mvT hZ w_113) (mvT hZ w_114) (own_selp (y := ym9) (mvT hZ w_4) (mvP hZ w_115) (mvT hZ w_114) (by decide)) (Cond.privateMethod_at (mvP hZ w_115 (args := #[]))) (mvT hZ w_116) (by decide) (backOf (W := 0) (rmE6 l Z a0 hw [] x0 x1 hd nx cp co fa lo khd knx kco kfa kcp klo cA nA cB nB la lb kx1 q0 q1 q2 q3 q4 q5 q4 q7 pP h40 n0 (Nat.le_trans Z0 K40.1) NB V_cp V_x1) hZ w_116 w_5 (by decide) (by decide)) (g := (mkF m 97 #[rv x0, rv x1, rv x2, rv x3, rv b3, iv 3, iv 2, iv 1, iv 6, iv 3, .unset, .unset, .unset, .unset] [(.ref x1), (.int 1), (.int 6), (.ref x0)])) rfl (by rw [hml]; rfl) (Steps.refl _) (a := x0) (by rw [e48]; exact q49a) q49b (argsL := [(.int 6), (.int 1), (.ref x1)]) (rest := []) (lenOf pdF_1 rfl) rfl (by show 2 * 0 + _ ≤ _; exact Nat.le_of_eq rfl) (hb hby d11_97) (fun _ _ => ⟨rfl, e48, (by decide : 1 + 0 ≤ _), (by decide : 4 + 0 ≤ _)⟩)
    dsimp only [Pt.U, Pt.locs, Pt.cells, Pt.slots] at X49 l49 y49 z49 st49 hQ49
    subst l49 y49 z49
    obtain ⟨rfl, N49q, e49⟩ := hQ49
    have N49 := Fr.app N40 N49q
    refine Goes.st (fun t k => st49.trans k) ?_
    refine Goes.hrun X49 e49 CX (own_c2 V_x2 NB) (L := [.b 100 .eq 23 false, .p 103 (.aload_n 2) 1, .p 104 (.iload 9) 2, .p 106 (.aload_n 2) 1, .p 107 (.iload 7) 2, .I 109 0 1, .p 110 (.iconst 1) 1, .p 111 .iadd 1]) (by decide +kernel) rfl (g' := (mkF m 112 #[rv x0, rv x1, rv x2, rv x3, rv b3, iv 3, iv 2, iv 1, iv 6, iv 3, .unset, .unset, .unset, .unset] [(.int 3), (.int 3), (.ref x2)])) rfl ⟨(if0 _ _).trans (feq (own_t2 pz4 (own_zz pP) : ¬ ((rE6 q4 pP) = (0 : Int32)))).1, ra (by decide), trivial⟩ ?_
    intro T51 X51 e51
    refine Goes.sI X51 e51 hx hZ V_x2 (i := 3) (own_ixok (by decide)) (Nat.le_of_ble_eq_true rfl) N49 g_x2 rfl rfl (hb hby d11_112) ?_
    intro T52 h52 L52 X52 e52 W52 (V_x2 : Arv Z h52 x2 kx2 .int (4 : Int32) [(.int 1), (.int 2), (.int 0), (.int 3)] (.int (0 : Int32))) N52
    have NB := own_all.wr W52 d_x2 NB
    have E_x0 := E_x0.wr W52
    have V_cp := V_cp.other W52 (Ne.symm ne_x2_cp)
    have V_x1 := V_x1.other W52 (Ne.symm ne_x2_x1)
    have V_x3 := V_x3.other W52 (Ne.symm ne_x2_x3)
    have E_b3 := E_b3.wr W52
    have V_b3 := V_b3.other W52 (Ne.symm ne_x2_b3)
    have K52 := K40.wr W52 (Or.inl (List.mem_of_getElem? (i := 0) rfl))
    refine Goes.run X52 hx hown hci hcl hby (L := [(113, .aload 4, 2), (115, .iload 5, 2), (117, .iinc 5 1, 3), (120, .iload 9, 2)]) (by decide +kernel) rfl (g' := (mkF m 122 #[rv x0, rv x1, rv x2, rv x3, rv b3, iv 4, iv 2, iv 1, iv 6, iv 3, .unset, .unset, .unset, .unset] [(.int 3), (.int 3), (.ref b3)])) rfl ?_
    refine Goes.sI X52 e52 hx hZ V_b3 (i := 3) (own_ixok (by decide)) (Nat.le_of_ble_eq_true rfl) N52 g_b3 rfl rfl (hb hby d11_122) ?_
    intro T53 h53 L53 X53 e53 W53 (V_b3 : Arv Z h53 b3 k3 .int (4 : Int32) [(.int 2), (.int 0), (.int 1), (.int 3)] (.int 0)) N53
    have NB := own_all.wr W53 d_b3 NB
    have E_x0 := E_x0.wr W53
    have V_cp := V_cp.other W53 ne_cp_b3
    have V_x1 := V_x1.other W53 ne_x1_b3
    have V_x3 := V_x3.other W53 ne_x3_b3
    have E_b3 := E_b3.wr W53
    have V_x2 := V_x2.other W53 ne_x2_b3
    have K53 := K52.wr W53 (Or.inr sz_b3)
    refine Goes.hrun X53 e53 CX (own_c2 V_x2 NB) (L := [.p 123 (.aload_n 0) 1, .f 124 15 6, .p 127 (.iload 8) 2, .I 129 11 6, .p 130 (.istore 8) 2, .p 132 (.goto (-62)) 3, .p 70 (.iload 8) 2, .b 72 .lt 63 false, .p 75 (.aload_n 0) 1, .f 76 9 5, .p 79 (.iload 8) 2, .I 81 10 3, .p 82 (.istore 9) 2, .p 84 (.aload_n 2) 1, .p 85 (.iload 9) 2, .I 87 0 0]) (by decide +kernel) rfl (g' := (mkF m 88 #[rv x0, rv x1, rv x2, rv x3, rv b3, iv 4, iv 2, iv 1, iv 3, iv 0, .unset, .unset, .unset, .unset] [(.int 1)])) rfl ⟨rr, ra (by decide), by decide, rr, ra (by decide), ra (by decide), trivial⟩ ?_
    intro T62 X62 e62
    refine Goes.hrun X62 e62 CX NB (L := [.b 88 .ge 35 true, .p 123 (.aload_n 0) 1, .f 124 15 5, .p 127 (.iload 8) 2, .I 129 10 3, .p 130 (.istore 8) 2, .p 132 (.goto (-62)) 3, .p 70 (.iload 8) 2, .b 72 .lt 63 false, .p 75 (.aload_n 0) 1, .f 76 9 4, .p 79 (.iload 8) 2, .I 81 9 1, .p 82 (.istore 9) 2, .p 84 (.aload_n 2) 1, .p 85 (.iload 9) 2]) (by decide +kernel) rfl (g' := (mkF m 87 #[rv x0, rv x1, rv x2, rv x3, rv b3, iv 4, iv 2, iv 1, iv 1, iv 0, .unset, .unset, .unset, .unset] [(.int 0), (.ref x2)])) rfl ⟨by decide, rr, ra (by decide), by decide, rr, ra (by decide), trivial⟩ ?_
    intro T63 X63 e63
    refine Goes.hrun X63 e63 CX (own_c2 V_x2 NB) (L := [.I 87 0 0, .b 88 .ge 35 true, .p 123 (.aload_n 0) 1, .f 124 15 6, .p 127 (.iload 8) 2, .I 129 11 1, .p 130 (.istore 8) 2, .p 132 (.goto (-62)) 3, .p 70 (.iload 8) 2, .b 72 .lt 63 true, .p 135 (.iinc 6 1) 3, .p 138 (.goto (-100)) 3, .p 38 (.iload 6) 2, .p 40 (.iload 5) 2, .c 42 .ge 99 false, .p 45 (.aload_n 2) 1]) (by decide +kernel) rfl (g' := (mkF m 46 #[rv x0, rv x1, rv x2, rv x3, rv b3, iv 4, iv 3, iv 1, iv (-1), iv 0, .unset, .unset, .unset, .unset] [(.ref x2)])) rfl ⟨ra (by decide), by decide, rr, ra (by decide), by decide, by decide, trivial⟩ ?_
    intro T64 X64 e64
    refine Goes.hrun X64 e64 CX (own_c2 V_x2 NB) (L := [.p 46 (.aload_n 0) 1, .f 47 35 3, .I 50 0 3, .b 51 .ge 90 true, .p 141 (.aload_n 2) 1, .p 142 (.aload_n 0) 1, .f 143 35 3, .I 146 0 3, .b 147 .ge 5 true, .p 152 (.aload_n 0) 1, .f 153 41 4, .p 156 (.iconst 0) 1, .p 157 (.aload_n 3) 1, .p 158 (.iconst 0) 1, .p 159 (.aload_n 0) 1, .f 160 28 1]) (by decide +kernel) rfl (g' := (mkF m 163 #[rv x0, rv x1, rv x2, rv x3, rv b3, iv 4, iv 3, iv 1, iv (-1), iv 0, .unset, .unset, .unset, .unset] [(.int 4), (.int 0), (.ref x3), (.int 0), (.ref fa)])) rfl ⟨rr, ra (by decide), by decide, rr, ra (by decide), by decide, rr, rr, trivial⟩ ?_
    intro T65 X65 e65
    have V_fa : Arv Z h53 fa kfa .int (4 : Int32) [(.int 5), (.int 6), (.int 4), (.int 7)] (.int (0 : Int32)) := own_aget NB (i := 8) (x := RF.arr fa kfa .int (4 : Int32) [(.int 5), (.int 6), (.int 4), (.int 7)] (.int (0 : Int32))) rfl
    obtain ⟨T66, h66, L66, X66, e66, N66, Kq66, Vq66, st66⟩ := cpA X65 hx hZ hown w_117 w_120 w_118 w_119 e65 V_fa V_x3 (Or.inl ⟨rfl, rfl⟩) (sp := (0 : Int32)) (dp := (0 : Int32)) (nn := (4 : Int32)) (by decide) (by decide) (by decide) (by decide) (by decide) (us := [(.int 5), (.int 6), (.int 4), (.int 7)]) rfl (Nat.le_of_ble_eq_true rfl) N53 g_x3 (g := (mkF m 163 #[rv x0, rv x1, rv x2, rv x3, rv b3, iv 4, iv 3, iv 1, iv (-1), iv 0, .unset, .unset, .unset, .unset] [(.int 4), (.int 0), (.ref x3), (.int 0), (.ref fa)])) rfl (by rw [hml]; rfl) (rest := []) rfl (hb hby d11_163) (by decide) (W := 0) (by show 2 * 0 + _ ≤ _; exact Nat.le_of_eq rfl) (by decide)
    have NB := own_all.keep Kq66 (own_dS d_x3 own_d0) NB
    have E_x0 := E_x0.keep Kq66
    have V_cp := V_cp.keep Kq66 (ninS (Ne.symm ne_x3_cp) nin0)
    have V_x1 := V_x1.keep Kq66 (ninS (Ne.symm ne_x3_x1) nin0)
    have E_b3 := E_b3.keep Kq66
    have V_x2 := V_x2.keep Kq66 (ninS ne_x2_x3 nin0)
    have V_b3 := V_b3.keep Kq66 (ninS (Ne.symm ne_x3_b3) nin0)
    have K66 := K53.trans Kq66 ((allS (Or.inl (List.mem_of_getElem? (i := 1) rfl)) all0))
    have V_x3 : Arv Z h66 x3 kx3 .int (4 : Int32) [(.int 5), (.int 6), (.int 4), (.int 7)] (.int (0 : Int32)) := Vq66
    refine Goes.st st66 ?_
    refine Goes.hrun X66 e66 CX (own_c2 V_x2 NB) (L := [.p 166 (.aload_n 2) 1, .p 167 (.aload_n 0) 1, .f 168 35 3, .I 171 0 3]) (by decide +kernel) rfl (g' := (mkF m 172 #[rv x0, rv x1, rv x2, rv x3, rv b3, iv 4, iv 3, iv 1, iv (-1), iv 0, .unset, .unset, .unset, .unset] [(.int 3)])) rfl ⟨rr, ra (by decide), trivial⟩ ?_
    intro T67 X67 e67
    obtain ⟨T68, h68, k68, X68, e68, E68, A68, B68, st68⟩ := newPE X67 hx hZ (aty := .int) w_12 e67 (g := (mkF m 172 #[rv x0, rv x1, rv x2, rv x3, rv b3, iv 4, iv 3, iv 1, iv (-1), iv 0, .unset, .unset, .unset, .unset] [(.int 3)])) rfl (hb hby d11_172) rfl (by decide) (cap := 3) (by decide) (by decide) (by decide) (by decide) (ad := "[I") (by decide)
    obtain ⟨b68, g68⟩ : ∃ z, z = h66.size := ⟨_, rfl⟩
    rw [← g68] at A68 B68 st68
    have d_b68 := own_all.dis NB (Nat.le_of_eq g68.symm)
    have ne_cp_b68 : cp ≠ b68 := Nat.ne_of_lt (Nat.lt_of_lt_of_le V_cp.lt (Nat.le_of_eq g68.symm))
    have ne_x2_b68 : x2 ≠ b68 := Nat.ne_of_lt (Nat.lt_of_lt_of_le V_x2.lt (Nat.le_of_eq g68.symm))
    have ne_x1_b68 : x1 ≠ b68 := Nat.ne_of_lt (Nat.lt_of_lt_of_le V_x1.lt (Nat.le_of_eq g68.symm))
    have ne_b3_b68 : b3 ≠ b68 := Nat.ne_of_lt (Nat.lt_of_lt_of_le E_b3.lt (Nat.le_of_eq g68.symm))
    have ne_x3_b68 : x3 ≠ b68 := Nat.ne_of_lt (Nat.lt_of_lt_of_le V_x3.lt (Nat.le_of_eq g68.symm))
    have g_b68 : n0 ≤ b68 := Nat.le_trans (Nat.le_trans Z0 K66.1) (Nat.le_of_eq g68.symm)
    have sz_b68 : h0.size ≤ b68 := Nat.le_trans K66.1 (Nat.le_of_eq g68.symm)
    have E_x0 := E_x0.ext E68
    have V_cp := V_cp.ext E68
    have V_x1 := V_x1.ext E68
    have E_b3 := E_b3.ext E68
    have V_x2 := V_x2.ext E68
    have V_b3 := V_b3.ext E68
    have V_x3 := V_x3.ext E68
    have NB := own_all.ext E68 NB
    have K68 := K66.ext E68
    have E_b68 : Exa Z h68 b68 "[I" := B68
    have V_b68 : Arv Z h68 b68 k68 .int (3 : Int32) [(.int 0), (.int 0), (.int 0)] (.int 0) := (Arv.new A68 (by decide)).pad (pad_rep [] (.int 0) 3)
    refine Goes.st st68 ?_
    refine Goes.hrun X68 e68 CX (own_c2 V_x3 NB) (L := [.p 174 (.astore 6) 2, .p 176 (.lconst 0) 1, .p 177 (.lstore 7) 2, .p 179 (.iconst 0) 1, .p 180 (.istore 9) 2, .p 182 (.aload_n 0) 1, .f 183 32 2, .p 186 (.istore 10) 2, .p 188 (.iload 10) 2, .p 190 (.aload_n 0) 1, .f 191 35 3, .c 194 .ne 153 true, .p 347 (.aload_n 3) 1, .p 348 (.iload 10) 2, .I 350 0 2, .p 351 (.istore 11) 2]) (by decide +kernel) rfl (g' := (mkF m 353 #[rv x0, rv x1, rv x2, rv x3, rv b3, iv 4, rv b68, jv 0, .second, iv 0, iv 2, iv 4, .unset, .unset] [])) rfl ⟨rr, rr, by decide, ra (by decide), trivial⟩ ?_
    intro T72 X72 e72
    refine Goes.hrun X72 e72 CX (own_c2 V_x2 NB) (L := [.p 353 (.iload 11) 2, .b 355 .lt 45 false, .p 358 (.aload_n 2) 1, .p 359 (.aload_n 0) 1, .f 360 9 5, .p 363 (.iload 11) 2, .I 365 10 4, .I 366 0 0, .p 367 (.aload_n 2) 1, .p 368 (.iload 10) 2, .I 370 0 2, .p 371 (.iconst 1) 1, .p 372 .iadd 1, .c 373 .ne 15 false, .p 376 (.aload_n 0) 1, .p 377 (.iload 11) 2]) (by decide +kernel) rfl (g' := (mkF m 379 #[rv x0, rv x1, rv x2, rv x3, rv b3, iv 4, rv b68, jv 0, .second, iv 0, iv 2, iv 4, .unset, .unset] [(.int 4), (.ref x0)])) rfl ⟨by decide, rr, ra (by decide), ra (by decide), ra (by decide), by decide, trivial⟩ ?_
    intro T73 X73 e73
    refine Goes.run X73 hx hown hci hcl hby (L := [(379, .iload 10, 2), (381, .aload_n 1, 1)]) (by decide +kernel) rfl (g' := (mkF m 382 #[rv x0, rv x1, rv x2, rv x3, rv b3, iv 4, rv b68, jv 0, .second, iv 0, iv 2, iv 4, .unset, .unset] [(.ref x1), (.int 2), (.int 4), (.ref x0)])) rfl ?_
    obtain ⟨cq74, q74a, q74b⟩ := E_x0.cell
    obtain ⟨_, _, ⟨T74, L74, k74, n74⟩, -, X74, ⟨Lc74, hQ74, l74, y74, z74⟩, st74⟩ := X73.privateBack hx (y := ym9) hown (mvT hZ w_113) (mvT hZ w_114) (own_selp (y := ym9) (mvT hZ w_4) (mvP hZ w_115) (mvT hZ w_114) (by decide)) (Cond.privateMethod_at (mvP hZ w_115 (args := #[]))) (mvT hZ w_116) (by decide) (backOf (W := 0) (rmE4 l Z a0 hw [] x0 x1 hd nx cp co fa lo khd knx kco kfa kcp klo cA nA cB nB la lb kx1 q0 q1 q2 q3 q4 q5 q4 q7 pP h68 n0 (Nat.le_trans Z0 K68.1) NB V_cp V_x1) hZ w_116 w_5 (by decide) (by decide)) (g := (mkF m 382 #[rv x0, rv x1, rv x2, rv x3, rv b3, iv 4, rv b68, jv 0, .second, iv 0, iv 2, iv 4, .unset, .unset] [(.ref x1), (.int 2), (.int 4), (.ref x0)])) rfl (by rw [hml]; rfl) (Steps.refl _) (a := x0) (by rw [e73]; exact q74a) q74b (argsL := [(.int 4), (.int 2), (.ref x1)]) (rest := []) (lenOf pdF_1 rfl) rfl (by show 2 * 0 + _ ≤ _; exact Nat.le_of_eq rfl) (hb hby d11_382) (fun _ _ => ⟨rfl, e73, (by decide : 2 + 0 ≤ _), (by decide : 7 + 0 ≤ _)⟩)
    dsimp only [Pt.U, Pt.locs, Pt.cells, Pt.slots] at X74 l74 y74 z74 st74 hQ74
    subst l74 y74 z74
    obtain ⟨rfl, N74q, e74⟩ := hQ74
    have N74 := Fr.app N66 N74q
    refine Goes.st (fun t k => st74.trans k) ?_
    refine Goes.hrun X74 e74 CX NB (L := [.b 385 .ne 15 true, .p 400 (.aload_n 3) 1, .p 401 (.iload 10) 2, .p 403 (.iload 11) 2]) (by decide +kernel) rfl (g' := (mkF m 405 #[rv x0, rv x1, rv x2, rv x3, rv b3, iv 4, rv b68, jv 0, .second, iv 0, iv 2, iv 4, .unset, .unset] [(.int 4), (.int 2), (.ref x3)])) rfl ⟨(if0 _ _).trans (feq (own_t1 pz4 : ¬ ((rE4 q4) = (0 : Int32)))).2, trivial⟩ ?_
    intro T76 X76 e76
    refine Goes.sI X76 e76 hx hZ V_x3 (i := 2) (own_ixok (by decide)) (Nat.le_of_ble_eq_true rfl) N74 g_x3 rfl rfl (hb hby d11_405) ?_
    intro T77 h77 L77 X77 e77 W77 (V_x3 : Arv Z h77 x3 kx3 .int (4 : Int32) [(.int 5), (.int 6), (.int 4), (.int 7)] (.int (0 : Int32))) N77
    have NB := own_all.wr W77 d_x3 NB
    have E_x0 := E_x0.wr W77
    have V_cp := V_cp.other W77 (Ne.symm ne_x3_cp)
    have V_x1 := V_x1.other W77 (Ne.symm ne_x3_x1)
    have E_b3 := E_b3.wr W77
    have V_x2 := V_x2.other W77 ne_x2_x3
    have V_b3 := V_b3.other W77 (Ne.symm ne_x3_b3)
    have E_b68 := E_b68.wr W77
    have V_b68 := V_b68.other W77 (Ne.symm ne_x3_b68)
    have K77 := K68.wr W77 (Or.inl (List.mem_of_getElem? (i := 1) rfl))
    refine Goes.hrun X77 e77 CX NB (L := [.p 406 (.iload 11) 2, .b 408 .lt 25 false, .p 411 (.aload 6) 2, .p 413 (.iload 9) 2, .p 415 (.iinc 9 1) 3, .p 418 (.iload 11) 2]) (by decide +kernel) rfl (g' := (mkF m 420 #[rv x0, rv x1, rv x2, rv x3, rv b3, iv 4, rv b68, jv 0, .second, iv 1, iv 2, iv 4, .unset, .unset] [(.int 4), (.int 0), (.ref b68)])) rfl ⟨by decide, trivial⟩ ?_
    intro T79 X79 e79
    refine Goes.sI X79 e79 hx hZ V_b68 (i := 0) (own_ixok (by decide)) (Nat.le_of_ble_eq_true rfl) N77 g_b68 rfl rfl (hb hby d11_420) ?_
    intro T80 h80 L80 X80 e80 W80 (V_b68 : Arv Z h80 b68 k68 .int (3 : Int32) [(.int 4), (.int 0), (.int 0)] (.int 0)) N80
    have NB := own_all.wr W80 d_b68 NB
    have E_x0 := E_x0.wr W80
    have V_cp := V_cp.other W80 ne_cp_b68
    have V_x1 := V_x1.other W80 ne_x1_b68
    have E_b3 := E_b3.wr W80
    have V_x2 := V_x2.other W80 ne_x2_b68
    have V_b3 := V_b3.other W80 ne_b3_b68
    have E_b68 := E_b68.wr W80
    have V_x3 := V_x3.other W80 ne_x3_b68
    have K80 := K77.wr W80 (Or.inr sz_b68)
    refine Goes.hrun X80 e80 CX (own_c2 V_x3 NB) (L := [.p 421 (.aload_n 0) 1, .f 422 9 5, .p 425 (.iload 11) 2, .I 427 10 4, .p 428 (.istore 10) 2, .p 430 (.goto 62) 3, .p 492 (.goto (-304)) 3, .p 188 (.iload 10) 2, .p 190 (.aload_n 0) 1, .f 191 35 3, .c 194 .ne 153 true, .p 347 (.aload_n 3) 1, .p 348 (.iload 10) 2, .I 350 0 0, .p 351 (.istore 11) 2, .p 353 (.iload 11) 2]) (by decide +kernel) rfl (g' := (mkF m 355 #[rv x0, rv x1, rv x2, rv x3, rv b3, iv 4, rv b68, jv 0, .second, iv 1, iv 0, iv 5, .unset, .unset] [(.int 5)])) rfl ⟨rr, ra (by decide), rr, by decide, ra (by decide), trivial⟩ ?_
    intro T86 X86 e86
    refine Goes.hrun X86 e86 CX (own_c2 V_x2 NB) (L := [.b 355 .lt 45 false, .p 358 (.aload_n 2) 1, .p 359 (.aload_n 0) 1, .f 360 9 5, .p 363 (.iload 11) 2, .I 365 10 5, .I 366 0 2, .p 367 (.aload_n 2) 1, .p 368 (.iload 10) 2, .I 370 0 0, .p 371 (.iconst 1) 1, .p 372 .iadd 1, .c 373 .ne 15 true, .p 388 (.aload_n 0) 1, .f 389 15 6, .p 392 (.iload 11) 2]) (by decide +kernel) rfl (g' := (mkF m 394 #[rv x0, rv x1, rv x2, rv x3, rv b3, iv 4, rv b68, jv 0, .second, iv 1, iv 0, iv 5, .unset, .unset] [(.int 5), (.ref nx)])) rfl ⟨by decide, rr, ra (by decide), ra (by decide), ra (by decide), by decide, rr, trivial⟩ ?_
    intro T87 X87 e87
    refine Goes.hrun X87 e87 CX (own_c2 V_x2 NB) (L := [.I 394 11 5, .p 395 (.istore 11) 2, .p 397 (.goto (-44)) 3, .p 353 (.iload 11) 2, .b 355 .lt 45 false, .p 358 (.aload_n 2) 1, .p 359 (.aload_n 0) 1, .f 360 9 5, .p 363 (.iload 11) 2, .I 365 10 2, .I 366 0 1, .p 367 (.aload_n 2) 1, .p 368 (.iload 10) 2, .I 370 0 0, .p 371 (.iconst 1) 1, .p 372 .iadd 1]) (by decide +kernel) rfl (g' := (mkF m 373 #[rv x0, rv x1, rv x2, rv x3, rv b3, iv 4, rv b68, jv 0, .second, iv 1, iv 0, iv 2, .unset, .unset] [(.int 2), (.int 2)])) rfl ⟨ra (by decide), by decide, rr, ra (by decide), ra (by decide), ra (by decide), trivial⟩ ?_
    intro T88 X88 e88
    refine Goes.hrun X88 e88 CX NB (L := [.c 373 .ne 15 false, .p 376 (.aload_n 0) 1, .p 377 (.iload 11) 2, .p 379 (.iload 10) 2, .p 381 (.aload_n 1) 1]) (by decide +kernel) rfl (g' := (mkF m 382 #[rv x0, rv x1, rv x2, rv x3, rv b3, iv 4, rv b68, jv 0, .second, iv 1, iv 0, iv 2, .unset, .unset] [(.ref x1), (.int 0), (.int 2), (.ref x0)])) rfl ⟨by decide, trivial⟩ ?_
    intro T89 X89 e89
    obtain ⟨cq90, q90a, q90b⟩ := E_x0.cell
    obtain ⟨_, _, ⟨T90, L90, k90, n90⟩, -, X90, ⟨Lc90, hQ90, l90, y90, z90⟩, st90⟩ := X89.privateBack hx (y := ym9) hown (mvT hZ w_113) (mvT hZ w_114) (own_selp (y := ym9) (mvT hZ w_4) (mvP hZ w_115) (mvT hZ w_114) (by decide)) (Cond.privateMethod_at (mvP hZ w_115 (args := #[]))) (mvT hZ w_116) (by decide) (backOf (W := 0) (rmE2 l Z a0 hw [] x0 x1 hd nx cp co fa lo khd knx kco kfa kcp klo cA nA cB nB la lb kx1 q0 q1 q2 q3 q4 q5 q4 q7 pP h80 n0 (Nat.le_trans Z0 K80.1) NB V_cp V_x1) hZ w_116 w_5 (by decide) (by decide)) (g := (mkF m 382 #[rv x0, rv x1, rv x2, rv x3, rv b3, iv 4, rv b68, jv 0, .second, iv 1, iv 0, iv 2, .unset, .unset] [(.ref x1), (.int 0), (.int 2), (.ref x0)])) rfl (by rw [hml]; rfl) (Steps.refl _) (a := x0) (by rw [e89]; exact q90a) q90b (argsL := [(.int 2), (.int 0), (.ref x1)]) (rest := []) (lenOf pdF_1 rfl) rfl (by show 2 * 0 + _ ≤ _; exact Nat.le_of_eq rfl) (hb hby d11_382) (fun _ _ => ⟨rfl, e89, (by decide : 2 + 0 ≤ _), (by decide : 7 + 0 ≤ _)⟩)
    dsimp only [Pt.U, Pt.locs, Pt.cells, Pt.slots] at X90 l90 y90 z90 st90 hQ90
    subst l90 y90 z90
    obtain ⟨rfl, N90q, e90⟩ := hQ90
    have N90 := Fr.app N80 N90q
    refine Goes.st (fun t k => st90.trans k) ?_
    refine Goes.hrun X90 e90 CX (own_c2 V_x2 NB) (L := [.b 385 .ne 15 false, .p 388 (.aload_n 0) 1, .f 389 15 6, .p 392 (.iload 11) 2, .I 394 11 2, .p 395 (.istore 11) 2, .p 397 (.goto (-44)) 3, .p 353 (.iload 11) 2, .b 355 .lt 45 false, .p 358 (.aload_n 2) 1, .p 359 (.aload_n 0) 1, .f 360 9 5, .p 363 (.iload 11) 2, .I 365 10 0, .I 366 0 1, .p 367 (.aload_n 2) 1]) (by decide +kernel) rfl (g' := (mkF m 368 #[rv x0, rv x1, rv x2, rv x3, rv b3, iv 4, rv b68, jv 0, .second, iv 1, iv 0, iv 0, .unset, .unset] [(.ref x2), (.int 2)])) rfl ⟨(if0 _ _).trans (teq (own_g2 hN : (rE2 cB q2 pP) = (0 : Int32))).2, rr, ra (by decide), by decide, rr, ra (by decide), ra (by decide), trivial⟩ ?_
    intro T94 X94 e94
    refine Goes.hrun X94 e94 CX (own_c2 V_x2 NB) (L := [.p 368 (.iload 10) 2, .I 370 0 0, .p 371 (.iconst 1) 1, .p 372 .iadd 1, .c 373 .ne 15 false, .p 376 (.aload_n 0) 1, .p 377 (.iload 11) 2, .p 379 (.iload 10) 2, .p 381 (.aload_n 1) 1]) (by decide +kernel) rfl (g' := (mkF m 382 #[rv x0, rv x1, rv x2, rv x3, rv b3, iv 4, rv b68, jv 0, .second, iv 1, iv 0, iv 0, .unset, .unset] [(.ref x1), (.int 0), (.int 0), (.ref x0)])) rfl ⟨ra (by decide), by decide, trivial⟩ ?_
    intro T95 X95 e95
    obtain ⟨cq96, q96a, q96b⟩ := E_x0.cell
    obtain ⟨_, _, ⟨T96, L96, k96, n96⟩, -, X96, ⟨Lc96, hQ96, l96, y96, z96⟩, st96⟩ := X95.privateBack hx (y := ym9) hown (mvT hZ w_113) (mvT hZ w_114) (own_selp (y := ym9) (mvT hZ w_4) (mvP hZ w_115) (mvT hZ w_114) (by decide)) (Cond.privateMethod_at (mvP hZ w_115 (args := #[]))) (mvT hZ w_116) (by decide) (backOf (W := 0) (rmE0 l Z a0 hw [] x0 x1 hd nx cp co fa lo khd knx kco kfa kcp klo cA nA cB nB la lb kx1 q0 q1 q2 q3 q4 q5 q4 q7 pP h80 n0 (Nat.le_trans Z0 K80.1) NB V_cp V_x1) hZ w_116 w_5 (by decide) (by decide)) (g := (mkF m 382 #[rv x0, rv x1, rv x2, rv x3, rv b3, iv 4, rv b68, jv 0, .second, iv 1, iv 0, iv 0, .unset, .unset] [(.ref x1), (.int 0), (.int 0), (.ref x0)])) rfl (by rw [hml]; rfl) (Steps.refl _) (a := x0) (by rw [e95]; exact q96a) q96b (argsL := [(.int 0), (.int 0), (.ref x1)]) (rest := []) (lenOf pdF_1 rfl) rfl (by show 2 * 0 + _ ≤ _; exact Nat.le_of_eq rfl) (hb hby d11_382) (fun _ _ => ⟨rfl, e95, (by decide : 2 + 0 ≤ _), (by decide : 7 + 0 ≤ _)⟩)
    dsimp only [Pt.U, Pt.locs, Pt.cells, Pt.slots] at X96 l96 y96 z96 st96 hQ96
    subst l96 y96 z96
    obtain ⟨rfl, N96q, e96⟩ := hQ96
    have N96 := Fr.app N90 N96q
    refine Goes.st (fun t k => st96.trans k) ?_
    refine Goes.hrun X96 e96 CX NB (L := [.b 385 .ne 15 true, .p 400 (.aload_n 3) 1, .p 401 (.iload 10) 2, .p 403 (.iload 11) 2]) (by decide +kernel) rfl (g' := (mkF m 405 #[rv x0, rv x1, rv x2, rv x3, rv b3, iv 4, rv b68, jv 0, .second, iv 1, iv 0, iv 0, .unset, .unset] [(.int 0), (.int 0), (.ref x3)])) rfl ⟨(if0 _ _).trans (feq (own_t2 hk hP : ¬ ((rE0 cA q0 pP) = (0 : Int32)))).2, trivial⟩ ?_
    intro T98 X98 e98
    refine Goes.sI X98 e98 hx hZ V_x3 (i := 0) (own_ixok (by decide)) (Nat.le_of_ble_eq_true rfl) N96 g_x3 rfl rfl (hb hby d11_405) ?_
    intro T99 h99 L99 X99 e99 W99 (V_x3 : Arv Z h99 x3 kx3 .int (4 : Int32) [(.int 0), (.int 6), (.int 4), (.int 7)] (.int (0 : Int32))) N99
    have NB := own_all.wr W99 d_x3 NB
    have E_x0 := E_x0.wr W99
    have V_cp := V_cp.other W99 (Ne.symm ne_x3_cp)
    have V_x1 := V_x1.other W99 (Ne.symm ne_x3_x1)
    have E_b3 := E_b3.wr W99
    have V_x2 := V_x2.other W99 ne_x2_x3
    have V_b3 := V_b3.other W99 (Ne.symm ne_x3_b3)
    have E_b68 := E_b68.wr W99
    have V_b68 := V_b68.other W99 (Ne.symm ne_x3_b68)
    have K99 := K80.wr W99 (Or.inl (List.mem_of_getElem? (i := 1) rfl))
    refine Goes.hrun X99 e99 CX NB (L := [.p 406 (.iload 11) 2, .b 408 .lt 25 false, .p 411 (.aload 6) 2, .p 413 (.iload 9) 2, .p 415 (.iinc 9 1) 3, .p 418 (.iload 11) 2]) (by decide +kernel) rfl (g' := (mkF m 420 #[rv x0, rv x1, rv x2, rv x3, rv b3, iv 4, rv b68, jv 0, .second, iv 2, iv 0, iv 0, .unset, .unset] [(.int 0), (.int 1), (.ref b68)])) rfl ⟨by decide, trivial⟩ ?_
    intro T101 X101 e101
    refine Goes.sI X101 e101 hx hZ V_b68 (i := 1) (own_ixok (by decide)) (Nat.le_of_ble_eq_true rfl) N99 g_b68 rfl rfl (hb hby d11_420) ?_
    intro T102 h102 L102 X102 e102 W102 (V_b68 : Arv Z h102 b68 k68 .int (3 : Int32) [(.int 4), (.int 0), (.int 0)] (.int 0)) N102
    have NB := own_all.wr W102 d_b68 NB
    have E_x0 := E_x0.wr W102
    have V_cp := V_cp.other W102 ne_cp_b68
    have V_x1 := V_x1.other W102 ne_x1_b68
    have E_b3 := E_b3.wr W102
    have V_x2 := V_x2.other W102 ne_x2_b68
    have V_b3 := V_b3.other W102 ne_b3_b68
    have E_b68 := E_b68.wr W102
    have V_x3 := V_x3.other W102 ne_x3_b68
    have K102 := K99.wr W102 (Or.inr sz_b68)
    refine Goes.hrun X102 e102 CX (own_c2 V_x3 NB) (L := [.p 421 (.aload_n 0) 1, .f 422 9 5, .p 425 (.iload 11) 2, .I 427 10 0, .p 428 (.istore 10) 2, .p 430 (.goto 62) 3, .p 492 (.goto (-304)) 3, .p 188 (.iload 10) 2, .p 190 (.aload_n 0) 1, .f 191 35 3, .c 194 .ne 153 true, .p 347 (.aload_n 3) 1, .p 348 (.iload 10) 2, .I 350 0 1, .p 351 (.istore 11) 2, .p 353 (.iload 11) 2]) (by decide +kernel) rfl (g' := (mkF m 355 #[rv x0, rv x1, rv x2, rv x3, rv b3, iv 4, rv b68, jv 0, .second, iv 2, iv 1, iv 6, .unset, .unset] [(.int 6)])) rfl ⟨rr, ra (by decide), rr, by decide, ra (by decide), trivial⟩ ?_
    intro T106 X106 e106
    refine Goes.hrun X106 e106 CX (own_c2 V_x2 NB) (L := [.b 355 .lt 45 false, .p 358 (.aload_n 2) 1, .p 359 (.aload_n 0) 1, .f 360 9 5, .p 363 (.iload 11) 2, .I 365 10 6, .I 366 0 3, .p 367 (.aload_n 2) 1, .p 368 (.iload 10) 2, .I 370 0 1, .p 371 (.iconst 1) 1, .p 372 .iadd 1, .c 373 .ne 15 false, .p 376 (.aload_n 0) 1, .p 377 (.iload 11) 2, .p 379 (.iload 10) 2]) (by decide +kernel) rfl (g' := (mkF m 381 #[rv x0, rv x1, rv x2, rv x3, rv b3, iv 4, rv b68, jv 0, .second, iv 2, iv 1, iv 6, .unset, .unset] [(.int 1), (.int 6), (.ref x0)])) rfl ⟨by decide, rr, ra (by decide), ra (by decide), ra (by decide), by decide, trivial⟩ ?_
    intro T107 X107 e107
    refine Goes.run X107 hx hown hci hcl hby (L := [(381, .aload_n 1, 1)]) (by decide +kernel) rfl (g' := (mkF m 382 #[rv x0, rv x1, rv x2, rv x3, rv b3, iv 4, rv b68, jv 0, .second, iv 2, iv 1, iv 6, .unset, .unset] [(.ref x1), (.int 1), (.int 6), (.ref x0)])) rfl ?_
    obtain ⟨cq108, q108a, q108b⟩ := E_x0.cell
    obtain ⟨_, _, ⟨T108, L108, k108, n108⟩, -, X108, ⟨Lc108, hQ108, l108, y108, z108⟩, st108⟩ := X107.privateBack hx (y := ym9) hown (mvT hZ w_113) (mvT hZ w_114) (own_selp (y := ym9) (mvT hZ w_4) (mvP hZ w_115) (mvT hZ w_114) (by decide)) (Cond.privateMethod_at (mvP hZ w_115 (args := #[]))) (mvT hZ w_116) (by decide) (backOf (W := 0) (rmE6 l Z a0 hw [] x0 x1 hd nx cp co fa lo khd knx kco kfa kcp klo cA nA cB nB la lb kx1 q0 q1 q2 q3 q4 q5 q4 q7 pP h102 n0 (Nat.le_trans Z0 K102.1) NB V_cp V_x1) hZ w_116 w_5 (by decide) (by decide)) (g := (mkF m 382 #[rv x0, rv x1, rv x2, rv x3, rv b3, iv 4, rv b68, jv 0, .second, iv 2, iv 1, iv 6, .unset, .unset] [(.ref x1), (.int 1), (.int 6), (.ref x0)])) rfl (by rw [hml]; rfl) (Steps.refl _) (a := x0) (by rw [e107]; exact q108a) q108b (argsL := [(.int 6), (.int 1), (.ref x1)]) (rest := []) (lenOf pdF_1 rfl) rfl (by show 2 * 0 + _ ≤ _; exact Nat.le_of_eq rfl) (hb hby d11_382) (fun _ _ => ⟨rfl, e107, (by decide : 2 + 0 ≤ _), (by decide : 7 + 0 ≤ _)⟩)
    dsimp only [Pt.U, Pt.locs, Pt.cells, Pt.slots] at X108 l108 y108 z108 st108 hQ108
    subst l108 y108 z108
    obtain ⟨rfl, N108q, e108⟩ := hQ108
    have N108 := Fr.app N102 N108q
    refine Goes.st (fun t k => st108.trans k) ?_
    refine Goes.hrun X108 e108 CX NB (L := [.b 385 .ne 15 true, .p 400 (.aload_n 3) 1, .p 401 (.iload 10) 2, .p 403 (.iload 11) 2]) (by decide +kernel) rfl (g' := (mkF m 405 #[rv x0, rv x1, rv x2, rv x3, rv b3, iv 4, rv b68, jv 0, .second, iv 2, iv 1, iv 6, .unset, .unset] [(.int 6), (.int 1), (.ref x3)])) rfl ⟨(if0 _ _).trans (feq (own_t2 pz4 (own_zz pP) : ¬ ((rE6 q4 pP) = (0 : Int32)))).2, trivial⟩ ?_
    intro T110 X110 e110
    refine Goes.sI X110 e110 hx hZ V_x3 (i := 1) (own_ixok (by decide)) (Nat.le_of_ble_eq_true rfl) N108 g_x3 rfl rfl (hb hby d11_405) ?_
    intro T111 h111 L111 X111 e111 W111 (V_x3 : Arv Z h111 x3 kx3 .int (4 : Int32) [(.int 0), (.int 6), (.int 4), (.int 7)] (.int (0 : Int32))) N111
    have NB := own_all.wr W111 d_x3 NB
    have E_x0 := E_x0.wr W111
    have V_cp := V_cp.other W111 (Ne.symm ne_x3_cp)
    have V_x1 := V_x1.other W111 (Ne.symm ne_x3_x1)
    have E_b3 := E_b3.wr W111
    have V_x2 := V_x2.other W111 ne_x2_x3
    have V_b3 := V_b3.other W111 (Ne.symm ne_x3_b3)
    have E_b68 := E_b68.wr W111
    have V_b68 := V_b68.other W111 (Ne.symm ne_x3_b68)
    have K111 := K102.wr W111 (Or.inl (List.mem_of_getElem? (i := 1) rfl))
    refine Goes.hrun X111 e111 CX NB (L := [.p 406 (.iload 11) 2, .b 408 .lt 25 false, .p 411 (.aload 6) 2, .p 413 (.iload 9) 2, .p 415 (.iinc 9 1) 3, .p 418 (.iload 11) 2]) (by decide +kernel) rfl (g' := (mkF m 420 #[rv x0, rv x1, rv x2, rv x3, rv b3, iv 4, rv b68, jv 0, .second, iv 3, iv 1, iv 6, .unset, .unset] [(.int 6), (.int 2), (.ref b68)])) rfl ⟨by decide, trivial⟩ ?_
    intro T113 X113 e113
    refine Goes.sI X113 e113 hx hZ V_b68 (i := 2) (own_ixok (by decide)) (Nat.le_of_ble_eq_true rfl) N111 g_b68 rfl rfl (hb hby d11_420) ?_
    intro T114 h114 L114 X114 e114 W114 (V_b68 : Arv Z h114 b68 k68 .int (3 : Int32) [(.int 4), (.int 0), (.int 6)] (.int 0)) N114
    have NB := own_all.wr W114 d_b68 NB
    have E_x0 := E_x0.wr W114
    have V_cp := V_cp.other W114 ne_cp_b68
    have V_x1 := V_x1.other W114 ne_x1_b68
    have E_b3 := E_b3.wr W114
    have V_x2 := V_x2.other W114 ne_x2_b68
    have V_b3 := V_b3.other W114 ne_b3_b68
    have E_b68 := E_b68.wr W114
    have V_x3 := V_x3.other W114 ne_x3_b68
    have K114 := K111.wr W114 (Or.inr sz_b68)
    refine Goes.hrun X114 e114 CX NB (L := [.p 421 (.aload_n 0) 1, .f 422 9 4, .p 425 (.iload 11) 2, .I 427 9 6, .p 428 (.istore 10) 2, .p 430 (.goto 62) 3, .p 492 (.goto (-304)) 3, .p 188 (.iload 10) 2, .p 190 (.aload_n 0) 1, .f 191 35 2, .c 194 .ne 153 false, .p 197 (.ldc2_w 119) 3, .p 200 (.lstore 11) 2, .p 202 (.iconst 0) 1, .p 203 (.istore 13) 2, .p 205 (.iload 13) 2]) (by decide +kernel) rfl (g' := (mkF m 207 #[rv x0, rv x1, rv x2, rv x3, rv b3, iv 4, rv b68, jv 0, .second, iv 3, iv 3, jv 2305843009213693951, .second, iv 0] [(.int 0)])) rfl ⟨rr, ra (by decide), rr, by decide, trivial⟩ ?_
    intro T117 X117 e117
    refine Goes.hrun X117 e117 CX (own_c2 V_b68 (own_c2 V_cp NB)) (L := [.p 207 (.iload 9) 2, .c 209 .ge 26 false, .p 212 (.lload 11) 2, .p 214 (.aload_n 0) 1, .f 215 18 8, .p 218 (.aload 6) 2, .p 220 (.iload 13) 2, .I 222 0 0, .J 223 1 4]) (by decide +kernel) rfl (g' := (mkF m 224 #[rv x0, rv x1, rv x2, rv x3, rv b3, iv 4, rv b68, jv 0, .second, iv 3, iv 3, jv 2305843009213693951, .second, iv 0] [(.long q4), (.long 2305843009213693951)])) rfl ⟨by decide, rr, ra (by decide), ra (by decide), trivial⟩ ?_
    intro T118 X118 e118
    obtain ⟨_, _, ⟨T119, L119, k119, n119⟩, -, X119, ⟨Lc119, hQ119, l119, y119, z119⟩, st119⟩ := Jvm.LawKit.callS X118 hx (y := ym2) hown (mvT hZ w_122) (mvT hZ w_65) (mvT hZ w_66) (mvT hZ w_67) (by decide) (backOf (W := 0) (rm3 l Z a0 hw [] (2305843009213693951 : Int64) q4 h114 n0 (Nat.le_trans Z0 K114.1) ) hZ w_67 w_66 (by decide) (by decide)) (g := (mkF m 224 #[rv x0, rv x1, rv x2, rv x3, rv b3, iv 4, rv b68, jv 0, .second, iv 3, iv 3, jv 2305843009213693951, .second, iv 0] [(.long q4), (.long 2305843009213693951)])) rfl (by rw [hml]; rfl) (argsL := [(.long 2305843009213693951), (.long q4)]) (rest := []) (lenOf pdF_2 rfl) rfl (by show 2 * 0 + _ ≤ _; exact Nat.le_of_eq rfl) (hb hby d11_224) (fun _ _ => ⟨rfl, e118, (by decide : 2 + 0 ≤ _), (by decide : 7 + 0 ≤ _)⟩)
    dsimp only [Pt.U, Pt.locs, Pt.cells, Pt.slots] at X119 l119 y119 z119 st119 hQ119
    subst l119 y119 z119
    obtain ⟨rfl, N119q, e119⟩ := hQ119
    have N119 := Fr.app N114 N119q
    refine Goes.st st119 ?_
    refine Goes.hrun X119 e119 CX (own_c2 V_b68 (own_c2 V_cp NB)) (L := [.p 227 (.lstore 11) 2, .p 229 (.iinc 13 1) 3, .p 232 (.goto (-27)) 3, .p 205 (.iload 13) 2, .p 207 (.iload 9) 2, .c 209 .ge 26 false, .p 212 (.lload 11) 2, .p 214 (.aload_n 0) 1, .f 215 18 8, .p 218 (.aload 6) 2, .p 220 (.iload 13) 2, .I 222 0 1, .J 223 1 0]) (by decide +kernel) rfl (g' := (mkF m 224 #[rv x0, rv x1, rv x2, rv x3, rv b3, iv 4, rv b68, jv 0, .second, iv 3, iv 3, jv (wF_227 q0 q1 q2 q3 q4 q5 q7), .second, iv 1] [(.long q0), (.long (wF_227 q0 q1 q2 q3 q4 q5 q7))])) rfl ⟨by decide, rr, ra (by decide), ra (by decide), trivial⟩ ?_
    intro T121 X121 e121
    obtain ⟨_, _, ⟨T122, L122, k122, n122⟩, -, X122, ⟨Lc122, hQ122, l122, y122, z122⟩, st122⟩ := Jvm.LawKit.callS X121 hx (y := ym2) hown (mvT hZ w_122) (mvT hZ w_65) (mvT hZ w_66) (mvT hZ w_67) (by decide) (backOf (W := 0) (rm3 l Z a0 hw [] (wF_227 q0 q1 q2 q3 q4 q5 q7) q0 h114 n0 (Nat.le_trans Z0 K114.1) ) hZ w_67 w_66 (by decide) (by decide)) (g := (mkF m 224 #[rv x0, rv x1, rv x2, rv x3, rv b3, iv 4, rv b68, jv 0, .second, iv 3, iv 3, jv (wF_227 q0 q1 q2 q3 q4 q5 q7), .second, iv 1] [(.long q0), (.long (wF_227 q0 q1 q2 q3 q4 q5 q7))])) rfl (by rw [hml]; rfl) (argsL := [(.long (wF_227 q0 q1 q2 q3 q4 q5 q7)), (.long q0)]) (rest := []) (lenOf pdF_2 rfl) rfl (by show 2 * 0 + _ ≤ _; exact Nat.le_of_eq rfl) (hb hby d11_224) (fun _ _ => ⟨rfl, e121, (by decide : 2 + 0 ≤ _), (by decide : 7 + 0 ≤ _)⟩)
    dsimp only [Pt.U, Pt.locs, Pt.cells, Pt.slots] at X122 l122 y122 z122 st122 hQ122
    subst l122 y122 z122
    obtain ⟨rfl, N122q, e122⟩ := hQ122
    have N122 := Fr.app N119 N122q
    refine Goes.st st122 ?_
    refine Goes.hrun X122 e122 CX (own_c2 V_b68 (own_c2 V_cp NB)) (L := [.p 227 (.lstore 11) 2, .p 229 (.iinc 13 1) 3, .p 232 (.goto (-27)) 3, .p 205 (.iload 13) 2, .p 207 (.iload 9) 2, .c 209 .ge 26 false, .p 212 (.lload 11) 2, .p 214 (.aload_n 0) 1, .f 215 18 8, .p 218 (.aload 6) 2, .p 220 (.iload 13) 2, .I 222 0 2, .J 223 1 6]) (by decide +kernel) rfl (g' := (mkF m 224 #[rv x0, rv x1, rv x2, rv x3, rv b3, iv 4, rv b68, jv 0, .second, iv 3, iv 3, jv (wF_227_a q0 q1 q2 q3 q4 q5 q7), .second, iv 2] [(.long q4), (.long (wF_227_a q0 q1 q2 q3 q4 q5 q7))])) rfl ⟨by decide, rr, ra (by decide), ra (by decide), trivial⟩ ?_
    intro T124 X124 e124
    obtain ⟨_, _, ⟨T125, L125, k125, n125⟩, -, X125, ⟨Lc125, hQ125, l125, y125, z125⟩, st125⟩ := Jvm.LawKit.callS X124 hx (y := ym2) hown (mvT hZ w_122) (mvT hZ w_65) (mvT hZ w_66) (mvT hZ w_67) (by decide) (backOf (W := 0) (rm3 l Z a0 hw [] (wF_227_a q0 q1 q2 q3 q4 q5 q7) q4 h114 n0 (Nat.le_trans Z0 K114.1) ) hZ w_67 w_66 (by decide) (by decide)) (g := (mkF m 224 #[rv x0, rv x1, rv x2, rv x3, rv b3, iv 4, rv b68, jv 0, .second, iv 3, iv 3, jv (wF_227_a q0 q1 q2 q3 q4 q5 q7), .second, iv 2] [(.long q4), (.long (wF_227_a q0 q1 q2 q3 q4 q5 q7))])) rfl (by rw [hml]; rfl) (argsL := [(.long (wF_227_a q0 q1 q2 q3 q4 q5 q7)), (.long q4)]) (rest := []) (lenOf pdF_2 rfl) rfl (by show 2 * 0 + _ ≤ _; exact Nat.le_of_eq rfl) (hb hby d11_224) (fun _ _ => ⟨rfl, e124, (by decide : 2 + 0 ≤ _), (by decide : 7 + 0 ≤ _)⟩)
    dsimp only [Pt.U, Pt.locs, Pt.cells, Pt.slots] at X125 l125 y125 z125 st125 hQ125
    subst l125 y125 z125
    obtain ⟨rfl, N125q, e125⟩ := hQ125
    have N125 := Fr.app N122 N125q
    refine Goes.st st125 ?_
    refine Goes.hrun X125 e125 CX (own_c2 V_b68 NB) (L := [.p 227 (.lstore 11) 2, .p 229 (.iinc 13 1) 3, .p 232 (.goto (-27)) 3, .p 205 (.iload 13) 2, .p 207 (.iload 9) 2, .c 209 .ge 26 true, .p 235 (.iconst 0) 1, .p 236 (.istore 13) 2, .p 238 (.iload 13) 2, .p 240 (.iload 9) 2, .c 242 .ge 41 false, .p 245 (.aload_n 0) 1, .f 246 18 7, .p 249 (.aload 6) 2, .p 251 (.iload 13) 2, .I 253 0 0]) (by decide +kernel) rfl (g' := (mkF m 254 #[rv x0, rv x1, rv x2, rv x3, rv b3, iv 4, rv b68, jv 0, .second, iv 3, iv 3, jv (wF_227_b q0 q1 q2 q3 q4 q5 q7), .second, iv 0] [(.int 4), (.ref cp)])) rfl ⟨by decide, by decide, rr, ra (by decide), trivial⟩ ?_
    intro T128 X128 e128
    refine Goes.st (B := T128.setTop (mkF m 255 #[rv x0, rv x1, rv x2, rv x3, rv b3, iv 4, rv b68, jv 0, .second, iv 3, iv 3, jv (wF_227_b q0 q1 q2 q3 q4 q5 q7), .second, iv 0] [(.int 4), (.ref cp), (.int 4), (.ref cp)])) (fun t k => ?_) ?_
    · refine Jvm.Free.XT.dup2 X128.here hx rfl (hb hby d11_254) rfl rfl rfl ?_
      exact k
    refine Goes.hrun X128 e128 CX (own_c2 V_cp NB) (L := [.J 255 0 4, .p 256 (.lload 11) 2, .p 258 .lsub 1]) (by decide +kernel) rfl (g' := (mkF m 259 #[rv x0, rv x1, rv x2, rv x3, rv b3, iv 4, rv b68, jv 0, .second, iv 3, iv 3, jv (wF_227_b q0 q1 q2 q3 q4 q5 q7), .second, iv 0] [(.long (q4 - (wF_227_b q0 q1 q2 q3 q4 q5 q7))), (.int 4), (.ref cp)])) rfl ⟨ra (by decide), trivial⟩ ?_
    intro T129 X129 e129
    refine Goes.sJ X129 e129 hx hZ V_cp (i := 4) (own_ixok (by decide)) (Nat.le_of_ble_eq_true rfl) N125 g_cp rfl rfl (hb hby d11_259) ?_
    intro T130 h130 L130 X130 e130 W130 (V_cp : Arv Z h130 cp kcp .long (16 : Int32) [(.long q0), (.long q1), (.long q2), (.long q3), (.long (sF_259 q0 q1 q2 q3 q4 q5 q7)), (.long q5), (.long q4), (.long q7)] (.long (0 : Int64))) N130
    have NB := own_all.wr W130 d_cp NB
    have E_x0 := E_x0.wr W130
    have V_x1 := V_x1.other W130 (Ne.symm ne_cp_x1)
    have E_b3 := E_b3.wr W130
    have V_x2 := V_x2.other W130 ne_x2_cp
    have V_b3 := V_b3.other W130 (Ne.symm ne_cp_b3)
    have E_b68 := E_b68.wr W130
    have V_x3 := V_x3.other W130 ne_x3_cp
    have V_b68 := V_b68.other W130 (Ne.symm ne_cp_b68)
    have K130 := K114.wr W130 (Or.inl (List.mem_of_getElem? (i := 2) rfl))
    refine Goes.hrun X130 e130 CX (own_c2 V_b68 NB) (L := [.p 260 (.aload_n 0) 1, .f 261 18 7, .p 264 (.aload 6) 2, .p 266 (.iload 13) 2, .I 268 0 0, .p 269 (.iconst 1) 1, .p 270 .ixor 1]) (by decide +kernel) rfl (g' := (mkF m 271 #[rv x0, rv x1, rv x2, rv x3, rv b3, iv 4, rv b68, jv 0, .second, iv 3, iv 3, jv (wF_227_b q0 q1 q2 q3 q4 q5 q7), .second, iv 0] [(.int 5), (.ref cp)])) rfl ⟨rr, ra (by decide), trivial⟩ ?_
    intro T131 X131 e131
    refine Goes.st (B := T131.setTop (mkF m 272 #[rv x0, rv x1, rv x2, rv x3, rv b3, iv 4, rv b68, jv 0, .second, iv 3, iv 3, jv (wF_227_b q0 q1 q2 q3 q4 q5 q7), .second, iv 0] [(.int 5), (.ref cp), (.int 5), (.ref cp)])) (fun t k => ?_) ?_
    · refine Jvm.Free.XT.dup2 X131.here hx rfl (hb hby d11_271) rfl rfl rfl ?_
      exact k
    refine Goes.hrun X131 e131 CX (own_c2 V_cp NB) (L := [.J 272 0 5, .p 273 (.lload 11) 2, .p 275 .ladd 1]) (by decide +kernel) rfl (g' := (mkF m 276 #[rv x0, rv x1, rv x2, rv x3, rv b3, iv 4, rv b68, jv 0, .second, iv 3, iv 3, jv (wF_227_b q0 q1 q2 q3 q4 q5 q7), .second, iv 0] [(.long (q5 + (wF_227_b q0 q1 q2 q3 q4 q5 q7))), (.int 5), (.ref cp)])) rfl ⟨ra (by decide), trivial⟩ ?_
    intro T132 X132 e132
    refine Goes.sJ X132 e132 hx hZ V_cp (i := 5) (own_ixok (by decide)) (Nat.le_of_ble_eq_true rfl) N130 g_cp rfl rfl (hb hby d11_276) ?_
    intro T133 h133 L133 X133 e133 W133 (V_cp : Arv Z h133 cp kcp .long (16 : Int32) [(.long q0), (.long q1), (.long q2), (.long q3), (.long (sF_259 q0 q1 q2 q3 q4 q5 q7)), (.long (sF_276 q0 q1 q2 q3 q4 q5 q7)), (.long q4), (.long q7)] (.long (0 : Int64))) N133
    have NB := own_all.wr W133 d_cp NB
    have E_x0 := E_x0.wr W133
    have V_x1 := V_x1.other W133 (Ne.symm ne_cp_x1)
    have E_b3 := E_b3.wr W133
    have V_x2 := V_x2.other W133 ne_x2_cp
    have V_b3 := V_b3.other W133 (Ne.symm ne_cp_b3)
    have E_b68 := E_b68.wr W133
    have V_x3 := V_x3.other W133 ne_x3_cp
    have V_b68 := V_b68.other W133 (Ne.symm ne_cp_b68)
    have K133 := K130.wr W133 (Or.inl (List.mem_of_getElem? (i := 2) rfl))
    refine Goes.hrun X133 e133 CX (own_c2 V_b68 NB) (L := [.p 277 (.iinc 13 1) 3, .p 280 (.goto (-42)) 3, .p 238 (.iload 13) 2, .p 240 (.iload 9) 2, .c 242 .ge 41 false, .p 245 (.aload_n 0) 1, .f 246 18 7, .p 249 (.aload 6) 2, .p 251 (.iload 13) 2, .I 253 0 1]) (by decide +kernel) rfl (g' := (mkF m 254 #[rv x0, rv x1, rv x2, rv x3, rv b3, iv 4, rv b68, jv 0, .second, iv 3, iv 3, jv (wF_227_b q0 q1 q2 q3 q4 q5 q7), .second, iv 1] [(.int 0), (.ref cp)])) rfl ⟨by decide, rr, ra (by decide), trivial⟩ ?_
    intro T135 X135 e135
    refine Goes.st (B := T135.setTop (mkF m 255 #[rv x0, rv x1, rv x2, rv x3, rv b3, iv 4, rv b68, jv 0, .second, iv 3, iv 3, jv (wF_227_b q0 q1 q2 q3 q4 q5 q7), .second, iv 1] [(.int 0), (.ref cp), (.int 0), (.ref cp)])) (fun t k => ?_) ?_
    · refine Jvm.Free.XT.dup2 X135.here hx rfl (hb hby d11_254) rfl rfl rfl ?_
      exact k
    refine Goes.hrun X135 e135 CX (own_c2 V_cp NB) (L := [.J 255 0 0, .p 256 (.lload 11) 2, .p 258 .lsub 1]) (by decide +kernel) rfl (g' := (mkF m 259 #[rv x0, rv x1, rv x2, rv x3, rv b3, iv 4, rv b68, jv 0, .second, iv 3, iv 3, jv (wF_227_b q0 q1 q2 q3 q4 q5 q7), .second, iv 1] [(.long (q0 - (wF_227_b q0 q1 q2 q3 q4 q5 q7))), (.int 0), (.ref cp)])) rfl ⟨ra (by decide), trivial⟩ ?_
    intro T136 X136 e136
    refine Goes.sJ X136 e136 hx hZ V_cp (i := 0) (own_ixok (by decide)) (Nat.le_of_ble_eq_true rfl) N133 g_cp rfl rfl (hb hby d11_259) ?_
    intro T137 h137 L137 X137 e137 W137 (V_cp : Arv Z h137 cp kcp .long (16 : Int32) [(.long (sF_259_a q0 q1 q2 q3 q4 q5 q7)), (.long q1), (.long q2), (.long q3), (.long (sF_259 q0 q1 q2 q3 q4 q5 q7)), (.long (sF_276 q0 q1 q2 q3 q4 q5 q7)), (.long q4), (.long q7)] (.long (0 : Int64))) N137
    have NB := own_all.wr W137 d_cp NB
    have E_x0 := E_x0.wr W137
    have V_x1 := V_x1.other W137 (Ne.symm ne_cp_x1)
    have E_b3 := E_b3.wr W137
    have V_x2 := V_x2.other W137 ne_x2_cp
    have V_b3 := V_b3.other W137 (Ne.symm ne_cp_b3)
    have E_b68 := E_b68.wr W137
    have V_x3 := V_x3.other W137 ne_x3_cp
    have V_b68 := V_b68.other W137 (Ne.symm ne_cp_b68)
    have K137 := K133.wr W137 (Or.inl (List.mem_of_getElem? (i := 2) rfl))
    refine Goes.hrun X137 e137 CX (own_c2 V_b68 NB) (L := [.p 260 (.aload_n 0) 1, .f 261 18 7, .p 264 (.aload 6) 2, .p 266 (.iload 13) 2, .I 268 0 1, .p 269 (.iconst 1) 1, .p 270 .ixor 1]) (by decide +kernel) rfl (g' := (mkF m 271 #[rv x0, rv x1, rv x2, rv x3, rv b3, iv 4, rv b68, jv 0, .second, iv 3, iv 3, jv (wF_227_b q0 q1 q2 q3 q4 q5 q7), .second, iv 1] [(.int 1), (.ref cp)])) rfl ⟨rr, ra (by decide), trivial⟩ ?_
    intro T138 X138 e138
    refine Goes.st (B := T138.setTop (mkF m 272 #[rv x0, rv x1, rv x2, rv x3, rv b3, iv 4, rv b68, jv 0, .second, iv 3, iv 3, jv (wF_227_b q0 q1 q2 q3 q4 q5 q7), .second, iv 1] [(.int 1), (.ref cp), (.int 1), (.ref cp)])) (fun t k => ?_) ?_
    · refine Jvm.Free.XT.dup2 X138.here hx rfl (hb hby d11_271) rfl rfl rfl ?_
      exact k
    refine Goes.hrun X138 e138 CX (own_c2 V_cp NB) (L := [.J 272 0 1, .p 273 (.lload 11) 2, .p 275 .ladd 1]) (by decide +kernel) rfl (g' := (mkF m 276 #[rv x0, rv x1, rv x2, rv x3, rv b3, iv 4, rv b68, jv 0, .second, iv 3, iv 3, jv (wF_227_b q0 q1 q2 q3 q4 q5 q7), .second, iv 1] [(.long (q1 + (wF_227_b q0 q1 q2 q3 q4 q5 q7))), (.int 1), (.ref cp)])) rfl ⟨ra (by decide), trivial⟩ ?_
    intro T139 X139 e139
    refine Goes.sJ X139 e139 hx hZ V_cp (i := 1) (own_ixok (by decide)) (Nat.le_of_ble_eq_true rfl) N137 g_cp rfl rfl (hb hby d11_276) ?_
    intro T140 h140 L140 X140 e140 W140 (V_cp : Arv Z h140 cp kcp .long (16 : Int32) [(.long (sF_259_a q0 q1 q2 q3 q4 q5 q7)), (.long (sF_276_a q0 q1 q2 q3 q4 q5 q7)), (.long q2), (.long q3), (.long (sF_259 q0 q1 q2 q3 q4 q5 q7)), (.long (sF_276 q0 q1 q2 q3 q4 q5 q7)), (.long q4), (.long q7)] (.long (0 : Int64))) N140
    have NB := own_all.wr W140 d_cp NB
    have E_x0 := E_x0.wr W140
    have V_x1 := V_x1.other W140 (Ne.symm ne_cp_x1)
    have E_b3 := E_b3.wr W140
    have V_x2 := V_x2.other W140 ne_x2_cp
    have V_b3 := V_b3.other W140 (Ne.symm ne_cp_b3)
    have E_b68 := E_b68.wr W140
    have V_x3 := V_x3.other W140 ne_x3_cp
    have V_b68 := V_b68.other W140 (Ne.symm ne_cp_b68)
    have K140 := K137.wr W140 (Or.inl (List.mem_of_getElem? (i := 2) rfl))
    refine Goes.hrun X140 e140 CX (own_c2 V_b68 NB) (L := [.p 277 (.iinc 13 1) 3, .p 280 (.goto (-42)) 3, .p 238 (.iload 13) 2, .p 240 (.iload 9) 2, .c 242 .ge 41 false, .p 245 (.aload_n 0) 1, .f 246 18 7, .p 249 (.aload 6) 2, .p 251 (.iload 13) 2, .I 253 0 2]) (by decide +kernel) rfl (g' := (mkF m 254 #[rv x0, rv x1, rv x2, rv x3, rv b3, iv 4, rv b68, jv 0, .second, iv 3, iv 3, jv (wF_227_b q0 q1 q2 q3 q4 q5 q7), .second, iv 2] [(.int 6), (.ref cp)])) rfl ⟨by decide, rr, ra (by decide), trivial⟩ ?_
    intro T142 X142 e142
    refine Goes.st (B := T142.setTop (mkF m 255 #[rv x0, rv x1, rv x2, rv x3, rv b3, iv 4, rv b68, jv 0, .second, iv 3, iv 3, jv (wF_227_b q0 q1 q2 q3 q4 q5 q7), .second, iv 2] [(.int 6), (.ref cp), (.int 6), (.ref cp)])) (fun t k => ?_) ?_
    · refine Jvm.Free.XT.dup2 X142.here hx rfl (hb hby d11_254) rfl rfl rfl ?_
      exact k
    refine Goes.hrun X142 e142 CX (own_c2 V_cp NB) (L := [.J 255 0 6, .p 256 (.lload 11) 2, .p 258 .lsub 1]) (by decide +kernel) rfl (g' := (mkF m 259 #[rv x0, rv x1, rv x2, rv x3, rv b3, iv 4, rv b68, jv 0, .second, iv 3, iv 3, jv (wF_227_b q0 q1 q2 q3 q4 q5 q7), .second, iv 2] [(.long (q4 - (wF_227_b q0 q1 q2 q3 q4 q5 q7))), (.int 6), (.ref cp)])) rfl ⟨ra (by decide), trivial⟩ ?_
    intro T143 X143 e143
    refine Goes.sJ X143 e143 hx hZ V_cp (i := 6) (own_ixok (by decide)) (Nat.le_of_ble_eq_true rfl) N140 g_cp rfl rfl (hb hby d11_259) ?_
    intro T144 h144 L144 X144 e144 W144 (V_cp : Arv Z h144 cp kcp .long (16 : Int32) [(.long (sF_259_a q0 q1 q2 q3 q4 q5 q7)), (.long (sF_276_a q0 q1 q2 q3 q4 q5 q7)), (.long q2), (.long q3), (.long (sF_259 q0 q1 q2 q3 q4 q5 q7)), (.long (sF_276 q0 q1 q2 q3 q4 q5 q7)), (.long (sF_259 q0 q1 q2 q3 q4 q5 q7)), (.long q7)] (.long (0 : Int64))) N144
    have NB := own_all.wr W144 d_cp NB
    have E_x0 := E_x0.wr W144
    have V_x1 := V_x1.other W144 (Ne.symm ne_cp_x1)
    have E_b3 := E_b3.wr W144
    have V_x2 := V_x2.other W144 ne_x2_cp
    have V_b3 := V_b3.other W144 (Ne.symm ne_cp_b3)
    have E_b68 := E_b68.wr W144
    have V_x3 := V_x3.other W144 ne_x3_cp
    have V_b68 := V_b68.other W144 (Ne.symm ne_cp_b68)
    have K144 := K140.wr W144 (Or.inl (List.mem_of_getElem? (i := 2) rfl))
    refine Goes.hrun X144 e144 CX (own_c2 V_b68 NB) (L := [.p 260 (.aload_n 0) 1, .f 261 18 7, .p 264 (.aload 6) 2, .p 266 (.iload 13) 2, .I 268 0 2, .p 269 (.iconst 1) 1, .p 270 .ixor 1]) (by decide +kernel) rfl (g' := (mkF m 271 #[rv x0, rv x1, rv x2, rv x3, rv b3, iv 4, rv b68, jv 0, .second, iv 3, iv 3, jv (wF_227_b q0 q1 q2 q3 q4 q5 q7), .second, iv 2] [(.int 7), (.ref cp)])) rfl ⟨rr, ra (by decide), trivial⟩ ?_
    intro T145 X145 e145
    refine Goes.st (B := T145.setTop (mkF m 272 #[rv x0, rv x1, rv x2, rv x3, rv b3, iv 4, rv b68, jv 0, .second, iv 3, iv 3, jv (wF_227_b q0 q1 q2 q3 q4 q5 q7), .second, iv 2] [(.int 7), (.ref cp), (.int 7), (.ref cp)])) (fun t k => ?_) ?_
    · refine Jvm.Free.XT.dup2 X145.here hx rfl (hb hby d11_271) rfl rfl rfl ?_
      exact k
    refine Goes.hrun X145 e145 CX (own_c2 V_cp NB) (L := [.J 272 0 7, .p 273 (.lload 11) 2, .p 275 .ladd 1]) (by decide +kernel) rfl (g' := (mkF m 276 #[rv x0, rv x1, rv x2, rv x3, rv b3, iv 4, rv b68, jv 0, .second, iv 3, iv 3, jv (wF_227_b q0 q1 q2 q3 q4 q5 q7), .second, iv 2] [(.long (q7 + (wF_227_b q0 q1 q2 q3 q4 q5 q7))), (.int 7), (.ref cp)])) rfl ⟨ra (by decide), trivial⟩ ?_
    intro T146 X146 e146
    refine Goes.sJ X146 e146 hx hZ V_cp (i := 7) (own_ixok (by decide)) (Nat.le_of_ble_eq_true rfl) N144 g_cp rfl rfl (hb hby d11_276) ?_
    intro T147 h147 L147 X147 e147 W147 (V_cp : Arv Z h147 cp kcp .long (16 : Int32) [(.long (sF_259_a q0 q1 q2 q3 q4 q5 q7)), (.long (sF_276_a q0 q1 q2 q3 q4 q5 q7)), (.long q2), (.long q3), (.long (sF_259 q0 q1 q2 q3 q4 q5 q7)), (.long (sF_276 q0 q1 q2 q3 q4 q5 q7)), (.long (sF_259 q0 q1 q2 q3 q4 q5 q7)), (.long (sF_276_b q0 q1 q2 q3 q4 q5 q7))] (.long (0 : Int64))) N147
    have NB := own_all.wr W147 d_cp NB
    have E_x0 := E_x0.wr W147
    have V_x1 := V_x1.other W147 (Ne.symm ne_cp_x1)
    have E_b3 := E_b3.wr W147
    have V_x2 := V_x2.other W147 ne_x2_cp
    have V_b3 := V_b3.other W147 (Ne.symm ne_cp_b3)
    have E_b68 := E_b68.wr W147
    have V_x3 := V_x3.other W147 ne_x3_cp
    have V_b68 := V_b68.other W147 (Ne.symm ne_cp_b68)
    have K147 := K144.wr W147 (Or.inl (List.mem_of_getElem? (i := 2) rfl))
    refine Goes.hrun X147 e147 CX (own_c2 V_b68 NB) (L := [.p 277 (.iinc 13 1) 3, .p 280 (.goto (-42)) 3, .p 238 (.iload 13) 2, .p 240 (.iload 9) 2, .c 242 .ge 41 true, .p 283 (.lload 7) 2, .p 285 (.lload 11) 2, .p 287 .ladd 1, .p 288 (.lstore 7) 2, .p 290 (.iconst 0) 1, .p 291 (.istore 13) 2, .p 293 (.aload_n 0) 1, .f 294 18 7, .p 297 (.aload 6) 2, .p 299 (.iload 13) 2, .I 301 0 0]) (by decide +kernel) rfl (g' := (mkF m 302 #[rv x0, rv x1, rv x2, rv x3, rv b3, iv 4, rv b68, jv (wF_288 q0 q1 q2 q3 q4 q5 q7), .second, iv 3, iv 3, jv (wF_227_b q0 q1 q2 q3 q4 q5 q7), .second, iv 0] [(.int 4), (.ref cp)])) rfl ⟨by decide, rr, ra (by decide), trivial⟩ ?_
    intro T150 X150 e150
    refine Goes.hrun X150 e150 CX (own_c2 V_cp NB) (L := [.J 302 0 4, .p 303 (.lconst 0) 1, .p 304 .lcmp 1]) (by decide +kernel) rfl (g' := (mkF m 305 #[rv x0, rv x1, rv x2, rv x3, rv b3, iv 4, rv b68, jv (wF_288 q0 q1 q2 q3 q4 q5 q7), .second, iv 3, iv 3, jv (wF_227_b q0 q1 q2 q3 q4 q5 q7), .second, iv 0] [(.int (lcmpW (sF_259 q0 q1 q2 q3 q4 q5 q7) (0 : Int64)))])) rfl ⟨ra (by decide), trivial⟩ ?_
    intro T151 X151 e151
    by_cases hc305_149 : (0 : Int64) < (sF_259 q0 q1 q2 q3 q4 q5 q7)
    · skip
      refine Goes.st (B := T151.setTop (mkF m 308 #[rv x0, rv x1, rv x2, rv x3, rv b3, iv 4, rv b68, jv (wF_288 q0 q1 q2 q3 q4 q5 q7), .second, iv 3, iv 3, jv (wF_227_b q0 q1 q2 q3 q4 q5 q7), .second, iv 0] [])) (fun t k => ?_) ?_
      · refine XS.ifNo X151.here hx rfl (hb hby d11_305) rfl (tltL hc305_149).2.2.2 ?_
        exact k
      refine Goes.hrun X151 e151 CX (own_c2 V_b68 (own_c2 V_cp NB)) (L := [.p 308 (.iinc 13 1) 3, .p 311 (.goto (-18)) 3, .p 293 (.aload_n 0) 1, .f 294 18 8, .p 297 (.aload 6) 2, .p 299 (.iload 13) 2, .I 301 0 1, .J 302 1 0, .p 303 (.lconst 0) 1, .p 304 .lcmp 1, .b 305 .le 9 true, .p 314 (.iload 13) 2, .p 316 (.istore 9) 2, .p 318 (.iload 13) 2, .b 320 .ne 10 true, .p 330 (.aload_n 0) 1]) (by decide +kernel) rfl (g' := (mkF m 331 #[rv x0, rv x1, rv x2, rv x3, rv b3, iv 4, rv b68, jv (wF_288 q0 q1 q2 q3 q4 q5 q7), .second, iv 1, iv 3, jv (wF_227_b q0 q1 q2 q3 q4 q5 q7), .second, iv 1] [(.ref x0)])) rfl ⟨rr, ra (by decide), ra (by decide), (fltL (hm hc305_149 : ¬ ((0 : Int64) < (sF_259_a q0 q1 q2 q3 q4 q5 q7)))).2.2.2, by decide, trivial⟩ ?_
      intro T157 X157 e157
      refine Goes.hrun X157 e157 CX (own_c2 V_b68 (own_c2 V_x3 NB)) (L := [.f 331 9 6, .p 334 (.aload 6) 2, .p 336 (.iload 13) 2, .p 338 (.iconst 1) 1, .p 339 .isub 1, .I 340 0 0, .I 341 11 4, .p 342 (.istore 10) 2, .p 344 (.goto (-156)) 3, .p 188 (.iload 10) 2, .p 190 (.aload_n 0) 1, .f 191 35 4, .c 194 .ne 153 true, .p 347 (.aload_n 3) 1, .p 348 (.iload 10) 2, .I 350 1 0]) (by decide +kernel) rfl (g' := (mkF m 351 #[rv x0, rv x1, rv x2, rv x3, rv b3, iv 4, rv b68, jv (wF_288 q0 q1 q2 q3 q4 q5 q7), .second, iv 1, iv 0, jv (wF_227_b q0 q1 q2 q3 q4 q5 q7), .second, iv 1] [(.int 0)])) rfl ⟨rr, ra (by decide), ra (by decide), rr, by decide, ra (by decide), trivial⟩ ?_
      intro T158 X158 e158
      refine Goes.hrun X158 e158 CX (own_c2 V_x2 NB) (L := [.p 351 (.istore 11) 2, .p 353 (.iload 11) 2, .b 355 .lt 45 false, .p 358 (.aload_n 2) 1, .p 359 (.aload_n 0) 1, .f 360 9 5, .p 363 (.iload 11) 2, .I 365 10 0, .I 366 0 1, .p 367 (.aload_n 2) 1, .p 368 (.iload 10) 2, .I 370 0 0, .p 371 (.iconst 1) 1, .p 372 .iadd 1, .c 373 .ne 15 false, .p 376 (.aload_n 0) 1]) (by decide +kernel) rfl (g' := (mkF m 377 #[rv x0, rv x1, rv x2, rv x3, rv b3, iv 4, rv b68, jv (wF_288 q0 q1 q2 q3 q4 q5 q7), .second, iv 1, iv 0, iv 0, .unset, iv 1] [(.ref x0)])) rfl ⟨by decide, rr, ra (by decide), ra (by decide), ra (by decide), by decide, trivial⟩ ?_
      intro T159 X159 e159
      refine Goes.run X159 hx hown hci hcl hby (L := [(377, .iload 11, 2), (379, .iload 10, 2), (381, .aload_n 1, 1)]) (by decide +kernel) rfl (g' := (mkF m 382 #[rv x0, rv x1, rv x2, rv x3, rv b3, iv 4, rv b68, jv (wF_288 q0 q1 q2 q3 q4 q5 q7), .second, iv 1, iv 0, iv 0, .unset, iv 1] [(.ref x1), (.int 0), (.int 0), (.ref x0)])) rfl ?_
      obtain ⟨cq160, q160a, q160b⟩ := E_x0.cell
      obtain ⟨_, _, ⟨T160, L160, k160, n160⟩, -, X160, ⟨Lc160, hQ160, l160, y160, z160⟩, st160⟩ := X159.privateBack hx (y := ym9) hown (mvT hZ w_113) (mvT hZ w_114) (own_selp (y := ym9) (mvT hZ w_4) (mvP hZ w_115) (mvT hZ w_114) (by decide)) (Cond.privateMethod_at (mvP hZ w_115 (args := #[]))) (mvT hZ w_116) (by decide) (backOf (W := 0) (rmE0 l Z a0 hw [] x0 x1 hd nx cp co fa lo khd knx kco kfa kcp klo cA nA cB nB la lb kx1 (sF_259_a q0 q1 q2 q3 q4 q5 q7) (sF_276_a q0 q1 q2 q3 q4 q5 q7) q2 q3 (sF_259 q0 q1 q2 q3 q4 q5 q7) (sF_276 q0 q1 q2 q3 q4 q5 q7) (sF_259 q0 q1 q2 q3 q4 q5 q7) (sF_276_b q0 q1 q2 q3 q4 q5 q7) pP h147 n0 (Nat.le_trans Z0 K147.1) NB V_cp V_x1) hZ w_116 w_5 (by decide) (by decide)) (g := (mkF m 382 #[rv x0, rv x1, rv x2, rv x3, rv b3, iv 4, rv b68, jv (wF_288 q0 q1 q2 q3 q4 q5 q7), .second, iv 1, iv 0, iv 0, .unset, iv 1] [(.ref x1), (.int 0), (.int 0), (.ref x0)])) rfl (by rw [hml]; rfl) (Steps.refl _) (a := x0) (by rw [e159]; exact q160a) q160b (argsL := [(.int 0), (.int 0), (.ref x1)]) (rest := []) (lenOf pdF_1 rfl) rfl (by show 2 * 0 + _ ≤ _; exact Nat.le_of_eq rfl) (hb hby d11_382) (fun _ _ => ⟨rfl, e159, (by decide : 2 + 0 ≤ _), (by decide : 7 + 0 ≤ _)⟩)
      dsimp only [Pt.U, Pt.locs, Pt.cells, Pt.slots] at X160 l160 y160 z160 st160 hQ160
      subst l160 y160 z160
      obtain ⟨rfl, N160q, e160⟩ := hQ160
      have N160 := Fr.app N147 N160q
      refine Goes.st (fun t k => st160.trans k) ?_
      refine Goes.hrun X160 e160 CX NB (L := [.b 385 .ne 15 false, .p 388 (.aload_n 0) 1, .f 389 15 5, .p 392 (.iload 11) 2, .I 394 10 0, .p 395 (.istore 11) 2, .p 397 (.goto (-44)) 3, .p 353 (.iload 11) 2, .b 355 .lt 45 true, .p 400 (.aload_n 3) 1, .p 401 (.iload 10) 2, .p 403 (.iload 11) 2]) (by decide +kernel) rfl (g' := (mkF m 405 #[rv x0, rv x1, rv x2, rv x3, rv b3, iv 4, rv b68, jv (wF_288 q0 q1 q2 q3 q4 q5 q7), .second, iv 1, iv 0, iv (-1), .unset, iv 1] [(.int (-1)), (.int 0), (.ref x3)])) rfl ⟨(if0 _ _).trans (teq (own_f2 (hm hc305_149) : (rE0 cA (sF_259_a q0 q1 q2 q3 q4 q5 q7) pP) = (0 : Int32))).2, rr, ra (by decide), by decide, trivial⟩ ?_
      intro T163 X163 e163
      refine Goes.sI X163 e163 hx hZ V_x3 (i := 0) (own_ixok (by decide)) (Nat.le_of_ble_eq_true rfl) N160 g_x3 rfl rfl (hb hby d11_405) ?_
      intro T164 h164 L164 X164 e164 W164 (V_x3 : Arv Z h164 x3 kx3 .int (4 : Int32) [(.int (-1)), (.int 6), (.int 4), (.int 7)] (.int (0 : Int32))) N164
      have NB := own_all.wr W164 d_x3 NB
      have E_x0 := E_x0.wr W164
      have V_x1 := V_x1.other W164 (Ne.symm ne_x3_x1)
      have E_b3 := E_b3.wr W164
      have V_x2 := V_x2.other W164 ne_x2_x3
      have V_b3 := V_b3.other W164 (Ne.symm ne_x3_b3)
      have E_b68 := E_b68.wr W164
      have V_b68 := V_b68.other W164 (Ne.symm ne_x3_b68)
      have V_cp := V_cp.other W164 (Ne.symm ne_x3_cp)
      have K164 := K147.wr W164 (Or.inl (List.mem_of_getElem? (i := 1) rfl))
      refine Goes.hrun X164 e164 CX NB (L := [.p 406 (.iload 11) 2, .b 408 .lt 25 true, .p 433 (.iload 10) 2, .p 435 (.aload_n 0) 1, .f 436 32 1, .c 439 .ne 6 true, .p 445 (.aload_n 2) 1, .p 446 (.iload 10) 2, .p 448 (.iconst (-1)) 1]) (by decide +kernel) rfl (g' := (mkF m 449 #[rv x0, rv x1, rv x2, rv x3, rv b3, iv 4, rv b68, jv (wF_288 q0 q1 q2 q3 q4 q5 q7), .second, iv 1, iv 0, iv (-1), .unset, iv 1] [(.int (-1)), (.int 0), (.ref x2)])) rfl ⟨by decide, rr, by decide, trivial⟩ ?_
      intro T167 X167 e167
      refine Goes.sI X167 e167 hx hZ V_x2 (i := 0) (own_ixok (by decide)) (Nat.le_of_ble_eq_true rfl) N164 g_x2 rfl rfl (hb hby d11_449) ?_
      intro T168 h168 L168 X168 e168 W168 (V_x2 : Arv Z h168 x2 kx2 .int (4 : Int32) [(.int (-1)), (.int 2), (.int 0), (.int 3)] (.int (0 : Int32))) N168
      have NB := own_all.wr W168 d_x2 NB
      have E_x0 := E_x0.wr W168
      have V_x1 := V_x1.other W168 (Ne.symm ne_x2_x1)
      have E_b3 := E_b3.wr W168
      have V_b3 := V_b3.other W168 (Ne.symm ne_x2_b3)
      have E_b68 := E_b68.wr W168
      have V_b68 := V_b68.other W168 (Ne.symm ne_x2_b68)
      have V_cp := V_cp.other W168 (Ne.symm ne_x2_cp)
      have V_x3 := V_x3.other W168 (Ne.symm ne_x2_x3)
      have K168 := K164.wr W168 (Or.inl (List.mem_of_getElem? (i := 0) rfl))
      refine Goes.hrun X168 e168 CX (own_c2 V_x3 NB) (L := [.p 450 (.iinc 9 (-1)) 3, .p 453 (.iload 9) 2, .b 455 .ne 10 false, .p 458 (.aload_n 0) 1, .f 459 32 2, .p 462 (.goto 15) 3, .p 477 (.istore 10) 2, .p 479 (.aload_n 3) 1, .p 480 (.iload 10) 2, .p 482 (.aload_n 0) 1, .f 483 15 6, .p 486 (.aload_n 3) 1, .p 487 (.iload 10) 2, .I 489 0 2, .I 490 11 4]) (by decide +kernel) rfl (g' := (mkF m 491 #[rv x0, rv x1, rv x2, rv x3, rv b3, iv 4, rv b68, jv (wF_288 q0 q1 q2 q3 q4 q5 q7), .second, iv 0, iv 2, iv (-1), .unset, iv 1] [(.int (-1)), (.int 2), (.ref x3)])) rfl ⟨by decide, rr, rr, ra (by decide), ra (by decide), trivial⟩ ?_
      intro T170 X170 e170
      refine Goes.sI X170 e170 hx hZ V_x3 (i := 2) (own_ixok (by decide)) (Nat.le_of_ble_eq_true rfl) N168 g_x3 rfl rfl (hb hby d11_491) ?_
      intro T171 h171 L171 X171 e171 W171 (V_x3 : Arv Z h171 x3 kx3 .int (4 : Int32) [(.int (-1)), (.int 6), (.int (-1)), (.int 7)] (.int (0 : Int32))) N171
      have NB := own_all.wr W171 d_x3 NB
      have E_x0 := E_x0.wr W171
      have V_x1 := V_x1.other W171 (Ne.symm ne_x3_x1)
      have E_b3 := E_b3.wr W171
      have V_b3 := V_b3.other W171 (Ne.symm ne_x3_b3)
      have E_b68 := E_b68.wr W171
      have V_b68 := V_b68.other W171 (Ne.symm ne_x3_b68)
      have V_cp := V_cp.other W171 (Ne.symm ne_x3_cp)
      have V_x2 := V_x2.other W171 ne_x2_x3
      have K171 := K168.wr W171 (Or.inl (List.mem_of_getElem? (i := 1) rfl))
      refine Goes.hrun X171 e171 CX (own_c2 V_x3 NB) (L := [.p 492 (.goto (-304)) 3, .p 188 (.iload 10) 2, .p 190 (.aload_n 0) 1, .f 191 35 3, .c 194 .ne 153 true, .p 347 (.aload_n 3) 1, .p 348 (.iload 10) 2, .I 350 0 2, .p 351 (.istore 11) 2, .p 353 (.iload 11) 2, .b 355 .lt 45 true, .p 400 (.aload_n 3) 1, .p 401 (.iload 10) 2, .p 403 (.iload 11) 2]) (by decide +kernel) rfl (g' := (mkF m 405 #[rv x0, rv x1, rv x2, rv x3, rv b3, iv 4, rv b68, jv (wF_288 q0 q1 q2 q3 q4 q5 q7), .second, iv 0, iv 2, iv (-1), .unset, iv 1] [(.int (-1)), (.int 2), (.ref x3)])) rfl ⟨rr, by decide, ra (by decide), by decide, trivial⟩ ?_
      intro T174 X174 e174
      refine Goes.sI X174 e174 hx hZ V_x3 (i := 2) (own_ixok (by decide)) (Nat.le_of_ble_eq_true rfl) N171 g_x3 rfl rfl (hb hby d11_405) ?_
      intro T175 h175 L175 X175 e175 W175 (V_x3 : Arv Z h175 x3 kx3 .int (4 : Int32) [(.int (-1)), (.int 6), (.int (-1)), (.int 7)] (.int (0 : Int32))) N175
      have NB := own_all.wr W175 d_x3 NB
      have E_x0 := E_x0.wr W175
      have V_x1 := V_x1.other W175 (Ne.symm ne_x3_x1)
      have E_b3 := E_b3.wr W175
      have V_b3 := V_b3.other W175 (Ne.symm ne_x3_b3)
      have E_b68 := E_b68.wr W175
      have V_b68 := V_b68.other W175 (Ne.symm ne_x3_b68)
      have V_cp := V_cp.other W175 (Ne.symm ne_x3_cp)
      have V_x2 := V_x2.other W175 ne_x2_x3
      have K175 := K171.wr W175 (Or.inl (List.mem_of_getElem? (i := 1) rfl))
      refine Goes.hrun X175 e175 CX NB (L := [.p 406 (.iload 11) 2, .b 408 .lt 25 true, .p 433 (.iload 10) 2, .p 435 (.aload_n 0) 1, .f 436 32 1, .c 439 .ne 6 false, .p 442 (.lload 7) 2]) (by decide +kernel) rfl (g' := (mkF m 444 #[rv x0, rv x1, rv x2, rv x3, rv b3, iv 4, rv b68, jv (wF_288 q0 q1 q2 q3 q4 q5 q7), .second, iv 0, iv 2, iv (-1), .unset, iv 1] [(.long (wF_288 q0 q1 q2 q3 q4 q5 q7))])) rfl ⟨by decide, rr, by decide, trivial⟩ ?_
      intro T178 X178 e178
      exact Goes.retJ X178 hx hlk Bd.returns (hb hby d11_444) (by show (QF Z x2 x3 cp kx2 kx3 kcp u0 u1 u2 u3 u4 u5 u7 uw h0 n0) _ _ _; rw [e178]; exact ⟨_, _, _, _, _, _, _, _, congrArg (fun z => some (Value.long z)) hrw, N175, K175, V_x2, V_x3, own_cp8 V_cp hr0 hr1 hr2 hr3 hr4 hr5 hr4 hr7⟩) (by decide) (by decide)
    · skip
      refine Goes.st (B := T151.setTop (mkF m 314 #[rv x0, rv x1, rv x2, rv x3, rv b3, iv 4, rv b68, jv (wF_288 q0 q1 q2 q3 q4 q5 q7), .second, iv 3, iv 3, jv (wF_227_b q0 q1 q2 q3 q4 q5 q7), .second, iv 0] [])) (fun t k => ?_) ?_
      · refine XS.ifYes X151.here hx rfl (pc0 := 305) (pc' := 314) rfl (hb hby d11_305) rfl (fltL hc305_149).2.2.2 (by decide) (by decide) ?_
        exact k
      refine Goes.hrun X151 e151 CX (own_c2 V_x3 NB) (L := [.p 314 (.iload 13) 2, .p 316 (.istore 9) 2, .p 318 (.iload 13) 2, .b 320 .ne 10 false, .p 323 (.aload_n 0) 1, .f 324 32 2, .p 327 (.goto 15) 3, .p 342 (.istore 10) 2, .p 344 (.goto (-156)) 3, .p 188 (.iload 10) 2, .p 190 (.aload_n 0) 1, .f 191 35 3, .c 194 .ne 153 true, .p 347 (.aload_n 3) 1, .p 348 (.iload 10) 2, .I 350 0 2]) (by decide +kernel) rfl (g' := (mkF m 351 #[rv x0, rv x1, rv x2, rv x3, rv b3, iv 4, rv b68, jv (wF_288 q0 q1 q2 q3 q4 q5 q7), .second, iv 0, iv 2, jv (wF_227_b q0 q1 q2 q3 q4 q5 q7), .second, iv 0] [(.int 4)])) rfl ⟨by decide, rr, rr, by decide, ra (by decide), trivial⟩ ?_
      intro T183 X183 e183
      refine Goes.hrun X183 e183 CX (own_c2 V_x2 NB) (L := [.p 351 (.istore 11) 2, .p 353 (.iload 11) 2, .b 355 .lt 45 false, .p 358 (.aload_n 2) 1, .p 359 (.aload_n 0) 1, .f 360 9 5, .p 363 (.iload 11) 2, .I 365 10 4, .I 366 0 0, .p 367 (.aload_n 2) 1, .p 368 (.iload 10) 2, .I 370 0 2, .p 371 (.iconst 1) 1, .p 372 .iadd 1, .c 373 .ne 15 false, .p 376 (.aload_n 0) 1]) (by decide +kernel) rfl (g' := (mkF m 377 #[rv x0, rv x1, rv x2, rv x3, rv b3, iv 4, rv b68, jv (wF_288 q0 q1 q2 q3 q4 q5 q7), .second, iv 0, iv 2, iv 4, .unset, iv 0] [(.ref x0)])) rfl ⟨by decide, rr, ra (by decide), ra (by decide), ra (by decide), by decide, trivial⟩ ?_
      intro T184 X184 e184
      refine Goes.run X184 hx hown hci hcl hby (L := [(377, .iload 11, 2), (379, .iload 10, 2), (381, .aload_n 1, 1)]) (by decide +kernel) rfl (g' := (mkF m 382 #[rv x0, rv x1, rv x2, rv x3, rv b3, iv 4, rv b68, jv (wF_288 q0 q1 q2 q3 q4 q5 q7), .second, iv 0, iv 2, iv 4, .unset, iv 0] [(.ref x1), (.int 2), (.int 4), (.ref x0)])) rfl ?_
      obtain ⟨cq185, q185a, q185b⟩ := E_x0.cell
      obtain ⟨_, _, ⟨T185, L185, k185, n185⟩, -, X185, ⟨Lc185, hQ185, l185, y185, z185⟩, st185⟩ := X184.privateBack hx (y := ym9) hown (mvT hZ w_113) (mvT hZ w_114) (own_selp (y := ym9) (mvT hZ w_4) (mvP hZ w_115) (mvT hZ w_114) (by decide)) (Cond.privateMethod_at (mvP hZ w_115 (args := #[]))) (mvT hZ w_116) (by decide) (backOf (W := 0) (rmE4 l Z a0 hw [] x0 x1 hd nx cp co fa lo khd knx kco kfa kcp klo cA nA cB nB la lb kx1 (sF_259_a q0 q1 q2 q3 q4 q5 q7) (sF_276_a q0 q1 q2 q3 q4 q5 q7) q2 q3 (sF_259 q0 q1 q2 q3 q4 q5 q7) (sF_276 q0 q1 q2 q3 q4 q5 q7) (sF_259 q0 q1 q2 q3 q4 q5 q7) (sF_276_b q0 q1 q2 q3 q4 q5 q7) pP h147 n0 (Nat.le_trans Z0 K147.1) NB V_cp V_x1) hZ w_116 w_5 (by decide) (by decide)) (g := (mkF m 382 #[rv x0, rv x1, rv x2, rv x3, rv b3, iv 4, rv b68, jv (wF_288 q0 q1 q2 q3 q4 q5 q7), .second, iv 0, iv 2, iv 4, .unset, iv 0] [(.ref x1), (.int 2), (.int 4), (.ref x0)])) rfl (by rw [hml]; rfl) (Steps.refl _) (a := x0) (by rw [e184]; exact q185a) q185b (argsL := [(.int 4), (.int 2), (.ref x1)]) (rest := []) (lenOf pdF_1 rfl) rfl (by show 2 * 0 + _ ≤ _; exact Nat.le_of_eq rfl) (hb hby d11_382) (fun _ _ => ⟨rfl, e184, (by decide : 2 + 0 ≤ _), (by decide : 7 + 0 ≤ _)⟩)
      dsimp only [Pt.U, Pt.locs, Pt.cells, Pt.slots] at X185 l185 y185 z185 st185 hQ185
      subst l185 y185 z185
      obtain ⟨rfl, N185q, e185⟩ := hQ185
      have N185 := Fr.app N147 N185q
      refine Goes.st (fun t k => st185.trans k) ?_
      refine Goes.hrun X185 e185 CX NB (L := [.b 385 .ne 15 false, .p 388 (.aload_n 0) 1, .f 389 15 5, .p 392 (.iload 11) 2, .I 394 10 4, .p 395 (.istore 11) 2, .p 397 (.goto (-44)) 3, .p 353 (.iload 11) 2, .b 355 .lt 45 true, .p 400 (.aload_n 3) 1, .p 401 (.iload 10) 2, .p 403 (.iload 11) 2]) (by decide +kernel) rfl (g' := (mkF m 405 #[rv x0, rv x1, rv x2, rv x3, rv b3, iv 4, rv b68, jv (wF_288 q0 q1 q2 q3 q4 q5 q7), .second, iv 0, iv 2, iv (-1), .unset, iv 0] [(.int (-1)), (.int 2), (.ref x3)])) rfl ⟨(if0 _ _).trans (teq (own_f1 hc305_149 : (rE4 (sF_259 q0 q1 q2 q3 q4 q5 q7)) = (0 : Int32))).2, rr, ra (by decide), by decide, trivial⟩ ?_
      intro T188 X188 e188
      refine Goes.sI X188 e188 hx hZ V_x3 (i := 2) (own_ixok (by decide)) (Nat.le_of_ble_eq_true rfl) N185 g_x3 rfl rfl (hb hby d11_405) ?_
      intro T189 h189 L189 X189 e189 W189 (V_x3 : Arv Z h189 x3 kx3 .int (4 : Int32) [(.int 0), (.int 6), (.int (-1)), (.int 7)] (.int (0 : Int32))) N189
      have NB := own_all.wr W189 d_x3 NB
      have E_x0 := E_x0.wr W189
      have V_x1 := V_x1.other W189 (Ne.symm ne_x3_x1)
      have E_b3 := E_b3.wr W189
      have V_x2 := V_x2.other W189 ne_x2_x3
      have V_b3 := V_b3.other W189 (Ne.symm ne_x3_b3)
      have E_b68 := E_b68.wr W189
      have V_b68 := V_b68.other W189 (Ne.symm ne_x3_b68)
      have V_cp := V_cp.other W189 (Ne.symm ne_x3_cp)
      have K189 := K147.wr W189 (Or.inl (List.mem_of_getElem? (i := 1) rfl))
      refine Goes.hrun X189 e189 CX NB (L := [.p 406 (.iload 11) 2, .b 408 .lt 25 true, .p 433 (.iload 10) 2, .p 435 (.aload_n 0) 1, .f 436 32 1, .c 439 .ne 6 false, .p 442 (.lload 7) 2]) (by decide +kernel) rfl (g' := (mkF m 444 #[rv x0, rv x1, rv x2, rv x3, rv b3, iv 4, rv b68, jv (wF_288 q0 q1 q2 q3 q4 q5 q7), .second, iv 0, iv 2, iv (-1), .unset, iv 0] [(.long (wF_288 q0 q1 q2 q3 q4 q5 q7))])) rfl ⟨by decide, rr, by decide, trivial⟩ ?_
      intro T192 X192 e192
      exact Goes.retJ X192 hx hlk Bd.returns (hb hby d11_444) (by show (QF Z x2 x3 cp kx2 kx3 kcp u0 u1 u2 u3 u4 u5 u7 uw h0 n0) _ _ _; rw [e192]; exact ⟨_, _, _, _, _, _, _, _, congrArg (fun z => some (Value.long z)) hrw, N189, K189, V_x2, V_x3, own_cp8 V_cp hr0 hr1 hr2 hr3 hr4 hr5 hr4 hr7⟩) (by decide) (by decide)
  · skip
    refine Goes.hrun X26 e26 CX (own_c2 V_x2 NB) (L := [.p 70 (.iload 8) 2, .b 72 .lt 63 false, .p 75 (.aload_n 0) 1, .f 76 9 5, .p 79 (.iload 8) 2, .I 81 10 2, .p 82 (.istore 9) 2, .p 84 (.aload_n 2) 1, .p 85 (.iload 9) 2, .I 87 0 1, .b 88 .ge 35 false, .p 91 (.aload_n 0) 1, .p 92 (.iload 8) 2, .p 94 (.iload 7) 2, .p 96 (.aload_n 1) 1]) (by decide +kernel) rfl (g' := (mkF m 97 #[rv x0, rv x1, rv x2, rv x3, rv b3, iv 2, iv 1, iv 0, iv 2, iv 1, .unset, .unset, .unset, .unset] [(.ref x1), (.int 0), (.int 2), (.ref x0)])) rfl ⟨by decide, rr, ra (by decide), ra (by decide), by decide, trivial⟩ ?_
    intro T195 X195 e195
    obtain ⟨cq196, q196a, q196b⟩ := E_x0.cell
    obtain ⟨_, _, ⟨T196, L196, k196, n196⟩, -, X196, ⟨Lc196, hQ196, l196, y196, z196⟩, st196⟩ := X195.privateBack hx (y := ym9) hown (mvT hZ w_113) (mvT hZ w_114) (own_selp (y := ym9) (mvT hZ w_4) (mvP hZ w_115) (mvT hZ w_114) (by decide)) (Cond.privateMethod_at (mvP hZ w_115 (args := #[]))) (mvT hZ w_116) (by decide) (backOf (W := 0) (rmE2 l Z a0 hw [] x0 x1 hd nx cp co fa lo khd knx kco kfa kcp klo cA nA cB nB la lb kx1 q0 q1 q2 q3 q4 q5 q4 q7 pP h18 n0 (Nat.le_trans Z0 K18.1) NB V_cp V_x1) hZ w_116 w_5 (by decide) (by decide)) (g := (mkF m 97 #[rv x0, rv x1, rv x2, rv x3, rv b3, iv 2, iv 1, iv 0, iv 2, iv 1, .unset, .unset, .unset, .unset] [(.ref x1), (.int 0), (.int 2), (.ref x0)])) rfl (by rw [hml]; rfl) (Steps.refl _) (a := x0) (by rw [e195]; exact q196a) q196b (argsL := [(.int 2), (.int 0), (.ref x1)]) (rest := []) (lenOf pdF_1 rfl) rfl (by show 2 * 0 + _ ≤ _; exact Nat.le_of_eq rfl) (hb hby d11_97) (fun _ _ => ⟨rfl, e195, (by decide : 1 + 0 ≤ _), (by decide : 4 + 0 ≤ _)⟩)
    dsimp only [Pt.U, Pt.locs, Pt.cells, Pt.slots] at X196 l196 y196 z196 st196 hQ196
    subst l196 y196 z196
    obtain ⟨rfl, N196q, e196⟩ := hQ196
    have N196 := Fr.app N18 N196q
    refine Goes.st (fun t k => st196.trans k) ?_
    refine Goes.hrun X196 e196 CX (own_c2 V_x2 NB) (L := [.b 100 .eq 23 false, .p 103 (.aload_n 2) 1, .p 104 (.iload 9) 2, .p 106 (.aload_n 2) 1, .p 107 (.iload 7) 2, .I 109 0 0, .p 110 (.iconst 1) 1, .p 111 .iadd 1]) (by decide +kernel) rfl (g' := (mkF m 112 #[rv x0, rv x1, rv x2, rv x3, rv b3, iv 2, iv 1, iv 0, iv 2, iv 1, .unset, .unset, .unset, .unset] [(.int 2), (.int 1), (.ref x2)])) rfl ⟨(if0 _ _).trans (feq (own_t2 hk hP : ¬ ((rE2 cB q2 pP) = (0 : Int32)))).1, ra (by decide), trivial⟩ ?_
    intro T198 X198 e198
    refine Goes.sI X198 e198 hx hZ V_x2 (i := 1) (own_ixok (by decide)) (Nat.le_of_ble_eq_true rfl) N196 g_x2 rfl rfl (hb hby d11_112) ?_
    intro T199 h199 L199 X199 e199 W199 (V_x2 : Arv Z h199 x2 kx2 .int (4 : Int32) [(.int 1), (.int 2), (.int 0), (.int (-1))] (.int (0 : Int32))) N199
    have NB := own_all.wr W199 d_x2 NB
    have E_x0 := E_x0.wr W199
    have V_cp := V_cp.other W199 (Ne.symm ne_x2_cp)
    have V_x1 := V_x1.other W199 (Ne.symm ne_x2_x1)
    have V_x3 := V_x3.other W199 (Ne.symm ne_x2_x3)
    have E_b3 := E_b3.wr W199
    have V_b3 := V_b3.other W199 (Ne.symm ne_x2_b3)
    have K199 := K18.wr W199 (Or.inl (List.mem_of_getElem? (i := 0) rfl))
    refine Goes.run X199 hx hown hci hcl hby (L := [(113, .aload 4, 2), (115, .iload 5, 2), (117, .iinc 5 1, 3), (120, .iload 9, 2)]) (by decide +kernel) rfl (g' := (mkF m 122 #[rv x0, rv x1, rv x2, rv x3, rv b3, iv 3, iv 1, iv 0, iv 2, iv 1, .unset, .unset, .unset, .unset] [(.int 1), (.int 2), (.ref b3)])) rfl ?_
    refine Goes.sI X199 e199 hx hZ V_b3 (i := 2) (own_ixok (by decide)) (Nat.le_of_ble_eq_true rfl) N199 g_b3 rfl rfl (hb hby d11_122) ?_
    intro T200 h200 L200 X200 e200 W200 (V_b3 : Arv Z h200 b3 k3 .int (4 : Int32) [(.int 2), (.int 0), (.int 1), (.int 0)] (.int 0)) N200
    have NB := own_all.wr W200 d_b3 NB
    have E_x0 := E_x0.wr W200
    have V_cp := V_cp.other W200 ne_cp_b3
    have V_x1 := V_x1.other W200 ne_x1_b3
    have V_x3 := V_x3.other W200 ne_x3_b3
    have E_b3 := E_b3.wr W200
    have V_x2 := V_x2.other W200 ne_x2_b3
    have K200 := K199.wr W200 (Or.inr sz_b3)
    refine Goes.hrun X200 e200 CX (own_c2 V_x2 NB) (L := [.p 123 (.aload_n 0) 1, .f 124 15 6, .p 127 (.iload 8) 2, .I 129 11 2, .p 130 (.istore 8) 2, .p 132 (.goto (-62)) 3, .p 70 (.iload 8) 2, .b 72 .lt 63 false, .p 75 (.aload_n 0) 1, .f 76 9 5, .p 79 (.iload 8) 2, .I 81 10 0, .p 82 (.istore 9) 2, .p 84 (.aload_n 2) 1, .p 85 (.iload 9) 2, .I 87 0 1]) (by decide +kernel) rfl (g' := (mkF m 88 #[rv x0, rv x1, rv x2, rv x3, rv b3, iv 3, iv 1, iv 0, iv 0, iv 1, .unset, .unset, .unset, .unset] [(.int 2)])) rfl ⟨rr, ra (by decide), by decide, rr, ra (by decide), ra (by decide), trivial⟩ ?_
    intro T208 X208 e208
    refine Goes.hrun X208 e208 CX NB (L := [.b 88 .ge 35 true, .p 123 (.aload_n 0) 1, .f 124 15 5, .p 127 (.iload 8) 2, .I 129 10 0, .p 130 (.istore 8) 2, .p 132 (.goto (-62)) 3, .p 70 (.iload 8) 2, .b 72 .lt 63 true, .p 135 (.iinc 6 1) 3, .p 138 (.goto (-100)) 3, .p 38 (.iload 6) 2, .p 40 (.iload 5) 2, .c 42 .ge 99 false, .p 45 (.aload_n 2) 1, .p 46 (.aload_n 0) 1]) (by decide +kernel) rfl (g' := (mkF m 47 #[rv x0, rv x1, rv x2, rv x3, rv b3, iv 3, iv 2, iv 0, iv (-1), iv 1, .unset, .unset, .unset, .unset] [(.ref x0), (.ref x2)])) rfl ⟨by decide, rr, ra (by decide), by decide, by decide, trivial⟩ ?_
    intro T209 X209 e209
    refine Goes.hrun X209 e209 CX (own_c2 V_x2 (own_c2 V_b3 NB)) (L := [.f 47 35 4, .I 50 0 3, .b 51 .ge 90 false, .p 54 (.aload 4) 2, .p 56 (.iload 6) 2, .I 58 1 2, .p 59 (.istore 7) 2, .p 61 (.aload_n 0) 1, .f 62 41 5, .p 65 (.iload 7) 2, .I 67 10 1, .p 68 (.istore 8) 2, .p 70 (.iload 8) 2, .b 72 .lt 63 false, .p 75 (.aload_n 0) 1, .f 76 9 6]) (by decide +kernel) rfl (g' := (mkF m 79 #[rv x0, rv x1, rv x2, rv x3, rv b3, iv 3, iv 2, iv 1, iv 6, iv 1, .unset, .unset, .unset, .unset] [(.ref hd)])) rfl ⟨rr, ra (by decide), by decide, ra (by decide), rr, ra (by decide), by decide, rr, trivial⟩ ?_
    intro T210 X210 e210
    refine Goes.hrun X210 e210 CX (own_c2 V_x2 NB) (L := [.p 79 (.iload 8) 2, .I 81 10 6, .p 82 (.istore 9) 2, .p 84 (.aload_n 2) 1, .p 85 (.iload 9) 2, .I 87 0 3, .b 88 .ge 35 false, .p 91 (.aload_n 0) 1, .p 92 (.iload 8) 2, .p 94 (.iload 7) 2, .p 96 (.aload_n 1) 1]) (by decide +kernel) rfl (g' := (mkF m 97 #[rv x0, rv x1, rv x2, rv x3, rv b3, iv 3, iv 2, iv 1, iv 6, iv 3, .unset, .unset, .unset, .unset] [(.ref x1), (.int 1), (.int 6), (.ref x0)])) rfl ⟨ra (by decide), ra (by decide), by decide, trivial⟩ ?_
    intro T211 X211 e211
    obtain ⟨cq212, q212a, q212b⟩ := E_x0.cell
    obtain ⟨_, _, ⟨T212, L212, k212, n212⟩, -, X212, ⟨Lc212, hQ212, l212, y212, z212⟩, st212⟩ := X211.privateBack hx (y := ym9) hown (mvT hZ w_113) (mvT hZ w_114) (own_selp (y := ym9) (mvT hZ w_4) (mvP hZ w_115) (mvT hZ w_114) (by decide)) (Cond.privateMethod_at (mvP hZ w_115 (args := #[]))) (mvT hZ w_116) (by decide) (backOf (W := 0) (rmE6 l Z a0 hw [] x0 x1 hd nx cp co fa lo khd knx kco kfa kcp klo cA nA cB nB la lb kx1 q0 q1 q2 q3 q4 q5 q4 q7 pP h200 n0 (Nat.le_trans Z0 K200.1) NB V_cp V_x1) hZ w_116 w_5 (by decide) (by decide)) (g := (mkF m 97 #[rv x0, rv x1, rv x2, rv x3, rv b3, iv 3, iv 2, iv 1, iv 6, iv 3, .unset, .unset, .unset, .unset] [(.ref x1), (.int 1), (.int 6), (.ref x0)])) rfl (by rw [hml]; rfl) (Steps.refl _) (a := x0) (by rw [e211]; exact q212a) q212b (argsL := [(.int 6), (.int 1), (.ref x1)]) (rest := []) (lenOf pdF_1 rfl) rfl (by show 2 * 0 + _ ≤ _; exact Nat.le_of_eq rfl) (hb hby d11_97) (fun _ _ => ⟨rfl, e211, (by decide : 1 + 0 ≤ _), (by decide : 4 + 0 ≤ _)⟩)
    dsimp only [Pt.U, Pt.locs, Pt.cells, Pt.slots] at X212 l212 y212 z212 st212 hQ212
    subst l212 y212 z212
    obtain ⟨rfl, N212q, e212⟩ := hQ212
    have N212 := Fr.app N200 N212q
    refine Goes.st (fun t k => st212.trans k) ?_
    refine Goes.hrun X212 e212 CX (own_c2 V_x2 NB) (L := [.b 100 .eq 23 false, .p 103 (.aload_n 2) 1, .p 104 (.iload 9) 2, .p 106 (.aload_n 2) 1, .p 107 (.iload 7) 2, .I 109 0 1, .p 110 (.iconst 1) 1, .p 111 .iadd 1]) (by decide +kernel) rfl (g' := (mkF m 112 #[rv x0, rv x1, rv x2, rv x3, rv b3, iv 3, iv 2, iv 1, iv 6, iv 3, .unset, .unset, .unset, .unset] [(.int 3), (.int 3), (.ref x2)])) rfl ⟨(if0 _ _).trans (feq (own_t2 pz4 (own_zz pP) : ¬ ((rE6 q4 pP) = (0 : Int32)))).1, ra (by decide), trivial⟩ ?_
    intro T214 X214 e214
    refine Goes.sI X214 e214 hx hZ V_x2 (i := 3) (own_ixok (by decide)) (Nat.le_of_ble_eq_true rfl) N212 g_x2 rfl rfl (hb hby d11_112) ?_
    intro T215 h215 L215 X215 e215 W215 (V_x2 : Arv Z h215 x2 kx2 .int (4 : Int32) [(.int 1), (.int 2), (.int 0), (.int 3)] (.int (0 : Int32))) N215
    have NB := own_all.wr W215 d_x2 NB
    have E_x0 := E_x0.wr W215
    have V_cp := V_cp.other W215 (Ne.symm ne_x2_cp)
    have V_x1 := V_x1.other W215 (Ne.symm ne_x2_x1)
    have V_x3 := V_x3.other W215 (Ne.symm ne_x2_x3)
    have E_b3 := E_b3.wr W215
    have V_b3 := V_b3.other W215 (Ne.symm ne_x2_b3)
    have K215 := K200.wr W215 (Or.inl (List.mem_of_getElem? (i := 0) rfl))
    refine Goes.run X215 hx hown hci hcl hby (L := [(113, .aload 4, 2), (115, .iload 5, 2), (117, .iinc 5 1, 3), (120, .iload 9, 2)]) (by decide +kernel) rfl (g' := (mkF m 122 #[rv x0, rv x1, rv x2, rv x3, rv b3, iv 4, iv 2, iv 1, iv 6, iv 3, .unset, .unset, .unset, .unset] [(.int 3), (.int 3), (.ref b3)])) rfl ?_
    refine Goes.sI X215 e215 hx hZ V_b3 (i := 3) (own_ixok (by decide)) (Nat.le_of_ble_eq_true rfl) N215 g_b3 rfl rfl (hb hby d11_122) ?_
    intro T216 h216 L216 X216 e216 W216 (V_b3 : Arv Z h216 b3 k3 .int (4 : Int32) [(.int 2), (.int 0), (.int 1), (.int 3)] (.int 0)) N216
    have NB := own_all.wr W216 d_b3 NB
    have E_x0 := E_x0.wr W216
    have V_cp := V_cp.other W216 ne_cp_b3
    have V_x1 := V_x1.other W216 ne_x1_b3
    have V_x3 := V_x3.other W216 ne_x3_b3
    have E_b3 := E_b3.wr W216
    have V_x2 := V_x2.other W216 ne_x2_b3
    have K216 := K215.wr W216 (Or.inr sz_b3)
    refine Goes.hrun X216 e216 CX (own_c2 V_x2 NB) (L := [.p 123 (.aload_n 0) 1, .f 124 15 6, .p 127 (.iload 8) 2, .I 129 11 6, .p 130 (.istore 8) 2, .p 132 (.goto (-62)) 3, .p 70 (.iload 8) 2, .b 72 .lt 63 false, .p 75 (.aload_n 0) 1, .f 76 9 5, .p 79 (.iload 8) 2, .I 81 10 3, .p 82 (.istore 9) 2, .p 84 (.aload_n 2) 1, .p 85 (.iload 9) 2, .I 87 0 0]) (by decide +kernel) rfl (g' := (mkF m 88 #[rv x0, rv x1, rv x2, rv x3, rv b3, iv 4, iv 2, iv 1, iv 3, iv 0, .unset, .unset, .unset, .unset] [(.int 1)])) rfl ⟨rr, ra (by decide), by decide, rr, ra (by decide), ra (by decide), trivial⟩ ?_
    intro T225 X225 e225
    refine Goes.hrun X225 e225 CX NB (L := [.b 88 .ge 35 true, .p 123 (.aload_n 0) 1, .f 124 15 5, .p 127 (.iload 8) 2, .I 129 10 3, .p 130 (.istore 8) 2, .p 132 (.goto (-62)) 3, .p 70 (.iload 8) 2, .b 72 .lt 63 false, .p 75 (.aload_n 0) 1, .f 76 9 4, .p 79 (.iload 8) 2, .I 81 9 1, .p 82 (.istore 9) 2, .p 84 (.aload_n 2) 1, .p 85 (.iload 9) 2]) (by decide +kernel) rfl (g' := (mkF m 87 #[rv x0, rv x1, rv x2, rv x3, rv b3, iv 4, iv 2, iv 1, iv 1, iv 0, .unset, .unset, .unset, .unset] [(.int 0), (.ref x2)])) rfl ⟨by decide, rr, ra (by decide), by decide, rr, ra (by decide), trivial⟩ ?_
    intro T226 X226 e226
    refine Goes.hrun X226 e226 CX (own_c2 V_x2 NB) (L := [.I 87 0 0, .b 88 .ge 35 true, .p 123 (.aload_n 0) 1, .f 124 15 6, .p 127 (.iload 8) 2, .I 129 11 1, .p 130 (.istore 8) 2, .p 132 (.goto (-62)) 3, .p 70 (.iload 8) 2, .b 72 .lt 63 true, .p 135 (.iinc 6 1) 3, .p 138 (.goto (-100)) 3, .p 38 (.iload 6) 2, .p 40 (.iload 5) 2, .c 42 .ge 99 false, .p 45 (.aload_n 2) 1]) (by decide +kernel) rfl (g' := (mkF m 46 #[rv x0, rv x1, rv x2, rv x3, rv b3, iv 4, iv 3, iv 1, iv (-1), iv 0, .unset, .unset, .unset, .unset] [(.ref x2)])) rfl ⟨ra (by decide), by decide, rr, ra (by decide), by decide, by decide, trivial⟩ ?_
    intro T227 X227 e227
    refine Goes.hrun X227 e227 CX (own_c2 V_x2 NB) (L := [.p 46 (.aload_n 0) 1, .f 47 35 3, .I 50 0 3, .b 51 .ge 90 true, .p 141 (.aload_n 2) 1, .p 142 (.aload_n 0) 1, .f 143 35 3, .I 146 0 3, .b 147 .ge 5 true, .p 152 (.aload_n 0) 1, .f 153 41 4, .p 156 (.iconst 0) 1, .p 157 (.aload_n 3) 1, .p 158 (.iconst 0) 1, .p 159 (.aload_n 0) 1, .f 160 28 1]) (by decide +kernel) rfl (g' := (mkF m 163 #[rv x0, rv x1, rv x2, rv x3, rv b3, iv 4, iv 3, iv 1, iv (-1), iv 0, .unset, .unset, .unset, .unset] [(.int 4), (.int 0), (.ref x3), (.int 0), (.ref fa)])) rfl ⟨rr, ra (by decide), by decide, rr, ra (by decide), by decide, rr, rr, trivial⟩ ?_
    intro T228 X228 e228
    have V_fa : Arv Z h216 fa kfa .int (4 : Int32) [(.int 5), (.int 6), (.int 4), (.int 7)] (.int (0 : Int32)) := own_aget NB (i := 8) (x := RF.arr fa kfa .int (4 : Int32) [(.int 5), (.int 6), (.int 4), (.int 7)] (.int (0 : Int32))) rfl
    obtain ⟨T229, h229, L229, X229, e229, N229, Kq229, Vq229, st229⟩ := cpA X228 hx hZ hown w_117 w_120 w_118 w_119 e228 V_fa V_x3 (Or.inl ⟨rfl, rfl⟩) (sp := (0 : Int32)) (dp := (0 : Int32)) (nn := (4 : Int32)) (by decide) (by decide) (by decide) (by decide) (by decide) (us := [(.int 5), (.int 6), (.int 4), (.int 7)]) rfl (Nat.le_of_ble_eq_true rfl) N216 g_x3 (g := (mkF m 163 #[rv x0, rv x1, rv x2, rv x3, rv b3, iv 4, iv 3, iv 1, iv (-1), iv 0, .unset, .unset, .unset, .unset] [(.int 4), (.int 0), (.ref x3), (.int 0), (.ref fa)])) rfl (by rw [hml]; rfl) (rest := []) rfl (hb hby d11_163) (by decide) (W := 0) (by show 2 * 0 + _ ≤ _; exact Nat.le_of_eq rfl) (by decide)
    have NB := own_all.keep Kq229 (own_dS d_x3 own_d0) NB
    have E_x0 := E_x0.keep Kq229
    have V_cp := V_cp.keep Kq229 (ninS (Ne.symm ne_x3_cp) nin0)
    have V_x1 := V_x1.keep Kq229 (ninS (Ne.symm ne_x3_x1) nin0)
    have E_b3 := E_b3.keep Kq229
    have V_x2 := V_x2.keep Kq229 (ninS ne_x2_x3 nin0)
    have V_b3 := V_b3.keep Kq229 (ninS (Ne.symm ne_x3_b3) nin0)
    have K229 := K216.trans Kq229 ((allS (Or.inl (List.mem_of_getElem? (i := 1) rfl)) all0))
    have V_x3 : Arv Z h229 x3 kx3 .int (4 : Int32) [(.int 5), (.int 6), (.int 4), (.int 7)] (.int (0 : Int32)) := Vq229
    refine Goes.st st229 ?_
    refine Goes.hrun X229 e229 CX (own_c2 V_x2 NB) (L := [.p 166 (.aload_n 2) 1, .p 167 (.aload_n 0) 1, .f 168 35 3, .I 171 0 3]) (by decide +kernel) rfl (g' := (mkF m 172 #[rv x0, rv x1, rv x2, rv x3, rv b3, iv 4, iv 3, iv 1, iv (-1), iv 0, .unset, .unset, .unset, .unset] [(.int 3)])) rfl ⟨rr, ra (by decide), trivial⟩ ?_
    intro T230 X230 e230
    obtain ⟨T231, h231, k231, X231, e231, E231, A231, B231, st231⟩ := newPE X230 hx hZ (aty := .int) w_12 e230 (g := (mkF m 172 #[rv x0, rv x1, rv x2, rv x3, rv b3, iv 4, iv 3, iv 1, iv (-1), iv 0, .unset, .unset, .unset, .unset] [(.int 3)])) rfl (hb hby d11_172) rfl (by decide) (cap := 3) (by decide) (by decide) (by decide) (by decide) (ad := "[I") (by decide)
    obtain ⟨b231, g231⟩ : ∃ z, z = h229.size := ⟨_, rfl⟩
    rw [← g231] at A231 B231 st231
    have d_b231 := own_all.dis NB (Nat.le_of_eq g231.symm)
    have ne_cp_b231 : cp ≠ b231 := Nat.ne_of_lt (Nat.lt_of_lt_of_le V_cp.lt (Nat.le_of_eq g231.symm))
    have ne_x2_b231 : x2 ≠ b231 := Nat.ne_of_lt (Nat.lt_of_lt_of_le V_x2.lt (Nat.le_of_eq g231.symm))
    have ne_x1_b231 : x1 ≠ b231 := Nat.ne_of_lt (Nat.lt_of_lt_of_le V_x1.lt (Nat.le_of_eq g231.symm))
    have ne_b3_b231 : b3 ≠ b231 := Nat.ne_of_lt (Nat.lt_of_lt_of_le E_b3.lt (Nat.le_of_eq g231.symm))
    have ne_x3_b231 : x3 ≠ b231 := Nat.ne_of_lt (Nat.lt_of_lt_of_le V_x3.lt (Nat.le_of_eq g231.symm))
    have g_b231 : n0 ≤ b231 := Nat.le_trans (Nat.le_trans Z0 K229.1) (Nat.le_of_eq g231.symm)
    have sz_b231 : h0.size ≤ b231 := Nat.le_trans K229.1 (Nat.le_of_eq g231.symm)
    have E_x0 := E_x0.ext E231
    have V_cp := V_cp.ext E231
    have V_x1 := V_x1.ext E231
    have E_b3 := E_b3.ext E231
    have V_x2 := V_x2.ext E231
    have V_b3 := V_b3.ext E231
    have V_x3 := V_x3.ext E231
    have NB := own_all.ext E231 NB
    have K231 := K229.ext E231
    have E_b231 : Exa Z h231 b231 "[I" := B231
    have V_b231 : Arv Z h231 b231 k231 .int (3 : Int32) [(.int 0), (.int 0), (.int 0)] (.int 0) := (Arv.new A231 (by decide)).pad (pad_rep [] (.int 0) 3)
    refine Goes.st st231 ?_
    refine Goes.hrun X231 e231 CX (own_c2 V_x3 NB) (L := [.p 174 (.astore 6) 2, .p 176 (.lconst 0) 1, .p 177 (.lstore 7) 2, .p 179 (.iconst 0) 1, .p 180 (.istore 9) 2, .p 182 (.aload_n 0) 1, .f 183 32 2, .p 186 (.istore 10) 2, .p 188 (.iload 10) 2, .p 190 (.aload_n 0) 1, .f 191 35 3, .c 194 .ne 153 true, .p 347 (.aload_n 3) 1, .p 348 (.iload 10) 2, .I 350 0 2, .p 351 (.istore 11) 2]) (by decide +kernel) rfl (g' := (mkF m 353 #[rv x0, rv x1, rv x2, rv x3, rv b3, iv 4, rv b231, jv 0, .second, iv 0, iv 2, iv 4, .unset, .unset] [])) rfl ⟨rr, rr, by decide, ra (by decide), trivial⟩ ?_
    intro T235 X235 e235
    refine Goes.hrun X235 e235 CX (own_c2 V_x2 NB) (L := [.p 353 (.iload 11) 2, .b 355 .lt 45 false, .p 358 (.aload_n 2) 1, .p 359 (.aload_n 0) 1, .f 360 9 5, .p 363 (.iload 11) 2, .I 365 10 4, .I 366 0 0, .p 367 (.aload_n 2) 1, .p 368 (.iload 10) 2, .I 370 0 2, .p 371 (.iconst 1) 1, .p 372 .iadd 1, .c 373 .ne 15 false, .p 376 (.aload_n 0) 1, .p 377 (.iload 11) 2]) (by decide +kernel) rfl (g' := (mkF m 379 #[rv x0, rv x1, rv x2, rv x3, rv b3, iv 4, rv b231, jv 0, .second, iv 0, iv 2, iv 4, .unset, .unset] [(.int 4), (.ref x0)])) rfl ⟨by decide, rr, ra (by decide), ra (by decide), ra (by decide), by decide, trivial⟩ ?_
    intro T236 X236 e236
    refine Goes.run X236 hx hown hci hcl hby (L := [(379, .iload 10, 2), (381, .aload_n 1, 1)]) (by decide +kernel) rfl (g' := (mkF m 382 #[rv x0, rv x1, rv x2, rv x3, rv b3, iv 4, rv b231, jv 0, .second, iv 0, iv 2, iv 4, .unset, .unset] [(.ref x1), (.int 2), (.int 4), (.ref x0)])) rfl ?_
    obtain ⟨cq237, q237a, q237b⟩ := E_x0.cell
    obtain ⟨_, _, ⟨T237, L237, k237, n237⟩, -, X237, ⟨Lc237, hQ237, l237, y237, z237⟩, st237⟩ := X236.privateBack hx (y := ym9) hown (mvT hZ w_113) (mvT hZ w_114) (own_selp (y := ym9) (mvT hZ w_4) (mvP hZ w_115) (mvT hZ w_114) (by decide)) (Cond.privateMethod_at (mvP hZ w_115 (args := #[]))) (mvT hZ w_116) (by decide) (backOf (W := 0) (rmE4 l Z a0 hw [] x0 x1 hd nx cp co fa lo khd knx kco kfa kcp klo cA nA cB nB la lb kx1 q0 q1 q2 q3 q4 q5 q4 q7 pP h231 n0 (Nat.le_trans Z0 K231.1) NB V_cp V_x1) hZ w_116 w_5 (by decide) (by decide)) (g := (mkF m 382 #[rv x0, rv x1, rv x2, rv x3, rv b3, iv 4, rv b231, jv 0, .second, iv 0, iv 2, iv 4, .unset, .unset] [(.ref x1), (.int 2), (.int 4), (.ref x0)])) rfl (by rw [hml]; rfl) (Steps.refl _) (a := x0) (by rw [e236]; exact q237a) q237b (argsL := [(.int 4), (.int 2), (.ref x1)]) (rest := []) (lenOf pdF_1 rfl) rfl (by show 2 * 0 + _ ≤ _; exact Nat.le_of_eq rfl) (hb hby d11_382) (fun _ _ => ⟨rfl, e236, (by decide : 2 + 0 ≤ _), (by decide : 7 + 0 ≤ _)⟩)
    dsimp only [Pt.U, Pt.locs, Pt.cells, Pt.slots] at X237 l237 y237 z237 st237 hQ237
    subst l237 y237 z237
    obtain ⟨rfl, N237q, e237⟩ := hQ237
    have N237 := Fr.app N229 N237q
    refine Goes.st (fun t k => st237.trans k) ?_
    refine Goes.hrun X237 e237 CX NB (L := [.b 385 .ne 15 true, .p 400 (.aload_n 3) 1, .p 401 (.iload 10) 2, .p 403 (.iload 11) 2]) (by decide +kernel) rfl (g' := (mkF m 405 #[rv x0, rv x1, rv x2, rv x3, rv b3, iv 4, rv b231, jv 0, .second, iv 0, iv 2, iv 4, .unset, .unset] [(.int 4), (.int 2), (.ref x3)])) rfl ⟨(if0 _ _).trans (feq (own_t1 pz4 : ¬ ((rE4 q4) = (0 : Int32)))).2, trivial⟩ ?_
    intro T239 X239 e239
    refine Goes.sI X239 e239 hx hZ V_x3 (i := 2) (own_ixok (by decide)) (Nat.le_of_ble_eq_true rfl) N237 g_x3 rfl rfl (hb hby d11_405) ?_
    intro T240 h240 L240 X240 e240 W240 (V_x3 : Arv Z h240 x3 kx3 .int (4 : Int32) [(.int 5), (.int 6), (.int 4), (.int 7)] (.int (0 : Int32))) N240
    have NB := own_all.wr W240 d_x3 NB
    have E_x0 := E_x0.wr W240
    have V_cp := V_cp.other W240 (Ne.symm ne_x3_cp)
    have V_x1 := V_x1.other W240 (Ne.symm ne_x3_x1)
    have E_b3 := E_b3.wr W240
    have V_x2 := V_x2.other W240 ne_x2_x3
    have V_b3 := V_b3.other W240 (Ne.symm ne_x3_b3)
    have E_b231 := E_b231.wr W240
    have V_b231 := V_b231.other W240 (Ne.symm ne_x3_b231)
    have K240 := K231.wr W240 (Or.inl (List.mem_of_getElem? (i := 1) rfl))
    refine Goes.hrun X240 e240 CX NB (L := [.p 406 (.iload 11) 2, .b 408 .lt 25 false, .p 411 (.aload 6) 2, .p 413 (.iload 9) 2, .p 415 (.iinc 9 1) 3, .p 418 (.iload 11) 2]) (by decide +kernel) rfl (g' := (mkF m 420 #[rv x0, rv x1, rv x2, rv x3, rv b3, iv 4, rv b231, jv 0, .second, iv 1, iv 2, iv 4, .unset, .unset] [(.int 4), (.int 0), (.ref b231)])) rfl ⟨by decide, trivial⟩ ?_
    intro T242 X242 e242
    refine Goes.sI X242 e242 hx hZ V_b231 (i := 0) (own_ixok (by decide)) (Nat.le_of_ble_eq_true rfl) N240 g_b231 rfl rfl (hb hby d11_420) ?_
    intro T243 h243 L243 X243 e243 W243 (V_b231 : Arv Z h243 b231 k231 .int (3 : Int32) [(.int 4), (.int 0), (.int 0)] (.int 0)) N243
    have NB := own_all.wr W243 d_b231 NB
    have E_x0 := E_x0.wr W243
    have V_cp := V_cp.other W243 ne_cp_b231
    have V_x1 := V_x1.other W243 ne_x1_b231
    have E_b3 := E_b3.wr W243
    have V_x2 := V_x2.other W243 ne_x2_b231
    have V_b3 := V_b3.other W243 ne_b3_b231
    have E_b231 := E_b231.wr W243
    have V_x3 := V_x3.other W243 ne_x3_b231
    have K243 := K240.wr W243 (Or.inr sz_b231)
    refine Goes.hrun X243 e243 CX (own_c2 V_x3 NB) (L := [.p 421 (.aload_n 0) 1, .f 422 9 5, .p 425 (.iload 11) 2, .I 427 10 4, .p 428 (.istore 10) 2, .p 430 (.goto 62) 3, .p 492 (.goto (-304)) 3, .p 188 (.iload 10) 2, .p 190 (.aload_n 0) 1, .f 191 35 3, .c 194 .ne 153 true, .p 347 (.aload_n 3) 1, .p 348 (.iload 10) 2, .I 350 0 0, .p 351 (.istore 11) 2, .p 353 (.iload 11) 2]) (by decide +kernel) rfl (g' := (mkF m 355 #[rv x0, rv x1, rv x2, rv x3, rv b3, iv 4, rv b231, jv 0, .second, iv 1, iv 0, iv 5, .unset, .unset] [(.int 5)])) rfl ⟨rr, ra (by decide), rr, by decide, ra (by decide), trivial⟩ ?_
    intro T249 X249 e249
    refine Goes.hrun X249 e249 CX (own_c2 V_x2 NB) (L := [.b 355 .lt 45 false, .p 358 (.aload_n 2) 1, .p 359 (.aload_n 0) 1, .f 360 9 5, .p 363 (.iload 11) 2, .I 365 10 5, .I 366 0 2, .p 367 (.aload_n 2) 1, .p 368 (.iload 10) 2, .I 370 0 0, .p 371 (.iconst 1) 1, .p 372 .iadd 1, .c 373 .ne 15 true, .p 388 (.aload_n 0) 1, .f 389 15 6, .p 392 (.iload 11) 2]) (by decide +kernel) rfl (g' := (mkF m 394 #[rv x0, rv x1, rv x2, rv x3, rv b3, iv 4, rv b231, jv 0, .second, iv 1, iv 0, iv 5, .unset, .unset] [(.int 5), (.ref nx)])) rfl ⟨by decide, rr, ra (by decide), ra (by decide), ra (by decide), by decide, rr, trivial⟩ ?_
    intro T250 X250 e250
    refine Goes.hrun X250 e250 CX (own_c2 V_x2 NB) (L := [.I 394 11 5, .p 395 (.istore 11) 2, .p 397 (.goto (-44)) 3, .p 353 (.iload 11) 2, .b 355 .lt 45 false, .p 358 (.aload_n 2) 1, .p 359 (.aload_n 0) 1, .f 360 9 5, .p 363 (.iload 11) 2, .I 365 10 2, .I 366 0 1, .p 367 (.aload_n 2) 1, .p 368 (.iload 10) 2, .I 370 0 0, .p 371 (.iconst 1) 1, .p 372 .iadd 1]) (by decide +kernel) rfl (g' := (mkF m 373 #[rv x0, rv x1, rv x2, rv x3, rv b3, iv 4, rv b231, jv 0, .second, iv 1, iv 0, iv 2, .unset, .unset] [(.int 2), (.int 2)])) rfl ⟨ra (by decide), by decide, rr, ra (by decide), ra (by decide), ra (by decide), trivial⟩ ?_
    intro T251 X251 e251
    refine Goes.hrun X251 e251 CX NB (L := [.c 373 .ne 15 false, .p 376 (.aload_n 0) 1, .p 377 (.iload 11) 2, .p 379 (.iload 10) 2, .p 381 (.aload_n 1) 1]) (by decide +kernel) rfl (g' := (mkF m 382 #[rv x0, rv x1, rv x2, rv x3, rv b3, iv 4, rv b231, jv 0, .second, iv 1, iv 0, iv 2, .unset, .unset] [(.ref x1), (.int 0), (.int 2), (.ref x0)])) rfl ⟨by decide, trivial⟩ ?_
    intro T252 X252 e252
    obtain ⟨cq253, q253a, q253b⟩ := E_x0.cell
    obtain ⟨_, _, ⟨T253, L253, k253, n253⟩, -, X253, ⟨Lc253, hQ253, l253, y253, z253⟩, st253⟩ := X252.privateBack hx (y := ym9) hown (mvT hZ w_113) (mvT hZ w_114) (own_selp (y := ym9) (mvT hZ w_4) (mvP hZ w_115) (mvT hZ w_114) (by decide)) (Cond.privateMethod_at (mvP hZ w_115 (args := #[]))) (mvT hZ w_116) (by decide) (backOf (W := 0) (rmE2 l Z a0 hw [] x0 x1 hd nx cp co fa lo khd knx kco kfa kcp klo cA nA cB nB la lb kx1 q0 q1 q2 q3 q4 q5 q4 q7 pP h243 n0 (Nat.le_trans Z0 K243.1) NB V_cp V_x1) hZ w_116 w_5 (by decide) (by decide)) (g := (mkF m 382 #[rv x0, rv x1, rv x2, rv x3, rv b3, iv 4, rv b231, jv 0, .second, iv 1, iv 0, iv 2, .unset, .unset] [(.ref x1), (.int 0), (.int 2), (.ref x0)])) rfl (by rw [hml]; rfl) (Steps.refl _) (a := x0) (by rw [e252]; exact q253a) q253b (argsL := [(.int 2), (.int 0), (.ref x1)]) (rest := []) (lenOf pdF_1 rfl) rfl (by show 2 * 0 + _ ≤ _; exact Nat.le_of_eq rfl) (hb hby d11_382) (fun _ _ => ⟨rfl, e252, (by decide : 2 + 0 ≤ _), (by decide : 7 + 0 ≤ _)⟩)
    dsimp only [Pt.U, Pt.locs, Pt.cells, Pt.slots] at X253 l253 y253 z253 st253 hQ253
    subst l253 y253 z253
    obtain ⟨rfl, N253q, e253⟩ := hQ253
    have N253 := Fr.app N243 N253q
    refine Goes.st (fun t k => st253.trans k) ?_
    refine Goes.hrun X253 e253 CX NB (L := [.b 385 .ne 15 true, .p 400 (.aload_n 3) 1, .p 401 (.iload 10) 2, .p 403 (.iload 11) 2]) (by decide +kernel) rfl (g' := (mkF m 405 #[rv x0, rv x1, rv x2, rv x3, rv b3, iv 4, rv b231, jv 0, .second, iv 1, iv 0, iv 2, .unset, .unset] [(.int 2), (.int 0), (.ref x3)])) rfl ⟨(if0 _ _).trans (feq (own_t2 hk hP : ¬ ((rE2 cB q2 pP) = (0 : Int32)))).2, trivial⟩ ?_
    intro T255 X255 e255
    refine Goes.sI X255 e255 hx hZ V_x3 (i := 0) (own_ixok (by decide)) (Nat.le_of_ble_eq_true rfl) N253 g_x3 rfl rfl (hb hby d11_405) ?_
    intro T256 h256 L256 X256 e256 W256 (V_x3 : Arv Z h256 x3 kx3 .int (4 : Int32) [(.int 2), (.int 6), (.int 4), (.int 7)] (.int (0 : Int32))) N256
    have NB := own_all.wr W256 d_x3 NB
    have E_x0 := E_x0.wr W256
    have V_cp := V_cp.other W256 (Ne.symm ne_x3_cp)
    have V_x1 := V_x1.other W256 (Ne.symm ne_x3_x1)
    have E_b3 := E_b3.wr W256
    have V_x2 := V_x2.other W256 ne_x2_x3
    have V_b3 := V_b3.other W256 (Ne.symm ne_x3_b3)
    have E_b231 := E_b231.wr W256
    have V_b231 := V_b231.other W256 (Ne.symm ne_x3_b231)
    have K256 := K243.wr W256 (Or.inl (List.mem_of_getElem? (i := 1) rfl))
    refine Goes.hrun X256 e256 CX NB (L := [.p 406 (.iload 11) 2, .b 408 .lt 25 false, .p 411 (.aload 6) 2, .p 413 (.iload 9) 2, .p 415 (.iinc 9 1) 3, .p 418 (.iload 11) 2]) (by decide +kernel) rfl (g' := (mkF m 420 #[rv x0, rv x1, rv x2, rv x3, rv b3, iv 4, rv b231, jv 0, .second, iv 2, iv 0, iv 2, .unset, .unset] [(.int 2), (.int 1), (.ref b231)])) rfl ⟨by decide, trivial⟩ ?_
    intro T258 X258 e258
    refine Goes.sI X258 e258 hx hZ V_b231 (i := 1) (own_ixok (by decide)) (Nat.le_of_ble_eq_true rfl) N256 g_b231 rfl rfl (hb hby d11_420) ?_
    intro T259 h259 L259 X259 e259 W259 (V_b231 : Arv Z h259 b231 k231 .int (3 : Int32) [(.int 4), (.int 2), (.int 0)] (.int 0)) N259
    have NB := own_all.wr W259 d_b231 NB
    have E_x0 := E_x0.wr W259
    have V_cp := V_cp.other W259 ne_cp_b231
    have V_x1 := V_x1.other W259 ne_x1_b231
    have E_b3 := E_b3.wr W259
    have V_x2 := V_x2.other W259 ne_x2_b231
    have V_b3 := V_b3.other W259 ne_b3_b231
    have E_b231 := E_b231.wr W259
    have V_x3 := V_x3.other W259 ne_x3_b231
    have K259 := K256.wr W259 (Or.inr sz_b231)
    refine Goes.hrun X259 e259 CX (own_c2 V_x3 NB) (L := [.p 421 (.aload_n 0) 1, .f 422 9 5, .p 425 (.iload 11) 2, .I 427 10 2, .p 428 (.istore 10) 2, .p 430 (.goto 62) 3, .p 492 (.goto (-304)) 3, .p 188 (.iload 10) 2, .p 190 (.aload_n 0) 1, .f 191 35 3, .c 194 .ne 153 true, .p 347 (.aload_n 3) 1, .p 348 (.iload 10) 2, .I 350 0 1, .p 351 (.istore 11) 2, .p 353 (.iload 11) 2]) (by decide +kernel) rfl (g' := (mkF m 355 #[rv x0, rv x1, rv x2, rv x3, rv b3, iv 4, rv b231, jv 0, .second, iv 2, iv 1, iv 6, .unset, .unset] [(.int 6)])) rfl ⟨rr, ra (by decide), rr, by decide, ra (by decide), trivial⟩ ?_
    intro T263 X263 e263
    refine Goes.hrun X263 e263 CX (own_c2 V_x2 NB) (L := [.b 355 .lt 45 false, .p 358 (.aload_n 2) 1, .p 359 (.aload_n 0) 1, .f 360 9 5, .p 363 (.iload 11) 2, .I 365 10 6, .I 366 0 3, .p 367 (.aload_n 2) 1, .p 368 (.iload 10) 2, .I 370 0 1, .p 371 (.iconst 1) 1, .p 372 .iadd 1, .c 373 .ne 15 false, .p 376 (.aload_n 0) 1, .p 377 (.iload 11) 2, .p 379 (.iload 10) 2]) (by decide +kernel) rfl (g' := (mkF m 381 #[rv x0, rv x1, rv x2, rv x3, rv b3, iv 4, rv b231, jv 0, .second, iv 2, iv 1, iv 6, .unset, .unset] [(.int 1), (.int 6), (.ref x0)])) rfl ⟨by decide, rr, ra (by decide), ra (by decide), ra (by decide), by decide, trivial⟩ ?_
    intro T264 X264 e264
    refine Goes.run X264 hx hown hci hcl hby (L := [(381, .aload_n 1, 1)]) (by decide +kernel) rfl (g' := (mkF m 382 #[rv x0, rv x1, rv x2, rv x3, rv b3, iv 4, rv b231, jv 0, .second, iv 2, iv 1, iv 6, .unset, .unset] [(.ref x1), (.int 1), (.int 6), (.ref x0)])) rfl ?_
    obtain ⟨cq265, q265a, q265b⟩ := E_x0.cell
    obtain ⟨_, _, ⟨T265, L265, k265, n265⟩, -, X265, ⟨Lc265, hQ265, l265, y265, z265⟩, st265⟩ := X264.privateBack hx (y := ym9) hown (mvT hZ w_113) (mvT hZ w_114) (own_selp (y := ym9) (mvT hZ w_4) (mvP hZ w_115) (mvT hZ w_114) (by decide)) (Cond.privateMethod_at (mvP hZ w_115 (args := #[]))) (mvT hZ w_116) (by decide) (backOf (W := 0) (rmE6 l Z a0 hw [] x0 x1 hd nx cp co fa lo khd knx kco kfa kcp klo cA nA cB nB la lb kx1 q0 q1 q2 q3 q4 q5 q4 q7 pP h259 n0 (Nat.le_trans Z0 K259.1) NB V_cp V_x1) hZ w_116 w_5 (by decide) (by decide)) (g := (mkF m 382 #[rv x0, rv x1, rv x2, rv x3, rv b3, iv 4, rv b231, jv 0, .second, iv 2, iv 1, iv 6, .unset, .unset] [(.ref x1), (.int 1), (.int 6), (.ref x0)])) rfl (by rw [hml]; rfl) (Steps.refl _) (a := x0) (by rw [e264]; exact q265a) q265b (argsL := [(.int 6), (.int 1), (.ref x1)]) (rest := []) (lenOf pdF_1 rfl) rfl (by show 2 * 0 + _ ≤ _; exact Nat.le_of_eq rfl) (hb hby d11_382) (fun _ _ => ⟨rfl, e264, (by decide : 2 + 0 ≤ _), (by decide : 7 + 0 ≤ _)⟩)
    dsimp only [Pt.U, Pt.locs, Pt.cells, Pt.slots] at X265 l265 y265 z265 st265 hQ265
    subst l265 y265 z265
    obtain ⟨rfl, N265q, e265⟩ := hQ265
    have N265 := Fr.app N259 N265q
    refine Goes.st (fun t k => st265.trans k) ?_
    refine Goes.hrun X265 e265 CX NB (L := [.b 385 .ne 15 true, .p 400 (.aload_n 3) 1, .p 401 (.iload 10) 2, .p 403 (.iload 11) 2]) (by decide +kernel) rfl (g' := (mkF m 405 #[rv x0, rv x1, rv x2, rv x3, rv b3, iv 4, rv b231, jv 0, .second, iv 2, iv 1, iv 6, .unset, .unset] [(.int 6), (.int 1), (.ref x3)])) rfl ⟨(if0 _ _).trans (feq (own_t2 pz4 (own_zz pP) : ¬ ((rE6 q4 pP) = (0 : Int32)))).2, trivial⟩ ?_
    intro T267 X267 e267
    refine Goes.sI X267 e267 hx hZ V_x3 (i := 1) (own_ixok (by decide)) (Nat.le_of_ble_eq_true rfl) N265 g_x3 rfl rfl (hb hby d11_405) ?_
    intro T268 h268 L268 X268 e268 W268 (V_x3 : Arv Z h268 x3 kx3 .int (4 : Int32) [(.int 2), (.int 6), (.int 4), (.int 7)] (.int (0 : Int32))) N268
    have NB := own_all.wr W268 d_x3 NB
    have E_x0 := E_x0.wr W268
    have V_cp := V_cp.other W268 (Ne.symm ne_x3_cp)
    have V_x1 := V_x1.other W268 (Ne.symm ne_x3_x1)
    have E_b3 := E_b3.wr W268
    have V_x2 := V_x2.other W268 ne_x2_x3
    have V_b3 := V_b3.other W268 (Ne.symm ne_x3_b3)
    have E_b231 := E_b231.wr W268
    have V_b231 := V_b231.other W268 (Ne.symm ne_x3_b231)
    have K268 := K259.wr W268 (Or.inl (List.mem_of_getElem? (i := 1) rfl))
    refine Goes.hrun X268 e268 CX NB (L := [.p 406 (.iload 11) 2, .b 408 .lt 25 false, .p 411 (.aload 6) 2, .p 413 (.iload 9) 2, .p 415 (.iinc 9 1) 3, .p 418 (.iload 11) 2]) (by decide +kernel) rfl (g' := (mkF m 420 #[rv x0, rv x1, rv x2, rv x3, rv b3, iv 4, rv b231, jv 0, .second, iv 3, iv 1, iv 6, .unset, .unset] [(.int 6), (.int 2), (.ref b231)])) rfl ⟨by decide, trivial⟩ ?_
    intro T270 X270 e270
    refine Goes.sI X270 e270 hx hZ V_b231 (i := 2) (own_ixok (by decide)) (Nat.le_of_ble_eq_true rfl) N268 g_b231 rfl rfl (hb hby d11_420) ?_
    intro T271 h271 L271 X271 e271 W271 (V_b231 : Arv Z h271 b231 k231 .int (3 : Int32) [(.int 4), (.int 2), (.int 6)] (.int 0)) N271
    have NB := own_all.wr W271 d_b231 NB
    have E_x0 := E_x0.wr W271
    have V_cp := V_cp.other W271 ne_cp_b231
    have V_x1 := V_x1.other W271 ne_x1_b231
    have E_b3 := E_b3.wr W271
    have V_x2 := V_x2.other W271 ne_x2_b231
    have V_b3 := V_b3.other W271 ne_b3_b231
    have E_b231 := E_b231.wr W271
    have V_x3 := V_x3.other W271 ne_x3_b231
    have K271 := K268.wr W271 (Or.inr sz_b231)
    refine Goes.hrun X271 e271 CX NB (L := [.p 421 (.aload_n 0) 1, .f 422 9 4, .p 425 (.iload 11) 2, .I 427 9 6, .p 428 (.istore 10) 2, .p 430 (.goto 62) 3, .p 492 (.goto (-304)) 3, .p 188 (.iload 10) 2, .p 190 (.aload_n 0) 1, .f 191 35 2, .c 194 .ne 153 false, .p 197 (.ldc2_w 119) 3, .p 200 (.lstore 11) 2, .p 202 (.iconst 0) 1, .p 203 (.istore 13) 2, .p 205 (.iload 13) 2]) (by decide +kernel) rfl (g' := (mkF m 207 #[rv x0, rv x1, rv x2, rv x3, rv b3, iv 4, rv b231, jv 0, .second, iv 3, iv 3, jv 2305843009213693951, .second, iv 0] [(.int 0)])) rfl ⟨rr, ra (by decide), rr, by decide, trivial⟩ ?_
    intro T274 X274 e274
    refine Goes.hrun X274 e274 CX (own_c2 V_b231 (own_c2 V_cp NB)) (L := [.p 207 (.iload 9) 2, .c 209 .ge 26 false, .p 212 (.lload 11) 2, .p 214 (.aload_n 0) 1, .f 215 18 8, .p 218 (.aload 6) 2, .p 220 (.iload 13) 2, .I 222 0 0, .J 223 1 4]) (by decide +kernel) rfl (g' := (mkF m 224 #[rv x0, rv x1, rv x2, rv x3, rv b3, iv 4, rv b231, jv 0, .second, iv 3, iv 3, jv 2305843009213693951, .second, iv 0] [(.long q4), (.long 2305843009213693951)])) rfl ⟨by decide, rr, ra (by decide), ra (by decide), trivial⟩ ?_
    intro T275 X275 e275
    obtain ⟨_, _, ⟨T276, L276, k276, n276⟩, -, X276, ⟨Lc276, hQ276, l276, y276, z276⟩, st276⟩ := Jvm.LawKit.callS X275 hx (y := ym2) hown (mvT hZ w_122) (mvT hZ w_65) (mvT hZ w_66) (mvT hZ w_67) (by decide) (backOf (W := 0) (rm3 l Z a0 hw [] (2305843009213693951 : Int64) q4 h271 n0 (Nat.le_trans Z0 K271.1) ) hZ w_67 w_66 (by decide) (by decide)) (g := (mkF m 224 #[rv x0, rv x1, rv x2, rv x3, rv b3, iv 4, rv b231, jv 0, .second, iv 3, iv 3, jv 2305843009213693951, .second, iv 0] [(.long q4), (.long 2305843009213693951)])) rfl (by rw [hml]; rfl) (argsL := [(.long 2305843009213693951), (.long q4)]) (rest := []) (lenOf pdF_2 rfl) rfl (by show 2 * 0 + _ ≤ _; exact Nat.le_of_eq rfl) (hb hby d11_224) (fun _ _ => ⟨rfl, e275, (by decide : 2 + 0 ≤ _), (by decide : 7 + 0 ≤ _)⟩)
    dsimp only [Pt.U, Pt.locs, Pt.cells, Pt.slots] at X276 l276 y276 z276 st276 hQ276
    subst l276 y276 z276
    obtain ⟨rfl, N276q, e276⟩ := hQ276
    have N276 := Fr.app N271 N276q
    refine Goes.st st276 ?_
    refine Goes.hrun X276 e276 CX (own_c2 V_b231 (own_c2 V_cp NB)) (L := [.p 227 (.lstore 11) 2, .p 229 (.iinc 13 1) 3, .p 232 (.goto (-27)) 3, .p 205 (.iload 13) 2, .p 207 (.iload 9) 2, .c 209 .ge 26 false, .p 212 (.lload 11) 2, .p 214 (.aload_n 0) 1, .f 215 18 8, .p 218 (.aload 6) 2, .p 220 (.iload 13) 2, .I 222 0 1, .J 223 1 2]) (by decide +kernel) rfl (g' := (mkF m 224 #[rv x0, rv x1, rv x2, rv x3, rv b3, iv 4, rv b231, jv 0, .second, iv 3, iv 3, jv (wF_227 q0 q1 q2 q3 q4 q5 q7), .second, iv 1] [(.long q2), (.long (wF_227 q0 q1 q2 q3 q4 q5 q7))])) rfl ⟨by decide, rr, ra (by decide), ra (by decide), trivial⟩ ?_
    intro T278 X278 e278
    obtain ⟨_, _, ⟨T279, L279, k279, n279⟩, -, X279, ⟨Lc279, hQ279, l279, y279, z279⟩, st279⟩ := Jvm.LawKit.callS X278 hx (y := ym2) hown (mvT hZ w_122) (mvT hZ w_65) (mvT hZ w_66) (mvT hZ w_67) (by decide) (backOf (W := 0) (rm3 l Z a0 hw [] (wF_227 q0 q1 q2 q3 q4 q5 q7) q2 h271 n0 (Nat.le_trans Z0 K271.1) ) hZ w_67 w_66 (by decide) (by decide)) (g := (mkF m 224 #[rv x0, rv x1, rv x2, rv x3, rv b3, iv 4, rv b231, jv 0, .second, iv 3, iv 3, jv (wF_227 q0 q1 q2 q3 q4 q5 q7), .second, iv 1] [(.long q2), (.long (wF_227 q0 q1 q2 q3 q4 q5 q7))])) rfl (by rw [hml]; rfl) (argsL := [(.long (wF_227 q0 q1 q2 q3 q4 q5 q7)), (.long q2)]) (rest := []) (lenOf pdF_2 rfl) rfl (by show 2 * 0 + _ ≤ _; exact Nat.le_of_eq rfl) (hb hby d11_224) (fun _ _ => ⟨rfl, e278, (by decide : 2 + 0 ≤ _), (by decide : 7 + 0 ≤ _)⟩)
    dsimp only [Pt.U, Pt.locs, Pt.cells, Pt.slots] at X279 l279 y279 z279 st279 hQ279
    subst l279 y279 z279
    obtain ⟨rfl, N279q, e279⟩ := hQ279
    have N279 := Fr.app N276 N279q
    refine Goes.st st279 ?_
    refine Goes.hrun X279 e279 CX (own_c2 V_b231 (own_c2 V_cp NB)) (L := [.p 227 (.lstore 11) 2, .p 229 (.iinc 13 1) 3, .p 232 (.goto (-27)) 3, .p 205 (.iload 13) 2, .p 207 (.iload 9) 2, .c 209 .ge 26 false, .p 212 (.lload 11) 2, .p 214 (.aload_n 0) 1, .f 215 18 8, .p 218 (.aload 6) 2, .p 220 (.iload 13) 2, .I 222 0 2, .J 223 1 6]) (by decide +kernel) rfl (g' := (mkF m 224 #[rv x0, rv x1, rv x2, rv x3, rv b3, iv 4, rv b231, jv 0, .second, iv 3, iv 3, jv (wF_227_c q0 q1 q2 q3 q4 q5 q7), .second, iv 2] [(.long q4), (.long (wF_227_c q0 q1 q2 q3 q4 q5 q7))])) rfl ⟨by decide, rr, ra (by decide), ra (by decide), trivial⟩ ?_
    intro T281 X281 e281
    obtain ⟨_, _, ⟨T282, L282, k282, n282⟩, -, X282, ⟨Lc282, hQ282, l282, y282, z282⟩, st282⟩ := Jvm.LawKit.callS X281 hx (y := ym2) hown (mvT hZ w_122) (mvT hZ w_65) (mvT hZ w_66) (mvT hZ w_67) (by decide) (backOf (W := 0) (rm3 l Z a0 hw [] (wF_227_c q0 q1 q2 q3 q4 q5 q7) q4 h271 n0 (Nat.le_trans Z0 K271.1) ) hZ w_67 w_66 (by decide) (by decide)) (g := (mkF m 224 #[rv x0, rv x1, rv x2, rv x3, rv b3, iv 4, rv b231, jv 0, .second, iv 3, iv 3, jv (wF_227_c q0 q1 q2 q3 q4 q5 q7), .second, iv 2] [(.long q4), (.long (wF_227_c q0 q1 q2 q3 q4 q5 q7))])) rfl (by rw [hml]; rfl) (argsL := [(.long (wF_227_c q0 q1 q2 q3 q4 q5 q7)), (.long q4)]) (rest := []) (lenOf pdF_2 rfl) rfl (by show 2 * 0 + _ ≤ _; exact Nat.le_of_eq rfl) (hb hby d11_224) (fun _ _ => ⟨rfl, e281, (by decide : 2 + 0 ≤ _), (by decide : 7 + 0 ≤ _)⟩)
    dsimp only [Pt.U, Pt.locs, Pt.cells, Pt.slots] at X282 l282 y282 z282 st282 hQ282
    subst l282 y282 z282
    obtain ⟨rfl, N282q, e282⟩ := hQ282
    have N282 := Fr.app N279 N282q
    refine Goes.st st282 ?_
    refine Goes.hrun X282 e282 CX (own_c2 V_b231 NB) (L := [.p 227 (.lstore 11) 2, .p 229 (.iinc 13 1) 3, .p 232 (.goto (-27)) 3, .p 205 (.iload 13) 2, .p 207 (.iload 9) 2, .c 209 .ge 26 true, .p 235 (.iconst 0) 1, .p 236 (.istore 13) 2, .p 238 (.iload 13) 2, .p 240 (.iload 9) 2, .c 242 .ge 41 false, .p 245 (.aload_n 0) 1, .f 246 18 7, .p 249 (.aload 6) 2, .p 251 (.iload 13) 2, .I 253 0 0]) (by decide +kernel) rfl (g' := (mkF m 254 #[rv x0, rv x1, rv x2, rv x3, rv b3, iv 4, rv b231, jv 0, .second, iv 3, iv 3, jv (wF_227_d q0 q1 q2 q3 q4 q5 q7), .second, iv 0] [(.int 4), (.ref cp)])) rfl ⟨by decide, by decide, rr, ra (by decide), trivial⟩ ?_
    intro T285 X285 e285
    refine Goes.st (B := T285.setTop (mkF m 255 #[rv x0, rv x1, rv x2, rv x3, rv b3, iv 4, rv b231, jv 0, .second, iv 3, iv 3, jv (wF_227_d q0 q1 q2 q3 q4 q5 q7), .second, iv 0] [(.int 4), (.ref cp), (.int 4), (.ref cp)])) (fun t k => ?_) ?_
    · refine Jvm.Free.XT.dup2 X285.here hx rfl (hb hby d11_254) rfl rfl rfl ?_
      exact k
    refine Goes.hrun X285 e285 CX (own_c2 V_cp NB) (L := [.J 255 0 4, .p 256 (.lload 11) 2, .p 258 .lsub 1]) (by decide +kernel) rfl (g' := (mkF m 259 #[rv x0, rv x1, rv x2, rv x3, rv b3, iv 4, rv b231, jv 0, .second, iv 3, iv 3, jv (wF_227_d q0 q1 q2 q3 q4 q5 q7), .second, iv 0] [(.long (q4 - (wF_227_d q0 q1 q2 q3 q4 q5 q7))), (.int 4), (.ref cp)])) rfl ⟨ra (by decide), trivial⟩ ?_
    intro T286 X286 e286
    refine Goes.sJ X286 e286 hx hZ V_cp (i := 4) (own_ixok (by decide)) (Nat.le_of_ble_eq_true rfl) N282 g_cp rfl rfl (hb hby d11_259) ?_
    intro T287 h287 L287 X287 e287 W287 (V_cp : Arv Z h287 cp kcp .long (16 : Int32) [(.long q0), (.long q1), (.long q2), (.long q3), (.long (sF_259_b q0 q1 q2 q3 q4 q5 q7)), (.long q5), (.long q4), (.long q7)] (.long (0 : Int64))) N287
    have NB := own_all.wr W287 d_cp NB
    have E_x0 := E_x0.wr W287
    have V_x1 := V_x1.other W287 (Ne.symm ne_cp_x1)
    have E_b3 := E_b3.wr W287
    have V_x2 := V_x2.other W287 ne_x2_cp
    have V_b3 := V_b3.other W287 (Ne.symm ne_cp_b3)
    have E_b231 := E_b231.wr W287
    have V_x3 := V_x3.other W287 ne_x3_cp
    have V_b231 := V_b231.other W287 (Ne.symm ne_cp_b231)
    have K287 := K271.wr W287 (Or.inl (List.mem_of_getElem? (i := 2) rfl))
    refine Goes.hrun X287 e287 CX (own_c2 V_b231 NB) (L := [.p 260 (.aload_n 0) 1, .f 261 18 7, .p 264 (.aload 6) 2, .p 266 (.iload 13) 2, .I 268 0 0, .p 269 (.iconst 1) 1, .p 270 .ixor 1]) (by decide +kernel) rfl (g' := (mkF m 271 #[rv x0, rv x1, rv x2, rv x3, rv b3, iv 4, rv b231, jv 0, .second, iv 3, iv 3, jv (wF_227_d q0 q1 q2 q3 q4 q5 q7), .second, iv 0] [(.int 5), (.ref cp)])) rfl ⟨rr, ra (by decide), trivial⟩ ?_
    intro T288 X288 e288
    refine Goes.st (B := T288.setTop (mkF m 272 #[rv x0, rv x1, rv x2, rv x3, rv b3, iv 4, rv b231, jv 0, .second, iv 3, iv 3, jv (wF_227_d q0 q1 q2 q3 q4 q5 q7), .second, iv 0] [(.int 5), (.ref cp), (.int 5), (.ref cp)])) (fun t k => ?_) ?_
    · refine Jvm.Free.XT.dup2 X288.here hx rfl (hb hby d11_271) rfl rfl rfl ?_
      exact k
    refine Goes.hrun X288 e288 CX (own_c2 V_cp NB) (L := [.J 272 0 5, .p 273 (.lload 11) 2, .p 275 .ladd 1]) (by decide +kernel) rfl (g' := (mkF m 276 #[rv x0, rv x1, rv x2, rv x3, rv b3, iv 4, rv b231, jv 0, .second, iv 3, iv 3, jv (wF_227_d q0 q1 q2 q3 q4 q5 q7), .second, iv 0] [(.long (q5 + (wF_227_d q0 q1 q2 q3 q4 q5 q7))), (.int 5), (.ref cp)])) rfl ⟨ra (by decide), trivial⟩ ?_
    intro T289 X289 e289
    refine Goes.sJ X289 e289 hx hZ V_cp (i := 5) (own_ixok (by decide)) (Nat.le_of_ble_eq_true rfl) N287 g_cp rfl rfl (hb hby d11_276) ?_
    intro T290 h290 L290 X290 e290 W290 (V_cp : Arv Z h290 cp kcp .long (16 : Int32) [(.long q0), (.long q1), (.long q2), (.long q3), (.long (sF_259_b q0 q1 q2 q3 q4 q5 q7)), (.long (sF_276_c q0 q1 q2 q3 q4 q5 q7)), (.long q4), (.long q7)] (.long (0 : Int64))) N290
    have NB := own_all.wr W290 d_cp NB
    have E_x0 := E_x0.wr W290
    have V_x1 := V_x1.other W290 (Ne.symm ne_cp_x1)
    have E_b3 := E_b3.wr W290
    have V_x2 := V_x2.other W290 ne_x2_cp
    have V_b3 := V_b3.other W290 (Ne.symm ne_cp_b3)
    have E_b231 := E_b231.wr W290
    have V_x3 := V_x3.other W290 ne_x3_cp
    have V_b231 := V_b231.other W290 (Ne.symm ne_cp_b231)
    have K290 := K287.wr W290 (Or.inl (List.mem_of_getElem? (i := 2) rfl))
    refine Goes.hrun X290 e290 CX (own_c2 V_b231 NB) (L := [.p 277 (.iinc 13 1) 3, .p 280 (.goto (-42)) 3, .p 238 (.iload 13) 2, .p 240 (.iload 9) 2, .c 242 .ge 41 false, .p 245 (.aload_n 0) 1, .f 246 18 7, .p 249 (.aload 6) 2, .p 251 (.iload 13) 2, .I 253 0 1]) (by decide +kernel) rfl (g' := (mkF m 254 #[rv x0, rv x1, rv x2, rv x3, rv b3, iv 4, rv b231, jv 0, .second, iv 3, iv 3, jv (wF_227_d q0 q1 q2 q3 q4 q5 q7), .second, iv 1] [(.int 2), (.ref cp)])) rfl ⟨by decide, rr, ra (by decide), trivial⟩ ?_
    intro T292 X292 e292
    refine Goes.st (B := T292.setTop (mkF m 255 #[rv x0, rv x1, rv x2, rv x3, rv b3, iv 4, rv b231, jv 0, .second, iv 3, iv 3, jv (wF_227_d q0 q1 q2 q3 q4 q5 q7), .second, iv 1] [(.int 2), (.ref cp), (.int 2), (.ref cp)])) (fun t k => ?_) ?_
    · refine Jvm.Free.XT.dup2 X292.here hx rfl (hb hby d11_254) rfl rfl rfl ?_
      exact k
    refine Goes.hrun X292 e292 CX (own_c2 V_cp NB) (L := [.J 255 0 2, .p 256 (.lload 11) 2, .p 258 .lsub 1]) (by decide +kernel) rfl (g' := (mkF m 259 #[rv x0, rv x1, rv x2, rv x3, rv b3, iv 4, rv b231, jv 0, .second, iv 3, iv 3, jv (wF_227_d q0 q1 q2 q3 q4 q5 q7), .second, iv 1] [(.long (q2 - (wF_227_d q0 q1 q2 q3 q4 q5 q7))), (.int 2), (.ref cp)])) rfl ⟨ra (by decide), trivial⟩ ?_
    intro T293 X293 e293
    refine Goes.sJ X293 e293 hx hZ V_cp (i := 2) (own_ixok (by decide)) (Nat.le_of_ble_eq_true rfl) N290 g_cp rfl rfl (hb hby d11_259) ?_
    intro T294 h294 L294 X294 e294 W294 (V_cp : Arv Z h294 cp kcp .long (16 : Int32) [(.long q0), (.long q1), (.long (sF_259_c q0 q1 q2 q3 q4 q5 q7)), (.long q3), (.long (sF_259_b q0 q1 q2 q3 q4 q5 q7)), (.long (sF_276_c q0 q1 q2 q3 q4 q5 q7)), (.long q4), (.long q7)] (.long (0 : Int64))) N294
    have NB := own_all.wr W294 d_cp NB
    have E_x0 := E_x0.wr W294
    have V_x1 := V_x1.other W294 (Ne.symm ne_cp_x1)
    have E_b3 := E_b3.wr W294
    have V_x2 := V_x2.other W294 ne_x2_cp
    have V_b3 := V_b3.other W294 (Ne.symm ne_cp_b3)
    have E_b231 := E_b231.wr W294
    have V_x3 := V_x3.other W294 ne_x3_cp
    have V_b231 := V_b231.other W294 (Ne.symm ne_cp_b231)
    have K294 := K290.wr W294 (Or.inl (List.mem_of_getElem? (i := 2) rfl))
    refine Goes.hrun X294 e294 CX (own_c2 V_b231 NB) (L := [.p 260 (.aload_n 0) 1, .f 261 18 7, .p 264 (.aload 6) 2, .p 266 (.iload 13) 2, .I 268 0 1, .p 269 (.iconst 1) 1, .p 270 .ixor 1]) (by decide +kernel) rfl (g' := (mkF m 271 #[rv x0, rv x1, rv x2, rv x3, rv b3, iv 4, rv b231, jv 0, .second, iv 3, iv 3, jv (wF_227_d q0 q1 q2 q3 q4 q5 q7), .second, iv 1] [(.int 3), (.ref cp)])) rfl ⟨rr, ra (by decide), trivial⟩ ?_
    intro T295 X295 e295
    refine Goes.st (B := T295.setTop (mkF m 272 #[rv x0, rv x1, rv x2, rv x3, rv b3, iv 4, rv b231, jv 0, .second, iv 3, iv 3, jv (wF_227_d q0 q1 q2 q3 q4 q5 q7), .second, iv 1] [(.int 3), (.ref cp), (.int 3), (.ref cp)])) (fun t k => ?_) ?_
    · refine Jvm.Free.XT.dup2 X295.here hx rfl (hb hby d11_271) rfl rfl rfl ?_
      exact k
    refine Goes.hrun X295 e295 CX (own_c2 V_cp NB) (L := [.J 272 0 3, .p 273 (.lload 11) 2, .p 275 .ladd 1]) (by decide +kernel) rfl (g' := (mkF m 276 #[rv x0, rv x1, rv x2, rv x3, rv b3, iv 4, rv b231, jv 0, .second, iv 3, iv 3, jv (wF_227_d q0 q1 q2 q3 q4 q5 q7), .second, iv 1] [(.long (q3 + (wF_227_d q0 q1 q2 q3 q4 q5 q7))), (.int 3), (.ref cp)])) rfl ⟨ra (by decide), trivial⟩ ?_
    intro T296 X296 e296
    refine Goes.sJ X296 e296 hx hZ V_cp (i := 3) (own_ixok (by decide)) (Nat.le_of_ble_eq_true rfl) N294 g_cp rfl rfl (hb hby d11_276) ?_
    intro T297 h297 L297 X297 e297 W297 (V_cp : Arv Z h297 cp kcp .long (16 : Int32) [(.long q0), (.long q1), (.long (sF_259_c q0 q1 q2 q3 q4 q5 q7)), (.long (sF_276_d q0 q1 q2 q3 q4 q5 q7)), (.long (sF_259_b q0 q1 q2 q3 q4 q5 q7)), (.long (sF_276_c q0 q1 q2 q3 q4 q5 q7)), (.long q4), (.long q7)] (.long (0 : Int64))) N297
    have NB := own_all.wr W297 d_cp NB
    have E_x0 := E_x0.wr W297
    have V_x1 := V_x1.other W297 (Ne.symm ne_cp_x1)
    have E_b3 := E_b3.wr W297
    have V_x2 := V_x2.other W297 ne_x2_cp
    have V_b3 := V_b3.other W297 (Ne.symm ne_cp_b3)
    have E_b231 := E_b231.wr W297
    have V_x3 := V_x3.other W297 ne_x3_cp
    have V_b231 := V_b231.other W297 (Ne.symm ne_cp_b231)
    have K297 := K294.wr W297 (Or.inl (List.mem_of_getElem? (i := 2) rfl))
    refine Goes.hrun X297 e297 CX (own_c2 V_b231 NB) (L := [.p 277 (.iinc 13 1) 3, .p 280 (.goto (-42)) 3, .p 238 (.iload 13) 2, .p 240 (.iload 9) 2, .c 242 .ge 41 false, .p 245 (.aload_n 0) 1, .f 246 18 7, .p 249 (.aload 6) 2, .p 251 (.iload 13) 2, .I 253 0 2]) (by decide +kernel) rfl (g' := (mkF m 254 #[rv x0, rv x1, rv x2, rv x3, rv b3, iv 4, rv b231, jv 0, .second, iv 3, iv 3, jv (wF_227_d q0 q1 q2 q3 q4 q5 q7), .second, iv 2] [(.int 6), (.ref cp)])) rfl ⟨by decide, rr, ra (by decide), trivial⟩ ?_
    intro T299 X299 e299
    refine Goes.st (B := T299.setTop (mkF m 255 #[rv x0, rv x1, rv x2, rv x3, rv b3, iv 4, rv b231, jv 0, .second, iv 3, iv 3, jv (wF_227_d q0 q1 q2 q3 q4 q5 q7), .second, iv 2] [(.int 6), (.ref cp), (.int 6), (.ref cp)])) (fun t k => ?_) ?_
    · refine Jvm.Free.XT.dup2 X299.here hx rfl (hb hby d11_254) rfl rfl rfl ?_
      exact k
    refine Goes.hrun X299 e299 CX (own_c2 V_cp NB) (L := [.J 255 0 6, .p 256 (.lload 11) 2, .p 258 .lsub 1]) (by decide +kernel) rfl (g' := (mkF m 259 #[rv x0, rv x1, rv x2, rv x3, rv b3, iv 4, rv b231, jv 0, .second, iv 3, iv 3, jv (wF_227_d q0 q1 q2 q3 q4 q5 q7), .second, iv 2] [(.long (q4 - (wF_227_d q0 q1 q2 q3 q4 q5 q7))), (.int 6), (.ref cp)])) rfl ⟨ra (by decide), trivial⟩ ?_
    intro T300 X300 e300
    refine Goes.sJ X300 e300 hx hZ V_cp (i := 6) (own_ixok (by decide)) (Nat.le_of_ble_eq_true rfl) N297 g_cp rfl rfl (hb hby d11_259) ?_
    intro T301 h301 L301 X301 e301 W301 (V_cp : Arv Z h301 cp kcp .long (16 : Int32) [(.long q0), (.long q1), (.long (sF_259_c q0 q1 q2 q3 q4 q5 q7)), (.long (sF_276_d q0 q1 q2 q3 q4 q5 q7)), (.long (sF_259_b q0 q1 q2 q3 q4 q5 q7)), (.long (sF_276_c q0 q1 q2 q3 q4 q5 q7)), (.long (sF_259_b q0 q1 q2 q3 q4 q5 q7)), (.long q7)] (.long (0 : Int64))) N301
    have NB := own_all.wr W301 d_cp NB
    have E_x0 := E_x0.wr W301
    have V_x1 := V_x1.other W301 (Ne.symm ne_cp_x1)
    have E_b3 := E_b3.wr W301
    have V_x2 := V_x2.other W301 ne_x2_cp
    have V_b3 := V_b3.other W301 (Ne.symm ne_cp_b3)
    have E_b231 := E_b231.wr W301
    have V_x3 := V_x3.other W301 ne_x3_cp
    have V_b231 := V_b231.other W301 (Ne.symm ne_cp_b231)
    have K301 := K297.wr W301 (Or.inl (List.mem_of_getElem? (i := 2) rfl))
    refine Goes.hrun X301 e301 CX (own_c2 V_b231 NB) (L := [.p 260 (.aload_n 0) 1, .f 261 18 7, .p 264 (.aload 6) 2, .p 266 (.iload 13) 2, .I 268 0 2, .p 269 (.iconst 1) 1, .p 270 .ixor 1]) (by decide +kernel) rfl (g' := (mkF m 271 #[rv x0, rv x1, rv x2, rv x3, rv b3, iv 4, rv b231, jv 0, .second, iv 3, iv 3, jv (wF_227_d q0 q1 q2 q3 q4 q5 q7), .second, iv 2] [(.int 7), (.ref cp)])) rfl ⟨rr, ra (by decide), trivial⟩ ?_
    intro T302 X302 e302
    refine Goes.st (B := T302.setTop (mkF m 272 #[rv x0, rv x1, rv x2, rv x3, rv b3, iv 4, rv b231, jv 0, .second, iv 3, iv 3, jv (wF_227_d q0 q1 q2 q3 q4 q5 q7), .second, iv 2] [(.int 7), (.ref cp), (.int 7), (.ref cp)])) (fun t k => ?_) ?_
    · refine Jvm.Free.XT.dup2 X302.here hx rfl (hb hby d11_271) rfl rfl rfl ?_
      exact k
    refine Goes.hrun X302 e302 CX (own_c2 V_cp NB) (L := [.J 272 0 7, .p 273 (.lload 11) 2, .p 275 .ladd 1]) (by decide +kernel) rfl (g' := (mkF m 276 #[rv x0, rv x1, rv x2, rv x3, rv b3, iv 4, rv b231, jv 0, .second, iv 3, iv 3, jv (wF_227_d q0 q1 q2 q3 q4 q5 q7), .second, iv 2] [(.long (q7 + (wF_227_d q0 q1 q2 q3 q4 q5 q7))), (.int 7), (.ref cp)])) rfl ⟨ra (by decide), trivial⟩ ?_
    intro T303 X303 e303
    refine Goes.sJ X303 e303 hx hZ V_cp (i := 7) (own_ixok (by decide)) (Nat.le_of_ble_eq_true rfl) N301 g_cp rfl rfl (hb hby d11_276) ?_
    intro T304 h304 L304 X304 e304 W304 (V_cp : Arv Z h304 cp kcp .long (16 : Int32) [(.long q0), (.long q1), (.long (sF_259_c q0 q1 q2 q3 q4 q5 q7)), (.long (sF_276_d q0 q1 q2 q3 q4 q5 q7)), (.long (sF_259_b q0 q1 q2 q3 q4 q5 q7)), (.long (sF_276_c q0 q1 q2 q3 q4 q5 q7)), (.long (sF_259_b q0 q1 q2 q3 q4 q5 q7)), (.long (sF_276_e q0 q1 q2 q3 q4 q5 q7))] (.long (0 : Int64))) N304
    have NB := own_all.wr W304 d_cp NB
    have E_x0 := E_x0.wr W304
    have V_x1 := V_x1.other W304 (Ne.symm ne_cp_x1)
    have E_b3 := E_b3.wr W304
    have V_x2 := V_x2.other W304 ne_x2_cp
    have V_b3 := V_b3.other W304 (Ne.symm ne_cp_b3)
    have E_b231 := E_b231.wr W304
    have V_x3 := V_x3.other W304 ne_x3_cp
    have V_b231 := V_b231.other W304 (Ne.symm ne_cp_b231)
    have K304 := K301.wr W304 (Or.inl (List.mem_of_getElem? (i := 2) rfl))
    refine Goes.hrun X304 e304 CX (own_c2 V_b231 NB) (L := [.p 277 (.iinc 13 1) 3, .p 280 (.goto (-42)) 3, .p 238 (.iload 13) 2, .p 240 (.iload 9) 2, .c 242 .ge 41 true, .p 283 (.lload 7) 2, .p 285 (.lload 11) 2, .p 287 .ladd 1, .p 288 (.lstore 7) 2, .p 290 (.iconst 0) 1, .p 291 (.istore 13) 2, .p 293 (.aload_n 0) 1, .f 294 18 7, .p 297 (.aload 6) 2, .p 299 (.iload 13) 2, .I 301 0 0]) (by decide +kernel) rfl (g' := (mkF m 302 #[rv x0, rv x1, rv x2, rv x3, rv b3, iv 4, rv b231, jv (wF_288_a q0 q1 q2 q3 q4 q5 q7), .second, iv 3, iv 3, jv (wF_227_d q0 q1 q2 q3 q4 q5 q7), .second, iv 0] [(.int 4), (.ref cp)])) rfl ⟨by decide, rr, ra (by decide), trivial⟩ ?_
    intro T307 X307 e307
    refine Goes.hrun X307 e307 CX (own_c2 V_cp NB) (L := [.J 302 0 4, .p 303 (.lconst 0) 1, .p 304 .lcmp 1]) (by decide +kernel) rfl (g' := (mkF m 305 #[rv x0, rv x1, rv x2, rv x3, rv b3, iv 4, rv b231, jv (wF_288_a q0 q1 q2 q3 q4 q5 q7), .second, iv 3, iv 3, jv (wF_227_d q0 q1 q2 q3 q4 q5 q7), .second, iv 0] [(.int (lcmpW (sF_259_b q0 q1 q2 q3 q4 q5 q7) (0 : Int64)))])) rfl ⟨ra (by decide), trivial⟩ ?_
    intro T308 X308 e308
    by_cases hc305_306 : (0 : Int64) < (sF_259_b q0 q1 q2 q3 q4 q5 q7)
    · skip
      refine Goes.st (B := T308.setTop (mkF m 308 #[rv x0, rv x1, rv x2, rv x3, rv b3, iv 4, rv b231, jv (wF_288_a q0 q1 q2 q3 q4 q5 q7), .second, iv 3, iv 3, jv (wF_227_d q0 q1 q2 q3 q4 q5 q7), .second, iv 0] [])) (fun t k => ?_) ?_
      · refine XS.ifNo X308.here hx rfl (hb hby d11_305) rfl (tltL hc305_306).2.2.2 ?_
        exact k
      refine Goes.hrun X308 e308 CX (own_c2 V_b231 (own_c2 V_cp NB)) (L := [.p 308 (.iinc 13 1) 3, .p 311 (.goto (-18)) 3, .p 293 (.aload_n 0) 1, .f 294 18 8, .p 297 (.aload 6) 2, .p 299 (.iload 13) 2, .I 301 0 1, .J 302 1 2, .p 303 (.lconst 0) 1, .p 304 .lcmp 1, .b 305 .le 9 true, .p 314 (.iload 13) 2, .p 316 (.istore 9) 2, .p 318 (.iload 13) 2, .b 320 .ne 10 true, .p 330 (.aload_n 0) 1]) (by decide +kernel) rfl (g' := (mkF m 331 #[rv x0, rv x1, rv x2, rv x3, rv b3, iv 4, rv b231, jv (wF_288_a q0 q1 q2 q3 q4 q5 q7), .second, iv 1, iv 3, jv (wF_227_d q0 q1 q2 q3 q4 q5 q7), .second, iv 1] [(.ref x0)])) rfl ⟨rr, ra (by decide), ra (by decide), (fltL (hm hc305_306 : ¬ ((0 : Int64) < (sF_259_c q0 q1 q2 q3 q4 q5 q7)))).2.2.2, by decide, trivial⟩ ?_
      intro T314 X314 e314
      refine Goes.hrun X314 e314 CX (own_c2 V_b231 (own_c2 V_x3 NB)) (L := [.f 331 9 6, .p 334 (.aload 6) 2, .p 336 (.iload 13) 2, .p 338 (.iconst 1) 1, .p 339 .isub 1, .I 340 0 0, .I 341 11 4, .p 342 (.istore 10) 2, .p 344 (.goto (-156)) 3, .p 188 (.iload 10) 2, .p 190 (.aload_n 0) 1, .f 191 35 4, .c 194 .ne 153 true, .p 347 (.aload_n 3) 1, .p 348 (.iload 10) 2, .I 350 1 0]) (by decide +kernel) rfl (g' := (mkF m 351 #[rv x0, rv x1, rv x2, rv x3, rv b3, iv 4, rv b231, jv (wF_288_a q0 q1 q2 q3 q4 q5 q7), .second, iv 1, iv 0, jv (wF_227_d q0 q1 q2 q3 q4 q5 q7), .second, iv 1] [(.int 2)])) rfl ⟨rr, ra (by decide), ra (by decide), rr, by decide, ra (by decide), trivial⟩ ?_
      intro T315 X315 e315
      refine Goes.hrun X315 e315 CX (own_c2 V_x2 NB) (L := [.p 351 (.istore 11) 2, .p 353 (.iload 11) 2, .b 355 .lt 45 false, .p 358 (.aload_n 2) 1, .p 359 (.aload_n 0) 1, .f 360 9 5, .p 363 (.iload 11) 2, .I 365 10 2, .I 366 0 1, .p 367 (.aload_n 2) 1, .p 368 (.iload 10) 2, .I 370 0 0, .p 371 (.iconst 1) 1, .p 372 .iadd 1, .c 373 .ne 15 false, .p 376 (.aload_n 0) 1]) (by decide +kernel) rfl (g' := (mkF m 377 #[rv x0, rv x1, rv x2, rv x3, rv b3, iv 4, rv b231, jv (wF_288_a q0 q1 q2 q3 q4 q5 q7), .second, iv 1, iv 0, iv 2, .unset, iv 1] [(.ref x0)])) rfl ⟨by decide, rr, ra (by decide), ra (by decide), ra (by decide), by decide, trivial⟩ ?_
      intro T316 X316 e316
      refine Goes.run X316 hx hown hci hcl hby (L := [(377, .iload 11, 2), (379, .iload 10, 2), (381, .aload_n 1, 1)]) (by decide +kernel) rfl (g' := (mkF m 382 #[rv x0, rv x1, rv x2, rv x3, rv b3, iv 4, rv b231, jv (wF_288_a q0 q1 q2 q3 q4 q5 q7), .second, iv 1, iv 0, iv 2, .unset, iv 1] [(.ref x1), (.int 0), (.int 2), (.ref x0)])) rfl ?_
      obtain ⟨cq317, q317a, q317b⟩ := E_x0.cell
      obtain ⟨_, _, ⟨T317, L317, k317, n317⟩, -, X317, ⟨Lc317, hQ317, l317, y317, z317⟩, st317⟩ := X316.privateBack hx (y := ym9) hown (mvT hZ w_113) (mvT hZ w_114) (own_selp (y := ym9) (mvT hZ w_4) (mvP hZ w_115) (mvT hZ w_114) (by decide)) (Cond.privateMethod_at (mvP hZ w_115 (args := #[]))) (mvT hZ w_116) (by decide) (backOf (W := 0) (rmE2 l Z a0 hw [] x0 x1 hd nx cp co fa lo khd knx kco kfa kcp klo cA nA cB nB la lb kx1 q0 q1 (sF_259_c q0 q1 q2 q3 q4 q5 q7) (sF_276_d q0 q1 q2 q3 q4 q5 q7) (sF_259_b q0 q1 q2 q3 q4 q5 q7) (sF_276_c q0 q1 q2 q3 q4 q5 q7) (sF_259_b q0 q1 q2 q3 q4 q5 q7) (sF_276_e q0 q1 q2 q3 q4 q5 q7) pP h304 n0 (Nat.le_trans Z0 K304.1) NB V_cp V_x1) hZ w_116 w_5 (by decide) (by decide)) (g := (mkF m 382 #[rv x0, rv x1, rv x2, rv x3, rv b3, iv 4, rv b231, jv (wF_288_a q0 q1 q2 q3 q4 q5 q7), .second, iv 1, iv 0, iv 2, .unset, iv 1] [(.ref x1), (.int 0), (.int 2), (.ref x0)])) rfl (by rw [hml]; rfl) (Steps.refl _) (a := x0) (by rw [e316]; exact q317a) q317b (argsL := [(.int 2), (.int 0), (.ref x1)]) (rest := []) (lenOf pdF_1 rfl) rfl (by show 2 * 0 + _ ≤ _; exact Nat.le_of_eq rfl) (hb hby d11_382) (fun _ _ => ⟨rfl, e316, (by decide : 2 + 0 ≤ _), (by decide : 7 + 0 ≤ _)⟩)
      dsimp only [Pt.U, Pt.locs, Pt.cells, Pt.slots] at X317 l317 y317 z317 st317 hQ317
      subst l317 y317 z317
      obtain ⟨rfl, N317q, e317⟩ := hQ317
      have N317 := Fr.app N304 N317q
      refine Goes.st (fun t k => st317.trans k) ?_
      refine Goes.hrun X317 e317 CX (own_c2 V_x2 NB) (L := [.b 385 .ne 15 false, .p 388 (.aload_n 0) 1, .f 389 15 6, .p 392 (.iload 11) 2, .I 394 11 2, .p 395 (.istore 11) 2, .p 397 (.goto (-44)) 3, .p 353 (.iload 11) 2, .b 355 .lt 45 false, .p 358 (.aload_n 2) 1, .p 359 (.aload_n 0) 1, .f 360 9 5, .p 363 (.iload 11) 2, .I 365 10 0, .I 366 0 1, .p 367 (.aload_n 2) 1]) (by decide +kernel) rfl (g' := (mkF m 368 #[rv x0, rv x1, rv x2, rv x3, rv b3, iv 4, rv b231, jv (wF_288_a q0 q1 q2 q3 q4 q5 q7), .second, iv 1, iv 0, iv 0, .unset, iv 1] [(.ref x2), (.int 2)])) rfl ⟨(if0 _ _).trans (teq (own_f2 (hm hc305_306) : (rE2 cB (sF_259_c q0 q1 q2 q3 q4 q5 q7) pP) = (0 : Int32))).2, rr, ra (by decide), by decide, rr, ra (by decide), ra (by decide), trivial⟩ ?_
      intro T321 X321 e321
      refine Goes.hrun X321 e321 CX (own_c2 V_x2 NB) (L := [.p 368 (.iload 10) 2, .I 370 0 0, .p 371 (.iconst 1) 1, .p 372 .iadd 1, .c 373 .ne 15 false, .p 376 (.aload_n 0) 1, .p 377 (.iload 11) 2, .p 379 (.iload 10) 2, .p 381 (.aload_n 1) 1]) (by decide +kernel) rfl (g' := (mkF m 382 #[rv x0, rv x1, rv x2, rv x3, rv b3, iv 4, rv b231, jv (wF_288_a q0 q1 q2 q3 q4 q5 q7), .second, iv 1, iv 0, iv 0, .unset, iv 1] [(.ref x1), (.int 0), (.int 0), (.ref x0)])) rfl ⟨ra (by decide), by decide, trivial⟩ ?_
      intro T322 X322 e322
      obtain ⟨cq323, q323a, q323b⟩ := E_x0.cell
      obtain ⟨_, _, ⟨T323, L323, k323, n323⟩, -, X323, ⟨Lc323, hQ323, l323, y323, z323⟩, st323⟩ := X322.privateBack hx (y := ym9) hown (mvT hZ w_113) (mvT hZ w_114) (own_selp (y := ym9) (mvT hZ w_4) (mvP hZ w_115) (mvT hZ w_114) (by decide)) (Cond.privateMethod_at (mvP hZ w_115 (args := #[]))) (mvT hZ w_116) (by decide) (backOf (W := 0) (rmE0 l Z a0 hw [] x0 x1 hd nx cp co fa lo khd knx kco kfa kcp klo cA nA cB nB la lb kx1 q0 q1 (sF_259_c q0 q1 q2 q3 q4 q5 q7) (sF_276_d q0 q1 q2 q3 q4 q5 q7) (sF_259_b q0 q1 q2 q3 q4 q5 q7) (sF_276_c q0 q1 q2 q3 q4 q5 q7) (sF_259_b q0 q1 q2 q3 q4 q5 q7) (sF_276_e q0 q1 q2 q3 q4 q5 q7) pP h304 n0 (Nat.le_trans Z0 K304.1) NB V_cp V_x1) hZ w_116 w_5 (by decide) (by decide)) (g := (mkF m 382 #[rv x0, rv x1, rv x2, rv x3, rv b3, iv 4, rv b231, jv (wF_288_a q0 q1 q2 q3 q4 q5 q7), .second, iv 1, iv 0, iv 0, .unset, iv 1] [(.ref x1), (.int 0), (.int 0), (.ref x0)])) rfl (by rw [hml]; rfl) (Steps.refl _) (a := x0) (by rw [e322]; exact q323a) q323b (argsL := [(.int 0), (.int 0), (.ref x1)]) (rest := []) (lenOf pdF_1 rfl) rfl (by show 2 * 0 + _ ≤ _; exact Nat.le_of_eq rfl) (hb hby d11_382) (fun _ _ => ⟨rfl, e322, (by decide : 2 + 0 ≤ _), (by decide : 7 + 0 ≤ _)⟩)
      dsimp only [Pt.U, Pt.locs, Pt.cells, Pt.slots] at X323 l323 y323 z323 st323 hQ323
      subst l323 y323 z323
      obtain ⟨rfl, N323q, e323⟩ := hQ323
      have N323 := Fr.app N317 N323q
      refine Goes.st (fun t k => st323.trans k) ?_
      refine Goes.hrun X323 e323 CX NB (L := [.b 385 .ne 15 false, .p 388 (.aload_n 0) 1, .f 389 15 5, .p 392 (.iload 11) 2, .I 394 10 0, .p 395 (.istore 11) 2, .p 397 (.goto (-44)) 3, .p 353 (.iload 11) 2, .b 355 .lt 45 true, .p 400 (.aload_n 3) 1, .p 401 (.iload 10) 2, .p 403 (.iload 11) 2]) (by decide +kernel) rfl (g' := (mkF m 405 #[rv x0, rv x1, rv x2, rv x3, rv b3, iv 4, rv b231, jv (wF_288_a q0 q1 q2 q3 q4 q5 q7), .second, iv 1, iv 0, iv (-1), .unset, iv 1] [(.int (-1)), (.int 0), (.ref x3)])) rfl ⟨(if0 _ _).trans (teq (own_g2 hN : (rE0 cA q0 pP) = (0 : Int32))).2, rr, ra (by decide), by decide, trivial⟩ ?_
      intro T326 X326 e326
      refine Goes.sI X326 e326 hx hZ V_x3 (i := 0) (own_ixok (by decide)) (Nat.le_of_ble_eq_true rfl) N323 g_x3 rfl rfl (hb hby d11_405) ?_
      intro T327 h327 L327 X327 e327 W327 (V_x3 : Arv Z h327 x3 kx3 .int (4 : Int32) [(.int (-1)), (.int 6), (.int 4), (.int 7)] (.int (0 : Int32))) N327
      have NB := own_all.wr W327 d_x3 NB
      have E_x0 := E_x0.wr W327
      have V_x1 := V_x1.other W327 (Ne.symm ne_x3_x1)
      have E_b3 := E_b3.wr W327
      have V_x2 := V_x2.other W327 ne_x2_x3
      have V_b3 := V_b3.other W327 (Ne.symm ne_x3_b3)
      have E_b231 := E_b231.wr W327
      have V_b231 := V_b231.other W327 (Ne.symm ne_x3_b231)
      have V_cp := V_cp.other W327 (Ne.symm ne_x3_cp)
      have K327 := K304.wr W327 (Or.inl (List.mem_of_getElem? (i := 1) rfl))
      refine Goes.hrun X327 e327 CX NB (L := [.p 406 (.iload 11) 2, .b 408 .lt 25 true, .p 433 (.iload 10) 2, .p 435 (.aload_n 0) 1, .f 436 32 1, .c 439 .ne 6 true, .p 445 (.aload_n 2) 1, .p 446 (.iload 10) 2, .p 448 (.iconst (-1)) 1]) (by decide +kernel) rfl (g' := (mkF m 449 #[rv x0, rv x1, rv x2, rv x3, rv b3, iv 4, rv b231, jv (wF_288_a q0 q1 q2 q3 q4 q5 q7), .second, iv 1, iv 0, iv (-1), .unset, iv 1] [(.int (-1)), (.int 0), (.ref x2)])) rfl ⟨by decide, rr, by decide, trivial⟩ ?_
      intro T330 X330 e330
      refine Goes.sI X330 e330 hx hZ V_x2 (i := 0) (own_ixok (by decide)) (Nat.le_of_ble_eq_true rfl) N327 g_x2 rfl rfl (hb hby d11_449) ?_
      intro T331 h331 L331 X331 e331 W331 (V_x2 : Arv Z h331 x2 kx2 .int (4 : Int32) [(.int (-1)), (.int 2), (.int 0), (.int 3)] (.int (0 : Int32))) N331
      have NB := own_all.wr W331 d_x2 NB
      have E_x0 := E_x0.wr W331
      have V_x1 := V_x1.other W331 (Ne.symm ne_x2_x1)
      have E_b3 := E_b3.wr W331
      have V_b3 := V_b3.other W331 (Ne.symm ne_x2_b3)
      have E_b231 := E_b231.wr W331
      have V_b231 := V_b231.other W331 (Ne.symm ne_x2_b231)
      have V_cp := V_cp.other W331 (Ne.symm ne_x2_cp)
      have V_x3 := V_x3.other W331 (Ne.symm ne_x2_x3)
      have K331 := K327.wr W331 (Or.inl (List.mem_of_getElem? (i := 0) rfl))
      refine Goes.hrun X331 e331 CX (own_c2 V_x3 NB) (L := [.p 450 (.iinc 9 (-1)) 3, .p 453 (.iload 9) 2, .b 455 .ne 10 false, .p 458 (.aload_n 0) 1, .f 459 32 2, .p 462 (.goto 15) 3, .p 477 (.istore 10) 2, .p 479 (.aload_n 3) 1, .p 480 (.iload 10) 2, .p 482 (.aload_n 0) 1, .f 483 15 6, .p 486 (.aload_n 3) 1, .p 487 (.iload 10) 2, .I 489 0 2, .I 490 11 4]) (by decide +kernel) rfl (g' := (mkF m 491 #[rv x0, rv x1, rv x2, rv x3, rv b3, iv 4, rv b231, jv (wF_288_a q0 q1 q2 q3 q4 q5 q7), .second, iv 0, iv 2, iv (-1), .unset, iv 1] [(.int (-1)), (.int 2), (.ref x3)])) rfl ⟨by decide, rr, rr, ra (by decide), ra (by decide), trivial⟩ ?_
      intro T333 X333 e333
      refine Goes.sI X333 e333 hx hZ V_x3 (i := 2) (own_ixok (by decide)) (Nat.le_of_ble_eq_true rfl) N331 g_x3 rfl rfl (hb hby d11_491) ?_
      intro T334 h334 L334 X334 e334 W334 (V_x3 : Arv Z h334 x3 kx3 .int (4 : Int32) [(.int (-1)), (.int 6), (.int (-1)), (.int 7)] (.int (0 : Int32))) N334
      have NB := own_all.wr W334 d_x3 NB
      have E_x0 := E_x0.wr W334
      have V_x1 := V_x1.other W334 (Ne.symm ne_x3_x1)
      have E_b3 := E_b3.wr W334
      have V_b3 := V_b3.other W334 (Ne.symm ne_x3_b3)
      have E_b231 := E_b231.wr W334
      have V_b231 := V_b231.other W334 (Ne.symm ne_x3_b231)
      have V_cp := V_cp.other W334 (Ne.symm ne_x3_cp)
      have V_x2 := V_x2.other W334 ne_x2_x3
      have K334 := K331.wr W334 (Or.inl (List.mem_of_getElem? (i := 1) rfl))
      refine Goes.hrun X334 e334 CX (own_c2 V_x3 NB) (L := [.p 492 (.goto (-304)) 3, .p 188 (.iload 10) 2, .p 190 (.aload_n 0) 1, .f 191 35 3, .c 194 .ne 153 true, .p 347 (.aload_n 3) 1, .p 348 (.iload 10) 2, .I 350 0 2, .p 351 (.istore 11) 2, .p 353 (.iload 11) 2, .b 355 .lt 45 true, .p 400 (.aload_n 3) 1, .p 401 (.iload 10) 2, .p 403 (.iload 11) 2]) (by decide +kernel) rfl (g' := (mkF m 405 #[rv x0, rv x1, rv x2, rv x3, rv b3, iv 4, rv b231, jv (wF_288_a q0 q1 q2 q3 q4 q5 q7), .second, iv 0, iv 2, iv (-1), .unset, iv 1] [(.int (-1)), (.int 2), (.ref x3)])) rfl ⟨rr, by decide, ra (by decide), by decide, trivial⟩ ?_
      intro T337 X337 e337
      refine Goes.sI X337 e337 hx hZ V_x3 (i := 2) (own_ixok (by decide)) (Nat.le_of_ble_eq_true rfl) N334 g_x3 rfl rfl (hb hby d11_405) ?_
      intro T338 h338 L338 X338 e338 W338 (V_x3 : Arv Z h338 x3 kx3 .int (4 : Int32) [(.int (-1)), (.int 6), (.int (-1)), (.int 7)] (.int (0 : Int32))) N338
      have NB := own_all.wr W338 d_x3 NB
      have E_x0 := E_x0.wr W338
      have V_x1 := V_x1.other W338 (Ne.symm ne_x3_x1)
      have E_b3 := E_b3.wr W338
      have V_b3 := V_b3.other W338 (Ne.symm ne_x3_b3)
      have E_b231 := E_b231.wr W338
      have V_b231 := V_b231.other W338 (Ne.symm ne_x3_b231)
      have V_cp := V_cp.other W338 (Ne.symm ne_x3_cp)
      have V_x2 := V_x2.other W338 ne_x2_x3
      have K338 := K334.wr W338 (Or.inl (List.mem_of_getElem? (i := 1) rfl))
      refine Goes.hrun X338 e338 CX NB (L := [.p 406 (.iload 11) 2, .b 408 .lt 25 true, .p 433 (.iload 10) 2, .p 435 (.aload_n 0) 1, .f 436 32 1, .c 439 .ne 6 false, .p 442 (.lload 7) 2]) (by decide +kernel) rfl (g' := (mkF m 444 #[rv x0, rv x1, rv x2, rv x3, rv b3, iv 4, rv b231, jv (wF_288_a q0 q1 q2 q3 q4 q5 q7), .second, iv 0, iv 2, iv (-1), .unset, iv 1] [(.long (wF_288_a q0 q1 q2 q3 q4 q5 q7))])) rfl ⟨by decide, rr, by decide, trivial⟩ ?_
      intro T341 X341 e341
      exact Goes.retJ X341 hx hlk Bd.returns (hb hby d11_444) (by show (QF Z x2 x3 cp kx2 kx3 kcp u0 u1 u2 u3 u4 u5 u7 uw h0 n0) _ _ _; rw [e341]; exact ⟨_, _, _, _, _, _, _, _, congrArg (fun z => some (Value.long z)) hrw, N338, K338, V_x2, V_x3, own_cp8 V_cp hr0 hr1 hr2 hr3 hr4 hr5 hr4 hr7⟩) (by decide) (by decide)
    · skip
      refine Goes.st (B := T308.setTop (mkF m 314 #[rv x0, rv x1, rv x2, rv x3, rv b3, iv 4, rv b231, jv (wF_288_a q0 q1 q2 q3 q4 q5 q7), .second, iv 3, iv 3, jv (wF_227_d q0 q1 q2 q3 q4 q5 q7), .second, iv 0] [])) (fun t k => ?_) ?_
      · refine XS.ifYes X308.here hx rfl (pc0 := 305) (pc' := 314) rfl (hb hby d11_305) rfl (fltL hc305_306).2.2.2 (by decide) (by decide) ?_
        exact k
      refine Goes.hrun X308 e308 CX (own_c2 V_x3 NB) (L := [.p 314 (.iload 13) 2, .p 316 (.istore 9) 2, .p 318 (.iload 13) 2, .b 320 .ne 10 false, .p 323 (.aload_n 0) 1, .f 324 32 2, .p 327 (.goto 15) 3, .p 342 (.istore 10) 2, .p 344 (.goto (-156)) 3, .p 188 (.iload 10) 2, .p 190 (.aload_n 0) 1, .f 191 35 3, .c 194 .ne 153 true, .p 347 (.aload_n 3) 1, .p 348 (.iload 10) 2, .I 350 0 2]) (by decide +kernel) rfl (g' := (mkF m 351 #[rv x0, rv x1, rv x2, rv x3, rv b3, iv 4, rv b231, jv (wF_288_a q0 q1 q2 q3 q4 q5 q7), .second, iv 0, iv 2, jv (wF_227_d q0 q1 q2 q3 q4 q5 q7), .second, iv 0] [(.int 4)])) rfl ⟨by decide, rr, rr, by decide, ra (by decide), trivial⟩ ?_
      intro T346 X346 e346
      refine Goes.hrun X346 e346 CX (own_c2 V_x2 NB) (L := [.p 351 (.istore 11) 2, .p 353 (.iload 11) 2, .b 355 .lt 45 false, .p 358 (.aload_n 2) 1, .p 359 (.aload_n 0) 1, .f 360 9 5, .p 363 (.iload 11) 2, .I 365 10 4, .I 366 0 0, .p 367 (.aload_n 2) 1, .p 368 (.iload 10) 2, .I 370 0 2, .p 371 (.iconst 1) 1, .p 372 .iadd 1, .c 373 .ne 15 false, .p 376 (.aload_n 0) 1]) (by decide +kernel) rfl (g' := (mkF m 377 #[rv x0, rv x1, rv x2, rv x3, rv b3, iv 4, rv b231, jv (wF_288_a q0 q1 q2 q3 q4 q5 q7), .second, iv 0, iv 2, iv 4, .unset, iv 0] [(.ref x0)])) rfl ⟨by decide, rr, ra (by decide), ra (by decide), ra (by decide), by decide, trivial⟩ ?_
      intro T347 X347 e347
      refine Goes.run X347 hx hown hci hcl hby (L := [(377, .iload 11, 2), (379, .iload 10, 2), (381, .aload_n 1, 1)]) (by decide +kernel) rfl (g' := (mkF m 382 #[rv x0, rv x1, rv x2, rv x3, rv b3, iv 4, rv b231, jv (wF_288_a q0 q1 q2 q3 q4 q5 q7), .second, iv 0, iv 2, iv 4, .unset, iv 0] [(.ref x1), (.int 2), (.int 4), (.ref x0)])) rfl ?_
      obtain ⟨cq348, q348a, q348b⟩ := E_x0.cell
      obtain ⟨_, _, ⟨T348, L348, k348, n348⟩, -, X348, ⟨Lc348, hQ348, l348, y348, z348⟩, st348⟩ := X347.privateBack hx (y := ym9) hown (mvT hZ w_113) (mvT hZ w_114) (own_selp (y := ym9) (mvT hZ w_4) (mvP hZ w_115) (mvT hZ w_114) (by decide)) (Cond.privateMethod_at (mvP hZ w_115 (args := #[]))) (mvT hZ w_116) (by decide) (backOf (W := 0) (rmE4 l Z a0 hw [] x0 x1 hd nx cp co fa lo khd knx kco kfa kcp klo cA nA cB nB la lb kx1 q0 q1 (sF_259_c q0 q1 q2 q3 q4 q5 q7) (sF_276_d q0 q1 q2 q3 q4 q5 q7) (sF_259_b q0 q1 q2 q3 q4 q5 q7) (sF_276_c q0 q1 q2 q3 q4 q5 q7) (sF_259_b q0 q1 q2 q3 q4 q5 q7) (sF_276_e q0 q1 q2 q3 q4 q5 q7) pP h304 n0 (Nat.le_trans Z0 K304.1) NB V_cp V_x1) hZ w_116 w_5 (by decide) (by decide)) (g := (mkF m 382 #[rv x0, rv x1, rv x2, rv x3, rv b3, iv 4, rv b231, jv (wF_288_a q0 q1 q2 q3 q4 q5 q7), .second, iv 0, iv 2, iv 4, .unset, iv 0] [(.ref x1), (.int 2), (.int 4), (.ref x0)])) rfl (by rw [hml]; rfl) (Steps.refl _) (a := x0) (by rw [e347]; exact q348a) q348b (argsL := [(.int 4), (.int 2), (.ref x1)]) (rest := []) (lenOf pdF_1 rfl) rfl (by show 2 * 0 + _ ≤ _; exact Nat.le_of_eq rfl) (hb hby d11_382) (fun _ _ => ⟨rfl, e347, (by decide : 2 + 0 ≤ _), (by decide : 7 + 0 ≤ _)⟩)
      dsimp only [Pt.U, Pt.locs, Pt.cells, Pt.slots] at X348 l348 y348 z348 st348 hQ348
      subst l348 y348 z348
      obtain ⟨rfl, N348q, e348⟩ := hQ348
      have N348 := Fr.app N304 N348q
      refine Goes.st (fun t k => st348.trans k) ?_
      refine Goes.hrun X348 e348 CX NB (L := [.b 385 .ne 15 false, .p 388 (.aload_n 0) 1, .f 389 15 5, .p 392 (.iload 11) 2, .I 394 10 4, .p 395 (.istore 11) 2, .p 397 (.goto (-44)) 3, .p 353 (.iload 11) 2, .b 355 .lt 45 true, .p 400 (.aload_n 3) 1, .p 401 (.iload 10) 2, .p 403 (.iload 11) 2]) (by decide +kernel) rfl (g' := (mkF m 405 #[rv x0, rv x1, rv x2, rv x3, rv b3, iv 4, rv b231, jv (wF_288_a q0 q1 q2 q3 q4 q5 q7), .second, iv 0, iv 2, iv (-1), .unset, iv 0] [(.int (-1)), (.int 2), (.ref x3)])) rfl ⟨(if0 _ _).trans (teq (own_f1 hc305_306 : (rE4 (sF_259_b q0 q1 q2 q3 q4 q5 q7)) = (0 : Int32))).2, rr, ra (by decide), by decide, trivial⟩ ?_
      intro T351 X351 e351
      refine Goes.sI X351 e351 hx hZ V_x3 (i := 2) (own_ixok (by decide)) (Nat.le_of_ble_eq_true rfl) N348 g_x3 rfl rfl (hb hby d11_405) ?_
      intro T352 h352 L352 X352 e352 W352 (V_x3 : Arv Z h352 x3 kx3 .int (4 : Int32) [(.int 2), (.int 6), (.int (-1)), (.int 7)] (.int (0 : Int32))) N352
      have NB := own_all.wr W352 d_x3 NB
      have E_x0 := E_x0.wr W352
      have V_x1 := V_x1.other W352 (Ne.symm ne_x3_x1)
      have E_b3 := E_b3.wr W352
      have V_x2 := V_x2.other W352 ne_x2_x3
      have V_b3 := V_b3.other W352 (Ne.symm ne_x3_b3)
      have E_b231 := E_b231.wr W352
      have V_b231 := V_b231.other W352 (Ne.symm ne_x3_b231)
      have V_cp := V_cp.other W352 (Ne.symm ne_x3_cp)
      have K352 := K304.wr W352 (Or.inl (List.mem_of_getElem? (i := 1) rfl))
      refine Goes.hrun X352 e352 CX NB (L := [.p 406 (.iload 11) 2, .b 408 .lt 25 true, .p 433 (.iload 10) 2, .p 435 (.aload_n 0) 1, .f 436 32 1, .c 439 .ne 6 false, .p 442 (.lload 7) 2]) (by decide +kernel) rfl (g' := (mkF m 444 #[rv x0, rv x1, rv x2, rv x3, rv b3, iv 4, rv b231, jv (wF_288_a q0 q1 q2 q3 q4 q5 q7), .second, iv 0, iv 2, iv (-1), .unset, iv 0] [(.long (wF_288_a q0 q1 q2 q3 q4 q5 q7))])) rfl ⟨by decide, rr, by decide, trivial⟩ ?_
      intro T355 X355 e355
      exact Goes.retJ X355 hx hlk Bd.returns (hb hby d11_444) (by show (QF Z x2 x3 cp kx2 kx3 kcp u0 u1 u2 u3 u4 u5 u7 uw h0 n0) _ _ _; rw [e355]; exact ⟨_, _, _, _, _, _, _, _, congrArg (fun z => some (Value.long z)) hrw, N352, K352, V_x2, V_x3, own_cp8 V_cp hr0 hr1 hr2 hr3 hr4 hr5 hr4 hr7⟩) (by decide) (by decide)
theorem d11_100 : decode prog_7_method_9_code 100 = .ok (.ifCond .eq 23, 3) := by decide +kernel
theorem d11_151 : decode prog_7_method_9_code 151 = .ok (.lreturn, 1) := by decide +kernel
theorem pnH : plainName "com/example/kubera/kubera/FlowNetwork" = true := by first | (simp [plainName, overriddenIn]; done) | decide +kernel
theorem pdH_0 : parseMethodDescriptor "([II)V" = some ⟨[(.array .int), .int], none⟩ := by decide +kernel
theorem pdH_1 : parseMethodDescriptor "(II[J)Z" = some ⟨[.int, .int, (.array .long)], some .boolean⟩ := by decide +kernel
theorem efH (m : MethodId) (x0 : Addr) (x1 : Addr) (x2 : Addr) (x3 : Addr) : entryFrame m #[(.ref x0), (.ref x1), (.ref x2), (.ref x3)] 14 = (mkF m 0 #[rv x0, rv x1, rv x2, rv x3, .unset, .unset, .unset, .unset, .unset, .unset, .unset, .unset, .unset, .unset] []) := by first | (simp [entryFrame, mkF, argsToLocals, Value.category]; done) | rfl
def QH (Z : State) (x2 x3 cp : Addr) (kx2 kx3 kcp : ClassId) (h0 : Heap) (n0 : Nat) (v : Option Value) (h : Heap) (L : List Loc) : Prop := ∃ (l0 l1 l2 l3 : Int32), v = some (.long 0) ∧ Fr n0 L ∧ Keep h0 h [x2] ∧ Arv Z h x2 kx2 .int (4 : Int32) [(.int l0), (.int l1), (.int l2), (.int l3)] (.int (0 : Int32))
set_option maxRecDepth 65536 in
set_option maxHeartbeats 40000000 in
theorem rmH (l : Launch) (Z : State) (a0 : Array Value) (hw : ∀ d ∈ tables_1, d.before a0 Z = true) (ws : List Jvm.Cond) (x0 : Addr) (x1 : Addr) (x2 : Addr) (x3 : Addr) (hd : Addr) (nx : Addr) (cp : Addr) (co : Addr) (fa : Addr) (lo : Addr) (khd : ClassId) (knx : ClassId) (kco : ClassId) (kfa : ClassId) (kcp : ClassId) (klo : ClassId) (cA : Int64) (nA : Int64) (cB : Int64) (nB : Int64) (la : Int64) (lb : Int64) (kx1 : ClassId) (kx2 : ClassId) (kx3 : ClassId) (q0 : Int64) (q1 : Int64) (q2 : Int64) (q3 : Int64) (q4 : Int64) (q5 : Int64) (q7 : Int64) (pP : Int64) (ya : Int32) (yb : Int32) (yc : Int32) (yd : Int32) (za : Int32) (zb : Int32) (zc : Int32) (zd : Int32) (h0 : Heap) (n0 : Nat) (Z0 : n0 ≤ h0.size) (NB : own_all Z h0 (NetL x0 hd nx cp co fa lo khd knx kco kfa klo cA nA cB nB la lb)) (E_x0 : Exa Z h0 x0 "com/example/kubera/kubera/FlowNetwork") (V_cp : Arv Z h0 cp kcp .long (16 : Int32) [(.long q0), (.long q1), (.long q2), (.long q3), (.long q4), (.long q5), (.long q4), (.long q7)] (.long (0 : Int64))) (V_x1 : Arv Z h0 x1 kx1 .long (4 : Int32) [(.long 0), (.long pP), (.long 0), (.long pP)] (.long (0 : Int64))) (V_x2 : Arv Z h0 x2 kx2 .int (4 : Int32) [(.int ya), (.int yb), (.int yc), (.int yd)] (.int (0 : Int32))) (V_x3 : Arv Z h0 x3 kx3 .int (4 : Int32) [(.int za), (.int zb), (.int zc), (.int zd)] (.int (0 : Int32))) (g_x2 : n0 ≤ x2) (d_x2 : Dis (NetL x0 hd nx cp co fa lo khd knx kco kfa klo cA nA cB nB la lb) x2) (ne_x2_x1 : x2 ≠ x1) (ne_x2_x3 : x2 ≠ x3) (ne_x2_cp : x2 ≠ cp) (ne_x3_x1 : x3 ≠ x1) (ne_x3_cp : x3 ≠ cp) (ne_cp_x1 : cp ≠ x1) (hz2 : (0 : Int64) < q4 → rE2 cB q2 pP = 0) (hz0 : (0 : Int64) < q4 → rE0 cA q0 pP = 0) :
    MetFree l ym10 (head1 (Jvm.Cond.code ym10 prog_7_method_9_code 14 (some .long) :: ws) ({ frames := 1, cells := 1, slots := 4, locals := 15 } : Room)) (fun a U => a = #[(.ref x0), (.ref x1), (.ref x2), (.ref x3)] ∧ Z.Warmed39 U.vm ∧ U.heap = h0) (fun _ _ _ _ _ => True) (fun _ U o U' => ∃ v L, o = .returned v ∧ (QH Z x2 x3 cp kx2 kx3 kcp h0 n0) v U'.heap L ∧ FrameEnd U o U' L ({ frames := 1, cells := 1, slots := 4, locals := 15 } : Room).cells ({ frames := 1, cells := 1, slots := 4, locals := 15 } : Room).slots) := by
  refine MetFree.of_bodySF (plainFor_of_name pnH) hisR ?_
  intro p e s m args below meth c s₁ Bd hml0 hP hK
  obtain ⟨rfl, hZ, hh⟩ := hP
  have hx := Bd.exec
  have hby := Bd.bytes
  have hml : c.maxLocals = 14 := hml0
  have hlk : meth.locks = false := BodyLoose.notSynchronized Bd
  have hown : s.vm.findClass "com/example/kubera/kubera/FlowNetwork" = some m.cls := findClass_of_methodNamed Bd.named
  have hnm := (name_of_methodNamed Bd.named Bd.method).1
  have w_4 := hw _ (List.mem_of_getElem? (i := 4) rfl)
  have w_5 := hw _ (List.mem_of_getElem? (i := 5) rfl)
  have w_12 := hw _ (List.mem_of_getElem? (i := 12) rfl)
  have w_34 := hw _ (List.mem_of_getElem? (i := 34) rfl)
  have w_35 := hw _ (List.mem_of_getElem? (i := 35) rfl)
  have w_36 := hw _ (List.mem_of_getElem? (i := 36) rfl)
  have w_37 := hw _ (List.mem_of_getElem? (i := 37) rfl)
  have w_73 := hw _ (List.mem_of_getElem? (i := 73) rfl)
  have w_113 := hw _ (List.mem_of_getElem? (i := 113) rfl)
  have w_114 := hw _ (List.mem_of_getElem? (i := 114) rfl)
  have w_115 := hw _ (List.mem_of_getElem? (i := 115) rfl)
  have w_116 := hw _ (List.mem_of_getElem? (i := 116) rfl)
  have w_121 := hw _ (List.mem_of_getElem? (i := 121) rfl)
  have hci : ∀ i v, (i, v) ∈ ([] : List (Nat × Int32)) → (Jvm.Cond.constant "com/example/kubera/kubera/FlowNetwork" i v).before #[(.ref x0), (.ref x1), (.ref x2), (.ref x3)] s = true := own_ci0
  have hcl : ∀ i v, (i, v) ∈ ([(87, 9223372036854775807), (119, 2305843009213693951)] : List (Nat × Int64)) → (Jvm.Cond.constantLong "com/example/kubera/kubera/FlowNetwork" i v).before #[(.ref x0), (.ref x1), (.ref x2), (.ref x3)] s = true := (own_ciS (mvT hZ w_73) (own_ciS (mvT hZ w_121) own_ci0))
  have X0 : Stand p l e ({ frames := 1, cells := 1, slots := 4, locals := 15 } : Room) s m #[(.ref x0), (.ref x1), (.ref x2), (.ref x3)] below meth c s₁ [] 0 0 := Stand.of_body Bd
  have e0 : s₁.heap = h0 := by rw [← hh, Bd.state]; rfl
  have N0 := Fr.nil n0
  show Goes p e below s (QH Z x2 x3 cp kx2 kx3 kcp h0 n0) ({ frames := 1, cells := 1, slots := 4, locals := 15 } : Room).cells ({ frames := 1, cells := 1, slots := 4, locals := 15 } : Room).slots (s₁.setTop (entryFrame m #[(.ref x0), (.ref x1), (.ref x2), (.ref x3)] 14))
  refine Goes.cast (efH m x0 x1 x2 x3) ?_
  have hLK := own_lk2_ok hw
  have CX := Cx.mk hx hZ hown hci hcl hLK hby
  have K0 : Keep h0 h0 [x2] := Keep.refl h0 _
  refine Goes.run X0 hx hown hci hcl hby (L := [(0, .aload_n 2, 1), (1, .iconst (-1), 1)]) (by decide +kernel) rfl (g' := (mkF m 2 #[rv x0, rv x1, rv x2, rv x3, .unset, .unset, .unset, .unset, .unset, .unset, .unset, .unset, .unset, .unset] [(.int (-1)), (.ref x2)])) rfl ?_
  obtain ⟨_, _, ⟨T1, L1, k1, n1⟩, -, X1, ⟨Lc1, hQ1, l1, y1, z1⟩, st1⟩ := Jvm.LawKit.callS X0 hx (y := ym0) hown (mvT hZ w_34) (mvT hZ w_35) (mvT hZ w_36) (mvT hZ w_37) (by decide) (backOf (W := 0) (rm1 l Z a0 hw [] x2 (-1 : Int32) kx2 ya yb yc yd h0 n0 Z0 V_x2 g_x2) hZ w_37 w_36 (by decide) (by decide)) (g := (mkF m 2 #[rv x0, rv x1, rv x2, rv x3, .unset, .unset, .unset, .unset, .unset, .unset, .unset, .unset, .unset, .unset] [(.int (-1)), (.ref x2)])) rfl (by rw [hml]; rfl) (argsL := [(.ref x2), (.int (-1))]) (rest := []) (lenOf pdH_0 rfl) rfl (by show 2 * 0 + _ ≤ _; exact Nat.le_of_eq rfl) (hb hby d11_2) (fun _ _ => ⟨rfl, e0, (by decide : 0 + 0 ≤ _), (by decide : 0 + 0 ≤ _)⟩)
  dsimp only [Pt.U, Pt.locs, Pt.cells, Pt.slots] at X1 l1 y1 z1 st1 hQ1
  subst l1 y1 z1
  obtain ⟨h1, eh1⟩ : ∃ z, z = T1.heap := ⟨_, rfl⟩
  rw [← eh1] at hQ1
  have e1 : T1.heap = h1 := eh1.symm
  obtain ⟨rfl, N1q, Kq1, o1_0⟩ := hQ1
  have N1 := Fr.app N0 N1q
  have NB := own_all.keep Kq1 (own_dS d_x2 own_d0) NB
  have E_x0 := E_x0.keep Kq1
  have V_cp := V_cp.keep Kq1 (ninS (Ne.symm ne_x2_cp) nin0)
  have V_x1 := V_x1.keep Kq1 (ninS (Ne.symm ne_x2_x1) nin0)
  have V_x3 := V_x3.keep Kq1 (ninS (Ne.symm ne_x2_x3) nin0)
  have V_x2 : Arv Z h1 x2 kx2 .int (4 : Int32) [(.int (-1)), (.int (-1)), (.int (-1)), (.int (-1))] (.int (0 : Int32)) := o1_0
  have K1 := K0.trans Kq1 ((allS (Or.inl (List.mem_of_getElem? (i := 0) rfl)) all0))
  refine Goes.st st1 ?_
  refine Goes.hrun X1 e1 CX NB (L := [.p 5 (.aload_n 0) 1, .f 6 28 0]) (by decide +kernel) rfl (g' := (mkF m 9 #[rv x0, rv x1, rv x2, rv x3, .unset, .unset, .unset, .unset, .unset, .unset, .unset, .unset, .unset, .unset] [(.int 4)])) rfl ⟨rr, trivial⟩ ?_
  intro T2 X2 e2
  obtain ⟨T3, h3, k3, X3, e3, E3, A3, B3, st3⟩ := newPE X2 hx hZ (aty := .int) w_12 e2 (g := (mkF m 9 #[rv x0, rv x1, rv x2, rv x3, .unset, .unset, .unset, .unset, .unset, .unset, .unset, .unset, .unset, .unset] [(.int 4)])) rfl (hb hby d11_9) rfl (by decide) (cap := 4) (by decide) (by decide) (by decide) (by decide) (ad := "[I") (by decide)
  obtain ⟨b3, g3⟩ : ∃ z, z = h1.size := ⟨_, rfl⟩
  rw [← g3] at A3 B3 st3
  have d_b3 := own_all.dis NB (Nat.le_of_eq g3.symm)
  have ne_cp_b3 : cp ≠ b3 := Nat.ne_of_lt (Nat.lt_of_lt_of_le V_cp.lt (Nat.le_of_eq g3.symm))
  have ne_x2_b3 : x2 ≠ b3 := Nat.ne_of_lt (Nat.lt_of_lt_of_le V_x2.lt (Nat.le_of_eq g3.symm))
  have ne_x1_b3 : x1 ≠ b3 := Nat.ne_of_lt (Nat.lt_of_lt_of_le V_x1.lt (Nat.le_of_eq g3.symm))
  have ne_x3_b3 : x3 ≠ b3 := Nat.ne_of_lt (Nat.lt_of_lt_of_le V_x3.lt (Nat.le_of_eq g3.symm))
  have g_b3 : n0 ≤ b3 := Nat.le_trans (Nat.le_trans Z0 K1.1) (Nat.le_of_eq g3.symm)
  have sz_b3 : h0.size ≤ b3 := Nat.le_trans K1.1 (Nat.le_of_eq g3.symm)
  have E_x0 := E_x0.ext E3
  have V_cp := V_cp.ext E3
  have V_x1 := V_x1.ext E3
  have V_x2 := V_x2.ext E3
  have V_x3 := V_x3.ext E3
  have NB := own_all.ext E3 NB
  have K3 := K1.ext E3
  have E_b3 : Exa Z h3 b3 "[I" := B3
  have V_b3 : Arv Z h3 b3 k3 .int (4 : Int32) [(.int 0), (.int 0), (.int 0), (.int 0)] (.int 0) := (Arv.new A3 (by decide)).pad (pad_rep [] (.int 0) 4)
  refine Goes.st st3 ?_
  refine Goes.hrun X3 e3 CX NB (L := [.p 11 (.astore 4) 2, .p 13 (.iconst 0) 1, .p 14 (.istore 5) 2, .p 16 (.aload_n 2) 1, .p 17 (.aload_n 0) 1, .f 18 32 1, .p 21 (.iconst 0) 1]) (by decide +kernel) rfl (g' := (mkF m 22 #[rv x0, rv x1, rv x2, rv x3, rv b3, iv 0, .unset, .unset, .unset, .unset, .unset, .unset, .unset, .unset] [(.int 0), (.int 2), (.ref x2)])) rfl ⟨rr, trivial⟩ ?_
  intro T4 X4 e4
  refine Goes.sI X4 e4 hx hZ V_x2 (i := 2) (own_ixok (by decide)) (Nat.le_of_ble_eq_true rfl) N1 g_x2 rfl rfl (hb hby d11_22) ?_
  intro T5 h5 L5 X5 e5 W5 (V_x2 : Arv Z h5 x2 kx2 .int (4 : Int32) [(.int (-1)), (.int (-1)), (.int 0), (.int (-1))] (.int (0 : Int32))) N5
  have NB := own_all.wr W5 d_x2 NB
  have E_x0 := E_x0.wr W5
  have V_cp := V_cp.other W5 (Ne.symm ne_x2_cp)
  have V_x1 := V_x1.other W5 (Ne.symm ne_x2_x1)
  have V_x3 := V_x3.other W5 (Ne.symm ne_x2_x3)
  have E_b3 := E_b3.wr W5
  have V_b3 := V_b3.other W5 (Ne.symm ne_x2_b3)
  have K5 := K3.wr W5 (Or.inl (List.mem_of_getElem? (i := 0) rfl))
  refine Goes.hrun X5 e5 CX NB (L := [.p 23 (.aload 4) 2, .p 25 (.iload 5) 2, .p 27 (.iinc 5 1) 3, .p 30 (.aload_n 0) 1, .f 31 32 1]) (by decide +kernel) rfl (g' := (mkF m 34 #[rv x0, rv x1, rv x2, rv x3, rv b3, iv 1, .unset, .unset, .unset, .unset, .unset, .unset, .unset, .unset] [(.int 2), (.int 0), (.ref b3)])) rfl ⟨rr, trivial⟩ ?_
  intro T6 X6 e6
  refine Goes.sI X6 e6 hx hZ V_b3 (i := 0) (own_ixok (by decide)) (Nat.le_of_ble_eq_true rfl) N5 g_b3 rfl rfl (hb hby d11_34) ?_
  intro T7 h7 L7 X7 e7 W7 (V_b3 : Arv Z h7 b3 k3 .int (4 : Int32) [(.int 2), (.int 0), (.int 0), (.int 0)] (.int 0)) N7
  have NB := own_all.wr W7 d_b3 NB
  have E_x0 := E_x0.wr W7
  have V_cp := V_cp.other W7 ne_cp_b3
  have V_x1 := V_x1.other W7 ne_x1_b3
  have V_x3 := V_x3.other W7 ne_x3_b3
  have E_b3 := E_b3.wr W7
  have V_x2 := V_x2.other W7 ne_x2_b3
  have K7 := K5.wr W7 (Or.inr sz_b3)
  refine Goes.hrun X7 e7 CX (own_c2 V_x2 (own_c2 V_b3 NB)) (L := [.p 35 (.iconst 0) 1, .p 36 (.istore 6) 2, .p 38 (.iload 6) 2, .p 40 (.iload 5) 2, .c 42 .ge 99 false, .p 45 (.aload_n 2) 1, .p 46 (.aload_n 0) 1, .f 47 35 4, .I 50 0 3, .b 51 .ge 90 false, .p 54 (.aload 4) 2, .p 56 (.iload 6) 2, .I 58 1 0, .p 59 (.istore 7) 2, .p 61 (.aload_n 0) 1, .f 62 41 5]) (by decide +kernel) rfl (g' := (mkF m 65 #[rv x0, rv x1, rv x2, rv x3, rv b3, iv 1, iv 0, iv 2, .unset, .unset, .unset, .unset, .unset, .unset] [(.ref fa)])) rfl ⟨by decide, rr, ra (by decide), by decide, ra (by decide), rr, trivial⟩ ?_
  intro T12 X12 e12
  refine Goes.hrun X12 e12 CX (own_c2 V_x2 NB) (L := [.p 65 (.iload 7) 2, .I 67 9 2, .p 68 (.istore 8) 2, .p 70 (.iload 8) 2, .b 72 .lt 63 false, .p 75 (.aload_n 0) 1, .f 76 9 5, .p 79 (.iload 8) 2, .I 81 10 4, .p 82 (.istore 9) 2, .p 84 (.aload_n 2) 1, .p 85 (.iload 9) 2, .I 87 0 0, .b 88 .ge 35 false, .p 91 (.aload_n 0) 1, .p 92 (.iload 8) 2]) (by decide +kernel) rfl (g' := (mkF m 94 #[rv x0, rv x1, rv x2, rv x3, rv b3, iv 1, iv 0, iv 2, iv 4, iv 0, .unset, .unset, .unset, .unset] [(.int 4), (.ref x0)])) rfl ⟨ra (by decide), by decide, rr, ra (by decide), ra (by decide), by decide, trivial⟩ ?_
  intro T13 X13 e13
  refine Goes.run X13 hx hown hci hcl hby (L := [(94, .iload 7, 2), (96, .aload_n 1, 1)]) (by decide +kernel) rfl (g' := (mkF m 97 #[rv x0, rv x1, rv x2, rv x3, rv b3, iv 1, iv 0, iv 2, iv 4, iv 0, .unset, .unset, .unset, .unset] [(.ref x1), (.int 2), (.int 4), (.ref x0)])) rfl ?_
  obtain ⟨cq14, q14a, q14b⟩ := E_x0.cell
  obtain ⟨_, _, ⟨T14, L14, k14, n14⟩, -, X14, ⟨Lc14, hQ14, l14, y14, z14⟩, st14⟩ := X13.privateBack hx (y := ym9) hown (mvT hZ w_113) (mvT hZ w_114) (own_selp (y := ym9) (mvT hZ w_4) (mvP hZ w_115) (mvT hZ w_114) (by decide)) (Cond.privateMethod_at (mvP hZ w_115 (args := #[]))) (mvT hZ w_116) (by decide) (backOf (W := 0) (rmE4 l Z a0 hw [] x0 x1 hd nx cp co fa lo khd knx kco kfa kcp klo cA nA cB nB la lb kx1 q0 q1 q2 q3 q4 q5 q4 q7 pP h7 n0 (Nat.le_trans Z0 K7.1) NB V_cp V_x1) hZ w_116 w_5 (by decide) (by decide)) (g := (mkF m 97 #[rv x0, rv x1, rv x2, rv x3, rv b3, iv 1, iv 0, iv 2, iv 4, iv 0, .unset, .unset, .unset, .unset] [(.ref x1), (.int 2), (.int 4), (.ref x0)])) rfl (by rw [hml]; rfl) (Steps.refl _) (a := x0) (by rw [e13]; exact q14a) q14b (argsL := [(.int 4), (.int 2), (.ref x1)]) (rest := []) (lenOf pdH_1 rfl) rfl (by show 2 * 0 + _ ≤ _; exact Nat.le_of_eq rfl) (hb hby d11_97) (fun _ _ => ⟨rfl, e13, (by decide : 1 + 0 ≤ _), (by decide : 4 + 0 ≤ _)⟩)
  dsimp only [Pt.U, Pt.locs, Pt.cells, Pt.slots] at X14 l14 y14 z14 st14 hQ14
  subst l14 y14 z14
  obtain ⟨rfl, N14q, e14⟩ := hQ14
  have N14 := Fr.app N7 N14q
  refine Goes.st (fun t k => st14.trans k) ?_
  by_cases hc100_15 : (rE4 q4) = (0 : Int32)
  · skip
    refine Goes.st (B := T14.setTop (mkF m 123 #[rv x0, rv x1, rv x2, rv x3, rv b3, iv 1, iv 0, iv 2, iv 4, iv 0, .unset, .unset, .unset, .unset] [])) (fun t k => ?_) ?_
    · refine XS.ifYes X14.here hx rfl (pc0 := 100) (pc' := 123) rfl (hb hby d11_100) rfl ((if0 _ _).trans (teq hc100_15).1) (by decide) (by decide) ?_
      exact k
    refine Goes.hrun X14 e14 CX NB (L := [.p 123 (.aload_n 0) 1, .f 124 15 5, .p 127 (.iload 8) 2, .I 129 10 4, .p 130 (.istore 8) 2, .p 132 (.goto (-62)) 3, .p 70 (.iload 8) 2, .b 72 .lt 63 true, .p 135 (.iinc 6 1) 3, .p 138 (.goto (-100)) 3, .p 38 (.iload 6) 2, .p 40 (.iload 5) 2, .c 42 .ge 99 true, .p 141 (.aload_n 2) 1, .p 142 (.aload_n 0) 1, .f 143 35 2]) (by decide +kernel) rfl (g' := (mkF m 146 #[rv x0, rv x1, rv x2, rv x3, rv b3, iv 1, iv 1, iv 2, iv (-1), iv 0, .unset, .unset, .unset, .unset] [(.int 3), (.ref x2)])) rfl ⟨rr, ra (by decide), by decide, by decide, rr, trivial⟩ ?_
    intro T19 X19 e19
    refine Goes.hrun X19 e19 CX (own_c2 V_x2 NB) (L := [.I 146 0 3, .b 147 .ge 5 false, .p 150 (.lconst 0) 1]) (by decide +kernel) rfl (g' := (mkF m 151 #[rv x0, rv x1, rv x2, rv x3, rv b3, iv 1, iv 1, iv 2, iv (-1), iv 0, .unset, .unset, .unset, .unset] [(.long 0)])) rfl ⟨ra (by decide), by decide, trivial⟩ ?_
    intro T20 X20 e20
    exact Goes.retJ X20 hx hlk Bd.returns (hb hby d11_151) (by show (QH Z x2 x3 cp kx2 kx3 kcp h0 n0) _ _ _; rw [e20]; exact ⟨_, _, _, _, rfl, N14, K7, V_x2⟩) (by decide) (by decide)
  · skip
    refine Goes.st (B := T14.setTop (mkF m 103 #[rv x0, rv x1, rv x2, rv x3, rv b3, iv 1, iv 0, iv 2, iv 4, iv 0, .unset, .unset, .unset, .unset] [])) (fun t k => ?_) ?_
    · refine XS.ifNo X14.here hx rfl (hb hby d11_100) rfl ((if0 _ _).trans (feq hc100_15).1) ?_
      exact k
    refine Goes.hrun X14 e14 CX (own_c2 V_x2 NB) (L := [.p 103 (.aload_n 2) 1, .p 104 (.iload 9) 2, .p 106 (.aload_n 2) 1, .p 107 (.iload 7) 2, .I 109 0 2, .p 110 (.iconst 1) 1, .p 111 .iadd 1]) (by decide +kernel) rfl (g' := (mkF m 112 #[rv x0, rv x1, rv x2, rv x3, rv b3, iv 1, iv 0, iv 2, iv 4, iv 0, .unset, .unset, .unset, .unset] [(.int 1), (.int 0), (.ref x2)])) rfl ⟨ra (by decide), trivial⟩ ?_
    intro T21 X21 e21
    refine Goes.sI X21 e21 hx hZ V_x2 (i := 0) (own_ixok (by decide)) (Nat.le_of_ble_eq_true rfl) N14 g_x2 rfl rfl (hb hby d11_112) ?_
    intro T22 h22 L22 X22 e22 W22 (V_x2 : Arv Z h22 x2 kx2 .int (4 : Int32) [(.int 1), (.int (-1)), (.int 0), (.int (-1))] (.int (0 : Int32))) N22
    have NB := own_all.wr W22 d_x2 NB
    have E_x0 := E_x0.wr W22
    have V_cp := V_cp.other W22 (Ne.symm ne_x2_cp)
    have V_x1 := V_x1.other W22 (Ne.symm ne_x2_x1)
    have V_x3 := V_x3.other W22 (Ne.symm ne_x2_x3)
    have E_b3 := E_b3.wr W22
    have V_b3 := V_b3.other W22 (Ne.symm ne_x2_b3)
    have K22 := K7.wr W22 (Or.inl (List.mem_of_getElem? (i := 0) rfl))
    refine Goes.run X22 hx hown hci hcl hby (L := [(113, .aload 4, 2), (115, .iload 5, 2), (117, .iinc 5 1, 3), (120, .iload 9, 2)]) (by decide +kernel) rfl (g' := (mkF m 122 #[rv x0, rv x1, rv x2, rv x3, rv b3, iv 2, iv 0, iv 2, iv 4, iv 0, .unset, .unset, .unset, .unset] [(.int 0), (.int 1), (.ref b3)])) rfl ?_
    refine Goes.sI X22 e22 hx hZ V_b3 (i := 1) (own_ixok (by decide)) (Nat.le_of_ble_eq_true rfl) N22 g_b3 rfl rfl (hb hby d11_122) ?_
    intro T23 h23 L23 X23 e23 W23 (V_b3 : Arv Z h23 b3 k3 .int (4 : Int32) [(.int 2), (.int 0), (.int 0), (.int 0)] (.int 0)) N23
    have NB := own_all.wr W23 d_b3 NB
    have E_x0 := E_x0.wr W23
    have V_cp := V_cp.other W23 ne_cp_b3
    have V_x1 := V_x1.other W23 ne_x1_b3
    have V_x3 := V_x3.other W23 ne_x3_b3
    have E_b3 := E_b3.wr W23
    have V_x2 := V_x2.other W23 ne_x2_b3
    have K23 := K22.wr W23 (Or.inr sz_b3)
    refine Goes.hrun X23 e23 CX NB (L := [.p 123 (.aload_n 0) 1, .f 124 15 5, .p 127 (.iload 8) 2, .I 129 10 4, .p 130 (.istore 8) 2, .p 132 (.goto (-62)) 3, .p 70 (.iload 8) 2, .b 72 .lt 63 true, .p 135 (.iinc 6 1) 3, .p 138 (.goto (-100)) 3, .p 38 (.iload 6) 2, .p 40 (.iload 5) 2, .c 42 .ge 99 false, .p 45 (.aload_n 2) 1, .p 46 (.aload_n 0) 1, .f 47 35 2]) (by decide +kernel) rfl (g' := (mkF m 50 #[rv x0, rv x1, rv x2, rv x3, rv b3, iv 2, iv 1, iv 2, iv (-1), iv 0, .unset, .unset, .unset, .unset] [(.int 3), (.ref x2)])) rfl ⟨rr, ra (by decide), by decide, by decide, rr, trivial⟩ ?_
    intro T31 X31 e31
    refine Goes.hrun X31 e31 CX (own_c2 V_x2 (own_c2 V_b3 NB)) (L := [.I 50 0 3, .b 51 .ge 90 false, .p 54 (.aload 4) 2, .p 56 (.iload 6) 2, .I 58 1 1, .p 59 (.istore 7) 2, .p 61 (.aload_n 0) 1, .f 62 41 5, .p 65 (.iload 7) 2, .I 67 10 0, .p 68 (.istore 8) 2, .p 70 (.iload 8) 2, .b 72 .lt 63 false, .p 75 (.aload_n 0) 1, .f 76 9 6, .p 79 (.iload 8) 2]) (by decide +kernel) rfl (g' := (mkF m 81 #[rv x0, rv x1, rv x2, rv x3, rv b3, iv 2, iv 1, iv 0, iv 5, iv 0, .unset, .unset, .unset, .unset] [(.int 5), (.ref hd)])) rfl ⟨ra (by decide), by decide, ra (by decide), rr, ra (by decide), by decide, rr, trivial⟩ ?_
    intro T32 X32 e32
    refine Goes.hrun X32 e32 CX (own_c2 V_x2 NB) (L := [.I 81 10 5, .p 82 (.istore 9) 2, .p 84 (.aload_n 2) 1, .p 85 (.iload 9) 2, .I 87 0 2, .b 88 .ge 35 true, .p 123 (.aload_n 0) 1, .f 124 15 6, .p 127 (.iload 8) 2, .I 129 11 5, .p 130 (.istore 8) 2, .p 132 (.goto (-62)) 3, .p 70 (.iload 8) 2, .b 72 .lt 63 false, .p 75 (.aload_n 0) 1, .f 76 9 5]) (by decide +kernel) rfl (g' := (mkF m 79 #[rv x0, rv x1, rv x2, rv x3, rv b3, iv 2, iv 1, iv 0, iv 2, iv 2, .unset, .unset, .unset, .unset] [(.ref hd)])) rfl ⟨ra (by decide), ra (by decide), by decide, rr, ra (by decide), by decide, rr, trivial⟩ ?_
    intro T33 X33 e33
    refine Goes.hrun X33 e33 CX (own_c2 V_x2 NB) (L := [.p 79 (.iload 8) 2, .I 81 10 2, .p 82 (.istore 9) 2, .p 84 (.aload_n 2) 1, .p 85 (.iload 9) 2, .I 87 0 1, .b 88 .ge 35 false, .p 91 (.aload_n 0) 1, .p 92 (.iload 8) 2, .p 94 (.iload 7) 2, .p 96 (.aload_n 1) 1]) (by decide +kernel) rfl (g' := (mkF m 97 #[rv x0, rv x1, rv x2, rv x3, rv b3, iv 2, iv 1, iv 0, iv 2, iv 1, .unset, .unset, .unset, .unset] [(.ref x1), (.int 0), (.int 2), (.ref x0)])) rfl ⟨ra (by decide), ra (by decide), by decide, trivial⟩ ?_
    intro T34 X34 e34
    obtain ⟨cq35, q35a, q35b⟩ := E_x0.cell
    obtain ⟨_, _, ⟨T35, L35, k35, n35⟩, -, X35, ⟨Lc35, hQ35, l35, y35, z35⟩, st35⟩ := X34.privateBack hx (y := ym9) hown (mvT hZ w_113) (mvT hZ w_114) (own_selp (y := ym9) (mvT hZ w_4) (mvP hZ w_115) (mvT hZ w_114) (by decide)) (Cond.privateMethod_at (mvP hZ w_115 (args := #[]))) (mvT hZ w_116) (by decide) (backOf (W := 0) (rmE2 l Z a0 hw [] x0 x1 hd nx cp co fa lo khd knx kco kfa kcp klo cA nA cB nB la lb kx1 q0 q1 q2 q3 q4 q5 q4 q7 pP h23 n0 (Nat.le_trans Z0 K23.1) NB V_cp V_x1) hZ w_116 w_5 (by decide) (by decide)) (g := (mkF m 97 #[rv x0, rv x1, rv x2, rv x3, rv b3, iv 2, iv 1, iv 0, iv 2, iv 1, .unset, .unset, .unset, .unset] [(.ref x1), (.int 0), (.int 2), (.ref x0)])) rfl (by rw [hml]; rfl) (Steps.refl _) (a := x0) (by rw [e34]; exact q35a) q35b (argsL := [(.int 2), (.int 0), (.ref x1)]) (rest := []) (lenOf pdH_1 rfl) rfl (by show 2 * 0 + _ ≤ _; exact Nat.le_of_eq rfl) (hb hby d11_97) (fun _ _ => ⟨rfl, e34, (by decide : 1 + 0 ≤ _), (by decide : 4 + 0 ≤ _)⟩)
    dsimp only [Pt.U, Pt.locs, Pt.cells, Pt.slots] at X35 l35 y35 z35 st35 hQ35
    subst l35 y35 z35
    obtain ⟨rfl, N35q, e35⟩ := hQ35
    have N35 := Fr.app N23 N35q
    refine Goes.st (fun t k => st35.trans k) ?_
    refine Goes.hrun X35 e35 CX NB (L := [.b 100 .eq 23 true, .p 123 (.aload_n 0) 1, .f 124 15 5, .p 127 (.iload 8) 2, .I 129 10 2, .p 130 (.istore 8) 2, .p 132 (.goto (-62)) 3, .p 70 (.iload 8) 2, .b 72 .lt 63 false, .p 75 (.aload_n 0) 1, .f 76 9 4, .p 79 (.iload 8) 2, .I 81 9 0, .p 82 (.istore 9) 2, .p 84 (.aload_n 2) 1, .p 85 (.iload 9) 2]) (by decide +kernel) rfl (g' := (mkF m 87 #[rv x0, rv x1, rv x2, rv x3, rv b3, iv 2, iv 1, iv 0, iv 0, iv 1, .unset, .unset, .unset, .unset] [(.int 1), (.ref x2)])) rfl ⟨(if0 _ _).trans (teq (hz2 (own_pos hc100_15) : (rE2 cB q2 pP) = (0 : Int32))).1, rr, ra (by decide), by decide, rr, ra (by decide), trivial⟩ ?_
    intro T39 X39 e39
    refine Goes.hrun X39 e39 CX (own_c2 V_x2 NB) (L := [.I 87 0 1, .b 88 .ge 35 false, .p 91 (.aload_n 0) 1, .p 92 (.iload 8) 2, .p 94 (.iload 7) 2, .p 96 (.aload_n 1) 1]) (by decide +kernel) rfl (g' := (mkF m 97 #[rv x0, rv x1, rv x2, rv x3, rv b3, iv 2, iv 1, iv 0, iv 0, iv 1, .unset, .unset, .unset, .unset] [(.ref x1), (.int 0), (.int 0), (.ref x0)])) rfl ⟨ra (by decide), by decide, trivial⟩ ?_
    intro T40 X40 e40
    obtain ⟨cq41, q41a, q41b⟩ := E_x0.cell
    obtain ⟨_, _, ⟨T41, L41, k41, n41⟩, -, X41, ⟨Lc41, hQ41, l41, y41, z41⟩, st41⟩ := X40.privateBack hx (y := ym9) hown (mvT hZ w_113) (mvT hZ w_114) (own_selp (y := ym9) (mvT hZ w_4) (mvP hZ w_115) (mvT hZ w_114) (by decide)) (Cond.privateMethod_at (mvP hZ w_115 (args := #[]))) (mvT hZ w_116) (by decide) (backOf (W := 0) (rmE0 l Z a0 hw [] x0 x1 hd nx cp co fa lo khd knx kco kfa kcp klo cA nA cB nB la lb kx1 q0 q1 q2 q3 q4 q5 q4 q7 pP h23 n0 (Nat.le_trans Z0 K23.1) NB V_cp V_x1) hZ w_116 w_5 (by decide) (by decide)) (g := (mkF m 97 #[rv x0, rv x1, rv x2, rv x3, rv b3, iv 2, iv 1, iv 0, iv 0, iv 1, .unset, .unset, .unset, .unset] [(.ref x1), (.int 0), (.int 0), (.ref x0)])) rfl (by rw [hml]; rfl) (Steps.refl _) (a := x0) (by rw [e40]; exact q41a) q41b (argsL := [(.int 0), (.int 0), (.ref x1)]) (rest := []) (lenOf pdH_1 rfl) rfl (by show 2 * 0 + _ ≤ _; exact Nat.le_of_eq rfl) (hb hby d11_97) (fun _ _ => ⟨rfl, e40, (by decide : 1 + 0 ≤ _), (by decide : 4 + 0 ≤ _)⟩)
    dsimp only [Pt.U, Pt.locs, Pt.cells, Pt.slots] at X41 l41 y41 z41 st41 hQ41
    subst l41 y41 z41
    obtain ⟨rfl, N41q, e41⟩ := hQ41
    have N41 := Fr.app N35 N41q
    refine Goes.st (fun t k => st41.trans k) ?_
    refine Goes.hrun X41 e41 CX NB (L := [.b 100 .eq 23 true, .p 123 (.aload_n 0) 1, .f 124 15 5, .p 127 (.iload 8) 2, .I 129 10 0, .p 130 (.istore 8) 2, .p 132 (.goto (-62)) 3, .p 70 (.iload 8) 2, .b 72 .lt 63 true, .p 135 (.iinc 6 1) 3, .p 138 (.goto (-100)) 3, .p 38 (.iload 6) 2, .p 40 (.iload 5) 2, .c 42 .ge 99 true, .p 141 (.aload_n 2) 1, .p 142 (.aload_n 0) 1]) (by decide +kernel) rfl (g' := (mkF m 143 #[rv x0, rv x1, rv x2, rv x3, rv b3, iv 2, iv 2, iv 0, iv (-1), iv 1, .unset, .unset, .unset, .unset] [(.ref x0), (.ref x2)])) rfl ⟨(if0 _ _).trans (teq (hz0 (own_pos hc100_15) : (rE0 cA q0 pP) = (0 : Int32))).1, rr, ra (by decide), by decide, by decide, trivial⟩ ?_
    intro T46 X46 e46
    refine Goes.hrun X46 e46 CX (own_c2 V_x2 NB) (L := [.f 143 35 3, .I 146 0 3, .b 147 .ge 5 false, .p 150 (.lconst 0) 1]) (by decide +kernel) rfl (g' := (mkF m 151 #[rv x0, rv x1, rv x2, rv x3, rv b3, iv 2, iv 2, iv 0, iv (-1), iv 1, .unset, .unset, .unset, .unset] [(.long 0)])) rfl ⟨rr, ra (by decide), by decide, trivial⟩ ?_
    intro T47 X47 e47
    exact Goes.retJ X47 hx hlk Bd.returns (hb hby d11_151) (by show (QH Z x2 x3 cp kx2 kx3 kcp h0 n0) _ _ _; rw [e47]; exact ⟨_, _, _, _, rfl, N41, K23, V_x2⟩) (by decide) (by decide)
theorem d12_1 : decode prog_7_method_4_code 1 = .ok (.getfield 9, 3) := by decide +kernel
theorem d12_6 : decode prog_7_method_4_code 6 = .ok (.iastore, 1) := by decide +kernel
theorem d12_8 : decode prog_7_method_4_code 8 = .ok (.getfield 18, 3) := by decide +kernel
theorem d12_14 : decode prog_7_method_4_code 14 = .ok (.lastore, 1) := by decide +kernel
theorem d12_16 : decode prog_7_method_4_code 16 = .ok (.getfield 22, 3) := by decide +kernel
theorem d12_22 : decode prog_7_method_4_code 22 = .ok (.lastore, 1) := by decide +kernel
theorem d12_24 : decode prog_7_method_4_code 24 = .ok (.getfield 15, 3) := by decide +kernel
theorem d12_29 : decode prog_7_method_4_code 29 = .ok (.getfield 41, 3) := by decide +kernel
theorem d12_33 : decode prog_7_method_4_code 33 = .ok (.iaload, 1) := by decide +kernel
theorem d12_34 : decode prog_7_method_4_code 34 = .ok (.iastore, 1) := by decide +kernel
theorem d12_36 : decode prog_7_method_4_code 36 = .ok (.getfield 41, 3) := by decide +kernel
theorem d12_41 : decode prog_7_method_4_code 41 = .ok (.iastore, 1) := by decide +kernel
theorem d12_42 : decode prog_7_method_4_code 42 = .ok (.return_, 1) := by decide +kernel
theorem pnI : plainName "com/example/kubera/kubera/FlowNetwork" = true := by first | (simp [plainName, overriddenIn]; done) | decide +kernel
theorem efI (m : MethodId) (x0 : Addr) (x1 : Int32) (x2 : Int32) (x3 : Int32) (x4 : Int64) (x5 : Int64) : entryFrame m #[(.ref x0), (.int x1), (.int x2), (.int x3), (.long x4), (.long x5)] 8 = (mkF m 0 #[rv x0, iv x1, iv x2, iv x3, jv x4, .second, jv x5, .second] []) := by first | (simp [entryFrame, mkF, argsToLocals, Value.category]; done) | rfl
def QI (Z : State) (x0 : Addr) (x1 : Int32) (x2 : Int32) (x3 : Int32) (x4 : Int64) (x5 : Int64) (hd : Addr) (cp : Addr) (co : Addr) (nx : Addr) (fa : Addr) (khd : ClassId) (kcp : ClassId) (kco : ClassId) (knx : ClassId) (kfa : ClassId) (vH : List Value) (vN : List Value) (vC : List Value) (vK : List Value) (vF : List Value) (iE : Nat) (iF : Nat) (fv : Int32) (h0 : Heap) (n0 : Nat) (v : Option Value) (h : Heap) (L : List Loc) : Prop := v = none ∧ Fr n0 L ∧ Keep h0 h [hd, cp, co, nx, fa] ∧ Arv Z h hd khd .int (16 : Int32) (vH.set iE (.int x3)) (.int (0 : Int32)) ∧ Arv Z h cp kcp .long (16 : Int32) (vC.set iE (.long x4)) (.long (0 : Int64)) ∧ Arv Z h co kco .long (16 : Int32) (vK.set iE (.long x5)) (.long (0 : Int64)) ∧ Arv Z h nx knx .int (16 : Int32) (vN.set iE (.int fv)) (.int (0 : Int32)) ∧ Arv Z h fa kfa .int (4 : Int32) (vF.set iF (.int x1)) (.int (0 : Int32))
set_option maxRecDepth 65536 in
set_option maxHeartbeats 40000000 in
theorem rmI (l : Launch) (Z : State) (a0 : Array Value) (hw : ∀ d ∈ tables_1, d.before a0 Z = true) (ws : List Jvm.Cond) (x0 : Addr) (x1 : Int32) (x2 : Int32) (x3 : Int32) (x4 : Int64) (x5 : Int64) (hd : Addr) (cp : Addr) (co : Addr) (nx : Addr) (fa : Addr) (khd : ClassId) (kcp : ClassId) (kco : ClassId) (knx : ClassId) (kfa : ClassId) (vH : List Value) (vN : List Value) (vC : List Value) (vK : List Value) (vF : List Value) (iE : Nat) (iF : Nat) (fv : Int32) (h0 : Heap) (n0 : Nat) (Z0 : n0 ≤ h0.size) (F_heads_x0 : Fld Z h0 x0 "com/example/kubera/kubera/FlowNetwork" "heads" "[I" (.ref hd)) (F_capacities_x0 : Fld Z h0 x0 "com/example/kubera/kubera/FlowNetwork" "capacities" "[J" (.ref cp)) (F_costs_x0 : Fld Z h0 x0 "com/example/kubera/kubera/FlowNetwork" "costs" "[J" (.ref co)) (F_nextArcs_x0 : Fld Z h0 x0 "com/example/kubera/kubera/FlowNetwork" "nextArcs" "[I" (.ref nx)) (F_firstArcs_x0 : Fld Z h0 x0 "com/example/kubera/kubera/FlowNetwork" "firstArcs" "[I" (.ref fa)) (V_hd : Arv Z h0 hd khd .int (16 : Int32) vH (.int (0 : Int32))) (V_cp : Arv Z h0 cp kcp .long (16 : Int32) vC (.long (0 : Int64))) (V_co : Arv Z h0 co kco .long (16 : Int32) vK (.long (0 : Int64))) (V_nx : Arv Z h0 nx knx .int (16 : Int32) vN (.int (0 : Int32))) (V_fa : Arv Z h0 fa kfa .int (4 : Int32) vF (.int (0 : Int32))) (g_hd : n0 ≤ hd) (g_cp : n0 ≤ cp) (g_co : n0 ≤ co) (g_nx : n0 ≤ nx) (g_fa : n0 ≤ fa) (ne_hd_cp : hd ≠ cp) (ne_hd_co : hd ≠ co) (ne_hd_nx : hd ≠ nx) (ne_hd_fa : hd ≠ fa) (ne_hd_x0 : hd ≠ x0) (ne_cp_co : cp ≠ co) (ne_cp_nx : cp ≠ nx) (ne_cp_fa : cp ≠ fa) (ne_cp_x0 : cp ≠ x0) (ne_co_nx : co ≠ nx) (ne_co_fa : co ≠ fa) (ne_co_x0 : co ≠ x0) (ne_nx_fa : nx ≠ fa) (ne_nx_x0 : nx ≠ x0) (ne_fa_x0 : fa ≠ x0) (hE : x1.toNatClampNeg = iE) (hE1 : ¬ x1 < 0) (hE2 : x1 < (16 : Int32)) (hF : x2.toNatClampNeg = iF) (hF1 : ¬ x2 < 0) (hF2 : x2 < (4 : Int32)) (hlH : iE < vH.length) (hlC : iE < vC.length) (hlK : iE < vK.length) (hlN : iE < vN.length) (hlF : iF < vF.length) (hfv : vF.getD iF (.int (0 : Int32)) = .int fv) :
    MetFree l ym11 (head1 (Jvm.Cond.code ym11 prog_7_method_4_code 8 none :: ws) ({ frames := 0, cells := 0, slots := 0, locals := 0 } : Room)) (fun a U => a = #[(.ref x0), (.int x1), (.int x2), (.int x3), (.long x4), (.long x5)] ∧ Z.Warmed39 U.vm ∧ U.heap = h0) (fun _ _ _ _ _ => True) (fun _ U o U' => ∃ v L, o = .returned v ∧ (QI Z x0 x1 x2 x3 x4 x5 hd cp co nx fa khd kcp kco knx kfa vH vN vC vK vF iE iF fv h0 n0) v U'.heap L ∧ FrameEnd U o U' L ({ frames := 0, cells := 0, slots := 0, locals := 0 } : Room).cells ({ frames := 0, cells := 0, slots := 0, locals := 0 } : Room).slots) := by
  refine MetFree.of_bodySF (plainFor_of_name pnI) hisR ?_
  intro p e s m args below meth c s₁ Bd hml0 hP hK
  obtain ⟨rfl, hZ, hh⟩ := hP
  have hx := Bd.exec
  have hby := Bd.bytes
  have hml : c.maxLocals = 8 := hml0
  have hlk : meth.locks = false := BodyLoose.notSynchronized Bd
  have hown : s.vm.findClass "com/example/kubera/kubera/FlowNetwork" = some m.cls := findClass_of_methodNamed Bd.named
  have hnm := (name_of_methodNamed Bd.named Bd.method).1
  have w_13 := hw _ (List.mem_of_getElem? (i := 13) rfl)
  have w_15 := hw _ (List.mem_of_getElem? (i := 15) rfl)
  have w_18 := hw _ (List.mem_of_getElem? (i := 18) rfl)
  have w_20 := hw _ (List.mem_of_getElem? (i := 20) rfl)
  have w_32 := hw _ (List.mem_of_getElem? (i := 32) rfl)
  have w_73 := hw _ (List.mem_of_getElem? (i := 73) rfl)
  have w_121 := hw _ (List.mem_of_getElem? (i := 121) rfl)
  have hci : ∀ i v, (i, v) ∈ ([] : List (Nat × Int32)) → (Jvm.Cond.constant "com/example/kubera/kubera/FlowNetwork" i v).before #[(.ref x0), (.int x1), (.int x2), (.int x3), (.long x4), (.long x5)] s = true := own_ci0
  have hcl : ∀ i v, (i, v) ∈ ([(87, 9223372036854775807), (119, 2305843009213693951)] : List (Nat × Int64)) → (Jvm.Cond.constantLong "com/example/kubera/kubera/FlowNetwork" i v).before #[(.ref x0), (.int x1), (.int x2), (.int x3), (.long x4), (.long x5)] s = true := (own_ciS (mvT hZ w_73) (own_ciS (mvT hZ w_121) own_ci0))
  have X0 : Stand p l e ({ frames := 0, cells := 0, slots := 0, locals := 0 } : Room) s m #[(.ref x0), (.int x1), (.int x2), (.int x3), (.long x4), (.long x5)] below meth c s₁ [] 0 0 := Stand.of_body Bd
  have e0 : s₁.heap = h0 := by rw [← hh, Bd.state]; rfl
  have N0 := Fr.nil n0
  show Goes p e below s (QI Z x0 x1 x2 x3 x4 x5 hd cp co nx fa khd kcp kco knx kfa vH vN vC vK vF iE iF fv h0 n0) ({ frames := 0, cells := 0, slots := 0, locals := 0 } : Room).cells ({ frames := 0, cells := 0, slots := 0, locals := 0 } : Room).slots (s₁.setTop (entryFrame m #[(.ref x0), (.int x1), (.int x2), (.int x3), (.long x4), (.long x5)] 8))
  refine Goes.cast (efI m x0 x1 x2 x3 x4 x5) ?_
  have K0 : Keep h0 h0 [hd, cp, co, nx, fa] := Keep.refl h0 _
  refine Goes.run X0 hx hown hci hcl hby (L := [(0, .aload_n 0, 1)]) (by decide +kernel) rfl (g' := (mkF m 1 #[rv x0, iv x1, iv x2, iv x3, jv x4, .second, jv x5, .second] [(.ref x0)])) rfl ?_
  obtain ⟨T1, X1, e1, st1⟩ := getF X0 hx hZ hown (host := "") (Or.inl w_13) Via.refl e0 F_heads_x0 (g := (mkF m 1 #[rv x0, iv x1, iv x2, iv x3, jv x4, .second, jv x5, .second] [(.ref x0)])) rfl rfl (hb hby d12_1)
  refine Goes.st (B := T1.setTop (mkF m 4 #[rv x0, iv x1, iv x2, iv x3, jv x4, .second, jv x5, .second] [(.ref hd)])) st1 ?_
  refine Goes.run X1 hx hown hci hcl hby (L := [(4, .iload_n 1, 1), (5, .iload_n 3, 1)]) (by decide +kernel) rfl (g' := (mkF m 6 #[rv x0, iv x1, iv x2, iv x3, jv x4, .second, jv x5, .second] [(.int x3), (.int x1), (.ref hd)])) rfl ?_
  obtain ⟨cl2, Ar2, q2, S2, M2, Hs2, G2⟩ := id V_hd
  have hin2 : ¬ (x1 < 0 ∨ cl2.slots.size ≤ (x1).toNatClampNeg) := inb_of S2 ⟨hE1, hE2⟩
  obtain ⟨T2, h2, X2, e2, W2, st2⟩ := stI X1 hx hZ e1 Ar2 (j := x1) hin2 (g := (mkF m 6 #[rv x0, iv x1, iv x2, iv x3, jv x4, .second, jv x5, .second] [(.int x3), (.int x1), (.ref hd)])) rfl rfl (hb hby d12_6)
  have F_heads_x0 := F_heads_x0.other W2 (Or.inl (Ne.symm ne_hd_x0))
  have F_capacities_x0 := F_capacities_x0.other W2 (Or.inl (Ne.symm ne_hd_x0))
  have F_costs_x0 := F_costs_x0.other W2 (Or.inl (Ne.symm ne_hd_x0))
  have F_nextArcs_x0 := F_nextArcs_x0.other W2 (Or.inl (Ne.symm ne_hd_x0))
  have F_firstArcs_x0 := F_firstArcs_x0.other W2 (Or.inl (Ne.symm ne_hd_x0))
  have V_cp := V_cp.other W2 (Ne.symm ne_hd_cp)
  have V_co := V_co.other W2 (Ne.symm ne_hd_co)
  have V_nx := V_nx.other W2 (Ne.symm ne_hd_nx)
  have V_fa := V_fa.other W2 (Ne.symm ne_hd_fa)
  have Zn2 : n0 ≤ h2.size := Nat.le_trans Z0 (Keep.of_wr W2).1
  have K2 := K0.wr W2 (Or.inl (List.mem_of_getElem? (i := 0) rfl))
  have N2 := Fr.snoc X2 N0 g_hd
  have V_hd : Arv Z h2 hd khd .int (16 : Int32) (vH.set iE (.int x3)) (.int (0 : Int32)) := Arv.set Ar2 q2 S2 M2 Hs2 G2 rfl W2 iE hE hlH
  refine Goes.st (B := T2.setTop (mkF m 7 #[rv x0, iv x1, iv x2, iv x3, jv x4, .second, jv x5, .second] [])) st2 ?_
  refine Goes.run X2 hx hown hci hcl hby (L := [(7, .aload_n 0, 1)]) (by decide +kernel) rfl (g' := (mkF m 8 #[rv x0, iv x1, iv x2, iv x3, jv x4, .second, jv x5, .second] [(.ref x0)])) rfl ?_
  obtain ⟨T3, X3, e3, st3⟩ := getF X2 hx hZ hown (host := "") (Or.inl w_18) Via.refl e2 F_capacities_x0 (g := (mkF m 8 #[rv x0, iv x1, iv x2, iv x3, jv x4, .second, jv x5, .second] [(.ref x0)])) rfl rfl (hb hby d12_8)
  refine Goes.st (B := T3.setTop (mkF m 11 #[rv x0, iv x1, iv x2, iv x3, jv x4, .second, jv x5, .second] [(.ref cp)])) st3 ?_
  refine Goes.run X3 hx hown hci hcl hby (L := [(11, .iload_n 1, 1), (12, .lload 4, 2)]) (by decide +kernel) rfl (g' := (mkF m 14 #[rv x0, iv x1, iv x2, iv x3, jv x4, .second, jv x5, .second] [(.long x4), (.int x1), (.ref cp)])) rfl ?_
  obtain ⟨cl4, Ar4, q4, S4, M4, Hs4, G4⟩ := id V_cp
  have hin4 : ¬ (x1 < 0 ∨ cl4.slots.size ≤ (x1).toNatClampNeg) := inb_of S4 ⟨hE1, hE2⟩
  obtain ⟨T4, h4, X4, e4, W4, st4⟩ := stJ X3 hx hZ e3 Ar4 (j := x1) hin4 (g := (mkF m 14 #[rv x0, iv x1, iv x2, iv x3, jv x4, .second, jv x5, .second] [(.long x4), (.int x1), (.ref cp)])) rfl rfl (hb hby d12_14)
  have F_heads_x0 := F_heads_x0.other W4 (Or.inl (Ne.symm ne_cp_x0))
  have F_capacities_x0 := F_capacities_x0.other W4 (Or.inl (Ne.symm ne_cp_x0))
  have F_costs_x0 := F_costs_x0.other W4 (Or.inl (Ne.symm ne_cp_x0))
  have F_nextArcs_x0 := F_nextArcs_x0.other W4 (Or.inl (Ne.symm ne_cp_x0))
  have F_firstArcs_x0 := F_firstArcs_x0.other W4 (Or.inl (Ne.symm ne_cp_x0))
  have V_hd := V_hd.other W4 ne_hd_cp
  have V_co := V_co.other W4 (Ne.symm ne_cp_co)
  have V_nx := V_nx.other W4 (Ne.symm ne_cp_nx)
  have V_fa := V_fa.other W4 (Ne.symm ne_cp_fa)
  have Zn4 : n0 ≤ h4.size := Nat.le_trans Zn2 (Keep.of_wr W4).1
  have K4 := K2.wr W4 (Or.inl (List.mem_of_getElem? (i := 1) rfl))
  have N4 := Fr.snoc X4 N2 g_cp
  have V_cp : Arv Z h4 cp kcp .long (16 : Int32) (vC.set iE (.long x4)) (.long (0 : Int64)) := Arv.set Ar4 q4 S4 M4 Hs4 G4 rfl W4 iE hE hlC
  refine Goes.st (B := T4.setTop (mkF m 15 #[rv x0, iv x1, iv x2, iv x3, jv x4, .second, jv x5, .second] [])) st4 ?_
  refine Goes.run X4 hx hown hci hcl hby (L := [(15, .aload_n 0, 1)]) (by decide +kernel) rfl (g' := (mkF m 16 #[rv x0, iv x1, iv x2, iv x3, jv x4, .second, jv x5, .second] [(.ref x0)])) rfl ?_
  obtain ⟨T5, X5, e5, st5⟩ := getF X4 hx hZ hown (host := "") (Or.inl w_20) Via.refl e4 F_costs_x0 (g := (mkF m 16 #[rv x0, iv x1, iv x2, iv x3, jv x4, .second, jv x5, .second] [(.ref x0)])) rfl rfl (hb hby d12_16)
  refine Goes.st (B := T5.setTop (mkF m 19 #[rv x0, iv x1, iv x2, iv x3, jv x4, .second, jv x5, .second] [(.ref co)])) st5 ?_
  refine Goes.run X5 hx hown hci hcl hby (L := [(19, .iload_n 1, 1), (20, .lload 6, 2)]) (by decide +kernel) rfl (g' := (mkF m 22 #[rv x0, iv x1, iv x2, iv x3, jv x4, .second, jv x5, .second] [(.long x5), (.int x1), (.ref co)])) rfl ?_
  obtain ⟨cl6, Ar6, q6, S6, M6, Hs6, G6⟩ := id V_co
  have hin6 : ¬ (x1 < 0 ∨ cl6.slots.size ≤ (x1).toNatClampNeg) := inb_of S6 ⟨hE1, hE2⟩
  obtain ⟨T6, h6, X6, e6, W6, st6⟩ := stJ X5 hx hZ e5 Ar6 (j := x1) hin6 (g := (mkF m 22 #[rv x0, iv x1, iv x2, iv x3, jv x4, .second, jv x5, .second] [(.long x5), (.int x1), (.ref co)])) rfl rfl (hb hby d12_22)
  have F_heads_x0 := F_heads_x0.other W6 (Or.inl (Ne.symm ne_co_x0))
  have F_capacities_x0 := F_capacities_x0.other W6 (Or.inl (Ne.symm ne_co_x0))
  have F_costs_x0 := F_costs_x0.other W6 (Or.inl (Ne.symm ne_co_x0))
  have F_nextArcs_x0 := F_nextArcs_x0.other W6 (Or.inl (Ne.symm ne_co_x0))
  have F_firstArcs_x0 := F_firstArcs_x0.other W6 (Or.inl (Ne.symm ne_co_x0))
  have V_hd := V_hd.other W6 ne_hd_co
  have V_cp := V_cp.other W6 ne_cp_co
  have V_nx := V_nx.other W6 (Ne.symm ne_co_nx)
  have V_fa := V_fa.other W6 (Ne.symm ne_co_fa)
  have Zn6 : n0 ≤ h6.size := Nat.le_trans Zn4 (Keep.of_wr W6).1
  have K6 := K4.wr W6 (Or.inl (List.mem_of_getElem? (i := 2) rfl))
  have N6 := Fr.snoc X6 N4 g_co
  have V_co : Arv Z h6 co kco .long (16 : Int32) (vK.set iE (.long x5)) (.long (0 : Int64)) := Arv.set Ar6 q6 S6 M6 Hs6 G6 rfl W6 iE hE hlK
  refine Goes.st (B := T6.setTop (mkF m 23 #[rv x0, iv x1, iv x2, iv x3, jv x4, .second, jv x5, .second] [])) st6 ?_
  refine Goes.run X6 hx hown hci hcl hby (L := [(23, .aload_n 0, 1)]) (by decide +kernel) rfl (g' := (mkF m 24 #[rv x0, iv x1, iv x2, iv x3, jv x4, .second, jv x5, .second] [(.ref x0)])) rfl ?_
  obtain ⟨T7, X7, e7, st7⟩ := getF X6 hx hZ hown (host := "") (Or.inl w_15) Via.refl e6 F_nextArcs_x0 (g := (mkF m 24 #[rv x0, iv x1, iv x2, iv x3, jv x4, .second, jv x5, .second] [(.ref x0)])) rfl rfl (hb hby d12_24)
  refine Goes.st (B := T7.setTop (mkF m 27 #[rv x0, iv x1, iv x2, iv x3, jv x4, .second, jv x5, .second] [(.ref nx)])) st7 ?_
  refine Goes.run X7 hx hown hci hcl hby (L := [(27, .iload_n 1, 1), (28, .aload_n 0, 1)]) (by decide +kernel) rfl (g' := (mkF m 29 #[rv x0, iv x1, iv x2, iv x3, jv x4, .second, jv x5, .second] [(.ref x0), (.int x1), (.ref nx)])) rfl ?_
  obtain ⟨T8, X8, e8, st8⟩ := getF X7 hx hZ hown (host := "") (Or.inl w_32) Via.refl e7 F_firstArcs_x0 (g := (mkF m 29 #[rv x0, iv x1, iv x2, iv x3, jv x4, .second, jv x5, .second] [(.ref x0), (.int x1), (.ref nx)])) rfl rfl (hb hby d12_29)
  refine Goes.st (B := T8.setTop (mkF m 32 #[rv x0, iv x1, iv x2, iv x3, jv x4, .second, jv x5, .second] [(.ref fa), (.int x1), (.ref nx)])) st8 ?_
  refine Goes.run X8 hx hown hci hcl hby (L := [(32, .iload_n 2, 1)]) (by decide +kernel) rfl (g' := (mkF m 33 #[rv x0, iv x1, iv x2, iv x3, jv x4, .second, jv x5, .second] [(.int x2), (.ref fa), (.int x1), (.ref nx)])) rfl ?_
  obtain ⟨cl9, Ar9, q9, S9, M9, Hs9, G9⟩ := id V_fa
  have hin9 : ¬ (x2 < 0 ∨ cl9.slots.size ≤ (x2).toNatClampNeg) := inb_of S9 ⟨hF1, hF2⟩
  have hat9 : cl9.slots[(x2).toNatClampNeg]? = some (.int fv) := Hs9.at hin9 (by rw [hF]; exact hfv)
  refine Goes.st (B := T8.setTop (mkF m 34 #[rv x0, iv x1, iv x2, iv x3, jv x4, .second, jv x5, .second] [(.int fv), (.int x1), (.ref nx)])) (X8.iaload hx (j := x2) (v := (.int fv)) (by rw [e8]; exact Ar9.1) (State.isArrayOf_alike hZ.alike Ar9.2.1) Ar9.2.2 hin9 hat9 (g := (mkF m 33 #[rv x0, iv x1, iv x2, iv x3, jv x4, .second, jv x5, .second] [(.int x2), (.ref fa), (.int x1), (.ref nx)])) rfl rfl (hb hby d12_33)) ?_
  obtain ⟨cl10, Ar10, q10, S10, M10, Hs10, G10⟩ := id V_nx
  have hin10 : ¬ (x1 < 0 ∨ cl10.slots.size ≤ (x1).toNatClampNeg) := inb_of S10 ⟨hE1, hE2⟩
  obtain ⟨T10, h10, X10, e10, W10, st10⟩ := stI X8 hx hZ e8 Ar10 (j := x1) hin10 (g := (mkF m 34 #[rv x0, iv x1, iv x2, iv x3, jv x4, .second, jv x5, .second] [(.int fv), (.int x1), (.ref nx)])) rfl rfl (hb hby d12_34)
  have F_heads_x0 := F_heads_x0.other W10 (Or.inl (Ne.symm ne_nx_x0))
  have F_capacities_x0 := F_capacities_x0.other W10 (Or.inl (Ne.symm ne_nx_x0))
  have F_costs_x0 := F_costs_x0.other W10 (Or.inl (Ne.symm ne_nx_x0))
  have F_nextArcs_x0 := F_nextArcs_x0.other W10 (Or.inl (Ne.symm ne_nx_x0))
  have F_firstArcs_x0 := F_firstArcs_x0.other W10 (Or.inl (Ne.symm ne_nx_x0))
  have V_hd := V_hd.other W10 ne_hd_nx
  have V_cp := V_cp.other W10 ne_cp_nx
  have V_co := V_co.other W10 ne_co_nx
  have V_fa := V_fa.other W10 (Ne.symm ne_nx_fa)
  have Zn10 : n0 ≤ h10.size := Nat.le_trans Zn6 (Keep.of_wr W10).1
  have K10 := K6.wr W10 (Or.inl (List.mem_of_getElem? (i := 3) rfl))
  have N10 := Fr.snoc X10 N6 g_nx
  have V_nx : Arv Z h10 nx knx .int (16 : Int32) (vN.set iE (.int fv)) (.int (0 : Int32)) := Arv.set Ar10 q10 S10 M10 Hs10 G10 rfl W10 iE hE hlN
  refine Goes.st (B := T10.setTop (mkF m 35 #[rv x0, iv x1, iv x2, iv x3, jv x4, .second, jv x5, .second] [])) st10 ?_
  refine Goes.run X10 hx hown hci hcl hby (L := [(35, .aload_n 0, 1)]) (by decide +kernel) rfl (g' := (mkF m 36 #[rv x0, iv x1, iv x2, iv x3, jv x4, .second, jv x5, .second] [(.ref x0)])) rfl ?_
  obtain ⟨T11, X11, e11, st11⟩ := getF X10 hx hZ hown (host := "") (Or.inl w_32) Via.refl e10 F_firstArcs_x0 (g := (mkF m 36 #[rv x0, iv x1, iv x2, iv x3, jv x4, .second, jv x5, .second] [(.ref x0)])) rfl rfl (hb hby d12_36)
  refine Goes.st (B := T11.setTop (mkF m 39 #[rv x0, iv x1, iv x2, iv x3, jv x4, .second, jv x5, .second] [(.ref fa)])) st11 ?_
  refine Goes.run X11 hx hown hci hcl hby (L := [(39, .iload_n 2, 1), (40, .iload_n 1, 1)]) (by decide +kernel) rfl (g' := (mkF m 41 #[rv x0, iv x1, iv x2, iv x3, jv x4, .second, jv x5, .second] [(.int x1), (.int x2), (.ref fa)])) rfl ?_
  obtain ⟨cl12, Ar12, q12, S12, M12, Hs12, G12⟩ := id V_fa
  have hin12 : ¬ (x2 < 0 ∨ cl12.slots.size ≤ (x2).toNatClampNeg) := inb_of S12 ⟨hF1, hF2⟩
  obtain ⟨T12, h12, X12, e12, W12, st12⟩ := stI X11 hx hZ e11 Ar12 (j := x2) hin12 (g := (mkF m 41 #[rv x0, iv x1, iv x2, iv x3, jv x4, .second, jv x5, .second] [(.int x1), (.int x2), (.ref fa)])) rfl rfl (hb hby d12_41)
  have F_heads_x0 := F_heads_x0.other W12 (Or.inl (Ne.symm ne_fa_x0))
  have F_capacities_x0 := F_capacities_x0.other W12 (Or.inl (Ne.symm ne_fa_x0))
  have F_costs_x0 := F_costs_x0.other W12 (Or.inl (Ne.symm ne_fa_x0))
  have F_nextArcs_x0 := F_nextArcs_x0.other W12 (Or.inl (Ne.symm ne_fa_x0))
  have F_firstArcs_x0 := F_firstArcs_x0.other W12 (Or.inl (Ne.symm ne_fa_x0))
  have V_hd := V_hd.other W12 ne_hd_fa
  have V_cp := V_cp.other W12 ne_cp_fa
  have V_co := V_co.other W12 ne_co_fa
  have V_nx := V_nx.other W12 ne_nx_fa
  have Zn12 : n0 ≤ h12.size := Nat.le_trans Zn10 (Keep.of_wr W12).1
  have K12 := K10.wr W12 (Or.inl (List.mem_of_getElem? (i := 4) rfl))
  have N12 := Fr.snoc X12 N10 g_fa
  have V_fa : Arv Z h12 fa kfa .int (4 : Int32) (vF.set iF (.int x1)) (.int (0 : Int32)) := Arv.set Ar12 q12 S12 M12 Hs12 G12 rfl W12 iF hF hlF
  refine Goes.st (B := T12.setTop (mkF m 42 #[rv x0, iv x1, iv x2, iv x3, jv x4, .second, jv x5, .second] [])) st12 ?_
  refine Goes.retV X12 hx hlk Bd.returns (hb hby d12_42) ?_ (by decide) (by decide)
  show (QI Z x0 x1 x2 x3 x4 x5 hd cp co nx fa khd kcp kco knx kfa vH vN vC vK vF iE iF fv h0 n0) _ _ _
  rw [e12]
  exact ⟨rfl, N12, K12, V_hd, V_cp, V_co, V_nx, V_fa⟩
theorem d13_3 : decode prog_7_method_3_code 3 = .ok (.ifCond .lt 17, 3) := by decide +kernel
theorem d13_10 : decode prog_7_method_3_code 10 = .ok (.ifCond .lt 10, 3) := by decide +kernel
theorem d13_17 : decode prog_7_method_3_code 17 = .ok (.ifCond .ge 13, 3) := by decide +kernel
theorem d13_32 : decode prog_7_method_3_code 32 = .ok (.getfield 57, 3) := by decide +kernel
theorem d13_35 : decode prog_7_method_3_code 35 = .ok (.dup_x1, 1) := by decide +kernel
theorem d13_38 : decode prog_7_method_3_code 38 = .ok (.putfield 57, 3) := by decide +kernel
theorem d13_50 : decode prog_7_method_3_code 50 = .ok (.getfield 9, 3) := by decide +kernel
theorem d13_53 : decode prog_7_method_3_code 53 = .ok (.arraylength, 1) := by decide +kernel
theorem d13_54 : decode prog_7_method_3_code 54 = .ok (.if_icmp .lt 93, 3) := by decide +kernel
theorem d13_160 : decode prog_7_method_3_code 160 = .ok (.invokevirtual 67, 3) := by decide +kernel
theorem d13_176 : decode prog_7_method_3_code 176 = .ok (.invokevirtual 67, 3) := by decide +kernel
theorem d13_180 : decode prog_7_method_3_code 180 = .ok (.getfield 25, 3) := by decide +kernel
theorem d13_186 : decode prog_7_method_3_code 186 = .ok (.lastore, 1) := by decide +kernel
theorem d13_188 : decode prog_7_method_3_code 188 = .ok (.getfield 38, 3) := by decide +kernel
theorem d13_192 : decode prog_7_method_3_code 192 = .ok (.dup2, 1) := by decide +kernel
theorem d13_193 : decode prog_7_method_3_code 193 = .ok (.laload, 1) := by decide +kernel
theorem d13_196 : decode prog_7_method_3_code 196 = .ok (.lastore, 1) := by decide +kernel
theorem d13_198 : decode prog_7_method_3_code 198 = .ok (.getfield 38, 3) := by decide +kernel
theorem d13_202 : decode prog_7_method_3_code 202 = .ok (.dup2, 1) := by decide +kernel
theorem d13_203 : decode prog_7_method_3_code 203 = .ok (.laload, 1) := by decide +kernel
theorem d13_206 : decode prog_7_method_3_code 206 = .ok (.lastore, 1) := by decide +kernel
theorem d13_209 : decode prog_7_method_3_code 209 = .ok (.ireturn, 1) := by decide +kernel
theorem pnJ : plainName "com/example/kubera/kubera/FlowNetwork" = true := by first | (simp [plainName, overriddenIn]; done) | decide +kernel
theorem pdJ_0 : parseMethodDescriptor "(IIIJJ)V" = some ⟨[.int, .int, .int, .long, .long], none⟩ := by decide +kernel
theorem efJ (m : MethodId) (x0 : Addr) (x1 : Int32) (x2 : Int32) (x3 : Int64) (x4 : Int64) (x5 : Int64) : entryFrame m #[(.ref x0), (.int x1), (.int x2), (.long x3), (.long x4), (.long x5)] 10 = (mkF m 0 #[rv x0, iv x1, iv x2, jv x3, .second, jv x4, .second, jv x5, .second, .unset] []) := by first | (simp [entryFrame, mkF, argsToLocals, Value.category]; done) | rfl
def cJ_160_1 (x1 : Int32) (x2 : Int32) (x3 : Int64) (x4 : Int64) (x5 : Int64) (qa : Int32) (fv : Int32) (gv : Int32) (pv : Int64) (qv : Int64) : Int64 := (x4 - x3)
def cJ_160_4 (x1 : Int32) (x2 : Int32) (x3 : Int64) (x4 : Int64) (x5 : Int64) (qa : Int32) (fv : Int32) (gv : Int32) (pv : Int64) (qv : Int64) : Int32 := ((2 : Int32) * qa)
def cJ_176_0 (x1 : Int32) (x2 : Int32) (x3 : Int64) (x4 : Int64) (x5 : Int64) (qa : Int32) (fv : Int32) (gv : Int32) (pv : Int64) (qv : Int64) : Int64 := (-x5)
def cJ_176_4 (x1 : Int32) (x2 : Int32) (x3 : Int64) (x4 : Int64) (x5 : Int64) (qa : Int32) (fv : Int32) (gv : Int32) (pv : Int64) (qv : Int64) : Int32 := (((2 : Int32) * qa) + (1 : Int32))
def QJ (Z : State) (x0 : Addr) (x1 : Int32) (x2 : Int32) (x3 : Int64) (x4 : Int64) (x5 : Int64) (hd : Addr) (cp : Addr) (co : Addr) (nx : Addr) (fa : Addr) (khd : ClassId) (kcp : ClassId) (kco : ClassId) (knx : ClassId) (kfa : ClassId) (vH : List Value) (vN : List Value) (vC : List Value) (vK : List Value) (vF : List Value) (vL : List Value) (vS : List Value) (lo : Addr) (su : Addr) (klo : ClassId) (ksu : ClassId) (qa : Int32) (fv : Int32) (gv : Int32) (pv : Int64) (qv : Int64) (i0 : Nat) (i1 : Nat) (ia : Nat) (iF : Nat) (iT : Nat) (h0 : Heap) (n0 : Nat) (v : Option Value) (h : Heap) (L : List Loc) : Prop := v = some (.int qa) ∧ Fr n0 L ∧ Keep h0 h [x0, hd, cp, co, nx, fa, lo, su] ∧ Exa Z h x0 "com/example/kubera/kubera/FlowNetwork" ∧ Fld Z h x0 "com/example/kubera/kubera/FlowNetwork" "arcs" "I" (.int (qa + (1 : Int32))) ∧ Fld Z h x0 "com/example/kubera/kubera/FlowNetwork" "nodes" "I" (.int 4) ∧ Fld Z h x0 "com/example/kubera/kubera/FlowNetwork" "source" "I" (.int 2) ∧ Fld Z h x0 "com/example/kubera/kubera/FlowNetwork" "sink" "I" (.int 3) ∧ Fld Z h x0 "com/example/kubera/kubera/FlowNetwork" "heads" "[I" (.ref hd) ∧ Fld Z h x0 "com/example/kubera/kubera/FlowNetwork" "capacities" "[J" (.ref cp) ∧ Fld Z h x0 "com/example/kubera/kubera/FlowNetwork" "costs" "[J" (.ref co) ∧ Fld Z h x0 "com/example/kubera/kubera/FlowNetwork" "nextArcs" "[I" (.ref nx) ∧ Fld Z h x0 "com/example/kubera/kubera/FlowNetwork" "firstArcs" "[I" (.ref fa) ∧ Fld Z h x0 "com/example/kubera/kubera/FlowNetwork" "lowers" "[J" (.ref lo) ∧ Fld Z h x0 "com/example/kubera/kubera/FlowNetwork" "supplies" "[J" (.ref su) ∧ Arv Z h hd khd .int (16 : Int32) ((vH.set i0 (.int x2)).set i1 (.int x1)) (.int (0 : Int32)) ∧ Arv Z h cp kcp .long (16 : Int32) ((vC.set i0 (.long (cJ_160_1 x1 x2 x3 x4 x5 qa fv gv pv qv))).set i1 (.long (0 : Int64))) (.long (0 : Int64)) ∧ Arv Z h co kco .long (16 : Int32) ((vK.set i0 (.long x5)).set i1 (.long (cJ_176_0 x1 x2 x3 x4 x5 qa fv gv pv qv))) (.long (0 : Int64)) ∧ Arv Z h nx knx .int (16 : Int32) ((vN.set i0 (.int fv)).set i1 (.int gv)) (.int (0 : Int32)) ∧ Arv Z h fa kfa .int (4 : Int32) ((vF.set iF (.int (cJ_160_4 x1 x2 x3 x4 x5 qa fv gv pv qv))).set iT (.int (cJ_176_4 x1 x2 x3 x4 x5 qa fv gv pv qv))) (.int (0 : Int32)) ∧ Arv Z h lo klo .long (8 : Int32) (vL.set ia (.long x3)) (.long (0 : Int64)) ∧ Arv Z h su ksu .long (4 : Int32) ((vS.set iF (.long (pv - x3))).set iT (.long (qv + x3))) (.long (0 : Int64))
set_option maxRecDepth 65536 in
set_option maxHeartbeats 40000000 in
theorem rmJ (l : Launch) (Z : State) (a0 : Array Value) (hw : ∀ d ∈ tables_1, d.before a0 Z = true) (ws : List Jvm.Cond) (x0 : Addr) (x1 : Int32) (x2 : Int32) (x3 : Int64) (x4 : Int64) (x5 : Int64) (hd : Addr) (cp : Addr) (co : Addr) (nx : Addr) (fa : Addr) (khd : ClassId) (kcp : ClassId) (kco : ClassId) (knx : ClassId) (kfa : ClassId) (vH : List Value) (vN : List Value) (vC : List Value) (vK : List Value) (vF : List Value) (vL : List Value) (vS : List Value) (lo : Addr) (su : Addr) (klo : ClassId) (ksu : ClassId) (qa : Int32) (fv : Int32) (gv : Int32) (pv : Int64) (qv : Int64) (i0 : Nat) (i1 : Nat) (ia : Nat) (iF : Nat) (iT : Nat) (h0 : Heap) (n0 : Nat) (Z0 : n0 ≤ h0.size) (E_x0 : Exa Z h0 x0 "com/example/kubera/kubera/FlowNetwork") (F_nodes_x0 : Fld Z h0 x0 "com/example/kubera/kubera/FlowNetwork" "nodes" "I" (.int 4)) (F_source_x0 : Fld Z h0 x0 "com/example/kubera/kubera/FlowNetwork" "source" "I" (.int 2)) (F_sink_x0 : Fld Z h0 x0 "com/example/kubera/kubera/FlowNetwork" "sink" "I" (.int 3)) (F_arcs_x0 : Fld Z h0 x0 "com/example/kubera/kubera/FlowNetwork" "arcs" "I" (.int qa)) (F_heads_x0 : Fld Z h0 x0 "com/example/kubera/kubera/FlowNetwork" "heads" "[I" (.ref hd)) (F_capacities_x0 : Fld Z h0 x0 "com/example/kubera/kubera/FlowNetwork" "capacities" "[J" (.ref cp)) (F_costs_x0 : Fld Z h0 x0 "com/example/kubera/kubera/FlowNetwork" "costs" "[J" (.ref co)) (F_nextArcs_x0 : Fld Z h0 x0 "com/example/kubera/kubera/FlowNetwork" "nextArcs" "[I" (.ref nx)) (F_firstArcs_x0 : Fld Z h0 x0 "com/example/kubera/kubera/FlowNetwork" "firstArcs" "[I" (.ref fa)) (V_hd : Arv Z h0 hd khd .int (16 : Int32) vH (.int (0 : Int32))) (V_cp : Arv Z h0 cp kcp .long (16 : Int32) vC (.long (0 : Int64))) (V_co : Arv Z h0 co kco .long (16 : Int32) vK (.long (0 : Int64))) (V_nx : Arv Z h0 nx knx .int (16 : Int32) vN (.int (0 : Int32))) (V_fa : Arv Z h0 fa kfa .int (4 : Int32) vF (.int (0 : Int32))) (F_lowers_x0 : Fld Z h0 x0 "com/example/kubera/kubera/FlowNetwork" "lowers" "[J" (.ref lo)) (F_supplies_x0 : Fld Z h0 x0 "com/example/kubera/kubera/FlowNetwork" "supplies" "[J" (.ref su)) (V_lo : Arv Z h0 lo klo .long (8 : Int32) vL (.long (0 : Int64))) (V_su : Arv Z h0 su ksu .long (4 : Int32) vS (.long (0 : Int64))) (g_x0 : n0 ≤ x0) (g_hd : n0 ≤ hd) (g_cp : n0 ≤ cp) (g_co : n0 ≤ co) (g_nx : n0 ≤ nx) (g_fa : n0 ≤ fa) (g_lo : n0 ≤ lo) (g_su : n0 ≤ su) (ne_x0_hd : x0 ≠ hd) (ne_x0_cp : x0 ≠ cp) (ne_x0_co : x0 ≠ co) (ne_x0_nx : x0 ≠ nx) (ne_x0_fa : x0 ≠ fa) (ne_x0_lo : x0 ≠ lo) (ne_x0_su : x0 ≠ su) (ne_hd_cp : hd ≠ cp) (ne_hd_co : hd ≠ co) (ne_hd_nx : hd ≠ nx) (ne_hd_fa : hd ≠ fa) (ne_hd_lo : hd ≠ lo) (ne_hd_su : hd ≠ su) (ne_cp_co : cp ≠ co) (ne_cp_nx : cp ≠ nx) (ne_cp_fa : cp ≠ fa) (ne_cp_lo : cp ≠ lo) (ne_cp_su : cp ≠ su) (ne_co_nx : co ≠ nx) (ne_co_fa : co ≠ fa) (ne_co_lo : co ≠ lo) (ne_co_su : co ≠ su) (ne_nx_fa : nx ≠ fa) (ne_nx_lo : nx ≠ lo) (ne_nx_su : nx ≠ su) (ne_fa_lo : fa ≠ lo) (ne_fa_su : fa ≠ su) (ne_lo_su : lo ≠ su) (hE : ((2 : Int32) * qa).toNatClampNeg = i0) (hE1 : ¬ ((2 : Int32) * qa) < 0) (hE2 : ((2 : Int32) * qa) < (16 : Int32)) (hG : (((2 : Int32) * qa) + (1 : Int32)).toNatClampNeg = i1) (hG1 : ¬ (((2 : Int32) * qa) + (1 : Int32)) < 0) (hG2 : (((2 : Int32) * qa) + (1 : Int32)) < (16 : Int32)) (hL : qa.toNatClampNeg = ia) (hL1 : ¬ qa < 0) (hL2 : qa < (8 : Int32)) (hF : x1.toNatClampNeg = iF) (hF1 : ¬ x1 < 0) (hF2 : x1 < (4 : Int32)) (hT : x2.toNatClampNeg = iT) (hT1 : ¬ x2 < 0) (hT2 : x2 < (4 : Int32)) (hi0 : i0 < 8) (hi1 : i1 < 8) (hlH : vH.length = 8) (hlC : vC.length = 8) (hlK : vK.length = 8) (hlN : vN.length = 8) (hlL : ia < vL.length) (hlF : iF < vF.length) (hmF : iT < vF.length) (hlS : iF < vS.length) (hmS : iT < vS.length) (hfv : vF.getD iF (.int (0 : Int32)) = .int fv) (hgv : (vF.set iF (.int ((2 : Int32) * qa))).getD iT (.int (0 : Int32)) = .int gv) (hpv : vS.getD iF (.long (0 : Int64)) = .long pv) (hqv : (vS.set iF (.long (pv - x3))).getD iT (.long (0 : Int64)) = .long qv) (a1 : ¬ (x3 < (0 : Int64))) (a2 : ¬ (x4 < x3)) (a3 : ¬ (x5 < (0 : Int64))) :
    MetFree l ym12 (head1 (Jvm.Cond.code ym12 prog_7_method_3_code 10 (some .int) :: ws) ({ frames := 1, cells := 0, slots := 0, locals := 19 } : Room)) (fun a U => a = #[(.ref x0), (.int x1), (.int x2), (.long x3), (.long x4), (.long x5)] ∧ Z.Warmed39 U.vm ∧ U.heap = h0) (fun _ _ _ _ _ => True) (fun _ U o U' => ∃ v L, o = .returned v ∧ (QJ Z x0 x1 x2 x3 x4 x5 hd cp co nx fa khd kcp kco knx kfa vH vN vC vK vF vL vS lo su klo ksu qa fv gv pv qv i0 i1 ia iF iT h0 n0) v U'.heap L ∧ FrameEnd U o U' L ({ frames := 1, cells := 0, slots := 0, locals := 19 } : Room).cells ({ frames := 1, cells := 0, slots := 0, locals := 19 } : Room).slots) := by
  refine MetFree.of_bodySF (plainFor_of_name pnJ) hisR ?_
  intro p e s m args below meth c s₁ Bd hml0 hP hK
  obtain ⟨rfl, hZ, hh⟩ := hP
  have hx := Bd.exec
  have hby := Bd.bytes
  have hml : c.maxLocals = 10 := hml0
  have hlk : meth.locks = false := BodyLoose.notSynchronized Bd
  have hown : s.vm.findClass "com/example/kubera/kubera/FlowNetwork" = some m.cls := findClass_of_methodNamed Bd.named
  have hnm := (name_of_methodNamed Bd.named Bd.method).1
  have w_4 := hw _ (List.mem_of_getElem? (i := 4) rfl)
  have w_5 := hw _ (List.mem_of_getElem? (i := 5) rfl)
  have w_13 := hw _ (List.mem_of_getElem? (i := 13) rfl)
  have w_14 := hw _ (List.mem_of_getElem? (i := 14) rfl)
  have w_16 := hw _ (List.mem_of_getElem? (i := 16) rfl)
  have w_19 := hw _ (List.mem_of_getElem? (i := 19) rfl)
  have w_21 := hw _ (List.mem_of_getElem? (i := 21) rfl)
  have w_22 := hw _ (List.mem_of_getElem? (i := 22) rfl)
  have w_23 := hw _ (List.mem_of_getElem? (i := 23) rfl)
  have w_25 := hw _ (List.mem_of_getElem? (i := 25) rfl)
  have w_27 := hw _ (List.mem_of_getElem? (i := 27) rfl)
  have w_29 := hw _ (List.mem_of_getElem? (i := 29) rfl)
  have w_30 := hw _ (List.mem_of_getElem? (i := 30) rfl)
  have w_31 := hw _ (List.mem_of_getElem? (i := 31) rfl)
  have w_33 := hw _ (List.mem_of_getElem? (i := 33) rfl)
  have w_43 := hw _ (List.mem_of_getElem? (i := 43) rfl)
  have w_44 := hw _ (List.mem_of_getElem? (i := 44) rfl)
  have w_45 := hw _ (List.mem_of_getElem? (i := 45) rfl)
  have w_46 := hw _ (List.mem_of_getElem? (i := 46) rfl)
  have w_47 := hw _ (List.mem_of_getElem? (i := 47) rfl)
  have w_48 := hw _ (List.mem_of_getElem? (i := 48) rfl)
  have w_73 := hw _ (List.mem_of_getElem? (i := 73) rfl)
  have w_121 := hw _ (List.mem_of_getElem? (i := 121) rfl)
  have hci : ∀ i v, (i, v) ∈ ([] : List (Nat × Int32)) → (Jvm.Cond.constant "com/example/kubera/kubera/FlowNetwork" i v).before #[(.ref x0), (.int x1), (.int x2), (.long x3), (.long x4), (.long x5)] s = true := own_ci0
  have hcl : ∀ i v, (i, v) ∈ ([(87, 9223372036854775807), (119, 2305843009213693951)] : List (Nat × Int64)) → (Jvm.Cond.constantLong "com/example/kubera/kubera/FlowNetwork" i v).before #[(.ref x0), (.int x1), (.int x2), (.long x3), (.long x4), (.long x5)] s = true := (own_ciS (mvT hZ w_73) (own_ciS (mvT hZ w_121) own_ci0))
  have X0 : Stand p l e ({ frames := 1, cells := 0, slots := 0, locals := 19 } : Room) s m #[(.ref x0), (.int x1), (.int x2), (.long x3), (.long x4), (.long x5)] below meth c s₁ [] 0 0 := Stand.of_body Bd
  have e0 : s₁.heap = h0 := by rw [← hh, Bd.state]; rfl
  have N0 := Fr.nil n0
  show Goes p e below s (QJ Z x0 x1 x2 x3 x4 x5 hd cp co nx fa khd kcp kco knx kfa vH vN vC vK vF vL vS lo su klo ksu qa fv gv pv qv i0 i1 ia iF iT h0 n0) ({ frames := 1, cells := 0, slots := 0, locals := 19 } : Room).cells ({ frames := 1, cells := 0, slots := 0, locals := 19 } : Room).slots (s₁.setTop (entryFrame m #[(.ref x0), (.int x1), (.int x2), (.long x3), (.long x4), (.long x5)] 10))
  refine Goes.cast (efJ m x0 x1 x2 x3 x4 x5) ?_
  have K0 : Keep h0 h0 [x0, hd, cp, co, nx, fa, lo, su] := Keep.refl h0 _
  refine Goes.run X0 hx hown hci hcl hby (L := [(0, .lload_n 3, 1), (1, .lconst 0, 1), (2, .lcmp, 1)]) (by decide +kernel) rfl (g' := (mkF m 3 #[rv x0, iv x1, iv x2, jv x3, .second, jv x4, .second, jv x5, .second, .unset] [(.int (lcmpW x3 (0 : Int64)))])) rfl ?_
  have hc3_1 : ¬ (x3 < (0 : Int64)) := a1
  refine Goes.st (B := s₁.setTop (mkF m 6 #[rv x0, iv x1, iv x2, jv x3, .second, jv x4, .second, jv x5, .second, .unset] [])) (fun t k => ?_) ?_
  · refine XS.ifNo X0.here hx rfl (hb hby d13_3) rfl (fltL hc3_1).1 ?_
    exact k
  refine Goes.run X0 hx hown hci hcl hby (L := [(6, .lload 5, 2), (8, .lload_n 3, 1), (9, .lcmp, 1)]) (by decide +kernel) rfl (g' := (mkF m 10 #[rv x0, iv x1, iv x2, jv x3, .second, jv x4, .second, jv x5, .second, .unset] [(.int (lcmpW x4 x3))])) rfl ?_
  have hc10_2 : ¬ (x4 < x3) := a2
  refine Goes.st (B := s₁.setTop (mkF m 13 #[rv x0, iv x1, iv x2, jv x3, .second, jv x4, .second, jv x5, .second, .unset] [])) (fun t k => ?_) ?_
  · refine XS.ifNo X0.here hx rfl (hb hby d13_10) rfl (fltL hc10_2).1 ?_
    exact k
  refine Goes.run X0 hx hown hci hcl hby (L := [(13, .lload 7, 2), (15, .lconst 0, 1), (16, .lcmp, 1)]) (by decide +kernel) rfl (g' := (mkF m 17 #[rv x0, iv x1, iv x2, jv x3, .second, jv x4, .second, jv x5, .second, .unset] [(.int (lcmpW x5 (0 : Int64)))])) rfl ?_
  have hc17_3 : ¬ (x5 < (0 : Int64)) := a3
  refine Goes.st (B := s₁.setTop (mkF m 30 #[rv x0, iv x1, iv x2, jv x3, .second, jv x4, .second, jv x5, .second, .unset] [])) (fun t k => ?_) ?_
  · refine XS.ifYes X0.here hx rfl (pc0 := 17) (pc' := 30) rfl (hb hby d13_17) rfl (fltL hc17_3).2.1 (by decide) (by decide) ?_
    exact k
  refine Goes.run X0 hx hown hci hcl hby (L := [(30, .aload_n 0, 1), (31, .dup, 1)]) (by decide +kernel) rfl (g' := (mkF m 32 #[rv x0, iv x1, iv x2, jv x3, .second, jv x4, .second, jv x5, .second, .unset] [(.ref x0), (.ref x0)])) rfl ?_
  obtain ⟨T4, X4, e4, st4⟩ := getF X0 hx hZ hown (host := "") (Or.inl w_43) Via.refl e0 F_arcs_x0 (g := (mkF m 32 #[rv x0, iv x1, iv x2, jv x3, .second, jv x4, .second, jv x5, .second, .unset] [(.ref x0), (.ref x0)])) rfl rfl (hb hby d13_32)
  refine Goes.st (B := T4.setTop (mkF m 35 #[rv x0, iv x1, iv x2, jv x3, .second, jv x4, .second, jv x5, .second, .unset] [(.int qa), (.ref x0)])) st4 ?_
  refine Goes.st (B := T4.setTop (mkF m 36 #[rv x0, iv x1, iv x2, jv x3, .second, jv x4, .second, jv x5, .second, .unset] [(.int qa), (.ref x0), (.int qa)])) (fun t k => ?_) ?_
  · refine XS.dupX1 X4.here hx rfl (hb hby d13_35) rfl rfl rfl ?_
    exact k
  refine Goes.run X4 hx hown hci hcl hby (L := [(36, .iconst 1, 1), (37, .iadd, 1)]) (by decide +kernel) rfl (g' := (mkF m 38 #[rv x0, iv x1, iv x2, jv x3, .second, jv x4, .second, jv x5, .second, .unset] [(.int (qa + (1 : Int32))), (.ref x0), (.int qa)])) rfl ?_
  obtain ⟨T5, h5, X5, e5, W5, st5⟩ := putF X4 hx hZ hown (host := "") (Or.inl w_43) Via.refl e4 F_arcs_x0 E_x0 (Or.inl w_44) w_4 (ty := .int) (by decide) rfl rfl (g := (mkF m 38 #[rv x0, iv x1, iv x2, jv x3, .second, jv x4, .second, jv x5, .second, .unset] [(.int (qa + (1 : Int32))), (.ref x0), (.int qa)])) rfl rfl (hb hby d13_38)
  have E_x0 := E_x0.wr W5
  have F_nodes_x0 := F_nodes_x0.other W5 (Or.inr (slot_ne (Or.inr w_25) (Or.inl w_44) (by decide) (t := .int) (t' := .int) (by decide) (by decide)))
  have F_source_x0 := F_source_x0.other W5 (Or.inr (slot_ne (Or.inr w_27) (Or.inl w_44) (by decide) (t := .int) (t' := .int) (by decide) (by decide)))
  have F_sink_x0 := F_sink_x0.other W5 (Or.inr (slot_ne (Or.inr w_29) (Or.inl w_44) (by decide) (t := .int) (t' := .int) (by decide) (by decide)))
  have F_arcs_x0 : Fld Z h5 x0 "com/example/kubera/kubera/FlowNetwork" "arcs" "I" (.int (qa + (1 : Int32))) := F_arcs_x0.same W5
  have F_heads_x0 := F_heads_x0.other W5 (Or.inr (slot_ne (Or.inl w_14) (Or.inl w_44) (by decide) (t := (.array .int)) (t' := .int) (by decide) (by decide)))
  have F_capacities_x0 := F_capacities_x0.other W5 (Or.inr (slot_ne (Or.inl w_19) (Or.inl w_44) (by decide) (t := (.array .long)) (t' := .int) (by decide) (by decide)))
  have F_costs_x0 := F_costs_x0.other W5 (Or.inr (slot_ne (Or.inl w_21) (Or.inl w_44) (by decide) (t := (.array .long)) (t' := .int) (by decide) (by decide)))
  have F_nextArcs_x0 := F_nextArcs_x0.other W5 (Or.inr (slot_ne (Or.inl w_16) (Or.inl w_44) (by decide) (t := (.array .int)) (t' := .int) (by decide) (by decide)))
  have F_firstArcs_x0 := F_firstArcs_x0.other W5 (Or.inr (slot_ne (Or.inr w_33) (Or.inl w_44) (by decide) (t := (.array .int)) (t' := .int) (by decide) (by decide)))
  have V_hd := V_hd.other W5 (Ne.symm ne_x0_hd)
  have V_cp := V_cp.other W5 (Ne.symm ne_x0_cp)
  have V_co := V_co.other W5 (Ne.symm ne_x0_co)
  have V_nx := V_nx.other W5 (Ne.symm ne_x0_nx)
  have V_fa := V_fa.other W5 (Ne.symm ne_x0_fa)
  have F_lowers_x0 := F_lowers_x0.other W5 (Or.inr (slot_ne (Or.inl w_23) (Or.inl w_44) (by decide) (t := (.array .long)) (t' := .int) (by decide) (by decide)))
  have F_supplies_x0 := F_supplies_x0.other W5 (Or.inr (slot_ne (Or.inr w_31) (Or.inl w_44) (by decide) (t := (.array .long)) (t' := .int) (by decide) (by decide)))
  have V_lo := V_lo.other W5 (Ne.symm ne_x0_lo)
  have V_su := V_su.other W5 (Ne.symm ne_x0_su)
  have Zn5 : n0 ≤ h5.size := Nat.le_trans Z0 (Keep.of_wr W5).1
  have K5 := K0.wr W5 (Or.inl (List.mem_of_getElem? (i := 0) rfl))
  have N5 := Fr.snoc X5 N0 g_x0
  refine Goes.st (B := T5.setTop (mkF m 41 #[rv x0, iv x1, iv x2, jv x3, .second, jv x4, .second, jv x5, .second, .unset] [(.int qa)])) st5 ?_
  refine Goes.run X5 hx hown hci hcl hby (L := [(41, .istore 9, 2), (43, .iconst 2, 1), (44, .iload 9, 2), (46, .imul, 1), (47, .iconst 1, 1), (48, .iadd, 1)]) (by decide +kernel) rfl (g' := (mkF m 49 #[rv x0, iv x1, iv x2, jv x3, .second, jv x4, .second, jv x5, .second, iv qa] [(.int (((2 : Int32) * qa) + (1 : Int32)))])) rfl ?_
  refine Goes.run X5 hx hown hci hcl hby (L := [(49, .aload_n 0, 1)]) (by decide +kernel) rfl (g' := (mkF m 50 #[rv x0, iv x1, iv x2, jv x3, .second, jv x4, .second, jv x5, .second, iv qa] [(.ref x0), (.int (((2 : Int32) * qa) + (1 : Int32)))])) rfl ?_
  obtain ⟨T6, X6, e6, st6⟩ := getF X5 hx hZ hown (host := "") (Or.inl w_13) Via.refl e5 F_heads_x0 (g := (mkF m 50 #[rv x0, iv x1, iv x2, jv x3, .second, jv x4, .second, jv x5, .second, iv qa] [(.ref x0), (.int (((2 : Int32) * qa) + (1 : Int32)))])) rfl rfl (hb hby d13_50)
  refine Goes.st (B := T6.setTop (mkF m 53 #[rv x0, iv x1, iv x2, jv x3, .second, jv x4, .second, jv x5, .second, iv qa] [(.ref hd), (.int (((2 : Int32) * qa) + (1 : Int32)))])) st6 ?_
  obtain ⟨cl7, Ar7, q7, S7, M7, Hs7, G7⟩ := id V_hd
  refine Goes.st (B := T6.setTop (mkF m 54 #[rv x0, iv x1, iv x2, jv x3, .second, jv x4, .second, jv x5, .second, iv qa] [(.int 16), (.int (((2 : Int32) * qa) + (1 : Int32)))])) (fun t k => ?_) ?_
  · refine X6.arraylength hx (cell := cl7) (by rw [e6]; exact Ar7.1) (State.isArrayOf_alike hZ.alike Ar7.2.1) (g := (mkF m 53 #[rv x0, iv x1, iv x2, jv x3, .second, jv x4, .second, jv x5, .second, iv qa] [(.ref hd), (.int (((2 : Int32) * qa) + (1 : Int32)))])) rfl (rest := [(.int (((2 : Int32) * qa) + (1 : Int32)))]) rfl (hb hby d13_53) _ ?_
    rw [len_of S7 M7]
    exact k
  have hc54_8 : (((2 : Int32) * qa) + (1 : Int32)) < (16 : Int32) := hG2
  refine Goes.st (B := T6.setTop (mkF m 147 #[rv x0, iv x1, iv x2, jv x3, .second, jv x4, .second, jv x5, .second, iv qa] [])) (fun t k => ?_) ?_
  · refine XS.icmpYes X6.here hx rfl (pc0 := 54) (pc' := 147) rfl (hb hby d13_54) rfl (tlt hc54_8).1 (by decide) (by decide) ?_
    exact k
  refine Goes.run X6 hx hown hci hcl hby (L := [(147, .aload_n 0, 1), (148, .iconst 2, 1), (149, .iload 9, 2), (151, .imul, 1), (152, .iload_n 1, 1), (153, .iload_n 2, 1)]) (by decide +kernel) rfl (g' := (mkF m 154 #[rv x0, iv x1, iv x2, jv x3, .second, jv x4, .second, jv x5, .second, iv qa] [(.int x2), (.int x1), (.int ((2 : Int32) * qa)), (.ref x0)])) rfl ?_
  refine Goes.run X6 hx hown hci hcl hby (L := [(154, .lload 5, 2), (156, .lload_n 3, 1), (157, .lsub, 1), (158, .lload 7, 2)]) (by decide +kernel) rfl (g' := (mkF m 160 #[rv x0, iv x1, iv x2, jv x3, .second, jv x4, .second, jv x5, .second, iv qa] [(.long x5), (.long (cJ_160_1 x1 x2 x3 x4 x5 qa fv gv pv qv)), (.int x2), (.int x1), (.int (cJ_160_4 x1 x2 x3 x4 x5 qa fv gv pv qv)), (.ref x0)])) rfl ?_
  obtain ⟨cq9, q9a, q9b⟩ := E_x0.cell
  obtain ⟨_, _, ⟨T9, L9, k9, n9⟩, -, X9, ⟨Lc9, hQ9, l9, y9, z9⟩, st9⟩ := X6.privateBack hx (y := ym11) hown (mvT hZ w_45) (mvT hZ w_46) (own_selp (y := ym11) (mvT hZ w_4) (mvP hZ w_47) (mvT hZ w_46) (by decide)) (Cond.privateMethod_at (mvP hZ w_47 (args := #[]))) (mvT hZ w_48) (by decide) (backOf (W := 0) (rmI l Z a0 hw [] x0 (cJ_160_4 x1 x2 x3 x4 x5 qa fv gv pv qv) x1 x2 (cJ_160_1 x1 x2 x3 x4 x5 qa fv gv pv qv) x5 hd cp co nx fa khd kcp kco knx kfa vH vN vC vK vF i0 iF fv h5 n0 Zn5 F_heads_x0 F_capacities_x0 F_costs_x0 F_nextArcs_x0 F_firstArcs_x0 V_hd V_cp V_co V_nx V_fa g_hd g_cp g_co g_nx g_fa ne_hd_cp ne_hd_co ne_hd_nx ne_hd_fa (Ne.symm ne_x0_hd) ne_cp_co ne_cp_nx ne_cp_fa (Ne.symm ne_x0_cp) ne_co_nx ne_co_fa (Ne.symm ne_x0_co) ne_nx_fa (Ne.symm ne_x0_nx) (Ne.symm ne_x0_fa) hE hE1 hE2 hF hF1 hF2 (by rw [hlH]; exact hi0) (by rw [hlC]; exact hi0) (by rw [hlK]; exact hi0) (by rw [hlN]; exact hi0) hlF hfv) hZ w_48 w_5 (by decide) (by decide)) (g := (mkF m 160 #[rv x0, iv x1, iv x2, jv x3, .second, jv x4, .second, jv x5, .second, iv qa] [(.long x5), (.long (cJ_160_1 x1 x2 x3 x4 x5 qa fv gv pv qv)), (.int x2), (.int x1), (.int (cJ_160_4 x1 x2 x3 x4 x5 qa fv gv pv qv)), (.ref x0)])) rfl (by rw [hml]; rfl) (Steps.refl _) (a := x0) (by rw [e6]; exact q9a) q9b (argsL := [(.int (cJ_160_4 x1 x2 x3 x4 x5 qa fv gv pv qv)), (.int x1), (.int x2), (.long (cJ_160_1 x1 x2 x3 x4 x5 qa fv gv pv qv)), (.long x5)]) (rest := []) (lenOf pdJ_0 rfl) rfl (by show 2 * 0 + _ ≤ _; exact Nat.le_of_eq rfl) (hb hby d13_160) (fun _ _ => ⟨rfl, e6, (by decide : 0 + 0 ≤ _), (by decide : 0 + 0 ≤ _)⟩)
  dsimp only [Pt.U, Pt.locs, Pt.cells, Pt.slots] at X9 l9 y9 z9 st9 hQ9
  subst l9 y9 z9
  obtain ⟨h9, eh9⟩ : ∃ z, z = T9.heap := ⟨_, rfl⟩
  rw [← eh9] at hQ9
  have e9 : T9.heap = h9 := eh9.symm
  obtain ⟨rfl, N9q, Kq9, o9_0, o9_1, o9_2, o9_3, o9_4⟩ := hQ9
  have N9 := Fr.app N5 N9q
  have E_x0 := E_x0.keep Kq9
  have F_nodes_x0 := F_nodes_x0.keep Kq9 (ninS ne_x0_hd (ninS ne_x0_cp (ninS ne_x0_co (ninS ne_x0_nx (ninS ne_x0_fa nin0)))))
  have F_source_x0 := F_source_x0.keep Kq9 (ninS ne_x0_hd (ninS ne_x0_cp (ninS ne_x0_co (ninS ne_x0_nx (ninS ne_x0_fa nin0)))))
  have F_sink_x0 := F_sink_x0.keep Kq9 (ninS ne_x0_hd (ninS ne_x0_cp (ninS ne_x0_co (ninS ne_x0_nx (ninS ne_x0_fa nin0)))))
  have F_arcs_x0 := F_arcs_x0.keep Kq9 (ninS ne_x0_hd (ninS ne_x0_cp (ninS ne_x0_co (ninS ne_x0_nx (ninS ne_x0_fa nin0)))))
  have F_heads_x0 := F_heads_x0.keep Kq9 (ninS ne_x0_hd (ninS ne_x0_cp (ninS ne_x0_co (ninS ne_x0_nx (ninS ne_x0_fa nin0)))))
  have F_capacities_x0 := F_capacities_x0.keep Kq9 (ninS ne_x0_hd (ninS ne_x0_cp (ninS ne_x0_co (ninS ne_x0_nx (ninS ne_x0_fa nin0)))))
  have F_costs_x0 := F_costs_x0.keep Kq9 (ninS ne_x0_hd (ninS ne_x0_cp (ninS ne_x0_co (ninS ne_x0_nx (ninS ne_x0_fa nin0)))))
  have F_nextArcs_x0 := F_nextArcs_x0.keep Kq9 (ninS ne_x0_hd (ninS ne_x0_cp (ninS ne_x0_co (ninS ne_x0_nx (ninS ne_x0_fa nin0)))))
  have F_firstArcs_x0 := F_firstArcs_x0.keep Kq9 (ninS ne_x0_hd (ninS ne_x0_cp (ninS ne_x0_co (ninS ne_x0_nx (ninS ne_x0_fa nin0)))))
  have F_lowers_x0 := F_lowers_x0.keep Kq9 (ninS ne_x0_hd (ninS ne_x0_cp (ninS ne_x0_co (ninS ne_x0_nx (ninS ne_x0_fa nin0)))))
  have F_supplies_x0 := F_supplies_x0.keep Kq9 (ninS ne_x0_hd (ninS ne_x0_cp (ninS ne_x0_co (ninS ne_x0_nx (ninS ne_x0_fa nin0)))))
  have V_lo := V_lo.keep Kq9 (ninS (Ne.symm ne_hd_lo) (ninS (Ne.symm ne_cp_lo) (ninS (Ne.symm ne_co_lo) (ninS (Ne.symm ne_nx_lo) (ninS (Ne.symm ne_fa_lo) nin0)))))
  have V_su := V_su.keep Kq9 (ninS (Ne.symm ne_hd_su) (ninS (Ne.symm ne_cp_su) (ninS (Ne.symm ne_co_su) (ninS (Ne.symm ne_nx_su) (ninS (Ne.symm ne_fa_su) nin0)))))
  have V_hd : Arv Z h9 hd khd .int (16 : Int32) (vH.set i0 (.int x2)) (.int (0 : Int32)) := o9_0
  have V_cp : Arv Z h9 cp kcp .long (16 : Int32) (vC.set i0 (.long (cJ_160_1 x1 x2 x3 x4 x5 qa fv gv pv qv))) (.long (0 : Int64)) := o9_1
  have V_co : Arv Z h9 co kco .long (16 : Int32) (vK.set i0 (.long x5)) (.long (0 : Int64)) := o9_2
  have V_nx : Arv Z h9 nx knx .int (16 : Int32) (vN.set i0 (.int fv)) (.int (0 : Int32)) := o9_3
  have V_fa : Arv Z h9 fa kfa .int (4 : Int32) (vF.set iF (.int (cJ_160_4 x1 x2 x3 x4 x5 qa fv gv pv qv))) (.int (0 : Int32)) := o9_4
  have Zn9 : n0 ≤ h9.size := Nat.le_trans Zn5 Kq9.1
  have K9 := K5.trans Kq9 ((allS (Or.inl (List.mem_of_getElem? (i := 1) rfl)) (allS (Or.inl (List.mem_of_getElem? (i := 2) rfl)) (allS (Or.inl (List.mem_of_getElem? (i := 3) rfl)) (allS (Or.inl (List.mem_of_getElem? (i := 4) rfl)) (allS (Or.inl (List.mem_of_getElem? (i := 5) rfl)) all0))))))
  refine Goes.st (B := T9.setTop (mkF m 163 #[rv x0, iv x1, iv x2, jv x3, .second, jv x4, .second, jv x5, .second, iv qa] [])) (fun t k => st9.trans k) ?_
  refine Goes.run X9 hx hown hci hcl hby (L := [(163, .aload_n 0, 1), (164, .iconst 2, 1), (165, .iload 9, 2), (167, .imul, 1), (168, .iconst 1, 1), (169, .iadd, 1)]) (by decide +kernel) rfl (g' := (mkF m 170 #[rv x0, iv x1, iv x2, jv x3, .second, jv x4, .second, jv x5, .second, iv qa] [(.int (((2 : Int32) * qa) + (1 : Int32))), (.ref x0)])) rfl ?_
  refine Goes.run X9 hx hown hci hcl hby (L := [(170, .iload_n 2, 1), (171, .iload_n 1, 1), (172, .lconst 0, 1), (173, .lload 7, 2), (175, .lneg, 1)]) (by decide +kernel) rfl (g' := (mkF m 176 #[rv x0, iv x1, iv x2, jv x3, .second, jv x4, .second, jv x5, .second, iv qa] [(.long (cJ_176_0 x1 x2 x3 x4 x5 qa fv gv pv qv)), (.long 0), (.int x1), (.int x2), (.int (cJ_176_4 x1 x2 x3 x4 x5 qa fv gv pv qv)), (.ref x0)])) rfl ?_
  obtain ⟨cq10, q10a, q10b⟩ := E_x0.cell
  obtain ⟨_, _, ⟨T10, L10, k10, n10⟩, -, X10, ⟨Lc10, hQ10, l10, y10, z10⟩, st10⟩ := X9.privateBack hx (y := ym11) hown (mvT hZ w_45) (mvT hZ w_46) (own_selp (y := ym11) (mvT hZ w_4) (mvP hZ w_47) (mvT hZ w_46) (by decide)) (Cond.privateMethod_at (mvP hZ w_47 (args := #[]))) (mvT hZ w_48) (by decide) (backOf (W := 0) (rmI l Z a0 hw [] x0 (cJ_176_4 x1 x2 x3 x4 x5 qa fv gv pv qv) x2 x1 (0 : Int64) (cJ_176_0 x1 x2 x3 x4 x5 qa fv gv pv qv) hd cp co nx fa khd kcp kco knx kfa (vH.set i0 (.int x2)) (vN.set i0 (.int fv)) (vC.set i0 (.long (cJ_160_1 x1 x2 x3 x4 x5 qa fv gv pv qv))) (vK.set i0 (.long x5)) (vF.set iF (.int (cJ_160_4 x1 x2 x3 x4 x5 qa fv gv pv qv))) i1 iT gv h9 n0 Zn9 F_heads_x0 F_capacities_x0 F_costs_x0 F_nextArcs_x0 F_firstArcs_x0 V_hd V_cp V_co V_nx V_fa g_hd g_cp g_co g_nx g_fa ne_hd_cp ne_hd_co ne_hd_nx ne_hd_fa (Ne.symm ne_x0_hd) ne_cp_co ne_cp_nx ne_cp_fa (Ne.symm ne_x0_cp) ne_co_nx ne_co_fa (Ne.symm ne_x0_co) ne_nx_fa (Ne.symm ne_x0_nx) (Ne.symm ne_x0_fa) hG hG1 hG2 hT hT1 hT2 (by rw [List.length_set, hlH]; exact hi1) (by rw [List.length_set, hlC]; exact hi1) (by rw [List.length_set, hlK]; exact hi1) (by rw [List.length_set, hlN]; exact hi1) (by rw [List.length_set]; exact hmF) hgv) hZ w_48 w_5 (by decide) (by decide)) (g := (mkF m 176 #[rv x0, iv x1, iv x2, jv x3, .second, jv x4, .second, jv x5, .second, iv qa] [(.long (cJ_176_0 x1 x2 x3 x4 x5 qa fv gv pv qv)), (.long 0), (.int x1), (.int x2), (.int (cJ_176_4 x1 x2 x3 x4 x5 qa fv gv pv qv)), (.ref x0)])) rfl (by rw [hml]; rfl) (Steps.refl _) (a := x0) (by rw [e9]; exact q10a) q10b (argsL := [(.int (cJ_176_4 x1 x2 x3 x4 x5 qa fv gv pv qv)), (.int x2), (.int x1), (.long 0), (.long (cJ_176_0 x1 x2 x3 x4 x5 qa fv gv pv qv))]) (rest := []) (lenOf pdJ_0 rfl) rfl (by show 2 * 0 + _ ≤ _; exact Nat.le_of_eq rfl) (hb hby d13_176) (fun _ _ => ⟨rfl, e9, (by decide : 0 + 0 ≤ _), (by decide : 0 + 0 ≤ _)⟩)
  dsimp only [Pt.U, Pt.locs, Pt.cells, Pt.slots] at X10 l10 y10 z10 st10 hQ10
  subst l10 y10 z10
  obtain ⟨h10, eh10⟩ : ∃ z, z = T10.heap := ⟨_, rfl⟩
  rw [← eh10] at hQ10
  have e10 : T10.heap = h10 := eh10.symm
  obtain ⟨rfl, N10q, Kq10, o10_0, o10_1, o10_2, o10_3, o10_4⟩ := hQ10
  have N10 := Fr.app N9 N10q
  have E_x0 := E_x0.keep Kq10
  have F_nodes_x0 := F_nodes_x0.keep Kq10 (ninS ne_x0_hd (ninS ne_x0_cp (ninS ne_x0_co (ninS ne_x0_nx (ninS ne_x0_fa nin0)))))
  have F_source_x0 := F_source_x0.keep Kq10 (ninS ne_x0_hd (ninS ne_x0_cp (ninS ne_x0_co (ninS ne_x0_nx (ninS ne_x0_fa nin0)))))
  have F_sink_x0 := F_sink_x0.keep Kq10 (ninS ne_x0_hd (ninS ne_x0_cp (ninS ne_x0_co (ninS ne_x0_nx (ninS ne_x0_fa nin0)))))
  have F_arcs_x0 := F_arcs_x0.keep Kq10 (ninS ne_x0_hd (ninS ne_x0_cp (ninS ne_x0_co (ninS ne_x0_nx (ninS ne_x0_fa nin0)))))
  have F_heads_x0 := F_heads_x0.keep Kq10 (ninS ne_x0_hd (ninS ne_x0_cp (ninS ne_x0_co (ninS ne_x0_nx (ninS ne_x0_fa nin0)))))
  have F_capacities_x0 := F_capacities_x0.keep Kq10 (ninS ne_x0_hd (ninS ne_x0_cp (ninS ne_x0_co (ninS ne_x0_nx (ninS ne_x0_fa nin0)))))
  have F_costs_x0 := F_costs_x0.keep Kq10 (ninS ne_x0_hd (ninS ne_x0_cp (ninS ne_x0_co (ninS ne_x0_nx (ninS ne_x0_fa nin0)))))
  have F_nextArcs_x0 := F_nextArcs_x0.keep Kq10 (ninS ne_x0_hd (ninS ne_x0_cp (ninS ne_x0_co (ninS ne_x0_nx (ninS ne_x0_fa nin0)))))
  have F_firstArcs_x0 := F_firstArcs_x0.keep Kq10 (ninS ne_x0_hd (ninS ne_x0_cp (ninS ne_x0_co (ninS ne_x0_nx (ninS ne_x0_fa nin0)))))
  have F_lowers_x0 := F_lowers_x0.keep Kq10 (ninS ne_x0_hd (ninS ne_x0_cp (ninS ne_x0_co (ninS ne_x0_nx (ninS ne_x0_fa nin0)))))
  have F_supplies_x0 := F_supplies_x0.keep Kq10 (ninS ne_x0_hd (ninS ne_x0_cp (ninS ne_x0_co (ninS ne_x0_nx (ninS ne_x0_fa nin0)))))
  have V_lo := V_lo.keep Kq10 (ninS (Ne.symm ne_hd_lo) (ninS (Ne.symm ne_cp_lo) (ninS (Ne.symm ne_co_lo) (ninS (Ne.symm ne_nx_lo) (ninS (Ne.symm ne_fa_lo) nin0)))))
  have V_su := V_su.keep Kq10 (ninS (Ne.symm ne_hd_su) (ninS (Ne.symm ne_cp_su) (ninS (Ne.symm ne_co_su) (ninS (Ne.symm ne_nx_su) (ninS (Ne.symm ne_fa_su) nin0)))))
  have V_hd : Arv Z h10 hd khd .int (16 : Int32) ((vH.set i0 (.int x2)).set i1 (.int x1)) (.int (0 : Int32)) := o10_0
  have V_cp : Arv Z h10 cp kcp .long (16 : Int32) ((vC.set i0 (.long (cJ_160_1 x1 x2 x3 x4 x5 qa fv gv pv qv))).set i1 (.long (0 : Int64))) (.long (0 : Int64)) := o10_1
  have V_co : Arv Z h10 co kco .long (16 : Int32) ((vK.set i0 (.long x5)).set i1 (.long (cJ_176_0 x1 x2 x3 x4 x5 qa fv gv pv qv))) (.long (0 : Int64)) := o10_2
  have V_nx : Arv Z h10 nx knx .int (16 : Int32) ((vN.set i0 (.int fv)).set i1 (.int gv)) (.int (0 : Int32)) := o10_3
  have V_fa : Arv Z h10 fa kfa .int (4 : Int32) ((vF.set iF (.int (cJ_160_4 x1 x2 x3 x4 x5 qa fv gv pv qv))).set iT (.int (cJ_176_4 x1 x2 x3 x4 x5 qa fv gv pv qv))) (.int (0 : Int32)) := o10_4
  have Zn10 : n0 ≤ h10.size := Nat.le_trans Zn9 Kq10.1
  have K10 := K9.trans Kq10 ((allS (Or.inl (List.mem_of_getElem? (i := 1) rfl)) (allS (Or.inl (List.mem_of_getElem? (i := 2) rfl)) (allS (Or.inl (List.mem_of_getElem? (i := 3) rfl)) (allS (Or.inl (List.mem_of_getElem? (i := 4) rfl)) (allS (Or.inl (List.mem_of_getElem? (i := 5) rfl)) all0))))))
  refine Goes.st (B := T10.setTop (mkF m 179 #[rv x0, iv x1, iv x2, jv x3, .second, jv x4, .second, jv x5, .second, iv qa] [])) (fun t k => st10.trans k) ?_
  refine Goes.run X10 hx hown hci hcl hby (L := [(179, .aload_n 0, 1)]) (by decide +kernel) rfl (g' := (mkF m 180 #[rv x0, iv x1, iv x2, jv x3, .second, jv x4, .second, jv x5, .second, iv qa] [(.ref x0)])) rfl ?_
  obtain ⟨T11, X11, e11, st11⟩ := getF X10 hx hZ hown (host := "") (Or.inl w_22) Via.refl e10 F_lowers_x0 (g := (mkF m 180 #[rv x0, iv x1, iv x2, jv x3, .second, jv x4, .second, jv x5, .second, iv qa] [(.ref x0)])) rfl rfl (hb hby d13_180)
  refine Goes.st (B := T11.setTop (mkF m 183 #[rv x0, iv x1, iv x2, jv x3, .second, jv x4, .second, jv x5, .second, iv qa] [(.ref lo)])) st11 ?_
  refine Goes.run X11 hx hown hci hcl hby (L := [(183, .iload 9, 2), (185, .lload_n 3, 1)]) (by decide +kernel) rfl (g' := (mkF m 186 #[rv x0, iv x1, iv x2, jv x3, .second, jv x4, .second, jv x5, .second, iv qa] [(.long x3), (.int qa), (.ref lo)])) rfl ?_
  obtain ⟨cl12, Ar12, q12, S12, M12, Hs12, G12⟩ := id V_lo
  have hin12 : ¬ (qa < 0 ∨ cl12.slots.size ≤ (qa).toNatClampNeg) := inb_of S12 ⟨hL1, hL2⟩
  obtain ⟨T12, h12, X12, e12, W12, st12⟩ := stJ X11 hx hZ e11 Ar12 (j := qa) hin12 (g := (mkF m 186 #[rv x0, iv x1, iv x2, jv x3, .second, jv x4, .second, jv x5, .second, iv qa] [(.long x3), (.int qa), (.ref lo)])) rfl rfl (hb hby d13_186)
  have E_x0 := E_x0.wr W12
  have F_nodes_x0 := F_nodes_x0.other W12 (Or.inl ne_x0_lo)
  have F_source_x0 := F_source_x0.other W12 (Or.inl ne_x0_lo)
  have F_sink_x0 := F_sink_x0.other W12 (Or.inl ne_x0_lo)
  have F_arcs_x0 := F_arcs_x0.other W12 (Or.inl ne_x0_lo)
  have F_heads_x0 := F_heads_x0.other W12 (Or.inl ne_x0_lo)
  have F_capacities_x0 := F_capacities_x0.other W12 (Or.inl ne_x0_lo)
  have F_costs_x0 := F_costs_x0.other W12 (Or.inl ne_x0_lo)
  have F_nextArcs_x0 := F_nextArcs_x0.other W12 (Or.inl ne_x0_lo)
  have F_firstArcs_x0 := F_firstArcs_x0.other W12 (Or.inl ne_x0_lo)
  have V_hd := V_hd.other W12 ne_hd_lo
  have V_cp := V_cp.other W12 ne_cp_lo
  have V_co := V_co.other W12 ne_co_lo
  have V_nx := V_nx.other W12 ne_nx_lo
  have V_fa := V_fa.other W12 ne_fa_lo
  have F_lowers_x0 := F_lowers_x0.other W12 (Or.inl ne_x0_lo)
  have F_supplies_x0 := F_supplies_x0.other W12 (Or.inl ne_x0_lo)
  have V_su := V_su.other W12 (Ne.symm ne_lo_su)
  have Zn12 : n0 ≤ h12.size := Nat.le_trans Zn10 (Keep.of_wr W12).1
  have K12 := K10.wr W12 (Or.inl (List.mem_of_getElem? (i := 6) rfl))
  have N12 := Fr.snoc X12 N10 g_lo
  have V_lo : Arv Z h12 lo klo .long (8 : Int32) (vL.set ia (.long x3)) (.long (0 : Int64)) := Arv.set Ar12 q12 S12 M12 Hs12 G12 rfl W12 ia hL hlL
  refine Goes.st (B := T12.setTop (mkF m 187 #[rv x0, iv x1, iv x2, jv x3, .second, jv x4, .second, jv x5, .second, iv qa] [])) st12 ?_
  refine Goes.run X12 hx hown hci hcl hby (L := [(187, .aload_n 0, 1)]) (by decide +kernel) rfl (g' := (mkF m 188 #[rv x0, iv x1, iv x2, jv x3, .second, jv x4, .second, jv x5, .second, iv qa] [(.ref x0)])) rfl ?_
  obtain ⟨T13, X13, e13, st13⟩ := getF X12 hx hZ hown (host := "") (Or.inl w_30) Via.refl e12 F_supplies_x0 (g := (mkF m 188 #[rv x0, iv x1, iv x2, jv x3, .second, jv x4, .second, jv x5, .second, iv qa] [(.ref x0)])) rfl rfl (hb hby d13_188)
  refine Goes.st (B := T13.setTop (mkF m 191 #[rv x0, iv x1, iv x2, jv x3, .second, jv x4, .second, jv x5, .second, iv qa] [(.ref su)])) st13 ?_
  refine Goes.run X13 hx hown hci hcl hby (L := [(191, .iload_n 1, 1)]) (by decide +kernel) rfl (g' := (mkF m 192 #[rv x0, iv x1, iv x2, jv x3, .second, jv x4, .second, jv x5, .second, iv qa] [(.int x1), (.ref su)])) rfl ?_
  refine Goes.st (B := T13.setTop (mkF m 193 #[rv x0, iv x1, iv x2, jv x3, .second, jv x4, .second, jv x5, .second, iv qa] [(.int x1), (.ref su), (.int x1), (.ref su)])) (fun t k => ?_) ?_
  · refine Jvm.Free.XT.dup2 X13.here hx rfl (hb hby d13_192) rfl rfl rfl ?_
    exact k
  obtain ⟨cl14, Ar14, q14, S14, M14, Hs14, G14⟩ := id V_su
  have hin14 : ¬ (x1 < 0 ∨ cl14.slots.size ≤ (x1).toNatClampNeg) := inb_of S14 ⟨hF1, hF2⟩
  have hat14 : cl14.slots[(x1).toNatClampNeg]? = some (.long pv) := Hs14.at hin14 (by rw [hF]; exact hpv)
  refine Goes.st (B := T13.setTop (mkF m 194 #[rv x0, iv x1, iv x2, jv x3, .second, jv x4, .second, jv x5, .second, iv qa] [(.long pv), (.int x1), (.ref su)])) (X13.laload hx (j := x1) (v := (.long pv)) (by rw [e13]; exact Ar14.1) (State.isArrayOf_alike hZ.alike Ar14.2.1) Ar14.2.2 hin14 hat14 (g := (mkF m 193 #[rv x0, iv x1, iv x2, jv x3, .second, jv x4, .second, jv x5, .second, iv qa] [(.int x1), (.ref su), (.int x1), (.ref su)])) rfl rfl (hb hby d13_193)) ?_
  refine Goes.run X13 hx hown hci hcl hby (L := [(194, .lload_n 3, 1), (195, .lsub, 1)]) (by decide +kernel) rfl (g' := (mkF m 196 #[rv x0, iv x1, iv x2, jv x3, .second, jv x4, .second, jv x5, .second, iv qa] [(.long (pv - x3)), (.int x1), (.ref su)])) rfl ?_
  obtain ⟨cl15, Ar15, q15, S15, M15, Hs15, G15⟩ := id V_su
  have hin15 : ¬ (x1 < 0 ∨ cl15.slots.size ≤ (x1).toNatClampNeg) := inb_of S15 ⟨hF1, hF2⟩
  obtain ⟨T15, h15, X15, e15, W15, st15⟩ := stJ X13 hx hZ e13 Ar15 (j := x1) hin15 (g := (mkF m 196 #[rv x0, iv x1, iv x2, jv x3, .second, jv x4, .second, jv x5, .second, iv qa] [(.long (pv - x3)), (.int x1), (.ref su)])) rfl rfl (hb hby d13_196)
  have E_x0 := E_x0.wr W15
  have F_nodes_x0 := F_nodes_x0.other W15 (Or.inl ne_x0_su)
  have F_source_x0 := F_source_x0.other W15 (Or.inl ne_x0_su)
  have F_sink_x0 := F_sink_x0.other W15 (Or.inl ne_x0_su)
  have F_arcs_x0 := F_arcs_x0.other W15 (Or.inl ne_x0_su)
  have F_heads_x0 := F_heads_x0.other W15 (Or.inl ne_x0_su)
  have F_capacities_x0 := F_capacities_x0.other W15 (Or.inl ne_x0_su)
  have F_costs_x0 := F_costs_x0.other W15 (Or.inl ne_x0_su)
  have F_nextArcs_x0 := F_nextArcs_x0.other W15 (Or.inl ne_x0_su)
  have F_firstArcs_x0 := F_firstArcs_x0.other W15 (Or.inl ne_x0_su)
  have V_hd := V_hd.other W15 ne_hd_su
  have V_cp := V_cp.other W15 ne_cp_su
  have V_co := V_co.other W15 ne_co_su
  have V_nx := V_nx.other W15 ne_nx_su
  have V_fa := V_fa.other W15 ne_fa_su
  have F_lowers_x0 := F_lowers_x0.other W15 (Or.inl ne_x0_su)
  have F_supplies_x0 := F_supplies_x0.other W15 (Or.inl ne_x0_su)
  have V_lo := V_lo.other W15 ne_lo_su
  have Zn15 : n0 ≤ h15.size := Nat.le_trans Zn12 (Keep.of_wr W15).1
  have K15 := K12.wr W15 (Or.inl (List.mem_of_getElem? (i := 7) rfl))
  have N15 := Fr.snoc X15 N12 g_su
  have V_su : Arv Z h15 su ksu .long (4 : Int32) (vS.set iF (.long (pv - x3))) (.long (0 : Int64)) := Arv.set Ar15 q15 S15 M15 Hs15 G15 rfl W15 iF hF hlS
  refine Goes.st (B := T15.setTop (mkF m 197 #[rv x0, iv x1, iv x2, jv x3, .second, jv x4, .second, jv x5, .second, iv qa] [])) st15 ?_
  refine Goes.run X15 hx hown hci hcl hby (L := [(197, .aload_n 0, 1)]) (by decide +kernel) rfl (g' := (mkF m 198 #[rv x0, iv x1, iv x2, jv x3, .second, jv x4, .second, jv x5, .second, iv qa] [(.ref x0)])) rfl ?_
  obtain ⟨T16, X16, e16, st16⟩ := getF X15 hx hZ hown (host := "") (Or.inl w_30) Via.refl e15 F_supplies_x0 (g := (mkF m 198 #[rv x0, iv x1, iv x2, jv x3, .second, jv x4, .second, jv x5, .second, iv qa] [(.ref x0)])) rfl rfl (hb hby d13_198)
  refine Goes.st (B := T16.setTop (mkF m 201 #[rv x0, iv x1, iv x2, jv x3, .second, jv x4, .second, jv x5, .second, iv qa] [(.ref su)])) st16 ?_
  refine Goes.run X16 hx hown hci hcl hby (L := [(201, .iload_n 2, 1)]) (by decide +kernel) rfl (g' := (mkF m 202 #[rv x0, iv x1, iv x2, jv x3, .second, jv x4, .second, jv x5, .second, iv qa] [(.int x2), (.ref su)])) rfl ?_
  refine Goes.st (B := T16.setTop (mkF m 203 #[rv x0, iv x1, iv x2, jv x3, .second, jv x4, .second, jv x5, .second, iv qa] [(.int x2), (.ref su), (.int x2), (.ref su)])) (fun t k => ?_) ?_
  · refine Jvm.Free.XT.dup2 X16.here hx rfl (hb hby d13_202) rfl rfl rfl ?_
    exact k
  obtain ⟨cl17, Ar17, q17, S17, M17, Hs17, G17⟩ := id V_su
  have hin17 : ¬ (x2 < 0 ∨ cl17.slots.size ≤ (x2).toNatClampNeg) := inb_of S17 ⟨hT1, hT2⟩
  have hat17 : cl17.slots[(x2).toNatClampNeg]? = some (.long qv) := Hs17.at hin17 (by rw [hT]; exact hqv)
  refine Goes.st (B := T16.setTop (mkF m 204 #[rv x0, iv x1, iv x2, jv x3, .second, jv x4, .second, jv x5, .second, iv qa] [(.long qv), (.int x2), (.ref su)])) (X16.laload hx (j := x2) (v := (.long qv)) (by rw [e16]; exact Ar17.1) (State.isArrayOf_alike hZ.alike Ar17.2.1) Ar17.2.2 hin17 hat17 (g := (mkF m 203 #[rv x0, iv x1, iv x2, jv x3, .second, jv x4, .second, jv x5, .second, iv qa] [(.int x2), (.ref su), (.int x2), (.ref su)])) rfl rfl (hb hby d13_203)) ?_
  refine Goes.run X16 hx hown hci hcl hby (L := [(204, .lload_n 3, 1), (205, .ladd, 1)]) (by decide +kernel) rfl (g' := (mkF m 206 #[rv x0, iv x1, iv x2, jv x3, .second, jv x4, .second, jv x5, .second, iv qa] [(.long (qv + x3)), (.int x2), (.ref su)])) rfl ?_
  obtain ⟨cl18, Ar18, q18, S18, M18, Hs18, G18⟩ := id V_su
  have hin18 : ¬ (x2 < 0 ∨ cl18.slots.size ≤ (x2).toNatClampNeg) := inb_of S18 ⟨hT1, hT2⟩
  obtain ⟨T18, h18, X18, e18, W18, st18⟩ := stJ X16 hx hZ e16 Ar18 (j := x2) hin18 (g := (mkF m 206 #[rv x0, iv x1, iv x2, jv x3, .second, jv x4, .second, jv x5, .second, iv qa] [(.long (qv + x3)), (.int x2), (.ref su)])) rfl rfl (hb hby d13_206)
  have E_x0 := E_x0.wr W18
  have F_nodes_x0 := F_nodes_x0.other W18 (Or.inl ne_x0_su)
  have F_source_x0 := F_source_x0.other W18 (Or.inl ne_x0_su)
  have F_sink_x0 := F_sink_x0.other W18 (Or.inl ne_x0_su)
  have F_arcs_x0 := F_arcs_x0.other W18 (Or.inl ne_x0_su)
  have F_heads_x0 := F_heads_x0.other W18 (Or.inl ne_x0_su)
  have F_capacities_x0 := F_capacities_x0.other W18 (Or.inl ne_x0_su)
  have F_costs_x0 := F_costs_x0.other W18 (Or.inl ne_x0_su)
  have F_nextArcs_x0 := F_nextArcs_x0.other W18 (Or.inl ne_x0_su)
  have F_firstArcs_x0 := F_firstArcs_x0.other W18 (Or.inl ne_x0_su)
  have V_hd := V_hd.other W18 ne_hd_su
  have V_cp := V_cp.other W18 ne_cp_su
  have V_co := V_co.other W18 ne_co_su
  have V_nx := V_nx.other W18 ne_nx_su
  have V_fa := V_fa.other W18 ne_fa_su
  have F_lowers_x0 := F_lowers_x0.other W18 (Or.inl ne_x0_su)
  have F_supplies_x0 := F_supplies_x0.other W18 (Or.inl ne_x0_su)
  have V_lo := V_lo.other W18 ne_lo_su
  have Zn18 : n0 ≤ h18.size := Nat.le_trans Zn15 (Keep.of_wr W18).1
  have K18 := K15.wr W18 (Or.inl (List.mem_of_getElem? (i := 7) rfl))
  have N18 := Fr.snoc X18 N15 g_su
  have V_su : Arv Z h18 su ksu .long (4 : Int32) ((vS.set iF (.long (pv - x3))).set iT (.long (qv + x3))) (.long (0 : Int64)) := Arv.set Ar18 q18 S18 M18 Hs18 G18 rfl W18 iT hT (by rw [List.length_set]; exact hmS)
  refine Goes.st (B := T18.setTop (mkF m 207 #[rv x0, iv x1, iv x2, jv x3, .second, jv x4, .second, jv x5, .second, iv qa] [])) st18 ?_
  refine Goes.run X18 hx hown hci hcl hby (L := [(207, .iload 9, 2)]) (by decide +kernel) rfl (g' := (mkF m 209 #[rv x0, iv x1, iv x2, jv x3, .second, jv x4, .second, jv x5, .second, iv qa] [(.int qa)])) rfl ?_
  refine Goes.retI X18 hx hlk Bd.returns (hb hby d13_209) ?_ (by decide) (by decide)
  show (QJ Z x0 x1 x2 x3 x4 x5 hd cp co nx fa khd kcp kco knx kfa vH vN vC vK vF vL vS lo su klo ksu qa fv gv pv qv i0 i1 ia iF iT h0 n0) _ _ _
  rw [e18]
  exact ⟨rfl, N18, K18, E_x0, F_arcs_x0, F_nodes_x0, F_source_x0, F_sink_x0, F_heads_x0, F_capacities_x0, F_costs_x0, F_nextArcs_x0, F_firstArcs_x0, F_lowers_x0, F_supplies_x0, V_hd, V_cp, V_co, V_nx, V_fa, V_lo, V_su⟩
theorem d14_1 : decode prog_7_method_1_code 1 = .ok (.invokespecial 3, 3) := by decide +kernel
theorem d14_7 : decode prog_7_method_1_code 7 = .ok (.newarray .int, 2) := by decide +kernel
theorem d14_9 : decode prog_7_method_1_code 9 = .ok (.putfield 9, 3) := by decide +kernel
theorem d14_15 : decode prog_7_method_1_code 15 = .ok (.newarray .int, 2) := by decide +kernel
theorem d14_17 : decode prog_7_method_1_code 17 = .ok (.putfield 15, 3) := by decide +kernel
theorem d14_23 : decode prog_7_method_1_code 23 = .ok (.newarray .long, 2) := by decide +kernel
theorem d14_25 : decode prog_7_method_1_code 25 = .ok (.putfield 18, 3) := by decide +kernel
theorem d14_31 : decode prog_7_method_1_code 31 = .ok (.newarray .long, 2) := by decide +kernel
theorem d14_33 : decode prog_7_method_1_code 33 = .ok (.putfield 22, 3) := by decide +kernel
theorem d14_39 : decode prog_7_method_1_code 39 = .ok (.newarray .long, 2) := by decide +kernel
theorem d14_41 : decode prog_7_method_1_code 41 = .ok (.putfield 25, 3) := by decide +kernel
theorem d14_48 : decode prog_7_method_1_code 48 = .ok (.putfield 28, 3) := by decide +kernel
theorem d14_53 : decode prog_7_method_1_code 53 = .ok (.putfield 32, 3) := by decide +kernel
theorem d14_60 : decode prog_7_method_1_code 60 = .ok (.putfield 35, 3) := by decide +kernel
theorem d14_68 : decode prog_7_method_1_code 68 = .ok (.newarray .long, 2) := by decide +kernel
theorem d14_70 : decode prog_7_method_1_code 70 = .ok (.putfield 38, 3) := by decide +kernel
theorem d14_78 : decode prog_7_method_1_code 78 = .ok (.newarray .int, 2) := by decide +kernel
theorem d14_80 : decode prog_7_method_1_code 80 = .ok (.putfield 41, 3) := by decide +kernel
theorem d14_88 : decode prog_7_method_1_code 88 = .ok (.invokestatic 44, 3) := by decide +kernel
theorem d14_91 : decode prog_7_method_1_code 91 = .ok (.return_, 1) := by decide +kernel
theorem pnN : plainName "com/example/kubera/kubera/FlowNetwork" = true := by first | (simp [plainName, overriddenIn]; done) | decide +kernel
theorem pdN_0 : parseMethodDescriptor "([II)V" = some ⟨[(.array .int), .int], none⟩ := by decide +kernel
theorem efN (m : MethodId) (x0 : Addr) : entryFrame m #[(.ref x0), (.int 2)] 2 = (mkF m 0 #[rv x0, iv 2] []) := by first | (simp [entryFrame, mkF, argsToLocals, Value.category]; done) | rfl
def QN (Z : State) (x0 : Addr) (h0 : Heap) (n0 : Nat) (v : Option Value) (h : Heap) (L : List Loc) : Prop := ∃ (hd nx cp co lo su fa : Addr) (k_hd k_nx k_cp k_co k_lo k_su k_fa : ClassId), v = none ∧ Fr n0 L ∧ Keep h0 h [x0] ∧ h0.size ≤ hd ∧ h0.size ≤ nx ∧ h0.size ≤ cp ∧ h0.size ≤ co ∧ h0.size ≤ lo ∧ h0.size ≤ su ∧ h0.size ≤ fa ∧ hd ≠ nx ∧ hd ≠ cp ∧ hd ≠ co ∧ hd ≠ lo ∧ hd ≠ su ∧ hd ≠ fa ∧ nx ≠ cp ∧ nx ≠ co ∧ nx ≠ lo ∧ nx ≠ su ∧ nx ≠ fa ∧ cp ≠ co ∧ cp ≠ lo ∧ cp ≠ su ∧ cp ≠ fa ∧ co ≠ lo ∧ co ≠ su ∧ co ≠ fa ∧ lo ≠ su ∧ lo ≠ fa ∧ su ≠ fa ∧ Exa Z h x0 "com/example/kubera/kubera/FlowNetwork" ∧ Fld Z h x0 "com/example/kubera/kubera/FlowNetwork" "nodes" "I" (.int 4) ∧ Fld Z h x0 "com/example/kubera/kubera/FlowNetwork" "source" "I" (.int 2) ∧ Fld Z h x0 "com/example/kubera/kubera/FlowNetwork" "sink" "I" (.int 3) ∧ Fld Z h x0 "com/example/kubera/kubera/FlowNetwork" "supplies" "[J" (.ref su) ∧ Fld Z h x0 "com/example/kubera/kubera/FlowNetwork" "firstArcs" "[I" (.ref fa) ∧ Fld Z h x0 "com/example/kubera/kubera/FlowNetwork" "arcs" "I" (.int 0) ∧ Fld Z h x0 "com/example/kubera/kubera/FlowNetwork" "heads" "[I" (.ref hd) ∧ Fld Z h x0 "com/example/kubera/kubera/FlowNetwork" "nextArcs" "[I" (.ref nx) ∧ Fld Z h x0 "com/example/kubera/kubera/FlowNetwork" "capacities" "[J" (.ref cp) ∧ Fld Z h x0 "com/example/kubera/kubera/FlowNetwork" "costs" "[J" (.ref co) ∧ Fld Z h x0 "com/example/kubera/kubera/FlowNetwork" "lowers" "[J" (.ref lo) ∧ Arv Z h hd k_hd .int (16 : Int32) [(.int 0), (.int 0), (.int 0), (.int 0), (.int 0), (.int 0), (.int 0), (.int 0)] (.int 0) ∧ Arv Z h nx k_nx .int (16 : Int32) [(.int 0), (.int 0), (.int 0), (.int 0), (.int 0), (.int 0), (.int 0), (.int 0)] (.int 0) ∧ Arv Z h cp k_cp .long (16 : Int32) [(.long 0), (.long 0), (.long 0), (.long 0), (.long 0), (.long 0), (.long 0), (.long 0)] (.long 0) ∧ Arv Z h co k_co .long (16 : Int32) [(.long 0), (.long 0), (.long 0), (.long 0), (.long 0), (.long 0), (.long 0), (.long 0)] (.long 0) ∧ Arv Z h lo k_lo .long (8 : Int32) [(.long 0), (.long 0), (.long 0), (.long 0)] (.long 0) ∧ Arv Z h su k_su .long (4 : Int32) [(.long 0), (.long 0), (.long 0), (.long 0)] (.long 0) ∧ Arv Z h fa k_fa .int (4 : Int32) [(.int (-1)), (.int (-1)), (.int (-1)), (.int (-1))] (.int (0 : Int32))
set_option maxRecDepth 65536 in
set_option maxHeartbeats 40000000 in
theorem rmN (l : Launch) (Z : State) (a0 : Array Value) (hw : ∀ d ∈ tables_1, d.before a0 Z = true) (ws : List Jvm.Cond) (x0 : Addr) (h0 : Heap) (n0 : Nat) (Z0 : n0 ≤ h0.size) (E_x0 : Exa Z h0 x0 "com/example/kubera/kubera/FlowNetwork") (F_nodes_x0 : Fld Z h0 x0 "com/example/kubera/kubera/FlowNetwork" "nodes" "I" (.int 0)) (F_source_x0 : Fld Z h0 x0 "com/example/kubera/kubera/FlowNetwork" "source" "I" (.int 0)) (F_sink_x0 : Fld Z h0 x0 "com/example/kubera/kubera/FlowNetwork" "sink" "I" (.int 0)) (F_supplies_x0 : Fld Z h0 x0 "com/example/kubera/kubera/FlowNetwork" "supplies" "[J" .null) (F_firstArcs_x0 : Fld Z h0 x0 "com/example/kubera/kubera/FlowNetwork" "firstArcs" "[I" .null) (F_arcs_x0 : Fld Z h0 x0 "com/example/kubera/kubera/FlowNetwork" "arcs" "I" (.int 0)) (F_heads_x0 : Fld Z h0 x0 "com/example/kubera/kubera/FlowNetwork" "heads" "[I" .null) (F_nextArcs_x0 : Fld Z h0 x0 "com/example/kubera/kubera/FlowNetwork" "nextArcs" "[I" .null) (F_capacities_x0 : Fld Z h0 x0 "com/example/kubera/kubera/FlowNetwork" "capacities" "[J" .null) (F_costs_x0 : Fld Z h0 x0 "com/example/kubera/kubera/FlowNetwork" "costs" "[J" .null) (F_lowers_x0 : Fld Z h0 x0 "com/example/kubera/kubera/FlowNetwork" "lowers" "[J" .null) (g_x0 : n0 ≤ x0) :
    MetFree l ym13 (head1 (Jvm.Cond.code ym13 prog_7_method_1_code 2 none :: ws) ({ frames := 1, cells := 7, slots := 80, locals := 15 } : Room)) (fun a U => a = #[(.ref x0), (.int 2)] ∧ Z.Warmed39 U.vm ∧ U.heap = h0) (fun _ _ _ _ _ => True) (fun _ U o U' => ∃ v L, o = .returned v ∧ (QN Z x0 h0 n0) v U'.heap L ∧ FrameEnd U o U' L ({ frames := 1, cells := 7, slots := 80, locals := 15 } : Room).cells ({ frames := 1, cells := 7, slots := 80, locals := 15 } : Room).slots) := by
  refine MetFree.of_bodySF (plainFor_of_name pnN) hisR ?_
  intro p e s m args below meth c s₁ Bd hml0 hP hK
  obtain ⟨rfl, hZ, hh⟩ := hP
  have hx := Bd.exec
  have hby := Bd.bytes
  have hml : c.maxLocals = 2 := hml0
  have hlk : meth.locks = false := BodyLoose.notSynchronized Bd
  have hown : s.vm.findClass "com/example/kubera/kubera/FlowNetwork" = some m.cls := findClass_of_methodNamed Bd.named
  have hnm := (name_of_methodNamed Bd.named Bd.method).1
  have w_4 := hw _ (List.mem_of_getElem? (i := 4) rfl)
  have w_9 := hw _ (List.mem_of_getElem? (i := 9) rfl)
  have w_10 := hw _ (List.mem_of_getElem? (i := 10) rfl)
  have w_11 := hw _ (List.mem_of_getElem? (i := 11) rfl)
  have w_12 := hw _ (List.mem_of_getElem? (i := 12) rfl)
  have w_13 := hw _ (List.mem_of_getElem? (i := 13) rfl)
  have w_14 := hw _ (List.mem_of_getElem? (i := 14) rfl)
  have w_15 := hw _ (List.mem_of_getElem? (i := 15) rfl)
  have w_16 := hw _ (List.mem_of_getElem? (i := 16) rfl)
  have w_17 := hw _ (List.mem_of_getElem? (i := 17) rfl)
  have w_18 := hw _ (List.mem_of_getElem? (i := 18) rfl)
  have w_19 := hw _ (List.mem_of_getElem? (i := 19) rfl)
  have w_20 := hw _ (List.mem_of_getElem? (i := 20) rfl)
  have w_21 := hw _ (List.mem_of_getElem? (i := 21) rfl)
  have w_22 := hw _ (List.mem_of_getElem? (i := 22) rfl)
  have w_23 := hw _ (List.mem_of_getElem? (i := 23) rfl)
  have w_24 := hw _ (List.mem_of_getElem? (i := 24) rfl)
  have w_25 := hw _ (List.mem_of_getElem? (i := 25) rfl)
  have w_26 := hw _ (List.mem_of_getElem? (i := 26) rfl)
  have w_27 := hw _ (List.mem_of_getElem? (i := 27) rfl)
  have w_28 := hw _ (List.mem_of_getElem? (i := 28) rfl)
  have w_29 := hw _ (List.mem_of_getElem? (i := 29) rfl)
  have w_30 := hw _ (List.mem_of_getElem? (i := 30) rfl)
  have w_31 := hw _ (List.mem_of_getElem? (i := 31) rfl)
  have w_32 := hw _ (List.mem_of_getElem? (i := 32) rfl)
  have w_33 := hw _ (List.mem_of_getElem? (i := 33) rfl)
  have w_34 := hw _ (List.mem_of_getElem? (i := 34) rfl)
  have w_35 := hw _ (List.mem_of_getElem? (i := 35) rfl)
  have w_36 := hw _ (List.mem_of_getElem? (i := 36) rfl)
  have w_37 := hw _ (List.mem_of_getElem? (i := 37) rfl)
  have w_44 := hw _ (List.mem_of_getElem? (i := 44) rfl)
  have w_73 := hw _ (List.mem_of_getElem? (i := 73) rfl)
  have w_121 := hw _ (List.mem_of_getElem? (i := 121) rfl)
  have hci : ∀ i v, (i, v) ∈ ([] : List (Nat × Int32)) → (Jvm.Cond.constant "com/example/kubera/kubera/FlowNetwork" i v).before #[(.ref x0), (.int 2)] s = true := own_ci0
  have hcl : ∀ i v, (i, v) ∈ ([(87, 9223372036854775807), (119, 2305843009213693951)] : List (Nat × Int64)) → (Jvm.Cond.constantLong "com/example/kubera/kubera/FlowNetwork" i v).before #[(.ref x0), (.int 2)] s = true := (own_ciS (mvT hZ w_73) (own_ciS (mvT hZ w_121) own_ci0))
  have X0 : Stand p l e ({ frames := 1, cells := 7, slots := 80, locals := 15 } : Room) s m #[(.ref x0), (.int 2)] below meth c s₁ [] 0 0 := Stand.of_body Bd
  have e0 : s₁.heap = h0 := by rw [← hh, Bd.state]; rfl
  have N0 := Fr.nil n0
  show Goes p e below s (QN Z x0 h0 n0) ({ frames := 1, cells := 7, slots := 80, locals := 15 } : Room).cells ({ frames := 1, cells := 7, slots := 80, locals := 15 } : Room).slots (s₁.setTop (entryFrame m #[(.ref x0), (.int 2)] 2))
  refine Goes.cast (efN m x0) ?_
  have hLK := own_lk2_ok hw
  have CX := Cx.mk hx hZ hown hci hcl hLK hby
  have K0 : Keep h0 h0 [x0] := Keep.refl h0 _
  refine Goes.run X0 hx hown hci hcl hby (L := [(0, .aload_n 0, 1)]) (by decide +kernel) rfl (g' := (mkF m 1 #[rv x0, iv 2] [(.ref x0)])) rfl ?_
  obtain ⟨T1, X1, e1, st1⟩ := initO X0 hx hZ hown w_9 w_10 w_11 e0 (g := (mkF m 1 #[rv x0, iv 2] [(.ref x0)])) rfl (by rw [hml]; rfl) rfl (hb hby d14_1) (by decide) (W := 0) (by show 2 * 0 + _ ≤ _; exact Nat.le_of_eq rfl) (by decide)
  refine Goes.st st1 ?_
  refine Goes.run X1 hx hown hci hcl hby (L := [(4, .aload_n 0, 1), (5, .bipush 16, 2)]) (by decide +kernel) rfl (g' := (mkF m 7 #[rv x0, iv 2] [(.int 16), (.ref x0)])) rfl ?_
  obtain ⟨T2, h2, k2, X2, e2, E2, A2, B2, st2⟩ := newPE X1 hx hZ (aty := .int) w_12 e1 (g := (mkF m 7 #[rv x0, iv 2] [(.int 16), (.ref x0)])) rfl (hb hby d14_7) rfl (by decide) (cap := 16) (by decide) (by decide) (by decide) (by decide) (ad := "[I") (by decide)
  obtain ⟨b2, g2⟩ : ∃ z, z = h0.size := ⟨_, rfl⟩
  rw [← g2] at A2 B2 st2
  have ne_x0_b2 : x0 ≠ b2 := Nat.ne_of_lt (Nat.lt_of_lt_of_le E_x0.lt (Nat.le_of_eq g2.symm))
  have g_b2 : n0 ≤ b2 := Nat.le_trans Z0 (Nat.le_of_eq g2.symm)
  have sz_b2 : h0.size ≤ b2 := Nat.le_trans K0.1 (Nat.le_of_eq g2.symm)
  have E_x0 := E_x0.ext E2
  have F_nodes_x0 := F_nodes_x0.ext E2
  have F_source_x0 := F_source_x0.ext E2
  have F_sink_x0 := F_sink_x0.ext E2
  have F_supplies_x0 := F_supplies_x0.ext E2
  have F_firstArcs_x0 := F_firstArcs_x0.ext E2
  have F_arcs_x0 := F_arcs_x0.ext E2
  have F_heads_x0 := F_heads_x0.ext E2
  have F_nextArcs_x0 := F_nextArcs_x0.ext E2
  have F_capacities_x0 := F_capacities_x0.ext E2
  have F_costs_x0 := F_costs_x0.ext E2
  have F_lowers_x0 := F_lowers_x0.ext E2
  have K2 := K0.ext E2
  have E_b2 : Exa Z h2 b2 "[I" := B2
  have V_b2 : Arv Z h2 b2 k2 .int (16 : Int32) [(.int 0), (.int 0), (.int 0), (.int 0), (.int 0), (.int 0), (.int 0), (.int 0)] (.int 0) := (Arv.new A2 (by decide)).pad (pad_rep [] (.int 0) 8)
  refine Goes.st st2 ?_
  obtain ⟨T3, h3, X3, e3, W3, st3⟩ := putF X2 hx hZ hown (host := "") (Or.inl w_13) Via.refl e2 F_heads_x0 E_x0 (Or.inl w_14) w_4 (ty := (.array .int)) (by decide) rfl rfl (g := (mkF m 9 #[rv x0, iv 2] [(.ref b2), (.ref x0)])) rfl rfl (hb hby d14_9)
  have E_x0 := E_x0.wr W3
  have F_nodes_x0 := own_oth F_nodes_x0 W3 (Or.inr w_25) (Or.inl w_14)
  have F_source_x0 := own_oth F_source_x0 W3 (Or.inr w_27) (Or.inl w_14)
  have F_sink_x0 := own_oth F_sink_x0 W3 (Or.inr w_29) (Or.inl w_14)
  have F_supplies_x0 := own_oth F_supplies_x0 W3 (Or.inr w_31) (Or.inl w_14)
  have F_firstArcs_x0 := own_oth F_firstArcs_x0 W3 (Or.inr w_33) (Or.inl w_14)
  have F_arcs_x0 := own_oth F_arcs_x0 W3 (Or.inl w_44) (Or.inl w_14)
  have F_heads_x0 : Fld Z h3 x0 "com/example/kubera/kubera/FlowNetwork" "heads" "[I" (.ref b2) := F_heads_x0.same W3
  have F_nextArcs_x0 := own_oth F_nextArcs_x0 W3 (Or.inl w_16) (Or.inl w_14)
  have F_capacities_x0 := own_oth F_capacities_x0 W3 (Or.inl w_19) (Or.inl w_14)
  have F_costs_x0 := own_oth F_costs_x0 W3 (Or.inl w_21) (Or.inl w_14)
  have F_lowers_x0 := own_oth F_lowers_x0 W3 (Or.inl w_23) (Or.inl w_14)
  have E_b2 := E_b2.wr W3
  have V_b2 := V_b2.other W3 (Ne.symm ne_x0_b2)
  have K3 := K2.wr W3 (Or.inl (List.mem_of_getElem? (i := 0) rfl))
  have N3 := Fr.snoc X3 N0 g_x0
  refine Goes.st st3 ?_
  refine Goes.run X3 hx hown hci hcl hby (L := [(12, .aload_n 0, 1), (13, .bipush 16, 2)]) (by decide +kernel) rfl (g' := (mkF m 15 #[rv x0, iv 2] [(.int 16), (.ref x0)])) rfl ?_
  obtain ⟨T4, h4, k4, X4, e4, E4, A4, B4, st4⟩ := newPE X3 hx hZ (aty := .int) w_12 e3 (g := (mkF m 15 #[rv x0, iv 2] [(.int 16), (.ref x0)])) rfl (hb hby d14_15) rfl (by decide) (cap := 16) (by decide) (by decide) (by decide) (by decide) (ad := "[I") (by decide)
  obtain ⟨b4, g4⟩ : ∃ z, z = h3.size := ⟨_, rfl⟩
  rw [← g4] at A4 B4 st4
  have ne_b2_b4 : b2 ≠ b4 := Nat.ne_of_lt (Nat.lt_of_lt_of_le E_b2.lt (Nat.le_of_eq g4.symm))
  have ne_x0_b4 : x0 ≠ b4 := Nat.ne_of_lt (Nat.lt_of_lt_of_le E_x0.lt (Nat.le_of_eq g4.symm))
  have g_b4 : n0 ≤ b4 := Nat.le_trans (Nat.le_trans Z0 K3.1) (Nat.le_of_eq g4.symm)
  have sz_b4 : h0.size ≤ b4 := Nat.le_trans K3.1 (Nat.le_of_eq g4.symm)
  have E_x0 := E_x0.ext E4
  have F_nodes_x0 := F_nodes_x0.ext E4
  have F_source_x0 := F_source_x0.ext E4
  have F_sink_x0 := F_sink_x0.ext E4
  have F_supplies_x0 := F_supplies_x0.ext E4
  have F_firstArcs_x0 := F_firstArcs_x0.ext E4
  have F_arcs_x0 := F_arcs_x0.ext E4
  have F_heads_x0 := F_heads_x0.ext E4
  have F_nextArcs_x0 := F_nextArcs_x0.ext E4
  have F_capacities_x0 := F_capacities_x0.ext E4
  have F_costs_x0 := F_costs_x0.ext E4
  have F_lowers_x0 := F_lowers_x0.ext E4
  have E_b2 := E_b2.ext E4
  have V_b2 := V_b2.ext E4
  have K4 := K3.ext E4
  have E_b4 : Exa Z h4 b4 "[I" := B4
  have V_b4 : Arv Z h4 b4 k4 .int (16 : Int32) [(.int 0), (.int 0), (.int 0), (.int 0), (.int 0), (.int 0), (.int 0), (.int 0)] (.int 0) := (Arv.new A4 (by decide)).pad (pad_rep [] (.int 0) 8)
  refine Goes.st st4 ?_
  obtain ⟨T5, h5, X5, e5, W5, st5⟩ := putF X4 hx hZ hown (host := "") (Or.inl w_15) Via.refl e4 F_nextArcs_x0 E_x0 (Or.inl w_16) w_4 (ty := (.array .int)) (by decide) rfl rfl (g := (mkF m 17 #[rv x0, iv 2] [(.ref b4), (.ref x0)])) rfl rfl (hb hby d14_17)
  have E_x0 := E_x0.wr W5
  have F_nodes_x0 := own_oth F_nodes_x0 W5 (Or.inr w_25) (Or.inl w_16)
  have F_source_x0 := own_oth F_source_x0 W5 (Or.inr w_27) (Or.inl w_16)
  have F_sink_x0 := own_oth F_sink_x0 W5 (Or.inr w_29) (Or.inl w_16)
  have F_supplies_x0 := own_oth F_supplies_x0 W5 (Or.inr w_31) (Or.inl w_16)
  have F_firstArcs_x0 := own_oth F_firstArcs_x0 W5 (Or.inr w_33) (Or.inl w_16)
  have F_arcs_x0 := own_oth F_arcs_x0 W5 (Or.inl w_44) (Or.inl w_16)
  have F_heads_x0 := own_oth F_heads_x0 W5 (Or.inl w_14) (Or.inl w_16)
  have F_nextArcs_x0 : Fld Z h5 x0 "com/example/kubera/kubera/FlowNetwork" "nextArcs" "[I" (.ref b4) := F_nextArcs_x0.same W5
  have F_capacities_x0 := own_oth F_capacities_x0 W5 (Or.inl w_19) (Or.inl w_16)
  have F_costs_x0 := own_oth F_costs_x0 W5 (Or.inl w_21) (Or.inl w_16)
  have F_lowers_x0 := own_oth F_lowers_x0 W5 (Or.inl w_23) (Or.inl w_16)
  have E_b2 := E_b2.wr W5
  have V_b2 := V_b2.other W5 (Ne.symm ne_x0_b2)
  have E_b4 := E_b4.wr W5
  have V_b4 := V_b4.other W5 (Ne.symm ne_x0_b4)
  have K5 := K4.wr W5 (Or.inl (List.mem_of_getElem? (i := 0) rfl))
  have N5 := Fr.snoc X5 N3 g_x0
  refine Goes.st st5 ?_
  refine Goes.run X5 hx hown hci hcl hby (L := [(20, .aload_n 0, 1), (21, .bipush 16, 2)]) (by decide +kernel) rfl (g' := (mkF m 23 #[rv x0, iv 2] [(.int 16), (.ref x0)])) rfl ?_
  obtain ⟨T6, h6, k6, X6, e6, E6, A6, B6, st6⟩ := newPE X5 hx hZ (aty := .long) w_17 e5 (g := (mkF m 23 #[rv x0, iv 2] [(.int 16), (.ref x0)])) rfl (hb hby d14_23) rfl (by decide) (cap := 16) (by decide) (by decide) (by decide) (by decide) (ad := "[J") (by decide)
  obtain ⟨b6, g6⟩ : ∃ z, z = h5.size := ⟨_, rfl⟩
  rw [← g6] at A6 B6 st6
  have ne_b4_b6 : b4 ≠ b6 := Nat.ne_of_lt (Nat.lt_of_lt_of_le E_b4.lt (Nat.le_of_eq g6.symm))
  have ne_b2_b6 : b2 ≠ b6 := Nat.ne_of_lt (Nat.lt_of_lt_of_le E_b2.lt (Nat.le_of_eq g6.symm))
  have ne_x0_b6 : x0 ≠ b6 := Nat.ne_of_lt (Nat.lt_of_lt_of_le E_x0.lt (Nat.le_of_eq g6.symm))
  have g_b6 : n0 ≤ b6 := Nat.le_trans (Nat.le_trans Z0 K5.1) (Nat.le_of_eq g6.symm)
  have sz_b6 : h0.size ≤ b6 := Nat.le_trans K5.1 (Nat.le_of_eq g6.symm)
  have E_x0 := E_x0.ext E6
  have F_nodes_x0 := F_nodes_x0.ext E6
  have F_source_x0 := F_source_x0.ext E6
  have F_sink_x0 := F_sink_x0.ext E6
  have F_supplies_x0 := F_supplies_x0.ext E6
  have F_firstArcs_x0 := F_firstArcs_x0.ext E6
  have F_arcs_x0 := F_arcs_x0.ext E6
  have F_heads_x0 := F_heads_x0.ext E6
  have F_nextArcs_x0 := F_nextArcs_x0.ext E6
  have F_capacities_x0 := F_capacities_x0.ext E6
  have F_costs_x0 := F_costs_x0.ext E6
  have F_lowers_x0 := F_lowers_x0.ext E6
  have E_b2 := E_b2.ext E6
  have V_b2 := V_b2.ext E6
  have E_b4 := E_b4.ext E6
  have V_b4 := V_b4.ext E6
  have K6 := K5.ext E6
  have E_b6 : Exa Z h6 b6 "[J" := B6
  have V_b6 : Arv Z h6 b6 k6 .long (16 : Int32) [(.long 0), (.long 0), (.long 0), (.long 0), (.long 0), (.long 0), (.long 0), (.long 0)] (.long 0) := (Arv.new A6 (by decide)).pad (pad_rep [] (.long 0) 8)
  refine Goes.st st6 ?_
  obtain ⟨T7, h7, X7, e7, W7, st7⟩ := putF X6 hx hZ hown (host := "") (Or.inl w_18) Via.refl e6 F_capacities_x0 E_x0 (Or.inl w_19) w_4 (ty := (.array .long)) (by decide) rfl rfl (g := (mkF m 25 #[rv x0, iv 2] [(.ref b6), (.ref x0)])) rfl rfl (hb hby d14_25)
  have E_x0 := E_x0.wr W7
  have F_nodes_x0 := own_oth F_nodes_x0 W7 (Or.inr w_25) (Or.inl w_19)
  have F_source_x0 := own_oth F_source_x0 W7 (Or.inr w_27) (Or.inl w_19)
  have F_sink_x0 := own_oth F_sink_x0 W7 (Or.inr w_29) (Or.inl w_19)
  have F_supplies_x0 := own_oth F_supplies_x0 W7 (Or.inr w_31) (Or.inl w_19)
  have F_firstArcs_x0 := own_oth F_firstArcs_x0 W7 (Or.inr w_33) (Or.inl w_19)
  have F_arcs_x0 := own_oth F_arcs_x0 W7 (Or.inl w_44) (Or.inl w_19)
  have F_heads_x0 := own_oth F_heads_x0 W7 (Or.inl w_14) (Or.inl w_19)
  have F_nextArcs_x0 := own_oth F_nextArcs_x0 W7 (Or.inl w_16) (Or.inl w_19)
  have F_capacities_x0 : Fld Z h7 x0 "com/example/kubera/kubera/FlowNetwork" "capacities" "[J" (.ref b6) := F_capacities_x0.same W7
  have F_costs_x0 := own_oth F_costs_x0 W7 (Or.inl w_21) (Or.inl w_19)
  have F_lowers_x0 := own_oth F_lowers_x0 W7 (Or.inl w_23) (Or.inl w_19)
  have E_b2 := E_b2.wr W7
  have V_b2 := V_b2.other W7 (Ne.symm ne_x0_b2)
  have E_b4 := E_b4.wr W7
  have V_b4 := V_b4.other W7 (Ne.symm ne_x0_b4)
  have E_b6 := E_b6.wr W7
  have V_b6 := V_b6.other W7 (Ne.symm ne_x0_b6)
  have K7 := K6.wr W7 (Or.inl (List.mem_of_getElem? (i := 0) rfl))
  have N7 := Fr.snoc X7 N5 g_x0
  refine Goes.st st7 ?_
  refine Goes.run X7 hx hown hci hcl hby (L := [(28, .aload_n 0, 1), (29, .bipush 16, 2)]) (by decide +kernel) rfl (g' := (mkF m 31 #[rv x0, iv 2] [(.int 16), (.ref x0)])) rfl ?_
  obtain ⟨T8, h8, k8, X8, e8, E8, A8, B8, st8⟩ := newPE X7 hx hZ (aty := .long) w_17 e7 (g := (mkF m 31 #[rv x0, iv 2] [(.int 16), (.ref x0)])) rfl (hb hby d14_31) rfl (by decide) (cap := 16) (by decide) (by decide) (by decide) (by decide) (ad := "[J") (by decide)
  obtain ⟨b8, g8⟩ : ∃ z, z = h7.size := ⟨_, rfl⟩
  rw [← g8] at A8 B8 st8
  have ne_b6_b8 : b6 ≠ b8 := Nat.ne_of_lt (Nat.lt_of_lt_of_le E_b6.lt (Nat.le_of_eq g8.symm))
  have ne_b4_b8 : b4 ≠ b8 := Nat.ne_of_lt (Nat.lt_of_lt_of_le E_b4.lt (Nat.le_of_eq g8.symm))
  have ne_b2_b8 : b2 ≠ b8 := Nat.ne_of_lt (Nat.lt_of_lt_of_le E_b2.lt (Nat.le_of_eq g8.symm))
  have ne_x0_b8 : x0 ≠ b8 := Nat.ne_of_lt (Nat.lt_of_lt_of_le E_x0.lt (Nat.le_of_eq g8.symm))
  have g_b8 : n0 ≤ b8 := Nat.le_trans (Nat.le_trans Z0 K7.1) (Nat.le_of_eq g8.symm)
  have sz_b8 : h0.size ≤ b8 := Nat.le_trans K7.1 (Nat.le_of_eq g8.symm)
  have E_x0 := E_x0.ext E8
  have F_nodes_x0 := F_nodes_x0.ext E8
  have F_source_x0 := F_source_x0.ext E8
  have F_sink_x0 := F_sink_x0.ext E8
  have F_supplies_x0 := F_supplies_x0.ext E8
  have F_firstArcs_x0 := F_firstArcs_x0.ext E8
  have F_arcs_x0 := F_arcs_x0.ext E8
  have F_heads_x0 := F_heads_x0.ext E8
  have F_nextArcs_x0 := F_nextArcs_x0.ext E8
  have F_capacities_x0 := F_capacities_x0.ext E8
  have F_costs_x0 := F_costs_x0.ext E8
  have F_lowers_x0 := F_lowers_x0.ext E8
  have E_b2 := E_b2.ext E8
  have V_b2 := V_b2.ext E8
  have E_b4 := E_b4.ext E8
  have V_b4 := V_b4.ext E8
  have E_b6 := E_b6.ext E8
  have V_b6 := V_b6.ext E8
  have K8 := K7.ext E8
  have E_b8 : Exa Z h8 b8 "[J" := B8
  have V_b8 : Arv Z h8 b8 k8 .long (16 : Int32) [(.long 0), (.long 0), (.long 0), (.long 0), (.long 0), (.long 0), (.long 0), (.long 0)] (.long 0) := (Arv.new A8 (by decide)).pad (pad_rep [] (.long 0) 8)
  refine Goes.st st8 ?_
  obtain ⟨T9, h9, X9, e9, W9, st9⟩ := putF X8 hx hZ hown (host := "") (Or.inl w_20) Via.refl e8 F_costs_x0 E_x0 (Or.inl w_21) w_4 (ty := (.array .long)) (by decide) rfl rfl (g := (mkF m 33 #[rv x0, iv 2] [(.ref b8), (.ref x0)])) rfl rfl (hb hby d14_33)
  have E_x0 := E_x0.wr W9
  have F_nodes_x0 := own_oth F_nodes_x0 W9 (Or.inr w_25) (Or.inl w_21)
  have F_source_x0 := own_oth F_source_x0 W9 (Or.inr w_27) (Or.inl w_21)
  have F_sink_x0 := own_oth F_sink_x0 W9 (Or.inr w_29) (Or.inl w_21)
  have F_supplies_x0 := own_oth F_supplies_x0 W9 (Or.inr w_31) (Or.inl w_21)
  have F_firstArcs_x0 := own_oth F_firstArcs_x0 W9 (Or.inr w_33) (Or.inl w_21)
  have F_arcs_x0 := own_oth F_arcs_x0 W9 (Or.inl w_44) (Or.inl w_21)
  have F_heads_x0 := own_oth F_heads_x0 W9 (Or.inl w_14) (Or.inl w_21)
  have F_nextArcs_x0 := own_oth F_nextArcs_x0 W9 (Or.inl w_16) (Or.inl w_21)
  have F_capacities_x0 := own_oth F_capacities_x0 W9 (Or.inl w_19) (Or.inl w_21)
  have F_costs_x0 : Fld Z h9 x0 "com/example/kubera/kubera/FlowNetwork" "costs" "[J" (.ref b8) := F_costs_x0.same W9
  have F_lowers_x0 := own_oth F_lowers_x0 W9 (Or.inl w_23) (Or.inl w_21)
  have E_b2 := E_b2.wr W9
  have V_b2 := V_b2.other W9 (Ne.symm ne_x0_b2)
  have E_b4 := E_b4.wr W9
  have V_b4 := V_b4.other W9 (Ne.symm ne_x0_b4)
  have E_b6 := E_b6.wr W9
  have V_b6 := V_b6.other W9 (Ne.symm ne_x0_b6)
  have E_b8 := E_b8.wr W9
  have V_b8 := V_b8.other W9 (Ne.symm ne_x0_b8)
  have K9 := K8.wr W9 (Or.inl (List.mem_of_getElem? (i := 0) rfl))
  have N9 := Fr.snoc X9 N7 g_x0
  refine Goes.st st9 ?_
  refine Goes.run X9 hx hown hci hcl hby (L := [(36, .aload_n 0, 1), (37, .bipush 8, 2)]) (by decide +kernel) rfl (g' := (mkF m 39 #[rv x0, iv 2] [(.int 8), (.ref x0)])) rfl ?_
  obtain ⟨T10, h10, k10, X10, e10, E10, A10, B10, st10⟩ := newPE X9 hx hZ (aty := .long) w_17 e9 (g := (mkF m 39 #[rv x0, iv 2] [(.int 8), (.ref x0)])) rfl (hb hby d14_39) rfl (by decide) (cap := 8) (by decide) (by decide) (by decide) (by decide) (ad := "[J") (by decide)
  obtain ⟨b10, g10⟩ : ∃ z, z = h9.size := ⟨_, rfl⟩
  rw [← g10] at A10 B10 st10
  have ne_b4_b10 : b4 ≠ b10 := Nat.ne_of_lt (Nat.lt_of_lt_of_le E_b4.lt (Nat.le_of_eq g10.symm))
  have ne_b6_b10 : b6 ≠ b10 := Nat.ne_of_lt (Nat.lt_of_lt_of_le E_b6.lt (Nat.le_of_eq g10.symm))
  have ne_b8_b10 : b8 ≠ b10 := Nat.ne_of_lt (Nat.lt_of_lt_of_le E_b8.lt (Nat.le_of_eq g10.symm))
  have ne_b2_b10 : b2 ≠ b10 := Nat.ne_of_lt (Nat.lt_of_lt_of_le E_b2.lt (Nat.le_of_eq g10.symm))
  have ne_x0_b10 : x0 ≠ b10 := Nat.ne_of_lt (Nat.lt_of_lt_of_le E_x0.lt (Nat.le_of_eq g10.symm))
  have g_b10 : n0 ≤ b10 := Nat.le_trans (Nat.le_trans Z0 K9.1) (Nat.le_of_eq g10.symm)
  have sz_b10 : h0.size ≤ b10 := Nat.le_trans K9.1 (Nat.le_of_eq g10.symm)
  have E_x0 := E_x0.ext E10
  have F_nodes_x0 := F_nodes_x0.ext E10
  have F_source_x0 := F_source_x0.ext E10
  have F_sink_x0 := F_sink_x0.ext E10
  have F_supplies_x0 := F_supplies_x0.ext E10
  have F_firstArcs_x0 := F_firstArcs_x0.ext E10
  have F_arcs_x0 := F_arcs_x0.ext E10
  have F_heads_x0 := F_heads_x0.ext E10
  have F_nextArcs_x0 := F_nextArcs_x0.ext E10
  have F_capacities_x0 := F_capacities_x0.ext E10
  have F_costs_x0 := F_costs_x0.ext E10
  have F_lowers_x0 := F_lowers_x0.ext E10
  have E_b2 := E_b2.ext E10
  have V_b2 := V_b2.ext E10
  have E_b4 := E_b4.ext E10
  have V_b4 := V_b4.ext E10
  have E_b6 := E_b6.ext E10
  have V_b6 := V_b6.ext E10
  have E_b8 := E_b8.ext E10
  have V_b8 := V_b8.ext E10
  have K10 := K9.ext E10
  have E_b10 : Exa Z h10 b10 "[J" := B10
  have V_b10 : Arv Z h10 b10 k10 .long (8 : Int32) [(.long 0), (.long 0), (.long 0), (.long 0)] (.long 0) := (Arv.new A10 (by decide)).pad (pad_rep [] (.long 0) 4)
  refine Goes.st st10 ?_
  obtain ⟨T11, h11, X11, e11, W11, st11⟩ := putF X10 hx hZ hown (host := "") (Or.inl w_22) Via.refl e10 F_lowers_x0 E_x0 (Or.inl w_23) w_4 (ty := (.array .long)) (by decide) rfl rfl (g := (mkF m 41 #[rv x0, iv 2] [(.ref b10), (.ref x0)])) rfl rfl (hb hby d14_41)
  have E_x0 := E_x0.wr W11
  have F_nodes_x0 := own_oth F_nodes_x0 W11 (Or.inr w_25) (Or.inl w_23)
  have F_source_x0 := own_oth F_source_x0 W11 (Or.inr w_27) (Or.inl w_23)
  have F_sink_x0 := own_oth F_sink_x0 W11 (Or.inr w_29) (Or.inl w_23)
  have F_supplies_x0 := own_oth F_supplies_x0 W11 (Or.inr w_31) (Or.inl w_23)
  have F_firstArcs_x0 := own_oth F_firstArcs_x0 W11 (Or.inr w_33) (Or.inl w_23)
  have F_arcs_x0 := own_oth F_arcs_x0 W11 (Or.inl w_44) (Or.inl w_23)
  have F_heads_x0 := own_oth F_heads_x0 W11 (Or.inl w_14) (Or.inl w_23)
  have F_nextArcs_x0 := own_oth F_nextArcs_x0 W11 (Or.inl w_16) (Or.inl w_23)
  have F_capacities_x0 := own_oth F_capacities_x0 W11 (Or.inl w_19) (Or.inl w_23)
  have F_costs_x0 := own_oth F_costs_x0 W11 (Or.inl w_21) (Or.inl w_23)
  have F_lowers_x0 : Fld Z h11 x0 "com/example/kubera/kubera/FlowNetwork" "lowers" "[J" (.ref b10) := F_lowers_x0.same W11
  have E_b2 := E_b2.wr W11
  have V_b2 := V_b2.other W11 (Ne.symm ne_x0_b2)
  have E_b4 := E_b4.wr W11
  have V_b4 := V_b4.other W11 (Ne.symm ne_x0_b4)
  have E_b6 := E_b6.wr W11
  have V_b6 := V_b6.other W11 (Ne.symm ne_x0_b6)
  have E_b8 := E_b8.wr W11
  have V_b8 := V_b8.other W11 (Ne.symm ne_x0_b8)
  have E_b10 := E_b10.wr W11
  have V_b10 := V_b10.other W11 (Ne.symm ne_x0_b10)
  have K11 := K10.wr W11 (Or.inl (List.mem_of_getElem? (i := 0) rfl))
  have N11 := Fr.snoc X11 N9 g_x0
  refine Goes.st st11 ?_
  refine Goes.run X11 hx hown hci hcl hby (L := [(44, .aload_n 0, 1), (45, .iload_n 1, 1), (46, .iconst 2, 1), (47, .iadd, 1)]) (by decide +kernel) rfl (g' := (mkF m 48 #[rv x0, iv 2] [(.int 4), (.ref x0)])) rfl ?_
  obtain ⟨T12, h12, X12, e12, W12, st12⟩ := putF X11 hx hZ hown (host := "") (Or.inl w_24) Via.refl e11 F_nodes_x0 E_x0 (Or.inr ⟨w_25, rfl, hnm⟩) w_4 (ty := .int) (by decide) rfl rfl (g := (mkF m 48 #[rv x0, iv 2] [(.int 4), (.ref x0)])) rfl rfl (hb hby d14_48)
  have E_x0 := E_x0.wr W12
  have F_nodes_x0 : Fld Z h12 x0 "com/example/kubera/kubera/FlowNetwork" "nodes" "I" (.int 4) := F_nodes_x0.same W12
  have F_source_x0 := own_oth F_source_x0 W12 (Or.inr w_27) (Or.inr w_25)
  have F_sink_x0 := own_oth F_sink_x0 W12 (Or.inr w_29) (Or.inr w_25)
  have F_supplies_x0 := own_oth F_supplies_x0 W12 (Or.inr w_31) (Or.inr w_25)
  have F_firstArcs_x0 := own_oth F_firstArcs_x0 W12 (Or.inr w_33) (Or.inr w_25)
  have F_arcs_x0 := own_oth F_arcs_x0 W12 (Or.inl w_44) (Or.inr w_25)
  have F_heads_x0 := own_oth F_heads_x0 W12 (Or.inl w_14) (Or.inr w_25)
  have F_nextArcs_x0 := own_oth F_nextArcs_x0 W12 (Or.inl w_16) (Or.inr w_25)
  have F_capacities_x0 := own_oth F_capacities_x0 W12 (Or.inl w_19) (Or.inr w_25)
  have F_costs_x0 := own_oth F_costs_x0 W12 (Or.inl w_21) (Or.inr w_25)
  have F_lowers_x0 := own_oth F_lowers_x0 W12 (Or.inl w_23) (Or.inr w_25)
  have E_b2 := E_b2.wr W12
  have V_b2 := V_b2.other W12 (Ne.symm ne_x0_b2)
  have E_b4 := E_b4.wr W12
  have V_b4 := V_b4.other W12 (Ne.symm ne_x0_b4)
  have E_b6 := E_b6.wr W12
  have V_b6 := V_b6.other W12 (Ne.symm ne_x0_b6)
  have E_b8 := E_b8.wr W12
  have V_b8 := V_b8.other W12 (Ne.symm ne_x0_b8)
  have E_b10 := E_b10.wr W12
  have V_b10 := V_b10.other W12 (Ne.symm ne_x0_b10)
  have K12 := K11.wr W12 (Or.inl (List.mem_of_getElem? (i := 0) rfl))
  have N12 := Fr.snoc X12 N11 g_x0
  refine Goes.st st12 ?_
  refine Goes.run X12 hx hown hci hcl hby (L := [(51, .aload_n 0, 1), (52, .iload_n 1, 1)]) (by decide +kernel) rfl (g' := (mkF m 53 #[rv x0, iv 2] [(.int 2), (.ref x0)])) rfl ?_
  obtain ⟨T13, h13, X13, e13, W13, st13⟩ := putF X12 hx hZ hown (host := "") (Or.inl w_26) Via.refl e12 F_source_x0 E_x0 (Or.inr ⟨w_27, rfl, hnm⟩) w_4 (ty := .int) (by decide) rfl rfl (g := (mkF m 53 #[rv x0, iv 2] [(.int 2), (.ref x0)])) rfl rfl (hb hby d14_53)
  have E_x0 := E_x0.wr W13
  have F_nodes_x0 := own_oth F_nodes_x0 W13 (Or.inr w_25) (Or.inr w_27)
  have F_source_x0 : Fld Z h13 x0 "com/example/kubera/kubera/FlowNetwork" "source" "I" (.int 2) := F_source_x0.same W13
  have F_sink_x0 := own_oth F_sink_x0 W13 (Or.inr w_29) (Or.inr w_27)
  have F_supplies_x0 := own_oth F_supplies_x0 W13 (Or.inr w_31) (Or.inr w_27)
  have F_firstArcs_x0 := own_oth F_firstArcs_x0 W13 (Or.inr w_33) (Or.inr w_27)
  have F_arcs_x0 := own_oth F_arcs_x0 W13 (Or.inl w_44) (Or.inr w_27)
  have F_heads_x0 := own_oth F_heads_x0 W13 (Or.inl w_14) (Or.inr w_27)
  have F_nextArcs_x0 := own_oth F_nextArcs_x0 W13 (Or.inl w_16) (Or.inr w_27)
  have F_capacities_x0 := own_oth F_capacities_x0 W13 (Or.inl w_19) (Or.inr w_27)
  have F_costs_x0 := own_oth F_costs_x0 W13 (Or.inl w_21) (Or.inr w_27)
  have F_lowers_x0 := own_oth F_lowers_x0 W13 (Or.inl w_23) (Or.inr w_27)
  have E_b2 := E_b2.wr W13
  have V_b2 := V_b2.other W13 (Ne.symm ne_x0_b2)
  have E_b4 := E_b4.wr W13
  have V_b4 := V_b4.other W13 (Ne.symm ne_x0_b4)
  have E_b6 := E_b6.wr W13
  have V_b6 := V_b6.other W13 (Ne.symm ne_x0_b6)
  have E_b8 := E_b8.wr W13
  have V_b8 := V_b8.other W13 (Ne.symm ne_x0_b8)
  have E_b10 := E_b10.wr W13
  have V_b10 := V_b10.other W13 (Ne.symm ne_x0_b10)
  have K13 := K12.wr W13 (Or.inl (List.mem_of_getElem? (i := 0) rfl))
  have N13 := Fr.snoc X13 N12 g_x0
  refine Goes.st st13 ?_
  refine Goes.run X13 hx hown hci hcl hby (L := [(56, .aload_n 0, 1), (57, .iload_n 1, 1), (58, .iconst 1, 1), (59, .iadd, 1)]) (by decide +kernel) rfl (g' := (mkF m 60 #[rv x0, iv 2] [(.int 3), (.ref x0)])) rfl ?_
  obtain ⟨T14, h14, X14, e14, W14, st14⟩ := putF X13 hx hZ hown (host := "") (Or.inl w_28) Via.refl e13 F_sink_x0 E_x0 (Or.inr ⟨w_29, rfl, hnm⟩) w_4 (ty := .int) (by decide) rfl rfl (g := (mkF m 60 #[rv x0, iv 2] [(.int 3), (.ref x0)])) rfl rfl (hb hby d14_60)
  have E_x0 := E_x0.wr W14
  have F_nodes_x0 := own_oth F_nodes_x0 W14 (Or.inr w_25) (Or.inr w_29)
  have F_source_x0 := own_oth F_source_x0 W14 (Or.inr w_27) (Or.inr w_29)
  have F_sink_x0 : Fld Z h14 x0 "com/example/kubera/kubera/FlowNetwork" "sink" "I" (.int 3) := F_sink_x0.same W14
  have F_supplies_x0 := own_oth F_supplies_x0 W14 (Or.inr w_31) (Or.inr w_29)
  have F_firstArcs_x0 := own_oth F_firstArcs_x0 W14 (Or.inr w_33) (Or.inr w_29)
  have F_arcs_x0 := own_oth F_arcs_x0 W14 (Or.inl w_44) (Or.inr w_29)
  have F_heads_x0 := own_oth F_heads_x0 W14 (Or.inl w_14) (Or.inr w_29)
  have F_nextArcs_x0 := own_oth F_nextArcs_x0 W14 (Or.inl w_16) (Or.inr w_29)
  have F_capacities_x0 := own_oth F_capacities_x0 W14 (Or.inl w_19) (Or.inr w_29)
  have F_costs_x0 := own_oth F_costs_x0 W14 (Or.inl w_21) (Or.inr w_29)
  have F_lowers_x0 := own_oth F_lowers_x0 W14 (Or.inl w_23) (Or.inr w_29)
  have E_b2 := E_b2.wr W14
  have V_b2 := V_b2.other W14 (Ne.symm ne_x0_b2)
  have E_b4 := E_b4.wr W14
  have V_b4 := V_b4.other W14 (Ne.symm ne_x0_b4)
  have E_b6 := E_b6.wr W14
  have V_b6 := V_b6.other W14 (Ne.symm ne_x0_b6)
  have E_b8 := E_b8.wr W14
  have V_b8 := V_b8.other W14 (Ne.symm ne_x0_b8)
  have E_b10 := E_b10.wr W14
  have V_b10 := V_b10.other W14 (Ne.symm ne_x0_b10)
  have K14 := K13.wr W14 (Or.inl (List.mem_of_getElem? (i := 0) rfl))
  have N14 := Fr.snoc X14 N13 g_x0
  refine Goes.st st14 ?_
  refine Goes.hrun X14 e14 CX (own_c1 F_nodes_x0 own_n) (L := [.p 63 (.aload_n 0) 1, .p 64 (.aload_n 0) 1, .f 65 28 0]) (by decide +kernel) rfl (g' := (mkF m 68 #[rv x0, iv 2] [(.int 4), (.ref x0)])) rfl ⟨rr, trivial⟩ ?_
  intro T15 X15 e15
  obtain ⟨T16, h16, k16, X16, e16, E16, A16, B16, st16⟩ := newPE X15 hx hZ (aty := .long) w_17 e15 (g := (mkF m 68 #[rv x0, iv 2] [(.int 4), (.ref x0)])) rfl (hb hby d14_68) rfl (by decide) (cap := 4) (by decide) (by decide) (by decide) (by decide) (ad := "[J") (by decide)
  obtain ⟨b16, g16⟩ : ∃ z, z = h14.size := ⟨_, rfl⟩
  rw [← g16] at A16 B16 st16
  have ne_b4_b16 : b4 ≠ b16 := Nat.ne_of_lt (Nat.lt_of_lt_of_le E_b4.lt (Nat.le_of_eq g16.symm))
  have ne_b6_b16 : b6 ≠ b16 := Nat.ne_of_lt (Nat.lt_of_lt_of_le E_b6.lt (Nat.le_of_eq g16.symm))
  have ne_b8_b16 : b8 ≠ b16 := Nat.ne_of_lt (Nat.lt_of_lt_of_le E_b8.lt (Nat.le_of_eq g16.symm))
  have ne_b10_b16 : b10 ≠ b16 := Nat.ne_of_lt (Nat.lt_of_lt_of_le E_b10.lt (Nat.le_of_eq g16.symm))
  have ne_b2_b16 : b2 ≠ b16 := Nat.ne_of_lt (Nat.lt_of_lt_of_le E_b2.lt (Nat.le_of_eq g16.symm))
  have ne_x0_b16 : x0 ≠ b16 := Nat.ne_of_lt (Nat.lt_of_lt_of_le E_x0.lt (Nat.le_of_eq g16.symm))
  have g_b16 : n0 ≤ b16 := Nat.le_trans (Nat.le_trans Z0 K14.1) (Nat.le_of_eq g16.symm)
  have sz_b16 : h0.size ≤ b16 := Nat.le_trans K14.1 (Nat.le_of_eq g16.symm)
  have E_x0 := E_x0.ext E16
  have F_nodes_x0 := F_nodes_x0.ext E16
  have F_source_x0 := F_source_x0.ext E16
  have F_sink_x0 := F_sink_x0.ext E16
  have F_supplies_x0 := F_supplies_x0.ext E16
  have F_firstArcs_x0 := F_firstArcs_x0.ext E16
  have F_arcs_x0 := F_arcs_x0.ext E16
  have F_heads_x0 := F_heads_x0.ext E16
  have F_nextArcs_x0 := F_nextArcs_x0.ext E16
  have F_capacities_x0 := F_capacities_x0.ext E16
  have F_costs_x0 := F_costs_x0.ext E16
  have F_lowers_x0 := F_lowers_x0.ext E16
  have E_b2 := E_b2.ext E16
  have V_b2 := V_b2.ext E16
  have E_b4 := E_b4.ext E16
  have V_b4 := V_b4.ext E16
  have E_b6 := E_b6.ext E16
  have V_b6 := V_b6.ext E16
  have E_b8 := E_b8.ext E16
  have V_b8 := V_b8.ext E16
  have E_b10 := E_b10.ext E16
  have V_b10 := V_b10.ext E16
  have K16 := K14.ext E16
  have E_b16 : Exa Z h16 b16 "[J" := B16
  have V_b16 : Arv Z h16 b16 k16 .long (4 : Int32) [(.long 0), (.long 0), (.long 0), (.long 0)] (.long 0) := (Arv.new A16 (by decide)).pad (pad_rep [] (.long 0) 4)
  refine Goes.st st16 ?_
  obtain ⟨T17, h17, X17, e17, W17, st17⟩ := putF X16 hx hZ hown (host := "") (Or.inl w_30) Via.refl e16 F_supplies_x0 E_x0 (Or.inr ⟨w_31, rfl, hnm⟩) w_4 (ty := (.array .long)) (by decide) rfl rfl (g := (mkF m 70 #[rv x0, iv 2] [(.ref b16), (.ref x0)])) rfl rfl (hb hby d14_70)
  have E_x0 := E_x0.wr W17
  have F_nodes_x0 := own_oth F_nodes_x0 W17 (Or.inr w_25) (Or.inr w_31)
  have F_source_x0 := own_oth F_source_x0 W17 (Or.inr w_27) (Or.inr w_31)
  have F_sink_x0 := own_oth F_sink_x0 W17 (Or.inr w_29) (Or.inr w_31)
  have F_supplies_x0 : Fld Z h17 x0 "com/example/kubera/kubera/FlowNetwork" "supplies" "[J" (.ref b16) := F_supplies_x0.same W17
  have F_firstArcs_x0 := own_oth F_firstArcs_x0 W17 (Or.inr w_33) (Or.inr w_31)
  have F_arcs_x0 := own_oth F_arcs_x0 W17 (Or.inl w_44) (Or.inr w_31)
  have F_heads_x0 := own_oth F_heads_x0 W17 (Or.inl w_14) (Or.inr w_31)
  have F_nextArcs_x0 := own_oth F_nextArcs_x0 W17 (Or.inl w_16) (Or.inr w_31)
  have F_capacities_x0 := own_oth F_capacities_x0 W17 (Or.inl w_19) (Or.inr w_31)
  have F_costs_x0 := own_oth F_costs_x0 W17 (Or.inl w_21) (Or.inr w_31)
  have F_lowers_x0 := own_oth F_lowers_x0 W17 (Or.inl w_23) (Or.inr w_31)
  have E_b2 := E_b2.wr W17
  have V_b2 := V_b2.other W17 (Ne.symm ne_x0_b2)
  have E_b4 := E_b4.wr W17
  have V_b4 := V_b4.other W17 (Ne.symm ne_x0_b4)
  have E_b6 := E_b6.wr W17
  have V_b6 := V_b6.other W17 (Ne.symm ne_x0_b6)
  have E_b8 := E_b8.wr W17
  have V_b8 := V_b8.other W17 (Ne.symm ne_x0_b8)
  have E_b10 := E_b10.wr W17
  have V_b10 := V_b10.other W17 (Ne.symm ne_x0_b10)
  have E_b16 := E_b16.wr W17
  have V_b16 := V_b16.other W17 (Ne.symm ne_x0_b16)
  have K17 := K16.wr W17 (Or.inl (List.mem_of_getElem? (i := 0) rfl))
  have N17 := Fr.snoc X17 N14 g_x0
  refine Goes.st st17 ?_
  refine Goes.hrun X17 e17 CX (own_c1 F_nodes_x0 own_n) (L := [.p 73 (.aload_n 0) 1, .p 74 (.aload_n 0) 1, .f 75 28 0]) (by decide +kernel) rfl (g' := (mkF m 78 #[rv x0, iv 2] [(.int 4), (.ref x0)])) rfl ⟨rr, trivial⟩ ?_
  intro T18 X18 e18
  obtain ⟨T19, h19, k19, X19, e19, E19, A19, B19, st19⟩ := newPE X18 hx hZ (aty := .int) w_12 e18 (g := (mkF m 78 #[rv x0, iv 2] [(.int 4), (.ref x0)])) rfl (hb hby d14_78) rfl (by decide) (cap := 4) (by decide) (by decide) (by decide) (by decide) (ad := "[I") (by decide)
  obtain ⟨b19, g19⟩ : ∃ z, z = h17.size := ⟨_, rfl⟩
  rw [← g19] at A19 B19 st19
  have ne_b4_b19 : b4 ≠ b19 := Nat.ne_of_lt (Nat.lt_of_lt_of_le E_b4.lt (Nat.le_of_eq g19.symm))
  have ne_b16_b19 : b16 ≠ b19 := Nat.ne_of_lt (Nat.lt_of_lt_of_le E_b16.lt (Nat.le_of_eq g19.symm))
  have ne_b6_b19 : b6 ≠ b19 := Nat.ne_of_lt (Nat.lt_of_lt_of_le E_b6.lt (Nat.le_of_eq g19.symm))
  have ne_b8_b19 : b8 ≠ b19 := Nat.ne_of_lt (Nat.lt_of_lt_of_le E_b8.lt (Nat.le_of_eq g19.symm))
  have ne_b10_b19 : b10 ≠ b19 := Nat.ne_of_lt (Nat.lt_of_lt_of_le E_b10.lt (Nat.le_of_eq g19.symm))
  have ne_b2_b19 : b2 ≠ b19 := Nat.ne_of_lt (Nat.lt_of_lt_of_le E_b2.lt (Nat.le_of_eq g19.symm))
  have ne_x0_b19 : x0 ≠ b19 := Nat.ne_of_lt (Nat.lt_of_lt_of_le E_x0.lt (Nat.le_of_eq g19.symm))
  have g_b19 : n0 ≤ b19 := Nat.le_trans (Nat.le_trans Z0 K17.1) (Nat.le_of_eq g19.symm)
  have sz_b19 : h0.size ≤ b19 := Nat.le_trans K17.1 (Nat.le_of_eq g19.symm)
  have E_x0 := E_x0.ext E19
  have F_nodes_x0 := F_nodes_x0.ext E19
  have F_source_x0 := F_source_x0.ext E19
  have F_sink_x0 := F_sink_x0.ext E19
  have F_supplies_x0 := F_supplies_x0.ext E19
  have F_firstArcs_x0 := F_firstArcs_x0.ext E19
  have F_arcs_x0 := F_arcs_x0.ext E19
  have F_heads_x0 := F_heads_x0.ext E19
  have F_nextArcs_x0 := F_nextArcs_x0.ext E19
  have F_capacities_x0 := F_capacities_x0.ext E19
  have F_costs_x0 := F_costs_x0.ext E19
  have F_lowers_x0 := F_lowers_x0.ext E19
  have E_b2 := E_b2.ext E19
  have V_b2 := V_b2.ext E19
  have E_b4 := E_b4.ext E19
  have V_b4 := V_b4.ext E19
  have E_b6 := E_b6.ext E19
  have V_b6 := V_b6.ext E19
  have E_b8 := E_b8.ext E19
  have V_b8 := V_b8.ext E19
  have E_b10 := E_b10.ext E19
  have V_b10 := V_b10.ext E19
  have E_b16 := E_b16.ext E19
  have V_b16 := V_b16.ext E19
  have K19 := K17.ext E19
  have E_b19 : Exa Z h19 b19 "[I" := B19
  have V_b19 : Arv Z h19 b19 k19 .int (4 : Int32) [(.int 0), (.int 0), (.int 0), (.int 0)] (.int 0) := (Arv.new A19 (by decide)).pad (pad_rep [] (.int 0) 4)
  refine Goes.st st19 ?_
  obtain ⟨T20, h20, X20, e20, W20, st20⟩ := putF X19 hx hZ hown (host := "") (Or.inl w_32) Via.refl e19 F_firstArcs_x0 E_x0 (Or.inr ⟨w_33, rfl, hnm⟩) w_4 (ty := (.array .int)) (by decide) rfl rfl (g := (mkF m 80 #[rv x0, iv 2] [(.ref b19), (.ref x0)])) rfl rfl (hb hby d14_80)
  have E_x0 := E_x0.wr W20
  have F_nodes_x0 := own_oth F_nodes_x0 W20 (Or.inr w_25) (Or.inr w_33)
  have F_source_x0 := own_oth F_source_x0 W20 (Or.inr w_27) (Or.inr w_33)
  have F_sink_x0 := own_oth F_sink_x0 W20 (Or.inr w_29) (Or.inr w_33)
  have F_supplies_x0 := own_oth F_supplies_x0 W20 (Or.inr w_31) (Or.inr w_33)
  have F_firstArcs_x0 : Fld Z h20 x0 "com/example/kubera/kubera/FlowNetwork" "firstArcs" "[I" (.ref b19) := F_firstArcs_x0.same W20
  have F_arcs_x0 := own_oth F_arcs_x0 W20 (Or.inl w_44) (Or.inr w_33)
  have F_heads_x0 := own_oth F_heads_x0 W20 (Or.inl w_14) (Or.inr w_33)
  have F_nextArcs_x0 := own_oth F_nextArcs_x0 W20 (Or.inl w_16) (Or.inr w_33)
  have F_capacities_x0 := own_oth F_capacities_x0 W20 (Or.inl w_19) (Or.inr w_33)
  have F_costs_x0 := own_oth F_costs_x0 W20 (Or.inl w_21) (Or.inr w_33)
  have F_lowers_x0 := own_oth F_lowers_x0 W20 (Or.inl w_23) (Or.inr w_33)
  have E_b2 := E_b2.wr W20
  have V_b2 := V_b2.other W20 (Ne.symm ne_x0_b2)
  have E_b4 := E_b4.wr W20
  have V_b4 := V_b4.other W20 (Ne.symm ne_x0_b4)
  have E_b6 := E_b6.wr W20
  have V_b6 := V_b6.other W20 (Ne.symm ne_x0_b6)
  have E_b8 := E_b8.wr W20
  have V_b8 := V_b8.other W20 (Ne.symm ne_x0_b8)
  have E_b10 := E_b10.wr W20
  have V_b10 := V_b10.other W20 (Ne.symm ne_x0_b10)
  have E_b16 := E_b16.wr W20
  have V_b16 := V_b16.other W20 (Ne.symm ne_x0_b16)
  have E_b19 := E_b19.wr W20
  have V_b19 := V_b19.other W20 (Ne.symm ne_x0_b19)
  have K20 := K19.wr W20 (Or.inl (List.mem_of_getElem? (i := 0) rfl))
  have N20 := Fr.snoc X20 N17 g_x0
  refine Goes.st st20 ?_
  refine Goes.hrun X20 e20 CX (own_c1 F_firstArcs_x0 own_n) (L := [.p 83 (.aload_n 0) 1, .f 84 41 0, .p 87 (.iconst (-1)) 1]) (by decide +kernel) rfl (g' := (mkF m 88 #[rv x0, iv 2] [(.int (-1)), (.ref b19)])) rfl ⟨rr, trivial⟩ ?_
  intro T21 X21 e21
  obtain ⟨_, _, ⟨T22, L22, k22, n22⟩, -, X22, ⟨Lc22, hQ22, l22, y22, z22⟩, st22⟩ := Jvm.LawKit.callS X21 hx (y := ym0) hown (mvT hZ w_34) (mvT hZ w_35) (mvT hZ w_36) (mvT hZ w_37) (by decide) (backOf (W := 0) (rm1 l Z a0 hw [] b19 (-1 : Int32) k19 (0 : Int32) (0 : Int32) (0 : Int32) (0 : Int32) h20 n0 (Nat.le_trans Z0 K20.1) V_b19 g_b19) hZ w_37 w_36 (by decide) (by decide)) (g := (mkF m 88 #[rv x0, iv 2] [(.int (-1)), (.ref b19)])) rfl (by rw [hml]; rfl) (argsL := [(.ref b19), (.int (-1))]) (rest := []) (lenOf pdN_0 rfl) rfl (by show 2 * 0 + _ ≤ _; exact Nat.le_of_eq rfl) (hb hby d14_88) (fun _ _ => ⟨rfl, e21, (by decide : 7 + 0 ≤ _), (by decide : 80 + 0 ≤ _)⟩)
  dsimp only [Pt.U, Pt.locs, Pt.cells, Pt.slots] at X22 l22 y22 z22 st22 hQ22
  subst l22 y22 z22
  obtain ⟨h22, eh22⟩ : ∃ z, z = T22.heap := ⟨_, rfl⟩
  rw [← eh22] at hQ22
  have e22 : T22.heap = h22 := eh22.symm
  obtain ⟨rfl, N22q, Kq22, o22_0⟩ := hQ22
  have N22 := Fr.app N20 N22q
  have E_x0 := E_x0.keep Kq22
  have F_nodes_x0 := F_nodes_x0.keep Kq22 (ninS ne_x0_b19 nin0)
  have F_source_x0 := F_source_x0.keep Kq22 (ninS ne_x0_b19 nin0)
  have F_sink_x0 := F_sink_x0.keep Kq22 (ninS ne_x0_b19 nin0)
  have F_supplies_x0 := F_supplies_x0.keep Kq22 (ninS ne_x0_b19 nin0)
  have F_firstArcs_x0 := F_firstArcs_x0.keep Kq22 (ninS ne_x0_b19 nin0)
  have F_arcs_x0 := F_arcs_x0.keep Kq22 (ninS ne_x0_b19 nin0)
  have F_heads_x0 := F_heads_x0.keep Kq22 (ninS ne_x0_b19 nin0)
  have F_nextArcs_x0 := F_nextArcs_x0.keep Kq22 (ninS ne_x0_b19 nin0)
  have F_capacities_x0 := F_capacities_x0.keep Kq22 (ninS ne_x0_b19 nin0)
  have F_costs_x0 := F_costs_x0.keep Kq22 (ninS ne_x0_b19 nin0)
  have F_lowers_x0 := F_lowers_x0.keep Kq22 (ninS ne_x0_b19 nin0)
  have E_b2 := E_b2.keep Kq22
  have V_b2 := V_b2.keep Kq22 (ninS ne_b2_b19 nin0)
  have E_b4 := E_b4.keep Kq22
  have V_b4 := V_b4.keep Kq22 (ninS ne_b4_b19 nin0)
  have E_b6 := E_b6.keep Kq22
  have V_b6 := V_b6.keep Kq22 (ninS ne_b6_b19 nin0)
  have E_b8 := E_b8.keep Kq22
  have V_b8 := V_b8.keep Kq22 (ninS ne_b8_b19 nin0)
  have E_b10 := E_b10.keep Kq22
  have V_b10 := V_b10.keep Kq22 (ninS ne_b10_b19 nin0)
  have E_b16 := E_b16.keep Kq22
  have V_b16 := V_b16.keep Kq22 (ninS ne_b16_b19 nin0)
  have E_b19 := E_b19.keep Kq22
  have V_b19 : Arv Z h22 b19 k19 .int (4 : Int32) [(.int (-1)), (.int (-1)), (.int (-1)), (.int (-1))] (.int (0 : Int32)) := o22_0
  have K22 := K20.trans Kq22 ((allS (Or.inr sz_b19) all0))
  refine Goes.st st22 ?_
  refine Goes.retV X22 hx hlk Bd.returns (hb hby d14_91) ?_ (by decide) (by decide)
  show (QN Z x0 h0 n0) _ _ _
  rw [e22]
  exact ⟨b2, b4, b6, b8, b10, b16, b19, k2, k4, k6, k8, k10, k16, k19, rfl, N22, K22, sz_b2, sz_b4, sz_b6, sz_b8, sz_b10, sz_b16, sz_b19, ne_b2_b4, ne_b2_b6, ne_b2_b8, ne_b2_b10, ne_b2_b16, ne_b2_b19, ne_b4_b6, ne_b4_b8, ne_b4_b10, ne_b4_b16, ne_b4_b19, ne_b6_b8, ne_b6_b10, ne_b6_b16, ne_b6_b19, ne_b8_b10, ne_b8_b16, ne_b8_b19, ne_b10_b16, ne_b10_b19, ne_b16_b19, E_x0, F_nodes_x0, F_source_x0, F_sink_x0, F_supplies_x0, F_firstArcs_x0, F_arcs_x0, F_heads_x0, F_nextArcs_x0, F_capacities_x0, F_costs_x0, F_lowers_x0, V_b2, V_b4, V_b6, V_b8, V_b10, V_b16, V_b19⟩
theorem d15_5 : decode prog_7_method_2_code 5 = .ok (.dup2, 1) := by decide +kernel
theorem d15_9 : decode prog_7_method_2_code 9 = .ok (.lastore, 1) := by decide +kernel
theorem d15_10 : decode prog_7_method_2_code 10 = .ok (.return_, 1) := by decide +kernel
theorem pnO : plainName "com/example/kubera/kubera/FlowNetwork" = true := by first | (simp [plainName, overriddenIn]; done) | decide +kernel
theorem efO (m : MethodId) (x0 : Addr) (x2 : Int64) : entryFrame m #[(.ref x0), (.int 0), (.long x2)] 4 = (mkF m 0 #[rv x0, iv 0, jv x2, .second] []) := by first | (simp [entryFrame, mkF, argsToLocals, Value.category]; done) | rfl
def sO_9 (x2 : Int64) (p0 : Int64) (p1 : Int64) (p2 : Int64) (p3 : Int64) : Int64 := (p0 + x2)
def QO (Z : State) (x0 : Addr) (x2 : Int64) (su : Addr) (ksu : ClassId) (p0 : Int64) (p1 : Int64) (p2 : Int64) (p3 : Int64) (h0 : Heap) (n0 : Nat) (v : Option Value) (h : Heap) (L : List Loc) : Prop := v = none ∧ Fr n0 L ∧ Keep h0 h [su] ∧ Arv Z h su ksu .long (4 : Int32) [(.long (p0 + x2)), (.long p1), (.long p2), (.long p3)] (.long (0 : Int64))
set_option maxRecDepth 65536 in
set_option maxHeartbeats 40000000 in
theorem rmO (l : Launch) (Z : State) (a0 : Array Value) (hw : ∀ d ∈ tables_1, d.before a0 Z = true) (ws : List Jvm.Cond) (x0 : Addr) (x2 : Int64) (su : Addr) (ksu : ClassId) (p0 : Int64) (p1 : Int64) (p2 : Int64) (p3 : Int64) (h0 : Heap) (n0 : Nat) (Z0 : n0 ≤ h0.size) (F_supplies_x0 : Fld Z h0 x0 "com/example/kubera/kubera/FlowNetwork" "supplies" "[J" (.ref su)) (V_su : Arv Z h0 su ksu .long (4 : Int32) [(.long p0), (.long p1), (.long p2), (.long p3)] (.long (0 : Int64))) (g_su : n0 ≤ su) (ne_su_x0 : su ≠ x0) :
    MetFree l ym14 (head1 (Jvm.Cond.code ym14 prog_7_method_2_code 4 none :: ws) ({ frames := 0, cells := 0, slots := 0, locals := 0 } : Room)) (fun a U => a = #[(.ref x0), (.int 0), (.long x2)] ∧ Z.Warmed39 U.vm ∧ U.heap = h0) (fun _ _ _ _ _ => True) (fun _ U o U' => ∃ v L, o = .returned v ∧ (QO Z x0 x2 su ksu p0 p1 p2 p3 h0 n0) v U'.heap L ∧ FrameEnd U o U' L ({ frames := 0, cells := 0, slots := 0, locals := 0 } : Room).cells ({ frames := 0, cells := 0, slots := 0, locals := 0 } : Room).slots) := by
  refine MetFree.of_bodySF (plainFor_of_name pnO) hisR ?_
  intro p e s m args below meth c s₁ Bd hml0 hP hK
  obtain ⟨rfl, hZ, hh⟩ := hP
  have hx := Bd.exec
  have hby := Bd.bytes
  have hml : c.maxLocals = 4 := hml0
  have hlk : meth.locks = false := BodyLoose.notSynchronized Bd
  have hown : s.vm.findClass "com/example/kubera/kubera/FlowNetwork" = some m.cls := findClass_of_methodNamed Bd.named
  have hnm := (name_of_methodNamed Bd.named Bd.method).1
  have w_73 := hw _ (List.mem_of_getElem? (i := 73) rfl)
  have w_121 := hw _ (List.mem_of_getElem? (i := 121) rfl)
  have hci : ∀ i v, (i, v) ∈ ([] : List (Nat × Int32)) → (Jvm.Cond.constant "com/example/kubera/kubera/FlowNetwork" i v).before #[(.ref x0), (.int 0), (.long x2)] s = true := own_ci0
  have hcl : ∀ i v, (i, v) ∈ ([(87, 9223372036854775807), (119, 2305843009213693951)] : List (Nat × Int64)) → (Jvm.Cond.constantLong "com/example/kubera/kubera/FlowNetwork" i v).before #[(.ref x0), (.int 0), (.long x2)] s = true := (own_ciS (mvT hZ w_73) (own_ciS (mvT hZ w_121) own_ci0))
  have X0 : Stand p l e ({ frames := 0, cells := 0, slots := 0, locals := 0 } : Room) s m #[(.ref x0), (.int 0), (.long x2)] below meth c s₁ [] 0 0 := Stand.of_body Bd
  have e0 : s₁.heap = h0 := by rw [← hh, Bd.state]; rfl
  have N0 := Fr.nil n0
  show Goes p e below s (QO Z x0 x2 su ksu p0 p1 p2 p3 h0 n0) ({ frames := 0, cells := 0, slots := 0, locals := 0 } : Room).cells ({ frames := 0, cells := 0, slots := 0, locals := 0 } : Room).slots (s₁.setTop (entryFrame m #[(.ref x0), (.int 0), (.long x2)] 4))
  refine Goes.cast (efO m x0 x2) ?_
  have hLK := own_lk2_ok hw
  have CX := Cx.mk hx hZ hown hci hcl hLK hby
  have K0 : Keep h0 h0 [su] := Keep.refl h0 _
  refine Goes.hrun X0 e0 CX (own_c1 F_supplies_x0 own_n) (L := [.p 0 (.aload_n 0) 1, .f 1 38 0, .p 4 (.iload_n 1) 1]) (by decide +kernel) rfl (g' := (mkF m 5 #[rv x0, iv 0, jv x2, .second] [(.int 0), (.ref su)])) rfl ⟨rr, trivial⟩ ?_
  intro T1 X1 e1
  refine Goes.st (B := T1.setTop (mkF m 6 #[rv x0, iv 0, jv x2, .second] [(.int 0), (.ref su), (.int 0), (.ref su)])) (fun t k => ?_) ?_
  · refine Jvm.Free.XT.dup2 X1.here hx rfl (hb hby d15_5) rfl rfl rfl ?_
    exact k
  refine Goes.hrun X1 e1 CX (own_c2 V_su own_n) (L := [.J 6 0 0, .p 7 (.lload_n 2) 1, .p 8 .ladd 1]) (by decide +kernel) rfl (g' := (mkF m 9 #[rv x0, iv 0, jv x2, .second] [(.long (p0 + x2)), (.int 0), (.ref su)])) rfl ⟨ra (by decide), trivial⟩ ?_
  intro T2 X2 e2
  refine Goes.sJ X2 e2 hx hZ V_su (i := 0) (own_ixok (by decide)) (Nat.le_of_ble_eq_true rfl) N0 g_su rfl rfl (hb hby d15_9) ?_
  intro T3 h3 L3 X3 e3 W3 (V_su : Arv Z h3 su ksu .long (4 : Int32) [(.long (sO_9 x2 p0 p1 p2 p3)), (.long p1), (.long p2), (.long p3)] (.long (0 : Int64))) N3
  have F_supplies_x0 := F_supplies_x0.other W3 (Or.inl (Ne.symm ne_su_x0))
  have K3 := K0.wr W3 (Or.inl (List.mem_of_getElem? (i := 0) rfl))
  refine Goes.retV X3 hx hlk Bd.returns (hb hby d15_10) ?_ (by decide) (by decide)
  show (QO Z x0 x2 su ksu p0 p1 p2 p3 h0 n0) _ _ _
  rw [e3]
  exact ⟨rfl, N3, K3, V_su⟩
theorem pnP1 : plainName "com/example/kubera/kubera/FlowNetwork" = true := by first | (simp [plainName, overriddenIn]; done) | decide +kernel
theorem efP1 (m : MethodId) (x0 : Addr) (x2 : Int64) : entryFrame m #[(.ref x0), (.int 1), (.long x2)] 4 = (mkF m 0 #[rv x0, iv 1, jv x2, .second] []) := by first | (simp [entryFrame, mkF, argsToLocals, Value.category]; done) | rfl
def sP1_9 (x2 : Int64) (p0 : Int64) (p1 : Int64) (p2 : Int64) (p3 : Int64) : Int64 := (p1 + x2)
def QP1 (Z : State) (x0 : Addr) (x2 : Int64) (su : Addr) (ksu : ClassId) (p0 : Int64) (p1 : Int64) (p2 : Int64) (p3 : Int64) (h0 : Heap) (n0 : Nat) (v : Option Value) (h : Heap) (L : List Loc) : Prop := v = none ∧ Fr n0 L ∧ Keep h0 h [su] ∧ Arv Z h su ksu .long (4 : Int32) [(.long p0), (.long (p1 + x2)), (.long p2), (.long p3)] (.long (0 : Int64))
set_option maxRecDepth 65536 in
set_option maxHeartbeats 40000000 in
theorem rmP1 (l : Launch) (Z : State) (a0 : Array Value) (hw : ∀ d ∈ tables_1, d.before a0 Z = true) (ws : List Jvm.Cond) (x0 : Addr) (x2 : Int64) (su : Addr) (ksu : ClassId) (p0 : Int64) (p1 : Int64) (p2 : Int64) (p3 : Int64) (h0 : Heap) (n0 : Nat) (Z0 : n0 ≤ h0.size) (F_supplies_x0 : Fld Z h0 x0 "com/example/kubera/kubera/FlowNetwork" "supplies" "[J" (.ref su)) (V_su : Arv Z h0 su ksu .long (4 : Int32) [(.long p0), (.long p1), (.long p2), (.long p3)] (.long (0 : Int64))) (g_su : n0 ≤ su) (ne_su_x0 : su ≠ x0) :
    MetFree l ym14 (head1 (Jvm.Cond.code ym14 prog_7_method_2_code 4 none :: ws) ({ frames := 0, cells := 0, slots := 0, locals := 0 } : Room)) (fun a U => a = #[(.ref x0), (.int 1), (.long x2)] ∧ Z.Warmed39 U.vm ∧ U.heap = h0) (fun _ _ _ _ _ => True) (fun _ U o U' => ∃ v L, o = .returned v ∧ (QP1 Z x0 x2 su ksu p0 p1 p2 p3 h0 n0) v U'.heap L ∧ FrameEnd U o U' L ({ frames := 0, cells := 0, slots := 0, locals := 0 } : Room).cells ({ frames := 0, cells := 0, slots := 0, locals := 0 } : Room).slots) := by
  refine MetFree.of_bodySF (plainFor_of_name pnP1) hisR ?_
  intro p e s m args below meth c s₁ Bd hml0 hP hK
  obtain ⟨rfl, hZ, hh⟩ := hP
  have hx := Bd.exec
  have hby := Bd.bytes
  have hml : c.maxLocals = 4 := hml0
  have hlk : meth.locks = false := BodyLoose.notSynchronized Bd
  have hown : s.vm.findClass "com/example/kubera/kubera/FlowNetwork" = some m.cls := findClass_of_methodNamed Bd.named
  have hnm := (name_of_methodNamed Bd.named Bd.method).1
  have w_73 := hw _ (List.mem_of_getElem? (i := 73) rfl)
  have w_121 := hw _ (List.mem_of_getElem? (i := 121) rfl)
  have hci : ∀ i v, (i, v) ∈ ([] : List (Nat × Int32)) → (Jvm.Cond.constant "com/example/kubera/kubera/FlowNetwork" i v).before #[(.ref x0), (.int 1), (.long x2)] s = true := own_ci0
  have hcl : ∀ i v, (i, v) ∈ ([(87, 9223372036854775807), (119, 2305843009213693951)] : List (Nat × Int64)) → (Jvm.Cond.constantLong "com/example/kubera/kubera/FlowNetwork" i v).before #[(.ref x0), (.int 1), (.long x2)] s = true := (own_ciS (mvT hZ w_73) (own_ciS (mvT hZ w_121) own_ci0))
  have X0 : Stand p l e ({ frames := 0, cells := 0, slots := 0, locals := 0 } : Room) s m #[(.ref x0), (.int 1), (.long x2)] below meth c s₁ [] 0 0 := Stand.of_body Bd
  have e0 : s₁.heap = h0 := by rw [← hh, Bd.state]; rfl
  have N0 := Fr.nil n0
  show Goes p e below s (QP1 Z x0 x2 su ksu p0 p1 p2 p3 h0 n0) ({ frames := 0, cells := 0, slots := 0, locals := 0 } : Room).cells ({ frames := 0, cells := 0, slots := 0, locals := 0 } : Room).slots (s₁.setTop (entryFrame m #[(.ref x0), (.int 1), (.long x2)] 4))
  refine Goes.cast (efP1 m x0 x2) ?_
  have hLK := own_lk2_ok hw
  have CX := Cx.mk hx hZ hown hci hcl hLK hby
  have K0 : Keep h0 h0 [su] := Keep.refl h0 _
  refine Goes.hrun X0 e0 CX (own_c1 F_supplies_x0 own_n) (L := [.p 0 (.aload_n 0) 1, .f 1 38 0, .p 4 (.iload_n 1) 1]) (by decide +kernel) rfl (g' := (mkF m 5 #[rv x0, iv 1, jv x2, .second] [(.int 1), (.ref su)])) rfl ⟨rr, trivial⟩ ?_
  intro T1 X1 e1
  refine Goes.st (B := T1.setTop (mkF m 6 #[rv x0, iv 1, jv x2, .second] [(.int 1), (.ref su), (.int 1), (.ref su)])) (fun t k => ?_) ?_
  · refine Jvm.Free.XT.dup2 X1.here hx rfl (hb hby d15_5) rfl rfl rfl ?_
    exact k
  refine Goes.hrun X1 e1 CX (own_c2 V_su own_n) (L := [.J 6 0 1, .p 7 (.lload_n 2) 1, .p 8 .ladd 1]) (by decide +kernel) rfl (g' := (mkF m 9 #[rv x0, iv 1, jv x2, .second] [(.long (p1 + x2)), (.int 1), (.ref su)])) rfl ⟨ra (by decide), trivial⟩ ?_
  intro T2 X2 e2
  refine Goes.sJ X2 e2 hx hZ V_su (i := 1) (own_ixok (by decide)) (Nat.le_of_ble_eq_true rfl) N0 g_su rfl rfl (hb hby d15_9) ?_
  intro T3 h3 L3 X3 e3 W3 (V_su : Arv Z h3 su ksu .long (4 : Int32) [(.long p0), (.long (sP1_9 x2 p0 p1 p2 p3)), (.long p2), (.long p3)] (.long (0 : Int64))) N3
  have F_supplies_x0 := F_supplies_x0.other W3 (Or.inl (Ne.symm ne_su_x0))
  have K3 := K0.wr W3 (Or.inl (List.mem_of_getElem? (i := 0) rfl))
  refine Goes.retV X3 hx hlk Bd.returns (hb hby d15_10) ?_ (by decide) (by decide)
  show (QP1 Z x0 x2 su ksu p0 p1 p2 p3 h0 n0) _ _ _
  rw [e3]
  exact ⟨rfl, N3, K3, V_su⟩
theorem d16_17 : decode prog_7_method_5_code 17 = .ok (.lreturn, 1) := by decide +kernel
theorem pnR : plainName "com/example/kubera/kubera/FlowNetwork" = true := by first | (simp [plainName, overriddenIn]; done) | decide +kernel
theorem efR (m : MethodId) (x0 : Addr) : entryFrame m #[(.ref x0), (.int 0)] 2 = (mkF m 0 #[rv x0, iv 0] []) := by first | (simp [entryFrame, mkF, argsToLocals, Value.category]; done) | rfl
def rR (o0 : Int64) (q1 : Int64) : Int64 := (o0 + q1)
set_option maxRecDepth 65536 in
set_option maxHeartbeats 40000000 in
theorem rmR (l : Launch) (Z : State) (a0 : Array Value) (hw : ∀ d ∈ tables_1, d.before a0 Z = true) (ws : List Jvm.Cond) (x0 : Addr) (lo : Addr) (cp : Addr) (klo : ClassId) (kcp : ClassId) (o0 : Int64) (o1 : Int64) (o2 : Int64) (o3 : Int64) (q0 : Int64) (q1 : Int64) (q2 : Int64) (q3 : Int64) (q4 : Int64) (q5 : Int64) (q6 : Int64) (q7 : Int64) (h0 : Heap) (n0 : Nat) (Z0 : n0 ≤ h0.size) (F_lowers_x0 : Fld Z h0 x0 "com/example/kubera/kubera/FlowNetwork" "lowers" "[J" (.ref lo)) (F_capacities_x0 : Fld Z h0 x0 "com/example/kubera/kubera/FlowNetwork" "capacities" "[J" (.ref cp)) (V_lo : Arv Z h0 lo klo .long (8 : Int32) [(.long o0), (.long o1), (.long o2), (.long o3)] (.long (0 : Int64))) (V_cp : Arv Z h0 cp kcp .long (16 : Int32) [(.long q0), (.long q1), (.long q2), (.long q3), (.long q4), (.long q5), (.long q6), (.long q7)] (.long (0 : Int64))) :
    MetFree l ym15 (head1 (Jvm.Cond.code ym15 prog_7_method_5_code 2 (some .long) :: ws) ({ frames := 0, cells := 0, slots := 0, locals := 0 } : Room)) (fun a U => a = #[(.ref x0), (.int 0)] ∧ Z.Warmed39 U.vm ∧ U.heap = h0) (fun _ _ _ _ _ => True) (fun _ U o U' => ∃ v L, o = .returned v ∧ (QP (some (.long (rR o0 q1))) h0 n0) v U'.heap L ∧ FrameEnd U o U' L ({ frames := 0, cells := 0, slots := 0, locals := 0 } : Room).cells ({ frames := 0, cells := 0, slots := 0, locals := 0 } : Room).slots) := by
  refine MetFree.of_bodySF (plainFor_of_name pnR) hisR ?_
  intro p e s m args below meth c s₁ Bd hml0 hP hK
  obtain ⟨rfl, hZ, hh⟩ := hP
  have hx := Bd.exec
  have hby := Bd.bytes
  have hml : c.maxLocals = 2 := hml0
  have hlk : meth.locks = false := BodyLoose.notSynchronized Bd
  have hown : s.vm.findClass "com/example/kubera/kubera/FlowNetwork" = some m.cls := findClass_of_methodNamed Bd.named
  have hnm := (name_of_methodNamed Bd.named Bd.method).1
  have w_73 := hw _ (List.mem_of_getElem? (i := 73) rfl)
  have w_121 := hw _ (List.mem_of_getElem? (i := 121) rfl)
  have hci : ∀ i v, (i, v) ∈ ([] : List (Nat × Int32)) → (Jvm.Cond.constant "com/example/kubera/kubera/FlowNetwork" i v).before #[(.ref x0), (.int 0)] s = true := own_ci0
  have hcl : ∀ i v, (i, v) ∈ ([(87, 9223372036854775807), (119, 2305843009213693951)] : List (Nat × Int64)) → (Jvm.Cond.constantLong "com/example/kubera/kubera/FlowNetwork" i v).before #[(.ref x0), (.int 0)] s = true := (own_ciS (mvT hZ w_73) (own_ciS (mvT hZ w_121) own_ci0))
  have X0 : Stand p l e ({ frames := 0, cells := 0, slots := 0, locals := 0 } : Room) s m #[(.ref x0), (.int 0)] below meth c s₁ [] 0 0 := Stand.of_body Bd
  have e0 : s₁.heap = h0 := by rw [← hh, Bd.state]; rfl
  have N0 := Fr.nil n0
  show Goes p e below s (QP (some (.long (rR o0 q1))) h0 n0) ({ frames := 0, cells := 0, slots := 0, locals := 0 } : Room).cells ({ frames := 0, cells := 0, slots := 0, locals := 0 } : Room).slots (s₁.setTop (entryFrame m #[(.ref x0), (.int 0)] 2))
  refine Goes.cast (efR m x0) ?_
  have hLK := own_lk2_ok hw
  have CX := Cx.mk hx hZ hown hci hcl hLK hby
  refine Goes.hrun X0 e0 CX (own_c1 F_lowers_x0 (own_c2 V_lo (own_c1 F_capacities_x0 (own_c2 V_cp own_n)))) (L := [.p 0 (.aload_n 0) 1, .f 1 25 0, .p 4 (.iload_n 1) 1, .J 5 1 0, .p 6 (.aload_n 0) 1, .f 7 18 2, .p 10 (.iconst 2) 1, .p 11 (.iload_n 1) 1, .p 12 .imul 1, .p 13 (.iconst 1) 1, .p 14 .iadd 1, .J 15 3 1, .p 16 .ladd 1]) (by decide +kernel) rfl (g' := (mkF m 17 #[rv x0, iv 0] [(.long (o0 + q1))])) rfl ⟨rr, ra (by decide), rr, ra (by decide), trivial⟩ ?_
  intro T1 X1 e1
  exact Goes.retJ X1 hx hlk Bd.returns (hb hby d16_17) ⟨(congrArg (fun z => some (Value.long z)) (show (rR o0 q1) = (o0 + q1) from rfl).symm), N0, e1⟩ (by decide) (by decide)
theorem pnS : plainName "com/example/kubera/kubera/FlowNetwork" = true := by first | (simp [plainName, overriddenIn]; done) | decide +kernel
theorem efS (m : MethodId) (x0 : Addr) : entryFrame m #[(.ref x0), (.int 1)] 2 = (mkF m 0 #[rv x0, iv 1] []) := by first | (simp [entryFrame, mkF, argsToLocals, Value.category]; done) | rfl
def rS (o1 : Int64) (q3 : Int64) : Int64 := (o1 + q3)
set_option maxRecDepth 65536 in
set_option maxHeartbeats 40000000 in
theorem rmS (l : Launch) (Z : State) (a0 : Array Value) (hw : ∀ d ∈ tables_1, d.before a0 Z = true) (ws : List Jvm.Cond) (x0 : Addr) (lo : Addr) (cp : Addr) (klo : ClassId) (kcp : ClassId) (o0 : Int64) (o1 : Int64) (o2 : Int64) (o3 : Int64) (q0 : Int64) (q1 : Int64) (q2 : Int64) (q3 : Int64) (q4 : Int64) (q5 : Int64) (q6 : Int64) (q7 : Int64) (h0 : Heap) (n0 : Nat) (Z0 : n0 ≤ h0.size) (F_lowers_x0 : Fld Z h0 x0 "com/example/kubera/kubera/FlowNetwork" "lowers" "[J" (.ref lo)) (F_capacities_x0 : Fld Z h0 x0 "com/example/kubera/kubera/FlowNetwork" "capacities" "[J" (.ref cp)) (V_lo : Arv Z h0 lo klo .long (8 : Int32) [(.long o0), (.long o1), (.long o2), (.long o3)] (.long (0 : Int64))) (V_cp : Arv Z h0 cp kcp .long (16 : Int32) [(.long q0), (.long q1), (.long q2), (.long q3), (.long q4), (.long q5), (.long q6), (.long q7)] (.long (0 : Int64))) :
    MetFree l ym15 (head1 (Jvm.Cond.code ym15 prog_7_method_5_code 2 (some .long) :: ws) ({ frames := 0, cells := 0, slots := 0, locals := 0 } : Room)) (fun a U => a = #[(.ref x0), (.int 1)] ∧ Z.Warmed39 U.vm ∧ U.heap = h0) (fun _ _ _ _ _ => True) (fun _ U o U' => ∃ v L, o = .returned v ∧ (QP (some (.long (rS o1 q3))) h0 n0) v U'.heap L ∧ FrameEnd U o U' L ({ frames := 0, cells := 0, slots := 0, locals := 0 } : Room).cells ({ frames := 0, cells := 0, slots := 0, locals := 0 } : Room).slots) := by
  refine MetFree.of_bodySF (plainFor_of_name pnS) hisR ?_
  intro p e s m args below meth c s₁ Bd hml0 hP hK
  obtain ⟨rfl, hZ, hh⟩ := hP
  have hx := Bd.exec
  have hby := Bd.bytes
  have hml : c.maxLocals = 2 := hml0
  have hlk : meth.locks = false := BodyLoose.notSynchronized Bd
  have hown : s.vm.findClass "com/example/kubera/kubera/FlowNetwork" = some m.cls := findClass_of_methodNamed Bd.named
  have hnm := (name_of_methodNamed Bd.named Bd.method).1
  have w_73 := hw _ (List.mem_of_getElem? (i := 73) rfl)
  have w_121 := hw _ (List.mem_of_getElem? (i := 121) rfl)
  have hci : ∀ i v, (i, v) ∈ ([] : List (Nat × Int32)) → (Jvm.Cond.constant "com/example/kubera/kubera/FlowNetwork" i v).before #[(.ref x0), (.int 1)] s = true := own_ci0
  have hcl : ∀ i v, (i, v) ∈ ([(87, 9223372036854775807), (119, 2305843009213693951)] : List (Nat × Int64)) → (Jvm.Cond.constantLong "com/example/kubera/kubera/FlowNetwork" i v).before #[(.ref x0), (.int 1)] s = true := (own_ciS (mvT hZ w_73) (own_ciS (mvT hZ w_121) own_ci0))
  have X0 : Stand p l e ({ frames := 0, cells := 0, slots := 0, locals := 0 } : Room) s m #[(.ref x0), (.int 1)] below meth c s₁ [] 0 0 := Stand.of_body Bd
  have e0 : s₁.heap = h0 := by rw [← hh, Bd.state]; rfl
  have N0 := Fr.nil n0
  show Goes p e below s (QP (some (.long (rS o1 q3))) h0 n0) ({ frames := 0, cells := 0, slots := 0, locals := 0 } : Room).cells ({ frames := 0, cells := 0, slots := 0, locals := 0 } : Room).slots (s₁.setTop (entryFrame m #[(.ref x0), (.int 1)] 2))
  refine Goes.cast (efS m x0) ?_
  have hLK := own_lk2_ok hw
  have CX := Cx.mk hx hZ hown hci hcl hLK hby
  refine Goes.hrun X0 e0 CX (own_c1 F_lowers_x0 (own_c2 V_lo (own_c1 F_capacities_x0 (own_c2 V_cp own_n)))) (L := [.p 0 (.aload_n 0) 1, .f 1 25 0, .p 4 (.iload_n 1) 1, .J 5 1 1, .p 6 (.aload_n 0) 1, .f 7 18 2, .p 10 (.iconst 2) 1, .p 11 (.iload_n 1) 1, .p 12 .imul 1, .p 13 (.iconst 1) 1, .p 14 .iadd 1, .J 15 3 3, .p 16 .ladd 1]) (by decide +kernel) rfl (g' := (mkF m 17 #[rv x0, iv 1] [(.long (o1 + q3))])) rfl ⟨rr, ra (by decide), rr, ra (by decide), trivial⟩ ?_
  intro T1 X1 e1
  exact Goes.retJ X1 hx hlk Bd.returns (hb hby d16_17) ⟨(congrArg (fun z => some (Value.long z)) (show (rS o1 q3) = (o1 + q3) from rfl).symm), N0, e1⟩ (by decide) (by decide)
def own_m (e q : Int64) : Int64 := r3 (r3 (r3 (2305843009213693951 : Int64) e) q) e
theorem own_0 : (0 : Int64).toInt = 0 := by decide
theorem own_minI {a b : Int64} {A B : Int} (ha : a.toInt = A) (hb : b.toInt = B) : ∃ m : Int, (r3 a b).toInt = m ∧ (B < A ∧ m = B ∨ A ≤ B ∧ m = A) := by
  unfold r3
  by_cases h : b < a
  · rw [if_pos h]; rw [own_lt64 hb ha] at h; exact ⟨B, hb, Or.inl ⟨h, rfl⟩⟩
  · rw [if_neg h]; rw [own_lt64 hb ha] at h; exact ⟨A, ha, Or.inr ⟨by omega, rfl⟩⟩
theorem own_mI {e q : Int64} {E A : Int} (he : e.toInt = E) (hq : q.toInt = A) (h0 : 0 ≤ E) (h1 : E < 2 ^ 40) (h2 : 0 ≤ A) : ∃ m : Int, (own_m e q).toInt = m ∧ (E ≤ A ∧ m = E ∨ A < E ∧ m = A) := by
  obtain ⟨m1, e1, c1⟩ := own_minI (show (2305843009213693951 : Int64).toInt = 2305843009213693951 by decide) he
  obtain ⟨m2, e2, c2⟩ := own_minI e1 hq
  obtain ⟨m3, e3, c3⟩ := own_minI e2 he
  exact ⟨m3, e3, by omega⟩
def Bnd (ee en q0 q2 cA cB : Int64) : Prop := ∃ E A B X Y : Int, ee.toInt = E ∧ q0.toInt = A ∧ q2.toInt = B ∧ cA.toInt = X ∧ cB.toInt = Y ∧ (0 ≤ E ∧ 0 ≤ A ∧ A < 2 ^ 33 ∧ 0 ≤ B ∧ B < 2 ^ 33 ∧ E ≤ A + B ∧ 0 ≤ X ∧ X < 2 ^ 30 ∧ 0 ≤ Y ∧ Y < 2 ^ 30 ∧ X ≠ Y) ∧ en.toInt = -E
def own_xa (ee q0 q2 cA cB : Int64) : Int64 := if cA < cB then r3 q0 ee else ee - r3 q2 ee
def own_xb (ee q0 q2 cA cB : Int64) : Int64 := ee - own_xa ee q0 q2 cA cB
theorem own_a64 {x y : Int64} {a b : Int} (hx : x.toInt = a) (hy : y.toInt = b) (h : -2 ^ 62 ≤ a ∧ a < 2 ^ 62 ∧ -2 ^ 62 ≤ b ∧ b < 2 ^ 62) : (x + y).toInt = a + b := own_add64 hx hy (by omega) (by omega)
theorem own_s64 {x y : Int64} {a b : Int} (hx : x.toInt = a) (hy : y.toInt = b) (h : -2 ^ 62 ≤ a ∧ a < 2 ^ 62 ∧ -2 ^ 62 ≤ b ∧ b < 2 ^ 62) : (x - y).toInt = a - b := own_sub64 hx hy (by omega) (by omega)
theorem own_d1I {k P : Int64} {a b : Int} (hx : k.toInt = a) (hy : P.toInt = b) (h : -2 ^ 60 ≤ a ∧ a < 2 ^ 60 ∧ -2 ^ 60 ≤ b ∧ b < 2 ^ 60) : (own_d1 k P).toInt = a - b := by
  have e := own_s64 (own_a64 (own_a64 own_0 hx (by omega)) own_0 (by omega)) hy (by omega)
  exact e.trans (by omega)
theorem own_kz {k P : Int64} {a b : Int} (hx : k.toInt = a) (hy : P.toInt = b) (h : -2 ^ 60 ≤ a ∧ a < 2 ^ 60 ∧ -2 ^ 60 ≤ b ∧ b < 2 ^ 60) : (k + (0 : Int64)) - P = 0 ↔ a = b := by
  rw [own_eq64 (own_s64 (own_a64 hx own_0 (by omega)) hy (by omega)) own_0]; omega
theorem own_discp {x0 hd nx cp co fa lo : Addr} {khd knx kco kfa klo : ClassId} {cA nA cB nB la lb : Int64} (a1 : x0 ≠ cp) (a2 : fa ≠ cp) (a3 : hd ≠ cp) (a4 : nx ≠ cp) (a5 : co ≠ cp) (a6 : lo ≠ cp) : Dis (NetL x0 hd nx cp co fa lo khd knx kco kfa klo cA nA cB nB la lb) cp := by
  intro x hx
  simp only [NetL, List.mem_cons, List.not_mem_nil, or_false] at hx
  rcases hx with rfl | rfl | rfl | rfl | rfl | rfl | rfl | rfl | rfl | rfl | rfl | rfl | rfl | rfl <;> assumption
theorem own_a2 {ee en q0 q2 cA cB : Int64} (hB : Bnd ee en q0 q2 cA cB) (h : (0 : Int64) < ee) : ¬ (ee < (0 : Int64)) := by
  obtain ⟨E, A, B, X, Y, e1, e2, e3, e4, e5, hb, e6⟩ := hB
  rw [own_lt64 e1 own_0]; omega
theorem own_neg {ee en q0 q2 cA cB : Int64} (hB : Bnd ee en q0 q2 cA cB) : (-en).toInt = ee.toInt := by
  obtain ⟨E, A, B, X, Y, e1, e2, e3, e4, e5, hb, e6⟩ := hB
  rw [Jvm.Kit.i64_neg (by omega), e6, e1]; omega
theorem own_a3 {ee en q0 q2 cA cB : Int64} (hB : Bnd ee en q0 q2 cA cB) (h : (0 : Int64) < ee) : ¬ ((-en) < (0 : Int64)) := by
  have e := own_neg hB
  obtain ⟨E, A, B, X, Y, e1, e2, e3, e4, e5, hb, e6⟩ := hB
  rw [own_lt64 e own_0, e1]; omega
theorem own_up2 {ee en q0 q2 cA cB : Int64} (hB : Bnd ee en q0 q2 cA cB) : ee - (0 : Int64) = ee := Int64.sub_zero _
theorem own_up3 {ee en q0 q2 cA cB : Int64} (hB : Bnd ee en q0 q2 cA cB) : (-en) - (0 : Int64) = ee := by rw [Int64.sub_zero]; exact Int64.toInt_inj.mp (own_neg hB)
theorem own_n1 {ee en q0 q2 cA cB : Int64} (hB : Bnd ee en q0 q2 cA cB) : ¬ ((0 : Int64) < en) := by
  obtain ⟨E, A, B, X, Y, e1, e2, e3, e4, e5, hb, e6⟩ := hB
  rw [own_lt64 own_0 e6]; omega
theorem own_n2 {ee en q0 q2 cA cB : Int64} (hB : Bnd ee en q0 q2 cA cB) (h : (0 : Int64) < ee) : en < (0 : Int64) := by
  obtain ⟨E, A, B, X, Y, e1, e2, e3, e4, e5, hb, e6⟩ := hB
  rw [own_lt64 own_0 e1] at h; rw [own_lt64 e6 own_0]; omega
theorem own_n3 {ee en q0 q2 cA cB : Int64} (hB : Bnd ee en q0 q2 cA cB) : ¬ (ee < (0 : Int64)) := by
  obtain ⟨E, A, B, X, Y, e1, e2, e3, e4, e5, hb, e6⟩ := hB
  rw [own_lt64 e1 own_0]; omega
theorem own_n4 {ee en q0 q2 cA cB : Int64} (hB : Bnd ee en q0 q2 cA cB) (h : ¬ (0 : Int64) < ee) : ¬ (en < (0 : Int64)) := by
  obtain ⟨E, A, B, X, Y, e1, e2, e3, e4, e5, hb, e6⟩ := hB
  rw [own_lt64 own_0 e1] at h; rw [own_lt64 e6 own_0]; omega
theorem own_bal {ee en q0 q2 cA cB : Int64} (hB : Bnd ee en q0 q2 cA cB) : ((0 : Int64) + ee) + en = 0 := by
  obtain ⟨E, A, B, X, Y, e1, e2, e3, e4, e5, hb, e6⟩ := hB
  rw [own_eq64 (own_a64 (own_a64 own_0 e1 (by omega)) e6 (by omega)) own_0]; omega
theorem own_r1 {ee en q0 q2 cA cB : Int64} (hB : Bnd ee en q0 q2 cA cB) (h : (0 : Int64) < ee) : (0 : Int64) < (0 : Int64) + ee := by rw [Int64.zero_add]; exact h
theorem own_x0 {ee en q0 q2 cA cB : Int64} (hB : Bnd ee en q0 q2 cA cB) (h : ¬ (0 : Int64) < ee) : (0 : Int64) = own_xa ee q0 q2 cA cB ∧ (0 : Int64) = own_xb ee q0 q2 cA cB := by
  obtain ⟨E, A, B, X, Y, e1, e2, e3, e4, e5, hb, e6⟩ := hB
  rw [own_lt64 own_0 e1] at h
  have e0 : ee = 0 := (own_eq64 e1 own_0).mpr (by omega)
  have k : own_xa ee q0 q2 cA cB = 0 := by
    unfold own_xa
    split
    · obtain ⟨m, em, c⟩ := own_minI e2 e1
      exact (own_eq64 em own_0).mpr (by omega)
    · obtain ⟨m, em, c⟩ := own_minI e3 e1
      exact (own_eq64 (own_s64 e1 em (by omega)) own_0).mpr (by omega)
  unfold own_xb
  rw [k, e0]
  exact ⟨rfl, rfl⟩
theorem own_cases {ee en q0 q2 cA cB : Int64} (hB : Bnd ee en q0 q2 cA cB) (h : (0 : Int64) < ee) : ((0 : Int64) < q0 ∧ ((0 : Int64) < q2 → cA < cB)) ∨ ((0 : Int64) < q2 ∧ ((0 : Int64) < q0 → cB < cA)) := by
  obtain ⟨E, A, B, X, Y, e1, e2, e3, e4, e5, hb, e6⟩ := hB
  rw [own_lt64 own_0 e1] at h
  rw [own_lt64 own_0 e2, own_lt64 own_0 e3, own_lt64 e4 e5, own_lt64 e5 e4]
  omega
def own_u0_A1 (ee q0 q2 : Int64) : Int64 := q0 - own_m ee q0
def own_u1_A1 (ee q0 q2 : Int64) : Int64 := (0 : Int64) + own_m ee q0
def own_u2_A1 (ee q0 q2 : Int64) : Int64 := q2
def own_u3_A1 (ee q0 q2 : Int64) : Int64 := 0
def own_u4_A1 (ee q0 q2 : Int64) : Int64 := ee - own_m ee q0
def own_u5_A1 (ee q0 q2 : Int64) : Int64 := (0 : Int64) + own_m ee q0
def own_u7_A1 (ee q0 q2 : Int64) : Int64 := (0 : Int64) + own_m ee q0
def own_uw_A1 (ee q0 q2 : Int64) : Int64 := (0 : Int64) + own_m ee q0
def own_u0_A2 (ee q0 q2 : Int64) : Int64 := own_u0_A1 ee q0 q2
def own_u1_A2 (ee q0 q2 : Int64) : Int64 := own_u1_A1 ee q0 q2
def own_u2_A2 (ee q0 q2 : Int64) : Int64 := own_u2_A1 ee q0 q2 - own_m (own_u4_A1 ee q0 q2) (own_u2_A1 ee q0 q2)
def own_u3_A2 (ee q0 q2 : Int64) : Int64 := own_u3_A1 ee q0 q2 + own_m (own_u4_A1 ee q0 q2) (own_u2_A1 ee q0 q2)
def own_u4_A2 (ee q0 q2 : Int64) : Int64 := own_u4_A1 ee q0 q2 - own_m (own_u4_A1 ee q0 q2) (own_u2_A1 ee q0 q2)
def own_u5_A2 (ee q0 q2 : Int64) : Int64 := own_u5_A1 ee q0 q2 + own_m (own_u4_A1 ee q0 q2) (own_u2_A1 ee q0 q2)
def own_u7_A2 (ee q0 q2 : Int64) : Int64 := own_u7_A1 ee q0 q2 + own_m (own_u4_A1 ee q0 q2) (own_u2_A1 ee q0 q2)
def own_uw_A2 (ee q0 q2 : Int64) : Int64 := (0 : Int64) + own_m (own_u4_A1 ee q0 q2) (own_u2_A1 ee q0 q2)
theorem own_T1_A {ee en q0 q2 cA cB : Int64} (hB : Bnd ee en q0 q2 cA cB) (h : (0 : Int64) < ee) (hT : (0 : Int64) < q0 ∧ ((0 : Int64) < q2 → cA < cB)) : ∃ E A B X Y m : Int, ee.toInt = E ∧ q0.toInt = A ∧ q2.toInt = B ∧ cA.toInt = X ∧ cB.toInt = Y ∧ (0 < E ∧ 0 ≤ A ∧ A < 2 ^ 33 ∧ 0 ≤ B ∧ B < 2 ^ 33 ∧ E ≤ A + B ∧ 0 ≤ X ∧ X < 2 ^ 30 ∧ 0 ≤ Y ∧ Y < 2 ^ 30 ∧ X ≠ Y ∧ 0 < A ∧ (0 < B → X < Y) ∧ (E ≤ A ∧ m = E ∨ A < E ∧ m = A)) ∧ (own_m ee q0).toInt = m ∧ (own_u0_A1 ee q0 q2).toInt = A - m ∧ (own_u1_A1 ee q0 q2).toInt = m ∧ (own_u4_A1 ee q0 q2).toInt = E - m ∧ (own_uw_A1 ee q0 q2).toInt = m := by
  obtain ⟨E, A, B, X, Y, e1, e2, e3, e4, e5, hb, e6⟩ := hB
  obtain ⟨t1, t2⟩ := hT
  rw [own_lt64 own_0 e1] at h
  rw [own_lt64 own_0 e2] at t1
  rw [own_lt64 own_0 e3, own_lt64 e4 e5] at t2
  obtain ⟨m, em, c⟩ := own_mI e1 e2 (by omega) (by omega) (by omega)
  refine ⟨E, A, B, X, Y, m, e1, e2, e3, e4, e5, ?_, em, own_s64 e2 em (by omega), (own_a64 own_0 em (by omega)).trans (by omega), own_s64 e1 em (by omega), (own_a64 own_0 em (by omega)).trans (by omega)⟩
  omega
theorem own_T2_A {ee en q0 q2 cA cB : Int64} (hB : Bnd ee en q0 q2 cA cB) (h : (0 : Int64) < ee) (hT : (0 : Int64) < q0 ∧ ((0 : Int64) < q2 → cA < cB)) (hc : ((0 : Int64) + (own_uw_A1 ee q0 q2) < (0 : Int64) + ee)) : ∃ E A B X Y m n : Int, ee.toInt = E ∧ q0.toInt = A ∧ q2.toInt = B ∧ cA.toInt = X ∧ cB.toInt = Y ∧ (0 < E ∧ 0 ≤ A ∧ A < 2 ^ 33 ∧ 0 ≤ B ∧ B < 2 ^ 33 ∧ E ≤ A + B ∧ 0 ≤ X ∧ X < 2 ^ 30 ∧ 0 ≤ Y ∧ Y < 2 ^ 30 ∧ X ≠ Y ∧ 0 < A ∧ (0 < B → X < Y) ∧ A < E ∧ m = A ∧ n = E - A) ∧ (own_u0_A1 ee q0 q2).toInt = 0 ∧ (own_u1_A1 ee q0 q2).toInt = m ∧ (own_u4_A1 ee q0 q2).toInt = n ∧ (own_uw_A1 ee q0 q2).toInt = m ∧ (own_m (own_u4_A1 ee q0 q2) (own_u2_A1 ee q0 q2)).toInt = n ∧ (own_u2_A2 ee q0 q2).toInt = B - n ∧ (own_u3_A2 ee q0 q2).toInt = n ∧ (own_u4_A2 ee q0 q2).toInt = 0 ∧ (own_uw_A2 ee q0 q2).toInt = n := by
  obtain ⟨E, A, B, X, Y, m, e1, e2, e3, e4, e5, hb, em, f0, f1, f4, fw⟩ := own_T1_A hB h hT
  rw [own_lt64 (own_a64 own_0 fw (by omega)) (own_a64 own_0 e1 (by omega))] at hc
  obtain ⟨n, en', c⟩ := own_mI f4 (show (own_u2_A1 ee q0 q2).toInt = B from e3) (by omega) (by omega) (by omega)
  refine ⟨E, A, B, X, Y, m, n, e1, e2, e3, e4, e5, ?_, f0.trans (by omega), f1, f4.trans (by omega), fw, en', own_s64 (show (own_u2_A1 ee q0 q2).toInt = B from e3) en' (by omega), (own_a64 (show (own_u3_A1 ee q0 q2).toInt = 0 from own_0) en' (by omega)).trans (by omega), (own_s64 f4 en' (by omega)).trans (by omega), (own_a64 own_0 en' (by omega)).trans (by omega)⟩
  omega
theorem own_h4_A1 {ee en q0 q2 cA cB : Int64} (hB : Bnd ee en q0 q2 cA cB) (h : (0 : Int64) < ee) (hT : (0 : Int64) < q0 ∧ ((0 : Int64) < q2 → cA < cB)) : (0 : Int64) < ee := h
theorem own_hMA_A1 {ee en q0 q2 cA cB : Int64} (hB : Bnd ee en q0 q2 cA cB) (h : (0 : Int64) < ee) (hT : (0 : Int64) < q0 ∧ ((0 : Int64) < q2 → cA < cB)) : own_d1 cA (0 : Int64) < (9223372036854775807 : Int64) := by
  obtain ⟨E, A, B, X, Y, m, e1, e2, e3, e4, e5, hb, em, f0, f1, f4, fw⟩ := own_T1_A hB h hT
  rw [own_lt64 (own_d1I e4 own_0 (by omega)) (show (9223372036854775807 : Int64).toInt = 9223372036854775807 by decide)]; omega
theorem own_hMB_A1 {ee en q0 q2 cA cB : Int64} (hB : Bnd ee en q0 q2 cA cB) (h : (0 : Int64) < ee) (hT : (0 : Int64) < q0 ∧ ((0 : Int64) < q2 → cA < cB)) : own_d1 cB (0 : Int64) < (9223372036854775807 : Int64) := by
  obtain ⟨E, A, B, X, Y, m, e1, e2, e3, e4, e5, hb, em, f0, f1, f4, fw⟩ := own_T1_A hB h hT
  rw [own_lt64 (own_d1I e5 own_0 (by omega)) (show (9223372036854775807 : Int64).toInt = 9223372036854775807 by decide)]; omega
theorem own_hV_A1 {ee en q0 q2 cA cB : Int64} (hB : Bnd ee en q0 q2 cA cB) (h : (0 : Int64) < ee) (hT : (0 : Int64) < q0 ∧ ((0 : Int64) < q2 → cA < cB)) : ((0 : Int64) < q2 ∧ (0 : Int64) < q0 ∧ own_d1 cA (0 : Int64) < own_d1 cB (0 : Int64) ∧ cA = cA) ∨ ((0 : Int64) < q2 ∧ ((0 : Int64) < q0 → ¬ own_d1 cA (0 : Int64) < own_d1 cB (0 : Int64)) ∧ cA = cB) ∨ (¬ (0 : Int64) < q2 ∧ (0 : Int64) < q0 ∧ cA = cA) := by
  obtain ⟨E, A, B, X, Y, m, e1, e2, e3, e4, e5, hb, em, f0, f1, f4, fw⟩ := own_T1_A hB h hT
  rw [own_lt64 own_0 e2, own_lt64 own_0 e3, own_lt64 (own_d1I e4 own_0 (by omega)) (own_d1I e5 own_0 (by omega))]
  by_cases z : 0 < B
  · exact Or.inl ⟨z, by omega, by omega, rfl⟩
  · exact Or.inr (Or.inr ⟨z, by omega, rfl⟩)
theorem own_bV_A1 {ee en q0 q2 cA cB : Int64} (hB : Bnd ee en q0 q2 cA cB) (h : (0 : Int64) < ee) (hT : (0 : Int64) < q0 ∧ ((0 : Int64) < q2 → cA < cB)) : ((0 : Int64) < q0 ∧ (cA + (0 : Int64)) - cA = 0 ∧ ¬ ((cB + (0 : Int64)) - cA = 0) ∧ ((0 : Int64) < ee - (r3 (r3 (r3 (2305843009213693951 : Int64) ee) q0) ee) → ¬ (0 : Int64) < q0 - (r3 (r3 (r3 (2305843009213693951 : Int64) ee) q0) ee)) ∧ q0 - (r3 (r3 (r3 (2305843009213693951 : Int64) ee) q0) ee) = (own_u0_A1 ee q0 q2) ∧ (0 : Int64) + (r3 (r3 (r3 (2305843009213693951 : Int64) ee) q0) ee) = (own_u1_A1 ee q0 q2) ∧ q2 = (own_u2_A1 ee q0 q2) ∧ (0 : Int64) = (own_u3_A1 ee q0 q2) ∧ ee - (r3 (r3 (r3 (2305843009213693951 : Int64) ee) q0) ee) = (own_u4_A1 ee q0 q2) ∧ (0 : Int64) + (r3 (r3 (r3 (2305843009213693951 : Int64) ee) q0) ee) = (own_u5_A1 ee q0 q2) ∧ (0 : Int64) + (r3 (r3 (r3 (2305843009213693951 : Int64) ee) q0) ee) = (own_u7_A1 ee q0 q2) ∧ (0 : Int64) + (r3 (r3 (r3 (2305843009213693951 : Int64) ee) q0) ee) = (own_uw_A1 ee q0 q2)) ∨ ((0 : Int64) < q2 ∧ (cB + (0 : Int64)) - cA = 0 ∧ ¬ ((cA + (0 : Int64)) - cA = 0) ∧ ((0 : Int64) < ee - (r3 (r3 (r3 (2305843009213693951 : Int64) ee) q2) ee) → ¬ (0 : Int64) < q2 - (r3 (r3 (r3 (2305843009213693951 : Int64) ee) q2) ee)) ∧ q0 = (own_u0_A1 ee q0 q2) ∧ (0 : Int64) = (own_u1_A1 ee q0 q2) ∧ q2 - (r3 (r3 (r3 (2305843009213693951 : Int64) ee) q2) ee) = (own_u2_A1 ee q0 q2) ∧ (0 : Int64) + (r3 (r3 (r3 (2305843009213693951 : Int64) ee) q2) ee) = (own_u3_A1 ee q0 q2) ∧ ee - (r3 (r3 (r3 (2305843009213693951 : Int64) ee) q2) ee) = (own_u4_A1 ee q0 q2) ∧ (0 : Int64) + (r3 (r3 (r3 (2305843009213693951 : Int64) ee) q2) ee) = (own_u5_A1 ee q0 q2) ∧ (0 : Int64) + (r3 (r3 (r3 (2305843009213693951 : Int64) ee) q2) ee) = (own_u7_A1 ee q0 q2) ∧ (0 : Int64) + (r3 (r3 (r3 (2305843009213693951 : Int64) ee) q2) ee) = (own_uw_A1 ee q0 q2)) := by
  obtain ⟨E, A, B, X, Y, m, e1, e2, e3, e4, e5, hb, em, f0, f1, f4, fw⟩ := own_T1_A hB h hT
  refine Or.inl ⟨hT.1, (own_kz e4 e4 (by omega)).mpr rfl, fun z => ?_, fun z => ?_, rfl, rfl, rfl, rfl, rfl, rfl, rfl, rfl⟩
  · have := (own_kz e5 e4 (by omega)).mp z; omega
  · have z' : (0 : Int64) < own_u4_A1 ee q0 q2 := z
    rw [own_lt64 own_0 f4] at z'
    show ¬ (0 : Int64) < own_u0_A1 ee q0 q2
    rw [own_lt64 own_0 f0]; omega
theorem own_hz0_A1 {ee en q0 q2 cA cB : Int64} (hB : Bnd ee en q0 q2 cA cB) (h : (0 : Int64) < ee) (hT : (0 : Int64) < q0 ∧ ((0 : Int64) < q2 → cA < cB)) : (0 : Int64) < own_u4_A1 ee q0 q2 → rE0 cA (own_u0_A1 ee q0 q2) cA = 0 := by
  obtain ⟨E, A, B, X, Y, m, e1, e2, e3, e4, e5, hb, em, f0, f1, f4, fw⟩ := own_T1_A hB h hT
  intro z
  rw [own_lt64 own_0 f4] at z
  exact own_f2 (by rw [own_lt64 own_0 f0]; omega)
theorem own_hz2_A1 {ee en q0 q2 cA cB : Int64} (hB : Bnd ee en q0 q2 cA cB) (h : (0 : Int64) < ee) (hT : (0 : Int64) < q0 ∧ ((0 : Int64) < q2 → cA < cB)) : (0 : Int64) < own_u4_A1 ee q0 q2 → rE2 cB (own_u2_A1 ee q0 q2) cA = 0 := by
  obtain ⟨E, A, B, X, Y, m, e1, e2, e3, e4, e5, hb, em, f0, f1, f4, fw⟩ := own_T1_A hB h hT
  intro _
  exact own_g2 (fun z => by have := (own_kz e5 e4 (by omega)).mp z; omega)
theorem own_p_A1 {ee en q0 q2 cA cB : Int64} (hB : Bnd ee en q0 q2 cA cB) (h : (0 : Int64) < ee) (hT : (0 : Int64) < q0 ∧ ((0 : Int64) < q2 → cA < cB)) : (0 : Int64) < own_uw_A1 ee q0 q2 := by
  obtain ⟨E, A, B, X, Y, m, e1, e2, e3, e4, e5, hb, em, f0, f1, f4, fw⟩ := own_T1_A hB h hT
  rw [own_lt64 own_0 fw]; omega
theorem own_f1_A {ee en q0 q2 cA cB : Int64} (hB : Bnd ee en q0 q2 cA cB) (h : (0 : Int64) < ee) (hT : (0 : Int64) < q0 ∧ ((0 : Int64) < q2 → cA < cB)) (hc : ¬ ((0 : Int64) + (own_uw_A1 ee q0 q2) < (0 : Int64) + ee)) : (0 : Int64) + (own_uw_A1 ee q0 q2) = (0 : Int64) + ee := by
  obtain ⟨E, A, B, X, Y, m, e1, e2, e3, e4, e5, hb, em, f0, f1, f4, fw⟩ := own_T1_A hB h hT
  rw [own_lt64 (own_a64 own_0 fw (by omega)) (own_a64 own_0 e1 (by omega))] at hc
  exact (own_eq64 (own_a64 own_0 fw (by omega)) (own_a64 own_0 e1 (by omega))).mpr (by omega)
theorem own_x1_A {ee en q0 q2 cA cB : Int64} (hB : Bnd ee en q0 q2 cA cB) (h : (0 : Int64) < ee) (hT : (0 : Int64) < q0 ∧ ((0 : Int64) < q2 → cA < cB)) (hc : ¬ ((0 : Int64) + (own_uw_A1 ee q0 q2) < (0 : Int64) + ee)) : own_u1_A1 ee q0 q2 = own_xa ee q0 q2 cA cB ∧ own_u3_A1 ee q0 q2 = own_xb ee q0 q2 cA cB := by
  obtain ⟨E, A, B, X, Y, m, e1, e2, e3, e4, e5, hb, em, f0, f1, f4, fw⟩ := own_T1_A hB h hT
  rw [own_lt64 (own_a64 own_0 fw (by omega)) (own_a64 own_0 e1 (by omega))] at hc
  have k : own_xa ee q0 q2 cA cB = own_u1_A1 ee q0 q2 := by
    unfold own_xa
    by_cases z : cA < cB
    · rw [if_pos z]
      rw [own_lt64 e4 e5] at z
      obtain ⟨w, ew, c⟩ := own_minI e2 e1
      exact (own_eq64 ew f1).mpr (by omega)
    · rw [if_neg z]
      rw [own_lt64 e4 e5] at z
      obtain ⟨w, ew, c⟩ := own_minI e3 e1
      exact (own_eq64 (own_s64 e1 ew (by omega)) f1).mpr (by omega)
  unfold own_xb
  rw [k]
  exact ⟨rfl, (own_eq64 (show (own_u3_A1 ee q0 q2).toInt = 0 from own_0) (own_s64 e1 f1 (by omega))).mpr (by omega)⟩
theorem own_h4_A2 {ee en q0 q2 cA cB : Int64} (hB : Bnd ee en q0 q2 cA cB) (h : (0 : Int64) < ee) (hT : (0 : Int64) < q0 ∧ ((0 : Int64) < q2 → cA < cB)) (hc : ((0 : Int64) + (own_uw_A1 ee q0 q2) < (0 : Int64) + ee)) : (0 : Int64) < own_u4_A1 ee q0 q2 := by
  obtain ⟨E, A, B, X, Y, m, n, e1, e2, e3, e4, e5, hb, f0, f1, f4, fw, en', g0, g1, g4, gw⟩ := own_T2_A hB h hT hc
  rw [own_lt64 own_0 f4]; omega
theorem own_hMA_A2 {ee en q0 q2 cA cB : Int64} (hB : Bnd ee en q0 q2 cA cB) (h : (0 : Int64) < ee) (hT : (0 : Int64) < q0 ∧ ((0 : Int64) < q2 → cA < cB)) (hc : ((0 : Int64) + (own_uw_A1 ee q0 q2) < (0 : Int64) + ee)) : own_d1 cA cA < (9223372036854775807 : Int64) := by
  obtain ⟨E, A, B, X, Y, m, n, e1, e2, e3, e4, e5, hb, f0, f1, f4, fw, en', g0, g1, g4, gw⟩ := own_T2_A hB h hT hc
  rw [own_lt64 (own_d1I e4 e4 (by omega)) (show (9223372036854775807 : Int64).toInt = 9223372036854775807 by decide)]; omega
theorem own_hMB_A2 {ee en q0 q2 cA cB : Int64} (hB : Bnd ee en q0 q2 cA cB) (h : (0 : Int64) < ee) (hT : (0 : Int64) < q0 ∧ ((0 : Int64) < q2 → cA < cB)) (hc : ((0 : Int64) + (own_uw_A1 ee q0 q2) < (0 : Int64) + ee)) : own_d1 cB cA < (9223372036854775807 : Int64) := by
  obtain ⟨E, A, B, X, Y, m, n, e1, e2, e3, e4, e5, hb, f0, f1, f4, fw, en', g0, g1, g4, gw⟩ := own_T2_A hB h hT hc
  rw [own_lt64 (own_d1I e5 e4 (by omega)) (show (9223372036854775807 : Int64).toInt = 9223372036854775807 by decide)]; omega
theorem own_hV_A2 {ee en q0 q2 cA cB : Int64} (hB : Bnd ee en q0 q2 cA cB) (h : (0 : Int64) < ee) (hT : (0 : Int64) < q0 ∧ ((0 : Int64) < q2 → cA < cB)) (hc : ((0 : Int64) + (own_uw_A1 ee q0 q2) < (0 : Int64) + ee)) : ((0 : Int64) < (own_u2_A1 ee q0 q2) ∧ (0 : Int64) < (own_u0_A1 ee q0 q2) ∧ own_d1 cA cA < own_d1 cB cA ∧ cB = cA) ∨ ((0 : Int64) < (own_u2_A1 ee q0 q2) ∧ ((0 : Int64) < (own_u0_A1 ee q0 q2) → ¬ own_d1 cA cA < own_d1 cB cA) ∧ cB = cB) ∨ (¬ (0 : Int64) < (own_u2_A1 ee q0 q2) ∧ (0 : Int64) < (own_u0_A1 ee q0 q2) ∧ cB = cA) := by
  obtain ⟨E, A, B, X, Y, m, n, e1, e2, e3, e4, e5, hb, f0, f1, f4, fw, en', g0, g1, g4, gw⟩ := own_T2_A hB h hT hc
  rw [own_lt64 own_0 f0, own_lt64 own_0 (show (own_u2_A1 ee q0 q2).toInt = B from e3)]
  exact Or.inr (Or.inl ⟨by omega, fun z => absurd z (by omega), rfl⟩)
theorem own_bV_A2 {ee en q0 q2 cA cB : Int64} (hB : Bnd ee en q0 q2 cA cB) (h : (0 : Int64) < ee) (hT : (0 : Int64) < q0 ∧ ((0 : Int64) < q2 → cA < cB)) (hc : ((0 : Int64) + (own_uw_A1 ee q0 q2) < (0 : Int64) + ee)) : ((0 : Int64) < (own_u0_A1 ee q0 q2) ∧ (cA + (0 : Int64)) - cB = 0 ∧ ¬ ((cB + (0 : Int64)) - cB = 0) ∧ ((0 : Int64) < (own_u4_A1 ee q0 q2) - (r3 (r3 (r3 (2305843009213693951 : Int64) (own_u4_A1 ee q0 q2)) (own_u0_A1 ee q0 q2)) (own_u4_A1 ee q0 q2)) → ¬ (0 : Int64) < (own_u0_A1 ee q0 q2) - (r3 (r3 (r3 (2305843009213693951 : Int64) (own_u4_A1 ee q0 q2)) (own_u0_A1 ee q0 q2)) (own_u4_A1 ee q0 q2))) ∧ (own_u0_A1 ee q0 q2) - (r3 (r3 (r3 (2305843009213693951 : Int64) (own_u4_A1 ee q0 q2)) (own_u0_A1 ee q0 q2)) (own_u4_A1 ee q0 q2)) = (own_u0_A2 ee q0 q2) ∧ (own_u1_A1 ee q0 q2) + (r3 (r3 (r3 (2305843009213693951 : Int64) (own_u4_A1 ee q0 q2)) (own_u0_A1 ee q0 q2)) (own_u4_A1 ee q0 q2)) = (own_u1_A2 ee q0 q2) ∧ (own_u2_A1 ee q0 q2) = (own_u2_A2 ee q0 q2) ∧ (own_u3_A1 ee q0 q2) = (own_u3_A2 ee q0 q2) ∧ (own_u4_A1 ee q0 q2) - (r3 (r3 (r3 (2305843009213693951 : Int64) (own_u4_A1 ee q0 q2)) (own_u0_A1 ee q0 q2)) (own_u4_A1 ee q0 q2)) = (own_u4_A2 ee q0 q2) ∧ (own_u5_A1 ee q0 q2) + (r3 (r3 (r3 (2305843009213693951 : Int64) (own_u4_A1 ee q0 q2)) (own_u0_A1 ee q0 q2)) (own_u4_A1 ee q0 q2)) = (own_u5_A2 ee q0 q2) ∧ (own_u7_A1 ee q0 q2) + (r3 (r3 (r3 (2305843009213693951 : Int64) (own_u4_A1 ee q0 q2)) (own_u0_A1 ee q0 q2)) (own_u4_A1 ee q0 q2)) = (own_u7_A2 ee q0 q2) ∧ (0 : Int64) + (r3 (r3 (r3 (2305843009213693951 : Int64) (own_u4_A1 ee q0 q2)) (own_u0_A1 ee q0 q2)) (own_u4_A1 ee q0 q2)) = (own_uw_A2 ee q0 q2)) ∨ ((0 : Int64) < (own_u2_A1 ee q0 q2) ∧ (cB + (0 : Int64)) - cB = 0 ∧ ¬ ((cA + (0 : Int64)) - cB = 0) ∧ ((0 : Int64) < (own_u4_A1 ee q0 q2) - (r3 (r3 (r3 (2305843009213693951 : Int64) (own_u4_A1 ee q0 q2)) (own_u2_A1 ee q0 q2)) (own_u4_A1 ee q0 q2)) → ¬ (0 : Int64) < (own_u2_A1 ee q0 q2) - (r3 (r3 (r3 (2305843009213693951 : Int64) (own_u4_A1 ee q0 q2)) (own_u2_A1 ee q0 q2)) (own_u4_A1 ee q0 q2))) ∧ (own_u0_A1 ee q0 q2) = (own_u0_A2 ee q0 q2) ∧ (own_u1_A1 ee q0 q2) = (own_u1_A2 ee q0 q2) ∧ (own_u2_A1 ee q0 q2) - (r3 (r3 (r3 (2305843009213693951 : Int64) (own_u4_A1 ee q0 q2)) (own_u2_A1 ee q0 q2)) (own_u4_A1 ee q0 q2)) = (own_u2_A2 ee q0 q2) ∧ (own_u3_A1 ee q0 q2) + (r3 (r3 (r3 (2305843009213693951 : Int64) (own_u4_A1 ee q0 q2)) (own_u2_A1 ee q0 q2)) (own_u4_A1 ee q0 q2)) = (own_u3_A2 ee q0 q2) ∧ (own_u4_A1 ee q0 q2) - (r3 (r3 (r3 (2305843009213693951 : Int64) (own_u4_A1 ee q0 q2)) (own_u2_A1 ee q0 q2)) (own_u4_A1 ee q0 q2)) = (own_u4_A2 ee q0 q2) ∧ (own_u5_A1 ee q0 q2) + (r3 (r3 (r3 (2305843009213693951 : Int64) (own_u4_A1 ee q0 q2)) (own_u2_A1 ee q0 q2)) (own_u4_A1 ee q0 q2)) = (own_u5_A2 ee q0 q2) ∧ (own_u7_A1 ee q0 q2) + (r3 (r3 (r3 (2305843009213693951 : Int64) (own_u4_A1 ee q0 q2)) (own_u2_A1 ee q0 q2)) (own_u4_A1 ee q0 q2)) = (own_u7_A2 ee q0 q2) ∧ (0 : Int64) + (r3 (r3 (r3 (2305843009213693951 : Int64) (own_u4_A1 ee q0 q2)) (own_u2_A1 ee q0 q2)) (own_u4_A1 ee q0 q2)) = (own_uw_A2 ee q0 q2)) := by
  obtain ⟨E, A, B, X, Y, m, n, e1, e2, e3, e4, e5, hb, f0, f1, f4, fw, en', g0, g1, g4, gw⟩ := own_T2_A hB h hT hc
  refine Or.inr ⟨(own_lt64 own_0 (show (own_u2_A1 ee q0 q2).toInt = B from e3)).mpr (by omega), (own_kz e5 e5 (by omega)).mpr rfl, fun z => ?_, fun z => ?_, rfl, rfl, rfl, rfl, rfl, rfl, rfl, rfl⟩
  · have := (own_kz e4 e5 (by omega)).mp z; omega
  · have z' : (0 : Int64) < own_u4_A2 ee q0 q2 := z
    rw [own_lt64 own_0 g4] at z'; omega
theorem own_hz2_A2 {ee en q0 q2 cA cB : Int64} (hB : Bnd ee en q0 q2 cA cB) (h : (0 : Int64) < ee) (hT : (0 : Int64) < q0 ∧ ((0 : Int64) < q2 → cA < cB)) (hc : ((0 : Int64) + (own_uw_A1 ee q0 q2) < (0 : Int64) + ee)) : (0 : Int64) < own_u4_A2 ee q0 q2 → rE2 cB (own_u2_A2 ee q0 q2) cB = 0 := by
  obtain ⟨E, A, B, X, Y, m, n, e1, e2, e3, e4, e5, hb, f0, f1, f4, fw, en', g0, g1, g4, gw⟩ := own_T2_A hB h hT hc
  intro z
  rw [own_lt64 own_0 g4] at z; omega
theorem own_hz0_A2 {ee en q0 q2 cA cB : Int64} (hB : Bnd ee en q0 q2 cA cB) (h : (0 : Int64) < ee) (hT : (0 : Int64) < q0 ∧ ((0 : Int64) < q2 → cA < cB)) (hc : ((0 : Int64) + (own_uw_A1 ee q0 q2) < (0 : Int64) + ee)) : (0 : Int64) < own_u4_A2 ee q0 q2 → rE0 cA (own_u0_A2 ee q0 q2) cB = 0 := by
  obtain ⟨E, A, B, X, Y, m, n, e1, e2, e3, e4, e5, hb, f0, f1, f4, fw, en', g0, g1, g4, gw⟩ := own_T2_A hB h hT hc
  intro z
  rw [own_lt64 own_0 g4] at z; omega
theorem own_p_A2 {ee en q0 q2 cA cB : Int64} (hB : Bnd ee en q0 q2 cA cB) (h : (0 : Int64) < ee) (hT : (0 : Int64) < q0 ∧ ((0 : Int64) < q2 → cA < cB)) (hc : ((0 : Int64) + (own_uw_A1 ee q0 q2) < (0 : Int64) + ee)) : (0 : Int64) < own_uw_A2 ee q0 q2 := by
  obtain ⟨E, A, B, X, Y, m, n, e1, e2, e3, e4, e5, hb, f0, f1, f4, fw, en', g0, g1, g4, gw⟩ := own_T2_A hB h hT hc
  rw [own_lt64 own_0 gw]; omega
theorem own_f2_A {ee en q0 q2 cA cB : Int64} (hB : Bnd ee en q0 q2 cA cB) (h : (0 : Int64) < ee) (hT : (0 : Int64) < q0 ∧ ((0 : Int64) < q2 → cA < cB)) (hc : ((0 : Int64) + (own_uw_A1 ee q0 q2) < (0 : Int64) + ee)) : ((0 : Int64) + (own_uw_A1 ee q0 q2)) + (own_uw_A2 ee q0 q2) = (0 : Int64) + ee := by
  obtain ⟨E, A, B, X, Y, m, n, e1, e2, e3, e4, e5, hb, f0, f1, f4, fw, en', g0, g1, g4, gw⟩ := own_T2_A hB h hT hc
  exact (own_eq64 (own_a64 (own_a64 own_0 fw (by omega)) gw (by omega)) (own_a64 own_0 e1 (by omega))).mpr (by omega)
theorem own_l_A {ee en q0 q2 cA cB : Int64} (hB : Bnd ee en q0 q2 cA cB) (h : (0 : Int64) < ee) (hT : (0 : Int64) < q0 ∧ ((0 : Int64) < q2 → cA < cB)) (hc : ((0 : Int64) + (own_uw_A1 ee q0 q2) < (0 : Int64) + ee)) : ¬ (((0 : Int64) + (own_uw_A1 ee q0 q2)) + (own_uw_A2 ee q0 q2) < (0 : Int64) + ee) := by rw [own_f2_A hB h hT hc]; exact Int64.lt_irrefl
theorem own_x2_A {ee en q0 q2 cA cB : Int64} (hB : Bnd ee en q0 q2 cA cB) (h : (0 : Int64) < ee) (hT : (0 : Int64) < q0 ∧ ((0 : Int64) < q2 → cA < cB)) (hc : ((0 : Int64) + (own_uw_A1 ee q0 q2) < (0 : Int64) + ee)) : own_u1_A2 ee q0 q2 = own_xa ee q0 q2 cA cB ∧ own_u3_A2 ee q0 q2 = own_xb ee q0 q2 cA cB := by
  obtain ⟨E, A, B, X, Y, m, n, e1, e2, e3, e4, e5, hb, f0, f1, f4, fw, en', g0, g1, g4, gw⟩ := own_T2_A hB h hT hc
  have k : own_xa ee q0 q2 cA cB = own_u1_A2 ee q0 q2 := by
    unfold own_xa
    by_cases z : cA < cB
    · rw [if_pos z]
      rw [own_lt64 e4 e5] at z
      obtain ⟨w, ew, c⟩ := own_minI e2 e1
      exact (own_eq64 ew (show (own_u1_A2 ee q0 q2).toInt = m from f1)).mpr (by omega)
    · rw [if_neg z]
      rw [own_lt64 e4 e5] at z
      obtain ⟨w, ew, c⟩ := own_minI e3 e1
      exact (own_eq64 (own_s64 e1 ew (by omega)) (show (own_u1_A2 ee q0 q2).toInt = m from f1)).mpr (by omega)
  unfold own_xb
  rw [k]
  exact ⟨rfl, (own_eq64 g1 (own_s64 e1 (show (own_u1_A2 ee q0 q2).toInt = m from f1) (by omega))).mpr (by omega)⟩
def own_u0_B1 (ee q0 q2 : Int64) : Int64 := q0
def own_u1_B1 (ee q0 q2 : Int64) : Int64 := 0
def own_u2_B1 (ee q0 q2 : Int64) : Int64 := q2 - own_m ee q2
def own_u3_B1 (ee q0 q2 : Int64) : Int64 := (0 : Int64) + own_m ee q2
def own_u4_B1 (ee q0 q2 : Int64) : Int64 := ee - own_m ee q2
def own_u5_B1 (ee q0 q2 : Int64) : Int64 := (0 : Int64) + own_m ee q2
def own_u7_B1 (ee q0 q2 : Int64) : Int64 := (0 : Int64) + own_m ee q2
def own_uw_B1 (ee q0 q2 : Int64) : Int64 := (0 : Int64) + own_m ee q2
def own_u0_B2 (ee q0 q2 : Int64) : Int64 := own_u0_B1 ee q0 q2 - own_m (own_u4_B1 ee q0 q2) (own_u0_B1 ee q0 q2)
def own_u1_B2 (ee q0 q2 : Int64) : Int64 := own_u1_B1 ee q0 q2 + own_m (own_u4_B1 ee q0 q2) (own_u0_B1 ee q0 q2)
def own_u2_B2 (ee q0 q2 : Int64) : Int64 := own_u2_B1 ee q0 q2
def own_u3_B2 (ee q0 q2 : Int64) : Int64 := own_u3_B1 ee q0 q2
def own_u4_B2 (ee q0 q2 : Int64) : Int64 := own_u4_B1 ee q0 q2 - own_m (own_u4_B1 ee q0 q2) (own_u0_B1 ee q0 q2)
def own_u5_B2 (ee q0 q2 : Int64) : Int64 := own_u5_B1 ee q0 q2 + own_m (own_u4_B1 ee q0 q2) (own_u0_B1 ee q0 q2)
def own_u7_B2 (ee q0 q2 : Int64) : Int64 := own_u7_B1 ee q0 q2 + own_m (own_u4_B1 ee q0 q2) (own_u0_B1 ee q0 q2)
def own_uw_B2 (ee q0 q2 : Int64) : Int64 := (0 : Int64) + own_m (own_u4_B1 ee q0 q2) (own_u0_B1 ee q0 q2)
theorem own_T1_B {ee en q0 q2 cA cB : Int64} (hB : Bnd ee en q0 q2 cA cB) (h : (0 : Int64) < ee) (hT : (0 : Int64) < q2 ∧ ((0 : Int64) < q0 → cB < cA)) : ∃ E A B X Y m : Int, ee.toInt = E ∧ q0.toInt = A ∧ q2.toInt = B ∧ cA.toInt = X ∧ cB.toInt = Y ∧ (0 < E ∧ 0 ≤ A ∧ A < 2 ^ 33 ∧ 0 ≤ B ∧ B < 2 ^ 33 ∧ E ≤ A + B ∧ 0 ≤ X ∧ X < 2 ^ 30 ∧ 0 ≤ Y ∧ Y < 2 ^ 30 ∧ X ≠ Y ∧ 0 < B ∧ (0 < A → Y < X) ∧ (E ≤ B ∧ m = E ∨ B < E ∧ m = B)) ∧ (own_m ee q2).toInt = m ∧ (own_u2_B1 ee q0 q2).toInt = B - m ∧ (own_u3_B1 ee q0 q2).toInt = m ∧ (own_u4_B1 ee q0 q2).toInt = E - m ∧ (own_uw_B1 ee q0 q2).toInt = m := by
  obtain ⟨E, A, B, X, Y, e1, e2, e3, e4, e5, hb, e6⟩ := hB
  obtain ⟨t1, t2⟩ := hT
  rw [own_lt64 own_0 e1] at h
  rw [own_lt64 own_0 e3] at t1
  rw [own_lt64 own_0 e2, own_lt64 e5 e4] at t2
  obtain ⟨m, em, c⟩ := own_mI e1 e3 (by omega) (by omega) (by omega)
  refine ⟨E, A, B, X, Y, m, e1, e2, e3, e4, e5, ?_, em, own_s64 e3 em (by omega), (own_a64 own_0 em (by omega)).trans (by omega), own_s64 e1 em (by omega), (own_a64 own_0 em (by omega)).trans (by omega)⟩
  omega
theorem own_T2_B {ee en q0 q2 cA cB : Int64} (hB : Bnd ee en q0 q2 cA cB) (h : (0 : Int64) < ee) (hT : (0 : Int64) < q2 ∧ ((0 : Int64) < q0 → cB < cA)) (hc : ((0 : Int64) + (own_uw_B1 ee q0 q2) < (0 : Int64) + ee)) : ∃ E A B X Y m n : Int, ee.toInt = E ∧ q0.toInt = A ∧ q2.toInt = B ∧ cA.toInt = X ∧ cB.toInt = Y ∧ (0 < E ∧ 0 ≤ A ∧ A < 2 ^ 33 ∧ 0 ≤ B ∧ B < 2 ^ 33 ∧ E ≤ A + B ∧ 0 ≤ X ∧ X < 2 ^ 30 ∧ 0 ≤ Y ∧ Y < 2 ^ 30 ∧ X ≠ Y ∧ 0 < B ∧ (0 < A → Y < X) ∧ B < E ∧ m = B ∧ n = E - B) ∧ (own_u2_B1 ee q0 q2).toInt = 0 ∧ (own_u3_B1 ee q0 q2).toInt = m ∧ (own_u4_B1 ee q0 q2).toInt = n ∧ (own_uw_B1 ee q0 q2).toInt = m ∧ (own_m (own_u4_B1 ee q0 q2) (own_u0_B1 ee q0 q2)).toInt = n ∧ (own_u0_B2 ee q0 q2).toInt = A - n ∧ (own_u1_B2 ee q0 q2).toInt = n ∧ (own_u4_B2 ee q0 q2).toInt = 0 ∧ (own_uw_B2 ee q0 q2).toInt = n := by
  obtain ⟨E, A, B, X, Y, m, e1, e2, e3, e4, e5, hb, em, f0, f1, f4, fw⟩ := own_T1_B hB h hT
  rw [own_lt64 (own_a64 own_0 fw (by omega)) (own_a64 own_0 e1 (by omega))] at hc
  obtain ⟨n, en', c⟩ := own_mI f4 (show (own_u0_B1 ee q0 q2).toInt = A from e2) (by omega) (by omega) (by omega)
  refine ⟨E, A, B, X, Y, m, n, e1, e2, e3, e4, e5, ?_, f0.trans (by omega), f1, f4.trans (by omega), fw, en', own_s64 (show (own_u0_B1 ee q0 q2).toInt = A from e2) en' (by omega), (own_a64 (show (own_u1_B1 ee q0 q2).toInt = 0 from own_0) en' (by omega)).trans (by omega), (own_s64 f4 en' (by omega)).trans (by omega), (own_a64 own_0 en' (by omega)).trans (by omega)⟩
  omega
theorem own_h4_B1 {ee en q0 q2 cA cB : Int64} (hB : Bnd ee en q0 q2 cA cB) (h : (0 : Int64) < ee) (hT : (0 : Int64) < q2 ∧ ((0 : Int64) < q0 → cB < cA)) : (0 : Int64) < ee := h
theorem own_hMA_B1 {ee en q0 q2 cA cB : Int64} (hB : Bnd ee en q0 q2 cA cB) (h : (0 : Int64) < ee) (hT : (0 : Int64) < q2 ∧ ((0 : Int64) < q0 → cB < cA)) : own_d1 cA (0 : Int64) < (9223372036854775807 : Int64) := by
  obtain ⟨E, A, B, X, Y, m, e1, e2, e3, e4, e5, hb, em, f0, f1, f4, fw⟩ := own_T1_B hB h hT
  rw [own_lt64 (own_d1I e4 own_0 (by omega)) (show (9223372036854775807 : Int64).toInt = 9223372036854775807 by decide)]; omega
theorem own_hMB_B1 {ee en q0 q2 cA cB : Int64} (hB : Bnd ee en q0 q2 cA cB) (h : (0 : Int64) < ee) (hT : (0 : Int64) < q2 ∧ ((0 : Int64) < q0 → cB < cA)) : own_d1 cB (0 : Int64) < (9223372036854775807 : Int64) := by
  obtain ⟨E, A, B, X, Y, m, e1, e2, e3, e4, e5, hb, em, f0, f1, f4, fw⟩ := own_T1_B hB h hT
  rw [own_lt64 (own_d1I e5 own_0 (by omega)) (show (9223372036854775807 : Int64).toInt = 9223372036854775807 by decide)]; omega
theorem own_hV_B1 {ee en q0 q2 cA cB : Int64} (hB : Bnd ee en q0 q2 cA cB) (h : (0 : Int64) < ee) (hT : (0 : Int64) < q2 ∧ ((0 : Int64) < q0 → cB < cA)) : ((0 : Int64) < q2 ∧ (0 : Int64) < q0 ∧ own_d1 cA (0 : Int64) < own_d1 cB (0 : Int64) ∧ cB = cA) ∨ ((0 : Int64) < q2 ∧ ((0 : Int64) < q0 → ¬ own_d1 cA (0 : Int64) < own_d1 cB (0 : Int64)) ∧ cB = cB) ∨ (¬ (0 : Int64) < q2 ∧ (0 : Int64) < q0 ∧ cB = cA) := by
  obtain ⟨E, A, B, X, Y, m, e1, e2, e3, e4, e5, hb, em, f0, f1, f4, fw⟩ := own_T1_B hB h hT
  rw [own_lt64 own_0 e2, own_lt64 own_0 e3, own_lt64 (own_d1I e4 own_0 (by omega)) (own_d1I e5 own_0 (by omega))]
  exact Or.inr (Or.inl ⟨by omega, by omega, rfl⟩)
theorem own_bV_B1 {ee en q0 q2 cA cB : Int64} (hB : Bnd ee en q0 q2 cA cB) (h : (0 : Int64) < ee) (hT : (0 : Int64) < q2 ∧ ((0 : Int64) < q0 → cB < cA)) : ((0 : Int64) < q0 ∧ (cA + (0 : Int64)) - cB = 0 ∧ ¬ ((cB + (0 : Int64)) - cB = 0) ∧ ((0 : Int64) < ee - (r3 (r3 (r3 (2305843009213693951 : Int64) ee) q0) ee) → ¬ (0 : Int64) < q0 - (r3 (r3 (r3 (2305843009213693951 : Int64) ee) q0) ee)) ∧ q0 - (r3 (r3 (r3 (2305843009213693951 : Int64) ee) q0) ee) = (own_u0_B1 ee q0 q2) ∧ (0 : Int64) + (r3 (r3 (r3 (2305843009213693951 : Int64) ee) q0) ee) = (own_u1_B1 ee q0 q2) ∧ q2 = (own_u2_B1 ee q0 q2) ∧ (0 : Int64) = (own_u3_B1 ee q0 q2) ∧ ee - (r3 (r3 (r3 (2305843009213693951 : Int64) ee) q0) ee) = (own_u4_B1 ee q0 q2) ∧ (0 : Int64) + (r3 (r3 (r3 (2305843009213693951 : Int64) ee) q0) ee) = (own_u5_B1 ee q0 q2) ∧ (0 : Int64) + (r3 (r3 (r3 (2305843009213693951 : Int64) ee) q0) ee) = (own_u7_B1 ee q0 q2) ∧ (0 : Int64) + (r3 (r3 (r3 (2305843009213693951 : Int64) ee) q0) ee) = (own_uw_B1 ee q0 q2)) ∨ ((0 : Int64) < q2 ∧ (cB + (0 : Int64)) - cB = 0 ∧ ¬ ((cA + (0 : Int64)) - cB = 0) ∧ ((0 : Int64) < ee - (r3 (r3 (r3 (2305843009213693951 : Int64) ee) q2) ee) → ¬ (0 : Int64) < q2 - (r3 (r3 (r3 (2305843009213693951 : Int64) ee) q2) ee)) ∧ q0 = (own_u0_B1 ee q0 q2) ∧ (0 : Int64) = (own_u1_B1 ee q0 q2) ∧ q2 - (r3 (r3 (r3 (2305843009213693951 : Int64) ee) q2) ee) = (own_u2_B1 ee q0 q2) ∧ (0 : Int64) + (r3 (r3 (r3 (2305843009213693951 : Int64) ee) q2) ee) = (own_u3_B1 ee q0 q2) ∧ ee - (r3 (r3 (r3 (2305843009213693951 : Int64) ee) q2) ee) = (own_u4_B1 ee q0 q2) ∧ (0 : Int64) + (r3 (r3 (r3 (2305843009213693951 : Int64) ee) q2) ee) = (own_u5_B1 ee q0 q2) ∧ (0 : Int64) + (r3 (r3 (r3 (2305843009213693951 : Int64) ee) q2) ee) = (own_u7_B1 ee q0 q2) ∧ (0 : Int64) + (r3 (r3 (r3 (2305843009213693951 : Int64) ee) q2) ee) = (own_uw_B1 ee q0 q2)) := by
  obtain ⟨E, A, B, X, Y, m, e1, e2, e3, e4, e5, hb, em, f0, f1, f4, fw⟩ := own_T1_B hB h hT
  refine Or.inr ⟨hT.1, (own_kz e5 e5 (by omega)).mpr rfl, fun z => ?_, fun z => ?_, rfl, rfl, rfl, rfl, rfl, rfl, rfl, rfl⟩
  · have := (own_kz e4 e5 (by omega)).mp z; omega
  · have z' : (0 : Int64) < own_u4_B1 ee q0 q2 := z
    rw [own_lt64 own_0 f4] at z'
    show ¬ (0 : Int64) < own_u2_B1 ee q0 q2
    rw [own_lt64 own_0 f0]; omega
theorem own_hz2_B1 {ee en q0 q2 cA cB : Int64} (hB : Bnd ee en q0 q2 cA cB) (h : (0 : Int64) < ee) (hT : (0 : Int64) < q2 ∧ ((0 : Int64) < q0 → cB < cA)) : (0 : Int64) < own_u4_B1 ee q0 q2 → rE2 cB (own_u2_B1 ee q0 q2) cB = 0 := by
  obtain ⟨E, A, B, X, Y, m, e1, e2, e3, e4, e5, hb, em, f0, f1, f4, fw⟩ := own_T1_B hB h hT
  intro z
  rw [own_lt64 own_0 f4] at z
  exact own_f2 (by rw [own_lt64 own_0 f0]; omega)
theorem own_hz0_B1 {ee en q0 q2 cA cB : Int64} (hB : Bnd ee en q0 q2 cA cB) (h : (0 : Int64) < ee) (hT : (0 : Int64) < q2 ∧ ((0 : Int64) < q0 → cB < cA)) : (0 : Int64) < own_u4_B1 ee q0 q2 → rE0 cA (own_u0_B1 ee q0 q2) cB = 0 := by
  obtain ⟨E, A, B, X, Y, m, e1, e2, e3, e4, e5, hb, em, f0, f1, f4, fw⟩ := own_T1_B hB h hT
  intro _
  exact own_g2 (fun z => by have := (own_kz e4 e5 (by omega)).mp z; omega)
theorem own_p_B1 {ee en q0 q2 cA cB : Int64} (hB : Bnd ee en q0 q2 cA cB) (h : (0 : Int64) < ee) (hT : (0 : Int64) < q2 ∧ ((0 : Int64) < q0 → cB < cA)) : (0 : Int64) < own_uw_B1 ee q0 q2 := by
  obtain ⟨E, A, B, X, Y, m, e1, e2, e3, e4, e5, hb, em, f0, f1, f4, fw⟩ := own_T1_B hB h hT
  rw [own_lt64 own_0 fw]; omega
theorem own_f1_B {ee en q0 q2 cA cB : Int64} (hB : Bnd ee en q0 q2 cA cB) (h : (0 : Int64) < ee) (hT : (0 : Int64) < q2 ∧ ((0 : Int64) < q0 → cB < cA)) (hc : ¬ ((0 : Int64) + (own_uw_B1 ee q0 q2) < (0 : Int64) + ee)) : (0 : Int64) + (own_uw_B1 ee q0 q2) = (0 : Int64) + ee := by
  obtain ⟨E, A, B, X, Y, m, e1, e2, e3, e4, e5, hb, em, f0, f1, f4, fw⟩ := own_T1_B hB h hT
  rw [own_lt64 (own_a64 own_0 fw (by omega)) (own_a64 own_0 e1 (by omega))] at hc
  exact (own_eq64 (own_a64 own_0 fw (by omega)) (own_a64 own_0 e1 (by omega))).mpr (by omega)
theorem own_x1_B {ee en q0 q2 cA cB : Int64} (hB : Bnd ee en q0 q2 cA cB) (h : (0 : Int64) < ee) (hT : (0 : Int64) < q2 ∧ ((0 : Int64) < q0 → cB < cA)) (hc : ¬ ((0 : Int64) + (own_uw_B1 ee q0 q2) < (0 : Int64) + ee)) : own_u1_B1 ee q0 q2 = own_xa ee q0 q2 cA cB ∧ own_u3_B1 ee q0 q2 = own_xb ee q0 q2 cA cB := by
  obtain ⟨E, A, B, X, Y, m, e1, e2, e3, e4, e5, hb, em, f0, f1, f4, fw⟩ := own_T1_B hB h hT
  rw [own_lt64 (own_a64 own_0 fw (by omega)) (own_a64 own_0 e1 (by omega))] at hc
  have k : own_xa ee q0 q2 cA cB = own_u1_B1 ee q0 q2 := by
    unfold own_xa
    by_cases z : cA < cB
    · rw [if_pos z]
      rw [own_lt64 e4 e5] at z
      obtain ⟨w, ew, c⟩ := own_minI e2 e1
      exact (own_eq64 ew (show (own_u1_B1 ee q0 q2).toInt = 0 from own_0)).mpr (by omega)
    · rw [if_neg z]
      rw [own_lt64 e4 e5] at z
      obtain ⟨w, ew, c⟩ := own_minI e3 e1
      exact (own_eq64 (own_s64 e1 ew (by omega)) (show (own_u1_B1 ee q0 q2).toInt = 0 from own_0)).mpr (by omega)
  unfold own_xb
  rw [k]
  exact ⟨rfl, (own_eq64 f1 (own_s64 e1 (show (own_u1_B1 ee q0 q2).toInt = 0 from own_0) (by omega))).mpr (by omega)⟩
theorem own_h4_B2 {ee en q0 q2 cA cB : Int64} (hB : Bnd ee en q0 q2 cA cB) (h : (0 : Int64) < ee) (hT : (0 : Int64) < q2 ∧ ((0 : Int64) < q0 → cB < cA)) (hc : ((0 : Int64) + (own_uw_B1 ee q0 q2) < (0 : Int64) + ee)) : (0 : Int64) < own_u4_B1 ee q0 q2 := by
  obtain ⟨E, A, B, X, Y, m, n, e1, e2, e3, e4, e5, hb, f0, f1, f4, fw, en', g0, g1, g4, gw⟩ := own_T2_B hB h hT hc
  rw [own_lt64 own_0 f4]; omega
theorem own_hMA_B2 {ee en q0 q2 cA cB : Int64} (hB : Bnd ee en q0 q2 cA cB) (h : (0 : Int64) < ee) (hT : (0 : Int64) < q2 ∧ ((0 : Int64) < q0 → cB < cA)) (hc : ((0 : Int64) + (own_uw_B1 ee q0 q2) < (0 : Int64) + ee)) : own_d1 cA cB < (9223372036854775807 : Int64) := by
  obtain ⟨E, A, B, X, Y, m, n, e1, e2, e3, e4, e5, hb, f0, f1, f4, fw, en', g0, g1, g4, gw⟩ := own_T2_B hB h hT hc
  rw [own_lt64 (own_d1I e4 e5 (by omega)) (show (9223372036854775807 : Int64).toInt = 9223372036854775807 by decide)]; omega
theorem own_hMB_B2 {ee en q0 q2 cA cB : Int64} (hB : Bnd ee en q0 q2 cA cB) (h : (0 : Int64) < ee) (hT : (0 : Int64) < q2 ∧ ((0 : Int64) < q0 → cB < cA)) (hc : ((0 : Int64) + (own_uw_B1 ee q0 q2) < (0 : Int64) + ee)) : own_d1 cB cB < (9223372036854775807 : Int64) := by
  obtain ⟨E, A, B, X, Y, m, n, e1, e2, e3, e4, e5, hb, f0, f1, f4, fw, en', g0, g1, g4, gw⟩ := own_T2_B hB h hT hc
  rw [own_lt64 (own_d1I e5 e5 (by omega)) (show (9223372036854775807 : Int64).toInt = 9223372036854775807 by decide)]; omega
theorem own_hV_B2 {ee en q0 q2 cA cB : Int64} (hB : Bnd ee en q0 q2 cA cB) (h : (0 : Int64) < ee) (hT : (0 : Int64) < q2 ∧ ((0 : Int64) < q0 → cB < cA)) (hc : ((0 : Int64) + (own_uw_B1 ee q0 q2) < (0 : Int64) + ee)) : ((0 : Int64) < (own_u2_B1 ee q0 q2) ∧ (0 : Int64) < (own_u0_B1 ee q0 q2) ∧ own_d1 cA cB < own_d1 cB cB ∧ cA = cA) ∨ ((0 : Int64) < (own_u2_B1 ee q0 q2) ∧ ((0 : Int64) < (own_u0_B1 ee q0 q2) → ¬ own_d1 cA cB < own_d1 cB cB) ∧ cA = cB) ∨ (¬ (0 : Int64) < (own_u2_B1 ee q0 q2) ∧ (0 : Int64) < (own_u0_B1 ee q0 q2) ∧ cA = cA) := by
  obtain ⟨E, A, B, X, Y, m, n, e1, e2, e3, e4, e5, hb, f0, f1, f4, fw, en', g0, g1, g4, gw⟩ := own_T2_B hB h hT hc
  rw [own_lt64 own_0 (show (own_u0_B1 ee q0 q2).toInt = A from e2), own_lt64 own_0 f0]
  exact Or.inr (Or.inr ⟨by omega, by omega, rfl⟩)
theorem own_bV_B2 {ee en q0 q2 cA cB : Int64} (hB : Bnd ee en q0 q2 cA cB) (h : (0 : Int64) < ee) (hT : (0 : Int64) < q2 ∧ ((0 : Int64) < q0 → cB < cA)) (hc : ((0 : Int64) + (own_uw_B1 ee q0 q2) < (0 : Int64) + ee)) : ((0 : Int64) < (own_u0_B1 ee q0 q2) ∧ (cA + (0 : Int64)) - cA = 0 ∧ ¬ ((cB + (0 : Int64)) - cA = 0) ∧ ((0 : Int64) < (own_u4_B1 ee q0 q2) - (r3 (r3 (r3 (2305843009213693951 : Int64) (own_u4_B1 ee q0 q2)) (own_u0_B1 ee q0 q2)) (own_u4_B1 ee q0 q2)) → ¬ (0 : Int64) < (own_u0_B1 ee q0 q2) - (r3 (r3 (r3 (2305843009213693951 : Int64) (own_u4_B1 ee q0 q2)) (own_u0_B1 ee q0 q2)) (own_u4_B1 ee q0 q2))) ∧ (own_u0_B1 ee q0 q2) - (r3 (r3 (r3 (2305843009213693951 : Int64) (own_u4_B1 ee q0 q2)) (own_u0_B1 ee q0 q2)) (own_u4_B1 ee q0 q2)) = (own_u0_B2 ee q0 q2) ∧ (own_u1_B1 ee q0 q2) + (r3 (r3 (r3 (2305843009213693951 : Int64) (own_u4_B1 ee q0 q2)) (own_u0_B1 ee q0 q2)) (own_u4_B1 ee q0 q2)) = (own_u1_B2 ee q0 q2) ∧ (own_u2_B1 ee q0 q2) = (own_u2_B2 ee q0 q2) ∧ (own_u3_B1 ee q0 q2) = (own_u3_B2 ee q0 q2) ∧ (own_u4_B1 ee q0 q2) - (r3 (r3 (r3 (2305843009213693951 : Int64) (own_u4_B1 ee q0 q2)) (own_u0_B1 ee q0 q2)) (own_u4_B1 ee q0 q2)) = (own_u4_B2 ee q0 q2) ∧ (own_u5_B1 ee q0 q2) + (r3 (r3 (r3 (2305843009213693951 : Int64) (own_u4_B1 ee q0 q2)) (own_u0_B1 ee q0 q2)) (own_u4_B1 ee q0 q2)) = (own_u5_B2 ee q0 q2) ∧ (own_u7_B1 ee q0 q2) + (r3 (r3 (r3 (2305843009213693951 : Int64) (own_u4_B1 ee q0 q2)) (own_u0_B1 ee q0 q2)) (own_u4_B1 ee q0 q2)) = (own_u7_B2 ee q0 q2) ∧ (0 : Int64) + (r3 (r3 (r3 (2305843009213693951 : Int64) (own_u4_B1 ee q0 q2)) (own_u0_B1 ee q0 q2)) (own_u4_B1 ee q0 q2)) = (own_uw_B2 ee q0 q2)) ∨ ((0 : Int64) < (own_u2_B1 ee q0 q2) ∧ (cB + (0 : Int64)) - cA = 0 ∧ ¬ ((cA + (0 : Int64)) - cA = 0) ∧ ((0 : Int64) < (own_u4_B1 ee q0 q2) - (r3 (r3 (r3 (2305843009213693951 : Int64) (own_u4_B1 ee q0 q2)) (own_u2_B1 ee q0 q2)) (own_u4_B1 ee q0 q2)) → ¬ (0 : Int64) < (own_u2_B1 ee q0 q2) - (r3 (r3 (r3 (2305843009213693951 : Int64) (own_u4_B1 ee q0 q2)) (own_u2_B1 ee q0 q2)) (own_u4_B1 ee q0 q2))) ∧ (own_u0_B1 ee q0 q2) = (own_u0_B2 ee q0 q2) ∧ (own_u1_B1 ee q0 q2) = (own_u1_B2 ee q0 q2) ∧ (own_u2_B1 ee q0 q2) - (r3 (r3 (r3 (2305843009213693951 : Int64) (own_u4_B1 ee q0 q2)) (own_u2_B1 ee q0 q2)) (own_u4_B1 ee q0 q2)) = (own_u2_B2 ee q0 q2) ∧ (own_u3_B1 ee q0 q2) + (r3 (r3 (r3 (2305843009213693951 : Int64) (own_u4_B1 ee q0 q2)) (own_u2_B1 ee q0 q2)) (own_u4_B1 ee q0 q2)) = (own_u3_B2 ee q0 q2) ∧ (own_u4_B1 ee q0 q2) - (r3 (r3 (r3 (2305843009213693951 : Int64) (own_u4_B1 ee q0 q2)) (own_u2_B1 ee q0 q2)) (own_u4_B1 ee q0 q2)) = (own_u4_B2 ee q0 q2) ∧ (own_u5_B1 ee q0 q2) + (r3 (r3 (r3 (2305843009213693951 : Int64) (own_u4_B1 ee q0 q2)) (own_u2_B1 ee q0 q2)) (own_u4_B1 ee q0 q2)) = (own_u5_B2 ee q0 q2) ∧ (own_u7_B1 ee q0 q2) + (r3 (r3 (r3 (2305843009213693951 : Int64) (own_u4_B1 ee q0 q2)) (own_u2_B1 ee q0 q2)) (own_u4_B1 ee q0 q2)) = (own_u7_B2 ee q0 q2) ∧ (0 : Int64) + (r3 (r3 (r3 (2305843009213693951 : Int64) (own_u4_B1 ee q0 q2)) (own_u2_B1 ee q0 q2)) (own_u4_B1 ee q0 q2)) = (own_uw_B2 ee q0 q2)) := by
  obtain ⟨E, A, B, X, Y, m, n, e1, e2, e3, e4, e5, hb, f0, f1, f4, fw, en', g0, g1, g4, gw⟩ := own_T2_B hB h hT hc
  refine Or.inl ⟨(own_lt64 own_0 (show (own_u0_B1 ee q0 q2).toInt = A from e2)).mpr (by omega), (own_kz e4 e4 (by omega)).mpr rfl, fun z => ?_, fun z => ?_, rfl, rfl, rfl, rfl, rfl, rfl, rfl, rfl⟩
  · have := (own_kz e5 e4 (by omega)).mp z; omega
  · have z' : (0 : Int64) < own_u4_B2 ee q0 q2 := z
    rw [own_lt64 own_0 g4] at z'; omega
theorem own_hz2_B2 {ee en q0 q2 cA cB : Int64} (hB : Bnd ee en q0 q2 cA cB) (h : (0 : Int64) < ee) (hT : (0 : Int64) < q2 ∧ ((0 : Int64) < q0 → cB < cA)) (hc : ((0 : Int64) + (own_uw_B1 ee q0 q2) < (0 : Int64) + ee)) : (0 : Int64) < own_u4_B2 ee q0 q2 → rE2 cB (own_u2_B2 ee q0 q2) cA = 0 := by
  obtain ⟨E, A, B, X, Y, m, n, e1, e2, e3, e4, e5, hb, f0, f1, f4, fw, en', g0, g1, g4, gw⟩ := own_T2_B hB h hT hc
  intro z
  rw [own_lt64 own_0 g4] at z; omega
theorem own_hz0_B2 {ee en q0 q2 cA cB : Int64} (hB : Bnd ee en q0 q2 cA cB) (h : (0 : Int64) < ee) (hT : (0 : Int64) < q2 ∧ ((0 : Int64) < q0 → cB < cA)) (hc : ((0 : Int64) + (own_uw_B1 ee q0 q2) < (0 : Int64) + ee)) : (0 : Int64) < own_u4_B2 ee q0 q2 → rE0 cA (own_u0_B2 ee q0 q2) cA = 0 := by
  obtain ⟨E, A, B, X, Y, m, n, e1, e2, e3, e4, e5, hb, f0, f1, f4, fw, en', g0, g1, g4, gw⟩ := own_T2_B hB h hT hc
  intro z
  rw [own_lt64 own_0 g4] at z; omega
theorem own_p_B2 {ee en q0 q2 cA cB : Int64} (hB : Bnd ee en q0 q2 cA cB) (h : (0 : Int64) < ee) (hT : (0 : Int64) < q2 ∧ ((0 : Int64) < q0 → cB < cA)) (hc : ((0 : Int64) + (own_uw_B1 ee q0 q2) < (0 : Int64) + ee)) : (0 : Int64) < own_uw_B2 ee q0 q2 := by
  obtain ⟨E, A, B, X, Y, m, n, e1, e2, e3, e4, e5, hb, f0, f1, f4, fw, en', g0, g1, g4, gw⟩ := own_T2_B hB h hT hc
  rw [own_lt64 own_0 gw]; omega
theorem own_f2_B {ee en q0 q2 cA cB : Int64} (hB : Bnd ee en q0 q2 cA cB) (h : (0 : Int64) < ee) (hT : (0 : Int64) < q2 ∧ ((0 : Int64) < q0 → cB < cA)) (hc : ((0 : Int64) + (own_uw_B1 ee q0 q2) < (0 : Int64) + ee)) : ((0 : Int64) + (own_uw_B1 ee q0 q2)) + (own_uw_B2 ee q0 q2) = (0 : Int64) + ee := by
  obtain ⟨E, A, B, X, Y, m, n, e1, e2, e3, e4, e5, hb, f0, f1, f4, fw, en', g0, g1, g4, gw⟩ := own_T2_B hB h hT hc
  exact (own_eq64 (own_a64 (own_a64 own_0 fw (by omega)) gw (by omega)) (own_a64 own_0 e1 (by omega))).mpr (by omega)
theorem own_l_B {ee en q0 q2 cA cB : Int64} (hB : Bnd ee en q0 q2 cA cB) (h : (0 : Int64) < ee) (hT : (0 : Int64) < q2 ∧ ((0 : Int64) < q0 → cB < cA)) (hc : ((0 : Int64) + (own_uw_B1 ee q0 q2) < (0 : Int64) + ee)) : ¬ (((0 : Int64) + (own_uw_B1 ee q0 q2)) + (own_uw_B2 ee q0 q2) < (0 : Int64) + ee) := by rw [own_f2_B hB h hT hc]; exact Int64.lt_irrefl
theorem own_x2_B {ee en q0 q2 cA cB : Int64} (hB : Bnd ee en q0 q2 cA cB) (h : (0 : Int64) < ee) (hT : (0 : Int64) < q2 ∧ ((0 : Int64) < q0 → cB < cA)) (hc : ((0 : Int64) + (own_uw_B1 ee q0 q2) < (0 : Int64) + ee)) : own_u1_B2 ee q0 q2 = own_xa ee q0 q2 cA cB ∧ own_u3_B2 ee q0 q2 = own_xb ee q0 q2 cA cB := by
  obtain ⟨E, A, B, X, Y, m, n, e1, e2, e3, e4, e5, hb, f0, f1, f4, fw, en', g0, g1, g4, gw⟩ := own_T2_B hB h hT hc
  have k : own_xa ee q0 q2 cA cB = own_u1_B2 ee q0 q2 := by
    unfold own_xa
    by_cases z : cA < cB
    · rw [if_pos z]
      rw [own_lt64 e4 e5] at z
      obtain ⟨w, ew, c⟩ := own_minI e2 e1
      exact (own_eq64 ew g1).mpr (by omega)
    · rw [if_neg z]
      rw [own_lt64 e4 e5] at z
      obtain ⟨w, ew, c⟩ := own_minI e3 e1
      exact (own_eq64 (own_s64 e1 ew (by omega)) g1).mpr (by omega)
  unfold own_xb
  rw [k]
  exact ⟨rfl, (own_eq64 (show (own_u3_B2 ee q0 q2).toInt = m from f1) (own_s64 e1 g1 (by omega))).mpr (by omega)⟩
theorem d17_25 : decode prog_7_method_7_code 25 = .ok (.ifCond .le 36, 3) := by decide +kernel
theorem d17_44 : decode prog_7_method_7_code 44 = .ok (.invokevirtual 75, 3) := by decide +kernel
theorem d17_90 : decode prog_7_method_7_code 90 = .ok (.invokevirtual 75, 3) := by decide +kernel
theorem d17_122 : decode prog_7_method_7_code 122 = .ok (.newarray .long, 2) := by decide +kernel
theorem d17_130 : decode prog_7_method_7_code 130 = .ok (.newarray .long, 2) := by decide +kernel
theorem d17_138 : decode prog_7_method_7_code 138 = .ok (.newarray .int, 2) := by decide +kernel
theorem d17_146 : decode prog_7_method_7_code 146 = .ok (.newarray .int, 2) := by decide +kernel
theorem d17_157 : decode prog_7_method_7_code 157 = .ok (.ifCond .ge 58, 3) := by decide +kernel
theorem d17_165 : decode prog_7_method_7_code 165 = .ok (.invokevirtual 79, 3) := by decide +kernel
theorem d17_178 : decode prog_7_method_7_code 178 = .ok (.invokevirtual 83, 3) := by decide +kernel
theorem d17_204 : decode prog_7_method_7_code 204 = .ok (.invokevirtual 83, 3) := by decide +kernel
theorem d17_227 : decode prog_7_method_7_code 227 = .ok (.ireturn, 1) := by decide +kernel
theorem pnT : plainName "com/example/kubera/kubera/FlowNetwork" = true := by first | (simp [plainName, overriddenIn]; done) | decide +kernel
theorem pdT_0 : parseMethodDescriptor "(IIJJJ)I" = some ⟨[.int, .int, .long, .long, .long], some .int⟩ := by decide +kernel
theorem pdT_1 : parseMethodDescriptor "([J[J)Z" = some ⟨[(.array .long), (.array .long)], some .boolean⟩ := by decide +kernel
theorem pdT_2 : parseMethodDescriptor "([J[I[I)J" = some ⟨[(.array .long), (.array .int), (.array .int)], some .long⟩ := by decide +kernel
theorem efT (m : MethodId) (x0 : Addr) : entryFrame m #[(.ref x0)] 13 = (mkF m 0 #[rv x0, .unset, .unset, .unset, .unset, .unset, .unset, .unset, .unset, .unset, .unset, .unset, .unset] []) := by first | (simp [entryFrame, mkF, argsToLocals, Value.category]; done) | rfl
def oT_44_1 (ee : Int64) (en : Int64) (q0 : Int64) (q2 : Int64) (cA : Int64) (cB : Int64) : Int32 := ((2 : Int32) + (1 : Int32))
def supT_2 (ee : Int64) (en : Int64) (q0 : Int64) (q2 : Int64) (cA : Int64) (cB : Int64) : Int64 := (ee + (0 : Int64))
def capT_2 (ee : Int64) (en : Int64) (q0 : Int64) (q2 : Int64) (cA : Int64) (cB : Int64) : Int64 := (ee - (0 : Int64))
def wT_57 (ee : Int64) (en : Int64) (q0 : Int64) (q2 : Int64) (cA : Int64) (cB : Int64) : Int64 := ((0 : Int64) + ee)
def cT_90_1 (ee : Int64) (en : Int64) (q0 : Int64) (q2 : Int64) (cA : Int64) (cB : Int64) : Int64 := (-en)
def oT_90_1 (ee : Int64) (en : Int64) (q0 : Int64) (q2 : Int64) (cA : Int64) (cB : Int64) : Int32 := ((3 : Int32) + (1 : Int32))
def supT_3 (ee : Int64) (en : Int64) (q0 : Int64) (q2 : Int64) (cA : Int64) (cB : Int64) : Int64 := (en - (0 : Int64))
def capT_3 (ee : Int64) (en : Int64) (q0 : Int64) (q2 : Int64) (cA : Int64) (cB : Int64) : Int64 := ((cT_90_1 ee en q0 q2 cA cB) - (0 : Int64))
def wT_103 (ee : Int64) (en : Int64) (q0 : Int64) (q2 : Int64) (cA : Int64) (cB : Int64) : Int64 := ((wT_57 ee en q0 q2 cA cB) + en)
def wT_181 (ee : Int64) (en : Int64) (q0 : Int64) (q2 : Int64) (cA : Int64) (cB : Int64) : Int64 := (own_uw_A1 ee q0 q2)
def wT_195 (ee : Int64) (en : Int64) (q0 : Int64) (q2 : Int64) (cA : Int64) (cB : Int64) : Int64 := ((0 : Int64) + (wT_181 ee en q0 q2 cA cB))
def wT_181_a (ee : Int64) (en : Int64) (q0 : Int64) (q2 : Int64) (cA : Int64) (cB : Int64) : Int64 := (own_uw_A2 ee q0 q2)
def wT_195_a (ee : Int64) (en : Int64) (q0 : Int64) (q2 : Int64) (cA : Int64) (cB : Int64) : Int64 := ((wT_195 ee en q0 q2 cA cB) + (wT_181_a ee en q0 q2 cA cB))
def wT_181_b (ee : Int64) (en : Int64) (q0 : Int64) (q2 : Int64) (cA : Int64) (cB : Int64) : Int64 := (own_uw_B1 ee q0 q2)
def wT_195_b (ee : Int64) (en : Int64) (q0 : Int64) (q2 : Int64) (cA : Int64) (cB : Int64) : Int64 := ((0 : Int64) + (wT_181_b ee en q0 q2 cA cB))
def wT_181_c (ee : Int64) (en : Int64) (q0 : Int64) (q2 : Int64) (cA : Int64) (cB : Int64) : Int64 := (own_uw_B2 ee q0 q2)
def wT_195_c (ee : Int64) (en : Int64) (q0 : Int64) (q2 : Int64) (cA : Int64) (cB : Int64) : Int64 := ((wT_195_b ee en q0 q2 cA cB) + (wT_181_c ee en q0 q2 cA cB))
def QSV (Z : State) (x0 cp lo : Addr) (kcp klo : ClassId) (ee q0 q2 cA cB la lb : Int64) (ws : List Addr) (h0 : Heap) (n0 : Nat) (v : Option Value) (h : Heap) (L : List Loc) : Prop := ∃ (z0 z2 z4 z5 z6 z7 : Int64), v = some (.int 1) ∧ Fr n0 L ∧ Keep h0 h ws ∧ Exa Z h x0 "com/example/kubera/kubera/FlowNetwork" ∧ Fld Z h x0 "com/example/kubera/kubera/FlowNetwork" "lowers" "[J" (.ref lo) ∧ Fld Z h x0 "com/example/kubera/kubera/FlowNetwork" "capacities" "[J" (.ref cp) ∧ Arv Z h lo klo .long (8 : Int32) [(.long la), (.long lb), (.long 0), (.long 0)] (.long (0 : Int64)) ∧ Arv Z h cp kcp .long (16 : Int32) [(.long z0), (.long (own_xa ee q0 q2 cA cB)), (.long z2), (.long (own_xb ee q0 q2 cA cB)), (.long z4), (.long z5), (.long z6), (.long z7)] (.long (0 : Int64))
set_option maxRecDepth 65536 in
set_option maxHeartbeats 40000000 in
theorem rmT (l : Launch) (Z : State) (a0 : Array Value) (hw : ∀ d ∈ tables_1, d.before a0 Z = true) (ws : List Jvm.Cond) (x0 : Addr) (hd : Addr) (nx : Addr) (cp : Addr) (co : Addr) (lo : Addr) (su : Addr) (fa : Addr) (khd : ClassId) (knx : ClassId) (kcp : ClassId) (kco : ClassId) (klo : ClassId) (ksu : ClassId) (kfa : ClassId) (cA : Int64) (nA : Int64) (cB : Int64) (nB : Int64) (q0 : Int64) (q2 : Int64) (la : Int64) (lb : Int64) (ee : Int64) (en : Int64) (h0 : Heap) (n0 : Nat) (Z0 : n0 ≤ h0.size) (E_x0 : Exa Z h0 x0 "com/example/kubera/kubera/FlowNetwork") (F_nodes_x0 : Fld Z h0 x0 "com/example/kubera/kubera/FlowNetwork" "nodes" "I" (.int 4)) (F_source_x0 : Fld Z h0 x0 "com/example/kubera/kubera/FlowNetwork" "source" "I" (.int 2)) (F_sink_x0 : Fld Z h0 x0 "com/example/kubera/kubera/FlowNetwork" "sink" "I" (.int 3)) (F_supplies_x0 : Fld Z h0 x0 "com/example/kubera/kubera/FlowNetwork" "supplies" "[J" (.ref su)) (F_firstArcs_x0 : Fld Z h0 x0 "com/example/kubera/kubera/FlowNetwork" "firstArcs" "[I" (.ref fa)) (F_arcs_x0 : Fld Z h0 x0 "com/example/kubera/kubera/FlowNetwork" "arcs" "I" (.int 2)) (F_heads_x0 : Fld Z h0 x0 "com/example/kubera/kubera/FlowNetwork" "heads" "[I" (.ref hd)) (F_nextArcs_x0 : Fld Z h0 x0 "com/example/kubera/kubera/FlowNetwork" "nextArcs" "[I" (.ref nx)) (F_capacities_x0 : Fld Z h0 x0 "com/example/kubera/kubera/FlowNetwork" "capacities" "[J" (.ref cp)) (F_costs_x0 : Fld Z h0 x0 "com/example/kubera/kubera/FlowNetwork" "costs" "[J" (.ref co)) (F_lowers_x0 : Fld Z h0 x0 "com/example/kubera/kubera/FlowNetwork" "lowers" "[J" (.ref lo)) (V_hd : Arv Z h0 hd khd .int (16 : Int32) [(.int 1), (.int 0), (.int 1), (.int 0), (.int 0), (.int 0), (.int 0), (.int 0)] (.int (0 : Int32))) (V_nx : Arv Z h0 nx knx .int (16 : Int32) [(.int (-1)), (.int (-1)), (.int 0), (.int 1), (.int 0), (.int 0), (.int 0), (.int 0)] (.int (0 : Int32))) (V_cp : Arv Z h0 cp kcp .long (16 : Int32) [(.long q0), (.long 0), (.long q2), (.long 0), (.long 0), (.long 0), (.long 0), (.long 0)] (.long (0 : Int64))) (V_co : Arv Z h0 co kco .long (16 : Int32) [(.long cA), (.long nA), (.long cB), (.long nB), (.long 0), (.long 0), (.long 0), (.long 0)] (.long (0 : Int64))) (V_lo : Arv Z h0 lo klo .long (8 : Int32) [(.long la), (.long lb), (.long 0), (.long 0)] (.long (0 : Int64))) (V_su : Arv Z h0 su ksu .long (4 : Int32) [(.long ee), (.long en), (.long 0), (.long 0)] (.long (0 : Int64))) (V_fa : Arv Z h0 fa kfa .int (4 : Int32) [(.int 2), (.int 3), (.int (-1)), (.int (-1))] (.int (0 : Int32))) (g_x0 : n0 ≤ x0) (g_hd : n0 ≤ hd) (g_nx : n0 ≤ nx) (g_cp : n0 ≤ cp) (g_co : n0 ≤ co) (g_lo : n0 ≤ lo) (g_su : n0 ≤ su) (g_fa : n0 ≤ fa) (ne_x0_hd : x0 ≠ hd) (ne_x0_nx : x0 ≠ nx) (ne_x0_cp : x0 ≠ cp) (ne_x0_co : x0 ≠ co) (ne_x0_lo : x0 ≠ lo) (ne_x0_su : x0 ≠ su) (ne_x0_fa : x0 ≠ fa) (ne_hd_nx : hd ≠ nx) (ne_hd_cp : hd ≠ cp) (ne_hd_co : hd ≠ co) (ne_hd_lo : hd ≠ lo) (ne_hd_su : hd ≠ su) (ne_hd_fa : hd ≠ fa) (ne_nx_cp : nx ≠ cp) (ne_nx_co : nx ≠ co) (ne_nx_lo : nx ≠ lo) (ne_nx_su : nx ≠ su) (ne_nx_fa : nx ≠ fa) (ne_cp_co : cp ≠ co) (ne_cp_lo : cp ≠ lo) (ne_cp_su : cp ≠ su) (ne_cp_fa : cp ≠ fa) (ne_co_lo : co ≠ lo) (ne_co_su : co ≠ su) (ne_co_fa : co ≠ fa) (ne_lo_su : lo ≠ su) (ne_lo_fa : lo ≠ fa) (ne_su_fa : su ≠ fa) (hB : Bnd ee en q0 q2 cA cB) :
    MetFree l ym16 (head1 (Jvm.Cond.code ym16 prog_7_method_7_code 13 (some .boolean) :: ws) ({ frames := 3, cells := 18, slots := 68, locals := 49 } : Room)) (fun a U => a = #[(.ref x0)] ∧ Z.Warmed39 U.vm ∧ U.heap = h0) (fun _ _ _ _ _ => True) (fun _ U o U' => ∃ v L, o = .returned v ∧ (QSV Z x0 cp lo kcp klo ee q0 q2 cA cB la lb [x0, hd, nx, cp, co, lo, su, fa] h0 n0) v U'.heap L ∧ FrameEnd U o U' L ({ frames := 3, cells := 18, slots := 68, locals := 49 } : Room).cells ({ frames := 3, cells := 18, slots := 68, locals := 49 } : Room).slots) := by
  refine MetFree.of_bodySF (plainFor_of_name pnT) hisR ?_
  intro p e s m args below meth c s₁ Bd hml0 hP hK
  obtain ⟨rfl, hZ, hh⟩ := hP
  have hx := Bd.exec
  have hby := Bd.bytes
  have hml : c.maxLocals = 13 := hml0
  have hlk : meth.locks = false := BodyLoose.notSynchronized Bd
  have hown : s.vm.findClass "com/example/kubera/kubera/FlowNetwork" = some m.cls := findClass_of_methodNamed Bd.named
  have hnm := (name_of_methodNamed Bd.named Bd.method).1
  have w_4 := hw _ (List.mem_of_getElem? (i := 4) rfl)
  have w_5 := hw _ (List.mem_of_getElem? (i := 5) rfl)
  have w_12 := hw _ (List.mem_of_getElem? (i := 12) rfl)
  have w_17 := hw _ (List.mem_of_getElem? (i := 17) rfl)
  have w_39 := hw _ (List.mem_of_getElem? (i := 39) rfl)
  have w_40 := hw _ (List.mem_of_getElem? (i := 40) rfl)
  have w_41 := hw _ (List.mem_of_getElem? (i := 41) rfl)
  have w_42 := hw _ (List.mem_of_getElem? (i := 42) rfl)
  have w_68 := hw _ (List.mem_of_getElem? (i := 68) rfl)
  have w_69 := hw _ (List.mem_of_getElem? (i := 69) rfl)
  have w_70 := hw _ (List.mem_of_getElem? (i := 70) rfl)
  have w_71 := hw _ (List.mem_of_getElem? (i := 71) rfl)
  have w_72 := hw _ (List.mem_of_getElem? (i := 72) rfl)
  have w_73 := hw _ (List.mem_of_getElem? (i := 73) rfl)
  have w_109 := hw _ (List.mem_of_getElem? (i := 109) rfl)
  have w_110 := hw _ (List.mem_of_getElem? (i := 110) rfl)
  have w_111 := hw _ (List.mem_of_getElem? (i := 111) rfl)
  have w_112 := hw _ (List.mem_of_getElem? (i := 112) rfl)
  have w_121 := hw _ (List.mem_of_getElem? (i := 121) rfl)
  have hci : ∀ i v, (i, v) ∈ ([] : List (Nat × Int32)) → (Jvm.Cond.constant "com/example/kubera/kubera/FlowNetwork" i v).before #[(.ref x0)] s = true := own_ci0
  have hcl : ∀ i v, (i, v) ∈ ([(87, 9223372036854775807), (119, 2305843009213693951)] : List (Nat × Int64)) → (Jvm.Cond.constantLong "com/example/kubera/kubera/FlowNetwork" i v).before #[(.ref x0)] s = true := (own_ciS (mvT hZ w_73) (own_ciS (mvT hZ w_121) own_ci0))
  have X0 : Stand p l e ({ frames := 3, cells := 18, slots := 68, locals := 49 } : Room) s m #[(.ref x0)] below meth c s₁ [] 0 0 := Stand.of_body Bd
  have e0 : s₁.heap = h0 := by rw [← hh, Bd.state]; rfl
  have N0 := Fr.nil n0
  show Goes p e below s (QSV Z x0 cp lo kcp klo ee q0 q2 cA cB la lb [x0, hd, nx, cp, co, lo, su, fa] h0 n0) ({ frames := 3, cells := 18, slots := 68, locals := 49 } : Room).cells ({ frames := 3, cells := 18, slots := 68, locals := 49 } : Room).slots (s₁.setTop (entryFrame m #[(.ref x0)] 13))
  refine Goes.cast (efT m x0) ?_
  have hLK := own_lk2_ok hw
  have CX := Cx.mk hx hZ hown hci hcl hLK hby
  have K0 : Keep h0 h0 [x0, hd, nx, cp, co, lo, su, fa] := Keep.refl h0 _
  refine Goes.hrun X0 e0 CX (own_c1 F_source_x0 (own_c1 F_supplies_x0 (own_c2 V_su own_n))) (L := [.p 0 (.lconst 0) 1, .p 1 (.lstore_n 1) 1, .p 2 (.lconst 0) 1, .p 3 (.lstore_n 3) 1, .p 4 (.iconst 0) 1, .p 5 (.istore 5) 2, .p 7 (.iload 5) 2, .p 9 (.aload_n 0) 1, .f 10 32 0, .c 13 .ge 97 false, .p 16 (.aload_n 0) 1, .f 17 38 1, .p 20 (.iload 5) 2, .J 22 2 0, .p 23 (.lconst 0) 1, .p 24 .lcmp 1]) (by decide +kernel) rfl (g' := (mkF m 25 #[rv x0, jv 0, .second, jv 0, .second, iv 0, .unset, .unset, .unset, .unset, .unset, .unset, .unset] [(.int (lcmpW ee (0 : Int64)))])) rfl ⟨rr, by decide, rr, ra (by decide), trivial⟩ ?_
  intro T3 X3 e3
  by_cases hc25_2 : (0 : Int64) < ee
  · skip
    refine Goes.st (B := T3.setTop (mkF m 28 #[rv x0, jv 0, .second, jv 0, .second, iv 0, .unset, .unset, .unset, .unset, .unset, .unset, .unset] [])) (fun t k => ?_) ?_
    · refine XS.ifNo X3.here hx rfl (hb hby d17_25) rfl (tltL hc25_2).2.2.2 ?_
      exact k
    refine Goes.hrun X3 e3 CX (own_c1 F_source_x0 (own_c1 F_supplies_x0 (own_c2 V_su own_n))) (L := [.p 28 (.aload_n 0) 1, .p 29 (.aload_n 0) 1, .f 30 32 0, .p 33 (.iload 5) 2, .p 35 (.lconst 0) 1, .p 36 (.aload_n 0) 1, .f 37 38 1, .p 40 (.iload 5) 2, .J 42 2 0, .p 43 (.lconst 0) 1]) (by decide +kernel) rfl (g' := (mkF m 44 #[rv x0, jv 0, .second, jv 0, .second, iv 0, .unset, .unset, .unset, .unset, .unset, .unset, .unset] [(.long 0), (.long ee), (.long 0), (.int 0), (.int 2), (.ref x0)])) rfl ⟨rr, rr, ra (by decide), trivial⟩ ?_
    intro T4 X4 e4
    obtain ⟨cq5, kq5, q5a, q5b, q5c⟩ := isOf hZ e4 E_x0
    obtain ⟨_, _, ⟨T5, L5, k5, n5⟩, -, X5, ⟨Lc5, hQ5, l5, y5, z5⟩, st5⟩ := X4.virtualBack hx (y := ym12) (z := ym12) hown (mvT hZ w_68) (mvT hZ w_39) (notFace_of_selects (args := #[]) (mvT hZ w_41)) (mvT hZ w_41) (mvT hZ w_40) (by decide) (backOf (W := 0) (rmJ l Z a0 hw [] x0 (2 : Int32) (0 : Int32) (0 : Int64) ee (0 : Int64) hd cp co nx fa khd kcp kco knx kfa [(.int 1), (.int 0), (.int 1), (.int 0), (.int 0), (.int 0), (.int 0), (.int 0)] [(.int (-1)), (.int (-1)), (.int 0), (.int 1), (.int 0), (.int 0), (.int 0), (.int 0)] [(.long q0), (.long 0), (.long q2), (.long 0), (.long 0), (.long 0), (.long 0), (.long 0)] [(.long cA), (.long nA), (.long cB), (.long nB), (.long 0), (.long 0), (.long 0), (.long 0)] [(.int 2), (.int 3), (.int (-1)), (.int (-1))] [(.long la), (.long lb), (.long 0), (.long 0)] [(.long ee), (.long en), (.long 0), (.long 0)] lo su klo ksu (2 : Int32) (-1 : Int32) (2 : Int32) (0 : Int64) ee 4 5 2 2 0 h0 n0 Z0 E_x0 F_nodes_x0 F_source_x0 F_sink_x0 F_arcs_x0 F_heads_x0 F_capacities_x0 F_costs_x0 F_nextArcs_x0 F_firstArcs_x0 V_hd V_cp V_co V_nx V_fa F_lowers_x0 F_supplies_x0 V_lo V_su g_x0 g_hd g_cp g_co g_nx g_fa g_lo g_su ne_x0_hd ne_x0_cp ne_x0_co ne_x0_nx ne_x0_fa ne_x0_lo ne_x0_su ne_hd_cp ne_hd_co ne_hd_nx ne_hd_fa ne_hd_lo ne_hd_su ne_cp_co (Ne.symm ne_nx_cp) ne_cp_fa ne_cp_lo ne_cp_su (Ne.symm ne_nx_co) ne_co_fa ne_co_lo ne_co_su ne_nx_fa ne_nx_lo ne_nx_su (Ne.symm ne_lo_fa) (Ne.symm ne_su_fa) ne_lo_su rfl (by decide) (by decide) rfl (by decide) (by decide) rfl (by decide) (by decide) rfl (by decide) (by decide) rfl (by decide) (by decide) (Nat.le_of_ble_eq_true rfl) (Nat.le_of_ble_eq_true rfl) rfl rfl rfl rfl (Nat.le_of_ble_eq_true rfl) (Nat.le_of_ble_eq_true rfl) (Nat.le_of_ble_eq_true rfl) (Nat.le_of_ble_eq_true rfl) (Nat.le_of_ble_eq_true rfl) rfl rfl rfl rfl (by decide) (own_a2 hB hc25_2) (by decide)) hZ w_42 w_5 (by decide) (by decide)) q5a q5c (g := (mkF m 44 #[rv x0, jv 0, .second, jv 0, .second, iv 0, .unset, .unset, .unset, .unset, .unset, .unset, .unset] [(.long 0), (.long ee), (.long 0), (.int 0), (.int 2), (.ref x0)])) rfl (by rw [hml]; rfl) (Steps.refl _) (argsL := [(.int 2), (.int 0), (.long 0), (.long ee), (.long 0)]) (rest := []) (lenOf pdT_0 rfl) rfl (by show 2 * 0 + _ ≤ _; exact Nat.le_of_eq rfl) (hb hby d17_44) (fun _ _ => ⟨rfl, e4, (by decide : 0 + 0 ≤ _), (by decide : 0 + 0 ≤ _)⟩)
    dsimp only [Pt.U, Pt.locs, Pt.cells, Pt.slots] at X5 l5 y5 z5 st5 hQ5
    subst l5 y5 z5
    obtain ⟨h5, eh5⟩ : ∃ z, z = T5.heap := ⟨_, rfl⟩
    rw [← eh5] at hQ5
    have e5 : T5.heap = h5 := eh5.symm
    obtain ⟨rfl, N5q, Kq5, o5_0, o5_1, o5_2, o5_3, o5_4, o5_5, o5_6, o5_7, o5_8, o5_9, o5_10, o5_11, o5_12, o5_13, o5_14, o5_15, o5_16, o5_17, o5_18⟩ := hQ5
    have N5 := Fr.app N0 N5q
    have E_x0 : Exa Z h5 x0 "com/example/kubera/kubera/FlowNetwork" := o5_0
    have F_arcs_x0 : Fld Z h5 x0 "com/example/kubera/kubera/FlowNetwork" "arcs" "I" (.int (oT_44_1 ee en q0 q2 cA cB)) := o5_1
    have F_nodes_x0 : Fld Z h5 x0 "com/example/kubera/kubera/FlowNetwork" "nodes" "I" (.int 4) := o5_2
    have F_source_x0 : Fld Z h5 x0 "com/example/kubera/kubera/FlowNetwork" "source" "I" (.int 2) := o5_3
    have F_sink_x0 : Fld Z h5 x0 "com/example/kubera/kubera/FlowNetwork" "sink" "I" (.int 3) := o5_4
    have F_heads_x0 : Fld Z h5 x0 "com/example/kubera/kubera/FlowNetwork" "heads" "[I" (.ref hd) := o5_5
    have F_capacities_x0 : Fld Z h5 x0 "com/example/kubera/kubera/FlowNetwork" "capacities" "[J" (.ref cp) := o5_6
    have F_costs_x0 : Fld Z h5 x0 "com/example/kubera/kubera/FlowNetwork" "costs" "[J" (.ref co) := o5_7
    have F_nextArcs_x0 : Fld Z h5 x0 "com/example/kubera/kubera/FlowNetwork" "nextArcs" "[I" (.ref nx) := o5_8
    have F_firstArcs_x0 : Fld Z h5 x0 "com/example/kubera/kubera/FlowNetwork" "firstArcs" "[I" (.ref fa) := o5_9
    have F_lowers_x0 : Fld Z h5 x0 "com/example/kubera/kubera/FlowNetwork" "lowers" "[J" (.ref lo) := o5_10
    have F_supplies_x0 : Fld Z h5 x0 "com/example/kubera/kubera/FlowNetwork" "supplies" "[J" (.ref su) := o5_11
    have V_hd : Arv Z h5 hd khd .int (16 : Int32) (([(.int 1), (.int 0), (.int 1), (.int 0), (.int 0), (.int 0), (.int 0), (.int 0)].set 4 (.int (0 : Int32))).set 5 (.int (2 : Int32))) (.int (0 : Int32)) := o5_12
    have V_cp : Arv Z h5 cp kcp .long (16 : Int32) (([(.long q0), (.long 0), (.long q2), (.long 0), (.long 0), (.long 0), (.long 0), (.long 0)].set 4 (.long (cJ_160_1 (2 : Int32) (0 : Int32) (0 : Int64) ee (0 : Int64) (2 : Int32) (-1 : Int32) (2 : Int32) (0 : Int64) ee))).set 5 (.long (0 : Int64))) (.long (0 : Int64)) := o5_13
    have V_co : Arv Z h5 co kco .long (16 : Int32) (([(.long cA), (.long nA), (.long cB), (.long nB), (.long 0), (.long 0), (.long 0), (.long 0)].set 4 (.long (0 : Int64))).set 5 (.long (cJ_176_0 (2 : Int32) (0 : Int32) (0 : Int64) ee (0 : Int64) (2 : Int32) (-1 : Int32) (2 : Int32) (0 : Int64) ee))) (.long (0 : Int64)) := o5_14
    have V_nx : Arv Z h5 nx knx .int (16 : Int32) (([(.int (-1)), (.int (-1)), (.int 0), (.int 1), (.int 0), (.int 0), (.int 0), (.int 0)].set 4 (.int (-1 : Int32))).set 5 (.int (2 : Int32))) (.int (0 : Int32)) := o5_15
    have V_fa : Arv Z h5 fa kfa .int (4 : Int32) (([(.int 2), (.int 3), (.int (-1)), (.int (-1))].set 2 (.int (cJ_160_4 (2 : Int32) (0 : Int32) (0 : Int64) ee (0 : Int64) (2 : Int32) (-1 : Int32) (2 : Int32) (0 : Int64) ee))).set 0 (.int (cJ_176_4 (2 : Int32) (0 : Int32) (0 : Int64) ee (0 : Int64) (2 : Int32) (-1 : Int32) (2 : Int32) (0 : Int64) ee))) (.int (0 : Int32)) := o5_16
    have V_lo : Arv Z h5 lo klo .long (8 : Int32) ([(.long la), (.long lb), (.long 0), (.long 0)].set 2 (.long (0 : Int64))) (.long (0 : Int64)) := o5_17
    have V_su : Arv Z h5 su ksu .long (4 : Int32) (([(.long ee), (.long en), (.long 0), (.long 0)].set 2 (.long ((0 : Int64) - (0 : Int64)))).set 0 (.long (ee + (0 : Int64)))) (.long (0 : Int64)) := o5_18
    have K5 := K0.trans Kq5 ((allS (Or.inl (List.mem_of_getElem? (i := 0) rfl)) (allS (Or.inl (List.mem_of_getElem? (i := 1) rfl)) (allS (Or.inl (List.mem_of_getElem? (i := 3) rfl)) (allS (Or.inl (List.mem_of_getElem? (i := 4) rfl)) (allS (Or.inl (List.mem_of_getElem? (i := 2) rfl)) (allS (Or.inl (List.mem_of_getElem? (i := 7) rfl)) (allS (Or.inl (List.mem_of_getElem? (i := 5) rfl)) (allS (Or.inl (List.mem_of_getElem? (i := 6) rfl)) all0)))))))))
    refine Goes.st (fun t k => st5.trans k) ?_
    have F_arcs_x0 : Fld Z h5 x0 "com/example/kubera/kubera/FlowNetwork" "arcs" "I" (.int 3) := F_arcs_x0
    have V_hd : Arv Z h5 hd khd .int (16 : Int32) [(.int 1), (.int 0), (.int 1), (.int 0), (.int 0), (.int 2), (.int 0), (.int 0)] (.int (0 : Int32)) := V_hd
    have V_cp : Arv Z h5 cp kcp .long (16 : Int32) [(.long q0), (.long 0), (.long q2), (.long 0), (.long (capT_2 ee en q0 q2 cA cB)), (.long 0), (.long 0), (.long 0)] (.long (0 : Int64)) := V_cp
    have V_co : Arv Z h5 co kco .long (16 : Int32) [(.long cA), (.long nA), (.long cB), (.long nB), (.long 0), (.long 0), (.long 0), (.long 0)] (.long (0 : Int64)) := V_co
    have V_nx : Arv Z h5 nx knx .int (16 : Int32) [(.int (-1)), (.int (-1)), (.int 0), (.int 1), (.int (-1)), (.int 2), (.int 0), (.int 0)] (.int (0 : Int32)) := V_nx
    have V_lo : Arv Z h5 lo klo .long (8 : Int32) [(.long la), (.long lb), (.long 0), (.long 0)] (.long (0 : Int64)) := V_lo
    have V_su : Arv Z h5 su ksu .long (4 : Int32) [(.long (supT_2 ee en q0 q2 cA cB)), (.long en), (.long 0), (.long 0)] (.long (0 : Int64)) := V_su
    have V_fa : Arv Z h5 fa kfa .int (4 : Int32) [(.int 5), (.int 3), (.int 4), (.int (-1))] (.int (0 : Int32)) := V_fa
    have V_su : Arv Z h5 su ksu .long (4 : Int32) [(.long ee), (.long en), (.long 0), (.long 0)] (.long (0 : Int64)) := by
      have q := V_su
      rw [show (supT_2 ee en q0 q2 cA cB) = ee from Int64.add_zero _] at q
      exact q
    have V_cp : Arv Z h5 cp kcp .long (16 : Int32) [(.long q0), (.long 0), (.long q2), (.long 0), (.long ee), (.long 0), (.long 0), (.long 0)] (.long (0 : Int64)) := by
      have q := V_cp
      rw [show (capT_2 ee en q0 q2 cA cB) = ee from own_up2 hB] at q
      exact q
    refine Goes.hrun X5 e5 CX (own_c1 F_supplies_x0 (own_c2 V_su own_n)) (L := [.p 47 .pop 1, .p 48 (.lload_n 1) 1, .p 49 (.aload_n 0) 1, .f 50 38 0, .p 53 (.iload 5) 2, .J 55 1 0, .p 56 .ladd 1, .p 57 (.lstore_n 1) 1, .p 58 (.goto 36) 3, .p 94 (.lload_n 3) 1, .p 95 (.aload_n 0) 1, .f 96 38 0, .p 99 (.iload 5) 2, .J 101 1 0, .p 102 .ladd 1, .p 103 (.lstore_n 3) 1]) (by decide +kernel) rfl (g' := (mkF m 104 #[rv x0, jv (wT_57 ee en q0 q2 cA cB), .second, jv (wT_57 ee en q0 q2 cA cB), .second, iv 0, .unset, .unset, .unset, .unset, .unset, .unset, .unset] [])) rfl ⟨rr, ra (by decide), rr, ra (by decide), trivial⟩ ?_
    intro T9 X9 e9
    refine Goes.hrun X9 e9 CX (own_c1 F_source_x0 (own_c1 F_supplies_x0 (own_c2 V_su own_n))) (L := [.p 104 (.iinc 5 1) 3, .p 107 (.goto (-100)) 3, .p 7 (.iload 5) 2, .p 9 (.aload_n 0) 1, .f 10 32 0, .c 13 .ge 97 false, .p 16 (.aload_n 0) 1, .f 17 38 1, .p 20 (.iload 5) 2, .J 22 2 1, .p 23 (.lconst 0) 1, .p 24 .lcmp 1, .b 25 .le 36 true, .p 61 (.aload_n 0) 1, .f 62 38 1, .p 65 (.iload 5) 2]) (by decide +kernel) rfl (g' := (mkF m 67 #[rv x0, jv (wT_57 ee en q0 q2 cA cB), .second, jv (wT_57 ee en q0 q2 cA cB), .second, iv 1, .unset, .unset, .unset, .unset, .unset, .unset, .unset] [(.int 1), (.ref su)])) rfl ⟨rr, by decide, rr, ra (by decide), (fltL (own_n1 hB : ¬ ((0 : Int64) < en))).2.2.2, rr, trivial⟩ ?_
    intro T10 X10 e10
    refine Goes.hrun X10 e10 CX (own_c2 V_su (own_c1 F_sink_x0 (own_c1 F_supplies_x0 own_n))) (L := [.J 67 0 1, .p 68 (.lconst 0) 1, .p 69 .lcmp 1, .b 70 .ge 24 false, .p 73 (.aload_n 0) 1, .p 74 (.iload 5) 2, .p 76 (.aload_n 0) 1, .f 77 35 1, .p 80 (.lconst 0) 1, .p 81 (.aload_n 0) 1, .f 82 38 2, .p 85 (.iload 5) 2, .J 87 0 1, .p 88 .lneg 1, .p 89 (.lconst 0) 1]) (by decide +kernel) rfl (g' := (mkF m 90 #[rv x0, jv (wT_57 ee en q0 q2 cA cB), .second, jv (wT_57 ee en q0 q2 cA cB), .second, iv 1, .unset, .unset, .unset, .unset, .unset, .unset, .unset] [(.long 0), (.long (cT_90_1 ee en q0 q2 cA cB)), (.long 0), (.int 3), (.int 1), (.ref x0)])) rfl ⟨ra (by decide), (tltL (own_n2 hB hc25_2 : en < (0 : Int64))).2.1, rr, rr, ra (by decide), trivial⟩ ?_
    intro T11 X11 e11
    obtain ⟨cq12, kq12, q12a, q12b, q12c⟩ := isOf hZ e11 E_x0
    obtain ⟨_, _, ⟨T12, L12, k12, n12⟩, -, X12, ⟨Lc12, hQ12, l12, y12, z12⟩, st12⟩ := X11.virtualBack hx (y := ym12) (z := ym12) hown (mvT hZ w_68) (mvT hZ w_39) (notFace_of_selects (args := #[]) (mvT hZ w_41)) (mvT hZ w_41) (mvT hZ w_40) (by decide) (backOf (W := 0) (rmJ l Z a0 hw [] x0 (1 : Int32) (3 : Int32) (0 : Int64) (cT_90_1 ee en q0 q2 cA cB) (0 : Int64) hd cp co nx fa khd kcp kco knx kfa [(.int 1), (.int 0), (.int 1), (.int 0), (.int 0), (.int 2), (.int 0), (.int 0)] [(.int (-1)), (.int (-1)), (.int 0), (.int 1), (.int (-1)), (.int 2), (.int 0), (.int 0)] [(.long q0), (.long 0), (.long q2), (.long 0), (.long ee), (.long 0), (.long 0), (.long 0)] [(.long cA), (.long nA), (.long cB), (.long nB), (.long 0), (.long 0), (.long 0), (.long 0)] [(.int 5), (.int 3), (.int 4), (.int (-1))] [(.long la), (.long lb), (.long 0), (.long 0)] [(.long ee), (.long en), (.long 0), (.long 0)] lo su klo ksu (3 : Int32) (3 : Int32) (-1 : Int32) en (0 : Int64) 6 7 3 1 3 h5 n0 (Nat.le_trans Z0 K5.1) E_x0 F_nodes_x0 F_source_x0 F_sink_x0 F_arcs_x0 F_heads_x0 F_capacities_x0 F_costs_x0 F_nextArcs_x0 F_firstArcs_x0 V_hd V_cp V_co V_nx V_fa F_lowers_x0 F_supplies_x0 V_lo V_su g_x0 g_hd g_cp g_co g_nx g_fa g_lo g_su ne_x0_hd ne_x0_cp ne_x0_co ne_x0_nx ne_x0_fa ne_x0_lo ne_x0_su ne_hd_cp ne_hd_co ne_hd_nx ne_hd_fa ne_hd_lo ne_hd_su ne_cp_co (Ne.symm ne_nx_cp) ne_cp_fa ne_cp_lo ne_cp_su (Ne.symm ne_nx_co) ne_co_fa ne_co_lo ne_co_su ne_nx_fa ne_nx_lo ne_nx_su (Ne.symm ne_lo_fa) (Ne.symm ne_su_fa) ne_lo_su rfl (by decide) (by decide) rfl (by decide) (by decide) rfl (by decide) (by decide) rfl (by decide) (by decide) rfl (by decide) (by decide) (Nat.le_of_ble_eq_true rfl) (Nat.le_of_ble_eq_true rfl) rfl rfl rfl rfl (Nat.le_of_ble_eq_true rfl) (Nat.le_of_ble_eq_true rfl) (Nat.le_of_ble_eq_true rfl) (Nat.le_of_ble_eq_true rfl) (Nat.le_of_ble_eq_true rfl) rfl rfl rfl rfl (by decide) (own_a3 hB hc25_2) (by decide)) hZ w_42 w_5 (by decide) (by decide)) q12a q12c (g := (mkF m 90 #[rv x0, jv (wT_57 ee en q0 q2 cA cB), .second, jv (wT_57 ee en q0 q2 cA cB), .second, iv 1, .unset, .unset, .unset, .unset, .unset, .unset, .unset] [(.long 0), (.long (cT_90_1 ee en q0 q2 cA cB)), (.long 0), (.int 3), (.int 1), (.ref x0)])) rfl (by rw [hml]; rfl) (Steps.refl _) (argsL := [(.int 1), (.int 3), (.long 0), (.long (cT_90_1 ee en q0 q2 cA cB)), (.long 0)]) (rest := []) (lenOf pdT_0 rfl) rfl (by show 2 * 0 + _ ≤ _; exact Nat.le_of_eq rfl) (hb hby d17_90) (fun _ _ => ⟨rfl, e11, (by decide : 0 + 0 ≤ _), (by decide : 0 + 0 ≤ _)⟩)
    dsimp only [Pt.U, Pt.locs, Pt.cells, Pt.slots] at X12 l12 y12 z12 st12 hQ12
    subst l12 y12 z12
    obtain ⟨h12, eh12⟩ : ∃ z, z = T12.heap := ⟨_, rfl⟩
    rw [← eh12] at hQ12
    have e12 : T12.heap = h12 := eh12.symm
    obtain ⟨rfl, N12q, Kq12, o12_0, o12_1, o12_2, o12_3, o12_4, o12_5, o12_6, o12_7, o12_8, o12_9, o12_10, o12_11, o12_12, o12_13, o12_14, o12_15, o12_16, o12_17, o12_18⟩ := hQ12
    have N12 := Fr.app N5 N12q
    have E_x0 : Exa Z h12 x0 "com/example/kubera/kubera/FlowNetwork" := o12_0
    have F_arcs_x0 : Fld Z h12 x0 "com/example/kubera/kubera/FlowNetwork" "arcs" "I" (.int (oT_90_1 ee en q0 q2 cA cB)) := o12_1
    have F_nodes_x0 : Fld Z h12 x0 "com/example/kubera/kubera/FlowNetwork" "nodes" "I" (.int 4) := o12_2
    have F_source_x0 : Fld Z h12 x0 "com/example/kubera/kubera/FlowNetwork" "source" "I" (.int 2) := o12_3
    have F_sink_x0 : Fld Z h12 x0 "com/example/kubera/kubera/FlowNetwork" "sink" "I" (.int 3) := o12_4
    have F_heads_x0 : Fld Z h12 x0 "com/example/kubera/kubera/FlowNetwork" "heads" "[I" (.ref hd) := o12_5
    have F_capacities_x0 : Fld Z h12 x0 "com/example/kubera/kubera/FlowNetwork" "capacities" "[J" (.ref cp) := o12_6
    have F_costs_x0 : Fld Z h12 x0 "com/example/kubera/kubera/FlowNetwork" "costs" "[J" (.ref co) := o12_7
    have F_nextArcs_x0 : Fld Z h12 x0 "com/example/kubera/kubera/FlowNetwork" "nextArcs" "[I" (.ref nx) := o12_8
    have F_firstArcs_x0 : Fld Z h12 x0 "com/example/kubera/kubera/FlowNetwork" "firstArcs" "[I" (.ref fa) := o12_9
    have F_lowers_x0 : Fld Z h12 x0 "com/example/kubera/kubera/FlowNetwork" "lowers" "[J" (.ref lo) := o12_10
    have F_supplies_x0 : Fld Z h12 x0 "com/example/kubera/kubera/FlowNetwork" "supplies" "[J" (.ref su) := o12_11
    have V_hd : Arv Z h12 hd khd .int (16 : Int32) (([(.int 1), (.int 0), (.int 1), (.int 0), (.int 0), (.int 2), (.int 0), (.int 0)].set 6 (.int (3 : Int32))).set 7 (.int (1 : Int32))) (.int (0 : Int32)) := o12_12
    have V_cp : Arv Z h12 cp kcp .long (16 : Int32) (([(.long q0), (.long 0), (.long q2), (.long 0), (.long ee), (.long 0), (.long 0), (.long 0)].set 6 (.long (cJ_160_1 (1 : Int32) (3 : Int32) (0 : Int64) (cT_90_1 ee en q0 q2 cA cB) (0 : Int64) (3 : Int32) (3 : Int32) (-1 : Int32) en (0 : Int64)))).set 7 (.long (0 : Int64))) (.long (0 : Int64)) := o12_13
    have V_co : Arv Z h12 co kco .long (16 : Int32) (([(.long cA), (.long nA), (.long cB), (.long nB), (.long 0), (.long 0), (.long 0), (.long 0)].set 6 (.long (0 : Int64))).set 7 (.long (cJ_176_0 (1 : Int32) (3 : Int32) (0 : Int64) (cT_90_1 ee en q0 q2 cA cB) (0 : Int64) (3 : Int32) (3 : Int32) (-1 : Int32) en (0 : Int64)))) (.long (0 : Int64)) := o12_14
    have V_nx : Arv Z h12 nx knx .int (16 : Int32) (([(.int (-1)), (.int (-1)), (.int 0), (.int 1), (.int (-1)), (.int 2), (.int 0), (.int 0)].set 6 (.int (3 : Int32))).set 7 (.int (-1 : Int32))) (.int (0 : Int32)) := o12_15
    have V_fa : Arv Z h12 fa kfa .int (4 : Int32) (([(.int 5), (.int 3), (.int 4), (.int (-1))].set 1 (.int (cJ_160_4 (1 : Int32) (3 : Int32) (0 : Int64) (cT_90_1 ee en q0 q2 cA cB) (0 : Int64) (3 : Int32) (3 : Int32) (-1 : Int32) en (0 : Int64)))).set 3 (.int (cJ_176_4 (1 : Int32) (3 : Int32) (0 : Int64) (cT_90_1 ee en q0 q2 cA cB) (0 : Int64) (3 : Int32) (3 : Int32) (-1 : Int32) en (0 : Int64)))) (.int (0 : Int32)) := o12_16
    have V_lo : Arv Z h12 lo klo .long (8 : Int32) ([(.long la), (.long lb), (.long 0), (.long 0)].set 3 (.long (0 : Int64))) (.long (0 : Int64)) := o12_17
    have V_su : Arv Z h12 su ksu .long (4 : Int32) (([(.long ee), (.long en), (.long 0), (.long 0)].set 1 (.long (en - (0 : Int64)))).set 3 (.long ((0 : Int64) + (0 : Int64)))) (.long (0 : Int64)) := o12_18
    have K12 := K5.trans Kq12 ((allS (Or.inl (List.mem_of_getElem? (i := 0) rfl)) (allS (Or.inl (List.mem_of_getElem? (i := 1) rfl)) (allS (Or.inl (List.mem_of_getElem? (i := 3) rfl)) (allS (Or.inl (List.mem_of_getElem? (i := 4) rfl)) (allS (Or.inl (List.mem_of_getElem? (i := 2) rfl)) (allS (Or.inl (List.mem_of_getElem? (i := 7) rfl)) (allS (Or.inl (List.mem_of_getElem? (i := 5) rfl)) (allS (Or.inl (List.mem_of_getElem? (i := 6) rfl)) all0)))))))))
    refine Goes.st (fun t k => st12.trans k) ?_
    have F_arcs_x0 : Fld Z h12 x0 "com/example/kubera/kubera/FlowNetwork" "arcs" "I" (.int 4) := F_arcs_x0
    have V_hd : Arv Z h12 hd khd .int (16 : Int32) [(.int 1), (.int 0), (.int 1), (.int 0), (.int 0), (.int 2), (.int 3), (.int 1)] (.int (0 : Int32)) := V_hd
    have V_cp : Arv Z h12 cp kcp .long (16 : Int32) [(.long q0), (.long 0), (.long q2), (.long 0), (.long ee), (.long 0), (.long (capT_3 ee en q0 q2 cA cB)), (.long 0)] (.long (0 : Int64)) := V_cp
    have V_co : Arv Z h12 co kco .long (16 : Int32) [(.long cA), (.long nA), (.long cB), (.long nB), (.long 0), (.long 0), (.long 0), (.long 0)] (.long (0 : Int64)) := V_co
    have V_nx : Arv Z h12 nx knx .int (16 : Int32) [(.int (-1)), (.int (-1)), (.int 0), (.int 1), (.int (-1)), (.int 2), (.int 3), (.int (-1))] (.int (0 : Int32)) := V_nx
    have V_lo : Arv Z h12 lo klo .long (8 : Int32) [(.long la), (.long lb), (.long 0), (.long 0)] (.long (0 : Int64)) := V_lo
    have V_su : Arv Z h12 su ksu .long (4 : Int32) [(.long ee), (.long (supT_3 ee en q0 q2 cA cB)), (.long 0), (.long 0)] (.long (0 : Int64)) := V_su
    have V_fa : Arv Z h12 fa kfa .int (4 : Int32) [(.int 5), (.int 6), (.int 4), (.int 7)] (.int (0 : Int32)) := V_fa
    have V_su : Arv Z h12 su ksu .long (4 : Int32) [(.long ee), (.long en), (.long 0), (.long 0)] (.long (0 : Int64)) := by
      have q := V_su
      rw [show (supT_3 ee en q0 q2 cA cB) = en from Int64.sub_zero _] at q
      exact q
    have V_cp : Arv Z h12 cp kcp .long (16 : Int32) [(.long q0), (.long 0), (.long q2), (.long 0), (.long ee), (.long 0), (.long ee), (.long 0)] (.long (0 : Int64)) := by
      have q := V_cp
      rw [show (capT_3 ee en q0 q2 cA cB) = ee from own_up3 hB] at q
      exact q
    refine Goes.hrun X12 e12 CX (own_c1 F_supplies_x0 (own_c2 V_su (own_c1 F_source_x0 own_n))) (L := [.p 93 .pop 1, .p 94 (.lload_n 3) 1, .p 95 (.aload_n 0) 1, .f 96 38 0, .p 99 (.iload 5) 2, .J 101 1 1, .p 102 .ladd 1, .p 103 (.lstore_n 3) 1, .p 104 (.iinc 5 1) 3, .p 107 (.goto (-100)) 3, .p 7 (.iload 5) 2, .p 9 (.aload_n 0) 1, .f 10 32 2, .c 13 .ge 97 true, .p 110 (.lload_n 3) 1, .p 111 (.lconst 0) 1]) (by decide +kernel) rfl (g' := (mkF m 112 #[rv x0, jv (wT_57 ee en q0 q2 cA cB), .second, jv (wT_103 ee en q0 q2 cA cB), .second, iv 2, .unset, .unset, .unset, .unset, .unset, .unset, .unset] [(.long 0), (.long (wT_103 ee en q0 q2 cA cB))])) rfl ⟨rr, ra (by decide), rr, by decide, trivial⟩ ?_
    intro T15 X15 e15
    refine Goes.hrun X15 e15 CX own_n (L := [.p 112 .lcmp 1, .b 113 .eq 5 true]) (by decide +kernel) rfl (g' := (mkF m 118 #[rv x0, jv (wT_57 ee en q0 q2 cA cB), .second, jv (wT_103 ee en q0 q2 cA cB), .second, iv 2, .unset, .unset, .unset, .unset, .unset, .unset, .unset] [])) rfl ⟨(teqL (own_bal hB : (wT_103 ee en q0 q2 cA cB) = (0 : Int64))).1, trivial⟩ ?_
    intro T16 X16 e16
    have NB : own_all Z h12 (NetL x0 hd nx cp co fa lo khd knx kco kfa klo cA nA cB nB la lb) := ⟨F_nodes_x0, F_source_x0, F_sink_x0, F_firstArcs_x0, F_heads_x0, F_nextArcs_x0, F_capacities_x0, F_costs_x0, V_fa, V_hd, V_nx, V_co, F_lowers_x0, V_lo, trivial⟩
    have d_cp : Dis (NetL x0 hd nx cp co fa lo khd knx kco kfa klo cA nA cB nB la lb) cp := own_discp ne_x0_cp (Ne.symm ne_cp_fa) ne_hd_cp ne_nx_cp (Ne.symm ne_cp_co) (Ne.symm ne_cp_lo)
    refine Goes.hrun X16 e16 CX NB (L := [.p 118 (.aload_n 0) 1, .f 119 28 0]) (by decide +kernel) rfl (g' := (mkF m 122 #[rv x0, jv (wT_57 ee en q0 q2 cA cB), .second, jv (wT_103 ee en q0 q2 cA cB), .second, iv 2, .unset, .unset, .unset, .unset, .unset, .unset, .unset] [(.int 4)])) rfl ⟨rr, trivial⟩ ?_
    intro T17 X17 e17
    obtain ⟨T18, h18, k18, X18, e18, E18, A18, B18, st18⟩ := newPE X17 hx hZ (aty := .long) w_17 e17 (g := (mkF m 122 #[rv x0, jv (wT_57 ee en q0 q2 cA cB), .second, jv (wT_103 ee en q0 q2 cA cB), .second, iv 2, .unset, .unset, .unset, .unset, .unset, .unset, .unset] [(.int 4)])) rfl (hb hby d17_122) rfl (by decide) (cap := 4) (by decide) (by decide) (by decide) (by decide) (ad := "[J") (by decide)
    obtain ⟨b18, g18⟩ : ∃ z, z = h12.size := ⟨_, rfl⟩
    rw [← g18] at A18 B18 st18
    have d_b18 := own_all.dis NB (Nat.le_of_eq g18.symm)
    have ne_cp_b18 : cp ≠ b18 := Nat.ne_of_lt (Nat.lt_of_lt_of_le V_cp.lt (Nat.le_of_eq g18.symm))
    have g_b18 : n0 ≤ b18 := Nat.le_trans (Nat.le_trans Z0 K12.1) (Nat.le_of_eq g18.symm)
    have sz_b18 : h0.size ≤ b18 := Nat.le_trans K12.1 (Nat.le_of_eq g18.symm)
    have E_x0 := E_x0.ext E18
    have V_cp := V_cp.ext E18
    have NB := own_all.ext E18 NB
    have K18 := K12.ext E18
    have E_b18 : Exa Z h18 b18 "[J" := B18
    have V_b18 : Arv Z h18 b18 k18 .long (4 : Int32) [(.long 0), (.long 0), (.long 0), (.long 0)] (.long 0) := (Arv.new A18 (by decide)).pad (pad_rep [] (.long 0) 4)
    refine Goes.st st18 ?_
    refine Goes.hrun X18 e18 CX NB (L := [.p 124 (.astore 5) 2, .p 126 (.aload_n 0) 1, .f 127 28 0]) (by decide +kernel) rfl (g' := (mkF m 130 #[rv x0, jv (wT_57 ee en q0 q2 cA cB), .second, jv (wT_103 ee en q0 q2 cA cB), .second, rv b18, .unset, .unset, .unset, .unset, .unset, .unset, .unset] [(.int 4)])) rfl ⟨rr, trivial⟩ ?_
    intro T19 X19 e19
    obtain ⟨T20, h20, k20, X20, e20, E20, A20, B20, st20⟩ := newPE X19 hx hZ (aty := .long) w_17 e19 (g := (mkF m 130 #[rv x0, jv (wT_57 ee en q0 q2 cA cB), .second, jv (wT_103 ee en q0 q2 cA cB), .second, rv b18, .unset, .unset, .unset, .unset, .unset, .unset, .unset] [(.int 4)])) rfl (hb hby d17_130) rfl (by decide) (cap := 4) (by decide) (by decide) (by decide) (by decide) (ad := "[J") (by decide)
    obtain ⟨b20, g20⟩ : ∃ z, z = h18.size := ⟨_, rfl⟩
    rw [← g20] at A20 B20 st20
    have d_b20 := own_all.dis NB (Nat.le_of_eq g20.symm)
    have ne_cp_b20 : cp ≠ b20 := Nat.ne_of_lt (Nat.lt_of_lt_of_le V_cp.lt (Nat.le_of_eq g20.symm))
    have ne_b18_b20 : b18 ≠ b20 := Nat.ne_of_lt (Nat.lt_of_lt_of_le E_b18.lt (Nat.le_of_eq g20.symm))
    have g_b20 : n0 ≤ b20 := Nat.le_trans (Nat.le_trans Z0 K18.1) (Nat.le_of_eq g20.symm)
    have sz_b20 : h0.size ≤ b20 := Nat.le_trans K18.1 (Nat.le_of_eq g20.symm)
    have E_x0 := E_x0.ext E20
    have V_cp := V_cp.ext E20
    have E_b18 := E_b18.ext E20
    have V_b18 := V_b18.ext E20
    have NB := own_all.ext E20 NB
    have K20 := K18.ext E20
    have E_b20 : Exa Z h20 b20 "[J" := B20
    have V_b20 : Arv Z h20 b20 k20 .long (4 : Int32) [(.long 0), (.long 0), (.long 0), (.long 0)] (.long 0) := (Arv.new A20 (by decide)).pad (pad_rep [] (.long 0) 4)
    refine Goes.st st20 ?_
    refine Goes.hrun X20 e20 CX NB (L := [.p 132 (.astore 6) 2, .p 134 (.aload_n 0) 1, .f 135 28 0]) (by decide +kernel) rfl (g' := (mkF m 138 #[rv x0, jv (wT_57 ee en q0 q2 cA cB), .second, jv (wT_103 ee en q0 q2 cA cB), .second, rv b18, rv b20, .unset, .unset, .unset, .unset, .unset, .unset] [(.int 4)])) rfl ⟨rr, trivial⟩ ?_
    intro T21 X21 e21
    obtain ⟨T22, h22, k22, X22, e22, E22, A22, B22, st22⟩ := newPE X21 hx hZ (aty := .int) w_12 e21 (g := (mkF m 138 #[rv x0, jv (wT_57 ee en q0 q2 cA cB), .second, jv (wT_103 ee en q0 q2 cA cB), .second, rv b18, rv b20, .unset, .unset, .unset, .unset, .unset, .unset] [(.int 4)])) rfl (hb hby d17_138) rfl (by decide) (cap := 4) (by decide) (by decide) (by decide) (by decide) (ad := "[I") (by decide)
    obtain ⟨b22, g22⟩ : ∃ z, z = h20.size := ⟨_, rfl⟩
    rw [← g22] at A22 B22 st22
    have d_b22 := own_all.dis NB (Nat.le_of_eq g22.symm)
    have ne_cp_b22 : cp ≠ b22 := Nat.ne_of_lt (Nat.lt_of_lt_of_le V_cp.lt (Nat.le_of_eq g22.symm))
    have ne_b18_b22 : b18 ≠ b22 := Nat.ne_of_lt (Nat.lt_of_lt_of_le E_b18.lt (Nat.le_of_eq g22.symm))
    have ne_b20_b22 : b20 ≠ b22 := Nat.ne_of_lt (Nat.lt_of_lt_of_le E_b20.lt (Nat.le_of_eq g22.symm))
    have g_b22 : n0 ≤ b22 := Nat.le_trans (Nat.le_trans Z0 K20.1) (Nat.le_of_eq g22.symm)
    have sz_b22 : h0.size ≤ b22 := Nat.le_trans K20.1 (Nat.le_of_eq g22.symm)
    have E_x0 := E_x0.ext E22
    have V_cp := V_cp.ext E22
    have E_b18 := E_b18.ext E22
    have V_b18 := V_b18.ext E22
    have E_b20 := E_b20.ext E22
    have V_b20 := V_b20.ext E22
    have NB := own_all.ext E22 NB
    have K22 := K20.ext E22
    have E_b22 : Exa Z h22 b22 "[I" := B22
    have V_b22 : Arv Z h22 b22 k22 .int (4 : Int32) [(.int 0), (.int 0), (.int 0), (.int 0)] (.int 0) := (Arv.new A22 (by decide)).pad (pad_rep [] (.int 0) 4)
    refine Goes.st st22 ?_
    refine Goes.hrun X22 e22 CX NB (L := [.p 140 (.astore 7) 2, .p 142 (.aload_n 0) 1, .f 143 28 0]) (by decide +kernel) rfl (g' := (mkF m 146 #[rv x0, jv (wT_57 ee en q0 q2 cA cB), .second, jv (wT_103 ee en q0 q2 cA cB), .second, rv b18, rv b20, rv b22, .unset, .unset, .unset, .unset, .unset] [(.int 4)])) rfl ⟨rr, trivial⟩ ?_
    intro T23 X23 e23
    obtain ⟨T24, h24, k24, X24, e24, E24, A24, B24, st24⟩ := newPE X23 hx hZ (aty := .int) w_12 e23 (g := (mkF m 146 #[rv x0, jv (wT_57 ee en q0 q2 cA cB), .second, jv (wT_103 ee en q0 q2 cA cB), .second, rv b18, rv b20, rv b22, .unset, .unset, .unset, .unset, .unset] [(.int 4)])) rfl (hb hby d17_146) rfl (by decide) (cap := 4) (by decide) (by decide) (by decide) (by decide) (ad := "[I") (by decide)
    obtain ⟨b24, g24⟩ : ∃ z, z = h22.size := ⟨_, rfl⟩
    rw [← g24] at A24 B24 st24
    have d_b24 := own_all.dis NB (Nat.le_of_eq g24.symm)
    have ne_cp_b24 : cp ≠ b24 := Nat.ne_of_lt (Nat.lt_of_lt_of_le V_cp.lt (Nat.le_of_eq g24.symm))
    have ne_b18_b24 : b18 ≠ b24 := Nat.ne_of_lt (Nat.lt_of_lt_of_le E_b18.lt (Nat.le_of_eq g24.symm))
    have ne_b20_b24 : b20 ≠ b24 := Nat.ne_of_lt (Nat.lt_of_lt_of_le E_b20.lt (Nat.le_of_eq g24.symm))
    have ne_b22_b24 : b22 ≠ b24 := Nat.ne_of_lt (Nat.lt_of_lt_of_le E_b22.lt (Nat.le_of_eq g24.symm))
    have g_b24 : n0 ≤ b24 := Nat.le_trans (Nat.le_trans Z0 K22.1) (Nat.le_of_eq g24.symm)
    have sz_b24 : h0.size ≤ b24 := Nat.le_trans K22.1 (Nat.le_of_eq g24.symm)
    have E_x0 := E_x0.ext E24
    have V_cp := V_cp.ext E24
    have E_b18 := E_b18.ext E24
    have V_b18 := V_b18.ext E24
    have E_b20 := E_b20.ext E24
    have V_b20 := V_b20.ext E24
    have E_b22 := E_b22.ext E24
    have V_b22 := V_b22.ext E24
    have NB := own_all.ext E24 NB
    have K24 := K22.ext E24
    have E_b24 : Exa Z h24 b24 "[I" := B24
    have V_b24 : Arv Z h24 b24 k24 .int (4 : Int32) [(.int 0), (.int 0), (.int 0), (.int 0)] (.int 0) := (Arv.new A24 (by decide)).pad (pad_rep [] (.int 0) 4)
    refine Goes.st st24 ?_
    refine Goes.run X24 hx hown hci hcl hby (L := [(148, .astore 8, 2), (150, .lconst 0, 1), (151, .lstore 9, 2)]) (by decide +kernel) rfl (g' := (mkF m 153 #[rv x0, jv (wT_57 ee en q0 q2 cA cB), .second, jv (wT_103 ee en q0 q2 cA cB), .second, rv b18, rv b20, rv b22, rv b24, jv 0, .second, .unset, .unset] [])) rfl ?_
    rcases own_cases hB hc25_2 with hT | hT
    · skip
      refine Goes.hrun X24 e24 CX NB (L := [.p 153 (.lload 9) 2, .p 155 (.lload_n 1) 1, .p 156 .lcmp 1, .b 157 .ge 58 false, .p 160 (.aload_n 0) 1, .p 161 (.aload 5) 2, .p 163 (.aload 6) 2]) (by decide +kernel) rfl (g' := (mkF m 165 #[rv x0, jv (wT_57 ee en q0 q2 cA cB), .second, jv (wT_103 ee en q0 q2 cA cB), .second, rv b18, rv b20, rv b22, rv b24, jv 0, .second, .unset, .unset] [(.ref b20), (.ref b18), (.ref x0)])) rfl ⟨(tltL (own_r1 hB hc25_2 : (0 : Int64) < (wT_57 ee en q0 q2 cA cB))).2.1, trivial⟩ ?_
      intro T26 X26 e26
      obtain ⟨cq27, q27a, q27b⟩ := E_x0.cell
      obtain ⟨_, _, ⟨T27, L27, k27, n27⟩, -, X27, ⟨Lc27, hQ27, l27, y27, z27⟩, st27⟩ := X26.privateBack hx (y := ym8) hown (mvT hZ w_69) (mvT hZ w_70) (own_selp (y := ym8) (mvT hZ w_4) (mvP hZ w_71) (mvT hZ w_70) (by decide)) (Cond.privateMethod_at (mvP hZ w_71 (args := #[]))) (mvT hZ w_72) (by decide) (backOf (W := 0) (rmB l Z a0 hw [] x0 b18 b20 hd nx cp co fa lo khd knx kco kfa kcp klo cA nA cB nB la lb k18 k20 q0 (0 : Int64) q2 (0 : Int64) ee (0 : Int64) ee (0 : Int64) (0 : Int64) (0 : Int64) (0 : Int64) (0 : Int64) (0 : Int64) cA h24 n0 (Nat.le_trans Z0 K24.1) NB V_cp V_b18 V_b20 g_b18 g_b20 d_b18 d_b20 ne_b18_b20 (Ne.symm ne_cp_b18) (Ne.symm ne_cp_b20) (own_h4_A1 hB hc25_2 hT) (own_h4_A1 hB hc25_2 hT) (own_hMA_A1 hB hc25_2 hT) (own_hMB_A1 hB hc25_2 hT) (own_hV_A1 hB hc25_2 hT)) hZ w_72 w_5 (by decide) (by decide)) (g := (mkF m 165 #[rv x0, jv (wT_57 ee en q0 q2 cA cB), .second, jv (wT_103 ee en q0 q2 cA cB), .second, rv b18, rv b20, rv b22, rv b24, jv 0, .second, .unset, .unset] [(.ref b20), (.ref b18), (.ref x0)])) rfl (by rw [hml]; rfl) (Steps.refl _) (a := x0) (by rw [e26]; exact q27a) q27b (argsL := [(.ref b18), (.ref b20)]) (rest := []) (lenOf pdT_1 rfl) rfl (by show 2 * 0 + _ ≤ _; exact Nat.le_of_eq rfl) (hb hby d17_165) (fun _ _ => ⟨rfl, e26, (by decide : 4 + 4 ≤ _), (by decide : 16 + 15 ≤ _)⟩)
      dsimp only [Pt.U, Pt.locs, Pt.cells, Pt.slots] at X27 l27 y27 z27 st27 hQ27
      subst l27 y27 z27
      obtain ⟨h27, eh27⟩ : ∃ z, z = T27.heap := ⟨_, rfl⟩
      rw [← eh27] at hQ27
      have e27 : T27.heap = h27 := eh27.symm
      obtain ⟨dw27, dx27, dy27, dz27, rfl, N27q, Kq27, o27_0, o27_1⟩ := hQ27
      have N27 := Fr.app N12 N27q
      have NB := own_all.keep Kq27 (own_dS d_b18 (own_dS d_b20 own_d0)) NB
      have E_x0 := E_x0.keep Kq27
      have V_cp := V_cp.keep Kq27 (ninS ne_cp_b18 (ninS ne_cp_b20 nin0))
      have E_b18 := E_b18.keep Kq27
      have E_b20 := E_b20.keep Kq27
      have E_b22 := E_b22.keep Kq27
      have V_b22 := V_b22.keep Kq27 (ninS (Ne.symm ne_b18_b22) (ninS (Ne.symm ne_b20_b22) nin0))
      have E_b24 := E_b24.keep Kq27
      have V_b24 := V_b24.keep Kq27 (ninS (Ne.symm ne_b18_b24) (ninS (Ne.symm ne_b20_b24) nin0))
      have K27 := K24.trans Kq27 ((allS (Or.inr sz_b18) (allS (Or.inr sz_b20) all0)))
      have V_b18 : Arv Z h27 b18 k18 .long (4 : Int32) [(.long 0), (.long cA), (.long 0), (.long cA)] (.long 0) := o27_0
      have V_b20 : Arv Z h27 b20 k20 .long (4 : Int32) [(.long dw27), (.long dx27), (.long dy27), (.long dz27)] (.long 0) := o27_1
      refine Goes.st (fun t k => st27.trans k) ?_
      refine Goes.hrun X27 e27 CX NB (L := [.b 168 .eq 47 false, .p 171 (.aload_n 0) 1, .p 172 (.aload 5) 2, .p 174 (.aload 7) 2, .p 176 (.aload 8) 2]) (by decide +kernel) rfl (g' := (mkF m 178 #[rv x0, jv (wT_57 ee en q0 q2 cA cB), .second, jv (wT_103 ee en q0 q2 cA cB), .second, rv b18, rv b20, rv b22, rv b24, jv 0, .second, .unset, .unset] [(.ref b24), (.ref b22), (.ref b18), (.ref x0)])) rfl ⟨by decide, trivial⟩ ?_
      intro T29 X29 e29
      obtain ⟨cq30, q30a, q30b⟩ := E_x0.cell
      obtain ⟨_, _, ⟨T30, L30, k30, n30⟩, -, X30, ⟨Lc30, hQ30, l30, y30, z30⟩, st30⟩ := X29.privateBack hx (y := ym10) hown (mvT hZ w_109) (mvT hZ w_110) (own_selp (y := ym10) (mvT hZ w_4) (mvP hZ w_111) (mvT hZ w_110) (by decide)) (Cond.privateMethod_at (mvP hZ w_111 (args := #[]))) (mvT hZ w_112) (by decide) (backOf (W := 0) (rmF l Z a0 hw [] x0 b18 b22 b24 hd nx cp co fa lo khd knx kco kfa kcp klo cA nA cB nB la lb k18 k22 k24 q0 (0 : Int64) q2 (0 : Int64) ee (0 : Int64) (0 : Int64) cA (0 : Int32) (0 : Int32) (0 : Int32) (0 : Int32) (0 : Int32) (0 : Int32) (0 : Int32) (0 : Int32) (own_u0_A1 ee q0 q2) (own_u1_A1 ee q0 q2) (own_u2_A1 ee q0 q2) (own_u3_A1 ee q0 q2) (own_u4_A1 ee q0 q2) (own_u5_A1 ee q0 q2) (own_u7_A1 ee q0 q2) (own_uw_A1 ee q0 q2) h27 n0 (Nat.le_trans Z0 K27.1) NB E_x0 V_cp V_b18 V_b22 V_b24 g_b22 g_b24 g_cp d_b22 d_b24 d_cp (Ne.symm ne_b18_b22) ne_b22_b24 (Ne.symm ne_cp_b22) (Ne.symm ne_b18_b24) (Ne.symm ne_cp_b24) ne_cp_b18 (own_h4_A1 hB hc25_2 hT) (own_bV_A1 hB hc25_2 hT)) hZ w_112 w_5 (by decide) (by decide)) (g := (mkF m 178 #[rv x0, jv (wT_57 ee en q0 q2 cA cB), .second, jv (wT_103 ee en q0 q2 cA cB), .second, rv b18, rv b20, rv b22, rv b24, jv 0, .second, .unset, .unset] [(.ref b24), (.ref b22), (.ref b18), (.ref x0)])) rfl (by rw [hml]; rfl) (Steps.refl _) (a := x0) (by rw [e29]; exact q30a) q30b (argsL := [(.ref b18), (.ref b22), (.ref b24)]) (rest := []) (lenOf pdT_2 rfl) rfl (by show 2 * 0 + _ ≤ _; exact Nat.le_of_eq rfl) (hb hby d17_178) (fun _ _ => ⟨rfl, e29, (by decide : 8 + 2 ≤ _), (by decide : 31 + 7 ≤ _)⟩)
      dsimp only [Pt.U, Pt.locs, Pt.cells, Pt.slots] at X30 l30 y30 z30 st30 hQ30
      subst l30 y30 z30
      obtain ⟨h30, eh30⟩ : ∃ z, z = T30.heap := ⟨_, rfl⟩
      rw [← eh30] at hQ30
      have e30 : T30.heap = h30 := eh30.symm
      obtain ⟨lw30, lx30, ly30, lz30, cw30, cx30, cy30, cz30, rfl, N30q, Kq30, o30_0, o30_1, o30_2⟩ := hQ30
      have N30 := Fr.app N27 N30q
      have NB := own_all.keep Kq30 (own_dS d_b22 (own_dS d_b24 (own_dS d_cp own_d0))) NB
      have E_x0 := E_x0.keep Kq30
      have E_b18 := E_b18.keep Kq30
      have E_b20 := E_b20.keep Kq30
      have E_b22 := E_b22.keep Kq30
      have E_b24 := E_b24.keep Kq30
      have V_b18 := V_b18.keep Kq30 (ninS ne_b18_b22 (ninS ne_b18_b24 (ninS (Ne.symm ne_cp_b18) nin0)))
      have V_b20 := V_b20.keep Kq30 (ninS ne_b20_b22 (ninS ne_b20_b24 (ninS (Ne.symm ne_cp_b20) nin0)))
      have K30 := K27.trans Kq30 ((allS (Or.inr sz_b22) (allS (Or.inr sz_b24) (allS (Or.inl (List.mem_of_getElem? (i := 3) rfl)) all0))))
      have V_b22 : Arv Z h30 b22 k22 .int (4 : Int32) [(.int lw30), (.int lx30), (.int ly30), (.int lz30)] (.int 0) := o30_0
      have V_b24 : Arv Z h30 b24 k24 .int (4 : Int32) [(.int cw30), (.int cx30), (.int cy30), (.int cz30)] (.int 0) := o30_1
      have V_cp : Arv Z h30 cp kcp .long (16 : Int32) [(.long (own_u0_A1 ee q0 q2)), (.long (own_u1_A1 ee q0 q2)), (.long (own_u2_A1 ee q0 q2)), (.long (own_u3_A1 ee q0 q2)), (.long (own_u4_A1 ee q0 q2)), (.long (own_u5_A1 ee q0 q2)), (.long (own_u4_A1 ee q0 q2)), (.long (own_u7_A1 ee q0 q2))] (.long (0 : Int64)) := o30_2
      refine Goes.st (fun t k => st30.trans k) ?_
      refine Goes.hrun X30 e30 CX NB (L := [.p 181 (.lstore 11) 2, .p 183 (.lload 11) 2, .p 185 (.lconst 0) 1, .p 186 .lcmp 1, .b 187 .le 25 false, .p 190 (.lload 9) 2, .p 192 (.lload 11) 2, .p 194 .ladd 1, .p 195 (.lstore 9) 2, .p 197 (.aload_n 0) 1, .p 198 (.aload 5) 2, .p 200 (.aload 7) 2, .p 202 (.aload 8) 2]) (by decide +kernel) rfl (g' := (mkF m 204 #[rv x0, jv (wT_57 ee en q0 q2 cA cB), .second, jv (wT_103 ee en q0 q2 cA cB), .second, rv b18, rv b20, rv b22, rv b24, jv (wT_195 ee en q0 q2 cA cB), .second, jv (wT_181 ee en q0 q2 cA cB), .second] [(.ref b24), (.ref b22), (.ref b18), (.ref x0)])) rfl ⟨(tltL (own_p_A1 hB hc25_2 hT : (0 : Int64) < (wT_181 ee en q0 q2 cA cB))).2.2.2, trivial⟩ ?_
      intro T32 X32 e32
      obtain ⟨cq33, q33a, q33b⟩ := E_x0.cell
      obtain ⟨_, _, ⟨T33, L33, k33, n33⟩, -, X33, ⟨Lc33, hQ33, l33, y33, z33⟩, st33⟩ := X32.privateBack hx (y := ym10) hown (mvT hZ w_109) (mvT hZ w_110) (own_selp (y := ym10) (mvT hZ w_4) (mvP hZ w_111) (mvT hZ w_110) (by decide)) (Cond.privateMethod_at (mvP hZ w_111 (args := #[]))) (mvT hZ w_112) (by decide) (backOf (W := 0) (rmH l Z a0 hw [] x0 b18 b22 b24 hd nx cp co fa lo khd knx kco kfa kcp klo cA nA cB nB la lb k18 k22 k24 (own_u0_A1 ee q0 q2) (own_u1_A1 ee q0 q2) (own_u2_A1 ee q0 q2) (own_u3_A1 ee q0 q2) (own_u4_A1 ee q0 q2) (own_u5_A1 ee q0 q2) (own_u7_A1 ee q0 q2) cA lw30 lx30 ly30 lz30 cw30 cx30 cy30 cz30 h30 n0 (Nat.le_trans Z0 K30.1) NB E_x0 V_cp V_b18 V_b22 V_b24 g_b22 d_b22 (Ne.symm ne_b18_b22) ne_b22_b24 (Ne.symm ne_cp_b22) (Ne.symm ne_b18_b24) (Ne.symm ne_cp_b24) ne_cp_b18 (own_hz2_A1 hB hc25_2 hT) (own_hz0_A1 hB hc25_2 hT)) hZ w_112 w_5 (by decide) (by decide)) (g := (mkF m 204 #[rv x0, jv (wT_57 ee en q0 q2 cA cB), .second, jv (wT_103 ee en q0 q2 cA cB), .second, rv b18, rv b20, rv b22, rv b24, jv (wT_195 ee en q0 q2 cA cB), .second, jv (wT_181 ee en q0 q2 cA cB), .second] [(.ref b24), (.ref b22), (.ref b18), (.ref x0)])) rfl (by rw [hml]; rfl) (Steps.refl _) (a := x0) (by rw [e32]; exact q33a) q33b (argsL := [(.ref b18), (.ref b22), (.ref b24)]) (rest := []) (lenOf pdT_2 rfl) rfl (by show 2 * 0 + _ ≤ _; exact Nat.le_of_eq rfl) (hb hby d17_204) (fun _ _ => ⟨rfl, e32, (by decide : 10 + 1 ≤ _), (by decide : 38 + 4 ≤ _)⟩)
      dsimp only [Pt.U, Pt.locs, Pt.cells, Pt.slots] at X33 l33 y33 z33 st33 hQ33
      subst l33 y33 z33
      obtain ⟨h33, eh33⟩ : ∃ z, z = T33.heap := ⟨_, rfl⟩
      rw [← eh33] at hQ33
      have e33 : T33.heap = h33 := eh33.symm
      obtain ⟨lw33, lx33, ly33, lz33, rfl, N33q, Kq33, o33_0⟩ := hQ33
      have N33 := Fr.app N30 N33q
      have NB := own_all.keep Kq33 (own_dS d_b22 own_d0) NB
      have E_x0 := E_x0.keep Kq33
      have E_b18 := E_b18.keep Kq33
      have E_b20 := E_b20.keep Kq33
      have E_b22 := E_b22.keep Kq33
      have E_b24 := E_b24.keep Kq33
      have V_b18 := V_b18.keep Kq33 (ninS ne_b18_b22 nin0)
      have V_b20 := V_b20.keep Kq33 (ninS ne_b20_b22 nin0)
      have V_b24 := V_b24.keep Kq33 (ninS (Ne.symm ne_b22_b24) nin0)
      have V_cp := V_cp.keep Kq33 (ninS ne_cp_b22 nin0)
      have K33 := K30.trans Kq33 ((allS (Or.inr sz_b22) all0))
      have V_b22 : Arv Z h33 b22 k22 .int (4 : Int32) [(.int lw33), (.int lx33), (.int ly33), (.int lz33)] (.int 0) := o33_0
      refine Goes.st (fun t k => st33.trans k) ?_
      refine Goes.hrun X33 e33 CX NB (L := [.p 207 (.lstore 11) 2, .p 209 (.goto (-26)) 3, .p 183 (.lload 11) 2, .p 185 (.lconst 0) 1, .p 186 .lcmp 1, .b 187 .le 25 true, .p 212 (.goto (-59)) 3, .p 153 (.lload 9) 2, .p 155 (.lload_n 1) 1, .p 156 .lcmp 1]) (by decide +kernel) rfl (g' := (mkF m 157 #[rv x0, jv (wT_57 ee en q0 q2 cA cB), .second, jv (wT_103 ee en q0 q2 cA cB), .second, rv b18, rv b20, rv b22, rv b24, jv (wT_195 ee en q0 q2 cA cB), .second, jv 0, .second] [(.int (lcmpW (wT_195 ee en q0 q2 cA cB) (wT_57 ee en q0 q2 cA cB)))])) rfl ⟨by decide, trivial⟩ ?_
      intro T36 X36 e36
      by_cases hc157_35 : (wT_195 ee en q0 q2 cA cB) < (wT_57 ee en q0 q2 cA cB)
      · skip
        refine Goes.st (B := T36.setTop (mkF m 160 #[rv x0, jv (wT_57 ee en q0 q2 cA cB), .second, jv (wT_103 ee en q0 q2 cA cB), .second, rv b18, rv b20, rv b22, rv b24, jv (wT_195 ee en q0 q2 cA cB), .second, jv 0, .second] [])) (fun t k => ?_) ?_
        · refine XS.ifNo X36.here hx rfl (hb hby d17_157) rfl (tltL hc157_35).2.1 ?_
          exact k
        refine Goes.run X36 hx hown hci hcl hby (L := [(160, .aload_n 0, 1), (161, .aload 5, 2), (163, .aload 6, 2)]) (by decide +kernel) rfl (g' := (mkF m 165 #[rv x0, jv (wT_57 ee en q0 q2 cA cB), .second, jv (wT_103 ee en q0 q2 cA cB), .second, rv b18, rv b20, rv b22, rv b24, jv (wT_195 ee en q0 q2 cA cB), .second, jv 0, .second] [(.ref b20), (.ref b18), (.ref x0)])) rfl ?_
        obtain ⟨cq37, q37a, q37b⟩ := E_x0.cell
        obtain ⟨_, _, ⟨T37, L37, k37, n37⟩, -, X37, ⟨Lc37, hQ37, l37, y37, z37⟩, st37⟩ := X36.privateBack hx (y := ym8) hown (mvT hZ w_69) (mvT hZ w_70) (own_selp (y := ym8) (mvT hZ w_4) (mvP hZ w_71) (mvT hZ w_70) (by decide)) (Cond.privateMethod_at (mvP hZ w_71 (args := #[]))) (mvT hZ w_72) (by decide) (backOf (W := 0) (rmB l Z a0 hw [] x0 b18 b20 hd nx cp co fa lo khd knx kco kfa kcp klo cA nA cB nB la lb k18 k20 (own_u0_A1 ee q0 q2) (own_u1_A1 ee q0 q2) (own_u2_A1 ee q0 q2) (own_u3_A1 ee q0 q2) (own_u4_A1 ee q0 q2) (own_u5_A1 ee q0 q2) (own_u4_A1 ee q0 q2) (own_u7_A1 ee q0 q2) cA dw27 dx27 dy27 dz27 cB h33 n0 (Nat.le_trans Z0 K33.1) NB V_cp V_b18 V_b20 g_b18 g_b20 d_b18 d_b20 ne_b18_b20 (Ne.symm ne_cp_b18) (Ne.symm ne_cp_b20) (own_h4_A2 hB hc25_2 hT hc157_35) (own_h4_A2 hB hc25_2 hT hc157_35) (own_hMA_A2 hB hc25_2 hT hc157_35) (own_hMB_A2 hB hc25_2 hT hc157_35) (own_hV_A2 hB hc25_2 hT hc157_35)) hZ w_72 w_5 (by decide) (by decide)) (g := (mkF m 165 #[rv x0, jv (wT_57 ee en q0 q2 cA cB), .second, jv (wT_103 ee en q0 q2 cA cB), .second, rv b18, rv b20, rv b22, rv b24, jv (wT_195 ee en q0 q2 cA cB), .second, jv 0, .second] [(.ref b20), (.ref b18), (.ref x0)])) rfl (by rw [hml]; rfl) (Steps.refl _) (a := x0) (by rw [e36]; exact q37a) q37b (argsL := [(.ref b18), (.ref b20)]) (rest := []) (lenOf pdT_1 rfl) rfl (by show 2 * 0 + _ ≤ _; exact Nat.le_of_eq rfl) (hb hby d17_165) (fun _ _ => ⟨rfl, e36, (by decide : 11 + 4 ≤ _), (by decide : 42 + 15 ≤ _)⟩)
        dsimp only [Pt.U, Pt.locs, Pt.cells, Pt.slots] at X37 l37 y37 z37 st37 hQ37
        subst l37 y37 z37
        obtain ⟨h37, eh37⟩ : ∃ z, z = T37.heap := ⟨_, rfl⟩
        rw [← eh37] at hQ37
        have e37 : T37.heap = h37 := eh37.symm
        obtain ⟨dw37, dx37, dy37, dz37, rfl, N37q, Kq37, o37_0, o37_1⟩ := hQ37
        have N37 := Fr.app N33 N37q
        have NB := own_all.keep Kq37 (own_dS d_b18 (own_dS d_b20 own_d0)) NB
        have E_x0 := E_x0.keep Kq37
        have E_b18 := E_b18.keep Kq37
        have E_b20 := E_b20.keep Kq37
        have E_b22 := E_b22.keep Kq37
        have E_b24 := E_b24.keep Kq37
        have V_b24 := V_b24.keep Kq37 (ninS (Ne.symm ne_b18_b24) (ninS (Ne.symm ne_b20_b24) nin0))
        have V_cp := V_cp.keep Kq37 (ninS ne_cp_b18 (ninS ne_cp_b20 nin0))
        have V_b22 := V_b22.keep Kq37 (ninS (Ne.symm ne_b18_b22) (ninS (Ne.symm ne_b20_b22) nin0))
        have K37 := K33.trans Kq37 ((allS (Or.inr sz_b18) (allS (Or.inr sz_b20) all0)))
        have V_b18 : Arv Z h37 b18 k18 .long (4 : Int32) [(.long 0), (.long cB), (.long 0), (.long cB)] (.long 0) := o37_0
        have V_b20 : Arv Z h37 b20 k20 .long (4 : Int32) [(.long dw37), (.long dx37), (.long dy37), (.long dz37)] (.long 0) := o37_1
        refine Goes.st (fun t k => st37.trans k) ?_
        refine Goes.hrun X37 e37 CX NB (L := [.b 168 .eq 47 false, .p 171 (.aload_n 0) 1, .p 172 (.aload 5) 2, .p 174 (.aload 7) 2, .p 176 (.aload 8) 2]) (by decide +kernel) rfl (g' := (mkF m 178 #[rv x0, jv (wT_57 ee en q0 q2 cA cB), .second, jv (wT_103 ee en q0 q2 cA cB), .second, rv b18, rv b20, rv b22, rv b24, jv (wT_195 ee en q0 q2 cA cB), .second, jv 0, .second] [(.ref b24), (.ref b22), (.ref b18), (.ref x0)])) rfl ⟨by decide, trivial⟩ ?_
        intro T39 X39 e39
        obtain ⟨cq40, q40a, q40b⟩ := E_x0.cell
        obtain ⟨_, _, ⟨T40, L40, k40, n40⟩, -, X40, ⟨Lc40, hQ40, l40, y40, z40⟩, st40⟩ := X39.privateBack hx (y := ym10) hown (mvT hZ w_109) (mvT hZ w_110) (own_selp (y := ym10) (mvT hZ w_4) (mvP hZ w_111) (mvT hZ w_110) (by decide)) (Cond.privateMethod_at (mvP hZ w_111 (args := #[]))) (mvT hZ w_112) (by decide) (backOf (W := 0) (rmF l Z a0 hw [] x0 b18 b22 b24 hd nx cp co fa lo khd knx kco kfa kcp klo cA nA cB nB la lb k18 k22 k24 (own_u0_A1 ee q0 q2) (own_u1_A1 ee q0 q2) (own_u2_A1 ee q0 q2) (own_u3_A1 ee q0 q2) (own_u4_A1 ee q0 q2) (own_u5_A1 ee q0 q2) (own_u7_A1 ee q0 q2) cB lw33 lx33 ly33 lz33 cw30 cx30 cy30 cz30 (own_u0_A2 ee q0 q2) (own_u1_A2 ee q0 q2) (own_u2_A2 ee q0 q2) (own_u3_A2 ee q0 q2) (own_u4_A2 ee q0 q2) (own_u5_A2 ee q0 q2) (own_u7_A2 ee q0 q2) (own_uw_A2 ee q0 q2) h37 n0 (Nat.le_trans Z0 K37.1) NB E_x0 V_cp V_b18 V_b22 V_b24 g_b22 g_b24 g_cp d_b22 d_b24 d_cp (Ne.symm ne_b18_b22) ne_b22_b24 (Ne.symm ne_cp_b22) (Ne.symm ne_b18_b24) (Ne.symm ne_cp_b24) ne_cp_b18 (own_h4_A2 hB hc25_2 hT hc157_35) (own_bV_A2 hB hc25_2 hT hc157_35)) hZ w_112 w_5 (by decide) (by decide)) (g := (mkF m 178 #[rv x0, jv (wT_57 ee en q0 q2 cA cB), .second, jv (wT_103 ee en q0 q2 cA cB), .second, rv b18, rv b20, rv b22, rv b24, jv (wT_195 ee en q0 q2 cA cB), .second, jv 0, .second] [(.ref b24), (.ref b22), (.ref b18), (.ref x0)])) rfl (by rw [hml]; rfl) (Steps.refl _) (a := x0) (by rw [e39]; exact q40a) q40b (argsL := [(.ref b18), (.ref b22), (.ref b24)]) (rest := []) (lenOf pdT_2 rfl) rfl (by show 2 * 0 + _ ≤ _; exact Nat.le_of_eq rfl) (hb hby d17_178) (fun _ _ => ⟨rfl, e39, (by decide : 15 + 2 ≤ _), (by decide : 57 + 7 ≤ _)⟩)
        dsimp only [Pt.U, Pt.locs, Pt.cells, Pt.slots] at X40 l40 y40 z40 st40 hQ40
        subst l40 y40 z40
        obtain ⟨h40, eh40⟩ : ∃ z, z = T40.heap := ⟨_, rfl⟩
        rw [← eh40] at hQ40
        have e40 : T40.heap = h40 := eh40.symm
        obtain ⟨lw40, lx40, ly40, lz40, cw40, cx40, cy40, cz40, rfl, N40q, Kq40, o40_0, o40_1, o40_2⟩ := hQ40
        have N40 := Fr.app N37 N40q
        have NB := own_all.keep Kq40 (own_dS d_b22 (own_dS d_b24 (own_dS d_cp own_d0))) NB
        have E_x0 := E_x0.keep Kq40
        have E_b18 := E_b18.keep Kq40
        have E_b20 := E_b20.keep Kq40
        have E_b22 := E_b22.keep Kq40
        have E_b24 := E_b24.keep Kq40
        have V_b18 := V_b18.keep Kq40 (ninS ne_b18_b22 (ninS ne_b18_b24 (ninS (Ne.symm ne_cp_b18) nin0)))
        have V_b20 := V_b20.keep Kq40 (ninS ne_b20_b22 (ninS ne_b20_b24 (ninS (Ne.symm ne_cp_b20) nin0)))
        have K40 := K37.trans Kq40 ((allS (Or.inr sz_b22) (allS (Or.inr sz_b24) (allS (Or.inl (List.mem_of_getElem? (i := 3) rfl)) all0))))
        have V_b22 : Arv Z h40 b22 k22 .int (4 : Int32) [(.int lw40), (.int lx40), (.int ly40), (.int lz40)] (.int 0) := o40_0
        have V_b24 : Arv Z h40 b24 k24 .int (4 : Int32) [(.int cw40), (.int cx40), (.int cy40), (.int cz40)] (.int 0) := o40_1
        have V_cp : Arv Z h40 cp kcp .long (16 : Int32) [(.long (own_u0_A2 ee q0 q2)), (.long (own_u1_A2 ee q0 q2)), (.long (own_u2_A2 ee q0 q2)), (.long (own_u3_A2 ee q0 q2)), (.long (own_u4_A2 ee q0 q2)), (.long (own_u5_A2 ee q0 q2)), (.long (own_u4_A2 ee q0 q2)), (.long (own_u7_A2 ee q0 q2))] (.long (0 : Int64)) := o40_2
        refine Goes.st (fun t k => st40.trans k) ?_
        refine Goes.hrun X40 e40 CX NB (L := [.p 181 (.lstore 11) 2, .p 183 (.lload 11) 2, .p 185 (.lconst 0) 1, .p 186 .lcmp 1, .b 187 .le 25 false, .p 190 (.lload 9) 2, .p 192 (.lload 11) 2, .p 194 .ladd 1, .p 195 (.lstore 9) 2, .p 197 (.aload_n 0) 1, .p 198 (.aload 5) 2, .p 200 (.aload 7) 2, .p 202 (.aload 8) 2]) (by decide +kernel) rfl (g' := (mkF m 204 #[rv x0, jv (wT_57 ee en q0 q2 cA cB), .second, jv (wT_103 ee en q0 q2 cA cB), .second, rv b18, rv b20, rv b22, rv b24, jv (wT_195_a ee en q0 q2 cA cB), .second, jv (wT_181_a ee en q0 q2 cA cB), .second] [(.ref b24), (.ref b22), (.ref b18), (.ref x0)])) rfl ⟨(tltL (own_p_A2 hB hc25_2 hT hc157_35 : (0 : Int64) < (wT_181_a ee en q0 q2 cA cB))).2.2.2, trivial⟩ ?_
        intro T42 X42 e42
        obtain ⟨cq43, q43a, q43b⟩ := E_x0.cell
        obtain ⟨_, _, ⟨T43, L43, k43, n43⟩, -, X43, ⟨Lc43, hQ43, l43, y43, z43⟩, st43⟩ := X42.privateBack hx (y := ym10) hown (mvT hZ w_109) (mvT hZ w_110) (own_selp (y := ym10) (mvT hZ w_4) (mvP hZ w_111) (mvT hZ w_110) (by decide)) (Cond.privateMethod_at (mvP hZ w_111 (args := #[]))) (mvT hZ w_112) (by decide) (backOf (W := 0) (rmH l Z a0 hw [] x0 b18 b22 b24 hd nx cp co fa lo khd knx kco kfa kcp klo cA nA cB nB la lb k18 k22 k24 (own_u0_A2 ee q0 q2) (own_u1_A2 ee q0 q2) (own_u2_A2 ee q0 q2) (own_u3_A2 ee q0 q2) (own_u4_A2 ee q0 q2) (own_u5_A2 ee q0 q2) (own_u7_A2 ee q0 q2) cB lw40 lx40 ly40 lz40 cw40 cx40 cy40 cz40 h40 n0 (Nat.le_trans Z0 K40.1) NB E_x0 V_cp V_b18 V_b22 V_b24 g_b22 d_b22 (Ne.symm ne_b18_b22) ne_b22_b24 (Ne.symm ne_cp_b22) (Ne.symm ne_b18_b24) (Ne.symm ne_cp_b24) ne_cp_b18 (own_hz2_A2 hB hc25_2 hT hc157_35) (own_hz0_A2 hB hc25_2 hT hc157_35)) hZ w_112 w_5 (by decide) (by decide)) (g := (mkF m 204 #[rv x0, jv (wT_57 ee en q0 q2 cA cB), .second, jv (wT_103 ee en q0 q2 cA cB), .second, rv b18, rv b20, rv b22, rv b24, jv (wT_195_a ee en q0 q2 cA cB), .second, jv (wT_181_a ee en q0 q2 cA cB), .second] [(.ref b24), (.ref b22), (.ref b18), (.ref x0)])) rfl (by rw [hml]; rfl) (Steps.refl _) (a := x0) (by rw [e42]; exact q43a) q43b (argsL := [(.ref b18), (.ref b22), (.ref b24)]) (rest := []) (lenOf pdT_2 rfl) rfl (by show 2 * 0 + _ ≤ _; exact Nat.le_of_eq rfl) (hb hby d17_204) (fun _ _ => ⟨rfl, e42, (by decide : 17 + 1 ≤ _), (by decide : 64 + 4 ≤ _)⟩)
        dsimp only [Pt.U, Pt.locs, Pt.cells, Pt.slots] at X43 l43 y43 z43 st43 hQ43
        subst l43 y43 z43
        obtain ⟨h43, eh43⟩ : ∃ z, z = T43.heap := ⟨_, rfl⟩
        rw [← eh43] at hQ43
        have e43 : T43.heap = h43 := eh43.symm
        obtain ⟨lw43, lx43, ly43, lz43, rfl, N43q, Kq43, o43_0⟩ := hQ43
        have N43 := Fr.app N40 N43q
        have NB := own_all.keep Kq43 (own_dS d_b22 own_d0) NB
        have E_x0 := E_x0.keep Kq43
        have E_b18 := E_b18.keep Kq43
        have E_b20 := E_b20.keep Kq43
        have E_b22 := E_b22.keep Kq43
        have E_b24 := E_b24.keep Kq43
        have V_b18 := V_b18.keep Kq43 (ninS ne_b18_b22 nin0)
        have V_b20 := V_b20.keep Kq43 (ninS ne_b20_b22 nin0)
        have V_b24 := V_b24.keep Kq43 (ninS (Ne.symm ne_b22_b24) nin0)
        have V_cp := V_cp.keep Kq43 (ninS ne_cp_b22 nin0)
        have K43 := K40.trans Kq43 ((allS (Or.inr sz_b22) all0))
        have V_b22 : Arv Z h43 b22 k22 .int (4 : Int32) [(.int lw43), (.int lx43), (.int ly43), (.int lz43)] (.int 0) := o43_0
        refine Goes.st (fun t k => st43.trans k) ?_
        refine Goes.hrun X43 e43 CX NB (L := [.p 207 (.lstore 11) 2, .p 209 (.goto (-26)) 3, .p 183 (.lload 11) 2, .p 185 (.lconst 0) 1, .p 186 .lcmp 1, .b 187 .le 25 true, .p 212 (.goto (-59)) 3, .p 153 (.lload 9) 2, .p 155 (.lload_n 1) 1, .p 156 .lcmp 1, .b 157 .ge 58 true, .p 215 (.lload 9) 2, .p 217 (.lload_n 1) 1, .p 218 .lcmp 1, .b 219 .ne 7 false, .p 222 (.iconst 1) 1]) (by decide +kernel) rfl (g' := (mkF m 223 #[rv x0, jv (wT_57 ee en q0 q2 cA cB), .second, jv (wT_103 ee en q0 q2 cA cB), .second, rv b18, rv b20, rv b22, rv b24, jv (wT_195_a ee en q0 q2 cA cB), .second, jv 0, .second] [(.int 1)])) rfl ⟨by decide, (fltL (own_l_A hB hc25_2 hT hc157_35 : ¬ ((wT_195_a ee en q0 q2 cA cB) < (wT_57 ee en q0 q2 cA cB)))).2.1, (teqL (own_f2_A hB hc25_2 hT hc157_35 : (wT_195_a ee en q0 q2 cA cB) = (wT_57 ee en q0 q2 cA cB))).2, trivial⟩ ?_
        intro T47 X47 e47
        refine Goes.run X47 hx hown hci hcl hby (L := [(223, .goto 4, 3)]) (by decide +kernel) rfl (g' := (mkF m 227 #[rv x0, jv (wT_57 ee en q0 q2 cA cB), .second, jv (wT_103 ee en q0 q2 cA cB), .second, rv b18, rv b20, rv b22, rv b24, jv (wT_195_a ee en q0 q2 cA cB), .second, jv 0, .second] [(.int 1)])) rfl ?_
        exact Goes.retB X47 hx hlk (t := .boolean) Bd.returns (by simp) (hb hby d17_227) rfl (by show (QSV Z x0 cp lo kcp klo ee q0 q2 cA cB la lb [x0, hd, nx, cp, co, lo, su, fa] h0 n0) _ _ _; rw [e47]; have q := V_cp; rw [show (own_u1_A2 ee q0 q2) = own_xa ee q0 q2 cA cB from (own_x2_A hB hc25_2 hT hc157_35).1, show (own_u3_A2 ee q0 q2) = own_xb ee q0 q2 cA cB from (own_x2_A hB hc25_2 hT hc157_35).2] at q; exact ⟨(own_u0_A2 ee q0 q2), (own_u2_A2 ee q0 q2), (own_u4_A2 ee q0 q2), (own_u5_A2 ee q0 q2), (own_u4_A2 ee q0 q2), (own_u7_A2 ee q0 q2), rfl, N43, K43, E_x0, own_aget NB (i := 12) (x := RF.fld x0 "com/example/kubera/kubera/FlowNetwork" "lowers" "[J" (.ref lo)) rfl, own_aget NB (i := 6) (x := RF.fld x0 "com/example/kubera/kubera/FlowNetwork" "capacities" "[J" (.ref cp)) rfl, own_aget NB (i := 13) (x := RF.arr lo klo .long (8 : Int32) [(.long la), (.long lb), (.long 0), (.long 0)] (.long (0 : Int64))) rfl, q⟩) (by decide) (by decide)
      · skip
        refine Goes.st (B := T36.setTop (mkF m 215 #[rv x0, jv (wT_57 ee en q0 q2 cA cB), .second, jv (wT_103 ee en q0 q2 cA cB), .second, rv b18, rv b20, rv b22, rv b24, jv (wT_195 ee en q0 q2 cA cB), .second, jv 0, .second] [])) (fun t k => ?_) ?_
        · refine XS.ifYes X36.here hx rfl (pc0 := 157) (pc' := 215) rfl (hb hby d17_157) rfl (fltL hc157_35).2.1 (by decide) (by decide) ?_
          exact k
        refine Goes.hrun X36 e36 CX NB (L := [.p 215 (.lload 9) 2, .p 217 (.lload_n 1) 1, .p 218 .lcmp 1, .b 219 .ne 7 false, .p 222 (.iconst 1) 1, .p 223 (.goto 4) 3]) (by decide +kernel) rfl (g' := (mkF m 227 #[rv x0, jv (wT_57 ee en q0 q2 cA cB), .second, jv (wT_103 ee en q0 q2 cA cB), .second, rv b18, rv b20, rv b22, rv b24, jv (wT_195 ee en q0 q2 cA cB), .second, jv 0, .second] [(.int 1)])) rfl ⟨(teqL (own_f1_A hB hc25_2 hT hc157_35 : (wT_195 ee en q0 q2 cA cB) = (wT_57 ee en q0 q2 cA cB))).2, trivial⟩ ?_
        intro T49 X49 e49
        exact Goes.retB X49 hx hlk (t := .boolean) Bd.returns (by simp) (hb hby d17_227) rfl (by show (QSV Z x0 cp lo kcp klo ee q0 q2 cA cB la lb [x0, hd, nx, cp, co, lo, su, fa] h0 n0) _ _ _; rw [e49]; have q := V_cp; rw [show (own_u1_A1 ee q0 q2) = own_xa ee q0 q2 cA cB from (own_x1_A hB hc25_2 hT hc157_35).1, show (own_u3_A1 ee q0 q2) = own_xb ee q0 q2 cA cB from (own_x1_A hB hc25_2 hT hc157_35).2] at q; exact ⟨(own_u0_A1 ee q0 q2), (own_u2_A1 ee q0 q2), (own_u4_A1 ee q0 q2), (own_u5_A1 ee q0 q2), (own_u4_A1 ee q0 q2), (own_u7_A1 ee q0 q2), rfl, N33, K33, E_x0, own_aget NB (i := 12) (x := RF.fld x0 "com/example/kubera/kubera/FlowNetwork" "lowers" "[J" (.ref lo)) rfl, own_aget NB (i := 6) (x := RF.fld x0 "com/example/kubera/kubera/FlowNetwork" "capacities" "[J" (.ref cp)) rfl, own_aget NB (i := 13) (x := RF.arr lo klo .long (8 : Int32) [(.long la), (.long lb), (.long 0), (.long 0)] (.long (0 : Int64))) rfl, q⟩) (by decide) (by decide)
    · skip
      refine Goes.hrun X24 e24 CX NB (L := [.p 153 (.lload 9) 2, .p 155 (.lload_n 1) 1, .p 156 .lcmp 1, .b 157 .ge 58 false, .p 160 (.aload_n 0) 1, .p 161 (.aload 5) 2, .p 163 (.aload 6) 2]) (by decide +kernel) rfl (g' := (mkF m 165 #[rv x0, jv (wT_57 ee en q0 q2 cA cB), .second, jv (wT_103 ee en q0 q2 cA cB), .second, rv b18, rv b20, rv b22, rv b24, jv 0, .second, .unset, .unset] [(.ref b20), (.ref b18), (.ref x0)])) rfl ⟨(tltL (own_r1 hB hc25_2 : (0 : Int64) < (wT_57 ee en q0 q2 cA cB))).2.1, trivial⟩ ?_
      intro T51 X51 e51
      obtain ⟨cq52, q52a, q52b⟩ := E_x0.cell
      obtain ⟨_, _, ⟨T52, L52, k52, n52⟩, -, X52, ⟨Lc52, hQ52, l52, y52, z52⟩, st52⟩ := X51.privateBack hx (y := ym8) hown (mvT hZ w_69) (mvT hZ w_70) (own_selp (y := ym8) (mvT hZ w_4) (mvP hZ w_71) (mvT hZ w_70) (by decide)) (Cond.privateMethod_at (mvP hZ w_71 (args := #[]))) (mvT hZ w_72) (by decide) (backOf (W := 0) (rmB l Z a0 hw [] x0 b18 b20 hd nx cp co fa lo khd knx kco kfa kcp klo cA nA cB nB la lb k18 k20 q0 (0 : Int64) q2 (0 : Int64) ee (0 : Int64) ee (0 : Int64) (0 : Int64) (0 : Int64) (0 : Int64) (0 : Int64) (0 : Int64) cB h24 n0 (Nat.le_trans Z0 K24.1) NB V_cp V_b18 V_b20 g_b18 g_b20 d_b18 d_b20 ne_b18_b20 (Ne.symm ne_cp_b18) (Ne.symm ne_cp_b20) (own_h4_B1 hB hc25_2 hT) (own_h4_B1 hB hc25_2 hT) (own_hMA_B1 hB hc25_2 hT) (own_hMB_B1 hB hc25_2 hT) (own_hV_B1 hB hc25_2 hT)) hZ w_72 w_5 (by decide) (by decide)) (g := (mkF m 165 #[rv x0, jv (wT_57 ee en q0 q2 cA cB), .second, jv (wT_103 ee en q0 q2 cA cB), .second, rv b18, rv b20, rv b22, rv b24, jv 0, .second, .unset, .unset] [(.ref b20), (.ref b18), (.ref x0)])) rfl (by rw [hml]; rfl) (Steps.refl _) (a := x0) (by rw [e51]; exact q52a) q52b (argsL := [(.ref b18), (.ref b20)]) (rest := []) (lenOf pdT_1 rfl) rfl (by show 2 * 0 + _ ≤ _; exact Nat.le_of_eq rfl) (hb hby d17_165) (fun _ _ => ⟨rfl, e51, (by decide : 4 + 4 ≤ _), (by decide : 16 + 15 ≤ _)⟩)
      dsimp only [Pt.U, Pt.locs, Pt.cells, Pt.slots] at X52 l52 y52 z52 st52 hQ52
      subst l52 y52 z52
      obtain ⟨h52, eh52⟩ : ∃ z, z = T52.heap := ⟨_, rfl⟩
      rw [← eh52] at hQ52
      have e52 : T52.heap = h52 := eh52.symm
      obtain ⟨dw52, dx52, dy52, dz52, rfl, N52q, Kq52, o52_0, o52_1⟩ := hQ52
      have N52 := Fr.app N12 N52q
      have NB := own_all.keep Kq52 (own_dS d_b18 (own_dS d_b20 own_d0)) NB
      have E_x0 := E_x0.keep Kq52
      have V_cp := V_cp.keep Kq52 (ninS ne_cp_b18 (ninS ne_cp_b20 nin0))
      have E_b18 := E_b18.keep Kq52
      have E_b20 := E_b20.keep Kq52
      have E_b22 := E_b22.keep Kq52
      have V_b22 := V_b22.keep Kq52 (ninS (Ne.symm ne_b18_b22) (ninS (Ne.symm ne_b20_b22) nin0))
      have E_b24 := E_b24.keep Kq52
      have V_b24 := V_b24.keep Kq52 (ninS (Ne.symm ne_b18_b24) (ninS (Ne.symm ne_b20_b24) nin0))
      have K52 := K24.trans Kq52 ((allS (Or.inr sz_b18) (allS (Or.inr sz_b20) all0)))
      have V_b18 : Arv Z h52 b18 k18 .long (4 : Int32) [(.long 0), (.long cB), (.long 0), (.long cB)] (.long 0) := o52_0
      have V_b20 : Arv Z h52 b20 k20 .long (4 : Int32) [(.long dw52), (.long dx52), (.long dy52), (.long dz52)] (.long 0) := o52_1
      refine Goes.st (fun t k => st52.trans k) ?_
      refine Goes.hrun X52 e52 CX NB (L := [.b 168 .eq 47 false, .p 171 (.aload_n 0) 1, .p 172 (.aload 5) 2, .p 174 (.aload 7) 2, .p 176 (.aload 8) 2]) (by decide +kernel) rfl (g' := (mkF m 178 #[rv x0, jv (wT_57 ee en q0 q2 cA cB), .second, jv (wT_103 ee en q0 q2 cA cB), .second, rv b18, rv b20, rv b22, rv b24, jv 0, .second, .unset, .unset] [(.ref b24), (.ref b22), (.ref b18), (.ref x0)])) rfl ⟨by decide, trivial⟩ ?_
      intro T54 X54 e54
      obtain ⟨cq55, q55a, q55b⟩ := E_x0.cell
      obtain ⟨_, _, ⟨T55, L55, k55, n55⟩, -, X55, ⟨Lc55, hQ55, l55, y55, z55⟩, st55⟩ := X54.privateBack hx (y := ym10) hown (mvT hZ w_109) (mvT hZ w_110) (own_selp (y := ym10) (mvT hZ w_4) (mvP hZ w_111) (mvT hZ w_110) (by decide)) (Cond.privateMethod_at (mvP hZ w_111 (args := #[]))) (mvT hZ w_112) (by decide) (backOf (W := 0) (rmF l Z a0 hw [] x0 b18 b22 b24 hd nx cp co fa lo khd knx kco kfa kcp klo cA nA cB nB la lb k18 k22 k24 q0 (0 : Int64) q2 (0 : Int64) ee (0 : Int64) (0 : Int64) cB (0 : Int32) (0 : Int32) (0 : Int32) (0 : Int32) (0 : Int32) (0 : Int32) (0 : Int32) (0 : Int32) (own_u0_B1 ee q0 q2) (own_u1_B1 ee q0 q2) (own_u2_B1 ee q0 q2) (own_u3_B1 ee q0 q2) (own_u4_B1 ee q0 q2) (own_u5_B1 ee q0 q2) (own_u7_B1 ee q0 q2) (own_uw_B1 ee q0 q2) h52 n0 (Nat.le_trans Z0 K52.1) NB E_x0 V_cp V_b18 V_b22 V_b24 g_b22 g_b24 g_cp d_b22 d_b24 d_cp (Ne.symm ne_b18_b22) ne_b22_b24 (Ne.symm ne_cp_b22) (Ne.symm ne_b18_b24) (Ne.symm ne_cp_b24) ne_cp_b18 (own_h4_B1 hB hc25_2 hT) (own_bV_B1 hB hc25_2 hT)) hZ w_112 w_5 (by decide) (by decide)) (g := (mkF m 178 #[rv x0, jv (wT_57 ee en q0 q2 cA cB), .second, jv (wT_103 ee en q0 q2 cA cB), .second, rv b18, rv b20, rv b22, rv b24, jv 0, .second, .unset, .unset] [(.ref b24), (.ref b22), (.ref b18), (.ref x0)])) rfl (by rw [hml]; rfl) (Steps.refl _) (a := x0) (by rw [e54]; exact q55a) q55b (argsL := [(.ref b18), (.ref b22), (.ref b24)]) (rest := []) (lenOf pdT_2 rfl) rfl (by show 2 * 0 + _ ≤ _; exact Nat.le_of_eq rfl) (hb hby d17_178) (fun _ _ => ⟨rfl, e54, (by decide : 8 + 2 ≤ _), (by decide : 31 + 7 ≤ _)⟩)
      dsimp only [Pt.U, Pt.locs, Pt.cells, Pt.slots] at X55 l55 y55 z55 st55 hQ55
      subst l55 y55 z55
      obtain ⟨h55, eh55⟩ : ∃ z, z = T55.heap := ⟨_, rfl⟩
      rw [← eh55] at hQ55
      have e55 : T55.heap = h55 := eh55.symm
      obtain ⟨lw55, lx55, ly55, lz55, cw55, cx55, cy55, cz55, rfl, N55q, Kq55, o55_0, o55_1, o55_2⟩ := hQ55
      have N55 := Fr.app N52 N55q
      have NB := own_all.keep Kq55 (own_dS d_b22 (own_dS d_b24 (own_dS d_cp own_d0))) NB
      have E_x0 := E_x0.keep Kq55
      have E_b18 := E_b18.keep Kq55
      have E_b20 := E_b20.keep Kq55
      have E_b22 := E_b22.keep Kq55
      have E_b24 := E_b24.keep Kq55
      have V_b18 := V_b18.keep Kq55 (ninS ne_b18_b22 (ninS ne_b18_b24 (ninS (Ne.symm ne_cp_b18) nin0)))
      have V_b20 := V_b20.keep Kq55 (ninS ne_b20_b22 (ninS ne_b20_b24 (ninS (Ne.symm ne_cp_b20) nin0)))
      have K55 := K52.trans Kq55 ((allS (Or.inr sz_b22) (allS (Or.inr sz_b24) (allS (Or.inl (List.mem_of_getElem? (i := 3) rfl)) all0))))
      have V_b22 : Arv Z h55 b22 k22 .int (4 : Int32) [(.int lw55), (.int lx55), (.int ly55), (.int lz55)] (.int 0) := o55_0
      have V_b24 : Arv Z h55 b24 k24 .int (4 : Int32) [(.int cw55), (.int cx55), (.int cy55), (.int cz55)] (.int 0) := o55_1
      have V_cp : Arv Z h55 cp kcp .long (16 : Int32) [(.long (own_u0_B1 ee q0 q2)), (.long (own_u1_B1 ee q0 q2)), (.long (own_u2_B1 ee q0 q2)), (.long (own_u3_B1 ee q0 q2)), (.long (own_u4_B1 ee q0 q2)), (.long (own_u5_B1 ee q0 q2)), (.long (own_u4_B1 ee q0 q2)), (.long (own_u7_B1 ee q0 q2))] (.long (0 : Int64)) := o55_2
      refine Goes.st (fun t k => st55.trans k) ?_
      refine Goes.hrun X55 e55 CX NB (L := [.p 181 (.lstore 11) 2, .p 183 (.lload 11) 2, .p 185 (.lconst 0) 1, .p 186 .lcmp 1, .b 187 .le 25 false, .p 190 (.lload 9) 2, .p 192 (.lload 11) 2, .p 194 .ladd 1, .p 195 (.lstore 9) 2, .p 197 (.aload_n 0) 1, .p 198 (.aload 5) 2, .p 200 (.aload 7) 2, .p 202 (.aload 8) 2]) (by decide +kernel) rfl (g' := (mkF m 204 #[rv x0, jv (wT_57 ee en q0 q2 cA cB), .second, jv (wT_103 ee en q0 q2 cA cB), .second, rv b18, rv b20, rv b22, rv b24, jv (wT_195_b ee en q0 q2 cA cB), .second, jv (wT_181_b ee en q0 q2 cA cB), .second] [(.ref b24), (.ref b22), (.ref b18), (.ref x0)])) rfl ⟨(tltL (own_p_B1 hB hc25_2 hT : (0 : Int64) < (wT_181_b ee en q0 q2 cA cB))).2.2.2, trivial⟩ ?_
      intro T57 X57 e57
      obtain ⟨cq58, q58a, q58b⟩ := E_x0.cell
      obtain ⟨_, _, ⟨T58, L58, k58, n58⟩, -, X58, ⟨Lc58, hQ58, l58, y58, z58⟩, st58⟩ := X57.privateBack hx (y := ym10) hown (mvT hZ w_109) (mvT hZ w_110) (own_selp (y := ym10) (mvT hZ w_4) (mvP hZ w_111) (mvT hZ w_110) (by decide)) (Cond.privateMethod_at (mvP hZ w_111 (args := #[]))) (mvT hZ w_112) (by decide) (backOf (W := 0) (rmH l Z a0 hw [] x0 b18 b22 b24 hd nx cp co fa lo khd knx kco kfa kcp klo cA nA cB nB la lb k18 k22 k24 (own_u0_B1 ee q0 q2) (own_u1_B1 ee q0 q2) (own_u2_B1 ee q0 q2) (own_u3_B1 ee q0 q2) (own_u4_B1 ee q0 q2) (own_u5_B1 ee q0 q2) (own_u7_B1 ee q0 q2) cB lw55 lx55 ly55 lz55 cw55 cx55 cy55 cz55 h55 n0 (Nat.le_trans Z0 K55.1) NB E_x0 V_cp V_b18 V_b22 V_b24 g_b22 d_b22 (Ne.symm ne_b18_b22) ne_b22_b24 (Ne.symm ne_cp_b22) (Ne.symm ne_b18_b24) (Ne.symm ne_cp_b24) ne_cp_b18 (own_hz2_B1 hB hc25_2 hT) (own_hz0_B1 hB hc25_2 hT)) hZ w_112 w_5 (by decide) (by decide)) (g := (mkF m 204 #[rv x0, jv (wT_57 ee en q0 q2 cA cB), .second, jv (wT_103 ee en q0 q2 cA cB), .second, rv b18, rv b20, rv b22, rv b24, jv (wT_195_b ee en q0 q2 cA cB), .second, jv (wT_181_b ee en q0 q2 cA cB), .second] [(.ref b24), (.ref b22), (.ref b18), (.ref x0)])) rfl (by rw [hml]; rfl) (Steps.refl _) (a := x0) (by rw [e57]; exact q58a) q58b (argsL := [(.ref b18), (.ref b22), (.ref b24)]) (rest := []) (lenOf pdT_2 rfl) rfl (by show 2 * 0 + _ ≤ _; exact Nat.le_of_eq rfl) (hb hby d17_204) (fun _ _ => ⟨rfl, e57, (by decide : 10 + 1 ≤ _), (by decide : 38 + 4 ≤ _)⟩)
      dsimp only [Pt.U, Pt.locs, Pt.cells, Pt.slots] at X58 l58 y58 z58 st58 hQ58
      subst l58 y58 z58
      obtain ⟨h58, eh58⟩ : ∃ z, z = T58.heap := ⟨_, rfl⟩
      rw [← eh58] at hQ58
      have e58 : T58.heap = h58 := eh58.symm
      obtain ⟨lw58, lx58, ly58, lz58, rfl, N58q, Kq58, o58_0⟩ := hQ58
      have N58 := Fr.app N55 N58q
      have NB := own_all.keep Kq58 (own_dS d_b22 own_d0) NB
      have E_x0 := E_x0.keep Kq58
      have E_b18 := E_b18.keep Kq58
      have E_b20 := E_b20.keep Kq58
      have E_b22 := E_b22.keep Kq58
      have E_b24 := E_b24.keep Kq58
      have V_b18 := V_b18.keep Kq58 (ninS ne_b18_b22 nin0)
      have V_b20 := V_b20.keep Kq58 (ninS ne_b20_b22 nin0)
      have V_b24 := V_b24.keep Kq58 (ninS (Ne.symm ne_b22_b24) nin0)
      have V_cp := V_cp.keep Kq58 (ninS ne_cp_b22 nin0)
      have K58 := K55.trans Kq58 ((allS (Or.inr sz_b22) all0))
      have V_b22 : Arv Z h58 b22 k22 .int (4 : Int32) [(.int lw58), (.int lx58), (.int ly58), (.int lz58)] (.int 0) := o58_0
      refine Goes.st (fun t k => st58.trans k) ?_
      refine Goes.hrun X58 e58 CX NB (L := [.p 207 (.lstore 11) 2, .p 209 (.goto (-26)) 3, .p 183 (.lload 11) 2, .p 185 (.lconst 0) 1, .p 186 .lcmp 1, .b 187 .le 25 true, .p 212 (.goto (-59)) 3, .p 153 (.lload 9) 2, .p 155 (.lload_n 1) 1, .p 156 .lcmp 1]) (by decide +kernel) rfl (g' := (mkF m 157 #[rv x0, jv (wT_57 ee en q0 q2 cA cB), .second, jv (wT_103 ee en q0 q2 cA cB), .second, rv b18, rv b20, rv b22, rv b24, jv (wT_195_b ee en q0 q2 cA cB), .second, jv 0, .second] [(.int (lcmpW (wT_195_b ee en q0 q2 cA cB) (wT_57 ee en q0 q2 cA cB)))])) rfl ⟨by decide, trivial⟩ ?_
      intro T61 X61 e61
      by_cases hc157_60 : (wT_195_b ee en q0 q2 cA cB) < (wT_57 ee en q0 q2 cA cB)
      · skip
        refine Goes.st (B := T61.setTop (mkF m 160 #[rv x0, jv (wT_57 ee en q0 q2 cA cB), .second, jv (wT_103 ee en q0 q2 cA cB), .second, rv b18, rv b20, rv b22, rv b24, jv (wT_195_b ee en q0 q2 cA cB), .second, jv 0, .second] [])) (fun t k => ?_) ?_
        · refine XS.ifNo X61.here hx rfl (hb hby d17_157) rfl (tltL hc157_60).2.1 ?_
          exact k
        refine Goes.run X61 hx hown hci hcl hby (L := [(160, .aload_n 0, 1), (161, .aload 5, 2), (163, .aload 6, 2)]) (by decide +kernel) rfl (g' := (mkF m 165 #[rv x0, jv (wT_57 ee en q0 q2 cA cB), .second, jv (wT_103 ee en q0 q2 cA cB), .second, rv b18, rv b20, rv b22, rv b24, jv (wT_195_b ee en q0 q2 cA cB), .second, jv 0, .second] [(.ref b20), (.ref b18), (.ref x0)])) rfl ?_
        obtain ⟨cq62, q62a, q62b⟩ := E_x0.cell
        obtain ⟨_, _, ⟨T62, L62, k62, n62⟩, -, X62, ⟨Lc62, hQ62, l62, y62, z62⟩, st62⟩ := X61.privateBack hx (y := ym8) hown (mvT hZ w_69) (mvT hZ w_70) (own_selp (y := ym8) (mvT hZ w_4) (mvP hZ w_71) (mvT hZ w_70) (by decide)) (Cond.privateMethod_at (mvP hZ w_71 (args := #[]))) (mvT hZ w_72) (by decide) (backOf (W := 0) (rmB l Z a0 hw [] x0 b18 b20 hd nx cp co fa lo khd knx kco kfa kcp klo cA nA cB nB la lb k18 k20 (own_u0_B1 ee q0 q2) (own_u1_B1 ee q0 q2) (own_u2_B1 ee q0 q2) (own_u3_B1 ee q0 q2) (own_u4_B1 ee q0 q2) (own_u5_B1 ee q0 q2) (own_u4_B1 ee q0 q2) (own_u7_B1 ee q0 q2) cB dw52 dx52 dy52 dz52 cA h58 n0 (Nat.le_trans Z0 K58.1) NB V_cp V_b18 V_b20 g_b18 g_b20 d_b18 d_b20 ne_b18_b20 (Ne.symm ne_cp_b18) (Ne.symm ne_cp_b20) (own_h4_B2 hB hc25_2 hT hc157_60) (own_h4_B2 hB hc25_2 hT hc157_60) (own_hMA_B2 hB hc25_2 hT hc157_60) (own_hMB_B2 hB hc25_2 hT hc157_60) (own_hV_B2 hB hc25_2 hT hc157_60)) hZ w_72 w_5 (by decide) (by decide)) (g := (mkF m 165 #[rv x0, jv (wT_57 ee en q0 q2 cA cB), .second, jv (wT_103 ee en q0 q2 cA cB), .second, rv b18, rv b20, rv b22, rv b24, jv (wT_195_b ee en q0 q2 cA cB), .second, jv 0, .second] [(.ref b20), (.ref b18), (.ref x0)])) rfl (by rw [hml]; rfl) (Steps.refl _) (a := x0) (by rw [e61]; exact q62a) q62b (argsL := [(.ref b18), (.ref b20)]) (rest := []) (lenOf pdT_1 rfl) rfl (by show 2 * 0 + _ ≤ _; exact Nat.le_of_eq rfl) (hb hby d17_165) (fun _ _ => ⟨rfl, e61, (by decide : 11 + 4 ≤ _), (by decide : 42 + 15 ≤ _)⟩)
        dsimp only [Pt.U, Pt.locs, Pt.cells, Pt.slots] at X62 l62 y62 z62 st62 hQ62
        subst l62 y62 z62
        obtain ⟨h62, eh62⟩ : ∃ z, z = T62.heap := ⟨_, rfl⟩
        rw [← eh62] at hQ62
        have e62 : T62.heap = h62 := eh62.symm
        obtain ⟨dw62, dx62, dy62, dz62, rfl, N62q, Kq62, o62_0, o62_1⟩ := hQ62
        have N62 := Fr.app N58 N62q
        have NB := own_all.keep Kq62 (own_dS d_b18 (own_dS d_b20 own_d0)) NB
        have E_x0 := E_x0.keep Kq62
        have E_b18 := E_b18.keep Kq62
        have E_b20 := E_b20.keep Kq62
        have E_b22 := E_b22.keep Kq62
        have E_b24 := E_b24.keep Kq62
        have V_b24 := V_b24.keep Kq62 (ninS (Ne.symm ne_b18_b24) (ninS (Ne.symm ne_b20_b24) nin0))
        have V_cp := V_cp.keep Kq62 (ninS ne_cp_b18 (ninS ne_cp_b20 nin0))
        have V_b22 := V_b22.keep Kq62 (ninS (Ne.symm ne_b18_b22) (ninS (Ne.symm ne_b20_b22) nin0))
        have K62 := K58.trans Kq62 ((allS (Or.inr sz_b18) (allS (Or.inr sz_b20) all0)))
        have V_b18 : Arv Z h62 b18 k18 .long (4 : Int32) [(.long 0), (.long cA), (.long 0), (.long cA)] (.long 0) := o62_0
        have V_b20 : Arv Z h62 b20 k20 .long (4 : Int32) [(.long dw62), (.long dx62), (.long dy62), (.long dz62)] (.long 0) := o62_1
        refine Goes.st (fun t k => st62.trans k) ?_
        refine Goes.hrun X62 e62 CX NB (L := [.b 168 .eq 47 false, .p 171 (.aload_n 0) 1, .p 172 (.aload 5) 2, .p 174 (.aload 7) 2, .p 176 (.aload 8) 2]) (by decide +kernel) rfl (g' := (mkF m 178 #[rv x0, jv (wT_57 ee en q0 q2 cA cB), .second, jv (wT_103 ee en q0 q2 cA cB), .second, rv b18, rv b20, rv b22, rv b24, jv (wT_195_b ee en q0 q2 cA cB), .second, jv 0, .second] [(.ref b24), (.ref b22), (.ref b18), (.ref x0)])) rfl ⟨by decide, trivial⟩ ?_
        intro T64 X64 e64
        obtain ⟨cq65, q65a, q65b⟩ := E_x0.cell
        obtain ⟨_, _, ⟨T65, L65, k65, n65⟩, -, X65, ⟨Lc65, hQ65, l65, y65, z65⟩, st65⟩ := X64.privateBack hx (y := ym10) hown (mvT hZ w_109) (mvT hZ w_110) (own_selp (y := ym10) (mvT hZ w_4) (mvP hZ w_111) (mvT hZ w_110) (by decide)) (Cond.privateMethod_at (mvP hZ w_111 (args := #[]))) (mvT hZ w_112) (by decide) (backOf (W := 0) (rmF l Z a0 hw [] x0 b18 b22 b24 hd nx cp co fa lo khd knx kco kfa kcp klo cA nA cB nB la lb k18 k22 k24 (own_u0_B1 ee q0 q2) (own_u1_B1 ee q0 q2) (own_u2_B1 ee q0 q2) (own_u3_B1 ee q0 q2) (own_u4_B1 ee q0 q2) (own_u5_B1 ee q0 q2) (own_u7_B1 ee q0 q2) cA lw58 lx58 ly58 lz58 cw55 cx55 cy55 cz55 (own_u0_B2 ee q0 q2) (own_u1_B2 ee q0 q2) (own_u2_B2 ee q0 q2) (own_u3_B2 ee q0 q2) (own_u4_B2 ee q0 q2) (own_u5_B2 ee q0 q2) (own_u7_B2 ee q0 q2) (own_uw_B2 ee q0 q2) h62 n0 (Nat.le_trans Z0 K62.1) NB E_x0 V_cp V_b18 V_b22 V_b24 g_b22 g_b24 g_cp d_b22 d_b24 d_cp (Ne.symm ne_b18_b22) ne_b22_b24 (Ne.symm ne_cp_b22) (Ne.symm ne_b18_b24) (Ne.symm ne_cp_b24) ne_cp_b18 (own_h4_B2 hB hc25_2 hT hc157_60) (own_bV_B2 hB hc25_2 hT hc157_60)) hZ w_112 w_5 (by decide) (by decide)) (g := (mkF m 178 #[rv x0, jv (wT_57 ee en q0 q2 cA cB), .second, jv (wT_103 ee en q0 q2 cA cB), .second, rv b18, rv b20, rv b22, rv b24, jv (wT_195_b ee en q0 q2 cA cB), .second, jv 0, .second] [(.ref b24), (.ref b22), (.ref b18), (.ref x0)])) rfl (by rw [hml]; rfl) (Steps.refl _) (a := x0) (by rw [e64]; exact q65a) q65b (argsL := [(.ref b18), (.ref b22), (.ref b24)]) (rest := []) (lenOf pdT_2 rfl) rfl (by show 2 * 0 + _ ≤ _; exact Nat.le_of_eq rfl) (hb hby d17_178) (fun _ _ => ⟨rfl, e64, (by decide : 15 + 2 ≤ _), (by decide : 57 + 7 ≤ _)⟩)
        dsimp only [Pt.U, Pt.locs, Pt.cells, Pt.slots] at X65 l65 y65 z65 st65 hQ65
        subst l65 y65 z65
        obtain ⟨h65, eh65⟩ : ∃ z, z = T65.heap := ⟨_, rfl⟩
        rw [← eh65] at hQ65
        have e65 : T65.heap = h65 := eh65.symm
        obtain ⟨lw65, lx65, ly65, lz65, cw65, cx65, cy65, cz65, rfl, N65q, Kq65, o65_0, o65_1, o65_2⟩ := hQ65
        have N65 := Fr.app N62 N65q
        have NB := own_all.keep Kq65 (own_dS d_b22 (own_dS d_b24 (own_dS d_cp own_d0))) NB
        have E_x0 := E_x0.keep Kq65
        have E_b18 := E_b18.keep Kq65
        have E_b20 := E_b20.keep Kq65
        have E_b22 := E_b22.keep Kq65
        have E_b24 := E_b24.keep Kq65
        have V_b18 := V_b18.keep Kq65 (ninS ne_b18_b22 (ninS ne_b18_b24 (ninS (Ne.symm ne_cp_b18) nin0)))
        have V_b20 := V_b20.keep Kq65 (ninS ne_b20_b22 (ninS ne_b20_b24 (ninS (Ne.symm ne_cp_b20) nin0)))
        have K65 := K62.trans Kq65 ((allS (Or.inr sz_b22) (allS (Or.inr sz_b24) (allS (Or.inl (List.mem_of_getElem? (i := 3) rfl)) all0))))
        have V_b22 : Arv Z h65 b22 k22 .int (4 : Int32) [(.int lw65), (.int lx65), (.int ly65), (.int lz65)] (.int 0) := o65_0
        have V_b24 : Arv Z h65 b24 k24 .int (4 : Int32) [(.int cw65), (.int cx65), (.int cy65), (.int cz65)] (.int 0) := o65_1
        have V_cp : Arv Z h65 cp kcp .long (16 : Int32) [(.long (own_u0_B2 ee q0 q2)), (.long (own_u1_B2 ee q0 q2)), (.long (own_u2_B2 ee q0 q2)), (.long (own_u3_B2 ee q0 q2)), (.long (own_u4_B2 ee q0 q2)), (.long (own_u5_B2 ee q0 q2)), (.long (own_u4_B2 ee q0 q2)), (.long (own_u7_B2 ee q0 q2))] (.long (0 : Int64)) := o65_2
        refine Goes.st (fun t k => st65.trans k) ?_
        refine Goes.hrun X65 e65 CX NB (L := [.p 181 (.lstore 11) 2, .p 183 (.lload 11) 2, .p 185 (.lconst 0) 1, .p 186 .lcmp 1, .b 187 .le 25 false, .p 190 (.lload 9) 2, .p 192 (.lload 11) 2, .p 194 .ladd 1, .p 195 (.lstore 9) 2, .p 197 (.aload_n 0) 1, .p 198 (.aload 5) 2, .p 200 (.aload 7) 2, .p 202 (.aload 8) 2]) (by decide +kernel) rfl (g' := (mkF m 204 #[rv x0, jv (wT_57 ee en q0 q2 cA cB), .second, jv (wT_103 ee en q0 q2 cA cB), .second, rv b18, rv b20, rv b22, rv b24, jv (wT_195_c ee en q0 q2 cA cB), .second, jv (wT_181_c ee en q0 q2 cA cB), .second] [(.ref b24), (.ref b22), (.ref b18), (.ref x0)])) rfl ⟨(tltL (own_p_B2 hB hc25_2 hT hc157_60 : (0 : Int64) < (wT_181_c ee en q0 q2 cA cB))).2.2.2, trivial⟩ ?_
        intro T67 X67 e67
        obtain ⟨cq68, q68a, q68b⟩ := E_x0.cell
        obtain ⟨_, _, ⟨T68, L68, k68, n68⟩, -, X68, ⟨Lc68, hQ68, l68, y68, z68⟩, st68⟩ := X67.privateBack hx (y := ym10) hown (mvT hZ w_109) (mvT hZ w_110) (own_selp (y := ym10) (mvT hZ w_4) (mvP hZ w_111) (mvT hZ w_110) (by decide)) (Cond.privateMethod_at (mvP hZ w_111 (args := #[]))) (mvT hZ w_112) (by decide) (backOf (W := 0) (rmH l Z a0 hw [] x0 b18 b22 b24 hd nx cp co fa lo khd knx kco kfa kcp klo cA nA cB nB la lb k18 k22 k24 (own_u0_B2 ee q0 q2) (own_u1_B2 ee q0 q2) (own_u2_B2 ee q0 q2) (own_u3_B2 ee q0 q2) (own_u4_B2 ee q0 q2) (own_u5_B2 ee q0 q2) (own_u7_B2 ee q0 q2) cA lw65 lx65 ly65 lz65 cw65 cx65 cy65 cz65 h65 n0 (Nat.le_trans Z0 K65.1) NB E_x0 V_cp V_b18 V_b22 V_b24 g_b22 d_b22 (Ne.symm ne_b18_b22) ne_b22_b24 (Ne.symm ne_cp_b22) (Ne.symm ne_b18_b24) (Ne.symm ne_cp_b24) ne_cp_b18 (own_hz2_B2 hB hc25_2 hT hc157_60) (own_hz0_B2 hB hc25_2 hT hc157_60)) hZ w_112 w_5 (by decide) (by decide)) (g := (mkF m 204 #[rv x0, jv (wT_57 ee en q0 q2 cA cB), .second, jv (wT_103 ee en q0 q2 cA cB), .second, rv b18, rv b20, rv b22, rv b24, jv (wT_195_c ee en q0 q2 cA cB), .second, jv (wT_181_c ee en q0 q2 cA cB), .second] [(.ref b24), (.ref b22), (.ref b18), (.ref x0)])) rfl (by rw [hml]; rfl) (Steps.refl _) (a := x0) (by rw [e67]; exact q68a) q68b (argsL := [(.ref b18), (.ref b22), (.ref b24)]) (rest := []) (lenOf pdT_2 rfl) rfl (by show 2 * 0 + _ ≤ _; exact Nat.le_of_eq rfl) (hb hby d17_204) (fun _ _ => ⟨rfl, e67, (by decide : 17 + 1 ≤ _), (by decide : 64 + 4 ≤ _)⟩)
        dsimp only [Pt.U, Pt.locs, Pt.cells, Pt.slots] at X68 l68 y68 z68 st68 hQ68
        subst l68 y68 z68
        obtain ⟨h68, eh68⟩ : ∃ z, z = T68.heap := ⟨_, rfl⟩
        rw [← eh68] at hQ68
        have e68 : T68.heap = h68 := eh68.symm
        obtain ⟨lw68, lx68, ly68, lz68, rfl, N68q, Kq68, o68_0⟩ := hQ68
        have N68 := Fr.app N65 N68q
        have NB := own_all.keep Kq68 (own_dS d_b22 own_d0) NB
        have E_x0 := E_x0.keep Kq68
        have E_b18 := E_b18.keep Kq68
        have E_b20 := E_b20.keep Kq68
        have E_b22 := E_b22.keep Kq68
        have E_b24 := E_b24.keep Kq68
        have V_b18 := V_b18.keep Kq68 (ninS ne_b18_b22 nin0)
        have V_b20 := V_b20.keep Kq68 (ninS ne_b20_b22 nin0)
        have V_b24 := V_b24.keep Kq68 (ninS (Ne.symm ne_b22_b24) nin0)
        have V_cp := V_cp.keep Kq68 (ninS ne_cp_b22 nin0)
        have K68 := K65.trans Kq68 ((allS (Or.inr sz_b22) all0))
        have V_b22 : Arv Z h68 b22 k22 .int (4 : Int32) [(.int lw68), (.int lx68), (.int ly68), (.int lz68)] (.int 0) := o68_0
        refine Goes.st (fun t k => st68.trans k) ?_
        refine Goes.hrun X68 e68 CX NB (L := [.p 207 (.lstore 11) 2, .p 209 (.goto (-26)) 3, .p 183 (.lload 11) 2, .p 185 (.lconst 0) 1, .p 186 .lcmp 1, .b 187 .le 25 true, .p 212 (.goto (-59)) 3, .p 153 (.lload 9) 2, .p 155 (.lload_n 1) 1, .p 156 .lcmp 1, .b 157 .ge 58 true, .p 215 (.lload 9) 2, .p 217 (.lload_n 1) 1, .p 218 .lcmp 1, .b 219 .ne 7 false, .p 222 (.iconst 1) 1]) (by decide +kernel) rfl (g' := (mkF m 223 #[rv x0, jv (wT_57 ee en q0 q2 cA cB), .second, jv (wT_103 ee en q0 q2 cA cB), .second, rv b18, rv b20, rv b22, rv b24, jv (wT_195_c ee en q0 q2 cA cB), .second, jv 0, .second] [(.int 1)])) rfl ⟨by decide, (fltL (own_l_B hB hc25_2 hT hc157_60 : ¬ ((wT_195_c ee en q0 q2 cA cB) < (wT_57 ee en q0 q2 cA cB)))).2.1, (teqL (own_f2_B hB hc25_2 hT hc157_60 : (wT_195_c ee en q0 q2 cA cB) = (wT_57 ee en q0 q2 cA cB))).2, trivial⟩ ?_
        intro T72 X72 e72
        refine Goes.run X72 hx hown hci hcl hby (L := [(223, .goto 4, 3)]) (by decide +kernel) rfl (g' := (mkF m 227 #[rv x0, jv (wT_57 ee en q0 q2 cA cB), .second, jv (wT_103 ee en q0 q2 cA cB), .second, rv b18, rv b20, rv b22, rv b24, jv (wT_195_c ee en q0 q2 cA cB), .second, jv 0, .second] [(.int 1)])) rfl ?_
        exact Goes.retB X72 hx hlk (t := .boolean) Bd.returns (by simp) (hb hby d17_227) rfl (by show (QSV Z x0 cp lo kcp klo ee q0 q2 cA cB la lb [x0, hd, nx, cp, co, lo, su, fa] h0 n0) _ _ _; rw [e72]; have q := V_cp; rw [show (own_u1_B2 ee q0 q2) = own_xa ee q0 q2 cA cB from (own_x2_B hB hc25_2 hT hc157_60).1, show (own_u3_B2 ee q0 q2) = own_xb ee q0 q2 cA cB from (own_x2_B hB hc25_2 hT hc157_60).2] at q; exact ⟨(own_u0_B2 ee q0 q2), (own_u2_B2 ee q0 q2), (own_u4_B2 ee q0 q2), (own_u5_B2 ee q0 q2), (own_u4_B2 ee q0 q2), (own_u7_B2 ee q0 q2), rfl, N68, K68, E_x0, own_aget NB (i := 12) (x := RF.fld x0 "com/example/kubera/kubera/FlowNetwork" "lowers" "[J" (.ref lo)) rfl, own_aget NB (i := 6) (x := RF.fld x0 "com/example/kubera/kubera/FlowNetwork" "capacities" "[J" (.ref cp)) rfl, own_aget NB (i := 13) (x := RF.arr lo klo .long (8 : Int32) [(.long la), (.long lb), (.long 0), (.long 0)] (.long (0 : Int64))) rfl, q⟩) (by decide) (by decide)
      · skip
        refine Goes.st (B := T61.setTop (mkF m 215 #[rv x0, jv (wT_57 ee en q0 q2 cA cB), .second, jv (wT_103 ee en q0 q2 cA cB), .second, rv b18, rv b20, rv b22, rv b24, jv (wT_195_b ee en q0 q2 cA cB), .second, jv 0, .second] [])) (fun t k => ?_) ?_
        · refine XS.ifYes X61.here hx rfl (pc0 := 157) (pc' := 215) rfl (hb hby d17_157) rfl (fltL hc157_60).2.1 (by decide) (by decide) ?_
          exact k
        refine Goes.hrun X61 e61 CX NB (L := [.p 215 (.lload 9) 2, .p 217 (.lload_n 1) 1, .p 218 .lcmp 1, .b 219 .ne 7 false, .p 222 (.iconst 1) 1, .p 223 (.goto 4) 3]) (by decide +kernel) rfl (g' := (mkF m 227 #[rv x0, jv (wT_57 ee en q0 q2 cA cB), .second, jv (wT_103 ee en q0 q2 cA cB), .second, rv b18, rv b20, rv b22, rv b24, jv (wT_195_b ee en q0 q2 cA cB), .second, jv 0, .second] [(.int 1)])) rfl ⟨(teqL (own_f1_B hB hc25_2 hT hc157_60 : (wT_195_b ee en q0 q2 cA cB) = (wT_57 ee en q0 q2 cA cB))).2, trivial⟩ ?_
        intro T74 X74 e74
        exact Goes.retB X74 hx hlk (t := .boolean) Bd.returns (by simp) (hb hby d17_227) rfl (by show (QSV Z x0 cp lo kcp klo ee q0 q2 cA cB la lb [x0, hd, nx, cp, co, lo, su, fa] h0 n0) _ _ _; rw [e74]; have q := V_cp; rw [show (own_u1_B1 ee q0 q2) = own_xa ee q0 q2 cA cB from (own_x1_B hB hc25_2 hT hc157_60).1, show (own_u3_B1 ee q0 q2) = own_xb ee q0 q2 cA cB from (own_x1_B hB hc25_2 hT hc157_60).2] at q; exact ⟨(own_u0_B1 ee q0 q2), (own_u2_B1 ee q0 q2), (own_u4_B1 ee q0 q2), (own_u5_B1 ee q0 q2), (own_u4_B1 ee q0 q2), (own_u7_B1 ee q0 q2), rfl, N58, K58, E_x0, own_aget NB (i := 12) (x := RF.fld x0 "com/example/kubera/kubera/FlowNetwork" "lowers" "[J" (.ref lo)) rfl, own_aget NB (i := 6) (x := RF.fld x0 "com/example/kubera/kubera/FlowNetwork" "capacities" "[J" (.ref cp)) rfl, own_aget NB (i := 13) (x := RF.arr lo klo .long (8 : Int32) [(.long la), (.long lb), (.long 0), (.long 0)] (.long (0 : Int64))) rfl, q⟩) (by decide) (by decide)
  · skip
    refine Goes.st (B := T3.setTop (mkF m 61 #[rv x0, jv 0, .second, jv 0, .second, iv 0, .unset, .unset, .unset, .unset, .unset, .unset, .unset] [])) (fun t k => ?_) ?_
    · refine XS.ifYes X3.here hx rfl (pc0 := 25) (pc' := 61) rfl (hb hby d17_25) rfl (fltL hc25_2).2.2.2 (by decide) (by decide) ?_
      exact k
    refine Goes.hrun X3 e3 CX (own_c1 F_supplies_x0 (own_c2 V_su own_n)) (L := [.p 61 (.aload_n 0) 1, .f 62 38 0, .p 65 (.iload 5) 2, .J 67 1 0, .p 68 (.lconst 0) 1, .p 69 .lcmp 1, .b 70 .ge 24 true, .p 94 (.lload_n 3) 1, .p 95 (.aload_n 0) 1, .f 96 38 0, .p 99 (.iload 5) 2, .J 101 1 0, .p 102 .ladd 1, .p 103 (.lstore_n 3) 1, .p 104 (.iinc 5 1) 3, .p 107 (.goto (-100)) 3]) (by decide +kernel) rfl (g' := (mkF m 7 #[rv x0, jv 0, .second, jv (wT_57 ee en q0 q2 cA cB), .second, iv 1, .unset, .unset, .unset, .unset, .unset, .unset, .unset] [])) rfl ⟨rr, ra (by decide), (fltL (own_n3 hB : ¬ (ee < (0 : Int64)))).2.1, rr, ra (by decide), trivial⟩ ?_
    intro T81 X81 e81
    refine Goes.hrun X81 e81 CX (own_c1 F_source_x0 (own_c1 F_supplies_x0 (own_c2 V_su own_n))) (L := [.p 7 (.iload 5) 2, .p 9 (.aload_n 0) 1, .f 10 32 0, .c 13 .ge 97 false, .p 16 (.aload_n 0) 1, .f 17 38 1, .p 20 (.iload 5) 2, .J 22 2 1, .p 23 (.lconst 0) 1, .p 24 .lcmp 1, .b 25 .le 36 true, .p 61 (.aload_n 0) 1, .f 62 38 1, .p 65 (.iload 5) 2, .J 67 2 1, .p 68 (.lconst 0) 1]) (by decide +kernel) rfl (g' := (mkF m 69 #[rv x0, jv 0, .second, jv (wT_57 ee en q0 q2 cA cB), .second, iv 1, .unset, .unset, .unset, .unset, .unset, .unset, .unset] [(.long 0), (.long en)])) rfl ⟨rr, by decide, rr, ra (by decide), (fltL (own_n1 hB : ¬ ((0 : Int64) < en))).2.2.2, rr, ra (by decide), trivial⟩ ?_
    intro T82 X82 e82
    refine Goes.hrun X82 e82 CX (own_c1 F_supplies_x0 (own_c2 V_su (own_c1 F_source_x0 own_n))) (L := [.p 69 .lcmp 1, .b 70 .ge 24 true, .p 94 (.lload_n 3) 1, .p 95 (.aload_n 0) 1, .f 96 38 0, .p 99 (.iload 5) 2, .J 101 1 1, .p 102 .ladd 1, .p 103 (.lstore_n 3) 1, .p 104 (.iinc 5 1) 3, .p 107 (.goto (-100)) 3, .p 7 (.iload 5) 2, .p 9 (.aload_n 0) 1, .f 10 32 2, .c 13 .ge 97 true, .p 110 (.lload_n 3) 1]) (by decide +kernel) rfl (g' := (mkF m 111 #[rv x0, jv 0, .second, jv (wT_103 ee en q0 q2 cA cB), .second, iv 2, .unset, .unset, .unset, .unset, .unset, .unset, .unset] [(.long (wT_103 ee en q0 q2 cA cB))])) rfl ⟨(fltL (own_n4 hB hc25_2 : ¬ (en < (0 : Int64)))).2.1, rr, ra (by decide), rr, by decide, trivial⟩ ?_
    intro T83 X83 e83
    refine Goes.hrun X83 e83 CX (own_c1 F_nodes_x0 own_n) (L := [.p 111 (.lconst 0) 1, .p 112 .lcmp 1, .b 113 .eq 5 true, .p 118 (.aload_n 0) 1, .f 119 28 0]) (by decide +kernel) rfl (g' := (mkF m 122 #[rv x0, jv 0, .second, jv (wT_103 ee en q0 q2 cA cB), .second, iv 2, .unset, .unset, .unset, .unset, .unset, .unset, .unset] [(.int 4)])) rfl ⟨(teqL (own_bal hB : (wT_103 ee en q0 q2 cA cB) = (0 : Int64))).1, rr, trivial⟩ ?_
    intro T84 X84 e84
    obtain ⟨T85, h85, k85, X85, e85, E85, A85, B85, st85⟩ := newPE X84 hx hZ (aty := .long) w_17 e84 (g := (mkF m 122 #[rv x0, jv 0, .second, jv (wT_103 ee en q0 q2 cA cB), .second, iv 2, .unset, .unset, .unset, .unset, .unset, .unset, .unset] [(.int 4)])) rfl (hb hby d17_122) rfl (by decide) (cap := 4) (by decide) (by decide) (by decide) (by decide) (ad := "[J") (by decide)
    obtain ⟨b85, g85⟩ : ∃ z, z = h0.size := ⟨_, rfl⟩
    rw [← g85] at A85 B85 st85
    have ne_cp_b85 : cp ≠ b85 := Nat.ne_of_lt (Nat.lt_of_lt_of_le V_cp.lt (Nat.le_of_eq g85.symm))
    have ne_lo_b85 : lo ≠ b85 := Nat.ne_of_lt (Nat.lt_of_lt_of_le V_lo.lt (Nat.le_of_eq g85.symm))
    have ne_hd_b85 : hd ≠ b85 := Nat.ne_of_lt (Nat.lt_of_lt_of_le V_hd.lt (Nat.le_of_eq g85.symm))
    have ne_nx_b85 : nx ≠ b85 := Nat.ne_of_lt (Nat.lt_of_lt_of_le V_nx.lt (Nat.le_of_eq g85.symm))
    have ne_su_b85 : su ≠ b85 := Nat.ne_of_lt (Nat.lt_of_lt_of_le V_su.lt (Nat.le_of_eq g85.symm))
    have ne_fa_b85 : fa ≠ b85 := Nat.ne_of_lt (Nat.lt_of_lt_of_le V_fa.lt (Nat.le_of_eq g85.symm))
    have ne_co_b85 : co ≠ b85 := Nat.ne_of_lt (Nat.lt_of_lt_of_le V_co.lt (Nat.le_of_eq g85.symm))
    have ne_x0_b85 : x0 ≠ b85 := Nat.ne_of_lt (Nat.lt_of_lt_of_le E_x0.lt (Nat.le_of_eq g85.symm))
    have g_b85 : n0 ≤ b85 := Nat.le_trans Z0 (Nat.le_of_eq g85.symm)
    have sz_b85 : h0.size ≤ b85 := Nat.le_trans K0.1 (Nat.le_of_eq g85.symm)
    have E_x0 := E_x0.ext E85
    have F_nodes_x0 := F_nodes_x0.ext E85
    have F_source_x0 := F_source_x0.ext E85
    have F_sink_x0 := F_sink_x0.ext E85
    have F_supplies_x0 := F_supplies_x0.ext E85
    have F_firstArcs_x0 := F_firstArcs_x0.ext E85
    have F_arcs_x0 := F_arcs_x0.ext E85
    have F_heads_x0 := F_heads_x0.ext E85
    have F_nextArcs_x0 := F_nextArcs_x0.ext E85
    have F_capacities_x0 := F_capacities_x0.ext E85
    have F_costs_x0 := F_costs_x0.ext E85
    have F_lowers_x0 := F_lowers_x0.ext E85
    have V_hd := V_hd.ext E85
    have V_nx := V_nx.ext E85
    have V_cp := V_cp.ext E85
    have V_co := V_co.ext E85
    have V_lo := V_lo.ext E85
    have V_su := V_su.ext E85
    have V_fa := V_fa.ext E85
    have K85 := K0.ext E85
    have E_b85 : Exa Z h85 b85 "[J" := B85
    have V_b85 : Arv Z h85 b85 k85 .long (4 : Int32) [(.long 0), (.long 0), (.long 0), (.long 0)] (.long 0) := (Arv.new A85 (by decide)).pad (pad_rep [] (.long 0) 4)
    refine Goes.st st85 ?_
    refine Goes.hrun X85 e85 CX (own_c1 F_nodes_x0 own_n) (L := [.p 124 (.astore 5) 2, .p 126 (.aload_n 0) 1, .f 127 28 0]) (by decide +kernel) rfl (g' := (mkF m 130 #[rv x0, jv 0, .second, jv (wT_103 ee en q0 q2 cA cB), .second, rv b85, .unset, .unset, .unset, .unset, .unset, .unset, .unset] [(.int 4)])) rfl ⟨rr, trivial⟩ ?_
    intro T86 X86 e86
    obtain ⟨T87, h87, k87, X87, e87, E87, A87, B87, st87⟩ := newPE X86 hx hZ (aty := .long) w_17 e86 (g := (mkF m 130 #[rv x0, jv 0, .second, jv (wT_103 ee en q0 q2 cA cB), .second, rv b85, .unset, .unset, .unset, .unset, .unset, .unset, .unset] [(.int 4)])) rfl (hb hby d17_130) rfl (by decide) (cap := 4) (by decide) (by decide) (by decide) (by decide) (ad := "[J") (by decide)
    obtain ⟨b87, g87⟩ : ∃ z, z = h85.size := ⟨_, rfl⟩
    rw [← g87] at A87 B87 st87
    have ne_cp_b87 : cp ≠ b87 := Nat.ne_of_lt (Nat.lt_of_lt_of_le V_cp.lt (Nat.le_of_eq g87.symm))
    have ne_lo_b87 : lo ≠ b87 := Nat.ne_of_lt (Nat.lt_of_lt_of_le V_lo.lt (Nat.le_of_eq g87.symm))
    have ne_hd_b87 : hd ≠ b87 := Nat.ne_of_lt (Nat.lt_of_lt_of_le V_hd.lt (Nat.le_of_eq g87.symm))
    have ne_nx_b87 : nx ≠ b87 := Nat.ne_of_lt (Nat.lt_of_lt_of_le V_nx.lt (Nat.le_of_eq g87.symm))
    have ne_su_b87 : su ≠ b87 := Nat.ne_of_lt (Nat.lt_of_lt_of_le V_su.lt (Nat.le_of_eq g87.symm))
    have ne_fa_b87 : fa ≠ b87 := Nat.ne_of_lt (Nat.lt_of_lt_of_le V_fa.lt (Nat.le_of_eq g87.symm))
    have ne_b85_b87 : b85 ≠ b87 := Nat.ne_of_lt (Nat.lt_of_lt_of_le E_b85.lt (Nat.le_of_eq g87.symm))
    have ne_co_b87 : co ≠ b87 := Nat.ne_of_lt (Nat.lt_of_lt_of_le V_co.lt (Nat.le_of_eq g87.symm))
    have ne_x0_b87 : x0 ≠ b87 := Nat.ne_of_lt (Nat.lt_of_lt_of_le E_x0.lt (Nat.le_of_eq g87.symm))
    have g_b87 : n0 ≤ b87 := Nat.le_trans (Nat.le_trans Z0 K85.1) (Nat.le_of_eq g87.symm)
    have sz_b87 : h0.size ≤ b87 := Nat.le_trans K85.1 (Nat.le_of_eq g87.symm)
    have E_x0 := E_x0.ext E87
    have F_nodes_x0 := F_nodes_x0.ext E87
    have F_source_x0 := F_source_x0.ext E87
    have F_sink_x0 := F_sink_x0.ext E87
    have F_supplies_x0 := F_supplies_x0.ext E87
    have F_firstArcs_x0 := F_firstArcs_x0.ext E87
    have F_arcs_x0 := F_arcs_x0.ext E87
    have F_heads_x0 := F_heads_x0.ext E87
    have F_nextArcs_x0 := F_nextArcs_x0.ext E87
    have F_capacities_x0 := F_capacities_x0.ext E87
    have F_costs_x0 := F_costs_x0.ext E87
    have F_lowers_x0 := F_lowers_x0.ext E87
    have V_hd := V_hd.ext E87
    have V_nx := V_nx.ext E87
    have V_cp := V_cp.ext E87
    have V_co := V_co.ext E87
    have V_lo := V_lo.ext E87
    have V_su := V_su.ext E87
    have V_fa := V_fa.ext E87
    have E_b85 := E_b85.ext E87
    have V_b85 := V_b85.ext E87
    have K87 := K85.ext E87
    have E_b87 : Exa Z h87 b87 "[J" := B87
    have V_b87 : Arv Z h87 b87 k87 .long (4 : Int32) [(.long 0), (.long 0), (.long 0), (.long 0)] (.long 0) := (Arv.new A87 (by decide)).pad (pad_rep [] (.long 0) 4)
    refine Goes.st st87 ?_
    refine Goes.hrun X87 e87 CX (own_c1 F_nodes_x0 own_n) (L := [.p 132 (.astore 6) 2, .p 134 (.aload_n 0) 1, .f 135 28 0]) (by decide +kernel) rfl (g' := (mkF m 138 #[rv x0, jv 0, .second, jv (wT_103 ee en q0 q2 cA cB), .second, rv b85, rv b87, .unset, .unset, .unset, .unset, .unset, .unset] [(.int 4)])) rfl ⟨rr, trivial⟩ ?_
    intro T88 X88 e88
    obtain ⟨T89, h89, k89, X89, e89, E89, A89, B89, st89⟩ := newPE X88 hx hZ (aty := .int) w_12 e88 (g := (mkF m 138 #[rv x0, jv 0, .second, jv (wT_103 ee en q0 q2 cA cB), .second, rv b85, rv b87, .unset, .unset, .unset, .unset, .unset, .unset] [(.int 4)])) rfl (hb hby d17_138) rfl (by decide) (cap := 4) (by decide) (by decide) (by decide) (by decide) (ad := "[I") (by decide)
    obtain ⟨b89, g89⟩ : ∃ z, z = h87.size := ⟨_, rfl⟩
    rw [← g89] at A89 B89 st89
    have ne_cp_b89 : cp ≠ b89 := Nat.ne_of_lt (Nat.lt_of_lt_of_le V_cp.lt (Nat.le_of_eq g89.symm))
    have ne_lo_b89 : lo ≠ b89 := Nat.ne_of_lt (Nat.lt_of_lt_of_le V_lo.lt (Nat.le_of_eq g89.symm))
    have ne_b87_b89 : b87 ≠ b89 := Nat.ne_of_lt (Nat.lt_of_lt_of_le E_b87.lt (Nat.le_of_eq g89.symm))
    have ne_hd_b89 : hd ≠ b89 := Nat.ne_of_lt (Nat.lt_of_lt_of_le V_hd.lt (Nat.le_of_eq g89.symm))
    have ne_nx_b89 : nx ≠ b89 := Nat.ne_of_lt (Nat.lt_of_lt_of_le V_nx.lt (Nat.le_of_eq g89.symm))
    have ne_su_b89 : su ≠ b89 := Nat.ne_of_lt (Nat.lt_of_lt_of_le V_su.lt (Nat.le_of_eq g89.symm))
    have ne_fa_b89 : fa ≠ b89 := Nat.ne_of_lt (Nat.lt_of_lt_of_le V_fa.lt (Nat.le_of_eq g89.symm))
    have ne_b85_b89 : b85 ≠ b89 := Nat.ne_of_lt (Nat.lt_of_lt_of_le E_b85.lt (Nat.le_of_eq g89.symm))
    have ne_co_b89 : co ≠ b89 := Nat.ne_of_lt (Nat.lt_of_lt_of_le V_co.lt (Nat.le_of_eq g89.symm))
    have ne_x0_b89 : x0 ≠ b89 := Nat.ne_of_lt (Nat.lt_of_lt_of_le E_x0.lt (Nat.le_of_eq g89.symm))
    have g_b89 : n0 ≤ b89 := Nat.le_trans (Nat.le_trans Z0 K87.1) (Nat.le_of_eq g89.symm)
    have sz_b89 : h0.size ≤ b89 := Nat.le_trans K87.1 (Nat.le_of_eq g89.symm)
    have E_x0 := E_x0.ext E89
    have F_nodes_x0 := F_nodes_x0.ext E89
    have F_source_x0 := F_source_x0.ext E89
    have F_sink_x0 := F_sink_x0.ext E89
    have F_supplies_x0 := F_supplies_x0.ext E89
    have F_firstArcs_x0 := F_firstArcs_x0.ext E89
    have F_arcs_x0 := F_arcs_x0.ext E89
    have F_heads_x0 := F_heads_x0.ext E89
    have F_nextArcs_x0 := F_nextArcs_x0.ext E89
    have F_capacities_x0 := F_capacities_x0.ext E89
    have F_costs_x0 := F_costs_x0.ext E89
    have F_lowers_x0 := F_lowers_x0.ext E89
    have V_hd := V_hd.ext E89
    have V_nx := V_nx.ext E89
    have V_cp := V_cp.ext E89
    have V_co := V_co.ext E89
    have V_lo := V_lo.ext E89
    have V_su := V_su.ext E89
    have V_fa := V_fa.ext E89
    have E_b85 := E_b85.ext E89
    have V_b85 := V_b85.ext E89
    have E_b87 := E_b87.ext E89
    have V_b87 := V_b87.ext E89
    have K89 := K87.ext E89
    have E_b89 : Exa Z h89 b89 "[I" := B89
    have V_b89 : Arv Z h89 b89 k89 .int (4 : Int32) [(.int 0), (.int 0), (.int 0), (.int 0)] (.int 0) := (Arv.new A89 (by decide)).pad (pad_rep [] (.int 0) 4)
    refine Goes.st st89 ?_
    refine Goes.hrun X89 e89 CX (own_c1 F_nodes_x0 own_n) (L := [.p 140 (.astore 7) 2, .p 142 (.aload_n 0) 1, .f 143 28 0]) (by decide +kernel) rfl (g' := (mkF m 146 #[rv x0, jv 0, .second, jv (wT_103 ee en q0 q2 cA cB), .second, rv b85, rv b87, rv b89, .unset, .unset, .unset, .unset, .unset] [(.int 4)])) rfl ⟨rr, trivial⟩ ?_
    intro T90 X90 e90
    obtain ⟨T91, h91, k91, X91, e91, E91, A91, B91, st91⟩ := newPE X90 hx hZ (aty := .int) w_12 e90 (g := (mkF m 146 #[rv x0, jv 0, .second, jv (wT_103 ee en q0 q2 cA cB), .second, rv b85, rv b87, rv b89, .unset, .unset, .unset, .unset, .unset] [(.int 4)])) rfl (hb hby d17_146) rfl (by decide) (cap := 4) (by decide) (by decide) (by decide) (by decide) (ad := "[I") (by decide)
    obtain ⟨b91, g91⟩ : ∃ z, z = h89.size := ⟨_, rfl⟩
    rw [← g91] at A91 B91 st91
    have ne_cp_b91 : cp ≠ b91 := Nat.ne_of_lt (Nat.lt_of_lt_of_le V_cp.lt (Nat.le_of_eq g91.symm))
    have ne_lo_b91 : lo ≠ b91 := Nat.ne_of_lt (Nat.lt_of_lt_of_le V_lo.lt (Nat.le_of_eq g91.symm))
    have ne_b89_b91 : b89 ≠ b91 := Nat.ne_of_lt (Nat.lt_of_lt_of_le E_b89.lt (Nat.le_of_eq g91.symm))
    have ne_b87_b91 : b87 ≠ b91 := Nat.ne_of_lt (Nat.lt_of_lt_of_le E_b87.lt (Nat.le_of_eq g91.symm))
    have ne_hd_b91 : hd ≠ b91 := Nat.ne_of_lt (Nat.lt_of_lt_of_le V_hd.lt (Nat.le_of_eq g91.symm))
    have ne_nx_b91 : nx ≠ b91 := Nat.ne_of_lt (Nat.lt_of_lt_of_le V_nx.lt (Nat.le_of_eq g91.symm))
    have ne_su_b91 : su ≠ b91 := Nat.ne_of_lt (Nat.lt_of_lt_of_le V_su.lt (Nat.le_of_eq g91.symm))
    have ne_fa_b91 : fa ≠ b91 := Nat.ne_of_lt (Nat.lt_of_lt_of_le V_fa.lt (Nat.le_of_eq g91.symm))
    have ne_b85_b91 : b85 ≠ b91 := Nat.ne_of_lt (Nat.lt_of_lt_of_le E_b85.lt (Nat.le_of_eq g91.symm))
    have ne_co_b91 : co ≠ b91 := Nat.ne_of_lt (Nat.lt_of_lt_of_le V_co.lt (Nat.le_of_eq g91.symm))
    have ne_x0_b91 : x0 ≠ b91 := Nat.ne_of_lt (Nat.lt_of_lt_of_le E_x0.lt (Nat.le_of_eq g91.symm))
    have g_b91 : n0 ≤ b91 := Nat.le_trans (Nat.le_trans Z0 K89.1) (Nat.le_of_eq g91.symm)
    have sz_b91 : h0.size ≤ b91 := Nat.le_trans K89.1 (Nat.le_of_eq g91.symm)
    have E_x0 := E_x0.ext E91
    have F_nodes_x0 := F_nodes_x0.ext E91
    have F_source_x0 := F_source_x0.ext E91
    have F_sink_x0 := F_sink_x0.ext E91
    have F_supplies_x0 := F_supplies_x0.ext E91
    have F_firstArcs_x0 := F_firstArcs_x0.ext E91
    have F_arcs_x0 := F_arcs_x0.ext E91
    have F_heads_x0 := F_heads_x0.ext E91
    have F_nextArcs_x0 := F_nextArcs_x0.ext E91
    have F_capacities_x0 := F_capacities_x0.ext E91
    have F_costs_x0 := F_costs_x0.ext E91
    have F_lowers_x0 := F_lowers_x0.ext E91
    have V_hd := V_hd.ext E91
    have V_nx := V_nx.ext E91
    have V_cp := V_cp.ext E91
    have V_co := V_co.ext E91
    have V_lo := V_lo.ext E91
    have V_su := V_su.ext E91
    have V_fa := V_fa.ext E91
    have E_b85 := E_b85.ext E91
    have V_b85 := V_b85.ext E91
    have E_b87 := E_b87.ext E91
    have V_b87 := V_b87.ext E91
    have E_b89 := E_b89.ext E91
    have V_b89 := V_b89.ext E91
    have K91 := K89.ext E91
    have E_b91 : Exa Z h91 b91 "[I" := B91
    have V_b91 : Arv Z h91 b91 k91 .int (4 : Int32) [(.int 0), (.int 0), (.int 0), (.int 0)] (.int 0) := (Arv.new A91 (by decide)).pad (pad_rep [] (.int 0) 4)
    refine Goes.st st91 ?_
    refine Goes.hrun X91 e91 CX own_n (L := [.p 148 (.astore 8) 2, .p 150 (.lconst 0) 1, .p 151 (.lstore 9) 2, .p 153 (.lload 9) 2, .p 155 (.lload_n 1) 1, .p 156 .lcmp 1, .b 157 .ge 58 true, .p 215 (.lload 9) 2, .p 217 (.lload_n 1) 1, .p 218 .lcmp 1, .b 219 .ne 7 false, .p 222 (.iconst 1) 1, .p 223 (.goto 4) 3]) (by decide +kernel) rfl (g' := (mkF m 227 #[rv x0, jv 0, .second, jv (wT_103 ee en q0 q2 cA cB), .second, rv b85, rv b87, rv b89, rv b91, jv 0, .second, .unset, .unset] [(.int 1)])) rfl ⟨by decide, by decide, trivial⟩ ?_
    intro T94 X94 e94
    exact Goes.retB X94 hx hlk (t := .boolean) Bd.returns (by simp) (hb hby d17_227) rfl (by show (QSV Z x0 cp lo kcp klo ee q0 q2 cA cB la lb [x0, hd, nx, cp, co, lo, su, fa] h0 n0) _ _ _; rw [e94]; refine ⟨q0, q2, (0 : Int64), (0 : Int64), (0 : Int64), (0 : Int64), rfl, N0, K91, E_x0, F_lowers_x0, F_capacities_x0, V_lo, ?_⟩; rw [← (own_x0 hB hc25_2).1, ← (own_x0 hB hc25_2).2]; exact V_cp) (by decide) (by decide)
def own_lk3 : List (Nat × String × String × String) := []
theorem own_lk3_ok {Z : State} {a0 : Array Value} (hw : ∀ d ∈ tables_1, d.before a0 Z = true) : ∀ q ∈ own_lk3, (Cond.fieldLink "com/example/kubera/kubera/FlowNetworkFlowPinLaw" q.1 q.2.1 q.2.2.1 q.2.2.2).before a0 Z = true := fun q hq => hw _ ((by decide +kernel : ∀ q ∈ own_lk3, Cond.fieldLink "com/example/kubera/kubera/FlowNetworkFlowPinLaw" q.1 q.2.1 q.2.2.1 q.2.2.2 ∈ tables_1) q hq)
theorem pn0 : plainName "com/example/kubera/kubera/FlowNetworkFlowPinLaw" = true := by first | (simp [plainName, overriddenIn]; done) | decide +kernel
theorem pd0_0 : parseMethodDescriptor "(I)V" = some ⟨[.int], none⟩ := by decide +kernel
theorem pd0_1 : parseMethodDescriptor "(IIJJJ)I" = some ⟨[.int, .int, .long, .long, .long], some .int⟩ := by decide +kernel
theorem pd0_2 : parseMethodDescriptor "(IJ)V" = some ⟨[.int, .long], none⟩ := by decide +kernel
theorem pd0_3 : parseMethodDescriptor "(I)J" = some ⟨[.int], some .long⟩ := by decide +kernel
theorem pd0_4 : parseMethodDescriptor "()Z" = some ⟨[], some .boolean⟩ := by decide +kernel
theorem pd0_5 : parseMethodDescriptor "(JJ)J" = some ⟨[.long, .long], some .long⟩ := by decide +kernel
theorem ef0 (m : MethodId) (x0 : Int64) (x1 : Int64) (x2 : Int64) (x3 : Int64) (x4 : Int64) (x5 : Int32) : entryFrame m #[(.long x0), (.long x1), (.long x2), (.long x3), (.long x4), (.int x5)] maxLocals = (mkF m 0 #[jv x0, .second, jv x1, .second, jv x2, .second, jv x3, .second, jv x4, .second, iv x5, .unset, .unset, .unset, .unset, .unset, .unset, .unset, .unset, .unset, .unset, .unset, .unset, .unset, .unset, .unset, .unset, .unset, .unset, .unset, .unset, .unset, .unset, .unset, .unset, .unset, .unset, .unset, .unset, .unset, .unset, .unset, .unset, .unset, .unset] []) := by first | (simp [entryFrame, mkF, argsToLocals, Value.category, maxLocals]; done) | rfl
def w0_5 (x0 : Int64) (x1 : Int64) (x2 : Int64) (x3 : Int64) (x4 : Int64) (x5 : Int32) : Int64 := (x0 &&& (4294967295 : Int64))
def w0_12 (x0 : Int64) (x1 : Int64) (x2 : Int64) (x3 : Int64) (x4 : Int64) (x5 : Int32) : Int64 := (x1 &&& (4294967295 : Int64))
def w0_20 (x0 : Int64) (x1 : Int64) (x2 : Int64) (x3 : Int64) (x4 : Int64) (x5 : Int32) : Int64 := (x2 &&& (4294967295 : Int64))
def w0_28 (x0 : Int64) (x1 : Int64) (x2 : Int64) (x3 : Int64) (x4 : Int64) (x5 : Int32) : Int64 := (x3 &&& (4294967295 : Int64))
def w0_43l (x0 : Int64) (x1 : Int64) (x2 : Int64) (x3 : Int64) (x4 : Int64) (x5 : Int32) : Int64 := (x4 &&& (9223372036854775807 : Int64))
def w0_43r (x0 : Int64) (x1 : Int64) (x2 : Int64) (x3 : Int64) (x4 : Int64) (x5 : Int32) : Int64 := (((w0_12 x0 x1 x2 x3 x4 x5) + (w0_28 x0 x1 x2 x3 x4 x5)) + (1 : Int64))
def w0_44 (x0 : Int64) (x1 : Int64) (x2 : Int64) (x3 : Int64) (x4 : Int64) (x5 : Int32) : Int64 := ((w0_43l x0 x1 x2 x3 x4 x5) - ((w0_43l x0 x1 x2 x3 x4 x5) / (w0_43r x0 x1 x2 x3 x4 x5)) * (w0_43r x0 x1 x2 x3 x4 x5))
def w0_54 (x0 : Int64) (x1 : Int64) (x2 : Int64) (x3 : Int64) (x4 : Int64) (x5 : Int32) : Int64 := (((w0_5 x0 x1 x2 x3 x4 x5) + (w0_20 x0 x1 x2 x3 x4 x5)) + (w0_44 x0 x1 x2 x3 x4 x5))
def j0_68_s0 (x0 : Int64) (x1 : Int64) (x2 : Int64) (x3 : Int64) (x4 : Int64) (x5 : Int32) : Int32 := (if (x5 &&& (1 : Int32)) = (0 : Int32) then (1 : Int32) else (0 : Int32))
def w0_78 (x0 : Int64) (x1 : Int64) (x2 : Int64) (x3 : Int64) (x4 : Int64) (x5 : Int32) : Int64 := ((((x5.toUInt32 >>> ((1 : Int32) &&& 31).toUInt32).toInt32) &&& (65535 : Int32)).toInt64)
def w0_95 (x0 : Int64) (x1 : Int64) (x2 : Int64) (x3 : Int64) (x4 : Int64) (x5 : Int32) : Int64 := (((w0_78 x0 x1 x2 x3 x4 x5) + (1 : Int64)) + ((((x5.toUInt32 >>> ((17 : Int32) &&& 31).toUInt32).toInt32) &&& (16383 : Int32)).toInt64))
def j0_109_s0 (x0 : Int64) (x1 : Int64) (x2 : Int64) (x3 : Int64) (x4 : Int64) (x5 : Int32) : Int64 := (if (j0_68_s0 x0 x1 x2 x3 x4 x5) = (0 : Int32) then (w0_95 x0 x1 x2 x3 x4 x5) else (w0_78 x0 x1 x2 x3 x4 x5))
def j0_123_s0 (x0 : Int64) (x1 : Int64) (x2 : Int64) (x3 : Int64) (x4 : Int64) (x5 : Int32) : Int64 := (if (j0_68_s0 x0 x1 x2 x3 x4 x5) = (0 : Int32) then (w0_78 x0 x1 x2 x3 x4 x5) else (w0_95 x0 x1 x2 x3 x4 x5))
def c0_148_1 (la : Int64) (da : Int64) (lb : Int64) (db : Int64) (ee : Int64) (ss : Int64) (ac : Int32) (gc : Int64) (gd : Int64) (ca : Int64) (cb : Int64) : Int64 := (la + da)
def o0_148_1 (la : Int64) (da : Int64) (lb : Int64) (db : Int64) (ee : Int64) (ss : Int64) (ac : Int32) (gc : Int64) (gd : Int64) (ca : Int64) (cb : Int64) : Int32 := ((0 : Int32) + (1 : Int32))
def sup0_0 (la : Int64) (da : Int64) (lb : Int64) (db : Int64) (ee : Int64) (ss : Int64) (ac : Int32) (gc : Int64) (gd : Int64) (ca : Int64) (cb : Int64) : Int64 := ((0 : Int64) + la)
def sup0_0_a (la : Int64) (da : Int64) (lb : Int64) (db : Int64) (ee : Int64) (ss : Int64) (ac : Int32) (gc : Int64) (gd : Int64) (ca : Int64) (cb : Int64) : Int64 := ((0 : Int64) - la)
def ng0_0 (la : Int64) (da : Int64) (lb : Int64) (db : Int64) (ee : Int64) (ss : Int64) (ac : Int32) (gc : Int64) (gd : Int64) (ca : Int64) (cb : Int64) : Int64 := (-ca)
def cap0_0 (la : Int64) (da : Int64) (lb : Int64) (db : Int64) (ee : Int64) (ss : Int64) (ac : Int32) (gc : Int64) (gd : Int64) (ca : Int64) (cb : Int64) : Int64 := ((c0_148_1 la da lb db ee ss ac gc gd ca cb) - la)
def c0_166_1 (la : Int64) (da : Int64) (lb : Int64) (db : Int64) (ee : Int64) (ss : Int64) (ac : Int32) (gc : Int64) (gd : Int64) (ca : Int64) (cb : Int64) : Int64 := (lb + db)
def o0_166_1 (la : Int64) (da : Int64) (lb : Int64) (db : Int64) (ee : Int64) (ss : Int64) (ac : Int32) (gc : Int64) (gd : Int64) (ca : Int64) (cb : Int64) : Int32 := ((1 : Int32) + (1 : Int32))
def sup0_1 (la : Int64) (da : Int64) (lb : Int64) (db : Int64) (ee : Int64) (ss : Int64) (ac : Int32) (gc : Int64) (gd : Int64) (ca : Int64) (cb : Int64) : Int64 := ((sup0_0 la da lb db ee ss ac gc gd ca cb) + lb)
def sup0_1_a (la : Int64) (da : Int64) (lb : Int64) (db : Int64) (ee : Int64) (ss : Int64) (ac : Int32) (gc : Int64) (gd : Int64) (ca : Int64) (cb : Int64) : Int64 := ((sup0_0_a la da lb db ee ss ac gc gd ca cb) - lb)
def ng0_1 (la : Int64) (da : Int64) (lb : Int64) (db : Int64) (ee : Int64) (ss : Int64) (ac : Int32) (gc : Int64) (gd : Int64) (ca : Int64) (cb : Int64) : Int64 := (-cb)
def cap0_1 (la : Int64) (da : Int64) (lb : Int64) (db : Int64) (ee : Int64) (ss : Int64) (ac : Int32) (gc : Int64) (gd : Int64) (ca : Int64) (cb : Int64) : Int64 := ((c0_166_1 la da lb db ee ss ac gc gd ca cb) - lb)
def sup0_s0 (la : Int64) (da : Int64) (lb : Int64) (db : Int64) (ee : Int64) (ss : Int64) (ac : Int32) (gc : Int64) (gd : Int64) (ca : Int64) (cb : Int64) : Int64 := ((sup0_1_a la da lb db ee ss ac gc gd ca cb) + ss)
def c0_185_0 (la : Int64) (da : Int64) (lb : Int64) (db : Int64) (ee : Int64) (ss : Int64) (ac : Int32) (gc : Int64) (gd : Int64) (ca : Int64) (cb : Int64) : Int64 := (-ss)
def sup0_s1 (la : Int64) (da : Int64) (lb : Int64) (db : Int64) (ee : Int64) (ss : Int64) (ac : Int32) (gc : Int64) (gd : Int64) (ca : Int64) (cb : Int64) : Int64 := ((sup0_1 la da lb db ee ss ac gc gd ca cb) + (c0_185_0 la da lb db ee ss ac gc gd ca cb))
def j0_240_s0 (la : Int64) (da : Int64) (lb : Int64) (db : Int64) (ee : Int64) (ss : Int64) (ac : Int32) (gc : Int64) (gd : Int64) (ca : Int64) (cb : Int64) : Int64 := (if ac = (0 : Int32) then db else da)
def w0_249 (la : Int64) (da : Int64) (lb : Int64) (db : Int64) (ee : Int64) (ss : Int64) (ac : Int32) (gc : Int64) (gd : Int64) (ca : Int64) (cb : Int64) : Int64 := (r3 (j0_240_s0 la da lb db ee ss ac gc gd ca cb) ee)
def j0_266_s0 (la : Int64) (da : Int64) (lb : Int64) (db : Int64) (ee : Int64) (ss : Int64) (ac : Int32) (gc : Int64) (gd : Int64) (ca : Int64) (cb : Int64) : Int64 := (if ac = (0 : Int32) then (ee - (w0_249 la da lb db ee ss ac gc gd ca cb)) else (w0_249 la da lb db ee ss ac gc gd ca cb))
def w0_273 (la : Int64) (da : Int64) (lb : Int64) (db : Int64) (ee : Int64) (ss : Int64) (ac : Int32) (gc : Int64) (gd : Int64) (ca : Int64) (cb : Int64) : Int64 := (ee - (j0_266_s0 la da lb db ee ss ac gc gd ca cb))
def LawP (la da lb db ee ss : Int64) (ac : Int32) (gc gd ca cb : Int64) : Prop := ∃ A D B F E S X Y : Int, la.toInt = A ∧ da.toInt = D ∧ lb.toInt = B ∧ db.toInt = F ∧ ee.toInt = E ∧ ss.toInt = S ∧ ca.toInt = X ∧ cb.toInt = Y ∧ (0 ≤ A ∧ A < 2 ^ 32 ∧ 0 ≤ D ∧ D < 2 ^ 32 ∧ 0 ≤ B ∧ B < 2 ^ 32 ∧ 0 ≤ F ∧ F < 2 ^ 32 ∧ 0 ≤ E ∧ E ≤ D + F ∧ S = A + B + E ∧ 0 ≤ X ∧ X < 2 ^ 30 ∧ 0 ≤ Y ∧ Y < 2 ^ 30 ∧ X ≠ Y) ∧ ((ac = 0 ∧ Y < X) ∨ (ac = 1 ∧ X < Y))
section
variable (x0 x1 x2 x3 x4 : Int64) (x5 : Int32)
theorem own_nzI : ∃ D F : Int, (w0_12 x0 x1 x2 x3 x4 x5).toInt = D ∧ (w0_28 x0 x1 x2 x3 x4 x5).toInt = F ∧ (0 ≤ D ∧ D < 2 ^ 32 ∧ 0 ≤ F ∧ F < 2 ^ 32) ∧ (w0_43r x0 x1 x2 x3 x4 x5).toInt = D + F + 1 := by
  obtain ⟨D, d0, d1, d2, -⟩ := own_m64 x1 (4294967295 : Int64) (k := 32) (by decide) (by decide)
  obtain ⟨F, f0, f1, f2, -⟩ := own_m64 x3 (4294967295 : Int64) (k := 32) (by decide) (by decide)
  refine ⟨D, F, d0, f0, by omega, ?_⟩
  exact own_a64 (own_a64 (show (w0_12 x0 x1 x2 x3 x4 x5).toInt = D from d0) (show (w0_28 x0 x1 x2 x3 x4 x5).toInt = F from f0) (by omega)) (show (1 : Int64).toInt = 1 by decide) (by omega)
theorem own_nz : ¬ w0_43r x0 x1 x2 x3 x4 x5 = 0 := by
  obtain ⟨D, F, -, -, hb, e⟩ := own_nzI x0 x1 x2 x3 x4 x5
  rw [own_eq64 e own_0]; omega
theorem own_HH : LawP (w0_5 x0 x1 x2 x3 x4 x5) (w0_12 x0 x1 x2 x3 x4 x5) (w0_20 x0 x1 x2 x3 x4 x5) (w0_28 x0 x1 x2 x3 x4 x5) (w0_44 x0 x1 x2 x3 x4 x5) (w0_54 x0 x1 x2 x3 x4 x5) (j0_68_s0 x0 x1 x2 x3 x4 x5) (w0_78 x0 x1 x2 x3 x4 x5) (w0_95 x0 x1 x2 x3 x4 x5) (j0_109_s0 x0 x1 x2 x3 x4 x5) (j0_123_s0 x0 x1 x2 x3 x4 x5) := by
  obtain ⟨A, a0, a1, a2, -⟩ := own_m64 x0 (4294967295 : Int64) (k := 32) (by decide) (by decide)
  obtain ⟨B, b0, b1, b2, -⟩ := own_m64 x2 (4294967295 : Int64) (k := 32) (by decide) (by decide)
  obtain ⟨D, F, d0, f0, hb, er⟩ := own_nzI x0 x1 x2 x3 x4 x5
  obtain ⟨G, g0, g1, -, -⟩ := own_m64 x4 (9223372036854775807 : Int64) (k := 63) (by decide) (by decide)
  have eE := own_r64 (show (w0_43l x0 x1 x2 x3 x4 x5).toInt = G from g0) er g1
  obtain ⟨E, hE⟩ : ∃ E, E = G % (D + F + 1) := ⟨_, rfl⟩
  rw [← hE] at eE
  have eE : (w0_44 x0 x1 x2 x3 x4 x5).toInt = E := eE
  have E0 : 0 ≤ E := by rw [hE]; exact Int.emod_nonneg _ (by omega)
  have E1 : E < D + F + 1 := by rw [hE]; exact Int.emod_lt_of_pos _ (by omega)
  obtain ⟨P, p0, p1, p2, -⟩ := own_m32 ((x5.toUInt32 >>> ((1 : Int32) &&& 31).toUInt32).toInt32) (65535 : Int32) (k := 16) (by decide) (by decide)
  obtain ⟨R, r0, r1, r2, -⟩ := own_m32 ((x5.toUInt32 >>> ((17 : Int32) &&& 31).toUInt32).toInt32) (16383 : Int32) (k := 14) (by decide) (by decide)
  have eP : (w0_78 x0 x1 x2 x3 x4 x5).toInt = P := own_i2l p0
  have eR : (w0_95 x0 x1 x2 x3 x4 x5).toInt = P + 1 + R := own_a64 (own_a64 eP (show (1 : Int64).toInt = 1 by decide) (by omega)) (own_i2l r0) (by omega)
  have eS : (w0_54 x0 x1 x2 x3 x4 x5).toInt = A + B + E := own_a64 (own_a64 a0 b0 (by omega)) eE (by omega)
  by_cases z : (x5 &&& (1 : Int32)) = (0 : Int32)
  · have ea : j0_68_s0 x0 x1 x2 x3 x4 x5 = 1 := if_pos z
    refine ⟨A, D, B, F, E, A + B + E, P, P + 1 + R, a0, d0, b0, f0, eE, eS, ?_, ?_, by omega, Or.inr ⟨ea, by omega⟩⟩
    · unfold j0_109_s0; rw [ea, if_neg (by decide)]; exact eP
    · unfold j0_123_s0; rw [ea, if_neg (by decide)]; exact eR
  · have ea : j0_68_s0 x0 x1 x2 x3 x4 x5 = 0 := if_neg z
    refine ⟨A, D, B, F, E, A + B + E, P + 1 + R, P, a0, d0, b0, f0, eE, eS, ?_, ?_, by omega, Or.inl ⟨ea, by omega⟩⟩
    · unfold j0_109_s0; rw [ea, if_pos rfl]; exact eR
    · unfold j0_123_s0; rw [ea, if_pos rfl]; exact eP
end
section
variable {la da lb db ee ss : Int64} {ac : Int32} {gc gd ca cb : Int64}
theorem own_w1_0 (HH : LawP la da lb db ee ss ac gc gd ca cb) : ¬ (la < (0 : Int64)) := by
  obtain ⟨A, D, B, F, E, S, X, Y, e1, e2, e3, e4, e5, e6, e7, e8, hb, hc⟩ := HH
  rw [own_lt64 e1 own_0]; omega
theorem own_w2_0 (HH : LawP la da lb db ee ss ac gc gd ca cb) : ¬ (la + da < la) := by
  obtain ⟨A, D, B, F, E, S, X, Y, e1, e2, e3, e4, e5, e6, e7, e8, hb, hc⟩ := HH
  rw [own_lt64 (own_a64 e1 e2 (by omega)) e1]; omega
theorem own_w3_0 (HH : LawP la da lb db ee ss ac gc gd ca cb) : ¬ (ca < (0 : Int64)) := by
  obtain ⟨A, D, B, F, E, S, X, Y, e1, e2, e3, e4, e5, e6, e7, e8, hb, hc⟩ := HH
  rw [own_lt64 e7 own_0]; omega
theorem own_w1_1 (HH : LawP la da lb db ee ss ac gc gd ca cb) : ¬ (lb < (0 : Int64)) := by
  obtain ⟨A, D, B, F, E, S, X, Y, e1, e2, e3, e4, e5, e6, e7, e8, hb, hc⟩ := HH
  rw [own_lt64 e3 own_0]; omega
theorem own_w2_1 (HH : LawP la da lb db ee ss ac gc gd ca cb) : ¬ (lb + db < lb) := by
  obtain ⟨A, D, B, F, E, S, X, Y, e1, e2, e3, e4, e5, e6, e7, e8, hb, hc⟩ := HH
  rw [own_lt64 (own_a64 e3 e4 (by omega)) e3]; omega
theorem own_w3_1 (HH : LawP la da lb db ee ss ac gc gd ca cb) : ¬ (cb < (0 : Int64)) := by
  obtain ⟨A, D, B, F, E, S, X, Y, e1, e2, e3, e4, e5, e6, e7, e8, hb, hc⟩ := HH
  rw [own_lt64 e8 own_0]; omega
theorem own_caps (HH : LawP la da lb db ee ss ac gc gd ca cb) : cap0_0 la da lb db ee ss ac gc gd ca cb = da ∧ cap0_1 la da lb db ee ss ac gc gd ca cb = db ∧ sup0_s0 la da lb db ee ss ac gc gd ca cb = ee ∧ (sup0_s1 la da lb db ee ss ac gc gd ca cb).toInt = -ee.toInt := by
  obtain ⟨A, D, B, F, E, S, X, Y, e1, e2, e3, e4, e5, e6, e7, e8, hb, hc⟩ := HH
  have n1 : (c0_185_0 la da lb db ee ss ac gc gd ca cb).toInt = -S := by
    show (-ss).toInt = -S
    rw [Jvm.Kit.i64_neg (by omega), e6]
  refine ⟨?_, ?_, ?_, ?_⟩
  · exact (own_eq64 (own_s64 (own_a64 e1 e2 (by omega)) e1 (by omega)) e2).mpr (by omega)
  · exact (own_eq64 (own_s64 (own_a64 e3 e4 (by omega)) e3 (by omega)) e4).mpr (by omega)
  · exact (own_eq64 (own_a64 (own_s64 (own_s64 own_0 e1 (by omega)) e3 (by omega)) e6 (by omega)) e5).mpr (by omega)
  · rw [e5]
    exact (own_a64 (own_a64 (own_a64 own_0 e1 (by omega)) e3 (by omega)) n1 (by omega)).trans (by omega)
theorem own_bnd (HH : LawP la da lb db ee ss ac gc gd ca cb) : Bnd (sup0_s0 la da lb db ee ss ac gc gd ca cb) (sup0_s1 la da lb db ee ss ac gc gd ca cb) (cap0_0 la da lb db ee ss ac gc gd ca cb) (cap0_1 la da lb db ee ss ac gc gd ca cb) ca cb := by
  obtain ⟨c0, c1, s0, s1⟩ := own_caps HH
  obtain ⟨A, D, B, F, E, S, X, Y, e1, e2, e3, e4, e5, e6, e7, e8, hb, hc⟩ := HH
  exact ⟨E, D, F, X, Y, by rw [s0]; exact e5, by rw [c0]; exact e2, by rw [c1]; exact e4, e7, e8, by omega, by rw [s1, e5]⟩
theorem own_q198 (HH : LawP la da lb db ee ss ac gc gd ca cb) : rR la (0 : Int64) = la := Int64.add_zero _
theorem own_q211 (HH : LawP la da lb db ee ss ac gc gd ca cb) : rS lb (0 : Int64) = lb := Int64.add_zero _
theorem own_xaE (HH : LawP la da lb db ee ss ac gc gd ca cb) : own_xa (sup0_s0 la da lb db ee ss ac gc gd ca cb) (cap0_0 la da lb db ee ss ac gc gd ca cb) (cap0_1 la da lb db ee ss ac gc gd ca cb) ca cb = j0_266_s0 la da lb db ee ss ac gc gd ca cb := by
  obtain ⟨c0, c1, s0, s1⟩ := own_caps HH
  obtain ⟨A, D, B, F, E, S, X, Y, e1, e2, e3, e4, e5, e6, e7, e8, hb, hc⟩ := HH
  rw [c0, c1, s0]
  unfold own_xa j0_266_s0 w0_249 j0_240_s0
  rcases hc with ⟨rfl, z⟩ | ⟨rfl, z⟩
  · rw [if_neg (by rw [own_lt64 e7 e8]; omega), if_pos rfl, if_pos rfl]
  · rw [if_pos (by rw [own_lt64 e7 e8]; omega), if_neg (by decide), if_neg (by decide)]
theorem own_q298 (HH : LawP la da lb db ee ss ac gc gd ca cb) : rR la (own_xa (sup0_s0 la da lb db ee ss ac gc gd ca cb) (cap0_0 la da lb db ee ss ac gc gd ca cb) (cap0_1 la da lb db ee ss ac gc gd ca cb) ca cb) = la + j0_266_s0 la da lb db ee ss ac gc gd ca cb := by rw [own_xaE HH]; rfl
theorem own_q314 (HH : LawP la da lb db ee ss ac gc gd ca cb) : rS lb (own_xb (sup0_s0 la da lb db ee ss ac gc gd ca cb) (cap0_0 la da lb db ee ss ac gc gd ca cb) (cap0_1 la da lb db ee ss ac gc gd ca cb) ca cb) = lb + w0_273 la da lb db ee ss ac gc gd ca cb := by
  obtain ⟨c0, c1, s0, s1⟩ := own_caps HH
  unfold own_xb
  rw [own_xaE HH, s0]
  rfl
end
set_option maxRecDepth 65536 in
set_option maxHeartbeats 40000000 in
theorem rm0 (l : Launch) (Z : State) (a0 : Array Value) (hw : ∀ d ∈ tables_1, d.before a0 Z = true) (ws : List Jvm.Cond) (x0 : Int64) (x1 : Int64) (x2 : Int64) (x3 : Int64) (x4 : Int64) (x5 : Int32) (h0 : Heap) (n0 : Nat) (Z0 : n0 ≤ h0.size) :
    MetFree l x (head1 (Jvm.Cond.code x code maxLocals ret :: ws) room_1) (fun a U => a = #[(.long x0), (.long x1), (.long x2), (.long x3), (.long x4), (.int x5)] ∧ Z.Warmed39 U.vm ∧ U.heap = h0) (fun _ _ _ _ _ => True) (fun _ U o U' => ∃ v L, o = .returned v ∧ (QL (some (.int 1)) n0) v U'.heap L ∧ FrameEnd U o U' L room_1.cells room_1.slots) := by
  refine MetFree.of_bodySF (plainFor_of_name pn0) hisR ?_
  intro p e s m args below meth c s₁ Bd hml0 hP hK
  obtain ⟨rfl, hZ, hh⟩ := hP
  have hx := Bd.exec
  have hby := Bd.bytes
  have hml : c.maxLocals = 45 := hml0
  have hlk : meth.locks = false := BodyLoose.notSynchronized Bd
  have hown : s.vm.findClass "com/example/kubera/kubera/FlowNetworkFlowPinLaw" = some m.cls := findClass_of_methodNamed Bd.named
  have hnm := (name_of_methodNamed Bd.named Bd.method).1
  have w_0 := hw _ (List.mem_of_getElem? (i := 0) rfl)
  have w_1 := hw _ (List.mem_of_getElem? (i := 1) rfl)
  have w_2 := hw _ (List.mem_of_getElem? (i := 2) rfl)
  have w_3 := hw _ (List.mem_of_getElem? (i := 3) rfl)
  have w_4 := hw _ (List.mem_of_getElem? (i := 4) rfl)
  have w_5 := hw _ (List.mem_of_getElem? (i := 5) rfl)
  have w_6 := hw _ (List.mem_of_getElem? (i := 6) rfl)
  have w_7 := hw _ (List.mem_of_getElem? (i := 7) rfl)
  have w_8 := hw _ (List.mem_of_getElem? (i := 8) rfl)
  have w_14 := hw _ (List.mem_of_getElem? (i := 14) rfl)
  have w_16 := hw _ (List.mem_of_getElem? (i := 16) rfl)
  have w_19 := hw _ (List.mem_of_getElem? (i := 19) rfl)
  have w_21 := hw _ (List.mem_of_getElem? (i := 21) rfl)
  have w_23 := hw _ (List.mem_of_getElem? (i := 23) rfl)
  have w_25 := hw _ (List.mem_of_getElem? (i := 25) rfl)
  have w_27 := hw _ (List.mem_of_getElem? (i := 27) rfl)
  have w_29 := hw _ (List.mem_of_getElem? (i := 29) rfl)
  have w_31 := hw _ (List.mem_of_getElem? (i := 31) rfl)
  have w_33 := hw _ (List.mem_of_getElem? (i := 33) rfl)
  have w_38 := hw _ (List.mem_of_getElem? (i := 38) rfl)
  have w_39 := hw _ (List.mem_of_getElem? (i := 39) rfl)
  have w_40 := hw _ (List.mem_of_getElem? (i := 40) rfl)
  have w_41 := hw _ (List.mem_of_getElem? (i := 41) rfl)
  have w_42 := hw _ (List.mem_of_getElem? (i := 42) rfl)
  have w_44 := hw _ (List.mem_of_getElem? (i := 44) rfl)
  have w_49 := hw _ (List.mem_of_getElem? (i := 49) rfl)
  have w_50 := hw _ (List.mem_of_getElem? (i := 50) rfl)
  have w_51 := hw _ (List.mem_of_getElem? (i := 51) rfl)
  have w_52 := hw _ (List.mem_of_getElem? (i := 52) rfl)
  have w_53 := hw _ (List.mem_of_getElem? (i := 53) rfl)
  have w_54 := hw _ (List.mem_of_getElem? (i := 54) rfl)
  have w_55 := hw _ (List.mem_of_getElem? (i := 55) rfl)
  have w_56 := hw _ (List.mem_of_getElem? (i := 56) rfl)
  have w_57 := hw _ (List.mem_of_getElem? (i := 57) rfl)
  have w_58 := hw _ (List.mem_of_getElem? (i := 58) rfl)
  have w_59 := hw _ (List.mem_of_getElem? (i := 59) rfl)
  have w_60 := hw _ (List.mem_of_getElem? (i := 60) rfl)
  have w_61 := hw _ (List.mem_of_getElem? (i := 61) rfl)
  have w_62 := hw _ (List.mem_of_getElem? (i := 62) rfl)
  have w_63 := hw _ (List.mem_of_getElem? (i := 63) rfl)
  have w_64 := hw _ (List.mem_of_getElem? (i := 64) rfl)
  have w_65 := hw _ (List.mem_of_getElem? (i := 65) rfl)
  have w_66 := hw _ (List.mem_of_getElem? (i := 66) rfl)
  have w_67 := hw _ (List.mem_of_getElem? (i := 67) rfl)
  have hci : ∀ i v, (i, v) ∈ ([(13, 65535)] : List (Nat × Int32)) → (Jvm.Cond.constant "com/example/kubera/kubera/FlowNetworkFlowPinLaw" i v).before #[(.long x0), (.long x1), (.long x2), (.long x3), (.long x4), (.int x5)] s = true := (own_ciS (mvT hZ w_2) own_ci0)
  have hcl : ∀ i v, (i, v) ∈ ([(7, 4294967295), (11, 9223372036854775807)] : List (Nat × Int64)) → (Jvm.Cond.constantLong "com/example/kubera/kubera/FlowNetworkFlowPinLaw" i v).before #[(.long x0), (.long x1), (.long x2), (.long x3), (.long x4), (.int x5)] s = true := (own_ciS (mvT hZ w_0) (own_ciS (mvT hZ w_1) own_ci0))
  have X0 : Stand p l e room_1 s m #[(.long x0), (.long x1), (.long x2), (.long x3), (.long x4), (.int x5)] below meth c s₁ [] 0 0 := Stand.of_body Bd
  have e0 : s₁.heap = h0 := by rw [← hh, Bd.state]; rfl
  have N0 := Fr.nil n0
  show Goes p e below s (QL (some (.int 1)) n0) room_1.cells room_1.slots (s₁.setTop (entryFrame m #[(.long x0), (.long x1), (.long x2), (.long x3), (.long x4), (.int x5)] maxLocals))
  refine Goes.cast (ef0 m x0 x1 x2 x3 x4 x5) ?_
  have hLK := own_lk3_ok hw
  have CX := Cx.mk hx hZ hown hci hcl hLK hby
  refine Goes.run X0 hx hown hci hcl hby (L := [(0, .lload_n 0, 1), (1, .ldc2_w 7, 3), (4, .land, 1), (5, .lstore 11, 2), (7, .lload_n 2, 1), (8, .ldc2_w 7, 3)]) (by decide +kernel) rfl (g' := (mkF m 11 #[jv x0, .second, jv x1, .second, jv x2, .second, jv x3, .second, jv x4, .second, iv x5, jv (w0_5 x0 x1 x2 x3 x4 x5), .second, .unset, .unset, .unset, .unset, .unset, .unset, .unset, .unset, .unset, .unset, .unset, .unset, .unset, .unset, .unset, .unset, .unset, .unset, .unset, .unset, .unset, .unset, .unset, .unset, .unset, .unset, .unset, .unset, .unset, .unset, .unset, .unset] [(.long 4294967295), (.long x1)])) rfl ?_
  refine Goes.run X0 hx hown hci hcl hby (L := [(11, .land, 1), (12, .lstore 13, 2), (14, .lload 4, 2), (16, .ldc2_w 7, 3), (19, .land, 1), (20, .lstore 15, 2)]) (by decide +kernel) rfl (g' := (mkF m 22 #[jv x0, .second, jv x1, .second, jv x2, .second, jv x3, .second, jv x4, .second, iv x5, jv (w0_5 x0 x1 x2 x3 x4 x5), .second, jv (w0_12 x0 x1 x2 x3 x4 x5), .second, jv (w0_20 x0 x1 x2 x3 x4 x5), .second, .unset, .unset, .unset, .unset, .unset, .unset, .unset, .unset, .unset, .unset, .unset, .unset, .unset, .unset, .unset, .unset, .unset, .unset, .unset, .unset, .unset, .unset, .unset, .unset, .unset, .unset, .unset, .unset] [])) rfl ?_
  refine Goes.run X0 hx hown hci hcl hby (L := [(22, .lload 6, 2), (24, .ldc2_w 7, 3), (27, .land, 1), (28, .lstore 17, 2), (30, .lload 8, 2), (32, .ldc2_w 11, 3)]) (by decide +kernel) rfl (g' := (mkF m 35 #[jv x0, .second, jv x1, .second, jv x2, .second, jv x3, .second, jv x4, .second, iv x5, jv (w0_5 x0 x1 x2 x3 x4 x5), .second, jv (w0_12 x0 x1 x2 x3 x4 x5), .second, jv (w0_20 x0 x1 x2 x3 x4 x5), .second, jv (w0_28 x0 x1 x2 x3 x4 x5), .second, .unset, .unset, .unset, .unset, .unset, .unset, .unset, .unset, .unset, .unset, .unset, .unset, .unset, .unset, .unset, .unset, .unset, .unset, .unset, .unset, .unset, .unset, .unset, .unset, .unset, .unset] [(.long 9223372036854775807), (.long x4)])) rfl ?_
  refine Goes.run X0 hx hown hci hcl hby (L := [(35, .land, 1), (36, .lload 13, 2), (38, .lload 17, 2), (40, .ladd, 1), (41, .lconst 1, 1), (42, .ladd, 1)]) (by decide +kernel) rfl (g' := (mkF m 43 #[jv x0, .second, jv x1, .second, jv x2, .second, jv x3, .second, jv x4, .second, iv x5, jv (w0_5 x0 x1 x2 x3 x4 x5), .second, jv (w0_12 x0 x1 x2 x3 x4 x5), .second, jv (w0_20 x0 x1 x2 x3 x4 x5), .second, jv (w0_28 x0 x1 x2 x3 x4 x5), .second, .unset, .unset, .unset, .unset, .unset, .unset, .unset, .unset, .unset, .unset, .unset, .unset, .unset, .unset, .unset, .unset, .unset, .unset, .unset, .unset, .unset, .unset, .unset, .unset, .unset, .unset] [(.long (((w0_12 x0 x1 x2 x3 x4 x5) + (w0_28 x0 x1 x2 x3 x4 x5)) + (1 : Int64))), (.long (x4 &&& (9223372036854775807 : Int64)))])) rfl ?_
  refine Goes.st (B := s₁.setTop (mkF m 44 #[jv x0, .second, jv x1, .second, jv x2, .second, jv x3, .second, jv x4, .second, iv x5, jv (w0_5 x0 x1 x2 x3 x4 x5), .second, jv (w0_12 x0 x1 x2 x3 x4 x5), .second, jv (w0_20 x0 x1 x2 x3 x4 x5), .second, jv (w0_28 x0 x1 x2 x3 x4 x5), .second, .unset, .unset, .unset, .unset, .unset, .unset, .unset, .unset, .unset, .unset, .unset, .unset, .unset, .unset, .unset, .unset, .unset, .unset, .unset, .unset, .unset, .unset, .unset, .unset, .unset, .unset] [(.long ((w0_43l x0 x1 x2 x3 x4 x5) - ((w0_43l x0 x1 x2 x3 x4 x5) / (w0_43r x0 x1 x2 x3 x4 x5)) * (w0_43r x0 x1 x2 x3 x4 x5)))])) (fun t k => ?_) ?_
  · refine XS.lrem X0.here hx rfl (hb hby at_43) rfl (own_nz x0 x1 x2 x3 x4 x5) ?_
    exact k
  refine Goes.run X0 hx hown hci hcl hby (L := [(44, .lstore 19, 2), (46, .lload 11, 2), (48, .lload 15, 2), (50, .ladd, 1), (51, .lload 19, 2), (53, .ladd, 1)]) (by decide +kernel) rfl (g' := (mkF m 54 #[jv x0, .second, jv x1, .second, jv x2, .second, jv x3, .second, jv x4, .second, iv x5, jv (w0_5 x0 x1 x2 x3 x4 x5), .second, jv (w0_12 x0 x1 x2 x3 x4 x5), .second, jv (w0_20 x0 x1 x2 x3 x4 x5), .second, jv (w0_28 x0 x1 x2 x3 x4 x5), .second, jv (w0_44 x0 x1 x2 x3 x4 x5), .second, .unset, .unset, .unset, .unset, .unset, .unset, .unset, .unset, .unset, .unset, .unset, .unset, .unset, .unset, .unset, .unset, .unset, .unset, .unset, .unset, .unset, .unset, .unset, .unset] [(.long (((w0_5 x0 x1 x2 x3 x4 x5) + (w0_20 x0 x1 x2 x3 x4 x5)) + (w0_44 x0 x1 x2 x3 x4 x5)))])) rfl ?_
  refine Goes.run X0 hx hown hci hcl hby (L := [(54, .lstore 21, 2), (56, .iload 10, 2), (58, .iconst 1, 1), (59, .iand, 1)]) (by decide +kernel) rfl (g' := (mkF m 60 #[jv x0, .second, jv x1, .second, jv x2, .second, jv x3, .second, jv x4, .second, iv x5, jv (w0_5 x0 x1 x2 x3 x4 x5), .second, jv (w0_12 x0 x1 x2 x3 x4 x5), .second, jv (w0_20 x0 x1 x2 x3 x4 x5), .second, jv (w0_28 x0 x1 x2 x3 x4 x5), .second, jv (w0_44 x0 x1 x2 x3 x4 x5), .second, jv (w0_54 x0 x1 x2 x3 x4 x5), .second, .unset, .unset, .unset, .unset, .unset, .unset, .unset, .unset, .unset, .unset, .unset, .unset, .unset, .unset, .unset, .unset, .unset, .unset, .unset, .unset, .unset, .unset] [(.int (x5 &&& (1 : Int32)))])) rfl ?_
  have jn68_2 : ∀ (T3 : State) (L3 : List Loc) (X3 : Stand p l e room_1 s m #[(.long x0), (.long x1), (.long x2), (.long x3), (.long x4), (.int x5)] below meth c T3 L3 0 0) (e3 : T3.heap = h0) (N3 : Fr n0 L3), Goes p e below s (QL (some (.int 1)) n0) room_1.cells room_1.slots (T3.setTop (mkF m 68 #[jv x0, .second, jv x1, .second, jv x2, .second, jv x3, .second, jv x4, .second, iv x5, jv (w0_5 x0 x1 x2 x3 x4 x5), .second, jv (w0_12 x0 x1 x2 x3 x4 x5), .second, jv (w0_20 x0 x1 x2 x3 x4 x5), .second, jv (w0_28 x0 x1 x2 x3 x4 x5), .second, jv (w0_44 x0 x1 x2 x3 x4 x5), .second, jv (w0_54 x0 x1 x2 x3 x4 x5), .second, .unset, .unset, .unset, .unset, .unset, .unset, .unset, .unset, .unset, .unset, .unset, .unset, .unset, .unset, .unset, .unset, .unset, .unset, .unset, .unset, .unset, .unset] [(.int (j0_68_s0 x0 x1 x2 x3 x4 x5))])) := by
    intro T3 L3 X3 e3 N3
    refine Goes.run X3 hx hown hci hcl hby (L := [(68, .istore 23, 2), (70, .iload 10, 2), (72, .iconst 1, 1), (73, .iushr, 1), (74, .ldc 13, 2), (76, .iand, 1)]) (by decide +kernel) rfl (g' := (mkF m 77 #[jv x0, .second, jv x1, .second, jv x2, .second, jv x3, .second, jv x4, .second, iv x5, jv (w0_5 x0 x1 x2 x3 x4 x5), .second, jv (w0_12 x0 x1 x2 x3 x4 x5), .second, jv (w0_20 x0 x1 x2 x3 x4 x5), .second, jv (w0_28 x0 x1 x2 x3 x4 x5), .second, jv (w0_44 x0 x1 x2 x3 x4 x5), .second, jv (w0_54 x0 x1 x2 x3 x4 x5), .second, iv (j0_68_s0 x0 x1 x2 x3 x4 x5), .unset, .unset, .unset, .unset, .unset, .unset, .unset, .unset, .unset, .unset, .unset, .unset, .unset, .unset, .unset, .unset, .unset, .unset, .unset, .unset, .unset] [(.int (((x5.toUInt32 >>> ((1 : Int32) &&& 31).toUInt32).toInt32) &&& (65535 : Int32)))])) rfl ?_
    refine Goes.run X3 hx hown hci hcl hby (L := [(77, .i2l, 1), (78, .lstore 24, 2), (80, .lload 24, 2), (82, .lconst 1, 1), (83, .ladd, 1), (84, .iload 10, 2)]) (by decide +kernel) rfl (g' := (mkF m 86 #[jv x0, .second, jv x1, .second, jv x2, .second, jv x3, .second, jv x4, .second, iv x5, jv (w0_5 x0 x1 x2 x3 x4 x5), .second, jv (w0_12 x0 x1 x2 x3 x4 x5), .second, jv (w0_20 x0 x1 x2 x3 x4 x5), .second, jv (w0_28 x0 x1 x2 x3 x4 x5), .second, jv (w0_44 x0 x1 x2 x3 x4 x5), .second, jv (w0_54 x0 x1 x2 x3 x4 x5), .second, iv (j0_68_s0 x0 x1 x2 x3 x4 x5), jv (w0_78 x0 x1 x2 x3 x4 x5), .second, .unset, .unset, .unset, .unset, .unset, .unset, .unset, .unset, .unset, .unset, .unset, .unset, .unset, .unset, .unset, .unset, .unset, .unset, .unset] [(.int x5), (.long ((w0_78 x0 x1 x2 x3 x4 x5) + (1 : Int64)))])) rfl ?_
    refine Goes.run X3 hx hown hci hcl hby (L := [(86, .bipush 17, 2), (88, .iushr, 1), (89, .sipush 16383, 3), (92, .iand, 1), (93, .i2l, 1), (94, .ladd, 1)]) (by decide +kernel) rfl (g' := (mkF m 95 #[jv x0, .second, jv x1, .second, jv x2, .second, jv x3, .second, jv x4, .second, iv x5, jv (w0_5 x0 x1 x2 x3 x4 x5), .second, jv (w0_12 x0 x1 x2 x3 x4 x5), .second, jv (w0_20 x0 x1 x2 x3 x4 x5), .second, jv (w0_28 x0 x1 x2 x3 x4 x5), .second, jv (w0_44 x0 x1 x2 x3 x4 x5), .second, jv (w0_54 x0 x1 x2 x3 x4 x5), .second, iv (j0_68_s0 x0 x1 x2 x3 x4 x5), jv (w0_78 x0 x1 x2 x3 x4 x5), .second, .unset, .unset, .unset, .unset, .unset, .unset, .unset, .unset, .unset, .unset, .unset, .unset, .unset, .unset, .unset, .unset, .unset, .unset, .unset] [(.long (((w0_78 x0 x1 x2 x3 x4 x5) + (1 : Int64)) + ((((x5.toUInt32 >>> ((17 : Int32) &&& 31).toUInt32).toInt32) &&& (16383 : Int32)).toInt64)))])) rfl ?_
    refine Goes.run X3 hx hown hci hcl hby (L := [(95, .lstore 26, 2), (97, .iload 23, 2)]) (by decide +kernel) rfl (g' := (mkF m 99 #[jv x0, .second, jv x1, .second, jv x2, .second, jv x3, .second, jv x4, .second, iv x5, jv (w0_5 x0 x1 x2 x3 x4 x5), .second, jv (w0_12 x0 x1 x2 x3 x4 x5), .second, jv (w0_20 x0 x1 x2 x3 x4 x5), .second, jv (w0_28 x0 x1 x2 x3 x4 x5), .second, jv (w0_44 x0 x1 x2 x3 x4 x5), .second, jv (w0_54 x0 x1 x2 x3 x4 x5), .second, iv (j0_68_s0 x0 x1 x2 x3 x4 x5), jv (w0_78 x0 x1 x2 x3 x4 x5), .second, jv (w0_95 x0 x1 x2 x3 x4 x5), .second, .unset, .unset, .unset, .unset, .unset, .unset, .unset, .unset, .unset, .unset, .unset, .unset, .unset, .unset, .unset, .unset, .unset] [(.int (j0_68_s0 x0 x1 x2 x3 x4 x5))])) rfl ?_
    have jn109_5 : ∀ (T6 : State) (L6 : List Loc) (X6 : Stand p l e room_1 s m #[(.long x0), (.long x1), (.long x2), (.long x3), (.long x4), (.int x5)] below meth c T6 L6 0 0) (e6 : T6.heap = h0) (N6 : Fr n0 L6), Goes p e below s (QL (some (.int 1)) n0) room_1.cells room_1.slots (T6.setTop (mkF m 109 #[jv x0, .second, jv x1, .second, jv x2, .second, jv x3, .second, jv x4, .second, iv x5, jv (w0_5 x0 x1 x2 x3 x4 x5), .second, jv (w0_12 x0 x1 x2 x3 x4 x5), .second, jv (w0_20 x0 x1 x2 x3 x4 x5), .second, jv (w0_28 x0 x1 x2 x3 x4 x5), .second, jv (w0_44 x0 x1 x2 x3 x4 x5), .second, jv (w0_54 x0 x1 x2 x3 x4 x5), .second, iv (j0_68_s0 x0 x1 x2 x3 x4 x5), jv (w0_78 x0 x1 x2 x3 x4 x5), .second, jv (w0_95 x0 x1 x2 x3 x4 x5), .second, .unset, .unset, .unset, .unset, .unset, .unset, .unset, .unset, .unset, .unset, .unset, .unset, .unset, .unset, .unset, .unset, .unset] [(.long (j0_109_s0 x0 x1 x2 x3 x4 x5))])) := by
      intro T6 L6 X6 e6 N6
      refine Goes.run X6 hx hown hci hcl hby (L := [(109, .lstore 28, 2), (111, .iload 23, 2)]) (by decide +kernel) rfl (g' := (mkF m 113 #[jv x0, .second, jv x1, .second, jv x2, .second, jv x3, .second, jv x4, .second, iv x5, jv (w0_5 x0 x1 x2 x3 x4 x5), .second, jv (w0_12 x0 x1 x2 x3 x4 x5), .second, jv (w0_20 x0 x1 x2 x3 x4 x5), .second, jv (w0_28 x0 x1 x2 x3 x4 x5), .second, jv (w0_44 x0 x1 x2 x3 x4 x5), .second, jv (w0_54 x0 x1 x2 x3 x4 x5), .second, iv (j0_68_s0 x0 x1 x2 x3 x4 x5), jv (w0_78 x0 x1 x2 x3 x4 x5), .second, jv (w0_95 x0 x1 x2 x3 x4 x5), .second, jv (j0_109_s0 x0 x1 x2 x3 x4 x5), .second, .unset, .unset, .unset, .unset, .unset, .unset, .unset, .unset, .unset, .unset, .unset, .unset, .unset, .unset, .unset] [(.int (j0_68_s0 x0 x1 x2 x3 x4 x5))])) rfl ?_
      have jn123_8 : ∀ (T9 : State) (L9 : List Loc) (X9 : Stand p l e room_1 s m #[(.long x0), (.long x1), (.long x2), (.long x3), (.long x4), (.int x5)] below meth c T9 L9 0 0) (e9 : T9.heap = h0) (N9 : Fr n0 L9), Goes p e below s (QL (some (.int 1)) n0) room_1.cells room_1.slots (T9.setTop (mkF m 123 #[jv x0, .second, jv x1, .second, jv x2, .second, jv x3, .second, jv x4, .second, iv x5, jv (w0_5 x0 x1 x2 x3 x4 x5), .second, jv (w0_12 x0 x1 x2 x3 x4 x5), .second, jv (w0_20 x0 x1 x2 x3 x4 x5), .second, jv (w0_28 x0 x1 x2 x3 x4 x5), .second, jv (w0_44 x0 x1 x2 x3 x4 x5), .second, jv (w0_54 x0 x1 x2 x3 x4 x5), .second, iv (j0_68_s0 x0 x1 x2 x3 x4 x5), jv (w0_78 x0 x1 x2 x3 x4 x5), .second, jv (w0_95 x0 x1 x2 x3 x4 x5), .second, jv (j0_109_s0 x0 x1 x2 x3 x4 x5), .second, .unset, .unset, .unset, .unset, .unset, .unset, .unset, .unset, .unset, .unset, .unset, .unset, .unset, .unset, .unset] [(.long (j0_123_s0 x0 x1 x2 x3 x4 x5))])) := by
        intro T9 L9 X9 e9 N9
        refine Goes.run X9 hx hown hci hcl hby (L := [(123, .lstore 30, 2)]) (by decide +kernel) rfl (g' := (mkF m 125 #[jv x0, .second, jv x1, .second, jv x2, .second, jv x3, .second, jv x4, .second, iv x5, jv (w0_5 x0 x1 x2 x3 x4 x5), .second, jv (w0_12 x0 x1 x2 x3 x4 x5), .second, jv (w0_20 x0 x1 x2 x3 x4 x5), .second, jv (w0_28 x0 x1 x2 x3 x4 x5), .second, jv (w0_44 x0 x1 x2 x3 x4 x5), .second, jv (w0_54 x0 x1 x2 x3 x4 x5), .second, iv (j0_68_s0 x0 x1 x2 x3 x4 x5), jv (w0_78 x0 x1 x2 x3 x4 x5), .second, jv (w0_95 x0 x1 x2 x3 x4 x5), .second, jv (j0_109_s0 x0 x1 x2 x3 x4 x5), .second, jv (j0_123_s0 x0 x1 x2 x3 x4 x5), .second, .unset, .unset, .unset, .unset, .unset, .unset, .unset, .unset, .unset, .unset, .unset, .unset, .unset] [])) rfl ?_
        have HH := own_HH x0 x1 x2 x3 x4 x5
        generalize (w0_5 x0 x1 x2 x3 x4 x5) = la at HH ⊢
        generalize (w0_12 x0 x1 x2 x3 x4 x5) = da at HH ⊢
        generalize (w0_20 x0 x1 x2 x3 x4 x5) = lb at HH ⊢
        generalize (w0_28 x0 x1 x2 x3 x4 x5) = db at HH ⊢
        generalize (w0_44 x0 x1 x2 x3 x4 x5) = ee at HH ⊢
        generalize (w0_54 x0 x1 x2 x3 x4 x5) = ss at HH ⊢
        generalize (j0_68_s0 x0 x1 x2 x3 x4 x5) = ac at HH ⊢
        generalize (w0_78 x0 x1 x2 x3 x4 x5) = gc at HH ⊢
        generalize (w0_95 x0 x1 x2 x3 x4 x5) = gd at HH ⊢
        generalize (j0_109_s0 x0 x1 x2 x3 x4 x5) = ca at HH ⊢
        generalize (j0_123_s0 x0 x1 x2 x3 x4 x5) = cb at HH ⊢
        obtain ⟨T10, h10, X10, e10, E10, A10, D10, -, st10⟩ := newO X9 hx hZ hown w_3 w_4 w_5 e9 (g := (mkF m 125 #[jv x0, .second, jv x1, .second, jv x2, .second, jv x3, .second, jv x4, .second, iv x5, jv la, .second, jv da, .second, jv lb, .second, jv db, .second, jv ee, .second, jv ss, .second, iv ac, jv gc, .second, jv gd, .second, jv ca, .second, jv cb, .second, .unset, .unset, .unset, .unset, .unset, .unset, .unset, .unset, .unset, .unset, .unset, .unset, .unset] [])) rfl (hb hby at_125) (by decide) (by decide)
        obtain ⟨b10, g10⟩ : ∃ z, z = h0.size := ⟨_, rfl⟩
        rw [← g10] at A10 D10 st10
        have g_b10 : n0 ≤ b10 := Nat.le_trans Z0 (Nat.le_of_eq g10.symm)
        have Zn10 : n0 ≤ h10.size := Nat.le_trans Z0 E10.1
        have E_b10 : Exa Z h10 b10 "com/example/kubera/kubera/FlowNetwork" := A10
        have F_heads_b10 : Fld Z h10 b10 "com/example/kubera/kubera/FlowNetwork" "heads" "[I" .null := D10 (Or.inl w_14) (ty := (.array .int)) (by decide)
        have F_nextArcs_b10 : Fld Z h10 b10 "com/example/kubera/kubera/FlowNetwork" "nextArcs" "[I" .null := D10 (Or.inl w_16) (ty := (.array .int)) (by decide)
        have F_capacities_b10 : Fld Z h10 b10 "com/example/kubera/kubera/FlowNetwork" "capacities" "[J" .null := D10 (Or.inl w_19) (ty := (.array .long)) (by decide)
        have F_costs_b10 : Fld Z h10 b10 "com/example/kubera/kubera/FlowNetwork" "costs" "[J" .null := D10 (Or.inl w_21) (ty := (.array .long)) (by decide)
        have F_lowers_b10 : Fld Z h10 b10 "com/example/kubera/kubera/FlowNetwork" "lowers" "[J" .null := D10 (Or.inl w_23) (ty := (.array .long)) (by decide)
        have F_nodes_b10 : Fld Z h10 b10 "com/example/kubera/kubera/FlowNetwork" "nodes" "I" (.int 0) := D10 (Or.inr w_25) (ty := .int) (by decide)
        have F_source_b10 : Fld Z h10 b10 "com/example/kubera/kubera/FlowNetwork" "source" "I" (.int 0) := D10 (Or.inr w_27) (ty := .int) (by decide)
        have F_sink_b10 : Fld Z h10 b10 "com/example/kubera/kubera/FlowNetwork" "sink" "I" (.int 0) := D10 (Or.inr w_29) (ty := .int) (by decide)
        have F_supplies_b10 : Fld Z h10 b10 "com/example/kubera/kubera/FlowNetwork" "supplies" "[J" .null := D10 (Or.inr w_31) (ty := (.array .long)) (by decide)
        have F_firstArcs_b10 : Fld Z h10 b10 "com/example/kubera/kubera/FlowNetwork" "firstArcs" "[I" .null := D10 (Or.inr w_33) (ty := (.array .int)) (by decide)
        have F_arcs_b10 : Fld Z h10 b10 "com/example/kubera/kubera/FlowNetwork" "arcs" "I" (.int 0) := D10 (Or.inl w_44) (ty := .int) (by decide)
        refine Goes.st st10 ?_
        refine Goes.run X10 hx hown hci hcl hby (L := [(128, .dup, 1), (129, .iconst 2, 1)]) (by decide +kernel) rfl (g' := (mkF m 130 #[jv x0, .second, jv x1, .second, jv x2, .second, jv x3, .second, jv x4, .second, iv x5, jv la, .second, jv da, .second, jv lb, .second, jv db, .second, jv ee, .second, jv ss, .second, iv ac, jv gc, .second, jv gd, .second, jv ca, .second, jv cb, .second, .unset, .unset, .unset, .unset, .unset, .unset, .unset, .unset, .unset, .unset, .unset, .unset, .unset] [(.int 2), (.ref b10), (.ref b10)])) rfl ?_
        obtain ⟨_, _, ⟨T11, L11, k11, n11⟩, -, X11, ⟨Lc11, hQ11, l11, y11, z11⟩, st11⟩ := X10.specialBack hx (y := ym13) rfl hown (mvT hZ w_6) (mvT hZ w_7) (mvT hZ w_8) (by decide) (backOf (W := 1) (rmN l Z a0 hw [] b10 h10 n0 Zn10 E_b10 F_nodes_b10 F_source_b10 F_sink_b10 F_supplies_b10 F_firstArcs_b10 F_arcs_b10 F_heads_b10 F_nextArcs_b10 F_capacities_b10 F_costs_b10 F_lowers_b10 g_b10) hZ w_8 w_5 (by decide) (by decide)) (g := (mkF m 130 #[jv x0, .second, jv x1, .second, jv x2, .second, jv x3, .second, jv x4, .second, iv x5, jv la, .second, jv da, .second, jv lb, .second, jv db, .second, jv ee, .second, jv ss, .second, iv ac, jv gc, .second, jv gd, .second, jv ca, .second, jv cb, .second, .unset, .unset, .unset, .unset, .unset, .unset, .unset, .unset, .unset, .unset, .unset, .unset, .unset] [(.int 2), (.ref b10), (.ref b10)])) rfl (by rw [hml]; rfl) (Steps.refl _) (a := b10) (argsL := [(.int 2)]) (rest := [(.ref b10)]) (lenOf pd0_0 rfl) rfl (by show 2 * 0 + _ ≤ _; exact Nat.le_of_eq rfl) (hb hby at_130) (fun _ _ => ⟨rfl, e10, (by decide : 1 + 7 ≤ _), (by decide : 11 + 80 ≤ _)⟩)
        dsimp only [Pt.U, Pt.locs, Pt.cells, Pt.slots] at X11 l11 y11 z11 st11 hQ11
        subst l11 y11 z11
        obtain ⟨h11, eh11⟩ : ∃ z, z = T11.heap := ⟨_, rfl⟩
        rw [← eh11] at hQ11
        have e11 : T11.heap = h11 := eh11.symm
        obtain ⟨hd11, nx11, cp11, co11, lo11, su11, fa11, k_hd11, k_nx11, k_cp11, k_co11, k_lo11, k_su11, k_fa11, rfl, N11q, Kq11, sq_hd11, sq_nx11, sq_cp11, sq_co11, sq_lo11, sq_su11, sq_fa11, nq11_0_1, nq11_0_2, nq11_0_3, nq11_0_4, nq11_0_5, nq11_0_6, nq11_1_2, nq11_1_3, nq11_1_4, nq11_1_5, nq11_1_6, nq11_2_3, nq11_2_4, nq11_2_5, nq11_2_6, nq11_3_4, nq11_3_5, nq11_3_6, nq11_4_5, nq11_4_6, nq11_5_6, o11_0, o11_1, o11_2, o11_3, o11_4, o11_5, o11_6, o11_7, o11_8, o11_9, o11_10, o11_11, o11_12, o11_13, o11_14, o11_15, o11_16, o11_17, o11_18⟩ := hQ11
        have ne_b10_hd11 : b10 ≠ hd11 := Nat.ne_of_lt (Nat.lt_of_lt_of_le E_b10.lt sq_hd11)
        have g_hd11 : n0 ≤ hd11 := Nat.le_trans Zn10 sq_hd11
        have ne_b10_nx11 : b10 ≠ nx11 := Nat.ne_of_lt (Nat.lt_of_lt_of_le E_b10.lt sq_nx11)
        have g_nx11 : n0 ≤ nx11 := Nat.le_trans Zn10 sq_nx11
        have ne_b10_cp11 : b10 ≠ cp11 := Nat.ne_of_lt (Nat.lt_of_lt_of_le E_b10.lt sq_cp11)
        have g_cp11 : n0 ≤ cp11 := Nat.le_trans Zn10 sq_cp11
        have ne_b10_co11 : b10 ≠ co11 := Nat.ne_of_lt (Nat.lt_of_lt_of_le E_b10.lt sq_co11)
        have g_co11 : n0 ≤ co11 := Nat.le_trans Zn10 sq_co11
        have ne_b10_lo11 : b10 ≠ lo11 := Nat.ne_of_lt (Nat.lt_of_lt_of_le E_b10.lt sq_lo11)
        have g_lo11 : n0 ≤ lo11 := Nat.le_trans Zn10 sq_lo11
        have ne_b10_su11 : b10 ≠ su11 := Nat.ne_of_lt (Nat.lt_of_lt_of_le E_b10.lt sq_su11)
        have g_su11 : n0 ≤ su11 := Nat.le_trans Zn10 sq_su11
        have ne_b10_fa11 : b10 ≠ fa11 := Nat.ne_of_lt (Nat.lt_of_lt_of_le E_b10.lt sq_fa11)
        have g_fa11 : n0 ≤ fa11 := Nat.le_trans Zn10 sq_fa11
        have N11 := Fr.app N9 N11q
        have Zn11 : n0 ≤ h11.size := Nat.le_trans Zn10 Kq11.1
        have E_b10 : Exa Z h11 b10 "com/example/kubera/kubera/FlowNetwork" := o11_0
        have F_nodes_b10 : Fld Z h11 b10 "com/example/kubera/kubera/FlowNetwork" "nodes" "I" (.int 4) := o11_1
        have F_source_b10 : Fld Z h11 b10 "com/example/kubera/kubera/FlowNetwork" "source" "I" (.int 2) := o11_2
        have F_sink_b10 : Fld Z h11 b10 "com/example/kubera/kubera/FlowNetwork" "sink" "I" (.int 3) := o11_3
        have F_supplies_b10 : Fld Z h11 b10 "com/example/kubera/kubera/FlowNetwork" "supplies" "[J" (.ref su11) := o11_4
        have F_firstArcs_b10 : Fld Z h11 b10 "com/example/kubera/kubera/FlowNetwork" "firstArcs" "[I" (.ref fa11) := o11_5
        have F_arcs_b10 : Fld Z h11 b10 "com/example/kubera/kubera/FlowNetwork" "arcs" "I" (.int 0) := o11_6
        have F_heads_b10 : Fld Z h11 b10 "com/example/kubera/kubera/FlowNetwork" "heads" "[I" (.ref hd11) := o11_7
        have F_nextArcs_b10 : Fld Z h11 b10 "com/example/kubera/kubera/FlowNetwork" "nextArcs" "[I" (.ref nx11) := o11_8
        have F_capacities_b10 : Fld Z h11 b10 "com/example/kubera/kubera/FlowNetwork" "capacities" "[J" (.ref cp11) := o11_9
        have F_costs_b10 : Fld Z h11 b10 "com/example/kubera/kubera/FlowNetwork" "costs" "[J" (.ref co11) := o11_10
        have F_lowers_b10 : Fld Z h11 b10 "com/example/kubera/kubera/FlowNetwork" "lowers" "[J" (.ref lo11) := o11_11
        have V_hd11 : Arv Z h11 hd11 k_hd11 .int (16 : Int32) [(.int 0), (.int 0), (.int 0), (.int 0), (.int 0), (.int 0), (.int 0), (.int 0)] (.int 0) := o11_12
        have V_nx11 : Arv Z h11 nx11 k_nx11 .int (16 : Int32) [(.int 0), (.int 0), (.int 0), (.int 0), (.int 0), (.int 0), (.int 0), (.int 0)] (.int 0) := o11_13
        have V_cp11 : Arv Z h11 cp11 k_cp11 .long (16 : Int32) [(.long 0), (.long 0), (.long 0), (.long 0), (.long 0), (.long 0), (.long 0), (.long 0)] (.long 0) := o11_14
        have V_co11 : Arv Z h11 co11 k_co11 .long (16 : Int32) [(.long 0), (.long 0), (.long 0), (.long 0), (.long 0), (.long 0), (.long 0), (.long 0)] (.long 0) := o11_15
        have V_lo11 : Arv Z h11 lo11 k_lo11 .long (8 : Int32) [(.long 0), (.long 0), (.long 0), (.long 0)] (.long 0) := o11_16
        have V_su11 : Arv Z h11 su11 k_su11 .long (4 : Int32) [(.long 0), (.long 0), (.long 0), (.long 0)] (.long 0) := o11_17
        have V_fa11 : Arv Z h11 fa11 k_fa11 .int (4 : Int32) [(.int (-1)), (.int (-1)), (.int (-1)), (.int (-1))] (.int (0 : Int32)) := o11_18
        refine Goes.st (fun t k => st11.trans k) ?_
        refine Goes.run X11 hx hown hci hcl hby (L := [(133, .astore 32, 2), (135, .aload 32, 2), (137, .iconst 0, 1), (138, .iconst 1, 1), (139, .lload 11, 2), (141, .lload 11, 2)]) (by decide +kernel) rfl (g' := (mkF m 143 #[jv x0, .second, jv x1, .second, jv x2, .second, jv x3, .second, jv x4, .second, iv x5, jv la, .second, jv da, .second, jv lb, .second, jv db, .second, jv ee, .second, jv ss, .second, iv ac, jv gc, .second, jv gd, .second, jv ca, .second, jv cb, .second, rv b10, .unset, .unset, .unset, .unset, .unset, .unset, .unset, .unset, .unset, .unset, .unset, .unset] [(.long la), (.long la), (.int 1), (.int 0), (.ref b10)])) rfl ?_
        refine Goes.run X11 hx hown hci hcl hby (L := [(143, .lload 13, 2), (145, .ladd, 1), (146, .lload 28, 2)]) (by decide +kernel) rfl (g' := (mkF m 148 #[jv x0, .second, jv x1, .second, jv x2, .second, jv x3, .second, jv x4, .second, iv x5, jv la, .second, jv da, .second, jv lb, .second, jv db, .second, jv ee, .second, jv ss, .second, iv ac, jv gc, .second, jv gd, .second, jv ca, .second, jv cb, .second, rv b10, .unset, .unset, .unset, .unset, .unset, .unset, .unset, .unset, .unset, .unset, .unset, .unset] [(.long ca), (.long (c0_148_1 la da lb db ee ss ac gc gd ca cb)), (.long la), (.int 1), (.int 0), (.ref b10)])) rfl ?_
        obtain ⟨cq12, kq12, q12a, q12b, q12c⟩ := isOf hZ e11 E_b10
        obtain ⟨_, _, ⟨T12, L12, k12, n12⟩, -, X12, ⟨Lc12, hQ12, l12, y12, z12⟩, st12⟩ := X11.virtualBack hx (y := ym12) (z := ym12) hown (mvT hZ w_38) (mvT hZ w_39) (notFace_of_selects (args := #[]) (mvT hZ w_41)) (mvT hZ w_41) (mvT hZ w_40) (by decide) (backOf (W := 0) (rmJ l Z a0 hw [] b10 (0 : Int32) (1 : Int32) la (c0_148_1 la da lb db ee ss ac gc gd ca cb) ca hd11 cp11 co11 nx11 fa11 k_hd11 k_cp11 k_co11 k_nx11 k_fa11 [(.int 0), (.int 0), (.int 0), (.int 0), (.int 0), (.int 0), (.int 0), (.int 0)] [(.int 0), (.int 0), (.int 0), (.int 0), (.int 0), (.int 0), (.int 0), (.int 0)] [(.long 0), (.long 0), (.long 0), (.long 0), (.long 0), (.long 0), (.long 0), (.long 0)] [(.long 0), (.long 0), (.long 0), (.long 0), (.long 0), (.long 0), (.long 0), (.long 0)] [(.int (-1)), (.int (-1)), (.int (-1)), (.int (-1))] [(.long 0), (.long 0), (.long 0), (.long 0)] [(.long 0), (.long 0), (.long 0), (.long 0)] lo11 su11 k_lo11 k_su11 (0 : Int32) (-1 : Int32) (-1 : Int32) (0 : Int64) (0 : Int64) 0 1 0 0 1 h11 n0 Zn11 E_b10 F_nodes_b10 F_source_b10 F_sink_b10 F_arcs_b10 F_heads_b10 F_capacities_b10 F_costs_b10 F_nextArcs_b10 F_firstArcs_b10 V_hd11 V_cp11 V_co11 V_nx11 V_fa11 F_lowers_b10 F_supplies_b10 V_lo11 V_su11 g_b10 g_hd11 g_cp11 g_co11 g_nx11 g_fa11 g_lo11 g_su11 ne_b10_hd11 ne_b10_cp11 ne_b10_co11 ne_b10_nx11 ne_b10_fa11 ne_b10_lo11 ne_b10_su11 nq11_0_2 nq11_0_3 nq11_0_1 nq11_0_6 nq11_0_4 nq11_0_5 nq11_2_3 (Ne.symm nq11_1_2) nq11_2_6 nq11_2_4 nq11_2_5 (Ne.symm nq11_1_3) nq11_3_6 nq11_3_4 nq11_3_5 nq11_1_6 nq11_1_4 nq11_1_5 (Ne.symm nq11_4_6) (Ne.symm nq11_5_6) nq11_4_5 rfl (by decide) (by decide) rfl (by decide) (by decide) rfl (by decide) (by decide) rfl (by decide) (by decide) rfl (by decide) (by decide) (Nat.le_of_ble_eq_true rfl) (Nat.le_of_ble_eq_true rfl) rfl rfl rfl rfl (Nat.le_of_ble_eq_true rfl) (Nat.le_of_ble_eq_true rfl) (Nat.le_of_ble_eq_true rfl) (Nat.le_of_ble_eq_true rfl) (Nat.le_of_ble_eq_true rfl) rfl rfl rfl rfl (own_w1_0 HH) (own_w2_0 HH) (own_w3_0 HH)) hZ w_42 w_5 (by decide) (by decide)) q12a q12c (g := (mkF m 148 #[jv x0, .second, jv x1, .second, jv x2, .second, jv x3, .second, jv x4, .second, iv x5, jv la, .second, jv da, .second, jv lb, .second, jv db, .second, jv ee, .second, jv ss, .second, iv ac, jv gc, .second, jv gd, .second, jv ca, .second, jv cb, .second, rv b10, .unset, .unset, .unset, .unset, .unset, .unset, .unset, .unset, .unset, .unset, .unset, .unset] [(.long ca), (.long (c0_148_1 la da lb db ee ss ac gc gd ca cb)), (.long la), (.int 1), (.int 0), (.ref b10)])) rfl (by rw [hml]; rfl) (Steps.refl _) (argsL := [(.int 0), (.int 1), (.long la), (.long (c0_148_1 la da lb db ee ss ac gc gd ca cb)), (.long ca)]) (rest := []) (lenOf pd0_1 rfl) rfl (by show 2 * 0 + _ ≤ _; exact Nat.le_of_eq rfl) (hb hby at_148) (fun _ _ => ⟨rfl, e11, (by decide : 8 + 0 ≤ _), (by decide : 91 + 0 ≤ _)⟩)
        dsimp only [Pt.U, Pt.locs, Pt.cells, Pt.slots] at X12 l12 y12 z12 st12 hQ12
        subst l12 y12 z12
        obtain ⟨h12, eh12⟩ : ∃ z, z = T12.heap := ⟨_, rfl⟩
        rw [← eh12] at hQ12
        have e12 : T12.heap = h12 := eh12.symm
        obtain ⟨rfl, N12q, Kq12, o12_0, o12_1, o12_2, o12_3, o12_4, o12_5, o12_6, o12_7, o12_8, o12_9, o12_10, o12_11, o12_12, o12_13, o12_14, o12_15, o12_16, o12_17, o12_18⟩ := hQ12
        have N12 := Fr.app N11 N12q
        have E_b10 : Exa Z h12 b10 "com/example/kubera/kubera/FlowNetwork" := o12_0
        have F_arcs_b10 : Fld Z h12 b10 "com/example/kubera/kubera/FlowNetwork" "arcs" "I" (.int (o0_148_1 la da lb db ee ss ac gc gd ca cb)) := o12_1
        have F_nodes_b10 : Fld Z h12 b10 "com/example/kubera/kubera/FlowNetwork" "nodes" "I" (.int 4) := o12_2
        have F_source_b10 : Fld Z h12 b10 "com/example/kubera/kubera/FlowNetwork" "source" "I" (.int 2) := o12_3
        have F_sink_b10 : Fld Z h12 b10 "com/example/kubera/kubera/FlowNetwork" "sink" "I" (.int 3) := o12_4
        have F_heads_b10 : Fld Z h12 b10 "com/example/kubera/kubera/FlowNetwork" "heads" "[I" (.ref hd11) := o12_5
        have F_capacities_b10 : Fld Z h12 b10 "com/example/kubera/kubera/FlowNetwork" "capacities" "[J" (.ref cp11) := o12_6
        have F_costs_b10 : Fld Z h12 b10 "com/example/kubera/kubera/FlowNetwork" "costs" "[J" (.ref co11) := o12_7
        have F_nextArcs_b10 : Fld Z h12 b10 "com/example/kubera/kubera/FlowNetwork" "nextArcs" "[I" (.ref nx11) := o12_8
        have F_firstArcs_b10 : Fld Z h12 b10 "com/example/kubera/kubera/FlowNetwork" "firstArcs" "[I" (.ref fa11) := o12_9
        have F_lowers_b10 : Fld Z h12 b10 "com/example/kubera/kubera/FlowNetwork" "lowers" "[J" (.ref lo11) := o12_10
        have F_supplies_b10 : Fld Z h12 b10 "com/example/kubera/kubera/FlowNetwork" "supplies" "[J" (.ref su11) := o12_11
        have V_hd11 : Arv Z h12 hd11 k_hd11 .int (16 : Int32) (([(.int 0), (.int 0), (.int 0), (.int 0), (.int 0), (.int 0), (.int 0), (.int 0)].set 0 (.int (1 : Int32))).set 1 (.int (0 : Int32))) (.int (0 : Int32)) := o12_12
        have V_cp11 : Arv Z h12 cp11 k_cp11 .long (16 : Int32) (([(.long 0), (.long 0), (.long 0), (.long 0), (.long 0), (.long 0), (.long 0), (.long 0)].set 0 (.long (cJ_160_1 (0 : Int32) (1 : Int32) la (c0_148_1 la da lb db ee ss ac gc gd ca cb) ca (0 : Int32) (-1 : Int32) (-1 : Int32) (0 : Int64) (0 : Int64)))).set 1 (.long (0 : Int64))) (.long (0 : Int64)) := o12_13
        have V_co11 : Arv Z h12 co11 k_co11 .long (16 : Int32) (([(.long 0), (.long 0), (.long 0), (.long 0), (.long 0), (.long 0), (.long 0), (.long 0)].set 0 (.long ca)).set 1 (.long (cJ_176_0 (0 : Int32) (1 : Int32) la (c0_148_1 la da lb db ee ss ac gc gd ca cb) ca (0 : Int32) (-1 : Int32) (-1 : Int32) (0 : Int64) (0 : Int64)))) (.long (0 : Int64)) := o12_14
        have V_nx11 : Arv Z h12 nx11 k_nx11 .int (16 : Int32) (([(.int 0), (.int 0), (.int 0), (.int 0), (.int 0), (.int 0), (.int 0), (.int 0)].set 0 (.int (-1 : Int32))).set 1 (.int (-1 : Int32))) (.int (0 : Int32)) := o12_15
        have V_fa11 : Arv Z h12 fa11 k_fa11 .int (4 : Int32) (([(.int (-1)), (.int (-1)), (.int (-1)), (.int (-1))].set 0 (.int (cJ_160_4 (0 : Int32) (1 : Int32) la (c0_148_1 la da lb db ee ss ac gc gd ca cb) ca (0 : Int32) (-1 : Int32) (-1 : Int32) (0 : Int64) (0 : Int64)))).set 1 (.int (cJ_176_4 (0 : Int32) (1 : Int32) la (c0_148_1 la da lb db ee ss ac gc gd ca cb) ca (0 : Int32) (-1 : Int32) (-1 : Int32) (0 : Int64) (0 : Int64)))) (.int (0 : Int32)) := o12_16
        have V_lo11 : Arv Z h12 lo11 k_lo11 .long (8 : Int32) ([(.long 0), (.long 0), (.long 0), (.long 0)].set 0 (.long la)) (.long (0 : Int64)) := o12_17
        have V_su11 : Arv Z h12 su11 k_su11 .long (4 : Int32) (([(.long 0), (.long 0), (.long 0), (.long 0)].set 0 (.long ((0 : Int64) - la))).set 1 (.long ((0 : Int64) + la))) (.long (0 : Int64)) := o12_18
        have Zn12 : n0 ≤ h12.size := Nat.le_trans Zn11 Kq12.1
        refine Goes.st (fun t k => st12.trans k) ?_
        have F_arcs_b10 : Fld Z h12 b10 "com/example/kubera/kubera/FlowNetwork" "arcs" "I" (.int 1) := F_arcs_b10
        have V_hd11 : Arv Z h12 hd11 k_hd11 .int (16 : Int32) [(.int 1), (.int 0), (.int 0), (.int 0), (.int 0), (.int 0), (.int 0), (.int 0)] (.int (0 : Int32)) := V_hd11
        have V_cp11 : Arv Z h12 cp11 k_cp11 .long (16 : Int32) [(.long (cap0_0 la da lb db ee ss ac gc gd ca cb)), (.long 0), (.long 0), (.long 0), (.long 0), (.long 0), (.long 0), (.long 0)] (.long (0 : Int64)) := V_cp11
        have V_co11 : Arv Z h12 co11 k_co11 .long (16 : Int32) [(.long ca), (.long (ng0_0 la da lb db ee ss ac gc gd ca cb)), (.long 0), (.long 0), (.long 0), (.long 0), (.long 0), (.long 0)] (.long (0 : Int64)) := V_co11
        have V_nx11 : Arv Z h12 nx11 k_nx11 .int (16 : Int32) [(.int (-1)), (.int (-1)), (.int 0), (.int 0), (.int 0), (.int 0), (.int 0), (.int 0)] (.int (0 : Int32)) := V_nx11
        have V_lo11 : Arv Z h12 lo11 k_lo11 .long (8 : Int32) [(.long la), (.long 0), (.long 0), (.long 0)] (.long (0 : Int64)) := V_lo11
        have V_su11 : Arv Z h12 su11 k_su11 .long (4 : Int32) [(.long (sup0_0_a la da lb db ee ss ac gc gd ca cb)), (.long (sup0_0 la da lb db ee ss ac gc gd ca cb)), (.long 0), (.long 0)] (.long (0 : Int64)) := V_su11
        have V_fa11 : Arv Z h12 fa11 k_fa11 .int (4 : Int32) [(.int 0), (.int 1), (.int (-1)), (.int (-1))] (.int (0 : Int32)) := V_fa11
        refine Goes.run X12 hx hown hci hcl hby (L := [(151, .istore 33, 2), (153, .aload 32, 2), (155, .iconst 0, 1), (156, .iconst 1, 1), (157, .lload 15, 2), (159, .lload 15, 2)]) (by decide +kernel) rfl (g' := (mkF m 161 #[jv x0, .second, jv x1, .second, jv x2, .second, jv x3, .second, jv x4, .second, iv x5, jv la, .second, jv da, .second, jv lb, .second, jv db, .second, jv ee, .second, jv ss, .second, iv ac, jv gc, .second, jv gd, .second, jv ca, .second, jv cb, .second, rv b10, iv 0, .unset, .unset, .unset, .unset, .unset, .unset, .unset, .unset, .unset, .unset, .unset] [(.long lb), (.long lb), (.int 1), (.int 0), (.ref b10)])) rfl ?_
        refine Goes.run X12 hx hown hci hcl hby (L := [(161, .lload 17, 2), (163, .ladd, 1), (164, .lload 30, 2)]) (by decide +kernel) rfl (g' := (mkF m 166 #[jv x0, .second, jv x1, .second, jv x2, .second, jv x3, .second, jv x4, .second, iv x5, jv la, .second, jv da, .second, jv lb, .second, jv db, .second, jv ee, .second, jv ss, .second, iv ac, jv gc, .second, jv gd, .second, jv ca, .second, jv cb, .second, rv b10, iv 0, .unset, .unset, .unset, .unset, .unset, .unset, .unset, .unset, .unset, .unset, .unset] [(.long cb), (.long (c0_166_1 la da lb db ee ss ac gc gd ca cb)), (.long lb), (.int 1), (.int 0), (.ref b10)])) rfl ?_
        obtain ⟨cq13, kq13, q13a, q13b, q13c⟩ := isOf hZ e12 E_b10
        obtain ⟨_, _, ⟨T13, L13, k13, n13⟩, -, X13, ⟨Lc13, hQ13, l13, y13, z13⟩, st13⟩ := X12.virtualBack hx (y := ym12) (z := ym12) hown (mvT hZ w_38) (mvT hZ w_39) (notFace_of_selects (args := #[]) (mvT hZ w_41)) (mvT hZ w_41) (mvT hZ w_40) (by decide) (backOf (W := 0) (rmJ l Z a0 hw [] b10 (0 : Int32) (1 : Int32) lb (c0_166_1 la da lb db ee ss ac gc gd ca cb) cb hd11 cp11 co11 nx11 fa11 k_hd11 k_cp11 k_co11 k_nx11 k_fa11 [(.int 1), (.int 0), (.int 0), (.int 0), (.int 0), (.int 0), (.int 0), (.int 0)] [(.int (-1)), (.int (-1)), (.int 0), (.int 0), (.int 0), (.int 0), (.int 0), (.int 0)] [(.long (cap0_0 la da lb db ee ss ac gc gd ca cb)), (.long 0), (.long 0), (.long 0), (.long 0), (.long 0), (.long 0), (.long 0)] [(.long ca), (.long (ng0_0 la da lb db ee ss ac gc gd ca cb)), (.long 0), (.long 0), (.long 0), (.long 0), (.long 0), (.long 0)] [(.int 0), (.int 1), (.int (-1)), (.int (-1))] [(.long la), (.long 0), (.long 0), (.long 0)] [(.long (sup0_0_a la da lb db ee ss ac gc gd ca cb)), (.long (sup0_0 la da lb db ee ss ac gc gd ca cb)), (.long 0), (.long 0)] lo11 su11 k_lo11 k_su11 (1 : Int32) (0 : Int32) (1 : Int32) (sup0_0_a la da lb db ee ss ac gc gd ca cb) (sup0_0 la da lb db ee ss ac gc gd ca cb) 2 3 1 0 1 h12 n0 Zn12 E_b10 F_nodes_b10 F_source_b10 F_sink_b10 F_arcs_b10 F_heads_b10 F_capacities_b10 F_costs_b10 F_nextArcs_b10 F_firstArcs_b10 V_hd11 V_cp11 V_co11 V_nx11 V_fa11 F_lowers_b10 F_supplies_b10 V_lo11 V_su11 g_b10 g_hd11 g_cp11 g_co11 g_nx11 g_fa11 g_lo11 g_su11 ne_b10_hd11 ne_b10_cp11 ne_b10_co11 ne_b10_nx11 ne_b10_fa11 ne_b10_lo11 ne_b10_su11 nq11_0_2 nq11_0_3 nq11_0_1 nq11_0_6 nq11_0_4 nq11_0_5 nq11_2_3 (Ne.symm nq11_1_2) nq11_2_6 nq11_2_4 nq11_2_5 (Ne.symm nq11_1_3) nq11_3_6 nq11_3_4 nq11_3_5 nq11_1_6 nq11_1_4 nq11_1_5 (Ne.symm nq11_4_6) (Ne.symm nq11_5_6) nq11_4_5 rfl (by decide) (by decide) rfl (by decide) (by decide) rfl (by decide) (by decide) rfl (by decide) (by decide) rfl (by decide) (by decide) (Nat.le_of_ble_eq_true rfl) (Nat.le_of_ble_eq_true rfl) rfl rfl rfl rfl (Nat.le_of_ble_eq_true rfl) (Nat.le_of_ble_eq_true rfl) (Nat.le_of_ble_eq_true rfl) (Nat.le_of_ble_eq_true rfl) (Nat.le_of_ble_eq_true rfl) rfl rfl rfl rfl (own_w1_1 HH) (own_w2_1 HH) (own_w3_1 HH)) hZ w_42 w_5 (by decide) (by decide)) q13a q13c (g := (mkF m 166 #[jv x0, .second, jv x1, .second, jv x2, .second, jv x3, .second, jv x4, .second, iv x5, jv la, .second, jv da, .second, jv lb, .second, jv db, .second, jv ee, .second, jv ss, .second, iv ac, jv gc, .second, jv gd, .second, jv ca, .second, jv cb, .second, rv b10, iv 0, .unset, .unset, .unset, .unset, .unset, .unset, .unset, .unset, .unset, .unset, .unset] [(.long cb), (.long (c0_166_1 la da lb db ee ss ac gc gd ca cb)), (.long lb), (.int 1), (.int 0), (.ref b10)])) rfl (by rw [hml]; rfl) (Steps.refl _) (argsL := [(.int 0), (.int 1), (.long lb), (.long (c0_166_1 la da lb db ee ss ac gc gd ca cb)), (.long cb)]) (rest := []) (lenOf pd0_1 rfl) rfl (by show 2 * 0 + _ ≤ _; exact Nat.le_of_eq rfl) (hb hby at_166) (fun _ _ => ⟨rfl, e12, (by decide : 8 + 0 ≤ _), (by decide : 91 + 0 ≤ _)⟩)
        dsimp only [Pt.U, Pt.locs, Pt.cells, Pt.slots] at X13 l13 y13 z13 st13 hQ13
        subst l13 y13 z13
        obtain ⟨h13, eh13⟩ : ∃ z, z = T13.heap := ⟨_, rfl⟩
        rw [← eh13] at hQ13
        have e13 : T13.heap = h13 := eh13.symm
        obtain ⟨rfl, N13q, Kq13, o13_0, o13_1, o13_2, o13_3, o13_4, o13_5, o13_6, o13_7, o13_8, o13_9, o13_10, o13_11, o13_12, o13_13, o13_14, o13_15, o13_16, o13_17, o13_18⟩ := hQ13
        have N13 := Fr.app N12 N13q
        have E_b10 : Exa Z h13 b10 "com/example/kubera/kubera/FlowNetwork" := o13_0
        have F_arcs_b10 : Fld Z h13 b10 "com/example/kubera/kubera/FlowNetwork" "arcs" "I" (.int (o0_166_1 la da lb db ee ss ac gc gd ca cb)) := o13_1
        have F_nodes_b10 : Fld Z h13 b10 "com/example/kubera/kubera/FlowNetwork" "nodes" "I" (.int 4) := o13_2
        have F_source_b10 : Fld Z h13 b10 "com/example/kubera/kubera/FlowNetwork" "source" "I" (.int 2) := o13_3
        have F_sink_b10 : Fld Z h13 b10 "com/example/kubera/kubera/FlowNetwork" "sink" "I" (.int 3) := o13_4
        have F_heads_b10 : Fld Z h13 b10 "com/example/kubera/kubera/FlowNetwork" "heads" "[I" (.ref hd11) := o13_5
        have F_capacities_b10 : Fld Z h13 b10 "com/example/kubera/kubera/FlowNetwork" "capacities" "[J" (.ref cp11) := o13_6
        have F_costs_b10 : Fld Z h13 b10 "com/example/kubera/kubera/FlowNetwork" "costs" "[J" (.ref co11) := o13_7
        have F_nextArcs_b10 : Fld Z h13 b10 "com/example/kubera/kubera/FlowNetwork" "nextArcs" "[I" (.ref nx11) := o13_8
        have F_firstArcs_b10 : Fld Z h13 b10 "com/example/kubera/kubera/FlowNetwork" "firstArcs" "[I" (.ref fa11) := o13_9
        have F_lowers_b10 : Fld Z h13 b10 "com/example/kubera/kubera/FlowNetwork" "lowers" "[J" (.ref lo11) := o13_10
        have F_supplies_b10 : Fld Z h13 b10 "com/example/kubera/kubera/FlowNetwork" "supplies" "[J" (.ref su11) := o13_11
        have V_hd11 : Arv Z h13 hd11 k_hd11 .int (16 : Int32) (([(.int 1), (.int 0), (.int 0), (.int 0), (.int 0), (.int 0), (.int 0), (.int 0)].set 2 (.int (1 : Int32))).set 3 (.int (0 : Int32))) (.int (0 : Int32)) := o13_12
        have V_cp11 : Arv Z h13 cp11 k_cp11 .long (16 : Int32) (([(.long (cap0_0 la da lb db ee ss ac gc gd ca cb)), (.long 0), (.long 0), (.long 0), (.long 0), (.long 0), (.long 0), (.long 0)].set 2 (.long (cJ_160_1 (0 : Int32) (1 : Int32) lb (c0_166_1 la da lb db ee ss ac gc gd ca cb) cb (1 : Int32) (0 : Int32) (1 : Int32) (sup0_0_a la da lb db ee ss ac gc gd ca cb) (sup0_0 la da lb db ee ss ac gc gd ca cb)))).set 3 (.long (0 : Int64))) (.long (0 : Int64)) := o13_13
        have V_co11 : Arv Z h13 co11 k_co11 .long (16 : Int32) (([(.long ca), (.long (ng0_0 la da lb db ee ss ac gc gd ca cb)), (.long 0), (.long 0), (.long 0), (.long 0), (.long 0), (.long 0)].set 2 (.long cb)).set 3 (.long (cJ_176_0 (0 : Int32) (1 : Int32) lb (c0_166_1 la da lb db ee ss ac gc gd ca cb) cb (1 : Int32) (0 : Int32) (1 : Int32) (sup0_0_a la da lb db ee ss ac gc gd ca cb) (sup0_0 la da lb db ee ss ac gc gd ca cb)))) (.long (0 : Int64)) := o13_14
        have V_nx11 : Arv Z h13 nx11 k_nx11 .int (16 : Int32) (([(.int (-1)), (.int (-1)), (.int 0), (.int 0), (.int 0), (.int 0), (.int 0), (.int 0)].set 2 (.int (0 : Int32))).set 3 (.int (1 : Int32))) (.int (0 : Int32)) := o13_15
        have V_fa11 : Arv Z h13 fa11 k_fa11 .int (4 : Int32) (([(.int 0), (.int 1), (.int (-1)), (.int (-1))].set 0 (.int (cJ_160_4 (0 : Int32) (1 : Int32) lb (c0_166_1 la da lb db ee ss ac gc gd ca cb) cb (1 : Int32) (0 : Int32) (1 : Int32) (sup0_0_a la da lb db ee ss ac gc gd ca cb) (sup0_0 la da lb db ee ss ac gc gd ca cb)))).set 1 (.int (cJ_176_4 (0 : Int32) (1 : Int32) lb (c0_166_1 la da lb db ee ss ac gc gd ca cb) cb (1 : Int32) (0 : Int32) (1 : Int32) (sup0_0_a la da lb db ee ss ac gc gd ca cb) (sup0_0 la da lb db ee ss ac gc gd ca cb)))) (.int (0 : Int32)) := o13_16
        have V_lo11 : Arv Z h13 lo11 k_lo11 .long (8 : Int32) ([(.long la), (.long 0), (.long 0), (.long 0)].set 1 (.long lb)) (.long (0 : Int64)) := o13_17
        have V_su11 : Arv Z h13 su11 k_su11 .long (4 : Int32) (([(.long (sup0_0_a la da lb db ee ss ac gc gd ca cb)), (.long (sup0_0 la da lb db ee ss ac gc gd ca cb)), (.long 0), (.long 0)].set 0 (.long ((sup0_0_a la da lb db ee ss ac gc gd ca cb) - lb))).set 1 (.long ((sup0_0 la da lb db ee ss ac gc gd ca cb) + lb))) (.long (0 : Int64)) := o13_18
        have Zn13 : n0 ≤ h13.size := Nat.le_trans Zn12 Kq13.1
        refine Goes.st (fun t k => st13.trans k) ?_
        have F_arcs_b10 : Fld Z h13 b10 "com/example/kubera/kubera/FlowNetwork" "arcs" "I" (.int 2) := F_arcs_b10
        have V_hd11 : Arv Z h13 hd11 k_hd11 .int (16 : Int32) [(.int 1), (.int 0), (.int 1), (.int 0), (.int 0), (.int 0), (.int 0), (.int 0)] (.int (0 : Int32)) := V_hd11
        have V_cp11 : Arv Z h13 cp11 k_cp11 .long (16 : Int32) [(.long (cap0_0 la da lb db ee ss ac gc gd ca cb)), (.long 0), (.long (cap0_1 la da lb db ee ss ac gc gd ca cb)), (.long 0), (.long 0), (.long 0), (.long 0), (.long 0)] (.long (0 : Int64)) := V_cp11
        have V_co11 : Arv Z h13 co11 k_co11 .long (16 : Int32) [(.long ca), (.long (ng0_0 la da lb db ee ss ac gc gd ca cb)), (.long cb), (.long (ng0_1 la da lb db ee ss ac gc gd ca cb)), (.long 0), (.long 0), (.long 0), (.long 0)] (.long (0 : Int64)) := V_co11
        have V_nx11 : Arv Z h13 nx11 k_nx11 .int (16 : Int32) [(.int (-1)), (.int (-1)), (.int 0), (.int 1), (.int 0), (.int 0), (.int 0), (.int 0)] (.int (0 : Int32)) := V_nx11
        have V_lo11 : Arv Z h13 lo11 k_lo11 .long (8 : Int32) [(.long la), (.long lb), (.long 0), (.long 0)] (.long (0 : Int64)) := V_lo11
        have V_su11 : Arv Z h13 su11 k_su11 .long (4 : Int32) [(.long (sup0_1_a la da lb db ee ss ac gc gd ca cb)), (.long (sup0_1 la da lb db ee ss ac gc gd ca cb)), (.long 0), (.long 0)] (.long (0 : Int64)) := V_su11
        have V_fa11 : Arv Z h13 fa11 k_fa11 .int (4 : Int32) [(.int 2), (.int 3), (.int (-1)), (.int (-1))] (.int (0 : Int32)) := V_fa11
        refine Goes.run X13 hx hown hci hcl hby (L := [(169, .istore 34, 2), (171, .aload 32, 2), (173, .iconst 0, 1), (174, .lload 21, 2)]) (by decide +kernel) rfl (g' := (mkF m 176 #[jv x0, .second, jv x1, .second, jv x2, .second, jv x3, .second, jv x4, .second, iv x5, jv la, .second, jv da, .second, jv lb, .second, jv db, .second, jv ee, .second, jv ss, .second, iv ac, jv gc, .second, jv gd, .second, jv ca, .second, jv cb, .second, rv b10, iv 0, iv 1, .unset, .unset, .unset, .unset, .unset, .unset, .unset, .unset, .unset, .unset] [(.long ss), (.int 0), (.ref b10)])) rfl ?_
        obtain ⟨cq14, kq14, q14a, q14b, q14c⟩ := isOf hZ e13 E_b10
        obtain ⟨_, _, ⟨T14, L14, k14, n14⟩, -, X14, ⟨Lc14, hQ14, l14, y14, z14⟩, st14⟩ := X13.virtualBack hx (y := ym14) (z := ym14) hown (mvT hZ w_49) (mvT hZ w_50) (notFace_of_selects (args := #[]) (mvT hZ w_52)) (mvT hZ w_52) (mvT hZ w_51) (by decide) (backOf (W := 0) (rmO l Z a0 hw [] b10 ss su11 k_su11 (sup0_1_a la da lb db ee ss ac gc gd ca cb) (sup0_1 la da lb db ee ss ac gc gd ca cb) (0 : Int64) (0 : Int64) h13 n0 Zn13 F_supplies_b10 V_su11 g_su11 (Ne.symm ne_b10_su11)) hZ w_53 w_5 (by decide) (by decide)) q14a q14c (g := (mkF m 176 #[jv x0, .second, jv x1, .second, jv x2, .second, jv x3, .second, jv x4, .second, iv x5, jv la, .second, jv da, .second, jv lb, .second, jv db, .second, jv ee, .second, jv ss, .second, iv ac, jv gc, .second, jv gd, .second, jv ca, .second, jv cb, .second, rv b10, iv 0, iv 1, .unset, .unset, .unset, .unset, .unset, .unset, .unset, .unset, .unset, .unset] [(.long ss), (.int 0), (.ref b10)])) rfl (by rw [hml]; rfl) (Steps.refl _) (argsL := [(.int 0), (.long ss)]) (rest := []) (lenOf pd0_2 rfl) rfl (by show 2 * 0 + _ ≤ _; exact Nat.le_of_eq rfl) (hb hby at_176) (fun _ _ => ⟨rfl, e13, (by decide : 8 + 0 ≤ _), (by decide : 91 + 0 ≤ _)⟩)
        dsimp only [Pt.U, Pt.locs, Pt.cells, Pt.slots] at X14 l14 y14 z14 st14 hQ14
        subst l14 y14 z14
        obtain ⟨h14, eh14⟩ : ∃ z, z = T14.heap := ⟨_, rfl⟩
        rw [← eh14] at hQ14
        have e14 : T14.heap = h14 := eh14.symm
        obtain ⟨rfl, N14q, Kq14, o14_0⟩ := hQ14
        have N14 := Fr.app N13 N14q
        have E_b10 := E_b10.keep Kq14
        have F_heads_b10 := F_heads_b10.keep Kq14 (ninS ne_b10_su11 nin0)
        have F_nextArcs_b10 := F_nextArcs_b10.keep Kq14 (ninS ne_b10_su11 nin0)
        have F_capacities_b10 := F_capacities_b10.keep Kq14 (ninS ne_b10_su11 nin0)
        have F_costs_b10 := F_costs_b10.keep Kq14 (ninS ne_b10_su11 nin0)
        have F_lowers_b10 := F_lowers_b10.keep Kq14 (ninS ne_b10_su11 nin0)
        have F_nodes_b10 := F_nodes_b10.keep Kq14 (ninS ne_b10_su11 nin0)
        have F_source_b10 := F_source_b10.keep Kq14 (ninS ne_b10_su11 nin0)
        have F_sink_b10 := F_sink_b10.keep Kq14 (ninS ne_b10_su11 nin0)
        have F_supplies_b10 := F_supplies_b10.keep Kq14 (ninS ne_b10_su11 nin0)
        have F_firstArcs_b10 := F_firstArcs_b10.keep Kq14 (ninS ne_b10_su11 nin0)
        have F_arcs_b10 := F_arcs_b10.keep Kq14 (ninS ne_b10_su11 nin0)
        have V_hd11 := V_hd11.keep Kq14 (ninS nq11_0_5 nin0)
        have V_nx11 := V_nx11.keep Kq14 (ninS nq11_1_5 nin0)
        have V_cp11 := V_cp11.keep Kq14 (ninS nq11_2_5 nin0)
        have V_co11 := V_co11.keep Kq14 (ninS nq11_3_5 nin0)
        have V_lo11 := V_lo11.keep Kq14 (ninS nq11_4_5 nin0)
        have V_fa11 := V_fa11.keep Kq14 (ninS (Ne.symm nq11_5_6) nin0)
        have V_su11 : Arv Z h14 su11 k_su11 .long (4 : Int32) [(.long ((sup0_1_a la da lb db ee ss ac gc gd ca cb) + ss)), (.long (sup0_1 la da lb db ee ss ac gc gd ca cb)), (.long 0), (.long 0)] (.long (0 : Int64)) := o14_0
        have Zn14 : n0 ≤ h14.size := Nat.le_trans Zn13 Kq14.1
        refine Goes.st (fun t k => st14.trans k) ?_
        have V_su11 : Arv Z h14 su11 k_su11 .long (4 : Int32) [(.long (sup0_s0 la da lb db ee ss ac gc gd ca cb)), (.long (sup0_1 la da lb db ee ss ac gc gd ca cb)), (.long 0), (.long 0)] (.long (0 : Int64)) := V_su11
        refine Goes.run X14 hx hown hci hcl hby (L := [(179, .aload 32, 2), (181, .iconst 1, 1), (182, .lload 21, 2), (184, .lneg, 1)]) (by decide +kernel) rfl (g' := (mkF m 185 #[jv x0, .second, jv x1, .second, jv x2, .second, jv x3, .second, jv x4, .second, iv x5, jv la, .second, jv da, .second, jv lb, .second, jv db, .second, jv ee, .second, jv ss, .second, iv ac, jv gc, .second, jv gd, .second, jv ca, .second, jv cb, .second, rv b10, iv 0, iv 1, .unset, .unset, .unset, .unset, .unset, .unset, .unset, .unset, .unset, .unset] [(.long (c0_185_0 la da lb db ee ss ac gc gd ca cb)), (.int 1), (.ref b10)])) rfl ?_
        obtain ⟨cq15, kq15, q15a, q15b, q15c⟩ := isOf hZ e14 E_b10
        obtain ⟨_, _, ⟨T15, L15, k15, n15⟩, -, X15, ⟨Lc15, hQ15, l15, y15, z15⟩, st15⟩ := X14.virtualBack hx (y := ym14) (z := ym14) hown (mvT hZ w_49) (mvT hZ w_50) (notFace_of_selects (args := #[]) (mvT hZ w_52)) (mvT hZ w_52) (mvT hZ w_51) (by decide) (backOf (W := 0) (rmP1 l Z a0 hw [] b10 (c0_185_0 la da lb db ee ss ac gc gd ca cb) su11 k_su11 (sup0_s0 la da lb db ee ss ac gc gd ca cb) (sup0_1 la da lb db ee ss ac gc gd ca cb) (0 : Int64) (0 : Int64) h14 n0 Zn14 F_supplies_b10 V_su11 g_su11 (Ne.symm ne_b10_su11)) hZ w_53 w_5 (by decide) (by decide)) q15a q15c (g := (mkF m 185 #[jv x0, .second, jv x1, .second, jv x2, .second, jv x3, .second, jv x4, .second, iv x5, jv la, .second, jv da, .second, jv lb, .second, jv db, .second, jv ee, .second, jv ss, .second, iv ac, jv gc, .second, jv gd, .second, jv ca, .second, jv cb, .second, rv b10, iv 0, iv 1, .unset, .unset, .unset, .unset, .unset, .unset, .unset, .unset, .unset, .unset] [(.long (c0_185_0 la da lb db ee ss ac gc gd ca cb)), (.int 1), (.ref b10)])) rfl (by rw [hml]; rfl) (Steps.refl _) (argsL := [(.int 1), (.long (c0_185_0 la da lb db ee ss ac gc gd ca cb))]) (rest := []) (lenOf pd0_2 rfl) rfl (by show 2 * 0 + _ ≤ _; exact Nat.le_of_eq rfl) (hb hby at_185) (fun _ _ => ⟨rfl, e14, (by decide : 8 + 0 ≤ _), (by decide : 91 + 0 ≤ _)⟩)
        dsimp only [Pt.U, Pt.locs, Pt.cells, Pt.slots] at X15 l15 y15 z15 st15 hQ15
        subst l15 y15 z15
        obtain ⟨h15, eh15⟩ : ∃ z, z = T15.heap := ⟨_, rfl⟩
        rw [← eh15] at hQ15
        have e15 : T15.heap = h15 := eh15.symm
        obtain ⟨rfl, N15q, Kq15, o15_0⟩ := hQ15
        have N15 := Fr.app N14 N15q
        have E_b10 := E_b10.keep Kq15
        have F_heads_b10 := F_heads_b10.keep Kq15 (ninS ne_b10_su11 nin0)
        have F_nextArcs_b10 := F_nextArcs_b10.keep Kq15 (ninS ne_b10_su11 nin0)
        have F_capacities_b10 := F_capacities_b10.keep Kq15 (ninS ne_b10_su11 nin0)
        have F_costs_b10 := F_costs_b10.keep Kq15 (ninS ne_b10_su11 nin0)
        have F_lowers_b10 := F_lowers_b10.keep Kq15 (ninS ne_b10_su11 nin0)
        have F_nodes_b10 := F_nodes_b10.keep Kq15 (ninS ne_b10_su11 nin0)
        have F_source_b10 := F_source_b10.keep Kq15 (ninS ne_b10_su11 nin0)
        have F_sink_b10 := F_sink_b10.keep Kq15 (ninS ne_b10_su11 nin0)
        have F_supplies_b10 := F_supplies_b10.keep Kq15 (ninS ne_b10_su11 nin0)
        have F_firstArcs_b10 := F_firstArcs_b10.keep Kq15 (ninS ne_b10_su11 nin0)
        have F_arcs_b10 := F_arcs_b10.keep Kq15 (ninS ne_b10_su11 nin0)
        have V_hd11 := V_hd11.keep Kq15 (ninS nq11_0_5 nin0)
        have V_nx11 := V_nx11.keep Kq15 (ninS nq11_1_5 nin0)
        have V_cp11 := V_cp11.keep Kq15 (ninS nq11_2_5 nin0)
        have V_co11 := V_co11.keep Kq15 (ninS nq11_3_5 nin0)
        have V_lo11 := V_lo11.keep Kq15 (ninS nq11_4_5 nin0)
        have V_fa11 := V_fa11.keep Kq15 (ninS (Ne.symm nq11_5_6) nin0)
        have V_su11 : Arv Z h15 su11 k_su11 .long (4 : Int32) [(.long (sup0_s0 la da lb db ee ss ac gc gd ca cb)), (.long ((sup0_1 la da lb db ee ss ac gc gd ca cb) + (c0_185_0 la da lb db ee ss ac gc gd ca cb))), (.long 0), (.long 0)] (.long (0 : Int64)) := o15_0
        have Zn15 : n0 ≤ h15.size := Nat.le_trans Zn14 Kq15.1
        refine Goes.st (fun t k => st15.trans k) ?_
        have V_su11 : Arv Z h15 su11 k_su11 .long (4 : Int32) [(.long (sup0_s0 la da lb db ee ss ac gc gd ca cb)), (.long (sup0_s1 la da lb db ee ss ac gc gd ca cb)), (.long 0), (.long 0)] (.long (0 : Int64)) := V_su11
        refine Goes.run X15 hx hown hci hcl hby (L := [(188, .aload 32, 2), (190, .iload 33, 2)]) (by decide +kernel) rfl (g' := (mkF m 192 #[jv x0, .second, jv x1, .second, jv x2, .second, jv x3, .second, jv x4, .second, iv x5, jv la, .second, jv da, .second, jv lb, .second, jv db, .second, jv ee, .second, jv ss, .second, iv ac, jv gc, .second, jv gd, .second, jv ca, .second, jv cb, .second, rv b10, iv 0, iv 1, .unset, .unset, .unset, .unset, .unset, .unset, .unset, .unset, .unset, .unset] [(.int 0), (.ref b10)])) rfl ?_
        obtain ⟨cq16, kq16, q16a, q16b, q16c⟩ := isOf hZ e15 E_b10
        obtain ⟨_, _, ⟨T16, L16, k16, n16⟩, -, X16, ⟨Lc16, hQ16, l16, y16, z16⟩, st16⟩ := X15.virtualBack hx (y := ym15) (z := ym15) hown (mvT hZ w_54) (mvT hZ w_55) (notFace_of_selects (args := #[]) (mvT hZ w_57)) (mvT hZ w_57) (mvT hZ w_56) (by decide) (backOf (W := 0) (rmR l Z a0 hw [] b10 lo11 cp11 k_lo11 k_cp11 la lb (0 : Int64) (0 : Int64) (cap0_0 la da lb db ee ss ac gc gd ca cb) (0 : Int64) (cap0_1 la da lb db ee ss ac gc gd ca cb) (0 : Int64) (0 : Int64) (0 : Int64) (0 : Int64) (0 : Int64) h15 n0 Zn15 F_lowers_b10 F_capacities_b10 V_lo11 V_cp11) hZ w_58 w_5 (by decide) (by decide)) q16a q16c (g := (mkF m 192 #[jv x0, .second, jv x1, .second, jv x2, .second, jv x3, .second, jv x4, .second, iv x5, jv la, .second, jv da, .second, jv lb, .second, jv db, .second, jv ee, .second, jv ss, .second, iv ac, jv gc, .second, jv gd, .second, jv ca, .second, jv cb, .second, rv b10, iv 0, iv 1, .unset, .unset, .unset, .unset, .unset, .unset, .unset, .unset, .unset, .unset] [(.int 0), (.ref b10)])) rfl (by rw [hml]; rfl) (Steps.refl _) (argsL := [(.int 0)]) (rest := []) (lenOf pd0_3 rfl) rfl (by show 2 * 0 + _ ≤ _; exact Nat.le_of_eq rfl) (hb hby at_192) (fun _ _ => ⟨rfl, e15, (by decide : 8 + 0 ≤ _), (by decide : 91 + 0 ≤ _)⟩)
        dsimp only [Pt.U, Pt.locs, Pt.cells, Pt.slots] at X16 l16 y16 z16 st16 hQ16
        subst l16 y16 z16
        obtain ⟨rfl, N16q, e16⟩ := hQ16
        have N16 := Fr.app N15 N16q
        refine Goes.st (fun t k => st16.trans k) ?_
        refine Goes.hrun X16 e16 CX own_n (L := [.p 195 (.lload 11) 2, .p 197 .lcmp 1, .b 198 .ne 20 false, .p 201 (.aload 32) 2, .p 203 (.iload 34) 2]) (by decide +kernel) rfl (g' := (mkF m 205 #[jv x0, .second, jv x1, .second, jv x2, .second, jv x3, .second, jv x4, .second, iv x5, jv la, .second, jv da, .second, jv lb, .second, jv db, .second, jv ee, .second, jv ss, .second, iv ac, jv gc, .second, jv gd, .second, jv ca, .second, jv cb, .second, rv b10, iv 0, iv 1, .unset, .unset, .unset, .unset, .unset, .unset, .unset, .unset, .unset, .unset] [(.int 1), (.ref b10)])) rfl ⟨(teqL (own_q198 HH : (rR la (0 : Int64)) = la)).2, trivial⟩ ?_
        intro T18 X18 e18
        obtain ⟨cq19, kq19, q19a, q19b, q19c⟩ := isOf hZ e18 E_b10
        obtain ⟨_, _, ⟨T19, L19, k19, n19⟩, -, X19, ⟨Lc19, hQ19, l19, y19, z19⟩, st19⟩ := X18.virtualBack hx (y := ym15) (z := ym15) hown (mvT hZ w_54) (mvT hZ w_55) (notFace_of_selects (args := #[]) (mvT hZ w_57)) (mvT hZ w_57) (mvT hZ w_56) (by decide) (backOf (W := 0) (rmS l Z a0 hw [] b10 lo11 cp11 k_lo11 k_cp11 la lb (0 : Int64) (0 : Int64) (cap0_0 la da lb db ee ss ac gc gd ca cb) (0 : Int64) (cap0_1 la da lb db ee ss ac gc gd ca cb) (0 : Int64) (0 : Int64) (0 : Int64) (0 : Int64) (0 : Int64) h15 n0 Zn15 F_lowers_b10 F_capacities_b10 V_lo11 V_cp11) hZ w_58 w_5 (by decide) (by decide)) q19a q19c (g := (mkF m 205 #[jv x0, .second, jv x1, .second, jv x2, .second, jv x3, .second, jv x4, .second, iv x5, jv la, .second, jv da, .second, jv lb, .second, jv db, .second, jv ee, .second, jv ss, .second, iv ac, jv gc, .second, jv gd, .second, jv ca, .second, jv cb, .second, rv b10, iv 0, iv 1, .unset, .unset, .unset, .unset, .unset, .unset, .unset, .unset, .unset, .unset] [(.int 1), (.ref b10)])) rfl (by rw [hml]; rfl) (Steps.refl _) (argsL := [(.int 1)]) (rest := []) (lenOf pd0_3 rfl) rfl (by show 2 * 0 + _ ≤ _; exact Nat.le_of_eq rfl) (hb hby at_205) (fun _ _ => ⟨rfl, e18, (by decide : 8 + 0 ≤ _), (by decide : 91 + 0 ≤ _)⟩)
        dsimp only [Pt.U, Pt.locs, Pt.cells, Pt.slots] at X19 l19 y19 z19 st19 hQ19
        subst l19 y19 z19
        obtain ⟨rfl, N19q, e19⟩ := hQ19
        have N19 := Fr.app N16 N19q
        refine Goes.st (fun t k => st19.trans k) ?_
        refine Goes.hrun X19 e19 CX own_n (L := [.p 208 (.lload 15) 2, .p 210 .lcmp 1, .b 211 .ne 7 false, .p 214 (.iconst 1) 1, .p 215 (.goto 4) 3, .p 219 (.istore 35) 2]) (by decide +kernel) rfl (g' := (mkF m 221 #[jv x0, .second, jv x1, .second, jv x2, .second, jv x3, .second, jv x4, .second, iv x5, jv la, .second, jv da, .second, jv lb, .second, jv db, .second, jv ee, .second, jv ss, .second, iv ac, jv gc, .second, jv gd, .second, jv ca, .second, jv cb, .second, rv b10, iv 0, iv 1, iv 1, .unset, .unset, .unset, .unset, .unset, .unset, .unset, .unset, .unset] [])) rfl ⟨(teqL (own_q211 HH : (rS lb (0 : Int64)) = lb)).2, trivial⟩ ?_
        intro T21 X21 e21
        refine Goes.run X21 hx hown hci hcl hby (L := [(221, .aload 32, 2)]) (by decide +kernel) rfl (g' := (mkF m 223 #[jv x0, .second, jv x1, .second, jv x2, .second, jv x3, .second, jv x4, .second, iv x5, jv la, .second, jv da, .second, jv lb, .second, jv db, .second, jv ee, .second, jv ss, .second, iv ac, jv gc, .second, jv gd, .second, jv ca, .second, jv cb, .second, rv b10, iv 0, iv 1, iv 1, .unset, .unset, .unset, .unset, .unset, .unset, .unset, .unset, .unset] [(.ref b10)])) rfl ?_
        obtain ⟨cq22, kq22, q22a, q22b, q22c⟩ := isOf hZ e21 E_b10
        obtain ⟨_, _, ⟨T22, L22, k22, n22⟩, -, X22, ⟨Lc22, hQ22, l22, y22, z22⟩, st22⟩ := X21.virtualBack hx (y := ym16) (z := ym16) hown (mvT hZ w_59) (mvT hZ w_60) (notFace_of_selects (args := #[]) (mvT hZ w_62)) (mvT hZ w_62) (mvT hZ w_61) (by decide) (backOf (W := 0) (rmT l Z a0 hw [] b10 hd11 nx11 cp11 co11 lo11 su11 fa11 k_hd11 k_nx11 k_cp11 k_co11 k_lo11 k_su11 k_fa11 ca (ng0_0 la da lb db ee ss ac gc gd ca cb) cb (ng0_1 la da lb db ee ss ac gc gd ca cb) (cap0_0 la da lb db ee ss ac gc gd ca cb) (cap0_1 la da lb db ee ss ac gc gd ca cb) la lb (sup0_s0 la da lb db ee ss ac gc gd ca cb) (sup0_s1 la da lb db ee ss ac gc gd ca cb) h15 n0 Zn15 E_b10 F_nodes_b10 F_source_b10 F_sink_b10 F_supplies_b10 F_firstArcs_b10 F_arcs_b10 F_heads_b10 F_nextArcs_b10 F_capacities_b10 F_costs_b10 F_lowers_b10 V_hd11 V_nx11 V_cp11 V_co11 V_lo11 V_su11 V_fa11 g_b10 g_hd11 g_nx11 g_cp11 g_co11 g_lo11 g_su11 g_fa11 ne_b10_hd11 ne_b10_nx11 ne_b10_cp11 ne_b10_co11 ne_b10_lo11 ne_b10_su11 ne_b10_fa11 nq11_0_1 nq11_0_2 nq11_0_3 nq11_0_4 nq11_0_5 nq11_0_6 nq11_1_2 nq11_1_3 nq11_1_4 nq11_1_5 nq11_1_6 nq11_2_3 nq11_2_4 nq11_2_5 nq11_2_6 nq11_3_4 nq11_3_5 nq11_3_6 nq11_4_5 nq11_4_6 nq11_5_6 (own_bnd HH)) hZ w_63 w_5 (by decide) (by decide)) q22a q22c (g := (mkF m 223 #[jv x0, .second, jv x1, .second, jv x2, .second, jv x3, .second, jv x4, .second, iv x5, jv la, .second, jv da, .second, jv lb, .second, jv db, .second, jv ee, .second, jv ss, .second, iv ac, jv gc, .second, jv gd, .second, jv ca, .second, jv cb, .second, rv b10, iv 0, iv 1, iv 1, .unset, .unset, .unset, .unset, .unset, .unset, .unset, .unset, .unset] [(.ref b10)])) rfl (by rw [hml]; rfl) (Steps.refl _) (argsL := []) (rest := []) (lenOf pd0_4 rfl) rfl (by show 2 * 0 + _ ≤ _; exact Nat.le_of_eq rfl) (hb hby at_223) (fun _ _ => ⟨rfl, e21, (by decide : 8 + 18 ≤ _), (by decide : 91 + 68 ≤ _)⟩)
        dsimp only [Pt.U, Pt.locs, Pt.cells, Pt.slots] at X22 l22 y22 z22 st22 hQ22
        subst l22 y22 z22
        obtain ⟨h22, eh22⟩ : ∃ z, z = T22.heap := ⟨_, rfl⟩
        rw [← eh22] at hQ22
        have e22 : T22.heap = h22 := eh22.symm
        obtain ⟨z22a, z22b, z22c, z22d, z22e, z22f, rfl, N22q, Kq22, o22_0, o22_1, o22_2, o22_3, o22_4⟩ := hQ22
        have N22 := Fr.app N19 N22q
        have E_b10 := E_b10.keep Kq22
        have Zn22 : n0 ≤ h22.size := Nat.le_trans Zn15 Kq22.1
        have E_b10 : Exa Z h22 b10 "com/example/kubera/kubera/FlowNetwork" := o22_0
        have F_lowers_b10 : Fld Z h22 b10 "com/example/kubera/kubera/FlowNetwork" "lowers" "[J" (.ref lo11) := o22_1
        have F_capacities_b10 : Fld Z h22 b10 "com/example/kubera/kubera/FlowNetwork" "capacities" "[J" (.ref cp11) := o22_2
        have V_lo11 : Arv Z h22 lo11 k_lo11 .long (8 : Int32) [(.long la), (.long lb), (.long 0), (.long 0)] (.long (0 : Int64)) := o22_3
        have V_cp11 : Arv Z h22 cp11 k_cp11 .long (16 : Int32) [(.long z22a), (.long (own_xa (sup0_s0 la da lb db ee ss ac gc gd ca cb) (cap0_0 la da lb db ee ss ac gc gd ca cb) (cap0_1 la da lb db ee ss ac gc gd ca cb) ca cb)), (.long z22b), (.long (own_xb (sup0_s0 la da lb db ee ss ac gc gd ca cb) (cap0_0 la da lb db ee ss ac gc gd ca cb) (cap0_1 la da lb db ee ss ac gc gd ca cb) ca cb)), (.long z22c), (.long z22d), (.long z22e), (.long z22f)] (.long (0 : Int64)) := o22_4
        refine Goes.st (fun t k => st22.trans k) ?_
        refine Goes.run X22 hx hown hci hcl hby (L := [(226, .istore 36, 2), (228, .iload 23, 2)]) (by decide +kernel) rfl (g' := (mkF m 230 #[jv x0, .second, jv x1, .second, jv x2, .second, jv x3, .second, jv x4, .second, iv x5, jv la, .second, jv da, .second, jv lb, .second, jv db, .second, jv ee, .second, jv ss, .second, iv ac, jv gc, .second, jv gd, .second, jv ca, .second, jv cb, .second, rv b10, iv 0, iv 1, iv 1, iv 1, .unset, .unset, .unset, .unset, .unset, .unset, .unset, .unset] [(.int ac)])) rfl ?_
        have jn240_24 : ∀ (T25 : State) (L25 : List Loc) (X25 : Stand p l e room_1 s m #[(.long x0), (.long x1), (.long x2), (.long x3), (.long x4), (.int x5)] below meth c T25 L25 26 159) (e25 : T25.heap = h22) (N25 : Fr n0 L25), Goes p e below s (QL (some (.int 1)) n0) room_1.cells room_1.slots (T25.setTop (mkF m 240 #[jv x0, .second, jv x1, .second, jv x2, .second, jv x3, .second, jv x4, .second, iv x5, jv la, .second, jv da, .second, jv lb, .second, jv db, .second, jv ee, .second, jv ss, .second, iv ac, jv gc, .second, jv gd, .second, jv ca, .second, jv cb, .second, rv b10, iv 0, iv 1, iv 1, iv 1, .unset, .unset, .unset, .unset, .unset, .unset, .unset, .unset] [(.long (j0_240_s0 la da lb db ee ss ac gc gd ca cb))])) := by
          intro T25 L25 X25 e25 N25
          refine Goes.run X25 hx hown hci hcl hby (L := [(240, .lstore 37, 2), (242, .lload 37, 2), (244, .lload 19, 2)]) (by decide +kernel) rfl (g' := (mkF m 246 #[jv x0, .second, jv x1, .second, jv x2, .second, jv x3, .second, jv x4, .second, iv x5, jv la, .second, jv da, .second, jv lb, .second, jv db, .second, jv ee, .second, jv ss, .second, iv ac, jv gc, .second, jv gd, .second, jv ca, .second, jv cb, .second, rv b10, iv 0, iv 1, iv 1, iv 1, jv (j0_240_s0 la da lb db ee ss ac gc gd ca cb), .second, .unset, .unset, .unset, .unset, .unset, .unset] [(.long ee), (.long (j0_240_s0 la da lb db ee ss ac gc gd ca cb))])) rfl ?_
          obtain ⟨_, _, ⟨T26, L26, k26, n26⟩, -, X26, ⟨Lc26, hQ26, l26, y26, z26⟩, st26⟩ := Jvm.LawKit.callS X25 hx (y := ym2) hown (mvT hZ w_64) (mvT hZ w_65) (mvT hZ w_66) (mvT hZ w_67) (by decide) (backOf (W := 0) (rm3 l Z a0 hw [] (j0_240_s0 la da lb db ee ss ac gc gd ca cb) ee h22 n0 Zn22 ) hZ w_67 w_66 (by decide) (by decide)) (g := (mkF m 246 #[jv x0, .second, jv x1, .second, jv x2, .second, jv x3, .second, jv x4, .second, iv x5, jv la, .second, jv da, .second, jv lb, .second, jv db, .second, jv ee, .second, jv ss, .second, iv ac, jv gc, .second, jv gd, .second, jv ca, .second, jv cb, .second, rv b10, iv 0, iv 1, iv 1, iv 1, jv (j0_240_s0 la da lb db ee ss ac gc gd ca cb), .second, .unset, .unset, .unset, .unset, .unset, .unset] [(.long ee), (.long (j0_240_s0 la da lb db ee ss ac gc gd ca cb))])) rfl (by rw [hml]; rfl) (argsL := [(.long (j0_240_s0 la da lb db ee ss ac gc gd ca cb)), (.long ee)]) (rest := []) (lenOf pd0_5 rfl) rfl (by show 2 * 0 + _ ≤ _; exact Nat.le_of_eq rfl) (hb hby at_246) (fun _ _ => ⟨rfl, e25, (by decide : 26 + 0 ≤ _), (by decide : 159 + 0 ≤ _)⟩)
          dsimp only [Pt.U, Pt.locs, Pt.cells, Pt.slots] at X26 l26 y26 z26 st26 hQ26
          subst l26 y26 z26
          obtain ⟨rfl, N26q, e26⟩ := hQ26
          have N26 := Fr.app N25 N26q
          refine Goes.st st26 ?_
          refine Goes.run X26 hx hown hci hcl hby (L := [(249, .lstore 39, 2), (251, .iload 23, 2)]) (by decide +kernel) rfl (g' := (mkF m 253 #[jv x0, .second, jv x1, .second, jv x2, .second, jv x3, .second, jv x4, .second, iv x5, jv la, .second, jv da, .second, jv lb, .second, jv db, .second, jv ee, .second, jv ss, .second, iv ac, jv gc, .second, jv gd, .second, jv ca, .second, jv cb, .second, rv b10, iv 0, iv 1, iv 1, iv 1, jv (j0_240_s0 la da lb db ee ss ac gc gd ca cb), .second, jv (w0_249 la da lb db ee ss ac gc gd ca cb), .second, .unset, .unset, .unset, .unset] [(.int ac)])) rfl ?_
          have jn266_28 : ∀ (T29 : State) (L29 : List Loc) (X29 : Stand p l e room_1 s m #[(.long x0), (.long x1), (.long x2), (.long x3), (.long x4), (.int x5)] below meth c T29 L29 26 159) (e29 : T29.heap = h22) (N29 : Fr n0 L29), Goes p e below s (QL (some (.int 1)) n0) room_1.cells room_1.slots (T29.setTop (mkF m 266 #[jv x0, .second, jv x1, .second, jv x2, .second, jv x3, .second, jv x4, .second, iv x5, jv la, .second, jv da, .second, jv lb, .second, jv db, .second, jv ee, .second, jv ss, .second, iv ac, jv gc, .second, jv gd, .second, jv ca, .second, jv cb, .second, rv b10, iv 0, iv 1, iv 1, iv 1, jv (j0_240_s0 la da lb db ee ss ac gc gd ca cb), .second, jv (w0_249 la da lb db ee ss ac gc gd ca cb), .second, .unset, .unset, .unset, .unset] [(.long (j0_266_s0 la da lb db ee ss ac gc gd ca cb))])) := by
            intro T29 L29 X29 e29 N29
            refine Goes.run X29 hx hown hci hcl hby (L := [(266, .lstore 41, 2), (268, .lload 19, 2), (270, .lload 41, 2), (272, .lsub, 1), (273, .lstore 43, 2), (275, .iload 35, 2)]) (by decide +kernel) rfl (g' := (mkF m 277 #[jv x0, .second, jv x1, .second, jv x2, .second, jv x3, .second, jv x4, .second, iv x5, jv la, .second, jv da, .second, jv lb, .second, jv db, .second, jv ee, .second, jv ss, .second, iv ac, jv gc, .second, jv gd, .second, jv ca, .second, jv cb, .second, rv b10, iv 0, iv 1, iv 1, iv 1, jv (j0_240_s0 la da lb db ee ss ac gc gd ca cb), .second, jv (w0_249 la da lb db ee ss ac gc gd ca cb), .second, jv (j0_266_s0 la da lb db ee ss ac gc gd ca cb), .second, jv (w0_273 la da lb db ee ss ac gc gd ca cb), .second] [(.int 1)])) rfl ?_
            refine Goes.hrun X29 e29 CX own_n (L := [.b 277 .eq 44 false, .p 280 (.iload 36) 2, .b 282 .eq 39 false, .p 285 (.aload 32) 2, .p 287 (.iload 33) 2]) (by decide +kernel) rfl (g' := (mkF m 289 #[jv x0, .second, jv x1, .second, jv x2, .second, jv x3, .second, jv x4, .second, iv x5, jv la, .second, jv da, .second, jv lb, .second, jv db, .second, jv ee, .second, jv ss, .second, iv ac, jv gc, .second, jv gd, .second, jv ca, .second, jv cb, .second, rv b10, iv 0, iv 1, iv 1, iv 1, jv (j0_240_s0 la da lb db ee ss ac gc gd ca cb), .second, jv (w0_249 la da lb db ee ss ac gc gd ca cb), .second, jv (j0_266_s0 la da lb db ee ss ac gc gd ca cb), .second, jv (w0_273 la da lb db ee ss ac gc gd ca cb), .second] [(.int 0), (.ref b10)])) rfl ⟨by decide, by decide, trivial⟩ ?_
            intro T32 X32 e32
            obtain ⟨cq33, kq33, q33a, q33b, q33c⟩ := isOf hZ e32 E_b10
            obtain ⟨_, _, ⟨T33, L33, k33, n33⟩, -, X33, ⟨Lc33, hQ33, l33, y33, z33⟩, st33⟩ := X32.virtualBack hx (y := ym15) (z := ym15) hown (mvT hZ w_54) (mvT hZ w_55) (notFace_of_selects (args := #[]) (mvT hZ w_57)) (mvT hZ w_57) (mvT hZ w_56) (by decide) (backOf (W := 0) (rmR l Z a0 hw [] b10 lo11 cp11 k_lo11 k_cp11 la lb (0 : Int64) (0 : Int64) z22a (own_xa (sup0_s0 la da lb db ee ss ac gc gd ca cb) (cap0_0 la da lb db ee ss ac gc gd ca cb) (cap0_1 la da lb db ee ss ac gc gd ca cb) ca cb) z22b (own_xb (sup0_s0 la da lb db ee ss ac gc gd ca cb) (cap0_0 la da lb db ee ss ac gc gd ca cb) (cap0_1 la da lb db ee ss ac gc gd ca cb) ca cb) z22c z22d z22e z22f h22 n0 Zn22 F_lowers_b10 F_capacities_b10 V_lo11 V_cp11) hZ w_58 w_5 (by decide) (by decide)) q33a q33c (g := (mkF m 289 #[jv x0, .second, jv x1, .second, jv x2, .second, jv x3, .second, jv x4, .second, iv x5, jv la, .second, jv da, .second, jv lb, .second, jv db, .second, jv ee, .second, jv ss, .second, iv ac, jv gc, .second, jv gd, .second, jv ca, .second, jv cb, .second, rv b10, iv 0, iv 1, iv 1, iv 1, jv (j0_240_s0 la da lb db ee ss ac gc gd ca cb), .second, jv (w0_249 la da lb db ee ss ac gc gd ca cb), .second, jv (j0_266_s0 la da lb db ee ss ac gc gd ca cb), .second, jv (w0_273 la da lb db ee ss ac gc gd ca cb), .second] [(.int 0), (.ref b10)])) rfl (by rw [hml]; rfl) (Steps.refl _) (argsL := [(.int 0)]) (rest := []) (lenOf pd0_3 rfl) rfl (by show 2 * 0 + _ ≤ _; exact Nat.le_of_eq rfl) (hb hby at_289) (fun _ _ => ⟨rfl, e32, (by decide : 26 + 0 ≤ _), (by decide : 159 + 0 ≤ _)⟩)
            dsimp only [Pt.U, Pt.locs, Pt.cells, Pt.slots] at X33 l33 y33 z33 st33 hQ33
            subst l33 y33 z33
            obtain ⟨rfl, N33q, e33⟩ := hQ33
            have N33 := Fr.app N29 N33q
            refine Goes.st (fun t k => st33.trans k) ?_
            refine Goes.hrun X33 e33 CX own_n (L := [.p 292 (.lload 11) 2, .p 294 (.lload 41) 2, .p 296 .ladd 1, .p 297 .lcmp 1, .b 298 .ne 23 false, .p 301 (.aload 32) 2]) (by decide +kernel) rfl (g' := (mkF m 303 #[jv x0, .second, jv x1, .second, jv x2, .second, jv x3, .second, jv x4, .second, iv x5, jv la, .second, jv da, .second, jv lb, .second, jv db, .second, jv ee, .second, jv ss, .second, iv ac, jv gc, .second, jv gd, .second, jv ca, .second, jv cb, .second, rv b10, iv 0, iv 1, iv 1, iv 1, jv (j0_240_s0 la da lb db ee ss ac gc gd ca cb), .second, jv (w0_249 la da lb db ee ss ac gc gd ca cb), .second, jv (j0_266_s0 la da lb db ee ss ac gc gd ca cb), .second, jv (w0_273 la da lb db ee ss ac gc gd ca cb), .second] [(.ref b10)])) rfl ⟨(teqL (own_q298 HH : (rR la (own_xa (sup0_s0 la da lb db ee ss ac gc gd ca cb) (cap0_0 la da lb db ee ss ac gc gd ca cb) (cap0_1 la da lb db ee ss ac gc gd ca cb) ca cb)) = (la + (j0_266_s0 la da lb db ee ss ac gc gd ca cb)))).2, trivial⟩ ?_
            intro T35 X35 e35
            refine Goes.run X35 hx hown hci hcl hby (L := [(303, .iload 34, 2)]) (by decide +kernel) rfl (g' := (mkF m 305 #[jv x0, .second, jv x1, .second, jv x2, .second, jv x3, .second, jv x4, .second, iv x5, jv la, .second, jv da, .second, jv lb, .second, jv db, .second, jv ee, .second, jv ss, .second, iv ac, jv gc, .second, jv gd, .second, jv ca, .second, jv cb, .second, rv b10, iv 0, iv 1, iv 1, iv 1, jv (j0_240_s0 la da lb db ee ss ac gc gd ca cb), .second, jv (w0_249 la da lb db ee ss ac gc gd ca cb), .second, jv (j0_266_s0 la da lb db ee ss ac gc gd ca cb), .second, jv (w0_273 la da lb db ee ss ac gc gd ca cb), .second] [(.int 1), (.ref b10)])) rfl ?_
            obtain ⟨cq36, kq36, q36a, q36b, q36c⟩ := isOf hZ e35 E_b10
            obtain ⟨_, _, ⟨T36, L36, k36, n36⟩, -, X36, ⟨Lc36, hQ36, l36, y36, z36⟩, st36⟩ := X35.virtualBack hx (y := ym15) (z := ym15) hown (mvT hZ w_54) (mvT hZ w_55) (notFace_of_selects (args := #[]) (mvT hZ w_57)) (mvT hZ w_57) (mvT hZ w_56) (by decide) (backOf (W := 0) (rmS l Z a0 hw [] b10 lo11 cp11 k_lo11 k_cp11 la lb (0 : Int64) (0 : Int64) z22a (own_xa (sup0_s0 la da lb db ee ss ac gc gd ca cb) (cap0_0 la da lb db ee ss ac gc gd ca cb) (cap0_1 la da lb db ee ss ac gc gd ca cb) ca cb) z22b (own_xb (sup0_s0 la da lb db ee ss ac gc gd ca cb) (cap0_0 la da lb db ee ss ac gc gd ca cb) (cap0_1 la da lb db ee ss ac gc gd ca cb) ca cb) z22c z22d z22e z22f h22 n0 Zn22 F_lowers_b10 F_capacities_b10 V_lo11 V_cp11) hZ w_58 w_5 (by decide) (by decide)) q36a q36c (g := (mkF m 305 #[jv x0, .second, jv x1, .second, jv x2, .second, jv x3, .second, jv x4, .second, iv x5, jv la, .second, jv da, .second, jv lb, .second, jv db, .second, jv ee, .second, jv ss, .second, iv ac, jv gc, .second, jv gd, .second, jv ca, .second, jv cb, .second, rv b10, iv 0, iv 1, iv 1, iv 1, jv (j0_240_s0 la da lb db ee ss ac gc gd ca cb), .second, jv (w0_249 la da lb db ee ss ac gc gd ca cb), .second, jv (j0_266_s0 la da lb db ee ss ac gc gd ca cb), .second, jv (w0_273 la da lb db ee ss ac gc gd ca cb), .second] [(.int 1), (.ref b10)])) rfl (by rw [hml]; rfl) (Steps.refl _) (argsL := [(.int 1)]) (rest := []) (lenOf pd0_3 rfl) rfl (by show 2 * 0 + _ ≤ _; exact Nat.le_of_eq rfl) (hb hby at_305) (fun _ _ => ⟨rfl, e35, (by decide : 26 + 0 ≤ _), (by decide : 159 + 0 ≤ _)⟩)
            dsimp only [Pt.U, Pt.locs, Pt.cells, Pt.slots] at X36 l36 y36 z36 st36 hQ36
            subst l36 y36 z36
            obtain ⟨rfl, N36q, e36⟩ := hQ36
            have N36 := Fr.app N33 N36q
            refine Goes.st (fun t k => st36.trans k) ?_
            refine Goes.hrun X36 e36 CX own_n (L := [.p 308 (.lload 15) 2, .p 310 (.lload 43) 2, .p 312 .ladd 1, .p 313 .lcmp 1, .b 314 .ne 7 false, .p 317 (.iconst 1) 1]) (by decide +kernel) rfl (g' := (mkF m 318 #[jv x0, .second, jv x1, .second, jv x2, .second, jv x3, .second, jv x4, .second, iv x5, jv la, .second, jv da, .second, jv lb, .second, jv db, .second, jv ee, .second, jv ss, .second, iv ac, jv gc, .second, jv gd, .second, jv ca, .second, jv cb, .second, rv b10, iv 0, iv 1, iv 1, iv 1, jv (j0_240_s0 la da lb db ee ss ac gc gd ca cb), .second, jv (w0_249 la da lb db ee ss ac gc gd ca cb), .second, jv (j0_266_s0 la da lb db ee ss ac gc gd ca cb), .second, jv (w0_273 la da lb db ee ss ac gc gd ca cb), .second] [(.int 1)])) rfl ⟨(teqL (own_q314 HH : (rS lb (own_xb (sup0_s0 la da lb db ee ss ac gc gd ca cb) (cap0_0 la da lb db ee ss ac gc gd ca cb) (cap0_1 la da lb db ee ss ac gc gd ca cb) ca cb)) = (lb + (w0_273 la da lb db ee ss ac gc gd ca cb)))).2, trivial⟩ ?_
            intro T38 X38 e38
            refine Goes.run X38 hx hown hci hcl hby (L := [(318, .goto 4, 3)]) (by decide +kernel) rfl (g' := (mkF m 322 #[jv x0, .second, jv x1, .second, jv x2, .second, jv x3, .second, jv x4, .second, iv x5, jv la, .second, jv da, .second, jv lb, .second, jv db, .second, jv ee, .second, jv ss, .second, iv ac, jv gc, .second, jv gd, .second, jv ca, .second, jv cb, .second, rv b10, iv 0, iv 1, iv 1, iv 1, jv (j0_240_s0 la da lb db ee ss ac gc gd ca cb), .second, jv (w0_249 la da lb db ee ss ac gc gd ca cb), .second, jv (j0_266_s0 la da lb db ee ss ac gc gd ca cb), .second, jv (w0_273 la da lb db ee ss ac gc gd ca cb), .second] [(.int 1)])) rfl ?_
            exact Goes.retB X38 hx hlk (t := .boolean) Bd.returns (by simp) (hb hby at_322) rfl ⟨rfl, N36⟩ (by decide) (by decide)
          by_cases hc253_27 : ac = (0 : Int32)
          · skip
            refine Goes.st (B := T26.setTop (mkF m 261 #[jv x0, .second, jv x1, .second, jv x2, .second, jv x3, .second, jv x4, .second, iv x5, jv la, .second, jv da, .second, jv lb, .second, jv db, .second, jv ee, .second, jv ss, .second, iv ac, jv gc, .second, jv gd, .second, jv ca, .second, jv cb, .second, rv b10, iv 0, iv 1, iv 1, iv 1, jv (j0_240_s0 la da lb db ee ss ac gc gd ca cb), .second, jv (w0_249 la da lb db ee ss ac gc gd ca cb), .second, .unset, .unset, .unset, .unset] [])) (fun t k => ?_) ?_
            · refine XS.ifYes X26.here hx rfl (pc0 := 253) (pc' := 261) rfl (hb hby at_253) rfl ((if0 _ _).trans (teq hc253_27).1) (by decide) (by decide) ?_
              exact k
            refine Goes.run X26 hx hown hci hcl hby (L := [(261, .lload 19, 2), (263, .lload 39, 2), (265, .lsub, 1)]) (by decide +kernel) rfl (g' := (mkF m 266 #[jv x0, .second, jv x1, .second, jv x2, .second, jv x3, .second, jv x4, .second, iv x5, jv la, .second, jv da, .second, jv lb, .second, jv db, .second, jv ee, .second, jv ss, .second, iv ac, jv gc, .second, jv gd, .second, jv ca, .second, jv cb, .second, rv b10, iv 0, iv 1, iv 1, iv 1, jv (j0_240_s0 la da lb db ee ss ac gc gd ca cb), .second, jv (w0_249 la da lb db ee ss ac gc gd ca cb), .second, .unset, .unset, .unset, .unset] [(.long (ee - (w0_249 la da lb db ee ss ac gc gd ca cb)))])) rfl ?_
            have q := jn266_28 _ _ X26 e26 N26
            rw [show (j0_266_s0 la da lb db ee ss ac gc gd ca cb) = (ee - (w0_249 la da lb db ee ss ac gc gd ca cb)) from (if_pos hc253_27)] at q
            exact q
          · skip
            refine Goes.st (B := T26.setTop (mkF m 256 #[jv x0, .second, jv x1, .second, jv x2, .second, jv x3, .second, jv x4, .second, iv x5, jv la, .second, jv da, .second, jv lb, .second, jv db, .second, jv ee, .second, jv ss, .second, iv ac, jv gc, .second, jv gd, .second, jv ca, .second, jv cb, .second, rv b10, iv 0, iv 1, iv 1, iv 1, jv (j0_240_s0 la da lb db ee ss ac gc gd ca cb), .second, jv (w0_249 la da lb db ee ss ac gc gd ca cb), .second, .unset, .unset, .unset, .unset] [])) (fun t k => ?_) ?_
            · refine XS.ifNo X26.here hx rfl (hb hby at_253) rfl ((if0 _ _).trans (feq hc253_27).1) ?_
              exact k
            refine Goes.run X26 hx hown hci hcl hby (L := [(256, .lload 39, 2), (258, .goto 8, 3)]) (by decide +kernel) rfl (g' := (mkF m 266 #[jv x0, .second, jv x1, .second, jv x2, .second, jv x3, .second, jv x4, .second, iv x5, jv la, .second, jv da, .second, jv lb, .second, jv db, .second, jv ee, .second, jv ss, .second, iv ac, jv gc, .second, jv gd, .second, jv ca, .second, jv cb, .second, rv b10, iv 0, iv 1, iv 1, iv 1, jv (j0_240_s0 la da lb db ee ss ac gc gd ca cb), .second, jv (w0_249 la da lb db ee ss ac gc gd ca cb), .second, .unset, .unset, .unset, .unset] [(.long (w0_249 la da lb db ee ss ac gc gd ca cb))])) rfl ?_
            have q := jn266_28 _ _ X26 e26 N26
            rw [show (j0_266_s0 la da lb db ee ss ac gc gd ca cb) = (w0_249 la da lb db ee ss ac gc gd ca cb) from (if_neg hc253_27)] at q
            exact q
        by_cases hc230_23 : ac = (0 : Int32)
        · skip
          refine Goes.st (B := T22.setTop (mkF m 238 #[jv x0, .second, jv x1, .second, jv x2, .second, jv x3, .second, jv x4, .second, iv x5, jv la, .second, jv da, .second, jv lb, .second, jv db, .second, jv ee, .second, jv ss, .second, iv ac, jv gc, .second, jv gd, .second, jv ca, .second, jv cb, .second, rv b10, iv 0, iv 1, iv 1, iv 1, .unset, .unset, .unset, .unset, .unset, .unset, .unset, .unset] [])) (fun t k => ?_) ?_
          · refine XS.ifYes X22.here hx rfl (pc0 := 230) (pc' := 238) rfl (hb hby at_230) rfl ((if0 _ _).trans (teq hc230_23).1) (by decide) (by decide) ?_
            exact k
          refine Goes.run X22 hx hown hci hcl hby (L := [(238, .lload 17, 2)]) (by decide +kernel) rfl (g' := (mkF m 240 #[jv x0, .second, jv x1, .second, jv x2, .second, jv x3, .second, jv x4, .second, iv x5, jv la, .second, jv da, .second, jv lb, .second, jv db, .second, jv ee, .second, jv ss, .second, iv ac, jv gc, .second, jv gd, .second, jv ca, .second, jv cb, .second, rv b10, iv 0, iv 1, iv 1, iv 1, .unset, .unset, .unset, .unset, .unset, .unset, .unset, .unset] [(.long db)])) rfl ?_
          have q := jn240_24 _ _ X22 e22 N22
          rw [show (j0_240_s0 la da lb db ee ss ac gc gd ca cb) = db from (if_pos hc230_23)] at q
          exact q
        · skip
          refine Goes.st (B := T22.setTop (mkF m 233 #[jv x0, .second, jv x1, .second, jv x2, .second, jv x3, .second, jv x4, .second, iv x5, jv la, .second, jv da, .second, jv lb, .second, jv db, .second, jv ee, .second, jv ss, .second, iv ac, jv gc, .second, jv gd, .second, jv ca, .second, jv cb, .second, rv b10, iv 0, iv 1, iv 1, iv 1, .unset, .unset, .unset, .unset, .unset, .unset, .unset, .unset] [])) (fun t k => ?_) ?_
          · refine XS.ifNo X22.here hx rfl (hb hby at_230) rfl ((if0 _ _).trans (feq hc230_23).1) ?_
            exact k
          refine Goes.run X22 hx hown hci hcl hby (L := [(233, .lload 13, 2), (235, .goto 5, 3)]) (by decide +kernel) rfl (g' := (mkF m 240 #[jv x0, .second, jv x1, .second, jv x2, .second, jv x3, .second, jv x4, .second, iv x5, jv la, .second, jv da, .second, jv lb, .second, jv db, .second, jv ee, .second, jv ss, .second, iv ac, jv gc, .second, jv gd, .second, jv ca, .second, jv cb, .second, rv b10, iv 0, iv 1, iv 1, iv 1, .unset, .unset, .unset, .unset, .unset, .unset, .unset, .unset] [(.long da)])) rfl ?_
          have q := jn240_24 _ _ X22 e22 N22
          rw [show (j0_240_s0 la da lb db ee ss ac gc gd ca cb) = da from (if_neg hc230_23)] at q
          exact q
      by_cases hc113_7 : (j0_68_s0 x0 x1 x2 x3 x4 x5) = (0 : Int32)
      · skip
        refine Goes.st (B := T6.setTop (mkF m 121 #[jv x0, .second, jv x1, .second, jv x2, .second, jv x3, .second, jv x4, .second, iv x5, jv (w0_5 x0 x1 x2 x3 x4 x5), .second, jv (w0_12 x0 x1 x2 x3 x4 x5), .second, jv (w0_20 x0 x1 x2 x3 x4 x5), .second, jv (w0_28 x0 x1 x2 x3 x4 x5), .second, jv (w0_44 x0 x1 x2 x3 x4 x5), .second, jv (w0_54 x0 x1 x2 x3 x4 x5), .second, iv (j0_68_s0 x0 x1 x2 x3 x4 x5), jv (w0_78 x0 x1 x2 x3 x4 x5), .second, jv (w0_95 x0 x1 x2 x3 x4 x5), .second, jv (j0_109_s0 x0 x1 x2 x3 x4 x5), .second, .unset, .unset, .unset, .unset, .unset, .unset, .unset, .unset, .unset, .unset, .unset, .unset, .unset, .unset, .unset] [])) (fun t k => ?_) ?_
        · refine XS.ifYes X6.here hx rfl (pc0 := 113) (pc' := 121) rfl (hb hby at_113) rfl ((if0 _ _).trans (teq hc113_7).1) (by decide) (by decide) ?_
          exact k
        refine Goes.run X6 hx hown hci hcl hby (L := [(121, .lload 24, 2)]) (by decide +kernel) rfl (g' := (mkF m 123 #[jv x0, .second, jv x1, .second, jv x2, .second, jv x3, .second, jv x4, .second, iv x5, jv (w0_5 x0 x1 x2 x3 x4 x5), .second, jv (w0_12 x0 x1 x2 x3 x4 x5), .second, jv (w0_20 x0 x1 x2 x3 x4 x5), .second, jv (w0_28 x0 x1 x2 x3 x4 x5), .second, jv (w0_44 x0 x1 x2 x3 x4 x5), .second, jv (w0_54 x0 x1 x2 x3 x4 x5), .second, iv (j0_68_s0 x0 x1 x2 x3 x4 x5), jv (w0_78 x0 x1 x2 x3 x4 x5), .second, jv (w0_95 x0 x1 x2 x3 x4 x5), .second, jv (j0_109_s0 x0 x1 x2 x3 x4 x5), .second, .unset, .unset, .unset, .unset, .unset, .unset, .unset, .unset, .unset, .unset, .unset, .unset, .unset, .unset, .unset] [(.long (w0_78 x0 x1 x2 x3 x4 x5))])) rfl ?_
        have q := jn123_8 _ _ X6 e6 N6
        rw [show (j0_123_s0 x0 x1 x2 x3 x4 x5) = (w0_78 x0 x1 x2 x3 x4 x5) from (if_pos hc113_7)] at q
        exact q
      · skip
        refine Goes.st (B := T6.setTop (mkF m 116 #[jv x0, .second, jv x1, .second, jv x2, .second, jv x3, .second, jv x4, .second, iv x5, jv (w0_5 x0 x1 x2 x3 x4 x5), .second, jv (w0_12 x0 x1 x2 x3 x4 x5), .second, jv (w0_20 x0 x1 x2 x3 x4 x5), .second, jv (w0_28 x0 x1 x2 x3 x4 x5), .second, jv (w0_44 x0 x1 x2 x3 x4 x5), .second, jv (w0_54 x0 x1 x2 x3 x4 x5), .second, iv (j0_68_s0 x0 x1 x2 x3 x4 x5), jv (w0_78 x0 x1 x2 x3 x4 x5), .second, jv (w0_95 x0 x1 x2 x3 x4 x5), .second, jv (j0_109_s0 x0 x1 x2 x3 x4 x5), .second, .unset, .unset, .unset, .unset, .unset, .unset, .unset, .unset, .unset, .unset, .unset, .unset, .unset, .unset, .unset] [])) (fun t k => ?_) ?_
        · refine XS.ifNo X6.here hx rfl (hb hby at_113) rfl ((if0 _ _).trans (feq hc113_7).1) ?_
          exact k
        refine Goes.run X6 hx hown hci hcl hby (L := [(116, .lload 26, 2), (118, .goto 5, 3)]) (by decide +kernel) rfl (g' := (mkF m 123 #[jv x0, .second, jv x1, .second, jv x2, .second, jv x3, .second, jv x4, .second, iv x5, jv (w0_5 x0 x1 x2 x3 x4 x5), .second, jv (w0_12 x0 x1 x2 x3 x4 x5), .second, jv (w0_20 x0 x1 x2 x3 x4 x5), .second, jv (w0_28 x0 x1 x2 x3 x4 x5), .second, jv (w0_44 x0 x1 x2 x3 x4 x5), .second, jv (w0_54 x0 x1 x2 x3 x4 x5), .second, iv (j0_68_s0 x0 x1 x2 x3 x4 x5), jv (w0_78 x0 x1 x2 x3 x4 x5), .second, jv (w0_95 x0 x1 x2 x3 x4 x5), .second, jv (j0_109_s0 x0 x1 x2 x3 x4 x5), .second, .unset, .unset, .unset, .unset, .unset, .unset, .unset, .unset, .unset, .unset, .unset, .unset, .unset, .unset, .unset] [(.long (w0_95 x0 x1 x2 x3 x4 x5))])) rfl ?_
        have q := jn123_8 _ _ X6 e6 N6
        rw [show (j0_123_s0 x0 x1 x2 x3 x4 x5) = (w0_95 x0 x1 x2 x3 x4 x5) from (if_neg hc113_7)] at q
        exact q
    by_cases hc99_4 : (j0_68_s0 x0 x1 x2 x3 x4 x5) = (0 : Int32)
    · skip
      refine Goes.st (B := T3.setTop (mkF m 107 #[jv x0, .second, jv x1, .second, jv x2, .second, jv x3, .second, jv x4, .second, iv x5, jv (w0_5 x0 x1 x2 x3 x4 x5), .second, jv (w0_12 x0 x1 x2 x3 x4 x5), .second, jv (w0_20 x0 x1 x2 x3 x4 x5), .second, jv (w0_28 x0 x1 x2 x3 x4 x5), .second, jv (w0_44 x0 x1 x2 x3 x4 x5), .second, jv (w0_54 x0 x1 x2 x3 x4 x5), .second, iv (j0_68_s0 x0 x1 x2 x3 x4 x5), jv (w0_78 x0 x1 x2 x3 x4 x5), .second, jv (w0_95 x0 x1 x2 x3 x4 x5), .second, .unset, .unset, .unset, .unset, .unset, .unset, .unset, .unset, .unset, .unset, .unset, .unset, .unset, .unset, .unset, .unset, .unset] [])) (fun t k => ?_) ?_
      · refine XS.ifYes X3.here hx rfl (pc0 := 99) (pc' := 107) rfl (hb hby at_99) rfl ((if0 _ _).trans (teq hc99_4).1) (by decide) (by decide) ?_
        exact k
      refine Goes.run X3 hx hown hci hcl hby (L := [(107, .lload 26, 2)]) (by decide +kernel) rfl (g' := (mkF m 109 #[jv x0, .second, jv x1, .second, jv x2, .second, jv x3, .second, jv x4, .second, iv x5, jv (w0_5 x0 x1 x2 x3 x4 x5), .second, jv (w0_12 x0 x1 x2 x3 x4 x5), .second, jv (w0_20 x0 x1 x2 x3 x4 x5), .second, jv (w0_28 x0 x1 x2 x3 x4 x5), .second, jv (w0_44 x0 x1 x2 x3 x4 x5), .second, jv (w0_54 x0 x1 x2 x3 x4 x5), .second, iv (j0_68_s0 x0 x1 x2 x3 x4 x5), jv (w0_78 x0 x1 x2 x3 x4 x5), .second, jv (w0_95 x0 x1 x2 x3 x4 x5), .second, .unset, .unset, .unset, .unset, .unset, .unset, .unset, .unset, .unset, .unset, .unset, .unset, .unset, .unset, .unset, .unset, .unset] [(.long (w0_95 x0 x1 x2 x3 x4 x5))])) rfl ?_
      have q := jn109_5 _ _ X3 e3 N3
      rw [show (j0_109_s0 x0 x1 x2 x3 x4 x5) = (w0_95 x0 x1 x2 x3 x4 x5) from (if_pos hc99_4)] at q
      exact q
    · skip
      refine Goes.st (B := T3.setTop (mkF m 102 #[jv x0, .second, jv x1, .second, jv x2, .second, jv x3, .second, jv x4, .second, iv x5, jv (w0_5 x0 x1 x2 x3 x4 x5), .second, jv (w0_12 x0 x1 x2 x3 x4 x5), .second, jv (w0_20 x0 x1 x2 x3 x4 x5), .second, jv (w0_28 x0 x1 x2 x3 x4 x5), .second, jv (w0_44 x0 x1 x2 x3 x4 x5), .second, jv (w0_54 x0 x1 x2 x3 x4 x5), .second, iv (j0_68_s0 x0 x1 x2 x3 x4 x5), jv (w0_78 x0 x1 x2 x3 x4 x5), .second, jv (w0_95 x0 x1 x2 x3 x4 x5), .second, .unset, .unset, .unset, .unset, .unset, .unset, .unset, .unset, .unset, .unset, .unset, .unset, .unset, .unset, .unset, .unset, .unset] [])) (fun t k => ?_) ?_
      · refine XS.ifNo X3.here hx rfl (hb hby at_99) rfl ((if0 _ _).trans (feq hc99_4).1) ?_
        exact k
      refine Goes.run X3 hx hown hci hcl hby (L := [(102, .lload 24, 2), (104, .goto 5, 3)]) (by decide +kernel) rfl (g' := (mkF m 109 #[jv x0, .second, jv x1, .second, jv x2, .second, jv x3, .second, jv x4, .second, iv x5, jv (w0_5 x0 x1 x2 x3 x4 x5), .second, jv (w0_12 x0 x1 x2 x3 x4 x5), .second, jv (w0_20 x0 x1 x2 x3 x4 x5), .second, jv (w0_28 x0 x1 x2 x3 x4 x5), .second, jv (w0_44 x0 x1 x2 x3 x4 x5), .second, jv (w0_54 x0 x1 x2 x3 x4 x5), .second, iv (j0_68_s0 x0 x1 x2 x3 x4 x5), jv (w0_78 x0 x1 x2 x3 x4 x5), .second, jv (w0_95 x0 x1 x2 x3 x4 x5), .second, .unset, .unset, .unset, .unset, .unset, .unset, .unset, .unset, .unset, .unset, .unset, .unset, .unset, .unset, .unset, .unset, .unset] [(.long (w0_78 x0 x1 x2 x3 x4 x5))])) rfl ?_
      have q := jn109_5 _ _ X3 e3 N3
      rw [show (j0_109_s0 x0 x1 x2 x3 x4 x5) = (w0_78 x0 x1 x2 x3 x4 x5) from (if_neg hc99_4)] at q
      exact q
  by_cases hc60_1 : (x5 &&& (1 : Int32)) = (0 : Int32)
  · skip
    refine Goes.st (B := s₁.setTop (mkF m 63 #[jv x0, .second, jv x1, .second, jv x2, .second, jv x3, .second, jv x4, .second, iv x5, jv (w0_5 x0 x1 x2 x3 x4 x5), .second, jv (w0_12 x0 x1 x2 x3 x4 x5), .second, jv (w0_20 x0 x1 x2 x3 x4 x5), .second, jv (w0_28 x0 x1 x2 x3 x4 x5), .second, jv (w0_44 x0 x1 x2 x3 x4 x5), .second, jv (w0_54 x0 x1 x2 x3 x4 x5), .second, .unset, .unset, .unset, .unset, .unset, .unset, .unset, .unset, .unset, .unset, .unset, .unset, .unset, .unset, .unset, .unset, .unset, .unset, .unset, .unset, .unset, .unset] [])) (fun t k => ?_) ?_
    · refine XS.ifNo X0.here hx rfl (hb hby at_60) rfl ((if0 _ _).trans (teq hc60_1).2) ?_
      exact k
    refine Goes.run X0 hx hown hci hcl hby (L := [(63, .iconst 1, 1), (64, .goto 4, 3)]) (by decide +kernel) rfl (g' := (mkF m 68 #[jv x0, .second, jv x1, .second, jv x2, .second, jv x3, .second, jv x4, .second, iv x5, jv (w0_5 x0 x1 x2 x3 x4 x5), .second, jv (w0_12 x0 x1 x2 x3 x4 x5), .second, jv (w0_20 x0 x1 x2 x3 x4 x5), .second, jv (w0_28 x0 x1 x2 x3 x4 x5), .second, jv (w0_44 x0 x1 x2 x3 x4 x5), .second, jv (w0_54 x0 x1 x2 x3 x4 x5), .second, .unset, .unset, .unset, .unset, .unset, .unset, .unset, .unset, .unset, .unset, .unset, .unset, .unset, .unset, .unset, .unset, .unset, .unset, .unset, .unset, .unset, .unset] [(.int 1)])) rfl ?_
    have q := jn68_2 _ _ X0 e0 N0
    rw [show (j0_68_s0 x0 x1 x2 x3 x4 x5) = (1 : Int32) from (if_pos hc60_1)] at q
    exact q
  · skip
    refine Goes.st (B := s₁.setTop (mkF m 67 #[jv x0, .second, jv x1, .second, jv x2, .second, jv x3, .second, jv x4, .second, iv x5, jv (w0_5 x0 x1 x2 x3 x4 x5), .second, jv (w0_12 x0 x1 x2 x3 x4 x5), .second, jv (w0_20 x0 x1 x2 x3 x4 x5), .second, jv (w0_28 x0 x1 x2 x3 x4 x5), .second, jv (w0_44 x0 x1 x2 x3 x4 x5), .second, jv (w0_54 x0 x1 x2 x3 x4 x5), .second, .unset, .unset, .unset, .unset, .unset, .unset, .unset, .unset, .unset, .unset, .unset, .unset, .unset, .unset, .unset, .unset, .unset, .unset, .unset, .unset, .unset, .unset] [])) (fun t k => ?_) ?_
    · refine XS.ifYes X0.here hx rfl (pc0 := 60) (pc' := 67) rfl (hb hby at_60) rfl ((if0 _ _).trans (feq hc60_1).2) (by decide) (by decide) ?_
      exact k
    refine Goes.run X0 hx hown hci hcl hby (L := [(67, .iconst 0, 1)]) (by decide +kernel) rfl (g' := (mkF m 68 #[jv x0, .second, jv x1, .second, jv x2, .second, jv x3, .second, jv x4, .second, iv x5, jv (w0_5 x0 x1 x2 x3 x4 x5), .second, jv (w0_12 x0 x1 x2 x3 x4 x5), .second, jv (w0_20 x0 x1 x2 x3 x4 x5), .second, jv (w0_28 x0 x1 x2 x3 x4 x5), .second, jv (w0_44 x0 x1 x2 x3 x4 x5), .second, jv (w0_54 x0 x1 x2 x3 x4 x5), .second, .unset, .unset, .unset, .unset, .unset, .unset, .unset, .unset, .unset, .unset, .unset, .unset, .unset, .unset, .unset, .unset, .unset, .unset, .unset, .unset, .unset, .unset] [(.int 0)])) rfl ?_
    have q := jn68_2 _ _ X0 e0 N0
    rw [show (j0_68_s0 x0 x1 x2 x3 x4 x5) = (0 : Int32) from (if_neg hc60_1)] at q
    exact q
set_option maxRecDepth 65536 in
set_option maxHeartbeats 40000000 in
theorem comes_1 {Post : Tables → Env → Array Value → State → Outcome → State → Prop} (hpost : ∀ tb e args s v u, (limb_1_1.after args s (.returned v) u = true ∧ limb_1_2.after args s (.returned v) u = true ∧ True) → FrameEnd s (.returned v) u (Jvm.fieldLocs frame_1_writes args s ++ Jvm.arrayLocs frame_1_arrays args s ++ Jvm.staticLocs frame_1_statics s) 64 384 → Post tb e args s (.returned v) u) :
    ArmFor flags0 classFile x code maxLocals ret World_1 tables_1 room_1 Calls_1 rest_1 Pre_1 Post := by
  intro l hfl _ _ p e ha hc hk s m args below hf hA hF happ hP
  obtain ⟨hcalls, hrest, hpre⟩ := hP
  obtain ⟨-, -, -, hnamed, -, -, -, hat⟩ := (Spec.applies_iff hf).mp happ
  obtain ⟨hg, hn⟩ := and_e (Cond.before_iff.mp (show (Jvm.Cond.and given_1 narrow_1).before args s = true from hpre))
  obtain ⟨g0, g0r⟩ := and_e hg
  obtain ⟨g1, g1r⟩ := and_e g0r
  obtain ⟨g2, g2r⟩ := and_e g1r
  obtain ⟨g3, g3r⟩ := and_e g2r
  obtain ⟨g4, g4r⟩ := and_e g3r
  obtain ⟨g5, g6⟩ := and_e g4r
  obtain ⟨w0, w1, w2, w3, w4, w5, rfl⟩ : ∃ w0 w1 w2 w3 w4 w5 : Value, args = #[w0, w1, w2, w3, w4, w5] := by
    have hs : args.size = 6 := by simpa [Cond.value, given_1] using g0
    obtain ⟨L⟩ := args
    match L, hs with
    | [w0, w1, w2, w3, w4, w5], _ => exact ⟨w0, w1, w2, w3, w4, w5, rfl⟩
  have hw := fun d (hd : d ∈ tables_1) => atoms_spec (ws := Jvm.Cond.code x code maxLocals ret :: tables_1) hat d (List.mem_cons_of_mem _ hd)
  have hfit : Fit s := fun {y c} hc i hi => by
    obtain ⟨ha, rfl⟩ := Array.getElem?_eq_some_iff.mp hc
    have q := List.all_eq_true.mp ((Array.all_eq_true_iff_forall_mem.mp hF) _ (Array.getElem_mem ha)) i (List.mem_range.mpr hi)
    simpa [Array.getElem?_eq_getElem hi] using q
  obtain ⟨i0, ei0⟩ := isL_v g1
  obtain rfl : w0 = (.long i0) := Option.some.inj ei0
  obtain ⟨i1, ei1⟩ := isL_v g2
  obtain rfl : w1 = (.long i1) := Option.some.inj ei1
  obtain ⟨i2, ei2⟩ := isL_v g3
  obtain rfl : w2 = (.long i2) := Option.some.inj ei2
  obtain ⟨i3, ei3⟩ := isL_v g4
  obtain rfl : w3 = (.long i3) := Option.some.inj ei3
  obtain ⟨i4, ei4⟩ := isL_v g5
  obtain rfl : w4 = (.long i4) := Option.some.inj ei4
  obtain ⟨i5, ei5⟩ := is_v g6
  obtain rfl : w5 = (.int i5) := Option.some.inj ei5
  obtain ⟨n, o, h1, h2, h3, v, L, rfl, hv, hq⟩ := rm0 l s _ hw tables_1 i0 i1 i2 i3 i4 i5  s.heap s.heap.size (Nat.le_refl _)  p e ha hc hk s m _ below hf ((Spec.applies_iff_loose hf).mp happ).1 ⟨rfl, State.Warmed39.refl s, rfl⟩ trivial
  have N := hv.2
  have hv1 : v = some (.int 1) := hv.1
  subst hv1
  refine ⟨n, _, h1, h2, h3, hpost _ _ _ _ _ _ ⟨Cond.after_iff.mpr rfl, Cond.after_iff.mpr (eq_i res_at (Term.int_eval (1)) rfl), trivial⟩ ⟨hq.1, hq.2.1, (hq.2.2.sift fun y hy => Or.inr (N y hy)).mono (by decide) (by decide)⟩⟩
theorem main_1_1 : Claimed_1_1 := comes_1 fun _ _ _ _ _ _ h hF => ⟨h.1, hF⟩
theorem main_1_2 : Claimed_1_2 := comes_1 fun _ _ _ _ _ _ h hF => ⟨h.2.1, hF⟩
end Jvm.Pilot.@@N@@
namespace Jvm.Pilot.@@N@@
open Jvm Jvm.ClassFile Sem Op Lib Jvm.Free Jvm.Stand Jvm.Pilot.@@N@@.Jvm.D
/-! MADE BY PROGRAM (witnessworld.py) out of the Statement's table words and the real class files: 17 classes; the members and pool entries that the words name. The judged class is class 1, her method 1. -/
namespace start1
open Jvm.ClassFile
def u (s : String) : CpInfo := .utf8 (stringToUtf16 s)
/-- a pool by its gaps: so many unusable entries, then the entry; so many at the end -/
def gap : Nat → List CpInfo → List CpInfo
  | 0, r => r
  | n + 1, r => .unusable :: gap n r
def poolList (es : List (Nat × CpInfo)) (last : Nat) : List CpInfo := es.foldr (fun e r => gap e.1 (e.2 :: r)) (gap last [])
def pool (es : List (Nat × CpInfo)) (last : Nat) : Array CpInfo := ⟨poolList es last⟩
def fileOf (pool : Array CpInfo) (this : Nat) (attrs : Array Attribute := #[]) (ms : Array MethodInfo := #[]) (fl : Nat := 33) (sup : Nat := 0) (ifs : Array Nat := #[]) (fds : Array FieldInfo := #[]) : ClassFile where
  minorVersion := 0
  majorVersion := 65
  constantPool := pool
  accessFlags := fl
  thisClass := this
  superClass := sup
  interfaces := ifs
  fields := fds
  methods := ms
  attributes := attrs
def plain (name : String) (sup : Option ClassId) : Class where
  name := name
  kind := .ordinary
  loader := none
  accessFlags := 33
  super := sup
  interfaces := #[]
  cf := none
  fields := #[]
  methods := #[]
  instanceTypes := #[]
  staticTypes := #[]
  resolved := #[]
  callSites := []
  init := .initialized
  statics := none
  mirror := none

def pool0 : Array CpInfo := pool [(5, u "<init>"), (0, u "()V"), (1, .class_ 10), (1, u "java/lang/Object")] 113

def k0c0 : Code := { maxStack := 0, maxLocals := 1, code := object_method_1_code, exceptionTable := #[], attributes := #[] }
def k0m0 : Method := { name := "<init>", desc := "()V", sig := { parameters := [], returnType := none }, accessFlags := 1, code := some k0c0 }
/-- java/lang/Object -/
def k0 : Class := { plain "java/lang/Object" none with
  accessFlags := 33
  interfaces := #[]
  cf := some (fileOf pool0 8 #[] #[{ accessFlags := 1, nameIndex := 5, descriptorIndex := 6, attributes := #[] }] 33 0 #[] #[])
  fields := #[]
  methods := #[k0m0]
  instanceTypes := #[]
  staticTypes := #[]
  resolved := Array.replicate 124 none
  statics := none }

def pool1 : Array CpInfo := pool [(2, .class_ 4), (1, u "java/lang/Object"), (0, u "<init>"), (0, u "()V"), (0, .long 4294967295), (3, .long 9223372036854775807), (1, .integer 65535), (0, .class_ 15), (0, u "com/example/kubera/kubera/FlowNetwork"), (0, .methodref 14 17), (0, .nameAndType 5 18), (0, u "(I)V"), (0, .methodref 14 20), (0, .nameAndType 21 22), (0, u "addArc"), (0, u "(IIJJJ)I"), (0, .methodref 14 24), (0, .nameAndType 25 26), (0, u "addSupply"), (0, u "(IJ)V"), (0, .methodref 14 28), (0, .nameAndType 29 30), (0, u "flow"), (0, u "(I)J"), (0, .methodref 14 32), (0, .nameAndType 33 34), (0, u "solve"), (0, u "()Z"), (0, .methodref 36 37), (0, .class_ 38), (0, .nameAndType 39 40), (0, u "java/lang/Math"), (0, u "min"), (0, u "(JJ)J"), (0, .class_ 42), (0, u "com/example/kubera/kubera/FlowNetworkFlowPinLaw"), (2, u "law"), (0, u "(JJJJJI)Z")] 3

def k1m0 : Method := { name := "<init>", desc := "()V", sig := { parameters := [], returnType := none }, accessFlags := 1, code := none }
def k1c1 : Code := { maxStack := 9, maxLocals := 45, code := code, exceptionTable := #[], attributes := #[] }
def k1m1 : Method := { name := "law", desc := "(JJJJJI)Z", sig := { parameters := [.long, .long, .long, .long, .long, .int], returnType := some .boolean }, accessFlags := 9, code := some k1c1 }
/-- com/example/kubera/kubera/FlowNetworkFlowPinLaw -/
def k1 : Class := { plain "com/example/kubera/kubera/FlowNetworkFlowPinLaw" (some 0) with
  accessFlags := 49
  interfaces := #[]
  cf := some (fileOf pool1 41 #[] #[{ accessFlags := 1, nameIndex := 5, descriptorIndex := 6, attributes := #[] }, { accessFlags := 9, nameIndex := 45, descriptorIndex := 46, attributes := #[] }] 49 2 #[] #[])
  fields := #[]
  methods := #[k1m0, k1m1]
  instanceTypes := #[]
  staticTypes := #[]
  resolved := Array.replicate 50 none
  statics := none }

def pool2 : Array CpInfo := pool [(3, .methodref 4 5), (0, .class_ 6), (0, .nameAndType 7 8), (0, u "java/lang/Object"), (0, u "<init>"), (0, u "()V"), (0, .fieldref 10 11), (0, .class_ 12), (0, .nameAndType 13 14), (0, u "com/example/kubera/kubera/FlowNetwork"), (0, u "heads"), (0, u "[I"), (0, .fieldref 10 16), (0, .nameAndType 17 14), (0, u "nextArcs"), (0, .fieldref 10 19), (0, .nameAndType 20 21), (0, u "capacities"), (0, u "[J"), (0, .fieldref 10 23), (0, .nameAndType 24 21), (0, u "costs"), (0, .fieldref 10 26), (0, .nameAndType 27 21), (0, u "lowers"), (0, .fieldref 10 29), (0, .nameAndType 30 31), (0, u "nodes"), (0, u "I"), (0, .fieldref 10 33), (0, .nameAndType 34 31), (0, u "source"), (0, .fieldref 10 36), (0, .nameAndType 37 31), (0, u "sink"), (0, .fieldref 10 39), (0, .nameAndType 40 21), (0, u "supplies"), (0, .fieldref 10 42), (0, .nameAndType 43 14), (0, u "firstArcs"), (0, .methodref 45 46), (0, .class_ 47), (0, .nameAndType 48 49), (0, u "java/util/Arrays"), (0, u "fill"), (0, u "([II)V"), (7, .fieldref 10 58), (0, .nameAndType 59 31), (0, u "arcs"), (7, .methodref 10 68), (0, .nameAndType 69 70), (0, u "link"), (0, u "(IIIJJ)V"), (2, u "flow"), (0, u "(I)J"), (0, .methodref 10 76), (0, .nameAndType 77 78), (0, u "addArc"), (0, u "(IIJJJ)I"), (0, .methodref 10 80), (0, .nameAndType 81 82), (0, u "measure"), (0, u "([J[J)Z"), (0, .methodref 10 84), (0, .nameAndType 85 86), (0, u "blockingFlow"), (0, u "([J[I[I)J"), (0, .long 9223372036854775807), (1, .methodref 45 90), (0, .nameAndType 48 91), (0, u "([JJ)V"), (0, .class_ 93), (0, u "com/example/kubera/kubera/FlowNetwork$NodeHeap"), (0, .methodref 92 95), (0, .nameAndType 7 96), (0, u "(I)V"), (0, .methodref 92 98), (0, .nameAndType 99 100), (0, u "push"), (0, u "(JI)V"), (0, .methodref 92 102), (0, .nameAndType 103 104), (0, u "isEmpty"), (0, u "()Z"), (0, .methodref 92 106), (0, .nameAndType 107 108), (0, u "popNode"), (0, u "()I"), (0, .methodref 10 110), (0, .nameAndType 111 112), (0, u "admissible"), (0, u "(II[J)Z"), (0, .methodref 114 115), (0, .class_ 116), (0, .nameAndType 117 118), (0, u "java/lang/System"), (0, u "arraycopy"), (0, u "(Ljava/lang/Object;ILjava/lang/Object;II)V"), (0, .long 2305843009213693951), (1, .methodref 122 123), (0, .class_ 124), (0, .nameAndType 125 126), (0, u "java/lang/Math"), (0, u "min"), (0, u "(JJ)J"), (0, u "UNBOUNDED"), (0, u "J"), (1, u "UNREACHED"), (2, u "addSupply"), (0, u "(IJ)V"), (3, u "solve")] 9

def k2c0 : Code := { maxStack := 3, maxLocals := 2, code := prog_7_method_1_code, exceptionTable := #[], attributes := #[] }
def k2m0 : Method := { name := "<init>", desc := "(I)V", sig := { parameters := [.int], returnType := none }, accessFlags := 0, code := some k2c0 }
def k2c1 : Code := { maxStack := 6, maxLocals := 4, code := prog_7_method_2_code, exceptionTable := #[], attributes := #[] }
def k2m1 : Method := { name := "addSupply", desc := "(IJ)V", sig := { parameters := [.int, .long], returnType := none }, accessFlags := 0, code := some k2c1 }
def k2c2 : Code := { maxStack := 8, maxLocals := 10, code := prog_7_method_3_code, exceptionTable := #[], attributes := #[] }
def k2m2 : Method := { name := "addArc", desc := "(IIJJJ)I", sig := { parameters := [.int, .int, .long, .long, .long], returnType := some .int }, accessFlags := 0, code := some k2c2 }
def k2c3 : Code := { maxStack := 4, maxLocals := 8, code := prog_7_method_4_code, exceptionTable := #[], attributes := #[] }
def k2m3 : Method := { name := "link", desc := "(IIIJJ)V", sig := { parameters := [.int, .int, .int, .long, .long], returnType := none }, accessFlags := 2, code := some k2c3 }
def k2c4 : Code := { maxStack := 5, maxLocals := 2, code := prog_7_method_5_code, exceptionTable := #[], attributes := #[] }
def k2m4 : Method := { name := "flow", desc := "(I)J", sig := { parameters := [.int], returnType := some .long }, accessFlags := 0, code := some k2c4 }
def k2c5 : Code := { maxStack := 9, maxLocals := 13, code := prog_7_method_7_code, exceptionTable := #[], attributes := #[] }
def k2m5 : Method := { name := "solve", desc := "()Z", sig := { parameters := [], returnType := some .boolean }, accessFlags := 0, code := some k2c5 }
def k2c6 : Code := { maxStack := 6, maxLocals := 10, code := prog_7_method_8_code, exceptionTable := #[], attributes := #[] }
def k2m6 : Method := { name := "measure", desc := "([J[J)Z", sig := { parameters := [(.array .long), (.array .long)], returnType := some .boolean }, accessFlags := 2, code := some k2c6 }
def k2c7 : Code := { maxStack := 6, maxLocals := 14, code := prog_7_method_9_code, exceptionTable := #[], attributes := #[] }
def k2m7 : Method := { name := "blockingFlow", desc := "([J[I[I)J", sig := { parameters := [(.array .long), (.array .int), (.array .int)], returnType := some .long }, accessFlags := 2, code := some k2c7 }
def k2c8 : Code := { maxStack := 5, maxLocals := 4, code := prog_7_method_10_code, exceptionTable := #[], attributes := #[] }
def k2m8 : Method := { name := "admissible", desc := "(II[J)Z", sig := { parameters := [.int, .int, (.array .long)], returnType := some .boolean }, accessFlags := 2, code := some k2c8 }
/-- com/example/kubera/kubera/FlowNetwork -/
def k2 : Class := { plain "com/example/kubera/kubera/FlowNetwork" (some 0) with
  accessFlags := 32
  interfaces := #[]
  cf := some (fileOf pool2 10 #[.nestMembers #[92]] #[{ accessFlags := 0, nameIndex := 7, descriptorIndex := 96, attributes := #[] }, { accessFlags := 0, nameIndex := 133, descriptorIndex := 134, attributes := #[] }, { accessFlags := 0, nameIndex := 77, descriptorIndex := 78, attributes := #[] }, { accessFlags := 2, nameIndex := 69, descriptorIndex := 70, attributes := #[] }, { accessFlags := 0, nameIndex := 73, descriptorIndex := 74, attributes := #[] }, { accessFlags := 0, nameIndex := 138, descriptorIndex := 104, attributes := #[] }, { accessFlags := 2, nameIndex := 81, descriptorIndex := 82, attributes := #[] }, { accessFlags := 2, nameIndex := 85, descriptorIndex := 86, attributes := #[] }, { accessFlags := 2, nameIndex := 111, descriptorIndex := 112, attributes := #[] }] 32 4 #[] #[{ accessFlags := 24, nameIndex := 127, descriptorIndex := 128, attributes := #[] }, { accessFlags := 26, nameIndex := 130, descriptorIndex := 128, attributes := #[] }, { accessFlags := 18, nameIndex := 30, descriptorIndex := 31, attributes := #[] }, { accessFlags := 18, nameIndex := 34, descriptorIndex := 31, attributes := #[] }, { accessFlags := 18, nameIndex := 37, descriptorIndex := 31, attributes := #[] }, { accessFlags := 18, nameIndex := 40, descriptorIndex := 21, attributes := #[] }, { accessFlags := 18, nameIndex := 43, descriptorIndex := 14, attributes := #[] }, { accessFlags := 2, nameIndex := 59, descriptorIndex := 31, attributes := #[] }, { accessFlags := 2, nameIndex := 13, descriptorIndex := 14, attributes := #[] }, { accessFlags := 2, nameIndex := 17, descriptorIndex := 14, attributes := #[] }, { accessFlags := 2, nameIndex := 20, descriptorIndex := 21, attributes := #[] }, { accessFlags := 2, nameIndex := 24, descriptorIndex := 21, attributes := #[] }, { accessFlags := 2, nameIndex := 27, descriptorIndex := 21, attributes := #[] }])
  fields := #[{ name := "UNBOUNDED", type := .long, accessFlags := 24, slot := 0, constantValue := 0 }, { name := "UNREACHED", type := .long, accessFlags := 26, slot := 1, constantValue := 0 }, { name := "nodes", type := .int, accessFlags := 18, slot := 0, constantValue := 0 }, { name := "source", type := .int, accessFlags := 18, slot := 1, constantValue := 0 }, { name := "sink", type := .int, accessFlags := 18, slot := 2, constantValue := 0 }, { name := "supplies", type := (.array .long), accessFlags := 18, slot := 3, constantValue := 0 }, { name := "firstArcs", type := (.array .int), accessFlags := 18, slot := 4, constantValue := 0 }, { name := "arcs", type := .int, accessFlags := 2, slot := 5, constantValue := 0 }, { name := "heads", type := (.array .int), accessFlags := 2, slot := 6, constantValue := 0 }, { name := "nextArcs", type := (.array .int), accessFlags := 2, slot := 7, constantValue := 0 }, { name := "capacities", type := (.array .long), accessFlags := 2, slot := 8, constantValue := 0 }, { name := "costs", type := (.array .long), accessFlags := 2, slot := 9, constantValue := 0 }, { name := "lowers", type := (.array .long), accessFlags := 2, slot := 10, constantValue := 0 }]
  methods := #[k2m0, k2m1, k2m2, k2m3, k2m4, k2m5, k2m6, k2m7, k2m8]
  instanceTypes := #[.int, .int, .int, (.array .long), (.array .int), .int, (.array .int), (.array .int), (.array .long), (.array .long), (.array .long)]
  staticTypes := #[.long, .long]
  resolved := Array.replicate 148 none
  statics := none }

def pool3 : Array CpInfo := pool [(2, .class_ 4), (1, u "java/lang/Object"), (0, u "<init>"), (0, u "()V"), (7, .class_ 16), (1, u "java/util/Arrays"), (57, .class_ 76), (1, u "java/util/Arrays$NaturalOrder"), (36, .class_ 115), (1, u "java/util/Arrays$LegacyMergeSort"), (1, u "Z"), (257, .class_ 376), (0, u "java/util/Arrays$ArrayList"), (68, u "$assertionsDisabled"), (269, u "MIN_ARRAY_SORT_GRAN"), (0, u "I"), (2, u "INSERTIONSORT_THRESHOLD"), (120, u "fill"), (0, u "([JJ)V"), (3, u "([II)V"), (129, .class_ 976), (0, u "java/util/Arrays$ArrayItr")] 52

def k3m0 : Method := { name := "<init>", desc := "()V", sig := { parameters := [], returnType := none }, accessFlags := 2, code := none }
def k3c1 : Code := { maxStack := 4, maxLocals := 5, code := jdk_65_method_101_code, exceptionTable := #[], attributes := #[] }
def k3m1 : Method := { name := "fill", desc := "([JJ)V", sig := { parameters := [(.array .long), .long], returnType := none }, accessFlags := 9, code := some k3c1 }
def k3c2 : Code := { maxStack := 3, maxLocals := 4, code := jdk_65_method_103_code, exceptionTable := #[], attributes := #[] }
def k3m2 : Method := { name := "fill", desc := "([II)V", sig := { parameters := [(.array .int), .int], returnType := none }, accessFlags := 9, code := some k3c2 }
/-- java/util/Arrays -/
def k3 : Class := { plain "java/util/Arrays" (some 0) with
  accessFlags := 49
  interfaces := #[]
  cf := some (fileOf pool3 14 #[.nestMembers #[975, 375, 113, 74]] #[{ accessFlags := 2, nameIndex := 5, descriptorIndex := 6, attributes := #[] }, { accessFlags := 9, nameIndex := 840, descriptorIndex := 841, attributes := #[] }, { accessFlags := 9, nameIndex := 840, descriptorIndex := 845, attributes := #[] }] 49 2 #[] #[{ accessFlags := 26, nameIndex := 715, descriptorIndex := 716, attributes := #[] }, { accessFlags := 26, nameIndex := 719, descriptorIndex := 716, attributes := #[] }, { accessFlags := 4120, nameIndex := 445, descriptorIndex := 117, attributes := #[] }])
  fields := #[{ name := "MIN_ARRAY_SORT_GRAN", type := .int, accessFlags := 26, slot := 0, constantValue := 0 }, { name := "INSERTIONSORT_THRESHOLD", type := .int, accessFlags := 26, slot := 1, constantValue := 0 }, { name := "$assertionsDisabled", type := .boolean, accessFlags := 4120, slot := 2, constantValue := 0 }]
  methods := #[k3m0, k3m1, k3m2]
  instanceTypes := #[]
  staticTypes := #[.int, .int, .boolean]
  resolved := Array.replicate 1029 none
  statics := none }

def pool4 : Array CpInfo := pool [(1, .class_ 2), (0, u "java/lang/Math"), (1, .class_ 6), (1, u "java/lang/Object"), (0, u "<init>"), (0, u "()V"), (89, .class_ 100), (1, u "java/lang/Math$RandomNumberGeneratorHolder"), (20, u "(JJ)J"), (50, u "negativeZeroFloatBits"), (0, u "J"), (2, u "negativeZeroDoubleBits"), (21, u "max"), (2, u "min"), (43, u "$assertionsDisabled"), (0, u "Z"), (88, u "(II)I"), (2, u "twoToTheDoubleScaleDown"), (0, u "D"), (4, u "twoToTheDoubleScaleUp"), (9, u "E"), (3, u "PI"), (2, u "TAU"), (2, u "DEGREES_TO_RADIANS"), (0, u "RADIANS_TO_DEGREES")] 94

def k4m0 : Method := { name := "<init>", desc := "()V", sig := { parameters := [], returnType := none }, accessFlags := 2, code := none }
def k4c1 : Code := { maxStack := 2, maxLocals := 2, code := jdk_29_method_65_code, exceptionTable := #[], attributes := #[] }
def k4m1 : Method := { name := "max", desc := "(II)I", sig := { parameters := [.int, .int], returnType := some .int }, accessFlags := 9, code := some k4c1 }
def k4c2 : Code := { maxStack := 4, maxLocals := 4, code := jdk_29_method_70_code, exceptionTable := #[], attributes := #[] }
def k4m2 : Method := { name := "min", desc := "(JJ)J", sig := { parameters := [.long, .long], returnType := some .long }, accessFlags := 9, code := some k4c2 }
/-- java/lang/Math -/
def k4 : Class := { plain "java/lang/Math" (some 0) with
  accessFlags := 49
  interfaces := #[]
  cf := some (fileOf pool4 1 #[.nestMembers #[98]] #[{ accessFlags := 2, nameIndex := 7, descriptorIndex := 8, attributes := #[] }, { accessFlags := 9, nameIndex := 198, descriptorIndex := 335, attributes := #[] }, { accessFlags := 9, nameIndex := 201, descriptorIndex := 121, attributes := #[] }] 49 4 #[] #[{ accessFlags := 25, nameIndex := 354, descriptorIndex := 339, attributes := #[] }, { accessFlags := 25, nameIndex := 358, descriptorIndex := 339, attributes := #[] }, { accessFlags := 25, nameIndex := 361, descriptorIndex := 339, attributes := #[] }, { accessFlags := 26, nameIndex := 364, descriptorIndex := 339, attributes := #[] }, { accessFlags := 26, nameIndex := 365, descriptorIndex := 339, attributes := #[] }, { accessFlags := 26, nameIndex := 172, descriptorIndex := 173, attributes := #[] }, { accessFlags := 26, nameIndex := 176, descriptorIndex := 173, attributes := #[] }, { accessFlags := 8, nameIndex := 344, descriptorIndex := 339, attributes := #[] }, { accessFlags := 8, nameIndex := 338, descriptorIndex := 339, attributes := #[] }, { accessFlags := 4120, nameIndex := 245, descriptorIndex := 246, attributes := #[] }])
  fields := #[{ name := "E", type := .double, accessFlags := 25, slot := 0, constantValue := 0 }, { name := "PI", type := .double, accessFlags := 25, slot := 1, constantValue := 0 }, { name := "TAU", type := .double, accessFlags := 25, slot := 2, constantValue := 0 }, { name := "DEGREES_TO_RADIANS", type := .double, accessFlags := 26, slot := 3, constantValue := 0 }, { name := "RADIANS_TO_DEGREES", type := .double, accessFlags := 26, slot := 4, constantValue := 0 }, { name := "negativeZeroFloatBits", type := .long, accessFlags := 26, slot := 5, constantValue := 0 }, { name := "negativeZeroDoubleBits", type := .long, accessFlags := 26, slot := 6, constantValue := 0 }, { name := "twoToTheDoubleScaleUp", type := .double, accessFlags := 8, slot := 7, constantValue := 0 }, { name := "twoToTheDoubleScaleDown", type := .double, accessFlags := 8, slot := 8, constantValue := 0 }, { name := "$assertionsDisabled", type := .boolean, accessFlags := 4120, slot := 9, constantValue := 0 }]
  methods := #[k4m0, k4m1, k4m2]
  instanceTypes := #[]
  staticTypes := #[.double, .double, .double, .double, .double, .long, .long, .double, .double, .boolean]
  resolved := Array.replicate 460 none
  statics := none }

def pool5 : Array CpInfo := pool [(1, .methodref 2 3), (0, .class_ 4), (0, .nameAndType 5 6), (0, u "java/lang/Object"), (0, u "<init>"), (0, u "()V"), (0, .methodref 8 9), (0, .class_ 10), (0, .nameAndType 11 12), (0, u "java/lang/Math"), (0, u "max"), (0, u "(II)I"), (0, .fieldref 14 15), (0, .class_ 16), (0, .nameAndType 17 18), (0, u "com/example/kubera/kubera/FlowNetwork$NodeHeap"), (0, u "keys"), (0, u "[J"), (0, .fieldref 14 20), (0, .nameAndType 21 22), (0, u "values"), (0, u "[I"), (0, .fieldref 14 24), (0, .nameAndType 25 26), (0, u "size"), (0, u "I"), (9, u "(I)V"), (2, u "isEmpty"), (0, u "()Z"), (1, u "push"), (0, u "(JI)V"), (0, u "popNode"), (0, u "()I"), (3, .class_ 50), (0, u "com/example/kubera/kubera/FlowNetwork")] 2

def k5c0 : Code := { maxStack := 3, maxLocals := 2, code := prog_8_method_1_code, exceptionTable := #[], attributes := #[] }
def k5m0 : Method := { name := "<init>", desc := "(I)V", sig := { parameters := [.int], returnType := none }, accessFlags := 0, code := some k5c0 }
def k5c1 : Code := { maxStack := 1, maxLocals := 1, code := prog_8_method_2_code, exceptionTable := #[], attributes := #[] }
def k5m1 : Method := { name := "isEmpty", desc := "()Z", sig := { parameters := [], returnType := some .boolean }, accessFlags := 0, code := some k5c1 }
def k5c2 : Code := { maxStack := 4, maxLocals := 6, code := prog_8_method_3_code, exceptionTable := #[], attributes := #[] }
def k5m2 : Method := { name := "push", desc := "(JI)V", sig := { parameters := [.long, .int], returnType := none }, accessFlags := 0, code := some k5c2 }
def k5c3 : Code := { maxStack := 4, maxLocals := 7, code := prog_8_method_4_code, exceptionTable := #[], attributes := #[] }
def k5m3 : Method := { name := "popNode", desc := "()I", sig := { parameters := [], returnType := some .int }, accessFlags := 0, code := some k5c3 }
/-- com/example/kubera/kubera/FlowNetwork$NodeHeap -/
def k5 : Class := { plain "com/example/kubera/kubera/FlowNetwork$NodeHeap" (some 0) with
  accessFlags := 32
  interfaces := #[]
  cf := some (fileOf pool5 14 #[.nestHost 49] #[{ accessFlags := 0, nameIndex := 5, descriptorIndex := 36, attributes := #[] }, { accessFlags := 0, nameIndex := 39, descriptorIndex := 40, attributes := #[] }, { accessFlags := 0, nameIndex := 42, descriptorIndex := 43, attributes := #[] }, { accessFlags := 0, nameIndex := 44, descriptorIndex := 45, attributes := #[] }] 32 2 #[] #[{ accessFlags := 2, nameIndex := 17, descriptorIndex := 18, attributes := #[] }, { accessFlags := 2, nameIndex := 21, descriptorIndex := 22, attributes := #[] }, { accessFlags := 2, nameIndex := 25, descriptorIndex := 26, attributes := #[] }])
  fields := #[{ name := "keys", type := (.array .long), accessFlags := 2, slot := 0, constantValue := 0 }, { name := "values", type := (.array .int), accessFlags := 2, slot := 1, constantValue := 0 }, { name := "size", type := .int, accessFlags := 2, slot := 2, constantValue := 0 }]
  methods := #[k5m0, k5m1, k5m2, k5m3]
  instanceTypes := #[(.array .long), (.array .int), .int]
  staticTypes := #[]
  resolved := Array.replicate 53 none
  statics := none }

def pool6 : Array CpInfo := pool [(2, .class_ 4), (1, u "java/lang/Object"), (0, u "<init>"), (0, u "()V"), (1, .class_ 10), (1, u "java/lang/System"), (0, u "allowSecurityManager"), (0, u "I"), (16, u "cons"), (0, u "Ljava/io/Console;"), (77, .class_ 110), (1, u "java/lang/System$CallersHolder"), (43, u "initialErrStream"), (0, u "Ljava/io/PrintStream;"), (19, u "security"), (0, u "Ljava/lang/SecurityManager;"), (31, .class_ 209), (0, u "java/lang/System$1"), (7, u "props"), (0, u "Ljava/util/Properties;"), (2, u "lineSeparator"), (0, u "Ljava/lang/String;"), (96, .class_ 321), (1, u "java/lang/System$LoggerFinder"), (5, .class_ 328), (0, u "java/lang/System$Logger"), (67, u "err"), (2, u "out"), (91, u "notSupportedJnuEncoding"), (15, u "in"), (17, u "initialIn"), (0, u "Ljava/io/InputStream;"), (35, u "bootLayer"), (0, u "Ljava/lang/ModuleLayer;"), (99, .class_ 664), (0, u "java/lang/System$2"), (9, u "NEVER"), (2, u "MAYBE"), (49, u "arraycopy"), (0, u "(Ljava/lang/Object;ILjava/lang/Object;II)V"), (72, .class_ 802), (0, u "java/lang/System$Logger$Level")] 31

def k6m0 : Method := { name := "<init>", desc := "()V", sig := { parameters := [], returnType := none }, accessFlags := 2, code := none }
def k6m1 : Method := { name := "arraycopy", desc := "(Ljava/lang/Object;ILjava/lang/Object;II)V", sig := { parameters := [(.object "java/lang/Object"), .int, (.object "java/lang/Object"), .int, .int], returnType := none }, accessFlags := 265, code := none }
/-- java/lang/System -/
def k6 : Class := { plain "java/lang/System" (some 0) with
  accessFlags := 49
  interfaces := #[]
  cf := some (fileOf pool6 8 #[.nestMembers #[319, 327, 801, 108, 663, 208]] #[{ accessFlags := 2, nameIndex := 5, descriptorIndex := 6, attributes := #[] }, { accessFlags := 265, nameIndex := 727, descriptorIndex := 728, attributes := #[] }] 49 2 #[] #[{ accessFlags := 25, nameIndex := 507, descriptorIndex := 526, attributes := #[] }, { accessFlags := 25, nameIndex := 399, descriptorIndex := 155, attributes := #[] }, { accessFlags := 25, nameIndex := 396, descriptorIndex := 155, attributes := #[] }, { accessFlags := 10, nameIndex := 525, descriptorIndex := 526, attributes := #[] }, { accessFlags := 26, nameIndex := 674, descriptorIndex := 12, attributes := #[] }, { accessFlags := 26, nameIndex := 677, descriptorIndex := 12, attributes := #[] }, { accessFlags := 10, nameIndex := 11, descriptorIndex := 12, attributes := #[] }, { accessFlags := 74, nameIndex := 175, descriptorIndex := 176, attributes := #[] }, { accessFlags := 10, nameIndex := 491, descriptorIndex := 222, attributes := #[] }, { accessFlags := 74, nameIndex := 29, descriptorIndex := 30, attributes := #[] }, { accessFlags := 74, nameIndex := 154, descriptorIndex := 155, attributes := #[] }, { accessFlags := 10, nameIndex := 217, descriptorIndex := 218, attributes := #[] }, { accessFlags := 10, nameIndex := 221, descriptorIndex := 222, attributes := #[] }, { accessFlags := 8, nameIndex := 562, descriptorIndex := 563, attributes := #[] }])
  fields := #[{ name := "in", type := (.object "java/io/InputStream"), accessFlags := 25, slot := 0, constantValue := 0 }, { name := "out", type := (.object "java/io/PrintStream"), accessFlags := 25, slot := 1, constantValue := 0 }, { name := "err", type := (.object "java/io/PrintStream"), accessFlags := 25, slot := 2, constantValue := 0 }, { name := "initialIn", type := (.object "java/io/InputStream"), accessFlags := 10, slot := 3, constantValue := 0 }, { name := "NEVER", type := .int, accessFlags := 26, slot := 4, constantValue := 0 }, { name := "MAYBE", type := .int, accessFlags := 26, slot := 5, constantValue := 0 }, { name := "allowSecurityManager", type := .int, accessFlags := 10, slot := 6, constantValue := 0 }, { name := "security", type := (.object "java/lang/SecurityManager"), accessFlags := 74, slot := 7, constantValue := 0 }, { name := "notSupportedJnuEncoding", type := (.object "java/lang/String"), accessFlags := 10, slot := 8, constantValue := 0 }, { name := "cons", type := (.object "java/io/Console"), accessFlags := 74, slot := 9, constantValue := 0 }, { name := "initialErrStream", type := (.object "java/io/PrintStream"), accessFlags := 74, slot := 10, constantValue := 0 }, { name := "props", type := (.object "java/util/Properties"), accessFlags := 10, slot := 11, constantValue := 0 }, { name := "lineSeparator", type := (.object "java/lang/String"), accessFlags := 10, slot := 12, constantValue := 0 }, { name := "bootLayer", type := (.object "java/lang/ModuleLayer"), accessFlags := 8, slot := 13, constantValue := 0 }]
  methods := #[k6m0, k6m1]
  instanceTypes := #[]
  staticTypes := #[(.object "java/io/InputStream"), (.object "java/io/PrintStream"), (.object "java/io/PrintStream"), (.object "java/io/InputStream"), .int, .int, .int, (.object "java/lang/SecurityManager"), (.object "java/lang/String"), (.object "java/io/Console"), (.object "java/io/PrintStream"), (.object "java/util/Properties"), (.object "java/lang/String"), (.object "java/lang/ModuleLayer")]
  resolved := Array.replicate 834 none
  statics := none }

def pool7 : Array CpInfo := pool [(1, u "java/lang/Cloneable"), (0, .class_ 1), (0, u "java/lang/Object"), (0, .class_ 3)] 3

/-- java/lang/Cloneable -/
def k7 : Class := { plain "java/lang/Cloneable" (some 0) with
  accessFlags := 1537
  interfaces := #[]
  cf := some (fileOf pool7 2 #[] #[] 1537 4 #[] #[])
  fields := #[]
  methods := #[]
  instanceTypes := #[]
  staticTypes := #[]
  resolved := Array.replicate 8 none
  statics := none }

def pool8 : Array CpInfo := pool [(1, u "java/io/Serializable"), (0, .class_ 1), (0, u "java/lang/Object"), (0, .class_ 3)] 3

/-- java/io/Serializable -/
def k8 : Class := { plain "java/io/Serializable" (some 0) with
  accessFlags := 1537
  interfaces := #[]
  cf := some (fileOf pool8 2 #[] #[] 1537 4 #[] #[])
  fields := #[]
  methods := #[]
  instanceTypes := #[]
  staticTypes := #[]
  resolved := Array.replicate 8 none
  statics := none }

/-- the primitive boolean -/
def k9 : Class := { plain "boolean" none with kind := .primitive 'Z', accessFlags := 0x411 }
/-- [Z -/
def k10 : Class := { plain "[Z" (some 0) with kind := .array 9 .boolean, interfaces := #[7, 8], accessFlags := 1041 }

/-- the primitive byte -/
def k11 : Class := { plain "byte" none with kind := .primitive 'B', accessFlags := 0x411 }
/-- [B -/
def k12 : Class := { plain "[B" (some 0) with kind := .array 11 .byte, interfaces := #[7, 8], accessFlags := 1041 }

/-- the primitive int -/
def k13 : Class := { plain "int" none with kind := .primitive 'I', accessFlags := 0x411 }
/-- [I -/
def k14 : Class := { plain "[I" (some 0) with kind := .array 13 .int, interfaces := #[7, 8], accessFlags := 1041 }

/-- the primitive long -/
def k15 : Class := { plain "long" none with kind := .primitive 'J', accessFlags := 0x411 }
/-- [J -/
def k16 : Class := { plain "[J" (some 0) with kind := .array 15 .long, interfaces := #[7, 8], accessFlags := 1041 }

def heap : Heap := #[]
def classes : Array Class := #[k0, k1, k2, k3, k4, k5, k6, k7, k8, k9, k10, k11, k12, k13, k14, k15, k16]
def interned : List (Array UInt16 × Addr) := []
def slotsUsed : Nat := 0
def theMethod : MethodId := ⟨1, 1⟩
def args0 : Array Value := #[.long 5, .long 7, .long 11, .long 3, .long 6, .int 9]
def aboutOver (below : List Frame) : State where
  vm := { classes := classes, interned := interned.toArray }
  heap := heap
  slotsUsed := slotsUsed
  threads := #[{ frames := .invoking theMethod args0 :: below }]
def below0 : List Frame := [.native { method := ⟨0, 0⟩, args := #[] }]
def about1 : State := aboutOver below0
def p0 : Program := .bare "" "" ""
def e0 : Env := launch0.env 0 0 0
theorem w_frames : about1.frames = Frame.invoking theMethod args0 :: below0 := rfl
set_option maxRecDepth 65536 in
theorem w_args : argsFit about1.vm theMethod args0 = true := by decide +kernel
set_option maxRecDepth 65536 in
theorem w_heap : heapFits about1 = true := by decide +kernel
set_option maxRecDepth 65536 in
theorem w_runnable : about1.curStatus? = some .runnable := by decide +kernel
set_option maxRecDepth 65536 in
theorem w_alone : about1.alone = true := by decide +kernel
set_option maxRecDepth 65536 in
theorem w_named : about1.methodNamed? x = some theMethod := by decide +kernel
set_option maxRecDepth 65536 in
theorem w_hears : about1.hears theMethod below0 = true := by decide +kernel
set_option maxRecDepth 65536 in
theorem w_ripe : about1.ripe theMethod args0 below0 = true := by decide +kernel
theorem w_running : about1.status = .running := rfl
set_option maxRecDepth 65536 in
theorem w_room : about1.hasRoom e0.platform room_1 = true :=
  launch0.hasRoom_least _ room_1 (by decide +kernel) (by decide +kernel) (by decide +kernel) (by decide +kernel) (by decide +kernel) (by decide +kernel)
theorem allAtoms_all (ts : List Jvm.Cond) (a : Array Jvm.Value) (st : Jvm.State) : (allAtoms ts).before a st = ts.all (fun c => c.before a st) := by
  induction ts with
  | nil => rfl
  | cons c t ih =>
    show (Jvm.Cond.and c (allAtoms t)).before a st = _
    rw [Jvm.Cond.before_and, ih, List.all_cons]
def words1 : List Jvm.Cond := Jvm.Cond.code x code maxLocals ret :: tables_1
/-- a 'code' word, met by the world's own term for the bytes: nothing is compared byte by byte -/
theorem code_word {y : MethodName} {bytes : ByteArray} {mx : Nat} {rt : Option FieldType} {a : Array Value} {s : State} {m : MethodId} {meth : Method} {c : Code} (h1 : s.methodNamed? y = some m) (h2 : s.vm.method? m = some meth) (h3 : meth.code = some c) (h4 : c.code = bytes)
    (h5 : (c.maxLocals == mx && c.exceptionTable.isEmpty && decide (c.maxStack ≤ mostOperands) && decide (meth.sig.returnType = rt) && !meth.locks && decide (parseMethodDescriptor y.desc = some meth.sig)) = true) : (Jvm.Cond.code y bytes mx rt).before a s = true := by
  simp only [Bool.and_eq_true, beq_iff_eq, Bool.not_eq_true', decide_eq_true_eq] at h5
  obtain ⟨⟨⟨⟨⟨g1, g2⟩, g3⟩, g4⟩, g5⟩, g6⟩ := h5
  simp [Cond.before, Cond.holds, Cond.value, h1, h2, h3, h4, g1, g2, g3, g4, g5, g6]
def isCode : Jvm.Cond → Bool
  | .code _ _ _ _ => true
  | _ => false
theorem all_split {L : List Jvm.Cond} {P : Jvm.Cond → Bool} (h1 : L.all (fun c => isCode c || P c) = true) (h2 : ∀ c ∈ L.filter isCode, P c = true) : L.all P = true := by
  refine List.all_eq_true.mpr fun c hc => ?_
  have h := List.all_eq_true.mp h1 c hc
  rcases Bool.eq_false_or_eq_true (isCode c) with hi | hi
  · exact h2 c (List.mem_filter.mpr ⟨hc, hi⟩)
  · simpa [hi] using h
set_option maxRecDepth 65536 in
theorem w_c0 : (Jvm.Cond.code x code maxLocals ret).before args0 about1 = true := code_word (m := ⟨1, 1⟩) (meth := k1m1) (c := k1c1) (by decide +kernel) rfl rfl rfl (by decide +kernel)
set_option maxRecDepth 65536 in
theorem w_c1 : (Jvm.Cond.code ({ cls := "com/example/kubera/kubera/FlowNetwork", name := "<init>", desc := "(I)V" } : Jvm.MethodName) prog_7_method_1_code (2 : Nat) (Option.none : Option Jvm.ClassFile.FieldType)).before args0 about1 = true := code_word (m := ⟨2, 0⟩) (meth := k2m0) (c := k2c0) (by decide +kernel) rfl rfl rfl (by decide +kernel)
set_option maxRecDepth 65536 in
theorem w_c2 : (Jvm.Cond.code ({ cls := "java/lang/Object", name := "<init>", desc := "()V" } : Jvm.MethodName) object_method_1_code (1 : Nat) (Option.none : Option Jvm.ClassFile.FieldType)).before args0 about1 = true := code_word (m := ⟨0, 0⟩) (meth := k0m0) (c := k0c0) (by decide +kernel) rfl rfl rfl (by decide +kernel)
set_option maxRecDepth 65536 in
theorem w_c3 : (Jvm.Cond.code ({ cls := "java/util/Arrays", name := "fill", desc := "([II)V" } : Jvm.MethodName) jdk_65_method_103_code (4 : Nat) (Option.none : Option Jvm.ClassFile.FieldType)).before args0 about1 = true := code_word (m := ⟨3, 2⟩) (meth := k3m2) (c := k3c2) (by decide +kernel) rfl rfl rfl (by decide +kernel)
set_option maxRecDepth 65536 in
theorem w_c4 : (Jvm.Cond.code ({ cls := "com/example/kubera/kubera/FlowNetwork", name := "addArc", desc := "(IIJJJ)I" } : Jvm.MethodName) prog_7_method_3_code (10 : Nat) (Option.some Jvm.ClassFile.FieldType.int)).before args0 about1 = true := code_word (m := ⟨2, 2⟩) (meth := k2m2) (c := k2c2) (by decide +kernel) rfl rfl rfl (by decide +kernel)
set_option maxRecDepth 65536 in
theorem w_c5 : (Jvm.Cond.code ({ cls := "com/example/kubera/kubera/FlowNetwork", name := "link", desc := "(IIIJJ)V" } : Jvm.MethodName) prog_7_method_4_code (8 : Nat) (Option.none : Option Jvm.ClassFile.FieldType)).before args0 about1 = true := code_word (m := ⟨2, 3⟩) (meth := k2m3) (c := k2c3) (by decide +kernel) rfl rfl rfl (by decide +kernel)
set_option maxRecDepth 65536 in
theorem w_c6 : (Jvm.Cond.code ({ cls := "com/example/kubera/kubera/FlowNetwork", name := "addSupply", desc := "(IJ)V" } : Jvm.MethodName) prog_7_method_2_code (4 : Nat) (Option.none : Option Jvm.ClassFile.FieldType)).before args0 about1 = true := code_word (m := ⟨2, 1⟩) (meth := k2m1) (c := k2c1) (by decide +kernel) rfl rfl rfl (by decide +kernel)
set_option maxRecDepth 65536 in
theorem w_c7 : (Jvm.Cond.code ({ cls := "com/example/kubera/kubera/FlowNetwork", name := "flow", desc := "(I)J" } : Jvm.MethodName) prog_7_method_5_code (2 : Nat) (Option.some Jvm.ClassFile.FieldType.long)).before args0 about1 = true := code_word (m := ⟨2, 4⟩) (meth := k2m4) (c := k2c4) (by decide +kernel) rfl rfl rfl (by decide +kernel)
set_option maxRecDepth 65536 in
theorem w_c8 : (Jvm.Cond.code ({ cls := "com/example/kubera/kubera/FlowNetwork", name := "solve", desc := "()Z" } : Jvm.MethodName) prog_7_method_7_code (13 : Nat) (Option.some Jvm.ClassFile.FieldType.boolean)).before args0 about1 = true := code_word (m := ⟨2, 5⟩) (meth := k2m5) (c := k2c5) (by decide +kernel) rfl rfl rfl (by decide +kernel)
set_option maxRecDepth 65536 in
theorem w_c9 : (Jvm.Cond.code ({ cls := "java/lang/Math", name := "min", desc := "(JJ)J" } : Jvm.MethodName) jdk_29_method_70_code (4 : Nat) (Option.some Jvm.ClassFile.FieldType.long)).before args0 about1 = true := code_word (m := ⟨4, 2⟩) (meth := k4m2) (c := k4c2) (by decide +kernel) rfl rfl rfl (by decide +kernel)
set_option maxRecDepth 65536 in
theorem w_c10 : (Jvm.Cond.code ({ cls := "com/example/kubera/kubera/FlowNetwork", name := "measure", desc := "([J[J)Z" } : Jvm.MethodName) prog_7_method_8_code (10 : Nat) (Option.some Jvm.ClassFile.FieldType.boolean)).before args0 about1 = true := code_word (m := ⟨2, 6⟩) (meth := k2m6) (c := k2c6) (by decide +kernel) rfl rfl rfl (by decide +kernel)
set_option maxRecDepth 65536 in
theorem w_c11 : (Jvm.Cond.code ({ cls := "java/util/Arrays", name := "fill", desc := "([JJ)V" } : Jvm.MethodName) jdk_65_method_101_code (5 : Nat) (Option.none : Option Jvm.ClassFile.FieldType)).before args0 about1 = true := code_word (m := ⟨3, 1⟩) (meth := k3m1) (c := k3c1) (by decide +kernel) rfl rfl rfl (by decide +kernel)
set_option maxRecDepth 65536 in
theorem w_c12 : (Jvm.Cond.code ({ cls := "com/example/kubera/kubera/FlowNetwork$NodeHeap", name := "<init>", desc := "(I)V" } : Jvm.MethodName) prog_8_method_1_code (2 : Nat) (Option.none : Option Jvm.ClassFile.FieldType)).before args0 about1 = true := code_word (m := ⟨5, 0⟩) (meth := k5m0) (c := k5c0) (by decide +kernel) rfl rfl rfl (by decide +kernel)
set_option maxRecDepth 65536 in
theorem w_c13 : (Jvm.Cond.code ({ cls := "java/lang/Math", name := "max", desc := "(II)I" } : Jvm.MethodName) jdk_29_method_65_code (2 : Nat) (Option.some Jvm.ClassFile.FieldType.int)).before args0 about1 = true := code_word (m := ⟨4, 1⟩) (meth := k4m1) (c := k4c1) (by decide +kernel) rfl rfl rfl (by decide +kernel)
set_option maxRecDepth 65536 in
theorem w_c14 : (Jvm.Cond.code ({ cls := "com/example/kubera/kubera/FlowNetwork$NodeHeap", name := "push", desc := "(JI)V" } : Jvm.MethodName) prog_8_method_3_code (6 : Nat) (Option.none : Option Jvm.ClassFile.FieldType)).before args0 about1 = true := code_word (m := ⟨5, 2⟩) (meth := k5m2) (c := k5c2) (by decide +kernel) rfl rfl rfl (by decide +kernel)
set_option maxRecDepth 65536 in
theorem w_c15 : (Jvm.Cond.code ({ cls := "com/example/kubera/kubera/FlowNetwork$NodeHeap", name := "isEmpty", desc := "()Z" } : Jvm.MethodName) prog_8_method_2_code (1 : Nat) (Option.some Jvm.ClassFile.FieldType.boolean)).before args0 about1 = true := code_word (m := ⟨5, 1⟩) (meth := k5m1) (c := k5c1) (by decide +kernel) rfl rfl rfl (by decide +kernel)
set_option maxRecDepth 65536 in
theorem w_c16 : (Jvm.Cond.code ({ cls := "com/example/kubera/kubera/FlowNetwork$NodeHeap", name := "popNode", desc := "()I" } : Jvm.MethodName) prog_8_method_4_code (7 : Nat) (Option.some Jvm.ClassFile.FieldType.int)).before args0 about1 = true := code_word (m := ⟨5, 3⟩) (meth := k5m3) (c := k5c3) (by decide +kernel) rfl rfl rfl (by decide +kernel)
set_option maxRecDepth 65536 in
theorem w_c17 : (Jvm.Cond.code ({ cls := "com/example/kubera/kubera/FlowNetwork", name := "blockingFlow", desc := "([J[I[I)J" } : Jvm.MethodName) prog_7_method_9_code (14 : Nat) (Option.some Jvm.ClassFile.FieldType.long)).before args0 about1 = true := code_word (m := ⟨2, 7⟩) (meth := k2m7) (c := k2c7) (by decide +kernel) rfl rfl rfl (by decide +kernel)
set_option maxRecDepth 65536 in
theorem w_c18 : (Jvm.Cond.code ({ cls := "com/example/kubera/kubera/FlowNetwork", name := "admissible", desc := "(II[J)Z" } : Jvm.MethodName) prog_7_method_10_code (4 : Nat) (Option.some Jvm.ClassFile.FieldType.boolean)).before args0 about1 = true := code_word (m := ⟨2, 8⟩) (meth := k2m8) (c := k2c8) (by decide +kernel) rfl rfl rfl (by decide +kernel)
def codes1 : List Jvm.Cond := [Jvm.Cond.code x code maxLocals ret, Jvm.Cond.code ({ cls := "com/example/kubera/kubera/FlowNetwork", name := "<init>", desc := "(I)V" } : Jvm.MethodName) prog_7_method_1_code (2 : Nat) (Option.none : Option Jvm.ClassFile.FieldType), Jvm.Cond.code ({ cls := "java/lang/Object", name := "<init>", desc := "()V" } : Jvm.MethodName) object_method_1_code (1 : Nat) (Option.none : Option Jvm.ClassFile.FieldType), Jvm.Cond.code ({ cls := "java/util/Arrays", name := "fill", desc := "([II)V" } : Jvm.MethodName) jdk_65_method_103_code (4 : Nat) (Option.none : Option Jvm.ClassFile.FieldType), Jvm.Cond.code ({ cls := "com/example/kubera/kubera/FlowNetwork", name := "addArc", desc := "(IIJJJ)I" } : Jvm.MethodName) prog_7_method_3_code (10 : Nat) (Option.some Jvm.ClassFile.FieldType.int), Jvm.Cond.code ({ cls := "com/example/kubera/kubera/FlowNetwork", name := "link", desc := "(IIIJJ)V" } : Jvm.MethodName) prog_7_method_4_code (8 : Nat) (Option.none : Option Jvm.ClassFile.FieldType), Jvm.Cond.code ({ cls := "com/example/kubera/kubera/FlowNetwork", name := "addSupply", desc := "(IJ)V" } : Jvm.MethodName) prog_7_method_2_code (4 : Nat) (Option.none : Option Jvm.ClassFile.FieldType), Jvm.Cond.code ({ cls := "com/example/kubera/kubera/FlowNetwork", name := "flow", desc := "(I)J" } : Jvm.MethodName) prog_7_method_5_code (2 : Nat) (Option.some Jvm.ClassFile.FieldType.long), Jvm.Cond.code ({ cls := "com/example/kubera/kubera/FlowNetwork", name := "solve", desc := "()Z" } : Jvm.MethodName) prog_7_method_7_code (13 : Nat) (Option.some Jvm.ClassFile.FieldType.boolean), Jvm.Cond.code ({ cls := "java/lang/Math", name := "min", desc := "(JJ)J" } : Jvm.MethodName) jdk_29_method_70_code (4 : Nat) (Option.some Jvm.ClassFile.FieldType.long), Jvm.Cond.code ({ cls := "com/example/kubera/kubera/FlowNetwork", name := "measure", desc := "([J[J)Z" } : Jvm.MethodName) prog_7_method_8_code (10 : Nat) (Option.some Jvm.ClassFile.FieldType.boolean), Jvm.Cond.code ({ cls := "java/util/Arrays", name := "fill", desc := "([JJ)V" } : Jvm.MethodName) jdk_65_method_101_code (5 : Nat) (Option.none : Option Jvm.ClassFile.FieldType), Jvm.Cond.code ({ cls := "com/example/kubera/kubera/FlowNetwork$NodeHeap", name := "<init>", desc := "(I)V" } : Jvm.MethodName) prog_8_method_1_code (2 : Nat) (Option.none : Option Jvm.ClassFile.FieldType), Jvm.Cond.code ({ cls := "java/lang/Math", name := "max", desc := "(II)I" } : Jvm.MethodName) jdk_29_method_65_code (2 : Nat) (Option.some Jvm.ClassFile.FieldType.int), Jvm.Cond.code ({ cls := "com/example/kubera/kubera/FlowNetwork$NodeHeap", name := "push", desc := "(JI)V" } : Jvm.MethodName) prog_8_method_3_code (6 : Nat) (Option.none : Option Jvm.ClassFile.FieldType), Jvm.Cond.code ({ cls := "com/example/kubera/kubera/FlowNetwork$NodeHeap", name := "isEmpty", desc := "()Z" } : Jvm.MethodName) prog_8_method_2_code (1 : Nat) (Option.some Jvm.ClassFile.FieldType.boolean), Jvm.Cond.code ({ cls := "com/example/kubera/kubera/FlowNetwork$NodeHeap", name := "popNode", desc := "()I" } : Jvm.MethodName) prog_8_method_4_code (7 : Nat) (Option.some Jvm.ClassFile.FieldType.int), Jvm.Cond.code ({ cls := "com/example/kubera/kubera/FlowNetwork", name := "blockingFlow", desc := "([J[I[I)J" } : Jvm.MethodName) prog_7_method_9_code (14 : Nat) (Option.some Jvm.ClassFile.FieldType.long), Jvm.Cond.code ({ cls := "com/example/kubera/kubera/FlowNetwork", name := "admissible", desc := "(II[J)Z" } : Jvm.MethodName) prog_7_method_10_code (4 : Nat) (Option.some Jvm.ClassFile.FieldType.boolean)]
set_option maxRecDepth 65536 in
theorem codes_eq : words1.filter isCode = codes1 := rfl
theorem w_codes : ∀ c ∈ words1.filter isCode, c.before args0 about1 = true := by
  rw [codes_eq]
  intro c hc
  simp only [codes1, List.mem_cons, List.not_mem_nil, or_false] at hc
  rcases hc with rfl | rfl | rfl | rfl | rfl | rfl | rfl | rfl | rfl | rfl | rfl | rfl | rfl | rfl | rfl | rfl | rfl | rfl | rfl
  · exact w_c0
  · exact w_c1
  · exact w_c2
  · exact w_c3
  · exact w_c4
  · exact w_c5
  · exact w_c6
  · exact w_c7
  · exact w_c8
  · exact w_c9
  · exact w_c10
  · exact w_c11
  · exact w_c12
  · exact w_c13
  · exact w_c14
  · exact w_c15
  · exact w_c16
  · exact w_c17
  · exact w_c18
set_option maxRecDepth 65536 in
theorem w_t1 : (words1.take 24).all (fun c => isCode c || c.before args0 about1) = true := by decide +kernel
set_option maxRecDepth 65536 in
theorem w_t2 : ((words1.drop 24).take 24).all (fun c => isCode c || c.before args0 about1) = true := by decide +kernel
set_option maxRecDepth 65536 in
theorem w_t3 : (((words1.drop 24).drop 24).take 24).all (fun c => isCode c || c.before args0 about1) = true := by decide +kernel
set_option maxRecDepth 65536 in
theorem w_t4 : ((((words1.drop 24).drop 24).drop 24).take 24).all (fun c => isCode c || c.before args0 about1) = true := by decide +kernel
set_option maxRecDepth 65536 in
theorem w_t5 : (((((words1.drop 24).drop 24).drop 24).drop 24).take 24).all (fun c => isCode c || c.before args0 about1) = true := by decide +kernel
set_option maxRecDepth 65536 in
theorem w_t6 : (((((words1.drop 24).drop 24).drop 24).drop 24).drop 24).all (fun c => isCode c || c.before args0 about1) = true := by decide +kernel
theorem w_tables : (allAtoms (Jvm.Cond.code x code maxLocals ret :: tables_1)).before args0 about1 = true := by
  rw [allAtoms_all]
  show words1.all (fun c => c.before args0 about1) = true
  refine all_split ?_ w_codes
  rw [← List.take_append_drop 24 words1, List.all_append, w_t1, ← List.take_append_drop 24 (words1.drop 24), List.all_append, w_t2, ← List.take_append_drop 24 ((words1.drop 24).drop 24), List.all_append, w_t3, ← List.take_append_drop 24 (((words1.drop 24).drop 24).drop 24), List.all_append, w_t4, ← List.take_append_drop 24 ((((words1.drop 24).drop 24).drop 24).drop 24), List.all_append, w_t5, w_t6]
  rfl
set_option maxRecDepth 65536 in
theorem w_case : (Jvm.Cond.and given_1 narrow_1).before args0 about1 = true := by decide +kernel
theorem w_applies : (headSpec (Jvm.Cond.code x code maxLocals ret :: tables_1) room_1).applies x e0.platform about1 = true :=
  (Spec.applies_iff w_frames).mpr ⟨w_running, w_runnable, w_alone, w_named, w_hears, w_ripe, w_room, w_tables⟩
theorem atStart : AtStart classFile x code maxLocals ret World_1 tables_1 room_1 Calls_1 rest_1 Pre_1 launch0 p0 e0 about1 theMethod args0 below0 :=
  ⟨lists_1, trivial, launch0.admits_env _ _ _, launch0.least_env, fairChoices_fair.cas, fairChoices_fair.clock, w_frames, w_args, w_heap, w_applies, trivial, trivial, w_case⟩
end start1
theorem witness_1 : WitnessClaimed_1 := ⟨start1.p0, start1.e0, start1.about1, start1.theMethod, start1.args0, start1.below0, start1.atStart⟩
end Jvm.Pilot.@@N@@
