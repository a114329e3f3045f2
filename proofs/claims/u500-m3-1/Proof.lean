import JvmDerived
import JvmDerived.Pilot.@@N@@Statement
import JvmDerived.Pilot.@@N@@Code
set_option linter.unusedVariables false
set_option linter.unusedSimpArgs false
@@BLOCK:NumsL.lean.txt@@
namespace Jvm.Pilot.@@N@@
open Jvm Jvm.ClassFile Sem Op Lib Jvm.Free Jvm.Stand Jvm.LawKit Jvm.RoadKit Bundle Jvm.Pilot.@@N@@.Jvm.D
abbrev ym0 : MethodName := ⟨"java/lang/Math", "max", "(II)I"⟩
abbrev ym1 : MethodName := ⟨"java/lang/Integer", "numberOfLeadingZeros", "(I)I"⟩
abbrev ym2 : MethodName := ⟨"com/example/eriu/eriu/algorithm/GroupElection", "t2", "(I)J"⟩
abbrev ym3 : MethodName := ⟨"com/example/eriu/eriu/algorithm/GroupElection", "toCheck", "(I)J"⟩
abbrev ym4 : MethodName := ⟨"com/example/eriu/eriu/algorithm/GroupElection", "slots", "(II)I"⟩
abbrev ym5 : MethodName := ⟨"com/example/eriu/eriu/algorithm/GroupElection", "toDecision", "(II)J"⟩
abbrev ym6 : MethodName := ⟨"com/example/eriu/eriu/algorithm/GroupElection", "roundKs", "(III)[I"⟩
abbrev ym7 : MethodName := ⟨"com/example/eriu/eriu/algorithm/GroupElection", "roundSpans", "(III)[J"⟩
abbrev ym8 : MethodName := ⟨"com/example/eriu/eriu/algorithm/GroupElectionRoundSpansPinLaw", "kOf", "(IIII)J"⟩
abbrev ym9 : MethodName := ⟨"com/example/eriu/eriu/algorithm/GroupElectionRoundSpansPinLaw", "spanOk", "([JIIII)Z"⟩
def Goes (p : Program) (e : Env) (below : List Frame) (s : State) (Q : Option Value → Heap → List Loc → Prop) (kc ks : Nat) (A : State) : Prop :=
  ∃ s₂ o, Steps p.tables e below A s₂ ∧ s₂.status = .running ∧ Ended s₂ below o ∧ ∃ v L, o = .returned v ∧ Q v s₂.heap L ∧ FrameEnd s o s₂ L kc ks
abbrev jv (x : Int64) : Slot := .val (.long x)
def QL (w : Option Value) (n0 : Nat) (v : Option Value) (h : Heap) (L : List Loc) : Prop := v = w ∧ Fr n0 L
theorem own_selp {s : State} {args : Array Value} {y : MethodName} {n : Nat} (hins : (Cond.instantiable y.cls n).before args s = true) (hpriv : (Cond.privateMethod y).before args s = true) (hinst : (Cond.instanceMethod y).before args s = true) (hy : y.cls ≠ "java/lang/invoke/MethodHandle" ∧ y.cls ≠ "java/lang/invoke/VarHandle") : (Cond.selects y.cls y y).before args s = true := by
  obtain ⟨c, k, hc, hk, -, hniab, -, -⟩ := Cond.instantiable_spec hins
  exact selects_self_of_private hc hk (Bool.or_eq_false_iff.mp hniab).1 (Cond.privateMethod_at hpriv) hinst hy
def QP (w : Option Value) (h0 : Heap) (n0 : Nat) (v : Option Value) (h : Heap) (L : List Loc) : Prop := v = w ∧ Fr n0 L ∧ h = h0
section OwnGoes
variable {p : Program} {l : Launch} {e : Env} {R : Room} {s : State} {m : MethodId} {args : Array Value} {below : List Frame} {meth : Method} {c : Code} {T : State} {locs : List Loc} {cells slots kc ks : Nat} {Q : Option Value → Heap → List Loc → Prop}
theorem Goes.st {A B : State} (h : ∀ t, Steps p.tables e below B t → Steps p.tables e below A t) (g : Goes p e below s Q kc ks B) : Goes p e below s Q kc ks A := by
  obtain ⟨s₂, o, h1, r⟩ := g
  exact ⟨s₂, o, h _ h1, r⟩
theorem Goes.cast {g g' : JFrame} (q : g = g') (h : Goes p e below s Q kc ks (T.setTop g')) : Goes p e below s Q kc ks (T.setTop g) := q ▸ h
theorem Goes.retI (X : Stand p l e R s m args below meth c T locs cells slots) (hx : p.tables.exec = Jvm.exec) (hlk : meth.locks = false) (hret : meth.sig.returnType = some .int) {pc : Nat} {Ls : Array Slot} {z : Int32} {rest : List Value} (hd : decode c.code pc = .ok (.ireturn, 1)) (hQ : Q (some (.int z)) T.heap locs) (h1 : cells ≤ kc) (h2 : slots ≤ ks) : Goes p e below s Q kc ks (T.setTop (mkF m pc Ls (.int z :: rest))) := by
  obtain ⟨fs, hr, hrun, hended, hW, hsame⟩ := X.leave (v := some (.int z)) (fun h => by rw [hret] at h; cases h)
  exact ⟨_, _, retOut X hx hret rfl (Or.inl ⟨rfl, Or.inl rfl, _, rfl⟩) hd hr, hrun, hended, _, _, rfl, hQ, ⟨_, rfl⟩, hW, hsame.mono h1 h2⟩
theorem Goes.retJ (X : Stand p l e R s m args below meth c T locs cells slots) (hx : p.tables.exec = Jvm.exec) (hlk : meth.locks = false) (hret : meth.sig.returnType = some .long) {pc : Nat} {Ls : Array Slot} {z : Int64} {rest : List Value} (hd : decode c.code pc = .ok (.lreturn, 1)) (hQ : Q (some (.long z)) T.heap locs) (h1 : cells ≤ kc) (h2 : slots ≤ ks) : Goes p e below s Q kc ks (T.setTop (mkF m pc Ls (.long z :: rest))) := by
  obtain ⟨fs, hr, hrun, hended, hW, hsame⟩ := X.leave (v := some (.long z)) (fun h => by rw [hret] at h; cases h)
  exact ⟨_, _, retOut X hx hret rfl (Or.inr (Or.inl ⟨rfl, rfl, _, rfl⟩)) hd hr, hrun, hended, _, _, rfl, hQ, ⟨_, rfl⟩, hW, hsame.mono h1 h2⟩
theorem Goes.retR (X : Stand p l e R s m args below meth c T locs cells slots) (hx : p.tables.exec = Jvm.exec) (hlk : meth.locks = false) {t : FieldType} (hret : meth.sig.returnType = some t) {w : Value} (ht : t.isReference = true) (hw : w.isRef = true) {pc : Nat} {Ls : Array Slot} {rest : List Value} (hd : decode c.code pc = .ok (.areturn, 1)) (hQ : Q (some w) T.heap locs) (h1 : cells ≤ kc) (h2 : slots ≤ ks) : Goes p e below s Q kc ks (T.setTop (mkF m pc Ls (w :: rest))) := by
  obtain ⟨fs, hr, hrun, hended, hW, hsame⟩ := X.leave (v := some w) (fun h => by rw [hret] at h; cases h)
  have hn : narrow t w = w := by cases t <;> cases w <;> first | rfl | (simp [FieldType.isReference] at ht) | (simp [Value.isRef] at hw)
  exact ⟨_, _, retOut X hx hret hn (Or.inr (Or.inr (Or.inr (Or.inr ⟨rfl, ht, hw⟩)))) hd hr, hrun, hended, _, _, rfl, hQ, ⟨_, rfl⟩, hW, hsame.mono h1 h2⟩
theorem Goes.retB (X : Stand p l e R s m args below meth c T locs cells slots) (hx : p.tables.exec = Jvm.exec) (hlk : meth.locks = false) {t : FieldType} (hret : meth.sig.returnType = some t) (ht : t = .boolean ∨ t = .byte ∨ t = .char ∨ t = .short) {pc : Nat} {Ls : Array Slot} {z : Int32} {rest : List Value} (hd : decode c.code pc = .ok (.ireturn, 1)) (hz : nar t z = z) (hQ : Q (some (.int z)) T.heap locs) (h1 : cells ≤ kc) (h2 : slots ≤ ks) : Goes p e below s Q kc ks (T.setTop (mkF m pc Ls (.int z :: rest))) := by
  obtain ⟨fs, hr, hrun, hended, hW, hsame⟩ := X.leave (v := some (.int z)) (fun h => by rw [hret] at h; cases h)
  exact ⟨_, _, retN X hx hret ht hd (by rw [hz]; exact hr), hrun, hended, _, _, rfl, hQ, ⟨_, rfl⟩, hW, hsame.mono h1 h2⟩
theorem Goes.retV (X : Stand p l e R s m args below meth c T locs cells slots) (hx : p.tables.exec = Jvm.exec) (hlk : meth.locks = false) (hret : meth.sig.returnType = none) {pc : Nat} {Ls : Array Slot} (hd : decode c.code pc = .ok (.return_, 1)) (hQ : Q none T.heap locs) (h1 : cells ≤ kc) (h2 : slots ≤ ks) : Goes p e below s Q kc ks (T.setTop (mkF m pc Ls [])) := by
  obtain ⟨fs, hr, hrun, hended, hW, hsame⟩ := X.leave (v := none) (fun _ => rfl)
  exact ⟨_, _, X.returnOut hx hret hd hr, hrun, hended, _, _, rfl, hQ, ⟨_, rfl⟩, hW, hsame.mono h1 h2⟩
end OwnGoes
theorem tltL {x y : Int64} (h : x < y) : ifCond.holds .lt (lcmpW x y) = true ∧ ifCond.holds .ge (lcmpW x y) = false ∧ ifCond.holds .gt (lcmpW y x) = true ∧ ifCond.holds .le (lcmpW y x) = false :=
  ⟨(if0 _ _).trans (tlt ((lw_lt x y).mpr h)).1, (if0 _ _).trans (tlt ((lw_lt x y).mpr h)).2.1, (if0 _ _).trans (tlt ((lw_gt y x).mpr h)).2.2.1, (if0 _ _).trans (tlt ((lw_gt y x).mpr h)).2.2.2⟩
theorem fltL {x y : Int64} (h : ¬ x < y) : ifCond.holds .lt (lcmpW x y) = false ∧ ifCond.holds .ge (lcmpW x y) = true ∧ ifCond.holds .gt (lcmpW y x) = false ∧ ifCond.holds .le (lcmpW y x) = true :=
  ⟨(if0 _ _).trans (flt fun q => h ((lw_lt x y).mp q)).1, (if0 _ _).trans (flt fun q => h ((lw_lt x y).mp q)).2.1, (if0 _ _).trans (flt fun q => h ((lw_gt y x).mp q)).2.2.1, (if0 _ _).trans (flt fun q => h ((lw_gt y x).mp q)).2.2.2⟩
theorem teqL {x y : Int64} (h : x = y) : ifCond.holds .eq (lcmpW x y) = true ∧ ifCond.holds .ne (lcmpW x y) = false :=
  ⟨(if0 _ _).trans (teq ((lw_eq x y).mpr h)).1, (if0 _ _).trans (teq ((lw_eq x y).mpr h)).2⟩
theorem feqL {x y : Int64} (h : ¬ x = y) : ifCond.holds .eq (lcmpW x y) = false ∧ ifCond.holds .ne (lcmpW x y) = true :=
  ⟨(if0 _ _).trans (feq fun q => h ((lw_eq x y).mp q)).1, (if0 _ _).trans (feq fun q => h ((lw_eq x y).mp q)).2⟩
def own_look {α : Type} (i : Nat) : List (Nat × α) → Option α
  | [] => none
  | (j, v) :: r => if i = j then some v else own_look i r
theorem own_look_mem {α : Type} {i : Nat} {v : α} : ∀ {L : List (Nat × α)}, own_look i L = some v → (i, v) ∈ L
  | [], h => by cases h
  | (j, w) :: r, h => by
    unfold own_look at h
    by_cases q : i = j
    · rw [if_pos q] at h; cases h; subst q; exact List.mem_cons_self
    · rw [if_neg q] at h; exact List.mem_cons_of_mem _ (own_look_mem h)
def own_pstep (ci : List (Nat × Int32)) (cl : List (Nat × Int64)) (i : Instr) (n : Nat) (g : JFrame) : Option JFrame :=
  match i with
  | .iload_n k => if n = 1 then (match g.locals[k.val]? with | some (.val (.int v)) => some { g with pc := g.pc + 1, stack := .int v :: g.stack } | _ => none) else none
  | .iload k => if n = 2 then (match g.locals[k]? with | some (.val (.int v)) => some { g with pc := g.pc + 2, stack := .int v :: g.stack } | _ => none) else none
  | .lload_n k => if n = 1 then (match g.locals[k.val]? with | some (.val (.long v)) => some { g with pc := g.pc + 1, stack := .long v :: g.stack } | _ => none) else none
  | .lload k => if n = 2 then (match g.locals[k]? with | some (.val (.long v)) => some { g with pc := g.pc + 2, stack := .long v :: g.stack } | _ => none) else none
  | .aload_n k => if n = 1 then (match g.locals[k.val]? with | some (.val v) => if v.isRef = true then some { g with pc := g.pc + 1, stack := v :: g.stack } else none | _ => none) else none
  | .aload k => if n = 2 then (match g.locals[k]? with | some (.val v) => if v.isRef = true then some { g with pc := g.pc + 2, stack := v :: g.stack } else none | _ => none) else none
  | .istore_n k => if n = 1 then (match g.stack with | .int x :: rest => (match storeLocals g.locals k.val (.int x) with | some l' => some { g with pc := g.pc + 1, stack := rest, locals := l' } | none => none) | _ => none) else none
  | .istore k => if n = 2 then (match g.stack with | .int x :: rest => (match storeLocals g.locals k (.int x) with | some l' => some { g with pc := g.pc + 2, stack := rest, locals := l' } | none => none) | _ => none) else none
  | .lstore_n k => if n = 1 then (match g.stack with | .long x :: rest => (match storeLocals g.locals k.val (.long x) with | some l' => some { g with pc := g.pc + 1, stack := rest, locals := l' } | none => none) | _ => none) else none
  | .lstore k => if n = 2 then (match g.stack with | .long x :: rest => (match storeLocals g.locals k (.long x) with | some l' => some { g with pc := g.pc + 2, stack := rest, locals := l' } | none => none) | _ => none) else none
  | .astore_n k => if n = 1 then (match g.stack with | x :: rest => (if x.isRef = true then (match storeLocals g.locals k.val x with | some l' => some { g with pc := g.pc + 1, stack := rest, locals := l' } | none => none) else none) | _ => none) else none
  | .astore k => if n = 2 then (match g.stack with | x :: rest => (if x.isRef = true then (match storeLocals g.locals k x with | some l' => some { g with pc := g.pc + 2, stack := rest, locals := l' } | none => none) else none) | _ => none) else none
  | .iconst i => if n = 1 then (some { g with pc := g.pc + 1, stack := .int (Int32.ofInt i) :: g.stack }) else none
  | .bipush i => if n = 2 then (some { g with pc := g.pc + 2, stack := .int (Int8.ofInt i).toInt32 :: g.stack }) else none
  | .sipush i => if n = 3 then (some { g with pc := g.pc + 3, stack := .int (Int16.ofInt i).toInt32 :: g.stack }) else none
  | .lconst k => if n = 1 then (some { g with pc := g.pc + 1, stack := .long (Int64.ofNat k) :: g.stack }) else none
  | .aconst_null => if n = 1 then (some { g with pc := g.pc + 1, stack := .null :: g.stack }) else none
  | .iadd => if n = 1 then (match g.stack with | .int y :: .int x :: rest => some { g with pc := g.pc + 1, stack := .int (x + y) :: rest } | _ => none) else none
  | .ladd => if n = 1 then (match g.stack with | .long y :: .long x :: rest => some { g with pc := g.pc + 1, stack := .long (x + y) :: rest } | _ => none) else none
  | .isub => if n = 1 then (match g.stack with | .int y :: .int x :: rest => some { g with pc := g.pc + 1, stack := .int (x - y) :: rest } | _ => none) else none
  | .lsub => if n = 1 then (match g.stack with | .long y :: .long x :: rest => some { g with pc := g.pc + 1, stack := .long (x - y) :: rest } | _ => none) else none
  | .imul => if n = 1 then (match g.stack with | .int y :: .int x :: rest => some { g with pc := g.pc + 1, stack := .int (x * y) :: rest } | _ => none) else none
  | .lmul => if n = 1 then (match g.stack with | .long y :: .long x :: rest => some { g with pc := g.pc + 1, stack := .long (x * y) :: rest } | _ => none) else none
  | .iand => if n = 1 then (match g.stack with | .int y :: .int x :: rest => some { g with pc := g.pc + 1, stack := .int (x &&& y) :: rest } | _ => none) else none
  | .land => if n = 1 then (match g.stack with | .long y :: .long x :: rest => some { g with pc := g.pc + 1, stack := .long (x &&& y) :: rest } | _ => none) else none
  | .ior => if n = 1 then (match g.stack with | .int y :: .int x :: rest => some { g with pc := g.pc + 1, stack := .int (x ||| y) :: rest } | _ => none) else none
  | .lor => if n = 1 then (match g.stack with | .long y :: .long x :: rest => some { g with pc := g.pc + 1, stack := .long (x ||| y) :: rest } | _ => none) else none
  | .ixor => if n = 1 then (match g.stack with | .int y :: .int x :: rest => some { g with pc := g.pc + 1, stack := .int (x ^^^ y) :: rest } | _ => none) else none
  | .lxor => if n = 1 then (match g.stack with | .long y :: .long x :: rest => some { g with pc := g.pc + 1, stack := .long (x ^^^ y) :: rest } | _ => none) else none
  | .ishl => if n = 1 then (match g.stack with | .int y :: .int x :: rest => some { g with pc := g.pc + 1, stack := .int (x <<< (y &&& 31)) :: rest } | _ => none) else none
  | .ishr => if n = 1 then (match g.stack with | .int y :: .int x :: rest => some { g with pc := g.pc + 1, stack := .int (x >>> (y &&& 31)) :: rest } | _ => none) else none
  | .iushr => if n = 1 then (match g.stack with | .int y :: .int x :: rest => some { g with pc := g.pc + 1, stack := .int ((x.toUInt32 >>> (y &&& 31).toUInt32).toInt32) :: rest } | _ => none) else none
  | .lshl => if n = 1 then (match g.stack with | .int y :: .long x :: rest => some { g with pc := g.pc + 1, stack := .long (x <<< (y &&& 0x3f).toInt64) :: rest } | _ => none) else none
  | .lshr => if n = 1 then (match g.stack with | .int y :: .long x :: rest => some { g with pc := g.pc + 1, stack := .long (x >>> (y &&& 0x3f).toInt64) :: rest } | _ => none) else none
  | .lushr => if n = 1 then (match g.stack with | .int y :: .long x :: rest => some { g with pc := g.pc + 1, stack := .long ((x.toUInt64 >>> (y &&& 0x3f).toInt64.toUInt64).toInt64) :: rest } | _ => none) else none
  | .lcmp => if n = 1 then (match g.stack with | .long y :: .long x :: rest => some { g with pc := g.pc + 1, stack := .int (if x > y then 1 else if x = y then 0 else -1) :: rest } | _ => none) else none
  | .ineg => if n = 1 then (match g.stack with | .int v :: rest => some { g with pc := g.pc + 1, stack := .int (-v) :: rest } | _ => none) else none
  | .lneg => if n = 1 then (match g.stack with | .long v :: rest => some { g with pc := g.pc + 1, stack := .long (-v) :: rest } | _ => none) else none
  | .i2l => if n = 1 then (match g.stack with | .int v :: rest => some { g with pc := g.pc + 1, stack := .long (v.toInt64) :: rest } | _ => none) else none
  | .l2i => if n = 1 then (match g.stack with | .long v :: rest => some { g with pc := g.pc + 1, stack := .int (v.toInt32) :: rest } | _ => none) else none
  | .i2b => if n = 1 then (match g.stack with | .int v :: rest => some { g with pc := g.pc + 1, stack := .int (v.toInt8.toInt32) :: rest } | _ => none) else none
  | .i2c => if n = 1 then (match g.stack with | .int v :: rest => some { g with pc := g.pc + 1, stack := .int (v.toUInt32.toUInt16.toUInt32.toInt32) :: rest } | _ => none) else none
  | .i2s => if n = 1 then (match g.stack with | .int v :: rest => some { g with pc := g.pc + 1, stack := .int (v.toInt16.toInt32) :: rest } | _ => none) else none
  | .iinc k cst => if n = 3 then (match g.locals[k]? with | some (.val (.int x)) => (match storeLocals g.locals k (.int (x + Int32.ofInt cst)) with | some l' => some { g with pc := g.pc + 3, locals := l' } | none => none) | _ => none) else none
  | .dup => if n = 1 then (match g.stack with | x :: rest => (if x.category = 1 then some { g with pc := g.pc + 1, stack := x :: x :: rest } else none) | _ => none) else none
  | .pop => if n = 1 then (match g.stack with | x :: rest => (if x.category = 1 then some { g with pc := g.pc + 1, stack := rest } else none) | _ => none) else none
  | .goto o => if n = 3 then (if 0 ≤ (g.pc : Int) + o then some { g with pc := ((g.pc : Int) + o).toNat } else none) else none
  | .ldc i => if n = 2 then (match own_look i ci with | some v => some { g with pc := g.pc + 2, stack := .int v :: g.stack } | none => none) else none
  | .ldc_w i => if n = 3 then (match own_look i ci with | some v => some { g with pc := g.pc + 3, stack := .int v :: g.stack } | none => none) else none
  | .ldc2_w i => if n = 3 then (match own_look i cl with | some v => some { g with pc := g.pc + 3, stack := .long v :: g.stack } | none => none) else none
  | .idiv => if n = 1 then (match g.stack with | .int y :: .int x :: rest => (if y = 0 then none else some { g with pc := g.pc + 1, stack := .int (x / y) :: rest }) | _ => none) else none
  | .irem => if n = 1 then (match g.stack with | .int y :: .int x :: rest => (if y = 0 then none else some { g with pc := g.pc + 1, stack := .int (x - (x / y) * y) :: rest }) | _ => none) else none
  | .ldiv => if n = 1 then (match g.stack with | .long y :: .long x :: rest => (if y = 0 then none else some { g with pc := g.pc + 1, stack := .long (x / y) :: rest }) | _ => none) else none
  | .lrem => if n = 1 then (match g.stack with | .long y :: .long x :: rest => (if y = 0 then none else some { g with pc := g.pc + 1, stack := .long (x - (x / y) * y) :: rest }) | _ => none) else none
  | _ => none
section OwnRun
variable {p : Program} {l : Launch} {e : Env} {R : Room} {s : State} {m : MethodId} {args : Array Value} {below : List Frame} {meth : Method} {c : Code} {T target : State} {locs : List Loc} {cells slots kc ks : Nat} {own : String} {ci : List (Nat × Int32)} {cl : List (Nat × Int64)} {Q : Option Value → Heap → List Loc → Prop}
set_option maxHeartbeats 4000000 in
theorem own_pstep_ok (X : Stand p l e R s m args below meth c T locs cells slots) (hx : p.tables.exec = Jvm.exec) (hown : s.vm.findClass own = some m.cls) (hci : ∀ i v, (i, v) ∈ ci → (Cond.constant own i v).before args s = true) (hcl : ∀ i v, (i, v) ∈ cl → (Cond.constantLong own i v).before args s = true)
    {g g' : JFrame} (hg : g.method = m) {i : Instr} {n : Nat} (hd : decode c.code g.pc = .ok (i, n)) (hp : own_pstep ci cl i n g = some g') : (∀ target, Steps p.tables e below (T.setTop g') target → Steps p.tables e below (T.setTop g) target) ∧ g'.method = m := by
  cases i
  all_goals first
    | (exact absurd hp (by intro q; cases q))
    | skip
  case iload_n k =>
    by_cases hn : n = 1
    · subst hn
      replace hp : (match g.locals[k.val]? with | some (.val (.int v)) => some { g with pc := g.pc + 1, stack := .int v :: g.stack } | _ => none) = some g' := hp
      split at hp
      · skip
        cases hp
        exact ⟨fun _ hr => XS.iloadN X.here hx hg hd (by assumption) hr, hg⟩
      · cases hp
    · exact absurd hp (by intro q; rw [show own_pstep ci cl (.iload_n k) n g = none from if_neg hn] at q; cases q)
  case iload k =>
    by_cases hn : n = 2
    · subst hn
      replace hp : (match g.locals[k]? with | some (.val (.int v)) => some { g with pc := g.pc + 2, stack := .int v :: g.stack } | _ => none) = some g' := hp
      split at hp
      · skip
        cases hp
        exact ⟨fun _ hr => XS.iload X.here hx hg hd (by assumption) hr, hg⟩
      · cases hp
    · exact absurd hp (by intro q; rw [show own_pstep ci cl (.iload k) n g = none from if_neg hn] at q; cases q)
  case lload_n k =>
    by_cases hn : n = 1
    · subst hn
      replace hp : (match g.locals[k.val]? with | some (.val (.long v)) => some { g with pc := g.pc + 1, stack := .long v :: g.stack } | _ => none) = some g' := hp
      split at hp
      · skip
        cases hp
        exact ⟨fun _ hr => XS.lloadN X.here hx hg hd (by assumption) hr, hg⟩
      · cases hp
    · exact absurd hp (by intro q; rw [show own_pstep ci cl (.lload_n k) n g = none from if_neg hn] at q; cases q)
  case lload k =>
    by_cases hn : n = 2
    · subst hn
      replace hp : (match g.locals[k]? with | some (.val (.long v)) => some { g with pc := g.pc + 2, stack := .long v :: g.stack } | _ => none) = some g' := hp
      split at hp
      · skip
        cases hp
        exact ⟨fun _ hr => XS.lload X.here hx hg hd (by assumption) hr, hg⟩
      · cases hp
    · exact absurd hp (by intro q; rw [show own_pstep ci cl (.lload k) n g = none from if_neg hn] at q; cases q)
  case aload_n k =>
    by_cases hn : n = 1
    · subst hn
      replace hp : (match g.locals[k.val]? with | some (.val v) => if v.isRef = true then some { g with pc := g.pc + 1, stack := v :: g.stack } else none | _ => none) = some g' := hp
      split at hp
      · skip
        split at hp
        · skip
          cases hp
          exact ⟨fun _ hr => XS.aloadN X.here hx hg hd (by assumption) (by assumption) hr, hg⟩
        · cases hp
      · cases hp
    · exact absurd hp (by intro q; rw [show own_pstep ci cl (.aload_n k) n g = none from if_neg hn] at q; cases q)
  case aload k =>
    by_cases hn : n = 2
    · subst hn
      replace hp : (match g.locals[k]? with | some (.val v) => if v.isRef = true then some { g with pc := g.pc + 2, stack := v :: g.stack } else none | _ => none) = some g' := hp
      split at hp
      · skip
        split at hp
        · skip
          cases hp
          exact ⟨fun _ hr => XS.aload X.here hx hg hd (by assumption) (by assumption) hr, hg⟩
        · cases hp
      · cases hp
    · exact absurd hp (by intro q; rw [show own_pstep ci cl (.aload k) n g = none from if_neg hn] at q; cases q)
  case istore_n k =>
    by_cases hn : n = 1
    · subst hn
      replace hp : (match g.stack with | .int x :: rest => (match storeLocals g.locals k.val (.int x) with | some l' => some { g with pc := g.pc + 1, stack := rest, locals := l' } | none => none) | _ => none) = some g' := hp
      split at hp
      · skip
        split at hp
        · skip
          cases hp
          exact ⟨fun _ hr => XS.istoreN X.here hx hg hd (by assumption) (by assumption) hr, hg⟩
        · cases hp
      · cases hp
    · exact absurd hp (by intro q; rw [show own_pstep ci cl (.istore_n k) n g = none from if_neg hn] at q; cases q)
  case istore k =>
    by_cases hn : n = 2
    · subst hn
      replace hp : (match g.stack with | .int x :: rest => (match storeLocals g.locals k (.int x) with | some l' => some { g with pc := g.pc + 2, stack := rest, locals := l' } | none => none) | _ => none) = some g' := hp
      split at hp
      · skip
        split at hp
        · skip
          cases hp
          exact ⟨fun _ hr => XS.istore X.here hx hg hd (by assumption) (by assumption) hr, hg⟩
        · cases hp
      · cases hp
    · exact absurd hp (by intro q; rw [show own_pstep ci cl (.istore k) n g = none from if_neg hn] at q; cases q)
  case lstore_n k =>
    by_cases hn : n = 1
    · subst hn
      replace hp : (match g.stack with | .long x :: rest => (match storeLocals g.locals k.val (.long x) with | some l' => some { g with pc := g.pc + 1, stack := rest, locals := l' } | none => none) | _ => none) = some g' := hp
      split at hp
      · skip
        split at hp
        · skip
          cases hp
          exact ⟨fun _ hr => XS.lstoreN X.here hx hg hd (by assumption) (by assumption) hr, hg⟩
        · cases hp
      · cases hp
    · exact absurd hp (by intro q; rw [show own_pstep ci cl (.lstore_n k) n g = none from if_neg hn] at q; cases q)
  case lstore k =>
    by_cases hn : n = 2
    · subst hn
      replace hp : (match g.stack with | .long x :: rest => (match storeLocals g.locals k (.long x) with | some l' => some { g with pc := g.pc + 2, stack := rest, locals := l' } | none => none) | _ => none) = some g' := hp
      split at hp
      · skip
        split at hp
        · skip
          cases hp
          exact ⟨fun _ hr => XS.lstore X.here hx hg hd (by assumption) (by assumption) hr, hg⟩
        · cases hp
      · cases hp
    · exact absurd hp (by intro q; rw [show own_pstep ci cl (.lstore k) n g = none from if_neg hn] at q; cases q)
  case astore_n k =>
    by_cases hn : n = 1
    · subst hn
      replace hp : (match g.stack with | x :: rest => (if x.isRef = true then (match storeLocals g.locals k.val x with | some l' => some { g with pc := g.pc + 1, stack := rest, locals := l' } | none => none) else none) | _ => none) = some g' := hp
      split at hp
      · skip
        split at hp
        · skip
          split at hp
          · skip
            cases hp
            exact ⟨fun _ hr => XS.astoreN X.here hx hg hd (by assumption) (by assumption) (by assumption) hr, hg⟩
          · cases hp
        · cases hp
      · cases hp
    · exact absurd hp (by intro q; rw [show own_pstep ci cl (.astore_n k) n g = none from if_neg hn] at q; cases q)
  case astore k =>
    by_cases hn : n = 2
    · subst hn
      replace hp : (match g.stack with | x :: rest => (if x.isRef = true then (match storeLocals g.locals k x with | some l' => some { g with pc := g.pc + 2, stack := rest, locals := l' } | none => none) else none) | _ => none) = some g' := hp
      split at hp
      · skip
        split at hp
        · skip
          split at hp
          · skip
            cases hp
            exact ⟨fun _ hr => XS.astore X.here hx hg hd (by assumption) (by assumption) (by assumption) hr, hg⟩
          · cases hp
        · cases hp
      · cases hp
    · exact absurd hp (by intro q; rw [show own_pstep ci cl (.astore k) n g = none from if_neg hn] at q; cases q)
  case iconst i =>
    by_cases hn : n = 1
    · subst hn
      replace hp : (some { g with pc := g.pc + 1, stack := .int (Int32.ofInt i) :: g.stack }) = some g' := hp
      cases hp
      exact ⟨fun _ hr => XS.iconst X.here hx hg hd hr, hg⟩
    · exact absurd hp (by intro q; rw [show own_pstep ci cl (.iconst i) n g = none from if_neg hn] at q; cases q)
  case bipush i =>
    by_cases hn : n = 2
    · subst hn
      replace hp : (some { g with pc := g.pc + 2, stack := .int (Int8.ofInt i).toInt32 :: g.stack }) = some g' := hp
      cases hp
      exact ⟨fun _ hr => XS.bipush X.here hx hg hd hr, hg⟩
    · exact absurd hp (by intro q; rw [show own_pstep ci cl (.bipush i) n g = none from if_neg hn] at q; cases q)
  case sipush i =>
    by_cases hn : n = 3
    · subst hn
      replace hp : (some { g with pc := g.pc + 3, stack := .int (Int16.ofInt i).toInt32 :: g.stack }) = some g' := hp
      cases hp
      exact ⟨fun _ hr => XS.sipush X.here hx hg hd hr, hg⟩
    · exact absurd hp (by intro q; rw [show own_pstep ci cl (.sipush i) n g = none from if_neg hn] at q; cases q)
  case lconst k =>
    by_cases hn : n = 1
    · subst hn
      replace hp : (some { g with pc := g.pc + 1, stack := .long (Int64.ofNat k) :: g.stack }) = some g' := hp
      cases hp
      exact ⟨fun _ hr => XS.lconst X.here hx hg hd hr, hg⟩
    · exact absurd hp (by intro q; rw [show own_pstep ci cl (.lconst k) n g = none from if_neg hn] at q; cases q)
  case aconst_null =>
    by_cases hn : n = 1
    · subst hn
      replace hp : (some { g with pc := g.pc + 1, stack := .null :: g.stack }) = some g' := hp
      cases hp
      exact ⟨fun _ hr => XS.aconstNull X.here hx hg hd hr, hg⟩
    · exact absurd hp (by intro q; rw [show own_pstep ci cl (.aconst_null) n g = none from if_neg hn] at q; cases q)
  case iadd =>
    by_cases hn : n = 1
    · subst hn
      replace hp : (match g.stack with | .int y :: .int x :: rest => some { g with pc := g.pc + 1, stack := .int (x + y) :: rest } | _ => none) = some g' := hp
      split at hp
      · skip
        cases hp
        exact ⟨fun _ hr => XS.iadd X.here hx hg hd (by assumption) hr, hg⟩
      · cases hp
    · exact absurd hp (by intro q; rw [show own_pstep ci cl (.iadd) n g = none from if_neg hn] at q; cases q)
  case ladd =>
    by_cases hn : n = 1
    · subst hn
      replace hp : (match g.stack with | .long y :: .long x :: rest => some { g with pc := g.pc + 1, stack := .long (x + y) :: rest } | _ => none) = some g' := hp
      split at hp
      · skip
        cases hp
        exact ⟨fun _ hr => XS.ladd X.here hx hg hd (by assumption) hr, hg⟩
      · cases hp
    · exact absurd hp (by intro q; rw [show own_pstep ci cl (.ladd) n g = none from if_neg hn] at q; cases q)
  case isub =>
    by_cases hn : n = 1
    · subst hn
      replace hp : (match g.stack with | .int y :: .int x :: rest => some { g with pc := g.pc + 1, stack := .int (x - y) :: rest } | _ => none) = some g' := hp
      split at hp
      · skip
        cases hp
        exact ⟨fun _ hr => XS.isub X.here hx hg hd (by assumption) hr, hg⟩
      · cases hp
    · exact absurd hp (by intro q; rw [show own_pstep ci cl (.isub) n g = none from if_neg hn] at q; cases q)
  case lsub =>
    by_cases hn : n = 1
    · subst hn
      replace hp : (match g.stack with | .long y :: .long x :: rest => some { g with pc := g.pc + 1, stack := .long (x - y) :: rest } | _ => none) = some g' := hp
      split at hp
      · skip
        cases hp
        exact ⟨fun _ hr => XS.lsub X.here hx hg hd (by assumption) hr, hg⟩
      · cases hp
    · exact absurd hp (by intro q; rw [show own_pstep ci cl (.lsub) n g = none from if_neg hn] at q; cases q)
  case imul =>
    by_cases hn : n = 1
    · subst hn
      replace hp : (match g.stack with | .int y :: .int x :: rest => some { g with pc := g.pc + 1, stack := .int (x * y) :: rest } | _ => none) = some g' := hp
      split at hp
      · skip
        cases hp
        exact ⟨fun _ hr => XS.imul X.here hx hg hd (by assumption) hr, hg⟩
      · cases hp
    · exact absurd hp (by intro q; rw [show own_pstep ci cl (.imul) n g = none from if_neg hn] at q; cases q)
  case lmul =>
    by_cases hn : n = 1
    · subst hn
      replace hp : (match g.stack with | .long y :: .long x :: rest => some { g with pc := g.pc + 1, stack := .long (x * y) :: rest } | _ => none) = some g' := hp
      split at hp
      · skip
        cases hp
        exact ⟨fun _ hr => XS.lmul X.here hx hg hd (by assumption) hr, hg⟩
      · cases hp
    · exact absurd hp (by intro q; rw [show own_pstep ci cl (.lmul) n g = none from if_neg hn] at q; cases q)
  case iand =>
    by_cases hn : n = 1
    · subst hn
      replace hp : (match g.stack with | .int y :: .int x :: rest => some { g with pc := g.pc + 1, stack := .int (x &&& y) :: rest } | _ => none) = some g' := hp
      split at hp
      · skip
        cases hp
        exact ⟨fun _ hr => XS.iand X.here hx hg hd (by assumption) hr, hg⟩
      · cases hp
    · exact absurd hp (by intro q; rw [show own_pstep ci cl (.iand) n g = none from if_neg hn] at q; cases q)
  case land =>
    by_cases hn : n = 1
    · subst hn
      replace hp : (match g.stack with | .long y :: .long x :: rest => some { g with pc := g.pc + 1, stack := .long (x &&& y) :: rest } | _ => none) = some g' := hp
      split at hp
      · skip
        cases hp
        exact ⟨fun _ hr => XS.land X.here hx hg hd (by assumption) hr, hg⟩
      · cases hp
    · exact absurd hp (by intro q; rw [show own_pstep ci cl (.land) n g = none from if_neg hn] at q; cases q)
  case ior =>
    by_cases hn : n = 1
    · subst hn
      replace hp : (match g.stack with | .int y :: .int x :: rest => some { g with pc := g.pc + 1, stack := .int (x ||| y) :: rest } | _ => none) = some g' := hp
      split at hp
      · skip
        cases hp
        exact ⟨fun _ hr => XS.ior X.here hx hg hd (by assumption) hr, hg⟩
      · cases hp
    · exact absurd hp (by intro q; rw [show own_pstep ci cl (.ior) n g = none from if_neg hn] at q; cases q)
  case lor =>
    by_cases hn : n = 1
    · subst hn
      replace hp : (match g.stack with | .long y :: .long x :: rest => some { g with pc := g.pc + 1, stack := .long (x ||| y) :: rest } | _ => none) = some g' := hp
      split at hp
      · skip
        cases hp
        exact ⟨fun _ hr => XS.lor X.here hx hg hd (by assumption) hr, hg⟩
      · cases hp
    · exact absurd hp (by intro q; rw [show own_pstep ci cl (.lor) n g = none from if_neg hn] at q; cases q)
  case ixor =>
    by_cases hn : n = 1
    · subst hn
      replace hp : (match g.stack with | .int y :: .int x :: rest => some { g with pc := g.pc + 1, stack := .int (x ^^^ y) :: rest } | _ => none) = some g' := hp
      split at hp
      · skip
        cases hp
        exact ⟨fun _ hr => XS.ixor X.here hx hg hd (by assumption) hr, hg⟩
      · cases hp
    · exact absurd hp (by intro q; rw [show own_pstep ci cl (.ixor) n g = none from if_neg hn] at q; cases q)
  case lxor =>
    by_cases hn : n = 1
    · subst hn
      replace hp : (match g.stack with | .long y :: .long x :: rest => some { g with pc := g.pc + 1, stack := .long (x ^^^ y) :: rest } | _ => none) = some g' := hp
      split at hp
      · skip
        cases hp
        exact ⟨fun _ hr => XS.lxor X.here hx hg hd (by assumption) hr, hg⟩
      · cases hp
    · exact absurd hp (by intro q; rw [show own_pstep ci cl (.lxor) n g = none from if_neg hn] at q; cases q)
  case ishl =>
    by_cases hn : n = 1
    · subst hn
      replace hp : (match g.stack with | .int y :: .int x :: rest => some { g with pc := g.pc + 1, stack := .int (x <<< (y &&& 31)) :: rest } | _ => none) = some g' := hp
      split at hp
      · skip
        cases hp
        exact ⟨fun _ hr => XS.ishl X.here hx hg hd (by assumption) hr, hg⟩
      · cases hp
    · exact absurd hp (by intro q; rw [show own_pstep ci cl (.ishl) n g = none from if_neg hn] at q; cases q)
  case ishr =>
    by_cases hn : n = 1
    · subst hn
      replace hp : (match g.stack with | .int y :: .int x :: rest => some { g with pc := g.pc + 1, stack := .int (x >>> (y &&& 31)) :: rest } | _ => none) = some g' := hp
      split at hp
      · skip
        cases hp
        exact ⟨fun _ hr => XS.ishr X.here hx hg hd (by assumption) hr, hg⟩
      · cases hp
    · exact absurd hp (by intro q; rw [show own_pstep ci cl (.ishr) n g = none from if_neg hn] at q; cases q)
  case iushr =>
    by_cases hn : n = 1
    · subst hn
      replace hp : (match g.stack with | .int y :: .int x :: rest => some { g with pc := g.pc + 1, stack := .int ((x.toUInt32 >>> (y &&& 31).toUInt32).toInt32) :: rest } | _ => none) = some g' := hp
      split at hp
      · skip
        cases hp
        exact ⟨fun _ hr => XS.iushr X.here hx hg hd (by assumption) hr, hg⟩
      · cases hp
    · exact absurd hp (by intro q; rw [show own_pstep ci cl (.iushr) n g = none from if_neg hn] at q; cases q)
  case lshl =>
    by_cases hn : n = 1
    · subst hn
      replace hp : (match g.stack with | .int y :: .long x :: rest => some { g with pc := g.pc + 1, stack := .long (x <<< (y &&& 0x3f).toInt64) :: rest } | _ => none) = some g' := hp
      split at hp
      · skip
        cases hp
        exact ⟨fun _ hr => XS.lshl X.here hx hg hd (by assumption) hr, hg⟩
      · cases hp
    · exact absurd hp (by intro q; rw [show own_pstep ci cl (.lshl) n g = none from if_neg hn] at q; cases q)
  case lshr =>
    by_cases hn : n = 1
    · subst hn
      replace hp : (match g.stack with | .int y :: .long x :: rest => some { g with pc := g.pc + 1, stack := .long (x >>> (y &&& 0x3f).toInt64) :: rest } | _ => none) = some g' := hp
      split at hp
      · skip
        cases hp
        exact ⟨fun _ hr => XS.lshr X.here hx hg hd (by assumption) hr, hg⟩
      · cases hp
    · exact absurd hp (by intro q; rw [show own_pstep ci cl (.lshr) n g = none from if_neg hn] at q; cases q)
  case lushr =>
    by_cases hn : n = 1
    · subst hn
      replace hp : (match g.stack with | .int y :: .long x :: rest => some { g with pc := g.pc + 1, stack := .long ((x.toUInt64 >>> (y &&& 0x3f).toInt64.toUInt64).toInt64) :: rest } | _ => none) = some g' := hp
      split at hp
      · skip
        cases hp
        exact ⟨fun _ hr => XS.lushr X.here hx hg hd (by assumption) hr, hg⟩
      · cases hp
    · exact absurd hp (by intro q; rw [show own_pstep ci cl (.lushr) n g = none from if_neg hn] at q; cases q)
  case lcmp =>
    by_cases hn : n = 1
    · subst hn
      replace hp : (match g.stack with | .long y :: .long x :: rest => some { g with pc := g.pc + 1, stack := .int (if x > y then 1 else if x = y then 0 else -1) :: rest } | _ => none) = some g' := hp
      split at hp
      · skip
        cases hp
        exact ⟨fun _ hr => XS.lcmp X.here hx hg hd (by assumption) hr, hg⟩
      · cases hp
    · exact absurd hp (by intro q; rw [show own_pstep ci cl (.lcmp) n g = none from if_neg hn] at q; cases q)
  case ineg =>
    by_cases hn : n = 1
    · subst hn
      replace hp : (match g.stack with | .int v :: rest => some { g with pc := g.pc + 1, stack := .int (-v) :: rest } | _ => none) = some g' := hp
      split at hp
      · skip
        cases hp
        exact ⟨fun _ hr => XS.ineg X.here hx hg hd (by assumption) hr, hg⟩
      · cases hp
    · exact absurd hp (by intro q; rw [show own_pstep ci cl (.ineg) n g = none from if_neg hn] at q; cases q)
  case lneg =>
    by_cases hn : n = 1
    · subst hn
      replace hp : (match g.stack with | .long v :: rest => some { g with pc := g.pc + 1, stack := .long (-v) :: rest } | _ => none) = some g' := hp
      split at hp
      · skip
        cases hp
        exact ⟨fun _ hr => XS.lneg X.here hx hg hd (by assumption) hr, hg⟩
      · cases hp
    · exact absurd hp (by intro q; rw [show own_pstep ci cl (.lneg) n g = none from if_neg hn] at q; cases q)
  case i2l =>
    by_cases hn : n = 1
    · subst hn
      replace hp : (match g.stack with | .int v :: rest => some { g with pc := g.pc + 1, stack := .long (v.toInt64) :: rest } | _ => none) = some g' := hp
      split at hp
      · skip
        cases hp
        exact ⟨fun _ hr => XS.i2l X.here hx hg hd (by assumption) hr, hg⟩
      · cases hp
    · exact absurd hp (by intro q; rw [show own_pstep ci cl (.i2l) n g = none from if_neg hn] at q; cases q)
  case l2i =>
    by_cases hn : n = 1
    · subst hn
      replace hp : (match g.stack with | .long v :: rest => some { g with pc := g.pc + 1, stack := .int (v.toInt32) :: rest } | _ => none) = some g' := hp
      split at hp
      · skip
        cases hp
        exact ⟨fun _ hr => XS.l2i X.here hx hg hd (by assumption) hr, hg⟩
      · cases hp
    · exact absurd hp (by intro q; rw [show own_pstep ci cl (.l2i) n g = none from if_neg hn] at q; cases q)
  case i2b =>
    by_cases hn : n = 1
    · subst hn
      replace hp : (match g.stack with | .int v :: rest => some { g with pc := g.pc + 1, stack := .int (v.toInt8.toInt32) :: rest } | _ => none) = some g' := hp
      split at hp
      · skip
        cases hp
        exact ⟨fun _ hr => XS.i2b X.here hx hg hd (by assumption) hr, hg⟩
      · cases hp
    · exact absurd hp (by intro q; rw [show own_pstep ci cl (.i2b) n g = none from if_neg hn] at q; cases q)
  case i2c =>
    by_cases hn : n = 1
    · subst hn
      replace hp : (match g.stack with | .int v :: rest => some { g with pc := g.pc + 1, stack := .int (v.toUInt32.toUInt16.toUInt32.toInt32) :: rest } | _ => none) = some g' := hp
      split at hp
      · skip
        cases hp
        exact ⟨fun _ hr => XS.i2c X.here hx hg hd (by assumption) hr, hg⟩
      · cases hp
    · exact absurd hp (by intro q; rw [show own_pstep ci cl (.i2c) n g = none from if_neg hn] at q; cases q)
  case i2s =>
    by_cases hn : n = 1
    · subst hn
      replace hp : (match g.stack with | .int v :: rest => some { g with pc := g.pc + 1, stack := .int (v.toInt16.toInt32) :: rest } | _ => none) = some g' := hp
      split at hp
      · skip
        cases hp
        exact ⟨fun _ hr => XS.i2s X.here hx hg hd (by assumption) hr, hg⟩
      · cases hp
    · exact absurd hp (by intro q; rw [show own_pstep ci cl (.i2s) n g = none from if_neg hn] at q; cases q)
  case iinc k cst =>
    by_cases hn : n = 3
    · subst hn
      replace hp : (match g.locals[k]? with | some (.val (.int x)) => (match storeLocals g.locals k (.int (x + Int32.ofInt cst)) with | some l' => some { g with pc := g.pc + 3, locals := l' } | none => none) | _ => none) = some g' := hp
      split at hp
      · skip
        split at hp
        · skip
          cases hp
          exact ⟨fun _ hr => XS.iinc X.here hx hg hd (by assumption) (by assumption) hr, hg⟩
        · cases hp
      · cases hp
    · exact absurd hp (by intro q; rw [show own_pstep ci cl (.iinc k cst) n g = none from if_neg hn] at q; cases q)
  case dup =>
    by_cases hn : n = 1
    · subst hn
      replace hp : (match g.stack with | x :: rest => (if x.category = 1 then some { g with pc := g.pc + 1, stack := x :: x :: rest } else none) | _ => none) = some g' := hp
      split at hp
      · skip
        split at hp
        · skip
          cases hp
          exact ⟨fun _ hr => XS.dup X.here hx hg hd (by assumption) (by assumption) hr, hg⟩
        · cases hp
      · cases hp
    · exact absurd hp (by intro q; rw [show own_pstep ci cl (.dup) n g = none from if_neg hn] at q; cases q)
  case pop =>
    by_cases hn : n = 1
    · subst hn
      replace hp : (match g.stack with | x :: rest => (if x.category = 1 then some { g with pc := g.pc + 1, stack := rest } else none) | _ => none) = some g' := hp
      split at hp
      · skip
        split at hp
        · skip
          cases hp
          exact ⟨fun _ hr => XS.pop X.here hx hg hd (by assumption) (by assumption) hr, hg⟩
        · cases hp
      · cases hp
    · exact absurd hp (by intro q; rw [show own_pstep ci cl (.pop) n g = none from if_neg hn] at q; cases q)
  case goto o =>
    by_cases hn : n = 3
    · subst hn
      replace hp : (if 0 ≤ (g.pc : Int) + o then some { g with pc := ((g.pc : Int) + o).toNat } else none) = some g' := hp
      split at hp
      · skip
        cases hp
        exact ⟨fun _ hr => XS.goto X.here hx hg rfl hd (by assumption) rfl hr, hg⟩
      · cases hp
    · exact absurd hp (by intro q; rw [show own_pstep ci cl (.goto o) n g = none from if_neg hn] at q; cases q)
  case ldc i =>
    by_cases hn : n = 2
    · subst hn
      replace hp : (match own_look i ci with | some v => some { g with pc := g.pc + 2, stack := .int v :: g.stack } | none => none) = some g' := hp
      split at hp
      · skip
        cases hp
        exact ⟨fun _ hr => X.ldcInt hx hown (hci _ _ (own_look_mem (by assumption))) hg hd _ hr, hg⟩
      · cases hp
    · exact absurd hp (by intro q; rw [show own_pstep ci cl (.ldc i) n g = none from if_neg hn] at q; cases q)
  case ldc_w i =>
    by_cases hn : n = 3
    · subst hn
      replace hp : (match own_look i ci with | some v => some { g with pc := g.pc + 3, stack := .int v :: g.stack } | none => none) = some g' := hp
      split at hp
      · skip
        cases hp
        exact ⟨fun _ hr => X.ldcwInt hx hown (hci _ _ (own_look_mem (by assumption))) hg hd _ hr, hg⟩
      · cases hp
    · exact absurd hp (by intro q; rw [show own_pstep ci cl (.ldc_w i) n g = none from if_neg hn] at q; cases q)
  case ldc2_w i =>
    by_cases hn : n = 3
    · subst hn
      replace hp : (match own_look i cl with | some v => some { g with pc := g.pc + 3, stack := .long v :: g.stack } | none => none) = some g' := hp
      split at hp
      · skip
        cases hp
        exact ⟨fun _ hr => X.ldc2Long hx hown (hcl _ _ (own_look_mem (by assumption))) hg hd _ hr, hg⟩
      · cases hp
    · exact absurd hp (by intro q; rw [show own_pstep ci cl (.ldc2_w i) n g = none from if_neg hn] at q; cases q)
  case idiv =>
    by_cases hn : n = 1
    · subst hn
      replace hp : (match g.stack with | .int y :: .int x :: rest => (if y = 0 then none else some { g with pc := g.pc + 1, stack := .int (x / y) :: rest }) | _ => none) = some g' := hp
      split at hp
      · skip
        split at hp
        · cases hp
        · cases hp; exact ⟨fun _ hr => XS.idiv X.here hx hg hd (by assumption) (by assumption) hr, hg⟩
      · cases hp
    · exact absurd hp (by intro q; rw [show own_pstep ci cl (.idiv) n g = none from if_neg hn] at q; cases q)
  case irem =>
    by_cases hn : n = 1
    · subst hn
      replace hp : (match g.stack with | .int y :: .int x :: rest => (if y = 0 then none else some { g with pc := g.pc + 1, stack := .int (x - (x / y) * y) :: rest }) | _ => none) = some g' := hp
      split at hp
      · skip
        split at hp
        · cases hp
        · cases hp; exact ⟨fun _ hr => XS.irem X.here hx hg hd (by assumption) (by assumption) hr, hg⟩
      · cases hp
    · exact absurd hp (by intro q; rw [show own_pstep ci cl (.irem) n g = none from if_neg hn] at q; cases q)
  case ldiv =>
    by_cases hn : n = 1
    · subst hn
      replace hp : (match g.stack with | .long y :: .long x :: rest => (if y = 0 then none else some { g with pc := g.pc + 1, stack := .long (x / y) :: rest }) | _ => none) = some g' := hp
      split at hp
      · skip
        split at hp
        · cases hp
        · cases hp; exact ⟨fun _ hr => XS.ldiv X.here hx hg hd (by assumption) (by assumption) hr, hg⟩
      · cases hp
    · exact absurd hp (by intro q; rw [show own_pstep ci cl (.ldiv) n g = none from if_neg hn] at q; cases q)
  case lrem =>
    by_cases hn : n = 1
    · subst hn
      replace hp : (match g.stack with | .long y :: .long x :: rest => (if y = 0 then none else some { g with pc := g.pc + 1, stack := .long (x - (x / y) * y) :: rest }) | _ => none) = some g' := hp
      split at hp
      · skip
        split at hp
        · cases hp
        · cases hp; exact ⟨fun _ hr => XS.lrem X.here hx hg hd (by assumption) (by assumption) hr, hg⟩
      · cases hp
    · exact absurd hp (by intro q; rw [show own_pstep ci cl (.lrem) n g = none from if_neg hn] at q; cases q)
def own_decs (code : ByteArray) (L : List (Nat × Instr × Nat)) : Bool := L.all fun q => decide (decode code q.1 = .ok (q.2.1, q.2.2))
def own_prun (ci : List (Nat × Int32)) (cl : List (Nat × Int64)) : List (Nat × Instr × Nat) → JFrame → Option JFrame
  | [], g => some g
  | (pc, i, n) :: r, g => if g.pc = pc then (match own_pstep ci cl i n g with | some g' => own_prun ci cl r g' | none => none) else none
theorem own_prun_ok (X : Stand p l e R s m args below meth c T locs cells slots) (hx : p.tables.exec = Jvm.exec) (hown : s.vm.findClass own = some m.cls) (hci : ∀ i v, (i, v) ∈ ci → (Cond.constant own i v).before args s = true) (hcl : ∀ i v, (i, v) ∈ cl → (Cond.constantLong own i v).before args s = true) {code : ByteArray} (hby : c.code = code) :
    ∀ (L : List (Nat × Instr × Nat)) (g g' : JFrame), g.method = m → own_decs code L = true → own_prun ci cl L g = some g' → Steps p.tables e below (T.setTop g') target → Steps p.tables e below (T.setTop g) target := by
  intro L
  induction L with
  | nil => intro g g' _ _ hp hr; cases hp; exact hr
  | cons q r ih =>
    intro g g' hg hd hp hr
    obtain ⟨pc, i, n⟩ := q
    have hd' : decide (decode code pc = .ok (i, n)) = true ∧ own_decs code r = true := by
      have : (decide (decode code pc = .ok (i, n)) && own_decs code r) = true := hd
      simpa using this
    replace hp : (if g.pc = pc then (match own_pstep ci cl i n g with | some g' => own_prun ci cl r g' | none => none) else none) = some g' := hp
    by_cases hpc : g.pc = pc
    · rw [if_pos hpc] at hp
      cases hs : own_pstep ci cl i n g with
      | none => rw [hs] at hp; cases hp
      | some g1 =>
        rw [hs] at hp
        have q := own_pstep_ok X hx hown hci hcl hg (i := i) (n := n) (by rw [hby, hpc]; exact of_decide_eq_true hd'.1) hs
        exact q.1 _ (ih g1 g' q.2 hd'.2 hp hr)
    · rw [if_neg hpc] at hp; cases hp
theorem Goes.run (X : Stand p l e R s m args below meth c T locs cells slots) (hx : p.tables.exec = Jvm.exec) (hown : s.vm.findClass own = some m.cls) (hci : ∀ i v, (i, v) ∈ ci → (Cond.constant own i v).before args s = true) (hcl : ∀ i v, (i, v) ∈ cl → (Cond.constantLong own i v).before args s = true) {code : ByteArray} (hby : c.code = code)
    {L : List (Nat × Instr × Nat)} (hd : own_decs code L = true) {g g' : JFrame} (hg : g.method = m) (hp : own_prun ci cl L g = some g') (h : Goes p e below s Q kc ks (T.setTop g')) : Goes p e below s Q kc ks (T.setTop g) :=
  Goes.st (fun _ k => own_prun_ok X hx hown hci hcl hby L g g' hg hd hp k) h
theorem own_ci0 {α : Type} {P : Nat → α → Prop} : ∀ i v, (i, v) ∈ ([] : List (Nat × α)) → P i v := fun _ _ q => nomatch q
theorem own_ciS {α : Type} {P : Nat → α → Prop} {j : Nat} {w : α} {L : List (Nat × α)} (h : P j w) (r : ∀ i v, (i, v) ∈ L → P i v) : ∀ i v, (i, v) ∈ (j, w) :: L → P i v := fun i v q => (List.mem_cons.mp q).elim (fun z => by cases z; exact h) (r i v)
end OwnRun
theorem own_rem32 (x y : Int32) : (x - (x / y) * y).toInt = x.toInt.tmod y.toInt := by
  have a := (x % y).toInt_lt; have b := (x % y).le_toInt
  rw [Int32.toInt_mod] at a b
  rw [Int32.toInt_sub, Int32.toInt_mul, Int32.toInt_div, Int.bmod_mul_bmod, Int.sub_bmod_bmod, Int.mul_comm, ← Int.tmod_def]
  exact Jvm.Kit.bmod32 b a
section OwnNums
variable {x y : Int64} {u v : Int32} {a b : Int}
theorem own_r32 (hx : u.toInt = a) (hy : v.toInt = b) (h0 : 0 ≤ a) : (u - (u / v) * v).toInt = a % b := by subst hx hy; rw [own_rem32, Int.tmod_eq_emod_of_nonneg h0]
theorem own_r64 (hx : x.toInt = a) (hy : y.toInt = b) (h0 : 0 ≤ a) : (x - (x / y) * y).toInt = a % b := by subst hx hy; rw [Jvm.Kit.i64_rem, Int.tmod_eq_emod_of_nonneg h0]
theorem own_mul64 (hx : x.toInt = a) (hy : y.toInt = b) (h1 : -2 ^ 63 ≤ a * b) (h2 : a * b < 2 ^ 63) : (x * y).toInt = a * b := by subst hx hy; exact Jvm.Kit.i64_mul h1 h2
theorem own_mul32 (hx : u.toInt = a) (hy : v.toInt = b) (h1 : -2 ^ 31 ≤ a * b) (h2 : a * b < 2 ^ 31) : (u * v).toInt = a * b := by subst hx hy; exact Jvm.Kit.i32_mul h1 h2
theorem own_add64 (hx : x.toInt = a) (hy : y.toInt = b) (h1 : -2 ^ 63 ≤ a + b) (h2 : a + b < 2 ^ 63) : (x + y).toInt = a + b := by subst hx hy; exact Jvm.Kit.i64_add h1 h2
theorem own_add32 (hx : u.toInt = a) (hy : v.toInt = b) (h1 : -2 ^ 31 ≤ a + b) (h2 : a + b < 2 ^ 31) : (u + v).toInt = a + b := by subst hx hy; exact Jvm.Kit.i32_add h1 h2
theorem own_sub64 (hx : x.toInt = a) (hy : y.toInt = b) (h1 : -2 ^ 63 ≤ a - b) (h2 : a - b < 2 ^ 63) : (x - y).toInt = a - b := by subst hx hy; exact Jvm.Kit.i64_sub h1 h2
theorem own_sub32 (hx : u.toInt = a) (hy : v.toInt = b) (h1 : -2 ^ 31 ≤ a - b) (h2 : a - b < 2 ^ 31) : (u - v).toInt = a - b := by subst hx hy; exact Jvm.Kit.i32_sub h1 h2
theorem own_i2l (hx : u.toInt = a) : u.toInt64.toInt = a := by subst hx; exact Jvm.Kit.i64_of_i32 u
theorem own_lt64 (hx : x.toInt = a) (hy : y.toInt = b) : x < y ↔ a < b := by rw [Int64.lt_iff_toInt_lt, hx, hy]
theorem own_lt32 (hx : u.toInt = a) (hy : v.toInt = b) : u < v ↔ a < b := by rw [Int32.lt_iff_toInt_lt, hx, hy]
theorem own_eq64 (hx : x.toInt = a) (hy : y.toInt = b) : x = y ↔ a = b := by rw [← Int64.toInt_inj, hx, hy]
theorem own_eq32 (hx : u.toInt = a) (hy : v.toInt = b) : u = v ↔ a = b := by rw [← Int32.toInt_inj, hx, hy]
theorem own_m32 (u : Int32) (m : Int32) {k : Nat} (hk : k < 32) (hm : m.toBitVec.toNat = 2 ^ k - 1) : ∃ a : Int, (u &&& m).toInt = a ∧ 0 ≤ a ∧ a < 2 ^ k ∧ a = u.toInt % 2 ^ k := by
  refine ⟨_, Jvm.Kit.i32_mask u m hk hm, Int.emod_nonneg _ (Int.ne_of_gt (Int.pow_pos (by decide))), Int.emod_lt_of_pos _ (Int.pow_pos (by decide)), rfl⟩
theorem own_m64 (x : Int64) (m : Int64) {k : Nat} (hk : k < 64) (hm : m.toBitVec.toNat = 2 ^ k - 1) : ∃ a : Int, (x &&& m).toInt = a ∧ 0 ≤ a ∧ a < 2 ^ k ∧ a = x.toInt % 2 ^ k := by
  refine ⟨_, Jvm.Kit.i64_mask x m hk hm, Int.emod_nonneg _ (Int.ne_of_gt (Int.pow_pos (by decide))), Int.emod_lt_of_pos _ (Int.pow_pos (by decide)), rfl⟩
theorem own_nm {P : Int → Prop} {z : Int} (h : P z) : ∃ a, a = z ∧ P a := ⟨z, rfl, h⟩
end OwnNums
theorem own_nat32 {u : Int32} {a : Int} (hu : u.toInt = a) (h0 : 0 ≤ a) {N : Nat} (h1 : a < N) : ∃ n : Nat, n < N ∧ u = Int32.ofNat n ∧ a = (n : Int) := by
  have q := u.toInt_lt
  refine ⟨a.toNat, by omega, ?_, by omega⟩
  apply Int32.toInt_inj.mp
  rw [Int32.toInt_ofNat_of_lt (by omega), hu]; omega
theorem own_bv64 {x : Int64} {a : Int} (hx : x.toInt = a) (h0 : 0 ≤ a) : (x.toBitVec.toNat : Int) = a := by
  have e : x.toInt = x.toBitVec.toInt := rfl
  have hb := x.toBitVec.isLt
  rw [e, BitVec.toInt_eq_toNat_cond] at hx
  split at hx <;> omega
theorem own_bv32 {x : Int32} {a : Int} (hx : x.toInt = a) (h0 : 0 ≤ a) : (x.toBitVec.toNat : Int) = a := by
  have e : x.toInt = x.toBitVec.toInt := rfl
  have hb := x.toBitVec.isLt
  rw [e, BitVec.toInt_eq_toNat_cond] at hx
  split at hx <;> omega
theorem own_shn (y : Int32) : ((y &&& 0x3f).toInt64.toUInt64).toNat < 64 := by
  obtain ⟨a, h1, h2, h3, -⟩ := own_m32 y (0x3f : Int32) (k := 6) (by decide) (by decide)
  have h4 := own_bv64 (own_i2l h1) h2
  have e : ((y &&& 0x3f).toInt64.toUInt64).toNat = (y &&& 0x3f).toInt64.toBitVec.toNat := rfl
  rw [e]
  omega
theorem own_ushr0 {x : Int64} {a : Int} (hx : x.toInt = a) (h0 : 0 ≤ a) (y : Int32) : ∃ b : Int, ((x.toUInt64 >>> (y &&& 0x3f).toInt64.toUInt64).toInt64).toInt = b ∧ 0 ≤ b ∧ b ≤ a := by
  refine ⟨_, Jvm.Kit.i64_lushr (by rw [Jvm.Kit.i64_nonneg, hx]; exact h0) rfl (own_shn y), ?_, ?_⟩
  · rw [hx]; exact Int.ediv_nonneg h0 (Int.le_of_lt (Int.pow_pos (by decide)))
  · rw [hx]; exact Int.ediv_le_self _ h0
theorem own_ushrk {x : Int64} {a : Int} (hx : x.toInt = a) (h0 : 0 ≤ a) {n : UInt64} {k : Nat} (hn : n.toNat = k) (hk : k < 64) {d : Int} (hd : (2 : Int) ^ k = d) : ((x.toUInt64 >>> n).toInt64).toInt = a / d := by
  rw [Jvm.Kit.i64_lushr (by rw [Jvm.Kit.i64_nonneg, hx]; exact h0) hn hk, hx, hd]
theorem own_ofbv32 {x : Int32} (h : x.toBitVec.toNat < 2 ^ 31) : x.toInt = (x.toBitVec.toNat : Int) := by
  have e : x.toInt = x.toBitVec.toInt := rfl
  rw [e, BitVec.toInt_eq_toNat_cond, if_pos (by omega)]
theorem own_xor32 {x y : Int32} {a b : Int} (hx : x.toInt = a) (hy : y.toInt = b) (h0 : 0 ≤ a) (h1 : 0 ≤ b) : ∃ c : Int, (x ^^^ y).toInt = c ∧ 0 ≤ c := by
  have p := own_bv32 hx h0; have q := own_bv32 hy h1
  have r := x.toInt_lt; have s := y.toInt_lt
  have e : (x ^^^ y).toBitVec.toNat = x.toBitVec.toNat ^^^ y.toBitVec.toNat := by simp [Int32.toBitVec_xor, BitVec.toNat_xor]
  have l : (x ^^^ y).toBitVec.toNat < 2 ^ 31 := by rw [e]; exact Nat.xor_lt_two_pow (by omega) (by omega)
  exact ⟨_, own_ofbv32 l, Int.natCast_nonneg _⟩
theorem d1_2 : decode jdk_29_method_65_code 2 = .ok (.if_icmp .lt 7, 3) := by decide +kernel
theorem d1_10 : decode jdk_29_method_65_code 10 = .ok (.ireturn, 1) := by decide +kernel
theorem ef1 (m : MethodId) (x0 : Int32) (x1 : Int32) : entryFrame m #[(.int x0), (.int x1)] 2 = (mkF m 0 #[iv x0, iv x1] []) := by first | (simp [entryFrame, mkF, argsToLocals, Value.category]; done) | rfl
def r1 (x0 : Int32) (x1 : Int32) : Int32 := (if x0 < x1 then x1 else x0)
set_option maxRecDepth 65536 in
set_option maxHeartbeats 40000000 in
theorem rm1 (l : Launch) (Z : State) (a0 : Array Value) (hw : ∀ d ∈ tables_1, d.before a0 Z = true) (ws : List Jvm.Cond) (x0 : Int32) (x1 : Int32) (h0 : Heap) (n0 : Nat) (Z0 : n0 ≤ h0.size) :
    MetFree l ym0 (head1 (Jvm.Cond.code ym0 jdk_29_method_65_code 2 (some .int) :: ws) ({ frames := 0, cells := 0, slots := 0, locals := 0 } : Room)) (fun a U => a = #[(.int x0), (.int x1)] ∧ Z.Warmed39 U.vm ∧ U.heap = h0) (fun _ _ _ _ _ => True) (fun _ U o U' => ∃ v L, o = .returned v ∧ (QP (some (.int (r1 x0 x1))) h0 n0) v U'.heap L ∧ FrameEnd U o U' L ({ frames := 0, cells := 0, slots := 0, locals := 0 } : Room).cells ({ frames := 0, cells := 0, slots := 0, locals := 0 } : Room).slots) := by
  refine MetFree.of_bodySF (Jvm.Free.JP.mathPlain rfl (by decide +kernel)) hisR ?_
  intro p e s m args below meth c s₁ Bd hml0 hP hK
  obtain ⟨rfl, hZ, hh⟩ := hP
  have hx := Bd.exec
  have hby := Bd.bytes
  have hml : c.maxLocals = 2 := hml0
  have hlk : meth.locks = false := BodyLoose.notSynchronized Bd
  have hown : s.vm.findClass "java/lang/Math" = some m.cls := findClass_of_methodNamed Bd.named
  have hnm := (name_of_methodNamed Bd.named Bd.method).1
  have hci : ∀ i v, (i, v) ∈ ([] : List (Nat × Int32)) → (Jvm.Cond.constant "java/lang/Math" i v).before #[(.int x0), (.int x1)] s = true := own_ci0
  have hcl : ∀ i v, (i, v) ∈ ([] : List (Nat × Int64)) → (Jvm.Cond.constantLong "java/lang/Math" i v).before #[(.int x0), (.int x1)] s = true := own_ci0
  have X0 : Stand p l e ({ frames := 0, cells := 0, slots := 0, locals := 0 } : Room) s m #[(.int x0), (.int x1)] below meth c s₁ [] 0 0 := Stand.of_body Bd
  have e0 : s₁.heap = h0 := by rw [← hh, Bd.state]; rfl
  have N0 := Fr.nil n0
  show Goes p e below s (QP (some (.int (r1 x0 x1))) h0 n0) ({ frames := 0, cells := 0, slots := 0, locals := 0 } : Room).cells ({ frames := 0, cells := 0, slots := 0, locals := 0 } : Room).slots (s₁.setTop (entryFrame m #[(.int x0), (.int x1)] 2))
  refine Goes.cast (ef1 m x0 x1) ?_
  refine Goes.run X0 hx hown hci hcl hby (L := [(0, .iload_n 0, 1), (1, .iload_n 1, 1)]) (by decide +kernel) rfl (g' := (mkF m 2 #[iv x0, iv x1] [(.int x1), (.int x0)])) rfl ?_
  by_cases hc2_1 : x0 < x1
  · skip
    refine Goes.st (B := s₁.setTop (mkF m 9 #[iv x0, iv x1] [])) (fun t k => ?_) ?_
    · refine XS.icmpYes X0.here hx rfl (pc0 := 2) (pc' := 9) rfl (hb hby d1_2) rfl (tlt hc2_1).1 (by decide) (by decide) ?_
      exact k
    refine Goes.run X0 hx hown hci hcl hby (L := [(9, .iload_n 1, 1)]) (by decide +kernel) rfl (g' := (mkF m 10 #[iv x0, iv x1] [(.int x1)])) rfl ?_
    exact Goes.retI X0 hx hlk Bd.returns (hb hby d1_10) ⟨(congrArg (fun z => some (Value.int z)) (show (r1 x0 x1) = x1 from (if_pos hc2_1)).symm), N0, e0⟩ (by decide) (by decide)
  · skip
    refine Goes.st (B := s₁.setTop (mkF m 5 #[iv x0, iv x1] [])) (fun t k => ?_) ?_
    · refine XS.icmpNo X0.here hx rfl (hb hby d1_2) rfl (flt hc2_1).1 ?_
      exact k
    refine Goes.run X0 hx hown hci hcl hby (L := [(5, .iload_n 0, 1), (6, .goto 4, 3)]) (by decide +kernel) rfl (g' := (mkF m 10 #[iv x0, iv x1] [(.int x0)])) rfl ?_
    exact Goes.retI X0 hx hlk Bd.returns (hb hby d1_10) ⟨(congrArg (fun z => some (Value.int z)) (show (r1 x0 x1) = x0 from (if_neg hc2_1)).symm), N0, e0⟩ (by decide) (by decide)
theorem d2_1 : decode jdk_33_method_47_code 1 = .ok (.ifCond .gt 14, 3) := by decide +kernel
theorem d2_5 : decode jdk_33_method_47_code 5 = .ok (.ifCond .ne 8, 3) := by decide +kernel
theorem d2_14 : decode jdk_33_method_47_code 14 = .ok (.ireturn, 1) := by decide +kernel
theorem d2_22 : decode jdk_33_method_47_code 22 = .ok (.if_icmp .lt 11, 3) := by decide +kernel
theorem d2_37 : decode jdk_33_method_47_code 37 = .ok (.if_icmp .lt 11, 3) := by decide +kernel
theorem d2_51 : decode jdk_33_method_47_code 51 = .ok (.if_icmp .lt 10, 3) := by decide +kernel
theorem d2_63 : decode jdk_33_method_47_code 63 = .ok (.if_icmp .lt 10, 3) := by decide +kernel
theorem d2_78 : decode jdk_33_method_47_code 78 = .ok (.ireturn, 1) := by decide +kernel
theorem pn3 : plainName "java/lang/Integer" = true := by first | (simp [plainName, overriddenIn]; done) | decide +kernel
theorem ef3 (m : MethodId) (x0 : Int32) : entryFrame m #[(.int x0)] 2 = (mkF m 0 #[iv x0, .unset] []) := by first | (simp [entryFrame, mkF, argsToLocals, Value.category]; done) | rfl
def w3_32 (x0 : Int32) : Int32 := ((x0.toUInt32 >>> ((16 : Int32) &&& 31).toUInt32).toInt32)
def j3_33_0 (x0 : Int32) : Int32 := (if x0 < (65536 : Int32) then x0 else (w3_32 x0))
def j3_33_1 (x0 : Int32) : Int32 := (if x0 < (65536 : Int32) then (31 : Int32) else (15 : Int32))
def w3_40 (x0 : Int32) : Int32 := ((j3_33_1 x0) + Int32.ofInt (-8))
def w3_47 (x0 : Int32) : Int32 := (((j3_33_0 x0).toUInt32 >>> ((8 : Int32) &&& 31).toUInt32).toInt32)
def j3_48_0 (x0 : Int32) : Int32 := (if (j3_33_0 x0) < (256 : Int32) then (j3_33_0 x0) else (w3_47 x0))
def j3_48_1 (x0 : Int32) : Int32 := (if (j3_33_0 x0) < (256 : Int32) then (j3_33_1 x0) else (w3_40 x0))
def w3_54 (x0 : Int32) : Int32 := ((j3_48_1 x0) + Int32.ofInt (-4))
def w3_60 (x0 : Int32) : Int32 := (((j3_48_0 x0).toUInt32 >>> ((4 : Int32) &&& 31).toUInt32).toInt32)
def j3_61_0 (x0 : Int32) : Int32 := (if (j3_48_0 x0) < (16 : Int32) then (j3_48_0 x0) else (w3_60 x0))
def j3_61_1 (x0 : Int32) : Int32 := (if (j3_48_0 x0) < (16 : Int32) then (j3_48_1 x0) else (w3_54 x0))
def w3_66 (x0 : Int32) : Int32 := ((j3_61_1 x0) + Int32.ofInt (-2))
def w3_72 (x0 : Int32) : Int32 := (((j3_61_0 x0).toUInt32 >>> ((2 : Int32) &&& 31).toUInt32).toInt32)
def j3_73_0 (x0 : Int32) : Int32 := (if (j3_61_0 x0) < (4 : Int32) then (j3_61_0 x0) else (w3_72 x0))
def j3_73_1 (x0 : Int32) : Int32 := (if (j3_61_0 x0) < (4 : Int32) then (j3_61_1 x0) else (w3_66 x0))
def r3 (x0 : Int32) : Int32 := (if (0 : Int32) < x0 then ((j3_73_1 x0) - (((j3_73_0 x0).toUInt32 >>> ((1 : Int32) &&& 31).toUInt32).toInt32)) else (if x0 = (0 : Int32) then (32 : Int32) else (0 : Int32)))
set_option maxRecDepth 65536 in
set_option maxHeartbeats 40000000 in
theorem rm3 (l : Launch) (Z : State) (a0 : Array Value) (hw : ∀ d ∈ tables_1, d.before a0 Z = true) (ws : List Jvm.Cond) (x0 : Int32) (h0 : Heap) (n0 : Nat) (Z0 : n0 ≤ h0.size) :
    MetFree l ym1 (head1 (Jvm.Cond.code ym1 jdk_33_method_47_code 2 (some .int) :: ws) ({ frames := 0, cells := 0, slots := 0, locals := 0 } : Room)) (fun a U => a = #[(.int x0)] ∧ Z.Warmed39 U.vm ∧ U.heap = h0) (fun _ _ _ _ _ => True) (fun _ U o U' => ∃ v L, o = .returned v ∧ (QP (some (.int (r3 x0))) h0 n0) v U'.heap L ∧ FrameEnd U o U' L ({ frames := 0, cells := 0, slots := 0, locals := 0 } : Room).cells ({ frames := 0, cells := 0, slots := 0, locals := 0 } : Room).slots) := by
  refine MetFree.of_bodySF (plainFor_of_name pn3) hisR ?_
  intro p e s m args below meth c s₁ Bd hml0 hP hK
  obtain ⟨rfl, hZ, hh⟩ := hP
  have hx := Bd.exec
  have hby := Bd.bytes
  have hml : c.maxLocals = 2 := hml0
  have hlk : meth.locks = false := BodyLoose.notSynchronized Bd
  have hown : s.vm.findClass "java/lang/Integer" = some m.cls := findClass_of_methodNamed Bd.named
  have hnm := (name_of_methodNamed Bd.named Bd.method).1
  have w_16 := hw _ (List.mem_of_getElem? (i := 16) rfl)
  have hci : ∀ i v, (i, v) ∈ ([(264, 65536)] : List (Nat × Int32)) → (Jvm.Cond.constant "java/lang/Integer" i v).before #[(.int x0)] s = true := (own_ciS (mvT hZ w_16) own_ci0)
  have hcl : ∀ i v, (i, v) ∈ ([] : List (Nat × Int64)) → (Jvm.Cond.constantLong "java/lang/Integer" i v).before #[(.int x0)] s = true := own_ci0
  have X0 : Stand p l e ({ frames := 0, cells := 0, slots := 0, locals := 0 } : Room) s m #[(.int x0)] below meth c s₁ [] 0 0 := Stand.of_body Bd
  have e0 : s₁.heap = h0 := by rw [← hh, Bd.state]; rfl
  have N0 := Fr.nil n0
  show Goes p e below s (QP (some (.int (r3 x0))) h0 n0) ({ frames := 0, cells := 0, slots := 0, locals := 0 } : Room).cells ({ frames := 0, cells := 0, slots := 0, locals := 0 } : Room).slots (s₁.setTop (entryFrame m #[(.int x0)] 2))
  refine Goes.cast (ef3 m x0) ?_
  refine Goes.run X0 hx hown hci hcl hby (L := [(0, .iload_n 0, 1)]) (by decide +kernel) rfl (g' := (mkF m 1 #[iv x0, .unset] [(.int x0)])) rfl ?_
  by_cases hc1_1 : (0 : Int32) < x0
  · skip
    refine Goes.st (B := s₁.setTop (mkF m 15 #[iv x0, .unset] [])) (fun t k => ?_) ?_
    · refine XS.ifYes X0.here hx rfl (pc0 := 1) (pc' := 15) rfl (hb hby d2_1) rfl ((if0 _ _).trans (tlt hc1_1).2.2.1) (by decide) (by decide) ?_
      exact k
    refine Goes.run X0 hx hown hci hcl hby (L := [(15, .bipush 31, 2), (17, .istore_n 1, 1), (18, .iload_n 0, 1), (19, .ldc_w 264, 3)]) (by decide +kernel) rfl (g' := (mkF m 22 #[iv x0, iv (31 : Int32)] [(.int (65536 : Int32)), (.int x0)])) rfl ?_
    have jn33_3 : Goes p e below s (QP (some (.int (r3 x0))) h0 n0) ({ frames := 0, cells := 0, slots := 0, locals := 0 } : Room).cells ({ frames := 0, cells := 0, slots := 0, locals := 0 } : Room).slots (s₁.setTop (mkF m 33 #[iv (j3_33_0 x0), iv (j3_33_1 x0)] [])) := by
      refine Goes.run X0 hx hown hci hcl hby (L := [(33, .iload_n 0, 1), (34, .sipush 256, 3)]) (by decide +kernel) rfl (g' := (mkF m 37 #[iv (j3_33_0 x0), iv (j3_33_1 x0)] [(.int (256 : Int32)), (.int (j3_33_0 x0))])) rfl ?_
      have jn48_5 : Goes p e below s (QP (some (.int (r3 x0))) h0 n0) ({ frames := 0, cells := 0, slots := 0, locals := 0 } : Room).cells ({ frames := 0, cells := 0, slots := 0, locals := 0 } : Room).slots (s₁.setTop (mkF m 48 #[iv (j3_48_0 x0), iv (j3_48_1 x0)] [])) := by
        refine Goes.run X0 hx hown hci hcl hby (L := [(48, .iload_n 0, 1), (49, .bipush 16, 2)]) (by decide +kernel) rfl (g' := (mkF m 51 #[iv (j3_48_0 x0), iv (j3_48_1 x0)] [(.int (16 : Int32)), (.int (j3_48_0 x0))])) rfl ?_
        have jn61_7 : Goes p e below s (QP (some (.int (r3 x0))) h0 n0) ({ frames := 0, cells := 0, slots := 0, locals := 0 } : Room).cells ({ frames := 0, cells := 0, slots := 0, locals := 0 } : Room).slots (s₁.setTop (mkF m 61 #[iv (j3_61_0 x0), iv (j3_61_1 x0)] [])) := by
          refine Goes.run X0 hx hown hci hcl hby (L := [(61, .iload_n 0, 1), (62, .iconst 4, 1)]) (by decide +kernel) rfl (g' := (mkF m 63 #[iv (j3_61_0 x0), iv (j3_61_1 x0)] [(.int (4 : Int32)), (.int (j3_61_0 x0))])) rfl ?_
          have jn73_9 : Goes p e below s (QP (some (.int (r3 x0))) h0 n0) ({ frames := 0, cells := 0, slots := 0, locals := 0 } : Room).cells ({ frames := 0, cells := 0, slots := 0, locals := 0 } : Room).slots (s₁.setTop (mkF m 73 #[iv (j3_73_0 x0), iv (j3_73_1 x0)] [])) := by
            refine Goes.run X0 hx hown hci hcl hby (L := [(73, .iload_n 1, 1), (74, .iload_n 0, 1), (75, .iconst 1, 1), (76, .iushr, 1), (77, .isub, 1)]) (by decide +kernel) rfl (g' := (mkF m 78 #[iv (j3_73_0 x0), iv (j3_73_1 x0)] [(.int ((j3_73_1 x0) - (((j3_73_0 x0).toUInt32 >>> ((1 : Int32) &&& 31).toUInt32).toInt32)))])) rfl ?_
            exact Goes.retI X0 hx hlk Bd.returns (hb hby d2_78) ⟨(congrArg (fun z => some (Value.int z)) (show (r3 x0) = ((j3_73_1 x0) - (((j3_73_0 x0).toUInt32 >>> ((1 : Int32) &&& 31).toUInt32).toInt32)) from (if_pos hc1_1)).symm), N0, e0⟩ (by decide) (by decide)
          by_cases hc63_8 : (j3_61_0 x0) < (4 : Int32)
          · skip
            refine Goes.st (B := s₁.setTop (mkF m 73 #[iv (j3_61_0 x0), iv (j3_61_1 x0)] [])) (fun t k => ?_) ?_
            · refine XS.icmpYes X0.here hx rfl (pc0 := 63) (pc' := 73) rfl (hb hby d2_63) rfl (tlt hc63_8).1 (by decide) (by decide) ?_
              exact k
            have q := jn73_9
            rw [show (j3_73_0 x0) = (j3_61_0 x0) from (if_pos hc63_8), show (j3_73_1 x0) = (j3_61_1 x0) from (if_pos hc63_8)] at q
            exact q
          · skip
            refine Goes.st (B := s₁.setTop (mkF m 66 #[iv (j3_61_0 x0), iv (j3_61_1 x0)] [])) (fun t k => ?_) ?_
            · refine XS.icmpNo X0.here hx rfl (hb hby d2_63) rfl (flt hc63_8).1 ?_
              exact k
            refine Goes.run X0 hx hown hci hcl hby (L := [(66, .iinc 1 (-2), 3), (69, .iload_n 0, 1), (70, .iconst 2, 1), (71, .iushr, 1), (72, .istore_n 0, 1)]) (by decide +kernel) rfl (g' := (mkF m 73 #[iv (w3_72 x0), iv (w3_66 x0)] [])) rfl ?_
            have q := jn73_9
            rw [show (j3_73_0 x0) = (w3_72 x0) from (if_neg hc63_8), show (j3_73_1 x0) = (w3_66 x0) from (if_neg hc63_8)] at q
            exact q
        by_cases hc51_6 : (j3_48_0 x0) < (16 : Int32)
        · skip
          refine Goes.st (B := s₁.setTop (mkF m 61 #[iv (j3_48_0 x0), iv (j3_48_1 x0)] [])) (fun t k => ?_) ?_
          · refine XS.icmpYes X0.here hx rfl (pc0 := 51) (pc' := 61) rfl (hb hby d2_51) rfl (tlt hc51_6).1 (by decide) (by decide) ?_
            exact k
          have q := jn61_7
          rw [show (j3_61_0 x0) = (j3_48_0 x0) from (if_pos hc51_6), show (j3_61_1 x0) = (j3_48_1 x0) from (if_pos hc51_6)] at q
          exact q
        · skip
          refine Goes.st (B := s₁.setTop (mkF m 54 #[iv (j3_48_0 x0), iv (j3_48_1 x0)] [])) (fun t k => ?_) ?_
          · refine XS.icmpNo X0.here hx rfl (hb hby d2_51) rfl (flt hc51_6).1 ?_
            exact k
          refine Goes.run X0 hx hown hci hcl hby (L := [(54, .iinc 1 (-4), 3), (57, .iload_n 0, 1), (58, .iconst 4, 1), (59, .iushr, 1), (60, .istore_n 0, 1)]) (by decide +kernel) rfl (g' := (mkF m 61 #[iv (w3_60 x0), iv (w3_54 x0)] [])) rfl ?_
          have q := jn61_7
          rw [show (j3_61_0 x0) = (w3_60 x0) from (if_neg hc51_6), show (j3_61_1 x0) = (w3_54 x0) from (if_neg hc51_6)] at q
          exact q
      by_cases hc37_4 : (j3_33_0 x0) < (256 : Int32)
      · skip
        refine Goes.st (B := s₁.setTop (mkF m 48 #[iv (j3_33_0 x0), iv (j3_33_1 x0)] [])) (fun t k => ?_) ?_
        · refine XS.icmpYes X0.here hx rfl (pc0 := 37) (pc' := 48) rfl (hb hby d2_37) rfl (tlt hc37_4).1 (by decide) (by decide) ?_
          exact k
        have q := jn48_5
        rw [show (j3_48_0 x0) = (j3_33_0 x0) from (if_pos hc37_4), show (j3_48_1 x0) = (j3_33_1 x0) from (if_pos hc37_4)] at q
        exact q
      · skip
        refine Goes.st (B := s₁.setTop (mkF m 40 #[iv (j3_33_0 x0), iv (j3_33_1 x0)] [])) (fun t k => ?_) ?_
        · refine XS.icmpNo X0.here hx rfl (hb hby d2_37) rfl (flt hc37_4).1 ?_
          exact k
        refine Goes.run X0 hx hown hci hcl hby (L := [(40, .iinc 1 (-8), 3), (43, .iload_n 0, 1), (44, .bipush 8, 2), (46, .iushr, 1), (47, .istore_n 0, 1)]) (by decide +kernel) rfl (g' := (mkF m 48 #[iv (w3_47 x0), iv (w3_40 x0)] [])) rfl ?_
        have q := jn48_5
        rw [show (j3_48_0 x0) = (w3_47 x0) from (if_neg hc37_4), show (j3_48_1 x0) = (w3_40 x0) from (if_neg hc37_4)] at q
        exact q
    by_cases hc22_2 : x0 < (65536 : Int32)
    · skip
      refine Goes.st (B := s₁.setTop (mkF m 33 #[iv x0, iv (31 : Int32)] [])) (fun t k => ?_) ?_
      · refine XS.icmpYes X0.here hx rfl (pc0 := 22) (pc' := 33) rfl (hb hby d2_22) rfl (tlt hc22_2).1 (by decide) (by decide) ?_
        exact k
      have q := jn33_3
      rw [show (j3_33_0 x0) = x0 from (if_pos hc22_2), show (j3_33_1 x0) = (31 : Int32) from (if_pos hc22_2)] at q
      exact q
    · skip
      refine Goes.st (B := s₁.setTop (mkF m 25 #[iv x0, iv (31 : Int32)] [])) (fun t k => ?_) ?_
      · refine XS.icmpNo X0.here hx rfl (hb hby d2_22) rfl (flt hc22_2).1 ?_
        exact k
      refine Goes.run X0 hx hown hci hcl hby (L := [(25, .iinc 1 (-16), 3), (28, .iload_n 0, 1), (29, .bipush 16, 2), (31, .iushr, 1), (32, .istore_n 0, 1)]) (by decide +kernel) rfl (g' := (mkF m 33 #[iv (w3_32 x0), iv (15 : Int32)] [])) rfl ?_
      have q := jn33_3
      rw [show (j3_33_0 x0) = (w3_32 x0) from (if_neg hc22_2), show (j3_33_1 x0) = (15 : Int32) from (if_neg hc22_2)] at q
      exact q
  · skip
    refine Goes.st (B := s₁.setTop (mkF m 4 #[iv x0, .unset] [])) (fun t k => ?_) ?_
    · refine XS.ifNo X0.here hx rfl (hb hby d2_1) rfl ((if0 _ _).trans (flt hc1_1).2.2.1) ?_
      exact k
    refine Goes.run X0 hx hown hci hcl hby (L := [(4, .iload_n 0, 1)]) (by decide +kernel) rfl (g' := (mkF m 5 #[iv x0, .unset] [(.int x0)])) rfl ?_
    by_cases hc5_10 : x0 = (0 : Int32)
    · skip
      refine Goes.st (B := s₁.setTop (mkF m 8 #[iv x0, .unset] [])) (fun t k => ?_) ?_
      · refine XS.ifNo X0.here hx rfl (hb hby d2_5) rfl ((if0 _ _).trans (teq hc5_10).2) ?_
        exact k
      refine Goes.run X0 hx hown hci hcl hby (L := [(8, .bipush 32, 2), (10, .goto 4, 3)]) (by decide +kernel) rfl (g' := (mkF m 14 #[iv x0, .unset] [(.int (32 : Int32))])) rfl ?_
      exact Goes.retI X0 hx hlk Bd.returns (hb hby d2_14) ⟨(congrArg (fun z => some (Value.int z)) (show (r3 x0) = (32 : Int32) from ((if_neg hc1_1).trans (if_pos hc5_10))).symm), N0, e0⟩ (by decide) (by decide)
    · skip
      refine Goes.st (B := s₁.setTop (mkF m 13 #[iv x0, .unset] [])) (fun t k => ?_) ?_
      · refine XS.ifYes X0.here hx rfl (pc0 := 5) (pc' := 13) rfl (hb hby d2_5) rfl ((if0 _ _).trans (feq hc5_10).2) (by decide) (by decide) ?_
        exact k
      refine Goes.run X0 hx hown hci hcl hby (L := [(13, .iconst 0, 1)]) (by decide +kernel) rfl (g' := (mkF m 14 #[iv x0, .unset] [(.int (0 : Int32))])) rfl ?_
      exact Goes.retI X0 hx hlk Bd.returns (hb hby d2_14) ⟨(congrArg (fun z => some (Value.int z)) (show (r3 x0) = (0 : Int32) from ((if_neg hc1_1).trans (if_neg hc5_10))).symm), N0, e0⟩ (by decide) (by decide)
theorem d3_12 : decode prog_4_method_20_code 12 = .ok (.lreturn, 1) := by decide +kernel
theorem pn4 : plainName "com/example/eriu/eriu/algorithm/GroupElection" = true := by first | (simp [plainName, overriddenIn]; done) | decide +kernel
theorem ef4 (m : MethodId) (x0 : Int32) : entryFrame m #[(.int x0)] 1 = (mkF m 0 #[iv x0] []) := by first | (simp [entryFrame, mkF, argsToLocals, Value.category]; done) | rfl
def r4 (x0 : Int32) : Int64 := ((((3 : Int64) * (x0.toInt64)) + (1 : Int64)) / (2 : Int64))
set_option maxRecDepth 65536 in
set_option maxHeartbeats 40000000 in
theorem rm4 (l : Launch) (Z : State) (a0 : Array Value) (hw : ∀ d ∈ tables_1, d.before a0 Z = true) (ws : List Jvm.Cond) (x0 : Int32) (h0 : Heap) (n0 : Nat) (Z0 : n0 ≤ h0.size) :
    MetFree l ym2 (head1 (Jvm.Cond.code ym2 prog_4_method_20_code 1 (some .long) :: ws) ({ frames := 0, cells := 0, slots := 0, locals := 0 } : Room)) (fun a U => a = #[(.int x0)] ∧ Z.Warmed39 U.vm ∧ U.heap = h0) (fun _ _ _ _ _ => True) (fun _ U o U' => ∃ v L, o = .returned v ∧ (QP (some (.long (r4 x0))) h0 n0) v U'.heap L ∧ FrameEnd U o U' L ({ frames := 0, cells := 0, slots := 0, locals := 0 } : Room).cells ({ frames := 0, cells := 0, slots := 0, locals := 0 } : Room).slots) := by
  refine MetFree.of_bodySF (plainFor_of_name pn4) hisR ?_
  intro p e s m args below meth c s₁ Bd hml0 hP hK
  obtain ⟨rfl, hZ, hh⟩ := hP
  have hx := Bd.exec
  have hby := Bd.bytes
  have hml : c.maxLocals = 1 := hml0
  have hlk : meth.locks = false := BodyLoose.notSynchronized Bd
  have hown : s.vm.findClass "com/example/eriu/eriu/algorithm/GroupElection" = some m.cls := findClass_of_methodNamed Bd.named
  have hnm := (name_of_methodNamed Bd.named Bd.method).1
  have w_22 := hw _ (List.mem_of_getElem? (i := 22) rfl)
  have w_26 := hw _ (List.mem_of_getElem? (i := 26) rfl)
  have hci : ∀ i v, (i, v) ∈ ([] : List (Nat × Int32)) → (Jvm.Cond.constant "com/example/eriu/eriu/algorithm/GroupElection" i v).before #[(.int x0)] s = true := own_ci0
  have hcl : ∀ i v, (i, v) ∈ ([(215, 2), (236, 3)] : List (Nat × Int64)) → (Jvm.Cond.constantLong "com/example/eriu/eriu/algorithm/GroupElection" i v).before #[(.int x0)] s = true := (own_ciS (mvT hZ w_22) (own_ciS (mvT hZ w_26) own_ci0))
  have X0 : Stand p l e ({ frames := 0, cells := 0, slots := 0, locals := 0 } : Room) s m #[(.int x0)] below meth c s₁ [] 0 0 := Stand.of_body Bd
  have e0 : s₁.heap = h0 := by rw [← hh, Bd.state]; rfl
  have N0 := Fr.nil n0
  show Goes p e below s (QP (some (.long (r4 x0))) h0 n0) ({ frames := 0, cells := 0, slots := 0, locals := 0 } : Room).cells ({ frames := 0, cells := 0, slots := 0, locals := 0 } : Room).slots (s₁.setTop (entryFrame m #[(.int x0)] 1))
  refine Goes.cast (ef4 m x0) ?_
  refine Goes.run X0 hx hown hci hcl hby (L := [(0, .ldc2_w 236, 3), (3, .iload_n 0, 1), (4, .i2l, 1), (5, .lmul, 1), (6, .lconst 1, 1), (7, .ladd, 1)]) (by decide +kernel) rfl (g' := (mkF m 8 #[iv x0] [(.long (((3 : Int64) * (x0.toInt64)) + (1 : Int64)))])) rfl ?_
  refine Goes.run X0 hx hown hci hcl hby (L := [(8, .ldc2_w 215, 3), (11, .ldiv, 1)]) (by decide +kernel) rfl (g' := (mkF m 12 #[iv x0] [(.long ((((3 : Int64) * (x0.toInt64)) + (1 : Int64)) / (2 : Int64)))])) rfl ?_
  exact Goes.retJ X0 hx hlk Bd.returns (hb hby d3_12) ⟨(congrArg (fun z => some (Value.long z)) (show (r4 x0) = ((((3 : Int64) * (x0.toInt64)) + (1 : Int64)) / (2 : Int64)) from rfl).symm), N0, e0⟩ (by decide) (by decide)
theorem d4_4 : decode prog_4_method_21_code 4 = .ok (.invokestatic 238, 3) := by decide +kernel
theorem d4_12 : decode prog_4_method_21_code 12 = .ok (.lreturn, 1) := by decide +kernel
theorem pn5 : plainName "com/example/eriu/eriu/algorithm/GroupElection" = true := by first | (simp [plainName, overriddenIn]; done) | decide +kernel
theorem pd5_0 : parseMethodDescriptor "(I)J" = some ⟨[.int], some .long⟩ := by decide +kernel
theorem ef5 (m : MethodId) (x0 : Int32) : entryFrame m #[(.int x0)] 1 = (mkF m 0 #[iv x0] []) := by first | (simp [entryFrame, mkF, argsToLocals, Value.category]; done) | rfl
def r5 (x0 : Int32) : Int64 := (((2 : Int64) + (r4 x0)) + (2 : Int64))
set_option maxRecDepth 65536 in
set_option maxHeartbeats 40000000 in
theorem rm5 (l : Launch) (Z : State) (a0 : Array Value) (hw : ∀ d ∈ tables_1, d.before a0 Z = true) (ws : List Jvm.Cond) (x0 : Int32) (h0 : Heap) (n0 : Nat) (Z0 : n0 ≤ h0.size) :
    MetFree l ym3 (head1 (Jvm.Cond.code ym3 prog_4_method_21_code 1 (some .long) :: ws) ({ frames := 1, cells := 0, slots := 0, locals := 14 } : Room)) (fun a U => a = #[(.int x0)] ∧ Z.Warmed39 U.vm ∧ U.heap = h0) (fun _ _ _ _ _ => True) (fun _ U o U' => ∃ v L, o = .returned v ∧ (QP (some (.long (r5 x0))) h0 n0) v U'.heap L ∧ FrameEnd U o U' L ({ frames := 1, cells := 0, slots := 0, locals := 14 } : Room).cells ({ frames := 1, cells := 0, slots := 0, locals := 14 } : Room).slots) := by
  refine MetFree.of_bodySF (plainFor_of_name pn5) hisR ?_
  intro p e s m args below meth c s₁ Bd hml0 hP hK
  obtain ⟨rfl, hZ, hh⟩ := hP
  have hx := Bd.exec
  have hby := Bd.bytes
  have hml : c.maxLocals = 1 := hml0
  have hlk : meth.locks = false := BodyLoose.notSynchronized Bd
  have hown : s.vm.findClass "com/example/eriu/eriu/algorithm/GroupElection" = some m.cls := findClass_of_methodNamed Bd.named
  have hnm := (name_of_methodNamed Bd.named Bd.method).1
  have w_7 := hw _ (List.mem_of_getElem? (i := 7) rfl)
  have w_22 := hw _ (List.mem_of_getElem? (i := 22) rfl)
  have w_23 := hw _ (List.mem_of_getElem? (i := 23) rfl)
  have w_24 := hw _ (List.mem_of_getElem? (i := 24) rfl)
  have w_25 := hw _ (List.mem_of_getElem? (i := 25) rfl)
  have w_26 := hw _ (List.mem_of_getElem? (i := 26) rfl)
  have hci : ∀ i v, (i, v) ∈ ([] : List (Nat × Int32)) → (Jvm.Cond.constant "com/example/eriu/eriu/algorithm/GroupElection" i v).before #[(.int x0)] s = true := own_ci0
  have hcl : ∀ i v, (i, v) ∈ ([(215, 2), (236, 3)] : List (Nat × Int64)) → (Jvm.Cond.constantLong "com/example/eriu/eriu/algorithm/GroupElection" i v).before #[(.int x0)] s = true := (own_ciS (mvT hZ w_22) (own_ciS (mvT hZ w_26) own_ci0))
  have X0 : Stand p l e ({ frames := 1, cells := 0, slots := 0, locals := 14 } : Room) s m #[(.int x0)] below meth c s₁ [] 0 0 := Stand.of_body Bd
  have e0 : s₁.heap = h0 := by rw [← hh, Bd.state]; rfl
  have N0 := Fr.nil n0
  show Goes p e below s (QP (some (.long (r5 x0))) h0 n0) ({ frames := 1, cells := 0, slots := 0, locals := 14 } : Room).cells ({ frames := 1, cells := 0, slots := 0, locals := 14 } : Room).slots (s₁.setTop (entryFrame m #[(.int x0)] 1))
  refine Goes.cast (ef5 m x0) ?_
  refine Goes.run X0 hx hown hci hcl hby (L := [(0, .ldc2_w 215, 3), (3, .iload_n 0, 1)]) (by decide +kernel) rfl (g' := (mkF m 4 #[iv x0] [(.int x0), (.long (2 : Int64))])) rfl ?_
  obtain ⟨_, _, ⟨T1, L1, k1, n1⟩, -, X1, ⟨Lc1, hQ1, l1, y1, z1⟩, st1⟩ := Jvm.LawKit.callS X0 hx (y := ym2) hown (mvT hZ w_23) (mvT hZ w_24) (mvT hZ w_7) (mvT hZ w_25) (by decide) (backOf (W := 2) (rm4 l Z a0 hw [] x0 h0 n0 Z0 ) hZ w_25 w_7 (by decide) (by decide)) (g := (mkF m 4 #[iv x0] [(.int x0), (.long (2 : Int64))])) rfl (by rw [hml]; rfl) (argsL := [(.int x0)]) (rest := [(.long (2 : Int64))]) (lenOf pd5_0 rfl) rfl (by show 2 * 0 + _ ≤ _; exact Nat.le_of_eq rfl) (hb hby d4_4) (fun _ _ => ⟨rfl, e0, (by decide : 0 + 0 ≤ _), (by decide : 0 + 0 ≤ _)⟩)
  dsimp only [Pt.U, Pt.locs, Pt.cells, Pt.slots] at X1 l1 y1 z1 st1 hQ1
  subst l1 y1 z1
  obtain ⟨rfl, N1q, e1⟩ := hQ1
  have N1 := Fr.app N0 N1q
  refine Goes.st (B := T1.setTop (mkF m 7 #[iv x0] [(.long (r4 x0)), (.long (2 : Int64))])) st1 ?_
  refine Goes.run X1 hx hown hci hcl hby (L := [(7, .ladd, 1), (8, .ldc2_w 215, 3), (11, .ladd, 1)]) (by decide +kernel) rfl (g' := (mkF m 12 #[iv x0] [(.long (((2 : Int64) + (r4 x0)) + (2 : Int64)))])) rfl ?_
  exact Goes.retJ X1 hx hlk Bd.returns (hb hby d4_12) ⟨(congrArg (fun z => some (Value.long z)) (show (r5 x0) = (((2 : Int64) + (r4 x0)) + (2 : Int64)) from rfl).symm), N1, e1⟩ (by decide) (by decide)
def own_slots (n k : Int32) : Nat → Int32 → Int32
  | 0, i => i
  | f + 1, i => if (k.toInt64 <<< (i &&& 0x3f).toInt64) < n.toInt64 then own_slots n k f (i + (1 : Int32)) else i
theorem own_up {i : Int32} {f : Nat} (hf : i.toInt + (f + 1 : Nat) = 32) (hi : 0 ≤ i.toInt) : (i + (1 : Int32)).toInt + f = 32 ∧ 0 ≤ (i + (1 : Int32)).toInt := by
  obtain ⟨A, hA⟩ : ∃ A, i.toInt = A := ⟨_, rfl⟩
  rw [hA] at hf hi
  rw [own_add32 hA (show (1 : Int32).toInt = 1 by decide) (by omega) (by omega)]
  omega
theorem own_big {n k i : Int32} (hk : ¬ k < (1 : Int32)) (hi : i.toInt + (0 : Nat) = 32) : ¬ ((k.toInt64 <<< (i &&& 0x3f).toInt64) < n.toInt64) := by
  obtain ⟨K, hK⟩ : ∃ A, k.toInt = A := ⟨_, rfl⟩
  obtain ⟨N, hN⟩ : ∃ A, n.toInt = A := ⟨_, rfl⟩
  have b1 : N < 2147483648 := by rw [← hN]; have := n.toInt_lt; omega
  have b2 : K < 2147483648 := by rw [← hK]; have := k.toInt_lt; omega
  rw [own_lt32 hK (show (1 : Int32).toInt = 1 by decide)] at hk
  have hi' : i = 32 := Int32.toInt_inj.mp (by rw [show (32 : Int32).toInt = 32 by decide]; omega)
  subst hi'
  have e := Jvm.Kit.i64_shl k.toInt64 (((32 : Int32) &&& 0x3f).toInt64) (k := 32) (by decide) (by rw [own_i2l hK]; omega) (by rw [own_i2l hK]; omega)
  rw [own_i2l hK] at e
  rw [own_lt64 e (own_i2l hN)]
  omega
theorem d5_9 : decode prog_4_method_23_code 9 = .ok (.ifCond .ge 9, 3) := by decide +kernel
theorem d5_19 : decode prog_4_method_23_code 19 = .ok (.ireturn, 1) := by decide +kernel
theorem pn6 : plainName "com/example/eriu/eriu/algorithm/GroupElection" = true := by first | (simp [plainName, overriddenIn]; done) | decide +kernel
theorem ef6 (m : MethodId) (x0 : Int32) (x1 : Int32) : entryFrame m #[(.int x0), (.int x1)] 3 = (mkF m 0 #[iv x0, iv x1, .unset] []) := by first | (simp [entryFrame, mkF, argsToLocals, Value.category]; done) | rfl
def w6_12 (x0 : Int32) (x1 : Int32) (i : Int32) : Int32 := (i + (1 : Int32))
def r6 (x0 : Int32) (x1 : Int32) : Int32 := (own_slots x0 x1 32 (0 : Int32))
set_option maxRecDepth 65536 in
set_option maxHeartbeats 40000000 in
theorem rm6 (l : Launch) (Z : State) (a0 : Array Value) (hw : ∀ d ∈ tables_1, d.before a0 Z = true) (ws : List Jvm.Cond) (x0 : Int32) (x1 : Int32) (h0 : Heap) (n0 : Nat) (Z0 : n0 ≤ h0.size) (p1 : ¬ (x1 < (1 : Int32))) :
    MetFree l ym4 (head1 (Jvm.Cond.code ym4 prog_4_method_23_code 3 (some .int) :: ws) ({ frames := 0, cells := 0, slots := 0, locals := 0 } : Room)) (fun a U => a = #[(.int x0), (.int x1)] ∧ Z.Warmed39 U.vm ∧ U.heap = h0) (fun _ _ _ _ _ => True) (fun _ U o U' => ∃ v L, o = .returned v ∧ (QP (some (.int (r6 x0 x1))) h0 n0) v U'.heap L ∧ FrameEnd U o U' L ({ frames := 0, cells := 0, slots := 0, locals := 0 } : Room).cells ({ frames := 0, cells := 0, slots := 0, locals := 0 } : Room).slots) := by
  refine MetFree.of_bodySF (plainFor_of_name pn6) hisR ?_
  intro p e s m args below meth c s₁ Bd hml0 hP hK
  obtain ⟨rfl, hZ, hh⟩ := hP
  have hx := Bd.exec
  have hby := Bd.bytes
  have hml : c.maxLocals = 3 := hml0
  have hlk : meth.locks = false := BodyLoose.notSynchronized Bd
  have hown : s.vm.findClass "com/example/eriu/eriu/algorithm/GroupElection" = some m.cls := findClass_of_methodNamed Bd.named
  have hnm := (name_of_methodNamed Bd.named Bd.method).1
  have w_22 := hw _ (List.mem_of_getElem? (i := 22) rfl)
  have w_26 := hw _ (List.mem_of_getElem? (i := 26) rfl)
  have hci : ∀ i v, (i, v) ∈ ([] : List (Nat × Int32)) → (Jvm.Cond.constant "com/example/eriu/eriu/algorithm/GroupElection" i v).before #[(.int x0), (.int x1)] s = true := own_ci0
  have hcl : ∀ i v, (i, v) ∈ ([(215, 2), (236, 3)] : List (Nat × Int64)) → (Jvm.Cond.constantLong "com/example/eriu/eriu/algorithm/GroupElection" i v).before #[(.int x0), (.int x1)] s = true := (own_ciS (mvT hZ w_22) (own_ciS (mvT hZ w_26) own_ci0))
  have X0 : Stand p l e ({ frames := 0, cells := 0, slots := 0, locals := 0 } : Room) s m #[(.int x0), (.int x1)] below meth c s₁ [] 0 0 := Stand.of_body Bd
  have e0 : s₁.heap = h0 := by rw [← hh, Bd.state]; rfl
  have N0 := Fr.nil n0
  show Goes p e below s (QP (some (.int (r6 x0 x1))) h0 n0) ({ frames := 0, cells := 0, slots := 0, locals := 0 } : Room).cells ({ frames := 0, cells := 0, slots := 0, locals := 0 } : Room).slots (s₁.setTop (entryFrame m #[(.int x0), (.int x1)] 3))
  refine Goes.cast (ef6 m x0 x1) ?_
  refine Goes.run X0 hx hown hci hcl hby (L := [(0, .iconst 0, 1), (1, .istore_n 2, 1)]) (by decide +kernel) rfl (g' := (mkF m 2 #[iv x0, iv x1, iv (0 : Int32)] [])) rfl ?_
  have loop2 : ∀ (f : Nat) (i : Int32), i.toInt + f = 32 → 0 ≤ i.toInt → Goes p e below s (QP (some (.int (own_slots x0 x1 f i))) h0 n0) ({ frames := 0, cells := 0, slots := 0, locals := 0 } : Room).cells ({ frames := 0, cells := 0, slots := 0, locals := 0 } : Room).slots (s₁.setTop (mkF m 2 #[iv x0, iv x1, iv i] [])) := by
    intro f
    induction f with
    | zero =>
      intro i hf hi
      refine Goes.run X0 hx hown hci hcl hby (L := [(2, .iload_n 1, 1), (3, .i2l, 1), (4, .iload_n 2, 1), (5, .lshl, 1), (6, .iload_n 0, 1), (7, .i2l, 1)]) (by decide +kernel) rfl (g' := (mkF m 8 #[iv x0, iv x1, iv i] [(.long (x0.toInt64)), (.long ((x1.toInt64) <<< (i &&& 0x3f).toInt64))])) rfl ?_
      refine Goes.run X0 hx hown hci hcl hby (L := [(8, .lcmp, 1)]) (by decide +kernel) rfl (g' := (mkF m 9 #[iv x0, iv x1, iv i] [(.int (lcmpW ((x1.toInt64) <<< (i &&& 0x3f).toInt64) (x0.toInt64)))])) rfl ?_
      have hc9_1 : ¬ (((x1.toInt64) <<< (i &&& 0x3f).toInt64) < (x0.toInt64)) := own_big p1 hf
      refine Goes.st (B := s₁.setTop (mkF m 18 #[iv x0, iv x1, iv i] [])) (fun t k => ?_) ?_
      · refine XS.ifYes X0.here hx rfl (pc0 := 9) (pc' := 18) rfl (hb hby d5_9) rfl (fltL hc9_1).2.1 (by decide) (by decide) ?_
        exact k
      refine Goes.run X0 hx hown hci hcl hby (L := [(18, .iload_n 2, 1)]) (by decide +kernel) rfl (g' := (mkF m 19 #[iv x0, iv x1, iv i] [(.int i)])) rfl ?_
      exact Goes.retI X0 hx hlk Bd.returns (hb hby d5_19) ⟨congrArg (fun z => some (Value.int z)) (show own_slots x0 x1 0 i = i from rfl).symm, N0, e0⟩ (by decide) (by decide)
    | succ f ih =>
      intro i hf hi
      refine Goes.run X0 hx hown hci hcl hby (L := [(2, .iload_n 1, 1), (3, .i2l, 1), (4, .iload_n 2, 1), (5, .lshl, 1), (6, .iload_n 0, 1), (7, .i2l, 1)]) (by decide +kernel) rfl (g' := (mkF m 8 #[iv x0, iv x1, iv i] [(.long (x0.toInt64)), (.long ((x1.toInt64) <<< (i &&& 0x3f).toInt64))])) rfl ?_
      refine Goes.run X0 hx hown hci hcl hby (L := [(8, .lcmp, 1)]) (by decide +kernel) rfl (g' := (mkF m 9 #[iv x0, iv x1, iv i] [(.int (lcmpW ((x1.toInt64) <<< (i &&& 0x3f).toInt64) (x0.toInt64)))])) rfl ?_
      by_cases hc9_2 : ((x1.toInt64) <<< (i &&& 0x3f).toInt64) < (x0.toInt64)
      · skip
        refine Goes.st (B := s₁.setTop (mkF m 12 #[iv x0, iv x1, iv i] [])) (fun t k => ?_) ?_
        · refine XS.ifNo X0.here hx rfl (hb hby d5_9) rfl (tltL hc9_2).2.1 ?_
          exact k
        refine Goes.run X0 hx hown hci hcl hby (L := [(12, .iinc 2 1, 3), (15, .goto (-13), 3)]) (by decide +kernel) rfl (g' := (mkF m 2 #[iv x0, iv x1, iv (w6_12 x0 x1 i)] [])) rfl ?_
        have e : own_slots x0 x1 (f + 1) i = own_slots x0 x1 f (w6_12 x0 x1 i) := (if_pos hc9_2)
        rw [e]
        exact ih _ (own_up hf hi).1 (own_up hf hi).2
      · skip
        refine Goes.st (B := s₁.setTop (mkF m 18 #[iv x0, iv x1, iv i] [])) (fun t k => ?_) ?_
        · refine XS.ifYes X0.here hx rfl (pc0 := 9) (pc' := 18) rfl (hb hby d5_9) rfl (fltL hc9_2).2.1 (by decide) (by decide) ?_
          exact k
        refine Goes.run X0 hx hown hci hcl hby (L := [(18, .iload_n 2, 1)]) (by decide +kernel) rfl (g' := (mkF m 19 #[iv x0, iv x1, iv i] [(.int i)])) rfl ?_
        exact Goes.retI X0 hx hlk Bd.returns (hb hby d5_19) ⟨congrArg (fun z => some (Value.int z)) (show own_slots x0 x1 (f + 1) i = i from (if_neg hc9_2)).symm, N0, e0⟩ (by decide) (by decide)
  exact loop2 32 (0 : Int32) (by decide) (by decide)
theorem d6_5 : decode prog_4_method_22_code 5 = .ok (.invokestatic 241, 3) := by decide +kernel
theorem d6_14 : decode prog_4_method_22_code 14 = .ok (.lreturn, 1) := by decide +kernel
theorem pn7 : plainName "com/example/eriu/eriu/algorithm/GroupElection" = true := by first | (simp [plainName, overriddenIn]; done) | decide +kernel
theorem pd7_0 : parseMethodDescriptor "(II)I" = some ⟨[.int, .int], some .int⟩ := by decide +kernel
theorem ef7 (m : MethodId) (x0 : Int32) (x1 : Int32) : entryFrame m #[(.int x0), (.int x1)] 2 = (mkF m 0 #[iv x0, iv x1] []) := by first | (simp [entryFrame, mkF, argsToLocals, Value.category]; done) | rfl
def r7 (x0 : Int32) (x1 : Int32) : Int64 := (((2 : Int64) * ((r6 x0 x1).toInt64)) + (2 : Int64))
set_option maxRecDepth 65536 in
set_option maxHeartbeats 40000000 in
theorem rm7 (l : Launch) (Z : State) (a0 : Array Value) (hw : ∀ d ∈ tables_1, d.before a0 Z = true) (ws : List Jvm.Cond) (x0 : Int32) (x1 : Int32) (h0 : Heap) (n0 : Nat) (Z0 : n0 ≤ h0.size) (p1 : ¬ (x1 < (1 : Int32))) :
    MetFree l ym5 (head1 (Jvm.Cond.code ym5 prog_4_method_22_code 2 (some .long) :: ws) ({ frames := 1, cells := 0, slots := 0, locals := 16 } : Room)) (fun a U => a = #[(.int x0), (.int x1)] ∧ Z.Warmed39 U.vm ∧ U.heap = h0) (fun _ _ _ _ _ => True) (fun _ U o U' => ∃ v L, o = .returned v ∧ (QP (some (.long (r7 x0 x1))) h0 n0) v U'.heap L ∧ FrameEnd U o U' L ({ frames := 1, cells := 0, slots := 0, locals := 16 } : Room).cells ({ frames := 1, cells := 0, slots := 0, locals := 16 } : Room).slots) := by
  refine MetFree.of_bodySF (plainFor_of_name pn7) hisR ?_
  intro p e s m args below meth c s₁ Bd hml0 hP hK
  obtain ⟨rfl, hZ, hh⟩ := hP
  have hx := Bd.exec
  have hby := Bd.bytes
  have hml : c.maxLocals = 2 := hml0
  have hlk : meth.locks = false := BodyLoose.notSynchronized Bd
  have hown : s.vm.findClass "com/example/eriu/eriu/algorithm/GroupElection" = some m.cls := findClass_of_methodNamed Bd.named
  have hnm := (name_of_methodNamed Bd.named Bd.method).1
  have w_7 := hw _ (List.mem_of_getElem? (i := 7) rfl)
  have w_22 := hw _ (List.mem_of_getElem? (i := 22) rfl)
  have w_26 := hw _ (List.mem_of_getElem? (i := 26) rfl)
  have w_30 := hw _ (List.mem_of_getElem? (i := 30) rfl)
  have w_31 := hw _ (List.mem_of_getElem? (i := 31) rfl)
  have w_32 := hw _ (List.mem_of_getElem? (i := 32) rfl)
  have hci : ∀ i v, (i, v) ∈ ([] : List (Nat × Int32)) → (Jvm.Cond.constant "com/example/eriu/eriu/algorithm/GroupElection" i v).before #[(.int x0), (.int x1)] s = true := own_ci0
  have hcl : ∀ i v, (i, v) ∈ ([(215, 2), (236, 3)] : List (Nat × Int64)) → (Jvm.Cond.constantLong "com/example/eriu/eriu/algorithm/GroupElection" i v).before #[(.int x0), (.int x1)] s = true := (own_ciS (mvT hZ w_22) (own_ciS (mvT hZ w_26) own_ci0))
  have X0 : Stand p l e ({ frames := 1, cells := 0, slots := 0, locals := 16 } : Room) s m #[(.int x0), (.int x1)] below meth c s₁ [] 0 0 := Stand.of_body Bd
  have e0 : s₁.heap = h0 := by rw [← hh, Bd.state]; rfl
  have N0 := Fr.nil n0
  show Goes p e below s (QP (some (.long (r7 x0 x1))) h0 n0) ({ frames := 1, cells := 0, slots := 0, locals := 16 } : Room).cells ({ frames := 1, cells := 0, slots := 0, locals := 16 } : Room).slots (s₁.setTop (entryFrame m #[(.int x0), (.int x1)] 2))
  refine Goes.cast (ef7 m x0 x1) ?_
  refine Goes.run X0 hx hown hci hcl hby (L := [(0, .ldc2_w 215, 3), (3, .iload_n 0, 1), (4, .iload_n 1, 1)]) (by decide +kernel) rfl (g' := (mkF m 5 #[iv x0, iv x1] [(.int x1), (.int x0), (.long (2 : Int64))])) rfl ?_
  obtain ⟨_, _, ⟨T1, L1, k1, n1⟩, -, X1, ⟨Lc1, hQ1, l1, y1, z1⟩, st1⟩ := Jvm.LawKit.callS X0 hx (y := ym4) hown (mvT hZ w_30) (mvT hZ w_31) (mvT hZ w_7) (mvT hZ w_32) (by decide) (backOf (W := 2) (rm6 l Z a0 hw [] x0 x1 h0 n0 Z0 p1) hZ w_32 w_7 (by decide) (by decide)) (g := (mkF m 5 #[iv x0, iv x1] [(.int x1), (.int x0), (.long (2 : Int64))])) rfl (by rw [hml]; rfl) (argsL := [(.int x0), (.int x1)]) (rest := [(.long (2 : Int64))]) (lenOf pd7_0 rfl) rfl (by show 2 * 0 + _ ≤ _; exact Nat.le_of_eq rfl) (hb hby d6_5) (fun _ _ => ⟨rfl, e0, (by decide : 0 + 0 ≤ _), (by decide : 0 + 0 ≤ _)⟩)
  dsimp only [Pt.U, Pt.locs, Pt.cells, Pt.slots] at X1 l1 y1 z1 st1 hQ1
  subst l1 y1 z1
  obtain ⟨rfl, N1q, e1⟩ := hQ1
  have N1 := Fr.app N0 N1q
  refine Goes.st (B := T1.setTop (mkF m 8 #[iv x0, iv x1] [(.int (r6 x0 x1)), (.long (2 : Int64))])) st1 ?_
  refine Goes.run X1 hx hown hci hcl hby (L := [(8, .i2l, 1), (9, .lmul, 1), (10, .ldc2_w 215, 3), (13, .ladd, 1)]) (by decide +kernel) rfl (g' := (mkF m 14 #[iv x0, iv x1] [(.long (((2 : Int64) * ((r6 x0 x1).toInt64)) + (2 : Int64)))])) rfl ?_
  exact Goes.retJ X1 hx hlk Bd.returns (hb hby d6_14) ⟨(congrArg (fun z => some (Value.long z)) (show (r7 x0 x1) = (((2 : Int64) * ((r6 x0 x1).toInt64)) + (2 : Int64)) from rfl).symm), N1, e1⟩ (by decide) (by decide)
theorem d7_2 : decode prog_4_method_19_code 2 = .ok (.if_icmp .lt 13, 3) := by decide +kernel
theorem d7_7 : decode prog_4_method_19_code 7 = .ok (.if_icmp .lt 8, 3) := by decide +kernel
theorem d7_12 : decode prog_4_method_19_code 12 = .ok (.if_icmp .ge 19, 3) := by decide +kernel
theorem d7_35 : decode prog_4_method_19_code 35 = .ok (.invokestatic 230, 3) := by decide +kernel
theorem d7_38 : decode prog_4_method_19_code 38 = .ok (.if_icmp .lt 20, 3) := by decide +kernel
theorem d7_59 : decode prog_4_method_19_code 59 = .ok (.newarray .int, 2) := by decide +kernel
theorem d7_65 : decode prog_4_method_19_code 65 = .ok (.iastore, 1) := by decide +kernel
theorem d7_74 : decode prog_4_method_19_code 74 = .ok (.if_icmp .ge 21, 3) := by decide +kernel
theorem d7_97 : decode prog_4_method_19_code 97 = .ok (.if_icmp .le 9, 3) := by decide +kernel
theorem d7_107 : decode prog_4_method_19_code 107 = .ok (.areturn, 1) := by decide +kernel
theorem pn81 : plainName "com/example/eriu/eriu/algorithm/GroupElection" = true := by first | (simp [plainName, overriddenIn]; done) | decide +kernel
theorem pd81_0 : parseMethodDescriptor "(I)I" = some ⟨[.int], some .int⟩ := by decide +kernel
theorem ef81 (m : MethodId) (x0 : Int32) (x1 : Int32) : entryFrame m #[(.int x0), (.int x1), (.int (1 : Int32))] 5 = (mkF m 0 #[iv x0, iv x1, iv (1 : Int32), .unset, .unset] []) := by first | (simp [entryFrame, mkF, argsToLocals, Value.category]; done) | rfl
def Q81 (Z : State) (x0 : Int32) (x1 : Int32) (h0 : Heap) (n0 : Nat) (v : Option Value) (h : Heap) (L : List Loc) : Prop := ∃ (b : Addr) (k : ClassId), v = some (.ref b) ∧ Fr n0 L ∧ Keep h0 h [] ∧ h0.size ≤ b ∧ Exa Z h b "[I" ∧ Arv Z h b k .int (1 : Int32) [(.int x1)] (.int (0 : Int32))
set_option maxRecDepth 65536 in
set_option maxHeartbeats 40000000 in
theorem rm81 (l : Launch) (Z : State) (a0 : Array Value) (hw : ∀ d ∈ tables_1, d.before a0 Z = true) (ws : List Jvm.Cond) (x0 : Int32) (x1 : Int32) (h0 : Heap) (n0 : Nat) (Z0 : n0 ≤ h0.size) (p1 : ¬ (x0 < (1 : Int32))) (p2 : ¬ (x1 < (1 : Int32))) (p4 : ((1 : Int32) - (2 : Int32)) < (r3 x1)) :
    MetFree l ym6 (head1 (Jvm.Cond.code ym6 prog_4_method_19_code 5 (some (.array .int)) :: ws) ({ frames := 1, cells := 1, slots := 8, locals := 14 } : Room)) (fun a U => a = #[(.int x0), (.int x1), (.int (1 : Int32))] ∧ Z.Warmed39 U.vm ∧ U.heap = h0) (fun _ _ _ _ _ => True) (fun _ U o U' => ∃ v L, o = .returned v ∧ (Q81 Z x0 x1 h0 n0) v U'.heap L ∧ FrameEnd U o U' L ({ frames := 1, cells := 1, slots := 8, locals := 14 } : Room).cells ({ frames := 1, cells := 1, slots := 8, locals := 14 } : Room).slots) := by
  refine MetFree.of_bodySF (plainFor_of_name pn81) hisR ?_
  intro p e s m args below meth c s₁ Bd hml0 hP hK
  obtain ⟨rfl, hZ, hh⟩ := hP
  have hx := Bd.exec
  have hby := Bd.bytes
  have hml : c.maxLocals = 5 := hml0
  have hlk : meth.locks = false := BodyLoose.notSynchronized Bd
  have hown : s.vm.findClass "com/example/eriu/eriu/algorithm/GroupElection" = some m.cls := findClass_of_methodNamed Bd.named
  have hnm := (name_of_methodNamed Bd.named Bd.method).1
  have w_12 := hw _ (List.mem_of_getElem? (i := 12) rfl)
  have w_13 := hw _ (List.mem_of_getElem? (i := 13) rfl)
  have w_14 := hw _ (List.mem_of_getElem? (i := 14) rfl)
  have w_15 := hw _ (List.mem_of_getElem? (i := 15) rfl)
  have w_17 := hw _ (List.mem_of_getElem? (i := 17) rfl)
  have w_22 := hw _ (List.mem_of_getElem? (i := 22) rfl)
  have w_26 := hw _ (List.mem_of_getElem? (i := 26) rfl)
  have hci : ∀ i v, (i, v) ∈ ([] : List (Nat × Int32)) → (Jvm.Cond.constant "com/example/eriu/eriu/algorithm/GroupElection" i v).before #[(.int x0), (.int x1), (.int (1 : Int32))] s = true := own_ci0
  have hcl : ∀ i v, (i, v) ∈ ([(215, 2), (236, 3)] : List (Nat × Int64)) → (Jvm.Cond.constantLong "com/example/eriu/eriu/algorithm/GroupElection" i v).before #[(.int x0), (.int x1), (.int (1 : Int32))] s = true := (own_ciS (mvT hZ w_22) (own_ciS (mvT hZ w_26) own_ci0))
  have X0 : Stand p l e ({ frames := 1, cells := 1, slots := 8, locals := 14 } : Room) s m #[(.int x0), (.int x1), (.int (1 : Int32))] below meth c s₁ [] 0 0 := Stand.of_body Bd
  have e0 : s₁.heap = h0 := by rw [← hh, Bd.state]; rfl
  have N0 := Fr.nil n0
  show Goes p e below s (Q81 Z x0 x1 h0 n0) ({ frames := 1, cells := 1, slots := 8, locals := 14 } : Room).cells ({ frames := 1, cells := 1, slots := 8, locals := 14 } : Room).slots (s₁.setTop (entryFrame m #[(.int x0), (.int x1), (.int (1 : Int32))] 5))
  refine Goes.cast (ef81 m x0 x1) ?_
  have K0 : Keep h0 h0 [] := Keep.refl h0 _
  refine Goes.run X0 hx hown hci hcl hby (L := [(0, .iload_n 0, 1), (1, .iconst 1, 1)]) (by decide +kernel) rfl (g' := (mkF m 2 #[iv x0, iv x1, iv (1 : Int32), .unset, .unset] [(.int (1 : Int32)), (.int x0)])) rfl ?_
  have hc2_1 : ¬ (x0 < (1 : Int32)) := p1
  refine Goes.st (B := s₁.setTop (mkF m 5 #[iv x0, iv x1, iv (1 : Int32), .unset, .unset] [])) (fun t k => ?_) ?_
  · refine XS.icmpNo X0.here hx rfl (hb hby d7_2) rfl (flt hc2_1).1 ?_
    exact k
  refine Goes.run X0 hx hown hci hcl hby (L := [(5, .iload_n 1, 1), (6, .iconst 1, 1)]) (by decide +kernel) rfl (g' := (mkF m 7 #[iv x0, iv x1, iv (1 : Int32), .unset, .unset] [(.int (1 : Int32)), (.int x1)])) rfl ?_
  have hc7_2 : ¬ (x1 < (1 : Int32)) := p2
  refine Goes.st (B := s₁.setTop (mkF m 10 #[iv x0, iv x1, iv (1 : Int32), .unset, .unset] [])) (fun t k => ?_) ?_
  · refine XS.icmpNo X0.here hx rfl (hb hby d7_7) rfl (flt hc7_2).1 ?_
    exact k
  refine Goes.run X0 hx hown hci hcl hby (L := [(10, .iload_n 2, 1), (11, .iconst 1, 1)]) (by decide +kernel) rfl (g' := (mkF m 12 #[iv x0, iv x1, iv (1 : Int32), .unset, .unset] [(.int (1 : Int32)), (.int (1 : Int32))])) rfl ?_
  have hc12_3 : ¬ ((1 : Int32) < (1 : Int32)) := Int32.lt_irrefl
  refine Goes.st (B := s₁.setTop (mkF m 31 #[iv x0, iv x1, iv (1 : Int32), .unset, .unset] [])) (fun t k => ?_) ?_
  · refine XS.icmpYes X0.here hx rfl (pc0 := 12) (pc' := 31) rfl (hb hby d7_12) rfl (flt hc12_3).2.1 (by decide) (by decide) ?_
    exact k
  refine Goes.run X0 hx hown hci hcl hby (L := [(31, .iload_n 2, 1), (32, .iconst 2, 1), (33, .isub, 1), (34, .iload_n 1, 1)]) (by decide +kernel) rfl (g' := (mkF m 35 #[iv x0, iv x1, iv (1 : Int32), .unset, .unset] [(.int x1), (.int ((1 : Int32) - (2 : Int32)))])) rfl ?_
  obtain ⟨_, _, ⟨T4, L4, k4, n4⟩, -, X4, ⟨Lc4, hQ4, l4, y4, z4⟩, st4⟩ := Jvm.LawKit.callS X0 hx (y := ym1) hown (mvT hZ w_12) (mvT hZ w_13) (mvT hZ w_14) (mvT hZ w_15) (by decide) (backOf (W := 1) (rm3 l Z a0 hw [] x1 h0 n0 Z0 ) hZ w_15 w_14 (by decide) (by decide)) (g := (mkF m 35 #[iv x0, iv x1, iv (1 : Int32), .unset, .unset] [(.int x1), (.int ((1 : Int32) - (2 : Int32)))])) rfl (by rw [hml]; rfl) (argsL := [(.int x1)]) (rest := [(.int ((1 : Int32) - (2 : Int32)))]) (lenOf pd81_0 rfl) rfl (by show 2 * 0 + _ ≤ _; exact Nat.le_of_eq rfl) (hb hby d7_35) (fun _ _ => ⟨rfl, e0, (by decide : 0 + 0 ≤ _), (by decide : 0 + 0 ≤ _)⟩)
  dsimp only [Pt.U, Pt.locs, Pt.cells, Pt.slots] at X4 l4 y4 z4 st4 hQ4
  subst l4 y4 z4
  obtain ⟨rfl, N4q, e4⟩ := hQ4
  have N4 := Fr.app N0 N4q
  refine Goes.st (B := T4.setTop (mkF m 38 #[iv x0, iv x1, iv (1 : Int32), .unset, .unset] [(.int (r3 x1)), (.int ((1 : Int32) - (2 : Int32)))])) st4 ?_
  have hc38_5 : ((1 : Int32) - (2 : Int32)) < (r3 x1) := p4
  refine Goes.st (B := T4.setTop (mkF m 58 #[iv x0, iv x1, iv (1 : Int32), .unset, .unset] [])) (fun t k => ?_) ?_
  · refine XS.icmpYes X4.here hx rfl (pc0 := 38) (pc' := 58) rfl (hb hby d7_38) rfl (tlt hc38_5).1 (by decide) (by decide) ?_
    exact k
  refine Goes.run X4 hx hown hci hcl hby (L := [(58, .iload_n 2, 1)]) (by decide +kernel) rfl (g' := (mkF m 59 #[iv x0, iv x1, iv (1 : Int32), .unset, .unset] [(.int (1 : Int32))])) rfl ?_
  obtain ⟨T6, h6, k6, X6, e6, E6, A6, B6, st6⟩ := newPE X4 hx hZ (aty := .int) w_17 e4 (g := (mkF m 59 #[iv x0, iv x1, iv (1 : Int32), .unset, .unset] [(.int (1 : Int32))])) rfl (hb hby d7_59) rfl (by decide) (cap := 1) (by decide) (by decide) (by decide) (by decide) (ad := "[I") (by decide)
  obtain ⟨b6, g6⟩ : ∃ z, z = h0.size := ⟨_, rfl⟩
  rw [← g6] at A6 B6 st6
  have g_b6 : n0 ≤ b6 := Nat.le_trans Z0 (Nat.le_of_eq g6.symm)
  have sz_b6 : h0.size ≤ b6 := Nat.le_trans K0.1 (Nat.le_of_eq g6.symm)
  have Zn6 : n0 ≤ h6.size := Nat.le_trans Z0 E6.1
  have K6 := K0.ext E6
  have E_b6 : Exa Z h6 b6 "[I" := B6
  have V_b6 : Arv Z h6 b6 k6 .int (1 : Int32) [(.int (0 : Int32))] (.int (0 : Int32)) := (Arv.new A6 (by decide)).pad (pad_rep [] (.int (0 : Int32)) 1)
  refine Goes.st (B := T6.setTop (mkF m 61 #[iv x0, iv x1, iv (1 : Int32), .unset, .unset] [(.ref b6)])) st6 ?_
  refine Goes.run X6 hx hown hci hcl hby (L := [(61, .astore_n 3, 1), (62, .aload_n 3, 1), (63, .iconst 0, 1), (64, .iload_n 1, 1)]) (by decide +kernel) rfl (g' := (mkF m 65 #[iv x0, iv x1, iv (1 : Int32), rv b6, .unset] [(.int x1), (.int (0 : Int32)), (.ref b6)])) rfl ?_
  obtain ⟨cl7, Ar7, q7, S7, M7, Hs7, G7⟩ := id V_b6
  have hin7 : ¬ ((0 : Int32) < 0 ∨ cl7.slots.size ≤ ((0 : Int32)).toNatClampNeg) := inb_of S7 ⟨(by decide), (by decide)⟩
  obtain ⟨T7, h7, X7, e7, W7, st7⟩ := stI X6 hx hZ e6 Ar7 (j := (0 : Int32)) hin7 (g := (mkF m 65 #[iv x0, iv x1, iv (1 : Int32), rv b6, .unset] [(.int x1), (.int (0 : Int32)), (.ref b6)])) rfl rfl (hb hby d7_65)
  have E_b6 := E_b6.wr W7
  have Zn7 : n0 ≤ h7.size := Nat.le_trans Zn6 (Keep.of_wr W7).1
  have K7 := K6.wr W7 (Or.inr sz_b6)
  have N7 := Fr.snoc X7 N4 g_b6
  have V_b6 : Arv Z h7 b6 k6 .int (1 : Int32) [(.int x1)] (.int (0 : Int32)) := Arv.set Ar7 q7 S7 M7 Hs7 G7 rfl W7 0 rfl (Nat.le_of_ble_eq_true rfl)
  refine Goes.st (B := T7.setTop (mkF m 66 #[iv x0, iv x1, iv (1 : Int32), rv b6, .unset] [])) st7 ?_
  refine Goes.run X7 hx hown hci hcl hby (L := [(66, .iconst 1, 1), (67, .istore 4, 2), (69, .iload 4, 2), (71, .iload_n 2, 1), (72, .iconst 1, 1), (73, .isub, 1)]) (by decide +kernel) rfl (g' := (mkF m 74 #[iv x0, iv x1, iv (1 : Int32), rv b6, iv (1 : Int32)] [(.int (0 : Int32)), (.int (1 : Int32))])) rfl ?_
  have hc74_8 : ¬ ((1 : Int32) < (0 : Int32)) := by decide
  refine Goes.st (B := T7.setTop (mkF m 95 #[iv x0, iv x1, iv (1 : Int32), rv b6, iv (1 : Int32)] [])) (fun t k => ?_) ?_
  · refine XS.icmpYes X7.here hx rfl (pc0 := 74) (pc' := 95) rfl (hb hby d7_74) rfl (flt hc74_8).2.1 (by decide) (by decide) ?_
    exact k
  refine Goes.run X7 hx hown hci hcl hby (L := [(95, .iload_n 2, 1), (96, .iconst 1, 1)]) (by decide +kernel) rfl (g' := (mkF m 97 #[iv x0, iv x1, iv (1 : Int32), rv b6, iv (1 : Int32)] [(.int (1 : Int32)), (.int (1 : Int32))])) rfl ?_
  have hc97_9 : ¬ ((1 : Int32) < (1 : Int32)) := Int32.lt_irrefl
  refine Goes.st (B := T7.setTop (mkF m 106 #[iv x0, iv x1, iv (1 : Int32), rv b6, iv (1 : Int32)] [])) (fun t k => ?_) ?_
  · refine XS.icmpYes X7.here hx rfl (pc0 := 97) (pc' := 106) rfl (hb hby d7_97) rfl (flt hc97_9).2.2.2 (by decide) (by decide) ?_
    exact k
  refine Goes.run X7 hx hown hci hcl hby (L := [(106, .aload_n 3, 1)]) (by decide +kernel) rfl (g' := (mkF m 107 #[iv x0, iv x1, iv (1 : Int32), rv b6, iv (1 : Int32)] [(.ref b6)])) rfl ?_
  refine Goes.retR X7 hx hlk Bd.returns rfl rfl (hb hby d7_107) ?_ (by decide) (by decide)
  show (Q81 Z x0 x1 h0 n0) _ _ _
  rw [e7]
  exact ⟨b6, k6, rfl, N7, K7, sz_b6, E_b6, V_b6⟩
theorem d8_3 : decode prog_4_method_3_code 3 = .ok (.invokestatic 35, 3) := by decide +kernel
theorem d8_8 : decode prog_4_method_3_code 8 = .ok (.arraylength, 1) := by decide +kernel
theorem d8_9 : decode prog_4_method_3_code 9 = .ok (.newarray .long, 2) := by decide +kernel
theorem d8_19 : decode prog_4_method_3_code 19 = .ok (.arraylength, 1) := by decide +kernel
theorem d8_20 : decode prog_4_method_3_code 20 = .ok (.if_icmp .ge 45, 3) := by decide +kernel
theorem d8_30 : decode prog_4_method_3_code 30 = .ok (.iaload, 1) := by decide +kernel
theorem d8_31 : decode prog_4_method_3_code 31 = .ok (.invokestatic 56, 3) := by decide +kernel
theorem d8_39 : decode prog_4_method_3_code 39 = .ok (.arraylength, 1) := by decide +kernel
theorem d8_40 : decode prog_4_method_3_code 40 = .ok (.if_icmp .ge 16, 3) := by decide +kernel
theorem d8_58 : decode prog_4_method_3_code 58 = .ok (.lastore, 1) := by decide +kernel
theorem d8_67 : decode prog_4_method_3_code 67 = .ok (.areturn, 1) := by decide +kernel
theorem pn91 : plainName "com/example/eriu/eriu/algorithm/GroupElection" = true := by first | (simp [plainName, overriddenIn]; done) | decide +kernel
theorem pd91_0 : parseMethodDescriptor "(III)[I" = some ⟨[.int, .int, .int], some (.array .int)⟩ := by decide +kernel
theorem pd91_1 : parseMethodDescriptor "(I)J" = some ⟨[.int], some .long⟩ := by decide +kernel
theorem ef91 (m : MethodId) (x0 : Int32) (x1 : Int32) : entryFrame m #[(.int x0), (.int x1), (.int (1 : Int32))] 6 = (mkF m 0 #[iv x0, iv x1, iv (1 : Int32), .unset, .unset, .unset] []) := by first | (simp [entryFrame, mkF, argsToLocals, Value.category]; done) | rfl
def Q91 (Z : State) (x0 : Int32) (x1 : Int32) (h0 : Heap) (n0 : Nat) (v : Option Value) (h : Heap) (L : List Loc) : Prop := ∃ (b : Addr) (k : ClassId), v = some (.ref b) ∧ Fr n0 L ∧ Keep h0 h [] ∧ h0.size ≤ b ∧ Exa Z h b "[J" ∧ Arv Z h b k .long (1 : Int32) [(.long ((r5 x1) + (0 : Int64)))] (.long (0 : Int64))
set_option maxRecDepth 65536 in
set_option maxHeartbeats 40000000 in
theorem rm91 (l : Launch) (Z : State) (a0 : Array Value) (hw : ∀ d ∈ tables_1, d.before a0 Z = true) (ws : List Jvm.Cond) (x0 : Int32) (x1 : Int32) (h0 : Heap) (n0 : Nat) (Z0 : n0 ≤ h0.size) (p1 : ¬ (x0 < (1 : Int32))) (p2 : ¬ (x1 < (1 : Int32))) (p4 : ((1 : Int32) - (2 : Int32)) < (r3 x1)) :
    MetFree l ym7 (head1 (Jvm.Cond.code ym7 prog_4_method_3_code 6 (some (.array .long)) :: ws) ({ frames := 2, cells := 2, slots := 16, locals := 40 } : Room)) (fun a U => a = #[(.int x0), (.int x1), (.int (1 : Int32))] ∧ Z.Warmed39 U.vm ∧ U.heap = h0) (fun _ _ _ _ _ => True) (fun _ U o U' => ∃ v L, o = .returned v ∧ (Q91 Z x0 x1 h0 n0) v U'.heap L ∧ FrameEnd U o U' L ({ frames := 2, cells := 2, slots := 16, locals := 40 } : Room).cells ({ frames := 2, cells := 2, slots := 16, locals := 40 } : Room).slots) := by
  refine MetFree.of_bodySF (plainFor_of_name pn91) hisR ?_
  intro p e s m args below meth c s₁ Bd hml0 hP hK
  obtain ⟨rfl, hZ, hh⟩ := hP
  have hx := Bd.exec
  have hby := Bd.bytes
  have hml : c.maxLocals = 6 := hml0
  have hlk : meth.locks = false := BodyLoose.notSynchronized Bd
  have hown : s.vm.findClass "com/example/eriu/eriu/algorithm/GroupElection" = some m.cls := findClass_of_methodNamed Bd.named
  have hnm := (name_of_methodNamed Bd.named Bd.method).1
  have w_7 := hw _ (List.mem_of_getElem? (i := 7) rfl)
  have w_9 := hw _ (List.mem_of_getElem? (i := 9) rfl)
  have w_10 := hw _ (List.mem_of_getElem? (i := 10) rfl)
  have w_11 := hw _ (List.mem_of_getElem? (i := 11) rfl)
  have w_18 := hw _ (List.mem_of_getElem? (i := 18) rfl)
  have w_19 := hw _ (List.mem_of_getElem? (i := 19) rfl)
  have w_20 := hw _ (List.mem_of_getElem? (i := 20) rfl)
  have w_21 := hw _ (List.mem_of_getElem? (i := 21) rfl)
  have w_22 := hw _ (List.mem_of_getElem? (i := 22) rfl)
  have w_26 := hw _ (List.mem_of_getElem? (i := 26) rfl)
  have hci : ∀ i v, (i, v) ∈ ([] : List (Nat × Int32)) → (Jvm.Cond.constant "com/example/eriu/eriu/algorithm/GroupElection" i v).before #[(.int x0), (.int x1), (.int (1 : Int32))] s = true := own_ci0
  have hcl : ∀ i v, (i, v) ∈ ([(215, 2), (236, 3)] : List (Nat × Int64)) → (Jvm.Cond.constantLong "com/example/eriu/eriu/algorithm/GroupElection" i v).before #[(.int x0), (.int x1), (.int (1 : Int32))] s = true := (own_ciS (mvT hZ w_22) (own_ciS (mvT hZ w_26) own_ci0))
  have X0 : Stand p l e ({ frames := 2, cells := 2, slots := 16, locals := 40 } : Room) s m #[(.int x0), (.int x1), (.int (1 : Int32))] below meth c s₁ [] 0 0 := Stand.of_body Bd
  have e0 : s₁.heap = h0 := by rw [← hh, Bd.state]; rfl
  have N0 := Fr.nil n0
  show Goes p e below s (Q91 Z x0 x1 h0 n0) ({ frames := 2, cells := 2, slots := 16, locals := 40 } : Room).cells ({ frames := 2, cells := 2, slots := 16, locals := 40 } : Room).slots (s₁.setTop (entryFrame m #[(.int x0), (.int x1), (.int (1 : Int32))] 6))
  refine Goes.cast (ef91 m x0 x1) ?_
  have K0 : Keep h0 h0 [] := Keep.refl h0 _
  refine Goes.run X0 hx hown hci hcl hby (L := [(0, .iload_n 0, 1), (1, .iload_n 1, 1), (2, .iload_n 2, 1)]) (by decide +kernel) rfl (g' := (mkF m 3 #[iv x0, iv x1, iv (1 : Int32), .unset, .unset, .unset] [(.int (1 : Int32)), (.int x1), (.int x0)])) rfl ?_
  obtain ⟨_, _, ⟨T1, L1, k1, n1⟩, -, X1, ⟨Lc1, hQ1, l1, y1, z1⟩, st1⟩ := Jvm.LawKit.callS X0 hx (y := ym6) hown (mvT hZ w_9) (mvT hZ w_10) (mvT hZ w_7) (mvT hZ w_11) (by decide) (backOf (W := 0) (rm81 l Z a0 hw [] x0 x1 h0 n0 Z0 p1 p2 p4) hZ w_11 w_7 (by decide) (by decide)) (g := (mkF m 3 #[iv x0, iv x1, iv (1 : Int32), .unset, .unset, .unset] [(.int (1 : Int32)), (.int x1), (.int x0)])) rfl (by rw [hml]; rfl) (argsL := [(.int x0), (.int x1), (.int (1 : Int32))]) (rest := []) (lenOf pd91_0 rfl) rfl (by show 2 * 0 + _ ≤ _; exact Nat.le_of_eq rfl) (hb hby d8_3) (fun _ _ => ⟨rfl, e0, (by decide : 0 + 1 ≤ _), (by decide : 0 + 8 ≤ _)⟩)
  dsimp only [Pt.U, Pt.locs, Pt.cells, Pt.slots] at X1 l1 y1 z1 st1 hQ1
  subst l1 y1 z1
  obtain ⟨h1, eh1⟩ : ∃ z, z = T1.heap := ⟨_, rfl⟩
  rw [← eh1] at hQ1
  have e1 : T1.heap = h1 := eh1.symm
  obtain ⟨b1, kc1, rfl, N1q, Kq1, szq1, o1_0, o1_1⟩ := hQ1
  have g_b1 : n0 ≤ b1 := Nat.le_trans Z0 szq1
  have sz_b1 : h0.size ≤ b1 := Nat.le_trans K0.1 szq1
  have N1 := Fr.app N0 N1q
  have E_b1 : Exa Z h1 b1 "[I" := o1_0
  have V_b1 : Arv Z h1 b1 kc1 .int (1 : Int32) [(.int x1)] (.int (0 : Int32)) := o1_1
  have Zn1 : n0 ≤ h1.size := Nat.le_trans Z0 Kq1.1
  have K1 := K0.trans Kq1 (all0)
  refine Goes.st (B := T1.setTop (mkF m 6 #[iv x0, iv x1, iv (1 : Int32), .unset, .unset, .unset] [(.ref b1)])) st1 ?_
  refine Goes.run X1 hx hown hci hcl hby (L := [(6, .astore_n 3, 1), (7, .aload_n 3, 1)]) (by decide +kernel) rfl (g' := (mkF m 8 #[iv x0, iv x1, iv (1 : Int32), rv b1, .unset, .unset] [(.ref b1)])) rfl ?_
  obtain ⟨cl2, Ar2, q2, S2, M2, Hs2, G2⟩ := id V_b1
  refine Goes.st (B := T1.setTop (mkF m 9 #[iv x0, iv x1, iv (1 : Int32), rv b1, .unset, .unset] [(.int (1 : Int32))])) (fun t k => ?_) ?_
  · refine X1.arraylength hx (cell := cl2) (by rw [e1]; exact Ar2.1) (State.isArrayOf_alike hZ.alike Ar2.2.1) (g := (mkF m 8 #[iv x0, iv x1, iv (1 : Int32), rv b1, .unset, .unset] [(.ref b1)])) rfl (rest := []) rfl (hb hby d8_8) _ ?_
    rw [len_of S2 M2]
    exact k
  obtain ⟨T3, h3, k3, X3, e3, E3, A3, B3, st3⟩ := newPE X1 hx hZ (aty := .long) w_18 e1 (g := (mkF m 9 #[iv x0, iv x1, iv (1 : Int32), rv b1, .unset, .unset] [(.int (1 : Int32))])) rfl (hb hby d8_9) rfl (by decide) (cap := 1) (by decide) (by decide) (by decide) (by decide) (ad := "[J") (by decide)
  obtain ⟨b3, g3⟩ : ∃ z, z = h1.size := ⟨_, rfl⟩
  rw [← g3] at A3 B3 st3
  have ne_b1_b3 : b1 ≠ b3 := Nat.ne_of_lt (Nat.lt_of_lt_of_le E_b1.lt (Nat.le_of_eq g3.symm))
  have g_b3 : n0 ≤ b3 := Nat.le_trans Zn1 (Nat.le_of_eq g3.symm)
  have sz_b3 : h0.size ≤ b3 := Nat.le_trans K1.1 (Nat.le_of_eq g3.symm)
  have E_b1 := E_b1.ext E3
  have V_b1 := V_b1.ext E3
  have Zn3 : n0 ≤ h3.size := Nat.le_trans Zn1 E3.1
  have K3 := K1.ext E3
  have E_b3 : Exa Z h3 b3 "[J" := B3
  have V_b3 : Arv Z h3 b3 k3 .long (1 : Int32) [(.long (0 : Int64))] (.long (0 : Int64)) := (Arv.new A3 (by decide)).pad (pad_rep [] (.long (0 : Int64)) 1)
  refine Goes.st (B := T3.setTop (mkF m 11 #[iv x0, iv x1, iv (1 : Int32), rv b1, .unset, .unset] [(.ref b3)])) st3 ?_
  refine Goes.run X3 hx hown hci hcl hby (L := [(11, .astore 4, 2), (13, .iconst 0, 1), (14, .istore 5, 2), (16, .iload 5, 2), (18, .aload_n 3, 1)]) (by decide +kernel) rfl (g' := (mkF m 19 #[iv x0, iv x1, iv (1 : Int32), rv b1, rv b3, iv (0 : Int32)] [(.ref b1), (.int (0 : Int32))])) rfl ?_
  obtain ⟨cl4, Ar4, q4, S4, M4, Hs4, G4⟩ := id V_b1
  refine Goes.st (B := T3.setTop (mkF m 20 #[iv x0, iv x1, iv (1 : Int32), rv b1, rv b3, iv (0 : Int32)] [(.int (1 : Int32)), (.int (0 : Int32))])) (fun t k => ?_) ?_
  · refine X3.arraylength hx (cell := cl4) (by rw [e3]; exact Ar4.1) (State.isArrayOf_alike hZ.alike Ar4.2.1) (g := (mkF m 19 #[iv x0, iv x1, iv (1 : Int32), rv b1, rv b3, iv (0 : Int32)] [(.ref b1), (.int (0 : Int32))])) rfl (rest := [(.int (0 : Int32))]) rfl (hb hby d8_19) _ ?_
    rw [len_of S4 M4]
    exact k
  have hc20_5 : (0 : Int32) < (1 : Int32) := by decide
  refine Goes.st (B := T3.setTop (mkF m 23 #[iv x0, iv x1, iv (1 : Int32), rv b1, rv b3, iv (0 : Int32)] [])) (fun t k => ?_) ?_
  · refine XS.icmpNo X3.here hx rfl (hb hby d8_20) rfl (tlt hc20_5).2.1 ?_
    exact k
  refine Goes.run X3 hx hown hci hcl hby (L := [(23, .aload 4, 2), (25, .iload 5, 2), (27, .aload_n 3, 1), (28, .iload 5, 2)]) (by decide +kernel) rfl (g' := (mkF m 30 #[iv x0, iv x1, iv (1 : Int32), rv b1, rv b3, iv (0 : Int32)] [(.int (0 : Int32)), (.ref b1), (.int (0 : Int32)), (.ref b3)])) rfl ?_
  obtain ⟨cl6, Ar6, q6, S6, M6, Hs6, G6⟩ := id V_b1
  have hin6 : ¬ ((0 : Int32) < 0 ∨ cl6.slots.size ≤ ((0 : Int32)).toNatClampNeg) := inb_of S6 ⟨(by decide), (by decide)⟩
  have hat6 : cl6.slots[((0 : Int32)).toNatClampNeg]? = some (.int x1) := Hs6.at hin6 rfl
  refine Goes.st (B := T3.setTop (mkF m 31 #[iv x0, iv x1, iv (1 : Int32), rv b1, rv b3, iv (0 : Int32)] [(.int x1), (.int (0 : Int32)), (.ref b3)])) (X3.iaload hx (j := (0 : Int32)) (v := (.int x1)) (by rw [e3]; exact Ar6.1) (State.isArrayOf_alike hZ.alike Ar6.2.1) Ar6.2.2 hin6 hat6 (g := (mkF m 30 #[iv x0, iv x1, iv (1 : Int32), rv b1, rv b3, iv (0 : Int32)] [(.int (0 : Int32)), (.ref b1), (.int (0 : Int32)), (.ref b3)])) rfl rfl (hb hby d8_30)) ?_
  obtain ⟨_, _, ⟨T7, L7, k7, n7⟩, -, X7, ⟨Lc7, hQ7, l7, y7, z7⟩, st7⟩ := Jvm.LawKit.callS X3 hx (y := ym3) hown (mvT hZ w_19) (mvT hZ w_20) (mvT hZ w_7) (mvT hZ w_21) (by decide) (backOf (W := 2) (rm5 l Z a0 hw [] x1 h3 n0 Zn3 ) hZ w_21 w_7 (by decide) (by decide)) (g := (mkF m 31 #[iv x0, iv x1, iv (1 : Int32), rv b1, rv b3, iv (0 : Int32)] [(.int x1), (.int (0 : Int32)), (.ref b3)])) rfl (by rw [hml]; rfl) (argsL := [(.int x1)]) (rest := [(.int (0 : Int32)), (.ref b3)]) (lenOf pd91_1 rfl) rfl (by show 2 * 0 + _ ≤ _; exact Nat.le_of_eq rfl) (hb hby d8_31) (fun _ _ => ⟨rfl, e3, (by decide : 2 + 0 ≤ _), (by decide : 9 + 0 ≤ _)⟩)
  dsimp only [Pt.U, Pt.locs, Pt.cells, Pt.slots] at X7 l7 y7 z7 st7 hQ7
  subst l7 y7 z7
  obtain ⟨rfl, N7q, e7⟩ := hQ7
  have N7 := Fr.app N1 N7q
  refine Goes.st (B := T7.setTop (mkF m 34 #[iv x0, iv x1, iv (1 : Int32), rv b1, rv b3, iv (0 : Int32)] [(.long (r5 x1)), (.int (0 : Int32)), (.ref b3)])) st7 ?_
  refine Goes.run X7 hx hown hci hcl hby (L := [(34, .iload 5, 2), (36, .iconst 1, 1), (37, .iadd, 1), (38, .aload_n 3, 1)]) (by decide +kernel) rfl (g' := (mkF m 39 #[iv x0, iv x1, iv (1 : Int32), rv b1, rv b3, iv (0 : Int32)] [(.ref b1), (.int (1 : Int32)), (.long (r5 x1)), (.int (0 : Int32)), (.ref b3)])) rfl ?_
  obtain ⟨cl8, Ar8, q8, S8, M8, Hs8, G8⟩ := id V_b1
  refine Goes.st (B := T7.setTop (mkF m 40 #[iv x0, iv x1, iv (1 : Int32), rv b1, rv b3, iv (0 : Int32)] [(.int (1 : Int32)), (.int (1 : Int32)), (.long (r5 x1)), (.int (0 : Int32)), (.ref b3)])) (fun t k => ?_) ?_
  · refine X7.arraylength hx (cell := cl8) (by rw [e7]; exact Ar8.1) (State.isArrayOf_alike hZ.alike Ar8.2.1) (g := (mkF m 39 #[iv x0, iv x1, iv (1 : Int32), rv b1, rv b3, iv (0 : Int32)] [(.ref b1), (.int (1 : Int32)), (.long (r5 x1)), (.int (0 : Int32)), (.ref b3)])) rfl (rest := [(.int (1 : Int32)), (.long (r5 x1)), (.int (0 : Int32)), (.ref b3)]) rfl (hb hby d8_39) _ ?_
    rw [len_of S8 M8]
    exact k
  have hc40_9 : ¬ ((1 : Int32) < (1 : Int32)) := Int32.lt_irrefl
  refine Goes.st (B := T7.setTop (mkF m 56 #[iv x0, iv x1, iv (1 : Int32), rv b1, rv b3, iv (0 : Int32)] [(.long (r5 x1)), (.int (0 : Int32)), (.ref b3)])) (fun t k => ?_) ?_
  · refine XS.icmpYes X7.here hx rfl (pc0 := 40) (pc' := 56) rfl (hb hby d8_40) rfl (flt hc40_9).2.1 (by decide) (by decide) ?_
    exact k
  refine Goes.run X7 hx hown hci hcl hby (L := [(56, .lconst 0, 1), (57, .ladd, 1)]) (by decide +kernel) rfl (g' := (mkF m 58 #[iv x0, iv x1, iv (1 : Int32), rv b1, rv b3, iv (0 : Int32)] [(.long ((r5 x1) + (0 : Int64))), (.int (0 : Int32)), (.ref b3)])) rfl ?_
  obtain ⟨cl10, Ar10, q10, S10, M10, Hs10, G10⟩ := id V_b3
  have hin10 : ¬ ((0 : Int32) < 0 ∨ cl10.slots.size ≤ ((0 : Int32)).toNatClampNeg) := inb_of S10 ⟨(by decide), (by decide)⟩
  obtain ⟨T10, h10, X10, e10, W10, st10⟩ := stJ X7 hx hZ e7 Ar10 (j := (0 : Int32)) hin10 (g := (mkF m 58 #[iv x0, iv x1, iv (1 : Int32), rv b1, rv b3, iv (0 : Int32)] [(.long ((r5 x1) + (0 : Int64))), (.int (0 : Int32)), (.ref b3)])) rfl rfl (hb hby d8_58)
  have E_b1 := E_b1.wr W10
  have V_b1 := V_b1.other W10 ne_b1_b3
  have E_b3 := E_b3.wr W10
  have Zn10 : n0 ≤ h10.size := Nat.le_trans Zn3 (Keep.of_wr W10).1
  have K10 := K3.wr W10 (Or.inr sz_b3)
  have N10 := Fr.snoc X10 N7 g_b3
  have V_b3 : Arv Z h10 b3 k3 .long (1 : Int32) [(.long ((r5 x1) + (0 : Int64)))] (.long (0 : Int64)) := Arv.set Ar10 q10 S10 M10 Hs10 G10 rfl W10 0 rfl (Nat.le_of_ble_eq_true rfl)
  refine Goes.st (B := T10.setTop (mkF m 59 #[iv x0, iv x1, iv (1 : Int32), rv b1, rv b3, iv (0 : Int32)] [])) st10 ?_
  refine Goes.run X10 hx hown hci hcl hby (L := [(59, .iinc 5 1, 3), (62, .goto (-46), 3), (16, .iload 5, 2), (18, .aload_n 3, 1)]) (by decide +kernel) rfl (g' := (mkF m 19 #[iv x0, iv x1, iv (1 : Int32), rv b1, rv b3, iv (1 : Int32)] [(.ref b1), (.int (1 : Int32))])) rfl ?_
  obtain ⟨cl11, Ar11, q11, S11, M11, Hs11, G11⟩ := id V_b1
  refine Goes.st (B := T10.setTop (mkF m 20 #[iv x0, iv x1, iv (1 : Int32), rv b1, rv b3, iv (1 : Int32)] [(.int (1 : Int32)), (.int (1 : Int32))])) (fun t k => ?_) ?_
  · refine X10.arraylength hx (cell := cl11) (by rw [e10]; exact Ar11.1) (State.isArrayOf_alike hZ.alike Ar11.2.1) (g := (mkF m 19 #[iv x0, iv x1, iv (1 : Int32), rv b1, rv b3, iv (1 : Int32)] [(.ref b1), (.int (1 : Int32))])) rfl (rest := [(.int (1 : Int32))]) rfl (hb hby d8_19) _ ?_
    rw [len_of S11 M11]
    exact k
  have hc20_12 : ¬ ((1 : Int32) < (1 : Int32)) := Int32.lt_irrefl
  refine Goes.st (B := T10.setTop (mkF m 65 #[iv x0, iv x1, iv (1 : Int32), rv b1, rv b3, iv (1 : Int32)] [])) (fun t k => ?_) ?_
  · refine XS.icmpYes X10.here hx rfl (pc0 := 20) (pc' := 65) rfl (hb hby d8_20) rfl (flt hc20_12).2.1 (by decide) (by decide) ?_
    exact k
  refine Goes.run X10 hx hown hci hcl hby (L := [(65, .aload 4, 2)]) (by decide +kernel) rfl (g' := (mkF m 67 #[iv x0, iv x1, iv (1 : Int32), rv b1, rv b3, iv (1 : Int32)] [(.ref b3)])) rfl ?_
  refine Goes.retR X10 hx hlk Bd.returns rfl rfl (hb hby d8_67) ?_ (by decide) (by decide)
  show (Q91 Z x0 x1 h0 n0) _ _ _
  rw [e10]
  exact ⟨b3, k3, rfl, N10, K10, sz_b3, E_b3, V_b3⟩
theorem d7_105 : decode prog_4_method_19_code 105 = .ok (.iastore, 1) := by decide +kernel
theorem pn82 : plainName "com/example/eriu/eriu/algorithm/GroupElection" = true := by first | (simp [plainName, overriddenIn]; done) | decide +kernel
theorem pd82_0 : parseMethodDescriptor "(I)I" = some ⟨[.int], some .int⟩ := by decide +kernel
theorem ef82 (m : MethodId) (x0 : Int32) (x1 : Int32) : entryFrame m #[(.int x0), (.int x1), (.int (2 : Int32))] 5 = (mkF m 0 #[iv x0, iv x1, iv (2 : Int32), .unset, .unset] []) := by first | (simp [entryFrame, mkF, argsToLocals, Value.category]; done) | rfl
def Q82 (Z : State) (x0 : Int32) (x1 : Int32) (h0 : Heap) (n0 : Nat) (v : Option Value) (h : Heap) (L : List Loc) : Prop := ∃ (b : Addr) (k : ClassId), v = some (.ref b) ∧ Fr n0 L ∧ Keep h0 h [] ∧ h0.size ≤ b ∧ Exa Z h b "[I" ∧ Arv Z h b k .int (2 : Int32) [(.int x1), (.int x0)] (.int (0 : Int32))
set_option maxRecDepth 65536 in
set_option maxHeartbeats 40000000 in
theorem rm82 (l : Launch) (Z : State) (a0 : Array Value) (hw : ∀ d ∈ tables_1, d.before a0 Z = true) (ws : List Jvm.Cond) (x0 : Int32) (x1 : Int32) (h0 : Heap) (n0 : Nat) (Z0 : n0 ≤ h0.size) (p1 : ¬ (x0 < (1 : Int32))) (p2 : ¬ (x1 < (1 : Int32))) (p4 : (0 : Int32) < (r3 x1)) :
    MetFree l ym6 (head1 (Jvm.Cond.code ym6 prog_4_method_19_code 5 (some (.array .int)) :: ws) ({ frames := 1, cells := 1, slots := 8, locals := 14 } : Room)) (fun a U => a = #[(.int x0), (.int x1), (.int (2 : Int32))] ∧ Z.Warmed39 U.vm ∧ U.heap = h0) (fun _ _ _ _ _ => True) (fun _ U o U' => ∃ v L, o = .returned v ∧ (Q82 Z x0 x1 h0 n0) v U'.heap L ∧ FrameEnd U o U' L ({ frames := 1, cells := 1, slots := 8, locals := 14 } : Room).cells ({ frames := 1, cells := 1, slots := 8, locals := 14 } : Room).slots) := by
  refine MetFree.of_bodySF (plainFor_of_name pn82) hisR ?_
  intro p e s m args below meth c s₁ Bd hml0 hP hK
  obtain ⟨rfl, hZ, hh⟩ := hP
  have hx := Bd.exec
  have hby := Bd.bytes
  have hml : c.maxLocals = 5 := hml0
  have hlk : meth.locks = false := BodyLoose.notSynchronized Bd
  have hown : s.vm.findClass "com/example/eriu/eriu/algorithm/GroupElection" = some m.cls := findClass_of_methodNamed Bd.named
  have hnm := (name_of_methodNamed Bd.named Bd.method).1
  have w_12 := hw _ (List.mem_of_getElem? (i := 12) rfl)
  have w_13 := hw _ (List.mem_of_getElem? (i := 13) rfl)
  have w_14 := hw _ (List.mem_of_getElem? (i := 14) rfl)
  have w_15 := hw _ (List.mem_of_getElem? (i := 15) rfl)
  have w_17 := hw _ (List.mem_of_getElem? (i := 17) rfl)
  have w_22 := hw _ (List.mem_of_getElem? (i := 22) rfl)
  have w_26 := hw _ (List.mem_of_getElem? (i := 26) rfl)
  have hci : ∀ i v, (i, v) ∈ ([] : List (Nat × Int32)) → (Jvm.Cond.constant "com/example/eriu/eriu/algorithm/GroupElection" i v).before #[(.int x0), (.int x1), (.int (2 : Int32))] s = true := own_ci0
  have hcl : ∀ i v, (i, v) ∈ ([(215, 2), (236, 3)] : List (Nat × Int64)) → (Jvm.Cond.constantLong "com/example/eriu/eriu/algorithm/GroupElection" i v).before #[(.int x0), (.int x1), (.int (2 : Int32))] s = true := (own_ciS (mvT hZ w_22) (own_ciS (mvT hZ w_26) own_ci0))
  have X0 : Stand p l e ({ frames := 1, cells := 1, slots := 8, locals := 14 } : Room) s m #[(.int x0), (.int x1), (.int (2 : Int32))] below meth c s₁ [] 0 0 := Stand.of_body Bd
  have e0 : s₁.heap = h0 := by rw [← hh, Bd.state]; rfl
  have N0 := Fr.nil n0
  show Goes p e below s (Q82 Z x0 x1 h0 n0) ({ frames := 1, cells := 1, slots := 8, locals := 14 } : Room).cells ({ frames := 1, cells := 1, slots := 8, locals := 14 } : Room).slots (s₁.setTop (entryFrame m #[(.int x0), (.int x1), (.int (2 : Int32))] 5))
  refine Goes.cast (ef82 m x0 x1) ?_
  have K0 : Keep h0 h0 [] := Keep.refl h0 _
  refine Goes.run X0 hx hown hci hcl hby (L := [(0, .iload_n 0, 1), (1, .iconst 1, 1)]) (by decide +kernel) rfl (g' := (mkF m 2 #[iv x0, iv x1, iv (2 : Int32), .unset, .unset] [(.int (1 : Int32)), (.int x0)])) rfl ?_
  have hc2_1 : ¬ (x0 < (1 : Int32)) := p1
  refine Goes.st (B := s₁.setTop (mkF m 5 #[iv x0, iv x1, iv (2 : Int32), .unset, .unset] [])) (fun t k => ?_) ?_
  · refine XS.icmpNo X0.here hx rfl (hb hby d7_2) rfl (flt hc2_1).1 ?_
    exact k
  refine Goes.run X0 hx hown hci hcl hby (L := [(5, .iload_n 1, 1), (6, .iconst 1, 1)]) (by decide +kernel) rfl (g' := (mkF m 7 #[iv x0, iv x1, iv (2 : Int32), .unset, .unset] [(.int (1 : Int32)), (.int x1)])) rfl ?_
  have hc7_2 : ¬ (x1 < (1 : Int32)) := p2
  refine Goes.st (B := s₁.setTop (mkF m 10 #[iv x0, iv x1, iv (2 : Int32), .unset, .unset] [])) (fun t k => ?_) ?_
  · refine XS.icmpNo X0.here hx rfl (hb hby d7_7) rfl (flt hc7_2).1 ?_
    exact k
  refine Goes.run X0 hx hown hci hcl hby (L := [(10, .iload_n 2, 1), (11, .iconst 1, 1)]) (by decide +kernel) rfl (g' := (mkF m 12 #[iv x0, iv x1, iv (2 : Int32), .unset, .unset] [(.int (1 : Int32)), (.int (2 : Int32))])) rfl ?_
  have hc12_3 : ¬ ((2 : Int32) < (1 : Int32)) := by decide
  refine Goes.st (B := s₁.setTop (mkF m 31 #[iv x0, iv x1, iv (2 : Int32), .unset, .unset] [])) (fun t k => ?_) ?_
  · refine XS.icmpYes X0.here hx rfl (pc0 := 12) (pc' := 31) rfl (hb hby d7_12) rfl (flt hc12_3).2.1 (by decide) (by decide) ?_
    exact k
  refine Goes.run X0 hx hown hci hcl hby (L := [(31, .iload_n 2, 1), (32, .iconst 2, 1), (33, .isub, 1), (34, .iload_n 1, 1)]) (by decide +kernel) rfl (g' := (mkF m 35 #[iv x0, iv x1, iv (2 : Int32), .unset, .unset] [(.int x1), (.int (0 : Int32))])) rfl ?_
  obtain ⟨_, _, ⟨T4, L4, k4, n4⟩, -, X4, ⟨Lc4, hQ4, l4, y4, z4⟩, st4⟩ := Jvm.LawKit.callS X0 hx (y := ym1) hown (mvT hZ w_12) (mvT hZ w_13) (mvT hZ w_14) (mvT hZ w_15) (by decide) (backOf (W := 1) (rm3 l Z a0 hw [] x1 h0 n0 Z0 ) hZ w_15 w_14 (by decide) (by decide)) (g := (mkF m 35 #[iv x0, iv x1, iv (2 : Int32), .unset, .unset] [(.int x1), (.int (0 : Int32))])) rfl (by rw [hml]; rfl) (argsL := [(.int x1)]) (rest := [(.int (0 : Int32))]) (lenOf pd82_0 rfl) rfl (by show 2 * 0 + _ ≤ _; exact Nat.le_of_eq rfl) (hb hby d7_35) (fun _ _ => ⟨rfl, e0, (by decide : 0 + 0 ≤ _), (by decide : 0 + 0 ≤ _)⟩)
  dsimp only [Pt.U, Pt.locs, Pt.cells, Pt.slots] at X4 l4 y4 z4 st4 hQ4
  subst l4 y4 z4
  obtain ⟨rfl, N4q, e4⟩ := hQ4
  have N4 := Fr.app N0 N4q
  refine Goes.st (B := T4.setTop (mkF m 38 #[iv x0, iv x1, iv (2 : Int32), .unset, .unset] [(.int (r3 x1)), (.int (0 : Int32))])) st4 ?_
  have hc38_5 : (0 : Int32) < (r3 x1) := p4
  refine Goes.st (B := T4.setTop (mkF m 58 #[iv x0, iv x1, iv (2 : Int32), .unset, .unset] [])) (fun t k => ?_) ?_
  · refine XS.icmpYes X4.here hx rfl (pc0 := 38) (pc' := 58) rfl (hb hby d7_38) rfl (tlt hc38_5).1 (by decide) (by decide) ?_
    exact k
  refine Goes.run X4 hx hown hci hcl hby (L := [(58, .iload_n 2, 1)]) (by decide +kernel) rfl (g' := (mkF m 59 #[iv x0, iv x1, iv (2 : Int32), .unset, .unset] [(.int (2 : Int32))])) rfl ?_
  obtain ⟨T6, h6, k6, X6, e6, E6, A6, B6, st6⟩ := newPE X4 hx hZ (aty := .int) w_17 e4 (g := (mkF m 59 #[iv x0, iv x1, iv (2 : Int32), .unset, .unset] [(.int (2 : Int32))])) rfl (hb hby d7_59) rfl (by decide) (cap := 2) (by decide) (by decide) (by decide) (by decide) (ad := "[I") (by decide)
  obtain ⟨b6, g6⟩ : ∃ z, z = h0.size := ⟨_, rfl⟩
  rw [← g6] at A6 B6 st6
  have g_b6 : n0 ≤ b6 := Nat.le_trans Z0 (Nat.le_of_eq g6.symm)
  have sz_b6 : h0.size ≤ b6 := Nat.le_trans K0.1 (Nat.le_of_eq g6.symm)
  have Zn6 : n0 ≤ h6.size := Nat.le_trans Z0 E6.1
  have K6 := K0.ext E6
  have E_b6 : Exa Z h6 b6 "[I" := B6
  have V_b6 : Arv Z h6 b6 k6 .int (2 : Int32) [(.int (0 : Int32)), (.int (0 : Int32))] (.int (0 : Int32)) := (Arv.new A6 (by decide)).pad (pad_rep [] (.int (0 : Int32)) 2)
  refine Goes.st (B := T6.setTop (mkF m 61 #[iv x0, iv x1, iv (2 : Int32), .unset, .unset] [(.ref b6)])) st6 ?_
  refine Goes.run X6 hx hown hci hcl hby (L := [(61, .astore_n 3, 1), (62, .aload_n 3, 1), (63, .iconst 0, 1), (64, .iload_n 1, 1)]) (by decide +kernel) rfl (g' := (mkF m 65 #[iv x0, iv x1, iv (2 : Int32), rv b6, .unset] [(.int x1), (.int (0 : Int32)), (.ref b6)])) rfl ?_
  obtain ⟨cl7, Ar7, q7, S7, M7, Hs7, G7⟩ := id V_b6
  have hin7 : ¬ ((0 : Int32) < 0 ∨ cl7.slots.size ≤ ((0 : Int32)).toNatClampNeg) := inb_of S7 ⟨(by decide), (by decide)⟩
  obtain ⟨T7, h7, X7, e7, W7, st7⟩ := stI X6 hx hZ e6 Ar7 (j := (0 : Int32)) hin7 (g := (mkF m 65 #[iv x0, iv x1, iv (2 : Int32), rv b6, .unset] [(.int x1), (.int (0 : Int32)), (.ref b6)])) rfl rfl (hb hby d7_65)
  have E_b6 := E_b6.wr W7
  have Zn7 : n0 ≤ h7.size := Nat.le_trans Zn6 (Keep.of_wr W7).1
  have K7 := K6.wr W7 (Or.inr sz_b6)
  have N7 := Fr.snoc X7 N4 g_b6
  have V_b6 : Arv Z h7 b6 k6 .int (2 : Int32) [(.int x1), (.int (0 : Int32))] (.int (0 : Int32)) := Arv.set Ar7 q7 S7 M7 Hs7 G7 rfl W7 0 rfl (Nat.le_of_ble_eq_true rfl)
  refine Goes.st (B := T7.setTop (mkF m 66 #[iv x0, iv x1, iv (2 : Int32), rv b6, .unset] [])) st7 ?_
  refine Goes.run X7 hx hown hci hcl hby (L := [(66, .iconst 1, 1), (67, .istore 4, 2), (69, .iload 4, 2), (71, .iload_n 2, 1), (72, .iconst 1, 1), (73, .isub, 1)]) (by decide +kernel) rfl (g' := (mkF m 74 #[iv x0, iv x1, iv (2 : Int32), rv b6, iv (1 : Int32)] [(.int (1 : Int32)), (.int (1 : Int32))])) rfl ?_
  have hc74_8 : ¬ ((1 : Int32) < (1 : Int32)) := Int32.lt_irrefl
  refine Goes.st (B := T7.setTop (mkF m 95 #[iv x0, iv x1, iv (2 : Int32), rv b6, iv (1 : Int32)] [])) (fun t k => ?_) ?_
  · refine XS.icmpYes X7.here hx rfl (pc0 := 74) (pc' := 95) rfl (hb hby d7_74) rfl (flt hc74_8).2.1 (by decide) (by decide) ?_
    exact k
  refine Goes.run X7 hx hown hci hcl hby (L := [(95, .iload_n 2, 1), (96, .iconst 1, 1)]) (by decide +kernel) rfl (g' := (mkF m 97 #[iv x0, iv x1, iv (2 : Int32), rv b6, iv (1 : Int32)] [(.int (1 : Int32)), (.int (2 : Int32))])) rfl ?_
  have hc97_9 : (1 : Int32) < (2 : Int32) := by decide
  refine Goes.st (B := T7.setTop (mkF m 100 #[iv x0, iv x1, iv (2 : Int32), rv b6, iv (1 : Int32)] [])) (fun t k => ?_) ?_
  · refine XS.icmpNo X7.here hx rfl (hb hby d7_97) rfl (tlt hc97_9).2.2.2 ?_
    exact k
  refine Goes.run X7 hx hown hci hcl hby (L := [(100, .aload_n 3, 1), (101, .iload_n 2, 1), (102, .iconst 1, 1), (103, .isub, 1), (104, .iload_n 0, 1)]) (by decide +kernel) rfl (g' := (mkF m 105 #[iv x0, iv x1, iv (2 : Int32), rv b6, iv (1 : Int32)] [(.int x0), (.int (1 : Int32)), (.ref b6)])) rfl ?_
  obtain ⟨cl10, Ar10, q10, S10, M10, Hs10, G10⟩ := id V_b6
  have hin10 : ¬ ((1 : Int32) < 0 ∨ cl10.slots.size ≤ ((1 : Int32)).toNatClampNeg) := inb_of S10 ⟨(by decide), (by decide)⟩
  obtain ⟨T10, h10, X10, e10, W10, st10⟩ := stI X7 hx hZ e7 Ar10 (j := (1 : Int32)) hin10 (g := (mkF m 105 #[iv x0, iv x1, iv (2 : Int32), rv b6, iv (1 : Int32)] [(.int x0), (.int (1 : Int32)), (.ref b6)])) rfl rfl (hb hby d7_105)
  have E_b6 := E_b6.wr W10
  have Zn10 : n0 ≤ h10.size := Nat.le_trans Zn7 (Keep.of_wr W10).1
  have K10 := K7.wr W10 (Or.inr sz_b6)
  have N10 := Fr.snoc X10 N7 g_b6
  have V_b6 : Arv Z h10 b6 k6 .int (2 : Int32) [(.int x1), (.int x0)] (.int (0 : Int32)) := Arv.set Ar10 q10 S10 M10 Hs10 G10 rfl W10 1 rfl (Nat.le_of_ble_eq_true rfl)
  refine Goes.st (B := T10.setTop (mkF m 106 #[iv x0, iv x1, iv (2 : Int32), rv b6, iv (1 : Int32)] [])) st10 ?_
  refine Goes.run X10 hx hown hci hcl hby (L := [(106, .aload_n 3, 1)]) (by decide +kernel) rfl (g' := (mkF m 107 #[iv x0, iv x1, iv (2 : Int32), rv b6, iv (1 : Int32)] [(.ref b6)])) rfl ?_
  refine Goes.retR X10 hx hlk Bd.returns rfl rfl (hb hby d7_107) ?_ (by decide) (by decide)
  show (Q82 Z x0 x1 h0 n0) _ _ _
  rw [e10]
  exact ⟨b6, k6, rfl, N10, K10, sz_b6, E_b6, V_b6⟩
theorem d8_49 : decode prog_4_method_3_code 49 = .ok (.iaload, 1) := by decide +kernel
theorem d8_50 : decode prog_4_method_3_code 50 = .ok (.invokestatic 60, 3) := by decide +kernel
theorem pn92 : plainName "com/example/eriu/eriu/algorithm/GroupElection" = true := by first | (simp [plainName, overriddenIn]; done) | decide +kernel
theorem pd92_0 : parseMethodDescriptor "(III)[I" = some ⟨[.int, .int, .int], some (.array .int)⟩ := by decide +kernel
theorem pd92_1 : parseMethodDescriptor "(I)J" = some ⟨[.int], some .long⟩ := by decide +kernel
theorem pd92_2 : parseMethodDescriptor "(II)J" = some ⟨[.int, .int], some .long⟩ := by decide +kernel
theorem ef92 (m : MethodId) (x0 : Int32) (x1 : Int32) : entryFrame m #[(.int x0), (.int x1), (.int (2 : Int32))] 6 = (mkF m 0 #[iv x0, iv x1, iv (2 : Int32), .unset, .unset, .unset] []) := by first | (simp [entryFrame, mkF, argsToLocals, Value.category]; done) | rfl
def Q92 (Z : State) (x0 : Int32) (x1 : Int32) (h0 : Heap) (n0 : Nat) (v : Option Value) (h : Heap) (L : List Loc) : Prop := ∃ (b : Addr) (k : ClassId), v = some (.ref b) ∧ Fr n0 L ∧ Keep h0 h [] ∧ h0.size ≤ b ∧ Exa Z h b "[J" ∧ Arv Z h b k .long (2 : Int32) [(.long ((r5 x1) + (r7 x0 x0))), (.long ((r5 x0) + (0 : Int64)))] (.long (0 : Int64))
set_option maxRecDepth 65536 in
set_option maxHeartbeats 40000000 in
theorem rm92 (l : Launch) (Z : State) (a0 : Array Value) (hw : ∀ d ∈ tables_1, d.before a0 Z = true) (ws : List Jvm.Cond) (x0 : Int32) (x1 : Int32) (h0 : Heap) (n0 : Nat) (Z0 : n0 ≤ h0.size) (p1 : ¬ (x0 < (1 : Int32))) (p2 : ¬ (x1 < (1 : Int32))) (p4 : (0 : Int32) < (r3 x1)) (s1 : ¬ (x0 < (1 : Int32))) :
    MetFree l ym7 (head1 (Jvm.Cond.code ym7 prog_4_method_3_code 6 (some (.array .long)) :: ws) ({ frames := 2, cells := 2, slots := 16, locals := 40 } : Room)) (fun a U => a = #[(.int x0), (.int x1), (.int (2 : Int32))] ∧ Z.Warmed39 U.vm ∧ U.heap = h0) (fun _ _ _ _ _ => True) (fun _ U o U' => ∃ v L, o = .returned v ∧ (Q92 Z x0 x1 h0 n0) v U'.heap L ∧ FrameEnd U o U' L ({ frames := 2, cells := 2, slots := 16, locals := 40 } : Room).cells ({ frames := 2, cells := 2, slots := 16, locals := 40 } : Room).slots) := by
  refine MetFree.of_bodySF (plainFor_of_name pn92) hisR ?_
  intro p e s m args below meth c s₁ Bd hml0 hP hK
  obtain ⟨rfl, hZ, hh⟩ := hP
  have hx := Bd.exec
  have hby := Bd.bytes
  have hml : c.maxLocals = 6 := hml0
  have hlk : meth.locks = false := BodyLoose.notSynchronized Bd
  have hown : s.vm.findClass "com/example/eriu/eriu/algorithm/GroupElection" = some m.cls := findClass_of_methodNamed Bd.named
  have hnm := (name_of_methodNamed Bd.named Bd.method).1
  have w_7 := hw _ (List.mem_of_getElem? (i := 7) rfl)
  have w_9 := hw _ (List.mem_of_getElem? (i := 9) rfl)
  have w_10 := hw _ (List.mem_of_getElem? (i := 10) rfl)
  have w_11 := hw _ (List.mem_of_getElem? (i := 11) rfl)
  have w_18 := hw _ (List.mem_of_getElem? (i := 18) rfl)
  have w_19 := hw _ (List.mem_of_getElem? (i := 19) rfl)
  have w_20 := hw _ (List.mem_of_getElem? (i := 20) rfl)
  have w_21 := hw _ (List.mem_of_getElem? (i := 21) rfl)
  have w_22 := hw _ (List.mem_of_getElem? (i := 22) rfl)
  have w_26 := hw _ (List.mem_of_getElem? (i := 26) rfl)
  have w_27 := hw _ (List.mem_of_getElem? (i := 27) rfl)
  have w_28 := hw _ (List.mem_of_getElem? (i := 28) rfl)
  have w_29 := hw _ (List.mem_of_getElem? (i := 29) rfl)
  have hci : ∀ i v, (i, v) ∈ ([] : List (Nat × Int32)) → (Jvm.Cond.constant "com/example/eriu/eriu/algorithm/GroupElection" i v).before #[(.int x0), (.int x1), (.int (2 : Int32))] s = true := own_ci0
  have hcl : ∀ i v, (i, v) ∈ ([(215, 2), (236, 3)] : List (Nat × Int64)) → (Jvm.Cond.constantLong "com/example/eriu/eriu/algorithm/GroupElection" i v).before #[(.int x0), (.int x1), (.int (2 : Int32))] s = true := (own_ciS (mvT hZ w_22) (own_ciS (mvT hZ w_26) own_ci0))
  have X0 : Stand p l e ({ frames := 2, cells := 2, slots := 16, locals := 40 } : Room) s m #[(.int x0), (.int x1), (.int (2 : Int32))] below meth c s₁ [] 0 0 := Stand.of_body Bd
  have e0 : s₁.heap = h0 := by rw [← hh, Bd.state]; rfl
  have N0 := Fr.nil n0
  show Goes p e below s (Q92 Z x0 x1 h0 n0) ({ frames := 2, cells := 2, slots := 16, locals := 40 } : Room).cells ({ frames := 2, cells := 2, slots := 16, locals := 40 } : Room).slots (s₁.setTop (entryFrame m #[(.int x0), (.int x1), (.int (2 : Int32))] 6))
  refine Goes.cast (ef92 m x0 x1) ?_
  have K0 : Keep h0 h0 [] := Keep.refl h0 _
  refine Goes.run X0 hx hown hci hcl hby (L := [(0, .iload_n 0, 1), (1, .iload_n 1, 1), (2, .iload_n 2, 1)]) (by decide +kernel) rfl (g' := (mkF m 3 #[iv x0, iv x1, iv (2 : Int32), .unset, .unset, .unset] [(.int (2 : Int32)), (.int x1), (.int x0)])) rfl ?_
  obtain ⟨_, _, ⟨T1, L1, k1, n1⟩, -, X1, ⟨Lc1, hQ1, l1, y1, z1⟩, st1⟩ := Jvm.LawKit.callS X0 hx (y := ym6) hown (mvT hZ w_9) (mvT hZ w_10) (mvT hZ w_7) (mvT hZ w_11) (by decide) (backOf (W := 0) (rm82 l Z a0 hw [] x0 x1 h0 n0 Z0 p1 p2 p4) hZ w_11 w_7 (by decide) (by decide)) (g := (mkF m 3 #[iv x0, iv x1, iv (2 : Int32), .unset, .unset, .unset] [(.int (2 : Int32)), (.int x1), (.int x0)])) rfl (by rw [hml]; rfl) (argsL := [(.int x0), (.int x1), (.int (2 : Int32))]) (rest := []) (lenOf pd92_0 rfl) rfl (by show 2 * 0 + _ ≤ _; exact Nat.le_of_eq rfl) (hb hby d8_3) (fun _ _ => ⟨rfl, e0, (by decide : 0 + 1 ≤ _), (by decide : 0 + 8 ≤ _)⟩)
  dsimp only [Pt.U, Pt.locs, Pt.cells, Pt.slots] at X1 l1 y1 z1 st1 hQ1
  subst l1 y1 z1
  obtain ⟨h1, eh1⟩ : ∃ z, z = T1.heap := ⟨_, rfl⟩
  rw [← eh1] at hQ1
  have e1 : T1.heap = h1 := eh1.symm
  obtain ⟨b1, kc1, rfl, N1q, Kq1, szq1, o1_0, o1_1⟩ := hQ1
  have g_b1 : n0 ≤ b1 := Nat.le_trans Z0 szq1
  have sz_b1 : h0.size ≤ b1 := Nat.le_trans K0.1 szq1
  have N1 := Fr.app N0 N1q
  have E_b1 : Exa Z h1 b1 "[I" := o1_0
  have V_b1 : Arv Z h1 b1 kc1 .int (2 : Int32) [(.int x1), (.int x0)] (.int (0 : Int32)) := o1_1
  have Zn1 : n0 ≤ h1.size := Nat.le_trans Z0 Kq1.1
  have K1 := K0.trans Kq1 (all0)
  refine Goes.st (B := T1.setTop (mkF m 6 #[iv x0, iv x1, iv (2 : Int32), .unset, .unset, .unset] [(.ref b1)])) st1 ?_
  refine Goes.run X1 hx hown hci hcl hby (L := [(6, .astore_n 3, 1), (7, .aload_n 3, 1)]) (by decide +kernel) rfl (g' := (mkF m 8 #[iv x0, iv x1, iv (2 : Int32), rv b1, .unset, .unset] [(.ref b1)])) rfl ?_
  obtain ⟨cl2, Ar2, q2, S2, M2, Hs2, G2⟩ := id V_b1
  refine Goes.st (B := T1.setTop (mkF m 9 #[iv x0, iv x1, iv (2 : Int32), rv b1, .unset, .unset] [(.int (2 : Int32))])) (fun t k => ?_) ?_
  · refine X1.arraylength hx (cell := cl2) (by rw [e1]; exact Ar2.1) (State.isArrayOf_alike hZ.alike Ar2.2.1) (g := (mkF m 8 #[iv x0, iv x1, iv (2 : Int32), rv b1, .unset, .unset] [(.ref b1)])) rfl (rest := []) rfl (hb hby d8_8) _ ?_
    rw [len_of S2 M2]
    exact k
  obtain ⟨T3, h3, k3, X3, e3, E3, A3, B3, st3⟩ := newPE X1 hx hZ (aty := .long) w_18 e1 (g := (mkF m 9 #[iv x0, iv x1, iv (2 : Int32), rv b1, .unset, .unset] [(.int (2 : Int32))])) rfl (hb hby d8_9) rfl (by decide) (cap := 2) (by decide) (by decide) (by decide) (by decide) (ad := "[J") (by decide)
  obtain ⟨b3, g3⟩ : ∃ z, z = h1.size := ⟨_, rfl⟩
  rw [← g3] at A3 B3 st3
  have ne_b1_b3 : b1 ≠ b3 := Nat.ne_of_lt (Nat.lt_of_lt_of_le E_b1.lt (Nat.le_of_eq g3.symm))
  have g_b3 : n0 ≤ b3 := Nat.le_trans Zn1 (Nat.le_of_eq g3.symm)
  have sz_b3 : h0.size ≤ b3 := Nat.le_trans K1.1 (Nat.le_of_eq g3.symm)
  have E_b1 := E_b1.ext E3
  have V_b1 := V_b1.ext E3
  have Zn3 : n0 ≤ h3.size := Nat.le_trans Zn1 E3.1
  have K3 := K1.ext E3
  have E_b3 : Exa Z h3 b3 "[J" := B3
  have V_b3 : Arv Z h3 b3 k3 .long (2 : Int32) [(.long (0 : Int64)), (.long (0 : Int64))] (.long (0 : Int64)) := (Arv.new A3 (by decide)).pad (pad_rep [] (.long (0 : Int64)) 2)
  refine Goes.st (B := T3.setTop (mkF m 11 #[iv x0, iv x1, iv (2 : Int32), rv b1, .unset, .unset] [(.ref b3)])) st3 ?_
  refine Goes.run X3 hx hown hci hcl hby (L := [(11, .astore 4, 2), (13, .iconst 0, 1), (14, .istore 5, 2), (16, .iload 5, 2), (18, .aload_n 3, 1)]) (by decide +kernel) rfl (g' := (mkF m 19 #[iv x0, iv x1, iv (2 : Int32), rv b1, rv b3, iv (0 : Int32)] [(.ref b1), (.int (0 : Int32))])) rfl ?_
  obtain ⟨cl4, Ar4, q4, S4, M4, Hs4, G4⟩ := id V_b1
  refine Goes.st (B := T3.setTop (mkF m 20 #[iv x0, iv x1, iv (2 : Int32), rv b1, rv b3, iv (0 : Int32)] [(.int (2 : Int32)), (.int (0 : Int32))])) (fun t k => ?_) ?_
  · refine X3.arraylength hx (cell := cl4) (by rw [e3]; exact Ar4.1) (State.isArrayOf_alike hZ.alike Ar4.2.1) (g := (mkF m 19 #[iv x0, iv x1, iv (2 : Int32), rv b1, rv b3, iv (0 : Int32)] [(.ref b1), (.int (0 : Int32))])) rfl (rest := [(.int (0 : Int32))]) rfl (hb hby d8_19) _ ?_
    rw [len_of S4 M4]
    exact k
  have hc20_5 : (0 : Int32) < (2 : Int32) := by decide
  refine Goes.st (B := T3.setTop (mkF m 23 #[iv x0, iv x1, iv (2 : Int32), rv b1, rv b3, iv (0 : Int32)] [])) (fun t k => ?_) ?_
  · refine XS.icmpNo X3.here hx rfl (hb hby d8_20) rfl (tlt hc20_5).2.1 ?_
    exact k
  refine Goes.run X3 hx hown hci hcl hby (L := [(23, .aload 4, 2), (25, .iload 5, 2), (27, .aload_n 3, 1), (28, .iload 5, 2)]) (by decide +kernel) rfl (g' := (mkF m 30 #[iv x0, iv x1, iv (2 : Int32), rv b1, rv b3, iv (0 : Int32)] [(.int (0 : Int32)), (.ref b1), (.int (0 : Int32)), (.ref b3)])) rfl ?_
  obtain ⟨cl6, Ar6, q6, S6, M6, Hs6, G6⟩ := id V_b1
  have hin6 : ¬ ((0 : Int32) < 0 ∨ cl6.slots.size ≤ ((0 : Int32)).toNatClampNeg) := inb_of S6 ⟨(by decide), (by decide)⟩
  have hat6 : cl6.slots[((0 : Int32)).toNatClampNeg]? = some (.int x1) := Hs6.at hin6 rfl
  refine Goes.st (B := T3.setTop (mkF m 31 #[iv x0, iv x1, iv (2 : Int32), rv b1, rv b3, iv (0 : Int32)] [(.int x1), (.int (0 : Int32)), (.ref b3)])) (X3.iaload hx (j := (0 : Int32)) (v := (.int x1)) (by rw [e3]; exact Ar6.1) (State.isArrayOf_alike hZ.alike Ar6.2.1) Ar6.2.2 hin6 hat6 (g := (mkF m 30 #[iv x0, iv x1, iv (2 : Int32), rv b1, rv b3, iv (0 : Int32)] [(.int (0 : Int32)), (.ref b1), (.int (0 : Int32)), (.ref b3)])) rfl rfl (hb hby d8_30)) ?_
  obtain ⟨_, _, ⟨T7, L7, k7, n7⟩, -, X7, ⟨Lc7, hQ7, l7, y7, z7⟩, st7⟩ := Jvm.LawKit.callS X3 hx (y := ym3) hown (mvT hZ w_19) (mvT hZ w_20) (mvT hZ w_7) (mvT hZ w_21) (by decide) (backOf (W := 2) (rm5 l Z a0 hw [] x1 h3 n0 Zn3 ) hZ w_21 w_7 (by decide) (by decide)) (g := (mkF m 31 #[iv x0, iv x1, iv (2 : Int32), rv b1, rv b3, iv (0 : Int32)] [(.int x1), (.int (0 : Int32)), (.ref b3)])) rfl (by rw [hml]; rfl) (argsL := [(.int x1)]) (rest := [(.int (0 : Int32)), (.ref b3)]) (lenOf pd92_1 rfl) rfl (by show 2 * 0 + _ ≤ _; exact Nat.le_of_eq rfl) (hb hby d8_31) (fun _ _ => ⟨rfl, e3, (by decide : 2 + 0 ≤ _), (by decide : 10 + 0 ≤ _)⟩)
  dsimp only [Pt.U, Pt.locs, Pt.cells, Pt.slots] at X7 l7 y7 z7 st7 hQ7
  subst l7 y7 z7
  obtain ⟨rfl, N7q, e7⟩ := hQ7
  have N7 := Fr.app N1 N7q
  refine Goes.st (B := T7.setTop (mkF m 34 #[iv x0, iv x1, iv (2 : Int32), rv b1, rv b3, iv (0 : Int32)] [(.long (r5 x1)), (.int (0 : Int32)), (.ref b3)])) st7 ?_
  refine Goes.run X7 hx hown hci hcl hby (L := [(34, .iload 5, 2), (36, .iconst 1, 1), (37, .iadd, 1), (38, .aload_n 3, 1)]) (by decide +kernel) rfl (g' := (mkF m 39 #[iv x0, iv x1, iv (2 : Int32), rv b1, rv b3, iv (0 : Int32)] [(.ref b1), (.int (1 : Int32)), (.long (r5 x1)), (.int (0 : Int32)), (.ref b3)])) rfl ?_
  obtain ⟨cl8, Ar8, q8, S8, M8, Hs8, G8⟩ := id V_b1
  refine Goes.st (B := T7.setTop (mkF m 40 #[iv x0, iv x1, iv (2 : Int32), rv b1, rv b3, iv (0 : Int32)] [(.int (2 : Int32)), (.int (1 : Int32)), (.long (r5 x1)), (.int (0 : Int32)), (.ref b3)])) (fun t k => ?_) ?_
  · refine X7.arraylength hx (cell := cl8) (by rw [e7]; exact Ar8.1) (State.isArrayOf_alike hZ.alike Ar8.2.1) (g := (mkF m 39 #[iv x0, iv x1, iv (2 : Int32), rv b1, rv b3, iv (0 : Int32)] [(.ref b1), (.int (1 : Int32)), (.long (r5 x1)), (.int (0 : Int32)), (.ref b3)])) rfl (rest := [(.int (1 : Int32)), (.long (r5 x1)), (.int (0 : Int32)), (.ref b3)]) rfl (hb hby d8_39) _ ?_
    rw [len_of S8 M8]
    exact k
  have hc40_9 : (1 : Int32) < (2 : Int32) := by decide
  refine Goes.st (B := T7.setTop (mkF m 43 #[iv x0, iv x1, iv (2 : Int32), rv b1, rv b3, iv (0 : Int32)] [(.long (r5 x1)), (.int (0 : Int32)), (.ref b3)])) (fun t k => ?_) ?_
  · refine XS.icmpNo X7.here hx rfl (hb hby d8_40) rfl (tlt hc40_9).2.1 ?_
    exact k
  refine Goes.run X7 hx hown hci hcl hby (L := [(43, .iload_n 0, 1), (44, .aload_n 3, 1), (45, .iload 5, 2), (47, .iconst 1, 1), (48, .iadd, 1)]) (by decide +kernel) rfl (g' := (mkF m 49 #[iv x0, iv x1, iv (2 : Int32), rv b1, rv b3, iv (0 : Int32)] [(.int (1 : Int32)), (.ref b1), (.int x0), (.long (r5 x1)), (.int (0 : Int32)), (.ref b3)])) rfl ?_
  obtain ⟨cl10, Ar10, q10, S10, M10, Hs10, G10⟩ := id V_b1
  have hin10 : ¬ ((1 : Int32) < 0 ∨ cl10.slots.size ≤ ((1 : Int32)).toNatClampNeg) := inb_of S10 ⟨(by decide), (by decide)⟩
  have hat10 : cl10.slots[((1 : Int32)).toNatClampNeg]? = some (.int x0) := Hs10.at hin10 rfl
  refine Goes.st (B := T7.setTop (mkF m 50 #[iv x0, iv x1, iv (2 : Int32), rv b1, rv b3, iv (0 : Int32)] [(.int x0), (.int x0), (.long (r5 x1)), (.int (0 : Int32)), (.ref b3)])) (X7.iaload hx (j := (1 : Int32)) (v := (.int x0)) (by rw [e7]; exact Ar10.1) (State.isArrayOf_alike hZ.alike Ar10.2.1) Ar10.2.2 hin10 hat10 (g := (mkF m 49 #[iv x0, iv x1, iv (2 : Int32), rv b1, rv b3, iv (0 : Int32)] [(.int (1 : Int32)), (.ref b1), (.int x0), (.long (r5 x1)), (.int (0 : Int32)), (.ref b3)])) rfl rfl (hb hby d8_49)) ?_
  obtain ⟨_, _, ⟨T11, L11, k11, n11⟩, -, X11, ⟨Lc11, hQ11, l11, y11, z11⟩, st11⟩ := Jvm.LawKit.callS X7 hx (y := ym5) hown (mvT hZ w_27) (mvT hZ w_28) (mvT hZ w_7) (mvT hZ w_29) (by decide) (backOf (W := 4) (rm7 l Z a0 hw [] x0 x0 h3 n0 Zn3 (by first | assumption | exact p1 | exact p2)) hZ w_29 w_7 (by decide) (by decide)) (g := (mkF m 50 #[iv x0, iv x1, iv (2 : Int32), rv b1, rv b3, iv (0 : Int32)] [(.int x0), (.int x0), (.long (r5 x1)), (.int (0 : Int32)), (.ref b3)])) rfl (by rw [hml]; rfl) (argsL := [(.int x0), (.int x0)]) (rest := [(.long (r5 x1)), (.int (0 : Int32)), (.ref b3)]) (lenOf pd92_2 rfl) rfl (by show 2 * 0 + _ ≤ _; exact Nat.le_of_eq rfl) (hb hby d8_50) (fun _ _ => ⟨rfl, e7, (by decide : 2 + 0 ≤ _), (by decide : 10 + 0 ≤ _)⟩)
  dsimp only [Pt.U, Pt.locs, Pt.cells, Pt.slots] at X11 l11 y11 z11 st11 hQ11
  subst l11 y11 z11
  obtain ⟨rfl, N11q, e11⟩ := hQ11
  have N11 := Fr.app N7 N11q
  refine Goes.st (B := T11.setTop (mkF m 53 #[iv x0, iv x1, iv (2 : Int32), rv b1, rv b3, iv (0 : Int32)] [(.long (r7 x0 x0)), (.long (r5 x1)), (.int (0 : Int32)), (.ref b3)])) st11 ?_
  refine Goes.run X11 hx hown hci hcl hby (L := [(53, .goto 4, 3), (57, .ladd, 1)]) (by decide +kernel) rfl (g' := (mkF m 58 #[iv x0, iv x1, iv (2 : Int32), rv b1, rv b3, iv (0 : Int32)] [(.long ((r5 x1) + (r7 x0 x0))), (.int (0 : Int32)), (.ref b3)])) rfl ?_
  obtain ⟨cl12, Ar12, q12, S12, M12, Hs12, G12⟩ := id V_b3
  have hin12 : ¬ ((0 : Int32) < 0 ∨ cl12.slots.size ≤ ((0 : Int32)).toNatClampNeg) := inb_of S12 ⟨(by decide), (by decide)⟩
  obtain ⟨T12, h12, X12, e12, W12, st12⟩ := stJ X11 hx hZ e11 Ar12 (j := (0 : Int32)) hin12 (g := (mkF m 58 #[iv x0, iv x1, iv (2 : Int32), rv b1, rv b3, iv (0 : Int32)] [(.long ((r5 x1) + (r7 x0 x0))), (.int (0 : Int32)), (.ref b3)])) rfl rfl (hb hby d8_58)
  have E_b1 := E_b1.wr W12
  have V_b1 := V_b1.other W12 ne_b1_b3
  have E_b3 := E_b3.wr W12
  have Zn12 : n0 ≤ h12.size := Nat.le_trans Zn3 (Keep.of_wr W12).1
  have K12 := K3.wr W12 (Or.inr sz_b3)
  have N12 := Fr.snoc X12 N11 g_b3
  have V_b3 : Arv Z h12 b3 k3 .long (2 : Int32) [(.long ((r5 x1) + (r7 x0 x0))), (.long (0 : Int64))] (.long (0 : Int64)) := Arv.set Ar12 q12 S12 M12 Hs12 G12 rfl W12 0 rfl (Nat.le_of_ble_eq_true rfl)
  refine Goes.st (B := T12.setTop (mkF m 59 #[iv x0, iv x1, iv (2 : Int32), rv b1, rv b3, iv (0 : Int32)] [])) st12 ?_
  refine Goes.run X12 hx hown hci hcl hby (L := [(59, .iinc 5 1, 3), (62, .goto (-46), 3), (16, .iload 5, 2), (18, .aload_n 3, 1)]) (by decide +kernel) rfl (g' := (mkF m 19 #[iv x0, iv x1, iv (2 : Int32), rv b1, rv b3, iv (1 : Int32)] [(.ref b1), (.int (1 : Int32))])) rfl ?_
  obtain ⟨cl13, Ar13, q13, S13, M13, Hs13, G13⟩ := id V_b1
  refine Goes.st (B := T12.setTop (mkF m 20 #[iv x0, iv x1, iv (2 : Int32), rv b1, rv b3, iv (1 : Int32)] [(.int (2 : Int32)), (.int (1 : Int32))])) (fun t k => ?_) ?_
  · refine X12.arraylength hx (cell := cl13) (by rw [e12]; exact Ar13.1) (State.isArrayOf_alike hZ.alike Ar13.2.1) (g := (mkF m 19 #[iv x0, iv x1, iv (2 : Int32), rv b1, rv b3, iv (1 : Int32)] [(.ref b1), (.int (1 : Int32))])) rfl (rest := [(.int (1 : Int32))]) rfl (hb hby d8_19) _ ?_
    rw [len_of S13 M13]
    exact k
  have hc20_14 : (1 : Int32) < (2 : Int32) := by decide
  refine Goes.st (B := T12.setTop (mkF m 23 #[iv x0, iv x1, iv (2 : Int32), rv b1, rv b3, iv (1 : Int32)] [])) (fun t k => ?_) ?_
  · refine XS.icmpNo X12.here hx rfl (hb hby d8_20) rfl (tlt hc20_14).2.1 ?_
    exact k
  refine Goes.run X12 hx hown hci hcl hby (L := [(23, .aload 4, 2), (25, .iload 5, 2), (27, .aload_n 3, 1), (28, .iload 5, 2)]) (by decide +kernel) rfl (g' := (mkF m 30 #[iv x0, iv x1, iv (2 : Int32), rv b1, rv b3, iv (1 : Int32)] [(.int (1 : Int32)), (.ref b1), (.int (1 : Int32)), (.ref b3)])) rfl ?_
  obtain ⟨cl15, Ar15, q15, S15, M15, Hs15, G15⟩ := id V_b1
  have hin15 : ¬ ((1 : Int32) < 0 ∨ cl15.slots.size ≤ ((1 : Int32)).toNatClampNeg) := inb_of S15 ⟨(by decide), (by decide)⟩
  have hat15 : cl15.slots[((1 : Int32)).toNatClampNeg]? = some (.int x0) := Hs15.at hin15 rfl
  refine Goes.st (B := T12.setTop (mkF m 31 #[iv x0, iv x1, iv (2 : Int32), rv b1, rv b3, iv (1 : Int32)] [(.int x0), (.int (1 : Int32)), (.ref b3)])) (X12.iaload hx (j := (1 : Int32)) (v := (.int x0)) (by rw [e12]; exact Ar15.1) (State.isArrayOf_alike hZ.alike Ar15.2.1) Ar15.2.2 hin15 hat15 (g := (mkF m 30 #[iv x0, iv x1, iv (2 : Int32), rv b1, rv b3, iv (1 : Int32)] [(.int (1 : Int32)), (.ref b1), (.int (1 : Int32)), (.ref b3)])) rfl rfl (hb hby d8_30)) ?_
  obtain ⟨_, _, ⟨T16, L16, k16, n16⟩, -, X16, ⟨Lc16, hQ16, l16, y16, z16⟩, st16⟩ := Jvm.LawKit.callS X12 hx (y := ym3) hown (mvT hZ w_19) (mvT hZ w_20) (mvT hZ w_7) (mvT hZ w_21) (by decide) (backOf (W := 2) (rm5 l Z a0 hw [] x0 h12 n0 Zn12 ) hZ w_21 w_7 (by decide) (by decide)) (g := (mkF m 31 #[iv x0, iv x1, iv (2 : Int32), rv b1, rv b3, iv (1 : Int32)] [(.int x0), (.int (1 : Int32)), (.ref b3)])) rfl (by rw [hml]; rfl) (argsL := [(.int x0)]) (rest := [(.int (1 : Int32)), (.ref b3)]) (lenOf pd92_1 rfl) rfl (by show 2 * 0 + _ ≤ _; exact Nat.le_of_eq rfl) (hb hby d8_31) (fun _ _ => ⟨rfl, e12, (by decide : 2 + 0 ≤ _), (by decide : 10 + 0 ≤ _)⟩)
  dsimp only [Pt.U, Pt.locs, Pt.cells, Pt.slots] at X16 l16 y16 z16 st16 hQ16
  subst l16 y16 z16
  obtain ⟨rfl, N16q, e16⟩ := hQ16
  have N16 := Fr.app N12 N16q
  refine Goes.st (B := T16.setTop (mkF m 34 #[iv x0, iv x1, iv (2 : Int32), rv b1, rv b3, iv (1 : Int32)] [(.long (r5 x0)), (.int (1 : Int32)), (.ref b3)])) st16 ?_
  refine Goes.run X16 hx hown hci hcl hby (L := [(34, .iload 5, 2), (36, .iconst 1, 1), (37, .iadd, 1), (38, .aload_n 3, 1)]) (by decide +kernel) rfl (g' := (mkF m 39 #[iv x0, iv x1, iv (2 : Int32), rv b1, rv b3, iv (1 : Int32)] [(.ref b1), (.int (2 : Int32)), (.long (r5 x0)), (.int (1 : Int32)), (.ref b3)])) rfl ?_
  obtain ⟨cl17, Ar17, q17, S17, M17, Hs17, G17⟩ := id V_b1
  refine Goes.st (B := T16.setTop (mkF m 40 #[iv x0, iv x1, iv (2 : Int32), rv b1, rv b3, iv (1 : Int32)] [(.int (2 : Int32)), (.int (2 : Int32)), (.long (r5 x0)), (.int (1 : Int32)), (.ref b3)])) (fun t k => ?_) ?_
  · refine X16.arraylength hx (cell := cl17) (by rw [e16]; exact Ar17.1) (State.isArrayOf_alike hZ.alike Ar17.2.1) (g := (mkF m 39 #[iv x0, iv x1, iv (2 : Int32), rv b1, rv b3, iv (1 : Int32)] [(.ref b1), (.int (2 : Int32)), (.long (r5 x0)), (.int (1 : Int32)), (.ref b3)])) rfl (rest := [(.int (2 : Int32)), (.long (r5 x0)), (.int (1 : Int32)), (.ref b3)]) rfl (hb hby d8_39) _ ?_
    rw [len_of S17 M17]
    exact k
  have hc40_18 : ¬ ((2 : Int32) < (2 : Int32)) := Int32.lt_irrefl
  refine Goes.st (B := T16.setTop (mkF m 56 #[iv x0, iv x1, iv (2 : Int32), rv b1, rv b3, iv (1 : Int32)] [(.long (r5 x0)), (.int (1 : Int32)), (.ref b3)])) (fun t k => ?_) ?_
  · refine XS.icmpYes X16.here hx rfl (pc0 := 40) (pc' := 56) rfl (hb hby d8_40) rfl (flt hc40_18).2.1 (by decide) (by decide) ?_
    exact k
  refine Goes.run X16 hx hown hci hcl hby (L := [(56, .lconst 0, 1), (57, .ladd, 1)]) (by decide +kernel) rfl (g' := (mkF m 58 #[iv x0, iv x1, iv (2 : Int32), rv b1, rv b3, iv (1 : Int32)] [(.long ((r5 x0) + (0 : Int64))), (.int (1 : Int32)), (.ref b3)])) rfl ?_
  obtain ⟨cl19, Ar19, q19, S19, M19, Hs19, G19⟩ := id V_b3
  have hin19 : ¬ ((1 : Int32) < 0 ∨ cl19.slots.size ≤ ((1 : Int32)).toNatClampNeg) := inb_of S19 ⟨(by decide), (by decide)⟩
  obtain ⟨T19, h19, X19, e19, W19, st19⟩ := stJ X16 hx hZ e16 Ar19 (j := (1 : Int32)) hin19 (g := (mkF m 58 #[iv x0, iv x1, iv (2 : Int32), rv b1, rv b3, iv (1 : Int32)] [(.long ((r5 x0) + (0 : Int64))), (.int (1 : Int32)), (.ref b3)])) rfl rfl (hb hby d8_58)
  have E_b1 := E_b1.wr W19
  have V_b1 := V_b1.other W19 ne_b1_b3
  have E_b3 := E_b3.wr W19
  have Zn19 : n0 ≤ h19.size := Nat.le_trans Zn12 (Keep.of_wr W19).1
  have K19 := K12.wr W19 (Or.inr sz_b3)
  have N19 := Fr.snoc X19 N16 g_b3
  have V_b3 : Arv Z h19 b3 k3 .long (2 : Int32) [(.long ((r5 x1) + (r7 x0 x0))), (.long ((r5 x0) + (0 : Int64)))] (.long (0 : Int64)) := Arv.set Ar19 q19 S19 M19 Hs19 G19 rfl W19 1 rfl (Nat.le_of_ble_eq_true rfl)
  refine Goes.st (B := T19.setTop (mkF m 59 #[iv x0, iv x1, iv (2 : Int32), rv b1, rv b3, iv (1 : Int32)] [])) st19 ?_
  refine Goes.run X19 hx hown hci hcl hby (L := [(59, .iinc 5 1, 3), (62, .goto (-46), 3), (16, .iload 5, 2), (18, .aload_n 3, 1)]) (by decide +kernel) rfl (g' := (mkF m 19 #[iv x0, iv x1, iv (2 : Int32), rv b1, rv b3, iv (2 : Int32)] [(.ref b1), (.int (2 : Int32))])) rfl ?_
  obtain ⟨cl20, Ar20, q20, S20, M20, Hs20, G20⟩ := id V_b1
  refine Goes.st (B := T19.setTop (mkF m 20 #[iv x0, iv x1, iv (2 : Int32), rv b1, rv b3, iv (2 : Int32)] [(.int (2 : Int32)), (.int (2 : Int32))])) (fun t k => ?_) ?_
  · refine X19.arraylength hx (cell := cl20) (by rw [e19]; exact Ar20.1) (State.isArrayOf_alike hZ.alike Ar20.2.1) (g := (mkF m 19 #[iv x0, iv x1, iv (2 : Int32), rv b1, rv b3, iv (2 : Int32)] [(.ref b1), (.int (2 : Int32))])) rfl (rest := [(.int (2 : Int32))]) rfl (hb hby d8_19) _ ?_
    rw [len_of S20 M20]
    exact k
  have hc20_21 : ¬ ((2 : Int32) < (2 : Int32)) := Int32.lt_irrefl
  refine Goes.st (B := T19.setTop (mkF m 65 #[iv x0, iv x1, iv (2 : Int32), rv b1, rv b3, iv (2 : Int32)] [])) (fun t k => ?_) ?_
  · refine XS.icmpYes X19.here hx rfl (pc0 := 20) (pc' := 65) rfl (hb hby d8_20) rfl (flt hc20_21).2.1 (by decide) (by decide) ?_
    exact k
  refine Goes.run X19 hx hown hci hcl hby (L := [(65, .aload 4, 2)]) (by decide +kernel) rfl (g' := (mkF m 67 #[iv x0, iv x1, iv (2 : Int32), rv b1, rv b3, iv (2 : Int32)] [(.ref b3)])) rfl ?_
  refine Goes.retR X19 hx hlk Bd.returns rfl rfl (hb hby d8_67) ?_ (by decide) (by decide)
  show (Q92 Z x0 x1 h0 n0) _ _ _
  rw [e19]
  exact ⟨b3, k3, rfl, N19, K19, sz_b3, E_b3, V_b3⟩
theorem d7_86 : decode prog_4_method_19_code 86 = .ok (.iaload, 1) := by decide +kernel
theorem d7_88 : decode prog_4_method_19_code 88 = .ok (.iastore, 1) := by decide +kernel
theorem pn83 : plainName "com/example/eriu/eriu/algorithm/GroupElection" = true := by first | (simp [plainName, overriddenIn]; done) | decide +kernel
theorem pd83_0 : parseMethodDescriptor "(I)I" = some ⟨[.int], some .int⟩ := by decide +kernel
theorem ef83 (m : MethodId) (x0 : Int32) (x1 : Int32) : entryFrame m #[(.int x0), (.int x1), (.int (3 : Int32))] 5 = (mkF m 0 #[iv x0, iv x1, iv (3 : Int32), .unset, .unset] []) := by first | (simp [entryFrame, mkF, argsToLocals, Value.category]; done) | rfl
def Q83 (Z : State) (x0 : Int32) (x1 : Int32) (h0 : Heap) (n0 : Nat) (v : Option Value) (h : Heap) (L : List Loc) : Prop := ∃ (b : Addr) (k : ClassId), v = some (.ref b) ∧ Fr n0 L ∧ Keep h0 h [] ∧ h0.size ≤ b ∧ Exa Z h b "[I" ∧ Arv Z h b k .int (3 : Int32) [(.int x1), (.int ((2 : Int32) * x1)), (.int x0)] (.int (0 : Int32))
set_option maxRecDepth 65536 in
set_option maxHeartbeats 40000000 in
theorem rm83 (l : Launch) (Z : State) (a0 : Array Value) (hw : ∀ d ∈ tables_1, d.before a0 Z = true) (ws : List Jvm.Cond) (x0 : Int32) (x1 : Int32) (h0 : Heap) (n0 : Nat) (Z0 : n0 ≤ h0.size) (p1 : ¬ (x0 < (1 : Int32))) (p2 : ¬ (x1 < (1 : Int32))) (p4 : (1 : Int32) < (r3 x1)) :
    MetFree l ym6 (head1 (Jvm.Cond.code ym6 prog_4_method_19_code 5 (some (.array .int)) :: ws) ({ frames := 1, cells := 1, slots := 8, locals := 14 } : Room)) (fun a U => a = #[(.int x0), (.int x1), (.int (3 : Int32))] ∧ Z.Warmed39 U.vm ∧ U.heap = h0) (fun _ _ _ _ _ => True) (fun _ U o U' => ∃ v L, o = .returned v ∧ (Q83 Z x0 x1 h0 n0) v U'.heap L ∧ FrameEnd U o U' L ({ frames := 1, cells := 1, slots := 8, locals := 14 } : Room).cells ({ frames := 1, cells := 1, slots := 8, locals := 14 } : Room).slots) := by
  refine MetFree.of_bodySF (plainFor_of_name pn83) hisR ?_
  intro p e s m args below meth c s₁ Bd hml0 hP hK
  obtain ⟨rfl, hZ, hh⟩ := hP
  have hx := Bd.exec
  have hby := Bd.bytes
  have hml : c.maxLocals = 5 := hml0
  have hlk : meth.locks = false := BodyLoose.notSynchronized Bd
  have hown : s.vm.findClass "com/example/eriu/eriu/algorithm/GroupElection" = some m.cls := findClass_of_methodNamed Bd.named
  have hnm := (name_of_methodNamed Bd.named Bd.method).1
  have w_12 := hw _ (List.mem_of_getElem? (i := 12) rfl)
  have w_13 := hw _ (List.mem_of_getElem? (i := 13) rfl)
  have w_14 := hw _ (List.mem_of_getElem? (i := 14) rfl)
  have w_15 := hw _ (List.mem_of_getElem? (i := 15) rfl)
  have w_17 := hw _ (List.mem_of_getElem? (i := 17) rfl)
  have w_22 := hw _ (List.mem_of_getElem? (i := 22) rfl)
  have w_26 := hw _ (List.mem_of_getElem? (i := 26) rfl)
  have hci : ∀ i v, (i, v) ∈ ([] : List (Nat × Int32)) → (Jvm.Cond.constant "com/example/eriu/eriu/algorithm/GroupElection" i v).before #[(.int x0), (.int x1), (.int (3 : Int32))] s = true := own_ci0
  have hcl : ∀ i v, (i, v) ∈ ([(215, 2), (236, 3)] : List (Nat × Int64)) → (Jvm.Cond.constantLong "com/example/eriu/eriu/algorithm/GroupElection" i v).before #[(.int x0), (.int x1), (.int (3 : Int32))] s = true := (own_ciS (mvT hZ w_22) (own_ciS (mvT hZ w_26) own_ci0))
  have X0 : Stand p l e ({ frames := 1, cells := 1, slots := 8, locals := 14 } : Room) s m #[(.int x0), (.int x1), (.int (3 : Int32))] below meth c s₁ [] 0 0 := Stand.of_body Bd
  have e0 : s₁.heap = h0 := by rw [← hh, Bd.state]; rfl
  have N0 := Fr.nil n0
  show Goes p e below s (Q83 Z x0 x1 h0 n0) ({ frames := 1, cells := 1, slots := 8, locals := 14 } : Room).cells ({ frames := 1, cells := 1, slots := 8, locals := 14 } : Room).slots (s₁.setTop (entryFrame m #[(.int x0), (.int x1), (.int (3 : Int32))] 5))
  refine Goes.cast (ef83 m x0 x1) ?_
  have K0 : Keep h0 h0 [] := Keep.refl h0 _
  refine Goes.run X0 hx hown hci hcl hby (L := [(0, .iload_n 0, 1), (1, .iconst 1, 1)]) (by decide +kernel) rfl (g' := (mkF m 2 #[iv x0, iv x1, iv (3 : Int32), .unset, .unset] [(.int (1 : Int32)), (.int x0)])) rfl ?_
  have hc2_1 : ¬ (x0 < (1 : Int32)) := p1
  refine Goes.st (B := s₁.setTop (mkF m 5 #[iv x0, iv x1, iv (3 : Int32), .unset, .unset] [])) (fun t k => ?_) ?_
  · refine XS.icmpNo X0.here hx rfl (hb hby d7_2) rfl (flt hc2_1).1 ?_
    exact k
  refine Goes.run X0 hx hown hci hcl hby (L := [(5, .iload_n 1, 1), (6, .iconst 1, 1)]) (by decide +kernel) rfl (g' := (mkF m 7 #[iv x0, iv x1, iv (3 : Int32), .unset, .unset] [(.int (1 : Int32)), (.int x1)])) rfl ?_
  have hc7_2 : ¬ (x1 < (1 : Int32)) := p2
  refine Goes.st (B := s₁.setTop (mkF m 10 #[iv x0, iv x1, iv (3 : Int32), .unset, .unset] [])) (fun t k => ?_) ?_
  · refine XS.icmpNo X0.here hx rfl (hb hby d7_7) rfl (flt hc7_2).1 ?_
    exact k
  refine Goes.run X0 hx hown hci hcl hby (L := [(10, .iload_n 2, 1), (11, .iconst 1, 1)]) (by decide +kernel) rfl (g' := (mkF m 12 #[iv x0, iv x1, iv (3 : Int32), .unset, .unset] [(.int (1 : Int32)), (.int (3 : Int32))])) rfl ?_
  have hc12_3 : ¬ ((3 : Int32) < (1 : Int32)) := by decide
  refine Goes.st (B := s₁.setTop (mkF m 31 #[iv x0, iv x1, iv (3 : Int32), .unset, .unset] [])) (fun t k => ?_) ?_
  · refine XS.icmpYes X0.here hx rfl (pc0 := 12) (pc' := 31) rfl (hb hby d7_12) rfl (flt hc12_3).2.1 (by decide) (by decide) ?_
    exact k
  refine Goes.run X0 hx hown hci hcl hby (L := [(31, .iload_n 2, 1), (32, .iconst 2, 1), (33, .isub, 1), (34, .iload_n 1, 1)]) (by decide +kernel) rfl (g' := (mkF m 35 #[iv x0, iv x1, iv (3 : Int32), .unset, .unset] [(.int x1), (.int (1 : Int32))])) rfl ?_
  obtain ⟨_, _, ⟨T4, L4, k4, n4⟩, -, X4, ⟨Lc4, hQ4, l4, y4, z4⟩, st4⟩ := Jvm.LawKit.callS X0 hx (y := ym1) hown (mvT hZ w_12) (mvT hZ w_13) (mvT hZ w_14) (mvT hZ w_15) (by decide) (backOf (W := 1) (rm3 l Z a0 hw [] x1 h0 n0 Z0 ) hZ w_15 w_14 (by decide) (by decide)) (g := (mkF m 35 #[iv x0, iv x1, iv (3 : Int32), .unset, .unset] [(.int x1), (.int (1 : Int32))])) rfl (by rw [hml]; rfl) (argsL := [(.int x1)]) (rest := [(.int (1 : Int32))]) (lenOf pd83_0 rfl) rfl (by show 2 * 0 + _ ≤ _; exact Nat.le_of_eq rfl) (hb hby d7_35) (fun _ _ => ⟨rfl, e0, (by decide : 0 + 0 ≤ _), (by decide : 0 + 0 ≤ _)⟩)
  dsimp only [Pt.U, Pt.locs, Pt.cells, Pt.slots] at X4 l4 y4 z4 st4 hQ4
  subst l4 y4 z4
  obtain ⟨rfl, N4q, e4⟩ := hQ4
  have N4 := Fr.app N0 N4q
  refine Goes.st (B := T4.setTop (mkF m 38 #[iv x0, iv x1, iv (3 : Int32), .unset, .unset] [(.int (r3 x1)), (.int (1 : Int32))])) st4 ?_
  have hc38_5 : (1 : Int32) < (r3 x1) := p4
  refine Goes.st (B := T4.setTop (mkF m 58 #[iv x0, iv x1, iv (3 : Int32), .unset, .unset] [])) (fun t k => ?_) ?_
  · refine XS.icmpYes X4.here hx rfl (pc0 := 38) (pc' := 58) rfl (hb hby d7_38) rfl (tlt hc38_5).1 (by decide) (by decide) ?_
    exact k
  refine Goes.run X4 hx hown hci hcl hby (L := [(58, .iload_n 2, 1)]) (by decide +kernel) rfl (g' := (mkF m 59 #[iv x0, iv x1, iv (3 : Int32), .unset, .unset] [(.int (3 : Int32))])) rfl ?_
  obtain ⟨T6, h6, k6, X6, e6, E6, A6, B6, st6⟩ := newPE X4 hx hZ (aty := .int) w_17 e4 (g := (mkF m 59 #[iv x0, iv x1, iv (3 : Int32), .unset, .unset] [(.int (3 : Int32))])) rfl (hb hby d7_59) rfl (by decide) (cap := 3) (by decide) (by decide) (by decide) (by decide) (ad := "[I") (by decide)
  obtain ⟨b6, g6⟩ : ∃ z, z = h0.size := ⟨_, rfl⟩
  rw [← g6] at A6 B6 st6
  have g_b6 : n0 ≤ b6 := Nat.le_trans Z0 (Nat.le_of_eq g6.symm)
  have sz_b6 : h0.size ≤ b6 := Nat.le_trans K0.1 (Nat.le_of_eq g6.symm)
  have Zn6 : n0 ≤ h6.size := Nat.le_trans Z0 E6.1
  have K6 := K0.ext E6
  have E_b6 : Exa Z h6 b6 "[I" := B6
  have V_b6 : Arv Z h6 b6 k6 .int (3 : Int32) [(.int (0 : Int32)), (.int (0 : Int32)), (.int (0 : Int32))] (.int (0 : Int32)) := (Arv.new A6 (by decide)).pad (pad_rep [] (.int (0 : Int32)) 3)
  refine Goes.st (B := T6.setTop (mkF m 61 #[iv x0, iv x1, iv (3 : Int32), .unset, .unset] [(.ref b6)])) st6 ?_
  refine Goes.run X6 hx hown hci hcl hby (L := [(61, .astore_n 3, 1), (62, .aload_n 3, 1), (63, .iconst 0, 1), (64, .iload_n 1, 1)]) (by decide +kernel) rfl (g' := (mkF m 65 #[iv x0, iv x1, iv (3 : Int32), rv b6, .unset] [(.int x1), (.int (0 : Int32)), (.ref b6)])) rfl ?_
  obtain ⟨cl7, Ar7, q7, S7, M7, Hs7, G7⟩ := id V_b6
  have hin7 : ¬ ((0 : Int32) < 0 ∨ cl7.slots.size ≤ ((0 : Int32)).toNatClampNeg) := inb_of S7 ⟨(by decide), (by decide)⟩
  obtain ⟨T7, h7, X7, e7, W7, st7⟩ := stI X6 hx hZ e6 Ar7 (j := (0 : Int32)) hin7 (g := (mkF m 65 #[iv x0, iv x1, iv (3 : Int32), rv b6, .unset] [(.int x1), (.int (0 : Int32)), (.ref b6)])) rfl rfl (hb hby d7_65)
  have E_b6 := E_b6.wr W7
  have Zn7 : n0 ≤ h7.size := Nat.le_trans Zn6 (Keep.of_wr W7).1
  have K7 := K6.wr W7 (Or.inr sz_b6)
  have N7 := Fr.snoc X7 N4 g_b6
  have V_b6 : Arv Z h7 b6 k6 .int (3 : Int32) [(.int x1), (.int (0 : Int32)), (.int (0 : Int32))] (.int (0 : Int32)) := Arv.set Ar7 q7 S7 M7 Hs7 G7 rfl W7 0 rfl (Nat.le_of_ble_eq_true rfl)
  refine Goes.st (B := T7.setTop (mkF m 66 #[iv x0, iv x1, iv (3 : Int32), rv b6, .unset] [])) st7 ?_
  refine Goes.run X7 hx hown hci hcl hby (L := [(66, .iconst 1, 1), (67, .istore 4, 2), (69, .iload 4, 2), (71, .iload_n 2, 1), (72, .iconst 1, 1), (73, .isub, 1)]) (by decide +kernel) rfl (g' := (mkF m 74 #[iv x0, iv x1, iv (3 : Int32), rv b6, iv (1 : Int32)] [(.int (2 : Int32)), (.int (1 : Int32))])) rfl ?_
  have hc74_8 : (1 : Int32) < (2 : Int32) := by decide
  refine Goes.st (B := T7.setTop (mkF m 77 #[iv x0, iv x1, iv (3 : Int32), rv b6, iv (1 : Int32)] [])) (fun t k => ?_) ?_
  · refine XS.icmpNo X7.here hx rfl (hb hby d7_74) rfl (tlt hc74_8).2.1 ?_
    exact k
  refine Goes.run X7 hx hown hci hcl hby (L := [(77, .aload_n 3, 1), (78, .iload 4, 2), (80, .iconst 2, 1), (81, .aload_n 3, 1), (82, .iload 4, 2), (84, .iconst 1, 1)]) (by decide +kernel) rfl (g' := (mkF m 85 #[iv x0, iv x1, iv (3 : Int32), rv b6, iv (1 : Int32)] [(.int (1 : Int32)), (.int (1 : Int32)), (.ref b6), (.int (2 : Int32)), (.int (1 : Int32)), (.ref b6)])) rfl ?_
  refine Goes.run X7 hx hown hci hcl hby (L := [(85, .isub, 1)]) (by decide +kernel) rfl (g' := (mkF m 86 #[iv x0, iv x1, iv (3 : Int32), rv b6, iv (1 : Int32)] [(.int (0 : Int32)), (.ref b6), (.int (2 : Int32)), (.int (1 : Int32)), (.ref b6)])) rfl ?_
  obtain ⟨cl9, Ar9, q9, S9, M9, Hs9, G9⟩ := id V_b6
  have hin9 : ¬ ((0 : Int32) < 0 ∨ cl9.slots.size ≤ ((0 : Int32)).toNatClampNeg) := inb_of S9 ⟨(by decide), (by decide)⟩
  have hat9 : cl9.slots[((0 : Int32)).toNatClampNeg]? = some (.int x1) := Hs9.at hin9 rfl
  refine Goes.st (B := T7.setTop (mkF m 87 #[iv x0, iv x1, iv (3 : Int32), rv b6, iv (1 : Int32)] [(.int x1), (.int (2 : Int32)), (.int (1 : Int32)), (.ref b6)])) (X7.iaload hx (j := (0 : Int32)) (v := (.int x1)) (by rw [e7]; exact Ar9.1) (State.isArrayOf_alike hZ.alike Ar9.2.1) Ar9.2.2 hin9 hat9 (g := (mkF m 86 #[iv x0, iv x1, iv (3 : Int32), rv b6, iv (1 : Int32)] [(.int (0 : Int32)), (.ref b6), (.int (2 : Int32)), (.int (1 : Int32)), (.ref b6)])) rfl rfl (hb hby d7_86)) ?_
  refine Goes.run X7 hx hown hci hcl hby (L := [(87, .imul, 1)]) (by decide +kernel) rfl (g' := (mkF m 88 #[iv x0, iv x1, iv (3 : Int32), rv b6, iv (1 : Int32)] [(.int ((2 : Int32) * x1)), (.int (1 : Int32)), (.ref b6)])) rfl ?_
  obtain ⟨cl10, Ar10, q10, S10, M10, Hs10, G10⟩ := id V_b6
  have hin10 : ¬ ((1 : Int32) < 0 ∨ cl10.slots.size ≤ ((1 : Int32)).toNatClampNeg) := inb_of S10 ⟨(by decide), (by decide)⟩
  obtain ⟨T10, h10, X10, e10, W10, st10⟩ := stI X7 hx hZ e7 Ar10 (j := (1 : Int32)) hin10 (g := (mkF m 88 #[iv x0, iv x1, iv (3 : Int32), rv b6, iv (1 : Int32)] [(.int ((2 : Int32) * x1)), (.int (1 : Int32)), (.ref b6)])) rfl rfl (hb hby d7_88)
  have E_b6 := E_b6.wr W10
  have Zn10 : n0 ≤ h10.size := Nat.le_trans Zn7 (Keep.of_wr W10).1
  have K10 := K7.wr W10 (Or.inr sz_b6)
  have N10 := Fr.snoc X10 N7 g_b6
  have V_b6 : Arv Z h10 b6 k6 .int (3 : Int32) [(.int x1), (.int ((2 : Int32) * x1)), (.int (0 : Int32))] (.int (0 : Int32)) := Arv.set Ar10 q10 S10 M10 Hs10 G10 rfl W10 1 rfl (Nat.le_of_ble_eq_true rfl)
  refine Goes.st (B := T10.setTop (mkF m 89 #[iv x0, iv x1, iv (3 : Int32), rv b6, iv (1 : Int32)] [])) st10 ?_
  refine Goes.run X10 hx hown hci hcl hby (L := [(89, .iinc 4 1, 3), (92, .goto (-23), 3), (69, .iload 4, 2), (71, .iload_n 2, 1), (72, .iconst 1, 1), (73, .isub, 1)]) (by decide +kernel) rfl (g' := (mkF m 74 #[iv x0, iv x1, iv (3 : Int32), rv b6, iv (2 : Int32)] [(.int (2 : Int32)), (.int (2 : Int32))])) rfl ?_
  have hc74_11 : ¬ ((2 : Int32) < (2 : Int32)) := Int32.lt_irrefl
  refine Goes.st (B := T10.setTop (mkF m 95 #[iv x0, iv x1, iv (3 : Int32), rv b6, iv (2 : Int32)] [])) (fun t k => ?_) ?_
  · refine XS.icmpYes X10.here hx rfl (pc0 := 74) (pc' := 95) rfl (hb hby d7_74) rfl (flt hc74_11).2.1 (by decide) (by decide) ?_
    exact k
  refine Goes.run X10 hx hown hci hcl hby (L := [(95, .iload_n 2, 1), (96, .iconst 1, 1)]) (by decide +kernel) rfl (g' := (mkF m 97 #[iv x0, iv x1, iv (3 : Int32), rv b6, iv (2 : Int32)] [(.int (1 : Int32)), (.int (3 : Int32))])) rfl ?_
  have hc97_12 : (1 : Int32) < (3 : Int32) := by decide
  refine Goes.st (B := T10.setTop (mkF m 100 #[iv x0, iv x1, iv (3 : Int32), rv b6, iv (2 : Int32)] [])) (fun t k => ?_) ?_
  · refine XS.icmpNo X10.here hx rfl (hb hby d7_97) rfl (tlt hc97_12).2.2.2 ?_
    exact k
  refine Goes.run X10 hx hown hci hcl hby (L := [(100, .aload_n 3, 1), (101, .iload_n 2, 1), (102, .iconst 1, 1), (103, .isub, 1), (104, .iload_n 0, 1)]) (by decide +kernel) rfl (g' := (mkF m 105 #[iv x0, iv x1, iv (3 : Int32), rv b6, iv (2 : Int32)] [(.int x0), (.int (2 : Int32)), (.ref b6)])) rfl ?_
  obtain ⟨cl13, Ar13, q13, S13, M13, Hs13, G13⟩ := id V_b6
  have hin13 : ¬ ((2 : Int32) < 0 ∨ cl13.slots.size ≤ ((2 : Int32)).toNatClampNeg) := inb_of S13 ⟨(by decide), (by decide)⟩
  obtain ⟨T13, h13, X13, e13, W13, st13⟩ := stI X10 hx hZ e10 Ar13 (j := (2 : Int32)) hin13 (g := (mkF m 105 #[iv x0, iv x1, iv (3 : Int32), rv b6, iv (2 : Int32)] [(.int x0), (.int (2 : Int32)), (.ref b6)])) rfl rfl (hb hby d7_105)
  have E_b6 := E_b6.wr W13
  have Zn13 : n0 ≤ h13.size := Nat.le_trans Zn10 (Keep.of_wr W13).1
  have K13 := K10.wr W13 (Or.inr sz_b6)
  have N13 := Fr.snoc X13 N10 g_b6
  have V_b6 : Arv Z h13 b6 k6 .int (3 : Int32) [(.int x1), (.int ((2 : Int32) * x1)), (.int x0)] (.int (0 : Int32)) := Arv.set Ar13 q13 S13 M13 Hs13 G13 rfl W13 2 rfl (Nat.le_of_ble_eq_true rfl)
  refine Goes.st (B := T13.setTop (mkF m 106 #[iv x0, iv x1, iv (3 : Int32), rv b6, iv (2 : Int32)] [])) st13 ?_
  refine Goes.run X13 hx hown hci hcl hby (L := [(106, .aload_n 3, 1)]) (by decide +kernel) rfl (g' := (mkF m 107 #[iv x0, iv x1, iv (3 : Int32), rv b6, iv (2 : Int32)] [(.ref b6)])) rfl ?_
  refine Goes.retR X13 hx hlk Bd.returns rfl rfl (hb hby d7_107) ?_ (by decide) (by decide)
  show (Q83 Z x0 x1 h0 n0) _ _ _
  rw [e13]
  exact ⟨b6, k6, rfl, N13, K13, sz_b6, E_b6, V_b6⟩
theorem pn93 : plainName "com/example/eriu/eriu/algorithm/GroupElection" = true := by first | (simp [plainName, overriddenIn]; done) | decide +kernel
theorem pd93_0 : parseMethodDescriptor "(III)[I" = some ⟨[.int, .int, .int], some (.array .int)⟩ := by decide +kernel
theorem pd93_1 : parseMethodDescriptor "(I)J" = some ⟨[.int], some .long⟩ := by decide +kernel
theorem pd93_2 : parseMethodDescriptor "(II)J" = some ⟨[.int, .int], some .long⟩ := by decide +kernel
theorem ef93 (m : MethodId) (x0 : Int32) (x1 : Int32) : entryFrame m #[(.int x0), (.int x1), (.int (3 : Int32))] 6 = (mkF m 0 #[iv x0, iv x1, iv (3 : Int32), .unset, .unset, .unset] []) := by first | (simp [entryFrame, mkF, argsToLocals, Value.category]; done) | rfl
def c93_50_0 (x0 : Int32) (x1 : Int32) : Int32 := ((2 : Int32) * x1)
def Q93 (Z : State) (x0 : Int32) (x1 : Int32) (h0 : Heap) (n0 : Nat) (v : Option Value) (h : Heap) (L : List Loc) : Prop := ∃ (b : Addr) (k : ClassId), v = some (.ref b) ∧ Fr n0 L ∧ Keep h0 h [] ∧ h0.size ≤ b ∧ Exa Z h b "[J" ∧ Arv Z h b k .long (3 : Int32) [(.long ((r5 x1) + (r7 x0 (c93_50_0 x0 x1)))), (.long ((r5 (c93_50_0 x0 x1)) + (r7 x0 x0))), (.long ((r5 x0) + (0 : Int64)))] (.long (0 : Int64))
set_option maxRecDepth 65536 in
set_option maxHeartbeats 40000000 in
theorem rm93 (l : Launch) (Z : State) (a0 : Array Value) (hw : ∀ d ∈ tables_1, d.before a0 Z = true) (ws : List Jvm.Cond) (x0 : Int32) (x1 : Int32) (h0 : Heap) (n0 : Nat) (Z0 : n0 ≤ h0.size) (p1 : ¬ (x0 < (1 : Int32))) (p2 : ¬ (x1 < (1 : Int32))) (p4 : (1 : Int32) < (r3 x1)) (s1 : ¬ (((2 : Int32) * x1) < (1 : Int32))) (s2 : ¬ (x0 < (1 : Int32))) :
    MetFree l ym7 (head1 (Jvm.Cond.code ym7 prog_4_method_3_code 6 (some (.array .long)) :: ws) ({ frames := 2, cells := 2, slots := 16, locals := 40 } : Room)) (fun a U => a = #[(.int x0), (.int x1), (.int (3 : Int32))] ∧ Z.Warmed39 U.vm ∧ U.heap = h0) (fun _ _ _ _ _ => True) (fun _ U o U' => ∃ v L, o = .returned v ∧ (Q93 Z x0 x1 h0 n0) v U'.heap L ∧ FrameEnd U o U' L ({ frames := 2, cells := 2, slots := 16, locals := 40 } : Room).cells ({ frames := 2, cells := 2, slots := 16, locals := 40 } : Room).slots) := by
  refine MetFree.of_bodySF (plainFor_of_name pn93) hisR ?_
  intro p e s m args below meth c s₁ Bd hml0 hP hK
  obtain ⟨rfl, hZ, hh⟩ := hP
  have hx := Bd.exec
  have hby := Bd.bytes
  have hml : c.maxLocals = 6 := hml0
  have hlk : meth.locks = false := BodyLoose.notSynchronized Bd
  have hown : s.vm.findClass "com/example/eriu/eriu/algorithm/GroupElection" = some m.cls := findClass_of_methodNamed Bd.named
  have hnm := (name_of_methodNamed Bd.named Bd.method).1
  have w_7 := hw _ (List.mem_of_getElem? (i := 7) rfl)
  have w_9 := hw _ (List.mem_of_getElem? (i := 9) rfl)
  have w_10 := hw _ (List.mem_of_getElem? (i := 10) rfl)
  have w_11 := hw _ (List.mem_of_getElem? (i := 11) rfl)
  have w_18 := hw _ (List.mem_of_getElem? (i := 18) rfl)
  have w_19 := hw _ (List.mem_of_getElem? (i := 19) rfl)
  have w_20 := hw _ (List.mem_of_getElem? (i := 20) rfl)
  have w_21 := hw _ (List.mem_of_getElem? (i := 21) rfl)
  have w_22 := hw _ (List.mem_of_getElem? (i := 22) rfl)
  have w_26 := hw _ (List.mem_of_getElem? (i := 26) rfl)
  have w_27 := hw _ (List.mem_of_getElem? (i := 27) rfl)
  have w_28 := hw _ (List.mem_of_getElem? (i := 28) rfl)
  have w_29 := hw _ (List.mem_of_getElem? (i := 29) rfl)
  have hci : ∀ i v, (i, v) ∈ ([] : List (Nat × Int32)) → (Jvm.Cond.constant "com/example/eriu/eriu/algorithm/GroupElection" i v).before #[(.int x0), (.int x1), (.int (3 : Int32))] s = true := own_ci0
  have hcl : ∀ i v, (i, v) ∈ ([(215, 2), (236, 3)] : List (Nat × Int64)) → (Jvm.Cond.constantLong "com/example/eriu/eriu/algorithm/GroupElection" i v).before #[(.int x0), (.int x1), (.int (3 : Int32))] s = true := (own_ciS (mvT hZ w_22) (own_ciS (mvT hZ w_26) own_ci0))
  have X0 : Stand p l e ({ frames := 2, cells := 2, slots := 16, locals := 40 } : Room) s m #[(.int x0), (.int x1), (.int (3 : Int32))] below meth c s₁ [] 0 0 := Stand.of_body Bd
  have e0 : s₁.heap = h0 := by rw [← hh, Bd.state]; rfl
  have N0 := Fr.nil n0
  show Goes p e below s (Q93 Z x0 x1 h0 n0) ({ frames := 2, cells := 2, slots := 16, locals := 40 } : Room).cells ({ frames := 2, cells := 2, slots := 16, locals := 40 } : Room).slots (s₁.setTop (entryFrame m #[(.int x0), (.int x1), (.int (3 : Int32))] 6))
  refine Goes.cast (ef93 m x0 x1) ?_
  have K0 : Keep h0 h0 [] := Keep.refl h0 _
  refine Goes.run X0 hx hown hci hcl hby (L := [(0, .iload_n 0, 1), (1, .iload_n 1, 1), (2, .iload_n 2, 1)]) (by decide +kernel) rfl (g' := (mkF m 3 #[iv x0, iv x1, iv (3 : Int32), .unset, .unset, .unset] [(.int (3 : Int32)), (.int x1), (.int x0)])) rfl ?_
  obtain ⟨_, _, ⟨T1, L1, k1, n1⟩, -, X1, ⟨Lc1, hQ1, l1, y1, z1⟩, st1⟩ := Jvm.LawKit.callS X0 hx (y := ym6) hown (mvT hZ w_9) (mvT hZ w_10) (mvT hZ w_7) (mvT hZ w_11) (by decide) (backOf (W := 0) (rm83 l Z a0 hw [] x0 x1 h0 n0 Z0 p1 p2 p4) hZ w_11 w_7 (by decide) (by decide)) (g := (mkF m 3 #[iv x0, iv x1, iv (3 : Int32), .unset, .unset, .unset] [(.int (3 : Int32)), (.int x1), (.int x0)])) rfl (by rw [hml]; rfl) (argsL := [(.int x0), (.int x1), (.int (3 : Int32))]) (rest := []) (lenOf pd93_0 rfl) rfl (by show 2 * 0 + _ ≤ _; exact Nat.le_of_eq rfl) (hb hby d8_3) (fun _ _ => ⟨rfl, e0, (by decide : 0 + 1 ≤ _), (by decide : 0 + 8 ≤ _)⟩)
  dsimp only [Pt.U, Pt.locs, Pt.cells, Pt.slots] at X1 l1 y1 z1 st1 hQ1
  subst l1 y1 z1
  obtain ⟨h1, eh1⟩ : ∃ z, z = T1.heap := ⟨_, rfl⟩
  rw [← eh1] at hQ1
  have e1 : T1.heap = h1 := eh1.symm
  obtain ⟨b1, kc1, rfl, N1q, Kq1, szq1, o1_0, o1_1⟩ := hQ1
  have g_b1 : n0 ≤ b1 := Nat.le_trans Z0 szq1
  have sz_b1 : h0.size ≤ b1 := Nat.le_trans K0.1 szq1
  have N1 := Fr.app N0 N1q
  have E_b1 : Exa Z h1 b1 "[I" := o1_0
  have V_b1 : Arv Z h1 b1 kc1 .int (3 : Int32) [(.int x1), (.int ((2 : Int32) * x1)), (.int x0)] (.int (0 : Int32)) := o1_1
  have Zn1 : n0 ≤ h1.size := Nat.le_trans Z0 Kq1.1
  have K1 := K0.trans Kq1 (all0)
  refine Goes.st (B := T1.setTop (mkF m 6 #[iv x0, iv x1, iv (3 : Int32), .unset, .unset, .unset] [(.ref b1)])) st1 ?_
  refine Goes.run X1 hx hown hci hcl hby (L := [(6, .astore_n 3, 1), (7, .aload_n 3, 1)]) (by decide +kernel) rfl (g' := (mkF m 8 #[iv x0, iv x1, iv (3 : Int32), rv b1, .unset, .unset] [(.ref b1)])) rfl ?_
  obtain ⟨cl2, Ar2, q2, S2, M2, Hs2, G2⟩ := id V_b1
  refine Goes.st (B := T1.setTop (mkF m 9 #[iv x0, iv x1, iv (3 : Int32), rv b1, .unset, .unset] [(.int (3 : Int32))])) (fun t k => ?_) ?_
  · refine X1.arraylength hx (cell := cl2) (by rw [e1]; exact Ar2.1) (State.isArrayOf_alike hZ.alike Ar2.2.1) (g := (mkF m 8 #[iv x0, iv x1, iv (3 : Int32), rv b1, .unset, .unset] [(.ref b1)])) rfl (rest := []) rfl (hb hby d8_8) _ ?_
    rw [len_of S2 M2]
    exact k
  obtain ⟨T3, h3, k3, X3, e3, E3, A3, B3, st3⟩ := newPE X1 hx hZ (aty := .long) w_18 e1 (g := (mkF m 9 #[iv x0, iv x1, iv (3 : Int32), rv b1, .unset, .unset] [(.int (3 : Int32))])) rfl (hb hby d8_9) rfl (by decide) (cap := 3) (by decide) (by decide) (by decide) (by decide) (ad := "[J") (by decide)
  obtain ⟨b3, g3⟩ : ∃ z, z = h1.size := ⟨_, rfl⟩
  rw [← g3] at A3 B3 st3
  have ne_b1_b3 : b1 ≠ b3 := Nat.ne_of_lt (Nat.lt_of_lt_of_le E_b1.lt (Nat.le_of_eq g3.symm))
  have g_b3 : n0 ≤ b3 := Nat.le_trans Zn1 (Nat.le_of_eq g3.symm)
  have sz_b3 : h0.size ≤ b3 := Nat.le_trans K1.1 (Nat.le_of_eq g3.symm)
  have E_b1 := E_b1.ext E3
  have V_b1 := V_b1.ext E3
  have Zn3 : n0 ≤ h3.size := Nat.le_trans Zn1 E3.1
  have K3 := K1.ext E3
  have E_b3 : Exa Z h3 b3 "[J" := B3
  have V_b3 : Arv Z h3 b3 k3 .long (3 : Int32) [(.long (0 : Int64)), (.long (0 : Int64)), (.long (0 : Int64))] (.long (0 : Int64)) := (Arv.new A3 (by decide)).pad (pad_rep [] (.long (0 : Int64)) 3)
  refine Goes.st (B := T3.setTop (mkF m 11 #[iv x0, iv x1, iv (3 : Int32), rv b1, .unset, .unset] [(.ref b3)])) st3 ?_
  refine Goes.run X3 hx hown hci hcl hby (L := [(11, .astore 4, 2), (13, .iconst 0, 1), (14, .istore 5, 2), (16, .iload 5, 2), (18, .aload_n 3, 1)]) (by decide +kernel) rfl (g' := (mkF m 19 #[iv x0, iv x1, iv (3 : Int32), rv b1, rv b3, iv (0 : Int32)] [(.ref b1), (.int (0 : Int32))])) rfl ?_
  obtain ⟨cl4, Ar4, q4, S4, M4, Hs4, G4⟩ := id V_b1
  refine Goes.st (B := T3.setTop (mkF m 20 #[iv x0, iv x1, iv (3 : Int32), rv b1, rv b3, iv (0 : Int32)] [(.int (3 : Int32)), (.int (0 : Int32))])) (fun t k => ?_) ?_
  · refine X3.arraylength hx (cell := cl4) (by rw [e3]; exact Ar4.1) (State.isArrayOf_alike hZ.alike Ar4.2.1) (g := (mkF m 19 #[iv x0, iv x1, iv (3 : Int32), rv b1, rv b3, iv (0 : Int32)] [(.ref b1), (.int (0 : Int32))])) rfl (rest := [(.int (0 : Int32))]) rfl (hb hby d8_19) _ ?_
    rw [len_of S4 M4]
    exact k
  have hc20_5 : (0 : Int32) < (3 : Int32) := by decide
  refine Goes.st (B := T3.setTop (mkF m 23 #[iv x0, iv x1, iv (3 : Int32), rv b1, rv b3, iv (0 : Int32)] [])) (fun t k => ?_) ?_
  · refine XS.icmpNo X3.here hx rfl (hb hby d8_20) rfl (tlt hc20_5).2.1 ?_
    exact k
  refine Goes.run X3 hx hown hci hcl hby (L := [(23, .aload 4, 2), (25, .iload 5, 2), (27, .aload_n 3, 1), (28, .iload 5, 2)]) (by decide +kernel) rfl (g' := (mkF m 30 #[iv x0, iv x1, iv (3 : Int32), rv b1, rv b3, iv (0 : Int32)] [(.int (0 : Int32)), (.ref b1), (.int (0 : Int32)), (.ref b3)])) rfl ?_
  obtain ⟨cl6, Ar6, q6, S6, M6, Hs6, G6⟩ := id V_b1
  have hin6 : ¬ ((0 : Int32) < 0 ∨ cl6.slots.size ≤ ((0 : Int32)).toNatClampNeg) := inb_of S6 ⟨(by decide), (by decide)⟩
  have hat6 : cl6.slots[((0 : Int32)).toNatClampNeg]? = some (.int x1) := Hs6.at hin6 rfl
  refine Goes.st (B := T3.setTop (mkF m 31 #[iv x0, iv x1, iv (3 : Int32), rv b1, rv b3, iv (0 : Int32)] [(.int x1), (.int (0 : Int32)), (.ref b3)])) (X3.iaload hx (j := (0 : Int32)) (v := (.int x1)) (by rw [e3]; exact Ar6.1) (State.isArrayOf_alike hZ.alike Ar6.2.1) Ar6.2.2 hin6 hat6 (g := (mkF m 30 #[iv x0, iv x1, iv (3 : Int32), rv b1, rv b3, iv (0 : Int32)] [(.int (0 : Int32)), (.ref b1), (.int (0 : Int32)), (.ref b3)])) rfl rfl (hb hby d8_30)) ?_
  obtain ⟨_, _, ⟨T7, L7, k7, n7⟩, -, X7, ⟨Lc7, hQ7, l7, y7, z7⟩, st7⟩ := Jvm.LawKit.callS X3 hx (y := ym3) hown (mvT hZ w_19) (mvT hZ w_20) (mvT hZ w_7) (mvT hZ w_21) (by decide) (backOf (W := 2) (rm5 l Z a0 hw [] x1 h3 n0 Zn3 ) hZ w_21 w_7 (by decide) (by decide)) (g := (mkF m 31 #[iv x0, iv x1, iv (3 : Int32), rv b1, rv b3, iv (0 : Int32)] [(.int x1), (.int (0 : Int32)), (.ref b3)])) rfl (by rw [hml]; rfl) (argsL := [(.int x1)]) (rest := [(.int (0 : Int32)), (.ref b3)]) (lenOf pd93_1 rfl) rfl (by show 2 * 0 + _ ≤ _; exact Nat.le_of_eq rfl) (hb hby d8_31) (fun _ _ => ⟨rfl, e3, (by decide : 2 + 0 ≤ _), (by decide : 11 + 0 ≤ _)⟩)
  dsimp only [Pt.U, Pt.locs, Pt.cells, Pt.slots] at X7 l7 y7 z7 st7 hQ7
  subst l7 y7 z7
  obtain ⟨rfl, N7q, e7⟩ := hQ7
  have N7 := Fr.app N1 N7q
  refine Goes.st (B := T7.setTop (mkF m 34 #[iv x0, iv x1, iv (3 : Int32), rv b1, rv b3, iv (0 : Int32)] [(.long (r5 x1)), (.int (0 : Int32)), (.ref b3)])) st7 ?_
  refine Goes.run X7 hx hown hci hcl hby (L := [(34, .iload 5, 2), (36, .iconst 1, 1), (37, .iadd, 1), (38, .aload_n 3, 1)]) (by decide +kernel) rfl (g' := (mkF m 39 #[iv x0, iv x1, iv (3 : Int32), rv b1, rv b3, iv (0 : Int32)] [(.ref b1), (.int (1 : Int32)), (.long (r5 x1)), (.int (0 : Int32)), (.ref b3)])) rfl ?_
  obtain ⟨cl8, Ar8, q8, S8, M8, Hs8, G8⟩ := id V_b1
  refine Goes.st (B := T7.setTop (mkF m 40 #[iv x0, iv x1, iv (3 : Int32), rv b1, rv b3, iv (0 : Int32)] [(.int (3 : Int32)), (.int (1 : Int32)), (.long (r5 x1)), (.int (0 : Int32)), (.ref b3)])) (fun t k => ?_) ?_
  · refine X7.arraylength hx (cell := cl8) (by rw [e7]; exact Ar8.1) (State.isArrayOf_alike hZ.alike Ar8.2.1) (g := (mkF m 39 #[iv x0, iv x1, iv (3 : Int32), rv b1, rv b3, iv (0 : Int32)] [(.ref b1), (.int (1 : Int32)), (.long (r5 x1)), (.int (0 : Int32)), (.ref b3)])) rfl (rest := [(.int (1 : Int32)), (.long (r5 x1)), (.int (0 : Int32)), (.ref b3)]) rfl (hb hby d8_39) _ ?_
    rw [len_of S8 M8]
    exact k
  have hc40_9 : (1 : Int32) < (3 : Int32) := by decide
  refine Goes.st (B := T7.setTop (mkF m 43 #[iv x0, iv x1, iv (3 : Int32), rv b1, rv b3, iv (0 : Int32)] [(.long (r5 x1)), (.int (0 : Int32)), (.ref b3)])) (fun t k => ?_) ?_
  · refine XS.icmpNo X7.here hx rfl (hb hby d8_40) rfl (tlt hc40_9).2.1 ?_
    exact k
  refine Goes.run X7 hx hown hci hcl hby (L := [(43, .iload_n 0, 1), (44, .aload_n 3, 1), (45, .iload 5, 2), (47, .iconst 1, 1), (48, .iadd, 1)]) (by decide +kernel) rfl (g' := (mkF m 49 #[iv x0, iv x1, iv (3 : Int32), rv b1, rv b3, iv (0 : Int32)] [(.int (1 : Int32)), (.ref b1), (.int x0), (.long (r5 x1)), (.int (0 : Int32)), (.ref b3)])) rfl ?_
  obtain ⟨cl10, Ar10, q10, S10, M10, Hs10, G10⟩ := id V_b1
  have hin10 : ¬ ((1 : Int32) < 0 ∨ cl10.slots.size ≤ ((1 : Int32)).toNatClampNeg) := inb_of S10 ⟨(by decide), (by decide)⟩
  have hat10 : cl10.slots[((1 : Int32)).toNatClampNeg]? = some (.int ((2 : Int32) * x1)) := Hs10.at hin10 rfl
  refine Goes.st (B := T7.setTop (mkF m 50 #[iv x0, iv x1, iv (3 : Int32), rv b1, rv b3, iv (0 : Int32)] [(.int ((2 : Int32) * x1)), (.int x0), (.long (r5 x1)), (.int (0 : Int32)), (.ref b3)])) (X7.iaload hx (j := (1 : Int32)) (v := (.int ((2 : Int32) * x1))) (by rw [e7]; exact Ar10.1) (State.isArrayOf_alike hZ.alike Ar10.2.1) Ar10.2.2 hin10 hat10 (g := (mkF m 49 #[iv x0, iv x1, iv (3 : Int32), rv b1, rv b3, iv (0 : Int32)] [(.int (1 : Int32)), (.ref b1), (.int x0), (.long (r5 x1)), (.int (0 : Int32)), (.ref b3)])) rfl rfl (hb hby d8_49)) ?_
  obtain ⟨_, _, ⟨T11, L11, k11, n11⟩, -, X11, ⟨Lc11, hQ11, l11, y11, z11⟩, st11⟩ := Jvm.LawKit.callS X7 hx (y := ym5) hown (mvT hZ w_27) (mvT hZ w_28) (mvT hZ w_7) (mvT hZ w_29) (by decide) (backOf (W := 4) (rm7 l Z a0 hw [] x0 (c93_50_0 x0 x1) h3 n0 Zn3 (by first | assumption | exact p1 | exact p2)) hZ w_29 w_7 (by decide) (by decide)) (g := (mkF m 50 #[iv x0, iv x1, iv (3 : Int32), rv b1, rv b3, iv (0 : Int32)] [(.int (c93_50_0 x0 x1)), (.int x0), (.long (r5 x1)), (.int (0 : Int32)), (.ref b3)])) rfl (by rw [hml]; rfl) (argsL := [(.int x0), (.int (c93_50_0 x0 x1))]) (rest := [(.long (r5 x1)), (.int (0 : Int32)), (.ref b3)]) (lenOf pd93_2 rfl) rfl (by show 2 * 0 + _ ≤ _; exact Nat.le_of_eq rfl) (hb hby d8_50) (fun _ _ => ⟨rfl, e7, (by decide : 2 + 0 ≤ _), (by decide : 11 + 0 ≤ _)⟩)
  dsimp only [Pt.U, Pt.locs, Pt.cells, Pt.slots] at X11 l11 y11 z11 st11 hQ11
  subst l11 y11 z11
  obtain ⟨rfl, N11q, e11⟩ := hQ11
  have N11 := Fr.app N7 N11q
  refine Goes.st (B := T11.setTop (mkF m 53 #[iv x0, iv x1, iv (3 : Int32), rv b1, rv b3, iv (0 : Int32)] [(.long (r7 x0 (c93_50_0 x0 x1))), (.long (r5 x1)), (.int (0 : Int32)), (.ref b3)])) st11 ?_
  refine Goes.run X11 hx hown hci hcl hby (L := [(53, .goto 4, 3), (57, .ladd, 1)]) (by decide +kernel) rfl (g' := (mkF m 58 #[iv x0, iv x1, iv (3 : Int32), rv b1, rv b3, iv (0 : Int32)] [(.long ((r5 x1) + (r7 x0 (c93_50_0 x0 x1)))), (.int (0 : Int32)), (.ref b3)])) rfl ?_
  obtain ⟨cl12, Ar12, q12, S12, M12, Hs12, G12⟩ := id V_b3
  have hin12 : ¬ ((0 : Int32) < 0 ∨ cl12.slots.size ≤ ((0 : Int32)).toNatClampNeg) := inb_of S12 ⟨(by decide), (by decide)⟩
  obtain ⟨T12, h12, X12, e12, W12, st12⟩ := stJ X11 hx hZ e11 Ar12 (j := (0 : Int32)) hin12 (g := (mkF m 58 #[iv x0, iv x1, iv (3 : Int32), rv b1, rv b3, iv (0 : Int32)] [(.long ((r5 x1) + (r7 x0 (c93_50_0 x0 x1)))), (.int (0 : Int32)), (.ref b3)])) rfl rfl (hb hby d8_58)
  have E_b1 := E_b1.wr W12
  have V_b1 := V_b1.other W12 ne_b1_b3
  have E_b3 := E_b3.wr W12
  have Zn12 : n0 ≤ h12.size := Nat.le_trans Zn3 (Keep.of_wr W12).1
  have K12 := K3.wr W12 (Or.inr sz_b3)
  have N12 := Fr.snoc X12 N11 g_b3
  have V_b3 : Arv Z h12 b3 k3 .long (3 : Int32) [(.long ((r5 x1) + (r7 x0 (c93_50_0 x0 x1)))), (.long (0 : Int64)), (.long (0 : Int64))] (.long (0 : Int64)) := Arv.set Ar12 q12 S12 M12 Hs12 G12 rfl W12 0 rfl (Nat.le_of_ble_eq_true rfl)
  refine Goes.st (B := T12.setTop (mkF m 59 #[iv x0, iv x1, iv (3 : Int32), rv b1, rv b3, iv (0 : Int32)] [])) st12 ?_
  refine Goes.run X12 hx hown hci hcl hby (L := [(59, .iinc 5 1, 3), (62, .goto (-46), 3), (16, .iload 5, 2), (18, .aload_n 3, 1)]) (by decide +kernel) rfl (g' := (mkF m 19 #[iv x0, iv x1, iv (3 : Int32), rv b1, rv b3, iv (1 : Int32)] [(.ref b1), (.int (1 : Int32))])) rfl ?_
  obtain ⟨cl13, Ar13, q13, S13, M13, Hs13, G13⟩ := id V_b1
  refine Goes.st (B := T12.setTop (mkF m 20 #[iv x0, iv x1, iv (3 : Int32), rv b1, rv b3, iv (1 : Int32)] [(.int (3 : Int32)), (.int (1 : Int32))])) (fun t k => ?_) ?_
  · refine X12.arraylength hx (cell := cl13) (by rw [e12]; exact Ar13.1) (State.isArrayOf_alike hZ.alike Ar13.2.1) (g := (mkF m 19 #[iv x0, iv x1, iv (3 : Int32), rv b1, rv b3, iv (1 : Int32)] [(.ref b1), (.int (1 : Int32))])) rfl (rest := [(.int (1 : Int32))]) rfl (hb hby d8_19) _ ?_
    rw [len_of S13 M13]
    exact k
  have hc20_14 : (1 : Int32) < (3 : Int32) := by decide
  refine Goes.st (B := T12.setTop (mkF m 23 #[iv x0, iv x1, iv (3 : Int32), rv b1, rv b3, iv (1 : Int32)] [])) (fun t k => ?_) ?_
  · refine XS.icmpNo X12.here hx rfl (hb hby d8_20) rfl (tlt hc20_14).2.1 ?_
    exact k
  refine Goes.run X12 hx hown hci hcl hby (L := [(23, .aload 4, 2), (25, .iload 5, 2), (27, .aload_n 3, 1), (28, .iload 5, 2)]) (by decide +kernel) rfl (g' := (mkF m 30 #[iv x0, iv x1, iv (3 : Int32), rv b1, rv b3, iv (1 : Int32)] [(.int (1 : Int32)), (.ref b1), (.int (1 : Int32)), (.ref b3)])) rfl ?_
  obtain ⟨cl15, Ar15, q15, S15, M15, Hs15, G15⟩ := id V_b1
  have hin15 : ¬ ((1 : Int32) < 0 ∨ cl15.slots.size ≤ ((1 : Int32)).toNatClampNeg) := inb_of S15 ⟨(by decide), (by decide)⟩
  have hat15 : cl15.slots[((1 : Int32)).toNatClampNeg]? = some (.int ((2 : Int32) * x1)) := Hs15.at hin15 rfl
  refine Goes.st (B := T12.setTop (mkF m 31 #[iv x0, iv x1, iv (3 : Int32), rv b1, rv b3, iv (1 : Int32)] [(.int ((2 : Int32) * x1)), (.int (1 : Int32)), (.ref b3)])) (X12.iaload hx (j := (1 : Int32)) (v := (.int ((2 : Int32) * x1))) (by rw [e12]; exact Ar15.1) (State.isArrayOf_alike hZ.alike Ar15.2.1) Ar15.2.2 hin15 hat15 (g := (mkF m 30 #[iv x0, iv x1, iv (3 : Int32), rv b1, rv b3, iv (1 : Int32)] [(.int (1 : Int32)), (.ref b1), (.int (1 : Int32)), (.ref b3)])) rfl rfl (hb hby d8_30)) ?_
  obtain ⟨_, _, ⟨T16, L16, k16, n16⟩, -, X16, ⟨Lc16, hQ16, l16, y16, z16⟩, st16⟩ := Jvm.LawKit.callS X12 hx (y := ym3) hown (mvT hZ w_19) (mvT hZ w_20) (mvT hZ w_7) (mvT hZ w_21) (by decide) (backOf (W := 2) (rm5 l Z a0 hw [] (c93_50_0 x0 x1) h12 n0 Zn12 ) hZ w_21 w_7 (by decide) (by decide)) (g := (mkF m 31 #[iv x0, iv x1, iv (3 : Int32), rv b1, rv b3, iv (1 : Int32)] [(.int (c93_50_0 x0 x1)), (.int (1 : Int32)), (.ref b3)])) rfl (by rw [hml]; rfl) (argsL := [(.int (c93_50_0 x0 x1))]) (rest := [(.int (1 : Int32)), (.ref b3)]) (lenOf pd93_1 rfl) rfl (by show 2 * 0 + _ ≤ _; exact Nat.le_of_eq rfl) (hb hby d8_31) (fun _ _ => ⟨rfl, e12, (by decide : 2 + 0 ≤ _), (by decide : 11 + 0 ≤ _)⟩)
  dsimp only [Pt.U, Pt.locs, Pt.cells, Pt.slots] at X16 l16 y16 z16 st16 hQ16
  subst l16 y16 z16
  obtain ⟨rfl, N16q, e16⟩ := hQ16
  have N16 := Fr.app N12 N16q
  refine Goes.st (B := T16.setTop (mkF m 34 #[iv x0, iv x1, iv (3 : Int32), rv b1, rv b3, iv (1 : Int32)] [(.long (r5 (c93_50_0 x0 x1))), (.int (1 : Int32)), (.ref b3)])) st16 ?_
  refine Goes.run X16 hx hown hci hcl hby (L := [(34, .iload 5, 2), (36, .iconst 1, 1), (37, .iadd, 1), (38, .aload_n 3, 1)]) (by decide +kernel) rfl (g' := (mkF m 39 #[iv x0, iv x1, iv (3 : Int32), rv b1, rv b3, iv (1 : Int32)] [(.ref b1), (.int (2 : Int32)), (.long (r5 (c93_50_0 x0 x1))), (.int (1 : Int32)), (.ref b3)])) rfl ?_
  obtain ⟨cl17, Ar17, q17, S17, M17, Hs17, G17⟩ := id V_b1
  refine Goes.st (B := T16.setTop (mkF m 40 #[iv x0, iv x1, iv (3 : Int32), rv b1, rv b3, iv (1 : Int32)] [(.int (3 : Int32)), (.int (2 : Int32)), (.long (r5 (c93_50_0 x0 x1))), (.int (1 : Int32)), (.ref b3)])) (fun t k => ?_) ?_
  · refine X16.arraylength hx (cell := cl17) (by rw [e16]; exact Ar17.1) (State.isArrayOf_alike hZ.alike Ar17.2.1) (g := (mkF m 39 #[iv x0, iv x1, iv (3 : Int32), rv b1, rv b3, iv (1 : Int32)] [(.ref b1), (.int (2 : Int32)), (.long (r5 (c93_50_0 x0 x1))), (.int (1 : Int32)), (.ref b3)])) rfl (rest := [(.int (2 : Int32)), (.long (r5 (c93_50_0 x0 x1))), (.int (1 : Int32)), (.ref b3)]) rfl (hb hby d8_39) _ ?_
    rw [len_of S17 M17]
    exact k
  have hc40_18 : (2 : Int32) < (3 : Int32) := by decide
  refine Goes.st (B := T16.setTop (mkF m 43 #[iv x0, iv x1, iv (3 : Int32), rv b1, rv b3, iv (1 : Int32)] [(.long (r5 (c93_50_0 x0 x1))), (.int (1 : Int32)), (.ref b3)])) (fun t k => ?_) ?_
  · refine XS.icmpNo X16.here hx rfl (hb hby d8_40) rfl (tlt hc40_18).2.1 ?_
    exact k
  refine Goes.run X16 hx hown hci hcl hby (L := [(43, .iload_n 0, 1), (44, .aload_n 3, 1), (45, .iload 5, 2), (47, .iconst 1, 1), (48, .iadd, 1)]) (by decide +kernel) rfl (g' := (mkF m 49 #[iv x0, iv x1, iv (3 : Int32), rv b1, rv b3, iv (1 : Int32)] [(.int (2 : Int32)), (.ref b1), (.int x0), (.long (r5 (c93_50_0 x0 x1))), (.int (1 : Int32)), (.ref b3)])) rfl ?_
  obtain ⟨cl19, Ar19, q19, S19, M19, Hs19, G19⟩ := id V_b1
  have hin19 : ¬ ((2 : Int32) < 0 ∨ cl19.slots.size ≤ ((2 : Int32)).toNatClampNeg) := inb_of S19 ⟨(by decide), (by decide)⟩
  have hat19 : cl19.slots[((2 : Int32)).toNatClampNeg]? = some (.int x0) := Hs19.at hin19 rfl
  refine Goes.st (B := T16.setTop (mkF m 50 #[iv x0, iv x1, iv (3 : Int32), rv b1, rv b3, iv (1 : Int32)] [(.int x0), (.int x0), (.long (r5 (c93_50_0 x0 x1))), (.int (1 : Int32)), (.ref b3)])) (X16.iaload hx (j := (2 : Int32)) (v := (.int x0)) (by rw [e16]; exact Ar19.1) (State.isArrayOf_alike hZ.alike Ar19.2.1) Ar19.2.2 hin19 hat19 (g := (mkF m 49 #[iv x0, iv x1, iv (3 : Int32), rv b1, rv b3, iv (1 : Int32)] [(.int (2 : Int32)), (.ref b1), (.int x0), (.long (r5 (c93_50_0 x0 x1))), (.int (1 : Int32)), (.ref b3)])) rfl rfl (hb hby d8_49)) ?_
  obtain ⟨_, _, ⟨T20, L20, k20, n20⟩, -, X20, ⟨Lc20, hQ20, l20, y20, z20⟩, st20⟩ := Jvm.LawKit.callS X16 hx (y := ym5) hown (mvT hZ w_27) (mvT hZ w_28) (mvT hZ w_7) (mvT hZ w_29) (by decide) (backOf (W := 4) (rm7 l Z a0 hw [] x0 x0 h12 n0 Zn12 (by first | assumption | exact p1 | exact p2)) hZ w_29 w_7 (by decide) (by decide)) (g := (mkF m 50 #[iv x0, iv x1, iv (3 : Int32), rv b1, rv b3, iv (1 : Int32)] [(.int x0), (.int x0), (.long (r5 (c93_50_0 x0 x1))), (.int (1 : Int32)), (.ref b3)])) rfl (by rw [hml]; rfl) (argsL := [(.int x0), (.int x0)]) (rest := [(.long (r5 (c93_50_0 x0 x1))), (.int (1 : Int32)), (.ref b3)]) (lenOf pd93_2 rfl) rfl (by show 2 * 0 + _ ≤ _; exact Nat.le_of_eq rfl) (hb hby d8_50) (fun _ _ => ⟨rfl, e16, (by decide : 2 + 0 ≤ _), (by decide : 11 + 0 ≤ _)⟩)
  dsimp only [Pt.U, Pt.locs, Pt.cells, Pt.slots] at X20 l20 y20 z20 st20 hQ20
  subst l20 y20 z20
  obtain ⟨rfl, N20q, e20⟩ := hQ20
  have N20 := Fr.app N16 N20q
  refine Goes.st (B := T20.setTop (mkF m 53 #[iv x0, iv x1, iv (3 : Int32), rv b1, rv b3, iv (1 : Int32)] [(.long (r7 x0 x0)), (.long (r5 (c93_50_0 x0 x1))), (.int (1 : Int32)), (.ref b3)])) st20 ?_
  refine Goes.run X20 hx hown hci hcl hby (L := [(53, .goto 4, 3), (57, .ladd, 1)]) (by decide +kernel) rfl (g' := (mkF m 58 #[iv x0, iv x1, iv (3 : Int32), rv b1, rv b3, iv (1 : Int32)] [(.long ((r5 (c93_50_0 x0 x1)) + (r7 x0 x0))), (.int (1 : Int32)), (.ref b3)])) rfl ?_
  obtain ⟨cl21, Ar21, q21, S21, M21, Hs21, G21⟩ := id V_b3
  have hin21 : ¬ ((1 : Int32) < 0 ∨ cl21.slots.size ≤ ((1 : Int32)).toNatClampNeg) := inb_of S21 ⟨(by decide), (by decide)⟩
  obtain ⟨T21, h21, X21, e21, W21, st21⟩ := stJ X20 hx hZ e20 Ar21 (j := (1 : Int32)) hin21 (g := (mkF m 58 #[iv x0, iv x1, iv (3 : Int32), rv b1, rv b3, iv (1 : Int32)] [(.long ((r5 (c93_50_0 x0 x1)) + (r7 x0 x0))), (.int (1 : Int32)), (.ref b3)])) rfl rfl (hb hby d8_58)
  have E_b1 := E_b1.wr W21
  have V_b1 := V_b1.other W21 ne_b1_b3
  have E_b3 := E_b3.wr W21
  have Zn21 : n0 ≤ h21.size := Nat.le_trans Zn12 (Keep.of_wr W21).1
  have K21 := K12.wr W21 (Or.inr sz_b3)
  have N21 := Fr.snoc X21 N20 g_b3
  have V_b3 : Arv Z h21 b3 k3 .long (3 : Int32) [(.long ((r5 x1) + (r7 x0 (c93_50_0 x0 x1)))), (.long ((r5 (c93_50_0 x0 x1)) + (r7 x0 x0))), (.long (0 : Int64))] (.long (0 : Int64)) := Arv.set Ar21 q21 S21 M21 Hs21 G21 rfl W21 1 rfl (Nat.le_of_ble_eq_true rfl)
  refine Goes.st (B := T21.setTop (mkF m 59 #[iv x0, iv x1, iv (3 : Int32), rv b1, rv b3, iv (1 : Int32)] [])) st21 ?_
  refine Goes.run X21 hx hown hci hcl hby (L := [(59, .iinc 5 1, 3), (62, .goto (-46), 3), (16, .iload 5, 2), (18, .aload_n 3, 1)]) (by decide +kernel) rfl (g' := (mkF m 19 #[iv x0, iv x1, iv (3 : Int32), rv b1, rv b3, iv (2 : Int32)] [(.ref b1), (.int (2 : Int32))])) rfl ?_
  obtain ⟨cl22, Ar22, q22, S22, M22, Hs22, G22⟩ := id V_b1
  refine Goes.st (B := T21.setTop (mkF m 20 #[iv x0, iv x1, iv (3 : Int32), rv b1, rv b3, iv (2 : Int32)] [(.int (3 : Int32)), (.int (2 : Int32))])) (fun t k => ?_) ?_
  · refine X21.arraylength hx (cell := cl22) (by rw [e21]; exact Ar22.1) (State.isArrayOf_alike hZ.alike Ar22.2.1) (g := (mkF m 19 #[iv x0, iv x1, iv (3 : Int32), rv b1, rv b3, iv (2 : Int32)] [(.ref b1), (.int (2 : Int32))])) rfl (rest := [(.int (2 : Int32))]) rfl (hb hby d8_19) _ ?_
    rw [len_of S22 M22]
    exact k
  have hc20_23 : (2 : Int32) < (3 : Int32) := by decide
  refine Goes.st (B := T21.setTop (mkF m 23 #[iv x0, iv x1, iv (3 : Int32), rv b1, rv b3, iv (2 : Int32)] [])) (fun t k => ?_) ?_
  · refine XS.icmpNo X21.here hx rfl (hb hby d8_20) rfl (tlt hc20_23).2.1 ?_
    exact k
  refine Goes.run X21 hx hown hci hcl hby (L := [(23, .aload 4, 2), (25, .iload 5, 2), (27, .aload_n 3, 1), (28, .iload 5, 2)]) (by decide +kernel) rfl (g' := (mkF m 30 #[iv x0, iv x1, iv (3 : Int32), rv b1, rv b3, iv (2 : Int32)] [(.int (2 : Int32)), (.ref b1), (.int (2 : Int32)), (.ref b3)])) rfl ?_
  obtain ⟨cl24, Ar24, q24, S24, M24, Hs24, G24⟩ := id V_b1
  have hin24 : ¬ ((2 : Int32) < 0 ∨ cl24.slots.size ≤ ((2 : Int32)).toNatClampNeg) := inb_of S24 ⟨(by decide), (by decide)⟩
  have hat24 : cl24.slots[((2 : Int32)).toNatClampNeg]? = some (.int x0) := Hs24.at hin24 rfl
  refine Goes.st (B := T21.setTop (mkF m 31 #[iv x0, iv x1, iv (3 : Int32), rv b1, rv b3, iv (2 : Int32)] [(.int x0), (.int (2 : Int32)), (.ref b3)])) (X21.iaload hx (j := (2 : Int32)) (v := (.int x0)) (by rw [e21]; exact Ar24.1) (State.isArrayOf_alike hZ.alike Ar24.2.1) Ar24.2.2 hin24 hat24 (g := (mkF m 30 #[iv x0, iv x1, iv (3 : Int32), rv b1, rv b3, iv (2 : Int32)] [(.int (2 : Int32)), (.ref b1), (.int (2 : Int32)), (.ref b3)])) rfl rfl (hb hby d8_30)) ?_
  obtain ⟨_, _, ⟨T25, L25, k25, n25⟩, -, X25, ⟨Lc25, hQ25, l25, y25, z25⟩, st25⟩ := Jvm.LawKit.callS X21 hx (y := ym3) hown (mvT hZ w_19) (mvT hZ w_20) (mvT hZ w_7) (mvT hZ w_21) (by decide) (backOf (W := 2) (rm5 l Z a0 hw [] x0 h21 n0 Zn21 ) hZ w_21 w_7 (by decide) (by decide)) (g := (mkF m 31 #[iv x0, iv x1, iv (3 : Int32), rv b1, rv b3, iv (2 : Int32)] [(.int x0), (.int (2 : Int32)), (.ref b3)])) rfl (by rw [hml]; rfl) (argsL := [(.int x0)]) (rest := [(.int (2 : Int32)), (.ref b3)]) (lenOf pd93_1 rfl) rfl (by show 2 * 0 + _ ≤ _; exact Nat.le_of_eq rfl) (hb hby d8_31) (fun _ _ => ⟨rfl, e21, (by decide : 2 + 0 ≤ _), (by decide : 11 + 0 ≤ _)⟩)
  dsimp only [Pt.U, Pt.locs, Pt.cells, Pt.slots] at X25 l25 y25 z25 st25 hQ25
  subst l25 y25 z25
  obtain ⟨rfl, N25q, e25⟩ := hQ25
  have N25 := Fr.app N21 N25q
  refine Goes.st (B := T25.setTop (mkF m 34 #[iv x0, iv x1, iv (3 : Int32), rv b1, rv b3, iv (2 : Int32)] [(.long (r5 x0)), (.int (2 : Int32)), (.ref b3)])) st25 ?_
  refine Goes.run X25 hx hown hci hcl hby (L := [(34, .iload 5, 2), (36, .iconst 1, 1), (37, .iadd, 1), (38, .aload_n 3, 1)]) (by decide +kernel) rfl (g' := (mkF m 39 #[iv x0, iv x1, iv (3 : Int32), rv b1, rv b3, iv (2 : Int32)] [(.ref b1), (.int (3 : Int32)), (.long (r5 x0)), (.int (2 : Int32)), (.ref b3)])) rfl ?_
  obtain ⟨cl26, Ar26, q26, S26, M26, Hs26, G26⟩ := id V_b1
  refine Goes.st (B := T25.setTop (mkF m 40 #[iv x0, iv x1, iv (3 : Int32), rv b1, rv b3, iv (2 : Int32)] [(.int (3 : Int32)), (.int (3 : Int32)), (.long (r5 x0)), (.int (2 : Int32)), (.ref b3)])) (fun t k => ?_) ?_
  · refine X25.arraylength hx (cell := cl26) (by rw [e25]; exact Ar26.1) (State.isArrayOf_alike hZ.alike Ar26.2.1) (g := (mkF m 39 #[iv x0, iv x1, iv (3 : Int32), rv b1, rv b3, iv (2 : Int32)] [(.ref b1), (.int (3 : Int32)), (.long (r5 x0)), (.int (2 : Int32)), (.ref b3)])) rfl (rest := [(.int (3 : Int32)), (.long (r5 x0)), (.int (2 : Int32)), (.ref b3)]) rfl (hb hby d8_39) _ ?_
    rw [len_of S26 M26]
    exact k
  have hc40_27 : ¬ ((3 : Int32) < (3 : Int32)) := Int32.lt_irrefl
  refine Goes.st (B := T25.setTop (mkF m 56 #[iv x0, iv x1, iv (3 : Int32), rv b1, rv b3, iv (2 : Int32)] [(.long (r5 x0)), (.int (2 : Int32)), (.ref b3)])) (fun t k => ?_) ?_
  · refine XS.icmpYes X25.here hx rfl (pc0 := 40) (pc' := 56) rfl (hb hby d8_40) rfl (flt hc40_27).2.1 (by decide) (by decide) ?_
    exact k
  refine Goes.run X25 hx hown hci hcl hby (L := [(56, .lconst 0, 1), (57, .ladd, 1)]) (by decide +kernel) rfl (g' := (mkF m 58 #[iv x0, iv x1, iv (3 : Int32), rv b1, rv b3, iv (2 : Int32)] [(.long ((r5 x0) + (0 : Int64))), (.int (2 : Int32)), (.ref b3)])) rfl ?_
  obtain ⟨cl28, Ar28, q28, S28, M28, Hs28, G28⟩ := id V_b3
  have hin28 : ¬ ((2 : Int32) < 0 ∨ cl28.slots.size ≤ ((2 : Int32)).toNatClampNeg) := inb_of S28 ⟨(by decide), (by decide)⟩
  obtain ⟨T28, h28, X28, e28, W28, st28⟩ := stJ X25 hx hZ e25 Ar28 (j := (2 : Int32)) hin28 (g := (mkF m 58 #[iv x0, iv x1, iv (3 : Int32), rv b1, rv b3, iv (2 : Int32)] [(.long ((r5 x0) + (0 : Int64))), (.int (2 : Int32)), (.ref b3)])) rfl rfl (hb hby d8_58)
  have E_b1 := E_b1.wr W28
  have V_b1 := V_b1.other W28 ne_b1_b3
  have E_b3 := E_b3.wr W28
  have Zn28 : n0 ≤ h28.size := Nat.le_trans Zn21 (Keep.of_wr W28).1
  have K28 := K21.wr W28 (Or.inr sz_b3)
  have N28 := Fr.snoc X28 N25 g_b3
  have V_b3 : Arv Z h28 b3 k3 .long (3 : Int32) [(.long ((r5 x1) + (r7 x0 (c93_50_0 x0 x1)))), (.long ((r5 (c93_50_0 x0 x1)) + (r7 x0 x0))), (.long ((r5 x0) + (0 : Int64)))] (.long (0 : Int64)) := Arv.set Ar28 q28 S28 M28 Hs28 G28 rfl W28 2 rfl (Nat.le_of_ble_eq_true rfl)
  refine Goes.st (B := T28.setTop (mkF m 59 #[iv x0, iv x1, iv (3 : Int32), rv b1, rv b3, iv (2 : Int32)] [])) st28 ?_
  refine Goes.run X28 hx hown hci hcl hby (L := [(59, .iinc 5 1, 3), (62, .goto (-46), 3), (16, .iload 5, 2), (18, .aload_n 3, 1)]) (by decide +kernel) rfl (g' := (mkF m 19 #[iv x0, iv x1, iv (3 : Int32), rv b1, rv b3, iv (3 : Int32)] [(.ref b1), (.int (3 : Int32))])) rfl ?_
  obtain ⟨cl29, Ar29, q29, S29, M29, Hs29, G29⟩ := id V_b1
  refine Goes.st (B := T28.setTop (mkF m 20 #[iv x0, iv x1, iv (3 : Int32), rv b1, rv b3, iv (3 : Int32)] [(.int (3 : Int32)), (.int (3 : Int32))])) (fun t k => ?_) ?_
  · refine X28.arraylength hx (cell := cl29) (by rw [e28]; exact Ar29.1) (State.isArrayOf_alike hZ.alike Ar29.2.1) (g := (mkF m 19 #[iv x0, iv x1, iv (3 : Int32), rv b1, rv b3, iv (3 : Int32)] [(.ref b1), (.int (3 : Int32))])) rfl (rest := [(.int (3 : Int32))]) rfl (hb hby d8_19) _ ?_
    rw [len_of S29 M29]
    exact k
  have hc20_30 : ¬ ((3 : Int32) < (3 : Int32)) := Int32.lt_irrefl
  refine Goes.st (B := T28.setTop (mkF m 65 #[iv x0, iv x1, iv (3 : Int32), rv b1, rv b3, iv (3 : Int32)] [])) (fun t k => ?_) ?_
  · refine XS.icmpYes X28.here hx rfl (pc0 := 20) (pc' := 65) rfl (hb hby d8_20) rfl (flt hc20_30).2.1 (by decide) (by decide) ?_
    exact k
  refine Goes.run X28 hx hown hci hcl hby (L := [(65, .aload 4, 2)]) (by decide +kernel) rfl (g' := (mkF m 67 #[iv x0, iv x1, iv (3 : Int32), rv b1, rv b3, iv (3 : Int32)] [(.ref b3)])) rfl ?_
  refine Goes.retR X28 hx hlk Bd.returns rfl rfl (hb hby d8_67) ?_ (by decide) (by decide)
  show (Q93 Z x0 x1 h0 n0) _ _ _
  rw [e28]
  exact ⟨b3, k3, rfl, N28, K28, sz_b3, E_b3, V_b3⟩
theorem pn84 : plainName "com/example/eriu/eriu/algorithm/GroupElection" = true := by first | (simp [plainName, overriddenIn]; done) | decide +kernel
theorem pd84_0 : parseMethodDescriptor "(I)I" = some ⟨[.int], some .int⟩ := by decide +kernel
theorem ef84 (m : MethodId) (x0 : Int32) (x1 : Int32) : entryFrame m #[(.int x0), (.int x1), (.int (4 : Int32))] 5 = (mkF m 0 #[iv x0, iv x1, iv (4 : Int32), .unset, .unset] []) := by first | (simp [entryFrame, mkF, argsToLocals, Value.category]; done) | rfl
def Q84 (Z : State) (x0 : Int32) (x1 : Int32) (h0 : Heap) (n0 : Nat) (v : Option Value) (h : Heap) (L : List Loc) : Prop := ∃ (b : Addr) (k : ClassId), v = some (.ref b) ∧ Fr n0 L ∧ Keep h0 h [] ∧ h0.size ≤ b ∧ Exa Z h b "[I" ∧ Arv Z h b k .int (4 : Int32) [(.int x1), (.int ((2 : Int32) * x1)), (.int ((2 : Int32) * ((2 : Int32) * x1))), (.int x0)] (.int (0 : Int32))
set_option maxRecDepth 65536 in
set_option maxHeartbeats 40000000 in
theorem rm84 (l : Launch) (Z : State) (a0 : Array Value) (hw : ∀ d ∈ tables_1, d.before a0 Z = true) (ws : List Jvm.Cond) (x0 : Int32) (x1 : Int32) (h0 : Heap) (n0 : Nat) (Z0 : n0 ≤ h0.size) (p1 : ¬ (x0 < (1 : Int32))) (p2 : ¬ (x1 < (1 : Int32))) (p4 : (2 : Int32) < (r3 x1)) :
    MetFree l ym6 (head1 (Jvm.Cond.code ym6 prog_4_method_19_code 5 (some (.array .int)) :: ws) ({ frames := 1, cells := 1, slots := 8, locals := 14 } : Room)) (fun a U => a = #[(.int x0), (.int x1), (.int (4 : Int32))] ∧ Z.Warmed39 U.vm ∧ U.heap = h0) (fun _ _ _ _ _ => True) (fun _ U o U' => ∃ v L, o = .returned v ∧ (Q84 Z x0 x1 h0 n0) v U'.heap L ∧ FrameEnd U o U' L ({ frames := 1, cells := 1, slots := 8, locals := 14 } : Room).cells ({ frames := 1, cells := 1, slots := 8, locals := 14 } : Room).slots) := by
  refine MetFree.of_bodySF (plainFor_of_name pn84) hisR ?_
  intro p e s m args below meth c s₁ Bd hml0 hP hK
  obtain ⟨rfl, hZ, hh⟩ := hP
  have hx := Bd.exec
  have hby := Bd.bytes
  have hml : c.maxLocals = 5 := hml0
  have hlk : meth.locks = false := BodyLoose.notSynchronized Bd
  have hown : s.vm.findClass "com/example/eriu/eriu/algorithm/GroupElection" = some m.cls := findClass_of_methodNamed Bd.named
  have hnm := (name_of_methodNamed Bd.named Bd.method).1
  have w_12 := hw _ (List.mem_of_getElem? (i := 12) rfl)
  have w_13 := hw _ (List.mem_of_getElem? (i := 13) rfl)
  have w_14 := hw _ (List.mem_of_getElem? (i := 14) rfl)
  have w_15 := hw _ (List.mem_of_getElem? (i := 15) rfl)
  have w_17 := hw _ (List.mem_of_getElem? (i := 17) rfl)
  have w_22 := hw _ (List.mem_of_getElem? (i := 22) rfl)
  have w_26 := hw _ (List.mem_of_getElem? (i := 26) rfl)
  have hci : ∀ i v, (i, v) ∈ ([] : List (Nat × Int32)) → (Jvm.Cond.constant "com/example/eriu/eriu/algorithm/GroupElection" i v).before #[(.int x0), (.int x1), (.int (4 : Int32))] s = true := own_ci0
  have hcl : ∀ i v, (i, v) ∈ ([(215, 2), (236, 3)] : List (Nat × Int64)) → (Jvm.Cond.constantLong "com/example/eriu/eriu/algorithm/GroupElection" i v).before #[(.int x0), (.int x1), (.int (4 : Int32))] s = true := (own_ciS (mvT hZ w_22) (own_ciS (mvT hZ w_26) own_ci0))
  have X0 : Stand p l e ({ frames := 1, cells := 1, slots := 8, locals := 14 } : Room) s m #[(.int x0), (.int x1), (.int (4 : Int32))] below meth c s₁ [] 0 0 := Stand.of_body Bd
  have e0 : s₁.heap = h0 := by rw [← hh, Bd.state]; rfl
  have N0 := Fr.nil n0
  show Goes p e below s (Q84 Z x0 x1 h0 n0) ({ frames := 1, cells := 1, slots := 8, locals := 14 } : Room).cells ({ frames := 1, cells := 1, slots := 8, locals := 14 } : Room).slots (s₁.setTop (entryFrame m #[(.int x0), (.int x1), (.int (4 : Int32))] 5))
  refine Goes.cast (ef84 m x0 x1) ?_
  have K0 : Keep h0 h0 [] := Keep.refl h0 _
  refine Goes.run X0 hx hown hci hcl hby (L := [(0, .iload_n 0, 1), (1, .iconst 1, 1)]) (by decide +kernel) rfl (g' := (mkF m 2 #[iv x0, iv x1, iv (4 : Int32), .unset, .unset] [(.int (1 : Int32)), (.int x0)])) rfl ?_
  have hc2_1 : ¬ (x0 < (1 : Int32)) := p1
  refine Goes.st (B := s₁.setTop (mkF m 5 #[iv x0, iv x1, iv (4 : Int32), .unset, .unset] [])) (fun t k => ?_) ?_
  · refine XS.icmpNo X0.here hx rfl (hb hby d7_2) rfl (flt hc2_1).1 ?_
    exact k
  refine Goes.run X0 hx hown hci hcl hby (L := [(5, .iload_n 1, 1), (6, .iconst 1, 1)]) (by decide +kernel) rfl (g' := (mkF m 7 #[iv x0, iv x1, iv (4 : Int32), .unset, .unset] [(.int (1 : Int32)), (.int x1)])) rfl ?_
  have hc7_2 : ¬ (x1 < (1 : Int32)) := p2
  refine Goes.st (B := s₁.setTop (mkF m 10 #[iv x0, iv x1, iv (4 : Int32), .unset, .unset] [])) (fun t k => ?_) ?_
  · refine XS.icmpNo X0.here hx rfl (hb hby d7_7) rfl (flt hc7_2).1 ?_
    exact k
  refine Goes.run X0 hx hown hci hcl hby (L := [(10, .iload_n 2, 1), (11, .iconst 1, 1)]) (by decide +kernel) rfl (g' := (mkF m 12 #[iv x0, iv x1, iv (4 : Int32), .unset, .unset] [(.int (1 : Int32)), (.int (4 : Int32))])) rfl ?_
  have hc12_3 : ¬ ((4 : Int32) < (1 : Int32)) := by decide
  refine Goes.st (B := s₁.setTop (mkF m 31 #[iv x0, iv x1, iv (4 : Int32), .unset, .unset] [])) (fun t k => ?_) ?_
  · refine XS.icmpYes X0.here hx rfl (pc0 := 12) (pc' := 31) rfl (hb hby d7_12) rfl (flt hc12_3).2.1 (by decide) (by decide) ?_
    exact k
  refine Goes.run X0 hx hown hci hcl hby (L := [(31, .iload_n 2, 1), (32, .iconst 2, 1), (33, .isub, 1), (34, .iload_n 1, 1)]) (by decide +kernel) rfl (g' := (mkF m 35 #[iv x0, iv x1, iv (4 : Int32), .unset, .unset] [(.int x1), (.int (2 : Int32))])) rfl ?_
  obtain ⟨_, _, ⟨T4, L4, k4, n4⟩, -, X4, ⟨Lc4, hQ4, l4, y4, z4⟩, st4⟩ := Jvm.LawKit.callS X0 hx (y := ym1) hown (mvT hZ w_12) (mvT hZ w_13) (mvT hZ w_14) (mvT hZ w_15) (by decide) (backOf (W := 1) (rm3 l Z a0 hw [] x1 h0 n0 Z0 ) hZ w_15 w_14 (by decide) (by decide)) (g := (mkF m 35 #[iv x0, iv x1, iv (4 : Int32), .unset, .unset] [(.int x1), (.int (2 : Int32))])) rfl (by rw [hml]; rfl) (argsL := [(.int x1)]) (rest := [(.int (2 : Int32))]) (lenOf pd84_0 rfl) rfl (by show 2 * 0 + _ ≤ _; exact Nat.le_of_eq rfl) (hb hby d7_35) (fun _ _ => ⟨rfl, e0, (by decide : 0 + 0 ≤ _), (by decide : 0 + 0 ≤ _)⟩)
  dsimp only [Pt.U, Pt.locs, Pt.cells, Pt.slots] at X4 l4 y4 z4 st4 hQ4
  subst l4 y4 z4
  obtain ⟨rfl, N4q, e4⟩ := hQ4
  have N4 := Fr.app N0 N4q
  refine Goes.st (B := T4.setTop (mkF m 38 #[iv x0, iv x1, iv (4 : Int32), .unset, .unset] [(.int (r3 x1)), (.int (2 : Int32))])) st4 ?_
  have hc38_5 : (2 : Int32) < (r3 x1) := p4
  refine Goes.st (B := T4.setTop (mkF m 58 #[iv x0, iv x1, iv (4 : Int32), .unset, .unset] [])) (fun t k => ?_) ?_
  · refine XS.icmpYes X4.here hx rfl (pc0 := 38) (pc' := 58) rfl (hb hby d7_38) rfl (tlt hc38_5).1 (by decide) (by decide) ?_
    exact k
  refine Goes.run X4 hx hown hci hcl hby (L := [(58, .iload_n 2, 1)]) (by decide +kernel) rfl (g' := (mkF m 59 #[iv x0, iv x1, iv (4 : Int32), .unset, .unset] [(.int (4 : Int32))])) rfl ?_
  obtain ⟨T6, h6, k6, X6, e6, E6, A6, B6, st6⟩ := newPE X4 hx hZ (aty := .int) w_17 e4 (g := (mkF m 59 #[iv x0, iv x1, iv (4 : Int32), .unset, .unset] [(.int (4 : Int32))])) rfl (hb hby d7_59) rfl (by decide) (cap := 4) (by decide) (by decide) (by decide) (by decide) (ad := "[I") (by decide)
  obtain ⟨b6, g6⟩ : ∃ z, z = h0.size := ⟨_, rfl⟩
  rw [← g6] at A6 B6 st6
  have g_b6 : n0 ≤ b6 := Nat.le_trans Z0 (Nat.le_of_eq g6.symm)
  have sz_b6 : h0.size ≤ b6 := Nat.le_trans K0.1 (Nat.le_of_eq g6.symm)
  have Zn6 : n0 ≤ h6.size := Nat.le_trans Z0 E6.1
  have K6 := K0.ext E6
  have E_b6 : Exa Z h6 b6 "[I" := B6
  have V_b6 : Arv Z h6 b6 k6 .int (4 : Int32) [(.int (0 : Int32)), (.int (0 : Int32)), (.int (0 : Int32)), (.int (0 : Int32))] (.int (0 : Int32)) := (Arv.new A6 (by decide)).pad (pad_rep [] (.int (0 : Int32)) 4)
  refine Goes.st (B := T6.setTop (mkF m 61 #[iv x0, iv x1, iv (4 : Int32), .unset, .unset] [(.ref b6)])) st6 ?_
  refine Goes.run X6 hx hown hci hcl hby (L := [(61, .astore_n 3, 1), (62, .aload_n 3, 1), (63, .iconst 0, 1), (64, .iload_n 1, 1)]) (by decide +kernel) rfl (g' := (mkF m 65 #[iv x0, iv x1, iv (4 : Int32), rv b6, .unset] [(.int x1), (.int (0 : Int32)), (.ref b6)])) rfl ?_
  obtain ⟨cl7, Ar7, q7, S7, M7, Hs7, G7⟩ := id V_b6
  have hin7 : ¬ ((0 : Int32) < 0 ∨ cl7.slots.size ≤ ((0 : Int32)).toNatClampNeg) := inb_of S7 ⟨(by decide), (by decide)⟩
  obtain ⟨T7, h7, X7, e7, W7, st7⟩ := stI X6 hx hZ e6 Ar7 (j := (0 : Int32)) hin7 (g := (mkF m 65 #[iv x0, iv x1, iv (4 : Int32), rv b6, .unset] [(.int x1), (.int (0 : Int32)), (.ref b6)])) rfl rfl (hb hby d7_65)
  have E_b6 := E_b6.wr W7
  have Zn7 : n0 ≤ h7.size := Nat.le_trans Zn6 (Keep.of_wr W7).1
  have K7 := K6.wr W7 (Or.inr sz_b6)
  have N7 := Fr.snoc X7 N4 g_b6
  have V_b6 : Arv Z h7 b6 k6 .int (4 : Int32) [(.int x1), (.int (0 : Int32)), (.int (0 : Int32)), (.int (0 : Int32))] (.int (0 : Int32)) := Arv.set Ar7 q7 S7 M7 Hs7 G7 rfl W7 0 rfl (Nat.le_of_ble_eq_true rfl)
  refine Goes.st (B := T7.setTop (mkF m 66 #[iv x0, iv x1, iv (4 : Int32), rv b6, .unset] [])) st7 ?_
  refine Goes.run X7 hx hown hci hcl hby (L := [(66, .iconst 1, 1), (67, .istore 4, 2), (69, .iload 4, 2), (71, .iload_n 2, 1), (72, .iconst 1, 1), (73, .isub, 1)]) (by decide +kernel) rfl (g' := (mkF m 74 #[iv x0, iv x1, iv (4 : Int32), rv b6, iv (1 : Int32)] [(.int (3 : Int32)), (.int (1 : Int32))])) rfl ?_
  have hc74_8 : (1 : Int32) < (3 : Int32) := by decide
  refine Goes.st (B := T7.setTop (mkF m 77 #[iv x0, iv x1, iv (4 : Int32), rv b6, iv (1 : Int32)] [])) (fun t k => ?_) ?_
  · refine XS.icmpNo X7.here hx rfl (hb hby d7_74) rfl (tlt hc74_8).2.1 ?_
    exact k
  refine Goes.run X7 hx hown hci hcl hby (L := [(77, .aload_n 3, 1), (78, .iload 4, 2), (80, .iconst 2, 1), (81, .aload_n 3, 1), (82, .iload 4, 2), (84, .iconst 1, 1)]) (by decide +kernel) rfl (g' := (mkF m 85 #[iv x0, iv x1, iv (4 : Int32), rv b6, iv (1 : Int32)] [(.int (1 : Int32)), (.int (1 : Int32)), (.ref b6), (.int (2 : Int32)), (.int (1 : Int32)), (.ref b6)])) rfl ?_
  refine Goes.run X7 hx hown hci hcl hby (L := [(85, .isub, 1)]) (by decide +kernel) rfl (g' := (mkF m 86 #[iv x0, iv x1, iv (4 : Int32), rv b6, iv (1 : Int32)] [(.int (0 : Int32)), (.ref b6), (.int (2 : Int32)), (.int (1 : Int32)), (.ref b6)])) rfl ?_
  obtain ⟨cl9, Ar9, q9, S9, M9, Hs9, G9⟩ := id V_b6
  have hin9 : ¬ ((0 : Int32) < 0 ∨ cl9.slots.size ≤ ((0 : Int32)).toNatClampNeg) := inb_of S9 ⟨(by decide), (by decide)⟩
  have hat9 : cl9.slots[((0 : Int32)).toNatClampNeg]? = some (.int x1) := Hs9.at hin9 rfl
  refine Goes.st (B := T7.setTop (mkF m 87 #[iv x0, iv x1, iv (4 : Int32), rv b6, iv (1 : Int32)] [(.int x1), (.int (2 : Int32)), (.int (1 : Int32)), (.ref b6)])) (X7.iaload hx (j := (0 : Int32)) (v := (.int x1)) (by rw [e7]; exact Ar9.1) (State.isArrayOf_alike hZ.alike Ar9.2.1) Ar9.2.2 hin9 hat9 (g := (mkF m 86 #[iv x0, iv x1, iv (4 : Int32), rv b6, iv (1 : Int32)] [(.int (0 : Int32)), (.ref b6), (.int (2 : Int32)), (.int (1 : Int32)), (.ref b6)])) rfl rfl (hb hby d7_86)) ?_
  refine Goes.run X7 hx hown hci hcl hby (L := [(87, .imul, 1)]) (by decide +kernel) rfl (g' := (mkF m 88 #[iv x0, iv x1, iv (4 : Int32), rv b6, iv (1 : Int32)] [(.int ((2 : Int32) * x1)), (.int (1 : Int32)), (.ref b6)])) rfl ?_
  obtain ⟨cl10, Ar10, q10, S10, M10, Hs10, G10⟩ := id V_b6
  have hin10 : ¬ ((1 : Int32) < 0 ∨ cl10.slots.size ≤ ((1 : Int32)).toNatClampNeg) := inb_of S10 ⟨(by decide), (by decide)⟩
  obtain ⟨T10, h10, X10, e10, W10, st10⟩ := stI X7 hx hZ e7 Ar10 (j := (1 : Int32)) hin10 (g := (mkF m 88 #[iv x0, iv x1, iv (4 : Int32), rv b6, iv (1 : Int32)] [(.int ((2 : Int32) * x1)), (.int (1 : Int32)), (.ref b6)])) rfl rfl (hb hby d7_88)
  have E_b6 := E_b6.wr W10
  have Zn10 : n0 ≤ h10.size := Nat.le_trans Zn7 (Keep.of_wr W10).1
  have K10 := K7.wr W10 (Or.inr sz_b6)
  have N10 := Fr.snoc X10 N7 g_b6
  have V_b6 : Arv Z h10 b6 k6 .int (4 : Int32) [(.int x1), (.int ((2 : Int32) * x1)), (.int (0 : Int32)), (.int (0 : Int32))] (.int (0 : Int32)) := Arv.set Ar10 q10 S10 M10 Hs10 G10 rfl W10 1 rfl (Nat.le_of_ble_eq_true rfl)
  refine Goes.st (B := T10.setTop (mkF m 89 #[iv x0, iv x1, iv (4 : Int32), rv b6, iv (1 : Int32)] [])) st10 ?_
  refine Goes.run X10 hx hown hci hcl hby (L := [(89, .iinc 4 1, 3), (92, .goto (-23), 3), (69, .iload 4, 2), (71, .iload_n 2, 1), (72, .iconst 1, 1), (73, .isub, 1)]) (by decide +kernel) rfl (g' := (mkF m 74 #[iv x0, iv x1, iv (4 : Int32), rv b6, iv (2 : Int32)] [(.int (3 : Int32)), (.int (2 : Int32))])) rfl ?_
  have hc74_11 : (2 : Int32) < (3 : Int32) := by decide
  refine Goes.st (B := T10.setTop (mkF m 77 #[iv x0, iv x1, iv (4 : Int32), rv b6, iv (2 : Int32)] [])) (fun t k => ?_) ?_
  · refine XS.icmpNo X10.here hx rfl (hb hby d7_74) rfl (tlt hc74_11).2.1 ?_
    exact k
  refine Goes.run X10 hx hown hci hcl hby (L := [(77, .aload_n 3, 1), (78, .iload 4, 2), (80, .iconst 2, 1), (81, .aload_n 3, 1), (82, .iload 4, 2), (84, .iconst 1, 1)]) (by decide +kernel) rfl (g' := (mkF m 85 #[iv x0, iv x1, iv (4 : Int32), rv b6, iv (2 : Int32)] [(.int (1 : Int32)), (.int (2 : Int32)), (.ref b6), (.int (2 : Int32)), (.int (2 : Int32)), (.ref b6)])) rfl ?_
  refine Goes.run X10 hx hown hci hcl hby (L := [(85, .isub, 1)]) (by decide +kernel) rfl (g' := (mkF m 86 #[iv x0, iv x1, iv (4 : Int32), rv b6, iv (2 : Int32)] [(.int (1 : Int32)), (.ref b6), (.int (2 : Int32)), (.int (2 : Int32)), (.ref b6)])) rfl ?_
  obtain ⟨cl12, Ar12, q12, S12, M12, Hs12, G12⟩ := id V_b6
  have hin12 : ¬ ((1 : Int32) < 0 ∨ cl12.slots.size ≤ ((1 : Int32)).toNatClampNeg) := inb_of S12 ⟨(by decide), (by decide)⟩
  have hat12 : cl12.slots[((1 : Int32)).toNatClampNeg]? = some (.int ((2 : Int32) * x1)) := Hs12.at hin12 rfl
  refine Goes.st (B := T10.setTop (mkF m 87 #[iv x0, iv x1, iv (4 : Int32), rv b6, iv (2 : Int32)] [(.int ((2 : Int32) * x1)), (.int (2 : Int32)), (.int (2 : Int32)), (.ref b6)])) (X10.iaload hx (j := (1 : Int32)) (v := (.int ((2 : Int32) * x1))) (by rw [e10]; exact Ar12.1) (State.isArrayOf_alike hZ.alike Ar12.2.1) Ar12.2.2 hin12 hat12 (g := (mkF m 86 #[iv x0, iv x1, iv (4 : Int32), rv b6, iv (2 : Int32)] [(.int (1 : Int32)), (.ref b6), (.int (2 : Int32)), (.int (2 : Int32)), (.ref b6)])) rfl rfl (hb hby d7_86)) ?_
  refine Goes.run X10 hx hown hci hcl hby (L := [(87, .imul, 1)]) (by decide +kernel) rfl (g' := (mkF m 88 #[iv x0, iv x1, iv (4 : Int32), rv b6, iv (2 : Int32)] [(.int ((2 : Int32) * ((2 : Int32) * x1))), (.int (2 : Int32)), (.ref b6)])) rfl ?_
  obtain ⟨cl13, Ar13, q13, S13, M13, Hs13, G13⟩ := id V_b6
  have hin13 : ¬ ((2 : Int32) < 0 ∨ cl13.slots.size ≤ ((2 : Int32)).toNatClampNeg) := inb_of S13 ⟨(by decide), (by decide)⟩
  obtain ⟨T13, h13, X13, e13, W13, st13⟩ := stI X10 hx hZ e10 Ar13 (j := (2 : Int32)) hin13 (g := (mkF m 88 #[iv x0, iv x1, iv (4 : Int32), rv b6, iv (2 : Int32)] [(.int ((2 : Int32) * ((2 : Int32) * x1))), (.int (2 : Int32)), (.ref b6)])) rfl rfl (hb hby d7_88)
  have E_b6 := E_b6.wr W13
  have Zn13 : n0 ≤ h13.size := Nat.le_trans Zn10 (Keep.of_wr W13).1
  have K13 := K10.wr W13 (Or.inr sz_b6)
  have N13 := Fr.snoc X13 N10 g_b6
  have V_b6 : Arv Z h13 b6 k6 .int (4 : Int32) [(.int x1), (.int ((2 : Int32) * x1)), (.int ((2 : Int32) * ((2 : Int32) * x1))), (.int (0 : Int32))] (.int (0 : Int32)) := Arv.set Ar13 q13 S13 M13 Hs13 G13 rfl W13 2 rfl (Nat.le_of_ble_eq_true rfl)
  refine Goes.st (B := T13.setTop (mkF m 89 #[iv x0, iv x1, iv (4 : Int32), rv b6, iv (2 : Int32)] [])) st13 ?_
  refine Goes.run X13 hx hown hci hcl hby (L := [(89, .iinc 4 1, 3), (92, .goto (-23), 3), (69, .iload 4, 2), (71, .iload_n 2, 1), (72, .iconst 1, 1), (73, .isub, 1)]) (by decide +kernel) rfl (g' := (mkF m 74 #[iv x0, iv x1, iv (4 : Int32), rv b6, iv (3 : Int32)] [(.int (3 : Int32)), (.int (3 : Int32))])) rfl ?_
  have hc74_14 : ¬ ((3 : Int32) < (3 : Int32)) := Int32.lt_irrefl
  refine Goes.st (B := T13.setTop (mkF m 95 #[iv x0, iv x1, iv (4 : Int32), rv b6, iv (3 : Int32)] [])) (fun t k => ?_) ?_
  · refine XS.icmpYes X13.here hx rfl (pc0 := 74) (pc' := 95) rfl (hb hby d7_74) rfl (flt hc74_14).2.1 (by decide) (by decide) ?_
    exact k
  refine Goes.run X13 hx hown hci hcl hby (L := [(95, .iload_n 2, 1), (96, .iconst 1, 1)]) (by decide +kernel) rfl (g' := (mkF m 97 #[iv x0, iv x1, iv (4 : Int32), rv b6, iv (3 : Int32)] [(.int (1 : Int32)), (.int (4 : Int32))])) rfl ?_
  have hc97_15 : (1 : Int32) < (4 : Int32) := by decide
  refine Goes.st (B := T13.setTop (mkF m 100 #[iv x0, iv x1, iv (4 : Int32), rv b6, iv (3 : Int32)] [])) (fun t k => ?_) ?_
  · refine XS.icmpNo X13.here hx rfl (hb hby d7_97) rfl (tlt hc97_15).2.2.2 ?_
    exact k
  refine Goes.run X13 hx hown hci hcl hby (L := [(100, .aload_n 3, 1), (101, .iload_n 2, 1), (102, .iconst 1, 1), (103, .isub, 1), (104, .iload_n 0, 1)]) (by decide +kernel) rfl (g' := (mkF m 105 #[iv x0, iv x1, iv (4 : Int32), rv b6, iv (3 : Int32)] [(.int x0), (.int (3 : Int32)), (.ref b6)])) rfl ?_
  obtain ⟨cl16, Ar16, q16, S16, M16, Hs16, G16⟩ := id V_b6
  have hin16 : ¬ ((3 : Int32) < 0 ∨ cl16.slots.size ≤ ((3 : Int32)).toNatClampNeg) := inb_of S16 ⟨(by decide), (by decide)⟩
  obtain ⟨T16, h16, X16, e16, W16, st16⟩ := stI X13 hx hZ e13 Ar16 (j := (3 : Int32)) hin16 (g := (mkF m 105 #[iv x0, iv x1, iv (4 : Int32), rv b6, iv (3 : Int32)] [(.int x0), (.int (3 : Int32)), (.ref b6)])) rfl rfl (hb hby d7_105)
  have E_b6 := E_b6.wr W16
  have Zn16 : n0 ≤ h16.size := Nat.le_trans Zn13 (Keep.of_wr W16).1
  have K16 := K13.wr W16 (Or.inr sz_b6)
  have N16 := Fr.snoc X16 N13 g_b6
  have V_b6 : Arv Z h16 b6 k6 .int (4 : Int32) [(.int x1), (.int ((2 : Int32) * x1)), (.int ((2 : Int32) * ((2 : Int32) * x1))), (.int x0)] (.int (0 : Int32)) := Arv.set Ar16 q16 S16 M16 Hs16 G16 rfl W16 3 rfl (Nat.le_of_ble_eq_true rfl)
  refine Goes.st (B := T16.setTop (mkF m 106 #[iv x0, iv x1, iv (4 : Int32), rv b6, iv (3 : Int32)] [])) st16 ?_
  refine Goes.run X16 hx hown hci hcl hby (L := [(106, .aload_n 3, 1)]) (by decide +kernel) rfl (g' := (mkF m 107 #[iv x0, iv x1, iv (4 : Int32), rv b6, iv (3 : Int32)] [(.ref b6)])) rfl ?_
  refine Goes.retR X16 hx hlk Bd.returns rfl rfl (hb hby d7_107) ?_ (by decide) (by decide)
  show (Q84 Z x0 x1 h0 n0) _ _ _
  rw [e16]
  exact ⟨b6, k6, rfl, N16, K16, sz_b6, E_b6, V_b6⟩
theorem pn94 : plainName "com/example/eriu/eriu/algorithm/GroupElection" = true := by first | (simp [plainName, overriddenIn]; done) | decide +kernel
theorem pd94_0 : parseMethodDescriptor "(III)[I" = some ⟨[.int, .int, .int], some (.array .int)⟩ := by decide +kernel
theorem pd94_1 : parseMethodDescriptor "(I)J" = some ⟨[.int], some .long⟩ := by decide +kernel
theorem pd94_2 : parseMethodDescriptor "(II)J" = some ⟨[.int, .int], some .long⟩ := by decide +kernel
theorem ef94 (m : MethodId) (x0 : Int32) (x1 : Int32) : entryFrame m #[(.int x0), (.int x1), (.int (4 : Int32))] 6 = (mkF m 0 #[iv x0, iv x1, iv (4 : Int32), .unset, .unset, .unset] []) := by first | (simp [entryFrame, mkF, argsToLocals, Value.category]; done) | rfl
def c94_50_0 (x0 : Int32) (x1 : Int32) : Int32 := ((2 : Int32) * x1)
def c94_50_0_a (x0 : Int32) (x1 : Int32) : Int32 := ((2 : Int32) * ((2 : Int32) * x1))
def Q94 (Z : State) (x0 : Int32) (x1 : Int32) (h0 : Heap) (n0 : Nat) (v : Option Value) (h : Heap) (L : List Loc) : Prop := ∃ (b : Addr) (k : ClassId), v = some (.ref b) ∧ Fr n0 L ∧ Keep h0 h [] ∧ h0.size ≤ b ∧ Exa Z h b "[J" ∧ Arv Z h b k .long (4 : Int32) [(.long ((r5 x1) + (r7 x0 (c94_50_0 x0 x1)))), (.long ((r5 (c94_50_0 x0 x1)) + (r7 x0 (c94_50_0_a x0 x1)))), (.long ((r5 (c94_50_0_a x0 x1)) + (r7 x0 x0))), (.long ((r5 x0) + (0 : Int64)))] (.long (0 : Int64))
set_option maxRecDepth 65536 in
set_option maxHeartbeats 40000000 in
theorem rm94 (l : Launch) (Z : State) (a0 : Array Value) (hw : ∀ d ∈ tables_1, d.before a0 Z = true) (ws : List Jvm.Cond) (x0 : Int32) (x1 : Int32) (h0 : Heap) (n0 : Nat) (Z0 : n0 ≤ h0.size) (p1 : ¬ (x0 < (1 : Int32))) (p2 : ¬ (x1 < (1 : Int32))) (p4 : (2 : Int32) < (r3 x1)) (s1 : ¬ (((2 : Int32) * x1) < (1 : Int32))) (s2 : ¬ (((2 : Int32) * ((2 : Int32) * x1)) < (1 : Int32))) (s3 : ¬ (x0 < (1 : Int32))) :
    MetFree l ym7 (head1 (Jvm.Cond.code ym7 prog_4_method_3_code 6 (some (.array .long)) :: ws) ({ frames := 2, cells := 2, slots := 16, locals := 40 } : Room)) (fun a U => a = #[(.int x0), (.int x1), (.int (4 : Int32))] ∧ Z.Warmed39 U.vm ∧ U.heap = h0) (fun _ _ _ _ _ => True) (fun _ U o U' => ∃ v L, o = .returned v ∧ (Q94 Z x0 x1 h0 n0) v U'.heap L ∧ FrameEnd U o U' L ({ frames := 2, cells := 2, slots := 16, locals := 40 } : Room).cells ({ frames := 2, cells := 2, slots := 16, locals := 40 } : Room).slots) := by
  refine MetFree.of_bodySF (plainFor_of_name pn94) hisR ?_
  intro p e s m args below meth c s₁ Bd hml0 hP hK
  obtain ⟨rfl, hZ, hh⟩ := hP
  have hx := Bd.exec
  have hby := Bd.bytes
  have hml : c.maxLocals = 6 := hml0
  have hlk : meth.locks = false := BodyLoose.notSynchronized Bd
  have hown : s.vm.findClass "com/example/eriu/eriu/algorithm/GroupElection" = some m.cls := findClass_of_methodNamed Bd.named
  have hnm := (name_of_methodNamed Bd.named Bd.method).1
  have w_7 := hw _ (List.mem_of_getElem? (i := 7) rfl)
  have w_9 := hw _ (List.mem_of_getElem? (i := 9) rfl)
  have w_10 := hw _ (List.mem_of_getElem? (i := 10) rfl)
  have w_11 := hw _ (List.mem_of_getElem? (i := 11) rfl)
  have w_18 := hw _ (List.mem_of_getElem? (i := 18) rfl)
  have w_19 := hw _ (List.mem_of_getElem? (i := 19) rfl)
  have w_20 := hw _ (List.mem_of_getElem? (i := 20) rfl)
  have w_21 := hw _ (List.mem_of_getElem? (i := 21) rfl)
  have w_22 := hw _ (List.mem_of_getElem? (i := 22) rfl)
  have w_26 := hw _ (List.mem_of_getElem? (i := 26) rfl)
  have w_27 := hw _ (List.mem_of_getElem? (i := 27) rfl)
  have w_28 := hw _ (List.mem_of_getElem? (i := 28) rfl)
  have w_29 := hw _ (List.mem_of_getElem? (i := 29) rfl)
  have hci : ∀ i v, (i, v) ∈ ([] : List (Nat × Int32)) → (Jvm.Cond.constant "com/example/eriu/eriu/algorithm/GroupElection" i v).before #[(.int x0), (.int x1), (.int (4 : Int32))] s = true := own_ci0
  have hcl : ∀ i v, (i, v) ∈ ([(215, 2), (236, 3)] : List (Nat × Int64)) → (Jvm.Cond.constantLong "com/example/eriu/eriu/algorithm/GroupElection" i v).before #[(.int x0), (.int x1), (.int (4 : Int32))] s = true := (own_ciS (mvT hZ w_22) (own_ciS (mvT hZ w_26) own_ci0))
  have X0 : Stand p l e ({ frames := 2, cells := 2, slots := 16, locals := 40 } : Room) s m #[(.int x0), (.int x1), (.int (4 : Int32))] below meth c s₁ [] 0 0 := Stand.of_body Bd
  have e0 : s₁.heap = h0 := by rw [← hh, Bd.state]; rfl
  have N0 := Fr.nil n0
  show Goes p e below s (Q94 Z x0 x1 h0 n0) ({ frames := 2, cells := 2, slots := 16, locals := 40 } : Room).cells ({ frames := 2, cells := 2, slots := 16, locals := 40 } : Room).slots (s₁.setTop (entryFrame m #[(.int x0), (.int x1), (.int (4 : Int32))] 6))
  refine Goes.cast (ef94 m x0 x1) ?_
  have K0 : Keep h0 h0 [] := Keep.refl h0 _
  refine Goes.run X0 hx hown hci hcl hby (L := [(0, .iload_n 0, 1), (1, .iload_n 1, 1), (2, .iload_n 2, 1)]) (by decide +kernel) rfl (g' := (mkF m 3 #[iv x0, iv x1, iv (4 : Int32), .unset, .unset, .unset] [(.int (4 : Int32)), (.int x1), (.int x0)])) rfl ?_
  obtain ⟨_, _, ⟨T1, L1, k1, n1⟩, -, X1, ⟨Lc1, hQ1, l1, y1, z1⟩, st1⟩ := Jvm.LawKit.callS X0 hx (y := ym6) hown (mvT hZ w_9) (mvT hZ w_10) (mvT hZ w_7) (mvT hZ w_11) (by decide) (backOf (W := 0) (rm84 l Z a0 hw [] x0 x1 h0 n0 Z0 p1 p2 p4) hZ w_11 w_7 (by decide) (by decide)) (g := (mkF m 3 #[iv x0, iv x1, iv (4 : Int32), .unset, .unset, .unset] [(.int (4 : Int32)), (.int x1), (.int x0)])) rfl (by rw [hml]; rfl) (argsL := [(.int x0), (.int x1), (.int (4 : Int32))]) (rest := []) (lenOf pd94_0 rfl) rfl (by show 2 * 0 + _ ≤ _; exact Nat.le_of_eq rfl) (hb hby d8_3) (fun _ _ => ⟨rfl, e0, (by decide : 0 + 1 ≤ _), (by decide : 0 + 8 ≤ _)⟩)
  dsimp only [Pt.U, Pt.locs, Pt.cells, Pt.slots] at X1 l1 y1 z1 st1 hQ1
  subst l1 y1 z1
  obtain ⟨h1, eh1⟩ : ∃ z, z = T1.heap := ⟨_, rfl⟩
  rw [← eh1] at hQ1
  have e1 : T1.heap = h1 := eh1.symm
  obtain ⟨b1, kc1, rfl, N1q, Kq1, szq1, o1_0, o1_1⟩ := hQ1
  have g_b1 : n0 ≤ b1 := Nat.le_trans Z0 szq1
  have sz_b1 : h0.size ≤ b1 := Nat.le_trans K0.1 szq1
  have N1 := Fr.app N0 N1q
  have E_b1 : Exa Z h1 b1 "[I" := o1_0
  have V_b1 : Arv Z h1 b1 kc1 .int (4 : Int32) [(.int x1), (.int ((2 : Int32) * x1)), (.int ((2 : Int32) * ((2 : Int32) * x1))), (.int x0)] (.int (0 : Int32)) := o1_1
  have Zn1 : n0 ≤ h1.size := Nat.le_trans Z0 Kq1.1
  have K1 := K0.trans Kq1 (all0)
  refine Goes.st (B := T1.setTop (mkF m 6 #[iv x0, iv x1, iv (4 : Int32), .unset, .unset, .unset] [(.ref b1)])) st1 ?_
  refine Goes.run X1 hx hown hci hcl hby (L := [(6, .astore_n 3, 1), (7, .aload_n 3, 1)]) (by decide +kernel) rfl (g' := (mkF m 8 #[iv x0, iv x1, iv (4 : Int32), rv b1, .unset, .unset] [(.ref b1)])) rfl ?_
  obtain ⟨cl2, Ar2, q2, S2, M2, Hs2, G2⟩ := id V_b1
  refine Goes.st (B := T1.setTop (mkF m 9 #[iv x0, iv x1, iv (4 : Int32), rv b1, .unset, .unset] [(.int (4 : Int32))])) (fun t k => ?_) ?_
  · refine X1.arraylength hx (cell := cl2) (by rw [e1]; exact Ar2.1) (State.isArrayOf_alike hZ.alike Ar2.2.1) (g := (mkF m 8 #[iv x0, iv x1, iv (4 : Int32), rv b1, .unset, .unset] [(.ref b1)])) rfl (rest := []) rfl (hb hby d8_8) _ ?_
    rw [len_of S2 M2]
    exact k
  obtain ⟨T3, h3, k3, X3, e3, E3, A3, B3, st3⟩ := newPE X1 hx hZ (aty := .long) w_18 e1 (g := (mkF m 9 #[iv x0, iv x1, iv (4 : Int32), rv b1, .unset, .unset] [(.int (4 : Int32))])) rfl (hb hby d8_9) rfl (by decide) (cap := 4) (by decide) (by decide) (by decide) (by decide) (ad := "[J") (by decide)
  obtain ⟨b3, g3⟩ : ∃ z, z = h1.size := ⟨_, rfl⟩
  rw [← g3] at A3 B3 st3
  have ne_b1_b3 : b1 ≠ b3 := Nat.ne_of_lt (Nat.lt_of_lt_of_le E_b1.lt (Nat.le_of_eq g3.symm))
  have g_b3 : n0 ≤ b3 := Nat.le_trans Zn1 (Nat.le_of_eq g3.symm)
  have sz_b3 : h0.size ≤ b3 := Nat.le_trans K1.1 (Nat.le_of_eq g3.symm)
  have E_b1 := E_b1.ext E3
  have V_b1 := V_b1.ext E3
  have Zn3 : n0 ≤ h3.size := Nat.le_trans Zn1 E3.1
  have K3 := K1.ext E3
  have E_b3 : Exa Z h3 b3 "[J" := B3
  have V_b3 : Arv Z h3 b3 k3 .long (4 : Int32) [(.long (0 : Int64)), (.long (0 : Int64)), (.long (0 : Int64)), (.long (0 : Int64))] (.long (0 : Int64)) := (Arv.new A3 (by decide)).pad (pad_rep [] (.long (0 : Int64)) 4)
  refine Goes.st (B := T3.setTop (mkF m 11 #[iv x0, iv x1, iv (4 : Int32), rv b1, .unset, .unset] [(.ref b3)])) st3 ?_
  refine Goes.run X3 hx hown hci hcl hby (L := [(11, .astore 4, 2), (13, .iconst 0, 1), (14, .istore 5, 2), (16, .iload 5, 2), (18, .aload_n 3, 1)]) (by decide +kernel) rfl (g' := (mkF m 19 #[iv x0, iv x1, iv (4 : Int32), rv b1, rv b3, iv (0 : Int32)] [(.ref b1), (.int (0 : Int32))])) rfl ?_
  obtain ⟨cl4, Ar4, q4, S4, M4, Hs4, G4⟩ := id V_b1
  refine Goes.st (B := T3.setTop (mkF m 20 #[iv x0, iv x1, iv (4 : Int32), rv b1, rv b3, iv (0 : Int32)] [(.int (4 : Int32)), (.int (0 : Int32))])) (fun t k => ?_) ?_
  · refine X3.arraylength hx (cell := cl4) (by rw [e3]; exact Ar4.1) (State.isArrayOf_alike hZ.alike Ar4.2.1) (g := (mkF m 19 #[iv x0, iv x1, iv (4 : Int32), rv b1, rv b3, iv (0 : Int32)] [(.ref b1), (.int (0 : Int32))])) rfl (rest := [(.int (0 : Int32))]) rfl (hb hby d8_19) _ ?_
    rw [len_of S4 M4]
    exact k
  have hc20_5 : (0 : Int32) < (4 : Int32) := by decide
  refine Goes.st (B := T3.setTop (mkF m 23 #[iv x0, iv x1, iv (4 : Int32), rv b1, rv b3, iv (0 : Int32)] [])) (fun t k => ?_) ?_
  · refine XS.icmpNo X3.here hx rfl (hb hby d8_20) rfl (tlt hc20_5).2.1 ?_
    exact k
  refine Goes.run X3 hx hown hci hcl hby (L := [(23, .aload 4, 2), (25, .iload 5, 2), (27, .aload_n 3, 1), (28, .iload 5, 2)]) (by decide +kernel) rfl (g' := (mkF m 30 #[iv x0, iv x1, iv (4 : Int32), rv b1, rv b3, iv (0 : Int32)] [(.int (0 : Int32)), (.ref b1), (.int (0 : Int32)), (.ref b3)])) rfl ?_
  obtain ⟨cl6, Ar6, q6, S6, M6, Hs6, G6⟩ := id V_b1
  have hin6 : ¬ ((0 : Int32) < 0 ∨ cl6.slots.size ≤ ((0 : Int32)).toNatClampNeg) := inb_of S6 ⟨(by decide), (by decide)⟩
  have hat6 : cl6.slots[((0 : Int32)).toNatClampNeg]? = some (.int x1) := Hs6.at hin6 rfl
  refine Goes.st (B := T3.setTop (mkF m 31 #[iv x0, iv x1, iv (4 : Int32), rv b1, rv b3, iv (0 : Int32)] [(.int x1), (.int (0 : Int32)), (.ref b3)])) (X3.iaload hx (j := (0 : Int32)) (v := (.int x1)) (by rw [e3]; exact Ar6.1) (State.isArrayOf_alike hZ.alike Ar6.2.1) Ar6.2.2 hin6 hat6 (g := (mkF m 30 #[iv x0, iv x1, iv (4 : Int32), rv b1, rv b3, iv (0 : Int32)] [(.int (0 : Int32)), (.ref b1), (.int (0 : Int32)), (.ref b3)])) rfl rfl (hb hby d8_30)) ?_
  obtain ⟨_, _, ⟨T7, L7, k7, n7⟩, -, X7, ⟨Lc7, hQ7, l7, y7, z7⟩, st7⟩ := Jvm.LawKit.callS X3 hx (y := ym3) hown (mvT hZ w_19) (mvT hZ w_20) (mvT hZ w_7) (mvT hZ w_21) (by decide) (backOf (W := 2) (rm5 l Z a0 hw [] x1 h3 n0 Zn3 ) hZ w_21 w_7 (by decide) (by decide)) (g := (mkF m 31 #[iv x0, iv x1, iv (4 : Int32), rv b1, rv b3, iv (0 : Int32)] [(.int x1), (.int (0 : Int32)), (.ref b3)])) rfl (by rw [hml]; rfl) (argsL := [(.int x1)]) (rest := [(.int (0 : Int32)), (.ref b3)]) (lenOf pd94_1 rfl) rfl (by show 2 * 0 + _ ≤ _; exact Nat.le_of_eq rfl) (hb hby d8_31) (fun _ _ => ⟨rfl, e3, (by decide : 2 + 0 ≤ _), (by decide : 12 + 0 ≤ _)⟩)
  dsimp only [Pt.U, Pt.locs, Pt.cells, Pt.slots] at X7 l7 y7 z7 st7 hQ7
  subst l7 y7 z7
  obtain ⟨rfl, N7q, e7⟩ := hQ7
  have N7 := Fr.app N1 N7q
  refine Goes.st (B := T7.setTop (mkF m 34 #[iv x0, iv x1, iv (4 : Int32), rv b1, rv b3, iv (0 : Int32)] [(.long (r5 x1)), (.int (0 : Int32)), (.ref b3)])) st7 ?_
  refine Goes.run X7 hx hown hci hcl hby (L := [(34, .iload 5, 2), (36, .iconst 1, 1), (37, .iadd, 1), (38, .aload_n 3, 1)]) (by decide +kernel) rfl (g' := (mkF m 39 #[iv x0, iv x1, iv (4 : Int32), rv b1, rv b3, iv (0 : Int32)] [(.ref b1), (.int (1 : Int32)), (.long (r5 x1)), (.int (0 : Int32)), (.ref b3)])) rfl ?_
  obtain ⟨cl8, Ar8, q8, S8, M8, Hs8, G8⟩ := id V_b1
  refine Goes.st (B := T7.setTop (mkF m 40 #[iv x0, iv x1, iv (4 : Int32), rv b1, rv b3, iv (0 : Int32)] [(.int (4 : Int32)), (.int (1 : Int32)), (.long (r5 x1)), (.int (0 : Int32)), (.ref b3)])) (fun t k => ?_) ?_
  · refine X7.arraylength hx (cell := cl8) (by rw [e7]; exact Ar8.1) (State.isArrayOf_alike hZ.alike Ar8.2.1) (g := (mkF m 39 #[iv x0, iv x1, iv (4 : Int32), rv b1, rv b3, iv (0 : Int32)] [(.ref b1), (.int (1 : Int32)), (.long (r5 x1)), (.int (0 : Int32)), (.ref b3)])) rfl (rest := [(.int (1 : Int32)), (.long (r5 x1)), (.int (0 : Int32)), (.ref b3)]) rfl (hb hby d8_39) _ ?_
    rw [len_of S8 M8]
    exact k
  have hc40_9 : (1 : Int32) < (4 : Int32) := by decide
  refine Goes.st (B := T7.setTop (mkF m 43 #[iv x0, iv x1, iv (4 : Int32), rv b1, rv b3, iv (0 : Int32)] [(.long (r5 x1)), (.int (0 : Int32)), (.ref b3)])) (fun t k => ?_) ?_
  · refine XS.icmpNo X7.here hx rfl (hb hby d8_40) rfl (tlt hc40_9).2.1 ?_
    exact k
  refine Goes.run X7 hx hown hci hcl hby (L := [(43, .iload_n 0, 1), (44, .aload_n 3, 1), (45, .iload 5, 2), (47, .iconst 1, 1), (48, .iadd, 1)]) (by decide +kernel) rfl (g' := (mkF m 49 #[iv x0, iv x1, iv (4 : Int32), rv b1, rv b3, iv (0 : Int32)] [(.int (1 : Int32)), (.ref b1), (.int x0), (.long (r5 x1)), (.int (0 : Int32)), (.ref b3)])) rfl ?_
  obtain ⟨cl10, Ar10, q10, S10, M10, Hs10, G10⟩ := id V_b1
  have hin10 : ¬ ((1 : Int32) < 0 ∨ cl10.slots.size ≤ ((1 : Int32)).toNatClampNeg) := inb_of S10 ⟨(by decide), (by decide)⟩
  have hat10 : cl10.slots[((1 : Int32)).toNatClampNeg]? = some (.int ((2 : Int32) * x1)) := Hs10.at hin10 rfl
  refine Goes.st (B := T7.setTop (mkF m 50 #[iv x0, iv x1, iv (4 : Int32), rv b1, rv b3, iv (0 : Int32)] [(.int ((2 : Int32) * x1)), (.int x0), (.long (r5 x1)), (.int (0 : Int32)), (.ref b3)])) (X7.iaload hx (j := (1 : Int32)) (v := (.int ((2 : Int32) * x1))) (by rw [e7]; exact Ar10.1) (State.isArrayOf_alike hZ.alike Ar10.2.1) Ar10.2.2 hin10 hat10 (g := (mkF m 49 #[iv x0, iv x1, iv (4 : Int32), rv b1, rv b3, iv (0 : Int32)] [(.int (1 : Int32)), (.ref b1), (.int x0), (.long (r5 x1)), (.int (0 : Int32)), (.ref b3)])) rfl rfl (hb hby d8_49)) ?_
  obtain ⟨_, _, ⟨T11, L11, k11, n11⟩, -, X11, ⟨Lc11, hQ11, l11, y11, z11⟩, st11⟩ := Jvm.LawKit.callS X7 hx (y := ym5) hown (mvT hZ w_27) (mvT hZ w_28) (mvT hZ w_7) (mvT hZ w_29) (by decide) (backOf (W := 4) (rm7 l Z a0 hw [] x0 (c94_50_0 x0 x1) h3 n0 Zn3 (by first | assumption | exact p1 | exact p2)) hZ w_29 w_7 (by decide) (by decide)) (g := (mkF m 50 #[iv x0, iv x1, iv (4 : Int32), rv b1, rv b3, iv (0 : Int32)] [(.int (c94_50_0 x0 x1)), (.int x0), (.long (r5 x1)), (.int (0 : Int32)), (.ref b3)])) rfl (by rw [hml]; rfl) (argsL := [(.int x0), (.int (c94_50_0 x0 x1))]) (rest := [(.long (r5 x1)), (.int (0 : Int32)), (.ref b3)]) (lenOf pd94_2 rfl) rfl (by show 2 * 0 + _ ≤ _; exact Nat.le_of_eq rfl) (hb hby d8_50) (fun _ _ => ⟨rfl, e7, (by decide : 2 + 0 ≤ _), (by decide : 12 + 0 ≤ _)⟩)
  dsimp only [Pt.U, Pt.locs, Pt.cells, Pt.slots] at X11 l11 y11 z11 st11 hQ11
  subst l11 y11 z11
  obtain ⟨rfl, N11q, e11⟩ := hQ11
  have N11 := Fr.app N7 N11q
  refine Goes.st (B := T11.setTop (mkF m 53 #[iv x0, iv x1, iv (4 : Int32), rv b1, rv b3, iv (0 : Int32)] [(.long (r7 x0 (c94_50_0 x0 x1))), (.long (r5 x1)), (.int (0 : Int32)), (.ref b3)])) st11 ?_
  refine Goes.run X11 hx hown hci hcl hby (L := [(53, .goto 4, 3), (57, .ladd, 1)]) (by decide +kernel) rfl (g' := (mkF m 58 #[iv x0, iv x1, iv (4 : Int32), rv b1, rv b3, iv (0 : Int32)] [(.long ((r5 x1) + (r7 x0 (c94_50_0 x0 x1)))), (.int (0 : Int32)), (.ref b3)])) rfl ?_
  obtain ⟨cl12, Ar12, q12, S12, M12, Hs12, G12⟩ := id V_b3
  have hin12 : ¬ ((0 : Int32) < 0 ∨ cl12.slots.size ≤ ((0 : Int32)).toNatClampNeg) := inb_of S12 ⟨(by decide), (by decide)⟩
  obtain ⟨T12, h12, X12, e12, W12, st12⟩ := stJ X11 hx hZ e11 Ar12 (j := (0 : Int32)) hin12 (g := (mkF m 58 #[iv x0, iv x1, iv (4 : Int32), rv b1, rv b3, iv (0 : Int32)] [(.long ((r5 x1) + (r7 x0 (c94_50_0 x0 x1)))), (.int (0 : Int32)), (.ref b3)])) rfl rfl (hb hby d8_58)
  have E_b1 := E_b1.wr W12
  have V_b1 := V_b1.other W12 ne_b1_b3
  have E_b3 := E_b3.wr W12
  have Zn12 : n0 ≤ h12.size := Nat.le_trans Zn3 (Keep.of_wr W12).1
  have K12 := K3.wr W12 (Or.inr sz_b3)
  have N12 := Fr.snoc X12 N11 g_b3
  have V_b3 : Arv Z h12 b3 k3 .long (4 : Int32) [(.long ((r5 x1) + (r7 x0 (c94_50_0 x0 x1)))), (.long (0 : Int64)), (.long (0 : Int64)), (.long (0 : Int64))] (.long (0 : Int64)) := Arv.set Ar12 q12 S12 M12 Hs12 G12 rfl W12 0 rfl (Nat.le_of_ble_eq_true rfl)
  refine Goes.st (B := T12.setTop (mkF m 59 #[iv x0, iv x1, iv (4 : Int32), rv b1, rv b3, iv (0 : Int32)] [])) st12 ?_
  refine Goes.run X12 hx hown hci hcl hby (L := [(59, .iinc 5 1, 3), (62, .goto (-46), 3), (16, .iload 5, 2), (18, .aload_n 3, 1)]) (by decide +kernel) rfl (g' := (mkF m 19 #[iv x0, iv x1, iv (4 : Int32), rv b1, rv b3, iv (1 : Int32)] [(.ref b1), (.int (1 : Int32))])) rfl ?_
  obtain ⟨cl13, Ar13, q13, S13, M13, Hs13, G13⟩ := id V_b1
  refine Goes.st (B := T12.setTop (mkF m 20 #[iv x0, iv x1, iv (4 : Int32), rv b1, rv b3, iv (1 : Int32)] [(.int (4 : Int32)), (.int (1 : Int32))])) (fun t k => ?_) ?_
  · refine X12.arraylength hx (cell := cl13) (by rw [e12]; exact Ar13.1) (State.isArrayOf_alike hZ.alike Ar13.2.1) (g := (mkF m 19 #[iv x0, iv x1, iv (4 : Int32), rv b1, rv b3, iv (1 : Int32)] [(.ref b1), (.int (1 : Int32))])) rfl (rest := [(.int (1 : Int32))]) rfl (hb hby d8_19) _ ?_
    rw [len_of S13 M13]
    exact k
  have hc20_14 : (1 : Int32) < (4 : Int32) := by decide
  refine Goes.st (B := T12.setTop (mkF m 23 #[iv x0, iv x1, iv (4 : Int32), rv b1, rv b3, iv (1 : Int32)] [])) (fun t k => ?_) ?_
  · refine XS.icmpNo X12.here hx rfl (hb hby d8_20) rfl (tlt hc20_14).2.1 ?_
    exact k
  refine Goes.run X12 hx hown hci hcl hby (L := [(23, .aload 4, 2), (25, .iload 5, 2), (27, .aload_n 3, 1), (28, .iload 5, 2)]) (by decide +kernel) rfl (g' := (mkF m 30 #[iv x0, iv x1, iv (4 : Int32), rv b1, rv b3, iv (1 : Int32)] [(.int (1 : Int32)), (.ref b1), (.int (1 : Int32)), (.ref b3)])) rfl ?_
  obtain ⟨cl15, Ar15, q15, S15, M15, Hs15, G15⟩ := id V_b1
  have hin15 : ¬ ((1 : Int32) < 0 ∨ cl15.slots.size ≤ ((1 : Int32)).toNatClampNeg) := inb_of S15 ⟨(by decide), (by decide)⟩
  have hat15 : cl15.slots[((1 : Int32)).toNatClampNeg]? = some (.int ((2 : Int32) * x1)) := Hs15.at hin15 rfl
  refine Goes.st (B := T12.setTop (mkF m 31 #[iv x0, iv x1, iv (4 : Int32), rv b1, rv b3, iv (1 : Int32)] [(.int ((2 : Int32) * x1)), (.int (1 : Int32)), (.ref b3)])) (X12.iaload hx (j := (1 : Int32)) (v := (.int ((2 : Int32) * x1))) (by rw [e12]; exact Ar15.1) (State.isArrayOf_alike hZ.alike Ar15.2.1) Ar15.2.2 hin15 hat15 (g := (mkF m 30 #[iv x0, iv x1, iv (4 : Int32), rv b1, rv b3, iv (1 : Int32)] [(.int (1 : Int32)), (.ref b1), (.int (1 : Int32)), (.ref b3)])) rfl rfl (hb hby d8_30)) ?_
  obtain ⟨_, _, ⟨T16, L16, k16, n16⟩, -, X16, ⟨Lc16, hQ16, l16, y16, z16⟩, st16⟩ := Jvm.LawKit.callS X12 hx (y := ym3) hown (mvT hZ w_19) (mvT hZ w_20) (mvT hZ w_7) (mvT hZ w_21) (by decide) (backOf (W := 2) (rm5 l Z a0 hw [] (c94_50_0 x0 x1) h12 n0 Zn12 ) hZ w_21 w_7 (by decide) (by decide)) (g := (mkF m 31 #[iv x0, iv x1, iv (4 : Int32), rv b1, rv b3, iv (1 : Int32)] [(.int (c94_50_0 x0 x1)), (.int (1 : Int32)), (.ref b3)])) rfl (by rw [hml]; rfl) (argsL := [(.int (c94_50_0 x0 x1))]) (rest := [(.int (1 : Int32)), (.ref b3)]) (lenOf pd94_1 rfl) rfl (by show 2 * 0 + _ ≤ _; exact Nat.le_of_eq rfl) (hb hby d8_31) (fun _ _ => ⟨rfl, e12, (by decide : 2 + 0 ≤ _), (by decide : 12 + 0 ≤ _)⟩)
  dsimp only [Pt.U, Pt.locs, Pt.cells, Pt.slots] at X16 l16 y16 z16 st16 hQ16
  subst l16 y16 z16
  obtain ⟨rfl, N16q, e16⟩ := hQ16
  have N16 := Fr.app N12 N16q
  refine Goes.st (B := T16.setTop (mkF m 34 #[iv x0, iv x1, iv (4 : Int32), rv b1, rv b3, iv (1 : Int32)] [(.long (r5 (c94_50_0 x0 x1))), (.int (1 : Int32)), (.ref b3)])) st16 ?_
  refine Goes.run X16 hx hown hci hcl hby (L := [(34, .iload 5, 2), (36, .iconst 1, 1), (37, .iadd, 1), (38, .aload_n 3, 1)]) (by decide +kernel) rfl (g' := (mkF m 39 #[iv x0, iv x1, iv (4 : Int32), rv b1, rv b3, iv (1 : Int32)] [(.ref b1), (.int (2 : Int32)), (.long (r5 (c94_50_0 x0 x1))), (.int (1 : Int32)), (.ref b3)])) rfl ?_
  obtain ⟨cl17, Ar17, q17, S17, M17, Hs17, G17⟩ := id V_b1
  refine Goes.st (B := T16.setTop (mkF m 40 #[iv x0, iv x1, iv (4 : Int32), rv b1, rv b3, iv (1 : Int32)] [(.int (4 : Int32)), (.int (2 : Int32)), (.long (r5 (c94_50_0 x0 x1))), (.int (1 : Int32)), (.ref b3)])) (fun t k => ?_) ?_
  · refine X16.arraylength hx (cell := cl17) (by rw [e16]; exact Ar17.1) (State.isArrayOf_alike hZ.alike Ar17.2.1) (g := (mkF m 39 #[iv x0, iv x1, iv (4 : Int32), rv b1, rv b3, iv (1 : Int32)] [(.ref b1), (.int (2 : Int32)), (.long (r5 (c94_50_0 x0 x1))), (.int (1 : Int32)), (.ref b3)])) rfl (rest := [(.int (2 : Int32)), (.long (r5 (c94_50_0 x0 x1))), (.int (1 : Int32)), (.ref b3)]) rfl (hb hby d8_39) _ ?_
    rw [len_of S17 M17]
    exact k
  have hc40_18 : (2 : Int32) < (4 : Int32) := by decide
  refine Goes.st (B := T16.setTop (mkF m 43 #[iv x0, iv x1, iv (4 : Int32), rv b1, rv b3, iv (1 : Int32)] [(.long (r5 (c94_50_0 x0 x1))), (.int (1 : Int32)), (.ref b3)])) (fun t k => ?_) ?_
  · refine XS.icmpNo X16.here hx rfl (hb hby d8_40) rfl (tlt hc40_18).2.1 ?_
    exact k
  refine Goes.run X16 hx hown hci hcl hby (L := [(43, .iload_n 0, 1), (44, .aload_n 3, 1), (45, .iload 5, 2), (47, .iconst 1, 1), (48, .iadd, 1)]) (by decide +kernel) rfl (g' := (mkF m 49 #[iv x0, iv x1, iv (4 : Int32), rv b1, rv b3, iv (1 : Int32)] [(.int (2 : Int32)), (.ref b1), (.int x0), (.long (r5 (c94_50_0 x0 x1))), (.int (1 : Int32)), (.ref b3)])) rfl ?_
  obtain ⟨cl19, Ar19, q19, S19, M19, Hs19, G19⟩ := id V_b1
  have hin19 : ¬ ((2 : Int32) < 0 ∨ cl19.slots.size ≤ ((2 : Int32)).toNatClampNeg) := inb_of S19 ⟨(by decide), (by decide)⟩
  have hat19 : cl19.slots[((2 : Int32)).toNatClampNeg]? = some (.int ((2 : Int32) * ((2 : Int32) * x1))) := Hs19.at hin19 rfl
  refine Goes.st (B := T16.setTop (mkF m 50 #[iv x0, iv x1, iv (4 : Int32), rv b1, rv b3, iv (1 : Int32)] [(.int ((2 : Int32) * ((2 : Int32) * x1))), (.int x0), (.long (r5 (c94_50_0 x0 x1))), (.int (1 : Int32)), (.ref b3)])) (X16.iaload hx (j := (2 : Int32)) (v := (.int ((2 : Int32) * ((2 : Int32) * x1)))) (by rw [e16]; exact Ar19.1) (State.isArrayOf_alike hZ.alike Ar19.2.1) Ar19.2.2 hin19 hat19 (g := (mkF m 49 #[iv x0, iv x1, iv (4 : Int32), rv b1, rv b3, iv (1 : Int32)] [(.int (2 : Int32)), (.ref b1), (.int x0), (.long (r5 (c94_50_0 x0 x1))), (.int (1 : Int32)), (.ref b3)])) rfl rfl (hb hby d8_49)) ?_
  obtain ⟨_, _, ⟨T20, L20, k20, n20⟩, -, X20, ⟨Lc20, hQ20, l20, y20, z20⟩, st20⟩ := Jvm.LawKit.callS X16 hx (y := ym5) hown (mvT hZ w_27) (mvT hZ w_28) (mvT hZ w_7) (mvT hZ w_29) (by decide) (backOf (W := 4) (rm7 l Z a0 hw [] x0 (c94_50_0_a x0 x1) h12 n0 Zn12 (by first | assumption | exact p1 | exact p2)) hZ w_29 w_7 (by decide) (by decide)) (g := (mkF m 50 #[iv x0, iv x1, iv (4 : Int32), rv b1, rv b3, iv (1 : Int32)] [(.int (c94_50_0_a x0 x1)), (.int x0), (.long (r5 (c94_50_0 x0 x1))), (.int (1 : Int32)), (.ref b3)])) rfl (by rw [hml]; rfl) (argsL := [(.int x0), (.int (c94_50_0_a x0 x1))]) (rest := [(.long (r5 (c94_50_0 x0 x1))), (.int (1 : Int32)), (.ref b3)]) (lenOf pd94_2 rfl) rfl (by show 2 * 0 + _ ≤ _; exact Nat.le_of_eq rfl) (hb hby d8_50) (fun _ _ => ⟨rfl, e16, (by decide : 2 + 0 ≤ _), (by decide : 12 + 0 ≤ _)⟩)
  dsimp only [Pt.U, Pt.locs, Pt.cells, Pt.slots] at X20 l20 y20 z20 st20 hQ20
  subst l20 y20 z20
  obtain ⟨rfl, N20q, e20⟩ := hQ20
  have N20 := Fr.app N16 N20q
  refine Goes.st (B := T20.setTop (mkF m 53 #[iv x0, iv x1, iv (4 : Int32), rv b1, rv b3, iv (1 : Int32)] [(.long (r7 x0 (c94_50_0_a x0 x1))), (.long (r5 (c94_50_0 x0 x1))), (.int (1 : Int32)), (.ref b3)])) st20 ?_
  refine Goes.run X20 hx hown hci hcl hby (L := [(53, .goto 4, 3), (57, .ladd, 1)]) (by decide +kernel) rfl (g' := (mkF m 58 #[iv x0, iv x1, iv (4 : Int32), rv b1, rv b3, iv (1 : Int32)] [(.long ((r5 (c94_50_0 x0 x1)) + (r7 x0 (c94_50_0_a x0 x1)))), (.int (1 : Int32)), (.ref b3)])) rfl ?_
  obtain ⟨cl21, Ar21, q21, S21, M21, Hs21, G21⟩ := id V_b3
  have hin21 : ¬ ((1 : Int32) < 0 ∨ cl21.slots.size ≤ ((1 : Int32)).toNatClampNeg) := inb_of S21 ⟨(by decide), (by decide)⟩
  obtain ⟨T21, h21, X21, e21, W21, st21⟩ := stJ X20 hx hZ e20 Ar21 (j := (1 : Int32)) hin21 (g := (mkF m 58 #[iv x0, iv x1, iv (4 : Int32), rv b1, rv b3, iv (1 : Int32)] [(.long ((r5 (c94_50_0 x0 x1)) + (r7 x0 (c94_50_0_a x0 x1)))), (.int (1 : Int32)), (.ref b3)])) rfl rfl (hb hby d8_58)
  have E_b1 := E_b1.wr W21
  have V_b1 := V_b1.other W21 ne_b1_b3
  have E_b3 := E_b3.wr W21
  have Zn21 : n0 ≤ h21.size := Nat.le_trans Zn12 (Keep.of_wr W21).1
  have K21 := K12.wr W21 (Or.inr sz_b3)
  have N21 := Fr.snoc X21 N20 g_b3
  have V_b3 : Arv Z h21 b3 k3 .long (4 : Int32) [(.long ((r5 x1) + (r7 x0 (c94_50_0 x0 x1)))), (.long ((r5 (c94_50_0 x0 x1)) + (r7 x0 (c94_50_0_a x0 x1)))), (.long (0 : Int64)), (.long (0 : Int64))] (.long (0 : Int64)) := Arv.set Ar21 q21 S21 M21 Hs21 G21 rfl W21 1 rfl (Nat.le_of_ble_eq_true rfl)
  refine Goes.st (B := T21.setTop (mkF m 59 #[iv x0, iv x1, iv (4 : Int32), rv b1, rv b3, iv (1 : Int32)] [])) st21 ?_
  refine Goes.run X21 hx hown hci hcl hby (L := [(59, .iinc 5 1, 3), (62, .goto (-46), 3), (16, .iload 5, 2), (18, .aload_n 3, 1)]) (by decide +kernel) rfl (g' := (mkF m 19 #[iv x0, iv x1, iv (4 : Int32), rv b1, rv b3, iv (2 : Int32)] [(.ref b1), (.int (2 : Int32))])) rfl ?_
  obtain ⟨cl22, Ar22, q22, S22, M22, Hs22, G22⟩ := id V_b1
  refine Goes.st (B := T21.setTop (mkF m 20 #[iv x0, iv x1, iv (4 : Int32), rv b1, rv b3, iv (2 : Int32)] [(.int (4 : Int32)), (.int (2 : Int32))])) (fun t k => ?_) ?_
  · refine X21.arraylength hx (cell := cl22) (by rw [e21]; exact Ar22.1) (State.isArrayOf_alike hZ.alike Ar22.2.1) (g := (mkF m 19 #[iv x0, iv x1, iv (4 : Int32), rv b1, rv b3, iv (2 : Int32)] [(.ref b1), (.int (2 : Int32))])) rfl (rest := [(.int (2 : Int32))]) rfl (hb hby d8_19) _ ?_
    rw [len_of S22 M22]
    exact k
  have hc20_23 : (2 : Int32) < (4 : Int32) := by decide
  refine Goes.st (B := T21.setTop (mkF m 23 #[iv x0, iv x1, iv (4 : Int32), rv b1, rv b3, iv (2 : Int32)] [])) (fun t k => ?_) ?_
  · refine XS.icmpNo X21.here hx rfl (hb hby d8_20) rfl (tlt hc20_23).2.1 ?_
    exact k
  refine Goes.run X21 hx hown hci hcl hby (L := [(23, .aload 4, 2), (25, .iload 5, 2), (27, .aload_n 3, 1), (28, .iload 5, 2)]) (by decide +kernel) rfl (g' := (mkF m 30 #[iv x0, iv x1, iv (4 : Int32), rv b1, rv b3, iv (2 : Int32)] [(.int (2 : Int32)), (.ref b1), (.int (2 : Int32)), (.ref b3)])) rfl ?_
  obtain ⟨cl24, Ar24, q24, S24, M24, Hs24, G24⟩ := id V_b1
  have hin24 : ¬ ((2 : Int32) < 0 ∨ cl24.slots.size ≤ ((2 : Int32)).toNatClampNeg) := inb_of S24 ⟨(by decide), (by decide)⟩
  have hat24 : cl24.slots[((2 : Int32)).toNatClampNeg]? = some (.int ((2 : Int32) * ((2 : Int32) * x1))) := Hs24.at hin24 rfl
  refine Goes.st (B := T21.setTop (mkF m 31 #[iv x0, iv x1, iv (4 : Int32), rv b1, rv b3, iv (2 : Int32)] [(.int ((2 : Int32) * ((2 : Int32) * x1))), (.int (2 : Int32)), (.ref b3)])) (X21.iaload hx (j := (2 : Int32)) (v := (.int ((2 : Int32) * ((2 : Int32) * x1)))) (by rw [e21]; exact Ar24.1) (State.isArrayOf_alike hZ.alike Ar24.2.1) Ar24.2.2 hin24 hat24 (g := (mkF m 30 #[iv x0, iv x1, iv (4 : Int32), rv b1, rv b3, iv (2 : Int32)] [(.int (2 : Int32)), (.ref b1), (.int (2 : Int32)), (.ref b3)])) rfl rfl (hb hby d8_30)) ?_
  obtain ⟨_, _, ⟨T25, L25, k25, n25⟩, -, X25, ⟨Lc25, hQ25, l25, y25, z25⟩, st25⟩ := Jvm.LawKit.callS X21 hx (y := ym3) hown (mvT hZ w_19) (mvT hZ w_20) (mvT hZ w_7) (mvT hZ w_21) (by decide) (backOf (W := 2) (rm5 l Z a0 hw [] (c94_50_0_a x0 x1) h21 n0 Zn21 ) hZ w_21 w_7 (by decide) (by decide)) (g := (mkF m 31 #[iv x0, iv x1, iv (4 : Int32), rv b1, rv b3, iv (2 : Int32)] [(.int (c94_50_0_a x0 x1)), (.int (2 : Int32)), (.ref b3)])) rfl (by rw [hml]; rfl) (argsL := [(.int (c94_50_0_a x0 x1))]) (rest := [(.int (2 : Int32)), (.ref b3)]) (lenOf pd94_1 rfl) rfl (by show 2 * 0 + _ ≤ _; exact Nat.le_of_eq rfl) (hb hby d8_31) (fun _ _ => ⟨rfl, e21, (by decide : 2 + 0 ≤ _), (by decide : 12 + 0 ≤ _)⟩)
  dsimp only [Pt.U, Pt.locs, Pt.cells, Pt.slots] at X25 l25 y25 z25 st25 hQ25
  subst l25 y25 z25
  obtain ⟨rfl, N25q, e25⟩ := hQ25
  have N25 := Fr.app N21 N25q
  refine Goes.st (B := T25.setTop (mkF m 34 #[iv x0, iv x1, iv (4 : Int32), rv b1, rv b3, iv (2 : Int32)] [(.long (r5 (c94_50_0_a x0 x1))), (.int (2 : Int32)), (.ref b3)])) st25 ?_
  refine Goes.run X25 hx hown hci hcl hby (L := [(34, .iload 5, 2), (36, .iconst 1, 1), (37, .iadd, 1), (38, .aload_n 3, 1)]) (by decide +kernel) rfl (g' := (mkF m 39 #[iv x0, iv x1, iv (4 : Int32), rv b1, rv b3, iv (2 : Int32)] [(.ref b1), (.int (3 : Int32)), (.long (r5 (c94_50_0_a x0 x1))), (.int (2 : Int32)), (.ref b3)])) rfl ?_
  obtain ⟨cl26, Ar26, q26, S26, M26, Hs26, G26⟩ := id V_b1
  refine Goes.st (B := T25.setTop (mkF m 40 #[iv x0, iv x1, iv (4 : Int32), rv b1, rv b3, iv (2 : Int32)] [(.int (4 : Int32)), (.int (3 : Int32)), (.long (r5 (c94_50_0_a x0 x1))), (.int (2 : Int32)), (.ref b3)])) (fun t k => ?_) ?_
  · refine X25.arraylength hx (cell := cl26) (by rw [e25]; exact Ar26.1) (State.isArrayOf_alike hZ.alike Ar26.2.1) (g := (mkF m 39 #[iv x0, iv x1, iv (4 : Int32), rv b1, rv b3, iv (2 : Int32)] [(.ref b1), (.int (3 : Int32)), (.long (r5 (c94_50_0_a x0 x1))), (.int (2 : Int32)), (.ref b3)])) rfl (rest := [(.int (3 : Int32)), (.long (r5 (c94_50_0_a x0 x1))), (.int (2 : Int32)), (.ref b3)]) rfl (hb hby d8_39) _ ?_
    rw [len_of S26 M26]
    exact k
  have hc40_27 : (3 : Int32) < (4 : Int32) := by decide
  refine Goes.st (B := T25.setTop (mkF m 43 #[iv x0, iv x1, iv (4 : Int32), rv b1, rv b3, iv (2 : Int32)] [(.long (r5 (c94_50_0_a x0 x1))), (.int (2 : Int32)), (.ref b3)])) (fun t k => ?_) ?_
  · refine XS.icmpNo X25.here hx rfl (hb hby d8_40) rfl (tlt hc40_27).2.1 ?_
    exact k
  refine Goes.run X25 hx hown hci hcl hby (L := [(43, .iload_n 0, 1), (44, .aload_n 3, 1), (45, .iload 5, 2), (47, .iconst 1, 1), (48, .iadd, 1)]) (by decide +kernel) rfl (g' := (mkF m 49 #[iv x0, iv x1, iv (4 : Int32), rv b1, rv b3, iv (2 : Int32)] [(.int (3 : Int32)), (.ref b1), (.int x0), (.long (r5 (c94_50_0_a x0 x1))), (.int (2 : Int32)), (.ref b3)])) rfl ?_
  obtain ⟨cl28, Ar28, q28, S28, M28, Hs28, G28⟩ := id V_b1
  have hin28 : ¬ ((3 : Int32) < 0 ∨ cl28.slots.size ≤ ((3 : Int32)).toNatClampNeg) := inb_of S28 ⟨(by decide), (by decide)⟩
  have hat28 : cl28.slots[((3 : Int32)).toNatClampNeg]? = some (.int x0) := Hs28.at hin28 rfl
  refine Goes.st (B := T25.setTop (mkF m 50 #[iv x0, iv x1, iv (4 : Int32), rv b1, rv b3, iv (2 : Int32)] [(.int x0), (.int x0), (.long (r5 (c94_50_0_a x0 x1))), (.int (2 : Int32)), (.ref b3)])) (X25.iaload hx (j := (3 : Int32)) (v := (.int x0)) (by rw [e25]; exact Ar28.1) (State.isArrayOf_alike hZ.alike Ar28.2.1) Ar28.2.2 hin28 hat28 (g := (mkF m 49 #[iv x0, iv x1, iv (4 : Int32), rv b1, rv b3, iv (2 : Int32)] [(.int (3 : Int32)), (.ref b1), (.int x0), (.long (r5 (c94_50_0_a x0 x1))), (.int (2 : Int32)), (.ref b3)])) rfl rfl (hb hby d8_49)) ?_
  obtain ⟨_, _, ⟨T29, L29, k29, n29⟩, -, X29, ⟨Lc29, hQ29, l29, y29, z29⟩, st29⟩ := Jvm.LawKit.callS X25 hx (y := ym5) hown (mvT hZ w_27) (mvT hZ w_28) (mvT hZ w_7) (mvT hZ w_29) (by decide) (backOf (W := 4) (rm7 l Z a0 hw [] x0 x0 h21 n0 Zn21 (by first | assumption | exact p1 | exact p2)) hZ w_29 w_7 (by decide) (by decide)) (g := (mkF m 50 #[iv x0, iv x1, iv (4 : Int32), rv b1, rv b3, iv (2 : Int32)] [(.int x0), (.int x0), (.long (r5 (c94_50_0_a x0 x1))), (.int (2 : Int32)), (.ref b3)])) rfl (by rw [hml]; rfl) (argsL := [(.int x0), (.int x0)]) (rest := [(.long (r5 (c94_50_0_a x0 x1))), (.int (2 : Int32)), (.ref b3)]) (lenOf pd94_2 rfl) rfl (by show 2 * 0 + _ ≤ _; exact Nat.le_of_eq rfl) (hb hby d8_50) (fun _ _ => ⟨rfl, e25, (by decide : 2 + 0 ≤ _), (by decide : 12 + 0 ≤ _)⟩)
  dsimp only [Pt.U, Pt.locs, Pt.cells, Pt.slots] at X29 l29 y29 z29 st29 hQ29
  subst l29 y29 z29
  obtain ⟨rfl, N29q, e29⟩ := hQ29
  have N29 := Fr.app N25 N29q
  refine Goes.st (B := T29.setTop (mkF m 53 #[iv x0, iv x1, iv (4 : Int32), rv b1, rv b3, iv (2 : Int32)] [(.long (r7 x0 x0)), (.long (r5 (c94_50_0_a x0 x1))), (.int (2 : Int32)), (.ref b3)])) st29 ?_
  refine Goes.run X29 hx hown hci hcl hby (L := [(53, .goto 4, 3), (57, .ladd, 1)]) (by decide +kernel) rfl (g' := (mkF m 58 #[iv x0, iv x1, iv (4 : Int32), rv b1, rv b3, iv (2 : Int32)] [(.long ((r5 (c94_50_0_a x0 x1)) + (r7 x0 x0))), (.int (2 : Int32)), (.ref b3)])) rfl ?_
  obtain ⟨cl30, Ar30, q30, S30, M30, Hs30, G30⟩ := id V_b3
  have hin30 : ¬ ((2 : Int32) < 0 ∨ cl30.slots.size ≤ ((2 : Int32)).toNatClampNeg) := inb_of S30 ⟨(by decide), (by decide)⟩
  obtain ⟨T30, h30, X30, e30, W30, st30⟩ := stJ X29 hx hZ e29 Ar30 (j := (2 : Int32)) hin30 (g := (mkF m 58 #[iv x0, iv x1, iv (4 : Int32), rv b1, rv b3, iv (2 : Int32)] [(.long ((r5 (c94_50_0_a x0 x1)) + (r7 x0 x0))), (.int (2 : Int32)), (.ref b3)])) rfl rfl (hb hby d8_58)
  have E_b1 := E_b1.wr W30
  have V_b1 := V_b1.other W30 ne_b1_b3
  have E_b3 := E_b3.wr W30
  have Zn30 : n0 ≤ h30.size := Nat.le_trans Zn21 (Keep.of_wr W30).1
  have K30 := K21.wr W30 (Or.inr sz_b3)
  have N30 := Fr.snoc X30 N29 g_b3
  have V_b3 : Arv Z h30 b3 k3 .long (4 : Int32) [(.long ((r5 x1) + (r7 x0 (c94_50_0 x0 x1)))), (.long ((r5 (c94_50_0 x0 x1)) + (r7 x0 (c94_50_0_a x0 x1)))), (.long ((r5 (c94_50_0_a x0 x1)) + (r7 x0 x0))), (.long (0 : Int64))] (.long (0 : Int64)) := Arv.set Ar30 q30 S30 M30 Hs30 G30 rfl W30 2 rfl (Nat.le_of_ble_eq_true rfl)
  refine Goes.st (B := T30.setTop (mkF m 59 #[iv x0, iv x1, iv (4 : Int32), rv b1, rv b3, iv (2 : Int32)] [])) st30 ?_
  refine Goes.run X30 hx hown hci hcl hby (L := [(59, .iinc 5 1, 3), (62, .goto (-46), 3), (16, .iload 5, 2), (18, .aload_n 3, 1)]) (by decide +kernel) rfl (g' := (mkF m 19 #[iv x0, iv x1, iv (4 : Int32), rv b1, rv b3, iv (3 : Int32)] [(.ref b1), (.int (3 : Int32))])) rfl ?_
  obtain ⟨cl31, Ar31, q31, S31, M31, Hs31, G31⟩ := id V_b1
  refine Goes.st (B := T30.setTop (mkF m 20 #[iv x0, iv x1, iv (4 : Int32), rv b1, rv b3, iv (3 : Int32)] [(.int (4 : Int32)), (.int (3 : Int32))])) (fun t k => ?_) ?_
  · refine X30.arraylength hx (cell := cl31) (by rw [e30]; exact Ar31.1) (State.isArrayOf_alike hZ.alike Ar31.2.1) (g := (mkF m 19 #[iv x0, iv x1, iv (4 : Int32), rv b1, rv b3, iv (3 : Int32)] [(.ref b1), (.int (3 : Int32))])) rfl (rest := [(.int (3 : Int32))]) rfl (hb hby d8_19) _ ?_
    rw [len_of S31 M31]
    exact k
  have hc20_32 : (3 : Int32) < (4 : Int32) := by decide
  refine Goes.st (B := T30.setTop (mkF m 23 #[iv x0, iv x1, iv (4 : Int32), rv b1, rv b3, iv (3 : Int32)] [])) (fun t k => ?_) ?_
  · refine XS.icmpNo X30.here hx rfl (hb hby d8_20) rfl (tlt hc20_32).2.1 ?_
    exact k
  refine Goes.run X30 hx hown hci hcl hby (L := [(23, .aload 4, 2), (25, .iload 5, 2), (27, .aload_n 3, 1), (28, .iload 5, 2)]) (by decide +kernel) rfl (g' := (mkF m 30 #[iv x0, iv x1, iv (4 : Int32), rv b1, rv b3, iv (3 : Int32)] [(.int (3 : Int32)), (.ref b1), (.int (3 : Int32)), (.ref b3)])) rfl ?_
  obtain ⟨cl33, Ar33, q33, S33, M33, Hs33, G33⟩ := id V_b1
  have hin33 : ¬ ((3 : Int32) < 0 ∨ cl33.slots.size ≤ ((3 : Int32)).toNatClampNeg) := inb_of S33 ⟨(by decide), (by decide)⟩
  have hat33 : cl33.slots[((3 : Int32)).toNatClampNeg]? = some (.int x0) := Hs33.at hin33 rfl
  refine Goes.st (B := T30.setTop (mkF m 31 #[iv x0, iv x1, iv (4 : Int32), rv b1, rv b3, iv (3 : Int32)] [(.int x0), (.int (3 : Int32)), (.ref b3)])) (X30.iaload hx (j := (3 : Int32)) (v := (.int x0)) (by rw [e30]; exact Ar33.1) (State.isArrayOf_alike hZ.alike Ar33.2.1) Ar33.2.2 hin33 hat33 (g := (mkF m 30 #[iv x0, iv x1, iv (4 : Int32), rv b1, rv b3, iv (3 : Int32)] [(.int (3 : Int32)), (.ref b1), (.int (3 : Int32)), (.ref b3)])) rfl rfl (hb hby d8_30)) ?_
  obtain ⟨_, _, ⟨T34, L34, k34, n34⟩, -, X34, ⟨Lc34, hQ34, l34, y34, z34⟩, st34⟩ := Jvm.LawKit.callS X30 hx (y := ym3) hown (mvT hZ w_19) (mvT hZ w_20) (mvT hZ w_7) (mvT hZ w_21) (by decide) (backOf (W := 2) (rm5 l Z a0 hw [] x0 h30 n0 Zn30 ) hZ w_21 w_7 (by decide) (by decide)) (g := (mkF m 31 #[iv x0, iv x1, iv (4 : Int32), rv b1, rv b3, iv (3 : Int32)] [(.int x0), (.int (3 : Int32)), (.ref b3)])) rfl (by rw [hml]; rfl) (argsL := [(.int x0)]) (rest := [(.int (3 : Int32)), (.ref b3)]) (lenOf pd94_1 rfl) rfl (by show 2 * 0 + _ ≤ _; exact Nat.le_of_eq rfl) (hb hby d8_31) (fun _ _ => ⟨rfl, e30, (by decide : 2 + 0 ≤ _), (by decide : 12 + 0 ≤ _)⟩)
  dsimp only [Pt.U, Pt.locs, Pt.cells, Pt.slots] at X34 l34 y34 z34 st34 hQ34
  subst l34 y34 z34
  obtain ⟨rfl, N34q, e34⟩ := hQ34
  have N34 := Fr.app N30 N34q
  refine Goes.st (B := T34.setTop (mkF m 34 #[iv x0, iv x1, iv (4 : Int32), rv b1, rv b3, iv (3 : Int32)] [(.long (r5 x0)), (.int (3 : Int32)), (.ref b3)])) st34 ?_
  refine Goes.run X34 hx hown hci hcl hby (L := [(34, .iload 5, 2), (36, .iconst 1, 1), (37, .iadd, 1), (38, .aload_n 3, 1)]) (by decide +kernel) rfl (g' := (mkF m 39 #[iv x0, iv x1, iv (4 : Int32), rv b1, rv b3, iv (3 : Int32)] [(.ref b1), (.int (4 : Int32)), (.long (r5 x0)), (.int (3 : Int32)), (.ref b3)])) rfl ?_
  obtain ⟨cl35, Ar35, q35, S35, M35, Hs35, G35⟩ := id V_b1
  refine Goes.st (B := T34.setTop (mkF m 40 #[iv x0, iv x1, iv (4 : Int32), rv b1, rv b3, iv (3 : Int32)] [(.int (4 : Int32)), (.int (4 : Int32)), (.long (r5 x0)), (.int (3 : Int32)), (.ref b3)])) (fun t k => ?_) ?_
  · refine X34.arraylength hx (cell := cl35) (by rw [e34]; exact Ar35.1) (State.isArrayOf_alike hZ.alike Ar35.2.1) (g := (mkF m 39 #[iv x0, iv x1, iv (4 : Int32), rv b1, rv b3, iv (3 : Int32)] [(.ref b1), (.int (4 : Int32)), (.long (r5 x0)), (.int (3 : Int32)), (.ref b3)])) rfl (rest := [(.int (4 : Int32)), (.long (r5 x0)), (.int (3 : Int32)), (.ref b3)]) rfl (hb hby d8_39) _ ?_
    rw [len_of S35 M35]
    exact k
  have hc40_36 : ¬ ((4 : Int32) < (4 : Int32)) := Int32.lt_irrefl
  refine Goes.st (B := T34.setTop (mkF m 56 #[iv x0, iv x1, iv (4 : Int32), rv b1, rv b3, iv (3 : Int32)] [(.long (r5 x0)), (.int (3 : Int32)), (.ref b3)])) (fun t k => ?_) ?_
  · refine XS.icmpYes X34.here hx rfl (pc0 := 40) (pc' := 56) rfl (hb hby d8_40) rfl (flt hc40_36).2.1 (by decide) (by decide) ?_
    exact k
  refine Goes.run X34 hx hown hci hcl hby (L := [(56, .lconst 0, 1), (57, .ladd, 1)]) (by decide +kernel) rfl (g' := (mkF m 58 #[iv x0, iv x1, iv (4 : Int32), rv b1, rv b3, iv (3 : Int32)] [(.long ((r5 x0) + (0 : Int64))), (.int (3 : Int32)), (.ref b3)])) rfl ?_
  obtain ⟨cl37, Ar37, q37, S37, M37, Hs37, G37⟩ := id V_b3
  have hin37 : ¬ ((3 : Int32) < 0 ∨ cl37.slots.size ≤ ((3 : Int32)).toNatClampNeg) := inb_of S37 ⟨(by decide), (by decide)⟩
  obtain ⟨T37, h37, X37, e37, W37, st37⟩ := stJ X34 hx hZ e34 Ar37 (j := (3 : Int32)) hin37 (g := (mkF m 58 #[iv x0, iv x1, iv (4 : Int32), rv b1, rv b3, iv (3 : Int32)] [(.long ((r5 x0) + (0 : Int64))), (.int (3 : Int32)), (.ref b3)])) rfl rfl (hb hby d8_58)
  have E_b1 := E_b1.wr W37
  have V_b1 := V_b1.other W37 ne_b1_b3
  have E_b3 := E_b3.wr W37
  have Zn37 : n0 ≤ h37.size := Nat.le_trans Zn30 (Keep.of_wr W37).1
  have K37 := K30.wr W37 (Or.inr sz_b3)
  have N37 := Fr.snoc X37 N34 g_b3
  have V_b3 : Arv Z h37 b3 k3 .long (4 : Int32) [(.long ((r5 x1) + (r7 x0 (c94_50_0 x0 x1)))), (.long ((r5 (c94_50_0 x0 x1)) + (r7 x0 (c94_50_0_a x0 x1)))), (.long ((r5 (c94_50_0_a x0 x1)) + (r7 x0 x0))), (.long ((r5 x0) + (0 : Int64)))] (.long (0 : Int64)) := Arv.set Ar37 q37 S37 M37 Hs37 G37 rfl W37 3 rfl (Nat.le_of_ble_eq_true rfl)
  refine Goes.st (B := T37.setTop (mkF m 59 #[iv x0, iv x1, iv (4 : Int32), rv b1, rv b3, iv (3 : Int32)] [])) st37 ?_
  refine Goes.run X37 hx hown hci hcl hby (L := [(59, .iinc 5 1, 3), (62, .goto (-46), 3), (16, .iload 5, 2), (18, .aload_n 3, 1)]) (by decide +kernel) rfl (g' := (mkF m 19 #[iv x0, iv x1, iv (4 : Int32), rv b1, rv b3, iv (4 : Int32)] [(.ref b1), (.int (4 : Int32))])) rfl ?_
  obtain ⟨cl38, Ar38, q38, S38, M38, Hs38, G38⟩ := id V_b1
  refine Goes.st (B := T37.setTop (mkF m 20 #[iv x0, iv x1, iv (4 : Int32), rv b1, rv b3, iv (4 : Int32)] [(.int (4 : Int32)), (.int (4 : Int32))])) (fun t k => ?_) ?_
  · refine X37.arraylength hx (cell := cl38) (by rw [e37]; exact Ar38.1) (State.isArrayOf_alike hZ.alike Ar38.2.1) (g := (mkF m 19 #[iv x0, iv x1, iv (4 : Int32), rv b1, rv b3, iv (4 : Int32)] [(.ref b1), (.int (4 : Int32))])) rfl (rest := [(.int (4 : Int32))]) rfl (hb hby d8_19) _ ?_
    rw [len_of S38 M38]
    exact k
  have hc20_39 : ¬ ((4 : Int32) < (4 : Int32)) := Int32.lt_irrefl
  refine Goes.st (B := T37.setTop (mkF m 65 #[iv x0, iv x1, iv (4 : Int32), rv b1, rv b3, iv (4 : Int32)] [])) (fun t k => ?_) ?_
  · refine XS.icmpYes X37.here hx rfl (pc0 := 20) (pc' := 65) rfl (hb hby d8_20) rfl (flt hc20_39).2.1 (by decide) (by decide) ?_
    exact k
  refine Goes.run X37 hx hown hci hcl hby (L := [(65, .aload 4, 2)]) (by decide +kernel) rfl (g' := (mkF m 67 #[iv x0, iv x1, iv (4 : Int32), rv b1, rv b3, iv (4 : Int32)] [(.ref b3)])) rfl ?_
  refine Goes.retR X37 hx hlk Bd.returns rfl rfl (hb hby d8_67) ?_ (by decide) (by decide)
  show (Q94 Z x0 x1 h0 n0) _ _ _
  rw [e37]
  exact ⟨b3, k3, rfl, N37, K37, sz_b3, E_b3, V_b3⟩
theorem pn85 : plainName "com/example/eriu/eriu/algorithm/GroupElection" = true := by first | (simp [plainName, overriddenIn]; done) | decide +kernel
theorem pd85_0 : parseMethodDescriptor "(I)I" = some ⟨[.int], some .int⟩ := by decide +kernel
theorem ef85 (m : MethodId) (x0 : Int32) (x1 : Int32) : entryFrame m #[(.int x0), (.int x1), (.int (5 : Int32))] 5 = (mkF m 0 #[iv x0, iv x1, iv (5 : Int32), .unset, .unset] []) := by first | (simp [entryFrame, mkF, argsToLocals, Value.category]; done) | rfl
def Q85 (Z : State) (x0 : Int32) (x1 : Int32) (h0 : Heap) (n0 : Nat) (v : Option Value) (h : Heap) (L : List Loc) : Prop := ∃ (b : Addr) (k : ClassId), v = some (.ref b) ∧ Fr n0 L ∧ Keep h0 h [] ∧ h0.size ≤ b ∧ Exa Z h b "[I" ∧ Arv Z h b k .int (5 : Int32) [(.int x1), (.int ((2 : Int32) * x1)), (.int ((2 : Int32) * ((2 : Int32) * x1))), (.int ((2 : Int32) * ((2 : Int32) * ((2 : Int32) * x1)))), (.int x0)] (.int (0 : Int32))
set_option maxRecDepth 65536 in
set_option maxHeartbeats 40000000 in
theorem rm85 (l : Launch) (Z : State) (a0 : Array Value) (hw : ∀ d ∈ tables_1, d.before a0 Z = true) (ws : List Jvm.Cond) (x0 : Int32) (x1 : Int32) (h0 : Heap) (n0 : Nat) (Z0 : n0 ≤ h0.size) (p1 : ¬ (x0 < (1 : Int32))) (p2 : ¬ (x1 < (1 : Int32))) (p4 : (3 : Int32) < (r3 x1)) :
    MetFree l ym6 (head1 (Jvm.Cond.code ym6 prog_4_method_19_code 5 (some (.array .int)) :: ws) ({ frames := 1, cells := 1, slots := 8, locals := 14 } : Room)) (fun a U => a = #[(.int x0), (.int x1), (.int (5 : Int32))] ∧ Z.Warmed39 U.vm ∧ U.heap = h0) (fun _ _ _ _ _ => True) (fun _ U o U' => ∃ v L, o = .returned v ∧ (Q85 Z x0 x1 h0 n0) v U'.heap L ∧ FrameEnd U o U' L ({ frames := 1, cells := 1, slots := 8, locals := 14 } : Room).cells ({ frames := 1, cells := 1, slots := 8, locals := 14 } : Room).slots) := by
  refine MetFree.of_bodySF (plainFor_of_name pn85) hisR ?_
  intro p e s m args below meth c s₁ Bd hml0 hP hK
  obtain ⟨rfl, hZ, hh⟩ := hP
  have hx := Bd.exec
  have hby := Bd.bytes
  have hml : c.maxLocals = 5 := hml0
  have hlk : meth.locks = false := BodyLoose.notSynchronized Bd
  have hown : s.vm.findClass "com/example/eriu/eriu/algorithm/GroupElection" = some m.cls := findClass_of_methodNamed Bd.named
  have hnm := (name_of_methodNamed Bd.named Bd.method).1
  have w_12 := hw _ (List.mem_of_getElem? (i := 12) rfl)
  have w_13 := hw _ (List.mem_of_getElem? (i := 13) rfl)
  have w_14 := hw _ (List.mem_of_getElem? (i := 14) rfl)
  have w_15 := hw _ (List.mem_of_getElem? (i := 15) rfl)
  have w_17 := hw _ (List.mem_of_getElem? (i := 17) rfl)
  have w_22 := hw _ (List.mem_of_getElem? (i := 22) rfl)
  have w_26 := hw _ (List.mem_of_getElem? (i := 26) rfl)
  have hci : ∀ i v, (i, v) ∈ ([] : List (Nat × Int32)) → (Jvm.Cond.constant "com/example/eriu/eriu/algorithm/GroupElection" i v).before #[(.int x0), (.int x1), (.int (5 : Int32))] s = true := own_ci0
  have hcl : ∀ i v, (i, v) ∈ ([(215, 2), (236, 3)] : List (Nat × Int64)) → (Jvm.Cond.constantLong "com/example/eriu/eriu/algorithm/GroupElection" i v).before #[(.int x0), (.int x1), (.int (5 : Int32))] s = true := (own_ciS (mvT hZ w_22) (own_ciS (mvT hZ w_26) own_ci0))
  have X0 : Stand p l e ({ frames := 1, cells := 1, slots := 8, locals := 14 } : Room) s m #[(.int x0), (.int x1), (.int (5 : Int32))] below meth c s₁ [] 0 0 := Stand.of_body Bd
  have e0 : s₁.heap = h0 := by rw [← hh, Bd.state]; rfl
  have N0 := Fr.nil n0
  show Goes p e below s (Q85 Z x0 x1 h0 n0) ({ frames := 1, cells := 1, slots := 8, locals := 14 } : Room).cells ({ frames := 1, cells := 1, slots := 8, locals := 14 } : Room).slots (s₁.setTop (entryFrame m #[(.int x0), (.int x1), (.int (5 : Int32))] 5))
  refine Goes.cast (ef85 m x0 x1) ?_
  have K0 : Keep h0 h0 [] := Keep.refl h0 _
  refine Goes.run X0 hx hown hci hcl hby (L := [(0, .iload_n 0, 1), (1, .iconst 1, 1)]) (by decide +kernel) rfl (g' := (mkF m 2 #[iv x0, iv x1, iv (5 : Int32), .unset, .unset] [(.int (1 : Int32)), (.int x0)])) rfl ?_
  have hc2_1 : ¬ (x0 < (1 : Int32)) := p1
  refine Goes.st (B := s₁.setTop (mkF m 5 #[iv x0, iv x1, iv (5 : Int32), .unset, .unset] [])) (fun t k => ?_) ?_
  · refine XS.icmpNo X0.here hx rfl (hb hby d7_2) rfl (flt hc2_1).1 ?_
    exact k
  refine Goes.run X0 hx hown hci hcl hby (L := [(5, .iload_n 1, 1), (6, .iconst 1, 1)]) (by decide +kernel) rfl (g' := (mkF m 7 #[iv x0, iv x1, iv (5 : Int32), .unset, .unset] [(.int (1 : Int32)), (.int x1)])) rfl ?_
  have hc7_2 : ¬ (x1 < (1 : Int32)) := p2
  refine Goes.st (B := s₁.setTop (mkF m 10 #[iv x0, iv x1, iv (5 : Int32), .unset, .unset] [])) (fun t k => ?_) ?_
  · refine XS.icmpNo X0.here hx rfl (hb hby d7_7) rfl (flt hc7_2).1 ?_
    exact k
  refine Goes.run X0 hx hown hci hcl hby (L := [(10, .iload_n 2, 1), (11, .iconst 1, 1)]) (by decide +kernel) rfl (g' := (mkF m 12 #[iv x0, iv x1, iv (5 : Int32), .unset, .unset] [(.int (1 : Int32)), (.int (5 : Int32))])) rfl ?_
  have hc12_3 : ¬ ((5 : Int32) < (1 : Int32)) := by decide
  refine Goes.st (B := s₁.setTop (mkF m 31 #[iv x0, iv x1, iv (5 : Int32), .unset, .unset] [])) (fun t k => ?_) ?_
  · refine XS.icmpYes X0.here hx rfl (pc0 := 12) (pc' := 31) rfl (hb hby d7_12) rfl (flt hc12_3).2.1 (by decide) (by decide) ?_
    exact k
  refine Goes.run X0 hx hown hci hcl hby (L := [(31, .iload_n 2, 1), (32, .iconst 2, 1), (33, .isub, 1), (34, .iload_n 1, 1)]) (by decide +kernel) rfl (g' := (mkF m 35 #[iv x0, iv x1, iv (5 : Int32), .unset, .unset] [(.int x1), (.int (3 : Int32))])) rfl ?_
  obtain ⟨_, _, ⟨T4, L4, k4, n4⟩, -, X4, ⟨Lc4, hQ4, l4, y4, z4⟩, st4⟩ := Jvm.LawKit.callS X0 hx (y := ym1) hown (mvT hZ w_12) (mvT hZ w_13) (mvT hZ w_14) (mvT hZ w_15) (by decide) (backOf (W := 1) (rm3 l Z a0 hw [] x1 h0 n0 Z0 ) hZ w_15 w_14 (by decide) (by decide)) (g := (mkF m 35 #[iv x0, iv x1, iv (5 : Int32), .unset, .unset] [(.int x1), (.int (3 : Int32))])) rfl (by rw [hml]; rfl) (argsL := [(.int x1)]) (rest := [(.int (3 : Int32))]) (lenOf pd85_0 rfl) rfl (by show 2 * 0 + _ ≤ _; exact Nat.le_of_eq rfl) (hb hby d7_35) (fun _ _ => ⟨rfl, e0, (by decide : 0 + 0 ≤ _), (by decide : 0 + 0 ≤ _)⟩)
  dsimp only [Pt.U, Pt.locs, Pt.cells, Pt.slots] at X4 l4 y4 z4 st4 hQ4
  subst l4 y4 z4
  obtain ⟨rfl, N4q, e4⟩ := hQ4
  have N4 := Fr.app N0 N4q
  refine Goes.st (B := T4.setTop (mkF m 38 #[iv x0, iv x1, iv (5 : Int32), .unset, .unset] [(.int (r3 x1)), (.int (3 : Int32))])) st4 ?_
  have hc38_5 : (3 : Int32) < (r3 x1) := p4
  refine Goes.st (B := T4.setTop (mkF m 58 #[iv x0, iv x1, iv (5 : Int32), .unset, .unset] [])) (fun t k => ?_) ?_
  · refine XS.icmpYes X4.here hx rfl (pc0 := 38) (pc' := 58) rfl (hb hby d7_38) rfl (tlt hc38_5).1 (by decide) (by decide) ?_
    exact k
  refine Goes.run X4 hx hown hci hcl hby (L := [(58, .iload_n 2, 1)]) (by decide +kernel) rfl (g' := (mkF m 59 #[iv x0, iv x1, iv (5 : Int32), .unset, .unset] [(.int (5 : Int32))])) rfl ?_
  obtain ⟨T6, h6, k6, X6, e6, E6, A6, B6, st6⟩ := newPE X4 hx hZ (aty := .int) w_17 e4 (g := (mkF m 59 #[iv x0, iv x1, iv (5 : Int32), .unset, .unset] [(.int (5 : Int32))])) rfl (hb hby d7_59) rfl (by decide) (cap := 5) (by decide) (by decide) (by decide) (by decide) (ad := "[I") (by decide)
  obtain ⟨b6, g6⟩ : ∃ z, z = h0.size := ⟨_, rfl⟩
  rw [← g6] at A6 B6 st6
  have g_b6 : n0 ≤ b6 := Nat.le_trans Z0 (Nat.le_of_eq g6.symm)
  have sz_b6 : h0.size ≤ b6 := Nat.le_trans K0.1 (Nat.le_of_eq g6.symm)
  have Zn6 : n0 ≤ h6.size := Nat.le_trans Z0 E6.1
  have K6 := K0.ext E6
  have E_b6 : Exa Z h6 b6 "[I" := B6
  have V_b6 : Arv Z h6 b6 k6 .int (5 : Int32) [(.int (0 : Int32)), (.int (0 : Int32)), (.int (0 : Int32)), (.int (0 : Int32)), (.int (0 : Int32))] (.int (0 : Int32)) := (Arv.new A6 (by decide)).pad (pad_rep [] (.int (0 : Int32)) 5)
  refine Goes.st (B := T6.setTop (mkF m 61 #[iv x0, iv x1, iv (5 : Int32), .unset, .unset] [(.ref b6)])) st6 ?_
  refine Goes.run X6 hx hown hci hcl hby (L := [(61, .astore_n 3, 1), (62, .aload_n 3, 1), (63, .iconst 0, 1), (64, .iload_n 1, 1)]) (by decide +kernel) rfl (g' := (mkF m 65 #[iv x0, iv x1, iv (5 : Int32), rv b6, .unset] [(.int x1), (.int (0 : Int32)), (.ref b6)])) rfl ?_
  obtain ⟨cl7, Ar7, q7, S7, M7, Hs7, G7⟩ := id V_b6
  have hin7 : ¬ ((0 : Int32) < 0 ∨ cl7.slots.size ≤ ((0 : Int32)).toNatClampNeg) := inb_of S7 ⟨(by decide), (by decide)⟩
  obtain ⟨T7, h7, X7, e7, W7, st7⟩ := stI X6 hx hZ e6 Ar7 (j := (0 : Int32)) hin7 (g := (mkF m 65 #[iv x0, iv x1, iv (5 : Int32), rv b6, .unset] [(.int x1), (.int (0 : Int32)), (.ref b6)])) rfl rfl (hb hby d7_65)
  have E_b6 := E_b6.wr W7
  have Zn7 : n0 ≤ h7.size := Nat.le_trans Zn6 (Keep.of_wr W7).1
  have K7 := K6.wr W7 (Or.inr sz_b6)
  have N7 := Fr.snoc X7 N4 g_b6
  have V_b6 : Arv Z h7 b6 k6 .int (5 : Int32) [(.int x1), (.int (0 : Int32)), (.int (0 : Int32)), (.int (0 : Int32)), (.int (0 : Int32))] (.int (0 : Int32)) := Arv.set Ar7 q7 S7 M7 Hs7 G7 rfl W7 0 rfl (Nat.le_of_ble_eq_true rfl)
  refine Goes.st (B := T7.setTop (mkF m 66 #[iv x0, iv x1, iv (5 : Int32), rv b6, .unset] [])) st7 ?_
  refine Goes.run X7 hx hown hci hcl hby (L := [(66, .iconst 1, 1), (67, .istore 4, 2), (69, .iload 4, 2), (71, .iload_n 2, 1), (72, .iconst 1, 1), (73, .isub, 1)]) (by decide +kernel) rfl (g' := (mkF m 74 #[iv x0, iv x1, iv (5 : Int32), rv b6, iv (1 : Int32)] [(.int (4 : Int32)), (.int (1 : Int32))])) rfl ?_
  have hc74_8 : (1 : Int32) < (4 : Int32) := by decide
  refine Goes.st (B := T7.setTop (mkF m 77 #[iv x0, iv x1, iv (5 : Int32), rv b6, iv (1 : Int32)] [])) (fun t k => ?_) ?_
  · refine XS.icmpNo X7.here hx rfl (hb hby d7_74) rfl (tlt hc74_8).2.1 ?_
    exact k
  refine Goes.run X7 hx hown hci hcl hby (L := [(77, .aload_n 3, 1), (78, .iload 4, 2), (80, .iconst 2, 1), (81, .aload_n 3, 1), (82, .iload 4, 2), (84, .iconst 1, 1)]) (by decide +kernel) rfl (g' := (mkF m 85 #[iv x0, iv x1, iv (5 : Int32), rv b6, iv (1 : Int32)] [(.int (1 : Int32)), (.int (1 : Int32)), (.ref b6), (.int (2 : Int32)), (.int (1 : Int32)), (.ref b6)])) rfl ?_
  refine Goes.run X7 hx hown hci hcl hby (L := [(85, .isub, 1)]) (by decide +kernel) rfl (g' := (mkF m 86 #[iv x0, iv x1, iv (5 : Int32), rv b6, iv (1 : Int32)] [(.int (0 : Int32)), (.ref b6), (.int (2 : Int32)), (.int (1 : Int32)), (.ref b6)])) rfl ?_
  obtain ⟨cl9, Ar9, q9, S9, M9, Hs9, G9⟩ := id V_b6
  have hin9 : ¬ ((0 : Int32) < 0 ∨ cl9.slots.size ≤ ((0 : Int32)).toNatClampNeg) := inb_of S9 ⟨(by decide), (by decide)⟩
  have hat9 : cl9.slots[((0 : Int32)).toNatClampNeg]? = some (.int x1) := Hs9.at hin9 rfl
  refine Goes.st (B := T7.setTop (mkF m 87 #[iv x0, iv x1, iv (5 : Int32), rv b6, iv (1 : Int32)] [(.int x1), (.int (2 : Int32)), (.int (1 : Int32)), (.ref b6)])) (X7.iaload hx (j := (0 : Int32)) (v := (.int x1)) (by rw [e7]; exact Ar9.1) (State.isArrayOf_alike hZ.alike Ar9.2.1) Ar9.2.2 hin9 hat9 (g := (mkF m 86 #[iv x0, iv x1, iv (5 : Int32), rv b6, iv (1 : Int32)] [(.int (0 : Int32)), (.ref b6), (.int (2 : Int32)), (.int (1 : Int32)), (.ref b6)])) rfl rfl (hb hby d7_86)) ?_
  refine Goes.run X7 hx hown hci hcl hby (L := [(87, .imul, 1)]) (by decide +kernel) rfl (g' := (mkF m 88 #[iv x0, iv x1, iv (5 : Int32), rv b6, iv (1 : Int32)] [(.int ((2 : Int32) * x1)), (.int (1 : Int32)), (.ref b6)])) rfl ?_
  obtain ⟨cl10, Ar10, q10, S10, M10, Hs10, G10⟩ := id V_b6
  have hin10 : ¬ ((1 : Int32) < 0 ∨ cl10.slots.size ≤ ((1 : Int32)).toNatClampNeg) := inb_of S10 ⟨(by decide), (by decide)⟩
  obtain ⟨T10, h10, X10, e10, W10, st10⟩ := stI X7 hx hZ e7 Ar10 (j := (1 : Int32)) hin10 (g := (mkF m 88 #[iv x0, iv x1, iv (5 : Int32), rv b6, iv (1 : Int32)] [(.int ((2 : Int32) * x1)), (.int (1 : Int32)), (.ref b6)])) rfl rfl (hb hby d7_88)
  have E_b6 := E_b6.wr W10
  have Zn10 : n0 ≤ h10.size := Nat.le_trans Zn7 (Keep.of_wr W10).1
  have K10 := K7.wr W10 (Or.inr sz_b6)
  have N10 := Fr.snoc X10 N7 g_b6
  have V_b6 : Arv Z h10 b6 k6 .int (5 : Int32) [(.int x1), (.int ((2 : Int32) * x1)), (.int (0 : Int32)), (.int (0 : Int32)), (.int (0 : Int32))] (.int (0 : Int32)) := Arv.set Ar10 q10 S10 M10 Hs10 G10 rfl W10 1 rfl (Nat.le_of_ble_eq_true rfl)
  refine Goes.st (B := T10.setTop (mkF m 89 #[iv x0, iv x1, iv (5 : Int32), rv b6, iv (1 : Int32)] [])) st10 ?_
  refine Goes.run X10 hx hown hci hcl hby (L := [(89, .iinc 4 1, 3), (92, .goto (-23), 3), (69, .iload 4, 2), (71, .iload_n 2, 1), (72, .iconst 1, 1), (73, .isub, 1)]) (by decide +kernel) rfl (g' := (mkF m 74 #[iv x0, iv x1, iv (5 : Int32), rv b6, iv (2 : Int32)] [(.int (4 : Int32)), (.int (2 : Int32))])) rfl ?_
  have hc74_11 : (2 : Int32) < (4 : Int32) := by decide
  refine Goes.st (B := T10.setTop (mkF m 77 #[iv x0, iv x1, iv (5 : Int32), rv b6, iv (2 : Int32)] [])) (fun t k => ?_) ?_
  · refine XS.icmpNo X10.here hx rfl (hb hby d7_74) rfl (tlt hc74_11).2.1 ?_
    exact k
  refine Goes.run X10 hx hown hci hcl hby (L := [(77, .aload_n 3, 1), (78, .iload 4, 2), (80, .iconst 2, 1), (81, .aload_n 3, 1), (82, .iload 4, 2), (84, .iconst 1, 1)]) (by decide +kernel) rfl (g' := (mkF m 85 #[iv x0, iv x1, iv (5 : Int32), rv b6, iv (2 : Int32)] [(.int (1 : Int32)), (.int (2 : Int32)), (.ref b6), (.int (2 : Int32)), (.int (2 : Int32)), (.ref b6)])) rfl ?_
  refine Goes.run X10 hx hown hci hcl hby (L := [(85, .isub, 1)]) (by decide +kernel) rfl (g' := (mkF m 86 #[iv x0, iv x1, iv (5 : Int32), rv b6, iv (2 : Int32)] [(.int (1 : Int32)), (.ref b6), (.int (2 : Int32)), (.int (2 : Int32)), (.ref b6)])) rfl ?_
  obtain ⟨cl12, Ar12, q12, S12, M12, Hs12, G12⟩ := id V_b6
  have hin12 : ¬ ((1 : Int32) < 0 ∨ cl12.slots.size ≤ ((1 : Int32)).toNatClampNeg) := inb_of S12 ⟨(by decide), (by decide)⟩
  have hat12 : cl12.slots[((1 : Int32)).toNatClampNeg]? = some (.int ((2 : Int32) * x1)) := Hs12.at hin12 rfl
  refine Goes.st (B := T10.setTop (mkF m 87 #[iv x0, iv x1, iv (5 : Int32), rv b6, iv (2 : Int32)] [(.int ((2 : Int32) * x1)), (.int (2 : Int32)), (.int (2 : Int32)), (.ref b6)])) (X10.iaload hx (j := (1 : Int32)) (v := (.int ((2 : Int32) * x1))) (by rw [e10]; exact Ar12.1) (State.isArrayOf_alike hZ.alike Ar12.2.1) Ar12.2.2 hin12 hat12 (g := (mkF m 86 #[iv x0, iv x1, iv (5 : Int32), rv b6, iv (2 : Int32)] [(.int (1 : Int32)), (.ref b6), (.int (2 : Int32)), (.int (2 : Int32)), (.ref b6)])) rfl rfl (hb hby d7_86)) ?_
  refine Goes.run X10 hx hown hci hcl hby (L := [(87, .imul, 1)]) (by decide +kernel) rfl (g' := (mkF m 88 #[iv x0, iv x1, iv (5 : Int32), rv b6, iv (2 : Int32)] [(.int ((2 : Int32) * ((2 : Int32) * x1))), (.int (2 : Int32)), (.ref b6)])) rfl ?_
  obtain ⟨cl13, Ar13, q13, S13, M13, Hs13, G13⟩ := id V_b6
  have hin13 : ¬ ((2 : Int32) < 0 ∨ cl13.slots.size ≤ ((2 : Int32)).toNatClampNeg) := inb_of S13 ⟨(by decide), (by decide)⟩
  obtain ⟨T13, h13, X13, e13, W13, st13⟩ := stI X10 hx hZ e10 Ar13 (j := (2 : Int32)) hin13 (g := (mkF m 88 #[iv x0, iv x1, iv (5 : Int32), rv b6, iv (2 : Int32)] [(.int ((2 : Int32) * ((2 : Int32) * x1))), (.int (2 : Int32)), (.ref b6)])) rfl rfl (hb hby d7_88)
  have E_b6 := E_b6.wr W13
  have Zn13 : n0 ≤ h13.size := Nat.le_trans Zn10 (Keep.of_wr W13).1
  have K13 := K10.wr W13 (Or.inr sz_b6)
  have N13 := Fr.snoc X13 N10 g_b6
  have V_b6 : Arv Z h13 b6 k6 .int (5 : Int32) [(.int x1), (.int ((2 : Int32) * x1)), (.int ((2 : Int32) * ((2 : Int32) * x1))), (.int (0 : Int32)), (.int (0 : Int32))] (.int (0 : Int32)) := Arv.set Ar13 q13 S13 M13 Hs13 G13 rfl W13 2 rfl (Nat.le_of_ble_eq_true rfl)
  refine Goes.st (B := T13.setTop (mkF m 89 #[iv x0, iv x1, iv (5 : Int32), rv b6, iv (2 : Int32)] [])) st13 ?_
  refine Goes.run X13 hx hown hci hcl hby (L := [(89, .iinc 4 1, 3), (92, .goto (-23), 3), (69, .iload 4, 2), (71, .iload_n 2, 1), (72, .iconst 1, 1), (73, .isub, 1)]) (by decide +kernel) rfl (g' := (mkF m 74 #[iv x0, iv x1, iv (5 : Int32), rv b6, iv (3 : Int32)] [(.int (4 : Int32)), (.int (3 : Int32))])) rfl ?_
  have hc74_14 : (3 : Int32) < (4 : Int32) := by decide
  refine Goes.st (B := T13.setTop (mkF m 77 #[iv x0, iv x1, iv (5 : Int32), rv b6, iv (3 : Int32)] [])) (fun t k => ?_) ?_
  · refine XS.icmpNo X13.here hx rfl (hb hby d7_74) rfl (tlt hc74_14).2.1 ?_
    exact k
  refine Goes.run X13 hx hown hci hcl hby (L := [(77, .aload_n 3, 1), (78, .iload 4, 2), (80, .iconst 2, 1), (81, .aload_n 3, 1), (82, .iload 4, 2), (84, .iconst 1, 1)]) (by decide +kernel) rfl (g' := (mkF m 85 #[iv x0, iv x1, iv (5 : Int32), rv b6, iv (3 : Int32)] [(.int (1 : Int32)), (.int (3 : Int32)), (.ref b6), (.int (2 : Int32)), (.int (3 : Int32)), (.ref b6)])) rfl ?_
  refine Goes.run X13 hx hown hci hcl hby (L := [(85, .isub, 1)]) (by decide +kernel) rfl (g' := (mkF m 86 #[iv x0, iv x1, iv (5 : Int32), rv b6, iv (3 : Int32)] [(.int (2 : Int32)), (.ref b6), (.int (2 : Int32)), (.int (3 : Int32)), (.ref b6)])) rfl ?_
  obtain ⟨cl15, Ar15, q15, S15, M15, Hs15, G15⟩ := id V_b6
  have hin15 : ¬ ((2 : Int32) < 0 ∨ cl15.slots.size ≤ ((2 : Int32)).toNatClampNeg) := inb_of S15 ⟨(by decide), (by decide)⟩
  have hat15 : cl15.slots[((2 : Int32)).toNatClampNeg]? = some (.int ((2 : Int32) * ((2 : Int32) * x1))) := Hs15.at hin15 rfl
  refine Goes.st (B := T13.setTop (mkF m 87 #[iv x0, iv x1, iv (5 : Int32), rv b6, iv (3 : Int32)] [(.int ((2 : Int32) * ((2 : Int32) * x1))), (.int (2 : Int32)), (.int (3 : Int32)), (.ref b6)])) (X13.iaload hx (j := (2 : Int32)) (v := (.int ((2 : Int32) * ((2 : Int32) * x1)))) (by rw [e13]; exact Ar15.1) (State.isArrayOf_alike hZ.alike Ar15.2.1) Ar15.2.2 hin15 hat15 (g := (mkF m 86 #[iv x0, iv x1, iv (5 : Int32), rv b6, iv (3 : Int32)] [(.int (2 : Int32)), (.ref b6), (.int (2 : Int32)), (.int (3 : Int32)), (.ref b6)])) rfl rfl (hb hby d7_86)) ?_
  refine Goes.run X13 hx hown hci hcl hby (L := [(87, .imul, 1)]) (by decide +kernel) rfl (g' := (mkF m 88 #[iv x0, iv x1, iv (5 : Int32), rv b6, iv (3 : Int32)] [(.int ((2 : Int32) * ((2 : Int32) * ((2 : Int32) * x1)))), (.int (3 : Int32)), (.ref b6)])) rfl ?_
  obtain ⟨cl16, Ar16, q16, S16, M16, Hs16, G16⟩ := id V_b6
  have hin16 : ¬ ((3 : Int32) < 0 ∨ cl16.slots.size ≤ ((3 : Int32)).toNatClampNeg) := inb_of S16 ⟨(by decide), (by decide)⟩
  obtain ⟨T16, h16, X16, e16, W16, st16⟩ := stI X13 hx hZ e13 Ar16 (j := (3 : Int32)) hin16 (g := (mkF m 88 #[iv x0, iv x1, iv (5 : Int32), rv b6, iv (3 : Int32)] [(.int ((2 : Int32) * ((2 : Int32) * ((2 : Int32) * x1)))), (.int (3 : Int32)), (.ref b6)])) rfl rfl (hb hby d7_88)
  have E_b6 := E_b6.wr W16
  have Zn16 : n0 ≤ h16.size := Nat.le_trans Zn13 (Keep.of_wr W16).1
  have K16 := K13.wr W16 (Or.inr sz_b6)
  have N16 := Fr.snoc X16 N13 g_b6
  have V_b6 : Arv Z h16 b6 k6 .int (5 : Int32) [(.int x1), (.int ((2 : Int32) * x1)), (.int ((2 : Int32) * ((2 : Int32) * x1))), (.int ((2 : Int32) * ((2 : Int32) * ((2 : Int32) * x1)))), (.int (0 : Int32))] (.int (0 : Int32)) := Arv.set Ar16 q16 S16 M16 Hs16 G16 rfl W16 3 rfl (Nat.le_of_ble_eq_true rfl)
  refine Goes.st (B := T16.setTop (mkF m 89 #[iv x0, iv x1, iv (5 : Int32), rv b6, iv (3 : Int32)] [])) st16 ?_
  refine Goes.run X16 hx hown hci hcl hby (L := [(89, .iinc 4 1, 3), (92, .goto (-23), 3), (69, .iload 4, 2), (71, .iload_n 2, 1), (72, .iconst 1, 1), (73, .isub, 1)]) (by decide +kernel) rfl (g' := (mkF m 74 #[iv x0, iv x1, iv (5 : Int32), rv b6, iv (4 : Int32)] [(.int (4 : Int32)), (.int (4 : Int32))])) rfl ?_
  have hc74_17 : ¬ ((4 : Int32) < (4 : Int32)) := Int32.lt_irrefl
  refine Goes.st (B := T16.setTop (mkF m 95 #[iv x0, iv x1, iv (5 : Int32), rv b6, iv (4 : Int32)] [])) (fun t k => ?_) ?_
  · refine XS.icmpYes X16.here hx rfl (pc0 := 74) (pc' := 95) rfl (hb hby d7_74) rfl (flt hc74_17).2.1 (by decide) (by decide) ?_
    exact k
  refine Goes.run X16 hx hown hci hcl hby (L := [(95, .iload_n 2, 1), (96, .iconst 1, 1)]) (by decide +kernel) rfl (g' := (mkF m 97 #[iv x0, iv x1, iv (5 : Int32), rv b6, iv (4 : Int32)] [(.int (1 : Int32)), (.int (5 : Int32))])) rfl ?_
  have hc97_18 : (1 : Int32) < (5 : Int32) := by decide
  refine Goes.st (B := T16.setTop (mkF m 100 #[iv x0, iv x1, iv (5 : Int32), rv b6, iv (4 : Int32)] [])) (fun t k => ?_) ?_
  · refine XS.icmpNo X16.here hx rfl (hb hby d7_97) rfl (tlt hc97_18).2.2.2 ?_
    exact k
  refine Goes.run X16 hx hown hci hcl hby (L := [(100, .aload_n 3, 1), (101, .iload_n 2, 1), (102, .iconst 1, 1), (103, .isub, 1), (104, .iload_n 0, 1)]) (by decide +kernel) rfl (g' := (mkF m 105 #[iv x0, iv x1, iv (5 : Int32), rv b6, iv (4 : Int32)] [(.int x0), (.int (4 : Int32)), (.ref b6)])) rfl ?_
  obtain ⟨cl19, Ar19, q19, S19, M19, Hs19, G19⟩ := id V_b6
  have hin19 : ¬ ((4 : Int32) < 0 ∨ cl19.slots.size ≤ ((4 : Int32)).toNatClampNeg) := inb_of S19 ⟨(by decide), (by decide)⟩
  obtain ⟨T19, h19, X19, e19, W19, st19⟩ := stI X16 hx hZ e16 Ar19 (j := (4 : Int32)) hin19 (g := (mkF m 105 #[iv x0, iv x1, iv (5 : Int32), rv b6, iv (4 : Int32)] [(.int x0), (.int (4 : Int32)), (.ref b6)])) rfl rfl (hb hby d7_105)
  have E_b6 := E_b6.wr W19
  have Zn19 : n0 ≤ h19.size := Nat.le_trans Zn16 (Keep.of_wr W19).1
  have K19 := K16.wr W19 (Or.inr sz_b6)
  have N19 := Fr.snoc X19 N16 g_b6
  have V_b6 : Arv Z h19 b6 k6 .int (5 : Int32) [(.int x1), (.int ((2 : Int32) * x1)), (.int ((2 : Int32) * ((2 : Int32) * x1))), (.int ((2 : Int32) * ((2 : Int32) * ((2 : Int32) * x1)))), (.int x0)] (.int (0 : Int32)) := Arv.set Ar19 q19 S19 M19 Hs19 G19 rfl W19 4 rfl (Nat.le_of_ble_eq_true rfl)
  refine Goes.st (B := T19.setTop (mkF m 106 #[iv x0, iv x1, iv (5 : Int32), rv b6, iv (4 : Int32)] [])) st19 ?_
  refine Goes.run X19 hx hown hci hcl hby (L := [(106, .aload_n 3, 1)]) (by decide +kernel) rfl (g' := (mkF m 107 #[iv x0, iv x1, iv (5 : Int32), rv b6, iv (4 : Int32)] [(.ref b6)])) rfl ?_
  refine Goes.retR X19 hx hlk Bd.returns rfl rfl (hb hby d7_107) ?_ (by decide) (by decide)
  show (Q85 Z x0 x1 h0 n0) _ _ _
  rw [e19]
  exact ⟨b6, k6, rfl, N19, K19, sz_b6, E_b6, V_b6⟩
theorem pn95 : plainName "com/example/eriu/eriu/algorithm/GroupElection" = true := by first | (simp [plainName, overriddenIn]; done) | decide +kernel
theorem pd95_0 : parseMethodDescriptor "(III)[I" = some ⟨[.int, .int, .int], some (.array .int)⟩ := by decide +kernel
theorem pd95_1 : parseMethodDescriptor "(I)J" = some ⟨[.int], some .long⟩ := by decide +kernel
theorem pd95_2 : parseMethodDescriptor "(II)J" = some ⟨[.int, .int], some .long⟩ := by decide +kernel
theorem ef95 (m : MethodId) (x0 : Int32) (x1 : Int32) : entryFrame m #[(.int x0), (.int x1), (.int (5 : Int32))] 6 = (mkF m 0 #[iv x0, iv x1, iv (5 : Int32), .unset, .unset, .unset] []) := by first | (simp [entryFrame, mkF, argsToLocals, Value.category]; done) | rfl
def c95_50_0 (x0 : Int32) (x1 : Int32) : Int32 := ((2 : Int32) * x1)
def c95_50_0_a (x0 : Int32) (x1 : Int32) : Int32 := ((2 : Int32) * ((2 : Int32) * x1))
def c95_50_0_b (x0 : Int32) (x1 : Int32) : Int32 := ((2 : Int32) * ((2 : Int32) * ((2 : Int32) * x1)))
def Q95 (Z : State) (x0 : Int32) (x1 : Int32) (h0 : Heap) (n0 : Nat) (v : Option Value) (h : Heap) (L : List Loc) : Prop := ∃ (b : Addr) (k : ClassId), v = some (.ref b) ∧ Fr n0 L ∧ Keep h0 h [] ∧ h0.size ≤ b ∧ Exa Z h b "[J" ∧ Arv Z h b k .long (5 : Int32) [(.long ((r5 x1) + (r7 x0 (c95_50_0 x0 x1)))), (.long ((r5 (c95_50_0 x0 x1)) + (r7 x0 (c95_50_0_a x0 x1)))), (.long ((r5 (c95_50_0_a x0 x1)) + (r7 x0 (c95_50_0_b x0 x1)))), (.long ((r5 (c95_50_0_b x0 x1)) + (r7 x0 x0))), (.long ((r5 x0) + (0 : Int64)))] (.long (0 : Int64))
set_option maxRecDepth 65536 in
set_option maxHeartbeats 40000000 in
theorem rm95 (l : Launch) (Z : State) (a0 : Array Value) (hw : ∀ d ∈ tables_1, d.before a0 Z = true) (ws : List Jvm.Cond) (x0 : Int32) (x1 : Int32) (h0 : Heap) (n0 : Nat) (Z0 : n0 ≤ h0.size) (p1 : ¬ (x0 < (1 : Int32))) (p2 : ¬ (x1 < (1 : Int32))) (p4 : (3 : Int32) < (r3 x1)) (s1 : ¬ (((2 : Int32) * x1) < (1 : Int32))) (s2 : ¬ (((2 : Int32) * ((2 : Int32) * x1)) < (1 : Int32))) (s3 : ¬ (((2 : Int32) * ((2 : Int32) * ((2 : Int32) * x1))) < (1 : Int32))) (s4 : ¬ (x0 < (1 : Int32))) :
    MetFree l ym7 (head1 (Jvm.Cond.code ym7 prog_4_method_3_code 6 (some (.array .long)) :: ws) ({ frames := 2, cells := 2, slots := 16, locals := 40 } : Room)) (fun a U => a = #[(.int x0), (.int x1), (.int (5 : Int32))] ∧ Z.Warmed39 U.vm ∧ U.heap = h0) (fun _ _ _ _ _ => True) (fun _ U o U' => ∃ v L, o = .returned v ∧ (Q95 Z x0 x1 h0 n0) v U'.heap L ∧ FrameEnd U o U' L ({ frames := 2, cells := 2, slots := 16, locals := 40 } : Room).cells ({ frames := 2, cells := 2, slots := 16, locals := 40 } : Room).slots) := by
  refine MetFree.of_bodySF (plainFor_of_name pn95) hisR ?_
  intro p e s m args below meth c s₁ Bd hml0 hP hK
  obtain ⟨rfl, hZ, hh⟩ := hP
  have hx := Bd.exec
  have hby := Bd.bytes
  have hml : c.maxLocals = 6 := hml0
  have hlk : meth.locks = false := BodyLoose.notSynchronized Bd
  have hown : s.vm.findClass "com/example/eriu/eriu/algorithm/GroupElection" = some m.cls := findClass_of_methodNamed Bd.named
  have hnm := (name_of_methodNamed Bd.named Bd.method).1
  have w_7 := hw _ (List.mem_of_getElem? (i := 7) rfl)
  have w_9 := hw _ (List.mem_of_getElem? (i := 9) rfl)
  have w_10 := hw _ (List.mem_of_getElem? (i := 10) rfl)
  have w_11 := hw _ (List.mem_of_getElem? (i := 11) rfl)
  have w_18 := hw _ (List.mem_of_getElem? (i := 18) rfl)
  have w_19 := hw _ (List.mem_of_getElem? (i := 19) rfl)
  have w_20 := hw _ (List.mem_of_getElem? (i := 20) rfl)
  have w_21 := hw _ (List.mem_of_getElem? (i := 21) rfl)
  have w_22 := hw _ (List.mem_of_getElem? (i := 22) rfl)
  have w_26 := hw _ (List.mem_of_getElem? (i := 26) rfl)
  have w_27 := hw _ (List.mem_of_getElem? (i := 27) rfl)
  have w_28 := hw _ (List.mem_of_getElem? (i := 28) rfl)
  have w_29 := hw _ (List.mem_of_getElem? (i := 29) rfl)
  have hci : ∀ i v, (i, v) ∈ ([] : List (Nat × Int32)) → (Jvm.Cond.constant "com/example/eriu/eriu/algorithm/GroupElection" i v).before #[(.int x0), (.int x1), (.int (5 : Int32))] s = true := own_ci0
  have hcl : ∀ i v, (i, v) ∈ ([(215, 2), (236, 3)] : List (Nat × Int64)) → (Jvm.Cond.constantLong "com/example/eriu/eriu/algorithm/GroupElection" i v).before #[(.int x0), (.int x1), (.int (5 : Int32))] s = true := (own_ciS (mvT hZ w_22) (own_ciS (mvT hZ w_26) own_ci0))
  have X0 : Stand p l e ({ frames := 2, cells := 2, slots := 16, locals := 40 } : Room) s m #[(.int x0), (.int x1), (.int (5 : Int32))] below meth c s₁ [] 0 0 := Stand.of_body Bd
  have e0 : s₁.heap = h0 := by rw [← hh, Bd.state]; rfl
  have N0 := Fr.nil n0
  show Goes p e below s (Q95 Z x0 x1 h0 n0) ({ frames := 2, cells := 2, slots := 16, locals := 40 } : Room).cells ({ frames := 2, cells := 2, slots := 16, locals := 40 } : Room).slots (s₁.setTop (entryFrame m #[(.int x0), (.int x1), (.int (5 : Int32))] 6))
  refine Goes.cast (ef95 m x0 x1) ?_
  have K0 : Keep h0 h0 [] := Keep.refl h0 _
  refine Goes.run X0 hx hown hci hcl hby (L := [(0, .iload_n 0, 1), (1, .iload_n 1, 1), (2, .iload_n 2, 1)]) (by decide +kernel) rfl (g' := (mkF m 3 #[iv x0, iv x1, iv (5 : Int32), .unset, .unset, .unset] [(.int (5 : Int32)), (.int x1), (.int x0)])) rfl ?_
  obtain ⟨_, _, ⟨T1, L1, k1, n1⟩, -, X1, ⟨Lc1, hQ1, l1, y1, z1⟩, st1⟩ := Jvm.LawKit.callS X0 hx (y := ym6) hown (mvT hZ w_9) (mvT hZ w_10) (mvT hZ w_7) (mvT hZ w_11) (by decide) (backOf (W := 0) (rm85 l Z a0 hw [] x0 x1 h0 n0 Z0 p1 p2 p4) hZ w_11 w_7 (by decide) (by decide)) (g := (mkF m 3 #[iv x0, iv x1, iv (5 : Int32), .unset, .unset, .unset] [(.int (5 : Int32)), (.int x1), (.int x0)])) rfl (by rw [hml]; rfl) (argsL := [(.int x0), (.int x1), (.int (5 : Int32))]) (rest := []) (lenOf pd95_0 rfl) rfl (by show 2 * 0 + _ ≤ _; exact Nat.le_of_eq rfl) (hb hby d8_3) (fun _ _ => ⟨rfl, e0, (by decide : 0 + 1 ≤ _), (by decide : 0 + 8 ≤ _)⟩)
  dsimp only [Pt.U, Pt.locs, Pt.cells, Pt.slots] at X1 l1 y1 z1 st1 hQ1
  subst l1 y1 z1
  obtain ⟨h1, eh1⟩ : ∃ z, z = T1.heap := ⟨_, rfl⟩
  rw [← eh1] at hQ1
  have e1 : T1.heap = h1 := eh1.symm
  obtain ⟨b1, kc1, rfl, N1q, Kq1, szq1, o1_0, o1_1⟩ := hQ1
  have g_b1 : n0 ≤ b1 := Nat.le_trans Z0 szq1
  have sz_b1 : h0.size ≤ b1 := Nat.le_trans K0.1 szq1
  have N1 := Fr.app N0 N1q
  have E_b1 : Exa Z h1 b1 "[I" := o1_0
  have V_b1 : Arv Z h1 b1 kc1 .int (5 : Int32) [(.int x1), (.int ((2 : Int32) * x1)), (.int ((2 : Int32) * ((2 : Int32) * x1))), (.int ((2 : Int32) * ((2 : Int32) * ((2 : Int32) * x1)))), (.int x0)] (.int (0 : Int32)) := o1_1
  have Zn1 : n0 ≤ h1.size := Nat.le_trans Z0 Kq1.1
  have K1 := K0.trans Kq1 (all0)
  refine Goes.st (B := T1.setTop (mkF m 6 #[iv x0, iv x1, iv (5 : Int32), .unset, .unset, .unset] [(.ref b1)])) st1 ?_
  refine Goes.run X1 hx hown hci hcl hby (L := [(6, .astore_n 3, 1), (7, .aload_n 3, 1)]) (by decide +kernel) rfl (g' := (mkF m 8 #[iv x0, iv x1, iv (5 : Int32), rv b1, .unset, .unset] [(.ref b1)])) rfl ?_
  obtain ⟨cl2, Ar2, q2, S2, M2, Hs2, G2⟩ := id V_b1
  refine Goes.st (B := T1.setTop (mkF m 9 #[iv x0, iv x1, iv (5 : Int32), rv b1, .unset, .unset] [(.int (5 : Int32))])) (fun t k => ?_) ?_
  · refine X1.arraylength hx (cell := cl2) (by rw [e1]; exact Ar2.1) (State.isArrayOf_alike hZ.alike Ar2.2.1) (g := (mkF m 8 #[iv x0, iv x1, iv (5 : Int32), rv b1, .unset, .unset] [(.ref b1)])) rfl (rest := []) rfl (hb hby d8_8) _ ?_
    rw [len_of S2 M2]
    exact k
  obtain ⟨T3, h3, k3, X3, e3, E3, A3, B3, st3⟩ := newPE X1 hx hZ (aty := .long) w_18 e1 (g := (mkF m 9 #[iv x0, iv x1, iv (5 : Int32), rv b1, .unset, .unset] [(.int (5 : Int32))])) rfl (hb hby d8_9) rfl (by decide) (cap := 5) (by decide) (by decide) (by decide) (by decide) (ad := "[J") (by decide)
  obtain ⟨b3, g3⟩ : ∃ z, z = h1.size := ⟨_, rfl⟩
  rw [← g3] at A3 B3 st3
  have ne_b1_b3 : b1 ≠ b3 := Nat.ne_of_lt (Nat.lt_of_lt_of_le E_b1.lt (Nat.le_of_eq g3.symm))
  have g_b3 : n0 ≤ b3 := Nat.le_trans Zn1 (Nat.le_of_eq g3.symm)
  have sz_b3 : h0.size ≤ b3 := Nat.le_trans K1.1 (Nat.le_of_eq g3.symm)
  have E_b1 := E_b1.ext E3
  have V_b1 := V_b1.ext E3
  have Zn3 : n0 ≤ h3.size := Nat.le_trans Zn1 E3.1
  have K3 := K1.ext E3
  have E_b3 : Exa Z h3 b3 "[J" := B3
  have V_b3 : Arv Z h3 b3 k3 .long (5 : Int32) [(.long (0 : Int64)), (.long (0 : Int64)), (.long (0 : Int64)), (.long (0 : Int64)), (.long (0 : Int64))] (.long (0 : Int64)) := (Arv.new A3 (by decide)).pad (pad_rep [] (.long (0 : Int64)) 5)
  refine Goes.st (B := T3.setTop (mkF m 11 #[iv x0, iv x1, iv (5 : Int32), rv b1, .unset, .unset] [(.ref b3)])) st3 ?_
  refine Goes.run X3 hx hown hci hcl hby (L := [(11, .astore 4, 2), (13, .iconst 0, 1), (14, .istore 5, 2), (16, .iload 5, 2), (18, .aload_n 3, 1)]) (by decide +kernel) rfl (g' := (mkF m 19 #[iv x0, iv x1, iv (5 : Int32), rv b1, rv b3, iv (0 : Int32)] [(.ref b1), (.int (0 : Int32))])) rfl ?_
  obtain ⟨cl4, Ar4, q4, S4, M4, Hs4, G4⟩ := id V_b1
  refine Goes.st (B := T3.setTop (mkF m 20 #[iv x0, iv x1, iv (5 : Int32), rv b1, rv b3, iv (0 : Int32)] [(.int (5 : Int32)), (.int (0 : Int32))])) (fun t k => ?_) ?_
  · refine X3.arraylength hx (cell := cl4) (by rw [e3]; exact Ar4.1) (State.isArrayOf_alike hZ.alike Ar4.2.1) (g := (mkF m 19 #[iv x0, iv x1, iv (5 : Int32), rv b1, rv b3, iv (0 : Int32)] [(.ref b1), (.int (0 : Int32))])) rfl (rest := [(.int (0 : Int32))]) rfl (hb hby d8_19) _ ?_
    rw [len_of S4 M4]
    exact k
  have hc20_5 : (0 : Int32) < (5 : Int32) := by decide
  refine Goes.st (B := T3.setTop (mkF m 23 #[iv x0, iv x1, iv (5 : Int32), rv b1, rv b3, iv (0 : Int32)] [])) (fun t k => ?_) ?_
  · refine XS.icmpNo X3.here hx rfl (hb hby d8_20) rfl (tlt hc20_5).2.1 ?_
    exact k
  refine Goes.run X3 hx hown hci hcl hby (L := [(23, .aload 4, 2), (25, .iload 5, 2), (27, .aload_n 3, 1), (28, .iload 5, 2)]) (by decide +kernel) rfl (g' := (mkF m 30 #[iv x0, iv x1, iv (5 : Int32), rv b1, rv b3, iv (0 : Int32)] [(.int (0 : Int32)), (.ref b1), (.int (0 : Int32)), (.ref b3)])) rfl ?_
  obtain ⟨cl6, Ar6, q6, S6, M6, Hs6, G6⟩ := id V_b1
  have hin6 : ¬ ((0 : Int32) < 0 ∨ cl6.slots.size ≤ ((0 : Int32)).toNatClampNeg) := inb_of S6 ⟨(by decide), (by decide)⟩
  have hat6 : cl6.slots[((0 : Int32)).toNatClampNeg]? = some (.int x1) := Hs6.at hin6 rfl
  refine Goes.st (B := T3.setTop (mkF m 31 #[iv x0, iv x1, iv (5 : Int32), rv b1, rv b3, iv (0 : Int32)] [(.int x1), (.int (0 : Int32)), (.ref b3)])) (X3.iaload hx (j := (0 : Int32)) (v := (.int x1)) (by rw [e3]; exact Ar6.1) (State.isArrayOf_alike hZ.alike Ar6.2.1) Ar6.2.2 hin6 hat6 (g := (mkF m 30 #[iv x0, iv x1, iv (5 : Int32), rv b1, rv b3, iv (0 : Int32)] [(.int (0 : Int32)), (.ref b1), (.int (0 : Int32)), (.ref b3)])) rfl rfl (hb hby d8_30)) ?_
  obtain ⟨_, _, ⟨T7, L7, k7, n7⟩, -, X7, ⟨Lc7, hQ7, l7, y7, z7⟩, st7⟩ := Jvm.LawKit.callS X3 hx (y := ym3) hown (mvT hZ w_19) (mvT hZ w_20) (mvT hZ w_7) (mvT hZ w_21) (by decide) (backOf (W := 2) (rm5 l Z a0 hw [] x1 h3 n0 Zn3 ) hZ w_21 w_7 (by decide) (by decide)) (g := (mkF m 31 #[iv x0, iv x1, iv (5 : Int32), rv b1, rv b3, iv (0 : Int32)] [(.int x1), (.int (0 : Int32)), (.ref b3)])) rfl (by rw [hml]; rfl) (argsL := [(.int x1)]) (rest := [(.int (0 : Int32)), (.ref b3)]) (lenOf pd95_1 rfl) rfl (by show 2 * 0 + _ ≤ _; exact Nat.le_of_eq rfl) (hb hby d8_31) (fun _ _ => ⟨rfl, e3, (by decide : 2 + 0 ≤ _), (by decide : 13 + 0 ≤ _)⟩)
  dsimp only [Pt.U, Pt.locs, Pt.cells, Pt.slots] at X7 l7 y7 z7 st7 hQ7
  subst l7 y7 z7
  obtain ⟨rfl, N7q, e7⟩ := hQ7
  have N7 := Fr.app N1 N7q
  refine Goes.st (B := T7.setTop (mkF m 34 #[iv x0, iv x1, iv (5 : Int32), rv b1, rv b3, iv (0 : Int32)] [(.long (r5 x1)), (.int (0 : Int32)), (.ref b3)])) st7 ?_
  refine Goes.run X7 hx hown hci hcl hby (L := [(34, .iload 5, 2), (36, .iconst 1, 1), (37, .iadd, 1), (38, .aload_n 3, 1)]) (by decide +kernel) rfl (g' := (mkF m 39 #[iv x0, iv x1, iv (5 : Int32), rv b1, rv b3, iv (0 : Int32)] [(.ref b1), (.int (1 : Int32)), (.long (r5 x1)), (.int (0 : Int32)), (.ref b3)])) rfl ?_
  obtain ⟨cl8, Ar8, q8, S8, M8, Hs8, G8⟩ := id V_b1
  refine Goes.st (B := T7.setTop (mkF m 40 #[iv x0, iv x1, iv (5 : Int32), rv b1, rv b3, iv (0 : Int32)] [(.int (5 : Int32)), (.int (1 : Int32)), (.long (r5 x1)), (.int (0 : Int32)), (.ref b3)])) (fun t k => ?_) ?_
  · refine X7.arraylength hx (cell := cl8) (by rw [e7]; exact Ar8.1) (State.isArrayOf_alike hZ.alike Ar8.2.1) (g := (mkF m 39 #[iv x0, iv x1, iv (5 : Int32), rv b1, rv b3, iv (0 : Int32)] [(.ref b1), (.int (1 : Int32)), (.long (r5 x1)), (.int (0 : Int32)), (.ref b3)])) rfl (rest := [(.int (1 : Int32)), (.long (r5 x1)), (.int (0 : Int32)), (.ref b3)]) rfl (hb hby d8_39) _ ?_
    rw [len_of S8 M8]
    exact k
  have hc40_9 : (1 : Int32) < (5 : Int32) := by decide
  refine Goes.st (B := T7.setTop (mkF m 43 #[iv x0, iv x1, iv (5 : Int32), rv b1, rv b3, iv (0 : Int32)] [(.long (r5 x1)), (.int (0 : Int32)), (.ref b3)])) (fun t k => ?_) ?_
  · refine XS.icmpNo X7.here hx rfl (hb hby d8_40) rfl (tlt hc40_9).2.1 ?_
    exact k
  refine Goes.run X7 hx hown hci hcl hby (L := [(43, .iload_n 0, 1), (44, .aload_n 3, 1), (45, .iload 5, 2), (47, .iconst 1, 1), (48, .iadd, 1)]) (by decide +kernel) rfl (g' := (mkF m 49 #[iv x0, iv x1, iv (5 : Int32), rv b1, rv b3, iv (0 : Int32)] [(.int (1 : Int32)), (.ref b1), (.int x0), (.long (r5 x1)), (.int (0 : Int32)), (.ref b3)])) rfl ?_
  obtain ⟨cl10, Ar10, q10, S10, M10, Hs10, G10⟩ := id V_b1
  have hin10 : ¬ ((1 : Int32) < 0 ∨ cl10.slots.size ≤ ((1 : Int32)).toNatClampNeg) := inb_of S10 ⟨(by decide), (by decide)⟩
  have hat10 : cl10.slots[((1 : Int32)).toNatClampNeg]? = some (.int ((2 : Int32) * x1)) := Hs10.at hin10 rfl
  refine Goes.st (B := T7.setTop (mkF m 50 #[iv x0, iv x1, iv (5 : Int32), rv b1, rv b3, iv (0 : Int32)] [(.int ((2 : Int32) * x1)), (.int x0), (.long (r5 x1)), (.int (0 : Int32)), (.ref b3)])) (X7.iaload hx (j := (1 : Int32)) (v := (.int ((2 : Int32) * x1))) (by rw [e7]; exact Ar10.1) (State.isArrayOf_alike hZ.alike Ar10.2.1) Ar10.2.2 hin10 hat10 (g := (mkF m 49 #[iv x0, iv x1, iv (5 : Int32), rv b1, rv b3, iv (0 : Int32)] [(.int (1 : Int32)), (.ref b1), (.int x0), (.long (r5 x1)), (.int (0 : Int32)), (.ref b3)])) rfl rfl (hb hby d8_49)) ?_
  obtain ⟨_, _, ⟨T11, L11, k11, n11⟩, -, X11, ⟨Lc11, hQ11, l11, y11, z11⟩, st11⟩ := Jvm.LawKit.callS X7 hx (y := ym5) hown (mvT hZ w_27) (mvT hZ w_28) (mvT hZ w_7) (mvT hZ w_29) (by decide) (backOf (W := 4) (rm7 l Z a0 hw [] x0 (c95_50_0 x0 x1) h3 n0 Zn3 (by first | assumption | exact p1 | exact p2)) hZ w_29 w_7 (by decide) (by decide)) (g := (mkF m 50 #[iv x0, iv x1, iv (5 : Int32), rv b1, rv b3, iv (0 : Int32)] [(.int (c95_50_0 x0 x1)), (.int x0), (.long (r5 x1)), (.int (0 : Int32)), (.ref b3)])) rfl (by rw [hml]; rfl) (argsL := [(.int x0), (.int (c95_50_0 x0 x1))]) (rest := [(.long (r5 x1)), (.int (0 : Int32)), (.ref b3)]) (lenOf pd95_2 rfl) rfl (by show 2 * 0 + _ ≤ _; exact Nat.le_of_eq rfl) (hb hby d8_50) (fun _ _ => ⟨rfl, e7, (by decide : 2 + 0 ≤ _), (by decide : 13 + 0 ≤ _)⟩)
  dsimp only [Pt.U, Pt.locs, Pt.cells, Pt.slots] at X11 l11 y11 z11 st11 hQ11
  subst l11 y11 z11
  obtain ⟨rfl, N11q, e11⟩ := hQ11
  have N11 := Fr.app N7 N11q
  refine Goes.st (B := T11.setTop (mkF m 53 #[iv x0, iv x1, iv (5 : Int32), rv b1, rv b3, iv (0 : Int32)] [(.long (r7 x0 (c95_50_0 x0 x1))), (.long (r5 x1)), (.int (0 : Int32)), (.ref b3)])) st11 ?_
  refine Goes.run X11 hx hown hci hcl hby (L := [(53, .goto 4, 3), (57, .ladd, 1)]) (by decide +kernel) rfl (g' := (mkF m 58 #[iv x0, iv x1, iv (5 : Int32), rv b1, rv b3, iv (0 : Int32)] [(.long ((r5 x1) + (r7 x0 (c95_50_0 x0 x1)))), (.int (0 : Int32)), (.ref b3)])) rfl ?_
  obtain ⟨cl12, Ar12, q12, S12, M12, Hs12, G12⟩ := id V_b3
  have hin12 : ¬ ((0 : Int32) < 0 ∨ cl12.slots.size ≤ ((0 : Int32)).toNatClampNeg) := inb_of S12 ⟨(by decide), (by decide)⟩
  obtain ⟨T12, h12, X12, e12, W12, st12⟩ := stJ X11 hx hZ e11 Ar12 (j := (0 : Int32)) hin12 (g := (mkF m 58 #[iv x0, iv x1, iv (5 : Int32), rv b1, rv b3, iv (0 : Int32)] [(.long ((r5 x1) + (r7 x0 (c95_50_0 x0 x1)))), (.int (0 : Int32)), (.ref b3)])) rfl rfl (hb hby d8_58)
  have E_b1 := E_b1.wr W12
  have V_b1 := V_b1.other W12 ne_b1_b3
  have E_b3 := E_b3.wr W12
  have Zn12 : n0 ≤ h12.size := Nat.le_trans Zn3 (Keep.of_wr W12).1
  have K12 := K3.wr W12 (Or.inr sz_b3)
  have N12 := Fr.snoc X12 N11 g_b3
  have V_b3 : Arv Z h12 b3 k3 .long (5 : Int32) [(.long ((r5 x1) + (r7 x0 (c95_50_0 x0 x1)))), (.long (0 : Int64)), (.long (0 : Int64)), (.long (0 : Int64)), (.long (0 : Int64))] (.long (0 : Int64)) := Arv.set Ar12 q12 S12 M12 Hs12 G12 rfl W12 0 rfl (Nat.le_of_ble_eq_true rfl)
  refine Goes.st (B := T12.setTop (mkF m 59 #[iv x0, iv x1, iv (5 : Int32), rv b1, rv b3, iv (0 : Int32)] [])) st12 ?_
  refine Goes.run X12 hx hown hci hcl hby (L := [(59, .iinc 5 1, 3), (62, .goto (-46), 3), (16, .iload 5, 2), (18, .aload_n 3, 1)]) (by decide +kernel) rfl (g' := (mkF m 19 #[iv x0, iv x1, iv (5 : Int32), rv b1, rv b3, iv (1 : Int32)] [(.ref b1), (.int (1 : Int32))])) rfl ?_
  obtain ⟨cl13, Ar13, q13, S13, M13, Hs13, G13⟩ := id V_b1
  refine Goes.st (B := T12.setTop (mkF m 20 #[iv x0, iv x1, iv (5 : Int32), rv b1, rv b3, iv (1 : Int32)] [(.int (5 : Int32)), (.int (1 : Int32))])) (fun t k => ?_) ?_
  · refine X12.arraylength hx (cell := cl13) (by rw [e12]; exact Ar13.1) (State.isArrayOf_alike hZ.alike Ar13.2.1) (g := (mkF m 19 #[iv x0, iv x1, iv (5 : Int32), rv b1, rv b3, iv (1 : Int32)] [(.ref b1), (.int (1 : Int32))])) rfl (rest := [(.int (1 : Int32))]) rfl (hb hby d8_19) _ ?_
    rw [len_of S13 M13]
    exact k
  have hc20_14 : (1 : Int32) < (5 : Int32) := by decide
  refine Goes.st (B := T12.setTop (mkF m 23 #[iv x0, iv x1, iv (5 : Int32), rv b1, rv b3, iv (1 : Int32)] [])) (fun t k => ?_) ?_
  · refine XS.icmpNo X12.here hx rfl (hb hby d8_20) rfl (tlt hc20_14).2.1 ?_
    exact k
  refine Goes.run X12 hx hown hci hcl hby (L := [(23, .aload 4, 2), (25, .iload 5, 2), (27, .aload_n 3, 1), (28, .iload 5, 2)]) (by decide +kernel) rfl (g' := (mkF m 30 #[iv x0, iv x1, iv (5 : Int32), rv b1, rv b3, iv (1 : Int32)] [(.int (1 : Int32)), (.ref b1), (.int (1 : Int32)), (.ref b3)])) rfl ?_
  obtain ⟨cl15, Ar15, q15, S15, M15, Hs15, G15⟩ := id V_b1
  have hin15 : ¬ ((1 : Int32) < 0 ∨ cl15.slots.size ≤ ((1 : Int32)).toNatClampNeg) := inb_of S15 ⟨(by decide), (by decide)⟩
  have hat15 : cl15.slots[((1 : Int32)).toNatClampNeg]? = some (.int ((2 : Int32) * x1)) := Hs15.at hin15 rfl
  refine Goes.st (B := T12.setTop (mkF m 31 #[iv x0, iv x1, iv (5 : Int32), rv b1, rv b3, iv (1 : Int32)] [(.int ((2 : Int32) * x1)), (.int (1 : Int32)), (.ref b3)])) (X12.iaload hx (j := (1 : Int32)) (v := (.int ((2 : Int32) * x1))) (by rw [e12]; exact Ar15.1) (State.isArrayOf_alike hZ.alike Ar15.2.1) Ar15.2.2 hin15 hat15 (g := (mkF m 30 #[iv x0, iv x1, iv (5 : Int32), rv b1, rv b3, iv (1 : Int32)] [(.int (1 : Int32)), (.ref b1), (.int (1 : Int32)), (.ref b3)])) rfl rfl (hb hby d8_30)) ?_
  obtain ⟨_, _, ⟨T16, L16, k16, n16⟩, -, X16, ⟨Lc16, hQ16, l16, y16, z16⟩, st16⟩ := Jvm.LawKit.callS X12 hx (y := ym3) hown (mvT hZ w_19) (mvT hZ w_20) (mvT hZ w_7) (mvT hZ w_21) (by decide) (backOf (W := 2) (rm5 l Z a0 hw [] (c95_50_0 x0 x1) h12 n0 Zn12 ) hZ w_21 w_7 (by decide) (by decide)) (g := (mkF m 31 #[iv x0, iv x1, iv (5 : Int32), rv b1, rv b3, iv (1 : Int32)] [(.int (c95_50_0 x0 x1)), (.int (1 : Int32)), (.ref b3)])) rfl (by rw [hml]; rfl) (argsL := [(.int (c95_50_0 x0 x1))]) (rest := [(.int (1 : Int32)), (.ref b3)]) (lenOf pd95_1 rfl) rfl (by show 2 * 0 + _ ≤ _; exact Nat.le_of_eq rfl) (hb hby d8_31) (fun _ _ => ⟨rfl, e12, (by decide : 2 + 0 ≤ _), (by decide : 13 + 0 ≤ _)⟩)
  dsimp only [Pt.U, Pt.locs, Pt.cells, Pt.slots] at X16 l16 y16 z16 st16 hQ16
  subst l16 y16 z16
  obtain ⟨rfl, N16q, e16⟩ := hQ16
  have N16 := Fr.app N12 N16q
  refine Goes.st (B := T16.setTop (mkF m 34 #[iv x0, iv x1, iv (5 : Int32), rv b1, rv b3, iv (1 : Int32)] [(.long (r5 (c95_50_0 x0 x1))), (.int (1 : Int32)), (.ref b3)])) st16 ?_
  refine Goes.run X16 hx hown hci hcl hby (L := [(34, .iload 5, 2), (36, .iconst 1, 1), (37, .iadd, 1), (38, .aload_n 3, 1)]) (by decide +kernel) rfl (g' := (mkF m 39 #[iv x0, iv x1, iv (5 : Int32), rv b1, rv b3, iv (1 : Int32)] [(.ref b1), (.int (2 : Int32)), (.long (r5 (c95_50_0 x0 x1))), (.int (1 : Int32)), (.ref b3)])) rfl ?_
  obtain ⟨cl17, Ar17, q17, S17, M17, Hs17, G17⟩ := id V_b1
  refine Goes.st (B := T16.setTop (mkF m 40 #[iv x0, iv x1, iv (5 : Int32), rv b1, rv b3, iv (1 : Int32)] [(.int (5 : Int32)), (.int (2 : Int32)), (.long (r5 (c95_50_0 x0 x1))), (.int (1 : Int32)), (.ref b3)])) (fun t k => ?_) ?_
  · refine X16.arraylength hx (cell := cl17) (by rw [e16]; exact Ar17.1) (State.isArrayOf_alike hZ.alike Ar17.2.1) (g := (mkF m 39 #[iv x0, iv x1, iv (5 : Int32), rv b1, rv b3, iv (1 : Int32)] [(.ref b1), (.int (2 : Int32)), (.long (r5 (c95_50_0 x0 x1))), (.int (1 : Int32)), (.ref b3)])) rfl (rest := [(.int (2 : Int32)), (.long (r5 (c95_50_0 x0 x1))), (.int (1 : Int32)), (.ref b3)]) rfl (hb hby d8_39) _ ?_
    rw [len_of S17 M17]
    exact k
  have hc40_18 : (2 : Int32) < (5 : Int32) := by decide
  refine Goes.st (B := T16.setTop (mkF m 43 #[iv x0, iv x1, iv (5 : Int32), rv b1, rv b3, iv (1 : Int32)] [(.long (r5 (c95_50_0 x0 x1))), (.int (1 : Int32)), (.ref b3)])) (fun t k => ?_) ?_
  · refine XS.icmpNo X16.here hx rfl (hb hby d8_40) rfl (tlt hc40_18).2.1 ?_
    exact k
  refine Goes.run X16 hx hown hci hcl hby (L := [(43, .iload_n 0, 1), (44, .aload_n 3, 1), (45, .iload 5, 2), (47, .iconst 1, 1), (48, .iadd, 1)]) (by decide +kernel) rfl (g' := (mkF m 49 #[iv x0, iv x1, iv (5 : Int32), rv b1, rv b3, iv (1 : Int32)] [(.int (2 : Int32)), (.ref b1), (.int x0), (.long (r5 (c95_50_0 x0 x1))), (.int (1 : Int32)), (.ref b3)])) rfl ?_
  obtain ⟨cl19, Ar19, q19, S19, M19, Hs19, G19⟩ := id V_b1
  have hin19 : ¬ ((2 : Int32) < 0 ∨ cl19.slots.size ≤ ((2 : Int32)).toNatClampNeg) := inb_of S19 ⟨(by decide), (by decide)⟩
  have hat19 : cl19.slots[((2 : Int32)).toNatClampNeg]? = some (.int ((2 : Int32) * ((2 : Int32) * x1))) := Hs19.at hin19 rfl
  refine Goes.st (B := T16.setTop (mkF m 50 #[iv x0, iv x1, iv (5 : Int32), rv b1, rv b3, iv (1 : Int32)] [(.int ((2 : Int32) * ((2 : Int32) * x1))), (.int x0), (.long (r5 (c95_50_0 x0 x1))), (.int (1 : Int32)), (.ref b3)])) (X16.iaload hx (j := (2 : Int32)) (v := (.int ((2 : Int32) * ((2 : Int32) * x1)))) (by rw [e16]; exact Ar19.1) (State.isArrayOf_alike hZ.alike Ar19.2.1) Ar19.2.2 hin19 hat19 (g := (mkF m 49 #[iv x0, iv x1, iv (5 : Int32), rv b1, rv b3, iv (1 : Int32)] [(.int (2 : Int32)), (.ref b1), (.int x0), (.long (r5 (c95_50_0 x0 x1))), (.int (1 : Int32)), (.ref b3)])) rfl rfl (hb hby d8_49)) ?_
  obtain ⟨_, _, ⟨T20, L20, k20, n20⟩, -, X20, ⟨Lc20, hQ20, l20, y20, z20⟩, st20⟩ := Jvm.LawKit.callS X16 hx (y := ym5) hown (mvT hZ w_27) (mvT hZ w_28) (mvT hZ w_7) (mvT hZ w_29) (by decide) (backOf (W := 4) (rm7 l Z a0 hw [] x0 (c95_50_0_a x0 x1) h12 n0 Zn12 (by first | assumption | exact p1 | exact p2)) hZ w_29 w_7 (by decide) (by decide)) (g := (mkF m 50 #[iv x0, iv x1, iv (5 : Int32), rv b1, rv b3, iv (1 : Int32)] [(.int (c95_50_0_a x0 x1)), (.int x0), (.long (r5 (c95_50_0 x0 x1))), (.int (1 : Int32)), (.ref b3)])) rfl (by rw [hml]; rfl) (argsL := [(.int x0), (.int (c95_50_0_a x0 x1))]) (rest := [(.long (r5 (c95_50_0 x0 x1))), (.int (1 : Int32)), (.ref b3)]) (lenOf pd95_2 rfl) rfl (by show 2 * 0 + _ ≤ _; exact Nat.le_of_eq rfl) (hb hby d8_50) (fun _ _ => ⟨rfl, e16, (by decide : 2 + 0 ≤ _), (by decide : 13 + 0 ≤ _)⟩)
  dsimp only [Pt.U, Pt.locs, Pt.cells, Pt.slots] at X20 l20 y20 z20 st20 hQ20
  subst l20 y20 z20
  obtain ⟨rfl, N20q, e20⟩ := hQ20
  have N20 := Fr.app N16 N20q
  refine Goes.st (B := T20.setTop (mkF m 53 #[iv x0, iv x1, iv (5 : Int32), rv b1, rv b3, iv (1 : Int32)] [(.long (r7 x0 (c95_50_0_a x0 x1))), (.long (r5 (c95_50_0 x0 x1))), (.int (1 : Int32)), (.ref b3)])) st20 ?_
  refine Goes.run X20 hx hown hci hcl hby (L := [(53, .goto 4, 3), (57, .ladd, 1)]) (by decide +kernel) rfl (g' := (mkF m 58 #[iv x0, iv x1, iv (5 : Int32), rv b1, rv b3, iv (1 : Int32)] [(.long ((r5 (c95_50_0 x0 x1)) + (r7 x0 (c95_50_0_a x0 x1)))), (.int (1 : Int32)), (.ref b3)])) rfl ?_
  obtain ⟨cl21, Ar21, q21, S21, M21, Hs21, G21⟩ := id V_b3
  have hin21 : ¬ ((1 : Int32) < 0 ∨ cl21.slots.size ≤ ((1 : Int32)).toNatClampNeg) := inb_of S21 ⟨(by decide), (by decide)⟩
  obtain ⟨T21, h21, X21, e21, W21, st21⟩ := stJ X20 hx hZ e20 Ar21 (j := (1 : Int32)) hin21 (g := (mkF m 58 #[iv x0, iv x1, iv (5 : Int32), rv b1, rv b3, iv (1 : Int32)] [(.long ((r5 (c95_50_0 x0 x1)) + (r7 x0 (c95_50_0_a x0 x1)))), (.int (1 : Int32)), (.ref b3)])) rfl rfl (hb hby d8_58)
  have E_b1 := E_b1.wr W21
  have V_b1 := V_b1.other W21 ne_b1_b3
  have E_b3 := E_b3.wr W21
  have Zn21 : n0 ≤ h21.size := Nat.le_trans Zn12 (Keep.of_wr W21).1
  have K21 := K12.wr W21 (Or.inr sz_b3)
  have N21 := Fr.snoc X21 N20 g_b3
  have V_b3 : Arv Z h21 b3 k3 .long (5 : Int32) [(.long ((r5 x1) + (r7 x0 (c95_50_0 x0 x1)))), (.long ((r5 (c95_50_0 x0 x1)) + (r7 x0 (c95_50_0_a x0 x1)))), (.long (0 : Int64)), (.long (0 : Int64)), (.long (0 : Int64))] (.long (0 : Int64)) := Arv.set Ar21 q21 S21 M21 Hs21 G21 rfl W21 1 rfl (Nat.le_of_ble_eq_true rfl)
  refine Goes.st (B := T21.setTop (mkF m 59 #[iv x0, iv x1, iv (5 : Int32), rv b1, rv b3, iv (1 : Int32)] [])) st21 ?_
  refine Goes.run X21 hx hown hci hcl hby (L := [(59, .iinc 5 1, 3), (62, .goto (-46), 3), (16, .iload 5, 2), (18, .aload_n 3, 1)]) (by decide +kernel) rfl (g' := (mkF m 19 #[iv x0, iv x1, iv (5 : Int32), rv b1, rv b3, iv (2 : Int32)] [(.ref b1), (.int (2 : Int32))])) rfl ?_
  obtain ⟨cl22, Ar22, q22, S22, M22, Hs22, G22⟩ := id V_b1
  refine Goes.st (B := T21.setTop (mkF m 20 #[iv x0, iv x1, iv (5 : Int32), rv b1, rv b3, iv (2 : Int32)] [(.int (5 : Int32)), (.int (2 : Int32))])) (fun t k => ?_) ?_
  · refine X21.arraylength hx (cell := cl22) (by rw [e21]; exact Ar22.1) (State.isArrayOf_alike hZ.alike Ar22.2.1) (g := (mkF m 19 #[iv x0, iv x1, iv (5 : Int32), rv b1, rv b3, iv (2 : Int32)] [(.ref b1), (.int (2 : Int32))])) rfl (rest := [(.int (2 : Int32))]) rfl (hb hby d8_19) _ ?_
    rw [len_of S22 M22]
    exact k
  have hc20_23 : (2 : Int32) < (5 : Int32) := by decide
  refine Goes.st (B := T21.setTop (mkF m 23 #[iv x0, iv x1, iv (5 : Int32), rv b1, rv b3, iv (2 : Int32)] [])) (fun t k => ?_) ?_
  · refine XS.icmpNo X21.here hx rfl (hb hby d8_20) rfl (tlt hc20_23).2.1 ?_
    exact k
  refine Goes.run X21 hx hown hci hcl hby (L := [(23, .aload 4, 2), (25, .iload 5, 2), (27, .aload_n 3, 1), (28, .iload 5, 2)]) (by decide +kernel) rfl (g' := (mkF m 30 #[iv x0, iv x1, iv (5 : Int32), rv b1, rv b3, iv (2 : Int32)] [(.int (2 : Int32)), (.ref b1), (.int (2 : Int32)), (.ref b3)])) rfl ?_
  obtain ⟨cl24, Ar24, q24, S24, M24, Hs24, G24⟩ := id V_b1
  have hin24 : ¬ ((2 : Int32) < 0 ∨ cl24.slots.size ≤ ((2 : Int32)).toNatClampNeg) := inb_of S24 ⟨(by decide), (by decide)⟩
  have hat24 : cl24.slots[((2 : Int32)).toNatClampNeg]? = some (.int ((2 : Int32) * ((2 : Int32) * x1))) := Hs24.at hin24 rfl
  refine Goes.st (B := T21.setTop (mkF m 31 #[iv x0, iv x1, iv (5 : Int32), rv b1, rv b3, iv (2 : Int32)] [(.int ((2 : Int32) * ((2 : Int32) * x1))), (.int (2 : Int32)), (.ref b3)])) (X21.iaload hx (j := (2 : Int32)) (v := (.int ((2 : Int32) * ((2 : Int32) * x1)))) (by rw [e21]; exact Ar24.1) (State.isArrayOf_alike hZ.alike Ar24.2.1) Ar24.2.2 hin24 hat24 (g := (mkF m 30 #[iv x0, iv x1, iv (5 : Int32), rv b1, rv b3, iv (2 : Int32)] [(.int (2 : Int32)), (.ref b1), (.int (2 : Int32)), (.ref b3)])) rfl rfl (hb hby d8_30)) ?_
  obtain ⟨_, _, ⟨T25, L25, k25, n25⟩, -, X25, ⟨Lc25, hQ25, l25, y25, z25⟩, st25⟩ := Jvm.LawKit.callS X21 hx (y := ym3) hown (mvT hZ w_19) (mvT hZ w_20) (mvT hZ w_7) (mvT hZ w_21) (by decide) (backOf (W := 2) (rm5 l Z a0 hw [] (c95_50_0_a x0 x1) h21 n0 Zn21 ) hZ w_21 w_7 (by decide) (by decide)) (g := (mkF m 31 #[iv x0, iv x1, iv (5 : Int32), rv b1, rv b3, iv (2 : Int32)] [(.int (c95_50_0_a x0 x1)), (.int (2 : Int32)), (.ref b3)])) rfl (by rw [hml]; rfl) (argsL := [(.int (c95_50_0_a x0 x1))]) (rest := [(.int (2 : Int32)), (.ref b3)]) (lenOf pd95_1 rfl) rfl (by show 2 * 0 + _ ≤ _; exact Nat.le_of_eq rfl) (hb hby d8_31) (fun _ _ => ⟨rfl, e21, (by decide : 2 + 0 ≤ _), (by decide : 13 + 0 ≤ _)⟩)
  dsimp only [Pt.U, Pt.locs, Pt.cells, Pt.slots] at X25 l25 y25 z25 st25 hQ25
  subst l25 y25 z25
  obtain ⟨rfl, N25q, e25⟩ := hQ25
  have N25 := Fr.app N21 N25q
  refine Goes.st (B := T25.setTop (mkF m 34 #[iv x0, iv x1, iv (5 : Int32), rv b1, rv b3, iv (2 : Int32)] [(.long (r5 (c95_50_0_a x0 x1))), (.int (2 : Int32)), (.ref b3)])) st25 ?_
  refine Goes.run X25 hx hown hci hcl hby (L := [(34, .iload 5, 2), (36, .iconst 1, 1), (37, .iadd, 1), (38, .aload_n 3, 1)]) (by decide +kernel) rfl (g' := (mkF m 39 #[iv x0, iv x1, iv (5 : Int32), rv b1, rv b3, iv (2 : Int32)] [(.ref b1), (.int (3 : Int32)), (.long (r5 (c95_50_0_a x0 x1))), (.int (2 : Int32)), (.ref b3)])) rfl ?_
  obtain ⟨cl26, Ar26, q26, S26, M26, Hs26, G26⟩ := id V_b1
  refine Goes.st (B := T25.setTop (mkF m 40 #[iv x0, iv x1, iv (5 : Int32), rv b1, rv b3, iv (2 : Int32)] [(.int (5 : Int32)), (.int (3 : Int32)), (.long (r5 (c95_50_0_a x0 x1))), (.int (2 : Int32)), (.ref b3)])) (fun t k => ?_) ?_
  · refine X25.arraylength hx (cell := cl26) (by rw [e25]; exact Ar26.1) (State.isArrayOf_alike hZ.alike Ar26.2.1) (g := (mkF m 39 #[iv x0, iv x1, iv (5 : Int32), rv b1, rv b3, iv (2 : Int32)] [(.ref b1), (.int (3 : Int32)), (.long (r5 (c95_50_0_a x0 x1))), (.int (2 : Int32)), (.ref b3)])) rfl (rest := [(.int (3 : Int32)), (.long (r5 (c95_50_0_a x0 x1))), (.int (2 : Int32)), (.ref b3)]) rfl (hb hby d8_39) _ ?_
    rw [len_of S26 M26]
    exact k
  have hc40_27 : (3 : Int32) < (5 : Int32) := by decide
  refine Goes.st (B := T25.setTop (mkF m 43 #[iv x0, iv x1, iv (5 : Int32), rv b1, rv b3, iv (2 : Int32)] [(.long (r5 (c95_50_0_a x0 x1))), (.int (2 : Int32)), (.ref b3)])) (fun t k => ?_) ?_
  · refine XS.icmpNo X25.here hx rfl (hb hby d8_40) rfl (tlt hc40_27).2.1 ?_
    exact k
  refine Goes.run X25 hx hown hci hcl hby (L := [(43, .iload_n 0, 1), (44, .aload_n 3, 1), (45, .iload 5, 2), (47, .iconst 1, 1), (48, .iadd, 1)]) (by decide +kernel) rfl (g' := (mkF m 49 #[iv x0, iv x1, iv (5 : Int32), rv b1, rv b3, iv (2 : Int32)] [(.int (3 : Int32)), (.ref b1), (.int x0), (.long (r5 (c95_50_0_a x0 x1))), (.int (2 : Int32)), (.ref b3)])) rfl ?_
  obtain ⟨cl28, Ar28, q28, S28, M28, Hs28, G28⟩ := id V_b1
  have hin28 : ¬ ((3 : Int32) < 0 ∨ cl28.slots.size ≤ ((3 : Int32)).toNatClampNeg) := inb_of S28 ⟨(by decide), (by decide)⟩
  have hat28 : cl28.slots[((3 : Int32)).toNatClampNeg]? = some (.int ((2 : Int32) * ((2 : Int32) * ((2 : Int32) * x1)))) := Hs28.at hin28 rfl
  refine Goes.st (B := T25.setTop (mkF m 50 #[iv x0, iv x1, iv (5 : Int32), rv b1, rv b3, iv (2 : Int32)] [(.int ((2 : Int32) * ((2 : Int32) * ((2 : Int32) * x1)))), (.int x0), (.long (r5 (c95_50_0_a x0 x1))), (.int (2 : Int32)), (.ref b3)])) (X25.iaload hx (j := (3 : Int32)) (v := (.int ((2 : Int32) * ((2 : Int32) * ((2 : Int32) * x1))))) (by rw [e25]; exact Ar28.1) (State.isArrayOf_alike hZ.alike Ar28.2.1) Ar28.2.2 hin28 hat28 (g := (mkF m 49 #[iv x0, iv x1, iv (5 : Int32), rv b1, rv b3, iv (2 : Int32)] [(.int (3 : Int32)), (.ref b1), (.int x0), (.long (r5 (c95_50_0_a x0 x1))), (.int (2 : Int32)), (.ref b3)])) rfl rfl (hb hby d8_49)) ?_
  obtain ⟨_, _, ⟨T29, L29, k29, n29⟩, -, X29, ⟨Lc29, hQ29, l29, y29, z29⟩, st29⟩ := Jvm.LawKit.callS X25 hx (y := ym5) hown (mvT hZ w_27) (mvT hZ w_28) (mvT hZ w_7) (mvT hZ w_29) (by decide) (backOf (W := 4) (rm7 l Z a0 hw [] x0 (c95_50_0_b x0 x1) h21 n0 Zn21 (by first | assumption | exact p1 | exact p2)) hZ w_29 w_7 (by decide) (by decide)) (g := (mkF m 50 #[iv x0, iv x1, iv (5 : Int32), rv b1, rv b3, iv (2 : Int32)] [(.int (c95_50_0_b x0 x1)), (.int x0), (.long (r5 (c95_50_0_a x0 x1))), (.int (2 : Int32)), (.ref b3)])) rfl (by rw [hml]; rfl) (argsL := [(.int x0), (.int (c95_50_0_b x0 x1))]) (rest := [(.long (r5 (c95_50_0_a x0 x1))), (.int (2 : Int32)), (.ref b3)]) (lenOf pd95_2 rfl) rfl (by show 2 * 0 + _ ≤ _; exact Nat.le_of_eq rfl) (hb hby d8_50) (fun _ _ => ⟨rfl, e25, (by decide : 2 + 0 ≤ _), (by decide : 13 + 0 ≤ _)⟩)
  dsimp only [Pt.U, Pt.locs, Pt.cells, Pt.slots] at X29 l29 y29 z29 st29 hQ29
  subst l29 y29 z29
  obtain ⟨rfl, N29q, e29⟩ := hQ29
  have N29 := Fr.app N25 N29q
  refine Goes.st (B := T29.setTop (mkF m 53 #[iv x0, iv x1, iv (5 : Int32), rv b1, rv b3, iv (2 : Int32)] [(.long (r7 x0 (c95_50_0_b x0 x1))), (.long (r5 (c95_50_0_a x0 x1))), (.int (2 : Int32)), (.ref b3)])) st29 ?_
  refine Goes.run X29 hx hown hci hcl hby (L := [(53, .goto 4, 3), (57, .ladd, 1)]) (by decide +kernel) rfl (g' := (mkF m 58 #[iv x0, iv x1, iv (5 : Int32), rv b1, rv b3, iv (2 : Int32)] [(.long ((r5 (c95_50_0_a x0 x1)) + (r7 x0 (c95_50_0_b x0 x1)))), (.int (2 : Int32)), (.ref b3)])) rfl ?_
  obtain ⟨cl30, Ar30, q30, S30, M30, Hs30, G30⟩ := id V_b3
  have hin30 : ¬ ((2 : Int32) < 0 ∨ cl30.slots.size ≤ ((2 : Int32)).toNatClampNeg) := inb_of S30 ⟨(by decide), (by decide)⟩
  obtain ⟨T30, h30, X30, e30, W30, st30⟩ := stJ X29 hx hZ e29 Ar30 (j := (2 : Int32)) hin30 (g := (mkF m 58 #[iv x0, iv x1, iv (5 : Int32), rv b1, rv b3, iv (2 : Int32)] [(.long ((r5 (c95_50_0_a x0 x1)) + (r7 x0 (c95_50_0_b x0 x1)))), (.int (2 : Int32)), (.ref b3)])) rfl rfl (hb hby d8_58)
  have E_b1 := E_b1.wr W30
  have V_b1 := V_b1.other W30 ne_b1_b3
  have E_b3 := E_b3.wr W30
  have Zn30 : n0 ≤ h30.size := Nat.le_trans Zn21 (Keep.of_wr W30).1
  have K30 := K21.wr W30 (Or.inr sz_b3)
  have N30 := Fr.snoc X30 N29 g_b3
  have V_b3 : Arv Z h30 b3 k3 .long (5 : Int32) [(.long ((r5 x1) + (r7 x0 (c95_50_0 x0 x1)))), (.long ((r5 (c95_50_0 x0 x1)) + (r7 x0 (c95_50_0_a x0 x1)))), (.long ((r5 (c95_50_0_a x0 x1)) + (r7 x0 (c95_50_0_b x0 x1)))), (.long (0 : Int64)), (.long (0 : Int64))] (.long (0 : Int64)) := Arv.set Ar30 q30 S30 M30 Hs30 G30 rfl W30 2 rfl (Nat.le_of_ble_eq_true rfl)
  refine Goes.st (B := T30.setTop (mkF m 59 #[iv x0, iv x1, iv (5 : Int32), rv b1, rv b3, iv (2 : Int32)] [])) st30 ?_
  refine Goes.run X30 hx hown hci hcl hby (L := [(59, .iinc 5 1, 3), (62, .goto (-46), 3), (16, .iload 5, 2), (18, .aload_n 3, 1)]) (by decide +kernel) rfl (g' := (mkF m 19 #[iv x0, iv x1, iv (5 : Int32), rv b1, rv b3, iv (3 : Int32)] [(.ref b1), (.int (3 : Int32))])) rfl ?_
  obtain ⟨cl31, Ar31, q31, S31, M31, Hs31, G31⟩ := id V_b1
  refine Goes.st (B := T30.setTop (mkF m 20 #[iv x0, iv x1, iv (5 : Int32), rv b1, rv b3, iv (3 : Int32)] [(.int (5 : Int32)), (.int (3 : Int32))])) (fun t k => ?_) ?_
  · refine X30.arraylength hx (cell := cl31) (by rw [e30]; exact Ar31.1) (State.isArrayOf_alike hZ.alike Ar31.2.1) (g := (mkF m 19 #[iv x0, iv x1, iv (5 : Int32), rv b1, rv b3, iv (3 : Int32)] [(.ref b1), (.int (3 : Int32))])) rfl (rest := [(.int (3 : Int32))]) rfl (hb hby d8_19) _ ?_
    rw [len_of S31 M31]
    exact k
  have hc20_32 : (3 : Int32) < (5 : Int32) := by decide
  refine Goes.st (B := T30.setTop (mkF m 23 #[iv x0, iv x1, iv (5 : Int32), rv b1, rv b3, iv (3 : Int32)] [])) (fun t k => ?_) ?_
  · refine XS.icmpNo X30.here hx rfl (hb hby d8_20) rfl (tlt hc20_32).2.1 ?_
    exact k
  refine Goes.run X30 hx hown hci hcl hby (L := [(23, .aload 4, 2), (25, .iload 5, 2), (27, .aload_n 3, 1), (28, .iload 5, 2)]) (by decide +kernel) rfl (g' := (mkF m 30 #[iv x0, iv x1, iv (5 : Int32), rv b1, rv b3, iv (3 : Int32)] [(.int (3 : Int32)), (.ref b1), (.int (3 : Int32)), (.ref b3)])) rfl ?_
  obtain ⟨cl33, Ar33, q33, S33, M33, Hs33, G33⟩ := id V_b1
  have hin33 : ¬ ((3 : Int32) < 0 ∨ cl33.slots.size ≤ ((3 : Int32)).toNatClampNeg) := inb_of S33 ⟨(by decide), (by decide)⟩
  have hat33 : cl33.slots[((3 : Int32)).toNatClampNeg]? = some (.int ((2 : Int32) * ((2 : Int32) * ((2 : Int32) * x1)))) := Hs33.at hin33 rfl
  refine Goes.st (B := T30.setTop (mkF m 31 #[iv x0, iv x1, iv (5 : Int32), rv b1, rv b3, iv (3 : Int32)] [(.int ((2 : Int32) * ((2 : Int32) * ((2 : Int32) * x1)))), (.int (3 : Int32)), (.ref b3)])) (X30.iaload hx (j := (3 : Int32)) (v := (.int ((2 : Int32) * ((2 : Int32) * ((2 : Int32) * x1))))) (by rw [e30]; exact Ar33.1) (State.isArrayOf_alike hZ.alike Ar33.2.1) Ar33.2.2 hin33 hat33 (g := (mkF m 30 #[iv x0, iv x1, iv (5 : Int32), rv b1, rv b3, iv (3 : Int32)] [(.int (3 : Int32)), (.ref b1), (.int (3 : Int32)), (.ref b3)])) rfl rfl (hb hby d8_30)) ?_
  obtain ⟨_, _, ⟨T34, L34, k34, n34⟩, -, X34, ⟨Lc34, hQ34, l34, y34, z34⟩, st34⟩ := Jvm.LawKit.callS X30 hx (y := ym3) hown (mvT hZ w_19) (mvT hZ w_20) (mvT hZ w_7) (mvT hZ w_21) (by decide) (backOf (W := 2) (rm5 l Z a0 hw [] (c95_50_0_b x0 x1) h30 n0 Zn30 ) hZ w_21 w_7 (by decide) (by decide)) (g := (mkF m 31 #[iv x0, iv x1, iv (5 : Int32), rv b1, rv b3, iv (3 : Int32)] [(.int (c95_50_0_b x0 x1)), (.int (3 : Int32)), (.ref b3)])) rfl (by rw [hml]; rfl) (argsL := [(.int (c95_50_0_b x0 x1))]) (rest := [(.int (3 : Int32)), (.ref b3)]) (lenOf pd95_1 rfl) rfl (by show 2 * 0 + _ ≤ _; exact Nat.le_of_eq rfl) (hb hby d8_31) (fun _ _ => ⟨rfl, e30, (by decide : 2 + 0 ≤ _), (by decide : 13 + 0 ≤ _)⟩)
  dsimp only [Pt.U, Pt.locs, Pt.cells, Pt.slots] at X34 l34 y34 z34 st34 hQ34
  subst l34 y34 z34
  obtain ⟨rfl, N34q, e34⟩ := hQ34
  have N34 := Fr.app N30 N34q
  refine Goes.st (B := T34.setTop (mkF m 34 #[iv x0, iv x1, iv (5 : Int32), rv b1, rv b3, iv (3 : Int32)] [(.long (r5 (c95_50_0_b x0 x1))), (.int (3 : Int32)), (.ref b3)])) st34 ?_
  refine Goes.run X34 hx hown hci hcl hby (L := [(34, .iload 5, 2), (36, .iconst 1, 1), (37, .iadd, 1), (38, .aload_n 3, 1)]) (by decide +kernel) rfl (g' := (mkF m 39 #[iv x0, iv x1, iv (5 : Int32), rv b1, rv b3, iv (3 : Int32)] [(.ref b1), (.int (4 : Int32)), (.long (r5 (c95_50_0_b x0 x1))), (.int (3 : Int32)), (.ref b3)])) rfl ?_
  obtain ⟨cl35, Ar35, q35, S35, M35, Hs35, G35⟩ := id V_b1
  refine Goes.st (B := T34.setTop (mkF m 40 #[iv x0, iv x1, iv (5 : Int32), rv b1, rv b3, iv (3 : Int32)] [(.int (5 : Int32)), (.int (4 : Int32)), (.long (r5 (c95_50_0_b x0 x1))), (.int (3 : Int32)), (.ref b3)])) (fun t k => ?_) ?_
  · refine X34.arraylength hx (cell := cl35) (by rw [e34]; exact Ar35.1) (State.isArrayOf_alike hZ.alike Ar35.2.1) (g := (mkF m 39 #[iv x0, iv x1, iv (5 : Int32), rv b1, rv b3, iv (3 : Int32)] [(.ref b1), (.int (4 : Int32)), (.long (r5 (c95_50_0_b x0 x1))), (.int (3 : Int32)), (.ref b3)])) rfl (rest := [(.int (4 : Int32)), (.long (r5 (c95_50_0_b x0 x1))), (.int (3 : Int32)), (.ref b3)]) rfl (hb hby d8_39) _ ?_
    rw [len_of S35 M35]
    exact k
  have hc40_36 : (4 : Int32) < (5 : Int32) := by decide
  refine Goes.st (B := T34.setTop (mkF m 43 #[iv x0, iv x1, iv (5 : Int32), rv b1, rv b3, iv (3 : Int32)] [(.long (r5 (c95_50_0_b x0 x1))), (.int (3 : Int32)), (.ref b3)])) (fun t k => ?_) ?_
  · refine XS.icmpNo X34.here hx rfl (hb hby d8_40) rfl (tlt hc40_36).2.1 ?_
    exact k
  refine Goes.run X34 hx hown hci hcl hby (L := [(43, .iload_n 0, 1), (44, .aload_n 3, 1), (45, .iload 5, 2), (47, .iconst 1, 1), (48, .iadd, 1)]) (by decide +kernel) rfl (g' := (mkF m 49 #[iv x0, iv x1, iv (5 : Int32), rv b1, rv b3, iv (3 : Int32)] [(.int (4 : Int32)), (.ref b1), (.int x0), (.long (r5 (c95_50_0_b x0 x1))), (.int (3 : Int32)), (.ref b3)])) rfl ?_
  obtain ⟨cl37, Ar37, q37, S37, M37, Hs37, G37⟩ := id V_b1
  have hin37 : ¬ ((4 : Int32) < 0 ∨ cl37.slots.size ≤ ((4 : Int32)).toNatClampNeg) := inb_of S37 ⟨(by decide), (by decide)⟩
  have hat37 : cl37.slots[((4 : Int32)).toNatClampNeg]? = some (.int x0) := Hs37.at hin37 rfl
  refine Goes.st (B := T34.setTop (mkF m 50 #[iv x0, iv x1, iv (5 : Int32), rv b1, rv b3, iv (3 : Int32)] [(.int x0), (.int x0), (.long (r5 (c95_50_0_b x0 x1))), (.int (3 : Int32)), (.ref b3)])) (X34.iaload hx (j := (4 : Int32)) (v := (.int x0)) (by rw [e34]; exact Ar37.1) (State.isArrayOf_alike hZ.alike Ar37.2.1) Ar37.2.2 hin37 hat37 (g := (mkF m 49 #[iv x0, iv x1, iv (5 : Int32), rv b1, rv b3, iv (3 : Int32)] [(.int (4 : Int32)), (.ref b1), (.int x0), (.long (r5 (c95_50_0_b x0 x1))), (.int (3 : Int32)), (.ref b3)])) rfl rfl (hb hby d8_49)) ?_
  obtain ⟨_, _, ⟨T38, L38, k38, n38⟩, -, X38, ⟨Lc38, hQ38, l38, y38, z38⟩, st38⟩ := Jvm.LawKit.callS X34 hx (y := ym5) hown (mvT hZ w_27) (mvT hZ w_28) (mvT hZ w_7) (mvT hZ w_29) (by decide) (backOf (W := 4) (rm7 l Z a0 hw [] x0 x0 h30 n0 Zn30 (by first | assumption | exact p1 | exact p2)) hZ w_29 w_7 (by decide) (by decide)) (g := (mkF m 50 #[iv x0, iv x1, iv (5 : Int32), rv b1, rv b3, iv (3 : Int32)] [(.int x0), (.int x0), (.long (r5 (c95_50_0_b x0 x1))), (.int (3 : Int32)), (.ref b3)])) rfl (by rw [hml]; rfl) (argsL := [(.int x0), (.int x0)]) (rest := [(.long (r5 (c95_50_0_b x0 x1))), (.int (3 : Int32)), (.ref b3)]) (lenOf pd95_2 rfl) rfl (by show 2 * 0 + _ ≤ _; exact Nat.le_of_eq rfl) (hb hby d8_50) (fun _ _ => ⟨rfl, e34, (by decide : 2 + 0 ≤ _), (by decide : 13 + 0 ≤ _)⟩)
  dsimp only [Pt.U, Pt.locs, Pt.cells, Pt.slots] at X38 l38 y38 z38 st38 hQ38
  subst l38 y38 z38
  obtain ⟨rfl, N38q, e38⟩ := hQ38
  have N38 := Fr.app N34 N38q
  refine Goes.st (B := T38.setTop (mkF m 53 #[iv x0, iv x1, iv (5 : Int32), rv b1, rv b3, iv (3 : Int32)] [(.long (r7 x0 x0)), (.long (r5 (c95_50_0_b x0 x1))), (.int (3 : Int32)), (.ref b3)])) st38 ?_
  refine Goes.run X38 hx hown hci hcl hby (L := [(53, .goto 4, 3), (57, .ladd, 1)]) (by decide +kernel) rfl (g' := (mkF m 58 #[iv x0, iv x1, iv (5 : Int32), rv b1, rv b3, iv (3 : Int32)] [(.long ((r5 (c95_50_0_b x0 x1)) + (r7 x0 x0))), (.int (3 : Int32)), (.ref b3)])) rfl ?_
  obtain ⟨cl39, Ar39, q39, S39, M39, Hs39, G39⟩ := id V_b3
  have hin39 : ¬ ((3 : Int32) < 0 ∨ cl39.slots.size ≤ ((3 : Int32)).toNatClampNeg) := inb_of S39 ⟨(by decide), (by decide)⟩
  obtain ⟨T39, h39, X39, e39, W39, st39⟩ := stJ X38 hx hZ e38 Ar39 (j := (3 : Int32)) hin39 (g := (mkF m 58 #[iv x0, iv x1, iv (5 : Int32), rv b1, rv b3, iv (3 : Int32)] [(.long ((r5 (c95_50_0_b x0 x1)) + (r7 x0 x0))), (.int (3 : Int32)), (.ref b3)])) rfl rfl (hb hby d8_58)
  have E_b1 := E_b1.wr W39
  have V_b1 := V_b1.other W39 ne_b1_b3
  have E_b3 := E_b3.wr W39
  have Zn39 : n0 ≤ h39.size := Nat.le_trans Zn30 (Keep.of_wr W39).1
  have K39 := K30.wr W39 (Or.inr sz_b3)
  have N39 := Fr.snoc X39 N38 g_b3
  have V_b3 : Arv Z h39 b3 k3 .long (5 : Int32) [(.long ((r5 x1) + (r7 x0 (c95_50_0 x0 x1)))), (.long ((r5 (c95_50_0 x0 x1)) + (r7 x0 (c95_50_0_a x0 x1)))), (.long ((r5 (c95_50_0_a x0 x1)) + (r7 x0 (c95_50_0_b x0 x1)))), (.long ((r5 (c95_50_0_b x0 x1)) + (r7 x0 x0))), (.long (0 : Int64))] (.long (0 : Int64)) := Arv.set Ar39 q39 S39 M39 Hs39 G39 rfl W39 3 rfl (Nat.le_of_ble_eq_true rfl)
  refine Goes.st (B := T39.setTop (mkF m 59 #[iv x0, iv x1, iv (5 : Int32), rv b1, rv b3, iv (3 : Int32)] [])) st39 ?_
  refine Goes.run X39 hx hown hci hcl hby (L := [(59, .iinc 5 1, 3), (62, .goto (-46), 3), (16, .iload 5, 2), (18, .aload_n 3, 1)]) (by decide +kernel) rfl (g' := (mkF m 19 #[iv x0, iv x1, iv (5 : Int32), rv b1, rv b3, iv (4 : Int32)] [(.ref b1), (.int (4 : Int32))])) rfl ?_
  obtain ⟨cl40, Ar40, q40, S40, M40, Hs40, G40⟩ := id V_b1
  refine Goes.st (B := T39.setTop (mkF m 20 #[iv x0, iv x1, iv (5 : Int32), rv b1, rv b3, iv (4 : Int32)] [(.int (5 : Int32)), (.int (4 : Int32))])) (fun t k => ?_) ?_
  · refine X39.arraylength hx (cell := cl40) (by rw [e39]; exact Ar40.1) (State.isArrayOf_alike hZ.alike Ar40.2.1) (g := (mkF m 19 #[iv x0, iv x1, iv (5 : Int32), rv b1, rv b3, iv (4 : Int32)] [(.ref b1), (.int (4 : Int32))])) rfl (rest := [(.int (4 : Int32))]) rfl (hb hby d8_19) _ ?_
    rw [len_of S40 M40]
    exact k
  have hc20_41 : (4 : Int32) < (5 : Int32) := by decide
  refine Goes.st (B := T39.setTop (mkF m 23 #[iv x0, iv x1, iv (5 : Int32), rv b1, rv b3, iv (4 : Int32)] [])) (fun t k => ?_) ?_
  · refine XS.icmpNo X39.here hx rfl (hb hby d8_20) rfl (tlt hc20_41).2.1 ?_
    exact k
  refine Goes.run X39 hx hown hci hcl hby (L := [(23, .aload 4, 2), (25, .iload 5, 2), (27, .aload_n 3, 1), (28, .iload 5, 2)]) (by decide +kernel) rfl (g' := (mkF m 30 #[iv x0, iv x1, iv (5 : Int32), rv b1, rv b3, iv (4 : Int32)] [(.int (4 : Int32)), (.ref b1), (.int (4 : Int32)), (.ref b3)])) rfl ?_
  obtain ⟨cl42, Ar42, q42, S42, M42, Hs42, G42⟩ := id V_b1
  have hin42 : ¬ ((4 : Int32) < 0 ∨ cl42.slots.size ≤ ((4 : Int32)).toNatClampNeg) := inb_of S42 ⟨(by decide), (by decide)⟩
  have hat42 : cl42.slots[((4 : Int32)).toNatClampNeg]? = some (.int x0) := Hs42.at hin42 rfl
  refine Goes.st (B := T39.setTop (mkF m 31 #[iv x0, iv x1, iv (5 : Int32), rv b1, rv b3, iv (4 : Int32)] [(.int x0), (.int (4 : Int32)), (.ref b3)])) (X39.iaload hx (j := (4 : Int32)) (v := (.int x0)) (by rw [e39]; exact Ar42.1) (State.isArrayOf_alike hZ.alike Ar42.2.1) Ar42.2.2 hin42 hat42 (g := (mkF m 30 #[iv x0, iv x1, iv (5 : Int32), rv b1, rv b3, iv (4 : Int32)] [(.int (4 : Int32)), (.ref b1), (.int (4 : Int32)), (.ref b3)])) rfl rfl (hb hby d8_30)) ?_
  obtain ⟨_, _, ⟨T43, L43, k43, n43⟩, -, X43, ⟨Lc43, hQ43, l43, y43, z43⟩, st43⟩ := Jvm.LawKit.callS X39 hx (y := ym3) hown (mvT hZ w_19) (mvT hZ w_20) (mvT hZ w_7) (mvT hZ w_21) (by decide) (backOf (W := 2) (rm5 l Z a0 hw [] x0 h39 n0 Zn39 ) hZ w_21 w_7 (by decide) (by decide)) (g := (mkF m 31 #[iv x0, iv x1, iv (5 : Int32), rv b1, rv b3, iv (4 : Int32)] [(.int x0), (.int (4 : Int32)), (.ref b3)])) rfl (by rw [hml]; rfl) (argsL := [(.int x0)]) (rest := [(.int (4 : Int32)), (.ref b3)]) (lenOf pd95_1 rfl) rfl (by show 2 * 0 + _ ≤ _; exact Nat.le_of_eq rfl) (hb hby d8_31) (fun _ _ => ⟨rfl, e39, (by decide : 2 + 0 ≤ _), (by decide : 13 + 0 ≤ _)⟩)
  dsimp only [Pt.U, Pt.locs, Pt.cells, Pt.slots] at X43 l43 y43 z43 st43 hQ43
  subst l43 y43 z43
  obtain ⟨rfl, N43q, e43⟩ := hQ43
  have N43 := Fr.app N39 N43q
  refine Goes.st (B := T43.setTop (mkF m 34 #[iv x0, iv x1, iv (5 : Int32), rv b1, rv b3, iv (4 : Int32)] [(.long (r5 x0)), (.int (4 : Int32)), (.ref b3)])) st43 ?_
  refine Goes.run X43 hx hown hci hcl hby (L := [(34, .iload 5, 2), (36, .iconst 1, 1), (37, .iadd, 1), (38, .aload_n 3, 1)]) (by decide +kernel) rfl (g' := (mkF m 39 #[iv x0, iv x1, iv (5 : Int32), rv b1, rv b3, iv (4 : Int32)] [(.ref b1), (.int (5 : Int32)), (.long (r5 x0)), (.int (4 : Int32)), (.ref b3)])) rfl ?_
  obtain ⟨cl44, Ar44, q44, S44, M44, Hs44, G44⟩ := id V_b1
  refine Goes.st (B := T43.setTop (mkF m 40 #[iv x0, iv x1, iv (5 : Int32), rv b1, rv b3, iv (4 : Int32)] [(.int (5 : Int32)), (.int (5 : Int32)), (.long (r5 x0)), (.int (4 : Int32)), (.ref b3)])) (fun t k => ?_) ?_
  · refine X43.arraylength hx (cell := cl44) (by rw [e43]; exact Ar44.1) (State.isArrayOf_alike hZ.alike Ar44.2.1) (g := (mkF m 39 #[iv x0, iv x1, iv (5 : Int32), rv b1, rv b3, iv (4 : Int32)] [(.ref b1), (.int (5 : Int32)), (.long (r5 x0)), (.int (4 : Int32)), (.ref b3)])) rfl (rest := [(.int (5 : Int32)), (.long (r5 x0)), (.int (4 : Int32)), (.ref b3)]) rfl (hb hby d8_39) _ ?_
    rw [len_of S44 M44]
    exact k
  have hc40_45 : ¬ ((5 : Int32) < (5 : Int32)) := Int32.lt_irrefl
  refine Goes.st (B := T43.setTop (mkF m 56 #[iv x0, iv x1, iv (5 : Int32), rv b1, rv b3, iv (4 : Int32)] [(.long (r5 x0)), (.int (4 : Int32)), (.ref b3)])) (fun t k => ?_) ?_
  · refine XS.icmpYes X43.here hx rfl (pc0 := 40) (pc' := 56) rfl (hb hby d8_40) rfl (flt hc40_45).2.1 (by decide) (by decide) ?_
    exact k
  refine Goes.run X43 hx hown hci hcl hby (L := [(56, .lconst 0, 1), (57, .ladd, 1)]) (by decide +kernel) rfl (g' := (mkF m 58 #[iv x0, iv x1, iv (5 : Int32), rv b1, rv b3, iv (4 : Int32)] [(.long ((r5 x0) + (0 : Int64))), (.int (4 : Int32)), (.ref b3)])) rfl ?_
  obtain ⟨cl46, Ar46, q46, S46, M46, Hs46, G46⟩ := id V_b3
  have hin46 : ¬ ((4 : Int32) < 0 ∨ cl46.slots.size ≤ ((4 : Int32)).toNatClampNeg) := inb_of S46 ⟨(by decide), (by decide)⟩
  obtain ⟨T46, h46, X46, e46, W46, st46⟩ := stJ X43 hx hZ e43 Ar46 (j := (4 : Int32)) hin46 (g := (mkF m 58 #[iv x0, iv x1, iv (5 : Int32), rv b1, rv b3, iv (4 : Int32)] [(.long ((r5 x0) + (0 : Int64))), (.int (4 : Int32)), (.ref b3)])) rfl rfl (hb hby d8_58)
  have E_b1 := E_b1.wr W46
  have V_b1 := V_b1.other W46 ne_b1_b3
  have E_b3 := E_b3.wr W46
  have Zn46 : n0 ≤ h46.size := Nat.le_trans Zn39 (Keep.of_wr W46).1
  have K46 := K39.wr W46 (Or.inr sz_b3)
  have N46 := Fr.snoc X46 N43 g_b3
  have V_b3 : Arv Z h46 b3 k3 .long (5 : Int32) [(.long ((r5 x1) + (r7 x0 (c95_50_0 x0 x1)))), (.long ((r5 (c95_50_0 x0 x1)) + (r7 x0 (c95_50_0_a x0 x1)))), (.long ((r5 (c95_50_0_a x0 x1)) + (r7 x0 (c95_50_0_b x0 x1)))), (.long ((r5 (c95_50_0_b x0 x1)) + (r7 x0 x0))), (.long ((r5 x0) + (0 : Int64)))] (.long (0 : Int64)) := Arv.set Ar46 q46 S46 M46 Hs46 G46 rfl W46 4 rfl (Nat.le_of_ble_eq_true rfl)
  refine Goes.st (B := T46.setTop (mkF m 59 #[iv x0, iv x1, iv (5 : Int32), rv b1, rv b3, iv (4 : Int32)] [])) st46 ?_
  refine Goes.run X46 hx hown hci hcl hby (L := [(59, .iinc 5 1, 3), (62, .goto (-46), 3), (16, .iload 5, 2), (18, .aload_n 3, 1)]) (by decide +kernel) rfl (g' := (mkF m 19 #[iv x0, iv x1, iv (5 : Int32), rv b1, rv b3, iv (5 : Int32)] [(.ref b1), (.int (5 : Int32))])) rfl ?_
  obtain ⟨cl47, Ar47, q47, S47, M47, Hs47, G47⟩ := id V_b1
  refine Goes.st (B := T46.setTop (mkF m 20 #[iv x0, iv x1, iv (5 : Int32), rv b1, rv b3, iv (5 : Int32)] [(.int (5 : Int32)), (.int (5 : Int32))])) (fun t k => ?_) ?_
  · refine X46.arraylength hx (cell := cl47) (by rw [e46]; exact Ar47.1) (State.isArrayOf_alike hZ.alike Ar47.2.1) (g := (mkF m 19 #[iv x0, iv x1, iv (5 : Int32), rv b1, rv b3, iv (5 : Int32)] [(.ref b1), (.int (5 : Int32))])) rfl (rest := [(.int (5 : Int32))]) rfl (hb hby d8_19) _ ?_
    rw [len_of S47 M47]
    exact k
  have hc20_48 : ¬ ((5 : Int32) < (5 : Int32)) := Int32.lt_irrefl
  refine Goes.st (B := T46.setTop (mkF m 65 #[iv x0, iv x1, iv (5 : Int32), rv b1, rv b3, iv (5 : Int32)] [])) (fun t k => ?_) ?_
  · refine XS.icmpYes X46.here hx rfl (pc0 := 20) (pc' := 65) rfl (hb hby d8_20) rfl (flt hc20_48).2.1 (by decide) (by decide) ?_
    exact k
  refine Goes.run X46 hx hown hci hcl hby (L := [(65, .aload 4, 2)]) (by decide +kernel) rfl (g' := (mkF m 67 #[iv x0, iv x1, iv (5 : Int32), rv b1, rv b3, iv (5 : Int32)] [(.ref b3)])) rfl ?_
  refine Goes.retR X46 hx hlk Bd.returns rfl rfl (hb hby d8_67) ?_ (by decide) (by decide)
  show (Q95 Z x0 x1 h0 n0) _ _ _
  rw [e46]
  exact ⟨b3, k3, rfl, N46, K46, sz_b3, E_b3, V_b3⟩
theorem pn86 : plainName "com/example/eriu/eriu/algorithm/GroupElection" = true := by first | (simp [plainName, overriddenIn]; done) | decide +kernel
theorem pd86_0 : parseMethodDescriptor "(I)I" = some ⟨[.int], some .int⟩ := by decide +kernel
theorem ef86 (m : MethodId) (x0 : Int32) (x1 : Int32) : entryFrame m #[(.int x0), (.int x1), (.int (6 : Int32))] 5 = (mkF m 0 #[iv x0, iv x1, iv (6 : Int32), .unset, .unset] []) := by first | (simp [entryFrame, mkF, argsToLocals, Value.category]; done) | rfl
def Q86 (Z : State) (x0 : Int32) (x1 : Int32) (h0 : Heap) (n0 : Nat) (v : Option Value) (h : Heap) (L : List Loc) : Prop := ∃ (b : Addr) (k : ClassId), v = some (.ref b) ∧ Fr n0 L ∧ Keep h0 h [] ∧ h0.size ≤ b ∧ Exa Z h b "[I" ∧ Arv Z h b k .int (6 : Int32) [(.int x1), (.int ((2 : Int32) * x1)), (.int ((2 : Int32) * ((2 : Int32) * x1))), (.int ((2 : Int32) * ((2 : Int32) * ((2 : Int32) * x1)))), (.int ((2 : Int32) * ((2 : Int32) * ((2 : Int32) * ((2 : Int32) * x1))))), (.int x0)] (.int (0 : Int32))
set_option maxRecDepth 65536 in
set_option maxHeartbeats 40000000 in
theorem rm86 (l : Launch) (Z : State) (a0 : Array Value) (hw : ∀ d ∈ tables_1, d.before a0 Z = true) (ws : List Jvm.Cond) (x0 : Int32) (x1 : Int32) (h0 : Heap) (n0 : Nat) (Z0 : n0 ≤ h0.size) (p1 : ¬ (x0 < (1 : Int32))) (p2 : ¬ (x1 < (1 : Int32))) (p4 : (4 : Int32) < (r3 x1)) :
    MetFree l ym6 (head1 (Jvm.Cond.code ym6 prog_4_method_19_code 5 (some (.array .int)) :: ws) ({ frames := 1, cells := 1, slots := 8, locals := 14 } : Room)) (fun a U => a = #[(.int x0), (.int x1), (.int (6 : Int32))] ∧ Z.Warmed39 U.vm ∧ U.heap = h0) (fun _ _ _ _ _ => True) (fun _ U o U' => ∃ v L, o = .returned v ∧ (Q86 Z x0 x1 h0 n0) v U'.heap L ∧ FrameEnd U o U' L ({ frames := 1, cells := 1, slots := 8, locals := 14 } : Room).cells ({ frames := 1, cells := 1, slots := 8, locals := 14 } : Room).slots) := by
  refine MetFree.of_bodySF (plainFor_of_name pn86) hisR ?_
  intro p e s m args below meth c s₁ Bd hml0 hP hK
  obtain ⟨rfl, hZ, hh⟩ := hP
  have hx := Bd.exec
  have hby := Bd.bytes
  have hml : c.maxLocals = 5 := hml0
  have hlk : meth.locks = false := BodyLoose.notSynchronized Bd
  have hown : s.vm.findClass "com/example/eriu/eriu/algorithm/GroupElection" = some m.cls := findClass_of_methodNamed Bd.named
  have hnm := (name_of_methodNamed Bd.named Bd.method).1
  have w_12 := hw _ (List.mem_of_getElem? (i := 12) rfl)
  have w_13 := hw _ (List.mem_of_getElem? (i := 13) rfl)
  have w_14 := hw _ (List.mem_of_getElem? (i := 14) rfl)
  have w_15 := hw _ (List.mem_of_getElem? (i := 15) rfl)
  have w_17 := hw _ (List.mem_of_getElem? (i := 17) rfl)
  have w_22 := hw _ (List.mem_of_getElem? (i := 22) rfl)
  have w_26 := hw _ (List.mem_of_getElem? (i := 26) rfl)
  have hci : ∀ i v, (i, v) ∈ ([] : List (Nat × Int32)) → (Jvm.Cond.constant "com/example/eriu/eriu/algorithm/GroupElection" i v).before #[(.int x0), (.int x1), (.int (6 : Int32))] s = true := own_ci0
  have hcl : ∀ i v, (i, v) ∈ ([(215, 2), (236, 3)] : List (Nat × Int64)) → (Jvm.Cond.constantLong "com/example/eriu/eriu/algorithm/GroupElection" i v).before #[(.int x0), (.int x1), (.int (6 : Int32))] s = true := (own_ciS (mvT hZ w_22) (own_ciS (mvT hZ w_26) own_ci0))
  have X0 : Stand p l e ({ frames := 1, cells := 1, slots := 8, locals := 14 } : Room) s m #[(.int x0), (.int x1), (.int (6 : Int32))] below meth c s₁ [] 0 0 := Stand.of_body Bd
  have e0 : s₁.heap = h0 := by rw [← hh, Bd.state]; rfl
  have N0 := Fr.nil n0
  show Goes p e below s (Q86 Z x0 x1 h0 n0) ({ frames := 1, cells := 1, slots := 8, locals := 14 } : Room).cells ({ frames := 1, cells := 1, slots := 8, locals := 14 } : Room).slots (s₁.setTop (entryFrame m #[(.int x0), (.int x1), (.int (6 : Int32))] 5))
  refine Goes.cast (ef86 m x0 x1) ?_
  have K0 : Keep h0 h0 [] := Keep.refl h0 _
  refine Goes.run X0 hx hown hci hcl hby (L := [(0, .iload_n 0, 1), (1, .iconst 1, 1)]) (by decide +kernel) rfl (g' := (mkF m 2 #[iv x0, iv x1, iv (6 : Int32), .unset, .unset] [(.int (1 : Int32)), (.int x0)])) rfl ?_
  have hc2_1 : ¬ (x0 < (1 : Int32)) := p1
  refine Goes.st (B := s₁.setTop (mkF m 5 #[iv x0, iv x1, iv (6 : Int32), .unset, .unset] [])) (fun t k => ?_) ?_
  · refine XS.icmpNo X0.here hx rfl (hb hby d7_2) rfl (flt hc2_1).1 ?_
    exact k
  refine Goes.run X0 hx hown hci hcl hby (L := [(5, .iload_n 1, 1), (6, .iconst 1, 1)]) (by decide +kernel) rfl (g' := (mkF m 7 #[iv x0, iv x1, iv (6 : Int32), .unset, .unset] [(.int (1 : Int32)), (.int x1)])) rfl ?_
  have hc7_2 : ¬ (x1 < (1 : Int32)) := p2
  refine Goes.st (B := s₁.setTop (mkF m 10 #[iv x0, iv x1, iv (6 : Int32), .unset, .unset] [])) (fun t k => ?_) ?_
  · refine XS.icmpNo X0.here hx rfl (hb hby d7_7) rfl (flt hc7_2).1 ?_
    exact k
  refine Goes.run X0 hx hown hci hcl hby (L := [(10, .iload_n 2, 1), (11, .iconst 1, 1)]) (by decide +kernel) rfl (g' := (mkF m 12 #[iv x0, iv x1, iv (6 : Int32), .unset, .unset] [(.int (1 : Int32)), (.int (6 : Int32))])) rfl ?_
  have hc12_3 : ¬ ((6 : Int32) < (1 : Int32)) := by decide
  refine Goes.st (B := s₁.setTop (mkF m 31 #[iv x0, iv x1, iv (6 : Int32), .unset, .unset] [])) (fun t k => ?_) ?_
  · refine XS.icmpYes X0.here hx rfl (pc0 := 12) (pc' := 31) rfl (hb hby d7_12) rfl (flt hc12_3).2.1 (by decide) (by decide) ?_
    exact k
  refine Goes.run X0 hx hown hci hcl hby (L := [(31, .iload_n 2, 1), (32, .iconst 2, 1), (33, .isub, 1), (34, .iload_n 1, 1)]) (by decide +kernel) rfl (g' := (mkF m 35 #[iv x0, iv x1, iv (6 : Int32), .unset, .unset] [(.int x1), (.int (4 : Int32))])) rfl ?_
  obtain ⟨_, _, ⟨T4, L4, k4, n4⟩, -, X4, ⟨Lc4, hQ4, l4, y4, z4⟩, st4⟩ := Jvm.LawKit.callS X0 hx (y := ym1) hown (mvT hZ w_12) (mvT hZ w_13) (mvT hZ w_14) (mvT hZ w_15) (by decide) (backOf (W := 1) (rm3 l Z a0 hw [] x1 h0 n0 Z0 ) hZ w_15 w_14 (by decide) (by decide)) (g := (mkF m 35 #[iv x0, iv x1, iv (6 : Int32), .unset, .unset] [(.int x1), (.int (4 : Int32))])) rfl (by rw [hml]; rfl) (argsL := [(.int x1)]) (rest := [(.int (4 : Int32))]) (lenOf pd86_0 rfl) rfl (by show 2 * 0 + _ ≤ _; exact Nat.le_of_eq rfl) (hb hby d7_35) (fun _ _ => ⟨rfl, e0, (by decide : 0 + 0 ≤ _), (by decide : 0 + 0 ≤ _)⟩)
  dsimp only [Pt.U, Pt.locs, Pt.cells, Pt.slots] at X4 l4 y4 z4 st4 hQ4
  subst l4 y4 z4
  obtain ⟨rfl, N4q, e4⟩ := hQ4
  have N4 := Fr.app N0 N4q
  refine Goes.st (B := T4.setTop (mkF m 38 #[iv x0, iv x1, iv (6 : Int32), .unset, .unset] [(.int (r3 x1)), (.int (4 : Int32))])) st4 ?_
  have hc38_5 : (4 : Int32) < (r3 x1) := p4
  refine Goes.st (B := T4.setTop (mkF m 58 #[iv x0, iv x1, iv (6 : Int32), .unset, .unset] [])) (fun t k => ?_) ?_
  · refine XS.icmpYes X4.here hx rfl (pc0 := 38) (pc' := 58) rfl (hb hby d7_38) rfl (tlt hc38_5).1 (by decide) (by decide) ?_
    exact k
  refine Goes.run X4 hx hown hci hcl hby (L := [(58, .iload_n 2, 1)]) (by decide +kernel) rfl (g' := (mkF m 59 #[iv x0, iv x1, iv (6 : Int32), .unset, .unset] [(.int (6 : Int32))])) rfl ?_
  obtain ⟨T6, h6, k6, X6, e6, E6, A6, B6, st6⟩ := newPE X4 hx hZ (aty := .int) w_17 e4 (g := (mkF m 59 #[iv x0, iv x1, iv (6 : Int32), .unset, .unset] [(.int (6 : Int32))])) rfl (hb hby d7_59) rfl (by decide) (cap := 6) (by decide) (by decide) (by decide) (by decide) (ad := "[I") (by decide)
  obtain ⟨b6, g6⟩ : ∃ z, z = h0.size := ⟨_, rfl⟩
  rw [← g6] at A6 B6 st6
  have g_b6 : n0 ≤ b6 := Nat.le_trans Z0 (Nat.le_of_eq g6.symm)
  have sz_b6 : h0.size ≤ b6 := Nat.le_trans K0.1 (Nat.le_of_eq g6.symm)
  have Zn6 : n0 ≤ h6.size := Nat.le_trans Z0 E6.1
  have K6 := K0.ext E6
  have E_b6 : Exa Z h6 b6 "[I" := B6
  have V_b6 : Arv Z h6 b6 k6 .int (6 : Int32) [(.int (0 : Int32)), (.int (0 : Int32)), (.int (0 : Int32)), (.int (0 : Int32)), (.int (0 : Int32)), (.int (0 : Int32))] (.int (0 : Int32)) := (Arv.new A6 (by decide)).pad (pad_rep [] (.int (0 : Int32)) 6)
  refine Goes.st (B := T6.setTop (mkF m 61 #[iv x0, iv x1, iv (6 : Int32), .unset, .unset] [(.ref b6)])) st6 ?_
  refine Goes.run X6 hx hown hci hcl hby (L := [(61, .astore_n 3, 1), (62, .aload_n 3, 1), (63, .iconst 0, 1), (64, .iload_n 1, 1)]) (by decide +kernel) rfl (g' := (mkF m 65 #[iv x0, iv x1, iv (6 : Int32), rv b6, .unset] [(.int x1), (.int (0 : Int32)), (.ref b6)])) rfl ?_
  obtain ⟨cl7, Ar7, q7, S7, M7, Hs7, G7⟩ := id V_b6
  have hin7 : ¬ ((0 : Int32) < 0 ∨ cl7.slots.size ≤ ((0 : Int32)).toNatClampNeg) := inb_of S7 ⟨(by decide), (by decide)⟩
  obtain ⟨T7, h7, X7, e7, W7, st7⟩ := stI X6 hx hZ e6 Ar7 (j := (0 : Int32)) hin7 (g := (mkF m 65 #[iv x0, iv x1, iv (6 : Int32), rv b6, .unset] [(.int x1), (.int (0 : Int32)), (.ref b6)])) rfl rfl (hb hby d7_65)
  have E_b6 := E_b6.wr W7
  have Zn7 : n0 ≤ h7.size := Nat.le_trans Zn6 (Keep.of_wr W7).1
  have K7 := K6.wr W7 (Or.inr sz_b6)
  have N7 := Fr.snoc X7 N4 g_b6
  have V_b6 : Arv Z h7 b6 k6 .int (6 : Int32) [(.int x1), (.int (0 : Int32)), (.int (0 : Int32)), (.int (0 : Int32)), (.int (0 : Int32)), (.int (0 : Int32))] (.int (0 : Int32)) := Arv.set Ar7 q7 S7 M7 Hs7 G7 rfl W7 0 rfl (Nat.le_of_ble_eq_true rfl)
  refine Goes.st (B := T7.setTop (mkF m 66 #[iv x0, iv x1, iv (6 : Int32), rv b6, .unset] [])) st7 ?_
  refine Goes.run X7 hx hown hci hcl hby (L := [(66, .iconst 1, 1), (67, .istore 4, 2), (69, .iload 4, 2), (71, .iload_n 2, 1), (72, .iconst 1, 1), (73, .isub, 1)]) (by decide +kernel) rfl (g' := (mkF m 74 #[iv x0, iv x1, iv (6 : Int32), rv b6, iv (1 : Int32)] [(.int (5 : Int32)), (.int (1 : Int32))])) rfl ?_
  have hc74_8 : (1 : Int32) < (5 : Int32) := by decide
  refine Goes.st (B := T7.setTop (mkF m 77 #[iv x0, iv x1, iv (6 : Int32), rv b6, iv (1 : Int32)] [])) (fun t k => ?_) ?_
  · refine XS.icmpNo X7.here hx rfl (hb hby d7_74) rfl (tlt hc74_8).2.1 ?_
    exact k
  refine Goes.run X7 hx hown hci hcl hby (L := [(77, .aload_n 3, 1), (78, .iload 4, 2), (80, .iconst 2, 1), (81, .aload_n 3, 1), (82, .iload 4, 2), (84, .iconst 1, 1)]) (by decide +kernel) rfl (g' := (mkF m 85 #[iv x0, iv x1, iv (6 : Int32), rv b6, iv (1 : Int32)] [(.int (1 : Int32)), (.int (1 : Int32)), (.ref b6), (.int (2 : Int32)), (.int (1 : Int32)), (.ref b6)])) rfl ?_
  refine Goes.run X7 hx hown hci hcl hby (L := [(85, .isub, 1)]) (by decide +kernel) rfl (g' := (mkF m 86 #[iv x0, iv x1, iv (6 : Int32), rv b6, iv (1 : Int32)] [(.int (0 : Int32)), (.ref b6), (.int (2 : Int32)), (.int (1 : Int32)), (.ref b6)])) rfl ?_
  obtain ⟨cl9, Ar9, q9, S9, M9, Hs9, G9⟩ := id V_b6
  have hin9 : ¬ ((0 : Int32) < 0 ∨ cl9.slots.size ≤ ((0 : Int32)).toNatClampNeg) := inb_of S9 ⟨(by decide), (by decide)⟩
  have hat9 : cl9.slots[((0 : Int32)).toNatClampNeg]? = some (.int x1) := Hs9.at hin9 rfl
  refine Goes.st (B := T7.setTop (mkF m 87 #[iv x0, iv x1, iv (6 : Int32), rv b6, iv (1 : Int32)] [(.int x1), (.int (2 : Int32)), (.int (1 : Int32)), (.ref b6)])) (X7.iaload hx (j := (0 : Int32)) (v := (.int x1)) (by rw [e7]; exact Ar9.1) (State.isArrayOf_alike hZ.alike Ar9.2.1) Ar9.2.2 hin9 hat9 (g := (mkF m 86 #[iv x0, iv x1, iv (6 : Int32), rv b6, iv (1 : Int32)] [(.int (0 : Int32)), (.ref b6), (.int (2 : Int32)), (.int (1 : Int32)), (.ref b6)])) rfl rfl (hb hby d7_86)) ?_
  refine Goes.run X7 hx hown hci hcl hby (L := [(87, .imul, 1)]) (by decide +kernel) rfl (g' := (mkF m 88 #[iv x0, iv x1, iv (6 : Int32), rv b6, iv (1 : Int32)] [(.int ((2 : Int32) * x1)), (.int (1 : Int32)), (.ref b6)])) rfl ?_
  obtain ⟨cl10, Ar10, q10, S10, M10, Hs10, G10⟩ := id V_b6
  have hin10 : ¬ ((1 : Int32) < 0 ∨ cl10.slots.size ≤ ((1 : Int32)).toNatClampNeg) := inb_of S10 ⟨(by decide), (by decide)⟩
  obtain ⟨T10, h10, X10, e10, W10, st10⟩ := stI X7 hx hZ e7 Ar10 (j := (1 : Int32)) hin10 (g := (mkF m 88 #[iv x0, iv x1, iv (6 : Int32), rv b6, iv (1 : Int32)] [(.int ((2 : Int32) * x1)), (.int (1 : Int32)), (.ref b6)])) rfl rfl (hb hby d7_88)
  have E_b6 := E_b6.wr W10
  have Zn10 : n0 ≤ h10.size := Nat.le_trans Zn7 (Keep.of_wr W10).1
  have K10 := K7.wr W10 (Or.inr sz_b6)
  have N10 := Fr.snoc X10 N7 g_b6
  have V_b6 : Arv Z h10 b6 k6 .int (6 : Int32) [(.int x1), (.int ((2 : Int32) * x1)), (.int (0 : Int32)), (.int (0 : Int32)), (.int (0 : Int32)), (.int (0 : Int32))] (.int (0 : Int32)) := Arv.set Ar10 q10 S10 M10 Hs10 G10 rfl W10 1 rfl (Nat.le_of_ble_eq_true rfl)
  refine Goes.st (B := T10.setTop (mkF m 89 #[iv x0, iv x1, iv (6 : Int32), rv b6, iv (1 : Int32)] [])) st10 ?_
  refine Goes.run X10 hx hown hci hcl hby (L := [(89, .iinc 4 1, 3), (92, .goto (-23), 3), (69, .iload 4, 2), (71, .iload_n 2, 1), (72, .iconst 1, 1), (73, .isub, 1)]) (by decide +kernel) rfl (g' := (mkF m 74 #[iv x0, iv x1, iv (6 : Int32), rv b6, iv (2 : Int32)] [(.int (5 : Int32)), (.int (2 : Int32))])) rfl ?_
  have hc74_11 : (2 : Int32) < (5 : Int32) := by decide
  refine Goes.st (B := T10.setTop (mkF m 77 #[iv x0, iv x1, iv (6 : Int32), rv b6, iv (2 : Int32)] [])) (fun t k => ?_) ?_
  · refine XS.icmpNo X10.here hx rfl (hb hby d7_74) rfl (tlt hc74_11).2.1 ?_
    exact k
  refine Goes.run X10 hx hown hci hcl hby (L := [(77, .aload_n 3, 1), (78, .iload 4, 2), (80, .iconst 2, 1), (81, .aload_n 3, 1), (82, .iload 4, 2), (84, .iconst 1, 1)]) (by decide +kernel) rfl (g' := (mkF m 85 #[iv x0, iv x1, iv (6 : Int32), rv b6, iv (2 : Int32)] [(.int (1 : Int32)), (.int (2 : Int32)), (.ref b6), (.int (2 : Int32)), (.int (2 : Int32)), (.ref b6)])) rfl ?_
  refine Goes.run X10 hx hown hci hcl hby (L := [(85, .isub, 1)]) (by decide +kernel) rfl (g' := (mkF m 86 #[iv x0, iv x1, iv (6 : Int32), rv b6, iv (2 : Int32)] [(.int (1 : Int32)), (.ref b6), (.int (2 : Int32)), (.int (2 : Int32)), (.ref b6)])) rfl ?_
  obtain ⟨cl12, Ar12, q12, S12, M12, Hs12, G12⟩ := id V_b6
  have hin12 : ¬ ((1 : Int32) < 0 ∨ cl12.slots.size ≤ ((1 : Int32)).toNatClampNeg) := inb_of S12 ⟨(by decide), (by decide)⟩
  have hat12 : cl12.slots[((1 : Int32)).toNatClampNeg]? = some (.int ((2 : Int32) * x1)) := Hs12.at hin12 rfl
  refine Goes.st (B := T10.setTop (mkF m 87 #[iv x0, iv x1, iv (6 : Int32), rv b6, iv (2 : Int32)] [(.int ((2 : Int32) * x1)), (.int (2 : Int32)), (.int (2 : Int32)), (.ref b6)])) (X10.iaload hx (j := (1 : Int32)) (v := (.int ((2 : Int32) * x1))) (by rw [e10]; exact Ar12.1) (State.isArrayOf_alike hZ.alike Ar12.2.1) Ar12.2.2 hin12 hat12 (g := (mkF m 86 #[iv x0, iv x1, iv (6 : Int32), rv b6, iv (2 : Int32)] [(.int (1 : Int32)), (.ref b6), (.int (2 : Int32)), (.int (2 : Int32)), (.ref b6)])) rfl rfl (hb hby d7_86)) ?_
  refine Goes.run X10 hx hown hci hcl hby (L := [(87, .imul, 1)]) (by decide +kernel) rfl (g' := (mkF m 88 #[iv x0, iv x1, iv (6 : Int32), rv b6, iv (2 : Int32)] [(.int ((2 : Int32) * ((2 : Int32) * x1))), (.int (2 : Int32)), (.ref b6)])) rfl ?_
  obtain ⟨cl13, Ar13, q13, S13, M13, Hs13, G13⟩ := id V_b6
  have hin13 : ¬ ((2 : Int32) < 0 ∨ cl13.slots.size ≤ ((2 : Int32)).toNatClampNeg) := inb_of S13 ⟨(by decide), (by decide)⟩
  obtain ⟨T13, h13, X13, e13, W13, st13⟩ := stI X10 hx hZ e10 Ar13 (j := (2 : Int32)) hin13 (g := (mkF m 88 #[iv x0, iv x1, iv (6 : Int32), rv b6, iv (2 : Int32)] [(.int ((2 : Int32) * ((2 : Int32) * x1))), (.int (2 : Int32)), (.ref b6)])) rfl rfl (hb hby d7_88)
  have E_b6 := E_b6.wr W13
  have Zn13 : n0 ≤ h13.size := Nat.le_trans Zn10 (Keep.of_wr W13).1
  have K13 := K10.wr W13 (Or.inr sz_b6)
  have N13 := Fr.snoc X13 N10 g_b6
  have V_b6 : Arv Z h13 b6 k6 .int (6 : Int32) [(.int x1), (.int ((2 : Int32) * x1)), (.int ((2 : Int32) * ((2 : Int32) * x1))), (.int (0 : Int32)), (.int (0 : Int32)), (.int (0 : Int32))] (.int (0 : Int32)) := Arv.set Ar13 q13 S13 M13 Hs13 G13 rfl W13 2 rfl (Nat.le_of_ble_eq_true rfl)
  refine Goes.st (B := T13.setTop (mkF m 89 #[iv x0, iv x1, iv (6 : Int32), rv b6, iv (2 : Int32)] [])) st13 ?_
  refine Goes.run X13 hx hown hci hcl hby (L := [(89, .iinc 4 1, 3), (92, .goto (-23), 3), (69, .iload 4, 2), (71, .iload_n 2, 1), (72, .iconst 1, 1), (73, .isub, 1)]) (by decide +kernel) rfl (g' := (mkF m 74 #[iv x0, iv x1, iv (6 : Int32), rv b6, iv (3 : Int32)] [(.int (5 : Int32)), (.int (3 : Int32))])) rfl ?_
  have hc74_14 : (3 : Int32) < (5 : Int32) := by decide
  refine Goes.st (B := T13.setTop (mkF m 77 #[iv x0, iv x1, iv (6 : Int32), rv b6, iv (3 : Int32)] [])) (fun t k => ?_) ?_
  · refine XS.icmpNo X13.here hx rfl (hb hby d7_74) rfl (tlt hc74_14).2.1 ?_
    exact k
  refine Goes.run X13 hx hown hci hcl hby (L := [(77, .aload_n 3, 1), (78, .iload 4, 2), (80, .iconst 2, 1), (81, .aload_n 3, 1), (82, .iload 4, 2), (84, .iconst 1, 1)]) (by decide +kernel) rfl (g' := (mkF m 85 #[iv x0, iv x1, iv (6 : Int32), rv b6, iv (3 : Int32)] [(.int (1 : Int32)), (.int (3 : Int32)), (.ref b6), (.int (2 : Int32)), (.int (3 : Int32)), (.ref b6)])) rfl ?_
  refine Goes.run X13 hx hown hci hcl hby (L := [(85, .isub, 1)]) (by decide +kernel) rfl (g' := (mkF m 86 #[iv x0, iv x1, iv (6 : Int32), rv b6, iv (3 : Int32)] [(.int (2 : Int32)), (.ref b6), (.int (2 : Int32)), (.int (3 : Int32)), (.ref b6)])) rfl ?_
  obtain ⟨cl15, Ar15, q15, S15, M15, Hs15, G15⟩ := id V_b6
  have hin15 : ¬ ((2 : Int32) < 0 ∨ cl15.slots.size ≤ ((2 : Int32)).toNatClampNeg) := inb_of S15 ⟨(by decide), (by decide)⟩
  have hat15 : cl15.slots[((2 : Int32)).toNatClampNeg]? = some (.int ((2 : Int32) * ((2 : Int32) * x1))) := Hs15.at hin15 rfl
  refine Goes.st (B := T13.setTop (mkF m 87 #[iv x0, iv x1, iv (6 : Int32), rv b6, iv (3 : Int32)] [(.int ((2 : Int32) * ((2 : Int32) * x1))), (.int (2 : Int32)), (.int (3 : Int32)), (.ref b6)])) (X13.iaload hx (j := (2 : Int32)) (v := (.int ((2 : Int32) * ((2 : Int32) * x1)))) (by rw [e13]; exact Ar15.1) (State.isArrayOf_alike hZ.alike Ar15.2.1) Ar15.2.2 hin15 hat15 (g := (mkF m 86 #[iv x0, iv x1, iv (6 : Int32), rv b6, iv (3 : Int32)] [(.int (2 : Int32)), (.ref b6), (.int (2 : Int32)), (.int (3 : Int32)), (.ref b6)])) rfl rfl (hb hby d7_86)) ?_
  refine Goes.run X13 hx hown hci hcl hby (L := [(87, .imul, 1)]) (by decide +kernel) rfl (g' := (mkF m 88 #[iv x0, iv x1, iv (6 : Int32), rv b6, iv (3 : Int32)] [(.int ((2 : Int32) * ((2 : Int32) * ((2 : Int32) * x1)))), (.int (3 : Int32)), (.ref b6)])) rfl ?_
  obtain ⟨cl16, Ar16, q16, S16, M16, Hs16, G16⟩ := id V_b6
  have hin16 : ¬ ((3 : Int32) < 0 ∨ cl16.slots.size ≤ ((3 : Int32)).toNatClampNeg) := inb_of S16 ⟨(by decide), (by decide)⟩
  obtain ⟨T16, h16, X16, e16, W16, st16⟩ := stI X13 hx hZ e13 Ar16 (j := (3 : Int32)) hin16 (g := (mkF m 88 #[iv x0, iv x1, iv (6 : Int32), rv b6, iv (3 : Int32)] [(.int ((2 : Int32) * ((2 : Int32) * ((2 : Int32) * x1)))), (.int (3 : Int32)), (.ref b6)])) rfl rfl (hb hby d7_88)
  have E_b6 := E_b6.wr W16
  have Zn16 : n0 ≤ h16.size := Nat.le_trans Zn13 (Keep.of_wr W16).1
  have K16 := K13.wr W16 (Or.inr sz_b6)
  have N16 := Fr.snoc X16 N13 g_b6
  have V_b6 : Arv Z h16 b6 k6 .int (6 : Int32) [(.int x1), (.int ((2 : Int32) * x1)), (.int ((2 : Int32) * ((2 : Int32) * x1))), (.int ((2 : Int32) * ((2 : Int32) * ((2 : Int32) * x1)))), (.int (0 : Int32)), (.int (0 : Int32))] (.int (0 : Int32)) := Arv.set Ar16 q16 S16 M16 Hs16 G16 rfl W16 3 rfl (Nat.le_of_ble_eq_true rfl)
  refine Goes.st (B := T16.setTop (mkF m 89 #[iv x0, iv x1, iv (6 : Int32), rv b6, iv (3 : Int32)] [])) st16 ?_
  refine Goes.run X16 hx hown hci hcl hby (L := [(89, .iinc 4 1, 3), (92, .goto (-23), 3), (69, .iload 4, 2), (71, .iload_n 2, 1), (72, .iconst 1, 1), (73, .isub, 1)]) (by decide +kernel) rfl (g' := (mkF m 74 #[iv x0, iv x1, iv (6 : Int32), rv b6, iv (4 : Int32)] [(.int (5 : Int32)), (.int (4 : Int32))])) rfl ?_
  have hc74_17 : (4 : Int32) < (5 : Int32) := by decide
  refine Goes.st (B := T16.setTop (mkF m 77 #[iv x0, iv x1, iv (6 : Int32), rv b6, iv (4 : Int32)] [])) (fun t k => ?_) ?_
  · refine XS.icmpNo X16.here hx rfl (hb hby d7_74) rfl (tlt hc74_17).2.1 ?_
    exact k
  refine Goes.run X16 hx hown hci hcl hby (L := [(77, .aload_n 3, 1), (78, .iload 4, 2), (80, .iconst 2, 1), (81, .aload_n 3, 1), (82, .iload 4, 2), (84, .iconst 1, 1)]) (by decide +kernel) rfl (g' := (mkF m 85 #[iv x0, iv x1, iv (6 : Int32), rv b6, iv (4 : Int32)] [(.int (1 : Int32)), (.int (4 : Int32)), (.ref b6), (.int (2 : Int32)), (.int (4 : Int32)), (.ref b6)])) rfl ?_
  refine Goes.run X16 hx hown hci hcl hby (L := [(85, .isub, 1)]) (by decide +kernel) rfl (g' := (mkF m 86 #[iv x0, iv x1, iv (6 : Int32), rv b6, iv (4 : Int32)] [(.int (3 : Int32)), (.ref b6), (.int (2 : Int32)), (.int (4 : Int32)), (.ref b6)])) rfl ?_
  obtain ⟨cl18, Ar18, q18, S18, M18, Hs18, G18⟩ := id V_b6
  have hin18 : ¬ ((3 : Int32) < 0 ∨ cl18.slots.size ≤ ((3 : Int32)).toNatClampNeg) := inb_of S18 ⟨(by decide), (by decide)⟩
  have hat18 : cl18.slots[((3 : Int32)).toNatClampNeg]? = some (.int ((2 : Int32) * ((2 : Int32) * ((2 : Int32) * x1)))) := Hs18.at hin18 rfl
  refine Goes.st (B := T16.setTop (mkF m 87 #[iv x0, iv x1, iv (6 : Int32), rv b6, iv (4 : Int32)] [(.int ((2 : Int32) * ((2 : Int32) * ((2 : Int32) * x1)))), (.int (2 : Int32)), (.int (4 : Int32)), (.ref b6)])) (X16.iaload hx (j := (3 : Int32)) (v := (.int ((2 : Int32) * ((2 : Int32) * ((2 : Int32) * x1))))) (by rw [e16]; exact Ar18.1) (State.isArrayOf_alike hZ.alike Ar18.2.1) Ar18.2.2 hin18 hat18 (g := (mkF m 86 #[iv x0, iv x1, iv (6 : Int32), rv b6, iv (4 : Int32)] [(.int (3 : Int32)), (.ref b6), (.int (2 : Int32)), (.int (4 : Int32)), (.ref b6)])) rfl rfl (hb hby d7_86)) ?_
  refine Goes.run X16 hx hown hci hcl hby (L := [(87, .imul, 1)]) (by decide +kernel) rfl (g' := (mkF m 88 #[iv x0, iv x1, iv (6 : Int32), rv b6, iv (4 : Int32)] [(.int ((2 : Int32) * ((2 : Int32) * ((2 : Int32) * ((2 : Int32) * x1))))), (.int (4 : Int32)), (.ref b6)])) rfl ?_
  obtain ⟨cl19, Ar19, q19, S19, M19, Hs19, G19⟩ := id V_b6
  have hin19 : ¬ ((4 : Int32) < 0 ∨ cl19.slots.size ≤ ((4 : Int32)).toNatClampNeg) := inb_of S19 ⟨(by decide), (by decide)⟩
  obtain ⟨T19, h19, X19, e19, W19, st19⟩ := stI X16 hx hZ e16 Ar19 (j := (4 : Int32)) hin19 (g := (mkF m 88 #[iv x0, iv x1, iv (6 : Int32), rv b6, iv (4 : Int32)] [(.int ((2 : Int32) * ((2 : Int32) * ((2 : Int32) * ((2 : Int32) * x1))))), (.int (4 : Int32)), (.ref b6)])) rfl rfl (hb hby d7_88)
  have E_b6 := E_b6.wr W19
  have Zn19 : n0 ≤ h19.size := Nat.le_trans Zn16 (Keep.of_wr W19).1
  have K19 := K16.wr W19 (Or.inr sz_b6)
  have N19 := Fr.snoc X19 N16 g_b6
  have V_b6 : Arv Z h19 b6 k6 .int (6 : Int32) [(.int x1), (.int ((2 : Int32) * x1)), (.int ((2 : Int32) * ((2 : Int32) * x1))), (.int ((2 : Int32) * ((2 : Int32) * ((2 : Int32) * x1)))), (.int ((2 : Int32) * ((2 : Int32) * ((2 : Int32) * ((2 : Int32) * x1))))), (.int (0 : Int32))] (.int (0 : Int32)) := Arv.set Ar19 q19 S19 M19 Hs19 G19 rfl W19 4 rfl (Nat.le_of_ble_eq_true rfl)
  refine Goes.st (B := T19.setTop (mkF m 89 #[iv x0, iv x1, iv (6 : Int32), rv b6, iv (4 : Int32)] [])) st19 ?_
  refine Goes.run X19 hx hown hci hcl hby (L := [(89, .iinc 4 1, 3), (92, .goto (-23), 3), (69, .iload 4, 2), (71, .iload_n 2, 1), (72, .iconst 1, 1), (73, .isub, 1)]) (by decide +kernel) rfl (g' := (mkF m 74 #[iv x0, iv x1, iv (6 : Int32), rv b6, iv (5 : Int32)] [(.int (5 : Int32)), (.int (5 : Int32))])) rfl ?_
  have hc74_20 : ¬ ((5 : Int32) < (5 : Int32)) := Int32.lt_irrefl
  refine Goes.st (B := T19.setTop (mkF m 95 #[iv x0, iv x1, iv (6 : Int32), rv b6, iv (5 : Int32)] [])) (fun t k => ?_) ?_
  · refine XS.icmpYes X19.here hx rfl (pc0 := 74) (pc' := 95) rfl (hb hby d7_74) rfl (flt hc74_20).2.1 (by decide) (by decide) ?_
    exact k
  refine Goes.run X19 hx hown hci hcl hby (L := [(95, .iload_n 2, 1), (96, .iconst 1, 1)]) (by decide +kernel) rfl (g' := (mkF m 97 #[iv x0, iv x1, iv (6 : Int32), rv b6, iv (5 : Int32)] [(.int (1 : Int32)), (.int (6 : Int32))])) rfl ?_
  have hc97_21 : (1 : Int32) < (6 : Int32) := by decide
  refine Goes.st (B := T19.setTop (mkF m 100 #[iv x0, iv x1, iv (6 : Int32), rv b6, iv (5 : Int32)] [])) (fun t k => ?_) ?_
  · refine XS.icmpNo X19.here hx rfl (hb hby d7_97) rfl (tlt hc97_21).2.2.2 ?_
    exact k
  refine Goes.run X19 hx hown hci hcl hby (L := [(100, .aload_n 3, 1), (101, .iload_n 2, 1), (102, .iconst 1, 1), (103, .isub, 1), (104, .iload_n 0, 1)]) (by decide +kernel) rfl (g' := (mkF m 105 #[iv x0, iv x1, iv (6 : Int32), rv b6, iv (5 : Int32)] [(.int x0), (.int (5 : Int32)), (.ref b6)])) rfl ?_
  obtain ⟨cl22, Ar22, q22, S22, M22, Hs22, G22⟩ := id V_b6
  have hin22 : ¬ ((5 : Int32) < 0 ∨ cl22.slots.size ≤ ((5 : Int32)).toNatClampNeg) := inb_of S22 ⟨(by decide), (by decide)⟩
  obtain ⟨T22, h22, X22, e22, W22, st22⟩ := stI X19 hx hZ e19 Ar22 (j := (5 : Int32)) hin22 (g := (mkF m 105 #[iv x0, iv x1, iv (6 : Int32), rv b6, iv (5 : Int32)] [(.int x0), (.int (5 : Int32)), (.ref b6)])) rfl rfl (hb hby d7_105)
  have E_b6 := E_b6.wr W22
  have Zn22 : n0 ≤ h22.size := Nat.le_trans Zn19 (Keep.of_wr W22).1
  have K22 := K19.wr W22 (Or.inr sz_b6)
  have N22 := Fr.snoc X22 N19 g_b6
  have V_b6 : Arv Z h22 b6 k6 .int (6 : Int32) [(.int x1), (.int ((2 : Int32) * x1)), (.int ((2 : Int32) * ((2 : Int32) * x1))), (.int ((2 : Int32) * ((2 : Int32) * ((2 : Int32) * x1)))), (.int ((2 : Int32) * ((2 : Int32) * ((2 : Int32) * ((2 : Int32) * x1))))), (.int x0)] (.int (0 : Int32)) := Arv.set Ar22 q22 S22 M22 Hs22 G22 rfl W22 5 rfl (Nat.le_of_ble_eq_true rfl)
  refine Goes.st (B := T22.setTop (mkF m 106 #[iv x0, iv x1, iv (6 : Int32), rv b6, iv (5 : Int32)] [])) st22 ?_
  refine Goes.run X22 hx hown hci hcl hby (L := [(106, .aload_n 3, 1)]) (by decide +kernel) rfl (g' := (mkF m 107 #[iv x0, iv x1, iv (6 : Int32), rv b6, iv (5 : Int32)] [(.ref b6)])) rfl ?_
  refine Goes.retR X22 hx hlk Bd.returns rfl rfl (hb hby d7_107) ?_ (by decide) (by decide)
  show (Q86 Z x0 x1 h0 n0) _ _ _
  rw [e22]
  exact ⟨b6, k6, rfl, N22, K22, sz_b6, E_b6, V_b6⟩
theorem pn96 : plainName "com/example/eriu/eriu/algorithm/GroupElection" = true := by first | (simp [plainName, overriddenIn]; done) | decide +kernel
theorem pd96_0 : parseMethodDescriptor "(III)[I" = some ⟨[.int, .int, .int], some (.array .int)⟩ := by decide +kernel
theorem pd96_1 : parseMethodDescriptor "(I)J" = some ⟨[.int], some .long⟩ := by decide +kernel
theorem pd96_2 : parseMethodDescriptor "(II)J" = some ⟨[.int, .int], some .long⟩ := by decide +kernel
theorem ef96 (m : MethodId) (x0 : Int32) (x1 : Int32) : entryFrame m #[(.int x0), (.int x1), (.int (6 : Int32))] 6 = (mkF m 0 #[iv x0, iv x1, iv (6 : Int32), .unset, .unset, .unset] []) := by first | (simp [entryFrame, mkF, argsToLocals, Value.category]; done) | rfl
def c96_50_0 (x0 : Int32) (x1 : Int32) : Int32 := ((2 : Int32) * x1)
def c96_50_0_a (x0 : Int32) (x1 : Int32) : Int32 := ((2 : Int32) * ((2 : Int32) * x1))
def c96_50_0_b (x0 : Int32) (x1 : Int32) : Int32 := ((2 : Int32) * ((2 : Int32) * ((2 : Int32) * x1)))
def c96_50_0_c (x0 : Int32) (x1 : Int32) : Int32 := ((2 : Int32) * ((2 : Int32) * ((2 : Int32) * ((2 : Int32) * x1))))
def Q96 (Z : State) (x0 : Int32) (x1 : Int32) (h0 : Heap) (n0 : Nat) (v : Option Value) (h : Heap) (L : List Loc) : Prop := ∃ (b : Addr) (k : ClassId), v = some (.ref b) ∧ Fr n0 L ∧ Keep h0 h [] ∧ h0.size ≤ b ∧ Exa Z h b "[J" ∧ Arv Z h b k .long (6 : Int32) [(.long ((r5 x1) + (r7 x0 (c96_50_0 x0 x1)))), (.long ((r5 (c96_50_0 x0 x1)) + (r7 x0 (c96_50_0_a x0 x1)))), (.long ((r5 (c96_50_0_a x0 x1)) + (r7 x0 (c96_50_0_b x0 x1)))), (.long ((r5 (c96_50_0_b x0 x1)) + (r7 x0 (c96_50_0_c x0 x1)))), (.long ((r5 (c96_50_0_c x0 x1)) + (r7 x0 x0))), (.long ((r5 x0) + (0 : Int64)))] (.long (0 : Int64))
set_option maxRecDepth 65536 in
set_option maxHeartbeats 40000000 in
theorem rm96 (l : Launch) (Z : State) (a0 : Array Value) (hw : ∀ d ∈ tables_1, d.before a0 Z = true) (ws : List Jvm.Cond) (x0 : Int32) (x1 : Int32) (h0 : Heap) (n0 : Nat) (Z0 : n0 ≤ h0.size) (p1 : ¬ (x0 < (1 : Int32))) (p2 : ¬ (x1 < (1 : Int32))) (p4 : (4 : Int32) < (r3 x1)) (s1 : ¬ (((2 : Int32) * x1) < (1 : Int32))) (s2 : ¬ (((2 : Int32) * ((2 : Int32) * x1)) < (1 : Int32))) (s3 : ¬ (((2 : Int32) * ((2 : Int32) * ((2 : Int32) * x1))) < (1 : Int32))) (s4 : ¬ (((2 : Int32) * ((2 : Int32) * ((2 : Int32) * ((2 : Int32) * x1)))) < (1 : Int32))) (s5 : ¬ (x0 < (1 : Int32))) :
    MetFree l ym7 (head1 (Jvm.Cond.code ym7 prog_4_method_3_code 6 (some (.array .long)) :: ws) ({ frames := 2, cells := 2, slots := 16, locals := 40 } : Room)) (fun a U => a = #[(.int x0), (.int x1), (.int (6 : Int32))] ∧ Z.Warmed39 U.vm ∧ U.heap = h0) (fun _ _ _ _ _ => True) (fun _ U o U' => ∃ v L, o = .returned v ∧ (Q96 Z x0 x1 h0 n0) v U'.heap L ∧ FrameEnd U o U' L ({ frames := 2, cells := 2, slots := 16, locals := 40 } : Room).cells ({ frames := 2, cells := 2, slots := 16, locals := 40 } : Room).slots) := by
  refine MetFree.of_bodySF (plainFor_of_name pn96) hisR ?_
  intro p e s m args below meth c s₁ Bd hml0 hP hK
  obtain ⟨rfl, hZ, hh⟩ := hP
  have hx := Bd.exec
  have hby := Bd.bytes
  have hml : c.maxLocals = 6 := hml0
  have hlk : meth.locks = false := BodyLoose.notSynchronized Bd
  have hown : s.vm.findClass "com/example/eriu/eriu/algorithm/GroupElection" = some m.cls := findClass_of_methodNamed Bd.named
  have hnm := (name_of_methodNamed Bd.named Bd.method).1
  have w_7 := hw _ (List.mem_of_getElem? (i := 7) rfl)
  have w_9 := hw _ (List.mem_of_getElem? (i := 9) rfl)
  have w_10 := hw _ (List.mem_of_getElem? (i := 10) rfl)
  have w_11 := hw _ (List.mem_of_getElem? (i := 11) rfl)
  have w_18 := hw _ (List.mem_of_getElem? (i := 18) rfl)
  have w_19 := hw _ (List.mem_of_getElem? (i := 19) rfl)
  have w_20 := hw _ (List.mem_of_getElem? (i := 20) rfl)
  have w_21 := hw _ (List.mem_of_getElem? (i := 21) rfl)
  have w_22 := hw _ (List.mem_of_getElem? (i := 22) rfl)
  have w_26 := hw _ (List.mem_of_getElem? (i := 26) rfl)
  have w_27 := hw _ (List.mem_of_getElem? (i := 27) rfl)
  have w_28 := hw _ (List.mem_of_getElem? (i := 28) rfl)
  have w_29 := hw _ (List.mem_of_getElem? (i := 29) rfl)
  have hci : ∀ i v, (i, v) ∈ ([] : List (Nat × Int32)) → (Jvm.Cond.constant "com/example/eriu/eriu/algorithm/GroupElection" i v).before #[(.int x0), (.int x1), (.int (6 : Int32))] s = true := own_ci0
  have hcl : ∀ i v, (i, v) ∈ ([(215, 2), (236, 3)] : List (Nat × Int64)) → (Jvm.Cond.constantLong "com/example/eriu/eriu/algorithm/GroupElection" i v).before #[(.int x0), (.int x1), (.int (6 : Int32))] s = true := (own_ciS (mvT hZ w_22) (own_ciS (mvT hZ w_26) own_ci0))
  have X0 : Stand p l e ({ frames := 2, cells := 2, slots := 16, locals := 40 } : Room) s m #[(.int x0), (.int x1), (.int (6 : Int32))] below meth c s₁ [] 0 0 := Stand.of_body Bd
  have e0 : s₁.heap = h0 := by rw [← hh, Bd.state]; rfl
  have N0 := Fr.nil n0
  show Goes p e below s (Q96 Z x0 x1 h0 n0) ({ frames := 2, cells := 2, slots := 16, locals := 40 } : Room).cells ({ frames := 2, cells := 2, slots := 16, locals := 40 } : Room).slots (s₁.setTop (entryFrame m #[(.int x0), (.int x1), (.int (6 : Int32))] 6))
  refine Goes.cast (ef96 m x0 x1) ?_
  have K0 : Keep h0 h0 [] := Keep.refl h0 _
  refine Goes.run X0 hx hown hci hcl hby (L := [(0, .iload_n 0, 1), (1, .iload_n 1, 1), (2, .iload_n 2, 1)]) (by decide +kernel) rfl (g' := (mkF m 3 #[iv x0, iv x1, iv (6 : Int32), .unset, .unset, .unset] [(.int (6 : Int32)), (.int x1), (.int x0)])) rfl ?_
  obtain ⟨_, _, ⟨T1, L1, k1, n1⟩, -, X1, ⟨Lc1, hQ1, l1, y1, z1⟩, st1⟩ := Jvm.LawKit.callS X0 hx (y := ym6) hown (mvT hZ w_9) (mvT hZ w_10) (mvT hZ w_7) (mvT hZ w_11) (by decide) (backOf (W := 0) (rm86 l Z a0 hw [] x0 x1 h0 n0 Z0 p1 p2 p4) hZ w_11 w_7 (by decide) (by decide)) (g := (mkF m 3 #[iv x0, iv x1, iv (6 : Int32), .unset, .unset, .unset] [(.int (6 : Int32)), (.int x1), (.int x0)])) rfl (by rw [hml]; rfl) (argsL := [(.int x0), (.int x1), (.int (6 : Int32))]) (rest := []) (lenOf pd96_0 rfl) rfl (by show 2 * 0 + _ ≤ _; exact Nat.le_of_eq rfl) (hb hby d8_3) (fun _ _ => ⟨rfl, e0, (by decide : 0 + 1 ≤ _), (by decide : 0 + 8 ≤ _)⟩)
  dsimp only [Pt.U, Pt.locs, Pt.cells, Pt.slots] at X1 l1 y1 z1 st1 hQ1
  subst l1 y1 z1
  obtain ⟨h1, eh1⟩ : ∃ z, z = T1.heap := ⟨_, rfl⟩
  rw [← eh1] at hQ1
  have e1 : T1.heap = h1 := eh1.symm
  obtain ⟨b1, kc1, rfl, N1q, Kq1, szq1, o1_0, o1_1⟩ := hQ1
  have g_b1 : n0 ≤ b1 := Nat.le_trans Z0 szq1
  have sz_b1 : h0.size ≤ b1 := Nat.le_trans K0.1 szq1
  have N1 := Fr.app N0 N1q
  have E_b1 : Exa Z h1 b1 "[I" := o1_0
  have V_b1 : Arv Z h1 b1 kc1 .int (6 : Int32) [(.int x1), (.int ((2 : Int32) * x1)), (.int ((2 : Int32) * ((2 : Int32) * x1))), (.int ((2 : Int32) * ((2 : Int32) * ((2 : Int32) * x1)))), (.int ((2 : Int32) * ((2 : Int32) * ((2 : Int32) * ((2 : Int32) * x1))))), (.int x0)] (.int (0 : Int32)) := o1_1
  have Zn1 : n0 ≤ h1.size := Nat.le_trans Z0 Kq1.1
  have K1 := K0.trans Kq1 (all0)
  refine Goes.st (B := T1.setTop (mkF m 6 #[iv x0, iv x1, iv (6 : Int32), .unset, .unset, .unset] [(.ref b1)])) st1 ?_
  refine Goes.run X1 hx hown hci hcl hby (L := [(6, .astore_n 3, 1), (7, .aload_n 3, 1)]) (by decide +kernel) rfl (g' := (mkF m 8 #[iv x0, iv x1, iv (6 : Int32), rv b1, .unset, .unset] [(.ref b1)])) rfl ?_
  obtain ⟨cl2, Ar2, q2, S2, M2, Hs2, G2⟩ := id V_b1
  refine Goes.st (B := T1.setTop (mkF m 9 #[iv x0, iv x1, iv (6 : Int32), rv b1, .unset, .unset] [(.int (6 : Int32))])) (fun t k => ?_) ?_
  · refine X1.arraylength hx (cell := cl2) (by rw [e1]; exact Ar2.1) (State.isArrayOf_alike hZ.alike Ar2.2.1) (g := (mkF m 8 #[iv x0, iv x1, iv (6 : Int32), rv b1, .unset, .unset] [(.ref b1)])) rfl (rest := []) rfl (hb hby d8_8) _ ?_
    rw [len_of S2 M2]
    exact k
  obtain ⟨T3, h3, k3, X3, e3, E3, A3, B3, st3⟩ := newPE X1 hx hZ (aty := .long) w_18 e1 (g := (mkF m 9 #[iv x0, iv x1, iv (6 : Int32), rv b1, .unset, .unset] [(.int (6 : Int32))])) rfl (hb hby d8_9) rfl (by decide) (cap := 6) (by decide) (by decide) (by decide) (by decide) (ad := "[J") (by decide)
  obtain ⟨b3, g3⟩ : ∃ z, z = h1.size := ⟨_, rfl⟩
  rw [← g3] at A3 B3 st3
  have ne_b1_b3 : b1 ≠ b3 := Nat.ne_of_lt (Nat.lt_of_lt_of_le E_b1.lt (Nat.le_of_eq g3.symm))
  have g_b3 : n0 ≤ b3 := Nat.le_trans Zn1 (Nat.le_of_eq g3.symm)
  have sz_b3 : h0.size ≤ b3 := Nat.le_trans K1.1 (Nat.le_of_eq g3.symm)
  have E_b1 := E_b1.ext E3
  have V_b1 := V_b1.ext E3
  have Zn3 : n0 ≤ h3.size := Nat.le_trans Zn1 E3.1
  have K3 := K1.ext E3
  have E_b3 : Exa Z h3 b3 "[J" := B3
  have V_b3 : Arv Z h3 b3 k3 .long (6 : Int32) [(.long (0 : Int64)), (.long (0 : Int64)), (.long (0 : Int64)), (.long (0 : Int64)), (.long (0 : Int64)), (.long (0 : Int64))] (.long (0 : Int64)) := (Arv.new A3 (by decide)).pad (pad_rep [] (.long (0 : Int64)) 6)
  refine Goes.st (B := T3.setTop (mkF m 11 #[iv x0, iv x1, iv (6 : Int32), rv b1, .unset, .unset] [(.ref b3)])) st3 ?_
  refine Goes.run X3 hx hown hci hcl hby (L := [(11, .astore 4, 2), (13, .iconst 0, 1), (14, .istore 5, 2), (16, .iload 5, 2), (18, .aload_n 3, 1)]) (by decide +kernel) rfl (g' := (mkF m 19 #[iv x0, iv x1, iv (6 : Int32), rv b1, rv b3, iv (0 : Int32)] [(.ref b1), (.int (0 : Int32))])) rfl ?_
  obtain ⟨cl4, Ar4, q4, S4, M4, Hs4, G4⟩ := id V_b1
  refine Goes.st (B := T3.setTop (mkF m 20 #[iv x0, iv x1, iv (6 : Int32), rv b1, rv b3, iv (0 : Int32)] [(.int (6 : Int32)), (.int (0 : Int32))])) (fun t k => ?_) ?_
  · refine X3.arraylength hx (cell := cl4) (by rw [e3]; exact Ar4.1) (State.isArrayOf_alike hZ.alike Ar4.2.1) (g := (mkF m 19 #[iv x0, iv x1, iv (6 : Int32), rv b1, rv b3, iv (0 : Int32)] [(.ref b1), (.int (0 : Int32))])) rfl (rest := [(.int (0 : Int32))]) rfl (hb hby d8_19) _ ?_
    rw [len_of S4 M4]
    exact k
  have hc20_5 : (0 : Int32) < (6 : Int32) := by decide
  refine Goes.st (B := T3.setTop (mkF m 23 #[iv x0, iv x1, iv (6 : Int32), rv b1, rv b3, iv (0 : Int32)] [])) (fun t k => ?_) ?_
  · refine XS.icmpNo X3.here hx rfl (hb hby d8_20) rfl (tlt hc20_5).2.1 ?_
    exact k
  refine Goes.run X3 hx hown hci hcl hby (L := [(23, .aload 4, 2), (25, .iload 5, 2), (27, .aload_n 3, 1), (28, .iload 5, 2)]) (by decide +kernel) rfl (g' := (mkF m 30 #[iv x0, iv x1, iv (6 : Int32), rv b1, rv b3, iv (0 : Int32)] [(.int (0 : Int32)), (.ref b1), (.int (0 : Int32)), (.ref b3)])) rfl ?_
  obtain ⟨cl6, Ar6, q6, S6, M6, Hs6, G6⟩ := id V_b1
  have hin6 : ¬ ((0 : Int32) < 0 ∨ cl6.slots.size ≤ ((0 : Int32)).toNatClampNeg) := inb_of S6 ⟨(by decide), (by decide)⟩
  have hat6 : cl6.slots[((0 : Int32)).toNatClampNeg]? = some (.int x1) := Hs6.at hin6 rfl
  refine Goes.st (B := T3.setTop (mkF m 31 #[iv x0, iv x1, iv (6 : Int32), rv b1, rv b3, iv (0 : Int32)] [(.int x1), (.int (0 : Int32)), (.ref b3)])) (X3.iaload hx (j := (0 : Int32)) (v := (.int x1)) (by rw [e3]; exact Ar6.1) (State.isArrayOf_alike hZ.alike Ar6.2.1) Ar6.2.2 hin6 hat6 (g := (mkF m 30 #[iv x0, iv x1, iv (6 : Int32), rv b1, rv b3, iv (0 : Int32)] [(.int (0 : Int32)), (.ref b1), (.int (0 : Int32)), (.ref b3)])) rfl rfl (hb hby d8_30)) ?_
  obtain ⟨_, _, ⟨T7, L7, k7, n7⟩, -, X7, ⟨Lc7, hQ7, l7, y7, z7⟩, st7⟩ := Jvm.LawKit.callS X3 hx (y := ym3) hown (mvT hZ w_19) (mvT hZ w_20) (mvT hZ w_7) (mvT hZ w_21) (by decide) (backOf (W := 2) (rm5 l Z a0 hw [] x1 h3 n0 Zn3 ) hZ w_21 w_7 (by decide) (by decide)) (g := (mkF m 31 #[iv x0, iv x1, iv (6 : Int32), rv b1, rv b3, iv (0 : Int32)] [(.int x1), (.int (0 : Int32)), (.ref b3)])) rfl (by rw [hml]; rfl) (argsL := [(.int x1)]) (rest := [(.int (0 : Int32)), (.ref b3)]) (lenOf pd96_1 rfl) rfl (by show 2 * 0 + _ ≤ _; exact Nat.le_of_eq rfl) (hb hby d8_31) (fun _ _ => ⟨rfl, e3, (by decide : 2 + 0 ≤ _), (by decide : 14 + 0 ≤ _)⟩)
  dsimp only [Pt.U, Pt.locs, Pt.cells, Pt.slots] at X7 l7 y7 z7 st7 hQ7
  subst l7 y7 z7
  obtain ⟨rfl, N7q, e7⟩ := hQ7
  have N7 := Fr.app N1 N7q
  refine Goes.st (B := T7.setTop (mkF m 34 #[iv x0, iv x1, iv (6 : Int32), rv b1, rv b3, iv (0 : Int32)] [(.long (r5 x1)), (.int (0 : Int32)), (.ref b3)])) st7 ?_
  refine Goes.run X7 hx hown hci hcl hby (L := [(34, .iload 5, 2), (36, .iconst 1, 1), (37, .iadd, 1), (38, .aload_n 3, 1)]) (by decide +kernel) rfl (g' := (mkF m 39 #[iv x0, iv x1, iv (6 : Int32), rv b1, rv b3, iv (0 : Int32)] [(.ref b1), (.int (1 : Int32)), (.long (r5 x1)), (.int (0 : Int32)), (.ref b3)])) rfl ?_
  obtain ⟨cl8, Ar8, q8, S8, M8, Hs8, G8⟩ := id V_b1
  refine Goes.st (B := T7.setTop (mkF m 40 #[iv x0, iv x1, iv (6 : Int32), rv b1, rv b3, iv (0 : Int32)] [(.int (6 : Int32)), (.int (1 : Int32)), (.long (r5 x1)), (.int (0 : Int32)), (.ref b3)])) (fun t k => ?_) ?_
  · refine X7.arraylength hx (cell := cl8) (by rw [e7]; exact Ar8.1) (State.isArrayOf_alike hZ.alike Ar8.2.1) (g := (mkF m 39 #[iv x0, iv x1, iv (6 : Int32), rv b1, rv b3, iv (0 : Int32)] [(.ref b1), (.int (1 : Int32)), (.long (r5 x1)), (.int (0 : Int32)), (.ref b3)])) rfl (rest := [(.int (1 : Int32)), (.long (r5 x1)), (.int (0 : Int32)), (.ref b3)]) rfl (hb hby d8_39) _ ?_
    rw [len_of S8 M8]
    exact k
  have hc40_9 : (1 : Int32) < (6 : Int32) := by decide
  refine Goes.st (B := T7.setTop (mkF m 43 #[iv x0, iv x1, iv (6 : Int32), rv b1, rv b3, iv (0 : Int32)] [(.long (r5 x1)), (.int (0 : Int32)), (.ref b3)])) (fun t k => ?_) ?_
  · refine XS.icmpNo X7.here hx rfl (hb hby d8_40) rfl (tlt hc40_9).2.1 ?_
    exact k
  refine Goes.run X7 hx hown hci hcl hby (L := [(43, .iload_n 0, 1), (44, .aload_n 3, 1), (45, .iload 5, 2), (47, .iconst 1, 1), (48, .iadd, 1)]) (by decide +kernel) rfl (g' := (mkF m 49 #[iv x0, iv x1, iv (6 : Int32), rv b1, rv b3, iv (0 : Int32)] [(.int (1 : Int32)), (.ref b1), (.int x0), (.long (r5 x1)), (.int (0 : Int32)), (.ref b3)])) rfl ?_
  obtain ⟨cl10, Ar10, q10, S10, M10, Hs10, G10⟩ := id V_b1
  have hin10 : ¬ ((1 : Int32) < 0 ∨ cl10.slots.size ≤ ((1 : Int32)).toNatClampNeg) := inb_of S10 ⟨(by decide), (by decide)⟩
  have hat10 : cl10.slots[((1 : Int32)).toNatClampNeg]? = some (.int ((2 : Int32) * x1)) := Hs10.at hin10 rfl
  refine Goes.st (B := T7.setTop (mkF m 50 #[iv x0, iv x1, iv (6 : Int32), rv b1, rv b3, iv (0 : Int32)] [(.int ((2 : Int32) * x1)), (.int x0), (.long (r5 x1)), (.int (0 : Int32)), (.ref b3)])) (X7.iaload hx (j := (1 : Int32)) (v := (.int ((2 : Int32) * x1))) (by rw [e7]; exact Ar10.1) (State.isArrayOf_alike hZ.alike Ar10.2.1) Ar10.2.2 hin10 hat10 (g := (mkF m 49 #[iv x0, iv x1, iv (6 : Int32), rv b1, rv b3, iv (0 : Int32)] [(.int (1 : Int32)), (.ref b1), (.int x0), (.long (r5 x1)), (.int (0 : Int32)), (.ref b3)])) rfl rfl (hb hby d8_49)) ?_
  obtain ⟨_, _, ⟨T11, L11, k11, n11⟩, -, X11, ⟨Lc11, hQ11, l11, y11, z11⟩, st11⟩ := Jvm.LawKit.callS X7 hx (y := ym5) hown (mvT hZ w_27) (mvT hZ w_28) (mvT hZ w_7) (mvT hZ w_29) (by decide) (backOf (W := 4) (rm7 l Z a0 hw [] x0 (c96_50_0 x0 x1) h3 n0 Zn3 (by first | assumption | exact p1 | exact p2)) hZ w_29 w_7 (by decide) (by decide)) (g := (mkF m 50 #[iv x0, iv x1, iv (6 : Int32), rv b1, rv b3, iv (0 : Int32)] [(.int (c96_50_0 x0 x1)), (.int x0), (.long (r5 x1)), (.int (0 : Int32)), (.ref b3)])) rfl (by rw [hml]; rfl) (argsL := [(.int x0), (.int (c96_50_0 x0 x1))]) (rest := [(.long (r5 x1)), (.int (0 : Int32)), (.ref b3)]) (lenOf pd96_2 rfl) rfl (by show 2 * 0 + _ ≤ _; exact Nat.le_of_eq rfl) (hb hby d8_50) (fun _ _ => ⟨rfl, e7, (by decide : 2 + 0 ≤ _), (by decide : 14 + 0 ≤ _)⟩)
  dsimp only [Pt.U, Pt.locs, Pt.cells, Pt.slots] at X11 l11 y11 z11 st11 hQ11
  subst l11 y11 z11
  obtain ⟨rfl, N11q, e11⟩ := hQ11
  have N11 := Fr.app N7 N11q
  refine Goes.st (B := T11.setTop (mkF m 53 #[iv x0, iv x1, iv (6 : Int32), rv b1, rv b3, iv (0 : Int32)] [(.long (r7 x0 (c96_50_0 x0 x1))), (.long (r5 x1)), (.int (0 : Int32)), (.ref b3)])) st11 ?_
  refine Goes.run X11 hx hown hci hcl hby (L := [(53, .goto 4, 3), (57, .ladd, 1)]) (by decide +kernel) rfl (g' := (mkF m 58 #[iv x0, iv x1, iv (6 : Int32), rv b1, rv b3, iv (0 : Int32)] [(.long ((r5 x1) + (r7 x0 (c96_50_0 x0 x1)))), (.int (0 : Int32)), (.ref b3)])) rfl ?_
  obtain ⟨cl12, Ar12, q12, S12, M12, Hs12, G12⟩ := id V_b3
  have hin12 : ¬ ((0 : Int32) < 0 ∨ cl12.slots.size ≤ ((0 : Int32)).toNatClampNeg) := inb_of S12 ⟨(by decide), (by decide)⟩
  obtain ⟨T12, h12, X12, e12, W12, st12⟩ := stJ X11 hx hZ e11 Ar12 (j := (0 : Int32)) hin12 (g := (mkF m 58 #[iv x0, iv x1, iv (6 : Int32), rv b1, rv b3, iv (0 : Int32)] [(.long ((r5 x1) + (r7 x0 (c96_50_0 x0 x1)))), (.int (0 : Int32)), (.ref b3)])) rfl rfl (hb hby d8_58)
  have E_b1 := E_b1.wr W12
  have V_b1 := V_b1.other W12 ne_b1_b3
  have E_b3 := E_b3.wr W12
  have Zn12 : n0 ≤ h12.size := Nat.le_trans Zn3 (Keep.of_wr W12).1
  have K12 := K3.wr W12 (Or.inr sz_b3)
  have N12 := Fr.snoc X12 N11 g_b3
  have V_b3 : Arv Z h12 b3 k3 .long (6 : Int32) [(.long ((r5 x1) + (r7 x0 (c96_50_0 x0 x1)))), (.long (0 : Int64)), (.long (0 : Int64)), (.long (0 : Int64)), (.long (0 : Int64)), (.long (0 : Int64))] (.long (0 : Int64)) := Arv.set Ar12 q12 S12 M12 Hs12 G12 rfl W12 0 rfl (Nat.le_of_ble_eq_true rfl)
  refine Goes.st (B := T12.setTop (mkF m 59 #[iv x0, iv x1, iv (6 : Int32), rv b1, rv b3, iv (0 : Int32)] [])) st12 ?_
  refine Goes.run X12 hx hown hci hcl hby (L := [(59, .iinc 5 1, 3), (62, .goto (-46), 3), (16, .iload 5, 2), (18, .aload_n 3, 1)]) (by decide +kernel) rfl (g' := (mkF m 19 #[iv x0, iv x1, iv (6 : Int32), rv b1, rv b3, iv (1 : Int32)] [(.ref b1), (.int (1 : Int32))])) rfl ?_
  obtain ⟨cl13, Ar13, q13, S13, M13, Hs13, G13⟩ := id V_b1
  refine Goes.st (B := T12.setTop (mkF m 20 #[iv x0, iv x1, iv (6 : Int32), rv b1, rv b3, iv (1 : Int32)] [(.int (6 : Int32)), (.int (1 : Int32))])) (fun t k => ?_) ?_
  · refine X12.arraylength hx (cell := cl13) (by rw [e12]; exact Ar13.1) (State.isArrayOf_alike hZ.alike Ar13.2.1) (g := (mkF m 19 #[iv x0, iv x1, iv (6 : Int32), rv b1, rv b3, iv (1 : Int32)] [(.ref b1), (.int (1 : Int32))])) rfl (rest := [(.int (1 : Int32))]) rfl (hb hby d8_19) _ ?_
    rw [len_of S13 M13]
    exact k
  have hc20_14 : (1 : Int32) < (6 : Int32) := by decide
  refine Goes.st (B := T12.setTop (mkF m 23 #[iv x0, iv x1, iv (6 : Int32), rv b1, rv b3, iv (1 : Int32)] [])) (fun t k => ?_) ?_
  · refine XS.icmpNo X12.here hx rfl (hb hby d8_20) rfl (tlt hc20_14).2.1 ?_
    exact k
  refine Goes.run X12 hx hown hci hcl hby (L := [(23, .aload 4, 2), (25, .iload 5, 2), (27, .aload_n 3, 1), (28, .iload 5, 2)]) (by decide +kernel) rfl (g' := (mkF m 30 #[iv x0, iv x1, iv (6 : Int32), rv b1, rv b3, iv (1 : Int32)] [(.int (1 : Int32)), (.ref b1), (.int (1 : Int32)), (.ref b3)])) rfl ?_
  obtain ⟨cl15, Ar15, q15, S15, M15, Hs15, G15⟩ := id V_b1
  have hin15 : ¬ ((1 : Int32) < 0 ∨ cl15.slots.size ≤ ((1 : Int32)).toNatClampNeg) := inb_of S15 ⟨(by decide), (by decide)⟩
  have hat15 : cl15.slots[((1 : Int32)).toNatClampNeg]? = some (.int ((2 : Int32) * x1)) := Hs15.at hin15 rfl
  refine Goes.st (B := T12.setTop (mkF m 31 #[iv x0, iv x1, iv (6 : Int32), rv b1, rv b3, iv (1 : Int32)] [(.int ((2 : Int32) * x1)), (.int (1 : Int32)), (.ref b3)])) (X12.iaload hx (j := (1 : Int32)) (v := (.int ((2 : Int32) * x1))) (by rw [e12]; exact Ar15.1) (State.isArrayOf_alike hZ.alike Ar15.2.1) Ar15.2.2 hin15 hat15 (g := (mkF m 30 #[iv x0, iv x1, iv (6 : Int32), rv b1, rv b3, iv (1 : Int32)] [(.int (1 : Int32)), (.ref b1), (.int (1 : Int32)), (.ref b3)])) rfl rfl (hb hby d8_30)) ?_
  obtain ⟨_, _, ⟨T16, L16, k16, n16⟩, -, X16, ⟨Lc16, hQ16, l16, y16, z16⟩, st16⟩ := Jvm.LawKit.callS X12 hx (y := ym3) hown (mvT hZ w_19) (mvT hZ w_20) (mvT hZ w_7) (mvT hZ w_21) (by decide) (backOf (W := 2) (rm5 l Z a0 hw [] (c96_50_0 x0 x1) h12 n0 Zn12 ) hZ w_21 w_7 (by decide) (by decide)) (g := (mkF m 31 #[iv x0, iv x1, iv (6 : Int32), rv b1, rv b3, iv (1 : Int32)] [(.int (c96_50_0 x0 x1)), (.int (1 : Int32)), (.ref b3)])) rfl (by rw [hml]; rfl) (argsL := [(.int (c96_50_0 x0 x1))]) (rest := [(.int (1 : Int32)), (.ref b3)]) (lenOf pd96_1 rfl) rfl (by show 2 * 0 + _ ≤ _; exact Nat.le_of_eq rfl) (hb hby d8_31) (fun _ _ => ⟨rfl, e12, (by decide : 2 + 0 ≤ _), (by decide : 14 + 0 ≤ _)⟩)
  dsimp only [Pt.U, Pt.locs, Pt.cells, Pt.slots] at X16 l16 y16 z16 st16 hQ16
  subst l16 y16 z16
  obtain ⟨rfl, N16q, e16⟩ := hQ16
  have N16 := Fr.app N12 N16q
  refine Goes.st (B := T16.setTop (mkF m 34 #[iv x0, iv x1, iv (6 : Int32), rv b1, rv b3, iv (1 : Int32)] [(.long (r5 (c96_50_0 x0 x1))), (.int (1 : Int32)), (.ref b3)])) st16 ?_
  refine Goes.run X16 hx hown hci hcl hby (L := [(34, .iload 5, 2), (36, .iconst 1, 1), (37, .iadd, 1), (38, .aload_n 3, 1)]) (by decide +kernel) rfl (g' := (mkF m 39 #[iv x0, iv x1, iv (6 : Int32), rv b1, rv b3, iv (1 : Int32)] [(.ref b1), (.int (2 : Int32)), (.long (r5 (c96_50_0 x0 x1))), (.int (1 : Int32)), (.ref b3)])) rfl ?_
  obtain ⟨cl17, Ar17, q17, S17, M17, Hs17, G17⟩ := id V_b1
  refine Goes.st (B := T16.setTop (mkF m 40 #[iv x0, iv x1, iv (6 : Int32), rv b1, rv b3, iv (1 : Int32)] [(.int (6 : Int32)), (.int (2 : Int32)), (.long (r5 (c96_50_0 x0 x1))), (.int (1 : Int32)), (.ref b3)])) (fun t k => ?_) ?_
  · refine X16.arraylength hx (cell := cl17) (by rw [e16]; exact Ar17.1) (State.isArrayOf_alike hZ.alike Ar17.2.1) (g := (mkF m 39 #[iv x0, iv x1, iv (6 : Int32), rv b1, rv b3, iv (1 : Int32)] [(.ref b1), (.int (2 : Int32)), (.long (r5 (c96_50_0 x0 x1))), (.int (1 : Int32)), (.ref b3)])) rfl (rest := [(.int (2 : Int32)), (.long (r5 (c96_50_0 x0 x1))), (.int (1 : Int32)), (.ref b3)]) rfl (hb hby d8_39) _ ?_
    rw [len_of S17 M17]
    exact k
  have hc40_18 : (2 : Int32) < (6 : Int32) := by decide
  refine Goes.st (B := T16.setTop (mkF m 43 #[iv x0, iv x1, iv (6 : Int32), rv b1, rv b3, iv (1 : Int32)] [(.long (r5 (c96_50_0 x0 x1))), (.int (1 : Int32)), (.ref b3)])) (fun t k => ?_) ?_
  · refine XS.icmpNo X16.here hx rfl (hb hby d8_40) rfl (tlt hc40_18).2.1 ?_
    exact k
  refine Goes.run X16 hx hown hci hcl hby (L := [(43, .iload_n 0, 1), (44, .aload_n 3, 1), (45, .iload 5, 2), (47, .iconst 1, 1), (48, .iadd, 1)]) (by decide +kernel) rfl (g' := (mkF m 49 #[iv x0, iv x1, iv (6 : Int32), rv b1, rv b3, iv (1 : Int32)] [(.int (2 : Int32)), (.ref b1), (.int x0), (.long (r5 (c96_50_0 x0 x1))), (.int (1 : Int32)), (.ref b3)])) rfl ?_
  obtain ⟨cl19, Ar19, q19, S19, M19, Hs19, G19⟩ := id V_b1
  have hin19 : ¬ ((2 : Int32) < 0 ∨ cl19.slots.size ≤ ((2 : Int32)).toNatClampNeg) := inb_of S19 ⟨(by decide), (by decide)⟩
  have hat19 : cl19.slots[((2 : Int32)).toNatClampNeg]? = some (.int ((2 : Int32) * ((2 : Int32) * x1))) := Hs19.at hin19 rfl
  refine Goes.st (B := T16.setTop (mkF m 50 #[iv x0, iv x1, iv (6 : Int32), rv b1, rv b3, iv (1 : Int32)] [(.int ((2 : Int32) * ((2 : Int32) * x1))), (.int x0), (.long (r5 (c96_50_0 x0 x1))), (.int (1 : Int32)), (.ref b3)])) (X16.iaload hx (j := (2 : Int32)) (v := (.int ((2 : Int32) * ((2 : Int32) * x1)))) (by rw [e16]; exact Ar19.1) (State.isArrayOf_alike hZ.alike Ar19.2.1) Ar19.2.2 hin19 hat19 (g := (mkF m 49 #[iv x0, iv x1, iv (6 : Int32), rv b1, rv b3, iv (1 : Int32)] [(.int (2 : Int32)), (.ref b1), (.int x0), (.long (r5 (c96_50_0 x0 x1))), (.int (1 : Int32)), (.ref b3)])) rfl rfl (hb hby d8_49)) ?_
  obtain ⟨_, _, ⟨T20, L20, k20, n20⟩, -, X20, ⟨Lc20, hQ20, l20, y20, z20⟩, st20⟩ := Jvm.LawKit.callS X16 hx (y := ym5) hown (mvT hZ w_27) (mvT hZ w_28) (mvT hZ w_7) (mvT hZ w_29) (by decide) (backOf (W := 4) (rm7 l Z a0 hw [] x0 (c96_50_0_a x0 x1) h12 n0 Zn12 (by first | assumption | exact p1 | exact p2)) hZ w_29 w_7 (by decide) (by decide)) (g := (mkF m 50 #[iv x0, iv x1, iv (6 : Int32), rv b1, rv b3, iv (1 : Int32)] [(.int (c96_50_0_a x0 x1)), (.int x0), (.long (r5 (c96_50_0 x0 x1))), (.int (1 : Int32)), (.ref b3)])) rfl (by rw [hml]; rfl) (argsL := [(.int x0), (.int (c96_50_0_a x0 x1))]) (rest := [(.long (r5 (c96_50_0 x0 x1))), (.int (1 : Int32)), (.ref b3)]) (lenOf pd96_2 rfl) rfl (by show 2 * 0 + _ ≤ _; exact Nat.le_of_eq rfl) (hb hby d8_50) (fun _ _ => ⟨rfl, e16, (by decide : 2 + 0 ≤ _), (by decide : 14 + 0 ≤ _)⟩)
  dsimp only [Pt.U, Pt.locs, Pt.cells, Pt.slots] at X20 l20 y20 z20 st20 hQ20
  subst l20 y20 z20
  obtain ⟨rfl, N20q, e20⟩ := hQ20
  have N20 := Fr.app N16 N20q
  refine Goes.st (B := T20.setTop (mkF m 53 #[iv x0, iv x1, iv (6 : Int32), rv b1, rv b3, iv (1 : Int32)] [(.long (r7 x0 (c96_50_0_a x0 x1))), (.long (r5 (c96_50_0 x0 x1))), (.int (1 : Int32)), (.ref b3)])) st20 ?_
  refine Goes.run X20 hx hown hci hcl hby (L := [(53, .goto 4, 3), (57, .ladd, 1)]) (by decide +kernel) rfl (g' := (mkF m 58 #[iv x0, iv x1, iv (6 : Int32), rv b1, rv b3, iv (1 : Int32)] [(.long ((r5 (c96_50_0 x0 x1)) + (r7 x0 (c96_50_0_a x0 x1)))), (.int (1 : Int32)), (.ref b3)])) rfl ?_
  obtain ⟨cl21, Ar21, q21, S21, M21, Hs21, G21⟩ := id V_b3
  have hin21 : ¬ ((1 : Int32) < 0 ∨ cl21.slots.size ≤ ((1 : Int32)).toNatClampNeg) := inb_of S21 ⟨(by decide), (by decide)⟩
  obtain ⟨T21, h21, X21, e21, W21, st21⟩ := stJ X20 hx hZ e20 Ar21 (j := (1 : Int32)) hin21 (g := (mkF m 58 #[iv x0, iv x1, iv (6 : Int32), rv b1, rv b3, iv (1 : Int32)] [(.long ((r5 (c96_50_0 x0 x1)) + (r7 x0 (c96_50_0_a x0 x1)))), (.int (1 : Int32)), (.ref b3)])) rfl rfl (hb hby d8_58)
  have E_b1 := E_b1.wr W21
  have V_b1 := V_b1.other W21 ne_b1_b3
  have E_b3 := E_b3.wr W21
  have Zn21 : n0 ≤ h21.size := Nat.le_trans Zn12 (Keep.of_wr W21).1
  have K21 := K12.wr W21 (Or.inr sz_b3)
  have N21 := Fr.snoc X21 N20 g_b3
  have V_b3 : Arv Z h21 b3 k3 .long (6 : Int32) [(.long ((r5 x1) + (r7 x0 (c96_50_0 x0 x1)))), (.long ((r5 (c96_50_0 x0 x1)) + (r7 x0 (c96_50_0_a x0 x1)))), (.long (0 : Int64)), (.long (0 : Int64)), (.long (0 : Int64)), (.long (0 : Int64))] (.long (0 : Int64)) := Arv.set Ar21 q21 S21 M21 Hs21 G21 rfl W21 1 rfl (Nat.le_of_ble_eq_true rfl)
  refine Goes.st (B := T21.setTop (mkF m 59 #[iv x0, iv x1, iv (6 : Int32), rv b1, rv b3, iv (1 : Int32)] [])) st21 ?_
  refine Goes.run X21 hx hown hci hcl hby (L := [(59, .iinc 5 1, 3), (62, .goto (-46), 3), (16, .iload 5, 2), (18, .aload_n 3, 1)]) (by decide +kernel) rfl (g' := (mkF m 19 #[iv x0, iv x1, iv (6 : Int32), rv b1, rv b3, iv (2 : Int32)] [(.ref b1), (.int (2 : Int32))])) rfl ?_
  obtain ⟨cl22, Ar22, q22, S22, M22, Hs22, G22⟩ := id V_b1
  refine Goes.st (B := T21.setTop (mkF m 20 #[iv x0, iv x1, iv (6 : Int32), rv b1, rv b3, iv (2 : Int32)] [(.int (6 : Int32)), (.int (2 : Int32))])) (fun t k => ?_) ?_
  · refine X21.arraylength hx (cell := cl22) (by rw [e21]; exact Ar22.1) (State.isArrayOf_alike hZ.alike Ar22.2.1) (g := (mkF m 19 #[iv x0, iv x1, iv (6 : Int32), rv b1, rv b3, iv (2 : Int32)] [(.ref b1), (.int (2 : Int32))])) rfl (rest := [(.int (2 : Int32))]) rfl (hb hby d8_19) _ ?_
    rw [len_of S22 M22]
    exact k
  have hc20_23 : (2 : Int32) < (6 : Int32) := by decide
  refine Goes.st (B := T21.setTop (mkF m 23 #[iv x0, iv x1, iv (6 : Int32), rv b1, rv b3, iv (2 : Int32)] [])) (fun t k => ?_) ?_
  · refine XS.icmpNo X21.here hx rfl (hb hby d8_20) rfl (tlt hc20_23).2.1 ?_
    exact k
  refine Goes.run X21 hx hown hci hcl hby (L := [(23, .aload 4, 2), (25, .iload 5, 2), (27, .aload_n 3, 1), (28, .iload 5, 2)]) (by decide +kernel) rfl (g' := (mkF m 30 #[iv x0, iv x1, iv (6 : Int32), rv b1, rv b3, iv (2 : Int32)] [(.int (2 : Int32)), (.ref b1), (.int (2 : Int32)), (.ref b3)])) rfl ?_
  obtain ⟨cl24, Ar24, q24, S24, M24, Hs24, G24⟩ := id V_b1
  have hin24 : ¬ ((2 : Int32) < 0 ∨ cl24.slots.size ≤ ((2 : Int32)).toNatClampNeg) := inb_of S24 ⟨(by decide), (by decide)⟩
  have hat24 : cl24.slots[((2 : Int32)).toNatClampNeg]? = some (.int ((2 : Int32) * ((2 : Int32) * x1))) := Hs24.at hin24 rfl
  refine Goes.st (B := T21.setTop (mkF m 31 #[iv x0, iv x1, iv (6 : Int32), rv b1, rv b3, iv (2 : Int32)] [(.int ((2 : Int32) * ((2 : Int32) * x1))), (.int (2 : Int32)), (.ref b3)])) (X21.iaload hx (j := (2 : Int32)) (v := (.int ((2 : Int32) * ((2 : Int32) * x1)))) (by rw [e21]; exact Ar24.1) (State.isArrayOf_alike hZ.alike Ar24.2.1) Ar24.2.2 hin24 hat24 (g := (mkF m 30 #[iv x0, iv x1, iv (6 : Int32), rv b1, rv b3, iv (2 : Int32)] [(.int (2 : Int32)), (.ref b1), (.int (2 : Int32)), (.ref b3)])) rfl rfl (hb hby d8_30)) ?_
  obtain ⟨_, _, ⟨T25, L25, k25, n25⟩, -, X25, ⟨Lc25, hQ25, l25, y25, z25⟩, st25⟩ := Jvm.LawKit.callS X21 hx (y := ym3) hown (mvT hZ w_19) (mvT hZ w_20) (mvT hZ w_7) (mvT hZ w_21) (by decide) (backOf (W := 2) (rm5 l Z a0 hw [] (c96_50_0_a x0 x1) h21 n0 Zn21 ) hZ w_21 w_7 (by decide) (by decide)) (g := (mkF m 31 #[iv x0, iv x1, iv (6 : Int32), rv b1, rv b3, iv (2 : Int32)] [(.int (c96_50_0_a x0 x1)), (.int (2 : Int32)), (.ref b3)])) rfl (by rw [hml]; rfl) (argsL := [(.int (c96_50_0_a x0 x1))]) (rest := [(.int (2 : Int32)), (.ref b3)]) (lenOf pd96_1 rfl) rfl (by show 2 * 0 + _ ≤ _; exact Nat.le_of_eq rfl) (hb hby d8_31) (fun _ _ => ⟨rfl, e21, (by decide : 2 + 0 ≤ _), (by decide : 14 + 0 ≤ _)⟩)
  dsimp only [Pt.U, Pt.locs, Pt.cells, Pt.slots] at X25 l25 y25 z25 st25 hQ25
  subst l25 y25 z25
  obtain ⟨rfl, N25q, e25⟩ := hQ25
  have N25 := Fr.app N21 N25q
  refine Goes.st (B := T25.setTop (mkF m 34 #[iv x0, iv x1, iv (6 : Int32), rv b1, rv b3, iv (2 : Int32)] [(.long (r5 (c96_50_0_a x0 x1))), (.int (2 : Int32)), (.ref b3)])) st25 ?_
  refine Goes.run X25 hx hown hci hcl hby (L := [(34, .iload 5, 2), (36, .iconst 1, 1), (37, .iadd, 1), (38, .aload_n 3, 1)]) (by decide +kernel) rfl (g' := (mkF m 39 #[iv x0, iv x1, iv (6 : Int32), rv b1, rv b3, iv (2 : Int32)] [(.ref b1), (.int (3 : Int32)), (.long (r5 (c96_50_0_a x0 x1))), (.int (2 : Int32)), (.ref b3)])) rfl ?_
  obtain ⟨cl26, Ar26, q26, S26, M26, Hs26, G26⟩ := id V_b1
  refine Goes.st (B := T25.setTop (mkF m 40 #[iv x0, iv x1, iv (6 : Int32), rv b1, rv b3, iv (2 : Int32)] [(.int (6 : Int32)), (.int (3 : Int32)), (.long (r5 (c96_50_0_a x0 x1))), (.int (2 : Int32)), (.ref b3)])) (fun t k => ?_) ?_
  · refine X25.arraylength hx (cell := cl26) (by rw [e25]; exact Ar26.1) (State.isArrayOf_alike hZ.alike Ar26.2.1) (g := (mkF m 39 #[iv x0, iv x1, iv (6 : Int32), rv b1, rv b3, iv (2 : Int32)] [(.ref b1), (.int (3 : Int32)), (.long (r5 (c96_50_0_a x0 x1))), (.int (2 : Int32)), (.ref b3)])) rfl (rest := [(.int (3 : Int32)), (.long (r5 (c96_50_0_a x0 x1))), (.int (2 : Int32)), (.ref b3)]) rfl (hb hby d8_39) _ ?_
    rw [len_of S26 M26]
    exact k
  have hc40_27 : (3 : Int32) < (6 : Int32) := by decide
  refine Goes.st (B := T25.setTop (mkF m 43 #[iv x0, iv x1, iv (6 : Int32), rv b1, rv b3, iv (2 : Int32)] [(.long (r5 (c96_50_0_a x0 x1))), (.int (2 : Int32)), (.ref b3)])) (fun t k => ?_) ?_
  · refine XS.icmpNo X25.here hx rfl (hb hby d8_40) rfl (tlt hc40_27).2.1 ?_
    exact k
  refine Goes.run X25 hx hown hci hcl hby (L := [(43, .iload_n 0, 1), (44, .aload_n 3, 1), (45, .iload 5, 2), (47, .iconst 1, 1), (48, .iadd, 1)]) (by decide +kernel) rfl (g' := (mkF m 49 #[iv x0, iv x1, iv (6 : Int32), rv b1, rv b3, iv (2 : Int32)] [(.int (3 : Int32)), (.ref b1), (.int x0), (.long (r5 (c96_50_0_a x0 x1))), (.int (2 : Int32)), (.ref b3)])) rfl ?_
  obtain ⟨cl28, Ar28, q28, S28, M28, Hs28, G28⟩ := id V_b1
  have hin28 : ¬ ((3 : Int32) < 0 ∨ cl28.slots.size ≤ ((3 : Int32)).toNatClampNeg) := inb_of S28 ⟨(by decide), (by decide)⟩
  have hat28 : cl28.slots[((3 : Int32)).toNatClampNeg]? = some (.int ((2 : Int32) * ((2 : Int32) * ((2 : Int32) * x1)))) := Hs28.at hin28 rfl
  refine Goes.st (B := T25.setTop (mkF m 50 #[iv x0, iv x1, iv (6 : Int32), rv b1, rv b3, iv (2 : Int32)] [(.int ((2 : Int32) * ((2 : Int32) * ((2 : Int32) * x1)))), (.int x0), (.long (r5 (c96_50_0_a x0 x1))), (.int (2 : Int32)), (.ref b3)])) (X25.iaload hx (j := (3 : Int32)) (v := (.int ((2 : Int32) * ((2 : Int32) * ((2 : Int32) * x1))))) (by rw [e25]; exact Ar28.1) (State.isArrayOf_alike hZ.alike Ar28.2.1) Ar28.2.2 hin28 hat28 (g := (mkF m 49 #[iv x0, iv x1, iv (6 : Int32), rv b1, rv b3, iv (2 : Int32)] [(.int (3 : Int32)), (.ref b1), (.int x0), (.long (r5 (c96_50_0_a x0 x1))), (.int (2 : Int32)), (.ref b3)])) rfl rfl (hb hby d8_49)) ?_
  obtain ⟨_, _, ⟨T29, L29, k29, n29⟩, -, X29, ⟨Lc29, hQ29, l29, y29, z29⟩, st29⟩ := Jvm.LawKit.callS X25 hx (y := ym5) hown (mvT hZ w_27) (mvT hZ w_28) (mvT hZ w_7) (mvT hZ w_29) (by decide) (backOf (W := 4) (rm7 l Z a0 hw [] x0 (c96_50_0_b x0 x1) h21 n0 Zn21 (by first | assumption | exact p1 | exact p2)) hZ w_29 w_7 (by decide) (by decide)) (g := (mkF m 50 #[iv x0, iv x1, iv (6 : Int32), rv b1, rv b3, iv (2 : Int32)] [(.int (c96_50_0_b x0 x1)), (.int x0), (.long (r5 (c96_50_0_a x0 x1))), (.int (2 : Int32)), (.ref b3)])) rfl (by rw [hml]; rfl) (argsL := [(.int x0), (.int (c96_50_0_b x0 x1))]) (rest := [(.long (r5 (c96_50_0_a x0 x1))), (.int (2 : Int32)), (.ref b3)]) (lenOf pd96_2 rfl) rfl (by show 2 * 0 + _ ≤ _; exact Nat.le_of_eq rfl) (hb hby d8_50) (fun _ _ => ⟨rfl, e25, (by decide : 2 + 0 ≤ _), (by decide : 14 + 0 ≤ _)⟩)
  dsimp only [Pt.U, Pt.locs, Pt.cells, Pt.slots] at X29 l29 y29 z29 st29 hQ29
  subst l29 y29 z29
  obtain ⟨rfl, N29q, e29⟩ := hQ29
  have N29 := Fr.app N25 N29q
  refine Goes.st (B := T29.setTop (mkF m 53 #[iv x0, iv x1, iv (6 : Int32), rv b1, rv b3, iv (2 : Int32)] [(.long (r7 x0 (c96_50_0_b x0 x1))), (.long (r5 (c96_50_0_a x0 x1))), (.int (2 : Int32)), (.ref b3)])) st29 ?_
  refine Goes.run X29 hx hown hci hcl hby (L := [(53, .goto 4, 3), (57, .ladd, 1)]) (by decide +kernel) rfl (g' := (mkF m 58 #[iv x0, iv x1, iv (6 : Int32), rv b1, rv b3, iv (2 : Int32)] [(.long ((r5 (c96_50_0_a x0 x1)) + (r7 x0 (c96_50_0_b x0 x1)))), (.int (2 : Int32)), (.ref b3)])) rfl ?_
  obtain ⟨cl30, Ar30, q30, S30, M30, Hs30, G30⟩ := id V_b3
  have hin30 : ¬ ((2 : Int32) < 0 ∨ cl30.slots.size ≤ ((2 : Int32)).toNatClampNeg) := inb_of S30 ⟨(by decide), (by decide)⟩
  obtain ⟨T30, h30, X30, e30, W30, st30⟩ := stJ X29 hx hZ e29 Ar30 (j := (2 : Int32)) hin30 (g := (mkF m 58 #[iv x0, iv x1, iv (6 : Int32), rv b1, rv b3, iv (2 : Int32)] [(.long ((r5 (c96_50_0_a x0 x1)) + (r7 x0 (c96_50_0_b x0 x1)))), (.int (2 : Int32)), (.ref b3)])) rfl rfl (hb hby d8_58)
  have E_b1 := E_b1.wr W30
  have V_b1 := V_b1.other W30 ne_b1_b3
  have E_b3 := E_b3.wr W30
  have Zn30 : n0 ≤ h30.size := Nat.le_trans Zn21 (Keep.of_wr W30).1
  have K30 := K21.wr W30 (Or.inr sz_b3)
  have N30 := Fr.snoc X30 N29 g_b3
  have V_b3 : Arv Z h30 b3 k3 .long (6 : Int32) [(.long ((r5 x1) + (r7 x0 (c96_50_0 x0 x1)))), (.long ((r5 (c96_50_0 x0 x1)) + (r7 x0 (c96_50_0_a x0 x1)))), (.long ((r5 (c96_50_0_a x0 x1)) + (r7 x0 (c96_50_0_b x0 x1)))), (.long (0 : Int64)), (.long (0 : Int64)), (.long (0 : Int64))] (.long (0 : Int64)) := Arv.set Ar30 q30 S30 M30 Hs30 G30 rfl W30 2 rfl (Nat.le_of_ble_eq_true rfl)
  refine Goes.st (B := T30.setTop (mkF m 59 #[iv x0, iv x1, iv (6 : Int32), rv b1, rv b3, iv (2 : Int32)] [])) st30 ?_
  refine Goes.run X30 hx hown hci hcl hby (L := [(59, .iinc 5 1, 3), (62, .goto (-46), 3), (16, .iload 5, 2), (18, .aload_n 3, 1)]) (by decide +kernel) rfl (g' := (mkF m 19 #[iv x0, iv x1, iv (6 : Int32), rv b1, rv b3, iv (3 : Int32)] [(.ref b1), (.int (3 : Int32))])) rfl ?_
  obtain ⟨cl31, Ar31, q31, S31, M31, Hs31, G31⟩ := id V_b1
  refine Goes.st (B := T30.setTop (mkF m 20 #[iv x0, iv x1, iv (6 : Int32), rv b1, rv b3, iv (3 : Int32)] [(.int (6 : Int32)), (.int (3 : Int32))])) (fun t k => ?_) ?_
  · refine X30.arraylength hx (cell := cl31) (by rw [e30]; exact Ar31.1) (State.isArrayOf_alike hZ.alike Ar31.2.1) (g := (mkF m 19 #[iv x0, iv x1, iv (6 : Int32), rv b1, rv b3, iv (3 : Int32)] [(.ref b1), (.int (3 : Int32))])) rfl (rest := [(.int (3 : Int32))]) rfl (hb hby d8_19) _ ?_
    rw [len_of S31 M31]
    exact k
  have hc20_32 : (3 : Int32) < (6 : Int32) := by decide
  refine Goes.st (B := T30.setTop (mkF m 23 #[iv x0, iv x1, iv (6 : Int32), rv b1, rv b3, iv (3 : Int32)] [])) (fun t k => ?_) ?_
  · refine XS.icmpNo X30.here hx rfl (hb hby d8_20) rfl (tlt hc20_32).2.1 ?_
    exact k
  refine Goes.run X30 hx hown hci hcl hby (L := [(23, .aload 4, 2), (25, .iload 5, 2), (27, .aload_n 3, 1), (28, .iload 5, 2)]) (by decide +kernel) rfl (g' := (mkF m 30 #[iv x0, iv x1, iv (6 : Int32), rv b1, rv b3, iv (3 : Int32)] [(.int (3 : Int32)), (.ref b1), (.int (3 : Int32)), (.ref b3)])) rfl ?_
  obtain ⟨cl33, Ar33, q33, S33, M33, Hs33, G33⟩ := id V_b1
  have hin33 : ¬ ((3 : Int32) < 0 ∨ cl33.slots.size ≤ ((3 : Int32)).toNatClampNeg) := inb_of S33 ⟨(by decide), (by decide)⟩
  have hat33 : cl33.slots[((3 : Int32)).toNatClampNeg]? = some (.int ((2 : Int32) * ((2 : Int32) * ((2 : Int32) * x1)))) := Hs33.at hin33 rfl
  refine Goes.st (B := T30.setTop (mkF m 31 #[iv x0, iv x1, iv (6 : Int32), rv b1, rv b3, iv (3 : Int32)] [(.int ((2 : Int32) * ((2 : Int32) * ((2 : Int32) * x1)))), (.int (3 : Int32)), (.ref b3)])) (X30.iaload hx (j := (3 : Int32)) (v := (.int ((2 : Int32) * ((2 : Int32) * ((2 : Int32) * x1))))) (by rw [e30]; exact Ar33.1) (State.isArrayOf_alike hZ.alike Ar33.2.1) Ar33.2.2 hin33 hat33 (g := (mkF m 30 #[iv x0, iv x1, iv (6 : Int32), rv b1, rv b3, iv (3 : Int32)] [(.int (3 : Int32)), (.ref b1), (.int (3 : Int32)), (.ref b3)])) rfl rfl (hb hby d8_30)) ?_
  obtain ⟨_, _, ⟨T34, L34, k34, n34⟩, -, X34, ⟨Lc34, hQ34, l34, y34, z34⟩, st34⟩ := Jvm.LawKit.callS X30 hx (y := ym3) hown (mvT hZ w_19) (mvT hZ w_20) (mvT hZ w_7) (mvT hZ w_21) (by decide) (backOf (W := 2) (rm5 l Z a0 hw [] (c96_50_0_b x0 x1) h30 n0 Zn30 ) hZ w_21 w_7 (by decide) (by decide)) (g := (mkF m 31 #[iv x0, iv x1, iv (6 : Int32), rv b1, rv b3, iv (3 : Int32)] [(.int (c96_50_0_b x0 x1)), (.int (3 : Int32)), (.ref b3)])) rfl (by rw [hml]; rfl) (argsL := [(.int (c96_50_0_b x0 x1))]) (rest := [(.int (3 : Int32)), (.ref b3)]) (lenOf pd96_1 rfl) rfl (by show 2 * 0 + _ ≤ _; exact Nat.le_of_eq rfl) (hb hby d8_31) (fun _ _ => ⟨rfl, e30, (by decide : 2 + 0 ≤ _), (by decide : 14 + 0 ≤ _)⟩)
  dsimp only [Pt.U, Pt.locs, Pt.cells, Pt.slots] at X34 l34 y34 z34 st34 hQ34
  subst l34 y34 z34
  obtain ⟨rfl, N34q, e34⟩ := hQ34
  have N34 := Fr.app N30 N34q
  refine Goes.st (B := T34.setTop (mkF m 34 #[iv x0, iv x1, iv (6 : Int32), rv b1, rv b3, iv (3 : Int32)] [(.long (r5 (c96_50_0_b x0 x1))), (.int (3 : Int32)), (.ref b3)])) st34 ?_
  refine Goes.run X34 hx hown hci hcl hby (L := [(34, .iload 5, 2), (36, .iconst 1, 1), (37, .iadd, 1), (38, .aload_n 3, 1)]) (by decide +kernel) rfl (g' := (mkF m 39 #[iv x0, iv x1, iv (6 : Int32), rv b1, rv b3, iv (3 : Int32)] [(.ref b1), (.int (4 : Int32)), (.long (r5 (c96_50_0_b x0 x1))), (.int (3 : Int32)), (.ref b3)])) rfl ?_
  obtain ⟨cl35, Ar35, q35, S35, M35, Hs35, G35⟩ := id V_b1
  refine Goes.st (B := T34.setTop (mkF m 40 #[iv x0, iv x1, iv (6 : Int32), rv b1, rv b3, iv (3 : Int32)] [(.int (6 : Int32)), (.int (4 : Int32)), (.long (r5 (c96_50_0_b x0 x1))), (.int (3 : Int32)), (.ref b3)])) (fun t k => ?_) ?_
  · refine X34.arraylength hx (cell := cl35) (by rw [e34]; exact Ar35.1) (State.isArrayOf_alike hZ.alike Ar35.2.1) (g := (mkF m 39 #[iv x0, iv x1, iv (6 : Int32), rv b1, rv b3, iv (3 : Int32)] [(.ref b1), (.int (4 : Int32)), (.long (r5 (c96_50_0_b x0 x1))), (.int (3 : Int32)), (.ref b3)])) rfl (rest := [(.int (4 : Int32)), (.long (r5 (c96_50_0_b x0 x1))), (.int (3 : Int32)), (.ref b3)]) rfl (hb hby d8_39) _ ?_
    rw [len_of S35 M35]
    exact k
  have hc40_36 : (4 : Int32) < (6 : Int32) := by decide
  refine Goes.st (B := T34.setTop (mkF m 43 #[iv x0, iv x1, iv (6 : Int32), rv b1, rv b3, iv (3 : Int32)] [(.long (r5 (c96_50_0_b x0 x1))), (.int (3 : Int32)), (.ref b3)])) (fun t k => ?_) ?_
  · refine XS.icmpNo X34.here hx rfl (hb hby d8_40) rfl (tlt hc40_36).2.1 ?_
    exact k
  refine Goes.run X34 hx hown hci hcl hby (L := [(43, .iload_n 0, 1), (44, .aload_n 3, 1), (45, .iload 5, 2), (47, .iconst 1, 1), (48, .iadd, 1)]) (by decide +kernel) rfl (g' := (mkF m 49 #[iv x0, iv x1, iv (6 : Int32), rv b1, rv b3, iv (3 : Int32)] [(.int (4 : Int32)), (.ref b1), (.int x0), (.long (r5 (c96_50_0_b x0 x1))), (.int (3 : Int32)), (.ref b3)])) rfl ?_
  obtain ⟨cl37, Ar37, q37, S37, M37, Hs37, G37⟩ := id V_b1
  have hin37 : ¬ ((4 : Int32) < 0 ∨ cl37.slots.size ≤ ((4 : Int32)).toNatClampNeg) := inb_of S37 ⟨(by decide), (by decide)⟩
  have hat37 : cl37.slots[((4 : Int32)).toNatClampNeg]? = some (.int ((2 : Int32) * ((2 : Int32) * ((2 : Int32) * ((2 : Int32) * x1))))) := Hs37.at hin37 rfl
  refine Goes.st (B := T34.setTop (mkF m 50 #[iv x0, iv x1, iv (6 : Int32), rv b1, rv b3, iv (3 : Int32)] [(.int ((2 : Int32) * ((2 : Int32) * ((2 : Int32) * ((2 : Int32) * x1))))), (.int x0), (.long (r5 (c96_50_0_b x0 x1))), (.int (3 : Int32)), (.ref b3)])) (X34.iaload hx (j := (4 : Int32)) (v := (.int ((2 : Int32) * ((2 : Int32) * ((2 : Int32) * ((2 : Int32) * x1)))))) (by rw [e34]; exact Ar37.1) (State.isArrayOf_alike hZ.alike Ar37.2.1) Ar37.2.2 hin37 hat37 (g := (mkF m 49 #[iv x0, iv x1, iv (6 : Int32), rv b1, rv b3, iv (3 : Int32)] [(.int (4 : Int32)), (.ref b1), (.int x0), (.long (r5 (c96_50_0_b x0 x1))), (.int (3 : Int32)), (.ref b3)])) rfl rfl (hb hby d8_49)) ?_
  obtain ⟨_, _, ⟨T38, L38, k38, n38⟩, -, X38, ⟨Lc38, hQ38, l38, y38, z38⟩, st38⟩ := Jvm.LawKit.callS X34 hx (y := ym5) hown (mvT hZ w_27) (mvT hZ w_28) (mvT hZ w_7) (mvT hZ w_29) (by decide) (backOf (W := 4) (rm7 l Z a0 hw [] x0 (c96_50_0_c x0 x1) h30 n0 Zn30 (by first | assumption | exact p1 | exact p2)) hZ w_29 w_7 (by decide) (by decide)) (g := (mkF m 50 #[iv x0, iv x1, iv (6 : Int32), rv b1, rv b3, iv (3 : Int32)] [(.int (c96_50_0_c x0 x1)), (.int x0), (.long (r5 (c96_50_0_b x0 x1))), (.int (3 : Int32)), (.ref b3)])) rfl (by rw [hml]; rfl) (argsL := [(.int x0), (.int (c96_50_0_c x0 x1))]) (rest := [(.long (r5 (c96_50_0_b x0 x1))), (.int (3 : Int32)), (.ref b3)]) (lenOf pd96_2 rfl) rfl (by show 2 * 0 + _ ≤ _; exact Nat.le_of_eq rfl) (hb hby d8_50) (fun _ _ => ⟨rfl, e34, (by decide : 2 + 0 ≤ _), (by decide : 14 + 0 ≤ _)⟩)
  dsimp only [Pt.U, Pt.locs, Pt.cells, Pt.slots] at X38 l38 y38 z38 st38 hQ38
  subst l38 y38 z38
  obtain ⟨rfl, N38q, e38⟩ := hQ38
  have N38 := Fr.app N34 N38q
  refine Goes.st (B := T38.setTop (mkF m 53 #[iv x0, iv x1, iv (6 : Int32), rv b1, rv b3, iv (3 : Int32)] [(.long (r7 x0 (c96_50_0_c x0 x1))), (.long (r5 (c96_50_0_b x0 x1))), (.int (3 : Int32)), (.ref b3)])) st38 ?_
  refine Goes.run X38 hx hown hci hcl hby (L := [(53, .goto 4, 3), (57, .ladd, 1)]) (by decide +kernel) rfl (g' := (mkF m 58 #[iv x0, iv x1, iv (6 : Int32), rv b1, rv b3, iv (3 : Int32)] [(.long ((r5 (c96_50_0_b x0 x1)) + (r7 x0 (c96_50_0_c x0 x1)))), (.int (3 : Int32)), (.ref b3)])) rfl ?_
  obtain ⟨cl39, Ar39, q39, S39, M39, Hs39, G39⟩ := id V_b3
  have hin39 : ¬ ((3 : Int32) < 0 ∨ cl39.slots.size ≤ ((3 : Int32)).toNatClampNeg) := inb_of S39 ⟨(by decide), (by decide)⟩
  obtain ⟨T39, h39, X39, e39, W39, st39⟩ := stJ X38 hx hZ e38 Ar39 (j := (3 : Int32)) hin39 (g := (mkF m 58 #[iv x0, iv x1, iv (6 : Int32), rv b1, rv b3, iv (3 : Int32)] [(.long ((r5 (c96_50_0_b x0 x1)) + (r7 x0 (c96_50_0_c x0 x1)))), (.int (3 : Int32)), (.ref b3)])) rfl rfl (hb hby d8_58)
  have E_b1 := E_b1.wr W39
  have V_b1 := V_b1.other W39 ne_b1_b3
  have E_b3 := E_b3.wr W39
  have Zn39 : n0 ≤ h39.size := Nat.le_trans Zn30 (Keep.of_wr W39).1
  have K39 := K30.wr W39 (Or.inr sz_b3)
  have N39 := Fr.snoc X39 N38 g_b3
  have V_b3 : Arv Z h39 b3 k3 .long (6 : Int32) [(.long ((r5 x1) + (r7 x0 (c96_50_0 x0 x1)))), (.long ((r5 (c96_50_0 x0 x1)) + (r7 x0 (c96_50_0_a x0 x1)))), (.long ((r5 (c96_50_0_a x0 x1)) + (r7 x0 (c96_50_0_b x0 x1)))), (.long ((r5 (c96_50_0_b x0 x1)) + (r7 x0 (c96_50_0_c x0 x1)))), (.long (0 : Int64)), (.long (0 : Int64))] (.long (0 : Int64)) := Arv.set Ar39 q39 S39 M39 Hs39 G39 rfl W39 3 rfl (Nat.le_of_ble_eq_true rfl)
  refine Goes.st (B := T39.setTop (mkF m 59 #[iv x0, iv x1, iv (6 : Int32), rv b1, rv b3, iv (3 : Int32)] [])) st39 ?_
  refine Goes.run X39 hx hown hci hcl hby (L := [(59, .iinc 5 1, 3), (62, .goto (-46), 3), (16, .iload 5, 2), (18, .aload_n 3, 1)]) (by decide +kernel) rfl (g' := (mkF m 19 #[iv x0, iv x1, iv (6 : Int32), rv b1, rv b3, iv (4 : Int32)] [(.ref b1), (.int (4 : Int32))])) rfl ?_
  obtain ⟨cl40, Ar40, q40, S40, M40, Hs40, G40⟩ := id V_b1
  refine Goes.st (B := T39.setTop (mkF m 20 #[iv x0, iv x1, iv (6 : Int32), rv b1, rv b3, iv (4 : Int32)] [(.int (6 : Int32)), (.int (4 : Int32))])) (fun t k => ?_) ?_
  · refine X39.arraylength hx (cell := cl40) (by rw [e39]; exact Ar40.1) (State.isArrayOf_alike hZ.alike Ar40.2.1) (g := (mkF m 19 #[iv x0, iv x1, iv (6 : Int32), rv b1, rv b3, iv (4 : Int32)] [(.ref b1), (.int (4 : Int32))])) rfl (rest := [(.int (4 : Int32))]) rfl (hb hby d8_19) _ ?_
    rw [len_of S40 M40]
    exact k
  have hc20_41 : (4 : Int32) < (6 : Int32) := by decide
  refine Goes.st (B := T39.setTop (mkF m 23 #[iv x0, iv x1, iv (6 : Int32), rv b1, rv b3, iv (4 : Int32)] [])) (fun t k => ?_) ?_
  · refine XS.icmpNo X39.here hx rfl (hb hby d8_20) rfl (tlt hc20_41).2.1 ?_
    exact k
  refine Goes.run X39 hx hown hci hcl hby (L := [(23, .aload 4, 2), (25, .iload 5, 2), (27, .aload_n 3, 1), (28, .iload 5, 2)]) (by decide +kernel) rfl (g' := (mkF m 30 #[iv x0, iv x1, iv (6 : Int32), rv b1, rv b3, iv (4 : Int32)] [(.int (4 : Int32)), (.ref b1), (.int (4 : Int32)), (.ref b3)])) rfl ?_
  obtain ⟨cl42, Ar42, q42, S42, M42, Hs42, G42⟩ := id V_b1
  have hin42 : ¬ ((4 : Int32) < 0 ∨ cl42.slots.size ≤ ((4 : Int32)).toNatClampNeg) := inb_of S42 ⟨(by decide), (by decide)⟩
  have hat42 : cl42.slots[((4 : Int32)).toNatClampNeg]? = some (.int ((2 : Int32) * ((2 : Int32) * ((2 : Int32) * ((2 : Int32) * x1))))) := Hs42.at hin42 rfl
  refine Goes.st (B := T39.setTop (mkF m 31 #[iv x0, iv x1, iv (6 : Int32), rv b1, rv b3, iv (4 : Int32)] [(.int ((2 : Int32) * ((2 : Int32) * ((2 : Int32) * ((2 : Int32) * x1))))), (.int (4 : Int32)), (.ref b3)])) (X39.iaload hx (j := (4 : Int32)) (v := (.int ((2 : Int32) * ((2 : Int32) * ((2 : Int32) * ((2 : Int32) * x1)))))) (by rw [e39]; exact Ar42.1) (State.isArrayOf_alike hZ.alike Ar42.2.1) Ar42.2.2 hin42 hat42 (g := (mkF m 30 #[iv x0, iv x1, iv (6 : Int32), rv b1, rv b3, iv (4 : Int32)] [(.int (4 : Int32)), (.ref b1), (.int (4 : Int32)), (.ref b3)])) rfl rfl (hb hby d8_30)) ?_
  obtain ⟨_, _, ⟨T43, L43, k43, n43⟩, -, X43, ⟨Lc43, hQ43, l43, y43, z43⟩, st43⟩ := Jvm.LawKit.callS X39 hx (y := ym3) hown (mvT hZ w_19) (mvT hZ w_20) (mvT hZ w_7) (mvT hZ w_21) (by decide) (backOf (W := 2) (rm5 l Z a0 hw [] (c96_50_0_c x0 x1) h39 n0 Zn39 ) hZ w_21 w_7 (by decide) (by decide)) (g := (mkF m 31 #[iv x0, iv x1, iv (6 : Int32), rv b1, rv b3, iv (4 : Int32)] [(.int (c96_50_0_c x0 x1)), (.int (4 : Int32)), (.ref b3)])) rfl (by rw [hml]; rfl) (argsL := [(.int (c96_50_0_c x0 x1))]) (rest := [(.int (4 : Int32)), (.ref b3)]) (lenOf pd96_1 rfl) rfl (by show 2 * 0 + _ ≤ _; exact Nat.le_of_eq rfl) (hb hby d8_31) (fun _ _ => ⟨rfl, e39, (by decide : 2 + 0 ≤ _), (by decide : 14 + 0 ≤ _)⟩)
  dsimp only [Pt.U, Pt.locs, Pt.cells, Pt.slots] at X43 l43 y43 z43 st43 hQ43
  subst l43 y43 z43
  obtain ⟨rfl, N43q, e43⟩ := hQ43
  have N43 := Fr.app N39 N43q
  refine Goes.st (B := T43.setTop (mkF m 34 #[iv x0, iv x1, iv (6 : Int32), rv b1, rv b3, iv (4 : Int32)] [(.long (r5 (c96_50_0_c x0 x1))), (.int (4 : Int32)), (.ref b3)])) st43 ?_
  refine Goes.run X43 hx hown hci hcl hby (L := [(34, .iload 5, 2), (36, .iconst 1, 1), (37, .iadd, 1), (38, .aload_n 3, 1)]) (by decide +kernel) rfl (g' := (mkF m 39 #[iv x0, iv x1, iv (6 : Int32), rv b1, rv b3, iv (4 : Int32)] [(.ref b1), (.int (5 : Int32)), (.long (r5 (c96_50_0_c x0 x1))), (.int (4 : Int32)), (.ref b3)])) rfl ?_
  obtain ⟨cl44, Ar44, q44, S44, M44, Hs44, G44⟩ := id V_b1
  refine Goes.st (B := T43.setTop (mkF m 40 #[iv x0, iv x1, iv (6 : Int32), rv b1, rv b3, iv (4 : Int32)] [(.int (6 : Int32)), (.int (5 : Int32)), (.long (r5 (c96_50_0_c x0 x1))), (.int (4 : Int32)), (.ref b3)])) (fun t k => ?_) ?_
  · refine X43.arraylength hx (cell := cl44) (by rw [e43]; exact Ar44.1) (State.isArrayOf_alike hZ.alike Ar44.2.1) (g := (mkF m 39 #[iv x0, iv x1, iv (6 : Int32), rv b1, rv b3, iv (4 : Int32)] [(.ref b1), (.int (5 : Int32)), (.long (r5 (c96_50_0_c x0 x1))), (.int (4 : Int32)), (.ref b3)])) rfl (rest := [(.int (5 : Int32)), (.long (r5 (c96_50_0_c x0 x1))), (.int (4 : Int32)), (.ref b3)]) rfl (hb hby d8_39) _ ?_
    rw [len_of S44 M44]
    exact k
  have hc40_45 : (5 : Int32) < (6 : Int32) := by decide
  refine Goes.st (B := T43.setTop (mkF m 43 #[iv x0, iv x1, iv (6 : Int32), rv b1, rv b3, iv (4 : Int32)] [(.long (r5 (c96_50_0_c x0 x1))), (.int (4 : Int32)), (.ref b3)])) (fun t k => ?_) ?_
  · refine XS.icmpNo X43.here hx rfl (hb hby d8_40) rfl (tlt hc40_45).2.1 ?_
    exact k
  refine Goes.run X43 hx hown hci hcl hby (L := [(43, .iload_n 0, 1), (44, .aload_n 3, 1), (45, .iload 5, 2), (47, .iconst 1, 1), (48, .iadd, 1)]) (by decide +kernel) rfl (g' := (mkF m 49 #[iv x0, iv x1, iv (6 : Int32), rv b1, rv b3, iv (4 : Int32)] [(.int (5 : Int32)), (.ref b1), (.int x0), (.long (r5 (c96_50_0_c x0 x1))), (.int (4 : Int32)), (.ref b3)])) rfl ?_
  obtain ⟨cl46, Ar46, q46, S46, M46, Hs46, G46⟩ := id V_b1
  have hin46 : ¬ ((5 : Int32) < 0 ∨ cl46.slots.size ≤ ((5 : Int32)).toNatClampNeg) := inb_of S46 ⟨(by decide), (by decide)⟩
  have hat46 : cl46.slots[((5 : Int32)).toNatClampNeg]? = some (.int x0) := Hs46.at hin46 rfl
  refine Goes.st (B := T43.setTop (mkF m 50 #[iv x0, iv x1, iv (6 : Int32), rv b1, rv b3, iv (4 : Int32)] [(.int x0), (.int x0), (.long (r5 (c96_50_0_c x0 x1))), (.int (4 : Int32)), (.ref b3)])) (X43.iaload hx (j := (5 : Int32)) (v := (.int x0)) (by rw [e43]; exact Ar46.1) (State.isArrayOf_alike hZ.alike Ar46.2.1) Ar46.2.2 hin46 hat46 (g := (mkF m 49 #[iv x0, iv x1, iv (6 : Int32), rv b1, rv b3, iv (4 : Int32)] [(.int (5 : Int32)), (.ref b1), (.int x0), (.long (r5 (c96_50_0_c x0 x1))), (.int (4 : Int32)), (.ref b3)])) rfl rfl (hb hby d8_49)) ?_
  obtain ⟨_, _, ⟨T47, L47, k47, n47⟩, -, X47, ⟨Lc47, hQ47, l47, y47, z47⟩, st47⟩ := Jvm.LawKit.callS X43 hx (y := ym5) hown (mvT hZ w_27) (mvT hZ w_28) (mvT hZ w_7) (mvT hZ w_29) (by decide) (backOf (W := 4) (rm7 l Z a0 hw [] x0 x0 h39 n0 Zn39 (by first | assumption | exact p1 | exact p2)) hZ w_29 w_7 (by decide) (by decide)) (g := (mkF m 50 #[iv x0, iv x1, iv (6 : Int32), rv b1, rv b3, iv (4 : Int32)] [(.int x0), (.int x0), (.long (r5 (c96_50_0_c x0 x1))), (.int (4 : Int32)), (.ref b3)])) rfl (by rw [hml]; rfl) (argsL := [(.int x0), (.int x0)]) (rest := [(.long (r5 (c96_50_0_c x0 x1))), (.int (4 : Int32)), (.ref b3)]) (lenOf pd96_2 rfl) rfl (by show 2 * 0 + _ ≤ _; exact Nat.le_of_eq rfl) (hb hby d8_50) (fun _ _ => ⟨rfl, e43, (by decide : 2 + 0 ≤ _), (by decide : 14 + 0 ≤ _)⟩)
  dsimp only [Pt.U, Pt.locs, Pt.cells, Pt.slots] at X47 l47 y47 z47 st47 hQ47
  subst l47 y47 z47
  obtain ⟨rfl, N47q, e47⟩ := hQ47
  have N47 := Fr.app N43 N47q
  refine Goes.st (B := T47.setTop (mkF m 53 #[iv x0, iv x1, iv (6 : Int32), rv b1, rv b3, iv (4 : Int32)] [(.long (r7 x0 x0)), (.long (r5 (c96_50_0_c x0 x1))), (.int (4 : Int32)), (.ref b3)])) st47 ?_
  refine Goes.run X47 hx hown hci hcl hby (L := [(53, .goto 4, 3), (57, .ladd, 1)]) (by decide +kernel) rfl (g' := (mkF m 58 #[iv x0, iv x1, iv (6 : Int32), rv b1, rv b3, iv (4 : Int32)] [(.long ((r5 (c96_50_0_c x0 x1)) + (r7 x0 x0))), (.int (4 : Int32)), (.ref b3)])) rfl ?_
  obtain ⟨cl48, Ar48, q48, S48, M48, Hs48, G48⟩ := id V_b3
  have hin48 : ¬ ((4 : Int32) < 0 ∨ cl48.slots.size ≤ ((4 : Int32)).toNatClampNeg) := inb_of S48 ⟨(by decide), (by decide)⟩
  obtain ⟨T48, h48, X48, e48, W48, st48⟩ := stJ X47 hx hZ e47 Ar48 (j := (4 : Int32)) hin48 (g := (mkF m 58 #[iv x0, iv x1, iv (6 : Int32), rv b1, rv b3, iv (4 : Int32)] [(.long ((r5 (c96_50_0_c x0 x1)) + (r7 x0 x0))), (.int (4 : Int32)), (.ref b3)])) rfl rfl (hb hby d8_58)
  have E_b1 := E_b1.wr W48
  have V_b1 := V_b1.other W48 ne_b1_b3
  have E_b3 := E_b3.wr W48
  have Zn48 : n0 ≤ h48.size := Nat.le_trans Zn39 (Keep.of_wr W48).1
  have K48 := K39.wr W48 (Or.inr sz_b3)
  have N48 := Fr.snoc X48 N47 g_b3
  have V_b3 : Arv Z h48 b3 k3 .long (6 : Int32) [(.long ((r5 x1) + (r7 x0 (c96_50_0 x0 x1)))), (.long ((r5 (c96_50_0 x0 x1)) + (r7 x0 (c96_50_0_a x0 x1)))), (.long ((r5 (c96_50_0_a x0 x1)) + (r7 x0 (c96_50_0_b x0 x1)))), (.long ((r5 (c96_50_0_b x0 x1)) + (r7 x0 (c96_50_0_c x0 x1)))), (.long ((r5 (c96_50_0_c x0 x1)) + (r7 x0 x0))), (.long (0 : Int64))] (.long (0 : Int64)) := Arv.set Ar48 q48 S48 M48 Hs48 G48 rfl W48 4 rfl (Nat.le_of_ble_eq_true rfl)
  refine Goes.st (B := T48.setTop (mkF m 59 #[iv x0, iv x1, iv (6 : Int32), rv b1, rv b3, iv (4 : Int32)] [])) st48 ?_
  refine Goes.run X48 hx hown hci hcl hby (L := [(59, .iinc 5 1, 3), (62, .goto (-46), 3), (16, .iload 5, 2), (18, .aload_n 3, 1)]) (by decide +kernel) rfl (g' := (mkF m 19 #[iv x0, iv x1, iv (6 : Int32), rv b1, rv b3, iv (5 : Int32)] [(.ref b1), (.int (5 : Int32))])) rfl ?_
  obtain ⟨cl49, Ar49, q49, S49, M49, Hs49, G49⟩ := id V_b1
  refine Goes.st (B := T48.setTop (mkF m 20 #[iv x0, iv x1, iv (6 : Int32), rv b1, rv b3, iv (5 : Int32)] [(.int (6 : Int32)), (.int (5 : Int32))])) (fun t k => ?_) ?_
  · refine X48.arraylength hx (cell := cl49) (by rw [e48]; exact Ar49.1) (State.isArrayOf_alike hZ.alike Ar49.2.1) (g := (mkF m 19 #[iv x0, iv x1, iv (6 : Int32), rv b1, rv b3, iv (5 : Int32)] [(.ref b1), (.int (5 : Int32))])) rfl (rest := [(.int (5 : Int32))]) rfl (hb hby d8_19) _ ?_
    rw [len_of S49 M49]
    exact k
  have hc20_50 : (5 : Int32) < (6 : Int32) := by decide
  refine Goes.st (B := T48.setTop (mkF m 23 #[iv x0, iv x1, iv (6 : Int32), rv b1, rv b3, iv (5 : Int32)] [])) (fun t k => ?_) ?_
  · refine XS.icmpNo X48.here hx rfl (hb hby d8_20) rfl (tlt hc20_50).2.1 ?_
    exact k
  refine Goes.run X48 hx hown hci hcl hby (L := [(23, .aload 4, 2), (25, .iload 5, 2), (27, .aload_n 3, 1), (28, .iload 5, 2)]) (by decide +kernel) rfl (g' := (mkF m 30 #[iv x0, iv x1, iv (6 : Int32), rv b1, rv b3, iv (5 : Int32)] [(.int (5 : Int32)), (.ref b1), (.int (5 : Int32)), (.ref b3)])) rfl ?_
  obtain ⟨cl51, Ar51, q51, S51, M51, Hs51, G51⟩ := id V_b1
  have hin51 : ¬ ((5 : Int32) < 0 ∨ cl51.slots.size ≤ ((5 : Int32)).toNatClampNeg) := inb_of S51 ⟨(by decide), (by decide)⟩
  have hat51 : cl51.slots[((5 : Int32)).toNatClampNeg]? = some (.int x0) := Hs51.at hin51 rfl
  refine Goes.st (B := T48.setTop (mkF m 31 #[iv x0, iv x1, iv (6 : Int32), rv b1, rv b3, iv (5 : Int32)] [(.int x0), (.int (5 : Int32)), (.ref b3)])) (X48.iaload hx (j := (5 : Int32)) (v := (.int x0)) (by rw [e48]; exact Ar51.1) (State.isArrayOf_alike hZ.alike Ar51.2.1) Ar51.2.2 hin51 hat51 (g := (mkF m 30 #[iv x0, iv x1, iv (6 : Int32), rv b1, rv b3, iv (5 : Int32)] [(.int (5 : Int32)), (.ref b1), (.int (5 : Int32)), (.ref b3)])) rfl rfl (hb hby d8_30)) ?_
  obtain ⟨_, _, ⟨T52, L52, k52, n52⟩, -, X52, ⟨Lc52, hQ52, l52, y52, z52⟩, st52⟩ := Jvm.LawKit.callS X48 hx (y := ym3) hown (mvT hZ w_19) (mvT hZ w_20) (mvT hZ w_7) (mvT hZ w_21) (by decide) (backOf (W := 2) (rm5 l Z a0 hw [] x0 h48 n0 Zn48 ) hZ w_21 w_7 (by decide) (by decide)) (g := (mkF m 31 #[iv x0, iv x1, iv (6 : Int32), rv b1, rv b3, iv (5 : Int32)] [(.int x0), (.int (5 : Int32)), (.ref b3)])) rfl (by rw [hml]; rfl) (argsL := [(.int x0)]) (rest := [(.int (5 : Int32)), (.ref b3)]) (lenOf pd96_1 rfl) rfl (by show 2 * 0 + _ ≤ _; exact Nat.le_of_eq rfl) (hb hby d8_31) (fun _ _ => ⟨rfl, e48, (by decide : 2 + 0 ≤ _), (by decide : 14 + 0 ≤ _)⟩)
  dsimp only [Pt.U, Pt.locs, Pt.cells, Pt.slots] at X52 l52 y52 z52 st52 hQ52
  subst l52 y52 z52
  obtain ⟨rfl, N52q, e52⟩ := hQ52
  have N52 := Fr.app N48 N52q
  refine Goes.st (B := T52.setTop (mkF m 34 #[iv x0, iv x1, iv (6 : Int32), rv b1, rv b3, iv (5 : Int32)] [(.long (r5 x0)), (.int (5 : Int32)), (.ref b3)])) st52 ?_
  refine Goes.run X52 hx hown hci hcl hby (L := [(34, .iload 5, 2), (36, .iconst 1, 1), (37, .iadd, 1), (38, .aload_n 3, 1)]) (by decide +kernel) rfl (g' := (mkF m 39 #[iv x0, iv x1, iv (6 : Int32), rv b1, rv b3, iv (5 : Int32)] [(.ref b1), (.int (6 : Int32)), (.long (r5 x0)), (.int (5 : Int32)), (.ref b3)])) rfl ?_
  obtain ⟨cl53, Ar53, q53, S53, M53, Hs53, G53⟩ := id V_b1
  refine Goes.st (B := T52.setTop (mkF m 40 #[iv x0, iv x1, iv (6 : Int32), rv b1, rv b3, iv (5 : Int32)] [(.int (6 : Int32)), (.int (6 : Int32)), (.long (r5 x0)), (.int (5 : Int32)), (.ref b3)])) (fun t k => ?_) ?_
  · refine X52.arraylength hx (cell := cl53) (by rw [e52]; exact Ar53.1) (State.isArrayOf_alike hZ.alike Ar53.2.1) (g := (mkF m 39 #[iv x0, iv x1, iv (6 : Int32), rv b1, rv b3, iv (5 : Int32)] [(.ref b1), (.int (6 : Int32)), (.long (r5 x0)), (.int (5 : Int32)), (.ref b3)])) rfl (rest := [(.int (6 : Int32)), (.long (r5 x0)), (.int (5 : Int32)), (.ref b3)]) rfl (hb hby d8_39) _ ?_
    rw [len_of S53 M53]
    exact k
  have hc40_54 : ¬ ((6 : Int32) < (6 : Int32)) := Int32.lt_irrefl
  refine Goes.st (B := T52.setTop (mkF m 56 #[iv x0, iv x1, iv (6 : Int32), rv b1, rv b3, iv (5 : Int32)] [(.long (r5 x0)), (.int (5 : Int32)), (.ref b3)])) (fun t k => ?_) ?_
  · refine XS.icmpYes X52.here hx rfl (pc0 := 40) (pc' := 56) rfl (hb hby d8_40) rfl (flt hc40_54).2.1 (by decide) (by decide) ?_
    exact k
  refine Goes.run X52 hx hown hci hcl hby (L := [(56, .lconst 0, 1), (57, .ladd, 1)]) (by decide +kernel) rfl (g' := (mkF m 58 #[iv x0, iv x1, iv (6 : Int32), rv b1, rv b3, iv (5 : Int32)] [(.long ((r5 x0) + (0 : Int64))), (.int (5 : Int32)), (.ref b3)])) rfl ?_
  obtain ⟨cl55, Ar55, q55, S55, M55, Hs55, G55⟩ := id V_b3
  have hin55 : ¬ ((5 : Int32) < 0 ∨ cl55.slots.size ≤ ((5 : Int32)).toNatClampNeg) := inb_of S55 ⟨(by decide), (by decide)⟩
  obtain ⟨T55, h55, X55, e55, W55, st55⟩ := stJ X52 hx hZ e52 Ar55 (j := (5 : Int32)) hin55 (g := (mkF m 58 #[iv x0, iv x1, iv (6 : Int32), rv b1, rv b3, iv (5 : Int32)] [(.long ((r5 x0) + (0 : Int64))), (.int (5 : Int32)), (.ref b3)])) rfl rfl (hb hby d8_58)
  have E_b1 := E_b1.wr W55
  have V_b1 := V_b1.other W55 ne_b1_b3
  have E_b3 := E_b3.wr W55
  have Zn55 : n0 ≤ h55.size := Nat.le_trans Zn48 (Keep.of_wr W55).1
  have K55 := K48.wr W55 (Or.inr sz_b3)
  have N55 := Fr.snoc X55 N52 g_b3
  have V_b3 : Arv Z h55 b3 k3 .long (6 : Int32) [(.long ((r5 x1) + (r7 x0 (c96_50_0 x0 x1)))), (.long ((r5 (c96_50_0 x0 x1)) + (r7 x0 (c96_50_0_a x0 x1)))), (.long ((r5 (c96_50_0_a x0 x1)) + (r7 x0 (c96_50_0_b x0 x1)))), (.long ((r5 (c96_50_0_b x0 x1)) + (r7 x0 (c96_50_0_c x0 x1)))), (.long ((r5 (c96_50_0_c x0 x1)) + (r7 x0 x0))), (.long ((r5 x0) + (0 : Int64)))] (.long (0 : Int64)) := Arv.set Ar55 q55 S55 M55 Hs55 G55 rfl W55 5 rfl (Nat.le_of_ble_eq_true rfl)
  refine Goes.st (B := T55.setTop (mkF m 59 #[iv x0, iv x1, iv (6 : Int32), rv b1, rv b3, iv (5 : Int32)] [])) st55 ?_
  refine Goes.run X55 hx hown hci hcl hby (L := [(59, .iinc 5 1, 3), (62, .goto (-46), 3), (16, .iload 5, 2), (18, .aload_n 3, 1)]) (by decide +kernel) rfl (g' := (mkF m 19 #[iv x0, iv x1, iv (6 : Int32), rv b1, rv b3, iv (6 : Int32)] [(.ref b1), (.int (6 : Int32))])) rfl ?_
  obtain ⟨cl56, Ar56, q56, S56, M56, Hs56, G56⟩ := id V_b1
  refine Goes.st (B := T55.setTop (mkF m 20 #[iv x0, iv x1, iv (6 : Int32), rv b1, rv b3, iv (6 : Int32)] [(.int (6 : Int32)), (.int (6 : Int32))])) (fun t k => ?_) ?_
  · refine X55.arraylength hx (cell := cl56) (by rw [e55]; exact Ar56.1) (State.isArrayOf_alike hZ.alike Ar56.2.1) (g := (mkF m 19 #[iv x0, iv x1, iv (6 : Int32), rv b1, rv b3, iv (6 : Int32)] [(.ref b1), (.int (6 : Int32))])) rfl (rest := [(.int (6 : Int32))]) rfl (hb hby d8_19) _ ?_
    rw [len_of S56 M56]
    exact k
  have hc20_57 : ¬ ((6 : Int32) < (6 : Int32)) := Int32.lt_irrefl
  refine Goes.st (B := T55.setTop (mkF m 65 #[iv x0, iv x1, iv (6 : Int32), rv b1, rv b3, iv (6 : Int32)] [])) (fun t k => ?_) ?_
  · refine XS.icmpYes X55.here hx rfl (pc0 := 20) (pc' := 65) rfl (hb hby d8_20) rfl (flt hc20_57).2.1 (by decide) (by decide) ?_
    exact k
  refine Goes.run X55 hx hown hci hcl hby (L := [(65, .aload 4, 2)]) (by decide +kernel) rfl (g' := (mkF m 67 #[iv x0, iv x1, iv (6 : Int32), rv b1, rv b3, iv (6 : Int32)] [(.ref b3)])) rfl ?_
  refine Goes.retR X55 hx hlk Bd.returns rfl rfl (hb hby d8_67) ?_ (by decide) (by decide)
  show (Q96 Z x0 x1 h0 n0) _ _ _
  rw [e55]
  exact ⟨b3, k3, rfl, N55, K55, sz_b3, E_b3, V_b3⟩
theorem pn87 : plainName "com/example/eriu/eriu/algorithm/GroupElection" = true := by first | (simp [plainName, overriddenIn]; done) | decide +kernel
theorem pd87_0 : parseMethodDescriptor "(I)I" = some ⟨[.int], some .int⟩ := by decide +kernel
theorem ef87 (m : MethodId) (x0 : Int32) (x1 : Int32) : entryFrame m #[(.int x0), (.int x1), (.int (7 : Int32))] 5 = (mkF m 0 #[iv x0, iv x1, iv (7 : Int32), .unset, .unset] []) := by first | (simp [entryFrame, mkF, argsToLocals, Value.category]; done) | rfl
def Q87 (Z : State) (x0 : Int32) (x1 : Int32) (h0 : Heap) (n0 : Nat) (v : Option Value) (h : Heap) (L : List Loc) : Prop := ∃ (b : Addr) (k : ClassId), v = some (.ref b) ∧ Fr n0 L ∧ Keep h0 h [] ∧ h0.size ≤ b ∧ Exa Z h b "[I" ∧ Arv Z h b k .int (7 : Int32) [(.int x1), (.int ((2 : Int32) * x1)), (.int ((2 : Int32) * ((2 : Int32) * x1))), (.int ((2 : Int32) * ((2 : Int32) * ((2 : Int32) * x1)))), (.int ((2 : Int32) * ((2 : Int32) * ((2 : Int32) * ((2 : Int32) * x1))))), (.int ((2 : Int32) * ((2 : Int32) * ((2 : Int32) * ((2 : Int32) * ((2 : Int32) * x1)))))), (.int x0)] (.int (0 : Int32))
set_option maxRecDepth 65536 in
set_option maxHeartbeats 40000000 in
theorem rm87 (l : Launch) (Z : State) (a0 : Array Value) (hw : ∀ d ∈ tables_1, d.before a0 Z = true) (ws : List Jvm.Cond) (x0 : Int32) (x1 : Int32) (h0 : Heap) (n0 : Nat) (Z0 : n0 ≤ h0.size) (p1 : ¬ (x0 < (1 : Int32))) (p2 : ¬ (x1 < (1 : Int32))) (p4 : (5 : Int32) < (r3 x1)) :
    MetFree l ym6 (head1 (Jvm.Cond.code ym6 prog_4_method_19_code 5 (some (.array .int)) :: ws) ({ frames := 1, cells := 1, slots := 8, locals := 14 } : Room)) (fun a U => a = #[(.int x0), (.int x1), (.int (7 : Int32))] ∧ Z.Warmed39 U.vm ∧ U.heap = h0) (fun _ _ _ _ _ => True) (fun _ U o U' => ∃ v L, o = .returned v ∧ (Q87 Z x0 x1 h0 n0) v U'.heap L ∧ FrameEnd U o U' L ({ frames := 1, cells := 1, slots := 8, locals := 14 } : Room).cells ({ frames := 1, cells := 1, slots := 8, locals := 14 } : Room).slots) := by
  refine MetFree.of_bodySF (plainFor_of_name pn87) hisR ?_
  intro p e s m args below meth c s₁ Bd hml0 hP hK
  obtain ⟨rfl, hZ, hh⟩ := hP
  have hx := Bd.exec
  have hby := Bd.bytes
  have hml : c.maxLocals = 5 := hml0
  have hlk : meth.locks = false := BodyLoose.notSynchronized Bd
  have hown : s.vm.findClass "com/example/eriu/eriu/algorithm/GroupElection" = some m.cls := findClass_of_methodNamed Bd.named
  have hnm := (name_of_methodNamed Bd.named Bd.method).1
  have w_12 := hw _ (List.mem_of_getElem? (i := 12) rfl)
  have w_13 := hw _ (List.mem_of_getElem? (i := 13) rfl)
  have w_14 := hw _ (List.mem_of_getElem? (i := 14) rfl)
  have w_15 := hw _ (List.mem_of_getElem? (i := 15) rfl)
  have w_17 := hw _ (List.mem_of_getElem? (i := 17) rfl)
  have w_22 := hw _ (List.mem_of_getElem? (i := 22) rfl)
  have w_26 := hw _ (List.mem_of_getElem? (i := 26) rfl)
  have hci : ∀ i v, (i, v) ∈ ([] : List (Nat × Int32)) → (Jvm.Cond.constant "com/example/eriu/eriu/algorithm/GroupElection" i v).before #[(.int x0), (.int x1), (.int (7 : Int32))] s = true := own_ci0
  have hcl : ∀ i v, (i, v) ∈ ([(215, 2), (236, 3)] : List (Nat × Int64)) → (Jvm.Cond.constantLong "com/example/eriu/eriu/algorithm/GroupElection" i v).before #[(.int x0), (.int x1), (.int (7 : Int32))] s = true := (own_ciS (mvT hZ w_22) (own_ciS (mvT hZ w_26) own_ci0))
  have X0 : Stand p l e ({ frames := 1, cells := 1, slots := 8, locals := 14 } : Room) s m #[(.int x0), (.int x1), (.int (7 : Int32))] below meth c s₁ [] 0 0 := Stand.of_body Bd
  have e0 : s₁.heap = h0 := by rw [← hh, Bd.state]; rfl
  have N0 := Fr.nil n0
  show Goes p e below s (Q87 Z x0 x1 h0 n0) ({ frames := 1, cells := 1, slots := 8, locals := 14 } : Room).cells ({ frames := 1, cells := 1, slots := 8, locals := 14 } : Room).slots (s₁.setTop (entryFrame m #[(.int x0), (.int x1), (.int (7 : Int32))] 5))
  refine Goes.cast (ef87 m x0 x1) ?_
  have K0 : Keep h0 h0 [] := Keep.refl h0 _
  refine Goes.run X0 hx hown hci hcl hby (L := [(0, .iload_n 0, 1), (1, .iconst 1, 1)]) (by decide +kernel) rfl (g' := (mkF m 2 #[iv x0, iv x1, iv (7 : Int32), .unset, .unset] [(.int (1 : Int32)), (.int x0)])) rfl ?_
  have hc2_1 : ¬ (x0 < (1 : Int32)) := p1
  refine Goes.st (B := s₁.setTop (mkF m 5 #[iv x0, iv x1, iv (7 : Int32), .unset, .unset] [])) (fun t k => ?_) ?_
  · refine XS.icmpNo X0.here hx rfl (hb hby d7_2) rfl (flt hc2_1).1 ?_
    exact k
  refine Goes.run X0 hx hown hci hcl hby (L := [(5, .iload_n 1, 1), (6, .iconst 1, 1)]) (by decide +kernel) rfl (g' := (mkF m 7 #[iv x0, iv x1, iv (7 : Int32), .unset, .unset] [(.int (1 : Int32)), (.int x1)])) rfl ?_
  have hc7_2 : ¬ (x1 < (1 : Int32)) := p2
  refine Goes.st (B := s₁.setTop (mkF m 10 #[iv x0, iv x1, iv (7 : Int32), .unset, .unset] [])) (fun t k => ?_) ?_
  · refine XS.icmpNo X0.here hx rfl (hb hby d7_7) rfl (flt hc7_2).1 ?_
    exact k
  refine Goes.run X0 hx hown hci hcl hby (L := [(10, .iload_n 2, 1), (11, .iconst 1, 1)]) (by decide +kernel) rfl (g' := (mkF m 12 #[iv x0, iv x1, iv (7 : Int32), .unset, .unset] [(.int (1 : Int32)), (.int (7 : Int32))])) rfl ?_
  have hc12_3 : ¬ ((7 : Int32) < (1 : Int32)) := by decide
  refine Goes.st (B := s₁.setTop (mkF m 31 #[iv x0, iv x1, iv (7 : Int32), .unset, .unset] [])) (fun t k => ?_) ?_
  · refine XS.icmpYes X0.here hx rfl (pc0 := 12) (pc' := 31) rfl (hb hby d7_12) rfl (flt hc12_3).2.1 (by decide) (by decide) ?_
    exact k
  refine Goes.run X0 hx hown hci hcl hby (L := [(31, .iload_n 2, 1), (32, .iconst 2, 1), (33, .isub, 1), (34, .iload_n 1, 1)]) (by decide +kernel) rfl (g' := (mkF m 35 #[iv x0, iv x1, iv (7 : Int32), .unset, .unset] [(.int x1), (.int (5 : Int32))])) rfl ?_
  obtain ⟨_, _, ⟨T4, L4, k4, n4⟩, -, X4, ⟨Lc4, hQ4, l4, y4, z4⟩, st4⟩ := Jvm.LawKit.callS X0 hx (y := ym1) hown (mvT hZ w_12) (mvT hZ w_13) (mvT hZ w_14) (mvT hZ w_15) (by decide) (backOf (W := 1) (rm3 l Z a0 hw [] x1 h0 n0 Z0 ) hZ w_15 w_14 (by decide) (by decide)) (g := (mkF m 35 #[iv x0, iv x1, iv (7 : Int32), .unset, .unset] [(.int x1), (.int (5 : Int32))])) rfl (by rw [hml]; rfl) (argsL := [(.int x1)]) (rest := [(.int (5 : Int32))]) (lenOf pd87_0 rfl) rfl (by show 2 * 0 + _ ≤ _; exact Nat.le_of_eq rfl) (hb hby d7_35) (fun _ _ => ⟨rfl, e0, (by decide : 0 + 0 ≤ _), (by decide : 0 + 0 ≤ _)⟩)
  dsimp only [Pt.U, Pt.locs, Pt.cells, Pt.slots] at X4 l4 y4 z4 st4 hQ4
  subst l4 y4 z4
  obtain ⟨rfl, N4q, e4⟩ := hQ4
  have N4 := Fr.app N0 N4q
  refine Goes.st (B := T4.setTop (mkF m 38 #[iv x0, iv x1, iv (7 : Int32), .unset, .unset] [(.int (r3 x1)), (.int (5 : Int32))])) st4 ?_
  have hc38_5 : (5 : Int32) < (r3 x1) := p4
  refine Goes.st (B := T4.setTop (mkF m 58 #[iv x0, iv x1, iv (7 : Int32), .unset, .unset] [])) (fun t k => ?_) ?_
  · refine XS.icmpYes X4.here hx rfl (pc0 := 38) (pc' := 58) rfl (hb hby d7_38) rfl (tlt hc38_5).1 (by decide) (by decide) ?_
    exact k
  refine Goes.run X4 hx hown hci hcl hby (L := [(58, .iload_n 2, 1)]) (by decide +kernel) rfl (g' := (mkF m 59 #[iv x0, iv x1, iv (7 : Int32), .unset, .unset] [(.int (7 : Int32))])) rfl ?_
  obtain ⟨T6, h6, k6, X6, e6, E6, A6, B6, st6⟩ := newPE X4 hx hZ (aty := .int) w_17 e4 (g := (mkF m 59 #[iv x0, iv x1, iv (7 : Int32), .unset, .unset] [(.int (7 : Int32))])) rfl (hb hby d7_59) rfl (by decide) (cap := 7) (by decide) (by decide) (by decide) (by decide) (ad := "[I") (by decide)
  obtain ⟨b6, g6⟩ : ∃ z, z = h0.size := ⟨_, rfl⟩
  rw [← g6] at A6 B6 st6
  have g_b6 : n0 ≤ b6 := Nat.le_trans Z0 (Nat.le_of_eq g6.symm)
  have sz_b6 : h0.size ≤ b6 := Nat.le_trans K0.1 (Nat.le_of_eq g6.symm)
  have Zn6 : n0 ≤ h6.size := Nat.le_trans Z0 E6.1
  have K6 := K0.ext E6
  have E_b6 : Exa Z h6 b6 "[I" := B6
  have V_b6 : Arv Z h6 b6 k6 .int (7 : Int32) [(.int (0 : Int32)), (.int (0 : Int32)), (.int (0 : Int32)), (.int (0 : Int32)), (.int (0 : Int32)), (.int (0 : Int32)), (.int (0 : Int32))] (.int (0 : Int32)) := (Arv.new A6 (by decide)).pad (pad_rep [] (.int (0 : Int32)) 7)
  refine Goes.st (B := T6.setTop (mkF m 61 #[iv x0, iv x1, iv (7 : Int32), .unset, .unset] [(.ref b6)])) st6 ?_
  refine Goes.run X6 hx hown hci hcl hby (L := [(61, .astore_n 3, 1), (62, .aload_n 3, 1), (63, .iconst 0, 1), (64, .iload_n 1, 1)]) (by decide +kernel) rfl (g' := (mkF m 65 #[iv x0, iv x1, iv (7 : Int32), rv b6, .unset] [(.int x1), (.int (0 : Int32)), (.ref b6)])) rfl ?_
  obtain ⟨cl7, Ar7, q7, S7, M7, Hs7, G7⟩ := id V_b6
  have hin7 : ¬ ((0 : Int32) < 0 ∨ cl7.slots.size ≤ ((0 : Int32)).toNatClampNeg) := inb_of S7 ⟨(by decide), (by decide)⟩
  obtain ⟨T7, h7, X7, e7, W7, st7⟩ := stI X6 hx hZ e6 Ar7 (j := (0 : Int32)) hin7 (g := (mkF m 65 #[iv x0, iv x1, iv (7 : Int32), rv b6, .unset] [(.int x1), (.int (0 : Int32)), (.ref b6)])) rfl rfl (hb hby d7_65)
  have E_b6 := E_b6.wr W7
  have Zn7 : n0 ≤ h7.size := Nat.le_trans Zn6 (Keep.of_wr W7).1
  have K7 := K6.wr W7 (Or.inr sz_b6)
  have N7 := Fr.snoc X7 N4 g_b6
  have V_b6 : Arv Z h7 b6 k6 .int (7 : Int32) [(.int x1), (.int (0 : Int32)), (.int (0 : Int32)), (.int (0 : Int32)), (.int (0 : Int32)), (.int (0 : Int32)), (.int (0 : Int32))] (.int (0 : Int32)) := Arv.set Ar7 q7 S7 M7 Hs7 G7 rfl W7 0 rfl (Nat.le_of_ble_eq_true rfl)
  refine Goes.st (B := T7.setTop (mkF m 66 #[iv x0, iv x1, iv (7 : Int32), rv b6, .unset] [])) st7 ?_
  refine Goes.run X7 hx hown hci hcl hby (L := [(66, .iconst 1, 1), (67, .istore 4, 2), (69, .iload 4, 2), (71, .iload_n 2, 1), (72, .iconst 1, 1), (73, .isub, 1)]) (by decide +kernel) rfl (g' := (mkF m 74 #[iv x0, iv x1, iv (7 : Int32), rv b6, iv (1 : Int32)] [(.int (6 : Int32)), (.int (1 : Int32))])) rfl ?_
  have hc74_8 : (1 : Int32) < (6 : Int32) := by decide
  refine Goes.st (B := T7.setTop (mkF m 77 #[iv x0, iv x1, iv (7 : Int32), rv b6, iv (1 : Int32)] [])) (fun t k => ?_) ?_
  · refine XS.icmpNo X7.here hx rfl (hb hby d7_74) rfl (tlt hc74_8).2.1 ?_
    exact k
  refine Goes.run X7 hx hown hci hcl hby (L := [(77, .aload_n 3, 1), (78, .iload 4, 2), (80, .iconst 2, 1), (81, .aload_n 3, 1), (82, .iload 4, 2), (84, .iconst 1, 1)]) (by decide +kernel) rfl (g' := (mkF m 85 #[iv x0, iv x1, iv (7 : Int32), rv b6, iv (1 : Int32)] [(.int (1 : Int32)), (.int (1 : Int32)), (.ref b6), (.int (2 : Int32)), (.int (1 : Int32)), (.ref b6)])) rfl ?_
  refine Goes.run X7 hx hown hci hcl hby (L := [(85, .isub, 1)]) (by decide +kernel) rfl (g' := (mkF m 86 #[iv x0, iv x1, iv (7 : Int32), rv b6, iv (1 : Int32)] [(.int (0 : Int32)), (.ref b6), (.int (2 : Int32)), (.int (1 : Int32)), (.ref b6)])) rfl ?_
  obtain ⟨cl9, Ar9, q9, S9, M9, Hs9, G9⟩ := id V_b6
  have hin9 : ¬ ((0 : Int32) < 0 ∨ cl9.slots.size ≤ ((0 : Int32)).toNatClampNeg) := inb_of S9 ⟨(by decide), (by decide)⟩
  have hat9 : cl9.slots[((0 : Int32)).toNatClampNeg]? = some (.int x1) := Hs9.at hin9 rfl
  refine Goes.st (B := T7.setTop (mkF m 87 #[iv x0, iv x1, iv (7 : Int32), rv b6, iv (1 : Int32)] [(.int x1), (.int (2 : Int32)), (.int (1 : Int32)), (.ref b6)])) (X7.iaload hx (j := (0 : Int32)) (v := (.int x1)) (by rw [e7]; exact Ar9.1) (State.isArrayOf_alike hZ.alike Ar9.2.1) Ar9.2.2 hin9 hat9 (g := (mkF m 86 #[iv x0, iv x1, iv (7 : Int32), rv b6, iv (1 : Int32)] [(.int (0 : Int32)), (.ref b6), (.int (2 : Int32)), (.int (1 : Int32)), (.ref b6)])) rfl rfl (hb hby d7_86)) ?_
  refine Goes.run X7 hx hown hci hcl hby (L := [(87, .imul, 1)]) (by decide +kernel) rfl (g' := (mkF m 88 #[iv x0, iv x1, iv (7 : Int32), rv b6, iv (1 : Int32)] [(.int ((2 : Int32) * x1)), (.int (1 : Int32)), (.ref b6)])) rfl ?_
  obtain ⟨cl10, Ar10, q10, S10, M10, Hs10, G10⟩ := id V_b6
  have hin10 : ¬ ((1 : Int32) < 0 ∨ cl10.slots.size ≤ ((1 : Int32)).toNatClampNeg) := inb_of S10 ⟨(by decide), (by decide)⟩
  obtain ⟨T10, h10, X10, e10, W10, st10⟩ := stI X7 hx hZ e7 Ar10 (j := (1 : Int32)) hin10 (g := (mkF m 88 #[iv x0, iv x1, iv (7 : Int32), rv b6, iv (1 : Int32)] [(.int ((2 : Int32) * x1)), (.int (1 : Int32)), (.ref b6)])) rfl rfl (hb hby d7_88)
  have E_b6 := E_b6.wr W10
  have Zn10 : n0 ≤ h10.size := Nat.le_trans Zn7 (Keep.of_wr W10).1
  have K10 := K7.wr W10 (Or.inr sz_b6)
  have N10 := Fr.snoc X10 N7 g_b6
  have V_b6 : Arv Z h10 b6 k6 .int (7 : Int32) [(.int x1), (.int ((2 : Int32) * x1)), (.int (0 : Int32)), (.int (0 : Int32)), (.int (0 : Int32)), (.int (0 : Int32)), (.int (0 : Int32))] (.int (0 : Int32)) := Arv.set Ar10 q10 S10 M10 Hs10 G10 rfl W10 1 rfl (Nat.le_of_ble_eq_true rfl)
  refine Goes.st (B := T10.setTop (mkF m 89 #[iv x0, iv x1, iv (7 : Int32), rv b6, iv (1 : Int32)] [])) st10 ?_
  refine Goes.run X10 hx hown hci hcl hby (L := [(89, .iinc 4 1, 3), (92, .goto (-23), 3), (69, .iload 4, 2), (71, .iload_n 2, 1), (72, .iconst 1, 1), (73, .isub, 1)]) (by decide +kernel) rfl (g' := (mkF m 74 #[iv x0, iv x1, iv (7 : Int32), rv b6, iv (2 : Int32)] [(.int (6 : Int32)), (.int (2 : Int32))])) rfl ?_
  have hc74_11 : (2 : Int32) < (6 : Int32) := by decide
  refine Goes.st (B := T10.setTop (mkF m 77 #[iv x0, iv x1, iv (7 : Int32), rv b6, iv (2 : Int32)] [])) (fun t k => ?_) ?_
  · refine XS.icmpNo X10.here hx rfl (hb hby d7_74) rfl (tlt hc74_11).2.1 ?_
    exact k
  refine Goes.run X10 hx hown hci hcl hby (L := [(77, .aload_n 3, 1), (78, .iload 4, 2), (80, .iconst 2, 1), (81, .aload_n 3, 1), (82, .iload 4, 2), (84, .iconst 1, 1)]) (by decide +kernel) rfl (g' := (mkF m 85 #[iv x0, iv x1, iv (7 : Int32), rv b6, iv (2 : Int32)] [(.int (1 : Int32)), (.int (2 : Int32)), (.ref b6), (.int (2 : Int32)), (.int (2 : Int32)), (.ref b6)])) rfl ?_
  refine Goes.run X10 hx hown hci hcl hby (L := [(85, .isub, 1)]) (by decide +kernel) rfl (g' := (mkF m 86 #[iv x0, iv x1, iv (7 : Int32), rv b6, iv (2 : Int32)] [(.int (1 : Int32)), (.ref b6), (.int (2 : Int32)), (.int (2 : Int32)), (.ref b6)])) rfl ?_
  obtain ⟨cl12, Ar12, q12, S12, M12, Hs12, G12⟩ := id V_b6
  have hin12 : ¬ ((1 : Int32) < 0 ∨ cl12.slots.size ≤ ((1 : Int32)).toNatClampNeg) := inb_of S12 ⟨(by decide), (by decide)⟩
  have hat12 : cl12.slots[((1 : Int32)).toNatClampNeg]? = some (.int ((2 : Int32) * x1)) := Hs12.at hin12 rfl
  refine Goes.st (B := T10.setTop (mkF m 87 #[iv x0, iv x1, iv (7 : Int32), rv b6, iv (2 : Int32)] [(.int ((2 : Int32) * x1)), (.int (2 : Int32)), (.int (2 : Int32)), (.ref b6)])) (X10.iaload hx (j := (1 : Int32)) (v := (.int ((2 : Int32) * x1))) (by rw [e10]; exact Ar12.1) (State.isArrayOf_alike hZ.alike Ar12.2.1) Ar12.2.2 hin12 hat12 (g := (mkF m 86 #[iv x0, iv x1, iv (7 : Int32), rv b6, iv (2 : Int32)] [(.int (1 : Int32)), (.ref b6), (.int (2 : Int32)), (.int (2 : Int32)), (.ref b6)])) rfl rfl (hb hby d7_86)) ?_
  refine Goes.run X10 hx hown hci hcl hby (L := [(87, .imul, 1)]) (by decide +kernel) rfl (g' := (mkF m 88 #[iv x0, iv x1, iv (7 : Int32), rv b6, iv (2 : Int32)] [(.int ((2 : Int32) * ((2 : Int32) * x1))), (.int (2 : Int32)), (.ref b6)])) rfl ?_
  obtain ⟨cl13, Ar13, q13, S13, M13, Hs13, G13⟩ := id V_b6
  have hin13 : ¬ ((2 : Int32) < 0 ∨ cl13.slots.size ≤ ((2 : Int32)).toNatClampNeg) := inb_of S13 ⟨(by decide), (by decide)⟩
  obtain ⟨T13, h13, X13, e13, W13, st13⟩ := stI X10 hx hZ e10 Ar13 (j := (2 : Int32)) hin13 (g := (mkF m 88 #[iv x0, iv x1, iv (7 : Int32), rv b6, iv (2 : Int32)] [(.int ((2 : Int32) * ((2 : Int32) * x1))), (.int (2 : Int32)), (.ref b6)])) rfl rfl (hb hby d7_88)
  have E_b6 := E_b6.wr W13
  have Zn13 : n0 ≤ h13.size := Nat.le_trans Zn10 (Keep.of_wr W13).1
  have K13 := K10.wr W13 (Or.inr sz_b6)
  have N13 := Fr.snoc X13 N10 g_b6
  have V_b6 : Arv Z h13 b6 k6 .int (7 : Int32) [(.int x1), (.int ((2 : Int32) * x1)), (.int ((2 : Int32) * ((2 : Int32) * x1))), (.int (0 : Int32)), (.int (0 : Int32)), (.int (0 : Int32)), (.int (0 : Int32))] (.int (0 : Int32)) := Arv.set Ar13 q13 S13 M13 Hs13 G13 rfl W13 2 rfl (Nat.le_of_ble_eq_true rfl)
  refine Goes.st (B := T13.setTop (mkF m 89 #[iv x0, iv x1, iv (7 : Int32), rv b6, iv (2 : Int32)] [])) st13 ?_
  refine Goes.run X13 hx hown hci hcl hby (L := [(89, .iinc 4 1, 3), (92, .goto (-23), 3), (69, .iload 4, 2), (71, .iload_n 2, 1), (72, .iconst 1, 1), (73, .isub, 1)]) (by decide +kernel) rfl (g' := (mkF m 74 #[iv x0, iv x1, iv (7 : Int32), rv b6, iv (3 : Int32)] [(.int (6 : Int32)), (.int (3 : Int32))])) rfl ?_
  have hc74_14 : (3 : Int32) < (6 : Int32) := by decide
  refine Goes.st (B := T13.setTop (mkF m 77 #[iv x0, iv x1, iv (7 : Int32), rv b6, iv (3 : Int32)] [])) (fun t k => ?_) ?_
  · refine XS.icmpNo X13.here hx rfl (hb hby d7_74) rfl (tlt hc74_14).2.1 ?_
    exact k
  refine Goes.run X13 hx hown hci hcl hby (L := [(77, .aload_n 3, 1), (78, .iload 4, 2), (80, .iconst 2, 1), (81, .aload_n 3, 1), (82, .iload 4, 2), (84, .iconst 1, 1)]) (by decide +kernel) rfl (g' := (mkF m 85 #[iv x0, iv x1, iv (7 : Int32), rv b6, iv (3 : Int32)] [(.int (1 : Int32)), (.int (3 : Int32)), (.ref b6), (.int (2 : Int32)), (.int (3 : Int32)), (.ref b6)])) rfl ?_
  refine Goes.run X13 hx hown hci hcl hby (L := [(85, .isub, 1)]) (by decide +kernel) rfl (g' := (mkF m 86 #[iv x0, iv x1, iv (7 : Int32), rv b6, iv (3 : Int32)] [(.int (2 : Int32)), (.ref b6), (.int (2 : Int32)), (.int (3 : Int32)), (.ref b6)])) rfl ?_
  obtain ⟨cl15, Ar15, q15, S15, M15, Hs15, G15⟩ := id V_b6
  have hin15 : ¬ ((2 : Int32) < 0 ∨ cl15.slots.size ≤ ((2 : Int32)).toNatClampNeg) := inb_of S15 ⟨(by decide), (by decide)⟩
  have hat15 : cl15.slots[((2 : Int32)).toNatClampNeg]? = some (.int ((2 : Int32) * ((2 : Int32) * x1))) := Hs15.at hin15 rfl
  refine Goes.st (B := T13.setTop (mkF m 87 #[iv x0, iv x1, iv (7 : Int32), rv b6, iv (3 : Int32)] [(.int ((2 : Int32) * ((2 : Int32) * x1))), (.int (2 : Int32)), (.int (3 : Int32)), (.ref b6)])) (X13.iaload hx (j := (2 : Int32)) (v := (.int ((2 : Int32) * ((2 : Int32) * x1)))) (by rw [e13]; exact Ar15.1) (State.isArrayOf_alike hZ.alike Ar15.2.1) Ar15.2.2 hin15 hat15 (g := (mkF m 86 #[iv x0, iv x1, iv (7 : Int32), rv b6, iv (3 : Int32)] [(.int (2 : Int32)), (.ref b6), (.int (2 : Int32)), (.int (3 : Int32)), (.ref b6)])) rfl rfl (hb hby d7_86)) ?_
  refine Goes.run X13 hx hown hci hcl hby (L := [(87, .imul, 1)]) (by decide +kernel) rfl (g' := (mkF m 88 #[iv x0, iv x1, iv (7 : Int32), rv b6, iv (3 : Int32)] [(.int ((2 : Int32) * ((2 : Int32) * ((2 : Int32) * x1)))), (.int (3 : Int32)), (.ref b6)])) rfl ?_
  obtain ⟨cl16, Ar16, q16, S16, M16, Hs16, G16⟩ := id V_b6
  have hin16 : ¬ ((3 : Int32) < 0 ∨ cl16.slots.size ≤ ((3 : Int32)).toNatClampNeg) := inb_of S16 ⟨(by decide), (by decide)⟩
  obtain ⟨T16, h16, X16, e16, W16, st16⟩ := stI X13 hx hZ e13 Ar16 (j := (3 : Int32)) hin16 (g := (mkF m 88 #[iv x0, iv x1, iv (7 : Int32), rv b6, iv (3 : Int32)] [(.int ((2 : Int32) * ((2 : Int32) * ((2 : Int32) * x1)))), (.int (3 : Int32)), (.ref b6)])) rfl rfl (hb hby d7_88)
  have E_b6 := E_b6.wr W16
  have Zn16 : n0 ≤ h16.size := Nat.le_trans Zn13 (Keep.of_wr W16).1
  have K16 := K13.wr W16 (Or.inr sz_b6)
  have N16 := Fr.snoc X16 N13 g_b6
  have V_b6 : Arv Z h16 b6 k6 .int (7 : Int32) [(.int x1), (.int ((2 : Int32) * x1)), (.int ((2 : Int32) * ((2 : Int32) * x1))), (.int ((2 : Int32) * ((2 : Int32) * ((2 : Int32) * x1)))), (.int (0 : Int32)), (.int (0 : Int32)), (.int (0 : Int32))] (.int (0 : Int32)) := Arv.set Ar16 q16 S16 M16 Hs16 G16 rfl W16 3 rfl (Nat.le_of_ble_eq_true rfl)
  refine Goes.st (B := T16.setTop (mkF m 89 #[iv x0, iv x1, iv (7 : Int32), rv b6, iv (3 : Int32)] [])) st16 ?_
  refine Goes.run X16 hx hown hci hcl hby (L := [(89, .iinc 4 1, 3), (92, .goto (-23), 3), (69, .iload 4, 2), (71, .iload_n 2, 1), (72, .iconst 1, 1), (73, .isub, 1)]) (by decide +kernel) rfl (g' := (mkF m 74 #[iv x0, iv x1, iv (7 : Int32), rv b6, iv (4 : Int32)] [(.int (6 : Int32)), (.int (4 : Int32))])) rfl ?_
  have hc74_17 : (4 : Int32) < (6 : Int32) := by decide
  refine Goes.st (B := T16.setTop (mkF m 77 #[iv x0, iv x1, iv (7 : Int32), rv b6, iv (4 : Int32)] [])) (fun t k => ?_) ?_
  · refine XS.icmpNo X16.here hx rfl (hb hby d7_74) rfl (tlt hc74_17).2.1 ?_
    exact k
  refine Goes.run X16 hx hown hci hcl hby (L := [(77, .aload_n 3, 1), (78, .iload 4, 2), (80, .iconst 2, 1), (81, .aload_n 3, 1), (82, .iload 4, 2), (84, .iconst 1, 1)]) (by decide +kernel) rfl (g' := (mkF m 85 #[iv x0, iv x1, iv (7 : Int32), rv b6, iv (4 : Int32)] [(.int (1 : Int32)), (.int (4 : Int32)), (.ref b6), (.int (2 : Int32)), (.int (4 : Int32)), (.ref b6)])) rfl ?_
  refine Goes.run X16 hx hown hci hcl hby (L := [(85, .isub, 1)]) (by decide +kernel) rfl (g' := (mkF m 86 #[iv x0, iv x1, iv (7 : Int32), rv b6, iv (4 : Int32)] [(.int (3 : Int32)), (.ref b6), (.int (2 : Int32)), (.int (4 : Int32)), (.ref b6)])) rfl ?_
  obtain ⟨cl18, Ar18, q18, S18, M18, Hs18, G18⟩ := id V_b6
  have hin18 : ¬ ((3 : Int32) < 0 ∨ cl18.slots.size ≤ ((3 : Int32)).toNatClampNeg) := inb_of S18 ⟨(by decide), (by decide)⟩
  have hat18 : cl18.slots[((3 : Int32)).toNatClampNeg]? = some (.int ((2 : Int32) * ((2 : Int32) * ((2 : Int32) * x1)))) := Hs18.at hin18 rfl
  refine Goes.st (B := T16.setTop (mkF m 87 #[iv x0, iv x1, iv (7 : Int32), rv b6, iv (4 : Int32)] [(.int ((2 : Int32) * ((2 : Int32) * ((2 : Int32) * x1)))), (.int (2 : Int32)), (.int (4 : Int32)), (.ref b6)])) (X16.iaload hx (j := (3 : Int32)) (v := (.int ((2 : Int32) * ((2 : Int32) * ((2 : Int32) * x1))))) (by rw [e16]; exact Ar18.1) (State.isArrayOf_alike hZ.alike Ar18.2.1) Ar18.2.2 hin18 hat18 (g := (mkF m 86 #[iv x0, iv x1, iv (7 : Int32), rv b6, iv (4 : Int32)] [(.int (3 : Int32)), (.ref b6), (.int (2 : Int32)), (.int (4 : Int32)), (.ref b6)])) rfl rfl (hb hby d7_86)) ?_
  refine Goes.run X16 hx hown hci hcl hby (L := [(87, .imul, 1)]) (by decide +kernel) rfl (g' := (mkF m 88 #[iv x0, iv x1, iv (7 : Int32), rv b6, iv (4 : Int32)] [(.int ((2 : Int32) * ((2 : Int32) * ((2 : Int32) * ((2 : Int32) * x1))))), (.int (4 : Int32)), (.ref b6)])) rfl ?_
  obtain ⟨cl19, Ar19, q19, S19, M19, Hs19, G19⟩ := id V_b6
  have hin19 : ¬ ((4 : Int32) < 0 ∨ cl19.slots.size ≤ ((4 : Int32)).toNatClampNeg) := inb_of S19 ⟨(by decide), (by decide)⟩
  obtain ⟨T19, h19, X19, e19, W19, st19⟩ := stI X16 hx hZ e16 Ar19 (j := (4 : Int32)) hin19 (g := (mkF m 88 #[iv x0, iv x1, iv (7 : Int32), rv b6, iv (4 : Int32)] [(.int ((2 : Int32) * ((2 : Int32) * ((2 : Int32) * ((2 : Int32) * x1))))), (.int (4 : Int32)), (.ref b6)])) rfl rfl (hb hby d7_88)
  have E_b6 := E_b6.wr W19
  have Zn19 : n0 ≤ h19.size := Nat.le_trans Zn16 (Keep.of_wr W19).1
  have K19 := K16.wr W19 (Or.inr sz_b6)
  have N19 := Fr.snoc X19 N16 g_b6
  have V_b6 : Arv Z h19 b6 k6 .int (7 : Int32) [(.int x1), (.int ((2 : Int32) * x1)), (.int ((2 : Int32) * ((2 : Int32) * x1))), (.int ((2 : Int32) * ((2 : Int32) * ((2 : Int32) * x1)))), (.int ((2 : Int32) * ((2 : Int32) * ((2 : Int32) * ((2 : Int32) * x1))))), (.int (0 : Int32)), (.int (0 : Int32))] (.int (0 : Int32)) := Arv.set Ar19 q19 S19 M19 Hs19 G19 rfl W19 4 rfl (Nat.le_of_ble_eq_true rfl)
  refine Goes.st (B := T19.setTop (mkF m 89 #[iv x0, iv x1, iv (7 : Int32), rv b6, iv (4 : Int32)] [])) st19 ?_
  refine Goes.run X19 hx hown hci hcl hby (L := [(89, .iinc 4 1, 3), (92, .goto (-23), 3), (69, .iload 4, 2), (71, .iload_n 2, 1), (72, .iconst 1, 1), (73, .isub, 1)]) (by decide +kernel) rfl (g' := (mkF m 74 #[iv x0, iv x1, iv (7 : Int32), rv b6, iv (5 : Int32)] [(.int (6 : Int32)), (.int (5 : Int32))])) rfl ?_
  have hc74_20 : (5 : Int32) < (6 : Int32) := by decide
  refine Goes.st (B := T19.setTop (mkF m 77 #[iv x0, iv x1, iv (7 : Int32), rv b6, iv (5 : Int32)] [])) (fun t k => ?_) ?_
  · refine XS.icmpNo X19.here hx rfl (hb hby d7_74) rfl (tlt hc74_20).2.1 ?_
    exact k
  refine Goes.run X19 hx hown hci hcl hby (L := [(77, .aload_n 3, 1), (78, .iload 4, 2), (80, .iconst 2, 1), (81, .aload_n 3, 1), (82, .iload 4, 2), (84, .iconst 1, 1)]) (by decide +kernel) rfl (g' := (mkF m 85 #[iv x0, iv x1, iv (7 : Int32), rv b6, iv (5 : Int32)] [(.int (1 : Int32)), (.int (5 : Int32)), (.ref b6), (.int (2 : Int32)), (.int (5 : Int32)), (.ref b6)])) rfl ?_
  refine Goes.run X19 hx hown hci hcl hby (L := [(85, .isub, 1)]) (by decide +kernel) rfl (g' := (mkF m 86 #[iv x0, iv x1, iv (7 : Int32), rv b6, iv (5 : Int32)] [(.int (4 : Int32)), (.ref b6), (.int (2 : Int32)), (.int (5 : Int32)), (.ref b6)])) rfl ?_
  obtain ⟨cl21, Ar21, q21, S21, M21, Hs21, G21⟩ := id V_b6
  have hin21 : ¬ ((4 : Int32) < 0 ∨ cl21.slots.size ≤ ((4 : Int32)).toNatClampNeg) := inb_of S21 ⟨(by decide), (by decide)⟩
  have hat21 : cl21.slots[((4 : Int32)).toNatClampNeg]? = some (.int ((2 : Int32) * ((2 : Int32) * ((2 : Int32) * ((2 : Int32) * x1))))) := Hs21.at hin21 rfl
  refine Goes.st (B := T19.setTop (mkF m 87 #[iv x0, iv x1, iv (7 : Int32), rv b6, iv (5 : Int32)] [(.int ((2 : Int32) * ((2 : Int32) * ((2 : Int32) * ((2 : Int32) * x1))))), (.int (2 : Int32)), (.int (5 : Int32)), (.ref b6)])) (X19.iaload hx (j := (4 : Int32)) (v := (.int ((2 : Int32) * ((2 : Int32) * ((2 : Int32) * ((2 : Int32) * x1)))))) (by rw [e19]; exact Ar21.1) (State.isArrayOf_alike hZ.alike Ar21.2.1) Ar21.2.2 hin21 hat21 (g := (mkF m 86 #[iv x0, iv x1, iv (7 : Int32), rv b6, iv (5 : Int32)] [(.int (4 : Int32)), (.ref b6), (.int (2 : Int32)), (.int (5 : Int32)), (.ref b6)])) rfl rfl (hb hby d7_86)) ?_
  refine Goes.run X19 hx hown hci hcl hby (L := [(87, .imul, 1)]) (by decide +kernel) rfl (g' := (mkF m 88 #[iv x0, iv x1, iv (7 : Int32), rv b6, iv (5 : Int32)] [(.int ((2 : Int32) * ((2 : Int32) * ((2 : Int32) * ((2 : Int32) * ((2 : Int32) * x1)))))), (.int (5 : Int32)), (.ref b6)])) rfl ?_
  obtain ⟨cl22, Ar22, q22, S22, M22, Hs22, G22⟩ := id V_b6
  have hin22 : ¬ ((5 : Int32) < 0 ∨ cl22.slots.size ≤ ((5 : Int32)).toNatClampNeg) := inb_of S22 ⟨(by decide), (by decide)⟩
  obtain ⟨T22, h22, X22, e22, W22, st22⟩ := stI X19 hx hZ e19 Ar22 (j := (5 : Int32)) hin22 (g := (mkF m 88 #[iv x0, iv x1, iv (7 : Int32), rv b6, iv (5 : Int32)] [(.int ((2 : Int32) * ((2 : Int32) * ((2 : Int32) * ((2 : Int32) * ((2 : Int32) * x1)))))), (.int (5 : Int32)), (.ref b6)])) rfl rfl (hb hby d7_88)
  have E_b6 := E_b6.wr W22
  have Zn22 : n0 ≤ h22.size := Nat.le_trans Zn19 (Keep.of_wr W22).1
  have K22 := K19.wr W22 (Or.inr sz_b6)
  have N22 := Fr.snoc X22 N19 g_b6
  have V_b6 : Arv Z h22 b6 k6 .int (7 : Int32) [(.int x1), (.int ((2 : Int32) * x1)), (.int ((2 : Int32) * ((2 : Int32) * x1))), (.int ((2 : Int32) * ((2 : Int32) * ((2 : Int32) * x1)))), (.int ((2 : Int32) * ((2 : Int32) * ((2 : Int32) * ((2 : Int32) * x1))))), (.int ((2 : Int32) * ((2 : Int32) * ((2 : Int32) * ((2 : Int32) * ((2 : Int32) * x1)))))), (.int (0 : Int32))] (.int (0 : Int32)) := Arv.set Ar22 q22 S22 M22 Hs22 G22 rfl W22 5 rfl (Nat.le_of_ble_eq_true rfl)
  refine Goes.st (B := T22.setTop (mkF m 89 #[iv x0, iv x1, iv (7 : Int32), rv b6, iv (5 : Int32)] [])) st22 ?_
  refine Goes.run X22 hx hown hci hcl hby (L := [(89, .iinc 4 1, 3), (92, .goto (-23), 3), (69, .iload 4, 2), (71, .iload_n 2, 1), (72, .iconst 1, 1), (73, .isub, 1)]) (by decide +kernel) rfl (g' := (mkF m 74 #[iv x0, iv x1, iv (7 : Int32), rv b6, iv (6 : Int32)] [(.int (6 : Int32)), (.int (6 : Int32))])) rfl ?_
  have hc74_23 : ¬ ((6 : Int32) < (6 : Int32)) := Int32.lt_irrefl
  refine Goes.st (B := T22.setTop (mkF m 95 #[iv x0, iv x1, iv (7 : Int32), rv b6, iv (6 : Int32)] [])) (fun t k => ?_) ?_
  · refine XS.icmpYes X22.here hx rfl (pc0 := 74) (pc' := 95) rfl (hb hby d7_74) rfl (flt hc74_23).2.1 (by decide) (by decide) ?_
    exact k
  refine Goes.run X22 hx hown hci hcl hby (L := [(95, .iload_n 2, 1), (96, .iconst 1, 1)]) (by decide +kernel) rfl (g' := (mkF m 97 #[iv x0, iv x1, iv (7 : Int32), rv b6, iv (6 : Int32)] [(.int (1 : Int32)), (.int (7 : Int32))])) rfl ?_
  have hc97_24 : (1 : Int32) < (7 : Int32) := by decide
  refine Goes.st (B := T22.setTop (mkF m 100 #[iv x0, iv x1, iv (7 : Int32), rv b6, iv (6 : Int32)] [])) (fun t k => ?_) ?_
  · refine XS.icmpNo X22.here hx rfl (hb hby d7_97) rfl (tlt hc97_24).2.2.2 ?_
    exact k
  refine Goes.run X22 hx hown hci hcl hby (L := [(100, .aload_n 3, 1), (101, .iload_n 2, 1), (102, .iconst 1, 1), (103, .isub, 1), (104, .iload_n 0, 1)]) (by decide +kernel) rfl (g' := (mkF m 105 #[iv x0, iv x1, iv (7 : Int32), rv b6, iv (6 : Int32)] [(.int x0), (.int (6 : Int32)), (.ref b6)])) rfl ?_
  obtain ⟨cl25, Ar25, q25, S25, M25, Hs25, G25⟩ := id V_b6
  have hin25 : ¬ ((6 : Int32) < 0 ∨ cl25.slots.size ≤ ((6 : Int32)).toNatClampNeg) := inb_of S25 ⟨(by decide), (by decide)⟩
  obtain ⟨T25, h25, X25, e25, W25, st25⟩ := stI X22 hx hZ e22 Ar25 (j := (6 : Int32)) hin25 (g := (mkF m 105 #[iv x0, iv x1, iv (7 : Int32), rv b6, iv (6 : Int32)] [(.int x0), (.int (6 : Int32)), (.ref b6)])) rfl rfl (hb hby d7_105)
  have E_b6 := E_b6.wr W25
  have Zn25 : n0 ≤ h25.size := Nat.le_trans Zn22 (Keep.of_wr W25).1
  have K25 := K22.wr W25 (Or.inr sz_b6)
  have N25 := Fr.snoc X25 N22 g_b6
  have V_b6 : Arv Z h25 b6 k6 .int (7 : Int32) [(.int x1), (.int ((2 : Int32) * x1)), (.int ((2 : Int32) * ((2 : Int32) * x1))), (.int ((2 : Int32) * ((2 : Int32) * ((2 : Int32) * x1)))), (.int ((2 : Int32) * ((2 : Int32) * ((2 : Int32) * ((2 : Int32) * x1))))), (.int ((2 : Int32) * ((2 : Int32) * ((2 : Int32) * ((2 : Int32) * ((2 : Int32) * x1)))))), (.int x0)] (.int (0 : Int32)) := Arv.set Ar25 q25 S25 M25 Hs25 G25 rfl W25 6 rfl (Nat.le_of_ble_eq_true rfl)
  refine Goes.st (B := T25.setTop (mkF m 106 #[iv x0, iv x1, iv (7 : Int32), rv b6, iv (6 : Int32)] [])) st25 ?_
  refine Goes.run X25 hx hown hci hcl hby (L := [(106, .aload_n 3, 1)]) (by decide +kernel) rfl (g' := (mkF m 107 #[iv x0, iv x1, iv (7 : Int32), rv b6, iv (6 : Int32)] [(.ref b6)])) rfl ?_
  refine Goes.retR X25 hx hlk Bd.returns rfl rfl (hb hby d7_107) ?_ (by decide) (by decide)
  show (Q87 Z x0 x1 h0 n0) _ _ _
  rw [e25]
  exact ⟨b6, k6, rfl, N25, K25, sz_b6, E_b6, V_b6⟩
theorem pn97 : plainName "com/example/eriu/eriu/algorithm/GroupElection" = true := by first | (simp [plainName, overriddenIn]; done) | decide +kernel
theorem pd97_0 : parseMethodDescriptor "(III)[I" = some ⟨[.int, .int, .int], some (.array .int)⟩ := by decide +kernel
theorem pd97_1 : parseMethodDescriptor "(I)J" = some ⟨[.int], some .long⟩ := by decide +kernel
theorem pd97_2 : parseMethodDescriptor "(II)J" = some ⟨[.int, .int], some .long⟩ := by decide +kernel
theorem ef97 (m : MethodId) (x0 : Int32) (x1 : Int32) : entryFrame m #[(.int x0), (.int x1), (.int (7 : Int32))] 6 = (mkF m 0 #[iv x0, iv x1, iv (7 : Int32), .unset, .unset, .unset] []) := by first | (simp [entryFrame, mkF, argsToLocals, Value.category]; done) | rfl
def c97_50_0 (x0 : Int32) (x1 : Int32) : Int32 := ((2 : Int32) * x1)
def c97_50_0_a (x0 : Int32) (x1 : Int32) : Int32 := ((2 : Int32) * ((2 : Int32) * x1))
def c97_50_0_b (x0 : Int32) (x1 : Int32) : Int32 := ((2 : Int32) * ((2 : Int32) * ((2 : Int32) * x1)))
def c97_50_0_c (x0 : Int32) (x1 : Int32) : Int32 := ((2 : Int32) * ((2 : Int32) * ((2 : Int32) * ((2 : Int32) * x1))))
def c97_50_0_d (x0 : Int32) (x1 : Int32) : Int32 := ((2 : Int32) * ((2 : Int32) * ((2 : Int32) * ((2 : Int32) * ((2 : Int32) * x1)))))
def Q97 (Z : State) (x0 : Int32) (x1 : Int32) (h0 : Heap) (n0 : Nat) (v : Option Value) (h : Heap) (L : List Loc) : Prop := ∃ (b : Addr) (k : ClassId), v = some (.ref b) ∧ Fr n0 L ∧ Keep h0 h [] ∧ h0.size ≤ b ∧ Exa Z h b "[J" ∧ Arv Z h b k .long (7 : Int32) [(.long ((r5 x1) + (r7 x0 (c97_50_0 x0 x1)))), (.long ((r5 (c97_50_0 x0 x1)) + (r7 x0 (c97_50_0_a x0 x1)))), (.long ((r5 (c97_50_0_a x0 x1)) + (r7 x0 (c97_50_0_b x0 x1)))), (.long ((r5 (c97_50_0_b x0 x1)) + (r7 x0 (c97_50_0_c x0 x1)))), (.long ((r5 (c97_50_0_c x0 x1)) + (r7 x0 (c97_50_0_d x0 x1)))), (.long ((r5 (c97_50_0_d x0 x1)) + (r7 x0 x0))), (.long ((r5 x0) + (0 : Int64)))] (.long (0 : Int64))
set_option maxRecDepth 65536 in
set_option maxHeartbeats 40000000 in
theorem rm97 (l : Launch) (Z : State) (a0 : Array Value) (hw : ∀ d ∈ tables_1, d.before a0 Z = true) (ws : List Jvm.Cond) (x0 : Int32) (x1 : Int32) (h0 : Heap) (n0 : Nat) (Z0 : n0 ≤ h0.size) (p1 : ¬ (x0 < (1 : Int32))) (p2 : ¬ (x1 < (1 : Int32))) (p4 : (5 : Int32) < (r3 x1)) (s1 : ¬ (((2 : Int32) * x1) < (1 : Int32))) (s2 : ¬ (((2 : Int32) * ((2 : Int32) * x1)) < (1 : Int32))) (s3 : ¬ (((2 : Int32) * ((2 : Int32) * ((2 : Int32) * x1))) < (1 : Int32))) (s4 : ¬ (((2 : Int32) * ((2 : Int32) * ((2 : Int32) * ((2 : Int32) * x1)))) < (1 : Int32))) (s5 : ¬ (((2 : Int32) * ((2 : Int32) * ((2 : Int32) * ((2 : Int32) * ((2 : Int32) * x1))))) < (1 : Int32))) (s6 : ¬ (x0 < (1 : Int32))) :
    MetFree l ym7 (head1 (Jvm.Cond.code ym7 prog_4_method_3_code 6 (some (.array .long)) :: ws) ({ frames := 2, cells := 2, slots := 16, locals := 40 } : Room)) (fun a U => a = #[(.int x0), (.int x1), (.int (7 : Int32))] ∧ Z.Warmed39 U.vm ∧ U.heap = h0) (fun _ _ _ _ _ => True) (fun _ U o U' => ∃ v L, o = .returned v ∧ (Q97 Z x0 x1 h0 n0) v U'.heap L ∧ FrameEnd U o U' L ({ frames := 2, cells := 2, slots := 16, locals := 40 } : Room).cells ({ frames := 2, cells := 2, slots := 16, locals := 40 } : Room).slots) := by
  refine MetFree.of_bodySF (plainFor_of_name pn97) hisR ?_
  intro p e s m args below meth c s₁ Bd hml0 hP hK
  obtain ⟨rfl, hZ, hh⟩ := hP
  have hx := Bd.exec
  have hby := Bd.bytes
  have hml : c.maxLocals = 6 := hml0
  have hlk : meth.locks = false := BodyLoose.notSynchronized Bd
  have hown : s.vm.findClass "com/example/eriu/eriu/algorithm/GroupElection" = some m.cls := findClass_of_methodNamed Bd.named
  have hnm := (name_of_methodNamed Bd.named Bd.method).1
  have w_7 := hw _ (List.mem_of_getElem? (i := 7) rfl)
  have w_9 := hw _ (List.mem_of_getElem? (i := 9) rfl)
  have w_10 := hw _ (List.mem_of_getElem? (i := 10) rfl)
  have w_11 := hw _ (List.mem_of_getElem? (i := 11) rfl)
  have w_18 := hw _ (List.mem_of_getElem? (i := 18) rfl)
  have w_19 := hw _ (List.mem_of_getElem? (i := 19) rfl)
  have w_20 := hw _ (List.mem_of_getElem? (i := 20) rfl)
  have w_21 := hw _ (List.mem_of_getElem? (i := 21) rfl)
  have w_22 := hw _ (List.mem_of_getElem? (i := 22) rfl)
  have w_26 := hw _ (List.mem_of_getElem? (i := 26) rfl)
  have w_27 := hw _ (List.mem_of_getElem? (i := 27) rfl)
  have w_28 := hw _ (List.mem_of_getElem? (i := 28) rfl)
  have w_29 := hw _ (List.mem_of_getElem? (i := 29) rfl)
  have hci : ∀ i v, (i, v) ∈ ([] : List (Nat × Int32)) → (Jvm.Cond.constant "com/example/eriu/eriu/algorithm/GroupElection" i v).before #[(.int x0), (.int x1), (.int (7 : Int32))] s = true := own_ci0
  have hcl : ∀ i v, (i, v) ∈ ([(215, 2), (236, 3)] : List (Nat × Int64)) → (Jvm.Cond.constantLong "com/example/eriu/eriu/algorithm/GroupElection" i v).before #[(.int x0), (.int x1), (.int (7 : Int32))] s = true := (own_ciS (mvT hZ w_22) (own_ciS (mvT hZ w_26) own_ci0))
  have X0 : Stand p l e ({ frames := 2, cells := 2, slots := 16, locals := 40 } : Room) s m #[(.int x0), (.int x1), (.int (7 : Int32))] below meth c s₁ [] 0 0 := Stand.of_body Bd
  have e0 : s₁.heap = h0 := by rw [← hh, Bd.state]; rfl
  have N0 := Fr.nil n0
  show Goes p e below s (Q97 Z x0 x1 h0 n0) ({ frames := 2, cells := 2, slots := 16, locals := 40 } : Room).cells ({ frames := 2, cells := 2, slots := 16, locals := 40 } : Room).slots (s₁.setTop (entryFrame m #[(.int x0), (.int x1), (.int (7 : Int32))] 6))
  refine Goes.cast (ef97 m x0 x1) ?_
  have K0 : Keep h0 h0 [] := Keep.refl h0 _
  refine Goes.run X0 hx hown hci hcl hby (L := [(0, .iload_n 0, 1), (1, .iload_n 1, 1), (2, .iload_n 2, 1)]) (by decide +kernel) rfl (g' := (mkF m 3 #[iv x0, iv x1, iv (7 : Int32), .unset, .unset, .unset] [(.int (7 : Int32)), (.int x1), (.int x0)])) rfl ?_
  obtain ⟨_, _, ⟨T1, L1, k1, n1⟩, -, X1, ⟨Lc1, hQ1, l1, y1, z1⟩, st1⟩ := Jvm.LawKit.callS X0 hx (y := ym6) hown (mvT hZ w_9) (mvT hZ w_10) (mvT hZ w_7) (mvT hZ w_11) (by decide) (backOf (W := 0) (rm87 l Z a0 hw [] x0 x1 h0 n0 Z0 p1 p2 p4) hZ w_11 w_7 (by decide) (by decide)) (g := (mkF m 3 #[iv x0, iv x1, iv (7 : Int32), .unset, .unset, .unset] [(.int (7 : Int32)), (.int x1), (.int x0)])) rfl (by rw [hml]; rfl) (argsL := [(.int x0), (.int x1), (.int (7 : Int32))]) (rest := []) (lenOf pd97_0 rfl) rfl (by show 2 * 0 + _ ≤ _; exact Nat.le_of_eq rfl) (hb hby d8_3) (fun _ _ => ⟨rfl, e0, (by decide : 0 + 1 ≤ _), (by decide : 0 + 8 ≤ _)⟩)
  dsimp only [Pt.U, Pt.locs, Pt.cells, Pt.slots] at X1 l1 y1 z1 st1 hQ1
  subst l1 y1 z1
  obtain ⟨h1, eh1⟩ : ∃ z, z = T1.heap := ⟨_, rfl⟩
  rw [← eh1] at hQ1
  have e1 : T1.heap = h1 := eh1.symm
  obtain ⟨b1, kc1, rfl, N1q, Kq1, szq1, o1_0, o1_1⟩ := hQ1
  have g_b1 : n0 ≤ b1 := Nat.le_trans Z0 szq1
  have sz_b1 : h0.size ≤ b1 := Nat.le_trans K0.1 szq1
  have N1 := Fr.app N0 N1q
  have E_b1 : Exa Z h1 b1 "[I" := o1_0
  have V_b1 : Arv Z h1 b1 kc1 .int (7 : Int32) [(.int x1), (.int ((2 : Int32) * x1)), (.int ((2 : Int32) * ((2 : Int32) * x1))), (.int ((2 : Int32) * ((2 : Int32) * ((2 : Int32) * x1)))), (.int ((2 : Int32) * ((2 : Int32) * ((2 : Int32) * ((2 : Int32) * x1))))), (.int ((2 : Int32) * ((2 : Int32) * ((2 : Int32) * ((2 : Int32) * ((2 : Int32) * x1)))))), (.int x0)] (.int (0 : Int32)) := o1_1
  have Zn1 : n0 ≤ h1.size := Nat.le_trans Z0 Kq1.1
  have K1 := K0.trans Kq1 (all0)
  refine Goes.st (B := T1.setTop (mkF m 6 #[iv x0, iv x1, iv (7 : Int32), .unset, .unset, .unset] [(.ref b1)])) st1 ?_
  refine Goes.run X1 hx hown hci hcl hby (L := [(6, .astore_n 3, 1), (7, .aload_n 3, 1)]) (by decide +kernel) rfl (g' := (mkF m 8 #[iv x0, iv x1, iv (7 : Int32), rv b1, .unset, .unset] [(.ref b1)])) rfl ?_
  obtain ⟨cl2, Ar2, q2, S2, M2, Hs2, G2⟩ := id V_b1
  refine Goes.st (B := T1.setTop (mkF m 9 #[iv x0, iv x1, iv (7 : Int32), rv b1, .unset, .unset] [(.int (7 : Int32))])) (fun t k => ?_) ?_
  · refine X1.arraylength hx (cell := cl2) (by rw [e1]; exact Ar2.1) (State.isArrayOf_alike hZ.alike Ar2.2.1) (g := (mkF m 8 #[iv x0, iv x1, iv (7 : Int32), rv b1, .unset, .unset] [(.ref b1)])) rfl (rest := []) rfl (hb hby d8_8) _ ?_
    rw [len_of S2 M2]
    exact k
  obtain ⟨T3, h3, k3, X3, e3, E3, A3, B3, st3⟩ := newPE X1 hx hZ (aty := .long) w_18 e1 (g := (mkF m 9 #[iv x0, iv x1, iv (7 : Int32), rv b1, .unset, .unset] [(.int (7 : Int32))])) rfl (hb hby d8_9) rfl (by decide) (cap := 7) (by decide) (by decide) (by decide) (by decide) (ad := "[J") (by decide)
  obtain ⟨b3, g3⟩ : ∃ z, z = h1.size := ⟨_, rfl⟩
  rw [← g3] at A3 B3 st3
  have ne_b1_b3 : b1 ≠ b3 := Nat.ne_of_lt (Nat.lt_of_lt_of_le E_b1.lt (Nat.le_of_eq g3.symm))
  have g_b3 : n0 ≤ b3 := Nat.le_trans Zn1 (Nat.le_of_eq g3.symm)
  have sz_b3 : h0.size ≤ b3 := Nat.le_trans K1.1 (Nat.le_of_eq g3.symm)
  have E_b1 := E_b1.ext E3
  have V_b1 := V_b1.ext E3
  have Zn3 : n0 ≤ h3.size := Nat.le_trans Zn1 E3.1
  have K3 := K1.ext E3
  have E_b3 : Exa Z h3 b3 "[J" := B3
  have V_b3 : Arv Z h3 b3 k3 .long (7 : Int32) [(.long (0 : Int64)), (.long (0 : Int64)), (.long (0 : Int64)), (.long (0 : Int64)), (.long (0 : Int64)), (.long (0 : Int64)), (.long (0 : Int64))] (.long (0 : Int64)) := (Arv.new A3 (by decide)).pad (pad_rep [] (.long (0 : Int64)) 7)
  refine Goes.st (B := T3.setTop (mkF m 11 #[iv x0, iv x1, iv (7 : Int32), rv b1, .unset, .unset] [(.ref b3)])) st3 ?_
  refine Goes.run X3 hx hown hci hcl hby (L := [(11, .astore 4, 2), (13, .iconst 0, 1), (14, .istore 5, 2), (16, .iload 5, 2), (18, .aload_n 3, 1)]) (by decide +kernel) rfl (g' := (mkF m 19 #[iv x0, iv x1, iv (7 : Int32), rv b1, rv b3, iv (0 : Int32)] [(.ref b1), (.int (0 : Int32))])) rfl ?_
  obtain ⟨cl4, Ar4, q4, S4, M4, Hs4, G4⟩ := id V_b1
  refine Goes.st (B := T3.setTop (mkF m 20 #[iv x0, iv x1, iv (7 : Int32), rv b1, rv b3, iv (0 : Int32)] [(.int (7 : Int32)), (.int (0 : Int32))])) (fun t k => ?_) ?_
  · refine X3.arraylength hx (cell := cl4) (by rw [e3]; exact Ar4.1) (State.isArrayOf_alike hZ.alike Ar4.2.1) (g := (mkF m 19 #[iv x0, iv x1, iv (7 : Int32), rv b1, rv b3, iv (0 : Int32)] [(.ref b1), (.int (0 : Int32))])) rfl (rest := [(.int (0 : Int32))]) rfl (hb hby d8_19) _ ?_
    rw [len_of S4 M4]
    exact k
  have hc20_5 : (0 : Int32) < (7 : Int32) := by decide
  refine Goes.st (B := T3.setTop (mkF m 23 #[iv x0, iv x1, iv (7 : Int32), rv b1, rv b3, iv (0 : Int32)] [])) (fun t k => ?_) ?_
  · refine XS.icmpNo X3.here hx rfl (hb hby d8_20) rfl (tlt hc20_5).2.1 ?_
    exact k
  refine Goes.run X3 hx hown hci hcl hby (L := [(23, .aload 4, 2), (25, .iload 5, 2), (27, .aload_n 3, 1), (28, .iload 5, 2)]) (by decide +kernel) rfl (g' := (mkF m 30 #[iv x0, iv x1, iv (7 : Int32), rv b1, rv b3, iv (0 : Int32)] [(.int (0 : Int32)), (.ref b1), (.int (0 : Int32)), (.ref b3)])) rfl ?_
  obtain ⟨cl6, Ar6, q6, S6, M6, Hs6, G6⟩ := id V_b1
  have hin6 : ¬ ((0 : Int32) < 0 ∨ cl6.slots.size ≤ ((0 : Int32)).toNatClampNeg) := inb_of S6 ⟨(by decide), (by decide)⟩
  have hat6 : cl6.slots[((0 : Int32)).toNatClampNeg]? = some (.int x1) := Hs6.at hin6 rfl
  refine Goes.st (B := T3.setTop (mkF m 31 #[iv x0, iv x1, iv (7 : Int32), rv b1, rv b3, iv (0 : Int32)] [(.int x1), (.int (0 : Int32)), (.ref b3)])) (X3.iaload hx (j := (0 : Int32)) (v := (.int x1)) (by rw [e3]; exact Ar6.1) (State.isArrayOf_alike hZ.alike Ar6.2.1) Ar6.2.2 hin6 hat6 (g := (mkF m 30 #[iv x0, iv x1, iv (7 : Int32), rv b1, rv b3, iv (0 : Int32)] [(.int (0 : Int32)), (.ref b1), (.int (0 : Int32)), (.ref b3)])) rfl rfl (hb hby d8_30)) ?_
  obtain ⟨_, _, ⟨T7, L7, k7, n7⟩, -, X7, ⟨Lc7, hQ7, l7, y7, z7⟩, st7⟩ := Jvm.LawKit.callS X3 hx (y := ym3) hown (mvT hZ w_19) (mvT hZ w_20) (mvT hZ w_7) (mvT hZ w_21) (by decide) (backOf (W := 2) (rm5 l Z a0 hw [] x1 h3 n0 Zn3 ) hZ w_21 w_7 (by decide) (by decide)) (g := (mkF m 31 #[iv x0, iv x1, iv (7 : Int32), rv b1, rv b3, iv (0 : Int32)] [(.int x1), (.int (0 : Int32)), (.ref b3)])) rfl (by rw [hml]; rfl) (argsL := [(.int x1)]) (rest := [(.int (0 : Int32)), (.ref b3)]) (lenOf pd97_1 rfl) rfl (by show 2 * 0 + _ ≤ _; exact Nat.le_of_eq rfl) (hb hby d8_31) (fun _ _ => ⟨rfl, e3, (by decide : 2 + 0 ≤ _), (by decide : 15 + 0 ≤ _)⟩)
  dsimp only [Pt.U, Pt.locs, Pt.cells, Pt.slots] at X7 l7 y7 z7 st7 hQ7
  subst l7 y7 z7
  obtain ⟨rfl, N7q, e7⟩ := hQ7
  have N7 := Fr.app N1 N7q
  refine Goes.st (B := T7.setTop (mkF m 34 #[iv x0, iv x1, iv (7 : Int32), rv b1, rv b3, iv (0 : Int32)] [(.long (r5 x1)), (.int (0 : Int32)), (.ref b3)])) st7 ?_
  refine Goes.run X7 hx hown hci hcl hby (L := [(34, .iload 5, 2), (36, .iconst 1, 1), (37, .iadd, 1), (38, .aload_n 3, 1)]) (by decide +kernel) rfl (g' := (mkF m 39 #[iv x0, iv x1, iv (7 : Int32), rv b1, rv b3, iv (0 : Int32)] [(.ref b1), (.int (1 : Int32)), (.long (r5 x1)), (.int (0 : Int32)), (.ref b3)])) rfl ?_
  obtain ⟨cl8, Ar8, q8, S8, M8, Hs8, G8⟩ := id V_b1
  refine Goes.st (B := T7.setTop (mkF m 40 #[iv x0, iv x1, iv (7 : Int32), rv b1, rv b3, iv (0 : Int32)] [(.int (7 : Int32)), (.int (1 : Int32)), (.long (r5 x1)), (.int (0 : Int32)), (.ref b3)])) (fun t k => ?_) ?_
  · refine X7.arraylength hx (cell := cl8) (by rw [e7]; exact Ar8.1) (State.isArrayOf_alike hZ.alike Ar8.2.1) (g := (mkF m 39 #[iv x0, iv x1, iv (7 : Int32), rv b1, rv b3, iv (0 : Int32)] [(.ref b1), (.int (1 : Int32)), (.long (r5 x1)), (.int (0 : Int32)), (.ref b3)])) rfl (rest := [(.int (1 : Int32)), (.long (r5 x1)), (.int (0 : Int32)), (.ref b3)]) rfl (hb hby d8_39) _ ?_
    rw [len_of S8 M8]
    exact k
  have hc40_9 : (1 : Int32) < (7 : Int32) := by decide
  refine Goes.st (B := T7.setTop (mkF m 43 #[iv x0, iv x1, iv (7 : Int32), rv b1, rv b3, iv (0 : Int32)] [(.long (r5 x1)), (.int (0 : Int32)), (.ref b3)])) (fun t k => ?_) ?_
  · refine XS.icmpNo X7.here hx rfl (hb hby d8_40) rfl (tlt hc40_9).2.1 ?_
    exact k
  refine Goes.run X7 hx hown hci hcl hby (L := [(43, .iload_n 0, 1), (44, .aload_n 3, 1), (45, .iload 5, 2), (47, .iconst 1, 1), (48, .iadd, 1)]) (by decide +kernel) rfl (g' := (mkF m 49 #[iv x0, iv x1, iv (7 : Int32), rv b1, rv b3, iv (0 : Int32)] [(.int (1 : Int32)), (.ref b1), (.int x0), (.long (r5 x1)), (.int (0 : Int32)), (.ref b3)])) rfl ?_
  obtain ⟨cl10, Ar10, q10, S10, M10, Hs10, G10⟩ := id V_b1
  have hin10 : ¬ ((1 : Int32) < 0 ∨ cl10.slots.size ≤ ((1 : Int32)).toNatClampNeg) := inb_of S10 ⟨(by decide), (by decide)⟩
  have hat10 : cl10.slots[((1 : Int32)).toNatClampNeg]? = some (.int ((2 : Int32) * x1)) := Hs10.at hin10 rfl
  refine Goes.st (B := T7.setTop (mkF m 50 #[iv x0, iv x1, iv (7 : Int32), rv b1, rv b3, iv (0 : Int32)] [(.int ((2 : Int32) * x1)), (.int x0), (.long (r5 x1)), (.int (0 : Int32)), (.ref b3)])) (X7.iaload hx (j := (1 : Int32)) (v := (.int ((2 : Int32) * x1))) (by rw [e7]; exact Ar10.1) (State.isArrayOf_alike hZ.alike Ar10.2.1) Ar10.2.2 hin10 hat10 (g := (mkF m 49 #[iv x0, iv x1, iv (7 : Int32), rv b1, rv b3, iv (0 : Int32)] [(.int (1 : Int32)), (.ref b1), (.int x0), (.long (r5 x1)), (.int (0 : Int32)), (.ref b3)])) rfl rfl (hb hby d8_49)) ?_
  obtain ⟨_, _, ⟨T11, L11, k11, n11⟩, -, X11, ⟨Lc11, hQ11, l11, y11, z11⟩, st11⟩ := Jvm.LawKit.callS X7 hx (y := ym5) hown (mvT hZ w_27) (mvT hZ w_28) (mvT hZ w_7) (mvT hZ w_29) (by decide) (backOf (W := 4) (rm7 l Z a0 hw [] x0 (c97_50_0 x0 x1) h3 n0 Zn3 (by first | assumption | exact p1 | exact p2)) hZ w_29 w_7 (by decide) (by decide)) (g := (mkF m 50 #[iv x0, iv x1, iv (7 : Int32), rv b1, rv b3, iv (0 : Int32)] [(.int (c97_50_0 x0 x1)), (.int x0), (.long (r5 x1)), (.int (0 : Int32)), (.ref b3)])) rfl (by rw [hml]; rfl) (argsL := [(.int x0), (.int (c97_50_0 x0 x1))]) (rest := [(.long (r5 x1)), (.int (0 : Int32)), (.ref b3)]) (lenOf pd97_2 rfl) rfl (by show 2 * 0 + _ ≤ _; exact Nat.le_of_eq rfl) (hb hby d8_50) (fun _ _ => ⟨rfl, e7, (by decide : 2 + 0 ≤ _), (by decide : 15 + 0 ≤ _)⟩)
  dsimp only [Pt.U, Pt.locs, Pt.cells, Pt.slots] at X11 l11 y11 z11 st11 hQ11
  subst l11 y11 z11
  obtain ⟨rfl, N11q, e11⟩ := hQ11
  have N11 := Fr.app N7 N11q
  refine Goes.st (B := T11.setTop (mkF m 53 #[iv x0, iv x1, iv (7 : Int32), rv b1, rv b3, iv (0 : Int32)] [(.long (r7 x0 (c97_50_0 x0 x1))), (.long (r5 x1)), (.int (0 : Int32)), (.ref b3)])) st11 ?_
  refine Goes.run X11 hx hown hci hcl hby (L := [(53, .goto 4, 3), (57, .ladd, 1)]) (by decide +kernel) rfl (g' := (mkF m 58 #[iv x0, iv x1, iv (7 : Int32), rv b1, rv b3, iv (0 : Int32)] [(.long ((r5 x1) + (r7 x0 (c97_50_0 x0 x1)))), (.int (0 : Int32)), (.ref b3)])) rfl ?_
  obtain ⟨cl12, Ar12, q12, S12, M12, Hs12, G12⟩ := id V_b3
  have hin12 : ¬ ((0 : Int32) < 0 ∨ cl12.slots.size ≤ ((0 : Int32)).toNatClampNeg) := inb_of S12 ⟨(by decide), (by decide)⟩
  obtain ⟨T12, h12, X12, e12, W12, st12⟩ := stJ X11 hx hZ e11 Ar12 (j := (0 : Int32)) hin12 (g := (mkF m 58 #[iv x0, iv x1, iv (7 : Int32), rv b1, rv b3, iv (0 : Int32)] [(.long ((r5 x1) + (r7 x0 (c97_50_0 x0 x1)))), (.int (0 : Int32)), (.ref b3)])) rfl rfl (hb hby d8_58)
  have E_b1 := E_b1.wr W12
  have V_b1 := V_b1.other W12 ne_b1_b3
  have E_b3 := E_b3.wr W12
  have Zn12 : n0 ≤ h12.size := Nat.le_trans Zn3 (Keep.of_wr W12).1
  have K12 := K3.wr W12 (Or.inr sz_b3)
  have N12 := Fr.snoc X12 N11 g_b3
  have V_b3 : Arv Z h12 b3 k3 .long (7 : Int32) [(.long ((r5 x1) + (r7 x0 (c97_50_0 x0 x1)))), (.long (0 : Int64)), (.long (0 : Int64)), (.long (0 : Int64)), (.long (0 : Int64)), (.long (0 : Int64)), (.long (0 : Int64))] (.long (0 : Int64)) := Arv.set Ar12 q12 S12 M12 Hs12 G12 rfl W12 0 rfl (Nat.le_of_ble_eq_true rfl)
  refine Goes.st (B := T12.setTop (mkF m 59 #[iv x0, iv x1, iv (7 : Int32), rv b1, rv b3, iv (0 : Int32)] [])) st12 ?_
  refine Goes.run X12 hx hown hci hcl hby (L := [(59, .iinc 5 1, 3), (62, .goto (-46), 3), (16, .iload 5, 2), (18, .aload_n 3, 1)]) (by decide +kernel) rfl (g' := (mkF m 19 #[iv x0, iv x1, iv (7 : Int32), rv b1, rv b3, iv (1 : Int32)] [(.ref b1), (.int (1 : Int32))])) rfl ?_
  obtain ⟨cl13, Ar13, q13, S13, M13, Hs13, G13⟩ := id V_b1
  refine Goes.st (B := T12.setTop (mkF m 20 #[iv x0, iv x1, iv (7 : Int32), rv b1, rv b3, iv (1 : Int32)] [(.int (7 : Int32)), (.int (1 : Int32))])) (fun t k => ?_) ?_
  · refine X12.arraylength hx (cell := cl13) (by rw [e12]; exact Ar13.1) (State.isArrayOf_alike hZ.alike Ar13.2.1) (g := (mkF m 19 #[iv x0, iv x1, iv (7 : Int32), rv b1, rv b3, iv (1 : Int32)] [(.ref b1), (.int (1 : Int32))])) rfl (rest := [(.int (1 : Int32))]) rfl (hb hby d8_19) _ ?_
    rw [len_of S13 M13]
    exact k
  have hc20_14 : (1 : Int32) < (7 : Int32) := by decide
  refine Goes.st (B := T12.setTop (mkF m 23 #[iv x0, iv x1, iv (7 : Int32), rv b1, rv b3, iv (1 : Int32)] [])) (fun t k => ?_) ?_
  · refine XS.icmpNo X12.here hx rfl (hb hby d8_20) rfl (tlt hc20_14).2.1 ?_
    exact k
  refine Goes.run X12 hx hown hci hcl hby (L := [(23, .aload 4, 2), (25, .iload 5, 2), (27, .aload_n 3, 1), (28, .iload 5, 2)]) (by decide +kernel) rfl (g' := (mkF m 30 #[iv x0, iv x1, iv (7 : Int32), rv b1, rv b3, iv (1 : Int32)] [(.int (1 : Int32)), (.ref b1), (.int (1 : Int32)), (.ref b3)])) rfl ?_
  obtain ⟨cl15, Ar15, q15, S15, M15, Hs15, G15⟩ := id V_b1
  have hin15 : ¬ ((1 : Int32) < 0 ∨ cl15.slots.size ≤ ((1 : Int32)).toNatClampNeg) := inb_of S15 ⟨(by decide), (by decide)⟩
  have hat15 : cl15.slots[((1 : Int32)).toNatClampNeg]? = some (.int ((2 : Int32) * x1)) := Hs15.at hin15 rfl
  refine Goes.st (B := T12.setTop (mkF m 31 #[iv x0, iv x1, iv (7 : Int32), rv b1, rv b3, iv (1 : Int32)] [(.int ((2 : Int32) * x1)), (.int (1 : Int32)), (.ref b3)])) (X12.iaload hx (j := (1 : Int32)) (v := (.int ((2 : Int32) * x1))) (by rw [e12]; exact Ar15.1) (State.isArrayOf_alike hZ.alike Ar15.2.1) Ar15.2.2 hin15 hat15 (g := (mkF m 30 #[iv x0, iv x1, iv (7 : Int32), rv b1, rv b3, iv (1 : Int32)] [(.int (1 : Int32)), (.ref b1), (.int (1 : Int32)), (.ref b3)])) rfl rfl (hb hby d8_30)) ?_
  obtain ⟨_, _, ⟨T16, L16, k16, n16⟩, -, X16, ⟨Lc16, hQ16, l16, y16, z16⟩, st16⟩ := Jvm.LawKit.callS X12 hx (y := ym3) hown (mvT hZ w_19) (mvT hZ w_20) (mvT hZ w_7) (mvT hZ w_21) (by decide) (backOf (W := 2) (rm5 l Z a0 hw [] (c97_50_0 x0 x1) h12 n0 Zn12 ) hZ w_21 w_7 (by decide) (by decide)) (g := (mkF m 31 #[iv x0, iv x1, iv (7 : Int32), rv b1, rv b3, iv (1 : Int32)] [(.int (c97_50_0 x0 x1)), (.int (1 : Int32)), (.ref b3)])) rfl (by rw [hml]; rfl) (argsL := [(.int (c97_50_0 x0 x1))]) (rest := [(.int (1 : Int32)), (.ref b3)]) (lenOf pd97_1 rfl) rfl (by show 2 * 0 + _ ≤ _; exact Nat.le_of_eq rfl) (hb hby d8_31) (fun _ _ => ⟨rfl, e12, (by decide : 2 + 0 ≤ _), (by decide : 15 + 0 ≤ _)⟩)
  dsimp only [Pt.U, Pt.locs, Pt.cells, Pt.slots] at X16 l16 y16 z16 st16 hQ16
  subst l16 y16 z16
  obtain ⟨rfl, N16q, e16⟩ := hQ16
  have N16 := Fr.app N12 N16q
  refine Goes.st (B := T16.setTop (mkF m 34 #[iv x0, iv x1, iv (7 : Int32), rv b1, rv b3, iv (1 : Int32)] [(.long (r5 (c97_50_0 x0 x1))), (.int (1 : Int32)), (.ref b3)])) st16 ?_
  refine Goes.run X16 hx hown hci hcl hby (L := [(34, .iload 5, 2), (36, .iconst 1, 1), (37, .iadd, 1), (38, .aload_n 3, 1)]) (by decide +kernel) rfl (g' := (mkF m 39 #[iv x0, iv x1, iv (7 : Int32), rv b1, rv b3, iv (1 : Int32)] [(.ref b1), (.int (2 : Int32)), (.long (r5 (c97_50_0 x0 x1))), (.int (1 : Int32)), (.ref b3)])) rfl ?_
  obtain ⟨cl17, Ar17, q17, S17, M17, Hs17, G17⟩ := id V_b1
  refine Goes.st (B := T16.setTop (mkF m 40 #[iv x0, iv x1, iv (7 : Int32), rv b1, rv b3, iv (1 : Int32)] [(.int (7 : Int32)), (.int (2 : Int32)), (.long (r5 (c97_50_0 x0 x1))), (.int (1 : Int32)), (.ref b3)])) (fun t k => ?_) ?_
  · refine X16.arraylength hx (cell := cl17) (by rw [e16]; exact Ar17.1) (State.isArrayOf_alike hZ.alike Ar17.2.1) (g := (mkF m 39 #[iv x0, iv x1, iv (7 : Int32), rv b1, rv b3, iv (1 : Int32)] [(.ref b1), (.int (2 : Int32)), (.long (r5 (c97_50_0 x0 x1))), (.int (1 : Int32)), (.ref b3)])) rfl (rest := [(.int (2 : Int32)), (.long (r5 (c97_50_0 x0 x1))), (.int (1 : Int32)), (.ref b3)]) rfl (hb hby d8_39) _ ?_
    rw [len_of S17 M17]
    exact k
  have hc40_18 : (2 : Int32) < (7 : Int32) := by decide
  refine Goes.st (B := T16.setTop (mkF m 43 #[iv x0, iv x1, iv (7 : Int32), rv b1, rv b3, iv (1 : Int32)] [(.long (r5 (c97_50_0 x0 x1))), (.int (1 : Int32)), (.ref b3)])) (fun t k => ?_) ?_
  · refine XS.icmpNo X16.here hx rfl (hb hby d8_40) rfl (tlt hc40_18).2.1 ?_
    exact k
  refine Goes.run X16 hx hown hci hcl hby (L := [(43, .iload_n 0, 1), (44, .aload_n 3, 1), (45, .iload 5, 2), (47, .iconst 1, 1), (48, .iadd, 1)]) (by decide +kernel) rfl (g' := (mkF m 49 #[iv x0, iv x1, iv (7 : Int32), rv b1, rv b3, iv (1 : Int32)] [(.int (2 : Int32)), (.ref b1), (.int x0), (.long (r5 (c97_50_0 x0 x1))), (.int (1 : Int32)), (.ref b3)])) rfl ?_
  obtain ⟨cl19, Ar19, q19, S19, M19, Hs19, G19⟩ := id V_b1
  have hin19 : ¬ ((2 : Int32) < 0 ∨ cl19.slots.size ≤ ((2 : Int32)).toNatClampNeg) := inb_of S19 ⟨(by decide), (by decide)⟩
  have hat19 : cl19.slots[((2 : Int32)).toNatClampNeg]? = some (.int ((2 : Int32) * ((2 : Int32) * x1))) := Hs19.at hin19 rfl
  refine Goes.st (B := T16.setTop (mkF m 50 #[iv x0, iv x1, iv (7 : Int32), rv b1, rv b3, iv (1 : Int32)] [(.int ((2 : Int32) * ((2 : Int32) * x1))), (.int x0), (.long (r5 (c97_50_0 x0 x1))), (.int (1 : Int32)), (.ref b3)])) (X16.iaload hx (j := (2 : Int32)) (v := (.int ((2 : Int32) * ((2 : Int32) * x1)))) (by rw [e16]; exact Ar19.1) (State.isArrayOf_alike hZ.alike Ar19.2.1) Ar19.2.2 hin19 hat19 (g := (mkF m 49 #[iv x0, iv x1, iv (7 : Int32), rv b1, rv b3, iv (1 : Int32)] [(.int (2 : Int32)), (.ref b1), (.int x0), (.long (r5 (c97_50_0 x0 x1))), (.int (1 : Int32)), (.ref b3)])) rfl rfl (hb hby d8_49)) ?_
  obtain ⟨_, _, ⟨T20, L20, k20, n20⟩, -, X20, ⟨Lc20, hQ20, l20, y20, z20⟩, st20⟩ := Jvm.LawKit.callS X16 hx (y := ym5) hown (mvT hZ w_27) (mvT hZ w_28) (mvT hZ w_7) (mvT hZ w_29) (by decide) (backOf (W := 4) (rm7 l Z a0 hw [] x0 (c97_50_0_a x0 x1) h12 n0 Zn12 (by first | assumption | exact p1 | exact p2)) hZ w_29 w_7 (by decide) (by decide)) (g := (mkF m 50 #[iv x0, iv x1, iv (7 : Int32), rv b1, rv b3, iv (1 : Int32)] [(.int (c97_50_0_a x0 x1)), (.int x0), (.long (r5 (c97_50_0 x0 x1))), (.int (1 : Int32)), (.ref b3)])) rfl (by rw [hml]; rfl) (argsL := [(.int x0), (.int (c97_50_0_a x0 x1))]) (rest := [(.long (r5 (c97_50_0 x0 x1))), (.int (1 : Int32)), (.ref b3)]) (lenOf pd97_2 rfl) rfl (by show 2 * 0 + _ ≤ _; exact Nat.le_of_eq rfl) (hb hby d8_50) (fun _ _ => ⟨rfl, e16, (by decide : 2 + 0 ≤ _), (by decide : 15 + 0 ≤ _)⟩)
  dsimp only [Pt.U, Pt.locs, Pt.cells, Pt.slots] at X20 l20 y20 z20 st20 hQ20
  subst l20 y20 z20
  obtain ⟨rfl, N20q, e20⟩ := hQ20
  have N20 := Fr.app N16 N20q
  refine Goes.st (B := T20.setTop (mkF m 53 #[iv x0, iv x1, iv (7 : Int32), rv b1, rv b3, iv (1 : Int32)] [(.long (r7 x0 (c97_50_0_a x0 x1))), (.long (r5 (c97_50_0 x0 x1))), (.int (1 : Int32)), (.ref b3)])) st20 ?_
  refine Goes.run X20 hx hown hci hcl hby (L := [(53, .goto 4, 3), (57, .ladd, 1)]) (by decide +kernel) rfl (g' := (mkF m 58 #[iv x0, iv x1, iv (7 : Int32), rv b1, rv b3, iv (1 : Int32)] [(.long ((r5 (c97_50_0 x0 x1)) + (r7 x0 (c97_50_0_a x0 x1)))), (.int (1 : Int32)), (.ref b3)])) rfl ?_
  obtain ⟨cl21, Ar21, q21, S21, M21, Hs21, G21⟩ := id V_b3
  have hin21 : ¬ ((1 : Int32) < 0 ∨ cl21.slots.size ≤ ((1 : Int32)).toNatClampNeg) := inb_of S21 ⟨(by decide), (by decide)⟩
  obtain ⟨T21, h21, X21, e21, W21, st21⟩ := stJ X20 hx hZ e20 Ar21 (j := (1 : Int32)) hin21 (g := (mkF m 58 #[iv x0, iv x1, iv (7 : Int32), rv b1, rv b3, iv (1 : Int32)] [(.long ((r5 (c97_50_0 x0 x1)) + (r7 x0 (c97_50_0_a x0 x1)))), (.int (1 : Int32)), (.ref b3)])) rfl rfl (hb hby d8_58)
  have E_b1 := E_b1.wr W21
  have V_b1 := V_b1.other W21 ne_b1_b3
  have E_b3 := E_b3.wr W21
  have Zn21 : n0 ≤ h21.size := Nat.le_trans Zn12 (Keep.of_wr W21).1
  have K21 := K12.wr W21 (Or.inr sz_b3)
  have N21 := Fr.snoc X21 N20 g_b3
  have V_b3 : Arv Z h21 b3 k3 .long (7 : Int32) [(.long ((r5 x1) + (r7 x0 (c97_50_0 x0 x1)))), (.long ((r5 (c97_50_0 x0 x1)) + (r7 x0 (c97_50_0_a x0 x1)))), (.long (0 : Int64)), (.long (0 : Int64)), (.long (0 : Int64)), (.long (0 : Int64)), (.long (0 : Int64))] (.long (0 : Int64)) := Arv.set Ar21 q21 S21 M21 Hs21 G21 rfl W21 1 rfl (Nat.le_of_ble_eq_true rfl)
  refine Goes.st (B := T21.setTop (mkF m 59 #[iv x0, iv x1, iv (7 : Int32), rv b1, rv b3, iv (1 : Int32)] [])) st21 ?_
  refine Goes.run X21 hx hown hci hcl hby (L := [(59, .iinc 5 1, 3), (62, .goto (-46), 3), (16, .iload 5, 2), (18, .aload_n 3, 1)]) (by decide +kernel) rfl (g' := (mkF m 19 #[iv x0, iv x1, iv (7 : Int32), rv b1, rv b3, iv (2 : Int32)] [(.ref b1), (.int (2 : Int32))])) rfl ?_
  obtain ⟨cl22, Ar22, q22, S22, M22, Hs22, G22⟩ := id V_b1
  refine Goes.st (B := T21.setTop (mkF m 20 #[iv x0, iv x1, iv (7 : Int32), rv b1, rv b3, iv (2 : Int32)] [(.int (7 : Int32)), (.int (2 : Int32))])) (fun t k => ?_) ?_
  · refine X21.arraylength hx (cell := cl22) (by rw [e21]; exact Ar22.1) (State.isArrayOf_alike hZ.alike Ar22.2.1) (g := (mkF m 19 #[iv x0, iv x1, iv (7 : Int32), rv b1, rv b3, iv (2 : Int32)] [(.ref b1), (.int (2 : Int32))])) rfl (rest := [(.int (2 : Int32))]) rfl (hb hby d8_19) _ ?_
    rw [len_of S22 M22]
    exact k
  have hc20_23 : (2 : Int32) < (7 : Int32) := by decide
  refine Goes.st (B := T21.setTop (mkF m 23 #[iv x0, iv x1, iv (7 : Int32), rv b1, rv b3, iv (2 : Int32)] [])) (fun t k => ?_) ?_
  · refine XS.icmpNo X21.here hx rfl (hb hby d8_20) rfl (tlt hc20_23).2.1 ?_
    exact k
  refine Goes.run X21 hx hown hci hcl hby (L := [(23, .aload 4, 2), (25, .iload 5, 2), (27, .aload_n 3, 1), (28, .iload 5, 2)]) (by decide +kernel) rfl (g' := (mkF m 30 #[iv x0, iv x1, iv (7 : Int32), rv b1, rv b3, iv (2 : Int32)] [(.int (2 : Int32)), (.ref b1), (.int (2 : Int32)), (.ref b3)])) rfl ?_
  obtain ⟨cl24, Ar24, q24, S24, M24, Hs24, G24⟩ := id V_b1
  have hin24 : ¬ ((2 : Int32) < 0 ∨ cl24.slots.size ≤ ((2 : Int32)).toNatClampNeg) := inb_of S24 ⟨(by decide), (by decide)⟩
  have hat24 : cl24.slots[((2 : Int32)).toNatClampNeg]? = some (.int ((2 : Int32) * ((2 : Int32) * x1))) := Hs24.at hin24 rfl
  refine Goes.st (B := T21.setTop (mkF m 31 #[iv x0, iv x1, iv (7 : Int32), rv b1, rv b3, iv (2 : Int32)] [(.int ((2 : Int32) * ((2 : Int32) * x1))), (.int (2 : Int32)), (.ref b3)])) (X21.iaload hx (j := (2 : Int32)) (v := (.int ((2 : Int32) * ((2 : Int32) * x1)))) (by rw [e21]; exact Ar24.1) (State.isArrayOf_alike hZ.alike Ar24.2.1) Ar24.2.2 hin24 hat24 (g := (mkF m 30 #[iv x0, iv x1, iv (7 : Int32), rv b1, rv b3, iv (2 : Int32)] [(.int (2 : Int32)), (.ref b1), (.int (2 : Int32)), (.ref b3)])) rfl rfl (hb hby d8_30)) ?_
  obtain ⟨_, _, ⟨T25, L25, k25, n25⟩, -, X25, ⟨Lc25, hQ25, l25, y25, z25⟩, st25⟩ := Jvm.LawKit.callS X21 hx (y := ym3) hown (mvT hZ w_19) (mvT hZ w_20) (mvT hZ w_7) (mvT hZ w_21) (by decide) (backOf (W := 2) (rm5 l Z a0 hw [] (c97_50_0_a x0 x1) h21 n0 Zn21 ) hZ w_21 w_7 (by decide) (by decide)) (g := (mkF m 31 #[iv x0, iv x1, iv (7 : Int32), rv b1, rv b3, iv (2 : Int32)] [(.int (c97_50_0_a x0 x1)), (.int (2 : Int32)), (.ref b3)])) rfl (by rw [hml]; rfl) (argsL := [(.int (c97_50_0_a x0 x1))]) (rest := [(.int (2 : Int32)), (.ref b3)]) (lenOf pd97_1 rfl) rfl (by show 2 * 0 + _ ≤ _; exact Nat.le_of_eq rfl) (hb hby d8_31) (fun _ _ => ⟨rfl, e21, (by decide : 2 + 0 ≤ _), (by decide : 15 + 0 ≤ _)⟩)
  dsimp only [Pt.U, Pt.locs, Pt.cells, Pt.slots] at X25 l25 y25 z25 st25 hQ25
  subst l25 y25 z25
  obtain ⟨rfl, N25q, e25⟩ := hQ25
  have N25 := Fr.app N21 N25q
  refine Goes.st (B := T25.setTop (mkF m 34 #[iv x0, iv x1, iv (7 : Int32), rv b1, rv b3, iv (2 : Int32)] [(.long (r5 (c97_50_0_a x0 x1))), (.int (2 : Int32)), (.ref b3)])) st25 ?_
  refine Goes.run X25 hx hown hci hcl hby (L := [(34, .iload 5, 2), (36, .iconst 1, 1), (37, .iadd, 1), (38, .aload_n 3, 1)]) (by decide +kernel) rfl (g' := (mkF m 39 #[iv x0, iv x1, iv (7 : Int32), rv b1, rv b3, iv (2 : Int32)] [(.ref b1), (.int (3 : Int32)), (.long (r5 (c97_50_0_a x0 x1))), (.int (2 : Int32)), (.ref b3)])) rfl ?_
  obtain ⟨cl26, Ar26, q26, S26, M26, Hs26, G26⟩ := id V_b1
  refine Goes.st (B := T25.setTop (mkF m 40 #[iv x0, iv x1, iv (7 : Int32), rv b1, rv b3, iv (2 : Int32)] [(.int (7 : Int32)), (.int (3 : Int32)), (.long (r5 (c97_50_0_a x0 x1))), (.int (2 : Int32)), (.ref b3)])) (fun t k => ?_) ?_
  · refine X25.arraylength hx (cell := cl26) (by rw [e25]; exact Ar26.1) (State.isArrayOf_alike hZ.alike Ar26.2.1) (g := (mkF m 39 #[iv x0, iv x1, iv (7 : Int32), rv b1, rv b3, iv (2 : Int32)] [(.ref b1), (.int (3 : Int32)), (.long (r5 (c97_50_0_a x0 x1))), (.int (2 : Int32)), (.ref b3)])) rfl (rest := [(.int (3 : Int32)), (.long (r5 (c97_50_0_a x0 x1))), (.int (2 : Int32)), (.ref b3)]) rfl (hb hby d8_39) _ ?_
    rw [len_of S26 M26]
    exact k
  have hc40_27 : (3 : Int32) < (7 : Int32) := by decide
  refine Goes.st (B := T25.setTop (mkF m 43 #[iv x0, iv x1, iv (7 : Int32), rv b1, rv b3, iv (2 : Int32)] [(.long (r5 (c97_50_0_a x0 x1))), (.int (2 : Int32)), (.ref b3)])) (fun t k => ?_) ?_
  · refine XS.icmpNo X25.here hx rfl (hb hby d8_40) rfl (tlt hc40_27).2.1 ?_
    exact k
  refine Goes.run X25 hx hown hci hcl hby (L := [(43, .iload_n 0, 1), (44, .aload_n 3, 1), (45, .iload 5, 2), (47, .iconst 1, 1), (48, .iadd, 1)]) (by decide +kernel) rfl (g' := (mkF m 49 #[iv x0, iv x1, iv (7 : Int32), rv b1, rv b3, iv (2 : Int32)] [(.int (3 : Int32)), (.ref b1), (.int x0), (.long (r5 (c97_50_0_a x0 x1))), (.int (2 : Int32)), (.ref b3)])) rfl ?_
  obtain ⟨cl28, Ar28, q28, S28, M28, Hs28, G28⟩ := id V_b1
  have hin28 : ¬ ((3 : Int32) < 0 ∨ cl28.slots.size ≤ ((3 : Int32)).toNatClampNeg) := inb_of S28 ⟨(by decide), (by decide)⟩
  have hat28 : cl28.slots[((3 : Int32)).toNatClampNeg]? = some (.int ((2 : Int32) * ((2 : Int32) * ((2 : Int32) * x1)))) := Hs28.at hin28 rfl
  refine Goes.st (B := T25.setTop (mkF m 50 #[iv x0, iv x1, iv (7 : Int32), rv b1, rv b3, iv (2 : Int32)] [(.int ((2 : Int32) * ((2 : Int32) * ((2 : Int32) * x1)))), (.int x0), (.long (r5 (c97_50_0_a x0 x1))), (.int (2 : Int32)), (.ref b3)])) (X25.iaload hx (j := (3 : Int32)) (v := (.int ((2 : Int32) * ((2 : Int32) * ((2 : Int32) * x1))))) (by rw [e25]; exact Ar28.1) (State.isArrayOf_alike hZ.alike Ar28.2.1) Ar28.2.2 hin28 hat28 (g := (mkF m 49 #[iv x0, iv x1, iv (7 : Int32), rv b1, rv b3, iv (2 : Int32)] [(.int (3 : Int32)), (.ref b1), (.int x0), (.long (r5 (c97_50_0_a x0 x1))), (.int (2 : Int32)), (.ref b3)])) rfl rfl (hb hby d8_49)) ?_
  obtain ⟨_, _, ⟨T29, L29, k29, n29⟩, -, X29, ⟨Lc29, hQ29, l29, y29, z29⟩, st29⟩ := Jvm.LawKit.callS X25 hx (y := ym5) hown (mvT hZ w_27) (mvT hZ w_28) (mvT hZ w_7) (mvT hZ w_29) (by decide) (backOf (W := 4) (rm7 l Z a0 hw [] x0 (c97_50_0_b x0 x1) h21 n0 Zn21 (by first | assumption | exact p1 | exact p2)) hZ w_29 w_7 (by decide) (by decide)) (g := (mkF m 50 #[iv x0, iv x1, iv (7 : Int32), rv b1, rv b3, iv (2 : Int32)] [(.int (c97_50_0_b x0 x1)), (.int x0), (.long (r5 (c97_50_0_a x0 x1))), (.int (2 : Int32)), (.ref b3)])) rfl (by rw [hml]; rfl) (argsL := [(.int x0), (.int (c97_50_0_b x0 x1))]) (rest := [(.long (r5 (c97_50_0_a x0 x1))), (.int (2 : Int32)), (.ref b3)]) (lenOf pd97_2 rfl) rfl (by show 2 * 0 + _ ≤ _; exact Nat.le_of_eq rfl) (hb hby d8_50) (fun _ _ => ⟨rfl, e25, (by decide : 2 + 0 ≤ _), (by decide : 15 + 0 ≤ _)⟩)
  dsimp only [Pt.U, Pt.locs, Pt.cells, Pt.slots] at X29 l29 y29 z29 st29 hQ29
  subst l29 y29 z29
  obtain ⟨rfl, N29q, e29⟩ := hQ29
  have N29 := Fr.app N25 N29q
  refine Goes.st (B := T29.setTop (mkF m 53 #[iv x0, iv x1, iv (7 : Int32), rv b1, rv b3, iv (2 : Int32)] [(.long (r7 x0 (c97_50_0_b x0 x1))), (.long (r5 (c97_50_0_a x0 x1))), (.int (2 : Int32)), (.ref b3)])) st29 ?_
  refine Goes.run X29 hx hown hci hcl hby (L := [(53, .goto 4, 3), (57, .ladd, 1)]) (by decide +kernel) rfl (g' := (mkF m 58 #[iv x0, iv x1, iv (7 : Int32), rv b1, rv b3, iv (2 : Int32)] [(.long ((r5 (c97_50_0_a x0 x1)) + (r7 x0 (c97_50_0_b x0 x1)))), (.int (2 : Int32)), (.ref b3)])) rfl ?_
  obtain ⟨cl30, Ar30, q30, S30, M30, Hs30, G30⟩ := id V_b3
  have hin30 : ¬ ((2 : Int32) < 0 ∨ cl30.slots.size ≤ ((2 : Int32)).toNatClampNeg) := inb_of S30 ⟨(by decide), (by decide)⟩
  obtain ⟨T30, h30, X30, e30, W30, st30⟩ := stJ X29 hx hZ e29 Ar30 (j := (2 : Int32)) hin30 (g := (mkF m 58 #[iv x0, iv x1, iv (7 : Int32), rv b1, rv b3, iv (2 : Int32)] [(.long ((r5 (c97_50_0_a x0 x1)) + (r7 x0 (c97_50_0_b x0 x1)))), (.int (2 : Int32)), (.ref b3)])) rfl rfl (hb hby d8_58)
  have E_b1 := E_b1.wr W30
  have V_b1 := V_b1.other W30 ne_b1_b3
  have E_b3 := E_b3.wr W30
  have Zn30 : n0 ≤ h30.size := Nat.le_trans Zn21 (Keep.of_wr W30).1
  have K30 := K21.wr W30 (Or.inr sz_b3)
  have N30 := Fr.snoc X30 N29 g_b3
  have V_b3 : Arv Z h30 b3 k3 .long (7 : Int32) [(.long ((r5 x1) + (r7 x0 (c97_50_0 x0 x1)))), (.long ((r5 (c97_50_0 x0 x1)) + (r7 x0 (c97_50_0_a x0 x1)))), (.long ((r5 (c97_50_0_a x0 x1)) + (r7 x0 (c97_50_0_b x0 x1)))), (.long (0 : Int64)), (.long (0 : Int64)), (.long (0 : Int64)), (.long (0 : Int64))] (.long (0 : Int64)) := Arv.set Ar30 q30 S30 M30 Hs30 G30 rfl W30 2 rfl (Nat.le_of_ble_eq_true rfl)
  refine Goes.st (B := T30.setTop (mkF m 59 #[iv x0, iv x1, iv (7 : Int32), rv b1, rv b3, iv (2 : Int32)] [])) st30 ?_
  refine Goes.run X30 hx hown hci hcl hby (L := [(59, .iinc 5 1, 3), (62, .goto (-46), 3), (16, .iload 5, 2), (18, .aload_n 3, 1)]) (by decide +kernel) rfl (g' := (mkF m 19 #[iv x0, iv x1, iv (7 : Int32), rv b1, rv b3, iv (3 : Int32)] [(.ref b1), (.int (3 : Int32))])) rfl ?_
  obtain ⟨cl31, Ar31, q31, S31, M31, Hs31, G31⟩ := id V_b1
  refine Goes.st (B := T30.setTop (mkF m 20 #[iv x0, iv x1, iv (7 : Int32), rv b1, rv b3, iv (3 : Int32)] [(.int (7 : Int32)), (.int (3 : Int32))])) (fun t k => ?_) ?_
  · refine X30.arraylength hx (cell := cl31) (by rw [e30]; exact Ar31.1) (State.isArrayOf_alike hZ.alike Ar31.2.1) (g := (mkF m 19 #[iv x0, iv x1, iv (7 : Int32), rv b1, rv b3, iv (3 : Int32)] [(.ref b1), (.int (3 : Int32))])) rfl (rest := [(.int (3 : Int32))]) rfl (hb hby d8_19) _ ?_
    rw [len_of S31 M31]
    exact k
  have hc20_32 : (3 : Int32) < (7 : Int32) := by decide
  refine Goes.st (B := T30.setTop (mkF m 23 #[iv x0, iv x1, iv (7 : Int32), rv b1, rv b3, iv (3 : Int32)] [])) (fun t k => ?_) ?_
  · refine XS.icmpNo X30.here hx rfl (hb hby d8_20) rfl (tlt hc20_32).2.1 ?_
    exact k
  refine Goes.run X30 hx hown hci hcl hby (L := [(23, .aload 4, 2), (25, .iload 5, 2), (27, .aload_n 3, 1), (28, .iload 5, 2)]) (by decide +kernel) rfl (g' := (mkF m 30 #[iv x0, iv x1, iv (7 : Int32), rv b1, rv b3, iv (3 : Int32)] [(.int (3 : Int32)), (.ref b1), (.int (3 : Int32)), (.ref b3)])) rfl ?_
  obtain ⟨cl33, Ar33, q33, S33, M33, Hs33, G33⟩ := id V_b1
  have hin33 : ¬ ((3 : Int32) < 0 ∨ cl33.slots.size ≤ ((3 : Int32)).toNatClampNeg) := inb_of S33 ⟨(by decide), (by decide)⟩
  have hat33 : cl33.slots[((3 : Int32)).toNatClampNeg]? = some (.int ((2 : Int32) * ((2 : Int32) * ((2 : Int32) * x1)))) := Hs33.at hin33 rfl
  refine Goes.st (B := T30.setTop (mkF m 31 #[iv x0, iv x1, iv (7 : Int32), rv b1, rv b3, iv (3 : Int32)] [(.int ((2 : Int32) * ((2 : Int32) * ((2 : Int32) * x1)))), (.int (3 : Int32)), (.ref b3)])) (X30.iaload hx (j := (3 : Int32)) (v := (.int ((2 : Int32) * ((2 : Int32) * ((2 : Int32) * x1))))) (by rw [e30]; exact Ar33.1) (State.isArrayOf_alike hZ.alike Ar33.2.1) Ar33.2.2 hin33 hat33 (g := (mkF m 30 #[iv x0, iv x1, iv (7 : Int32), rv b1, rv b3, iv (3 : Int32)] [(.int (3 : Int32)), (.ref b1), (.int (3 : Int32)), (.ref b3)])) rfl rfl (hb hby d8_30)) ?_
  obtain ⟨_, _, ⟨T34, L34, k34, n34⟩, -, X34, ⟨Lc34, hQ34, l34, y34, z34⟩, st34⟩ := Jvm.LawKit.callS X30 hx (y := ym3) hown (mvT hZ w_19) (mvT hZ w_20) (mvT hZ w_7) (mvT hZ w_21) (by decide) (backOf (W := 2) (rm5 l Z a0 hw [] (c97_50_0_b x0 x1) h30 n0 Zn30 ) hZ w_21 w_7 (by decide) (by decide)) (g := (mkF m 31 #[iv x0, iv x1, iv (7 : Int32), rv b1, rv b3, iv (3 : Int32)] [(.int (c97_50_0_b x0 x1)), (.int (3 : Int32)), (.ref b3)])) rfl (by rw [hml]; rfl) (argsL := [(.int (c97_50_0_b x0 x1))]) (rest := [(.int (3 : Int32)), (.ref b3)]) (lenOf pd97_1 rfl) rfl (by show 2 * 0 + _ ≤ _; exact Nat.le_of_eq rfl) (hb hby d8_31) (fun _ _ => ⟨rfl, e30, (by decide : 2 + 0 ≤ _), (by decide : 15 + 0 ≤ _)⟩)
  dsimp only [Pt.U, Pt.locs, Pt.cells, Pt.slots] at X34 l34 y34 z34 st34 hQ34
  subst l34 y34 z34
  obtain ⟨rfl, N34q, e34⟩ := hQ34
  have N34 := Fr.app N30 N34q
  refine Goes.st (B := T34.setTop (mkF m 34 #[iv x0, iv x1, iv (7 : Int32), rv b1, rv b3, iv (3 : Int32)] [(.long (r5 (c97_50_0_b x0 x1))), (.int (3 : Int32)), (.ref b3)])) st34 ?_
  refine Goes.run X34 hx hown hci hcl hby (L := [(34, .iload 5, 2), (36, .iconst 1, 1), (37, .iadd, 1), (38, .aload_n 3, 1)]) (by decide +kernel) rfl (g' := (mkF m 39 #[iv x0, iv x1, iv (7 : Int32), rv b1, rv b3, iv (3 : Int32)] [(.ref b1), (.int (4 : Int32)), (.long (r5 (c97_50_0_b x0 x1))), (.int (3 : Int32)), (.ref b3)])) rfl ?_
  obtain ⟨cl35, Ar35, q35, S35, M35, Hs35, G35⟩ := id V_b1
  refine Goes.st (B := T34.setTop (mkF m 40 #[iv x0, iv x1, iv (7 : Int32), rv b1, rv b3, iv (3 : Int32)] [(.int (7 : Int32)), (.int (4 : Int32)), (.long (r5 (c97_50_0_b x0 x1))), (.int (3 : Int32)), (.ref b3)])) (fun t k => ?_) ?_
  · refine X34.arraylength hx (cell := cl35) (by rw [e34]; exact Ar35.1) (State.isArrayOf_alike hZ.alike Ar35.2.1) (g := (mkF m 39 #[iv x0, iv x1, iv (7 : Int32), rv b1, rv b3, iv (3 : Int32)] [(.ref b1), (.int (4 : Int32)), (.long (r5 (c97_50_0_b x0 x1))), (.int (3 : Int32)), (.ref b3)])) rfl (rest := [(.int (4 : Int32)), (.long (r5 (c97_50_0_b x0 x1))), (.int (3 : Int32)), (.ref b3)]) rfl (hb hby d8_39) _ ?_
    rw [len_of S35 M35]
    exact k
  have hc40_36 : (4 : Int32) < (7 : Int32) := by decide
  refine Goes.st (B := T34.setTop (mkF m 43 #[iv x0, iv x1, iv (7 : Int32), rv b1, rv b3, iv (3 : Int32)] [(.long (r5 (c97_50_0_b x0 x1))), (.int (3 : Int32)), (.ref b3)])) (fun t k => ?_) ?_
  · refine XS.icmpNo X34.here hx rfl (hb hby d8_40) rfl (tlt hc40_36).2.1 ?_
    exact k
  refine Goes.run X34 hx hown hci hcl hby (L := [(43, .iload_n 0, 1), (44, .aload_n 3, 1), (45, .iload 5, 2), (47, .iconst 1, 1), (48, .iadd, 1)]) (by decide +kernel) rfl (g' := (mkF m 49 #[iv x0, iv x1, iv (7 : Int32), rv b1, rv b3, iv (3 : Int32)] [(.int (4 : Int32)), (.ref b1), (.int x0), (.long (r5 (c97_50_0_b x0 x1))), (.int (3 : Int32)), (.ref b3)])) rfl ?_
  obtain ⟨cl37, Ar37, q37, S37, M37, Hs37, G37⟩ := id V_b1
  have hin37 : ¬ ((4 : Int32) < 0 ∨ cl37.slots.size ≤ ((4 : Int32)).toNatClampNeg) := inb_of S37 ⟨(by decide), (by decide)⟩
  have hat37 : cl37.slots[((4 : Int32)).toNatClampNeg]? = some (.int ((2 : Int32) * ((2 : Int32) * ((2 : Int32) * ((2 : Int32) * x1))))) := Hs37.at hin37 rfl
  refine Goes.st (B := T34.setTop (mkF m 50 #[iv x0, iv x1, iv (7 : Int32), rv b1, rv b3, iv (3 : Int32)] [(.int ((2 : Int32) * ((2 : Int32) * ((2 : Int32) * ((2 : Int32) * x1))))), (.int x0), (.long (r5 (c97_50_0_b x0 x1))), (.int (3 : Int32)), (.ref b3)])) (X34.iaload hx (j := (4 : Int32)) (v := (.int ((2 : Int32) * ((2 : Int32) * ((2 : Int32) * ((2 : Int32) * x1)))))) (by rw [e34]; exact Ar37.1) (State.isArrayOf_alike hZ.alike Ar37.2.1) Ar37.2.2 hin37 hat37 (g := (mkF m 49 #[iv x0, iv x1, iv (7 : Int32), rv b1, rv b3, iv (3 : Int32)] [(.int (4 : Int32)), (.ref b1), (.int x0), (.long (r5 (c97_50_0_b x0 x1))), (.int (3 : Int32)), (.ref b3)])) rfl rfl (hb hby d8_49)) ?_
  obtain ⟨_, _, ⟨T38, L38, k38, n38⟩, -, X38, ⟨Lc38, hQ38, l38, y38, z38⟩, st38⟩ := Jvm.LawKit.callS X34 hx (y := ym5) hown (mvT hZ w_27) (mvT hZ w_28) (mvT hZ w_7) (mvT hZ w_29) (by decide) (backOf (W := 4) (rm7 l Z a0 hw [] x0 (c97_50_0_c x0 x1) h30 n0 Zn30 (by first | assumption | exact p1 | exact p2)) hZ w_29 w_7 (by decide) (by decide)) (g := (mkF m 50 #[iv x0, iv x1, iv (7 : Int32), rv b1, rv b3, iv (3 : Int32)] [(.int (c97_50_0_c x0 x1)), (.int x0), (.long (r5 (c97_50_0_b x0 x1))), (.int (3 : Int32)), (.ref b3)])) rfl (by rw [hml]; rfl) (argsL := [(.int x0), (.int (c97_50_0_c x0 x1))]) (rest := [(.long (r5 (c97_50_0_b x0 x1))), (.int (3 : Int32)), (.ref b3)]) (lenOf pd97_2 rfl) rfl (by show 2 * 0 + _ ≤ _; exact Nat.le_of_eq rfl) (hb hby d8_50) (fun _ _ => ⟨rfl, e34, (by decide : 2 + 0 ≤ _), (by decide : 15 + 0 ≤ _)⟩)
  dsimp only [Pt.U, Pt.locs, Pt.cells, Pt.slots] at X38 l38 y38 z38 st38 hQ38
  subst l38 y38 z38
  obtain ⟨rfl, N38q, e38⟩ := hQ38
  have N38 := Fr.app N34 N38q
  refine Goes.st (B := T38.setTop (mkF m 53 #[iv x0, iv x1, iv (7 : Int32), rv b1, rv b3, iv (3 : Int32)] [(.long (r7 x0 (c97_50_0_c x0 x1))), (.long (r5 (c97_50_0_b x0 x1))), (.int (3 : Int32)), (.ref b3)])) st38 ?_
  refine Goes.run X38 hx hown hci hcl hby (L := [(53, .goto 4, 3), (57, .ladd, 1)]) (by decide +kernel) rfl (g' := (mkF m 58 #[iv x0, iv x1, iv (7 : Int32), rv b1, rv b3, iv (3 : Int32)] [(.long ((r5 (c97_50_0_b x0 x1)) + (r7 x0 (c97_50_0_c x0 x1)))), (.int (3 : Int32)), (.ref b3)])) rfl ?_
  obtain ⟨cl39, Ar39, q39, S39, M39, Hs39, G39⟩ := id V_b3
  have hin39 : ¬ ((3 : Int32) < 0 ∨ cl39.slots.size ≤ ((3 : Int32)).toNatClampNeg) := inb_of S39 ⟨(by decide), (by decide)⟩
  obtain ⟨T39, h39, X39, e39, W39, st39⟩ := stJ X38 hx hZ e38 Ar39 (j := (3 : Int32)) hin39 (g := (mkF m 58 #[iv x0, iv x1, iv (7 : Int32), rv b1, rv b3, iv (3 : Int32)] [(.long ((r5 (c97_50_0_b x0 x1)) + (r7 x0 (c97_50_0_c x0 x1)))), (.int (3 : Int32)), (.ref b3)])) rfl rfl (hb hby d8_58)
  have E_b1 := E_b1.wr W39
  have V_b1 := V_b1.other W39 ne_b1_b3
  have E_b3 := E_b3.wr W39
  have Zn39 : n0 ≤ h39.size := Nat.le_trans Zn30 (Keep.of_wr W39).1
  have K39 := K30.wr W39 (Or.inr sz_b3)
  have N39 := Fr.snoc X39 N38 g_b3
  have V_b3 : Arv Z h39 b3 k3 .long (7 : Int32) [(.long ((r5 x1) + (r7 x0 (c97_50_0 x0 x1)))), (.long ((r5 (c97_50_0 x0 x1)) + (r7 x0 (c97_50_0_a x0 x1)))), (.long ((r5 (c97_50_0_a x0 x1)) + (r7 x0 (c97_50_0_b x0 x1)))), (.long ((r5 (c97_50_0_b x0 x1)) + (r7 x0 (c97_50_0_c x0 x1)))), (.long (0 : Int64)), (.long (0 : Int64)), (.long (0 : Int64))] (.long (0 : Int64)) := Arv.set Ar39 q39 S39 M39 Hs39 G39 rfl W39 3 rfl (Nat.le_of_ble_eq_true rfl)
  refine Goes.st (B := T39.setTop (mkF m 59 #[iv x0, iv x1, iv (7 : Int32), rv b1, rv b3, iv (3 : Int32)] [])) st39 ?_
  refine Goes.run X39 hx hown hci hcl hby (L := [(59, .iinc 5 1, 3), (62, .goto (-46), 3), (16, .iload 5, 2), (18, .aload_n 3, 1)]) (by decide +kernel) rfl (g' := (mkF m 19 #[iv x0, iv x1, iv (7 : Int32), rv b1, rv b3, iv (4 : Int32)] [(.ref b1), (.int (4 : Int32))])) rfl ?_
  obtain ⟨cl40, Ar40, q40, S40, M40, Hs40, G40⟩ := id V_b1
  refine Goes.st (B := T39.setTop (mkF m 20 #[iv x0, iv x1, iv (7 : Int32), rv b1, rv b3, iv (4 : Int32)] [(.int (7 : Int32)), (.int (4 : Int32))])) (fun t k => ?_) ?_
  · refine X39.arraylength hx (cell := cl40) (by rw [e39]; exact Ar40.1) (State.isArrayOf_alike hZ.alike Ar40.2.1) (g := (mkF m 19 #[iv x0, iv x1, iv (7 : Int32), rv b1, rv b3, iv (4 : Int32)] [(.ref b1), (.int (4 : Int32))])) rfl (rest := [(.int (4 : Int32))]) rfl (hb hby d8_19) _ ?_
    rw [len_of S40 M40]
    exact k
  have hc20_41 : (4 : Int32) < (7 : Int32) := by decide
  refine Goes.st (B := T39.setTop (mkF m 23 #[iv x0, iv x1, iv (7 : Int32), rv b1, rv b3, iv (4 : Int32)] [])) (fun t k => ?_) ?_
  · refine XS.icmpNo X39.here hx rfl (hb hby d8_20) rfl (tlt hc20_41).2.1 ?_
    exact k
  refine Goes.run X39 hx hown hci hcl hby (L := [(23, .aload 4, 2), (25, .iload 5, 2), (27, .aload_n 3, 1), (28, .iload 5, 2)]) (by decide +kernel) rfl (g' := (mkF m 30 #[iv x0, iv x1, iv (7 : Int32), rv b1, rv b3, iv (4 : Int32)] [(.int (4 : Int32)), (.ref b1), (.int (4 : Int32)), (.ref b3)])) rfl ?_
  obtain ⟨cl42, Ar42, q42, S42, M42, Hs42, G42⟩ := id V_b1
  have hin42 : ¬ ((4 : Int32) < 0 ∨ cl42.slots.size ≤ ((4 : Int32)).toNatClampNeg) := inb_of S42 ⟨(by decide), (by decide)⟩
  have hat42 : cl42.slots[((4 : Int32)).toNatClampNeg]? = some (.int ((2 : Int32) * ((2 : Int32) * ((2 : Int32) * ((2 : Int32) * x1))))) := Hs42.at hin42 rfl
  refine Goes.st (B := T39.setTop (mkF m 31 #[iv x0, iv x1, iv (7 : Int32), rv b1, rv b3, iv (4 : Int32)] [(.int ((2 : Int32) * ((2 : Int32) * ((2 : Int32) * ((2 : Int32) * x1))))), (.int (4 : Int32)), (.ref b3)])) (X39.iaload hx (j := (4 : Int32)) (v := (.int ((2 : Int32) * ((2 : Int32) * ((2 : Int32) * ((2 : Int32) * x1)))))) (by rw [e39]; exact Ar42.1) (State.isArrayOf_alike hZ.alike Ar42.2.1) Ar42.2.2 hin42 hat42 (g := (mkF m 30 #[iv x0, iv x1, iv (7 : Int32), rv b1, rv b3, iv (4 : Int32)] [(.int (4 : Int32)), (.ref b1), (.int (4 : Int32)), (.ref b3)])) rfl rfl (hb hby d8_30)) ?_
  obtain ⟨_, _, ⟨T43, L43, k43, n43⟩, -, X43, ⟨Lc43, hQ43, l43, y43, z43⟩, st43⟩ := Jvm.LawKit.callS X39 hx (y := ym3) hown (mvT hZ w_19) (mvT hZ w_20) (mvT hZ w_7) (mvT hZ w_21) (by decide) (backOf (W := 2) (rm5 l Z a0 hw [] (c97_50_0_c x0 x1) h39 n0 Zn39 ) hZ w_21 w_7 (by decide) (by decide)) (g := (mkF m 31 #[iv x0, iv x1, iv (7 : Int32), rv b1, rv b3, iv (4 : Int32)] [(.int (c97_50_0_c x0 x1)), (.int (4 : Int32)), (.ref b3)])) rfl (by rw [hml]; rfl) (argsL := [(.int (c97_50_0_c x0 x1))]) (rest := [(.int (4 : Int32)), (.ref b3)]) (lenOf pd97_1 rfl) rfl (by show 2 * 0 + _ ≤ _; exact Nat.le_of_eq rfl) (hb hby d8_31) (fun _ _ => ⟨rfl, e39, (by decide : 2 + 0 ≤ _), (by decide : 15 + 0 ≤ _)⟩)
  dsimp only [Pt.U, Pt.locs, Pt.cells, Pt.slots] at X43 l43 y43 z43 st43 hQ43
  subst l43 y43 z43
  obtain ⟨rfl, N43q, e43⟩ := hQ43
  have N43 := Fr.app N39 N43q
  refine Goes.st (B := T43.setTop (mkF m 34 #[iv x0, iv x1, iv (7 : Int32), rv b1, rv b3, iv (4 : Int32)] [(.long (r5 (c97_50_0_c x0 x1))), (.int (4 : Int32)), (.ref b3)])) st43 ?_
  refine Goes.run X43 hx hown hci hcl hby (L := [(34, .iload 5, 2), (36, .iconst 1, 1), (37, .iadd, 1), (38, .aload_n 3, 1)]) (by decide +kernel) rfl (g' := (mkF m 39 #[iv x0, iv x1, iv (7 : Int32), rv b1, rv b3, iv (4 : Int32)] [(.ref b1), (.int (5 : Int32)), (.long (r5 (c97_50_0_c x0 x1))), (.int (4 : Int32)), (.ref b3)])) rfl ?_
  obtain ⟨cl44, Ar44, q44, S44, M44, Hs44, G44⟩ := id V_b1
  refine Goes.st (B := T43.setTop (mkF m 40 #[iv x0, iv x1, iv (7 : Int32), rv b1, rv b3, iv (4 : Int32)] [(.int (7 : Int32)), (.int (5 : Int32)), (.long (r5 (c97_50_0_c x0 x1))), (.int (4 : Int32)), (.ref b3)])) (fun t k => ?_) ?_
  · refine X43.arraylength hx (cell := cl44) (by rw [e43]; exact Ar44.1) (State.isArrayOf_alike hZ.alike Ar44.2.1) (g := (mkF m 39 #[iv x0, iv x1, iv (7 : Int32), rv b1, rv b3, iv (4 : Int32)] [(.ref b1), (.int (5 : Int32)), (.long (r5 (c97_50_0_c x0 x1))), (.int (4 : Int32)), (.ref b3)])) rfl (rest := [(.int (5 : Int32)), (.long (r5 (c97_50_0_c x0 x1))), (.int (4 : Int32)), (.ref b3)]) rfl (hb hby d8_39) _ ?_
    rw [len_of S44 M44]
    exact k
  have hc40_45 : (5 : Int32) < (7 : Int32) := by decide
  refine Goes.st (B := T43.setTop (mkF m 43 #[iv x0, iv x1, iv (7 : Int32), rv b1, rv b3, iv (4 : Int32)] [(.long (r5 (c97_50_0_c x0 x1))), (.int (4 : Int32)), (.ref b3)])) (fun t k => ?_) ?_
  · refine XS.icmpNo X43.here hx rfl (hb hby d8_40) rfl (tlt hc40_45).2.1 ?_
    exact k
  refine Goes.run X43 hx hown hci hcl hby (L := [(43, .iload_n 0, 1), (44, .aload_n 3, 1), (45, .iload 5, 2), (47, .iconst 1, 1), (48, .iadd, 1)]) (by decide +kernel) rfl (g' := (mkF m 49 #[iv x0, iv x1, iv (7 : Int32), rv b1, rv b3, iv (4 : Int32)] [(.int (5 : Int32)), (.ref b1), (.int x0), (.long (r5 (c97_50_0_c x0 x1))), (.int (4 : Int32)), (.ref b3)])) rfl ?_
  obtain ⟨cl46, Ar46, q46, S46, M46, Hs46, G46⟩ := id V_b1
  have hin46 : ¬ ((5 : Int32) < 0 ∨ cl46.slots.size ≤ ((5 : Int32)).toNatClampNeg) := inb_of S46 ⟨(by decide), (by decide)⟩
  have hat46 : cl46.slots[((5 : Int32)).toNatClampNeg]? = some (.int ((2 : Int32) * ((2 : Int32) * ((2 : Int32) * ((2 : Int32) * ((2 : Int32) * x1)))))) := Hs46.at hin46 rfl
  refine Goes.st (B := T43.setTop (mkF m 50 #[iv x0, iv x1, iv (7 : Int32), rv b1, rv b3, iv (4 : Int32)] [(.int ((2 : Int32) * ((2 : Int32) * ((2 : Int32) * ((2 : Int32) * ((2 : Int32) * x1)))))), (.int x0), (.long (r5 (c97_50_0_c x0 x1))), (.int (4 : Int32)), (.ref b3)])) (X43.iaload hx (j := (5 : Int32)) (v := (.int ((2 : Int32) * ((2 : Int32) * ((2 : Int32) * ((2 : Int32) * ((2 : Int32) * x1))))))) (by rw [e43]; exact Ar46.1) (State.isArrayOf_alike hZ.alike Ar46.2.1) Ar46.2.2 hin46 hat46 (g := (mkF m 49 #[iv x0, iv x1, iv (7 : Int32), rv b1, rv b3, iv (4 : Int32)] [(.int (5 : Int32)), (.ref b1), (.int x0), (.long (r5 (c97_50_0_c x0 x1))), (.int (4 : Int32)), (.ref b3)])) rfl rfl (hb hby d8_49)) ?_
  obtain ⟨_, _, ⟨T47, L47, k47, n47⟩, -, X47, ⟨Lc47, hQ47, l47, y47, z47⟩, st47⟩ := Jvm.LawKit.callS X43 hx (y := ym5) hown (mvT hZ w_27) (mvT hZ w_28) (mvT hZ w_7) (mvT hZ w_29) (by decide) (backOf (W := 4) (rm7 l Z a0 hw [] x0 (c97_50_0_d x0 x1) h39 n0 Zn39 (by first | assumption | exact p1 | exact p2)) hZ w_29 w_7 (by decide) (by decide)) (g := (mkF m 50 #[iv x0, iv x1, iv (7 : Int32), rv b1, rv b3, iv (4 : Int32)] [(.int (c97_50_0_d x0 x1)), (.int x0), (.long (r5 (c97_50_0_c x0 x1))), (.int (4 : Int32)), (.ref b3)])) rfl (by rw [hml]; rfl) (argsL := [(.int x0), (.int (c97_50_0_d x0 x1))]) (rest := [(.long (r5 (c97_50_0_c x0 x1))), (.int (4 : Int32)), (.ref b3)]) (lenOf pd97_2 rfl) rfl (by show 2 * 0 + _ ≤ _; exact Nat.le_of_eq rfl) (hb hby d8_50) (fun _ _ => ⟨rfl, e43, (by decide : 2 + 0 ≤ _), (by decide : 15 + 0 ≤ _)⟩)
  dsimp only [Pt.U, Pt.locs, Pt.cells, Pt.slots] at X47 l47 y47 z47 st47 hQ47
  subst l47 y47 z47
  obtain ⟨rfl, N47q, e47⟩ := hQ47
  have N47 := Fr.app N43 N47q
  refine Goes.st (B := T47.setTop (mkF m 53 #[iv x0, iv x1, iv (7 : Int32), rv b1, rv b3, iv (4 : Int32)] [(.long (r7 x0 (c97_50_0_d x0 x1))), (.long (r5 (c97_50_0_c x0 x1))), (.int (4 : Int32)), (.ref b3)])) st47 ?_
  refine Goes.run X47 hx hown hci hcl hby (L := [(53, .goto 4, 3), (57, .ladd, 1)]) (by decide +kernel) rfl (g' := (mkF m 58 #[iv x0, iv x1, iv (7 : Int32), rv b1, rv b3, iv (4 : Int32)] [(.long ((r5 (c97_50_0_c x0 x1)) + (r7 x0 (c97_50_0_d x0 x1)))), (.int (4 : Int32)), (.ref b3)])) rfl ?_
  obtain ⟨cl48, Ar48, q48, S48, M48, Hs48, G48⟩ := id V_b3
  have hin48 : ¬ ((4 : Int32) < 0 ∨ cl48.slots.size ≤ ((4 : Int32)).toNatClampNeg) := inb_of S48 ⟨(by decide), (by decide)⟩
  obtain ⟨T48, h48, X48, e48, W48, st48⟩ := stJ X47 hx hZ e47 Ar48 (j := (4 : Int32)) hin48 (g := (mkF m 58 #[iv x0, iv x1, iv (7 : Int32), rv b1, rv b3, iv (4 : Int32)] [(.long ((r5 (c97_50_0_c x0 x1)) + (r7 x0 (c97_50_0_d x0 x1)))), (.int (4 : Int32)), (.ref b3)])) rfl rfl (hb hby d8_58)
  have E_b1 := E_b1.wr W48
  have V_b1 := V_b1.other W48 ne_b1_b3
  have E_b3 := E_b3.wr W48
  have Zn48 : n0 ≤ h48.size := Nat.le_trans Zn39 (Keep.of_wr W48).1
  have K48 := K39.wr W48 (Or.inr sz_b3)
  have N48 := Fr.snoc X48 N47 g_b3
  have V_b3 : Arv Z h48 b3 k3 .long (7 : Int32) [(.long ((r5 x1) + (r7 x0 (c97_50_0 x0 x1)))), (.long ((r5 (c97_50_0 x0 x1)) + (r7 x0 (c97_50_0_a x0 x1)))), (.long ((r5 (c97_50_0_a x0 x1)) + (r7 x0 (c97_50_0_b x0 x1)))), (.long ((r5 (c97_50_0_b x0 x1)) + (r7 x0 (c97_50_0_c x0 x1)))), (.long ((r5 (c97_50_0_c x0 x1)) + (r7 x0 (c97_50_0_d x0 x1)))), (.long (0 : Int64)), (.long (0 : Int64))] (.long (0 : Int64)) := Arv.set Ar48 q48 S48 M48 Hs48 G48 rfl W48 4 rfl (Nat.le_of_ble_eq_true rfl)
  refine Goes.st (B := T48.setTop (mkF m 59 #[iv x0, iv x1, iv (7 : Int32), rv b1, rv b3, iv (4 : Int32)] [])) st48 ?_
  refine Goes.run X48 hx hown hci hcl hby (L := [(59, .iinc 5 1, 3), (62, .goto (-46), 3), (16, .iload 5, 2), (18, .aload_n 3, 1)]) (by decide +kernel) rfl (g' := (mkF m 19 #[iv x0, iv x1, iv (7 : Int32), rv b1, rv b3, iv (5 : Int32)] [(.ref b1), (.int (5 : Int32))])) rfl ?_
  obtain ⟨cl49, Ar49, q49, S49, M49, Hs49, G49⟩ := id V_b1
  refine Goes.st (B := T48.setTop (mkF m 20 #[iv x0, iv x1, iv (7 : Int32), rv b1, rv b3, iv (5 : Int32)] [(.int (7 : Int32)), (.int (5 : Int32))])) (fun t k => ?_) ?_
  · refine X48.arraylength hx (cell := cl49) (by rw [e48]; exact Ar49.1) (State.isArrayOf_alike hZ.alike Ar49.2.1) (g := (mkF m 19 #[iv x0, iv x1, iv (7 : Int32), rv b1, rv b3, iv (5 : Int32)] [(.ref b1), (.int (5 : Int32))])) rfl (rest := [(.int (5 : Int32))]) rfl (hb hby d8_19) _ ?_
    rw [len_of S49 M49]
    exact k
  have hc20_50 : (5 : Int32) < (7 : Int32) := by decide
  refine Goes.st (B := T48.setTop (mkF m 23 #[iv x0, iv x1, iv (7 : Int32), rv b1, rv b3, iv (5 : Int32)] [])) (fun t k => ?_) ?_
  · refine XS.icmpNo X48.here hx rfl (hb hby d8_20) rfl (tlt hc20_50).2.1 ?_
    exact k
  refine Goes.run X48 hx hown hci hcl hby (L := [(23, .aload 4, 2), (25, .iload 5, 2), (27, .aload_n 3, 1), (28, .iload 5, 2)]) (by decide +kernel) rfl (g' := (mkF m 30 #[iv x0, iv x1, iv (7 : Int32), rv b1, rv b3, iv (5 : Int32)] [(.int (5 : Int32)), (.ref b1), (.int (5 : Int32)), (.ref b3)])) rfl ?_
  obtain ⟨cl51, Ar51, q51, S51, M51, Hs51, G51⟩ := id V_b1
  have hin51 : ¬ ((5 : Int32) < 0 ∨ cl51.slots.size ≤ ((5 : Int32)).toNatClampNeg) := inb_of S51 ⟨(by decide), (by decide)⟩
  have hat51 : cl51.slots[((5 : Int32)).toNatClampNeg]? = some (.int ((2 : Int32) * ((2 : Int32) * ((2 : Int32) * ((2 : Int32) * ((2 : Int32) * x1)))))) := Hs51.at hin51 rfl
  refine Goes.st (B := T48.setTop (mkF m 31 #[iv x0, iv x1, iv (7 : Int32), rv b1, rv b3, iv (5 : Int32)] [(.int ((2 : Int32) * ((2 : Int32) * ((2 : Int32) * ((2 : Int32) * ((2 : Int32) * x1)))))), (.int (5 : Int32)), (.ref b3)])) (X48.iaload hx (j := (5 : Int32)) (v := (.int ((2 : Int32) * ((2 : Int32) * ((2 : Int32) * ((2 : Int32) * ((2 : Int32) * x1))))))) (by rw [e48]; exact Ar51.1) (State.isArrayOf_alike hZ.alike Ar51.2.1) Ar51.2.2 hin51 hat51 (g := (mkF m 30 #[iv x0, iv x1, iv (7 : Int32), rv b1, rv b3, iv (5 : Int32)] [(.int (5 : Int32)), (.ref b1), (.int (5 : Int32)), (.ref b3)])) rfl rfl (hb hby d8_30)) ?_
  obtain ⟨_, _, ⟨T52, L52, k52, n52⟩, -, X52, ⟨Lc52, hQ52, l52, y52, z52⟩, st52⟩ := Jvm.LawKit.callS X48 hx (y := ym3) hown (mvT hZ w_19) (mvT hZ w_20) (mvT hZ w_7) (mvT hZ w_21) (by decide) (backOf (W := 2) (rm5 l Z a0 hw [] (c97_50_0_d x0 x1) h48 n0 Zn48 ) hZ w_21 w_7 (by decide) (by decide)) (g := (mkF m 31 #[iv x0, iv x1, iv (7 : Int32), rv b1, rv b3, iv (5 : Int32)] [(.int (c97_50_0_d x0 x1)), (.int (5 : Int32)), (.ref b3)])) rfl (by rw [hml]; rfl) (argsL := [(.int (c97_50_0_d x0 x1))]) (rest := [(.int (5 : Int32)), (.ref b3)]) (lenOf pd97_1 rfl) rfl (by show 2 * 0 + _ ≤ _; exact Nat.le_of_eq rfl) (hb hby d8_31) (fun _ _ => ⟨rfl, e48, (by decide : 2 + 0 ≤ _), (by decide : 15 + 0 ≤ _)⟩)
  dsimp only [Pt.U, Pt.locs, Pt.cells, Pt.slots] at X52 l52 y52 z52 st52 hQ52
  subst l52 y52 z52
  obtain ⟨rfl, N52q, e52⟩ := hQ52
  have N52 := Fr.app N48 N52q
  refine Goes.st (B := T52.setTop (mkF m 34 #[iv x0, iv x1, iv (7 : Int32), rv b1, rv b3, iv (5 : Int32)] [(.long (r5 (c97_50_0_d x0 x1))), (.int (5 : Int32)), (.ref b3)])) st52 ?_
  refine Goes.run X52 hx hown hci hcl hby (L := [(34, .iload 5, 2), (36, .iconst 1, 1), (37, .iadd, 1), (38, .aload_n 3, 1)]) (by decide +kernel) rfl (g' := (mkF m 39 #[iv x0, iv x1, iv (7 : Int32), rv b1, rv b3, iv (5 : Int32)] [(.ref b1), (.int (6 : Int32)), (.long (r5 (c97_50_0_d x0 x1))), (.int (5 : Int32)), (.ref b3)])) rfl ?_
  obtain ⟨cl53, Ar53, q53, S53, M53, Hs53, G53⟩ := id V_b1
  refine Goes.st (B := T52.setTop (mkF m 40 #[iv x0, iv x1, iv (7 : Int32), rv b1, rv b3, iv (5 : Int32)] [(.int (7 : Int32)), (.int (6 : Int32)), (.long (r5 (c97_50_0_d x0 x1))), (.int (5 : Int32)), (.ref b3)])) (fun t k => ?_) ?_
  · refine X52.arraylength hx (cell := cl53) (by rw [e52]; exact Ar53.1) (State.isArrayOf_alike hZ.alike Ar53.2.1) (g := (mkF m 39 #[iv x0, iv x1, iv (7 : Int32), rv b1, rv b3, iv (5 : Int32)] [(.ref b1), (.int (6 : Int32)), (.long (r5 (c97_50_0_d x0 x1))), (.int (5 : Int32)), (.ref b3)])) rfl (rest := [(.int (6 : Int32)), (.long (r5 (c97_50_0_d x0 x1))), (.int (5 : Int32)), (.ref b3)]) rfl (hb hby d8_39) _ ?_
    rw [len_of S53 M53]
    exact k
  have hc40_54 : (6 : Int32) < (7 : Int32) := by decide
  refine Goes.st (B := T52.setTop (mkF m 43 #[iv x0, iv x1, iv (7 : Int32), rv b1, rv b3, iv (5 : Int32)] [(.long (r5 (c97_50_0_d x0 x1))), (.int (5 : Int32)), (.ref b3)])) (fun t k => ?_) ?_
  · refine XS.icmpNo X52.here hx rfl (hb hby d8_40) rfl (tlt hc40_54).2.1 ?_
    exact k
  refine Goes.run X52 hx hown hci hcl hby (L := [(43, .iload_n 0, 1), (44, .aload_n 3, 1), (45, .iload 5, 2), (47, .iconst 1, 1), (48, .iadd, 1)]) (by decide +kernel) rfl (g' := (mkF m 49 #[iv x0, iv x1, iv (7 : Int32), rv b1, rv b3, iv (5 : Int32)] [(.int (6 : Int32)), (.ref b1), (.int x0), (.long (r5 (c97_50_0_d x0 x1))), (.int (5 : Int32)), (.ref b3)])) rfl ?_
  obtain ⟨cl55, Ar55, q55, S55, M55, Hs55, G55⟩ := id V_b1
  have hin55 : ¬ ((6 : Int32) < 0 ∨ cl55.slots.size ≤ ((6 : Int32)).toNatClampNeg) := inb_of S55 ⟨(by decide), (by decide)⟩
  have hat55 : cl55.slots[((6 : Int32)).toNatClampNeg]? = some (.int x0) := Hs55.at hin55 rfl
  refine Goes.st (B := T52.setTop (mkF m 50 #[iv x0, iv x1, iv (7 : Int32), rv b1, rv b3, iv (5 : Int32)] [(.int x0), (.int x0), (.long (r5 (c97_50_0_d x0 x1))), (.int (5 : Int32)), (.ref b3)])) (X52.iaload hx (j := (6 : Int32)) (v := (.int x0)) (by rw [e52]; exact Ar55.1) (State.isArrayOf_alike hZ.alike Ar55.2.1) Ar55.2.2 hin55 hat55 (g := (mkF m 49 #[iv x0, iv x1, iv (7 : Int32), rv b1, rv b3, iv (5 : Int32)] [(.int (6 : Int32)), (.ref b1), (.int x0), (.long (r5 (c97_50_0_d x0 x1))), (.int (5 : Int32)), (.ref b3)])) rfl rfl (hb hby d8_49)) ?_
  obtain ⟨_, _, ⟨T56, L56, k56, n56⟩, -, X56, ⟨Lc56, hQ56, l56, y56, z56⟩, st56⟩ := Jvm.LawKit.callS X52 hx (y := ym5) hown (mvT hZ w_27) (mvT hZ w_28) (mvT hZ w_7) (mvT hZ w_29) (by decide) (backOf (W := 4) (rm7 l Z a0 hw [] x0 x0 h48 n0 Zn48 (by first | assumption | exact p1 | exact p2)) hZ w_29 w_7 (by decide) (by decide)) (g := (mkF m 50 #[iv x0, iv x1, iv (7 : Int32), rv b1, rv b3, iv (5 : Int32)] [(.int x0), (.int x0), (.long (r5 (c97_50_0_d x0 x1))), (.int (5 : Int32)), (.ref b3)])) rfl (by rw [hml]; rfl) (argsL := [(.int x0), (.int x0)]) (rest := [(.long (r5 (c97_50_0_d x0 x1))), (.int (5 : Int32)), (.ref b3)]) (lenOf pd97_2 rfl) rfl (by show 2 * 0 + _ ≤ _; exact Nat.le_of_eq rfl) (hb hby d8_50) (fun _ _ => ⟨rfl, e52, (by decide : 2 + 0 ≤ _), (by decide : 15 + 0 ≤ _)⟩)
  dsimp only [Pt.U, Pt.locs, Pt.cells, Pt.slots] at X56 l56 y56 z56 st56 hQ56
  subst l56 y56 z56
  obtain ⟨rfl, N56q, e56⟩ := hQ56
  have N56 := Fr.app N52 N56q
  refine Goes.st (B := T56.setTop (mkF m 53 #[iv x0, iv x1, iv (7 : Int32), rv b1, rv b3, iv (5 : Int32)] [(.long (r7 x0 x0)), (.long (r5 (c97_50_0_d x0 x1))), (.int (5 : Int32)), (.ref b3)])) st56 ?_
  refine Goes.run X56 hx hown hci hcl hby (L := [(53, .goto 4, 3), (57, .ladd, 1)]) (by decide +kernel) rfl (g' := (mkF m 58 #[iv x0, iv x1, iv (7 : Int32), rv b1, rv b3, iv (5 : Int32)] [(.long ((r5 (c97_50_0_d x0 x1)) + (r7 x0 x0))), (.int (5 : Int32)), (.ref b3)])) rfl ?_
  obtain ⟨cl57, Ar57, q57, S57, M57, Hs57, G57⟩ := id V_b3
  have hin57 : ¬ ((5 : Int32) < 0 ∨ cl57.slots.size ≤ ((5 : Int32)).toNatClampNeg) := inb_of S57 ⟨(by decide), (by decide)⟩
  obtain ⟨T57, h57, X57, e57, W57, st57⟩ := stJ X56 hx hZ e56 Ar57 (j := (5 : Int32)) hin57 (g := (mkF m 58 #[iv x0, iv x1, iv (7 : Int32), rv b1, rv b3, iv (5 : Int32)] [(.long ((r5 (c97_50_0_d x0 x1)) + (r7 x0 x0))), (.int (5 : Int32)), (.ref b3)])) rfl rfl (hb hby d8_58)
  have E_b1 := E_b1.wr W57
  have V_b1 := V_b1.other W57 ne_b1_b3
  have E_b3 := E_b3.wr W57
  have Zn57 : n0 ≤ h57.size := Nat.le_trans Zn48 (Keep.of_wr W57).1
  have K57 := K48.wr W57 (Or.inr sz_b3)
  have N57 := Fr.snoc X57 N56 g_b3
  have V_b3 : Arv Z h57 b3 k3 .long (7 : Int32) [(.long ((r5 x1) + (r7 x0 (c97_50_0 x0 x1)))), (.long ((r5 (c97_50_0 x0 x1)) + (r7 x0 (c97_50_0_a x0 x1)))), (.long ((r5 (c97_50_0_a x0 x1)) + (r7 x0 (c97_50_0_b x0 x1)))), (.long ((r5 (c97_50_0_b x0 x1)) + (r7 x0 (c97_50_0_c x0 x1)))), (.long ((r5 (c97_50_0_c x0 x1)) + (r7 x0 (c97_50_0_d x0 x1)))), (.long ((r5 (c97_50_0_d x0 x1)) + (r7 x0 x0))), (.long (0 : Int64))] (.long (0 : Int64)) := Arv.set Ar57 q57 S57 M57 Hs57 G57 rfl W57 5 rfl (Nat.le_of_ble_eq_true rfl)
  refine Goes.st (B := T57.setTop (mkF m 59 #[iv x0, iv x1, iv (7 : Int32), rv b1, rv b3, iv (5 : Int32)] [])) st57 ?_
  refine Goes.run X57 hx hown hci hcl hby (L := [(59, .iinc 5 1, 3), (62, .goto (-46), 3), (16, .iload 5, 2), (18, .aload_n 3, 1)]) (by decide +kernel) rfl (g' := (mkF m 19 #[iv x0, iv x1, iv (7 : Int32), rv b1, rv b3, iv (6 : Int32)] [(.ref b1), (.int (6 : Int32))])) rfl ?_
  obtain ⟨cl58, Ar58, q58, S58, M58, Hs58, G58⟩ := id V_b1
  refine Goes.st (B := T57.setTop (mkF m 20 #[iv x0, iv x1, iv (7 : Int32), rv b1, rv b3, iv (6 : Int32)] [(.int (7 : Int32)), (.int (6 : Int32))])) (fun t k => ?_) ?_
  · refine X57.arraylength hx (cell := cl58) (by rw [e57]; exact Ar58.1) (State.isArrayOf_alike hZ.alike Ar58.2.1) (g := (mkF m 19 #[iv x0, iv x1, iv (7 : Int32), rv b1, rv b3, iv (6 : Int32)] [(.ref b1), (.int (6 : Int32))])) rfl (rest := [(.int (6 : Int32))]) rfl (hb hby d8_19) _ ?_
    rw [len_of S58 M58]
    exact k
  have hc20_59 : (6 : Int32) < (7 : Int32) := by decide
  refine Goes.st (B := T57.setTop (mkF m 23 #[iv x0, iv x1, iv (7 : Int32), rv b1, rv b3, iv (6 : Int32)] [])) (fun t k => ?_) ?_
  · refine XS.icmpNo X57.here hx rfl (hb hby d8_20) rfl (tlt hc20_59).2.1 ?_
    exact k
  refine Goes.run X57 hx hown hci hcl hby (L := [(23, .aload 4, 2), (25, .iload 5, 2), (27, .aload_n 3, 1), (28, .iload 5, 2)]) (by decide +kernel) rfl (g' := (mkF m 30 #[iv x0, iv x1, iv (7 : Int32), rv b1, rv b3, iv (6 : Int32)] [(.int (6 : Int32)), (.ref b1), (.int (6 : Int32)), (.ref b3)])) rfl ?_
  obtain ⟨cl60, Ar60, q60, S60, M60, Hs60, G60⟩ := id V_b1
  have hin60 : ¬ ((6 : Int32) < 0 ∨ cl60.slots.size ≤ ((6 : Int32)).toNatClampNeg) := inb_of S60 ⟨(by decide), (by decide)⟩
  have hat60 : cl60.slots[((6 : Int32)).toNatClampNeg]? = some (.int x0) := Hs60.at hin60 rfl
  refine Goes.st (B := T57.setTop (mkF m 31 #[iv x0, iv x1, iv (7 : Int32), rv b1, rv b3, iv (6 : Int32)] [(.int x0), (.int (6 : Int32)), (.ref b3)])) (X57.iaload hx (j := (6 : Int32)) (v := (.int x0)) (by rw [e57]; exact Ar60.1) (State.isArrayOf_alike hZ.alike Ar60.2.1) Ar60.2.2 hin60 hat60 (g := (mkF m 30 #[iv x0, iv x1, iv (7 : Int32), rv b1, rv b3, iv (6 : Int32)] [(.int (6 : Int32)), (.ref b1), (.int (6 : Int32)), (.ref b3)])) rfl rfl (hb hby d8_30)) ?_
  obtain ⟨_, _, ⟨T61, L61, k61, n61⟩, -, X61, ⟨Lc61, hQ61, l61, y61, z61⟩, st61⟩ := Jvm.LawKit.callS X57 hx (y := ym3) hown (mvT hZ w_19) (mvT hZ w_20) (mvT hZ w_7) (mvT hZ w_21) (by decide) (backOf (W := 2) (rm5 l Z a0 hw [] x0 h57 n0 Zn57 ) hZ w_21 w_7 (by decide) (by decide)) (g := (mkF m 31 #[iv x0, iv x1, iv (7 : Int32), rv b1, rv b3, iv (6 : Int32)] [(.int x0), (.int (6 : Int32)), (.ref b3)])) rfl (by rw [hml]; rfl) (argsL := [(.int x0)]) (rest := [(.int (6 : Int32)), (.ref b3)]) (lenOf pd97_1 rfl) rfl (by show 2 * 0 + _ ≤ _; exact Nat.le_of_eq rfl) (hb hby d8_31) (fun _ _ => ⟨rfl, e57, (by decide : 2 + 0 ≤ _), (by decide : 15 + 0 ≤ _)⟩)
  dsimp only [Pt.U, Pt.locs, Pt.cells, Pt.slots] at X61 l61 y61 z61 st61 hQ61
  subst l61 y61 z61
  obtain ⟨rfl, N61q, e61⟩ := hQ61
  have N61 := Fr.app N57 N61q
  refine Goes.st (B := T61.setTop (mkF m 34 #[iv x0, iv x1, iv (7 : Int32), rv b1, rv b3, iv (6 : Int32)] [(.long (r5 x0)), (.int (6 : Int32)), (.ref b3)])) st61 ?_
  refine Goes.run X61 hx hown hci hcl hby (L := [(34, .iload 5, 2), (36, .iconst 1, 1), (37, .iadd, 1), (38, .aload_n 3, 1)]) (by decide +kernel) rfl (g' := (mkF m 39 #[iv x0, iv x1, iv (7 : Int32), rv b1, rv b3, iv (6 : Int32)] [(.ref b1), (.int (7 : Int32)), (.long (r5 x0)), (.int (6 : Int32)), (.ref b3)])) rfl ?_
  obtain ⟨cl62, Ar62, q62, S62, M62, Hs62, G62⟩ := id V_b1
  refine Goes.st (B := T61.setTop (mkF m 40 #[iv x0, iv x1, iv (7 : Int32), rv b1, rv b3, iv (6 : Int32)] [(.int (7 : Int32)), (.int (7 : Int32)), (.long (r5 x0)), (.int (6 : Int32)), (.ref b3)])) (fun t k => ?_) ?_
  · refine X61.arraylength hx (cell := cl62) (by rw [e61]; exact Ar62.1) (State.isArrayOf_alike hZ.alike Ar62.2.1) (g := (mkF m 39 #[iv x0, iv x1, iv (7 : Int32), rv b1, rv b3, iv (6 : Int32)] [(.ref b1), (.int (7 : Int32)), (.long (r5 x0)), (.int (6 : Int32)), (.ref b3)])) rfl (rest := [(.int (7 : Int32)), (.long (r5 x0)), (.int (6 : Int32)), (.ref b3)]) rfl (hb hby d8_39) _ ?_
    rw [len_of S62 M62]
    exact k
  have hc40_63 : ¬ ((7 : Int32) < (7 : Int32)) := Int32.lt_irrefl
  refine Goes.st (B := T61.setTop (mkF m 56 #[iv x0, iv x1, iv (7 : Int32), rv b1, rv b3, iv (6 : Int32)] [(.long (r5 x0)), (.int (6 : Int32)), (.ref b3)])) (fun t k => ?_) ?_
  · refine XS.icmpYes X61.here hx rfl (pc0 := 40) (pc' := 56) rfl (hb hby d8_40) rfl (flt hc40_63).2.1 (by decide) (by decide) ?_
    exact k
  refine Goes.run X61 hx hown hci hcl hby (L := [(56, .lconst 0, 1), (57, .ladd, 1)]) (by decide +kernel) rfl (g' := (mkF m 58 #[iv x0, iv x1, iv (7 : Int32), rv b1, rv b3, iv (6 : Int32)] [(.long ((r5 x0) + (0 : Int64))), (.int (6 : Int32)), (.ref b3)])) rfl ?_
  obtain ⟨cl64, Ar64, q64, S64, M64, Hs64, G64⟩ := id V_b3
  have hin64 : ¬ ((6 : Int32) < 0 ∨ cl64.slots.size ≤ ((6 : Int32)).toNatClampNeg) := inb_of S64 ⟨(by decide), (by decide)⟩
  obtain ⟨T64, h64, X64, e64, W64, st64⟩ := stJ X61 hx hZ e61 Ar64 (j := (6 : Int32)) hin64 (g := (mkF m 58 #[iv x0, iv x1, iv (7 : Int32), rv b1, rv b3, iv (6 : Int32)] [(.long ((r5 x0) + (0 : Int64))), (.int (6 : Int32)), (.ref b3)])) rfl rfl (hb hby d8_58)
  have E_b1 := E_b1.wr W64
  have V_b1 := V_b1.other W64 ne_b1_b3
  have E_b3 := E_b3.wr W64
  have Zn64 : n0 ≤ h64.size := Nat.le_trans Zn57 (Keep.of_wr W64).1
  have K64 := K57.wr W64 (Or.inr sz_b3)
  have N64 := Fr.snoc X64 N61 g_b3
  have V_b3 : Arv Z h64 b3 k3 .long (7 : Int32) [(.long ((r5 x1) + (r7 x0 (c97_50_0 x0 x1)))), (.long ((r5 (c97_50_0 x0 x1)) + (r7 x0 (c97_50_0_a x0 x1)))), (.long ((r5 (c97_50_0_a x0 x1)) + (r7 x0 (c97_50_0_b x0 x1)))), (.long ((r5 (c97_50_0_b x0 x1)) + (r7 x0 (c97_50_0_c x0 x1)))), (.long ((r5 (c97_50_0_c x0 x1)) + (r7 x0 (c97_50_0_d x0 x1)))), (.long ((r5 (c97_50_0_d x0 x1)) + (r7 x0 x0))), (.long ((r5 x0) + (0 : Int64)))] (.long (0 : Int64)) := Arv.set Ar64 q64 S64 M64 Hs64 G64 rfl W64 6 rfl (Nat.le_of_ble_eq_true rfl)
  refine Goes.st (B := T64.setTop (mkF m 59 #[iv x0, iv x1, iv (7 : Int32), rv b1, rv b3, iv (6 : Int32)] [])) st64 ?_
  refine Goes.run X64 hx hown hci hcl hby (L := [(59, .iinc 5 1, 3), (62, .goto (-46), 3), (16, .iload 5, 2), (18, .aload_n 3, 1)]) (by decide +kernel) rfl (g' := (mkF m 19 #[iv x0, iv x1, iv (7 : Int32), rv b1, rv b3, iv (7 : Int32)] [(.ref b1), (.int (7 : Int32))])) rfl ?_
  obtain ⟨cl65, Ar65, q65, S65, M65, Hs65, G65⟩ := id V_b1
  refine Goes.st (B := T64.setTop (mkF m 20 #[iv x0, iv x1, iv (7 : Int32), rv b1, rv b3, iv (7 : Int32)] [(.int (7 : Int32)), (.int (7 : Int32))])) (fun t k => ?_) ?_
  · refine X64.arraylength hx (cell := cl65) (by rw [e64]; exact Ar65.1) (State.isArrayOf_alike hZ.alike Ar65.2.1) (g := (mkF m 19 #[iv x0, iv x1, iv (7 : Int32), rv b1, rv b3, iv (7 : Int32)] [(.ref b1), (.int (7 : Int32))])) rfl (rest := [(.int (7 : Int32))]) rfl (hb hby d8_19) _ ?_
    rw [len_of S65 M65]
    exact k
  have hc20_66 : ¬ ((7 : Int32) < (7 : Int32)) := Int32.lt_irrefl
  refine Goes.st (B := T64.setTop (mkF m 65 #[iv x0, iv x1, iv (7 : Int32), rv b1, rv b3, iv (7 : Int32)] [])) (fun t k => ?_) ?_
  · refine XS.icmpYes X64.here hx rfl (pc0 := 20) (pc' := 65) rfl (hb hby d8_20) rfl (flt hc20_66).2.1 (by decide) (by decide) ?_
    exact k
  refine Goes.run X64 hx hown hci hcl hby (L := [(65, .aload 4, 2)]) (by decide +kernel) rfl (g' := (mkF m 67 #[iv x0, iv x1, iv (7 : Int32), rv b1, rv b3, iv (7 : Int32)] [(.ref b3)])) rfl ?_
  refine Goes.retR X64 hx hlk Bd.returns rfl rfl (hb hby d8_67) ?_ (by decide) (by decide)
  show (Q97 Z x0 x1 h0 n0) _ _ _
  rw [e64]
  exact ⟨b3, k3, rfl, N64, K64, sz_b3, E_b3, V_b3⟩
theorem pn88 : plainName "com/example/eriu/eriu/algorithm/GroupElection" = true := by first | (simp [plainName, overriddenIn]; done) | decide +kernel
theorem pd88_0 : parseMethodDescriptor "(I)I" = some ⟨[.int], some .int⟩ := by decide +kernel
theorem ef88 (m : MethodId) (x0 : Int32) (x1 : Int32) : entryFrame m #[(.int x0), (.int x1), (.int (8 : Int32))] 5 = (mkF m 0 #[iv x0, iv x1, iv (8 : Int32), .unset, .unset] []) := by first | (simp [entryFrame, mkF, argsToLocals, Value.category]; done) | rfl
def Q88 (Z : State) (x0 : Int32) (x1 : Int32) (h0 : Heap) (n0 : Nat) (v : Option Value) (h : Heap) (L : List Loc) : Prop := ∃ (b : Addr) (k : ClassId), v = some (.ref b) ∧ Fr n0 L ∧ Keep h0 h [] ∧ h0.size ≤ b ∧ Exa Z h b "[I" ∧ Arv Z h b k .int (8 : Int32) [(.int x1), (.int ((2 : Int32) * x1)), (.int ((2 : Int32) * ((2 : Int32) * x1))), (.int ((2 : Int32) * ((2 : Int32) * ((2 : Int32) * x1)))), (.int ((2 : Int32) * ((2 : Int32) * ((2 : Int32) * ((2 : Int32) * x1))))), (.int ((2 : Int32) * ((2 : Int32) * ((2 : Int32) * ((2 : Int32) * ((2 : Int32) * x1)))))), (.int ((2 : Int32) * ((2 : Int32) * ((2 : Int32) * ((2 : Int32) * ((2 : Int32) * ((2 : Int32) * x1))))))), (.int x0)] (.int (0 : Int32))
set_option maxRecDepth 65536 in
set_option maxHeartbeats 40000000 in
theorem rm88 (l : Launch) (Z : State) (a0 : Array Value) (hw : ∀ d ∈ tables_1, d.before a0 Z = true) (ws : List Jvm.Cond) (x0 : Int32) (x1 : Int32) (h0 : Heap) (n0 : Nat) (Z0 : n0 ≤ h0.size) (p1 : ¬ (x0 < (1 : Int32))) (p2 : ¬ (x1 < (1 : Int32))) (p4 : (6 : Int32) < (r3 x1)) :
    MetFree l ym6 (head1 (Jvm.Cond.code ym6 prog_4_method_19_code 5 (some (.array .int)) :: ws) ({ frames := 1, cells := 1, slots := 8, locals := 14 } : Room)) (fun a U => a = #[(.int x0), (.int x1), (.int (8 : Int32))] ∧ Z.Warmed39 U.vm ∧ U.heap = h0) (fun _ _ _ _ _ => True) (fun _ U o U' => ∃ v L, o = .returned v ∧ (Q88 Z x0 x1 h0 n0) v U'.heap L ∧ FrameEnd U o U' L ({ frames := 1, cells := 1, slots := 8, locals := 14 } : Room).cells ({ frames := 1, cells := 1, slots := 8, locals := 14 } : Room).slots) := by
  refine MetFree.of_bodySF (plainFor_of_name pn88) hisR ?_
  intro p e s m args below meth c s₁ Bd hml0 hP hK
  obtain ⟨rfl, hZ, hh⟩ := hP
  have hx := Bd.exec
  have hby := Bd.bytes
  have hml : c.maxLocals = 5 := hml0
  have hlk : meth.locks = false := BodyLoose.notSynchronized Bd
  have hown : s.vm.findClass "com/example/eriu/eriu/algorithm/GroupElection" = some m.cls := findClass_of_methodNamed Bd.named
  have hnm := (name_of_methodNamed Bd.named Bd.method).1
  have w_12 := hw _ (List.mem_of_getElem? (i := 12) rfl)
  have w_13 := hw _ (List.mem_of_getElem? (i := 13) rfl)
  have w_14 := hw _ (List.mem_of_getElem? (i := 14) rfl)
  have w_15 := hw _ (List.mem_of_getElem? (i := 15) rfl)
  have w_17 := hw _ (List.mem_of_getElem? (i := 17) rfl)
  have w_22 := hw _ (List.mem_of_getElem? (i := 22) rfl)
  have w_26 := hw _ (List.mem_of_getElem? (i := 26) rfl)
  have hci : ∀ i v, (i, v) ∈ ([] : List (Nat × Int32)) → (Jvm.Cond.constant "com/example/eriu/eriu/algorithm/GroupElection" i v).before #[(.int x0), (.int x1), (.int (8 : Int32))] s = true := own_ci0
  have hcl : ∀ i v, (i, v) ∈ ([(215, 2), (236, 3)] : List (Nat × Int64)) → (Jvm.Cond.constantLong "com/example/eriu/eriu/algorithm/GroupElection" i v).before #[(.int x0), (.int x1), (.int (8 : Int32))] s = true := (own_ciS (mvT hZ w_22) (own_ciS (mvT hZ w_26) own_ci0))
  have X0 : Stand p l e ({ frames := 1, cells := 1, slots := 8, locals := 14 } : Room) s m #[(.int x0), (.int x1), (.int (8 : Int32))] below meth c s₁ [] 0 0 := Stand.of_body Bd
  have e0 : s₁.heap = h0 := by rw [← hh, Bd.state]; rfl
  have N0 := Fr.nil n0
  show Goes p e below s (Q88 Z x0 x1 h0 n0) ({ frames := 1, cells := 1, slots := 8, locals := 14 } : Room).cells ({ frames := 1, cells := 1, slots := 8, locals := 14 } : Room).slots (s₁.setTop (entryFrame m #[(.int x0), (.int x1), (.int (8 : Int32))] 5))
  refine Goes.cast (ef88 m x0 x1) ?_
  have K0 : Keep h0 h0 [] := Keep.refl h0 _
  refine Goes.run X0 hx hown hci hcl hby (L := [(0, .iload_n 0, 1), (1, .iconst 1, 1)]) (by decide +kernel) rfl (g' := (mkF m 2 #[iv x0, iv x1, iv (8 : Int32), .unset, .unset] [(.int (1 : Int32)), (.int x0)])) rfl ?_
  have hc2_1 : ¬ (x0 < (1 : Int32)) := p1
  refine Goes.st (B := s₁.setTop (mkF m 5 #[iv x0, iv x1, iv (8 : Int32), .unset, .unset] [])) (fun t k => ?_) ?_
  · refine XS.icmpNo X0.here hx rfl (hb hby d7_2) rfl (flt hc2_1).1 ?_
    exact k
  refine Goes.run X0 hx hown hci hcl hby (L := [(5, .iload_n 1, 1), (6, .iconst 1, 1)]) (by decide +kernel) rfl (g' := (mkF m 7 #[iv x0, iv x1, iv (8 : Int32), .unset, .unset] [(.int (1 : Int32)), (.int x1)])) rfl ?_
  have hc7_2 : ¬ (x1 < (1 : Int32)) := p2
  refine Goes.st (B := s₁.setTop (mkF m 10 #[iv x0, iv x1, iv (8 : Int32), .unset, .unset] [])) (fun t k => ?_) ?_
  · refine XS.icmpNo X0.here hx rfl (hb hby d7_7) rfl (flt hc7_2).1 ?_
    exact k
  refine Goes.run X0 hx hown hci hcl hby (L := [(10, .iload_n 2, 1), (11, .iconst 1, 1)]) (by decide +kernel) rfl (g' := (mkF m 12 #[iv x0, iv x1, iv (8 : Int32), .unset, .unset] [(.int (1 : Int32)), (.int (8 : Int32))])) rfl ?_
  have hc12_3 : ¬ ((8 : Int32) < (1 : Int32)) := by decide
  refine Goes.st (B := s₁.setTop (mkF m 31 #[iv x0, iv x1, iv (8 : Int32), .unset, .unset] [])) (fun t k => ?_) ?_
  · refine XS.icmpYes X0.here hx rfl (pc0 := 12) (pc' := 31) rfl (hb hby d7_12) rfl (flt hc12_3).2.1 (by decide) (by decide) ?_
    exact k
  refine Goes.run X0 hx hown hci hcl hby (L := [(31, .iload_n 2, 1), (32, .iconst 2, 1), (33, .isub, 1), (34, .iload_n 1, 1)]) (by decide +kernel) rfl (g' := (mkF m 35 #[iv x0, iv x1, iv (8 : Int32), .unset, .unset] [(.int x1), (.int (6 : Int32))])) rfl ?_
  obtain ⟨_, _, ⟨T4, L4, k4, n4⟩, -, X4, ⟨Lc4, hQ4, l4, y4, z4⟩, st4⟩ := Jvm.LawKit.callS X0 hx (y := ym1) hown (mvT hZ w_12) (mvT hZ w_13) (mvT hZ w_14) (mvT hZ w_15) (by decide) (backOf (W := 1) (rm3 l Z a0 hw [] x1 h0 n0 Z0 ) hZ w_15 w_14 (by decide) (by decide)) (g := (mkF m 35 #[iv x0, iv x1, iv (8 : Int32), .unset, .unset] [(.int x1), (.int (6 : Int32))])) rfl (by rw [hml]; rfl) (argsL := [(.int x1)]) (rest := [(.int (6 : Int32))]) (lenOf pd88_0 rfl) rfl (by show 2 * 0 + _ ≤ _; exact Nat.le_of_eq rfl) (hb hby d7_35) (fun _ _ => ⟨rfl, e0, (by decide : 0 + 0 ≤ _), (by decide : 0 + 0 ≤ _)⟩)
  dsimp only [Pt.U, Pt.locs, Pt.cells, Pt.slots] at X4 l4 y4 z4 st4 hQ4
  subst l4 y4 z4
  obtain ⟨rfl, N4q, e4⟩ := hQ4
  have N4 := Fr.app N0 N4q
  refine Goes.st (B := T4.setTop (mkF m 38 #[iv x0, iv x1, iv (8 : Int32), .unset, .unset] [(.int (r3 x1)), (.int (6 : Int32))])) st4 ?_
  have hc38_5 : (6 : Int32) < (r3 x1) := p4
  refine Goes.st (B := T4.setTop (mkF m 58 #[iv x0, iv x1, iv (8 : Int32), .unset, .unset] [])) (fun t k => ?_) ?_
  · refine XS.icmpYes X4.here hx rfl (pc0 := 38) (pc' := 58) rfl (hb hby d7_38) rfl (tlt hc38_5).1 (by decide) (by decide) ?_
    exact k
  refine Goes.run X4 hx hown hci hcl hby (L := [(58, .iload_n 2, 1)]) (by decide +kernel) rfl (g' := (mkF m 59 #[iv x0, iv x1, iv (8 : Int32), .unset, .unset] [(.int (8 : Int32))])) rfl ?_
  obtain ⟨T6, h6, k6, X6, e6, E6, A6, B6, st6⟩ := newPE X4 hx hZ (aty := .int) w_17 e4 (g := (mkF m 59 #[iv x0, iv x1, iv (8 : Int32), .unset, .unset] [(.int (8 : Int32))])) rfl (hb hby d7_59) rfl (by decide) (cap := 8) (by decide) (by decide) (by decide) (by decide) (ad := "[I") (by decide)
  obtain ⟨b6, g6⟩ : ∃ z, z = h0.size := ⟨_, rfl⟩
  rw [← g6] at A6 B6 st6
  have g_b6 : n0 ≤ b6 := Nat.le_trans Z0 (Nat.le_of_eq g6.symm)
  have sz_b6 : h0.size ≤ b6 := Nat.le_trans K0.1 (Nat.le_of_eq g6.symm)
  have Zn6 : n0 ≤ h6.size := Nat.le_trans Z0 E6.1
  have K6 := K0.ext E6
  have E_b6 : Exa Z h6 b6 "[I" := B6
  have V_b6 : Arv Z h6 b6 k6 .int (8 : Int32) [(.int (0 : Int32)), (.int (0 : Int32)), (.int (0 : Int32)), (.int (0 : Int32)), (.int (0 : Int32)), (.int (0 : Int32)), (.int (0 : Int32)), (.int (0 : Int32))] (.int (0 : Int32)) := (Arv.new A6 (by decide)).pad (pad_rep [] (.int (0 : Int32)) 8)
  refine Goes.st (B := T6.setTop (mkF m 61 #[iv x0, iv x1, iv (8 : Int32), .unset, .unset] [(.ref b6)])) st6 ?_
  refine Goes.run X6 hx hown hci hcl hby (L := [(61, .astore_n 3, 1), (62, .aload_n 3, 1), (63, .iconst 0, 1), (64, .iload_n 1, 1)]) (by decide +kernel) rfl (g' := (mkF m 65 #[iv x0, iv x1, iv (8 : Int32), rv b6, .unset] [(.int x1), (.int (0 : Int32)), (.ref b6)])) rfl ?_
  obtain ⟨cl7, Ar7, q7, S7, M7, Hs7, G7⟩ := id V_b6
  have hin7 : ¬ ((0 : Int32) < 0 ∨ cl7.slots.size ≤ ((0 : Int32)).toNatClampNeg) := inb_of S7 ⟨(by decide), (by decide)⟩
  obtain ⟨T7, h7, X7, e7, W7, st7⟩ := stI X6 hx hZ e6 Ar7 (j := (0 : Int32)) hin7 (g := (mkF m 65 #[iv x0, iv x1, iv (8 : Int32), rv b6, .unset] [(.int x1), (.int (0 : Int32)), (.ref b6)])) rfl rfl (hb hby d7_65)
  have E_b6 := E_b6.wr W7
  have Zn7 : n0 ≤ h7.size := Nat.le_trans Zn6 (Keep.of_wr W7).1
  have K7 := K6.wr W7 (Or.inr sz_b6)
  have N7 := Fr.snoc X7 N4 g_b6
  have V_b6 : Arv Z h7 b6 k6 .int (8 : Int32) [(.int x1), (.int (0 : Int32)), (.int (0 : Int32)), (.int (0 : Int32)), (.int (0 : Int32)), (.int (0 : Int32)), (.int (0 : Int32)), (.int (0 : Int32))] (.int (0 : Int32)) := Arv.set Ar7 q7 S7 M7 Hs7 G7 rfl W7 0 rfl (Nat.le_of_ble_eq_true rfl)
  refine Goes.st (B := T7.setTop (mkF m 66 #[iv x0, iv x1, iv (8 : Int32), rv b6, .unset] [])) st7 ?_
  refine Goes.run X7 hx hown hci hcl hby (L := [(66, .iconst 1, 1), (67, .istore 4, 2), (69, .iload 4, 2), (71, .iload_n 2, 1), (72, .iconst 1, 1), (73, .isub, 1)]) (by decide +kernel) rfl (g' := (mkF m 74 #[iv x0, iv x1, iv (8 : Int32), rv b6, iv (1 : Int32)] [(.int (7 : Int32)), (.int (1 : Int32))])) rfl ?_
  have hc74_8 : (1 : Int32) < (7 : Int32) := by decide
  refine Goes.st (B := T7.setTop (mkF m 77 #[iv x0, iv x1, iv (8 : Int32), rv b6, iv (1 : Int32)] [])) (fun t k => ?_) ?_
  · refine XS.icmpNo X7.here hx rfl (hb hby d7_74) rfl (tlt hc74_8).2.1 ?_
    exact k
  refine Goes.run X7 hx hown hci hcl hby (L := [(77, .aload_n 3, 1), (78, .iload 4, 2), (80, .iconst 2, 1), (81, .aload_n 3, 1), (82, .iload 4, 2), (84, .iconst 1, 1)]) (by decide +kernel) rfl (g' := (mkF m 85 #[iv x0, iv x1, iv (8 : Int32), rv b6, iv (1 : Int32)] [(.int (1 : Int32)), (.int (1 : Int32)), (.ref b6), (.int (2 : Int32)), (.int (1 : Int32)), (.ref b6)])) rfl ?_
  refine Goes.run X7 hx hown hci hcl hby (L := [(85, .isub, 1)]) (by decide +kernel) rfl (g' := (mkF m 86 #[iv x0, iv x1, iv (8 : Int32), rv b6, iv (1 : Int32)] [(.int (0 : Int32)), (.ref b6), (.int (2 : Int32)), (.int (1 : Int32)), (.ref b6)])) rfl ?_
  obtain ⟨cl9, Ar9, q9, S9, M9, Hs9, G9⟩ := id V_b6
  have hin9 : ¬ ((0 : Int32) < 0 ∨ cl9.slots.size ≤ ((0 : Int32)).toNatClampNeg) := inb_of S9 ⟨(by decide), (by decide)⟩
  have hat9 : cl9.slots[((0 : Int32)).toNatClampNeg]? = some (.int x1) := Hs9.at hin9 rfl
  refine Goes.st (B := T7.setTop (mkF m 87 #[iv x0, iv x1, iv (8 : Int32), rv b6, iv (1 : Int32)] [(.int x1), (.int (2 : Int32)), (.int (1 : Int32)), (.ref b6)])) (X7.iaload hx (j := (0 : Int32)) (v := (.int x1)) (by rw [e7]; exact Ar9.1) (State.isArrayOf_alike hZ.alike Ar9.2.1) Ar9.2.2 hin9 hat9 (g := (mkF m 86 #[iv x0, iv x1, iv (8 : Int32), rv b6, iv (1 : Int32)] [(.int (0 : Int32)), (.ref b6), (.int (2 : Int32)), (.int (1 : Int32)), (.ref b6)])) rfl rfl (hb hby d7_86)) ?_
  refine Goes.run X7 hx hown hci hcl hby (L := [(87, .imul, 1)]) (by decide +kernel) rfl (g' := (mkF m 88 #[iv x0, iv x1, iv (8 : Int32), rv b6, iv (1 : Int32)] [(.int ((2 : Int32) * x1)), (.int (1 : Int32)), (.ref b6)])) rfl ?_
  obtain ⟨cl10, Ar10, q10, S10, M10, Hs10, G10⟩ := id V_b6
  have hin10 : ¬ ((1 : Int32) < 0 ∨ cl10.slots.size ≤ ((1 : Int32)).toNatClampNeg) := inb_of S10 ⟨(by decide), (by decide)⟩
  obtain ⟨T10, h10, X10, e10, W10, st10⟩ := stI X7 hx hZ e7 Ar10 (j := (1 : Int32)) hin10 (g := (mkF m 88 #[iv x0, iv x1, iv (8 : Int32), rv b6, iv (1 : Int32)] [(.int ((2 : Int32) * x1)), (.int (1 : Int32)), (.ref b6)])) rfl rfl (hb hby d7_88)
  have E_b6 := E_b6.wr W10
  have Zn10 : n0 ≤ h10.size := Nat.le_trans Zn7 (Keep.of_wr W10).1
  have K10 := K7.wr W10 (Or.inr sz_b6)
  have N10 := Fr.snoc X10 N7 g_b6
  have V_b6 : Arv Z h10 b6 k6 .int (8 : Int32) [(.int x1), (.int ((2 : Int32) * x1)), (.int (0 : Int32)), (.int (0 : Int32)), (.int (0 : Int32)), (.int (0 : Int32)), (.int (0 : Int32)), (.int (0 : Int32))] (.int (0 : Int32)) := Arv.set Ar10 q10 S10 M10 Hs10 G10 rfl W10 1 rfl (Nat.le_of_ble_eq_true rfl)
  refine Goes.st (B := T10.setTop (mkF m 89 #[iv x0, iv x1, iv (8 : Int32), rv b6, iv (1 : Int32)] [])) st10 ?_
  refine Goes.run X10 hx hown hci hcl hby (L := [(89, .iinc 4 1, 3), (92, .goto (-23), 3), (69, .iload 4, 2), (71, .iload_n 2, 1), (72, .iconst 1, 1), (73, .isub, 1)]) (by decide +kernel) rfl (g' := (mkF m 74 #[iv x0, iv x1, iv (8 : Int32), rv b6, iv (2 : Int32)] [(.int (7 : Int32)), (.int (2 : Int32))])) rfl ?_
  have hc74_11 : (2 : Int32) < (7 : Int32) := by decide
  refine Goes.st (B := T10.setTop (mkF m 77 #[iv x0, iv x1, iv (8 : Int32), rv b6, iv (2 : Int32)] [])) (fun t k => ?_) ?_
  · refine XS.icmpNo X10.here hx rfl (hb hby d7_74) rfl (tlt hc74_11).2.1 ?_
    exact k
  refine Goes.run X10 hx hown hci hcl hby (L := [(77, .aload_n 3, 1), (78, .iload 4, 2), (80, .iconst 2, 1), (81, .aload_n 3, 1), (82, .iload 4, 2), (84, .iconst 1, 1)]) (by decide +kernel) rfl (g' := (mkF m 85 #[iv x0, iv x1, iv (8 : Int32), rv b6, iv (2 : Int32)] [(.int (1 : Int32)), (.int (2 : Int32)), (.ref b6), (.int (2 : Int32)), (.int (2 : Int32)), (.ref b6)])) rfl ?_
  refine Goes.run X10 hx hown hci hcl hby (L := [(85, .isub, 1)]) (by decide +kernel) rfl (g' := (mkF m 86 #[iv x0, iv x1, iv (8 : Int32), rv b6, iv (2 : Int32)] [(.int (1 : Int32)), (.ref b6), (.int (2 : Int32)), (.int (2 : Int32)), (.ref b6)])) rfl ?_
  obtain ⟨cl12, Ar12, q12, S12, M12, Hs12, G12⟩ := id V_b6
  have hin12 : ¬ ((1 : Int32) < 0 ∨ cl12.slots.size ≤ ((1 : Int32)).toNatClampNeg) := inb_of S12 ⟨(by decide), (by decide)⟩
  have hat12 : cl12.slots[((1 : Int32)).toNatClampNeg]? = some (.int ((2 : Int32) * x1)) := Hs12.at hin12 rfl
  refine Goes.st (B := T10.setTop (mkF m 87 #[iv x0, iv x1, iv (8 : Int32), rv b6, iv (2 : Int32)] [(.int ((2 : Int32) * x1)), (.int (2 : Int32)), (.int (2 : Int32)), (.ref b6)])) (X10.iaload hx (j := (1 : Int32)) (v := (.int ((2 : Int32) * x1))) (by rw [e10]; exact Ar12.1) (State.isArrayOf_alike hZ.alike Ar12.2.1) Ar12.2.2 hin12 hat12 (g := (mkF m 86 #[iv x0, iv x1, iv (8 : Int32), rv b6, iv (2 : Int32)] [(.int (1 : Int32)), (.ref b6), (.int (2 : Int32)), (.int (2 : Int32)), (.ref b6)])) rfl rfl (hb hby d7_86)) ?_
  refine Goes.run X10 hx hown hci hcl hby (L := [(87, .imul, 1)]) (by decide +kernel) rfl (g' := (mkF m 88 #[iv x0, iv x1, iv (8 : Int32), rv b6, iv (2 : Int32)] [(.int ((2 : Int32) * ((2 : Int32) * x1))), (.int (2 : Int32)), (.ref b6)])) rfl ?_
  obtain ⟨cl13, Ar13, q13, S13, M13, Hs13, G13⟩ := id V_b6
  have hin13 : ¬ ((2 : Int32) < 0 ∨ cl13.slots.size ≤ ((2 : Int32)).toNatClampNeg) := inb_of S13 ⟨(by decide), (by decide)⟩
  obtain ⟨T13, h13, X13, e13, W13, st13⟩ := stI X10 hx hZ e10 Ar13 (j := (2 : Int32)) hin13 (g := (mkF m 88 #[iv x0, iv x1, iv (8 : Int32), rv b6, iv (2 : Int32)] [(.int ((2 : Int32) * ((2 : Int32) * x1))), (.int (2 : Int32)), (.ref b6)])) rfl rfl (hb hby d7_88)
  have E_b6 := E_b6.wr W13
  have Zn13 : n0 ≤ h13.size := Nat.le_trans Zn10 (Keep.of_wr W13).1
  have K13 := K10.wr W13 (Or.inr sz_b6)
  have N13 := Fr.snoc X13 N10 g_b6
  have V_b6 : Arv Z h13 b6 k6 .int (8 : Int32) [(.int x1), (.int ((2 : Int32) * x1)), (.int ((2 : Int32) * ((2 : Int32) * x1))), (.int (0 : Int32)), (.int (0 : Int32)), (.int (0 : Int32)), (.int (0 : Int32)), (.int (0 : Int32))] (.int (0 : Int32)) := Arv.set Ar13 q13 S13 M13 Hs13 G13 rfl W13 2 rfl (Nat.le_of_ble_eq_true rfl)
  refine Goes.st (B := T13.setTop (mkF m 89 #[iv x0, iv x1, iv (8 : Int32), rv b6, iv (2 : Int32)] [])) st13 ?_
  refine Goes.run X13 hx hown hci hcl hby (L := [(89, .iinc 4 1, 3), (92, .goto (-23), 3), (69, .iload 4, 2), (71, .iload_n 2, 1), (72, .iconst 1, 1), (73, .isub, 1)]) (by decide +kernel) rfl (g' := (mkF m 74 #[iv x0, iv x1, iv (8 : Int32), rv b6, iv (3 : Int32)] [(.int (7 : Int32)), (.int (3 : Int32))])) rfl ?_
  have hc74_14 : (3 : Int32) < (7 : Int32) := by decide
  refine Goes.st (B := T13.setTop (mkF m 77 #[iv x0, iv x1, iv (8 : Int32), rv b6, iv (3 : Int32)] [])) (fun t k => ?_) ?_
  · refine XS.icmpNo X13.here hx rfl (hb hby d7_74) rfl (tlt hc74_14).2.1 ?_
    exact k
  refine Goes.run X13 hx hown hci hcl hby (L := [(77, .aload_n 3, 1), (78, .iload 4, 2), (80, .iconst 2, 1), (81, .aload_n 3, 1), (82, .iload 4, 2), (84, .iconst 1, 1)]) (by decide +kernel) rfl (g' := (mkF m 85 #[iv x0, iv x1, iv (8 : Int32), rv b6, iv (3 : Int32)] [(.int (1 : Int32)), (.int (3 : Int32)), (.ref b6), (.int (2 : Int32)), (.int (3 : Int32)), (.ref b6)])) rfl ?_
  refine Goes.run X13 hx hown hci hcl hby (L := [(85, .isub, 1)]) (by decide +kernel) rfl (g' := (mkF m 86 #[iv x0, iv x1, iv (8 : Int32), rv b6, iv (3 : Int32)] [(.int (2 : Int32)), (.ref b6), (.int (2 : Int32)), (.int (3 : Int32)), (.ref b6)])) rfl ?_
  obtain ⟨cl15, Ar15, q15, S15, M15, Hs15, G15⟩ := id V_b6
  have hin15 : ¬ ((2 : Int32) < 0 ∨ cl15.slots.size ≤ ((2 : Int32)).toNatClampNeg) := inb_of S15 ⟨(by decide), (by decide)⟩
  have hat15 : cl15.slots[((2 : Int32)).toNatClampNeg]? = some (.int ((2 : Int32) * ((2 : Int32) * x1))) := Hs15.at hin15 rfl
  refine Goes.st (B := T13.setTop (mkF m 87 #[iv x0, iv x1, iv (8 : Int32), rv b6, iv (3 : Int32)] [(.int ((2 : Int32) * ((2 : Int32) * x1))), (.int (2 : Int32)), (.int (3 : Int32)), (.ref b6)])) (X13.iaload hx (j := (2 : Int32)) (v := (.int ((2 : Int32) * ((2 : Int32) * x1)))) (by rw [e13]; exact Ar15.1) (State.isArrayOf_alike hZ.alike Ar15.2.1) Ar15.2.2 hin15 hat15 (g := (mkF m 86 #[iv x0, iv x1, iv (8 : Int32), rv b6, iv (3 : Int32)] [(.int (2 : Int32)), (.ref b6), (.int (2 : Int32)), (.int (3 : Int32)), (.ref b6)])) rfl rfl (hb hby d7_86)) ?_
  refine Goes.run X13 hx hown hci hcl hby (L := [(87, .imul, 1)]) (by decide +kernel) rfl (g' := (mkF m 88 #[iv x0, iv x1, iv (8 : Int32), rv b6, iv (3 : Int32)] [(.int ((2 : Int32) * ((2 : Int32) * ((2 : Int32) * x1)))), (.int (3 : Int32)), (.ref b6)])) rfl ?_
  obtain ⟨cl16, Ar16, q16, S16, M16, Hs16, G16⟩ := id V_b6
  have hin16 : ¬ ((3 : Int32) < 0 ∨ cl16.slots.size ≤ ((3 : Int32)).toNatClampNeg) := inb_of S16 ⟨(by decide), (by decide)⟩
  obtain ⟨T16, h16, X16, e16, W16, st16⟩ := stI X13 hx hZ e13 Ar16 (j := (3 : Int32)) hin16 (g := (mkF m 88 #[iv x0, iv x1, iv (8 : Int32), rv b6, iv (3 : Int32)] [(.int ((2 : Int32) * ((2 : Int32) * ((2 : Int32) * x1)))), (.int (3 : Int32)), (.ref b6)])) rfl rfl (hb hby d7_88)
  have E_b6 := E_b6.wr W16
  have Zn16 : n0 ≤ h16.size := Nat.le_trans Zn13 (Keep.of_wr W16).1
  have K16 := K13.wr W16 (Or.inr sz_b6)
  have N16 := Fr.snoc X16 N13 g_b6
  have V_b6 : Arv Z h16 b6 k6 .int (8 : Int32) [(.int x1), (.int ((2 : Int32) * x1)), (.int ((2 : Int32) * ((2 : Int32) * x1))), (.int ((2 : Int32) * ((2 : Int32) * ((2 : Int32) * x1)))), (.int (0 : Int32)), (.int (0 : Int32)), (.int (0 : Int32)), (.int (0 : Int32))] (.int (0 : Int32)) := Arv.set Ar16 q16 S16 M16 Hs16 G16 rfl W16 3 rfl (Nat.le_of_ble_eq_true rfl)
  refine Goes.st (B := T16.setTop (mkF m 89 #[iv x0, iv x1, iv (8 : Int32), rv b6, iv (3 : Int32)] [])) st16 ?_
  refine Goes.run X16 hx hown hci hcl hby (L := [(89, .iinc 4 1, 3), (92, .goto (-23), 3), (69, .iload 4, 2), (71, .iload_n 2, 1), (72, .iconst 1, 1), (73, .isub, 1)]) (by decide +kernel) rfl (g' := (mkF m 74 #[iv x0, iv x1, iv (8 : Int32), rv b6, iv (4 : Int32)] [(.int (7 : Int32)), (.int (4 : Int32))])) rfl ?_
  have hc74_17 : (4 : Int32) < (7 : Int32) := by decide
  refine Goes.st (B := T16.setTop (mkF m 77 #[iv x0, iv x1, iv (8 : Int32), rv b6, iv (4 : Int32)] [])) (fun t k => ?_) ?_
  · refine XS.icmpNo X16.here hx rfl (hb hby d7_74) rfl (tlt hc74_17).2.1 ?_
    exact k
  refine Goes.run X16 hx hown hci hcl hby (L := [(77, .aload_n 3, 1), (78, .iload 4, 2), (80, .iconst 2, 1), (81, .aload_n 3, 1), (82, .iload 4, 2), (84, .iconst 1, 1)]) (by decide +kernel) rfl (g' := (mkF m 85 #[iv x0, iv x1, iv (8 : Int32), rv b6, iv (4 : Int32)] [(.int (1 : Int32)), (.int (4 : Int32)), (.ref b6), (.int (2 : Int32)), (.int (4 : Int32)), (.ref b6)])) rfl ?_
  refine Goes.run X16 hx hown hci hcl hby (L := [(85, .isub, 1)]) (by decide +kernel) rfl (g' := (mkF m 86 #[iv x0, iv x1, iv (8 : Int32), rv b6, iv (4 : Int32)] [(.int (3 : Int32)), (.ref b6), (.int (2 : Int32)), (.int (4 : Int32)), (.ref b6)])) rfl ?_
  obtain ⟨cl18, Ar18, q18, S18, M18, Hs18, G18⟩ := id V_b6
  have hin18 : ¬ ((3 : Int32) < 0 ∨ cl18.slots.size ≤ ((3 : Int32)).toNatClampNeg) := inb_of S18 ⟨(by decide), (by decide)⟩
  have hat18 : cl18.slots[((3 : Int32)).toNatClampNeg]? = some (.int ((2 : Int32) * ((2 : Int32) * ((2 : Int32) * x1)))) := Hs18.at hin18 rfl
  refine Goes.st (B := T16.setTop (mkF m 87 #[iv x0, iv x1, iv (8 : Int32), rv b6, iv (4 : Int32)] [(.int ((2 : Int32) * ((2 : Int32) * ((2 : Int32) * x1)))), (.int (2 : Int32)), (.int (4 : Int32)), (.ref b6)])) (X16.iaload hx (j := (3 : Int32)) (v := (.int ((2 : Int32) * ((2 : Int32) * ((2 : Int32) * x1))))) (by rw [e16]; exact Ar18.1) (State.isArrayOf_alike hZ.alike Ar18.2.1) Ar18.2.2 hin18 hat18 (g := (mkF m 86 #[iv x0, iv x1, iv (8 : Int32), rv b6, iv (4 : Int32)] [(.int (3 : Int32)), (.ref b6), (.int (2 : Int32)), (.int (4 : Int32)), (.ref b6)])) rfl rfl (hb hby d7_86)) ?_
  refine Goes.run X16 hx hown hci hcl hby (L := [(87, .imul, 1)]) (by decide +kernel) rfl (g' := (mkF m 88 #[iv x0, iv x1, iv (8 : Int32), rv b6, iv (4 : Int32)] [(.int ((2 : Int32) * ((2 : Int32) * ((2 : Int32) * ((2 : Int32) * x1))))), (.int (4 : Int32)), (.ref b6)])) rfl ?_
  obtain ⟨cl19, Ar19, q19, S19, M19, Hs19, G19⟩ := id V_b6
  have hin19 : ¬ ((4 : Int32) < 0 ∨ cl19.slots.size ≤ ((4 : Int32)).toNatClampNeg) := inb_of S19 ⟨(by decide), (by decide)⟩
  obtain ⟨T19, h19, X19, e19, W19, st19⟩ := stI X16 hx hZ e16 Ar19 (j := (4 : Int32)) hin19 (g := (mkF m 88 #[iv x0, iv x1, iv (8 : Int32), rv b6, iv (4 : Int32)] [(.int ((2 : Int32) * ((2 : Int32) * ((2 : Int32) * ((2 : Int32) * x1))))), (.int (4 : Int32)), (.ref b6)])) rfl rfl (hb hby d7_88)
  have E_b6 := E_b6.wr W19
  have Zn19 : n0 ≤ h19.size := Nat.le_trans Zn16 (Keep.of_wr W19).1
  have K19 := K16.wr W19 (Or.inr sz_b6)
  have N19 := Fr.snoc X19 N16 g_b6
  have V_b6 : Arv Z h19 b6 k6 .int (8 : Int32) [(.int x1), (.int ((2 : Int32) * x1)), (.int ((2 : Int32) * ((2 : Int32) * x1))), (.int ((2 : Int32) * ((2 : Int32) * ((2 : Int32) * x1)))), (.int ((2 : Int32) * ((2 : Int32) * ((2 : Int32) * ((2 : Int32) * x1))))), (.int (0 : Int32)), (.int (0 : Int32)), (.int (0 : Int32))] (.int (0 : Int32)) := Arv.set Ar19 q19 S19 M19 Hs19 G19 rfl W19 4 rfl (Nat.le_of_ble_eq_true rfl)
  refine Goes.st (B := T19.setTop (mkF m 89 #[iv x0, iv x1, iv (8 : Int32), rv b6, iv (4 : Int32)] [])) st19 ?_
  refine Goes.run X19 hx hown hci hcl hby (L := [(89, .iinc 4 1, 3), (92, .goto (-23), 3), (69, .iload 4, 2), (71, .iload_n 2, 1), (72, .iconst 1, 1), (73, .isub, 1)]) (by decide +kernel) rfl (g' := (mkF m 74 #[iv x0, iv x1, iv (8 : Int32), rv b6, iv (5 : Int32)] [(.int (7 : Int32)), (.int (5 : Int32))])) rfl ?_
  have hc74_20 : (5 : Int32) < (7 : Int32) := by decide
  refine Goes.st (B := T19.setTop (mkF m 77 #[iv x0, iv x1, iv (8 : Int32), rv b6, iv (5 : Int32)] [])) (fun t k => ?_) ?_
  · refine XS.icmpNo X19.here hx rfl (hb hby d7_74) rfl (tlt hc74_20).2.1 ?_
    exact k
  refine Goes.run X19 hx hown hci hcl hby (L := [(77, .aload_n 3, 1), (78, .iload 4, 2), (80, .iconst 2, 1), (81, .aload_n 3, 1), (82, .iload 4, 2), (84, .iconst 1, 1)]) (by decide +kernel) rfl (g' := (mkF m 85 #[iv x0, iv x1, iv (8 : Int32), rv b6, iv (5 : Int32)] [(.int (1 : Int32)), (.int (5 : Int32)), (.ref b6), (.int (2 : Int32)), (.int (5 : Int32)), (.ref b6)])) rfl ?_
  refine Goes.run X19 hx hown hci hcl hby (L := [(85, .isub, 1)]) (by decide +kernel) rfl (g' := (mkF m 86 #[iv x0, iv x1, iv (8 : Int32), rv b6, iv (5 : Int32)] [(.int (4 : Int32)), (.ref b6), (.int (2 : Int32)), (.int (5 : Int32)), (.ref b6)])) rfl ?_
  obtain ⟨cl21, Ar21, q21, S21, M21, Hs21, G21⟩ := id V_b6
  have hin21 : ¬ ((4 : Int32) < 0 ∨ cl21.slots.size ≤ ((4 : Int32)).toNatClampNeg) := inb_of S21 ⟨(by decide), (by decide)⟩
  have hat21 : cl21.slots[((4 : Int32)).toNatClampNeg]? = some (.int ((2 : Int32) * ((2 : Int32) * ((2 : Int32) * ((2 : Int32) * x1))))) := Hs21.at hin21 rfl
  refine Goes.st (B := T19.setTop (mkF m 87 #[iv x0, iv x1, iv (8 : Int32), rv b6, iv (5 : Int32)] [(.int ((2 : Int32) * ((2 : Int32) * ((2 : Int32) * ((2 : Int32) * x1))))), (.int (2 : Int32)), (.int (5 : Int32)), (.ref b6)])) (X19.iaload hx (j := (4 : Int32)) (v := (.int ((2 : Int32) * ((2 : Int32) * ((2 : Int32) * ((2 : Int32) * x1)))))) (by rw [e19]; exact Ar21.1) (State.isArrayOf_alike hZ.alike Ar21.2.1) Ar21.2.2 hin21 hat21 (g := (mkF m 86 #[iv x0, iv x1, iv (8 : Int32), rv b6, iv (5 : Int32)] [(.int (4 : Int32)), (.ref b6), (.int (2 : Int32)), (.int (5 : Int32)), (.ref b6)])) rfl rfl (hb hby d7_86)) ?_
  refine Goes.run X19 hx hown hci hcl hby (L := [(87, .imul, 1)]) (by decide +kernel) rfl (g' := (mkF m 88 #[iv x0, iv x1, iv (8 : Int32), rv b6, iv (5 : Int32)] [(.int ((2 : Int32) * ((2 : Int32) * ((2 : Int32) * ((2 : Int32) * ((2 : Int32) * x1)))))), (.int (5 : Int32)), (.ref b6)])) rfl ?_
  obtain ⟨cl22, Ar22, q22, S22, M22, Hs22, G22⟩ := id V_b6
  have hin22 : ¬ ((5 : Int32) < 0 ∨ cl22.slots.size ≤ ((5 : Int32)).toNatClampNeg) := inb_of S22 ⟨(by decide), (by decide)⟩
  obtain ⟨T22, h22, X22, e22, W22, st22⟩ := stI X19 hx hZ e19 Ar22 (j := (5 : Int32)) hin22 (g := (mkF m 88 #[iv x0, iv x1, iv (8 : Int32), rv b6, iv (5 : Int32)] [(.int ((2 : Int32) * ((2 : Int32) * ((2 : Int32) * ((2 : Int32) * ((2 : Int32) * x1)))))), (.int (5 : Int32)), (.ref b6)])) rfl rfl (hb hby d7_88)
  have E_b6 := E_b6.wr W22
  have Zn22 : n0 ≤ h22.size := Nat.le_trans Zn19 (Keep.of_wr W22).1
  have K22 := K19.wr W22 (Or.inr sz_b6)
  have N22 := Fr.snoc X22 N19 g_b6
  have V_b6 : Arv Z h22 b6 k6 .int (8 : Int32) [(.int x1), (.int ((2 : Int32) * x1)), (.int ((2 : Int32) * ((2 : Int32) * x1))), (.int ((2 : Int32) * ((2 : Int32) * ((2 : Int32) * x1)))), (.int ((2 : Int32) * ((2 : Int32) * ((2 : Int32) * ((2 : Int32) * x1))))), (.int ((2 : Int32) * ((2 : Int32) * ((2 : Int32) * ((2 : Int32) * ((2 : Int32) * x1)))))), (.int (0 : Int32)), (.int (0 : Int32))] (.int (0 : Int32)) := Arv.set Ar22 q22 S22 M22 Hs22 G22 rfl W22 5 rfl (Nat.le_of_ble_eq_true rfl)
  refine Goes.st (B := T22.setTop (mkF m 89 #[iv x0, iv x1, iv (8 : Int32), rv b6, iv (5 : Int32)] [])) st22 ?_
  refine Goes.run X22 hx hown hci hcl hby (L := [(89, .iinc 4 1, 3), (92, .goto (-23), 3), (69, .iload 4, 2), (71, .iload_n 2, 1), (72, .iconst 1, 1), (73, .isub, 1)]) (by decide +kernel) rfl (g' := (mkF m 74 #[iv x0, iv x1, iv (8 : Int32), rv b6, iv (6 : Int32)] [(.int (7 : Int32)), (.int (6 : Int32))])) rfl ?_
  have hc74_23 : (6 : Int32) < (7 : Int32) := by decide
  refine Goes.st (B := T22.setTop (mkF m 77 #[iv x0, iv x1, iv (8 : Int32), rv b6, iv (6 : Int32)] [])) (fun t k => ?_) ?_
  · refine XS.icmpNo X22.here hx rfl (hb hby d7_74) rfl (tlt hc74_23).2.1 ?_
    exact k
  refine Goes.run X22 hx hown hci hcl hby (L := [(77, .aload_n 3, 1), (78, .iload 4, 2), (80, .iconst 2, 1), (81, .aload_n 3, 1), (82, .iload 4, 2), (84, .iconst 1, 1)]) (by decide +kernel) rfl (g' := (mkF m 85 #[iv x0, iv x1, iv (8 : Int32), rv b6, iv (6 : Int32)] [(.int (1 : Int32)), (.int (6 : Int32)), (.ref b6), (.int (2 : Int32)), (.int (6 : Int32)), (.ref b6)])) rfl ?_
  refine Goes.run X22 hx hown hci hcl hby (L := [(85, .isub, 1)]) (by decide +kernel) rfl (g' := (mkF m 86 #[iv x0, iv x1, iv (8 : Int32), rv b6, iv (6 : Int32)] [(.int (5 : Int32)), (.ref b6), (.int (2 : Int32)), (.int (6 : Int32)), (.ref b6)])) rfl ?_
  obtain ⟨cl24, Ar24, q24, S24, M24, Hs24, G24⟩ := id V_b6
  have hin24 : ¬ ((5 : Int32) < 0 ∨ cl24.slots.size ≤ ((5 : Int32)).toNatClampNeg) := inb_of S24 ⟨(by decide), (by decide)⟩
  have hat24 : cl24.slots[((5 : Int32)).toNatClampNeg]? = some (.int ((2 : Int32) * ((2 : Int32) * ((2 : Int32) * ((2 : Int32) * ((2 : Int32) * x1)))))) := Hs24.at hin24 rfl
  refine Goes.st (B := T22.setTop (mkF m 87 #[iv x0, iv x1, iv (8 : Int32), rv b6, iv (6 : Int32)] [(.int ((2 : Int32) * ((2 : Int32) * ((2 : Int32) * ((2 : Int32) * ((2 : Int32) * x1)))))), (.int (2 : Int32)), (.int (6 : Int32)), (.ref b6)])) (X22.iaload hx (j := (5 : Int32)) (v := (.int ((2 : Int32) * ((2 : Int32) * ((2 : Int32) * ((2 : Int32) * ((2 : Int32) * x1))))))) (by rw [e22]; exact Ar24.1) (State.isArrayOf_alike hZ.alike Ar24.2.1) Ar24.2.2 hin24 hat24 (g := (mkF m 86 #[iv x0, iv x1, iv (8 : Int32), rv b6, iv (6 : Int32)] [(.int (5 : Int32)), (.ref b6), (.int (2 : Int32)), (.int (6 : Int32)), (.ref b6)])) rfl rfl (hb hby d7_86)) ?_
  refine Goes.run X22 hx hown hci hcl hby (L := [(87, .imul, 1)]) (by decide +kernel) rfl (g' := (mkF m 88 #[iv x0, iv x1, iv (8 : Int32), rv b6, iv (6 : Int32)] [(.int ((2 : Int32) * ((2 : Int32) * ((2 : Int32) * ((2 : Int32) * ((2 : Int32) * ((2 : Int32) * x1))))))), (.int (6 : Int32)), (.ref b6)])) rfl ?_
  obtain ⟨cl25, Ar25, q25, S25, M25, Hs25, G25⟩ := id V_b6
  have hin25 : ¬ ((6 : Int32) < 0 ∨ cl25.slots.size ≤ ((6 : Int32)).toNatClampNeg) := inb_of S25 ⟨(by decide), (by decide)⟩
  obtain ⟨T25, h25, X25, e25, W25, st25⟩ := stI X22 hx hZ e22 Ar25 (j := (6 : Int32)) hin25 (g := (mkF m 88 #[iv x0, iv x1, iv (8 : Int32), rv b6, iv (6 : Int32)] [(.int ((2 : Int32) * ((2 : Int32) * ((2 : Int32) * ((2 : Int32) * ((2 : Int32) * ((2 : Int32) * x1))))))), (.int (6 : Int32)), (.ref b6)])) rfl rfl (hb hby d7_88)
  have E_b6 := E_b6.wr W25
  have Zn25 : n0 ≤ h25.size := Nat.le_trans Zn22 (Keep.of_wr W25).1
  have K25 := K22.wr W25 (Or.inr sz_b6)
  have N25 := Fr.snoc X25 N22 g_b6
  have V_b6 : Arv Z h25 b6 k6 .int (8 : Int32) [(.int x1), (.int ((2 : Int32) * x1)), (.int ((2 : Int32) * ((2 : Int32) * x1))), (.int ((2 : Int32) * ((2 : Int32) * ((2 : Int32) * x1)))), (.int ((2 : Int32) * ((2 : Int32) * ((2 : Int32) * ((2 : Int32) * x1))))), (.int ((2 : Int32) * ((2 : Int32) * ((2 : Int32) * ((2 : Int32) * ((2 : Int32) * x1)))))), (.int ((2 : Int32) * ((2 : Int32) * ((2 : Int32) * ((2 : Int32) * ((2 : Int32) * ((2 : Int32) * x1))))))), (.int (0 : Int32))] (.int (0 : Int32)) := Arv.set Ar25 q25 S25 M25 Hs25 G25 rfl W25 6 rfl (Nat.le_of_ble_eq_true rfl)
  refine Goes.st (B := T25.setTop (mkF m 89 #[iv x0, iv x1, iv (8 : Int32), rv b6, iv (6 : Int32)] [])) st25 ?_
  refine Goes.run X25 hx hown hci hcl hby (L := [(89, .iinc 4 1, 3), (92, .goto (-23), 3), (69, .iload 4, 2), (71, .iload_n 2, 1), (72, .iconst 1, 1), (73, .isub, 1)]) (by decide +kernel) rfl (g' := (mkF m 74 #[iv x0, iv x1, iv (8 : Int32), rv b6, iv (7 : Int32)] [(.int (7 : Int32)), (.int (7 : Int32))])) rfl ?_
  have hc74_26 : ¬ ((7 : Int32) < (7 : Int32)) := Int32.lt_irrefl
  refine Goes.st (B := T25.setTop (mkF m 95 #[iv x0, iv x1, iv (8 : Int32), rv b6, iv (7 : Int32)] [])) (fun t k => ?_) ?_
  · refine XS.icmpYes X25.here hx rfl (pc0 := 74) (pc' := 95) rfl (hb hby d7_74) rfl (flt hc74_26).2.1 (by decide) (by decide) ?_
    exact k
  refine Goes.run X25 hx hown hci hcl hby (L := [(95, .iload_n 2, 1), (96, .iconst 1, 1)]) (by decide +kernel) rfl (g' := (mkF m 97 #[iv x0, iv x1, iv (8 : Int32), rv b6, iv (7 : Int32)] [(.int (1 : Int32)), (.int (8 : Int32))])) rfl ?_
  have hc97_27 : (1 : Int32) < (8 : Int32) := by decide
  refine Goes.st (B := T25.setTop (mkF m 100 #[iv x0, iv x1, iv (8 : Int32), rv b6, iv (7 : Int32)] [])) (fun t k => ?_) ?_
  · refine XS.icmpNo X25.here hx rfl (hb hby d7_97) rfl (tlt hc97_27).2.2.2 ?_
    exact k
  refine Goes.run X25 hx hown hci hcl hby (L := [(100, .aload_n 3, 1), (101, .iload_n 2, 1), (102, .iconst 1, 1), (103, .isub, 1), (104, .iload_n 0, 1)]) (by decide +kernel) rfl (g' := (mkF m 105 #[iv x0, iv x1, iv (8 : Int32), rv b6, iv (7 : Int32)] [(.int x0), (.int (7 : Int32)), (.ref b6)])) rfl ?_
  obtain ⟨cl28, Ar28, q28, S28, M28, Hs28, G28⟩ := id V_b6
  have hin28 : ¬ ((7 : Int32) < 0 ∨ cl28.slots.size ≤ ((7 : Int32)).toNatClampNeg) := inb_of S28 ⟨(by decide), (by decide)⟩
  obtain ⟨T28, h28, X28, e28, W28, st28⟩ := stI X25 hx hZ e25 Ar28 (j := (7 : Int32)) hin28 (g := (mkF m 105 #[iv x0, iv x1, iv (8 : Int32), rv b6, iv (7 : Int32)] [(.int x0), (.int (7 : Int32)), (.ref b6)])) rfl rfl (hb hby d7_105)
  have E_b6 := E_b6.wr W28
  have Zn28 : n0 ≤ h28.size := Nat.le_trans Zn25 (Keep.of_wr W28).1
  have K28 := K25.wr W28 (Or.inr sz_b6)
  have N28 := Fr.snoc X28 N25 g_b6
  have V_b6 : Arv Z h28 b6 k6 .int (8 : Int32) [(.int x1), (.int ((2 : Int32) * x1)), (.int ((2 : Int32) * ((2 : Int32) * x1))), (.int ((2 : Int32) * ((2 : Int32) * ((2 : Int32) * x1)))), (.int ((2 : Int32) * ((2 : Int32) * ((2 : Int32) * ((2 : Int32) * x1))))), (.int ((2 : Int32) * ((2 : Int32) * ((2 : Int32) * ((2 : Int32) * ((2 : Int32) * x1)))))), (.int ((2 : Int32) * ((2 : Int32) * ((2 : Int32) * ((2 : Int32) * ((2 : Int32) * ((2 : Int32) * x1))))))), (.int x0)] (.int (0 : Int32)) := Arv.set Ar28 q28 S28 M28 Hs28 G28 rfl W28 7 rfl (Nat.le_of_ble_eq_true rfl)
  refine Goes.st (B := T28.setTop (mkF m 106 #[iv x0, iv x1, iv (8 : Int32), rv b6, iv (7 : Int32)] [])) st28 ?_
  refine Goes.run X28 hx hown hci hcl hby (L := [(106, .aload_n 3, 1)]) (by decide +kernel) rfl (g' := (mkF m 107 #[iv x0, iv x1, iv (8 : Int32), rv b6, iv (7 : Int32)] [(.ref b6)])) rfl ?_
  refine Goes.retR X28 hx hlk Bd.returns rfl rfl (hb hby d7_107) ?_ (by decide) (by decide)
  show (Q88 Z x0 x1 h0 n0) _ _ _
  rw [e28]
  exact ⟨b6, k6, rfl, N28, K28, sz_b6, E_b6, V_b6⟩
theorem pn98 : plainName "com/example/eriu/eriu/algorithm/GroupElection" = true := by first | (simp [plainName, overriddenIn]; done) | decide +kernel
theorem pd98_0 : parseMethodDescriptor "(III)[I" = some ⟨[.int, .int, .int], some (.array .int)⟩ := by decide +kernel
theorem pd98_1 : parseMethodDescriptor "(I)J" = some ⟨[.int], some .long⟩ := by decide +kernel
theorem pd98_2 : parseMethodDescriptor "(II)J" = some ⟨[.int, .int], some .long⟩ := by decide +kernel
theorem ef98 (m : MethodId) (x0 : Int32) (x1 : Int32) : entryFrame m #[(.int x0), (.int x1), (.int (8 : Int32))] 6 = (mkF m 0 #[iv x0, iv x1, iv (8 : Int32), .unset, .unset, .unset] []) := by first | (simp [entryFrame, mkF, argsToLocals, Value.category]; done) | rfl
def c98_50_0 (x0 : Int32) (x1 : Int32) : Int32 := ((2 : Int32) * x1)
def c98_50_0_a (x0 : Int32) (x1 : Int32) : Int32 := ((2 : Int32) * ((2 : Int32) * x1))
def c98_50_0_b (x0 : Int32) (x1 : Int32) : Int32 := ((2 : Int32) * ((2 : Int32) * ((2 : Int32) * x1)))
def c98_50_0_c (x0 : Int32) (x1 : Int32) : Int32 := ((2 : Int32) * ((2 : Int32) * ((2 : Int32) * ((2 : Int32) * x1))))
def c98_50_0_d (x0 : Int32) (x1 : Int32) : Int32 := ((2 : Int32) * ((2 : Int32) * ((2 : Int32) * ((2 : Int32) * ((2 : Int32) * x1)))))
def c98_50_0_e (x0 : Int32) (x1 : Int32) : Int32 := ((2 : Int32) * ((2 : Int32) * ((2 : Int32) * ((2 : Int32) * ((2 : Int32) * ((2 : Int32) * x1))))))
def Q98 (Z : State) (x0 : Int32) (x1 : Int32) (h0 : Heap) (n0 : Nat) (v : Option Value) (h : Heap) (L : List Loc) : Prop := ∃ (b : Addr) (k : ClassId), v = some (.ref b) ∧ Fr n0 L ∧ Keep h0 h [] ∧ h0.size ≤ b ∧ Exa Z h b "[J" ∧ Arv Z h b k .long (8 : Int32) [(.long ((r5 x1) + (r7 x0 (c98_50_0 x0 x1)))), (.long ((r5 (c98_50_0 x0 x1)) + (r7 x0 (c98_50_0_a x0 x1)))), (.long ((r5 (c98_50_0_a x0 x1)) + (r7 x0 (c98_50_0_b x0 x1)))), (.long ((r5 (c98_50_0_b x0 x1)) + (r7 x0 (c98_50_0_c x0 x1)))), (.long ((r5 (c98_50_0_c x0 x1)) + (r7 x0 (c98_50_0_d x0 x1)))), (.long ((r5 (c98_50_0_d x0 x1)) + (r7 x0 (c98_50_0_e x0 x1)))), (.long ((r5 (c98_50_0_e x0 x1)) + (r7 x0 x0))), (.long ((r5 x0) + (0 : Int64)))] (.long (0 : Int64))
set_option maxRecDepth 65536 in
set_option maxHeartbeats 40000000 in
theorem rm98 (l : Launch) (Z : State) (a0 : Array Value) (hw : ∀ d ∈ tables_1, d.before a0 Z = true) (ws : List Jvm.Cond) (x0 : Int32) (x1 : Int32) (h0 : Heap) (n0 : Nat) (Z0 : n0 ≤ h0.size) (p1 : ¬ (x0 < (1 : Int32))) (p2 : ¬ (x1 < (1 : Int32))) (p4 : (6 : Int32) < (r3 x1)) (s1 : ¬ (((2 : Int32) * x1) < (1 : Int32))) (s2 : ¬ (((2 : Int32) * ((2 : Int32) * x1)) < (1 : Int32))) (s3 : ¬ (((2 : Int32) * ((2 : Int32) * ((2 : Int32) * x1))) < (1 : Int32))) (s4 : ¬ (((2 : Int32) * ((2 : Int32) * ((2 : Int32) * ((2 : Int32) * x1)))) < (1 : Int32))) (s5 : ¬ (((2 : Int32) * ((2 : Int32) * ((2 : Int32) * ((2 : Int32) * ((2 : Int32) * x1))))) < (1 : Int32))) (s6 : ¬ (((2 : Int32) * ((2 : Int32) * ((2 : Int32) * ((2 : Int32) * ((2 : Int32) * ((2 : Int32) * x1)))))) < (1 : Int32))) (s7 : ¬ (x0 < (1 : Int32))) :
    MetFree l ym7 (head1 (Jvm.Cond.code ym7 prog_4_method_3_code 6 (some (.array .long)) :: ws) ({ frames := 2, cells := 2, slots := 16, locals := 40 } : Room)) (fun a U => a = #[(.int x0), (.int x1), (.int (8 : Int32))] ∧ Z.Warmed39 U.vm ∧ U.heap = h0) (fun _ _ _ _ _ => True) (fun _ U o U' => ∃ v L, o = .returned v ∧ (Q98 Z x0 x1 h0 n0) v U'.heap L ∧ FrameEnd U o U' L ({ frames := 2, cells := 2, slots := 16, locals := 40 } : Room).cells ({ frames := 2, cells := 2, slots := 16, locals := 40 } : Room).slots) := by
  refine MetFree.of_bodySF (plainFor_of_name pn98) hisR ?_
  intro p e s m args below meth c s₁ Bd hml0 hP hK
  obtain ⟨rfl, hZ, hh⟩ := hP
  have hx := Bd.exec
  have hby := Bd.bytes
  have hml : c.maxLocals = 6 := hml0
  have hlk : meth.locks = false := BodyLoose.notSynchronized Bd
  have hown : s.vm.findClass "com/example/eriu/eriu/algorithm/GroupElection" = some m.cls := findClass_of_methodNamed Bd.named
  have hnm := (name_of_methodNamed Bd.named Bd.method).1
  have w_7 := hw _ (List.mem_of_getElem? (i := 7) rfl)
  have w_9 := hw _ (List.mem_of_getElem? (i := 9) rfl)
  have w_10 := hw _ (List.mem_of_getElem? (i := 10) rfl)
  have w_11 := hw _ (List.mem_of_getElem? (i := 11) rfl)
  have w_18 := hw _ (List.mem_of_getElem? (i := 18) rfl)
  have w_19 := hw _ (List.mem_of_getElem? (i := 19) rfl)
  have w_20 := hw _ (List.mem_of_getElem? (i := 20) rfl)
  have w_21 := hw _ (List.mem_of_getElem? (i := 21) rfl)
  have w_22 := hw _ (List.mem_of_getElem? (i := 22) rfl)
  have w_26 := hw _ (List.mem_of_getElem? (i := 26) rfl)
  have w_27 := hw _ (List.mem_of_getElem? (i := 27) rfl)
  have w_28 := hw _ (List.mem_of_getElem? (i := 28) rfl)
  have w_29 := hw _ (List.mem_of_getElem? (i := 29) rfl)
  have hci : ∀ i v, (i, v) ∈ ([] : List (Nat × Int32)) → (Jvm.Cond.constant "com/example/eriu/eriu/algorithm/GroupElection" i v).before #[(.int x0), (.int x1), (.int (8 : Int32))] s = true := own_ci0
  have hcl : ∀ i v, (i, v) ∈ ([(215, 2), (236, 3)] : List (Nat × Int64)) → (Jvm.Cond.constantLong "com/example/eriu/eriu/algorithm/GroupElection" i v).before #[(.int x0), (.int x1), (.int (8 : Int32))] s = true := (own_ciS (mvT hZ w_22) (own_ciS (mvT hZ w_26) own_ci0))
  have X0 : Stand p l e ({ frames := 2, cells := 2, slots := 16, locals := 40 } : Room) s m #[(.int x0), (.int x1), (.int (8 : Int32))] below meth c s₁ [] 0 0 := Stand.of_body Bd
  have e0 : s₁.heap = h0 := by rw [← hh, Bd.state]; rfl
  have N0 := Fr.nil n0
  show Goes p e below s (Q98 Z x0 x1 h0 n0) ({ frames := 2, cells := 2, slots := 16, locals := 40 } : Room).cells ({ frames := 2, cells := 2, slots := 16, locals := 40 } : Room).slots (s₁.setTop (entryFrame m #[(.int x0), (.int x1), (.int (8 : Int32))] 6))
  refine Goes.cast (ef98 m x0 x1) ?_
  have K0 : Keep h0 h0 [] := Keep.refl h0 _
  refine Goes.run X0 hx hown hci hcl hby (L := [(0, .iload_n 0, 1), (1, .iload_n 1, 1), (2, .iload_n 2, 1)]) (by decide +kernel) rfl (g' := (mkF m 3 #[iv x0, iv x1, iv (8 : Int32), .unset, .unset, .unset] [(.int (8 : Int32)), (.int x1), (.int x0)])) rfl ?_
  obtain ⟨_, _, ⟨T1, L1, k1, n1⟩, -, X1, ⟨Lc1, hQ1, l1, y1, z1⟩, st1⟩ := Jvm.LawKit.callS X0 hx (y := ym6) hown (mvT hZ w_9) (mvT hZ w_10) (mvT hZ w_7) (mvT hZ w_11) (by decide) (backOf (W := 0) (rm88 l Z a0 hw [] x0 x1 h0 n0 Z0 p1 p2 p4) hZ w_11 w_7 (by decide) (by decide)) (g := (mkF m 3 #[iv x0, iv x1, iv (8 : Int32), .unset, .unset, .unset] [(.int (8 : Int32)), (.int x1), (.int x0)])) rfl (by rw [hml]; rfl) (argsL := [(.int x0), (.int x1), (.int (8 : Int32))]) (rest := []) (lenOf pd98_0 rfl) rfl (by show 2 * 0 + _ ≤ _; exact Nat.le_of_eq rfl) (hb hby d8_3) (fun _ _ => ⟨rfl, e0, (by decide : 0 + 1 ≤ _), (by decide : 0 + 8 ≤ _)⟩)
  dsimp only [Pt.U, Pt.locs, Pt.cells, Pt.slots] at X1 l1 y1 z1 st1 hQ1
  subst l1 y1 z1
  obtain ⟨h1, eh1⟩ : ∃ z, z = T1.heap := ⟨_, rfl⟩
  rw [← eh1] at hQ1
  have e1 : T1.heap = h1 := eh1.symm
  obtain ⟨b1, kc1, rfl, N1q, Kq1, szq1, o1_0, o1_1⟩ := hQ1
  have g_b1 : n0 ≤ b1 := Nat.le_trans Z0 szq1
  have sz_b1 : h0.size ≤ b1 := Nat.le_trans K0.1 szq1
  have N1 := Fr.app N0 N1q
  have E_b1 : Exa Z h1 b1 "[I" := o1_0
  have V_b1 : Arv Z h1 b1 kc1 .int (8 : Int32) [(.int x1), (.int ((2 : Int32) * x1)), (.int ((2 : Int32) * ((2 : Int32) * x1))), (.int ((2 : Int32) * ((2 : Int32) * ((2 : Int32) * x1)))), (.int ((2 : Int32) * ((2 : Int32) * ((2 : Int32) * ((2 : Int32) * x1))))), (.int ((2 : Int32) * ((2 : Int32) * ((2 : Int32) * ((2 : Int32) * ((2 : Int32) * x1)))))), (.int ((2 : Int32) * ((2 : Int32) * ((2 : Int32) * ((2 : Int32) * ((2 : Int32) * ((2 : Int32) * x1))))))), (.int x0)] (.int (0 : Int32)) := o1_1
  have Zn1 : n0 ≤ h1.size := Nat.le_trans Z0 Kq1.1
  have K1 := K0.trans Kq1 (all0)
  refine Goes.st (B := T1.setTop (mkF m 6 #[iv x0, iv x1, iv (8 : Int32), .unset, .unset, .unset] [(.ref b1)])) st1 ?_
  refine Goes.run X1 hx hown hci hcl hby (L := [(6, .astore_n 3, 1), (7, .aload_n 3, 1)]) (by decide +kernel) rfl (g' := (mkF m 8 #[iv x0, iv x1, iv (8 : Int32), rv b1, .unset, .unset] [(.ref b1)])) rfl ?_
  obtain ⟨cl2, Ar2, q2, S2, M2, Hs2, G2⟩ := id V_b1
  refine Goes.st (B := T1.setTop (mkF m 9 #[iv x0, iv x1, iv (8 : Int32), rv b1, .unset, .unset] [(.int (8 : Int32))])) (fun t k => ?_) ?_
  · refine X1.arraylength hx (cell := cl2) (by rw [e1]; exact Ar2.1) (State.isArrayOf_alike hZ.alike Ar2.2.1) (g := (mkF m 8 #[iv x0, iv x1, iv (8 : Int32), rv b1, .unset, .unset] [(.ref b1)])) rfl (rest := []) rfl (hb hby d8_8) _ ?_
    rw [len_of S2 M2]
    exact k
  obtain ⟨T3, h3, k3, X3, e3, E3, A3, B3, st3⟩ := newPE X1 hx hZ (aty := .long) w_18 e1 (g := (mkF m 9 #[iv x0, iv x1, iv (8 : Int32), rv b1, .unset, .unset] [(.int (8 : Int32))])) rfl (hb hby d8_9) rfl (by decide) (cap := 8) (by decide) (by decide) (by decide) (by decide) (ad := "[J") (by decide)
  obtain ⟨b3, g3⟩ : ∃ z, z = h1.size := ⟨_, rfl⟩
  rw [← g3] at A3 B3 st3
  have ne_b1_b3 : b1 ≠ b3 := Nat.ne_of_lt (Nat.lt_of_lt_of_le E_b1.lt (Nat.le_of_eq g3.symm))
  have g_b3 : n0 ≤ b3 := Nat.le_trans Zn1 (Nat.le_of_eq g3.symm)
  have sz_b3 : h0.size ≤ b3 := Nat.le_trans K1.1 (Nat.le_of_eq g3.symm)
  have E_b1 := E_b1.ext E3
  have V_b1 := V_b1.ext E3
  have Zn3 : n0 ≤ h3.size := Nat.le_trans Zn1 E3.1
  have K3 := K1.ext E3
  have E_b3 : Exa Z h3 b3 "[J" := B3
  have V_b3 : Arv Z h3 b3 k3 .long (8 : Int32) [(.long (0 : Int64)), (.long (0 : Int64)), (.long (0 : Int64)), (.long (0 : Int64)), (.long (0 : Int64)), (.long (0 : Int64)), (.long (0 : Int64)), (.long (0 : Int64))] (.long (0 : Int64)) := (Arv.new A3 (by decide)).pad (pad_rep [] (.long (0 : Int64)) 8)
  refine Goes.st (B := T3.setTop (mkF m 11 #[iv x0, iv x1, iv (8 : Int32), rv b1, .unset, .unset] [(.ref b3)])) st3 ?_
  refine Goes.run X3 hx hown hci hcl hby (L := [(11, .astore 4, 2), (13, .iconst 0, 1), (14, .istore 5, 2), (16, .iload 5, 2), (18, .aload_n 3, 1)]) (by decide +kernel) rfl (g' := (mkF m 19 #[iv x0, iv x1, iv (8 : Int32), rv b1, rv b3, iv (0 : Int32)] [(.ref b1), (.int (0 : Int32))])) rfl ?_
  obtain ⟨cl4, Ar4, q4, S4, M4, Hs4, G4⟩ := id V_b1
  refine Goes.st (B := T3.setTop (mkF m 20 #[iv x0, iv x1, iv (8 : Int32), rv b1, rv b3, iv (0 : Int32)] [(.int (8 : Int32)), (.int (0 : Int32))])) (fun t k => ?_) ?_
  · refine X3.arraylength hx (cell := cl4) (by rw [e3]; exact Ar4.1) (State.isArrayOf_alike hZ.alike Ar4.2.1) (g := (mkF m 19 #[iv x0, iv x1, iv (8 : Int32), rv b1, rv b3, iv (0 : Int32)] [(.ref b1), (.int (0 : Int32))])) rfl (rest := [(.int (0 : Int32))]) rfl (hb hby d8_19) _ ?_
    rw [len_of S4 M4]
    exact k
  have hc20_5 : (0 : Int32) < (8 : Int32) := by decide
  refine Goes.st (B := T3.setTop (mkF m 23 #[iv x0, iv x1, iv (8 : Int32), rv b1, rv b3, iv (0 : Int32)] [])) (fun t k => ?_) ?_
  · refine XS.icmpNo X3.here hx rfl (hb hby d8_20) rfl (tlt hc20_5).2.1 ?_
    exact k
  refine Goes.run X3 hx hown hci hcl hby (L := [(23, .aload 4, 2), (25, .iload 5, 2), (27, .aload_n 3, 1), (28, .iload 5, 2)]) (by decide +kernel) rfl (g' := (mkF m 30 #[iv x0, iv x1, iv (8 : Int32), rv b1, rv b3, iv (0 : Int32)] [(.int (0 : Int32)), (.ref b1), (.int (0 : Int32)), (.ref b3)])) rfl ?_
  obtain ⟨cl6, Ar6, q6, S6, M6, Hs6, G6⟩ := id V_b1
  have hin6 : ¬ ((0 : Int32) < 0 ∨ cl6.slots.size ≤ ((0 : Int32)).toNatClampNeg) := inb_of S6 ⟨(by decide), (by decide)⟩
  have hat6 : cl6.slots[((0 : Int32)).toNatClampNeg]? = some (.int x1) := Hs6.at hin6 rfl
  refine Goes.st (B := T3.setTop (mkF m 31 #[iv x0, iv x1, iv (8 : Int32), rv b1, rv b3, iv (0 : Int32)] [(.int x1), (.int (0 : Int32)), (.ref b3)])) (X3.iaload hx (j := (0 : Int32)) (v := (.int x1)) (by rw [e3]; exact Ar6.1) (State.isArrayOf_alike hZ.alike Ar6.2.1) Ar6.2.2 hin6 hat6 (g := (mkF m 30 #[iv x0, iv x1, iv (8 : Int32), rv b1, rv b3, iv (0 : Int32)] [(.int (0 : Int32)), (.ref b1), (.int (0 : Int32)), (.ref b3)])) rfl rfl (hb hby d8_30)) ?_
  obtain ⟨_, _, ⟨T7, L7, k7, n7⟩, -, X7, ⟨Lc7, hQ7, l7, y7, z7⟩, st7⟩ := Jvm.LawKit.callS X3 hx (y := ym3) hown (mvT hZ w_19) (mvT hZ w_20) (mvT hZ w_7) (mvT hZ w_21) (by decide) (backOf (W := 2) (rm5 l Z a0 hw [] x1 h3 n0 Zn3 ) hZ w_21 w_7 (by decide) (by decide)) (g := (mkF m 31 #[iv x0, iv x1, iv (8 : Int32), rv b1, rv b3, iv (0 : Int32)] [(.int x1), (.int (0 : Int32)), (.ref b3)])) rfl (by rw [hml]; rfl) (argsL := [(.int x1)]) (rest := [(.int (0 : Int32)), (.ref b3)]) (lenOf pd98_1 rfl) rfl (by show 2 * 0 + _ ≤ _; exact Nat.le_of_eq rfl) (hb hby d8_31) (fun _ _ => ⟨rfl, e3, (by decide : 2 + 0 ≤ _), (by decide : 16 + 0 ≤ _)⟩)
  dsimp only [Pt.U, Pt.locs, Pt.cells, Pt.slots] at X7 l7 y7 z7 st7 hQ7
  subst l7 y7 z7
  obtain ⟨rfl, N7q, e7⟩ := hQ7
  have N7 := Fr.app N1 N7q
  refine Goes.st (B := T7.setTop (mkF m 34 #[iv x0, iv x1, iv (8 : Int32), rv b1, rv b3, iv (0 : Int32)] [(.long (r5 x1)), (.int (0 : Int32)), (.ref b3)])) st7 ?_
  refine Goes.run X7 hx hown hci hcl hby (L := [(34, .iload 5, 2), (36, .iconst 1, 1), (37, .iadd, 1), (38, .aload_n 3, 1)]) (by decide +kernel) rfl (g' := (mkF m 39 #[iv x0, iv x1, iv (8 : Int32), rv b1, rv b3, iv (0 : Int32)] [(.ref b1), (.int (1 : Int32)), (.long (r5 x1)), (.int (0 : Int32)), (.ref b3)])) rfl ?_
  obtain ⟨cl8, Ar8, q8, S8, M8, Hs8, G8⟩ := id V_b1
  refine Goes.st (B := T7.setTop (mkF m 40 #[iv x0, iv x1, iv (8 : Int32), rv b1, rv b3, iv (0 : Int32)] [(.int (8 : Int32)), (.int (1 : Int32)), (.long (r5 x1)), (.int (0 : Int32)), (.ref b3)])) (fun t k => ?_) ?_
  · refine X7.arraylength hx (cell := cl8) (by rw [e7]; exact Ar8.1) (State.isArrayOf_alike hZ.alike Ar8.2.1) (g := (mkF m 39 #[iv x0, iv x1, iv (8 : Int32), rv b1, rv b3, iv (0 : Int32)] [(.ref b1), (.int (1 : Int32)), (.long (r5 x1)), (.int (0 : Int32)), (.ref b3)])) rfl (rest := [(.int (1 : Int32)), (.long (r5 x1)), (.int (0 : Int32)), (.ref b3)]) rfl (hb hby d8_39) _ ?_
    rw [len_of S8 M8]
    exact k
  have hc40_9 : (1 : Int32) < (8 : Int32) := by decide
  refine Goes.st (B := T7.setTop (mkF m 43 #[iv x0, iv x1, iv (8 : Int32), rv b1, rv b3, iv (0 : Int32)] [(.long (r5 x1)), (.int (0 : Int32)), (.ref b3)])) (fun t k => ?_) ?_
  · refine XS.icmpNo X7.here hx rfl (hb hby d8_40) rfl (tlt hc40_9).2.1 ?_
    exact k
  refine Goes.run X7 hx hown hci hcl hby (L := [(43, .iload_n 0, 1), (44, .aload_n 3, 1), (45, .iload 5, 2), (47, .iconst 1, 1), (48, .iadd, 1)]) (by decide +kernel) rfl (g' := (mkF m 49 #[iv x0, iv x1, iv (8 : Int32), rv b1, rv b3, iv (0 : Int32)] [(.int (1 : Int32)), (.ref b1), (.int x0), (.long (r5 x1)), (.int (0 : Int32)), (.ref b3)])) rfl ?_
  obtain ⟨cl10, Ar10, q10, S10, M10, Hs10, G10⟩ := id V_b1
  have hin10 : ¬ ((1 : Int32) < 0 ∨ cl10.slots.size ≤ ((1 : Int32)).toNatClampNeg) := inb_of S10 ⟨(by decide), (by decide)⟩
  have hat10 : cl10.slots[((1 : Int32)).toNatClampNeg]? = some (.int ((2 : Int32) * x1)) := Hs10.at hin10 rfl
  refine Goes.st (B := T7.setTop (mkF m 50 #[iv x0, iv x1, iv (8 : Int32), rv b1, rv b3, iv (0 : Int32)] [(.int ((2 : Int32) * x1)), (.int x0), (.long (r5 x1)), (.int (0 : Int32)), (.ref b3)])) (X7.iaload hx (j := (1 : Int32)) (v := (.int ((2 : Int32) * x1))) (by rw [e7]; exact Ar10.1) (State.isArrayOf_alike hZ.alike Ar10.2.1) Ar10.2.2 hin10 hat10 (g := (mkF m 49 #[iv x0, iv x1, iv (8 : Int32), rv b1, rv b3, iv (0 : Int32)] [(.int (1 : Int32)), (.ref b1), (.int x0), (.long (r5 x1)), (.int (0 : Int32)), (.ref b3)])) rfl rfl (hb hby d8_49)) ?_
  obtain ⟨_, _, ⟨T11, L11, k11, n11⟩, -, X11, ⟨Lc11, hQ11, l11, y11, z11⟩, st11⟩ := Jvm.LawKit.callS X7 hx (y := ym5) hown (mvT hZ w_27) (mvT hZ w_28) (mvT hZ w_7) (mvT hZ w_29) (by decide) (backOf (W := 4) (rm7 l Z a0 hw [] x0 (c98_50_0 x0 x1) h3 n0 Zn3 (by first | assumption | exact p1 | exact p2)) hZ w_29 w_7 (by decide) (by decide)) (g := (mkF m 50 #[iv x0, iv x1, iv (8 : Int32), rv b1, rv b3, iv (0 : Int32)] [(.int (c98_50_0 x0 x1)), (.int x0), (.long (r5 x1)), (.int (0 : Int32)), (.ref b3)])) rfl (by rw [hml]; rfl) (argsL := [(.int x0), (.int (c98_50_0 x0 x1))]) (rest := [(.long (r5 x1)), (.int (0 : Int32)), (.ref b3)]) (lenOf pd98_2 rfl) rfl (by show 2 * 0 + _ ≤ _; exact Nat.le_of_eq rfl) (hb hby d8_50) (fun _ _ => ⟨rfl, e7, (by decide : 2 + 0 ≤ _), (by decide : 16 + 0 ≤ _)⟩)
  dsimp only [Pt.U, Pt.locs, Pt.cells, Pt.slots] at X11 l11 y11 z11 st11 hQ11
  subst l11 y11 z11
  obtain ⟨rfl, N11q, e11⟩ := hQ11
  have N11 := Fr.app N7 N11q
  refine Goes.st (B := T11.setTop (mkF m 53 #[iv x0, iv x1, iv (8 : Int32), rv b1, rv b3, iv (0 : Int32)] [(.long (r7 x0 (c98_50_0 x0 x1))), (.long (r5 x1)), (.int (0 : Int32)), (.ref b3)])) st11 ?_
  refine Goes.run X11 hx hown hci hcl hby (L := [(53, .goto 4, 3), (57, .ladd, 1)]) (by decide +kernel) rfl (g' := (mkF m 58 #[iv x0, iv x1, iv (8 : Int32), rv b1, rv b3, iv (0 : Int32)] [(.long ((r5 x1) + (r7 x0 (c98_50_0 x0 x1)))), (.int (0 : Int32)), (.ref b3)])) rfl ?_
  obtain ⟨cl12, Ar12, q12, S12, M12, Hs12, G12⟩ := id V_b3
  have hin12 : ¬ ((0 : Int32) < 0 ∨ cl12.slots.size ≤ ((0 : Int32)).toNatClampNeg) := inb_of S12 ⟨(by decide), (by decide)⟩
  obtain ⟨T12, h12, X12, e12, W12, st12⟩ := stJ X11 hx hZ e11 Ar12 (j := (0 : Int32)) hin12 (g := (mkF m 58 #[iv x0, iv x1, iv (8 : Int32), rv b1, rv b3, iv (0 : Int32)] [(.long ((r5 x1) + (r7 x0 (c98_50_0 x0 x1)))), (.int (0 : Int32)), (.ref b3)])) rfl rfl (hb hby d8_58)
  have E_b1 := E_b1.wr W12
  have V_b1 := V_b1.other W12 ne_b1_b3
  have E_b3 := E_b3.wr W12
  have Zn12 : n0 ≤ h12.size := Nat.le_trans Zn3 (Keep.of_wr W12).1
  have K12 := K3.wr W12 (Or.inr sz_b3)
  have N12 := Fr.snoc X12 N11 g_b3
  have V_b3 : Arv Z h12 b3 k3 .long (8 : Int32) [(.long ((r5 x1) + (r7 x0 (c98_50_0 x0 x1)))), (.long (0 : Int64)), (.long (0 : Int64)), (.long (0 : Int64)), (.long (0 : Int64)), (.long (0 : Int64)), (.long (0 : Int64)), (.long (0 : Int64))] (.long (0 : Int64)) := Arv.set Ar12 q12 S12 M12 Hs12 G12 rfl W12 0 rfl (Nat.le_of_ble_eq_true rfl)
  refine Goes.st (B := T12.setTop (mkF m 59 #[iv x0, iv x1, iv (8 : Int32), rv b1, rv b3, iv (0 : Int32)] [])) st12 ?_
  refine Goes.run X12 hx hown hci hcl hby (L := [(59, .iinc 5 1, 3), (62, .goto (-46), 3), (16, .iload 5, 2), (18, .aload_n 3, 1)]) (by decide +kernel) rfl (g' := (mkF m 19 #[iv x0, iv x1, iv (8 : Int32), rv b1, rv b3, iv (1 : Int32)] [(.ref b1), (.int (1 : Int32))])) rfl ?_
  obtain ⟨cl13, Ar13, q13, S13, M13, Hs13, G13⟩ := id V_b1
  refine Goes.st (B := T12.setTop (mkF m 20 #[iv x0, iv x1, iv (8 : Int32), rv b1, rv b3, iv (1 : Int32)] [(.int (8 : Int32)), (.int (1 : Int32))])) (fun t k => ?_) ?_
  · refine X12.arraylength hx (cell := cl13) (by rw [e12]; exact Ar13.1) (State.isArrayOf_alike hZ.alike Ar13.2.1) (g := (mkF m 19 #[iv x0, iv x1, iv (8 : Int32), rv b1, rv b3, iv (1 : Int32)] [(.ref b1), (.int (1 : Int32))])) rfl (rest := [(.int (1 : Int32))]) rfl (hb hby d8_19) _ ?_
    rw [len_of S13 M13]
    exact k
  have hc20_14 : (1 : Int32) < (8 : Int32) := by decide
  refine Goes.st (B := T12.setTop (mkF m 23 #[iv x0, iv x1, iv (8 : Int32), rv b1, rv b3, iv (1 : Int32)] [])) (fun t k => ?_) ?_
  · refine XS.icmpNo X12.here hx rfl (hb hby d8_20) rfl (tlt hc20_14).2.1 ?_
    exact k
  refine Goes.run X12 hx hown hci hcl hby (L := [(23, .aload 4, 2), (25, .iload 5, 2), (27, .aload_n 3, 1), (28, .iload 5, 2)]) (by decide +kernel) rfl (g' := (mkF m 30 #[iv x0, iv x1, iv (8 : Int32), rv b1, rv b3, iv (1 : Int32)] [(.int (1 : Int32)), (.ref b1), (.int (1 : Int32)), (.ref b3)])) rfl ?_
  obtain ⟨cl15, Ar15, q15, S15, M15, Hs15, G15⟩ := id V_b1
  have hin15 : ¬ ((1 : Int32) < 0 ∨ cl15.slots.size ≤ ((1 : Int32)).toNatClampNeg) := inb_of S15 ⟨(by decide), (by decide)⟩
  have hat15 : cl15.slots[((1 : Int32)).toNatClampNeg]? = some (.int ((2 : Int32) * x1)) := Hs15.at hin15 rfl
  refine Goes.st (B := T12.setTop (mkF m 31 #[iv x0, iv x1, iv (8 : Int32), rv b1, rv b3, iv (1 : Int32)] [(.int ((2 : Int32) * x1)), (.int (1 : Int32)), (.ref b3)])) (X12.iaload hx (j := (1 : Int32)) (v := (.int ((2 : Int32) * x1))) (by rw [e12]; exact Ar15.1) (State.isArrayOf_alike hZ.alike Ar15.2.1) Ar15.2.2 hin15 hat15 (g := (mkF m 30 #[iv x0, iv x1, iv (8 : Int32), rv b1, rv b3, iv (1 : Int32)] [(.int (1 : Int32)), (.ref b1), (.int (1 : Int32)), (.ref b3)])) rfl rfl (hb hby d8_30)) ?_
  obtain ⟨_, _, ⟨T16, L16, k16, n16⟩, -, X16, ⟨Lc16, hQ16, l16, y16, z16⟩, st16⟩ := Jvm.LawKit.callS X12 hx (y := ym3) hown (mvT hZ w_19) (mvT hZ w_20) (mvT hZ w_7) (mvT hZ w_21) (by decide) (backOf (W := 2) (rm5 l Z a0 hw [] (c98_50_0 x0 x1) h12 n0 Zn12 ) hZ w_21 w_7 (by decide) (by decide)) (g := (mkF m 31 #[iv x0, iv x1, iv (8 : Int32), rv b1, rv b3, iv (1 : Int32)] [(.int (c98_50_0 x0 x1)), (.int (1 : Int32)), (.ref b3)])) rfl (by rw [hml]; rfl) (argsL := [(.int (c98_50_0 x0 x1))]) (rest := [(.int (1 : Int32)), (.ref b3)]) (lenOf pd98_1 rfl) rfl (by show 2 * 0 + _ ≤ _; exact Nat.le_of_eq rfl) (hb hby d8_31) (fun _ _ => ⟨rfl, e12, (by decide : 2 + 0 ≤ _), (by decide : 16 + 0 ≤ _)⟩)
  dsimp only [Pt.U, Pt.locs, Pt.cells, Pt.slots] at X16 l16 y16 z16 st16 hQ16
  subst l16 y16 z16
  obtain ⟨rfl, N16q, e16⟩ := hQ16
  have N16 := Fr.app N12 N16q
  refine Goes.st (B := T16.setTop (mkF m 34 #[iv x0, iv x1, iv (8 : Int32), rv b1, rv b3, iv (1 : Int32)] [(.long (r5 (c98_50_0 x0 x1))), (.int (1 : Int32)), (.ref b3)])) st16 ?_
  refine Goes.run X16 hx hown hci hcl hby (L := [(34, .iload 5, 2), (36, .iconst 1, 1), (37, .iadd, 1), (38, .aload_n 3, 1)]) (by decide +kernel) rfl (g' := (mkF m 39 #[iv x0, iv x1, iv (8 : Int32), rv b1, rv b3, iv (1 : Int32)] [(.ref b1), (.int (2 : Int32)), (.long (r5 (c98_50_0 x0 x1))), (.int (1 : Int32)), (.ref b3)])) rfl ?_
  obtain ⟨cl17, Ar17, q17, S17, M17, Hs17, G17⟩ := id V_b1
  refine Goes.st (B := T16.setTop (mkF m 40 #[iv x0, iv x1, iv (8 : Int32), rv b1, rv b3, iv (1 : Int32)] [(.int (8 : Int32)), (.int (2 : Int32)), (.long (r5 (c98_50_0 x0 x1))), (.int (1 : Int32)), (.ref b3)])) (fun t k => ?_) ?_
  · refine X16.arraylength hx (cell := cl17) (by rw [e16]; exact Ar17.1) (State.isArrayOf_alike hZ.alike Ar17.2.1) (g := (mkF m 39 #[iv x0, iv x1, iv (8 : Int32), rv b1, rv b3, iv (1 : Int32)] [(.ref b1), (.int (2 : Int32)), (.long (r5 (c98_50_0 x0 x1))), (.int (1 : Int32)), (.ref b3)])) rfl (rest := [(.int (2 : Int32)), (.long (r5 (c98_50_0 x0 x1))), (.int (1 : Int32)), (.ref b3)]) rfl (hb hby d8_39) _ ?_
    rw [len_of S17 M17]
    exact k
  have hc40_18 : (2 : Int32) < (8 : Int32) := by decide
  refine Goes.st (B := T16.setTop (mkF m 43 #[iv x0, iv x1, iv (8 : Int32), rv b1, rv b3, iv (1 : Int32)] [(.long (r5 (c98_50_0 x0 x1))), (.int (1 : Int32)), (.ref b3)])) (fun t k => ?_) ?_
  · refine XS.icmpNo X16.here hx rfl (hb hby d8_40) rfl (tlt hc40_18).2.1 ?_
    exact k
  refine Goes.run X16 hx hown hci hcl hby (L := [(43, .iload_n 0, 1), (44, .aload_n 3, 1), (45, .iload 5, 2), (47, .iconst 1, 1), (48, .iadd, 1)]) (by decide +kernel) rfl (g' := (mkF m 49 #[iv x0, iv x1, iv (8 : Int32), rv b1, rv b3, iv (1 : Int32)] [(.int (2 : Int32)), (.ref b1), (.int x0), (.long (r5 (c98_50_0 x0 x1))), (.int (1 : Int32)), (.ref b3)])) rfl ?_
  obtain ⟨cl19, Ar19, q19, S19, M19, Hs19, G19⟩ := id V_b1
  have hin19 : ¬ ((2 : Int32) < 0 ∨ cl19.slots.size ≤ ((2 : Int32)).toNatClampNeg) := inb_of S19 ⟨(by decide), (by decide)⟩
  have hat19 : cl19.slots[((2 : Int32)).toNatClampNeg]? = some (.int ((2 : Int32) * ((2 : Int32) * x1))) := Hs19.at hin19 rfl
  refine Goes.st (B := T16.setTop (mkF m 50 #[iv x0, iv x1, iv (8 : Int32), rv b1, rv b3, iv (1 : Int32)] [(.int ((2 : Int32) * ((2 : Int32) * x1))), (.int x0), (.long (r5 (c98_50_0 x0 x1))), (.int (1 : Int32)), (.ref b3)])) (X16.iaload hx (j := (2 : Int32)) (v := (.int ((2 : Int32) * ((2 : Int32) * x1)))) (by rw [e16]; exact Ar19.1) (State.isArrayOf_alike hZ.alike Ar19.2.1) Ar19.2.2 hin19 hat19 (g := (mkF m 49 #[iv x0, iv x1, iv (8 : Int32), rv b1, rv b3, iv (1 : Int32)] [(.int (2 : Int32)), (.ref b1), (.int x0), (.long (r5 (c98_50_0 x0 x1))), (.int (1 : Int32)), (.ref b3)])) rfl rfl (hb hby d8_49)) ?_
  obtain ⟨_, _, ⟨T20, L20, k20, n20⟩, -, X20, ⟨Lc20, hQ20, l20, y20, z20⟩, st20⟩ := Jvm.LawKit.callS X16 hx (y := ym5) hown (mvT hZ w_27) (mvT hZ w_28) (mvT hZ w_7) (mvT hZ w_29) (by decide) (backOf (W := 4) (rm7 l Z a0 hw [] x0 (c98_50_0_a x0 x1) h12 n0 Zn12 (by first | assumption | exact p1 | exact p2)) hZ w_29 w_7 (by decide) (by decide)) (g := (mkF m 50 #[iv x0, iv x1, iv (8 : Int32), rv b1, rv b3, iv (1 : Int32)] [(.int (c98_50_0_a x0 x1)), (.int x0), (.long (r5 (c98_50_0 x0 x1))), (.int (1 : Int32)), (.ref b3)])) rfl (by rw [hml]; rfl) (argsL := [(.int x0), (.int (c98_50_0_a x0 x1))]) (rest := [(.long (r5 (c98_50_0 x0 x1))), (.int (1 : Int32)), (.ref b3)]) (lenOf pd98_2 rfl) rfl (by show 2 * 0 + _ ≤ _; exact Nat.le_of_eq rfl) (hb hby d8_50) (fun _ _ => ⟨rfl, e16, (by decide : 2 + 0 ≤ _), (by decide : 16 + 0 ≤ _)⟩)
  dsimp only [Pt.U, Pt.locs, Pt.cells, Pt.slots] at X20 l20 y20 z20 st20 hQ20
  subst l20 y20 z20
  obtain ⟨rfl, N20q, e20⟩ := hQ20
  have N20 := Fr.app N16 N20q
  refine Goes.st (B := T20.setTop (mkF m 53 #[iv x0, iv x1, iv (8 : Int32), rv b1, rv b3, iv (1 : Int32)] [(.long (r7 x0 (c98_50_0_a x0 x1))), (.long (r5 (c98_50_0 x0 x1))), (.int (1 : Int32)), (.ref b3)])) st20 ?_
  refine Goes.run X20 hx hown hci hcl hby (L := [(53, .goto 4, 3), (57, .ladd, 1)]) (by decide +kernel) rfl (g' := (mkF m 58 #[iv x0, iv x1, iv (8 : Int32), rv b1, rv b3, iv (1 : Int32)] [(.long ((r5 (c98_50_0 x0 x1)) + (r7 x0 (c98_50_0_a x0 x1)))), (.int (1 : Int32)), (.ref b3)])) rfl ?_
  obtain ⟨cl21, Ar21, q21, S21, M21, Hs21, G21⟩ := id V_b3
  have hin21 : ¬ ((1 : Int32) < 0 ∨ cl21.slots.size ≤ ((1 : Int32)).toNatClampNeg) := inb_of S21 ⟨(by decide), (by decide)⟩
  obtain ⟨T21, h21, X21, e21, W21, st21⟩ := stJ X20 hx hZ e20 Ar21 (j := (1 : Int32)) hin21 (g := (mkF m 58 #[iv x0, iv x1, iv (8 : Int32), rv b1, rv b3, iv (1 : Int32)] [(.long ((r5 (c98_50_0 x0 x1)) + (r7 x0 (c98_50_0_a x0 x1)))), (.int (1 : Int32)), (.ref b3)])) rfl rfl (hb hby d8_58)
  have E_b1 := E_b1.wr W21
  have V_b1 := V_b1.other W21 ne_b1_b3
  have E_b3 := E_b3.wr W21
  have Zn21 : n0 ≤ h21.size := Nat.le_trans Zn12 (Keep.of_wr W21).1
  have K21 := K12.wr W21 (Or.inr sz_b3)
  have N21 := Fr.snoc X21 N20 g_b3
  have V_b3 : Arv Z h21 b3 k3 .long (8 : Int32) [(.long ((r5 x1) + (r7 x0 (c98_50_0 x0 x1)))), (.long ((r5 (c98_50_0 x0 x1)) + (r7 x0 (c98_50_0_a x0 x1)))), (.long (0 : Int64)), (.long (0 : Int64)), (.long (0 : Int64)), (.long (0 : Int64)), (.long (0 : Int64)), (.long (0 : Int64))] (.long (0 : Int64)) := Arv.set Ar21 q21 S21 M21 Hs21 G21 rfl W21 1 rfl (Nat.le_of_ble_eq_true rfl)
  refine Goes.st (B := T21.setTop (mkF m 59 #[iv x0, iv x1, iv (8 : Int32), rv b1, rv b3, iv (1 : Int32)] [])) st21 ?_
  refine Goes.run X21 hx hown hci hcl hby (L := [(59, .iinc 5 1, 3), (62, .goto (-46), 3), (16, .iload 5, 2), (18, .aload_n 3, 1)]) (by decide +kernel) rfl (g' := (mkF m 19 #[iv x0, iv x1, iv (8 : Int32), rv b1, rv b3, iv (2 : Int32)] [(.ref b1), (.int (2 : Int32))])) rfl ?_
  obtain ⟨cl22, Ar22, q22, S22, M22, Hs22, G22⟩ := id V_b1
  refine Goes.st (B := T21.setTop (mkF m 20 #[iv x0, iv x1, iv (8 : Int32), rv b1, rv b3, iv (2 : Int32)] [(.int (8 : Int32)), (.int (2 : Int32))])) (fun t k => ?_) ?_
  · refine X21.arraylength hx (cell := cl22) (by rw [e21]; exact Ar22.1) (State.isArrayOf_alike hZ.alike Ar22.2.1) (g := (mkF m 19 #[iv x0, iv x1, iv (8 : Int32), rv b1, rv b3, iv (2 : Int32)] [(.ref b1), (.int (2 : Int32))])) rfl (rest := [(.int (2 : Int32))]) rfl (hb hby d8_19) _ ?_
    rw [len_of S22 M22]
    exact k
  have hc20_23 : (2 : Int32) < (8 : Int32) := by decide
  refine Goes.st (B := T21.setTop (mkF m 23 #[iv x0, iv x1, iv (8 : Int32), rv b1, rv b3, iv (2 : Int32)] [])) (fun t k => ?_) ?_
  · refine XS.icmpNo X21.here hx rfl (hb hby d8_20) rfl (tlt hc20_23).2.1 ?_
    exact k
  refine Goes.run X21 hx hown hci hcl hby (L := [(23, .aload 4, 2), (25, .iload 5, 2), (27, .aload_n 3, 1), (28, .iload 5, 2)]) (by decide +kernel) rfl (g' := (mkF m 30 #[iv x0, iv x1, iv (8 : Int32), rv b1, rv b3, iv (2 : Int32)] [(.int (2 : Int32)), (.ref b1), (.int (2 : Int32)), (.ref b3)])) rfl ?_
  obtain ⟨cl24, Ar24, q24, S24, M24, Hs24, G24⟩ := id V_b1
  have hin24 : ¬ ((2 : Int32) < 0 ∨ cl24.slots.size ≤ ((2 : Int32)).toNatClampNeg) := inb_of S24 ⟨(by decide), (by decide)⟩
  have hat24 : cl24.slots[((2 : Int32)).toNatClampNeg]? = some (.int ((2 : Int32) * ((2 : Int32) * x1))) := Hs24.at hin24 rfl
  refine Goes.st (B := T21.setTop (mkF m 31 #[iv x0, iv x1, iv (8 : Int32), rv b1, rv b3, iv (2 : Int32)] [(.int ((2 : Int32) * ((2 : Int32) * x1))), (.int (2 : Int32)), (.ref b3)])) (X21.iaload hx (j := (2 : Int32)) (v := (.int ((2 : Int32) * ((2 : Int32) * x1)))) (by rw [e21]; exact Ar24.1) (State.isArrayOf_alike hZ.alike Ar24.2.1) Ar24.2.2 hin24 hat24 (g := (mkF m 30 #[iv x0, iv x1, iv (8 : Int32), rv b1, rv b3, iv (2 : Int32)] [(.int (2 : Int32)), (.ref b1), (.int (2 : Int32)), (.ref b3)])) rfl rfl (hb hby d8_30)) ?_
  obtain ⟨_, _, ⟨T25, L25, k25, n25⟩, -, X25, ⟨Lc25, hQ25, l25, y25, z25⟩, st25⟩ := Jvm.LawKit.callS X21 hx (y := ym3) hown (mvT hZ w_19) (mvT hZ w_20) (mvT hZ w_7) (mvT hZ w_21) (by decide) (backOf (W := 2) (rm5 l Z a0 hw [] (c98_50_0_a x0 x1) h21 n0 Zn21 ) hZ w_21 w_7 (by decide) (by decide)) (g := (mkF m 31 #[iv x0, iv x1, iv (8 : Int32), rv b1, rv b3, iv (2 : Int32)] [(.int (c98_50_0_a x0 x1)), (.int (2 : Int32)), (.ref b3)])) rfl (by rw [hml]; rfl) (argsL := [(.int (c98_50_0_a x0 x1))]) (rest := [(.int (2 : Int32)), (.ref b3)]) (lenOf pd98_1 rfl) rfl (by show 2 * 0 + _ ≤ _; exact Nat.le_of_eq rfl) (hb hby d8_31) (fun _ _ => ⟨rfl, e21, (by decide : 2 + 0 ≤ _), (by decide : 16 + 0 ≤ _)⟩)
  dsimp only [Pt.U, Pt.locs, Pt.cells, Pt.slots] at X25 l25 y25 z25 st25 hQ25
  subst l25 y25 z25
  obtain ⟨rfl, N25q, e25⟩ := hQ25
  have N25 := Fr.app N21 N25q
  refine Goes.st (B := T25.setTop (mkF m 34 #[iv x0, iv x1, iv (8 : Int32), rv b1, rv b3, iv (2 : Int32)] [(.long (r5 (c98_50_0_a x0 x1))), (.int (2 : Int32)), (.ref b3)])) st25 ?_
  refine Goes.run X25 hx hown hci hcl hby (L := [(34, .iload 5, 2), (36, .iconst 1, 1), (37, .iadd, 1), (38, .aload_n 3, 1)]) (by decide +kernel) rfl (g' := (mkF m 39 #[iv x0, iv x1, iv (8 : Int32), rv b1, rv b3, iv (2 : Int32)] [(.ref b1), (.int (3 : Int32)), (.long (r5 (c98_50_0_a x0 x1))), (.int (2 : Int32)), (.ref b3)])) rfl ?_
  obtain ⟨cl26, Ar26, q26, S26, M26, Hs26, G26⟩ := id V_b1
  refine Goes.st (B := T25.setTop (mkF m 40 #[iv x0, iv x1, iv (8 : Int32), rv b1, rv b3, iv (2 : Int32)] [(.int (8 : Int32)), (.int (3 : Int32)), (.long (r5 (c98_50_0_a x0 x1))), (.int (2 : Int32)), (.ref b3)])) (fun t k => ?_) ?_
  · refine X25.arraylength hx (cell := cl26) (by rw [e25]; exact Ar26.1) (State.isArrayOf_alike hZ.alike Ar26.2.1) (g := (mkF m 39 #[iv x0, iv x1, iv (8 : Int32), rv b1, rv b3, iv (2 : Int32)] [(.ref b1), (.int (3 : Int32)), (.long (r5 (c98_50_0_a x0 x1))), (.int (2 : Int32)), (.ref b3)])) rfl (rest := [(.int (3 : Int32)), (.long (r5 (c98_50_0_a x0 x1))), (.int (2 : Int32)), (.ref b3)]) rfl (hb hby d8_39) _ ?_
    rw [len_of S26 M26]
    exact k
  have hc40_27 : (3 : Int32) < (8 : Int32) := by decide
  refine Goes.st (B := T25.setTop (mkF m 43 #[iv x0, iv x1, iv (8 : Int32), rv b1, rv b3, iv (2 : Int32)] [(.long (r5 (c98_50_0_a x0 x1))), (.int (2 : Int32)), (.ref b3)])) (fun t k => ?_) ?_
  · refine XS.icmpNo X25.here hx rfl (hb hby d8_40) rfl (tlt hc40_27).2.1 ?_
    exact k
  refine Goes.run X25 hx hown hci hcl hby (L := [(43, .iload_n 0, 1), (44, .aload_n 3, 1), (45, .iload 5, 2), (47, .iconst 1, 1), (48, .iadd, 1)]) (by decide +kernel) rfl (g' := (mkF m 49 #[iv x0, iv x1, iv (8 : Int32), rv b1, rv b3, iv (2 : Int32)] [(.int (3 : Int32)), (.ref b1), (.int x0), (.long (r5 (c98_50_0_a x0 x1))), (.int (2 : Int32)), (.ref b3)])) rfl ?_
  obtain ⟨cl28, Ar28, q28, S28, M28, Hs28, G28⟩ := id V_b1
  have hin28 : ¬ ((3 : Int32) < 0 ∨ cl28.slots.size ≤ ((3 : Int32)).toNatClampNeg) := inb_of S28 ⟨(by decide), (by decide)⟩
  have hat28 : cl28.slots[((3 : Int32)).toNatClampNeg]? = some (.int ((2 : Int32) * ((2 : Int32) * ((2 : Int32) * x1)))) := Hs28.at hin28 rfl
  refine Goes.st (B := T25.setTop (mkF m 50 #[iv x0, iv x1, iv (8 : Int32), rv b1, rv b3, iv (2 : Int32)] [(.int ((2 : Int32) * ((2 : Int32) * ((2 : Int32) * x1)))), (.int x0), (.long (r5 (c98_50_0_a x0 x1))), (.int (2 : Int32)), (.ref b3)])) (X25.iaload hx (j := (3 : Int32)) (v := (.int ((2 : Int32) * ((2 : Int32) * ((2 : Int32) * x1))))) (by rw [e25]; exact Ar28.1) (State.isArrayOf_alike hZ.alike Ar28.2.1) Ar28.2.2 hin28 hat28 (g := (mkF m 49 #[iv x0, iv x1, iv (8 : Int32), rv b1, rv b3, iv (2 : Int32)] [(.int (3 : Int32)), (.ref b1), (.int x0), (.long (r5 (c98_50_0_a x0 x1))), (.int (2 : Int32)), (.ref b3)])) rfl rfl (hb hby d8_49)) ?_
  obtain ⟨_, _, ⟨T29, L29, k29, n29⟩, -, X29, ⟨Lc29, hQ29, l29, y29, z29⟩, st29⟩ := Jvm.LawKit.callS X25 hx (y := ym5) hown (mvT hZ w_27) (mvT hZ w_28) (mvT hZ w_7) (mvT hZ w_29) (by decide) (backOf (W := 4) (rm7 l Z a0 hw [] x0 (c98_50_0_b x0 x1) h21 n0 Zn21 (by first | assumption | exact p1 | exact p2)) hZ w_29 w_7 (by decide) (by decide)) (g := (mkF m 50 #[iv x0, iv x1, iv (8 : Int32), rv b1, rv b3, iv (2 : Int32)] [(.int (c98_50_0_b x0 x1)), (.int x0), (.long (r5 (c98_50_0_a x0 x1))), (.int (2 : Int32)), (.ref b3)])) rfl (by rw [hml]; rfl) (argsL := [(.int x0), (.int (c98_50_0_b x0 x1))]) (rest := [(.long (r5 (c98_50_0_a x0 x1))), (.int (2 : Int32)), (.ref b3)]) (lenOf pd98_2 rfl) rfl (by show 2 * 0 + _ ≤ _; exact Nat.le_of_eq rfl) (hb hby d8_50) (fun _ _ => ⟨rfl, e25, (by decide : 2 + 0 ≤ _), (by decide : 16 + 0 ≤ _)⟩)
  dsimp only [Pt.U, Pt.locs, Pt.cells, Pt.slots] at X29 l29 y29 z29 st29 hQ29
  subst l29 y29 z29
  obtain ⟨rfl, N29q, e29⟩ := hQ29
  have N29 := Fr.app N25 N29q
  refine Goes.st (B := T29.setTop (mkF m 53 #[iv x0, iv x1, iv (8 : Int32), rv b1, rv b3, iv (2 : Int32)] [(.long (r7 x0 (c98_50_0_b x0 x1))), (.long (r5 (c98_50_0_a x0 x1))), (.int (2 : Int32)), (.ref b3)])) st29 ?_
  refine Goes.run X29 hx hown hci hcl hby (L := [(53, .goto 4, 3), (57, .ladd, 1)]) (by decide +kernel) rfl (g' := (mkF m 58 #[iv x0, iv x1, iv (8 : Int32), rv b1, rv b3, iv (2 : Int32)] [(.long ((r5 (c98_50_0_a x0 x1)) + (r7 x0 (c98_50_0_b x0 x1)))), (.int (2 : Int32)), (.ref b3)])) rfl ?_
  obtain ⟨cl30, Ar30, q30, S30, M30, Hs30, G30⟩ := id V_b3
  have hin30 : ¬ ((2 : Int32) < 0 ∨ cl30.slots.size ≤ ((2 : Int32)).toNatClampNeg) := inb_of S30 ⟨(by decide), (by decide)⟩
  obtain ⟨T30, h30, X30, e30, W30, st30⟩ := stJ X29 hx hZ e29 Ar30 (j := (2 : Int32)) hin30 (g := (mkF m 58 #[iv x0, iv x1, iv (8 : Int32), rv b1, rv b3, iv (2 : Int32)] [(.long ((r5 (c98_50_0_a x0 x1)) + (r7 x0 (c98_50_0_b x0 x1)))), (.int (2 : Int32)), (.ref b3)])) rfl rfl (hb hby d8_58)
  have E_b1 := E_b1.wr W30
  have V_b1 := V_b1.other W30 ne_b1_b3
  have E_b3 := E_b3.wr W30
  have Zn30 : n0 ≤ h30.size := Nat.le_trans Zn21 (Keep.of_wr W30).1
  have K30 := K21.wr W30 (Or.inr sz_b3)
  have N30 := Fr.snoc X30 N29 g_b3
  have V_b3 : Arv Z h30 b3 k3 .long (8 : Int32) [(.long ((r5 x1) + (r7 x0 (c98_50_0 x0 x1)))), (.long ((r5 (c98_50_0 x0 x1)) + (r7 x0 (c98_50_0_a x0 x1)))), (.long ((r5 (c98_50_0_a x0 x1)) + (r7 x0 (c98_50_0_b x0 x1)))), (.long (0 : Int64)), (.long (0 : Int64)), (.long (0 : Int64)), (.long (0 : Int64)), (.long (0 : Int64))] (.long (0 : Int64)) := Arv.set Ar30 q30 S30 M30 Hs30 G30 rfl W30 2 rfl (Nat.le_of_ble_eq_true rfl)
  refine Goes.st (B := T30.setTop (mkF m 59 #[iv x0, iv x1, iv (8 : Int32), rv b1, rv b3, iv (2 : Int32)] [])) st30 ?_
  refine Goes.run X30 hx hown hci hcl hby (L := [(59, .iinc 5 1, 3), (62, .goto (-46), 3), (16, .iload 5, 2), (18, .aload_n 3, 1)]) (by decide +kernel) rfl (g' := (mkF m 19 #[iv x0, iv x1, iv (8 : Int32), rv b1, rv b3, iv (3 : Int32)] [(.ref b1), (.int (3 : Int32))])) rfl ?_
  obtain ⟨cl31, Ar31, q31, S31, M31, Hs31, G31⟩ := id V_b1
  refine Goes.st (B := T30.setTop (mkF m 20 #[iv x0, iv x1, iv (8 : Int32), rv b1, rv b3, iv (3 : Int32)] [(.int (8 : Int32)), (.int (3 : Int32))])) (fun t k => ?_) ?_
  · refine X30.arraylength hx (cell := cl31) (by rw [e30]; exact Ar31.1) (State.isArrayOf_alike hZ.alike Ar31.2.1) (g := (mkF m 19 #[iv x0, iv x1, iv (8 : Int32), rv b1, rv b3, iv (3 : Int32)] [(.ref b1), (.int (3 : Int32))])) rfl (rest := [(.int (3 : Int32))]) rfl (hb hby d8_19) _ ?_
    rw [len_of S31 M31]
    exact k
  have hc20_32 : (3 : Int32) < (8 : Int32) := by decide
  refine Goes.st (B := T30.setTop (mkF m 23 #[iv x0, iv x1, iv (8 : Int32), rv b1, rv b3, iv (3 : Int32)] [])) (fun t k => ?_) ?_
  · refine XS.icmpNo X30.here hx rfl (hb hby d8_20) rfl (tlt hc20_32).2.1 ?_
    exact k
  refine Goes.run X30 hx hown hci hcl hby (L := [(23, .aload 4, 2), (25, .iload 5, 2), (27, .aload_n 3, 1), (28, .iload 5, 2)]) (by decide +kernel) rfl (g' := (mkF m 30 #[iv x0, iv x1, iv (8 : Int32), rv b1, rv b3, iv (3 : Int32)] [(.int (3 : Int32)), (.ref b1), (.int (3 : Int32)), (.ref b3)])) rfl ?_
  obtain ⟨cl33, Ar33, q33, S33, M33, Hs33, G33⟩ := id V_b1
  have hin33 : ¬ ((3 : Int32) < 0 ∨ cl33.slots.size ≤ ((3 : Int32)).toNatClampNeg) := inb_of S33 ⟨(by decide), (by decide)⟩
  have hat33 : cl33.slots[((3 : Int32)).toNatClampNeg]? = some (.int ((2 : Int32) * ((2 : Int32) * ((2 : Int32) * x1)))) := Hs33.at hin33 rfl
  refine Goes.st (B := T30.setTop (mkF m 31 #[iv x0, iv x1, iv (8 : Int32), rv b1, rv b3, iv (3 : Int32)] [(.int ((2 : Int32) * ((2 : Int32) * ((2 : Int32) * x1)))), (.int (3 : Int32)), (.ref b3)])) (X30.iaload hx (j := (3 : Int32)) (v := (.int ((2 : Int32) * ((2 : Int32) * ((2 : Int32) * x1))))) (by rw [e30]; exact Ar33.1) (State.isArrayOf_alike hZ.alike Ar33.2.1) Ar33.2.2 hin33 hat33 (g := (mkF m 30 #[iv x0, iv x1, iv (8 : Int32), rv b1, rv b3, iv (3 : Int32)] [(.int (3 : Int32)), (.ref b1), (.int (3 : Int32)), (.ref b3)])) rfl rfl (hb hby d8_30)) ?_
  obtain ⟨_, _, ⟨T34, L34, k34, n34⟩, -, X34, ⟨Lc34, hQ34, l34, y34, z34⟩, st34⟩ := Jvm.LawKit.callS X30 hx (y := ym3) hown (mvT hZ w_19) (mvT hZ w_20) (mvT hZ w_7) (mvT hZ w_21) (by decide) (backOf (W := 2) (rm5 l Z a0 hw [] (c98_50_0_b x0 x1) h30 n0 Zn30 ) hZ w_21 w_7 (by decide) (by decide)) (g := (mkF m 31 #[iv x0, iv x1, iv (8 : Int32), rv b1, rv b3, iv (3 : Int32)] [(.int (c98_50_0_b x0 x1)), (.int (3 : Int32)), (.ref b3)])) rfl (by rw [hml]; rfl) (argsL := [(.int (c98_50_0_b x0 x1))]) (rest := [(.int (3 : Int32)), (.ref b3)]) (lenOf pd98_1 rfl) rfl (by show 2 * 0 + _ ≤ _; exact Nat.le_of_eq rfl) (hb hby d8_31) (fun _ _ => ⟨rfl, e30, (by decide : 2 + 0 ≤ _), (by decide : 16 + 0 ≤ _)⟩)
  dsimp only [Pt.U, Pt.locs, Pt.cells, Pt.slots] at X34 l34 y34 z34 st34 hQ34
  subst l34 y34 z34
  obtain ⟨rfl, N34q, e34⟩ := hQ34
  have N34 := Fr.app N30 N34q
  refine Goes.st (B := T34.setTop (mkF m 34 #[iv x0, iv x1, iv (8 : Int32), rv b1, rv b3, iv (3 : Int32)] [(.long (r5 (c98_50_0_b x0 x1))), (.int (3 : Int32)), (.ref b3)])) st34 ?_
  refine Goes.run X34 hx hown hci hcl hby (L := [(34, .iload 5, 2), (36, .iconst 1, 1), (37, .iadd, 1), (38, .aload_n 3, 1)]) (by decide +kernel) rfl (g' := (mkF m 39 #[iv x0, iv x1, iv (8 : Int32), rv b1, rv b3, iv (3 : Int32)] [(.ref b1), (.int (4 : Int32)), (.long (r5 (c98_50_0_b x0 x1))), (.int (3 : Int32)), (.ref b3)])) rfl ?_
  obtain ⟨cl35, Ar35, q35, S35, M35, Hs35, G35⟩ := id V_b1
  refine Goes.st (B := T34.setTop (mkF m 40 #[iv x0, iv x1, iv (8 : Int32), rv b1, rv b3, iv (3 : Int32)] [(.int (8 : Int32)), (.int (4 : Int32)), (.long (r5 (c98_50_0_b x0 x1))), (.int (3 : Int32)), (.ref b3)])) (fun t k => ?_) ?_
  · refine X34.arraylength hx (cell := cl35) (by rw [e34]; exact Ar35.1) (State.isArrayOf_alike hZ.alike Ar35.2.1) (g := (mkF m 39 #[iv x0, iv x1, iv (8 : Int32), rv b1, rv b3, iv (3 : Int32)] [(.ref b1), (.int (4 : Int32)), (.long (r5 (c98_50_0_b x0 x1))), (.int (3 : Int32)), (.ref b3)])) rfl (rest := [(.int (4 : Int32)), (.long (r5 (c98_50_0_b x0 x1))), (.int (3 : Int32)), (.ref b3)]) rfl (hb hby d8_39) _ ?_
    rw [len_of S35 M35]
    exact k
  have hc40_36 : (4 : Int32) < (8 : Int32) := by decide
  refine Goes.st (B := T34.setTop (mkF m 43 #[iv x0, iv x1, iv (8 : Int32), rv b1, rv b3, iv (3 : Int32)] [(.long (r5 (c98_50_0_b x0 x1))), (.int (3 : Int32)), (.ref b3)])) (fun t k => ?_) ?_
  · refine XS.icmpNo X34.here hx rfl (hb hby d8_40) rfl (tlt hc40_36).2.1 ?_
    exact k
  refine Goes.run X34 hx hown hci hcl hby (L := [(43, .iload_n 0, 1), (44, .aload_n 3, 1), (45, .iload 5, 2), (47, .iconst 1, 1), (48, .iadd, 1)]) (by decide +kernel) rfl (g' := (mkF m 49 #[iv x0, iv x1, iv (8 : Int32), rv b1, rv b3, iv (3 : Int32)] [(.int (4 : Int32)), (.ref b1), (.int x0), (.long (r5 (c98_50_0_b x0 x1))), (.int (3 : Int32)), (.ref b3)])) rfl ?_
  obtain ⟨cl37, Ar37, q37, S37, M37, Hs37, G37⟩ := id V_b1
  have hin37 : ¬ ((4 : Int32) < 0 ∨ cl37.slots.size ≤ ((4 : Int32)).toNatClampNeg) := inb_of S37 ⟨(by decide), (by decide)⟩
  have hat37 : cl37.slots[((4 : Int32)).toNatClampNeg]? = some (.int ((2 : Int32) * ((2 : Int32) * ((2 : Int32) * ((2 : Int32) * x1))))) := Hs37.at hin37 rfl
  refine Goes.st (B := T34.setTop (mkF m 50 #[iv x0, iv x1, iv (8 : Int32), rv b1, rv b3, iv (3 : Int32)] [(.int ((2 : Int32) * ((2 : Int32) * ((2 : Int32) * ((2 : Int32) * x1))))), (.int x0), (.long (r5 (c98_50_0_b x0 x1))), (.int (3 : Int32)), (.ref b3)])) (X34.iaload hx (j := (4 : Int32)) (v := (.int ((2 : Int32) * ((2 : Int32) * ((2 : Int32) * ((2 : Int32) * x1)))))) (by rw [e34]; exact Ar37.1) (State.isArrayOf_alike hZ.alike Ar37.2.1) Ar37.2.2 hin37 hat37 (g := (mkF m 49 #[iv x0, iv x1, iv (8 : Int32), rv b1, rv b3, iv (3 : Int32)] [(.int (4 : Int32)), (.ref b1), (.int x0), (.long (r5 (c98_50_0_b x0 x1))), (.int (3 : Int32)), (.ref b3)])) rfl rfl (hb hby d8_49)) ?_
  obtain ⟨_, _, ⟨T38, L38, k38, n38⟩, -, X38, ⟨Lc38, hQ38, l38, y38, z38⟩, st38⟩ := Jvm.LawKit.callS X34 hx (y := ym5) hown (mvT hZ w_27) (mvT hZ w_28) (mvT hZ w_7) (mvT hZ w_29) (by decide) (backOf (W := 4) (rm7 l Z a0 hw [] x0 (c98_50_0_c x0 x1) h30 n0 Zn30 (by first | assumption | exact p1 | exact p2)) hZ w_29 w_7 (by decide) (by decide)) (g := (mkF m 50 #[iv x0, iv x1, iv (8 : Int32), rv b1, rv b3, iv (3 : Int32)] [(.int (c98_50_0_c x0 x1)), (.int x0), (.long (r5 (c98_50_0_b x0 x1))), (.int (3 : Int32)), (.ref b3)])) rfl (by rw [hml]; rfl) (argsL := [(.int x0), (.int (c98_50_0_c x0 x1))]) (rest := [(.long (r5 (c98_50_0_b x0 x1))), (.int (3 : Int32)), (.ref b3)]) (lenOf pd98_2 rfl) rfl (by show 2 * 0 + _ ≤ _; exact Nat.le_of_eq rfl) (hb hby d8_50) (fun _ _ => ⟨rfl, e34, (by decide : 2 + 0 ≤ _), (by decide : 16 + 0 ≤ _)⟩)
  dsimp only [Pt.U, Pt.locs, Pt.cells, Pt.slots] at X38 l38 y38 z38 st38 hQ38
  subst l38 y38 z38
  obtain ⟨rfl, N38q, e38⟩ := hQ38
  have N38 := Fr.app N34 N38q
  refine Goes.st (B := T38.setTop (mkF m 53 #[iv x0, iv x1, iv (8 : Int32), rv b1, rv b3, iv (3 : Int32)] [(.long (r7 x0 (c98_50_0_c x0 x1))), (.long (r5 (c98_50_0_b x0 x1))), (.int (3 : Int32)), (.ref b3)])) st38 ?_
  refine Goes.run X38 hx hown hci hcl hby (L := [(53, .goto 4, 3), (57, .ladd, 1)]) (by decide +kernel) rfl (g' := (mkF m 58 #[iv x0, iv x1, iv (8 : Int32), rv b1, rv b3, iv (3 : Int32)] [(.long ((r5 (c98_50_0_b x0 x1)) + (r7 x0 (c98_50_0_c x0 x1)))), (.int (3 : Int32)), (.ref b3)])) rfl ?_
  obtain ⟨cl39, Ar39, q39, S39, M39, Hs39, G39⟩ := id V_b3
  have hin39 : ¬ ((3 : Int32) < 0 ∨ cl39.slots.size ≤ ((3 : Int32)).toNatClampNeg) := inb_of S39 ⟨(by decide), (by decide)⟩
  obtain ⟨T39, h39, X39, e39, W39, st39⟩ := stJ X38 hx hZ e38 Ar39 (j := (3 : Int32)) hin39 (g := (mkF m 58 #[iv x0, iv x1, iv (8 : Int32), rv b1, rv b3, iv (3 : Int32)] [(.long ((r5 (c98_50_0_b x0 x1)) + (r7 x0 (c98_50_0_c x0 x1)))), (.int (3 : Int32)), (.ref b3)])) rfl rfl (hb hby d8_58)
  have E_b1 := E_b1.wr W39
  have V_b1 := V_b1.other W39 ne_b1_b3
  have E_b3 := E_b3.wr W39
  have Zn39 : n0 ≤ h39.size := Nat.le_trans Zn30 (Keep.of_wr W39).1
  have K39 := K30.wr W39 (Or.inr sz_b3)
  have N39 := Fr.snoc X39 N38 g_b3
  have V_b3 : Arv Z h39 b3 k3 .long (8 : Int32) [(.long ((r5 x1) + (r7 x0 (c98_50_0 x0 x1)))), (.long ((r5 (c98_50_0 x0 x1)) + (r7 x0 (c98_50_0_a x0 x1)))), (.long ((r5 (c98_50_0_a x0 x1)) + (r7 x0 (c98_50_0_b x0 x1)))), (.long ((r5 (c98_50_0_b x0 x1)) + (r7 x0 (c98_50_0_c x0 x1)))), (.long (0 : Int64)), (.long (0 : Int64)), (.long (0 : Int64)), (.long (0 : Int64))] (.long (0 : Int64)) := Arv.set Ar39 q39 S39 M39 Hs39 G39 rfl W39 3 rfl (Nat.le_of_ble_eq_true rfl)
  refine Goes.st (B := T39.setTop (mkF m 59 #[iv x0, iv x1, iv (8 : Int32), rv b1, rv b3, iv (3 : Int32)] [])) st39 ?_
  refine Goes.run X39 hx hown hci hcl hby (L := [(59, .iinc 5 1, 3), (62, .goto (-46), 3), (16, .iload 5, 2), (18, .aload_n 3, 1)]) (by decide +kernel) rfl (g' := (mkF m 19 #[iv x0, iv x1, iv (8 : Int32), rv b1, rv b3, iv (4 : Int32)] [(.ref b1), (.int (4 : Int32))])) rfl ?_
  obtain ⟨cl40, Ar40, q40, S40, M40, Hs40, G40⟩ := id V_b1
  refine Goes.st (B := T39.setTop (mkF m 20 #[iv x0, iv x1, iv (8 : Int32), rv b1, rv b3, iv (4 : Int32)] [(.int (8 : Int32)), (.int (4 : Int32))])) (fun t k => ?_) ?_
  · refine X39.arraylength hx (cell := cl40) (by rw [e39]; exact Ar40.1) (State.isArrayOf_alike hZ.alike Ar40.2.1) (g := (mkF m 19 #[iv x0, iv x1, iv (8 : Int32), rv b1, rv b3, iv (4 : Int32)] [(.ref b1), (.int (4 : Int32))])) rfl (rest := [(.int (4 : Int32))]) rfl (hb hby d8_19) _ ?_
    rw [len_of S40 M40]
    exact k
  have hc20_41 : (4 : Int32) < (8 : Int32) := by decide
  refine Goes.st (B := T39.setTop (mkF m 23 #[iv x0, iv x1, iv (8 : Int32), rv b1, rv b3, iv (4 : Int32)] [])) (fun t k => ?_) ?_
  · refine XS.icmpNo X39.here hx rfl (hb hby d8_20) rfl (tlt hc20_41).2.1 ?_
    exact k
  refine Goes.run X39 hx hown hci hcl hby (L := [(23, .aload 4, 2), (25, .iload 5, 2), (27, .aload_n 3, 1), (28, .iload 5, 2)]) (by decide +kernel) rfl (g' := (mkF m 30 #[iv x0, iv x1, iv (8 : Int32), rv b1, rv b3, iv (4 : Int32)] [(.int (4 : Int32)), (.ref b1), (.int (4 : Int32)), (.ref b3)])) rfl ?_
  obtain ⟨cl42, Ar42, q42, S42, M42, Hs42, G42⟩ := id V_b1
  have hin42 : ¬ ((4 : Int32) < 0 ∨ cl42.slots.size ≤ ((4 : Int32)).toNatClampNeg) := inb_of S42 ⟨(by decide), (by decide)⟩
  have hat42 : cl42.slots[((4 : Int32)).toNatClampNeg]? = some (.int ((2 : Int32) * ((2 : Int32) * ((2 : Int32) * ((2 : Int32) * x1))))) := Hs42.at hin42 rfl
  refine Goes.st (B := T39.setTop (mkF m 31 #[iv x0, iv x1, iv (8 : Int32), rv b1, rv b3, iv (4 : Int32)] [(.int ((2 : Int32) * ((2 : Int32) * ((2 : Int32) * ((2 : Int32) * x1))))), (.int (4 : Int32)), (.ref b3)])) (X39.iaload hx (j := (4 : Int32)) (v := (.int ((2 : Int32) * ((2 : Int32) * ((2 : Int32) * ((2 : Int32) * x1)))))) (by rw [e39]; exact Ar42.1) (State.isArrayOf_alike hZ.alike Ar42.2.1) Ar42.2.2 hin42 hat42 (g := (mkF m 30 #[iv x0, iv x1, iv (8 : Int32), rv b1, rv b3, iv (4 : Int32)] [(.int (4 : Int32)), (.ref b1), (.int (4 : Int32)), (.ref b3)])) rfl rfl (hb hby d8_30)) ?_
  obtain ⟨_, _, ⟨T43, L43, k43, n43⟩, -, X43, ⟨Lc43, hQ43, l43, y43, z43⟩, st43⟩ := Jvm.LawKit.callS X39 hx (y := ym3) hown (mvT hZ w_19) (mvT hZ w_20) (mvT hZ w_7) (mvT hZ w_21) (by decide) (backOf (W := 2) (rm5 l Z a0 hw [] (c98_50_0_c x0 x1) h39 n0 Zn39 ) hZ w_21 w_7 (by decide) (by decide)) (g := (mkF m 31 #[iv x0, iv x1, iv (8 : Int32), rv b1, rv b3, iv (4 : Int32)] [(.int (c98_50_0_c x0 x1)), (.int (4 : Int32)), (.ref b3)])) rfl (by rw [hml]; rfl) (argsL := [(.int (c98_50_0_c x0 x1))]) (rest := [(.int (4 : Int32)), (.ref b3)]) (lenOf pd98_1 rfl) rfl (by show 2 * 0 + _ ≤ _; exact Nat.le_of_eq rfl) (hb hby d8_31) (fun _ _ => ⟨rfl, e39, (by decide : 2 + 0 ≤ _), (by decide : 16 + 0 ≤ _)⟩)
  dsimp only [Pt.U, Pt.locs, Pt.cells, Pt.slots] at X43 l43 y43 z43 st43 hQ43
  subst l43 y43 z43
  obtain ⟨rfl, N43q, e43⟩ := hQ43
  have N43 := Fr.app N39 N43q
  refine Goes.st (B := T43.setTop (mkF m 34 #[iv x0, iv x1, iv (8 : Int32), rv b1, rv b3, iv (4 : Int32)] [(.long (r5 (c98_50_0_c x0 x1))), (.int (4 : Int32)), (.ref b3)])) st43 ?_
  refine Goes.run X43 hx hown hci hcl hby (L := [(34, .iload 5, 2), (36, .iconst 1, 1), (37, .iadd, 1), (38, .aload_n 3, 1)]) (by decide +kernel) rfl (g' := (mkF m 39 #[iv x0, iv x1, iv (8 : Int32), rv b1, rv b3, iv (4 : Int32)] [(.ref b1), (.int (5 : Int32)), (.long (r5 (c98_50_0_c x0 x1))), (.int (4 : Int32)), (.ref b3)])) rfl ?_
  obtain ⟨cl44, Ar44, q44, S44, M44, Hs44, G44⟩ := id V_b1
  refine Goes.st (B := T43.setTop (mkF m 40 #[iv x0, iv x1, iv (8 : Int32), rv b1, rv b3, iv (4 : Int32)] [(.int (8 : Int32)), (.int (5 : Int32)), (.long (r5 (c98_50_0_c x0 x1))), (.int (4 : Int32)), (.ref b3)])) (fun t k => ?_) ?_
  · refine X43.arraylength hx (cell := cl44) (by rw [e43]; exact Ar44.1) (State.isArrayOf_alike hZ.alike Ar44.2.1) (g := (mkF m 39 #[iv x0, iv x1, iv (8 : Int32), rv b1, rv b3, iv (4 : Int32)] [(.ref b1), (.int (5 : Int32)), (.long (r5 (c98_50_0_c x0 x1))), (.int (4 : Int32)), (.ref b3)])) rfl (rest := [(.int (5 : Int32)), (.long (r5 (c98_50_0_c x0 x1))), (.int (4 : Int32)), (.ref b3)]) rfl (hb hby d8_39) _ ?_
    rw [len_of S44 M44]
    exact k
  have hc40_45 : (5 : Int32) < (8 : Int32) := by decide
  refine Goes.st (B := T43.setTop (mkF m 43 #[iv x0, iv x1, iv (8 : Int32), rv b1, rv b3, iv (4 : Int32)] [(.long (r5 (c98_50_0_c x0 x1))), (.int (4 : Int32)), (.ref b3)])) (fun t k => ?_) ?_
  · refine XS.icmpNo X43.here hx rfl (hb hby d8_40) rfl (tlt hc40_45).2.1 ?_
    exact k
  refine Goes.run X43 hx hown hci hcl hby (L := [(43, .iload_n 0, 1), (44, .aload_n 3, 1), (45, .iload 5, 2), (47, .iconst 1, 1), (48, .iadd, 1)]) (by decide +kernel) rfl (g' := (mkF m 49 #[iv x0, iv x1, iv (8 : Int32), rv b1, rv b3, iv (4 : Int32)] [(.int (5 : Int32)), (.ref b1), (.int x0), (.long (r5 (c98_50_0_c x0 x1))), (.int (4 : Int32)), (.ref b3)])) rfl ?_
  obtain ⟨cl46, Ar46, q46, S46, M46, Hs46, G46⟩ := id V_b1
  have hin46 : ¬ ((5 : Int32) < 0 ∨ cl46.slots.size ≤ ((5 : Int32)).toNatClampNeg) := inb_of S46 ⟨(by decide), (by decide)⟩
  have hat46 : cl46.slots[((5 : Int32)).toNatClampNeg]? = some (.int ((2 : Int32) * ((2 : Int32) * ((2 : Int32) * ((2 : Int32) * ((2 : Int32) * x1)))))) := Hs46.at hin46 rfl
  refine Goes.st (B := T43.setTop (mkF m 50 #[iv x0, iv x1, iv (8 : Int32), rv b1, rv b3, iv (4 : Int32)] [(.int ((2 : Int32) * ((2 : Int32) * ((2 : Int32) * ((2 : Int32) * ((2 : Int32) * x1)))))), (.int x0), (.long (r5 (c98_50_0_c x0 x1))), (.int (4 : Int32)), (.ref b3)])) (X43.iaload hx (j := (5 : Int32)) (v := (.int ((2 : Int32) * ((2 : Int32) * ((2 : Int32) * ((2 : Int32) * ((2 : Int32) * x1))))))) (by rw [e43]; exact Ar46.1) (State.isArrayOf_alike hZ.alike Ar46.2.1) Ar46.2.2 hin46 hat46 (g := (mkF m 49 #[iv x0, iv x1, iv (8 : Int32), rv b1, rv b3, iv (4 : Int32)] [(.int (5 : Int32)), (.ref b1), (.int x0), (.long (r5 (c98_50_0_c x0 x1))), (.int (4 : Int32)), (.ref b3)])) rfl rfl (hb hby d8_49)) ?_
  obtain ⟨_, _, ⟨T47, L47, k47, n47⟩, -, X47, ⟨Lc47, hQ47, l47, y47, z47⟩, st47⟩ := Jvm.LawKit.callS X43 hx (y := ym5) hown (mvT hZ w_27) (mvT hZ w_28) (mvT hZ w_7) (mvT hZ w_29) (by decide) (backOf (W := 4) (rm7 l Z a0 hw [] x0 (c98_50_0_d x0 x1) h39 n0 Zn39 (by first | assumption | exact p1 | exact p2)) hZ w_29 w_7 (by decide) (by decide)) (g := (mkF m 50 #[iv x0, iv x1, iv (8 : Int32), rv b1, rv b3, iv (4 : Int32)] [(.int (c98_50_0_d x0 x1)), (.int x0), (.long (r5 (c98_50_0_c x0 x1))), (.int (4 : Int32)), (.ref b3)])) rfl (by rw [hml]; rfl) (argsL := [(.int x0), (.int (c98_50_0_d x0 x1))]) (rest := [(.long (r5 (c98_50_0_c x0 x1))), (.int (4 : Int32)), (.ref b3)]) (lenOf pd98_2 rfl) rfl (by show 2 * 0 + _ ≤ _; exact Nat.le_of_eq rfl) (hb hby d8_50) (fun _ _ => ⟨rfl, e43, (by decide : 2 + 0 ≤ _), (by decide : 16 + 0 ≤ _)⟩)
  dsimp only [Pt.U, Pt.locs, Pt.cells, Pt.slots] at X47 l47 y47 z47 st47 hQ47
  subst l47 y47 z47
  obtain ⟨rfl, N47q, e47⟩ := hQ47
  have N47 := Fr.app N43 N47q
  refine Goes.st (B := T47.setTop (mkF m 53 #[iv x0, iv x1, iv (8 : Int32), rv b1, rv b3, iv (4 : Int32)] [(.long (r7 x0 (c98_50_0_d x0 x1))), (.long (r5 (c98_50_0_c x0 x1))), (.int (4 : Int32)), (.ref b3)])) st47 ?_
  refine Goes.run X47 hx hown hci hcl hby (L := [(53, .goto 4, 3), (57, .ladd, 1)]) (by decide +kernel) rfl (g' := (mkF m 58 #[iv x0, iv x1, iv (8 : Int32), rv b1, rv b3, iv (4 : Int32)] [(.long ((r5 (c98_50_0_c x0 x1)) + (r7 x0 (c98_50_0_d x0 x1)))), (.int (4 : Int32)), (.ref b3)])) rfl ?_
  obtain ⟨cl48, Ar48, q48, S48, M48, Hs48, G48⟩ := id V_b3
  have hin48 : ¬ ((4 : Int32) < 0 ∨ cl48.slots.size ≤ ((4 : Int32)).toNatClampNeg) := inb_of S48 ⟨(by decide), (by decide)⟩
  obtain ⟨T48, h48, X48, e48, W48, st48⟩ := stJ X47 hx hZ e47 Ar48 (j := (4 : Int32)) hin48 (g := (mkF m 58 #[iv x0, iv x1, iv (8 : Int32), rv b1, rv b3, iv (4 : Int32)] [(.long ((r5 (c98_50_0_c x0 x1)) + (r7 x0 (c98_50_0_d x0 x1)))), (.int (4 : Int32)), (.ref b3)])) rfl rfl (hb hby d8_58)
  have E_b1 := E_b1.wr W48
  have V_b1 := V_b1.other W48 ne_b1_b3
  have E_b3 := E_b3.wr W48
  have Zn48 : n0 ≤ h48.size := Nat.le_trans Zn39 (Keep.of_wr W48).1
  have K48 := K39.wr W48 (Or.inr sz_b3)
  have N48 := Fr.snoc X48 N47 g_b3
  have V_b3 : Arv Z h48 b3 k3 .long (8 : Int32) [(.long ((r5 x1) + (r7 x0 (c98_50_0 x0 x1)))), (.long ((r5 (c98_50_0 x0 x1)) + (r7 x0 (c98_50_0_a x0 x1)))), (.long ((r5 (c98_50_0_a x0 x1)) + (r7 x0 (c98_50_0_b x0 x1)))), (.long ((r5 (c98_50_0_b x0 x1)) + (r7 x0 (c98_50_0_c x0 x1)))), (.long ((r5 (c98_50_0_c x0 x1)) + (r7 x0 (c98_50_0_d x0 x1)))), (.long (0 : Int64)), (.long (0 : Int64)), (.long (0 : Int64))] (.long (0 : Int64)) := Arv.set Ar48 q48 S48 M48 Hs48 G48 rfl W48 4 rfl (Nat.le_of_ble_eq_true rfl)
  refine Goes.st (B := T48.setTop (mkF m 59 #[iv x0, iv x1, iv (8 : Int32), rv b1, rv b3, iv (4 : Int32)] [])) st48 ?_
  refine Goes.run X48 hx hown hci hcl hby (L := [(59, .iinc 5 1, 3), (62, .goto (-46), 3), (16, .iload 5, 2), (18, .aload_n 3, 1)]) (by decide +kernel) rfl (g' := (mkF m 19 #[iv x0, iv x1, iv (8 : Int32), rv b1, rv b3, iv (5 : Int32)] [(.ref b1), (.int (5 : Int32))])) rfl ?_
  obtain ⟨cl49, Ar49, q49, S49, M49, Hs49, G49⟩ := id V_b1
  refine Goes.st (B := T48.setTop (mkF m 20 #[iv x0, iv x1, iv (8 : Int32), rv b1, rv b3, iv (5 : Int32)] [(.int (8 : Int32)), (.int (5 : Int32))])) (fun t k => ?_) ?_
  · refine X48.arraylength hx (cell := cl49) (by rw [e48]; exact Ar49.1) (State.isArrayOf_alike hZ.alike Ar49.2.1) (g := (mkF m 19 #[iv x0, iv x1, iv (8 : Int32), rv b1, rv b3, iv (5 : Int32)] [(.ref b1), (.int (5 : Int32))])) rfl (rest := [(.int (5 : Int32))]) rfl (hb hby d8_19) _ ?_
    rw [len_of S49 M49]
    exact k
  have hc20_50 : (5 : Int32) < (8 : Int32) := by decide
  refine Goes.st (B := T48.setTop (mkF m 23 #[iv x0, iv x1, iv (8 : Int32), rv b1, rv b3, iv (5 : Int32)] [])) (fun t k => ?_) ?_
  · refine XS.icmpNo X48.here hx rfl (hb hby d8_20) rfl (tlt hc20_50).2.1 ?_
    exact k
  refine Goes.run X48 hx hown hci hcl hby (L := [(23, .aload 4, 2), (25, .iload 5, 2), (27, .aload_n 3, 1), (28, .iload 5, 2)]) (by decide +kernel) rfl (g' := (mkF m 30 #[iv x0, iv x1, iv (8 : Int32), rv b1, rv b3, iv (5 : Int32)] [(.int (5 : Int32)), (.ref b1), (.int (5 : Int32)), (.ref b3)])) rfl ?_
  obtain ⟨cl51, Ar51, q51, S51, M51, Hs51, G51⟩ := id V_b1
  have hin51 : ¬ ((5 : Int32) < 0 ∨ cl51.slots.size ≤ ((5 : Int32)).toNatClampNeg) := inb_of S51 ⟨(by decide), (by decide)⟩
  have hat51 : cl51.slots[((5 : Int32)).toNatClampNeg]? = some (.int ((2 : Int32) * ((2 : Int32) * ((2 : Int32) * ((2 : Int32) * ((2 : Int32) * x1)))))) := Hs51.at hin51 rfl
  refine Goes.st (B := T48.setTop (mkF m 31 #[iv x0, iv x1, iv (8 : Int32), rv b1, rv b3, iv (5 : Int32)] [(.int ((2 : Int32) * ((2 : Int32) * ((2 : Int32) * ((2 : Int32) * ((2 : Int32) * x1)))))), (.int (5 : Int32)), (.ref b3)])) (X48.iaload hx (j := (5 : Int32)) (v := (.int ((2 : Int32) * ((2 : Int32) * ((2 : Int32) * ((2 : Int32) * ((2 : Int32) * x1))))))) (by rw [e48]; exact Ar51.1) (State.isArrayOf_alike hZ.alike Ar51.2.1) Ar51.2.2 hin51 hat51 (g := (mkF m 30 #[iv x0, iv x1, iv (8 : Int32), rv b1, rv b3, iv (5 : Int32)] [(.int (5 : Int32)), (.ref b1), (.int (5 : Int32)), (.ref b3)])) rfl rfl (hb hby d8_30)) ?_
  obtain ⟨_, _, ⟨T52, L52, k52, n52⟩, -, X52, ⟨Lc52, hQ52, l52, y52, z52⟩, st52⟩ := Jvm.LawKit.callS X48 hx (y := ym3) hown (mvT hZ w_19) (mvT hZ w_20) (mvT hZ w_7) (mvT hZ w_21) (by decide) (backOf (W := 2) (rm5 l Z a0 hw [] (c98_50_0_d x0 x1) h48 n0 Zn48 ) hZ w_21 w_7 (by decide) (by decide)) (g := (mkF m 31 #[iv x0, iv x1, iv (8 : Int32), rv b1, rv b3, iv (5 : Int32)] [(.int (c98_50_0_d x0 x1)), (.int (5 : Int32)), (.ref b3)])) rfl (by rw [hml]; rfl) (argsL := [(.int (c98_50_0_d x0 x1))]) (rest := [(.int (5 : Int32)), (.ref b3)]) (lenOf pd98_1 rfl) rfl (by show 2 * 0 + _ ≤ _; exact Nat.le_of_eq rfl) (hb hby d8_31) (fun _ _ => ⟨rfl, e48, (by decide : 2 + 0 ≤ _), (by decide : 16 + 0 ≤ _)⟩)
  dsimp only [Pt.U, Pt.locs, Pt.cells, Pt.slots] at X52 l52 y52 z52 st52 hQ52
  subst l52 y52 z52
  obtain ⟨rfl, N52q, e52⟩ := hQ52
  have N52 := Fr.app N48 N52q
  refine Goes.st (B := T52.setTop (mkF m 34 #[iv x0, iv x1, iv (8 : Int32), rv b1, rv b3, iv (5 : Int32)] [(.long (r5 (c98_50_0_d x0 x1))), (.int (5 : Int32)), (.ref b3)])) st52 ?_
  refine Goes.run X52 hx hown hci hcl hby (L := [(34, .iload 5, 2), (36, .iconst 1, 1), (37, .iadd, 1), (38, .aload_n 3, 1)]) (by decide +kernel) rfl (g' := (mkF m 39 #[iv x0, iv x1, iv (8 : Int32), rv b1, rv b3, iv (5 : Int32)] [(.ref b1), (.int (6 : Int32)), (.long (r5 (c98_50_0_d x0 x1))), (.int (5 : Int32)), (.ref b3)])) rfl ?_
  obtain ⟨cl53, Ar53, q53, S53, M53, Hs53, G53⟩ := id V_b1
  refine Goes.st (B := T52.setTop (mkF m 40 #[iv x0, iv x1, iv (8 : Int32), rv b1, rv b3, iv (5 : Int32)] [(.int (8 : Int32)), (.int (6 : Int32)), (.long (r5 (c98_50_0_d x0 x1))), (.int (5 : Int32)), (.ref b3)])) (fun t k => ?_) ?_
  · refine X52.arraylength hx (cell := cl53) (by rw [e52]; exact Ar53.1) (State.isArrayOf_alike hZ.alike Ar53.2.1) (g := (mkF m 39 #[iv x0, iv x1, iv (8 : Int32), rv b1, rv b3, iv (5 : Int32)] [(.ref b1), (.int (6 : Int32)), (.long (r5 (c98_50_0_d x0 x1))), (.int (5 : Int32)), (.ref b3)])) rfl (rest := [(.int (6 : Int32)), (.long (r5 (c98_50_0_d x0 x1))), (.int (5 : Int32)), (.ref b3)]) rfl (hb hby d8_39) _ ?_
    rw [len_of S53 M53]
    exact k
  have hc40_54 : (6 : Int32) < (8 : Int32) := by decide
  refine Goes.st (B := T52.setTop (mkF m 43 #[iv x0, iv x1, iv (8 : Int32), rv b1, rv b3, iv (5 : Int32)] [(.long (r5 (c98_50_0_d x0 x1))), (.int (5 : Int32)), (.ref b3)])) (fun t k => ?_) ?_
  · refine XS.icmpNo X52.here hx rfl (hb hby d8_40) rfl (tlt hc40_54).2.1 ?_
    exact k
  refine Goes.run X52 hx hown hci hcl hby (L := [(43, .iload_n 0, 1), (44, .aload_n 3, 1), (45, .iload 5, 2), (47, .iconst 1, 1), (48, .iadd, 1)]) (by decide +kernel) rfl (g' := (mkF m 49 #[iv x0, iv x1, iv (8 : Int32), rv b1, rv b3, iv (5 : Int32)] [(.int (6 : Int32)), (.ref b1), (.int x0), (.long (r5 (c98_50_0_d x0 x1))), (.int (5 : Int32)), (.ref b3)])) rfl ?_
  obtain ⟨cl55, Ar55, q55, S55, M55, Hs55, G55⟩ := id V_b1
  have hin55 : ¬ ((6 : Int32) < 0 ∨ cl55.slots.size ≤ ((6 : Int32)).toNatClampNeg) := inb_of S55 ⟨(by decide), (by decide)⟩
  have hat55 : cl55.slots[((6 : Int32)).toNatClampNeg]? = some (.int ((2 : Int32) * ((2 : Int32) * ((2 : Int32) * ((2 : Int32) * ((2 : Int32) * ((2 : Int32) * x1))))))) := Hs55.at hin55 rfl
  refine Goes.st (B := T52.setTop (mkF m 50 #[iv x0, iv x1, iv (8 : Int32), rv b1, rv b3, iv (5 : Int32)] [(.int ((2 : Int32) * ((2 : Int32) * ((2 : Int32) * ((2 : Int32) * ((2 : Int32) * ((2 : Int32) * x1))))))), (.int x0), (.long (r5 (c98_50_0_d x0 x1))), (.int (5 : Int32)), (.ref b3)])) (X52.iaload hx (j := (6 : Int32)) (v := (.int ((2 : Int32) * ((2 : Int32) * ((2 : Int32) * ((2 : Int32) * ((2 : Int32) * ((2 : Int32) * x1)))))))) (by rw [e52]; exact Ar55.1) (State.isArrayOf_alike hZ.alike Ar55.2.1) Ar55.2.2 hin55 hat55 (g := (mkF m 49 #[iv x0, iv x1, iv (8 : Int32), rv b1, rv b3, iv (5 : Int32)] [(.int (6 : Int32)), (.ref b1), (.int x0), (.long (r5 (c98_50_0_d x0 x1))), (.int (5 : Int32)), (.ref b3)])) rfl rfl (hb hby d8_49)) ?_
  obtain ⟨_, _, ⟨T56, L56, k56, n56⟩, -, X56, ⟨Lc56, hQ56, l56, y56, z56⟩, st56⟩ := Jvm.LawKit.callS X52 hx (y := ym5) hown (mvT hZ w_27) (mvT hZ w_28) (mvT hZ w_7) (mvT hZ w_29) (by decide) (backOf (W := 4) (rm7 l Z a0 hw [] x0 (c98_50_0_e x0 x1) h48 n0 Zn48 (by first | assumption | exact p1 | exact p2)) hZ w_29 w_7 (by decide) (by decide)) (g := (mkF m 50 #[iv x0, iv x1, iv (8 : Int32), rv b1, rv b3, iv (5 : Int32)] [(.int (c98_50_0_e x0 x1)), (.int x0), (.long (r5 (c98_50_0_d x0 x1))), (.int (5 : Int32)), (.ref b3)])) rfl (by rw [hml]; rfl) (argsL := [(.int x0), (.int (c98_50_0_e x0 x1))]) (rest := [(.long (r5 (c98_50_0_d x0 x1))), (.int (5 : Int32)), (.ref b3)]) (lenOf pd98_2 rfl) rfl (by show 2 * 0 + _ ≤ _; exact Nat.le_of_eq rfl) (hb hby d8_50) (fun _ _ => ⟨rfl, e52, (by decide : 2 + 0 ≤ _), (by decide : 16 + 0 ≤ _)⟩)
  dsimp only [Pt.U, Pt.locs, Pt.cells, Pt.slots] at X56 l56 y56 z56 st56 hQ56
  subst l56 y56 z56
  obtain ⟨rfl, N56q, e56⟩ := hQ56
  have N56 := Fr.app N52 N56q
  refine Goes.st (B := T56.setTop (mkF m 53 #[iv x0, iv x1, iv (8 : Int32), rv b1, rv b3, iv (5 : Int32)] [(.long (r7 x0 (c98_50_0_e x0 x1))), (.long (r5 (c98_50_0_d x0 x1))), (.int (5 : Int32)), (.ref b3)])) st56 ?_
  refine Goes.run X56 hx hown hci hcl hby (L := [(53, .goto 4, 3), (57, .ladd, 1)]) (by decide +kernel) rfl (g' := (mkF m 58 #[iv x0, iv x1, iv (8 : Int32), rv b1, rv b3, iv (5 : Int32)] [(.long ((r5 (c98_50_0_d x0 x1)) + (r7 x0 (c98_50_0_e x0 x1)))), (.int (5 : Int32)), (.ref b3)])) rfl ?_
  obtain ⟨cl57, Ar57, q57, S57, M57, Hs57, G57⟩ := id V_b3
  have hin57 : ¬ ((5 : Int32) < 0 ∨ cl57.slots.size ≤ ((5 : Int32)).toNatClampNeg) := inb_of S57 ⟨(by decide), (by decide)⟩
  obtain ⟨T57, h57, X57, e57, W57, st57⟩ := stJ X56 hx hZ e56 Ar57 (j := (5 : Int32)) hin57 (g := (mkF m 58 #[iv x0, iv x1, iv (8 : Int32), rv b1, rv b3, iv (5 : Int32)] [(.long ((r5 (c98_50_0_d x0 x1)) + (r7 x0 (c98_50_0_e x0 x1)))), (.int (5 : Int32)), (.ref b3)])) rfl rfl (hb hby d8_58)
  have E_b1 := E_b1.wr W57
  have V_b1 := V_b1.other W57 ne_b1_b3
  have E_b3 := E_b3.wr W57
  have Zn57 : n0 ≤ h57.size := Nat.le_trans Zn48 (Keep.of_wr W57).1
  have K57 := K48.wr W57 (Or.inr sz_b3)
  have N57 := Fr.snoc X57 N56 g_b3
  have V_b3 : Arv Z h57 b3 k3 .long (8 : Int32) [(.long ((r5 x1) + (r7 x0 (c98_50_0 x0 x1)))), (.long ((r5 (c98_50_0 x0 x1)) + (r7 x0 (c98_50_0_a x0 x1)))), (.long ((r5 (c98_50_0_a x0 x1)) + (r7 x0 (c98_50_0_b x0 x1)))), (.long ((r5 (c98_50_0_b x0 x1)) + (r7 x0 (c98_50_0_c x0 x1)))), (.long ((r5 (c98_50_0_c x0 x1)) + (r7 x0 (c98_50_0_d x0 x1)))), (.long ((r5 (c98_50_0_d x0 x1)) + (r7 x0 (c98_50_0_e x0 x1)))), (.long (0 : Int64)), (.long (0 : Int64))] (.long (0 : Int64)) := Arv.set Ar57 q57 S57 M57 Hs57 G57 rfl W57 5 rfl (Nat.le_of_ble_eq_true rfl)
  refine Goes.st (B := T57.setTop (mkF m 59 #[iv x0, iv x1, iv (8 : Int32), rv b1, rv b3, iv (5 : Int32)] [])) st57 ?_
  refine Goes.run X57 hx hown hci hcl hby (L := [(59, .iinc 5 1, 3), (62, .goto (-46), 3), (16, .iload 5, 2), (18, .aload_n 3, 1)]) (by decide +kernel) rfl (g' := (mkF m 19 #[iv x0, iv x1, iv (8 : Int32), rv b1, rv b3, iv (6 : Int32)] [(.ref b1), (.int (6 : Int32))])) rfl ?_
  obtain ⟨cl58, Ar58, q58, S58, M58, Hs58, G58⟩ := id V_b1
  refine Goes.st (B := T57.setTop (mkF m 20 #[iv x0, iv x1, iv (8 : Int32), rv b1, rv b3, iv (6 : Int32)] [(.int (8 : Int32)), (.int (6 : Int32))])) (fun t k => ?_) ?_
  · refine X57.arraylength hx (cell := cl58) (by rw [e57]; exact Ar58.1) (State.isArrayOf_alike hZ.alike Ar58.2.1) (g := (mkF m 19 #[iv x0, iv x1, iv (8 : Int32), rv b1, rv b3, iv (6 : Int32)] [(.ref b1), (.int (6 : Int32))])) rfl (rest := [(.int (6 : Int32))]) rfl (hb hby d8_19) _ ?_
    rw [len_of S58 M58]
    exact k
  have hc20_59 : (6 : Int32) < (8 : Int32) := by decide
  refine Goes.st (B := T57.setTop (mkF m 23 #[iv x0, iv x1, iv (8 : Int32), rv b1, rv b3, iv (6 : Int32)] [])) (fun t k => ?_) ?_
  · refine XS.icmpNo X57.here hx rfl (hb hby d8_20) rfl (tlt hc20_59).2.1 ?_
    exact k
  refine Goes.run X57 hx hown hci hcl hby (L := [(23, .aload 4, 2), (25, .iload 5, 2), (27, .aload_n 3, 1), (28, .iload 5, 2)]) (by decide +kernel) rfl (g' := (mkF m 30 #[iv x0, iv x1, iv (8 : Int32), rv b1, rv b3, iv (6 : Int32)] [(.int (6 : Int32)), (.ref b1), (.int (6 : Int32)), (.ref b3)])) rfl ?_
  obtain ⟨cl60, Ar60, q60, S60, M60, Hs60, G60⟩ := id V_b1
  have hin60 : ¬ ((6 : Int32) < 0 ∨ cl60.slots.size ≤ ((6 : Int32)).toNatClampNeg) := inb_of S60 ⟨(by decide), (by decide)⟩
  have hat60 : cl60.slots[((6 : Int32)).toNatClampNeg]? = some (.int ((2 : Int32) * ((2 : Int32) * ((2 : Int32) * ((2 : Int32) * ((2 : Int32) * ((2 : Int32) * x1))))))) := Hs60.at hin60 rfl
  refine Goes.st (B := T57.setTop (mkF m 31 #[iv x0, iv x1, iv (8 : Int32), rv b1, rv b3, iv (6 : Int32)] [(.int ((2 : Int32) * ((2 : Int32) * ((2 : Int32) * ((2 : Int32) * ((2 : Int32) * ((2 : Int32) * x1))))))), (.int (6 : Int32)), (.ref b3)])) (X57.iaload hx (j := (6 : Int32)) (v := (.int ((2 : Int32) * ((2 : Int32) * ((2 : Int32) * ((2 : Int32) * ((2 : Int32) * ((2 : Int32) * x1)))))))) (by rw [e57]; exact Ar60.1) (State.isArrayOf_alike hZ.alike Ar60.2.1) Ar60.2.2 hin60 hat60 (g := (mkF m 30 #[iv x0, iv x1, iv (8 : Int32), rv b1, rv b3, iv (6 : Int32)] [(.int (6 : Int32)), (.ref b1), (.int (6 : Int32)), (.ref b3)])) rfl rfl (hb hby d8_30)) ?_
  obtain ⟨_, _, ⟨T61, L61, k61, n61⟩, -, X61, ⟨Lc61, hQ61, l61, y61, z61⟩, st61⟩ := Jvm.LawKit.callS X57 hx (y := ym3) hown (mvT hZ w_19) (mvT hZ w_20) (mvT hZ w_7) (mvT hZ w_21) (by decide) (backOf (W := 2) (rm5 l Z a0 hw [] (c98_50_0_e x0 x1) h57 n0 Zn57 ) hZ w_21 w_7 (by decide) (by decide)) (g := (mkF m 31 #[iv x0, iv x1, iv (8 : Int32), rv b1, rv b3, iv (6 : Int32)] [(.int (c98_50_0_e x0 x1)), (.int (6 : Int32)), (.ref b3)])) rfl (by rw [hml]; rfl) (argsL := [(.int (c98_50_0_e x0 x1))]) (rest := [(.int (6 : Int32)), (.ref b3)]) (lenOf pd98_1 rfl) rfl (by show 2 * 0 + _ ≤ _; exact Nat.le_of_eq rfl) (hb hby d8_31) (fun _ _ => ⟨rfl, e57, (by decide : 2 + 0 ≤ _), (by decide : 16 + 0 ≤ _)⟩)
  dsimp only [Pt.U, Pt.locs, Pt.cells, Pt.slots] at X61 l61 y61 z61 st61 hQ61
  subst l61 y61 z61
  obtain ⟨rfl, N61q, e61⟩ := hQ61
  have N61 := Fr.app N57 N61q
  refine Goes.st (B := T61.setTop (mkF m 34 #[iv x0, iv x1, iv (8 : Int32), rv b1, rv b3, iv (6 : Int32)] [(.long (r5 (c98_50_0_e x0 x1))), (.int (6 : Int32)), (.ref b3)])) st61 ?_
  refine Goes.run X61 hx hown hci hcl hby (L := [(34, .iload 5, 2), (36, .iconst 1, 1), (37, .iadd, 1), (38, .aload_n 3, 1)]) (by decide +kernel) rfl (g' := (mkF m 39 #[iv x0, iv x1, iv (8 : Int32), rv b1, rv b3, iv (6 : Int32)] [(.ref b1), (.int (7 : Int32)), (.long (r5 (c98_50_0_e x0 x1))), (.int (6 : Int32)), (.ref b3)])) rfl ?_
  obtain ⟨cl62, Ar62, q62, S62, M62, Hs62, G62⟩ := id V_b1
  refine Goes.st (B := T61.setTop (mkF m 40 #[iv x0, iv x1, iv (8 : Int32), rv b1, rv b3, iv (6 : Int32)] [(.int (8 : Int32)), (.int (7 : Int32)), (.long (r5 (c98_50_0_e x0 x1))), (.int (6 : Int32)), (.ref b3)])) (fun t k => ?_) ?_
  · refine X61.arraylength hx (cell := cl62) (by rw [e61]; exact Ar62.1) (State.isArrayOf_alike hZ.alike Ar62.2.1) (g := (mkF m 39 #[iv x0, iv x1, iv (8 : Int32), rv b1, rv b3, iv (6 : Int32)] [(.ref b1), (.int (7 : Int32)), (.long (r5 (c98_50_0_e x0 x1))), (.int (6 : Int32)), (.ref b3)])) rfl (rest := [(.int (7 : Int32)), (.long (r5 (c98_50_0_e x0 x1))), (.int (6 : Int32)), (.ref b3)]) rfl (hb hby d8_39) _ ?_
    rw [len_of S62 M62]
    exact k
  have hc40_63 : (7 : Int32) < (8 : Int32) := by decide
  refine Goes.st (B := T61.setTop (mkF m 43 #[iv x0, iv x1, iv (8 : Int32), rv b1, rv b3, iv (6 : Int32)] [(.long (r5 (c98_50_0_e x0 x1))), (.int (6 : Int32)), (.ref b3)])) (fun t k => ?_) ?_
  · refine XS.icmpNo X61.here hx rfl (hb hby d8_40) rfl (tlt hc40_63).2.1 ?_
    exact k
  refine Goes.run X61 hx hown hci hcl hby (L := [(43, .iload_n 0, 1), (44, .aload_n 3, 1), (45, .iload 5, 2), (47, .iconst 1, 1), (48, .iadd, 1)]) (by decide +kernel) rfl (g' := (mkF m 49 #[iv x0, iv x1, iv (8 : Int32), rv b1, rv b3, iv (6 : Int32)] [(.int (7 : Int32)), (.ref b1), (.int x0), (.long (r5 (c98_50_0_e x0 x1))), (.int (6 : Int32)), (.ref b3)])) rfl ?_
  obtain ⟨cl64, Ar64, q64, S64, M64, Hs64, G64⟩ := id V_b1
  have hin64 : ¬ ((7 : Int32) < 0 ∨ cl64.slots.size ≤ ((7 : Int32)).toNatClampNeg) := inb_of S64 ⟨(by decide), (by decide)⟩
  have hat64 : cl64.slots[((7 : Int32)).toNatClampNeg]? = some (.int x0) := Hs64.at hin64 rfl
  refine Goes.st (B := T61.setTop (mkF m 50 #[iv x0, iv x1, iv (8 : Int32), rv b1, rv b3, iv (6 : Int32)] [(.int x0), (.int x0), (.long (r5 (c98_50_0_e x0 x1))), (.int (6 : Int32)), (.ref b3)])) (X61.iaload hx (j := (7 : Int32)) (v := (.int x0)) (by rw [e61]; exact Ar64.1) (State.isArrayOf_alike hZ.alike Ar64.2.1) Ar64.2.2 hin64 hat64 (g := (mkF m 49 #[iv x0, iv x1, iv (8 : Int32), rv b1, rv b3, iv (6 : Int32)] [(.int (7 : Int32)), (.ref b1), (.int x0), (.long (r5 (c98_50_0_e x0 x1))), (.int (6 : Int32)), (.ref b3)])) rfl rfl (hb hby d8_49)) ?_
  obtain ⟨_, _, ⟨T65, L65, k65, n65⟩, -, X65, ⟨Lc65, hQ65, l65, y65, z65⟩, st65⟩ := Jvm.LawKit.callS X61 hx (y := ym5) hown (mvT hZ w_27) (mvT hZ w_28) (mvT hZ w_7) (mvT hZ w_29) (by decide) (backOf (W := 4) (rm7 l Z a0 hw [] x0 x0 h57 n0 Zn57 (by first | assumption | exact p1 | exact p2)) hZ w_29 w_7 (by decide) (by decide)) (g := (mkF m 50 #[iv x0, iv x1, iv (8 : Int32), rv b1, rv b3, iv (6 : Int32)] [(.int x0), (.int x0), (.long (r5 (c98_50_0_e x0 x1))), (.int (6 : Int32)), (.ref b3)])) rfl (by rw [hml]; rfl) (argsL := [(.int x0), (.int x0)]) (rest := [(.long (r5 (c98_50_0_e x0 x1))), (.int (6 : Int32)), (.ref b3)]) (lenOf pd98_2 rfl) rfl (by show 2 * 0 + _ ≤ _; exact Nat.le_of_eq rfl) (hb hby d8_50) (fun _ _ => ⟨rfl, e61, (by decide : 2 + 0 ≤ _), (by decide : 16 + 0 ≤ _)⟩)
  dsimp only [Pt.U, Pt.locs, Pt.cells, Pt.slots] at X65 l65 y65 z65 st65 hQ65
  subst l65 y65 z65
  obtain ⟨rfl, N65q, e65⟩ := hQ65
  have N65 := Fr.app N61 N65q
  refine Goes.st (B := T65.setTop (mkF m 53 #[iv x0, iv x1, iv (8 : Int32), rv b1, rv b3, iv (6 : Int32)] [(.long (r7 x0 x0)), (.long (r5 (c98_50_0_e x0 x1))), (.int (6 : Int32)), (.ref b3)])) st65 ?_
  refine Goes.run X65 hx hown hci hcl hby (L := [(53, .goto 4, 3), (57, .ladd, 1)]) (by decide +kernel) rfl (g' := (mkF m 58 #[iv x0, iv x1, iv (8 : Int32), rv b1, rv b3, iv (6 : Int32)] [(.long ((r5 (c98_50_0_e x0 x1)) + (r7 x0 x0))), (.int (6 : Int32)), (.ref b3)])) rfl ?_
  obtain ⟨cl66, Ar66, q66, S66, M66, Hs66, G66⟩ := id V_b3
  have hin66 : ¬ ((6 : Int32) < 0 ∨ cl66.slots.size ≤ ((6 : Int32)).toNatClampNeg) := inb_of S66 ⟨(by decide), (by decide)⟩
  obtain ⟨T66, h66, X66, e66, W66, st66⟩ := stJ X65 hx hZ e65 Ar66 (j := (6 : Int32)) hin66 (g := (mkF m 58 #[iv x0, iv x1, iv (8 : Int32), rv b1, rv b3, iv (6 : Int32)] [(.long ((r5 (c98_50_0_e x0 x1)) + (r7 x0 x0))), (.int (6 : Int32)), (.ref b3)])) rfl rfl (hb hby d8_58)
  have E_b1 := E_b1.wr W66
  have V_b1 := V_b1.other W66 ne_b1_b3
  have E_b3 := E_b3.wr W66
  have Zn66 : n0 ≤ h66.size := Nat.le_trans Zn57 (Keep.of_wr W66).1
  have K66 := K57.wr W66 (Or.inr sz_b3)
  have N66 := Fr.snoc X66 N65 g_b3
  have V_b3 : Arv Z h66 b3 k3 .long (8 : Int32) [(.long ((r5 x1) + (r7 x0 (c98_50_0 x0 x1)))), (.long ((r5 (c98_50_0 x0 x1)) + (r7 x0 (c98_50_0_a x0 x1)))), (.long ((r5 (c98_50_0_a x0 x1)) + (r7 x0 (c98_50_0_b x0 x1)))), (.long ((r5 (c98_50_0_b x0 x1)) + (r7 x0 (c98_50_0_c x0 x1)))), (.long ((r5 (c98_50_0_c x0 x1)) + (r7 x0 (c98_50_0_d x0 x1)))), (.long ((r5 (c98_50_0_d x0 x1)) + (r7 x0 (c98_50_0_e x0 x1)))), (.long ((r5 (c98_50_0_e x0 x1)) + (r7 x0 x0))), (.long (0 : Int64))] (.long (0 : Int64)) := Arv.set Ar66 q66 S66 M66 Hs66 G66 rfl W66 6 rfl (Nat.le_of_ble_eq_true rfl)
  refine Goes.st (B := T66.setTop (mkF m 59 #[iv x0, iv x1, iv (8 : Int32), rv b1, rv b3, iv (6 : Int32)] [])) st66 ?_
  refine Goes.run X66 hx hown hci hcl hby (L := [(59, .iinc 5 1, 3), (62, .goto (-46), 3), (16, .iload 5, 2), (18, .aload_n 3, 1)]) (by decide +kernel) rfl (g' := (mkF m 19 #[iv x0, iv x1, iv (8 : Int32), rv b1, rv b3, iv (7 : Int32)] [(.ref b1), (.int (7 : Int32))])) rfl ?_
  obtain ⟨cl67, Ar67, q67, S67, M67, Hs67, G67⟩ := id V_b1
  refine Goes.st (B := T66.setTop (mkF m 20 #[iv x0, iv x1, iv (8 : Int32), rv b1, rv b3, iv (7 : Int32)] [(.int (8 : Int32)), (.int (7 : Int32))])) (fun t k => ?_) ?_
  · refine X66.arraylength hx (cell := cl67) (by rw [e66]; exact Ar67.1) (State.isArrayOf_alike hZ.alike Ar67.2.1) (g := (mkF m 19 #[iv x0, iv x1, iv (8 : Int32), rv b1, rv b3, iv (7 : Int32)] [(.ref b1), (.int (7 : Int32))])) rfl (rest := [(.int (7 : Int32))]) rfl (hb hby d8_19) _ ?_
    rw [len_of S67 M67]
    exact k
  have hc20_68 : (7 : Int32) < (8 : Int32) := by decide
  refine Goes.st (B := T66.setTop (mkF m 23 #[iv x0, iv x1, iv (8 : Int32), rv b1, rv b3, iv (7 : Int32)] [])) (fun t k => ?_) ?_
  · refine XS.icmpNo X66.here hx rfl (hb hby d8_20) rfl (tlt hc20_68).2.1 ?_
    exact k
  refine Goes.run X66 hx hown hci hcl hby (L := [(23, .aload 4, 2), (25, .iload 5, 2), (27, .aload_n 3, 1), (28, .iload 5, 2)]) (by decide +kernel) rfl (g' := (mkF m 30 #[iv x0, iv x1, iv (8 : Int32), rv b1, rv b3, iv (7 : Int32)] [(.int (7 : Int32)), (.ref b1), (.int (7 : Int32)), (.ref b3)])) rfl ?_
  obtain ⟨cl69, Ar69, q69, S69, M69, Hs69, G69⟩ := id V_b1
  have hin69 : ¬ ((7 : Int32) < 0 ∨ cl69.slots.size ≤ ((7 : Int32)).toNatClampNeg) := inb_of S69 ⟨(by decide), (by decide)⟩
  have hat69 : cl69.slots[((7 : Int32)).toNatClampNeg]? = some (.int x0) := Hs69.at hin69 rfl
  refine Goes.st (B := T66.setTop (mkF m 31 #[iv x0, iv x1, iv (8 : Int32), rv b1, rv b3, iv (7 : Int32)] [(.int x0), (.int (7 : Int32)), (.ref b3)])) (X66.iaload hx (j := (7 : Int32)) (v := (.int x0)) (by rw [e66]; exact Ar69.1) (State.isArrayOf_alike hZ.alike Ar69.2.1) Ar69.2.2 hin69 hat69 (g := (mkF m 30 #[iv x0, iv x1, iv (8 : Int32), rv b1, rv b3, iv (7 : Int32)] [(.int (7 : Int32)), (.ref b1), (.int (7 : Int32)), (.ref b3)])) rfl rfl (hb hby d8_30)) ?_
  obtain ⟨_, _, ⟨T70, L70, k70, n70⟩, -, X70, ⟨Lc70, hQ70, l70, y70, z70⟩, st70⟩ := Jvm.LawKit.callS X66 hx (y := ym3) hown (mvT hZ w_19) (mvT hZ w_20) (mvT hZ w_7) (mvT hZ w_21) (by decide) (backOf (W := 2) (rm5 l Z a0 hw [] x0 h66 n0 Zn66 ) hZ w_21 w_7 (by decide) (by decide)) (g := (mkF m 31 #[iv x0, iv x1, iv (8 : Int32), rv b1, rv b3, iv (7 : Int32)] [(.int x0), (.int (7 : Int32)), (.ref b3)])) rfl (by rw [hml]; rfl) (argsL := [(.int x0)]) (rest := [(.int (7 : Int32)), (.ref b3)]) (lenOf pd98_1 rfl) rfl (by show 2 * 0 + _ ≤ _; exact Nat.le_of_eq rfl) (hb hby d8_31) (fun _ _ => ⟨rfl, e66, (by decide : 2 + 0 ≤ _), (by decide : 16 + 0 ≤ _)⟩)
  dsimp only [Pt.U, Pt.locs, Pt.cells, Pt.slots] at X70 l70 y70 z70 st70 hQ70
  subst l70 y70 z70
  obtain ⟨rfl, N70q, e70⟩ := hQ70
  have N70 := Fr.app N66 N70q
  refine Goes.st (B := T70.setTop (mkF m 34 #[iv x0, iv x1, iv (8 : Int32), rv b1, rv b3, iv (7 : Int32)] [(.long (r5 x0)), (.int (7 : Int32)), (.ref b3)])) st70 ?_
  refine Goes.run X70 hx hown hci hcl hby (L := [(34, .iload 5, 2), (36, .iconst 1, 1), (37, .iadd, 1), (38, .aload_n 3, 1)]) (by decide +kernel) rfl (g' := (mkF m 39 #[iv x0, iv x1, iv (8 : Int32), rv b1, rv b3, iv (7 : Int32)] [(.ref b1), (.int (8 : Int32)), (.long (r5 x0)), (.int (7 : Int32)), (.ref b3)])) rfl ?_
  obtain ⟨cl71, Ar71, q71, S71, M71, Hs71, G71⟩ := id V_b1
  refine Goes.st (B := T70.setTop (mkF m 40 #[iv x0, iv x1, iv (8 : Int32), rv b1, rv b3, iv (7 : Int32)] [(.int (8 : Int32)), (.int (8 : Int32)), (.long (r5 x0)), (.int (7 : Int32)), (.ref b3)])) (fun t k => ?_) ?_
  · refine X70.arraylength hx (cell := cl71) (by rw [e70]; exact Ar71.1) (State.isArrayOf_alike hZ.alike Ar71.2.1) (g := (mkF m 39 #[iv x0, iv x1, iv (8 : Int32), rv b1, rv b3, iv (7 : Int32)] [(.ref b1), (.int (8 : Int32)), (.long (r5 x0)), (.int (7 : Int32)), (.ref b3)])) rfl (rest := [(.int (8 : Int32)), (.long (r5 x0)), (.int (7 : Int32)), (.ref b3)]) rfl (hb hby d8_39) _ ?_
    rw [len_of S71 M71]
    exact k
  have hc40_72 : ¬ ((8 : Int32) < (8 : Int32)) := Int32.lt_irrefl
  refine Goes.st (B := T70.setTop (mkF m 56 #[iv x0, iv x1, iv (8 : Int32), rv b1, rv b3, iv (7 : Int32)] [(.long (r5 x0)), (.int (7 : Int32)), (.ref b3)])) (fun t k => ?_) ?_
  · refine XS.icmpYes X70.here hx rfl (pc0 := 40) (pc' := 56) rfl (hb hby d8_40) rfl (flt hc40_72).2.1 (by decide) (by decide) ?_
    exact k
  refine Goes.run X70 hx hown hci hcl hby (L := [(56, .lconst 0, 1), (57, .ladd, 1)]) (by decide +kernel) rfl (g' := (mkF m 58 #[iv x0, iv x1, iv (8 : Int32), rv b1, rv b3, iv (7 : Int32)] [(.long ((r5 x0) + (0 : Int64))), (.int (7 : Int32)), (.ref b3)])) rfl ?_
  obtain ⟨cl73, Ar73, q73, S73, M73, Hs73, G73⟩ := id V_b3
  have hin73 : ¬ ((7 : Int32) < 0 ∨ cl73.slots.size ≤ ((7 : Int32)).toNatClampNeg) := inb_of S73 ⟨(by decide), (by decide)⟩
  obtain ⟨T73, h73, X73, e73, W73, st73⟩ := stJ X70 hx hZ e70 Ar73 (j := (7 : Int32)) hin73 (g := (mkF m 58 #[iv x0, iv x1, iv (8 : Int32), rv b1, rv b3, iv (7 : Int32)] [(.long ((r5 x0) + (0 : Int64))), (.int (7 : Int32)), (.ref b3)])) rfl rfl (hb hby d8_58)
  have E_b1 := E_b1.wr W73
  have V_b1 := V_b1.other W73 ne_b1_b3
  have E_b3 := E_b3.wr W73
  have Zn73 : n0 ≤ h73.size := Nat.le_trans Zn66 (Keep.of_wr W73).1
  have K73 := K66.wr W73 (Or.inr sz_b3)
  have N73 := Fr.snoc X73 N70 g_b3
  have V_b3 : Arv Z h73 b3 k3 .long (8 : Int32) [(.long ((r5 x1) + (r7 x0 (c98_50_0 x0 x1)))), (.long ((r5 (c98_50_0 x0 x1)) + (r7 x0 (c98_50_0_a x0 x1)))), (.long ((r5 (c98_50_0_a x0 x1)) + (r7 x0 (c98_50_0_b x0 x1)))), (.long ((r5 (c98_50_0_b x0 x1)) + (r7 x0 (c98_50_0_c x0 x1)))), (.long ((r5 (c98_50_0_c x0 x1)) + (r7 x0 (c98_50_0_d x0 x1)))), (.long ((r5 (c98_50_0_d x0 x1)) + (r7 x0 (c98_50_0_e x0 x1)))), (.long ((r5 (c98_50_0_e x0 x1)) + (r7 x0 x0))), (.long ((r5 x0) + (0 : Int64)))] (.long (0 : Int64)) := Arv.set Ar73 q73 S73 M73 Hs73 G73 rfl W73 7 rfl (Nat.le_of_ble_eq_true rfl)
  refine Goes.st (B := T73.setTop (mkF m 59 #[iv x0, iv x1, iv (8 : Int32), rv b1, rv b3, iv (7 : Int32)] [])) st73 ?_
  refine Goes.run X73 hx hown hci hcl hby (L := [(59, .iinc 5 1, 3), (62, .goto (-46), 3), (16, .iload 5, 2), (18, .aload_n 3, 1)]) (by decide +kernel) rfl (g' := (mkF m 19 #[iv x0, iv x1, iv (8 : Int32), rv b1, rv b3, iv (8 : Int32)] [(.ref b1), (.int (8 : Int32))])) rfl ?_
  obtain ⟨cl74, Ar74, q74, S74, M74, Hs74, G74⟩ := id V_b1
  refine Goes.st (B := T73.setTop (mkF m 20 #[iv x0, iv x1, iv (8 : Int32), rv b1, rv b3, iv (8 : Int32)] [(.int (8 : Int32)), (.int (8 : Int32))])) (fun t k => ?_) ?_
  · refine X73.arraylength hx (cell := cl74) (by rw [e73]; exact Ar74.1) (State.isArrayOf_alike hZ.alike Ar74.2.1) (g := (mkF m 19 #[iv x0, iv x1, iv (8 : Int32), rv b1, rv b3, iv (8 : Int32)] [(.ref b1), (.int (8 : Int32))])) rfl (rest := [(.int (8 : Int32))]) rfl (hb hby d8_19) _ ?_
    rw [len_of S74 M74]
    exact k
  have hc20_75 : ¬ ((8 : Int32) < (8 : Int32)) := Int32.lt_irrefl
  refine Goes.st (B := T73.setTop (mkF m 65 #[iv x0, iv x1, iv (8 : Int32), rv b1, rv b3, iv (8 : Int32)] [])) (fun t k => ?_) ?_
  · refine XS.icmpYes X73.here hx rfl (pc0 := 20) (pc' := 65) rfl (hb hby d8_20) rfl (flt hc20_75).2.1 (by decide) (by decide) ?_
    exact k
  refine Goes.run X73 hx hown hci hcl hby (L := [(65, .aload 4, 2)]) (by decide +kernel) rfl (g' := (mkF m 67 #[iv x0, iv x1, iv (8 : Int32), rv b1, rv b3, iv (8 : Int32)] [(.ref b3)])) rfl ?_
  refine Goes.retR X73 hx hlk Bd.returns rfl rfl (hb hby d8_67) ?_ (by decide) (by decide)
  show (Q98 Z x0 x1 h0 n0) _ _ _
  rw [e73]
  exact ⟨b3, k3, rfl, N73, K73, sz_b3, E_b3, V_b3⟩
theorem d9_2 : decode method_3_code 2 = .ok (.if_icmp .le 13, 3) := by decide +kernel
theorem d9_9 : decode method_3_code 9 = .ok (.if_icmp .ne 6, 3) := by decide +kernel
theorem d9_14 : decode method_3_code 14 = .ok (.lreturn, 1) := by decide +kernel
theorem d9_19 : decode method_3_code 19 = .ok (.lreturn, 1) := by decide +kernel
theorem pn2 : plainName "com/example/eriu/eriu/algorithm/GroupElectionRoundSpansPinLaw" = true := by first | (simp [plainName, overriddenIn]; done) | decide +kernel
theorem ef2 (m : MethodId) (x0 : Int32) (x1 : Int32) (x2 : Int32) (x3 : Int32) : entryFrame m #[(.int x0), (.int x1), (.int x2), (.int x3)] 4 = (mkF m 0 #[iv x0, iv x1, iv x2, iv x3] []) := by first | (simp [entryFrame, mkF, argsToLocals, Value.category]; done) | rfl
def r2 (x0 : Int32) (x1 : Int32) (x2 : Int32) (x3 : Int32) : Int64 := (if (1 : Int32) < x1 then (if x0 = (x1 - (1 : Int32)) then (x2.toInt64) else ((x3.toInt64) <<< (x0 &&& 0x3f).toInt64)) else ((x3.toInt64) <<< (x0 &&& 0x3f).toInt64))
set_option maxRecDepth 65536 in
set_option maxHeartbeats 40000000 in
theorem rm2 (l : Launch) (Z : State) (a0 : Array Value) (hw : ∀ d ∈ tables_1, d.before a0 Z = true) (ws : List Jvm.Cond) (x0 : Int32) (x1 : Int32) (x2 : Int32) (x3 : Int32) (h0 : Heap) (n0 : Nat) (Z0 : n0 ≤ h0.size) :
    MetFree l ym8 (head1 (Jvm.Cond.code ym8 method_3_code 4 (some .long) :: ws) ({ frames := 0, cells := 0, slots := 0, locals := 0 } : Room)) (fun a U => a = #[(.int x0), (.int x1), (.int x2), (.int x3)] ∧ Z.Warmed39 U.vm ∧ U.heap = h0) (fun _ _ _ _ _ => True) (fun _ U o U' => ∃ v L, o = .returned v ∧ (QP (some (.long (r2 x0 x1 x2 x3))) h0 n0) v U'.heap L ∧ FrameEnd U o U' L ({ frames := 0, cells := 0, slots := 0, locals := 0 } : Room).cells ({ frames := 0, cells := 0, slots := 0, locals := 0 } : Room).slots) := by
  refine MetFree.of_bodySF (plainFor_of_name pn2) hisR ?_
  intro p e s m args below meth c s₁ Bd hml0 hP hK
  obtain ⟨rfl, hZ, hh⟩ := hP
  have hx := Bd.exec
  have hby := Bd.bytes
  have hml : c.maxLocals = 4 := hml0
  have hlk : meth.locks = false := BodyLoose.notSynchronized Bd
  have hown : s.vm.findClass "com/example/eriu/eriu/algorithm/GroupElectionRoundSpansPinLaw" = some m.cls := findClass_of_methodNamed Bd.named
  have hnm := (name_of_methodNamed Bd.named Bd.method).1
  have w_0 := hw _ (List.mem_of_getElem? (i := 0) rfl)
  have w_40 := hw _ (List.mem_of_getElem? (i := 40) rfl)
  have w_41 := hw _ (List.mem_of_getElem? (i := 41) rfl)
  have w_42 := hw _ (List.mem_of_getElem? (i := 42) rfl)
  have w_43 := hw _ (List.mem_of_getElem? (i := 43) rfl)
  have hci : ∀ i v, (i, v) ∈ ([(7, 2147483647)] : List (Nat × Int32)) → (Jvm.Cond.constant "com/example/eriu/eriu/algorithm/GroupElectionRoundSpansPinLaw" i v).before #[(.int x0), (.int x1), (.int x2), (.int x3)] s = true := (own_ciS (mvT hZ w_0) own_ci0)
  have hcl : ∀ i v, (i, v) ∈ ([(30, 4), (32, 3), (34, 2), (36, 31)] : List (Nat × Int64)) → (Jvm.Cond.constantLong "com/example/eriu/eriu/algorithm/GroupElectionRoundSpansPinLaw" i v).before #[(.int x0), (.int x1), (.int x2), (.int x3)] s = true := (own_ciS (mvT hZ w_40) (own_ciS (mvT hZ w_41) (own_ciS (mvT hZ w_42) (own_ciS (mvT hZ w_43) own_ci0))))
  have X0 : Stand p l e ({ frames := 0, cells := 0, slots := 0, locals := 0 } : Room) s m #[(.int x0), (.int x1), (.int x2), (.int x3)] below meth c s₁ [] 0 0 := Stand.of_body Bd
  have e0 : s₁.heap = h0 := by rw [← hh, Bd.state]; rfl
  have N0 := Fr.nil n0
  show Goes p e below s (QP (some (.long (r2 x0 x1 x2 x3))) h0 n0) ({ frames := 0, cells := 0, slots := 0, locals := 0 } : Room).cells ({ frames := 0, cells := 0, slots := 0, locals := 0 } : Room).slots (s₁.setTop (entryFrame m #[(.int x0), (.int x1), (.int x2), (.int x3)] 4))
  refine Goes.cast (ef2 m x0 x1 x2 x3) ?_
  refine Goes.run X0 hx hown hci hcl hby (L := [(0, .iload_n 1, 1), (1, .iconst 1, 1)]) (by decide +kernel) rfl (g' := (mkF m 2 #[iv x0, iv x1, iv x2, iv x3] [(.int (1 : Int32)), (.int x1)])) rfl ?_
  by_cases hc2_1 : (1 : Int32) < x1
  · skip
    refine Goes.st (B := s₁.setTop (mkF m 5 #[iv x0, iv x1, iv x2, iv x3] [])) (fun t k => ?_) ?_
    · refine XS.icmpNo X0.here hx rfl (hb hby d9_2) rfl (tlt hc2_1).2.2.2 ?_
      exact k
    refine Goes.run X0 hx hown hci hcl hby (L := [(5, .iload_n 0, 1), (6, .iload_n 1, 1), (7, .iconst 1, 1), (8, .isub, 1)]) (by decide +kernel) rfl (g' := (mkF m 9 #[iv x0, iv x1, iv x2, iv x3] [(.int (x1 - (1 : Int32))), (.int x0)])) rfl ?_
    by_cases hc9_2 : x0 = (x1 - (1 : Int32))
    · skip
      refine Goes.st (B := s₁.setTop (mkF m 12 #[iv x0, iv x1, iv x2, iv x3] [])) (fun t k => ?_) ?_
      · refine XS.icmpNo X0.here hx rfl (hb hby d9_9) rfl (teq hc9_2).2 ?_
        exact k
      refine Goes.run X0 hx hown hci hcl hby (L := [(12, .iload_n 2, 1), (13, .i2l, 1)]) (by decide +kernel) rfl (g' := (mkF m 14 #[iv x0, iv x1, iv x2, iv x3] [(.long (x2.toInt64))])) rfl ?_
      exact Goes.retJ X0 hx hlk Bd.returns (hb hby d9_14) ⟨(congrArg (fun z => some (Value.long z)) (show (r2 x0 x1 x2 x3) = (x2.toInt64) from ((if_pos hc2_1).trans (if_pos hc9_2))).symm), N0, e0⟩ (by decide) (by decide)
    · skip
      refine Goes.st (B := s₁.setTop (mkF m 15 #[iv x0, iv x1, iv x2, iv x3] [])) (fun t k => ?_) ?_
      · refine XS.icmpYes X0.here hx rfl (pc0 := 9) (pc' := 15) rfl (hb hby d9_9) rfl (feq hc9_2).2 (by decide) (by decide) ?_
        exact k
      refine Goes.run X0 hx hown hci hcl hby (L := [(15, .iload_n 3, 1), (16, .i2l, 1), (17, .iload_n 0, 1), (18, .lshl, 1)]) (by decide +kernel) rfl (g' := (mkF m 19 #[iv x0, iv x1, iv x2, iv x3] [(.long ((x3.toInt64) <<< (x0 &&& 0x3f).toInt64))])) rfl ?_
      exact Goes.retJ X0 hx hlk Bd.returns (hb hby d9_19) ⟨(congrArg (fun z => some (Value.long z)) (show (r2 x0 x1 x2 x3) = ((x3.toInt64) <<< (x0 &&& 0x3f).toInt64) from ((if_pos hc2_1).trans (if_neg hc9_2))).symm), N0, e0⟩ (by decide) (by decide)
  · skip
    refine Goes.st (B := s₁.setTop (mkF m 15 #[iv x0, iv x1, iv x2, iv x3] [])) (fun t k => ?_) ?_
    · refine XS.icmpYes X0.here hx rfl (pc0 := 2) (pc' := 15) rfl (hb hby d9_2) rfl (flt hc2_1).2.2.2 (by decide) (by decide) ?_
      exact k
    refine Goes.run X0 hx hown hci hcl hby (L := [(15, .iload_n 3, 1), (16, .i2l, 1), (17, .iload_n 0, 1), (18, .lshl, 1)]) (by decide +kernel) rfl (g' := (mkF m 19 #[iv x0, iv x1, iv x2, iv x3] [(.long ((x3.toInt64) <<< (x0 &&& 0x3f).toInt64))])) rfl ?_
    exact Goes.retJ X0 hx hlk Bd.returns (hb hby d9_19) ⟨(congrArg (fun z => some (Value.long z)) (show (r2 x0 x1 x2 x3) = ((x3.toInt64) <<< (x0 &&& 0x3f).toInt64) from (if_neg hc2_1)).symm), N0, e0⟩ (by decide) (by decide)
theorem d10_2 : decode method_4_code 2 = .ok (.if_icmp .lt 5, 3) := by decide +kernel
theorem d10_6 : decode method_4_code 6 = .ok (.ireturn, 1) := by decide +kernel
theorem d10_12 : decode method_4_code 12 = .ok (.invokestatic 26, 3) := by decide +kernel
theorem d10_42 : decode method_4_code 42 = .ok (.if_icmp .lt 18, 3) := by decide +kernel
theorem d10_47 : decode method_4_code 47 = .ok (.laload, 1) := by decide +kernel
theorem d10_51 : decode method_4_code 51 = .ok (.ifCond .ne 7, 3) := by decide +kernel
theorem d10_59 : decode method_4_code 59 = .ok (.ireturn, 1) := by decide +kernel
theorem d10_62 : decode method_4_code 62 = .ok (.laload, 1) := by decide +kernel
theorem d10_76 : decode method_4_code 76 = .ok (.ifCond .lt 12, 3) := by decide +kernel
theorem d10_85 : decode method_4_code 85 = .ok (.ifCond .eq 5, 3) := by decide +kernel
theorem d10_89 : decode method_4_code 89 = .ok (.ireturn, 1) := by decide +kernel
theorem d10_104 : decode method_4_code 104 = .ok (.ifCond .le 5, 3) := by decide +kernel
theorem d10_108 : decode method_4_code 108 = .ok (.ireturn, 1) := by decide +kernel
theorem d10_116 : decode method_4_code 116 = .ok (.invokestatic 26, 3) := by decide +kernel
theorem d10_130 : decode method_4_code 130 = .ok (.ifCond .lt 28, 3) := by decide +kernel
theorem d10_137 : decode method_4_code 137 = .ok (.ifCond .eq 17, 3) := by decide +kernel
theorem d10_151 : decode method_4_code 151 = .ok (.ifCond .ge 7, 3) := by decide +kernel
theorem d10_159 : decode method_4_code 159 = .ok (.ireturn, 1) := by decide +kernel
theorem pnA : plainName "com/example/eriu/eriu/algorithm/GroupElectionRoundSpansPinLaw" = true := by first | (simp [plainName, overriddenIn]; done) | decide +kernel
theorem pdA_0 : parseMethodDescriptor "(IIII)J" = some ⟨[.int, .int, .int, .int], some .long⟩ := by decide +kernel
theorem efA (m : MethodId) (x0 : Addr) (x1 : Int32) (x2 : Int32) (x3 : Int32) (x4 : Int32) : entryFrame m #[(.ref x0), (.int x1), (.int x2), (.int x3), (.int x4)] 15 = (mkF m 0 #[rv x0, iv x1, iv x2, iv x3, iv x4, .unset, .unset, .unset, .unset, .unset, .unset, .unset, .unset, .unset, .unset] []) := by first | (simp [entryFrame, mkF, argsToLocals, Value.category]; done) | rfl
def wA_15 (x1 : Int32) (x2 : Int32) (x3 : Int32) (x4 : Int32) (z : Int64) : Int64 := (r2 x1 x2 x3 x4)
def wA_36 (x1 : Int32) (x2 : Int32) (x3 : Int32) (x4 : Int32) (z : Int64) : Int64 := (((4 : Int64) + (((3 : Int64) * (wA_15 x1 x2 x3 x4 z)) / (2 : Int64))) + ((wA_15 x1 x2 x3 x4 z) &&& (1 : Int64)))
def wA_70 (x1 : Int32) (x2 : Int32) (x3 : Int32) (x4 : Int32) (z : Int64) : Int64 := ((z - (wA_36 x1 x2 x3 x4 z)) - (2 : Int64))
def wA_96 (x1 : Int32) (x2 : Int32) (x3 : Int32) (x4 : Int32) (z : Int64) : Int64 := ((wA_70 x1 x2 x3 x4 z) / (2 : Int64))
def cA_116_3 (x1 : Int32) (x2 : Int32) (x3 : Int32) (x4 : Int32) (z : Int64) : Int32 := (x1 + (1 : Int32))
def wA_119 (x1 : Int32) (x2 : Int32) (x3 : Int32) (x4 : Int32) (z : Int64) : Int64 := (r2 (cA_116_3 x1 x2 x3 x4 z) x2 x3 x4)
def rA (x1 : Int32) (x2 : Int32) (x3 : Int32) (x4 : Int32) (z : Int64) : Int32 := (if x1 < x2 then (if (x1 + (1 : Int32)) < x2 then (if (wA_70 x1 x2 x3 x4 z) < (0 : Int64) then (0 : Int32) else (if ((wA_70 x1 x2 x3 x4 z) &&& (1 : Int64)) = (0 : Int64) then (if (31 : Int64) < (wA_96 x1 x2 x3 x4 z) then (0 : Int32) else (if ((wA_119 x1 x2 x3 x4 z) <<< (((wA_96 x1 x2 x3 x4 z).toInt32) &&& 0x3f).toInt64) < (x3.toInt64) then (0 : Int32) else (if (wA_96 x1 x2 x3 x4 z) = (0 : Int64) then (1 : Int32) else (if ((wA_119 x1 x2 x3 x4 z) <<< ((((wA_96 x1 x2 x3 x4 z) - (1 : Int64)).toInt32) &&& 0x3f).toInt64) < (x3.toInt64) then (1 : Int32) else (0 : Int32))))) else (0 : Int32))) else (if z = (wA_36 x1 x2 x3 x4 z) then (1 : Int32) else (0 : Int32))) else (1 : Int32))
set_option maxRecDepth 65536 in
set_option maxHeartbeats 40000000 in
theorem rmA (l : Launch) (Z : State) (a0 : Array Value) (hw : ∀ d ∈ tables_1, d.before a0 Z = true) (ws : List Jvm.Cond) (x0 : Addr) (x1 : Int32) (x2 : Int32) (x3 : Int32) (x4 : Int32) (kx : ClassId) (vs : List Value) (z : Int64) (h0 : Heap) (n0 : Nat) (Z0 : n0 ≤ h0.size) (V_x0 : Arv Z h0 x0 kx .long x2 vs (.long (0 : Int64))) (p1 : ¬ (x1 < (0 : Int32))) (hz : x1 < x2 → vs.getD x1.toNatClampNeg (.long (0 : Int64)) = .long z) :
    MetFree l ym9 (head1 (Jvm.Cond.code ym9 method_4_code 15 (some .boolean) :: ws) ({ frames := 1, cells := 0, slots := 0, locals := 15 } : Room)) (fun a U => a = #[(.ref x0), (.int x1), (.int x2), (.int x3), (.int x4)] ∧ Z.Warmed39 U.vm ∧ U.heap = h0) (fun _ _ _ _ _ => True) (fun _ U o U' => ∃ v L, o = .returned v ∧ (QP (some (.int (rA x1 x2 x3 x4 z))) h0 n0) v U'.heap L ∧ FrameEnd U o U' L ({ frames := 1, cells := 0, slots := 0, locals := 15 } : Room).cells ({ frames := 1, cells := 0, slots := 0, locals := 15 } : Room).slots) := by
  refine MetFree.of_bodySF (plainFor_of_name pnA) hisR ?_
  intro p e s m args below meth c s₁ Bd hml0 hP hK
  obtain ⟨rfl, hZ, hh⟩ := hP
  have hx := Bd.exec
  have hby := Bd.bytes
  have hml : c.maxLocals = 15 := hml0
  have hlk : meth.locks = false := BodyLoose.notSynchronized Bd
  have hown : s.vm.findClass "com/example/eriu/eriu/algorithm/GroupElectionRoundSpansPinLaw" = some m.cls := findClass_of_methodNamed Bd.named
  have hnm := (name_of_methodNamed Bd.named Bd.method).1
  have w_0 := hw _ (List.mem_of_getElem? (i := 0) rfl)
  have w_35 := hw _ (List.mem_of_getElem? (i := 35) rfl)
  have w_37 := hw _ (List.mem_of_getElem? (i := 37) rfl)
  have w_38 := hw _ (List.mem_of_getElem? (i := 38) rfl)
  have w_39 := hw _ (List.mem_of_getElem? (i := 39) rfl)
  have w_40 := hw _ (List.mem_of_getElem? (i := 40) rfl)
  have w_41 := hw _ (List.mem_of_getElem? (i := 41) rfl)
  have w_42 := hw _ (List.mem_of_getElem? (i := 42) rfl)
  have w_43 := hw _ (List.mem_of_getElem? (i := 43) rfl)
  have hci : ∀ i v, (i, v) ∈ ([(7, 2147483647)] : List (Nat × Int32)) → (Jvm.Cond.constant "com/example/eriu/eriu/algorithm/GroupElectionRoundSpansPinLaw" i v).before #[(.ref x0), (.int x1), (.int x2), (.int x3), (.int x4)] s = true := (own_ciS (mvT hZ w_0) own_ci0)
  have hcl : ∀ i v, (i, v) ∈ ([(30, 4), (32, 3), (34, 2), (36, 31)] : List (Nat × Int64)) → (Jvm.Cond.constantLong "com/example/eriu/eriu/algorithm/GroupElectionRoundSpansPinLaw" i v).before #[(.ref x0), (.int x1), (.int x2), (.int x3), (.int x4)] s = true := (own_ciS (mvT hZ w_40) (own_ciS (mvT hZ w_41) (own_ciS (mvT hZ w_42) (own_ciS (mvT hZ w_43) own_ci0))))
  have X0 : Stand p l e ({ frames := 1, cells := 0, slots := 0, locals := 15 } : Room) s m #[(.ref x0), (.int x1), (.int x2), (.int x3), (.int x4)] below meth c s₁ [] 0 0 := Stand.of_body Bd
  have e0 : s₁.heap = h0 := by rw [← hh, Bd.state]; rfl
  have N0 := Fr.nil n0
  show Goes p e below s (QP (some (.int (rA x1 x2 x3 x4 z))) h0 n0) ({ frames := 1, cells := 0, slots := 0, locals := 15 } : Room).cells ({ frames := 1, cells := 0, slots := 0, locals := 15 } : Room).slots (s₁.setTop (entryFrame m #[(.ref x0), (.int x1), (.int x2), (.int x3), (.int x4)] 15))
  refine Goes.cast (efA m x0 x1 x2 x3 x4) ?_
  refine Goes.run X0 hx hown hci hcl hby (L := [(0, .iload_n 1, 1), (1, .iload_n 2, 1)]) (by decide +kernel) rfl (g' := (mkF m 2 #[rv x0, iv x1, iv x2, iv x3, iv x4, .unset, .unset, .unset, .unset, .unset, .unset, .unset, .unset, .unset, .unset] [(.int x2), (.int x1)])) rfl ?_
  by_cases hc2_1 : x1 < x2
  · skip
    refine Goes.st (B := s₁.setTop (mkF m 7 #[rv x0, iv x1, iv x2, iv x3, iv x4, .unset, .unset, .unset, .unset, .unset, .unset, .unset, .unset, .unset, .unset] [])) (fun t k => ?_) ?_
    · refine XS.icmpYes X0.here hx rfl (pc0 := 2) (pc' := 7) rfl (hb hby d10_2) rfl (tlt hc2_1).1 (by decide) (by decide) ?_
      exact k
    refine Goes.run X0 hx hown hci hcl hby (L := [(7, .iload_n 1, 1), (8, .iload_n 2, 1), (9, .iload_n 3, 1), (10, .iload 4, 2)]) (by decide +kernel) rfl (g' := (mkF m 12 #[rv x0, iv x1, iv x2, iv x3, iv x4, .unset, .unset, .unset, .unset, .unset, .unset, .unset, .unset, .unset, .unset] [(.int x4), (.int x3), (.int x2), (.int x1)])) rfl ?_
    obtain ⟨_, _, ⟨T2, L2, k2, n2⟩, -, X2, ⟨Lc2, hQ2, l2, y2, z2⟩, st2⟩ := Jvm.LawKit.callS X0 hx (y := ym8) hown (mvT hZ w_37) (mvT hZ w_38) (mvT hZ w_35) (mvT hZ w_39) (by decide) (backOf (W := 0) (rm2 l Z a0 hw [] x1 x2 x3 x4 h0 n0 Z0 ) hZ w_39 w_35 (by decide) (by decide)) (g := (mkF m 12 #[rv x0, iv x1, iv x2, iv x3, iv x4, .unset, .unset, .unset, .unset, .unset, .unset, .unset, .unset, .unset, .unset] [(.int x4), (.int x3), (.int x2), (.int x1)])) rfl (by rw [hml]; rfl) (argsL := [(.int x1), (.int x2), (.int x3), (.int x4)]) (rest := []) (lenOf pdA_0 rfl) rfl (by show 2 * 0 + _ ≤ _; exact Nat.le_of_eq rfl) (hb hby d10_12) (fun _ _ => ⟨rfl, e0, (by decide : 0 + 0 ≤ _), (by decide : 0 + 0 ≤ _)⟩)
    dsimp only [Pt.U, Pt.locs, Pt.cells, Pt.slots] at X2 l2 y2 z2 st2 hQ2
    subst l2 y2 z2
    obtain ⟨rfl, N2q, e2⟩ := hQ2
    have N2 := Fr.app N0 N2q
    refine Goes.st (B := T2.setTop (mkF m 15 #[rv x0, iv x1, iv x2, iv x3, iv x4, .unset, .unset, .unset, .unset, .unset, .unset, .unset, .unset, .unset, .unset] [(.long (r2 x1 x2 x3 x4))])) st2 ?_
    refine Goes.run X2 hx hown hci hcl hby (L := [(15, .lstore 5, 2), (17, .ldc2_w 30, 3), (20, .ldc2_w 32, 3), (23, .lload 5, 2), (25, .lmul, 1), (26, .ldc2_w 34, 3)]) (by decide +kernel) rfl (g' := (mkF m 29 #[rv x0, iv x1, iv x2, iv x3, iv x4, jv (wA_15 x1 x2 x3 x4 z), .second, .unset, .unset, .unset, .unset, .unset, .unset, .unset, .unset] [(.long (2 : Int64)), (.long ((3 : Int64) * (wA_15 x1 x2 x3 x4 z))), (.long (4 : Int64))])) rfl ?_
    refine Goes.run X2 hx hown hci hcl hby (L := [(29, .ldiv, 1), (30, .ladd, 1), (31, .lload 5, 2), (33, .lconst 1, 1), (34, .land, 1), (35, .ladd, 1)]) (by decide +kernel) rfl (g' := (mkF m 36 #[rv x0, iv x1, iv x2, iv x3, iv x4, jv (wA_15 x1 x2 x3 x4 z), .second, .unset, .unset, .unset, .unset, .unset, .unset, .unset, .unset] [(.long (((4 : Int64) + (((3 : Int64) * (wA_15 x1 x2 x3 x4 z)) / (2 : Int64))) + ((wA_15 x1 x2 x3 x4 z) &&& (1 : Int64))))])) rfl ?_
    refine Goes.run X2 hx hown hci hcl hby (L := [(36, .lstore 7, 2), (38, .iload_n 1, 1), (39, .iconst 1, 1), (40, .iadd, 1), (41, .iload_n 2, 1)]) (by decide +kernel) rfl (g' := (mkF m 42 #[rv x0, iv x1, iv x2, iv x3, iv x4, jv (wA_15 x1 x2 x3 x4 z), .second, jv (wA_36 x1 x2 x3 x4 z), .second, .unset, .unset, .unset, .unset, .unset, .unset] [(.int x2), (.int (x1 + (1 : Int32)))])) rfl ?_
    by_cases hc42_3 : (x1 + (1 : Int32)) < x2
    · skip
      refine Goes.st (B := T2.setTop (mkF m 60 #[rv x0, iv x1, iv x2, iv x3, iv x4, jv (wA_15 x1 x2 x3 x4 z), .second, jv (wA_36 x1 x2 x3 x4 z), .second, .unset, .unset, .unset, .unset, .unset, .unset] [])) (fun t k => ?_) ?_
      · refine XS.icmpYes X2.here hx rfl (pc0 := 42) (pc' := 60) rfl (hb hby d10_42) rfl (tlt hc42_3).1 (by decide) (by decide) ?_
        exact k
      refine Goes.run X2 hx hown hci hcl hby (L := [(60, .aload_n 0, 1), (61, .iload_n 1, 1)]) (by decide +kernel) rfl (g' := (mkF m 62 #[rv x0, iv x1, iv x2, iv x3, iv x4, jv (wA_15 x1 x2 x3 x4 z), .second, jv (wA_36 x1 x2 x3 x4 z), .second, .unset, .unset, .unset, .unset, .unset, .unset] [(.int x1), (.ref x0)])) rfl ?_
      obtain ⟨cl4, Ar4, q4, S4, M4, Hs4, G4⟩ := id V_x0
      have hin4 : ¬ (x1 < 0 ∨ cl4.slots.size ≤ (x1).toNatClampNeg) := inb_of S4 ⟨p1, hc2_1⟩
      have hat4 : cl4.slots[(x1).toNatClampNeg]? = some (.long z) := Hs4.at hin4 (hz hc2_1)
      refine Goes.st (B := T2.setTop (mkF m 63 #[rv x0, iv x1, iv x2, iv x3, iv x4, jv (wA_15 x1 x2 x3 x4 z), .second, jv (wA_36 x1 x2 x3 x4 z), .second, .unset, .unset, .unset, .unset, .unset, .unset] [(.long z)])) (X2.laload hx (j := x1) (v := (.long z)) (by rw [e2]; exact Ar4.1) (State.isArrayOf_alike hZ.alike Ar4.2.1) Ar4.2.2 hin4 hat4 (g := (mkF m 62 #[rv x0, iv x1, iv x2, iv x3, iv x4, jv (wA_15 x1 x2 x3 x4 z), .second, jv (wA_36 x1 x2 x3 x4 z), .second, .unset, .unset, .unset, .unset, .unset, .unset] [(.int x1), (.ref x0)])) rfl rfl (hb hby d10_62)) ?_
      refine Goes.run X2 hx hown hci hcl hby (L := [(63, .lload 7, 2), (65, .lsub, 1), (66, .ldc2_w 34, 3), (69, .lsub, 1), (70, .lstore 9, 2), (72, .lload 9, 2)]) (by decide +kernel) rfl (g' := (mkF m 74 #[rv x0, iv x1, iv x2, iv x3, iv x4, jv (wA_15 x1 x2 x3 x4 z), .second, jv (wA_36 x1 x2 x3 x4 z), .second, jv (wA_70 x1 x2 x3 x4 z), .second, .unset, .unset, .unset, .unset] [(.long (wA_70 x1 x2 x3 x4 z))])) rfl ?_
      refine Goes.run X2 hx hown hci hcl hby (L := [(74, .lconst 0, 1), (75, .lcmp, 1)]) (by decide +kernel) rfl (g' := (mkF m 76 #[rv x0, iv x1, iv x2, iv x3, iv x4, jv (wA_15 x1 x2 x3 x4 z), .second, jv (wA_36 x1 x2 x3 x4 z), .second, jv (wA_70 x1 x2 x3 x4 z), .second, .unset, .unset, .unset, .unset] [(.int (lcmpW (wA_70 x1 x2 x3 x4 z) (0 : Int64)))])) rfl ?_
      by_cases hc76_5 : (wA_70 x1 x2 x3 x4 z) < (0 : Int64)
      · skip
        refine Goes.st (B := T2.setTop (mkF m 88 #[rv x0, iv x1, iv x2, iv x3, iv x4, jv (wA_15 x1 x2 x3 x4 z), .second, jv (wA_36 x1 x2 x3 x4 z), .second, jv (wA_70 x1 x2 x3 x4 z), .second, .unset, .unset, .unset, .unset] [])) (fun t k => ?_) ?_
        · refine XS.ifYes X2.here hx rfl (pc0 := 76) (pc' := 88) rfl (hb hby d10_76) rfl (tltL hc76_5).1 (by decide) (by decide) ?_
          exact k
        refine Goes.run X2 hx hown hci hcl hby (L := [(88, .iconst 0, 1)]) (by decide +kernel) rfl (g' := (mkF m 89 #[rv x0, iv x1, iv x2, iv x3, iv x4, jv (wA_15 x1 x2 x3 x4 z), .second, jv (wA_36 x1 x2 x3 x4 z), .second, jv (wA_70 x1 x2 x3 x4 z), .second, .unset, .unset, .unset, .unset] [(.int (0 : Int32))])) rfl ?_
        exact Goes.retB X2 hx hlk (t := .boolean) Bd.returns (by simp) (hb hby d10_89) rfl ⟨(congrArg (fun z => some (Value.int z)) (show (rA x1 x2 x3 x4 z) = (0 : Int32) from (((if_pos hc2_1).trans (if_pos hc42_3)).trans (if_pos hc76_5))).symm), N2, e2⟩ (by decide) (by decide)
      · skip
        refine Goes.st (B := T2.setTop (mkF m 79 #[rv x0, iv x1, iv x2, iv x3, iv x4, jv (wA_15 x1 x2 x3 x4 z), .second, jv (wA_36 x1 x2 x3 x4 z), .second, jv (wA_70 x1 x2 x3 x4 z), .second, .unset, .unset, .unset, .unset] [])) (fun t k => ?_) ?_
        · refine XS.ifNo X2.here hx rfl (hb hby d10_76) rfl (fltL hc76_5).1 ?_
          exact k
        refine Goes.run X2 hx hown hci hcl hby (L := [(79, .lload 9, 2), (81, .lconst 1, 1), (82, .land, 1), (83, .lconst 0, 1), (84, .lcmp, 1)]) (by decide +kernel) rfl (g' := (mkF m 85 #[rv x0, iv x1, iv x2, iv x3, iv x4, jv (wA_15 x1 x2 x3 x4 z), .second, jv (wA_36 x1 x2 x3 x4 z), .second, jv (wA_70 x1 x2 x3 x4 z), .second, .unset, .unset, .unset, .unset] [(.int (lcmpW ((wA_70 x1 x2 x3 x4 z) &&& (1 : Int64)) (0 : Int64)))])) rfl ?_
        by_cases hc85_6 : ((wA_70 x1 x2 x3 x4 z) &&& (1 : Int64)) = (0 : Int64)
        · skip
          refine Goes.st (B := T2.setTop (mkF m 90 #[rv x0, iv x1, iv x2, iv x3, iv x4, jv (wA_15 x1 x2 x3 x4 z), .second, jv (wA_36 x1 x2 x3 x4 z), .second, jv (wA_70 x1 x2 x3 x4 z), .second, .unset, .unset, .unset, .unset] [])) (fun t k => ?_) ?_
          · refine XS.ifYes X2.here hx rfl (pc0 := 85) (pc' := 90) rfl (hb hby d10_85) rfl (teqL hc85_6).1 (by decide) (by decide) ?_
            exact k
          refine Goes.run X2 hx hown hci hcl hby (L := [(90, .lload 9, 2), (92, .ldc2_w 34, 3), (95, .ldiv, 1), (96, .lstore 11, 2), (98, .lload 11, 2), (100, .ldc2_w 36, 3)]) (by decide +kernel) rfl (g' := (mkF m 103 #[rv x0, iv x1, iv x2, iv x3, iv x4, jv (wA_15 x1 x2 x3 x4 z), .second, jv (wA_36 x1 x2 x3 x4 z), .second, jv (wA_70 x1 x2 x3 x4 z), .second, jv (wA_96 x1 x2 x3 x4 z), .second, .unset, .unset] [(.long (31 : Int64)), (.long (wA_96 x1 x2 x3 x4 z))])) rfl ?_
          refine Goes.run X2 hx hown hci hcl hby (L := [(103, .lcmp, 1)]) (by decide +kernel) rfl (g' := (mkF m 104 #[rv x0, iv x1, iv x2, iv x3, iv x4, jv (wA_15 x1 x2 x3 x4 z), .second, jv (wA_36 x1 x2 x3 x4 z), .second, jv (wA_70 x1 x2 x3 x4 z), .second, jv (wA_96 x1 x2 x3 x4 z), .second, .unset, .unset] [(.int (lcmpW (wA_96 x1 x2 x3 x4 z) (31 : Int64)))])) rfl ?_
          by_cases hc104_7 : (31 : Int64) < (wA_96 x1 x2 x3 x4 z)
          · skip
            refine Goes.st (B := T2.setTop (mkF m 107 #[rv x0, iv x1, iv x2, iv x3, iv x4, jv (wA_15 x1 x2 x3 x4 z), .second, jv (wA_36 x1 x2 x3 x4 z), .second, jv (wA_70 x1 x2 x3 x4 z), .second, jv (wA_96 x1 x2 x3 x4 z), .second, .unset, .unset] [])) (fun t k => ?_) ?_
            · refine XS.ifNo X2.here hx rfl (hb hby d10_104) rfl (tltL hc104_7).2.2.2 ?_
              exact k
            refine Goes.run X2 hx hown hci hcl hby (L := [(107, .iconst 0, 1)]) (by decide +kernel) rfl (g' := (mkF m 108 #[rv x0, iv x1, iv x2, iv x3, iv x4, jv (wA_15 x1 x2 x3 x4 z), .second, jv (wA_36 x1 x2 x3 x4 z), .second, jv (wA_70 x1 x2 x3 x4 z), .second, jv (wA_96 x1 x2 x3 x4 z), .second, .unset, .unset] [(.int (0 : Int32))])) rfl ?_
            exact Goes.retB X2 hx hlk (t := .boolean) Bd.returns (by simp) (hb hby d10_108) rfl ⟨(congrArg (fun z => some (Value.int z)) (show (rA x1 x2 x3 x4 z) = (0 : Int32) from (((((if_pos hc2_1).trans (if_pos hc42_3)).trans (if_neg hc76_5)).trans (if_pos hc85_6)).trans (if_pos hc104_7))).symm), N2, e2⟩ (by decide) (by decide)
          · skip
            refine Goes.st (B := T2.setTop (mkF m 109 #[rv x0, iv x1, iv x2, iv x3, iv x4, jv (wA_15 x1 x2 x3 x4 z), .second, jv (wA_36 x1 x2 x3 x4 z), .second, jv (wA_70 x1 x2 x3 x4 z), .second, jv (wA_96 x1 x2 x3 x4 z), .second, .unset, .unset] [])) (fun t k => ?_) ?_
            · refine XS.ifYes X2.here hx rfl (pc0 := 104) (pc' := 109) rfl (hb hby d10_104) rfl (fltL hc104_7).2.2.2 (by decide) (by decide) ?_
              exact k
            refine Goes.run X2 hx hown hci hcl hby (L := [(109, .iload_n 1, 1), (110, .iconst 1, 1), (111, .iadd, 1), (112, .iload_n 2, 1), (113, .iload_n 3, 1), (114, .iload 4, 2)]) (by decide +kernel) rfl (g' := (mkF m 116 #[rv x0, iv x1, iv x2, iv x3, iv x4, jv (wA_15 x1 x2 x3 x4 z), .second, jv (wA_36 x1 x2 x3 x4 z), .second, jv (wA_70 x1 x2 x3 x4 z), .second, jv (wA_96 x1 x2 x3 x4 z), .second, .unset, .unset] [(.int x4), (.int x3), (.int x2), (.int (cA_116_3 x1 x2 x3 x4 z))])) rfl ?_
            obtain ⟨_, _, ⟨T8, L8, k8, n8⟩, -, X8, ⟨Lc8, hQ8, l8, y8, z8⟩, st8⟩ := Jvm.LawKit.callS X2 hx (y := ym8) hown (mvT hZ w_37) (mvT hZ w_38) (mvT hZ w_35) (mvT hZ w_39) (by decide) (backOf (W := 0) (rm2 l Z a0 hw [] (cA_116_3 x1 x2 x3 x4 z) x2 x3 x4 h0 n0 Z0 ) hZ w_39 w_35 (by decide) (by decide)) (g := (mkF m 116 #[rv x0, iv x1, iv x2, iv x3, iv x4, jv (wA_15 x1 x2 x3 x4 z), .second, jv (wA_36 x1 x2 x3 x4 z), .second, jv (wA_70 x1 x2 x3 x4 z), .second, jv (wA_96 x1 x2 x3 x4 z), .second, .unset, .unset] [(.int x4), (.int x3), (.int x2), (.int (cA_116_3 x1 x2 x3 x4 z))])) rfl (by rw [hml]; rfl) (argsL := [(.int (cA_116_3 x1 x2 x3 x4 z)), (.int x2), (.int x3), (.int x4)]) (rest := []) (lenOf pdA_0 rfl) rfl (by show 2 * 0 + _ ≤ _; exact Nat.le_of_eq rfl) (hb hby d10_116) (fun _ _ => ⟨rfl, e2, (by decide : 0 + 0 ≤ _), (by decide : 0 + 0 ≤ _)⟩)
            dsimp only [Pt.U, Pt.locs, Pt.cells, Pt.slots] at X8 l8 y8 z8 st8 hQ8
            subst l8 y8 z8
            obtain ⟨rfl, N8q, e8⟩ := hQ8
            have N8 := Fr.app N2 N8q
            refine Goes.st (B := T8.setTop (mkF m 119 #[rv x0, iv x1, iv x2, iv x3, iv x4, jv (wA_15 x1 x2 x3 x4 z), .second, jv (wA_36 x1 x2 x3 x4 z), .second, jv (wA_70 x1 x2 x3 x4 z), .second, jv (wA_96 x1 x2 x3 x4 z), .second, .unset, .unset] [(.long (r2 (cA_116_3 x1 x2 x3 x4 z) x2 x3 x4))])) st8 ?_
            refine Goes.run X8 hx hown hci hcl hby (L := [(119, .lstore 13, 2), (121, .lload 13, 2), (123, .lload 11, 2), (125, .l2i, 1), (126, .lshl, 1), (127, .iload_n 3, 1)]) (by decide +kernel) rfl (g' := (mkF m 128 #[rv x0, iv x1, iv x2, iv x3, iv x4, jv (wA_15 x1 x2 x3 x4 z), .second, jv (wA_36 x1 x2 x3 x4 z), .second, jv (wA_70 x1 x2 x3 x4 z), .second, jv (wA_96 x1 x2 x3 x4 z), .second, jv (wA_119 x1 x2 x3 x4 z), .second] [(.int x3), (.long ((wA_119 x1 x2 x3 x4 z) <<< (((wA_96 x1 x2 x3 x4 z).toInt32) &&& 0x3f).toInt64))])) rfl ?_
            refine Goes.run X8 hx hown hci hcl hby (L := [(128, .i2l, 1), (129, .lcmp, 1)]) (by decide +kernel) rfl (g' := (mkF m 130 #[rv x0, iv x1, iv x2, iv x3, iv x4, jv (wA_15 x1 x2 x3 x4 z), .second, jv (wA_36 x1 x2 x3 x4 z), .second, jv (wA_70 x1 x2 x3 x4 z), .second, jv (wA_96 x1 x2 x3 x4 z), .second, jv (wA_119 x1 x2 x3 x4 z), .second] [(.int (lcmpW ((wA_119 x1 x2 x3 x4 z) <<< (((wA_96 x1 x2 x3 x4 z).toInt32) &&& 0x3f).toInt64) (x3.toInt64)))])) rfl ?_
            by_cases hc130_9 : ((wA_119 x1 x2 x3 x4 z) <<< (((wA_96 x1 x2 x3 x4 z).toInt32) &&& 0x3f).toInt64) < (x3.toInt64)
            · skip
              refine Goes.st (B := T8.setTop (mkF m 158 #[rv x0, iv x1, iv x2, iv x3, iv x4, jv (wA_15 x1 x2 x3 x4 z), .second, jv (wA_36 x1 x2 x3 x4 z), .second, jv (wA_70 x1 x2 x3 x4 z), .second, jv (wA_96 x1 x2 x3 x4 z), .second, jv (wA_119 x1 x2 x3 x4 z), .second] [])) (fun t k => ?_) ?_
              · refine XS.ifYes X8.here hx rfl (pc0 := 130) (pc' := 158) rfl (hb hby d10_130) rfl (tltL hc130_9).1 (by decide) (by decide) ?_
                exact k
              refine Goes.run X8 hx hown hci hcl hby (L := [(158, .iconst 0, 1)]) (by decide +kernel) rfl (g' := (mkF m 159 #[rv x0, iv x1, iv x2, iv x3, iv x4, jv (wA_15 x1 x2 x3 x4 z), .second, jv (wA_36 x1 x2 x3 x4 z), .second, jv (wA_70 x1 x2 x3 x4 z), .second, jv (wA_96 x1 x2 x3 x4 z), .second, jv (wA_119 x1 x2 x3 x4 z), .second] [(.int (0 : Int32))])) rfl ?_
              exact Goes.retB X8 hx hlk (t := .boolean) Bd.returns (by simp) (hb hby d10_159) rfl ⟨(congrArg (fun z => some (Value.int z)) (show (rA x1 x2 x3 x4 z) = (0 : Int32) from ((((((if_pos hc2_1).trans (if_pos hc42_3)).trans (if_neg hc76_5)).trans (if_pos hc85_6)).trans (if_neg hc104_7)).trans (if_pos hc130_9))).symm), N8, e8⟩ (by decide) (by decide)
            · skip
              refine Goes.st (B := T8.setTop (mkF m 133 #[rv x0, iv x1, iv x2, iv x3, iv x4, jv (wA_15 x1 x2 x3 x4 z), .second, jv (wA_36 x1 x2 x3 x4 z), .second, jv (wA_70 x1 x2 x3 x4 z), .second, jv (wA_96 x1 x2 x3 x4 z), .second, jv (wA_119 x1 x2 x3 x4 z), .second] [])) (fun t k => ?_) ?_
              · refine XS.ifNo X8.here hx rfl (hb hby d10_130) rfl (fltL hc130_9).1 ?_
                exact k
              refine Goes.run X8 hx hown hci hcl hby (L := [(133, .lload 11, 2), (135, .lconst 0, 1), (136, .lcmp, 1)]) (by decide +kernel) rfl (g' := (mkF m 137 #[rv x0, iv x1, iv x2, iv x3, iv x4, jv (wA_15 x1 x2 x3 x4 z), .second, jv (wA_36 x1 x2 x3 x4 z), .second, jv (wA_70 x1 x2 x3 x4 z), .second, jv (wA_96 x1 x2 x3 x4 z), .second, jv (wA_119 x1 x2 x3 x4 z), .second] [(.int (lcmpW (wA_96 x1 x2 x3 x4 z) (0 : Int64)))])) rfl ?_
              by_cases hc137_10 : (wA_96 x1 x2 x3 x4 z) = (0 : Int64)
              · skip
                refine Goes.st (B := T8.setTop (mkF m 154 #[rv x0, iv x1, iv x2, iv x3, iv x4, jv (wA_15 x1 x2 x3 x4 z), .second, jv (wA_36 x1 x2 x3 x4 z), .second, jv (wA_70 x1 x2 x3 x4 z), .second, jv (wA_96 x1 x2 x3 x4 z), .second, jv (wA_119 x1 x2 x3 x4 z), .second] [])) (fun t k => ?_) ?_
                · refine XS.ifYes X8.here hx rfl (pc0 := 137) (pc' := 154) rfl (hb hby d10_137) rfl (teqL hc137_10).1 (by decide) (by decide) ?_
                  exact k
                refine Goes.run X8 hx hown hci hcl hby (L := [(154, .iconst 1, 1), (155, .goto 4, 3)]) (by decide +kernel) rfl (g' := (mkF m 159 #[rv x0, iv x1, iv x2, iv x3, iv x4, jv (wA_15 x1 x2 x3 x4 z), .second, jv (wA_36 x1 x2 x3 x4 z), .second, jv (wA_70 x1 x2 x3 x4 z), .second, jv (wA_96 x1 x2 x3 x4 z), .second, jv (wA_119 x1 x2 x3 x4 z), .second] [(.int (1 : Int32))])) rfl ?_
                exact Goes.retB X8 hx hlk (t := .boolean) Bd.returns (by simp) (hb hby d10_159) rfl ⟨(congrArg (fun z => some (Value.int z)) (show (rA x1 x2 x3 x4 z) = (1 : Int32) from (((((((if_pos hc2_1).trans (if_pos hc42_3)).trans (if_neg hc76_5)).trans (if_pos hc85_6)).trans (if_neg hc104_7)).trans (if_neg hc130_9)).trans (if_pos hc137_10))).symm), N8, e8⟩ (by decide) (by decide)
              · skip
                refine Goes.st (B := T8.setTop (mkF m 140 #[rv x0, iv x1, iv x2, iv x3, iv x4, jv (wA_15 x1 x2 x3 x4 z), .second, jv (wA_36 x1 x2 x3 x4 z), .second, jv (wA_70 x1 x2 x3 x4 z), .second, jv (wA_96 x1 x2 x3 x4 z), .second, jv (wA_119 x1 x2 x3 x4 z), .second] [])) (fun t k => ?_) ?_
                · refine XS.ifNo X8.here hx rfl (hb hby d10_137) rfl (feqL hc137_10).1 ?_
                  exact k
                refine Goes.run X8 hx hown hci hcl hby (L := [(140, .lload 13, 2), (142, .lload 11, 2), (144, .lconst 1, 1), (145, .lsub, 1), (146, .l2i, 1), (147, .lshl, 1)]) (by decide +kernel) rfl (g' := (mkF m 148 #[rv x0, iv x1, iv x2, iv x3, iv x4, jv (wA_15 x1 x2 x3 x4 z), .second, jv (wA_36 x1 x2 x3 x4 z), .second, jv (wA_70 x1 x2 x3 x4 z), .second, jv (wA_96 x1 x2 x3 x4 z), .second, jv (wA_119 x1 x2 x3 x4 z), .second] [(.long ((wA_119 x1 x2 x3 x4 z) <<< ((((wA_96 x1 x2 x3 x4 z) - (1 : Int64)).toInt32) &&& 0x3f).toInt64))])) rfl ?_
                refine Goes.run X8 hx hown hci hcl hby (L := [(148, .iload_n 3, 1), (149, .i2l, 1), (150, .lcmp, 1)]) (by decide +kernel) rfl (g' := (mkF m 151 #[rv x0, iv x1, iv x2, iv x3, iv x4, jv (wA_15 x1 x2 x3 x4 z), .second, jv (wA_36 x1 x2 x3 x4 z), .second, jv (wA_70 x1 x2 x3 x4 z), .second, jv (wA_96 x1 x2 x3 x4 z), .second, jv (wA_119 x1 x2 x3 x4 z), .second] [(.int (lcmpW ((wA_119 x1 x2 x3 x4 z) <<< ((((wA_96 x1 x2 x3 x4 z) - (1 : Int64)).toInt32) &&& 0x3f).toInt64) (x3.toInt64)))])) rfl ?_
                by_cases hc151_11 : ((wA_119 x1 x2 x3 x4 z) <<< ((((wA_96 x1 x2 x3 x4 z) - (1 : Int64)).toInt32) &&& 0x3f).toInt64) < (x3.toInt64)
                · skip
                  refine Goes.st (B := T8.setTop (mkF m 154 #[rv x0, iv x1, iv x2, iv x3, iv x4, jv (wA_15 x1 x2 x3 x4 z), .second, jv (wA_36 x1 x2 x3 x4 z), .second, jv (wA_70 x1 x2 x3 x4 z), .second, jv (wA_96 x1 x2 x3 x4 z), .second, jv (wA_119 x1 x2 x3 x4 z), .second] [])) (fun t k => ?_) ?_
                  · refine XS.ifNo X8.here hx rfl (hb hby d10_151) rfl (tltL hc151_11).2.1 ?_
                    exact k
                  refine Goes.run X8 hx hown hci hcl hby (L := [(154, .iconst 1, 1), (155, .goto 4, 3)]) (by decide +kernel) rfl (g' := (mkF m 159 #[rv x0, iv x1, iv x2, iv x3, iv x4, jv (wA_15 x1 x2 x3 x4 z), .second, jv (wA_36 x1 x2 x3 x4 z), .second, jv (wA_70 x1 x2 x3 x4 z), .second, jv (wA_96 x1 x2 x3 x4 z), .second, jv (wA_119 x1 x2 x3 x4 z), .second] [(.int (1 : Int32))])) rfl ?_
                  exact Goes.retB X8 hx hlk (t := .boolean) Bd.returns (by simp) (hb hby d10_159) rfl ⟨(congrArg (fun z => some (Value.int z)) (show (rA x1 x2 x3 x4 z) = (1 : Int32) from ((((((((if_pos hc2_1).trans (if_pos hc42_3)).trans (if_neg hc76_5)).trans (if_pos hc85_6)).trans (if_neg hc104_7)).trans (if_neg hc130_9)).trans (if_neg hc137_10)).trans (if_pos hc151_11))).symm), N8, e8⟩ (by decide) (by decide)
                · skip
                  refine Goes.st (B := T8.setTop (mkF m 158 #[rv x0, iv x1, iv x2, iv x3, iv x4, jv (wA_15 x1 x2 x3 x4 z), .second, jv (wA_36 x1 x2 x3 x4 z), .second, jv (wA_70 x1 x2 x3 x4 z), .second, jv (wA_96 x1 x2 x3 x4 z), .second, jv (wA_119 x1 x2 x3 x4 z), .second] [])) (fun t k => ?_) ?_
                  · refine XS.ifYes X8.here hx rfl (pc0 := 151) (pc' := 158) rfl (hb hby d10_151) rfl (fltL hc151_11).2.1 (by decide) (by decide) ?_
                    exact k
                  refine Goes.run X8 hx hown hci hcl hby (L := [(158, .iconst 0, 1)]) (by decide +kernel) rfl (g' := (mkF m 159 #[rv x0, iv x1, iv x2, iv x3, iv x4, jv (wA_15 x1 x2 x3 x4 z), .second, jv (wA_36 x1 x2 x3 x4 z), .second, jv (wA_70 x1 x2 x3 x4 z), .second, jv (wA_96 x1 x2 x3 x4 z), .second, jv (wA_119 x1 x2 x3 x4 z), .second] [(.int (0 : Int32))])) rfl ?_
                  exact Goes.retB X8 hx hlk (t := .boolean) Bd.returns (by simp) (hb hby d10_159) rfl ⟨(congrArg (fun z => some (Value.int z)) (show (rA x1 x2 x3 x4 z) = (0 : Int32) from ((((((((if_pos hc2_1).trans (if_pos hc42_3)).trans (if_neg hc76_5)).trans (if_pos hc85_6)).trans (if_neg hc104_7)).trans (if_neg hc130_9)).trans (if_neg hc137_10)).trans (if_neg hc151_11))).symm), N8, e8⟩ (by decide) (by decide)
        · skip
          refine Goes.st (B := T2.setTop (mkF m 88 #[rv x0, iv x1, iv x2, iv x3, iv x4, jv (wA_15 x1 x2 x3 x4 z), .second, jv (wA_36 x1 x2 x3 x4 z), .second, jv (wA_70 x1 x2 x3 x4 z), .second, .unset, .unset, .unset, .unset] [])) (fun t k => ?_) ?_
          · refine XS.ifNo X2.here hx rfl (hb hby d10_85) rfl (feqL hc85_6).1 ?_
            exact k
          refine Goes.run X2 hx hown hci hcl hby (L := [(88, .iconst 0, 1)]) (by decide +kernel) rfl (g' := (mkF m 89 #[rv x0, iv x1, iv x2, iv x3, iv x4, jv (wA_15 x1 x2 x3 x4 z), .second, jv (wA_36 x1 x2 x3 x4 z), .second, jv (wA_70 x1 x2 x3 x4 z), .second, .unset, .unset, .unset, .unset] [(.int (0 : Int32))])) rfl ?_
          exact Goes.retB X2 hx hlk (t := .boolean) Bd.returns (by simp) (hb hby d10_89) rfl ⟨(congrArg (fun z => some (Value.int z)) (show (rA x1 x2 x3 x4 z) = (0 : Int32) from ((((if_pos hc2_1).trans (if_pos hc42_3)).trans (if_neg hc76_5)).trans (if_neg hc85_6))).symm), N2, e2⟩ (by decide) (by decide)
    · skip
      refine Goes.st (B := T2.setTop (mkF m 45 #[rv x0, iv x1, iv x2, iv x3, iv x4, jv (wA_15 x1 x2 x3 x4 z), .second, jv (wA_36 x1 x2 x3 x4 z), .second, .unset, .unset, .unset, .unset, .unset, .unset] [])) (fun t k => ?_) ?_
      · refine XS.icmpNo X2.here hx rfl (hb hby d10_42) rfl (flt hc42_3).1 ?_
        exact k
      refine Goes.run X2 hx hown hci hcl hby (L := [(45, .aload_n 0, 1), (46, .iload_n 1, 1)]) (by decide +kernel) rfl (g' := (mkF m 47 #[rv x0, iv x1, iv x2, iv x3, iv x4, jv (wA_15 x1 x2 x3 x4 z), .second, jv (wA_36 x1 x2 x3 x4 z), .second, .unset, .unset, .unset, .unset, .unset, .unset] [(.int x1), (.ref x0)])) rfl ?_
      obtain ⟨cl12, Ar12, q12, S12, M12, Hs12, G12⟩ := id V_x0
      have hin12 : ¬ (x1 < 0 ∨ cl12.slots.size ≤ (x1).toNatClampNeg) := inb_of S12 ⟨p1, hc2_1⟩
      have hat12 : cl12.slots[(x1).toNatClampNeg]? = some (.long z) := Hs12.at hin12 (hz hc2_1)
      refine Goes.st (B := T2.setTop (mkF m 48 #[rv x0, iv x1, iv x2, iv x3, iv x4, jv (wA_15 x1 x2 x3 x4 z), .second, jv (wA_36 x1 x2 x3 x4 z), .second, .unset, .unset, .unset, .unset, .unset, .unset] [(.long z)])) (X2.laload hx (j := x1) (v := (.long z)) (by rw [e2]; exact Ar12.1) (State.isArrayOf_alike hZ.alike Ar12.2.1) Ar12.2.2 hin12 hat12 (g := (mkF m 47 #[rv x0, iv x1, iv x2, iv x3, iv x4, jv (wA_15 x1 x2 x3 x4 z), .second, jv (wA_36 x1 x2 x3 x4 z), .second, .unset, .unset, .unset, .unset, .unset, .unset] [(.int x1), (.ref x0)])) rfl rfl (hb hby d10_47)) ?_
      refine Goes.run X2 hx hown hci hcl hby (L := [(48, .lload 7, 2), (50, .lcmp, 1)]) (by decide +kernel) rfl (g' := (mkF m 51 #[rv x0, iv x1, iv x2, iv x3, iv x4, jv (wA_15 x1 x2 x3 x4 z), .second, jv (wA_36 x1 x2 x3 x4 z), .second, .unset, .unset, .unset, .unset, .unset, .unset] [(.int (lcmpW z (wA_36 x1 x2 x3 x4 z)))])) rfl ?_
      by_cases hc51_13 : z = (wA_36 x1 x2 x3 x4 z)
      · skip
        refine Goes.st (B := T2.setTop (mkF m 54 #[rv x0, iv x1, iv x2, iv x3, iv x4, jv (wA_15 x1 x2 x3 x4 z), .second, jv (wA_36 x1 x2 x3 x4 z), .second, .unset, .unset, .unset, .unset, .unset, .unset] [])) (fun t k => ?_) ?_
        · refine XS.ifNo X2.here hx rfl (hb hby d10_51) rfl (teqL hc51_13).2 ?_
          exact k
        refine Goes.run X2 hx hown hci hcl hby (L := [(54, .iconst 1, 1), (55, .goto 4, 3)]) (by decide +kernel) rfl (g' := (mkF m 59 #[rv x0, iv x1, iv x2, iv x3, iv x4, jv (wA_15 x1 x2 x3 x4 z), .second, jv (wA_36 x1 x2 x3 x4 z), .second, .unset, .unset, .unset, .unset, .unset, .unset] [(.int (1 : Int32))])) rfl ?_
        exact Goes.retB X2 hx hlk (t := .boolean) Bd.returns (by simp) (hb hby d10_59) rfl ⟨(congrArg (fun z => some (Value.int z)) (show (rA x1 x2 x3 x4 z) = (1 : Int32) from (((if_pos hc2_1).trans (if_neg hc42_3)).trans (if_pos hc51_13))).symm), N2, e2⟩ (by decide) (by decide)
      · skip
        refine Goes.st (B := T2.setTop (mkF m 58 #[rv x0, iv x1, iv x2, iv x3, iv x4, jv (wA_15 x1 x2 x3 x4 z), .second, jv (wA_36 x1 x2 x3 x4 z), .second, .unset, .unset, .unset, .unset, .unset, .unset] [])) (fun t k => ?_) ?_
        · refine XS.ifYes X2.here hx rfl (pc0 := 51) (pc' := 58) rfl (hb hby d10_51) rfl (feqL hc51_13).2 (by decide) (by decide) ?_
          exact k
        refine Goes.run X2 hx hown hci hcl hby (L := [(58, .iconst 0, 1)]) (by decide +kernel) rfl (g' := (mkF m 59 #[rv x0, iv x1, iv x2, iv x3, iv x4, jv (wA_15 x1 x2 x3 x4 z), .second, jv (wA_36 x1 x2 x3 x4 z), .second, .unset, .unset, .unset, .unset, .unset, .unset] [(.int (0 : Int32))])) rfl ?_
        exact Goes.retB X2 hx hlk (t := .boolean) Bd.returns (by simp) (hb hby d10_59) rfl ⟨(congrArg (fun z => some (Value.int z)) (show (rA x1 x2 x3 x4 z) = (0 : Int32) from (((if_pos hc2_1).trans (if_neg hc42_3)).trans (if_neg hc51_13))).symm), N2, e2⟩ (by decide) (by decide)
  · skip
    refine Goes.st (B := s₁.setTop (mkF m 5 #[rv x0, iv x1, iv x2, iv x3, iv x4, .unset, .unset, .unset, .unset, .unset, .unset, .unset, .unset, .unset, .unset] [])) (fun t k => ?_) ?_
    · refine XS.icmpNo X0.here hx rfl (hb hby d10_2) rfl (flt hc2_1).1 ?_
      exact k
    refine Goes.run X0 hx hown hci hcl hby (L := [(5, .iconst 1, 1)]) (by decide +kernel) rfl (g' := (mkF m 6 #[rv x0, iv x1, iv x2, iv x3, iv x4, .unset, .unset, .unset, .unset, .unset, .unset, .unset, .unset, .unset, .unset] [(.int (1 : Int32))])) rfl ?_
    exact Goes.retB X0 hx hlk (t := .boolean) Bd.returns (by simp) (hb hby d10_6) rfl ⟨(congrArg (fun z => some (Value.int z)) (show (rA x1 x2 x3 x4 z) = (1 : Int32) from (if_neg hc2_1)).symm), N0, e0⟩ (by decide) (by decide)
def own_spans (x0 x1 x2 : Int32) : List Value := if x2 = (1 : Int32) then [(.long ((r5 x1) + (0 : Int64)))] else if x2 = (2 : Int32) then [(.long ((r5 x1) + (r7 x0 x0))), (.long ((r5 x0) + (0 : Int64)))] else if x2 = (3 : Int32) then [(.long ((r5 x1) + (r7 x0 (c93_50_0 x0 x1)))), (.long ((r5 (c93_50_0 x0 x1)) + (r7 x0 x0))), (.long ((r5 x0) + (0 : Int64)))] else if x2 = (4 : Int32) then [(.long ((r5 x1) + (r7 x0 (c94_50_0 x0 x1)))), (.long ((r5 (c94_50_0 x0 x1)) + (r7 x0 (c94_50_0_a x0 x1)))), (.long ((r5 (c94_50_0_a x0 x1)) + (r7 x0 x0))), (.long ((r5 x0) + (0 : Int64)))] else if x2 = (5 : Int32) then [(.long ((r5 x1) + (r7 x0 (c95_50_0 x0 x1)))), (.long ((r5 (c95_50_0 x0 x1)) + (r7 x0 (c95_50_0_a x0 x1)))), (.long ((r5 (c95_50_0_a x0 x1)) + (r7 x0 (c95_50_0_b x0 x1)))), (.long ((r5 (c95_50_0_b x0 x1)) + (r7 x0 x0))), (.long ((r5 x0) + (0 : Int64)))] else if x2 = (6 : Int32) then [(.long ((r5 x1) + (r7 x0 (c96_50_0 x0 x1)))), (.long ((r5 (c96_50_0 x0 x1)) + (r7 x0 (c96_50_0_a x0 x1)))), (.long ((r5 (c96_50_0_a x0 x1)) + (r7 x0 (c96_50_0_b x0 x1)))), (.long ((r5 (c96_50_0_b x0 x1)) + (r7 x0 (c96_50_0_c x0 x1)))), (.long ((r5 (c96_50_0_c x0 x1)) + (r7 x0 x0))), (.long ((r5 x0) + (0 : Int64)))] else if x2 = (7 : Int32) then [(.long ((r5 x1) + (r7 x0 (c97_50_0 x0 x1)))), (.long ((r5 (c97_50_0 x0 x1)) + (r7 x0 (c97_50_0_a x0 x1)))), (.long ((r5 (c97_50_0_a x0 x1)) + (r7 x0 (c97_50_0_b x0 x1)))), (.long ((r5 (c97_50_0_b x0 x1)) + (r7 x0 (c97_50_0_c x0 x1)))), (.long ((r5 (c97_50_0_c x0 x1)) + (r7 x0 (c97_50_0_d x0 x1)))), (.long ((r5 (c97_50_0_d x0 x1)) + (r7 x0 x0))), (.long ((r5 x0) + (0 : Int64)))] else [(.long ((r5 x1) + (r7 x0 (c98_50_0 x0 x1)))), (.long ((r5 (c98_50_0 x0 x1)) + (r7 x0 (c98_50_0_a x0 x1)))), (.long ((r5 (c98_50_0_a x0 x1)) + (r7 x0 (c98_50_0_b x0 x1)))), (.long ((r5 (c98_50_0_b x0 x1)) + (r7 x0 (c98_50_0_c x0 x1)))), (.long ((r5 (c98_50_0_c x0 x1)) + (r7 x0 (c98_50_0_d x0 x1)))), (.long ((r5 (c98_50_0_d x0 x1)) + (r7 x0 (c98_50_0_e x0 x1)))), (.long ((r5 (c98_50_0_e x0 x1)) + (r7 x0 x0))), (.long ((r5 x0) + (0 : Int64)))]
def Q9 (Z : State) (x0 : Int32) (x1 : Int32) (x2 : Int32) (h0 : Heap) (n0 : Nat) (v : Option Value) (h : Heap) (L : List Loc) : Prop := ∃ (b : Addr) (k : ClassId), v = some (.ref b) ∧ Fr n0 L ∧ Keep h0 h [] ∧ h0.size ≤ b ∧ Exa Z h b "[J" ∧ Arv Z h b k .long x2 (own_spans x0 x1 x2) (.long (0 : Int64))
set_option maxRecDepth 65536 in
set_option maxHeartbeats 40000000 in
theorem rm9 (l : Launch) (Z : State) (a0 : Array Value) (hw : ∀ d ∈ tables_1, d.before a0 Z = true) (ws : List Jvm.Cond) (x0 x1 x2 : Int32) (h0 : Heap) (n0 : Nat) (Z0 : n0 ≤ h0.size) (hr : x2 = (1 : Int32) ∨ x2 = (2 : Int32) ∨ x2 = (3 : Int32) ∨ x2 = (4 : Int32) ∨ x2 = (5 : Int32) ∨ x2 = (6 : Int32) ∨ x2 = (7 : Int32) ∨ x2 = (8 : Int32)) (h1 : x2 = (1 : Int32) → (¬ (x0 < (1 : Int32))) ∧ (¬ (x1 < (1 : Int32))) ∧ (((1 : Int32) - (2 : Int32)) < (r3 x1))) (h2 : x2 = (2 : Int32) → (¬ (x0 < (1 : Int32))) ∧ (¬ (x1 < (1 : Int32))) ∧ ((0 : Int32) < (r3 x1)) ∧ (¬ (x0 < (1 : Int32)))) (h3 : x2 = (3 : Int32) → (¬ (x0 < (1 : Int32))) ∧ (¬ (x1 < (1 : Int32))) ∧ ((1 : Int32) < (r3 x1)) ∧ (¬ (((2 : Int32) * x1) < (1 : Int32))) ∧ (¬ (x0 < (1 : Int32)))) (h4 : x2 = (4 : Int32) → (¬ (x0 < (1 : Int32))) ∧ (¬ (x1 < (1 : Int32))) ∧ ((2 : Int32) < (r3 x1)) ∧ (¬ (((2 : Int32) * x1) < (1 : Int32))) ∧ (¬ (((2 : Int32) * ((2 : Int32) * x1)) < (1 : Int32))) ∧ (¬ (x0 < (1 : Int32)))) (h5 : x2 = (5 : Int32) → (¬ (x0 < (1 : Int32))) ∧ (¬ (x1 < (1 : Int32))) ∧ ((3 : Int32) < (r3 x1)) ∧ (¬ (((2 : Int32) * x1) < (1 : Int32))) ∧ (¬ (((2 : Int32) * ((2 : Int32) * x1)) < (1 : Int32))) ∧ (¬ (((2 : Int32) * ((2 : Int32) * ((2 : Int32) * x1))) < (1 : Int32))) ∧ (¬ (x0 < (1 : Int32)))) (h6 : x2 = (6 : Int32) → (¬ (x0 < (1 : Int32))) ∧ (¬ (x1 < (1 : Int32))) ∧ ((4 : Int32) < (r3 x1)) ∧ (¬ (((2 : Int32) * x1) < (1 : Int32))) ∧ (¬ (((2 : Int32) * ((2 : Int32) * x1)) < (1 : Int32))) ∧ (¬ (((2 : Int32) * ((2 : Int32) * ((2 : Int32) * x1))) < (1 : Int32))) ∧ (¬ (((2 : Int32) * ((2 : Int32) * ((2 : Int32) * ((2 : Int32) * x1)))) < (1 : Int32))) ∧ (¬ (x0 < (1 : Int32)))) (h7 : x2 = (7 : Int32) → (¬ (x0 < (1 : Int32))) ∧ (¬ (x1 < (1 : Int32))) ∧ ((5 : Int32) < (r3 x1)) ∧ (¬ (((2 : Int32) * x1) < (1 : Int32))) ∧ (¬ (((2 : Int32) * ((2 : Int32) * x1)) < (1 : Int32))) ∧ (¬ (((2 : Int32) * ((2 : Int32) * ((2 : Int32) * x1))) < (1 : Int32))) ∧ (¬ (((2 : Int32) * ((2 : Int32) * ((2 : Int32) * ((2 : Int32) * x1)))) < (1 : Int32))) ∧ (¬ (((2 : Int32) * ((2 : Int32) * ((2 : Int32) * ((2 : Int32) * ((2 : Int32) * x1))))) < (1 : Int32))) ∧ (¬ (x0 < (1 : Int32)))) (h8 : x2 = (8 : Int32) → (¬ (x0 < (1 : Int32))) ∧ (¬ (x1 < (1 : Int32))) ∧ ((6 : Int32) < (r3 x1)) ∧ (¬ (((2 : Int32) * x1) < (1 : Int32))) ∧ (¬ (((2 : Int32) * ((2 : Int32) * x1)) < (1 : Int32))) ∧ (¬ (((2 : Int32) * ((2 : Int32) * ((2 : Int32) * x1))) < (1 : Int32))) ∧ (¬ (((2 : Int32) * ((2 : Int32) * ((2 : Int32) * ((2 : Int32) * x1)))) < (1 : Int32))) ∧ (¬ (((2 : Int32) * ((2 : Int32) * ((2 : Int32) * ((2 : Int32) * ((2 : Int32) * x1))))) < (1 : Int32))) ∧ (¬ (((2 : Int32) * ((2 : Int32) * ((2 : Int32) * ((2 : Int32) * ((2 : Int32) * ((2 : Int32) * x1)))))) < (1 : Int32))) ∧ (¬ (x0 < (1 : Int32)))) :
    MetFree l ym7 (head1 (Jvm.Cond.code ym7 prog_4_method_3_code 6 (some (.array .long)) :: ws) ({ frames := 2, cells := 2, slots := 16, locals := 40 } : Room)) (fun a U => a = #[(.int x0), (.int x1), (.int x2)] ∧ Z.Warmed39 U.vm ∧ U.heap = h0) (fun _ _ _ _ _ => True) (fun _ U o U' => ∃ v L, o = .returned v ∧ Q9 Z x0 x1 x2 h0 n0 v U'.heap L ∧ FrameEnd U o U' L ({ frames := 2, cells := 2, slots := 16, locals := 40 } : Room).cells ({ frames := 2, cells := 2, slots := 16, locals := 40 } : Room).slots) := by
  rcases hr with rfl | rfl | rfl | rfl | rfl | rfl | rfl | rfl
  · obtain ⟨q0, q1, q2⟩ := h1 rfl
    exact rm91 l Z a0 hw ws x0 x1 h0 n0 Z0 q0 q1 q2
  · obtain ⟨q0, q1, q2, q3⟩ := h2 rfl
    exact rm92 l Z a0 hw ws x0 x1 h0 n0 Z0 q0 q1 q2 q3
  · obtain ⟨q0, q1, q2, q3, q4⟩ := h3 rfl
    exact rm93 l Z a0 hw ws x0 x1 h0 n0 Z0 q0 q1 q2 q3 q4
  · obtain ⟨q0, q1, q2, q3, q4, q5⟩ := h4 rfl
    exact rm94 l Z a0 hw ws x0 x1 h0 n0 Z0 q0 q1 q2 q3 q4 q5
  · obtain ⟨q0, q1, q2, q3, q4, q5, q6⟩ := h5 rfl
    exact rm95 l Z a0 hw ws x0 x1 h0 n0 Z0 q0 q1 q2 q3 q4 q5 q6
  · obtain ⟨q0, q1, q2, q3, q4, q5, q6, q7⟩ := h6 rfl
    exact rm96 l Z a0 hw ws x0 x1 h0 n0 Z0 q0 q1 q2 q3 q4 q5 q6 q7
  · obtain ⟨q0, q1, q2, q3, q4, q5, q6, q7, q8⟩ := h7 rfl
    exact rm97 l Z a0 hw ws x0 x1 h0 n0 Z0 q0 q1 q2 q3 q4 q5 q6 q7 q8
  · obtain ⟨q0, q1, q2, q3, q4, q5, q6, q7, q8, q9⟩ := h8 rfl
    exact rm98 l Z a0 hw ws x0 x1 h0 n0 Z0 q0 q1 q2 q3 q4 q5 q6 q7 q8 q9
def own_z (x0 x1 x2 : Int32) (i : Nat) : Int64 := match (own_spans x0 x1 x2).getD i (.long (0 : Int64)) with | .long z => z | _ => 0
theorem own_allL : ∀ (L : List Value), (∀ v ∈ L, ∃ z, v = Value.long z) → ∀ i, ∃ z, L.getD i (.long (0 : Int64)) = .long z
  | [], _, i => ⟨0, by simp⟩
  | v :: r, h, 0 => by obtain ⟨z, rfl⟩ := h v (by simp); exact ⟨z, by simp⟩
  | v :: r, h, i + 1 => by obtain ⟨z, e⟩ := own_allL r (fun w hw => h w (by simp [hw])) i; exact ⟨z, by simpa using e⟩
theorem own_hz (x0 x1 x2 : Int32) (i : Nat) : (own_spans x0 x1 x2).getD i (.long (0 : Int64)) = .long (own_z x0 x1 x2 i) := by
  have h : ∀ v ∈ own_spans x0 x1 x2, ∃ z, v = Value.long z := by
    unfold own_spans
    repeat' split
    all_goals (intro v hv; simp only [List.mem_cons, List.not_mem_nil, or_false] at hv; repeat' (first | (rcases hv with rfl | hv; exact ⟨_, rfl⟩) | (subst hv; exact ⟨_, rfl⟩)))
  obtain ⟨z, e⟩ := own_allL _ h i
  unfold own_z
  rw [e]
theorem pn0 : plainName "com/example/eriu/eriu/algorithm/GroupElectionRoundSpansPinLaw" = true := by first | (simp [plainName, overriddenIn]; done) | decide +kernel
theorem pd0_0 : parseMethodDescriptor "(II)I" = some ⟨[.int, .int], some .int⟩ := by decide +kernel
theorem pd0_1 : parseMethodDescriptor "(III)[J" = some ⟨[.int, .int, .int], some (.array .long)⟩ := by decide +kernel
theorem pd0_2 : parseMethodDescriptor "([JIIII)Z" = some ⟨[(.array .long), .int, .int, .int, .int], some .boolean⟩ := by decide +kernel
theorem ef0 (m : MethodId) (x0 : Int32) (x1 : Int32) (x2 : Int32) : entryFrame m #[(.int x0), (.int x1), (.int x2)] maxLocals = (mkF m 0 #[iv x0, iv x1, iv x2, .unset, .unset, .unset, .unset] []) := by first | (simp [entryFrame, mkF, argsToLocals, Value.category, maxLocals]; done) | rfl
def c0_5_0 (x0 : Int32) (x1 : Int32) (x2 : Int32) : Int32 := (x0 &&& (2147483647 : Int32))
def w0_8 (x0 : Int32) (x1 : Int32) (x2 : Int32) : Int32 := (r1 (1 : Int32) (c0_5_0 x0 x1 x2))
def w0_15 (x0 : Int32) (x1 : Int32) (x2 : Int32) : Int32 := ((1 : Int32) + (x2 &&& (7 : Int32)))
def c0_27_0 (x0 : Int32) (x1 : Int32) (x2 : Int32) : Int32 := ((w0_15 x0 x1 x2) - (2 : Int32))
def c0_31_0 (x0 : Int32) (x1 : Int32) (x2 : Int32) : Int32 := (((x1 &&& (2147483647 : Int32)).toUInt32 >>> ((r1 (0 : Int32) (c0_27_0 x0 x1 x2)) &&& 31).toUInt32).toInt32)
def w0_34 (x0 : Int32) (x1 : Int32) (x2 : Int32) : Int32 := (r1 (1 : Int32) (c0_31_0 x0 x1 x2))
def r0 (x0 : Int32) (x1 : Int32) (x2 : Int32) : Int32 := (if (rA (0 : Int32) (w0_15 x0 x1 x2) (w0_8 x0 x1 x2) (w0_34 x0 x1 x2) (own_z (w0_8 x0 x1 x2) (w0_34 x0 x1 x2) (w0_15 x0 x1 x2) 0)) = (0 : Int32) then (0 : Int32) else (if (rA (1 : Int32) (w0_15 x0 x1 x2) (w0_8 x0 x1 x2) (w0_34 x0 x1 x2) (own_z (w0_8 x0 x1 x2) (w0_34 x0 x1 x2) (w0_15 x0 x1 x2) 1)) = (0 : Int32) then (0 : Int32) else (if (rA (2 : Int32) (w0_15 x0 x1 x2) (w0_8 x0 x1 x2) (w0_34 x0 x1 x2) (own_z (w0_8 x0 x1 x2) (w0_34 x0 x1 x2) (w0_15 x0 x1 x2) 2)) = (0 : Int32) then (0 : Int32) else (if (rA (3 : Int32) (w0_15 x0 x1 x2) (w0_8 x0 x1 x2) (w0_34 x0 x1 x2) (own_z (w0_8 x0 x1 x2) (w0_34 x0 x1 x2) (w0_15 x0 x1 x2) 3)) = (0 : Int32) then (0 : Int32) else (if (rA (4 : Int32) (w0_15 x0 x1 x2) (w0_8 x0 x1 x2) (w0_34 x0 x1 x2) (own_z (w0_8 x0 x1 x2) (w0_34 x0 x1 x2) (w0_15 x0 x1 x2) 4)) = (0 : Int32) then (0 : Int32) else (if (rA (5 : Int32) (w0_15 x0 x1 x2) (w0_8 x0 x1 x2) (w0_34 x0 x1 x2) (own_z (w0_8 x0 x1 x2) (w0_34 x0 x1 x2) (w0_15 x0 x1 x2) 5)) = (0 : Int32) then (0 : Int32) else (if (rA (6 : Int32) (w0_15 x0 x1 x2) (w0_8 x0 x1 x2) (w0_34 x0 x1 x2) (own_z (w0_8 x0 x1 x2) (w0_34 x0 x1 x2) (w0_15 x0 x1 x2) 6)) = (0 : Int32) then (0 : Int32) else (if (rA (7 : Int32) (w0_15 x0 x1 x2) (w0_8 x0 x1 x2) (w0_34 x0 x1 x2) (own_z (w0_8 x0 x1 x2) (w0_34 x0 x1 x2) (w0_15 x0 x1 x2) 7)) = (0 : Int32) then (0 : Int32) else (1 : Int32)))))))))
theorem own_us {x : Int32} {a : Int} (hx : x.toInt = a) (h0 : 0 ≤ a) {n : UInt32} {k : Nat} (hn : n.toNat = k) (hk : k < 32) {d : Int} (hd : (2 : Int) ^ k = d) : ((x.toUInt32 >>> n).toInt32).toInt = a / d := by
  rw [Jvm.Kit.i32_iushr (by rw [Jvm.Kit.i32_nonneg, hx]; exact h0) hn hk, hx, hd]
theorem own_n1 (x0 : Int32) {I : Int} (hI : x0.toInt = I) (h1 : 1 ≤ I) (h2 : I < 2) : r3 x0 = 31 := by
  have g0 : (0 : Int32) < x0 := (own_lt32 (show (0 : Int32).toInt = 0 by decide) hI).mpr (by omega)
  have a0 : j3_33_0 x0 = x0 := if_pos ((own_lt32 hI (show (65536 : Int32).toInt = 65536 by decide)).mpr (by omega))
  have a1 : j3_33_1 x0 = 31 := if_pos ((own_lt32 hI (show (65536 : Int32).toInt = 65536 by decide)).mpr (by omega))
  obtain ⟨V0, hV0, v0⟩ : ∃ V, (j3_33_0 x0).toInt = V ∧ V = I := ⟨I, by rw [a0]; exact hI, rfl⟩
  have c0 : j3_33_0 x0 < (256 : Int32) := (own_lt32 hV0 (show (256 : Int32).toInt = 256 by decide)).mpr (by omega)
  obtain ⟨V1, hV1, v1⟩ : ∃ V, (j3_48_0 x0).toInt = V ∧ V = V0 := ⟨V0, by rw [show j3_48_0 x0 = j3_33_0 x0 from if_pos c0]; exact hV0, rfl⟩
  have b0 : j3_48_1 x0 = 31 := (if_pos c0).trans a1
  have c1 : j3_48_0 x0 < (16 : Int32) := (own_lt32 hV1 (show (16 : Int32).toInt = 16 by decide)).mpr (by omega)
  obtain ⟨V2, hV2, v2⟩ : ∃ V, (j3_61_0 x0).toInt = V ∧ V = V1 := ⟨V1, by rw [show j3_61_0 x0 = j3_48_0 x0 from if_pos c1]; exact hV1, rfl⟩
  have b1 : j3_61_1 x0 = 31 := (if_pos c1).trans b0
  have c2 : j3_61_0 x0 < (4 : Int32) := (own_lt32 hV2 (show (4 : Int32).toInt = 4 by decide)).mpr (by omega)
  obtain ⟨V3, hV3, v3⟩ : ∃ V, (j3_73_0 x0).toInt = V ∧ V = V2 := ⟨V2, by rw [show j3_73_0 x0 = j3_61_0 x0 from if_pos c2]; exact hV2, rfl⟩
  have b2 : j3_73_1 x0 = 31 := (if_pos c2).trans b1
  have f := own_us hV3 (by omega) (n := ((1 : Int32) &&& 31).toUInt32) (k := 1) (by decide) (by decide) (d := 2) (by decide)
  have f1 : ((((j3_73_0 x0).toUInt32 >>> ((1 : Int32) &&& 31).toUInt32).toInt32)) = (0 : Int32) := (own_eq32 f (show (0 : Int32).toInt = 0 by decide)).mpr (by omega)
  refine (if_pos g0).trans ?_
  rw [b2, f1]; rfl
theorem own_n2 (x0 : Int32) {I : Int} (hI : x0.toInt = I) (h1 : 2 ≤ I) (h2 : I < 4) : r3 x0 = 30 := by
  have g0 : (0 : Int32) < x0 := (own_lt32 (show (0 : Int32).toInt = 0 by decide) hI).mpr (by omega)
  have a0 : j3_33_0 x0 = x0 := if_pos ((own_lt32 hI (show (65536 : Int32).toInt = 65536 by decide)).mpr (by omega))
  have a1 : j3_33_1 x0 = 31 := if_pos ((own_lt32 hI (show (65536 : Int32).toInt = 65536 by decide)).mpr (by omega))
  obtain ⟨V0, hV0, v0⟩ : ∃ V, (j3_33_0 x0).toInt = V ∧ V = I := ⟨I, by rw [a0]; exact hI, rfl⟩
  have c0 : j3_33_0 x0 < (256 : Int32) := (own_lt32 hV0 (show (256 : Int32).toInt = 256 by decide)).mpr (by omega)
  obtain ⟨V1, hV1, v1⟩ : ∃ V, (j3_48_0 x0).toInt = V ∧ V = V0 := ⟨V0, by rw [show j3_48_0 x0 = j3_33_0 x0 from if_pos c0]; exact hV0, rfl⟩
  have b0 : j3_48_1 x0 = 31 := (if_pos c0).trans a1
  have c1 : j3_48_0 x0 < (16 : Int32) := (own_lt32 hV1 (show (16 : Int32).toInt = 16 by decide)).mpr (by omega)
  obtain ⟨V2, hV2, v2⟩ : ∃ V, (j3_61_0 x0).toInt = V ∧ V = V1 := ⟨V1, by rw [show j3_61_0 x0 = j3_48_0 x0 from if_pos c1]; exact hV1, rfl⟩
  have b1 : j3_61_1 x0 = 31 := (if_pos c1).trans b0
  have c2 : j3_61_0 x0 < (4 : Int32) := (own_lt32 hV2 (show (4 : Int32).toInt = 4 by decide)).mpr (by omega)
  obtain ⟨V3, hV3, v3⟩ : ∃ V, (j3_73_0 x0).toInt = V ∧ V = V2 := ⟨V2, by rw [show j3_73_0 x0 = j3_61_0 x0 from if_pos c2]; exact hV2, rfl⟩
  have b2 : j3_73_1 x0 = 31 := (if_pos c2).trans b1
  have f := own_us hV3 (by omega) (n := ((1 : Int32) &&& 31).toUInt32) (k := 1) (by decide) (by decide) (d := 2) (by decide)
  have f1 : ((((j3_73_0 x0).toUInt32 >>> ((1 : Int32) &&& 31).toUInt32).toInt32)) = (1 : Int32) := (own_eq32 f (show (1 : Int32).toInt = 1 by decide)).mpr (by omega)
  refine (if_pos g0).trans ?_
  rw [b2, f1]; rfl
theorem own_n3 (x0 : Int32) {I : Int} (hI : x0.toInt = I) (h1 : 4 ≤ I) (h2 : I < 8) : r3 x0 = 29 := by
  have g0 : (0 : Int32) < x0 := (own_lt32 (show (0 : Int32).toInt = 0 by decide) hI).mpr (by omega)
  have a0 : j3_33_0 x0 = x0 := if_pos ((own_lt32 hI (show (65536 : Int32).toInt = 65536 by decide)).mpr (by omega))
  have a1 : j3_33_1 x0 = 31 := if_pos ((own_lt32 hI (show (65536 : Int32).toInt = 65536 by decide)).mpr (by omega))
  obtain ⟨V0, hV0, v0⟩ : ∃ V, (j3_33_0 x0).toInt = V ∧ V = I := ⟨I, by rw [a0]; exact hI, rfl⟩
  have c0 : j3_33_0 x0 < (256 : Int32) := (own_lt32 hV0 (show (256 : Int32).toInt = 256 by decide)).mpr (by omega)
  obtain ⟨V1, hV1, v1⟩ : ∃ V, (j3_48_0 x0).toInt = V ∧ V = V0 := ⟨V0, by rw [show j3_48_0 x0 = j3_33_0 x0 from if_pos c0]; exact hV0, rfl⟩
  have b0 : j3_48_1 x0 = 31 := (if_pos c0).trans a1
  have c1 : j3_48_0 x0 < (16 : Int32) := (own_lt32 hV1 (show (16 : Int32).toInt = 16 by decide)).mpr (by omega)
  obtain ⟨V2, hV2, v2⟩ : ∃ V, (j3_61_0 x0).toInt = V ∧ V = V1 := ⟨V1, by rw [show j3_61_0 x0 = j3_48_0 x0 from if_pos c1]; exact hV1, rfl⟩
  have b1 : j3_61_1 x0 = 31 := (if_pos c1).trans b0
  have c2 : ¬ j3_61_0 x0 < (4 : Int32) := fun q => by have := (own_lt32 hV2 (show (4 : Int32).toInt = 4 by decide)).mp q; omega
  obtain ⟨V3, hV3, v3⟩ : ∃ V, (j3_73_0 x0).toInt = V ∧ V = V2 / 4 := ⟨_, by rw [show j3_73_0 x0 = w3_72 x0 from if_neg c2]; exact own_us hV2 (by omega) (n := ((2 : Int32) &&& 31).toUInt32) (k := 2) (by decide) (by decide) (by decide), rfl⟩
  have b2 : j3_73_1 x0 = 29 := (if_neg c2).trans (by show j3_61_1 x0 + Int32.ofInt (-2) = _; rw [b1]; rfl)
  have f := own_us hV3 (by omega) (n := ((1 : Int32) &&& 31).toUInt32) (k := 1) (by decide) (by decide) (d := 2) (by decide)
  have f1 : ((((j3_73_0 x0).toUInt32 >>> ((1 : Int32) &&& 31).toUInt32).toInt32)) = (0 : Int32) := (own_eq32 f (show (0 : Int32).toInt = 0 by decide)).mpr (by omega)
  refine (if_pos g0).trans ?_
  rw [b2, f1]; rfl
theorem own_n4 (x0 : Int32) {I : Int} (hI : x0.toInt = I) (h1 : 8 ≤ I) (h2 : I < 16) : r3 x0 = 28 := by
  have g0 : (0 : Int32) < x0 := (own_lt32 (show (0 : Int32).toInt = 0 by decide) hI).mpr (by omega)
  have a0 : j3_33_0 x0 = x0 := if_pos ((own_lt32 hI (show (65536 : Int32).toInt = 65536 by decide)).mpr (by omega))
  have a1 : j3_33_1 x0 = 31 := if_pos ((own_lt32 hI (show (65536 : Int32).toInt = 65536 by decide)).mpr (by omega))
  obtain ⟨V0, hV0, v0⟩ : ∃ V, (j3_33_0 x0).toInt = V ∧ V = I := ⟨I, by rw [a0]; exact hI, rfl⟩
  have c0 : j3_33_0 x0 < (256 : Int32) := (own_lt32 hV0 (show (256 : Int32).toInt = 256 by decide)).mpr (by omega)
  obtain ⟨V1, hV1, v1⟩ : ∃ V, (j3_48_0 x0).toInt = V ∧ V = V0 := ⟨V0, by rw [show j3_48_0 x0 = j3_33_0 x0 from if_pos c0]; exact hV0, rfl⟩
  have b0 : j3_48_1 x0 = 31 := (if_pos c0).trans a1
  have c1 : j3_48_0 x0 < (16 : Int32) := (own_lt32 hV1 (show (16 : Int32).toInt = 16 by decide)).mpr (by omega)
  obtain ⟨V2, hV2, v2⟩ : ∃ V, (j3_61_0 x0).toInt = V ∧ V = V1 := ⟨V1, by rw [show j3_61_0 x0 = j3_48_0 x0 from if_pos c1]; exact hV1, rfl⟩
  have b1 : j3_61_1 x0 = 31 := (if_pos c1).trans b0
  have c2 : ¬ j3_61_0 x0 < (4 : Int32) := fun q => by have := (own_lt32 hV2 (show (4 : Int32).toInt = 4 by decide)).mp q; omega
  obtain ⟨V3, hV3, v3⟩ : ∃ V, (j3_73_0 x0).toInt = V ∧ V = V2 / 4 := ⟨_, by rw [show j3_73_0 x0 = w3_72 x0 from if_neg c2]; exact own_us hV2 (by omega) (n := ((2 : Int32) &&& 31).toUInt32) (k := 2) (by decide) (by decide) (by decide), rfl⟩
  have b2 : j3_73_1 x0 = 29 := (if_neg c2).trans (by show j3_61_1 x0 + Int32.ofInt (-2) = _; rw [b1]; rfl)
  have f := own_us hV3 (by omega) (n := ((1 : Int32) &&& 31).toUInt32) (k := 1) (by decide) (by decide) (d := 2) (by decide)
  have f1 : ((((j3_73_0 x0).toUInt32 >>> ((1 : Int32) &&& 31).toUInt32).toInt32)) = (1 : Int32) := (own_eq32 f (show (1 : Int32).toInt = 1 by decide)).mpr (by omega)
  refine (if_pos g0).trans ?_
  rw [b2, f1]; rfl
theorem own_n5 (x0 : Int32) {I : Int} (hI : x0.toInt = I) (h1 : 16 ≤ I) (h2 : I < 32) : r3 x0 = 27 := by
  have g0 : (0 : Int32) < x0 := (own_lt32 (show (0 : Int32).toInt = 0 by decide) hI).mpr (by omega)
  have a0 : j3_33_0 x0 = x0 := if_pos ((own_lt32 hI (show (65536 : Int32).toInt = 65536 by decide)).mpr (by omega))
  have a1 : j3_33_1 x0 = 31 := if_pos ((own_lt32 hI (show (65536 : Int32).toInt = 65536 by decide)).mpr (by omega))
  obtain ⟨V0, hV0, v0⟩ : ∃ V, (j3_33_0 x0).toInt = V ∧ V = I := ⟨I, by rw [a0]; exact hI, rfl⟩
  have c0 : j3_33_0 x0 < (256 : Int32) := (own_lt32 hV0 (show (256 : Int32).toInt = 256 by decide)).mpr (by omega)
  obtain ⟨V1, hV1, v1⟩ : ∃ V, (j3_48_0 x0).toInt = V ∧ V = V0 := ⟨V0, by rw [show j3_48_0 x0 = j3_33_0 x0 from if_pos c0]; exact hV0, rfl⟩
  have b0 : j3_48_1 x0 = 31 := (if_pos c0).trans a1
  have c1 : ¬ j3_48_0 x0 < (16 : Int32) := fun q => by have := (own_lt32 hV1 (show (16 : Int32).toInt = 16 by decide)).mp q; omega
  obtain ⟨V2, hV2, v2⟩ : ∃ V, (j3_61_0 x0).toInt = V ∧ V = V1 / 16 := ⟨_, by rw [show j3_61_0 x0 = w3_60 x0 from if_neg c1]; exact own_us hV1 (by omega) (n := ((4 : Int32) &&& 31).toUInt32) (k := 4) (by decide) (by decide) (by decide), rfl⟩
  have b1 : j3_61_1 x0 = 27 := (if_neg c1).trans (by show j3_48_1 x0 + Int32.ofInt (-4) = _; rw [b0]; rfl)
  have c2 : j3_61_0 x0 < (4 : Int32) := (own_lt32 hV2 (show (4 : Int32).toInt = 4 by decide)).mpr (by omega)
  obtain ⟨V3, hV3, v3⟩ : ∃ V, (j3_73_0 x0).toInt = V ∧ V = V2 := ⟨V2, by rw [show j3_73_0 x0 = j3_61_0 x0 from if_pos c2]; exact hV2, rfl⟩
  have b2 : j3_73_1 x0 = 27 := (if_pos c2).trans b1
  have f := own_us hV3 (by omega) (n := ((1 : Int32) &&& 31).toUInt32) (k := 1) (by decide) (by decide) (d := 2) (by decide)
  have f1 : ((((j3_73_0 x0).toUInt32 >>> ((1 : Int32) &&& 31).toUInt32).toInt32)) = (0 : Int32) := (own_eq32 f (show (0 : Int32).toInt = 0 by decide)).mpr (by omega)
  refine (if_pos g0).trans ?_
  rw [b2, f1]; rfl
theorem own_n6 (x0 : Int32) {I : Int} (hI : x0.toInt = I) (h1 : 32 ≤ I) (h2 : I < 64) : r3 x0 = 26 := by
  have g0 : (0 : Int32) < x0 := (own_lt32 (show (0 : Int32).toInt = 0 by decide) hI).mpr (by omega)
  have a0 : j3_33_0 x0 = x0 := if_pos ((own_lt32 hI (show (65536 : Int32).toInt = 65536 by decide)).mpr (by omega))
  have a1 : j3_33_1 x0 = 31 := if_pos ((own_lt32 hI (show (65536 : Int32).toInt = 65536 by decide)).mpr (by omega))
  obtain ⟨V0, hV0, v0⟩ : ∃ V, (j3_33_0 x0).toInt = V ∧ V = I := ⟨I, by rw [a0]; exact hI, rfl⟩
  have c0 : j3_33_0 x0 < (256 : Int32) := (own_lt32 hV0 (show (256 : Int32).toInt = 256 by decide)).mpr (by omega)
  obtain ⟨V1, hV1, v1⟩ : ∃ V, (j3_48_0 x0).toInt = V ∧ V = V0 := ⟨V0, by rw [show j3_48_0 x0 = j3_33_0 x0 from if_pos c0]; exact hV0, rfl⟩
  have b0 : j3_48_1 x0 = 31 := (if_pos c0).trans a1
  have c1 : ¬ j3_48_0 x0 < (16 : Int32) := fun q => by have := (own_lt32 hV1 (show (16 : Int32).toInt = 16 by decide)).mp q; omega
  obtain ⟨V2, hV2, v2⟩ : ∃ V, (j3_61_0 x0).toInt = V ∧ V = V1 / 16 := ⟨_, by rw [show j3_61_0 x0 = w3_60 x0 from if_neg c1]; exact own_us hV1 (by omega) (n := ((4 : Int32) &&& 31).toUInt32) (k := 4) (by decide) (by decide) (by decide), rfl⟩
  have b1 : j3_61_1 x0 = 27 := (if_neg c1).trans (by show j3_48_1 x0 + Int32.ofInt (-4) = _; rw [b0]; rfl)
  have c2 : j3_61_0 x0 < (4 : Int32) := (own_lt32 hV2 (show (4 : Int32).toInt = 4 by decide)).mpr (by omega)
  obtain ⟨V3, hV3, v3⟩ : ∃ V, (j3_73_0 x0).toInt = V ∧ V = V2 := ⟨V2, by rw [show j3_73_0 x0 = j3_61_0 x0 from if_pos c2]; exact hV2, rfl⟩
  have b2 : j3_73_1 x0 = 27 := (if_pos c2).trans b1
  have f := own_us hV3 (by omega) (n := ((1 : Int32) &&& 31).toUInt32) (k := 1) (by decide) (by decide) (d := 2) (by decide)
  have f1 : ((((j3_73_0 x0).toUInt32 >>> ((1 : Int32) &&& 31).toUInt32).toInt32)) = (1 : Int32) := (own_eq32 f (show (1 : Int32).toInt = 1 by decide)).mpr (by omega)
  refine (if_pos g0).trans ?_
  rw [b2, f1]; rfl
theorem own_n7 (x0 : Int32) {I : Int} (hI : x0.toInt = I) (h1 : 64 ≤ I) (h2 : I < 128) : r3 x0 = 25 := by
  have g0 : (0 : Int32) < x0 := (own_lt32 (show (0 : Int32).toInt = 0 by decide) hI).mpr (by omega)
  have a0 : j3_33_0 x0 = x0 := if_pos ((own_lt32 hI (show (65536 : Int32).toInt = 65536 by decide)).mpr (by omega))
  have a1 : j3_33_1 x0 = 31 := if_pos ((own_lt32 hI (show (65536 : Int32).toInt = 65536 by decide)).mpr (by omega))
  obtain ⟨V0, hV0, v0⟩ : ∃ V, (j3_33_0 x0).toInt = V ∧ V = I := ⟨I, by rw [a0]; exact hI, rfl⟩
  have c0 : j3_33_0 x0 < (256 : Int32) := (own_lt32 hV0 (show (256 : Int32).toInt = 256 by decide)).mpr (by omega)
  obtain ⟨V1, hV1, v1⟩ : ∃ V, (j3_48_0 x0).toInt = V ∧ V = V0 := ⟨V0, by rw [show j3_48_0 x0 = j3_33_0 x0 from if_pos c0]; exact hV0, rfl⟩
  have b0 : j3_48_1 x0 = 31 := (if_pos c0).trans a1
  have c1 : ¬ j3_48_0 x0 < (16 : Int32) := fun q => by have := (own_lt32 hV1 (show (16 : Int32).toInt = 16 by decide)).mp q; omega
  obtain ⟨V2, hV2, v2⟩ : ∃ V, (j3_61_0 x0).toInt = V ∧ V = V1 / 16 := ⟨_, by rw [show j3_61_0 x0 = w3_60 x0 from if_neg c1]; exact own_us hV1 (by omega) (n := ((4 : Int32) &&& 31).toUInt32) (k := 4) (by decide) (by decide) (by decide), rfl⟩
  have b1 : j3_61_1 x0 = 27 := (if_neg c1).trans (by show j3_48_1 x0 + Int32.ofInt (-4) = _; rw [b0]; rfl)
  have c2 : ¬ j3_61_0 x0 < (4 : Int32) := fun q => by have := (own_lt32 hV2 (show (4 : Int32).toInt = 4 by decide)).mp q; omega
  obtain ⟨V3, hV3, v3⟩ : ∃ V, (j3_73_0 x0).toInt = V ∧ V = V2 / 4 := ⟨_, by rw [show j3_73_0 x0 = w3_72 x0 from if_neg c2]; exact own_us hV2 (by omega) (n := ((2 : Int32) &&& 31).toUInt32) (k := 2) (by decide) (by decide) (by decide), rfl⟩
  have b2 : j3_73_1 x0 = 25 := (if_neg c2).trans (by show j3_61_1 x0 + Int32.ofInt (-2) = _; rw [b1]; rfl)
  have f := own_us hV3 (by omega) (n := ((1 : Int32) &&& 31).toUInt32) (k := 1) (by decide) (by decide) (d := 2) (by decide)
  have f1 : ((((j3_73_0 x0).toUInt32 >>> ((1 : Int32) &&& 31).toUInt32).toInt32)) = (0 : Int32) := (own_eq32 f (show (0 : Int32).toInt = 0 by decide)).mpr (by omega)
  refine (if_pos g0).trans ?_
  rw [b2, f1]; rfl
theorem own_n8 (x0 : Int32) {I : Int} (hI : x0.toInt = I) (h1 : 128 ≤ I) (h2 : I < 256) : r3 x0 = 24 := by
  have g0 : (0 : Int32) < x0 := (own_lt32 (show (0 : Int32).toInt = 0 by decide) hI).mpr (by omega)
  have a0 : j3_33_0 x0 = x0 := if_pos ((own_lt32 hI (show (65536 : Int32).toInt = 65536 by decide)).mpr (by omega))
  have a1 : j3_33_1 x0 = 31 := if_pos ((own_lt32 hI (show (65536 : Int32).toInt = 65536 by decide)).mpr (by omega))
  obtain ⟨V0, hV0, v0⟩ : ∃ V, (j3_33_0 x0).toInt = V ∧ V = I := ⟨I, by rw [a0]; exact hI, rfl⟩
  have c0 : j3_33_0 x0 < (256 : Int32) := (own_lt32 hV0 (show (256 : Int32).toInt = 256 by decide)).mpr (by omega)
  obtain ⟨V1, hV1, v1⟩ : ∃ V, (j3_48_0 x0).toInt = V ∧ V = V0 := ⟨V0, by rw [show j3_48_0 x0 = j3_33_0 x0 from if_pos c0]; exact hV0, rfl⟩
  have b0 : j3_48_1 x0 = 31 := (if_pos c0).trans a1
  have c1 : ¬ j3_48_0 x0 < (16 : Int32) := fun q => by have := (own_lt32 hV1 (show (16 : Int32).toInt = 16 by decide)).mp q; omega
  obtain ⟨V2, hV2, v2⟩ : ∃ V, (j3_61_0 x0).toInt = V ∧ V = V1 / 16 := ⟨_, by rw [show j3_61_0 x0 = w3_60 x0 from if_neg c1]; exact own_us hV1 (by omega) (n := ((4 : Int32) &&& 31).toUInt32) (k := 4) (by decide) (by decide) (by decide), rfl⟩
  have b1 : j3_61_1 x0 = 27 := (if_neg c1).trans (by show j3_48_1 x0 + Int32.ofInt (-4) = _; rw [b0]; rfl)
  have c2 : ¬ j3_61_0 x0 < (4 : Int32) := fun q => by have := (own_lt32 hV2 (show (4 : Int32).toInt = 4 by decide)).mp q; omega
  obtain ⟨V3, hV3, v3⟩ : ∃ V, (j3_73_0 x0).toInt = V ∧ V = V2 / 4 := ⟨_, by rw [show j3_73_0 x0 = w3_72 x0 from if_neg c2]; exact own_us hV2 (by omega) (n := ((2 : Int32) &&& 31).toUInt32) (k := 2) (by decide) (by decide) (by decide), rfl⟩
  have b2 : j3_73_1 x0 = 25 := (if_neg c2).trans (by show j3_61_1 x0 + Int32.ofInt (-2) = _; rw [b1]; rfl)
  have f := own_us hV3 (by omega) (n := ((1 : Int32) &&& 31).toUInt32) (k := 1) (by decide) (by decide) (d := 2) (by decide)
  have f1 : ((((j3_73_0 x0).toUInt32 >>> ((1 : Int32) &&& 31).toUInt32).toInt32)) = (1 : Int32) := (own_eq32 f (show (1 : Int32).toInt = 1 by decide)).mpr (by omega)
  refine (if_pos g0).trans ?_
  rw [b2, f1]; rfl
theorem own_n9 (x0 : Int32) {I : Int} (hI : x0.toInt = I) (h1 : 256 ≤ I) (h2 : I < 512) : r3 x0 = 23 := by
  have g0 : (0 : Int32) < x0 := (own_lt32 (show (0 : Int32).toInt = 0 by decide) hI).mpr (by omega)
  have a0 : j3_33_0 x0 = x0 := if_pos ((own_lt32 hI (show (65536 : Int32).toInt = 65536 by decide)).mpr (by omega))
  have a1 : j3_33_1 x0 = 31 := if_pos ((own_lt32 hI (show (65536 : Int32).toInt = 65536 by decide)).mpr (by omega))
  obtain ⟨V0, hV0, v0⟩ : ∃ V, (j3_33_0 x0).toInt = V ∧ V = I := ⟨I, by rw [a0]; exact hI, rfl⟩
  have c0 : ¬ j3_33_0 x0 < (256 : Int32) := fun q => by have := (own_lt32 hV0 (show (256 : Int32).toInt = 256 by decide)).mp q; omega
  obtain ⟨V1, hV1, v1⟩ : ∃ V, (j3_48_0 x0).toInt = V ∧ V = V0 / 256 := ⟨_, by rw [show j3_48_0 x0 = w3_47 x0 from if_neg c0]; exact own_us hV0 (by omega) (n := ((8 : Int32) &&& 31).toUInt32) (k := 8) (by decide) (by decide) (by decide), rfl⟩
  have b0 : j3_48_1 x0 = 23 := (if_neg c0).trans (by show j3_33_1 x0 + Int32.ofInt (-8) = _; rw [a1]; rfl)
  have c1 : j3_48_0 x0 < (16 : Int32) := (own_lt32 hV1 (show (16 : Int32).toInt = 16 by decide)).mpr (by omega)
  obtain ⟨V2, hV2, v2⟩ : ∃ V, (j3_61_0 x0).toInt = V ∧ V = V1 := ⟨V1, by rw [show j3_61_0 x0 = j3_48_0 x0 from if_pos c1]; exact hV1, rfl⟩
  have b1 : j3_61_1 x0 = 23 := (if_pos c1).trans b0
  have c2 : j3_61_0 x0 < (4 : Int32) := (own_lt32 hV2 (show (4 : Int32).toInt = 4 by decide)).mpr (by omega)
  obtain ⟨V3, hV3, v3⟩ : ∃ V, (j3_73_0 x0).toInt = V ∧ V = V2 := ⟨V2, by rw [show j3_73_0 x0 = j3_61_0 x0 from if_pos c2]; exact hV2, rfl⟩
  have b2 : j3_73_1 x0 = 23 := (if_pos c2).trans b1
  have f := own_us hV3 (by omega) (n := ((1 : Int32) &&& 31).toUInt32) (k := 1) (by decide) (by decide) (d := 2) (by decide)
  have f1 : ((((j3_73_0 x0).toUInt32 >>> ((1 : Int32) &&& 31).toUInt32).toInt32)) = (0 : Int32) := (own_eq32 f (show (0 : Int32).toInt = 0 by decide)).mpr (by omega)
  refine (if_pos g0).trans ?_
  rw [b2, f1]; rfl
theorem own_n10 (x0 : Int32) {I : Int} (hI : x0.toInt = I) (h1 : 512 ≤ I) (h2 : I < 1024) : r3 x0 = 22 := by
  have g0 : (0 : Int32) < x0 := (own_lt32 (show (0 : Int32).toInt = 0 by decide) hI).mpr (by omega)
  have a0 : j3_33_0 x0 = x0 := if_pos ((own_lt32 hI (show (65536 : Int32).toInt = 65536 by decide)).mpr (by omega))
  have a1 : j3_33_1 x0 = 31 := if_pos ((own_lt32 hI (show (65536 : Int32).toInt = 65536 by decide)).mpr (by omega))
  obtain ⟨V0, hV0, v0⟩ : ∃ V, (j3_33_0 x0).toInt = V ∧ V = I := ⟨I, by rw [a0]; exact hI, rfl⟩
  have c0 : ¬ j3_33_0 x0 < (256 : Int32) := fun q => by have := (own_lt32 hV0 (show (256 : Int32).toInt = 256 by decide)).mp q; omega
  obtain ⟨V1, hV1, v1⟩ : ∃ V, (j3_48_0 x0).toInt = V ∧ V = V0 / 256 := ⟨_, by rw [show j3_48_0 x0 = w3_47 x0 from if_neg c0]; exact own_us hV0 (by omega) (n := ((8 : Int32) &&& 31).toUInt32) (k := 8) (by decide) (by decide) (by decide), rfl⟩
  have b0 : j3_48_1 x0 = 23 := (if_neg c0).trans (by show j3_33_1 x0 + Int32.ofInt (-8) = _; rw [a1]; rfl)
  have c1 : j3_48_0 x0 < (16 : Int32) := (own_lt32 hV1 (show (16 : Int32).toInt = 16 by decide)).mpr (by omega)
  obtain ⟨V2, hV2, v2⟩ : ∃ V, (j3_61_0 x0).toInt = V ∧ V = V1 := ⟨V1, by rw [show j3_61_0 x0 = j3_48_0 x0 from if_pos c1]; exact hV1, rfl⟩
  have b1 : j3_61_1 x0 = 23 := (if_pos c1).trans b0
  have c2 : j3_61_0 x0 < (4 : Int32) := (own_lt32 hV2 (show (4 : Int32).toInt = 4 by decide)).mpr (by omega)
  obtain ⟨V3, hV3, v3⟩ : ∃ V, (j3_73_0 x0).toInt = V ∧ V = V2 := ⟨V2, by rw [show j3_73_0 x0 = j3_61_0 x0 from if_pos c2]; exact hV2, rfl⟩
  have b2 : j3_73_1 x0 = 23 := (if_pos c2).trans b1
  have f := own_us hV3 (by omega) (n := ((1 : Int32) &&& 31).toUInt32) (k := 1) (by decide) (by decide) (d := 2) (by decide)
  have f1 : ((((j3_73_0 x0).toUInt32 >>> ((1 : Int32) &&& 31).toUInt32).toInt32)) = (1 : Int32) := (own_eq32 f (show (1 : Int32).toInt = 1 by decide)).mpr (by omega)
  refine (if_pos g0).trans ?_
  rw [b2, f1]; rfl
theorem own_n11 (x0 : Int32) {I : Int} (hI : x0.toInt = I) (h1 : 1024 ≤ I) (h2 : I < 2048) : r3 x0 = 21 := by
  have g0 : (0 : Int32) < x0 := (own_lt32 (show (0 : Int32).toInt = 0 by decide) hI).mpr (by omega)
  have a0 : j3_33_0 x0 = x0 := if_pos ((own_lt32 hI (show (65536 : Int32).toInt = 65536 by decide)).mpr (by omega))
  have a1 : j3_33_1 x0 = 31 := if_pos ((own_lt32 hI (show (65536 : Int32).toInt = 65536 by decide)).mpr (by omega))
  obtain ⟨V0, hV0, v0⟩ : ∃ V, (j3_33_0 x0).toInt = V ∧ V = I := ⟨I, by rw [a0]; exact hI, rfl⟩
  have c0 : ¬ j3_33_0 x0 < (256 : Int32) := fun q => by have := (own_lt32 hV0 (show (256 : Int32).toInt = 256 by decide)).mp q; omega
  obtain ⟨V1, hV1, v1⟩ : ∃ V, (j3_48_0 x0).toInt = V ∧ V = V0 / 256 := ⟨_, by rw [show j3_48_0 x0 = w3_47 x0 from if_neg c0]; exact own_us hV0 (by omega) (n := ((8 : Int32) &&& 31).toUInt32) (k := 8) (by decide) (by decide) (by decide), rfl⟩
  have b0 : j3_48_1 x0 = 23 := (if_neg c0).trans (by show j3_33_1 x0 + Int32.ofInt (-8) = _; rw [a1]; rfl)
  have c1 : j3_48_0 x0 < (16 : Int32) := (own_lt32 hV1 (show (16 : Int32).toInt = 16 by decide)).mpr (by omega)
  obtain ⟨V2, hV2, v2⟩ : ∃ V, (j3_61_0 x0).toInt = V ∧ V = V1 := ⟨V1, by rw [show j3_61_0 x0 = j3_48_0 x0 from if_pos c1]; exact hV1, rfl⟩
  have b1 : j3_61_1 x0 = 23 := (if_pos c1).trans b0
  have c2 : ¬ j3_61_0 x0 < (4 : Int32) := fun q => by have := (own_lt32 hV2 (show (4 : Int32).toInt = 4 by decide)).mp q; omega
  obtain ⟨V3, hV3, v3⟩ : ∃ V, (j3_73_0 x0).toInt = V ∧ V = V2 / 4 := ⟨_, by rw [show j3_73_0 x0 = w3_72 x0 from if_neg c2]; exact own_us hV2 (by omega) (n := ((2 : Int32) &&& 31).toUInt32) (k := 2) (by decide) (by decide) (by decide), rfl⟩
  have b2 : j3_73_1 x0 = 21 := (if_neg c2).trans (by show j3_61_1 x0 + Int32.ofInt (-2) = _; rw [b1]; rfl)
  have f := own_us hV3 (by omega) (n := ((1 : Int32) &&& 31).toUInt32) (k := 1) (by decide) (by decide) (d := 2) (by decide)
  have f1 : ((((j3_73_0 x0).toUInt32 >>> ((1 : Int32) &&& 31).toUInt32).toInt32)) = (0 : Int32) := (own_eq32 f (show (0 : Int32).toInt = 0 by decide)).mpr (by omega)
  refine (if_pos g0).trans ?_
  rw [b2, f1]; rfl
theorem own_n12 (x0 : Int32) {I : Int} (hI : x0.toInt = I) (h1 : 2048 ≤ I) (h2 : I < 4096) : r3 x0 = 20 := by
  have g0 : (0 : Int32) < x0 := (own_lt32 (show (0 : Int32).toInt = 0 by decide) hI).mpr (by omega)
  have a0 : j3_33_0 x0 = x0 := if_pos ((own_lt32 hI (show (65536 : Int32).toInt = 65536 by decide)).mpr (by omega))
  have a1 : j3_33_1 x0 = 31 := if_pos ((own_lt32 hI (show (65536 : Int32).toInt = 65536 by decide)).mpr (by omega))
  obtain ⟨V0, hV0, v0⟩ : ∃ V, (j3_33_0 x0).toInt = V ∧ V = I := ⟨I, by rw [a0]; exact hI, rfl⟩
  have c0 : ¬ j3_33_0 x0 < (256 : Int32) := fun q => by have := (own_lt32 hV0 (show (256 : Int32).toInt = 256 by decide)).mp q; omega
  obtain ⟨V1, hV1, v1⟩ : ∃ V, (j3_48_0 x0).toInt = V ∧ V = V0 / 256 := ⟨_, by rw [show j3_48_0 x0 = w3_47 x0 from if_neg c0]; exact own_us hV0 (by omega) (n := ((8 : Int32) &&& 31).toUInt32) (k := 8) (by decide) (by decide) (by decide), rfl⟩
  have b0 : j3_48_1 x0 = 23 := (if_neg c0).trans (by show j3_33_1 x0 + Int32.ofInt (-8) = _; rw [a1]; rfl)
  have c1 : j3_48_0 x0 < (16 : Int32) := (own_lt32 hV1 (show (16 : Int32).toInt = 16 by decide)).mpr (by omega)
  obtain ⟨V2, hV2, v2⟩ : ∃ V, (j3_61_0 x0).toInt = V ∧ V = V1 := ⟨V1, by rw [show j3_61_0 x0 = j3_48_0 x0 from if_pos c1]; exact hV1, rfl⟩
  have b1 : j3_61_1 x0 = 23 := (if_pos c1).trans b0
  have c2 : ¬ j3_61_0 x0 < (4 : Int32) := fun q => by have := (own_lt32 hV2 (show (4 : Int32).toInt = 4 by decide)).mp q; omega
  obtain ⟨V3, hV3, v3⟩ : ∃ V, (j3_73_0 x0).toInt = V ∧ V = V2 / 4 := ⟨_, by rw [show j3_73_0 x0 = w3_72 x0 from if_neg c2]; exact own_us hV2 (by omega) (n := ((2 : Int32) &&& 31).toUInt32) (k := 2) (by decide) (by decide) (by decide), rfl⟩
  have b2 : j3_73_1 x0 = 21 := (if_neg c2).trans (by show j3_61_1 x0 + Int32.ofInt (-2) = _; rw [b1]; rfl)
  have f := own_us hV3 (by omega) (n := ((1 : Int32) &&& 31).toUInt32) (k := 1) (by decide) (by decide) (d := 2) (by decide)
  have f1 : ((((j3_73_0 x0).toUInt32 >>> ((1 : Int32) &&& 31).toUInt32).toInt32)) = (1 : Int32) := (own_eq32 f (show (1 : Int32).toInt = 1 by decide)).mpr (by omega)
  refine (if_pos g0).trans ?_
  rw [b2, f1]; rfl
theorem own_n13 (x0 : Int32) {I : Int} (hI : x0.toInt = I) (h1 : 4096 ≤ I) (h2 : I < 8192) : r3 x0 = 19 := by
  have g0 : (0 : Int32) < x0 := (own_lt32 (show (0 : Int32).toInt = 0 by decide) hI).mpr (by omega)
  have a0 : j3_33_0 x0 = x0 := if_pos ((own_lt32 hI (show (65536 : Int32).toInt = 65536 by decide)).mpr (by omega))
  have a1 : j3_33_1 x0 = 31 := if_pos ((own_lt32 hI (show (65536 : Int32).toInt = 65536 by decide)).mpr (by omega))
  obtain ⟨V0, hV0, v0⟩ : ∃ V, (j3_33_0 x0).toInt = V ∧ V = I := ⟨I, by rw [a0]; exact hI, rfl⟩
  have c0 : ¬ j3_33_0 x0 < (256 : Int32) := fun q => by have := (own_lt32 hV0 (show (256 : Int32).toInt = 256 by decide)).mp q; omega
  obtain ⟨V1, hV1, v1⟩ : ∃ V, (j3_48_0 x0).toInt = V ∧ V = V0 / 256 := ⟨_, by rw [show j3_48_0 x0 = w3_47 x0 from if_neg c0]; exact own_us hV0 (by omega) (n := ((8 : Int32) &&& 31).toUInt32) (k := 8) (by decide) (by decide) (by decide), rfl⟩
  have b0 : j3_48_1 x0 = 23 := (if_neg c0).trans (by show j3_33_1 x0 + Int32.ofInt (-8) = _; rw [a1]; rfl)
  have c1 : ¬ j3_48_0 x0 < (16 : Int32) := fun q => by have := (own_lt32 hV1 (show (16 : Int32).toInt = 16 by decide)).mp q; omega
  obtain ⟨V2, hV2, v2⟩ : ∃ V, (j3_61_0 x0).toInt = V ∧ V = V1 / 16 := ⟨_, by rw [show j3_61_0 x0 = w3_60 x0 from if_neg c1]; exact own_us hV1 (by omega) (n := ((4 : Int32) &&& 31).toUInt32) (k := 4) (by decide) (by decide) (by decide), rfl⟩
  have b1 : j3_61_1 x0 = 19 := (if_neg c1).trans (by show j3_48_1 x0 + Int32.ofInt (-4) = _; rw [b0]; rfl)
  have c2 : j3_61_0 x0 < (4 : Int32) := (own_lt32 hV2 (show (4 : Int32).toInt = 4 by decide)).mpr (by omega)
  obtain ⟨V3, hV3, v3⟩ : ∃ V, (j3_73_0 x0).toInt = V ∧ V = V2 := ⟨V2, by rw [show j3_73_0 x0 = j3_61_0 x0 from if_pos c2]; exact hV2, rfl⟩
  have b2 : j3_73_1 x0 = 19 := (if_pos c2).trans b1
  have f := own_us hV3 (by omega) (n := ((1 : Int32) &&& 31).toUInt32) (k := 1) (by decide) (by decide) (d := 2) (by decide)
  have f1 : ((((j3_73_0 x0).toUInt32 >>> ((1 : Int32) &&& 31).toUInt32).toInt32)) = (0 : Int32) := (own_eq32 f (show (0 : Int32).toInt = 0 by decide)).mpr (by omega)
  refine (if_pos g0).trans ?_
  rw [b2, f1]; rfl
theorem own_n14 (x0 : Int32) {I : Int} (hI : x0.toInt = I) (h1 : 8192 ≤ I) (h2 : I < 16384) : r3 x0 = 18 := by
  have g0 : (0 : Int32) < x0 := (own_lt32 (show (0 : Int32).toInt = 0 by decide) hI).mpr (by omega)
  have a0 : j3_33_0 x0 = x0 := if_pos ((own_lt32 hI (show (65536 : Int32).toInt = 65536 by decide)).mpr (by omega))
  have a1 : j3_33_1 x0 = 31 := if_pos ((own_lt32 hI (show (65536 : Int32).toInt = 65536 by decide)).mpr (by omega))
  obtain ⟨V0, hV0, v0⟩ : ∃ V, (j3_33_0 x0).toInt = V ∧ V = I := ⟨I, by rw [a0]; exact hI, rfl⟩
  have c0 : ¬ j3_33_0 x0 < (256 : Int32) := fun q => by have := (own_lt32 hV0 (show (256 : Int32).toInt = 256 by decide)).mp q; omega
  obtain ⟨V1, hV1, v1⟩ : ∃ V, (j3_48_0 x0).toInt = V ∧ V = V0 / 256 := ⟨_, by rw [show j3_48_0 x0 = w3_47 x0 from if_neg c0]; exact own_us hV0 (by omega) (n := ((8 : Int32) &&& 31).toUInt32) (k := 8) (by decide) (by decide) (by decide), rfl⟩
  have b0 : j3_48_1 x0 = 23 := (if_neg c0).trans (by show j3_33_1 x0 + Int32.ofInt (-8) = _; rw [a1]; rfl)
  have c1 : ¬ j3_48_0 x0 < (16 : Int32) := fun q => by have := (own_lt32 hV1 (show (16 : Int32).toInt = 16 by decide)).mp q; omega
  obtain ⟨V2, hV2, v2⟩ : ∃ V, (j3_61_0 x0).toInt = V ∧ V = V1 / 16 := ⟨_, by rw [show j3_61_0 x0 = w3_60 x0 from if_neg c1]; exact own_us hV1 (by omega) (n := ((4 : Int32) &&& 31).toUInt32) (k := 4) (by decide) (by decide) (by decide), rfl⟩
  have b1 : j3_61_1 x0 = 19 := (if_neg c1).trans (by show j3_48_1 x0 + Int32.ofInt (-4) = _; rw [b0]; rfl)
  have c2 : j3_61_0 x0 < (4 : Int32) := (own_lt32 hV2 (show (4 : Int32).toInt = 4 by decide)).mpr (by omega)
  obtain ⟨V3, hV3, v3⟩ : ∃ V, (j3_73_0 x0).toInt = V ∧ V = V2 := ⟨V2, by rw [show j3_73_0 x0 = j3_61_0 x0 from if_pos c2]; exact hV2, rfl⟩
  have b2 : j3_73_1 x0 = 19 := (if_pos c2).trans b1
  have f := own_us hV3 (by omega) (n := ((1 : Int32) &&& 31).toUInt32) (k := 1) (by decide) (by decide) (d := 2) (by decide)
  have f1 : ((((j3_73_0 x0).toUInt32 >>> ((1 : Int32) &&& 31).toUInt32).toInt32)) = (1 : Int32) := (own_eq32 f (show (1 : Int32).toInt = 1 by decide)).mpr (by omega)
  refine (if_pos g0).trans ?_
  rw [b2, f1]; rfl
theorem own_n15 (x0 : Int32) {I : Int} (hI : x0.toInt = I) (h1 : 16384 ≤ I) (h2 : I < 32768) : r3 x0 = 17 := by
  have g0 : (0 : Int32) < x0 := (own_lt32 (show (0 : Int32).toInt = 0 by decide) hI).mpr (by omega)
  have a0 : j3_33_0 x0 = x0 := if_pos ((own_lt32 hI (show (65536 : Int32).toInt = 65536 by decide)).mpr (by omega))
  have a1 : j3_33_1 x0 = 31 := if_pos ((own_lt32 hI (show (65536 : Int32).toInt = 65536 by decide)).mpr (by omega))
  obtain ⟨V0, hV0, v0⟩ : ∃ V, (j3_33_0 x0).toInt = V ∧ V = I := ⟨I, by rw [a0]; exact hI, rfl⟩
  have c0 : ¬ j3_33_0 x0 < (256 : Int32) := fun q => by have := (own_lt32 hV0 (show (256 : Int32).toInt = 256 by decide)).mp q; omega
  obtain ⟨V1, hV1, v1⟩ : ∃ V, (j3_48_0 x0).toInt = V ∧ V = V0 / 256 := ⟨_, by rw [show j3_48_0 x0 = w3_47 x0 from if_neg c0]; exact own_us hV0 (by omega) (n := ((8 : Int32) &&& 31).toUInt32) (k := 8) (by decide) (by decide) (by decide), rfl⟩
  have b0 : j3_48_1 x0 = 23 := (if_neg c0).trans (by show j3_33_1 x0 + Int32.ofInt (-8) = _; rw [a1]; rfl)
  have c1 : ¬ j3_48_0 x0 < (16 : Int32) := fun q => by have := (own_lt32 hV1 (show (16 : Int32).toInt = 16 by decide)).mp q; omega
  obtain ⟨V2, hV2, v2⟩ : ∃ V, (j3_61_0 x0).toInt = V ∧ V = V1 / 16 := ⟨_, by rw [show j3_61_0 x0 = w3_60 x0 from if_neg c1]; exact own_us hV1 (by omega) (n := ((4 : Int32) &&& 31).toUInt32) (k := 4) (by decide) (by decide) (by decide), rfl⟩
  have b1 : j3_61_1 x0 = 19 := (if_neg c1).trans (by show j3_48_1 x0 + Int32.ofInt (-4) = _; rw [b0]; rfl)
  have c2 : ¬ j3_61_0 x0 < (4 : Int32) := fun q => by have := (own_lt32 hV2 (show (4 : Int32).toInt = 4 by decide)).mp q; omega
  obtain ⟨V3, hV3, v3⟩ : ∃ V, (j3_73_0 x0).toInt = V ∧ V = V2 / 4 := ⟨_, by rw [show j3_73_0 x0 = w3_72 x0 from if_neg c2]; exact own_us hV2 (by omega) (n := ((2 : Int32) &&& 31).toUInt32) (k := 2) (by decide) (by decide) (by decide), rfl⟩
  have b2 : j3_73_1 x0 = 17 := (if_neg c2).trans (by show j3_61_1 x0 + Int32.ofInt (-2) = _; rw [b1]; rfl)
  have f := own_us hV3 (by omega) (n := ((1 : Int32) &&& 31).toUInt32) (k := 1) (by decide) (by decide) (d := 2) (by decide)
  have f1 : ((((j3_73_0 x0).toUInt32 >>> ((1 : Int32) &&& 31).toUInt32).toInt32)) = (0 : Int32) := (own_eq32 f (show (0 : Int32).toInt = 0 by decide)).mpr (by omega)
  refine (if_pos g0).trans ?_
  rw [b2, f1]; rfl
theorem own_n16 (x0 : Int32) {I : Int} (hI : x0.toInt = I) (h1 : 32768 ≤ I) (h2 : I < 65536) : r3 x0 = 16 := by
  have g0 : (0 : Int32) < x0 := (own_lt32 (show (0 : Int32).toInt = 0 by decide) hI).mpr (by omega)
  have a0 : j3_33_0 x0 = x0 := if_pos ((own_lt32 hI (show (65536 : Int32).toInt = 65536 by decide)).mpr (by omega))
  have a1 : j3_33_1 x0 = 31 := if_pos ((own_lt32 hI (show (65536 : Int32).toInt = 65536 by decide)).mpr (by omega))
  obtain ⟨V0, hV0, v0⟩ : ∃ V, (j3_33_0 x0).toInt = V ∧ V = I := ⟨I, by rw [a0]; exact hI, rfl⟩
  have c0 : ¬ j3_33_0 x0 < (256 : Int32) := fun q => by have := (own_lt32 hV0 (show (256 : Int32).toInt = 256 by decide)).mp q; omega
  obtain ⟨V1, hV1, v1⟩ : ∃ V, (j3_48_0 x0).toInt = V ∧ V = V0 / 256 := ⟨_, by rw [show j3_48_0 x0 = w3_47 x0 from if_neg c0]; exact own_us hV0 (by omega) (n := ((8 : Int32) &&& 31).toUInt32) (k := 8) (by decide) (by decide) (by decide), rfl⟩
  have b0 : j3_48_1 x0 = 23 := (if_neg c0).trans (by show j3_33_1 x0 + Int32.ofInt (-8) = _; rw [a1]; rfl)
  have c1 : ¬ j3_48_0 x0 < (16 : Int32) := fun q => by have := (own_lt32 hV1 (show (16 : Int32).toInt = 16 by decide)).mp q; omega
  obtain ⟨V2, hV2, v2⟩ : ∃ V, (j3_61_0 x0).toInt = V ∧ V = V1 / 16 := ⟨_, by rw [show j3_61_0 x0 = w3_60 x0 from if_neg c1]; exact own_us hV1 (by omega) (n := ((4 : Int32) &&& 31).toUInt32) (k := 4) (by decide) (by decide) (by decide), rfl⟩
  have b1 : j3_61_1 x0 = 19 := (if_neg c1).trans (by show j3_48_1 x0 + Int32.ofInt (-4) = _; rw [b0]; rfl)
  have c2 : ¬ j3_61_0 x0 < (4 : Int32) := fun q => by have := (own_lt32 hV2 (show (4 : Int32).toInt = 4 by decide)).mp q; omega
  obtain ⟨V3, hV3, v3⟩ : ∃ V, (j3_73_0 x0).toInt = V ∧ V = V2 / 4 := ⟨_, by rw [show j3_73_0 x0 = w3_72 x0 from if_neg c2]; exact own_us hV2 (by omega) (n := ((2 : Int32) &&& 31).toUInt32) (k := 2) (by decide) (by decide) (by decide), rfl⟩
  have b2 : j3_73_1 x0 = 17 := (if_neg c2).trans (by show j3_61_1 x0 + Int32.ofInt (-2) = _; rw [b1]; rfl)
  have f := own_us hV3 (by omega) (n := ((1 : Int32) &&& 31).toUInt32) (k := 1) (by decide) (by decide) (d := 2) (by decide)
  have f1 : ((((j3_73_0 x0).toUInt32 >>> ((1 : Int32) &&& 31).toUInt32).toInt32)) = (1 : Int32) := (own_eq32 f (show (1 : Int32).toInt = 1 by decide)).mpr (by omega)
  refine (if_pos g0).trans ?_
  rw [b2, f1]; rfl
theorem own_n17 (x0 : Int32) {I : Int} (hI : x0.toInt = I) (h1 : 65536 ≤ I) (h2 : I < 131072) : r3 x0 = 15 := by
  have g0 : (0 : Int32) < x0 := (own_lt32 (show (0 : Int32).toInt = 0 by decide) hI).mpr (by omega)
  have c : ¬ x0 < (65536 : Int32) := fun q => by have := (own_lt32 hI (show (65536 : Int32).toInt = 65536 by decide)).mp q; omega
  obtain ⟨V0, hV0, v0⟩ : ∃ V, (j3_33_0 x0).toInt = V ∧ V = I / 65536 := ⟨_, by rw [show j3_33_0 x0 = w3_32 x0 from if_neg c]; exact own_us hI (by omega) (n := ((16 : Int32) &&& 31).toUInt32) (k := 16) (by decide) (by decide) (by decide), rfl⟩
  have a1 : j3_33_1 x0 = 15 := if_neg c
  have c0 : j3_33_0 x0 < (256 : Int32) := (own_lt32 hV0 (show (256 : Int32).toInt = 256 by decide)).mpr (by omega)
  obtain ⟨V1, hV1, v1⟩ : ∃ V, (j3_48_0 x0).toInt = V ∧ V = V0 := ⟨V0, by rw [show j3_48_0 x0 = j3_33_0 x0 from if_pos c0]; exact hV0, rfl⟩
  have b0 : j3_48_1 x0 = 15 := (if_pos c0).trans a1
  have c1 : j3_48_0 x0 < (16 : Int32) := (own_lt32 hV1 (show (16 : Int32).toInt = 16 by decide)).mpr (by omega)
  obtain ⟨V2, hV2, v2⟩ : ∃ V, (j3_61_0 x0).toInt = V ∧ V = V1 := ⟨V1, by rw [show j3_61_0 x0 = j3_48_0 x0 from if_pos c1]; exact hV1, rfl⟩
  have b1 : j3_61_1 x0 = 15 := (if_pos c1).trans b0
  have c2 : j3_61_0 x0 < (4 : Int32) := (own_lt32 hV2 (show (4 : Int32).toInt = 4 by decide)).mpr (by omega)
  obtain ⟨V3, hV3, v3⟩ : ∃ V, (j3_73_0 x0).toInt = V ∧ V = V2 := ⟨V2, by rw [show j3_73_0 x0 = j3_61_0 x0 from if_pos c2]; exact hV2, rfl⟩
  have b2 : j3_73_1 x0 = 15 := (if_pos c2).trans b1
  have f := own_us hV3 (by omega) (n := ((1 : Int32) &&& 31).toUInt32) (k := 1) (by decide) (by decide) (d := 2) (by decide)
  have f1 : ((((j3_73_0 x0).toUInt32 >>> ((1 : Int32) &&& 31).toUInt32).toInt32)) = (0 : Int32) := (own_eq32 f (show (0 : Int32).toInt = 0 by decide)).mpr (by omega)
  refine (if_pos g0).trans ?_
  rw [b2, f1]; rfl
theorem own_n18 (x0 : Int32) {I : Int} (hI : x0.toInt = I) (h1 : 131072 ≤ I) (h2 : I < 262144) : r3 x0 = 14 := by
  have g0 : (0 : Int32) < x0 := (own_lt32 (show (0 : Int32).toInt = 0 by decide) hI).mpr (by omega)
  have c : ¬ x0 < (65536 : Int32) := fun q => by have := (own_lt32 hI (show (65536 : Int32).toInt = 65536 by decide)).mp q; omega
  obtain ⟨V0, hV0, v0⟩ : ∃ V, (j3_33_0 x0).toInt = V ∧ V = I / 65536 := ⟨_, by rw [show j3_33_0 x0 = w3_32 x0 from if_neg c]; exact own_us hI (by omega) (n := ((16 : Int32) &&& 31).toUInt32) (k := 16) (by decide) (by decide) (by decide), rfl⟩
  have a1 : j3_33_1 x0 = 15 := if_neg c
  have c0 : j3_33_0 x0 < (256 : Int32) := (own_lt32 hV0 (show (256 : Int32).toInt = 256 by decide)).mpr (by omega)
  obtain ⟨V1, hV1, v1⟩ : ∃ V, (j3_48_0 x0).toInt = V ∧ V = V0 := ⟨V0, by rw [show j3_48_0 x0 = j3_33_0 x0 from if_pos c0]; exact hV0, rfl⟩
  have b0 : j3_48_1 x0 = 15 := (if_pos c0).trans a1
  have c1 : j3_48_0 x0 < (16 : Int32) := (own_lt32 hV1 (show (16 : Int32).toInt = 16 by decide)).mpr (by omega)
  obtain ⟨V2, hV2, v2⟩ : ∃ V, (j3_61_0 x0).toInt = V ∧ V = V1 := ⟨V1, by rw [show j3_61_0 x0 = j3_48_0 x0 from if_pos c1]; exact hV1, rfl⟩
  have b1 : j3_61_1 x0 = 15 := (if_pos c1).trans b0
  have c2 : j3_61_0 x0 < (4 : Int32) := (own_lt32 hV2 (show (4 : Int32).toInt = 4 by decide)).mpr (by omega)
  obtain ⟨V3, hV3, v3⟩ : ∃ V, (j3_73_0 x0).toInt = V ∧ V = V2 := ⟨V2, by rw [show j3_73_0 x0 = j3_61_0 x0 from if_pos c2]; exact hV2, rfl⟩
  have b2 : j3_73_1 x0 = 15 := (if_pos c2).trans b1
  have f := own_us hV3 (by omega) (n := ((1 : Int32) &&& 31).toUInt32) (k := 1) (by decide) (by decide) (d := 2) (by decide)
  have f1 : ((((j3_73_0 x0).toUInt32 >>> ((1 : Int32) &&& 31).toUInt32).toInt32)) = (1 : Int32) := (own_eq32 f (show (1 : Int32).toInt = 1 by decide)).mpr (by omega)
  refine (if_pos g0).trans ?_
  rw [b2, f1]; rfl
theorem own_n19 (x0 : Int32) {I : Int} (hI : x0.toInt = I) (h1 : 262144 ≤ I) (h2 : I < 524288) : r3 x0 = 13 := by
  have g0 : (0 : Int32) < x0 := (own_lt32 (show (0 : Int32).toInt = 0 by decide) hI).mpr (by omega)
  have c : ¬ x0 < (65536 : Int32) := fun q => by have := (own_lt32 hI (show (65536 : Int32).toInt = 65536 by decide)).mp q; omega
  obtain ⟨V0, hV0, v0⟩ : ∃ V, (j3_33_0 x0).toInt = V ∧ V = I / 65536 := ⟨_, by rw [show j3_33_0 x0 = w3_32 x0 from if_neg c]; exact own_us hI (by omega) (n := ((16 : Int32) &&& 31).toUInt32) (k := 16) (by decide) (by decide) (by decide), rfl⟩
  have a1 : j3_33_1 x0 = 15 := if_neg c
  have c0 : j3_33_0 x0 < (256 : Int32) := (own_lt32 hV0 (show (256 : Int32).toInt = 256 by decide)).mpr (by omega)
  obtain ⟨V1, hV1, v1⟩ : ∃ V, (j3_48_0 x0).toInt = V ∧ V = V0 := ⟨V0, by rw [show j3_48_0 x0 = j3_33_0 x0 from if_pos c0]; exact hV0, rfl⟩
  have b0 : j3_48_1 x0 = 15 := (if_pos c0).trans a1
  have c1 : j3_48_0 x0 < (16 : Int32) := (own_lt32 hV1 (show (16 : Int32).toInt = 16 by decide)).mpr (by omega)
  obtain ⟨V2, hV2, v2⟩ : ∃ V, (j3_61_0 x0).toInt = V ∧ V = V1 := ⟨V1, by rw [show j3_61_0 x0 = j3_48_0 x0 from if_pos c1]; exact hV1, rfl⟩
  have b1 : j3_61_1 x0 = 15 := (if_pos c1).trans b0
  have c2 : ¬ j3_61_0 x0 < (4 : Int32) := fun q => by have := (own_lt32 hV2 (show (4 : Int32).toInt = 4 by decide)).mp q; omega
  obtain ⟨V3, hV3, v3⟩ : ∃ V, (j3_73_0 x0).toInt = V ∧ V = V2 / 4 := ⟨_, by rw [show j3_73_0 x0 = w3_72 x0 from if_neg c2]; exact own_us hV2 (by omega) (n := ((2 : Int32) &&& 31).toUInt32) (k := 2) (by decide) (by decide) (by decide), rfl⟩
  have b2 : j3_73_1 x0 = 13 := (if_neg c2).trans (by show j3_61_1 x0 + Int32.ofInt (-2) = _; rw [b1]; rfl)
  have f := own_us hV3 (by omega) (n := ((1 : Int32) &&& 31).toUInt32) (k := 1) (by decide) (by decide) (d := 2) (by decide)
  have f1 : ((((j3_73_0 x0).toUInt32 >>> ((1 : Int32) &&& 31).toUInt32).toInt32)) = (0 : Int32) := (own_eq32 f (show (0 : Int32).toInt = 0 by decide)).mpr (by omega)
  refine (if_pos g0).trans ?_
  rw [b2, f1]; rfl
theorem own_n20 (x0 : Int32) {I : Int} (hI : x0.toInt = I) (h1 : 524288 ≤ I) (h2 : I < 1048576) : r3 x0 = 12 := by
  have g0 : (0 : Int32) < x0 := (own_lt32 (show (0 : Int32).toInt = 0 by decide) hI).mpr (by omega)
  have c : ¬ x0 < (65536 : Int32) := fun q => by have := (own_lt32 hI (show (65536 : Int32).toInt = 65536 by decide)).mp q; omega
  obtain ⟨V0, hV0, v0⟩ : ∃ V, (j3_33_0 x0).toInt = V ∧ V = I / 65536 := ⟨_, by rw [show j3_33_0 x0 = w3_32 x0 from if_neg c]; exact own_us hI (by omega) (n := ((16 : Int32) &&& 31).toUInt32) (k := 16) (by decide) (by decide) (by decide), rfl⟩
  have a1 : j3_33_1 x0 = 15 := if_neg c
  have c0 : j3_33_0 x0 < (256 : Int32) := (own_lt32 hV0 (show (256 : Int32).toInt = 256 by decide)).mpr (by omega)
  obtain ⟨V1, hV1, v1⟩ : ∃ V, (j3_48_0 x0).toInt = V ∧ V = V0 := ⟨V0, by rw [show j3_48_0 x0 = j3_33_0 x0 from if_pos c0]; exact hV0, rfl⟩
  have b0 : j3_48_1 x0 = 15 := (if_pos c0).trans a1
  have c1 : j3_48_0 x0 < (16 : Int32) := (own_lt32 hV1 (show (16 : Int32).toInt = 16 by decide)).mpr (by omega)
  obtain ⟨V2, hV2, v2⟩ : ∃ V, (j3_61_0 x0).toInt = V ∧ V = V1 := ⟨V1, by rw [show j3_61_0 x0 = j3_48_0 x0 from if_pos c1]; exact hV1, rfl⟩
  have b1 : j3_61_1 x0 = 15 := (if_pos c1).trans b0
  have c2 : ¬ j3_61_0 x0 < (4 : Int32) := fun q => by have := (own_lt32 hV2 (show (4 : Int32).toInt = 4 by decide)).mp q; omega
  obtain ⟨V3, hV3, v3⟩ : ∃ V, (j3_73_0 x0).toInt = V ∧ V = V2 / 4 := ⟨_, by rw [show j3_73_0 x0 = w3_72 x0 from if_neg c2]; exact own_us hV2 (by omega) (n := ((2 : Int32) &&& 31).toUInt32) (k := 2) (by decide) (by decide) (by decide), rfl⟩
  have b2 : j3_73_1 x0 = 13 := (if_neg c2).trans (by show j3_61_1 x0 + Int32.ofInt (-2) = _; rw [b1]; rfl)
  have f := own_us hV3 (by omega) (n := ((1 : Int32) &&& 31).toUInt32) (k := 1) (by decide) (by decide) (d := 2) (by decide)
  have f1 : ((((j3_73_0 x0).toUInt32 >>> ((1 : Int32) &&& 31).toUInt32).toInt32)) = (1 : Int32) := (own_eq32 f (show (1 : Int32).toInt = 1 by decide)).mpr (by omega)
  refine (if_pos g0).trans ?_
  rw [b2, f1]; rfl
theorem own_n21 (x0 : Int32) {I : Int} (hI : x0.toInt = I) (h1 : 1048576 ≤ I) (h2 : I < 2097152) : r3 x0 = 11 := by
  have g0 : (0 : Int32) < x0 := (own_lt32 (show (0 : Int32).toInt = 0 by decide) hI).mpr (by omega)
  have c : ¬ x0 < (65536 : Int32) := fun q => by have := (own_lt32 hI (show (65536 : Int32).toInt = 65536 by decide)).mp q; omega
  obtain ⟨V0, hV0, v0⟩ : ∃ V, (j3_33_0 x0).toInt = V ∧ V = I / 65536 := ⟨_, by rw [show j3_33_0 x0 = w3_32 x0 from if_neg c]; exact own_us hI (by omega) (n := ((16 : Int32) &&& 31).toUInt32) (k := 16) (by decide) (by decide) (by decide), rfl⟩
  have a1 : j3_33_1 x0 = 15 := if_neg c
  have c0 : j3_33_0 x0 < (256 : Int32) := (own_lt32 hV0 (show (256 : Int32).toInt = 256 by decide)).mpr (by omega)
  obtain ⟨V1, hV1, v1⟩ : ∃ V, (j3_48_0 x0).toInt = V ∧ V = V0 := ⟨V0, by rw [show j3_48_0 x0 = j3_33_0 x0 from if_pos c0]; exact hV0, rfl⟩
  have b0 : j3_48_1 x0 = 15 := (if_pos c0).trans a1
  have c1 : ¬ j3_48_0 x0 < (16 : Int32) := fun q => by have := (own_lt32 hV1 (show (16 : Int32).toInt = 16 by decide)).mp q; omega
  obtain ⟨V2, hV2, v2⟩ : ∃ V, (j3_61_0 x0).toInt = V ∧ V = V1 / 16 := ⟨_, by rw [show j3_61_0 x0 = w3_60 x0 from if_neg c1]; exact own_us hV1 (by omega) (n := ((4 : Int32) &&& 31).toUInt32) (k := 4) (by decide) (by decide) (by decide), rfl⟩
  have b1 : j3_61_1 x0 = 11 := (if_neg c1).trans (by show j3_48_1 x0 + Int32.ofInt (-4) = _; rw [b0]; rfl)
  have c2 : j3_61_0 x0 < (4 : Int32) := (own_lt32 hV2 (show (4 : Int32).toInt = 4 by decide)).mpr (by omega)
  obtain ⟨V3, hV3, v3⟩ : ∃ V, (j3_73_0 x0).toInt = V ∧ V = V2 := ⟨V2, by rw [show j3_73_0 x0 = j3_61_0 x0 from if_pos c2]; exact hV2, rfl⟩
  have b2 : j3_73_1 x0 = 11 := (if_pos c2).trans b1
  have f := own_us hV3 (by omega) (n := ((1 : Int32) &&& 31).toUInt32) (k := 1) (by decide) (by decide) (d := 2) (by decide)
  have f1 : ((((j3_73_0 x0).toUInt32 >>> ((1 : Int32) &&& 31).toUInt32).toInt32)) = (0 : Int32) := (own_eq32 f (show (0 : Int32).toInt = 0 by decide)).mpr (by omega)
  refine (if_pos g0).trans ?_
  rw [b2, f1]; rfl
theorem own_n22 (x0 : Int32) {I : Int} (hI : x0.toInt = I) (h1 : 2097152 ≤ I) (h2 : I < 4194304) : r3 x0 = 10 := by
  have g0 : (0 : Int32) < x0 := (own_lt32 (show (0 : Int32).toInt = 0 by decide) hI).mpr (by omega)
  have c : ¬ x0 < (65536 : Int32) := fun q => by have := (own_lt32 hI (show (65536 : Int32).toInt = 65536 by decide)).mp q; omega
  obtain ⟨V0, hV0, v0⟩ : ∃ V, (j3_33_0 x0).toInt = V ∧ V = I / 65536 := ⟨_, by rw [show j3_33_0 x0 = w3_32 x0 from if_neg c]; exact own_us hI (by omega) (n := ((16 : Int32) &&& 31).toUInt32) (k := 16) (by decide) (by decide) (by decide), rfl⟩
  have a1 : j3_33_1 x0 = 15 := if_neg c
  have c0 : j3_33_0 x0 < (256 : Int32) := (own_lt32 hV0 (show (256 : Int32).toInt = 256 by decide)).mpr (by omega)
  obtain ⟨V1, hV1, v1⟩ : ∃ V, (j3_48_0 x0).toInt = V ∧ V = V0 := ⟨V0, by rw [show j3_48_0 x0 = j3_33_0 x0 from if_pos c0]; exact hV0, rfl⟩
  have b0 : j3_48_1 x0 = 15 := (if_pos c0).trans a1
  have c1 : ¬ j3_48_0 x0 < (16 : Int32) := fun q => by have := (own_lt32 hV1 (show (16 : Int32).toInt = 16 by decide)).mp q; omega
  obtain ⟨V2, hV2, v2⟩ : ∃ V, (j3_61_0 x0).toInt = V ∧ V = V1 / 16 := ⟨_, by rw [show j3_61_0 x0 = w3_60 x0 from if_neg c1]; exact own_us hV1 (by omega) (n := ((4 : Int32) &&& 31).toUInt32) (k := 4) (by decide) (by decide) (by decide), rfl⟩
  have b1 : j3_61_1 x0 = 11 := (if_neg c1).trans (by show j3_48_1 x0 + Int32.ofInt (-4) = _; rw [b0]; rfl)
  have c2 : j3_61_0 x0 < (4 : Int32) := (own_lt32 hV2 (show (4 : Int32).toInt = 4 by decide)).mpr (by omega)
  obtain ⟨V3, hV3, v3⟩ : ∃ V, (j3_73_0 x0).toInt = V ∧ V = V2 := ⟨V2, by rw [show j3_73_0 x0 = j3_61_0 x0 from if_pos c2]; exact hV2, rfl⟩
  have b2 : j3_73_1 x0 = 11 := (if_pos c2).trans b1
  have f := own_us hV3 (by omega) (n := ((1 : Int32) &&& 31).toUInt32) (k := 1) (by decide) (by decide) (d := 2) (by decide)
  have f1 : ((((j3_73_0 x0).toUInt32 >>> ((1 : Int32) &&& 31).toUInt32).toInt32)) = (1 : Int32) := (own_eq32 f (show (1 : Int32).toInt = 1 by decide)).mpr (by omega)
  refine (if_pos g0).trans ?_
  rw [b2, f1]; rfl
theorem own_n23 (x0 : Int32) {I : Int} (hI : x0.toInt = I) (h1 : 4194304 ≤ I) (h2 : I < 8388608) : r3 x0 = 9 := by
  have g0 : (0 : Int32) < x0 := (own_lt32 (show (0 : Int32).toInt = 0 by decide) hI).mpr (by omega)
  have c : ¬ x0 < (65536 : Int32) := fun q => by have := (own_lt32 hI (show (65536 : Int32).toInt = 65536 by decide)).mp q; omega
  obtain ⟨V0, hV0, v0⟩ : ∃ V, (j3_33_0 x0).toInt = V ∧ V = I / 65536 := ⟨_, by rw [show j3_33_0 x0 = w3_32 x0 from if_neg c]; exact own_us hI (by omega) (n := ((16 : Int32) &&& 31).toUInt32) (k := 16) (by decide) (by decide) (by decide), rfl⟩
  have a1 : j3_33_1 x0 = 15 := if_neg c
  have c0 : j3_33_0 x0 < (256 : Int32) := (own_lt32 hV0 (show (256 : Int32).toInt = 256 by decide)).mpr (by omega)
  obtain ⟨V1, hV1, v1⟩ : ∃ V, (j3_48_0 x0).toInt = V ∧ V = V0 := ⟨V0, by rw [show j3_48_0 x0 = j3_33_0 x0 from if_pos c0]; exact hV0, rfl⟩
  have b0 : j3_48_1 x0 = 15 := (if_pos c0).trans a1
  have c1 : ¬ j3_48_0 x0 < (16 : Int32) := fun q => by have := (own_lt32 hV1 (show (16 : Int32).toInt = 16 by decide)).mp q; omega
  obtain ⟨V2, hV2, v2⟩ : ∃ V, (j3_61_0 x0).toInt = V ∧ V = V1 / 16 := ⟨_, by rw [show j3_61_0 x0 = w3_60 x0 from if_neg c1]; exact own_us hV1 (by omega) (n := ((4 : Int32) &&& 31).toUInt32) (k := 4) (by decide) (by decide) (by decide), rfl⟩
  have b1 : j3_61_1 x0 = 11 := (if_neg c1).trans (by show j3_48_1 x0 + Int32.ofInt (-4) = _; rw [b0]; rfl)
  have c2 : ¬ j3_61_0 x0 < (4 : Int32) := fun q => by have := (own_lt32 hV2 (show (4 : Int32).toInt = 4 by decide)).mp q; omega
  obtain ⟨V3, hV3, v3⟩ : ∃ V, (j3_73_0 x0).toInt = V ∧ V = V2 / 4 := ⟨_, by rw [show j3_73_0 x0 = w3_72 x0 from if_neg c2]; exact own_us hV2 (by omega) (n := ((2 : Int32) &&& 31).toUInt32) (k := 2) (by decide) (by decide) (by decide), rfl⟩
  have b2 : j3_73_1 x0 = 9 := (if_neg c2).trans (by show j3_61_1 x0 + Int32.ofInt (-2) = _; rw [b1]; rfl)
  have f := own_us hV3 (by omega) (n := ((1 : Int32) &&& 31).toUInt32) (k := 1) (by decide) (by decide) (d := 2) (by decide)
  have f1 : ((((j3_73_0 x0).toUInt32 >>> ((1 : Int32) &&& 31).toUInt32).toInt32)) = (0 : Int32) := (own_eq32 f (show (0 : Int32).toInt = 0 by decide)).mpr (by omega)
  refine (if_pos g0).trans ?_
  rw [b2, f1]; rfl
theorem own_n24 (x0 : Int32) {I : Int} (hI : x0.toInt = I) (h1 : 8388608 ≤ I) (h2 : I < 16777216) : r3 x0 = 8 := by
  have g0 : (0 : Int32) < x0 := (own_lt32 (show (0 : Int32).toInt = 0 by decide) hI).mpr (by omega)
  have c : ¬ x0 < (65536 : Int32) := fun q => by have := (own_lt32 hI (show (65536 : Int32).toInt = 65536 by decide)).mp q; omega
  obtain ⟨V0, hV0, v0⟩ : ∃ V, (j3_33_0 x0).toInt = V ∧ V = I / 65536 := ⟨_, by rw [show j3_33_0 x0 = w3_32 x0 from if_neg c]; exact own_us hI (by omega) (n := ((16 : Int32) &&& 31).toUInt32) (k := 16) (by decide) (by decide) (by decide), rfl⟩
  have a1 : j3_33_1 x0 = 15 := if_neg c
  have c0 : j3_33_0 x0 < (256 : Int32) := (own_lt32 hV0 (show (256 : Int32).toInt = 256 by decide)).mpr (by omega)
  obtain ⟨V1, hV1, v1⟩ : ∃ V, (j3_48_0 x0).toInt = V ∧ V = V0 := ⟨V0, by rw [show j3_48_0 x0 = j3_33_0 x0 from if_pos c0]; exact hV0, rfl⟩
  have b0 : j3_48_1 x0 = 15 := (if_pos c0).trans a1
  have c1 : ¬ j3_48_0 x0 < (16 : Int32) := fun q => by have := (own_lt32 hV1 (show (16 : Int32).toInt = 16 by decide)).mp q; omega
  obtain ⟨V2, hV2, v2⟩ : ∃ V, (j3_61_0 x0).toInt = V ∧ V = V1 / 16 := ⟨_, by rw [show j3_61_0 x0 = w3_60 x0 from if_neg c1]; exact own_us hV1 (by omega) (n := ((4 : Int32) &&& 31).toUInt32) (k := 4) (by decide) (by decide) (by decide), rfl⟩
  have b1 : j3_61_1 x0 = 11 := (if_neg c1).trans (by show j3_48_1 x0 + Int32.ofInt (-4) = _; rw [b0]; rfl)
  have c2 : ¬ j3_61_0 x0 < (4 : Int32) := fun q => by have := (own_lt32 hV2 (show (4 : Int32).toInt = 4 by decide)).mp q; omega
  obtain ⟨V3, hV3, v3⟩ : ∃ V, (j3_73_0 x0).toInt = V ∧ V = V2 / 4 := ⟨_, by rw [show j3_73_0 x0 = w3_72 x0 from if_neg c2]; exact own_us hV2 (by omega) (n := ((2 : Int32) &&& 31).toUInt32) (k := 2) (by decide) (by decide) (by decide), rfl⟩
  have b2 : j3_73_1 x0 = 9 := (if_neg c2).trans (by show j3_61_1 x0 + Int32.ofInt (-2) = _; rw [b1]; rfl)
  have f := own_us hV3 (by omega) (n := ((1 : Int32) &&& 31).toUInt32) (k := 1) (by decide) (by decide) (d := 2) (by decide)
  have f1 : ((((j3_73_0 x0).toUInt32 >>> ((1 : Int32) &&& 31).toUInt32).toInt32)) = (1 : Int32) := (own_eq32 f (show (1 : Int32).toInt = 1 by decide)).mpr (by omega)
  refine (if_pos g0).trans ?_
  rw [b2, f1]; rfl
theorem own_n25 (x0 : Int32) {I : Int} (hI : x0.toInt = I) (h1 : 16777216 ≤ I) (h2 : I < 33554432) : r3 x0 = 7 := by
  have g0 : (0 : Int32) < x0 := (own_lt32 (show (0 : Int32).toInt = 0 by decide) hI).mpr (by omega)
  have c : ¬ x0 < (65536 : Int32) := fun q => by have := (own_lt32 hI (show (65536 : Int32).toInt = 65536 by decide)).mp q; omega
  obtain ⟨V0, hV0, v0⟩ : ∃ V, (j3_33_0 x0).toInt = V ∧ V = I / 65536 := ⟨_, by rw [show j3_33_0 x0 = w3_32 x0 from if_neg c]; exact own_us hI (by omega) (n := ((16 : Int32) &&& 31).toUInt32) (k := 16) (by decide) (by decide) (by decide), rfl⟩
  have a1 : j3_33_1 x0 = 15 := if_neg c
  have c0 : ¬ j3_33_0 x0 < (256 : Int32) := fun q => by have := (own_lt32 hV0 (show (256 : Int32).toInt = 256 by decide)).mp q; omega
  obtain ⟨V1, hV1, v1⟩ : ∃ V, (j3_48_0 x0).toInt = V ∧ V = V0 / 256 := ⟨_, by rw [show j3_48_0 x0 = w3_47 x0 from if_neg c0]; exact own_us hV0 (by omega) (n := ((8 : Int32) &&& 31).toUInt32) (k := 8) (by decide) (by decide) (by decide), rfl⟩
  have b0 : j3_48_1 x0 = 7 := (if_neg c0).trans (by show j3_33_1 x0 + Int32.ofInt (-8) = _; rw [a1]; rfl)
  have c1 : j3_48_0 x0 < (16 : Int32) := (own_lt32 hV1 (show (16 : Int32).toInt = 16 by decide)).mpr (by omega)
  obtain ⟨V2, hV2, v2⟩ : ∃ V, (j3_61_0 x0).toInt = V ∧ V = V1 := ⟨V1, by rw [show j3_61_0 x0 = j3_48_0 x0 from if_pos c1]; exact hV1, rfl⟩
  have b1 : j3_61_1 x0 = 7 := (if_pos c1).trans b0
  have c2 : j3_61_0 x0 < (4 : Int32) := (own_lt32 hV2 (show (4 : Int32).toInt = 4 by decide)).mpr (by omega)
  obtain ⟨V3, hV3, v3⟩ : ∃ V, (j3_73_0 x0).toInt = V ∧ V = V2 := ⟨V2, by rw [show j3_73_0 x0 = j3_61_0 x0 from if_pos c2]; exact hV2, rfl⟩
  have b2 : j3_73_1 x0 = 7 := (if_pos c2).trans b1
  have f := own_us hV3 (by omega) (n := ((1 : Int32) &&& 31).toUInt32) (k := 1) (by decide) (by decide) (d := 2) (by decide)
  have f1 : ((((j3_73_0 x0).toUInt32 >>> ((1 : Int32) &&& 31).toUInt32).toInt32)) = (0 : Int32) := (own_eq32 f (show (0 : Int32).toInt = 0 by decide)).mpr (by omega)
  refine (if_pos g0).trans ?_
  rw [b2, f1]; rfl
theorem own_n26 (x0 : Int32) {I : Int} (hI : x0.toInt = I) (h1 : 33554432 ≤ I) (h2 : I < 67108864) : r3 x0 = 6 := by
  have g0 : (0 : Int32) < x0 := (own_lt32 (show (0 : Int32).toInt = 0 by decide) hI).mpr (by omega)
  have c : ¬ x0 < (65536 : Int32) := fun q => by have := (own_lt32 hI (show (65536 : Int32).toInt = 65536 by decide)).mp q; omega
  obtain ⟨V0, hV0, v0⟩ : ∃ V, (j3_33_0 x0).toInt = V ∧ V = I / 65536 := ⟨_, by rw [show j3_33_0 x0 = w3_32 x0 from if_neg c]; exact own_us hI (by omega) (n := ((16 : Int32) &&& 31).toUInt32) (k := 16) (by decide) (by decide) (by decide), rfl⟩
  have a1 : j3_33_1 x0 = 15 := if_neg c
  have c0 : ¬ j3_33_0 x0 < (256 : Int32) := fun q => by have := (own_lt32 hV0 (show (256 : Int32).toInt = 256 by decide)).mp q; omega
  obtain ⟨V1, hV1, v1⟩ : ∃ V, (j3_48_0 x0).toInt = V ∧ V = V0 / 256 := ⟨_, by rw [show j3_48_0 x0 = w3_47 x0 from if_neg c0]; exact own_us hV0 (by omega) (n := ((8 : Int32) &&& 31).toUInt32) (k := 8) (by decide) (by decide) (by decide), rfl⟩
  have b0 : j3_48_1 x0 = 7 := (if_neg c0).trans (by show j3_33_1 x0 + Int32.ofInt (-8) = _; rw [a1]; rfl)
  have c1 : j3_48_0 x0 < (16 : Int32) := (own_lt32 hV1 (show (16 : Int32).toInt = 16 by decide)).mpr (by omega)
  obtain ⟨V2, hV2, v2⟩ : ∃ V, (j3_61_0 x0).toInt = V ∧ V = V1 := ⟨V1, by rw [show j3_61_0 x0 = j3_48_0 x0 from if_pos c1]; exact hV1, rfl⟩
  have b1 : j3_61_1 x0 = 7 := (if_pos c1).trans b0
  have c2 : j3_61_0 x0 < (4 : Int32) := (own_lt32 hV2 (show (4 : Int32).toInt = 4 by decide)).mpr (by omega)
  obtain ⟨V3, hV3, v3⟩ : ∃ V, (j3_73_0 x0).toInt = V ∧ V = V2 := ⟨V2, by rw [show j3_73_0 x0 = j3_61_0 x0 from if_pos c2]; exact hV2, rfl⟩
  have b2 : j3_73_1 x0 = 7 := (if_pos c2).trans b1
  have f := own_us hV3 (by omega) (n := ((1 : Int32) &&& 31).toUInt32) (k := 1) (by decide) (by decide) (d := 2) (by decide)
  have f1 : ((((j3_73_0 x0).toUInt32 >>> ((1 : Int32) &&& 31).toUInt32).toInt32)) = (1 : Int32) := (own_eq32 f (show (1 : Int32).toInt = 1 by decide)).mpr (by omega)
  refine (if_pos g0).trans ?_
  rw [b2, f1]; rfl
theorem own_n27 (x0 : Int32) {I : Int} (hI : x0.toInt = I) (h1 : 67108864 ≤ I) (h2 : I < 134217728) : r3 x0 = 5 := by
  have g0 : (0 : Int32) < x0 := (own_lt32 (show (0 : Int32).toInt = 0 by decide) hI).mpr (by omega)
  have c : ¬ x0 < (65536 : Int32) := fun q => by have := (own_lt32 hI (show (65536 : Int32).toInt = 65536 by decide)).mp q; omega
  obtain ⟨V0, hV0, v0⟩ : ∃ V, (j3_33_0 x0).toInt = V ∧ V = I / 65536 := ⟨_, by rw [show j3_33_0 x0 = w3_32 x0 from if_neg c]; exact own_us hI (by omega) (n := ((16 : Int32) &&& 31).toUInt32) (k := 16) (by decide) (by decide) (by decide), rfl⟩
  have a1 : j3_33_1 x0 = 15 := if_neg c
  have c0 : ¬ j3_33_0 x0 < (256 : Int32) := fun q => by have := (own_lt32 hV0 (show (256 : Int32).toInt = 256 by decide)).mp q; omega
  obtain ⟨V1, hV1, v1⟩ : ∃ V, (j3_48_0 x0).toInt = V ∧ V = V0 / 256 := ⟨_, by rw [show j3_48_0 x0 = w3_47 x0 from if_neg c0]; exact own_us hV0 (by omega) (n := ((8 : Int32) &&& 31).toUInt32) (k := 8) (by decide) (by decide) (by decide), rfl⟩
  have b0 : j3_48_1 x0 = 7 := (if_neg c0).trans (by show j3_33_1 x0 + Int32.ofInt (-8) = _; rw [a1]; rfl)
  have c1 : j3_48_0 x0 < (16 : Int32) := (own_lt32 hV1 (show (16 : Int32).toInt = 16 by decide)).mpr (by omega)
  obtain ⟨V2, hV2, v2⟩ : ∃ V, (j3_61_0 x0).toInt = V ∧ V = V1 := ⟨V1, by rw [show j3_61_0 x0 = j3_48_0 x0 from if_pos c1]; exact hV1, rfl⟩
  have b1 : j3_61_1 x0 = 7 := (if_pos c1).trans b0
  have c2 : ¬ j3_61_0 x0 < (4 : Int32) := fun q => by have := (own_lt32 hV2 (show (4 : Int32).toInt = 4 by decide)).mp q; omega
  obtain ⟨V3, hV3, v3⟩ : ∃ V, (j3_73_0 x0).toInt = V ∧ V = V2 / 4 := ⟨_, by rw [show j3_73_0 x0 = w3_72 x0 from if_neg c2]; exact own_us hV2 (by omega) (n := ((2 : Int32) &&& 31).toUInt32) (k := 2) (by decide) (by decide) (by decide), rfl⟩
  have b2 : j3_73_1 x0 = 5 := (if_neg c2).trans (by show j3_61_1 x0 + Int32.ofInt (-2) = _; rw [b1]; rfl)
  have f := own_us hV3 (by omega) (n := ((1 : Int32) &&& 31).toUInt32) (k := 1) (by decide) (by decide) (d := 2) (by decide)
  have f1 : ((((j3_73_0 x0).toUInt32 >>> ((1 : Int32) &&& 31).toUInt32).toInt32)) = (0 : Int32) := (own_eq32 f (show (0 : Int32).toInt = 0 by decide)).mpr (by omega)
  refine (if_pos g0).trans ?_
  rw [b2, f1]; rfl
theorem own_n28 (x0 : Int32) {I : Int} (hI : x0.toInt = I) (h1 : 134217728 ≤ I) (h2 : I < 268435456) : r3 x0 = 4 := by
  have g0 : (0 : Int32) < x0 := (own_lt32 (show (0 : Int32).toInt = 0 by decide) hI).mpr (by omega)
  have c : ¬ x0 < (65536 : Int32) := fun q => by have := (own_lt32 hI (show (65536 : Int32).toInt = 65536 by decide)).mp q; omega
  obtain ⟨V0, hV0, v0⟩ : ∃ V, (j3_33_0 x0).toInt = V ∧ V = I / 65536 := ⟨_, by rw [show j3_33_0 x0 = w3_32 x0 from if_neg c]; exact own_us hI (by omega) (n := ((16 : Int32) &&& 31).toUInt32) (k := 16) (by decide) (by decide) (by decide), rfl⟩
  have a1 : j3_33_1 x0 = 15 := if_neg c
  have c0 : ¬ j3_33_0 x0 < (256 : Int32) := fun q => by have := (own_lt32 hV0 (show (256 : Int32).toInt = 256 by decide)).mp q; omega
  obtain ⟨V1, hV1, v1⟩ : ∃ V, (j3_48_0 x0).toInt = V ∧ V = V0 / 256 := ⟨_, by rw [show j3_48_0 x0 = w3_47 x0 from if_neg c0]; exact own_us hV0 (by omega) (n := ((8 : Int32) &&& 31).toUInt32) (k := 8) (by decide) (by decide) (by decide), rfl⟩
  have b0 : j3_48_1 x0 = 7 := (if_neg c0).trans (by show j3_33_1 x0 + Int32.ofInt (-8) = _; rw [a1]; rfl)
  have c1 : j3_48_0 x0 < (16 : Int32) := (own_lt32 hV1 (show (16 : Int32).toInt = 16 by decide)).mpr (by omega)
  obtain ⟨V2, hV2, v2⟩ : ∃ V, (j3_61_0 x0).toInt = V ∧ V = V1 := ⟨V1, by rw [show j3_61_0 x0 = j3_48_0 x0 from if_pos c1]; exact hV1, rfl⟩
  have b1 : j3_61_1 x0 = 7 := (if_pos c1).trans b0
  have c2 : ¬ j3_61_0 x0 < (4 : Int32) := fun q => by have := (own_lt32 hV2 (show (4 : Int32).toInt = 4 by decide)).mp q; omega
  obtain ⟨V3, hV3, v3⟩ : ∃ V, (j3_73_0 x0).toInt = V ∧ V = V2 / 4 := ⟨_, by rw [show j3_73_0 x0 = w3_72 x0 from if_neg c2]; exact own_us hV2 (by omega) (n := ((2 : Int32) &&& 31).toUInt32) (k := 2) (by decide) (by decide) (by decide), rfl⟩
  have b2 : j3_73_1 x0 = 5 := (if_neg c2).trans (by show j3_61_1 x0 + Int32.ofInt (-2) = _; rw [b1]; rfl)
  have f := own_us hV3 (by omega) (n := ((1 : Int32) &&& 31).toUInt32) (k := 1) (by decide) (by decide) (d := 2) (by decide)
  have f1 : ((((j3_73_0 x0).toUInt32 >>> ((1 : Int32) &&& 31).toUInt32).toInt32)) = (1 : Int32) := (own_eq32 f (show (1 : Int32).toInt = 1 by decide)).mpr (by omega)
  refine (if_pos g0).trans ?_
  rw [b2, f1]; rfl
theorem own_n29 (x0 : Int32) {I : Int} (hI : x0.toInt = I) (h1 : 268435456 ≤ I) (h2 : I < 536870912) : r3 x0 = 3 := by
  have g0 : (0 : Int32) < x0 := (own_lt32 (show (0 : Int32).toInt = 0 by decide) hI).mpr (by omega)
  have c : ¬ x0 < (65536 : Int32) := fun q => by have := (own_lt32 hI (show (65536 : Int32).toInt = 65536 by decide)).mp q; omega
  obtain ⟨V0, hV0, v0⟩ : ∃ V, (j3_33_0 x0).toInt = V ∧ V = I / 65536 := ⟨_, by rw [show j3_33_0 x0 = w3_32 x0 from if_neg c]; exact own_us hI (by omega) (n := ((16 : Int32) &&& 31).toUInt32) (k := 16) (by decide) (by decide) (by decide), rfl⟩
  have a1 : j3_33_1 x0 = 15 := if_neg c
  have c0 : ¬ j3_33_0 x0 < (256 : Int32) := fun q => by have := (own_lt32 hV0 (show (256 : Int32).toInt = 256 by decide)).mp q; omega
  obtain ⟨V1, hV1, v1⟩ : ∃ V, (j3_48_0 x0).toInt = V ∧ V = V0 / 256 := ⟨_, by rw [show j3_48_0 x0 = w3_47 x0 from if_neg c0]; exact own_us hV0 (by omega) (n := ((8 : Int32) &&& 31).toUInt32) (k := 8) (by decide) (by decide) (by decide), rfl⟩
  have b0 : j3_48_1 x0 = 7 := (if_neg c0).trans (by show j3_33_1 x0 + Int32.ofInt (-8) = _; rw [a1]; rfl)
  have c1 : ¬ j3_48_0 x0 < (16 : Int32) := fun q => by have := (own_lt32 hV1 (show (16 : Int32).toInt = 16 by decide)).mp q; omega
  obtain ⟨V2, hV2, v2⟩ : ∃ V, (j3_61_0 x0).toInt = V ∧ V = V1 / 16 := ⟨_, by rw [show j3_61_0 x0 = w3_60 x0 from if_neg c1]; exact own_us hV1 (by omega) (n := ((4 : Int32) &&& 31).toUInt32) (k := 4) (by decide) (by decide) (by decide), rfl⟩
  have b1 : j3_61_1 x0 = 3 := (if_neg c1).trans (by show j3_48_1 x0 + Int32.ofInt (-4) = _; rw [b0]; rfl)
  have c2 : j3_61_0 x0 < (4 : Int32) := (own_lt32 hV2 (show (4 : Int32).toInt = 4 by decide)).mpr (by omega)
  obtain ⟨V3, hV3, v3⟩ : ∃ V, (j3_73_0 x0).toInt = V ∧ V = V2 := ⟨V2, by rw [show j3_73_0 x0 = j3_61_0 x0 from if_pos c2]; exact hV2, rfl⟩
  have b2 : j3_73_1 x0 = 3 := (if_pos c2).trans b1
  have f := own_us hV3 (by omega) (n := ((1 : Int32) &&& 31).toUInt32) (k := 1) (by decide) (by decide) (d := 2) (by decide)
  have f1 : ((((j3_73_0 x0).toUInt32 >>> ((1 : Int32) &&& 31).toUInt32).toInt32)) = (0 : Int32) := (own_eq32 f (show (0 : Int32).toInt = 0 by decide)).mpr (by omega)
  refine (if_pos g0).trans ?_
  rw [b2, f1]; rfl
theorem own_n30 (x0 : Int32) {I : Int} (hI : x0.toInt = I) (h1 : 536870912 ≤ I) (h2 : I < 1073741824) : r3 x0 = 2 := by
  have g0 : (0 : Int32) < x0 := (own_lt32 (show (0 : Int32).toInt = 0 by decide) hI).mpr (by omega)
  have c : ¬ x0 < (65536 : Int32) := fun q => by have := (own_lt32 hI (show (65536 : Int32).toInt = 65536 by decide)).mp q; omega
  obtain ⟨V0, hV0, v0⟩ : ∃ V, (j3_33_0 x0).toInt = V ∧ V = I / 65536 := ⟨_, by rw [show j3_33_0 x0 = w3_32 x0 from if_neg c]; exact own_us hI (by omega) (n := ((16 : Int32) &&& 31).toUInt32) (k := 16) (by decide) (by decide) (by decide), rfl⟩
  have a1 : j3_33_1 x0 = 15 := if_neg c
  have c0 : ¬ j3_33_0 x0 < (256 : Int32) := fun q => by have := (own_lt32 hV0 (show (256 : Int32).toInt = 256 by decide)).mp q; omega
  obtain ⟨V1, hV1, v1⟩ : ∃ V, (j3_48_0 x0).toInt = V ∧ V = V0 / 256 := ⟨_, by rw [show j3_48_0 x0 = w3_47 x0 from if_neg c0]; exact own_us hV0 (by omega) (n := ((8 : Int32) &&& 31).toUInt32) (k := 8) (by decide) (by decide) (by decide), rfl⟩
  have b0 : j3_48_1 x0 = 7 := (if_neg c0).trans (by show j3_33_1 x0 + Int32.ofInt (-8) = _; rw [a1]; rfl)
  have c1 : ¬ j3_48_0 x0 < (16 : Int32) := fun q => by have := (own_lt32 hV1 (show (16 : Int32).toInt = 16 by decide)).mp q; omega
  obtain ⟨V2, hV2, v2⟩ : ∃ V, (j3_61_0 x0).toInt = V ∧ V = V1 / 16 := ⟨_, by rw [show j3_61_0 x0 = w3_60 x0 from if_neg c1]; exact own_us hV1 (by omega) (n := ((4 : Int32) &&& 31).toUInt32) (k := 4) (by decide) (by decide) (by decide), rfl⟩
  have b1 : j3_61_1 x0 = 3 := (if_neg c1).trans (by show j3_48_1 x0 + Int32.ofInt (-4) = _; rw [b0]; rfl)
  have c2 : j3_61_0 x0 < (4 : Int32) := (own_lt32 hV2 (show (4 : Int32).toInt = 4 by decide)).mpr (by omega)
  obtain ⟨V3, hV3, v3⟩ : ∃ V, (j3_73_0 x0).toInt = V ∧ V = V2 := ⟨V2, by rw [show j3_73_0 x0 = j3_61_0 x0 from if_pos c2]; exact hV2, rfl⟩
  have b2 : j3_73_1 x0 = 3 := (if_pos c2).trans b1
  have f := own_us hV3 (by omega) (n := ((1 : Int32) &&& 31).toUInt32) (k := 1) (by decide) (by decide) (d := 2) (by decide)
  have f1 : ((((j3_73_0 x0).toUInt32 >>> ((1 : Int32) &&& 31).toUInt32).toInt32)) = (1 : Int32) := (own_eq32 f (show (1 : Int32).toInt = 1 by decide)).mpr (by omega)
  refine (if_pos g0).trans ?_
  rw [b2, f1]; rfl
theorem own_n31 (x0 : Int32) {I : Int} (hI : x0.toInt = I) (h1 : 1073741824 ≤ I) (h2 : I < 2147483648) : r3 x0 = 1 := by
  have g0 : (0 : Int32) < x0 := (own_lt32 (show (0 : Int32).toInt = 0 by decide) hI).mpr (by omega)
  have c : ¬ x0 < (65536 : Int32) := fun q => by have := (own_lt32 hI (show (65536 : Int32).toInt = 65536 by decide)).mp q; omega
  obtain ⟨V0, hV0, v0⟩ : ∃ V, (j3_33_0 x0).toInt = V ∧ V = I / 65536 := ⟨_, by rw [show j3_33_0 x0 = w3_32 x0 from if_neg c]; exact own_us hI (by omega) (n := ((16 : Int32) &&& 31).toUInt32) (k := 16) (by decide) (by decide) (by decide), rfl⟩
  have a1 : j3_33_1 x0 = 15 := if_neg c
  have c0 : ¬ j3_33_0 x0 < (256 : Int32) := fun q => by have := (own_lt32 hV0 (show (256 : Int32).toInt = 256 by decide)).mp q; omega
  obtain ⟨V1, hV1, v1⟩ : ∃ V, (j3_48_0 x0).toInt = V ∧ V = V0 / 256 := ⟨_, by rw [show j3_48_0 x0 = w3_47 x0 from if_neg c0]; exact own_us hV0 (by omega) (n := ((8 : Int32) &&& 31).toUInt32) (k := 8) (by decide) (by decide) (by decide), rfl⟩
  have b0 : j3_48_1 x0 = 7 := (if_neg c0).trans (by show j3_33_1 x0 + Int32.ofInt (-8) = _; rw [a1]; rfl)
  have c1 : ¬ j3_48_0 x0 < (16 : Int32) := fun q => by have := (own_lt32 hV1 (show (16 : Int32).toInt = 16 by decide)).mp q; omega
  obtain ⟨V2, hV2, v2⟩ : ∃ V, (j3_61_0 x0).toInt = V ∧ V = V1 / 16 := ⟨_, by rw [show j3_61_0 x0 = w3_60 x0 from if_neg c1]; exact own_us hV1 (by omega) (n := ((4 : Int32) &&& 31).toUInt32) (k := 4) (by decide) (by decide) (by decide), rfl⟩
  have b1 : j3_61_1 x0 = 3 := (if_neg c1).trans (by show j3_48_1 x0 + Int32.ofInt (-4) = _; rw [b0]; rfl)
  have c2 : ¬ j3_61_0 x0 < (4 : Int32) := fun q => by have := (own_lt32 hV2 (show (4 : Int32).toInt = 4 by decide)).mp q; omega
  obtain ⟨V3, hV3, v3⟩ : ∃ V, (j3_73_0 x0).toInt = V ∧ V = V2 / 4 := ⟨_, by rw [show j3_73_0 x0 = w3_72 x0 from if_neg c2]; exact own_us hV2 (by omega) (n := ((2 : Int32) &&& 31).toUInt32) (k := 2) (by decide) (by decide) (by decide), rfl⟩
  have b2 : j3_73_1 x0 = 1 := (if_neg c2).trans (by show j3_61_1 x0 + Int32.ofInt (-2) = _; rw [b1]; rfl)
  have f := own_us hV3 (by omega) (n := ((1 : Int32) &&& 31).toUInt32) (k := 1) (by decide) (by decide) (d := 2) (by decide)
  have f1 : ((((j3_73_0 x0).toUInt32 >>> ((1 : Int32) &&& 31).toUInt32).toInt32)) = (0 : Int32) := (own_eq32 f (show (0 : Int32).toInt = 0 by decide)).mpr (by omega)
  refine (if_pos g0).trans ?_
  rw [b2, f1]; rfl
theorem own_nl (x0 : Int32) {I : Int} (hI : x0.toInt = I) (h1 : 1 ≤ I) : ∃ R : Int, (r3 x0).toInt = R ∧ 1 ≤ R ∧ (I < 1073741824 → 2 ≤ R) ∧ (I < 536870912 → 3 ≤ R) ∧ (I < 268435456 → 4 ≤ R) ∧ (I < 134217728 → 5 ≤ R) ∧ (I < 67108864 → 6 ≤ R) ∧ (I < 33554432 → 7 ≤ R) := by
  have hb : I < 2147483648 := by rw [← hI]; have := x0.toInt_lt; omega
  by_cases q1 : I < 2
  · exact ⟨31, by rw [own_n1 x0 hI (by omega) q1]; decide, by omega, by omega, by omega, by omega, by omega, by omega, by omega⟩
  by_cases q2 : I < 4
  · exact ⟨30, by rw [own_n2 x0 hI (by omega) q2]; decide, by omega, by omega, by omega, by omega, by omega, by omega, by omega⟩
  by_cases q3 : I < 8
  · exact ⟨29, by rw [own_n3 x0 hI (by omega) q3]; decide, by omega, by omega, by omega, by omega, by omega, by omega, by omega⟩
  by_cases q4 : I < 16
  · exact ⟨28, by rw [own_n4 x0 hI (by omega) q4]; decide, by omega, by omega, by omega, by omega, by omega, by omega, by omega⟩
  by_cases q5 : I < 32
  · exact ⟨27, by rw [own_n5 x0 hI (by omega) q5]; decide, by omega, by omega, by omega, by omega, by omega, by omega, by omega⟩
  by_cases q6 : I < 64
  · exact ⟨26, by rw [own_n6 x0 hI (by omega) q6]; decide, by omega, by omega, by omega, by omega, by omega, by omega, by omega⟩
  by_cases q7 : I < 128
  · exact ⟨25, by rw [own_n7 x0 hI (by omega) q7]; decide, by omega, by omega, by omega, by omega, by omega, by omega, by omega⟩
  by_cases q8 : I < 256
  · exact ⟨24, by rw [own_n8 x0 hI (by omega) q8]; decide, by omega, by omega, by omega, by omega, by omega, by omega, by omega⟩
  by_cases q9 : I < 512
  · exact ⟨23, by rw [own_n9 x0 hI (by omega) q9]; decide, by omega, by omega, by omega, by omega, by omega, by omega, by omega⟩
  by_cases q10 : I < 1024
  · exact ⟨22, by rw [own_n10 x0 hI (by omega) q10]; decide, by omega, by omega, by omega, by omega, by omega, by omega, by omega⟩
  by_cases q11 : I < 2048
  · exact ⟨21, by rw [own_n11 x0 hI (by omega) q11]; decide, by omega, by omega, by omega, by omega, by omega, by omega, by omega⟩
  by_cases q12 : I < 4096
  · exact ⟨20, by rw [own_n12 x0 hI (by omega) q12]; decide, by omega, by omega, by omega, by omega, by omega, by omega, by omega⟩
  by_cases q13 : I < 8192
  · exact ⟨19, by rw [own_n13 x0 hI (by omega) q13]; decide, by omega, by omega, by omega, by omega, by omega, by omega, by omega⟩
  by_cases q14 : I < 16384
  · exact ⟨18, by rw [own_n14 x0 hI (by omega) q14]; decide, by omega, by omega, by omega, by omega, by omega, by omega, by omega⟩
  by_cases q15 : I < 32768
  · exact ⟨17, by rw [own_n15 x0 hI (by omega) q15]; decide, by omega, by omega, by omega, by omega, by omega, by omega, by omega⟩
  by_cases q16 : I < 65536
  · exact ⟨16, by rw [own_n16 x0 hI (by omega) q16]; decide, by omega, by omega, by omega, by omega, by omega, by omega, by omega⟩
  by_cases q17 : I < 131072
  · exact ⟨15, by rw [own_n17 x0 hI (by omega) q17]; decide, by omega, by omega, by omega, by omega, by omega, by omega, by omega⟩
  by_cases q18 : I < 262144
  · exact ⟨14, by rw [own_n18 x0 hI (by omega) q18]; decide, by omega, by omega, by omega, by omega, by omega, by omega, by omega⟩
  by_cases q19 : I < 524288
  · exact ⟨13, by rw [own_n19 x0 hI (by omega) q19]; decide, by omega, by omega, by omega, by omega, by omega, by omega, by omega⟩
  by_cases q20 : I < 1048576
  · exact ⟨12, by rw [own_n20 x0 hI (by omega) q20]; decide, by omega, by omega, by omega, by omega, by omega, by omega, by omega⟩
  by_cases q21 : I < 2097152
  · exact ⟨11, by rw [own_n21 x0 hI (by omega) q21]; decide, by omega, by omega, by omega, by omega, by omega, by omega, by omega⟩
  by_cases q22 : I < 4194304
  · exact ⟨10, by rw [own_n22 x0 hI (by omega) q22]; decide, by omega, by omega, by omega, by omega, by omega, by omega, by omega⟩
  by_cases q23 : I < 8388608
  · exact ⟨9, by rw [own_n23 x0 hI (by omega) q23]; decide, by omega, by omega, by omega, by omega, by omega, by omega, by omega⟩
  by_cases q24 : I < 16777216
  · exact ⟨8, by rw [own_n24 x0 hI (by omega) q24]; decide, by omega, by omega, by omega, by omega, by omega, by omega, by omega⟩
  by_cases q25 : I < 33554432
  · exact ⟨7, by rw [own_n25 x0 hI (by omega) q25]; decide, by omega, by omega, by omega, by omega, by omega, by omega, by omega⟩
  by_cases q26 : I < 67108864
  · exact ⟨6, by rw [own_n26 x0 hI (by omega) q26]; decide, by omega, by omega, by omega, by omega, by omega, by omega, by omega⟩
  by_cases q27 : I < 134217728
  · exact ⟨5, by rw [own_n27 x0 hI (by omega) q27]; decide, by omega, by omega, by omega, by omega, by omega, by omega, by omega⟩
  by_cases q28 : I < 268435456
  · exact ⟨4, by rw [own_n28 x0 hI (by omega) q28]; decide, by omega, by omega, by omega, by omega, by omega, by omega, by omega⟩
  by_cases q29 : I < 536870912
  · exact ⟨3, by rw [own_n29 x0 hI (by omega) q29]; decide, by omega, by omega, by omega, by omega, by omega, by omega, by omega⟩
  by_cases q30 : I < 1073741824
  · exact ⟨2, by rw [own_n30 x0 hI (by omega) q30]; decide, by omega, by omega, by omega, by omega, by omega, by omega, by omega⟩
  by_cases q31 : I < 2147483648
  · exact ⟨1, by rw [own_n31 x0 hI (by omega) q31]; decide, by omega, by omega, by omega, by omega, by omega, by omega, by omega⟩
  omega
theorem own_big31 {n k : Int32} (hk : ¬ k < (1 : Int32)) : ¬ ((k.toInt64 <<< ((31 : Int32) &&& 0x3f).toInt64) < n.toInt64) := by
  obtain ⟨K, hK⟩ : ∃ A, k.toInt = A := ⟨_, rfl⟩
  obtain ⟨N, hN⟩ : ∃ A, n.toInt = A := ⟨_, rfl⟩
  have b1 : N < 2147483648 := by rw [← hN]; have := n.toInt_lt; omega
  have b2 : K < 2147483648 := by rw [← hK]; have := k.toInt_lt; omega
  rw [own_lt32 hK (show (1 : Int32).toInt = 1 by decide)] at hk
  have e := Jvm.Kit.i64_shl k.toInt64 (((31 : Int32) &&& 0x3f).toInt64) (k := 31) (by decide) (by rw [own_i2l hK]; omega) (by rw [own_i2l hK]; omega)
  rw [own_i2l hK] at e
  rw [own_lt64 e (own_i2l hN)]
  omega
theorem own_sl {n k : Int32} (hk : ¬ k < (1 : Int32)) : ∀ (f : Nat) (i : Int32), i.toInt + f = 32 → 0 ≤ i.toInt → (i = 0 ∨ (k.toInt64 <<< ((i - 1) &&& 0x3f).toInt64) < n.toInt64) →
    0 ≤ (own_slots n k f i).toInt ∧ (own_slots n k f i).toInt ≤ 31 ∧ ¬ ((k.toInt64 <<< ((own_slots n k f i) &&& 0x3f).toInt64) < n.toInt64) ∧ (own_slots n k f i = 0 ∨ (k.toInt64 <<< (((own_slots n k f i) - 1) &&& 0x3f).toInt64) < n.toInt64) := by
  intro f
  induction f with
  | zero =>
    intro i hi h0 hp
    have hi' : i = 32 := Int32.toInt_inj.mp (by rw [show (32 : Int32).toInt = 32 by decide]; omega)
    subst hi'
    rcases hp with hp | hp
    · exact absurd hp (by decide)
    · exact absurd hp (own_big31 hk)
  | succ f ih =>
    intro i hi h0 hp
    by_cases hc : (k.toInt64 <<< (i &&& 0x3f).toInt64) < n.toInt64
    · have e : own_slots n k (f + 1) i = own_slots n k f (i + 1) := if_pos hc
      have q := own_up hi h0
      rw [e]
      refine ih (i + 1) q.1 q.2 (Or.inr ?_)
      rw [Int32.add_sub_cancel]; exact hc
    · have e : own_slots n k (f + 1) i = i := if_neg hc
      rw [e]
      exact ⟨h0, by omega, hc, hp⟩
theorem own_par (E : Int) : (3 * E + 1) / 2 = 3 * E / 2 + E % 2 := by
  have h : E % 2 = 0 ∨ E % 2 = 1 := by omega
  rcases h with h | h
  · obtain ⟨m, rfl⟩ : ∃ m, E = 2 * m := ⟨E / 2, by omega⟩
    omega
  · obtain ⟨m, rfl⟩ : ∃ m, E = 2 * m + 1 := ⟨E / 2, by omega⟩
    omega
theorem own_r5 {e : Int32} {E : Int} (he : e.toInt = E) (h0 : 0 ≤ E) : (r5 e).toInt = 4 + (3 * E + 1) / 2 := by
  have hb : E < 2147483648 := by rw [← he]; have := e.toInt_lt; omega
  have a := own_add64 (own_mul64 (show (3 : Int64).toInt = 3 by decide) (own_i2l he) (by omega) (by omega)) (show (1 : Int64).toInt = 1 by decide) (by omega) (by omega)
  have d : ((((3 : Int64) * (e.toInt64)) + (1 : Int64)) / (2 : Int64)).toInt = (3 * E + 1) / 2 := by
    rw [Jvm.Kit.i64_div (by rw [a, show (2 : Int64).toInt = 2 by decide]; omega), a, show (2 : Int64).toInt = 2 by decide, Int.tdiv_eq_ediv_of_nonneg (by omega)]
  have t := own_add64 (own_add64 (show (2 : Int64).toInt = 2 by decide) d (by omega) (by omega)) (show (2 : Int64).toInt = 2 by decide) (by omega) (by omega)
  have t' : (r5 e).toInt = 2 + (3 * E + 1) / 2 + 2 := t
  rw [t']; omega
theorem own_chk {x1 x2 x3 x4 : Int32} {z : Int64} {e : Int32} {E : Int} (he : e.toInt = E) (h0 : 0 ≤ E) (hk : r2 x1 x2 x3 x4 = e.toInt64) : (wA_36 x1 x2 x3 x4 z).toInt = 4 + 3 * E / 2 + E % 2 := by
  have hb : E < 2147483648 := by rw [← he]; have := e.toInt_lt; omega
  have hw : (wA_15 x1 x2 x3 x4 z).toInt = E := by unfold wA_15; rw [hk]; exact own_i2l he
  have m := own_mul64 (show (3 : Int64).toInt = 3 by decide) hw (by omega) (by omega)
  have d : (((3 : Int64) * (wA_15 x1 x2 x3 x4 z)) / (2 : Int64)).toInt = 3 * E / 2 := by
    rw [Jvm.Kit.i64_div (by rw [m, show (2 : Int64).toInt = 2 by decide]; omega), m, show (2 : Int64).toInt = 2 by decide, Int.tdiv_eq_ediv_of_nonneg (by omega)]
  have a : ((wA_15 x1 x2 x3 x4 z) &&& (1 : Int64)).toInt = E % 2 := by
    rw [Jvm.Kit.i64_mask _ (1 : Int64) (k := 1) (by decide) (by decide), hw]; rfl
  exact own_add64 (own_add64 (show (4 : Int64).toInt = 4 by decide) d (by omega) (by omega)) a (by omega) (by omega)
theorem own_spC {x1 x2 x3 x4 : Int32} {z : Int64} (h : ¬ x1 < x2) : rA x1 x2 x3 x4 z = 1 := if_neg h
theorem own_spB {x1 x2 x3 x4 : Int32} {z : Int64} (h1 : x1 < x2) (h2 : ¬ (x1 + 1) < x2) {e : Int32} {E : Int} (he : e.toInt = E) (h0 : 0 ≤ E) (hk : r2 x1 x2 x3 x4 = e.toInt64) (hz : z = r5 e + 0) : rA x1 x2 x3 x4 z = 1 := by
  have hb : E < 2147483648 := by rw [← he]; have := e.toInt_lt; omega
  have hZ : z.toInt = 4 + (3 * E + 1) / 2 := by rw [hz, Int64.add_zero]; exact own_r5 he h0
  unfold rA
  have pp := own_par E
  rw [if_pos h1, if_neg h2, if_pos ((own_eq64 hZ (own_chk he h0 hk)).mpr (by omega))]
theorem own_spA {x1 x2 x3 x4 : Int32} {z : Int64} (h1 : x1 < x2) (h2 : (x1 + 1) < x2) {e f : Int32} {E : Int} (he : e.toInt = E) (h0 : 0 ≤ E) (hk : r2 x1 x2 x3 x4 = e.toInt64) (hn : r2 (x1 + 1) x2 x3 x4 = f.toInt64) (hf : ¬ f < (1 : Int32)) (hz : z = r5 e + r7 x3 f) : rA x1 x2 x3 x4 z = 1 := by
  have hb : E < 2147483648 := by rw [← he]; have := e.toInt_lt; omega
  obtain ⟨j0, j1, jc, jp⟩ := own_sl (n := x3) hf 32 (0 : Int32) (by decide) (by decide) (Or.inl rfl)
  have er : own_slots x3 f 32 (0 : Int32) = r6 x3 f := rfl
  rw [er] at j0 j1 jc jp
  obtain ⟨J, hJ⟩ : ∃ J, (r6 x3 f).toInt = J := ⟨_, rfl⟩
  rw [hJ] at j0 j1
  have h7 : (r7 x3 f).toInt = 2 * J + 2 := own_add64 (own_mul64 (show (2 : Int64).toInt = 2 by decide) (own_i2l hJ) (by omega) (by omega)) (show (2 : Int64).toInt = 2 by decide) (by omega) (by omega)
  have hZ : z.toInt = 4 + (3 * E + 1) / 2 + (2 * J + 2) := by rw [hz]; exact own_add64 (own_r5 he h0) h7 (by omega) (by omega)
  have pp := own_par E
  obtain ⟨D, hD, d⟩ : ∃ D, (wA_70 x1 x2 x3 x4 z).toInt = D ∧ D = 2 * J := ⟨_, own_sub64 (own_sub64 hZ (own_chk he h0 hk) (by omega) (by omega)) (show (2 : Int64).toInt = 2 by decide) (by omega) (by omega), by omega⟩
  have hM : ((wA_70 x1 x2 x3 x4 z) &&& (1 : Int64)).toInt = D % 2 := by
    rw [Jvm.Kit.i64_mask _ (1 : Int64) (k := 1) (by decide) (by decide), hD]; rfl
  have hH : (wA_96 x1 x2 x3 x4 z).toInt = J := by
    unfold wA_96
    rw [Jvm.Kit.i64_div (by rw [hD, show (2 : Int64).toInt = 2 by decide]; omega), hD, show (2 : Int64).toInt = 2 by decide, Int.tdiv_eq_ediv_of_nonneg (by omega)]; omega
  have z0 := show (0 : Int64).toInt = 0 by decide
  have e1 : (wA_96 x1 x2 x3 x4 z).toInt32 = r6 x3 f := Int32.toInt_inj.mp (by rw [Jvm.Kit.i32_of_i64 (by omega) (by omega), hH, hJ])
  have e2 : wA_119 x1 x2 x3 x4 z = f.toInt64 := hn
  unfold rA
  rw [if_pos h1, if_pos h2, if_neg (fun q => by have := (own_lt64 hD z0).mp q; omega), if_pos ((own_eq64 hM z0).mpr (by omega)), if_neg (fun q => by have := (own_lt64 (show (31 : Int64).toInt = 31 by decide) hH).mp q; omega), e1, e2, if_neg jc]
  by_cases hq : wA_96 x1 x2 x3 x4 z = (0 : Int64)
  · rw [if_pos hq]
  · rw [if_neg hq]
    have hJ0 : ¬ J = 0 := fun q => hq ((own_eq64 hH z0).mpr q)
    have e3 : ((wA_96 x1 x2 x3 x4 z) - (1 : Int64)).toInt32 = r6 x3 f - 1 := by
      have a := own_sub64 hH (show (1 : Int64).toInt = 1 by decide) (by omega) (by omega)
      exact Int32.toInt_inj.mp (by rw [Jvm.Kit.i32_of_i64 (by omega) (by omega), a, own_sub32 hJ (show (1 : Int32).toInt = 1 by decide) (by omega) (by omega)])
    rw [e3]
    rcases jp with jp | jp
    · exact absurd ((own_eq32 hJ (show (0 : Int32).toInt = 0 by decide)).mp jp) hJ0
    · exact if_pos jp
theorem own_n1' (x0 x1 x2 : Int32) : ∃ N, (w0_8 x0 x1 x2).toInt = N ∧ 1 ≤ N := by
  obtain ⟨A, m0, a0, -, -⟩ := own_m32 x0 (2147483647 : Int32) (k := 31) (by decide) (by decide)
  unfold w0_8 r1
  by_cases h : (1 : Int32) < c0_5_0 x0 x1 x2
  · rw [if_pos h]
    exact ⟨A, m0, by have := (own_lt32 (v := c0_5_0 x0 x1 x2) (show (1 : Int32).toInt = 1 by decide) m0).mp h; omega⟩
  · rw [if_neg h]; exact ⟨1, by decide, by decide⟩
theorem own_hr (x0 x1 x2 : Int32) : (w0_15 x0 x1 x2) = (1 : Int32) ∨ (w0_15 x0 x1 x2) = (2 : Int32) ∨ (w0_15 x0 x1 x2) = (3 : Int32) ∨ (w0_15 x0 x1 x2) = (4 : Int32) ∨ (w0_15 x0 x1 x2) = (5 : Int32) ∨ (w0_15 x0 x1 x2) = (6 : Int32) ∨ (w0_15 x0 x1 x2) = (7 : Int32) ∨ (w0_15 x0 x1 x2) = (8 : Int32) := by
  obtain ⟨A, m0, a0, a1, -⟩ := own_m32 x2 (7 : Int32) (k := 3) (by decide) (by decide)
  have h : (w0_15 x0 x1 x2).toInt = 1 + A := own_add32 (show (1 : Int32).toInt = 1 by decide) m0 (by omega) (by omega)
  rw [own_eq32 h (show (1 : Int32).toInt = 1 by decide), own_eq32 h (show (2 : Int32).toInt = 2 by decide), own_eq32 h (show (3 : Int32).toInt = 3 by decide), own_eq32 h (show (4 : Int32).toInt = 4 by decide), own_eq32 h (show (5 : Int32).toInt = 5 by decide), own_eq32 h (show (6 : Int32).toInt = 6 by decide), own_eq32 h (show (7 : Int32).toInt = 7 by decide), own_eq32 h (show (8 : Int32).toInt = 8 by decide)]
  omega
theorem own_k1 (x0 x1 x2 : Int32) (h : (w0_15 x0 x1 x2) = (1 : Int32)) : ∃ K, (w0_34 x0 x1 x2).toInt = K ∧ 1 ≤ K ∧ K * 1 < 2147483648 := by
  obtain ⟨B, m0, b0, b1, -⟩ := own_m32 x1 (2147483647 : Int32) (k := 31) (by decide) (by decide)
  have e : r1 (0 : Int32) (c0_27_0 x0 x1 x2) = (0 : Int32) := by unfold c0_27_0; rw [h]; decide
  have hc : (c0_31_0 x0 x1 x2).toInt = B / 1 := by
    unfold c0_31_0; rw [e]
    exact own_us m0 b0 (n := ((0 : Int32) &&& 31).toUInt32) (k := 0) (by decide) (by decide) (by decide)
  unfold w0_34 r1
  by_cases q : (1 : Int32) < c0_31_0 x0 x1 x2
  · rw [if_pos q]
    exact ⟨B / 1, hc, by have := (own_lt32 (show (1 : Int32).toInt = 1 by decide) hc).mp q; omega, by omega⟩
  · rw [if_neg q]; exact ⟨1, by decide, by decide, by decide⟩
theorem own_v1 (x0 x1 x2 : Int32) (h : (w0_15 x0 x1 x2) = (1 : Int32)) : ∃ N K, (w0_8 x0 x1 x2).toInt = N ∧ 1 ≤ N ∧ (w0_34 x0 x1 x2).toInt = K ∧ 1 ≤ K ∧ K * 1 < 2147483648 := by
  obtain ⟨N, hN, n1⟩ := own_n1' x0 x1 x2
  obtain ⟨K, hK, k1, k2⟩ := own_k1 x0 x1 x2 h
  exact ⟨N, K, hN, n1, hK, k1, k2⟩
theorem own_h1 (x0 x1 x2 : Int32) : (w0_15 x0 x1 x2) = (1 : Int32) → (¬ ((w0_8 x0 x1 x2) < (1 : Int32))) ∧ (¬ ((w0_34 x0 x1 x2) < (1 : Int32))) ∧ (((1 : Int32) - (2 : Int32)) < (r3 (w0_34 x0 x1 x2))) := by
  intro h
  obtain ⟨N, K, hN, n1, hK, k1, k2⟩ := own_v1 x0 x1 x2 h
  obtain ⟨R, hR, r1, r2, r3, r4, r5, r6, r7⟩ := own_nl (w0_34 x0 x1 x2) hK k1
  exact ⟨fun q => by have := (own_lt32 hN (show (1 : Int32).toInt = 1 by decide)).mp q; omega, fun q => by have := (own_lt32 hK (show (1 : Int32).toInt = 1 by decide)).mp q; omega, (own_lt32 (show ((1 : Int32) - (2 : Int32)).toInt = -1 by decide) hR).mpr (by omega)⟩
theorem own_law1 (x0 x1 x2 : Int32) (h : (w0_15 x0 x1 x2) = (1 : Int32)) : r0 x0 x1 x2 = 1 := by
  obtain ⟨N, K, hN, n1, hK, k1, k2⟩ := own_v1 x0 x1 x2 h
  have hp := own_h1 x0 x1 x2 h
  have k_0 : r2 (0 : Int32) (1 : Int32) (w0_8 x0 x1 x2) (w0_34 x0 x1 x2) = (w0_34 x0 x1 x2).toInt64 := (if_neg (by decide)).trans (Int64.toInt_inj.mp (by rw [Jvm.Kit.i64_shl _ (((0 : Int32) &&& 0x3f).toInt64) (k := 0) (by decide) (by rw [own_i2l hK]; omega) (by rw [own_i2l hK]; omega), own_i2l hK]; omega))
  have s_0 : rA (0 : Int32) (1 : Int32) (w0_8 x0 x1 x2) (w0_34 x0 x1 x2) (own_z (w0_8 x0 x1 x2) (w0_34 x0 x1 x2) (1 : Int32) 0) = 1 := own_spB (by decide) (by decide) hK (by omega) k_0 rfl
  have s_1 : rA (1 : Int32) (1 : Int32) (w0_8 x0 x1 x2) (w0_34 x0 x1 x2) (own_z (w0_8 x0 x1 x2) (w0_34 x0 x1 x2) (1 : Int32) 1) = 1 := own_spC (by decide)
  have s_2 : rA (2 : Int32) (1 : Int32) (w0_8 x0 x1 x2) (w0_34 x0 x1 x2) (own_z (w0_8 x0 x1 x2) (w0_34 x0 x1 x2) (1 : Int32) 2) = 1 := own_spC (by decide)
  have s_3 : rA (3 : Int32) (1 : Int32) (w0_8 x0 x1 x2) (w0_34 x0 x1 x2) (own_z (w0_8 x0 x1 x2) (w0_34 x0 x1 x2) (1 : Int32) 3) = 1 := own_spC (by decide)
  have s_4 : rA (4 : Int32) (1 : Int32) (w0_8 x0 x1 x2) (w0_34 x0 x1 x2) (own_z (w0_8 x0 x1 x2) (w0_34 x0 x1 x2) (1 : Int32) 4) = 1 := own_spC (by decide)
  have s_5 : rA (5 : Int32) (1 : Int32) (w0_8 x0 x1 x2) (w0_34 x0 x1 x2) (own_z (w0_8 x0 x1 x2) (w0_34 x0 x1 x2) (1 : Int32) 5) = 1 := own_spC (by decide)
  have s_6 : rA (6 : Int32) (1 : Int32) (w0_8 x0 x1 x2) (w0_34 x0 x1 x2) (own_z (w0_8 x0 x1 x2) (w0_34 x0 x1 x2) (1 : Int32) 6) = 1 := own_spC (by decide)
  have s_7 : rA (7 : Int32) (1 : Int32) (w0_8 x0 x1 x2) (w0_34 x0 x1 x2) (own_z (w0_8 x0 x1 x2) (w0_34 x0 x1 x2) (1 : Int32) 7) = 1 := own_spC (by decide)
  unfold r0
  rw [h, s_0, s_1, s_2, s_3, s_4, s_5, s_6, s_7]; decide
theorem own_k2 (x0 x1 x2 : Int32) (h : (w0_15 x0 x1 x2) = (2 : Int32)) : ∃ K, (w0_34 x0 x1 x2).toInt = K ∧ 1 ≤ K ∧ K * 1 < 2147483648 := by
  obtain ⟨B, m0, b0, b1, -⟩ := own_m32 x1 (2147483647 : Int32) (k := 31) (by decide) (by decide)
  have e : r1 (0 : Int32) (c0_27_0 x0 x1 x2) = (0 : Int32) := by unfold c0_27_0; rw [h]; decide
  have hc : (c0_31_0 x0 x1 x2).toInt = B / 1 := by
    unfold c0_31_0; rw [e]
    exact own_us m0 b0 (n := ((0 : Int32) &&& 31).toUInt32) (k := 0) (by decide) (by decide) (by decide)
  unfold w0_34 r1
  by_cases q : (1 : Int32) < c0_31_0 x0 x1 x2
  · rw [if_pos q]
    exact ⟨B / 1, hc, by have := (own_lt32 (show (1 : Int32).toInt = 1 by decide) hc).mp q; omega, by omega⟩
  · rw [if_neg q]; exact ⟨1, by decide, by decide, by decide⟩
theorem own_v2 (x0 x1 x2 : Int32) (h : (w0_15 x0 x1 x2) = (2 : Int32)) : ∃ N K, (w0_8 x0 x1 x2).toInt = N ∧ 1 ≤ N ∧ (w0_34 x0 x1 x2).toInt = K ∧ 1 ≤ K ∧ K * 1 < 2147483648 := by
  obtain ⟨N, hN, n1⟩ := own_n1' x0 x1 x2
  obtain ⟨K, hK, k1, k2⟩ := own_k2 x0 x1 x2 h
  exact ⟨N, K, hN, n1, hK, k1, k2⟩
theorem own_h2 (x0 x1 x2 : Int32) : (w0_15 x0 x1 x2) = (2 : Int32) → (¬ ((w0_8 x0 x1 x2) < (1 : Int32))) ∧ (¬ ((w0_34 x0 x1 x2) < (1 : Int32))) ∧ ((0 : Int32) < (r3 (w0_34 x0 x1 x2))) ∧ (¬ ((w0_8 x0 x1 x2) < (1 : Int32))) := by
  intro h
  obtain ⟨N, K, hN, n1, hK, k1, k2⟩ := own_v2 x0 x1 x2 h
  obtain ⟨R, hR, r1, r2, r3, r4, r5, r6, r7⟩ := own_nl (w0_34 x0 x1 x2) hK k1
  exact ⟨fun q => by have := (own_lt32 hN (show (1 : Int32).toInt = 1 by decide)).mp q; omega, fun q => by have := (own_lt32 hK (show (1 : Int32).toInt = 1 by decide)).mp q; omega, (own_lt32 (show (0 : Int32).toInt = 0 by decide) hR).mpr (by omega), fun q => by have := (own_lt32 hN (show (1 : Int32).toInt = 1 by decide)).mp q; omega⟩
theorem own_law2 (x0 x1 x2 : Int32) (h : (w0_15 x0 x1 x2) = (2 : Int32)) : r0 x0 x1 x2 = 1 := by
  obtain ⟨N, K, hN, n1, hK, k1, k2⟩ := own_v2 x0 x1 x2 h
  have hp := own_h2 x0 x1 x2 h
  have k_0 : r2 (0 : Int32) (2 : Int32) (w0_8 x0 x1 x2) (w0_34 x0 x1 x2) = (w0_34 x0 x1 x2).toInt64 := ((if_pos (by decide)).trans (if_neg (by decide))).trans (Int64.toInt_inj.mp (by rw [Jvm.Kit.i64_shl _ (((0 : Int32) &&& 0x3f).toInt64) (k := 0) (by decide) (by rw [own_i2l hK]; omega) (by rw [own_i2l hK]; omega), own_i2l hK]; omega))
  have k_1 : r2 (1 : Int32) (2 : Int32) (w0_8 x0 x1 x2) (w0_34 x0 x1 x2) = (w0_8 x0 x1 x2).toInt64 := (if_pos (by decide)).trans (if_pos (by decide))
  have s_0 : rA (0 : Int32) (2 : Int32) (w0_8 x0 x1 x2) (w0_34 x0 x1 x2) (own_z (w0_8 x0 x1 x2) (w0_34 x0 x1 x2) (2 : Int32) 0) = 1 := own_spA (by decide) (by decide) (e := (w0_34 x0 x1 x2)) (f := (w0_8 x0 x1 x2)) hK (by omega) k_0 k_1 hp.2.2.2 rfl
  have s_1 : rA (1 : Int32) (2 : Int32) (w0_8 x0 x1 x2) (w0_34 x0 x1 x2) (own_z (w0_8 x0 x1 x2) (w0_34 x0 x1 x2) (2 : Int32) 1) = 1 := own_spB (by decide) (by decide) hN (by omega) k_1 rfl
  have s_2 : rA (2 : Int32) (2 : Int32) (w0_8 x0 x1 x2) (w0_34 x0 x1 x2) (own_z (w0_8 x0 x1 x2) (w0_34 x0 x1 x2) (2 : Int32) 2) = 1 := own_spC (by decide)
  have s_3 : rA (3 : Int32) (2 : Int32) (w0_8 x0 x1 x2) (w0_34 x0 x1 x2) (own_z (w0_8 x0 x1 x2) (w0_34 x0 x1 x2) (2 : Int32) 3) = 1 := own_spC (by decide)
  have s_4 : rA (4 : Int32) (2 : Int32) (w0_8 x0 x1 x2) (w0_34 x0 x1 x2) (own_z (w0_8 x0 x1 x2) (w0_34 x0 x1 x2) (2 : Int32) 4) = 1 := own_spC (by decide)
  have s_5 : rA (5 : Int32) (2 : Int32) (w0_8 x0 x1 x2) (w0_34 x0 x1 x2) (own_z (w0_8 x0 x1 x2) (w0_34 x0 x1 x2) (2 : Int32) 5) = 1 := own_spC (by decide)
  have s_6 : rA (6 : Int32) (2 : Int32) (w0_8 x0 x1 x2) (w0_34 x0 x1 x2) (own_z (w0_8 x0 x1 x2) (w0_34 x0 x1 x2) (2 : Int32) 6) = 1 := own_spC (by decide)
  have s_7 : rA (7 : Int32) (2 : Int32) (w0_8 x0 x1 x2) (w0_34 x0 x1 x2) (own_z (w0_8 x0 x1 x2) (w0_34 x0 x1 x2) (2 : Int32) 7) = 1 := own_spC (by decide)
  unfold r0
  rw [h, s_0, s_1, s_2, s_3, s_4, s_5, s_6, s_7]; decide
theorem own_k3 (x0 x1 x2 : Int32) (h : (w0_15 x0 x1 x2) = (3 : Int32)) : ∃ K, (w0_34 x0 x1 x2).toInt = K ∧ 1 ≤ K ∧ K * 2 < 2147483648 := by
  obtain ⟨B, m0, b0, b1, -⟩ := own_m32 x1 (2147483647 : Int32) (k := 31) (by decide) (by decide)
  have e : r1 (0 : Int32) (c0_27_0 x0 x1 x2) = (1 : Int32) := by unfold c0_27_0; rw [h]; decide
  have hc : (c0_31_0 x0 x1 x2).toInt = B / 2 := by
    unfold c0_31_0; rw [e]
    exact own_us m0 b0 (n := ((1 : Int32) &&& 31).toUInt32) (k := 1) (by decide) (by decide) (by decide)
  unfold w0_34 r1
  by_cases q : (1 : Int32) < c0_31_0 x0 x1 x2
  · rw [if_pos q]
    exact ⟨B / 2, hc, by have := (own_lt32 (show (1 : Int32).toInt = 1 by decide) hc).mp q; omega, by omega⟩
  · rw [if_neg q]; exact ⟨1, by decide, by decide, by decide⟩
theorem own_v3 (x0 x1 x2 : Int32) (h : (w0_15 x0 x1 x2) = (3 : Int32)) : ∃ N K, (w0_8 x0 x1 x2).toInt = N ∧ 1 ≤ N ∧ (w0_34 x0 x1 x2).toInt = K ∧ 1 ≤ K ∧ K * 2 < 2147483648 ∧ ((2 : Int32) * (w0_34 x0 x1 x2)).toInt = 2 * K := by
  obtain ⟨N, hN, n1⟩ := own_n1' x0 x1 x2
  obtain ⟨K, hK, k1, k2⟩ := own_k3 x0 x1 x2 h
  have f1 : ((2 : Int32) * (w0_34 x0 x1 x2)).toInt = 2 * K := (own_mul32 (show (2 : Int32).toInt = 2 by decide) hK (by omega) (by omega)).trans (by omega)
  exact ⟨N, K, hN, n1, hK, k1, k2, f1⟩
theorem own_h3 (x0 x1 x2 : Int32) : (w0_15 x0 x1 x2) = (3 : Int32) → (¬ ((w0_8 x0 x1 x2) < (1 : Int32))) ∧ (¬ ((w0_34 x0 x1 x2) < (1 : Int32))) ∧ ((1 : Int32) < (r3 (w0_34 x0 x1 x2))) ∧ (¬ (((2 : Int32) * (w0_34 x0 x1 x2)) < (1 : Int32))) ∧ (¬ ((w0_8 x0 x1 x2) < (1 : Int32))) := by
  intro h
  obtain ⟨N, K, hN, n1, hK, k1, k2, f1⟩ := own_v3 x0 x1 x2 h
  obtain ⟨R, hR, r1, r2, r3, r4, r5, r6, r7⟩ := own_nl (w0_34 x0 x1 x2) hK k1
  exact ⟨fun q => by have := (own_lt32 hN (show (1 : Int32).toInt = 1 by decide)).mp q; omega, fun q => by have := (own_lt32 hK (show (1 : Int32).toInt = 1 by decide)).mp q; omega, (own_lt32 (show (1 : Int32).toInt = 1 by decide) hR).mpr (by omega), fun q => by have := (own_lt32 f1 (show (1 : Int32).toInt = 1 by decide)).mp q; omega, fun q => by have := (own_lt32 hN (show (1 : Int32).toInt = 1 by decide)).mp q; omega⟩
theorem own_law3 (x0 x1 x2 : Int32) (h : (w0_15 x0 x1 x2) = (3 : Int32)) : r0 x0 x1 x2 = 1 := by
  obtain ⟨N, K, hN, n1, hK, k1, k2, f1⟩ := own_v3 x0 x1 x2 h
  have hp := own_h3 x0 x1 x2 h
  have k_0 : r2 (0 : Int32) (3 : Int32) (w0_8 x0 x1 x2) (w0_34 x0 x1 x2) = (w0_34 x0 x1 x2).toInt64 := ((if_pos (by decide)).trans (if_neg (by decide))).trans (Int64.toInt_inj.mp (by rw [Jvm.Kit.i64_shl _ (((0 : Int32) &&& 0x3f).toInt64) (k := 0) (by decide) (by rw [own_i2l hK]; omega) (by rw [own_i2l hK]; omega), own_i2l hK]; omega))
  have k_1 : r2 (1 : Int32) (3 : Int32) (w0_8 x0 x1 x2) (w0_34 x0 x1 x2) = ((2 : Int32) * (w0_34 x0 x1 x2)).toInt64 := ((if_pos (by decide)).trans (if_neg (by decide))).trans (Int64.toInt_inj.mp (by rw [Jvm.Kit.i64_shl _ (((1 : Int32) &&& 0x3f).toInt64) (k := 1) (by decide) (by rw [own_i2l hK]; omega) (by rw [own_i2l hK]; omega), own_i2l hK, own_i2l f1]; omega))
  have k_2 : r2 (2 : Int32) (3 : Int32) (w0_8 x0 x1 x2) (w0_34 x0 x1 x2) = (w0_8 x0 x1 x2).toInt64 := (if_pos (by decide)).trans (if_pos (by decide))
  have s_0 : rA (0 : Int32) (3 : Int32) (w0_8 x0 x1 x2) (w0_34 x0 x1 x2) (own_z (w0_8 x0 x1 x2) (w0_34 x0 x1 x2) (3 : Int32) 0) = 1 := own_spA (by decide) (by decide) (e := (w0_34 x0 x1 x2)) (f := ((2 : Int32) * (w0_34 x0 x1 x2))) hK (by omega) k_0 k_1 hp.2.2.2.1 rfl
  have s_1 : rA (1 : Int32) (3 : Int32) (w0_8 x0 x1 x2) (w0_34 x0 x1 x2) (own_z (w0_8 x0 x1 x2) (w0_34 x0 x1 x2) (3 : Int32) 1) = 1 := own_spA (by decide) (by decide) (e := ((2 : Int32) * (w0_34 x0 x1 x2))) (f := (w0_8 x0 x1 x2)) f1 (by omega) k_1 k_2 hp.2.2.2.2 rfl
  have s_2 : rA (2 : Int32) (3 : Int32) (w0_8 x0 x1 x2) (w0_34 x0 x1 x2) (own_z (w0_8 x0 x1 x2) (w0_34 x0 x1 x2) (3 : Int32) 2) = 1 := own_spB (by decide) (by decide) hN (by omega) k_2 rfl
  have s_3 : rA (3 : Int32) (3 : Int32) (w0_8 x0 x1 x2) (w0_34 x0 x1 x2) (own_z (w0_8 x0 x1 x2) (w0_34 x0 x1 x2) (3 : Int32) 3) = 1 := own_spC (by decide)
  have s_4 : rA (4 : Int32) (3 : Int32) (w0_8 x0 x1 x2) (w0_34 x0 x1 x2) (own_z (w0_8 x0 x1 x2) (w0_34 x0 x1 x2) (3 : Int32) 4) = 1 := own_spC (by decide)
  have s_5 : rA (5 : Int32) (3 : Int32) (w0_8 x0 x1 x2) (w0_34 x0 x1 x2) (own_z (w0_8 x0 x1 x2) (w0_34 x0 x1 x2) (3 : Int32) 5) = 1 := own_spC (by decide)
  have s_6 : rA (6 : Int32) (3 : Int32) (w0_8 x0 x1 x2) (w0_34 x0 x1 x2) (own_z (w0_8 x0 x1 x2) (w0_34 x0 x1 x2) (3 : Int32) 6) = 1 := own_spC (by decide)
  have s_7 : rA (7 : Int32) (3 : Int32) (w0_8 x0 x1 x2) (w0_34 x0 x1 x2) (own_z (w0_8 x0 x1 x2) (w0_34 x0 x1 x2) (3 : Int32) 7) = 1 := own_spC (by decide)
  unfold r0
  rw [h, s_0, s_1, s_2, s_3, s_4, s_5, s_6, s_7]; decide
theorem own_k4 (x0 x1 x2 : Int32) (h : (w0_15 x0 x1 x2) = (4 : Int32)) : ∃ K, (w0_34 x0 x1 x2).toInt = K ∧ 1 ≤ K ∧ K * 4 < 2147483648 := by
  obtain ⟨B, m0, b0, b1, -⟩ := own_m32 x1 (2147483647 : Int32) (k := 31) (by decide) (by decide)
  have e : r1 (0 : Int32) (c0_27_0 x0 x1 x2) = (2 : Int32) := by unfold c0_27_0; rw [h]; decide
  have hc : (c0_31_0 x0 x1 x2).toInt = B / 4 := by
    unfold c0_31_0; rw [e]
    exact own_us m0 b0 (n := ((2 : Int32) &&& 31).toUInt32) (k := 2) (by decide) (by decide) (by decide)
  unfold w0_34 r1
  by_cases q : (1 : Int32) < c0_31_0 x0 x1 x2
  · rw [if_pos q]
    exact ⟨B / 4, hc, by have := (own_lt32 (show (1 : Int32).toInt = 1 by decide) hc).mp q; omega, by omega⟩
  · rw [if_neg q]; exact ⟨1, by decide, by decide, by decide⟩
theorem own_v4 (x0 x1 x2 : Int32) (h : (w0_15 x0 x1 x2) = (4 : Int32)) : ∃ N K, (w0_8 x0 x1 x2).toInt = N ∧ 1 ≤ N ∧ (w0_34 x0 x1 x2).toInt = K ∧ 1 ≤ K ∧ K * 4 < 2147483648 ∧ ((2 : Int32) * (w0_34 x0 x1 x2)).toInt = 2 * K ∧ ((2 : Int32) * ((2 : Int32) * (w0_34 x0 x1 x2))).toInt = 4 * K := by
  obtain ⟨N, hN, n1⟩ := own_n1' x0 x1 x2
  obtain ⟨K, hK, k1, k2⟩ := own_k4 x0 x1 x2 h
  have f1 : ((2 : Int32) * (w0_34 x0 x1 x2)).toInt = 2 * K := (own_mul32 (show (2 : Int32).toInt = 2 by decide) hK (by omega) (by omega)).trans (by omega)
  have f2 : ((2 : Int32) * ((2 : Int32) * (w0_34 x0 x1 x2))).toInt = 4 * K := (own_mul32 (show (2 : Int32).toInt = 2 by decide) f1 (by omega) (by omega)).trans (by omega)
  exact ⟨N, K, hN, n1, hK, k1, k2, f1, f2⟩
theorem own_h4 (x0 x1 x2 : Int32) : (w0_15 x0 x1 x2) = (4 : Int32) → (¬ ((w0_8 x0 x1 x2) < (1 : Int32))) ∧ (¬ ((w0_34 x0 x1 x2) < (1 : Int32))) ∧ ((2 : Int32) < (r3 (w0_34 x0 x1 x2))) ∧ (¬ (((2 : Int32) * (w0_34 x0 x1 x2)) < (1 : Int32))) ∧ (¬ (((2 : Int32) * ((2 : Int32) * (w0_34 x0 x1 x2))) < (1 : Int32))) ∧ (¬ ((w0_8 x0 x1 x2) < (1 : Int32))) := by
  intro h
  obtain ⟨N, K, hN, n1, hK, k1, k2, f1, f2⟩ := own_v4 x0 x1 x2 h
  obtain ⟨R, hR, r1, r2, r3, r4, r5, r6, r7⟩ := own_nl (w0_34 x0 x1 x2) hK k1
  exact ⟨fun q => by have := (own_lt32 hN (show (1 : Int32).toInt = 1 by decide)).mp q; omega, fun q => by have := (own_lt32 hK (show (1 : Int32).toInt = 1 by decide)).mp q; omega, (own_lt32 (show (2 : Int32).toInt = 2 by decide) hR).mpr (by omega), fun q => by have := (own_lt32 f1 (show (1 : Int32).toInt = 1 by decide)).mp q; omega, fun q => by have := (own_lt32 f2 (show (1 : Int32).toInt = 1 by decide)).mp q; omega, fun q => by have := (own_lt32 hN (show (1 : Int32).toInt = 1 by decide)).mp q; omega⟩
theorem own_law4 (x0 x1 x2 : Int32) (h : (w0_15 x0 x1 x2) = (4 : Int32)) : r0 x0 x1 x2 = 1 := by
  obtain ⟨N, K, hN, n1, hK, k1, k2, f1, f2⟩ := own_v4 x0 x1 x2 h
  have hp := own_h4 x0 x1 x2 h
  have k_0 : r2 (0 : Int32) (4 : Int32) (w0_8 x0 x1 x2) (w0_34 x0 x1 x2) = (w0_34 x0 x1 x2).toInt64 := ((if_pos (by decide)).trans (if_neg (by decide))).trans (Int64.toInt_inj.mp (by rw [Jvm.Kit.i64_shl _ (((0 : Int32) &&& 0x3f).toInt64) (k := 0) (by decide) (by rw [own_i2l hK]; omega) (by rw [own_i2l hK]; omega), own_i2l hK]; omega))
  have k_1 : r2 (1 : Int32) (4 : Int32) (w0_8 x0 x1 x2) (w0_34 x0 x1 x2) = ((2 : Int32) * (w0_34 x0 x1 x2)).toInt64 := ((if_pos (by decide)).trans (if_neg (by decide))).trans (Int64.toInt_inj.mp (by rw [Jvm.Kit.i64_shl _ (((1 : Int32) &&& 0x3f).toInt64) (k := 1) (by decide) (by rw [own_i2l hK]; omega) (by rw [own_i2l hK]; omega), own_i2l hK, own_i2l f1]; omega))
  have k_2 : r2 (2 : Int32) (4 : Int32) (w0_8 x0 x1 x2) (w0_34 x0 x1 x2) = ((2 : Int32) * ((2 : Int32) * (w0_34 x0 x1 x2))).toInt64 := ((if_pos (by decide)).trans (if_neg (by decide))).trans (Int64.toInt_inj.mp (by rw [Jvm.Kit.i64_shl _ (((2 : Int32) &&& 0x3f).toInt64) (k := 2) (by decide) (by rw [own_i2l hK]; omega) (by rw [own_i2l hK]; omega), own_i2l hK, own_i2l f2]; omega))
  have k_3 : r2 (3 : Int32) (4 : Int32) (w0_8 x0 x1 x2) (w0_34 x0 x1 x2) = (w0_8 x0 x1 x2).toInt64 := (if_pos (by decide)).trans (if_pos (by decide))
  have s_0 : rA (0 : Int32) (4 : Int32) (w0_8 x0 x1 x2) (w0_34 x0 x1 x2) (own_z (w0_8 x0 x1 x2) (w0_34 x0 x1 x2) (4 : Int32) 0) = 1 := own_spA (by decide) (by decide) (e := (w0_34 x0 x1 x2)) (f := ((2 : Int32) * (w0_34 x0 x1 x2))) hK (by omega) k_0 k_1 hp.2.2.2.1 rfl
  have s_1 : rA (1 : Int32) (4 : Int32) (w0_8 x0 x1 x2) (w0_34 x0 x1 x2) (own_z (w0_8 x0 x1 x2) (w0_34 x0 x1 x2) (4 : Int32) 1) = 1 := own_spA (by decide) (by decide) (e := ((2 : Int32) * (w0_34 x0 x1 x2))) (f := ((2 : Int32) * ((2 : Int32) * (w0_34 x0 x1 x2)))) f1 (by omega) k_1 k_2 hp.2.2.2.2.1 rfl
  have s_2 : rA (2 : Int32) (4 : Int32) (w0_8 x0 x1 x2) (w0_34 x0 x1 x2) (own_z (w0_8 x0 x1 x2) (w0_34 x0 x1 x2) (4 : Int32) 2) = 1 := own_spA (by decide) (by decide) (e := ((2 : Int32) * ((2 : Int32) * (w0_34 x0 x1 x2)))) (f := (w0_8 x0 x1 x2)) f2 (by omega) k_2 k_3 hp.2.2.2.2.2 rfl
  have s_3 : rA (3 : Int32) (4 : Int32) (w0_8 x0 x1 x2) (w0_34 x0 x1 x2) (own_z (w0_8 x0 x1 x2) (w0_34 x0 x1 x2) (4 : Int32) 3) = 1 := own_spB (by decide) (by decide) hN (by omega) k_3 rfl
  have s_4 : rA (4 : Int32) (4 : Int32) (w0_8 x0 x1 x2) (w0_34 x0 x1 x2) (own_z (w0_8 x0 x1 x2) (w0_34 x0 x1 x2) (4 : Int32) 4) = 1 := own_spC (by decide)
  have s_5 : rA (5 : Int32) (4 : Int32) (w0_8 x0 x1 x2) (w0_34 x0 x1 x2) (own_z (w0_8 x0 x1 x2) (w0_34 x0 x1 x2) (4 : Int32) 5) = 1 := own_spC (by decide)
  have s_6 : rA (6 : Int32) (4 : Int32) (w0_8 x0 x1 x2) (w0_34 x0 x1 x2) (own_z (w0_8 x0 x1 x2) (w0_34 x0 x1 x2) (4 : Int32) 6) = 1 := own_spC (by decide)
  have s_7 : rA (7 : Int32) (4 : Int32) (w0_8 x0 x1 x2) (w0_34 x0 x1 x2) (own_z (w0_8 x0 x1 x2) (w0_34 x0 x1 x2) (4 : Int32) 7) = 1 := own_spC (by decide)
  unfold r0
  rw [h, s_0, s_1, s_2, s_3, s_4, s_5, s_6, s_7]; decide
theorem own_k5 (x0 x1 x2 : Int32) (h : (w0_15 x0 x1 x2) = (5 : Int32)) : ∃ K, (w0_34 x0 x1 x2).toInt = K ∧ 1 ≤ K ∧ K * 8 < 2147483648 := by
  obtain ⟨B, m0, b0, b1, -⟩ := own_m32 x1 (2147483647 : Int32) (k := 31) (by decide) (by decide)
  have e : r1 (0 : Int32) (c0_27_0 x0 x1 x2) = (3 : Int32) := by unfold c0_27_0; rw [h]; decide
  have hc : (c0_31_0 x0 x1 x2).toInt = B / 8 := by
    unfold c0_31_0; rw [e]
    exact own_us m0 b0 (n := ((3 : Int32) &&& 31).toUInt32) (k := 3) (by decide) (by decide) (by decide)
  unfold w0_34 r1
  by_cases q : (1 : Int32) < c0_31_0 x0 x1 x2
  · rw [if_pos q]
    exact ⟨B / 8, hc, by have := (own_lt32 (show (1 : Int32).toInt = 1 by decide) hc).mp q; omega, by omega⟩
  · rw [if_neg q]; exact ⟨1, by decide, by decide, by decide⟩
theorem own_v5 (x0 x1 x2 : Int32) (h : (w0_15 x0 x1 x2) = (5 : Int32)) : ∃ N K, (w0_8 x0 x1 x2).toInt = N ∧ 1 ≤ N ∧ (w0_34 x0 x1 x2).toInt = K ∧ 1 ≤ K ∧ K * 8 < 2147483648 ∧ ((2 : Int32) * (w0_34 x0 x1 x2)).toInt = 2 * K ∧ ((2 : Int32) * ((2 : Int32) * (w0_34 x0 x1 x2))).toInt = 4 * K ∧ ((2 : Int32) * ((2 : Int32) * ((2 : Int32) * (w0_34 x0 x1 x2)))).toInt = 8 * K := by
  obtain ⟨N, hN, n1⟩ := own_n1' x0 x1 x2
  obtain ⟨K, hK, k1, k2⟩ := own_k5 x0 x1 x2 h
  have f1 : ((2 : Int32) * (w0_34 x0 x1 x2)).toInt = 2 * K := (own_mul32 (show (2 : Int32).toInt = 2 by decide) hK (by omega) (by omega)).trans (by omega)
  have f2 : ((2 : Int32) * ((2 : Int32) * (w0_34 x0 x1 x2))).toInt = 4 * K := (own_mul32 (show (2 : Int32).toInt = 2 by decide) f1 (by omega) (by omega)).trans (by omega)
  have f3 : ((2 : Int32) * ((2 : Int32) * ((2 : Int32) * (w0_34 x0 x1 x2)))).toInt = 8 * K := (own_mul32 (show (2 : Int32).toInt = 2 by decide) f2 (by omega) (by omega)).trans (by omega)
  exact ⟨N, K, hN, n1, hK, k1, k2, f1, f2, f3⟩
theorem own_h5 (x0 x1 x2 : Int32) : (w0_15 x0 x1 x2) = (5 : Int32) → (¬ ((w0_8 x0 x1 x2) < (1 : Int32))) ∧ (¬ ((w0_34 x0 x1 x2) < (1 : Int32))) ∧ ((3 : Int32) < (r3 (w0_34 x0 x1 x2))) ∧ (¬ (((2 : Int32) * (w0_34 x0 x1 x2)) < (1 : Int32))) ∧ (¬ (((2 : Int32) * ((2 : Int32) * (w0_34 x0 x1 x2))) < (1 : Int32))) ∧ (¬ (((2 : Int32) * ((2 : Int32) * ((2 : Int32) * (w0_34 x0 x1 x2)))) < (1 : Int32))) ∧ (¬ ((w0_8 x0 x1 x2) < (1 : Int32))) := by
  intro h
  obtain ⟨N, K, hN, n1, hK, k1, k2, f1, f2, f3⟩ := own_v5 x0 x1 x2 h
  obtain ⟨R, hR, r1, r2, r3, r4, r5, r6, r7⟩ := own_nl (w0_34 x0 x1 x2) hK k1
  exact ⟨fun q => by have := (own_lt32 hN (show (1 : Int32).toInt = 1 by decide)).mp q; omega, fun q => by have := (own_lt32 hK (show (1 : Int32).toInt = 1 by decide)).mp q; omega, (own_lt32 (show (3 : Int32).toInt = 3 by decide) hR).mpr (by omega), fun q => by have := (own_lt32 f1 (show (1 : Int32).toInt = 1 by decide)).mp q; omega, fun q => by have := (own_lt32 f2 (show (1 : Int32).toInt = 1 by decide)).mp q; omega, fun q => by have := (own_lt32 f3 (show (1 : Int32).toInt = 1 by decide)).mp q; omega, fun q => by have := (own_lt32 hN (show (1 : Int32).toInt = 1 by decide)).mp q; omega⟩
theorem own_law5 (x0 x1 x2 : Int32) (h : (w0_15 x0 x1 x2) = (5 : Int32)) : r0 x0 x1 x2 = 1 := by
  obtain ⟨N, K, hN, n1, hK, k1, k2, f1, f2, f3⟩ := own_v5 x0 x1 x2 h
  have hp := own_h5 x0 x1 x2 h
  have k_0 : r2 (0 : Int32) (5 : Int32) (w0_8 x0 x1 x2) (w0_34 x0 x1 x2) = (w0_34 x0 x1 x2).toInt64 := ((if_pos (by decide)).trans (if_neg (by decide))).trans (Int64.toInt_inj.mp (by rw [Jvm.Kit.i64_shl _ (((0 : Int32) &&& 0x3f).toInt64) (k := 0) (by decide) (by rw [own_i2l hK]; omega) (by rw [own_i2l hK]; omega), own_i2l hK]; omega))
  have k_1 : r2 (1 : Int32) (5 : Int32) (w0_8 x0 x1 x2) (w0_34 x0 x1 x2) = ((2 : Int32) * (w0_34 x0 x1 x2)).toInt64 := ((if_pos (by decide)).trans (if_neg (by decide))).trans (Int64.toInt_inj.mp (by rw [Jvm.Kit.i64_shl _ (((1 : Int32) &&& 0x3f).toInt64) (k := 1) (by decide) (by rw [own_i2l hK]; omega) (by rw [own_i2l hK]; omega), own_i2l hK, own_i2l f1]; omega))
  have k_2 : r2 (2 : Int32) (5 : Int32) (w0_8 x0 x1 x2) (w0_34 x0 x1 x2) = ((2 : Int32) * ((2 : Int32) * (w0_34 x0 x1 x2))).toInt64 := ((if_pos (by decide)).trans (if_neg (by decide))).trans (Int64.toInt_inj.mp (by rw [Jvm.Kit.i64_shl _ (((2 : Int32) &&& 0x3f).toInt64) (k := 2) (by decide) (by rw [own_i2l hK]; omega) (by rw [own_i2l hK]; omega), own_i2l hK, own_i2l f2]; omega))
  have k_3 : r2 (3 : Int32) (5 : Int32) (w0_8 x0 x1 x2) (w0_34 x0 x1 x2) = ((2 : Int32) * ((2 : Int32) * ((2 : Int32) * (w0_34 x0 x1 x2)))).toInt64 := ((if_pos (by decide)).trans (if_neg (by decide))).trans (Int64.toInt_inj.mp (by rw [Jvm.Kit.i64_shl _ (((3 : Int32) &&& 0x3f).toInt64) (k := 3) (by decide) (by rw [own_i2l hK]; omega) (by rw [own_i2l hK]; omega), own_i2l hK, own_i2l f3]; omega))
  have k_4 : r2 (4 : Int32) (5 : Int32) (w0_8 x0 x1 x2) (w0_34 x0 x1 x2) = (w0_8 x0 x1 x2).toInt64 := (if_pos (by decide)).trans (if_pos (by decide))
  have s_0 : rA (0 : Int32) (5 : Int32) (w0_8 x0 x1 x2) (w0_34 x0 x1 x2) (own_z (w0_8 x0 x1 x2) (w0_34 x0 x1 x2) (5 : Int32) 0) = 1 := own_spA (by decide) (by decide) (e := (w0_34 x0 x1 x2)) (f := ((2 : Int32) * (w0_34 x0 x1 x2))) hK (by omega) k_0 k_1 hp.2.2.2.1 rfl
  have s_1 : rA (1 : Int32) (5 : Int32) (w0_8 x0 x1 x2) (w0_34 x0 x1 x2) (own_z (w0_8 x0 x1 x2) (w0_34 x0 x1 x2) (5 : Int32) 1) = 1 := own_spA (by decide) (by decide) (e := ((2 : Int32) * (w0_34 x0 x1 x2))) (f := ((2 : Int32) * ((2 : Int32) * (w0_34 x0 x1 x2)))) f1 (by omega) k_1 k_2 hp.2.2.2.2.1 rfl
  have s_2 : rA (2 : Int32) (5 : Int32) (w0_8 x0 x1 x2) (w0_34 x0 x1 x2) (own_z (w0_8 x0 x1 x2) (w0_34 x0 x1 x2) (5 : Int32) 2) = 1 := own_spA (by decide) (by decide) (e := ((2 : Int32) * ((2 : Int32) * (w0_34 x0 x1 x2)))) (f := ((2 : Int32) * ((2 : Int32) * ((2 : Int32) * (w0_34 x0 x1 x2))))) f2 (by omega) k_2 k_3 hp.2.2.2.2.2.1 rfl
  have s_3 : rA (3 : Int32) (5 : Int32) (w0_8 x0 x1 x2) (w0_34 x0 x1 x2) (own_z (w0_8 x0 x1 x2) (w0_34 x0 x1 x2) (5 : Int32) 3) = 1 := own_spA (by decide) (by decide) (e := ((2 : Int32) * ((2 : Int32) * ((2 : Int32) * (w0_34 x0 x1 x2))))) (f := (w0_8 x0 x1 x2)) f3 (by omega) k_3 k_4 hp.2.2.2.2.2.2 rfl
  have s_4 : rA (4 : Int32) (5 : Int32) (w0_8 x0 x1 x2) (w0_34 x0 x1 x2) (own_z (w0_8 x0 x1 x2) (w0_34 x0 x1 x2) (5 : Int32) 4) = 1 := own_spB (by decide) (by decide) hN (by omega) k_4 rfl
  have s_5 : rA (5 : Int32) (5 : Int32) (w0_8 x0 x1 x2) (w0_34 x0 x1 x2) (own_z (w0_8 x0 x1 x2) (w0_34 x0 x1 x2) (5 : Int32) 5) = 1 := own_spC (by decide)
  have s_6 : rA (6 : Int32) (5 : Int32) (w0_8 x0 x1 x2) (w0_34 x0 x1 x2) (own_z (w0_8 x0 x1 x2) (w0_34 x0 x1 x2) (5 : Int32) 6) = 1 := own_spC (by decide)
  have s_7 : rA (7 : Int32) (5 : Int32) (w0_8 x0 x1 x2) (w0_34 x0 x1 x2) (own_z (w0_8 x0 x1 x2) (w0_34 x0 x1 x2) (5 : Int32) 7) = 1 := own_spC (by decide)
  unfold r0
  rw [h, s_0, s_1, s_2, s_3, s_4, s_5, s_6, s_7]; decide
theorem own_k6 (x0 x1 x2 : Int32) (h : (w0_15 x0 x1 x2) = (6 : Int32)) : ∃ K, (w0_34 x0 x1 x2).toInt = K ∧ 1 ≤ K ∧ K * 16 < 2147483648 := by
  obtain ⟨B, m0, b0, b1, -⟩ := own_m32 x1 (2147483647 : Int32) (k := 31) (by decide) (by decide)
  have e : r1 (0 : Int32) (c0_27_0 x0 x1 x2) = (4 : Int32) := by unfold c0_27_0; rw [h]; decide
  have hc : (c0_31_0 x0 x1 x2).toInt = B / 16 := by
    unfold c0_31_0; rw [e]
    exact own_us m0 b0 (n := ((4 : Int32) &&& 31).toUInt32) (k := 4) (by decide) (by decide) (by decide)
  unfold w0_34 r1
  by_cases q : (1 : Int32) < c0_31_0 x0 x1 x2
  · rw [if_pos q]
    exact ⟨B / 16, hc, by have := (own_lt32 (show (1 : Int32).toInt = 1 by decide) hc).mp q; omega, by omega⟩
  · rw [if_neg q]; exact ⟨1, by decide, by decide, by decide⟩
theorem own_v6 (x0 x1 x2 : Int32) (h : (w0_15 x0 x1 x2) = (6 : Int32)) : ∃ N K, (w0_8 x0 x1 x2).toInt = N ∧ 1 ≤ N ∧ (w0_34 x0 x1 x2).toInt = K ∧ 1 ≤ K ∧ K * 16 < 2147483648 ∧ ((2 : Int32) * (w0_34 x0 x1 x2)).toInt = 2 * K ∧ ((2 : Int32) * ((2 : Int32) * (w0_34 x0 x1 x2))).toInt = 4 * K ∧ ((2 : Int32) * ((2 : Int32) * ((2 : Int32) * (w0_34 x0 x1 x2)))).toInt = 8 * K ∧ ((2 : Int32) * ((2 : Int32) * ((2 : Int32) * ((2 : Int32) * (w0_34 x0 x1 x2))))).toInt = 16 * K := by
  obtain ⟨N, hN, n1⟩ := own_n1' x0 x1 x2
  obtain ⟨K, hK, k1, k2⟩ := own_k6 x0 x1 x2 h
  have f1 : ((2 : Int32) * (w0_34 x0 x1 x2)).toInt = 2 * K := (own_mul32 (show (2 : Int32).toInt = 2 by decide) hK (by omega) (by omega)).trans (by omega)
  have f2 : ((2 : Int32) * ((2 : Int32) * (w0_34 x0 x1 x2))).toInt = 4 * K := (own_mul32 (show (2 : Int32).toInt = 2 by decide) f1 (by omega) (by omega)).trans (by omega)
  have f3 : ((2 : Int32) * ((2 : Int32) * ((2 : Int32) * (w0_34 x0 x1 x2)))).toInt = 8 * K := (own_mul32 (show (2 : Int32).toInt = 2 by decide) f2 (by omega) (by omega)).trans (by omega)
  have f4 : ((2 : Int32) * ((2 : Int32) * ((2 : Int32) * ((2 : Int32) * (w0_34 x0 x1 x2))))).toInt = 16 * K := (own_mul32 (show (2 : Int32).toInt = 2 by decide) f3 (by omega) (by omega)).trans (by omega)
  exact ⟨N, K, hN, n1, hK, k1, k2, f1, f2, f3, f4⟩
theorem own_h6 (x0 x1 x2 : Int32) : (w0_15 x0 x1 x2) = (6 : Int32) → (¬ ((w0_8 x0 x1 x2) < (1 : Int32))) ∧ (¬ ((w0_34 x0 x1 x2) < (1 : Int32))) ∧ ((4 : Int32) < (r3 (w0_34 x0 x1 x2))) ∧ (¬ (((2 : Int32) * (w0_34 x0 x1 x2)) < (1 : Int32))) ∧ (¬ (((2 : Int32) * ((2 : Int32) * (w0_34 x0 x1 x2))) < (1 : Int32))) ∧ (¬ (((2 : Int32) * ((2 : Int32) * ((2 : Int32) * (w0_34 x0 x1 x2)))) < (1 : Int32))) ∧ (¬ (((2 : Int32) * ((2 : Int32) * ((2 : Int32) * ((2 : Int32) * (w0_34 x0 x1 x2))))) < (1 : Int32))) ∧ (¬ ((w0_8 x0 x1 x2) < (1 : Int32))) := by
  intro h
  obtain ⟨N, K, hN, n1, hK, k1, k2, f1, f2, f3, f4⟩ := own_v6 x0 x1 x2 h
  obtain ⟨R, hR, r1, r2, r3, r4, r5, r6, r7⟩ := own_nl (w0_34 x0 x1 x2) hK k1
  exact ⟨fun q => by have := (own_lt32 hN (show (1 : Int32).toInt = 1 by decide)).mp q; omega, fun q => by have := (own_lt32 hK (show (1 : Int32).toInt = 1 by decide)).mp q; omega, (own_lt32 (show (4 : Int32).toInt = 4 by decide) hR).mpr (by omega), fun q => by have := (own_lt32 f1 (show (1 : Int32).toInt = 1 by decide)).mp q; omega, fun q => by have := (own_lt32 f2 (show (1 : Int32).toInt = 1 by decide)).mp q; omega, fun q => by have := (own_lt32 f3 (show (1 : Int32).toInt = 1 by decide)).mp q; omega, fun q => by have := (own_lt32 f4 (show (1 : Int32).toInt = 1 by decide)).mp q; omega, fun q => by have := (own_lt32 hN (show (1 : Int32).toInt = 1 by decide)).mp q; omega⟩
theorem own_law6 (x0 x1 x2 : Int32) (h : (w0_15 x0 x1 x2) = (6 : Int32)) : r0 x0 x1 x2 = 1 := by
  obtain ⟨N, K, hN, n1, hK, k1, k2, f1, f2, f3, f4⟩ := own_v6 x0 x1 x2 h
  have hp := own_h6 x0 x1 x2 h
  have k_0 : r2 (0 : Int32) (6 : Int32) (w0_8 x0 x1 x2) (w0_34 x0 x1 x2) = (w0_34 x0 x1 x2).toInt64 := ((if_pos (by decide)).trans (if_neg (by decide))).trans (Int64.toInt_inj.mp (by rw [Jvm.Kit.i64_shl _ (((0 : Int32) &&& 0x3f).toInt64) (k := 0) (by decide) (by rw [own_i2l hK]; omega) (by rw [own_i2l hK]; omega), own_i2l hK]; omega))
  have k_1 : r2 (1 : Int32) (6 : Int32) (w0_8 x0 x1 x2) (w0_34 x0 x1 x2) = ((2 : Int32) * (w0_34 x0 x1 x2)).toInt64 := ((if_pos (by decide)).trans (if_neg (by decide))).trans (Int64.toInt_inj.mp (by rw [Jvm.Kit.i64_shl _ (((1 : Int32) &&& 0x3f).toInt64) (k := 1) (by decide) (by rw [own_i2l hK]; omega) (by rw [own_i2l hK]; omega), own_i2l hK, own_i2l f1]; omega))
  have k_2 : r2 (2 : Int32) (6 : Int32) (w0_8 x0 x1 x2) (w0_34 x0 x1 x2) = ((2 : Int32) * ((2 : Int32) * (w0_34 x0 x1 x2))).toInt64 := ((if_pos (by decide)).trans (if_neg (by decide))).trans (Int64.toInt_inj.mp (by rw [Jvm.Kit.i64_shl _ (((2 : Int32) &&& 0x3f).toInt64) (k := 2) (by decide) (by rw [own_i2l hK]; omega) (by rw [own_i2l hK]; omega), own_i2l hK, own_i2l f2]; omega))
  have k_3 : r2 (3 : Int32) (6 : Int32) (w0_8 x0 x1 x2) (w0_34 x0 x1 x2) = ((2 : Int32) * ((2 : Int32) * ((2 : Int32) * (w0_34 x0 x1 x2)))).toInt64 := ((if_pos (by decide)).trans (if_neg (by decide))).trans (Int64.toInt_inj.mp (by rw [Jvm.Kit.i64_shl _ (((3 : Int32) &&& 0x3f).toInt64) (k := 3) (by decide) (by rw [own_i2l hK]; omega) (by rw [own_i2l hK]; omega), own_i2l hK, own_i2l f3]; omega))
  have k_4 : r2 (4 : Int32) (6 : Int32) (w0_8 x0 x1 x2) (w0_34 x0 x1 x2) = ((2 : Int32) * ((2 : Int32) * ((2 : Int32) * ((2 : Int32) * (w0_34 x0 x1 x2))))).toInt64 := ((if_pos (by decide)).trans (if_neg (by decide))).trans (Int64.toInt_inj.mp (by rw [Jvm.Kit.i64_shl _ (((4 : Int32) &&& 0x3f).toInt64) (k := 4) (by decide) (by rw [own_i2l hK]; omega) (by rw [own_i2l hK]; omega), own_i2l hK, own_i2l f4]; omega))
  have k_5 : r2 (5 : Int32) (6 : Int32) (w0_8 x0 x1 x2) (w0_34 x0 x1 x2) = (w0_8 x0 x1 x2).toInt64 := (if_pos (by decide)).trans (if_pos (by decide))
  have s_0 : rA (0 : Int32) (6 : Int32) (w0_8 x0 x1 x2) (w0_34 x0 x1 x2) (own_z (w0_8 x0 x1 x2) (w0_34 x0 x1 x2) (6 : Int32) 0) = 1 := own_spA (by decide) (by decide) (e := (w0_34 x0 x1 x2)) (f := ((2 : Int32) * (w0_34 x0 x1 x2))) hK (by omega) k_0 k_1 hp.2.2.2.1 rfl
  have s_1 : rA (1 : Int32) (6 : Int32) (w0_8 x0 x1 x2) (w0_34 x0 x1 x2) (own_z (w0_8 x0 x1 x2) (w0_34 x0 x1 x2) (6 : Int32) 1) = 1 := own_spA (by decide) (by decide) (e := ((2 : Int32) * (w0_34 x0 x1 x2))) (f := ((2 : Int32) * ((2 : Int32) * (w0_34 x0 x1 x2)))) f1 (by omega) k_1 k_2 hp.2.2.2.2.1 rfl
  have s_2 : rA (2 : Int32) (6 : Int32) (w0_8 x0 x1 x2) (w0_34 x0 x1 x2) (own_z (w0_8 x0 x1 x2) (w0_34 x0 x1 x2) (6 : Int32) 2) = 1 := own_spA (by decide) (by decide) (e := ((2 : Int32) * ((2 : Int32) * (w0_34 x0 x1 x2)))) (f := ((2 : Int32) * ((2 : Int32) * ((2 : Int32) * (w0_34 x0 x1 x2))))) f2 (by omega) k_2 k_3 hp.2.2.2.2.2.1 rfl
  have s_3 : rA (3 : Int32) (6 : Int32) (w0_8 x0 x1 x2) (w0_34 x0 x1 x2) (own_z (w0_8 x0 x1 x2) (w0_34 x0 x1 x2) (6 : Int32) 3) = 1 := own_spA (by decide) (by decide) (e := ((2 : Int32) * ((2 : Int32) * ((2 : Int32) * (w0_34 x0 x1 x2))))) (f := ((2 : Int32) * ((2 : Int32) * ((2 : Int32) * ((2 : Int32) * (w0_34 x0 x1 x2)))))) f3 (by omega) k_3 k_4 hp.2.2.2.2.2.2.1 rfl
  have s_4 : rA (4 : Int32) (6 : Int32) (w0_8 x0 x1 x2) (w0_34 x0 x1 x2) (own_z (w0_8 x0 x1 x2) (w0_34 x0 x1 x2) (6 : Int32) 4) = 1 := own_spA (by decide) (by decide) (e := ((2 : Int32) * ((2 : Int32) * ((2 : Int32) * ((2 : Int32) * (w0_34 x0 x1 x2)))))) (f := (w0_8 x0 x1 x2)) f4 (by omega) k_4 k_5 hp.2.2.2.2.2.2.2 rfl
  have s_5 : rA (5 : Int32) (6 : Int32) (w0_8 x0 x1 x2) (w0_34 x0 x1 x2) (own_z (w0_8 x0 x1 x2) (w0_34 x0 x1 x2) (6 : Int32) 5) = 1 := own_spB (by decide) (by decide) hN (by omega) k_5 rfl
  have s_6 : rA (6 : Int32) (6 : Int32) (w0_8 x0 x1 x2) (w0_34 x0 x1 x2) (own_z (w0_8 x0 x1 x2) (w0_34 x0 x1 x2) (6 : Int32) 6) = 1 := own_spC (by decide)
  have s_7 : rA (7 : Int32) (6 : Int32) (w0_8 x0 x1 x2) (w0_34 x0 x1 x2) (own_z (w0_8 x0 x1 x2) (w0_34 x0 x1 x2) (6 : Int32) 7) = 1 := own_spC (by decide)
  unfold r0
  rw [h, s_0, s_1, s_2, s_3, s_4, s_5, s_6, s_7]; decide
theorem own_k7 (x0 x1 x2 : Int32) (h : (w0_15 x0 x1 x2) = (7 : Int32)) : ∃ K, (w0_34 x0 x1 x2).toInt = K ∧ 1 ≤ K ∧ K * 32 < 2147483648 := by
  obtain ⟨B, m0, b0, b1, -⟩ := own_m32 x1 (2147483647 : Int32) (k := 31) (by decide) (by decide)
  have e : r1 (0 : Int32) (c0_27_0 x0 x1 x2) = (5 : Int32) := by unfold c0_27_0; rw [h]; decide
  have hc : (c0_31_0 x0 x1 x2).toInt = B / 32 := by
    unfold c0_31_0; rw [e]
    exact own_us m0 b0 (n := ((5 : Int32) &&& 31).toUInt32) (k := 5) (by decide) (by decide) (by decide)
  unfold w0_34 r1
  by_cases q : (1 : Int32) < c0_31_0 x0 x1 x2
  · rw [if_pos q]
    exact ⟨B / 32, hc, by have := (own_lt32 (show (1 : Int32).toInt = 1 by decide) hc).mp q; omega, by omega⟩
  · rw [if_neg q]; exact ⟨1, by decide, by decide, by decide⟩
theorem own_v7 (x0 x1 x2 : Int32) (h : (w0_15 x0 x1 x2) = (7 : Int32)) : ∃ N K, (w0_8 x0 x1 x2).toInt = N ∧ 1 ≤ N ∧ (w0_34 x0 x1 x2).toInt = K ∧ 1 ≤ K ∧ K * 32 < 2147483648 ∧ ((2 : Int32) * (w0_34 x0 x1 x2)).toInt = 2 * K ∧ ((2 : Int32) * ((2 : Int32) * (w0_34 x0 x1 x2))).toInt = 4 * K ∧ ((2 : Int32) * ((2 : Int32) * ((2 : Int32) * (w0_34 x0 x1 x2)))).toInt = 8 * K ∧ ((2 : Int32) * ((2 : Int32) * ((2 : Int32) * ((2 : Int32) * (w0_34 x0 x1 x2))))).toInt = 16 * K ∧ ((2 : Int32) * ((2 : Int32) * ((2 : Int32) * ((2 : Int32) * ((2 : Int32) * (w0_34 x0 x1 x2)))))).toInt = 32 * K := by
  obtain ⟨N, hN, n1⟩ := own_n1' x0 x1 x2
  obtain ⟨K, hK, k1, k2⟩ := own_k7 x0 x1 x2 h
  have f1 : ((2 : Int32) * (w0_34 x0 x1 x2)).toInt = 2 * K := (own_mul32 (show (2 : Int32).toInt = 2 by decide) hK (by omega) (by omega)).trans (by omega)
  have f2 : ((2 : Int32) * ((2 : Int32) * (w0_34 x0 x1 x2))).toInt = 4 * K := (own_mul32 (show (2 : Int32).toInt = 2 by decide) f1 (by omega) (by omega)).trans (by omega)
  have f3 : ((2 : Int32) * ((2 : Int32) * ((2 : Int32) * (w0_34 x0 x1 x2)))).toInt = 8 * K := (own_mul32 (show (2 : Int32).toInt = 2 by decide) f2 (by omega) (by omega)).trans (by omega)
  have f4 : ((2 : Int32) * ((2 : Int32) * ((2 : Int32) * ((2 : Int32) * (w0_34 x0 x1 x2))))).toInt = 16 * K := (own_mul32 (show (2 : Int32).toInt = 2 by decide) f3 (by omega) (by omega)).trans (by omega)
  have f5 : ((2 : Int32) * ((2 : Int32) * ((2 : Int32) * ((2 : Int32) * ((2 : Int32) * (w0_34 x0 x1 x2)))))).toInt = 32 * K := (own_mul32 (show (2 : Int32).toInt = 2 by decide) f4 (by omega) (by omega)).trans (by omega)
  exact ⟨N, K, hN, n1, hK, k1, k2, f1, f2, f3, f4, f5⟩
theorem own_h7 (x0 x1 x2 : Int32) : (w0_15 x0 x1 x2) = (7 : Int32) → (¬ ((w0_8 x0 x1 x2) < (1 : Int32))) ∧ (¬ ((w0_34 x0 x1 x2) < (1 : Int32))) ∧ ((5 : Int32) < (r3 (w0_34 x0 x1 x2))) ∧ (¬ (((2 : Int32) * (w0_34 x0 x1 x2)) < (1 : Int32))) ∧ (¬ (((2 : Int32) * ((2 : Int32) * (w0_34 x0 x1 x2))) < (1 : Int32))) ∧ (¬ (((2 : Int32) * ((2 : Int32) * ((2 : Int32) * (w0_34 x0 x1 x2)))) < (1 : Int32))) ∧ (¬ (((2 : Int32) * ((2 : Int32) * ((2 : Int32) * ((2 : Int32) * (w0_34 x0 x1 x2))))) < (1 : Int32))) ∧ (¬ (((2 : Int32) * ((2 : Int32) * ((2 : Int32) * ((2 : Int32) * ((2 : Int32) * (w0_34 x0 x1 x2)))))) < (1 : Int32))) ∧ (¬ ((w0_8 x0 x1 x2) < (1 : Int32))) := by
  intro h
  obtain ⟨N, K, hN, n1, hK, k1, k2, f1, f2, f3, f4, f5⟩ := own_v7 x0 x1 x2 h
  obtain ⟨R, hR, r1, r2, r3, r4, r5, r6, r7⟩ := own_nl (w0_34 x0 x1 x2) hK k1
  exact ⟨fun q => by have := (own_lt32 hN (show (1 : Int32).toInt = 1 by decide)).mp q; omega, fun q => by have := (own_lt32 hK (show (1 : Int32).toInt = 1 by decide)).mp q; omega, (own_lt32 (show (5 : Int32).toInt = 5 by decide) hR).mpr (by omega), fun q => by have := (own_lt32 f1 (show (1 : Int32).toInt = 1 by decide)).mp q; omega, fun q => by have := (own_lt32 f2 (show (1 : Int32).toInt = 1 by decide)).mp q; omega, fun q => by have := (own_lt32 f3 (show (1 : Int32).toInt = 1 by decide)).mp q; omega, fun q => by have := (own_lt32 f4 (show (1 : Int32).toInt = 1 by decide)).mp q; omega, fun q => by have := (own_lt32 f5 (show (1 : Int32).toInt = 1 by decide)).mp q; omega, fun q => by have := (own_lt32 hN (show (1 : Int32).toInt = 1 by decide)).mp q; omega⟩
theorem own_law7 (x0 x1 x2 : Int32) (h : (w0_15 x0 x1 x2) = (7 : Int32)) : r0 x0 x1 x2 = 1 := by
  obtain ⟨N, K, hN, n1, hK, k1, k2, f1, f2, f3, f4, f5⟩ := own_v7 x0 x1 x2 h
  have hp := own_h7 x0 x1 x2 h
  have k_0 : r2 (0 : Int32) (7 : Int32) (w0_8 x0 x1 x2) (w0_34 x0 x1 x2) = (w0_34 x0 x1 x2).toInt64 := ((if_pos (by decide)).trans (if_neg (by decide))).trans (Int64.toInt_inj.mp (by rw [Jvm.Kit.i64_shl _ (((0 : Int32) &&& 0x3f).toInt64) (k := 0) (by decide) (by rw [own_i2l hK]; omega) (by rw [own_i2l hK]; omega), own_i2l hK]; omega))
  have k_1 : r2 (1 : Int32) (7 : Int32) (w0_8 x0 x1 x2) (w0_34 x0 x1 x2) = ((2 : Int32) * (w0_34 x0 x1 x2)).toInt64 := ((if_pos (by decide)).trans (if_neg (by decide))).trans (Int64.toInt_inj.mp (by rw [Jvm.Kit.i64_shl _ (((1 : Int32) &&& 0x3f).toInt64) (k := 1) (by decide) (by rw [own_i2l hK]; omega) (by rw [own_i2l hK]; omega), own_i2l hK, own_i2l f1]; omega))
  have k_2 : r2 (2 : Int32) (7 : Int32) (w0_8 x0 x1 x2) (w0_34 x0 x1 x2) = ((2 : Int32) * ((2 : Int32) * (w0_34 x0 x1 x2))).toInt64 := ((if_pos (by decide)).trans (if_neg (by decide))).trans (Int64.toInt_inj.mp (by rw [Jvm.Kit.i64_shl _ (((2 : Int32) &&& 0x3f).toInt64) (k := 2) (by decide) (by rw [own_i2l hK]; omega) (by rw [own_i2l hK]; omega), own_i2l hK, own_i2l f2]; omega))
  have k_3 : r2 (3 : Int32) (7 : Int32) (w0_8 x0 x1 x2) (w0_34 x0 x1 x2) = ((2 : Int32) * ((2 : Int32) * ((2 : Int32) * (w0_34 x0 x1 x2)))).toInt64 := ((if_pos (by decide)).trans (if_neg (by decide))).trans (Int64.toInt_inj.mp (by rw [Jvm.Kit.i64_shl _ (((3 : Int32) &&& 0x3f).toInt64) (k := 3) (by decide) (by rw [own_i2l hK]; omega) (by rw [own_i2l hK]; omega), own_i2l hK, own_i2l f3]; omega))
  have k_4 : r2 (4 : Int32) (7 : Int32) (w0_8 x0 x1 x2) (w0_34 x0 x1 x2) = ((2 : Int32) * ((2 : Int32) * ((2 : Int32) * ((2 : Int32) * (w0_34 x0 x1 x2))))).toInt64 := ((if_pos (by decide)).trans (if_neg (by decide))).trans (Int64.toInt_inj.mp (by rw [Jvm.Kit.i64_shl _ (((4 : Int32) &&& 0x3f).toInt64) (k := 4) (by decide) (by rw [own_i2l hK]; omega) (by rw [own_i2l hK]; omega), own_i2l hK, own_i2l f4]; omega))
  have k_5 : r2 (5 : Int32) (7 : Int32) (w0_8 x0 x1 x2) (w0_34 x0 x1 x2) = ((2 : Int32) * ((2 : Int32) * ((2 : Int32) * ((2 : Int32) * ((2 : Int32) * (w0_34 x0 x1 x2)))))).toInt64 := ((if_pos (by decide)).trans (if_neg (by decide))).trans (Int64.toInt_inj.mp (by rw [Jvm.Kit.i64_shl _ (((5 : Int32) &&& 0x3f).toInt64) (k := 5) (by decide) (by rw [own_i2l hK]; omega) (by rw [own_i2l hK]; omega), own_i2l hK, own_i2l f5]; omega))
  have k_6 : r2 (6 : Int32) (7 : Int32) (w0_8 x0 x1 x2) (w0_34 x0 x1 x2) = (w0_8 x0 x1 x2).toInt64 := (if_pos (by decide)).trans (if_pos (by decide))
  have s_0 : rA (0 : Int32) (7 : Int32) (w0_8 x0 x1 x2) (w0_34 x0 x1 x2) (own_z (w0_8 x0 x1 x2) (w0_34 x0 x1 x2) (7 : Int32) 0) = 1 := own_spA (by decide) (by decide) (e := (w0_34 x0 x1 x2)) (f := ((2 : Int32) * (w0_34 x0 x1 x2))) hK (by omega) k_0 k_1 hp.2.2.2.1 rfl
  have s_1 : rA (1 : Int32) (7 : Int32) (w0_8 x0 x1 x2) (w0_34 x0 x1 x2) (own_z (w0_8 x0 x1 x2) (w0_34 x0 x1 x2) (7 : Int32) 1) = 1 := own_spA (by decide) (by decide) (e := ((2 : Int32) * (w0_34 x0 x1 x2))) (f := ((2 : Int32) * ((2 : Int32) * (w0_34 x0 x1 x2)))) f1 (by omega) k_1 k_2 hp.2.2.2.2.1 rfl
  have s_2 : rA (2 : Int32) (7 : Int32) (w0_8 x0 x1 x2) (w0_34 x0 x1 x2) (own_z (w0_8 x0 x1 x2) (w0_34 x0 x1 x2) (7 : Int32) 2) = 1 := own_spA (by decide) (by decide) (e := ((2 : Int32) * ((2 : Int32) * (w0_34 x0 x1 x2)))) (f := ((2 : Int32) * ((2 : Int32) * ((2 : Int32) * (w0_34 x0 x1 x2))))) f2 (by omega) k_2 k_3 hp.2.2.2.2.2.1 rfl
  have s_3 : rA (3 : Int32) (7 : Int32) (w0_8 x0 x1 x2) (w0_34 x0 x1 x2) (own_z (w0_8 x0 x1 x2) (w0_34 x0 x1 x2) (7 : Int32) 3) = 1 := own_spA (by decide) (by decide) (e := ((2 : Int32) * ((2 : Int32) * ((2 : Int32) * (w0_34 x0 x1 x2))))) (f := ((2 : Int32) * ((2 : Int32) * ((2 : Int32) * ((2 : Int32) * (w0_34 x0 x1 x2)))))) f3 (by omega) k_3 k_4 hp.2.2.2.2.2.2.1 rfl
  have s_4 : rA (4 : Int32) (7 : Int32) (w0_8 x0 x1 x2) (w0_34 x0 x1 x2) (own_z (w0_8 x0 x1 x2) (w0_34 x0 x1 x2) (7 : Int32) 4) = 1 := own_spA (by decide) (by decide) (e := ((2 : Int32) * ((2 : Int32) * ((2 : Int32) * ((2 : Int32) * (w0_34 x0 x1 x2)))))) (f := ((2 : Int32) * ((2 : Int32) * ((2 : Int32) * ((2 : Int32) * ((2 : Int32) * (w0_34 x0 x1 x2))))))) f4 (by omega) k_4 k_5 hp.2.2.2.2.2.2.2.1 rfl
  have s_5 : rA (5 : Int32) (7 : Int32) (w0_8 x0 x1 x2) (w0_34 x0 x1 x2) (own_z (w0_8 x0 x1 x2) (w0_34 x0 x1 x2) (7 : Int32) 5) = 1 := own_spA (by decide) (by decide) (e := ((2 : Int32) * ((2 : Int32) * ((2 : Int32) * ((2 : Int32) * ((2 : Int32) * (w0_34 x0 x1 x2))))))) (f := (w0_8 x0 x1 x2)) f5 (by omega) k_5 k_6 hp.2.2.2.2.2.2.2.2 rfl
  have s_6 : rA (6 : Int32) (7 : Int32) (w0_8 x0 x1 x2) (w0_34 x0 x1 x2) (own_z (w0_8 x0 x1 x2) (w0_34 x0 x1 x2) (7 : Int32) 6) = 1 := own_spB (by decide) (by decide) hN (by omega) k_6 rfl
  have s_7 : rA (7 : Int32) (7 : Int32) (w0_8 x0 x1 x2) (w0_34 x0 x1 x2) (own_z (w0_8 x0 x1 x2) (w0_34 x0 x1 x2) (7 : Int32) 7) = 1 := own_spC (by decide)
  unfold r0
  rw [h, s_0, s_1, s_2, s_3, s_4, s_5, s_6, s_7]; decide
theorem own_k8 (x0 x1 x2 : Int32) (h : (w0_15 x0 x1 x2) = (8 : Int32)) : ∃ K, (w0_34 x0 x1 x2).toInt = K ∧ 1 ≤ K ∧ K * 64 < 2147483648 := by
  obtain ⟨B, m0, b0, b1, -⟩ := own_m32 x1 (2147483647 : Int32) (k := 31) (by decide) (by decide)
  have e : r1 (0 : Int32) (c0_27_0 x0 x1 x2) = (6 : Int32) := by unfold c0_27_0; rw [h]; decide
  have hc : (c0_31_0 x0 x1 x2).toInt = B / 64 := by
    unfold c0_31_0; rw [e]
    exact own_us m0 b0 (n := ((6 : Int32) &&& 31).toUInt32) (k := 6) (by decide) (by decide) (by decide)
  unfold w0_34 r1
  by_cases q : (1 : Int32) < c0_31_0 x0 x1 x2
  · rw [if_pos q]
    exact ⟨B / 64, hc, by have := (own_lt32 (show (1 : Int32).toInt = 1 by decide) hc).mp q; omega, by omega⟩
  · rw [if_neg q]; exact ⟨1, by decide, by decide, by decide⟩
theorem own_v8 (x0 x1 x2 : Int32) (h : (w0_15 x0 x1 x2) = (8 : Int32)) : ∃ N K, (w0_8 x0 x1 x2).toInt = N ∧ 1 ≤ N ∧ (w0_34 x0 x1 x2).toInt = K ∧ 1 ≤ K ∧ K * 64 < 2147483648 ∧ ((2 : Int32) * (w0_34 x0 x1 x2)).toInt = 2 * K ∧ ((2 : Int32) * ((2 : Int32) * (w0_34 x0 x1 x2))).toInt = 4 * K ∧ ((2 : Int32) * ((2 : Int32) * ((2 : Int32) * (w0_34 x0 x1 x2)))).toInt = 8 * K ∧ ((2 : Int32) * ((2 : Int32) * ((2 : Int32) * ((2 : Int32) * (w0_34 x0 x1 x2))))).toInt = 16 * K ∧ ((2 : Int32) * ((2 : Int32) * ((2 : Int32) * ((2 : Int32) * ((2 : Int32) * (w0_34 x0 x1 x2)))))).toInt = 32 * K ∧ ((2 : Int32) * ((2 : Int32) * ((2 : Int32) * ((2 : Int32) * ((2 : Int32) * ((2 : Int32) * (w0_34 x0 x1 x2))))))).toInt = 64 * K := by
  obtain ⟨N, hN, n1⟩ := own_n1' x0 x1 x2
  obtain ⟨K, hK, k1, k2⟩ := own_k8 x0 x1 x2 h
  have f1 : ((2 : Int32) * (w0_34 x0 x1 x2)).toInt = 2 * K := (own_mul32 (show (2 : Int32).toInt = 2 by decide) hK (by omega) (by omega)).trans (by omega)
  have f2 : ((2 : Int32) * ((2 : Int32) * (w0_34 x0 x1 x2))).toInt = 4 * K := (own_mul32 (show (2 : Int32).toInt = 2 by decide) f1 (by omega) (by omega)).trans (by omega)
  have f3 : ((2 : Int32) * ((2 : Int32) * ((2 : Int32) * (w0_34 x0 x1 x2)))).toInt = 8 * K := (own_mul32 (show (2 : Int32).toInt = 2 by decide) f2 (by omega) (by omega)).trans (by omega)
  have f4 : ((2 : Int32) * ((2 : Int32) * ((2 : Int32) * ((2 : Int32) * (w0_34 x0 x1 x2))))).toInt = 16 * K := (own_mul32 (show (2 : Int32).toInt = 2 by decide) f3 (by omega) (by omega)).trans (by omega)
  have f5 : ((2 : Int32) * ((2 : Int32) * ((2 : Int32) * ((2 : Int32) * ((2 : Int32) * (w0_34 x0 x1 x2)))))).toInt = 32 * K := (own_mul32 (show (2 : Int32).toInt = 2 by decide) f4 (by omega) (by omega)).trans (by omega)
  have f6 : ((2 : Int32) * ((2 : Int32) * ((2 : Int32) * ((2 : Int32) * ((2 : Int32) * ((2 : Int32) * (w0_34 x0 x1 x2))))))).toInt = 64 * K := (own_mul32 (show (2 : Int32).toInt = 2 by decide) f5 (by omega) (by omega)).trans (by omega)
  exact ⟨N, K, hN, n1, hK, k1, k2, f1, f2, f3, f4, f5, f6⟩
theorem own_h8 (x0 x1 x2 : Int32) : (w0_15 x0 x1 x2) = (8 : Int32) → (¬ ((w0_8 x0 x1 x2) < (1 : Int32))) ∧ (¬ ((w0_34 x0 x1 x2) < (1 : Int32))) ∧ ((6 : Int32) < (r3 (w0_34 x0 x1 x2))) ∧ (¬ (((2 : Int32) * (w0_34 x0 x1 x2)) < (1 : Int32))) ∧ (¬ (((2 : Int32) * ((2 : Int32) * (w0_34 x0 x1 x2))) < (1 : Int32))) ∧ (¬ (((2 : Int32) * ((2 : Int32) * ((2 : Int32) * (w0_34 x0 x1 x2)))) < (1 : Int32))) ∧ (¬ (((2 : Int32) * ((2 : Int32) * ((2 : Int32) * ((2 : Int32) * (w0_34 x0 x1 x2))))) < (1 : Int32))) ∧ (¬ (((2 : Int32) * ((2 : Int32) * ((2 : Int32) * ((2 : Int32) * ((2 : Int32) * (w0_34 x0 x1 x2)))))) < (1 : Int32))) ∧ (¬ (((2 : Int32) * ((2 : Int32) * ((2 : Int32) * ((2 : Int32) * ((2 : Int32) * ((2 : Int32) * (w0_34 x0 x1 x2))))))) < (1 : Int32))) ∧ (¬ ((w0_8 x0 x1 x2) < (1 : Int32))) := by
  intro h
  obtain ⟨N, K, hN, n1, hK, k1, k2, f1, f2, f3, f4, f5, f6⟩ := own_v8 x0 x1 x2 h
  obtain ⟨R, hR, r1, r2, r3, r4, r5, r6, r7⟩ := own_nl (w0_34 x0 x1 x2) hK k1
  exact ⟨fun q => by have := (own_lt32 hN (show (1 : Int32).toInt = 1 by decide)).mp q; omega, fun q => by have := (own_lt32 hK (show (1 : Int32).toInt = 1 by decide)).mp q; omega, (own_lt32 (show (6 : Int32).toInt = 6 by decide) hR).mpr (by omega), fun q => by have := (own_lt32 f1 (show (1 : Int32).toInt = 1 by decide)).mp q; omega, fun q => by have := (own_lt32 f2 (show (1 : Int32).toInt = 1 by decide)).mp q; omega, fun q => by have := (own_lt32 f3 (show (1 : Int32).toInt = 1 by decide)).mp q; omega, fun q => by have := (own_lt32 f4 (show (1 : Int32).toInt = 1 by decide)).mp q; omega, fun q => by have := (own_lt32 f5 (show (1 : Int32).toInt = 1 by decide)).mp q; omega, fun q => by have := (own_lt32 f6 (show (1 : Int32).toInt = 1 by decide)).mp q; omega, fun q => by have := (own_lt32 hN (show (1 : Int32).toInt = 1 by decide)).mp q; omega⟩
theorem own_law8 (x0 x1 x2 : Int32) (h : (w0_15 x0 x1 x2) = (8 : Int32)) : r0 x0 x1 x2 = 1 := by
  obtain ⟨N, K, hN, n1, hK, k1, k2, f1, f2, f3, f4, f5, f6⟩ := own_v8 x0 x1 x2 h
  have hp := own_h8 x0 x1 x2 h
  have k_0 : r2 (0 : Int32) (8 : Int32) (w0_8 x0 x1 x2) (w0_34 x0 x1 x2) = (w0_34 x0 x1 x2).toInt64 := ((if_pos (by decide)).trans (if_neg (by decide))).trans (Int64.toInt_inj.mp (by rw [Jvm.Kit.i64_shl _ (((0 : Int32) &&& 0x3f).toInt64) (k := 0) (by decide) (by rw [own_i2l hK]; omega) (by rw [own_i2l hK]; omega), own_i2l hK]; omega))
  have k_1 : r2 (1 : Int32) (8 : Int32) (w0_8 x0 x1 x2) (w0_34 x0 x1 x2) = ((2 : Int32) * (w0_34 x0 x1 x2)).toInt64 := ((if_pos (by decide)).trans (if_neg (by decide))).trans (Int64.toInt_inj.mp (by rw [Jvm.Kit.i64_shl _ (((1 : Int32) &&& 0x3f).toInt64) (k := 1) (by decide) (by rw [own_i2l hK]; omega) (by rw [own_i2l hK]; omega), own_i2l hK, own_i2l f1]; omega))
  have k_2 : r2 (2 : Int32) (8 : Int32) (w0_8 x0 x1 x2) (w0_34 x0 x1 x2) = ((2 : Int32) * ((2 : Int32) * (w0_34 x0 x1 x2))).toInt64 := ((if_pos (by decide)).trans (if_neg (by decide))).trans (Int64.toInt_inj.mp (by rw [Jvm.Kit.i64_shl _ (((2 : Int32) &&& 0x3f).toInt64) (k := 2) (by decide) (by rw [own_i2l hK]; omega) (by rw [own_i2l hK]; omega), own_i2l hK, own_i2l f2]; omega))
  have k_3 : r2 (3 : Int32) (8 : Int32) (w0_8 x0 x1 x2) (w0_34 x0 x1 x2) = ((2 : Int32) * ((2 : Int32) * ((2 : Int32) * (w0_34 x0 x1 x2)))).toInt64 := ((if_pos (by decide)).trans (if_neg (by decide))).trans (Int64.toInt_inj.mp (by rw [Jvm.Kit.i64_shl _ (((3 : Int32) &&& 0x3f).toInt64) (k := 3) (by decide) (by rw [own_i2l hK]; omega) (by rw [own_i2l hK]; omega), own_i2l hK, own_i2l f3]; omega))
  have k_4 : r2 (4 : Int32) (8 : Int32) (w0_8 x0 x1 x2) (w0_34 x0 x1 x2) = ((2 : Int32) * ((2 : Int32) * ((2 : Int32) * ((2 : Int32) * (w0_34 x0 x1 x2))))).toInt64 := ((if_pos (by decide)).trans (if_neg (by decide))).trans (Int64.toInt_inj.mp (by rw [Jvm.Kit.i64_shl _ (((4 : Int32) &&& 0x3f).toInt64) (k := 4) (by decide) (by rw [own_i2l hK]; omega) (by rw [own_i2l hK]; omega), own_i2l hK, own_i2l f4]; omega))
  have k_5 : r2 (5 : Int32) (8 : Int32) (w0_8 x0 x1 x2) (w0_34 x0 x1 x2) = ((2 : Int32) * ((2 : Int32) * ((2 : Int32) * ((2 : Int32) * ((2 : Int32) * (w0_34 x0 x1 x2)))))).toInt64 := ((if_pos (by decide)).trans (if_neg (by decide))).trans (Int64.toInt_inj.mp (by rw [Jvm.Kit.i64_shl _ (((5 : Int32) &&& 0x3f).toInt64) (k := 5) (by decide) (by rw [own_i2l hK]; omega) (by rw [own_i2l hK]; omega), own_i2l hK, own_i2l f5]; omega))
  have k_6 : r2 (6 : Int32) (8 : Int32) (w0_8 x0 x1 x2) (w0_34 x0 x1 x2) = ((2 : Int32) * ((2 : Int32) * ((2 : Int32) * ((2 : Int32) * ((2 : Int32) * ((2 : Int32) * (w0_34 x0 x1 x2))))))).toInt64 := ((if_pos (by decide)).trans (if_neg (by decide))).trans (Int64.toInt_inj.mp (by rw [Jvm.Kit.i64_shl _ (((6 : Int32) &&& 0x3f).toInt64) (k := 6) (by decide) (by rw [own_i2l hK]; omega) (by rw [own_i2l hK]; omega), own_i2l hK, own_i2l f6]; omega))
  have k_7 : r2 (7 : Int32) (8 : Int32) (w0_8 x0 x1 x2) (w0_34 x0 x1 x2) = (w0_8 x0 x1 x2).toInt64 := (if_pos (by decide)).trans (if_pos (by decide))
  have s_0 : rA (0 : Int32) (8 : Int32) (w0_8 x0 x1 x2) (w0_34 x0 x1 x2) (own_z (w0_8 x0 x1 x2) (w0_34 x0 x1 x2) (8 : Int32) 0) = 1 := own_spA (by decide) (by decide) (e := (w0_34 x0 x1 x2)) (f := ((2 : Int32) * (w0_34 x0 x1 x2))) hK (by omega) k_0 k_1 hp.2.2.2.1 rfl
  have s_1 : rA (1 : Int32) (8 : Int32) (w0_8 x0 x1 x2) (w0_34 x0 x1 x2) (own_z (w0_8 x0 x1 x2) (w0_34 x0 x1 x2) (8 : Int32) 1) = 1 := own_spA (by decide) (by decide) (e := ((2 : Int32) * (w0_34 x0 x1 x2))) (f := ((2 : Int32) * ((2 : Int32) * (w0_34 x0 x1 x2)))) f1 (by omega) k_1 k_2 hp.2.2.2.2.1 rfl
  have s_2 : rA (2 : Int32) (8 : Int32) (w0_8 x0 x1 x2) (w0_34 x0 x1 x2) (own_z (w0_8 x0 x1 x2) (w0_34 x0 x1 x2) (8 : Int32) 2) = 1 := own_spA (by decide) (by decide) (e := ((2 : Int32) * ((2 : Int32) * (w0_34 x0 x1 x2)))) (f := ((2 : Int32) * ((2 : Int32) * ((2 : Int32) * (w0_34 x0 x1 x2))))) f2 (by omega) k_2 k_3 hp.2.2.2.2.2.1 rfl
  have s_3 : rA (3 : Int32) (8 : Int32) (w0_8 x0 x1 x2) (w0_34 x0 x1 x2) (own_z (w0_8 x0 x1 x2) (w0_34 x0 x1 x2) (8 : Int32) 3) = 1 := own_spA (by decide) (by decide) (e := ((2 : Int32) * ((2 : Int32) * ((2 : Int32) * (w0_34 x0 x1 x2))))) (f := ((2 : Int32) * ((2 : Int32) * ((2 : Int32) * ((2 : Int32) * (w0_34 x0 x1 x2)))))) f3 (by omega) k_3 k_4 hp.2.2.2.2.2.2.1 rfl
  have s_4 : rA (4 : Int32) (8 : Int32) (w0_8 x0 x1 x2) (w0_34 x0 x1 x2) (own_z (w0_8 x0 x1 x2) (w0_34 x0 x1 x2) (8 : Int32) 4) = 1 := own_spA (by decide) (by decide) (e := ((2 : Int32) * ((2 : Int32) * ((2 : Int32) * ((2 : Int32) * (w0_34 x0 x1 x2)))))) (f := ((2 : Int32) * ((2 : Int32) * ((2 : Int32) * ((2 : Int32) * ((2 : Int32) * (w0_34 x0 x1 x2))))))) f4 (by omega) k_4 k_5 hp.2.2.2.2.2.2.2.1 rfl
  have s_5 : rA (5 : Int32) (8 : Int32) (w0_8 x0 x1 x2) (w0_34 x0 x1 x2) (own_z (w0_8 x0 x1 x2) (w0_34 x0 x1 x2) (8 : Int32) 5) = 1 := own_spA (by decide) (by decide) (e := ((2 : Int32) * ((2 : Int32) * ((2 : Int32) * ((2 : Int32) * ((2 : Int32) * (w0_34 x0 x1 x2))))))) (f := ((2 : Int32) * ((2 : Int32) * ((2 : Int32) * ((2 : Int32) * ((2 : Int32) * ((2 : Int32) * (w0_34 x0 x1 x2)))))))) f5 (by omega) k_5 k_6 hp.2.2.2.2.2.2.2.2.1 rfl
  have s_6 : rA (6 : Int32) (8 : Int32) (w0_8 x0 x1 x2) (w0_34 x0 x1 x2) (own_z (w0_8 x0 x1 x2) (w0_34 x0 x1 x2) (8 : Int32) 6) = 1 := own_spA (by decide) (by decide) (e := ((2 : Int32) * ((2 : Int32) * ((2 : Int32) * ((2 : Int32) * ((2 : Int32) * ((2 : Int32) * (w0_34 x0 x1 x2)))))))) (f := (w0_8 x0 x1 x2)) f6 (by omega) k_6 k_7 hp.2.2.2.2.2.2.2.2.2 rfl
  have s_7 : rA (7 : Int32) (8 : Int32) (w0_8 x0 x1 x2) (w0_34 x0 x1 x2) (own_z (w0_8 x0 x1 x2) (w0_34 x0 x1 x2) (8 : Int32) 7) = 1 := own_spB (by decide) (by decide) hN (by omega) k_7 rfl
  unfold r0
  rw [h, s_0, s_1, s_2, s_3, s_4, s_5, s_6, s_7]; decide
theorem law_true (x0 x1 x2 : Int32) : r0 x0 x1 x2 = 1 := by
  rcases own_hr x0 x1 x2 with h | h | h | h | h | h | h | h
  · exact own_law1 x0 x1 x2 h
  · exact own_law2 x0 x1 x2 h
  · exact own_law3 x0 x1 x2 h
  · exact own_law4 x0 x1 x2 h
  · exact own_law5 x0 x1 x2 h
  · exact own_law6 x0 x1 x2 h
  · exact own_law7 x0 x1 x2 h
  · exact own_law8 x0 x1 x2 h
set_option maxRecDepth 65536 in
set_option maxHeartbeats 40000000 in
theorem rm0 (l : Launch) (Z : State) (a0 : Array Value) (hw : ∀ d ∈ tables_1, d.before a0 Z = true) (ws : List Jvm.Cond) (x0 : Int32) (x1 : Int32) (x2 : Int32) (h0 : Heap) (n0 : Nat) (Z0 : n0 ≤ h0.size) :
    MetFree l x (head1 (Jvm.Cond.code x code maxLocals ret :: ws) room_1) (fun a U => a = #[(.int x0), (.int x1), (.int x2)] ∧ Z.Warmed39 U.vm ∧ U.heap = h0) (fun _ _ _ _ _ => True) (fun _ U o U' => ∃ v L, o = .returned v ∧ (QL (some (.int (r0 x0 x1 x2))) n0) v U'.heap L ∧ FrameEnd U o U' L room_1.cells room_1.slots) := by
  refine MetFree.of_bodySF (plainFor_of_name pn0) hisR ?_
  intro p e s m args below meth c s₁ Bd hml0 hP hK
  obtain ⟨rfl, hZ, hh⟩ := hP
  have hx := Bd.exec
  have hby := Bd.bytes
  have hml : c.maxLocals = 7 := hml0
  have hlk : meth.locks = false := BodyLoose.notSynchronized Bd
  have hown : s.vm.findClass "com/example/eriu/eriu/algorithm/GroupElectionRoundSpansPinLaw" = some m.cls := findClass_of_methodNamed Bd.named
  have hnm := (name_of_methodNamed Bd.named Bd.method).1
  have w_0 := hw _ (List.mem_of_getElem? (i := 0) rfl)
  have w_1 := hw _ (List.mem_of_getElem? (i := 1) rfl)
  have w_2 := hw _ (List.mem_of_getElem? (i := 2) rfl)
  have w_3 := hw _ (List.mem_of_getElem? (i := 3) rfl)
  have w_4 := hw _ (List.mem_of_getElem? (i := 4) rfl)
  have w_5 := hw _ (List.mem_of_getElem? (i := 5) rfl)
  have w_6 := hw _ (List.mem_of_getElem? (i := 6) rfl)
  have w_7 := hw _ (List.mem_of_getElem? (i := 7) rfl)
  have w_8 := hw _ (List.mem_of_getElem? (i := 8) rfl)
  have w_33 := hw _ (List.mem_of_getElem? (i := 33) rfl)
  have w_34 := hw _ (List.mem_of_getElem? (i := 34) rfl)
  have w_35 := hw _ (List.mem_of_getElem? (i := 35) rfl)
  have w_36 := hw _ (List.mem_of_getElem? (i := 36) rfl)
  have w_40 := hw _ (List.mem_of_getElem? (i := 40) rfl)
  have w_41 := hw _ (List.mem_of_getElem? (i := 41) rfl)
  have w_42 := hw _ (List.mem_of_getElem? (i := 42) rfl)
  have w_43 := hw _ (List.mem_of_getElem? (i := 43) rfl)
  have hci : ∀ i v, (i, v) ∈ ([(7, 2147483647)] : List (Nat × Int32)) → (Jvm.Cond.constant "com/example/eriu/eriu/algorithm/GroupElectionRoundSpansPinLaw" i v).before #[(.int x0), (.int x1), (.int x2)] s = true := (own_ciS (mvT hZ w_0) own_ci0)
  have hcl : ∀ i v, (i, v) ∈ ([(30, 4), (32, 3), (34, 2), (36, 31)] : List (Nat × Int64)) → (Jvm.Cond.constantLong "com/example/eriu/eriu/algorithm/GroupElectionRoundSpansPinLaw" i v).before #[(.int x0), (.int x1), (.int x2)] s = true := (own_ciS (mvT hZ w_40) (own_ciS (mvT hZ w_41) (own_ciS (mvT hZ w_42) (own_ciS (mvT hZ w_43) own_ci0))))
  have X0 : Stand p l e room_1 s m #[(.int x0), (.int x1), (.int x2)] below meth c s₁ [] 0 0 := Stand.of_body Bd
  have e0 : s₁.heap = h0 := by rw [← hh, Bd.state]; rfl
  have N0 := Fr.nil n0
  show Goes p e below s (QL (some (.int (r0 x0 x1 x2))) n0) room_1.cells room_1.slots (s₁.setTop (entryFrame m #[(.int x0), (.int x1), (.int x2)] maxLocals))
  refine Goes.cast (ef0 m x0 x1 x2) ?_
  refine Goes.run X0 hx hown hci hcl hby (L := [(0, .iconst 1, 1), (1, .iload_n 0, 1), (2, .ldc 7, 2), (4, .iand, 1)]) (by decide +kernel) rfl (g' := (mkF m 5 #[iv x0, iv x1, iv x2, .unset, .unset, .unset, .unset] [(.int (c0_5_0 x0 x1 x2)), (.int (1 : Int32))])) rfl ?_
  obtain ⟨_, _, ⟨T1, L1, k1, n1⟩, -, X1, ⟨Lc1, hQ1, l1, y1, z1⟩, st1⟩ := Jvm.LawKit.callS X0 hx (y := ym0) hown (mvT hZ w_1) (mvT hZ w_2) (mvT hZ w_3) (mvT hZ w_4) (by decide) (backOf (W := 0) (rm1 l Z a0 hw [] (1 : Int32) (c0_5_0 x0 x1 x2) h0 n0 Z0 ) hZ w_4 w_3 (by decide) (by decide)) (g := (mkF m 5 #[iv x0, iv x1, iv x2, .unset, .unset, .unset, .unset] [(.int (c0_5_0 x0 x1 x2)), (.int (1 : Int32))])) rfl (by rw [hml]; rfl) (argsL := [(.int (1 : Int32)), (.int (c0_5_0 x0 x1 x2))]) (rest := []) (lenOf pd0_0 rfl) rfl (by show 2 * 0 + _ ≤ _; exact Nat.le_of_eq rfl) (hb hby at_5) (fun _ _ => ⟨rfl, e0, (by decide : 0 + 0 ≤ _), (by decide : 0 + 0 ≤ _)⟩)
  dsimp only [Pt.U, Pt.locs, Pt.cells, Pt.slots] at X1 l1 y1 z1 st1 hQ1
  subst l1 y1 z1
  obtain ⟨rfl, N1q, e1⟩ := hQ1
  have N1 := Fr.app N0 N1q
  refine Goes.st (B := T1.setTop (mkF m 8 #[iv x0, iv x1, iv x2, .unset, .unset, .unset, .unset] [(.int (r1 (1 : Int32) (c0_5_0 x0 x1 x2)))])) st1 ?_
  refine Goes.run X1 hx hown hci hcl hby (L := [(8, .istore_n 3, 1), (9, .iconst 1, 1), (10, .iload_n 2, 1), (11, .bipush 7, 2), (13, .iand, 1), (14, .iadd, 1)]) (by decide +kernel) rfl (g' := (mkF m 15 #[iv x0, iv x1, iv x2, iv (w0_8 x0 x1 x2), .unset, .unset, .unset] [(.int ((1 : Int32) + (x2 &&& (7 : Int32))))])) rfl ?_
  refine Goes.run X1 hx hown hci hcl hby (L := [(15, .istore 4, 2), (17, .iconst 1, 1), (18, .iload_n 1, 1), (19, .ldc 7, 2), (21, .iand, 1), (22, .iconst 0, 1)]) (by decide +kernel) rfl (g' := (mkF m 23 #[iv x0, iv x1, iv x2, iv (w0_8 x0 x1 x2), iv (w0_15 x0 x1 x2), .unset, .unset] [(.int (0 : Int32)), (.int (x1 &&& (2147483647 : Int32))), (.int (1 : Int32))])) rfl ?_
  refine Goes.run X1 hx hown hci hcl hby (L := [(23, .iload 4, 2), (25, .iconst 2, 1), (26, .isub, 1)]) (by decide +kernel) rfl (g' := (mkF m 27 #[iv x0, iv x1, iv x2, iv (w0_8 x0 x1 x2), iv (w0_15 x0 x1 x2), .unset, .unset] [(.int (c0_27_0 x0 x1 x2)), (.int (0 : Int32)), (.int (x1 &&& (2147483647 : Int32))), (.int (1 : Int32))])) rfl ?_
  obtain ⟨_, _, ⟨T2, L2, k2, n2⟩, -, X2, ⟨Lc2, hQ2, l2, y2, z2⟩, st2⟩ := Jvm.LawKit.callS X1 hx (y := ym0) hown (mvT hZ w_1) (mvT hZ w_2) (mvT hZ w_3) (mvT hZ w_4) (by decide) (backOf (W := 2) (rm1 l Z a0 hw [] (0 : Int32) (c0_27_0 x0 x1 x2) h0 n0 Z0 ) hZ w_4 w_3 (by decide) (by decide)) (g := (mkF m 27 #[iv x0, iv x1, iv x2, iv (w0_8 x0 x1 x2), iv (w0_15 x0 x1 x2), .unset, .unset] [(.int (c0_27_0 x0 x1 x2)), (.int (0 : Int32)), (.int (x1 &&& (2147483647 : Int32))), (.int (1 : Int32))])) rfl (by rw [hml]; rfl) (argsL := [(.int (0 : Int32)), (.int (c0_27_0 x0 x1 x2))]) (rest := [(.int (x1 &&& (2147483647 : Int32))), (.int (1 : Int32))]) (lenOf pd0_0 rfl) rfl (by show 2 * 0 + _ ≤ _; exact Nat.le_of_eq rfl) (hb hby at_27) (fun _ _ => ⟨rfl, e1, (by decide : 0 + 0 ≤ _), (by decide : 0 + 0 ≤ _)⟩)
  dsimp only [Pt.U, Pt.locs, Pt.cells, Pt.slots] at X2 l2 y2 z2 st2 hQ2
  subst l2 y2 z2
  obtain ⟨rfl, N2q, e2⟩ := hQ2
  have N2 := Fr.app N1 N2q
  refine Goes.st (B := T2.setTop (mkF m 30 #[iv x0, iv x1, iv x2, iv (w0_8 x0 x1 x2), iv (w0_15 x0 x1 x2), .unset, .unset] [(.int (r1 (0 : Int32) (c0_27_0 x0 x1 x2))), (.int (x1 &&& (2147483647 : Int32))), (.int (1 : Int32))])) st2 ?_
  refine Goes.run X2 hx hown hci hcl hby (L := [(30, .iushr, 1)]) (by decide +kernel) rfl (g' := (mkF m 31 #[iv x0, iv x1, iv x2, iv (w0_8 x0 x1 x2), iv (w0_15 x0 x1 x2), .unset, .unset] [(.int (c0_31_0 x0 x1 x2)), (.int (1 : Int32))])) rfl ?_
  obtain ⟨_, _, ⟨T3, L3, k3, n3⟩, -, X3, ⟨Lc3, hQ3, l3, y3, z3⟩, st3⟩ := Jvm.LawKit.callS X2 hx (y := ym0) hown (mvT hZ w_1) (mvT hZ w_2) (mvT hZ w_3) (mvT hZ w_4) (by decide) (backOf (W := 0) (rm1 l Z a0 hw [] (1 : Int32) (c0_31_0 x0 x1 x2) h0 n0 Z0 ) hZ w_4 w_3 (by decide) (by decide)) (g := (mkF m 31 #[iv x0, iv x1, iv x2, iv (w0_8 x0 x1 x2), iv (w0_15 x0 x1 x2), .unset, .unset] [(.int (c0_31_0 x0 x1 x2)), (.int (1 : Int32))])) rfl (by rw [hml]; rfl) (argsL := [(.int (1 : Int32)), (.int (c0_31_0 x0 x1 x2))]) (rest := []) (lenOf pd0_0 rfl) rfl (by show 2 * 0 + _ ≤ _; exact Nat.le_of_eq rfl) (hb hby at_31) (fun _ _ => ⟨rfl, e2, (by decide : 0 + 0 ≤ _), (by decide : 0 + 0 ≤ _)⟩)
  dsimp only [Pt.U, Pt.locs, Pt.cells, Pt.slots] at X3 l3 y3 z3 st3 hQ3
  subst l3 y3 z3
  obtain ⟨rfl, N3q, e3⟩ := hQ3
  have N3 := Fr.app N2 N3q
  refine Goes.st (B := T3.setTop (mkF m 34 #[iv x0, iv x1, iv x2, iv (w0_8 x0 x1 x2), iv (w0_15 x0 x1 x2), .unset, .unset] [(.int (r1 (1 : Int32) (c0_31_0 x0 x1 x2)))])) st3 ?_
  refine Goes.run X3 hx hown hci hcl hby (L := [(34, .istore 5, 2), (36, .iload_n 3, 1), (37, .iload 5, 2), (39, .iload 4, 2)]) (by decide +kernel) rfl (g' := (mkF m 41 #[iv x0, iv x1, iv x2, iv (w0_8 x0 x1 x2), iv (w0_15 x0 x1 x2), iv (w0_34 x0 x1 x2), .unset] [(.int (w0_15 x0 x1 x2)), (.int (w0_34 x0 x1 x2)), (.int (w0_8 x0 x1 x2))])) rfl ?_
  obtain ⟨_, _, ⟨T4, L4, k4, n4⟩, -, X4, ⟨Lc4, hQ4, l4, y4, z4⟩, st4⟩ := Jvm.LawKit.callS X3 hx (y := ym7) hown (mvT hZ w_5) (mvT hZ w_6) (mvT hZ w_7) (mvT hZ w_8) (by decide) (backOf (W := 0) (rm9 l Z a0 hw [] (w0_8 x0 x1 x2) (w0_34 x0 x1 x2) (w0_15 x0 x1 x2) h0 n0 Z0 (own_hr x0 x1 x2) (own_h1 x0 x1 x2) (own_h2 x0 x1 x2) (own_h3 x0 x1 x2) (own_h4 x0 x1 x2) (own_h5 x0 x1 x2) (own_h6 x0 x1 x2) (own_h7 x0 x1 x2) (own_h8 x0 x1 x2)) hZ w_8 w_7 (by decide) (by decide)) (g := (mkF m 41 #[iv x0, iv x1, iv x2, iv (w0_8 x0 x1 x2), iv (w0_15 x0 x1 x2), iv (w0_34 x0 x1 x2), .unset] [(.int (w0_15 x0 x1 x2)), (.int (w0_34 x0 x1 x2)), (.int (w0_8 x0 x1 x2))])) rfl (by rw [hml]; rfl) (argsL := [(.int (w0_8 x0 x1 x2)), (.int (w0_34 x0 x1 x2)), (.int (w0_15 x0 x1 x2))]) (rest := []) (lenOf pd0_1 rfl) rfl (by show 2 * 0 + _ ≤ _; exact Nat.le_of_eq rfl) (hb hby at_41) (fun _ _ => ⟨rfl, e3, (by decide : 0 + 2 ≤ _), (by decide : 0 + 16 ≤ _)⟩)
  dsimp only [Pt.U, Pt.locs, Pt.cells, Pt.slots] at X4 l4 y4 z4 st4 hQ4
  subst l4 y4 z4
  obtain ⟨h4, eh4⟩ : ∃ z, z = T4.heap := ⟨_, rfl⟩
  rw [← eh4] at hQ4
  have e4 : T4.heap = h4 := eh4.symm
  obtain ⟨b4, kc4, rfl, N4q, Kq4, szq4, o4_0, o4_1⟩ := hQ4
  have g_b4 : n0 ≤ b4 := Nat.le_trans Z0 szq4
  have N4 := Fr.app N3 N4q
  have E_b4 : Exa Z h4 b4 "[J" := o4_0
  have V_b4 : Arv Z h4 b4 kc4 .long (w0_15 x0 x1 x2) (own_spans (w0_8 x0 x1 x2) (w0_34 x0 x1 x2) (w0_15 x0 x1 x2)) (.long (0 : Int64)) := o4_1
  have Zn4 : n0 ≤ h4.size := Nat.le_trans Z0 Kq4.1
  refine Goes.st (B := T4.setTop (mkF m 44 #[iv x0, iv x1, iv x2, iv (w0_8 x0 x1 x2), iv (w0_15 x0 x1 x2), iv (w0_34 x0 x1 x2), .unset] [(.ref b4)])) st4 ?_
  refine Goes.run X4 hx hown hci hcl hby (L := [(44, .astore 6, 2), (46, .aload 6, 2)]) (by decide +kernel) rfl (g' := (mkF m 48 #[iv x0, iv x1, iv x2, iv (w0_8 x0 x1 x2), iv (w0_15 x0 x1 x2), iv (w0_34 x0 x1 x2), rv b4] [(.ref b4)])) rfl ?_
  obtain ⟨cl5, Ar5, q5, S5, M5, Hs5, G5⟩ := id V_b4
  refine Goes.st (B := T4.setTop (mkF m 49 #[iv x0, iv x1, iv x2, iv (w0_8 x0 x1 x2), iv (w0_15 x0 x1 x2), iv (w0_34 x0 x1 x2), rv b4] [(.int (w0_15 x0 x1 x2))])) (fun t k => ?_) ?_
  · refine X4.arraylength hx (cell := cl5) (by rw [e4]; exact Ar5.1) (State.isArrayOf_alike hZ.alike Ar5.2.1) (g := (mkF m 48 #[iv x0, iv x1, iv x2, iv (w0_8 x0 x1 x2), iv (w0_15 x0 x1 x2), iv (w0_34 x0 x1 x2), rv b4] [(.ref b4)])) rfl (rest := []) rfl (hb hby at_48) _ ?_
    rw [len_of S5 M5]
    exact k
  refine Goes.run X4 hx hown hci hcl hby (L := [(49, .iload 4, 2)]) (by decide +kernel) rfl (g' := (mkF m 51 #[iv x0, iv x1, iv x2, iv (w0_8 x0 x1 x2), iv (w0_15 x0 x1 x2), iv (w0_34 x0 x1 x2), rv b4] [(.int (w0_15 x0 x1 x2)), (.int (w0_15 x0 x1 x2))])) rfl ?_
  have hc51_6 : (w0_15 x0 x1 x2) = (w0_15 x0 x1 x2) := rfl
  refine Goes.st (B := T4.setTop (mkF m 56 #[iv x0, iv x1, iv x2, iv (w0_8 x0 x1 x2), iv (w0_15 x0 x1 x2), iv (w0_34 x0 x1 x2), rv b4] [])) (fun t k => ?_) ?_
  · refine XS.icmpYes X4.here hx rfl (pc0 := 51) (pc' := 56) rfl (hb hby at_51) rfl (teq hc51_6).1 (by decide) (by decide) ?_
    exact k
  refine Goes.run X4 hx hown hci hcl hby (L := [(56, .aload 6, 2), (58, .iconst 0, 1), (59, .iload 4, 2), (61, .iload_n 3, 1), (62, .iload 5, 2)]) (by decide +kernel) rfl (g' := (mkF m 64 #[iv x0, iv x1, iv x2, iv (w0_8 x0 x1 x2), iv (w0_15 x0 x1 x2), iv (w0_34 x0 x1 x2), rv b4] [(.int (w0_34 x0 x1 x2)), (.int (w0_8 x0 x1 x2)), (.int (w0_15 x0 x1 x2)), (.int (0 : Int32)), (.ref b4)])) rfl ?_
  obtain ⟨_, _, ⟨T7, L7, k7, n7⟩, -, X7, ⟨Lc7, hQ7, l7, y7, z7⟩, st7⟩ := Jvm.LawKit.callS X4 hx (y := ym9) hown (mvT hZ w_33) (mvT hZ w_34) (mvT hZ w_35) (mvT hZ w_36) (by decide) (backOf (W := 0) (rmA l Z a0 hw [] b4 (0 : Int32) (w0_15 x0 x1 x2) (w0_8 x0 x1 x2) (w0_34 x0 x1 x2) kc4 (own_spans (w0_8 x0 x1 x2) (w0_34 x0 x1 x2) (w0_15 x0 x1 x2)) (own_z (w0_8 x0 x1 x2) (w0_34 x0 x1 x2) (w0_15 x0 x1 x2) 0) h4 n0 Zn4 V_b4 (by decide) (fun _ => own_hz (w0_8 x0 x1 x2) (w0_34 x0 x1 x2) (w0_15 x0 x1 x2) 0)) hZ w_36 w_35 (by decide) (by decide)) (g := (mkF m 64 #[iv x0, iv x1, iv x2, iv (w0_8 x0 x1 x2), iv (w0_15 x0 x1 x2), iv (w0_34 x0 x1 x2), rv b4] [(.int (w0_34 x0 x1 x2)), (.int (w0_8 x0 x1 x2)), (.int (w0_15 x0 x1 x2)), (.int (0 : Int32)), (.ref b4)])) rfl (by rw [hml]; rfl) (argsL := [(.ref b4), (.int (0 : Int32)), (.int (w0_15 x0 x1 x2)), (.int (w0_8 x0 x1 x2)), (.int (w0_34 x0 x1 x2))]) (rest := []) (lenOf pd0_2 rfl) rfl (by show 2 * 0 + _ ≤ _; exact Nat.le_of_eq rfl) (hb hby at_64) (fun _ _ => ⟨rfl, e4, (by decide : 2 + 0 ≤ _), (by decide : 16 + 0 ≤ _)⟩)
  dsimp only [Pt.U, Pt.locs, Pt.cells, Pt.slots] at X7 l7 y7 z7 st7 hQ7
  subst l7 y7 z7
  obtain ⟨rfl, N7q, e7⟩ := hQ7
  have N7 := Fr.app N4 N7q
  refine Goes.st (B := T7.setTop (mkF m 67 #[iv x0, iv x1, iv x2, iv (w0_8 x0 x1 x2), iv (w0_15 x0 x1 x2), iv (w0_34 x0 x1 x2), rv b4] [(.int (rA (0 : Int32) (w0_15 x0 x1 x2) (w0_8 x0 x1 x2) (w0_34 x0 x1 x2) (own_z (w0_8 x0 x1 x2) (w0_34 x0 x1 x2) (w0_15 x0 x1 x2) 0)))])) st7 ?_
  by_cases hc67_8 : (rA (0 : Int32) (w0_15 x0 x1 x2) (w0_8 x0 x1 x2) (w0_34 x0 x1 x2) (own_z (w0_8 x0 x1 x2) (w0_34 x0 x1 x2) (w0_15 x0 x1 x2) 0)) = (0 : Int32)
  · skip
    refine Goes.st (B := T7.setTop (mkF m 174 #[iv x0, iv x1, iv x2, iv (w0_8 x0 x1 x2), iv (w0_15 x0 x1 x2), iv (w0_34 x0 x1 x2), rv b4] [])) (fun t k => ?_) ?_
    · refine XS.ifYes X7.here hx rfl (pc0 := 67) (pc' := 174) rfl (hb hby at_67) rfl ((if0 _ _).trans (teq hc67_8).1) (by decide) (by decide) ?_
      exact k
    refine Goes.run X7 hx hown hci hcl hby (L := [(174, .iconst 0, 1)]) (by decide +kernel) rfl (g' := (mkF m 175 #[iv x0, iv x1, iv x2, iv (w0_8 x0 x1 x2), iv (w0_15 x0 x1 x2), iv (w0_34 x0 x1 x2), rv b4] [(.int (0 : Int32))])) rfl ?_
    exact Goes.retB X7 hx hlk (t := .boolean) Bd.returns (by simp) (hb hby at_175) rfl ⟨(congrArg (fun z => some (Value.int z)) (show (r0 x0 x1 x2) = (0 : Int32) from (if_pos hc67_8)).symm), N7⟩ (by decide) (by decide)
  · skip
    refine Goes.st (B := T7.setTop (mkF m 70 #[iv x0, iv x1, iv x2, iv (w0_8 x0 x1 x2), iv (w0_15 x0 x1 x2), iv (w0_34 x0 x1 x2), rv b4] [])) (fun t k => ?_) ?_
    · refine XS.ifNo X7.here hx rfl (hb hby at_67) rfl ((if0 _ _).trans (feq hc67_8).1) ?_
      exact k
    refine Goes.run X7 hx hown hci hcl hby (L := [(70, .aload 6, 2), (72, .iconst 1, 1), (73, .iload 4, 2), (75, .iload_n 3, 1), (76, .iload 5, 2)]) (by decide +kernel) rfl (g' := (mkF m 78 #[iv x0, iv x1, iv x2, iv (w0_8 x0 x1 x2), iv (w0_15 x0 x1 x2), iv (w0_34 x0 x1 x2), rv b4] [(.int (w0_34 x0 x1 x2)), (.int (w0_8 x0 x1 x2)), (.int (w0_15 x0 x1 x2)), (.int (1 : Int32)), (.ref b4)])) rfl ?_
    obtain ⟨_, _, ⟨T9, L9, k9, n9⟩, -, X9, ⟨Lc9, hQ9, l9, y9, z9⟩, st9⟩ := Jvm.LawKit.callS X7 hx (y := ym9) hown (mvT hZ w_33) (mvT hZ w_34) (mvT hZ w_35) (mvT hZ w_36) (by decide) (backOf (W := 0) (rmA l Z a0 hw [] b4 (1 : Int32) (w0_15 x0 x1 x2) (w0_8 x0 x1 x2) (w0_34 x0 x1 x2) kc4 (own_spans (w0_8 x0 x1 x2) (w0_34 x0 x1 x2) (w0_15 x0 x1 x2)) (own_z (w0_8 x0 x1 x2) (w0_34 x0 x1 x2) (w0_15 x0 x1 x2) 1) h4 n0 Zn4 V_b4 (by decide) (fun _ => own_hz (w0_8 x0 x1 x2) (w0_34 x0 x1 x2) (w0_15 x0 x1 x2) 1)) hZ w_36 w_35 (by decide) (by decide)) (g := (mkF m 78 #[iv x0, iv x1, iv x2, iv (w0_8 x0 x1 x2), iv (w0_15 x0 x1 x2), iv (w0_34 x0 x1 x2), rv b4] [(.int (w0_34 x0 x1 x2)), (.int (w0_8 x0 x1 x2)), (.int (w0_15 x0 x1 x2)), (.int (1 : Int32)), (.ref b4)])) rfl (by rw [hml]; rfl) (argsL := [(.ref b4), (.int (1 : Int32)), (.int (w0_15 x0 x1 x2)), (.int (w0_8 x0 x1 x2)), (.int (w0_34 x0 x1 x2))]) (rest := []) (lenOf pd0_2 rfl) rfl (by show 2 * 0 + _ ≤ _; exact Nat.le_of_eq rfl) (hb hby at_78) (fun _ _ => ⟨rfl, e7, (by decide : 2 + 0 ≤ _), (by decide : 16 + 0 ≤ _)⟩)
    dsimp only [Pt.U, Pt.locs, Pt.cells, Pt.slots] at X9 l9 y9 z9 st9 hQ9
    subst l9 y9 z9
    obtain ⟨rfl, N9q, e9⟩ := hQ9
    have N9 := Fr.app N7 N9q
    refine Goes.st (B := T9.setTop (mkF m 81 #[iv x0, iv x1, iv x2, iv (w0_8 x0 x1 x2), iv (w0_15 x0 x1 x2), iv (w0_34 x0 x1 x2), rv b4] [(.int (rA (1 : Int32) (w0_15 x0 x1 x2) (w0_8 x0 x1 x2) (w0_34 x0 x1 x2) (own_z (w0_8 x0 x1 x2) (w0_34 x0 x1 x2) (w0_15 x0 x1 x2) 1)))])) st9 ?_
    by_cases hc81_10 : (rA (1 : Int32) (w0_15 x0 x1 x2) (w0_8 x0 x1 x2) (w0_34 x0 x1 x2) (own_z (w0_8 x0 x1 x2) (w0_34 x0 x1 x2) (w0_15 x0 x1 x2) 1)) = (0 : Int32)
    · skip
      refine Goes.st (B := T9.setTop (mkF m 174 #[iv x0, iv x1, iv x2, iv (w0_8 x0 x1 x2), iv (w0_15 x0 x1 x2), iv (w0_34 x0 x1 x2), rv b4] [])) (fun t k => ?_) ?_
      · refine XS.ifYes X9.here hx rfl (pc0 := 81) (pc' := 174) rfl (hb hby at_81) rfl ((if0 _ _).trans (teq hc81_10).1) (by decide) (by decide) ?_
        exact k
      refine Goes.run X9 hx hown hci hcl hby (L := [(174, .iconst 0, 1)]) (by decide +kernel) rfl (g' := (mkF m 175 #[iv x0, iv x1, iv x2, iv (w0_8 x0 x1 x2), iv (w0_15 x0 x1 x2), iv (w0_34 x0 x1 x2), rv b4] [(.int (0 : Int32))])) rfl ?_
      exact Goes.retB X9 hx hlk (t := .boolean) Bd.returns (by simp) (hb hby at_175) rfl ⟨(congrArg (fun z => some (Value.int z)) (show (r0 x0 x1 x2) = (0 : Int32) from ((if_neg hc67_8).trans (if_pos hc81_10))).symm), N9⟩ (by decide) (by decide)
    · skip
      refine Goes.st (B := T9.setTop (mkF m 84 #[iv x0, iv x1, iv x2, iv (w0_8 x0 x1 x2), iv (w0_15 x0 x1 x2), iv (w0_34 x0 x1 x2), rv b4] [])) (fun t k => ?_) ?_
      · refine XS.ifNo X9.here hx rfl (hb hby at_81) rfl ((if0 _ _).trans (feq hc81_10).1) ?_
        exact k
      refine Goes.run X9 hx hown hci hcl hby (L := [(84, .aload 6, 2), (86, .iconst 2, 1), (87, .iload 4, 2), (89, .iload_n 3, 1), (90, .iload 5, 2)]) (by decide +kernel) rfl (g' := (mkF m 92 #[iv x0, iv x1, iv x2, iv (w0_8 x0 x1 x2), iv (w0_15 x0 x1 x2), iv (w0_34 x0 x1 x2), rv b4] [(.int (w0_34 x0 x1 x2)), (.int (w0_8 x0 x1 x2)), (.int (w0_15 x0 x1 x2)), (.int (2 : Int32)), (.ref b4)])) rfl ?_
      obtain ⟨_, _, ⟨T11, L11, k11, n11⟩, -, X11, ⟨Lc11, hQ11, l11, y11, z11⟩, st11⟩ := Jvm.LawKit.callS X9 hx (y := ym9) hown (mvT hZ w_33) (mvT hZ w_34) (mvT hZ w_35) (mvT hZ w_36) (by decide) (backOf (W := 0) (rmA l Z a0 hw [] b4 (2 : Int32) (w0_15 x0 x1 x2) (w0_8 x0 x1 x2) (w0_34 x0 x1 x2) kc4 (own_spans (w0_8 x0 x1 x2) (w0_34 x0 x1 x2) (w0_15 x0 x1 x2)) (own_z (w0_8 x0 x1 x2) (w0_34 x0 x1 x2) (w0_15 x0 x1 x2) 2) h4 n0 Zn4 V_b4 (by decide) (fun _ => own_hz (w0_8 x0 x1 x2) (w0_34 x0 x1 x2) (w0_15 x0 x1 x2) 2)) hZ w_36 w_35 (by decide) (by decide)) (g := (mkF m 92 #[iv x0, iv x1, iv x2, iv (w0_8 x0 x1 x2), iv (w0_15 x0 x1 x2), iv (w0_34 x0 x1 x2), rv b4] [(.int (w0_34 x0 x1 x2)), (.int (w0_8 x0 x1 x2)), (.int (w0_15 x0 x1 x2)), (.int (2 : Int32)), (.ref b4)])) rfl (by rw [hml]; rfl) (argsL := [(.ref b4), (.int (2 : Int32)), (.int (w0_15 x0 x1 x2)), (.int (w0_8 x0 x1 x2)), (.int (w0_34 x0 x1 x2))]) (rest := []) (lenOf pd0_2 rfl) rfl (by show 2 * 0 + _ ≤ _; exact Nat.le_of_eq rfl) (hb hby at_92) (fun _ _ => ⟨rfl, e9, (by decide : 2 + 0 ≤ _), (by decide : 16 + 0 ≤ _)⟩)
      dsimp only [Pt.U, Pt.locs, Pt.cells, Pt.slots] at X11 l11 y11 z11 st11 hQ11
      subst l11 y11 z11
      obtain ⟨rfl, N11q, e11⟩ := hQ11
      have N11 := Fr.app N9 N11q
      refine Goes.st (B := T11.setTop (mkF m 95 #[iv x0, iv x1, iv x2, iv (w0_8 x0 x1 x2), iv (w0_15 x0 x1 x2), iv (w0_34 x0 x1 x2), rv b4] [(.int (rA (2 : Int32) (w0_15 x0 x1 x2) (w0_8 x0 x1 x2) (w0_34 x0 x1 x2) (own_z (w0_8 x0 x1 x2) (w0_34 x0 x1 x2) (w0_15 x0 x1 x2) 2)))])) st11 ?_
      by_cases hc95_12 : (rA (2 : Int32) (w0_15 x0 x1 x2) (w0_8 x0 x1 x2) (w0_34 x0 x1 x2) (own_z (w0_8 x0 x1 x2) (w0_34 x0 x1 x2) (w0_15 x0 x1 x2) 2)) = (0 : Int32)
      · skip
        refine Goes.st (B := T11.setTop (mkF m 174 #[iv x0, iv x1, iv x2, iv (w0_8 x0 x1 x2), iv (w0_15 x0 x1 x2), iv (w0_34 x0 x1 x2), rv b4] [])) (fun t k => ?_) ?_
        · refine XS.ifYes X11.here hx rfl (pc0 := 95) (pc' := 174) rfl (hb hby at_95) rfl ((if0 _ _).trans (teq hc95_12).1) (by decide) (by decide) ?_
          exact k
        refine Goes.run X11 hx hown hci hcl hby (L := [(174, .iconst 0, 1)]) (by decide +kernel) rfl (g' := (mkF m 175 #[iv x0, iv x1, iv x2, iv (w0_8 x0 x1 x2), iv (w0_15 x0 x1 x2), iv (w0_34 x0 x1 x2), rv b4] [(.int (0 : Int32))])) rfl ?_
        exact Goes.retB X11 hx hlk (t := .boolean) Bd.returns (by simp) (hb hby at_175) rfl ⟨(congrArg (fun z => some (Value.int z)) (show (r0 x0 x1 x2) = (0 : Int32) from (((if_neg hc67_8).trans (if_neg hc81_10)).trans (if_pos hc95_12))).symm), N11⟩ (by decide) (by decide)
      · skip
        refine Goes.st (B := T11.setTop (mkF m 98 #[iv x0, iv x1, iv x2, iv (w0_8 x0 x1 x2), iv (w0_15 x0 x1 x2), iv (w0_34 x0 x1 x2), rv b4] [])) (fun t k => ?_) ?_
        · refine XS.ifNo X11.here hx rfl (hb hby at_95) rfl ((if0 _ _).trans (feq hc95_12).1) ?_
          exact k
        refine Goes.run X11 hx hown hci hcl hby (L := [(98, .aload 6, 2), (100, .iconst 3, 1), (101, .iload 4, 2), (103, .iload_n 3, 1), (104, .iload 5, 2)]) (by decide +kernel) rfl (g' := (mkF m 106 #[iv x0, iv x1, iv x2, iv (w0_8 x0 x1 x2), iv (w0_15 x0 x1 x2), iv (w0_34 x0 x1 x2), rv b4] [(.int (w0_34 x0 x1 x2)), (.int (w0_8 x0 x1 x2)), (.int (w0_15 x0 x1 x2)), (.int (3 : Int32)), (.ref b4)])) rfl ?_
        obtain ⟨_, _, ⟨T13, L13, k13, n13⟩, -, X13, ⟨Lc13, hQ13, l13, y13, z13⟩, st13⟩ := Jvm.LawKit.callS X11 hx (y := ym9) hown (mvT hZ w_33) (mvT hZ w_34) (mvT hZ w_35) (mvT hZ w_36) (by decide) (backOf (W := 0) (rmA l Z a0 hw [] b4 (3 : Int32) (w0_15 x0 x1 x2) (w0_8 x0 x1 x2) (w0_34 x0 x1 x2) kc4 (own_spans (w0_8 x0 x1 x2) (w0_34 x0 x1 x2) (w0_15 x0 x1 x2)) (own_z (w0_8 x0 x1 x2) (w0_34 x0 x1 x2) (w0_15 x0 x1 x2) 3) h4 n0 Zn4 V_b4 (by decide) (fun _ => own_hz (w0_8 x0 x1 x2) (w0_34 x0 x1 x2) (w0_15 x0 x1 x2) 3)) hZ w_36 w_35 (by decide) (by decide)) (g := (mkF m 106 #[iv x0, iv x1, iv x2, iv (w0_8 x0 x1 x2), iv (w0_15 x0 x1 x2), iv (w0_34 x0 x1 x2), rv b4] [(.int (w0_34 x0 x1 x2)), (.int (w0_8 x0 x1 x2)), (.int (w0_15 x0 x1 x2)), (.int (3 : Int32)), (.ref b4)])) rfl (by rw [hml]; rfl) (argsL := [(.ref b4), (.int (3 : Int32)), (.int (w0_15 x0 x1 x2)), (.int (w0_8 x0 x1 x2)), (.int (w0_34 x0 x1 x2))]) (rest := []) (lenOf pd0_2 rfl) rfl (by show 2 * 0 + _ ≤ _; exact Nat.le_of_eq rfl) (hb hby at_106) (fun _ _ => ⟨rfl, e11, (by decide : 2 + 0 ≤ _), (by decide : 16 + 0 ≤ _)⟩)
        dsimp only [Pt.U, Pt.locs, Pt.cells, Pt.slots] at X13 l13 y13 z13 st13 hQ13
        subst l13 y13 z13
        obtain ⟨rfl, N13q, e13⟩ := hQ13
        have N13 := Fr.app N11 N13q
        refine Goes.st (B := T13.setTop (mkF m 109 #[iv x0, iv x1, iv x2, iv (w0_8 x0 x1 x2), iv (w0_15 x0 x1 x2), iv (w0_34 x0 x1 x2), rv b4] [(.int (rA (3 : Int32) (w0_15 x0 x1 x2) (w0_8 x0 x1 x2) (w0_34 x0 x1 x2) (own_z (w0_8 x0 x1 x2) (w0_34 x0 x1 x2) (w0_15 x0 x1 x2) 3)))])) st13 ?_
        by_cases hc109_14 : (rA (3 : Int32) (w0_15 x0 x1 x2) (w0_8 x0 x1 x2) (w0_34 x0 x1 x2) (own_z (w0_8 x0 x1 x2) (w0_34 x0 x1 x2) (w0_15 x0 x1 x2) 3)) = (0 : Int32)
        · skip
          refine Goes.st (B := T13.setTop (mkF m 174 #[iv x0, iv x1, iv x2, iv (w0_8 x0 x1 x2), iv (w0_15 x0 x1 x2), iv (w0_34 x0 x1 x2), rv b4] [])) (fun t k => ?_) ?_
          · refine XS.ifYes X13.here hx rfl (pc0 := 109) (pc' := 174) rfl (hb hby at_109) rfl ((if0 _ _).trans (teq hc109_14).1) (by decide) (by decide) ?_
            exact k
          refine Goes.run X13 hx hown hci hcl hby (L := [(174, .iconst 0, 1)]) (by decide +kernel) rfl (g' := (mkF m 175 #[iv x0, iv x1, iv x2, iv (w0_8 x0 x1 x2), iv (w0_15 x0 x1 x2), iv (w0_34 x0 x1 x2), rv b4] [(.int (0 : Int32))])) rfl ?_
          exact Goes.retB X13 hx hlk (t := .boolean) Bd.returns (by simp) (hb hby at_175) rfl ⟨(congrArg (fun z => some (Value.int z)) (show (r0 x0 x1 x2) = (0 : Int32) from ((((if_neg hc67_8).trans (if_neg hc81_10)).trans (if_neg hc95_12)).trans (if_pos hc109_14))).symm), N13⟩ (by decide) (by decide)
        · skip
          refine Goes.st (B := T13.setTop (mkF m 112 #[iv x0, iv x1, iv x2, iv (w0_8 x0 x1 x2), iv (w0_15 x0 x1 x2), iv (w0_34 x0 x1 x2), rv b4] [])) (fun t k => ?_) ?_
          · refine XS.ifNo X13.here hx rfl (hb hby at_109) rfl ((if0 _ _).trans (feq hc109_14).1) ?_
            exact k
          refine Goes.run X13 hx hown hci hcl hby (L := [(112, .aload 6, 2), (114, .iconst 4, 1), (115, .iload 4, 2), (117, .iload_n 3, 1), (118, .iload 5, 2)]) (by decide +kernel) rfl (g' := (mkF m 120 #[iv x0, iv x1, iv x2, iv (w0_8 x0 x1 x2), iv (w0_15 x0 x1 x2), iv (w0_34 x0 x1 x2), rv b4] [(.int (w0_34 x0 x1 x2)), (.int (w0_8 x0 x1 x2)), (.int (w0_15 x0 x1 x2)), (.int (4 : Int32)), (.ref b4)])) rfl ?_
          obtain ⟨_, _, ⟨T15, L15, k15, n15⟩, -, X15, ⟨Lc15, hQ15, l15, y15, z15⟩, st15⟩ := Jvm.LawKit.callS X13 hx (y := ym9) hown (mvT hZ w_33) (mvT hZ w_34) (mvT hZ w_35) (mvT hZ w_36) (by decide) (backOf (W := 0) (rmA l Z a0 hw [] b4 (4 : Int32) (w0_15 x0 x1 x2) (w0_8 x0 x1 x2) (w0_34 x0 x1 x2) kc4 (own_spans (w0_8 x0 x1 x2) (w0_34 x0 x1 x2) (w0_15 x0 x1 x2)) (own_z (w0_8 x0 x1 x2) (w0_34 x0 x1 x2) (w0_15 x0 x1 x2) 4) h4 n0 Zn4 V_b4 (by decide) (fun _ => own_hz (w0_8 x0 x1 x2) (w0_34 x0 x1 x2) (w0_15 x0 x1 x2) 4)) hZ w_36 w_35 (by decide) (by decide)) (g := (mkF m 120 #[iv x0, iv x1, iv x2, iv (w0_8 x0 x1 x2), iv (w0_15 x0 x1 x2), iv (w0_34 x0 x1 x2), rv b4] [(.int (w0_34 x0 x1 x2)), (.int (w0_8 x0 x1 x2)), (.int (w0_15 x0 x1 x2)), (.int (4 : Int32)), (.ref b4)])) rfl (by rw [hml]; rfl) (argsL := [(.ref b4), (.int (4 : Int32)), (.int (w0_15 x0 x1 x2)), (.int (w0_8 x0 x1 x2)), (.int (w0_34 x0 x1 x2))]) (rest := []) (lenOf pd0_2 rfl) rfl (by show 2 * 0 + _ ≤ _; exact Nat.le_of_eq rfl) (hb hby at_120) (fun _ _ => ⟨rfl, e13, (by decide : 2 + 0 ≤ _), (by decide : 16 + 0 ≤ _)⟩)
          dsimp only [Pt.U, Pt.locs, Pt.cells, Pt.slots] at X15 l15 y15 z15 st15 hQ15
          subst l15 y15 z15
          obtain ⟨rfl, N15q, e15⟩ := hQ15
          have N15 := Fr.app N13 N15q
          refine Goes.st (B := T15.setTop (mkF m 123 #[iv x0, iv x1, iv x2, iv (w0_8 x0 x1 x2), iv (w0_15 x0 x1 x2), iv (w0_34 x0 x1 x2), rv b4] [(.int (rA (4 : Int32) (w0_15 x0 x1 x2) (w0_8 x0 x1 x2) (w0_34 x0 x1 x2) (own_z (w0_8 x0 x1 x2) (w0_34 x0 x1 x2) (w0_15 x0 x1 x2) 4)))])) st15 ?_
          by_cases hc123_16 : (rA (4 : Int32) (w0_15 x0 x1 x2) (w0_8 x0 x1 x2) (w0_34 x0 x1 x2) (own_z (w0_8 x0 x1 x2) (w0_34 x0 x1 x2) (w0_15 x0 x1 x2) 4)) = (0 : Int32)
          · skip
            refine Goes.st (B := T15.setTop (mkF m 174 #[iv x0, iv x1, iv x2, iv (w0_8 x0 x1 x2), iv (w0_15 x0 x1 x2), iv (w0_34 x0 x1 x2), rv b4] [])) (fun t k => ?_) ?_
            · refine XS.ifYes X15.here hx rfl (pc0 := 123) (pc' := 174) rfl (hb hby at_123) rfl ((if0 _ _).trans (teq hc123_16).1) (by decide) (by decide) ?_
              exact k
            refine Goes.run X15 hx hown hci hcl hby (L := [(174, .iconst 0, 1)]) (by decide +kernel) rfl (g' := (mkF m 175 #[iv x0, iv x1, iv x2, iv (w0_8 x0 x1 x2), iv (w0_15 x0 x1 x2), iv (w0_34 x0 x1 x2), rv b4] [(.int (0 : Int32))])) rfl ?_
            exact Goes.retB X15 hx hlk (t := .boolean) Bd.returns (by simp) (hb hby at_175) rfl ⟨(congrArg (fun z => some (Value.int z)) (show (r0 x0 x1 x2) = (0 : Int32) from (((((if_neg hc67_8).trans (if_neg hc81_10)).trans (if_neg hc95_12)).trans (if_neg hc109_14)).trans (if_pos hc123_16))).symm), N15⟩ (by decide) (by decide)
          · skip
            refine Goes.st (B := T15.setTop (mkF m 126 #[iv x0, iv x1, iv x2, iv (w0_8 x0 x1 x2), iv (w0_15 x0 x1 x2), iv (w0_34 x0 x1 x2), rv b4] [])) (fun t k => ?_) ?_
            · refine XS.ifNo X15.here hx rfl (hb hby at_123) rfl ((if0 _ _).trans (feq hc123_16).1) ?_
              exact k
            refine Goes.run X15 hx hown hci hcl hby (L := [(126, .aload 6, 2), (128, .iconst 5, 1), (129, .iload 4, 2), (131, .iload_n 3, 1), (132, .iload 5, 2)]) (by decide +kernel) rfl (g' := (mkF m 134 #[iv x0, iv x1, iv x2, iv (w0_8 x0 x1 x2), iv (w0_15 x0 x1 x2), iv (w0_34 x0 x1 x2), rv b4] [(.int (w0_34 x0 x1 x2)), (.int (w0_8 x0 x1 x2)), (.int (w0_15 x0 x1 x2)), (.int (5 : Int32)), (.ref b4)])) rfl ?_
            obtain ⟨_, _, ⟨T17, L17, k17, n17⟩, -, X17, ⟨Lc17, hQ17, l17, y17, z17⟩, st17⟩ := Jvm.LawKit.callS X15 hx (y := ym9) hown (mvT hZ w_33) (mvT hZ w_34) (mvT hZ w_35) (mvT hZ w_36) (by decide) (backOf (W := 0) (rmA l Z a0 hw [] b4 (5 : Int32) (w0_15 x0 x1 x2) (w0_8 x0 x1 x2) (w0_34 x0 x1 x2) kc4 (own_spans (w0_8 x0 x1 x2) (w0_34 x0 x1 x2) (w0_15 x0 x1 x2)) (own_z (w0_8 x0 x1 x2) (w0_34 x0 x1 x2) (w0_15 x0 x1 x2) 5) h4 n0 Zn4 V_b4 (by decide) (fun _ => own_hz (w0_8 x0 x1 x2) (w0_34 x0 x1 x2) (w0_15 x0 x1 x2) 5)) hZ w_36 w_35 (by decide) (by decide)) (g := (mkF m 134 #[iv x0, iv x1, iv x2, iv (w0_8 x0 x1 x2), iv (w0_15 x0 x1 x2), iv (w0_34 x0 x1 x2), rv b4] [(.int (w0_34 x0 x1 x2)), (.int (w0_8 x0 x1 x2)), (.int (w0_15 x0 x1 x2)), (.int (5 : Int32)), (.ref b4)])) rfl (by rw [hml]; rfl) (argsL := [(.ref b4), (.int (5 : Int32)), (.int (w0_15 x0 x1 x2)), (.int (w0_8 x0 x1 x2)), (.int (w0_34 x0 x1 x2))]) (rest := []) (lenOf pd0_2 rfl) rfl (by show 2 * 0 + _ ≤ _; exact Nat.le_of_eq rfl) (hb hby at_134) (fun _ _ => ⟨rfl, e15, (by decide : 2 + 0 ≤ _), (by decide : 16 + 0 ≤ _)⟩)
            dsimp only [Pt.U, Pt.locs, Pt.cells, Pt.slots] at X17 l17 y17 z17 st17 hQ17
            subst l17 y17 z17
            obtain ⟨rfl, N17q, e17⟩ := hQ17
            have N17 := Fr.app N15 N17q
            refine Goes.st (B := T17.setTop (mkF m 137 #[iv x0, iv x1, iv x2, iv (w0_8 x0 x1 x2), iv (w0_15 x0 x1 x2), iv (w0_34 x0 x1 x2), rv b4] [(.int (rA (5 : Int32) (w0_15 x0 x1 x2) (w0_8 x0 x1 x2) (w0_34 x0 x1 x2) (own_z (w0_8 x0 x1 x2) (w0_34 x0 x1 x2) (w0_15 x0 x1 x2) 5)))])) st17 ?_
            by_cases hc137_18 : (rA (5 : Int32) (w0_15 x0 x1 x2) (w0_8 x0 x1 x2) (w0_34 x0 x1 x2) (own_z (w0_8 x0 x1 x2) (w0_34 x0 x1 x2) (w0_15 x0 x1 x2) 5)) = (0 : Int32)
            · skip
              refine Goes.st (B := T17.setTop (mkF m 174 #[iv x0, iv x1, iv x2, iv (w0_8 x0 x1 x2), iv (w0_15 x0 x1 x2), iv (w0_34 x0 x1 x2), rv b4] [])) (fun t k => ?_) ?_
              · refine XS.ifYes X17.here hx rfl (pc0 := 137) (pc' := 174) rfl (hb hby at_137) rfl ((if0 _ _).trans (teq hc137_18).1) (by decide) (by decide) ?_
                exact k
              refine Goes.run X17 hx hown hci hcl hby (L := [(174, .iconst 0, 1)]) (by decide +kernel) rfl (g' := (mkF m 175 #[iv x0, iv x1, iv x2, iv (w0_8 x0 x1 x2), iv (w0_15 x0 x1 x2), iv (w0_34 x0 x1 x2), rv b4] [(.int (0 : Int32))])) rfl ?_
              exact Goes.retB X17 hx hlk (t := .boolean) Bd.returns (by simp) (hb hby at_175) rfl ⟨(congrArg (fun z => some (Value.int z)) (show (r0 x0 x1 x2) = (0 : Int32) from ((((((if_neg hc67_8).trans (if_neg hc81_10)).trans (if_neg hc95_12)).trans (if_neg hc109_14)).trans (if_neg hc123_16)).trans (if_pos hc137_18))).symm), N17⟩ (by decide) (by decide)
            · skip
              refine Goes.st (B := T17.setTop (mkF m 140 #[iv x0, iv x1, iv x2, iv (w0_8 x0 x1 x2), iv (w0_15 x0 x1 x2), iv (w0_34 x0 x1 x2), rv b4] [])) (fun t k => ?_) ?_
              · refine XS.ifNo X17.here hx rfl (hb hby at_137) rfl ((if0 _ _).trans (feq hc137_18).1) ?_
                exact k
              refine Goes.run X17 hx hown hci hcl hby (L := [(140, .aload 6, 2), (142, .bipush 6, 2), (144, .iload 4, 2), (146, .iload_n 3, 1), (147, .iload 5, 2)]) (by decide +kernel) rfl (g' := (mkF m 149 #[iv x0, iv x1, iv x2, iv (w0_8 x0 x1 x2), iv (w0_15 x0 x1 x2), iv (w0_34 x0 x1 x2), rv b4] [(.int (w0_34 x0 x1 x2)), (.int (w0_8 x0 x1 x2)), (.int (w0_15 x0 x1 x2)), (.int (6 : Int32)), (.ref b4)])) rfl ?_
              obtain ⟨_, _, ⟨T19, L19, k19, n19⟩, -, X19, ⟨Lc19, hQ19, l19, y19, z19⟩, st19⟩ := Jvm.LawKit.callS X17 hx (y := ym9) hown (mvT hZ w_33) (mvT hZ w_34) (mvT hZ w_35) (mvT hZ w_36) (by decide) (backOf (W := 0) (rmA l Z a0 hw [] b4 (6 : Int32) (w0_15 x0 x1 x2) (w0_8 x0 x1 x2) (w0_34 x0 x1 x2) kc4 (own_spans (w0_8 x0 x1 x2) (w0_34 x0 x1 x2) (w0_15 x0 x1 x2)) (own_z (w0_8 x0 x1 x2) (w0_34 x0 x1 x2) (w0_15 x0 x1 x2) 6) h4 n0 Zn4 V_b4 (by decide) (fun _ => own_hz (w0_8 x0 x1 x2) (w0_34 x0 x1 x2) (w0_15 x0 x1 x2) 6)) hZ w_36 w_35 (by decide) (by decide)) (g := (mkF m 149 #[iv x0, iv x1, iv x2, iv (w0_8 x0 x1 x2), iv (w0_15 x0 x1 x2), iv (w0_34 x0 x1 x2), rv b4] [(.int (w0_34 x0 x1 x2)), (.int (w0_8 x0 x1 x2)), (.int (w0_15 x0 x1 x2)), (.int (6 : Int32)), (.ref b4)])) rfl (by rw [hml]; rfl) (argsL := [(.ref b4), (.int (6 : Int32)), (.int (w0_15 x0 x1 x2)), (.int (w0_8 x0 x1 x2)), (.int (w0_34 x0 x1 x2))]) (rest := []) (lenOf pd0_2 rfl) rfl (by show 2 * 0 + _ ≤ _; exact Nat.le_of_eq rfl) (hb hby at_149) (fun _ _ => ⟨rfl, e17, (by decide : 2 + 0 ≤ _), (by decide : 16 + 0 ≤ _)⟩)
              dsimp only [Pt.U, Pt.locs, Pt.cells, Pt.slots] at X19 l19 y19 z19 st19 hQ19
              subst l19 y19 z19
              obtain ⟨rfl, N19q, e19⟩ := hQ19
              have N19 := Fr.app N17 N19q
              refine Goes.st (B := T19.setTop (mkF m 152 #[iv x0, iv x1, iv x2, iv (w0_8 x0 x1 x2), iv (w0_15 x0 x1 x2), iv (w0_34 x0 x1 x2), rv b4] [(.int (rA (6 : Int32) (w0_15 x0 x1 x2) (w0_8 x0 x1 x2) (w0_34 x0 x1 x2) (own_z (w0_8 x0 x1 x2) (w0_34 x0 x1 x2) (w0_15 x0 x1 x2) 6)))])) st19 ?_
              by_cases hc152_20 : (rA (6 : Int32) (w0_15 x0 x1 x2) (w0_8 x0 x1 x2) (w0_34 x0 x1 x2) (own_z (w0_8 x0 x1 x2) (w0_34 x0 x1 x2) (w0_15 x0 x1 x2) 6)) = (0 : Int32)
              · skip
                refine Goes.st (B := T19.setTop (mkF m 174 #[iv x0, iv x1, iv x2, iv (w0_8 x0 x1 x2), iv (w0_15 x0 x1 x2), iv (w0_34 x0 x1 x2), rv b4] [])) (fun t k => ?_) ?_
                · refine XS.ifYes X19.here hx rfl (pc0 := 152) (pc' := 174) rfl (hb hby at_152) rfl ((if0 _ _).trans (teq hc152_20).1) (by decide) (by decide) ?_
                  exact k
                refine Goes.run X19 hx hown hci hcl hby (L := [(174, .iconst 0, 1)]) (by decide +kernel) rfl (g' := (mkF m 175 #[iv x0, iv x1, iv x2, iv (w0_8 x0 x1 x2), iv (w0_15 x0 x1 x2), iv (w0_34 x0 x1 x2), rv b4] [(.int (0 : Int32))])) rfl ?_
                exact Goes.retB X19 hx hlk (t := .boolean) Bd.returns (by simp) (hb hby at_175) rfl ⟨(congrArg (fun z => some (Value.int z)) (show (r0 x0 x1 x2) = (0 : Int32) from (((((((if_neg hc67_8).trans (if_neg hc81_10)).trans (if_neg hc95_12)).trans (if_neg hc109_14)).trans (if_neg hc123_16)).trans (if_neg hc137_18)).trans (if_pos hc152_20))).symm), N19⟩ (by decide) (by decide)
              · skip
                refine Goes.st (B := T19.setTop (mkF m 155 #[iv x0, iv x1, iv x2, iv (w0_8 x0 x1 x2), iv (w0_15 x0 x1 x2), iv (w0_34 x0 x1 x2), rv b4] [])) (fun t k => ?_) ?_
                · refine XS.ifNo X19.here hx rfl (hb hby at_152) rfl ((if0 _ _).trans (feq hc152_20).1) ?_
                  exact k
                refine Goes.run X19 hx hown hci hcl hby (L := [(155, .aload 6, 2), (157, .bipush 7, 2), (159, .iload 4, 2), (161, .iload_n 3, 1), (162, .iload 5, 2)]) (by decide +kernel) rfl (g' := (mkF m 164 #[iv x0, iv x1, iv x2, iv (w0_8 x0 x1 x2), iv (w0_15 x0 x1 x2), iv (w0_34 x0 x1 x2), rv b4] [(.int (w0_34 x0 x1 x2)), (.int (w0_8 x0 x1 x2)), (.int (w0_15 x0 x1 x2)), (.int (7 : Int32)), (.ref b4)])) rfl ?_
                obtain ⟨_, _, ⟨T21, L21, k21, n21⟩, -, X21, ⟨Lc21, hQ21, l21, y21, z21⟩, st21⟩ := Jvm.LawKit.callS X19 hx (y := ym9) hown (mvT hZ w_33) (mvT hZ w_34) (mvT hZ w_35) (mvT hZ w_36) (by decide) (backOf (W := 0) (rmA l Z a0 hw [] b4 (7 : Int32) (w0_15 x0 x1 x2) (w0_8 x0 x1 x2) (w0_34 x0 x1 x2) kc4 (own_spans (w0_8 x0 x1 x2) (w0_34 x0 x1 x2) (w0_15 x0 x1 x2)) (own_z (w0_8 x0 x1 x2) (w0_34 x0 x1 x2) (w0_15 x0 x1 x2) 7) h4 n0 Zn4 V_b4 (by decide) (fun _ => own_hz (w0_8 x0 x1 x2) (w0_34 x0 x1 x2) (w0_15 x0 x1 x2) 7)) hZ w_36 w_35 (by decide) (by decide)) (g := (mkF m 164 #[iv x0, iv x1, iv x2, iv (w0_8 x0 x1 x2), iv (w0_15 x0 x1 x2), iv (w0_34 x0 x1 x2), rv b4] [(.int (w0_34 x0 x1 x2)), (.int (w0_8 x0 x1 x2)), (.int (w0_15 x0 x1 x2)), (.int (7 : Int32)), (.ref b4)])) rfl (by rw [hml]; rfl) (argsL := [(.ref b4), (.int (7 : Int32)), (.int (w0_15 x0 x1 x2)), (.int (w0_8 x0 x1 x2)), (.int (w0_34 x0 x1 x2))]) (rest := []) (lenOf pd0_2 rfl) rfl (by show 2 * 0 + _ ≤ _; exact Nat.le_of_eq rfl) (hb hby at_164) (fun _ _ => ⟨rfl, e19, (by decide : 2 + 0 ≤ _), (by decide : 16 + 0 ≤ _)⟩)
                dsimp only [Pt.U, Pt.locs, Pt.cells, Pt.slots] at X21 l21 y21 z21 st21 hQ21
                subst l21 y21 z21
                obtain ⟨rfl, N21q, e21⟩ := hQ21
                have N21 := Fr.app N19 N21q
                refine Goes.st (B := T21.setTop (mkF m 167 #[iv x0, iv x1, iv x2, iv (w0_8 x0 x1 x2), iv (w0_15 x0 x1 x2), iv (w0_34 x0 x1 x2), rv b4] [(.int (rA (7 : Int32) (w0_15 x0 x1 x2) (w0_8 x0 x1 x2) (w0_34 x0 x1 x2) (own_z (w0_8 x0 x1 x2) (w0_34 x0 x1 x2) (w0_15 x0 x1 x2) 7)))])) st21 ?_
                by_cases hc167_22 : (rA (7 : Int32) (w0_15 x0 x1 x2) (w0_8 x0 x1 x2) (w0_34 x0 x1 x2) (own_z (w0_8 x0 x1 x2) (w0_34 x0 x1 x2) (w0_15 x0 x1 x2) 7)) = (0 : Int32)
                · skip
                  refine Goes.st (B := T21.setTop (mkF m 174 #[iv x0, iv x1, iv x2, iv (w0_8 x0 x1 x2), iv (w0_15 x0 x1 x2), iv (w0_34 x0 x1 x2), rv b4] [])) (fun t k => ?_) ?_
                  · refine XS.ifYes X21.here hx rfl (pc0 := 167) (pc' := 174) rfl (hb hby at_167) rfl ((if0 _ _).trans (teq hc167_22).1) (by decide) (by decide) ?_
                    exact k
                  refine Goes.run X21 hx hown hci hcl hby (L := [(174, .iconst 0, 1)]) (by decide +kernel) rfl (g' := (mkF m 175 #[iv x0, iv x1, iv x2, iv (w0_8 x0 x1 x2), iv (w0_15 x0 x1 x2), iv (w0_34 x0 x1 x2), rv b4] [(.int (0 : Int32))])) rfl ?_
                  exact Goes.retB X21 hx hlk (t := .boolean) Bd.returns (by simp) (hb hby at_175) rfl ⟨(congrArg (fun z => some (Value.int z)) (show (r0 x0 x1 x2) = (0 : Int32) from ((((((((if_neg hc67_8).trans (if_neg hc81_10)).trans (if_neg hc95_12)).trans (if_neg hc109_14)).trans (if_neg hc123_16)).trans (if_neg hc137_18)).trans (if_neg hc152_20)).trans (if_pos hc167_22))).symm), N21⟩ (by decide) (by decide)
                · skip
                  refine Goes.st (B := T21.setTop (mkF m 170 #[iv x0, iv x1, iv x2, iv (w0_8 x0 x1 x2), iv (w0_15 x0 x1 x2), iv (w0_34 x0 x1 x2), rv b4] [])) (fun t k => ?_) ?_
                  · refine XS.ifNo X21.here hx rfl (hb hby at_167) rfl ((if0 _ _).trans (feq hc167_22).1) ?_
                    exact k
                  refine Goes.run X21 hx hown hci hcl hby (L := [(170, .iconst 1, 1), (171, .goto 4, 3)]) (by decide +kernel) rfl (g' := (mkF m 175 #[iv x0, iv x1, iv x2, iv (w0_8 x0 x1 x2), iv (w0_15 x0 x1 x2), iv (w0_34 x0 x1 x2), rv b4] [(.int (1 : Int32))])) rfl ?_
                  exact Goes.retB X21 hx hlk (t := .boolean) Bd.returns (by simp) (hb hby at_175) rfl ⟨(congrArg (fun z => some (Value.int z)) (show (r0 x0 x1 x2) = (1 : Int32) from ((((((((if_neg hc67_8).trans (if_neg hc81_10)).trans (if_neg hc95_12)).trans (if_neg hc109_14)).trans (if_neg hc123_16)).trans (if_neg hc137_18)).trans (if_neg hc152_20)).trans (if_neg hc167_22))).symm), N21⟩ (by decide) (by decide)
set_option maxRecDepth 65536 in
set_option maxHeartbeats 40000000 in
theorem comes_1 {Post : Tables → Env → Array Value → State → Outcome → State → Prop} (hpost : ∀ tb e args s v u, (limb_1_1.after args s (.returned v) u = true ∧ limb_1_2.after args s (.returned v) u = true ∧ True) → FrameEnd s (.returned v) u (Jvm.fieldLocs frame_1_writes args s ++ Jvm.arrayLocs frame_1_arrays args s ++ Jvm.staticLocs frame_1_statics s) 16 128 → Post tb e args s (.returned v) u) :
    ArmFor flags0 classFile x code maxLocals ret World_1 tables_1 room_1 Calls_1 rest_1 Pre_1 Post := by
  intro l hfl _ _ p e ha hc hk s m args below hf hA hF happ hP
  obtain ⟨hcalls, hrest, hpre⟩ := hP
  obtain ⟨-, -, -, hnamed, -, -, -, hat⟩ := (Spec.applies_iff hf).mp happ
  obtain ⟨hg, hn⟩ := and_e (Cond.before_iff.mp (show (Jvm.Cond.and given_1 narrow_1).before args s = true from hpre))
  obtain ⟨g0, g0r⟩ := and_e hg
  obtain ⟨g1, g1r⟩ := and_e g0r
  obtain ⟨g2, g3⟩ := and_e g1r
  obtain ⟨w0, w1, w2, rfl⟩ : ∃ w0 w1 w2 : Value, args = #[w0, w1, w2] := by
    have hs : args.size = 3 := by simpa [Cond.value, given_1] using g0
    obtain ⟨L⟩ := args
    match L, hs with
    | [w0, w1, w2], _ => exact ⟨w0, w1, w2, rfl⟩
  have hw := fun d (hd : d ∈ tables_1) => atoms_spec (ws := Jvm.Cond.code x code maxLocals ret :: tables_1) hat d (List.mem_cons_of_mem _ hd)
  have hfit : Fit s := fun {y c} hc i hi => by
    obtain ⟨ha, rfl⟩ := Array.getElem?_eq_some_iff.mp hc
    have q := List.all_eq_true.mp ((Array.all_eq_true_iff_forall_mem.mp hF) _ (Array.getElem_mem ha)) i (List.mem_range.mpr hi)
    simpa [Array.getElem?_eq_getElem hi] using q
  obtain ⟨i0, ei0⟩ := is_v g1
  obtain rfl : w0 = (.int i0) := Option.some.inj ei0
  obtain ⟨i1, ei1⟩ := is_v g2
  obtain rfl : w1 = (.int i1) := Option.some.inj ei1
  obtain ⟨i2, ei2⟩ := is_v g3
  obtain rfl : w2 = (.int i2) := Option.some.inj ei2
  obtain ⟨n, o, h1, h2, h3, v, L, rfl, hv, hq⟩ := rm0 l s _ hw tables_1 i0 i1 i2  s.heap s.heap.size (Nat.le_refl _)  p e ha hc hk s m _ below hf ((Spec.applies_iff_loose hf).mp happ).1 ⟨rfl, State.Warmed39.refl s, rfl⟩ trivial
  have N := hv.2
  have hv1 : v = some (.int 1) := hv.1.trans (congrArg (fun z => some (Value.int z)) (law_true i0 i1 i2))
  subst hv1
  refine ⟨n, _, h1, h2, h3, hpost _ _ _ _ _ _ ⟨Cond.after_iff.mpr rfl, Cond.after_iff.mpr (eq_i res_at (Term.int_eval (1)) rfl), trivial⟩ ⟨hq.1, hq.2.1, (hq.2.2.sift fun y hy => Or.inr (N y hy)).mono (by decide) (by decide)⟩⟩
theorem main_1_1 : Claimed_1_1 := comes_1 fun _ _ _ _ _ _ h hF => ⟨h.1, hF⟩
theorem main_1_2 : Claimed_1_2 := comes_1 fun _ _ _ _ _ _ h hF => ⟨h.2.1, hF⟩
end Jvm.Pilot.@@N@@
namespace Jvm.Pilot.@@N@@
open Jvm Jvm.ClassFile Sem Op Lib Jvm.Free Jvm.Stand Jvm.Pilot.@@N@@.Jvm.D
/-! MADE BY PROGRAM (witnessworld.py) out of the Statement's table words and the real class files: 18 classes; the members and pool entries that the words name. The judged class is class 1, her method 1. -/
namespace start1
open Jvm.ClassFile
def u (s : String) : CpInfo := .utf8 (stringToUtf16 s)
/-- a pool by its gaps: so many unusable entries, then the entry; so many at the end -/
def gap : Nat → List CpInfo → List CpInfo
  | 0, r => r
  | n + 1, r => .unusable :: gap n r
def poolList (es : List (Nat × CpInfo)) (last : Nat) : List CpInfo := es.foldr (fun e r => gap e.1 (e.2 :: r)) (gap last [])
def pool (es : List (Nat × CpInfo)) (last : Nat) : Array CpInfo := ⟨poolList es last⟩
def fileOf (pool : Array CpInfo) (this : Nat) (attrs : Array Attribute := #[]) (ms : Array MethodInfo := #[]) (fl : Nat := 33) (sup : Nat := 0) (ifs : Array Nat := #[]) (fds : Array FieldInfo := #[]) : ClassFile where
  minorVersion := 0
  majorVersion := 65
  constantPool := pool
  accessFlags := fl
  thisClass := this
  superClass := sup
  interfaces := ifs
  fields := fds
  methods := ms
  attributes := attrs
def plain (name : String) (sup : Option ClassId) : Class where
  name := name
  kind := .ordinary
  loader := none
  accessFlags := 33
  super := sup
  interfaces := #[]
  cf := none
  fields := #[]
  methods := #[]
  instanceTypes := #[]
  staticTypes := #[]
  resolved := #[]
  callSites := []
  init := .initialized
  statics := none
  mirror := none

def pool0 : Array CpInfo := pool [(5, u "<init>"), (0, u "()V"), (1, .class_ 10), (1, u "java/lang/Object")] 113

def k0m0 : Method := { name := "<init>", desc := "()V", sig := { parameters := [], returnType := none }, accessFlags := 1, code := none }
/-- java/lang/Object -/
def k0 : Class := { plain "java/lang/Object" none with
  accessFlags := 33
  interfaces := #[]
  cf := some (fileOf pool0 8 #[] #[{ accessFlags := 1, nameIndex := 5, descriptorIndex := 6, attributes := #[] }] 33 0 #[] #[])
  fields := #[]
  methods := #[k0m0]
  instanceTypes := #[]
  staticTypes := #[]
  resolved := Array.replicate 124 none
  statics := none }

def pool1 : Array CpInfo := pool [(2, .class_ 4), (1, u "java/lang/Object"), (0, u "<init>"), (0, u "()V"), (0, .integer 2147483647), (0, .methodref 9 10), (0, .class_ 11), (0, .nameAndType 12 13), (0, u "java/lang/Math"), (0, u "max"), (0, u "(II)I"), (0, .methodref 15 16), (0, .class_ 17), (0, .nameAndType 18 19), (0, u "com/example/eriu/eriu/algorithm/GroupElection"), (0, u "roundSpans"), (0, u "(III)[J"), (0, .methodref 21 22), (0, .class_ 23), (0, .nameAndType 24 25), (0, u "com/example/eriu/eriu/algorithm/GroupElectionRoundSpansPinLaw"), (0, u "spanOk"), (0, u "([JIIII)Z"), (0, .methodref 21 27), (0, .nameAndType 28 29), (0, u "kOf"), (0, u "(IIII)J"), (0, .long 4), (1, .long 3), (1, .long 2), (1, .long 31), (3, u "law"), (0, u "(III)Z")] 5

def k1m0 : Method := { name := "<init>", desc := "()V", sig := { parameters := [], returnType := none }, accessFlags := 2, code := none }
def k1c1 : Code := { maxStack := 5, maxLocals := 7, code := code, exceptionTable := #[], attributes := #[] }
def k1m1 : Method := { name := "law", desc := "(III)Z", sig := { parameters := [.int, .int, .int], returnType := some .boolean }, accessFlags := 9, code := some k1c1 }
def k1c2 : Code := { maxStack := 3, maxLocals := 4, code := method_3_code, exceptionTable := #[], attributes := #[] }
def k1m2 : Method := { name := "kOf", desc := "(IIII)J", sig := { parameters := [.int, .int, .int, .int], returnType := some .long }, accessFlags := 10, code := some k1c2 }
def k1c3 : Code := { maxStack := 6, maxLocals := 15, code := method_4_code, exceptionTable := #[], attributes := #[] }
def k1m3 : Method := { name := "spanOk", desc := "([JIIII)Z", sig := { parameters := [(.array .long), .int, .int, .int, .int], returnType := some .boolean }, accessFlags := 10, code := some k1c3 }
/-- com/example/eriu/eriu/algorithm/GroupElectionRoundSpansPinLaw -/
def k1 : Class := { plain "com/example/eriu/eriu/algorithm/GroupElectionRoundSpansPinLaw" (some 0) with
  accessFlags := 49
  interfaces := #[]
  cf := some (fileOf pool1 21 #[] #[{ accessFlags := 2, nameIndex := 5, descriptorIndex := 6, attributes := #[] }, { accessFlags := 9, nameIndex := 40, descriptorIndex := 41, attributes := #[] }, { accessFlags := 10, nameIndex := 28, descriptorIndex := 29, attributes := #[] }, { accessFlags := 10, nameIndex := 24, descriptorIndex := 25, attributes := #[] }] 49 2 #[] #[])
  fields := #[]
  methods := #[k1m0, k1m1, k1m2, k1m3]
  instanceTypes := #[]
  staticTypes := #[]
  resolved := Array.replicate 47 none
  statics := none }

def pool2 : Array CpInfo := pool [(1, .class_ 2), (0, u "java/lang/Math"), (1, .class_ 6), (1, u "java/lang/Object"), (0, u "<init>"), (0, u "()V"), (89, .class_ 100), (1, u "java/lang/Math$RandomNumberGeneratorHolder"), (71, u "negativeZeroFloatBits"), (0, u "J"), (2, u "negativeZeroDoubleBits"), (21, u "max"), (46, u "$assertionsDisabled"), (0, u "Z"), (88, u "(II)I"), (2, u "twoToTheDoubleScaleDown"), (0, u "D"), (4, u "twoToTheDoubleScaleUp"), (9, u "E"), (3, u "PI"), (2, u "TAU"), (2, u "DEGREES_TO_RADIANS"), (0, u "RADIANS_TO_DEGREES")] 94

def k2m0 : Method := { name := "<init>", desc := "()V", sig := { parameters := [], returnType := none }, accessFlags := 2, code := none }
def k2c1 : Code := { maxStack := 2, maxLocals := 2, code := jdk_29_method_65_code, exceptionTable := #[], attributes := #[] }
def k2m1 : Method := { name := "max", desc := "(II)I", sig := { parameters := [.int, .int], returnType := some .int }, accessFlags := 9, code := some k2c1 }
/-- java/lang/Math -/
def k2 : Class := { plain "java/lang/Math" (some 0) with
  accessFlags := 49
  interfaces := #[]
  cf := some (fileOf pool2 1 #[.nestMembers #[98]] #[{ accessFlags := 2, nameIndex := 7, descriptorIndex := 8, attributes := #[] }, { accessFlags := 9, nameIndex := 198, descriptorIndex := 335, attributes := #[] }] 49 4 #[] #[{ accessFlags := 25, nameIndex := 354, descriptorIndex := 339, attributes := #[] }, { accessFlags := 25, nameIndex := 358, descriptorIndex := 339, attributes := #[] }, { accessFlags := 25, nameIndex := 361, descriptorIndex := 339, attributes := #[] }, { accessFlags := 26, nameIndex := 364, descriptorIndex := 339, attributes := #[] }, { accessFlags := 26, nameIndex := 365, descriptorIndex := 339, attributes := #[] }, { accessFlags := 26, nameIndex := 172, descriptorIndex := 173, attributes := #[] }, { accessFlags := 26, nameIndex := 176, descriptorIndex := 173, attributes := #[] }, { accessFlags := 8, nameIndex := 344, descriptorIndex := 339, attributes := #[] }, { accessFlags := 8, nameIndex := 338, descriptorIndex := 339, attributes := #[] }, { accessFlags := 4120, nameIndex := 245, descriptorIndex := 246, attributes := #[] }])
  fields := #[{ name := "E", type := .double, accessFlags := 25, slot := 0, constantValue := 0 }, { name := "PI", type := .double, accessFlags := 25, slot := 1, constantValue := 0 }, { name := "TAU", type := .double, accessFlags := 25, slot := 2, constantValue := 0 }, { name := "DEGREES_TO_RADIANS", type := .double, accessFlags := 26, slot := 3, constantValue := 0 }, { name := "RADIANS_TO_DEGREES", type := .double, accessFlags := 26, slot := 4, constantValue := 0 }, { name := "negativeZeroFloatBits", type := .long, accessFlags := 26, slot := 5, constantValue := 0 }, { name := "negativeZeroDoubleBits", type := .long, accessFlags := 26, slot := 6, constantValue := 0 }, { name := "twoToTheDoubleScaleUp", type := .double, accessFlags := 8, slot := 7, constantValue := 0 }, { name := "twoToTheDoubleScaleDown", type := .double, accessFlags := 8, slot := 8, constantValue := 0 }, { name := "$assertionsDisabled", type := .boolean, accessFlags := 4120, slot := 9, constantValue := 0 }]
  methods := #[k2m0, k2m1]
  instanceTypes := #[]
  staticTypes := #[.double, .double, .double, .double, .double, .long, .long, .double, .double, .boolean]
  resolved := Array.replicate 460 none
  statics := none }

def pool3 : Array CpInfo := pool [(11, .class_ 12), (0, u "com/example/eriu/eriu/algorithm/Member"), (0, .class_ 14), (0, u "java/lang/Object"), (0, u "OUTSIDE"), (0, u "I")] 32

/-- com/example/eriu/eriu/algorithm/Member -/
def k3 : Class := { plain "com/example/eriu/eriu/algorithm/Member" (some 0) with
  accessFlags := 1537
  interfaces := #[]
  cf := some (fileOf pool3 11 #[] #[] 1537 13 #[] #[{ accessFlags := 25, nameIndex := 15, descriptorIndex := 16, attributes := #[] }])
  fields := #[{ name := "OUTSIDE", type := .int, accessFlags := 25, slot := 0, constantValue := 0 }]
  methods := #[]
  instanceTypes := #[]
  staticTypes := #[.int]
  resolved := Array.replicate 49 none
  statics := none }

def pool4 : Array CpInfo := pool [(2, .class_ 4), (1, u "java/lang/Object"), (6, .class_ 13), (1, u "com/example/eriu/eriu/algorithm/GroupElection"), (0, u "relaySet"), (0, u "Ljava/util/BitSet;"), (2, u "choice"), (0, u "I"), (2, u "finalChoice"), (2, u "node"), (0, u "Lcom/example/eriu/eriu/algorithm/Node;"), (2, u "rounds"), (0, u "[Lcom/example/eriu/eriu/algorithm/GroupElection$Round;"), (2, u "round"), (0, u "Lcom/example/eriu/eriu/algorithm/GroupElection$Round;"), (0, .methodref 11 36), (0, .nameAndType 37 38), (0, u "roundKs"), (0, u "(III)[I"), (0, .class_ 40), (0, u "com/example/eriu/eriu/algorithm/GroupElection$Round"), (15, .methodref 11 57), (0, .nameAndType 58 59), (0, u "toCheck"), (0, u "(I)J"), (0, .methodref 11 61), (0, .nameAndType 62 63), (0, u "toDecision"), (0, u "(II)J"), (20, .class_ 86), (1, u "com/example/eriu/eriu/algorithm/GroupElection$1"), (22, u "relaying"), (0, u "Z"), (50, u "heard"), (5, u "finalsDisagree"), (24, u "(I)I"), (22, .long 2), (14, .methodref 231 232), (0, .class_ 233), (0, .nameAndType 234 192), (0, u "java/lang/Integer"), (0, u "numberOfLeadingZeros"), (1, .long 3), (1, .methodref 11 239), (0, .nameAndType 240 59), (0, u "t2"), (0, .methodref 11 242), (0, .nameAndType 243 244), (0, u "slots"), (0, u "(II)I"), (21, .class_ 267), (0, u "com/example/eriu/eriu/algorithm/Member"), (0, u "T3"), (2, u "NONE"), (1, u "START"), (0, u "SEND_FINAL"), (1, u "CHECK"), (0, u "REINITIATE"), (1, u "DECIDE"), (1, u "KINDS"), (12, u "roundSpans"), (0, u "(III)[J")] 58

def k4c0 : Code := { maxStack := 8, maxLocals := 6, code := prog_4_method_3_code, exceptionTable := #[], attributes := #[] }
def k4m0 : Method := { name := "roundSpans", desc := "(III)[J", sig := { parameters := [.int, .int, .int], returnType := some (.array .long) }, accessFlags := 9, code := some k4c0 }
def k4c1 : Code := { maxStack := 6, maxLocals := 5, code := prog_4_method_19_code, exceptionTable := #[], attributes := #[] }
def k4m1 : Method := { name := "roundKs", desc := "(III)[I", sig := { parameters := [.int, .int, .int], returnType := some (.array .int) }, accessFlags := 10, code := some k4c1 }
def k4c2 : Code := { maxStack := 4, maxLocals := 1, code := prog_4_method_20_code, exceptionTable := #[], attributes := #[] }
def k4m2 : Method := { name := "t2", desc := "(I)J", sig := { parameters := [.int], returnType := some .long }, accessFlags := 10, code := some k4c2 }
def k4c3 : Code := { maxStack := 4, maxLocals := 1, code := prog_4_method_21_code, exceptionTable := #[], attributes := #[] }
def k4m3 : Method := { name := "toCheck", desc := "(I)J", sig := { parameters := [.int], returnType := some .long }, accessFlags := 10, code := some k4c3 }
def k4c4 : Code := { maxStack := 4, maxLocals := 2, code := prog_4_method_22_code, exceptionTable := #[], attributes := #[] }
def k4m4 : Method := { name := "toDecision", desc := "(II)J", sig := { parameters := [.int, .int], returnType := some .long }, accessFlags := 10, code := some k4c4 }
def k4c5 : Code := { maxStack := 4, maxLocals := 3, code := prog_4_method_23_code, exceptionTable := #[], attributes := #[] }
def k4m5 : Method := { name := "slots", desc := "(II)I", sig := { parameters := [.int, .int], returnType := some .int }, accessFlags := 10, code := some k4c5 }
/-- com/example/eriu/eriu/algorithm/GroupElection -/
def k4 : Class := { plain "com/example/eriu/eriu/algorithm/GroupElection" (some 0) with
  accessFlags := 49
  interfaces := #[3]
  cf := some (fileOf pool4 11 #[.nestMembers #[84, 39]] #[{ accessFlags := 9, nameIndex := 294, descriptorIndex := 295, attributes := #[] }, { accessFlags := 10, nameIndex := 37, descriptorIndex := 38, attributes := #[] }, { accessFlags := 10, nameIndex := 240, descriptorIndex := 59, attributes := #[] }, { accessFlags := 10, nameIndex := 58, descriptorIndex := 59, attributes := #[] }, { accessFlags := 10, nameIndex := 62, descriptorIndex := 63, attributes := #[] }, { accessFlags := 10, nameIndex := 243, descriptorIndex := 244, attributes := #[] }] 49 2 #[266] #[{ accessFlags := 26, nameIndex := 268, descriptorIndex := 19, attributes := #[] }, { accessFlags := 26, nameIndex := 271, descriptorIndex := 19, attributes := #[] }, { accessFlags := 26, nameIndex := 273, descriptorIndex := 19, attributes := #[] }, { accessFlags := 26, nameIndex := 274, descriptorIndex := 19, attributes := #[] }, { accessFlags := 26, nameIndex := 276, descriptorIndex := 19, attributes := #[] }, { accessFlags := 26, nameIndex := 277, descriptorIndex := 19, attributes := #[] }, { accessFlags := 26, nameIndex := 279, descriptorIndex := 19, attributes := #[] }, { accessFlags := 26, nameIndex := 281, descriptorIndex := 19, attributes := #[] }, { accessFlags := 18, nameIndex := 25, descriptorIndex := 26, attributes := #[] }, { accessFlags := 18, nameIndex := 29, descriptorIndex := 30, attributes := #[] }, { accessFlags := 18, nameIndex := 14, descriptorIndex := 15, attributes := #[] }, { accessFlags := 2, nameIndex := 33, descriptorIndex := 34, attributes := #[] }, { accessFlags := 2, nameIndex := 161, descriptorIndex := 110, attributes := #[] }, { accessFlags := 2, nameIndex := 109, descriptorIndex := 110, attributes := #[] }, { accessFlags := 2, nameIndex := 18, descriptorIndex := 19, attributes := #[] }, { accessFlags := 2, nameIndex := 22, descriptorIndex := 19, attributes := #[] }, { accessFlags := 2, nameIndex := 167, descriptorIndex := 110, attributes := #[] }])
  fields := #[{ name := "T3", type := .int, accessFlags := 26, slot := 0, constantValue := 0 }, { name := "NONE", type := .int, accessFlags := 26, slot := 1, constantValue := 0 }, { name := "START", type := .int, accessFlags := 26, slot := 2, constantValue := 0 }, { name := "SEND_FINAL", type := .int, accessFlags := 26, slot := 3, constantValue := 0 }, { name := "CHECK", type := .int, accessFlags := 26, slot := 4, constantValue := 0 }, { name := "REINITIATE", type := .int, accessFlags := 26, slot := 5, constantValue := 0 }, { name := "DECIDE", type := .int, accessFlags := 26, slot := 6, constantValue := 0 }, { name := "KINDS", type := .int, accessFlags := 26, slot := 7, constantValue := 0 }, { name := "node", type := (.object "com/example/eriu/eriu/algorithm/Node"), accessFlags := 18, slot := 0, constantValue := 0 }, { name := "rounds", type := (.array (.object "com/example/eriu/eriu/algorithm/GroupElection$Round")), accessFlags := 18, slot := 1, constantValue := 0 }, { name := "relaySet", type := (.object "java/util/BitSet"), accessFlags := 18, slot := 2, constantValue := 0 }, { name := "round", type := (.object "com/example/eriu/eriu/algorithm/GroupElection$Round"), accessFlags := 2, slot := 3, constantValue := 0 }, { name := "heard", type := .boolean, accessFlags := 2, slot := 4, constantValue := 0 }, { name := "relaying", type := .boolean, accessFlags := 2, slot := 5, constantValue := 0 }, { name := "choice", type := .int, accessFlags := 2, slot := 6, constantValue := 0 }, { name := "finalChoice", type := .int, accessFlags := 2, slot := 7, constantValue := 0 }, { name := "finalsDisagree", type := .boolean, accessFlags := 2, slot := 8, constantValue := 0 }]
  methods := #[k4m0, k4m1, k4m2, k4m3, k4m4, k4m5]
  instanceTypes := #[(.object "com/example/eriu/eriu/algorithm/Node"), (.array (.object "com/example/eriu/eriu/algorithm/GroupElection$Round")), (.object "java/util/BitSet"), (.object "com/example/eriu/eriu/algorithm/GroupElection$Round"), .boolean, .boolean, .int, .int, .boolean]
  staticTypes := #[.int, .int, .int, .int, .int, .int, .int, .int]
  resolved := Array.replicate 354 none
  statics := none }

def pool5 : Array CpInfo := pool [(1, .class_ 2), (0, u "java/io/Serializable"), (0, .class_ 4), (0, u "java/lang/Object")] 2

/-- java/io/Serializable -/
def k5 : Class := { plain "java/io/Serializable" (some 0) with
  accessFlags := 1537
  interfaces := #[]
  cf := some (fileOf pool5 1 #[] #[] 1537 3 #[] #[])
  fields := #[]
  methods := #[]
  instanceTypes := #[]
  staticTypes := #[]
  resolved := Array.replicate 7 none
  statics := none }

def pool6 : Array CpInfo := pool [(2, .class_ 4), (1, u "java/lang/Object"), (0, u "<init>"), (0, u "()V"), (1, .class_ 10), (1, u "java/lang/Number"), (2, .class_ 14), (0, u "java/io/Serializable"), (0, u "serialVersionUID"), (0, u "J")] 20

def k6m0 : Method := { name := "<init>", desc := "()V", sig := { parameters := [], returnType := none }, accessFlags := 1, code := none }
/-- java/lang/Number -/
def k6 : Class := { plain "java/lang/Number" (some 0) with
  accessFlags := 1057
  interfaces := #[5]
  cf := some (fileOf pool6 8 #[] #[{ accessFlags := 1, nameIndex := 5, descriptorIndex := 6, attributes := #[] }] 1057 2 #[13] #[{ accessFlags := 26, nameIndex := 15, descriptorIndex := 16, attributes := #[] }])
  fields := #[{ name := "serialVersionUID", type := .long, accessFlags := 26, slot := 0, constantValue := 0 }]
  methods := #[k6m0]
  instanceTypes := #[]
  staticTypes := #[.long]
  resolved := Array.replicate 37 none
  statics := none }

def pool7 : Array CpInfo := pool [(1, .class_ 2), (0, u "java/lang/Comparable"), (0, .class_ 4), (0, u "java/lang/Object")] 7

/-- java/lang/Comparable -/
def k7 : Class := { plain "java/lang/Comparable" (some 0) with
  accessFlags := 1537
  interfaces := #[]
  cf := some (fileOf pool7 1 #[] #[] 1537 3 #[] #[])
  fields := #[]
  methods := #[]
  instanceTypes := #[]
  staticTypes := #[]
  resolved := Array.replicate 12 none
  statics := none }

def pool8 : Array CpInfo := pool [(1, .class_ 2), (0, u "java/lang/constant/Constable"), (0, .class_ 4), (0, u "java/lang/Object")] 6

/-- java/lang/constant/Constable -/
def k8 : Class := { plain "java/lang/constant/Constable" (some 0) with
  accessFlags := 1537
  interfaces := #[]
  cf := some (fileOf pool8 1 #[] #[] 1537 3 #[] #[])
  fields := #[]
  methods := #[]
  instanceTypes := #[]
  staticTypes := #[]
  resolved := Array.replicate 11 none
  statics := none }

def pool9 : Array CpInfo := pool [(1, .class_ 2), (0, u "java/lang/constant/ConstantDesc"), (0, .class_ 4), (0, u "java/lang/Object")] 32

/-- java/lang/constant/ConstantDesc -/
def k9 : Class := { plain "java/lang/constant/ConstantDesc" (some 0) with
  accessFlags := 1537
  interfaces := #[]
  cf := some (fileOf pool9 1 #[] #[] 1537 3 #[] #[])
  fields := #[]
  methods := #[]
  instanceTypes := #[]
  staticTypes := #[]
  resolved := Array.replicate 37 none
  statics := none }

def pool10 : Array CpInfo := pool [(1, .class_ 2), (0, u "java/lang/Integer"), (16, u "digits"), (0, u "[C"), (32, u "numberOfLeadingZeros"), (0, u "(I)I"), (30, u "DigitOnes"), (0, u "[B"), (2, u "DigitTens"), (99, .class_ 190), (0, u "java/lang/Integer$IntegerCache"), (3, u "I"), (8, .class_ 204), (0, u "java/lang/Number"), (2, u "value"), (56, .integer 65536), (37, u "TYPE"), (0, u "Ljava/lang/Class;"), (0, .class_ 305), (0, u "java/lang/Comparable"), (0, .class_ 307), (0, u "java/lang/constant/Constable"), (0, .class_ 309), (0, u "java/lang/constant/ConstantDesc"), (0, u "MIN_VALUE"), (1, u "MAX_VALUE"), (3, u "SIZE"), (1, u "BYTES"), (1, u "serialVersionUID"), (0, u "J")] 131

def k10c0 : Code := { maxStack := 3, maxLocals := 2, code := jdk_33_method_47_code, exceptionTable := #[], attributes := #[] }
def k10m0 : Method := { name := "numberOfLeadingZeros", desc := "(I)I", sig := { parameters := [.int], returnType := some .int }, accessFlags := 9, code := some k10c0 }
/-- java/lang/Integer -/
def k10 : Class := { plain "java/lang/Integer" (some 6) with
  accessFlags := 49
  interfaces := #[7, 8, 9]
  cf := some (fileOf pool10 1 #[.nestMembers #[189]] #[{ accessFlags := 9, nameIndex := 53, descriptorIndex := 54, attributes := #[] }] 49 203 #[304, 306, 308] #[{ accessFlags := 25, nameIndex := 310, descriptorIndex := 194, attributes := #[] }, { accessFlags := 25, nameIndex := 312, descriptorIndex := 194, attributes := #[] }, { accessFlags := 25, nameIndex := 302, descriptorIndex := 303, attributes := #[] }, { accessFlags := 24, nameIndex := 19, descriptorIndex := 20, attributes := #[] }, { accessFlags := 24, nameIndex := 89, descriptorIndex := 86, attributes := #[] }, { accessFlags := 24, nameIndex := 85, descriptorIndex := 86, attributes := #[] }, { accessFlags := 18, nameIndex := 207, descriptorIndex := 194, attributes := #[] }, { accessFlags := 25, nameIndex := 316, descriptorIndex := 194, attributes := #[] }, { accessFlags := 25, nameIndex := 318, descriptorIndex := 194, attributes := #[] }, { accessFlags := 26, nameIndex := 320, descriptorIndex := 321, attributes := #[] }])
  fields := #[{ name := "MIN_VALUE", type := .int, accessFlags := 25, slot := 0, constantValue := 0 }, { name := "MAX_VALUE", type := .int, accessFlags := 25, slot := 1, constantValue := 0 }, { name := "TYPE", type := (.object "java/lang/Class"), accessFlags := 25, slot := 2, constantValue := 0 }, { name := "digits", type := (.array .char), accessFlags := 24, slot := 3, constantValue := 0 }, { name := "DigitTens", type := (.array .byte), accessFlags := 24, slot := 4, constantValue := 0 }, { name := "DigitOnes", type := (.array .byte), accessFlags := 24, slot := 5, constantValue := 0 }, { name := "value", type := .int, accessFlags := 18, slot := 0, constantValue := 0 }, { name := "SIZE", type := .int, accessFlags := 25, slot := 6, constantValue := 0 }, { name := "BYTES", type := .int, accessFlags := 25, slot := 7, constantValue := 0 }, { name := "serialVersionUID", type := .long, accessFlags := 26, slot := 8, constantValue := 0 }]
  methods := #[k10m0]
  instanceTypes := #[.int]
  staticTypes := #[.int, .int, (.object "java/lang/Class"), (.array .char), (.array .byte), (.array .byte), .int, .int, .long]
  resolved := Array.replicate 453 none
  statics := none }

def pool11 : Array CpInfo := pool [(1, u "java/lang/Cloneable"), (0, .class_ 1), (0, u "java/lang/Object"), (0, .class_ 3)] 3

/-- java/lang/Cloneable -/
def k11 : Class := { plain "java/lang/Cloneable" (some 0) with
  accessFlags := 1537
  interfaces := #[]
  cf := some (fileOf pool11 2 #[] #[] 1537 4 #[] #[])
  fields := #[]
  methods := #[]
  instanceTypes := #[]
  staticTypes := #[]
  resolved := Array.replicate 8 none
  statics := none }

/-- the primitive byte -/
def k12 : Class := { plain "byte" none with kind := .primitive 'B', accessFlags := 0x411 }
/-- [B -/
def k13 : Class := { plain "[B" (some 0) with kind := .array 12 .byte, interfaces := #[11, 5], accessFlags := 1041 }

/-- the primitive int -/
def k14 : Class := { plain "int" none with kind := .primitive 'I', accessFlags := 0x411 }
/-- [I -/
def k15 : Class := { plain "[I" (some 0) with kind := .array 14 .int, interfaces := #[11, 5], accessFlags := 1041 }

/-- the primitive long -/
def k16 : Class := { plain "long" none with kind := .primitive 'J', accessFlags := 0x411 }
/-- [J -/
def k17 : Class := { plain "[J" (some 0) with kind := .array 16 .long, interfaces := #[11, 5], accessFlags := 1041 }

def heap : Heap := #[]
def classes : Array Class := #[k0, k1, k2, k3, k4, k5, k6, k7, k8, k9, k10, k11, k12, k13, k14, k15, k16, k17]
def interned : List (Array UInt16 × Addr) := []
def slotsUsed : Nat := 0
def theMethod : MethodId := ⟨1, 1⟩
def args0 : Array Value := #[.int 5, .int 7, .int 9]
def aboutOver (below : List Frame) : State where
  vm := { classes := classes, interned := interned.toArray }
  heap := heap
  slotsUsed := slotsUsed
  threads := #[{ frames := .invoking theMethod args0 :: below }]
def below0 : List Frame := [.native { method := ⟨0, 0⟩, args := #[] }]
def about1 : State := aboutOver below0
def p0 : Program := .bare "" "" ""
def e0 : Env := launch0.env 0 0 0
theorem w_frames : about1.frames = Frame.invoking theMethod args0 :: below0 := rfl
set_option maxRecDepth 65536 in
theorem w_args : argsFit about1.vm theMethod args0 = true := by decide +kernel
set_option maxRecDepth 65536 in
theorem w_heap : heapFits about1 = true := by decide +kernel
set_option maxRecDepth 65536 in
theorem w_runnable : about1.curStatus? = some .runnable := by decide +kernel
set_option maxRecDepth 65536 in
theorem w_alone : about1.alone = true := by decide +kernel
set_option maxRecDepth 65536 in
theorem w_named : about1.methodNamed? x = some theMethod := by decide +kernel
set_option maxRecDepth 65536 in
theorem w_hears : about1.hears theMethod below0 = true := by decide +kernel
set_option maxRecDepth 65536 in
theorem w_ripe : about1.ripe theMethod args0 below0 = true := by decide +kernel
theorem w_running : about1.status = .running := rfl
set_option maxRecDepth 65536 in
theorem w_room : about1.hasRoom e0.platform room_1 = true :=
  launch0.hasRoom_least _ room_1 (by decide +kernel) (by decide +kernel) (by decide +kernel) (by decide +kernel) (by decide +kernel) (by decide +kernel)
theorem allAtoms_all (ts : List Jvm.Cond) (a : Array Jvm.Value) (st : Jvm.State) : (allAtoms ts).before a st = ts.all (fun c => c.before a st) := by
  induction ts with
  | nil => rfl
  | cons c t ih =>
    show (Jvm.Cond.and c (allAtoms t)).before a st = _
    rw [Jvm.Cond.before_and, ih, List.all_cons]
def words1 : List Jvm.Cond := Jvm.Cond.code x code maxLocals ret :: tables_1
/-- a 'code' word, met by the world's own term for the bytes: nothing is compared byte by byte -/
theorem code_word {y : MethodName} {bytes : ByteArray} {mx : Nat} {rt : Option FieldType} {a : Array Value} {s : State} {m : MethodId} {meth : Method} {c : Code} (h1 : s.methodNamed? y = some m) (h2 : s.vm.method? m = some meth) (h3 : meth.code = some c) (h4 : c.code = bytes)
    (h5 : (c.maxLocals == mx && c.exceptionTable.isEmpty && decide (c.maxStack ≤ mostOperands) && decide (meth.sig.returnType = rt) && !meth.locks && decide (parseMethodDescriptor y.desc = some meth.sig)) = true) : (Jvm.Cond.code y bytes mx rt).before a s = true := by
  simp only [Bool.and_eq_true, beq_iff_eq, Bool.not_eq_true', decide_eq_true_eq] at h5
  obtain ⟨⟨⟨⟨⟨g1, g2⟩, g3⟩, g4⟩, g5⟩, g6⟩ := h5
  simp [Cond.before, Cond.holds, Cond.value, h1, h2, h3, h4, g1, g2, g3, g4, g5, g6]
def isCode : Jvm.Cond → Bool
  | .code _ _ _ _ => true
  | _ => false
theorem all_split {L : List Jvm.Cond} {P : Jvm.Cond → Bool} (h1 : L.all (fun c => isCode c || P c) = true) (h2 : ∀ c ∈ L.filter isCode, P c = true) : L.all P = true := by
  refine List.all_eq_true.mpr fun c hc => ?_
  have h := List.all_eq_true.mp h1 c hc
  rcases Bool.eq_false_or_eq_true (isCode c) with hi | hi
  · exact h2 c (List.mem_filter.mpr ⟨hc, hi⟩)
  · simpa [hi] using h
set_option maxRecDepth 65536 in
theorem w_c0 : (Jvm.Cond.code x code maxLocals ret).before args0 about1 = true := code_word (m := ⟨1, 1⟩) (meth := k1m1) (c := k1c1) (by decide +kernel) rfl rfl rfl (by decide +kernel)
set_option maxRecDepth 65536 in
theorem w_c1 : (Jvm.Cond.code ({ cls := "java/lang/Math", name := "max", desc := "(II)I" } : Jvm.MethodName) jdk_29_method_65_code (2 : Nat) (Option.some Jvm.ClassFile.FieldType.int)).before args0 about1 = true := code_word (m := ⟨2, 1⟩) (meth := k2m1) (c := k2c1) (by decide +kernel) rfl rfl rfl (by decide +kernel)
set_option maxRecDepth 65536 in
theorem w_c2 : (Jvm.Cond.code ({ cls := "com/example/eriu/eriu/algorithm/GroupElection", name := "roundSpans", desc := "(III)[J" } : Jvm.MethodName) prog_4_method_3_code (6 : Nat) (Option.some (Jvm.ClassFile.FieldType.array Jvm.ClassFile.FieldType.long))).before args0 about1 = true := code_word (m := ⟨4, 0⟩) (meth := k4m0) (c := k4c0) (by decide +kernel) rfl rfl rfl (by decide +kernel)
set_option maxRecDepth 65536 in
theorem w_c3 : (Jvm.Cond.code ({ cls := "com/example/eriu/eriu/algorithm/GroupElection", name := "roundKs", desc := "(III)[I" } : Jvm.MethodName) prog_4_method_19_code (5 : Nat) (Option.some (Jvm.ClassFile.FieldType.array Jvm.ClassFile.FieldType.int))).before args0 about1 = true := code_word (m := ⟨4, 1⟩) (meth := k4m1) (c := k4c1) (by decide +kernel) rfl rfl rfl (by decide +kernel)
set_option maxRecDepth 65536 in
theorem w_c4 : (Jvm.Cond.code ({ cls := "java/lang/Integer", name := "numberOfLeadingZeros", desc := "(I)I" } : Jvm.MethodName) jdk_33_method_47_code (2 : Nat) (Option.some Jvm.ClassFile.FieldType.int)).before args0 about1 = true := code_word (m := ⟨10, 0⟩) (meth := k10m0) (c := k10c0) (by decide +kernel) rfl rfl rfl (by decide +kernel)
set_option maxRecDepth 65536 in
theorem w_c5 : (Jvm.Cond.code ({ cls := "com/example/eriu/eriu/algorithm/GroupElection", name := "toCheck", desc := "(I)J" } : Jvm.MethodName) prog_4_method_21_code (1 : Nat) (Option.some Jvm.ClassFile.FieldType.long)).before args0 about1 = true := code_word (m := ⟨4, 3⟩) (meth := k4m3) (c := k4c3) (by decide +kernel) rfl rfl rfl (by decide +kernel)
set_option maxRecDepth 65536 in
theorem w_c6 : (Jvm.Cond.code ({ cls := "com/example/eriu/eriu/algorithm/GroupElection", name := "t2", desc := "(I)J" } : Jvm.MethodName) prog_4_method_20_code (1 : Nat) (Option.some Jvm.ClassFile.FieldType.long)).before args0 about1 = true := code_word (m := ⟨4, 2⟩) (meth := k4m2) (c := k4c2) (by decide +kernel) rfl rfl rfl (by decide +kernel)
set_option maxRecDepth 65536 in
theorem w_c7 : (Jvm.Cond.code ({ cls := "com/example/eriu/eriu/algorithm/GroupElection", name := "toDecision", desc := "(II)J" } : Jvm.MethodName) prog_4_method_22_code (2 : Nat) (Option.some Jvm.ClassFile.FieldType.long)).before args0 about1 = true := code_word (m := ⟨4, 4⟩) (meth := k4m4) (c := k4c4) (by decide +kernel) rfl rfl rfl (by decide +kernel)
set_option maxRecDepth 65536 in
theorem w_c8 : (Jvm.Cond.code ({ cls := "com/example/eriu/eriu/algorithm/GroupElection", name := "slots", desc := "(II)I" } : Jvm.MethodName) prog_4_method_23_code (3 : Nat) (Option.some Jvm.ClassFile.FieldType.int)).before args0 about1 = true := code_word (m := ⟨4, 5⟩) (meth := k4m5) (c := k4c5) (by decide +kernel) rfl rfl rfl (by decide +kernel)
set_option maxRecDepth 65536 in
theorem w_c9 : (Jvm.Cond.code ({ cls := "com/example/eriu/eriu/algorithm/GroupElectionRoundSpansPinLaw", name := "spanOk", desc := "([JIIII)Z" } : Jvm.MethodName) method_4_code (15 : Nat) (Option.some Jvm.ClassFile.FieldType.boolean)).before args0 about1 = true := code_word (m := ⟨1, 3⟩) (meth := k1m3) (c := k1c3) (by decide +kernel) rfl rfl rfl (by decide +kernel)
set_option maxRecDepth 65536 in
theorem w_c10 : (Jvm.Cond.code ({ cls := "com/example/eriu/eriu/algorithm/GroupElectionRoundSpansPinLaw", name := "kOf", desc := "(IIII)J" } : Jvm.MethodName) method_3_code (4 : Nat) (Option.some Jvm.ClassFile.FieldType.long)).before args0 about1 = true := code_word (m := ⟨1, 2⟩) (meth := k1m2) (c := k1c2) (by decide +kernel) rfl rfl rfl (by decide +kernel)
def codes1 : List Jvm.Cond := [Jvm.Cond.code x code maxLocals ret, Jvm.Cond.code ({ cls := "java/lang/Math", name := "max", desc := "(II)I" } : Jvm.MethodName) jdk_29_method_65_code (2 : Nat) (Option.some Jvm.ClassFile.FieldType.int), Jvm.Cond.code ({ cls := "com/example/eriu/eriu/algorithm/GroupElection", name := "roundSpans", desc := "(III)[J" } : Jvm.MethodName) prog_4_method_3_code (6 : Nat) (Option.some (Jvm.ClassFile.FieldType.array Jvm.ClassFile.FieldType.long)), Jvm.Cond.code ({ cls := "com/example/eriu/eriu/algorithm/GroupElection", name := "roundKs", desc := "(III)[I" } : Jvm.MethodName) prog_4_method_19_code (5 : Nat) (Option.some (Jvm.ClassFile.FieldType.array Jvm.ClassFile.FieldType.int)), Jvm.Cond.code ({ cls := "java/lang/Integer", name := "numberOfLeadingZeros", desc := "(I)I" } : Jvm.MethodName) jdk_33_method_47_code (2 : Nat) (Option.some Jvm.ClassFile.FieldType.int), Jvm.Cond.code ({ cls := "com/example/eriu/eriu/algorithm/GroupElection", name := "toCheck", desc := "(I)J" } : Jvm.MethodName) prog_4_method_21_code (1 : Nat) (Option.some Jvm.ClassFile.FieldType.long), Jvm.Cond.code ({ cls := "com/example/eriu/eriu/algorithm/GroupElection", name := "t2", desc := "(I)J" } : Jvm.MethodName) prog_4_method_20_code (1 : Nat) (Option.some Jvm.ClassFile.FieldType.long), Jvm.Cond.code ({ cls := "com/example/eriu/eriu/algorithm/GroupElection", name := "toDecision", desc := "(II)J" } : Jvm.MethodName) prog_4_method_22_code (2 : Nat) (Option.some Jvm.ClassFile.FieldType.long), Jvm.Cond.code ({ cls := "com/example/eriu/eriu/algorithm/GroupElection", name := "slots", desc := "(II)I" } : Jvm.MethodName) prog_4_method_23_code (3 : Nat) (Option.some Jvm.ClassFile.FieldType.int), Jvm.Cond.code ({ cls := "com/example/eriu/eriu/algorithm/GroupElectionRoundSpansPinLaw", name := "spanOk", desc := "([JIIII)Z" } : Jvm.MethodName) method_4_code (15 : Nat) (Option.some Jvm.ClassFile.FieldType.boolean), Jvm.Cond.code ({ cls := "com/example/eriu/eriu/algorithm/GroupElectionRoundSpansPinLaw", name := "kOf", desc := "(IIII)J" } : Jvm.MethodName) method_3_code (4 : Nat) (Option.some Jvm.ClassFile.FieldType.long)]
set_option maxRecDepth 65536 in
theorem codes_eq : words1.filter isCode = codes1 := rfl
theorem w_codes : ∀ c ∈ words1.filter isCode, c.before args0 about1 = true := by
  rw [codes_eq]
  intro c hc
  simp only [codes1, List.mem_cons, List.not_mem_nil, or_false] at hc
  rcases hc with rfl | rfl | rfl | rfl | rfl | rfl | rfl | rfl | rfl | rfl | rfl
  · exact w_c0
  · exact w_c1
  · exact w_c2
  · exact w_c3
  · exact w_c4
  · exact w_c5
  · exact w_c6
  · exact w_c7
  · exact w_c8
  · exact w_c9
  · exact w_c10
set_option maxRecDepth 65536 in
theorem w_t1 : (words1.take 24).all (fun c => isCode c || c.before args0 about1) = true := by decide +kernel
set_option maxRecDepth 65536 in
theorem w_t2 : (words1.drop 24).all (fun c => isCode c || c.before args0 about1) = true := by decide +kernel
theorem w_tables : (allAtoms (Jvm.Cond.code x code maxLocals ret :: tables_1)).before args0 about1 = true := by
  rw [allAtoms_all]
  show words1.all (fun c => c.before args0 about1) = true
  refine all_split ?_ w_codes
  rw [← List.take_append_drop 24 words1, List.all_append, w_t1, w_t2]
  rfl
set_option maxRecDepth 65536 in
theorem w_case : (Jvm.Cond.and given_1 narrow_1).before args0 about1 = true := by decide +kernel
theorem w_applies : (headSpec (Jvm.Cond.code x code maxLocals ret :: tables_1) room_1).applies x e0.platform about1 = true :=
  (Spec.applies_iff w_frames).mpr ⟨w_running, w_runnable, w_alone, w_named, w_hears, w_ripe, w_room, w_tables⟩
theorem atStart : AtStart classFile x code maxLocals ret World_1 tables_1 room_1 Calls_1 rest_1 Pre_1 launch0 p0 e0 about1 theMethod args0 below0 :=
  ⟨lists_1, trivial, launch0.admits_env _ _ _, launch0.least_env, fairChoices_fair.cas, fairChoices_fair.clock, w_frames, w_args, w_heap, w_applies, trivial, trivial, w_case⟩
end start1
theorem witness_1 : WitnessClaimed_1 := ⟨start1.p0, start1.e0, start1.about1, start1.theMethod, start1.args0, start1.below0, start1.atStart⟩
end Jvm.Pilot.@@N@@
