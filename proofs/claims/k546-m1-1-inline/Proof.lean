import JvmDerived
import JvmDerived.Pilot.@@N@@Statement
import JvmDerived.Pilot.@@N@@Code
@@BLOCK:NumsL.lean.txt@@
set_option linter.unusedVariables false
set_option linter.unusedSimpArgs false
namespace Jvm.Pilot.@@N@@
open Jvm Jvm.ClassFile Sem Op Lib Jvm.Free Jvm.Stand Jvm.LawKit Jvm.RoadKit Bundle Jvm.Pilot.@@N@@.Jvm.D
abbrev own_m0 : MethodName := ⟨"java/lang/Math", "max", "(II)I"⟩
abbrev own_m1 : MethodName := ⟨"java/lang/Math", "min", "(II)I"⟩
abbrev own_m2 : MethodName := ⟨"jdk/internal/util/ArraysSupport", "newLength", "(III)I"⟩
abbrev own_m3 : MethodName := ⟨"java/lang/AbstractStringBuilder", "newCapacity", "(I)I"⟩
abbrev own_m4 : MethodName := ⟨"java/util/Arrays", "copyOf", "([BI)[B"⟩
abbrev own_m5 : MethodName := ⟨"java/lang/AbstractStringBuilder", "ensureCapacityInternal", "(I)V"⟩
abbrev own_m6 : MethodName := ⟨"java/lang/String", "coder", "()B"⟩
abbrev own_m7 : MethodName := ⟨"java/lang/String", "length", "()I"⟩
abbrev own_m8 : MethodName := ⟨"java/lang/String", "getBytes", "([BIB)V"⟩
abbrev own_m9 : MethodName := ⟨"java/lang/AbstractStringBuilder", "inflateIfNeededFor", "(Ljava/lang/String;)V"⟩
abbrev own_m10 : MethodName := ⟨"java/lang/AbstractStringBuilder", "putStringAt", "(ILjava/lang/String;)V"⟩
abbrev own_m11 : MethodName := ⟨"java/lang/AbstractStringBuilder", "append", "(Ljava/lang/String;)Ljava/lang/AbstractStringBuilder;"⟩
abbrev own_m12 : MethodName := ⟨"java/lang/StringBuilder", "append", "(Ljava/lang/String;)Ljava/lang/StringBuilder;"⟩
abbrev own_m13 : MethodName := ⟨"java/lang/AbstractStringBuilder", "isLatin1", "()Z"⟩
abbrev own_m14 : MethodName := ⟨"java/lang/AbstractStringBuilder", "append", "(J)Ljava/lang/AbstractStringBuilder;"⟩
abbrev own_m15 : MethodName := ⟨"java/lang/AbstractStringBuilder", "append", "(I)Ljava/lang/AbstractStringBuilder;"⟩
abbrev own_m16 : MethodName := ⟨"java/lang/StringBuilder", "append", "(J)Ljava/lang/StringBuilder;"⟩
abbrev own_m17 : MethodName := ⟨"java/lang/StringBuilder", "append", "(I)Ljava/lang/StringBuilder;"⟩
abbrev own_m18 : MethodName := ⟨"java/lang/AbstractStringBuilder", "getValue", "()[B"⟩
abbrev own_m19 : MethodName := ⟨"java/lang/AbstractStringBuilder", "length", "()I"⟩
abbrev own_m20 : MethodName := ⟨"java/lang/StringBuilder", "length", "()I"⟩
abbrev own_m21 : MethodName := ⟨"java/util/Arrays", "checkLength", "(II)V"⟩
abbrev own_m22 : MethodName := ⟨"java/util/Arrays", "copyOfRangeByte", "([BII)[B"⟩
abbrev own_m23 : MethodName := ⟨"java/util/Arrays", "copyOfRange", "([BII)[B"⟩
abbrev own_m24 : MethodName := ⟨"java/lang/String", "<init>", "(Ljava/lang/AbstractStringBuilder;Ljava/lang/Void;)V"⟩
abbrev own_m25 : MethodName := ⟨"java/lang/String", "<init>", "(Ljava/lang/StringBuilder;)V"⟩
abbrev own_m26 : MethodName := ⟨"java/lang/StringBuilder", "toString", "()Ljava/lang/String;"⟩
abbrev own_m27 : MethodName := ⟨"java/lang/AbstractStringBuilder", "<init>", "(I)V"⟩
abbrev own_m28 : MethodName := ⟨"java/lang/StringBuilder", "<init>", "()V"⟩
abbrev own_m29 : MethodName := ⟨"jdk/internal/util/Preconditions", "checkIndex", "(IILjava/util/function/BiFunction;)I"⟩
abbrev own_m30 : MethodName := ⟨"java/lang/String", "checkIndex", "(II)V"⟩
abbrev own_m31 : MethodName := ⟨"java/lang/String", "isLatin1", "()Z"⟩
abbrev own_m32 : MethodName := ⟨"java/lang/StringLatin1", "charAt", "([BI)C"⟩
abbrev own_m33 : MethodName := ⟨"java/lang/String", "charAt", "(I)C"⟩
abbrev own_m34 : MethodName := ⟨"com/example/test_context_overlay/testcontextoverlay/context/StatisticsToStringPinLaw", "litChar", "(Ljava/lang/String;ILjava/lang/String;I)Z"⟩
abbrev own_m35 : MethodName := ⟨"com/example/test_context_overlay/testcontextoverlay/context/StatisticsToStringPinLaw", "literal", "(Ljava/lang/String;ILjava/lang/String;)I"⟩
abbrev own_m36 : MethodName := ⟨"java/lang/Math", "abs", "(J)J"⟩
abbrev own_m37 : MethodName := ⟨"com/example/test_context_overlay/testcontextoverlay/context/StatisticsToStringPinLaw", "digitCount", "(J)I"⟩
abbrev own_m38 : MethodName := ⟨"com/example/test_context_overlay/testcontextoverlay/context/StatisticsToStringPinLaw", "digit", "(Ljava/lang/String;IJII)Z"⟩
abbrev own_m39 : MethodName := ⟨"com/example/test_context_overlay/testcontextoverlay/context/StatisticsToStringPinLaw", "number", "(Ljava/lang/String;IJ)I"⟩
abbrev own_m40 : MethodName := ⟨"com/example/test_context_overlay/testcontextoverlay/context/OverlayCache$Statistics", "<init>", "(JJJI)V"⟩
abbrev own_m41 : MethodName := ⟨"com/example/test_context_overlay/testcontextoverlay/context/OverlayCache$Statistics", "toString", "()Ljava/lang/String;"⟩
abbrev own_s0 : String := "java/lang/AbstractStringBuilder"
abbrev own_s1 : String := "com/example/test_context_overlay/testcontextoverlay/context/OverlayCache$Statistics"
abbrev own_s2 : String := "java/lang/String"
abbrev own_s3 : String := "java/lang/StringBuilder"
abbrev own_s4 : String := "com/example/test_context_overlay/testcontextoverlay/context/StatisticsToStringPinLaw"
abbrev own_s5 : String := "COMPACT_STRINGS"
abbrev own_s6 : String := "jdk/internal/util/Preconditions"
section OwnPre
variable {p : Program} {l : Launch} {e : Env} {R : Room} {s : State} {m : MethodId} {args : Array Value} {below : List Frame} {meth : Method} {c : Code} {T : State} {locs : List Loc} {cells slots : Nat} {Z : State} {h h' : Heap}
/-- from A the run comes to an end of which P holds -/
def own_G (p : Program) (e : Env) (below : List Frame) (A : State) (P : State → Outcome → Prop) : Prop := ∃ s₂ o, Steps p.tables e below A s₂ ∧ P s₂ o
def own_P (s : State) (below : List Frame) (C S : Nat) (Q : Option Value → Heap → List Loc → Prop) (s₂ : State) (o : Outcome) : Prop := s₂.status = .running ∧ Ended s₂ below o ∧ ∃ v L, o = .returned v ∧ Q v s₂.heap L ∧ FrameEnd s o s₂ L C S
def own_PW (s : State) (below : List Frame) (C S : Nat) (Q : Option Value → Heap → List Loc → Prop) (s₂ : State) (o : Outcome) : Prop := s₂.status = .running ∧ Ended s₂ below o ∧ ∃ v L, o = .returned v ∧ Q v s₂.heap L ∧ ReturnedEndW s o s₂ L C S
theorem own_go {A B : State} {P : State → Outcome → Prop} (k : ∀ t, Steps p.tables e below B t → Steps p.tables e below A t) (g : own_G p e below B P) : own_G p e below A P := by
  obtain ⟨s, o, h, r⟩ := g; exact ⟨s, o, k _ h, r⟩
theorem own_tr {A B : State} {P : State → Outcome → Prop} (k : Steps p.tables e below A B) (g : own_G p e below B P) : own_G p e below A P := own_go (fun _ h => k.trans h) g
theorem own_start {C S : Nat} {Q : Option Value → Heap → List Loc → Prop} {g g' : JFrame} (q : g = g') (k : own_G p e below (T.setTop g') (own_P s below C S Q)) :
    ∃ s₂ o, Steps p.tables e below (T.setTop g) s₂ ∧ s₂.status = .running ∧ Ended s₂ below o ∧ ∃ v L, o = .returned v ∧ Q v s₂.heap L ∧ FrameEnd s o s₂ L C S := q ▸ k
theorem own_startW {C S : Nat} {Q : Option Value → Heap → List Loc → Prop} {g g' : JFrame} (q : g = g') (k : own_G p e below (T.setTop g') (own_PW s below C S Q)) :
    ∃ s₂ o, Steps p.tables e below (T.setTop g) s₂ ∧ s₂.status = .running ∧ Ended s₂ below o ∧ ∃ v L, o = .returned v ∧ Q v s₂.heap L ∧ ReturnedEndW s o s₂ L C S := q ▸ k
theorem own_ret (X : Stand p l e R s m args below meth c T locs cells slots) (hx : p.tables.exec = Jvm.exec) {pc : Nat} {Ls : Array Slot} {w : Value} {t : FieldType} {i : Instr} {rest : List Value} (hret : meth.sig.returnType = some t) (hn : narrow t w = w)
    (hi : (i = .ireturn ∧ (t = .int ∨ t = .boolean ∨ t = .byte ∨ t = .char ∨ t = .short) ∧ ∃ z, w = .int z) ∨ (i = .lreturn ∧ t = .long ∧ ∃ z, w = .long z) ∨ (i = .dreturn ∧ t = .double ∧ ∃ z, w = .double z) ∨ (i = .freturn ∧ t = .float ∧ ∃ z, w = .float z) ∨ (i = .areturn ∧ t.isReference = true ∧ w.isRef = true))
    (hd : decode c.code pc = .ok (i, 1)) (hlocks : meth.locks = false) {C S : Nat} {Q : Option Value → Heap → List Loc → Prop} (hC : cells ≤ C) (hS : slots ≤ S) (hQ : Q (some w) T.heap locs) :
    own_G p e below (T.setTop (mkF m pc Ls (w :: rest))) (own_P s below C S Q) := by
  obtain ⟨fs, hr, hrun, hended, hW, hsame⟩ := X.leave (v := some w) (fun h => by rw [hret] at h; cases h) hlocks
  exact ⟨_, _, retOut X hx hret hn hi hd hr, hrun, hended, _, _, rfl, hQ, ⟨_, rfl⟩, hW, hsame.mono hC hS⟩
theorem own_retV (X : Stand p l e R s m args below meth c T locs cells slots) (hx : p.tables.exec = Jvm.exec) {pc : Nat} {Ls : Array Slot} (hret : meth.sig.returnType = none) (hd : decode c.code pc = .ok (.return_, 1)) (hlocks : meth.locks = false)
    {C S : Nat} {Q : Option Value → Heap → List Loc → Prop} (hC : cells ≤ C) (hS : slots ≤ S) (hQ : Q none T.heap locs) : own_G p e below (T.setTop (mkF m pc Ls [])) (own_P s below C S Q) := by
  obtain ⟨fs, hr, hrun, hended, hW, hsame⟩ := X.leave (v := none) (fun _ => rfl) hlocks
  exact ⟨_, _, X.returnOut hx hret hd hr, hrun, hended, _, _, rfl, hQ, ⟨_, rfl⟩, hW, hsame.mono hC hS⟩
theorem own_retW {vm₁ : Vm} (X : Stand p l e R (s.setVm vm₁) m args below meth c T locs cells slots) {n : Nat} (hSi : s.Since vm₁ n) (hn' : n ≤ T.heap.size) (hx : p.tables.exec = Jvm.exec) {pc : Nat} {Ls : Array Slot} {w : Value} {t : FieldType} {i : Instr} {rest : List Value} (hret : meth.sig.returnType = some t) (hn : narrow t w = w)
    (hi : (i = .ireturn ∧ (t = .int ∨ t = .boolean ∨ t = .byte ∨ t = .char ∨ t = .short) ∧ ∃ z, w = .int z) ∨ (i = .lreturn ∧ t = .long ∧ ∃ z, w = .long z) ∨ (i = .dreturn ∧ t = .double ∧ ∃ z, w = .double z) ∨ (i = .freturn ∧ t = .float ∧ ∃ z, w = .float z) ∨ (i = .areturn ∧ t.isReference = true ∧ w.isRef = true))
    (hd : decode c.code pc = .ok (i, 1)) (hlocks : meth.locks = false) {C S : Nat} {Q : Option Value → Heap → List Loc → Prop} (hC : cells ≤ C) (hS : slots ≤ S) (hQ : Q (some w) T.heap locs) :
    own_G p e below (T.setTop (mkF m pc Ls (w :: rest))) (own_PW s below C S Q) := by
  obtain ⟨fs, hr, hrun, hended, hW⟩ := (X.mono hC hS).leaveW hSi hn' (v := some w) (fun h => by rw [hret] at h; cases h) hlocks
  exact ⟨_, _, retOut X hx hret hn hi hd hr, hrun, hended, _, _, rfl, hQ, hW⟩
theorem own_retVW {vm₁ : Vm} (X : Stand p l e R (s.setVm vm₁) m args below meth c T locs cells slots) {n : Nat} (hSi : s.Since vm₁ n) (hn' : n ≤ T.heap.size) (hx : p.tables.exec = Jvm.exec) {pc : Nat} {Ls : Array Slot} (hret : meth.sig.returnType = none) (hd : decode c.code pc = .ok (.return_, 1)) (hlocks : meth.locks = false)
    {C S : Nat} {Q : Option Value → Heap → List Loc → Prop} (hC : cells ≤ C) (hS : slots ≤ S) (hQ : Q none T.heap locs) : own_G p e below (T.setTop (mkF m pc Ls [])) (own_PW s below C S Q) := by
  obtain ⟨fs, hr, hrun, hended, hW⟩ := (X.mono hC hS).leaveW hSi hn' (v := none) (fun _ => rfl) hlocks
  exact ⟨_, _, X.returnOut hx hret hd hr, hrun, hended, _, _, rfl, hQ, hW⟩
theorem own_ext_refl (h : Heap) : Ext h h := ⟨Nat.le_refl _, fun _ _ q => q⟩
theorem own_ext_trans {h1 h2 h3 : Heap} (A : Ext h1 h2) (B : Ext h2 h3) : Ext h1 h3 := ⟨Nat.le_trans A.1 B.1, fun a c q => B.2 a c (A.2 a c q)⟩
theorem own_ext_keep {h0 : Heap} {ws : List Addr} (O : Ext h0 h) (K : Keep h h' ws) (q : ∀ x ∈ ws, h0.size ≤ x) : Ext h0 h' := ⟨Nat.le_trans O.1 K.1, fun x c r => K.2.1 x c (O.2 x c r) fun z => absurd (Array.getElem?_eq_some_iff.mp r).1 (Nat.not_lt.mpr (q x z))⟩
theorem own_ext_wr {h0 : Heap} {a : Addr} {sl : Nat} {v : Value} (O : Ext h0 h) (W : Wr h h' a sl v) (q : h0.size ≤ a) : Ext h0 h' := own_ext_keep O (Keep.of_wr W) (allS q all0)
theorem own_fld_ne {a b : Addr} {C n d : String} {v w : Value} (F : Fld Z h a C n d v) (G : Fld Z h b C n d w) (q : v ≠ w) : a ≠ b := fun e => by
  subst e
  obtain ⟨c1, cf, k, i, f, h1, h2, -, -, -, -, h7⟩ := F
  obtain ⟨c2, cf', k', i', f', g1, g2, -, -, -, -, g7⟩ := G
  cases h1.symm.trans g1
  cases h2.symm.trans g2
  exact q (Option.some.inj (h7.symm.trans g7))
theorem own_getR (X : Stand p l e R s m args below meth c T locs cells slots) (hx : p.tables.exec = Jvm.exec) (hZ : Z.Warmed39 s.vm) {a0 : Array Value} {own R0 O n d : String} {index : Nat} (hown : s.vm.findClass own = some m.cls) (w : (Cond.fieldRef own index R0 n d).before a0 Z = true) (via : Via Z R0 O n d)
    (eT : T.heap = h) {a : Addr} {v : Value} (F : Fld Z h a O n d v) {g : JFrame} (hg : g.method = m) {rest : List Value} (hs : g.stack = .ref a :: rest) (hd : decode c.code g.pc = .ok (.getfield index, 3)) :
    ∀ target, Steps p.tables e below (T.setTop { g with pc := g.pc + 3, stack := v :: rest }) target → Steps p.tables e below (T.setTop g) target := by
  obtain ⟨cell, cf, k, i, f, h1, h2, h3, h4, -, -, h7⟩ := F
  have hi := via _ h2
  have hT : Z.Warmed39 T.vm := wtrans hZ X.warmed
  have hownZ : Z.vm.findClass own = some m.cls := by rw [← hZ.alike.findClass]; exact hown
  have hr : Z.resolvedAt? own index = some (.field cf i) := by
    simp only [Cond.before, Cond.holds, Cond.value, hownZ, hi, beq_iff_eq, Option.some.injEq, Bool.and_eq_true] at w
    obtain ⟨-, w⟩ := w
    split at w
    · rename_i c' i' hr; simp only [Bool.and_eq_true, beq_iff_eq] at w; obtain ⟨rfl, rfl⟩ := w; exact hr
    · cases w
  have hr' := State.resolvedAt?_warmed39 hT hr
  have hownT : T.vm.findClass own = some m.cls := by rw [hT.alike.findClass]; exact hownZ
  obtain ⟨k', hi', -⟩ := State.fieldFound?_setVm (s := Z) hT.alike hi
  obtain ⟨hk, hf⟩ := State.fieldFound?_spec hi'
  have hready : T.vm.fieldReady m.cls index cf f := by
    simp only [State.resolvedAt?, State.vm_setVm, hownT, Option.bind_eq_bind, Option.bind_some, Option.bind_eq_some_iff] at hr'
    obtain ⟨kc, hkc, hr'⟩ := hr'
    refine ⟨kc, i, k', hkc, ?_, hk, hf⟩
    cases hx : kc.resolved[index]? with
    | none => simp [hx] at hr'
    | some y => simp only [hx, Option.join_some] at hr'; rw [hr']
  intro target hrest
  subst hg
  jvm_step X.here [hx, hd, getfield.wp_ready (e := e) (s := T) (f := g) X.here.top hready h3 hs (show T.heap[a]? = some cell by rw [eT]; exact h1) h4 h7]
  exact hrest
theorem own_selfPriv {s : State} {args args' : Array Value} {y : MethodName} {n : Nat} (wi : (Cond.instantiable y.cls n).before args' s = true) (hp : s.PrivateAt y) (hi : (Cond.instanceMethod y).before args s = true) (hy : y.cls ≠ "java/lang/invoke/MethodHandle" ∧ y.cls ≠ "java/lang/invoke/VarHandle") : (Cond.selects y.cls y y).before args s = true := by
  obtain ⟨c, k, h1, h2, -, h4, -⟩ := Cond.instantiable_spec wi
  exact Jvm.Stand.selects_self_of_private h1 h2 (by simp only [Bool.or_eq_false_iff] at h4; exact h4.1) hp hi hy
theorem own_bool (z : Int32) (h : z = 0 ∨ z = 1) : narrow .boolean (.int z) = .int z := by rcases h with rfl | rfl <;> rfl
theorem own_mw {s Z : State} {a0 args : Array Value} {ws : List Jvm.Cond} (hZ : Z.Warmed39 s.vm) (hw : ∀ d ∈ ws, d.before a0 Z = true) (i : Nat) {d : Jvm.Cond} (h : ws[i]? = some d) (hd : (d.onTables && d.keepsFace) = true := by first | rfl | simp [Cond.onTables, Cond.keepsFace, Cond.keeps, Cond.steady]) : d.before args s = true := mvT hZ (hw d (List.mem_of_getElem? h)) hd
theorem own_hw {Z : State} {a0 : Array Value} {ws : List Jvm.Cond} (hw : ∀ d ∈ ws, d.before a0 Z = true) (i : Nat) {d : Jvm.Cond} (h : ws[i]? = some d) : d.before a0 Z = true := hw d (List.mem_of_getElem? h)
end OwnPre

section OwnArr
variable {p : Program} {l : Launch} {e : Env} {R : Room} {s : State} {m : MethodId} {args : Array Value} {below : List Frame} {meth : Method} {c : Code} {T : State} {locs : List Loc} {cells slots : Nat} {Z : State} {h h' : Heap} {a b : Addr} {k : ClassId} {ty : FieldType} {vs : List Value} {a0 : Array Value}
/-- the array at a is of class k, of components ty, and holds vs -/
def own_A (Z : State) (h : Heap) (a : Addr) (k : ClassId) (ty : FieldType) (vs : List Value) : Prop := ∃ c : Cell, Arr Z h a c ty ∧ c.cls = k ∧ c.slots.toList = vs ∧ vs.length < 2 ^ 31 ∧ ∀ v ∈ vs, fits ty v = true
theorem own_A.lt (F : own_A Z h a k ty vs) : a < h.size := by obtain ⟨c, A, -⟩ := F; exact A.lt
theorem own_A.ext (F : own_A Z h a k ty vs) (E : Ext h h') : own_A Z h' a k ty vs := by obtain ⟨c, A, r⟩ := F; exact ⟨c, A.ext E, r⟩
theorem own_A.other {sl : Nat} {v : Value} (F : own_A Z h b k ty vs) (W : Wr h h' a sl v) (q : b ≠ a) : own_A Z h' b k ty vs := by obtain ⟨c, A, r⟩ := F; exact ⟨c, A.other W q, r⟩
theorem own_A.keep {ws : List Addr} (F : own_A Z h a k ty vs) (K : Keep h h' ws) (q : a ∉ ws) : own_A Z h' a k ty vs := by obtain ⟨c, A, r⟩ := F; exact ⟨c, ⟨K.2.1 a c A.1 q, A.2⟩, r⟩
theorem own_A.eqs {vs' : List Value} (F : own_A Z h a k ty vs) (q : vs = vs') : own_A Z h a k ty vs' := q ▸ F
theorem own_in {cl : Cell} (hs : cl.slots.toList = vs) {j : Int32} {i : Nat} {v : Value} (hj : j.toInt = (i : Int)) (hv : vs[i]? = some v) : ¬ (j < 0 ∨ cl.slots.size ≤ j.toNatClampNeg) ∧ cl.slots[j.toNatClampNeg]? = some v ∧ j.toNatClampNeg = i := by
  have e : j.toNatClampNeg = i := by show j.toInt.toNat = i; omega
  have hlt : i < vs.length := by
    rcases Nat.lt_or_ge i vs.length with q | q
    · exact q
    · rw [List.getElem?_eq_none q] at hv; cases hv
  have hz : cl.slots.size = vs.length := by rw [← hs]; simp
  refine ⟨fun q => ?_, ?_, e⟩
  · rcases q with q | q
    · rw [Int32.lt_iff_toInt_lt, hj] at q; simp at q; omega
    · omega
  · rw [e, ← Array.getElem?_toList, hs]; exact hv
theorem own_ldJ (X : Stand p l e R s m args below meth c T locs cells slots) (hx : p.tables.exec = Jvm.exec) (hZ : Z.Warmed39 s.vm) (eT : T.heap = h) (F : own_A Z h a k .long vs) {j : Int32} {i : Nat} {v : Value} (hj : j.toInt = (i : Int)) (hv : vs[i]? = some v) {g : JFrame} (hg : g.method = m) {rest : List Value} (hs : g.stack = .int j :: .ref a :: rest) (hd : decode c.code g.pc = .ok (.laload, 1)) :
    ∀ t, Steps p.tables e below (T.setTop { g with pc := g.pc + 1, stack := v :: rest }) t → Steps p.tables e below (T.setTop g) t := fun t r => by
  obtain ⟨cl, A, -, q, -⟩ := F; obtain ⟨h1, h2, -⟩ := own_in q hj hv
  exact X.laload hx (by rw [eT]; exact A.1) (State.isArrayOf_alike hZ.alike A.2.1) A.2.2 h1 h2 hg hs hd t r
theorem own_ldI (X : Stand p l e R s m args below meth c T locs cells slots) (hx : p.tables.exec = Jvm.exec) (hZ : Z.Warmed39 s.vm) (eT : T.heap = h) (F : own_A Z h a k .int vs) {j : Int32} {i : Nat} {v : Value} (hj : j.toInt = (i : Int)) (hv : vs[i]? = some v) {g : JFrame} (hg : g.method = m) {rest : List Value} (hs : g.stack = .int j :: .ref a :: rest) (hd : decode c.code g.pc = .ok (.iaload, 1)) :
    ∀ t, Steps p.tables e below (T.setTop { g with pc := g.pc + 1, stack := v :: rest }) t → Steps p.tables e below (T.setTop g) t := fun t r => by
  obtain ⟨cl, A, -, q, -⟩ := F; obtain ⟨h1, h2, -⟩ := own_in q hj hv
  exact X.iaload hx (by rw [eT]; exact A.1) (State.isArrayOf_alike hZ.alike A.2.1) A.2.2 h1 h2 hg hs hd t r
theorem own_ldC (X : Stand p l e R s m args below meth c T locs cells slots) (hx : p.tables.exec = Jvm.exec) (hZ : Z.Warmed39 s.vm) (eT : T.heap = h) (F : own_A Z h a k .char vs) {j : Int32} {i : Nat} {v : Value} (hj : j.toInt = (i : Int)) (hv : vs[i]? = some v) {g : JFrame} (hg : g.method = m) {rest : List Value} (hs : g.stack = .int j :: .ref a :: rest) (hd : decode c.code g.pc = .ok (.caload, 1)) :
    ∀ t, Steps p.tables e below (T.setTop { g with pc := g.pc + 1, stack := v :: rest }) t → Steps p.tables e below (T.setTop g) t := fun t r => by
  obtain ⟨cl, A, -, q, -⟩ := F; obtain ⟨h1, h2, -⟩ := own_in q hj hv
  exact X.caload hx (by rw [eT]; exact A.1) (State.isArrayOf_alike hZ.alike A.2.1) A.2.2 h1 h2 hg hs hd t r
theorem own_ldB (X : Stand p l e R s m args below meth c T locs cells slots) (hx : p.tables.exec = Jvm.exec) (hZ : Z.Warmed39 s.vm) (eT : T.heap = h) (F : own_A Z h a k .byte vs) {j : Int32} {i : Nat} {v : Value} (hj : j.toInt = (i : Int)) (hv : vs[i]? = some v) {g : JFrame} (hg : g.method = m) {rest : List Value} (hs : g.stack = .int j :: .ref a :: rest) (hd : decode c.code g.pc = .ok (.baload, 1)) :
    ∀ t, Steps p.tables e below (T.setTop { g with pc := g.pc + 1, stack := v :: rest }) t → Steps p.tables e below (T.setTop g) t := fun t r => by
  obtain ⟨cl, A, -, q, -⟩ := F; obtain ⟨h1, h2, -⟩ := own_in q hj hv
  exact X.baloadBytes hx (by rw [eT]; exact A.1) (State.isArrayOf_alike hZ.alike A.2.1) A.2.2 h1 h2 hg hs hd t r
theorem own_ldA (X : Stand p l e R s m args below meth c T locs cells slots) (hx : p.tables.exec = Jvm.exec) (hZ : Z.Warmed39 s.vm) (eT : T.heap = h) (F : own_A Z h a k ty vs) (hty : ty.isReference = true) {j : Int32} {i : Nat} {v : Value} (hj : j.toInt = (i : Int)) (hv : vs[i]? = some v) {g : JFrame} (hg : g.method = m) {rest : List Value} (hs : g.stack = .int j :: .ref a :: rest) (hd : decode c.code g.pc = .ok (.aaload, 1)) :
    ∀ t, Steps p.tables e below (T.setTop { g with pc := g.pc + 1, stack := v :: rest }) t → Steps p.tables e below (T.setTop g) t := fun t r => by
  obtain ⟨cl, A, -, q, -⟩ := F; obtain ⟨h1, h2, -⟩ := own_in q hj hv
  exact X.aaload hx (by rw [eT]; exact A.1) (State.isArrayOf_alike hZ.alike A.2.1) hty A.2.2 h1 h2 hg hs hd t r
theorem own_len (X : Stand p l e R s m args below meth c T locs cells slots) (hx : p.tables.exec = Jvm.exec) (hZ : Z.Warmed39 s.vm) (eT : T.heap = h) (F : own_A Z h a k ty vs) {z : Int32} (hz : z.toInt = (vs.length : Int)) {g : JFrame} (hg : g.method = m) {rest : List Value} (hs : g.stack = .ref a :: rest) (hd : decode c.code g.pc = .ok (.arraylength, 1)) :
    ∀ t, Steps p.tables e below (T.setTop { g with pc := g.pc + 1, stack := .int z :: rest }) t → Steps p.tables e below (T.setTop g) t := fun t r => by
  obtain ⟨cl, A, -, q, q2, -⟩ := F
  have hl : cl.slots.size = vs.length := by rw [← q]; simp
  have e1 : cl.slots.size.toInt32 = z := by
    apply Int32.toInt_inj.mp
    rw [hl, hz]; exact Int32.toInt_ofNat_small q2
  exact X.arraylength hx (by rw [eT]; exact A.1) (State.isArrayOf_alike hZ.alike A.2.1) hg hs hd t (by rw [e1]; exact r)
theorem own_A.set {cl : Cell} (A : Arr Z h a cl ty) (q1 : cl.cls = k) (q2 : cl.slots.toList = vs) (q3 : vs.length < 2 ^ 31) (q4 : ∀ v ∈ vs, fits ty v = true) {i : Nat} {v : Value} (hv : fits ty v = true) (W : Wr h h' a i v) : own_A Z h' a k ty (vs.set i v) := by
  refine ⟨cl.setSlot i v, A.same W, q1, ?_, by simpa using q3, fun u hu => ?_⟩
  · simp [Cell.setSlot, q2]
  · rcases List.mem_or_eq_of_mem_set hu with r | r
    · exact q4 u r
    · rw [r]; exact hv
theorem own_stJ (X : Stand p l e R s m args below meth c T locs cells slots) (hx : p.tables.exec = Jvm.exec) (hZ : Z.Warmed39 s.vm) (eT : T.heap = h) (F : own_A Z h a k .long vs) {j : Int32} {i : Nat} {x : Int64} (hj : j.toInt = (i : Int)) (hi : i < vs.length) {g : JFrame} (hg : g.method = m) {rest : List Value} (hs : g.stack = .long x :: .int j :: .ref a :: rest) (hd : decode c.code g.pc = .ok (.lastore, 1)) :
    ∃ T' h', Stand p l e R s m args below meth c T' (locs ++ [⟨a, i⟩]) cells slots ∧ T'.heap = h' ∧ Wr h h' a i (.long x) ∧ own_A Z h' a k .long (vs.set i (.long x)) ∧ ∀ t, Steps p.tables e below (T'.setTop { g with pc := g.pc + 1, stack := rest }) t → Steps p.tables e below (T.setTop g) t := by
  obtain ⟨cl, A, r1, r2, r3, r4⟩ := F; obtain ⟨h1, -, h3⟩ := own_in r2 hj (List.getElem?_eq_getElem hi)
  obtain ⟨T', h', X', e', W, st⟩ := stJ X hx hZ eT A h1 hg hs hd
  rw [h3] at X' W
  exact ⟨T', h', X', e', W, own_A.set A r1 r2 r3 r4 rfl W, st⟩
theorem own_stI (X : Stand p l e R s m args below meth c T locs cells slots) (hx : p.tables.exec = Jvm.exec) (hZ : Z.Warmed39 s.vm) (eT : T.heap = h) (F : own_A Z h a k .int vs) {j : Int32} {i : Nat} {x : Int32} (hj : j.toInt = (i : Int)) (hi : i < vs.length) {g : JFrame} (hg : g.method = m) {rest : List Value} (hs : g.stack = .int x :: .int j :: .ref a :: rest) (hd : decode c.code g.pc = .ok (.iastore, 1)) :
    ∃ T' h', Stand p l e R s m args below meth c T' (locs ++ [⟨a, i⟩]) cells slots ∧ T'.heap = h' ∧ Wr h h' a i (.int x) ∧ own_A Z h' a k .int (vs.set i (.int x)) ∧ ∀ t, Steps p.tables e below (T'.setTop { g with pc := g.pc + 1, stack := rest }) t → Steps p.tables e below (T.setTop g) t := by
  obtain ⟨cl, A, r1, r2, r3, r4⟩ := F; obtain ⟨h1, -, h3⟩ := own_in r2 hj (List.getElem?_eq_getElem hi)
  obtain ⟨T', h', X', e', W, st⟩ := stI X hx hZ eT A h1 hg hs hd
  rw [h3] at X' W
  exact ⟨T', h', X', e', W, own_A.set A r1 r2 r3 r4 rfl W, st⟩
theorem own_stC (X : Stand p l e R s m args below meth c T locs cells slots) (hx : p.tables.exec = Jvm.exec) (hZ : Z.Warmed39 s.vm) (eT : T.heap = h) (F : own_A Z h a k .char vs) {j : Int32} {i : Nat} {x y : Int32} (hy : nar .char x = y) (hj : j.toInt = (i : Int)) (hi : i < vs.length) {g : JFrame} (hg : g.method = m) {rest : List Value} (hs : g.stack = .int x :: .int j :: .ref a :: rest) (hd : decode c.code g.pc = .ok (.castore, 1)) :
    ∃ T' h', Stand p l e R s m args below meth c T' (locs ++ [⟨a, i⟩]) cells slots ∧ T'.heap = h' ∧ Wr h h' a i (.int y) ∧ own_A Z h' a k .char (vs.set i (.int y)) ∧ ∀ t, Steps p.tables e below (T'.setTop { g with pc := g.pc + 1, stack := rest }) t → Steps p.tables e below (T.setTop g) t := by
  obtain ⟨cl, A, r1, r2, r3, r4⟩ := F; obtain ⟨h1, -, h3⟩ := own_in r2 hj (List.getElem?_eq_getElem hi)
  obtain ⟨T', h', X', e', W, st⟩ := stC X hx hZ eT A h1 hg hs hd
  have hfy := fits_nar_char x
  rw [hy] at hfy W
  rw [h3] at X' W
  exact ⟨T', h', X', e', W, own_A.set A r1 r2 r3 r4 hfy W, st⟩
theorem own_stB (X : Stand p l e R s m args below meth c T locs cells slots) (hx : p.tables.exec = Jvm.exec) (hZ : Z.Warmed39 s.vm) (eT : T.heap = h) (F : own_A Z h a k .byte vs) {j : Int32} {i : Nat} {x y : Int32} (hy : nar .byte x = y) (hj : j.toInt = (i : Int)) (hi : i < vs.length) {g : JFrame} (hg : g.method = m) {rest : List Value} (hs : g.stack = .int x :: .int j :: .ref a :: rest) (hd : decode c.code g.pc = .ok (.bastore, 1)) :
    ∃ T' h', Stand p l e R s m args below meth c T' (locs ++ [⟨a, i⟩]) cells slots ∧ T'.heap = h' ∧ Wr h h' a i (.int y) ∧ own_A Z h' a k .byte (vs.set i (.int y)) ∧ ∀ t, Steps p.tables e below (T'.setTop { g with pc := g.pc + 1, stack := rest }) t → Steps p.tables e below (T.setTop g) t := by
  obtain ⟨cl, A, r1, r2, r3, r4⟩ := F; obtain ⟨h1, -, h3⟩ := own_in r2 hj (List.getElem?_eq_getElem hi)
  obtain ⟨T', h', X', e', W, st⟩ := stB X hx hZ eT A h1 hg hs hd
  have hfy : fits .byte (.int (nar .byte x)) = true := fits_nar_byte x
  rw [hy] at hfy W
  rw [h3] at X' W
  exact ⟨T', h', X', e', W, own_A.set A r1 r2 r3 r4 hfy W, st⟩
theorem own_stR (X : Stand p l e R s m args below meth c T locs cells slots) (hx : p.tables.exec = Jvm.exec) (hZ : Z.Warmed39 s.vm) (eT : T.heap = h) (F : own_A Z h a k ty vs) (hty : ty.isReference = true) {j : Int32} {i : Nat} {v : Value} (hj : j.toInt = (i : Int)) (hi : i < vs.length) (hS : ∀ cl : Cell, Arr Z h a cl ty → cl.cls = k → Sto Z h a v) (hf : fits ty v = true) {g : JFrame} (hg : g.method = m) {rest : List Value} (hs : g.stack = v :: .int j :: .ref a :: rest) (hd : decode c.code g.pc = .ok (.aastore, 1)) :
    ∃ T' h', Stand p l e R s m args below meth c T' (locs ++ [⟨a, i⟩]) cells slots ∧ T'.heap = h' ∧ Wr h h' a i v ∧ own_A Z h' a k ty (vs.set i v) ∧ ∀ t, Steps p.tables e below (T'.setTop { g with pc := g.pc + 1, stack := rest }) t → Steps p.tables e below (T.setTop g) t := by
  obtain ⟨cl, A, r1, r2, r3, r4⟩ := F; obtain ⟨h1, -, h3⟩ := own_in r2 hj (List.getElem?_eq_getElem hi)
  obtain ⟨T', h', X', e', W, st⟩ := stR X hx hZ eT A h1 hty (hS cl A r1) hg hs hd
  rw [h3] at X' W
  exact ⟨T', h', X', e', W, own_A.set A r1 r2 r3 r4 hf W, st⟩
theorem own_A.of_new {n : Int32} {i : Nat} (hn : n.toInt = (i : Int)) (hd : fits ty (defaultValue ty) = true) (A : Arr Z h a (newA k ty n) ty) : own_A Z h a k ty (List.replicate i (defaultValue ty)) := by
  have e : n.toNatClampNeg = i := by show n.toInt.toNat = i; omega
  have hb := n.toInt_lt
  refine ⟨_, A, rfl, by simp [newA, e], by simp; omega, fun v hv => by rw [(List.mem_replicate.mp hv).2]; exact hd⟩
theorem own_newP (X : Stand p l e R s m args below meth c T locs cells slots) (hx : p.tables.exec = Jvm.exec) (hZ : Z.Warmed39 s.vm) {aty : ArrayType} (w : (Cond.arrayClass (newarray.typeOf aty)).before a0 Z = true) (eT : T.heap = h) {g : JFrame} (hg : g.method = m) (hd : decode c.code g.pc = .ok (.newarray aty, 2)) {n : Int32} {rest : List Value} (hs : g.stack = .int n :: rest)
    {i : Nat} (hn : n.toInt = (i : Int)) {cap : Nat} (hcap : i ≤ cap) (hb : cap * 8 ≤ 536870912) (hc : cells + 1 ≤ R.cells) (hl : slots + cap ≤ R.slots) :
    ∃ T' h' cA, Stand p l e R s m args below meth c T' locs (cells + 1) (slots + cap) ∧ T'.heap = h' ∧ Ext h h' ∧ own_A Z h' h.size cA (newarray.typeOf aty) (List.replicate i (defaultValue (newarray.typeOf aty))) ∧
      ∀ target, Steps p.tables e below (T'.setTop { g with pc := g.pc + 2, stack := .ref h.size :: rest }) target → Steps p.tables e below (T.setTop g) target := by
  have hn' : ¬ n < 0 := by rw [Int32.lt_iff_toInt_lt, hn]; simp
  obtain ⟨T', h', cA, X', e', E, A, st⟩ := newP X hx hZ w eT hg hd hs hn' (cap := cap) (by show n.toInt.toNat ≤ cap; omega) hb hc hl
  exact ⟨T', h', cA, X', e', E, own_A.of_new hn (by cases aty <;> rfl) A, st⟩
theorem own_newR (X : Stand p l e R s m args below meth c T locs cells slots) (hx : p.tables.exec = Jvm.exec) (hZ : Z.Warmed39 s.vm) {own C : String} {index : Nat} (hown : s.vm.findClass own = some m.cls) (w1 : (Cond.classLink own index C).before a0 Z = true) (w2 : (Cond.arrayOver (.object C)).before a0 Z = true)
    (eT : T.heap = h) {g : JFrame} (hg : g.method = m) (hd : decode c.code g.pc = .ok (.anewarray index, 3)) {n : Int32} {rest : List Value} (hs : g.stack = .int n :: rest) {i : Nat} (hn : n.toInt = (i : Int)) {cap : Nat} (hcap : i ≤ cap) (hb : cap * 8 ≤ 536870912) (hc : cells + 1 ≤ R.cells) (hl : slots + cap ≤ R.slots) :
    ∃ T' h' cA, Stand p l e R s m args below meth c T' locs (cells + 1) (slots + cap) ∧ T'.heap = h' ∧ Ext h h' ∧ own_A Z h' h.size cA (.object C) (List.replicate i .null) ∧ Ovr Z cA C ∧
      ∀ target, Steps p.tables e below (T'.setTop { g with pc := g.pc + 3, stack := .ref h.size :: rest }) target → Steps p.tables e below (T.setTop g) target := by
  have hn' : ¬ n < 0 := by rw [Int32.lt_iff_toInt_lt, hn]; simp
  obtain ⟨T', h', cA, X', e', E, A, O, st⟩ := newR X hx hZ hown w1 w2 eT hg hd hs hn' (cap := cap) (by show n.toInt.toNat ≤ cap; omega) hb hc hl
  exact ⟨T', h', cA, X', e', E, own_A.of_new hn rfl A, O, st⟩
theorem own_sto {C : String} {v : Value} (O : Ovr Z k C) (I : v = .null ∨ ∃ y, v = .ref y ∧ Ins Z h y C true) : ∀ cl : Cell, Arr Z h a cl ty → cl.cls = k → Sto Z h a v := fun cl A q => by
  rcases I with rfl | ⟨y, rfl, I⟩
  · exact Or.inl rfl
  · exact Sto.ofV A q O I
theorem own_A.start {args : Array Value} (hf : Fit Z) {t : Term} {n : Int32} (ev : t.eval args Z none [] Z = some (.ref a)) (hA : (Cond.arrayOf t ty).value args Z none Z [] = some true) (hL : (Cond.eq (.length t) (.int n)).value args Z none Z [] = some true) :
    ∃ c : Cell, Arr Z Z.heap a c ty ∧ own_A Z Z.heap a c.cls ty c.slots.toList ∧ c.slots.size < 2 ^ 31 ∧ c.slots.size.toInt32 = n ∧ (c.slots.size : Int) = n.toInt := by
  obtain ⟨c, A⟩ := Arr.start ev hA
  have e := eqv_i (Term.int_eval n) hL
  have e4 : Z.arrayAt? a = some c := A.fin (Vm.Alike.refl _)
  have hl : c.slots.size < 2 ^ 31 := by
    rcases Nat.lt_or_ge c.slots.size (2 ^ 31) with q | q
    · exact q
    · simp [Term.eval, ev, e4, Nat.not_lt.mpr q] at e
  have e5 := (len_f ev e4 hl).symm.trans e
  have e6 : c.slots.size.toInt32 = n := Value.int.inj (Option.some.inj e5)
  refine ⟨c, A, ⟨c, A, rfl, rfl, by simpa using hl, fun v hv => ?_⟩, hl, e6, ?_⟩
  · obtain ⟨i, hi, rfl⟩ := List.getElem_of_mem hv
    have hi' : i < c.slots.size := by simpa using hi
    have q := idx_in hi' hl
    have e7 : i.toInt32.toNatClampNeg = i := by
      show i.toInt32.toInt.toNat = i
      rw [len_toInt (Nat.lt_trans hi' hl)]; rfl
    exact elem_fits hf A q (by rw [e7]; simp [hi'])
  · rw [← e6, len_toInt hl]
end OwnArr

section OwnArr2
variable {p : Program} {l : Launch} {e : Env} {R : Room} {s : State} {m : MethodId} {args : Array Value} {below : List Frame} {meth : Method} {c : Code} {T : State} {locs : List Loc} {cells slots : Nat} {Z : State} {h h' : Heap} {a b : Addr} {k : ClassId} {ty : FieldType} {vs : List Value} {a0 : Array Value}
theorem own_newRE (X : Stand p l e R s m args below meth c T locs cells slots) (hx : p.tables.exec = Jvm.exec) (hZ : Z.Warmed39 s.vm) {own C : String} {index : Nat} (hown : s.vm.findClass own = some m.cls) (w1 : (Cond.classLink own index C).before a0 Z = true) (w2 : (Cond.arrayOver (.object C)).before a0 Z = true)
    (eT : T.heap = h) {g : JFrame} (hg : g.method = m) (hd : decode c.code g.pc = .ok (.anewarray index, 3)) {n : Int32} {rest : List Value} (hs : g.stack = .int n :: rest) {i : Nat} (hn : n.toInt = (i : Int)) {cap : Nat} (hcap : i ≤ cap) (hb : cap * 8 ≤ 536870912) (hc : cells + 1 ≤ R.cells) (hl : slots + cap ≤ R.slots) {ad : String} (had : "[" ++ (FieldType.object C).toString = ad) :
    ∃ T' h' cA, Stand p l e R s m args below meth c T' locs (cells + 1) (slots + cap) ∧ T'.heap = h' ∧ Ext h h' ∧ own_A Z h' h.size cA (.object C) (List.replicate i .null) ∧ Exa Z h' h.size ad ∧ Ovr Z cA C ∧
      ∀ target, Steps p.tables e below (T'.setTop { g with pc := g.pc + 3, stack := .ref h.size :: rest }) target → Steps p.tables e below (T.setTop g) target := by
  have hn' : ¬ n < 0 := by rw [Int32.lt_iff_toInt_lt, hn]; simp
  obtain ⟨T', h', cA, X', e', E, A, EX, O, st⟩ := newRE X hx hZ hown w1 w2 eT hg hd hs hn' (cap := cap) (by show n.toInt.toNat ≤ cap; omega) hb hc hl had
  exact ⟨T', h', cA, X', e', E, own_A.of_new hn rfl A, EX, O, st⟩
theorem own_A.arv (F : own_A Z h a k ty vs) {z : Int32} (hz : z.toInt = (vs.length : Int)) (d : Value) : Arv Z h a k ty z vs d := by
  obtain ⟨cl, A, r1, r2, r3, r4⟩ := F
  have hs : cl.slots.size = vs.length := by rw [← r2]; simp
  have hn : z.toNatClampNeg = vs.length := by show z.toInt.toNat = _; omega
  refine ⟨cl, A, r1, by rw [hs, hn], by rw [Int32.lt_iff_toInt_lt, hz]; simp, fun i hi => ?_, fun i hi => ?_⟩
  · rw [hs] at hi
    rw [← Array.getElem?_toList, r2, List.getD_eq_getElem?_getD, List.getElem?_eq_getElem hi]; rfl
  · rw [hs] at hi
    rw [List.getD_eq_getElem?_getD, List.getElem?_eq_getElem hi]; exact r4 _ (List.getElem_mem hi)
theorem own_A.of_arv {z : Int32} {d : Value} (F : Arv Z h a k ty z vs d) (hz : z.toInt = (vs.length : Int)) : own_A Z h a k ty vs := by
  obtain ⟨cl, A, r1, r2, r3, r4, r5⟩ := F
  have hn : z.toNatClampNeg = vs.length := by show z.toInt.toNat = _; omega
  have hlt := z.toInt_lt
  refine ⟨cl, A, r1, ?_, by omega, fun v hv => ?_⟩
  · apply List.ext_getElem?
    intro i
    rw [Array.getElem?_toList]
    rcases Nat.lt_or_ge i vs.length with q | q
    · rw [r4 i (by omega), List.getD_eq_getElem?_getD, List.getElem?_eq_getElem q]; rfl
    · rw [List.getElem?_eq_none q, Array.getElem?_eq_none (by omega)]
  · obtain ⟨i, hi, rfl⟩ := List.getElem_of_mem hv
    have := r5 i (by omega)
    rwa [List.getD_eq_getElem?_getD, List.getElem?_eq_getElem hi] at this
theorem own_stoL {C : String} (O : Ovr Z k C) (A : own_A Z h a k ty vs) : ∀ us : List Value, (∀ v ∈ us, v = .null ∨ ∃ y, v = .ref y ∧ Ins Z h y C true) → StoL Z h a us
  | [], _ => trivial
  | v :: us, q => ⟨by obtain ⟨cl, Ar, r1, -⟩ := A; exact own_sto O (q v List.mem_cons_self) cl Ar r1, own_stoL O A us fun u hu => q u (List.mem_cons_of_mem _ hu)⟩
theorem own_memc {P : Value → Prop} {v : Value} {us : List Value} (q : P v) (r : ∀ u ∈ us, P u) : ∀ u ∈ v :: us, P u := fun u hu => by
  rcases List.mem_cons.mp hu with rfl | hu
  · exact q
  · exact r u hu
theorem own_cp (X : Stand p l e R s m args below meth c T locs cells slots) (hx : p.tables.exec = Jvm.exec) (hZ : Z.Warmed39 s.vm) {own : String} {index : Nat} (hown : s.vm.findClass own = some m.cls)
    (w1 : (Cond.methodLink own index Jvm.Stand.acN).before a0 Z = true) (w2 : (Cond.native Jvm.Stand.acN).before a0 Z = true) (w3 : (Cond.static Jvm.Stand.acN).before a0 Z = true) (w4 : (Cond.initialized "java/lang/System").before a0 Z = true) (eT : T.heap = h)
    {k' : ClassId} {ty' : FieldType} {sp dp nn : Int32} {vd us vr : List Value} {i j n : Nat} (A : own_A Z h a k ty vs) (B : own_A Z h b k' ty' vd) (hA : vs.length < 2147483648) (hB : vd.length < 2147483648) (hty : (ty = ty' ∧ refKind ty = false) ∨ (refKind ty = true ∧ refKind ty' = true ∧ StoL Z h b us))
    (h1 : sp.toInt = (i : Int)) (h2 : dp.toInt = (j : Int)) (h3 : nn.toInt = (n : Int)) (h4 : i + n ≤ vs.length) (h5 : j + n ≤ vd.length)
    (hus : us = (vs.drop i).take n) (hvr : vr = vd.take j ++ us ++ vd.drop (j + n)) {n0 : Nat} (N : Fr n0 locs) (ge : n0 ≤ b)
    {g : JFrame} (hg : g.method = m) (hsize : g.locals.size = c.maxLocals) {rest : List Value} (hs : g.stack = .int nn :: .int dp :: .ref b :: .int sp :: .ref a :: rest) (hd : decode c.code g.pc = .ok (.invokestatic index, 3))
    (hf : 1 ≤ R.frames) {W : Nat} (hW : 2 * g.monitorRoom + (rest.map fun v => v.category).sum ≤ W) (hlo : W + (nativeFrameWords "java/lang/System" "arraycopy" 5 + 11) ≤ R.locals) :
    ∃ T' h' L, Stand p l e R s m args below meth c T' L cells slots ∧ T'.heap = h' ∧ Fr n0 L ∧ Keep h h' [b] ∧ own_A Z h' b k' ty' vr ∧
      ∀ target, Steps p.tables e below (T'.setTop { g with pc := g.pc + 3, stack := rest }) target → Steps p.tables e below (T.setTop g) target := by
  have e1 : sp.toNatClampNeg = i := by show sp.toInt.toNat = i; omega
  have e2 : dp.toNatClampNeg = j := by show dp.toInt.toNat = j; omega
  have e3 : nn.toNatClampNeg = n := by show nn.toInt.toNat = n; omega
  have z1 : (Int32.ofNat vs.length).toInt = (vs.length : Int) := Int32.toInt_ofNat_small (by omega)
  have z2 : (Int32.ofNat vd.length).toInt = (vd.length : Int) := Int32.toInt_ofNat_small (by omega)
  have y1 : (Int32.ofNat vs.length).toNatClampNeg = vs.length := by show (Int32.ofNat vs.length).toInt.toNat = _; omega
  have y2 : (Int32.ofNat vd.length).toNatClampNeg = vd.length := by show (Int32.ofNat vd.length).toInt.toNat = _; omega
  have hus' : us = (List.range nn.toNatClampNeg).map fun q => vs.getD (sp.toNatClampNeg + q) .null := by
    rw [hus, e1, e3]
    apply List.ext_getElem?
    intro q
    rcases Nat.lt_or_ge q n with r | r
    · rw [List.getElem?_take_of_lt r, List.getElem?_drop, List.getElem?_map, List.getElem?_range r, List.getElem?_eq_getElem (by omega)]
      simp [List.getD_eq_getElem?_getD, List.getElem?_eq_getElem (show i + q < vs.length by omega)]
    · rw [List.getElem?_eq_none (by simp; omega), List.getElem?_eq_none (by simp; omega)]
  obtain ⟨T', h', L, X', e', N', K, V, st⟩ := cpA X hx hZ hown w1 w2 w3 w4 eT (A.arv z1 .null) (B.arv z2 .null) hty (by rw [Int32.lt_iff_toInt_lt, h1]; simp) (by rw [Int32.lt_iff_toInt_lt, h2]; simp) (by rw [Int32.lt_iff_toInt_lt, h3]; simp) (by rw [e1, e3, y1]; exact h4) (by rw [e2, e3, y2]; exact h5) hus' (by rw [e2, e3]; exact h5) N ge hg hsize hs hd hf hW hlo
  rw [e2, e3, ← hvr] at V
  refine ⟨T', h', L, X', e', N', K, own_A.of_arv V ?_, st⟩
  rw [z2, hvr, hus]; simp; omega
theorem own_ldcK (X : Stand p l e R s m args below meth c T locs cells slots) (hx : p.tables.exec = Jvm.exec) (hZ : Z.Warmed39 s.vm) {own C : String} {index : Nat} (hown : s.vm.findClass own = some m.cls) (w : (Cond.classLink own index C).before a0 Z = true) {mr : Addr} (M : Mir Z C mr) (eT : T.heap = h) {g : JFrame} (hg : g.method = m) (hd : decode c.code g.pc = .ok (.ldc index, 2)) :
    ∃ T', Stand p l e R s m args below meth c T' locs cells slots ∧ T'.heap = h ∧ ∀ target, Steps p.tables e below (T'.setTop { g with pc := g.pc + 2, stack := .ref mr :: g.stack }) target → Steps p.tables e below (T.setTop g) target := by
  obtain ⟨cc, kc, m1, m2, m3, -⟩ := M
  obtain ⟨k', q, ek⟩ := hZ.alike.2.2 _ _ m2
  have hf : s.vm.findClass C = some cc := by rw [hZ.alike.findClass]; exact m1
  have hm : k'.mirror = some mr := by rw [ek]; exact m3
  obtain ⟨vm', X', st⟩ := X.ldcMirror hx hown (mvT hZ w) (a := mr) (by simp [Term.eval, hf, q, hm]) hg hd
  exact ⟨_, X', eT, st⟩
theorem own_NSroot {O K : String} {n : Nat} (w : (Cond.noSuperclass O).before a0 Z = true) (wk : (Cond.instantiable K n).before a0 Z = true) (hn : O ≠ K) : NS Z O K := by
  obtain ⟨c, k, h1, h2, h3, -, -⟩ := Cond.noSuperclass_spec w
  obtain ⟨t, k', g1, -⟩ := Cond.instantiable_spec wk
  have ne := ids_ne h1 g1 hn
  refine ⟨c, t, h1, g1, fun fuel => ?_⟩
  cases fuel with
  | zero => rfl
  | succ f => simp [Vm.isSubclassAux, ne, h2, h3]
theorem own_NSno {C S K : String} {nn : Nat} (w : (Cond.superclass C S).before a0 Z = true) (wk : (Cond.instantiable K nn).before a0 Z = true) (n : NS Z C K) (hn : C ≠ K) : ∃ c t, Z.vm.findClass C = some c ∧ Z.vm.findClass K = some t ∧ Z.vm.assignable c t = false := by
  obtain ⟨c, t, h0, g0, n3⟩ := n
  obtain ⟨p, k, kp, h1, h2, h3, h4, h5, -, h7⟩ := Cond.superclass_spec h0 w
  obtain ⟨t', k', g1, g2, g5, g7, -⟩ := Cond.instantiable_spec wk
  cases g0.symm.trans g1
  simp only [Bool.or_eq_false_iff] at g7
  have ne := ids_ne h0 g0 hn
  refine ⟨c, t, h0, g0, ?_⟩
  show Z.vm.assignableAux (255 + 1) c t = false
  simp [Vm.assignableAux, ne, h2, g2, h5, g5, g7.1, Vm.isSubclass, n3]
end OwnArr2

section OwnMore
variable {p : Program} {l : Launch} {e : Env} {R : Room} {s : State} {m : MethodId} {args : Array Value} {below : List Frame} {meth : Method} {c : Code} {T : State} {locs : List Loc} {cells slots : Nat} {Z : State} {h h' : Heap} {a : Addr} {k : ClassId} {ty : FieldType} {vs : List Value} {a0 : Array Value}
theorem own_newPE (X : Stand p l e R s m args below meth c T locs cells slots) (hx : p.tables.exec = Jvm.exec) (hZ : Z.Warmed39 s.vm) {aty : ArrayType} (w : (Cond.arrayClass (newarray.typeOf aty)).before a0 Z = true) (eT : T.heap = h) {g : JFrame} (hg : g.method = m) (hd : decode c.code g.pc = .ok (.newarray aty, 2)) {n : Int32} {rest : List Value} (hs : g.stack = .int n :: rest)
    {i : Nat} (hn : n.toInt = (i : Int)) {cap : Nat} (hcap : i ≤ cap) (hb : cap * 8 ≤ 536870912) (hc : cells + 1 ≤ R.cells) (hl : slots + cap ≤ R.slots) {ad : String} (had : "[" ++ (newarray.typeOf aty).toString = ad) :
    ∃ T' h' cA, Stand p l e R s m args below meth c T' locs (cells + 1) (slots + cap) ∧ T'.heap = h' ∧ Ext h h' ∧ own_A Z h' h.size cA (newarray.typeOf aty) (List.replicate i (defaultValue (newarray.typeOf aty))) ∧ Exa Z h' h.size ad ∧
      ∀ target, Steps p.tables e below (T'.setTop { g with pc := g.pc + 2, stack := .ref h.size :: rest }) target → Steps p.tables e below (T.setTop g) target := by
  have hn' : ¬ n < 0 := by rw [Int32.lt_iff_toInt_lt, hn]; simp
  obtain ⟨T', h', cA, X', e', E, A, EX, st⟩ := newPE X hx hZ w eT hg hd hs hn' (cap := cap) (by show n.toInt.toNat ≤ cap; omega) hb hc hl had
  exact ⟨T', h', cA, X', e', E, own_A.of_new hn (by cases aty <;> rfl) A, EX, st⟩
theorem own_clone (X : Stand p l e R s m args below meth c T locs cells slots) (hx : p.tables.exec = Jvm.exec) (hZ : Z.Warmed39 s.vm) {own ad : String} {index : Nat} (hown : s.vm.findClass own = some m.cls)
    (w1 : (Cond.methodLink own index ⟨ad, "clone", "()Ljava/lang/Object;"⟩).before a0 Z = true) (w2 : (Cond.sameMethod ad "java/lang/Object" "clone" "()Ljava/lang/Object;").before a0 Z = true) (w3 : (Cond.native ⟨"java/lang/Object", "clone", "()Ljava/lang/Object;"⟩).before a0 Z = true)
    (w4 : (Cond.instanceMethod ⟨"java/lang/Object", "clone", "()Ljava/lang/Object;"⟩).before a0 Z = true) (w5 : (Cond.selects ad ⟨ad, "clone", "()Ljava/lang/Object;"⟩ ⟨"java/lang/Object", "clone", "()Ljava/lang/Object;"⟩).before a0 Z = true) (w6 : (Cond.castable ad "java/lang/Cloneable").before a0 Z = true)
    (eT : T.heap = h) (F : own_A Z h a k ty vs) (E : Exa Z h a ad) {g : JFrame} (hg : g.method = m) (hsize : g.locals.size = c.maxLocals) {rest : List Value} (hs : g.stack = .ref a :: rest) (hd : decode c.code g.pc = .ok (.invokevirtual index, 3))
    (hf : 1 ≤ R.frames) {W cap : Nat} (hW : 2 * g.monitorRoom + (rest.map fun v => v.category).sum ≤ W) (hl : W + 14 ≤ R.locals) (hcap : vs.length ≤ cap) (hc : cells + 1 ≤ R.cells) (hsl : slots + cap ≤ R.slots) :
    ∃ T' h', Stand p l e R s m args below meth c T' locs (cells + 1) (slots + cap) ∧ T'.heap = h' ∧ Ext h h' ∧ own_A Z h' h.size k ty vs ∧ Exa Z h' h.size ad ∧
      ∀ target, Steps p.tables e below (T'.setTop { g with pc := g.pc + 3, stack := .ref h.size :: rest }) target → Steps p.tables e below (T.setTop g) target := by
  obtain ⟨cl, A, r1, r2, r3, r4⟩ := F
  have hl' : cl.slots.size = vs.length := by rw [← r2]; simp
  obtain ⟨T', h', X', e', E', A', EX, st⟩ := cloneA X hx hZ hown w1 w2 w3 w4 w5 w6 eT A E (fitC_of A fun i hi v hv => r4 v (by rw [← r2]; exact Array.mem_toList_iff.mpr (Array.mem_of_getElem? hv))) hg hsize hs hd hf hW hl (by omega) hc hsl
  exact ⟨T', h', X', e', E', ⟨cloneOf cl, A', r1, r2, r3, r4⟩, EX, st⟩
end OwnMore
theorem own_nf {s : State} {args args' : Array Value} {C : String} {y z : MethodName} (hz : (Cond.selects C z z).before args s = true) (iz : (Cond.instanceMethod z).before args' s = true) (hc : z.cls = y.cls) : Jvm.Free.NotFace s y := fun r h => by
  obtain ⟨r0, mm, h1, -⟩ := Cond.instanceMethod_spec iz
  obtain ⟨kr, h2, h3⟩ := notFace_of_selects hz r0 h1
  have e1 := findClass_of_methodNamed h1
  have e2 := findClass_of_methodNamed h
  rw [hc] at e1
  have ec : r0.cls = r.cls := Option.some.inj (e1.symm.trans e2)
  exact ⟨kr, ec ▸ h2, h3⟩
theorem own_selfPrivC {s : State} {args args' : Array Value} {C : String} {y : MethodName} (hs : (Cond.selects C y y).before args s = true) (hp : s.PrivateAt y) (hi : (Cond.instanceMethod y).before args' s = true) (hy : y.cls ≠ "java/lang/invoke/MethodHandle" ∧ y.cls ≠ "java/lang/invoke/VarHandle") : (Cond.selects y.cls y y).before args' s = true := by
  obtain ⟨r0, mm, h1, -⟩ := Cond.instanceMethod_spec hi
  obtain ⟨kr, h2, h3⟩ := notFace_of_selects hs r0 h1
  exact Jvm.Stand.selects_self_of_private (findClass_of_methodNamed h1) h2 h3 hp hi hy
theorem own_sameSelf {Z : State} {a0 a1 a2 : Array Value} {C : String} {y z : MethodName} (hz : (Cond.selects C z z).before a1 Z = true) (iz : (Cond.instanceMethod z).before a2 Z = true) (hcl : z.cls = y.cls) (iy : (Cond.instanceMethod y).before a0 Z = true) (hy : y.cls ≠ "java/lang/invoke/MethodHandle" ∧ y.cls ≠ "java/lang/invoke/VarHandle") : (Cond.sameMethod y.cls y.cls y.name y.desc).before a0 Z = true := by
  obtain ⟨r1, mm1, g1, -⟩ := Cond.instanceMethod_spec iy
  obtain ⟨kr, h2, h3⟩ := own_nf (y := y) hz iz hcl r1 g1
  have e2 := findClass_of_methodNamed g1
  have hf := State.methodFound?_of_named g1 hy
  have g1' : Z.methodNamed? ⟨y.cls, y.name, y.desc⟩ = some r1 := g1
  simp only [Cond.before, Cond.holds, Cond.value, e2, hf, g1']
  simp [h2, h3]
theorem own_catR {v : Value} (h : v.isRef = true) : v.category = 1 := by cases v <;> first | rfl | cases h

/-! the plain part: lists of signs -/
def own_cv (cs : List Int32) : List Value := cs.map Value.int
theorem own_cv_len (cs : List Int32) : (own_cv cs).length = cs.length := by unfold own_cv; rw [List.length_map]
theorem own_cv_app (a b : List Int32) : own_cv (a ++ b) = own_cv a ++ own_cv b := by unfold own_cv; rw [List.map_append]
theorem own_cv_get {cs : List Int32} {i : Nat} (h : i < cs.length) : (own_cv cs)[i]? = some (.int (cs.getD i 0)) := by
  unfold own_cv; rw [List.getElem?_map, List.getElem?_eq_getElem h, List.getD_eq_getElem?_getD, List.getElem?_eq_getElem h]; rfl
theorem own_ofN {n : Nat} (h : n ≤ 1000) : (Int32.ofNat n).toInt = (n : Int) := Int32.toInt_ofNat_small (by omega)
def own_dl (n L : Nat) : List Int32 := (List.range L).map fun i => Int32.ofNat (48 + n / 10 ^ (L - 1 - i) % 10)
def own_sl (x : Int64) : List Int32 := (if x < 0 then [45] else []) ++ own_dl x.toInt.natAbs (Jvm.Free.SBG.digitsL x.toInt.natAbs)
theorem own_dl_len (n L : Nat) : (own_dl n L).length = L := by unfold own_dl; rw [List.length_map, List.length_range]
theorem own_dl_get {n L i : Nat} (h : i < L) : (own_dl n L)[i]? = some (Int32.ofNat (48 + n / 10 ^ (L - 1 - i) % 10)) := by
  unfold own_dl; rw [List.getElem?_map, List.getElem?_range h]; rfl
theorem own_sl_len (x : Int64) : (own_sl x).length = Jvm.Free.SBG.digitsL x.toInt.natAbs + Jvm.Free.SBG.GetCharsL.sgnL x := by
  unfold own_sl Jvm.Free.SBG.GetCharsL.sgnL
  by_cases h : x < 0
  · rw [if_pos h, if_pos h, List.length_append, own_dl_len]; simp; omega
  · rw [if_neg h, if_neg h, List.length_append, own_dl_len]; simp
theorem own_sl_le (x : Int64) : 1 ≤ (own_sl x).length ∧ (own_sl x).length ≤ 21 := by
  have h := Jvm.Free.SBG.digitsL_pos x.toInt.natAbs
  rw [own_sl_len]; unfold Jvm.Free.SBG.GetCharsL.sgnL
  split <;> omega
theorem own_neg (x : Int64) : x.toInt.natAbs ≤ 2 ^ 63 ∧ (if x < 0 then x else -x) = Jvm.Free.SBG.negL x.toInt.natAbs := by
  have a := x.toInt_lt; have b := x.le_toInt
  have hb : x.toInt.natAbs ≤ 2 ^ 63 := by omega
  refine ⟨hb, ?_⟩
  apply Int64.toInt_inj.mp
  rw [Jvm.Free.SBG.negL_toInt hb]
  have e0 : (0 : Int64).toInt = 0 := by decide
  by_cases h : x < 0
  · rw [if_pos h]; rw [Int64.lt_iff_toInt_lt, e0] at h; omega
  · rw [if_neg h]; rw [Int64.lt_iff_toInt_lt, e0] at h
    rw [Jvm.Kit.i64_neg (by omega)]; omega
/-- what getChars leaves: the signs of x, ending at idx -/
theorem own_put {x : Int64} {vs us : List Value} {idx : Nat} (hl : us.length = vs.length) (hi : idx ≤ vs.length) (hr : (own_sl x).length ≤ idx)
    (h1 : ∀ i, i < Jvm.Free.SBG.digitsL x.toInt.natAbs → us[idx - 1 - i]? = some (.int (Int32.ofNat (48 + x.toInt.natAbs / 10 ^ i % 10))))
    (h2 : x < 0 → us[idx - Jvm.Free.SBG.digitsL x.toInt.natAbs - 1]? = some (.int 45)) (h3 : ∀ j, j < idx - (own_sl x).length ∨ idx ≤ j → us[j]? = vs[j]?) :
    us = vs.take (idx - (own_sl x).length) ++ own_cv (own_sl x) ++ vs.drop idx := by
  have hsl := own_sl_len x
  have hd := Jvm.Free.SBG.digitsL_pos x.toInt.natAbs
  apply List.ext_getElem?
  intro j
  have lt : (vs.take (idx - (own_sl x).length)).length = idx - (own_sl x).length := by rw [List.length_take]; omega
  rcases Nat.lt_or_ge j (idx - (own_sl x).length) with q | q
  · rw [h3 j (Or.inl q), List.append_assoc, List.getElem?_append_left (by omega), List.getElem?_take_of_lt q]
  · rcases Nat.lt_or_ge j idx with r | r
    · rw [List.append_assoc, List.getElem?_append_right (by omega), lt, List.getElem?_append_left (by rw [own_cv_len]; omega)]
      unfold own_cv; rw [List.getElem?_map]
      generalize hq : (own_sl x).length = sz at *
      by_cases hx : x < 0
      · have hs : Jvm.Free.SBG.GetCharsL.sgnL x = 1 := by unfold Jvm.Free.SBG.GetCharsL.sgnL; rw [if_pos hx]
        unfold own_sl; rw [if_pos hx]
        rcases Nat.eq_or_lt_of_le q with e | e
        · rw [← e, show idx - sz - (idx - sz) = 0 from Nat.sub_self _]
          have := h2 hx
          rw [show idx - Jvm.Free.SBG.digitsL x.toInt.natAbs - 1 = idx - sz from by omega] at this
          rw [this]; rfl
        · have k : j - (idx - sz) = (j - (idx - sz) - 1) + 1 := by omega
          rw [k]
          show _ = Option.map Value.int ((own_dl x.toInt.natAbs (Jvm.Free.SBG.digitsL x.toInt.natAbs))[j - (idx - sz) - 1]?)
          rw [own_dl_get (by omega)]
          have := h1 (idx - 1 - j) (by omega)
          rw [show idx - 1 - (idx - 1 - j) = j from by omega] at this
          rw [this, show Jvm.Free.SBG.digitsL x.toInt.natAbs - 1 - (j - (idx - sz) - 1) = idx - 1 - j from by omega]; rfl
      · have hs : Jvm.Free.SBG.GetCharsL.sgnL x = 0 := by unfold Jvm.Free.SBG.GetCharsL.sgnL; rw [if_neg hx]
        unfold own_sl; rw [if_neg hx]
        show _ = Option.map Value.int ((own_dl x.toInt.natAbs (Jvm.Free.SBG.digitsL x.toInt.natAbs))[j - (idx - sz)]?)
        rw [own_dl_get (by omega)]
        have := h1 (idx - 1 - j) (by omega)
        rw [show idx - 1 - (idx - 1 - j) = j from by omega] at this
        rw [this, show Jvm.Free.SBG.digitsL x.toInt.natAbs - 1 - (j - (idx - sz)) = idx - 1 - j from by omega]; rfl
    · rw [h3 j (Or.inr r), List.getElem?_append_right (by rw [List.length_append, lt, own_cv_len]; omega), List.getElem?_drop]
      congr 1
      rw [List.length_append, lt, own_cv_len]; omega
theorem own_wN1 : ∀ (f n : Nat), n < 100 ^ (f + 1) → Jvm.Free.SBG.wN (f + 2) n = Jvm.Free.SBG.wN (f + 1) n := by
  intro f
  induction f with
  | zero => intro n h; simp only [Jvm.Free.SBG.wN, if_neg (show ¬ 100 ≤ n by have e : 100 ^ (0 + 1) = 100 := by decide
                                                                             omega)]
  | succ f ih =>
    intro n h
    by_cases q : 100 ≤ n
    · have e1 : Jvm.Free.SBG.wN (f + 1 + 2) n = 2 + Jvm.Free.SBG.wN (f + 2) (n / 100) := if_pos q
      have e2 : Jvm.Free.SBG.wN (f + 1 + 1) n = 2 + Jvm.Free.SBG.wN (f + 1) (n / 100) := if_pos q
      rw [e1, e2, ih (n / 100) (Nat.div_lt_of_lt_mul (by rw [Nat.pow_succ, Nat.mul_comm] at h; exact h))]
    · have e1 : Jvm.Free.SBG.wN (f + 1 + 2) n = if 9 < n then 2 else 1 := if_neg q
      have e2 : Jvm.Free.SBG.wN (f + 1 + 1) n = if 9 < n then 2 else 1 := if_neg q
      rw [e1, e2]
theorem own_digI {n : Nat} (h : n ≤ 2 ^ 31) : Jvm.Free.SBG.digitsL n = Jvm.Free.SBG.digits n := by
  have e5 : (100 : Nat) ^ 5 = 10000000000 := by decide
  have e6 : (100 : Nat) ^ 6 = 1000000000000 := by decide
  have e7 : (100 : Nat) ^ 7 = 100000000000000 := by decide
  have e8 : (100 : Nat) ^ 8 = 10000000000000000 := by decide
  have e9 : (100 : Nat) ^ 9 = 1000000000000000000 := by decide
  rw [← Jvm.Free.SBG.wN_digits h]
  show Jvm.Free.SBG.wN 10 n = _
  rw [own_wN1 8 n (by omega), own_wN1 7 n (by omega), own_wN1 6 n (by omega), own_wN1 5 n (by omega), own_wN1 4 n (by omega)]
theorem own_ltI {x : Int32} : x.toInt64 < 0 ↔ x < 0 := by
  rw [Int64.lt_iff_toInt_lt, Int32.lt_iff_toInt_lt, Jvm.Kit.i64_of_i32]
  have e0 : (0 : Int64).toInt = 0 := by decide
  have e1 : (0 : Int32).toInt = 0 := by decide
  rw [e0, e1]
theorem own_negI (x : Int32) : x.toInt.natAbs ≤ 2 ^ 31 ∧ (if x < 0 then x else -x) = Jvm.Free.SBG.negI x.toInt.natAbs := by
  have a := x.toInt_lt; have b := x.le_toInt
  have hb : x.toInt.natAbs ≤ 2 ^ 31 := by omega
  refine ⟨hb, ?_⟩
  apply Int32.toInt_inj.mp
  have en : (Jvm.Free.SBG.negI x.toInt.natAbs).toInt = -((x.toInt.natAbs : Nat) : Int) := Int32.toInt_ofInt_of_le (by omega) (by omega)
  rw [en]
  have e0 : (0 : Int32).toInt = 0 := by decide
  by_cases h : x < 0
  · rw [if_pos h]; rw [Int32.lt_iff_toInt_lt, e0] at h; omega
  · rw [if_neg h]; rw [Int32.lt_iff_toInt_lt, e0] at h
    rw [Jvm.Kit.i32_neg (by omega)]; omega
theorem own_sl_lenI (x : Int32) : (own_sl x.toInt64).length = Jvm.Free.SBG.digits x.toInt.natAbs + Jvm.Free.SBG.GetChars.sgn x := by
  rw [own_sl_len, Jvm.Kit.i64_of_i32, own_digI (own_negI x).1]
  unfold Jvm.Free.SBG.GetCharsL.sgnL Jvm.Free.SBG.GetChars.sgn
  by_cases h : x < 0
  · rw [if_pos h, if_pos (own_ltI.mpr h)]
  · rw [if_neg h, if_neg (fun q => h (own_ltI.mp q))]
section OwnGC
variable {p : Program} {l : Launch} {e : Env} {R : Room} {s : State} {m : MethodId} {args : Array Value} {below : List Frame} {meth : Method} {c : Code} {T : State} {locs : List Loc} {cells slots : Nat} {Z : State} {h h' : Heap} {a : Addr} {k : ClassId} {vs : List Value} {a0 : Array Value}
/-- the two tables of digits, as they stood at the start -/
def own_DT (Z : State) : Prop := ∃ (st d1 d2 : Addr) (D1 D2 : Cell), Jvm.Free.SBG.Tbl Z "DigitOnes" st d1 D1 ∧ Jvm.Free.SBG.Tbl Z "DigitTens" st d2 D2 ∧ Jvm.Free.SBG.Ones D1 ∧ Jvm.Free.SBG.Tens D2
theorem own_tbl {n : String} {st d : Addr} {D : Cell} (t : Jvm.Free.SBG.Tbl Z n st d D) : st < Z.heap.size ∧ d < Z.heap.size ∧ Z.heap[d]? = some D := by
  obtain ⟨cf, i, k, f, cS, h1, h2, h3, h4, h5, h6, h7, h8, -⟩ := t
  exact ⟨(Array.getElem?_eq_some_iff.mp h5).1, (Array.getElem?_eq_some_iff.mp h8).1, h8⟩
theorem own_ssL (X : Stand p l e R s m args below meth c T locs cells slots) (hx : p.tables.exec = Jvm.exec) (hZ : Z.Warmed39 s.vm) {own : String} {index : Nat} (hown : s.vm.findClass own = some m.cls)
    (w1 : (Cond.methodLink own index Jvm.Free.SBG.StrSizeL.ssN).before a0 Z = true) (w2 : (Cond.static Jvm.Free.SBG.StrSizeL.ssN).before a0 Z = true) (w3 : (Cond.initialized "java/lang/Long").before a0 Z = true)
    {bytes : ByteArray} (wb : bytes = Jvm.Free.SBG.StrSizeL.ssB) (w4 : (Cond.code Jvm.Free.SBG.StrSizeL.ssN bytes 6 (some .int)).before a0 Z = true) (w5 : (Cond.constantLong "java/lang/Long" 140 (-10)).before a0 Z = true) (w6 : (Cond.constantLong "java/lang/Long" 53 10).before a0 Z = true)
    (eT : T.heap = h) {x : Int64} {g : JFrame} (hg : g.method = m) (hsize : g.locals.size = c.maxLocals) {rest : List Value} (hs : g.stack = .long x :: rest) (hd : decode c.code g.pc = .ok (.invokestatic index, 3))
    (hc : cells ≤ R.cells) (hsl : slots ≤ R.slots) (hf : 2 ≤ R.frames) {W : Nat} (hW : 2 * g.monitorRoom + (rest.map fun v => v.category).sum ≤ W) (hlo : W + 57 ≤ R.locals) :
    ∃ T', Stand p l e R s m args below meth c T' locs cells slots ∧ T'.heap = h ∧ ∀ target, Steps p.tables e below (T'.setTop { g with pc := g.pc + 3, stack := .int (Int32.ofNat (own_sl x).length) :: rest }) target → Steps p.tables e below (T.setTop g) target := by
  subst wb
  have htab : Jvm.Free.SBG.StrSizeL.tab.before args s = true := by
    simp only [Jvm.Free.SBG.StrSizeL.tab, Cond.before_and, Bool.and_eq_true]
    exact ⟨mvT hZ w4, mvT hZ w5, mvT hZ w6⟩
  obtain ⟨v, vm1, ⟨T1, L1, k1, n1⟩, hw1, X1, ⟨⟨u1, u2, u3, u4⟩, hv⟩, st⟩ := Jvm.LawKit.callS X hx (y := Jvm.Free.SBG.StrSizeL.ssN) hown (mvT hZ w1) (mvT hZ w2) (mvT hZ w3) (mvT hZ w4) (by decide)
    (Jvm.Free.SBG.StrSizeL.pays (W := W) hf hlo htab (mvT hZ w3)) (g := g) hg hsize (argsL := [.long x]) (rest := rest) (fun sig h => by rw [show parseMethodDescriptor Jvm.Free.SBG.StrSizeL.ssN.desc = some ⟨[.long], some .int⟩ from by decide +kernel] at h; rw [← Option.some.inj h]; rfl) hs hW hd
    (fun vm₁ hv => ⟨hc, hsl, x, rfl⟩)
  have e1 := hv x rfl
  have e2 : Jvm.Free.SBG.strSizeOfL x = Int32.ofNat (own_sl x).length := by rw [Jvm.Free.SBG.strSizeOfL_eq (own_neg x).1 (own_neg x).2, own_sl_len]
  rw [e2] at e1; subst e1
  dsimp only [Pt.U, Pt.locs, Pt.cells, Pt.slots] at X1 u1 u2 u3 u4 st
  subst u2 u3 u4
  exact ⟨T1, X1, u1.trans eT, st⟩
theorem own_gcL (X : Stand p l e R s m args below meth c T locs cells slots) (hx : p.tables.exec = Jvm.exec) (hZ : Z.Warmed39 s.vm) {own : String} {index : Nat} (hown : s.vm.findClass own = some m.cls)
    (w1 : (Cond.methodLink own index Jvm.Free.SBG.GetCharsL.gcN).before a0 Z = true) (w2 : (Cond.static Jvm.Free.SBG.GetCharsL.gcN).before a0 Z = true) (w3 : (Cond.initialized "java/lang/Long").before a0 Z = true)
    {bytes : ByteArray} (wb : bytes = Jvm.Free.SBG.GetCharsL.gcB) (w4 : (Cond.code Jvm.Free.SBG.GetCharsL.gcN bytes 11 (some .int)).before a0 Z = true) (w5 : (Cond.fieldLink "java/lang/Long" 133 "java/lang/Integer" "DigitOnes" "[B").before a0 Z = true) (w6 : (Cond.fieldLink "java/lang/Long" 137 "java/lang/Integer" "DigitTens" "[B").before a0 Z = true) (w7 : (Cond.constantLong "java/lang/Long" 129 (-2147483648)).before a0 Z = true) (w8 : (Cond.constantLong "java/lang/Long" 131 100).before a0 Z = true)
    (DT : own_DT Z) (O : Ext Z.heap h) (eT : T.heap = h) (F : own_A Z h a k .byte vs) (fr : Z.heap.size ≤ a) {x : Int64} {idx : Nat} (hidx : idx ≤ vs.length) (hroom : (own_sl x).length ≤ idx) (N : Fr Z.heap.size locs)
    {g : JFrame} (hg : g.method = m) (hsize : g.locals.size = c.maxLocals) {rest : List Value} (hs : g.stack = .ref a :: .int (Int32.ofNat idx) :: .long x :: rest) (hd : decode c.code g.pc = .ok (.invokestatic index, 3))
    (hc : cells ≤ R.cells) (hsl : slots ≤ R.slots) (hf : 2 ≤ R.frames) {W : Nat} (hW : 2 * g.monitorRoom + (rest.map fun v => v.category).sum ≤ W) (hlo : W + 102 ≤ R.locals) :
    ∃ T' h' L r, Stand p l e R s m args below meth c T' L cells slots ∧ T'.heap = h' ∧ Fr Z.heap.size L ∧ Keep h h' [a] ∧ own_A Z h' a k .byte (vs.take (idx - (own_sl x).length) ++ own_cv (own_sl x) ++ vs.drop idx) ∧
      ∀ target, Steps p.tables e below (T'.setTop { g with pc := g.pc + 3, stack := .int r :: rest }) target → Steps p.tables e below (T.setTop g) target := by
  subst wb
  obtain ⟨st, d1, d2, D1, D2, t1, t2, o1, o2⟩ := DT
  obtain ⟨s1, s2, s3⟩ := own_tbl t1
  obtain ⟨-, s4, s5⟩ := own_tbl t2
  obtain ⟨cl, A, r1, r2, r3, r4⟩ := F
  have hsz : cl.slots.size = vs.length := by rw [← r2]; simp
  have hby : ∀ i, i < cl.slots.size → fits .byte (cl.slots.getD i .null) = true := fun i hi => by
    have q : cl.slots.getD i .null ∈ vs := by
      rw [← r2, Array.getD_eq_getD_getElem?, Array.getElem?_eq_getElem hi]; exact Array.mem_toList_iff.mpr (Array.getElem_mem hi)
    exact r4 _ q
  have hroom' := hroom
  rw [own_sl_len] at hroom'
  have htab : Jvm.Free.SBG.GetCharsL.tab.before args s = true := by
    simp only [Jvm.Free.SBG.GetCharsL.tab, Cond.before_and, Bool.and_eq_true]
    exact ⟨mvT hZ w4, mvT hZ w5, mvT hZ w6, mvT hZ w7, mvT hZ w8⟩
  have G0 : ∃ G : Jvm.Free.SBG.GetCharsL.G, G = ⟨x, x.toInt.natAbs, idx, a, cl, st, d1, D1, d2, D2⟩ := ⟨_, rfl⟩
  obtain ⟨G, hG⟩ := G0
  obtain ⟨v, vm1, ⟨T1, L1, k1, n1⟩, hw1, X1, ⟨p1, p2, p3, p4, p5, p6, L', p7, p8⟩, stp⟩ := Jvm.LawKit.callS X hx (y := Jvm.Free.SBG.GetCharsL.gcN) hown (mvT hZ w1) (mvT hZ w2) (mvT hZ w3) (mvT hZ w4) (by decide)
    (Jvm.Free.SBG.GetCharsL.pays G W htab (mvT hZ w3) hf hlo) (g := g) hg hsize (argsL := [.long x, .int (Int32.ofNat idx), .ref a]) (rest := rest) (fun sig h => by rw [show parseMethodDescriptor Jvm.Free.SBG.GetCharsL.gcN.desc = some ⟨[.long, .int, .array .byte], some .int⟩ from by decide +kernel] at h; rw [← Option.some.inj h]; rfl) hs hW hd
    (fun vm₁ hv => by
      subst hG
      have hal : Z.vm.Alike vm₁ := (State.Warmed39.trans hZ hv.wide).alike
      have hh : (T.setVm vm₁).heap = h := eT
      refine ⟨rfl, hc, hsl, rfl, ?_, State.isArrayOf_alike (T := T.setVm vm₁) hal A.2.1, A.2.2, by show cl.slots.size < _; omega, by show idx ≤ cl.slots.size; omega, hroom', (own_neg x).1, (own_neg x).2, t1.move hal (fun c q => ?_) ?_, t2.move hal (fun c q => ?_) ?_, ?_, ?_, ?_⟩
      · show (T.setVm vm₁).heap[a]? = some cl; rw [hh]; exact A.1
      · rw [hh]; exact O.2 _ _ q
      · rw [hh]; exact O.2 _ _ s3
      · rw [hh]; exact O.2 _ _ q
      · rw [hh]; exact O.2 _ _ s5
      · show a ≠ st; exact Nat.ne_of_gt (Nat.lt_of_lt_of_le s1 fr)
      · show a ≠ d1; exact Nat.ne_of_gt (Nat.lt_of_lt_of_le s2 fr)
      · show a ≠ d2; exact Nat.ne_of_gt (Nat.lt_of_lt_of_le s4 fr))
  have OF := Jvm.Free.SBG.GetCharsL.outCell_facts G (by subst hG; exact (own_neg x).1) (by subst hG; exact hroom') (by subst hG; exact hby)
  have AT : (∀ i, i < Jvm.Free.SBG.digitsL x.toInt.natAbs → (Jvm.Free.SBG.GetCharsL.outCell G).slots[idx - 1 - i]? = some (.int (Int32.ofNat (48 + x.toInt.natAbs / 10 ^ i % 10)))) ∧ (x < 0 → (Jvm.Free.SBG.GetCharsL.outCell G).slots[idx - Jvm.Free.SBG.digitsL x.toInt.natAbs - 1]? = some (.int 45)) := by
    subst hG
    have e20 : (100 : Nat) ^ 10 = 100000000000000000000 := by decide
    have n20 : x.toInt.natAbs < 100 ^ 10 := by have := (own_neg x).1; omega
    obtain ⟨hA, hB⟩ := Jvm.Free.SBG.digLoop_at o1 o2 10 cl x.toInt.natAbs idx n20 (by show Jvm.Free.SBG.digitsL _ ≤ _; omega) (by omega)
    obtain ⟨-, -, hz, hp⟩ := Jvm.Free.SBG.digLoop_facts D1 D2 10 cl x.toInt.natAbs idx
    have hw : Jvm.Free.SBG.wN 10 x.toInt.natAbs = Jvm.Free.SBG.digitsL x.toInt.natAbs := rfl
    rw [hw] at hA hB hp
    by_cases hx0 : x < 0
    · have hs1 : Jvm.Free.SBG.GetCharsL.sgnL x = 1 := by unfold Jvm.Free.SBG.GetCharsL.sgnL; rw [if_pos hx0]
      have eo : Jvm.Free.SBG.GetCharsL.outCell ⟨x, x.toInt.natAbs, idx, a, cl, st, d1, D1, d2, D2⟩ = Jvm.Free.SBG.put (Jvm.Free.SBG.digLoop D1 D2 10 cl x.toInt.natAbs idx).1 (idx - Jvm.Free.SBG.digitsL x.toInt.natAbs - 1) 45 := by
        unfold Jvm.Free.SBG.GetCharsL.outCell; rw [if_pos hx0, hp]
      rw [eo]
      refine ⟨fun i hi => by rw [Jvm.Free.SBG.dgPutNe _ (by omega)]; exact hA i hi, fun _ => by rw [Jvm.Free.SBG.dgPutAt _ (by rw [hz]; omega)]; rfl⟩
    · have eo : Jvm.Free.SBG.GetCharsL.outCell ⟨x, x.toInt.natAbs, idx, a, cl, st, d1, D1, d2, D2⟩ = (Jvm.Free.SBG.digLoop D1 D2 10 cl x.toInt.natAbs idx).1 := by
        unfold Jvm.Free.SBG.GetCharsL.outCell; rw [if_neg hx0]
      rw [eo]
      exact ⟨hA, fun q => absurd q hx0⟩
  have ga : G.da = a := by rw [hG]
  have gA : G.A = cl := by rw [hG]
  have gi : G.idx = idx := by rw [hG]
  rw [ga] at p2 p6 p8
  rw [gA] at OF
  dsimp only [Pt.U, Pt.locs, Pt.cells, Pt.slots] at X1 p1 p2 p3 p4 p5 p6 p7 stp
  subst p1 p3 p4 p7
  have p6' : ∀ (y : Addr) (cy : Cell), y ≠ a → h[y]? = some cy → T1.heap[y]? = some cy := fun y cy q1 q2 => p6 y cy q1 (by show (T.setVm vm1).heap[y]? = _; rw [show (T.setVm vm1).heap = h from eT]; exact q2)
  have p5' : T1.heap.size = h.size := p5.trans (by show T.heap.size = _; rw [eT])
  refine ⟨T1, _, _, _, X1, rfl, N.app (fun w hw => by rw [p8 w hw]; exact fr), ⟨Nat.le_of_eq p5'.symm, fun y cy q1 q2 => p6' y cy (fun e => q2 (by rw [e]; exact List.mem_singleton.mpr rfl)) q1, fun y cy q1 => ?_⟩, ?_, stp⟩
  · by_cases ey : y = a
    · subst ey
      cases A.1.symm.trans q1
      exact ⟨_, p2, OF.1, OF.2.1, OF.2.2.1⟩
    · exact ⟨cy, p6' y cy ey q1, rfl, rfl, rfl⟩
  · have hlen : (Jvm.Free.SBG.GetCharsL.outCell G).slots.toList.length = vs.length := by rw [Array.length_toList, OF.2.2.1, hsz]
    have hput := own_put (x := x) (vs := vs) (us := (Jvm.Free.SBG.GetCharsL.outCell G).slots.toList) (idx := idx) hlen hidx hroom
      (fun i hi => by rw [Array.getElem?_toList]; exact AT.1 i hi) (fun q => by rw [Array.getElem?_toList]; exact AT.2 q)
      (fun j hj => by
        rw [Array.getElem?_toList, ← r2, Array.getElem?_toList]
        refine OF.2.2.2.2 j ?_
        rw [gi]; subst hG; show j < idx - (Jvm.Free.SBG.digitsL x.toInt.natAbs + Jvm.Free.SBG.GetCharsL.sgnL x) ∨ _
        rw [own_sl_len] at hj; exact hj)
    rw [← hput]
    refine ⟨_, ⟨p2, ?_, by rw [OF.2.1]; exact A.2.2⟩, by rw [OF.1]; exact r1, rfl, by rw [hlen]; exact r3, fun u hu => ?_⟩
    · obtain ⟨q1, kk, q2, q3⟩ := A.2.1
      exact ⟨by rw [OF.2.1]; exact q1, kk, by rw [OF.1]; exact q2, q3⟩
    · obtain ⟨i, hi, rfl⟩ := List.getElem_of_mem hu
      have hi' : i < (Jvm.Free.SBG.GetCharsL.outCell G).slots.size := by simpa using hi
      have := OF.2.2.2.1 i hi'
      rwa [Array.getD_eq_getD_getElem?, Array.getElem?_eq_getElem hi'] at this
theorem own_ssI (X : Stand p l e R s m args below meth c T locs cells slots) (hx : p.tables.exec = Jvm.exec) (hZ : Z.Warmed39 s.vm) {own : String} {index : Nat} (hown : s.vm.findClass own = some m.cls)
    (w1 : (Cond.methodLink own index Jvm.Free.SBG.StrSize.ssN).before a0 Z = true) (w2 : (Cond.static Jvm.Free.SBG.StrSize.ssN).before a0 Z = true) (w3 : (Cond.initialized "java/lang/Integer").before a0 Z = true)
    {bytes : ByteArray} (wb : bytes = Jvm.Free.SBG.StrSize.ssB) (w4 : (Cond.code Jvm.Free.SBG.StrSize.ssN bytes 4 (some .int)).before a0 Z = true)
    (eT : T.heap = h) {x : Int32} {g : JFrame} (hg : g.method = m) (hsize : g.locals.size = c.maxLocals) {rest : List Value} (hs : g.stack = .int x :: rest) (hd : decode c.code g.pc = .ok (.invokestatic index, 3))
    (hc : cells ≤ R.cells) (hsl : slots ≤ R.slots) (hf : 2 ≤ R.frames) {W : Nat} (hW : 2 * g.monitorRoom + (rest.map fun v => v.category).sum ≤ W) (hlo : W + 55 ≤ R.locals) :
    ∃ T', Stand p l e R s m args below meth c T' locs cells slots ∧ T'.heap = h ∧ ∀ target, Steps p.tables e below (T'.setTop { g with pc := g.pc + 3, stack := .int (Int32.ofNat (own_sl x.toInt64).length) :: rest }) target → Steps p.tables e below (T.setTop g) target := by
  subst wb
  have htab : Jvm.Free.SBG.StrSize.tab.before args s = true := mvT hZ w4
  obtain ⟨v, vm1, ⟨T1, L1, k1, n1⟩, hw1, X1, ⟨⟨u1, u2, u3, u4⟩, hv⟩, st⟩ := Jvm.LawKit.callS X hx (y := Jvm.Free.SBG.StrSize.ssN) hown (mvT hZ w1) (mvT hZ w2) (mvT hZ w3) (mvT hZ w4) (by decide)
    (Jvm.Free.SBG.StrSize.pays (W := W) hf hlo htab (mvT hZ w3)) (g := g) hg hsize (argsL := [.int x]) (rest := rest) (fun sig h => by rw [show parseMethodDescriptor Jvm.Free.SBG.StrSize.ssN.desc = some ⟨[.int], some .int⟩ from by decide +kernel] at h; rw [← Option.some.inj h]; rfl) hs hW hd
    (fun vm₁ hv => ⟨hc, hsl, x, rfl⟩)
  have e1 := hv x rfl
  have e2 : Jvm.Free.SBG.strSizeOf x = Int32.ofNat (own_sl x.toInt64).length := by rw [Jvm.Free.SBG.strSizeOf_eq (own_negI x).1 (own_negI x).2, own_sl_lenI]
  rw [e2] at e1; subst e1
  dsimp only [Pt.U, Pt.locs, Pt.cells, Pt.slots] at X1 u1 u2 u3 u4 st
  subst u2 u3 u4
  exact ⟨T1, X1, u1.trans eT, st⟩
theorem own_gcI (X : Stand p l e R s m args below meth c T locs cells slots) (hx : p.tables.exec = Jvm.exec) (hZ : Z.Warmed39 s.vm) {own : String} {index : Nat} (hown : s.vm.findClass own = some m.cls)
    (w1 : (Cond.methodLink own index Jvm.Free.SBG.GetChars.gcN).before a0 Z = true) (w2 : (Cond.static Jvm.Free.SBG.GetChars.gcN).before a0 Z = true) (w3 : (Cond.initialized "java/lang/Integer").before a0 Z = true)
    {bytes : ByteArray} (wb : bytes = Jvm.Free.SBG.GetChars.gcB) (w4 : (Cond.code Jvm.Free.SBG.GetChars.gcN bytes 7 (some .int)).before a0 Z = true) (w5 : (Cond.fieldLink "java/lang/Integer" 83 "java/lang/Integer" "DigitOnes" "[B").before a0 Z = true) (w6 : (Cond.fieldLink "java/lang/Integer" 87 "java/lang/Integer" "DigitTens" "[B").before a0 Z = true)
    (DT : own_DT Z) (O : Ext Z.heap h) (eT : T.heap = h) (F : own_A Z h a k .byte vs) (fr : Z.heap.size ≤ a) {x : Int32} {idx : Nat} (hidx : idx ≤ vs.length) (hroom : (own_sl x.toInt64).length ≤ idx) (N : Fr Z.heap.size locs)
    {g : JFrame} (hg : g.method = m) (hsize : g.locals.size = c.maxLocals) {rest : List Value} (hs : g.stack = .ref a :: .int (Int32.ofNat idx) :: .int x :: rest) (hd : decode c.code g.pc = .ok (.invokestatic index, 3))
    (hc : cells ≤ R.cells) (hsl : slots ≤ R.slots) (hf : 2 ≤ R.frames) {W : Nat} (hW : 2 * g.monitorRoom + (rest.map fun v => v.category).sum ≤ W) (hlo : W + 78 ≤ R.locals) :
    ∃ T' h' L r, Stand p l e R s m args below meth c T' L cells slots ∧ T'.heap = h' ∧ Fr Z.heap.size L ∧ Keep h h' [a] ∧ own_A Z h' a k .byte (vs.take (idx - (own_sl x.toInt64).length) ++ own_cv (own_sl x.toInt64) ++ vs.drop idx) ∧
      ∀ target, Steps p.tables e below (T'.setTop { g with pc := g.pc + 3, stack := .int r :: rest }) target → Steps p.tables e below (T.setTop g) target := by
  subst wb
  obtain ⟨st, d1, d2, D1, D2, t1, t2, o1, o2⟩ := DT
  obtain ⟨s1, s2, s3⟩ := own_tbl t1
  obtain ⟨-, s4, s5⟩ := own_tbl t2
  obtain ⟨cl, A, r1, r2, r3, r4⟩ := F
  have hsz : cl.slots.size = vs.length := by rw [← r2]; simp
  have hby : ∀ i, i < cl.slots.size → fits .byte (cl.slots.getD i .null) = true := fun i hi => by
    have q : cl.slots.getD i .null ∈ vs := by
      rw [← r2, Array.getD_eq_getD_getElem?, Array.getElem?_eq_getElem hi]; exact Array.mem_toList_iff.mpr (Array.getElem_mem hi)
    exact r4 _ q
  have hroom' := hroom
  rw [own_sl_lenI] at hroom'
  have htab : Jvm.Free.SBG.GetChars.tab.before args s = true := by
    simp only [Jvm.Free.SBG.GetChars.tab, Cond.before_and, Bool.and_eq_true]
    exact ⟨mvT hZ w4, mvT hZ w5, mvT hZ w6⟩
  have G0 : ∃ G : Jvm.Free.SBG.GetChars.G, G = ⟨x, x.toInt.natAbs, idx, a, cl, st, d1, D1, d2, D2⟩ := ⟨_, rfl⟩
  obtain ⟨G, hG⟩ := G0
  obtain ⟨v, vm1, ⟨T1, L1, k1, n1⟩, hw1, X1, ⟨p1, p2, p3, p4, p5, p6, L', p7, p8⟩, stp⟩ := Jvm.LawKit.callS X hx (y := Jvm.Free.SBG.GetChars.gcN) hown (mvT hZ w1) (mvT hZ w2) (mvT hZ w3) (mvT hZ w4) (by decide)
    (Jvm.Free.SBG.GetChars.pays G W htab (mvT hZ w3) hf hlo) (g := g) hg hsize (argsL := [.int x, .int (Int32.ofNat idx), .ref a]) (rest := rest) (fun sig h => by rw [show parseMethodDescriptor Jvm.Free.SBG.GetChars.gcN.desc = some ⟨[.int, .int, .array .byte], some .int⟩ from by decide +kernel] at h; rw [← Option.some.inj h]; rfl) hs hW hd
    (fun vm₁ hv => by
      subst hG
      have hal : Z.vm.Alike vm₁ := (State.Warmed39.trans hZ hv.wide).alike
      have hh : (T.setVm vm₁).heap = h := eT
      refine ⟨rfl, hc, hsl, rfl, ?_, State.isArrayOf_alike (T := T.setVm vm₁) hal A.2.1, A.2.2, by show cl.slots.size < _; omega, by show idx ≤ cl.slots.size; omega, hroom', (own_negI x).1, (own_negI x).2, t1.move hal (fun c q => ?_) ?_, t2.move hal (fun c q => ?_) ?_, ?_, ?_, ?_⟩
      · show (T.setVm vm₁).heap[a]? = some cl; rw [hh]; exact A.1
      · rw [hh]; exact O.2 _ _ q
      · rw [hh]; exact O.2 _ _ s3
      · rw [hh]; exact O.2 _ _ q
      · rw [hh]; exact O.2 _ _ s5
      · show a ≠ st; exact Nat.ne_of_gt (Nat.lt_of_lt_of_le s1 fr)
      · show a ≠ d1; exact Nat.ne_of_gt (Nat.lt_of_lt_of_le s2 fr)
      · show a ≠ d2; exact Nat.ne_of_gt (Nat.lt_of_lt_of_le s4 fr))
  have OF := Jvm.Free.SBG.GetChars.outCell_facts G (by subst hG; exact (own_negI x).1) (by subst hG; exact hroom') (by subst hG; exact hby)
  have AT : (∀ i, i < Jvm.Free.SBG.digitsL x.toInt64.toInt.natAbs → (Jvm.Free.SBG.GetChars.outCell G).slots[idx - 1 - i]? = some (.int (Int32.ofNat (48 + x.toInt64.toInt.natAbs / 10 ^ i % 10)))) ∧ (x.toInt64 < 0 → (Jvm.Free.SBG.GetChars.outCell G).slots[idx - Jvm.Free.SBG.digitsL x.toInt64.toInt.natAbs - 1]? = some (.int 45)) := by
    have q := Jvm.Free.SBG.outCell_at G (by subst hG; exact o1) (by subst hG; exact o2) (by subst hG; exact (own_negI x).1) (by subst hG; exact hroom') (by subst hG; show idx ≤ cl.slots.size; omega)
    subst hG
    rw [Jvm.Kit.i64_of_i32, own_digI (own_negI x).1]
    exact ⟨q.1, fun hx0 => q.2.1 (own_ltI.mp hx0)⟩
  have ga : G.da = a := by rw [hG]
  have gA : G.A = cl := by rw [hG]
  have gi : G.idx = idx := by rw [hG]
  rw [ga] at p2 p6 p8
  rw [gA] at OF
  dsimp only [Pt.U, Pt.locs, Pt.cells, Pt.slots] at X1 p1 p2 p3 p4 p5 p6 p7 stp
  subst p1 p3 p4 p7
  have p6' : ∀ (y : Addr) (cy : Cell), y ≠ a → h[y]? = some cy → T1.heap[y]? = some cy := fun y cy q1 q2 => p6 y cy q1 (by show (T.setVm vm1).heap[y]? = _; rw [show (T.setVm vm1).heap = h from eT]; exact q2)
  have p5' : T1.heap.size = h.size := p5.trans (by show T.heap.size = _; rw [eT])
  refine ⟨T1, _, _, _, X1, rfl, N.app (fun w hw => by rw [p8 w hw]; exact fr), ⟨Nat.le_of_eq p5'.symm, fun y cy q1 q2 => p6' y cy (fun e => q2 (by rw [e]; exact List.mem_singleton.mpr rfl)) q1, fun y cy q1 => ?_⟩, ?_, stp⟩
  · by_cases ey : y = a
    · subst ey
      cases A.1.symm.trans q1
      exact ⟨_, p2, OF.1, OF.2.1, OF.2.2.1⟩
    · exact ⟨cy, p6' y cy ey q1, rfl, rfl, rfl⟩
  · have hlen : (Jvm.Free.SBG.GetChars.outCell G).slots.toList.length = vs.length := by rw [Array.length_toList, OF.2.2.1, hsz]
    have hput := own_put (x := x.toInt64) (vs := vs) (us := (Jvm.Free.SBG.GetChars.outCell G).slots.toList) (idx := idx) hlen hidx hroom
      (fun i hi => by rw [Array.getElem?_toList]; exact AT.1 i hi) (fun q => by rw [Array.getElem?_toList]; exact AT.2 q)
      (fun j hj => by
        rw [Array.getElem?_toList, ← r2, Array.getElem?_toList]
        refine OF.2.2.2.2 j ?_
        rw [gi]; subst hG; show j < idx - (Jvm.Free.SBG.digits x.toInt.natAbs + Jvm.Free.SBG.GetChars.sgn x) ∨ _
        rw [own_sl_lenI] at hj; exact hj)
    rw [← hput]
    refine ⟨_, ⟨p2, ?_, by rw [OF.2.1]; exact A.2.2⟩, by rw [OF.1]; exact r1, rfl, by rw [hlen]; exact r3, fun u hu => ?_⟩
    · obtain ⟨q1, kk, q2, q3⟩ := A.2.1
      exact ⟨by rw [OF.2.1]; exact q1, kk, by rw [OF.1]; exact q2, q3⟩
    · obtain ⟨i, hi, rfl⟩ := List.getElem_of_mem hu
      have hi' : i < (Jvm.Free.SBG.GetChars.outCell G).slots.size := by simpa using hi
      have := OF.2.2.2.1 i hi'
      rwa [Array.getD_eq_getD_getElem?, Array.getElem?_eq_getElem hi'] at this
end OwnGC


def own_max (x y : Int32) : Int32 := if x < y then y else x
def own_min (x y : Int32) : Int32 := if y < x then y else x
def own_ncap (c m : Nat) : Nat := c + max (m - c) (c + 2)
theorem own_shr0 (x : Int32) : x >>> ((0 : Int32) &&& 31) = x := by
  apply Int32.toInt_inj.mp
  rw [Jvm.Kit.i32_shr x _ (k := 0) (by decide)]; omega
theorem own_shl0 (x : Int32) : x <<< ((0 : Int32) &&& 31) = x := by
  have a := x.toInt_lt; have b := x.le_toInt
  apply Int32.toInt_inj.mp
  rw [Jvm.Kit.i32_shl x _ (k := 0) (by decide) (by omega) (by omega)]; omega
theorem own_sub0 (x : Int32) : x - (0 : Int32) = x := by simp
theorem own_ltN {x y : Int32} {i n : Nat} (hx : x.toInt = (i : Int)) (hy : y.toInt = (n : Int)) : x < y ↔ i < n := by rw [Int32.lt_iff_toInt_lt, hx, hy]; omega
theorem own_eqN {i n : Nat} (hi : i ≤ 1000) (hn : n ≤ 1000) : Int32.ofNat i = Int32.ofNat n ↔ i = n := by
  rw [← Int32.toInt_inj, own_ofN hi, own_ofN hn]; omega
theorem own_addN {i n : Nat} (h : i + n ≤ 1000) : Int32.ofNat i + Int32.ofNat n = Int32.ofNat (i + n) := by
  apply Int32.toInt_inj.mp
  rw [Jvm.Kit.i32_add (by rw [own_ofN (by omega), own_ofN (by omega)]; omega) (by rw [own_ofN (by omega), own_ofN (by omega)]; omega), own_ofN (by omega), own_ofN (by omega), own_ofN h]; omega
theorem own_subN {i n : Nat} (h : n ≤ i) (hi : i ≤ 1000) : Int32.ofNat i - Int32.ofNat n = Int32.ofNat (i - n) := by
  apply Int32.toInt_inj.mp
  rw [Jvm.Kit.i32_sub (by rw [own_ofN hi, own_ofN (by omega)]; omega) (by rw [own_ofN hi, own_ofN (by omega)]; omega), own_ofN hi, own_ofN (by omega), own_ofN (by omega)]; omega
theorem own_maxN {i n : Nat} (hi : i ≤ 1000) (hn : n ≤ 1000) : own_max (Int32.ofNat i) (Int32.ofNat n) = Int32.ofNat (max i n) := by
  unfold own_max
  by_cases h : Int32.ofNat i < Int32.ofNat n
  · rw [if_pos h]; rw [own_ltN (own_ofN hi) (own_ofN hn)] at h; congr 1; omega
  · rw [if_neg h]; rw [own_ltN (own_ofN hi) (own_ofN hn)] at h; congr 1; omega
theorem own_minN {i n : Nat} (hi : i ≤ 1000) (hn : n ≤ 1000) : own_min (Int32.ofNat i) (Int32.ofNat n) = Int32.ofNat (min i n) := by
  unfold own_min
  by_cases h : Int32.ofNat n < Int32.ofNat i
  · rw [if_pos h]; rw [own_ltN (own_ofN hn) (own_ofN hi)] at h; congr 1; omega
  · rw [if_neg h]; rw [own_ltN (own_ofN hn) (own_ofN hi)] at h; congr 1; omega
theorem own_ncE {c m : Nat} (h : c < m) (hm : m ≤ 120) : (Int32.ofNat c) + (own_max ((Int32.ofNat m) - (Int32.ofNat c)) ((Int32.ofNat c) + ((2 : Int32) <<< ((0 : Int32) &&& 31)))) = Int32.ofNat (own_ncap c m) := by
  have e2 : ((2 : Int32) <<< ((0 : Int32) &&& 31)) = Int32.ofNat 2 := by decide
  rw [e2, own_subN (by omega) (by omega), own_addN (by omega), own_maxN (by omega) (by omega), own_addN (by omega)]; rfl
theorem own_ncap_le {c m : Nat} (h : c < m) (hm : m ≤ 120) : m ≤ own_ncap c m ∧ own_ncap c m ≤ 242 := by unfold own_ncap; omega
theorem own_posN {n : Nat} (h : 1 ≤ n) (hn : n ≤ 1000) : (0 : Int32) < Int32.ofNat n := by
  rw [Int32.lt_iff_toInt_lt, own_ofN hn]
  have e : (0 : Int32).toInt = 0 := by decide
  omega
theorem own_smallN {n : Nat} (hn : n ≤ 1000) : ¬ (2147483639 : Int32) < Int32.ofNat n := by
  rw [Int32.lt_iff_toInt_lt, own_ofN hn]
  have e : (2147483639 : Int32).toInt = 2147483639 := by decide
  omega
theorem own_neMax {n : Nat} (hn : n ≤ 1000) : ¬ Int32.ofNat n = (2147483647 : Int32) := fun q => by
  have e := congrArg Int32.toInt q
  rw [own_ofN hn] at e
  have e' : (2147483647 : Int32).toInt = 2147483647 := by decide
  omega
theorem own_lenA {bs : List Int32} {tl : List Value} (h : bs.length + tl.length ≤ 1000) : (Int32.ofNat (bs.length + tl.length)).toInt = ((own_cv bs ++ tl).length : Int) := by rw [List.length_append, own_cv_len]; exact own_ofN h
theorem own_grow {x : Int32} {mn c : Nat} (hx : x = Int32.ofNat mn) (hm : mn ≤ 1000) (hc : c ≤ 1000) : (0 : Int32) < (x - (Int32.ofNat c)) ↔ c < mn := by
  subst hx
  have e : (0 : Int32).toInt = 0 := by decide
  rw [Int32.lt_iff_toInt_lt, Jvm.Kit.i32_sub (by rw [own_ofN hm, own_ofN hc]; omega) (by rw [own_ofN hm, own_ofN hc]; omega), own_ofN hm, own_ofN hc, e]; omega
theorem own_take_cv (bs : List Int32) (tl : List Value) : (own_cv bs ++ tl).take bs.length = own_cv bs := by rw [← own_cv_len bs, List.take_left]
theorem own_drop_cv (bs : List Int32) (tl : List Value) (k : Nat) : (own_cv bs ++ tl).drop (bs.length + k) = tl.drop k := by
  rw [← own_cv_len bs, ← List.drop_drop, List.drop_left]
theorem ef_own_mx (m : MethodId) (x0 : Int32) (x1 : Int32) : entryFrame m #[(.int x0), (.int x1)] 2 = mkF m 0 #[.val (.int x0), .val (.int x1)] [] := by first | (simp [entryFrame, mkF, argsToLocals, Value.category]; done) | rfl
theorem pf_own_mx : plainFor own_m0 = true := by decide +kernel
theorem d_jdk_29_method_65_code_0 : decode jdk_29_method_65_code 0 = .ok (.iload_n 0, 1) := by decide +kernel
theorem d_jdk_29_method_65_code_1 : decode jdk_29_method_65_code 1 = .ok (.iload_n 1, 1) := by decide +kernel
theorem d_jdk_29_method_65_code_10 : decode jdk_29_method_65_code 10 = .ok (.ireturn, 1) := by decide +kernel
theorem d_jdk_29_method_65_code_2 : decode jdk_29_method_65_code 2 = .ok (.if_icmp .lt 7, 3) := by decide +kernel
theorem d_jdk_29_method_65_code_5 : decode jdk_29_method_65_code 5 = .ok (.iload_n 0, 1) := by decide +kernel
theorem d_jdk_29_method_65_code_6 : decode jdk_29_method_65_code 6 = .ok (.goto 4, 3) := by decide +kernel
theorem d_jdk_29_method_65_code_9 : decode jdk_29_method_65_code 9 = .ok (.iload_n 1, 1) := by decide +kernel
def Q_own_mx (Z : State) (x : Int32) (y : Int32) (h0 : Heap) (v : Option Value) (h : Heap) (L : List Loc) : Prop := v = some (.int (own_max x y)) ∧ Fr Z.heap.size L ∧ h = h0
set_option maxRecDepth 65536 in
set_option maxHeartbeats 40000000 in
theorem own_mx (l : Launch) (Z : State) (a0 : Array Value) (hw : ∀ d ∈ tables_1, d.before a0 Z = true) (ws : List Jvm.Cond) (x : Int32) (y : Int32) (h0 : Heap) (O0 : Ext Z.heap h0) :
    MetFree l own_m0 (head1 (Jvm.Cond.code own_m0 jdk_29_method_65_code 2 (some .int) :: ws) ({ frames := 0, cells := 0, slots := 0, locals := 0 } : Room)) (fun aa U => aa = #[(.int x), (.int y)] ∧ Z.Warmed39 U.vm ∧ U.heap = h0) (fun _ _ _ _ _ => True) (fun _ U o U' => ∃ v L, o = .returned v ∧ Q_own_mx Z x y h0 v U'.heap L ∧ FrameEnd U o U' L ({ frames := 0, cells := 0, slots := 0, locals := 0 } : Room).cells ({ frames := 0, cells := 0, slots := 0, locals := 0 } : Room).slots) := by
  refine MetFree.of_bodySF pf_own_mx hisR ?_
  intro p e s m args below meth c s₁ Bd hml0 hP hK
  obtain ⟨rfl, hZ, hh⟩ := hP
  have hx := Bd.exec
  have hby := Bd.bytes
  have hlk := BodyLoose.notSynchronized Bd
  have hml : c.maxLocals = 2 := hml0
  have hown : s.vm.findClass "java/lang/Math" = some m.cls := findClass_of_methodNamed Bd.named
  have hnm := (name_of_methodNamed Bd.named Bd.method).1
  have X0 : Stand p l e ({ frames := 0, cells := 0, slots := 0, locals := 0 } : Room) s m #[(.int x), (.int y)] below meth c s₁ [] 0 0 := Stand.of_body Bd
  have e0 : s₁.heap = h0 := by rw [← hh, Bd.state]; rfl
  have N0 := Fr.nil Z.heap.size
  have K0 : Keep h0 h0 [] := Keep.refl _ _
  refine own_start (Q := Q_own_mx Z x y h0) (ef_own_mx m (x) (y)) ?_
  show own_G p e below (s₁.setTop (mkF m 0 #[.val (.int x), .val (.int y)] [])) _
  refine own_go (fun t k => XS.iloadN X0.here hx rfl (hb hby d_jdk_29_method_65_code_0) rfl k) ?_
  refine own_go (fun t k => XS.iloadN X0.here hx rfl (hb hby d_jdk_29_method_65_code_1) rfl k) ?_
  by_cases hc1z : x < y
  · refine own_go (fun t k => XS.icmpYes X0.here hx rfl (pc0 := 2) (pc' := 9) rfl (hb hby d_jdk_29_method_65_code_2) rfl (tlt hc1z).1 (by decide) (by decide) k) ?_
    show own_G p e below (s₁.setTop (mkF m 9 #[.val (.int x), .val (.int y)] [])) _
    refine own_go (fun t k => XS.iloadN X0.here hx rfl (hb hby d_jdk_29_method_65_code_9) rfl k) ?_
    exact own_ret X0 hx Bd.returns rfl (Or.inl ⟨rfl, Or.inl rfl, _, rfl⟩) (hb hby d_jdk_29_method_65_code_10) hlk (Nat.le_of_ble_eq_true rfl) (Nat.le_of_ble_eq_true rfl) (by show Q_own_mx Z x y h0 _ s₁.heap _; rw [e0]; exact ⟨(congrArg (fun z => some (Value.int z)) (show (own_max x y) = _ from (if_pos hc1z)).symm), N0, rfl⟩)
  · refine own_go (fun t k => XS.icmpNo X0.here hx rfl (hb hby d_jdk_29_method_65_code_2) rfl (flt hc1z).1 k) ?_
    show own_G p e below (s₁.setTop (mkF m 5 #[.val (.int x), .val (.int y)] [])) _
    refine own_go (fun t k => XS.iloadN X0.here hx rfl (hb hby d_jdk_29_method_65_code_5) rfl k) ?_
    refine own_go (fun t k => XS.goto X0.here hx rfl (pc0 := 6) (pc' := 10) rfl (hb hby d_jdk_29_method_65_code_6) (by decide) (by decide) k) ?_
    show own_G p e below (s₁.setTop (mkF m 10 #[.val (.int x), .val (.int y)] [(.int x)])) _
    exact own_ret X0 hx Bd.returns rfl (Or.inl ⟨rfl, Or.inl rfl, _, rfl⟩) (hb hby d_jdk_29_method_65_code_10) hlk (Nat.le_of_ble_eq_true rfl) (Nat.le_of_ble_eq_true rfl) (by show Q_own_mx Z x y h0 _ s₁.heap _; rw [e0]; exact ⟨(congrArg (fun z => some (Value.int z)) (show (own_max x y) = _ from (if_neg hc1z)).symm), N0, rfl⟩)
theorem ef_own_mi (m : MethodId) (x0 : Int32) (x1 : Int32) : entryFrame m #[(.int x0), (.int x1)] 2 = mkF m 0 #[.val (.int x0), .val (.int x1)] [] := by first | (simp [entryFrame, mkF, argsToLocals, Value.category]; done) | rfl
theorem pf_own_mi : plainFor own_m1 = true := by decide +kernel
theorem d_jdk_29_method_69_code_0 : decode jdk_29_method_69_code 0 = .ok (.iload_n 0, 1) := by decide +kernel
theorem d_jdk_29_method_69_code_1 : decode jdk_29_method_69_code 1 = .ok (.iload_n 1, 1) := by decide +kernel
theorem d_jdk_29_method_69_code_10 : decode jdk_29_method_69_code 10 = .ok (.ireturn, 1) := by decide +kernel
theorem d_jdk_29_method_69_code_2 : decode jdk_29_method_69_code 2 = .ok (.if_icmp .gt 7, 3) := by decide +kernel
theorem d_jdk_29_method_69_code_5 : decode jdk_29_method_69_code 5 = .ok (.iload_n 0, 1) := by decide +kernel
theorem d_jdk_29_method_69_code_6 : decode jdk_29_method_69_code 6 = .ok (.goto 4, 3) := by decide +kernel
theorem d_jdk_29_method_69_code_9 : decode jdk_29_method_69_code 9 = .ok (.iload_n 1, 1) := by decide +kernel
def Q_own_mi (Z : State) (x : Int32) (y : Int32) (h0 : Heap) (v : Option Value) (h : Heap) (L : List Loc) : Prop := v = some (.int (own_min x y)) ∧ Fr Z.heap.size L ∧ h = h0
set_option maxRecDepth 65536 in
set_option maxHeartbeats 40000000 in
theorem own_mi (l : Launch) (Z : State) (a0 : Array Value) (hw : ∀ d ∈ tables_1, d.before a0 Z = true) (ws : List Jvm.Cond) (x : Int32) (y : Int32) (h0 : Heap) (O0 : Ext Z.heap h0) :
    MetFree l own_m1 (head1 (Jvm.Cond.code own_m1 jdk_29_method_69_code 2 (some .int) :: ws) ({ frames := 0, cells := 0, slots := 0, locals := 0 } : Room)) (fun aa U => aa = #[(.int x), (.int y)] ∧ Z.Warmed39 U.vm ∧ U.heap = h0) (fun _ _ _ _ _ => True) (fun _ U o U' => ∃ v L, o = .returned v ∧ Q_own_mi Z x y h0 v U'.heap L ∧ FrameEnd U o U' L ({ frames := 0, cells := 0, slots := 0, locals := 0 } : Room).cells ({ frames := 0, cells := 0, slots := 0, locals := 0 } : Room).slots) := by
  refine MetFree.of_bodySF pf_own_mi hisR ?_
  intro p e s m args below meth c s₁ Bd hml0 hP hK
  obtain ⟨rfl, hZ, hh⟩ := hP
  have hx := Bd.exec
  have hby := Bd.bytes
  have hlk := BodyLoose.notSynchronized Bd
  have hml : c.maxLocals = 2 := hml0
  have hown : s.vm.findClass "java/lang/Math" = some m.cls := findClass_of_methodNamed Bd.named
  have hnm := (name_of_methodNamed Bd.named Bd.method).1
  have X0 : Stand p l e ({ frames := 0, cells := 0, slots := 0, locals := 0 } : Room) s m #[(.int x), (.int y)] below meth c s₁ [] 0 0 := Stand.of_body Bd
  have e0 : s₁.heap = h0 := by rw [← hh, Bd.state]; rfl
  have N0 := Fr.nil Z.heap.size
  have K0 : Keep h0 h0 [] := Keep.refl _ _
  refine own_start (Q := Q_own_mi Z x y h0) (ef_own_mi m (x) (y)) ?_
  show own_G p e below (s₁.setTop (mkF m 0 #[.val (.int x), .val (.int y)] [])) _
  refine own_go (fun t k => XS.iloadN X0.here hx rfl (hb hby d_jdk_29_method_69_code_0) rfl k) ?_
  refine own_go (fun t k => XS.iloadN X0.here hx rfl (hb hby d_jdk_29_method_69_code_1) rfl k) ?_
  by_cases hc1z : y < x
  · refine own_go (fun t k => XS.icmpYes X0.here hx rfl (pc0 := 2) (pc' := 9) rfl (hb hby d_jdk_29_method_69_code_2) rfl (tlt hc1z).2.2.1 (by decide) (by decide) k) ?_
    show own_G p e below (s₁.setTop (mkF m 9 #[.val (.int x), .val (.int y)] [])) _
    refine own_go (fun t k => XS.iloadN X0.here hx rfl (hb hby d_jdk_29_method_69_code_9) rfl k) ?_
    exact own_ret X0 hx Bd.returns rfl (Or.inl ⟨rfl, Or.inl rfl, _, rfl⟩) (hb hby d_jdk_29_method_69_code_10) hlk (Nat.le_of_ble_eq_true rfl) (Nat.le_of_ble_eq_true rfl) (by show Q_own_mi Z x y h0 _ s₁.heap _; rw [e0]; exact ⟨(congrArg (fun z => some (Value.int z)) (show (own_min x y) = _ from (if_pos hc1z)).symm), N0, rfl⟩)
  · refine own_go (fun t k => XS.icmpNo X0.here hx rfl (hb hby d_jdk_29_method_69_code_2) rfl (flt hc1z).2.2.1 k) ?_
    show own_G p e below (s₁.setTop (mkF m 5 #[.val (.int x), .val (.int y)] [])) _
    refine own_go (fun t k => XS.iloadN X0.here hx rfl (hb hby d_jdk_29_method_69_code_5) rfl k) ?_
    refine own_go (fun t k => XS.goto X0.here hx rfl (pc0 := 6) (pc' := 10) rfl (hb hby d_jdk_29_method_69_code_6) (by decide) (by decide) k) ?_
    show own_G p e below (s₁.setTop (mkF m 10 #[.val (.int x), .val (.int y)] [(.int x)])) _
    exact own_ret X0 hx Bd.returns rfl (Or.inl ⟨rfl, Or.inl rfl, _, rfl⟩) (hb hby d_jdk_29_method_69_code_10) hlk (Nat.le_of_ble_eq_true rfl) (Nat.le_of_ble_eq_true rfl) (by show Q_own_mi Z x y h0 _ s₁.heap _; rw [e0]; exact ⟨(congrArg (fun z => some (Value.int z)) (show (own_min x y) = _ from (if_neg hc1z)).symm), N0, rfl⟩)
theorem ef_own_nl (m : MethodId) (x0 : Int32) (x1 : Int32) (x2 : Int32) : entryFrame m #[(.int x0), (.int x1), (.int x2)] 4 = mkF m 0 #[.val (.int x0), .val (.int x1), .val (.int x2), .unset] [] := by first | (simp [entryFrame, mkF, argsToLocals, Value.category]; done) | rfl
theorem pf_own_nl : plainFor own_m2 = true := plainFor_of_name (by simp [plainName, overriddenIn])
theorem pd_184293393 : parseMethodDescriptor "(II)I" = some ⟨[.int, .int], some .int⟩ := by decide +kernel
theorem d_jdk_48_method_27_code_0 : decode jdk_48_method_27_code 0 = .ok (.iload_n 0, 1) := by decide +kernel
theorem d_jdk_48_method_27_code_1 : decode jdk_48_method_27_code 1 = .ok (.iload_n 1, 1) := by decide +kernel
theorem d_jdk_48_method_27_code_10 : decode jdk_48_method_27_code 10 = .ok (.if_icmp .ge 11, 3) := by decide +kernel
theorem d_jdk_48_method_27_code_13 : decode jdk_48_method_27_code 13 = .ok (.iload_n 3, 1) := by decide +kernel
theorem d_jdk_48_method_27_code_14 : decode jdk_48_method_27_code 14 = .ok (.ldc 200, 2) := by decide +kernel
theorem d_jdk_48_method_27_code_16 : decode jdk_48_method_27_code 16 = .ok (.if_icmp .gt 5, 3) := by decide +kernel
theorem d_jdk_48_method_27_code_19 : decode jdk_48_method_27_code 19 = .ok (.iload_n 3, 1) := by decide +kernel
theorem d_jdk_48_method_27_code_2 : decode jdk_48_method_27_code 2 = .ok (.iload_n 2, 1) := by decide +kernel
theorem d_jdk_48_method_27_code_20 : decode jdk_48_method_27_code 20 = .ok (.ireturn, 1) := by decide +kernel
theorem d_jdk_48_method_27_code_3 : decode jdk_48_method_27_code 3 = .ok (.invokestatic 194, 3) := by decide +kernel
theorem d_jdk_48_method_27_code_6 : decode jdk_48_method_27_code 6 = .ok (.iadd, 1) := by decide +kernel
theorem d_jdk_48_method_27_code_7 : decode jdk_48_method_27_code 7 = .ok (.istore_n 3, 1) := by decide +kernel
theorem d_jdk_48_method_27_code_8 : decode jdk_48_method_27_code 8 = .ok (.iconst 0, 1) := by decide +kernel
theorem d_jdk_48_method_27_code_9 : decode jdk_48_method_27_code 9 = .ok (.iload_n 3, 1) := by decide +kernel
def Q_own_nl (Z : State) (x : Int32) (y : Int32) (z : Int32) (rr : Nat) (h0 : Heap) (v : Option Value) (h : Heap) (L : List Loc) : Prop := v = some (.int (Int32.ofNat rr)) ∧ Fr Z.heap.size L ∧ h = h0
set_option maxRecDepth 65536 in
set_option maxHeartbeats 40000000 in
theorem own_nl (l : Launch) (Z : State) (a0 : Array Value) (hw : ∀ d ∈ tables_1, d.before a0 Z = true) (ws : List Jvm.Cond) (x : Int32) (y : Int32) (z : Int32) (rr : Nat) (h0 : Heap) (O0 : Ext Z.heap h0) (hrr : x + own_max y z = Int32.ofNat rr) (hr1 : 1 ≤ rr) (hr2 : rr ≤ 1000) :
    MetFree l own_m2 (head1 (Jvm.Cond.code own_m2 jdk_48_method_27_code 4 (some .int) :: ws) ({ frames := 1, cells := 0, slots := 0, locals := 14 } : Room)) (fun aa U => aa = #[(.int x), (.int y), (.int z)] ∧ Z.Warmed39 U.vm ∧ U.heap = h0) (fun _ _ _ _ _ => True) (fun _ U o U' => ∃ v L, o = .returned v ∧ Q_own_nl Z x y z rr h0 v U'.heap L ∧ FrameEnd U o U' L ({ frames := 1, cells := 0, slots := 0, locals := 14 } : Room).cells ({ frames := 1, cells := 0, slots := 0, locals := 14 } : Room).slots) := by
  refine MetFree.of_bodySF pf_own_nl hisR ?_
  intro p e s m args below meth c s₁ Bd hml0 hP hK
  obtain ⟨rfl, hZ, hh⟩ := hP
  have hx := Bd.exec
  have hby := Bd.bytes
  have hlk := BodyLoose.notSynchronized Bd
  have hml : c.maxLocals = 4 := hml0
  have hown : s.vm.findClass "jdk/internal/util/ArraysSupport" = some m.cls := findClass_of_methodNamed Bd.named
  have hnm := (name_of_methodNamed Bd.named Bd.method).1
  have X0 : Stand p l e ({ frames := 1, cells := 0, slots := 0, locals := 14 } : Room) s m #[(.int x), (.int y), (.int z)] below meth c s₁ [] 0 0 := Stand.of_body Bd
  have e0 : s₁.heap = h0 := by rw [← hh, Bd.state]; rfl
  have N0 := Fr.nil Z.heap.size
  have K0 : Keep h0 h0 [] := Keep.refl _ _
  refine own_start (Q := Q_own_nl Z x y z rr h0) (ef_own_nl m (x) (y) (z)) ?_
  show own_G p e below (s₁.setTop (mkF m 0 #[.val (.int x), .val (.int y), .val (.int z), .unset] [])) _
  refine own_go (fun t k => XS.iloadN X0.here hx rfl (hb hby d_jdk_48_method_27_code_0) rfl k) ?_
  refine own_go (fun t k => XS.iloadN X0.here hx rfl (hb hby d_jdk_48_method_27_code_1) rfl k) ?_
  refine own_go (fun t k => XS.iloadN X0.here hx rfl (hb hby d_jdk_48_method_27_code_2) rfl k) ?_
  show own_G p e below (s₁.setTop (mkF m 3 #[.val (.int x), .val (.int y), .val (.int z), .unset] [(.int z), (.int y), (.int x)])) _
  obtain ⟨_, _, ⟨T1z, L1z, k1z, n1z⟩, -, X1z, ⟨Lc1z, hQ1z, l1z, y1z, z1z⟩, st1z⟩ := Jvm.LawKit.callS X0 hx (y := own_m0) hown (own_mw hZ hw 134 rfl) (own_mw hZ hw 135 rfl) (own_mw hZ hw 136 rfl) (own_mw hZ hw 137 rfl) (by decide) (backOf (W := 1) (own_mx l Z a0 hw [] y z h0 O0) hZ (own_hw hw 137 rfl) (own_hw hw 136 rfl) (by decide) (by decide)) (g := (mkF m 3 #[.val (.int x), .val (.int y), .val (.int z), .unset] [(.int z), (.int y), (.int x)])) rfl (by rw [hml]; rfl) (argsL := [(.int y), (.int z)]) (rest := [(.int x)]) (lenOf pd_184293393 rfl) rfl (by show 2 * 0 + _ ≤ _; exact Nat.le_of_eq rfl) (hb hby d_jdk_48_method_27_code_3) (fun _ _ => ⟨rfl, e0, (by decide : 0 + 0 ≤ _), (by decide : 0 + 0 ≤ _)⟩)
  dsimp only [Pt.U, Pt.locs, Pt.cells, Pt.slots] at X1z l1z y1z z1z st1z hQ1z
  subst l1z y1z z1z
  obtain ⟨rfl, NQ1z, K1zq⟩ := hQ1z
  refine own_go st1z ?_
  have N1z := Fr.app N0 NQ1z
  show own_G p e below (T1z.setTop (mkF m 6 #[.val (.int x), .val (.int y), .val (.int z), .unset] [(.int (own_max y z)), (.int x)])) _
  refine own_go (fun t k => XS.iadd X1z.here hx rfl (hb hby d_jdk_48_method_27_code_6) rfl k) ?_
  show own_G p e below (T1z.setTop (mkF m 7 #[.val (.int x), .val (.int y), .val (.int z), .unset] [(.int (x + (own_max y z)))])) _
  rw [hrr]
  show own_G p e below (T1z.setTop (mkF m 7 #[.val (.int x), .val (.int y), .val (.int z), .unset] [(.int (Int32.ofNat rr))])) _
  refine own_go (fun t k => XS.istoreN X1z.here hx rfl (hb hby d_jdk_48_method_27_code_7) rfl (l' := #[.val (.int x), .val (.int y), .val (.int z), .val (.int (Int32.ofNat rr))]) rfl k) ?_
  refine own_go (fun t k => XS.iconst X1z.here hx rfl (hb hby d_jdk_48_method_27_code_8) k) ?_
  refine own_go (fun t k => XS.iloadN X1z.here hx rfl (hb hby d_jdk_48_method_27_code_9) rfl k) ?_
  show own_G p e below (T1z.setTop (mkF m 10 #[.val (.int x), .val (.int y), .val (.int z), .val (.int (Int32.ofNat rr))] [(.int (Int32.ofNat rr)), (.int (0 : Int32))])) _
  refine own_go (fun t k => XS.icmpNo X1z.here hx rfl (hb hby d_jdk_48_method_27_code_10) rfl (tlt (own_posN hr1 hr2)).2.1 k) ?_
  show own_G p e below (T1z.setTop (mkF m 13 #[.val (.int x), .val (.int y), .val (.int z), .val (.int (Int32.ofNat rr))] [])) _
  refine own_go (fun t k => XS.iloadN X1z.here hx rfl (hb hby d_jdk_48_method_27_code_13) rfl k) ?_
  refine own_go (fun t k => X1z.ldcI hx hown (mvT hZ (own_hw hw 138 rfl)) rfl (hb hby d_jdk_48_method_27_code_14) k) ?_
  refine own_go (fun t k => XS.icmpNo X1z.here hx rfl (hb hby d_jdk_48_method_27_code_16) rfl (flt (own_smallN hr2)).2.2.1 k) ?_
  show own_G p e below (T1z.setTop (mkF m 19 #[.val (.int x), .val (.int y), .val (.int z), .val (.int (Int32.ofNat rr))] [])) _
  refine own_go (fun t k => XS.iloadN X1z.here hx rfl (hb hby d_jdk_48_method_27_code_19) rfl k) ?_
  exact own_ret X1z hx Bd.returns rfl (Or.inl ⟨rfl, Or.inl rfl, _, rfl⟩) (hb hby d_jdk_48_method_27_code_20) hlk (Nat.le_of_ble_eq_true rfl) (Nat.le_of_ble_eq_true rfl) (by show Q_own_nl Z x y z rr h0 _ T1z.heap _; rw [K1zq]; exact ⟨rfl, N1z, rfl⟩)
theorem ef_own_nc (m : MethodId) (x0 : Addr) (x1 : Int32) : entryFrame m #[(.ref x0), (.int x1)] 6 = mkF m 0 #[.val (.ref x0), .val (.int x1), .unset, .unset, .unset, .unset] [] := by first | (simp [entryFrame, mkF, argsToLocals, Value.category]; done) | rfl
theorem pf_own_nc : plainFor own_m3 = true := plainFor_of_name (by simp [plainName, overriddenIn])
theorem pd_1786748538 : parseMethodDescriptor "(III)I" = some ⟨[.int, .int, .int], some .int⟩ := by decide +kernel
theorem d_jdk_68_method_10_code_0 : decode jdk_68_method_10_code 0 = .ok (.aload_n 0, 1) := by decide +kernel
theorem d_jdk_68_method_10_code_1 : decode jdk_68_method_10_code 1 = .ok (.getfield 15, 3) := by decide +kernel
theorem d_jdk_68_method_10_code_11 : decode jdk_68_method_10_code 11 = .ok (.ishl, 1) := by decide +kernel
theorem d_jdk_68_method_10_code_12 : decode jdk_68_method_10_code 12 = .ok (.istore_n 3, 1) := by decide +kernel
theorem d_jdk_68_method_10_code_13 : decode jdk_68_method_10_code 13 = .ok (.iload_n 3, 1) := by decide +kernel
theorem d_jdk_68_method_10_code_14 : decode jdk_68_method_10_code 14 = .ok (.iload_n 2, 1) := by decide +kernel
theorem d_jdk_68_method_10_code_15 : decode jdk_68_method_10_code 15 = .ok (.isub, 1) := by decide +kernel
theorem d_jdk_68_method_10_code_16 : decode jdk_68_method_10_code 16 = .ok (.istore 4, 2) := by decide +kernel
theorem d_jdk_68_method_10_code_18 : decode jdk_68_method_10_code 18 = .ok (.iload_n 2, 1) := by decide +kernel
theorem d_jdk_68_method_10_code_19 : decode jdk_68_method_10_code 19 = .ok (.iload 4, 2) := by decide +kernel
theorem d_jdk_68_method_10_code_21 : decode jdk_68_method_10_code 21 = .ok (.iload_n 2, 1) := by decide +kernel
theorem d_jdk_68_method_10_code_22 : decode jdk_68_method_10_code 22 = .ok (.iconst 2, 1) := by decide +kernel
theorem d_jdk_68_method_10_code_23 : decode jdk_68_method_10_code 23 = .ok (.aload_n 0, 1) := by decide +kernel
theorem d_jdk_68_method_10_code_24 : decode jdk_68_method_10_code 24 = .ok (.getfield 22, 3) := by decide +kernel
theorem d_jdk_68_method_10_code_27 : decode jdk_68_method_10_code 27 = .ok (.ishl, 1) := by decide +kernel
theorem d_jdk_68_method_10_code_28 : decode jdk_68_method_10_code 28 = .ok (.iadd, 1) := by decide +kernel
theorem d_jdk_68_method_10_code_29 : decode jdk_68_method_10_code 29 = .ok (.invokestatic 114, 3) := by decide +kernel
theorem d_jdk_68_method_10_code_32 : decode jdk_68_method_10_code 32 = .ok (.istore 5, 2) := by decide +kernel
theorem d_jdk_68_method_10_code_34 : decode jdk_68_method_10_code 34 = .ok (.iload 5, 2) := by decide +kernel
theorem d_jdk_68_method_10_code_36 : decode jdk_68_method_10_code 36 = .ok (.ldc 39, 2) := by decide +kernel
theorem d_jdk_68_method_10_code_38 : decode jdk_68_method_10_code 38 = .ok (.if_icmp .ne 13, 3) := by decide +kernel
theorem d_jdk_68_method_10_code_4 : decode jdk_68_method_10_code 4 = .ok (.arraylength, 1) := by decide +kernel
theorem d_jdk_68_method_10_code_5 : decode jdk_68_method_10_code 5 = .ok (.istore_n 2, 1) := by decide +kernel
theorem d_jdk_68_method_10_code_51 : decode jdk_68_method_10_code 51 = .ok (.iload 5, 2) := by decide +kernel
theorem d_jdk_68_method_10_code_53 : decode jdk_68_method_10_code 53 = .ok (.aload_n 0, 1) := by decide +kernel
theorem d_jdk_68_method_10_code_54 : decode jdk_68_method_10_code 54 = .ok (.getfield 22, 3) := by decide +kernel
theorem d_jdk_68_method_10_code_57 : decode jdk_68_method_10_code 57 = .ok (.ishr, 1) := by decide +kernel
theorem d_jdk_68_method_10_code_58 : decode jdk_68_method_10_code 58 = .ok (.ireturn, 1) := by decide +kernel
theorem d_jdk_68_method_10_code_6 : decode jdk_68_method_10_code 6 = .ok (.iload_n 1, 1) := by decide +kernel
theorem d_jdk_68_method_10_code_7 : decode jdk_68_method_10_code 7 = .ok (.aload_n 0, 1) := by decide +kernel
theorem d_jdk_68_method_10_code_8 : decode jdk_68_method_10_code 8 = .ok (.getfield 22, 3) := by decide +kernel
def Q_own_nc (Z : State) (sb : Addr) (b : Addr) (kb : ClassId) (bs : (List Int32)) (tl : (List Value)) (mn : Nat) (x : Int32) (h0 : Heap) (v : Option Value) (h : Heap) (L : List Loc) : Prop := v = some (.int (Int32.ofNat (own_ncap (bs.length + tl.length) mn))) ∧ Fr Z.heap.size L ∧ h = h0
set_option maxRecDepth 65536 in
set_option maxHeartbeats 40000000 in
theorem own_nc (l : Launch) (Z : State) (a0 : Array Value) (hw : ∀ d ∈ tables_1, d.before a0 Z = true) (ws : List Jvm.Cond) (sb : Addr) (b : Addr) (kb : ClassId) (bs : (List Int32)) (tl : (List Value)) (mn : Nat) (x : Int32) (h0 : Heap) (O0 : Ext Z.heap h0) (q0 : Exa Z h0 sb own_s3) (q1 : Z.heap.size ≤ sb) (q2 : Z.heap.size ≤ b) (q3 : Exa Z h0 b "[B") (q4 : Fld Z h0 sb own_s0 "value" "[B" (.ref b)) (q5 : Fld Z h0 sb own_s0 "coder" "B" (.int (0 : Int32))) (q6 : Fld Z h0 sb own_s0 "count" "I" (.int (Int32.ofNat bs.length))) (q7 : own_A Z h0 b kb .byte (own_cv bs ++ tl)) (nsb : sb ≠ b) (hcap : bs.length + tl.length ≤ 242) (hxm : x = Int32.ofNat mn) (hmn : mn ≤ 120) (hgt : (bs.length + tl.length) < mn) :
    MetFree l own_m3 (head1 (Jvm.Cond.code own_m3 jdk_68_method_10_code 6 (some .int) :: ws) ({ frames := 2, cells := 0, slots := 0, locals := 32 } : Room)) (fun aa U => aa = #[(.ref sb), (.int x)] ∧ Z.Warmed39 U.vm ∧ U.heap = h0) (fun _ _ _ _ _ => True) (fun _ U o U' => ∃ v L, o = .returned v ∧ Q_own_nc Z sb b kb bs tl mn x h0 v U'.heap L ∧ FrameEnd U o U' L ({ frames := 2, cells := 0, slots := 0, locals := 32 } : Room).cells ({ frames := 2, cells := 0, slots := 0, locals := 32 } : Room).slots) := by
  refine MetFree.of_bodySF pf_own_nc hisR ?_
  intro p e s m args below meth c s₁ Bd hml0 hP hK
  obtain ⟨rfl, hZ, hh⟩ := hP
  have hx := Bd.exec
  have hby := Bd.bytes
  have hlk := BodyLoose.notSynchronized Bd
  have hml : c.maxLocals = 6 := hml0
  have hown : s.vm.findClass own_s0 = some m.cls := findClass_of_methodNamed Bd.named
  have hnm := (name_of_methodNamed Bd.named Bd.method).1
  have X0 : Stand p l e ({ frames := 2, cells := 0, slots := 0, locals := 32 } : Room) s m #[(.ref sb), (.int x)] below meth c s₁ [] 0 0 := Stand.of_body Bd
  have e0 : s₁.heap = h0 := by rw [← hh, Bd.state]; rfl
  have N0 := Fr.nil Z.heap.size
  have K0 : Keep h0 h0 [] := Keep.refl _ _
  refine own_start (Q := Q_own_nc Z sb b kb bs tl mn x h0) (ef_own_nc m (sb) (x)) ?_
  show own_G p e below (s₁.setTop (mkF m 0 #[.val (.ref sb), .val (.int x), .unset, .unset, .unset, .unset] [])) _
  refine own_go (fun t k => XS.aloadN X0.here hx rfl (hb hby d_jdk_68_method_10_code_0) rfl rfl k) ?_
  obtain ⟨T1z, X1z, e1z, st1z⟩ := getF X0 hx hZ hown (host := "") (Or.inl (own_hw hw 38 rfl)) Via.refl e0 q4 (g := (mkF m 1 #[.val (.ref sb), .val (.int x), .unset, .unset, .unset, .unset] [(.ref sb)])) rfl rfl (hb hby d_jdk_68_method_10_code_1)
  refine own_go st1z ?_
  refine own_go (own_len X1z hx hZ e1z q7 (z := (Int32.ofNat (bs.length + tl.length))) (own_lenA (by omega)) (g := (mkF m 4 #[.val (.ref sb), .val (.int x), .unset, .unset, .unset, .unset] [(.ref b)])) rfl rfl (hb hby d_jdk_68_method_10_code_4)) ?_
  show own_G p e below (T1z.setTop (mkF m 5 #[.val (.ref sb), .val (.int x), .unset, .unset, .unset, .unset] [(.int (Int32.ofNat (bs.length + tl.length)))])) _
  refine own_go (fun t k => XS.istoreN X1z.here hx rfl (hb hby d_jdk_68_method_10_code_5) rfl (l' := #[.val (.ref sb), .val (.int x), .val (.int (Int32.ofNat (bs.length + tl.length))), .unset, .unset, .unset]) rfl k) ?_
  refine own_go (fun t k => XS.iloadN X1z.here hx rfl (hb hby d_jdk_68_method_10_code_6) rfl k) ?_
  refine own_go (fun t k => XS.aloadN X1z.here hx rfl (hb hby d_jdk_68_method_10_code_7) rfl rfl k) ?_
  show own_G p e below (T1z.setTop (mkF m 8 #[.val (.ref sb), .val (.int x), .val (.int (Int32.ofNat (bs.length + tl.length))), .unset, .unset, .unset] [(.ref sb), (.int x)])) _
  obtain ⟨T2z, X2z, e2z, st2z⟩ := getF X1z hx hZ hown (host := "") (Or.inl (own_hw hw 40 rfl)) Via.refl e1z q5 (g := (mkF m 8 #[.val (.ref sb), .val (.int x), .val (.int (Int32.ofNat (bs.length + tl.length))), .unset, .unset, .unset] [(.ref sb), (.int x)])) rfl rfl (hb hby d_jdk_68_method_10_code_8)
  refine own_go st2z ?_
  refine own_go (fun t k => XS.ishl X2z.here hx rfl (hb hby d_jdk_68_method_10_code_11) rfl k) ?_
  show own_G p e below (T2z.setTop (mkF m 12 #[.val (.ref sb), .val (.int x), .val (.int (Int32.ofNat (bs.length + tl.length))), .unset, .unset, .unset] [(.int (x <<< ((0 : Int32) &&& 31)))])) _
  rw [own_shl0]
  show own_G p e below (T2z.setTop (mkF m 12 #[.val (.ref sb), .val (.int x), .val (.int (Int32.ofNat (bs.length + tl.length))), .unset, .unset, .unset] [(.int x)])) _
  refine own_go (fun t k => XS.istoreN X2z.here hx rfl (hb hby d_jdk_68_method_10_code_12) rfl (l' := #[.val (.ref sb), .val (.int x), .val (.int (Int32.ofNat (bs.length + tl.length))), .val (.int x), .unset, .unset]) rfl k) ?_
  refine own_go (fun t k => XS.iloadN X2z.here hx rfl (hb hby d_jdk_68_method_10_code_13) rfl k) ?_
  refine own_go (fun t k => XS.iloadN X2z.here hx rfl (hb hby d_jdk_68_method_10_code_14) rfl k) ?_
  show own_G p e below (T2z.setTop (mkF m 15 #[.val (.ref sb), .val (.int x), .val (.int (Int32.ofNat (bs.length + tl.length))), .val (.int x), .unset, .unset] [(.int (Int32.ofNat (bs.length + tl.length))), (.int x)])) _
  refine own_go (fun t k => XS.isub X2z.here hx rfl (hb hby d_jdk_68_method_10_code_15) rfl k) ?_
  refine own_go (fun t k => XS.istore X2z.here hx rfl (hb hby d_jdk_68_method_10_code_16) rfl (l' := #[.val (.ref sb), .val (.int x), .val (.int (Int32.ofNat (bs.length + tl.length))), .val (.int x), .val (.int (x - (Int32.ofNat (bs.length + tl.length)))), .unset]) rfl k) ?_
  refine own_go (fun t k => XS.iloadN X2z.here hx rfl (hb hby d_jdk_68_method_10_code_18) rfl k) ?_
  show own_G p e below (T2z.setTop (mkF m 19 #[.val (.ref sb), .val (.int x), .val (.int (Int32.ofNat (bs.length + tl.length))), .val (.int x), .val (.int (x - (Int32.ofNat (bs.length + tl.length)))), .unset] [(.int (Int32.ofNat (bs.length + tl.length)))])) _
  refine own_go (fun t k => XS.iload X2z.here hx rfl (hb hby d_jdk_68_method_10_code_19) rfl k) ?_
  refine own_go (fun t k => XS.iloadN X2z.here hx rfl (hb hby d_jdk_68_method_10_code_21) rfl k) ?_
  refine own_go (fun t k => XS.iconst X2z.here hx rfl (hb hby d_jdk_68_method_10_code_22) k) ?_
  show own_G p e below (T2z.setTop (mkF m 23 #[.val (.ref sb), .val (.int x), .val (.int (Int32.ofNat (bs.length + tl.length))), .val (.int x), .val (.int (x - (Int32.ofNat (bs.length + tl.length)))), .unset] [(.int (2 : Int32)), (.int (Int32.ofNat (bs.length + tl.length))), (.int (x - (Int32.ofNat (bs.length + tl.length)))), (.int (Int32.ofNat (bs.length + tl.length)))])) _
  refine own_go (fun t k => XS.aloadN X2z.here hx rfl (hb hby d_jdk_68_method_10_code_23) rfl rfl k) ?_
  obtain ⟨T3z, X3z, e3z, st3z⟩ := getF X2z hx hZ hown (host := "") (Or.inl (own_hw hw 40 rfl)) Via.refl e2z q5 (g := (mkF m 24 #[.val (.ref sb), .val (.int x), .val (.int (Int32.ofNat (bs.length + tl.length))), .val (.int x), .val (.int (x - (Int32.ofNat (bs.length + tl.length)))), .unset] [(.ref sb), (.int (2 : Int32)), (.int (Int32.ofNat (bs.length + tl.length))), (.int (x - (Int32.ofNat (bs.length + tl.length)))), (.int (Int32.ofNat (bs.length + tl.length)))])) rfl rfl (hb hby d_jdk_68_method_10_code_24)
  refine own_go st3z ?_
  refine own_go (fun t k => XS.ishl X3z.here hx rfl (hb hby d_jdk_68_method_10_code_27) rfl k) ?_
  show own_G p e below (T3z.setTop (mkF m 28 #[.val (.ref sb), .val (.int x), .val (.int (Int32.ofNat (bs.length + tl.length))), .val (.int x), .val (.int (x - (Int32.ofNat (bs.length + tl.length)))), .unset] [(.int ((2 : Int32) <<< ((0 : Int32) &&& 31))), (.int (Int32.ofNat (bs.length + tl.length))), (.int (x - (Int32.ofNat (bs.length + tl.length)))), (.int (Int32.ofNat (bs.length + tl.length)))])) _
  refine own_go (fun t k => XS.iadd X3z.here hx rfl (hb hby d_jdk_68_method_10_code_28) rfl k) ?_
  obtain ⟨_, _, ⟨T4z, L4z, k4z, n4z⟩, -, X4z, ⟨Lc4z, hQ4z, l4z, y4z, z4z⟩, st4z⟩ := Jvm.LawKit.callS X3z hx (y := own_m2) hown (own_mw hZ hw 130 rfl) (own_mw hZ hw 131 rfl) (own_mw hZ hw 132 rfl) (own_mw hZ hw 133 rfl) (by decide) (backOf (W := 0) (own_nl l Z a0 hw [] (Int32.ofNat (bs.length + tl.length)) (x - (Int32.ofNat (bs.length + tl.length))) ((Int32.ofNat (bs.length + tl.length)) + ((2 : Int32) <<< ((0 : Int32) &&& 31))) (own_ncap (bs.length + tl.length) mn) h0 O0 (by rw [hxm]; exact own_ncE hgt hmn) (by have := own_ncap_le hgt hmn; omega) (by have := own_ncap_le hgt hmn; omega)) hZ (own_hw hw 133 rfl) (own_hw hw 132 rfl) (by decide) (by decide)) (g := (mkF m 29 #[.val (.ref sb), .val (.int x), .val (.int (Int32.ofNat (bs.length + tl.length))), .val (.int x), .val (.int (x - (Int32.ofNat (bs.length + tl.length)))), .unset] [(.int ((Int32.ofNat (bs.length + tl.length)) + ((2 : Int32) <<< ((0 : Int32) &&& 31)))), (.int (x - (Int32.ofNat (bs.length + tl.length)))), (.int (Int32.ofNat (bs.length + tl.length)))])) rfl (by rw [hml]; rfl) (argsL := [(.int (Int32.ofNat (bs.length + tl.length))), (.int (x - (Int32.ofNat (bs.length + tl.length)))), (.int ((Int32.ofNat (bs.length + tl.length)) + ((2 : Int32) <<< ((0 : Int32) &&& 31))))]) (rest := []) (lenOf pd_1786748538 rfl) rfl (by show 2 * 0 + _ ≤ _; exact Nat.le_of_eq rfl) (hb hby d_jdk_68_method_10_code_29) (fun _ _ => ⟨rfl, e3z, (by decide : 0 + 0 ≤ _), (by decide : 0 + 0 ≤ _)⟩)
  dsimp only [Pt.U, Pt.locs, Pt.cells, Pt.slots] at X4z l4z y4z z4z st4z hQ4z
  subst l4z y4z z4z
  obtain ⟨rfl, NQ4z, K4zq⟩ := hQ4z
  refine own_go st4z ?_
  have N4z := Fr.app N0 NQ4z
  show own_G p e below (T4z.setTop (mkF m 32 #[.val (.ref sb), .val (.int x), .val (.int (Int32.ofNat (bs.length + tl.length))), .val (.int x), .val (.int (x - (Int32.ofNat (bs.length + tl.length)))), .unset] [(.int (Int32.ofNat (own_ncap (bs.length + tl.length) mn)))])) _
  refine own_go (fun t k => XS.istore X4z.here hx rfl (hb hby d_jdk_68_method_10_code_32) rfl (l' := #[.val (.ref sb), .val (.int x), .val (.int (Int32.ofNat (bs.length + tl.length))), .val (.int x), .val (.int (x - (Int32.ofNat (bs.length + tl.length)))), .val (.int (Int32.ofNat (own_ncap (bs.length + tl.length) mn)))]) rfl k) ?_
  refine own_go (fun t k => XS.iload X4z.here hx rfl (hb hby d_jdk_68_method_10_code_34) rfl k) ?_
  refine own_go (fun t k => X4z.ldcI hx hown (mvT hZ (own_hw hw 139 rfl)) rfl (hb hby d_jdk_68_method_10_code_36) k) ?_
  show own_G p e below (T4z.setTop (mkF m 38 #[.val (.ref sb), .val (.int x), .val (.int (Int32.ofNat (bs.length + tl.length))), .val (.int x), .val (.int (x - (Int32.ofNat (bs.length + tl.length)))), .val (.int (Int32.ofNat (own_ncap (bs.length + tl.length) mn)))] [(.int (2147483647 : Int32)), (.int (Int32.ofNat (own_ncap (bs.length + tl.length) mn)))])) _
  refine own_go (fun t k => XS.icmpYes X4z.here hx rfl (pc0 := 38) (pc' := 51) rfl (hb hby d_jdk_68_method_10_code_38) rfl (feq (own_neMax (by have := own_ncap_le hgt hmn; omega))).2 (by decide) (by decide) k) ?_
  show own_G p e below (T4z.setTop (mkF m 51 #[.val (.ref sb), .val (.int x), .val (.int (Int32.ofNat (bs.length + tl.length))), .val (.int x), .val (.int (x - (Int32.ofNat (bs.length + tl.length)))), .val (.int (Int32.ofNat (own_ncap (bs.length + tl.length) mn)))] [])) _
  refine own_go (fun t k => XS.iload X4z.here hx rfl (hb hby d_jdk_68_method_10_code_51) rfl k) ?_
  refine own_go (fun t k => XS.aloadN X4z.here hx rfl (hb hby d_jdk_68_method_10_code_53) rfl rfl k) ?_
  obtain ⟨T5z, X5z, e5z, st5z⟩ := getF X4z hx hZ hown (host := "") (Or.inl (own_hw hw 40 rfl)) Via.refl K4zq q5 (g := (mkF m 54 #[.val (.ref sb), .val (.int x), .val (.int (Int32.ofNat (bs.length + tl.length))), .val (.int x), .val (.int (x - (Int32.ofNat (bs.length + tl.length)))), .val (.int (Int32.ofNat (own_ncap (bs.length + tl.length) mn)))] [(.ref sb), (.int (Int32.ofNat (own_ncap (bs.length + tl.length) mn)))])) rfl rfl (hb hby d_jdk_68_method_10_code_54)
  refine own_go st5z ?_
  show own_G p e below (T5z.setTop (mkF m 57 #[.val (.ref sb), .val (.int x), .val (.int (Int32.ofNat (bs.length + tl.length))), .val (.int x), .val (.int (x - (Int32.ofNat (bs.length + tl.length)))), .val (.int (Int32.ofNat (own_ncap (bs.length + tl.length) mn)))] [(.int (0 : Int32)), (.int (Int32.ofNat (own_ncap (bs.length + tl.length) mn)))])) _
  refine own_go (fun t k => XS.ishr X5z.here hx rfl (hb hby d_jdk_68_method_10_code_57) rfl k) ?_
  show own_G p e below (T5z.setTop (mkF m 58 #[.val (.ref sb), .val (.int x), .val (.int (Int32.ofNat (bs.length + tl.length))), .val (.int x), .val (.int (x - (Int32.ofNat (bs.length + tl.length)))), .val (.int (Int32.ofNat (own_ncap (bs.length + tl.length) mn)))] [(.int ((Int32.ofNat (own_ncap (bs.length + tl.length) mn)) >>> ((0 : Int32) &&& 31)))])) _
  rw [own_shr0]
  show own_G p e below (T5z.setTop (mkF m 58 #[.val (.ref sb), .val (.int x), .val (.int (Int32.ofNat (bs.length + tl.length))), .val (.int x), .val (.int (x - (Int32.ofNat (bs.length + tl.length)))), .val (.int (Int32.ofNat (own_ncap (bs.length + tl.length) mn)))] [(.int (Int32.ofNat (own_ncap (bs.length + tl.length) mn)))])) _
  exact own_ret X5z hx Bd.returns rfl (Or.inl ⟨rfl, Or.inl rfl, _, rfl⟩) (hb hby d_jdk_68_method_10_code_58) hlk (Nat.le_of_ble_eq_true rfl) (Nat.le_of_ble_eq_true rfl) (by show Q_own_nc Z sb b kb bs tl mn x h0 _ T5z.heap _; rw [e5z]; exact ⟨rfl, N4z, rfl⟩)
theorem ef_own_cpo (m : MethodId) (x0 : Addr) (x1 : Int32) : entryFrame m #[(.ref x0), (.int x1)] 3 = mkF m 0 #[.val (.ref x0), .val (.int x1), .unset] [] := by first | (simp [entryFrame, mkF, argsToLocals, Value.category]; done) | rfl
theorem pf_own_cpo : plainFor own_m4 = true := plainFor_of_name (by simp [plainName, overriddenIn])
theorem d_jdk_65_method_121_code_0 : decode jdk_65_method_121_code 0 = .ok (.iload_n 1, 1) := by decide +kernel
theorem d_jdk_65_method_121_code_1 : decode jdk_65_method_121_code 1 = .ok (.aload_n 0, 1) := by decide +kernel
theorem d_jdk_65_method_121_code_14 : decode jdk_65_method_121_code 14 = .ok (.iload_n 1, 1) := by decide +kernel
theorem d_jdk_65_method_121_code_15 : decode jdk_65_method_121_code 15 = .ok (.newarray .byte, 2) := by decide +kernel
theorem d_jdk_65_method_121_code_17 : decode jdk_65_method_121_code 17 = .ok (.astore_n 2, 1) := by decide +kernel
theorem d_jdk_65_method_121_code_18 : decode jdk_65_method_121_code 18 = .ok (.aload_n 0, 1) := by decide +kernel
theorem d_jdk_65_method_121_code_19 : decode jdk_65_method_121_code 19 = .ok (.iconst 0, 1) := by decide +kernel
theorem d_jdk_65_method_121_code_2 : decode jdk_65_method_121_code 2 = .ok (.arraylength, 1) := by decide +kernel
theorem d_jdk_65_method_121_code_20 : decode jdk_65_method_121_code 20 = .ok (.aload_n 2, 1) := by decide +kernel
theorem d_jdk_65_method_121_code_21 : decode jdk_65_method_121_code 21 = .ok (.iconst 0, 1) := by decide +kernel
theorem d_jdk_65_method_121_code_22 : decode jdk_65_method_121_code 22 = .ok (.aload_n 0, 1) := by decide +kernel
theorem d_jdk_65_method_121_code_23 : decode jdk_65_method_121_code 23 = .ok (.arraylength, 1) := by decide +kernel
theorem d_jdk_65_method_121_code_24 : decode jdk_65_method_121_code 24 = .ok (.iload_n 1, 1) := by decide +kernel
theorem d_jdk_65_method_121_code_25 : decode jdk_65_method_121_code 25 = .ok (.invokestatic 304, 3) := by decide +kernel
theorem d_jdk_65_method_121_code_28 : decode jdk_65_method_121_code 28 = .ok (.invokestatic 150, 3) := by decide +kernel
theorem d_jdk_65_method_121_code_3 : decode jdk_65_method_121_code 3 = .ok (.if_icmp .ne 11, 3) := by decide +kernel
theorem d_jdk_65_method_121_code_31 : decode jdk_65_method_121_code 31 = .ok (.aload_n 2, 1) := by decide +kernel
theorem d_jdk_65_method_121_code_32 : decode jdk_65_method_121_code 32 = .ok (.areturn, 1) := by decide +kernel
def Q_own_cpo (Z : State) (arr : Addr) (kk : ClassId) (vs : (List Value)) (n : Nat) (h0 : Heap) (v : Option Value) (h : Heap) (L : List Loc) : Prop := ∃ r : Addr, ∃ kr : ClassId, v = some (.ref r) ∧ Fr Z.heap.size L ∧ Keep h0 h [] ∧ (own_A Z h r kr .byte (vs ++ List.replicate (n - vs.length) (.int (0 : Int32)))) ∧ (h0.size ≤ r) ∧ (Z.heap.size ≤ r) ∧ (Exa Z h r "[B")
set_option maxRecDepth 65536 in
set_option maxHeartbeats 40000000 in
theorem own_cpo (l : Launch) (Z : State) (a0 : Array Value) (hw : ∀ d ∈ tables_1, d.before a0 Z = true) (ws : List Jvm.Cond) (arr : Addr) (kk : ClassId) (vs : (List Value)) (n : Nat) (h0 : Heap) (O0 : Ext Z.heap h0) (q0 : own_A Z h0 arr kk .byte vs) (h1 : vs.length < n) (h2 : n ≤ 300) :
    MetFree l own_m4 (head1 (Jvm.Cond.code own_m4 jdk_65_method_121_code 3 (some (.array .byte)) :: ws) ({ frames := 1, cells := 1, slots := 300, locals := 24 } : Room)) (fun aa U => aa = #[(.ref arr), (.int (Int32.ofNat n))] ∧ Z.Warmed39 U.vm ∧ U.heap = h0) (fun _ _ _ _ _ => True) (fun _ U o U' => ∃ v L, o = .returned v ∧ Q_own_cpo Z arr kk vs n h0 v U'.heap L ∧ FrameEnd U o U' L ({ frames := 1, cells := 1, slots := 300, locals := 24 } : Room).cells ({ frames := 1, cells := 1, slots := 300, locals := 24 } : Room).slots) := by
  refine MetFree.of_bodySF pf_own_cpo hisR ?_
  intro p e s m args below meth c s₁ Bd hml0 hP hK
  obtain ⟨rfl, hZ, hh⟩ := hP
  have hx := Bd.exec
  have hby := Bd.bytes
  have hlk := BodyLoose.notSynchronized Bd
  have hml : c.maxLocals = 3 := hml0
  have hown : s.vm.findClass "java/util/Arrays" = some m.cls := findClass_of_methodNamed Bd.named
  have hnm := (name_of_methodNamed Bd.named Bd.method).1
  have X0 : Stand p l e ({ frames := 1, cells := 1, slots := 300, locals := 24 } : Room) s m #[(.ref arr), (.int (Int32.ofNat n))] below meth c s₁ [] 0 0 := Stand.of_body Bd
  have e0 : s₁.heap = h0 := by rw [← hh, Bd.state]; rfl
  have N0 := Fr.nil Z.heap.size
  have K0 : Keep h0 h0 [] := Keep.refl _ _
  refine own_start (Q := Q_own_cpo Z arr kk vs n h0) (ef_own_cpo m (arr) ((Int32.ofNat n))) ?_
  show own_G p e below (s₁.setTop (mkF m 0 #[.val (.ref arr), .val (.int (Int32.ofNat n)), .unset] [])) _
  refine own_go (fun t k => XS.iloadN X0.here hx rfl (hb hby d_jdk_65_method_121_code_0) rfl k) ?_
  refine own_go (fun t k => XS.aloadN X0.here hx rfl (hb hby d_jdk_65_method_121_code_1) rfl rfl k) ?_
  refine own_go (own_len X0 hx hZ e0 q0 (z := (Int32.ofNat vs.length)) (own_ofN (by omega)) (g := (mkF m 2 #[.val (.ref arr), .val (.int (Int32.ofNat n)), .unset] [(.ref arr), (.int (Int32.ofNat n))])) rfl rfl (hb hby d_jdk_65_method_121_code_2)) ?_
  show own_G p e below (s₁.setTop (mkF m 3 #[.val (.ref arr), .val (.int (Int32.ofNat n)), .unset] [(.int (Int32.ofNat vs.length)), (.int (Int32.ofNat n))])) _
  refine own_go (fun t k => XS.icmpYes X0.here hx rfl (pc0 := 3) (pc' := 14) rfl (hb hby d_jdk_65_method_121_code_3) rfl (feq (fun q => absurd ((own_eqN (by omega) (by omega)).mp q) (by omega))).2 (by decide) (by decide) k) ?_
  show own_G p e below (s₁.setTop (mkF m 14 #[.val (.ref arr), .val (.int (Int32.ofNat n)), .unset] [])) _
  refine own_go (fun t k => XS.iloadN X0.here hx rfl (hb hby d_jdk_65_method_121_code_14) rfl k) ?_
  obtain ⟨T1z, h1z, kc1z, X1z, e1z, E1z, V1z, EX1z, st1z⟩ := own_newPE X0 hx hZ (own_hw hw 37 rfl) e0 (g := (mkF m 15 #[.val (.ref arr), .val (.int (Int32.ofNat n)), .unset] [(.int (Int32.ofNat n))])) rfl (hb hby d_jdk_65_method_121_code_15) rfl (i := n) (own_ofN (by omega)) (cap := 300) h2 (by decide) (by decide) (by decide) (ad := "[B") (by decide)
  obtain ⟨b1z, g1z⟩ : ∃ z, z = h0.size := ⟨_, rfl⟩
  rw [← g1z] at V1z st1z EX1z
  have fr_b1z : Z.heap.size ≤ b1z := g1z ▸ O0.1
  have lz_b1z : h0.size ≤ b1z := g1z ▸ K0.1
  have ne_arr_b1z : arr ≠ b1z := Nat.ne_of_lt (g1z ▸ q0.lt)
  have O2z := own_ext_trans O0 E1z
  have K2z := K0.ext E1z
  have V1z : own_A Z h1z b1z kc1z .byte (List.replicate n (.int (0 : Int32))) := V1z
  refine own_go st1z ?_
  refine own_go (fun t k => XS.astoreN X1z.here hx rfl (hb hby d_jdk_65_method_121_code_17) rfl rfl (l' := #[.val (.ref arr), .val (.int (Int32.ofNat n)), .val (.ref b1z)]) rfl k) ?_
  show own_G p e below (T1z.setTop (mkF m 18 #[.val (.ref arr), .val (.int (Int32.ofNat n)), .val (.ref b1z)] [])) _
  refine own_go (fun t k => XS.aloadN X1z.here hx rfl (hb hby d_jdk_65_method_121_code_18) rfl rfl k) ?_
  refine own_go (fun t k => XS.iconst X1z.here hx rfl (hb hby d_jdk_65_method_121_code_19) k) ?_
  refine own_go (fun t k => XS.aloadN X1z.here hx rfl (hb hby d_jdk_65_method_121_code_20) rfl rfl k) ?_
  show own_G p e below (T1z.setTop (mkF m 21 #[.val (.ref arr), .val (.int (Int32.ofNat n)), .val (.ref b1z)] [(.ref b1z), (.int (0 : Int32)), (.ref arr)])) _
  refine own_go (fun t k => XS.iconst X1z.here hx rfl (hb hby d_jdk_65_method_121_code_21) k) ?_
  refine own_go (fun t k => XS.aloadN X1z.here hx rfl (hb hby d_jdk_65_method_121_code_22) rfl rfl k) ?_
  refine own_go (own_len X1z hx hZ e1z (q0.ext E1z) (z := (Int32.ofNat vs.length)) (own_ofN (by omega)) (g := (mkF m 23 #[.val (.ref arr), .val (.int (Int32.ofNat n)), .val (.ref b1z)] [(.ref arr), (.int (0 : Int32)), (.ref b1z), (.int (0 : Int32)), (.ref arr)])) rfl rfl (hb hby d_jdk_65_method_121_code_23)) ?_
  show own_G p e below (T1z.setTop (mkF m 24 #[.val (.ref arr), .val (.int (Int32.ofNat n)), .val (.ref b1z)] [(.int (Int32.ofNat vs.length)), (.int (0 : Int32)), (.ref b1z), (.int (0 : Int32)), (.ref arr)])) _
  refine own_go (fun t k => XS.iloadN X1z.here hx rfl (hb hby d_jdk_65_method_121_code_24) rfl k) ?_
  obtain ⟨_, _, ⟨T3z, L3z, k3z, n3z⟩, -, X3z, ⟨Lc3z, hQ3z, l3z, y3z, z3z⟩, st3z⟩ := Jvm.LawKit.callS X1z hx (y := own_m1) hown (own_mw hZ hw 144 rfl) (own_mw hZ hw 145 rfl) (own_mw hZ hw 136 rfl) (own_mw hZ hw 146 rfl) (by decide) (backOf (W := 4) (own_mi l Z a0 hw [] (Int32.ofNat vs.length) (Int32.ofNat n) h1z O2z) hZ (own_hw hw 146 rfl) (own_hw hw 136 rfl) (by decide) (by decide)) (g := (mkF m 25 #[.val (.ref arr), .val (.int (Int32.ofNat n)), .val (.ref b1z)] [(.int (Int32.ofNat n)), (.int (Int32.ofNat vs.length)), (.int (0 : Int32)), (.ref b1z), (.int (0 : Int32)), (.ref arr)])) rfl (by rw [hml]; rfl) (argsL := [(.int (Int32.ofNat vs.length)), (.int (Int32.ofNat n))]) (rest := [(.int (0 : Int32)), (.ref b1z), (.int (0 : Int32)), (.ref arr)]) (lenOf pd_184293393 rfl) rfl (by show 2 * 0 + _ ≤ _; exact Nat.le_of_eq rfl) (hb hby d_jdk_65_method_121_code_25) (fun _ _ => ⟨rfl, e1z, (by decide : 1 + 0 ≤ _), (by decide : 300 + 0 ≤ _)⟩)
  dsimp only [Pt.U, Pt.locs, Pt.cells, Pt.slots] at X3z l3z y3z z3z st3z hQ3z
  subst l3z y3z z3z
  obtain ⟨rfl, NQ3z, K3zq⟩ := hQ3z
  refine own_go st3z ?_
  have N3z := Fr.app N0 NQ3z
  show own_G p e below (T3z.setTop (mkF m 28 #[.val (.ref arr), .val (.int (Int32.ofNat n)), .val (.ref b1z)] [(.int (own_min (Int32.ofNat vs.length) (Int32.ofNat n))), (.int (0 : Int32)), (.ref b1z), (.int (0 : Int32)), (.ref arr)])) _
  obtain ⟨T4z, h4z, L4z, X4z, e4z, N4z, K4zq, V4z, st4z⟩ := own_cp X3z hx hZ hown (own_hw hw 147 rfl) (own_hw hw 97 rfl) (own_hw hw 95 rfl) (own_hw hw 96 rfl) K3zq (us := vs) (vr := (vs ++ List.replicate (n - vs.length) (.int (0 : Int32)))) (i := 0) (j := 0) (n := vs.length) (q0.ext E1z) V1z (by omega) (by rw [List.length_replicate]; omega) (Or.inl ⟨rfl, rfl⟩) (by decide) (by decide) (by rw [own_minN (by omega) (by omega)]; rw [show min vs.length n = vs.length from by omega]; exact own_ofN (by omega)) (by omega) (by rw [List.length_replicate]; omega) (by rw [List.drop_zero, List.take_length]) (by rw [List.take_zero, List.nil_append, List.drop_replicate, Nat.zero_add]) N3z fr_b1z (g := (mkF m 28 #[.val (.ref arr), .val (.int (Int32.ofNat n)), .val (.ref b1z)] [(.int (own_min (Int32.ofNat vs.length) (Int32.ofNat n))), (.int (0 : Int32)), (.ref b1z), (.int (0 : Int32)), (.ref arr)])) rfl (by rw [hml]; rfl) rfl (hb hby d_jdk_65_method_121_code_28) (by decide) (W := 0) (by show 2 * 0 + _ ≤ _; exact Nat.le_of_eq rfl) (by decide)
  refine own_go st4z ?_
  have O5z := own_ext_keep O2z K4zq (allS fr_b1z all0)
  have K5z := K2z.trans K4zq (allS (Or.inr lz_b1z) all0)
  show own_G p e below (T4z.setTop (mkF m 31 #[.val (.ref arr), .val (.int (Int32.ofNat n)), .val (.ref b1z)] [])) _
  refine own_go (fun t k => XS.aloadN X4z.here hx rfl (hb hby d_jdk_65_method_121_code_31) rfl rfl k) ?_
  exact own_ret X4z hx Bd.returns rfl (Or.inr (Or.inr (Or.inr (Or.inr ⟨rfl, rfl, rfl⟩)))) (hb hby d_jdk_65_method_121_code_32) hlk (Nat.le_of_ble_eq_true rfl) (Nat.le_of_ble_eq_true rfl) (by show Q_own_cpo Z arr kk vs n h0 _ T4z.heap _; rw [e4z]; exact ⟨b1z, kc1z, rfl, N4z, K5z, V4z, lz_b1z, fr_b1z, (EX1z.keep K4zq)⟩)
theorem ef_own_ens (m : MethodId) (x0 : Addr) (x1 : Int32) : entryFrame m #[(.ref x0), (.int x1)] 3 = mkF m 0 #[.val (.ref x0), .val (.int x1), .unset] [] := by first | (simp [entryFrame, mkF, argsToLocals, Value.category]; done) | rfl
theorem pf_own_ens : plainFor own_m5 = true := plainFor_of_name (by simp [plainName, overriddenIn])
theorem pd_2087992008 : parseMethodDescriptor "(I)I" = some ⟨[.int], some .int⟩ := by decide +kernel
theorem pd_3824263193 : parseMethodDescriptor "([BI)[B" = some ⟨[(.array .byte), .int], some (.array .byte)⟩ := by decide +kernel
theorem d_jdk_68_method_9_code_0 : decode jdk_68_method_9_code 0 = .ok (.aload_n 0, 1) := by decide +kernel
theorem d_jdk_68_method_9_code_1 : decode jdk_68_method_9_code 1 = .ok (.getfield 15, 3) := by decide +kernel
theorem d_jdk_68_method_9_code_10 : decode jdk_68_method_9_code 10 = .ok (.istore_n 2, 1) := by decide +kernel
theorem d_jdk_68_method_9_code_11 : decode jdk_68_method_9_code 11 = .ok (.iload_n 1, 1) := by decide +kernel
theorem d_jdk_68_method_9_code_12 : decode jdk_68_method_9_code 12 = .ok (.iload_n 2, 1) := by decide +kernel
theorem d_jdk_68_method_9_code_13 : decode jdk_68_method_9_code 13 = .ok (.isub, 1) := by decide +kernel
theorem d_jdk_68_method_9_code_14 : decode jdk_68_method_9_code 14 = .ok (.ifCond .le 24, 3) := by decide +kernel
theorem d_jdk_68_method_9_code_17 : decode jdk_68_method_9_code 17 = .ok (.aload_n 0, 1) := by decide +kernel
theorem d_jdk_68_method_9_code_18 : decode jdk_68_method_9_code 18 = .ok (.aload_n 0, 1) := by decide +kernel
theorem d_jdk_68_method_9_code_19 : decode jdk_68_method_9_code 19 = .ok (.getfield 15, 3) := by decide +kernel
theorem d_jdk_68_method_9_code_22 : decode jdk_68_method_9_code 22 = .ok (.aload_n 0, 1) := by decide +kernel
theorem d_jdk_68_method_9_code_23 : decode jdk_68_method_9_code 23 = .ok (.iload_n 1, 1) := by decide +kernel
theorem d_jdk_68_method_9_code_24 : decode jdk_68_method_9_code 24 = .ok (.invokevirtual 104, 3) := by decide +kernel
theorem d_jdk_68_method_9_code_27 : decode jdk_68_method_9_code 27 = .ok (.aload_n 0, 1) := by decide +kernel
theorem d_jdk_68_method_9_code_28 : decode jdk_68_method_9_code 28 = .ok (.getfield 22, 3) := by decide +kernel
theorem d_jdk_68_method_9_code_31 : decode jdk_68_method_9_code 31 = .ok (.ishl, 1) := by decide +kernel
theorem d_jdk_68_method_9_code_32 : decode jdk_68_method_9_code 32 = .ok (.invokestatic 108, 3) := by decide +kernel
theorem d_jdk_68_method_9_code_35 : decode jdk_68_method_9_code 35 = .ok (.putfield 15, 3) := by decide +kernel
theorem d_jdk_68_method_9_code_38 : decode jdk_68_method_9_code 38 = .ok (.return_, 1) := by decide +kernel
theorem d_jdk_68_method_9_code_4 : decode jdk_68_method_9_code 4 = .ok (.arraylength, 1) := by decide +kernel
theorem d_jdk_68_method_9_code_5 : decode jdk_68_method_9_code 5 = .ok (.aload_n 0, 1) := by decide +kernel
theorem d_jdk_68_method_9_code_6 : decode jdk_68_method_9_code 6 = .ok (.getfield 22, 3) := by decide +kernel
theorem d_jdk_68_method_9_code_9 : decode jdk_68_method_9_code 9 = .ok (.ishr, 1) := by decide +kernel
def Q_own_ens (Z : State) (sb : Addr) (b : Addr) (kb : ClassId) (bs : (List Int32)) (tl : (List Value)) (mn : Nat) (x : Int32) (h0 : Heap) (v : Option Value) (h : Heap) (L : List Loc) : Prop := ∃ b2 : Addr, ∃ k2 : ClassId, ∃ tl2 : (List Value), v = none ∧ Fr Z.heap.size L ∧ Keep h0 h [sb] ∧ (Fld Z h sb own_s0 "value" "[B" (.ref b2)) ∧ (Fld Z h sb own_s0 "coder" "B" (.int (0 : Int32))) ∧ (Fld Z h sb own_s0 "count" "I" (.int (Int32.ofNat bs.length))) ∧ (own_A Z h b2 k2 .byte (own_cv bs ++ tl2)) ∧ (Z.heap.size ≤ b2) ∧ (Exa Z h b2 "[B") ∧ (b2 = b ∨ h0.size ≤ b2) ∧ (sb ≠ b2) ∧ (bs.length + tl2.length ≤ 242) ∧ (mn ≤ bs.length + tl2.length)
set_option maxRecDepth 65536 in
set_option maxHeartbeats 40000000 in
theorem own_ens (l : Launch) (Z : State) (a0 : Array Value) (hw : ∀ d ∈ tables_1, d.before a0 Z = true) (ws : List Jvm.Cond) (sb : Addr) (b : Addr) (kb : ClassId) (bs : (List Int32)) (tl : (List Value)) (mn : Nat) (x : Int32) (h0 : Heap) (O0 : Ext Z.heap h0) (q0 : Exa Z h0 sb own_s3) (q1 : Z.heap.size ≤ sb) (q2 : Z.heap.size ≤ b) (q3 : Exa Z h0 b "[B") (q4 : Fld Z h0 sb own_s0 "value" "[B" (.ref b)) (q5 : Fld Z h0 sb own_s0 "coder" "B" (.int (0 : Int32))) (q6 : Fld Z h0 sb own_s0 "count" "I" (.int (Int32.ofNat bs.length))) (q7 : own_A Z h0 b kb .byte (own_cv bs ++ tl)) (nsb : sb ≠ b) (hcap : bs.length + tl.length ≤ 242) (hxm : x = Int32.ofNat mn) (hmn : mn ≤ 120) :
    MetFree l own_m5 (head1 (Jvm.Cond.code own_m5 jdk_68_method_9_code 3 none :: ws) ({ frames := 3, cells := 1, slots := 300, locals := 52 } : Room)) (fun aa U => aa = #[(.ref sb), (.int x)] ∧ Z.Warmed39 U.vm ∧ U.heap = h0) (fun _ _ _ _ _ => True) (fun _ U o U' => ∃ v L, o = .returned v ∧ Q_own_ens Z sb b kb bs tl mn x h0 v U'.heap L ∧ FrameEnd U o U' L ({ frames := 3, cells := 1, slots := 300, locals := 52 } : Room).cells ({ frames := 3, cells := 1, slots := 300, locals := 52 } : Room).slots) := by
  refine MetFree.of_bodySF pf_own_ens hisR ?_
  intro p e s m args below meth c s₁ Bd hml0 hP hK
  obtain ⟨rfl, hZ, hh⟩ := hP
  have hx := Bd.exec
  have hby := Bd.bytes
  have hlk := BodyLoose.notSynchronized Bd
  have hml : c.maxLocals = 3 := hml0
  have hown : s.vm.findClass own_s0 = some m.cls := findClass_of_methodNamed Bd.named
  have hnm := (name_of_methodNamed Bd.named Bd.method).1
  have X0 : Stand p l e ({ frames := 3, cells := 1, slots := 300, locals := 52 } : Room) s m #[(.ref sb), (.int x)] below meth c s₁ [] 0 0 := Stand.of_body Bd
  have e0 : s₁.heap = h0 := by rw [← hh, Bd.state]; rfl
  have N0 := Fr.nil Z.heap.size
  have K0 : Keep h0 h0 [sb] := Keep.refl _ _
  refine own_start (Q := Q_own_ens Z sb b kb bs tl mn x h0) (ef_own_ens m (sb) (x)) ?_
  show own_G p e below (s₁.setTop (mkF m 0 #[.val (.ref sb), .val (.int x), .unset] [])) _
  refine own_go (fun t k => XS.aloadN X0.here hx rfl (hb hby d_jdk_68_method_9_code_0) rfl rfl k) ?_
  obtain ⟨T1z, X1z, e1z, st1z⟩ := getF X0 hx hZ hown (host := "") (Or.inl (own_hw hw 38 rfl)) Via.refl e0 q4 (g := (mkF m 1 #[.val (.ref sb), .val (.int x), .unset] [(.ref sb)])) rfl rfl (hb hby d_jdk_68_method_9_code_1)
  refine own_go st1z ?_
  refine own_go (own_len X1z hx hZ e1z q7 (z := (Int32.ofNat (bs.length + tl.length))) (own_lenA (by omega)) (g := (mkF m 4 #[.val (.ref sb), .val (.int x), .unset] [(.ref b)])) rfl rfl (hb hby d_jdk_68_method_9_code_4)) ?_
  show own_G p e below (T1z.setTop (mkF m 5 #[.val (.ref sb), .val (.int x), .unset] [(.int (Int32.ofNat (bs.length + tl.length)))])) _
  refine own_go (fun t k => XS.aloadN X1z.here hx rfl (hb hby d_jdk_68_method_9_code_5) rfl rfl k) ?_
  obtain ⟨T2z, X2z, e2z, st2z⟩ := getF X1z hx hZ hown (host := "") (Or.inl (own_hw hw 40 rfl)) Via.refl e1z q5 (g := (mkF m 6 #[.val (.ref sb), .val (.int x), .unset] [(.ref sb), (.int (Int32.ofNat (bs.length + tl.length)))])) rfl rfl (hb hby d_jdk_68_method_9_code_6)
  refine own_go st2z ?_
  refine own_go (fun t k => XS.ishr X2z.here hx rfl (hb hby d_jdk_68_method_9_code_9) rfl k) ?_
  show own_G p e below (T2z.setTop (mkF m 10 #[.val (.ref sb), .val (.int x), .unset] [(.int ((Int32.ofNat (bs.length + tl.length)) >>> ((0 : Int32) &&& 31)))])) _
  show own_G p e below (T2z.setTop (mkF m 10 #[.val (.ref sb), .val (.int x), .unset] [(.int ((Int32.ofNat (bs.length + tl.length)) >>> ((0 : Int32) &&& 31)))])) _
  rw [own_shr0]
  show own_G p e below (T2z.setTop (mkF m 10 #[.val (.ref sb), .val (.int x), .unset] [(.int (Int32.ofNat (bs.length + tl.length)))])) _
  refine own_go (fun t k => XS.istoreN X2z.here hx rfl (hb hby d_jdk_68_method_9_code_10) rfl (l' := #[.val (.ref sb), .val (.int x), .val (.int (Int32.ofNat (bs.length + tl.length)))]) rfl k) ?_
  refine own_go (fun t k => XS.iloadN X2z.here hx rfl (hb hby d_jdk_68_method_9_code_11) rfl k) ?_
  refine own_go (fun t k => XS.iloadN X2z.here hx rfl (hb hby d_jdk_68_method_9_code_12) rfl k) ?_
  show own_G p e below (T2z.setTop (mkF m 13 #[.val (.ref sb), .val (.int x), .val (.int (Int32.ofNat (bs.length + tl.length)))] [(.int (Int32.ofNat (bs.length + tl.length))), (.int x)])) _
  refine own_go (fun t k => XS.isub X2z.here hx rfl (hb hby d_jdk_68_method_9_code_13) rfl k) ?_
  by_cases hc3z : (0 : Int32) < (x - (Int32.ofNat (bs.length + tl.length)))
  · refine own_go (fun t k => XS.ifNo X2z.here hx rfl (hb hby d_jdk_68_method_9_code_14) rfl ((if0 _ _).trans (tlt hc3z).2.2.2) k) ?_
    show own_G p e below (T2z.setTop (mkF m 17 #[.val (.ref sb), .val (.int x), .val (.int (Int32.ofNat (bs.length + tl.length)))] [])) _
    refine own_go (fun t k => XS.aloadN X2z.here hx rfl (hb hby d_jdk_68_method_9_code_17) rfl rfl k) ?_
    refine own_go (fun t k => XS.aloadN X2z.here hx rfl (hb hby d_jdk_68_method_9_code_18) rfl rfl k) ?_
    obtain ⟨T4z, X4z, e4z, st4z⟩ := getF X2z hx hZ hown (host := "") (Or.inl (own_hw hw 38 rfl)) Via.refl e2z q4 (g := (mkF m 19 #[.val (.ref sb), .val (.int x), .val (.int (Int32.ofNat (bs.length + tl.length)))] [(.ref sb), (.ref sb)])) rfl rfl (hb hby d_jdk_68_method_9_code_19)
    refine own_go st4z ?_
    show own_G p e below (T4z.setTop (mkF m 22 #[.val (.ref sb), .val (.int x), .val (.int (Int32.ofNat (bs.length + tl.length)))] [(.ref b), (.ref sb)])) _
    refine own_go (fun t k => XS.aloadN X4z.here hx rfl (hb hby d_jdk_68_method_9_code_22) rfl rfl k) ?_
    refine own_go (fun t k => XS.iloadN X4z.here hx rfl (hb hby d_jdk_68_method_9_code_23) rfl k) ?_
    obtain ⟨cq5z, qa5z, qb5z⟩ := q0.cell
    obtain ⟨_, _, ⟨T5z, L5z, k5z, n5z⟩, -, X5z, ⟨Lc5z, hQ5z, l5z, y5z, z5z⟩, st5z⟩ := X4z.privateBack hx (y := own_m3) hown (own_mw hZ hw 125 rfl) (own_mw hZ hw 126 rfl) (own_selfPrivC (args := #[]) (own_mw hZ hw 128 rfl) (Cond.privateMethod_at (mvP hZ (own_hw hw 127 rfl) (args := #[]))) (own_mw hZ hw 126 rfl) (by decide)) (Cond.privateMethod_at (mvP hZ (own_hw hw 127 rfl) (args := #[]))) (own_mw hZ hw 129 rfl) (by decide) (backOf (W := 2) (own_nc l Z a0 hw [] sb b kb bs tl mn x h0 O0 q0 q1 q2 q3 q4 q5 q6 q7 nsb hcap hxm hmn ((own_grow hxm (by omega) (by omega)).mp hc3z)) hZ (own_hw hw 129 rfl) (own_hw hw 32 rfl) (by decide) (by decide)) (g := (mkF m 24 #[.val (.ref sb), .val (.int x), .val (.int (Int32.ofNat (bs.length + tl.length)))] [(.int x), (.ref sb), (.ref b), (.ref sb)])) rfl (by rw [hml]; rfl) (Steps.refl _) (a := sb) (by rw [e4z]; exact qa5z) qb5z (argsL := [(.int x)]) (rest := [(.ref b), (.ref sb)]) (lenOf pd_2087992008 rfl) rfl (by show 2 * 0 + _ ≤ _; exact Nat.le_of_eq rfl) (hb hby d_jdk_68_method_9_code_24) (fun _ _ => ⟨rfl, e4z, (by decide : 0 + 0 ≤ _), (by decide : 0 + 0 ≤ _)⟩)
    dsimp only [Pt.U, Pt.locs, Pt.cells, Pt.slots] at X5z l5z y5z z5z st5z hQ5z
    subst l5z y5z z5z
    obtain ⟨rfl, NQ5z, K5zq⟩ := hQ5z
    refine own_tr st5z ?_
    have N5z := Fr.app N0 NQ5z
    show own_G p e below (T5z.setTop (mkF m 27 #[.val (.ref sb), .val (.int x), .val (.int (Int32.ofNat (bs.length + tl.length)))] [(.int (Int32.ofNat (own_ncap (bs.length + tl.length) mn))), (.ref b), (.ref sb)])) _
    refine own_go (fun t k => XS.aloadN X5z.here hx rfl (hb hby d_jdk_68_method_9_code_27) rfl rfl k) ?_
    obtain ⟨T6z, X6z, e6z, st6z⟩ := getF X5z hx hZ hown (host := "") (Or.inl (own_hw hw 40 rfl)) Via.refl K5zq q5 (g := (mkF m 28 #[.val (.ref sb), .val (.int x), .val (.int (Int32.ofNat (bs.length + tl.length)))] [(.ref sb), (.int (Int32.ofNat (own_ncap (bs.length + tl.length) mn))), (.ref b), (.ref sb)])) rfl rfl (hb hby d_jdk_68_method_9_code_28)
    refine own_go st6z ?_
    refine own_go (fun t k => XS.ishl X6z.here hx rfl (hb hby d_jdk_68_method_9_code_31) rfl k) ?_
    show own_G p e below (T6z.setTop (mkF m 32 #[.val (.ref sb), .val (.int x), .val (.int (Int32.ofNat (bs.length + tl.length)))] [(.int ((Int32.ofNat (own_ncap (bs.length + tl.length) mn)) <<< ((0 : Int32) &&& 31))), (.ref b), (.ref sb)])) _
    show own_G p e below (T6z.setTop (mkF m 32 #[.val (.ref sb), .val (.int x), .val (.int (Int32.ofNat (bs.length + tl.length)))] [(.int ((Int32.ofNat (own_ncap (bs.length + tl.length) mn)) <<< ((0 : Int32) &&& 31))), (.ref b), (.ref sb)])) _
    rw [own_shl0]
    show own_G p e below (T6z.setTop (mkF m 32 #[.val (.ref sb), .val (.int x), .val (.int (Int32.ofNat (bs.length + tl.length)))] [(.int (Int32.ofNat (own_ncap (bs.length + tl.length) mn))), (.ref b), (.ref sb)])) _
    obtain ⟨_, _, ⟨T7z, L7z, k7z, n7z⟩, -, X7z, ⟨Lc7z, hQ7z, l7z, y7z, z7z⟩, st7z⟩ := Jvm.LawKit.callS X6z hx (y := own_m4) hown (own_mw hZ hw 140 rfl) (own_mw hZ hw 141 rfl) (own_mw hZ hw 142 rfl) (own_mw hZ hw 143 rfl) (by decide) (backOf (W := 1) (own_cpo l Z a0 hw [] b kb (own_cv bs ++ tl) (own_ncap (bs.length + tl.length) mn) h0 O0 q7 (by rw [List.length_append, own_cv_len]; have := own_ncap_le ((own_grow hxm (by omega) (by omega)).mp hc3z) hmn; have := (own_grow hxm (by omega) (by omega)).mp hc3z; omega) (by have := own_ncap_le ((own_grow hxm (by omega) (by omega)).mp hc3z) hmn; omega)) hZ (own_hw hw 143 rfl) (own_hw hw 142 rfl) (by decide) (by decide)) (g := (mkF m 32 #[.val (.ref sb), .val (.int x), .val (.int (Int32.ofNat (bs.length + tl.length)))] [(.int (Int32.ofNat (own_ncap (bs.length + tl.length) mn))), (.ref b), (.ref sb)])) rfl (by rw [hml]; rfl) (argsL := [(.ref b), (.int (Int32.ofNat (own_ncap (bs.length + tl.length) mn)))]) (rest := [(.ref sb)]) (lenOf pd_3824263193 rfl) rfl (by show 2 * 0 + _ ≤ _; exact Nat.le_of_eq rfl) (hb hby d_jdk_68_method_9_code_32) (fun _ _ => ⟨rfl, e6z, (by decide : 0 + 1 ≤ _), (by decide : 0 + 300 ≤ _)⟩)
    dsimp only [Pt.U, Pt.locs, Pt.cells, Pt.slots] at X7z l7z y7z z7z st7z hQ7z
    subst l7z y7z z7z
    obtain ⟨r_7z, kr_7z, rfl, NQ7z, K7zq, r7z_0, r7z_1, r7z_2, r7z_3⟩ := hQ7z
    refine own_go st7z ?_
    have N7z := Fr.app N5z NQ7z
    have O8z := own_ext_keep O0 K7zq all0
    have K8z := K0.trans K7zq all0
    have lz_r_7z : h0.size ≤ r_7z := Nat.le_trans K0.1 r7z_1
    have ne_sb_r_7z : sb ≠ r_7z := Nat.ne_of_lt (Nat.lt_of_lt_of_le q0.lt r7z_1)
    have ne_b_r_7z : b ≠ r_7z := Nat.ne_of_lt (Nat.lt_of_lt_of_le q3.lt r7z_1)
    show own_G p e below (T7z.setTop (mkF m 35 #[.val (.ref sb), .val (.int x), .val (.int (Int32.ofNat (bs.length + tl.length)))] [(.ref r_7z), (.ref sb)])) _
    obtain ⟨T9z, h9z, X9z, e9z, W9z, st9z⟩ := putF X7z hx hZ hown (host := "") (Or.inl (own_hw hw 38 rfl)) Via.refl rfl (q4.keep K7zq (by simp)) (q0.keep K7zq) (Or.inl (own_hw hw 39 rfl)) (own_hw hw 23 rfl) (ty := (.array .byte)) (by decide) rfl rfl (g := (mkF m 35 #[.val (.ref sb), .val (.int x), .val (.int (Int32.ofNat (bs.length + tl.length)))] [(.ref r_7z), (.ref sb)])) rfl rfl (hb hby d_jdk_68_method_9_code_35)
    refine own_go st9z ?_
    have N9z := Fr.snoc X9z N7z q1
    have F9z : Fld Z h9z sb own_s0 "value" "[B" (.ref r_7z) := (q4.keep K7zq (by simp)).same W9z
    have O10z := own_ext_wr O8z W9z q1
    have K10z := K8z.wr W9z (Or.inl (List.mem_of_getElem? (i := 0) rfl))
    have f11z := ((q5.keep K7zq (by simp)).other W9z (Or.inr (slot_ne (Or.inl (own_hw hw 41 rfl)) (Or.inl (own_hw hw 39 rfl)) (by decide) (t := .byte) (t' := (.array .byte)) (by decide) (by decide))))
    have f12z := ((q6.keep K7zq (by simp)).other W9z (Or.inr (slot_ne (Or.inl (own_hw hw 72 rfl)) (Or.inl (own_hw hw 39 rfl)) (by decide) (t := .int) (t' := (.array .byte)) (by decide) (by decide))))
    exact own_retV X9z hx Bd.returns (hb hby d_jdk_68_method_9_code_38) hlk (Nat.le_of_ble_eq_true rfl) (Nat.le_of_ble_eq_true rfl) (by show Q_own_ens Z sb b kb bs tl mn x h0 _ T9z.heap _; rw [e9z]; exact ⟨r_7z, kr_7z, (tl ++ List.replicate ((own_ncap (bs.length + tl.length) mn) - (own_cv bs ++ tl).length) (.int (0 : Int32))), rfl, N9z, K10z, F9z, f11z, f12z, (own_A.eqs (r7z_0.other W9z (Ne.symm ne_sb_r_7z)) (List.append_assoc _ _ _)), r7z_2, (r7z_3.wr W9z), (Or.inr lz_r_7z), ne_sb_r_7z, (by have q := own_ncap_le ((own_grow hxm (by omega) (by omega)).mp hc3z) hmn; rw [List.length_append, List.length_replicate, List.length_append, own_cv_len]; omega), (by have q := own_ncap_le ((own_grow hxm (by omega) (by omega)).mp hc3z) hmn; rw [List.length_append, List.length_replicate, List.length_append, own_cv_len]; omega)⟩)
  · refine own_go (fun t k => XS.ifYes X2z.here hx rfl (pc0 := 14) (pc' := 38) rfl (hb hby d_jdk_68_method_9_code_14) rfl ((if0 _ _).trans (flt hc3z).2.2.2) (by decide) (by decide) k) ?_
    show own_G p e below (T2z.setTop (mkF m 38 #[.val (.ref sb), .val (.int x), .val (.int (Int32.ofNat (bs.length + tl.length)))] [])) _
    exact own_retV X2z hx Bd.returns (hb hby d_jdk_68_method_9_code_38) hlk (Nat.le_of_ble_eq_true rfl) (Nat.le_of_ble_eq_true rfl) (by show Q_own_ens Z sb b kb bs tl mn x h0 _ T2z.heap _; rw [e2z]; exact ⟨b, kb, tl, rfl, N0, K0, q4, q5, q6, q7, q2, q3, (Or.inl rfl), nsb, hcap, (Nat.le_of_not_lt fun q => hc3z ((own_grow hxm (by omega) (by omega)).mpr q))⟩)
theorem ef_own_coder (m : MethodId) (x0 : Addr) : entryFrame m #[(.ref x0)] 1 = mkF m 0 #[.val (.ref x0)] [] := by first | (simp [entryFrame, mkF, argsToLocals, Value.category]; done) | rfl
theorem pf_own_coder : plainFor own_m6 = true := plainFor_of_name (by simp [plainName, overriddenIn])
theorem d_jdk_42_method_152_code_0 : decode jdk_42_method_152_code 0 = .ok (.getstatic 38, 3) := by decide +kernel
theorem d_jdk_42_method_152_code_10 : decode jdk_42_method_152_code 10 = .ok (.goto 4, 3) := by decide +kernel
theorem d_jdk_42_method_152_code_14 : decode jdk_42_method_152_code 14 = .ok (.ireturn, 1) := by decide +kernel
theorem d_jdk_42_method_152_code_3 : decode jdk_42_method_152_code 3 = .ok (.ifCond .eq 10, 3) := by decide +kernel
theorem d_jdk_42_method_152_code_6 : decode jdk_42_method_152_code 6 = .ok (.aload_n 0, 1) := by decide +kernel
theorem d_jdk_42_method_152_code_7 : decode jdk_42_method_152_code 7 = .ok (.getfield 15, 3) := by decide +kernel
def Q_own_coder (Z : State) (a1 : Addr) (b1 : Addr) (k1 : ClassId) (cs1 : (List Int32)) (cz : Int32) (h0 : Heap) (v : Option Value) (h : Heap) (L : List Loc) : Prop := v = some (.int (0 : Int32)) ∧ Fr Z.heap.size L ∧ h = h0
set_option maxRecDepth 65536 in
set_option maxHeartbeats 40000000 in
theorem own_coder (l : Launch) (Z : State) (a0 : Array Value) (hw : ∀ d ∈ tables_1, d.before a0 Z = true) (ws : List Jvm.Cond) (a1 : Addr) (b1 : Addr) (k1 : ClassId) (cs1 : (List Int32)) (cz : Int32) (h0 : Heap) (O0 : Ext Z.heap h0) (q0 : Exa Z h0 a1 own_s2) (q1 : Fld Z h0 a1 own_s2 "value" "[B" (.ref b1)) (q2 : Fld Z h0 a1 own_s2 "coder" "B" (.int (0 : Int32))) (q3 : own_A Z h0 b1 k1 .byte (own_cv cs1)) (hl1 : cs1.length ≤ 200) (S_CS : Sta Z Z.heap own_s2 own_s5 "Z" (.int cz)) (hcs : ¬ (cz = (0 : Int32))) :
    MetFree l own_m6 (head1 (Jvm.Cond.code own_m6 jdk_42_method_152_code 1 (some .byte) :: ws) ({ frames := 0, cells := 0, slots := 0, locals := 0 } : Room)) (fun aa U => aa = #[(.ref a1)] ∧ Z.Warmed39 U.vm ∧ U.heap = h0) (fun _ _ _ _ _ => True) (fun _ U o U' => ∃ v L, o = .returned v ∧ Q_own_coder Z a1 b1 k1 cs1 cz h0 v U'.heap L ∧ FrameEnd U o U' L ({ frames := 0, cells := 0, slots := 0, locals := 0 } : Room).cells ({ frames := 0, cells := 0, slots := 0, locals := 0 } : Room).slots) := by
  refine MetFree.of_bodySF pf_own_coder hisR ?_
  intro p e s m args below meth c s₁ Bd hml0 hP hK
  obtain ⟨rfl, hZ, hh⟩ := hP
  have hx := Bd.exec
  have hby := Bd.bytes
  have hlk := BodyLoose.notSynchronized Bd
  have hml : c.maxLocals = 1 := hml0
  have hown : s.vm.findClass own_s2 = some m.cls := findClass_of_methodNamed Bd.named
  have hnm := (name_of_methodNamed Bd.named Bd.method).1
  have X0 : Stand p l e ({ frames := 0, cells := 0, slots := 0, locals := 0 } : Room) s m #[(.ref a1)] below meth c s₁ [] 0 0 := Stand.of_body Bd
  have e0 : s₁.heap = h0 := by rw [← hh, Bd.state]; rfl
  have N0 := Fr.nil Z.heap.size
  have K0 : Keep h0 h0 [] := Keep.refl _ _
  refine own_start (Q := Q_own_coder Z a1 b1 k1 cs1 cz h0) (ef_own_coder m (a1)) ?_
  show own_G p e below (s₁.setTop (mkF m 0 #[.val (.ref a1)] [])) _
  obtain ⟨T1z, X1z, e1z, st1z⟩ := getS2 X0 hx hZ hown (host := "") (Or.inl (own_hw hw 69 rfl)) Via.refl e0 (S_CS.ext O0) (g := (mkF m 0 #[.val (.ref a1)] [])) rfl (hb hby d_jdk_42_method_152_code_0)
  refine own_go st1z ?_
  refine own_go (fun t k => XS.ifNo X1z.here hx rfl (hb hby d_jdk_42_method_152_code_3) rfl ((if0 _ _).trans (feq hcs).1) k) ?_
  show own_G p e below (T1z.setTop (mkF m 6 #[.val (.ref a1)] [])) _
  refine own_go (fun t k => XS.aloadN X1z.here hx rfl (hb hby d_jdk_42_method_152_code_6) rfl rfl k) ?_
  obtain ⟨T2z, X2z, e2z, st2z⟩ := getF X1z hx hZ hown (host := "") (Or.inl (own_hw hw 70 rfl)) Via.refl e1z q2 (g := (mkF m 7 #[.val (.ref a1)] [(.ref a1)])) rfl rfl (hb hby d_jdk_42_method_152_code_7)
  refine own_go st2z ?_
  refine own_go (fun t k => XS.goto X2z.here hx rfl (pc0 := 10) (pc' := 14) rfl (hb hby d_jdk_42_method_152_code_10) (by decide) (by decide) k) ?_
  show own_G p e below (T2z.setTop (mkF m 14 #[.val (.ref a1)] [(.int (0 : Int32))])) _
  exact own_ret X2z hx Bd.returns rfl (Or.inl ⟨rfl, Or.inr (Or.inr (Or.inl rfl)), _, rfl⟩) (hb hby d_jdk_42_method_152_code_14) hlk (Nat.le_of_ble_eq_true rfl) (Nat.le_of_ble_eq_true rfl) (by show Q_own_coder Z a1 b1 k1 cs1 cz h0 _ T2z.heap _; rw [e2z]; exact ⟨rfl, N0, rfl⟩)
theorem ef_own_slen (m : MethodId) (x0 : Addr) : entryFrame m #[(.ref x0)] 1 = mkF m 0 #[.val (.ref x0)] [] := by first | (simp [entryFrame, mkF, argsToLocals, Value.category]; done) | rfl
theorem pf_own_slen : plainFor own_m7 = true := plainFor_of_name (by simp [plainName, overriddenIn])
theorem pd_193421976 : parseMethodDescriptor "()B" = some ⟨[], some .byte⟩ := by decide +kernel
theorem d_jdk_42_method_54_code_0 : decode jdk_42_method_54_code 0 = .ok (.aload_n 0, 1) := by decide +kernel
theorem d_jdk_42_method_54_code_1 : decode jdk_42_method_54_code 1 = .ok (.getfield 9, 3) := by decide +kernel
theorem d_jdk_42_method_54_code_10 : decode jdk_42_method_54_code 10 = .ok (.ireturn, 1) := by decide +kernel
theorem d_jdk_42_method_54_code_4 : decode jdk_42_method_54_code 4 = .ok (.arraylength, 1) := by decide +kernel
theorem d_jdk_42_method_54_code_5 : decode jdk_42_method_54_code 5 = .ok (.aload_n 0, 1) := by decide +kernel
theorem d_jdk_42_method_54_code_6 : decode jdk_42_method_54_code 6 = .ok (.invokevirtual 335, 3) := by decide +kernel
theorem d_jdk_42_method_54_code_9 : decode jdk_42_method_54_code 9 = .ok (.ishr, 1) := by decide +kernel
def Q_own_slen (Z : State) (a1 : Addr) (b1 : Addr) (k1 : ClassId) (cs1 : (List Int32)) (cz : Int32) (h0 : Heap) (v : Option Value) (h : Heap) (L : List Loc) : Prop := v = some (.int (Int32.ofNat cs1.length)) ∧ Fr Z.heap.size L ∧ h = h0
set_option maxRecDepth 65536 in
set_option maxHeartbeats 40000000 in
theorem own_slen (l : Launch) (Z : State) (a0 : Array Value) (hw : ∀ d ∈ tables_1, d.before a0 Z = true) (ws : List Jvm.Cond) (a1 : Addr) (b1 : Addr) (k1 : ClassId) (cs1 : (List Int32)) (cz : Int32) (h0 : Heap) (O0 : Ext Z.heap h0) (q0 : Exa Z h0 a1 own_s2) (q1 : Fld Z h0 a1 own_s2 "value" "[B" (.ref b1)) (q2 : Fld Z h0 a1 own_s2 "coder" "B" (.int (0 : Int32))) (q3 : own_A Z h0 b1 k1 .byte (own_cv cs1)) (hl1 : cs1.length ≤ 200) (S_CS : Sta Z Z.heap own_s2 own_s5 "Z" (.int cz)) (hcs : ¬ (cz = (0 : Int32))) :
    MetFree l own_m7 (head1 (Jvm.Cond.code own_m7 jdk_42_method_54_code 1 (some .int) :: ws) ({ frames := 1, cells := 0, slots := 0, locals := 14 } : Room)) (fun aa U => aa = #[(.ref a1)] ∧ Z.Warmed39 U.vm ∧ U.heap = h0) (fun _ _ _ _ _ => True) (fun _ U o U' => ∃ v L, o = .returned v ∧ Q_own_slen Z a1 b1 k1 cs1 cz h0 v U'.heap L ∧ FrameEnd U o U' L ({ frames := 1, cells := 0, slots := 0, locals := 14 } : Room).cells ({ frames := 1, cells := 0, slots := 0, locals := 14 } : Room).slots) := by
  refine MetFree.of_bodySF pf_own_slen hisR ?_
  intro p e s m args below meth c s₁ Bd hml0 hP hK
  obtain ⟨rfl, hZ, hh⟩ := hP
  have hx := Bd.exec
  have hby := Bd.bytes
  have hlk := BodyLoose.notSynchronized Bd
  have hml : c.maxLocals = 1 := hml0
  have hown : s.vm.findClass own_s2 = some m.cls := findClass_of_methodNamed Bd.named
  have hnm := (name_of_methodNamed Bd.named Bd.method).1
  have X0 : Stand p l e ({ frames := 1, cells := 0, slots := 0, locals := 14 } : Room) s m #[(.ref a1)] below meth c s₁ [] 0 0 := Stand.of_body Bd
  have e0 : s₁.heap = h0 := by rw [← hh, Bd.state]; rfl
  have N0 := Fr.nil Z.heap.size
  have K0 : Keep h0 h0 [] := Keep.refl _ _
  refine own_start (Q := Q_own_slen Z a1 b1 k1 cs1 cz h0) (ef_own_slen m (a1)) ?_
  show own_G p e below (s₁.setTop (mkF m 0 #[.val (.ref a1)] [])) _
  refine own_go (fun t k => XS.aloadN X0.here hx rfl (hb hby d_jdk_42_method_54_code_0) rfl rfl k) ?_
  obtain ⟨T1z, X1z, e1z, st1z⟩ := getF X0 hx hZ hown (host := "") (Or.inl (own_hw hw 63 rfl)) Via.refl e0 q1 (g := (mkF m 1 #[.val (.ref a1)] [(.ref a1)])) rfl rfl (hb hby d_jdk_42_method_54_code_1)
  refine own_go st1z ?_
  refine own_go (own_len X1z hx hZ e1z q3 (z := (Int32.ofNat cs1.length)) (by rw [own_cv_len]; exact own_ofN (by omega)) (g := (mkF m 4 #[.val (.ref a1)] [(.ref b1)])) rfl rfl (hb hby d_jdk_42_method_54_code_4)) ?_
  show own_G p e below (T1z.setTop (mkF m 5 #[.val (.ref a1)] [(.int (Int32.ofNat cs1.length))])) _
  refine own_go (fun t k => XS.aloadN X1z.here hx rfl (hb hby d_jdk_42_method_54_code_5) rfl rfl k) ?_
  obtain ⟨cq2z, kq2z, qa2z, qb2z, qc2z⟩ := isOf hZ e1z q0
  obtain ⟨_, _, ⟨T2z, L2z, k2z, n2z⟩, -, X2z, ⟨Lc2z, hQ2z, l2z, y2z, z2z⟩, st2z⟩ := X1z.virtualBack hx (y := own_m6) (z := own_m6) hown (own_mw hZ hw 64 rfl) (own_mw hZ hw 65 rfl) (notFace_of_selects (args := #[]) (own_mw hZ hw 67 rfl)) (own_mw hZ hw 67 rfl) (own_mw hZ hw 66 rfl) (by decide) (backOf (W := 1) (own_coder l Z a0 hw [] a1 b1 k1 cs1 cz h0 O0 q0 q1 q2 q3 hl1 S_CS hcs) hZ (own_hw hw 68 rfl) (own_hw hw 36 rfl) (by decide) (by decide)) qa2z qc2z (g := (mkF m 6 #[.val (.ref a1)] [(.ref a1), (.int (Int32.ofNat cs1.length))])) rfl (by rw [hml]; rfl) (Steps.refl _) (argsL := []) (rest := [(.int (Int32.ofNat cs1.length))]) (lenOf pd_193421976 rfl) rfl (by show 2 * 0 + _ ≤ _; exact Nat.le_of_eq rfl) (hb hby d_jdk_42_method_54_code_6) (fun _ _ => ⟨rfl, e1z, (by decide : 0 + 0 ≤ _), (by decide : 0 + 0 ≤ _)⟩)
  dsimp only [Pt.U, Pt.locs, Pt.cells, Pt.slots] at X2z l2z y2z z2z st2z hQ2z
  subst l2z y2z z2z
  obtain ⟨rfl, NQ2z, K2zq⟩ := hQ2z
  refine own_tr st2z ?_
  have N2z := Fr.app N0 NQ2z
  show own_G p e below (T2z.setTop (mkF m 9 #[.val (.ref a1)] [(.int (0 : Int32)), (.int (Int32.ofNat cs1.length))])) _
  refine own_go (fun t k => XS.ishr X2z.here hx rfl (hb hby d_jdk_42_method_54_code_9) rfl k) ?_
  show own_G p e below (T2z.setTop (mkF m 10 #[.val (.ref a1)] [(.int ((Int32.ofNat cs1.length) >>> ((0 : Int32) &&& 31)))])) _
  rw [own_shr0]
  show own_G p e below (T2z.setTop (mkF m 10 #[.val (.ref a1)] [(.int (Int32.ofNat cs1.length))])) _
  exact own_ret X2z hx Bd.returns rfl (Or.inl ⟨rfl, Or.inl rfl, _, rfl⟩) (hb hby d_jdk_42_method_54_code_10) hlk (Nat.le_of_ble_eq_true rfl) (Nat.le_of_ble_eq_true rfl) (by show Q_own_slen Z a1 b1 k1 cs1 cz h0 _ T2z.heap _; rw [K2zq]; exact ⟨rfl, N2z, rfl⟩)
theorem ef_own_gb (m : MethodId) (x0 : Addr) (x1 : Addr) (x2 : Int32) (x3 : Int32) : entryFrame m #[(.ref x0), (.ref x1), (.int x2), (.int x3)] 4 = mkF m 0 #[.val (.ref x0), .val (.ref x1), .val (.int x2), .val (.int x3)] [] := by first | (simp [entryFrame, mkF, argsToLocals, Value.category]; done) | rfl
theorem pf_own_gb : plainFor own_m8 = true := plainFor_of_name (by simp [plainName, overriddenIn])
theorem d_jdk_42_method_147_code_0 : decode jdk_42_method_147_code 0 = .ok (.aload_n 0, 1) := by decide +kernel
theorem d_jdk_42_method_147_code_1 : decode jdk_42_method_147_code 1 = .ok (.invokevirtual 335, 3) := by decide +kernel
theorem d_jdk_42_method_147_code_12 : decode jdk_42_method_147_code 12 = .ok (.iconst 0, 1) := by decide +kernel
theorem d_jdk_42_method_147_code_13 : decode jdk_42_method_147_code 13 = .ok (.aload_n 1, 1) := by decide +kernel
theorem d_jdk_42_method_147_code_14 : decode jdk_42_method_147_code 14 = .ok (.iload_n 2, 1) := by decide +kernel
theorem d_jdk_42_method_147_code_15 : decode jdk_42_method_147_code 15 = .ok (.iload_n 3, 1) := by decide +kernel
theorem d_jdk_42_method_147_code_16 : decode jdk_42_method_147_code 16 = .ok (.ishl, 1) := by decide +kernel
theorem d_jdk_42_method_147_code_17 : decode jdk_42_method_147_code 17 = .ok (.aload_n 0, 1) := by decide +kernel
theorem d_jdk_42_method_147_code_18 : decode jdk_42_method_147_code 18 = .ok (.getfield 9, 3) := by decide +kernel
theorem d_jdk_42_method_147_code_21 : decode jdk_42_method_147_code 21 = .ok (.arraylength, 1) := by decide +kernel
theorem d_jdk_42_method_147_code_22 : decode jdk_42_method_147_code 22 = .ok (.invokestatic 212, 3) := by decide +kernel
theorem d_jdk_42_method_147_code_25 : decode jdk_42_method_147_code 25 = .ok (.goto 18, 3) := by decide +kernel
theorem d_jdk_42_method_147_code_4 : decode jdk_42_method_147_code 4 = .ok (.iload_n 3, 1) := by decide +kernel
theorem d_jdk_42_method_147_code_43 : decode jdk_42_method_147_code 43 = .ok (.return_, 1) := by decide +kernel
theorem d_jdk_42_method_147_code_5 : decode jdk_42_method_147_code 5 = .ok (.if_icmp .ne 23, 3) := by decide +kernel
theorem d_jdk_42_method_147_code_8 : decode jdk_42_method_147_code 8 = .ok (.aload_n 0, 1) := by decide +kernel
theorem d_jdk_42_method_147_code_9 : decode jdk_42_method_147_code 9 = .ok (.getfield 9, 3) := by decide +kernel
def Q_own_gb (Z : State) (a1 : Addr) (b1 : Addr) (k1 : ClassId) (cs1 : (List Int32)) (dst : Addr) (kd : ClassId) (vd : (List Value)) (j : Nat) (cz : Int32) (h0 : Heap) (v : Option Value) (h : Heap) (L : List Loc) : Prop := v = none ∧ Fr Z.heap.size L ∧ Keep h0 h [dst] ∧ (own_A Z h dst kd .byte (vd.take j ++ own_cv cs1 ++ vd.drop (j + cs1.length)))
set_option maxRecDepth 65536 in
set_option maxHeartbeats 40000000 in
theorem own_gb (l : Launch) (Z : State) (a0 : Array Value) (hw : ∀ d ∈ tables_1, d.before a0 Z = true) (ws : List Jvm.Cond) (a1 : Addr) (b1 : Addr) (k1 : ClassId) (cs1 : (List Int32)) (dst : Addr) (kd : ClassId) (vd : (List Value)) (j : Nat) (cz : Int32) (h0 : Heap) (O0 : Ext Z.heap h0) (q0 : Exa Z h0 a1 own_s2) (q1 : Fld Z h0 a1 own_s2 "value" "[B" (.ref b1)) (q2 : Fld Z h0 a1 own_s2 "coder" "B" (.int (0 : Int32))) (q3 : own_A Z h0 b1 k1 .byte (own_cv cs1)) (hl1 : cs1.length ≤ 200) (q5 : Z.heap.size ≤ dst) (q6 : own_A Z h0 dst kd .byte vd) (hj : j + cs1.length ≤ vd.length) (hvd : vd.length ≤ 1000) (nd : b1 ≠ dst) (S_CS : Sta Z Z.heap own_s2 own_s5 "Z" (.int cz)) (hcs : ¬ (cz = (0 : Int32))) :
    MetFree l own_m8 (head1 (Jvm.Cond.code own_m8 jdk_42_method_147_code 4 none :: ws) ({ frames := 1, cells := 0, slots := 0, locals := 22 } : Room)) (fun aa U => aa = #[(.ref a1), (.ref dst), (.int (Int32.ofNat j)), (.int (0 : Int32))] ∧ Z.Warmed39 U.vm ∧ U.heap = h0) (fun _ _ _ _ _ => True) (fun _ U o U' => ∃ v L, o = .returned v ∧ Q_own_gb Z a1 b1 k1 cs1 dst kd vd j cz h0 v U'.heap L ∧ FrameEnd U o U' L ({ frames := 1, cells := 0, slots := 0, locals := 22 } : Room).cells ({ frames := 1, cells := 0, slots := 0, locals := 22 } : Room).slots) := by
  refine MetFree.of_bodySF pf_own_gb hisR ?_
  intro p e s m args below meth c s₁ Bd hml0 hP hK
  obtain ⟨rfl, hZ, hh⟩ := hP
  have hx := Bd.exec
  have hby := Bd.bytes
  have hlk := BodyLoose.notSynchronized Bd
  have hml : c.maxLocals = 4 := hml0
  have hown : s.vm.findClass own_s2 = some m.cls := findClass_of_methodNamed Bd.named
  have hnm := (name_of_methodNamed Bd.named Bd.method).1
  have X0 : Stand p l e ({ frames := 1, cells := 0, slots := 0, locals := 22 } : Room) s m #[(.ref a1), (.ref dst), (.int (Int32.ofNat j)), (.int (0 : Int32))] below meth c s₁ [] 0 0 := Stand.of_body Bd
  have e0 : s₁.heap = h0 := by rw [← hh, Bd.state]; rfl
  have N0 := Fr.nil Z.heap.size
  have K0 : Keep h0 h0 [dst] := Keep.refl _ _
  refine own_start (Q := Q_own_gb Z a1 b1 k1 cs1 dst kd vd j cz h0) (ef_own_gb m (a1) (dst) ((Int32.ofNat j)) ((0 : Int32))) ?_
  show own_G p e below (s₁.setTop (mkF m 0 #[.val (.ref a1), .val (.ref dst), .val (.int (Int32.ofNat j)), .val (.int (0 : Int32))] [])) _
  refine own_go (fun t k => XS.aloadN X0.here hx rfl (hb hby d_jdk_42_method_147_code_0) rfl rfl k) ?_
  obtain ⟨cq1z, kq1z, qa1z, qb1z, qc1z⟩ := isOf hZ e0 q0
  obtain ⟨_, _, ⟨T1z, L1z, k1z, n1z⟩, -, X1z, ⟨Lc1z, hQ1z, l1z, y1z, z1z⟩, st1z⟩ := X0.virtualBack hx (y := own_m6) (z := own_m6) hown (own_mw hZ hw 64 rfl) (own_mw hZ hw 65 rfl) (notFace_of_selects (args := #[]) (own_mw hZ hw 67 rfl)) (own_mw hZ hw 67 rfl) (own_mw hZ hw 66 rfl) (by decide) (backOf (W := 0) (own_coder l Z a0 hw [] a1 b1 k1 cs1 cz h0 O0 q0 q1 q2 q3 hl1 S_CS hcs) hZ (own_hw hw 68 rfl) (own_hw hw 36 rfl) (by decide) (by decide)) qa1z qc1z (g := (mkF m 1 #[.val (.ref a1), .val (.ref dst), .val (.int (Int32.ofNat j)), .val (.int (0 : Int32))] [(.ref a1)])) rfl (by rw [hml]; rfl) (Steps.refl _) (argsL := []) (rest := []) (lenOf pd_193421976 rfl) rfl (by show 2 * 0 + _ ≤ _; exact Nat.le_of_eq rfl) (hb hby d_jdk_42_method_147_code_1) (fun _ _ => ⟨rfl, e0, (by decide : 0 + 0 ≤ _), (by decide : 0 + 0 ≤ _)⟩)
  dsimp only [Pt.U, Pt.locs, Pt.cells, Pt.slots] at X1z l1z y1z z1z st1z hQ1z
  subst l1z y1z z1z
  obtain ⟨rfl, NQ1z, K1zq⟩ := hQ1z
  refine own_tr st1z ?_
  have N1z := Fr.app N0 NQ1z
  show own_G p e below (T1z.setTop (mkF m 4 #[.val (.ref a1), .val (.ref dst), .val (.int (Int32.ofNat j)), .val (.int (0 : Int32))] [(.int (0 : Int32))])) _
  refine own_go (fun t k => XS.iloadN X1z.here hx rfl (hb hby d_jdk_42_method_147_code_4) rfl k) ?_
  refine own_go (fun t k => XS.icmpNo X1z.here hx rfl (hb hby d_jdk_42_method_147_code_5) rfl (teq (by decide : (0 : Int32) = (0 : Int32))).2 k) ?_
  show own_G p e below (T1z.setTop (mkF m 8 #[.val (.ref a1), .val (.ref dst), .val (.int (Int32.ofNat j)), .val (.int (0 : Int32))] [])) _
  refine own_go (fun t k => XS.aloadN X1z.here hx rfl (hb hby d_jdk_42_method_147_code_8) rfl rfl k) ?_
  obtain ⟨T2z, X2z, e2z, st2z⟩ := getF X1z hx hZ hown (host := "") (Or.inl (own_hw hw 63 rfl)) Via.refl K1zq q1 (g := (mkF m 9 #[.val (.ref a1), .val (.ref dst), .val (.int (Int32.ofNat j)), .val (.int (0 : Int32))] [(.ref a1)])) rfl rfl (hb hby d_jdk_42_method_147_code_9)
  refine own_go st2z ?_
  refine own_go (fun t k => XS.iconst X2z.here hx rfl (hb hby d_jdk_42_method_147_code_12) k) ?_
  show own_G p e below (T2z.setTop (mkF m 13 #[.val (.ref a1), .val (.ref dst), .val (.int (Int32.ofNat j)), .val (.int (0 : Int32))] [(.int (0 : Int32)), (.ref b1)])) _
  refine own_go (fun t k => XS.aloadN X2z.here hx rfl (hb hby d_jdk_42_method_147_code_13) rfl rfl k) ?_
  refine own_go (fun t k => XS.iloadN X2z.here hx rfl (hb hby d_jdk_42_method_147_code_14) rfl k) ?_
  refine own_go (fun t k => XS.iloadN X2z.here hx rfl (hb hby d_jdk_42_method_147_code_15) rfl k) ?_
  show own_G p e below (T2z.setTop (mkF m 16 #[.val (.ref a1), .val (.ref dst), .val (.int (Int32.ofNat j)), .val (.int (0 : Int32))] [(.int (0 : Int32)), (.int (Int32.ofNat j)), (.ref dst), (.int (0 : Int32)), (.ref b1)])) _
  refine own_go (fun t k => XS.ishl X2z.here hx rfl (hb hby d_jdk_42_method_147_code_16) rfl k) ?_
  show own_G p e below (T2z.setTop (mkF m 17 #[.val (.ref a1), .val (.ref dst), .val (.int (Int32.ofNat j)), .val (.int (0 : Int32))] [(.int ((Int32.ofNat j) <<< ((0 : Int32) &&& 31))), (.ref dst), (.int (0 : Int32)), (.ref b1)])) _
  rw [own_shl0]
  show own_G p e below (T2z.setTop (mkF m 17 #[.val (.ref a1), .val (.ref dst), .val (.int (Int32.ofNat j)), .val (.int (0 : Int32))] [(.int (Int32.ofNat j)), (.ref dst), (.int (0 : Int32)), (.ref b1)])) _
  refine own_go (fun t k => XS.aloadN X2z.here hx rfl (hb hby d_jdk_42_method_147_code_17) rfl rfl k) ?_
  obtain ⟨T3z, X3z, e3z, st3z⟩ := getF X2z hx hZ hown (host := "") (Or.inl (own_hw hw 63 rfl)) Via.refl e2z q1 (g := (mkF m 18 #[.val (.ref a1), .val (.ref dst), .val (.int (Int32.ofNat j)), .val (.int (0 : Int32))] [(.ref a1), (.int (Int32.ofNat j)), (.ref dst), (.int (0 : Int32)), (.ref b1)])) rfl rfl (hb hby d_jdk_42_method_147_code_18)
  refine own_go st3z ?_
  refine own_go (own_len X3z hx hZ e3z q3 (z := (Int32.ofNat cs1.length)) (by rw [own_cv_len]; exact own_ofN (by omega)) (g := (mkF m 21 #[.val (.ref a1), .val (.ref dst), .val (.int (Int32.ofNat j)), .val (.int (0 : Int32))] [(.ref b1), (.int (Int32.ofNat j)), (.ref dst), (.int (0 : Int32)), (.ref b1)])) rfl rfl (hb hby d_jdk_42_method_147_code_21)) ?_
  show own_G p e below (T3z.setTop (mkF m 22 #[.val (.ref a1), .val (.ref dst), .val (.int (Int32.ofNat j)), .val (.int (0 : Int32))] [(.int (Int32.ofNat cs1.length)), (.int (Int32.ofNat j)), (.ref dst), (.int (0 : Int32)), (.ref b1)])) _
  obtain ⟨T4z, h4z, L4z, X4z, e4z, N4z, K4zq, V4z, st4z⟩ := own_cp X3z hx hZ hown (own_hw hw 94 rfl) (own_hw hw 97 rfl) (own_hw hw 95 rfl) (own_hw hw 96 rfl) e3z (us := (own_cv cs1)) (vr := (vd.take j ++ own_cv cs1 ++ vd.drop (j + cs1.length))) (i := 0) (j := j) (n := cs1.length) q3 q6 (by rw [own_cv_len]; omega) (by omega) (Or.inl ⟨rfl, rfl⟩) (by decide) (own_ofN (by omega)) (own_ofN (by omega)) (by rw [own_cv_len]; omega) hj (by rw [List.drop_zero, ← own_cv_len cs1, List.take_length]) rfl N1z q5 (g := (mkF m 22 #[.val (.ref a1), .val (.ref dst), .val (.int (Int32.ofNat j)), .val (.int (0 : Int32))] [(.int (Int32.ofNat cs1.length)), (.int (Int32.ofNat j)), (.ref dst), (.int (0 : Int32)), (.ref b1)])) rfl (by rw [hml]; rfl) rfl (hb hby d_jdk_42_method_147_code_22) (by decide) (W := 0) (by show 2 * 0 + _ ≤ _; exact Nat.le_of_eq rfl) (by decide)
  refine own_go st4z ?_
  have O5z := own_ext_keep O0 K4zq (allS q5 all0)
  have K5z := K0.trans K4zq (allS (Or.inl (List.mem_of_getElem? (i := 0) rfl)) all0)
  show own_G p e below (T4z.setTop (mkF m 25 #[.val (.ref a1), .val (.ref dst), .val (.int (Int32.ofNat j)), .val (.int (0 : Int32))] [])) _
  refine own_go (fun t k => XS.goto X4z.here hx rfl (pc0 := 25) (pc' := 43) rfl (hb hby d_jdk_42_method_147_code_25) (by decide) (by decide) k) ?_
  show own_G p e below (T4z.setTop (mkF m 43 #[.val (.ref a1), .val (.ref dst), .val (.int (Int32.ofNat j)), .val (.int (0 : Int32))] [])) _
  exact own_retV X4z hx Bd.returns (hb hby d_jdk_42_method_147_code_43) hlk (Nat.le_of_ble_eq_true rfl) (Nat.le_of_ble_eq_true rfl) (by show Q_own_gb Z a1 b1 k1 cs1 dst kd vd j cz h0 _ T4z.heap _; rw [e4z]; exact ⟨rfl, N4z, K5z, V4z⟩)
theorem ef_own_inf (m : MethodId) (x0 : Addr) (x1 : Addr) : entryFrame m #[(.ref x0), (.ref x1)] 2 = mkF m 0 #[.val (.ref x0), .val (.ref x1)] [] := by first | (simp [entryFrame, mkF, argsToLocals, Value.category]; done) | rfl
theorem pf_own_inf : plainFor own_m9 = true := plainFor_of_name (by simp [plainName, overriddenIn])
theorem d_jdk_68_method_71_code_0 : decode jdk_68_method_71_code 0 = .ok (.getstatic 18, 3) := by decide +kernel
theorem d_jdk_68_method_71_code_10 : decode jdk_68_method_71_code 10 = .ok (.aload_n 1, 1) := by decide +kernel
theorem d_jdk_68_method_71_code_11 : decode jdk_68_method_71_code 11 = .ok (.invokevirtual 40, 3) := by decide +kernel
theorem d_jdk_68_method_71_code_14 : decode jdk_68_method_71_code 14 = .ok (.if_icmp .eq 7, 3) := by decide +kernel
theorem d_jdk_68_method_71_code_21 : decode jdk_68_method_71_code 21 = .ok (.return_, 1) := by decide +kernel
theorem d_jdk_68_method_71_code_3 : decode jdk_68_method_71_code 3 = .ok (.ifCond .eq 18, 3) := by decide +kernel
theorem d_jdk_68_method_71_code_6 : decode jdk_68_method_71_code 6 = .ok (.aload_n 0, 1) := by decide +kernel
theorem d_jdk_68_method_71_code_7 : decode jdk_68_method_71_code 7 = .ok (.getfield 22, 3) := by decide +kernel
def Q_own_inf (Z : State) (sb : Addr) (b : Addr) (kb : ClassId) (bs : (List Int32)) (tl : (List Value)) (a1 : Addr) (b1 : Addr) (k1 : ClassId) (cs1 : (List Int32)) (cz : Int32) (h0 : Heap) (v : Option Value) (h : Heap) (L : List Loc) : Prop := v = none ∧ Fr Z.heap.size L ∧ h = h0
set_option maxRecDepth 65536 in
set_option maxHeartbeats 40000000 in
theorem own_inf (l : Launch) (Z : State) (a0 : Array Value) (hw : ∀ d ∈ tables_1, d.before a0 Z = true) (ws : List Jvm.Cond) (sb : Addr) (b : Addr) (kb : ClassId) (bs : (List Int32)) (tl : (List Value)) (a1 : Addr) (b1 : Addr) (k1 : ClassId) (cs1 : (List Int32)) (cz : Int32) (h0 : Heap) (O0 : Ext Z.heap h0) (q0 : Exa Z h0 sb own_s3) (q1 : Z.heap.size ≤ sb) (q2 : Z.heap.size ≤ b) (q3 : Exa Z h0 b "[B") (q4 : Fld Z h0 sb own_s0 "value" "[B" (.ref b)) (q5 : Fld Z h0 sb own_s0 "coder" "B" (.int (0 : Int32))) (q6 : Fld Z h0 sb own_s0 "count" "I" (.int (Int32.ofNat bs.length))) (q7 : own_A Z h0 b kb .byte (own_cv bs ++ tl)) (nsb : sb ≠ b) (hcap : bs.length + tl.length ≤ 242) (q10 : Exa Z h0 a1 own_s2) (q11 : Fld Z h0 a1 own_s2 "value" "[B" (.ref b1)) (q12 : Fld Z h0 a1 own_s2 "coder" "B" (.int (0 : Int32))) (q13 : own_A Z h0 b1 k1 .byte (own_cv cs1)) (hl1 : cs1.length ≤ 200) (S_CS : Sta Z Z.heap own_s2 own_s5 "Z" (.int cz)) (hcs : ¬ (cz = (0 : Int32))) :
    MetFree l own_m9 (head1 (Jvm.Cond.code own_m9 jdk_68_method_71_code 2 none :: ws) ({ frames := 1, cells := 0, slots := 0, locals := 14 } : Room)) (fun aa U => aa = #[(.ref sb), (.ref a1)] ∧ Z.Warmed39 U.vm ∧ U.heap = h0) (fun _ _ _ _ _ => True) (fun _ U o U' => ∃ v L, o = .returned v ∧ Q_own_inf Z sb b kb bs tl a1 b1 k1 cs1 cz h0 v U'.heap L ∧ FrameEnd U o U' L ({ frames := 1, cells := 0, slots := 0, locals := 14 } : Room).cells ({ frames := 1, cells := 0, slots := 0, locals := 14 } : Room).slots) := by
  refine MetFree.of_bodySF pf_own_inf hisR ?_
  intro p e s m args below meth c s₁ Bd hml0 hP hK
  obtain ⟨rfl, hZ, hh⟩ := hP
  have hx := Bd.exec
  have hby := Bd.bytes
  have hlk := BodyLoose.notSynchronized Bd
  have hml : c.maxLocals = 2 := hml0
  have hown : s.vm.findClass own_s0 = some m.cls := findClass_of_methodNamed Bd.named
  have hnm := (name_of_methodNamed Bd.named Bd.method).1
  have X0 : Stand p l e ({ frames := 1, cells := 0, slots := 0, locals := 14 } : Room) s m #[(.ref sb), (.ref a1)] below meth c s₁ [] 0 0 := Stand.of_body Bd
  have e0 : s₁.heap = h0 := by rw [← hh, Bd.state]; rfl
  have N0 := Fr.nil Z.heap.size
  have K0 : Keep h0 h0 [] := Keep.refl _ _
  refine own_start (Q := Q_own_inf Z sb b kb bs tl a1 b1 k1 cs1 cz h0) (ef_own_inf m (sb) (a1)) ?_
  show own_G p e below (s₁.setTop (mkF m 0 #[.val (.ref sb), .val (.ref a1)] [])) _
  obtain ⟨T1z, X1z, e1z, st1z⟩ := getS2 X0 hx hZ hown (host := "") (Or.inl (own_hw hw 35 rfl)) Via.refl e0 (S_CS.ext O0) (g := (mkF m 0 #[.val (.ref sb), .val (.ref a1)] [])) rfl (hb hby d_jdk_68_method_71_code_0)
  refine own_go st1z ?_
  refine own_go (fun t k => XS.ifNo X1z.here hx rfl (hb hby d_jdk_68_method_71_code_3) rfl ((if0 _ _).trans (feq hcs).1) k) ?_
  show own_G p e below (T1z.setTop (mkF m 6 #[.val (.ref sb), .val (.ref a1)] [])) _
  refine own_go (fun t k => XS.aloadN X1z.here hx rfl (hb hby d_jdk_68_method_71_code_6) rfl rfl k) ?_
  obtain ⟨T2z, X2z, e2z, st2z⟩ := getF X1z hx hZ hown (host := "") (Or.inl (own_hw hw 40 rfl)) Via.refl e1z q5 (g := (mkF m 7 #[.val (.ref sb), .val (.ref a1)] [(.ref sb)])) rfl rfl (hb hby d_jdk_68_method_71_code_7)
  refine own_go st2z ?_
  refine own_go (fun t k => XS.aloadN X2z.here hx rfl (hb hby d_jdk_68_method_71_code_10) rfl rfl k) ?_
  show own_G p e below (T2z.setTop (mkF m 11 #[.val (.ref sb), .val (.ref a1)] [(.ref a1), (.int (0 : Int32))])) _
  obtain ⟨cq3z, kq3z, qa3z, qb3z, qc3z⟩ := isOf hZ e2z q10
  obtain ⟨_, _, ⟨T3z, L3z, k3z, n3z⟩, -, X3z, ⟨Lc3z, hQ3z, l3z, y3z, z3z⟩, st3z⟩ := X2z.virtualBack hx (y := own_m6) (z := own_m6) hown (own_mw hZ hw 88 rfl) (own_mw hZ hw 65 rfl) (notFace_of_selects (args := #[]) (own_mw hZ hw 67 rfl)) (own_mw hZ hw 67 rfl) (own_mw hZ hw 66 rfl) (by decide) (backOf (W := 1) (own_coder l Z a0 hw [] a1 b1 k1 cs1 cz h0 O0 q10 q11 q12 q13 hl1 S_CS hcs) hZ (own_hw hw 68 rfl) (own_hw hw 36 rfl) (by decide) (by decide)) qa3z qc3z (g := (mkF m 11 #[.val (.ref sb), .val (.ref a1)] [(.ref a1), (.int (0 : Int32))])) rfl (by rw [hml]; rfl) (Steps.refl _) (argsL := []) (rest := [(.int (0 : Int32))]) (lenOf pd_193421976 rfl) rfl (by show 2 * 0 + _ ≤ _; exact Nat.le_of_eq rfl) (hb hby d_jdk_68_method_71_code_11) (fun _ _ => ⟨rfl, e2z, (by decide : 0 + 0 ≤ _), (by decide : 0 + 0 ≤ _)⟩)
  dsimp only [Pt.U, Pt.locs, Pt.cells, Pt.slots] at X3z l3z y3z z3z st3z hQ3z
  subst l3z y3z z3z
  obtain ⟨rfl, NQ3z, K3zq⟩ := hQ3z
  refine own_tr st3z ?_
  have N3z := Fr.app N0 NQ3z
  show own_G p e below (T3z.setTop (mkF m 14 #[.val (.ref sb), .val (.ref a1)] [(.int (0 : Int32)), (.int (0 : Int32))])) _
  refine own_go (fun t k => XS.icmpYes X3z.here hx rfl (pc0 := 14) (pc' := 21) rfl (hb hby d_jdk_68_method_71_code_14) rfl (teq (by decide : (0 : Int32) = (0 : Int32))).1 (by decide) (by decide) k) ?_
  show own_G p e below (T3z.setTop (mkF m 21 #[.val (.ref sb), .val (.ref a1)] [])) _
  exact own_retV X3z hx Bd.returns (hb hby d_jdk_68_method_71_code_21) hlk (Nat.le_of_ble_eq_true rfl) (Nat.le_of_ble_eq_true rfl) (by show Q_own_inf Z sb b kb bs tl a1 b1 k1 cs1 cz h0 _ T3z.heap _; rw [K3zq]; exact ⟨rfl, N3z, rfl⟩)
theorem ef_own_psa (m : MethodId) (x0 : Addr) (x1 : Int32) (x2 : Addr) : entryFrame m #[(.ref x0), (.int x1), (.ref x2)] 3 = mkF m 0 #[.val (.ref x0), .val (.int x1), .val (.ref x2)] [] := by first | (simp [entryFrame, mkF, argsToLocals, Value.category]; done) | rfl
theorem pf_own_psa : plainFor own_m10 = true := plainFor_of_name (by simp [plainName, overriddenIn])
theorem pd_4162450860 : parseMethodDescriptor "(Ljava/lang/String;)V" = some ⟨[(.object "java/lang/String")], none⟩ := by decide +kernel
theorem pd_3824288788 : parseMethodDescriptor "([BIB)V" = some ⟨[(.array .byte), .int, .byte], none⟩ := by decide +kernel
theorem d_jdk_68_method_73_code_0 : decode jdk_68_method_73_code 0 = .ok (.aload_n 0, 1) := by decide +kernel
theorem d_jdk_68_method_73_code_1 : decode jdk_68_method_73_code 1 = .ok (.aload_n 2, 1) := by decide +kernel
theorem d_jdk_68_method_73_code_10 : decode jdk_68_method_73_code 10 = .ok (.iload_n 1, 1) := by decide +kernel
theorem d_jdk_68_method_73_code_11 : decode jdk_68_method_73_code 11 = .ok (.aload_n 0, 1) := by decide +kernel
theorem d_jdk_68_method_73_code_12 : decode jdk_68_method_73_code 12 = .ok (.getfield 22, 3) := by decide +kernel
theorem d_jdk_68_method_73_code_15 : decode jdk_68_method_73_code 15 = .ok (.invokevirtual 399, 3) := by decide +kernel
theorem d_jdk_68_method_73_code_18 : decode jdk_68_method_73_code 18 = .ok (.return_, 1) := by decide +kernel
theorem d_jdk_68_method_73_code_2 : decode jdk_68_method_73_code 2 = .ok (.invokevirtual 397, 3) := by decide +kernel
theorem d_jdk_68_method_73_code_5 : decode jdk_68_method_73_code 5 = .ok (.aload_n 2, 1) := by decide +kernel
theorem d_jdk_68_method_73_code_6 : decode jdk_68_method_73_code 6 = .ok (.aload_n 0, 1) := by decide +kernel
theorem d_jdk_68_method_73_code_7 : decode jdk_68_method_73_code 7 = .ok (.getfield 15, 3) := by decide +kernel
def Q_own_psa (Z : State) (sb : Addr) (b : Addr) (kb : ClassId) (bs : (List Int32)) (tl : (List Value)) (a1 : Addr) (b1 : Addr) (k1 : ClassId) (cs1 : (List Int32)) (cz : Int32) (h0 : Heap) (v : Option Value) (h : Heap) (L : List Loc) : Prop := v = none ∧ Fr Z.heap.size L ∧ Keep h0 h [b] ∧ (own_A Z h b kb .byte (own_cv (bs ++ cs1) ++ tl.drop cs1.length))
set_option maxRecDepth 65536 in
set_option maxHeartbeats 40000000 in
theorem own_psa (l : Launch) (Z : State) (a0 : Array Value) (hw : ∀ d ∈ tables_1, d.before a0 Z = true) (ws : List Jvm.Cond) (sb : Addr) (b : Addr) (kb : ClassId) (bs : (List Int32)) (tl : (List Value)) (a1 : Addr) (b1 : Addr) (k1 : ClassId) (cs1 : (List Int32)) (cz : Int32) (h0 : Heap) (O0 : Ext Z.heap h0) (q0 : Exa Z h0 sb own_s3) (q1 : Z.heap.size ≤ sb) (q2 : Z.heap.size ≤ b) (q3 : Exa Z h0 b "[B") (q4 : Fld Z h0 sb own_s0 "value" "[B" (.ref b)) (q5 : Fld Z h0 sb own_s0 "coder" "B" (.int (0 : Int32))) (q6 : Fld Z h0 sb own_s0 "count" "I" (.int (Int32.ofNat bs.length))) (q7 : own_A Z h0 b kb .byte (own_cv bs ++ tl)) (nsb : sb ≠ b) (hcap : bs.length + tl.length ≤ 242) (q10 : Exa Z h0 a1 own_s2) (q11 : Fld Z h0 a1 own_s2 "value" "[B" (.ref b1)) (q12 : Fld Z h0 a1 own_s2 "coder" "B" (.int (0 : Int32))) (q13 : own_A Z h0 b1 k1 .byte (own_cv cs1)) (hl1 : cs1.length ≤ 200) (hfit : cs1.length ≤ tl.length) (nb1 : b1 ≠ b) (S_CS : Sta Z Z.heap own_s2 own_s5 "Z" (.int cz)) (hcs : ¬ (cz = (0 : Int32))) :
    MetFree l own_m10 (head1 (Jvm.Cond.code own_m10 jdk_68_method_73_code 3 none :: ws) ({ frames := 2, cells := 0, slots := 0, locals := 38 } : Room)) (fun aa U => aa = #[(.ref sb), (.int (Int32.ofNat bs.length)), (.ref a1)] ∧ Z.Warmed39 U.vm ∧ U.heap = h0) (fun _ _ _ _ _ => True) (fun _ U o U' => ∃ v L, o = .returned v ∧ Q_own_psa Z sb b kb bs tl a1 b1 k1 cs1 cz h0 v U'.heap L ∧ FrameEnd U o U' L ({ frames := 2, cells := 0, slots := 0, locals := 38 } : Room).cells ({ frames := 2, cells := 0, slots := 0, locals := 38 } : Room).slots) := by
  refine MetFree.of_bodySF pf_own_psa hisR ?_
  intro p e s m args below meth c s₁ Bd hml0 hP hK
  obtain ⟨rfl, hZ, hh⟩ := hP
  have hx := Bd.exec
  have hby := Bd.bytes
  have hlk := BodyLoose.notSynchronized Bd
  have hml : c.maxLocals = 3 := hml0
  have hown : s.vm.findClass own_s0 = some m.cls := findClass_of_methodNamed Bd.named
  have hnm := (name_of_methodNamed Bd.named Bd.method).1
  have X0 : Stand p l e ({ frames := 2, cells := 0, slots := 0, locals := 38 } : Room) s m #[(.ref sb), (.int (Int32.ofNat bs.length)), (.ref a1)] below meth c s₁ [] 0 0 := Stand.of_body Bd
  have e0 : s₁.heap = h0 := by rw [← hh, Bd.state]; rfl
  have N0 := Fr.nil Z.heap.size
  have K0 : Keep h0 h0 [b] := Keep.refl _ _
  refine own_start (Q := Q_own_psa Z sb b kb bs tl a1 b1 k1 cs1 cz h0) (ef_own_psa m (sb) ((Int32.ofNat bs.length)) (a1)) ?_
  show own_G p e below (s₁.setTop (mkF m 0 #[.val (.ref sb), .val (.int (Int32.ofNat bs.length)), .val (.ref a1)] [])) _
  refine own_go (fun t k => XS.aloadN X0.here hx rfl (hb hby d_jdk_68_method_73_code_0) rfl rfl k) ?_
  refine own_go (fun t k => XS.aloadN X0.here hx rfl (hb hby d_jdk_68_method_73_code_1) rfl rfl k) ?_
  obtain ⟨cq1z, qa1z, qb1z⟩ := q0.cell
  obtain ⟨_, _, ⟨T1z, L1z, k1z, n1z⟩, -, X1z, ⟨Lc1z, hQ1z, l1z, y1z, z1z⟩, st1z⟩ := X0.privateBack hx (y := own_m9) hown (own_mw hZ hw 83 rfl) (own_mw hZ hw 84 rfl) (own_selfPrivC (args := #[]) (own_mw hZ hw 86 rfl) (Cond.privateMethod_at (mvP hZ (own_hw hw 85 rfl) (args := #[]))) (own_mw hZ hw 84 rfl) (by decide)) (Cond.privateMethod_at (mvP hZ (own_hw hw 85 rfl) (args := #[]))) (own_mw hZ hw 87 rfl) (by decide) (backOf (W := 0) (own_inf l Z a0 hw [] sb b kb bs tl a1 b1 k1 cs1 cz h0 O0 q0 q1 q2 q3 q4 q5 q6 q7 nsb hcap q10 q11 q12 q13 hl1 S_CS hcs) hZ (own_hw hw 87 rfl) (own_hw hw 32 rfl) (by decide) (by decide)) (g := (mkF m 2 #[.val (.ref sb), .val (.int (Int32.ofNat bs.length)), .val (.ref a1)] [(.ref a1), (.ref sb)])) rfl (by rw [hml]; rfl) (Steps.refl _) (a := sb) (by rw [e0]; exact qa1z) qb1z (argsL := [(.ref a1)]) (rest := []) (lenOf pd_4162450860 rfl) rfl (by show 2 * 0 + _ ≤ _; exact Nat.le_of_eq rfl) (hb hby d_jdk_68_method_73_code_2) (fun _ _ => ⟨rfl, e0, (by decide : 0 + 0 ≤ _), (by decide : 0 + 0 ≤ _)⟩)
  dsimp only [Pt.U, Pt.locs, Pt.cells, Pt.slots] at X1z l1z y1z z1z st1z hQ1z
  subst l1z y1z z1z
  obtain ⟨rfl, NQ1z, K1zq⟩ := hQ1z
  refine own_tr st1z ?_
  have N1z := Fr.app N0 NQ1z
  show own_G p e below (T1z.setTop (mkF m 5 #[.val (.ref sb), .val (.int (Int32.ofNat bs.length)), .val (.ref a1)] [])) _
  refine own_go (fun t k => XS.aloadN X1z.here hx rfl (hb hby d_jdk_68_method_73_code_5) rfl rfl k) ?_
  refine own_go (fun t k => XS.aloadN X1z.here hx rfl (hb hby d_jdk_68_method_73_code_6) rfl rfl k) ?_
  obtain ⟨T2z, X2z, e2z, st2z⟩ := getF X1z hx hZ hown (host := "") (Or.inl (own_hw hw 38 rfl)) Via.refl K1zq q4 (g := (mkF m 7 #[.val (.ref sb), .val (.int (Int32.ofNat bs.length)), .val (.ref a1)] [(.ref sb), (.ref a1)])) rfl rfl (hb hby d_jdk_68_method_73_code_7)
  refine own_go st2z ?_
  show own_G p e below (T2z.setTop (mkF m 10 #[.val (.ref sb), .val (.int (Int32.ofNat bs.length)), .val (.ref a1)] [(.ref b), (.ref a1)])) _
  refine own_go (fun t k => XS.iloadN X2z.here hx rfl (hb hby d_jdk_68_method_73_code_10) rfl k) ?_
  refine own_go (fun t k => XS.aloadN X2z.here hx rfl (hb hby d_jdk_68_method_73_code_11) rfl rfl k) ?_
  obtain ⟨T3z, X3z, e3z, st3z⟩ := getF X2z hx hZ hown (host := "") (Or.inl (own_hw hw 40 rfl)) Via.refl e2z q5 (g := (mkF m 12 #[.val (.ref sb), .val (.int (Int32.ofNat bs.length)), .val (.ref a1)] [(.ref sb), (.int (Int32.ofNat bs.length)), (.ref b), (.ref a1)])) rfl rfl (hb hby d_jdk_68_method_73_code_12)
  refine own_go st3z ?_
  show own_G p e below (T3z.setTop (mkF m 15 #[.val (.ref sb), .val (.int (Int32.ofNat bs.length)), .val (.ref a1)] [(.int (0 : Int32)), (.int (Int32.ofNat bs.length)), (.ref b), (.ref a1)])) _
  obtain ⟨cq4z, kq4z, qa4z, qb4z, qc4z⟩ := isOf hZ e3z q10
  obtain ⟨_, _, ⟨T4z, L4z, k4z, n4z⟩, -, X4z, ⟨Lc4z, hQ4z, l4z, y4z, z4z⟩, st4z⟩ := X3z.virtualBack hx (y := own_m8) (z := own_m8) hown (own_mw hZ hw 89 rfl) (own_mw hZ hw 90 rfl) (notFace_of_selects (args := #[]) (own_mw hZ hw 92 rfl)) (own_mw hZ hw 92 rfl) (own_mw hZ hw 91 rfl) (by decide) (backOf (W := 0) (own_gb l Z a0 hw [] a1 b1 k1 cs1 b kb (own_cv bs ++ tl) bs.length cz h0 O0 q10 q11 q12 q13 hl1 q2 q7 (by rw [List.length_append, own_cv_len]; omega) (by rw [List.length_append, own_cv_len]; omega) nb1 S_CS hcs) hZ (own_hw hw 93 rfl) (own_hw hw 36 rfl) (by decide) (by decide)) qa4z qc4z (g := (mkF m 15 #[.val (.ref sb), .val (.int (Int32.ofNat bs.length)), .val (.ref a1)] [(.int (0 : Int32)), (.int (Int32.ofNat bs.length)), (.ref b), (.ref a1)])) rfl (by rw [hml]; rfl) (Steps.refl _) (argsL := [(.ref b), (.int (Int32.ofNat bs.length)), (.int (0 : Int32))]) (rest := []) (lenOf pd_3824288788 rfl) rfl (by show 2 * 0 + _ ≤ _; exact Nat.le_of_eq rfl) (hb hby d_jdk_68_method_73_code_15) (fun _ _ => ⟨rfl, e3z, (by decide : 0 + 0 ≤ _), (by decide : 0 + 0 ≤ _)⟩)
  dsimp only [Pt.U, Pt.locs, Pt.cells, Pt.slots] at X4z l4z y4z z4z st4z hQ4z
  subst l4z y4z z4z
  obtain ⟨rfl, NQ4z, K4zq, r4z_0⟩ := hQ4z
  refine own_tr st4z ?_
  have N4z := Fr.app N1z NQ4z
  have O5z := own_ext_keep O0 K4zq (allS q2 all0)
  have K5z := K0.trans K4zq (allS (Or.inl (List.mem_of_getElem? (i := 0) rfl)) all0)
  show own_G p e below (T4z.setTop (mkF m 18 #[.val (.ref sb), .val (.int (Int32.ofNat bs.length)), .val (.ref a1)] [])) _
  exact own_retV X4z hx Bd.returns (hb hby d_jdk_68_method_73_code_18) hlk (Nat.le_of_ble_eq_true rfl) (Nat.le_of_ble_eq_true rfl) (by show Q_own_psa Z sb b kb bs tl a1 b1 k1 cs1 cz h0 _ T4z.heap _; exact ⟨rfl, N4z, K5z, (own_A.eqs r4z_0 (by rw [own_take_cv, own_drop_cv, own_cv_app]))⟩)
theorem ef_own_aps (m : MethodId) (x0 : Addr) (x1 : Addr) : entryFrame m #[(.ref x0), (.ref x1)] 3 = mkF m 0 #[.val (.ref x0), .val (.ref x1), .unset] [] := by first | (simp [entryFrame, mkF, argsToLocals, Value.category]; done) | rfl
theorem pf_own_aps : plainFor own_m11 = true := plainFor_of_name (by simp [plainName, overriddenIn])
theorem pd_193421983 : parseMethodDescriptor "()I" = some ⟨[], some .int⟩ := by decide +kernel
theorem pd_2087992021 : parseMethodDescriptor "(I)V" = some ⟨[.int], none⟩ := by decide +kernel
theorem pd_1162292757 : parseMethodDescriptor "(ILjava/lang/String;)V" = some ⟨[.int, (.object "java/lang/String")], none⟩ := by decide +kernel
theorem d_jdk_68_method_22_code_0 : decode jdk_68_method_22_code 0 = .ok (.aload_n 1, 1) := by decide +kernel
theorem d_jdk_68_method_22_code_1 : decode jdk_68_method_22_code 1 = .ok (.ifnonnull 8, 3) := by decide +kernel
theorem d_jdk_68_method_22_code_10 : decode jdk_68_method_22_code 10 = .ok (.invokevirtual 32, 3) := by decide +kernel
theorem d_jdk_68_method_22_code_13 : decode jdk_68_method_22_code 13 = .ok (.istore_n 2, 1) := by decide +kernel
theorem d_jdk_68_method_22_code_14 : decode jdk_68_method_22_code 14 = .ok (.aload_n 0, 1) := by decide +kernel
theorem d_jdk_68_method_22_code_15 : decode jdk_68_method_22_code 15 = .ok (.aload_n 0, 1) := by decide +kernel
theorem d_jdk_68_method_22_code_16 : decode jdk_68_method_22_code 16 = .ok (.getfield 79, 3) := by decide +kernel
theorem d_jdk_68_method_22_code_19 : decode jdk_68_method_22_code 19 = .ok (.iload_n 2, 1) := by decide +kernel
theorem d_jdk_68_method_22_code_20 : decode jdk_68_method_22_code 20 = .ok (.iadd, 1) := by decide +kernel
theorem d_jdk_68_method_22_code_21 : decode jdk_68_method_22_code 21 = .ok (.invokevirtual 100, 3) := by decide +kernel
theorem d_jdk_68_method_22_code_24 : decode jdk_68_method_22_code 24 = .ok (.aload_n 0, 1) := by decide +kernel
theorem d_jdk_68_method_22_code_25 : decode jdk_68_method_22_code 25 = .ok (.aload_n 0, 1) := by decide +kernel
theorem d_jdk_68_method_22_code_26 : decode jdk_68_method_22_code 26 = .ok (.getfield 79, 3) := by decide +kernel
theorem d_jdk_68_method_22_code_29 : decode jdk_68_method_22_code 29 = .ok (.aload_n 1, 1) := by decide +kernel
theorem d_jdk_68_method_22_code_30 : decode jdk_68_method_22_code 30 = .ok (.invokevirtual 208, 3) := by decide +kernel
theorem d_jdk_68_method_22_code_33 : decode jdk_68_method_22_code 33 = .ok (.aload_n 0, 1) := by decide +kernel
theorem d_jdk_68_method_22_code_34 : decode jdk_68_method_22_code 34 = .ok (.dup, 1) := by decide +kernel
theorem d_jdk_68_method_22_code_35 : decode jdk_68_method_22_code 35 = .ok (.getfield 79, 3) := by decide +kernel
theorem d_jdk_68_method_22_code_38 : decode jdk_68_method_22_code 38 = .ok (.iload_n 2, 1) := by decide +kernel
theorem d_jdk_68_method_22_code_39 : decode jdk_68_method_22_code 39 = .ok (.iadd, 1) := by decide +kernel
theorem d_jdk_68_method_22_code_40 : decode jdk_68_method_22_code 40 = .ok (.putfield 79, 3) := by decide +kernel
theorem d_jdk_68_method_22_code_43 : decode jdk_68_method_22_code 43 = .ok (.aload_n 0, 1) := by decide +kernel
theorem d_jdk_68_method_22_code_44 : decode jdk_68_method_22_code 44 = .ok (.areturn, 1) := by decide +kernel
theorem d_jdk_68_method_22_code_9 : decode jdk_68_method_22_code 9 = .ok (.aload_n 1, 1) := by decide +kernel
def Q_own_aps (Z : State) (sb : Addr) (b : Addr) (kb : ClassId) (bs : (List Int32)) (tl : (List Value)) (a1 : Addr) (b1 : Addr) (k1 : ClassId) (cs1 : (List Int32)) (cz : Int32) (h0 : Heap) (v : Option Value) (h : Heap) (L : List Loc) : Prop := ∃ b2 : Addr, ∃ k2 : ClassId, ∃ tl2 : (List Value), v = some (.ref sb) ∧ Fr Z.heap.size L ∧ Keep h0 h [sb, b] ∧ (Fld Z h sb own_s0 "value" "[B" (.ref b2)) ∧ (Fld Z h sb own_s0 "coder" "B" (.int (0 : Int32))) ∧ (Fld Z h sb own_s0 "count" "I" (.int (Int32.ofNat (bs ++ cs1).length))) ∧ (own_A Z h b2 k2 .byte (own_cv (bs ++ cs1) ++ tl2)) ∧ (Z.heap.size ≤ b2) ∧ (Exa Z h b2 "[B") ∧ (b2 = b ∨ h0.size ≤ b2) ∧ (sb ≠ b2) ∧ ((bs ++ cs1).length + tl2.length ≤ 242)
set_option maxRecDepth 65536 in
set_option maxHeartbeats 40000000 in
theorem own_aps (l : Launch) (Z : State) (a0 : Array Value) (hw : ∀ d ∈ tables_1, d.before a0 Z = true) (ws : List Jvm.Cond) (sb : Addr) (b : Addr) (kb : ClassId) (bs : (List Int32)) (tl : (List Value)) (a1 : Addr) (b1 : Addr) (k1 : ClassId) (cs1 : (List Int32)) (cz : Int32) (h0 : Heap) (O0 : Ext Z.heap h0) (q0 : Exa Z h0 sb own_s3) (q1 : Z.heap.size ≤ sb) (q2 : Z.heap.size ≤ b) (q3 : Exa Z h0 b "[B") (q4 : Fld Z h0 sb own_s0 "value" "[B" (.ref b)) (q5 : Fld Z h0 sb own_s0 "coder" "B" (.int (0 : Int32))) (q6 : Fld Z h0 sb own_s0 "count" "I" (.int (Int32.ofNat bs.length))) (q7 : own_A Z h0 b kb .byte (own_cv bs ++ tl)) (nsb : sb ≠ b) (hcap : bs.length + tl.length ≤ 242) (q10 : Exa Z h0 a1 own_s2) (q11 : Fld Z h0 a1 own_s2 "value" "[B" (.ref b1)) (q12 : Fld Z h0 a1 own_s2 "coder" "B" (.int (0 : Int32))) (q13 : own_A Z h0 b1 k1 .byte (own_cv cs1)) (hl1 : cs1.length ≤ 200) (h120 : bs.length + cs1.length ≤ 120) (nb1 : b1 ≠ b) (nb2 : sb ≠ b1) (na1 : a1 ≠ sb) (na2 : a1 ≠ b) (S_CS : Sta Z Z.heap own_s2 own_s5 "Z" (.int cz)) (hcs : ¬ (cz = (0 : Int32))) :
    MetFree l own_m11 (head1 (Jvm.Cond.code own_m11 jdk_68_method_22_code 3 (some (.object own_s0)) :: ws) ({ frames := 4, cells := 1, slots := 300, locals := 70 } : Room)) (fun aa U => aa = #[(.ref sb), (.ref a1)] ∧ Z.Warmed39 U.vm ∧ U.heap = h0) (fun _ _ _ _ _ => True) (fun _ U o U' => ∃ v L, o = .returned v ∧ Q_own_aps Z sb b kb bs tl a1 b1 k1 cs1 cz h0 v U'.heap L ∧ FrameEnd U o U' L ({ frames := 4, cells := 1, slots := 300, locals := 70 } : Room).cells ({ frames := 4, cells := 1, slots := 300, locals := 70 } : Room).slots) := by
  refine MetFree.of_bodySF pf_own_aps hisR ?_
  intro p e s m args below meth c s₁ Bd hml0 hP hK
  obtain ⟨rfl, hZ, hh⟩ := hP
  have hx := Bd.exec
  have hby := Bd.bytes
  have hlk := BodyLoose.notSynchronized Bd
  have hml : c.maxLocals = 3 := hml0
  have hown : s.vm.findClass own_s0 = some m.cls := findClass_of_methodNamed Bd.named
  have hnm := (name_of_methodNamed Bd.named Bd.method).1
  have X0 : Stand p l e ({ frames := 4, cells := 1, slots := 300, locals := 70 } : Room) s m #[(.ref sb), (.ref a1)] below meth c s₁ [] 0 0 := Stand.of_body Bd
  have e0 : s₁.heap = h0 := by rw [← hh, Bd.state]; rfl
  have N0 := Fr.nil Z.heap.size
  have K0 : Keep h0 h0 [sb, b] := Keep.refl _ _
  refine own_start (Q := Q_own_aps Z sb b kb bs tl a1 b1 k1 cs1 cz h0) (ef_own_aps m (sb) (a1)) ?_
  show own_G p e below (s₁.setTop (mkF m 0 #[.val (.ref sb), .val (.ref a1), .unset] [])) _
  refine own_go (fun t k => XS.aloadN X0.here hx rfl (hb hby d_jdk_68_method_22_code_0) rfl rfl k) ?_
  refine own_go (fun t k => XS.ifnonnullYes X0.here hx rfl (pc0 := 1) (pc' := 9) rfl (hb hby d_jdk_68_method_22_code_1) rfl (by decide) (by decide) k) ?_
  show own_G p e below (s₁.setTop (mkF m 9 #[.val (.ref sb), .val (.ref a1), .unset] [])) _
  refine own_go (fun t k => XS.aloadN X0.here hx rfl (hb hby d_jdk_68_method_22_code_9) rfl rfl k) ?_
  obtain ⟨cq1z, kq1z, qa1z, qb1z, qc1z⟩ := isOf hZ e0 q10
  obtain ⟨_, _, ⟨T1z, L1z, k1z, n1z⟩, -, X1z, ⟨Lc1z, hQ1z, l1z, y1z, z1z⟩, st1z⟩ := X0.virtualBack hx (y := own_m7) (z := own_m7) hown (own_mw hZ hw 58 rfl) (own_mw hZ hw 59 rfl) (notFace_of_selects (args := #[]) (own_mw hZ hw 61 rfl)) (own_mw hZ hw 61 rfl) (own_mw hZ hw 60 rfl) (by decide) (backOf (W := 0) (own_slen l Z a0 hw [] a1 b1 k1 cs1 cz h0 O0 q10 q11 q12 q13 hl1 S_CS hcs) hZ (own_hw hw 62 rfl) (own_hw hw 36 rfl) (by decide) (by decide)) qa1z qc1z (g := (mkF m 10 #[.val (.ref sb), .val (.ref a1), .unset] [(.ref a1)])) rfl (by rw [hml]; rfl) (Steps.refl _) (argsL := []) (rest := []) (lenOf pd_193421983 rfl) rfl (by show 2 * 0 + _ ≤ _; exact Nat.le_of_eq rfl) (hb hby d_jdk_68_method_22_code_10) (fun _ _ => ⟨rfl, e0, (by decide : 0 + 0 ≤ _), (by decide : 0 + 0 ≤ _)⟩)
  dsimp only [Pt.U, Pt.locs, Pt.cells, Pt.slots] at X1z l1z y1z z1z st1z hQ1z
  subst l1z y1z z1z
  obtain ⟨rfl, NQ1z, K1zq⟩ := hQ1z
  refine own_tr st1z ?_
  have N1z := Fr.app N0 NQ1z
  show own_G p e below (T1z.setTop (mkF m 13 #[.val (.ref sb), .val (.ref a1), .unset] [(.int (Int32.ofNat cs1.length))])) _
  refine own_go (fun t k => XS.istoreN X1z.here hx rfl (hb hby d_jdk_68_method_22_code_13) rfl (l' := #[.val (.ref sb), .val (.ref a1), .val (.int (Int32.ofNat cs1.length))]) rfl k) ?_
  refine own_go (fun t k => XS.aloadN X1z.here hx rfl (hb hby d_jdk_68_method_22_code_14) rfl rfl k) ?_
  refine own_go (fun t k => XS.aloadN X1z.here hx rfl (hb hby d_jdk_68_method_22_code_15) rfl rfl k) ?_
  show own_G p e below (T1z.setTop (mkF m 16 #[.val (.ref sb), .val (.ref a1), .val (.int (Int32.ofNat cs1.length))] [(.ref sb), (.ref sb)])) _
  obtain ⟨T2z, X2z, e2z, st2z⟩ := getF X1z hx hZ hown (host := "") (Or.inl (own_hw hw 71 rfl)) Via.refl K1zq q6 (g := (mkF m 16 #[.val (.ref sb), .val (.ref a1), .val (.int (Int32.ofNat cs1.length))] [(.ref sb), (.ref sb)])) rfl rfl (hb hby d_jdk_68_method_22_code_16)
  refine own_go st2z ?_
  refine own_go (fun t k => XS.iloadN X2z.here hx rfl (hb hby d_jdk_68_method_22_code_19) rfl k) ?_
  refine own_go (fun t k => XS.iadd X2z.here hx rfl (hb hby d_jdk_68_method_22_code_20) rfl k) ?_
  show own_G p e below (T2z.setTop (mkF m 21 #[.val (.ref sb), .val (.ref a1), .val (.int (Int32.ofNat cs1.length))] [(.int ((Int32.ofNat bs.length) + (Int32.ofNat cs1.length))), (.ref sb)])) _
  show own_G p e below (T2z.setTop (mkF m 21 #[.val (.ref sb), .val (.ref a1), .val (.int (Int32.ofNat cs1.length))] [(.int ((Int32.ofNat bs.length) + (Int32.ofNat cs1.length))), (.ref sb)])) _
  rw [own_addN (by omega)]
  show own_G p e below (T2z.setTop (mkF m 21 #[.val (.ref sb), .val (.ref a1), .val (.int (Int32.ofNat cs1.length))] [(.int (Int32.ofNat (bs.length + cs1.length))), (.ref sb)])) _
  obtain ⟨cq3z, qa3z, qb3z⟩ := q0.cell
  obtain ⟨_, _, ⟨T3z, L3z, k3z, n3z⟩, -, X3z, ⟨Lc3z, hQ3z, l3z, y3z, z3z⟩, st3z⟩ := X2z.privateBack hx (y := own_m5) hown (own_mw hZ hw 73 rfl) (own_mw hZ hw 74 rfl) (own_selfPrivC (args := #[]) (own_mw hZ hw 76 rfl) (Cond.privateMethod_at (mvP hZ (own_hw hw 75 rfl) (args := #[]))) (own_mw hZ hw 74 rfl) (by decide)) (Cond.privateMethod_at (mvP hZ (own_hw hw 75 rfl) (args := #[]))) (own_mw hZ hw 77 rfl) (by decide) (backOf (W := 0) (own_ens l Z a0 hw [] sb b kb bs tl (bs.length + cs1.length) (Int32.ofNat (bs.length + cs1.length)) h0 O0 q0 q1 q2 q3 q4 q5 q6 q7 nsb hcap rfl h120) hZ (own_hw hw 77 rfl) (own_hw hw 32 rfl) (by decide) (by decide)) (g := (mkF m 21 #[.val (.ref sb), .val (.ref a1), .val (.int (Int32.ofNat cs1.length))] [(.int (Int32.ofNat (bs.length + cs1.length))), (.ref sb)])) rfl (by rw [hml]; rfl) (Steps.refl _) (a := sb) (by rw [e2z]; exact qa3z) qb3z (argsL := [(.int (Int32.ofNat (bs.length + cs1.length)))]) (rest := []) (lenOf pd_2087992021 rfl) rfl (by show 2 * 0 + _ ≤ _; exact Nat.le_of_eq rfl) (hb hby d_jdk_68_method_22_code_21) (fun _ _ => ⟨rfl, e2z, (by decide : 0 + 1 ≤ _), (by decide : 0 + 300 ≤ _)⟩)
  dsimp only [Pt.U, Pt.locs, Pt.cells, Pt.slots] at X3z l3z y3z z3z st3z hQ3z
  subst l3z y3z z3z
  obtain ⟨b2_3z, k2_3z, tl2_3z, rfl, NQ3z, K3zq, r3z_0, r3z_1, r3z_2, r3z_3, r3z_4, r3z_5, r3z_6, r3z_7, r3z_8, r3z_9⟩ := hQ3z
  refine own_tr st3z ?_
  have N3z := Fr.app N1z NQ3z
  have O4z := own_ext_keep O0 K3zq (allS q1 all0)
  have K4z := K0.trans K3zq (allS (Or.inl (List.mem_of_getElem? (i := 0) rfl)) all0)
  have dd_b2_3z : b2_3z = b ∨ h0.size ≤ b2_3z := r3z_6.imp id (fun q => Nat.le_trans K0.1 q)
  have ne_sb_b2_3z : sb ≠ b2_3z := r3z_6.elim (fun e => e ▸ nsb) (fun q => Nat.ne_of_lt (Nat.lt_of_lt_of_le q0.lt q))
  have ne_a1_b2_3z : a1 ≠ b2_3z := r3z_6.elim (fun e => e ▸ na2) (fun q => Nat.ne_of_lt (Nat.lt_of_lt_of_le q10.lt q))
  have ne_b1_b2_3z : b1 ≠ b2_3z := r3z_6.elim (fun e => e ▸ nb1) (fun q => Nat.ne_of_lt (Nat.lt_of_lt_of_le q13.lt q))
  show own_G p e below (T3z.setTop (mkF m 24 #[.val (.ref sb), .val (.ref a1), .val (.int (Int32.ofNat cs1.length))] [])) _
  refine own_go (fun t k => XS.aloadN X3z.here hx rfl (hb hby d_jdk_68_method_22_code_24) rfl rfl k) ?_
  refine own_go (fun t k => XS.aloadN X3z.here hx rfl (hb hby d_jdk_68_method_22_code_25) rfl rfl k) ?_
  obtain ⟨T5z, X5z, e5z, st5z⟩ := getF X3z hx hZ hown (host := "") (Or.inl (own_hw hw 71 rfl)) Via.refl rfl r3z_2 (g := (mkF m 26 #[.val (.ref sb), .val (.ref a1), .val (.int (Int32.ofNat cs1.length))] [(.ref sb), (.ref sb)])) rfl rfl (hb hby d_jdk_68_method_22_code_26)
  refine own_go st5z ?_
  show own_G p e below (T5z.setTop (mkF m 29 #[.val (.ref sb), .val (.ref a1), .val (.int (Int32.ofNat cs1.length))] [(.int (Int32.ofNat bs.length)), (.ref sb)])) _
  refine own_go (fun t k => XS.aloadN X5z.here hx rfl (hb hby d_jdk_68_method_22_code_29) rfl rfl k) ?_
  have f6z := (q11.keep K3zq (by simp only [List.mem_cons, List.not_mem_nil, or_false, not_or]; exact na1))
  have f7z := (q12.keep K3zq (by simp only [List.mem_cons, List.not_mem_nil, or_false, not_or]; exact na1))
  have f8z := (q13.keep K3zq (by simp only [List.mem_cons, List.not_mem_nil, or_false, not_or]; exact (Ne.symm nb2)))
  obtain ⟨cq9z, qa9z, qb9z⟩ := (q0.keep K3zq).cell
  obtain ⟨_, _, ⟨T9z, L9z, k9z, n9z⟩, -, X9z, ⟨Lc9z, hQ9z, l9z, y9z, z9z⟩, st9z⟩ := X5z.privateBack hx (y := own_m10) hown (own_mw hZ hw 78 rfl) (own_mw hZ hw 79 rfl) (own_selfPrivC (args := #[]) (own_mw hZ hw 81 rfl) (Cond.privateMethod_at (mvP hZ (own_hw hw 80 rfl) (args := #[]))) (own_mw hZ hw 79 rfl) (by decide)) (Cond.privateMethod_at (mvP hZ (own_hw hw 80 rfl) (args := #[]))) (own_mw hZ hw 82 rfl) (by decide) (backOf (W := 0) (own_psa l Z a0 hw [] sb b2_3z k2_3z bs tl2_3z a1 b1 k1 cs1 cz T3z.heap O4z (q0.keep K3zq) q1 r3z_4 r3z_5 r3z_0 r3z_1 r3z_2 r3z_3 r3z_7 r3z_8 (q10.keep K3zq) f6z f7z f8z hl1 (by have := r3z_9; omega) ne_b1_b2_3z S_CS hcs) hZ (own_hw hw 82 rfl) (own_hw hw 32 rfl) (by decide) (by decide)) (g := (mkF m 30 #[.val (.ref sb), .val (.ref a1), .val (.int (Int32.ofNat cs1.length))] [(.ref a1), (.int (Int32.ofNat bs.length)), (.ref sb)])) rfl (by rw [hml]; rfl) (Steps.refl _) (a := sb) (by rw [e5z]; exact qa9z) qb9z (argsL := [(.int (Int32.ofNat bs.length)), (.ref a1)]) (rest := []) (lenOf pd_1162292757 rfl) rfl (by show 2 * 0 + _ ≤ _; exact Nat.le_of_eq rfl) (hb hby d_jdk_68_method_22_code_30) (fun _ _ => ⟨rfl, e5z, (by decide : 1 + 0 ≤ _), (by decide : 300 + 0 ≤ _)⟩)
  dsimp only [Pt.U, Pt.locs, Pt.cells, Pt.slots] at X9z l9z y9z z9z st9z hQ9z
  subst l9z y9z z9z
  obtain ⟨rfl, NQ9z, K9zq, r9z_0⟩ := hQ9z
  refine own_tr st9z ?_
  have N9z := Fr.app N3z NQ9z
  have O10z := own_ext_keep O4z K9zq (allS r3z_4 all0)
  have K10z := K4z.trans K9zq (allS (dd_b2_3z.elim (fun e => e.symm ▸ (Or.inl (List.mem_of_getElem? (i := 1) rfl))) (fun q => Or.inr q)) all0)
  show own_G p e below (T9z.setTop (mkF m 33 #[.val (.ref sb), .val (.ref a1), .val (.int (Int32.ofNat cs1.length))] [])) _
  refine own_go (fun t k => XS.aloadN X9z.here hx rfl (hb hby d_jdk_68_method_22_code_33) rfl rfl k) ?_
  refine own_go (fun t k => XS.dup X9z.here hx rfl (hb hby d_jdk_68_method_22_code_34) rfl rfl k) ?_
  have f11z := (r3z_2.keep K9zq (by simp only [List.mem_cons, List.not_mem_nil, or_false, not_or]; exact r3z_7))
  obtain ⟨T12z, X12z, e12z, st12z⟩ := getF X9z hx hZ hown (host := "") (Or.inl (own_hw hw 71 rfl)) Via.refl rfl f11z (g := (mkF m 35 #[.val (.ref sb), .val (.ref a1), .val (.int (Int32.ofNat cs1.length))] [(.ref sb), (.ref sb)])) rfl rfl (hb hby d_jdk_68_method_22_code_35)
  refine own_go st12z ?_
  show own_G p e below (T12z.setTop (mkF m 38 #[.val (.ref sb), .val (.ref a1), .val (.int (Int32.ofNat cs1.length))] [(.int (Int32.ofNat bs.length)), (.ref sb)])) _
  refine own_go (fun t k => XS.iloadN X12z.here hx rfl (hb hby d_jdk_68_method_22_code_38) rfl k) ?_
  refine own_go (fun t k => XS.iadd X12z.here hx rfl (hb hby d_jdk_68_method_22_code_39) rfl k) ?_
  show own_G p e below (T12z.setTop (mkF m 40 #[.val (.ref sb), .val (.ref a1), .val (.int (Int32.ofNat cs1.length))] [(.int ((Int32.ofNat bs.length) + (Int32.ofNat cs1.length))), (.ref sb)])) _
  rw [own_addN (by omega), ← List.length_append]
  show own_G p e below (T12z.setTop (mkF m 40 #[.val (.ref sb), .val (.ref a1), .val (.int (Int32.ofNat cs1.length))] [(.int (Int32.ofNat (bs ++ cs1).length)), (.ref sb)])) _
  obtain ⟨T13z, h13z, X13z, e13z, W13z, st13z⟩ := putF X12z hx hZ hown (host := "") (Or.inl (own_hw hw 71 rfl)) Via.refl e12z f11z ((q0.keep K3zq).keep K9zq) (Or.inl (own_hw hw 72 rfl)) (own_hw hw 23 rfl) (ty := .int) (by decide) rfl rfl (g := (mkF m 40 #[.val (.ref sb), .val (.ref a1), .val (.int (Int32.ofNat cs1.length))] [(.int (Int32.ofNat (bs ++ cs1).length)), (.ref sb)])) rfl rfl (hb hby d_jdk_68_method_22_code_40)
  refine own_go st13z ?_
  have N13z := Fr.snoc X13z N9z q1
  have F13z : Fld Z h13z sb own_s0 "count" "I" (.int (Int32.ofNat (bs ++ cs1).length)) := f11z.same W13z
  have O14z := own_ext_wr O10z W13z q1
  have K14z := K10z.wr W13z (Or.inl (List.mem_of_getElem? (i := 0) rfl))
  refine own_go (fun t k => XS.aloadN X13z.here hx rfl (hb hby d_jdk_68_method_22_code_43) rfl rfl k) ?_
  have f15z := ((r3z_0.keep K9zq (by simp only [List.mem_cons, List.not_mem_nil, or_false, not_or]; exact r3z_7)).other W13z (Or.inr (slot_ne (Or.inl (own_hw hw 39 rfl)) (Or.inl (own_hw hw 72 rfl)) (by decide) (t := (.array .byte)) (t' := .int) (by decide) (by decide))))
  have f16z := ((r3z_1.keep K9zq (by simp only [List.mem_cons, List.not_mem_nil, or_false, not_or]; exact r3z_7)).other W13z (Or.inr (slot_ne (Or.inl (own_hw hw 41 rfl)) (Or.inl (own_hw hw 72 rfl)) (by decide) (t := .byte) (t' := .int) (by decide) (by decide))))
  exact own_ret X13z hx Bd.returns rfl (Or.inr (Or.inr (Or.inr (Or.inr ⟨rfl, rfl, rfl⟩)))) (hb hby d_jdk_68_method_22_code_44) hlk (Nat.le_of_ble_eq_true rfl) (Nat.le_of_ble_eq_true rfl) (by show Q_own_aps Z sb b kb bs tl a1 b1 k1 cs1 cz h0 _ T13z.heap _; rw [e13z]; exact ⟨b2_3z, k2_3z, (tl2_3z.drop cs1.length), rfl, N13z, K14z, f15z, f16z, F13z, (r9z_0.other W13z (Ne.symm r3z_7)), r3z_4, ((r3z_5.keep K9zq).wr W13z), dd_b2_3z, r3z_7, (by rw [List.length_append, List.length_drop]; omega)⟩)
theorem ef_own_saps (m : MethodId) (x0 : Addr) (x1 : Addr) : entryFrame m #[(.ref x0), (.ref x1)] 2 = mkF m 0 #[.val (.ref x0), .val (.ref x1)] [] := by first | (simp [entryFrame, mkF, argsToLocals, Value.category]; done) | rfl
theorem pf_own_saps : plainFor own_m12 = true := plainFor_of_name (by simp [plainName, overriddenIn])
theorem pd_2529712177 : parseMethodDescriptor "(Ljava/lang/String;)Ljava/lang/AbstractStringBuilder;" = some ⟨[(.object "java/lang/String")], some (.object "java/lang/AbstractStringBuilder")⟩ := by decide +kernel
theorem d_jdk_67_method_7_code_0 : decode jdk_67_method_7_code 0 = .ok (.aload_n 0, 1) := by decide +kernel
theorem d_jdk_67_method_7_code_1 : decode jdk_67_method_7_code 1 = .ok (.aload_n 1, 1) := by decide +kernel
theorem d_jdk_67_method_7_code_2 : decode jdk_67_method_7_code 2 = .ok (.invokespecial 29, 3) := by decide +kernel
theorem d_jdk_67_method_7_code_5 : decode jdk_67_method_7_code 5 = .ok (.pop, 1) := by decide +kernel
theorem d_jdk_67_method_7_code_6 : decode jdk_67_method_7_code 6 = .ok (.aload_n 0, 1) := by decide +kernel
theorem d_jdk_67_method_7_code_7 : decode jdk_67_method_7_code 7 = .ok (.areturn, 1) := by decide +kernel
def Q_own_saps (Z : State) (sb : Addr) (b : Addr) (kb : ClassId) (bs : (List Int32)) (tl : (List Value)) (a1 : Addr) (b1 : Addr) (k1 : ClassId) (cs1 : (List Int32)) (cz : Int32) (h0 : Heap) (v : Option Value) (h : Heap) (L : List Loc) : Prop := ∃ b2 : Addr, ∃ k2 : ClassId, ∃ tl2 : (List Value), v = some (.ref sb) ∧ Fr Z.heap.size L ∧ Keep h0 h [sb, b] ∧ (Fld Z h sb own_s0 "value" "[B" (.ref b2)) ∧ (Fld Z h sb own_s0 "coder" "B" (.int (0 : Int32))) ∧ (Fld Z h sb own_s0 "count" "I" (.int (Int32.ofNat (bs ++ cs1).length))) ∧ (own_A Z h b2 k2 .byte (own_cv (bs ++ cs1) ++ tl2)) ∧ (Z.heap.size ≤ b2) ∧ (Exa Z h b2 "[B") ∧ (b2 = b ∨ h0.size ≤ b2) ∧ (sb ≠ b2) ∧ ((bs ++ cs1).length + tl2.length ≤ 242)
set_option maxRecDepth 65536 in
set_option maxHeartbeats 40000000 in
theorem own_saps (l : Launch) (Z : State) (a0 : Array Value) (hw : ∀ d ∈ tables_1, d.before a0 Z = true) (ws : List Jvm.Cond) (sb : Addr) (b : Addr) (kb : ClassId) (bs : (List Int32)) (tl : (List Value)) (a1 : Addr) (b1 : Addr) (k1 : ClassId) (cs1 : (List Int32)) (cz : Int32) (h0 : Heap) (O0 : Ext Z.heap h0) (q0 : Exa Z h0 sb own_s3) (q1 : Z.heap.size ≤ sb) (q2 : Z.heap.size ≤ b) (q3 : Exa Z h0 b "[B") (q4 : Fld Z h0 sb own_s0 "value" "[B" (.ref b)) (q5 : Fld Z h0 sb own_s0 "coder" "B" (.int (0 : Int32))) (q6 : Fld Z h0 sb own_s0 "count" "I" (.int (Int32.ofNat bs.length))) (q7 : own_A Z h0 b kb .byte (own_cv bs ++ tl)) (nsb : sb ≠ b) (hcap : bs.length + tl.length ≤ 242) (q10 : Exa Z h0 a1 own_s2) (q11 : Fld Z h0 a1 own_s2 "value" "[B" (.ref b1)) (q12 : Fld Z h0 a1 own_s2 "coder" "B" (.int (0 : Int32))) (q13 : own_A Z h0 b1 k1 .byte (own_cv cs1)) (hl1 : cs1.length ≤ 200) (h120 : bs.length + cs1.length ≤ 120) (nb1 : b1 ≠ b) (nb2 : sb ≠ b1) (na1 : a1 ≠ sb) (na2 : a1 ≠ b) (S_CS : Sta Z Z.heap own_s2 own_s5 "Z" (.int cz)) (hcs : ¬ (cz = (0 : Int32))) :
    MetFree l own_m12 (head1 (Jvm.Cond.code own_m12 jdk_67_method_7_code 2 (some (.object own_s3)) :: ws) ({ frames := 5, cells := 1, slots := 300, locals := 86 } : Room)) (fun aa U => aa = #[(.ref sb), (.ref a1)] ∧ Z.Warmed39 U.vm ∧ U.heap = h0) (fun _ _ _ _ _ => True) (fun _ U o U' => ∃ v L, o = .returned v ∧ Q_own_saps Z sb b kb bs tl a1 b1 k1 cs1 cz h0 v U'.heap L ∧ FrameEnd U o U' L ({ frames := 5, cells := 1, slots := 300, locals := 86 } : Room).cells ({ frames := 5, cells := 1, slots := 300, locals := 86 } : Room).slots) := by
  refine MetFree.of_bodySF pf_own_saps hisR ?_
  intro p e s m args below meth c s₁ Bd hml0 hP hK
  obtain ⟨rfl, hZ, hh⟩ := hP
  have hx := Bd.exec
  have hby := Bd.bytes
  have hlk := BodyLoose.notSynchronized Bd
  have hml : c.maxLocals = 2 := hml0
  have hown : s.vm.findClass own_s3 = some m.cls := findClass_of_methodNamed Bd.named
  have hnm := (name_of_methodNamed Bd.named Bd.method).1
  have X0 : Stand p l e ({ frames := 5, cells := 1, slots := 300, locals := 86 } : Room) s m #[(.ref sb), (.ref a1)] below meth c s₁ [] 0 0 := Stand.of_body Bd
  have e0 : s₁.heap = h0 := by rw [← hh, Bd.state]; rfl
  have N0 := Fr.nil Z.heap.size
  have K0 : Keep h0 h0 [sb, b] := Keep.refl _ _
  refine own_start (Q := Q_own_saps Z sb b kb bs tl a1 b1 k1 cs1 cz h0) (ef_own_saps m (sb) (a1)) ?_
  show own_G p e below (s₁.setTop (mkF m 0 #[.val (.ref sb), .val (.ref a1)] [])) _
  refine own_go (fun t k => XS.aloadN X0.here hx rfl (hb hby d_jdk_67_method_7_code_0) rfl rfl k) ?_
  refine own_go (fun t k => XS.aloadN X0.here hx rfl (hb hby d_jdk_67_method_7_code_1) rfl rfl k) ?_
  obtain ⟨_, _, ⟨T1z, L1z, k1z, n1z⟩, -, X1z, ⟨Lc1z, hQ1z, l1z, y1z, z1z⟩, st1z⟩ := superBack X0 hx hZ (y := own_m11) hown (own_hw hw 53 rfl) (own_sameSelf (y := own_m11) (own_hw hw 76 rfl) (own_hw hw 74 rfl) rfl (own_hw hw 54 rfl) (by decide)) (own_hw hw 54 rfl) (own_hw hw 55 rfl) (by decide) (backOf (W := 0) (own_aps l Z a0 hw [] sb b kb bs tl a1 b1 k1 cs1 cz h0 O0 q0 q1 q2 q3 q4 q5 q6 q7 nsb hcap q10 q11 q12 q13 hl1 h120 nb1 nb2 na1 na2 S_CS hcs) hZ (own_hw hw 57 rfl) (own_hw hw 32 rfl) (by decide) (by decide)) e0 (a := sb) (Ins.self q0) (g := (mkF m 2 #[.val (.ref sb), .val (.ref a1)] [(.ref a1), (.ref sb)])) rfl (by rw [hml]; rfl) (own_hw hw 57 rfl) (argsL := [(.ref a1)]) (rest := []) (lenOf pd_2529712177 rfl) rfl (by show 2 * 0 + _ ≤ _; exact Nat.le_of_eq rfl) (hb hby d_jdk_67_method_7_code_2) (fun _ _ => ⟨rfl, e0, (by decide : 0 + 1 ≤ _), (by decide : 0 + 300 ≤ _)⟩)
  dsimp only [Pt.U, Pt.locs, Pt.cells, Pt.slots] at X1z l1z y1z z1z st1z hQ1z
  subst l1z y1z z1z
  obtain ⟨b2_1z, k2_1z, tl2_1z, rfl, NQ1z, K1zq, r1z_0, r1z_1, r1z_2, r1z_3, r1z_4, r1z_5, r1z_6, r1z_7, r1z_8⟩ := hQ1z
  refine own_tr st1z ?_
  have N1z := Fr.app N0 NQ1z
  have O2z := own_ext_keep O0 K1zq (allS q1 (allS q2 all0))
  have K2z := K0.trans K1zq (allS (Or.inl (List.mem_of_getElem? (i := 0) rfl)) (allS (Or.inl (List.mem_of_getElem? (i := 1) rfl)) all0))
  have dd_b2_1z : b2_1z = b ∨ h0.size ≤ b2_1z := r1z_6.imp id (fun q => Nat.le_trans K0.1 q)
  have ne_sb_b2_1z : sb ≠ b2_1z := r1z_6.elim (fun e => e ▸ nsb) (fun q => Nat.ne_of_lt (Nat.lt_of_lt_of_le q0.lt q))
  have ne_a1_b2_1z : a1 ≠ b2_1z := r1z_6.elim (fun e => e ▸ na2) (fun q => Nat.ne_of_lt (Nat.lt_of_lt_of_le q10.lt q))
  have ne_b1_b2_1z : b1 ≠ b2_1z := r1z_6.elim (fun e => e ▸ nb1) (fun q => Nat.ne_of_lt (Nat.lt_of_lt_of_le q13.lt q))
  show own_G p e below (T1z.setTop (mkF m 5 #[.val (.ref sb), .val (.ref a1)] [(.ref sb)])) _
  refine own_go (fun t k => XS.pop X1z.here hx rfl (hb hby d_jdk_67_method_7_code_5) rfl rfl k) ?_
  refine own_go (fun t k => XS.aloadN X1z.here hx rfl (hb hby d_jdk_67_method_7_code_6) rfl rfl k) ?_
  exact own_ret X1z hx Bd.returns rfl (Or.inr (Or.inr (Or.inr (Or.inr ⟨rfl, rfl, rfl⟩)))) (hb hby d_jdk_67_method_7_code_7) hlk (Nat.le_of_ble_eq_true rfl) (Nat.le_of_ble_eq_true rfl) (by show Q_own_saps Z sb b kb bs tl a1 b1 k1 cs1 cz h0 _ T1z.heap _; exact ⟨b2_1z, k2_1z, tl2_1z, rfl, N1z, K2z, r1z_0, r1z_1, r1z_2, r1z_3, r1z_4, r1z_5, dd_b2_1z, r1z_7, r1z_8⟩)
theorem ef_own_l1a (m : MethodId) (x0 : Addr) : entryFrame m #[(.ref x0)] 1 = mkF m 0 #[.val (.ref x0)] [] := by first | (simp [entryFrame, mkF, argsToLocals, Value.category]; done) | rfl
theorem pf_own_l1a : plainFor own_m13 = true := plainFor_of_name (by simp [plainName, overriddenIn])
theorem d_jdk_68_method_68_code_0 : decode jdk_68_method_68_code 0 = .ok (.getstatic 18, 3) := by decide +kernel
theorem d_jdk_68_method_68_code_10 : decode jdk_68_method_68_code 10 = .ok (.ifCond .ne 7, 3) := by decide +kernel
theorem d_jdk_68_method_68_code_13 : decode jdk_68_method_68_code 13 = .ok (.iconst 1, 1) := by decide +kernel
theorem d_jdk_68_method_68_code_14 : decode jdk_68_method_68_code 14 = .ok (.goto 4, 3) := by decide +kernel
theorem d_jdk_68_method_68_code_18 : decode jdk_68_method_68_code 18 = .ok (.ireturn, 1) := by decide +kernel
theorem d_jdk_68_method_68_code_3 : decode jdk_68_method_68_code 3 = .ok (.ifCond .eq 14, 3) := by decide +kernel
theorem d_jdk_68_method_68_code_6 : decode jdk_68_method_68_code 6 = .ok (.aload_n 0, 1) := by decide +kernel
theorem d_jdk_68_method_68_code_7 : decode jdk_68_method_68_code 7 = .ok (.getfield 22, 3) := by decide +kernel
def Q_own_l1a (Z : State) (sb : Addr) (b : Addr) (kb : ClassId) (bs : (List Int32)) (tl : (List Value)) (cz : Int32) (h0 : Heap) (v : Option Value) (h : Heap) (L : List Loc) : Prop := v = some (.int (1 : Int32)) ∧ Fr Z.heap.size L ∧ h = h0
set_option maxRecDepth 65536 in
set_option maxHeartbeats 40000000 in
theorem own_l1a (l : Launch) (Z : State) (a0 : Array Value) (hw : ∀ d ∈ tables_1, d.before a0 Z = true) (ws : List Jvm.Cond) (sb : Addr) (b : Addr) (kb : ClassId) (bs : (List Int32)) (tl : (List Value)) (cz : Int32) (h0 : Heap) (O0 : Ext Z.heap h0) (q0 : Exa Z h0 sb own_s3) (q1 : Z.heap.size ≤ sb) (q2 : Z.heap.size ≤ b) (q3 : Exa Z h0 b "[B") (q4 : Fld Z h0 sb own_s0 "value" "[B" (.ref b)) (q5 : Fld Z h0 sb own_s0 "coder" "B" (.int (0 : Int32))) (q6 : Fld Z h0 sb own_s0 "count" "I" (.int (Int32.ofNat bs.length))) (q7 : own_A Z h0 b kb .byte (own_cv bs ++ tl)) (nsb : sb ≠ b) (hcap : bs.length + tl.length ≤ 242) (S_CS : Sta Z Z.heap own_s2 own_s5 "Z" (.int cz)) (hcs : ¬ (cz = (0 : Int32))) :
    MetFree l own_m13 (head1 (Jvm.Cond.code own_m13 jdk_68_method_68_code 1 (some .boolean) :: ws) ({ frames := 0, cells := 0, slots := 0, locals := 0 } : Room)) (fun aa U => aa = #[(.ref sb)] ∧ Z.Warmed39 U.vm ∧ U.heap = h0) (fun _ _ _ _ _ => True) (fun _ U o U' => ∃ v L, o = .returned v ∧ Q_own_l1a Z sb b kb bs tl cz h0 v U'.heap L ∧ FrameEnd U o U' L ({ frames := 0, cells := 0, slots := 0, locals := 0 } : Room).cells ({ frames := 0, cells := 0, slots := 0, locals := 0 } : Room).slots) := by
  refine MetFree.of_bodySF pf_own_l1a hisR ?_
  intro p e s m args below meth c s₁ Bd hml0 hP hK
  obtain ⟨rfl, hZ, hh⟩ := hP
  have hx := Bd.exec
  have hby := Bd.bytes
  have hlk := BodyLoose.notSynchronized Bd
  have hml : c.maxLocals = 1 := hml0
  have hown : s.vm.findClass own_s0 = some m.cls := findClass_of_methodNamed Bd.named
  have hnm := (name_of_methodNamed Bd.named Bd.method).1
  have X0 : Stand p l e ({ frames := 0, cells := 0, slots := 0, locals := 0 } : Room) s m #[(.ref sb)] below meth c s₁ [] 0 0 := Stand.of_body Bd
  have e0 : s₁.heap = h0 := by rw [← hh, Bd.state]; rfl
  have N0 := Fr.nil Z.heap.size
  have K0 : Keep h0 h0 [] := Keep.refl _ _
  refine own_start (Q := Q_own_l1a Z sb b kb bs tl cz h0) (ef_own_l1a m (sb)) ?_
  show own_G p e below (s₁.setTop (mkF m 0 #[.val (.ref sb)] [])) _
  obtain ⟨T1z, X1z, e1z, st1z⟩ := getS2 X0 hx hZ hown (host := "") (Or.inl (own_hw hw 35 rfl)) Via.refl e0 (S_CS.ext O0) (g := (mkF m 0 #[.val (.ref sb)] [])) rfl (hb hby d_jdk_68_method_68_code_0)
  refine own_go st1z ?_
  refine own_go (fun t k => XS.ifNo X1z.here hx rfl (hb hby d_jdk_68_method_68_code_3) rfl ((if0 _ _).trans (feq hcs).1) k) ?_
  show own_G p e below (T1z.setTop (mkF m 6 #[.val (.ref sb)] [])) _
  refine own_go (fun t k => XS.aloadN X1z.here hx rfl (hb hby d_jdk_68_method_68_code_6) rfl rfl k) ?_
  obtain ⟨T2z, X2z, e2z, st2z⟩ := getF X1z hx hZ hown (host := "") (Or.inl (own_hw hw 40 rfl)) Via.refl e1z q5 (g := (mkF m 7 #[.val (.ref sb)] [(.ref sb)])) rfl rfl (hb hby d_jdk_68_method_68_code_7)
  refine own_go st2z ?_
  refine own_go (fun t k => XS.ifNo X2z.here hx rfl (hb hby d_jdk_68_method_68_code_10) rfl ((if0 _ _).trans (teq (by decide : (0 : Int32) = (0 : Int32))).2) k) ?_
  show own_G p e below (T2z.setTop (mkF m 13 #[.val (.ref sb)] [])) _
  refine own_go (fun t k => XS.iconst X2z.here hx rfl (hb hby d_jdk_68_method_68_code_13) k) ?_
  refine own_go (fun t k => XS.goto X2z.here hx rfl (pc0 := 14) (pc' := 18) rfl (hb hby d_jdk_68_method_68_code_14) (by decide) (by decide) k) ?_
  show own_G p e below (T2z.setTop (mkF m 18 #[.val (.ref sb)] [(.int (1 : Int32))])) _
  exact own_ret X2z hx Bd.returns rfl (Or.inl ⟨rfl, Or.inr (Or.inl rfl), _, rfl⟩) (hb hby d_jdk_68_method_68_code_18) hlk (Nat.le_of_ble_eq_true rfl) (Nat.le_of_ble_eq_true rfl) (by show Q_own_l1a Z sb b kb bs tl cz h0 _ T2z.heap _; rw [e2z]; exact ⟨rfl, N0, rfl⟩)
theorem own_putE (bs cs : List Int32) (tl : List Value) : (own_cv bs ++ tl).take (bs.length + cs.length - cs.length) ++ own_cv cs ++ (own_cv bs ++ tl).drop (bs.length + cs.length) = own_cv (bs ++ cs) ++ tl.drop cs.length := by
  rw [Nat.add_sub_cancel, own_take_cv, own_drop_cv, own_cv_app]
theorem ef_own_apJ (m : MethodId) (x0 : Addr) (x1 : Int64) : entryFrame m #[(.ref x0), (.long x1)] 5 = mkF m 0 #[.val (.ref x0), .val (.long x1), .second, .unset, .unset] [] := by first | (simp [entryFrame, mkF, argsToLocals, Value.category]; done) | rfl
theorem pf_own_apJ : plainFor own_m14 = true := plainFor_of_name (by simp [plainName, overriddenIn])
theorem pd_193422000 : parseMethodDescriptor "()Z" = some ⟨[], some .boolean⟩ := by decide +kernel
theorem d_jdk_68_method_33_code_0 : decode jdk_68_method_33_code 0 = .ok (.aload_n 0, 1) := by decide +kernel
theorem d_jdk_68_method_33_code_1 : decode jdk_68_method_33_code 1 = .ok (.getfield 79, 3) := by decide +kernel
theorem d_jdk_68_method_33_code_10 : decode jdk_68_method_33_code 10 = .ok (.iadd, 1) := by decide +kernel
theorem d_jdk_68_method_33_code_11 : decode jdk_68_method_33_code 11 = .ok (.istore 4, 2) := by decide +kernel
theorem d_jdk_68_method_33_code_13 : decode jdk_68_method_33_code 13 = .ok (.aload_n 0, 1) := by decide +kernel
theorem d_jdk_68_method_33_code_14 : decode jdk_68_method_33_code 14 = .ok (.iload 4, 2) := by decide +kernel
theorem d_jdk_68_method_33_code_16 : decode jdk_68_method_33_code 16 = .ok (.invokevirtual 100, 3) := by decide +kernel
theorem d_jdk_68_method_33_code_19 : decode jdk_68_method_33_code 19 = .ok (.aload_n 0, 1) := by decide +kernel
theorem d_jdk_68_method_33_code_20 : decode jdk_68_method_33_code 20 = .ok (.invokevirtual 83, 3) := by decide +kernel
theorem d_jdk_68_method_33_code_23 : decode jdk_68_method_33_code 23 = .ok (.ifCond .eq 17, 3) := by decide +kernel
theorem d_jdk_68_method_33_code_26 : decode jdk_68_method_33_code 26 = .ok (.lload_n 1, 1) := by decide +kernel
theorem d_jdk_68_method_33_code_27 : decode jdk_68_method_33_code 27 = .ok (.iload 4, 2) := by decide +kernel
theorem d_jdk_68_method_33_code_29 : decode jdk_68_method_33_code 29 = .ok (.aload_n 0, 1) := by decide +kernel
theorem d_jdk_68_method_33_code_30 : decode jdk_68_method_33_code 30 = .ok (.getfield 15, 3) := by decide +kernel
theorem d_jdk_68_method_33_code_33 : decode jdk_68_method_33_code 33 = .ok (.invokestatic 259, 3) := by decide +kernel
theorem d_jdk_68_method_33_code_36 : decode jdk_68_method_33_code 36 = .ok (.pop, 1) := by decide +kernel
theorem d_jdk_68_method_33_code_37 : decode jdk_68_method_33_code 37 = .ok (.goto 15, 3) := by decide +kernel
theorem d_jdk_68_method_33_code_4 : decode jdk_68_method_33_code 4 = .ok (.istore_n 3, 1) := by decide +kernel
theorem d_jdk_68_method_33_code_5 : decode jdk_68_method_33_code 5 = .ok (.iload_n 3, 1) := by decide +kernel
theorem d_jdk_68_method_33_code_52 : decode jdk_68_method_33_code 52 = .ok (.aload_n 0, 1) := by decide +kernel
theorem d_jdk_68_method_33_code_53 : decode jdk_68_method_33_code 53 = .ok (.iload 4, 2) := by decide +kernel
theorem d_jdk_68_method_33_code_55 : decode jdk_68_method_33_code 55 = .ok (.putfield 79, 3) := by decide +kernel
theorem d_jdk_68_method_33_code_58 : decode jdk_68_method_33_code 58 = .ok (.aload_n 0, 1) := by decide +kernel
theorem d_jdk_68_method_33_code_59 : decode jdk_68_method_33_code 59 = .ok (.areturn, 1) := by decide +kernel
theorem d_jdk_68_method_33_code_6 : decode jdk_68_method_33_code 6 = .ok (.lload_n 1, 1) := by decide +kernel
theorem d_jdk_68_method_33_code_7 : decode jdk_68_method_33_code 7 = .ok (.invokestatic 254, 3) := by decide +kernel
def Q_own_apJ (Z : State) (sb : Addr) (b : Addr) (kb : ClassId) (bs : (List Int32)) (tl : (List Value)) (v_ : Int64) (cz : Int32) (h0 : Heap) (v : Option Value) (h : Heap) (L : List Loc) : Prop := ∃ b2 : Addr, ∃ k2 : ClassId, ∃ tl2 : (List Value), v = some (.ref sb) ∧ Fr Z.heap.size L ∧ Keep h0 h [sb, b] ∧ (Fld Z h sb own_s0 "value" "[B" (.ref b2)) ∧ (Fld Z h sb own_s0 "coder" "B" (.int (0 : Int32))) ∧ (Fld Z h sb own_s0 "count" "I" (.int (Int32.ofNat (bs ++ (own_sl v_)).length))) ∧ (own_A Z h b2 k2 .byte (own_cv (bs ++ (own_sl v_)) ++ tl2)) ∧ (Z.heap.size ≤ b2) ∧ (Exa Z h b2 "[B") ∧ (b2 = b ∨ h0.size ≤ b2) ∧ (sb ≠ b2) ∧ ((bs ++ (own_sl v_)).length + tl2.length ≤ 242)
set_option maxRecDepth 65536 in
set_option maxHeartbeats 40000000 in
theorem own_apJ (l : Launch) (Z : State) (a0 : Array Value) (hw : ∀ d ∈ tables_1, d.before a0 Z = true) (ws : List Jvm.Cond) (sb : Addr) (b : Addr) (kb : ClassId) (bs : (List Int32)) (tl : (List Value)) (v_ : Int64) (cz : Int32) (h0 : Heap) (O0 : Ext Z.heap h0) (q0 : Exa Z h0 sb own_s3) (q1 : Z.heap.size ≤ sb) (q2 : Z.heap.size ≤ b) (q3 : Exa Z h0 b "[B") (q4 : Fld Z h0 sb own_s0 "value" "[B" (.ref b)) (q5 : Fld Z h0 sb own_s0 "coder" "B" (.int (0 : Int32))) (q6 : Fld Z h0 sb own_s0 "count" "I" (.int (Int32.ofNat bs.length))) (q7 : own_A Z h0 b kb .byte (own_cv bs ++ tl)) (nsb : sb ≠ b) (hcap : bs.length + tl.length ≤ 242) (h120 : bs.length + (own_sl v_).length ≤ 120) (DT : own_DT Z) (S_CS : Sta Z Z.heap own_s2 own_s5 "Z" (.int cz)) (hcs : ¬ (cz = (0 : Int32))) :
    MetFree l own_m14 (head1 (Jvm.Cond.code own_m14 jdk_68_method_33_code 5 (some (.object own_s0)) :: ws) ({ frames := 4, cells := 1, slots := 300, locals := 106 } : Room)) (fun aa U => aa = #[(.ref sb), (.long v_)] ∧ Z.Warmed39 U.vm ∧ U.heap = h0) (fun _ _ _ _ _ => True) (fun _ U o U' => ∃ v L, o = .returned v ∧ Q_own_apJ Z sb b kb bs tl v_ cz h0 v U'.heap L ∧ FrameEnd U o U' L ({ frames := 4, cells := 1, slots := 300, locals := 106 } : Room).cells ({ frames := 4, cells := 1, slots := 300, locals := 106 } : Room).slots) := by
  refine MetFree.of_bodySF pf_own_apJ hisR ?_
  intro p e s m args below meth c s₁ Bd hml0 hP hK
  obtain ⟨rfl, hZ, hh⟩ := hP
  have hx := Bd.exec
  have hby := Bd.bytes
  have hlk := BodyLoose.notSynchronized Bd
  have hml : c.maxLocals = 5 := hml0
  have hown : s.vm.findClass own_s0 = some m.cls := findClass_of_methodNamed Bd.named
  have hnm := (name_of_methodNamed Bd.named Bd.method).1
  have X0 : Stand p l e ({ frames := 4, cells := 1, slots := 300, locals := 106 } : Room) s m #[(.ref sb), (.long v_)] below meth c s₁ [] 0 0 := Stand.of_body Bd
  have e0 : s₁.heap = h0 := by rw [← hh, Bd.state]; rfl
  have N0 := Fr.nil Z.heap.size
  have K0 : Keep h0 h0 [sb, b] := Keep.refl _ _
  refine own_start (Q := Q_own_apJ Z sb b kb bs tl v_ cz h0) (ef_own_apJ m (sb) (v_)) ?_
  show own_G p e below (s₁.setTop (mkF m 0 #[.val (.ref sb), .val (.long v_), .second, .unset, .unset] [])) _
  refine own_go (fun t k => XS.aloadN X0.here hx rfl (hb hby d_jdk_68_method_33_code_0) rfl rfl k) ?_
  obtain ⟨T1z, X1z, e1z, st1z⟩ := getF X0 hx hZ hown (host := "") (Or.inl (own_hw hw 71 rfl)) Via.refl e0 q6 (g := (mkF m 1 #[.val (.ref sb), .val (.long v_), .second, .unset, .unset] [(.ref sb)])) rfl rfl (hb hby d_jdk_68_method_33_code_1)
  refine own_go st1z ?_
  refine own_go (fun t k => XS.istoreN X1z.here hx rfl (hb hby d_jdk_68_method_33_code_4) rfl (l' := #[.val (.ref sb), .val (.long v_), .second, .val (.int (Int32.ofNat bs.length)), .unset]) rfl k) ?_
  show own_G p e below (T1z.setTop (mkF m 5 #[.val (.ref sb), .val (.long v_), .second, .val (.int (Int32.ofNat bs.length)), .unset] [])) _
  refine own_go (fun t k => XS.iloadN X1z.here hx rfl (hb hby d_jdk_68_method_33_code_5) rfl k) ?_
  refine own_go (fun t k => XS.lloadN X1z.here hx rfl (hb hby d_jdk_68_method_33_code_6) rfl k) ?_
  obtain ⟨T2z, X2z, e2z, st2z⟩ := own_ssL X1z hx hZ hown (own_hw hw 107 rfl) (own_hw hw 108 rfl) (own_hw hw 109 rfl) rfl (own_hw hw 110 rfl) (own_hw hw 111 rfl) (own_hw hw 148 rfl) e1z (g := (mkF m 7 #[.val (.ref sb), .val (.long v_), .second, .val (.int (Int32.ofNat bs.length)), .unset] [(.long v_), (.int (Int32.ofNat bs.length))])) rfl (by rw [hml]; rfl) rfl (hb hby d_jdk_68_method_33_code_7) (by decide) (by decide) (by decide) (W := 1) (by show 2 * 0 + _ ≤ _; exact Nat.le_of_eq rfl) (by decide)
  refine own_go st2z ?_
  show own_G p e below (T2z.setTop (mkF m 10 #[.val (.ref sb), .val (.long v_), .second, .val (.int (Int32.ofNat bs.length)), .unset] [(.int (Int32.ofNat (own_sl v_).length)), (.int (Int32.ofNat bs.length))])) _
  refine own_go (fun t k => XS.iadd X2z.here hx rfl (hb hby d_jdk_68_method_33_code_10) rfl k) ?_
  show own_G p e below (T2z.setTop (mkF m 11 #[.val (.ref sb), .val (.long v_), .second, .val (.int (Int32.ofNat bs.length)), .unset] [(.int ((Int32.ofNat bs.length) + (Int32.ofNat (own_sl v_).length)))])) _
  rw [own_addN (by omega)]
  show own_G p e below (T2z.setTop (mkF m 11 #[.val (.ref sb), .val (.long v_), .second, .val (.int (Int32.ofNat bs.length)), .unset] [(.int (Int32.ofNat (bs.length + (own_sl v_).length)))])) _
  refine own_go (fun t k => XS.istore X2z.here hx rfl (hb hby d_jdk_68_method_33_code_11) rfl (l' := #[.val (.ref sb), .val (.long v_), .second, .val (.int (Int32.ofNat bs.length)), .val (.int (Int32.ofNat (bs.length + (own_sl v_).length)))]) rfl k) ?_
  refine own_go (fun t k => XS.aloadN X2z.here hx rfl (hb hby d_jdk_68_method_33_code_13) rfl rfl k) ?_
  refine own_go (fun t k => XS.iload X2z.here hx rfl (hb hby d_jdk_68_method_33_code_14) rfl k) ?_
  show own_G p e below (T2z.setTop (mkF m 16 #[.val (.ref sb), .val (.long v_), .second, .val (.int (Int32.ofNat bs.length)), .val (.int (Int32.ofNat (bs.length + (own_sl v_).length)))] [(.int (Int32.ofNat (bs.length + (own_sl v_).length))), (.ref sb)])) _
  obtain ⟨cq3z, qa3z, qb3z⟩ := q0.cell
  obtain ⟨_, _, ⟨T3z, L3z, k3z, n3z⟩, -, X3z, ⟨Lc3z, hQ3z, l3z, y3z, z3z⟩, st3z⟩ := X2z.privateBack hx (y := own_m5) hown (own_mw hZ hw 73 rfl) (own_mw hZ hw 74 rfl) (own_selfPrivC (args := #[]) (own_mw hZ hw 76 rfl) (Cond.privateMethod_at (mvP hZ (own_hw hw 75 rfl) (args := #[]))) (own_mw hZ hw 74 rfl) (by decide)) (Cond.privateMethod_at (mvP hZ (own_hw hw 75 rfl) (args := #[]))) (own_mw hZ hw 77 rfl) (by decide) (backOf (W := 0) (own_ens l Z a0 hw [] sb b kb bs tl (bs.length + (own_sl v_).length) (Int32.ofNat (bs.length + (own_sl v_).length)) h0 O0 q0 q1 q2 q3 q4 q5 q6 q7 nsb hcap rfl h120) hZ (own_hw hw 77 rfl) (own_hw hw 32 rfl) (by decide) (by decide)) (g := (mkF m 16 #[.val (.ref sb), .val (.long v_), .second, .val (.int (Int32.ofNat bs.length)), .val (.int (Int32.ofNat (bs.length + (own_sl v_).length)))] [(.int (Int32.ofNat (bs.length + (own_sl v_).length))), (.ref sb)])) rfl (by rw [hml]; rfl) (Steps.refl _) (a := sb) (by rw [e2z]; exact qa3z) qb3z (argsL := [(.int (Int32.ofNat (bs.length + (own_sl v_).length)))]) (rest := []) (lenOf pd_2087992021 rfl) rfl (by show 2 * 0 + _ ≤ _; exact Nat.le_of_eq rfl) (hb hby d_jdk_68_method_33_code_16) (fun _ _ => ⟨rfl, e2z, (by decide : 0 + 1 ≤ _), (by decide : 0 + 300 ≤ _)⟩)
  dsimp only [Pt.U, Pt.locs, Pt.cells, Pt.slots] at X3z l3z y3z z3z st3z hQ3z
  subst l3z y3z z3z
  obtain ⟨b2_3z, k2_3z, tl2_3z, rfl, NQ3z, K3zq, r3z_0, r3z_1, r3z_2, r3z_3, r3z_4, r3z_5, r3z_6, r3z_7, r3z_8, r3z_9⟩ := hQ3z
  refine own_tr st3z ?_
  have N3z := Fr.app N0 NQ3z
  have O4z := own_ext_keep O0 K3zq (allS q1 all0)
  have K4z := K0.trans K3zq (allS (Or.inl (List.mem_of_getElem? (i := 0) rfl)) all0)
  have dd_b2_3z : b2_3z = b ∨ h0.size ≤ b2_3z := r3z_6.imp id (fun q => Nat.le_trans K0.1 q)
  have ne_sb_b2_3z : sb ≠ b2_3z := r3z_6.elim (fun e => e ▸ nsb) (fun q => Nat.ne_of_lt (Nat.lt_of_lt_of_le q0.lt q))
  show own_G p e below (T3z.setTop (mkF m 19 #[.val (.ref sb), .val (.long v_), .second, .val (.int (Int32.ofNat bs.length)), .val (.int (Int32.ofNat (bs.length + (own_sl v_).length)))] [])) _
  refine own_go (fun t k => XS.aloadN X3z.here hx rfl (hb hby d_jdk_68_method_33_code_19) rfl rfl k) ?_
  obtain ⟨cq5z, kq5z, qa5z, qb5z, qc5z⟩ := isOf hZ (rfl : T3z.heap = _) (q0.keep K3zq)
  obtain ⟨_, _, ⟨T5z, L5z, k5z, n5z⟩, -, X5z, ⟨Lc5z, hQ5z, l5z, y5z, z5z⟩, st5z⟩ := X3z.virtualBack hx (y := own_m13) (z := own_m13) hown (own_mw hZ hw 112 rfl) (own_mw hZ hw 113 rfl) (notFace_of_selects (args := #[]) (own_mw hZ hw 115 rfl)) (own_mw hZ hw 115 rfl) (own_mw hZ hw 114 rfl) (by decide) (backOf (W := 0) (own_l1a l Z a0 hw [] sb b2_3z k2_3z bs tl2_3z cz T3z.heap O4z (q0.keep K3zq) q1 r3z_4 r3z_5 r3z_0 r3z_1 r3z_2 r3z_3 r3z_7 r3z_8 S_CS hcs) hZ (own_hw hw 116 rfl) (own_hw hw 32 rfl) (by decide) (by decide)) qa5z qc5z (g := (mkF m 20 #[.val (.ref sb), .val (.long v_), .second, .val (.int (Int32.ofNat bs.length)), .val (.int (Int32.ofNat (bs.length + (own_sl v_).length)))] [(.ref sb)])) rfl (by rw [hml]; rfl) (Steps.refl _) (argsL := []) (rest := []) (lenOf pd_193422000 rfl) rfl (by show 2 * 0 + _ ≤ _; exact Nat.le_of_eq rfl) (hb hby d_jdk_68_method_33_code_20) (fun _ _ => ⟨rfl, rfl, (by decide : 1 + 0 ≤ _), (by decide : 300 + 0 ≤ _)⟩)
  dsimp only [Pt.U, Pt.locs, Pt.cells, Pt.slots] at X5z l5z y5z z5z st5z hQ5z
  subst l5z y5z z5z
  obtain ⟨rfl, NQ5z, K5zq⟩ := hQ5z
  refine own_tr st5z ?_
  have N5z := Fr.app N3z NQ5z
  show own_G p e below (T5z.setTop (mkF m 23 #[.val (.ref sb), .val (.long v_), .second, .val (.int (Int32.ofNat bs.length)), .val (.int (Int32.ofNat (bs.length + (own_sl v_).length)))] [(.int (1 : Int32))])) _
  refine own_go (fun t k => XS.ifNo X5z.here hx rfl (hb hby d_jdk_68_method_33_code_23) rfl ((if0 _ _).trans (feq (by decide : ¬ ((1 : Int32) = (0 : Int32)))).1) k) ?_
  show own_G p e below (T5z.setTop (mkF m 26 #[.val (.ref sb), .val (.long v_), .second, .val (.int (Int32.ofNat bs.length)), .val (.int (Int32.ofNat (bs.length + (own_sl v_).length)))] [])) _
  refine own_go (fun t k => XS.lloadN X5z.here hx rfl (hb hby d_jdk_68_method_33_code_26) rfl k) ?_
  refine own_go (fun t k => XS.iload X5z.here hx rfl (hb hby d_jdk_68_method_33_code_27) rfl k) ?_
  refine own_go (fun t k => XS.aloadN X5z.here hx rfl (hb hby d_jdk_68_method_33_code_29) rfl rfl k) ?_
  show own_G p e below (T5z.setTop (mkF m 30 #[.val (.ref sb), .val (.long v_), .second, .val (.int (Int32.ofNat bs.length)), .val (.int (Int32.ofNat (bs.length + (own_sl v_).length)))] [(.ref sb), (.int (Int32.ofNat (bs.length + (own_sl v_).length))), (.long v_)])) _
  obtain ⟨T6z, X6z, e6z, st6z⟩ := getF X5z hx hZ hown (host := "") (Or.inl (own_hw hw 38 rfl)) Via.refl K5zq r3z_0 (g := (mkF m 30 #[.val (.ref sb), .val (.long v_), .second, .val (.int (Int32.ofNat bs.length)), .val (.int (Int32.ofNat (bs.length + (own_sl v_).length)))] [(.ref sb), (.int (Int32.ofNat (bs.length + (own_sl v_).length))), (.long v_)])) rfl rfl (hb hby d_jdk_68_method_33_code_30)
  refine own_go st6z ?_
  obtain ⟨T7z, h7z, L7z, rv7z, X7z, e7z, N7z, K7zq, V7z, st7z⟩ := own_gcL X6z hx hZ hown (own_hw hw 117 rfl) (own_hw hw 118 rfl) (own_hw hw 109 rfl) rfl (own_hw hw 119 rfl) (own_hw hw 121 rfl) (own_hw hw 150 rfl) (own_hw hw 120 rfl) (own_hw hw 149 rfl) DT O4z e6z r3z_3 r3z_4 (idx := bs.length + (own_sl v_).length) (by rw [List.length_append, own_cv_len]; have := r3z_9; omega) (by omega) N5z (g := (mkF m 33 #[.val (.ref sb), .val (.long v_), .second, .val (.int (Int32.ofNat bs.length)), .val (.int (Int32.ofNat (bs.length + (own_sl v_).length)))] [(.ref b2_3z), (.int (Int32.ofNat (bs.length + (own_sl v_).length))), (.long v_)])) rfl (by rw [hml]; rfl) rfl (hb hby d_jdk_68_method_33_code_33) (by decide) (by decide) (by decide) (W := 0) (by show 2 * 0 + _ ≤ _; exact Nat.le_of_eq rfl) (by decide)
  refine own_go st7z ?_
  have O8z := own_ext_keep O4z K7zq (allS r3z_4 all0)
  have K8z := K4z.trans K7zq (allS (dd_b2_3z.elim (fun e => e.symm ▸ (Or.inl (List.mem_of_getElem? (i := 1) rfl))) (fun q => Or.inr q)) all0)
  have V7z := own_A.eqs V7z (own_putE bs (own_sl v_) tl2_3z)
  show own_G p e below (T7z.setTop (mkF m 36 #[.val (.ref sb), .val (.long v_), .second, .val (.int (Int32.ofNat bs.length)), .val (.int (Int32.ofNat (bs.length + (own_sl v_).length)))] [(.int rv7z)])) _
  refine own_go (fun t k => XS.pop X7z.here hx rfl (hb hby d_jdk_68_method_33_code_36) rfl rfl k) ?_
  refine own_go (fun t k => XS.goto X7z.here hx rfl (pc0 := 37) (pc' := 52) rfl (hb hby d_jdk_68_method_33_code_37) (by decide) (by decide) k) ?_
  show own_G p e below (T7z.setTop (mkF m 52 #[.val (.ref sb), .val (.long v_), .second, .val (.int (Int32.ofNat bs.length)), .val (.int (Int32.ofNat (bs.length + (own_sl v_).length)))] [])) _
  refine own_go (fun t k => XS.aloadN X7z.here hx rfl (hb hby d_jdk_68_method_33_code_52) rfl rfl k) ?_
  refine own_go (fun t k => XS.iload X7z.here hx rfl (hb hby d_jdk_68_method_33_code_53) rfl k) ?_
  show own_G p e below (T7z.setTop (mkF m 55 #[.val (.ref sb), .val (.long v_), .second, .val (.int (Int32.ofNat bs.length)), .val (.int (Int32.ofNat (bs.length + (own_sl v_).length)))] [(.int (Int32.ofNat (bs.length + (own_sl v_).length))), (.ref sb)])) _
  rw [← List.length_append]
  show own_G p e below (T7z.setTop (mkF m 55 #[.val (.ref sb), .val (.long v_), .second, .val (.int (Int32.ofNat bs.length)), .val (.int (Int32.ofNat (bs ++ (own_sl v_)).length))] [(.int (Int32.ofNat (bs ++ (own_sl v_)).length)), (.ref sb)])) _
  have f9z := (r3z_2.keep K7zq (by simp only [List.mem_cons, List.not_mem_nil, or_false, not_or]; exact r3z_7))
  obtain ⟨T10z, h10z, X10z, e10z, W10z, st10z⟩ := putF X7z hx hZ hown (host := "") (Or.inl (own_hw hw 71 rfl)) Via.refl e7z f9z ((q0.keep K3zq).keep K7zq) (Or.inl (own_hw hw 72 rfl)) (own_hw hw 23 rfl) (ty := .int) (by decide) rfl rfl (g := (mkF m 55 #[.val (.ref sb), .val (.long v_), .second, .val (.int (Int32.ofNat bs.length)), .val (.int (Int32.ofNat (bs ++ (own_sl v_)).length))] [(.int (Int32.ofNat (bs ++ (own_sl v_)).length)), (.ref sb)])) rfl rfl (hb hby d_jdk_68_method_33_code_55)
  refine own_go st10z ?_
  have N10z := Fr.snoc X10z N7z q1
  have F10z : Fld Z h10z sb own_s0 "count" "I" (.int (Int32.ofNat (bs ++ (own_sl v_)).length)) := f9z.same W10z
  have O11z := own_ext_wr O8z W10z q1
  have K11z := K8z.wr W10z (Or.inl (List.mem_of_getElem? (i := 0) rfl))
  refine own_go (fun t k => XS.aloadN X10z.here hx rfl (hb hby d_jdk_68_method_33_code_58) rfl rfl k) ?_
  have f12z := ((r3z_0.keep K7zq (by simp only [List.mem_cons, List.not_mem_nil, or_false, not_or]; exact r3z_7)).other W10z (Or.inr (slot_ne (Or.inl (own_hw hw 39 rfl)) (Or.inl (own_hw hw 72 rfl)) (by decide) (t := (.array .byte)) (t' := .int) (by decide) (by decide))))
  have f13z := ((r3z_1.keep K7zq (by simp only [List.mem_cons, List.not_mem_nil, or_false, not_or]; exact r3z_7)).other W10z (Or.inr (slot_ne (Or.inl (own_hw hw 41 rfl)) (Or.inl (own_hw hw 72 rfl)) (by decide) (t := .byte) (t' := .int) (by decide) (by decide))))
  exact own_ret X10z hx Bd.returns rfl (Or.inr (Or.inr (Or.inr (Or.inr ⟨rfl, rfl, rfl⟩)))) (hb hby d_jdk_68_method_33_code_59) hlk (Nat.le_of_ble_eq_true rfl) (Nat.le_of_ble_eq_true rfl) (by show Q_own_apJ Z sb b kb bs tl v_ cz h0 _ T10z.heap _; rw [e10z]; exact ⟨b2_3z, k2_3z, (tl2_3z.drop (own_sl v_).length), rfl, N10z, K11z, f12z, f13z, F10z, (V7z.other W10z (Ne.symm r3z_7)), r3z_4, ((r3z_5.keep K7zq).wr W10z), dd_b2_3z, r3z_7, (by rw [List.length_append, List.length_drop]; omega)⟩)
theorem ef_own_apI (m : MethodId) (x0 : Addr) (x1 : Int32) : entryFrame m #[(.ref x0), (.int x1)] 4 = mkF m 0 #[.val (.ref x0), .val (.int x1), .unset, .unset] [] := by first | (simp [entryFrame, mkF, argsToLocals, Value.category]; done) | rfl
theorem pf_own_apI : plainFor own_m15 = true := plainFor_of_name (by simp [plainName, overriddenIn])
theorem d_jdk_68_method_32_code_0 : decode jdk_68_method_32_code 0 = .ok (.aload_n 0, 1) := by decide +kernel
theorem d_jdk_68_method_32_code_1 : decode jdk_68_method_32_code 1 = .ok (.getfield 79, 3) := by decide +kernel
theorem d_jdk_68_method_32_code_10 : decode jdk_68_method_32_code 10 = .ok (.iadd, 1) := by decide +kernel
theorem d_jdk_68_method_32_code_11 : decode jdk_68_method_32_code 11 = .ok (.istore_n 3, 1) := by decide +kernel
theorem d_jdk_68_method_32_code_12 : decode jdk_68_method_32_code 12 = .ok (.aload_n 0, 1) := by decide +kernel
theorem d_jdk_68_method_32_code_13 : decode jdk_68_method_32_code 13 = .ok (.iload_n 3, 1) := by decide +kernel
theorem d_jdk_68_method_32_code_14 : decode jdk_68_method_32_code 14 = .ok (.invokevirtual 100, 3) := by decide +kernel
theorem d_jdk_68_method_32_code_17 : decode jdk_68_method_32_code 17 = .ok (.aload_n 0, 1) := by decide +kernel
theorem d_jdk_68_method_32_code_18 : decode jdk_68_method_32_code 18 = .ok (.invokevirtual 83, 3) := by decide +kernel
theorem d_jdk_68_method_32_code_21 : decode jdk_68_method_32_code 21 = .ok (.ifCond .eq 16, 3) := by decide +kernel
theorem d_jdk_68_method_32_code_24 : decode jdk_68_method_32_code 24 = .ok (.iload_n 1, 1) := by decide +kernel
theorem d_jdk_68_method_32_code_25 : decode jdk_68_method_32_code 25 = .ok (.iload_n 3, 1) := by decide +kernel
theorem d_jdk_68_method_32_code_26 : decode jdk_68_method_32_code 26 = .ok (.aload_n 0, 1) := by decide +kernel
theorem d_jdk_68_method_32_code_27 : decode jdk_68_method_32_code 27 = .ok (.getfield 15, 3) := by decide +kernel
theorem d_jdk_68_method_32_code_30 : decode jdk_68_method_32_code 30 = .ok (.invokestatic 248, 3) := by decide +kernel
theorem d_jdk_68_method_32_code_33 : decode jdk_68_method_32_code 33 = .ok (.pop, 1) := by decide +kernel
theorem d_jdk_68_method_32_code_34 : decode jdk_68_method_32_code 34 = .ok (.goto 14, 3) := by decide +kernel
theorem d_jdk_68_method_32_code_4 : decode jdk_68_method_32_code 4 = .ok (.istore_n 2, 1) := by decide +kernel
theorem d_jdk_68_method_32_code_48 : decode jdk_68_method_32_code 48 = .ok (.aload_n 0, 1) := by decide +kernel
theorem d_jdk_68_method_32_code_49 : decode jdk_68_method_32_code 49 = .ok (.iload_n 3, 1) := by decide +kernel
theorem d_jdk_68_method_32_code_5 : decode jdk_68_method_32_code 5 = .ok (.iload_n 2, 1) := by decide +kernel
theorem d_jdk_68_method_32_code_50 : decode jdk_68_method_32_code 50 = .ok (.putfield 79, 3) := by decide +kernel
theorem d_jdk_68_method_32_code_53 : decode jdk_68_method_32_code 53 = .ok (.aload_n 0, 1) := by decide +kernel
theorem d_jdk_68_method_32_code_54 : decode jdk_68_method_32_code 54 = .ok (.areturn, 1) := by decide +kernel
theorem d_jdk_68_method_32_code_6 : decode jdk_68_method_32_code 6 = .ok (.iload_n 1, 1) := by decide +kernel
theorem d_jdk_68_method_32_code_7 : decode jdk_68_method_32_code 7 = .ok (.invokestatic 245, 3) := by decide +kernel
def Q_own_apI (Z : State) (sb : Addr) (b : Addr) (kb : ClassId) (bs : (List Int32)) (tl : (List Value)) (v_ : Int32) (cz : Int32) (h0 : Heap) (v : Option Value) (h : Heap) (L : List Loc) : Prop := ∃ b2 : Addr, ∃ k2 : ClassId, ∃ tl2 : (List Value), v = some (.ref sb) ∧ Fr Z.heap.size L ∧ Keep h0 h [sb, b] ∧ (Fld Z h sb own_s0 "value" "[B" (.ref b2)) ∧ (Fld Z h sb own_s0 "coder" "B" (.int (0 : Int32))) ∧ (Fld Z h sb own_s0 "count" "I" (.int (Int32.ofNat (bs ++ (own_sl v_.toInt64)).length))) ∧ (own_A Z h b2 k2 .byte (own_cv (bs ++ (own_sl v_.toInt64)) ++ tl2)) ∧ (Z.heap.size ≤ b2) ∧ (Exa Z h b2 "[B") ∧ (b2 = b ∨ h0.size ≤ b2) ∧ (sb ≠ b2) ∧ ((bs ++ (own_sl v_.toInt64)).length + tl2.length ≤ 242)
set_option maxRecDepth 65536 in
set_option maxHeartbeats 40000000 in
theorem own_apI (l : Launch) (Z : State) (a0 : Array Value) (hw : ∀ d ∈ tables_1, d.before a0 Z = true) (ws : List Jvm.Cond) (sb : Addr) (b : Addr) (kb : ClassId) (bs : (List Int32)) (tl : (List Value)) (v_ : Int32) (cz : Int32) (h0 : Heap) (O0 : Ext Z.heap h0) (q0 : Exa Z h0 sb own_s3) (q1 : Z.heap.size ≤ sb) (q2 : Z.heap.size ≤ b) (q3 : Exa Z h0 b "[B") (q4 : Fld Z h0 sb own_s0 "value" "[B" (.ref b)) (q5 : Fld Z h0 sb own_s0 "coder" "B" (.int (0 : Int32))) (q6 : Fld Z h0 sb own_s0 "count" "I" (.int (Int32.ofNat bs.length))) (q7 : own_A Z h0 b kb .byte (own_cv bs ++ tl)) (nsb : sb ≠ b) (hcap : bs.length + tl.length ≤ 242) (h120 : bs.length + (own_sl v_.toInt64).length ≤ 120) (DT : own_DT Z) (S_CS : Sta Z Z.heap own_s2 own_s5 "Z" (.int cz)) (hcs : ¬ (cz = (0 : Int32))) :
    MetFree l own_m15 (head1 (Jvm.Cond.code own_m15 jdk_68_method_32_code 4 (some (.object own_s0)) :: ws) ({ frames := 4, cells := 1, slots := 300, locals := 106 } : Room)) (fun aa U => aa = #[(.ref sb), (.int v_)] ∧ Z.Warmed39 U.vm ∧ U.heap = h0) (fun _ _ _ _ _ => True) (fun _ U o U' => ∃ v L, o = .returned v ∧ Q_own_apI Z sb b kb bs tl v_ cz h0 v U'.heap L ∧ FrameEnd U o U' L ({ frames := 4, cells := 1, slots := 300, locals := 106 } : Room).cells ({ frames := 4, cells := 1, slots := 300, locals := 106 } : Room).slots) := by
  refine MetFree.of_bodySF pf_own_apI hisR ?_
  intro p e s m args below meth c s₁ Bd hml0 hP hK
  obtain ⟨rfl, hZ, hh⟩ := hP
  have hx := Bd.exec
  have hby := Bd.bytes
  have hlk := BodyLoose.notSynchronized Bd
  have hml : c.maxLocals = 4 := hml0
  have hown : s.vm.findClass own_s0 = some m.cls := findClass_of_methodNamed Bd.named
  have hnm := (name_of_methodNamed Bd.named Bd.method).1
  have X0 : Stand p l e ({ frames := 4, cells := 1, slots := 300, locals := 106 } : Room) s m #[(.ref sb), (.int v_)] below meth c s₁ [] 0 0 := Stand.of_body Bd
  have e0 : s₁.heap = h0 := by rw [← hh, Bd.state]; rfl
  have N0 := Fr.nil Z.heap.size
  have K0 : Keep h0 h0 [sb, b] := Keep.refl _ _
  refine own_start (Q := Q_own_apI Z sb b kb bs tl v_ cz h0) (ef_own_apI m (sb) (v_)) ?_
  show own_G p e below (s₁.setTop (mkF m 0 #[.val (.ref sb), .val (.int v_), .unset, .unset] [])) _
  refine own_go (fun t k => XS.aloadN X0.here hx rfl (hb hby d_jdk_68_method_32_code_0) rfl rfl k) ?_
  obtain ⟨T1z, X1z, e1z, st1z⟩ := getF X0 hx hZ hown (host := "") (Or.inl (own_hw hw 71 rfl)) Via.refl e0 q6 (g := (mkF m 1 #[.val (.ref sb), .val (.int v_), .unset, .unset] [(.ref sb)])) rfl rfl (hb hby d_jdk_68_method_32_code_1)
  refine own_go st1z ?_
  refine own_go (fun t k => XS.istoreN X1z.here hx rfl (hb hby d_jdk_68_method_32_code_4) rfl (l' := #[.val (.ref sb), .val (.int v_), .val (.int (Int32.ofNat bs.length)), .unset]) rfl k) ?_
  show own_G p e below (T1z.setTop (mkF m 5 #[.val (.ref sb), .val (.int v_), .val (.int (Int32.ofNat bs.length)), .unset] [])) _
  refine own_go (fun t k => XS.iloadN X1z.here hx rfl (hb hby d_jdk_68_method_32_code_5) rfl k) ?_
  refine own_go (fun t k => XS.iloadN X1z.here hx rfl (hb hby d_jdk_68_method_32_code_6) rfl k) ?_
  obtain ⟨T2z, X2z, e2z, st2z⟩ := own_ssI X1z hx hZ hown (own_hw hw 161 rfl) (own_hw hw 162 rfl) (own_hw hw 122 rfl) rfl (own_hw hw 163 rfl) e1z (g := (mkF m 7 #[.val (.ref sb), .val (.int v_), .val (.int (Int32.ofNat bs.length)), .unset] [(.int v_), (.int (Int32.ofNat bs.length))])) rfl (by rw [hml]; rfl) rfl (hb hby d_jdk_68_method_32_code_7) (by decide) (by decide) (by decide) (W := 1) (by show 2 * 0 + _ ≤ _; exact Nat.le_of_eq rfl) (by decide)
  refine own_go st2z ?_
  show own_G p e below (T2z.setTop (mkF m 10 #[.val (.ref sb), .val (.int v_), .val (.int (Int32.ofNat bs.length)), .unset] [(.int (Int32.ofNat (own_sl v_.toInt64).length)), (.int (Int32.ofNat bs.length))])) _
  refine own_go (fun t k => XS.iadd X2z.here hx rfl (hb hby d_jdk_68_method_32_code_10) rfl k) ?_
  show own_G p e below (T2z.setTop (mkF m 11 #[.val (.ref sb), .val (.int v_), .val (.int (Int32.ofNat bs.length)), .unset] [(.int ((Int32.ofNat bs.length) + (Int32.ofNat (own_sl v_.toInt64).length)))])) _
  rw [own_addN (by omega)]
  show own_G p e below (T2z.setTop (mkF m 11 #[.val (.ref sb), .val (.int v_), .val (.int (Int32.ofNat bs.length)), .unset] [(.int (Int32.ofNat (bs.length + (own_sl v_.toInt64).length)))])) _
  refine own_go (fun t k => XS.istoreN X2z.here hx rfl (hb hby d_jdk_68_method_32_code_11) rfl (l' := #[.val (.ref sb), .val (.int v_), .val (.int (Int32.ofNat bs.length)), .val (.int (Int32.ofNat (bs.length + (own_sl v_.toInt64).length)))]) rfl k) ?_
  refine own_go (fun t k => XS.aloadN X2z.here hx rfl (hb hby d_jdk_68_method_32_code_12) rfl rfl k) ?_
  refine own_go (fun t k => XS.iloadN X2z.here hx rfl (hb hby d_jdk_68_method_32_code_13) rfl k) ?_
  show own_G p e below (T2z.setTop (mkF m 14 #[.val (.ref sb), .val (.int v_), .val (.int (Int32.ofNat bs.length)), .val (.int (Int32.ofNat (bs.length + (own_sl v_.toInt64).length)))] [(.int (Int32.ofNat (bs.length + (own_sl v_.toInt64).length))), (.ref sb)])) _
  obtain ⟨cq3z, qa3z, qb3z⟩ := q0.cell
  obtain ⟨_, _, ⟨T3z, L3z, k3z, n3z⟩, -, X3z, ⟨Lc3z, hQ3z, l3z, y3z, z3z⟩, st3z⟩ := X2z.privateBack hx (y := own_m5) hown (own_mw hZ hw 73 rfl) (own_mw hZ hw 74 rfl) (own_selfPrivC (args := #[]) (own_mw hZ hw 76 rfl) (Cond.privateMethod_at (mvP hZ (own_hw hw 75 rfl) (args := #[]))) (own_mw hZ hw 74 rfl) (by decide)) (Cond.privateMethod_at (mvP hZ (own_hw hw 75 rfl) (args := #[]))) (own_mw hZ hw 77 rfl) (by decide) (backOf (W := 0) (own_ens l Z a0 hw [] sb b kb bs tl (bs.length + (own_sl v_.toInt64).length) (Int32.ofNat (bs.length + (own_sl v_.toInt64).length)) h0 O0 q0 q1 q2 q3 q4 q5 q6 q7 nsb hcap rfl h120) hZ (own_hw hw 77 rfl) (own_hw hw 32 rfl) (by decide) (by decide)) (g := (mkF m 14 #[.val (.ref sb), .val (.int v_), .val (.int (Int32.ofNat bs.length)), .val (.int (Int32.ofNat (bs.length + (own_sl v_.toInt64).length)))] [(.int (Int32.ofNat (bs.length + (own_sl v_.toInt64).length))), (.ref sb)])) rfl (by rw [hml]; rfl) (Steps.refl _) (a := sb) (by rw [e2z]; exact qa3z) qb3z (argsL := [(.int (Int32.ofNat (bs.length + (own_sl v_.toInt64).length)))]) (rest := []) (lenOf pd_2087992021 rfl) rfl (by show 2 * 0 + _ ≤ _; exact Nat.le_of_eq rfl) (hb hby d_jdk_68_method_32_code_14) (fun _ _ => ⟨rfl, e2z, (by decide : 0 + 1 ≤ _), (by decide : 0 + 300 ≤ _)⟩)
  dsimp only [Pt.U, Pt.locs, Pt.cells, Pt.slots] at X3z l3z y3z z3z st3z hQ3z
  subst l3z y3z z3z
  obtain ⟨b2_3z, k2_3z, tl2_3z, rfl, NQ3z, K3zq, r3z_0, r3z_1, r3z_2, r3z_3, r3z_4, r3z_5, r3z_6, r3z_7, r3z_8, r3z_9⟩ := hQ3z
  refine own_tr st3z ?_
  have N3z := Fr.app N0 NQ3z
  have O4z := own_ext_keep O0 K3zq (allS q1 all0)
  have K4z := K0.trans K3zq (allS (Or.inl (List.mem_of_getElem? (i := 0) rfl)) all0)
  have dd_b2_3z : b2_3z = b ∨ h0.size ≤ b2_3z := r3z_6.imp id (fun q => Nat.le_trans K0.1 q)
  have ne_sb_b2_3z : sb ≠ b2_3z := r3z_6.elim (fun e => e ▸ nsb) (fun q => Nat.ne_of_lt (Nat.lt_of_lt_of_le q0.lt q))
  show own_G p e below (T3z.setTop (mkF m 17 #[.val (.ref sb), .val (.int v_), .val (.int (Int32.ofNat bs.length)), .val (.int (Int32.ofNat (bs.length + (own_sl v_.toInt64).length)))] [])) _
  refine own_go (fun t k => XS.aloadN X3z.here hx rfl (hb hby d_jdk_68_method_32_code_17) rfl rfl k) ?_
  obtain ⟨cq5z, kq5z, qa5z, qb5z, qc5z⟩ := isOf hZ (rfl : T3z.heap = _) (q0.keep K3zq)
  obtain ⟨_, _, ⟨T5z, L5z, k5z, n5z⟩, -, X5z, ⟨Lc5z, hQ5z, l5z, y5z, z5z⟩, st5z⟩ := X3z.virtualBack hx (y := own_m13) (z := own_m13) hown (own_mw hZ hw 112 rfl) (own_mw hZ hw 113 rfl) (notFace_of_selects (args := #[]) (own_mw hZ hw 115 rfl)) (own_mw hZ hw 115 rfl) (own_mw hZ hw 114 rfl) (by decide) (backOf (W := 0) (own_l1a l Z a0 hw [] sb b2_3z k2_3z bs tl2_3z cz T3z.heap O4z (q0.keep K3zq) q1 r3z_4 r3z_5 r3z_0 r3z_1 r3z_2 r3z_3 r3z_7 r3z_8 S_CS hcs) hZ (own_hw hw 116 rfl) (own_hw hw 32 rfl) (by decide) (by decide)) qa5z qc5z (g := (mkF m 18 #[.val (.ref sb), .val (.int v_), .val (.int (Int32.ofNat bs.length)), .val (.int (Int32.ofNat (bs.length + (own_sl v_.toInt64).length)))] [(.ref sb)])) rfl (by rw [hml]; rfl) (Steps.refl _) (argsL := []) (rest := []) (lenOf pd_193422000 rfl) rfl (by show 2 * 0 + _ ≤ _; exact Nat.le_of_eq rfl) (hb hby d_jdk_68_method_32_code_18) (fun _ _ => ⟨rfl, rfl, (by decide : 1 + 0 ≤ _), (by decide : 300 + 0 ≤ _)⟩)
  dsimp only [Pt.U, Pt.locs, Pt.cells, Pt.slots] at X5z l5z y5z z5z st5z hQ5z
  subst l5z y5z z5z
  obtain ⟨rfl, NQ5z, K5zq⟩ := hQ5z
  refine own_tr st5z ?_
  have N5z := Fr.app N3z NQ5z
  show own_G p e below (T5z.setTop (mkF m 21 #[.val (.ref sb), .val (.int v_), .val (.int (Int32.ofNat bs.length)), .val (.int (Int32.ofNat (bs.length + (own_sl v_.toInt64).length)))] [(.int (1 : Int32))])) _
  refine own_go (fun t k => XS.ifNo X5z.here hx rfl (hb hby d_jdk_68_method_32_code_21) rfl ((if0 _ _).trans (feq (by decide : ¬ ((1 : Int32) = (0 : Int32)))).1) k) ?_
  show own_G p e below (T5z.setTop (mkF m 24 #[.val (.ref sb), .val (.int v_), .val (.int (Int32.ofNat bs.length)), .val (.int (Int32.ofNat (bs.length + (own_sl v_.toInt64).length)))] [])) _
  refine own_go (fun t k => XS.iloadN X5z.here hx rfl (hb hby d_jdk_68_method_32_code_24) rfl k) ?_
  refine own_go (fun t k => XS.iloadN X5z.here hx rfl (hb hby d_jdk_68_method_32_code_25) rfl k) ?_
  refine own_go (fun t k => XS.aloadN X5z.here hx rfl (hb hby d_jdk_68_method_32_code_26) rfl rfl k) ?_
  show own_G p e below (T5z.setTop (mkF m 27 #[.val (.ref sb), .val (.int v_), .val (.int (Int32.ofNat bs.length)), .val (.int (Int32.ofNat (bs.length + (own_sl v_.toInt64).length)))] [(.ref sb), (.int (Int32.ofNat (bs.length + (own_sl v_.toInt64).length))), (.int v_)])) _
  obtain ⟨T6z, X6z, e6z, st6z⟩ := getF X5z hx hZ hown (host := "") (Or.inl (own_hw hw 38 rfl)) Via.refl K5zq r3z_0 (g := (mkF m 27 #[.val (.ref sb), .val (.int v_), .val (.int (Int32.ofNat bs.length)), .val (.int (Int32.ofNat (bs.length + (own_sl v_.toInt64).length)))] [(.ref sb), (.int (Int32.ofNat (bs.length + (own_sl v_.toInt64).length))), (.int v_)])) rfl rfl (hb hby d_jdk_68_method_32_code_27)
  refine own_go st6z ?_
  obtain ⟨T7z, h7z, L7z, rv7z, X7z, e7z, N7z, K7zq, V7z, st7z⟩ := own_gcI X6z hx hZ hown (own_hw hw 164 rfl) (own_hw hw 165 rfl) (own_hw hw 122 rfl) rfl (own_hw hw 166 rfl) (own_hw hw 167 rfl) (own_hw hw 270 rfl) DT O4z e6z r3z_3 r3z_4 (idx := bs.length + (own_sl v_.toInt64).length) (by rw [List.length_append, own_cv_len]; have := r3z_9; omega) (by omega) N5z (g := (mkF m 30 #[.val (.ref sb), .val (.int v_), .val (.int (Int32.ofNat bs.length)), .val (.int (Int32.ofNat (bs.length + (own_sl v_.toInt64).length)))] [(.ref b2_3z), (.int (Int32.ofNat (bs.length + (own_sl v_.toInt64).length))), (.int v_)])) rfl (by rw [hml]; rfl) rfl (hb hby d_jdk_68_method_32_code_30) (by decide) (by decide) (by decide) (W := 0) (by show 2 * 0 + _ ≤ _; exact Nat.le_of_eq rfl) (by decide)
  refine own_go st7z ?_
  have O8z := own_ext_keep O4z K7zq (allS r3z_4 all0)
  have K8z := K4z.trans K7zq (allS (dd_b2_3z.elim (fun e => e.symm ▸ (Or.inl (List.mem_of_getElem? (i := 1) rfl))) (fun q => Or.inr q)) all0)
  have V7z := own_A.eqs V7z (own_putE bs (own_sl v_.toInt64) tl2_3z)
  show own_G p e below (T7z.setTop (mkF m 33 #[.val (.ref sb), .val (.int v_), .val (.int (Int32.ofNat bs.length)), .val (.int (Int32.ofNat (bs.length + (own_sl v_.toInt64).length)))] [(.int rv7z)])) _
  refine own_go (fun t k => XS.pop X7z.here hx rfl (hb hby d_jdk_68_method_32_code_33) rfl rfl k) ?_
  refine own_go (fun t k => XS.goto X7z.here hx rfl (pc0 := 34) (pc' := 48) rfl (hb hby d_jdk_68_method_32_code_34) (by decide) (by decide) k) ?_
  show own_G p e below (T7z.setTop (mkF m 48 #[.val (.ref sb), .val (.int v_), .val (.int (Int32.ofNat bs.length)), .val (.int (Int32.ofNat (bs.length + (own_sl v_.toInt64).length)))] [])) _
  refine own_go (fun t k => XS.aloadN X7z.here hx rfl (hb hby d_jdk_68_method_32_code_48) rfl rfl k) ?_
  refine own_go (fun t k => XS.iloadN X7z.here hx rfl (hb hby d_jdk_68_method_32_code_49) rfl k) ?_
  show own_G p e below (T7z.setTop (mkF m 50 #[.val (.ref sb), .val (.int v_), .val (.int (Int32.ofNat bs.length)), .val (.int (Int32.ofNat (bs.length + (own_sl v_.toInt64).length)))] [(.int (Int32.ofNat (bs.length + (own_sl v_.toInt64).length))), (.ref sb)])) _
  rw [← List.length_append]
  show own_G p e below (T7z.setTop (mkF m 50 #[.val (.ref sb), .val (.int v_), .val (.int (Int32.ofNat bs.length)), .val (.int (Int32.ofNat (bs ++ (own_sl v_.toInt64)).length))] [(.int (Int32.ofNat (bs ++ (own_sl v_.toInt64)).length)), (.ref sb)])) _
  have f9z := (r3z_2.keep K7zq (by simp only [List.mem_cons, List.not_mem_nil, or_false, not_or]; exact r3z_7))
  obtain ⟨T10z, h10z, X10z, e10z, W10z, st10z⟩ := putF X7z hx hZ hown (host := "") (Or.inl (own_hw hw 71 rfl)) Via.refl e7z f9z ((q0.keep K3zq).keep K7zq) (Or.inl (own_hw hw 72 rfl)) (own_hw hw 23 rfl) (ty := .int) (by decide) rfl rfl (g := (mkF m 50 #[.val (.ref sb), .val (.int v_), .val (.int (Int32.ofNat bs.length)), .val (.int (Int32.ofNat (bs ++ (own_sl v_.toInt64)).length))] [(.int (Int32.ofNat (bs ++ (own_sl v_.toInt64)).length)), (.ref sb)])) rfl rfl (hb hby d_jdk_68_method_32_code_50)
  refine own_go st10z ?_
  have N10z := Fr.snoc X10z N7z q1
  have F10z : Fld Z h10z sb own_s0 "count" "I" (.int (Int32.ofNat (bs ++ (own_sl v_.toInt64)).length)) := f9z.same W10z
  have O11z := own_ext_wr O8z W10z q1
  have K11z := K8z.wr W10z (Or.inl (List.mem_of_getElem? (i := 0) rfl))
  refine own_go (fun t k => XS.aloadN X10z.here hx rfl (hb hby d_jdk_68_method_32_code_53) rfl rfl k) ?_
  have f12z := ((r3z_0.keep K7zq (by simp only [List.mem_cons, List.not_mem_nil, or_false, not_or]; exact r3z_7)).other W10z (Or.inr (slot_ne (Or.inl (own_hw hw 39 rfl)) (Or.inl (own_hw hw 72 rfl)) (by decide) (t := (.array .byte)) (t' := .int) (by decide) (by decide))))
  have f13z := ((r3z_1.keep K7zq (by simp only [List.mem_cons, List.not_mem_nil, or_false, not_or]; exact r3z_7)).other W10z (Or.inr (slot_ne (Or.inl (own_hw hw 41 rfl)) (Or.inl (own_hw hw 72 rfl)) (by decide) (t := .byte) (t' := .int) (by decide) (by decide))))
  exact own_ret X10z hx Bd.returns rfl (Or.inr (Or.inr (Or.inr (Or.inr ⟨rfl, rfl, rfl⟩)))) (hb hby d_jdk_68_method_32_code_54) hlk (Nat.le_of_ble_eq_true rfl) (Nat.le_of_ble_eq_true rfl) (by show Q_own_apI Z sb b kb bs tl v_ cz h0 _ T10z.heap _; rw [e10z]; exact ⟨b2_3z, k2_3z, (tl2_3z.drop (own_sl v_.toInt64).length), rfl, N10z, K11z, f12z, f13z, F10z, (V7z.other W10z (Ne.symm r3z_7)), r3z_4, ((r3z_5.keep K7zq).wr W10z), dd_b2_3z, r3z_7, (by rw [List.length_append, List.length_drop]; omega)⟩)
theorem ef_own_sapJ (m : MethodId) (x0 : Addr) (x1 : Int64) : entryFrame m #[(.ref x0), (.long x1)] 3 = mkF m 0 #[.val (.ref x0), .val (.long x1), .second] [] := by first | (simp [entryFrame, mkF, argsToLocals, Value.category]; done) | rfl
theorem pf_own_sapJ : plainFor own_m16 = true := plainFor_of_name (by simp [plainName, overriddenIn])
theorem pd_186501531 : parseMethodDescriptor "(J)Ljava/lang/AbstractStringBuilder;" = some ⟨[.long], some (.object "java/lang/AbstractStringBuilder")⟩ := by decide +kernel
theorem d_jdk_67_method_16_code_0 : decode jdk_67_method_16_code 0 = .ok (.aload_n 0, 1) := by decide +kernel
theorem d_jdk_67_method_16_code_1 : decode jdk_67_method_16_code 1 = .ok (.lload_n 1, 1) := by decide +kernel
theorem d_jdk_67_method_16_code_2 : decode jdk_67_method_16_code 2 = .ok (.invokespecial 56, 3) := by decide +kernel
theorem d_jdk_67_method_16_code_5 : decode jdk_67_method_16_code 5 = .ok (.pop, 1) := by decide +kernel
theorem d_jdk_67_method_16_code_6 : decode jdk_67_method_16_code 6 = .ok (.aload_n 0, 1) := by decide +kernel
theorem d_jdk_67_method_16_code_7 : decode jdk_67_method_16_code 7 = .ok (.areturn, 1) := by decide +kernel
def Q_own_sapJ (Z : State) (sb : Addr) (b : Addr) (kb : ClassId) (bs : (List Int32)) (tl : (List Value)) (v_ : Int64) (cz : Int32) (h0 : Heap) (v : Option Value) (h : Heap) (L : List Loc) : Prop := ∃ b2 : Addr, ∃ k2 : ClassId, ∃ tl2 : (List Value), v = some (.ref sb) ∧ Fr Z.heap.size L ∧ Keep h0 h [sb, b] ∧ (Fld Z h sb own_s0 "value" "[B" (.ref b2)) ∧ (Fld Z h sb own_s0 "coder" "B" (.int (0 : Int32))) ∧ (Fld Z h sb own_s0 "count" "I" (.int (Int32.ofNat (bs ++ (own_sl v_)).length))) ∧ (own_A Z h b2 k2 .byte (own_cv (bs ++ (own_sl v_)) ++ tl2)) ∧ (Z.heap.size ≤ b2) ∧ (Exa Z h b2 "[B") ∧ (b2 = b ∨ h0.size ≤ b2) ∧ (sb ≠ b2) ∧ ((bs ++ (own_sl v_)).length + tl2.length ≤ 242)
set_option maxRecDepth 65536 in
set_option maxHeartbeats 40000000 in
theorem own_sapJ (l : Launch) (Z : State) (a0 : Array Value) (hw : ∀ d ∈ tables_1, d.before a0 Z = true) (ws : List Jvm.Cond) (sb : Addr) (b : Addr) (kb : ClassId) (bs : (List Int32)) (tl : (List Value)) (v_ : Int64) (cz : Int32) (h0 : Heap) (O0 : Ext Z.heap h0) (q0 : Exa Z h0 sb own_s3) (q1 : Z.heap.size ≤ sb) (q2 : Z.heap.size ≤ b) (q3 : Exa Z h0 b "[B") (q4 : Fld Z h0 sb own_s0 "value" "[B" (.ref b)) (q5 : Fld Z h0 sb own_s0 "coder" "B" (.int (0 : Int32))) (q6 : Fld Z h0 sb own_s0 "count" "I" (.int (Int32.ofNat bs.length))) (q7 : own_A Z h0 b kb .byte (own_cv bs ++ tl)) (nsb : sb ≠ b) (hcap : bs.length + tl.length ≤ 242) (h120 : bs.length + (own_sl v_).length ≤ 120) (DT : own_DT Z) (S_CS : Sta Z Z.heap own_s2 own_s5 "Z" (.int cz)) (hcs : ¬ (cz = (0 : Int32))) :
    MetFree l own_m16 (head1 (Jvm.Cond.code own_m16 jdk_67_method_16_code 3 (some (.object own_s3)) :: ws) ({ frames := 5, cells := 1, slots := 300, locals := 122 } : Room)) (fun aa U => aa = #[(.ref sb), (.long v_)] ∧ Z.Warmed39 U.vm ∧ U.heap = h0) (fun _ _ _ _ _ => True) (fun _ U o U' => ∃ v L, o = .returned v ∧ Q_own_sapJ Z sb b kb bs tl v_ cz h0 v U'.heap L ∧ FrameEnd U o U' L ({ frames := 5, cells := 1, slots := 300, locals := 122 } : Room).cells ({ frames := 5, cells := 1, slots := 300, locals := 122 } : Room).slots) := by
  refine MetFree.of_bodySF pf_own_sapJ hisR ?_
  intro p e s m args below meth c s₁ Bd hml0 hP hK
  obtain ⟨rfl, hZ, hh⟩ := hP
  have hx := Bd.exec
  have hby := Bd.bytes
  have hlk := BodyLoose.notSynchronized Bd
  have hml : c.maxLocals = 3 := hml0
  have hown : s.vm.findClass own_s3 = some m.cls := findClass_of_methodNamed Bd.named
  have hnm := (name_of_methodNamed Bd.named Bd.method).1
  have X0 : Stand p l e ({ frames := 5, cells := 1, slots := 300, locals := 122 } : Room) s m #[(.ref sb), (.long v_)] below meth c s₁ [] 0 0 := Stand.of_body Bd
  have e0 : s₁.heap = h0 := by rw [← hh, Bd.state]; rfl
  have N0 := Fr.nil Z.heap.size
  have K0 : Keep h0 h0 [sb, b] := Keep.refl _ _
  refine own_start (Q := Q_own_sapJ Z sb b kb bs tl v_ cz h0) (ef_own_sapJ m (sb) (v_)) ?_
  show own_G p e below (s₁.setTop (mkF m 0 #[.val (.ref sb), .val (.long v_), .second] [])) _
  refine own_go (fun t k => XS.aloadN X0.here hx rfl (hb hby d_jdk_67_method_16_code_0) rfl rfl k) ?_
  refine own_go (fun t k => XS.lloadN X0.here hx rfl (hb hby d_jdk_67_method_16_code_1) rfl k) ?_
  obtain ⟨_, _, ⟨T1z, L1z, k1z, n1z⟩, -, X1z, ⟨Lc1z, hQ1z, l1z, y1z, z1z⟩, st1z⟩ := superBack X0 hx hZ (y := own_m14) hown (own_hw hw 103 rfl) (own_sameSelf (y := own_m14) (own_hw hw 76 rfl) (own_hw hw 74 rfl) rfl (own_hw hw 104 rfl) (by decide)) (own_hw hw 104 rfl) (own_hw hw 55 rfl) (by decide) (backOf (W := 0) (own_apJ l Z a0 hw [] sb b kb bs tl v_ cz h0 O0 q0 q1 q2 q3 q4 q5 q6 q7 nsb hcap h120 DT S_CS hcs) hZ (own_hw hw 106 rfl) (own_hw hw 32 rfl) (by decide) (by decide)) e0 (a := sb) (Ins.self q0) (g := (mkF m 2 #[.val (.ref sb), .val (.long v_), .second] [(.long v_), (.ref sb)])) rfl (by rw [hml]; rfl) (own_hw hw 106 rfl) (argsL := [(.long v_)]) (rest := []) (lenOf pd_186501531 rfl) rfl (by show 2 * 0 + _ ≤ _; exact Nat.le_of_eq rfl) (hb hby d_jdk_67_method_16_code_2) (fun _ _ => ⟨rfl, e0, (by decide : 0 + 1 ≤ _), (by decide : 0 + 300 ≤ _)⟩)
  dsimp only [Pt.U, Pt.locs, Pt.cells, Pt.slots] at X1z l1z y1z z1z st1z hQ1z
  subst l1z y1z z1z
  obtain ⟨b2_1z, k2_1z, tl2_1z, rfl, NQ1z, K1zq, r1z_0, r1z_1, r1z_2, r1z_3, r1z_4, r1z_5, r1z_6, r1z_7, r1z_8⟩ := hQ1z
  refine own_tr st1z ?_
  have N1z := Fr.app N0 NQ1z
  have O2z := own_ext_keep O0 K1zq (allS q1 (allS q2 all0))
  have K2z := K0.trans K1zq (allS (Or.inl (List.mem_of_getElem? (i := 0) rfl)) (allS (Or.inl (List.mem_of_getElem? (i := 1) rfl)) all0))
  have dd_b2_1z : b2_1z = b ∨ h0.size ≤ b2_1z := r1z_6.imp id (fun q => Nat.le_trans K0.1 q)
  have ne_sb_b2_1z : sb ≠ b2_1z := r1z_6.elim (fun e => e ▸ nsb) (fun q => Nat.ne_of_lt (Nat.lt_of_lt_of_le q0.lt q))
  show own_G p e below (T1z.setTop (mkF m 5 #[.val (.ref sb), .val (.long v_), .second] [(.ref sb)])) _
  refine own_go (fun t k => XS.pop X1z.here hx rfl (hb hby d_jdk_67_method_16_code_5) rfl rfl k) ?_
  refine own_go (fun t k => XS.aloadN X1z.here hx rfl (hb hby d_jdk_67_method_16_code_6) rfl rfl k) ?_
  exact own_ret X1z hx Bd.returns rfl (Or.inr (Or.inr (Or.inr (Or.inr ⟨rfl, rfl, rfl⟩)))) (hb hby d_jdk_67_method_16_code_7) hlk (Nat.le_of_ble_eq_true rfl) (Nat.le_of_ble_eq_true rfl) (by show Q_own_sapJ Z sb b kb bs tl v_ cz h0 _ T1z.heap _; exact ⟨b2_1z, k2_1z, tl2_1z, rfl, N1z, K2z, r1z_0, r1z_1, r1z_2, r1z_3, r1z_4, r1z_5, dd_b2_1z, r1z_7, r1z_8⟩)
theorem ef_own_sapI (m : MethodId) (x0 : Addr) (x1 : Int32) : entryFrame m #[(.ref x0), (.int x1)] 2 = mkF m 0 #[.val (.ref x0), .val (.int x1)] [] := by first | (simp [entryFrame, mkF, argsToLocals, Value.category]; done) | rfl
theorem pf_own_sapI : plainFor own_m17 = true := plainFor_of_name (by simp [plainName, overriddenIn])
theorem pd_3437560154 : parseMethodDescriptor "(I)Ljava/lang/AbstractStringBuilder;" = some ⟨[.int], some (.object "java/lang/AbstractStringBuilder")⟩ := by decide +kernel
theorem d_jdk_67_method_15_code_0 : decode jdk_67_method_15_code 0 = .ok (.aload_n 0, 1) := by decide +kernel
theorem d_jdk_67_method_15_code_1 : decode jdk_67_method_15_code 1 = .ok (.iload_n 1, 1) := by decide +kernel
theorem d_jdk_67_method_15_code_2 : decode jdk_67_method_15_code 2 = .ok (.invokespecial 53, 3) := by decide +kernel
theorem d_jdk_67_method_15_code_5 : decode jdk_67_method_15_code 5 = .ok (.pop, 1) := by decide +kernel
theorem d_jdk_67_method_15_code_6 : decode jdk_67_method_15_code 6 = .ok (.aload_n 0, 1) := by decide +kernel
theorem d_jdk_67_method_15_code_7 : decode jdk_67_method_15_code 7 = .ok (.areturn, 1) := by decide +kernel
def Q_own_sapI (Z : State) (sb : Addr) (b : Addr) (kb : ClassId) (bs : (List Int32)) (tl : (List Value)) (v_ : Int32) (cz : Int32) (h0 : Heap) (v : Option Value) (h : Heap) (L : List Loc) : Prop := ∃ b2 : Addr, ∃ k2 : ClassId, ∃ tl2 : (List Value), v = some (.ref sb) ∧ Fr Z.heap.size L ∧ Keep h0 h [sb, b] ∧ (Fld Z h sb own_s0 "value" "[B" (.ref b2)) ∧ (Fld Z h sb own_s0 "coder" "B" (.int (0 : Int32))) ∧ (Fld Z h sb own_s0 "count" "I" (.int (Int32.ofNat (bs ++ (own_sl v_.toInt64)).length))) ∧ (own_A Z h b2 k2 .byte (own_cv (bs ++ (own_sl v_.toInt64)) ++ tl2)) ∧ (Z.heap.size ≤ b2) ∧ (Exa Z h b2 "[B") ∧ (b2 = b ∨ h0.size ≤ b2) ∧ (sb ≠ b2) ∧ ((bs ++ (own_sl v_.toInt64)).length + tl2.length ≤ 242)
set_option maxRecDepth 65536 in
set_option maxHeartbeats 40000000 in
theorem own_sapI (l : Launch) (Z : State) (a0 : Array Value) (hw : ∀ d ∈ tables_1, d.before a0 Z = true) (ws : List Jvm.Cond) (sb : Addr) (b : Addr) (kb : ClassId) (bs : (List Int32)) (tl : (List Value)) (v_ : Int32) (cz : Int32) (h0 : Heap) (O0 : Ext Z.heap h0) (q0 : Exa Z h0 sb own_s3) (q1 : Z.heap.size ≤ sb) (q2 : Z.heap.size ≤ b) (q3 : Exa Z h0 b "[B") (q4 : Fld Z h0 sb own_s0 "value" "[B" (.ref b)) (q5 : Fld Z h0 sb own_s0 "coder" "B" (.int (0 : Int32))) (q6 : Fld Z h0 sb own_s0 "count" "I" (.int (Int32.ofNat bs.length))) (q7 : own_A Z h0 b kb .byte (own_cv bs ++ tl)) (nsb : sb ≠ b) (hcap : bs.length + tl.length ≤ 242) (h120 : bs.length + (own_sl v_.toInt64).length ≤ 120) (DT : own_DT Z) (S_CS : Sta Z Z.heap own_s2 own_s5 "Z" (.int cz)) (hcs : ¬ (cz = (0 : Int32))) :
    MetFree l own_m17 (head1 (Jvm.Cond.code own_m17 jdk_67_method_15_code 2 (some (.object own_s3)) :: ws) ({ frames := 5, cells := 1, slots := 300, locals := 122 } : Room)) (fun aa U => aa = #[(.ref sb), (.int v_)] ∧ Z.Warmed39 U.vm ∧ U.heap = h0) (fun _ _ _ _ _ => True) (fun _ U o U' => ∃ v L, o = .returned v ∧ Q_own_sapI Z sb b kb bs tl v_ cz h0 v U'.heap L ∧ FrameEnd U o U' L ({ frames := 5, cells := 1, slots := 300, locals := 122 } : Room).cells ({ frames := 5, cells := 1, slots := 300, locals := 122 } : Room).slots) := by
  refine MetFree.of_bodySF pf_own_sapI hisR ?_
  intro p e s m args below meth c s₁ Bd hml0 hP hK
  obtain ⟨rfl, hZ, hh⟩ := hP
  have hx := Bd.exec
  have hby := Bd.bytes
  have hlk := BodyLoose.notSynchronized Bd
  have hml : c.maxLocals = 2 := hml0
  have hown : s.vm.findClass own_s3 = some m.cls := findClass_of_methodNamed Bd.named
  have hnm := (name_of_methodNamed Bd.named Bd.method).1
  have X0 : Stand p l e ({ frames := 5, cells := 1, slots := 300, locals := 122 } : Room) s m #[(.ref sb), (.int v_)] below meth c s₁ [] 0 0 := Stand.of_body Bd
  have e0 : s₁.heap = h0 := by rw [← hh, Bd.state]; rfl
  have N0 := Fr.nil Z.heap.size
  have K0 : Keep h0 h0 [sb, b] := Keep.refl _ _
  refine own_start (Q := Q_own_sapI Z sb b kb bs tl v_ cz h0) (ef_own_sapI m (sb) (v_)) ?_
  show own_G p e below (s₁.setTop (mkF m 0 #[.val (.ref sb), .val (.int v_)] [])) _
  refine own_go (fun t k => XS.aloadN X0.here hx rfl (hb hby d_jdk_67_method_15_code_0) rfl rfl k) ?_
  refine own_go (fun t k => XS.iloadN X0.here hx rfl (hb hby d_jdk_67_method_15_code_1) rfl k) ?_
  obtain ⟨_, _, ⟨T1z, L1z, k1z, n1z⟩, -, X1z, ⟨Lc1z, hQ1z, l1z, y1z, z1z⟩, st1z⟩ := superBack X0 hx hZ (y := own_m15) hown (own_hw hw 157 rfl) (own_sameSelf (y := own_m15) (own_hw hw 76 rfl) (own_hw hw 74 rfl) rfl (own_hw hw 158 rfl) (by decide)) (own_hw hw 158 rfl) (own_hw hw 55 rfl) (by decide) (backOf (W := 0) (own_apI l Z a0 hw [] sb b kb bs tl v_ cz h0 O0 q0 q1 q2 q3 q4 q5 q6 q7 nsb hcap h120 DT S_CS hcs) hZ (own_hw hw 160 rfl) (own_hw hw 32 rfl) (by decide) (by decide)) e0 (a := sb) (Ins.self q0) (g := (mkF m 2 #[.val (.ref sb), .val (.int v_)] [(.int v_), (.ref sb)])) rfl (by rw [hml]; rfl) (own_hw hw 160 rfl) (argsL := [(.int v_)]) (rest := []) (lenOf pd_3437560154 rfl) rfl (by show 2 * 0 + _ ≤ _; exact Nat.le_of_eq rfl) (hb hby d_jdk_67_method_15_code_2) (fun _ _ => ⟨rfl, e0, (by decide : 0 + 1 ≤ _), (by decide : 0 + 300 ≤ _)⟩)
  dsimp only [Pt.U, Pt.locs, Pt.cells, Pt.slots] at X1z l1z y1z z1z st1z hQ1z
  subst l1z y1z z1z
  obtain ⟨b2_1z, k2_1z, tl2_1z, rfl, NQ1z, K1zq, r1z_0, r1z_1, r1z_2, r1z_3, r1z_4, r1z_5, r1z_6, r1z_7, r1z_8⟩ := hQ1z
  refine own_tr st1z ?_
  have N1z := Fr.app N0 NQ1z
  have O2z := own_ext_keep O0 K1zq (allS q1 (allS q2 all0))
  have K2z := K0.trans K1zq (allS (Or.inl (List.mem_of_getElem? (i := 0) rfl)) (allS (Or.inl (List.mem_of_getElem? (i := 1) rfl)) all0))
  have dd_b2_1z : b2_1z = b ∨ h0.size ≤ b2_1z := r1z_6.imp id (fun q => Nat.le_trans K0.1 q)
  have ne_sb_b2_1z : sb ≠ b2_1z := r1z_6.elim (fun e => e ▸ nsb) (fun q => Nat.ne_of_lt (Nat.lt_of_lt_of_le q0.lt q))
  show own_G p e below (T1z.setTop (mkF m 5 #[.val (.ref sb), .val (.int v_)] [(.ref sb)])) _
  refine own_go (fun t k => XS.pop X1z.here hx rfl (hb hby d_jdk_67_method_15_code_5) rfl rfl k) ?_
  refine own_go (fun t k => XS.aloadN X1z.here hx rfl (hb hby d_jdk_67_method_15_code_6) rfl rfl k) ?_
  exact own_ret X1z hx Bd.returns rfl (Or.inr (Or.inr (Or.inr (Or.inr ⟨rfl, rfl, rfl⟩)))) (hb hby d_jdk_67_method_15_code_7) hlk (Nat.le_of_ble_eq_true rfl) (Nat.le_of_ble_eq_true rfl) (by show Q_own_sapI Z sb b kb bs tl v_ cz h0 _ T1z.heap _; exact ⟨b2_1z, k2_1z, tl2_1z, rfl, N1z, K2z, r1z_0, r1z_1, r1z_2, r1z_3, r1z_4, r1z_5, dd_b2_1z, r1z_7, r1z_8⟩)
theorem ef_own_gv (m : MethodId) (x0 : Addr) : entryFrame m #[(.ref x0)] 1 = mkF m 0 #[.val (.ref x0)] [] := by first | (simp [entryFrame, mkF, argsToLocals, Value.category]; done) | rfl
theorem pf_own_gv : plainFor own_m18 = true := plainFor_of_name (by simp [plainName, overriddenIn])
theorem d_jdk_68_method_64_code_0 : decode jdk_68_method_64_code 0 = .ok (.aload_n 0, 1) := by decide +kernel
theorem d_jdk_68_method_64_code_1 : decode jdk_68_method_64_code 1 = .ok (.getfield 15, 3) := by decide +kernel
theorem d_jdk_68_method_64_code_4 : decode jdk_68_method_64_code 4 = .ok (.areturn, 1) := by decide +kernel
def Q_own_gv (Z : State) (sb : Addr) (b : Addr) (kb : ClassId) (bs : (List Int32)) (tl : (List Value)) (h0 : Heap) (v : Option Value) (h : Heap) (L : List Loc) : Prop := v = some (.ref b) ∧ Fr Z.heap.size L ∧ h = h0
set_option maxRecDepth 65536 in
set_option maxHeartbeats 40000000 in
theorem own_gv (l : Launch) (Z : State) (a0 : Array Value) (hw : ∀ d ∈ tables_1, d.before a0 Z = true) (ws : List Jvm.Cond) (sb : Addr) (b : Addr) (kb : ClassId) (bs : (List Int32)) (tl : (List Value)) (h0 : Heap) (O0 : Ext Z.heap h0) (q0 : Exa Z h0 sb own_s3) (q1 : Z.heap.size ≤ sb) (q2 : Z.heap.size ≤ b) (q3 : Exa Z h0 b "[B") (q4 : Fld Z h0 sb own_s0 "value" "[B" (.ref b)) (q5 : Fld Z h0 sb own_s0 "coder" "B" (.int (0 : Int32))) (q6 : Fld Z h0 sb own_s0 "count" "I" (.int (Int32.ofNat bs.length))) (q7 : own_A Z h0 b kb .byte (own_cv bs ++ tl)) (nsb : sb ≠ b) (hcap : bs.length + tl.length ≤ 242) :
    MetFree l own_m18 (head1 (Jvm.Cond.code own_m18 jdk_68_method_64_code 1 (some (.array .byte)) :: ws) ({ frames := 0, cells := 0, slots := 0, locals := 0 } : Room)) (fun aa U => aa = #[(.ref sb)] ∧ Z.Warmed39 U.vm ∧ U.heap = h0) (fun _ _ _ _ _ => True) (fun _ U o U' => ∃ v L, o = .returned v ∧ Q_own_gv Z sb b kb bs tl h0 v U'.heap L ∧ FrameEnd U o U' L ({ frames := 0, cells := 0, slots := 0, locals := 0 } : Room).cells ({ frames := 0, cells := 0, slots := 0, locals := 0 } : Room).slots) := by
  refine MetFree.of_bodySF pf_own_gv hisR ?_
  intro p e s m args below meth c s₁ Bd hml0 hP hK
  obtain ⟨rfl, hZ, hh⟩ := hP
  have hx := Bd.exec
  have hby := Bd.bytes
  have hlk := BodyLoose.notSynchronized Bd
  have hml : c.maxLocals = 1 := hml0
  have hown : s.vm.findClass own_s0 = some m.cls := findClass_of_methodNamed Bd.named
  have hnm := (name_of_methodNamed Bd.named Bd.method).1
  have X0 : Stand p l e ({ frames := 0, cells := 0, slots := 0, locals := 0 } : Room) s m #[(.ref sb)] below meth c s₁ [] 0 0 := Stand.of_body Bd
  have e0 : s₁.heap = h0 := by rw [← hh, Bd.state]; rfl
  have N0 := Fr.nil Z.heap.size
  have K0 : Keep h0 h0 [] := Keep.refl _ _
  refine own_start (Q := Q_own_gv Z sb b kb bs tl h0) (ef_own_gv m (sb)) ?_
  show own_G p e below (s₁.setTop (mkF m 0 #[.val (.ref sb)] [])) _
  refine own_go (fun t k => XS.aloadN X0.here hx rfl (hb hby d_jdk_68_method_64_code_0) rfl rfl k) ?_
  obtain ⟨T1z, X1z, e1z, st1z⟩ := getF X0 hx hZ hown (host := "") (Or.inl (own_hw hw 38 rfl)) Via.refl e0 q4 (g := (mkF m 1 #[.val (.ref sb)] [(.ref sb)])) rfl rfl (hb hby d_jdk_68_method_64_code_1)
  refine own_go st1z ?_
  exact own_ret X1z hx Bd.returns rfl (Or.inr (Or.inr (Or.inr (Or.inr ⟨rfl, rfl, rfl⟩)))) (hb hby d_jdk_68_method_64_code_4) hlk (Nat.le_of_ble_eq_true rfl) (Nat.le_of_ble_eq_true rfl) (by show Q_own_gv Z sb b kb bs tl h0 _ T1z.heap _; rw [e1z]; exact ⟨rfl, N0, rfl⟩)
theorem ef_own_al (m : MethodId) (x0 : Addr) : entryFrame m #[(.ref x0)] 1 = mkF m 0 #[.val (.ref x0)] [] := by first | (simp [entryFrame, mkF, argsToLocals, Value.category]; done) | rfl
theorem pf_own_al : plainFor own_m19 = true := plainFor_of_name (by simp [plainName, overriddenIn])
theorem d_jdk_68_method_6_code_0 : decode jdk_68_method_6_code 0 = .ok (.aload_n 0, 1) := by decide +kernel
theorem d_jdk_68_method_6_code_1 : decode jdk_68_method_6_code 1 = .ok (.getfield 79, 3) := by decide +kernel
theorem d_jdk_68_method_6_code_4 : decode jdk_68_method_6_code 4 = .ok (.ireturn, 1) := by decide +kernel
def Q_own_al (Z : State) (sb : Addr) (b : Addr) (kb : ClassId) (bs : (List Int32)) (tl : (List Value)) (h0 : Heap) (v : Option Value) (h : Heap) (L : List Loc) : Prop := v = some (.int (Int32.ofNat bs.length)) ∧ Fr Z.heap.size L ∧ h = h0
set_option maxRecDepth 65536 in
set_option maxHeartbeats 40000000 in
theorem own_al (l : Launch) (Z : State) (a0 : Array Value) (hw : ∀ d ∈ tables_1, d.before a0 Z = true) (ws : List Jvm.Cond) (sb : Addr) (b : Addr) (kb : ClassId) (bs : (List Int32)) (tl : (List Value)) (h0 : Heap) (O0 : Ext Z.heap h0) (q0 : Exa Z h0 sb own_s3) (q1 : Z.heap.size ≤ sb) (q2 : Z.heap.size ≤ b) (q3 : Exa Z h0 b "[B") (q4 : Fld Z h0 sb own_s0 "value" "[B" (.ref b)) (q5 : Fld Z h0 sb own_s0 "coder" "B" (.int (0 : Int32))) (q6 : Fld Z h0 sb own_s0 "count" "I" (.int (Int32.ofNat bs.length))) (q7 : own_A Z h0 b kb .byte (own_cv bs ++ tl)) (nsb : sb ≠ b) (hcap : bs.length + tl.length ≤ 242) :
    MetFree l own_m19 (head1 (Jvm.Cond.code own_m19 jdk_68_method_6_code 1 (some .int) :: ws) ({ frames := 0, cells := 0, slots := 0, locals := 0 } : Room)) (fun aa U => aa = #[(.ref sb)] ∧ Z.Warmed39 U.vm ∧ U.heap = h0) (fun _ _ _ _ _ => True) (fun _ U o U' => ∃ v L, o = .returned v ∧ Q_own_al Z sb b kb bs tl h0 v U'.heap L ∧ FrameEnd U o U' L ({ frames := 0, cells := 0, slots := 0, locals := 0 } : Room).cells ({ frames := 0, cells := 0, slots := 0, locals := 0 } : Room).slots) := by
  refine MetFree.of_bodySF pf_own_al hisR ?_
  intro p e s m args below meth c s₁ Bd hml0 hP hK
  obtain ⟨rfl, hZ, hh⟩ := hP
  have hx := Bd.exec
  have hby := Bd.bytes
  have hlk := BodyLoose.notSynchronized Bd
  have hml : c.maxLocals = 1 := hml0
  have hown : s.vm.findClass own_s0 = some m.cls := findClass_of_methodNamed Bd.named
  have hnm := (name_of_methodNamed Bd.named Bd.method).1
  have X0 : Stand p l e ({ frames := 0, cells := 0, slots := 0, locals := 0 } : Room) s m #[(.ref sb)] below meth c s₁ [] 0 0 := Stand.of_body Bd
  have e0 : s₁.heap = h0 := by rw [← hh, Bd.state]; rfl
  have N0 := Fr.nil Z.heap.size
  have K0 : Keep h0 h0 [] := Keep.refl _ _
  refine own_start (Q := Q_own_al Z sb b kb bs tl h0) (ef_own_al m (sb)) ?_
  show own_G p e below (s₁.setTop (mkF m 0 #[.val (.ref sb)] [])) _
  refine own_go (fun t k => XS.aloadN X0.here hx rfl (hb hby d_jdk_68_method_6_code_0) rfl rfl k) ?_
  obtain ⟨T1z, X1z, e1z, st1z⟩ := getF X0 hx hZ hown (host := "") (Or.inl (own_hw hw 71 rfl)) Via.refl e0 q6 (g := (mkF m 1 #[.val (.ref sb)] [(.ref sb)])) rfl rfl (hb hby d_jdk_68_method_6_code_1)
  refine own_go st1z ?_
  exact own_ret X1z hx Bd.returns rfl (Or.inl ⟨rfl, Or.inl rfl, _, rfl⟩) (hb hby d_jdk_68_method_6_code_4) hlk (Nat.le_of_ble_eq_true rfl) (Nat.le_of_ble_eq_true rfl) (by show Q_own_al Z sb b kb bs tl h0 _ T1z.heap _; rw [e1z]; exact ⟨rfl, N0, rfl⟩)
theorem ef_own_sbl (m : MethodId) (x0 : Addr) : entryFrame m #[(.ref x0)] 1 = mkF m 0 #[.val (.ref x0)] [] := by first | (simp [entryFrame, mkF, argsToLocals, Value.category]; done) | rfl
theorem pf_own_sbl : plainFor own_m20 = true := plainFor_of_name (by simp [plainName, overriddenIn])
theorem d_jdk_67_method_93_code_0 : decode jdk_67_method_93_code 0 = .ok (.aload_n 0, 1) := by decide +kernel
theorem d_jdk_67_method_93_code_1 : decode jdk_67_method_93_code 1 = .ok (.invokespecial 343, 3) := by decide +kernel
theorem d_jdk_67_method_93_code_4 : decode jdk_67_method_93_code 4 = .ok (.ireturn, 1) := by decide +kernel
def Q_own_sbl (Z : State) (sb : Addr) (b : Addr) (kb : ClassId) (bs : (List Int32)) (tl : (List Value)) (h0 : Heap) (v : Option Value) (h : Heap) (L : List Loc) : Prop := v = some (.int (Int32.ofNat bs.length)) ∧ Fr Z.heap.size L ∧ h = h0
set_option maxRecDepth 65536 in
set_option maxHeartbeats 40000000 in
theorem own_sbl (l : Launch) (Z : State) (a0 : Array Value) (hw : ∀ d ∈ tables_1, d.before a0 Z = true) (ws : List Jvm.Cond) (sb : Addr) (b : Addr) (kb : ClassId) (bs : (List Int32)) (tl : (List Value)) (h0 : Heap) (O0 : Ext Z.heap h0) (q0 : Exa Z h0 sb own_s3) (q1 : Z.heap.size ≤ sb) (q2 : Z.heap.size ≤ b) (q3 : Exa Z h0 b "[B") (q4 : Fld Z h0 sb own_s0 "value" "[B" (.ref b)) (q5 : Fld Z h0 sb own_s0 "coder" "B" (.int (0 : Int32))) (q6 : Fld Z h0 sb own_s0 "count" "I" (.int (Int32.ofNat bs.length))) (q7 : own_A Z h0 b kb .byte (own_cv bs ++ tl)) (nsb : sb ≠ b) (hcap : bs.length + tl.length ≤ 242) :
    MetFree l own_m20 (head1 (Jvm.Cond.code own_m20 jdk_67_method_93_code 1 (some .int) :: ws) ({ frames := 1, cells := 0, slots := 0, locals := 14 } : Room)) (fun aa U => aa = #[(.ref sb)] ∧ Z.Warmed39 U.vm ∧ U.heap = h0) (fun _ _ _ _ _ => True) (fun _ U o U' => ∃ v L, o = .returned v ∧ Q_own_sbl Z sb b kb bs tl h0 v U'.heap L ∧ FrameEnd U o U' L ({ frames := 1, cells := 0, slots := 0, locals := 14 } : Room).cells ({ frames := 1, cells := 0, slots := 0, locals := 14 } : Room).slots) := by
  refine MetFree.of_bodySF pf_own_sbl hisR ?_
  intro p e s m args below meth c s₁ Bd hml0 hP hK
  obtain ⟨rfl, hZ, hh⟩ := hP
  have hx := Bd.exec
  have hby := Bd.bytes
  have hlk := BodyLoose.notSynchronized Bd
  have hml : c.maxLocals = 1 := hml0
  have hown : s.vm.findClass own_s3 = some m.cls := findClass_of_methodNamed Bd.named
  have hnm := (name_of_methodNamed Bd.named Bd.method).1
  have X0 : Stand p l e ({ frames := 1, cells := 0, slots := 0, locals := 14 } : Room) s m #[(.ref sb)] below meth c s₁ [] 0 0 := Stand.of_body Bd
  have e0 : s₁.heap = h0 := by rw [← hh, Bd.state]; rfl
  have N0 := Fr.nil Z.heap.size
  have K0 : Keep h0 h0 [] := Keep.refl _ _
  refine own_start (Q := Q_own_sbl Z sb b kb bs tl h0) (ef_own_sbl m (sb)) ?_
  show own_G p e below (s₁.setTop (mkF m 0 #[.val (.ref sb)] [])) _
  refine own_go (fun t k => XS.aloadN X0.here hx rfl (hb hby d_jdk_67_method_93_code_0) rfl rfl k) ?_
  obtain ⟨_, _, ⟨T1z, L1z, k1z, n1z⟩, -, X1z, ⟨Lc1z, hQ1z, l1z, y1z, z1z⟩, st1z⟩ := superBack X0 hx hZ (y := own_m19) hown (own_hw hw 193 rfl) (own_sameSelf (y := own_m19) (own_hw hw 76 rfl) (own_hw hw 74 rfl) rfl (own_hw hw 189 rfl) (by decide)) (own_hw hw 189 rfl) (own_hw hw 55 rfl) (by decide) (backOf (W := 0) (own_al l Z a0 hw [] sb b kb bs tl h0 O0 q0 q1 q2 q3 q4 q5 q6 q7 nsb hcap) hZ (own_hw hw 194 rfl) (own_hw hw 32 rfl) (by decide) (by decide)) e0 (a := sb) (Ins.self q0) (g := (mkF m 1 #[.val (.ref sb)] [(.ref sb)])) rfl (by rw [hml]; rfl) (own_hw hw 194 rfl) (argsL := []) (rest := []) (lenOf pd_193421983 rfl) rfl (by show 2 * 0 + _ ≤ _; exact Nat.le_of_eq rfl) (hb hby d_jdk_67_method_93_code_1) (fun _ _ => ⟨rfl, e0, (by decide : 0 + 0 ≤ _), (by decide : 0 + 0 ≤ _)⟩)
  dsimp only [Pt.U, Pt.locs, Pt.cells, Pt.slots] at X1z l1z y1z z1z st1z hQ1z
  subst l1z y1z z1z
  obtain ⟨rfl, NQ1z, K1zq⟩ := hQ1z
  refine own_tr st1z ?_
  have N1z := Fr.app N0 NQ1z
  show own_G p e below (T1z.setTop (mkF m 4 #[.val (.ref sb)] [(.int (Int32.ofNat bs.length))])) _
  exact own_ret X1z hx Bd.returns rfl (Or.inl ⟨rfl, Or.inl rfl, _, rfl⟩) (hb hby d_jdk_67_method_93_code_4) hlk (Nat.le_of_ble_eq_true rfl) (Nat.le_of_ble_eq_true rfl) (by show Q_own_sbl Z sb b kb bs tl h0 _ T1z.heap _; rw [K1zq]; exact ⟨rfl, N1z, rfl⟩)
theorem ef_own_ckl (m : MethodId) (x0 : Int32) (x1 : Int32) : entryFrame m #[(.int x0), (.int x1)] 2 = mkF m 0 #[.val (.int x0), .val (.int x1)] [] := by first | (simp [entryFrame, mkF, argsToLocals, Value.category]; done) | rfl
theorem pf_own_ckl : plainFor own_m21 = true := plainFor_of_name (by simp [plainName, overriddenIn])
theorem d_jdk_65_method_131_code_0 : decode jdk_65_method_131_code 0 = .ok (.iload_n 1, 1) := by decide +kernel
theorem d_jdk_65_method_131_code_1 : decode jdk_65_method_131_code 1 = .ok (.iload_n 0, 1) := by decide +kernel
theorem d_jdk_65_method_131_code_2 : decode jdk_65_method_131_code 2 = .ok (.if_icmp .ge 35, 3) := by decide +kernel
theorem d_jdk_65_method_131_code_37 : decode jdk_65_method_131_code 37 = .ok (.return_, 1) := by decide +kernel
def Q_own_ckl (Z : State) (y : Int32) (h0 : Heap) (v : Option Value) (h : Heap) (L : List Loc) : Prop := v = none ∧ Fr Z.heap.size L ∧ h = h0
set_option maxRecDepth 65536 in
set_option maxHeartbeats 40000000 in
theorem own_ckl (l : Launch) (Z : State) (a0 : Array Value) (hw : ∀ d ∈ tables_1, d.before a0 Z = true) (ws : List Jvm.Cond) (y : Int32) (h0 : Heap) (O0 : Ext Z.heap h0) (hy0 : ¬ (y < (0 : Int32))) :
    MetFree l own_m21 (head1 (Jvm.Cond.code own_m21 jdk_65_method_131_code 2 none :: ws) ({ frames := 0, cells := 0, slots := 0, locals := 0 } : Room)) (fun aa U => aa = #[(.int (0 : Int32)), (.int y)] ∧ Z.Warmed39 U.vm ∧ U.heap = h0) (fun _ _ _ _ _ => True) (fun _ U o U' => ∃ v L, o = .returned v ∧ Q_own_ckl Z y h0 v U'.heap L ∧ FrameEnd U o U' L ({ frames := 0, cells := 0, slots := 0, locals := 0 } : Room).cells ({ frames := 0, cells := 0, slots := 0, locals := 0 } : Room).slots) := by
  refine MetFree.of_bodySF pf_own_ckl hisR ?_
  intro p e s m args below meth c s₁ Bd hml0 hP hK
  obtain ⟨rfl, hZ, hh⟩ := hP
  have hx := Bd.exec
  have hby := Bd.bytes
  have hlk := BodyLoose.notSynchronized Bd
  have hml : c.maxLocals = 2 := hml0
  have hown : s.vm.findClass "java/util/Arrays" = some m.cls := findClass_of_methodNamed Bd.named
  have hnm := (name_of_methodNamed Bd.named Bd.method).1
  have X0 : Stand p l e ({ frames := 0, cells := 0, slots := 0, locals := 0 } : Room) s m #[(.int (0 : Int32)), (.int y)] below meth c s₁ [] 0 0 := Stand.of_body Bd
  have e0 : s₁.heap = h0 := by rw [← hh, Bd.state]; rfl
  have N0 := Fr.nil Z.heap.size
  have K0 : Keep h0 h0 [] := Keep.refl _ _
  refine own_start (Q := Q_own_ckl Z y h0) (ef_own_ckl m ((0 : Int32)) (y)) ?_
  show own_G p e below (s₁.setTop (mkF m 0 #[.val (.int (0 : Int32)), .val (.int y)] [])) _
  refine own_go (fun t k => XS.iloadN X0.here hx rfl (hb hby d_jdk_65_method_131_code_0) rfl k) ?_
  refine own_go (fun t k => XS.iloadN X0.here hx rfl (hb hby d_jdk_65_method_131_code_1) rfl k) ?_
  refine own_go (fun t k => XS.icmpYes X0.here hx rfl (pc0 := 2) (pc' := 37) rfl (hb hby d_jdk_65_method_131_code_2) rfl (flt hy0).2.1 (by decide) (by decide) k) ?_
  show own_G p e below (s₁.setTop (mkF m 37 #[.val (.int (0 : Int32)), .val (.int y)] [])) _
  exact own_retV X0 hx Bd.returns (hb hby d_jdk_65_method_131_code_37) hlk (Nat.le_of_ble_eq_true rfl) (Nat.le_of_ble_eq_true rfl) (by show Q_own_ckl Z y h0 _ s₁.heap _; rw [e0]; exact ⟨rfl, N0, rfl⟩)
theorem own_nn0 {n : Nat} (h : n ≤ 1000) : ¬ Int32.ofNat n < (0 : Int32) := by
  rw [Int32.lt_iff_toInt_lt, own_ofN h]
  have e : (0 : Int32).toInt = 0 := by decide
  omega
theorem ef_own_crb (m : MethodId) (x0 : Addr) (x1 : Int32) (x2 : Int32) : entryFrame m #[(.ref x0), (.int x1), (.int x2)] 5 = mkF m 0 #[.val (.ref x0), .val (.int x1), .val (.int x2), .unset, .unset] [] := by first | (simp [entryFrame, mkF, argsToLocals, Value.category]; done) | rfl
theorem pf_own_crb : plainFor own_m22 = true := plainFor_of_name (by simp [plainName, overriddenIn])
theorem pd_184293406 : parseMethodDescriptor "(II)V" = some ⟨[.int, .int], none⟩ := by decide +kernel
theorem d_jdk_65_method_133_code_0 : decode jdk_65_method_133_code 0 = .ok (.iload_n 1, 1) := by decide +kernel
theorem d_jdk_65_method_133_code_1 : decode jdk_65_method_133_code 1 = .ok (.iload_n 2, 1) := by decide +kernel
theorem d_jdk_65_method_133_code_10 : decode jdk_65_method_133_code 10 = .ok (.newarray .byte, 2) := by decide +kernel
theorem d_jdk_65_method_133_code_12 : decode jdk_65_method_133_code 12 = .ok (.astore 4, 2) := by decide +kernel
theorem d_jdk_65_method_133_code_14 : decode jdk_65_method_133_code 14 = .ok (.aload_n 0, 1) := by decide +kernel
theorem d_jdk_65_method_133_code_15 : decode jdk_65_method_133_code 15 = .ok (.iload_n 1, 1) := by decide +kernel
theorem d_jdk_65_method_133_code_16 : decode jdk_65_method_133_code 16 = .ok (.aload 4, 2) := by decide +kernel
theorem d_jdk_65_method_133_code_18 : decode jdk_65_method_133_code 18 = .ok (.iconst 0, 1) := by decide +kernel
theorem d_jdk_65_method_133_code_19 : decode jdk_65_method_133_code 19 = .ok (.aload_n 0, 1) := by decide +kernel
theorem d_jdk_65_method_133_code_2 : decode jdk_65_method_133_code 2 = .ok (.invokestatic 343, 3) := by decide +kernel
theorem d_jdk_65_method_133_code_20 : decode jdk_65_method_133_code 20 = .ok (.arraylength, 1) := by decide +kernel
theorem d_jdk_65_method_133_code_21 : decode jdk_65_method_133_code 21 = .ok (.iload_n 1, 1) := by decide +kernel
theorem d_jdk_65_method_133_code_22 : decode jdk_65_method_133_code 22 = .ok (.isub, 1) := by decide +kernel
theorem d_jdk_65_method_133_code_23 : decode jdk_65_method_133_code 23 = .ok (.iload_n 3, 1) := by decide +kernel
theorem d_jdk_65_method_133_code_24 : decode jdk_65_method_133_code 24 = .ok (.invokestatic 304, 3) := by decide +kernel
theorem d_jdk_65_method_133_code_27 : decode jdk_65_method_133_code 27 = .ok (.invokestatic 150, 3) := by decide +kernel
theorem d_jdk_65_method_133_code_30 : decode jdk_65_method_133_code 30 = .ok (.aload 4, 2) := by decide +kernel
theorem d_jdk_65_method_133_code_32 : decode jdk_65_method_133_code 32 = .ok (.areturn, 1) := by decide +kernel
theorem d_jdk_65_method_133_code_5 : decode jdk_65_method_133_code 5 = .ok (.iload_n 2, 1) := by decide +kernel
theorem d_jdk_65_method_133_code_6 : decode jdk_65_method_133_code 6 = .ok (.iload_n 1, 1) := by decide +kernel
theorem d_jdk_65_method_133_code_7 : decode jdk_65_method_133_code 7 = .ok (.isub, 1) := by decide +kernel
theorem d_jdk_65_method_133_code_8 : decode jdk_65_method_133_code 8 = .ok (.istore_n 3, 1) := by decide +kernel
theorem d_jdk_65_method_133_code_9 : decode jdk_65_method_133_code 9 = .ok (.iload_n 3, 1) := by decide +kernel
def Q_own_crb (Z : State) (arr : Addr) (kk : ClassId) (bs : (List Int32)) (tl : (List Value)) (h0 : Heap) (v : Option Value) (h : Heap) (L : List Loc) : Prop := ∃ r : Addr, ∃ kr : ClassId, v = some (.ref r) ∧ Fr Z.heap.size L ∧ Keep h0 h [] ∧ (own_A Z h r kr .byte (own_cv bs)) ∧ (h0.size ≤ r) ∧ (Z.heap.size ≤ r)
set_option maxRecDepth 65536 in
set_option maxHeartbeats 40000000 in
theorem own_crb (l : Launch) (Z : State) (a0 : Array Value) (hw : ∀ d ∈ tables_1, d.before a0 Z = true) (ws : List Jvm.Cond) (arr : Addr) (kk : ClassId) (bs : (List Int32)) (tl : (List Value)) (h0 : Heap) (O0 : Ext Z.heap h0) (q0 : own_A Z h0 arr kk .byte (own_cv bs ++ tl)) (hcap : bs.length + tl.length ≤ 242) (q2 : Exa Z h0 arr "[B") :
    MetFree l own_m22 (head1 (Jvm.Cond.code own_m22 jdk_65_method_133_code 5 (some (.array .byte)) :: ws) ({ frames := 1, cells := 1, slots := 300, locals := 24 } : Room)) (fun aa U => aa = #[(.ref arr), (.int (0 : Int32)), (.int (Int32.ofNat bs.length))] ∧ Z.Warmed39 U.vm ∧ U.heap = h0) (fun _ _ _ _ _ => True) (fun _ U o U' => ∃ v L, o = .returned v ∧ Q_own_crb Z arr kk bs tl h0 v U'.heap L ∧ FrameEnd U o U' L ({ frames := 1, cells := 1, slots := 300, locals := 24 } : Room).cells ({ frames := 1, cells := 1, slots := 300, locals := 24 } : Room).slots) := by
  refine MetFree.of_bodySF pf_own_crb hisR ?_
  intro p e s m args below meth c s₁ Bd hml0 hP hK
  obtain ⟨rfl, hZ, hh⟩ := hP
  have hx := Bd.exec
  have hby := Bd.bytes
  have hlk := BodyLoose.notSynchronized Bd
  have hml : c.maxLocals = 5 := hml0
  have hown : s.vm.findClass "java/util/Arrays" = some m.cls := findClass_of_methodNamed Bd.named
  have hnm := (name_of_methodNamed Bd.named Bd.method).1
  have X0 : Stand p l e ({ frames := 1, cells := 1, slots := 300, locals := 24 } : Room) s m #[(.ref arr), (.int (0 : Int32)), (.int (Int32.ofNat bs.length))] below meth c s₁ [] 0 0 := Stand.of_body Bd
  have e0 : s₁.heap = h0 := by rw [← hh, Bd.state]; rfl
  have N0 := Fr.nil Z.heap.size
  have K0 : Keep h0 h0 [] := Keep.refl _ _
  refine own_start (Q := Q_own_crb Z arr kk bs tl h0) (ef_own_crb m (arr) ((0 : Int32)) ((Int32.ofNat bs.length))) ?_
  show own_G p e below (s₁.setTop (mkF m 0 #[.val (.ref arr), .val (.int (0 : Int32)), .val (.int (Int32.ofNat bs.length)), .unset, .unset] [])) _
  refine own_go (fun t k => XS.iloadN X0.here hx rfl (hb hby d_jdk_65_method_133_code_0) rfl k) ?_
  refine own_go (fun t k => XS.iloadN X0.here hx rfl (hb hby d_jdk_65_method_133_code_1) rfl k) ?_
  obtain ⟨_, _, ⟨T1z, L1z, k1z, n1z⟩, -, X1z, ⟨Lc1z, hQ1z, l1z, y1z, z1z⟩, st1z⟩ := Jvm.LawKit.callS X0 hx (y := own_m21) hown (own_mw hZ hw 202 rfl) (own_mw hZ hw 203 rfl) (own_mw hZ hw 142 rfl) (own_mw hZ hw 204 rfl) (by decide) (backOf (W := 0) (own_ckl l Z a0 hw [] (Int32.ofNat bs.length) h0 O0 (own_nn0 (by omega))) hZ (own_hw hw 204 rfl) (own_hw hw 142 rfl) (by decide) (by decide)) (g := (mkF m 2 #[.val (.ref arr), .val (.int (0 : Int32)), .val (.int (Int32.ofNat bs.length)), .unset, .unset] [(.int (Int32.ofNat bs.length)), (.int (0 : Int32))])) rfl (by rw [hml]; rfl) (argsL := [(.int (0 : Int32)), (.int (Int32.ofNat bs.length))]) (rest := []) (lenOf pd_184293406 rfl) rfl (by show 2 * 0 + _ ≤ _; exact Nat.le_of_eq rfl) (hb hby d_jdk_65_method_133_code_2) (fun _ _ => ⟨rfl, e0, (by decide : 0 + 0 ≤ _), (by decide : 0 + 0 ≤ _)⟩)
  dsimp only [Pt.U, Pt.locs, Pt.cells, Pt.slots] at X1z l1z y1z z1z st1z hQ1z
  subst l1z y1z z1z
  obtain ⟨rfl, NQ1z, K1zq⟩ := hQ1z
  refine own_go st1z ?_
  have N1z := Fr.app N0 NQ1z
  show own_G p e below (T1z.setTop (mkF m 5 #[.val (.ref arr), .val (.int (0 : Int32)), .val (.int (Int32.ofNat bs.length)), .unset, .unset] [])) _
  refine own_go (fun t k => XS.iloadN X1z.here hx rfl (hb hby d_jdk_65_method_133_code_5) rfl k) ?_
  refine own_go (fun t k => XS.iloadN X1z.here hx rfl (hb hby d_jdk_65_method_133_code_6) rfl k) ?_
  refine own_go (fun t k => XS.isub X1z.here hx rfl (hb hby d_jdk_65_method_133_code_7) rfl k) ?_
  show own_G p e below (T1z.setTop (mkF m 8 #[.val (.ref arr), .val (.int (0 : Int32)), .val (.int (Int32.ofNat bs.length)), .unset, .unset] [(.int ((Int32.ofNat bs.length) - (0 : Int32)))])) _
  show own_G p e below (T1z.setTop (mkF m 8 #[.val (.ref arr), .val (.int (0 : Int32)), .val (.int (Int32.ofNat bs.length)), .unset, .unset] [(.int ((Int32.ofNat bs.length) - (0 : Int32)))])) _
  rw [own_sub0]
  show own_G p e below (T1z.setTop (mkF m 8 #[.val (.ref arr), .val (.int (0 : Int32)), .val (.int (Int32.ofNat bs.length)), .unset, .unset] [(.int (Int32.ofNat bs.length))])) _
  refine own_go (fun t k => XS.istoreN X1z.here hx rfl (hb hby d_jdk_65_method_133_code_8) rfl (l' := #[.val (.ref arr), .val (.int (0 : Int32)), .val (.int (Int32.ofNat bs.length)), .val (.int (Int32.ofNat bs.length)), .unset]) rfl k) ?_
  refine own_go (fun t k => XS.iloadN X1z.here hx rfl (hb hby d_jdk_65_method_133_code_9) rfl k) ?_
  obtain ⟨T2z, h2z, kc2z, X2z, e2z, E2z, V2z, st2z⟩ := own_newP X1z hx hZ (own_hw hw 37 rfl) K1zq (g := (mkF m 10 #[.val (.ref arr), .val (.int (0 : Int32)), .val (.int (Int32.ofNat bs.length)), .val (.int (Int32.ofNat bs.length)), .unset] [(.int (Int32.ofNat bs.length))])) rfl (hb hby d_jdk_65_method_133_code_10) rfl (i := bs.length) (own_ofN (by omega)) (cap := 300) (by omega) (by decide) (by decide) (by decide)
  obtain ⟨b2z, g2z⟩ : ∃ z, z = h0.size := ⟨_, rfl⟩
  rw [← g2z] at V2z st2z
  have fr_b2z : Z.heap.size ≤ b2z := g2z ▸ O0.1
  have lz_b2z : h0.size ≤ b2z := g2z ▸ K0.1
  have ne_arr_b2z : arr ≠ b2z := Nat.ne_of_lt (g2z ▸ q0.lt)
  have O3z := own_ext_trans O0 E2z
  have K3z := K0.ext E2z
  have V2z : own_A Z h2z b2z kc2z .byte (List.replicate bs.length (.int (0 : Int32))) := V2z
  refine own_go st2z ?_
  show own_G p e below (T2z.setTop (mkF m 12 #[.val (.ref arr), .val (.int (0 : Int32)), .val (.int (Int32.ofNat bs.length)), .val (.int (Int32.ofNat bs.length)), .unset] [(.ref b2z)])) _
  refine own_go (fun t k => XS.astore X2z.here hx rfl (hb hby d_jdk_65_method_133_code_12) rfl rfl (l' := #[.val (.ref arr), .val (.int (0 : Int32)), .val (.int (Int32.ofNat bs.length)), .val (.int (Int32.ofNat bs.length)), .val (.ref b2z)]) rfl k) ?_
  refine own_go (fun t k => XS.aloadN X2z.here hx rfl (hb hby d_jdk_65_method_133_code_14) rfl rfl k) ?_
  refine own_go (fun t k => XS.iloadN X2z.here hx rfl (hb hby d_jdk_65_method_133_code_15) rfl k) ?_
  show own_G p e below (T2z.setTop (mkF m 16 #[.val (.ref arr), .val (.int (0 : Int32)), .val (.int (Int32.ofNat bs.length)), .val (.int (Int32.ofNat bs.length)), .val (.ref b2z)] [(.int (0 : Int32)), (.ref arr)])) _
  refine own_go (fun t k => XS.aload X2z.here hx rfl (hb hby d_jdk_65_method_133_code_16) rfl rfl k) ?_
  refine own_go (fun t k => XS.iconst X2z.here hx rfl (hb hby d_jdk_65_method_133_code_18) k) ?_
  refine own_go (fun t k => XS.aloadN X2z.here hx rfl (hb hby d_jdk_65_method_133_code_19) rfl rfl k) ?_
  show own_G p e below (T2z.setTop (mkF m 20 #[.val (.ref arr), .val (.int (0 : Int32)), .val (.int (Int32.ofNat bs.length)), .val (.int (Int32.ofNat bs.length)), .val (.ref b2z)] [(.ref arr), (.int (0 : Int32)), (.ref b2z), (.int (0 : Int32)), (.ref arr)])) _
  refine own_go (own_len X2z hx hZ e2z (q0.ext E2z) (z := (Int32.ofNat (bs.length + tl.length))) (own_lenA (by omega)) (g := (mkF m 20 #[.val (.ref arr), .val (.int (0 : Int32)), .val (.int (Int32.ofNat bs.length)), .val (.int (Int32.ofNat bs.length)), .val (.ref b2z)] [(.ref arr), (.int (0 : Int32)), (.ref b2z), (.int (0 : Int32)), (.ref arr)])) rfl rfl (hb hby d_jdk_65_method_133_code_20)) ?_
  refine own_go (fun t k => XS.iloadN X2z.here hx rfl (hb hby d_jdk_65_method_133_code_21) rfl k) ?_
  refine own_go (fun t k => XS.isub X2z.here hx rfl (hb hby d_jdk_65_method_133_code_22) rfl k) ?_
  show own_G p e below (T2z.setTop (mkF m 23 #[.val (.ref arr), .val (.int (0 : Int32)), .val (.int (Int32.ofNat bs.length)), .val (.int (Int32.ofNat bs.length)), .val (.ref b2z)] [(.int ((Int32.ofNat (bs.length + tl.length)) - (0 : Int32))), (.int (0 : Int32)), (.ref b2z), (.int (0 : Int32)), (.ref arr)])) _
  show own_G p e below (T2z.setTop (mkF m 23 #[.val (.ref arr), .val (.int (0 : Int32)), .val (.int (Int32.ofNat bs.length)), .val (.int (Int32.ofNat bs.length)), .val (.ref b2z)] [(.int ((Int32.ofNat (bs.length + tl.length)) - (0 : Int32))), (.int (0 : Int32)), (.ref b2z), (.int (0 : Int32)), (.ref arr)])) _
  rw [own_sub0]
  show own_G p e below (T2z.setTop (mkF m 23 #[.val (.ref arr), .val (.int (0 : Int32)), .val (.int (Int32.ofNat bs.length)), .val (.int (Int32.ofNat bs.length)), .val (.ref b2z)] [(.int (Int32.ofNat (bs.length + tl.length))), (.int (0 : Int32)), (.ref b2z), (.int (0 : Int32)), (.ref arr)])) _
  refine own_go (fun t k => XS.iloadN X2z.here hx rfl (hb hby d_jdk_65_method_133_code_23) rfl k) ?_
  obtain ⟨_, _, ⟨T4z, L4z, k4z, n4z⟩, -, X4z, ⟨Lc4z, hQ4z, l4z, y4z, z4z⟩, st4z⟩ := Jvm.LawKit.callS X2z hx (y := own_m1) hown (own_mw hZ hw 144 rfl) (own_mw hZ hw 145 rfl) (own_mw hZ hw 136 rfl) (own_mw hZ hw 146 rfl) (by decide) (backOf (W := 4) (own_mi l Z a0 hw [] (Int32.ofNat (bs.length + tl.length)) (Int32.ofNat bs.length) h2z O3z) hZ (own_hw hw 146 rfl) (own_hw hw 136 rfl) (by decide) (by decide)) (g := (mkF m 24 #[.val (.ref arr), .val (.int (0 : Int32)), .val (.int (Int32.ofNat bs.length)), .val (.int (Int32.ofNat bs.length)), .val (.ref b2z)] [(.int (Int32.ofNat bs.length)), (.int (Int32.ofNat (bs.length + tl.length))), (.int (0 : Int32)), (.ref b2z), (.int (0 : Int32)), (.ref arr)])) rfl (by rw [hml]; rfl) (argsL := [(.int (Int32.ofNat (bs.length + tl.length))), (.int (Int32.ofNat bs.length))]) (rest := [(.int (0 : Int32)), (.ref b2z), (.int (0 : Int32)), (.ref arr)]) (lenOf pd_184293393 rfl) rfl (by show 2 * 0 + _ ≤ _; exact Nat.le_of_eq rfl) (hb hby d_jdk_65_method_133_code_24) (fun _ _ => ⟨rfl, e2z, (by decide : 1 + 0 ≤ _), (by decide : 300 + 0 ≤ _)⟩)
  dsimp only [Pt.U, Pt.locs, Pt.cells, Pt.slots] at X4z l4z y4z z4z st4z hQ4z
  subst l4z y4z z4z
  obtain ⟨rfl, NQ4z, K4zq⟩ := hQ4z
  refine own_go st4z ?_
  have N4z := Fr.app N1z NQ4z
  show own_G p e below (T4z.setTop (mkF m 27 #[.val (.ref arr), .val (.int (0 : Int32)), .val (.int (Int32.ofNat bs.length)), .val (.int (Int32.ofNat bs.length)), .val (.ref b2z)] [(.int (own_min (Int32.ofNat (bs.length + tl.length)) (Int32.ofNat bs.length))), (.int (0 : Int32)), (.ref b2z), (.int (0 : Int32)), (.ref arr)])) _
  obtain ⟨T5z, h5z, L5z, X5z, e5z, N5z, K5zq, V5z, st5z⟩ := own_cp X4z hx hZ hown (own_hw hw 147 rfl) (own_hw hw 97 rfl) (own_hw hw 95 rfl) (own_hw hw 96 rfl) K4zq (us := (own_cv bs)) (vr := (own_cv bs)) (i := 0) (j := 0) (n := bs.length) (q0.ext E2z) V2z (by rw [List.length_append, own_cv_len]; omega) (by rw [List.length_replicate]; omega) (Or.inl ⟨rfl, rfl⟩) (by decide) (by decide) (by rw [own_minN (by omega) (by omega), show min (bs.length + tl.length) bs.length = bs.length from by omega]; exact own_ofN (by omega)) (by rw [List.length_append, own_cv_len]; omega) (by rw [List.length_replicate]; omega) (by rw [List.drop_zero, own_take_cv]) (by rw [List.take_zero, List.nil_append, List.drop_eq_nil_of_le (by rw [List.length_replicate]; omega), List.append_nil]) N4z fr_b2z (g := (mkF m 27 #[.val (.ref arr), .val (.int (0 : Int32)), .val (.int (Int32.ofNat bs.length)), .val (.int (Int32.ofNat bs.length)), .val (.ref b2z)] [(.int (own_min (Int32.ofNat (bs.length + tl.length)) (Int32.ofNat bs.length))), (.int (0 : Int32)), (.ref b2z), (.int (0 : Int32)), (.ref arr)])) rfl (by rw [hml]; rfl) rfl (hb hby d_jdk_65_method_133_code_27) (by decide) (W := 0) (by show 2 * 0 + _ ≤ _; exact Nat.le_of_eq rfl) (by decide)
  refine own_go st5z ?_
  have O6z := own_ext_keep O3z K5zq (allS fr_b2z all0)
  have K6z := K3z.trans K5zq (allS (Or.inr lz_b2z) all0)
  show own_G p e below (T5z.setTop (mkF m 30 #[.val (.ref arr), .val (.int (0 : Int32)), .val (.int (Int32.ofNat bs.length)), .val (.int (Int32.ofNat bs.length)), .val (.ref b2z)] [])) _
  refine own_go (fun t k => XS.aload X5z.here hx rfl (hb hby d_jdk_65_method_133_code_30) rfl rfl k) ?_
  exact own_ret X5z hx Bd.returns rfl (Or.inr (Or.inr (Or.inr (Or.inr ⟨rfl, rfl, rfl⟩)))) (hb hby d_jdk_65_method_133_code_32) hlk (Nat.le_of_ble_eq_true rfl) (Nat.le_of_ble_eq_true rfl) (by show Q_own_crb Z arr kk bs tl h0 _ T5z.heap _; rw [e5z]; exact ⟨b2z, kc2z, rfl, N5z, K6z, V5z, lz_b2z, fr_b2z⟩)
theorem own_tl0 {bs : List Int32} {tl : List Value} (h1 : bs.length ≤ 1000) (h2 : bs.length + tl.length ≤ 1000) (h : Int32.ofNat bs.length = Int32.ofNat (bs.length + tl.length)) : own_cv bs ++ tl = own_cv bs := by
  have e := (own_eqN h1 h2).mp h
  have : tl = [] := List.length_eq_zero_iff.mp (by omega)
  rw [this, List.append_nil]
theorem ef_own_cor (m : MethodId) (x0 : Addr) (x1 : Int32) (x2 : Int32) : entryFrame m #[(.ref x0), (.int x1), (.int x2)] 3 = mkF m 0 #[.val (.ref x0), .val (.int x1), .val (.int x2)] [] := by first | (simp [entryFrame, mkF, argsToLocals, Value.category]; done) | rfl
theorem pf_own_cor : plainFor own_m23 = true := plainFor_of_name (by simp [plainName, overriddenIn])
theorem pd_1647730210 : parseMethodDescriptor "([BII)[B" = some ⟨[(.array .byte), .int, .int], some (.array .byte)⟩ := by decide +kernel
theorem d_jdk_65_method_132_code_0 : decode jdk_65_method_132_code 0 = .ok (.iload_n 1, 1) := by decide +kernel
theorem d_jdk_65_method_132_code_1 : decode jdk_65_method_132_code 1 = .ok (.ifCond .ne 9, 3) := by decide +kernel
theorem d_jdk_65_method_132_code_10 : decode jdk_65_method_132_code 10 = .ok (.aload_n 0, 1) := by decide +kernel
theorem d_jdk_65_method_132_code_11 : decode jdk_65_method_132_code 11 = .ok (.iload_n 1, 1) := by decide +kernel
theorem d_jdk_65_method_132_code_12 : decode jdk_65_method_132_code 12 = .ok (.iload_n 2, 1) := by decide +kernel
theorem d_jdk_65_method_132_code_13 : decode jdk_65_method_132_code 13 = .ok (.invokestatic 339, 3) := by decide +kernel
theorem d_jdk_65_method_132_code_16 : decode jdk_65_method_132_code 16 = .ok (.areturn, 1) := by decide +kernel
theorem d_jdk_65_method_132_code_17 : decode jdk_65_method_132_code 17 = .ok (.aload_n 0, 1) := by decide +kernel
theorem d_jdk_65_method_132_code_18 : decode jdk_65_method_132_code 18 = .ok (.invokevirtual 310, 3) := by decide +kernel
theorem d_jdk_65_method_132_code_21 : decode jdk_65_method_132_code 21 = .ok (.checkcast 311, 3) := by decide +kernel
theorem d_jdk_65_method_132_code_24 : decode jdk_65_method_132_code 24 = .ok (.areturn, 1) := by decide +kernel
theorem d_jdk_65_method_132_code_4 : decode jdk_65_method_132_code 4 = .ok (.iload_n 2, 1) := by decide +kernel
theorem d_jdk_65_method_132_code_5 : decode jdk_65_method_132_code 5 = .ok (.aload_n 0, 1) := by decide +kernel
theorem d_jdk_65_method_132_code_6 : decode jdk_65_method_132_code 6 = .ok (.arraylength, 1) := by decide +kernel
theorem d_jdk_65_method_132_code_7 : decode jdk_65_method_132_code 7 = .ok (.if_icmp .eq 10, 3) := by decide +kernel
def Q_own_cor (Z : State) (arr : Addr) (kk : ClassId) (bs : (List Int32)) (tl : (List Value)) (h0 : Heap) (v : Option Value) (h : Heap) (L : List Loc) : Prop := ∃ r : Addr, ∃ kr : ClassId, v = some (.ref r) ∧ Fr Z.heap.size L ∧ Keep h0 h [] ∧ (own_A Z h r kr .byte (own_cv bs)) ∧ (h0.size ≤ r) ∧ (Z.heap.size ≤ r)
set_option maxRecDepth 65536 in
set_option maxHeartbeats 40000000 in
theorem own_cor (l : Launch) (Z : State) (a0 : Array Value) (hw : ∀ d ∈ tables_1, d.before a0 Z = true) (ws : List Jvm.Cond) (arr : Addr) (kk : ClassId) (bs : (List Int32)) (tl : (List Value)) (h0 : Heap) (O0 : Ext Z.heap h0) (q0 : own_A Z h0 arr kk .byte (own_cv bs ++ tl)) (hcap : bs.length + tl.length ≤ 242) (q2 : Exa Z h0 arr "[B") :
    MetFree l own_m23 (head1 (Jvm.Cond.code own_m23 jdk_65_method_132_code 3 (some (.array .byte)) :: ws) ({ frames := 2, cells := 1, slots := 300, locals := 42 } : Room)) (fun aa U => aa = #[(.ref arr), (.int (0 : Int32)), (.int (Int32.ofNat bs.length))] ∧ Z.Warmed39 U.vm ∧ U.heap = h0) (fun _ _ _ _ _ => True) (fun _ U o U' => ∃ v L, o = .returned v ∧ Q_own_cor Z arr kk bs tl h0 v U'.heap L ∧ FrameEnd U o U' L ({ frames := 2, cells := 1, slots := 300, locals := 42 } : Room).cells ({ frames := 2, cells := 1, slots := 300, locals := 42 } : Room).slots) := by
  refine MetFree.of_bodySF pf_own_cor hisR ?_
  intro p e s m args below meth c s₁ Bd hml0 hP hK
  obtain ⟨rfl, hZ, hh⟩ := hP
  have hx := Bd.exec
  have hby := Bd.bytes
  have hlk := BodyLoose.notSynchronized Bd
  have hml : c.maxLocals = 3 := hml0
  have hown : s.vm.findClass "java/util/Arrays" = some m.cls := findClass_of_methodNamed Bd.named
  have hnm := (name_of_methodNamed Bd.named Bd.method).1
  have X0 : Stand p l e ({ frames := 2, cells := 1, slots := 300, locals := 42 } : Room) s m #[(.ref arr), (.int (0 : Int32)), (.int (Int32.ofNat bs.length))] below meth c s₁ [] 0 0 := Stand.of_body Bd
  have e0 : s₁.heap = h0 := by rw [← hh, Bd.state]; rfl
  have N0 := Fr.nil Z.heap.size
  have K0 : Keep h0 h0 [] := Keep.refl _ _
  refine own_start (Q := Q_own_cor Z arr kk bs tl h0) (ef_own_cor m (arr) ((0 : Int32)) ((Int32.ofNat bs.length))) ?_
  show own_G p e below (s₁.setTop (mkF m 0 #[.val (.ref arr), .val (.int (0 : Int32)), .val (.int (Int32.ofNat bs.length))] [])) _
  refine own_go (fun t k => XS.iloadN X0.here hx rfl (hb hby d_jdk_65_method_132_code_0) rfl k) ?_
  refine own_go (fun t k => XS.ifNo X0.here hx rfl (hb hby d_jdk_65_method_132_code_1) rfl ((if0 _ _).trans (teq (by decide : (0 : Int32) = (0 : Int32))).2) k) ?_
  show own_G p e below (s₁.setTop (mkF m 4 #[.val (.ref arr), .val (.int (0 : Int32)), .val (.int (Int32.ofNat bs.length))] [])) _
  refine own_go (fun t k => XS.iloadN X0.here hx rfl (hb hby d_jdk_65_method_132_code_4) rfl k) ?_
  refine own_go (fun t k => XS.aloadN X0.here hx rfl (hb hby d_jdk_65_method_132_code_5) rfl rfl k) ?_
  refine own_go (own_len X0 hx hZ e0 q0 (z := (Int32.ofNat (bs.length + tl.length))) (own_lenA (by omega)) (g := (mkF m 6 #[.val (.ref arr), .val (.int (0 : Int32)), .val (.int (Int32.ofNat bs.length))] [(.ref arr), (.int (Int32.ofNat bs.length))])) rfl rfl (hb hby d_jdk_65_method_132_code_6)) ?_
  show own_G p e below (s₁.setTop (mkF m 7 #[.val (.ref arr), .val (.int (0 : Int32)), .val (.int (Int32.ofNat bs.length))] [(.int (Int32.ofNat (bs.length + tl.length))), (.int (Int32.ofNat bs.length))])) _
  by_cases hc1z : (Int32.ofNat bs.length) = (Int32.ofNat (bs.length + tl.length))
  · refine own_go (fun t k => XS.icmpYes X0.here hx rfl (pc0 := 7) (pc' := 17) rfl (hb hby d_jdk_65_method_132_code_7) rfl (teq hc1z).1 (by decide) (by decide) k) ?_
    show own_G p e below (s₁.setTop (mkF m 17 #[.val (.ref arr), .val (.int (0 : Int32)), .val (.int (Int32.ofNat bs.length))] [])) _
    refine own_go (fun t k => XS.aloadN X0.here hx rfl (hb hby d_jdk_65_method_132_code_17) rfl rfl k) ?_
    obtain ⟨T2z, h2z, X2z, e2z, E2z, V2z, EX2z, st2z⟩ := own_clone X0 hx hZ hown (own_hw hw 271 rfl) (own_hw hw 272 rfl) (own_hw hw 276 rfl) (own_hw hw 274 rfl) (own_hw hw 275 rfl) (own_hw hw 277 rfl) e0 q0 q2 (g := (mkF m 18 #[.val (.ref arr), .val (.int (0 : Int32)), .val (.int (Int32.ofNat bs.length))] [(.ref arr)])) rfl (by rw [hml]; rfl) rfl (hb hby d_jdk_65_method_132_code_18) (by decide) (W := 0) (cap := 300) (by show 2 * 0 + _ ≤ _; exact Nat.le_of_eq rfl) (by decide) (by rw [List.length_append, own_cv_len]; omega) (by decide) (by decide)
    obtain ⟨b2z, g2z⟩ : ∃ z, z = h0.size := ⟨_, rfl⟩
    rw [← g2z] at V2z EX2z st2z
    have fr_b2z : Z.heap.size ≤ b2z := g2z ▸ O0.1
    have lz_b2z : h0.size ≤ b2z := g2z ▸ K0.1
    have ne_arr_b2z : arr ≠ b2z := Nat.ne_of_lt (g2z ▸ q0.lt)
    have O3z := own_ext_trans O0 E2z
    have K3z := K0.ext E2z
    have V2z := own_A.eqs V2z (own_tl0 (by omega) (by omega) hc1z)
    refine own_go st2z ?_
    show own_G p e below (T2z.setTop (mkF m 21 #[.val (.ref arr), .val (.int (0 : Int32)), .val (.int (Int32.ofNat bs.length))] [(.ref b2z)])) _
    obtain ⟨T4z, X4z, e4z, st4z⟩ := castY X2z hx hZ hown (own_hw hw 278 rfl) e2z (Ins.self EX2z) (g := (mkF m 21 #[.val (.ref arr), .val (.int (0 : Int32)), .val (.int (Int32.ofNat bs.length))] [(.ref b2z)])) rfl rfl (hb hby d_jdk_65_method_132_code_21)
    refine own_go st4z ?_
    exact own_ret X4z hx Bd.returns rfl (Or.inr (Or.inr (Or.inr (Or.inr ⟨rfl, rfl, rfl⟩)))) (hb hby d_jdk_65_method_132_code_24) hlk (Nat.le_of_ble_eq_true rfl) (Nat.le_of_ble_eq_true rfl) (by show Q_own_cor Z arr kk bs tl h0 _ T4z.heap _; rw [e4z]; exact ⟨b2z, kk, rfl, N0, K3z, V2z, lz_b2z, fr_b2z⟩)
  · refine own_go (fun t k => XS.icmpNo X0.here hx rfl (hb hby d_jdk_65_method_132_code_7) rfl (feq hc1z).1 k) ?_
    show own_G p e below (s₁.setTop (mkF m 10 #[.val (.ref arr), .val (.int (0 : Int32)), .val (.int (Int32.ofNat bs.length))] [])) _
    refine own_go (fun t k => XS.aloadN X0.here hx rfl (hb hby d_jdk_65_method_132_code_10) rfl rfl k) ?_
    refine own_go (fun t k => XS.iloadN X0.here hx rfl (hb hby d_jdk_65_method_132_code_11) rfl k) ?_
    refine own_go (fun t k => XS.iloadN X0.here hx rfl (hb hby d_jdk_65_method_132_code_12) rfl k) ?_
    show own_G p e below (s₁.setTop (mkF m 13 #[.val (.ref arr), .val (.int (0 : Int32)), .val (.int (Int32.ofNat bs.length))] [(.int (Int32.ofNat bs.length)), (.int (0 : Int32)), (.ref arr)])) _
    obtain ⟨_, _, ⟨T5z, L5z, k5z, n5z⟩, -, X5z, ⟨Lc5z, hQ5z, l5z, y5z, z5z⟩, st5z⟩ := Jvm.LawKit.callS X0 hx (y := own_m22) hown (own_mw hZ hw 199 rfl) (own_mw hZ hw 200 rfl) (own_mw hZ hw 142 rfl) (own_mw hZ hw 201 rfl) (by decide) (backOf (W := 0) (own_crb l Z a0 hw [] arr kk bs tl h0 O0 q0 hcap q2) hZ (own_hw hw 201 rfl) (own_hw hw 142 rfl) (by decide) (by decide)) (g := (mkF m 13 #[.val (.ref arr), .val (.int (0 : Int32)), .val (.int (Int32.ofNat bs.length))] [(.int (Int32.ofNat bs.length)), (.int (0 : Int32)), (.ref arr)])) rfl (by rw [hml]; rfl) (argsL := [(.ref arr), (.int (0 : Int32)), (.int (Int32.ofNat bs.length))]) (rest := []) (lenOf pd_1647730210 rfl) rfl (by show 2 * 0 + _ ≤ _; exact Nat.le_of_eq rfl) (hb hby d_jdk_65_method_132_code_13) (fun _ _ => ⟨rfl, e0, (by decide : 0 + 1 ≤ _), (by decide : 0 + 300 ≤ _)⟩)
    dsimp only [Pt.U, Pt.locs, Pt.cells, Pt.slots] at X5z l5z y5z z5z st5z hQ5z
    subst l5z y5z z5z
    obtain ⟨r_5z, kr_5z, rfl, NQ5z, K5zq, r5z_0, r5z_1, r5z_2⟩ := hQ5z
    refine own_go st5z ?_
    have N5z := Fr.app N0 NQ5z
    have O6z := own_ext_keep O0 K5zq all0
    have K6z := K0.trans K5zq all0
    have lz_r_5z : h0.size ≤ r_5z := Nat.le_trans K0.1 r5z_1
    have ne_arr_r_5z : arr ≠ r_5z := Nat.ne_of_lt (Nat.lt_of_lt_of_le q0.lt r5z_1)
    show own_G p e below (T5z.setTop (mkF m 16 #[.val (.ref arr), .val (.int (0 : Int32)), .val (.int (Int32.ofNat bs.length))] [(.ref r_5z)])) _
    exact own_ret X5z hx Bd.returns rfl (Or.inr (Or.inr (Or.inr (Or.inr ⟨rfl, rfl, rfl⟩)))) (hb hby d_jdk_65_method_132_code_16) hlk (Nat.le_of_ble_eq_true rfl) (Nat.le_of_ble_eq_true rfl) (by show Q_own_cor Z arr kk bs tl h0 _ T5z.heap _; exact ⟨r_5z, kr_5z, rfl, N5z, K6z, r5z_0, lz_r_5z, r5z_2⟩)
theorem ef_own_si2 (m : MethodId) (x0 : Addr) (x1 : Addr) : entryFrame m #[(.ref x0), (.ref x1), .null] 5 = mkF m 0 #[.val (.ref x0), .val (.ref x1), .val .null, .unset, .unset] [] := by first | (simp [entryFrame, mkF, argsToLocals, Value.category]; done) | rfl
theorem pf_own_si2 : plainFor own_m24 = true := plainFor_of_name (by simp [plainName, overriddenIn])
theorem pd_2087958803 : parseMethodDescriptor "()[B" = some ⟨[], some (.array .byte)⟩ := by decide +kernel
theorem d_jdk_42_method_150_code_0 : decode jdk_42_method_150_code 0 = .ok (.aload_n 0, 1) := by decide +kernel
theorem d_jdk_42_method_150_code_1 : decode jdk_42_method_150_code 1 = .ok (.invokespecial 1, 3) := by decide +kernel
theorem d_jdk_42_method_150_code_10 : decode jdk_42_method_150_code 10 = .ok (.invokevirtual 549, 3) := by decide +kernel
theorem d_jdk_42_method_150_code_13 : decode jdk_42_method_150_code 13 = .ok (.istore 4, 2) := by decide +kernel
theorem d_jdk_42_method_150_code_15 : decode jdk_42_method_150_code 15 = .ok (.aload_n 1, 1) := by decide +kernel
theorem d_jdk_42_method_150_code_16 : decode jdk_42_method_150_code 16 = .ok (.invokevirtual 1047, 3) := by decide +kernel
theorem d_jdk_42_method_150_code_19 : decode jdk_42_method_150_code 19 = .ok (.ifCond .eq 22, 3) := by decide +kernel
theorem d_jdk_42_method_150_code_22 : decode jdk_42_method_150_code 22 = .ok (.aload_n 0, 1) := by decide +kernel
theorem d_jdk_42_method_150_code_23 : decode jdk_42_method_150_code 23 = .ok (.iconst 0, 1) := by decide +kernel
theorem d_jdk_42_method_150_code_24 : decode jdk_42_method_150_code 24 = .ok (.putfield 15, 3) := by decide +kernel
theorem d_jdk_42_method_150_code_27 : decode jdk_42_method_150_code 27 = .ok (.aload_n 0, 1) := by decide +kernel
theorem d_jdk_42_method_150_code_28 : decode jdk_42_method_150_code 28 = .ok (.aload_n 3, 1) := by decide +kernel
theorem d_jdk_42_method_150_code_29 : decode jdk_42_method_150_code 29 = .ok (.iconst 0, 1) := by decide +kernel
theorem d_jdk_42_method_150_code_30 : decode jdk_42_method_150_code 30 = .ok (.iload 4, 2) := by decide +kernel
theorem d_jdk_42_method_150_code_32 : decode jdk_42_method_150_code 32 = .ok (.invokestatic 54, 3) := by decide +kernel
theorem d_jdk_42_method_150_code_35 : decode jdk_42_method_150_code 35 = .ok (.putfield 9, 3) := by decide +kernel
theorem d_jdk_42_method_150_code_38 : decode jdk_42_method_150_code 38 = .ok (.goto 59, 3) := by decide +kernel
theorem d_jdk_42_method_150_code_4 : decode jdk_42_method_150_code 4 = .ok (.aload_n 1, 1) := by decide +kernel
theorem d_jdk_42_method_150_code_5 : decode jdk_42_method_150_code 5 = .ok (.invokevirtual 552, 3) := by decide +kernel
theorem d_jdk_42_method_150_code_8 : decode jdk_42_method_150_code 8 = .ok (.astore_n 3, 1) := by decide +kernel
theorem d_jdk_42_method_150_code_9 : decode jdk_42_method_150_code 9 = .ok (.aload_n 1, 1) := by decide +kernel
theorem d_jdk_42_method_150_code_97 : decode jdk_42_method_150_code 97 = .ok (.return_, 1) := by decide +kernel
def Q_own_si2 (Z : State) (a : Addr) (sb : Addr) (b : Addr) (kb : ClassId) (bs : (List Int32)) (tl : (List Value)) (cz : Int32) (h0 : Heap) (v : Option Value) (h : Heap) (L : List Loc) : Prop := ∃ r : Addr, ∃ kr : ClassId, v = none ∧ Fr Z.heap.size L ∧ Keep h0 h [a] ∧ (Fld Z h a own_s2 "value" "[B" (.ref r)) ∧ (Fld Z h a own_s2 "coder" "B" (.int (0 : Int32))) ∧ (own_A Z h r kr .byte (own_cv bs)) ∧ (h0.size ≤ r)
set_option maxRecDepth 65536 in
set_option maxHeartbeats 40000000 in
theorem own_si2 (l : Launch) (Z : State) (a0 : Array Value) (hw : ∀ d ∈ tables_1, d.before a0 Z = true) (ws : List Jvm.Cond) (a : Addr) (sb : Addr) (b : Addr) (kb : ClassId) (bs : (List Int32)) (tl : (List Value)) (cz : Int32) (h0 : Heap) (O0 : Ext Z.heap h0) (q0 : Exa Z h0 a own_s2) (q1 : Z.heap.size ≤ a) (q2 : Fld Z h0 a own_s2 "value" "[B" .null) (q3 : Fld Z h0 a own_s2 "coder" "B" (.int (0 : Int32))) (nas : a ≠ sb) (nab : a ≠ b) (q6 : Exa Z h0 sb own_s3) (q7 : Z.heap.size ≤ sb) (q8 : Z.heap.size ≤ b) (q9 : Exa Z h0 b "[B") (q10 : Fld Z h0 sb own_s0 "value" "[B" (.ref b)) (q11 : Fld Z h0 sb own_s0 "coder" "B" (.int (0 : Int32))) (q12 : Fld Z h0 sb own_s0 "count" "I" (.int (Int32.ofNat bs.length))) (q13 : own_A Z h0 b kb .byte (own_cv bs ++ tl)) (nsb : sb ≠ b) (hcap : bs.length + tl.length ≤ 242) (S_CS : Sta Z Z.heap own_s2 own_s5 "Z" (.int cz)) (hcs : ¬ (cz = (0 : Int32))) :
    MetFree l own_m24 (head1 (Jvm.Cond.code own_m24 jdk_42_method_150_code 5 none :: ws) ({ frames := 3, cells := 1, slots := 300, locals := 60 } : Room)) (fun aa U => aa = #[(.ref a), (.ref sb), .null] ∧ Z.Warmed39 U.vm ∧ U.heap = h0) (fun _ _ _ _ _ => True) (fun _ U o U' => ∃ v L, o = .returned v ∧ Q_own_si2 Z a sb b kb bs tl cz h0 v U'.heap L ∧ FrameEnd U o U' L ({ frames := 3, cells := 1, slots := 300, locals := 60 } : Room).cells ({ frames := 3, cells := 1, slots := 300, locals := 60 } : Room).slots) := by
  refine MetFree.of_bodySF pf_own_si2 hisR ?_
  intro p e s m args below meth c s₁ Bd hml0 hP hK
  obtain ⟨rfl, hZ, hh⟩ := hP
  have hx := Bd.exec
  have hby := Bd.bytes
  have hlk := BodyLoose.notSynchronized Bd
  have hml : c.maxLocals = 5 := hml0
  have hown : s.vm.findClass own_s2 = some m.cls := findClass_of_methodNamed Bd.named
  have hnm := (name_of_methodNamed Bd.named Bd.method).1
  have X0 : Stand p l e ({ frames := 3, cells := 1, slots := 300, locals := 60 } : Room) s m #[(.ref a), (.ref sb), .null] below meth c s₁ [] 0 0 := Stand.of_body Bd
  have e0 : s₁.heap = h0 := by rw [← hh, Bd.state]; rfl
  have N0 := Fr.nil Z.heap.size
  have K0 : Keep h0 h0 [a] := Keep.refl _ _
  refine own_start (Q := Q_own_si2 Z a sb b kb bs tl cz h0) (ef_own_si2 m (a) (sb)) ?_
  show own_G p e below (s₁.setTop (mkF m 0 #[.val (.ref a), .val (.ref sb), .val .null, .unset, .unset] [])) _
  refine own_go (fun t k => XS.aloadN X0.here hx rfl (hb hby d_jdk_42_method_150_code_0) rfl rfl k) ?_
  obtain ⟨T1z, X1z, e1z, st1z⟩ := initO X0 hx hZ hown (own_hw hw 181 rfl) (own_hw hw 7 rfl) (own_hw hw 8 rfl) e0 (g := (mkF m 1 #[.val (.ref a), .val (.ref sb), .val .null, .unset, .unset] [(.ref a)])) rfl (by rw [hml]; rfl) rfl (hb hby d_jdk_42_method_150_code_1) (by decide) (W := 0) (by show 2 * 0 + _ ≤ _; exact Nat.le_of_eq rfl) (by decide)
  refine own_go st1z ?_
  show own_G p e below (T1z.setTop (mkF m 4 #[.val (.ref a), .val (.ref sb), .val .null, .unset, .unset] [])) _
  refine own_go (fun t k => XS.aloadN X1z.here hx rfl (hb hby d_jdk_42_method_150_code_4) rfl rfl k) ?_
  obtain ⟨cq2z, kq2z, qa2z, qb2z, qc2z⟩ := isOf hZ e1z q6
  obtain ⟨_, _, ⟨T2z, L2z, k2z, n2z⟩, -, X2z, ⟨Lc2z, hQ2z, l2z, y2z, z2z⟩, st2z⟩ := X1z.virtualBack hx (y := own_m18) (z := own_m18) hown (own_mw hZ hw 182 rfl) (own_mw hZ hw 183 rfl) (notFace_of_selects (args := #[]) (own_mw hZ hw 185 rfl)) (own_mw hZ hw 185 rfl) (own_mw hZ hw 184 rfl) (by decide) (backOf (W := 0) (own_gv l Z a0 hw [] sb b kb bs tl h0 O0 q6 q7 q8 q9 q10 q11 q12 q13 nsb hcap) hZ (own_hw hw 186 rfl) (own_hw hw 32 rfl) (by decide) (by decide)) qa2z qc2z (g := (mkF m 5 #[.val (.ref a), .val (.ref sb), .val .null, .unset, .unset] [(.ref sb)])) rfl (by rw [hml]; rfl) (Steps.refl _) (argsL := []) (rest := []) (lenOf pd_2087958803 rfl) rfl (by show 2 * 0 + _ ≤ _; exact Nat.le_of_eq rfl) (hb hby d_jdk_42_method_150_code_5) (fun _ _ => ⟨rfl, e1z, (by decide : 0 + 0 ≤ _), (by decide : 0 + 0 ≤ _)⟩)
  dsimp only [Pt.U, Pt.locs, Pt.cells, Pt.slots] at X2z l2z y2z z2z st2z hQ2z
  subst l2z y2z z2z
  obtain ⟨rfl, NQ2z, K2zq⟩ := hQ2z
  refine own_tr st2z ?_
  have N2z := Fr.app N0 NQ2z
  show own_G p e below (T2z.setTop (mkF m 8 #[.val (.ref a), .val (.ref sb), .val .null, .unset, .unset] [(.ref b)])) _
  refine own_go (fun t k => XS.astoreN X2z.here hx rfl (hb hby d_jdk_42_method_150_code_8) rfl rfl (l' := #[.val (.ref a), .val (.ref sb), .val .null, .val (.ref b), .unset]) rfl k) ?_
  refine own_go (fun t k => XS.aloadN X2z.here hx rfl (hb hby d_jdk_42_method_150_code_9) rfl rfl k) ?_
  obtain ⟨cq3z, kq3z, qa3z, qb3z, qc3z⟩ := isOf hZ K2zq q6
  obtain ⟨_, _, ⟨T3z, L3z, k3z, n3z⟩, -, X3z, ⟨Lc3z, hQ3z, l3z, y3z, z3z⟩, st3z⟩ := X2z.virtualBack hx (y := own_m19) (z := own_m20) hown (own_mw hZ hw 187 rfl) (own_mw hZ hw 188 rfl) (own_nf (y := own_m19) (args := #[]) (args' := #[]) (own_mw hZ hw 76 rfl) (own_mw hZ hw 74 rfl) rfl) (own_mw hZ hw 190 rfl) (own_mw hZ hw 191 rfl) (by decide) (backOf (W := 0) (own_sbl l Z a0 hw [] sb b kb bs tl h0 O0 q6 q7 q8 q9 q10 q11 q12 q13 nsb hcap) hZ (own_hw hw 192 rfl) (own_hw hw 24 rfl) (by decide) (by decide)) qa3z qc3z (g := (mkF m 10 #[.val (.ref a), .val (.ref sb), .val .null, .val (.ref b), .unset] [(.ref sb)])) rfl (by rw [hml]; rfl) (Steps.refl _) (argsL := []) (rest := []) (lenOf pd_193421983 rfl) rfl (by show 2 * 0 + _ ≤ _; exact Nat.le_of_eq rfl) (hb hby d_jdk_42_method_150_code_10) (fun _ _ => ⟨rfl, K2zq, (by decide : 0 + 0 ≤ _), (by decide : 0 + 0 ≤ _)⟩)
  dsimp only [Pt.U, Pt.locs, Pt.cells, Pt.slots] at X3z l3z y3z z3z st3z hQ3z
  subst l3z y3z z3z
  obtain ⟨rfl, NQ3z, K3zq⟩ := hQ3z
  refine own_tr st3z ?_
  have N3z := Fr.app N2z NQ3z
  show own_G p e below (T3z.setTop (mkF m 13 #[.val (.ref a), .val (.ref sb), .val .null, .val (.ref b), .unset] [(.int (Int32.ofNat bs.length))])) _
  refine own_go (fun t k => XS.istore X3z.here hx rfl (hb hby d_jdk_42_method_150_code_13) rfl (l' := #[.val (.ref a), .val (.ref sb), .val .null, .val (.ref b), .val (.int (Int32.ofNat bs.length))]) rfl k) ?_
  refine own_go (fun t k => XS.aloadN X3z.here hx rfl (hb hby d_jdk_42_method_150_code_15) rfl rfl k) ?_
  obtain ⟨cq4z, kq4z, qa4z, qb4z, qc4z⟩ := isOf hZ K3zq q6
  obtain ⟨_, _, ⟨T4z, L4z, k4z, n4z⟩, -, X4z, ⟨Lc4z, hQ4z, l4z, y4z, z4z⟩, st4z⟩ := X3z.virtualBack hx (y := own_m13) (z := own_m13) hown (own_mw hZ hw 195 rfl) (own_mw hZ hw 113 rfl) (notFace_of_selects (args := #[]) (own_mw hZ hw 115 rfl)) (own_mw hZ hw 115 rfl) (own_mw hZ hw 114 rfl) (by decide) (backOf (W := 0) (own_l1a l Z a0 hw [] sb b kb bs tl cz h0 O0 q6 q7 q8 q9 q10 q11 q12 q13 nsb hcap S_CS hcs) hZ (own_hw hw 116 rfl) (own_hw hw 32 rfl) (by decide) (by decide)) qa4z qc4z (g := (mkF m 16 #[.val (.ref a), .val (.ref sb), .val .null, .val (.ref b), .val (.int (Int32.ofNat bs.length))] [(.ref sb)])) rfl (by rw [hml]; rfl) (Steps.refl _) (argsL := []) (rest := []) (lenOf pd_193422000 rfl) rfl (by show 2 * 0 + _ ≤ _; exact Nat.le_of_eq rfl) (hb hby d_jdk_42_method_150_code_16) (fun _ _ => ⟨rfl, K3zq, (by decide : 0 + 0 ≤ _), (by decide : 0 + 0 ≤ _)⟩)
  dsimp only [Pt.U, Pt.locs, Pt.cells, Pt.slots] at X4z l4z y4z z4z st4z hQ4z
  subst l4z y4z z4z
  obtain ⟨rfl, NQ4z, K4zq⟩ := hQ4z
  refine own_tr st4z ?_
  have N4z := Fr.app N3z NQ4z
  show own_G p e below (T4z.setTop (mkF m 19 #[.val (.ref a), .val (.ref sb), .val .null, .val (.ref b), .val (.int (Int32.ofNat bs.length))] [(.int (1 : Int32))])) _
  refine own_go (fun t k => XS.ifNo X4z.here hx rfl (hb hby d_jdk_42_method_150_code_19) rfl ((if0 _ _).trans (feq (by decide : ¬ ((1 : Int32) = (0 : Int32)))).1) k) ?_
  show own_G p e below (T4z.setTop (mkF m 22 #[.val (.ref a), .val (.ref sb), .val .null, .val (.ref b), .val (.int (Int32.ofNat bs.length))] [])) _
  refine own_go (fun t k => XS.aloadN X4z.here hx rfl (hb hby d_jdk_42_method_150_code_22) rfl rfl k) ?_
  refine own_go (fun t k => XS.iconst X4z.here hx rfl (hb hby d_jdk_42_method_150_code_23) k) ?_
  obtain ⟨T5z, h5z, X5z, e5z, W5z, st5z⟩ := putF X4z hx hZ hown (host := "") (Or.inl (own_hw hw 70 rfl)) Via.refl K4zq q3 q0 (Or.inr ⟨(own_hw hw 45 rfl), rfl, hnm⟩) (own_hw hw 43 rfl) (ty := .byte) (by decide) rfl rfl (g := (mkF m 24 #[.val (.ref a), .val (.ref sb), .val .null, .val (.ref b), .val (.int (Int32.ofNat bs.length))] [(.int (0 : Int32)), (.ref a)])) rfl rfl (hb hby d_jdk_42_method_150_code_24)
  refine own_go st5z ?_
  have N5z := Fr.snoc X5z N4z q1
  have F5z : Fld Z h5z a own_s2 "coder" "B" (.int (0 : Int32)) := q3.same W5z
  have O6z := own_ext_wr O0 W5z q1
  have K6z := K0.wr W5z (Or.inl (List.mem_of_getElem? (i := 0) rfl))
  show own_G p e below (T5z.setTop (mkF m 27 #[.val (.ref a), .val (.ref sb), .val .null, .val (.ref b), .val (.int (Int32.ofNat bs.length))] [])) _
  refine own_go (fun t k => XS.aloadN X5z.here hx rfl (hb hby d_jdk_42_method_150_code_27) rfl rfl k) ?_
  refine own_go (fun t k => XS.aloadN X5z.here hx rfl (hb hby d_jdk_42_method_150_code_28) rfl rfl k) ?_
  refine own_go (fun t k => XS.iconst X5z.here hx rfl (hb hby d_jdk_42_method_150_code_29) k) ?_
  show own_G p e below (T5z.setTop (mkF m 30 #[.val (.ref a), .val (.ref sb), .val .null, .val (.ref b), .val (.int (Int32.ofNat bs.length))] [(.int (0 : Int32)), (.ref b), (.ref a)])) _
  refine own_go (fun t k => XS.iload X5z.here hx rfl (hb hby d_jdk_42_method_150_code_30) rfl k) ?_
  obtain ⟨_, _, ⟨T7z, L7z, k7z, n7z⟩, -, X7z, ⟨Lc7z, hQ7z, l7z, y7z, z7z⟩, st7z⟩ := Jvm.LawKit.callS X5z hx (y := own_m23) hown (own_mw hZ hw 196 rfl) (own_mw hZ hw 197 rfl) (own_mw hZ hw 142 rfl) (own_mw hZ hw 198 rfl) (by decide) (backOf (W := 1) (own_cor l Z a0 hw [] b kb bs tl h5z O6z (q13.other W5z (Ne.symm nab)) hcap (q9.wr W5z)) hZ (own_hw hw 198 rfl) (own_hw hw 142 rfl) (by decide) (by decide)) (g := (mkF m 32 #[.val (.ref a), .val (.ref sb), .val .null, .val (.ref b), .val (.int (Int32.ofNat bs.length))] [(.int (Int32.ofNat bs.length)), (.int (0 : Int32)), (.ref b), (.ref a)])) rfl (by rw [hml]; rfl) (argsL := [(.ref b), (.int (0 : Int32)), (.int (Int32.ofNat bs.length))]) (rest := [(.ref a)]) (lenOf pd_1647730210 rfl) rfl (by show 2 * 0 + _ ≤ _; exact Nat.le_of_eq rfl) (hb hby d_jdk_42_method_150_code_32) (fun _ _ => ⟨rfl, e5z, (by decide : 0 + 1 ≤ _), (by decide : 0 + 300 ≤ _)⟩)
  dsimp only [Pt.U, Pt.locs, Pt.cells, Pt.slots] at X7z l7z y7z z7z st7z hQ7z
  subst l7z y7z z7z
  obtain ⟨r_7z, kr_7z, rfl, NQ7z, K7zq, r7z_0, r7z_1, r7z_2⟩ := hQ7z
  refine own_go st7z ?_
  have N7z := Fr.app N5z NQ7z
  have O8z := own_ext_keep O6z K7zq all0
  have K8z := K6z.trans K7zq all0
  have lz_r_7z : h0.size ≤ r_7z := Nat.le_trans K6z.1 r7z_1
  have ne_a_r_7z : a ≠ r_7z := Nat.ne_of_lt (Nat.lt_of_lt_of_le (q0.wr W5z).lt r7z_1)
  have ne_sb_r_7z : sb ≠ r_7z := Nat.ne_of_lt (Nat.lt_of_lt_of_le (q6.wr W5z).lt r7z_1)
  have ne_b_r_7z : b ≠ r_7z := Nat.ne_of_lt (Nat.lt_of_lt_of_le (q9.wr W5z).lt r7z_1)
  show own_G p e below (T7z.setTop (mkF m 35 #[.val (.ref a), .val (.ref sb), .val .null, .val (.ref b), .val (.int (Int32.ofNat bs.length))] [(.ref r_7z), (.ref a)])) _
  have f9z := ((q2.other W5z (Or.inr (slot_ne (Or.inr (own_hw hw 44 rfl)) (Or.inr (own_hw hw 45 rfl)) (by decide) (t := (.array .byte)) (t' := .byte) (by decide) (by decide)))).keep K7zq (by simp))
  obtain ⟨T10z, h10z, X10z, e10z, W10z, st10z⟩ := putF X7z hx hZ hown (host := "") (Or.inl (own_hw hw 63 rfl)) Via.refl rfl f9z ((q0.wr W5z).keep K7zq) (Or.inr ⟨(own_hw hw 44 rfl), rfl, hnm⟩) (own_hw hw 43 rfl) (ty := (.array .byte)) (by decide) rfl rfl (g := (mkF m 35 #[.val (.ref a), .val (.ref sb), .val .null, .val (.ref b), .val (.int (Int32.ofNat bs.length))] [(.ref r_7z), (.ref a)])) rfl rfl (hb hby d_jdk_42_method_150_code_35)
  refine own_go st10z ?_
  have N10z := Fr.snoc X10z N7z q1
  have F10z : Fld Z h10z a own_s2 "value" "[B" (.ref r_7z) := f9z.same W10z
  have O11z := own_ext_wr O8z W10z q1
  have K11z := K8z.wr W10z (Or.inl (List.mem_of_getElem? (i := 0) rfl))
  refine own_go (fun t k => XS.goto X10z.here hx rfl (pc0 := 38) (pc' := 97) rfl (hb hby d_jdk_42_method_150_code_38) (by decide) (by decide) k) ?_
  show own_G p e below (T10z.setTop (mkF m 97 #[.val (.ref a), .val (.ref sb), .val .null, .val (.ref b), .val (.int (Int32.ofNat bs.length))] [])) _
  have f12z := ((F5z.keep K7zq (by simp)).other W10z (Or.inr (slot_ne (Or.inr (own_hw hw 45 rfl)) (Or.inr (own_hw hw 44 rfl)) (by decide) (t := .byte) (t' := (.array .byte)) (by decide) (by decide))))
  exact own_retV X10z hx Bd.returns (hb hby d_jdk_42_method_150_code_97) hlk (Nat.le_of_ble_eq_true rfl) (Nat.le_of_ble_eq_true rfl) (by show Q_own_si2 Z a sb b kb bs tl cz h0 _ T10z.heap _; rw [e10z]; exact ⟨r_7z, kr_7z, rfl, N10z, K11z, F10z, f12z, (r7z_0.other W10z (Ne.symm ne_a_r_7z)), lz_r_7z⟩)
theorem ef_own_si1 (m : MethodId) (x0 : Addr) (x1 : Addr) : entryFrame m #[(.ref x0), (.ref x1)] 2 = mkF m 0 #[.val (.ref x0), .val (.ref x1)] [] := by first | (simp [entryFrame, mkF, argsToLocals, Value.category]; done) | rfl
theorem pf_own_si1 : plainFor own_m25 = true := plainFor_of_name (by simp [plainName, overriddenIn])
theorem pd_235917794 : parseMethodDescriptor "(Ljava/lang/AbstractStringBuilder;Ljava/lang/Void;)V" = some ⟨[(.object "java/lang/AbstractStringBuilder"), (.object "java/lang/Void")], none⟩ := by decide +kernel
theorem d_jdk_42_method_53_code_0 : decode jdk_42_method_53_code 0 = .ok (.aload_n 0, 1) := by decide +kernel
theorem d_jdk_42_method_53_code_1 : decode jdk_42_method_53_code 1 = .ok (.aload_n 1, 1) := by decide +kernel
theorem d_jdk_42_method_53_code_2 : decode jdk_42_method_53_code 2 = .ok (.aconst_null, 1) := by decide +kernel
theorem d_jdk_42_method_53_code_3 : decode jdk_42_method_53_code 3 = .ok (.invokespecial 489, 3) := by decide +kernel
theorem d_jdk_42_method_53_code_6 : decode jdk_42_method_53_code 6 = .ok (.return_, 1) := by decide +kernel
def Q_own_si1 (Z : State) (a : Addr) (sb : Addr) (b : Addr) (kb : ClassId) (bs : (List Int32)) (tl : (List Value)) (cz : Int32) (h0 : Heap) (v : Option Value) (h : Heap) (L : List Loc) : Prop := ∃ r : Addr, ∃ kr : ClassId, v = none ∧ Fr Z.heap.size L ∧ Keep h0 h [a] ∧ (Fld Z h a own_s2 "value" "[B" (.ref r)) ∧ (Fld Z h a own_s2 "coder" "B" (.int (0 : Int32))) ∧ (own_A Z h r kr .byte (own_cv bs)) ∧ (h0.size ≤ r)
set_option maxRecDepth 65536 in
set_option maxHeartbeats 40000000 in
theorem own_si1 (l : Launch) (Z : State) (a0 : Array Value) (hw : ∀ d ∈ tables_1, d.before a0 Z = true) (ws : List Jvm.Cond) (a : Addr) (sb : Addr) (b : Addr) (kb : ClassId) (bs : (List Int32)) (tl : (List Value)) (cz : Int32) (h0 : Heap) (O0 : Ext Z.heap h0) (q0 : Exa Z h0 a own_s2) (q1 : Z.heap.size ≤ a) (q2 : Fld Z h0 a own_s2 "value" "[B" .null) (q3 : Fld Z h0 a own_s2 "coder" "B" (.int (0 : Int32))) (nas : a ≠ sb) (nab : a ≠ b) (q6 : Exa Z h0 sb own_s3) (q7 : Z.heap.size ≤ sb) (q8 : Z.heap.size ≤ b) (q9 : Exa Z h0 b "[B") (q10 : Fld Z h0 sb own_s0 "value" "[B" (.ref b)) (q11 : Fld Z h0 sb own_s0 "coder" "B" (.int (0 : Int32))) (q12 : Fld Z h0 sb own_s0 "count" "I" (.int (Int32.ofNat bs.length))) (q13 : own_A Z h0 b kb .byte (own_cv bs ++ tl)) (nsb : sb ≠ b) (hcap : bs.length + tl.length ≤ 242) (S_CS : Sta Z Z.heap own_s2 own_s5 "Z" (.int cz)) (hcs : ¬ (cz = (0 : Int32))) :
    MetFree l own_m25 (head1 (Jvm.Cond.code own_m25 jdk_42_method_53_code 2 none :: ws) ({ frames := 4, cells := 1, slots := 300, locals := 78 } : Room)) (fun aa U => aa = #[(.ref a), (.ref sb)] ∧ Z.Warmed39 U.vm ∧ U.heap = h0) (fun _ _ _ _ _ => True) (fun _ U o U' => ∃ v L, o = .returned v ∧ Q_own_si1 Z a sb b kb bs tl cz h0 v U'.heap L ∧ FrameEnd U o U' L ({ frames := 4, cells := 1, slots := 300, locals := 78 } : Room).cells ({ frames := 4, cells := 1, slots := 300, locals := 78 } : Room).slots) := by
  refine MetFree.of_bodySF pf_own_si1 hisR ?_
  intro p e s m args below meth c s₁ Bd hml0 hP hK
  obtain ⟨rfl, hZ, hh⟩ := hP
  have hx := Bd.exec
  have hby := Bd.bytes
  have hlk := BodyLoose.notSynchronized Bd
  have hml : c.maxLocals = 2 := hml0
  have hown : s.vm.findClass own_s2 = some m.cls := findClass_of_methodNamed Bd.named
  have hnm := (name_of_methodNamed Bd.named Bd.method).1
  have X0 : Stand p l e ({ frames := 4, cells := 1, slots := 300, locals := 78 } : Room) s m #[(.ref a), (.ref sb)] below meth c s₁ [] 0 0 := Stand.of_body Bd
  have e0 : s₁.heap = h0 := by rw [← hh, Bd.state]; rfl
  have N0 := Fr.nil Z.heap.size
  have K0 : Keep h0 h0 [a] := Keep.refl _ _
  refine own_start (Q := Q_own_si1 Z a sb b kb bs tl cz h0) (ef_own_si1 m (a) (sb)) ?_
  show own_G p e below (s₁.setTop (mkF m 0 #[.val (.ref a), .val (.ref sb)] [])) _
  refine own_go (fun t k => XS.aloadN X0.here hx rfl (hb hby d_jdk_42_method_53_code_0) rfl rfl k) ?_
  refine own_go (fun t k => XS.aloadN X0.here hx rfl (hb hby d_jdk_42_method_53_code_1) rfl rfl k) ?_
  refine own_go (fun t k => XS.aconstNull X0.here hx rfl (hb hby d_jdk_42_method_53_code_2) k) ?_
  show own_G p e below (s₁.setTop (mkF m 3 #[.val (.ref a), .val (.ref sb)] [.null, (.ref sb), (.ref a)])) _
  obtain ⟨_, _, ⟨T1z, L1z, k1z, n1z⟩, -, X1z, ⟨Lc1z, hQ1z, l1z, y1z, z1z⟩, st1z⟩ := X0.specialBack hx (y := own_m24) rfl hown (own_mw hZ hw 178 rfl) (own_mw hZ hw 179 rfl) (own_mw hZ hw 180 rfl) (by decide) (backOf (W := 0) (own_si2 l Z a0 hw [] a sb b kb bs tl cz h0 O0 q0 q1 q2 q3 nas nab q6 q7 q8 q9 q10 q11 q12 q13 nsb hcap S_CS hcs) hZ (own_hw hw 180 rfl) (own_hw hw 36 rfl) (by decide) (by decide)) (g := (mkF m 3 #[.val (.ref a), .val (.ref sb)] [.null, (.ref sb), (.ref a)])) rfl (by rw [hml]; rfl) (Steps.refl _) (a := a) (argsL := [(.ref sb), .null]) (rest := []) (lenOf pd_235917794 rfl) rfl (by show 2 * 0 + _ ≤ _; exact Nat.le_of_eq rfl) (hb hby d_jdk_42_method_53_code_3) (fun _ _ => ⟨rfl, e0, (by decide : 0 + 1 ≤ _), (by decide : 0 + 300 ≤ _)⟩)
  dsimp only [Pt.U, Pt.locs, Pt.cells, Pt.slots] at X1z l1z y1z z1z st1z hQ1z
  subst l1z y1z z1z
  obtain ⟨r_1z, kr_1z, rfl, NQ1z, K1zq, r1z_0, r1z_1, r1z_2, r1z_3⟩ := hQ1z
  refine own_tr st1z ?_
  have N1z := Fr.app N0 NQ1z
  have O2z := own_ext_keep O0 K1zq (allS q1 all0)
  have K2z := K0.trans K1zq (allS (Or.inl (List.mem_of_getElem? (i := 0) rfl)) all0)
  have lz_r_1z : h0.size ≤ r_1z := Nat.le_trans K0.1 r1z_3
  have ne_a_r_1z : a ≠ r_1z := Nat.ne_of_lt (Nat.lt_of_lt_of_le q0.lt r1z_3)
  have ne_sb_r_1z : sb ≠ r_1z := Nat.ne_of_lt (Nat.lt_of_lt_of_le q6.lt r1z_3)
  have ne_b_r_1z : b ≠ r_1z := Nat.ne_of_lt (Nat.lt_of_lt_of_le q9.lt r1z_3)
  show own_G p e below (T1z.setTop (mkF m 6 #[.val (.ref a), .val (.ref sb)] [])) _
  exact own_retV X1z hx Bd.returns (hb hby d_jdk_42_method_53_code_6) hlk (Nat.le_of_ble_eq_true rfl) (Nat.le_of_ble_eq_true rfl) (by show Q_own_si1 Z a sb b kb bs tl cz h0 _ T1z.heap _; exact ⟨r_1z, kr_1z, rfl, N1z, K2z, r1z_0, r1z_1, r1z_2, lz_r_1z⟩)
theorem ef_own_tos (m : MethodId) (x0 : Addr) : entryFrame m #[(.ref x0)] 1 = mkF m 0 #[.val (.ref x0)] [] := by first | (simp [entryFrame, mkF, argsToLocals, Value.category]; done) | rfl
theorem pf_own_tos : plainFor own_m26 = true := plainFor_of_name (by simp [plainName, overriddenIn])
theorem pd_591813651 : parseMethodDescriptor "(Ljava/lang/StringBuilder;)V" = some ⟨[(.object "java/lang/StringBuilder")], none⟩ := by decide +kernel
theorem d_jdk_67_method_42_code_0 : decode jdk_67_method_42_code 0 = .ok (.new 18, 3) := by decide +kernel
theorem d_jdk_67_method_42_code_3 : decode jdk_67_method_42_code 3 = .ok (.dup, 1) := by decide +kernel
theorem d_jdk_67_method_42_code_4 : decode jdk_67_method_42_code 4 = .ok (.aload_n 0, 1) := by decide +kernel
theorem d_jdk_67_method_42_code_5 : decode jdk_67_method_42_code 5 = .ok (.invokespecial 137, 3) := by decide +kernel
theorem d_jdk_67_method_42_code_8 : decode jdk_67_method_42_code 8 = .ok (.areturn, 1) := by decide +kernel
def Q_own_tos (Z : State) (sb : Addr) (b : Addr) (kb : ClassId) (bs : (List Int32)) (tl : (List Value)) (cz : Int32) (h0 : Heap) (v : Option Value) (h : Heap) (L : List Loc) : Prop := ∃ a : Addr, ∃ r : Addr, ∃ kr : ClassId, v = some (.ref a) ∧ Fr Z.heap.size L ∧ Keep h0 h [] ∧ (Exa Z h a own_s2) ∧ (Z.heap.size ≤ a) ∧ (h0.size ≤ a) ∧ (Fld Z h a own_s2 "value" "[B" (.ref r)) ∧ (Fld Z h a own_s2 "coder" "B" (.int (0 : Int32))) ∧ (own_A Z h r kr .byte (own_cv bs)) ∧ (h0.size ≤ r)
set_option maxRecDepth 65536 in
set_option maxHeartbeats 40000000 in
theorem own_tos (l : Launch) (Z : State) (a0 : Array Value) (hw : ∀ d ∈ tables_1, d.before a0 Z = true) (ws : List Jvm.Cond) (sb : Addr) (b : Addr) (kb : ClassId) (bs : (List Int32)) (tl : (List Value)) (cz : Int32) (h0 : Heap) (O0 : Ext Z.heap h0) (q0 : Exa Z h0 sb own_s3) (q1 : Z.heap.size ≤ sb) (q2 : Z.heap.size ≤ b) (q3 : Exa Z h0 b "[B") (q4 : Fld Z h0 sb own_s0 "value" "[B" (.ref b)) (q5 : Fld Z h0 sb own_s0 "coder" "B" (.int (0 : Int32))) (q6 : Fld Z h0 sb own_s0 "count" "I" (.int (Int32.ofNat bs.length))) (q7 : own_A Z h0 b kb .byte (own_cv bs ++ tl)) (nsb : sb ≠ b) (hcap : bs.length + tl.length ≤ 242) (S_CS : Sta Z Z.heap own_s2 own_s5 "Z" (.int cz)) (hcs : ¬ (cz = (0 : Int32))) :
    MetFree l own_m26 (head1 (Jvm.Cond.code own_m26 jdk_67_method_42_code 1 (some (.object own_s2)) :: ws) ({ frames := 5, cells := 2, slots := 304, locals := 92 } : Room)) (fun aa U => aa = #[(.ref sb)] ∧ Z.Warmed39 U.vm ∧ U.heap = h0) (fun _ _ _ _ _ => True) (fun _ U o U' => ∃ v L, o = .returned v ∧ Q_own_tos Z sb b kb bs tl cz h0 v U'.heap L ∧ FrameEnd U o U' L ({ frames := 5, cells := 2, slots := 304, locals := 92 } : Room).cells ({ frames := 5, cells := 2, slots := 304, locals := 92 } : Room).slots) := by
  refine MetFree.of_bodySF pf_own_tos hisR ?_
  intro p e s m args below meth c s₁ Bd hml0 hP hK
  obtain ⟨rfl, hZ, hh⟩ := hP
  have hx := Bd.exec
  have hby := Bd.bytes
  have hlk := BodyLoose.notSynchronized Bd
  have hml : c.maxLocals = 1 := hml0
  have hown : s.vm.findClass own_s3 = some m.cls := findClass_of_methodNamed Bd.named
  have hnm := (name_of_methodNamed Bd.named Bd.method).1
  have X0 : Stand p l e ({ frames := 5, cells := 2, slots := 304, locals := 92 } : Room) s m #[(.ref sb)] below meth c s₁ [] 0 0 := Stand.of_body Bd
  have e0 : s₁.heap = h0 := by rw [← hh, Bd.state]; rfl
  have N0 := Fr.nil Z.heap.size
  have K0 : Keep h0 h0 [] := Keep.refl _ _
  refine own_start (Q := Q_own_tos Z sb b kb bs tl cz h0) (ef_own_tos m (sb)) ?_
  show own_G p e below (s₁.setTop (mkF m 0 #[.val (.ref sb)] [])) _
  obtain ⟨T1z, h1z, X1z, e1z, E1z, A1z, D1z, -, st1z⟩ := newO X0 hx hZ hown (own_hw hw 173 rfl) (own_hw hw 43 rfl) (own_hw hw 36 rfl) e0 (g := (mkF m 0 #[.val (.ref sb)] [])) rfl (hb hby d_jdk_67_method_42_code_0) (by decide) (by decide)
  obtain ⟨b1z, g1z⟩ : ∃ z, z = h0.size := ⟨_, rfl⟩
  rw [← g1z] at A1z D1z st1z
  have fr_b1z : Z.heap.size ≤ b1z := g1z ▸ O0.1
  have lz_b1z : h0.size ≤ b1z := g1z ▸ K0.1
  have ne_sb_b1z : sb ≠ b1z := Nat.ne_of_lt (g1z ▸ q0.lt)
  have ne_b_b1z : b ≠ b1z := Nat.ne_of_lt (g1z ▸ q3.lt)
  have O2z := own_ext_trans O0 E1z
  have K2z := K0.ext E1z
  have F1z_value : Fld Z h1z b1z own_s2 "value" "[B" .null := D1z (Or.inr (own_hw hw 44 rfl)) (ty := (.array .byte)) (by decide)
  have F1z_coder : Fld Z h1z b1z own_s2 "coder" "B" (.int (0 : Int32)) := D1z (Or.inr (own_hw hw 45 rfl)) (ty := .byte) (by decide)
  refine own_go st1z ?_
  refine own_go (fun t k => XS.dup X1z.here hx rfl (hb hby d_jdk_67_method_42_code_3) rfl rfl k) ?_
  refine own_go (fun t k => XS.aloadN X1z.here hx rfl (hb hby d_jdk_67_method_42_code_4) rfl rfl k) ?_
  show own_G p e below (T1z.setTop (mkF m 5 #[.val (.ref sb)] [(.ref sb), (.ref b1z), (.ref b1z)])) _
  obtain ⟨_, _, ⟨T3z, L3z, k3z, n3z⟩, -, X3z, ⟨Lc3z, hQ3z, l3z, y3z, z3z⟩, st3z⟩ := X1z.specialBack hx (y := own_m25) rfl hown (own_mw hZ hw 174 rfl) (own_mw hZ hw 175 rfl) (own_mw hZ hw 177 rfl) (by decide) (backOf (W := 1) (own_si1 l Z a0 hw [] b1z sb b kb bs tl cz h1z O2z A1z fr_b1z F1z_value F1z_coder (Ne.symm ne_sb_b1z) (Ne.symm ne_b_b1z) (q0.ext E1z) q1 q2 (q3.ext E1z) (q4.ext E1z) (q5.ext E1z) (q6.ext E1z) (q7.ext E1z) nsb hcap S_CS hcs) hZ (own_hw hw 177 rfl) (own_hw hw 36 rfl) (by decide) (by decide)) (g := (mkF m 5 #[.val (.ref sb)] [(.ref sb), (.ref b1z), (.ref b1z)])) rfl (by rw [hml]; rfl) (Steps.refl _) (a := b1z) (argsL := [(.ref sb)]) (rest := [(.ref b1z)]) (lenOf pd_591813651 rfl) rfl (by show 2 * 0 + _ ≤ _; exact Nat.le_of_eq rfl) (hb hby d_jdk_67_method_42_code_5) (fun _ _ => ⟨rfl, e1z, (by decide : 1 + 1 ≤ _), (by decide : 4 + 300 ≤ _)⟩)
  dsimp only [Pt.U, Pt.locs, Pt.cells, Pt.slots] at X3z l3z y3z z3z st3z hQ3z
  subst l3z y3z z3z
  obtain ⟨r_3z, kr_3z, rfl, NQ3z, K3zq, r3z_0, r3z_1, r3z_2, r3z_3⟩ := hQ3z
  refine own_tr st3z ?_
  have N3z := Fr.app N0 NQ3z
  have O4z := own_ext_keep O2z K3zq (allS fr_b1z all0)
  have K4z := K2z.trans K3zq (allS (Or.inr lz_b1z) all0)
  have lz_r_3z : h0.size ≤ r_3z := Nat.le_trans K2z.1 r3z_3
  have ne_sb_r_3z : sb ≠ r_3z := Nat.ne_of_lt (Nat.lt_of_lt_of_le (q0.ext E1z).lt r3z_3)
  have ne_b_r_3z : b ≠ r_3z := Nat.ne_of_lt (Nat.lt_of_lt_of_le (q3.ext E1z).lt r3z_3)
  have ne_b1z_r_3z : b1z ≠ r_3z := Nat.ne_of_lt (Nat.lt_of_lt_of_le A1z.lt r3z_3)
  show own_G p e below (T3z.setTop (mkF m 8 #[.val (.ref sb)] [(.ref b1z)])) _
  exact own_ret X3z hx Bd.returns rfl (Or.inr (Or.inr (Or.inr (Or.inr ⟨rfl, rfl, rfl⟩)))) (hb hby d_jdk_67_method_42_code_8) hlk (Nat.le_of_ble_eq_true rfl) (Nat.le_of_ble_eq_true rfl) (by show Q_own_tos Z sb b kb bs tl cz h0 _ T3z.heap _; exact ⟨b1z, r_3z, kr_3z, rfl, N3z, K4z, (A1z.keep K3zq), fr_b1z, lz_b1z, r3z_0, r3z_1, r3z_2, lz_r_3z⟩)
theorem ef_own_ai (m : MethodId) (x0 : Addr) (x1 : Int32) : entryFrame m #[(.ref x0), (.int x1)] 2 = mkF m 0 #[.val (.ref x0), .val (.int x1)] [] := by first | (simp [entryFrame, mkF, argsToLocals, Value.category]; done) | rfl
theorem pf_own_ai : plainFor own_m27 = true := plainFor_of_name (by simp [plainName, overriddenIn])
theorem d_jdk_68_method_2_code_0 : decode jdk_68_method_2_code 0 = .ok (.aload_n 0, 1) := by decide +kernel
theorem d_jdk_68_method_2_code_1 : decode jdk_68_method_2_code 1 = .ok (.invokespecial 3, 3) := by decide +kernel
theorem d_jdk_68_method_2_code_10 : decode jdk_68_method_2_code 10 = .ok (.aload_n 0, 1) := by decide +kernel
theorem d_jdk_68_method_2_code_11 : decode jdk_68_method_2_code 11 = .ok (.iload_n 1, 1) := by decide +kernel
theorem d_jdk_68_method_2_code_12 : decode jdk_68_method_2_code 12 = .ok (.newarray .byte, 2) := by decide +kernel
theorem d_jdk_68_method_2_code_14 : decode jdk_68_method_2_code 14 = .ok (.putfield 15, 3) := by decide +kernel
theorem d_jdk_68_method_2_code_17 : decode jdk_68_method_2_code 17 = .ok (.aload_n 0, 1) := by decide +kernel
theorem d_jdk_68_method_2_code_18 : decode jdk_68_method_2_code 18 = .ok (.iconst 0, 1) := by decide +kernel
theorem d_jdk_68_method_2_code_19 : decode jdk_68_method_2_code 19 = .ok (.putfield 22, 3) := by decide +kernel
theorem d_jdk_68_method_2_code_22 : decode jdk_68_method_2_code 22 = .ok (.goto 16, 3) := by decide +kernel
theorem d_jdk_68_method_2_code_38 : decode jdk_68_method_2_code 38 = .ok (.return_, 1) := by decide +kernel
theorem d_jdk_68_method_2_code_4 : decode jdk_68_method_2_code 4 = .ok (.getstatic 18, 3) := by decide +kernel
theorem d_jdk_68_method_2_code_7 : decode jdk_68_method_2_code 7 = .ok (.ifCond .eq 18, 3) := by decide +kernel
def Q_own_ai (Z : State) (sb : Addr) (cz : Int32) (h0 : Heap) (v : Option Value) (h : Heap) (L : List Loc) : Prop := ∃ b : Addr, ∃ kb : ClassId, v = none ∧ Fr Z.heap.size L ∧ Keep h0 h [sb] ∧ (Fld Z h sb own_s0 "value" "[B" (.ref b)) ∧ (Fld Z h sb own_s0 "coder" "B" (.int (0 : Int32))) ∧ (Fld Z h sb own_s0 "count" "I" (.int (0 : Int32))) ∧ (own_A Z h b kb .byte [(.int (0 : Int32)), (.int (0 : Int32)), (.int (0 : Int32)), (.int (0 : Int32)), (.int (0 : Int32)), (.int (0 : Int32)), (.int (0 : Int32)), (.int (0 : Int32)), (.int (0 : Int32)), (.int (0 : Int32)), (.int (0 : Int32)), (.int (0 : Int32)), (.int (0 : Int32)), (.int (0 : Int32)), (.int (0 : Int32)), (.int (0 : Int32))]) ∧ (Z.heap.size ≤ b) ∧ (h0.size ≤ b) ∧ (Exa Z h b "[B")
set_option maxRecDepth 65536 in
set_option maxHeartbeats 40000000 in
theorem own_ai (l : Launch) (Z : State) (a0 : Array Value) (hw : ∀ d ∈ tables_1, d.before a0 Z = true) (ws : List Jvm.Cond) (sb : Addr) (cz : Int32) (h0 : Heap) (O0 : Ext Z.heap h0) (q0 : Exa Z h0 sb own_s3) (q1 : Z.heap.size ≤ sb) (q2 : Fld Z h0 sb own_s0 "value" "[B" .null) (q3 : Fld Z h0 sb own_s0 "coder" "B" (.int (0 : Int32))) (q4 : Fld Z h0 sb own_s0 "count" "I" (.int (0 : Int32))) (S_CS : Sta Z Z.heap own_s2 own_s5 "Z" (.int cz)) (hcs : ¬ (cz = (0 : Int32))) :
    MetFree l own_m27 (head1 (Jvm.Cond.code own_m27 jdk_68_method_2_code 2 none :: ws) ({ frames := 1, cells := 1, slots := 16, locals := 12 } : Room)) (fun aa U => aa = #[(.ref sb), (.int (16 : Int32))] ∧ Z.Warmed39 U.vm ∧ U.heap = h0) (fun _ _ _ _ _ => True) (fun _ U o U' => ∃ v L, o = .returned v ∧ Q_own_ai Z sb cz h0 v U'.heap L ∧ FrameEnd U o U' L ({ frames := 1, cells := 1, slots := 16, locals := 12 } : Room).cells ({ frames := 1, cells := 1, slots := 16, locals := 12 } : Room).slots) := by
  refine MetFree.of_bodySF pf_own_ai hisR ?_
  intro p e s m args below meth c s₁ Bd hml0 hP hK
  obtain ⟨rfl, hZ, hh⟩ := hP
  have hx := Bd.exec
  have hby := Bd.bytes
  have hlk := BodyLoose.notSynchronized Bd
  have hml : c.maxLocals = 2 := hml0
  have hown : s.vm.findClass own_s0 = some m.cls := findClass_of_methodNamed Bd.named
  have hnm := (name_of_methodNamed Bd.named Bd.method).1
  have X0 : Stand p l e ({ frames := 1, cells := 1, slots := 16, locals := 12 } : Room) s m #[(.ref sb), (.int (16 : Int32))] below meth c s₁ [] 0 0 := Stand.of_body Bd
  have e0 : s₁.heap = h0 := by rw [← hh, Bd.state]; rfl
  have N0 := Fr.nil Z.heap.size
  have K0 : Keep h0 h0 [sb] := Keep.refl _ _
  refine own_start (Q := Q_own_ai Z sb cz h0) (ef_own_ai m (sb) ((16 : Int32))) ?_
  show own_G p e below (s₁.setTop (mkF m 0 #[.val (.ref sb), .val (.int (16 : Int32))] [])) _
  refine own_go (fun t k => XS.aloadN X0.here hx rfl (hb hby d_jdk_68_method_2_code_0) rfl rfl k) ?_
  obtain ⟨T1z, X1z, e1z, st1z⟩ := initO X0 hx hZ hown (own_hw hw 34 rfl) (own_hw hw 7 rfl) (own_hw hw 8 rfl) e0 (g := (mkF m 1 #[.val (.ref sb), .val (.int (16 : Int32))] [(.ref sb)])) rfl (by rw [hml]; rfl) rfl (hb hby d_jdk_68_method_2_code_1) (by decide) (W := 0) (by show 2 * 0 + _ ≤ _; exact Nat.le_of_eq rfl) (by decide)
  refine own_go st1z ?_
  show own_G p e below (T1z.setTop (mkF m 4 #[.val (.ref sb), .val (.int (16 : Int32))] [])) _
  obtain ⟨T2z, X2z, e2z, st2z⟩ := getS2 X1z hx hZ hown (host := "") (Or.inl (own_hw hw 35 rfl)) Via.refl e1z (S_CS.ext O0) (g := (mkF m 4 #[.val (.ref sb), .val (.int (16 : Int32))] [])) rfl (hb hby d_jdk_68_method_2_code_4)
  refine own_go st2z ?_
  refine own_go (fun t k => XS.ifNo X2z.here hx rfl (hb hby d_jdk_68_method_2_code_7) rfl ((if0 _ _).trans (feq hcs).1) k) ?_
  show own_G p e below (T2z.setTop (mkF m 10 #[.val (.ref sb), .val (.int (16 : Int32))] [])) _
  refine own_go (fun t k => XS.aloadN X2z.here hx rfl (hb hby d_jdk_68_method_2_code_10) rfl rfl k) ?_
  refine own_go (fun t k => XS.iloadN X2z.here hx rfl (hb hby d_jdk_68_method_2_code_11) rfl k) ?_
  obtain ⟨T3z, h3z, kc3z, X3z, e3z, E3z, V3z, EX3z, st3z⟩ := own_newPE X2z hx hZ (own_hw hw 37 rfl) e2z (g := (mkF m 12 #[.val (.ref sb), .val (.int (16 : Int32))] [(.int (16 : Int32)), (.ref sb)])) rfl (hb hby d_jdk_68_method_2_code_12) rfl (i := 16) (by decide) (cap := 16) (by decide) (by decide) (by decide) (by decide) (ad := "[B") (by decide)
  obtain ⟨b3z, g3z⟩ : ∃ z, z = h0.size := ⟨_, rfl⟩
  rw [← g3z] at V3z st3z EX3z
  have fr_b3z : Z.heap.size ≤ b3z := g3z ▸ O0.1
  have lz_b3z : h0.size ≤ b3z := g3z ▸ K0.1
  have ne_sb_b3z : sb ≠ b3z := Nat.ne_of_lt (g3z ▸ q0.lt)
  have O4z := own_ext_trans O0 E3z
  have K4z := K0.ext E3z
  have V3z : own_A Z h3z b3z kc3z .byte [(.int (0 : Int32)), (.int (0 : Int32)), (.int (0 : Int32)), (.int (0 : Int32)), (.int (0 : Int32)), (.int (0 : Int32)), (.int (0 : Int32)), (.int (0 : Int32)), (.int (0 : Int32)), (.int (0 : Int32)), (.int (0 : Int32)), (.int (0 : Int32)), (.int (0 : Int32)), (.int (0 : Int32)), (.int (0 : Int32)), (.int (0 : Int32))] := V3z
  refine own_go st3z ?_
  show own_G p e below (T3z.setTop (mkF m 14 #[.val (.ref sb), .val (.int (16 : Int32))] [(.ref b3z), (.ref sb)])) _
  obtain ⟨T5z, h5z, X5z, e5z, W5z, st5z⟩ := putF X3z hx hZ hown (host := "") (Or.inl (own_hw hw 38 rfl)) Via.refl e3z (q2.ext E3z) (q0.ext E3z) (Or.inl (own_hw hw 39 rfl)) (own_hw hw 23 rfl) (ty := (.array .byte)) (by decide) rfl rfl (g := (mkF m 14 #[.val (.ref sb), .val (.int (16 : Int32))] [(.ref b3z), (.ref sb)])) rfl rfl (hb hby d_jdk_68_method_2_code_14)
  refine own_go st5z ?_
  have N5z := Fr.snoc X5z N0 q1
  have F5z : Fld Z h5z sb own_s0 "value" "[B" (.ref b3z) := (q2.ext E3z).same W5z
  have O6z := own_ext_wr O4z W5z q1
  have K6z := K4z.wr W5z (Or.inl (List.mem_of_getElem? (i := 0) rfl))
  refine own_go (fun t k => XS.aloadN X5z.here hx rfl (hb hby d_jdk_68_method_2_code_17) rfl rfl k) ?_
  refine own_go (fun t k => XS.iconst X5z.here hx rfl (hb hby d_jdk_68_method_2_code_18) k) ?_
  show own_G p e below (T5z.setTop (mkF m 19 #[.val (.ref sb), .val (.int (16 : Int32))] [(.int (0 : Int32)), (.ref sb)])) _
  have f7z := ((q3.ext E3z).other W5z (Or.inr (slot_ne (Or.inl (own_hw hw 41 rfl)) (Or.inl (own_hw hw 39 rfl)) (by decide) (t := .byte) (t' := (.array .byte)) (by decide) (by decide))))
  obtain ⟨T8z, h8z, X8z, e8z, W8z, st8z⟩ := putF X5z hx hZ hown (host := "") (Or.inl (own_hw hw 40 rfl)) Via.refl e5z f7z ((q0.ext E3z).wr W5z) (Or.inl (own_hw hw 41 rfl)) (own_hw hw 23 rfl) (ty := .byte) (by decide) rfl rfl (g := (mkF m 19 #[.val (.ref sb), .val (.int (16 : Int32))] [(.int (0 : Int32)), (.ref sb)])) rfl rfl (hb hby d_jdk_68_method_2_code_19)
  refine own_go st8z ?_
  have N8z := Fr.snoc X8z N5z q1
  have F8z : Fld Z h8z sb own_s0 "coder" "B" (.int (0 : Int32)) := f7z.same W8z
  have O9z := own_ext_wr O6z W8z q1
  have K9z := K6z.wr W8z (Or.inl (List.mem_of_getElem? (i := 0) rfl))
  refine own_go (fun t k => XS.goto X8z.here hx rfl (pc0 := 22) (pc' := 38) rfl (hb hby d_jdk_68_method_2_code_22) (by decide) (by decide) k) ?_
  show own_G p e below (T8z.setTop (mkF m 38 #[.val (.ref sb), .val (.int (16 : Int32))] [])) _
  have f10z := (F5z.other W8z (Or.inr (slot_ne (Or.inl (own_hw hw 39 rfl)) (Or.inl (own_hw hw 41 rfl)) (by decide) (t := (.array .byte)) (t' := .byte) (by decide) (by decide))))
  have f11z := (((q4.ext E3z).other W5z (Or.inr (slot_ne (Or.inl (own_hw hw 72 rfl)) (Or.inl (own_hw hw 39 rfl)) (by decide) (t := .int) (t' := (.array .byte)) (by decide) (by decide)))).other W8z (Or.inr (slot_ne (Or.inl (own_hw hw 72 rfl)) (Or.inl (own_hw hw 41 rfl)) (by decide) (t := .int) (t' := .byte) (by decide) (by decide))))
  have f12z := ((V3z.other W5z (Ne.symm ne_sb_b3z)).other W8z (Ne.symm ne_sb_b3z))
  exact own_retV X8z hx Bd.returns (hb hby d_jdk_68_method_2_code_38) hlk (Nat.le_of_ble_eq_true rfl) (Nat.le_of_ble_eq_true rfl) (by show Q_own_ai Z sb cz h0 _ T8z.heap _; rw [e8z]; exact ⟨b3z, kc3z, rfl, N8z, K9z, f10z, F8z, f11z, f12z, fr_b3z, lz_b3z, ((EX3z.wr W5z).wr W8z)⟩)
theorem ef_own_sbi (m : MethodId) (x0 : Addr) : entryFrame m #[(.ref x0)] 1 = mkF m 0 #[.val (.ref x0)] [] := by first | (simp [entryFrame, mkF, argsToLocals, Value.category]; done) | rfl
theorem pf_own_sbi : plainFor own_m28 = true := plainFor_of_name (by simp [plainName, overriddenIn])
theorem d_jdk_67_method_1_code_0 : decode jdk_67_method_1_code 0 = .ok (.aload_n 0, 1) := by decide +kernel
theorem d_jdk_67_method_1_code_1 : decode jdk_67_method_1_code 1 = .ok (.bipush 16, 2) := by decide +kernel
theorem d_jdk_67_method_1_code_3 : decode jdk_67_method_1_code 3 = .ok (.invokespecial 1, 3) := by decide +kernel
theorem d_jdk_67_method_1_code_6 : decode jdk_67_method_1_code 6 = .ok (.return_, 1) := by decide +kernel
def Q_own_sbi (Z : State) (sb : Addr) (cz : Int32) (h0 : Heap) (v : Option Value) (h : Heap) (L : List Loc) : Prop := ∃ b : Addr, ∃ kb : ClassId, v = none ∧ Fr Z.heap.size L ∧ Keep h0 h [sb] ∧ (Fld Z h sb own_s0 "value" "[B" (.ref b)) ∧ (Fld Z h sb own_s0 "coder" "B" (.int (0 : Int32))) ∧ (Fld Z h sb own_s0 "count" "I" (.int (0 : Int32))) ∧ (own_A Z h b kb .byte [(.int (0 : Int32)), (.int (0 : Int32)), (.int (0 : Int32)), (.int (0 : Int32)), (.int (0 : Int32)), (.int (0 : Int32)), (.int (0 : Int32)), (.int (0 : Int32)), (.int (0 : Int32)), (.int (0 : Int32)), (.int (0 : Int32)), (.int (0 : Int32)), (.int (0 : Int32)), (.int (0 : Int32)), (.int (0 : Int32)), (.int (0 : Int32))]) ∧ (Z.heap.size ≤ b) ∧ (h0.size ≤ b) ∧ (Exa Z h b "[B")
set_option maxRecDepth 65536 in
set_option maxHeartbeats 40000000 in
theorem own_sbi (l : Launch) (Z : State) (a0 : Array Value) (hw : ∀ d ∈ tables_1, d.before a0 Z = true) (ws : List Jvm.Cond) (sb : Addr) (cz : Int32) (h0 : Heap) (O0 : Ext Z.heap h0) (q0 : Exa Z h0 sb own_s3) (q1 : Z.heap.size ≤ sb) (q2 : Fld Z h0 sb own_s0 "value" "[B" .null) (q3 : Fld Z h0 sb own_s0 "coder" "B" (.int (0 : Int32))) (q4 : Fld Z h0 sb own_s0 "count" "I" (.int (0 : Int32))) (S_CS : Sta Z Z.heap own_s2 own_s5 "Z" (.int cz)) (hcs : ¬ (cz = (0 : Int32))) :
    MetFree l own_m28 (head1 (Jvm.Cond.code own_m28 jdk_67_method_1_code 1 none :: ws) ({ frames := 2, cells := 1, slots := 16, locals := 26 } : Room)) (fun aa U => aa = #[(.ref sb)] ∧ Z.Warmed39 U.vm ∧ U.heap = h0) (fun _ _ _ _ _ => True) (fun _ U o U' => ∃ v L, o = .returned v ∧ Q_own_sbi Z sb cz h0 v U'.heap L ∧ FrameEnd U o U' L ({ frames := 2, cells := 1, slots := 16, locals := 26 } : Room).cells ({ frames := 2, cells := 1, slots := 16, locals := 26 } : Room).slots) := by
  refine MetFree.of_bodySF pf_own_sbi hisR ?_
  intro p e s m args below meth c s₁ Bd hml0 hP hK
  obtain ⟨rfl, hZ, hh⟩ := hP
  have hx := Bd.exec
  have hby := Bd.bytes
  have hlk := BodyLoose.notSynchronized Bd
  have hml : c.maxLocals = 1 := hml0
  have hown : s.vm.findClass own_s3 = some m.cls := findClass_of_methodNamed Bd.named
  have hnm := (name_of_methodNamed Bd.named Bd.method).1
  have X0 : Stand p l e ({ frames := 2, cells := 1, slots := 16, locals := 26 } : Room) s m #[(.ref sb)] below meth c s₁ [] 0 0 := Stand.of_body Bd
  have e0 : s₁.heap = h0 := by rw [← hh, Bd.state]; rfl
  have N0 := Fr.nil Z.heap.size
  have K0 : Keep h0 h0 [sb] := Keep.refl _ _
  refine own_start (Q := Q_own_sbi Z sb cz h0) (ef_own_sbi m (sb)) ?_
  show own_G p e below (s₁.setTop (mkF m 0 #[.val (.ref sb)] [])) _
  refine own_go (fun t k => XS.aloadN X0.here hx rfl (hb hby d_jdk_67_method_1_code_0) rfl rfl k) ?_
  refine own_go (fun t k => XS.bipush X0.here hx rfl (hb hby d_jdk_67_method_1_code_1) k) ?_
  obtain ⟨_, _, ⟨T1z, L1z, k1z, n1z⟩, -, X1z, ⟨Lc1z, hQ1z, l1z, y1z, z1z⟩, st1z⟩ := X0.specialBack hx (y := own_m27) rfl hown (own_mw hZ hw 28 rfl) (own_mw hZ hw 29 rfl) (own_mw hZ hw 33 rfl) (by decide) (backOf (W := 0) (own_ai l Z a0 hw [] sb cz h0 O0 q0 q1 q2 q3 q4 S_CS hcs) hZ (own_hw hw 33 rfl) (own_hw hw 32 rfl) (by decide) (by decide)) (g := (mkF m 3 #[.val (.ref sb)] [(.int (16 : Int32)), (.ref sb)])) rfl (by rw [hml]; rfl) (Steps.refl _) (a := sb) (argsL := [(.int (16 : Int32))]) (rest := []) (lenOf pd_2087992021 rfl) rfl (by show 2 * 0 + _ ≤ _; exact Nat.le_of_eq rfl) (hb hby d_jdk_67_method_1_code_3) (fun _ _ => ⟨rfl, e0, (by decide : 0 + 1 ≤ _), (by decide : 0 + 16 ≤ _)⟩)
  dsimp only [Pt.U, Pt.locs, Pt.cells, Pt.slots] at X1z l1z y1z z1z st1z hQ1z
  subst l1z y1z z1z
  obtain ⟨b_1z, kb_1z, rfl, NQ1z, K1zq, r1z_0, r1z_1, r1z_2, r1z_3, r1z_4, r1z_5, r1z_6⟩ := hQ1z
  refine own_tr st1z ?_
  have N1z := Fr.app N0 NQ1z
  have O2z := own_ext_keep O0 K1zq (allS q1 all0)
  have K2z := K0.trans K1zq (allS (Or.inl (List.mem_of_getElem? (i := 0) rfl)) all0)
  have lz_b_1z : h0.size ≤ b_1z := Nat.le_trans K0.1 r1z_5
  have ne_sb_b_1z : sb ≠ b_1z := Nat.ne_of_lt (Nat.lt_of_lt_of_le q0.lt r1z_5)
  show own_G p e below (T1z.setTop (mkF m 6 #[.val (.ref sb)] [])) _
  exact own_retV X1z hx Bd.returns (hb hby d_jdk_67_method_1_code_6) hlk (Nat.le_of_ble_eq_true rfl) (Nat.le_of_ble_eq_true rfl) (by show Q_own_sbi Z sb cz h0 _ T1z.heap _; exact ⟨b_1z, kb_1z, rfl, N1z, K2z, r1z_0, r1z_1, r1z_2, r1z_3, r1z_4, lz_b_1z, r1z_6⟩)

/-! digits of a number, counted and read -/
def own_asc (cs : List Int32) : Prop := ∀ c ∈ cs, 0 ≤ c.toInt ∧ c.toInt < 128
theorem own_asc_app {a b : List Int32} (ha : own_asc a) (hb : own_asc b) : own_asc (a ++ b) := fun c hc => (List.mem_append.mp hc).elim (ha c) (hb c)
theorem own_getD_mem {cs : List Int32} {i : Nat} (h : i < cs.length) : cs.getD i 0 ∈ cs := by
  rw [List.getD_eq_getElem?_getD, List.getElem?_eq_getElem h]; exact List.getElem_mem h
def own_ch (c : Int32) : Prop := 0 ≤ c.toInt ∧ c.toInt < 65536
theorem own_narC {c : Int32} (h : own_ch c) : c.toUInt32.toUInt16.toUInt32.toInt32 = c := by
  have h1 : c.toUInt32.toNat = c.toInt.toNat := Int32.toNat_toUInt32_of_le (Jvm.Kit.i32_nonneg.mpr h.1)
  have h2 : c.toUInt32.toUInt16.toUInt32 = c.toUInt32 := by
    apply UInt32.toNat_inj.mp
    have := h.1; have := h.2
    rw [UInt16.toNat_toUInt32, UInt32.toNat_toUInt16, h1]; omega
  rw [h2]; exact Int32.toInt32_toUInt32 c
theorem own_chC (x : Int32) : own_ch (x.toUInt32.toUInt16.toUInt32.toInt32) := by
  have h' : fits .char (.int x.toUInt32.toUInt16.toUInt32.toInt32) = true := fits_nar_char x
  simp only [fits, Bool.and_eq_true, decide_eq_true_eq] at h'
  obtain ⟨a, b⟩ := h'
  rw [Int32.le_iff_toInt_le] at a b
  have e1 : (0 : Int32).toInt = 0 := by decide
  have e2 : (65535 : Int32).toInt = 65535 := by decide
  rw [e1] at a; rw [e2] at b
  exact ⟨a, by omega⟩
theorem own_nrC (x : Int32) : narrow .char (.int x.toUInt32.toUInt16.toUInt32.toInt32) = .int x.toUInt32.toUInt16.toUInt32.toInt32 := congrArg Value.int (own_narC (own_chC x))
theorem own_asc255 {c : Int32} (h : 0 ≤ c.toInt ∧ c.toInt < 128) : (c &&& (255 : Int32)).toUInt32.toUInt16.toUInt32.toInt32 = c := by
  have e : c &&& (255 : Int32) = c := by
    apply Int32.toInt_inj.mp
    rw [Jvm.Kit.i32_mask c 255 (k := 8) (by decide) (by decide)]; omega
  rw [e]; exact own_narC ⟨h.1, by omega⟩
theorem own_asc_dl (n L : Nat) : own_asc (own_dl n L) := fun c hc => by
  obtain ⟨i, -, rfl⟩ := List.mem_map.mp hc
  have : n / 10 ^ (L - 1 - i) % 10 < 10 := Nat.mod_lt _ (by decide)
  rw [own_ofN (by omega)]; omega
theorem own_asc_sl (x : Int64) : own_asc (own_sl x) := by
  unfold own_sl
  refine own_asc_app ?_ (own_asc_dl _ _)
  by_cases h : x < 0
  · rw [if_pos h]; intro c hc; rw [List.mem_singleton.mp hc]; decide
  · rw [if_neg h]; intro c hc; exact nomatch hc
theorem own_wNb : ∀ (f n : Nat), n < 100 ^ f → 0 < n → 10 ^ (Jvm.Free.SBG.wN f n - 1) ≤ n ∧ n < 10 ^ Jvm.Free.SBG.wN f n := by
  intro f
  induction f with
  | zero => intro n h h0; simp at h; omega
  | succ f ih =>
    intro n h h0
    by_cases q : 100 ≤ n
    · have e : Jvm.Free.SBG.wN (f + 1) n = 2 + Jvm.Free.SBG.wN f (n / 100) := if_pos q
      obtain ⟨a, b⟩ := ih (n / 100) (Nat.div_lt_of_lt_mul (by rw [Nat.pow_succ, Nat.mul_comm] at h; exact h)) (by omega)
      rw [e]
      generalize Jvm.Free.SBG.wN f (n / 100) = k at a b
      have hk : 1 ≤ k := by
        rcases Nat.eq_zero_or_pos k with z | z
        · subst z; simp at b; omega
        · exact z
      have e1 : 10 ^ (2 + k - 1) = 10 ^ (k - 1) * 100 := by rw [show 2 + k - 1 = (k - 1) + 2 from by omega, Nat.pow_add]
      have e2 : 10 ^ (2 + k) = 10 ^ k * 100 := by rw [Nat.add_comm, Nat.pow_add]
      rw [e1, e2]
      generalize 10 ^ (k - 1) = A at a
      generalize 10 ^ k = B at b
      omega
    · by_cases r : 9 < n
      · have e : Jvm.Free.SBG.wN (f + 1) n = 2 := by show (if 100 ≤ n then _ else if 9 < n then 2 else 1) = 2; rw [if_neg q, if_pos r]
        rw [e]; simp; omega
      · have e : Jvm.Free.SBG.wN (f + 1) n = 1 := by show (if 100 ≤ n then _ else if 9 < n then 2 else 1) = 1; rw [if_neg q, if_neg r]
        rw [e]; simp; omega
theorem own_digb {n : Nat} (h : n ≤ 2 ^ 63) (h0 : 0 < n) : 10 ^ (Jvm.Free.SBG.digitsL n - 1) ≤ n ∧ n < 10 ^ Jvm.Free.SBG.digitsL n := by
  have e20 : (100 : Nat) ^ 10 = 100000000000000000000 := by decide
  exact own_wNb 10 n (by omega) h0
theorem own_dig19 {n : Nat} (h : n ≤ 2 ^ 63) : Jvm.Free.SBG.digitsL n ≤ 19 := by
  rcases Nat.eq_zero_or_pos n with z | z
  · subst z; decide
  · obtain ⟨a, -⟩ := own_digb h z
    rcases Nat.lt_or_ge (Jvm.Free.SBG.digitsL n) 20 with q | q
    · omega
    · have p := Nat.pow_le_pow_right (n := 10) (by decide) (show 19 ≤ Jvm.Free.SBG.digitsL n - 1 by omega)
      have e : (10 : Nat) ^ 19 = 10000000000000000000 := by decide
      omega
theorem own_Dk {n k : Nat} (h : n ≤ 2 ^ 63) (h1 : 10 ^ k ≤ n) (h2 : n < 10 ^ (k + 1)) : Jvm.Free.SBG.digitsL n = k + 1 := by
  have hp : 0 < 10 ^ k := Nat.pow_pos (by decide)
  obtain ⟨a, b⟩ := own_digb h (by omega)
  rcases Nat.lt_trichotomy (Jvm.Free.SBG.digitsL n) (k + 1) with q | q | q
  · have p := Nat.pow_le_pow_right (n := 10) (by decide) (show Jvm.Free.SBG.digitsL n ≤ k by omega)
    omega
  · exact q
  · have p := Nat.pow_le_pow_right (n := 10) (by decide) (show k + 1 ≤ Jvm.Free.SBG.digitsL n - 1 by omega)
    omega
theorem own_dig1 {n : Nat} (h : n < 10) : Jvm.Free.SBG.digitsL n = 1 := by
  show (if 100 ≤ n then _ else if 9 < n then 2 else 1) = 1
  rw [if_neg (by omega), if_neg (by omega)]
theorem own_dv {v P : Int64} {k : Nat} (hP : P.toInt = ((10 ^ k : Nat) : Int)) : v / P = 0 ↔ v.toInt.natAbs < 10 ^ k := by
  have hp : 0 < 10 ^ k := Nat.pow_pos (by decide)
  have e := Jvm.Kit.i64_div (x := v) (y := P) (by rw [hP]; omega)
  have e0 : (0 : Int64).toInt = 0 := by decide
  rw [← Int64.toInt_inj, e, e0, hP]
  have n1 : (v.toInt.tdiv ((10 ^ k : Nat) : Int)).natAbs = v.toInt.natAbs / 10 ^ k := by
    have t := Int.natAbs_tdiv v.toInt ((10 ^ k : Nat) : Int)
    rw [Int.natAbs_natCast] at t; exact t
  constructor
  · intro q
    rw [q] at n1
    exact (Nat.div_eq_zero_iff_lt hp).mp n1.symm
  · intro q
    rw [(Nat.div_eq_zero_iff_lt hp).mpr q] at n1
    exact Int.natAbs_eq_zero.mp n1
def own_abs (x : Int64) : Int64 := if x < (0 : Int64) then (-x) else x
def own_pw (k : Nat) : Int64 := Int64.ofNat (10 ^ k)
theorem own_pwI : ∀ k : Fin 19, (own_pw k.val).toInt = ((10 ^ k.val : Nat) : Int) := by decide +kernel
theorem own_dgt {v : Int64} {k : Nat} (hk : k < 19) : ((48 : Int32) + (own_abs ((v / own_pw k) - ((v / own_pw k) / (10 : Int64)) * (10 : Int64))).toInt32).toUInt32.toUInt16.toUInt32.toInt32 = Int32.ofNat (48 + v.toInt.natAbs / 10 ^ k % 10) := by
  have hP : (own_pw k).toInt = ((10 ^ k : Nat) : Int) := own_pwI ⟨k, hk⟩
  have hp : 0 < 10 ^ k := Nat.pow_pos (by decide)
  have e := Jvm.Kit.i64_div (x := v) (y := own_pw k) (by rw [hP]; omega)
  have r := Jvm.Kit.i64_rem (v / own_pw k) 10
  have e10 : (10 : Int64).toInt = 10 := by decide
  have e0 : (0 : Int64).toInt = 0 := by decide
  rw [e, hP, e10] at r
  generalize (v / own_pw k) - ((v / own_pw k) / (10 : Int64)) * (10 : Int64) = q at r ⊢
  have n1 : q.toInt.natAbs = v.toInt.natAbs / 10 ^ k % 10 := by
    rw [r, Int.natAbs_tmod, Int.natAbs_tdiv, Int.natAbs_natCast]; rfl
  have m10 : v.toInt.natAbs / 10 ^ k % 10 < 10 := Nat.mod_lt _ (by decide)
  have a : (own_abs q).toInt = (q.toInt.natAbs : Int) := by
    unfold own_abs
    by_cases h : q < (0 : Int64)
    · rw [if_pos h]; rw [Int64.lt_iff_toInt_lt, e0] at h
      rw [Jvm.Kit.i64_neg (by omega)]; omega
    · rw [if_neg h]; rw [Int64.lt_iff_toInt_lt, e0] at h; omega
  have b : ((own_abs q).toInt32).toInt = (q.toInt.natAbs : Int) := by rw [Jvm.Kit.i32_of_i64 (by omega) (by omega), a]
  have e48 : (48 : Int32).toInt = 48 := by decide
  have s : ((48 : Int32) + (own_abs q).toInt32).toInt = 48 + (q.toInt.natAbs : Int) := by rw [Jvm.Kit.i32_add (by rw [e48, b]; omega) (by rw [e48, b]; omega), e48, b]
  rw [own_narC ⟨by omega, by omega⟩]
  apply Int32.toInt_inj.mp
  rw [s, own_ofN (by omega), n1]; omega
theorem own_lt32 {i n : Nat} {x : Int32} (hx : x.toInt = (i : Int)) (hn : n ≤ 1000) : x < Int32.ofNat n ↔ i < n := own_ltN hx (own_ofN hn)
def own_e19 (v : Int64) (c : Int32) : Int32 := c
def own_e18 (v : Int64) (c : Int32) : Int32 := if (v / (1000000000000000000 : Int64)) = (0 : Int64) then own_e19 v c else own_e19 v (19 : Int32)
def own_e17 (v : Int64) (c : Int32) : Int32 := if (v / (100000000000000000 : Int64)) = (0 : Int64) then own_e18 v c else own_e18 v (18 : Int32)
def own_e16 (v : Int64) (c : Int32) : Int32 := if (v / (10000000000000000 : Int64)) = (0 : Int64) then own_e17 v c else own_e17 v (17 : Int32)
def own_e15 (v : Int64) (c : Int32) : Int32 := if (v / (1000000000000000 : Int64)) = (0 : Int64) then own_e16 v c else own_e16 v (16 : Int32)
def own_e14 (v : Int64) (c : Int32) : Int32 := if (v / (100000000000000 : Int64)) = (0 : Int64) then own_e15 v c else own_e15 v (15 : Int32)
def own_e13 (v : Int64) (c : Int32) : Int32 := if (v / (10000000000000 : Int64)) = (0 : Int64) then own_e14 v c else own_e14 v (14 : Int32)
def own_e12 (v : Int64) (c : Int32) : Int32 := if (v / (1000000000000 : Int64)) = (0 : Int64) then own_e13 v c else own_e13 v (13 : Int32)
def own_e11 (v : Int64) (c : Int32) : Int32 := if (v / (100000000000 : Int64)) = (0 : Int64) then own_e12 v c else own_e12 v (12 : Int32)
def own_e10 (v : Int64) (c : Int32) : Int32 := if (v / (10000000000 : Int64)) = (0 : Int64) then own_e11 v c else own_e11 v (11 : Int32)
def own_e9 (v : Int64) (c : Int32) : Int32 := if (v / (1000000000 : Int64)) = (0 : Int64) then own_e10 v c else own_e10 v (10 : Int32)
def own_e8 (v : Int64) (c : Int32) : Int32 := if (v / (100000000 : Int64)) = (0 : Int64) then own_e9 v c else own_e9 v (9 : Int32)
def own_e7 (v : Int64) (c : Int32) : Int32 := if (v / (10000000 : Int64)) = (0 : Int64) then own_e8 v c else own_e8 v (8 : Int32)
def own_e6 (v : Int64) (c : Int32) : Int32 := if (v / (1000000 : Int64)) = (0 : Int64) then own_e7 v c else own_e7 v (7 : Int32)
def own_e5 (v : Int64) (c : Int32) : Int32 := if (v / (100000 : Int64)) = (0 : Int64) then own_e6 v c else own_e6 v (6 : Int32)
def own_e4 (v : Int64) (c : Int32) : Int32 := if (v / (10000 : Int64)) = (0 : Int64) then own_e5 v c else own_e5 v (5 : Int32)
def own_e3 (v : Int64) (c : Int32) : Int32 := if (v / (1000 : Int64)) = (0 : Int64) then own_e4 v c else own_e4 v (4 : Int32)
def own_e2 (v : Int64) (c : Int32) : Int32 := if (v / (100 : Int64)) = (0 : Int64) then own_e3 v c else own_e3 v (3 : Int32)
def own_e1 (v : Int64) (c : Int32) : Int32 := if (v / (10 : Int64)) = (0 : Int64) then own_e2 v c else own_e2 v (2 : Int32)
theorem own_eh19 {v : Int64} (h : v.toInt.natAbs ≤ 2 ^ 63) (c : Int32) : (v.toInt.natAbs < 10 ^ 19 → own_e19 v c = c) ∧ (10 ^ 19 ≤ v.toInt.natAbs → own_e19 v c = Int32.ofNat (Jvm.Free.SBG.digitsL v.toInt.natAbs)) := ⟨fun _ => rfl, fun q => absurd q (by rw [show (10 : Nat) ^ 19 = 10000000000000000000 from by decide]; omega)⟩
theorem own_eh18 {v : Int64} (h : v.toInt.natAbs ≤ 2 ^ 63) (c : Int32) : (v.toInt.natAbs < 10 ^ 18 → own_e18 v c = c) ∧ (10 ^ 18 ≤ v.toInt.natAbs → own_e18 v c = Int32.ofNat (Jvm.Free.SBG.digitsL v.toInt.natAbs)) := by
  have d := own_dv (v := v) (P := (1000000000000000000 : Int64)) (k := 18) (by decide +kernel)
  have hm : (10 : Nat) ^ 18 ≤ 10 ^ 19 := Nat.pow_le_pow_right (by decide) (by decide)
  unfold own_e18
  refine ⟨fun q => ?_, fun q => ?_⟩
  · rw [if_pos (d.mpr q)]; exact (own_eh19 h c).1 (Nat.lt_of_lt_of_le q hm)
  · rw [if_neg (fun z => absurd (d.mp z) (Nat.not_lt.mpr q))]
    rcases Nat.lt_or_ge v.toInt.natAbs (10 ^ 19) with r | r
    · rw [(own_eh19 h _).1 r, own_Dk (k := 18) h q r]; rfl
    · exact (own_eh19 h _).2 r
theorem own_eh17 {v : Int64} (h : v.toInt.natAbs ≤ 2 ^ 63) (c : Int32) : (v.toInt.natAbs < 10 ^ 17 → own_e17 v c = c) ∧ (10 ^ 17 ≤ v.toInt.natAbs → own_e17 v c = Int32.ofNat (Jvm.Free.SBG.digitsL v.toInt.natAbs)) := by
  have d := own_dv (v := v) (P := (100000000000000000 : Int64)) (k := 17) (by decide +kernel)
  have hm : (10 : Nat) ^ 17 ≤ 10 ^ 18 := Nat.pow_le_pow_right (by decide) (by decide)
  unfold own_e17
  refine ⟨fun q => ?_, fun q => ?_⟩
  · rw [if_pos (d.mpr q)]; exact (own_eh18 h c).1 (Nat.lt_of_lt_of_le q hm)
  · rw [if_neg (fun z => absurd (d.mp z) (Nat.not_lt.mpr q))]
    rcases Nat.lt_or_ge v.toInt.natAbs (10 ^ 18) with r | r
    · rw [(own_eh18 h _).1 r, own_Dk (k := 17) h q r]; rfl
    · exact (own_eh18 h _).2 r
theorem own_eh16 {v : Int64} (h : v.toInt.natAbs ≤ 2 ^ 63) (c : Int32) : (v.toInt.natAbs < 10 ^ 16 → own_e16 v c = c) ∧ (10 ^ 16 ≤ v.toInt.natAbs → own_e16 v c = Int32.ofNat (Jvm.Free.SBG.digitsL v.toInt.natAbs)) := by
  have d := own_dv (v := v) (P := (10000000000000000 : Int64)) (k := 16) (by decide +kernel)
  have hm : (10 : Nat) ^ 16 ≤ 10 ^ 17 := Nat.pow_le_pow_right (by decide) (by decide)
  unfold own_e16
  refine ⟨fun q => ?_, fun q => ?_⟩
  · rw [if_pos (d.mpr q)]; exact (own_eh17 h c).1 (Nat.lt_of_lt_of_le q hm)
  · rw [if_neg (fun z => absurd (d.mp z) (Nat.not_lt.mpr q))]
    rcases Nat.lt_or_ge v.toInt.natAbs (10 ^ 17) with r | r
    · rw [(own_eh17 h _).1 r, own_Dk (k := 16) h q r]; rfl
    · exact (own_eh17 h _).2 r
theorem own_eh15 {v : Int64} (h : v.toInt.natAbs ≤ 2 ^ 63) (c : Int32) : (v.toInt.natAbs < 10 ^ 15 → own_e15 v c = c) ∧ (10 ^ 15 ≤ v.toInt.natAbs → own_e15 v c = Int32.ofNat (Jvm.Free.SBG.digitsL v.toInt.natAbs)) := by
  have d := own_dv (v := v) (P := (1000000000000000 : Int64)) (k := 15) (by decide +kernel)
  have hm : (10 : Nat) ^ 15 ≤ 10 ^ 16 := Nat.pow_le_pow_right (by decide) (by decide)
  unfold own_e15
  refine ⟨fun q => ?_, fun q => ?_⟩
  · rw [if_pos (d.mpr q)]; exact (own_eh16 h c).1 (Nat.lt_of_lt_of_le q hm)
  · rw [if_neg (fun z => absurd (d.mp z) (Nat.not_lt.mpr q))]
    rcases Nat.lt_or_ge v.toInt.natAbs (10 ^ 16) with r | r
    · rw [(own_eh16 h _).1 r, own_Dk (k := 15) h q r]; rfl
    · exact (own_eh16 h _).2 r
theorem own_eh14 {v : Int64} (h : v.toInt.natAbs ≤ 2 ^ 63) (c : Int32) : (v.toInt.natAbs < 10 ^ 14 → own_e14 v c = c) ∧ (10 ^ 14 ≤ v.toInt.natAbs → own_e14 v c = Int32.ofNat (Jvm.Free.SBG.digitsL v.toInt.natAbs)) := by
  have d := own_dv (v := v) (P := (100000000000000 : Int64)) (k := 14) (by decide +kernel)
  have hm : (10 : Nat) ^ 14 ≤ 10 ^ 15 := Nat.pow_le_pow_right (by decide) (by decide)
  unfold own_e14
  refine ⟨fun q => ?_, fun q => ?_⟩
  · rw [if_pos (d.mpr q)]; exact (own_eh15 h c).1 (Nat.lt_of_lt_of_le q hm)
  · rw [if_neg (fun z => absurd (d.mp z) (Nat.not_lt.mpr q))]
    rcases Nat.lt_or_ge v.toInt.natAbs (10 ^ 15) with r | r
    · rw [(own_eh15 h _).1 r, own_Dk (k := 14) h q r]; rfl
    · exact (own_eh15 h _).2 r
theorem own_eh13 {v : Int64} (h : v.toInt.natAbs ≤ 2 ^ 63) (c : Int32) : (v.toInt.natAbs < 10 ^ 13 → own_e13 v c = c) ∧ (10 ^ 13 ≤ v.toInt.natAbs → own_e13 v c = Int32.ofNat (Jvm.Free.SBG.digitsL v.toInt.natAbs)) := by
  have d := own_dv (v := v) (P := (10000000000000 : Int64)) (k := 13) (by decide +kernel)
  have hm : (10 : Nat) ^ 13 ≤ 10 ^ 14 := Nat.pow_le_pow_right (by decide) (by decide)
  unfold own_e13
  refine ⟨fun q => ?_, fun q => ?_⟩
  · rw [if_pos (d.mpr q)]; exact (own_eh14 h c).1 (Nat.lt_of_lt_of_le q hm)
  · rw [if_neg (fun z => absurd (d.mp z) (Nat.not_lt.mpr q))]
    rcases Nat.lt_or_ge v.toInt.natAbs (10 ^ 14) with r | r
    · rw [(own_eh14 h _).1 r, own_Dk (k := 13) h q r]; rfl
    · exact (own_eh14 h _).2 r
theorem own_eh12 {v : Int64} (h : v.toInt.natAbs ≤ 2 ^ 63) (c : Int32) : (v.toInt.natAbs < 10 ^ 12 → own_e12 v c = c) ∧ (10 ^ 12 ≤ v.toInt.natAbs → own_e12 v c = Int32.ofNat (Jvm.Free.SBG.digitsL v.toInt.natAbs)) := by
  have d := own_dv (v := v) (P := (1000000000000 : Int64)) (k := 12) (by decide +kernel)
  have hm : (10 : Nat) ^ 12 ≤ 10 ^ 13 := Nat.pow_le_pow_right (by decide) (by decide)
  unfold own_e12
  refine ⟨fun q => ?_, fun q => ?_⟩
  · rw [if_pos (d.mpr q)]; exact (own_eh13 h c).1 (Nat.lt_of_lt_of_le q hm)
  · rw [if_neg (fun z => absurd (d.mp z) (Nat.not_lt.mpr q))]
    rcases Nat.lt_or_ge v.toInt.natAbs (10 ^ 13) with r | r
    · rw [(own_eh13 h _).1 r, own_Dk (k := 12) h q r]; rfl
    · exact (own_eh13 h _).2 r
theorem own_eh11 {v : Int64} (h : v.toInt.natAbs ≤ 2 ^ 63) (c : Int32) : (v.toInt.natAbs < 10 ^ 11 → own_e11 v c = c) ∧ (10 ^ 11 ≤ v.toInt.natAbs → own_e11 v c = Int32.ofNat (Jvm.Free.SBG.digitsL v.toInt.natAbs)) := by
  have d := own_dv (v := v) (P := (100000000000 : Int64)) (k := 11) (by decide +kernel)
  have hm : (10 : Nat) ^ 11 ≤ 10 ^ 12 := Nat.pow_le_pow_right (by decide) (by decide)
  unfold own_e11
  refine ⟨fun q => ?_, fun q => ?_⟩
  · rw [if_pos (d.mpr q)]; exact (own_eh12 h c).1 (Nat.lt_of_lt_of_le q hm)
  · rw [if_neg (fun z => absurd (d.mp z) (Nat.not_lt.mpr q))]
    rcases Nat.lt_or_ge v.toInt.natAbs (10 ^ 12) with r | r
    · rw [(own_eh12 h _).1 r, own_Dk (k := 11) h q r]; rfl
    · exact (own_eh12 h _).2 r
theorem own_eh10 {v : Int64} (h : v.toInt.natAbs ≤ 2 ^ 63) (c : Int32) : (v.toInt.natAbs < 10 ^ 10 → own_e10 v c = c) ∧ (10 ^ 10 ≤ v.toInt.natAbs → own_e10 v c = Int32.ofNat (Jvm.Free.SBG.digitsL v.toInt.natAbs)) := by
  have d := own_dv (v := v) (P := (10000000000 : Int64)) (k := 10) (by decide +kernel)
  have hm : (10 : Nat) ^ 10 ≤ 10 ^ 11 := Nat.pow_le_pow_right (by decide) (by decide)
  unfold own_e10
  refine ⟨fun q => ?_, fun q => ?_⟩
  · rw [if_pos (d.mpr q)]; exact (own_eh11 h c).1 (Nat.lt_of_lt_of_le q hm)
  · rw [if_neg (fun z => absurd (d.mp z) (Nat.not_lt.mpr q))]
    rcases Nat.lt_or_ge v.toInt.natAbs (10 ^ 11) with r | r
    · rw [(own_eh11 h _).1 r, own_Dk (k := 10) h q r]; rfl
    · exact (own_eh11 h _).2 r
theorem own_eh9 {v : Int64} (h : v.toInt.natAbs ≤ 2 ^ 63) (c : Int32) : (v.toInt.natAbs < 10 ^ 9 → own_e9 v c = c) ∧ (10 ^ 9 ≤ v.toInt.natAbs → own_e9 v c = Int32.ofNat (Jvm.Free.SBG.digitsL v.toInt.natAbs)) := by
  have d := own_dv (v := v) (P := (1000000000 : Int64)) (k := 9) (by decide +kernel)
  have hm : (10 : Nat) ^ 9 ≤ 10 ^ 10 := Nat.pow_le_pow_right (by decide) (by decide)
  unfold own_e9
  refine ⟨fun q => ?_, fun q => ?_⟩
  · rw [if_pos (d.mpr q)]; exact (own_eh10 h c).1 (Nat.lt_of_lt_of_le q hm)
  · rw [if_neg (fun z => absurd (d.mp z) (Nat.not_lt.mpr q))]
    rcases Nat.lt_or_ge v.toInt.natAbs (10 ^ 10) with r | r
    · rw [(own_eh10 h _).1 r, own_Dk (k := 9) h q r]; rfl
    · exact (own_eh10 h _).2 r
theorem own_eh8 {v : Int64} (h : v.toInt.natAbs ≤ 2 ^ 63) (c : Int32) : (v.toInt.natAbs < 10 ^ 8 → own_e8 v c = c) ∧ (10 ^ 8 ≤ v.toInt.natAbs → own_e8 v c = Int32.ofNat (Jvm.Free.SBG.digitsL v.toInt.natAbs)) := by
  have d := own_dv (v := v) (P := (100000000 : Int64)) (k := 8) (by decide +kernel)
  have hm : (10 : Nat) ^ 8 ≤ 10 ^ 9 := Nat.pow_le_pow_right (by decide) (by decide)
  unfold own_e8
  refine ⟨fun q => ?_, fun q => ?_⟩
  · rw [if_pos (d.mpr q)]; exact (own_eh9 h c).1 (Nat.lt_of_lt_of_le q hm)
  · rw [if_neg (fun z => absurd (d.mp z) (Nat.not_lt.mpr q))]
    rcases Nat.lt_or_ge v.toInt.natAbs (10 ^ 9) with r | r
    · rw [(own_eh9 h _).1 r, own_Dk (k := 8) h q r]; rfl
    · exact (own_eh9 h _).2 r
theorem own_eh7 {v : Int64} (h : v.toInt.natAbs ≤ 2 ^ 63) (c : Int32) : (v.toInt.natAbs < 10 ^ 7 → own_e7 v c = c) ∧ (10 ^ 7 ≤ v.toInt.natAbs → own_e7 v c = Int32.ofNat (Jvm.Free.SBG.digitsL v.toInt.natAbs)) := by
  have d := own_dv (v := v) (P := (10000000 : Int64)) (k := 7) (by decide +kernel)
  have hm : (10 : Nat) ^ 7 ≤ 10 ^ 8 := Nat.pow_le_pow_right (by decide) (by decide)
  unfold own_e7
  refine ⟨fun q => ?_, fun q => ?_⟩
  · rw [if_pos (d.mpr q)]; exact (own_eh8 h c).1 (Nat.lt_of_lt_of_le q hm)
  · rw [if_neg (fun z => absurd (d.mp z) (Nat.not_lt.mpr q))]
    rcases Nat.lt_or_ge v.toInt.natAbs (10 ^ 8) with r | r
    · rw [(own_eh8 h _).1 r, own_Dk (k := 7) h q r]; rfl
    · exact (own_eh8 h _).2 r
theorem own_eh6 {v : Int64} (h : v.toInt.natAbs ≤ 2 ^ 63) (c : Int32) : (v.toInt.natAbs < 10 ^ 6 → own_e6 v c = c) ∧ (10 ^ 6 ≤ v.toInt.natAbs → own_e6 v c = Int32.ofNat (Jvm.Free.SBG.digitsL v.toInt.natAbs)) := by
  have d := own_dv (v := v) (P := (1000000 : Int64)) (k := 6) (by decide +kernel)
  have hm : (10 : Nat) ^ 6 ≤ 10 ^ 7 := Nat.pow_le_pow_right (by decide) (by decide)
  unfold own_e6
  refine ⟨fun q => ?_, fun q => ?_⟩
  · rw [if_pos (d.mpr q)]; exact (own_eh7 h c).1 (Nat.lt_of_lt_of_le q hm)
  · rw [if_neg (fun z => absurd (d.mp z) (Nat.not_lt.mpr q))]
    rcases Nat.lt_or_ge v.toInt.natAbs (10 ^ 7) with r | r
    · rw [(own_eh7 h _).1 r, own_Dk (k := 6) h q r]; rfl
    · exact (own_eh7 h _).2 r
theorem own_eh5 {v : Int64} (h : v.toInt.natAbs ≤ 2 ^ 63) (c : Int32) : (v.toInt.natAbs < 10 ^ 5 → own_e5 v c = c) ∧ (10 ^ 5 ≤ v.toInt.natAbs → own_e5 v c = Int32.ofNat (Jvm.Free.SBG.digitsL v.toInt.natAbs)) := by
  have d := own_dv (v := v) (P := (100000 : Int64)) (k := 5) (by decide +kernel)
  have hm : (10 : Nat) ^ 5 ≤ 10 ^ 6 := Nat.pow_le_pow_right (by decide) (by decide)
  unfold own_e5
  refine ⟨fun q => ?_, fun q => ?_⟩
  · rw [if_pos (d.mpr q)]; exact (own_eh6 h c).1 (Nat.lt_of_lt_of_le q hm)
  · rw [if_neg (fun z => absurd (d.mp z) (Nat.not_lt.mpr q))]
    rcases Nat.lt_or_ge v.toInt.natAbs (10 ^ 6) with r | r
    · rw [(own_eh6 h _).1 r, own_Dk (k := 5) h q r]; rfl
    · exact (own_eh6 h _).2 r
theorem own_eh4 {v : Int64} (h : v.toInt.natAbs ≤ 2 ^ 63) (c : Int32) : (v.toInt.natAbs < 10 ^ 4 → own_e4 v c = c) ∧ (10 ^ 4 ≤ v.toInt.natAbs → own_e4 v c = Int32.ofNat (Jvm.Free.SBG.digitsL v.toInt.natAbs)) := by
  have d := own_dv (v := v) (P := (10000 : Int64)) (k := 4) (by decide +kernel)
  have hm : (10 : Nat) ^ 4 ≤ 10 ^ 5 := Nat.pow_le_pow_right (by decide) (by decide)
  unfold own_e4
  refine ⟨fun q => ?_, fun q => ?_⟩
  · rw [if_pos (d.mpr q)]; exact (own_eh5 h c).1 (Nat.lt_of_lt_of_le q hm)
  · rw [if_neg (fun z => absurd (d.mp z) (Nat.not_lt.mpr q))]
    rcases Nat.lt_or_ge v.toInt.natAbs (10 ^ 5) with r | r
    · rw [(own_eh5 h _).1 r, own_Dk (k := 4) h q r]; rfl
    · exact (own_eh5 h _).2 r
theorem own_eh3 {v : Int64} (h : v.toInt.natAbs ≤ 2 ^ 63) (c : Int32) : (v.toInt.natAbs < 10 ^ 3 → own_e3 v c = c) ∧ (10 ^ 3 ≤ v.toInt.natAbs → own_e3 v c = Int32.ofNat (Jvm.Free.SBG.digitsL v.toInt.natAbs)) := by
  have d := own_dv (v := v) (P := (1000 : Int64)) (k := 3) (by decide +kernel)
  have hm : (10 : Nat) ^ 3 ≤ 10 ^ 4 := Nat.pow_le_pow_right (by decide) (by decide)
  unfold own_e3
  refine ⟨fun q => ?_, fun q => ?_⟩
  · rw [if_pos (d.mpr q)]; exact (own_eh4 h c).1 (Nat.lt_of_lt_of_le q hm)
  · rw [if_neg (fun z => absurd (d.mp z) (Nat.not_lt.mpr q))]
    rcases Nat.lt_or_ge v.toInt.natAbs (10 ^ 4) with r | r
    · rw [(own_eh4 h _).1 r, own_Dk (k := 3) h q r]; rfl
    · exact (own_eh4 h _).2 r
theorem own_eh2 {v : Int64} (h : v.toInt.natAbs ≤ 2 ^ 63) (c : Int32) : (v.toInt.natAbs < 10 ^ 2 → own_e2 v c = c) ∧ (10 ^ 2 ≤ v.toInt.natAbs → own_e2 v c = Int32.ofNat (Jvm.Free.SBG.digitsL v.toInt.natAbs)) := by
  have d := own_dv (v := v) (P := (100 : Int64)) (k := 2) (by decide +kernel)
  have hm : (10 : Nat) ^ 2 ≤ 10 ^ 3 := Nat.pow_le_pow_right (by decide) (by decide)
  unfold own_e2
  refine ⟨fun q => ?_, fun q => ?_⟩
  · rw [if_pos (d.mpr q)]; exact (own_eh3 h c).1 (Nat.lt_of_lt_of_le q hm)
  · rw [if_neg (fun z => absurd (d.mp z) (Nat.not_lt.mpr q))]
    rcases Nat.lt_or_ge v.toInt.natAbs (10 ^ 3) with r | r
    · rw [(own_eh3 h _).1 r, own_Dk (k := 2) h q r]; rfl
    · exact (own_eh3 h _).2 r
theorem own_eh1 {v : Int64} (h : v.toInt.natAbs ≤ 2 ^ 63) (c : Int32) : (v.toInt.natAbs < 10 ^ 1 → own_e1 v c = c) ∧ (10 ^ 1 ≤ v.toInt.natAbs → own_e1 v c = Int32.ofNat (Jvm.Free.SBG.digitsL v.toInt.natAbs)) := by
  have d := own_dv (v := v) (P := (10 : Int64)) (k := 1) (by decide +kernel)
  have hm : (10 : Nat) ^ 1 ≤ 10 ^ 2 := Nat.pow_le_pow_right (by decide) (by decide)
  unfold own_e1
  refine ⟨fun q => ?_, fun q => ?_⟩
  · rw [if_pos (d.mpr q)]; exact (own_eh2 h c).1 (Nat.lt_of_lt_of_le q hm)
  · rw [if_neg (fun z => absurd (d.mp z) (Nat.not_lt.mpr q))]
    rcases Nat.lt_or_ge v.toInt.natAbs (10 ^ 2) with r | r
    · rw [(own_eh2 h _).1 r, own_Dk (k := 1) h q r]; rfl
    · exact (own_eh2 h _).2 r
theorem own_dcE (v : Int64) : own_e1 v (1 : Int32) = Int32.ofNat (Jvm.Free.SBG.digitsL v.toInt.natAbs) := by
  have h := (own_neg v).1
  rcases Nat.lt_or_ge v.toInt.natAbs (10 ^ 1) with q | q
  · rw [(own_eh1 h _).1 q, own_dig1 (by simpa using q)]; rfl
  · exact (own_eh1 h _).2 q
theorem own_pows {k : Nat} (h : k < 19) : ([(.long (1 : Int64)), (.long (10 : Int64)), (.long (100 : Int64)), (.long (1000 : Int64)), (.long (10000 : Int64)), (.long (100000 : Int64)), (.long (1000000 : Int64)), (.long (10000000 : Int64)), (.long (100000000 : Int64)), (.long (1000000000 : Int64)), (.long (10000000000 : Int64)), (.long (100000000000 : Int64)), (.long (1000000000000 : Int64)), (.long (10000000000000 : Int64)), (.long (100000000000000 : Int64)), (.long (1000000000000000 : Int64)), (.long (10000000000000000 : Int64)), (.long (100000000000000000 : Int64)), (.long (1000000000000000000 : Int64))] : List Value)[k]? = some (.long (own_pw k)) := by
  match k, h with
  | 0, _ => rfl
  | 1, _ => rfl
  | 2, _ => rfl
  | 3, _ => rfl
  | 4, _ => rfl
  | 5, _ => rfl
  | 6, _ => rfl
  | 7, _ => rfl
  | 8, _ => rfl
  | 9, _ => rfl
  | 10, _ => rfl
  | 11, _ => rfl
  | 12, _ => rfl
  | 13, _ => rfl
  | 14, _ => rfl
  | 15, _ => rfl
  | 16, _ => rfl
  | 17, _ => rfl
  | 18, _ => rfl
  | k + 19, h => exact absurd h (by omega)


/-! the tables of digits, out of the sheet's words -/
section OwnTbl
variable {s : State} {args : Array Value}
theorem own_tblA {t : Term} {n : String} {d : Addr} (f : Nat → Nat) (ev : t.eval args s none [] s = some (.ref d)) (evi : ∀ idx, t.eval args s none idx s = some (.ref d)) (S : Sta s s.heap "java/lang/Integer" n "[B" (.ref d)) (hx : (Cond.exactly t "[B").value args s none s [] = some true)
    (wa : (Cond.arrayClass .byte).before args s = true) (hl : (Cond.eq (Term.length t) (Term.int (100 : Int32))).value args s none s [] = some true)
    {F : Term} (ha : (Cond.all t (Cond.eq (Term.elem t (Term.index 0)) F)).value args s none s [] = some true)
    (hF : ∀ r, r < 100 → F.eval args s none [r] s = some (.int (Int32.ofNat (f r)))) :
    ∃ st D, Jvm.Free.SBG.Tbl s n st d D ∧ (∀ r, r < 100 → Jvm.Free.SBG.iAt D r = Int32.ofNat (f r)) ∧ ∃ (cf i : Nat) (k : Class) (g : Field), s.fieldFound? "java/lang/Integer" n "[B" = some (cf, k, i, g) ∧ k.statics = some st := by
  have E : Exa s s.heap d "[B" := Exa.start ev hx
  have e := eqv_i (Term.int_eval (100 : Int32)) hl
  obtain ⟨D, hD⟩ : ∃ D, s.arrayAt? d = some D := by
    cases hq : s.arrayAt? d with
    | none => simp [Term.eval, ev, hq] at e
    | some D => exact ⟨D, rfl⟩
  have hsz : D.slots.size = 100 := by
    have e' := e
    rcases Nat.lt_or_ge D.slots.size (2 ^ 31) with q | q
    · have e5 := (len_f ev hD q).symm.trans e
      have e6 : D.slots.size.toInt32 = (100 : Int32) := Value.int.inj (Option.some.inj e5)
      have e7 := congrArg Int32.toInt e6
      rw [len_toInt q] at e7
      have e8 : (100 : Int32).toInt = 100 := by decide
      omega
    · simp [Term.eval, ev, hD, Nat.not_lt.mpr q] at e'
  obtain ⟨a1, a2, a3, a4⟩ := State.arrayAt?_spec hD
  obtain ⟨cell, k0, b1, b2, b3, b4, -⟩ := E
  cases a1.symm.trans b1
  obtain ⟨c2, k2, comp, g1, g2, g3⟩ := Cond.arrayClass_spec wa
  have ec : c2 = D.cls := Option.some.inj (g1.symm.trans b2)
  subst ec
  have isA : s.isArrayOf D .byte := ⟨(fun x q => by rw [q] at b4; cases b4), k2, g2, comp, g3⟩
  have hat : ∀ r, r < 100 → D.slots[r]? = some (.int (Int32.ofNat (f r))) := fun r hr => by
    have u := Cond.all_elim ev hD ha r (by omega)
    have rr : r.toInt32.toInt = (r : Int) := len_toInt (by omega)
    have nn : ¬ r.toInt32 < 0 := by
      rw [Int32.lt_iff_toInt_lt, rr]
      have e0 : (0 : Int32).toInt = 0 := by decide
      omega
    have cl : r.toInt32.toNatClampNeg = r := by show r.toInt32.toInt.toNat = r; rw [rr]; rfl
    have v := eqv_i (hF r hr) u
    have ix : (Term.index 0).eval args s none [r] s = some (.int r.toInt32) := by have := idx_at (args := args) (s := s) (first := s) (o := none) nn; rw [cl] at this; exact this
    have w := (elem_f (evi _) ix hD nn).symm.trans v
    rw [cl] at w; exact w
  obtain ⟨cf, i, k, g, st, cS, q1, q2, q3, q4, q5, q6, q7⟩ := S
  have hi : ∀ r, r < 100 → Jvm.Free.SBG.iAt D r = Int32.ofNat (f r) := fun r hr => by
    simp only [Jvm.Free.SBG.iAt, Array.getD_eq_getD_getElem?, hat r hr, Option.getD_some]
  exact ⟨st, D, ⟨cf, i, k, g, cS, q1, q2, q3, q4, q5, (fun z => by rw [z] at q6; cases q6), q7, a1, isA, a2, hsz, fun r hr => by rw [hat r hr, hi r hr]⟩, hi, cf, i, k, g, q1, q4⟩
theorem own_DTstart {d1 d2 st1 st2 : Addr} {D1 D2 : Cell} (t1 : Jvm.Free.SBG.Tbl s "DigitOnes" st1 d1 D1) (t2 : Jvm.Free.SBG.Tbl s "DigitTens" st2 d2 D2) (o1 : Jvm.Free.SBG.Ones D1) (o2 : Jvm.Free.SBG.Tens D2)
    (f1 : ∃ (cf i : Nat) (k : Class) (g : Field), s.fieldFound? "java/lang/Integer" "DigitOnes" "[B" = some (cf, k, i, g) ∧ k.statics = some st1) (f2 : ∃ (cf i : Nat) (k : Class) (g : Field), s.fieldFound? "java/lang/Integer" "DigitTens" "[B" = some (cf, k, i, g) ∧ k.statics = some st2)
    (l1 : (Cond.laysStatic "java/lang/Integer" "DigitOnes" "[B").before args s = true) (l2 : (Cond.laysStatic "java/lang/Integer" "DigitTens" "[B").before args s = true) : own_DT s := by
  obtain ⟨cf, i, k, g, q1, q2⟩ := f1
  obtain ⟨cf', i', k', g', r1, r2⟩ := f2
  obtain ⟨c1, k1, _, _, _, _, p1, p2, -⟩ := Cond.laysStatic_spec l1
  obtain ⟨c2, k2, _, _, _, _, p3, p4, -⟩ := Cond.laysStatic_spec l2
  cases q1.symm.trans p2
  cases r1.symm.trans p4
  cases p1.symm.trans p3
  cases (State.fieldFound?_class q1).symm.trans (State.fieldFound?_class r1)
  cases q2.symm.trans r2
  exact ⟨st1, d1, d2, D1, D2, t1, t2, o1, o2⟩
theorem own_fOnes : ∀ r : Fin 100, (48 : Int32) + (Int32.ofNat r.val) % 10 = Int32.ofNat (48 + r.val % 10) := by decide +kernel
theorem own_fTens : ∀ r : Fin 100, (48 : Int32) + (Int32.ofNat r.val) / 10 = Int32.ofNat (48 + r.val / 10) := by decide +kernel
theorem own_ixr {r : Nat} (h : r < 100) : (Term.index 0).eval args s none [r] s = some (.int (Int32.ofNat r)) := Term.index_eval _
end OwnTbl

def own_D (v : Int64) : Nat := Jvm.Free.SBG.digitsL v.toInt.natAbs
theorem own_D19 (v : Int64) : 1 ≤ own_D v ∧ own_D v ≤ 19 := ⟨(Jvm.Free.SBG.digitsL_pos _).1, own_dig19 (own_neg v).1⟩
theorem own_nnI {x : Int32} {i : Nat} (h : x.toInt = (i : Int)) : ¬ x < (0 : Int32) := by
  rw [Int32.lt_iff_toInt_lt, h]
  have e : (0 : Int32).toInt = 0 := by decide
  omega
theorem own_nrA {c : Int32} (h : 0 ≤ c.toInt ∧ c.toInt < 128) : narrow .char (.int c) = .int c := congrArg Value.int (own_narC ⟨h.1, by omega⟩)
theorem own_addI {n i : Nat} {x : Int32} (hx : x.toInt = (i : Int)) (h : n + i ≤ 1000) : ((Int32.ofNat n) + x).toInt = ((n + i : Nat) : Int) := by
  rw [Jvm.Kit.i32_add (by rw [own_ofN (by omega), hx]; omega) (by rw [own_ofN (by omega), hx]; omega), own_ofN (by omega), hx]; omega
theorem own_add1N {n : Nat} (h : n + 1 ≤ 1000) : (Int32.ofNat n) + (1 : Int32) = Int32.ofNat (n + 1) := own_addN (n := 1) h
theorem own_dix {n i : Nat} {x : Int32} (hx : x.toInt = (i : Int)) (hi : i < n) (hn : n ≤ 1000) : (((Int32.ofNat n) - (1 : Int32)) - x).toInt = ((n - 1 - i : Nat) : Int) := by
  have e : (Int32.ofNat n) - (1 : Int32) = Int32.ofNat (n - 1) := own_subN (n := 1) (by omega) hn
  rw [e, Jvm.Kit.i32_sub (by rw [own_ofN (by omega), hx]; omega) (by rw [own_ofN (by omega), hx]; omega), own_ofN (by omega), hx]; omega
theorem own_pw0 : ∀ k : Fin 19, own_pw k.val ≠ 0 := by decide +kernel
theorem own_getDd {n L i : Nat} (h : i < L) : (own_dl n L).getD i 0 = Int32.ofNat (48 + n / 10 ^ (L - 1 - i) % 10) := by rw [List.getD_eq_getElem?_getD, own_dl_get h]; rfl
theorem own_slN {v : Int64} (h : v < (0 : Int64)) : (own_sl v).getD 0 0 = (45 : Int32) ∧ (own_sl v).length = own_D v + 1 ∧ ∀ j, j < own_D v → (own_sl v).getD (1 + j) 0 = Int32.ofNat (48 + v.toInt.natAbs / 10 ^ (own_D v - 1 - j) % 10) := by
  have e : own_sl v = 45 :: own_dl v.toInt.natAbs (own_D v) := by unfold own_sl; rw [if_pos h]; rfl
  rw [e]
  refine ⟨rfl, by rw [List.length_cons, own_dl_len], fun j hj => ?_⟩
  rw [Nat.add_comm]; exact own_getDd hj
theorem own_slP {v : Int64} (h : ¬ v < (0 : Int64)) : (own_sl v).length = own_D v ∧ ∀ j, j < own_D v → (own_sl v).getD j 0 = Int32.ofNat (48 + v.toInt.natAbs / 10 ^ (own_D v - 1 - j) % 10) := by
  have e : own_sl v = own_dl v.toInt.natAbs (own_D v) := by unfold own_sl; rw [if_neg h]; rfl
  rw [e]
  exact ⟨own_dl_len _ _, fun j hj => own_getDd hj⟩
def own_M (cs cs' : List Int32) (n : Nat) : Prop := ∀ j, j < cs'.length → cs.getD (n + j) 0 = cs'.getD j 0
theorem own_at {A M R B : List Int32} {n : Nat} (h : B = A ++ (M ++ R)) (hn : A.length = n) : n + M.length ≤ B.length ∧ own_M B M n := by
  subst h hn
  refine ⟨by rw [List.length_append, List.length_append]; omega, fun j hj => ?_⟩
  rw [List.getD_eq_getElem?_getD, List.getD_eq_getElem?_getD, List.getElem?_append_right (by omega), Nat.add_sub_cancel_left, List.getElem?_append_left hj]
theorem ef_own_pci (m : MethodId) (x0 : Int32) (x1 : Int32) (x2 : Value) (c2 : x2.category = 1) : entryFrame m #[(.int x0), (.int x1), x2] 3 = mkF m 0 #[.val (.int x0), .val (.int x1), .val x2] [] := by
  cases x2 <;>  first | (simp [entryFrame, mkF, argsToLocals, Value.category]; done) | rfl | (simp [Value.category] at *; done)
theorem pf_own_pci : plainFor own_m29 = true := plainFor_of_name (by simp [plainName, overriddenIn])
theorem d_jdk_41_method_11_code_0 : decode jdk_41_method_11_code 0 = .ok (.iload_n 0, 1) := by decide +kernel
theorem d_jdk_41_method_11_code_1 : decode jdk_41_method_11_code 1 = .ok (.ifCond .lt 8, 3) := by decide +kernel
theorem d_jdk_41_method_11_code_16 : decode jdk_41_method_11_code 16 = .ok (.iload_n 0, 1) := by decide +kernel
theorem d_jdk_41_method_11_code_17 : decode jdk_41_method_11_code 17 = .ok (.ireturn, 1) := by decide +kernel
theorem d_jdk_41_method_11_code_4 : decode jdk_41_method_11_code 4 = .ok (.iload_n 0, 1) := by decide +kernel
theorem d_jdk_41_method_11_code_5 : decode jdk_41_method_11_code 5 = .ok (.iload_n 1, 1) := by decide +kernel
theorem d_jdk_41_method_11_code_6 : decode jdk_41_method_11_code 6 = .ok (.if_icmp .lt 10, 3) := by decide +kernel
def Q_own_pci (Z : State) (x : Int32) (n : Int32) (fm : Value) (h0 : Heap) (v : Option Value) (h : Heap) (L : List Loc) : Prop := v = some (.int x) ∧ Fr Z.heap.size L ∧ h = h0
set_option maxRecDepth 65536 in
set_option maxHeartbeats 40000000 in
theorem own_pci (l : Launch) (Z : State) (a0 : Array Value) (hw : ∀ d ∈ tables_1, d.before a0 Z = true) (ws : List Jvm.Cond) (x : Int32) (n : Int32) (fm : Value) (h0 : Heap) (O0 : Ext Z.heap h0) (hfm : fm.isRef = true) (hx0 : ¬ (x < (0 : Int32))) (hxn : x < n) :
    MetFree l own_m29 (head1 (Jvm.Cond.code own_m29 jdk_41_method_11_code 3 (some .int) :: ws) ({ frames := 0, cells := 0, slots := 0, locals := 0 } : Room)) (fun aa U => aa = #[(.int x), (.int n), fm] ∧ Z.Warmed39 U.vm ∧ U.heap = h0) (fun _ _ _ _ _ => True) (fun _ U o U' => ∃ v L, o = .returned v ∧ Q_own_pci Z x n fm h0 v U'.heap L ∧ FrameEnd U o U' L ({ frames := 0, cells := 0, slots := 0, locals := 0 } : Room).cells ({ frames := 0, cells := 0, slots := 0, locals := 0 } : Room).slots) := by
  refine MetFree.of_bodySF pf_own_pci hisR ?_
  intro p e s m args below meth c s₁ Bd hml0 hP hK
  obtain ⟨rfl, hZ, hh⟩ := hP
  have hx := Bd.exec
  have hby := Bd.bytes
  have hlk := BodyLoose.notSynchronized Bd
  have hml : c.maxLocals = 3 := hml0
  have hown : s.vm.findClass own_s6 = some m.cls := findClass_of_methodNamed Bd.named
  have hnm := (name_of_methodNamed Bd.named Bd.method).1
  have X0 : Stand p l e ({ frames := 0, cells := 0, slots := 0, locals := 0 } : Room) s m #[(.int x), (.int n), fm] below meth c s₁ [] 0 0 := Stand.of_body Bd
  have e0 : s₁.heap = h0 := by rw [← hh, Bd.state]; rfl
  have N0 := Fr.nil Z.heap.size
  have K0 : Keep h0 h0 [] := Keep.refl _ _
  refine own_start (Q := Q_own_pci Z x n fm h0) (ef_own_pci m x n fm (own_catR hfm)) ?_
  show own_G p e below (s₁.setTop (mkF m 0 #[.val (.int x), .val (.int n), .val fm] [])) _
  refine own_go (fun t k => XS.iloadN X0.here hx rfl (hb hby d_jdk_41_method_11_code_0) rfl k) ?_
  refine own_go (fun t k => XS.ifNo X0.here hx rfl (hb hby d_jdk_41_method_11_code_1) rfl ((if0 _ _).trans (flt hx0).1) k) ?_
  show own_G p e below (s₁.setTop (mkF m 4 #[.val (.int x), .val (.int n), .val fm] [])) _
  refine own_go (fun t k => XS.iloadN X0.here hx rfl (hb hby d_jdk_41_method_11_code_4) rfl k) ?_
  refine own_go (fun t k => XS.iloadN X0.here hx rfl (hb hby d_jdk_41_method_11_code_5) rfl k) ?_
  refine own_go (fun t k => XS.icmpYes X0.here hx rfl (pc0 := 6) (pc' := 16) rfl (hb hby d_jdk_41_method_11_code_6) rfl (tlt hxn).1 (by decide) (by decide) k) ?_
  show own_G p e below (s₁.setTop (mkF m 16 #[.val (.int x), .val (.int n), .val fm] [])) _
  refine own_go (fun t k => XS.iloadN X0.here hx rfl (hb hby d_jdk_41_method_11_code_16) rfl k) ?_
  exact own_ret X0 hx Bd.returns rfl (Or.inl ⟨rfl, Or.inl rfl, _, rfl⟩) (hb hby d_jdk_41_method_11_code_17) hlk (Nat.le_of_ble_eq_true rfl) (Nat.le_of_ble_eq_true rfl) (by show Q_own_pci Z x n fm h0 _ s₁.heap _; rw [e0]; exact ⟨rfl, N0, rfl⟩)
theorem ef_own_sci (m : MethodId) (x0 : Int32) (x1 : Int32) : entryFrame m #[(.int x0), (.int x1)] 2 = mkF m 0 #[.val (.int x0), .val (.int x1)] [] := by first | (simp [entryFrame, mkF, argsToLocals, Value.category]; done) | rfl
theorem pf_own_sci : plainFor own_m30 = true := plainFor_of_name (by simp [plainName, overriddenIn])
theorem pd_1725485788 : parseMethodDescriptor "(IILjava/util/function/BiFunction;)I" = some ⟨[.int, .int, (.object "java/util/function/BiFunction")], some .int⟩ := by decide +kernel
theorem d_jdk_42_method_155_code_0 : decode jdk_42_method_155_code 0 = .ok (.iload_n 0, 1) := by decide +kernel
theorem d_jdk_42_method_155_code_1 : decode jdk_42_method_155_code 1 = .ok (.iload_n 1, 1) := by decide +kernel
theorem d_jdk_42_method_155_code_2 : decode jdk_42_method_155_code 2 = .ok (.getstatic 1053, 3) := by decide +kernel
theorem d_jdk_42_method_155_code_5 : decode jdk_42_method_155_code 5 = .ok (.invokestatic 1059, 3) := by decide +kernel
theorem d_jdk_42_method_155_code_8 : decode jdk_42_method_155_code 8 = .ok (.pop, 1) := by decide +kernel
theorem d_jdk_42_method_155_code_9 : decode jdk_42_method_155_code 9 = .ok (.return_, 1) := by decide +kernel
def Q_own_sci (Z : State) (x : Int32) (n : Int32) (fm : Value) (h0 : Heap) (v : Option Value) (h : Heap) (L : List Loc) : Prop := v = none ∧ Fr Z.heap.size L ∧ h = h0
set_option maxRecDepth 65536 in
set_option maxHeartbeats 40000000 in
theorem own_sci (l : Launch) (Z : State) (a0 : Array Value) (hw : ∀ d ∈ tables_1, d.before a0 Z = true) (ws : List Jvm.Cond) (x : Int32) (n : Int32) (fm : Value) (h0 : Heap) (O0 : Ext Z.heap h0) (S_FM : Sta Z Z.heap own_s6 "SIOOBE_FORMATTER" "Ljava/util/function/BiFunction;" fm) (hfm : fm.isRef = true) (hx0 : ¬ (x < (0 : Int32))) (hxn : x < n) :
    MetFree l own_m30 (head1 (Jvm.Cond.code own_m30 jdk_42_method_155_code 2 none :: ws) ({ frames := 1, cells := 0, slots := 0, locals := 14 } : Room)) (fun aa U => aa = #[(.int x), (.int n)] ∧ Z.Warmed39 U.vm ∧ U.heap = h0) (fun _ _ _ _ _ => True) (fun _ U o U' => ∃ v L, o = .returned v ∧ Q_own_sci Z x n fm h0 v U'.heap L ∧ FrameEnd U o U' L ({ frames := 1, cells := 0, slots := 0, locals := 14 } : Room).cells ({ frames := 1, cells := 0, slots := 0, locals := 14 } : Room).slots) := by
  refine MetFree.of_bodySF pf_own_sci hisR ?_
  intro p e s m args below meth c s₁ Bd hml0 hP hK
  obtain ⟨rfl, hZ, hh⟩ := hP
  have hx := Bd.exec
  have hby := Bd.bytes
  have hlk := BodyLoose.notSynchronized Bd
  have hml : c.maxLocals = 2 := hml0
  have hown : s.vm.findClass own_s2 = some m.cls := findClass_of_methodNamed Bd.named
  have hnm := (name_of_methodNamed Bd.named Bd.method).1
  have X0 : Stand p l e ({ frames := 1, cells := 0, slots := 0, locals := 14 } : Room) s m #[(.int x), (.int n)] below meth c s₁ [] 0 0 := Stand.of_body Bd
  have e0 : s₁.heap = h0 := by rw [← hh, Bd.state]; rfl
  have N0 := Fr.nil Z.heap.size
  have K0 : Keep h0 h0 [] := Keep.refl _ _
  refine own_start (Q := Q_own_sci Z x n fm h0) (ef_own_sci m (x) (n)) ?_
  show own_G p e below (s₁.setTop (mkF m 0 #[.val (.int x), .val (.int n)] [])) _
  refine own_go (fun t k => XS.iloadN X0.here hx rfl (hb hby d_jdk_42_method_155_code_0) rfl k) ?_
  refine own_go (fun t k => XS.iloadN X0.here hx rfl (hb hby d_jdk_42_method_155_code_1) rfl k) ?_
  obtain ⟨T1z, X1z, e1z, st1z⟩ := getS2 X0 hx hZ hown (host := "") (Or.inl (own_hw hw 231 rfl)) Via.refl e0 (S_FM.ext O0) (g := (mkF m 2 #[.val (.int x), .val (.int n)] [(.int n), (.int x)])) rfl (hb hby d_jdk_42_method_155_code_2)
  refine own_go st1z ?_
  show own_G p e below (T1z.setTop (mkF m 5 #[.val (.int x), .val (.int n)] [fm, (.int n), (.int x)])) _
  obtain ⟨_, _, ⟨T2z, L2z, k2z, n2z⟩, -, X2z, ⟨Lc2z, hQ2z, l2z, y2z, z2z⟩, st2z⟩ := Jvm.LawKit.callS X1z hx (y := own_m29) hown (own_mw hZ hw 233 rfl) (own_mw hZ hw 234 rfl) (own_mw hZ hw 232 rfl) (own_mw hZ hw 235 rfl) (by decide) (backOf (W := 0) (own_pci l Z a0 hw [] x n fm h0 O0 hfm hx0 hxn) hZ (own_hw hw 235 rfl) (own_hw hw 232 rfl) (by decide) (by decide)) (g := (mkF m 5 #[.val (.int x), .val (.int n)] [fm, (.int n), (.int x)])) rfl (by rw [hml]; rfl) (argsL := [(.int x), (.int n), fm]) (rest := []) (lenOf pd_1725485788 rfl) rfl (by show 2 * 0 + _ ≤ _; exact Nat.le_of_eq rfl) (hb hby d_jdk_42_method_155_code_5) (fun _ _ => ⟨rfl, e1z, (by decide : 0 + 0 ≤ _), (by decide : 0 + 0 ≤ _)⟩)
  dsimp only [Pt.U, Pt.locs, Pt.cells, Pt.slots] at X2z l2z y2z z2z st2z hQ2z
  subst l2z y2z z2z
  obtain ⟨rfl, NQ2z, K2zq⟩ := hQ2z
  refine own_go st2z ?_
  have N2z := Fr.app N0 NQ2z
  show own_G p e below (T2z.setTop (mkF m 8 #[.val (.int x), .val (.int n)] [(.int x)])) _
  refine own_go (fun t k => XS.pop X2z.here hx rfl (hb hby d_jdk_42_method_155_code_8) rfl rfl k) ?_
  exact own_retV X2z hx Bd.returns (hb hby d_jdk_42_method_155_code_9) hlk (Nat.le_of_ble_eq_true rfl) (Nat.le_of_ble_eq_true rfl) (by show Q_own_sci Z x n fm h0 _ T2z.heap _; rw [K2zq]; exact ⟨rfl, N2z, rfl⟩)
theorem ef_own_l1s (m : MethodId) (x0 : Addr) : entryFrame m #[(.ref x0)] 1 = mkF m 0 #[.val (.ref x0)] [] := by first | (simp [entryFrame, mkF, argsToLocals, Value.category]; done) | rfl
theorem pf_own_l1s : plainFor own_m31 = true := plainFor_of_name (by simp [plainName, overriddenIn])
theorem d_jdk_42_method_154_code_0 : decode jdk_42_method_154_code 0 = .ok (.getstatic 38, 3) := by decide +kernel
theorem d_jdk_42_method_154_code_10 : decode jdk_42_method_154_code 10 = .ok (.ifCond .ne 7, 3) := by decide +kernel
theorem d_jdk_42_method_154_code_13 : decode jdk_42_method_154_code 13 = .ok (.iconst 1, 1) := by decide +kernel
theorem d_jdk_42_method_154_code_14 : decode jdk_42_method_154_code 14 = .ok (.goto 4, 3) := by decide +kernel
theorem d_jdk_42_method_154_code_18 : decode jdk_42_method_154_code 18 = .ok (.ireturn, 1) := by decide +kernel
theorem d_jdk_42_method_154_code_3 : decode jdk_42_method_154_code 3 = .ok (.ifCond .eq 14, 3) := by decide +kernel
theorem d_jdk_42_method_154_code_6 : decode jdk_42_method_154_code 6 = .ok (.aload_n 0, 1) := by decide +kernel
theorem d_jdk_42_method_154_code_7 : decode jdk_42_method_154_code 7 = .ok (.getfield 15, 3) := by decide +kernel
def Q_own_l1s (Z : State) (a1 : Addr) (b1 : Addr) (k1 : ClassId) (cs1 : (List Int32)) (cz : Int32) (h0 : Heap) (v : Option Value) (h : Heap) (L : List Loc) : Prop := v = some (.int (1 : Int32)) ∧ Fr Z.heap.size L ∧ h = h0
set_option maxRecDepth 65536 in
set_option maxHeartbeats 40000000 in
theorem own_l1s (l : Launch) (Z : State) (a0 : Array Value) (hw : ∀ d ∈ tables_1, d.before a0 Z = true) (ws : List Jvm.Cond) (a1 : Addr) (b1 : Addr) (k1 : ClassId) (cs1 : (List Int32)) (cz : Int32) (h0 : Heap) (O0 : Ext Z.heap h0) (q0 : Exa Z h0 a1 own_s2) (q1 : Fld Z h0 a1 own_s2 "value" "[B" (.ref b1)) (q2 : Fld Z h0 a1 own_s2 "coder" "B" (.int (0 : Int32))) (q3 : own_A Z h0 b1 k1 .byte (own_cv cs1)) (hl1 : cs1.length ≤ 200) (S_CS : Sta Z Z.heap own_s2 own_s5 "Z" (.int cz)) (hcs : ¬ (cz = (0 : Int32))) :
    MetFree l own_m31 (head1 (Jvm.Cond.code own_m31 jdk_42_method_154_code 1 (some .boolean) :: ws) ({ frames := 0, cells := 0, slots := 0, locals := 0 } : Room)) (fun aa U => aa = #[(.ref a1)] ∧ Z.Warmed39 U.vm ∧ U.heap = h0) (fun _ _ _ _ _ => True) (fun _ U o U' => ∃ v L, o = .returned v ∧ Q_own_l1s Z a1 b1 k1 cs1 cz h0 v U'.heap L ∧ FrameEnd U o U' L ({ frames := 0, cells := 0, slots := 0, locals := 0 } : Room).cells ({ frames := 0, cells := 0, slots := 0, locals := 0 } : Room).slots) := by
  refine MetFree.of_bodySF pf_own_l1s hisR ?_
  intro p e s m args below meth c s₁ Bd hml0 hP hK
  obtain ⟨rfl, hZ, hh⟩ := hP
  have hx := Bd.exec
  have hby := Bd.bytes
  have hlk := BodyLoose.notSynchronized Bd
  have hml : c.maxLocals = 1 := hml0
  have hown : s.vm.findClass own_s2 = some m.cls := findClass_of_methodNamed Bd.named
  have hnm := (name_of_methodNamed Bd.named Bd.method).1
  have X0 : Stand p l e ({ frames := 0, cells := 0, slots := 0, locals := 0 } : Room) s m #[(.ref a1)] below meth c s₁ [] 0 0 := Stand.of_body Bd
  have e0 : s₁.heap = h0 := by rw [← hh, Bd.state]; rfl
  have N0 := Fr.nil Z.heap.size
  have K0 : Keep h0 h0 [] := Keep.refl _ _
  refine own_start (Q := Q_own_l1s Z a1 b1 k1 cs1 cz h0) (ef_own_l1s m (a1)) ?_
  show own_G p e below (s₁.setTop (mkF m 0 #[.val (.ref a1)] [])) _
  obtain ⟨T1z, X1z, e1z, st1z⟩ := getS2 X0 hx hZ hown (host := "") (Or.inl (own_hw hw 69 rfl)) Via.refl e0 (S_CS.ext O0) (g := (mkF m 0 #[.val (.ref a1)] [])) rfl (hb hby d_jdk_42_method_154_code_0)
  refine own_go st1z ?_
  refine own_go (fun t k => XS.ifNo X1z.here hx rfl (hb hby d_jdk_42_method_154_code_3) rfl ((if0 _ _).trans (feq hcs).1) k) ?_
  show own_G p e below (T1z.setTop (mkF m 6 #[.val (.ref a1)] [])) _
  refine own_go (fun t k => XS.aloadN X1z.here hx rfl (hb hby d_jdk_42_method_154_code_6) rfl rfl k) ?_
  obtain ⟨T2z, X2z, e2z, st2z⟩ := getF X1z hx hZ hown (host := "") (Or.inl (own_hw hw 70 rfl)) Via.refl e1z q2 (g := (mkF m 7 #[.val (.ref a1)] [(.ref a1)])) rfl rfl (hb hby d_jdk_42_method_154_code_7)
  refine own_go st2z ?_
  refine own_go (fun t k => XS.ifNo X2z.here hx rfl (hb hby d_jdk_42_method_154_code_10) rfl ((if0 _ _).trans (teq (by decide : (0 : Int32) = (0 : Int32))).2) k) ?_
  show own_G p e below (T2z.setTop (mkF m 13 #[.val (.ref a1)] [])) _
  refine own_go (fun t k => XS.iconst X2z.here hx rfl (hb hby d_jdk_42_method_154_code_13) k) ?_
  refine own_go (fun t k => XS.goto X2z.here hx rfl (pc0 := 14) (pc' := 18) rfl (hb hby d_jdk_42_method_154_code_14) (by decide) (by decide) k) ?_
  show own_G p e below (T2z.setTop (mkF m 18 #[.val (.ref a1)] [(.int (1 : Int32))])) _
  exact own_ret X2z hx Bd.returns rfl (Or.inl ⟨rfl, Or.inr (Or.inl rfl), _, rfl⟩) (hb hby d_jdk_42_method_154_code_18) hlk (Nat.le_of_ble_eq_true rfl) (Nat.le_of_ble_eq_true rfl) (by show Q_own_l1s Z a1 b1 k1 cs1 cz h0 _ T2z.heap _; rw [e2z]; exact ⟨rfl, N0, rfl⟩)
theorem ef_own_lcat (m : MethodId) (x0 : Addr) (x1 : Int32) : entryFrame m #[(.ref x0), (.int x1)] 2 = mkF m 0 #[.val (.ref x0), .val (.int x1)] [] := by first | (simp [entryFrame, mkF, argsToLocals, Value.category]; done) | rfl
theorem pf_own_lcat : plainFor own_m32 = true := plainFor_of_name (by simp [plainName, overriddenIn])
theorem d_jdk_43_method_2_code_0 : decode jdk_43_method_2_code 0 = .ok (.iload_n 1, 1) := by decide +kernel
theorem d_jdk_43_method_2_code_1 : decode jdk_43_method_2_code 1 = .ok (.aload_n 0, 1) := by decide +kernel
theorem d_jdk_43_method_2_code_12 : decode jdk_43_method_2_code 12 = .ok (.iand, 1) := by decide +kernel
theorem d_jdk_43_method_2_code_13 : decode jdk_43_method_2_code 13 = .ok (.i2c, 1) := by decide +kernel
theorem d_jdk_43_method_2_code_14 : decode jdk_43_method_2_code 14 = .ok (.ireturn, 1) := by decide +kernel
theorem d_jdk_43_method_2_code_2 : decode jdk_43_method_2_code 2 = .ok (.arraylength, 1) := by decide +kernel
theorem d_jdk_43_method_2_code_3 : decode jdk_43_method_2_code 3 = .ok (.invokestatic 9, 3) := by decide +kernel
theorem d_jdk_43_method_2_code_6 : decode jdk_43_method_2_code 6 = .ok (.aload_n 0, 1) := by decide +kernel
theorem d_jdk_43_method_2_code_7 : decode jdk_43_method_2_code 7 = .ok (.iload_n 1, 1) := by decide +kernel
theorem d_jdk_43_method_2_code_8 : decode jdk_43_method_2_code 8 = .ok (.baload, 1) := by decide +kernel
theorem d_jdk_43_method_2_code_9 : decode jdk_43_method_2_code 9 = .ok (.sipush 255, 3) := by decide +kernel
def Q_own_lcat (Z : State) (b1 : Addr) (k1 : ClassId) (cs1 : (List Int32)) (x : Int32) (i : Nat) (fm : Value) (h0 : Heap) (v : Option Value) (h : Heap) (L : List Loc) : Prop := v = some (.int (cs1.getD i 0)) ∧ Fr Z.heap.size L ∧ h = h0
set_option maxRecDepth 65536 in
set_option maxHeartbeats 40000000 in
theorem own_lcat (l : Launch) (Z : State) (a0 : Array Value) (hw : ∀ d ∈ tables_1, d.before a0 Z = true) (ws : List Jvm.Cond) (b1 : Addr) (k1 : ClassId) (cs1 : (List Int32)) (x : Int32) (i : Nat) (fm : Value) (h0 : Heap) (O0 : Ext Z.heap h0) (q0 : own_A Z h0 b1 k1 .byte (own_cv cs1)) (hl1 : cs1.length ≤ 200) (hasc1 : own_asc cs1) (hxx : x.toInt = (i : Int)) (hlt : i < cs1.length) (S_FM : Sta Z Z.heap own_s6 "SIOOBE_FORMATTER" "Ljava/util/function/BiFunction;" fm) (hfm : fm.isRef = true) :
    MetFree l own_m32 (head1 (Jvm.Cond.code own_m32 jdk_43_method_2_code 2 (some .char) :: ws) ({ frames := 2, cells := 0, slots := 0, locals := 28 } : Room)) (fun aa U => aa = #[(.ref b1), (.int x)] ∧ Z.Warmed39 U.vm ∧ U.heap = h0) (fun _ _ _ _ _ => True) (fun _ U o U' => ∃ v L, o = .returned v ∧ Q_own_lcat Z b1 k1 cs1 x i fm h0 v U'.heap L ∧ FrameEnd U o U' L ({ frames := 2, cells := 0, slots := 0, locals := 28 } : Room).cells ({ frames := 2, cells := 0, slots := 0, locals := 28 } : Room).slots) := by
  refine MetFree.of_bodySF pf_own_lcat hisR ?_
  intro p e s m args below meth c s₁ Bd hml0 hP hK
  obtain ⟨rfl, hZ, hh⟩ := hP
  have hx := Bd.exec
  have hby := Bd.bytes
  have hlk := BodyLoose.notSynchronized Bd
  have hml : c.maxLocals = 2 := hml0
  have hown : s.vm.findClass "java/lang/StringLatin1" = some m.cls := findClass_of_methodNamed Bd.named
  have hnm := (name_of_methodNamed Bd.named Bd.method).1
  have X0 : Stand p l e ({ frames := 2, cells := 0, slots := 0, locals := 28 } : Room) s m #[(.ref b1), (.int x)] below meth c s₁ [] 0 0 := Stand.of_body Bd
  have e0 : s₁.heap = h0 := by rw [← hh, Bd.state]; rfl
  have N0 := Fr.nil Z.heap.size
  have K0 : Keep h0 h0 [] := Keep.refl _ _
  refine own_start (Q := Q_own_lcat Z b1 k1 cs1 x i fm h0) (ef_own_lcat m (b1) (x)) ?_
  show own_G p e below (s₁.setTop (mkF m 0 #[.val (.ref b1), .val (.int x)] [])) _
  refine own_go (fun t k => XS.iloadN X0.here hx rfl (hb hby d_jdk_43_method_2_code_0) rfl k) ?_
  refine own_go (fun t k => XS.aloadN X0.here hx rfl (hb hby d_jdk_43_method_2_code_1) rfl rfl k) ?_
  refine own_go (own_len X0 hx hZ e0 q0 (z := (Int32.ofNat cs1.length)) (by rw [own_cv_len]; exact own_ofN (by omega)) (g := (mkF m 2 #[.val (.ref b1), .val (.int x)] [(.ref b1), (.int x)])) rfl rfl (hb hby d_jdk_43_method_2_code_2)) ?_
  show own_G p e below (s₁.setTop (mkF m 3 #[.val (.ref b1), .val (.int x)] [(.int (Int32.ofNat cs1.length)), (.int x)])) _
  obtain ⟨_, _, ⟨T1z, L1z, k1z, n1z⟩, -, X1z, ⟨Lc1z, hQ1z, l1z, y1z, z1z⟩, st1z⟩ := Jvm.LawKit.callS X0 hx (y := own_m30) hown (own_mw hZ hw 228 rfl) (own_mw hZ hw 229 rfl) (own_mw hZ hw 36 rfl) (own_mw hZ hw 230 rfl) (by decide) (backOf (W := 0) (own_sci l Z a0 hw [] x (Int32.ofNat cs1.length) fm h0 O0 S_FM hfm (own_nnI hxx) ((own_lt32 hxx (by omega)).mpr hlt)) hZ (own_hw hw 230 rfl) (own_hw hw 36 rfl) (by decide) (by decide)) (g := (mkF m 3 #[.val (.ref b1), .val (.int x)] [(.int (Int32.ofNat cs1.length)), (.int x)])) rfl (by rw [hml]; rfl) (argsL := [(.int x), (.int (Int32.ofNat cs1.length))]) (rest := []) (lenOf pd_184293406 rfl) rfl (by show 2 * 0 + _ ≤ _; exact Nat.le_of_eq rfl) (hb hby d_jdk_43_method_2_code_3) (fun _ _ => ⟨rfl, e0, (by decide : 0 + 0 ≤ _), (by decide : 0 + 0 ≤ _)⟩)
  dsimp only [Pt.U, Pt.locs, Pt.cells, Pt.slots] at X1z l1z y1z z1z st1z hQ1z
  subst l1z y1z z1z
  obtain ⟨rfl, NQ1z, K1zq⟩ := hQ1z
  refine own_go st1z ?_
  have N1z := Fr.app N0 NQ1z
  show own_G p e below (T1z.setTop (mkF m 6 #[.val (.ref b1), .val (.int x)] [])) _
  refine own_go (fun t k => XS.aloadN X1z.here hx rfl (hb hby d_jdk_43_method_2_code_6) rfl rfl k) ?_
  refine own_go (fun t k => XS.iloadN X1z.here hx rfl (hb hby d_jdk_43_method_2_code_7) rfl k) ?_
  refine own_go (own_ldB X1z hx hZ K1zq q0 (i := i) (v := (.int (cs1.getD i 0))) hxx (own_cv_get hlt) (g := (mkF m 8 #[.val (.ref b1), .val (.int x)] [(.int x), (.ref b1)])) rfl rfl (hb hby d_jdk_43_method_2_code_8)) ?_
  show own_G p e below (T1z.setTop (mkF m 9 #[.val (.ref b1), .val (.int x)] [(.int (cs1.getD i 0))])) _
  refine own_go (fun t k => XS.sipush X1z.here hx rfl (hb hby d_jdk_43_method_2_code_9) k) ?_
  refine own_go (fun t k => XS.iand X1z.here hx rfl (hb hby d_jdk_43_method_2_code_12) rfl k) ?_
  refine own_go (fun t k => XS.i2c X1z.here hx rfl (hb hby d_jdk_43_method_2_code_13) rfl k) ?_
  show own_G p e below (T1z.setTop (mkF m 14 #[.val (.ref b1), .val (.int x)] [(.int ((((cs1.getD i 0) &&& (255 : Int32))).toUInt32.toUInt16.toUInt32.toInt32))])) _
  exact own_ret X1z hx Bd.returns (own_nrC _) (Or.inl ⟨rfl, Or.inr (Or.inr (Or.inr (Or.inl rfl))), _, rfl⟩) (hb hby d_jdk_43_method_2_code_14) hlk (Nat.le_of_ble_eq_true rfl) (Nat.le_of_ble_eq_true rfl) (by show Q_own_lcat Z b1 k1 cs1 x i fm h0 _ T1z.heap _; rw [K1zq]; exact ⟨(congrArg (fun z => some (Value.int z)) (own_asc255 (hasc1 _ (own_getD_mem hlt)))), N1z, rfl⟩)
theorem ef_own_chat (m : MethodId) (x0 : Addr) (x1 : Int32) : entryFrame m #[(.ref x0), (.int x1)] 2 = mkF m 0 #[.val (.ref x0), .val (.int x1)] [] := by first | (simp [entryFrame, mkF, argsToLocals, Value.category]; done) | rfl
theorem pf_own_chat : plainFor own_m33 = true := plainFor_of_name (by simp [plainName, overriddenIn])
theorem pd_1807843551 : parseMethodDescriptor "([BI)C" = some ⟨[(.array .byte), .int], some .char⟩ := by decide +kernel
theorem d_jdk_42_method_56_code_0 : decode jdk_42_method_56_code 0 = .ok (.aload_n 0, 1) := by decide +kernel
theorem d_jdk_42_method_56_code_1 : decode jdk_42_method_56_code 1 = .ok (.invokevirtual 492, 3) := by decide +kernel
theorem d_jdk_42_method_56_code_11 : decode jdk_42_method_56_code 11 = .ok (.iload_n 1, 1) := by decide +kernel
theorem d_jdk_42_method_56_code_12 : decode jdk_42_method_56_code 12 = .ok (.invokestatic 495, 3) := by decide +kernel
theorem d_jdk_42_method_56_code_15 : decode jdk_42_method_56_code 15 = .ok (.ireturn, 1) := by decide +kernel
theorem d_jdk_42_method_56_code_4 : decode jdk_42_method_56_code 4 = .ok (.ifCond .eq 12, 3) := by decide +kernel
theorem d_jdk_42_method_56_code_7 : decode jdk_42_method_56_code 7 = .ok (.aload_n 0, 1) := by decide +kernel
theorem d_jdk_42_method_56_code_8 : decode jdk_42_method_56_code 8 = .ok (.getfield 9, 3) := by decide +kernel
def Q_own_chat (Z : State) (a1 : Addr) (b1 : Addr) (k1 : ClassId) (cs1 : (List Int32)) (x : Int32) (i : Nat) (cz : Int32) (fm : Value) (h0 : Heap) (v : Option Value) (h : Heap) (L : List Loc) : Prop := v = some (.int (cs1.getD i 0)) ∧ Fr Z.heap.size L ∧ h = h0
set_option maxRecDepth 65536 in
set_option maxHeartbeats 40000000 in
theorem own_chat (l : Launch) (Z : State) (a0 : Array Value) (hw : ∀ d ∈ tables_1, d.before a0 Z = true) (ws : List Jvm.Cond) (a1 : Addr) (b1 : Addr) (k1 : ClassId) (cs1 : (List Int32)) (x : Int32) (i : Nat) (cz : Int32) (fm : Value) (h0 : Heap) (O0 : Ext Z.heap h0) (q0 : Exa Z h0 a1 own_s2) (q1 : Fld Z h0 a1 own_s2 "value" "[B" (.ref b1)) (q2 : Fld Z h0 a1 own_s2 "coder" "B" (.int (0 : Int32))) (q3 : own_A Z h0 b1 k1 .byte (own_cv cs1)) (hl1 : cs1.length ≤ 200) (hasc1 : own_asc cs1) (hxx : x.toInt = (i : Int)) (hlt : i < cs1.length) (S_CS : Sta Z Z.heap own_s2 own_s5 "Z" (.int cz)) (hcs : ¬ (cz = (0 : Int32))) (S_FM : Sta Z Z.heap own_s6 "SIOOBE_FORMATTER" "Ljava/util/function/BiFunction;" fm) (hfm : fm.isRef = true) :
    MetFree l own_m33 (head1 (Jvm.Cond.code own_m33 jdk_42_method_56_code 2 (some .char) :: ws) ({ frames := 3, cells := 0, slots := 0, locals := 44 } : Room)) (fun aa U => aa = #[(.ref a1), (.int x)] ∧ Z.Warmed39 U.vm ∧ U.heap = h0) (fun _ _ _ _ _ => True) (fun _ U o U' => ∃ v L, o = .returned v ∧ Q_own_chat Z a1 b1 k1 cs1 x i cz fm h0 v U'.heap L ∧ FrameEnd U o U' L ({ frames := 3, cells := 0, slots := 0, locals := 44 } : Room).cells ({ frames := 3, cells := 0, slots := 0, locals := 44 } : Room).slots) := by
  refine MetFree.of_bodySF pf_own_chat hisR ?_
  intro p e s m args below meth c s₁ Bd hml0 hP hK
  obtain ⟨rfl, hZ, hh⟩ := hP
  have hx := Bd.exec
  have hby := Bd.bytes
  have hlk := BodyLoose.notSynchronized Bd
  have hml : c.maxLocals = 2 := hml0
  have hown : s.vm.findClass own_s2 = some m.cls := findClass_of_methodNamed Bd.named
  have hnm := (name_of_methodNamed Bd.named Bd.method).1
  have X0 : Stand p l e ({ frames := 3, cells := 0, slots := 0, locals := 44 } : Room) s m #[(.ref a1), (.int x)] below meth c s₁ [] 0 0 := Stand.of_body Bd
  have e0 : s₁.heap = h0 := by rw [← hh, Bd.state]; rfl
  have N0 := Fr.nil Z.heap.size
  have K0 : Keep h0 h0 [] := Keep.refl _ _
  refine own_start (Q := Q_own_chat Z a1 b1 k1 cs1 x i cz fm h0) (ef_own_chat m (a1) (x)) ?_
  show own_G p e below (s₁.setTop (mkF m 0 #[.val (.ref a1), .val (.int x)] [])) _
  refine own_go (fun t k => XS.aloadN X0.here hx rfl (hb hby d_jdk_42_method_56_code_0) rfl rfl k) ?_
  obtain ⟨cq1z, kq1z, qa1z, qb1z, qc1z⟩ := isOf hZ e0 q0
  obtain ⟨_, _, ⟨T1z, L1z, k1z, n1z⟩, -, X1z, ⟨Lc1z, hQ1z, l1z, y1z, z1z⟩, st1z⟩ := X0.virtualBack hx (y := own_m31) (z := own_m31) hown (own_mw hZ hw 219 rfl) (own_mw hZ hw 220 rfl) (notFace_of_selects (args := #[]) (own_mw hZ hw 222 rfl)) (own_mw hZ hw 222 rfl) (own_mw hZ hw 221 rfl) (by decide) (backOf (W := 0) (own_l1s l Z a0 hw [] a1 b1 k1 cs1 cz h0 O0 q0 q1 q2 q3 hl1 S_CS hcs) hZ (own_hw hw 223 rfl) (own_hw hw 36 rfl) (by decide) (by decide)) qa1z qc1z (g := (mkF m 1 #[.val (.ref a1), .val (.int x)] [(.ref a1)])) rfl (by rw [hml]; rfl) (Steps.refl _) (argsL := []) (rest := []) (lenOf pd_193422000 rfl) rfl (by show 2 * 0 + _ ≤ _; exact Nat.le_of_eq rfl) (hb hby d_jdk_42_method_56_code_1) (fun _ _ => ⟨rfl, e0, (by decide : 0 + 0 ≤ _), (by decide : 0 + 0 ≤ _)⟩)
  dsimp only [Pt.U, Pt.locs, Pt.cells, Pt.slots] at X1z l1z y1z z1z st1z hQ1z
  subst l1z y1z z1z
  obtain ⟨rfl, NQ1z, K1zq⟩ := hQ1z
  refine own_tr st1z ?_
  have N1z := Fr.app N0 NQ1z
  show own_G p e below (T1z.setTop (mkF m 4 #[.val (.ref a1), .val (.int x)] [(.int (1 : Int32))])) _
  refine own_go (fun t k => XS.ifNo X1z.here hx rfl (hb hby d_jdk_42_method_56_code_4) rfl ((if0 _ _).trans (feq (by decide : ¬ ((1 : Int32) = (0 : Int32)))).1) k) ?_
  show own_G p e below (T1z.setTop (mkF m 7 #[.val (.ref a1), .val (.int x)] [])) _
  refine own_go (fun t k => XS.aloadN X1z.here hx rfl (hb hby d_jdk_42_method_56_code_7) rfl rfl k) ?_
  obtain ⟨T2z, X2z, e2z, st2z⟩ := getF X1z hx hZ hown (host := "") (Or.inl (own_hw hw 63 rfl)) Via.refl K1zq q1 (g := (mkF m 8 #[.val (.ref a1), .val (.int x)] [(.ref a1)])) rfl rfl (hb hby d_jdk_42_method_56_code_8)
  refine own_go st2z ?_
  refine own_go (fun t k => XS.iloadN X2z.here hx rfl (hb hby d_jdk_42_method_56_code_11) rfl k) ?_
  show own_G p e below (T2z.setTop (mkF m 12 #[.val (.ref a1), .val (.int x)] [(.int x), (.ref b1)])) _
  obtain ⟨_, _, ⟨T3z, L3z, k3z, n3z⟩, -, X3z, ⟨Lc3z, hQ3z, l3z, y3z, z3z⟩, st3z⟩ := Jvm.LawKit.callS X2z hx (y := own_m32) hown (own_mw hZ hw 224 rfl) (own_mw hZ hw 225 rfl) (own_mw hZ hw 226 rfl) (own_mw hZ hw 227 rfl) (by decide) (backOf (W := 0) (own_lcat l Z a0 hw [] b1 k1 cs1 x i fm h0 O0 q3 hl1 hasc1 hxx hlt S_FM hfm) hZ (own_hw hw 227 rfl) (own_hw hw 226 rfl) (by decide) (by decide)) (g := (mkF m 12 #[.val (.ref a1), .val (.int x)] [(.int x), (.ref b1)])) rfl (by rw [hml]; rfl) (argsL := [(.ref b1), (.int x)]) (rest := []) (lenOf pd_1807843551 rfl) rfl (by show 2 * 0 + _ ≤ _; exact Nat.le_of_eq rfl) (hb hby d_jdk_42_method_56_code_12) (fun _ _ => ⟨rfl, e2z, (by decide : 0 + 0 ≤ _), (by decide : 0 + 0 ≤ _)⟩)
  dsimp only [Pt.U, Pt.locs, Pt.cells, Pt.slots] at X3z l3z y3z z3z st3z hQ3z
  subst l3z y3z z3z
  obtain ⟨rfl, NQ3z, K3zq⟩ := hQ3z
  refine own_go st3z ?_
  have N3z := Fr.app N1z NQ3z
  show own_G p e below (T3z.setTop (mkF m 15 #[.val (.ref a1), .val (.int x)] [(.int (cs1.getD i 0))])) _
  exact own_ret X3z hx Bd.returns (own_nrA (hasc1 _ (own_getD_mem hlt))) (Or.inl ⟨rfl, Or.inr (Or.inr (Or.inr (Or.inl rfl))), _, rfl⟩) (hb hby d_jdk_42_method_56_code_15) hlk (Nat.le_of_ble_eq_true rfl) (Nat.le_of_ble_eq_true rfl) (by show Q_own_chat Z a1 b1 k1 cs1 x i cz fm h0 _ T3z.heap _; rw [K3zq]; exact ⟨rfl, N3z, rfl⟩)
theorem ef_own_litc (m : MethodId) (x0 : Addr) (x1 : Int32) (x2 : Addr) (x3 : Int32) : entryFrame m #[(.ref x0), (.int x1), (.ref x2), (.int x3)] 4 = mkF m 0 #[.val (.ref x0), .val (.int x1), .val (.ref x2), .val (.int x3)] [] := by first | (simp [entryFrame, mkF, argsToLocals, Value.category]; done) | rfl
theorem pf_own_litc : plainFor own_m34 = true := plainFor_of_name (by simp [plainName, overriddenIn])
theorem pd_2087992002 : parseMethodDescriptor "(I)C" = some ⟨[.int], some .char⟩ := by decide +kernel
theorem d_method_4_code_0 : decode method_4_code 0 = .ok (.iload_n 3, 1) := by decide +kernel
theorem d_method_4_code_1 : decode method_4_code 1 = .ok (.aload_n 2, 1) := by decide +kernel
theorem d_method_4_code_10 : decode method_4_code 10 = .ok (.iload_n 3, 1) := by decide +kernel
theorem d_method_4_code_11 : decode method_4_code 11 = .ok (.iadd, 1) := by decide +kernel
theorem d_method_4_code_12 : decode method_4_code 12 = .ok (.invokevirtual 44, 3) := by decide +kernel
theorem d_method_4_code_15 : decode method_4_code 15 = .ok (.aload_n 2, 1) := by decide +kernel
theorem d_method_4_code_16 : decode method_4_code 16 = .ok (.iload_n 3, 1) := by decide +kernel
theorem d_method_4_code_17 : decode method_4_code 17 = .ok (.invokevirtual 44, 3) := by decide +kernel
theorem d_method_4_code_2 : decode method_4_code 2 = .ok (.invokevirtual 34, 3) := by decide +kernel
theorem d_method_4_code_20 : decode method_4_code 20 = .ok (.if_icmp .ne 7, 3) := by decide +kernel
theorem d_method_4_code_23 : decode method_4_code 23 = .ok (.iconst 1, 1) := by decide +kernel
theorem d_method_4_code_24 : decode method_4_code 24 = .ok (.goto 4, 3) := by decide +kernel
theorem d_method_4_code_28 : decode method_4_code 28 = .ok (.ireturn, 1) := by decide +kernel
theorem d_method_4_code_5 : decode method_4_code 5 = .ok (.if_icmp .ge 18, 3) := by decide +kernel
theorem d_method_4_code_8 : decode method_4_code 8 = .ok (.aload_n 0, 1) := by decide +kernel
theorem d_method_4_code_9 : decode method_4_code 9 = .ok (.iload_n 1, 1) := by decide +kernel
def Q_own_litc (Z : State) (a1 : Addr) (b1 : Addr) (k1 : ClassId) (cs1 : (List Int32)) (pn : Nat) (a2 : Addr) (b2 : Addr) (k2 : ClassId) (cs2 : (List Int32)) (x : Int32) (ii : Nat) (cz : Int32) (fm : Value) (h0 : Heap) (v : Option Value) (h : Heap) (L : List Loc) : Prop := v = some (.int (1 : Int32)) ∧ Fr Z.heap.size L ∧ h = h0
set_option maxRecDepth 65536 in
set_option maxHeartbeats 40000000 in
theorem own_litc (l : Launch) (Z : State) (a0 : Array Value) (hw : ∀ d ∈ tables_1, d.before a0 Z = true) (ws : List Jvm.Cond) (a1 : Addr) (b1 : Addr) (k1 : ClassId) (cs1 : (List Int32)) (pn : Nat) (a2 : Addr) (b2 : Addr) (k2 : ClassId) (cs2 : (List Int32)) (x : Int32) (ii : Nat) (cz : Int32) (fm : Value) (h0 : Heap) (O0 : Ext Z.heap h0) (q0 : Exa Z h0 a1 own_s2) (q1 : Fld Z h0 a1 own_s2 "value" "[B" (.ref b1)) (q2 : Fld Z h0 a1 own_s2 "coder" "B" (.int (0 : Int32))) (q3 : own_A Z h0 b1 k1 .byte (own_cv cs1)) (hl1 : cs1.length ≤ 200) (q5 : Exa Z h0 a2 own_s2) (q6 : Fld Z h0 a2 own_s2 "value" "[B" (.ref b2)) (q7 : Fld Z h0 a2 own_s2 "coder" "B" (.int (0 : Int32))) (q8 : own_A Z h0 b2 k2 .byte (own_cv cs2)) (hl2 : cs2.length ≤ 200) (hasc1 : own_asc cs1) (hasc2 : own_asc cs2) (hxi : x.toInt = (ii : Int)) (hpl : pn + cs2.length ≤ cs1.length) (hm : own_M cs1 cs2 pn) (S_CS : Sta Z Z.heap own_s2 own_s5 "Z" (.int cz)) (hcs : ¬ (cz = (0 : Int32))) (S_FM : Sta Z Z.heap own_s6 "SIOOBE_FORMATTER" "Ljava/util/function/BiFunction;" fm) (hfm : fm.isRef = true) :
    MetFree l own_m34 (head1 (Jvm.Cond.code own_m34 method_4_code 4 (some .boolean) :: ws) ({ frames := 4, cells := 0, slots := 0, locals := 66 } : Room)) (fun aa U => aa = #[(.ref a1), (.int (Int32.ofNat pn)), (.ref a2), (.int x)] ∧ Z.Warmed39 U.vm ∧ U.heap = h0) (fun _ _ _ _ _ => True) (fun _ U o U' => ∃ v L, o = .returned v ∧ Q_own_litc Z a1 b1 k1 cs1 pn a2 b2 k2 cs2 x ii cz fm h0 v U'.heap L ∧ FrameEnd U o U' L ({ frames := 4, cells := 0, slots := 0, locals := 66 } : Room).cells ({ frames := 4, cells := 0, slots := 0, locals := 66 } : Room).slots) := by
  refine MetFree.of_bodySF pf_own_litc hisR ?_
  intro p e s m args below meth c s₁ Bd hml0 hP hK
  obtain ⟨rfl, hZ, hh⟩ := hP
  have hx := Bd.exec
  have hby := Bd.bytes
  have hlk := BodyLoose.notSynchronized Bd
  have hml : c.maxLocals = 4 := hml0
  have hown : s.vm.findClass own_s4 = some m.cls := findClass_of_methodNamed Bd.named
  have hnm := (name_of_methodNamed Bd.named Bd.method).1
  have X0 : Stand p l e ({ frames := 4, cells := 0, slots := 0, locals := 66 } : Room) s m #[(.ref a1), (.int (Int32.ofNat pn)), (.ref a2), (.int x)] below meth c s₁ [] 0 0 := Stand.of_body Bd
  have e0 : s₁.heap = h0 := by rw [← hh, Bd.state]; rfl
  have N0 := Fr.nil Z.heap.size
  have K0 : Keep h0 h0 [] := Keep.refl _ _
  refine own_start (Q := Q_own_litc Z a1 b1 k1 cs1 pn a2 b2 k2 cs2 x ii cz fm h0) (ef_own_litc m (a1) ((Int32.ofNat pn)) (a2) (x)) ?_
  show own_G p e below (s₁.setTop (mkF m 0 #[.val (.ref a1), .val (.int (Int32.ofNat pn)), .val (.ref a2), .val (.int x)] [])) _
  refine own_go (fun t k => XS.iloadN X0.here hx rfl (hb hby d_method_4_code_0) rfl k) ?_
  refine own_go (fun t k => XS.aloadN X0.here hx rfl (hb hby d_method_4_code_1) rfl rfl k) ?_
  obtain ⟨cq1z, kq1z, qa1z, qb1z, qc1z⟩ := isOf hZ e0 q5
  obtain ⟨_, _, ⟨T1z, L1z, k1z, n1z⟩, -, X1z, ⟨Lc1z, hQ1z, l1z, y1z, z1z⟩, st1z⟩ := X0.virtualBack hx (y := own_m7) (z := own_m7) hown (own_mw hZ hw 210 rfl) (own_mw hZ hw 59 rfl) (notFace_of_selects (args := #[]) (own_mw hZ hw 61 rfl)) (own_mw hZ hw 61 rfl) (own_mw hZ hw 60 rfl) (by decide) (backOf (W := 1) (own_slen l Z a0 hw [] a2 b2 k2 cs2 cz h0 O0 q5 q6 q7 q8 hl2 S_CS hcs) hZ (own_hw hw 62 rfl) (own_hw hw 36 rfl) (by decide) (by decide)) qa1z qc1z (g := (mkF m 2 #[.val (.ref a1), .val (.int (Int32.ofNat pn)), .val (.ref a2), .val (.int x)] [(.ref a2), (.int x)])) rfl (by rw [hml]; rfl) (Steps.refl _) (argsL := []) (rest := [(.int x)]) (lenOf pd_193421983 rfl) rfl (by show 2 * 0 + _ ≤ _; exact Nat.le_of_eq rfl) (hb hby d_method_4_code_2) (fun _ _ => ⟨rfl, e0, (by decide : 0 + 0 ≤ _), (by decide : 0 + 0 ≤ _)⟩)
  dsimp only [Pt.U, Pt.locs, Pt.cells, Pt.slots] at X1z l1z y1z z1z st1z hQ1z
  subst l1z y1z z1z
  obtain ⟨rfl, NQ1z, K1zq⟩ := hQ1z
  refine own_tr st1z ?_
  have N1z := Fr.app N0 NQ1z
  show own_G p e below (T1z.setTop (mkF m 5 #[.val (.ref a1), .val (.int (Int32.ofNat pn)), .val (.ref a2), .val (.int x)] [(.int (Int32.ofNat cs2.length)), (.int x)])) _
  by_cases hc2z : x < (Int32.ofNat cs2.length)
  · refine own_go (fun t k => XS.icmpNo X1z.here hx rfl (hb hby d_method_4_code_5) rfl (tlt hc2z).2.1 k) ?_
    show own_G p e below (T1z.setTop (mkF m 8 #[.val (.ref a1), .val (.int (Int32.ofNat pn)), .val (.ref a2), .val (.int x)] [])) _
    refine own_go (fun t k => XS.aloadN X1z.here hx rfl (hb hby d_method_4_code_8) rfl rfl k) ?_
    refine own_go (fun t k => XS.iloadN X1z.here hx rfl (hb hby d_method_4_code_9) rfl k) ?_
    refine own_go (fun t k => XS.iloadN X1z.here hx rfl (hb hby d_method_4_code_10) rfl k) ?_
    show own_G p e below (T1z.setTop (mkF m 11 #[.val (.ref a1), .val (.int (Int32.ofNat pn)), .val (.ref a2), .val (.int x)] [(.int x), (.int (Int32.ofNat pn)), (.ref a1)])) _
    refine own_go (fun t k => XS.iadd X1z.here hx rfl (hb hby d_method_4_code_11) rfl k) ?_
    obtain ⟨cq3z, kq3z, qa3z, qb3z, qc3z⟩ := isOf hZ K1zq q0
    obtain ⟨_, _, ⟨T3z, L3z, k3z, n3z⟩, -, X3z, ⟨Lc3z, hQ3z, l3z, y3z, z3z⟩, st3z⟩ := X1z.virtualBack hx (y := own_m33) (z := own_m33) hown (own_mw hZ hw 214 rfl) (own_mw hZ hw 215 rfl) (notFace_of_selects (args := #[]) (own_mw hZ hw 217 rfl)) (own_mw hZ hw 217 rfl) (own_mw hZ hw 216 rfl) (by decide) (backOf (W := 0) (own_chat l Z a0 hw [] a1 b1 k1 cs1 ((Int32.ofNat pn) + x) (pn + ii) cz fm h0 O0 q0 q1 q2 q3 hl1 hasc1 (own_addI hxi (by have := ((own_lt32 hxi (by omega)).mp hc2z); omega)) (by have := ((own_lt32 hxi (by omega)).mp hc2z); omega) S_CS hcs S_FM hfm) hZ (own_hw hw 218 rfl) (own_hw hw 36 rfl) (by decide) (by decide)) qa3z qc3z (g := (mkF m 12 #[.val (.ref a1), .val (.int (Int32.ofNat pn)), .val (.ref a2), .val (.int x)] [(.int ((Int32.ofNat pn) + x)), (.ref a1)])) rfl (by rw [hml]; rfl) (Steps.refl _) (argsL := [(.int ((Int32.ofNat pn) + x))]) (rest := []) (lenOf pd_2087992002 rfl) rfl (by show 2 * 0 + _ ≤ _; exact Nat.le_of_eq rfl) (hb hby d_method_4_code_12) (fun _ _ => ⟨rfl, K1zq, (by decide : 0 + 0 ≤ _), (by decide : 0 + 0 ≤ _)⟩)
    dsimp only [Pt.U, Pt.locs, Pt.cells, Pt.slots] at X3z l3z y3z z3z st3z hQ3z
    subst l3z y3z z3z
    obtain ⟨rfl, NQ3z, K3zq⟩ := hQ3z
    refine own_tr st3z ?_
    have N3z := Fr.app N1z NQ3z
    show own_G p e below (T3z.setTop (mkF m 15 #[.val (.ref a1), .val (.int (Int32.ofNat pn)), .val (.ref a2), .val (.int x)] [(.int (cs1.getD (pn + ii) 0))])) _
    refine own_go (fun t k => XS.aloadN X3z.here hx rfl (hb hby d_method_4_code_15) rfl rfl k) ?_
    refine own_go (fun t k => XS.iloadN X3z.here hx rfl (hb hby d_method_4_code_16) rfl k) ?_
    obtain ⟨cq4z, kq4z, qa4z, qb4z, qc4z⟩ := isOf hZ K3zq q5
    obtain ⟨_, _, ⟨T4z, L4z, k4z, n4z⟩, -, X4z, ⟨Lc4z, hQ4z, l4z, y4z, z4z⟩, st4z⟩ := X3z.virtualBack hx (y := own_m33) (z := own_m33) hown (own_mw hZ hw 214 rfl) (own_mw hZ hw 215 rfl) (notFace_of_selects (args := #[]) (own_mw hZ hw 217 rfl)) (own_mw hZ hw 217 rfl) (own_mw hZ hw 216 rfl) (by decide) (backOf (W := 1) (own_chat l Z a0 hw [] a2 b2 k2 cs2 x ii cz fm h0 O0 q5 q6 q7 q8 hl2 hasc2 hxi ((own_lt32 hxi (by omega)).mp hc2z) S_CS hcs S_FM hfm) hZ (own_hw hw 218 rfl) (own_hw hw 36 rfl) (by decide) (by decide)) qa4z qc4z (g := (mkF m 17 #[.val (.ref a1), .val (.int (Int32.ofNat pn)), .val (.ref a2), .val (.int x)] [(.int x), (.ref a2), (.int (cs1.getD (pn + ii) 0))])) rfl (by rw [hml]; rfl) (Steps.refl _) (argsL := [(.int x)]) (rest := [(.int (cs1.getD (pn + ii) 0))]) (lenOf pd_2087992002 rfl) rfl (by show 2 * 0 + _ ≤ _; exact Nat.le_of_eq rfl) (hb hby d_method_4_code_17) (fun _ _ => ⟨rfl, K3zq, (by decide : 0 + 0 ≤ _), (by decide : 0 + 0 ≤ _)⟩)
    dsimp only [Pt.U, Pt.locs, Pt.cells, Pt.slots] at X4z l4z y4z z4z st4z hQ4z
    subst l4z y4z z4z
    obtain ⟨rfl, NQ4z, K4zq⟩ := hQ4z
    refine own_tr st4z ?_
    have N4z := Fr.app N3z NQ4z
    show own_G p e below (T4z.setTop (mkF m 20 #[.val (.ref a1), .val (.int (Int32.ofNat pn)), .val (.ref a2), .val (.int x)] [(.int (cs2.getD ii 0)), (.int (cs1.getD (pn + ii) 0))])) _
    refine own_go (fun t k => XS.icmpNo X4z.here hx rfl (hb hby d_method_4_code_20) rfl (teq (hm ii ((own_lt32 hxi (by omega)).mp hc2z))).2 k) ?_
    show own_G p e below (T4z.setTop (mkF m 23 #[.val (.ref a1), .val (.int (Int32.ofNat pn)), .val (.ref a2), .val (.int x)] [])) _
    refine own_go (fun t k => XS.iconst X4z.here hx rfl (hb hby d_method_4_code_23) k) ?_
    refine own_go (fun t k => XS.goto X4z.here hx rfl (pc0 := 24) (pc' := 28) rfl (hb hby d_method_4_code_24) (by decide) (by decide) k) ?_
    show own_G p e below (T4z.setTop (mkF m 28 #[.val (.ref a1), .val (.int (Int32.ofNat pn)), .val (.ref a2), .val (.int x)] [(.int (1 : Int32))])) _
    exact own_ret X4z hx Bd.returns rfl (Or.inl ⟨rfl, Or.inr (Or.inl rfl), _, rfl⟩) (hb hby d_method_4_code_28) hlk (Nat.le_of_ble_eq_true rfl) (Nat.le_of_ble_eq_true rfl) (by show Q_own_litc Z a1 b1 k1 cs1 pn a2 b2 k2 cs2 x ii cz fm h0 _ T4z.heap _; rw [K4zq]; exact ⟨rfl, N4z, rfl⟩)
  · refine own_go (fun t k => XS.icmpYes X1z.here hx rfl (pc0 := 5) (pc' := 23) rfl (hb hby d_method_4_code_5) rfl (flt hc2z).2.1 (by decide) (by decide) k) ?_
    show own_G p e below (T1z.setTop (mkF m 23 #[.val (.ref a1), .val (.int (Int32.ofNat pn)), .val (.ref a2), .val (.int x)] [])) _
    refine own_go (fun t k => XS.iconst X1z.here hx rfl (hb hby d_method_4_code_23) k) ?_
    refine own_go (fun t k => XS.goto X1z.here hx rfl (pc0 := 24) (pc' := 28) rfl (hb hby d_method_4_code_24) (by decide) (by decide) k) ?_
    show own_G p e below (T1z.setTop (mkF m 28 #[.val (.ref a1), .val (.int (Int32.ofNat pn)), .val (.ref a2), .val (.int x)] [(.int (1 : Int32))])) _
    exact own_ret X1z hx Bd.returns rfl (Or.inl ⟨rfl, Or.inr (Or.inl rfl), _, rfl⟩) (hb hby d_method_4_code_28) hlk (Nat.le_of_ble_eq_true rfl) (Nat.le_of_ble_eq_true rfl) (by show Q_own_litc Z a1 b1 k1 cs1 pn a2 b2 k2 cs2 x ii cz fm h0 _ T1z.heap _; rw [K1zq]; exact ⟨rfl, N1z, rfl⟩)
theorem ef_own_lit (m : MethodId) (x0 : Addr) (x1 : Int32) (x2 : Addr) : entryFrame m #[(.ref x0), (.int x1), (.ref x2)] 4 = mkF m 0 #[.val (.ref x0), .val (.int x1), .val (.ref x2), .unset] [] := by first | (simp [entryFrame, mkF, argsToLocals, Value.category]; done) | rfl
theorem pf_own_lit : plainFor own_m35 = true := plainFor_of_name (by simp [plainName, overriddenIn])
theorem pd_731350626 : parseMethodDescriptor "(Ljava/lang/String;ILjava/lang/String;I)Z" = some ⟨[(.object "java/lang/String"), .int, (.object "java/lang/String"), .int], some .boolean⟩ := by decide +kernel
theorem d_method_3_code_0 : decode method_3_code 0 = .ok (.iload_n 1, 1) := by decide +kernel
theorem d_method_3_code_1 : decode method_3_code 1 = .ok (.ifCond .lt 16, 3) := by decide +kernel
theorem d_method_3_code_10 : decode method_3_code 10 = .ok (.aload_n 0, 1) := by decide +kernel
theorem d_method_3_code_101 : decode method_3_code 101 = .ok (.aload_n 0, 1) := by decide +kernel
theorem d_method_3_code_102 : decode method_3_code 102 = .ok (.iload_n 1, 1) := by decide +kernel
theorem d_method_3_code_103 : decode method_3_code 103 = .ok (.aload_n 2, 1) := by decide +kernel
theorem d_method_3_code_104 : decode method_3_code 104 = .ok (.bipush 8, 2) := by decide +kernel
theorem d_method_3_code_106 : decode method_3_code 106 = .ok (.invokestatic 40, 3) := by decide +kernel
theorem d_method_3_code_109 : decode method_3_code 109 = .ok (.ifCond .eq 40, 3) := by decide +kernel
theorem d_method_3_code_11 : decode method_3_code 11 = .ok (.invokevirtual 34, 3) := by decide +kernel
theorem d_method_3_code_112 : decode method_3_code 112 = .ok (.aload_n 0, 1) := by decide +kernel
theorem d_method_3_code_113 : decode method_3_code 113 = .ok (.iload_n 1, 1) := by decide +kernel
theorem d_method_3_code_114 : decode method_3_code 114 = .ok (.aload_n 2, 1) := by decide +kernel
theorem d_method_3_code_115 : decode method_3_code 115 = .ok (.bipush 9, 2) := by decide +kernel
theorem d_method_3_code_117 : decode method_3_code 117 = .ok (.invokestatic 40, 3) := by decide +kernel
theorem d_method_3_code_120 : decode method_3_code 120 = .ok (.ifCond .eq 29, 3) := by decide +kernel
theorem d_method_3_code_123 : decode method_3_code 123 = .ok (.aload_n 0, 1) := by decide +kernel
theorem d_method_3_code_124 : decode method_3_code 124 = .ok (.iload_n 1, 1) := by decide +kernel
theorem d_method_3_code_125 : decode method_3_code 125 = .ok (.aload_n 2, 1) := by decide +kernel
theorem d_method_3_code_126 : decode method_3_code 126 = .ok (.bipush 10, 2) := by decide +kernel
theorem d_method_3_code_128 : decode method_3_code 128 = .ok (.invokestatic 40, 3) := by decide +kernel
theorem d_method_3_code_131 : decode method_3_code 131 = .ok (.ifCond .eq 18, 3) := by decide +kernel
theorem d_method_3_code_134 : decode method_3_code 134 = .ok (.aload_n 0, 1) := by decide +kernel
theorem d_method_3_code_135 : decode method_3_code 135 = .ok (.iload_n 1, 1) := by decide +kernel
theorem d_method_3_code_136 : decode method_3_code 136 = .ok (.aload_n 2, 1) := by decide +kernel
theorem d_method_3_code_137 : decode method_3_code 137 = .ok (.bipush 11, 2) := by decide +kernel
theorem d_method_3_code_139 : decode method_3_code 139 = .ok (.invokestatic 40, 3) := by decide +kernel
theorem d_method_3_code_14 : decode method_3_code 14 = .ok (.if_icmp .le 5, 3) := by decide +kernel
theorem d_method_3_code_142 : decode method_3_code 142 = .ok (.ifCond .eq 7, 3) := by decide +kernel
theorem d_method_3_code_145 : decode method_3_code 145 = .ok (.iconst 1, 1) := by decide +kernel
theorem d_method_3_code_146 : decode method_3_code 146 = .ok (.goto 4, 3) := by decide +kernel
theorem d_method_3_code_150 : decode method_3_code 150 = .ok (.istore_n 3, 1) := by decide +kernel
theorem d_method_3_code_151 : decode method_3_code 151 = .ok (.iload_n 3, 1) := by decide +kernel
theorem d_method_3_code_152 : decode method_3_code 152 = .ok (.ifCond .eq 12, 3) := by decide +kernel
theorem d_method_3_code_155 : decode method_3_code 155 = .ok (.iload_n 1, 1) := by decide +kernel
theorem d_method_3_code_156 : decode method_3_code 156 = .ok (.aload_n 2, 1) := by decide +kernel
theorem d_method_3_code_157 : decode method_3_code 157 = .ok (.invokevirtual 34, 3) := by decide +kernel
theorem d_method_3_code_160 : decode method_3_code 160 = .ok (.iadd, 1) := by decide +kernel
theorem d_method_3_code_161 : decode method_3_code 161 = .ok (.goto 4, 3) := by decide +kernel
theorem d_method_3_code_165 : decode method_3_code 165 = .ok (.ireturn, 1) := by decide +kernel
theorem d_method_3_code_19 : decode method_3_code 19 = .ok (.aload_n 0, 1) := by decide +kernel
theorem d_method_3_code_20 : decode method_3_code 20 = .ok (.iload_n 1, 1) := by decide +kernel
theorem d_method_3_code_21 : decode method_3_code 21 = .ok (.aload_n 2, 1) := by decide +kernel
theorem d_method_3_code_22 : decode method_3_code 22 = .ok (.iconst 0, 1) := by decide +kernel
theorem d_method_3_code_23 : decode method_3_code 23 = .ok (.invokestatic 40, 3) := by decide +kernel
theorem d_method_3_code_26 : decode method_3_code 26 = .ok (.ifCond .eq 123, 3) := by decide +kernel
theorem d_method_3_code_29 : decode method_3_code 29 = .ok (.aload_n 0, 1) := by decide +kernel
theorem d_method_3_code_30 : decode method_3_code 30 = .ok (.iload_n 1, 1) := by decide +kernel
theorem d_method_3_code_31 : decode method_3_code 31 = .ok (.aload_n 2, 1) := by decide +kernel
theorem d_method_3_code_32 : decode method_3_code 32 = .ok (.iconst 1, 1) := by decide +kernel
theorem d_method_3_code_33 : decode method_3_code 33 = .ok (.invokestatic 40, 3) := by decide +kernel
theorem d_method_3_code_36 : decode method_3_code 36 = .ok (.ifCond .eq 113, 3) := by decide +kernel
theorem d_method_3_code_39 : decode method_3_code 39 = .ok (.aload_n 0, 1) := by decide +kernel
theorem d_method_3_code_4 : decode method_3_code 4 = .ok (.iload_n 1, 1) := by decide +kernel
theorem d_method_3_code_40 : decode method_3_code 40 = .ok (.iload_n 1, 1) := by decide +kernel
theorem d_method_3_code_41 : decode method_3_code 41 = .ok (.aload_n 2, 1) := by decide +kernel
theorem d_method_3_code_42 : decode method_3_code 42 = .ok (.iconst 2, 1) := by decide +kernel
theorem d_method_3_code_43 : decode method_3_code 43 = .ok (.invokestatic 40, 3) := by decide +kernel
theorem d_method_3_code_46 : decode method_3_code 46 = .ok (.ifCond .eq 103, 3) := by decide +kernel
theorem d_method_3_code_49 : decode method_3_code 49 = .ok (.aload_n 0, 1) := by decide +kernel
theorem d_method_3_code_5 : decode method_3_code 5 = .ok (.aload_n 2, 1) := by decide +kernel
theorem d_method_3_code_50 : decode method_3_code 50 = .ok (.iload_n 1, 1) := by decide +kernel
theorem d_method_3_code_51 : decode method_3_code 51 = .ok (.aload_n 2, 1) := by decide +kernel
theorem d_method_3_code_52 : decode method_3_code 52 = .ok (.iconst 3, 1) := by decide +kernel
theorem d_method_3_code_53 : decode method_3_code 53 = .ok (.invokestatic 40, 3) := by decide +kernel
theorem d_method_3_code_56 : decode method_3_code 56 = .ok (.ifCond .eq 93, 3) := by decide +kernel
theorem d_method_3_code_59 : decode method_3_code 59 = .ok (.aload_n 0, 1) := by decide +kernel
theorem d_method_3_code_6 : decode method_3_code 6 = .ok (.invokevirtual 34, 3) := by decide +kernel
theorem d_method_3_code_60 : decode method_3_code 60 = .ok (.iload_n 1, 1) := by decide +kernel
theorem d_method_3_code_61 : decode method_3_code 61 = .ok (.aload_n 2, 1) := by decide +kernel
theorem d_method_3_code_62 : decode method_3_code 62 = .ok (.iconst 4, 1) := by decide +kernel
theorem d_method_3_code_63 : decode method_3_code 63 = .ok (.invokestatic 40, 3) := by decide +kernel
theorem d_method_3_code_66 : decode method_3_code 66 = .ok (.ifCond .eq 83, 3) := by decide +kernel
theorem d_method_3_code_69 : decode method_3_code 69 = .ok (.aload_n 0, 1) := by decide +kernel
theorem d_method_3_code_70 : decode method_3_code 70 = .ok (.iload_n 1, 1) := by decide +kernel
theorem d_method_3_code_71 : decode method_3_code 71 = .ok (.aload_n 2, 1) := by decide +kernel
theorem d_method_3_code_72 : decode method_3_code 72 = .ok (.iconst 5, 1) := by decide +kernel
theorem d_method_3_code_73 : decode method_3_code 73 = .ok (.invokestatic 40, 3) := by decide +kernel
theorem d_method_3_code_76 : decode method_3_code 76 = .ok (.ifCond .eq 73, 3) := by decide +kernel
theorem d_method_3_code_79 : decode method_3_code 79 = .ok (.aload_n 0, 1) := by decide +kernel
theorem d_method_3_code_80 : decode method_3_code 80 = .ok (.iload_n 1, 1) := by decide +kernel
theorem d_method_3_code_81 : decode method_3_code 81 = .ok (.aload_n 2, 1) := by decide +kernel
theorem d_method_3_code_82 : decode method_3_code 82 = .ok (.bipush 6, 2) := by decide +kernel
theorem d_method_3_code_84 : decode method_3_code 84 = .ok (.invokestatic 40, 3) := by decide +kernel
theorem d_method_3_code_87 : decode method_3_code 87 = .ok (.ifCond .eq 62, 3) := by decide +kernel
theorem d_method_3_code_9 : decode method_3_code 9 = .ok (.iadd, 1) := by decide +kernel
theorem d_method_3_code_90 : decode method_3_code 90 = .ok (.aload_n 0, 1) := by decide +kernel
theorem d_method_3_code_91 : decode method_3_code 91 = .ok (.iload_n 1, 1) := by decide +kernel
theorem d_method_3_code_92 : decode method_3_code 92 = .ok (.aload_n 2, 1) := by decide +kernel
theorem d_method_3_code_93 : decode method_3_code 93 = .ok (.bipush 7, 2) := by decide +kernel
theorem d_method_3_code_95 : decode method_3_code 95 = .ok (.invokestatic 40, 3) := by decide +kernel
theorem d_method_3_code_98 : decode method_3_code 98 = .ok (.ifCond .eq 51, 3) := by decide +kernel
def Q_own_lit (Z : State) (a1 : Addr) (b1 : Addr) (k1 : ClassId) (cs1 : (List Int32)) (pn : Nat) (a2 : Addr) (b2 : Addr) (k2 : ClassId) (cs2 : (List Int32)) (cz : Int32) (fm : Value) (h0 : Heap) (v : Option Value) (h : Heap) (L : List Loc) : Prop := v = some (.int (Int32.ofNat (pn + cs2.length))) ∧ Fr Z.heap.size L ∧ h = h0
set_option maxRecDepth 65536 in
set_option maxHeartbeats 40000000 in
theorem own_lit (l : Launch) (Z : State) (a0 : Array Value) (hw : ∀ d ∈ tables_1, d.before a0 Z = true) (ws : List Jvm.Cond) (a1 : Addr) (b1 : Addr) (k1 : ClassId) (cs1 : (List Int32)) (pn : Nat) (a2 : Addr) (b2 : Addr) (k2 : ClassId) (cs2 : (List Int32)) (cz : Int32) (fm : Value) (h0 : Heap) (O0 : Ext Z.heap h0) (q0 : Exa Z h0 a1 own_s2) (q1 : Fld Z h0 a1 own_s2 "value" "[B" (.ref b1)) (q2 : Fld Z h0 a1 own_s2 "coder" "B" (.int (0 : Int32))) (q3 : own_A Z h0 b1 k1 .byte (own_cv cs1)) (hl1 : cs1.length ≤ 200) (q5 : Exa Z h0 a2 own_s2) (q6 : Fld Z h0 a2 own_s2 "value" "[B" (.ref b2)) (q7 : Fld Z h0 a2 own_s2 "coder" "B" (.int (0 : Int32))) (q8 : own_A Z h0 b2 k2 .byte (own_cv cs2)) (hl2 : cs2.length ≤ 200) (hasc1 : own_asc cs1) (hasc2 : own_asc cs2) (hpl : pn + cs2.length ≤ cs1.length) (hm : own_M cs1 cs2 pn) (S_CS : Sta Z Z.heap own_s2 own_s5 "Z" (.int cz)) (hcs : ¬ (cz = (0 : Int32))) (S_FM : Sta Z Z.heap own_s6 "SIOOBE_FORMATTER" "Ljava/util/function/BiFunction;" fm) (hfm : fm.isRef = true) :
    MetFree l own_m35 (head1 (Jvm.Cond.code own_m35 method_3_code 4 (some .int) :: ws) ({ frames := 5, cells := 0, slots := 0, locals := 90 } : Room)) (fun aa U => aa = #[(.ref a1), (.int (Int32.ofNat pn)), (.ref a2)] ∧ Z.Warmed39 U.vm ∧ U.heap = h0) (fun _ _ _ _ _ => True) (fun _ U o U' => ∃ v L, o = .returned v ∧ Q_own_lit Z a1 b1 k1 cs1 pn a2 b2 k2 cs2 cz fm h0 v U'.heap L ∧ FrameEnd U o U' L ({ frames := 5, cells := 0, slots := 0, locals := 90 } : Room).cells ({ frames := 5, cells := 0, slots := 0, locals := 90 } : Room).slots) := by
  refine MetFree.of_bodySF pf_own_lit hisR ?_
  intro p e s m args below meth c s₁ Bd hml0 hP hK
  obtain ⟨rfl, hZ, hh⟩ := hP
  have hx := Bd.exec
  have hby := Bd.bytes
  have hlk := BodyLoose.notSynchronized Bd
  have hml : c.maxLocals = 4 := hml0
  have hown : s.vm.findClass own_s4 = some m.cls := findClass_of_methodNamed Bd.named
  have hnm := (name_of_methodNamed Bd.named Bd.method).1
  have X0 : Stand p l e ({ frames := 5, cells := 0, slots := 0, locals := 90 } : Room) s m #[(.ref a1), (.int (Int32.ofNat pn)), (.ref a2)] below meth c s₁ [] 0 0 := Stand.of_body Bd
  have e0 : s₁.heap = h0 := by rw [← hh, Bd.state]; rfl
  have N0 := Fr.nil Z.heap.size
  have K0 : Keep h0 h0 [] := Keep.refl _ _
  refine own_start (Q := Q_own_lit Z a1 b1 k1 cs1 pn a2 b2 k2 cs2 cz fm h0) (ef_own_lit m (a1) ((Int32.ofNat pn)) (a2)) ?_
  show own_G p e below (s₁.setTop (mkF m 0 #[.val (.ref a1), .val (.int (Int32.ofNat pn)), .val (.ref a2), .unset] [])) _
  refine own_go (fun t k => XS.iloadN X0.here hx rfl (hb hby d_method_3_code_0) rfl k) ?_
  refine own_go (fun t k => XS.ifNo X0.here hx rfl (hb hby d_method_3_code_1) rfl ((if0 _ _).trans (flt (own_nn0 (by omega))).1) k) ?_
  show own_G p e below (s₁.setTop (mkF m 4 #[.val (.ref a1), .val (.int (Int32.ofNat pn)), .val (.ref a2), .unset] [])) _
  refine own_go (fun t k => XS.iloadN X0.here hx rfl (hb hby d_method_3_code_4) rfl k) ?_
  refine own_go (fun t k => XS.aloadN X0.here hx rfl (hb hby d_method_3_code_5) rfl rfl k) ?_
  obtain ⟨cq1z, kq1z, qa1z, qb1z, qc1z⟩ := isOf hZ e0 q5
  obtain ⟨_, _, ⟨T1z, L1z, k1z, n1z⟩, -, X1z, ⟨Lc1z, hQ1z, l1z, y1z, z1z⟩, st1z⟩ := X0.virtualBack hx (y := own_m7) (z := own_m7) hown (own_mw hZ hw 210 rfl) (own_mw hZ hw 59 rfl) (notFace_of_selects (args := #[]) (own_mw hZ hw 61 rfl)) (own_mw hZ hw 61 rfl) (own_mw hZ hw 60 rfl) (by decide) (backOf (W := 1) (own_slen l Z a0 hw [] a2 b2 k2 cs2 cz h0 O0 q5 q6 q7 q8 hl2 S_CS hcs) hZ (own_hw hw 62 rfl) (own_hw hw 36 rfl) (by decide) (by decide)) qa1z qc1z (g := (mkF m 6 #[.val (.ref a1), .val (.int (Int32.ofNat pn)), .val (.ref a2), .unset] [(.ref a2), (.int (Int32.ofNat pn))])) rfl (by rw [hml]; rfl) (Steps.refl _) (argsL := []) (rest := [(.int (Int32.ofNat pn))]) (lenOf pd_193421983 rfl) rfl (by show 2 * 0 + _ ≤ _; exact Nat.le_of_eq rfl) (hb hby d_method_3_code_6) (fun _ _ => ⟨rfl, e0, (by decide : 0 + 0 ≤ _), (by decide : 0 + 0 ≤ _)⟩)
  dsimp only [Pt.U, Pt.locs, Pt.cells, Pt.slots] at X1z l1z y1z z1z st1z hQ1z
  subst l1z y1z z1z
  obtain ⟨rfl, NQ1z, K1zq⟩ := hQ1z
  refine own_tr st1z ?_
  have N1z := Fr.app N0 NQ1z
  show own_G p e below (T1z.setTop (mkF m 9 #[.val (.ref a1), .val (.int (Int32.ofNat pn)), .val (.ref a2), .unset] [(.int (Int32.ofNat cs2.length)), (.int (Int32.ofNat pn))])) _
  refine own_go (fun t k => XS.iadd X1z.here hx rfl (hb hby d_method_3_code_9) rfl k) ?_
  show own_G p e below (T1z.setTop (mkF m 10 #[.val (.ref a1), .val (.int (Int32.ofNat pn)), .val (.ref a2), .unset] [(.int ((Int32.ofNat pn) + (Int32.ofNat cs2.length)))])) _
  rw [own_addN (by omega)]
  show own_G p e below (T1z.setTop (mkF m 10 #[.val (.ref a1), .val (.int (Int32.ofNat pn)), .val (.ref a2), .unset] [(.int (Int32.ofNat (pn + cs2.length)))])) _
  refine own_go (fun t k => XS.aloadN X1z.here hx rfl (hb hby d_method_3_code_10) rfl rfl k) ?_
  obtain ⟨cq2z, kq2z, qa2z, qb2z, qc2z⟩ := isOf hZ K1zq q0
  obtain ⟨_, _, ⟨T2z, L2z, k2z, n2z⟩, -, X2z, ⟨Lc2z, hQ2z, l2z, y2z, z2z⟩, st2z⟩ := X1z.virtualBack hx (y := own_m7) (z := own_m7) hown (own_mw hZ hw 210 rfl) (own_mw hZ hw 59 rfl) (notFace_of_selects (args := #[]) (own_mw hZ hw 61 rfl)) (own_mw hZ hw 61 rfl) (own_mw hZ hw 60 rfl) (by decide) (backOf (W := 1) (own_slen l Z a0 hw [] a1 b1 k1 cs1 cz h0 O0 q0 q1 q2 q3 hl1 S_CS hcs) hZ (own_hw hw 62 rfl) (own_hw hw 36 rfl) (by decide) (by decide)) qa2z qc2z (g := (mkF m 11 #[.val (.ref a1), .val (.int (Int32.ofNat pn)), .val (.ref a2), .unset] [(.ref a1), (.int (Int32.ofNat (pn + cs2.length)))])) rfl (by rw [hml]; rfl) (Steps.refl _) (argsL := []) (rest := [(.int (Int32.ofNat (pn + cs2.length)))]) (lenOf pd_193421983 rfl) rfl (by show 2 * 0 + _ ≤ _; exact Nat.le_of_eq rfl) (hb hby d_method_3_code_11) (fun _ _ => ⟨rfl, K1zq, (by decide : 0 + 0 ≤ _), (by decide : 0 + 0 ≤ _)⟩)
  dsimp only [Pt.U, Pt.locs, Pt.cells, Pt.slots] at X2z l2z y2z z2z st2z hQ2z
  subst l2z y2z z2z
  obtain ⟨rfl, NQ2z, K2zq⟩ := hQ2z
  refine own_tr st2z ?_
  have N2z := Fr.app N1z NQ2z
  show own_G p e below (T2z.setTop (mkF m 14 #[.val (.ref a1), .val (.int (Int32.ofNat pn)), .val (.ref a2), .unset] [(.int (Int32.ofNat cs1.length)), (.int (Int32.ofNat (pn + cs2.length)))])) _
  refine own_go (fun t k => XS.icmpYes X2z.here hx rfl (pc0 := 14) (pc' := 19) rfl (hb hby d_method_3_code_14) rfl (flt (fun q => absurd ((own_ltN (own_ofN (by omega)) (own_ofN (by omega))).mp q) (by omega))).2.2.2 (by decide) (by decide) k) ?_
  show own_G p e below (T2z.setTop (mkF m 19 #[.val (.ref a1), .val (.int (Int32.ofNat pn)), .val (.ref a2), .unset] [])) _
  refine own_go (fun t k => XS.aloadN X2z.here hx rfl (hb hby d_method_3_code_19) rfl rfl k) ?_
  refine own_go (fun t k => XS.iloadN X2z.here hx rfl (hb hby d_method_3_code_20) rfl k) ?_
  refine own_go (fun t k => XS.aloadN X2z.here hx rfl (hb hby d_method_3_code_21) rfl rfl k) ?_
  show own_G p e below (T2z.setTop (mkF m 22 #[.val (.ref a1), .val (.int (Int32.ofNat pn)), .val (.ref a2), .unset] [(.ref a2), (.int (Int32.ofNat pn)), (.ref a1)])) _
  refine own_go (fun t k => XS.iconst X2z.here hx rfl (hb hby d_method_3_code_22) k) ?_
  obtain ⟨_, _, ⟨T3z, L3z, k3z, n3z⟩, -, X3z, ⟨Lc3z, hQ3z, l3z, y3z, z3z⟩, st3z⟩ := Jvm.LawKit.callS X2z hx (y := own_m34) hown (own_mw hZ hw 211 rfl) (own_mw hZ hw 212 rfl) (own_mw hZ hw 208 rfl) (own_mw hZ hw 213 rfl) (by decide) (backOf (W := 0) (own_litc l Z a0 hw [] a1 b1 k1 cs1 pn a2 b2 k2 cs2 (0 : Int32) 0 cz fm h0 O0 q0 q1 q2 q3 hl1 q5 q6 q7 q8 hl2 hasc1 hasc2 (by decide) hpl hm S_CS hcs S_FM hfm) hZ (own_hw hw 213 rfl) (own_hw hw 208 rfl) (by decide) (by decide)) (g := (mkF m 23 #[.val (.ref a1), .val (.int (Int32.ofNat pn)), .val (.ref a2), .unset] [(.int (0 : Int32)), (.ref a2), (.int (Int32.ofNat pn)), (.ref a1)])) rfl (by rw [hml]; rfl) (argsL := [(.ref a1), (.int (Int32.ofNat pn)), (.ref a2), (.int (0 : Int32))]) (rest := []) (lenOf pd_731350626 rfl) rfl (by show 2 * 0 + _ ≤ _; exact Nat.le_of_eq rfl) (hb hby d_method_3_code_23) (fun _ _ => ⟨rfl, K2zq, (by decide : 0 + 0 ≤ _), (by decide : 0 + 0 ≤ _)⟩)
  dsimp only [Pt.U, Pt.locs, Pt.cells, Pt.slots] at X3z l3z y3z z3z st3z hQ3z
  subst l3z y3z z3z
  obtain ⟨rfl, NQ3z, K3zq⟩ := hQ3z
  refine own_go st3z ?_
  have N3z := Fr.app N2z NQ3z
  show own_G p e below (T3z.setTop (mkF m 26 #[.val (.ref a1), .val (.int (Int32.ofNat pn)), .val (.ref a2), .unset] [(.int (1 : Int32))])) _
  refine own_go (fun t k => XS.ifNo X3z.here hx rfl (hb hby d_method_3_code_26) rfl ((if0 _ _).trans (feq (by decide : ¬ ((1 : Int32) = (0 : Int32)))).1) k) ?_
  show own_G p e below (T3z.setTop (mkF m 29 #[.val (.ref a1), .val (.int (Int32.ofNat pn)), .val (.ref a2), .unset] [])) _
  refine own_go (fun t k => XS.aloadN X3z.here hx rfl (hb hby d_method_3_code_29) rfl rfl k) ?_
  refine own_go (fun t k => XS.iloadN X3z.here hx rfl (hb hby d_method_3_code_30) rfl k) ?_
  refine own_go (fun t k => XS.aloadN X3z.here hx rfl (hb hby d_method_3_code_31) rfl rfl k) ?_
  show own_G p e below (T3z.setTop (mkF m 32 #[.val (.ref a1), .val (.int (Int32.ofNat pn)), .val (.ref a2), .unset] [(.ref a2), (.int (Int32.ofNat pn)), (.ref a1)])) _
  refine own_go (fun t k => XS.iconst X3z.here hx rfl (hb hby d_method_3_code_32) k) ?_
  obtain ⟨_, _, ⟨T4z, L4z, k4z, n4z⟩, -, X4z, ⟨Lc4z, hQ4z, l4z, y4z, z4z⟩, st4z⟩ := Jvm.LawKit.callS X3z hx (y := own_m34) hown (own_mw hZ hw 211 rfl) (own_mw hZ hw 212 rfl) (own_mw hZ hw 208 rfl) (own_mw hZ hw 213 rfl) (by decide) (backOf (W := 0) (own_litc l Z a0 hw [] a1 b1 k1 cs1 pn a2 b2 k2 cs2 (1 : Int32) 1 cz fm h0 O0 q0 q1 q2 q3 hl1 q5 q6 q7 q8 hl2 hasc1 hasc2 (by decide) hpl hm S_CS hcs S_FM hfm) hZ (own_hw hw 213 rfl) (own_hw hw 208 rfl) (by decide) (by decide)) (g := (mkF m 33 #[.val (.ref a1), .val (.int (Int32.ofNat pn)), .val (.ref a2), .unset] [(.int (1 : Int32)), (.ref a2), (.int (Int32.ofNat pn)), (.ref a1)])) rfl (by rw [hml]; rfl) (argsL := [(.ref a1), (.int (Int32.ofNat pn)), (.ref a2), (.int (1 : Int32))]) (rest := []) (lenOf pd_731350626 rfl) rfl (by show 2 * 0 + _ ≤ _; exact Nat.le_of_eq rfl) (hb hby d_method_3_code_33) (fun _ _ => ⟨rfl, K3zq, (by decide : 0 + 0 ≤ _), (by decide : 0 + 0 ≤ _)⟩)
  dsimp only [Pt.U, Pt.locs, Pt.cells, Pt.slots] at X4z l4z y4z z4z st4z hQ4z
  subst l4z y4z z4z
  obtain ⟨rfl, NQ4z, K4zq⟩ := hQ4z
  refine own_go st4z ?_
  have N4z := Fr.app N3z NQ4z
  show own_G p e below (T4z.setTop (mkF m 36 #[.val (.ref a1), .val (.int (Int32.ofNat pn)), .val (.ref a2), .unset] [(.int (1 : Int32))])) _
  refine own_go (fun t k => XS.ifNo X4z.here hx rfl (hb hby d_method_3_code_36) rfl ((if0 _ _).trans (feq (by decide : ¬ ((1 : Int32) = (0 : Int32)))).1) k) ?_
  show own_G p e below (T4z.setTop (mkF m 39 #[.val (.ref a1), .val (.int (Int32.ofNat pn)), .val (.ref a2), .unset] [])) _
  refine own_go (fun t k => XS.aloadN X4z.here hx rfl (hb hby d_method_3_code_39) rfl rfl k) ?_
  refine own_go (fun t k => XS.iloadN X4z.here hx rfl (hb hby d_method_3_code_40) rfl k) ?_
  refine own_go (fun t k => XS.aloadN X4z.here hx rfl (hb hby d_method_3_code_41) rfl rfl k) ?_
  show own_G p e below (T4z.setTop (mkF m 42 #[.val (.ref a1), .val (.int (Int32.ofNat pn)), .val (.ref a2), .unset] [(.ref a2), (.int (Int32.ofNat pn)), (.ref a1)])) _
  refine own_go (fun t k => XS.iconst X4z.here hx rfl (hb hby d_method_3_code_42) k) ?_
  obtain ⟨_, _, ⟨T5z, L5z, k5z, n5z⟩, -, X5z, ⟨Lc5z, hQ5z, l5z, y5z, z5z⟩, st5z⟩ := Jvm.LawKit.callS X4z hx (y := own_m34) hown (own_mw hZ hw 211 rfl) (own_mw hZ hw 212 rfl) (own_mw hZ hw 208 rfl) (own_mw hZ hw 213 rfl) (by decide) (backOf (W := 0) (own_litc l Z a0 hw [] a1 b1 k1 cs1 pn a2 b2 k2 cs2 (2 : Int32) 2 cz fm h0 O0 q0 q1 q2 q3 hl1 q5 q6 q7 q8 hl2 hasc1 hasc2 (by decide) hpl hm S_CS hcs S_FM hfm) hZ (own_hw hw 213 rfl) (own_hw hw 208 rfl) (by decide) (by decide)) (g := (mkF m 43 #[.val (.ref a1), .val (.int (Int32.ofNat pn)), .val (.ref a2), .unset] [(.int (2 : Int32)), (.ref a2), (.int (Int32.ofNat pn)), (.ref a1)])) rfl (by rw [hml]; rfl) (argsL := [(.ref a1), (.int (Int32.ofNat pn)), (.ref a2), (.int (2 : Int32))]) (rest := []) (lenOf pd_731350626 rfl) rfl (by show 2 * 0 + _ ≤ _; exact Nat.le_of_eq rfl) (hb hby d_method_3_code_43) (fun _ _ => ⟨rfl, K4zq, (by decide : 0 + 0 ≤ _), (by decide : 0 + 0 ≤ _)⟩)
  dsimp only [Pt.U, Pt.locs, Pt.cells, Pt.slots] at X5z l5z y5z z5z st5z hQ5z
  subst l5z y5z z5z
  obtain ⟨rfl, NQ5z, K5zq⟩ := hQ5z
  refine own_go st5z ?_
  have N5z := Fr.app N4z NQ5z
  show own_G p e below (T5z.setTop (mkF m 46 #[.val (.ref a1), .val (.int (Int32.ofNat pn)), .val (.ref a2), .unset] [(.int (1 : Int32))])) _
  refine own_go (fun t k => XS.ifNo X5z.here hx rfl (hb hby d_method_3_code_46) rfl ((if0 _ _).trans (feq (by decide : ¬ ((1 : Int32) = (0 : Int32)))).1) k) ?_
  show own_G p e below (T5z.setTop (mkF m 49 #[.val (.ref a1), .val (.int (Int32.ofNat pn)), .val (.ref a2), .unset] [])) _
  refine own_go (fun t k => XS.aloadN X5z.here hx rfl (hb hby d_method_3_code_49) rfl rfl k) ?_
  refine own_go (fun t k => XS.iloadN X5z.here hx rfl (hb hby d_method_3_code_50) rfl k) ?_
  refine own_go (fun t k => XS.aloadN X5z.here hx rfl (hb hby d_method_3_code_51) rfl rfl k) ?_
  show own_G p e below (T5z.setTop (mkF m 52 #[.val (.ref a1), .val (.int (Int32.ofNat pn)), .val (.ref a2), .unset] [(.ref a2), (.int (Int32.ofNat pn)), (.ref a1)])) _
  refine own_go (fun t k => XS.iconst X5z.here hx rfl (hb hby d_method_3_code_52) k) ?_
  obtain ⟨_, _, ⟨T6z, L6z, k6z, n6z⟩, -, X6z, ⟨Lc6z, hQ6z, l6z, y6z, z6z⟩, st6z⟩ := Jvm.LawKit.callS X5z hx (y := own_m34) hown (own_mw hZ hw 211 rfl) (own_mw hZ hw 212 rfl) (own_mw hZ hw 208 rfl) (own_mw hZ hw 213 rfl) (by decide) (backOf (W := 0) (own_litc l Z a0 hw [] a1 b1 k1 cs1 pn a2 b2 k2 cs2 (3 : Int32) 3 cz fm h0 O0 q0 q1 q2 q3 hl1 q5 q6 q7 q8 hl2 hasc1 hasc2 (by decide) hpl hm S_CS hcs S_FM hfm) hZ (own_hw hw 213 rfl) (own_hw hw 208 rfl) (by decide) (by decide)) (g := (mkF m 53 #[.val (.ref a1), .val (.int (Int32.ofNat pn)), .val (.ref a2), .unset] [(.int (3 : Int32)), (.ref a2), (.int (Int32.ofNat pn)), (.ref a1)])) rfl (by rw [hml]; rfl) (argsL := [(.ref a1), (.int (Int32.ofNat pn)), (.ref a2), (.int (3 : Int32))]) (rest := []) (lenOf pd_731350626 rfl) rfl (by show 2 * 0 + _ ≤ _; exact Nat.le_of_eq rfl) (hb hby d_method_3_code_53) (fun _ _ => ⟨rfl, K5zq, (by decide : 0 + 0 ≤ _), (by decide : 0 + 0 ≤ _)⟩)
  dsimp only [Pt.U, Pt.locs, Pt.cells, Pt.slots] at X6z l6z y6z z6z st6z hQ6z
  subst l6z y6z z6z
  obtain ⟨rfl, NQ6z, K6zq⟩ := hQ6z
  refine own_go st6z ?_
  have N6z := Fr.app N5z NQ6z
  show own_G p e below (T6z.setTop (mkF m 56 #[.val (.ref a1), .val (.int (Int32.ofNat pn)), .val (.ref a2), .unset] [(.int (1 : Int32))])) _
  refine own_go (fun t k => XS.ifNo X6z.here hx rfl (hb hby d_method_3_code_56) rfl ((if0 _ _).trans (feq (by decide : ¬ ((1 : Int32) = (0 : Int32)))).1) k) ?_
  show own_G p e below (T6z.setTop (mkF m 59 #[.val (.ref a1), .val (.int (Int32.ofNat pn)), .val (.ref a2), .unset] [])) _
  refine own_go (fun t k => XS.aloadN X6z.here hx rfl (hb hby d_method_3_code_59) rfl rfl k) ?_
  refine own_go (fun t k => XS.iloadN X6z.here hx rfl (hb hby d_method_3_code_60) rfl k) ?_
  refine own_go (fun t k => XS.aloadN X6z.here hx rfl (hb hby d_method_3_code_61) rfl rfl k) ?_
  show own_G p e below (T6z.setTop (mkF m 62 #[.val (.ref a1), .val (.int (Int32.ofNat pn)), .val (.ref a2), .unset] [(.ref a2), (.int (Int32.ofNat pn)), (.ref a1)])) _
  refine own_go (fun t k => XS.iconst X6z.here hx rfl (hb hby d_method_3_code_62) k) ?_
  obtain ⟨_, _, ⟨T7z, L7z, k7z, n7z⟩, -, X7z, ⟨Lc7z, hQ7z, l7z, y7z, z7z⟩, st7z⟩ := Jvm.LawKit.callS X6z hx (y := own_m34) hown (own_mw hZ hw 211 rfl) (own_mw hZ hw 212 rfl) (own_mw hZ hw 208 rfl) (own_mw hZ hw 213 rfl) (by decide) (backOf (W := 0) (own_litc l Z a0 hw [] a1 b1 k1 cs1 pn a2 b2 k2 cs2 (4 : Int32) 4 cz fm h0 O0 q0 q1 q2 q3 hl1 q5 q6 q7 q8 hl2 hasc1 hasc2 (by decide) hpl hm S_CS hcs S_FM hfm) hZ (own_hw hw 213 rfl) (own_hw hw 208 rfl) (by decide) (by decide)) (g := (mkF m 63 #[.val (.ref a1), .val (.int (Int32.ofNat pn)), .val (.ref a2), .unset] [(.int (4 : Int32)), (.ref a2), (.int (Int32.ofNat pn)), (.ref a1)])) rfl (by rw [hml]; rfl) (argsL := [(.ref a1), (.int (Int32.ofNat pn)), (.ref a2), (.int (4 : Int32))]) (rest := []) (lenOf pd_731350626 rfl) rfl (by show 2 * 0 + _ ≤ _; exact Nat.le_of_eq rfl) (hb hby d_method_3_code_63) (fun _ _ => ⟨rfl, K6zq, (by decide : 0 + 0 ≤ _), (by decide : 0 + 0 ≤ _)⟩)
  dsimp only [Pt.U, Pt.locs, Pt.cells, Pt.slots] at X7z l7z y7z z7z st7z hQ7z
  subst l7z y7z z7z
  obtain ⟨rfl, NQ7z, K7zq⟩ := hQ7z
  refine own_go st7z ?_
  have N7z := Fr.app N6z NQ7z
  show own_G p e below (T7z.setTop (mkF m 66 #[.val (.ref a1), .val (.int (Int32.ofNat pn)), .val (.ref a2), .unset] [(.int (1 : Int32))])) _
  refine own_go (fun t k => XS.ifNo X7z.here hx rfl (hb hby d_method_3_code_66) rfl ((if0 _ _).trans (feq (by decide : ¬ ((1 : Int32) = (0 : Int32)))).1) k) ?_
  show own_G p e below (T7z.setTop (mkF m 69 #[.val (.ref a1), .val (.int (Int32.ofNat pn)), .val (.ref a2), .unset] [])) _
  refine own_go (fun t k => XS.aloadN X7z.here hx rfl (hb hby d_method_3_code_69) rfl rfl k) ?_
  refine own_go (fun t k => XS.iloadN X7z.here hx rfl (hb hby d_method_3_code_70) rfl k) ?_
  refine own_go (fun t k => XS.aloadN X7z.here hx rfl (hb hby d_method_3_code_71) rfl rfl k) ?_
  show own_G p e below (T7z.setTop (mkF m 72 #[.val (.ref a1), .val (.int (Int32.ofNat pn)), .val (.ref a2), .unset] [(.ref a2), (.int (Int32.ofNat pn)), (.ref a1)])) _
  refine own_go (fun t k => XS.iconst X7z.here hx rfl (hb hby d_method_3_code_72) k) ?_
  obtain ⟨_, _, ⟨T8z, L8z, k8z, n8z⟩, -, X8z, ⟨Lc8z, hQ8z, l8z, y8z, z8z⟩, st8z⟩ := Jvm.LawKit.callS X7z hx (y := own_m34) hown (own_mw hZ hw 211 rfl) (own_mw hZ hw 212 rfl) (own_mw hZ hw 208 rfl) (own_mw hZ hw 213 rfl) (by decide) (backOf (W := 0) (own_litc l Z a0 hw [] a1 b1 k1 cs1 pn a2 b2 k2 cs2 (5 : Int32) 5 cz fm h0 O0 q0 q1 q2 q3 hl1 q5 q6 q7 q8 hl2 hasc1 hasc2 (by decide) hpl hm S_CS hcs S_FM hfm) hZ (own_hw hw 213 rfl) (own_hw hw 208 rfl) (by decide) (by decide)) (g := (mkF m 73 #[.val (.ref a1), .val (.int (Int32.ofNat pn)), .val (.ref a2), .unset] [(.int (5 : Int32)), (.ref a2), (.int (Int32.ofNat pn)), (.ref a1)])) rfl (by rw [hml]; rfl) (argsL := [(.ref a1), (.int (Int32.ofNat pn)), (.ref a2), (.int (5 : Int32))]) (rest := []) (lenOf pd_731350626 rfl) rfl (by show 2 * 0 + _ ≤ _; exact Nat.le_of_eq rfl) (hb hby d_method_3_code_73) (fun _ _ => ⟨rfl, K7zq, (by decide : 0 + 0 ≤ _), (by decide : 0 + 0 ≤ _)⟩)
  dsimp only [Pt.U, Pt.locs, Pt.cells, Pt.slots] at X8z l8z y8z z8z st8z hQ8z
  subst l8z y8z z8z
  obtain ⟨rfl, NQ8z, K8zq⟩ := hQ8z
  refine own_go st8z ?_
  have N8z := Fr.app N7z NQ8z
  show own_G p e below (T8z.setTop (mkF m 76 #[.val (.ref a1), .val (.int (Int32.ofNat pn)), .val (.ref a2), .unset] [(.int (1 : Int32))])) _
  refine own_go (fun t k => XS.ifNo X8z.here hx rfl (hb hby d_method_3_code_76) rfl ((if0 _ _).trans (feq (by decide : ¬ ((1 : Int32) = (0 : Int32)))).1) k) ?_
  show own_G p e below (T8z.setTop (mkF m 79 #[.val (.ref a1), .val (.int (Int32.ofNat pn)), .val (.ref a2), .unset] [])) _
  refine own_go (fun t k => XS.aloadN X8z.here hx rfl (hb hby d_method_3_code_79) rfl rfl k) ?_
  refine own_go (fun t k => XS.iloadN X8z.here hx rfl (hb hby d_method_3_code_80) rfl k) ?_
  refine own_go (fun t k => XS.aloadN X8z.here hx rfl (hb hby d_method_3_code_81) rfl rfl k) ?_
  show own_G p e below (T8z.setTop (mkF m 82 #[.val (.ref a1), .val (.int (Int32.ofNat pn)), .val (.ref a2), .unset] [(.ref a2), (.int (Int32.ofNat pn)), (.ref a1)])) _
  refine own_go (fun t k => XS.bipush X8z.here hx rfl (hb hby d_method_3_code_82) k) ?_
  obtain ⟨_, _, ⟨T9z, L9z, k9z, n9z⟩, -, X9z, ⟨Lc9z, hQ9z, l9z, y9z, z9z⟩, st9z⟩ := Jvm.LawKit.callS X8z hx (y := own_m34) hown (own_mw hZ hw 211 rfl) (own_mw hZ hw 212 rfl) (own_mw hZ hw 208 rfl) (own_mw hZ hw 213 rfl) (by decide) (backOf (W := 0) (own_litc l Z a0 hw [] a1 b1 k1 cs1 pn a2 b2 k2 cs2 (6 : Int32) 6 cz fm h0 O0 q0 q1 q2 q3 hl1 q5 q6 q7 q8 hl2 hasc1 hasc2 (by decide) hpl hm S_CS hcs S_FM hfm) hZ (own_hw hw 213 rfl) (own_hw hw 208 rfl) (by decide) (by decide)) (g := (mkF m 84 #[.val (.ref a1), .val (.int (Int32.ofNat pn)), .val (.ref a2), .unset] [(.int (6 : Int32)), (.ref a2), (.int (Int32.ofNat pn)), (.ref a1)])) rfl (by rw [hml]; rfl) (argsL := [(.ref a1), (.int (Int32.ofNat pn)), (.ref a2), (.int (6 : Int32))]) (rest := []) (lenOf pd_731350626 rfl) rfl (by show 2 * 0 + _ ≤ _; exact Nat.le_of_eq rfl) (hb hby d_method_3_code_84) (fun _ _ => ⟨rfl, K8zq, (by decide : 0 + 0 ≤ _), (by decide : 0 + 0 ≤ _)⟩)
  dsimp only [Pt.U, Pt.locs, Pt.cells, Pt.slots] at X9z l9z y9z z9z st9z hQ9z
  subst l9z y9z z9z
  obtain ⟨rfl, NQ9z, K9zq⟩ := hQ9z
  refine own_go st9z ?_
  have N9z := Fr.app N8z NQ9z
  show own_G p e below (T9z.setTop (mkF m 87 #[.val (.ref a1), .val (.int (Int32.ofNat pn)), .val (.ref a2), .unset] [(.int (1 : Int32))])) _
  refine own_go (fun t k => XS.ifNo X9z.here hx rfl (hb hby d_method_3_code_87) rfl ((if0 _ _).trans (feq (by decide : ¬ ((1 : Int32) = (0 : Int32)))).1) k) ?_
  show own_G p e below (T9z.setTop (mkF m 90 #[.val (.ref a1), .val (.int (Int32.ofNat pn)), .val (.ref a2), .unset] [])) _
  refine own_go (fun t k => XS.aloadN X9z.here hx rfl (hb hby d_method_3_code_90) rfl rfl k) ?_
  refine own_go (fun t k => XS.iloadN X9z.here hx rfl (hb hby d_method_3_code_91) rfl k) ?_
  refine own_go (fun t k => XS.aloadN X9z.here hx rfl (hb hby d_method_3_code_92) rfl rfl k) ?_
  show own_G p e below (T9z.setTop (mkF m 93 #[.val (.ref a1), .val (.int (Int32.ofNat pn)), .val (.ref a2), .unset] [(.ref a2), (.int (Int32.ofNat pn)), (.ref a1)])) _
  refine own_go (fun t k => XS.bipush X9z.here hx rfl (hb hby d_method_3_code_93) k) ?_
  obtain ⟨_, _, ⟨T10z, L10z, k10z, n10z⟩, -, X10z, ⟨Lc10z, hQ10z, l10z, y10z, z10z⟩, st10z⟩ := Jvm.LawKit.callS X9z hx (y := own_m34) hown (own_mw hZ hw 211 rfl) (own_mw hZ hw 212 rfl) (own_mw hZ hw 208 rfl) (own_mw hZ hw 213 rfl) (by decide) (backOf (W := 0) (own_litc l Z a0 hw [] a1 b1 k1 cs1 pn a2 b2 k2 cs2 (7 : Int32) 7 cz fm h0 O0 q0 q1 q2 q3 hl1 q5 q6 q7 q8 hl2 hasc1 hasc2 (by decide) hpl hm S_CS hcs S_FM hfm) hZ (own_hw hw 213 rfl) (own_hw hw 208 rfl) (by decide) (by decide)) (g := (mkF m 95 #[.val (.ref a1), .val (.int (Int32.ofNat pn)), .val (.ref a2), .unset] [(.int (7 : Int32)), (.ref a2), (.int (Int32.ofNat pn)), (.ref a1)])) rfl (by rw [hml]; rfl) (argsL := [(.ref a1), (.int (Int32.ofNat pn)), (.ref a2), (.int (7 : Int32))]) (rest := []) (lenOf pd_731350626 rfl) rfl (by show 2 * 0 + _ ≤ _; exact Nat.le_of_eq rfl) (hb hby d_method_3_code_95) (fun _ _ => ⟨rfl, K9zq, (by decide : 0 + 0 ≤ _), (by decide : 0 + 0 ≤ _)⟩)
  dsimp only [Pt.U, Pt.locs, Pt.cells, Pt.slots] at X10z l10z y10z z10z st10z hQ10z
  subst l10z y10z z10z
  obtain ⟨rfl, NQ10z, K10zq⟩ := hQ10z
  refine own_go st10z ?_
  have N10z := Fr.app N9z NQ10z
  show own_G p e below (T10z.setTop (mkF m 98 #[.val (.ref a1), .val (.int (Int32.ofNat pn)), .val (.ref a2), .unset] [(.int (1 : Int32))])) _
  refine own_go (fun t k => XS.ifNo X10z.here hx rfl (hb hby d_method_3_code_98) rfl ((if0 _ _).trans (feq (by decide : ¬ ((1 : Int32) = (0 : Int32)))).1) k) ?_
  show own_G p e below (T10z.setTop (mkF m 101 #[.val (.ref a1), .val (.int (Int32.ofNat pn)), .val (.ref a2), .unset] [])) _
  refine own_go (fun t k => XS.aloadN X10z.here hx rfl (hb hby d_method_3_code_101) rfl rfl k) ?_
  refine own_go (fun t k => XS.iloadN X10z.here hx rfl (hb hby d_method_3_code_102) rfl k) ?_
  refine own_go (fun t k => XS.aloadN X10z.here hx rfl (hb hby d_method_3_code_103) rfl rfl k) ?_
  show own_G p e below (T10z.setTop (mkF m 104 #[.val (.ref a1), .val (.int (Int32.ofNat pn)), .val (.ref a2), .unset] [(.ref a2), (.int (Int32.ofNat pn)), (.ref a1)])) _
  refine own_go (fun t k => XS.bipush X10z.here hx rfl (hb hby d_method_3_code_104) k) ?_
  obtain ⟨_, _, ⟨T11z, L11z, k11z, n11z⟩, -, X11z, ⟨Lc11z, hQ11z, l11z, y11z, z11z⟩, st11z⟩ := Jvm.LawKit.callS X10z hx (y := own_m34) hown (own_mw hZ hw 211 rfl) (own_mw hZ hw 212 rfl) (own_mw hZ hw 208 rfl) (own_mw hZ hw 213 rfl) (by decide) (backOf (W := 0) (own_litc l Z a0 hw [] a1 b1 k1 cs1 pn a2 b2 k2 cs2 (8 : Int32) 8 cz fm h0 O0 q0 q1 q2 q3 hl1 q5 q6 q7 q8 hl2 hasc1 hasc2 (by decide) hpl hm S_CS hcs S_FM hfm) hZ (own_hw hw 213 rfl) (own_hw hw 208 rfl) (by decide) (by decide)) (g := (mkF m 106 #[.val (.ref a1), .val (.int (Int32.ofNat pn)), .val (.ref a2), .unset] [(.int (8 : Int32)), (.ref a2), (.int (Int32.ofNat pn)), (.ref a1)])) rfl (by rw [hml]; rfl) (argsL := [(.ref a1), (.int (Int32.ofNat pn)), (.ref a2), (.int (8 : Int32))]) (rest := []) (lenOf pd_731350626 rfl) rfl (by show 2 * 0 + _ ≤ _; exact Nat.le_of_eq rfl) (hb hby d_method_3_code_106) (fun _ _ => ⟨rfl, K10zq, (by decide : 0 + 0 ≤ _), (by decide : 0 + 0 ≤ _)⟩)
  dsimp only [Pt.U, Pt.locs, Pt.cells, Pt.slots] at X11z l11z y11z z11z st11z hQ11z
  subst l11z y11z z11z
  obtain ⟨rfl, NQ11z, K11zq⟩ := hQ11z
  refine own_go st11z ?_
  have N11z := Fr.app N10z NQ11z
  show own_G p e below (T11z.setTop (mkF m 109 #[.val (.ref a1), .val (.int (Int32.ofNat pn)), .val (.ref a2), .unset] [(.int (1 : Int32))])) _
  refine own_go (fun t k => XS.ifNo X11z.here hx rfl (hb hby d_method_3_code_109) rfl ((if0 _ _).trans (feq (by decide : ¬ ((1 : Int32) = (0 : Int32)))).1) k) ?_
  show own_G p e below (T11z.setTop (mkF m 112 #[.val (.ref a1), .val (.int (Int32.ofNat pn)), .val (.ref a2), .unset] [])) _
  refine own_go (fun t k => XS.aloadN X11z.here hx rfl (hb hby d_method_3_code_112) rfl rfl k) ?_
  refine own_go (fun t k => XS.iloadN X11z.here hx rfl (hb hby d_method_3_code_113) rfl k) ?_
  refine own_go (fun t k => XS.aloadN X11z.here hx rfl (hb hby d_method_3_code_114) rfl rfl k) ?_
  show own_G p e below (T11z.setTop (mkF m 115 #[.val (.ref a1), .val (.int (Int32.ofNat pn)), .val (.ref a2), .unset] [(.ref a2), (.int (Int32.ofNat pn)), (.ref a1)])) _
  refine own_go (fun t k => XS.bipush X11z.here hx rfl (hb hby d_method_3_code_115) k) ?_
  obtain ⟨_, _, ⟨T12z, L12z, k12z, n12z⟩, -, X12z, ⟨Lc12z, hQ12z, l12z, y12z, z12z⟩, st12z⟩ := Jvm.LawKit.callS X11z hx (y := own_m34) hown (own_mw hZ hw 211 rfl) (own_mw hZ hw 212 rfl) (own_mw hZ hw 208 rfl) (own_mw hZ hw 213 rfl) (by decide) (backOf (W := 0) (own_litc l Z a0 hw [] a1 b1 k1 cs1 pn a2 b2 k2 cs2 (9 : Int32) 9 cz fm h0 O0 q0 q1 q2 q3 hl1 q5 q6 q7 q8 hl2 hasc1 hasc2 (by decide) hpl hm S_CS hcs S_FM hfm) hZ (own_hw hw 213 rfl) (own_hw hw 208 rfl) (by decide) (by decide)) (g := (mkF m 117 #[.val (.ref a1), .val (.int (Int32.ofNat pn)), .val (.ref a2), .unset] [(.int (9 : Int32)), (.ref a2), (.int (Int32.ofNat pn)), (.ref a1)])) rfl (by rw [hml]; rfl) (argsL := [(.ref a1), (.int (Int32.ofNat pn)), (.ref a2), (.int (9 : Int32))]) (rest := []) (lenOf pd_731350626 rfl) rfl (by show 2 * 0 + _ ≤ _; exact Nat.le_of_eq rfl) (hb hby d_method_3_code_117) (fun _ _ => ⟨rfl, K11zq, (by decide : 0 + 0 ≤ _), (by decide : 0 + 0 ≤ _)⟩)
  dsimp only [Pt.U, Pt.locs, Pt.cells, Pt.slots] at X12z l12z y12z z12z st12z hQ12z
  subst l12z y12z z12z
  obtain ⟨rfl, NQ12z, K12zq⟩ := hQ12z
  refine own_go st12z ?_
  have N12z := Fr.app N11z NQ12z
  show own_G p e below (T12z.setTop (mkF m 120 #[.val (.ref a1), .val (.int (Int32.ofNat pn)), .val (.ref a2), .unset] [(.int (1 : Int32))])) _
  refine own_go (fun t k => XS.ifNo X12z.here hx rfl (hb hby d_method_3_code_120) rfl ((if0 _ _).trans (feq (by decide : ¬ ((1 : Int32) = (0 : Int32)))).1) k) ?_
  show own_G p e below (T12z.setTop (mkF m 123 #[.val (.ref a1), .val (.int (Int32.ofNat pn)), .val (.ref a2), .unset] [])) _
  refine own_go (fun t k => XS.aloadN X12z.here hx rfl (hb hby d_method_3_code_123) rfl rfl k) ?_
  refine own_go (fun t k => XS.iloadN X12z.here hx rfl (hb hby d_method_3_code_124) rfl k) ?_
  refine own_go (fun t k => XS.aloadN X12z.here hx rfl (hb hby d_method_3_code_125) rfl rfl k) ?_
  show own_G p e below (T12z.setTop (mkF m 126 #[.val (.ref a1), .val (.int (Int32.ofNat pn)), .val (.ref a2), .unset] [(.ref a2), (.int (Int32.ofNat pn)), (.ref a1)])) _
  refine own_go (fun t k => XS.bipush X12z.here hx rfl (hb hby d_method_3_code_126) k) ?_
  obtain ⟨_, _, ⟨T13z, L13z, k13z, n13z⟩, -, X13z, ⟨Lc13z, hQ13z, l13z, y13z, z13z⟩, st13z⟩ := Jvm.LawKit.callS X12z hx (y := own_m34) hown (own_mw hZ hw 211 rfl) (own_mw hZ hw 212 rfl) (own_mw hZ hw 208 rfl) (own_mw hZ hw 213 rfl) (by decide) (backOf (W := 0) (own_litc l Z a0 hw [] a1 b1 k1 cs1 pn a2 b2 k2 cs2 (10 : Int32) 10 cz fm h0 O0 q0 q1 q2 q3 hl1 q5 q6 q7 q8 hl2 hasc1 hasc2 (by decide) hpl hm S_CS hcs S_FM hfm) hZ (own_hw hw 213 rfl) (own_hw hw 208 rfl) (by decide) (by decide)) (g := (mkF m 128 #[.val (.ref a1), .val (.int (Int32.ofNat pn)), .val (.ref a2), .unset] [(.int (10 : Int32)), (.ref a2), (.int (Int32.ofNat pn)), (.ref a1)])) rfl (by rw [hml]; rfl) (argsL := [(.ref a1), (.int (Int32.ofNat pn)), (.ref a2), (.int (10 : Int32))]) (rest := []) (lenOf pd_731350626 rfl) rfl (by show 2 * 0 + _ ≤ _; exact Nat.le_of_eq rfl) (hb hby d_method_3_code_128) (fun _ _ => ⟨rfl, K12zq, (by decide : 0 + 0 ≤ _), (by decide : 0 + 0 ≤ _)⟩)
  dsimp only [Pt.U, Pt.locs, Pt.cells, Pt.slots] at X13z l13z y13z z13z st13z hQ13z
  subst l13z y13z z13z
  obtain ⟨rfl, NQ13z, K13zq⟩ := hQ13z
  refine own_go st13z ?_
  have N13z := Fr.app N12z NQ13z
  show own_G p e below (T13z.setTop (mkF m 131 #[.val (.ref a1), .val (.int (Int32.ofNat pn)), .val (.ref a2), .unset] [(.int (1 : Int32))])) _
  refine own_go (fun t k => XS.ifNo X13z.here hx rfl (hb hby d_method_3_code_131) rfl ((if0 _ _).trans (feq (by decide : ¬ ((1 : Int32) = (0 : Int32)))).1) k) ?_
  show own_G p e below (T13z.setTop (mkF m 134 #[.val (.ref a1), .val (.int (Int32.ofNat pn)), .val (.ref a2), .unset] [])) _
  refine own_go (fun t k => XS.aloadN X13z.here hx rfl (hb hby d_method_3_code_134) rfl rfl k) ?_
  refine own_go (fun t k => XS.iloadN X13z.here hx rfl (hb hby d_method_3_code_135) rfl k) ?_
  refine own_go (fun t k => XS.aloadN X13z.here hx rfl (hb hby d_method_3_code_136) rfl rfl k) ?_
  show own_G p e below (T13z.setTop (mkF m 137 #[.val (.ref a1), .val (.int (Int32.ofNat pn)), .val (.ref a2), .unset] [(.ref a2), (.int (Int32.ofNat pn)), (.ref a1)])) _
  refine own_go (fun t k => XS.bipush X13z.here hx rfl (hb hby d_method_3_code_137) k) ?_
  obtain ⟨_, _, ⟨T14z, L14z, k14z, n14z⟩, -, X14z, ⟨Lc14z, hQ14z, l14z, y14z, z14z⟩, st14z⟩ := Jvm.LawKit.callS X13z hx (y := own_m34) hown (own_mw hZ hw 211 rfl) (own_mw hZ hw 212 rfl) (own_mw hZ hw 208 rfl) (own_mw hZ hw 213 rfl) (by decide) (backOf (W := 0) (own_litc l Z a0 hw [] a1 b1 k1 cs1 pn a2 b2 k2 cs2 (11 : Int32) 11 cz fm h0 O0 q0 q1 q2 q3 hl1 q5 q6 q7 q8 hl2 hasc1 hasc2 (by decide) hpl hm S_CS hcs S_FM hfm) hZ (own_hw hw 213 rfl) (own_hw hw 208 rfl) (by decide) (by decide)) (g := (mkF m 139 #[.val (.ref a1), .val (.int (Int32.ofNat pn)), .val (.ref a2), .unset] [(.int (11 : Int32)), (.ref a2), (.int (Int32.ofNat pn)), (.ref a1)])) rfl (by rw [hml]; rfl) (argsL := [(.ref a1), (.int (Int32.ofNat pn)), (.ref a2), (.int (11 : Int32))]) (rest := []) (lenOf pd_731350626 rfl) rfl (by show 2 * 0 + _ ≤ _; exact Nat.le_of_eq rfl) (hb hby d_method_3_code_139) (fun _ _ => ⟨rfl, K13zq, (by decide : 0 + 0 ≤ _), (by decide : 0 + 0 ≤ _)⟩)
  dsimp only [Pt.U, Pt.locs, Pt.cells, Pt.slots] at X14z l14z y14z z14z st14z hQ14z
  subst l14z y14z z14z
  obtain ⟨rfl, NQ14z, K14zq⟩ := hQ14z
  refine own_go st14z ?_
  have N14z := Fr.app N13z NQ14z
  show own_G p e below (T14z.setTop (mkF m 142 #[.val (.ref a1), .val (.int (Int32.ofNat pn)), .val (.ref a2), .unset] [(.int (1 : Int32))])) _
  refine own_go (fun t k => XS.ifNo X14z.here hx rfl (hb hby d_method_3_code_142) rfl ((if0 _ _).trans (feq (by decide : ¬ ((1 : Int32) = (0 : Int32)))).1) k) ?_
  show own_G p e below (T14z.setTop (mkF m 145 #[.val (.ref a1), .val (.int (Int32.ofNat pn)), .val (.ref a2), .unset] [])) _
  refine own_go (fun t k => XS.iconst X14z.here hx rfl (hb hby d_method_3_code_145) k) ?_
  refine own_go (fun t k => XS.goto X14z.here hx rfl (pc0 := 146) (pc' := 150) rfl (hb hby d_method_3_code_146) (by decide) (by decide) k) ?_
  show own_G p e below (T14z.setTop (mkF m 150 #[.val (.ref a1), .val (.int (Int32.ofNat pn)), .val (.ref a2), .unset] [(.int (1 : Int32))])) _
  refine own_go (fun t k => XS.istoreN X14z.here hx rfl (hb hby d_method_3_code_150) rfl (l' := #[.val (.ref a1), .val (.int (Int32.ofNat pn)), .val (.ref a2), .val (.int (1 : Int32))]) rfl k) ?_
  refine own_go (fun t k => XS.iloadN X14z.here hx rfl (hb hby d_method_3_code_151) rfl k) ?_
  refine own_go (fun t k => XS.ifNo X14z.here hx rfl (hb hby d_method_3_code_152) rfl ((if0 _ _).trans (feq (by decide : ¬ ((1 : Int32) = (0 : Int32)))).1) k) ?_
  show own_G p e below (T14z.setTop (mkF m 155 #[.val (.ref a1), .val (.int (Int32.ofNat pn)), .val (.ref a2), .val (.int (1 : Int32))] [])) _
  refine own_go (fun t k => XS.iloadN X14z.here hx rfl (hb hby d_method_3_code_155) rfl k) ?_
  refine own_go (fun t k => XS.aloadN X14z.here hx rfl (hb hby d_method_3_code_156) rfl rfl k) ?_
  obtain ⟨cq15z, kq15z, qa15z, qb15z, qc15z⟩ := isOf hZ K14zq q5
  obtain ⟨_, _, ⟨T15z, L15z, k15z, n15z⟩, -, X15z, ⟨Lc15z, hQ15z, l15z, y15z, z15z⟩, st15z⟩ := X14z.virtualBack hx (y := own_m7) (z := own_m7) hown (own_mw hZ hw 210 rfl) (own_mw hZ hw 59 rfl) (notFace_of_selects (args := #[]) (own_mw hZ hw 61 rfl)) (own_mw hZ hw 61 rfl) (own_mw hZ hw 60 rfl) (by decide) (backOf (W := 1) (own_slen l Z a0 hw [] a2 b2 k2 cs2 cz h0 O0 q5 q6 q7 q8 hl2 S_CS hcs) hZ (own_hw hw 62 rfl) (own_hw hw 36 rfl) (by decide) (by decide)) qa15z qc15z (g := (mkF m 157 #[.val (.ref a1), .val (.int (Int32.ofNat pn)), .val (.ref a2), .val (.int (1 : Int32))] [(.ref a2), (.int (Int32.ofNat pn))])) rfl (by rw [hml]; rfl) (Steps.refl _) (argsL := []) (rest := [(.int (Int32.ofNat pn))]) (lenOf pd_193421983 rfl) rfl (by show 2 * 0 + _ ≤ _; exact Nat.le_of_eq rfl) (hb hby d_method_3_code_157) (fun _ _ => ⟨rfl, K14zq, (by decide : 0 + 0 ≤ _), (by decide : 0 + 0 ≤ _)⟩)
  dsimp only [Pt.U, Pt.locs, Pt.cells, Pt.slots] at X15z l15z y15z z15z st15z hQ15z
  subst l15z y15z z15z
  obtain ⟨rfl, NQ15z, K15zq⟩ := hQ15z
  refine own_tr st15z ?_
  have N15z := Fr.app N14z NQ15z
  show own_G p e below (T15z.setTop (mkF m 160 #[.val (.ref a1), .val (.int (Int32.ofNat pn)), .val (.ref a2), .val (.int (1 : Int32))] [(.int (Int32.ofNat cs2.length)), (.int (Int32.ofNat pn))])) _
  refine own_go (fun t k => XS.iadd X15z.here hx rfl (hb hby d_method_3_code_160) rfl k) ?_
  show own_G p e below (T15z.setTop (mkF m 161 #[.val (.ref a1), .val (.int (Int32.ofNat pn)), .val (.ref a2), .val (.int (1 : Int32))] [(.int ((Int32.ofNat pn) + (Int32.ofNat cs2.length)))])) _
  rw [own_addN (by omega)]
  show own_G p e below (T15z.setTop (mkF m 161 #[.val (.ref a1), .val (.int (Int32.ofNat pn)), .val (.ref a2), .val (.int (1 : Int32))] [(.int (Int32.ofNat (pn + cs2.length)))])) _
  refine own_go (fun t k => XS.goto X15z.here hx rfl (pc0 := 161) (pc' := 165) rfl (hb hby d_method_3_code_161) (by decide) (by decide) k) ?_
  show own_G p e below (T15z.setTop (mkF m 165 #[.val (.ref a1), .val (.int (Int32.ofNat pn)), .val (.ref a2), .val (.int (1 : Int32))] [(.int (Int32.ofNat (pn + cs2.length)))])) _
  exact own_ret X15z hx Bd.returns rfl (Or.inl ⟨rfl, Or.inl rfl, _, rfl⟩) (hb hby d_method_3_code_165) hlk (Nat.le_of_ble_eq_true rfl) (Nat.le_of_ble_eq_true rfl) (by show Q_own_lit Z a1 b1 k1 cs1 pn a2 b2 k2 cs2 cz fm h0 _ T15z.heap _; rw [K15zq]; exact ⟨rfl, N15z, rfl⟩)
theorem ef_own_absM (m : MethodId) (x0 : Int64) : entryFrame m #[(.long x0)] 2 = mkF m 0 #[.val (.long x0), .second] [] := by first | (simp [entryFrame, mkF, argsToLocals, Value.category]; done) | rfl
theorem pf_own_absM : plainFor own_m36 = true := by decide +kernel
theorem d_jdk_29_method_61_code_0 : decode jdk_29_method_61_code 0 = .ok (.lload_n 0, 1) := by decide +kernel
theorem d_jdk_29_method_61_code_1 : decode jdk_29_method_61_code 1 = .ok (.lconst 0, 1) := by decide +kernel
theorem d_jdk_29_method_61_code_11 : decode jdk_29_method_61_code 11 = .ok (.lload_n 0, 1) := by decide +kernel
theorem d_jdk_29_method_61_code_12 : decode jdk_29_method_61_code 12 = .ok (.lreturn, 1) := by decide +kernel
theorem d_jdk_29_method_61_code_2 : decode jdk_29_method_61_code 2 = .ok (.lcmp, 1) := by decide +kernel
theorem d_jdk_29_method_61_code_3 : decode jdk_29_method_61_code 3 = .ok (.ifCond .ge 8, 3) := by decide +kernel
theorem d_jdk_29_method_61_code_6 : decode jdk_29_method_61_code 6 = .ok (.lload_n 0, 1) := by decide +kernel
theorem d_jdk_29_method_61_code_7 : decode jdk_29_method_61_code 7 = .ok (.lneg, 1) := by decide +kernel
theorem d_jdk_29_method_61_code_8 : decode jdk_29_method_61_code 8 = .ok (.goto 4, 3) := by decide +kernel
def Q_own_absM (Z : State) (x : Int64) (h0 : Heap) (v : Option Value) (h : Heap) (L : List Loc) : Prop := v = some (.long (own_abs x)) ∧ Fr Z.heap.size L ∧ h = h0
set_option maxRecDepth 65536 in
set_option maxHeartbeats 40000000 in
theorem own_absM (l : Launch) (Z : State) (a0 : Array Value) (hw : ∀ d ∈ tables_1, d.before a0 Z = true) (ws : List Jvm.Cond) (x : Int64) (h0 : Heap) (O0 : Ext Z.heap h0) :
    MetFree l own_m36 (head1 (Jvm.Cond.code own_m36 jdk_29_method_61_code 2 (some .long) :: ws) ({ frames := 0, cells := 0, slots := 0, locals := 0 } : Room)) (fun aa U => aa = #[(.long x)] ∧ Z.Warmed39 U.vm ∧ U.heap = h0) (fun _ _ _ _ _ => True) (fun _ U o U' => ∃ v L, o = .returned v ∧ Q_own_absM Z x h0 v U'.heap L ∧ FrameEnd U o U' L ({ frames := 0, cells := 0, slots := 0, locals := 0 } : Room).cells ({ frames := 0, cells := 0, slots := 0, locals := 0 } : Room).slots) := by
  refine MetFree.of_bodySF pf_own_absM hisR ?_
  intro p e s m args below meth c s₁ Bd hml0 hP hK
  obtain ⟨rfl, hZ, hh⟩ := hP
  have hx := Bd.exec
  have hby := Bd.bytes
  have hlk := BodyLoose.notSynchronized Bd
  have hml : c.maxLocals = 2 := hml0
  have hown : s.vm.findClass "java/lang/Math" = some m.cls := findClass_of_methodNamed Bd.named
  have hnm := (name_of_methodNamed Bd.named Bd.method).1
  have X0 : Stand p l e ({ frames := 0, cells := 0, slots := 0, locals := 0 } : Room) s m #[(.long x)] below meth c s₁ [] 0 0 := Stand.of_body Bd
  have e0 : s₁.heap = h0 := by rw [← hh, Bd.state]; rfl
  have N0 := Fr.nil Z.heap.size
  have K0 : Keep h0 h0 [] := Keep.refl _ _
  refine own_start (Q := Q_own_absM Z x h0) (ef_own_absM m (x)) ?_
  show own_G p e below (s₁.setTop (mkF m 0 #[.val (.long x), .second] [])) _
  refine own_go (fun t k => XS.lloadN X0.here hx rfl (hb hby d_jdk_29_method_61_code_0) rfl k) ?_
  refine own_go (fun t k => XS.lconst X0.here hx rfl (hb hby d_jdk_29_method_61_code_1) k) ?_
  refine own_go (fun t k => XS.lcmp X0.here hx rfl (hb hby d_jdk_29_method_61_code_2) rfl k) ?_
  show own_G p e below (s₁.setTop (mkF m 3 #[.val (.long x), .second] [(.int (lcmpW x (0 : Int64)))])) _
  by_cases hc1z : x < (0 : Int64)
  · refine own_go (fun t k => XS.ifNo X0.here hx rfl (hb hby d_jdk_29_method_61_code_3) rfl ((if0 _ _).trans (tlt ((lw_lt x (0 : Int64)).mpr hc1z)).2.1) k) ?_
    show own_G p e below (s₁.setTop (mkF m 6 #[.val (.long x), .second] [])) _
    refine own_go (fun t k => XS.lloadN X0.here hx rfl (hb hby d_jdk_29_method_61_code_6) rfl k) ?_
    refine own_go (fun t k => XS.lneg X0.here hx rfl (hb hby d_jdk_29_method_61_code_7) rfl k) ?_
    refine own_go (fun t k => XS.goto X0.here hx rfl (pc0 := 8) (pc' := 12) rfl (hb hby d_jdk_29_method_61_code_8) (by decide) (by decide) k) ?_
    show own_G p e below (s₁.setTop (mkF m 12 #[.val (.long x), .second] [(.long (-x))])) _
    exact own_ret X0 hx Bd.returns rfl (Or.inr (Or.inl ⟨rfl, rfl, _, rfl⟩)) (hb hby d_jdk_29_method_61_code_12) hlk (Nat.le_of_ble_eq_true rfl) (Nat.le_of_ble_eq_true rfl) (by show Q_own_absM Z x h0 _ s₁.heap _; rw [e0]; exact ⟨(congrArg (fun z => some (Value.long z)) (show own_abs x = _ from if_pos hc1z).symm), N0, rfl⟩)
  · refine own_go (fun t k => XS.ifYes X0.here hx rfl (pc0 := 3) (pc' := 11) rfl (hb hby d_jdk_29_method_61_code_3) rfl ((if0 _ _).trans (flt (fun q_z => hc1z ((lw_lt x (0 : Int64)).mp q_z))).2.1) (by decide) (by decide) k) ?_
    show own_G p e below (s₁.setTop (mkF m 11 #[.val (.long x), .second] [])) _
    refine own_go (fun t k => XS.lloadN X0.here hx rfl (hb hby d_jdk_29_method_61_code_11) rfl k) ?_
    exact own_ret X0 hx Bd.returns rfl (Or.inr (Or.inl ⟨rfl, rfl, _, rfl⟩)) (hb hby d_jdk_29_method_61_code_12) hlk (Nat.le_of_ble_eq_true rfl) (Nat.le_of_ble_eq_true rfl) (by show Q_own_absM Z x h0 _ s₁.heap _; rw [e0]; exact ⟨(congrArg (fun z => some (Value.long z)) (show own_abs x = _ from if_neg hc1z).symm), N0, rfl⟩)
theorem ef_own_dc (m : MethodId) (x0 : Int64) : entryFrame m #[(.long x0)] 3 = mkF m 0 #[.val (.long x0), .second, .unset] [] := by first | (simp [entryFrame, mkF, argsToLocals, Value.category]; done) | rfl
theorem pf_own_dc : plainFor own_m37 = true := plainFor_of_name (by simp [plainName, overriddenIn])
theorem d_method_6_code_0 : decode method_6_code 0 = .ok (.iconst 1, 1) := by decide +kernel
theorem d_method_6_code_1 : decode method_6_code 1 = .ok (.istore_n 2, 1) := by decide +kernel
theorem d_method_6_code_101 : decode method_6_code 101 = .ok (.istore_n 2, 1) := by decide +kernel
theorem d_method_6_code_102 : decode method_6_code 102 = .ok (.lload_n 0, 1) := by decide +kernel
theorem d_method_6_code_103 : decode method_6_code 103 = .ok (.ldc2_w 72, 3) := by decide +kernel
theorem d_method_6_code_106 : decode method_6_code 106 = .ok (.ldiv, 1) := by decide +kernel
theorem d_method_6_code_107 : decode method_6_code 107 = .ok (.lconst 0, 1) := by decide +kernel
theorem d_method_6_code_108 : decode method_6_code 108 = .ok (.lcmp, 1) := by decide +kernel
theorem d_method_6_code_109 : decode method_6_code 109 = .ok (.ifCond .eq 6, 3) := by decide +kernel
theorem d_method_6_code_112 : decode method_6_code 112 = .ok (.bipush 10, 2) := by decide +kernel
theorem d_method_6_code_114 : decode method_6_code 114 = .ok (.istore_n 2, 1) := by decide +kernel
theorem d_method_6_code_115 : decode method_6_code 115 = .ok (.lload_n 0, 1) := by decide +kernel
theorem d_method_6_code_116 : decode method_6_code 116 = .ok (.ldc2_w 74, 3) := by decide +kernel
theorem d_method_6_code_119 : decode method_6_code 119 = .ok (.ldiv, 1) := by decide +kernel
theorem d_method_6_code_12 : decode method_6_code 12 = .ok (.iconst 2, 1) := by decide +kernel
theorem d_method_6_code_120 : decode method_6_code 120 = .ok (.lconst 0, 1) := by decide +kernel
theorem d_method_6_code_121 : decode method_6_code 121 = .ok (.lcmp, 1) := by decide +kernel
theorem d_method_6_code_122 : decode method_6_code 122 = .ok (.ifCond .eq 6, 3) := by decide +kernel
theorem d_method_6_code_125 : decode method_6_code 125 = .ok (.bipush 11, 2) := by decide +kernel
theorem d_method_6_code_127 : decode method_6_code 127 = .ok (.istore_n 2, 1) := by decide +kernel
theorem d_method_6_code_128 : decode method_6_code 128 = .ok (.lload_n 0, 1) := by decide +kernel
theorem d_method_6_code_129 : decode method_6_code 129 = .ok (.ldc2_w 76, 3) := by decide +kernel
theorem d_method_6_code_13 : decode method_6_code 13 = .ok (.istore_n 2, 1) := by decide +kernel
theorem d_method_6_code_132 : decode method_6_code 132 = .ok (.ldiv, 1) := by decide +kernel
theorem d_method_6_code_133 : decode method_6_code 133 = .ok (.lconst 0, 1) := by decide +kernel
theorem d_method_6_code_134 : decode method_6_code 134 = .ok (.lcmp, 1) := by decide +kernel
theorem d_method_6_code_135 : decode method_6_code 135 = .ok (.ifCond .eq 6, 3) := by decide +kernel
theorem d_method_6_code_138 : decode method_6_code 138 = .ok (.bipush 12, 2) := by decide +kernel
theorem d_method_6_code_14 : decode method_6_code 14 = .ok (.lload_n 0, 1) := by decide +kernel
theorem d_method_6_code_140 : decode method_6_code 140 = .ok (.istore_n 2, 1) := by decide +kernel
theorem d_method_6_code_141 : decode method_6_code 141 = .ok (.lload_n 0, 1) := by decide +kernel
theorem d_method_6_code_142 : decode method_6_code 142 = .ok (.ldc2_w 78, 3) := by decide +kernel
theorem d_method_6_code_145 : decode method_6_code 145 = .ok (.ldiv, 1) := by decide +kernel
theorem d_method_6_code_146 : decode method_6_code 146 = .ok (.lconst 0, 1) := by decide +kernel
theorem d_method_6_code_147 : decode method_6_code 147 = .ok (.lcmp, 1) := by decide +kernel
theorem d_method_6_code_148 : decode method_6_code 148 = .ok (.ifCond .eq 6, 3) := by decide +kernel
theorem d_method_6_code_15 : decode method_6_code 15 = .ok (.ldc2_w 58, 3) := by decide +kernel
theorem d_method_6_code_151 : decode method_6_code 151 = .ok (.bipush 13, 2) := by decide +kernel
theorem d_method_6_code_153 : decode method_6_code 153 = .ok (.istore_n 2, 1) := by decide +kernel
theorem d_method_6_code_154 : decode method_6_code 154 = .ok (.lload_n 0, 1) := by decide +kernel
theorem d_method_6_code_155 : decode method_6_code 155 = .ok (.ldc2_w 80, 3) := by decide +kernel
theorem d_method_6_code_158 : decode method_6_code 158 = .ok (.ldiv, 1) := by decide +kernel
theorem d_method_6_code_159 : decode method_6_code 159 = .ok (.lconst 0, 1) := by decide +kernel
theorem d_method_6_code_160 : decode method_6_code 160 = .ok (.lcmp, 1) := by decide +kernel
theorem d_method_6_code_161 : decode method_6_code 161 = .ok (.ifCond .eq 6, 3) := by decide +kernel
theorem d_method_6_code_164 : decode method_6_code 164 = .ok (.bipush 14, 2) := by decide +kernel
theorem d_method_6_code_166 : decode method_6_code 166 = .ok (.istore_n 2, 1) := by decide +kernel
theorem d_method_6_code_167 : decode method_6_code 167 = .ok (.lload_n 0, 1) := by decide +kernel
theorem d_method_6_code_168 : decode method_6_code 168 = .ok (.ldc2_w 82, 3) := by decide +kernel
theorem d_method_6_code_171 : decode method_6_code 171 = .ok (.ldiv, 1) := by decide +kernel
theorem d_method_6_code_172 : decode method_6_code 172 = .ok (.lconst 0, 1) := by decide +kernel
theorem d_method_6_code_173 : decode method_6_code 173 = .ok (.lcmp, 1) := by decide +kernel
theorem d_method_6_code_174 : decode method_6_code 174 = .ok (.ifCond .eq 6, 3) := by decide +kernel
theorem d_method_6_code_177 : decode method_6_code 177 = .ok (.bipush 15, 2) := by decide +kernel
theorem d_method_6_code_179 : decode method_6_code 179 = .ok (.istore_n 2, 1) := by decide +kernel
theorem d_method_6_code_18 : decode method_6_code 18 = .ok (.ldiv, 1) := by decide +kernel
theorem d_method_6_code_180 : decode method_6_code 180 = .ok (.lload_n 0, 1) := by decide +kernel
theorem d_method_6_code_181 : decode method_6_code 181 = .ok (.ldc2_w 84, 3) := by decide +kernel
theorem d_method_6_code_184 : decode method_6_code 184 = .ok (.ldiv, 1) := by decide +kernel
theorem d_method_6_code_185 : decode method_6_code 185 = .ok (.lconst 0, 1) := by decide +kernel
theorem d_method_6_code_186 : decode method_6_code 186 = .ok (.lcmp, 1) := by decide +kernel
theorem d_method_6_code_187 : decode method_6_code 187 = .ok (.ifCond .eq 6, 3) := by decide +kernel
theorem d_method_6_code_19 : decode method_6_code 19 = .ok (.lconst 0, 1) := by decide +kernel
theorem d_method_6_code_190 : decode method_6_code 190 = .ok (.bipush 16, 2) := by decide +kernel
theorem d_method_6_code_192 : decode method_6_code 192 = .ok (.istore_n 2, 1) := by decide +kernel
theorem d_method_6_code_193 : decode method_6_code 193 = .ok (.lload_n 0, 1) := by decide +kernel
theorem d_method_6_code_194 : decode method_6_code 194 = .ok (.ldc2_w 86, 3) := by decide +kernel
theorem d_method_6_code_197 : decode method_6_code 197 = .ok (.ldiv, 1) := by decide +kernel
theorem d_method_6_code_198 : decode method_6_code 198 = .ok (.lconst 0, 1) := by decide +kernel
theorem d_method_6_code_199 : decode method_6_code 199 = .ok (.lcmp, 1) := by decide +kernel
theorem d_method_6_code_2 : decode method_6_code 2 = .ok (.lload_n 0, 1) := by decide +kernel
theorem d_method_6_code_20 : decode method_6_code 20 = .ok (.lcmp, 1) := by decide +kernel
theorem d_method_6_code_200 : decode method_6_code 200 = .ok (.ifCond .eq 6, 3) := by decide +kernel
theorem d_method_6_code_203 : decode method_6_code 203 = .ok (.bipush 17, 2) := by decide +kernel
theorem d_method_6_code_205 : decode method_6_code 205 = .ok (.istore_n 2, 1) := by decide +kernel
theorem d_method_6_code_206 : decode method_6_code 206 = .ok (.lload_n 0, 1) := by decide +kernel
theorem d_method_6_code_207 : decode method_6_code 207 = .ok (.ldc2_w 88, 3) := by decide +kernel
theorem d_method_6_code_21 : decode method_6_code 21 = .ok (.ifCond .eq 5, 3) := by decide +kernel
theorem d_method_6_code_210 : decode method_6_code 210 = .ok (.ldiv, 1) := by decide +kernel
theorem d_method_6_code_211 : decode method_6_code 211 = .ok (.lconst 0, 1) := by decide +kernel
theorem d_method_6_code_212 : decode method_6_code 212 = .ok (.lcmp, 1) := by decide +kernel
theorem d_method_6_code_213 : decode method_6_code 213 = .ok (.ifCond .eq 6, 3) := by decide +kernel
theorem d_method_6_code_216 : decode method_6_code 216 = .ok (.bipush 18, 2) := by decide +kernel
theorem d_method_6_code_218 : decode method_6_code 218 = .ok (.istore_n 2, 1) := by decide +kernel
theorem d_method_6_code_219 : decode method_6_code 219 = .ok (.lload_n 0, 1) := by decide +kernel
theorem d_method_6_code_220 : decode method_6_code 220 = .ok (.ldc2_w 90, 3) := by decide +kernel
theorem d_method_6_code_223 : decode method_6_code 223 = .ok (.ldiv, 1) := by decide +kernel
theorem d_method_6_code_224 : decode method_6_code 224 = .ok (.lconst 0, 1) := by decide +kernel
theorem d_method_6_code_225 : decode method_6_code 225 = .ok (.lcmp, 1) := by decide +kernel
theorem d_method_6_code_226 : decode method_6_code 226 = .ok (.ifCond .eq 6, 3) := by decide +kernel
theorem d_method_6_code_229 : decode method_6_code 229 = .ok (.bipush 19, 2) := by decide +kernel
theorem d_method_6_code_231 : decode method_6_code 231 = .ok (.istore_n 2, 1) := by decide +kernel
theorem d_method_6_code_232 : decode method_6_code 232 = .ok (.iload_n 2, 1) := by decide +kernel
theorem d_method_6_code_233 : decode method_6_code 233 = .ok (.ireturn, 1) := by decide +kernel
theorem d_method_6_code_24 : decode method_6_code 24 = .ok (.iconst 3, 1) := by decide +kernel
theorem d_method_6_code_25 : decode method_6_code 25 = .ok (.istore_n 2, 1) := by decide +kernel
theorem d_method_6_code_26 : decode method_6_code 26 = .ok (.lload_n 0, 1) := by decide +kernel
theorem d_method_6_code_27 : decode method_6_code 27 = .ok (.ldc2_w 60, 3) := by decide +kernel
theorem d_method_6_code_3 : decode method_6_code 3 = .ok (.ldc2_w 56, 3) := by decide +kernel
theorem d_method_6_code_30 : decode method_6_code 30 = .ok (.ldiv, 1) := by decide +kernel
theorem d_method_6_code_31 : decode method_6_code 31 = .ok (.lconst 0, 1) := by decide +kernel
theorem d_method_6_code_32 : decode method_6_code 32 = .ok (.lcmp, 1) := by decide +kernel
theorem d_method_6_code_33 : decode method_6_code 33 = .ok (.ifCond .eq 5, 3) := by decide +kernel
theorem d_method_6_code_36 : decode method_6_code 36 = .ok (.iconst 4, 1) := by decide +kernel
theorem d_method_6_code_37 : decode method_6_code 37 = .ok (.istore_n 2, 1) := by decide +kernel
theorem d_method_6_code_38 : decode method_6_code 38 = .ok (.lload_n 0, 1) := by decide +kernel
theorem d_method_6_code_39 : decode method_6_code 39 = .ok (.ldc2_w 62, 3) := by decide +kernel
theorem d_method_6_code_42 : decode method_6_code 42 = .ok (.ldiv, 1) := by decide +kernel
theorem d_method_6_code_43 : decode method_6_code 43 = .ok (.lconst 0, 1) := by decide +kernel
theorem d_method_6_code_44 : decode method_6_code 44 = .ok (.lcmp, 1) := by decide +kernel
theorem d_method_6_code_45 : decode method_6_code 45 = .ok (.ifCond .eq 5, 3) := by decide +kernel
theorem d_method_6_code_48 : decode method_6_code 48 = .ok (.iconst 5, 1) := by decide +kernel
theorem d_method_6_code_49 : decode method_6_code 49 = .ok (.istore_n 2, 1) := by decide +kernel
theorem d_method_6_code_50 : decode method_6_code 50 = .ok (.lload_n 0, 1) := by decide +kernel
theorem d_method_6_code_51 : decode method_6_code 51 = .ok (.ldc2_w 64, 3) := by decide +kernel
theorem d_method_6_code_54 : decode method_6_code 54 = .ok (.ldiv, 1) := by decide +kernel
theorem d_method_6_code_55 : decode method_6_code 55 = .ok (.lconst 0, 1) := by decide +kernel
theorem d_method_6_code_56 : decode method_6_code 56 = .ok (.lcmp, 1) := by decide +kernel
theorem d_method_6_code_57 : decode method_6_code 57 = .ok (.ifCond .eq 6, 3) := by decide +kernel
theorem d_method_6_code_6 : decode method_6_code 6 = .ok (.ldiv, 1) := by decide +kernel
theorem d_method_6_code_60 : decode method_6_code 60 = .ok (.bipush 6, 2) := by decide +kernel
theorem d_method_6_code_62 : decode method_6_code 62 = .ok (.istore_n 2, 1) := by decide +kernel
theorem d_method_6_code_63 : decode method_6_code 63 = .ok (.lload_n 0, 1) := by decide +kernel
theorem d_method_6_code_64 : decode method_6_code 64 = .ok (.ldc2_w 66, 3) := by decide +kernel
theorem d_method_6_code_67 : decode method_6_code 67 = .ok (.ldiv, 1) := by decide +kernel
theorem d_method_6_code_68 : decode method_6_code 68 = .ok (.lconst 0, 1) := by decide +kernel
theorem d_method_6_code_69 : decode method_6_code 69 = .ok (.lcmp, 1) := by decide +kernel
theorem d_method_6_code_7 : decode method_6_code 7 = .ok (.lconst 0, 1) := by decide +kernel
theorem d_method_6_code_70 : decode method_6_code 70 = .ok (.ifCond .eq 6, 3) := by decide +kernel
theorem d_method_6_code_73 : decode method_6_code 73 = .ok (.bipush 7, 2) := by decide +kernel
theorem d_method_6_code_75 : decode method_6_code 75 = .ok (.istore_n 2, 1) := by decide +kernel
theorem d_method_6_code_76 : decode method_6_code 76 = .ok (.lload_n 0, 1) := by decide +kernel
theorem d_method_6_code_77 : decode method_6_code 77 = .ok (.ldc2_w 68, 3) := by decide +kernel
theorem d_method_6_code_8 : decode method_6_code 8 = .ok (.lcmp, 1) := by decide +kernel
theorem d_method_6_code_80 : decode method_6_code 80 = .ok (.ldiv, 1) := by decide +kernel
theorem d_method_6_code_81 : decode method_6_code 81 = .ok (.lconst 0, 1) := by decide +kernel
theorem d_method_6_code_82 : decode method_6_code 82 = .ok (.lcmp, 1) := by decide +kernel
theorem d_method_6_code_83 : decode method_6_code 83 = .ok (.ifCond .eq 6, 3) := by decide +kernel
theorem d_method_6_code_86 : decode method_6_code 86 = .ok (.bipush 8, 2) := by decide +kernel
theorem d_method_6_code_88 : decode method_6_code 88 = .ok (.istore_n 2, 1) := by decide +kernel
theorem d_method_6_code_89 : decode method_6_code 89 = .ok (.lload_n 0, 1) := by decide +kernel
theorem d_method_6_code_9 : decode method_6_code 9 = .ok (.ifCond .eq 5, 3) := by decide +kernel
theorem d_method_6_code_90 : decode method_6_code 90 = .ok (.ldc2_w 70, 3) := by decide +kernel
theorem d_method_6_code_93 : decode method_6_code 93 = .ok (.ldiv, 1) := by decide +kernel
theorem d_method_6_code_94 : decode method_6_code 94 = .ok (.lconst 0, 1) := by decide +kernel
theorem d_method_6_code_95 : decode method_6_code 95 = .ok (.lcmp, 1) := by decide +kernel
theorem d_method_6_code_96 : decode method_6_code 96 = .ok (.ifCond .eq 6, 3) := by decide +kernel
theorem d_method_6_code_99 : decode method_6_code 99 = .ok (.bipush 9, 2) := by decide +kernel
def Q_own_dc (Z : State) (v_ : Int64) (h0 : Heap) (v : Option Value) (h : Heap) (L : List Loc) : Prop := v = some (.int (Int32.ofNat (own_D v_))) ∧ Fr Z.heap.size L ∧ h = h0
set_option maxRecDepth 65536 in
set_option maxHeartbeats 40000000 in
theorem own_dc (l : Launch) (Z : State) (a0 : Array Value) (hw : ∀ d ∈ tables_1, d.before a0 Z = true) (ws : List Jvm.Cond) (v_ : Int64) (h0 : Heap) (O0 : Ext Z.heap h0) :
    MetFree l own_m37 (head1 (Jvm.Cond.code own_m37 method_6_code 3 (some .int) :: ws) ({ frames := 0, cells := 0, slots := 0, locals := 0 } : Room)) (fun aa U => aa = #[(.long v_)] ∧ Z.Warmed39 U.vm ∧ U.heap = h0) (fun _ _ _ _ _ => True) (fun _ U o U' => ∃ v L, o = .returned v ∧ Q_own_dc Z v_ h0 v U'.heap L ∧ FrameEnd U o U' L ({ frames := 0, cells := 0, slots := 0, locals := 0 } : Room).cells ({ frames := 0, cells := 0, slots := 0, locals := 0 } : Room).slots) := by
  refine MetFree.of_bodySF pf_own_dc hisR ?_
  intro p e s m args below meth c s₁ Bd hml0 hP hK
  obtain ⟨rfl, hZ, hh⟩ := hP
  have hx := Bd.exec
  have hby := Bd.bytes
  have hlk := BodyLoose.notSynchronized Bd
  have hml : c.maxLocals = 3 := hml0
  have hown : s.vm.findClass own_s4 = some m.cls := findClass_of_methodNamed Bd.named
  have hnm := (name_of_methodNamed Bd.named Bd.method).1
  have X0 : Stand p l e ({ frames := 0, cells := 0, slots := 0, locals := 0 } : Room) s m #[(.long v_)] below meth c s₁ [] 0 0 := Stand.of_body Bd
  have e0 : s₁.heap = h0 := by rw [← hh, Bd.state]; rfl
  have N0 := Fr.nil Z.heap.size
  have K0 : Keep h0 h0 [] := Keep.refl _ _
  refine own_start (Q := Q_own_dc Z v_ h0) (ef_own_dc m (v_)) ?_
  show own_G p e below (s₁.setTop (mkF m 0 #[.val (.long v_), .second, .unset] [])) _
  have go19 : ∀ cc : Int32, own_e19 v_ cc = (Int32.ofNat (own_D v_)) → own_G p e below (s₁.setTop (mkF m 232 #[.val (.long v_), .second, .val (.int cc)] [])) (own_P s below ({ frames := 0, cells := 0, slots := 0, locals := 0 } : Room).cells ({ frames := 0, cells := 0, slots := 0, locals := 0 } : Room).slots (Q_own_dc Z v_ h0)) := by
    intro cc hr
    show own_G p e below (s₁.setTop (mkF m 232 #[.val (.long v_), .second, .val (.int cc)] [])) _
    refine own_go (fun t k => XS.iloadN X0.here hx rfl (hb hby d_method_6_code_232) rfl k) ?_
    exact own_ret X0 hx Bd.returns rfl (Or.inl ⟨rfl, Or.inl rfl, _, rfl⟩) (hb hby d_method_6_code_233) hlk (Nat.le_of_ble_eq_true rfl) (Nat.le_of_ble_eq_true rfl) (by show Q_own_dc Z v_ h0 _ s₁.heap _; rw [e0]; exact ⟨(congrArg (fun z => some (Value.int z)) (show cc = _ from hr)), N0, rfl⟩)
  have go18 : ∀ cc : Int32, own_e18 v_ cc = (Int32.ofNat (own_D v_)) → own_G p e below (s₁.setTop (mkF m 219 #[.val (.long v_), .second, .val (.int cc)] [])) (own_P s below ({ frames := 0, cells := 0, slots := 0, locals := 0 } : Room).cells ({ frames := 0, cells := 0, slots := 0, locals := 0 } : Room).slots (Q_own_dc Z v_ h0)) := by
    intro cc hr
    show own_G p e below (s₁.setTop (mkF m 219 #[.val (.long v_), .second, .val (.int cc)] [])) _
    refine own_go (fun t k => XS.lloadN X0.here hx rfl (hb hby d_method_6_code_219) rfl k) ?_
    refine own_go (fun t k => X0.ldc2J hx hown (mvT hZ (own_hw hw 259 rfl)) rfl (hb hby d_method_6_code_220) k) ?_
    refine own_go (fun t k => XS.ldiv X0.here hx rfl (hb hby d_method_6_code_223) rfl (by decide) k) ?_
    show own_G p e below (s₁.setTop (mkF m 224 #[.val (.long v_), .second, .val (.int cc)] [(.long (v_ / (1000000000000000000 : Int64)))])) _
    refine own_go (fun t k => XS.lconst X0.here hx rfl (hb hby d_method_6_code_224) k) ?_
    refine own_go (fun t k => XS.lcmp X0.here hx rfl (hb hby d_method_6_code_225) rfl k) ?_
    by_cases hc1z : (v_ / (1000000000000000000 : Int64)) = (0 : Int64)
    · refine own_go (fun t k => XS.ifYes X0.here hx rfl (pc0 := 226) (pc' := 232) rfl (hb hby d_method_6_code_226) rfl ((if0 _ _).trans (teq ((lw_eq (v_ / (1000000000000000000 : Int64)) (0 : Int64)).mpr hc1z)).1) (by decide) (by decide) k) ?_
      show own_G p e below (s₁.setTop (mkF m 232 #[.val (.long v_), .second, .val (.int cc)] [])) _
      exact go19 _ ((show own_e18 v_ cc = _ from if_pos hc1z).symm.trans hr)
    · refine own_go (fun t k => XS.ifNo X0.here hx rfl (hb hby d_method_6_code_226) rfl ((if0 _ _).trans (feq (fun q_z => hc1z ((lw_eq (v_ / (1000000000000000000 : Int64)) (0 : Int64)).mp q_z))).1) k) ?_
      show own_G p e below (s₁.setTop (mkF m 229 #[.val (.long v_), .second, .val (.int cc)] [])) _
      refine own_go (fun t k => XS.bipush X0.here hx rfl (hb hby d_method_6_code_229) k) ?_
      refine own_go (fun t k => XS.istoreN X0.here hx rfl (hb hby d_method_6_code_231) rfl (l' := #[.val (.long v_), .second, .val (.int (19 : Int32))]) rfl k) ?_
      exact go19 _ ((show own_e18 v_ cc = _ from if_neg hc1z).symm.trans hr)
  have go17 : ∀ cc : Int32, own_e17 v_ cc = (Int32.ofNat (own_D v_)) → own_G p e below (s₁.setTop (mkF m 206 #[.val (.long v_), .second, .val (.int cc)] [])) (own_P s below ({ frames := 0, cells := 0, slots := 0, locals := 0 } : Room).cells ({ frames := 0, cells := 0, slots := 0, locals := 0 } : Room).slots (Q_own_dc Z v_ h0)) := by
    intro cc hr
    show own_G p e below (s₁.setTop (mkF m 206 #[.val (.long v_), .second, .val (.int cc)] [])) _
    refine own_go (fun t k => XS.lloadN X0.here hx rfl (hb hby d_method_6_code_206) rfl k) ?_
    refine own_go (fun t k => X0.ldc2J hx hown (mvT hZ (own_hw hw 258 rfl)) rfl (hb hby d_method_6_code_207) k) ?_
    refine own_go (fun t k => XS.ldiv X0.here hx rfl (hb hby d_method_6_code_210) rfl (by decide) k) ?_
    show own_G p e below (s₁.setTop (mkF m 211 #[.val (.long v_), .second, .val (.int cc)] [(.long (v_ / (100000000000000000 : Int64)))])) _
    refine own_go (fun t k => XS.lconst X0.here hx rfl (hb hby d_method_6_code_211) k) ?_
    refine own_go (fun t k => XS.lcmp X0.here hx rfl (hb hby d_method_6_code_212) rfl k) ?_
    by_cases hc2z : (v_ / (100000000000000000 : Int64)) = (0 : Int64)
    · refine own_go (fun t k => XS.ifYes X0.here hx rfl (pc0 := 213) (pc' := 219) rfl (hb hby d_method_6_code_213) rfl ((if0 _ _).trans (teq ((lw_eq (v_ / (100000000000000000 : Int64)) (0 : Int64)).mpr hc2z)).1) (by decide) (by decide) k) ?_
      show own_G p e below (s₁.setTop (mkF m 219 #[.val (.long v_), .second, .val (.int cc)] [])) _
      exact go18 _ ((show own_e17 v_ cc = _ from if_pos hc2z).symm.trans hr)
    · refine own_go (fun t k => XS.ifNo X0.here hx rfl (hb hby d_method_6_code_213) rfl ((if0 _ _).trans (feq (fun q_z => hc2z ((lw_eq (v_ / (100000000000000000 : Int64)) (0 : Int64)).mp q_z))).1) k) ?_
      show own_G p e below (s₁.setTop (mkF m 216 #[.val (.long v_), .second, .val (.int cc)] [])) _
      refine own_go (fun t k => XS.bipush X0.here hx rfl (hb hby d_method_6_code_216) k) ?_
      refine own_go (fun t k => XS.istoreN X0.here hx rfl (hb hby d_method_6_code_218) rfl (l' := #[.val (.long v_), .second, .val (.int (18 : Int32))]) rfl k) ?_
      exact go18 _ ((show own_e17 v_ cc = _ from if_neg hc2z).symm.trans hr)
  have go16 : ∀ cc : Int32, own_e16 v_ cc = (Int32.ofNat (own_D v_)) → own_G p e below (s₁.setTop (mkF m 193 #[.val (.long v_), .second, .val (.int cc)] [])) (own_P s below ({ frames := 0, cells := 0, slots := 0, locals := 0 } : Room).cells ({ frames := 0, cells := 0, slots := 0, locals := 0 } : Room).slots (Q_own_dc Z v_ h0)) := by
    intro cc hr
    show own_G p e below (s₁.setTop (mkF m 193 #[.val (.long v_), .second, .val (.int cc)] [])) _
    refine own_go (fun t k => XS.lloadN X0.here hx rfl (hb hby d_method_6_code_193) rfl k) ?_
    refine own_go (fun t k => X0.ldc2J hx hown (mvT hZ (own_hw hw 257 rfl)) rfl (hb hby d_method_6_code_194) k) ?_
    refine own_go (fun t k => XS.ldiv X0.here hx rfl (hb hby d_method_6_code_197) rfl (by decide) k) ?_
    show own_G p e below (s₁.setTop (mkF m 198 #[.val (.long v_), .second, .val (.int cc)] [(.long (v_ / (10000000000000000 : Int64)))])) _
    refine own_go (fun t k => XS.lconst X0.here hx rfl (hb hby d_method_6_code_198) k) ?_
    refine own_go (fun t k => XS.lcmp X0.here hx rfl (hb hby d_method_6_code_199) rfl k) ?_
    by_cases hc3z : (v_ / (10000000000000000 : Int64)) = (0 : Int64)
    · refine own_go (fun t k => XS.ifYes X0.here hx rfl (pc0 := 200) (pc' := 206) rfl (hb hby d_method_6_code_200) rfl ((if0 _ _).trans (teq ((lw_eq (v_ / (10000000000000000 : Int64)) (0 : Int64)).mpr hc3z)).1) (by decide) (by decide) k) ?_
      show own_G p e below (s₁.setTop (mkF m 206 #[.val (.long v_), .second, .val (.int cc)] [])) _
      exact go17 _ ((show own_e16 v_ cc = _ from if_pos hc3z).symm.trans hr)
    · refine own_go (fun t k => XS.ifNo X0.here hx rfl (hb hby d_method_6_code_200) rfl ((if0 _ _).trans (feq (fun q_z => hc3z ((lw_eq (v_ / (10000000000000000 : Int64)) (0 : Int64)).mp q_z))).1) k) ?_
      show own_G p e below (s₁.setTop (mkF m 203 #[.val (.long v_), .second, .val (.int cc)] [])) _
      refine own_go (fun t k => XS.bipush X0.here hx rfl (hb hby d_method_6_code_203) k) ?_
      refine own_go (fun t k => XS.istoreN X0.here hx rfl (hb hby d_method_6_code_205) rfl (l' := #[.val (.long v_), .second, .val (.int (17 : Int32))]) rfl k) ?_
      exact go17 _ ((show own_e16 v_ cc = _ from if_neg hc3z).symm.trans hr)
  have go15 : ∀ cc : Int32, own_e15 v_ cc = (Int32.ofNat (own_D v_)) → own_G p e below (s₁.setTop (mkF m 180 #[.val (.long v_), .second, .val (.int cc)] [])) (own_P s below ({ frames := 0, cells := 0, slots := 0, locals := 0 } : Room).cells ({ frames := 0, cells := 0, slots := 0, locals := 0 } : Room).slots (Q_own_dc Z v_ h0)) := by
    intro cc hr
    show own_G p e below (s₁.setTop (mkF m 180 #[.val (.long v_), .second, .val (.int cc)] [])) _
    refine own_go (fun t k => XS.lloadN X0.here hx rfl (hb hby d_method_6_code_180) rfl k) ?_
    refine own_go (fun t k => X0.ldc2J hx hown (mvT hZ (own_hw hw 256 rfl)) rfl (hb hby d_method_6_code_181) k) ?_
    refine own_go (fun t k => XS.ldiv X0.here hx rfl (hb hby d_method_6_code_184) rfl (by decide) k) ?_
    show own_G p e below (s₁.setTop (mkF m 185 #[.val (.long v_), .second, .val (.int cc)] [(.long (v_ / (1000000000000000 : Int64)))])) _
    refine own_go (fun t k => XS.lconst X0.here hx rfl (hb hby d_method_6_code_185) k) ?_
    refine own_go (fun t k => XS.lcmp X0.here hx rfl (hb hby d_method_6_code_186) rfl k) ?_
    by_cases hc4z : (v_ / (1000000000000000 : Int64)) = (0 : Int64)
    · refine own_go (fun t k => XS.ifYes X0.here hx rfl (pc0 := 187) (pc' := 193) rfl (hb hby d_method_6_code_187) rfl ((if0 _ _).trans (teq ((lw_eq (v_ / (1000000000000000 : Int64)) (0 : Int64)).mpr hc4z)).1) (by decide) (by decide) k) ?_
      show own_G p e below (s₁.setTop (mkF m 193 #[.val (.long v_), .second, .val (.int cc)] [])) _
      exact go16 _ ((show own_e15 v_ cc = _ from if_pos hc4z).symm.trans hr)
    · refine own_go (fun t k => XS.ifNo X0.here hx rfl (hb hby d_method_6_code_187) rfl ((if0 _ _).trans (feq (fun q_z => hc4z ((lw_eq (v_ / (1000000000000000 : Int64)) (0 : Int64)).mp q_z))).1) k) ?_
      show own_G p e below (s₁.setTop (mkF m 190 #[.val (.long v_), .second, .val (.int cc)] [])) _
      refine own_go (fun t k => XS.bipush X0.here hx rfl (hb hby d_method_6_code_190) k) ?_
      refine own_go (fun t k => XS.istoreN X0.here hx rfl (hb hby d_method_6_code_192) rfl (l' := #[.val (.long v_), .second, .val (.int (16 : Int32))]) rfl k) ?_
      exact go16 _ ((show own_e15 v_ cc = _ from if_neg hc4z).symm.trans hr)
  have go14 : ∀ cc : Int32, own_e14 v_ cc = (Int32.ofNat (own_D v_)) → own_G p e below (s₁.setTop (mkF m 167 #[.val (.long v_), .second, .val (.int cc)] [])) (own_P s below ({ frames := 0, cells := 0, slots := 0, locals := 0 } : Room).cells ({ frames := 0, cells := 0, slots := 0, locals := 0 } : Room).slots (Q_own_dc Z v_ h0)) := by
    intro cc hr
    show own_G p e below (s₁.setTop (mkF m 167 #[.val (.long v_), .second, .val (.int cc)] [])) _
    refine own_go (fun t k => XS.lloadN X0.here hx rfl (hb hby d_method_6_code_167) rfl k) ?_
    refine own_go (fun t k => X0.ldc2J hx hown (mvT hZ (own_hw hw 255 rfl)) rfl (hb hby d_method_6_code_168) k) ?_
    refine own_go (fun t k => XS.ldiv X0.here hx rfl (hb hby d_method_6_code_171) rfl (by decide) k) ?_
    show own_G p e below (s₁.setTop (mkF m 172 #[.val (.long v_), .second, .val (.int cc)] [(.long (v_ / (100000000000000 : Int64)))])) _
    refine own_go (fun t k => XS.lconst X0.here hx rfl (hb hby d_method_6_code_172) k) ?_
    refine own_go (fun t k => XS.lcmp X0.here hx rfl (hb hby d_method_6_code_173) rfl k) ?_
    by_cases hc5z : (v_ / (100000000000000 : Int64)) = (0 : Int64)
    · refine own_go (fun t k => XS.ifYes X0.here hx rfl (pc0 := 174) (pc' := 180) rfl (hb hby d_method_6_code_174) rfl ((if0 _ _).trans (teq ((lw_eq (v_ / (100000000000000 : Int64)) (0 : Int64)).mpr hc5z)).1) (by decide) (by decide) k) ?_
      show own_G p e below (s₁.setTop (mkF m 180 #[.val (.long v_), .second, .val (.int cc)] [])) _
      exact go15 _ ((show own_e14 v_ cc = _ from if_pos hc5z).symm.trans hr)
    · refine own_go (fun t k => XS.ifNo X0.here hx rfl (hb hby d_method_6_code_174) rfl ((if0 _ _).trans (feq (fun q_z => hc5z ((lw_eq (v_ / (100000000000000 : Int64)) (0 : Int64)).mp q_z))).1) k) ?_
      show own_G p e below (s₁.setTop (mkF m 177 #[.val (.long v_), .second, .val (.int cc)] [])) _
      refine own_go (fun t k => XS.bipush X0.here hx rfl (hb hby d_method_6_code_177) k) ?_
      refine own_go (fun t k => XS.istoreN X0.here hx rfl (hb hby d_method_6_code_179) rfl (l' := #[.val (.long v_), .second, .val (.int (15 : Int32))]) rfl k) ?_
      exact go15 _ ((show own_e14 v_ cc = _ from if_neg hc5z).symm.trans hr)
  have go13 : ∀ cc : Int32, own_e13 v_ cc = (Int32.ofNat (own_D v_)) → own_G p e below (s₁.setTop (mkF m 154 #[.val (.long v_), .second, .val (.int cc)] [])) (own_P s below ({ frames := 0, cells := 0, slots := 0, locals := 0 } : Room).cells ({ frames := 0, cells := 0, slots := 0, locals := 0 } : Room).slots (Q_own_dc Z v_ h0)) := by
    intro cc hr
    show own_G p e below (s₁.setTop (mkF m 154 #[.val (.long v_), .second, .val (.int cc)] [])) _
    refine own_go (fun t k => XS.lloadN X0.here hx rfl (hb hby d_method_6_code_154) rfl k) ?_
    refine own_go (fun t k => X0.ldc2J hx hown (mvT hZ (own_hw hw 254 rfl)) rfl (hb hby d_method_6_code_155) k) ?_
    refine own_go (fun t k => XS.ldiv X0.here hx rfl (hb hby d_method_6_code_158) rfl (by decide) k) ?_
    show own_G p e below (s₁.setTop (mkF m 159 #[.val (.long v_), .second, .val (.int cc)] [(.long (v_ / (10000000000000 : Int64)))])) _
    refine own_go (fun t k => XS.lconst X0.here hx rfl (hb hby d_method_6_code_159) k) ?_
    refine own_go (fun t k => XS.lcmp X0.here hx rfl (hb hby d_method_6_code_160) rfl k) ?_
    by_cases hc6z : (v_ / (10000000000000 : Int64)) = (0 : Int64)
    · refine own_go (fun t k => XS.ifYes X0.here hx rfl (pc0 := 161) (pc' := 167) rfl (hb hby d_method_6_code_161) rfl ((if0 _ _).trans (teq ((lw_eq (v_ / (10000000000000 : Int64)) (0 : Int64)).mpr hc6z)).1) (by decide) (by decide) k) ?_
      show own_G p e below (s₁.setTop (mkF m 167 #[.val (.long v_), .second, .val (.int cc)] [])) _
      exact go14 _ ((show own_e13 v_ cc = _ from if_pos hc6z).symm.trans hr)
    · refine own_go (fun t k => XS.ifNo X0.here hx rfl (hb hby d_method_6_code_161) rfl ((if0 _ _).trans (feq (fun q_z => hc6z ((lw_eq (v_ / (10000000000000 : Int64)) (0 : Int64)).mp q_z))).1) k) ?_
      show own_G p e below (s₁.setTop (mkF m 164 #[.val (.long v_), .second, .val (.int cc)] [])) _
      refine own_go (fun t k => XS.bipush X0.here hx rfl (hb hby d_method_6_code_164) k) ?_
      refine own_go (fun t k => XS.istoreN X0.here hx rfl (hb hby d_method_6_code_166) rfl (l' := #[.val (.long v_), .second, .val (.int (14 : Int32))]) rfl k) ?_
      exact go14 _ ((show own_e13 v_ cc = _ from if_neg hc6z).symm.trans hr)
  have go12 : ∀ cc : Int32, own_e12 v_ cc = (Int32.ofNat (own_D v_)) → own_G p e below (s₁.setTop (mkF m 141 #[.val (.long v_), .second, .val (.int cc)] [])) (own_P s below ({ frames := 0, cells := 0, slots := 0, locals := 0 } : Room).cells ({ frames := 0, cells := 0, slots := 0, locals := 0 } : Room).slots (Q_own_dc Z v_ h0)) := by
    intro cc hr
    show own_G p e below (s₁.setTop (mkF m 141 #[.val (.long v_), .second, .val (.int cc)] [])) _
    refine own_go (fun t k => XS.lloadN X0.here hx rfl (hb hby d_method_6_code_141) rfl k) ?_
    refine own_go (fun t k => X0.ldc2J hx hown (mvT hZ (own_hw hw 253 rfl)) rfl (hb hby d_method_6_code_142) k) ?_
    refine own_go (fun t k => XS.ldiv X0.here hx rfl (hb hby d_method_6_code_145) rfl (by decide) k) ?_
    show own_G p e below (s₁.setTop (mkF m 146 #[.val (.long v_), .second, .val (.int cc)] [(.long (v_ / (1000000000000 : Int64)))])) _
    refine own_go (fun t k => XS.lconst X0.here hx rfl (hb hby d_method_6_code_146) k) ?_
    refine own_go (fun t k => XS.lcmp X0.here hx rfl (hb hby d_method_6_code_147) rfl k) ?_
    by_cases hc7z : (v_ / (1000000000000 : Int64)) = (0 : Int64)
    · refine own_go (fun t k => XS.ifYes X0.here hx rfl (pc0 := 148) (pc' := 154) rfl (hb hby d_method_6_code_148) rfl ((if0 _ _).trans (teq ((lw_eq (v_ / (1000000000000 : Int64)) (0 : Int64)).mpr hc7z)).1) (by decide) (by decide) k) ?_
      show own_G p e below (s₁.setTop (mkF m 154 #[.val (.long v_), .second, .val (.int cc)] [])) _
      exact go13 _ ((show own_e12 v_ cc = _ from if_pos hc7z).symm.trans hr)
    · refine own_go (fun t k => XS.ifNo X0.here hx rfl (hb hby d_method_6_code_148) rfl ((if0 _ _).trans (feq (fun q_z => hc7z ((lw_eq (v_ / (1000000000000 : Int64)) (0 : Int64)).mp q_z))).1) k) ?_
      show own_G p e below (s₁.setTop (mkF m 151 #[.val (.long v_), .second, .val (.int cc)] [])) _
      refine own_go (fun t k => XS.bipush X0.here hx rfl (hb hby d_method_6_code_151) k) ?_
      refine own_go (fun t k => XS.istoreN X0.here hx rfl (hb hby d_method_6_code_153) rfl (l' := #[.val (.long v_), .second, .val (.int (13 : Int32))]) rfl k) ?_
      exact go13 _ ((show own_e12 v_ cc = _ from if_neg hc7z).symm.trans hr)
  have go11 : ∀ cc : Int32, own_e11 v_ cc = (Int32.ofNat (own_D v_)) → own_G p e below (s₁.setTop (mkF m 128 #[.val (.long v_), .second, .val (.int cc)] [])) (own_P s below ({ frames := 0, cells := 0, slots := 0, locals := 0 } : Room).cells ({ frames := 0, cells := 0, slots := 0, locals := 0 } : Room).slots (Q_own_dc Z v_ h0)) := by
    intro cc hr
    show own_G p e below (s₁.setTop (mkF m 128 #[.val (.long v_), .second, .val (.int cc)] [])) _
    refine own_go (fun t k => XS.lloadN X0.here hx rfl (hb hby d_method_6_code_128) rfl k) ?_
    refine own_go (fun t k => X0.ldc2J hx hown (mvT hZ (own_hw hw 252 rfl)) rfl (hb hby d_method_6_code_129) k) ?_
    refine own_go (fun t k => XS.ldiv X0.here hx rfl (hb hby d_method_6_code_132) rfl (by decide) k) ?_
    show own_G p e below (s₁.setTop (mkF m 133 #[.val (.long v_), .second, .val (.int cc)] [(.long (v_ / (100000000000 : Int64)))])) _
    refine own_go (fun t k => XS.lconst X0.here hx rfl (hb hby d_method_6_code_133) k) ?_
    refine own_go (fun t k => XS.lcmp X0.here hx rfl (hb hby d_method_6_code_134) rfl k) ?_
    by_cases hc8z : (v_ / (100000000000 : Int64)) = (0 : Int64)
    · refine own_go (fun t k => XS.ifYes X0.here hx rfl (pc0 := 135) (pc' := 141) rfl (hb hby d_method_6_code_135) rfl ((if0 _ _).trans (teq ((lw_eq (v_ / (100000000000 : Int64)) (0 : Int64)).mpr hc8z)).1) (by decide) (by decide) k) ?_
      show own_G p e below (s₁.setTop (mkF m 141 #[.val (.long v_), .second, .val (.int cc)] [])) _
      exact go12 _ ((show own_e11 v_ cc = _ from if_pos hc8z).symm.trans hr)
    · refine own_go (fun t k => XS.ifNo X0.here hx rfl (hb hby d_method_6_code_135) rfl ((if0 _ _).trans (feq (fun q_z => hc8z ((lw_eq (v_ / (100000000000 : Int64)) (0 : Int64)).mp q_z))).1) k) ?_
      show own_G p e below (s₁.setTop (mkF m 138 #[.val (.long v_), .second, .val (.int cc)] [])) _
      refine own_go (fun t k => XS.bipush X0.here hx rfl (hb hby d_method_6_code_138) k) ?_
      refine own_go (fun t k => XS.istoreN X0.here hx rfl (hb hby d_method_6_code_140) rfl (l' := #[.val (.long v_), .second, .val (.int (12 : Int32))]) rfl k) ?_
      exact go12 _ ((show own_e11 v_ cc = _ from if_neg hc8z).symm.trans hr)
  have go10 : ∀ cc : Int32, own_e10 v_ cc = (Int32.ofNat (own_D v_)) → own_G p e below (s₁.setTop (mkF m 115 #[.val (.long v_), .second, .val (.int cc)] [])) (own_P s below ({ frames := 0, cells := 0, slots := 0, locals := 0 } : Room).cells ({ frames := 0, cells := 0, slots := 0, locals := 0 } : Room).slots (Q_own_dc Z v_ h0)) := by
    intro cc hr
    show own_G p e below (s₁.setTop (mkF m 115 #[.val (.long v_), .second, .val (.int cc)] [])) _
    refine own_go (fun t k => XS.lloadN X0.here hx rfl (hb hby d_method_6_code_115) rfl k) ?_
    refine own_go (fun t k => X0.ldc2J hx hown (mvT hZ (own_hw hw 251 rfl)) rfl (hb hby d_method_6_code_116) k) ?_
    refine own_go (fun t k => XS.ldiv X0.here hx rfl (hb hby d_method_6_code_119) rfl (by decide) k) ?_
    show own_G p e below (s₁.setTop (mkF m 120 #[.val (.long v_), .second, .val (.int cc)] [(.long (v_ / (10000000000 : Int64)))])) _
    refine own_go (fun t k => XS.lconst X0.here hx rfl (hb hby d_method_6_code_120) k) ?_
    refine own_go (fun t k => XS.lcmp X0.here hx rfl (hb hby d_method_6_code_121) rfl k) ?_
    by_cases hc9z : (v_ / (10000000000 : Int64)) = (0 : Int64)
    · refine own_go (fun t k => XS.ifYes X0.here hx rfl (pc0 := 122) (pc' := 128) rfl (hb hby d_method_6_code_122) rfl ((if0 _ _).trans (teq ((lw_eq (v_ / (10000000000 : Int64)) (0 : Int64)).mpr hc9z)).1) (by decide) (by decide) k) ?_
      show own_G p e below (s₁.setTop (mkF m 128 #[.val (.long v_), .second, .val (.int cc)] [])) _
      exact go11 _ ((show own_e10 v_ cc = _ from if_pos hc9z).symm.trans hr)
    · refine own_go (fun t k => XS.ifNo X0.here hx rfl (hb hby d_method_6_code_122) rfl ((if0 _ _).trans (feq (fun q_z => hc9z ((lw_eq (v_ / (10000000000 : Int64)) (0 : Int64)).mp q_z))).1) k) ?_
      show own_G p e below (s₁.setTop (mkF m 125 #[.val (.long v_), .second, .val (.int cc)] [])) _
      refine own_go (fun t k => XS.bipush X0.here hx rfl (hb hby d_method_6_code_125) k) ?_
      refine own_go (fun t k => XS.istoreN X0.here hx rfl (hb hby d_method_6_code_127) rfl (l' := #[.val (.long v_), .second, .val (.int (11 : Int32))]) rfl k) ?_
      exact go11 _ ((show own_e10 v_ cc = _ from if_neg hc9z).symm.trans hr)
  have go9 : ∀ cc : Int32, own_e9 v_ cc = (Int32.ofNat (own_D v_)) → own_G p e below (s₁.setTop (mkF m 102 #[.val (.long v_), .second, .val (.int cc)] [])) (own_P s below ({ frames := 0, cells := 0, slots := 0, locals := 0 } : Room).cells ({ frames := 0, cells := 0, slots := 0, locals := 0 } : Room).slots (Q_own_dc Z v_ h0)) := by
    intro cc hr
    show own_G p e below (s₁.setTop (mkF m 102 #[.val (.long v_), .second, .val (.int cc)] [])) _
    refine own_go (fun t k => XS.lloadN X0.here hx rfl (hb hby d_method_6_code_102) rfl k) ?_
    refine own_go (fun t k => X0.ldc2J hx hown (mvT hZ (own_hw hw 250 rfl)) rfl (hb hby d_method_6_code_103) k) ?_
    refine own_go (fun t k => XS.ldiv X0.here hx rfl (hb hby d_method_6_code_106) rfl (by decide) k) ?_
    show own_G p e below (s₁.setTop (mkF m 107 #[.val (.long v_), .second, .val (.int cc)] [(.long (v_ / (1000000000 : Int64)))])) _
    refine own_go (fun t k => XS.lconst X0.here hx rfl (hb hby d_method_6_code_107) k) ?_
    refine own_go (fun t k => XS.lcmp X0.here hx rfl (hb hby d_method_6_code_108) rfl k) ?_
    by_cases hc10z : (v_ / (1000000000 : Int64)) = (0 : Int64)
    · refine own_go (fun t k => XS.ifYes X0.here hx rfl (pc0 := 109) (pc' := 115) rfl (hb hby d_method_6_code_109) rfl ((if0 _ _).trans (teq ((lw_eq (v_ / (1000000000 : Int64)) (0 : Int64)).mpr hc10z)).1) (by decide) (by decide) k) ?_
      show own_G p e below (s₁.setTop (mkF m 115 #[.val (.long v_), .second, .val (.int cc)] [])) _
      exact go10 _ ((show own_e9 v_ cc = _ from if_pos hc10z).symm.trans hr)
    · refine own_go (fun t k => XS.ifNo X0.here hx rfl (hb hby d_method_6_code_109) rfl ((if0 _ _).trans (feq (fun q_z => hc10z ((lw_eq (v_ / (1000000000 : Int64)) (0 : Int64)).mp q_z))).1) k) ?_
      show own_G p e below (s₁.setTop (mkF m 112 #[.val (.long v_), .second, .val (.int cc)] [])) _
      refine own_go (fun t k => XS.bipush X0.here hx rfl (hb hby d_method_6_code_112) k) ?_
      refine own_go (fun t k => XS.istoreN X0.here hx rfl (hb hby d_method_6_code_114) rfl (l' := #[.val (.long v_), .second, .val (.int (10 : Int32))]) rfl k) ?_
      exact go10 _ ((show own_e9 v_ cc = _ from if_neg hc10z).symm.trans hr)
  have go8 : ∀ cc : Int32, own_e8 v_ cc = (Int32.ofNat (own_D v_)) → own_G p e below (s₁.setTop (mkF m 89 #[.val (.long v_), .second, .val (.int cc)] [])) (own_P s below ({ frames := 0, cells := 0, slots := 0, locals := 0 } : Room).cells ({ frames := 0, cells := 0, slots := 0, locals := 0 } : Room).slots (Q_own_dc Z v_ h0)) := by
    intro cc hr
    show own_G p e below (s₁.setTop (mkF m 89 #[.val (.long v_), .second, .val (.int cc)] [])) _
    refine own_go (fun t k => XS.lloadN X0.here hx rfl (hb hby d_method_6_code_89) rfl k) ?_
    refine own_go (fun t k => X0.ldc2J hx hown (mvT hZ (own_hw hw 249 rfl)) rfl (hb hby d_method_6_code_90) k) ?_
    refine own_go (fun t k => XS.ldiv X0.here hx rfl (hb hby d_method_6_code_93) rfl (by decide) k) ?_
    show own_G p e below (s₁.setTop (mkF m 94 #[.val (.long v_), .second, .val (.int cc)] [(.long (v_ / (100000000 : Int64)))])) _
    refine own_go (fun t k => XS.lconst X0.here hx rfl (hb hby d_method_6_code_94) k) ?_
    refine own_go (fun t k => XS.lcmp X0.here hx rfl (hb hby d_method_6_code_95) rfl k) ?_
    by_cases hc11z : (v_ / (100000000 : Int64)) = (0 : Int64)
    · refine own_go (fun t k => XS.ifYes X0.here hx rfl (pc0 := 96) (pc' := 102) rfl (hb hby d_method_6_code_96) rfl ((if0 _ _).trans (teq ((lw_eq (v_ / (100000000 : Int64)) (0 : Int64)).mpr hc11z)).1) (by decide) (by decide) k) ?_
      show own_G p e below (s₁.setTop (mkF m 102 #[.val (.long v_), .second, .val (.int cc)] [])) _
      exact go9 _ ((show own_e8 v_ cc = _ from if_pos hc11z).symm.trans hr)
    · refine own_go (fun t k => XS.ifNo X0.here hx rfl (hb hby d_method_6_code_96) rfl ((if0 _ _).trans (feq (fun q_z => hc11z ((lw_eq (v_ / (100000000 : Int64)) (0 : Int64)).mp q_z))).1) k) ?_
      show own_G p e below (s₁.setTop (mkF m 99 #[.val (.long v_), .second, .val (.int cc)] [])) _
      refine own_go (fun t k => XS.bipush X0.here hx rfl (hb hby d_method_6_code_99) k) ?_
      refine own_go (fun t k => XS.istoreN X0.here hx rfl (hb hby d_method_6_code_101) rfl (l' := #[.val (.long v_), .second, .val (.int (9 : Int32))]) rfl k) ?_
      exact go9 _ ((show own_e8 v_ cc = _ from if_neg hc11z).symm.trans hr)
  have go7 : ∀ cc : Int32, own_e7 v_ cc = (Int32.ofNat (own_D v_)) → own_G p e below (s₁.setTop (mkF m 76 #[.val (.long v_), .second, .val (.int cc)] [])) (own_P s below ({ frames := 0, cells := 0, slots := 0, locals := 0 } : Room).cells ({ frames := 0, cells := 0, slots := 0, locals := 0 } : Room).slots (Q_own_dc Z v_ h0)) := by
    intro cc hr
    show own_G p e below (s₁.setTop (mkF m 76 #[.val (.long v_), .second, .val (.int cc)] [])) _
    refine own_go (fun t k => XS.lloadN X0.here hx rfl (hb hby d_method_6_code_76) rfl k) ?_
    refine own_go (fun t k => X0.ldc2J hx hown (mvT hZ (own_hw hw 248 rfl)) rfl (hb hby d_method_6_code_77) k) ?_
    refine own_go (fun t k => XS.ldiv X0.here hx rfl (hb hby d_method_6_code_80) rfl (by decide) k) ?_
    show own_G p e below (s₁.setTop (mkF m 81 #[.val (.long v_), .second, .val (.int cc)] [(.long (v_ / (10000000 : Int64)))])) _
    refine own_go (fun t k => XS.lconst X0.here hx rfl (hb hby d_method_6_code_81) k) ?_
    refine own_go (fun t k => XS.lcmp X0.here hx rfl (hb hby d_method_6_code_82) rfl k) ?_
    by_cases hc12z : (v_ / (10000000 : Int64)) = (0 : Int64)
    · refine own_go (fun t k => XS.ifYes X0.here hx rfl (pc0 := 83) (pc' := 89) rfl (hb hby d_method_6_code_83) rfl ((if0 _ _).trans (teq ((lw_eq (v_ / (10000000 : Int64)) (0 : Int64)).mpr hc12z)).1) (by decide) (by decide) k) ?_
      show own_G p e below (s₁.setTop (mkF m 89 #[.val (.long v_), .second, .val (.int cc)] [])) _
      exact go8 _ ((show own_e7 v_ cc = _ from if_pos hc12z).symm.trans hr)
    · refine own_go (fun t k => XS.ifNo X0.here hx rfl (hb hby d_method_6_code_83) rfl ((if0 _ _).trans (feq (fun q_z => hc12z ((lw_eq (v_ / (10000000 : Int64)) (0 : Int64)).mp q_z))).1) k) ?_
      show own_G p e below (s₁.setTop (mkF m 86 #[.val (.long v_), .second, .val (.int cc)] [])) _
      refine own_go (fun t k => XS.bipush X0.here hx rfl (hb hby d_method_6_code_86) k) ?_
      refine own_go (fun t k => XS.istoreN X0.here hx rfl (hb hby d_method_6_code_88) rfl (l' := #[.val (.long v_), .second, .val (.int (8 : Int32))]) rfl k) ?_
      exact go8 _ ((show own_e7 v_ cc = _ from if_neg hc12z).symm.trans hr)
  have go6 : ∀ cc : Int32, own_e6 v_ cc = (Int32.ofNat (own_D v_)) → own_G p e below (s₁.setTop (mkF m 63 #[.val (.long v_), .second, .val (.int cc)] [])) (own_P s below ({ frames := 0, cells := 0, slots := 0, locals := 0 } : Room).cells ({ frames := 0, cells := 0, slots := 0, locals := 0 } : Room).slots (Q_own_dc Z v_ h0)) := by
    intro cc hr
    show own_G p e below (s₁.setTop (mkF m 63 #[.val (.long v_), .second, .val (.int cc)] [])) _
    refine own_go (fun t k => XS.lloadN X0.here hx rfl (hb hby d_method_6_code_63) rfl k) ?_
    refine own_go (fun t k => X0.ldc2J hx hown (mvT hZ (own_hw hw 247 rfl)) rfl (hb hby d_method_6_code_64) k) ?_
    refine own_go (fun t k => XS.ldiv X0.here hx rfl (hb hby d_method_6_code_67) rfl (by decide) k) ?_
    show own_G p e below (s₁.setTop (mkF m 68 #[.val (.long v_), .second, .val (.int cc)] [(.long (v_ / (1000000 : Int64)))])) _
    refine own_go (fun t k => XS.lconst X0.here hx rfl (hb hby d_method_6_code_68) k) ?_
    refine own_go (fun t k => XS.lcmp X0.here hx rfl (hb hby d_method_6_code_69) rfl k) ?_
    by_cases hc13z : (v_ / (1000000 : Int64)) = (0 : Int64)
    · refine own_go (fun t k => XS.ifYes X0.here hx rfl (pc0 := 70) (pc' := 76) rfl (hb hby d_method_6_code_70) rfl ((if0 _ _).trans (teq ((lw_eq (v_ / (1000000 : Int64)) (0 : Int64)).mpr hc13z)).1) (by decide) (by decide) k) ?_
      show own_G p e below (s₁.setTop (mkF m 76 #[.val (.long v_), .second, .val (.int cc)] [])) _
      exact go7 _ ((show own_e6 v_ cc = _ from if_pos hc13z).symm.trans hr)
    · refine own_go (fun t k => XS.ifNo X0.here hx rfl (hb hby d_method_6_code_70) rfl ((if0 _ _).trans (feq (fun q_z => hc13z ((lw_eq (v_ / (1000000 : Int64)) (0 : Int64)).mp q_z))).1) k) ?_
      show own_G p e below (s₁.setTop (mkF m 73 #[.val (.long v_), .second, .val (.int cc)] [])) _
      refine own_go (fun t k => XS.bipush X0.here hx rfl (hb hby d_method_6_code_73) k) ?_
      refine own_go (fun t k => XS.istoreN X0.here hx rfl (hb hby d_method_6_code_75) rfl (l' := #[.val (.long v_), .second, .val (.int (7 : Int32))]) rfl k) ?_
      exact go7 _ ((show own_e6 v_ cc = _ from if_neg hc13z).symm.trans hr)
  have go5 : ∀ cc : Int32, own_e5 v_ cc = (Int32.ofNat (own_D v_)) → own_G p e below (s₁.setTop (mkF m 50 #[.val (.long v_), .second, .val (.int cc)] [])) (own_P s below ({ frames := 0, cells := 0, slots := 0, locals := 0 } : Room).cells ({ frames := 0, cells := 0, slots := 0, locals := 0 } : Room).slots (Q_own_dc Z v_ h0)) := by
    intro cc hr
    show own_G p e below (s₁.setTop (mkF m 50 #[.val (.long v_), .second, .val (.int cc)] [])) _
    refine own_go (fun t k => XS.lloadN X0.here hx rfl (hb hby d_method_6_code_50) rfl k) ?_
    refine own_go (fun t k => X0.ldc2J hx hown (mvT hZ (own_hw hw 246 rfl)) rfl (hb hby d_method_6_code_51) k) ?_
    refine own_go (fun t k => XS.ldiv X0.here hx rfl (hb hby d_method_6_code_54) rfl (by decide) k) ?_
    show own_G p e below (s₁.setTop (mkF m 55 #[.val (.long v_), .second, .val (.int cc)] [(.long (v_ / (100000 : Int64)))])) _
    refine own_go (fun t k => XS.lconst X0.here hx rfl (hb hby d_method_6_code_55) k) ?_
    refine own_go (fun t k => XS.lcmp X0.here hx rfl (hb hby d_method_6_code_56) rfl k) ?_
    by_cases hc14z : (v_ / (100000 : Int64)) = (0 : Int64)
    · refine own_go (fun t k => XS.ifYes X0.here hx rfl (pc0 := 57) (pc' := 63) rfl (hb hby d_method_6_code_57) rfl ((if0 _ _).trans (teq ((lw_eq (v_ / (100000 : Int64)) (0 : Int64)).mpr hc14z)).1) (by decide) (by decide) k) ?_
      show own_G p e below (s₁.setTop (mkF m 63 #[.val (.long v_), .second, .val (.int cc)] [])) _
      exact go6 _ ((show own_e5 v_ cc = _ from if_pos hc14z).symm.trans hr)
    · refine own_go (fun t k => XS.ifNo X0.here hx rfl (hb hby d_method_6_code_57) rfl ((if0 _ _).trans (feq (fun q_z => hc14z ((lw_eq (v_ / (100000 : Int64)) (0 : Int64)).mp q_z))).1) k) ?_
      show own_G p e below (s₁.setTop (mkF m 60 #[.val (.long v_), .second, .val (.int cc)] [])) _
      refine own_go (fun t k => XS.bipush X0.here hx rfl (hb hby d_method_6_code_60) k) ?_
      refine own_go (fun t k => XS.istoreN X0.here hx rfl (hb hby d_method_6_code_62) rfl (l' := #[.val (.long v_), .second, .val (.int (6 : Int32))]) rfl k) ?_
      exact go6 _ ((show own_e5 v_ cc = _ from if_neg hc14z).symm.trans hr)
  have go4 : ∀ cc : Int32, own_e4 v_ cc = (Int32.ofNat (own_D v_)) → own_G p e below (s₁.setTop (mkF m 38 #[.val (.long v_), .second, .val (.int cc)] [])) (own_P s below ({ frames := 0, cells := 0, slots := 0, locals := 0 } : Room).cells ({ frames := 0, cells := 0, slots := 0, locals := 0 } : Room).slots (Q_own_dc Z v_ h0)) := by
    intro cc hr
    show own_G p e below (s₁.setTop (mkF m 38 #[.val (.long v_), .second, .val (.int cc)] [])) _
    refine own_go (fun t k => XS.lloadN X0.here hx rfl (hb hby d_method_6_code_38) rfl k) ?_
    refine own_go (fun t k => X0.ldc2J hx hown (mvT hZ (own_hw hw 245 rfl)) rfl (hb hby d_method_6_code_39) k) ?_
    refine own_go (fun t k => XS.ldiv X0.here hx rfl (hb hby d_method_6_code_42) rfl (by decide) k) ?_
    show own_G p e below (s₁.setTop (mkF m 43 #[.val (.long v_), .second, .val (.int cc)] [(.long (v_ / (10000 : Int64)))])) _
    refine own_go (fun t k => XS.lconst X0.here hx rfl (hb hby d_method_6_code_43) k) ?_
    refine own_go (fun t k => XS.lcmp X0.here hx rfl (hb hby d_method_6_code_44) rfl k) ?_
    by_cases hc15z : (v_ / (10000 : Int64)) = (0 : Int64)
    · refine own_go (fun t k => XS.ifYes X0.here hx rfl (pc0 := 45) (pc' := 50) rfl (hb hby d_method_6_code_45) rfl ((if0 _ _).trans (teq ((lw_eq (v_ / (10000 : Int64)) (0 : Int64)).mpr hc15z)).1) (by decide) (by decide) k) ?_
      show own_G p e below (s₁.setTop (mkF m 50 #[.val (.long v_), .second, .val (.int cc)] [])) _
      exact go5 _ ((show own_e4 v_ cc = _ from if_pos hc15z).symm.trans hr)
    · refine own_go (fun t k => XS.ifNo X0.here hx rfl (hb hby d_method_6_code_45) rfl ((if0 _ _).trans (feq (fun q_z => hc15z ((lw_eq (v_ / (10000 : Int64)) (0 : Int64)).mp q_z))).1) k) ?_
      show own_G p e below (s₁.setTop (mkF m 48 #[.val (.long v_), .second, .val (.int cc)] [])) _
      refine own_go (fun t k => XS.iconst X0.here hx rfl (hb hby d_method_6_code_48) k) ?_
      refine own_go (fun t k => XS.istoreN X0.here hx rfl (hb hby d_method_6_code_49) rfl (l' := #[.val (.long v_), .second, .val (.int (5 : Int32))]) rfl k) ?_
      exact go5 _ ((show own_e4 v_ cc = _ from if_neg hc15z).symm.trans hr)
  have go3 : ∀ cc : Int32, own_e3 v_ cc = (Int32.ofNat (own_D v_)) → own_G p e below (s₁.setTop (mkF m 26 #[.val (.long v_), .second, .val (.int cc)] [])) (own_P s below ({ frames := 0, cells := 0, slots := 0, locals := 0 } : Room).cells ({ frames := 0, cells := 0, slots := 0, locals := 0 } : Room).slots (Q_own_dc Z v_ h0)) := by
    intro cc hr
    show own_G p e below (s₁.setTop (mkF m 26 #[.val (.long v_), .second, .val (.int cc)] [])) _
    refine own_go (fun t k => XS.lloadN X0.here hx rfl (hb hby d_method_6_code_26) rfl k) ?_
    refine own_go (fun t k => X0.ldc2J hx hown (mvT hZ (own_hw hw 244 rfl)) rfl (hb hby d_method_6_code_27) k) ?_
    refine own_go (fun t k => XS.ldiv X0.here hx rfl (hb hby d_method_6_code_30) rfl (by decide) k) ?_
    show own_G p e below (s₁.setTop (mkF m 31 #[.val (.long v_), .second, .val (.int cc)] [(.long (v_ / (1000 : Int64)))])) _
    refine own_go (fun t k => XS.lconst X0.here hx rfl (hb hby d_method_6_code_31) k) ?_
    refine own_go (fun t k => XS.lcmp X0.here hx rfl (hb hby d_method_6_code_32) rfl k) ?_
    by_cases hc16z : (v_ / (1000 : Int64)) = (0 : Int64)
    · refine own_go (fun t k => XS.ifYes X0.here hx rfl (pc0 := 33) (pc' := 38) rfl (hb hby d_method_6_code_33) rfl ((if0 _ _).trans (teq ((lw_eq (v_ / (1000 : Int64)) (0 : Int64)).mpr hc16z)).1) (by decide) (by decide) k) ?_
      show own_G p e below (s₁.setTop (mkF m 38 #[.val (.long v_), .second, .val (.int cc)] [])) _
      exact go4 _ ((show own_e3 v_ cc = _ from if_pos hc16z).symm.trans hr)
    · refine own_go (fun t k => XS.ifNo X0.here hx rfl (hb hby d_method_6_code_33) rfl ((if0 _ _).trans (feq (fun q_z => hc16z ((lw_eq (v_ / (1000 : Int64)) (0 : Int64)).mp q_z))).1) k) ?_
      show own_G p e below (s₁.setTop (mkF m 36 #[.val (.long v_), .second, .val (.int cc)] [])) _
      refine own_go (fun t k => XS.iconst X0.here hx rfl (hb hby d_method_6_code_36) k) ?_
      refine own_go (fun t k => XS.istoreN X0.here hx rfl (hb hby d_method_6_code_37) rfl (l' := #[.val (.long v_), .second, .val (.int (4 : Int32))]) rfl k) ?_
      exact go4 _ ((show own_e3 v_ cc = _ from if_neg hc16z).symm.trans hr)
  have go2 : ∀ cc : Int32, own_e2 v_ cc = (Int32.ofNat (own_D v_)) → own_G p e below (s₁.setTop (mkF m 14 #[.val (.long v_), .second, .val (.int cc)] [])) (own_P s below ({ frames := 0, cells := 0, slots := 0, locals := 0 } : Room).cells ({ frames := 0, cells := 0, slots := 0, locals := 0 } : Room).slots (Q_own_dc Z v_ h0)) := by
    intro cc hr
    show own_G p e below (s₁.setTop (mkF m 14 #[.val (.long v_), .second, .val (.int cc)] [])) _
    refine own_go (fun t k => XS.lloadN X0.here hx rfl (hb hby d_method_6_code_14) rfl k) ?_
    refine own_go (fun t k => X0.ldc2J hx hown (mvT hZ (own_hw hw 243 rfl)) rfl (hb hby d_method_6_code_15) k) ?_
    refine own_go (fun t k => XS.ldiv X0.here hx rfl (hb hby d_method_6_code_18) rfl (by decide) k) ?_
    show own_G p e below (s₁.setTop (mkF m 19 #[.val (.long v_), .second, .val (.int cc)] [(.long (v_ / (100 : Int64)))])) _
    refine own_go (fun t k => XS.lconst X0.here hx rfl (hb hby d_method_6_code_19) k) ?_
    refine own_go (fun t k => XS.lcmp X0.here hx rfl (hb hby d_method_6_code_20) rfl k) ?_
    by_cases hc17z : (v_ / (100 : Int64)) = (0 : Int64)
    · refine own_go (fun t k => XS.ifYes X0.here hx rfl (pc0 := 21) (pc' := 26) rfl (hb hby d_method_6_code_21) rfl ((if0 _ _).trans (teq ((lw_eq (v_ / (100 : Int64)) (0 : Int64)).mpr hc17z)).1) (by decide) (by decide) k) ?_
      show own_G p e below (s₁.setTop (mkF m 26 #[.val (.long v_), .second, .val (.int cc)] [])) _
      exact go3 _ ((show own_e2 v_ cc = _ from if_pos hc17z).symm.trans hr)
    · refine own_go (fun t k => XS.ifNo X0.here hx rfl (hb hby d_method_6_code_21) rfl ((if0 _ _).trans (feq (fun q_z => hc17z ((lw_eq (v_ / (100 : Int64)) (0 : Int64)).mp q_z))).1) k) ?_
      show own_G p e below (s₁.setTop (mkF m 24 #[.val (.long v_), .second, .val (.int cc)] [])) _
      refine own_go (fun t k => XS.iconst X0.here hx rfl (hb hby d_method_6_code_24) k) ?_
      refine own_go (fun t k => XS.istoreN X0.here hx rfl (hb hby d_method_6_code_25) rfl (l' := #[.val (.long v_), .second, .val (.int (3 : Int32))]) rfl k) ?_
      exact go3 _ ((show own_e2 v_ cc = _ from if_neg hc17z).symm.trans hr)
  have go1 : ∀ cc : Int32, own_e1 v_ cc = (Int32.ofNat (own_D v_)) → own_G p e below (s₁.setTop (mkF m 2 #[.val (.long v_), .second, .val (.int cc)] [])) (own_P s below ({ frames := 0, cells := 0, slots := 0, locals := 0 } : Room).cells ({ frames := 0, cells := 0, slots := 0, locals := 0 } : Room).slots (Q_own_dc Z v_ h0)) := by
    intro cc hr
    show own_G p e below (s₁.setTop (mkF m 2 #[.val (.long v_), .second, .val (.int cc)] [])) _
    refine own_go (fun t k => XS.lloadN X0.here hx rfl (hb hby d_method_6_code_2) rfl k) ?_
    refine own_go (fun t k => X0.ldc2J hx hown (mvT hZ (own_hw hw 242 rfl)) rfl (hb hby d_method_6_code_3) k) ?_
    refine own_go (fun t k => XS.ldiv X0.here hx rfl (hb hby d_method_6_code_6) rfl (by decide) k) ?_
    show own_G p e below (s₁.setTop (mkF m 7 #[.val (.long v_), .second, .val (.int cc)] [(.long (v_ / (10 : Int64)))])) _
    refine own_go (fun t k => XS.lconst X0.here hx rfl (hb hby d_method_6_code_7) k) ?_
    refine own_go (fun t k => XS.lcmp X0.here hx rfl (hb hby d_method_6_code_8) rfl k) ?_
    by_cases hc18z : (v_ / (10 : Int64)) = (0 : Int64)
    · refine own_go (fun t k => XS.ifYes X0.here hx rfl (pc0 := 9) (pc' := 14) rfl (hb hby d_method_6_code_9) rfl ((if0 _ _).trans (teq ((lw_eq (v_ / (10 : Int64)) (0 : Int64)).mpr hc18z)).1) (by decide) (by decide) k) ?_
      show own_G p e below (s₁.setTop (mkF m 14 #[.val (.long v_), .second, .val (.int cc)] [])) _
      exact go2 _ ((show own_e1 v_ cc = _ from if_pos hc18z).symm.trans hr)
    · refine own_go (fun t k => XS.ifNo X0.here hx rfl (hb hby d_method_6_code_9) rfl ((if0 _ _).trans (feq (fun q_z => hc18z ((lw_eq (v_ / (10 : Int64)) (0 : Int64)).mp q_z))).1) k) ?_
      show own_G p e below (s₁.setTop (mkF m 12 #[.val (.long v_), .second, .val (.int cc)] [])) _
      refine own_go (fun t k => XS.iconst X0.here hx rfl (hb hby d_method_6_code_12) k) ?_
      refine own_go (fun t k => XS.istoreN X0.here hx rfl (hb hby d_method_6_code_13) rfl (l' := #[.val (.long v_), .second, .val (.int (2 : Int32))]) rfl k) ?_
      exact go2 _ ((show own_e1 v_ cc = _ from if_neg hc18z).symm.trans hr)
  refine own_go (fun t k => XS.iconst X0.here hx rfl (hb hby d_method_6_code_0) k) ?_
  refine own_go (fun t k => XS.istoreN X0.here hx rfl (hb hby d_method_6_code_1) rfl (l' := #[.val (.long v_), .second, .val (.int (1 : Int32))]) rfl k) ?_
  exact go1 _ (own_dcE v_)
theorem ef_own_dig (m : MethodId) (x0 : Addr) (x1 : Int32) (x2 : Int64) (x3 : Int32) (x4 : Int32) : entryFrame m #[(.ref x0), (.int x1), (.long x2), (.int x3), (.int x4)] 10 = mkF m 0 #[.val (.ref x0), .val (.int x1), .val (.long x2), .second, .val (.int x3), .val (.int x4), .unset, .unset, .unset, .unset] [] := by first | (simp [entryFrame, mkF, argsToLocals, Value.category]; done) | rfl
theorem pf_own_dig : plainFor own_m38 = true := plainFor_of_name (by simp [plainName, overriddenIn])
theorem pd_2087993098 : parseMethodDescriptor "(J)J" = some ⟨[.long], some .long⟩ := by decide +kernel
theorem d_method_7_code_0 : decode method_7_code 0 = .ok (.iload 5, 2) := by decide +kernel
theorem d_method_7_code_102 : decode method_7_code 102 = .ok (.lastore, 1) := by decide +kernel
theorem d_method_7_code_103 : decode method_7_code 103 = .ok (.dup, 1) := by decide +kernel
theorem d_method_7_code_104 : decode method_7_code 104 = .ok (.bipush 14, 2) := by decide +kernel
theorem d_method_7_code_106 : decode method_7_code 106 = .ok (.ldc2_w 82, 3) := by decide +kernel
theorem d_method_7_code_109 : decode method_7_code 109 = .ok (.lastore, 1) := by decide +kernel
theorem d_method_7_code_11 : decode method_7_code 11 = .ok (.newarray .long, 2) := by decide +kernel
theorem d_method_7_code_110 : decode method_7_code 110 = .ok (.dup, 1) := by decide +kernel
theorem d_method_7_code_111 : decode method_7_code 111 = .ok (.bipush 15, 2) := by decide +kernel
theorem d_method_7_code_113 : decode method_7_code 113 = .ok (.ldc2_w 84, 3) := by decide +kernel
theorem d_method_7_code_116 : decode method_7_code 116 = .ok (.lastore, 1) := by decide +kernel
theorem d_method_7_code_117 : decode method_7_code 117 = .ok (.dup, 1) := by decide +kernel
theorem d_method_7_code_118 : decode method_7_code 118 = .ok (.bipush 16, 2) := by decide +kernel
theorem d_method_7_code_120 : decode method_7_code 120 = .ok (.ldc2_w 86, 3) := by decide +kernel
theorem d_method_7_code_123 : decode method_7_code 123 = .ok (.lastore, 1) := by decide +kernel
theorem d_method_7_code_124 : decode method_7_code 124 = .ok (.dup, 1) := by decide +kernel
theorem d_method_7_code_125 : decode method_7_code 125 = .ok (.bipush 17, 2) := by decide +kernel
theorem d_method_7_code_127 : decode method_7_code 127 = .ok (.ldc2_w 88, 3) := by decide +kernel
theorem d_method_7_code_13 : decode method_7_code 13 = .ok (.dup, 1) := by decide +kernel
theorem d_method_7_code_130 : decode method_7_code 130 = .ok (.lastore, 1) := by decide +kernel
theorem d_method_7_code_131 : decode method_7_code 131 = .ok (.dup, 1) := by decide +kernel
theorem d_method_7_code_132 : decode method_7_code 132 = .ok (.bipush 18, 2) := by decide +kernel
theorem d_method_7_code_134 : decode method_7_code 134 = .ok (.ldc2_w 90, 3) := by decide +kernel
theorem d_method_7_code_137 : decode method_7_code 137 = .ok (.lastore, 1) := by decide +kernel
theorem d_method_7_code_138 : decode method_7_code 138 = .ok (.astore 6, 2) := by decide +kernel
theorem d_method_7_code_14 : decode method_7_code 14 = .ok (.iconst 0, 1) := by decide +kernel
theorem d_method_7_code_140 : decode method_7_code 140 = .ok (.aload 6, 2) := by decide +kernel
theorem d_method_7_code_142 : decode method_7_code 142 = .ok (.iload 4, 2) := by decide +kernel
theorem d_method_7_code_144 : decode method_7_code 144 = .ok (.iconst 1, 1) := by decide +kernel
theorem d_method_7_code_145 : decode method_7_code 145 = .ok (.isub, 1) := by decide +kernel
theorem d_method_7_code_146 : decode method_7_code 146 = .ok (.iload 5, 2) := by decide +kernel
theorem d_method_7_code_148 : decode method_7_code 148 = .ok (.isub, 1) := by decide +kernel
theorem d_method_7_code_149 : decode method_7_code 149 = .ok (.laload, 1) := by decide +kernel
theorem d_method_7_code_15 : decode method_7_code 15 = .ok (.lconst 1, 1) := by decide +kernel
theorem d_method_7_code_150 : decode method_7_code 150 = .ok (.lstore 7, 2) := by decide +kernel
theorem d_method_7_code_152 : decode method_7_code 152 = .ok (.lload_n 2, 1) := by decide +kernel
theorem d_method_7_code_153 : decode method_7_code 153 = .ok (.lload 7, 2) := by decide +kernel
theorem d_method_7_code_155 : decode method_7_code 155 = .ok (.ldiv, 1) := by decide +kernel
theorem d_method_7_code_156 : decode method_7_code 156 = .ok (.ldc2_w 56, 3) := by decide +kernel
theorem d_method_7_code_159 : decode method_7_code 159 = .ok (.lrem, 1) := by decide +kernel
theorem d_method_7_code_16 : decode method_7_code 16 = .ok (.lastore, 1) := by decide +kernel
theorem d_method_7_code_160 : decode method_7_code 160 = .ok (.invokestatic 92, 3) := by decide +kernel
theorem d_method_7_code_163 : decode method_7_code 163 = .ok (.l2i, 1) := by decide +kernel
theorem d_method_7_code_164 : decode method_7_code 164 = .ok (.istore 9, 2) := by decide +kernel
theorem d_method_7_code_166 : decode method_7_code 166 = .ok (.aload_n 0, 1) := by decide +kernel
theorem d_method_7_code_167 : decode method_7_code 167 = .ok (.iload_n 1, 1) := by decide +kernel
theorem d_method_7_code_168 : decode method_7_code 168 = .ok (.iload 5, 2) := by decide +kernel
theorem d_method_7_code_17 : decode method_7_code 17 = .ok (.dup, 1) := by decide +kernel
theorem d_method_7_code_170 : decode method_7_code 170 = .ok (.iadd, 1) := by decide +kernel
theorem d_method_7_code_171 : decode method_7_code 171 = .ok (.invokevirtual 44, 3) := by decide +kernel
theorem d_method_7_code_174 : decode method_7_code 174 = .ok (.bipush 48, 2) := by decide +kernel
theorem d_method_7_code_176 : decode method_7_code 176 = .ok (.iload 9, 2) := by decide +kernel
theorem d_method_7_code_178 : decode method_7_code 178 = .ok (.iadd, 1) := by decide +kernel
theorem d_method_7_code_179 : decode method_7_code 179 = .ok (.i2c, 1) := by decide +kernel
theorem d_method_7_code_18 : decode method_7_code 18 = .ok (.iconst 1, 1) := by decide +kernel
theorem d_method_7_code_180 : decode method_7_code 180 = .ok (.if_icmp .ne 7, 3) := by decide +kernel
theorem d_method_7_code_183 : decode method_7_code 183 = .ok (.iconst 1, 1) := by decide +kernel
theorem d_method_7_code_184 : decode method_7_code 184 = .ok (.goto 4, 3) := by decide +kernel
theorem d_method_7_code_188 : decode method_7_code 188 = .ok (.ireturn, 1) := by decide +kernel
theorem d_method_7_code_19 : decode method_7_code 19 = .ok (.ldc2_w 56, 3) := by decide +kernel
theorem d_method_7_code_2 : decode method_7_code 2 = .ok (.iload 4, 2) := by decide +kernel
theorem d_method_7_code_22 : decode method_7_code 22 = .ok (.lastore, 1) := by decide +kernel
theorem d_method_7_code_23 : decode method_7_code 23 = .ok (.dup, 1) := by decide +kernel
theorem d_method_7_code_24 : decode method_7_code 24 = .ok (.iconst 2, 1) := by decide +kernel
theorem d_method_7_code_25 : decode method_7_code 25 = .ok (.ldc2_w 58, 3) := by decide +kernel
theorem d_method_7_code_28 : decode method_7_code 28 = .ok (.lastore, 1) := by decide +kernel
theorem d_method_7_code_29 : decode method_7_code 29 = .ok (.dup, 1) := by decide +kernel
theorem d_method_7_code_30 : decode method_7_code 30 = .ok (.iconst 3, 1) := by decide +kernel
theorem d_method_7_code_31 : decode method_7_code 31 = .ok (.ldc2_w 60, 3) := by decide +kernel
theorem d_method_7_code_34 : decode method_7_code 34 = .ok (.lastore, 1) := by decide +kernel
theorem d_method_7_code_35 : decode method_7_code 35 = .ok (.dup, 1) := by decide +kernel
theorem d_method_7_code_36 : decode method_7_code 36 = .ok (.iconst 4, 1) := by decide +kernel
theorem d_method_7_code_37 : decode method_7_code 37 = .ok (.ldc2_w 62, 3) := by decide +kernel
theorem d_method_7_code_4 : decode method_7_code 4 = .ok (.if_icmp .lt 5, 3) := by decide +kernel
theorem d_method_7_code_40 : decode method_7_code 40 = .ok (.lastore, 1) := by decide +kernel
theorem d_method_7_code_41 : decode method_7_code 41 = .ok (.dup, 1) := by decide +kernel
theorem d_method_7_code_42 : decode method_7_code 42 = .ok (.iconst 5, 1) := by decide +kernel
theorem d_method_7_code_43 : decode method_7_code 43 = .ok (.ldc2_w 64, 3) := by decide +kernel
theorem d_method_7_code_46 : decode method_7_code 46 = .ok (.lastore, 1) := by decide +kernel
theorem d_method_7_code_47 : decode method_7_code 47 = .ok (.dup, 1) := by decide +kernel
theorem d_method_7_code_48 : decode method_7_code 48 = .ok (.bipush 6, 2) := by decide +kernel
theorem d_method_7_code_50 : decode method_7_code 50 = .ok (.ldc2_w 66, 3) := by decide +kernel
theorem d_method_7_code_53 : decode method_7_code 53 = .ok (.lastore, 1) := by decide +kernel
theorem d_method_7_code_54 : decode method_7_code 54 = .ok (.dup, 1) := by decide +kernel
theorem d_method_7_code_55 : decode method_7_code 55 = .ok (.bipush 7, 2) := by decide +kernel
theorem d_method_7_code_57 : decode method_7_code 57 = .ok (.ldc2_w 68, 3) := by decide +kernel
theorem d_method_7_code_60 : decode method_7_code 60 = .ok (.lastore, 1) := by decide +kernel
theorem d_method_7_code_61 : decode method_7_code 61 = .ok (.dup, 1) := by decide +kernel
theorem d_method_7_code_62 : decode method_7_code 62 = .ok (.bipush 8, 2) := by decide +kernel
theorem d_method_7_code_64 : decode method_7_code 64 = .ok (.ldc2_w 70, 3) := by decide +kernel
theorem d_method_7_code_67 : decode method_7_code 67 = .ok (.lastore, 1) := by decide +kernel
theorem d_method_7_code_68 : decode method_7_code 68 = .ok (.dup, 1) := by decide +kernel
theorem d_method_7_code_69 : decode method_7_code 69 = .ok (.bipush 9, 2) := by decide +kernel
theorem d_method_7_code_7 : decode method_7_code 7 = .ok (.iconst 1, 1) := by decide +kernel
theorem d_method_7_code_71 : decode method_7_code 71 = .ok (.ldc2_w 72, 3) := by decide +kernel
theorem d_method_7_code_74 : decode method_7_code 74 = .ok (.lastore, 1) := by decide +kernel
theorem d_method_7_code_75 : decode method_7_code 75 = .ok (.dup, 1) := by decide +kernel
theorem d_method_7_code_76 : decode method_7_code 76 = .ok (.bipush 10, 2) := by decide +kernel
theorem d_method_7_code_78 : decode method_7_code 78 = .ok (.ldc2_w 74, 3) := by decide +kernel
theorem d_method_7_code_8 : decode method_7_code 8 = .ok (.ireturn, 1) := by decide +kernel
theorem d_method_7_code_81 : decode method_7_code 81 = .ok (.lastore, 1) := by decide +kernel
theorem d_method_7_code_82 : decode method_7_code 82 = .ok (.dup, 1) := by decide +kernel
theorem d_method_7_code_83 : decode method_7_code 83 = .ok (.bipush 11, 2) := by decide +kernel
theorem d_method_7_code_85 : decode method_7_code 85 = .ok (.ldc2_w 76, 3) := by decide +kernel
theorem d_method_7_code_88 : decode method_7_code 88 = .ok (.lastore, 1) := by decide +kernel
theorem d_method_7_code_89 : decode method_7_code 89 = .ok (.dup, 1) := by decide +kernel
theorem d_method_7_code_9 : decode method_7_code 9 = .ok (.bipush 19, 2) := by decide +kernel
theorem d_method_7_code_90 : decode method_7_code 90 = .ok (.bipush 12, 2) := by decide +kernel
theorem d_method_7_code_92 : decode method_7_code 92 = .ok (.ldc2_w 78, 3) := by decide +kernel
theorem d_method_7_code_95 : decode method_7_code 95 = .ok (.lastore, 1) := by decide +kernel
theorem d_method_7_code_96 : decode method_7_code 96 = .ok (.dup, 1) := by decide +kernel
theorem d_method_7_code_97 : decode method_7_code 97 = .ok (.bipush 13, 2) := by decide +kernel
theorem d_method_7_code_99 : decode method_7_code 99 = .ok (.ldc2_w 80, 3) := by decide +kernel
def Q_own_dig (Z : State) (a1 : Addr) (b1 : Addr) (k1 : ClassId) (cs1 : (List Int32)) (qn : Nat) (v_ : Int64) (x : Int32) (ii : Nat) (cz : Int32) (fm : Value) (h0 : Heap) (v : Option Value) (h : Heap) (L : List Loc) : Prop := v = some (.int (1 : Int32)) ∧ Fr Z.heap.size L ∧ Keep h0 h []
set_option maxRecDepth 65536 in
set_option maxHeartbeats 40000000 in
theorem own_dig (l : Launch) (Z : State) (a0 : Array Value) (hw : ∀ d ∈ tables_1, d.before a0 Z = true) (ws : List Jvm.Cond) (a1 : Addr) (b1 : Addr) (k1 : ClassId) (cs1 : (List Int32)) (qn : Nat) (v_ : Int64) (x : Int32) (ii : Nat) (cz : Int32) (fm : Value) (h0 : Heap) (O0 : Ext Z.heap h0) (q0 : Exa Z h0 a1 own_s2) (q1 : Fld Z h0 a1 own_s2 "value" "[B" (.ref b1)) (q2 : Fld Z h0 a1 own_s2 "coder" "B" (.int (0 : Int32))) (q3 : own_A Z h0 b1 k1 .byte (own_cv cs1)) (hl1 : cs1.length ≤ 200) (hasc1 : own_asc cs1) (hxi : x.toInt = (ii : Int)) (hq : qn + own_D v_ ≤ cs1.length) (hmq : ∀ j, j < own_D v_ → cs1.getD (qn + j) 0 = Int32.ofNat (48 + v_.toInt.natAbs / 10 ^ (own_D v_ - 1 - j) % 10)) (S_CS : Sta Z Z.heap own_s2 own_s5 "Z" (.int cz)) (hcs : ¬ (cz = (0 : Int32))) (S_FM : Sta Z Z.heap own_s6 "SIOOBE_FORMATTER" "Ljava/util/function/BiFunction;" fm) (hfm : fm.isRef = true) :
    MetFree l own_m38 (head1 (Jvm.Cond.code own_m38 method_7_code 10 (some .boolean) :: ws) ({ frames := 4, cells := 1, slots := 19, locals := 80 } : Room)) (fun aa U => aa = #[(.ref a1), (.int (Int32.ofNat qn)), (.long v_), (.int (Int32.ofNat (own_D v_))), (.int x)] ∧ Z.Warmed39 U.vm ∧ U.heap = h0) (fun _ _ _ _ _ => True) (fun _ U o U' => ∃ v L, o = .returned v ∧ Q_own_dig Z a1 b1 k1 cs1 qn v_ x ii cz fm h0 v U'.heap L ∧ FrameEnd U o U' L ({ frames := 4, cells := 1, slots := 19, locals := 80 } : Room).cells ({ frames := 4, cells := 1, slots := 19, locals := 80 } : Room).slots) := by
  refine MetFree.of_bodySF pf_own_dig hisR ?_
  intro p e s m args below meth c s₁ Bd hml0 hP hK
  obtain ⟨rfl, hZ, hh⟩ := hP
  have hx := Bd.exec
  have hby := Bd.bytes
  have hlk := BodyLoose.notSynchronized Bd
  have hml : c.maxLocals = 10 := hml0
  have hown : s.vm.findClass own_s4 = some m.cls := findClass_of_methodNamed Bd.named
  have hnm := (name_of_methodNamed Bd.named Bd.method).1
  have X0 : Stand p l e ({ frames := 4, cells := 1, slots := 19, locals := 80 } : Room) s m #[(.ref a1), (.int (Int32.ofNat qn)), (.long v_), (.int (Int32.ofNat (own_D v_))), (.int x)] below meth c s₁ [] 0 0 := Stand.of_body Bd
  have e0 : s₁.heap = h0 := by rw [← hh, Bd.state]; rfl
  have N0 := Fr.nil Z.heap.size
  have K0 : Keep h0 h0 [] := Keep.refl _ _
  refine own_start (Q := Q_own_dig Z a1 b1 k1 cs1 qn v_ x ii cz fm h0) (ef_own_dig m (a1) ((Int32.ofNat qn)) (v_) ((Int32.ofNat (own_D v_))) (x)) ?_
  show own_G p e below (s₁.setTop (mkF m 0 #[.val (.ref a1), .val (.int (Int32.ofNat qn)), .val (.long v_), .second, .val (.int (Int32.ofNat (own_D v_))), .val (.int x), .unset, .unset, .unset, .unset] [])) _
  have hD := own_D19 v_
  refine own_go (fun t k => XS.iload X0.here hx rfl (hb hby d_method_7_code_0) rfl k) ?_
  refine own_go (fun t k => XS.iload X0.here hx rfl (hb hby d_method_7_code_2) rfl k) ?_
  by_cases hc1z : x < (Int32.ofNat (own_D v_))
  · refine own_go (fun t k => XS.icmpYes X0.here hx rfl (pc0 := 4) (pc' := 9) rfl (hb hby d_method_7_code_4) rfl (tlt hc1z).1 (by decide) (by decide) k) ?_
    show own_G p e below (s₁.setTop (mkF m 9 #[.val (.ref a1), .val (.int (Int32.ofNat qn)), .val (.long v_), .second, .val (.int (Int32.ofNat (own_D v_))), .val (.int x), .unset, .unset, .unset, .unset] [])) _
    have hit : ii < own_D v_ := (own_lt32 hxi (by omega)).mp hc1z
    refine own_go (fun t k => XS.bipush X0.here hx rfl (hb hby d_method_7_code_9) k) ?_
    obtain ⟨T2z, h2z, kc2z, X2z, e2z, E2z, V2z, st2z⟩ := own_newP X0 hx hZ (own_hw hw 263 rfl) e0 (g := (mkF m 11 #[.val (.ref a1), .val (.int (Int32.ofNat qn)), .val (.long v_), .second, .val (.int (Int32.ofNat (own_D v_))), .val (.int x), .unset, .unset, .unset, .unset] [(.int (19 : Int32))])) rfl (hb hby d_method_7_code_11) rfl (i := 19) (by decide) (cap := 19) (by decide) (by decide) (by decide) (by decide)
    obtain ⟨b2z, g2z⟩ : ∃ z, z = h0.size := ⟨_, rfl⟩
    rw [← g2z] at V2z st2z
    have fr_b2z : Z.heap.size ≤ b2z := g2z ▸ O0.1
    have lz_b2z : h0.size ≤ b2z := g2z ▸ K0.1
    have ne_a1_b2z : a1 ≠ b2z := Nat.ne_of_lt (g2z ▸ q0.lt)
    have ne_b1_b2z : b1 ≠ b2z := Nat.ne_of_lt (g2z ▸ q3.lt)
    have O3z := own_ext_trans O0 E2z
    have K3z := K0.ext E2z
    have V2z : own_A Z h2z b2z kc2z .long [(.long (0 : Int64)), (.long (0 : Int64)), (.long (0 : Int64)), (.long (0 : Int64)), (.long (0 : Int64)), (.long (0 : Int64)), (.long (0 : Int64)), (.long (0 : Int64)), (.long (0 : Int64)), (.long (0 : Int64)), (.long (0 : Int64)), (.long (0 : Int64)), (.long (0 : Int64)), (.long (0 : Int64)), (.long (0 : Int64)), (.long (0 : Int64)), (.long (0 : Int64)), (.long (0 : Int64)), (.long (0 : Int64))] := V2z
    refine own_go st2z ?_
    refine own_go (fun t k => XS.dup X2z.here hx rfl (hb hby d_method_7_code_13) rfl rfl k) ?_
    show own_G p e below (T2z.setTop (mkF m 14 #[.val (.ref a1), .val (.int (Int32.ofNat qn)), .val (.long v_), .second, .val (.int (Int32.ofNat (own_D v_))), .val (.int x), .unset, .unset, .unset, .unset] [(.ref b2z), (.ref b2z)])) _
    refine own_go (fun t k => XS.iconst X2z.here hx rfl (hb hby d_method_7_code_14) k) ?_
    refine own_go (fun t k => XS.lconst X2z.here hx rfl (hb hby d_method_7_code_15) k) ?_
    obtain ⟨T4z, h4z, X4z, e4z, W4z, V4z, st4z⟩ := own_stJ X2z hx hZ e2z V2z (i := 0) (by decide) (Nat.le_of_ble_eq_true rfl) (g := (mkF m 16 #[.val (.ref a1), .val (.int (Int32.ofNat qn)), .val (.long v_), .second, .val (.int (Int32.ofNat (own_D v_))), .val (.int x), .unset, .unset, .unset, .unset] [(.long (1 : Int64)), (.int (0 : Int32)), (.ref b2z), (.ref b2z)])) rfl rfl (hb hby d_method_7_code_16)
    refine own_go st4z ?_
    have N4z := Fr.snoc X4z N0 fr_b2z
    have O5z := own_ext_wr O3z W4z fr_b2z
    have K5z := K3z.wr W4z (Or.inr lz_b2z)
    have V4z : own_A Z h4z b2z kc2z .long [(.long (1 : Int64)), (.long (0 : Int64)), (.long (0 : Int64)), (.long (0 : Int64)), (.long (0 : Int64)), (.long (0 : Int64)), (.long (0 : Int64)), (.long (0 : Int64)), (.long (0 : Int64)), (.long (0 : Int64)), (.long (0 : Int64)), (.long (0 : Int64)), (.long (0 : Int64)), (.long (0 : Int64)), (.long (0 : Int64)), (.long (0 : Int64)), (.long (0 : Int64)), (.long (0 : Int64)), (.long (0 : Int64))] := V4z
    show own_G p e below (T4z.setTop (mkF m 17 #[.val (.ref a1), .val (.int (Int32.ofNat qn)), .val (.long v_), .second, .val (.int (Int32.ofNat (own_D v_))), .val (.int x), .unset, .unset, .unset, .unset] [(.ref b2z)])) _
    refine own_go (fun t k => XS.dup X4z.here hx rfl (hb hby d_method_7_code_17) rfl rfl k) ?_
    refine own_go (fun t k => XS.iconst X4z.here hx rfl (hb hby d_method_7_code_18) k) ?_
    refine own_go (fun t k => X4z.ldc2J hx hown (mvT hZ (own_hw hw 242 rfl)) rfl (hb hby d_method_7_code_19) k) ?_
    show own_G p e below (T4z.setTop (mkF m 22 #[.val (.ref a1), .val (.int (Int32.ofNat qn)), .val (.long v_), .second, .val (.int (Int32.ofNat (own_D v_))), .val (.int x), .unset, .unset, .unset, .unset] [(.long (10 : Int64)), (.int (1 : Int32)), (.ref b2z), (.ref b2z)])) _
    obtain ⟨T6z, h6z, X6z, e6z, W6z, V6z, st6z⟩ := own_stJ X4z hx hZ e4z V4z (i := 1) (by decide) (Nat.le_of_ble_eq_true rfl) (g := (mkF m 22 #[.val (.ref a1), .val (.int (Int32.ofNat qn)), .val (.long v_), .second, .val (.int (Int32.ofNat (own_D v_))), .val (.int x), .unset, .unset, .unset, .unset] [(.long (10 : Int64)), (.int (1 : Int32)), (.ref b2z), (.ref b2z)])) rfl rfl (hb hby d_method_7_code_22)
    refine own_go st6z ?_
    have N6z := Fr.snoc X6z N4z fr_b2z
    have O7z := own_ext_wr O5z W6z fr_b2z
    have K7z := K5z.wr W6z (Or.inr lz_b2z)
    have V6z : own_A Z h6z b2z kc2z .long [(.long (1 : Int64)), (.long (10 : Int64)), (.long (0 : Int64)), (.long (0 : Int64)), (.long (0 : Int64)), (.long (0 : Int64)), (.long (0 : Int64)), (.long (0 : Int64)), (.long (0 : Int64)), (.long (0 : Int64)), (.long (0 : Int64)), (.long (0 : Int64)), (.long (0 : Int64)), (.long (0 : Int64)), (.long (0 : Int64)), (.long (0 : Int64)), (.long (0 : Int64)), (.long (0 : Int64)), (.long (0 : Int64))] := V6z
    refine own_go (fun t k => XS.dup X6z.here hx rfl (hb hby d_method_7_code_23) rfl rfl k) ?_
    refine own_go (fun t k => XS.iconst X6z.here hx rfl (hb hby d_method_7_code_24) k) ?_
    show own_G p e below (T6z.setTop (mkF m 25 #[.val (.ref a1), .val (.int (Int32.ofNat qn)), .val (.long v_), .second, .val (.int (Int32.ofNat (own_D v_))), .val (.int x), .unset, .unset, .unset, .unset] [(.int (2 : Int32)), (.ref b2z), (.ref b2z)])) _
    refine own_go (fun t k => X6z.ldc2J hx hown (mvT hZ (own_hw hw 243 rfl)) rfl (hb hby d_method_7_code_25) k) ?_
    obtain ⟨T8z, h8z, X8z, e8z, W8z, V8z, st8z⟩ := own_stJ X6z hx hZ e6z V6z (i := 2) (by decide) (Nat.le_of_ble_eq_true rfl) (g := (mkF m 28 #[.val (.ref a1), .val (.int (Int32.ofNat qn)), .val (.long v_), .second, .val (.int (Int32.ofNat (own_D v_))), .val (.int x), .unset, .unset, .unset, .unset] [(.long (100 : Int64)), (.int (2 : Int32)), (.ref b2z), (.ref b2z)])) rfl rfl (hb hby d_method_7_code_28)
    refine own_go st8z ?_
    have N8z := Fr.snoc X8z N6z fr_b2z
    have O9z := own_ext_wr O7z W8z fr_b2z
    have K9z := K7z.wr W8z (Or.inr lz_b2z)
    have V8z : own_A Z h8z b2z kc2z .long [(.long (1 : Int64)), (.long (10 : Int64)), (.long (100 : Int64)), (.long (0 : Int64)), (.long (0 : Int64)), (.long (0 : Int64)), (.long (0 : Int64)), (.long (0 : Int64)), (.long (0 : Int64)), (.long (0 : Int64)), (.long (0 : Int64)), (.long (0 : Int64)), (.long (0 : Int64)), (.long (0 : Int64)), (.long (0 : Int64)), (.long (0 : Int64)), (.long (0 : Int64)), (.long (0 : Int64)), (.long (0 : Int64))] := V8z
    refine own_go (fun t k => XS.dup X8z.here hx rfl (hb hby d_method_7_code_29) rfl rfl k) ?_
    show own_G p e below (T8z.setTop (mkF m 30 #[.val (.ref a1), .val (.int (Int32.ofNat qn)), .val (.long v_), .second, .val (.int (Int32.ofNat (own_D v_))), .val (.int x), .unset, .unset, .unset, .unset] [(.ref b2z), (.ref b2z)])) _
    refine own_go (fun t k => XS.iconst X8z.here hx rfl (hb hby d_method_7_code_30) k) ?_
    refine own_go (fun t k => X8z.ldc2J hx hown (mvT hZ (own_hw hw 244 rfl)) rfl (hb hby d_method_7_code_31) k) ?_
    obtain ⟨T10z, h10z, X10z, e10z, W10z, V10z, st10z⟩ := own_stJ X8z hx hZ e8z V8z (i := 3) (by decide) (Nat.le_of_ble_eq_true rfl) (g := (mkF m 34 #[.val (.ref a1), .val (.int (Int32.ofNat qn)), .val (.long v_), .second, .val (.int (Int32.ofNat (own_D v_))), .val (.int x), .unset, .unset, .unset, .unset] [(.long (1000 : Int64)), (.int (3 : Int32)), (.ref b2z), (.ref b2z)])) rfl rfl (hb hby d_method_7_code_34)
    refine own_go st10z ?_
    have N10z := Fr.snoc X10z N8z fr_b2z
    have O11z := own_ext_wr O9z W10z fr_b2z
    have K11z := K9z.wr W10z (Or.inr lz_b2z)
    have V10z : own_A Z h10z b2z kc2z .long [(.long (1 : Int64)), (.long (10 : Int64)), (.long (100 : Int64)), (.long (1000 : Int64)), (.long (0 : Int64)), (.long (0 : Int64)), (.long (0 : Int64)), (.long (0 : Int64)), (.long (0 : Int64)), (.long (0 : Int64)), (.long (0 : Int64)), (.long (0 : Int64)), (.long (0 : Int64)), (.long (0 : Int64)), (.long (0 : Int64)), (.long (0 : Int64)), (.long (0 : Int64)), (.long (0 : Int64)), (.long (0 : Int64))] := V10z
    show own_G p e below (T10z.setTop (mkF m 35 #[.val (.ref a1), .val (.int (Int32.ofNat qn)), .val (.long v_), .second, .val (.int (Int32.ofNat (own_D v_))), .val (.int x), .unset, .unset, .unset, .unset] [(.ref b2z)])) _
    refine own_go (fun t k => XS.dup X10z.here hx rfl (hb hby d_method_7_code_35) rfl rfl k) ?_
    refine own_go (fun t k => XS.iconst X10z.here hx rfl (hb hby d_method_7_code_36) k) ?_
    refine own_go (fun t k => X10z.ldc2J hx hown (mvT hZ (own_hw hw 245 rfl)) rfl (hb hby d_method_7_code_37) k) ?_
    show own_G p e below (T10z.setTop (mkF m 40 #[.val (.ref a1), .val (.int (Int32.ofNat qn)), .val (.long v_), .second, .val (.int (Int32.ofNat (own_D v_))), .val (.int x), .unset, .unset, .unset, .unset] [(.long (10000 : Int64)), (.int (4 : Int32)), (.ref b2z), (.ref b2z)])) _
    obtain ⟨T12z, h12z, X12z, e12z, W12z, V12z, st12z⟩ := own_stJ X10z hx hZ e10z V10z (i := 4) (by decide) (Nat.le_of_ble_eq_true rfl) (g := (mkF m 40 #[.val (.ref a1), .val (.int (Int32.ofNat qn)), .val (.long v_), .second, .val (.int (Int32.ofNat (own_D v_))), .val (.int x), .unset, .unset, .unset, .unset] [(.long (10000 : Int64)), (.int (4 : Int32)), (.ref b2z), (.ref b2z)])) rfl rfl (hb hby d_method_7_code_40)
    refine own_go st12z ?_
    have N12z := Fr.snoc X12z N10z fr_b2z
    have O13z := own_ext_wr O11z W12z fr_b2z
    have K13z := K11z.wr W12z (Or.inr lz_b2z)
    have V12z : own_A Z h12z b2z kc2z .long [(.long (1 : Int64)), (.long (10 : Int64)), (.long (100 : Int64)), (.long (1000 : Int64)), (.long (10000 : Int64)), (.long (0 : Int64)), (.long (0 : Int64)), (.long (0 : Int64)), (.long (0 : Int64)), (.long (0 : Int64)), (.long (0 : Int64)), (.long (0 : Int64)), (.long (0 : Int64)), (.long (0 : Int64)), (.long (0 : Int64)), (.long (0 : Int64)), (.long (0 : Int64)), (.long (0 : Int64)), (.long (0 : Int64))] := V12z
    refine own_go (fun t k => XS.dup X12z.here hx rfl (hb hby d_method_7_code_41) rfl rfl k) ?_
    refine own_go (fun t k => XS.iconst X12z.here hx rfl (hb hby d_method_7_code_42) k) ?_
    show own_G p e below (T12z.setTop (mkF m 43 #[.val (.ref a1), .val (.int (Int32.ofNat qn)), .val (.long v_), .second, .val (.int (Int32.ofNat (own_D v_))), .val (.int x), .unset, .unset, .unset, .unset] [(.int (5 : Int32)), (.ref b2z), (.ref b2z)])) _
    refine own_go (fun t k => X12z.ldc2J hx hown (mvT hZ (own_hw hw 246 rfl)) rfl (hb hby d_method_7_code_43) k) ?_
    obtain ⟨T14z, h14z, X14z, e14z, W14z, V14z, st14z⟩ := own_stJ X12z hx hZ e12z V12z (i := 5) (by decide) (Nat.le_of_ble_eq_true rfl) (g := (mkF m 46 #[.val (.ref a1), .val (.int (Int32.ofNat qn)), .val (.long v_), .second, .val (.int (Int32.ofNat (own_D v_))), .val (.int x), .unset, .unset, .unset, .unset] [(.long (100000 : Int64)), (.int (5 : Int32)), (.ref b2z), (.ref b2z)])) rfl rfl (hb hby d_method_7_code_46)
    refine own_go st14z ?_
    have N14z := Fr.snoc X14z N12z fr_b2z
    have O15z := own_ext_wr O13z W14z fr_b2z
    have K15z := K13z.wr W14z (Or.inr lz_b2z)
    have V14z : own_A Z h14z b2z kc2z .long [(.long (1 : Int64)), (.long (10 : Int64)), (.long (100 : Int64)), (.long (1000 : Int64)), (.long (10000 : Int64)), (.long (100000 : Int64)), (.long (0 : Int64)), (.long (0 : Int64)), (.long (0 : Int64)), (.long (0 : Int64)), (.long (0 : Int64)), (.long (0 : Int64)), (.long (0 : Int64)), (.long (0 : Int64)), (.long (0 : Int64)), (.long (0 : Int64)), (.long (0 : Int64)), (.long (0 : Int64)), (.long (0 : Int64))] := V14z
    refine own_go (fun t k => XS.dup X14z.here hx rfl (hb hby d_method_7_code_47) rfl rfl k) ?_
    show own_G p e below (T14z.setTop (mkF m 48 #[.val (.ref a1), .val (.int (Int32.ofNat qn)), .val (.long v_), .second, .val (.int (Int32.ofNat (own_D v_))), .val (.int x), .unset, .unset, .unset, .unset] [(.ref b2z), (.ref b2z)])) _
    refine own_go (fun t k => XS.bipush X14z.here hx rfl (hb hby d_method_7_code_48) k) ?_
    refine own_go (fun t k => X14z.ldc2J hx hown (mvT hZ (own_hw hw 247 rfl)) rfl (hb hby d_method_7_code_50) k) ?_
    obtain ⟨T16z, h16z, X16z, e16z, W16z, V16z, st16z⟩ := own_stJ X14z hx hZ e14z V14z (i := 6) (by decide) (Nat.le_of_ble_eq_true rfl) (g := (mkF m 53 #[.val (.ref a1), .val (.int (Int32.ofNat qn)), .val (.long v_), .second, .val (.int (Int32.ofNat (own_D v_))), .val (.int x), .unset, .unset, .unset, .unset] [(.long (1000000 : Int64)), (.int (6 : Int32)), (.ref b2z), (.ref b2z)])) rfl rfl (hb hby d_method_7_code_53)
    refine own_go st16z ?_
    have N16z := Fr.snoc X16z N14z fr_b2z
    have O17z := own_ext_wr O15z W16z fr_b2z
    have K17z := K15z.wr W16z (Or.inr lz_b2z)
    have V16z : own_A Z h16z b2z kc2z .long [(.long (1 : Int64)), (.long (10 : Int64)), (.long (100 : Int64)), (.long (1000 : Int64)), (.long (10000 : Int64)), (.long (100000 : Int64)), (.long (1000000 : Int64)), (.long (0 : Int64)), (.long (0 : Int64)), (.long (0 : Int64)), (.long (0 : Int64)), (.long (0 : Int64)), (.long (0 : Int64)), (.long (0 : Int64)), (.long (0 : Int64)), (.long (0 : Int64)), (.long (0 : Int64)), (.long (0 : Int64)), (.long (0 : Int64))] := V16z
    show own_G p e below (T16z.setTop (mkF m 54 #[.val (.ref a1), .val (.int (Int32.ofNat qn)), .val (.long v_), .second, .val (.int (Int32.ofNat (own_D v_))), .val (.int x), .unset, .unset, .unset, .unset] [(.ref b2z)])) _
    refine own_go (fun t k => XS.dup X16z.here hx rfl (hb hby d_method_7_code_54) rfl rfl k) ?_
    refine own_go (fun t k => XS.bipush X16z.here hx rfl (hb hby d_method_7_code_55) k) ?_
    refine own_go (fun t k => X16z.ldc2J hx hown (mvT hZ (own_hw hw 248 rfl)) rfl (hb hby d_method_7_code_57) k) ?_
    show own_G p e below (T16z.setTop (mkF m 60 #[.val (.ref a1), .val (.int (Int32.ofNat qn)), .val (.long v_), .second, .val (.int (Int32.ofNat (own_D v_))), .val (.int x), .unset, .unset, .unset, .unset] [(.long (10000000 : Int64)), (.int (7 : Int32)), (.ref b2z), (.ref b2z)])) _
    obtain ⟨T18z, h18z, X18z, e18z, W18z, V18z, st18z⟩ := own_stJ X16z hx hZ e16z V16z (i := 7) (by decide) (Nat.le_of_ble_eq_true rfl) (g := (mkF m 60 #[.val (.ref a1), .val (.int (Int32.ofNat qn)), .val (.long v_), .second, .val (.int (Int32.ofNat (own_D v_))), .val (.int x), .unset, .unset, .unset, .unset] [(.long (10000000 : Int64)), (.int (7 : Int32)), (.ref b2z), (.ref b2z)])) rfl rfl (hb hby d_method_7_code_60)
    refine own_go st18z ?_
    have N18z := Fr.snoc X18z N16z fr_b2z
    have O19z := own_ext_wr O17z W18z fr_b2z
    have K19z := K17z.wr W18z (Or.inr lz_b2z)
    have V18z : own_A Z h18z b2z kc2z .long [(.long (1 : Int64)), (.long (10 : Int64)), (.long (100 : Int64)), (.long (1000 : Int64)), (.long (10000 : Int64)), (.long (100000 : Int64)), (.long (1000000 : Int64)), (.long (10000000 : Int64)), (.long (0 : Int64)), (.long (0 : Int64)), (.long (0 : Int64)), (.long (0 : Int64)), (.long (0 : Int64)), (.long (0 : Int64)), (.long (0 : Int64)), (.long (0 : Int64)), (.long (0 : Int64)), (.long (0 : Int64)), (.long (0 : Int64))] := V18z
    refine own_go (fun t k => XS.dup X18z.here hx rfl (hb hby d_method_7_code_61) rfl rfl k) ?_
    refine own_go (fun t k => XS.bipush X18z.here hx rfl (hb hby d_method_7_code_62) k) ?_
    show own_G p e below (T18z.setTop (mkF m 64 #[.val (.ref a1), .val (.int (Int32.ofNat qn)), .val (.long v_), .second, .val (.int (Int32.ofNat (own_D v_))), .val (.int x), .unset, .unset, .unset, .unset] [(.int (8 : Int32)), (.ref b2z), (.ref b2z)])) _
    refine own_go (fun t k => X18z.ldc2J hx hown (mvT hZ (own_hw hw 249 rfl)) rfl (hb hby d_method_7_code_64) k) ?_
    obtain ⟨T20z, h20z, X20z, e20z, W20z, V20z, st20z⟩ := own_stJ X18z hx hZ e18z V18z (i := 8) (by decide) (Nat.le_of_ble_eq_true rfl) (g := (mkF m 67 #[.val (.ref a1), .val (.int (Int32.ofNat qn)), .val (.long v_), .second, .val (.int (Int32.ofNat (own_D v_))), .val (.int x), .unset, .unset, .unset, .unset] [(.long (100000000 : Int64)), (.int (8 : Int32)), (.ref b2z), (.ref b2z)])) rfl rfl (hb hby d_method_7_code_67)
    refine own_go st20z ?_
    have N20z := Fr.snoc X20z N18z fr_b2z
    have O21z := own_ext_wr O19z W20z fr_b2z
    have K21z := K19z.wr W20z (Or.inr lz_b2z)
    have V20z : own_A Z h20z b2z kc2z .long [(.long (1 : Int64)), (.long (10 : Int64)), (.long (100 : Int64)), (.long (1000 : Int64)), (.long (10000 : Int64)), (.long (100000 : Int64)), (.long (1000000 : Int64)), (.long (10000000 : Int64)), (.long (100000000 : Int64)), (.long (0 : Int64)), (.long (0 : Int64)), (.long (0 : Int64)), (.long (0 : Int64)), (.long (0 : Int64)), (.long (0 : Int64)), (.long (0 : Int64)), (.long (0 : Int64)), (.long (0 : Int64)), (.long (0 : Int64))] := V20z
    refine own_go (fun t k => XS.dup X20z.here hx rfl (hb hby d_method_7_code_68) rfl rfl k) ?_
    show own_G p e below (T20z.setTop (mkF m 69 #[.val (.ref a1), .val (.int (Int32.ofNat qn)), .val (.long v_), .second, .val (.int (Int32.ofNat (own_D v_))), .val (.int x), .unset, .unset, .unset, .unset] [(.ref b2z), (.ref b2z)])) _
    refine own_go (fun t k => XS.bipush X20z.here hx rfl (hb hby d_method_7_code_69) k) ?_
    refine own_go (fun t k => X20z.ldc2J hx hown (mvT hZ (own_hw hw 250 rfl)) rfl (hb hby d_method_7_code_71) k) ?_
    obtain ⟨T22z, h22z, X22z, e22z, W22z, V22z, st22z⟩ := own_stJ X20z hx hZ e20z V20z (i := 9) (by decide) (Nat.le_of_ble_eq_true rfl) (g := (mkF m 74 #[.val (.ref a1), .val (.int (Int32.ofNat qn)), .val (.long v_), .second, .val (.int (Int32.ofNat (own_D v_))), .val (.int x), .unset, .unset, .unset, .unset] [(.long (1000000000 : Int64)), (.int (9 : Int32)), (.ref b2z), (.ref b2z)])) rfl rfl (hb hby d_method_7_code_74)
    refine own_go st22z ?_
    have N22z := Fr.snoc X22z N20z fr_b2z
    have O23z := own_ext_wr O21z W22z fr_b2z
    have K23z := K21z.wr W22z (Or.inr lz_b2z)
    have V22z : own_A Z h22z b2z kc2z .long [(.long (1 : Int64)), (.long (10 : Int64)), (.long (100 : Int64)), (.long (1000 : Int64)), (.long (10000 : Int64)), (.long (100000 : Int64)), (.long (1000000 : Int64)), (.long (10000000 : Int64)), (.long (100000000 : Int64)), (.long (1000000000 : Int64)), (.long (0 : Int64)), (.long (0 : Int64)), (.long (0 : Int64)), (.long (0 : Int64)), (.long (0 : Int64)), (.long (0 : Int64)), (.long (0 : Int64)), (.long (0 : Int64)), (.long (0 : Int64))] := V22z
    show own_G p e below (T22z.setTop (mkF m 75 #[.val (.ref a1), .val (.int (Int32.ofNat qn)), .val (.long v_), .second, .val (.int (Int32.ofNat (own_D v_))), .val (.int x), .unset, .unset, .unset, .unset] [(.ref b2z)])) _
    refine own_go (fun t k => XS.dup X22z.here hx rfl (hb hby d_method_7_code_75) rfl rfl k) ?_
    refine own_go (fun t k => XS.bipush X22z.here hx rfl (hb hby d_method_7_code_76) k) ?_
    refine own_go (fun t k => X22z.ldc2J hx hown (mvT hZ (own_hw hw 251 rfl)) rfl (hb hby d_method_7_code_78) k) ?_
    show own_G p e below (T22z.setTop (mkF m 81 #[.val (.ref a1), .val (.int (Int32.ofNat qn)), .val (.long v_), .second, .val (.int (Int32.ofNat (own_D v_))), .val (.int x), .unset, .unset, .unset, .unset] [(.long (10000000000 : Int64)), (.int (10 : Int32)), (.ref b2z), (.ref b2z)])) _
    obtain ⟨T24z, h24z, X24z, e24z, W24z, V24z, st24z⟩ := own_stJ X22z hx hZ e22z V22z (i := 10) (by decide) (Nat.le_of_ble_eq_true rfl) (g := (mkF m 81 #[.val (.ref a1), .val (.int (Int32.ofNat qn)), .val (.long v_), .second, .val (.int (Int32.ofNat (own_D v_))), .val (.int x), .unset, .unset, .unset, .unset] [(.long (10000000000 : Int64)), (.int (10 : Int32)), (.ref b2z), (.ref b2z)])) rfl rfl (hb hby d_method_7_code_81)
    refine own_go st24z ?_
    have N24z := Fr.snoc X24z N22z fr_b2z
    have O25z := own_ext_wr O23z W24z fr_b2z
    have K25z := K23z.wr W24z (Or.inr lz_b2z)
    have V24z : own_A Z h24z b2z kc2z .long [(.long (1 : Int64)), (.long (10 : Int64)), (.long (100 : Int64)), (.long (1000 : Int64)), (.long (10000 : Int64)), (.long (100000 : Int64)), (.long (1000000 : Int64)), (.long (10000000 : Int64)), (.long (100000000 : Int64)), (.long (1000000000 : Int64)), (.long (10000000000 : Int64)), (.long (0 : Int64)), (.long (0 : Int64)), (.long (0 : Int64)), (.long (0 : Int64)), (.long (0 : Int64)), (.long (0 : Int64)), (.long (0 : Int64)), (.long (0 : Int64))] := V24z
    refine own_go (fun t k => XS.dup X24z.here hx rfl (hb hby d_method_7_code_82) rfl rfl k) ?_
    refine own_go (fun t k => XS.bipush X24z.here hx rfl (hb hby d_method_7_code_83) k) ?_
    show own_G p e below (T24z.setTop (mkF m 85 #[.val (.ref a1), .val (.int (Int32.ofNat qn)), .val (.long v_), .second, .val (.int (Int32.ofNat (own_D v_))), .val (.int x), .unset, .unset, .unset, .unset] [(.int (11 : Int32)), (.ref b2z), (.ref b2z)])) _
    refine own_go (fun t k => X24z.ldc2J hx hown (mvT hZ (own_hw hw 252 rfl)) rfl (hb hby d_method_7_code_85) k) ?_
    obtain ⟨T26z, h26z, X26z, e26z, W26z, V26z, st26z⟩ := own_stJ X24z hx hZ e24z V24z (i := 11) (by decide) (Nat.le_of_ble_eq_true rfl) (g := (mkF m 88 #[.val (.ref a1), .val (.int (Int32.ofNat qn)), .val (.long v_), .second, .val (.int (Int32.ofNat (own_D v_))), .val (.int x), .unset, .unset, .unset, .unset] [(.long (100000000000 : Int64)), (.int (11 : Int32)), (.ref b2z), (.ref b2z)])) rfl rfl (hb hby d_method_7_code_88)
    refine own_go st26z ?_
    have N26z := Fr.snoc X26z N24z fr_b2z
    have O27z := own_ext_wr O25z W26z fr_b2z
    have K27z := K25z.wr W26z (Or.inr lz_b2z)
    have V26z : own_A Z h26z b2z kc2z .long [(.long (1 : Int64)), (.long (10 : Int64)), (.long (100 : Int64)), (.long (1000 : Int64)), (.long (10000 : Int64)), (.long (100000 : Int64)), (.long (1000000 : Int64)), (.long (10000000 : Int64)), (.long (100000000 : Int64)), (.long (1000000000 : Int64)), (.long (10000000000 : Int64)), (.long (100000000000 : Int64)), (.long (0 : Int64)), (.long (0 : Int64)), (.long (0 : Int64)), (.long (0 : Int64)), (.long (0 : Int64)), (.long (0 : Int64)), (.long (0 : Int64))] := V26z
    refine own_go (fun t k => XS.dup X26z.here hx rfl (hb hby d_method_7_code_89) rfl rfl k) ?_
    show own_G p e below (T26z.setTop (mkF m 90 #[.val (.ref a1), .val (.int (Int32.ofNat qn)), .val (.long v_), .second, .val (.int (Int32.ofNat (own_D v_))), .val (.int x), .unset, .unset, .unset, .unset] [(.ref b2z), (.ref b2z)])) _
    refine own_go (fun t k => XS.bipush X26z.here hx rfl (hb hby d_method_7_code_90) k) ?_
    refine own_go (fun t k => X26z.ldc2J hx hown (mvT hZ (own_hw hw 253 rfl)) rfl (hb hby d_method_7_code_92) k) ?_
    obtain ⟨T28z, h28z, X28z, e28z, W28z, V28z, st28z⟩ := own_stJ X26z hx hZ e26z V26z (i := 12) (by decide) (Nat.le_of_ble_eq_true rfl) (g := (mkF m 95 #[.val (.ref a1), .val (.int (Int32.ofNat qn)), .val (.long v_), .second, .val (.int (Int32.ofNat (own_D v_))), .val (.int x), .unset, .unset, .unset, .unset] [(.long (1000000000000 : Int64)), (.int (12 : Int32)), (.ref b2z), (.ref b2z)])) rfl rfl (hb hby d_method_7_code_95)
    refine own_go st28z ?_
    have N28z := Fr.snoc X28z N26z fr_b2z
    have O29z := own_ext_wr O27z W28z fr_b2z
    have K29z := K27z.wr W28z (Or.inr lz_b2z)
    have V28z : own_A Z h28z b2z kc2z .long [(.long (1 : Int64)), (.long (10 : Int64)), (.long (100 : Int64)), (.long (1000 : Int64)), (.long (10000 : Int64)), (.long (100000 : Int64)), (.long (1000000 : Int64)), (.long (10000000 : Int64)), (.long (100000000 : Int64)), (.long (1000000000 : Int64)), (.long (10000000000 : Int64)), (.long (100000000000 : Int64)), (.long (1000000000000 : Int64)), (.long (0 : Int64)), (.long (0 : Int64)), (.long (0 : Int64)), (.long (0 : Int64)), (.long (0 : Int64)), (.long (0 : Int64))] := V28z
    show own_G p e below (T28z.setTop (mkF m 96 #[.val (.ref a1), .val (.int (Int32.ofNat qn)), .val (.long v_), .second, .val (.int (Int32.ofNat (own_D v_))), .val (.int x), .unset, .unset, .unset, .unset] [(.ref b2z)])) _
    refine own_go (fun t k => XS.dup X28z.here hx rfl (hb hby d_method_7_code_96) rfl rfl k) ?_
    refine own_go (fun t k => XS.bipush X28z.here hx rfl (hb hby d_method_7_code_97) k) ?_
    refine own_go (fun t k => X28z.ldc2J hx hown (mvT hZ (own_hw hw 254 rfl)) rfl (hb hby d_method_7_code_99) k) ?_
    show own_G p e below (T28z.setTop (mkF m 102 #[.val (.ref a1), .val (.int (Int32.ofNat qn)), .val (.long v_), .second, .val (.int (Int32.ofNat (own_D v_))), .val (.int x), .unset, .unset, .unset, .unset] [(.long (10000000000000 : Int64)), (.int (13 : Int32)), (.ref b2z), (.ref b2z)])) _
    obtain ⟨T30z, h30z, X30z, e30z, W30z, V30z, st30z⟩ := own_stJ X28z hx hZ e28z V28z (i := 13) (by decide) (Nat.le_of_ble_eq_true rfl) (g := (mkF m 102 #[.val (.ref a1), .val (.int (Int32.ofNat qn)), .val (.long v_), .second, .val (.int (Int32.ofNat (own_D v_))), .val (.int x), .unset, .unset, .unset, .unset] [(.long (10000000000000 : Int64)), (.int (13 : Int32)), (.ref b2z), (.ref b2z)])) rfl rfl (hb hby d_method_7_code_102)
    refine own_go st30z ?_
    have N30z := Fr.snoc X30z N28z fr_b2z
    have O31z := own_ext_wr O29z W30z fr_b2z
    have K31z := K29z.wr W30z (Or.inr lz_b2z)
    have V30z : own_A Z h30z b2z kc2z .long [(.long (1 : Int64)), (.long (10 : Int64)), (.long (100 : Int64)), (.long (1000 : Int64)), (.long (10000 : Int64)), (.long (100000 : Int64)), (.long (1000000 : Int64)), (.long (10000000 : Int64)), (.long (100000000 : Int64)), (.long (1000000000 : Int64)), (.long (10000000000 : Int64)), (.long (100000000000 : Int64)), (.long (1000000000000 : Int64)), (.long (10000000000000 : Int64)), (.long (0 : Int64)), (.long (0 : Int64)), (.long (0 : Int64)), (.long (0 : Int64)), (.long (0 : Int64))] := V30z
    refine own_go (fun t k => XS.dup X30z.here hx rfl (hb hby d_method_7_code_103) rfl rfl k) ?_
    refine own_go (fun t k => XS.bipush X30z.here hx rfl (hb hby d_method_7_code_104) k) ?_
    show own_G p e below (T30z.setTop (mkF m 106 #[.val (.ref a1), .val (.int (Int32.ofNat qn)), .val (.long v_), .second, .val (.int (Int32.ofNat (own_D v_))), .val (.int x), .unset, .unset, .unset, .unset] [(.int (14 : Int32)), (.ref b2z), (.ref b2z)])) _
    refine own_go (fun t k => X30z.ldc2J hx hown (mvT hZ (own_hw hw 255 rfl)) rfl (hb hby d_method_7_code_106) k) ?_
    obtain ⟨T32z, h32z, X32z, e32z, W32z, V32z, st32z⟩ := own_stJ X30z hx hZ e30z V30z (i := 14) (by decide) (Nat.le_of_ble_eq_true rfl) (g := (mkF m 109 #[.val (.ref a1), .val (.int (Int32.ofNat qn)), .val (.long v_), .second, .val (.int (Int32.ofNat (own_D v_))), .val (.int x), .unset, .unset, .unset, .unset] [(.long (100000000000000 : Int64)), (.int (14 : Int32)), (.ref b2z), (.ref b2z)])) rfl rfl (hb hby d_method_7_code_109)
    refine own_go st32z ?_
    have N32z := Fr.snoc X32z N30z fr_b2z
    have O33z := own_ext_wr O31z W32z fr_b2z
    have K33z := K31z.wr W32z (Or.inr lz_b2z)
    have V32z : own_A Z h32z b2z kc2z .long [(.long (1 : Int64)), (.long (10 : Int64)), (.long (100 : Int64)), (.long (1000 : Int64)), (.long (10000 : Int64)), (.long (100000 : Int64)), (.long (1000000 : Int64)), (.long (10000000 : Int64)), (.long (100000000 : Int64)), (.long (1000000000 : Int64)), (.long (10000000000 : Int64)), (.long (100000000000 : Int64)), (.long (1000000000000 : Int64)), (.long (10000000000000 : Int64)), (.long (100000000000000 : Int64)), (.long (0 : Int64)), (.long (0 : Int64)), (.long (0 : Int64)), (.long (0 : Int64))] := V32z
    refine own_go (fun t k => XS.dup X32z.here hx rfl (hb hby d_method_7_code_110) rfl rfl k) ?_
    show own_G p e below (T32z.setTop (mkF m 111 #[.val (.ref a1), .val (.int (Int32.ofNat qn)), .val (.long v_), .second, .val (.int (Int32.ofNat (own_D v_))), .val (.int x), .unset, .unset, .unset, .unset] [(.ref b2z), (.ref b2z)])) _
    refine own_go (fun t k => XS.bipush X32z.here hx rfl (hb hby d_method_7_code_111) k) ?_
    refine own_go (fun t k => X32z.ldc2J hx hown (mvT hZ (own_hw hw 256 rfl)) rfl (hb hby d_method_7_code_113) k) ?_
    obtain ⟨T34z, h34z, X34z, e34z, W34z, V34z, st34z⟩ := own_stJ X32z hx hZ e32z V32z (i := 15) (by decide) (Nat.le_of_ble_eq_true rfl) (g := (mkF m 116 #[.val (.ref a1), .val (.int (Int32.ofNat qn)), .val (.long v_), .second, .val (.int (Int32.ofNat (own_D v_))), .val (.int x), .unset, .unset, .unset, .unset] [(.long (1000000000000000 : Int64)), (.int (15 : Int32)), (.ref b2z), (.ref b2z)])) rfl rfl (hb hby d_method_7_code_116)
    refine own_go st34z ?_
    have N34z := Fr.snoc X34z N32z fr_b2z
    have O35z := own_ext_wr O33z W34z fr_b2z
    have K35z := K33z.wr W34z (Or.inr lz_b2z)
    have V34z : own_A Z h34z b2z kc2z .long [(.long (1 : Int64)), (.long (10 : Int64)), (.long (100 : Int64)), (.long (1000 : Int64)), (.long (10000 : Int64)), (.long (100000 : Int64)), (.long (1000000 : Int64)), (.long (10000000 : Int64)), (.long (100000000 : Int64)), (.long (1000000000 : Int64)), (.long (10000000000 : Int64)), (.long (100000000000 : Int64)), (.long (1000000000000 : Int64)), (.long (10000000000000 : Int64)), (.long (100000000000000 : Int64)), (.long (1000000000000000 : Int64)), (.long (0 : Int64)), (.long (0 : Int64)), (.long (0 : Int64))] := V34z
    show own_G p e below (T34z.setTop (mkF m 117 #[.val (.ref a1), .val (.int (Int32.ofNat qn)), .val (.long v_), .second, .val (.int (Int32.ofNat (own_D v_))), .val (.int x), .unset, .unset, .unset, .unset] [(.ref b2z)])) _
    refine own_go (fun t k => XS.dup X34z.here hx rfl (hb hby d_method_7_code_117) rfl rfl k) ?_
    refine own_go (fun t k => XS.bipush X34z.here hx rfl (hb hby d_method_7_code_118) k) ?_
    refine own_go (fun t k => X34z.ldc2J hx hown (mvT hZ (own_hw hw 257 rfl)) rfl (hb hby d_method_7_code_120) k) ?_
    show own_G p e below (T34z.setTop (mkF m 123 #[.val (.ref a1), .val (.int (Int32.ofNat qn)), .val (.long v_), .second, .val (.int (Int32.ofNat (own_D v_))), .val (.int x), .unset, .unset, .unset, .unset] [(.long (10000000000000000 : Int64)), (.int (16 : Int32)), (.ref b2z), (.ref b2z)])) _
    obtain ⟨T36z, h36z, X36z, e36z, W36z, V36z, st36z⟩ := own_stJ X34z hx hZ e34z V34z (i := 16) (by decide) (Nat.le_of_ble_eq_true rfl) (g := (mkF m 123 #[.val (.ref a1), .val (.int (Int32.ofNat qn)), .val (.long v_), .second, .val (.int (Int32.ofNat (own_D v_))), .val (.int x), .unset, .unset, .unset, .unset] [(.long (10000000000000000 : Int64)), (.int (16 : Int32)), (.ref b2z), (.ref b2z)])) rfl rfl (hb hby d_method_7_code_123)
    refine own_go st36z ?_
    have N36z := Fr.snoc X36z N34z fr_b2z
    have O37z := own_ext_wr O35z W36z fr_b2z
    have K37z := K35z.wr W36z (Or.inr lz_b2z)
    have V36z : own_A Z h36z b2z kc2z .long [(.long (1 : Int64)), (.long (10 : Int64)), (.long (100 : Int64)), (.long (1000 : Int64)), (.long (10000 : Int64)), (.long (100000 : Int64)), (.long (1000000 : Int64)), (.long (10000000 : Int64)), (.long (100000000 : Int64)), (.long (1000000000 : Int64)), (.long (10000000000 : Int64)), (.long (100000000000 : Int64)), (.long (1000000000000 : Int64)), (.long (10000000000000 : Int64)), (.long (100000000000000 : Int64)), (.long (1000000000000000 : Int64)), (.long (10000000000000000 : Int64)), (.long (0 : Int64)), (.long (0 : Int64))] := V36z
    refine own_go (fun t k => XS.dup X36z.here hx rfl (hb hby d_method_7_code_124) rfl rfl k) ?_
    refine own_go (fun t k => XS.bipush X36z.here hx rfl (hb hby d_method_7_code_125) k) ?_
    show own_G p e below (T36z.setTop (mkF m 127 #[.val (.ref a1), .val (.int (Int32.ofNat qn)), .val (.long v_), .second, .val (.int (Int32.ofNat (own_D v_))), .val (.int x), .unset, .unset, .unset, .unset] [(.int (17 : Int32)), (.ref b2z), (.ref b2z)])) _
    refine own_go (fun t k => X36z.ldc2J hx hown (mvT hZ (own_hw hw 258 rfl)) rfl (hb hby d_method_7_code_127) k) ?_
    obtain ⟨T38z, h38z, X38z, e38z, W38z, V38z, st38z⟩ := own_stJ X36z hx hZ e36z V36z (i := 17) (by decide) (Nat.le_of_ble_eq_true rfl) (g := (mkF m 130 #[.val (.ref a1), .val (.int (Int32.ofNat qn)), .val (.long v_), .second, .val (.int (Int32.ofNat (own_D v_))), .val (.int x), .unset, .unset, .unset, .unset] [(.long (100000000000000000 : Int64)), (.int (17 : Int32)), (.ref b2z), (.ref b2z)])) rfl rfl (hb hby d_method_7_code_130)
    refine own_go st38z ?_
    have N38z := Fr.snoc X38z N36z fr_b2z
    have O39z := own_ext_wr O37z W38z fr_b2z
    have K39z := K37z.wr W38z (Or.inr lz_b2z)
    have V38z : own_A Z h38z b2z kc2z .long [(.long (1 : Int64)), (.long (10 : Int64)), (.long (100 : Int64)), (.long (1000 : Int64)), (.long (10000 : Int64)), (.long (100000 : Int64)), (.long (1000000 : Int64)), (.long (10000000 : Int64)), (.long (100000000 : Int64)), (.long (1000000000 : Int64)), (.long (10000000000 : Int64)), (.long (100000000000 : Int64)), (.long (1000000000000 : Int64)), (.long (10000000000000 : Int64)), (.long (100000000000000 : Int64)), (.long (1000000000000000 : Int64)), (.long (10000000000000000 : Int64)), (.long (100000000000000000 : Int64)), (.long (0 : Int64))] := V38z
    refine own_go (fun t k => XS.dup X38z.here hx rfl (hb hby d_method_7_code_131) rfl rfl k) ?_
    show own_G p e below (T38z.setTop (mkF m 132 #[.val (.ref a1), .val (.int (Int32.ofNat qn)), .val (.long v_), .second, .val (.int (Int32.ofNat (own_D v_))), .val (.int x), .unset, .unset, .unset, .unset] [(.ref b2z), (.ref b2z)])) _
    refine own_go (fun t k => XS.bipush X38z.here hx rfl (hb hby d_method_7_code_132) k) ?_
    refine own_go (fun t k => X38z.ldc2J hx hown (mvT hZ (own_hw hw 259 rfl)) rfl (hb hby d_method_7_code_134) k) ?_
    obtain ⟨T40z, h40z, X40z, e40z, W40z, V40z, st40z⟩ := own_stJ X38z hx hZ e38z V38z (i := 18) (by decide) (Nat.le_of_ble_eq_true rfl) (g := (mkF m 137 #[.val (.ref a1), .val (.int (Int32.ofNat qn)), .val (.long v_), .second, .val (.int (Int32.ofNat (own_D v_))), .val (.int x), .unset, .unset, .unset, .unset] [(.long (1000000000000000000 : Int64)), (.int (18 : Int32)), (.ref b2z), (.ref b2z)])) rfl rfl (hb hby d_method_7_code_137)
    refine own_go st40z ?_
    have N40z := Fr.snoc X40z N38z fr_b2z
    have O41z := own_ext_wr O39z W40z fr_b2z
    have K41z := K39z.wr W40z (Or.inr lz_b2z)
    have V40z : own_A Z h40z b2z kc2z .long [(.long (1 : Int64)), (.long (10 : Int64)), (.long (100 : Int64)), (.long (1000 : Int64)), (.long (10000 : Int64)), (.long (100000 : Int64)), (.long (1000000 : Int64)), (.long (10000000 : Int64)), (.long (100000000 : Int64)), (.long (1000000000 : Int64)), (.long (10000000000 : Int64)), (.long (100000000000 : Int64)), (.long (1000000000000 : Int64)), (.long (10000000000000 : Int64)), (.long (100000000000000 : Int64)), (.long (1000000000000000 : Int64)), (.long (10000000000000000 : Int64)), (.long (100000000000000000 : Int64)), (.long (1000000000000000000 : Int64))] := V40z
    show own_G p e below (T40z.setTop (mkF m 138 #[.val (.ref a1), .val (.int (Int32.ofNat qn)), .val (.long v_), .second, .val (.int (Int32.ofNat (own_D v_))), .val (.int x), .unset, .unset, .unset, .unset] [(.ref b2z)])) _
    refine own_go (fun t k => XS.astore X40z.here hx rfl (hb hby d_method_7_code_138) rfl rfl (l' := #[.val (.ref a1), .val (.int (Int32.ofNat qn)), .val (.long v_), .second, .val (.int (Int32.ofNat (own_D v_))), .val (.int x), .val (.ref b2z), .unset, .unset, .unset]) rfl k) ?_
    refine own_go (fun t k => XS.aload X40z.here hx rfl (hb hby d_method_7_code_140) rfl rfl k) ?_
    refine own_go (fun t k => XS.iload X40z.here hx rfl (hb hby d_method_7_code_142) rfl k) ?_
    show own_G p e below (T40z.setTop (mkF m 144 #[.val (.ref a1), .val (.int (Int32.ofNat qn)), .val (.long v_), .second, .val (.int (Int32.ofNat (own_D v_))), .val (.int x), .val (.ref b2z), .unset, .unset, .unset] [(.int (Int32.ofNat (own_D v_))), (.ref b2z)])) _
    refine own_go (fun t k => XS.iconst X40z.here hx rfl (hb hby d_method_7_code_144) k) ?_
    refine own_go (fun t k => XS.isub X40z.here hx rfl (hb hby d_method_7_code_145) rfl k) ?_
    refine own_go (fun t k => XS.iload X40z.here hx rfl (hb hby d_method_7_code_146) rfl k) ?_
    show own_G p e below (T40z.setTop (mkF m 148 #[.val (.ref a1), .val (.int (Int32.ofNat qn)), .val (.long v_), .second, .val (.int (Int32.ofNat (own_D v_))), .val (.int x), .val (.ref b2z), .unset, .unset, .unset] [(.int x), (.int ((Int32.ofNat (own_D v_)) - (1 : Int32))), (.ref b2z)])) _
    refine own_go (fun t k => XS.isub X40z.here hx rfl (hb hby d_method_7_code_148) rfl k) ?_
    refine own_go (own_ldJ X40z hx hZ e40z V40z (i := (own_D v_ - 1 - ii)) (v := (.long (own_pw (own_D v_ - 1 - ii)))) (own_dix hxi hit (by omega)) (own_pows (by omega)) (g := (mkF m 149 #[.val (.ref a1), .val (.int (Int32.ofNat qn)), .val (.long v_), .second, .val (.int (Int32.ofNat (own_D v_))), .val (.int x), .val (.ref b2z), .unset, .unset, .unset] [(.int (((Int32.ofNat (own_D v_)) - (1 : Int32)) - x)), (.ref b2z)])) rfl rfl (hb hby d_method_7_code_149)) ?_
    refine own_go (fun t k => XS.lstore X40z.here hx rfl (hb hby d_method_7_code_150) rfl (l' := #[.val (.ref a1), .val (.int (Int32.ofNat qn)), .val (.long v_), .second, .val (.int (Int32.ofNat (own_D v_))), .val (.int x), .val (.ref b2z), .val (.long (own_pw (own_D v_ - 1 - ii))), .second, .unset]) rfl k) ?_
    show own_G p e below (T40z.setTop (mkF m 152 #[.val (.ref a1), .val (.int (Int32.ofNat qn)), .val (.long v_), .second, .val (.int (Int32.ofNat (own_D v_))), .val (.int x), .val (.ref b2z), .val (.long (own_pw (own_D v_ - 1 - ii))), .second, .unset] [])) _
    refine own_go (fun t k => XS.lloadN X40z.here hx rfl (hb hby d_method_7_code_152) rfl k) ?_
    refine own_go (fun t k => XS.lload X40z.here hx rfl (hb hby d_method_7_code_153) rfl k) ?_
    refine own_go (fun t k => XS.ldiv X40z.here hx rfl (hb hby d_method_7_code_155) rfl (own_pw0 ⟨own_D v_ - 1 - ii, by omega⟩) k) ?_
    show own_G p e below (T40z.setTop (mkF m 156 #[.val (.ref a1), .val (.int (Int32.ofNat qn)), .val (.long v_), .second, .val (.int (Int32.ofNat (own_D v_))), .val (.int x), .val (.ref b2z), .val (.long (own_pw (own_D v_ - 1 - ii))), .second, .unset] [(.long (v_ / (own_pw (own_D v_ - 1 - ii))))])) _
    refine own_go (fun t k => X40z.ldc2J hx hown (mvT hZ (own_hw hw 242 rfl)) rfl (hb hby d_method_7_code_156) k) ?_
    refine own_go (fun t k => XS.lrem X40z.here hx rfl (hb hby d_method_7_code_159) rfl (by decide) k) ?_
    obtain ⟨_, _, ⟨T42z, L42z, k42z, n42z⟩, -, X42z, ⟨Lc42z, hQ42z, l42z, y42z, z42z⟩, st42z⟩ := Jvm.LawKit.callS X40z hx (y := own_m36) hown (own_mw hZ hw 264 rfl) (own_mw hZ hw 265 rfl) (own_mw hZ hw 136 rfl) (own_mw hZ hw 266 rfl) (by decide) (backOf (W := 0) (own_absM l Z a0 hw [] ((v_ / (own_pw (own_D v_ - 1 - ii))) - ((v_ / (own_pw (own_D v_ - 1 - ii))) / (10 : Int64)) * (10 : Int64)) h40z O41z) hZ (own_hw hw 266 rfl) (own_hw hw 136 rfl) (by decide) (by decide)) (g := (mkF m 160 #[.val (.ref a1), .val (.int (Int32.ofNat qn)), .val (.long v_), .second, .val (.int (Int32.ofNat (own_D v_))), .val (.int x), .val (.ref b2z), .val (.long (own_pw (own_D v_ - 1 - ii))), .second, .unset] [(.long ((v_ / (own_pw (own_D v_ - 1 - ii))) - ((v_ / (own_pw (own_D v_ - 1 - ii))) / (10 : Int64)) * (10 : Int64)))])) rfl (by rw [hml]; rfl) (argsL := [(.long ((v_ / (own_pw (own_D v_ - 1 - ii))) - ((v_ / (own_pw (own_D v_ - 1 - ii))) / (10 : Int64)) * (10 : Int64)))]) (rest := []) (lenOf pd_2087993098 rfl) rfl (by show 2 * 0 + _ ≤ _; exact Nat.le_of_eq rfl) (hb hby d_method_7_code_160) (fun _ _ => ⟨rfl, e40z, (by decide : 1 + 0 ≤ _), (by decide : 19 + 0 ≤ _)⟩)
    dsimp only [Pt.U, Pt.locs, Pt.cells, Pt.slots] at X42z l42z y42z z42z st42z hQ42z
    subst l42z y42z z42z
    obtain ⟨rfl, NQ42z, K42zq⟩ := hQ42z
    refine own_go st42z ?_
    have N42z := Fr.app N40z NQ42z
    show own_G p e below (T42z.setTop (mkF m 163 #[.val (.ref a1), .val (.int (Int32.ofNat qn)), .val (.long v_), .second, .val (.int (Int32.ofNat (own_D v_))), .val (.int x), .val (.ref b2z), .val (.long (own_pw (own_D v_ - 1 - ii))), .second, .unset] [(.long (own_abs ((v_ / (own_pw (own_D v_ - 1 - ii))) - ((v_ / (own_pw (own_D v_ - 1 - ii))) / (10 : Int64)) * (10 : Int64))))])) _
    refine own_go (fun t k => XS.l2i X42z.here hx rfl (hb hby d_method_7_code_163) rfl k) ?_
    refine own_go (fun t k => XS.istore X42z.here hx rfl (hb hby d_method_7_code_164) rfl (l' := #[.val (.ref a1), .val (.int (Int32.ofNat qn)), .val (.long v_), .second, .val (.int (Int32.ofNat (own_D v_))), .val (.int x), .val (.ref b2z), .val (.long (own_pw (own_D v_ - 1 - ii))), .second, .val (.int (((own_abs ((v_ / (own_pw (own_D v_ - 1 - ii))) - ((v_ / (own_pw (own_D v_ - 1 - ii))) / (10 : Int64)) * (10 : Int64)))).toInt32))]) rfl k) ?_
    refine own_go (fun t k => XS.aloadN X42z.here hx rfl (hb hby d_method_7_code_166) rfl rfl k) ?_
    show own_G p e below (T42z.setTop (mkF m 167 #[.val (.ref a1), .val (.int (Int32.ofNat qn)), .val (.long v_), .second, .val (.int (Int32.ofNat (own_D v_))), .val (.int x), .val (.ref b2z), .val (.long (own_pw (own_D v_ - 1 - ii))), .second, .val (.int (((own_abs ((v_ / (own_pw (own_D v_ - 1 - ii))) - ((v_ / (own_pw (own_D v_ - 1 - ii))) / (10 : Int64)) * (10 : Int64)))).toInt32))] [(.ref a1)])) _
    refine own_go (fun t k => XS.iloadN X42z.here hx rfl (hb hby d_method_7_code_167) rfl k) ?_
    refine own_go (fun t k => XS.iload X42z.here hx rfl (hb hby d_method_7_code_168) rfl k) ?_
    refine own_go (fun t k => XS.iadd X42z.here hx rfl (hb hby d_method_7_code_170) rfl k) ?_
    show own_G p e below (T42z.setTop (mkF m 171 #[.val (.ref a1), .val (.int (Int32.ofNat qn)), .val (.long v_), .second, .val (.int (Int32.ofNat (own_D v_))), .val (.int x), .val (.ref b2z), .val (.long (own_pw (own_D v_ - 1 - ii))), .second, .val (.int (((own_abs ((v_ / (own_pw (own_D v_ - 1 - ii))) - ((v_ / (own_pw (own_D v_ - 1 - ii))) / (10 : Int64)) * (10 : Int64)))).toInt32))] [(.int ((Int32.ofNat qn) + x)), (.ref a1)])) _
    have f43z := ((((((((((((((((((((q0.ext E2z).wr W4z).wr W6z).wr W8z).wr W10z).wr W12z).wr W14z).wr W16z).wr W18z).wr W20z).wr W22z).wr W24z).wr W26z).wr W28z).wr W30z).wr W32z).wr W34z).wr W36z).wr W38z).wr W40z)
    have f44z := ((((((((((((((((((((q1.ext E2z).other W4z (Or.inl ne_a1_b2z)).other W6z (Or.inl ne_a1_b2z)).other W8z (Or.inl ne_a1_b2z)).other W10z (Or.inl ne_a1_b2z)).other W12z (Or.inl ne_a1_b2z)).other W14z (Or.inl ne_a1_b2z)).other W16z (Or.inl ne_a1_b2z)).other W18z (Or.inl ne_a1_b2z)).other W20z (Or.inl ne_a1_b2z)).other W22z (Or.inl ne_a1_b2z)).other W24z (Or.inl ne_a1_b2z)).other W26z (Or.inl ne_a1_b2z)).other W28z (Or.inl ne_a1_b2z)).other W30z (Or.inl ne_a1_b2z)).other W32z (Or.inl ne_a1_b2z)).other W34z (Or.inl ne_a1_b2z)).other W36z (Or.inl ne_a1_b2z)).other W38z (Or.inl ne_a1_b2z)).other W40z (Or.inl ne_a1_b2z))
    have f45z := ((((((((((((((((((((q2.ext E2z).other W4z (Or.inl ne_a1_b2z)).other W6z (Or.inl ne_a1_b2z)).other W8z (Or.inl ne_a1_b2z)).other W10z (Or.inl ne_a1_b2z)).other W12z (Or.inl ne_a1_b2z)).other W14z (Or.inl ne_a1_b2z)).other W16z (Or.inl ne_a1_b2z)).other W18z (Or.inl ne_a1_b2z)).other W20z (Or.inl ne_a1_b2z)).other W22z (Or.inl ne_a1_b2z)).other W24z (Or.inl ne_a1_b2z)).other W26z (Or.inl ne_a1_b2z)).other W28z (Or.inl ne_a1_b2z)).other W30z (Or.inl ne_a1_b2z)).other W32z (Or.inl ne_a1_b2z)).other W34z (Or.inl ne_a1_b2z)).other W36z (Or.inl ne_a1_b2z)).other W38z (Or.inl ne_a1_b2z)).other W40z (Or.inl ne_a1_b2z))
    have f46z := ((((((((((((((((((((q3.ext E2z).other W4z ne_b1_b2z).other W6z ne_b1_b2z).other W8z ne_b1_b2z).other W10z ne_b1_b2z).other W12z ne_b1_b2z).other W14z ne_b1_b2z).other W16z ne_b1_b2z).other W18z ne_b1_b2z).other W20z ne_b1_b2z).other W22z ne_b1_b2z).other W24z ne_b1_b2z).other W26z ne_b1_b2z).other W28z ne_b1_b2z).other W30z ne_b1_b2z).other W32z ne_b1_b2z).other W34z ne_b1_b2z).other W36z ne_b1_b2z).other W38z ne_b1_b2z).other W40z ne_b1_b2z)
    obtain ⟨cq47z, kq47z, qa47z, qb47z, qc47z⟩ := isOf hZ K42zq f43z
    obtain ⟨_, _, ⟨T47z, L47z, k47z, n47z⟩, -, X47z, ⟨Lc47z, hQ47z, l47z, y47z, z47z⟩, st47z⟩ := X42z.virtualBack hx (y := own_m33) (z := own_m33) hown (own_mw hZ hw 214 rfl) (own_mw hZ hw 215 rfl) (notFace_of_selects (args := #[]) (own_mw hZ hw 217 rfl)) (own_mw hZ hw 217 rfl) (own_mw hZ hw 216 rfl) (by decide) (backOf (W := 0) (own_chat l Z a0 hw [] a1 b1 k1 cs1 ((Int32.ofNat qn) + x) (qn + ii) cz fm h40z O41z f43z f44z f45z f46z hl1 hasc1 (own_addI hxi (by omega)) (by omega) S_CS hcs S_FM hfm) hZ (own_hw hw 218 rfl) (own_hw hw 36 rfl) (by decide) (by decide)) qa47z qc47z (g := (mkF m 171 #[.val (.ref a1), .val (.int (Int32.ofNat qn)), .val (.long v_), .second, .val (.int (Int32.ofNat (own_D v_))), .val (.int x), .val (.ref b2z), .val (.long (own_pw (own_D v_ - 1 - ii))), .second, .val (.int (((own_abs ((v_ / (own_pw (own_D v_ - 1 - ii))) - ((v_ / (own_pw (own_D v_ - 1 - ii))) / (10 : Int64)) * (10 : Int64)))).toInt32))] [(.int ((Int32.ofNat qn) + x)), (.ref a1)])) rfl (by rw [hml]; rfl) (Steps.refl _) (argsL := [(.int ((Int32.ofNat qn) + x))]) (rest := []) (lenOf pd_2087992002 rfl) rfl (by show 2 * 0 + _ ≤ _; exact Nat.le_of_eq rfl) (hb hby d_method_7_code_171) (fun _ _ => ⟨rfl, K42zq, (by decide : 1 + 0 ≤ _), (by decide : 19 + 0 ≤ _)⟩)
    dsimp only [Pt.U, Pt.locs, Pt.cells, Pt.slots] at X47z l47z y47z z47z st47z hQ47z
    subst l47z y47z z47z
    obtain ⟨rfl, NQ47z, K47zq⟩ := hQ47z
    refine own_tr st47z ?_
    have N47z := Fr.app N42z NQ47z
    show own_G p e below (T47z.setTop (mkF m 174 #[.val (.ref a1), .val (.int (Int32.ofNat qn)), .val (.long v_), .second, .val (.int (Int32.ofNat (own_D v_))), .val (.int x), .val (.ref b2z), .val (.long (own_pw (own_D v_ - 1 - ii))), .second, .val (.int (((own_abs ((v_ / (own_pw (own_D v_ - 1 - ii))) - ((v_ / (own_pw (own_D v_ - 1 - ii))) / (10 : Int64)) * (10 : Int64)))).toInt32))] [(.int (cs1.getD (qn + ii) 0))])) _
    refine own_go (fun t k => XS.bipush X47z.here hx rfl (hb hby d_method_7_code_174) k) ?_
    refine own_go (fun t k => XS.iload X47z.here hx rfl (hb hby d_method_7_code_176) rfl k) ?_
    refine own_go (fun t k => XS.iadd X47z.here hx rfl (hb hby d_method_7_code_178) rfl k) ?_
    show own_G p e below (T47z.setTop (mkF m 179 #[.val (.ref a1), .val (.int (Int32.ofNat qn)), .val (.long v_), .second, .val (.int (Int32.ofNat (own_D v_))), .val (.int x), .val (.ref b2z), .val (.long (own_pw (own_D v_ - 1 - ii))), .second, .val (.int (((own_abs ((v_ / (own_pw (own_D v_ - 1 - ii))) - ((v_ / (own_pw (own_D v_ - 1 - ii))) / (10 : Int64)) * (10 : Int64)))).toInt32))] [(.int ((48 : Int32) + (((own_abs ((v_ / (own_pw (own_D v_ - 1 - ii))) - ((v_ / (own_pw (own_D v_ - 1 - ii))) / (10 : Int64)) * (10 : Int64)))).toInt32))), (.int (cs1.getD (qn + ii) 0))])) _
    refine own_go (fun t k => XS.i2c X47z.here hx rfl (hb hby d_method_7_code_179) rfl k) ?_
    refine own_go (fun t k => XS.icmpNo X47z.here hx rfl (hb hby d_method_7_code_180) rfl (teq ((hmq ii hit).trans (own_dgt (k := own_D v_ - 1 - ii) (by omega)).symm)).2 k) ?_
    show own_G p e below (T47z.setTop (mkF m 183 #[.val (.ref a1), .val (.int (Int32.ofNat qn)), .val (.long v_), .second, .val (.int (Int32.ofNat (own_D v_))), .val (.int x), .val (.ref b2z), .val (.long (own_pw (own_D v_ - 1 - ii))), .second, .val (.int (((own_abs ((v_ / (own_pw (own_D v_ - 1 - ii))) - ((v_ / (own_pw (own_D v_ - 1 - ii))) / (10 : Int64)) * (10 : Int64)))).toInt32))] [])) _
    refine own_go (fun t k => XS.iconst X47z.here hx rfl (hb hby d_method_7_code_183) k) ?_
    refine own_go (fun t k => XS.goto X47z.here hx rfl (pc0 := 184) (pc' := 188) rfl (hb hby d_method_7_code_184) (by decide) (by decide) k) ?_
    show own_G p e below (T47z.setTop (mkF m 188 #[.val (.ref a1), .val (.int (Int32.ofNat qn)), .val (.long v_), .second, .val (.int (Int32.ofNat (own_D v_))), .val (.int x), .val (.ref b2z), .val (.long (own_pw (own_D v_ - 1 - ii))), .second, .val (.int (((own_abs ((v_ / (own_pw (own_D v_ - 1 - ii))) - ((v_ / (own_pw (own_D v_ - 1 - ii))) / (10 : Int64)) * (10 : Int64)))).toInt32))] [(.int (1 : Int32))])) _
    exact own_ret X47z hx Bd.returns rfl (Or.inl ⟨rfl, Or.inr (Or.inl rfl), _, rfl⟩) (hb hby d_method_7_code_188) hlk (Nat.le_of_ble_eq_true rfl) (Nat.le_of_ble_eq_true rfl) (by show Q_own_dig Z a1 b1 k1 cs1 qn v_ x ii cz fm h0 _ T47z.heap _; rw [K47zq]; exact ⟨rfl, N47z, K41z⟩)
  · refine own_go (fun t k => XS.icmpNo X0.here hx rfl (hb hby d_method_7_code_4) rfl (flt hc1z).1 k) ?_
    show own_G p e below (s₁.setTop (mkF m 7 #[.val (.ref a1), .val (.int (Int32.ofNat qn)), .val (.long v_), .second, .val (.int (Int32.ofNat (own_D v_))), .val (.int x), .unset, .unset, .unset, .unset] [])) _
    refine own_go (fun t k => XS.iconst X0.here hx rfl (hb hby d_method_7_code_7) k) ?_
    exact own_ret X0 hx Bd.returns rfl (Or.inl ⟨rfl, Or.inr (Or.inl rfl), _, rfl⟩) (hb hby d_method_7_code_8) hlk (Nat.le_of_ble_eq_true rfl) (Nat.le_of_ble_eq_true rfl) (by show Q_own_dig Z a1 b1 k1 cs1 qn v_ x ii cz fm h0 _ s₁.heap _; rw [e0]; exact ⟨rfl, N0, K0⟩)
theorem ef_own_numb (m : MethodId) (x0 : Addr) (x1 : Int32) (x2 : Int64) : entryFrame m #[(.ref x0), (.int x1), (.long x2)] 7 = mkF m 0 #[.val (.ref x0), .val (.int x1), .val (.long x2), .second, .unset, .unset, .unset] [] := by first | (simp [entryFrame, mkF, argsToLocals, Value.category]; done) | rfl
theorem pf_own_numb : plainFor own_m39 = true := plainFor_of_name (by simp [plainName, overriddenIn])
theorem pd_2087993097 : parseMethodDescriptor "(J)I" = some ⟨[.long], some .int⟩ := by decide +kernel
theorem pd_69868949 : parseMethodDescriptor "(Ljava/lang/String;IJII)Z" = some ⟨[(.object "java/lang/String"), .int, .long, .int, .int], some .boolean⟩ := by decide +kernel
theorem d_method_5_code_0 : decode method_5_code 0 = .ok (.iload_n 1, 1) := by decide +kernel
theorem d_method_5_code_1 : decode method_5_code 1 = .ok (.ifCond .ge 5, 3) := by decide +kernel
theorem d_method_5_code_10 : decode method_5_code 10 = .ok (.lconst 0, 1) := by decide +kernel
theorem d_method_5_code_102 : decode method_5_code 102 = .ok (.aload_n 0, 1) := by decide +kernel
theorem d_method_5_code_103 : decode method_5_code 103 = .ok (.iload 4, 2) := by decide +kernel
theorem d_method_5_code_105 : decode method_5_code 105 = .ok (.lload_n 2, 1) := by decide +kernel
theorem d_method_5_code_106 : decode method_5_code 106 = .ok (.iload 5, 2) := by decide +kernel
theorem d_method_5_code_108 : decode method_5_code 108 = .ok (.iconst 3, 1) := by decide +kernel
theorem d_method_5_code_109 : decode method_5_code 109 = .ok (.invokestatic 52, 3) := by decide +kernel
theorem d_method_5_code_11 : decode method_5_code 11 = .ok (.lcmp, 1) := by decide +kernel
theorem d_method_5_code_112 : decode method_5_code 112 = .ok (.ifCond .eq 215, 3) := by decide +kernel
theorem d_method_5_code_115 : decode method_5_code 115 = .ok (.aload_n 0, 1) := by decide +kernel
theorem d_method_5_code_116 : decode method_5_code 116 = .ok (.iload 4, 2) := by decide +kernel
theorem d_method_5_code_118 : decode method_5_code 118 = .ok (.lload_n 2, 1) := by decide +kernel
theorem d_method_5_code_119 : decode method_5_code 119 = .ok (.iload 5, 2) := by decide +kernel
theorem d_method_5_code_12 : decode method_5_code 12 = .ok (.ifCond .ge 31, 3) := by decide +kernel
theorem d_method_5_code_121 : decode method_5_code 121 = .ok (.iconst 4, 1) := by decide +kernel
theorem d_method_5_code_122 : decode method_5_code 122 = .ok (.invokestatic 52, 3) := by decide +kernel
theorem d_method_5_code_125 : decode method_5_code 125 = .ok (.ifCond .eq 202, 3) := by decide +kernel
theorem d_method_5_code_128 : decode method_5_code 128 = .ok (.aload_n 0, 1) := by decide +kernel
theorem d_method_5_code_129 : decode method_5_code 129 = .ok (.iload 4, 2) := by decide +kernel
theorem d_method_5_code_131 : decode method_5_code 131 = .ok (.lload_n 2, 1) := by decide +kernel
theorem d_method_5_code_132 : decode method_5_code 132 = .ok (.iload 5, 2) := by decide +kernel
theorem d_method_5_code_134 : decode method_5_code 134 = .ok (.iconst 5, 1) := by decide +kernel
theorem d_method_5_code_135 : decode method_5_code 135 = .ok (.invokestatic 52, 3) := by decide +kernel
theorem d_method_5_code_138 : decode method_5_code 138 = .ok (.ifCond .eq 189, 3) := by decide +kernel
theorem d_method_5_code_141 : decode method_5_code 141 = .ok (.aload_n 0, 1) := by decide +kernel
theorem d_method_5_code_142 : decode method_5_code 142 = .ok (.iload 4, 2) := by decide +kernel
theorem d_method_5_code_144 : decode method_5_code 144 = .ok (.lload_n 2, 1) := by decide +kernel
theorem d_method_5_code_145 : decode method_5_code 145 = .ok (.iload 5, 2) := by decide +kernel
theorem d_method_5_code_147 : decode method_5_code 147 = .ok (.bipush 6, 2) := by decide +kernel
theorem d_method_5_code_149 : decode method_5_code 149 = .ok (.invokestatic 52, 3) := by decide +kernel
theorem d_method_5_code_15 : decode method_5_code 15 = .ok (.iload 4, 2) := by decide +kernel
theorem d_method_5_code_152 : decode method_5_code 152 = .ok (.ifCond .eq 175, 3) := by decide +kernel
theorem d_method_5_code_155 : decode method_5_code 155 = .ok (.aload_n 0, 1) := by decide +kernel
theorem d_method_5_code_156 : decode method_5_code 156 = .ok (.iload 4, 2) := by decide +kernel
theorem d_method_5_code_158 : decode method_5_code 158 = .ok (.lload_n 2, 1) := by decide +kernel
theorem d_method_5_code_159 : decode method_5_code 159 = .ok (.iload 5, 2) := by decide +kernel
theorem d_method_5_code_161 : decode method_5_code 161 = .ok (.bipush 7, 2) := by decide +kernel
theorem d_method_5_code_163 : decode method_5_code 163 = .ok (.invokestatic 52, 3) := by decide +kernel
theorem d_method_5_code_166 : decode method_5_code 166 = .ok (.ifCond .eq 161, 3) := by decide +kernel
theorem d_method_5_code_169 : decode method_5_code 169 = .ok (.aload_n 0, 1) := by decide +kernel
theorem d_method_5_code_17 : decode method_5_code 17 = .ok (.aload_n 0, 1) := by decide +kernel
theorem d_method_5_code_170 : decode method_5_code 170 = .ok (.iload 4, 2) := by decide +kernel
theorem d_method_5_code_172 : decode method_5_code 172 = .ok (.lload_n 2, 1) := by decide +kernel
theorem d_method_5_code_173 : decode method_5_code 173 = .ok (.iload 5, 2) := by decide +kernel
theorem d_method_5_code_175 : decode method_5_code 175 = .ok (.bipush 8, 2) := by decide +kernel
theorem d_method_5_code_177 : decode method_5_code 177 = .ok (.invokestatic 52, 3) := by decide +kernel
theorem d_method_5_code_18 : decode method_5_code 18 = .ok (.invokevirtual 34, 3) := by decide +kernel
theorem d_method_5_code_180 : decode method_5_code 180 = .ok (.ifCond .eq 147, 3) := by decide +kernel
theorem d_method_5_code_183 : decode method_5_code 183 = .ok (.aload_n 0, 1) := by decide +kernel
theorem d_method_5_code_184 : decode method_5_code 184 = .ok (.iload 4, 2) := by decide +kernel
theorem d_method_5_code_186 : decode method_5_code 186 = .ok (.lload_n 2, 1) := by decide +kernel
theorem d_method_5_code_187 : decode method_5_code 187 = .ok (.iload 5, 2) := by decide +kernel
theorem d_method_5_code_189 : decode method_5_code 189 = .ok (.bipush 9, 2) := by decide +kernel
theorem d_method_5_code_191 : decode method_5_code 191 = .ok (.invokestatic 52, 3) := by decide +kernel
theorem d_method_5_code_194 : decode method_5_code 194 = .ok (.ifCond .eq 133, 3) := by decide +kernel
theorem d_method_5_code_197 : decode method_5_code 197 = .ok (.aload_n 0, 1) := by decide +kernel
theorem d_method_5_code_198 : decode method_5_code 198 = .ok (.iload 4, 2) := by decide +kernel
theorem d_method_5_code_200 : decode method_5_code 200 = .ok (.lload_n 2, 1) := by decide +kernel
theorem d_method_5_code_201 : decode method_5_code 201 = .ok (.iload 5, 2) := by decide +kernel
theorem d_method_5_code_203 : decode method_5_code 203 = .ok (.bipush 10, 2) := by decide +kernel
theorem d_method_5_code_205 : decode method_5_code 205 = .ok (.invokestatic 52, 3) := by decide +kernel
theorem d_method_5_code_208 : decode method_5_code 208 = .ok (.ifCond .eq 119, 3) := by decide +kernel
theorem d_method_5_code_21 : decode method_5_code 21 = .ok (.if_icmp .ge 14, 3) := by decide +kernel
theorem d_method_5_code_211 : decode method_5_code 211 = .ok (.aload_n 0, 1) := by decide +kernel
theorem d_method_5_code_212 : decode method_5_code 212 = .ok (.iload 4, 2) := by decide +kernel
theorem d_method_5_code_214 : decode method_5_code 214 = .ok (.lload_n 2, 1) := by decide +kernel
theorem d_method_5_code_215 : decode method_5_code 215 = .ok (.iload 5, 2) := by decide +kernel
theorem d_method_5_code_217 : decode method_5_code 217 = .ok (.bipush 11, 2) := by decide +kernel
theorem d_method_5_code_219 : decode method_5_code 219 = .ok (.invokestatic 52, 3) := by decide +kernel
theorem d_method_5_code_222 : decode method_5_code 222 = .ok (.ifCond .eq 105, 3) := by decide +kernel
theorem d_method_5_code_225 : decode method_5_code 225 = .ok (.aload_n 0, 1) := by decide +kernel
theorem d_method_5_code_226 : decode method_5_code 226 = .ok (.iload 4, 2) := by decide +kernel
theorem d_method_5_code_228 : decode method_5_code 228 = .ok (.lload_n 2, 1) := by decide +kernel
theorem d_method_5_code_229 : decode method_5_code 229 = .ok (.iload 5, 2) := by decide +kernel
theorem d_method_5_code_231 : decode method_5_code 231 = .ok (.bipush 12, 2) := by decide +kernel
theorem d_method_5_code_233 : decode method_5_code 233 = .ok (.invokestatic 52, 3) := by decide +kernel
theorem d_method_5_code_236 : decode method_5_code 236 = .ok (.ifCond .eq 91, 3) := by decide +kernel
theorem d_method_5_code_239 : decode method_5_code 239 = .ok (.aload_n 0, 1) := by decide +kernel
theorem d_method_5_code_24 : decode method_5_code 24 = .ok (.aload_n 0, 1) := by decide +kernel
theorem d_method_5_code_240 : decode method_5_code 240 = .ok (.iload 4, 2) := by decide +kernel
theorem d_method_5_code_242 : decode method_5_code 242 = .ok (.lload_n 2, 1) := by decide +kernel
theorem d_method_5_code_243 : decode method_5_code 243 = .ok (.iload 5, 2) := by decide +kernel
theorem d_method_5_code_245 : decode method_5_code 245 = .ok (.bipush 13, 2) := by decide +kernel
theorem d_method_5_code_247 : decode method_5_code 247 = .ok (.invokestatic 52, 3) := by decide +kernel
theorem d_method_5_code_25 : decode method_5_code 25 = .ok (.iload 4, 2) := by decide +kernel
theorem d_method_5_code_250 : decode method_5_code 250 = .ok (.ifCond .eq 77, 3) := by decide +kernel
theorem d_method_5_code_253 : decode method_5_code 253 = .ok (.aload_n 0, 1) := by decide +kernel
theorem d_method_5_code_254 : decode method_5_code 254 = .ok (.iload 4, 2) := by decide +kernel
theorem d_method_5_code_256 : decode method_5_code 256 = .ok (.lload_n 2, 1) := by decide +kernel
theorem d_method_5_code_257 : decode method_5_code 257 = .ok (.iload 5, 2) := by decide +kernel
theorem d_method_5_code_259 : decode method_5_code 259 = .ok (.bipush 14, 2) := by decide +kernel
theorem d_method_5_code_261 : decode method_5_code 261 = .ok (.invokestatic 52, 3) := by decide +kernel
theorem d_method_5_code_264 : decode method_5_code 264 = .ok (.ifCond .eq 63, 3) := by decide +kernel
theorem d_method_5_code_267 : decode method_5_code 267 = .ok (.aload_n 0, 1) := by decide +kernel
theorem d_method_5_code_268 : decode method_5_code 268 = .ok (.iload 4, 2) := by decide +kernel
theorem d_method_5_code_27 : decode method_5_code 27 = .ok (.invokevirtual 44, 3) := by decide +kernel
theorem d_method_5_code_270 : decode method_5_code 270 = .ok (.lload_n 2, 1) := by decide +kernel
theorem d_method_5_code_271 : decode method_5_code 271 = .ok (.iload 5, 2) := by decide +kernel
theorem d_method_5_code_273 : decode method_5_code 273 = .ok (.bipush 15, 2) := by decide +kernel
theorem d_method_5_code_275 : decode method_5_code 275 = .ok (.invokestatic 52, 3) := by decide +kernel
theorem d_method_5_code_278 : decode method_5_code 278 = .ok (.ifCond .eq 49, 3) := by decide +kernel
theorem d_method_5_code_281 : decode method_5_code 281 = .ok (.aload_n 0, 1) := by decide +kernel
theorem d_method_5_code_282 : decode method_5_code 282 = .ok (.iload 4, 2) := by decide +kernel
theorem d_method_5_code_284 : decode method_5_code 284 = .ok (.lload_n 2, 1) := by decide +kernel
theorem d_method_5_code_285 : decode method_5_code 285 = .ok (.iload 5, 2) := by decide +kernel
theorem d_method_5_code_287 : decode method_5_code 287 = .ok (.bipush 16, 2) := by decide +kernel
theorem d_method_5_code_289 : decode method_5_code 289 = .ok (.invokestatic 52, 3) := by decide +kernel
theorem d_method_5_code_292 : decode method_5_code 292 = .ok (.ifCond .eq 35, 3) := by decide +kernel
theorem d_method_5_code_295 : decode method_5_code 295 = .ok (.aload_n 0, 1) := by decide +kernel
theorem d_method_5_code_296 : decode method_5_code 296 = .ok (.iload 4, 2) := by decide +kernel
theorem d_method_5_code_298 : decode method_5_code 298 = .ok (.lload_n 2, 1) := by decide +kernel
theorem d_method_5_code_299 : decode method_5_code 299 = .ok (.iload 5, 2) := by decide +kernel
theorem d_method_5_code_30 : decode method_5_code 30 = .ok (.bipush 45, 2) := by decide +kernel
theorem d_method_5_code_301 : decode method_5_code 301 = .ok (.bipush 17, 2) := by decide +kernel
theorem d_method_5_code_303 : decode method_5_code 303 = .ok (.invokestatic 52, 3) := by decide +kernel
theorem d_method_5_code_306 : decode method_5_code 306 = .ok (.ifCond .eq 21, 3) := by decide +kernel
theorem d_method_5_code_309 : decode method_5_code 309 = .ok (.aload_n 0, 1) := by decide +kernel
theorem d_method_5_code_310 : decode method_5_code 310 = .ok (.iload 4, 2) := by decide +kernel
theorem d_method_5_code_312 : decode method_5_code 312 = .ok (.lload_n 2, 1) := by decide +kernel
theorem d_method_5_code_313 : decode method_5_code 313 = .ok (.iload 5, 2) := by decide +kernel
theorem d_method_5_code_315 : decode method_5_code 315 = .ok (.bipush 18, 2) := by decide +kernel
theorem d_method_5_code_317 : decode method_5_code 317 = .ok (.invokestatic 52, 3) := by decide +kernel
theorem d_method_5_code_32 : decode method_5_code 32 = .ok (.if_icmp .eq 5, 3) := by decide +kernel
theorem d_method_5_code_320 : decode method_5_code 320 = .ok (.ifCond .eq 7, 3) := by decide +kernel
theorem d_method_5_code_323 : decode method_5_code 323 = .ok (.iconst 1, 1) := by decide +kernel
theorem d_method_5_code_324 : decode method_5_code 324 = .ok (.goto 4, 3) := by decide +kernel
theorem d_method_5_code_328 : decode method_5_code 328 = .ok (.istore 6, 2) := by decide +kernel
theorem d_method_5_code_330 : decode method_5_code 330 = .ok (.iload 6, 2) := by decide +kernel
theorem d_method_5_code_332 : decode method_5_code 332 = .ok (.ifCond .eq 11, 3) := by decide +kernel
theorem d_method_5_code_335 : decode method_5_code 335 = .ok (.iload 4, 2) := by decide +kernel
theorem d_method_5_code_337 : decode method_5_code 337 = .ok (.iload 5, 2) := by decide +kernel
theorem d_method_5_code_339 : decode method_5_code 339 = .ok (.iadd, 1) := by decide +kernel
theorem d_method_5_code_340 : decode method_5_code 340 = .ok (.goto 4, 3) := by decide +kernel
theorem d_method_5_code_344 : decode method_5_code 344 = .ok (.ireturn, 1) := by decide +kernel
theorem d_method_5_code_37 : decode method_5_code 37 = .ok (.iload 4, 2) := by decide +kernel
theorem d_method_5_code_39 : decode method_5_code 39 = .ok (.iconst 1, 1) := by decide +kernel
theorem d_method_5_code_40 : decode method_5_code 40 = .ok (.iadd, 1) := by decide +kernel
theorem d_method_5_code_41 : decode method_5_code 41 = .ok (.istore 4, 2) := by decide +kernel
theorem d_method_5_code_43 : decode method_5_code 43 = .ok (.lload_n 2, 1) := by decide +kernel
theorem d_method_5_code_44 : decode method_5_code 44 = .ok (.invokestatic 48, 3) := by decide +kernel
theorem d_method_5_code_47 : decode method_5_code 47 = .ok (.istore 5, 2) := by decide +kernel
theorem d_method_5_code_49 : decode method_5_code 49 = .ok (.iload 4, 2) := by decide +kernel
theorem d_method_5_code_51 : decode method_5_code 51 = .ok (.iload 5, 2) := by decide +kernel
theorem d_method_5_code_53 : decode method_5_code 53 = .ok (.iadd, 1) := by decide +kernel
theorem d_method_5_code_54 : decode method_5_code 54 = .ok (.aload_n 0, 1) := by decide +kernel
theorem d_method_5_code_55 : decode method_5_code 55 = .ok (.invokevirtual 34, 3) := by decide +kernel
theorem d_method_5_code_58 : decode method_5_code 58 = .ok (.if_icmp .le 5, 3) := by decide +kernel
theorem d_method_5_code_6 : decode method_5_code 6 = .ok (.iload_n 1, 1) := by decide +kernel
theorem d_method_5_code_63 : decode method_5_code 63 = .ok (.aload_n 0, 1) := by decide +kernel
theorem d_method_5_code_64 : decode method_5_code 64 = .ok (.iload 4, 2) := by decide +kernel
theorem d_method_5_code_66 : decode method_5_code 66 = .ok (.lload_n 2, 1) := by decide +kernel
theorem d_method_5_code_67 : decode method_5_code 67 = .ok (.iload 5, 2) := by decide +kernel
theorem d_method_5_code_69 : decode method_5_code 69 = .ok (.iconst 0, 1) := by decide +kernel
theorem d_method_5_code_7 : decode method_5_code 7 = .ok (.istore 4, 2) := by decide +kernel
theorem d_method_5_code_70 : decode method_5_code 70 = .ok (.invokestatic 52, 3) := by decide +kernel
theorem d_method_5_code_73 : decode method_5_code 73 = .ok (.ifCond .eq 254, 3) := by decide +kernel
theorem d_method_5_code_76 : decode method_5_code 76 = .ok (.aload_n 0, 1) := by decide +kernel
theorem d_method_5_code_77 : decode method_5_code 77 = .ok (.iload 4, 2) := by decide +kernel
theorem d_method_5_code_79 : decode method_5_code 79 = .ok (.lload_n 2, 1) := by decide +kernel
theorem d_method_5_code_80 : decode method_5_code 80 = .ok (.iload 5, 2) := by decide +kernel
theorem d_method_5_code_82 : decode method_5_code 82 = .ok (.iconst 1, 1) := by decide +kernel
theorem d_method_5_code_83 : decode method_5_code 83 = .ok (.invokestatic 52, 3) := by decide +kernel
theorem d_method_5_code_86 : decode method_5_code 86 = .ok (.ifCond .eq 241, 3) := by decide +kernel
theorem d_method_5_code_89 : decode method_5_code 89 = .ok (.aload_n 0, 1) := by decide +kernel
theorem d_method_5_code_9 : decode method_5_code 9 = .ok (.lload_n 2, 1) := by decide +kernel
theorem d_method_5_code_90 : decode method_5_code 90 = .ok (.iload 4, 2) := by decide +kernel
theorem d_method_5_code_92 : decode method_5_code 92 = .ok (.lload_n 2, 1) := by decide +kernel
theorem d_method_5_code_93 : decode method_5_code 93 = .ok (.iload 5, 2) := by decide +kernel
theorem d_method_5_code_95 : decode method_5_code 95 = .ok (.iconst 2, 1) := by decide +kernel
theorem d_method_5_code_96 : decode method_5_code 96 = .ok (.invokestatic 52, 3) := by decide +kernel
theorem d_method_5_code_99 : decode method_5_code 99 = .ok (.ifCond .eq 228, 3) := by decide +kernel
def Q_own_numb (Z : State) (a1 : Addr) (b1 : Addr) (k1 : ClassId) (cs1 : (List Int32)) (pn : Nat) (v_ : Int64) (cz : Int32) (fm : Value) (h0 : Heap) (v : Option Value) (h : Heap) (L : List Loc) : Prop := v = some (.int (Int32.ofNat (pn + (own_sl v_).length))) ∧ Fr Z.heap.size L ∧ Keep h0 h []
set_option maxRecDepth 65536 in
set_option maxHeartbeats 40000000 in
theorem own_numb (l : Launch) (Z : State) (a0 : Array Value) (hw : ∀ d ∈ tables_1, d.before a0 Z = true) (ws : List Jvm.Cond) (a1 : Addr) (b1 : Addr) (k1 : ClassId) (cs1 : (List Int32)) (pn : Nat) (v_ : Int64) (cz : Int32) (fm : Value) (h0 : Heap) (O0 : Ext Z.heap h0) (q0 : Exa Z h0 a1 own_s2) (q1 : Fld Z h0 a1 own_s2 "value" "[B" (.ref b1)) (q2 : Fld Z h0 a1 own_s2 "coder" "B" (.int (0 : Int32))) (q3 : own_A Z h0 b1 k1 .byte (own_cv cs1)) (hl1 : cs1.length ≤ 200) (hasc1 : own_asc cs1) (hpl : pn + (own_sl v_).length ≤ cs1.length) (hm : own_M cs1 (own_sl v_) pn) (S_CS : Sta Z Z.heap own_s2 own_s5 "Z" (.int cz)) (hcs : ¬ (cz = (0 : Int32))) (S_FM : Sta Z Z.heap own_s6 "SIOOBE_FORMATTER" "Ljava/util/function/BiFunction;" fm) (hfm : fm.isRef = true) :
    MetFree l own_m39 (head1 (Jvm.Cond.code own_m39 method_5_code 7 (some .int) :: ws) ({ frames := 5, cells := 19, slots := 361, locals := 104 } : Room)) (fun aa U => aa = #[(.ref a1), (.int (Int32.ofNat pn)), (.long v_)] ∧ Z.Warmed39 U.vm ∧ U.heap = h0) (fun _ _ _ _ _ => True) (fun _ U o U' => ∃ v L, o = .returned v ∧ Q_own_numb Z a1 b1 k1 cs1 pn v_ cz fm h0 v U'.heap L ∧ FrameEnd U o U' L ({ frames := 5, cells := 19, slots := 361, locals := 104 } : Room).cells ({ frames := 5, cells := 19, slots := 361, locals := 104 } : Room).slots) := by
  refine MetFree.of_bodySF pf_own_numb hisR ?_
  intro p e s m args below meth c s₁ Bd hml0 hP hK
  obtain ⟨rfl, hZ, hh⟩ := hP
  have hx := Bd.exec
  have hby := Bd.bytes
  have hlk := BodyLoose.notSynchronized Bd
  have hml : c.maxLocals = 7 := hml0
  have hown : s.vm.findClass own_s4 = some m.cls := findClass_of_methodNamed Bd.named
  have hnm := (name_of_methodNamed Bd.named Bd.method).1
  have X0 : Stand p l e ({ frames := 5, cells := 19, slots := 361, locals := 104 } : Room) s m #[(.ref a1), (.int (Int32.ofNat pn)), (.long v_)] below meth c s₁ [] 0 0 := Stand.of_body Bd
  have e0 : s₁.heap = h0 := by rw [← hh, Bd.state]; rfl
  have N0 := Fr.nil Z.heap.size
  have K0 : Keep h0 h0 [] := Keep.refl _ _
  refine own_start (Q := Q_own_numb Z a1 b1 k1 cs1 pn v_ cz fm h0) (ef_own_numb m (a1) ((Int32.ofNat pn)) (v_)) ?_
  show own_G p e below (s₁.setTop (mkF m 0 #[.val (.ref a1), .val (.int (Int32.ofNat pn)), .val (.long v_), .second, .unset, .unset, .unset] [])) _
  have hD := own_D19 v_
  have go43 : ∀ (qn : Nat) (T : State) (locs : List Loc), qn + own_D v_ ≤ cs1.length → (∀ j, j < own_D v_ → cs1.getD (qn + j) 0 = Int32.ofNat (48 + v_.toInt.natAbs / 10 ^ (own_D v_ - 1 - j) % 10)) → qn + own_D v_ = pn + (own_sl v_).length → Stand p l e ({ frames := 5, cells := 19, slots := 361, locals := 104 } : Room) s m #[.ref a1, .int (Int32.ofNat pn), .long v_] below meth c T locs 0 0 → T.heap = h0 → Fr Z.heap.size locs → own_G p e below (T.setTop (mkF m 43 #[.val (.ref a1), .val (.int (Int32.ofNat pn)), .val (.long v_), .second, .val (.int (Int32.ofNat qn)), .unset, .unset] [])) (own_P s below ({ frames := 5, cells := 19, slots := 361, locals := 104 } : Room).cells ({ frames := 5, cells := 19, slots := 361, locals := 104 } : Room).slots (Q_own_numb Z a1 b1 k1 cs1 pn v_ cz fm h0)) := by
    intro qn T locs hq hmq hend X eL NL
    show own_G p e below (T.setTop (mkF m 43 #[.val (.ref a1), .val (.int (Int32.ofNat pn)), .val (.long v_), .second, .val (.int (Int32.ofNat qn)), .unset, .unset] [])) _
    refine own_go (fun t k => XS.lloadN X.here hx rfl (hb hby d_method_5_code_43) rfl k) ?_
    obtain ⟨_, _, ⟨T1z, L1z, k1z, n1z⟩, -, X1z, ⟨Lc1z, hQ1z, l1z, y1z, z1z⟩, st1z⟩ := Jvm.LawKit.callS X hx (y := own_m37) hown (own_mw hZ hw 239 rfl) (own_mw hZ hw 240 rfl) (own_mw hZ hw 208 rfl) (own_mw hZ hw 241 rfl) (by decide) (backOf (W := 0) (own_dc l Z a0 hw [] v_ h0 O0) hZ (own_hw hw 241 rfl) (own_hw hw 208 rfl) (by decide) (by decide)) (g := (mkF m 44 #[.val (.ref a1), .val (.int (Int32.ofNat pn)), .val (.long v_), .second, .val (.int (Int32.ofNat qn)), .unset, .unset] [(.long v_)])) rfl (by rw [hml]; rfl) (argsL := [(.long v_)]) (rest := []) (lenOf pd_2087993097 rfl) rfl (by show 2 * 0 + _ ≤ _; exact Nat.le_of_eq rfl) (hb hby d_method_5_code_44) (fun _ _ => ⟨rfl, eL, (by decide : 0 + 0 ≤ _), (by decide : 0 + 0 ≤ _)⟩)
    dsimp only [Pt.U, Pt.locs, Pt.cells, Pt.slots] at X1z l1z y1z z1z st1z hQ1z
    subst l1z y1z z1z
    obtain ⟨rfl, NQ1z, K1zq⟩ := hQ1z
    refine own_go st1z ?_
    have N1z := Fr.app NL NQ1z
    show own_G p e below (T1z.setTop (mkF m 47 #[.val (.ref a1), .val (.int (Int32.ofNat pn)), .val (.long v_), .second, .val (.int (Int32.ofNat qn)), .unset, .unset] [(.int (Int32.ofNat (own_D v_)))])) _
    refine own_go (fun t k => XS.istore X1z.here hx rfl (hb hby d_method_5_code_47) rfl (l' := #[.val (.ref a1), .val (.int (Int32.ofNat pn)), .val (.long v_), .second, .val (.int (Int32.ofNat qn)), .val (.int (Int32.ofNat (own_D v_))), .unset]) rfl k) ?_
    refine own_go (fun t k => XS.iload X1z.here hx rfl (hb hby d_method_5_code_49) rfl k) ?_
    refine own_go (fun t k => XS.iload X1z.here hx rfl (hb hby d_method_5_code_51) rfl k) ?_
    show own_G p e below (T1z.setTop (mkF m 53 #[.val (.ref a1), .val (.int (Int32.ofNat pn)), .val (.long v_), .second, .val (.int (Int32.ofNat qn)), .val (.int (Int32.ofNat (own_D v_))), .unset] [(.int (Int32.ofNat (own_D v_))), (.int (Int32.ofNat qn))])) _
    refine own_go (fun t k => XS.iadd X1z.here hx rfl (hb hby d_method_5_code_53) rfl k) ?_
    show own_G p e below (T1z.setTop (mkF m 54 #[.val (.ref a1), .val (.int (Int32.ofNat pn)), .val (.long v_), .second, .val (.int (Int32.ofNat qn)), .val (.int (Int32.ofNat (own_D v_))), .unset] [(.int ((Int32.ofNat qn) + (Int32.ofNat (own_D v_))))])) _
    rw [own_addN (by omega)]
    show own_G p e below (T1z.setTop (mkF m 54 #[.val (.ref a1), .val (.int (Int32.ofNat pn)), .val (.long v_), .second, .val (.int (Int32.ofNat qn)), .val (.int (Int32.ofNat (own_D v_))), .unset] [(.int (Int32.ofNat (qn + (own_D v_))))])) _
    refine own_go (fun t k => XS.aloadN X1z.here hx rfl (hb hby d_method_5_code_54) rfl rfl k) ?_
    obtain ⟨cq2z, kq2z, qa2z, qb2z, qc2z⟩ := isOf hZ K1zq q0
    obtain ⟨_, _, ⟨T2z, L2z, k2z, n2z⟩, -, X2z, ⟨Lc2z, hQ2z, l2z, y2z, z2z⟩, st2z⟩ := X1z.virtualBack hx (y := own_m7) (z := own_m7) hown (own_mw hZ hw 210 rfl) (own_mw hZ hw 59 rfl) (notFace_of_selects (args := #[]) (own_mw hZ hw 61 rfl)) (own_mw hZ hw 61 rfl) (own_mw hZ hw 60 rfl) (by decide) (backOf (W := 1) (own_slen l Z a0 hw [] a1 b1 k1 cs1 cz h0 O0 q0 q1 q2 q3 hl1 S_CS hcs) hZ (own_hw hw 62 rfl) (own_hw hw 36 rfl) (by decide) (by decide)) qa2z qc2z (g := (mkF m 55 #[.val (.ref a1), .val (.int (Int32.ofNat pn)), .val (.long v_), .second, .val (.int (Int32.ofNat qn)), .val (.int (Int32.ofNat (own_D v_))), .unset] [(.ref a1), (.int (Int32.ofNat (qn + (own_D v_))))])) rfl (by rw [hml]; rfl) (Steps.refl _) (argsL := []) (rest := [(.int (Int32.ofNat (qn + (own_D v_))))]) (lenOf pd_193421983 rfl) rfl (by show 2 * 0 + _ ≤ _; exact Nat.le_of_eq rfl) (hb hby d_method_5_code_55) (fun _ _ => ⟨rfl, K1zq, (by decide : 0 + 0 ≤ _), (by decide : 0 + 0 ≤ _)⟩)
    dsimp only [Pt.U, Pt.locs, Pt.cells, Pt.slots] at X2z l2z y2z z2z st2z hQ2z
    subst l2z y2z z2z
    obtain ⟨rfl, NQ2z, K2zq⟩ := hQ2z
    refine own_tr st2z ?_
    have N2z := Fr.app N1z NQ2z
    show own_G p e below (T2z.setTop (mkF m 58 #[.val (.ref a1), .val (.int (Int32.ofNat pn)), .val (.long v_), .second, .val (.int (Int32.ofNat qn)), .val (.int (Int32.ofNat (own_D v_))), .unset] [(.int (Int32.ofNat cs1.length)), (.int (Int32.ofNat (qn + (own_D v_))))])) _
    refine own_go (fun t k => XS.icmpYes X2z.here hx rfl (pc0 := 58) (pc' := 63) rfl (hb hby d_method_5_code_58) rfl (flt (fun q => absurd ((own_ltN (own_ofN (by omega)) (own_ofN (by omega))).mp q) (by omega))).2.2.2 (by decide) (by decide) k) ?_
    show own_G p e below (T2z.setTop (mkF m 63 #[.val (.ref a1), .val (.int (Int32.ofNat pn)), .val (.long v_), .second, .val (.int (Int32.ofNat qn)), .val (.int (Int32.ofNat (own_D v_))), .unset] [])) _
    refine own_go (fun t k => XS.aloadN X2z.here hx rfl (hb hby d_method_5_code_63) rfl rfl k) ?_
    refine own_go (fun t k => XS.iload X2z.here hx rfl (hb hby d_method_5_code_64) rfl k) ?_
    refine own_go (fun t k => XS.lloadN X2z.here hx rfl (hb hby d_method_5_code_66) rfl k) ?_
    show own_G p e below (T2z.setTop (mkF m 67 #[.val (.ref a1), .val (.int (Int32.ofNat pn)), .val (.long v_), .second, .val (.int (Int32.ofNat qn)), .val (.int (Int32.ofNat (own_D v_))), .unset] [(.long v_), (.int (Int32.ofNat qn)), (.ref a1)])) _
    refine own_go (fun t k => XS.iload X2z.here hx rfl (hb hby d_method_5_code_67) rfl k) ?_
    refine own_go (fun t k => XS.iconst X2z.here hx rfl (hb hby d_method_5_code_69) k) ?_
    obtain ⟨_, _, ⟨T3z, L3z, k3z, n3z⟩, -, X3z, ⟨Lc3z, hQ3z, l3z, y3z, z3z⟩, st3z⟩ := Jvm.LawKit.callS X2z hx (y := own_m38) hown (own_mw hZ hw 260 rfl) (own_mw hZ hw 261 rfl) (own_mw hZ hw 208 rfl) (own_mw hZ hw 262 rfl) (by decide) (backOf (W := 0) (own_dig l Z a0 hw [] a1 b1 k1 cs1 qn v_ (0 : Int32) 0 cz fm h0 O0 q0 q1 q2 q3 hl1 hasc1 (by decide) hq hmq S_CS hcs S_FM hfm) hZ (own_hw hw 262 rfl) (own_hw hw 208 rfl) (by decide) (by decide)) (g := (mkF m 70 #[.val (.ref a1), .val (.int (Int32.ofNat pn)), .val (.long v_), .second, .val (.int (Int32.ofNat qn)), .val (.int (Int32.ofNat (own_D v_))), .unset] [(.int (0 : Int32)), (.int (Int32.ofNat (own_D v_))), (.long v_), (.int (Int32.ofNat qn)), (.ref a1)])) rfl (by rw [hml]; rfl) (argsL := [(.ref a1), (.int (Int32.ofNat qn)), (.long v_), (.int (Int32.ofNat (own_D v_))), (.int (0 : Int32))]) (rest := []) (lenOf pd_69868949 rfl) rfl (by show 2 * 0 + _ ≤ _; exact Nat.le_of_eq rfl) (hb hby d_method_5_code_70) (fun _ _ => ⟨rfl, K2zq, (by decide : 0 + 1 ≤ _), (by decide : 0 + 19 ≤ _)⟩)
    dsimp only [Pt.U, Pt.locs, Pt.cells, Pt.slots] at X3z l3z y3z z3z st3z hQ3z
    subst l3z y3z z3z
    obtain ⟨rfl, NQ3z, K3zq⟩ := hQ3z
    refine own_go st3z ?_
    have N3z := Fr.app N2z NQ3z
    have O4z := own_ext_keep O0 K3zq all0
    have K4z := K0.trans K3zq all0
    show own_G p e below (T3z.setTop (mkF m 73 #[.val (.ref a1), .val (.int (Int32.ofNat pn)), .val (.long v_), .second, .val (.int (Int32.ofNat qn)), .val (.int (Int32.ofNat (own_D v_))), .unset] [(.int (1 : Int32))])) _
    refine own_go (fun t k => XS.ifNo X3z.here hx rfl (hb hby d_method_5_code_73) rfl ((if0 _ _).trans (feq (by decide : ¬ ((1 : Int32) = (0 : Int32)))).1) k) ?_
    show own_G p e below (T3z.setTop (mkF m 76 #[.val (.ref a1), .val (.int (Int32.ofNat pn)), .val (.long v_), .second, .val (.int (Int32.ofNat qn)), .val (.int (Int32.ofNat (own_D v_))), .unset] [])) _
    refine own_go (fun t k => XS.aloadN X3z.here hx rfl (hb hby d_method_5_code_76) rfl rfl k) ?_
    refine own_go (fun t k => XS.iload X3z.here hx rfl (hb hby d_method_5_code_77) rfl k) ?_
    refine own_go (fun t k => XS.lloadN X3z.here hx rfl (hb hby d_method_5_code_79) rfl k) ?_
    show own_G p e below (T3z.setTop (mkF m 80 #[.val (.ref a1), .val (.int (Int32.ofNat pn)), .val (.long v_), .second, .val (.int (Int32.ofNat qn)), .val (.int (Int32.ofNat (own_D v_))), .unset] [(.long v_), (.int (Int32.ofNat qn)), (.ref a1)])) _
    refine own_go (fun t k => XS.iload X3z.here hx rfl (hb hby d_method_5_code_80) rfl k) ?_
    refine own_go (fun t k => XS.iconst X3z.here hx rfl (hb hby d_method_5_code_82) k) ?_
    obtain ⟨_, _, ⟨T5z, L5z, k5z, n5z⟩, -, X5z, ⟨Lc5z, hQ5z, l5z, y5z, z5z⟩, st5z⟩ := Jvm.LawKit.callS X3z hx (y := own_m38) hown (own_mw hZ hw 260 rfl) (own_mw hZ hw 261 rfl) (own_mw hZ hw 208 rfl) (own_mw hZ hw 262 rfl) (by decide) (backOf (W := 0) (own_dig l Z a0 hw [] a1 b1 k1 cs1 qn v_ (1 : Int32) 1 cz fm T3z.heap O4z (q0.keep K3zq) (q1.keep K3zq (by simp)) (q2.keep K3zq (by simp)) (q3.keep K3zq (by simp)) hl1 hasc1 (by decide) hq hmq S_CS hcs S_FM hfm) hZ (own_hw hw 262 rfl) (own_hw hw 208 rfl) (by decide) (by decide)) (g := (mkF m 83 #[.val (.ref a1), .val (.int (Int32.ofNat pn)), .val (.long v_), .second, .val (.int (Int32.ofNat qn)), .val (.int (Int32.ofNat (own_D v_))), .unset] [(.int (1 : Int32)), (.int (Int32.ofNat (own_D v_))), (.long v_), (.int (Int32.ofNat qn)), (.ref a1)])) rfl (by rw [hml]; rfl) (argsL := [(.ref a1), (.int (Int32.ofNat qn)), (.long v_), (.int (Int32.ofNat (own_D v_))), (.int (1 : Int32))]) (rest := []) (lenOf pd_69868949 rfl) rfl (by show 2 * 0 + _ ≤ _; exact Nat.le_of_eq rfl) (hb hby d_method_5_code_83) (fun _ _ => ⟨rfl, rfl, (by decide : 1 + 1 ≤ _), (by decide : 19 + 19 ≤ _)⟩)
    dsimp only [Pt.U, Pt.locs, Pt.cells, Pt.slots] at X5z l5z y5z z5z st5z hQ5z
    subst l5z y5z z5z
    obtain ⟨rfl, NQ5z, K5zq⟩ := hQ5z
    refine own_go st5z ?_
    have N5z := Fr.app N3z NQ5z
    have O6z := own_ext_keep O4z K5zq all0
    have K6z := K4z.trans K5zq all0
    show own_G p e below (T5z.setTop (mkF m 86 #[.val (.ref a1), .val (.int (Int32.ofNat pn)), .val (.long v_), .second, .val (.int (Int32.ofNat qn)), .val (.int (Int32.ofNat (own_D v_))), .unset] [(.int (1 : Int32))])) _
    refine own_go (fun t k => XS.ifNo X5z.here hx rfl (hb hby d_method_5_code_86) rfl ((if0 _ _).trans (feq (by decide : ¬ ((1 : Int32) = (0 : Int32)))).1) k) ?_
    show own_G p e below (T5z.setTop (mkF m 89 #[.val (.ref a1), .val (.int (Int32.ofNat pn)), .val (.long v_), .second, .val (.int (Int32.ofNat qn)), .val (.int (Int32.ofNat (own_D v_))), .unset] [])) _
    refine own_go (fun t k => XS.aloadN X5z.here hx rfl (hb hby d_method_5_code_89) rfl rfl k) ?_
    refine own_go (fun t k => XS.iload X5z.here hx rfl (hb hby d_method_5_code_90) rfl k) ?_
    refine own_go (fun t k => XS.lloadN X5z.here hx rfl (hb hby d_method_5_code_92) rfl k) ?_
    show own_G p e below (T5z.setTop (mkF m 93 #[.val (.ref a1), .val (.int (Int32.ofNat pn)), .val (.long v_), .second, .val (.int (Int32.ofNat qn)), .val (.int (Int32.ofNat (own_D v_))), .unset] [(.long v_), (.int (Int32.ofNat qn)), (.ref a1)])) _
    refine own_go (fun t k => XS.iload X5z.here hx rfl (hb hby d_method_5_code_93) rfl k) ?_
    refine own_go (fun t k => XS.iconst X5z.here hx rfl (hb hby d_method_5_code_95) k) ?_
    obtain ⟨_, _, ⟨T7z, L7z, k7z, n7z⟩, -, X7z, ⟨Lc7z, hQ7z, l7z, y7z, z7z⟩, st7z⟩ := Jvm.LawKit.callS X5z hx (y := own_m38) hown (own_mw hZ hw 260 rfl) (own_mw hZ hw 261 rfl) (own_mw hZ hw 208 rfl) (own_mw hZ hw 262 rfl) (by decide) (backOf (W := 0) (own_dig l Z a0 hw [] a1 b1 k1 cs1 qn v_ (2 : Int32) 2 cz fm T5z.heap O6z ((q0.keep K3zq).keep K5zq) ((q1.keep K3zq (by simp)).keep K5zq (by simp)) ((q2.keep K3zq (by simp)).keep K5zq (by simp)) ((q3.keep K3zq (by simp)).keep K5zq (by simp)) hl1 hasc1 (by decide) hq hmq S_CS hcs S_FM hfm) hZ (own_hw hw 262 rfl) (own_hw hw 208 rfl) (by decide) (by decide)) (g := (mkF m 96 #[.val (.ref a1), .val (.int (Int32.ofNat pn)), .val (.long v_), .second, .val (.int (Int32.ofNat qn)), .val (.int (Int32.ofNat (own_D v_))), .unset] [(.int (2 : Int32)), (.int (Int32.ofNat (own_D v_))), (.long v_), (.int (Int32.ofNat qn)), (.ref a1)])) rfl (by rw [hml]; rfl) (argsL := [(.ref a1), (.int (Int32.ofNat qn)), (.long v_), (.int (Int32.ofNat (own_D v_))), (.int (2 : Int32))]) (rest := []) (lenOf pd_69868949 rfl) rfl (by show 2 * 0 + _ ≤ _; exact Nat.le_of_eq rfl) (hb hby d_method_5_code_96) (fun _ _ => ⟨rfl, rfl, (by decide : 2 + 1 ≤ _), (by decide : 38 + 19 ≤ _)⟩)
    dsimp only [Pt.U, Pt.locs, Pt.cells, Pt.slots] at X7z l7z y7z z7z st7z hQ7z
    subst l7z y7z z7z
    obtain ⟨rfl, NQ7z, K7zq⟩ := hQ7z
    refine own_go st7z ?_
    have N7z := Fr.app N5z NQ7z
    have O8z := own_ext_keep O6z K7zq all0
    have K8z := K6z.trans K7zq all0
    show own_G p e below (T7z.setTop (mkF m 99 #[.val (.ref a1), .val (.int (Int32.ofNat pn)), .val (.long v_), .second, .val (.int (Int32.ofNat qn)), .val (.int (Int32.ofNat (own_D v_))), .unset] [(.int (1 : Int32))])) _
    refine own_go (fun t k => XS.ifNo X7z.here hx rfl (hb hby d_method_5_code_99) rfl ((if0 _ _).trans (feq (by decide : ¬ ((1 : Int32) = (0 : Int32)))).1) k) ?_
    show own_G p e below (T7z.setTop (mkF m 102 #[.val (.ref a1), .val (.int (Int32.ofNat pn)), .val (.long v_), .second, .val (.int (Int32.ofNat qn)), .val (.int (Int32.ofNat (own_D v_))), .unset] [])) _
    refine own_go (fun t k => XS.aloadN X7z.here hx rfl (hb hby d_method_5_code_102) rfl rfl k) ?_
    refine own_go (fun t k => XS.iload X7z.here hx rfl (hb hby d_method_5_code_103) rfl k) ?_
    refine own_go (fun t k => XS.lloadN X7z.here hx rfl (hb hby d_method_5_code_105) rfl k) ?_
    show own_G p e below (T7z.setTop (mkF m 106 #[.val (.ref a1), .val (.int (Int32.ofNat pn)), .val (.long v_), .second, .val (.int (Int32.ofNat qn)), .val (.int (Int32.ofNat (own_D v_))), .unset] [(.long v_), (.int (Int32.ofNat qn)), (.ref a1)])) _
    refine own_go (fun t k => XS.iload X7z.here hx rfl (hb hby d_method_5_code_106) rfl k) ?_
    refine own_go (fun t k => XS.iconst X7z.here hx rfl (hb hby d_method_5_code_108) k) ?_
    have f9z := (((q1.keep K3zq (by simp)).keep K5zq (by simp)).keep K7zq (by simp))
    have f10z := (((q2.keep K3zq (by simp)).keep K5zq (by simp)).keep K7zq (by simp))
    have f11z := (((q3.keep K3zq (by simp)).keep K5zq (by simp)).keep K7zq (by simp))
    obtain ⟨_, _, ⟨T12z, L12z, k12z, n12z⟩, -, X12z, ⟨Lc12z, hQ12z, l12z, y12z, z12z⟩, st12z⟩ := Jvm.LawKit.callS X7z hx (y := own_m38) hown (own_mw hZ hw 260 rfl) (own_mw hZ hw 261 rfl) (own_mw hZ hw 208 rfl) (own_mw hZ hw 262 rfl) (by decide) (backOf (W := 0) (own_dig l Z a0 hw [] a1 b1 k1 cs1 qn v_ (3 : Int32) 3 cz fm T7z.heap O8z (((q0.keep K3zq).keep K5zq).keep K7zq) f9z f10z f11z hl1 hasc1 (by decide) hq hmq S_CS hcs S_FM hfm) hZ (own_hw hw 262 rfl) (own_hw hw 208 rfl) (by decide) (by decide)) (g := (mkF m 109 #[.val (.ref a1), .val (.int (Int32.ofNat pn)), .val (.long v_), .second, .val (.int (Int32.ofNat qn)), .val (.int (Int32.ofNat (own_D v_))), .unset] [(.int (3 : Int32)), (.int (Int32.ofNat (own_D v_))), (.long v_), (.int (Int32.ofNat qn)), (.ref a1)])) rfl (by rw [hml]; rfl) (argsL := [(.ref a1), (.int (Int32.ofNat qn)), (.long v_), (.int (Int32.ofNat (own_D v_))), (.int (3 : Int32))]) (rest := []) (lenOf pd_69868949 rfl) rfl (by show 2 * 0 + _ ≤ _; exact Nat.le_of_eq rfl) (hb hby d_method_5_code_109) (fun _ _ => ⟨rfl, rfl, (by decide : 3 + 1 ≤ _), (by decide : 57 + 19 ≤ _)⟩)
    dsimp only [Pt.U, Pt.locs, Pt.cells, Pt.slots] at X12z l12z y12z z12z st12z hQ12z
    subst l12z y12z z12z
    obtain ⟨rfl, NQ12z, K12zq⟩ := hQ12z
    refine own_go st12z ?_
    have N12z := Fr.app N7z NQ12z
    have O13z := own_ext_keep O8z K12zq all0
    have K13z := K8z.trans K12zq all0
    show own_G p e below (T12z.setTop (mkF m 112 #[.val (.ref a1), .val (.int (Int32.ofNat pn)), .val (.long v_), .second, .val (.int (Int32.ofNat qn)), .val (.int (Int32.ofNat (own_D v_))), .unset] [(.int (1 : Int32))])) _
    refine own_go (fun t k => XS.ifNo X12z.here hx rfl (hb hby d_method_5_code_112) rfl ((if0 _ _).trans (feq (by decide : ¬ ((1 : Int32) = (0 : Int32)))).1) k) ?_
    show own_G p e below (T12z.setTop (mkF m 115 #[.val (.ref a1), .val (.int (Int32.ofNat pn)), .val (.long v_), .second, .val (.int (Int32.ofNat qn)), .val (.int (Int32.ofNat (own_D v_))), .unset] [])) _
    refine own_go (fun t k => XS.aloadN X12z.here hx rfl (hb hby d_method_5_code_115) rfl rfl k) ?_
    refine own_go (fun t k => XS.iload X12z.here hx rfl (hb hby d_method_5_code_116) rfl k) ?_
    refine own_go (fun t k => XS.lloadN X12z.here hx rfl (hb hby d_method_5_code_118) rfl k) ?_
    show own_G p e below (T12z.setTop (mkF m 119 #[.val (.ref a1), .val (.int (Int32.ofNat pn)), .val (.long v_), .second, .val (.int (Int32.ofNat qn)), .val (.int (Int32.ofNat (own_D v_))), .unset] [(.long v_), (.int (Int32.ofNat qn)), (.ref a1)])) _
    refine own_go (fun t k => XS.iload X12z.here hx rfl (hb hby d_method_5_code_119) rfl k) ?_
    refine own_go (fun t k => XS.iconst X12z.here hx rfl (hb hby d_method_5_code_121) k) ?_
    obtain ⟨_, _, ⟨T14z, L14z, k14z, n14z⟩, -, X14z, ⟨Lc14z, hQ14z, l14z, y14z, z14z⟩, st14z⟩ := Jvm.LawKit.callS X12z hx (y := own_m38) hown (own_mw hZ hw 260 rfl) (own_mw hZ hw 261 rfl) (own_mw hZ hw 208 rfl) (own_mw hZ hw 262 rfl) (by decide) (backOf (W := 0) (own_dig l Z a0 hw [] a1 b1 k1 cs1 qn v_ (4 : Int32) 4 cz fm T12z.heap O13z ((((q0.keep K3zq).keep K5zq).keep K7zq).keep K12zq) (f9z.keep K12zq (by simp)) (f10z.keep K12zq (by simp)) (f11z.keep K12zq (by simp)) hl1 hasc1 (by decide) hq hmq S_CS hcs S_FM hfm) hZ (own_hw hw 262 rfl) (own_hw hw 208 rfl) (by decide) (by decide)) (g := (mkF m 122 #[.val (.ref a1), .val (.int (Int32.ofNat pn)), .val (.long v_), .second, .val (.int (Int32.ofNat qn)), .val (.int (Int32.ofNat (own_D v_))), .unset] [(.int (4 : Int32)), (.int (Int32.ofNat (own_D v_))), (.long v_), (.int (Int32.ofNat qn)), (.ref a1)])) rfl (by rw [hml]; rfl) (argsL := [(.ref a1), (.int (Int32.ofNat qn)), (.long v_), (.int (Int32.ofNat (own_D v_))), (.int (4 : Int32))]) (rest := []) (lenOf pd_69868949 rfl) rfl (by show 2 * 0 + _ ≤ _; exact Nat.le_of_eq rfl) (hb hby d_method_5_code_122) (fun _ _ => ⟨rfl, rfl, (by decide : 4 + 1 ≤ _), (by decide : 76 + 19 ≤ _)⟩)
    dsimp only [Pt.U, Pt.locs, Pt.cells, Pt.slots] at X14z l14z y14z z14z st14z hQ14z
    subst l14z y14z z14z
    obtain ⟨rfl, NQ14z, K14zq⟩ := hQ14z
    refine own_go st14z ?_
    have N14z := Fr.app N12z NQ14z
    have O15z := own_ext_keep O13z K14zq all0
    have K15z := K13z.trans K14zq all0
    show own_G p e below (T14z.setTop (mkF m 125 #[.val (.ref a1), .val (.int (Int32.ofNat pn)), .val (.long v_), .second, .val (.int (Int32.ofNat qn)), .val (.int (Int32.ofNat (own_D v_))), .unset] [(.int (1 : Int32))])) _
    refine own_go (fun t k => XS.ifNo X14z.here hx rfl (hb hby d_method_5_code_125) rfl ((if0 _ _).trans (feq (by decide : ¬ ((1 : Int32) = (0 : Int32)))).1) k) ?_
    show own_G p e below (T14z.setTop (mkF m 128 #[.val (.ref a1), .val (.int (Int32.ofNat pn)), .val (.long v_), .second, .val (.int (Int32.ofNat qn)), .val (.int (Int32.ofNat (own_D v_))), .unset] [])) _
    refine own_go (fun t k => XS.aloadN X14z.here hx rfl (hb hby d_method_5_code_128) rfl rfl k) ?_
    refine own_go (fun t k => XS.iload X14z.here hx rfl (hb hby d_method_5_code_129) rfl k) ?_
    refine own_go (fun t k => XS.lloadN X14z.here hx rfl (hb hby d_method_5_code_131) rfl k) ?_
    show own_G p e below (T14z.setTop (mkF m 132 #[.val (.ref a1), .val (.int (Int32.ofNat pn)), .val (.long v_), .second, .val (.int (Int32.ofNat qn)), .val (.int (Int32.ofNat (own_D v_))), .unset] [(.long v_), (.int (Int32.ofNat qn)), (.ref a1)])) _
    refine own_go (fun t k => XS.iload X14z.here hx rfl (hb hby d_method_5_code_132) rfl k) ?_
    refine own_go (fun t k => XS.iconst X14z.here hx rfl (hb hby d_method_5_code_134) k) ?_
    have f16z := (((((q0.keep K3zq).keep K5zq).keep K7zq).keep K12zq).keep K14zq)
    obtain ⟨_, _, ⟨T17z, L17z, k17z, n17z⟩, -, X17z, ⟨Lc17z, hQ17z, l17z, y17z, z17z⟩, st17z⟩ := Jvm.LawKit.callS X14z hx (y := own_m38) hown (own_mw hZ hw 260 rfl) (own_mw hZ hw 261 rfl) (own_mw hZ hw 208 rfl) (own_mw hZ hw 262 rfl) (by decide) (backOf (W := 0) (own_dig l Z a0 hw [] a1 b1 k1 cs1 qn v_ (5 : Int32) 5 cz fm T14z.heap O15z f16z ((f9z.keep K12zq (by simp)).keep K14zq (by simp)) ((f10z.keep K12zq (by simp)).keep K14zq (by simp)) ((f11z.keep K12zq (by simp)).keep K14zq (by simp)) hl1 hasc1 (by decide) hq hmq S_CS hcs S_FM hfm) hZ (own_hw hw 262 rfl) (own_hw hw 208 rfl) (by decide) (by decide)) (g := (mkF m 135 #[.val (.ref a1), .val (.int (Int32.ofNat pn)), .val (.long v_), .second, .val (.int (Int32.ofNat qn)), .val (.int (Int32.ofNat (own_D v_))), .unset] [(.int (5 : Int32)), (.int (Int32.ofNat (own_D v_))), (.long v_), (.int (Int32.ofNat qn)), (.ref a1)])) rfl (by rw [hml]; rfl) (argsL := [(.ref a1), (.int (Int32.ofNat qn)), (.long v_), (.int (Int32.ofNat (own_D v_))), (.int (5 : Int32))]) (rest := []) (lenOf pd_69868949 rfl) rfl (by show 2 * 0 + _ ≤ _; exact Nat.le_of_eq rfl) (hb hby d_method_5_code_135) (fun _ _ => ⟨rfl, rfl, (by decide : 5 + 1 ≤ _), (by decide : 95 + 19 ≤ _)⟩)
    dsimp only [Pt.U, Pt.locs, Pt.cells, Pt.slots] at X17z l17z y17z z17z st17z hQ17z
    subst l17z y17z z17z
    obtain ⟨rfl, NQ17z, K17zq⟩ := hQ17z
    refine own_go st17z ?_
    have N17z := Fr.app N14z NQ17z
    have O18z := own_ext_keep O15z K17zq all0
    have K18z := K15z.trans K17zq all0
    show own_G p e below (T17z.setTop (mkF m 138 #[.val (.ref a1), .val (.int (Int32.ofNat pn)), .val (.long v_), .second, .val (.int (Int32.ofNat qn)), .val (.int (Int32.ofNat (own_D v_))), .unset] [(.int (1 : Int32))])) _
    refine own_go (fun t k => XS.ifNo X17z.here hx rfl (hb hby d_method_5_code_138) rfl ((if0 _ _).trans (feq (by decide : ¬ ((1 : Int32) = (0 : Int32)))).1) k) ?_
    show own_G p e below (T17z.setTop (mkF m 141 #[.val (.ref a1), .val (.int (Int32.ofNat pn)), .val (.long v_), .second, .val (.int (Int32.ofNat qn)), .val (.int (Int32.ofNat (own_D v_))), .unset] [])) _
    refine own_go (fun t k => XS.aloadN X17z.here hx rfl (hb hby d_method_5_code_141) rfl rfl k) ?_
    refine own_go (fun t k => XS.iload X17z.here hx rfl (hb hby d_method_5_code_142) rfl k) ?_
    refine own_go (fun t k => XS.lloadN X17z.here hx rfl (hb hby d_method_5_code_144) rfl k) ?_
    show own_G p e below (T17z.setTop (mkF m 145 #[.val (.ref a1), .val (.int (Int32.ofNat pn)), .val (.long v_), .second, .val (.int (Int32.ofNat qn)), .val (.int (Int32.ofNat (own_D v_))), .unset] [(.long v_), (.int (Int32.ofNat qn)), (.ref a1)])) _
    refine own_go (fun t k => XS.iload X17z.here hx rfl (hb hby d_method_5_code_145) rfl k) ?_
    refine own_go (fun t k => XS.bipush X17z.here hx rfl (hb hby d_method_5_code_147) k) ?_
    have f19z := (((f9z.keep K12zq (by simp)).keep K14zq (by simp)).keep K17zq (by simp))
    have f20z := (((f10z.keep K12zq (by simp)).keep K14zq (by simp)).keep K17zq (by simp))
    have f21z := (((f11z.keep K12zq (by simp)).keep K14zq (by simp)).keep K17zq (by simp))
    obtain ⟨_, _, ⟨T22z, L22z, k22z, n22z⟩, -, X22z, ⟨Lc22z, hQ22z, l22z, y22z, z22z⟩, st22z⟩ := Jvm.LawKit.callS X17z hx (y := own_m38) hown (own_mw hZ hw 260 rfl) (own_mw hZ hw 261 rfl) (own_mw hZ hw 208 rfl) (own_mw hZ hw 262 rfl) (by decide) (backOf (W := 0) (own_dig l Z a0 hw [] a1 b1 k1 cs1 qn v_ (6 : Int32) 6 cz fm T17z.heap O18z (f16z.keep K17zq) f19z f20z f21z hl1 hasc1 (by decide) hq hmq S_CS hcs S_FM hfm) hZ (own_hw hw 262 rfl) (own_hw hw 208 rfl) (by decide) (by decide)) (g := (mkF m 149 #[.val (.ref a1), .val (.int (Int32.ofNat pn)), .val (.long v_), .second, .val (.int (Int32.ofNat qn)), .val (.int (Int32.ofNat (own_D v_))), .unset] [(.int (6 : Int32)), (.int (Int32.ofNat (own_D v_))), (.long v_), (.int (Int32.ofNat qn)), (.ref a1)])) rfl (by rw [hml]; rfl) (argsL := [(.ref a1), (.int (Int32.ofNat qn)), (.long v_), (.int (Int32.ofNat (own_D v_))), (.int (6 : Int32))]) (rest := []) (lenOf pd_69868949 rfl) rfl (by show 2 * 0 + _ ≤ _; exact Nat.le_of_eq rfl) (hb hby d_method_5_code_149) (fun _ _ => ⟨rfl, rfl, (by decide : 6 + 1 ≤ _), (by decide : 114 + 19 ≤ _)⟩)
    dsimp only [Pt.U, Pt.locs, Pt.cells, Pt.slots] at X22z l22z y22z z22z st22z hQ22z
    subst l22z y22z z22z
    obtain ⟨rfl, NQ22z, K22zq⟩ := hQ22z
    refine own_go st22z ?_
    have N22z := Fr.app N17z NQ22z
    have O23z := own_ext_keep O18z K22zq all0
    have K23z := K18z.trans K22zq all0
    show own_G p e below (T22z.setTop (mkF m 152 #[.val (.ref a1), .val (.int (Int32.ofNat pn)), .val (.long v_), .second, .val (.int (Int32.ofNat qn)), .val (.int (Int32.ofNat (own_D v_))), .unset] [(.int (1 : Int32))])) _
    refine own_go (fun t k => XS.ifNo X22z.here hx rfl (hb hby d_method_5_code_152) rfl ((if0 _ _).trans (feq (by decide : ¬ ((1 : Int32) = (0 : Int32)))).1) k) ?_
    show own_G p e below (T22z.setTop (mkF m 155 #[.val (.ref a1), .val (.int (Int32.ofNat pn)), .val (.long v_), .second, .val (.int (Int32.ofNat qn)), .val (.int (Int32.ofNat (own_D v_))), .unset] [])) _
    refine own_go (fun t k => XS.aloadN X22z.here hx rfl (hb hby d_method_5_code_155) rfl rfl k) ?_
    refine own_go (fun t k => XS.iload X22z.here hx rfl (hb hby d_method_5_code_156) rfl k) ?_
    refine own_go (fun t k => XS.lloadN X22z.here hx rfl (hb hby d_method_5_code_158) rfl k) ?_
    show own_G p e below (T22z.setTop (mkF m 159 #[.val (.ref a1), .val (.int (Int32.ofNat pn)), .val (.long v_), .second, .val (.int (Int32.ofNat qn)), .val (.int (Int32.ofNat (own_D v_))), .unset] [(.long v_), (.int (Int32.ofNat qn)), (.ref a1)])) _
    refine own_go (fun t k => XS.iload X22z.here hx rfl (hb hby d_method_5_code_159) rfl k) ?_
    refine own_go (fun t k => XS.bipush X22z.here hx rfl (hb hby d_method_5_code_161) k) ?_
    obtain ⟨_, _, ⟨T24z, L24z, k24z, n24z⟩, -, X24z, ⟨Lc24z, hQ24z, l24z, y24z, z24z⟩, st24z⟩ := Jvm.LawKit.callS X22z hx (y := own_m38) hown (own_mw hZ hw 260 rfl) (own_mw hZ hw 261 rfl) (own_mw hZ hw 208 rfl) (own_mw hZ hw 262 rfl) (by decide) (backOf (W := 0) (own_dig l Z a0 hw [] a1 b1 k1 cs1 qn v_ (7 : Int32) 7 cz fm T22z.heap O23z ((f16z.keep K17zq).keep K22zq) (f19z.keep K22zq (by simp)) (f20z.keep K22zq (by simp)) (f21z.keep K22zq (by simp)) hl1 hasc1 (by decide) hq hmq S_CS hcs S_FM hfm) hZ (own_hw hw 262 rfl) (own_hw hw 208 rfl) (by decide) (by decide)) (g := (mkF m 163 #[.val (.ref a1), .val (.int (Int32.ofNat pn)), .val (.long v_), .second, .val (.int (Int32.ofNat qn)), .val (.int (Int32.ofNat (own_D v_))), .unset] [(.int (7 : Int32)), (.int (Int32.ofNat (own_D v_))), (.long v_), (.int (Int32.ofNat qn)), (.ref a1)])) rfl (by rw [hml]; rfl) (argsL := [(.ref a1), (.int (Int32.ofNat qn)), (.long v_), (.int (Int32.ofNat (own_D v_))), (.int (7 : Int32))]) (rest := []) (lenOf pd_69868949 rfl) rfl (by show 2 * 0 + _ ≤ _; exact Nat.le_of_eq rfl) (hb hby d_method_5_code_163) (fun _ _ => ⟨rfl, rfl, (by decide : 7 + 1 ≤ _), (by decide : 133 + 19 ≤ _)⟩)
    dsimp only [Pt.U, Pt.locs, Pt.cells, Pt.slots] at X24z l24z y24z z24z st24z hQ24z
    subst l24z y24z z24z
    obtain ⟨rfl, NQ24z, K24zq⟩ := hQ24z
    refine own_go st24z ?_
    have N24z := Fr.app N22z NQ24z
    have O25z := own_ext_keep O23z K24zq all0
    have K25z := K23z.trans K24zq all0
    show own_G p e below (T24z.setTop (mkF m 166 #[.val (.ref a1), .val (.int (Int32.ofNat pn)), .val (.long v_), .second, .val (.int (Int32.ofNat qn)), .val (.int (Int32.ofNat (own_D v_))), .unset] [(.int (1 : Int32))])) _
    refine own_go (fun t k => XS.ifNo X24z.here hx rfl (hb hby d_method_5_code_166) rfl ((if0 _ _).trans (feq (by decide : ¬ ((1 : Int32) = (0 : Int32)))).1) k) ?_
    show own_G p e below (T24z.setTop (mkF m 169 #[.val (.ref a1), .val (.int (Int32.ofNat pn)), .val (.long v_), .second, .val (.int (Int32.ofNat qn)), .val (.int (Int32.ofNat (own_D v_))), .unset] [])) _
    refine own_go (fun t k => XS.aloadN X24z.here hx rfl (hb hby d_method_5_code_169) rfl rfl k) ?_
    refine own_go (fun t k => XS.iload X24z.here hx rfl (hb hby d_method_5_code_170) rfl k) ?_
    refine own_go (fun t k => XS.lloadN X24z.here hx rfl (hb hby d_method_5_code_172) rfl k) ?_
    show own_G p e below (T24z.setTop (mkF m 173 #[.val (.ref a1), .val (.int (Int32.ofNat pn)), .val (.long v_), .second, .val (.int (Int32.ofNat qn)), .val (.int (Int32.ofNat (own_D v_))), .unset] [(.long v_), (.int (Int32.ofNat qn)), (.ref a1)])) _
    refine own_go (fun t k => XS.iload X24z.here hx rfl (hb hby d_method_5_code_173) rfl k) ?_
    refine own_go (fun t k => XS.bipush X24z.here hx rfl (hb hby d_method_5_code_175) k) ?_
    obtain ⟨_, _, ⟨T26z, L26z, k26z, n26z⟩, -, X26z, ⟨Lc26z, hQ26z, l26z, y26z, z26z⟩, st26z⟩ := Jvm.LawKit.callS X24z hx (y := own_m38) hown (own_mw hZ hw 260 rfl) (own_mw hZ hw 261 rfl) (own_mw hZ hw 208 rfl) (own_mw hZ hw 262 rfl) (by decide) (backOf (W := 0) (own_dig l Z a0 hw [] a1 b1 k1 cs1 qn v_ (8 : Int32) 8 cz fm T24z.heap O25z (((f16z.keep K17zq).keep K22zq).keep K24zq) ((f19z.keep K22zq (by simp)).keep K24zq (by simp)) ((f20z.keep K22zq (by simp)).keep K24zq (by simp)) ((f21z.keep K22zq (by simp)).keep K24zq (by simp)) hl1 hasc1 (by decide) hq hmq S_CS hcs S_FM hfm) hZ (own_hw hw 262 rfl) (own_hw hw 208 rfl) (by decide) (by decide)) (g := (mkF m 177 #[.val (.ref a1), .val (.int (Int32.ofNat pn)), .val (.long v_), .second, .val (.int (Int32.ofNat qn)), .val (.int (Int32.ofNat (own_D v_))), .unset] [(.int (8 : Int32)), (.int (Int32.ofNat (own_D v_))), (.long v_), (.int (Int32.ofNat qn)), (.ref a1)])) rfl (by rw [hml]; rfl) (argsL := [(.ref a1), (.int (Int32.ofNat qn)), (.long v_), (.int (Int32.ofNat (own_D v_))), (.int (8 : Int32))]) (rest := []) (lenOf pd_69868949 rfl) rfl (by show 2 * 0 + _ ≤ _; exact Nat.le_of_eq rfl) (hb hby d_method_5_code_177) (fun _ _ => ⟨rfl, rfl, (by decide : 8 + 1 ≤ _), (by decide : 152 + 19 ≤ _)⟩)
    dsimp only [Pt.U, Pt.locs, Pt.cells, Pt.slots] at X26z l26z y26z z26z st26z hQ26z
    subst l26z y26z z26z
    obtain ⟨rfl, NQ26z, K26zq⟩ := hQ26z
    refine own_go st26z ?_
    have N26z := Fr.app N24z NQ26z
    have O27z := own_ext_keep O25z K26zq all0
    have K27z := K25z.trans K26zq all0
    show own_G p e below (T26z.setTop (mkF m 180 #[.val (.ref a1), .val (.int (Int32.ofNat pn)), .val (.long v_), .second, .val (.int (Int32.ofNat qn)), .val (.int (Int32.ofNat (own_D v_))), .unset] [(.int (1 : Int32))])) _
    refine own_go (fun t k => XS.ifNo X26z.here hx rfl (hb hby d_method_5_code_180) rfl ((if0 _ _).trans (feq (by decide : ¬ ((1 : Int32) = (0 : Int32)))).1) k) ?_
    show own_G p e below (T26z.setTop (mkF m 183 #[.val (.ref a1), .val (.int (Int32.ofNat pn)), .val (.long v_), .second, .val (.int (Int32.ofNat qn)), .val (.int (Int32.ofNat (own_D v_))), .unset] [])) _
    refine own_go (fun t k => XS.aloadN X26z.here hx rfl (hb hby d_method_5_code_183) rfl rfl k) ?_
    refine own_go (fun t k => XS.iload X26z.here hx rfl (hb hby d_method_5_code_184) rfl k) ?_
    refine own_go (fun t k => XS.lloadN X26z.here hx rfl (hb hby d_method_5_code_186) rfl k) ?_
    show own_G p e below (T26z.setTop (mkF m 187 #[.val (.ref a1), .val (.int (Int32.ofNat pn)), .val (.long v_), .second, .val (.int (Int32.ofNat qn)), .val (.int (Int32.ofNat (own_D v_))), .unset] [(.long v_), (.int (Int32.ofNat qn)), (.ref a1)])) _
    refine own_go (fun t k => XS.iload X26z.here hx rfl (hb hby d_method_5_code_187) rfl k) ?_
    refine own_go (fun t k => XS.bipush X26z.here hx rfl (hb hby d_method_5_code_189) k) ?_
    have f28z := (((f19z.keep K22zq (by simp)).keep K24zq (by simp)).keep K26zq (by simp))
    have f29z := (((f20z.keep K22zq (by simp)).keep K24zq (by simp)).keep K26zq (by simp))
    have f30z := (((f21z.keep K22zq (by simp)).keep K24zq (by simp)).keep K26zq (by simp))
    obtain ⟨_, _, ⟨T31z, L31z, k31z, n31z⟩, -, X31z, ⟨Lc31z, hQ31z, l31z, y31z, z31z⟩, st31z⟩ := Jvm.LawKit.callS X26z hx (y := own_m38) hown (own_mw hZ hw 260 rfl) (own_mw hZ hw 261 rfl) (own_mw hZ hw 208 rfl) (own_mw hZ hw 262 rfl) (by decide) (backOf (W := 0) (own_dig l Z a0 hw [] a1 b1 k1 cs1 qn v_ (9 : Int32) 9 cz fm T26z.heap O27z ((((f16z.keep K17zq).keep K22zq).keep K24zq).keep K26zq) f28z f29z f30z hl1 hasc1 (by decide) hq hmq S_CS hcs S_FM hfm) hZ (own_hw hw 262 rfl) (own_hw hw 208 rfl) (by decide) (by decide)) (g := (mkF m 191 #[.val (.ref a1), .val (.int (Int32.ofNat pn)), .val (.long v_), .second, .val (.int (Int32.ofNat qn)), .val (.int (Int32.ofNat (own_D v_))), .unset] [(.int (9 : Int32)), (.int (Int32.ofNat (own_D v_))), (.long v_), (.int (Int32.ofNat qn)), (.ref a1)])) rfl (by rw [hml]; rfl) (argsL := [(.ref a1), (.int (Int32.ofNat qn)), (.long v_), (.int (Int32.ofNat (own_D v_))), (.int (9 : Int32))]) (rest := []) (lenOf pd_69868949 rfl) rfl (by show 2 * 0 + _ ≤ _; exact Nat.le_of_eq rfl) (hb hby d_method_5_code_191) (fun _ _ => ⟨rfl, rfl, (by decide : 9 + 1 ≤ _), (by decide : 171 + 19 ≤ _)⟩)
    dsimp only [Pt.U, Pt.locs, Pt.cells, Pt.slots] at X31z l31z y31z z31z st31z hQ31z
    subst l31z y31z z31z
    obtain ⟨rfl, NQ31z, K31zq⟩ := hQ31z
    refine own_go st31z ?_
    have N31z := Fr.app N26z NQ31z
    have O32z := own_ext_keep O27z K31zq all0
    have K32z := K27z.trans K31zq all0
    show own_G p e below (T31z.setTop (mkF m 194 #[.val (.ref a1), .val (.int (Int32.ofNat pn)), .val (.long v_), .second, .val (.int (Int32.ofNat qn)), .val (.int (Int32.ofNat (own_D v_))), .unset] [(.int (1 : Int32))])) _
    refine own_go (fun t k => XS.ifNo X31z.here hx rfl (hb hby d_method_5_code_194) rfl ((if0 _ _).trans (feq (by decide : ¬ ((1 : Int32) = (0 : Int32)))).1) k) ?_
    show own_G p e below (T31z.setTop (mkF m 197 #[.val (.ref a1), .val (.int (Int32.ofNat pn)), .val (.long v_), .second, .val (.int (Int32.ofNat qn)), .val (.int (Int32.ofNat (own_D v_))), .unset] [])) _
    refine own_go (fun t k => XS.aloadN X31z.here hx rfl (hb hby d_method_5_code_197) rfl rfl k) ?_
    refine own_go (fun t k => XS.iload X31z.here hx rfl (hb hby d_method_5_code_198) rfl k) ?_
    refine own_go (fun t k => XS.lloadN X31z.here hx rfl (hb hby d_method_5_code_200) rfl k) ?_
    show own_G p e below (T31z.setTop (mkF m 201 #[.val (.ref a1), .val (.int (Int32.ofNat pn)), .val (.long v_), .second, .val (.int (Int32.ofNat qn)), .val (.int (Int32.ofNat (own_D v_))), .unset] [(.long v_), (.int (Int32.ofNat qn)), (.ref a1)])) _
    refine own_go (fun t k => XS.iload X31z.here hx rfl (hb hby d_method_5_code_201) rfl k) ?_
    refine own_go (fun t k => XS.bipush X31z.here hx rfl (hb hby d_method_5_code_203) k) ?_
    have f33z := (((((f16z.keep K17zq).keep K22zq).keep K24zq).keep K26zq).keep K31zq)
    obtain ⟨_, _, ⟨T34z, L34z, k34z, n34z⟩, -, X34z, ⟨Lc34z, hQ34z, l34z, y34z, z34z⟩, st34z⟩ := Jvm.LawKit.callS X31z hx (y := own_m38) hown (own_mw hZ hw 260 rfl) (own_mw hZ hw 261 rfl) (own_mw hZ hw 208 rfl) (own_mw hZ hw 262 rfl) (by decide) (backOf (W := 0) (own_dig l Z a0 hw [] a1 b1 k1 cs1 qn v_ (10 : Int32) 10 cz fm T31z.heap O32z f33z (f28z.keep K31zq (by simp)) (f29z.keep K31zq (by simp)) (f30z.keep K31zq (by simp)) hl1 hasc1 (by decide) hq hmq S_CS hcs S_FM hfm) hZ (own_hw hw 262 rfl) (own_hw hw 208 rfl) (by decide) (by decide)) (g := (mkF m 205 #[.val (.ref a1), .val (.int (Int32.ofNat pn)), .val (.long v_), .second, .val (.int (Int32.ofNat qn)), .val (.int (Int32.ofNat (own_D v_))), .unset] [(.int (10 : Int32)), (.int (Int32.ofNat (own_D v_))), (.long v_), (.int (Int32.ofNat qn)), (.ref a1)])) rfl (by rw [hml]; rfl) (argsL := [(.ref a1), (.int (Int32.ofNat qn)), (.long v_), (.int (Int32.ofNat (own_D v_))), (.int (10 : Int32))]) (rest := []) (lenOf pd_69868949 rfl) rfl (by show 2 * 0 + _ ≤ _; exact Nat.le_of_eq rfl) (hb hby d_method_5_code_205) (fun _ _ => ⟨rfl, rfl, (by decide : 10 + 1 ≤ _), (by decide : 190 + 19 ≤ _)⟩)
    dsimp only [Pt.U, Pt.locs, Pt.cells, Pt.slots] at X34z l34z y34z z34z st34z hQ34z
    subst l34z y34z z34z
    obtain ⟨rfl, NQ34z, K34zq⟩ := hQ34z
    refine own_go st34z ?_
    have N34z := Fr.app N31z NQ34z
    have O35z := own_ext_keep O32z K34zq all0
    have K35z := K32z.trans K34zq all0
    show own_G p e below (T34z.setTop (mkF m 208 #[.val (.ref a1), .val (.int (Int32.ofNat pn)), .val (.long v_), .second, .val (.int (Int32.ofNat qn)), .val (.int (Int32.ofNat (own_D v_))), .unset] [(.int (1 : Int32))])) _
    refine own_go (fun t k => XS.ifNo X34z.here hx rfl (hb hby d_method_5_code_208) rfl ((if0 _ _).trans (feq (by decide : ¬ ((1 : Int32) = (0 : Int32)))).1) k) ?_
    show own_G p e below (T34z.setTop (mkF m 211 #[.val (.ref a1), .val (.int (Int32.ofNat pn)), .val (.long v_), .second, .val (.int (Int32.ofNat qn)), .val (.int (Int32.ofNat (own_D v_))), .unset] [])) _
    refine own_go (fun t k => XS.aloadN X34z.here hx rfl (hb hby d_method_5_code_211) rfl rfl k) ?_
    refine own_go (fun t k => XS.iload X34z.here hx rfl (hb hby d_method_5_code_212) rfl k) ?_
    refine own_go (fun t k => XS.lloadN X34z.here hx rfl (hb hby d_method_5_code_214) rfl k) ?_
    show own_G p e below (T34z.setTop (mkF m 215 #[.val (.ref a1), .val (.int (Int32.ofNat pn)), .val (.long v_), .second, .val (.int (Int32.ofNat qn)), .val (.int (Int32.ofNat (own_D v_))), .unset] [(.long v_), (.int (Int32.ofNat qn)), (.ref a1)])) _
    refine own_go (fun t k => XS.iload X34z.here hx rfl (hb hby d_method_5_code_215) rfl k) ?_
    refine own_go (fun t k => XS.bipush X34z.here hx rfl (hb hby d_method_5_code_217) k) ?_
    obtain ⟨_, _, ⟨T36z, L36z, k36z, n36z⟩, -, X36z, ⟨Lc36z, hQ36z, l36z, y36z, z36z⟩, st36z⟩ := Jvm.LawKit.callS X34z hx (y := own_m38) hown (own_mw hZ hw 260 rfl) (own_mw hZ hw 261 rfl) (own_mw hZ hw 208 rfl) (own_mw hZ hw 262 rfl) (by decide) (backOf (W := 0) (own_dig l Z a0 hw [] a1 b1 k1 cs1 qn v_ (11 : Int32) 11 cz fm T34z.heap O35z (f33z.keep K34zq) ((f28z.keep K31zq (by simp)).keep K34zq (by simp)) ((f29z.keep K31zq (by simp)).keep K34zq (by simp)) ((f30z.keep K31zq (by simp)).keep K34zq (by simp)) hl1 hasc1 (by decide) hq hmq S_CS hcs S_FM hfm) hZ (own_hw hw 262 rfl) (own_hw hw 208 rfl) (by decide) (by decide)) (g := (mkF m 219 #[.val (.ref a1), .val (.int (Int32.ofNat pn)), .val (.long v_), .second, .val (.int (Int32.ofNat qn)), .val (.int (Int32.ofNat (own_D v_))), .unset] [(.int (11 : Int32)), (.int (Int32.ofNat (own_D v_))), (.long v_), (.int (Int32.ofNat qn)), (.ref a1)])) rfl (by rw [hml]; rfl) (argsL := [(.ref a1), (.int (Int32.ofNat qn)), (.long v_), (.int (Int32.ofNat (own_D v_))), (.int (11 : Int32))]) (rest := []) (lenOf pd_69868949 rfl) rfl (by show 2 * 0 + _ ≤ _; exact Nat.le_of_eq rfl) (hb hby d_method_5_code_219) (fun _ _ => ⟨rfl, rfl, (by decide : 11 + 1 ≤ _), (by decide : 209 + 19 ≤ _)⟩)
    dsimp only [Pt.U, Pt.locs, Pt.cells, Pt.slots] at X36z l36z y36z z36z st36z hQ36z
    subst l36z y36z z36z
    obtain ⟨rfl, NQ36z, K36zq⟩ := hQ36z
    refine own_go st36z ?_
    have N36z := Fr.app N34z NQ36z
    have O37z := own_ext_keep O35z K36zq all0
    have K37z := K35z.trans K36zq all0
    show own_G p e below (T36z.setTop (mkF m 222 #[.val (.ref a1), .val (.int (Int32.ofNat pn)), .val (.long v_), .second, .val (.int (Int32.ofNat qn)), .val (.int (Int32.ofNat (own_D v_))), .unset] [(.int (1 : Int32))])) _
    refine own_go (fun t k => XS.ifNo X36z.here hx rfl (hb hby d_method_5_code_222) rfl ((if0 _ _).trans (feq (by decide : ¬ ((1 : Int32) = (0 : Int32)))).1) k) ?_
    show own_G p e below (T36z.setTop (mkF m 225 #[.val (.ref a1), .val (.int (Int32.ofNat pn)), .val (.long v_), .second, .val (.int (Int32.ofNat qn)), .val (.int (Int32.ofNat (own_D v_))), .unset] [])) _
    refine own_go (fun t k => XS.aloadN X36z.here hx rfl (hb hby d_method_5_code_225) rfl rfl k) ?_
    refine own_go (fun t k => XS.iload X36z.here hx rfl (hb hby d_method_5_code_226) rfl k) ?_
    refine own_go (fun t k => XS.lloadN X36z.here hx rfl (hb hby d_method_5_code_228) rfl k) ?_
    show own_G p e below (T36z.setTop (mkF m 229 #[.val (.ref a1), .val (.int (Int32.ofNat pn)), .val (.long v_), .second, .val (.int (Int32.ofNat qn)), .val (.int (Int32.ofNat (own_D v_))), .unset] [(.long v_), (.int (Int32.ofNat qn)), (.ref a1)])) _
    refine own_go (fun t k => XS.iload X36z.here hx rfl (hb hby d_method_5_code_229) rfl k) ?_
    refine own_go (fun t k => XS.bipush X36z.here hx rfl (hb hby d_method_5_code_231) k) ?_
    have f38z := (((f28z.keep K31zq (by simp)).keep K34zq (by simp)).keep K36zq (by simp))
    have f39z := (((f29z.keep K31zq (by simp)).keep K34zq (by simp)).keep K36zq (by simp))
    have f40z := (((f30z.keep K31zq (by simp)).keep K34zq (by simp)).keep K36zq (by simp))
    obtain ⟨_, _, ⟨T41z, L41z, k41z, n41z⟩, -, X41z, ⟨Lc41z, hQ41z, l41z, y41z, z41z⟩, st41z⟩ := Jvm.LawKit.callS X36z hx (y := own_m38) hown (own_mw hZ hw 260 rfl) (own_mw hZ hw 261 rfl) (own_mw hZ hw 208 rfl) (own_mw hZ hw 262 rfl) (by decide) (backOf (W := 0) (own_dig l Z a0 hw [] a1 b1 k1 cs1 qn v_ (12 : Int32) 12 cz fm T36z.heap O37z ((f33z.keep K34zq).keep K36zq) f38z f39z f40z hl1 hasc1 (by decide) hq hmq S_CS hcs S_FM hfm) hZ (own_hw hw 262 rfl) (own_hw hw 208 rfl) (by decide) (by decide)) (g := (mkF m 233 #[.val (.ref a1), .val (.int (Int32.ofNat pn)), .val (.long v_), .second, .val (.int (Int32.ofNat qn)), .val (.int (Int32.ofNat (own_D v_))), .unset] [(.int (12 : Int32)), (.int (Int32.ofNat (own_D v_))), (.long v_), (.int (Int32.ofNat qn)), (.ref a1)])) rfl (by rw [hml]; rfl) (argsL := [(.ref a1), (.int (Int32.ofNat qn)), (.long v_), (.int (Int32.ofNat (own_D v_))), (.int (12 : Int32))]) (rest := []) (lenOf pd_69868949 rfl) rfl (by show 2 * 0 + _ ≤ _; exact Nat.le_of_eq rfl) (hb hby d_method_5_code_233) (fun _ _ => ⟨rfl, rfl, (by decide : 12 + 1 ≤ _), (by decide : 228 + 19 ≤ _)⟩)
    dsimp only [Pt.U, Pt.locs, Pt.cells, Pt.slots] at X41z l41z y41z z41z st41z hQ41z
    subst l41z y41z z41z
    obtain ⟨rfl, NQ41z, K41zq⟩ := hQ41z
    refine own_go st41z ?_
    have N41z := Fr.app N36z NQ41z
    have O42z := own_ext_keep O37z K41zq all0
    have K42z := K37z.trans K41zq all0
    show own_G p e below (T41z.setTop (mkF m 236 #[.val (.ref a1), .val (.int (Int32.ofNat pn)), .val (.long v_), .second, .val (.int (Int32.ofNat qn)), .val (.int (Int32.ofNat (own_D v_))), .unset] [(.int (1 : Int32))])) _
    refine own_go (fun t k => XS.ifNo X41z.here hx rfl (hb hby d_method_5_code_236) rfl ((if0 _ _).trans (feq (by decide : ¬ ((1 : Int32) = (0 : Int32)))).1) k) ?_
    show own_G p e below (T41z.setTop (mkF m 239 #[.val (.ref a1), .val (.int (Int32.ofNat pn)), .val (.long v_), .second, .val (.int (Int32.ofNat qn)), .val (.int (Int32.ofNat (own_D v_))), .unset] [])) _
    refine own_go (fun t k => XS.aloadN X41z.here hx rfl (hb hby d_method_5_code_239) rfl rfl k) ?_
    refine own_go (fun t k => XS.iload X41z.here hx rfl (hb hby d_method_5_code_240) rfl k) ?_
    refine own_go (fun t k => XS.lloadN X41z.here hx rfl (hb hby d_method_5_code_242) rfl k) ?_
    show own_G p e below (T41z.setTop (mkF m 243 #[.val (.ref a1), .val (.int (Int32.ofNat pn)), .val (.long v_), .second, .val (.int (Int32.ofNat qn)), .val (.int (Int32.ofNat (own_D v_))), .unset] [(.long v_), (.int (Int32.ofNat qn)), (.ref a1)])) _
    refine own_go (fun t k => XS.iload X41z.here hx rfl (hb hby d_method_5_code_243) rfl k) ?_
    refine own_go (fun t k => XS.bipush X41z.here hx rfl (hb hby d_method_5_code_245) k) ?_
    obtain ⟨_, _, ⟨T43z, L43z, k43z, n43z⟩, -, X43z, ⟨Lc43z, hQ43z, l43z, y43z, z43z⟩, st43z⟩ := Jvm.LawKit.callS X41z hx (y := own_m38) hown (own_mw hZ hw 260 rfl) (own_mw hZ hw 261 rfl) (own_mw hZ hw 208 rfl) (own_mw hZ hw 262 rfl) (by decide) (backOf (W := 0) (own_dig l Z a0 hw [] a1 b1 k1 cs1 qn v_ (13 : Int32) 13 cz fm T41z.heap O42z (((f33z.keep K34zq).keep K36zq).keep K41zq) (f38z.keep K41zq (by simp)) (f39z.keep K41zq (by simp)) (f40z.keep K41zq (by simp)) hl1 hasc1 (by decide) hq hmq S_CS hcs S_FM hfm) hZ (own_hw hw 262 rfl) (own_hw hw 208 rfl) (by decide) (by decide)) (g := (mkF m 247 #[.val (.ref a1), .val (.int (Int32.ofNat pn)), .val (.long v_), .second, .val (.int (Int32.ofNat qn)), .val (.int (Int32.ofNat (own_D v_))), .unset] [(.int (13 : Int32)), (.int (Int32.ofNat (own_D v_))), (.long v_), (.int (Int32.ofNat qn)), (.ref a1)])) rfl (by rw [hml]; rfl) (argsL := [(.ref a1), (.int (Int32.ofNat qn)), (.long v_), (.int (Int32.ofNat (own_D v_))), (.int (13 : Int32))]) (rest := []) (lenOf pd_69868949 rfl) rfl (by show 2 * 0 + _ ≤ _; exact Nat.le_of_eq rfl) (hb hby d_method_5_code_247) (fun _ _ => ⟨rfl, rfl, (by decide : 13 + 1 ≤ _), (by decide : 247 + 19 ≤ _)⟩)
    dsimp only [Pt.U, Pt.locs, Pt.cells, Pt.slots] at X43z l43z y43z z43z st43z hQ43z
    subst l43z y43z z43z
    obtain ⟨rfl, NQ43z, K43zq⟩ := hQ43z
    refine own_go st43z ?_
    have N43z := Fr.app N41z NQ43z
    have O44z := own_ext_keep O42z K43zq all0
    have K44z := K42z.trans K43zq all0
    show own_G p e below (T43z.setTop (mkF m 250 #[.val (.ref a1), .val (.int (Int32.ofNat pn)), .val (.long v_), .second, .val (.int (Int32.ofNat qn)), .val (.int (Int32.ofNat (own_D v_))), .unset] [(.int (1 : Int32))])) _
    refine own_go (fun t k => XS.ifNo X43z.here hx rfl (hb hby d_method_5_code_250) rfl ((if0 _ _).trans (feq (by decide : ¬ ((1 : Int32) = (0 : Int32)))).1) k) ?_
    show own_G p e below (T43z.setTop (mkF m 253 #[.val (.ref a1), .val (.int (Int32.ofNat pn)), .val (.long v_), .second, .val (.int (Int32.ofNat qn)), .val (.int (Int32.ofNat (own_D v_))), .unset] [])) _
    refine own_go (fun t k => XS.aloadN X43z.here hx rfl (hb hby d_method_5_code_253) rfl rfl k) ?_
    refine own_go (fun t k => XS.iload X43z.here hx rfl (hb hby d_method_5_code_254) rfl k) ?_
    refine own_go (fun t k => XS.lloadN X43z.here hx rfl (hb hby d_method_5_code_256) rfl k) ?_
    show own_G p e below (T43z.setTop (mkF m 257 #[.val (.ref a1), .val (.int (Int32.ofNat pn)), .val (.long v_), .second, .val (.int (Int32.ofNat qn)), .val (.int (Int32.ofNat (own_D v_))), .unset] [(.long v_), (.int (Int32.ofNat qn)), (.ref a1)])) _
    refine own_go (fun t k => XS.iload X43z.here hx rfl (hb hby d_method_5_code_257) rfl k) ?_
    refine own_go (fun t k => XS.bipush X43z.here hx rfl (hb hby d_method_5_code_259) k) ?_
    obtain ⟨_, _, ⟨T45z, L45z, k45z, n45z⟩, -, X45z, ⟨Lc45z, hQ45z, l45z, y45z, z45z⟩, st45z⟩ := Jvm.LawKit.callS X43z hx (y := own_m38) hown (own_mw hZ hw 260 rfl) (own_mw hZ hw 261 rfl) (own_mw hZ hw 208 rfl) (own_mw hZ hw 262 rfl) (by decide) (backOf (W := 0) (own_dig l Z a0 hw [] a1 b1 k1 cs1 qn v_ (14 : Int32) 14 cz fm T43z.heap O44z ((((f33z.keep K34zq).keep K36zq).keep K41zq).keep K43zq) ((f38z.keep K41zq (by simp)).keep K43zq (by simp)) ((f39z.keep K41zq (by simp)).keep K43zq (by simp)) ((f40z.keep K41zq (by simp)).keep K43zq (by simp)) hl1 hasc1 (by decide) hq hmq S_CS hcs S_FM hfm) hZ (own_hw hw 262 rfl) (own_hw hw 208 rfl) (by decide) (by decide)) (g := (mkF m 261 #[.val (.ref a1), .val (.int (Int32.ofNat pn)), .val (.long v_), .second, .val (.int (Int32.ofNat qn)), .val (.int (Int32.ofNat (own_D v_))), .unset] [(.int (14 : Int32)), (.int (Int32.ofNat (own_D v_))), (.long v_), (.int (Int32.ofNat qn)), (.ref a1)])) rfl (by rw [hml]; rfl) (argsL := [(.ref a1), (.int (Int32.ofNat qn)), (.long v_), (.int (Int32.ofNat (own_D v_))), (.int (14 : Int32))]) (rest := []) (lenOf pd_69868949 rfl) rfl (by show 2 * 0 + _ ≤ _; exact Nat.le_of_eq rfl) (hb hby d_method_5_code_261) (fun _ _ => ⟨rfl, rfl, (by decide : 14 + 1 ≤ _), (by decide : 266 + 19 ≤ _)⟩)
    dsimp only [Pt.U, Pt.locs, Pt.cells, Pt.slots] at X45z l45z y45z z45z st45z hQ45z
    subst l45z y45z z45z
    obtain ⟨rfl, NQ45z, K45zq⟩ := hQ45z
    refine own_go st45z ?_
    have N45z := Fr.app N43z NQ45z
    have O46z := own_ext_keep O44z K45zq all0
    have K46z := K44z.trans K45zq all0
    show own_G p e below (T45z.setTop (mkF m 264 #[.val (.ref a1), .val (.int (Int32.ofNat pn)), .val (.long v_), .second, .val (.int (Int32.ofNat qn)), .val (.int (Int32.ofNat (own_D v_))), .unset] [(.int (1 : Int32))])) _
    refine own_go (fun t k => XS.ifNo X45z.here hx rfl (hb hby d_method_5_code_264) rfl ((if0 _ _).trans (feq (by decide : ¬ ((1 : Int32) = (0 : Int32)))).1) k) ?_
    show own_G p e below (T45z.setTop (mkF m 267 #[.val (.ref a1), .val (.int (Int32.ofNat pn)), .val (.long v_), .second, .val (.int (Int32.ofNat qn)), .val (.int (Int32.ofNat (own_D v_))), .unset] [])) _
    refine own_go (fun t k => XS.aloadN X45z.here hx rfl (hb hby d_method_5_code_267) rfl rfl k) ?_
    refine own_go (fun t k => XS.iload X45z.here hx rfl (hb hby d_method_5_code_268) rfl k) ?_
    refine own_go (fun t k => XS.lloadN X45z.here hx rfl (hb hby d_method_5_code_270) rfl k) ?_
    show own_G p e below (T45z.setTop (mkF m 271 #[.val (.ref a1), .val (.int (Int32.ofNat pn)), .val (.long v_), .second, .val (.int (Int32.ofNat qn)), .val (.int (Int32.ofNat (own_D v_))), .unset] [(.long v_), (.int (Int32.ofNat qn)), (.ref a1)])) _
    refine own_go (fun t k => XS.iload X45z.here hx rfl (hb hby d_method_5_code_271) rfl k) ?_
    refine own_go (fun t k => XS.bipush X45z.here hx rfl (hb hby d_method_5_code_273) k) ?_
    have f47z := (((((f33z.keep K34zq).keep K36zq).keep K41zq).keep K43zq).keep K45zq)
    have f48z := (((f38z.keep K41zq (by simp)).keep K43zq (by simp)).keep K45zq (by simp))
    have f49z := (((f39z.keep K41zq (by simp)).keep K43zq (by simp)).keep K45zq (by simp))
    have f50z := (((f40z.keep K41zq (by simp)).keep K43zq (by simp)).keep K45zq (by simp))
    obtain ⟨_, _, ⟨T51z, L51z, k51z, n51z⟩, -, X51z, ⟨Lc51z, hQ51z, l51z, y51z, z51z⟩, st51z⟩ := Jvm.LawKit.callS X45z hx (y := own_m38) hown (own_mw hZ hw 260 rfl) (own_mw hZ hw 261 rfl) (own_mw hZ hw 208 rfl) (own_mw hZ hw 262 rfl) (by decide) (backOf (W := 0) (own_dig l Z a0 hw [] a1 b1 k1 cs1 qn v_ (15 : Int32) 15 cz fm T45z.heap O46z f47z f48z f49z f50z hl1 hasc1 (by decide) hq hmq S_CS hcs S_FM hfm) hZ (own_hw hw 262 rfl) (own_hw hw 208 rfl) (by decide) (by decide)) (g := (mkF m 275 #[.val (.ref a1), .val (.int (Int32.ofNat pn)), .val (.long v_), .second, .val (.int (Int32.ofNat qn)), .val (.int (Int32.ofNat (own_D v_))), .unset] [(.int (15 : Int32)), (.int (Int32.ofNat (own_D v_))), (.long v_), (.int (Int32.ofNat qn)), (.ref a1)])) rfl (by rw [hml]; rfl) (argsL := [(.ref a1), (.int (Int32.ofNat qn)), (.long v_), (.int (Int32.ofNat (own_D v_))), (.int (15 : Int32))]) (rest := []) (lenOf pd_69868949 rfl) rfl (by show 2 * 0 + _ ≤ _; exact Nat.le_of_eq rfl) (hb hby d_method_5_code_275) (fun _ _ => ⟨rfl, rfl, (by decide : 15 + 1 ≤ _), (by decide : 285 + 19 ≤ _)⟩)
    dsimp only [Pt.U, Pt.locs, Pt.cells, Pt.slots] at X51z l51z y51z z51z st51z hQ51z
    subst l51z y51z z51z
    obtain ⟨rfl, NQ51z, K51zq⟩ := hQ51z
    refine own_go st51z ?_
    have N51z := Fr.app N45z NQ51z
    have O52z := own_ext_keep O46z K51zq all0
    have K52z := K46z.trans K51zq all0
    show own_G p e below (T51z.setTop (mkF m 278 #[.val (.ref a1), .val (.int (Int32.ofNat pn)), .val (.long v_), .second, .val (.int (Int32.ofNat qn)), .val (.int (Int32.ofNat (own_D v_))), .unset] [(.int (1 : Int32))])) _
    refine own_go (fun t k => XS.ifNo X51z.here hx rfl (hb hby d_method_5_code_278) rfl ((if0 _ _).trans (feq (by decide : ¬ ((1 : Int32) = (0 : Int32)))).1) k) ?_
    show own_G p e below (T51z.setTop (mkF m 281 #[.val (.ref a1), .val (.int (Int32.ofNat pn)), .val (.long v_), .second, .val (.int (Int32.ofNat qn)), .val (.int (Int32.ofNat (own_D v_))), .unset] [])) _
    refine own_go (fun t k => XS.aloadN X51z.here hx rfl (hb hby d_method_5_code_281) rfl rfl k) ?_
    refine own_go (fun t k => XS.iload X51z.here hx rfl (hb hby d_method_5_code_282) rfl k) ?_
    refine own_go (fun t k => XS.lloadN X51z.here hx rfl (hb hby d_method_5_code_284) rfl k) ?_
    show own_G p e below (T51z.setTop (mkF m 285 #[.val (.ref a1), .val (.int (Int32.ofNat pn)), .val (.long v_), .second, .val (.int (Int32.ofNat qn)), .val (.int (Int32.ofNat (own_D v_))), .unset] [(.long v_), (.int (Int32.ofNat qn)), (.ref a1)])) _
    refine own_go (fun t k => XS.iload X51z.here hx rfl (hb hby d_method_5_code_285) rfl k) ?_
    refine own_go (fun t k => XS.bipush X51z.here hx rfl (hb hby d_method_5_code_287) k) ?_
    obtain ⟨_, _, ⟨T53z, L53z, k53z, n53z⟩, -, X53z, ⟨Lc53z, hQ53z, l53z, y53z, z53z⟩, st53z⟩ := Jvm.LawKit.callS X51z hx (y := own_m38) hown (own_mw hZ hw 260 rfl) (own_mw hZ hw 261 rfl) (own_mw hZ hw 208 rfl) (own_mw hZ hw 262 rfl) (by decide) (backOf (W := 0) (own_dig l Z a0 hw [] a1 b1 k1 cs1 qn v_ (16 : Int32) 16 cz fm T51z.heap O52z (f47z.keep K51zq) (f48z.keep K51zq (by simp)) (f49z.keep K51zq (by simp)) (f50z.keep K51zq (by simp)) hl1 hasc1 (by decide) hq hmq S_CS hcs S_FM hfm) hZ (own_hw hw 262 rfl) (own_hw hw 208 rfl) (by decide) (by decide)) (g := (mkF m 289 #[.val (.ref a1), .val (.int (Int32.ofNat pn)), .val (.long v_), .second, .val (.int (Int32.ofNat qn)), .val (.int (Int32.ofNat (own_D v_))), .unset] [(.int (16 : Int32)), (.int (Int32.ofNat (own_D v_))), (.long v_), (.int (Int32.ofNat qn)), (.ref a1)])) rfl (by rw [hml]; rfl) (argsL := [(.ref a1), (.int (Int32.ofNat qn)), (.long v_), (.int (Int32.ofNat (own_D v_))), (.int (16 : Int32))]) (rest := []) (lenOf pd_69868949 rfl) rfl (by show 2 * 0 + _ ≤ _; exact Nat.le_of_eq rfl) (hb hby d_method_5_code_289) (fun _ _ => ⟨rfl, rfl, (by decide : 16 + 1 ≤ _), (by decide : 304 + 19 ≤ _)⟩)
    dsimp only [Pt.U, Pt.locs, Pt.cells, Pt.slots] at X53z l53z y53z z53z st53z hQ53z
    subst l53z y53z z53z
    obtain ⟨rfl, NQ53z, K53zq⟩ := hQ53z
    refine own_go st53z ?_
    have N53z := Fr.app N51z NQ53z
    have O54z := own_ext_keep O52z K53zq all0
    have K54z := K52z.trans K53zq all0
    show own_G p e below (T53z.setTop (mkF m 292 #[.val (.ref a1), .val (.int (Int32.ofNat pn)), .val (.long v_), .second, .val (.int (Int32.ofNat qn)), .val (.int (Int32.ofNat (own_D v_))), .unset] [(.int (1 : Int32))])) _
    refine own_go (fun t k => XS.ifNo X53z.here hx rfl (hb hby d_method_5_code_292) rfl ((if0 _ _).trans (feq (by decide : ¬ ((1 : Int32) = (0 : Int32)))).1) k) ?_
    show own_G p e below (T53z.setTop (mkF m 295 #[.val (.ref a1), .val (.int (Int32.ofNat pn)), .val (.long v_), .second, .val (.int (Int32.ofNat qn)), .val (.int (Int32.ofNat (own_D v_))), .unset] [])) _
    refine own_go (fun t k => XS.aloadN X53z.here hx rfl (hb hby d_method_5_code_295) rfl rfl k) ?_
    refine own_go (fun t k => XS.iload X53z.here hx rfl (hb hby d_method_5_code_296) rfl k) ?_
    refine own_go (fun t k => XS.lloadN X53z.here hx rfl (hb hby d_method_5_code_298) rfl k) ?_
    show own_G p e below (T53z.setTop (mkF m 299 #[.val (.ref a1), .val (.int (Int32.ofNat pn)), .val (.long v_), .second, .val (.int (Int32.ofNat qn)), .val (.int (Int32.ofNat (own_D v_))), .unset] [(.long v_), (.int (Int32.ofNat qn)), (.ref a1)])) _
    refine own_go (fun t k => XS.iload X53z.here hx rfl (hb hby d_method_5_code_299) rfl k) ?_
    refine own_go (fun t k => XS.bipush X53z.here hx rfl (hb hby d_method_5_code_301) k) ?_
    obtain ⟨_, _, ⟨T55z, L55z, k55z, n55z⟩, -, X55z, ⟨Lc55z, hQ55z, l55z, y55z, z55z⟩, st55z⟩ := Jvm.LawKit.callS X53z hx (y := own_m38) hown (own_mw hZ hw 260 rfl) (own_mw hZ hw 261 rfl) (own_mw hZ hw 208 rfl) (own_mw hZ hw 262 rfl) (by decide) (backOf (W := 0) (own_dig l Z a0 hw [] a1 b1 k1 cs1 qn v_ (17 : Int32) 17 cz fm T53z.heap O54z ((f47z.keep K51zq).keep K53zq) ((f48z.keep K51zq (by simp)).keep K53zq (by simp)) ((f49z.keep K51zq (by simp)).keep K53zq (by simp)) ((f50z.keep K51zq (by simp)).keep K53zq (by simp)) hl1 hasc1 (by decide) hq hmq S_CS hcs S_FM hfm) hZ (own_hw hw 262 rfl) (own_hw hw 208 rfl) (by decide) (by decide)) (g := (mkF m 303 #[.val (.ref a1), .val (.int (Int32.ofNat pn)), .val (.long v_), .second, .val (.int (Int32.ofNat qn)), .val (.int (Int32.ofNat (own_D v_))), .unset] [(.int (17 : Int32)), (.int (Int32.ofNat (own_D v_))), (.long v_), (.int (Int32.ofNat qn)), (.ref a1)])) rfl (by rw [hml]; rfl) (argsL := [(.ref a1), (.int (Int32.ofNat qn)), (.long v_), (.int (Int32.ofNat (own_D v_))), (.int (17 : Int32))]) (rest := []) (lenOf pd_69868949 rfl) rfl (by show 2 * 0 + _ ≤ _; exact Nat.le_of_eq rfl) (hb hby d_method_5_code_303) (fun _ _ => ⟨rfl, rfl, (by decide : 17 + 1 ≤ _), (by decide : 323 + 19 ≤ _)⟩)
    dsimp only [Pt.U, Pt.locs, Pt.cells, Pt.slots] at X55z l55z y55z z55z st55z hQ55z
    subst l55z y55z z55z
    obtain ⟨rfl, NQ55z, K55zq⟩ := hQ55z
    refine own_go st55z ?_
    have N55z := Fr.app N53z NQ55z
    have O56z := own_ext_keep O54z K55zq all0
    have K56z := K54z.trans K55zq all0
    show own_G p e below (T55z.setTop (mkF m 306 #[.val (.ref a1), .val (.int (Int32.ofNat pn)), .val (.long v_), .second, .val (.int (Int32.ofNat qn)), .val (.int (Int32.ofNat (own_D v_))), .unset] [(.int (1 : Int32))])) _
    refine own_go (fun t k => XS.ifNo X55z.here hx rfl (hb hby d_method_5_code_306) rfl ((if0 _ _).trans (feq (by decide : ¬ ((1 : Int32) = (0 : Int32)))).1) k) ?_
    show own_G p e below (T55z.setTop (mkF m 309 #[.val (.ref a1), .val (.int (Int32.ofNat pn)), .val (.long v_), .second, .val (.int (Int32.ofNat qn)), .val (.int (Int32.ofNat (own_D v_))), .unset] [])) _
    refine own_go (fun t k => XS.aloadN X55z.here hx rfl (hb hby d_method_5_code_309) rfl rfl k) ?_
    refine own_go (fun t k => XS.iload X55z.here hx rfl (hb hby d_method_5_code_310) rfl k) ?_
    refine own_go (fun t k => XS.lloadN X55z.here hx rfl (hb hby d_method_5_code_312) rfl k) ?_
    show own_G p e below (T55z.setTop (mkF m 313 #[.val (.ref a1), .val (.int (Int32.ofNat pn)), .val (.long v_), .second, .val (.int (Int32.ofNat qn)), .val (.int (Int32.ofNat (own_D v_))), .unset] [(.long v_), (.int (Int32.ofNat qn)), (.ref a1)])) _
    refine own_go (fun t k => XS.iload X55z.here hx rfl (hb hby d_method_5_code_313) rfl k) ?_
    refine own_go (fun t k => XS.bipush X55z.here hx rfl (hb hby d_method_5_code_315) k) ?_
    have f57z := (((f48z.keep K51zq (by simp)).keep K53zq (by simp)).keep K55zq (by simp))
    have f58z := (((f49z.keep K51zq (by simp)).keep K53zq (by simp)).keep K55zq (by simp))
    have f59z := (((f50z.keep K51zq (by simp)).keep K53zq (by simp)).keep K55zq (by simp))
    obtain ⟨_, _, ⟨T60z, L60z, k60z, n60z⟩, -, X60z, ⟨Lc60z, hQ60z, l60z, y60z, z60z⟩, st60z⟩ := Jvm.LawKit.callS X55z hx (y := own_m38) hown (own_mw hZ hw 260 rfl) (own_mw hZ hw 261 rfl) (own_mw hZ hw 208 rfl) (own_mw hZ hw 262 rfl) (by decide) (backOf (W := 0) (own_dig l Z a0 hw [] a1 b1 k1 cs1 qn v_ (18 : Int32) 18 cz fm T55z.heap O56z (((f47z.keep K51zq).keep K53zq).keep K55zq) f57z f58z f59z hl1 hasc1 (by decide) hq hmq S_CS hcs S_FM hfm) hZ (own_hw hw 262 rfl) (own_hw hw 208 rfl) (by decide) (by decide)) (g := (mkF m 317 #[.val (.ref a1), .val (.int (Int32.ofNat pn)), .val (.long v_), .second, .val (.int (Int32.ofNat qn)), .val (.int (Int32.ofNat (own_D v_))), .unset] [(.int (18 : Int32)), (.int (Int32.ofNat (own_D v_))), (.long v_), (.int (Int32.ofNat qn)), (.ref a1)])) rfl (by rw [hml]; rfl) (argsL := [(.ref a1), (.int (Int32.ofNat qn)), (.long v_), (.int (Int32.ofNat (own_D v_))), (.int (18 : Int32))]) (rest := []) (lenOf pd_69868949 rfl) rfl (by show 2 * 0 + _ ≤ _; exact Nat.le_of_eq rfl) (hb hby d_method_5_code_317) (fun _ _ => ⟨rfl, rfl, (by decide : 18 + 1 ≤ _), (by decide : 342 + 19 ≤ _)⟩)
    dsimp only [Pt.U, Pt.locs, Pt.cells, Pt.slots] at X60z l60z y60z z60z st60z hQ60z
    subst l60z y60z z60z
    obtain ⟨rfl, NQ60z, K60zq⟩ := hQ60z
    refine own_go st60z ?_
    have N60z := Fr.app N55z NQ60z
    have O61z := own_ext_keep O56z K60zq all0
    have K61z := K56z.trans K60zq all0
    show own_G p e below (T60z.setTop (mkF m 320 #[.val (.ref a1), .val (.int (Int32.ofNat pn)), .val (.long v_), .second, .val (.int (Int32.ofNat qn)), .val (.int (Int32.ofNat (own_D v_))), .unset] [(.int (1 : Int32))])) _
    refine own_go (fun t k => XS.ifNo X60z.here hx rfl (hb hby d_method_5_code_320) rfl ((if0 _ _).trans (feq (by decide : ¬ ((1 : Int32) = (0 : Int32)))).1) k) ?_
    show own_G p e below (T60z.setTop (mkF m 323 #[.val (.ref a1), .val (.int (Int32.ofNat pn)), .val (.long v_), .second, .val (.int (Int32.ofNat qn)), .val (.int (Int32.ofNat (own_D v_))), .unset] [])) _
    refine own_go (fun t k => XS.iconst X60z.here hx rfl (hb hby d_method_5_code_323) k) ?_
    refine own_go (fun t k => XS.goto X60z.here hx rfl (pc0 := 324) (pc' := 328) rfl (hb hby d_method_5_code_324) (by decide) (by decide) k) ?_
    show own_G p e below (T60z.setTop (mkF m 328 #[.val (.ref a1), .val (.int (Int32.ofNat pn)), .val (.long v_), .second, .val (.int (Int32.ofNat qn)), .val (.int (Int32.ofNat (own_D v_))), .unset] [(.int (1 : Int32))])) _
    refine own_go (fun t k => XS.istore X60z.here hx rfl (hb hby d_method_5_code_328) rfl (l' := #[.val (.ref a1), .val (.int (Int32.ofNat pn)), .val (.long v_), .second, .val (.int (Int32.ofNat qn)), .val (.int (Int32.ofNat (own_D v_))), .val (.int (1 : Int32))]) rfl k) ?_
    refine own_go (fun t k => XS.iload X60z.here hx rfl (hb hby d_method_5_code_330) rfl k) ?_
    refine own_go (fun t k => XS.ifNo X60z.here hx rfl (hb hby d_method_5_code_332) rfl ((if0 _ _).trans (feq (by decide : ¬ ((1 : Int32) = (0 : Int32)))).1) k) ?_
    show own_G p e below (T60z.setTop (mkF m 335 #[.val (.ref a1), .val (.int (Int32.ofNat pn)), .val (.long v_), .second, .val (.int (Int32.ofNat qn)), .val (.int (Int32.ofNat (own_D v_))), .val (.int (1 : Int32))] [])) _
    refine own_go (fun t k => XS.iload X60z.here hx rfl (hb hby d_method_5_code_335) rfl k) ?_
    refine own_go (fun t k => XS.iload X60z.here hx rfl (hb hby d_method_5_code_337) rfl k) ?_
    refine own_go (fun t k => XS.iadd X60z.here hx rfl (hb hby d_method_5_code_339) rfl k) ?_
    show own_G p e below (T60z.setTop (mkF m 340 #[.val (.ref a1), .val (.int (Int32.ofNat pn)), .val (.long v_), .second, .val (.int (Int32.ofNat qn)), .val (.int (Int32.ofNat (own_D v_))), .val (.int (1 : Int32))] [(.int ((Int32.ofNat qn) + (Int32.ofNat (own_D v_))))])) _
    show own_G p e below (T60z.setTop (mkF m 340 #[.val (.ref a1), .val (.int (Int32.ofNat pn)), .val (.long v_), .second, .val (.int (Int32.ofNat qn)), .val (.int (Int32.ofNat (own_D v_))), .val (.int (1 : Int32))] [(.int ((Int32.ofNat qn) + (Int32.ofNat (own_D v_))))])) _
    rw [own_addN (by omega)]
    show own_G p e below (T60z.setTop (mkF m 340 #[.val (.ref a1), .val (.int (Int32.ofNat pn)), .val (.long v_), .second, .val (.int (Int32.ofNat qn)), .val (.int (Int32.ofNat (own_D v_))), .val (.int (1 : Int32))] [(.int (Int32.ofNat (qn + (own_D v_))))])) _
    refine own_go (fun t k => XS.goto X60z.here hx rfl (pc0 := 340) (pc' := 344) rfl (hb hby d_method_5_code_340) (by decide) (by decide) k) ?_
    show own_G p e below (T60z.setTop (mkF m 344 #[.val (.ref a1), .val (.int (Int32.ofNat pn)), .val (.long v_), .second, .val (.int (Int32.ofNat qn)), .val (.int (Int32.ofNat (own_D v_))), .val (.int (1 : Int32))] [(.int (Int32.ofNat (qn + (own_D v_))))])) _
    exact own_ret X60z hx Bd.returns rfl (Or.inl ⟨rfl, Or.inl rfl, _, rfl⟩) (hb hby d_method_5_code_344) hlk (Nat.le_of_ble_eq_true rfl) (Nat.le_of_ble_eq_true rfl) (by show Q_own_numb Z a1 b1 k1 cs1 pn v_ cz fm h0 _ T60z.heap _; exact ⟨(congrArg (fun z => some (Value.int z)) (congrArg Int32.ofNat hend)), N60z, K61z⟩)
  refine own_go (fun t k => XS.iloadN X0.here hx rfl (hb hby d_method_5_code_0) rfl k) ?_
  refine own_go (fun t k => XS.ifYes X0.here hx rfl (pc0 := 1) (pc' := 6) rfl (hb hby d_method_5_code_1) rfl ((if0 _ _).trans (flt (own_nn0 (by omega))).2.1) (by decide) (by decide) k) ?_
  show own_G p e below (s₁.setTop (mkF m 6 #[.val (.ref a1), .val (.int (Int32.ofNat pn)), .val (.long v_), .second, .unset, .unset, .unset] [])) _
  refine own_go (fun t k => XS.iloadN X0.here hx rfl (hb hby d_method_5_code_6) rfl k) ?_
  refine own_go (fun t k => XS.istore X0.here hx rfl (hb hby d_method_5_code_7) rfl (l' := #[.val (.ref a1), .val (.int (Int32.ofNat pn)), .val (.long v_), .second, .val (.int (Int32.ofNat pn)), .unset, .unset]) rfl k) ?_
  refine own_go (fun t k => XS.lloadN X0.here hx rfl (hb hby d_method_5_code_9) rfl k) ?_
  show own_G p e below (s₁.setTop (mkF m 10 #[.val (.ref a1), .val (.int (Int32.ofNat pn)), .val (.long v_), .second, .val (.int (Int32.ofNat pn)), .unset, .unset] [(.long v_)])) _
  refine own_go (fun t k => XS.lconst X0.here hx rfl (hb hby d_method_5_code_10) k) ?_
  refine own_go (fun t k => XS.lcmp X0.here hx rfl (hb hby d_method_5_code_11) rfl k) ?_
  by_cases hc62z : v_ < (0 : Int64)
  · refine own_go (fun t k => XS.ifNo X0.here hx rfl (hb hby d_method_5_code_12) rfl ((if0 _ _).trans (tlt ((lw_lt v_ (0 : Int64)).mpr hc62z)).2.1) k) ?_
    show own_G p e below (s₁.setTop (mkF m 15 #[.val (.ref a1), .val (.int (Int32.ofNat pn)), .val (.long v_), .second, .val (.int (Int32.ofNat pn)), .unset, .unset] [])) _
    refine own_go (fun t k => XS.iload X0.here hx rfl (hb hby d_method_5_code_15) rfl k) ?_
    refine own_go (fun t k => XS.aloadN X0.here hx rfl (hb hby d_method_5_code_17) rfl rfl k) ?_
    obtain ⟨cq63z, kq63z, qa63z, qb63z, qc63z⟩ := isOf hZ e0 q0
    obtain ⟨_, _, ⟨T63z, L63z, k63z, n63z⟩, -, X63z, ⟨Lc63z, hQ63z, l63z, y63z, z63z⟩, st63z⟩ := X0.virtualBack hx (y := own_m7) (z := own_m7) hown (own_mw hZ hw 210 rfl) (own_mw hZ hw 59 rfl) (notFace_of_selects (args := #[]) (own_mw hZ hw 61 rfl)) (own_mw hZ hw 61 rfl) (own_mw hZ hw 60 rfl) (by decide) (backOf (W := 1) (own_slen l Z a0 hw [] a1 b1 k1 cs1 cz h0 O0 q0 q1 q2 q3 hl1 S_CS hcs) hZ (own_hw hw 62 rfl) (own_hw hw 36 rfl) (by decide) (by decide)) qa63z qc63z (g := (mkF m 18 #[.val (.ref a1), .val (.int (Int32.ofNat pn)), .val (.long v_), .second, .val (.int (Int32.ofNat pn)), .unset, .unset] [(.ref a1), (.int (Int32.ofNat pn))])) rfl (by rw [hml]; rfl) (Steps.refl _) (argsL := []) (rest := [(.int (Int32.ofNat pn))]) (lenOf pd_193421983 rfl) rfl (by show 2 * 0 + _ ≤ _; exact Nat.le_of_eq rfl) (hb hby d_method_5_code_18) (fun _ _ => ⟨rfl, e0, (by decide : 0 + 0 ≤ _), (by decide : 0 + 0 ≤ _)⟩)
    dsimp only [Pt.U, Pt.locs, Pt.cells, Pt.slots] at X63z l63z y63z z63z st63z hQ63z
    subst l63z y63z z63z
    obtain ⟨rfl, NQ63z, K63zq⟩ := hQ63z
    refine own_tr st63z ?_
    have N63z := Fr.app N0 NQ63z
    show own_G p e below (T63z.setTop (mkF m 21 #[.val (.ref a1), .val (.int (Int32.ofNat pn)), .val (.long v_), .second, .val (.int (Int32.ofNat pn)), .unset, .unset] [(.int (Int32.ofNat cs1.length)), (.int (Int32.ofNat pn))])) _
    refine own_go (fun t k => XS.icmpNo X63z.here hx rfl (hb hby d_method_5_code_21) rfl (tlt ((own_ltN (own_ofN (by omega)) (own_ofN (by omega))).mpr (by have := own_sl_le v_; omega))).2.1 k) ?_
    show own_G p e below (T63z.setTop (mkF m 24 #[.val (.ref a1), .val (.int (Int32.ofNat pn)), .val (.long v_), .second, .val (.int (Int32.ofNat pn)), .unset, .unset] [])) _
    refine own_go (fun t k => XS.aloadN X63z.here hx rfl (hb hby d_method_5_code_24) rfl rfl k) ?_
    refine own_go (fun t k => XS.iload X63z.here hx rfl (hb hby d_method_5_code_25) rfl k) ?_
    obtain ⟨cq64z, kq64z, qa64z, qb64z, qc64z⟩ := isOf hZ K63zq q0
    obtain ⟨_, _, ⟨T64z, L64z, k64z, n64z⟩, -, X64z, ⟨Lc64z, hQ64z, l64z, y64z, z64z⟩, st64z⟩ := X63z.virtualBack hx (y := own_m33) (z := own_m33) hown (own_mw hZ hw 214 rfl) (own_mw hZ hw 215 rfl) (notFace_of_selects (args := #[]) (own_mw hZ hw 217 rfl)) (own_mw hZ hw 217 rfl) (own_mw hZ hw 216 rfl) (by decide) (backOf (W := 0) (own_chat l Z a0 hw [] a1 b1 k1 cs1 (Int32.ofNat pn) pn cz fm h0 O0 q0 q1 q2 q3 hl1 hasc1 (own_ofN (by omega)) (by have := own_sl_le v_; omega) S_CS hcs S_FM hfm) hZ (own_hw hw 218 rfl) (own_hw hw 36 rfl) (by decide) (by decide)) qa64z qc64z (g := (mkF m 27 #[.val (.ref a1), .val (.int (Int32.ofNat pn)), .val (.long v_), .second, .val (.int (Int32.ofNat pn)), .unset, .unset] [(.int (Int32.ofNat pn)), (.ref a1)])) rfl (by rw [hml]; rfl) (Steps.refl _) (argsL := [(.int (Int32.ofNat pn))]) (rest := []) (lenOf pd_2087992002 rfl) rfl (by show 2 * 0 + _ ≤ _; exact Nat.le_of_eq rfl) (hb hby d_method_5_code_27) (fun _ _ => ⟨rfl, K63zq, (by decide : 0 + 0 ≤ _), (by decide : 0 + 0 ≤ _)⟩)
    dsimp only [Pt.U, Pt.locs, Pt.cells, Pt.slots] at X64z l64z y64z z64z st64z hQ64z
    subst l64z y64z z64z
    obtain ⟨rfl, NQ64z, K64zq⟩ := hQ64z
    refine own_tr st64z ?_
    have N64z := Fr.app N63z NQ64z
    show own_G p e below (T64z.setTop (mkF m 30 #[.val (.ref a1), .val (.int (Int32.ofNat pn)), .val (.long v_), .second, .val (.int (Int32.ofNat pn)), .unset, .unset] [(.int (cs1.getD pn 0))])) _
    refine own_go (fun t k => XS.bipush X64z.here hx rfl (hb hby d_method_5_code_30) k) ?_
    refine own_go (fun t k => XS.icmpYes X64z.here hx rfl (pc0 := 32) (pc' := 37) rfl (hb hby d_method_5_code_32) rfl (teq ((hm 0 (own_sl_le v_).1).trans (own_slN hc62z).1)).1 (by decide) (by decide) k) ?_
    show own_G p e below (T64z.setTop (mkF m 37 #[.val (.ref a1), .val (.int (Int32.ofNat pn)), .val (.long v_), .second, .val (.int (Int32.ofNat pn)), .unset, .unset] [])) _
    refine own_go (fun t k => XS.iload X64z.here hx rfl (hb hby d_method_5_code_37) rfl k) ?_
    refine own_go (fun t k => XS.iconst X64z.here hx rfl (hb hby d_method_5_code_39) k) ?_
    refine own_go (fun t k => XS.iadd X64z.here hx rfl (hb hby d_method_5_code_40) rfl k) ?_
    show own_G p e below (T64z.setTop (mkF m 41 #[.val (.ref a1), .val (.int (Int32.ofNat pn)), .val (.long v_), .second, .val (.int (Int32.ofNat pn)), .unset, .unset] [(.int ((Int32.ofNat pn) + (1 : Int32)))])) _
    show own_G p e below (T64z.setTop (mkF m 41 #[.val (.ref a1), .val (.int (Int32.ofNat pn)), .val (.long v_), .second, .val (.int (Int32.ofNat pn)), .unset, .unset] [(.int ((Int32.ofNat pn) + (1 : Int32)))])) _
    rw [own_add1N (by omega)]
    show own_G p e below (T64z.setTop (mkF m 41 #[.val (.ref a1), .val (.int (Int32.ofNat pn)), .val (.long v_), .second, .val (.int (Int32.ofNat pn)), .unset, .unset] [(.int (Int32.ofNat (pn + 1)))])) _
    refine own_go (fun t k => XS.istore X64z.here hx rfl (hb hby d_method_5_code_41) rfl (l' := #[.val (.ref a1), .val (.int (Int32.ofNat pn)), .val (.long v_), .second, .val (.int (Int32.ofNat (pn + 1))), .unset, .unset]) rfl k) ?_
    exact go43 (pn + 1) _ _ (by have := (own_slN hc62z).2.1; omega) (fun j hj => by rw [Nat.add_assoc, hm (1 + j) (by have := (own_slN hc62z).2.1; omega)]; exact (own_slN hc62z).2.2 j hj) (by have := (own_slN hc62z).2.1; omega) X64z K64zq N64z
  · refine own_go (fun t k => XS.ifYes X0.here hx rfl (pc0 := 12) (pc' := 43) rfl (hb hby d_method_5_code_12) rfl ((if0 _ _).trans (flt (fun q_z => hc62z ((lw_lt v_ (0 : Int64)).mp q_z))).2.1) (by decide) (by decide) k) ?_
    show own_G p e below (s₁.setTop (mkF m 43 #[.val (.ref a1), .val (.int (Int32.ofNat pn)), .val (.long v_), .second, .val (.int (Int32.ofNat pn)), .unset, .unset] [])) _
    exact go43 pn _ _ (by have := (own_slP hc62z).1; omega) (fun j hj => (hm j (by have := (own_slP hc62z).1; omega)).trans ((own_slP hc62z).2 j hj)) (by have := (own_slP hc62z).1; omega) X0 e0 N0
--SPLIT 40

abbrev own_EL : List (String × Nat) := [("com/example/test_context_overlay/testcontextoverlay/context/OverlayCache$Statistics", 26), ("com/example/test_context_overlay/testcontextoverlay/context/OverlayCache$Statistics", 35), ("com/example/test_context_overlay/testcontextoverlay/context/OverlayCache$Statistics", 37), ("com/example/test_context_overlay/testcontextoverlay/context/OverlayCache$Statistics", 39), ("com/example/test_context_overlay/testcontextoverlay/context/StatisticsToStringPinLaw", 16), ("com/example/test_context_overlay/testcontextoverlay/context/StatisticsToStringPinLaw", 28), ("com/example/test_context_overlay/testcontextoverlay/context/StatisticsToStringPinLaw", 30), ("com/example/test_context_overlay/testcontextoverlay/context/StatisticsToStringPinLaw", 32)]
section OwnHeld
variable {p : Program} {l : Launch} {e : Env} {R : Room} {s : State} {m : MethodId} {args : Array Value} {below : List Frame} {meth : Method} {c : Code} {T : State} {locs : List Loc} {cells slots : Nat} {Z : State} {h h' : Heap} {EL : List (String × Nat)}
def own_PH (s : State) (below : List Frame) (C S : Nat) (Z : State) (EL : List (String × Nat)) (Q : Option Value → Heap → List Loc → Prop) (s₂ : State) (o : Outcome) : Prop := s₂.status = .running ∧ Ended s₂ below o ∧ ∃ v L, o = .returned v ∧ Q v s₂.heap L ∧ CHr Z EL s.vm s.heap s₂.vm s₂.heap ∧ ReturnedEndW s o s₂ L C S
theorem own_startH {C S : Nat} {Q : Option Value → Heap → List Loc → Prop} {g g' : JFrame} (q : g = g') (k : own_G p e below (T.setTop g') (own_PH s below C S Z EL Q)) :
    ∃ s₂ o, Steps p.tables e below (T.setTop g) s₂ ∧ s₂.status = .running ∧ Ended s₂ below o ∧ ∃ v L, o = .returned v ∧ Q v s₂.heap L ∧ CHr Z EL s.vm s.heap s₂.vm s₂.heap ∧ ReturnedEndW s o s₂ L C S := q ▸ k
theorem own_retH {vm₁ : Vm} (X : Stand p l e R (s.setVm vm₁) m args below meth c T locs cells slots) {n : Nat} (hSi : s.Since vm₁ n) (hn' : n ≤ T.heap.size) (hx : p.tables.exec = Jvm.exec) {pc : Nat} {Ls : Array Slot} {w : Value} {t : FieldType} {i : Instr} {rest : List Value} (hret : meth.sig.returnType = some t) (hn : narrow t w = w)
    (hi : (i = .ireturn ∧ (t = .int ∨ t = .boolean ∨ t = .byte ∨ t = .char ∨ t = .short) ∧ ∃ z, w = .int z) ∨ (i = .lreturn ∧ t = .long ∧ ∃ z, w = .long z) ∨ (i = .dreturn ∧ t = .double ∧ ∃ z, w = .double z) ∨ (i = .freturn ∧ t = .float ∧ ∃ z, w = .float z) ∨ (i = .areturn ∧ t.isReference = true ∧ w.isRef = true))
    (hd : decode c.code pc = .ok (i, 1)) (hlocks : meth.locks = false) {C S : Nat} {Q : Option Value → Heap → List Loc → Prop} (hC : cells ≤ C) (hS : slots ≤ S) (hQ : Q (some w) T.heap locs) (hR : CHr Z EL s.vm s.heap T.vm T.heap) :
    own_G p e below (T.setTop (mkF m pc Ls (w :: rest))) (own_PH s below C S Z EL Q) := by
  obtain ⟨fs, hr, hrun, hended, hW⟩ := (X.mono hC hS).leaveW hSi hn' (v := some w) (fun h => by rw [hret] at h; cases h) hlocks
  exact ⟨_, _, retOut X hx hret hn hi hd hr, hrun, hended, _, _, rfl, hQ, hR, hW⟩
theorem own_retVH {vm₁ : Vm} (X : Stand p l e R (s.setVm vm₁) m args below meth c T locs cells slots) {n : Nat} (hSi : s.Since vm₁ n) (hn' : n ≤ T.heap.size) (hx : p.tables.exec = Jvm.exec) {pc : Nat} {Ls : Array Slot} (hret : meth.sig.returnType = none) (hd : decode c.code pc = .ok (.return_, 1)) (hlocks : meth.locks = false)
    {C S : Nat} {Q : Option Value → Heap → List Loc → Prop} (hC : cells ≤ C) (hS : slots ≤ S) (hQ : Q none T.heap locs) (hR : CHr Z EL s.vm s.heap T.vm T.heap) : own_G p e below (T.setTop (mkF m pc Ls [])) (own_PH s below C S Z EL Q) := by
  obtain ⟨fs, hr, hrun, hended, hW⟩ := (X.mono hC hS).leaveW hSi hn' (v := none) (fun _ => rfl) hlocks
  exact ⟨_, _, X.returnOut hx hret hd hr, hrun, hended, _, _, rfl, hQ, hR, hW⟩
theorem own_EW {a0 : Array Value} (hw : ∀ d ∈ tables_1, d.before a0 Z = true) : EW Z a0 own_EL := (EW.cons (text := "loads=") (own_hw hw 42 rfl) (by decide) (EW.cons (text := ", hits=") (own_hw hw 123 rfl) (by decide) (EW.cons (text := ", evictions=") (own_hw hw 124 rfl) (by decide) (EW.cons (text := ", size=") (own_hw hw 151 rfl) (by decide) (EW.cons (text := "loads=") (own_hw hw 205 rfl) (by decide) (EW.cons (text := ", hits=") (own_hw hw 267 rfl) (by decide) (EW.cons (text := ", evictions=") (own_hw hw 268 rfl) (by decide) (EW.cons (text := ", size=") (own_hw hw 269 rfl) (by decide) EW.nil))))))))
theorem own_safe_null {vm : Vm} {x : Addr} (hal : Z.vm.Alike vm) (E : Exa Z h x "java/lang/String") (F : Fld Z h x "java/lang/String" "value" "[B" .null) : Jvm.RoadKit.Safe Z EL vm h x := fun B => by
  obtain ⟨cell, k, e1, e2, e3, -, -⟩ := E
  obtain ⟨c2, cf, k2, i2, f2, g1, g2, -, -, -, -, g7⟩ := F
  obtain ⟨p, -, u, a, -, q, -, G, rfl | rfl⟩ := B
  · cases (show h[q.sa]? = some q.sC from G.ha).symm.trans g1
    obtain ⟨cS, ⟨⟨-, -, -, ⟨c1, k1, i1, f1, -⟩, -, -, -, v1, -⟩, -⟩, -⟩ := G
    obtain ⟨k3, e4, -⟩ := State.fieldFound?_setVm (s := Z) hal g2
    have e5 := (show (Jvm.RoadKit.Wst Z vm h).fieldFound? _ _ _ = _ from e4).symm.trans f1
    simp only [Option.some.injEq, Prod.mk.injEq] at e5
    rw [← e5.2.2.2, g7] at v1
    cases v1
  · cases (show h[q.sd]? = some q.SA from G.hd).symm.trans e1
    obtain ⟨cS, -, -, f, -⟩ := G
    have f' : Z.vm.findClass "[B" = some q.SA.cls := by rw [← hal.findClass]; exact f
    exact (ids_ne e2 f' (by decide)) rfl
end OwnHeld

theorem own_wS {Z : State} {a0 : Array Value} (hw : ∀ d ∈ tables_1, d.before a0 Z = true) : ∀ a ∈ Bundle.stringAtoms, a.before a0 Z = true := fun d hd => by
  simp only [Bundle.stringAtoms, List.mem_cons, List.not_mem_nil, or_false] at hd
  rcases hd with rfl | rfl | rfl | rfl | rfl | rfl | rfl
  · exact (own_hw hw 36 rfl)
  · exact (own_hw hw 43 rfl)
  · exact (own_hw hw 37 rfl)
  · exact (own_hw hw 44 rfl)
  · exact (own_hw hw 45 rfl)
  · exact (own_hw hw 46 rfl)
  · exact (own_hw hw 47 rfl)
def own_t0 : List Int32 := [108, 111, 97, 100, 115, 61]
theorem own_l0 : own_t0.length = 6 := rfl
theorem own_asc_t0 : own_asc own_t0 := by
  show ∀ c ∈ ([108, 111, 97, 100, 115, 61] : List Int32), 0 ≤ c.toInt ∧ c.toInt < 128
  decide
def own_t1 : List Int32 := [44, 32, 104, 105, 116, 115, 61]
theorem own_l1 : own_t1.length = 7 := rfl
theorem own_asc_t1 : own_asc own_t1 := by
  show ∀ c ∈ ([44, 32, 104, 105, 116, 115, 61] : List Int32), 0 ≤ c.toInt ∧ c.toInt < 128
  decide
def own_t2 : List Int32 := [44, 32, 101, 118, 105, 99, 116, 105, 111, 110, 115, 61]
theorem own_l2 : own_t2.length = 12 := rfl
theorem own_asc_t2 : own_asc own_t2 := by
  show ∀ c ∈ ([44, 32, 101, 118, 105, 99, 116, 105, 111, 110, 115, 61] : List Int32), 0 ≤ c.toInt ∧ c.toInt < 128
  decide
def own_t3 : List Int32 := [44, 32, 115, 105, 122, 101, 61]
theorem own_l3 : own_t3.length = 7 := rfl
theorem own_asc_t3 : own_asc own_t3 := by
  show ∀ c ∈ ([44, 32, 115, 105, 122, 101, 61] : List Int32), 0 ≤ c.toInt ∧ c.toInt < 128
  decide
def own_nil : List Int32 := []
theorem own_lnil : own_nil.length = 0 := rfl
def own_z16 : List Value := [(.int (0 : Int32)), (.int (0 : Int32)), (.int (0 : Int32)), (.int (0 : Int32)), (.int (0 : Int32)), (.int (0 : Int32)), (.int (0 : Int32)), (.int (0 : Int32)), (.int (0 : Int32)), (.int (0 : Int32)), (.int (0 : Int32)), (.int (0 : Int32)), (.int (0 : Int32)), (.int (0 : Int32)), (.int (0 : Int32)), (.int (0 : Int32))]
def own_tot (p0 p1 p2 : Int64) (p3 : Int32) : List Int32 := ((((((((own_nil ++ own_t0) ++ (own_sl p0)) ++ own_t1) ++ (own_sl p1)) ++ own_t2) ++ (own_sl p2)) ++ own_t3) ++ (own_sl ((p3).toInt64)))
theorem own_totlen (p0 p1 p2 : Int64) (p3 : Int32) : ((((((((0 + own_t0.length) + (own_sl p0).length) + own_t1.length) + (own_sl p1).length) + own_t2.length) + (own_sl p2).length) + own_t3.length) + (own_sl ((p3).toInt64)).length) = (own_tot p0 p1 p2 p3).length := by simp only [own_tot, own_nil, List.length_append, List.length_nil]
theorem own_tot_le (p0 p1 p2 : Int64) (p3 : Int32) : (own_tot p0 p1 p2 p3).length ≤ 200 := by
  have a0 := own_sl_le p0
  have a1 := own_sl_le p1
  have a2 := own_sl_le p2
  have a3 := own_sl_le ((p3).toInt64)
  simp only [own_tot, own_l0, own_l1, own_l2, own_l3, own_lnil, List.length_append]; omega
theorem own_tot_asc (p0 p1 p2 : Int64) (p3 : Int32) : own_asc (own_tot p0 p1 p2 p3) := (own_asc_app (own_asc_app (own_asc_app (own_asc_app (own_asc_app (own_asc_app (own_asc_app (own_asc_app (fun c hc => nomatch hc) own_asc_t0) (own_asc_sl _)) own_asc_t1) (own_asc_sl _)) own_asc_t2) (own_asc_sl _)) own_asc_t3) (own_asc_sl _))
theorem own_at0 (p0 p1 p2 : Int64) (p3 : Int32) : 0 + own_t0.length ≤ (own_tot p0 p1 p2 p3).length ∧ own_M (own_tot p0 p1 p2 p3) own_t0 0 := own_at (A := own_nil) (R := ((own_sl p0) ++ (own_t1 ++ ((own_sl p1) ++ (own_t2 ++ ((own_sl p2) ++ (own_t3 ++ ((own_sl ((p3).toInt64)) ++ [])))))))) (by simp only [own_tot, own_nil, List.append_assoc, List.nil_append, List.append_nil]) (by simp only [own_nil, List.length_append, List.length_nil])
theorem own_at1 (p0 p1 p2 : Int64) (p3 : Int32) : (0 + own_t0.length) + (own_sl p0).length ≤ (own_tot p0 p1 p2 p3).length ∧ own_M (own_tot p0 p1 p2 p3) (own_sl p0) (0 + own_t0.length) := own_at (A := (own_nil ++ own_t0)) (R := (own_t1 ++ ((own_sl p1) ++ (own_t2 ++ ((own_sl p2) ++ (own_t3 ++ ((own_sl ((p3).toInt64)) ++ []))))))) (by simp only [own_tot, own_nil, List.append_assoc, List.nil_append, List.append_nil]) (by simp only [own_nil, List.length_append, List.length_nil])
theorem own_at2 (p0 p1 p2 : Int64) (p3 : Int32) : ((0 + own_t0.length) + (own_sl p0).length) + own_t1.length ≤ (own_tot p0 p1 p2 p3).length ∧ own_M (own_tot p0 p1 p2 p3) own_t1 ((0 + own_t0.length) + (own_sl p0).length) := own_at (A := ((own_nil ++ own_t0) ++ (own_sl p0))) (R := ((own_sl p1) ++ (own_t2 ++ ((own_sl p2) ++ (own_t3 ++ ((own_sl ((p3).toInt64)) ++ [])))))) (by simp only [own_tot, own_nil, List.append_assoc, List.nil_append, List.append_nil]) (by simp only [own_nil, List.length_append, List.length_nil])
theorem own_at3 (p0 p1 p2 : Int64) (p3 : Int32) : (((0 + own_t0.length) + (own_sl p0).length) + own_t1.length) + (own_sl p1).length ≤ (own_tot p0 p1 p2 p3).length ∧ own_M (own_tot p0 p1 p2 p3) (own_sl p1) (((0 + own_t0.length) + (own_sl p0).length) + own_t1.length) := own_at (A := (((own_nil ++ own_t0) ++ (own_sl p0)) ++ own_t1)) (R := (own_t2 ++ ((own_sl p2) ++ (own_t3 ++ ((own_sl ((p3).toInt64)) ++ []))))) (by simp only [own_tot, own_nil, List.append_assoc, List.nil_append, List.append_nil]) (by simp only [own_nil, List.length_append, List.length_nil])
theorem own_at4 (p0 p1 p2 : Int64) (p3 : Int32) : ((((0 + own_t0.length) + (own_sl p0).length) + own_t1.length) + (own_sl p1).length) + own_t2.length ≤ (own_tot p0 p1 p2 p3).length ∧ own_M (own_tot p0 p1 p2 p3) own_t2 ((((0 + own_t0.length) + (own_sl p0).length) + own_t1.length) + (own_sl p1).length) := own_at (A := ((((own_nil ++ own_t0) ++ (own_sl p0)) ++ own_t1) ++ (own_sl p1))) (R := ((own_sl p2) ++ (own_t3 ++ ((own_sl ((p3).toInt64)) ++ [])))) (by simp only [own_tot, own_nil, List.append_assoc, List.nil_append, List.append_nil]) (by simp only [own_nil, List.length_append, List.length_nil])
theorem own_at5 (p0 p1 p2 : Int64) (p3 : Int32) : (((((0 + own_t0.length) + (own_sl p0).length) + own_t1.length) + (own_sl p1).length) + own_t2.length) + (own_sl p2).length ≤ (own_tot p0 p1 p2 p3).length ∧ own_M (own_tot p0 p1 p2 p3) (own_sl p2) (((((0 + own_t0.length) + (own_sl p0).length) + own_t1.length) + (own_sl p1).length) + own_t2.length) := own_at (A := (((((own_nil ++ own_t0) ++ (own_sl p0)) ++ own_t1) ++ (own_sl p1)) ++ own_t2)) (R := (own_t3 ++ ((own_sl ((p3).toInt64)) ++ []))) (by simp only [own_tot, own_nil, List.append_assoc, List.nil_append, List.append_nil]) (by simp only [own_nil, List.length_append, List.length_nil])
theorem own_at6 (p0 p1 p2 : Int64) (p3 : Int32) : ((((((0 + own_t0.length) + (own_sl p0).length) + own_t1.length) + (own_sl p1).length) + own_t2.length) + (own_sl p2).length) + own_t3.length ≤ (own_tot p0 p1 p2 p3).length ∧ own_M (own_tot p0 p1 p2 p3) own_t3 ((((((0 + own_t0.length) + (own_sl p0).length) + own_t1.length) + (own_sl p1).length) + own_t2.length) + (own_sl p2).length) := own_at (A := ((((((own_nil ++ own_t0) ++ (own_sl p0)) ++ own_t1) ++ (own_sl p1)) ++ own_t2) ++ (own_sl p2))) (R := ((own_sl ((p3).toInt64)) ++ [])) (by simp only [own_tot, own_nil, List.append_assoc, List.nil_append, List.append_nil]) (by simp only [own_nil, List.length_append, List.length_nil])
theorem own_at7 (p0 p1 p2 : Int64) (p3 : Int32) : (((((((0 + own_t0.length) + (own_sl p0).length) + own_t1.length) + (own_sl p1).length) + own_t2.length) + (own_sl p2).length) + own_t3.length) + (own_sl ((p3).toInt64)).length ≤ (own_tot p0 p1 p2 p3).length ∧ own_M (own_tot p0 p1 p2 p3) (own_sl ((p3).toInt64)) (((((((0 + own_t0.length) + (own_sl p0).length) + own_t1.length) + (own_sl p1).length) + own_t2.length) + (own_sl p2).length) + own_t3.length) := own_at (A := (((((((own_nil ++ own_t0) ++ (own_sl p0)) ++ own_t1) ++ (own_sl p1)) ++ own_t2) ++ (own_sl p2)) ++ own_t3)) (R := []) (by simp only [own_tot, own_nil, List.append_assoc, List.nil_append, List.append_nil]) (by simp only [own_nil, List.length_append, List.length_nil])
theorem ef_own_sin (m : MethodId) (x0 : Addr) (x1 : Int64) (x2 : Int64) (x3 : Int64) (x4 : Int32) : entryFrame m #[(.ref x0), (.long x1), (.long x2), (.long x3), (.int x4)] 8 = mkF m 0 #[.val (.ref x0), .val (.long x1), .second, .val (.long x2), .second, .val (.long x3), .second, .val (.int x4)] [] := by first | (simp [entryFrame, mkF, argsToLocals, Value.category]; done) | rfl
theorem pf_own_sin : plainFor own_m40 = true := plainFor_of_name (by simp [plainName, overriddenIn])
theorem d_prog_18_method_1_code_0 : decode prog_18_method_1_code 0 = .ok (.aload_n 0, 1) := by decide +kernel
theorem d_prog_18_method_1_code_1 : decode prog_18_method_1_code 1 = .ok (.invokespecial 1, 3) := by decide +kernel
theorem d_prog_18_method_1_code_10 : decode prog_18_method_1_code 10 = .ok (.lload_n 3, 1) := by decide +kernel
theorem d_prog_18_method_1_code_11 : decode prog_18_method_1_code 11 = .ok (.putfield 13, 3) := by decide +kernel
theorem d_prog_18_method_1_code_14 : decode prog_18_method_1_code 14 = .ok (.aload_n 0, 1) := by decide +kernel
theorem d_prog_18_method_1_code_15 : decode prog_18_method_1_code 15 = .ok (.lload 5, 2) := by decide +kernel
theorem d_prog_18_method_1_code_17 : decode prog_18_method_1_code 17 = .ok (.putfield 16, 3) := by decide +kernel
theorem d_prog_18_method_1_code_20 : decode prog_18_method_1_code 20 = .ok (.aload_n 0, 1) := by decide +kernel
theorem d_prog_18_method_1_code_21 : decode prog_18_method_1_code 21 = .ok (.iload 7, 2) := by decide +kernel
theorem d_prog_18_method_1_code_23 : decode prog_18_method_1_code 23 = .ok (.putfield 19, 3) := by decide +kernel
theorem d_prog_18_method_1_code_26 : decode prog_18_method_1_code 26 = .ok (.return_, 1) := by decide +kernel
theorem d_prog_18_method_1_code_4 : decode prog_18_method_1_code 4 = .ok (.aload_n 0, 1) := by decide +kernel
theorem d_prog_18_method_1_code_5 : decode prog_18_method_1_code 5 = .ok (.lload_n 1, 1) := by decide +kernel
theorem d_prog_18_method_1_code_6 : decode prog_18_method_1_code 6 = .ok (.putfield 7, 3) := by decide +kernel
theorem d_prog_18_method_1_code_9 : decode prog_18_method_1_code 9 = .ok (.aload_n 0, 1) := by decide +kernel
def Q_own_sin (Z : State) (st : Addr) (pl : Int64) (ph : Int64) (pe : Int64) (pz : Int32) (h0 : Heap) (v : Option Value) (h : Heap) (L : List Loc) : Prop := v = none ∧ Fr Z.heap.size L ∧ Keep h0 h [st] ∧ (Fld Z h st own_s1 "loads" "J" (.long pl)) ∧ (Fld Z h st own_s1 "hits" "J" (.long ph)) ∧ (Fld Z h st own_s1 "evictions" "J" (.long pe)) ∧ (Fld Z h st own_s1 "size" "I" (.int pz))
set_option maxRecDepth 65536 in
set_option maxHeartbeats 40000000 in
theorem own_sin (l : Launch) (Z : State) (a0 : Array Value) (hw : ∀ d ∈ tables_1, d.before a0 Z = true) (ws : List Jvm.Cond) (st : Addr) (pl : Int64) (ph : Int64) (pe : Int64) (pz : Int32) (h0 : Heap) (O0 : Ext Z.heap h0) (q0 : Exa Z h0 st own_s1) (q1 : Z.heap.size ≤ st) (q2 : Fld Z h0 st own_s1 "loads" "J" (.long (0 : Int64))) (q3 : Fld Z h0 st own_s1 "hits" "J" (.long (0 : Int64))) (q4 : Fld Z h0 st own_s1 "evictions" "J" (.long (0 : Int64))) (q5 : Fld Z h0 st own_s1 "size" "I" (.int (0 : Int32))) :
    MetFree l own_m40 (head1 (Jvm.Cond.code own_m40 prog_18_method_1_code 8 none :: ws) ({ frames := 1, cells := 0, slots := 0, locals := 30 } : Room)) (fun aa U => aa = #[(.ref st), (.long pl), (.long ph), (.long pe), (.int pz)] ∧ Z.Warmed39 U.vm ∧ U.heap = h0) (fun _ _ _ _ _ => True) (fun _ U o U' => ∃ v L, o = .returned v ∧ Q_own_sin Z st pl ph pe pz h0 v U'.heap L ∧ FrameEnd U o U' L ({ frames := 1, cells := 0, slots := 0, locals := 30 } : Room).cells ({ frames := 1, cells := 0, slots := 0, locals := 30 } : Room).slots) := by
  refine MetFree.of_bodySF pf_own_sin hisR ?_
  intro p e s m args below meth c s₁ Bd hml0 hP hK
  obtain ⟨rfl, hZ, hh⟩ := hP
  have hx := Bd.exec
  have hby := Bd.bytes
  have hlk := BodyLoose.notSynchronized Bd
  have hml : c.maxLocals = 8 := hml0
  have hown : s.vm.findClass own_s1 = some m.cls := findClass_of_methodNamed Bd.named
  have hnm := (name_of_methodNamed Bd.named Bd.method).1
  have X0 : Stand p l e ({ frames := 1, cells := 0, slots := 0, locals := 30 } : Room) s m #[(.ref st), (.long pl), (.long ph), (.long pe), (.int pz)] below meth c s₁ [] 0 0 := Stand.of_body Bd
  have e0 : s₁.heap = h0 := by rw [← hh, Bd.state]; rfl
  have N0 := Fr.nil Z.heap.size
  have K0 : Keep h0 h0 [st] := Keep.refl _ _
  refine own_start (Q := Q_own_sin Z st pl ph pe pz h0) (ef_own_sin m (st) (pl) (ph) (pe) (pz)) ?_
  show own_G p e below (s₁.setTop (mkF m 0 #[.val (.ref st), .val (.long pl), .second, .val (.long ph), .second, .val (.long pe), .second, .val (.int pz)] [])) _
  refine own_go (fun t k => XS.aloadN X0.here hx rfl (hb hby d_prog_18_method_1_code_0) rfl rfl k) ?_
  obtain ⟨T1z, X1z, e1z, st1z⟩ := initO X0 hx hZ hown (own_hw hw 6 rfl) (own_hw hw 7 rfl) (own_hw hw 8 rfl) e0 (g := (mkF m 1 #[.val (.ref st), .val (.long pl), .second, .val (.long ph), .second, .val (.long pe), .second, .val (.int pz)] [(.ref st)])) rfl (by rw [hml]; rfl) rfl (hb hby d_prog_18_method_1_code_1) (by decide) (W := 0) (by show 2 * 0 + _ ≤ _; exact Nat.le_of_eq rfl) (by decide)
  refine own_go st1z ?_
  show own_G p e below (T1z.setTop (mkF m 4 #[.val (.ref st), .val (.long pl), .second, .val (.long ph), .second, .val (.long pe), .second, .val (.int pz)] [])) _
  refine own_go (fun t k => XS.aloadN X1z.here hx rfl (hb hby d_prog_18_method_1_code_4) rfl rfl k) ?_
  refine own_go (fun t k => XS.lloadN X1z.here hx rfl (hb hby d_prog_18_method_1_code_5) rfl k) ?_
  obtain ⟨T2z, h2z, X2z, e2z, W2z, st2z⟩ := putF X1z hx hZ hown (host := "") (Or.inl (own_hw hw 9 rfl)) Via.refl e1z q2 q0 (Or.inr ⟨(own_hw hw 10 rfl), rfl, hnm⟩) (own_hw hw 1 rfl) (ty := .long) (by decide) rfl rfl (g := (mkF m 6 #[.val (.ref st), .val (.long pl), .second, .val (.long ph), .second, .val (.long pe), .second, .val (.int pz)] [(.long pl), (.ref st)])) rfl rfl (hb hby d_prog_18_method_1_code_6)
  refine own_go st2z ?_
  have N2z := Fr.snoc X2z N0 q1
  have F2z : Fld Z h2z st own_s1 "loads" "J" (.long pl) := q2.same W2z
  have O3z := own_ext_wr O0 W2z q1
  have K3z := K0.wr W2z (Or.inl (List.mem_of_getElem? (i := 0) rfl))
  show own_G p e below (T2z.setTop (mkF m 9 #[.val (.ref st), .val (.long pl), .second, .val (.long ph), .second, .val (.long pe), .second, .val (.int pz)] [])) _
  refine own_go (fun t k => XS.aloadN X2z.here hx rfl (hb hby d_prog_18_method_1_code_9) rfl rfl k) ?_
  refine own_go (fun t k => XS.lloadN X2z.here hx rfl (hb hby d_prog_18_method_1_code_10) rfl k) ?_
  have f4z := (q3.other W2z (Or.inr (slot_ne (Or.inr (own_hw hw 12 rfl)) (Or.inr (own_hw hw 10 rfl)) (by decide) (t := .long) (t' := .long) (by decide) (by decide))))
  obtain ⟨T5z, h5z, X5z, e5z, W5z, st5z⟩ := putF X2z hx hZ hown (host := "") (Or.inl (own_hw hw 11 rfl)) Via.refl e2z f4z (q0.wr W2z) (Or.inr ⟨(own_hw hw 12 rfl), rfl, hnm⟩) (own_hw hw 1 rfl) (ty := .long) (by decide) rfl rfl (g := (mkF m 11 #[.val (.ref st), .val (.long pl), .second, .val (.long ph), .second, .val (.long pe), .second, .val (.int pz)] [(.long ph), (.ref st)])) rfl rfl (hb hby d_prog_18_method_1_code_11)
  refine own_go st5z ?_
  have N5z := Fr.snoc X5z N2z q1
  have F5z : Fld Z h5z st own_s1 "hits" "J" (.long ph) := f4z.same W5z
  have O6z := own_ext_wr O3z W5z q1
  have K6z := K3z.wr W5z (Or.inl (List.mem_of_getElem? (i := 0) rfl))
  show own_G p e below (T5z.setTop (mkF m 14 #[.val (.ref st), .val (.long pl), .second, .val (.long ph), .second, .val (.long pe), .second, .val (.int pz)] [])) _
  refine own_go (fun t k => XS.aloadN X5z.here hx rfl (hb hby d_prog_18_method_1_code_14) rfl rfl k) ?_
  refine own_go (fun t k => XS.lload X5z.here hx rfl (hb hby d_prog_18_method_1_code_15) rfl k) ?_
  have f7z := ((q4.other W2z (Or.inr (slot_ne (Or.inr (own_hw hw 14 rfl)) (Or.inr (own_hw hw 10 rfl)) (by decide) (t := .long) (t' := .long) (by decide) (by decide)))).other W5z (Or.inr (slot_ne (Or.inr (own_hw hw 14 rfl)) (Or.inr (own_hw hw 12 rfl)) (by decide) (t := .long) (t' := .long) (by decide) (by decide))))
  obtain ⟨T8z, h8z, X8z, e8z, W8z, st8z⟩ := putF X5z hx hZ hown (host := "") (Or.inl (own_hw hw 13 rfl)) Via.refl e5z f7z ((q0.wr W2z).wr W5z) (Or.inr ⟨(own_hw hw 14 rfl), rfl, hnm⟩) (own_hw hw 1 rfl) (ty := .long) (by decide) rfl rfl (g := (mkF m 17 #[.val (.ref st), .val (.long pl), .second, .val (.long ph), .second, .val (.long pe), .second, .val (.int pz)] [(.long pe), (.ref st)])) rfl rfl (hb hby d_prog_18_method_1_code_17)
  refine own_go st8z ?_
  have N8z := Fr.snoc X8z N5z q1
  have F8z : Fld Z h8z st own_s1 "evictions" "J" (.long pe) := f7z.same W8z
  have O9z := own_ext_wr O6z W8z q1
  have K9z := K6z.wr W8z (Or.inl (List.mem_of_getElem? (i := 0) rfl))
  show own_G p e below (T8z.setTop (mkF m 20 #[.val (.ref st), .val (.long pl), .second, .val (.long ph), .second, .val (.long pe), .second, .val (.int pz)] [])) _
  refine own_go (fun t k => XS.aloadN X8z.here hx rfl (hb hby d_prog_18_method_1_code_20) rfl rfl k) ?_
  refine own_go (fun t k => XS.iload X8z.here hx rfl (hb hby d_prog_18_method_1_code_21) rfl k) ?_
  have f10z := (((q5.other W2z (Or.inr (slot_ne (Or.inr (own_hw hw 16 rfl)) (Or.inr (own_hw hw 10 rfl)) (by decide) (t := .int) (t' := .long) (by decide) (by decide)))).other W5z (Or.inr (slot_ne (Or.inr (own_hw hw 16 rfl)) (Or.inr (own_hw hw 12 rfl)) (by decide) (t := .int) (t' := .long) (by decide) (by decide)))).other W8z (Or.inr (slot_ne (Or.inr (own_hw hw 16 rfl)) (Or.inr (own_hw hw 14 rfl)) (by decide) (t := .int) (t' := .long) (by decide) (by decide))))
  obtain ⟨T11z, h11z, X11z, e11z, W11z, st11z⟩ := putF X8z hx hZ hown (host := "") (Or.inl (own_hw hw 15 rfl)) Via.refl e8z f10z (((q0.wr W2z).wr W5z).wr W8z) (Or.inr ⟨(own_hw hw 16 rfl), rfl, hnm⟩) (own_hw hw 1 rfl) (ty := .int) (by decide) rfl rfl (g := (mkF m 23 #[.val (.ref st), .val (.long pl), .second, .val (.long ph), .second, .val (.long pe), .second, .val (.int pz)] [(.int pz), (.ref st)])) rfl rfl (hb hby d_prog_18_method_1_code_23)
  refine own_go st11z ?_
  have N11z := Fr.snoc X11z N8z q1
  have F11z : Fld Z h11z st own_s1 "size" "I" (.int pz) := f10z.same W11z
  have O12z := own_ext_wr O9z W11z q1
  have K12z := K9z.wr W11z (Or.inl (List.mem_of_getElem? (i := 0) rfl))
  show own_G p e below (T11z.setTop (mkF m 26 #[.val (.ref st), .val (.long pl), .second, .val (.long ph), .second, .val (.long pe), .second, .val (.int pz)] [])) _
  have f13z := (((F2z.other W5z (Or.inr (slot_ne (Or.inr (own_hw hw 10 rfl)) (Or.inr (own_hw hw 12 rfl)) (by decide) (t := .long) (t' := .long) (by decide) (by decide)))).other W8z (Or.inr (slot_ne (Or.inr (own_hw hw 10 rfl)) (Or.inr (own_hw hw 14 rfl)) (by decide) (t := .long) (t' := .long) (by decide) (by decide)))).other W11z (Or.inr (slot_ne (Or.inr (own_hw hw 10 rfl)) (Or.inr (own_hw hw 16 rfl)) (by decide) (t := .long) (t' := .int) (by decide) (by decide))))
  have f14z := ((F5z.other W8z (Or.inr (slot_ne (Or.inr (own_hw hw 12 rfl)) (Or.inr (own_hw hw 14 rfl)) (by decide) (t := .long) (t' := .long) (by decide) (by decide)))).other W11z (Or.inr (slot_ne (Or.inr (own_hw hw 12 rfl)) (Or.inr (own_hw hw 16 rfl)) (by decide) (t := .long) (t' := .int) (by decide) (by decide))))
  have f15z := (F8z.other W11z (Or.inr (slot_ne (Or.inr (own_hw hw 14 rfl)) (Or.inr (own_hw hw 16 rfl)) (by decide) (t := .long) (t' := .int) (by decide) (by decide))))
  exact own_retV X11z hx Bd.returns (hb hby d_prog_18_method_1_code_26) hlk (Nat.le_of_ble_eq_true rfl) (Nat.le_of_ble_eq_true rfl) (by show Q_own_sin Z st pl ph pe pz h0 _ T11z.heap _; rw [e11z]; exact ⟨rfl, N11z, K12z, f13z, f14z, f15z, F11z⟩)
theorem ef_own_ts (m : MethodId) (x0 : Addr) : entryFrame m #[(.ref x0)] 1 = mkF m 0 #[.val (.ref x0)] [] := by first | (simp [entryFrame, mkF, argsToLocals, Value.category]; done) | rfl
theorem pf_own_ts : plainFor own_m41 = true := plainFor_of_name (by simp [plainName, overriddenIn])
theorem pd_193421996 : parseMethodDescriptor "()V" = some ⟨[], none⟩ := by decide +kernel
theorem pd_35207773 : parseMethodDescriptor "(Ljava/lang/String;)Ljava/lang/StringBuilder;" = some ⟨[(.object "java/lang/String")], some (.object "java/lang/StringBuilder")⟩ := by decide +kernel
theorem pd_3861963207 : parseMethodDescriptor "(J)Ljava/lang/StringBuilder;" = some ⟨[.long], some (.object "java/lang/StringBuilder")⟩ := by decide +kernel
theorem pd_3535260294 : parseMethodDescriptor "(I)Ljava/lang/StringBuilder;" = some ⟨[.int], some (.object "java/lang/StringBuilder")⟩ := by decide +kernel
theorem pd_2047462102 : parseMethodDescriptor "()Ljava/lang/String;" = some ⟨[], some (.object "java/lang/String")⟩ := by decide +kernel
theorem d_prog_18_method_6_code_0 : decode prog_18_method_6_code 0 = .ok (.new 23, 3) := by decide +kernel
theorem d_prog_18_method_6_code_12 : decode prog_18_method_6_code 12 = .ok (.aload_n 0, 1) := by decide +kernel
theorem d_prog_18_method_6_code_13 : decode prog_18_method_6_code 13 = .ok (.getfield 7, 3) := by decide +kernel
theorem d_prog_18_method_6_code_16 : decode prog_18_method_6_code 16 = .ok (.invokevirtual 32, 3) := by decide +kernel
theorem d_prog_18_method_6_code_19 : decode prog_18_method_6_code 19 = .ok (.ldc 35, 2) := by decide +kernel
theorem d_prog_18_method_6_code_21 : decode prog_18_method_6_code 21 = .ok (.invokevirtual 28, 3) := by decide +kernel
theorem d_prog_18_method_6_code_24 : decode prog_18_method_6_code 24 = .ok (.aload_n 0, 1) := by decide +kernel
theorem d_prog_18_method_6_code_25 : decode prog_18_method_6_code 25 = .ok (.getfield 13, 3) := by decide +kernel
theorem d_prog_18_method_6_code_28 : decode prog_18_method_6_code 28 = .ok (.invokevirtual 32, 3) := by decide +kernel
theorem d_prog_18_method_6_code_3 : decode prog_18_method_6_code 3 = .ok (.dup, 1) := by decide +kernel
theorem d_prog_18_method_6_code_31 : decode prog_18_method_6_code 31 = .ok (.ldc 37, 2) := by decide +kernel
theorem d_prog_18_method_6_code_33 : decode prog_18_method_6_code 33 = .ok (.invokevirtual 28, 3) := by decide +kernel
theorem d_prog_18_method_6_code_36 : decode prog_18_method_6_code 36 = .ok (.aload_n 0, 1) := by decide +kernel
theorem d_prog_18_method_6_code_37 : decode prog_18_method_6_code 37 = .ok (.getfield 16, 3) := by decide +kernel
theorem d_prog_18_method_6_code_4 : decode prog_18_method_6_code 4 = .ok (.invokespecial 25, 3) := by decide +kernel
theorem d_prog_18_method_6_code_40 : decode prog_18_method_6_code 40 = .ok (.invokevirtual 32, 3) := by decide +kernel
theorem d_prog_18_method_6_code_43 : decode prog_18_method_6_code 43 = .ok (.ldc 39, 2) := by decide +kernel
theorem d_prog_18_method_6_code_45 : decode prog_18_method_6_code 45 = .ok (.invokevirtual 28, 3) := by decide +kernel
theorem d_prog_18_method_6_code_48 : decode prog_18_method_6_code 48 = .ok (.aload_n 0, 1) := by decide +kernel
theorem d_prog_18_method_6_code_49 : decode prog_18_method_6_code 49 = .ok (.getfield 19, 3) := by decide +kernel
theorem d_prog_18_method_6_code_52 : decode prog_18_method_6_code 52 = .ok (.invokevirtual 41, 3) := by decide +kernel
theorem d_prog_18_method_6_code_55 : decode prog_18_method_6_code 55 = .ok (.invokevirtual 44, 3) := by decide +kernel
theorem d_prog_18_method_6_code_58 : decode prog_18_method_6_code 58 = .ok (.areturn, 1) := by decide +kernel
theorem d_prog_18_method_6_code_7 : decode prog_18_method_6_code 7 = .ok (.ldc 26, 2) := by decide +kernel
theorem d_prog_18_method_6_code_9 : decode prog_18_method_6_code 9 = .ok (.invokevirtual 28, 3) := by decide +kernel
def Q_own_ts (Z : State) (st : Addr) (pl : Int64) (ph : Int64) (pe : Int64) (pz : Int32) (cz : Int32) (h0 : Heap) (v : Option Value) (h : Heap) (L : List Loc) : Prop := ∃ a : Addr, ∃ r : Addr, ∃ kr : ClassId, v = some (.ref a) ∧ Fr Z.heap.size L ∧ Keep h0 h [] ∧ (Exa Z h a own_s2) ∧ (h0.size ≤ a) ∧ (Fld Z h a own_s2 "value" "[B" (.ref r)) ∧ (Fld Z h a own_s2 "coder" "B" (.int (0 : Int32))) ∧ (own_A Z h r kr .byte (own_cv (own_tot pl ph pe pz))) ∧ (h0.size ≤ r)
set_option maxRecDepth 65536 in
set_option maxHeartbeats 40000000 in
theorem own_ts (l : Launch) (Z : State) (a0 : Array Value) (hw : ∀ d ∈ tables_1, d.before a0 Z = true) (ws : List Jvm.Cond) (st : Addr) (pl : Int64) (ph : Int64) (pe : Int64) (pz : Int32) (cz : Int32) (h0 : Heap) (O0 : Ext Z.heap h0) (q0 : Exa Z h0 st own_s1) (q1 : Fld Z h0 st own_s1 "loads" "J" (.long pl)) (q2 : Fld Z h0 st own_s1 "hits" "J" (.long ph)) (q3 : Fld Z h0 st own_s1 "evictions" "J" (.long pe)) (q4 : Fld Z h0 st own_s1 "size" "I" (.int pz)) (DT : own_DT Z) (S_CS : Sta Z Z.heap own_s2 own_s5 "Z" (.int cz)) (hcs : ¬ (cz = (0 : Int32))) :
    MetFree l own_m41 (head1 (Jvm.Cond.code own_m41 prog_18_method_6_code 1 (some (.object own_s2)) :: ws) ({ frames := 6, cells := 20, slots := 2900, locals := 150 } : Room)) (fun aa U => aa = #[(.ref st)] ∧ Z.Warmed39 U.vm ∧ U.heap = h0 ∧ CHv Z own_EL U.vm h0) (fun _ _ _ _ _ => True) (fun _ U o U' => ∃ v L, o = .returned v ∧ Q_own_ts Z st pl ph pe pz cz h0 v U'.heap L ∧ CHr Z own_EL U.vm U.heap U'.vm U'.heap ∧ ReturnedEndW U o U' L ({ frames := 6, cells := 20, slots := 2900, locals := 150 } : Room).cells ({ frames := 6, cells := 20, slots := 2900, locals := 150 } : Room).slots) := by
  refine MetFree.of_bodySF pf_own_ts hisR ?_
  intro p e s m args below meth c s₁ Bd hml0 hP hK
  obtain ⟨rfl, hZ, hh, CH0⟩ := hP
  have hx := Bd.exec
  have hby := Bd.bytes
  have hlk := BodyLoose.notSynchronized Bd
  have hml : c.maxLocals = 1 := hml0
  have hown : s.vm.findClass own_s1 = some m.cls := findClass_of_methodNamed Bd.named
  have hnm := (name_of_methodNamed Bd.named Bd.method).1
  have X0 : Stand p l e ({ frames := 6, cells := 20, slots := 2900, locals := 150 } : Room) s m #[(.ref st)] below meth c s₁ [] 0 0 := Stand.of_body Bd
  have e0 : s₁.heap = h0 := by rw [← hh, Bd.state]; rfl
  have N0 := Fr.nil Z.heap.size
  have K0 : Keep h0 h0 [] := Keep.refl _ _
  have Si0 : s.Since s.vm h0.size := (State.WarmedH.refl s).since h0.size
  have Sn0 : h0.size ≤ h0.size := Nat.le_refl _
  have hZ : Z.Warmed39 (s.setVm s.vm).vm := hZ
  have hown : (s.setVm s.vm).vm.findClass own_s1 = some m.cls := hown
  have X0 := (show Stand _ _ _ _ (s.setVm s.vm) _ _ _ _ _ _ _ _ _ from X0)
  have CR0 : CHr Z own_EL s.vm h0 s.vm h0 := CHr.refl CH0
  refine own_startH (Q := Q_own_ts Z st pl ph pe pz cz h0) (ef_own_ts m (st)) ?_
  show own_G p e below (s₁.setTop (mkF m 0 #[.val (.ref st)] [])) _
  obtain ⟨T1z, h1z, X1z, e1z, E1z, A1z, D1z, -, st1z⟩ := newO X0 hx hZ hown (own_hw hw 22 rfl) (own_hw hw 23 rfl) (own_hw hw 24 rfl) e0 (g := (mkF m 0 #[.val (.ref st)] [])) rfl (hb hby d_prog_18_method_6_code_0) (by decide) (by decide)
  obtain ⟨b1z, g1z⟩ : ∃ z, z = h0.size := ⟨_, rfl⟩
  rw [← g1z] at A1z D1z st1z
  have fr_b1z : Z.heap.size ≤ b1z := g1z ▸ O0.1
  have lz_b1z : h0.size ≤ b1z := g1z ▸ K0.1
  have ne_st_b1z : st ≠ b1z := Nat.ne_of_lt (g1z ▸ q0.lt)
  have O2z := own_ext_trans O0 E1z
  have K2z := K0.ext E1z
  have Sn2z := Nat.le_trans Sn0 E1z.1
  have CR2z := CR0.trans (CHr.ext E1z CR0.1)
  have F1z_value : Fld Z h1z b1z own_s0 "value" "[B" .null := D1z (Or.inl (own_hw hw 39 rfl)) (ty := (.array .byte)) (by decide)
  have F1z_coder : Fld Z h1z b1z own_s0 "coder" "B" (.int (0 : Int32)) := D1z (Or.inl (own_hw hw 41 rfl)) (ty := .byte) (by decide)
  have F1z_count : Fld Z h1z b1z own_s0 "count" "I" (.int (0 : Int32)) := D1z (Or.inl (own_hw hw 72 rfl)) (ty := .int) (by decide)
  refine own_go st1z ?_
  refine own_go (fun t k => XS.dup X1z.here hx rfl (hb hby d_prog_18_method_6_code_3) rfl rfl k) ?_
  obtain ⟨_, _, ⟨T3z, L3z, k3z, n3z⟩, -, X3z, ⟨Lc3z, hQ3z, l3z, y3z, z3z⟩, st3z⟩ := X1z.specialBack hx (y := own_m28) rfl hown (own_mw hZ hw 25 rfl) (own_mw hZ hw 26 rfl) (own_mw hZ hw 27 rfl) (by decide) (backOf (W := 1) (own_sbi l Z a0 hw [] b1z cz h1z O2z A1z fr_b1z F1z_value F1z_coder F1z_count S_CS hcs) hZ (own_hw hw 27 rfl) (own_hw hw 24 rfl) (by decide) (by decide)) (g := (mkF m 4 #[.val (.ref st)] [(.ref b1z), (.ref b1z)])) rfl (by rw [hml]; rfl) (Steps.refl _) (a := b1z) (argsL := []) (rest := [(.ref b1z)]) (lenOf pd_193421996 rfl) rfl (by show 2 * 0 + _ ≤ _; exact Nat.le_of_eq rfl) (hb hby d_prog_18_method_6_code_4) (fun _ _ => ⟨rfl, e1z, (by decide : 1 + 1 ≤ _), (by decide : 4 + 16 ≤ _)⟩)
  dsimp only [Pt.U, Pt.locs, Pt.cells, Pt.slots] at X3z l3z y3z z3z st3z hQ3z
  subst l3z y3z z3z
  obtain ⟨b_3z, kb_3z, rfl, NQ3z, K3zq, r3z_0, r3z_1, r3z_2, r3z_3, r3z_4, r3z_5, r3z_6⟩ := hQ3z
  refine own_tr st3z ?_
  have N3z := Fr.app N0 NQ3z
  have O4z := own_ext_keep O2z K3zq (allS fr_b1z all0)
  have K4z := K2z.trans K3zq (allS (Or.inr lz_b1z) all0)
  have Sn4z := Nat.le_trans Sn2z K3zq.1
  have CR4z := CR2z.trans (CHr.keep K3zq (allS (Jvm.RoadKit.Safe.exa hZ.alike A1z (by decide) (by decide)) all0) CR2z.1)
  have lz_b_3z : h0.size ≤ b_3z := Nat.le_trans K2z.1 r3z_5
  have ne_st_b_3z : st ≠ b_3z := Nat.ne_of_lt (Nat.lt_of_lt_of_le (q0.ext E1z).lt r3z_5)
  have ne_b1z_b_3z : b1z ≠ b_3z := Nat.ne_of_lt (Nat.lt_of_lt_of_le A1z.lt r3z_5)
  have sf_b_3z := Jvm.RoadKit.Safe.keep K3zq (allS (Jvm.RoadKit.Safe.exa hZ.alike A1z (by decide) (by decide)) all0) CR2z.1 (Jvm.RoadKit.Safe.new (EL := own_EL) (vm := s.vm) (Z := Z) r3z_5)
  show own_G p e below (T3z.setTop (mkF m 7 #[.val (.ref st)] [(.ref b1z)])) _
  have Vi : own_A Z T3z.heap b_3z kb_3z .byte (own_cv own_nil ++ own_z16) := r3z_3
  have Ci : Fld Z T3z.heap b1z own_s0 "count" "I" (.int (Int32.ofNat own_nil.length)) := r3z_2
  have sf_b1z := Jvm.RoadKit.Safe.exa (EL := own_EL) hZ.alike (A1z.keep K3zq) (by decide) (by decide)
  obtain ⟨a5z, T5z, h5z, k5z, b5z, kb5z, X5z, e5z, E5z, Si5z, Sn5z, hZ5z, hown5z, Le5z, Lc5z, Lv5z, La5z, -, -, CQ5z, -, ne5z, st5z⟩ := ldcCH X3z hx hZ hown (own_hw hw 42 rfl) (own_wS hw) (rfl : T3z.heap = _) Si0 Sn4z (own_EW hw) (List.mem_of_getElem? (i := 0) rfl) CR4z.1 (vs := (own_cv own_t0)) (z := 6) ⟨by decide, rfl⟩ (by decide) (by decide) (g := (mkF m 7 #[.val (.ref st)] [(.ref b1z)])) rfl (hb hby d_prog_18_method_6_code_7) (n := 24) (by decide) (by decide) (by decide) (by decide)
  refine own_go st5z ?_
  have O6z := own_ext_trans O4z E5z
  have K6z := K4z.ext E5z
  have CR6z := CR4z.trans CQ5z
  have sf6z_b_3z := CQ5z.safe r3z_6.lt sf_b_3z
  have sf6z_b1z := CQ5z.safe (A1z.keep K3zq).lt sf_b1z
  have ne_b_3z_a5z : b_3z ≠ a5z := (ne5z _ sf6z_b_3z).1
  have ne_b_3z_b5z : b_3z ≠ b5z := (ne5z _ sf6z_b_3z).2
  have ne_b1z_a5z : b1z ≠ a5z := (ne5z _ sf6z_b1z).1
  have ne_b1z_b5z : b1z ≠ b5z := (ne5z _ sf6z_b1z).2
  have Lb5z : own_A Z h5z b5z kb5z .byte (own_cv own_t0) := own_A.of_arv La5z (by decide)
  show own_G p e below (T5z.setTop (mkF m 9 #[.val (.ref st)] [(.ref a5z), (.ref b1z)])) _
  obtain ⟨cq7z, kq7z, qa7z, qb7z, qc7z⟩ := isOf hZ5z e5z ((A1z.keep K3zq).ext E5z)
  obtain ⟨_, _, ⟨T7z, L7z, k7z, n7z⟩, -, X7z, ⟨Lc7z, hQ7z, l7z, y7z, z7z⟩, st7z⟩ := X5z.virtualBack hx (y := own_m12) (z := own_m12) hown5z (own_mw hZ5z hw 48 rfl) (own_mw hZ5z hw 49 rfl) (notFace_of_selects (args := #[]) (own_mw hZ5z hw 51 rfl)) (own_mw hZ5z hw 51 rfl) (own_mw hZ5z hw 50 rfl) (by decide) (backOf (W := 0) (own_saps l Z a0 hw [] b1z b_3z kb_3z own_nil own_z16 a5z b5z kb5z own_t0 cz h5z O6z ((A1z.keep K3zq).ext E5z) fr_b1z r3z_4 (r3z_6.ext E5z) (r3z_0.ext E5z) (r3z_1.ext E5z) (Ci.ext E5z) (Vi.ext E5z) ne_b1z_b_3z (by decide) Le5z Lv5z Lc5z Lb5z (by decide) (by have a0 := own_sl_le pl; have a1 := own_sl_le ph; have a2 := own_sl_le pe; have a3 := own_sl_le pz.toInt64; simp only [own_l0, own_l1, own_l2, own_l3, own_lnil, List.length_append] <;> omega) (Ne.symm ne_b_3z_b5z) ne_b1z_b5z (Ne.symm ne_b1z_a5z) (Ne.symm ne_b_3z_a5z) S_CS hcs) hZ5z (own_hw hw 52 rfl) (own_hw hw 24 rfl) (by decide) (by decide)) qa7z qc7z (g := (mkF m 9 #[.val (.ref st)] [(.ref a5z), (.ref b1z)])) rfl (by rw [hml]; rfl) (Steps.refl _) (argsL := [(.ref a5z)]) (rest := []) (lenOf pd_35207773 rfl) rfl (by show 2 * 0 + _ ≤ _; exact Nat.le_of_eq rfl) (hb hby d_prog_18_method_6_code_9) (fun _ _ => ⟨rfl, e5z, (by decide : 4 + 1 ≤ _), (by decide : 48 + 300 ≤ _)⟩)
  dsimp only [Pt.U, Pt.locs, Pt.cells, Pt.slots] at X7z l7z y7z z7z st7z hQ7z
  subst l7z y7z z7z
  obtain ⟨b2_7z, k2_7z, tl2_7z, rfl, NQ7z, K7zq, r7z_0, r7z_1, r7z_2, r7z_3, r7z_4, r7z_5, r7z_6, r7z_7, r7z_8⟩ := hQ7z
  refine own_tr st7z ?_
  have N7z := Fr.app N3z NQ7z
  have O8z := own_ext_keep O6z K7zq (allS fr_b1z (allS r3z_4 all0))
  have K8z := K6z.trans K7zq (allS (Or.inr lz_b1z) (allS (Or.inr lz_b_3z) all0))
  have Sn8z := Nat.le_trans Sn5z K7zq.1
  have CR8z := CR6z.trans (CHr.keep K7zq (allS sf6z_b1z (allS sf6z_b_3z all0)) CR6z.1)
  have sf8z_b_3z := Jvm.RoadKit.Safe.keep K7zq (allS sf6z_b1z (allS sf6z_b_3z all0)) CR6z.1 sf6z_b_3z
  have sf8z_b1z := Jvm.RoadKit.Safe.keep K7zq (allS sf6z_b1z (allS sf6z_b_3z all0)) CR6z.1 sf6z_b1z
  have dd_b2_7z : b2_7z = b_3z ∨ h0.size ≤ b2_7z := r7z_6.imp id (fun q => Nat.le_trans K6z.1 q)
  have sf_b2_7z := Jvm.RoadKit.Safe.keep K7zq (allS sf6z_b1z (allS sf6z_b_3z all0)) CR6z.1 (r7z_6.elim (fun e => e.symm ▸ sf6z_b_3z) (fun q => Jvm.RoadKit.Safe.new (EL := own_EL) (vm := T5z.vm) (Z := Z) q))
  have ne_st_b2_7z : st ≠ b2_7z := r7z_6.elim (fun e => e ▸ ne_st_b_3z) (fun q => Nat.ne_of_lt (Nat.lt_of_lt_of_le (((q0.ext E1z).keep K3zq).ext E5z).lt q))
  have ne_b1z_b2_7z : b1z ≠ b2_7z := r7z_6.elim (fun e => e ▸ ne_b1z_b_3z) (fun q => Nat.ne_of_lt (Nat.lt_of_lt_of_le ((A1z.keep K3zq).ext E5z).lt q))
  have ne_a5z_b2_7z : a5z ≠ b2_7z := r7z_6.elim (fun e => e ▸ (Ne.symm ne_b_3z_a5z)) (fun q => Nat.ne_of_lt (Nat.lt_of_lt_of_le Le5z.lt q))
  have ne_b5z_b2_7z : b5z ≠ b2_7z := r7z_6.elim (fun e => e ▸ (Ne.symm ne_b_3z_b5z)) (fun q => Nat.ne_of_lt (Nat.lt_of_lt_of_le Lb5z.lt q))
  show own_G p e below (T7z.setTop (mkF m 12 #[.val (.ref st)] [(.ref b1z)])) _
  refine own_go (fun t k => XS.aloadN X7z.here hx rfl (hb hby d_prog_18_method_6_code_12) rfl rfl k) ?_
  have f9z := ((((q1.ext E1z).keep K3zq (by simp only [List.mem_cons, List.not_mem_nil, or_false, not_or]; exact ne_st_b1z)).ext E5z).keep K7zq (by simp only [List.mem_cons, List.not_mem_nil, or_false, not_or]; exact ⟨ne_st_b1z, ne_st_b_3z⟩))
  obtain ⟨T10z, X10z, e10z, st10z⟩ := getF X7z hx hZ5z hown5z (host := "") (Or.inl (own_hw hw 9 rfl)) Via.refl rfl f9z (g := (mkF m 13 #[.val (.ref st)] [(.ref st), (.ref b1z)])) rfl rfl (hb hby d_prog_18_method_6_code_13)
  refine own_go st10z ?_
  obtain ⟨cq11z, kq11z, qa11z, qb11z, qc11z⟩ := isOf hZ5z e10z (((A1z.keep K3zq).ext E5z).keep K7zq)
  obtain ⟨_, _, ⟨T11z, L11z, k11z, n11z⟩, -, X11z, ⟨Lc11z, hQ11z, l11z, y11z, z11z⟩, st11z⟩ := X10z.virtualBack hx (y := own_m16) (z := own_m16) hown5z (own_mw hZ5z hw 98 rfl) (own_mw hZ5z hw 99 rfl) (notFace_of_selects (args := #[]) (own_mw hZ5z hw 101 rfl)) (own_mw hZ5z hw 101 rfl) (own_mw hZ5z hw 100 rfl) (by decide) (backOf (W := 0) (own_sapJ l Z a0 hw [] b1z b2_7z k2_7z (own_nil ++ own_t0) tl2_7z pl cz T7z.heap O8z (((A1z.keep K3zq).ext E5z).keep K7zq) fr_b1z r7z_4 r7z_5 r7z_0 r7z_1 r7z_2 r7z_3 r7z_7 r7z_8 (by have a0 := own_sl_le pl; have a1 := own_sl_le ph; have a2 := own_sl_le pe; have a3 := own_sl_le pz.toInt64; simp only [own_l0, own_l1, own_l2, own_l3, own_lnil, List.length_append] <;> omega) DT S_CS hcs) hZ5z (own_hw hw 102 rfl) (own_hw hw 24 rfl) (by decide) (by decide)) qa11z qc11z (g := (mkF m 16 #[.val (.ref st)] [(.long pl), (.ref b1z)])) rfl (by rw [hml]; rfl) (Steps.refl _) (argsL := [(.long pl)]) (rest := []) (lenOf pd_3861963207 rfl) rfl (by show 2 * 0 + _ ≤ _; exact Nat.le_of_eq rfl) (hb hby d_prog_18_method_6_code_16) (fun _ _ => ⟨rfl, e10z, (by decide : 5 + 1 ≤ _), (by decide : 348 + 300 ≤ _)⟩)
  dsimp only [Pt.U, Pt.locs, Pt.cells, Pt.slots] at X11z l11z y11z z11z st11z hQ11z
  subst l11z y11z z11z
  obtain ⟨b2_11z, k2_11z, tl2_11z, rfl, NQ11z, K11zq, r11z_0, r11z_1, r11z_2, r11z_3, r11z_4, r11z_5, r11z_6, r11z_7, r11z_8⟩ := hQ11z
  refine own_tr st11z ?_
  have N11z := Fr.app N7z NQ11z
  have O12z := own_ext_keep O8z K11zq (allS fr_b1z (allS r7z_4 all0))
  have K12z := K8z.trans K11zq (allS (Or.inr lz_b1z) (allS (dd_b2_7z.elim (fun e => e.symm ▸ (Or.inr lz_b_3z)) (fun q => Or.inr q)) all0))
  have Sn12z := Nat.le_trans Sn8z K11zq.1
  have CR12z := CR8z.trans (CHr.keep K11zq (allS sf8z_b1z (allS sf_b2_7z all0)) CR8z.1)
  have sf12z_b1z := Jvm.RoadKit.Safe.keep K11zq (allS sf8z_b1z (allS sf_b2_7z all0)) CR8z.1 sf8z_b1z
  have sf12z_b2_7z := Jvm.RoadKit.Safe.keep K11zq (allS sf8z_b1z (allS sf_b2_7z all0)) CR8z.1 sf_b2_7z
  have dd_b2_11z : b2_11z = b2_7z ∨ h0.size ≤ b2_11z := r11z_6.imp id (fun q => Nat.le_trans K8z.1 q)
  have sf_b2_11z := Jvm.RoadKit.Safe.keep K11zq (allS sf8z_b1z (allS sf_b2_7z all0)) CR8z.1 (r11z_6.elim (fun e => e.symm ▸ sf_b2_7z) (fun q => Jvm.RoadKit.Safe.new (EL := own_EL) (vm := T5z.vm) (Z := Z) q))
  have ne_st_b2_11z : st ≠ b2_11z := r11z_6.elim (fun e => e ▸ ne_st_b2_7z) (fun q => Nat.ne_of_lt (Nat.lt_of_lt_of_le ((((q0.ext E1z).keep K3zq).ext E5z).keep K7zq).lt q))
  have ne_b1z_b2_11z : b1z ≠ b2_11z := r11z_6.elim (fun e => e ▸ r7z_7) (fun q => Nat.ne_of_lt (Nat.lt_of_lt_of_le (((A1z.keep K3zq).ext E5z).keep K7zq).lt q))
  show own_G p e below (T11z.setTop (mkF m 19 #[.val (.ref st)] [(.ref b1z)])) _
  obtain ⟨a13z, T13z, h13z, k13z, b13z, kb13z, X13z, e13z, E13z, Si13z, Sn13z, hZ13z, hown13z, Le13z, Lc13z, Lv13z, La13z, -, -, CQ13z, -, ne13z, st13z⟩ := ldcCH X11z hx hZ5z hown5z (own_hw hw 123 rfl) (own_wS hw) (rfl : T11z.heap = _) Si5z Sn12z (own_EW hw) (List.mem_of_getElem? (i := 1) rfl) CR12z.1 (vs := (own_cv own_t1)) (z := 7) ⟨by decide, rfl⟩ (by decide) (by decide) (g := (mkF m 19 #[.val (.ref st)] [(.ref b1z)])) rfl (hb hby d_prog_18_method_6_code_19) (n := 28) (by decide) (by decide) (by decide) (by decide)
  refine own_go st13z ?_
  have O14z := own_ext_trans O12z E13z
  have K14z := K12z.ext E13z
  have CR14z := CR12z.trans CQ13z
  have sf14z_b1z := CQ13z.safe ((((A1z.keep K3zq).ext E5z).keep K7zq).keep K11zq).lt sf12z_b1z
  have sf14z_b2_11z := CQ13z.safe r11z_5.lt sf_b2_11z
  have ne_b1z_a13z : b1z ≠ a13z := (ne13z _ sf14z_b1z).1
  have ne_b1z_b13z : b1z ≠ b13z := (ne13z _ sf14z_b1z).2
  have ne_b2_11z_a13z : b2_11z ≠ a13z := (ne13z _ sf14z_b2_11z).1
  have ne_b2_11z_b13z : b2_11z ≠ b13z := (ne13z _ sf14z_b2_11z).2
  have Lb13z : own_A Z h13z b13z kb13z .byte (own_cv own_t1) := own_A.of_arv La13z (by decide)
  show own_G p e below (T13z.setTop (mkF m 21 #[.val (.ref st)] [(.ref a13z), (.ref b1z)])) _
  have f15z := (((((A1z.keep K3zq).ext E5z).keep K7zq).keep K11zq).ext E13z)
  have f16z := ((((((q0.ext E1z).keep K3zq).ext E5z).keep K7zq).keep K11zq).ext E13z)
  obtain ⟨cq17z, kq17z, qa17z, qb17z, qc17z⟩ := isOf hZ13z e13z f15z
  obtain ⟨_, _, ⟨T17z, L17z, k17z, n17z⟩, -, X17z, ⟨Lc17z, hQ17z, l17z, y17z, z17z⟩, st17z⟩ := X13z.virtualBack hx (y := own_m12) (z := own_m12) hown13z (own_mw hZ13z hw 48 rfl) (own_mw hZ13z hw 49 rfl) (notFace_of_selects (args := #[]) (own_mw hZ13z hw 51 rfl)) (own_mw hZ13z hw 51 rfl) (own_mw hZ13z hw 50 rfl) (by decide) (backOf (W := 0) (own_saps l Z a0 hw [] b1z b2_11z k2_11z ((own_nil ++ own_t0) ++ (own_sl pl)) tl2_11z a13z b13z kb13z own_t1 cz h13z O14z f15z fr_b1z r11z_4 (r11z_5.ext E13z) (r11z_0.ext E13z) (r11z_1.ext E13z) (r11z_2.ext E13z) (r11z_3.ext E13z) r11z_7 r11z_8 Le13z Lv13z Lc13z Lb13z (by decide) (by have a0 := own_sl_le pl; have a1 := own_sl_le ph; have a2 := own_sl_le pe; have a3 := own_sl_le pz.toInt64; simp only [own_l0, own_l1, own_l2, own_l3, own_lnil, List.length_append] <;> omega) (Ne.symm ne_b2_11z_b13z) ne_b1z_b13z (Ne.symm ne_b1z_a13z) (Ne.symm ne_b2_11z_a13z) S_CS hcs) hZ13z (own_hw hw 52 rfl) (own_hw hw 24 rfl) (by decide) (by decide)) qa17z qc17z (g := (mkF m 21 #[.val (.ref st)] [(.ref a13z), (.ref b1z)])) rfl (by rw [hml]; rfl) (Steps.refl _) (argsL := [(.ref a13z)]) (rest := []) (lenOf pd_35207773 rfl) rfl (by show 2 * 0 + _ ≤ _; exact Nat.le_of_eq rfl) (hb hby d_prog_18_method_6_code_21) (fun _ _ => ⟨rfl, e13z, (by decide : 8 + 1 ≤ _), (by decide : 680 + 300 ≤ _)⟩)
  dsimp only [Pt.U, Pt.locs, Pt.cells, Pt.slots] at X17z l17z y17z z17z st17z hQ17z
  subst l17z y17z z17z
  obtain ⟨b2_17z, k2_17z, tl2_17z, rfl, NQ17z, K17zq, r17z_0, r17z_1, r17z_2, r17z_3, r17z_4, r17z_5, r17z_6, r17z_7, r17z_8⟩ := hQ17z
  refine own_tr st17z ?_
  have N17z := Fr.app N11z NQ17z
  have O18z := own_ext_keep O14z K17zq (allS fr_b1z (allS r11z_4 all0))
  have K18z := K14z.trans K17zq (allS (Or.inr lz_b1z) (allS (dd_b2_11z.elim (fun e => e.symm ▸ (dd_b2_7z.elim (fun e => e.symm ▸ (Or.inr lz_b_3z)) (fun q => Or.inr q))) (fun q => Or.inr q)) all0))
  have Sn18z := Nat.le_trans Sn13z K17zq.1
  have CR18z := CR14z.trans (CHr.keep K17zq (allS sf14z_b1z (allS sf14z_b2_11z all0)) CR14z.1)
  have sf18z_b1z := Jvm.RoadKit.Safe.keep K17zq (allS sf14z_b1z (allS sf14z_b2_11z all0)) CR14z.1 sf14z_b1z
  have sf18z_b2_11z := Jvm.RoadKit.Safe.keep K17zq (allS sf14z_b1z (allS sf14z_b2_11z all0)) CR14z.1 sf14z_b2_11z
  have dd_b2_17z : b2_17z = b2_11z ∨ h0.size ≤ b2_17z := r17z_6.imp id (fun q => Nat.le_trans K14z.1 q)
  have sf_b2_17z := Jvm.RoadKit.Safe.keep K17zq (allS sf14z_b1z (allS sf14z_b2_11z all0)) CR14z.1 (r17z_6.elim (fun e => e.symm ▸ sf14z_b2_11z) (fun q => Jvm.RoadKit.Safe.new (EL := own_EL) (vm := T13z.vm) (Z := Z) q))
  have ne_st_b2_17z : st ≠ b2_17z := r17z_6.elim (fun e => e ▸ ne_st_b2_11z) (fun q => Nat.ne_of_lt (Nat.lt_of_lt_of_le f16z.lt q))
  have ne_b1z_b2_17z : b1z ≠ b2_17z := r17z_6.elim (fun e => e ▸ r11z_7) (fun q => Nat.ne_of_lt (Nat.lt_of_lt_of_le f15z.lt q))
  have ne_a13z_b2_17z : a13z ≠ b2_17z := r17z_6.elim (fun e => e ▸ (Ne.symm ne_b2_11z_a13z)) (fun q => Nat.ne_of_lt (Nat.lt_of_lt_of_le Le13z.lt q))
  have ne_b13z_b2_17z : b13z ≠ b2_17z := r17z_6.elim (fun e => e ▸ (Ne.symm ne_b2_11z_b13z)) (fun q => Nat.ne_of_lt (Nat.lt_of_lt_of_le Lb13z.lt q))
  show own_G p e below (T17z.setTop (mkF m 24 #[.val (.ref st)] [(.ref b1z)])) _
  refine own_go (fun t k => XS.aloadN X17z.here hx rfl (hb hby d_prog_18_method_6_code_24) rfl rfl k) ?_
  have f19z := (((((((q2.ext E1z).keep K3zq (by simp only [List.mem_cons, List.not_mem_nil, or_false, not_or]; exact ne_st_b1z)).ext E5z).keep K7zq (by simp only [List.mem_cons, List.not_mem_nil, or_false, not_or]; exact ⟨ne_st_b1z, ne_st_b_3z⟩)).keep K11zq (by simp only [List.mem_cons, List.not_mem_nil, or_false, not_or]; exact ⟨ne_st_b1z, ne_st_b2_7z⟩)).ext E13z).keep K17zq (by simp only [List.mem_cons, List.not_mem_nil, or_false, not_or]; exact ⟨ne_st_b1z, ne_st_b2_11z⟩))
  obtain ⟨T20z, X20z, e20z, st20z⟩ := getF X17z hx hZ13z hown13z (host := "") (Or.inl (own_hw hw 11 rfl)) Via.refl rfl f19z (g := (mkF m 25 #[.val (.ref st)] [(.ref st), (.ref b1z)])) rfl rfl (hb hby d_prog_18_method_6_code_25)
  refine own_go st20z ?_
  obtain ⟨cq21z, kq21z, qa21z, qb21z, qc21z⟩ := isOf hZ13z e20z (f15z.keep K17zq)
  obtain ⟨_, _, ⟨T21z, L21z, k21z, n21z⟩, -, X21z, ⟨Lc21z, hQ21z, l21z, y21z, z21z⟩, st21z⟩ := X20z.virtualBack hx (y := own_m16) (z := own_m16) hown13z (own_mw hZ13z hw 98 rfl) (own_mw hZ13z hw 99 rfl) (notFace_of_selects (args := #[]) (own_mw hZ13z hw 101 rfl)) (own_mw hZ13z hw 101 rfl) (own_mw hZ13z hw 100 rfl) (by decide) (backOf (W := 0) (own_sapJ l Z a0 hw [] b1z b2_17z k2_17z (((own_nil ++ own_t0) ++ (own_sl pl)) ++ own_t1) tl2_17z ph cz T17z.heap O18z (f15z.keep K17zq) fr_b1z r17z_4 r17z_5 r17z_0 r17z_1 r17z_2 r17z_3 r17z_7 r17z_8 (by have a0 := own_sl_le pl; have a1 := own_sl_le ph; have a2 := own_sl_le pe; have a3 := own_sl_le pz.toInt64; simp only [own_l0, own_l1, own_l2, own_l3, own_lnil, List.length_append] <;> omega) DT S_CS hcs) hZ13z (own_hw hw 102 rfl) (own_hw hw 24 rfl) (by decide) (by decide)) qa21z qc21z (g := (mkF m 28 #[.val (.ref st)] [(.long ph), (.ref b1z)])) rfl (by rw [hml]; rfl) (Steps.refl _) (argsL := [(.long ph)]) (rest := []) (lenOf pd_3861963207 rfl) rfl (by show 2 * 0 + _ ≤ _; exact Nat.le_of_eq rfl) (hb hby d_prog_18_method_6_code_28) (fun _ _ => ⟨rfl, e20z, (by decide : 9 + 1 ≤ _), (by decide : 980 + 300 ≤ _)⟩)
  dsimp only [Pt.U, Pt.locs, Pt.cells, Pt.slots] at X21z l21z y21z z21z st21z hQ21z
  subst l21z y21z z21z
  obtain ⟨b2_21z, k2_21z, tl2_21z, rfl, NQ21z, K21zq, r21z_0, r21z_1, r21z_2, r21z_3, r21z_4, r21z_5, r21z_6, r21z_7, r21z_8⟩ := hQ21z
  refine own_tr st21z ?_
  have N21z := Fr.app N17z NQ21z
  have O22z := own_ext_keep O18z K21zq (allS fr_b1z (allS r17z_4 all0))
  have K22z := K18z.trans K21zq (allS (Or.inr lz_b1z) (allS (dd_b2_17z.elim (fun e => e.symm ▸ (dd_b2_11z.elim (fun e => e.symm ▸ (dd_b2_7z.elim (fun e => e.symm ▸ (Or.inr lz_b_3z)) (fun q => Or.inr q))) (fun q => Or.inr q))) (fun q => Or.inr q)) all0))
  have Sn22z := Nat.le_trans Sn18z K21zq.1
  have CR22z := CR18z.trans (CHr.keep K21zq (allS sf18z_b1z (allS sf_b2_17z all0)) CR18z.1)
  have sf22z_b1z := Jvm.RoadKit.Safe.keep K21zq (allS sf18z_b1z (allS sf_b2_17z all0)) CR18z.1 sf18z_b1z
  have sf22z_b2_17z := Jvm.RoadKit.Safe.keep K21zq (allS sf18z_b1z (allS sf_b2_17z all0)) CR18z.1 sf_b2_17z
  have dd_b2_21z : b2_21z = b2_17z ∨ h0.size ≤ b2_21z := r21z_6.imp id (fun q => Nat.le_trans K18z.1 q)
  have sf_b2_21z := Jvm.RoadKit.Safe.keep K21zq (allS sf18z_b1z (allS sf_b2_17z all0)) CR18z.1 (r21z_6.elim (fun e => e.symm ▸ sf_b2_17z) (fun q => Jvm.RoadKit.Safe.new (EL := own_EL) (vm := T13z.vm) (Z := Z) q))
  have ne_st_b2_21z : st ≠ b2_21z := r21z_6.elim (fun e => e ▸ ne_st_b2_17z) (fun q => Nat.ne_of_lt (Nat.lt_of_lt_of_le (f16z.keep K17zq).lt q))
  have ne_b1z_b2_21z : b1z ≠ b2_21z := r21z_6.elim (fun e => e ▸ r17z_7) (fun q => Nat.ne_of_lt (Nat.lt_of_lt_of_le (f15z.keep K17zq).lt q))
  show own_G p e below (T21z.setTop (mkF m 31 #[.val (.ref st)] [(.ref b1z)])) _
  obtain ⟨a23z, T23z, h23z, k23z, b23z, kb23z, X23z, e23z, E23z, Si23z, Sn23z, hZ23z, hown23z, Le23z, Lc23z, Lv23z, La23z, -, -, CQ23z, -, ne23z, st23z⟩ := ldcCH X21z hx hZ13z hown13z (own_hw hw 124 rfl) (own_wS hw) (rfl : T21z.heap = _) Si13z Sn22z (own_EW hw) (List.mem_of_getElem? (i := 2) rfl) CR22z.1 (vs := (own_cv own_t2)) (z := 12) ⟨by decide, rfl⟩ (by decide) (by decide) (g := (mkF m 31 #[.val (.ref st)] [(.ref b1z)])) rfl (hb hby d_prog_18_method_6_code_31) (n := 48) (by decide) (by decide) (by decide) (by decide)
  refine own_go st23z ?_
  have O24z := own_ext_trans O22z E23z
  have K24z := K22z.ext E23z
  have CR24z := CR22z.trans CQ23z
  have sf24z_b1z := CQ23z.safe ((f15z.keep K17zq).keep K21zq).lt sf22z_b1z
  have sf24z_b2_21z := CQ23z.safe r21z_5.lt sf_b2_21z
  have ne_b1z_a23z : b1z ≠ a23z := (ne23z _ sf24z_b1z).1
  have ne_b1z_b23z : b1z ≠ b23z := (ne23z _ sf24z_b1z).2
  have ne_b2_21z_a23z : b2_21z ≠ a23z := (ne23z _ sf24z_b2_21z).1
  have ne_b2_21z_b23z : b2_21z ≠ b23z := (ne23z _ sf24z_b2_21z).2
  have Lb23z : own_A Z h23z b23z kb23z .byte (own_cv own_t2) := own_A.of_arv La23z (by decide)
  show own_G p e below (T23z.setTop (mkF m 33 #[.val (.ref st)] [(.ref a23z), (.ref b1z)])) _
  obtain ⟨cq25z, kq25z, qa25z, qb25z, qc25z⟩ := isOf hZ23z e23z (((f15z.keep K17zq).keep K21zq).ext E23z)
  obtain ⟨_, _, ⟨T25z, L25z, k25z, n25z⟩, -, X25z, ⟨Lc25z, hQ25z, l25z, y25z, z25z⟩, st25z⟩ := X23z.virtualBack hx (y := own_m12) (z := own_m12) hown23z (own_mw hZ23z hw 48 rfl) (own_mw hZ23z hw 49 rfl) (notFace_of_selects (args := #[]) (own_mw hZ23z hw 51 rfl)) (own_mw hZ23z hw 51 rfl) (own_mw hZ23z hw 50 rfl) (by decide) (backOf (W := 0) (own_saps l Z a0 hw [] b1z b2_21z k2_21z ((((own_nil ++ own_t0) ++ (own_sl pl)) ++ own_t1) ++ (own_sl ph)) tl2_21z a23z b23z kb23z own_t2 cz h23z O24z (((f15z.keep K17zq).keep K21zq).ext E23z) fr_b1z r21z_4 (r21z_5.ext E23z) (r21z_0.ext E23z) (r21z_1.ext E23z) (r21z_2.ext E23z) (r21z_3.ext E23z) r21z_7 r21z_8 Le23z Lv23z Lc23z Lb23z (by decide) (by have a0 := own_sl_le pl; have a1 := own_sl_le ph; have a2 := own_sl_le pe; have a3 := own_sl_le pz.toInt64; simp only [own_l0, own_l1, own_l2, own_l3, own_lnil, List.length_append] <;> omega) (Ne.symm ne_b2_21z_b23z) ne_b1z_b23z (Ne.symm ne_b1z_a23z) (Ne.symm ne_b2_21z_a23z) S_CS hcs) hZ23z (own_hw hw 52 rfl) (own_hw hw 24 rfl) (by decide) (by decide)) qa25z qc25z (g := (mkF m 33 #[.val (.ref st)] [(.ref a23z), (.ref b1z)])) rfl (by rw [hml]; rfl) (Steps.refl _) (argsL := [(.ref a23z)]) (rest := []) (lenOf pd_35207773 rfl) rfl (by show 2 * 0 + _ ≤ _; exact Nat.le_of_eq rfl) (hb hby d_prog_18_method_6_code_33) (fun _ _ => ⟨rfl, e23z, (by decide : 12 + 1 ≤ _), (by decide : 1332 + 300 ≤ _)⟩)
  dsimp only [Pt.U, Pt.locs, Pt.cells, Pt.slots] at X25z l25z y25z z25z st25z hQ25z
  subst l25z y25z z25z
  obtain ⟨b2_25z, k2_25z, tl2_25z, rfl, NQ25z, K25zq, r25z_0, r25z_1, r25z_2, r25z_3, r25z_4, r25z_5, r25z_6, r25z_7, r25z_8⟩ := hQ25z
  refine own_tr st25z ?_
  have N25z := Fr.app N21z NQ25z
  have O26z := own_ext_keep O24z K25zq (allS fr_b1z (allS r21z_4 all0))
  have K26z := K24z.trans K25zq (allS (Or.inr lz_b1z) (allS (dd_b2_21z.elim (fun e => e.symm ▸ (dd_b2_17z.elim (fun e => e.symm ▸ (dd_b2_11z.elim (fun e => e.symm ▸ (dd_b2_7z.elim (fun e => e.symm ▸ (Or.inr lz_b_3z)) (fun q => Or.inr q))) (fun q => Or.inr q))) (fun q => Or.inr q))) (fun q => Or.inr q)) all0))
  have Sn26z := Nat.le_trans Sn23z K25zq.1
  have CR26z := CR24z.trans (CHr.keep K25zq (allS sf24z_b1z (allS sf24z_b2_21z all0)) CR24z.1)
  have sf26z_b1z := Jvm.RoadKit.Safe.keep K25zq (allS sf24z_b1z (allS sf24z_b2_21z all0)) CR24z.1 sf24z_b1z
  have sf26z_b2_21z := Jvm.RoadKit.Safe.keep K25zq (allS sf24z_b1z (allS sf24z_b2_21z all0)) CR24z.1 sf24z_b2_21z
  have dd_b2_25z : b2_25z = b2_21z ∨ h0.size ≤ b2_25z := r25z_6.imp id (fun q => Nat.le_trans K24z.1 q)
  have sf_b2_25z := Jvm.RoadKit.Safe.keep K25zq (allS sf24z_b1z (allS sf24z_b2_21z all0)) CR24z.1 (r25z_6.elim (fun e => e.symm ▸ sf24z_b2_21z) (fun q => Jvm.RoadKit.Safe.new (EL := own_EL) (vm := T23z.vm) (Z := Z) q))
  have ne_st_b2_25z : st ≠ b2_25z := r25z_6.elim (fun e => e ▸ ne_st_b2_21z) (fun q => Nat.ne_of_lt (Nat.lt_of_lt_of_le (((f16z.keep K17zq).keep K21zq).ext E23z).lt q))
  have ne_b1z_b2_25z : b1z ≠ b2_25z := r25z_6.elim (fun e => e ▸ r21z_7) (fun q => Nat.ne_of_lt (Nat.lt_of_lt_of_le (((f15z.keep K17zq).keep K21zq).ext E23z).lt q))
  have ne_a23z_b2_25z : a23z ≠ b2_25z := r25z_6.elim (fun e => e ▸ (Ne.symm ne_b2_21z_a23z)) (fun q => Nat.ne_of_lt (Nat.lt_of_lt_of_le Le23z.lt q))
  have ne_b23z_b2_25z : b23z ≠ b2_25z := r25z_6.elim (fun e => e ▸ (Ne.symm ne_b2_21z_b23z)) (fun q => Nat.ne_of_lt (Nat.lt_of_lt_of_le Lb23z.lt q))
  show own_G p e below (T25z.setTop (mkF m 36 #[.val (.ref st)] [(.ref b1z)])) _
  refine own_go (fun t k => XS.aloadN X25z.here hx rfl (hb hby d_prog_18_method_6_code_36) rfl rfl k) ?_
  have f27z := ((((((((((q3.ext E1z).keep K3zq (by simp only [List.mem_cons, List.not_mem_nil, or_false, not_or]; exact ne_st_b1z)).ext E5z).keep K7zq (by simp only [List.mem_cons, List.not_mem_nil, or_false, not_or]; exact ⟨ne_st_b1z, ne_st_b_3z⟩)).keep K11zq (by simp only [List.mem_cons, List.not_mem_nil, or_false, not_or]; exact ⟨ne_st_b1z, ne_st_b2_7z⟩)).ext E13z).keep K17zq (by simp only [List.mem_cons, List.not_mem_nil, or_false, not_or]; exact ⟨ne_st_b1z, ne_st_b2_11z⟩)).keep K21zq (by simp only [List.mem_cons, List.not_mem_nil, or_false, not_or]; exact ⟨ne_st_b1z, ne_st_b2_17z⟩)).ext E23z).keep K25zq (by simp only [List.mem_cons, List.not_mem_nil, or_false, not_or]; exact ⟨ne_st_b1z, ne_st_b2_21z⟩))
  obtain ⟨T28z, X28z, e28z, st28z⟩ := getF X25z hx hZ23z hown23z (host := "") (Or.inl (own_hw hw 13 rfl)) Via.refl rfl f27z (g := (mkF m 37 #[.val (.ref st)] [(.ref st), (.ref b1z)])) rfl rfl (hb hby d_prog_18_method_6_code_37)
  refine own_go st28z ?_
  obtain ⟨cq29z, kq29z, qa29z, qb29z, qc29z⟩ := isOf hZ23z e28z ((((f15z.keep K17zq).keep K21zq).ext E23z).keep K25zq)
  obtain ⟨_, _, ⟨T29z, L29z, k29z, n29z⟩, -, X29z, ⟨Lc29z, hQ29z, l29z, y29z, z29z⟩, st29z⟩ := X28z.virtualBack hx (y := own_m16) (z := own_m16) hown23z (own_mw hZ23z hw 98 rfl) (own_mw hZ23z hw 99 rfl) (notFace_of_selects (args := #[]) (own_mw hZ23z hw 101 rfl)) (own_mw hZ23z hw 101 rfl) (own_mw hZ23z hw 100 rfl) (by decide) (backOf (W := 0) (own_sapJ l Z a0 hw [] b1z b2_25z k2_25z (((((own_nil ++ own_t0) ++ (own_sl pl)) ++ own_t1) ++ (own_sl ph)) ++ own_t2) tl2_25z pe cz T25z.heap O26z ((((f15z.keep K17zq).keep K21zq).ext E23z).keep K25zq) fr_b1z r25z_4 r25z_5 r25z_0 r25z_1 r25z_2 r25z_3 r25z_7 r25z_8 (by have a0 := own_sl_le pl; have a1 := own_sl_le ph; have a2 := own_sl_le pe; have a3 := own_sl_le pz.toInt64; simp only [own_l0, own_l1, own_l2, own_l3, own_lnil, List.length_append] <;> omega) DT S_CS hcs) hZ23z (own_hw hw 102 rfl) (own_hw hw 24 rfl) (by decide) (by decide)) qa29z qc29z (g := (mkF m 40 #[.val (.ref st)] [(.long pe), (.ref b1z)])) rfl (by rw [hml]; rfl) (Steps.refl _) (argsL := [(.long pe)]) (rest := []) (lenOf pd_3861963207 rfl) rfl (by show 2 * 0 + _ ≤ _; exact Nat.le_of_eq rfl) (hb hby d_prog_18_method_6_code_40) (fun _ _ => ⟨rfl, e28z, (by decide : 13 + 1 ≤ _), (by decide : 1632 + 300 ≤ _)⟩)
  dsimp only [Pt.U, Pt.locs, Pt.cells, Pt.slots] at X29z l29z y29z z29z st29z hQ29z
  subst l29z y29z z29z
  obtain ⟨b2_29z, k2_29z, tl2_29z, rfl, NQ29z, K29zq, r29z_0, r29z_1, r29z_2, r29z_3, r29z_4, r29z_5, r29z_6, r29z_7, r29z_8⟩ := hQ29z
  refine own_tr st29z ?_
  have N29z := Fr.app N25z NQ29z
  have O30z := own_ext_keep O26z K29zq (allS fr_b1z (allS r25z_4 all0))
  have K30z := K26z.trans K29zq (allS (Or.inr lz_b1z) (allS (dd_b2_25z.elim (fun e => e.symm ▸ (dd_b2_21z.elim (fun e => e.symm ▸ (dd_b2_17z.elim (fun e => e.symm ▸ (dd_b2_11z.elim (fun e => e.symm ▸ (dd_b2_7z.elim (fun e => e.symm ▸ (Or.inr lz_b_3z)) (fun q => Or.inr q))) (fun q => Or.inr q))) (fun q => Or.inr q))) (fun q => Or.inr q))) (fun q => Or.inr q)) all0))
  have Sn30z := Nat.le_trans Sn26z K29zq.1
  have CR30z := CR26z.trans (CHr.keep K29zq (allS sf26z_b1z (allS sf_b2_25z all0)) CR26z.1)
  have sf30z_b1z := Jvm.RoadKit.Safe.keep K29zq (allS sf26z_b1z (allS sf_b2_25z all0)) CR26z.1 sf26z_b1z
  have sf30z_b2_25z := Jvm.RoadKit.Safe.keep K29zq (allS sf26z_b1z (allS sf_b2_25z all0)) CR26z.1 sf_b2_25z
  have dd_b2_29z : b2_29z = b2_25z ∨ h0.size ≤ b2_29z := r29z_6.imp id (fun q => Nat.le_trans K26z.1 q)
  have sf_b2_29z := Jvm.RoadKit.Safe.keep K29zq (allS sf26z_b1z (allS sf_b2_25z all0)) CR26z.1 (r29z_6.elim (fun e => e.symm ▸ sf_b2_25z) (fun q => Jvm.RoadKit.Safe.new (EL := own_EL) (vm := T23z.vm) (Z := Z) q))
  have ne_st_b2_29z : st ≠ b2_29z := r29z_6.elim (fun e => e ▸ ne_st_b2_25z) (fun q => Nat.ne_of_lt (Nat.lt_of_lt_of_le ((((f16z.keep K17zq).keep K21zq).ext E23z).keep K25zq).lt q))
  have ne_b1z_b2_29z : b1z ≠ b2_29z := r29z_6.elim (fun e => e ▸ r25z_7) (fun q => Nat.ne_of_lt (Nat.lt_of_lt_of_le ((((f15z.keep K17zq).keep K21zq).ext E23z).keep K25zq).lt q))
  show own_G p e below (T29z.setTop (mkF m 43 #[.val (.ref st)] [(.ref b1z)])) _
  obtain ⟨a31z, T31z, h31z, k31z, b31z, kb31z, X31z, e31z, E31z, Si31z, Sn31z, hZ31z, hown31z, Le31z, Lc31z, Lv31z, La31z, -, -, CQ31z, -, ne31z, st31z⟩ := ldcCH X29z hx hZ23z hown23z (own_hw hw 151 rfl) (own_wS hw) (rfl : T29z.heap = _) Si23z Sn30z (own_EW hw) (List.mem_of_getElem? (i := 3) rfl) CR30z.1 (vs := (own_cv own_t3)) (z := 7) ⟨by decide, rfl⟩ (by decide) (by decide) (g := (mkF m 43 #[.val (.ref st)] [(.ref b1z)])) rfl (hb hby d_prog_18_method_6_code_43) (n := 28) (by decide) (by decide) (by decide) (by decide)
  refine own_go st31z ?_
  have f32z := (((((f15z.keep K17zq).keep K21zq).ext E23z).keep K25zq).keep K29zq)
  have O33z := own_ext_trans O30z E31z
  have K33z := K30z.ext E31z
  have CR33z := CR30z.trans CQ31z
  have sf33z_b1z := CQ31z.safe f32z.lt sf30z_b1z
  have sf33z_b2_29z := CQ31z.safe r29z_5.lt sf_b2_29z
  have ne_b1z_a31z : b1z ≠ a31z := (ne31z _ sf33z_b1z).1
  have ne_b1z_b31z : b1z ≠ b31z := (ne31z _ sf33z_b1z).2
  have ne_b2_29z_a31z : b2_29z ≠ a31z := (ne31z _ sf33z_b2_29z).1
  have ne_b2_29z_b31z : b2_29z ≠ b31z := (ne31z _ sf33z_b2_29z).2
  have Lb31z : own_A Z h31z b31z kb31z .byte (own_cv own_t3) := own_A.of_arv La31z (by decide)
  show own_G p e below (T31z.setTop (mkF m 45 #[.val (.ref st)] [(.ref a31z), (.ref b1z)])) _
  have f34z := ((((((f16z.keep K17zq).keep K21zq).ext E23z).keep K25zq).keep K29zq).ext E31z)
  obtain ⟨cq35z, kq35z, qa35z, qb35z, qc35z⟩ := isOf hZ31z e31z (f32z.ext E31z)
  obtain ⟨_, _, ⟨T35z, L35z, k35z, n35z⟩, -, X35z, ⟨Lc35z, hQ35z, l35z, y35z, z35z⟩, st35z⟩ := X31z.virtualBack hx (y := own_m12) (z := own_m12) hown31z (own_mw hZ31z hw 48 rfl) (own_mw hZ31z hw 49 rfl) (notFace_of_selects (args := #[]) (own_mw hZ31z hw 51 rfl)) (own_mw hZ31z hw 51 rfl) (own_mw hZ31z hw 50 rfl) (by decide) (backOf (W := 0) (own_saps l Z a0 hw [] b1z b2_29z k2_29z ((((((own_nil ++ own_t0) ++ (own_sl pl)) ++ own_t1) ++ (own_sl ph)) ++ own_t2) ++ (own_sl pe)) tl2_29z a31z b31z kb31z own_t3 cz h31z O33z (f32z.ext E31z) fr_b1z r29z_4 (r29z_5.ext E31z) (r29z_0.ext E31z) (r29z_1.ext E31z) (r29z_2.ext E31z) (r29z_3.ext E31z) r29z_7 r29z_8 Le31z Lv31z Lc31z Lb31z (by decide) (by have a0 := own_sl_le pl; have a1 := own_sl_le ph; have a2 := own_sl_le pe; have a3 := own_sl_le pz.toInt64; simp only [own_l0, own_l1, own_l2, own_l3, own_lnil, List.length_append] <;> omega) (Ne.symm ne_b2_29z_b31z) ne_b1z_b31z (Ne.symm ne_b1z_a31z) (Ne.symm ne_b2_29z_a31z) S_CS hcs) hZ31z (own_hw hw 52 rfl) (own_hw hw 24 rfl) (by decide) (by decide)) qa35z qc35z (g := (mkF m 45 #[.val (.ref st)] [(.ref a31z), (.ref b1z)])) rfl (by rw [hml]; rfl) (Steps.refl _) (argsL := [(.ref a31z)]) (rest := []) (lenOf pd_35207773 rfl) rfl (by show 2 * 0 + _ ≤ _; exact Nat.le_of_eq rfl) (hb hby d_prog_18_method_6_code_45) (fun _ _ => ⟨rfl, e31z, (by decide : 16 + 1 ≤ _), (by decide : 1964 + 300 ≤ _)⟩)
  dsimp only [Pt.U, Pt.locs, Pt.cells, Pt.slots] at X35z l35z y35z z35z st35z hQ35z
  subst l35z y35z z35z
  obtain ⟨b2_35z, k2_35z, tl2_35z, rfl, NQ35z, K35zq, r35z_0, r35z_1, r35z_2, r35z_3, r35z_4, r35z_5, r35z_6, r35z_7, r35z_8⟩ := hQ35z
  refine own_tr st35z ?_
  have N35z := Fr.app N29z NQ35z
  have O36z := own_ext_keep O33z K35zq (allS fr_b1z (allS r29z_4 all0))
  have K36z := K33z.trans K35zq (allS (Or.inr lz_b1z) (allS (dd_b2_29z.elim (fun e => e.symm ▸ (dd_b2_25z.elim (fun e => e.symm ▸ (dd_b2_21z.elim (fun e => e.symm ▸ (dd_b2_17z.elim (fun e => e.symm ▸ (dd_b2_11z.elim (fun e => e.symm ▸ (dd_b2_7z.elim (fun e => e.symm ▸ (Or.inr lz_b_3z)) (fun q => Or.inr q))) (fun q => Or.inr q))) (fun q => Or.inr q))) (fun q => Or.inr q))) (fun q => Or.inr q))) (fun q => Or.inr q)) all0))
  have Sn36z := Nat.le_trans Sn31z K35zq.1
  have CR36z := CR33z.trans (CHr.keep K35zq (allS sf33z_b1z (allS sf33z_b2_29z all0)) CR33z.1)
  have sf36z_b1z := Jvm.RoadKit.Safe.keep K35zq (allS sf33z_b1z (allS sf33z_b2_29z all0)) CR33z.1 sf33z_b1z
  have sf36z_b2_29z := Jvm.RoadKit.Safe.keep K35zq (allS sf33z_b1z (allS sf33z_b2_29z all0)) CR33z.1 sf33z_b2_29z
  have dd_b2_35z : b2_35z = b2_29z ∨ h0.size ≤ b2_35z := r35z_6.imp id (fun q => Nat.le_trans K33z.1 q)
  have sf_b2_35z := Jvm.RoadKit.Safe.keep K35zq (allS sf33z_b1z (allS sf33z_b2_29z all0)) CR33z.1 (r35z_6.elim (fun e => e.symm ▸ sf33z_b2_29z) (fun q => Jvm.RoadKit.Safe.new (EL := own_EL) (vm := T31z.vm) (Z := Z) q))
  have ne_st_b2_35z : st ≠ b2_35z := r35z_6.elim (fun e => e ▸ ne_st_b2_29z) (fun q => Nat.ne_of_lt (Nat.lt_of_lt_of_le f34z.lt q))
  have ne_b1z_b2_35z : b1z ≠ b2_35z := r35z_6.elim (fun e => e ▸ r29z_7) (fun q => Nat.ne_of_lt (Nat.lt_of_lt_of_le (f32z.ext E31z).lt q))
  have ne_a31z_b2_35z : a31z ≠ b2_35z := r35z_6.elim (fun e => e ▸ (Ne.symm ne_b2_29z_a31z)) (fun q => Nat.ne_of_lt (Nat.lt_of_lt_of_le Le31z.lt q))
  have ne_b31z_b2_35z : b31z ≠ b2_35z := r35z_6.elim (fun e => e ▸ (Ne.symm ne_b2_29z_b31z)) (fun q => Nat.ne_of_lt (Nat.lt_of_lt_of_le Lb31z.lt q))
  show own_G p e below (T35z.setTop (mkF m 48 #[.val (.ref st)] [(.ref b1z)])) _
  refine own_go (fun t k => XS.aloadN X35z.here hx rfl (hb hby d_prog_18_method_6_code_48) rfl rfl k) ?_
  have f37z := (((((((((((((q4.ext E1z).keep K3zq (by simp only [List.mem_cons, List.not_mem_nil, or_false, not_or]; exact ne_st_b1z)).ext E5z).keep K7zq (by simp only [List.mem_cons, List.not_mem_nil, or_false, not_or]; exact ⟨ne_st_b1z, ne_st_b_3z⟩)).keep K11zq (by simp only [List.mem_cons, List.not_mem_nil, or_false, not_or]; exact ⟨ne_st_b1z, ne_st_b2_7z⟩)).ext E13z).keep K17zq (by simp only [List.mem_cons, List.not_mem_nil, or_false, not_or]; exact ⟨ne_st_b1z, ne_st_b2_11z⟩)).keep K21zq (by simp only [List.mem_cons, List.not_mem_nil, or_false, not_or]; exact ⟨ne_st_b1z, ne_st_b2_17z⟩)).ext E23z).keep K25zq (by simp only [List.mem_cons, List.not_mem_nil, or_false, not_or]; exact ⟨ne_st_b1z, ne_st_b2_21z⟩)).keep K29zq (by simp only [List.mem_cons, List.not_mem_nil, or_false, not_or]; exact ⟨ne_st_b1z, ne_st_b2_25z⟩)).ext E31z).keep K35zq (by simp only [List.mem_cons, List.not_mem_nil, or_false, not_or]; exact ⟨ne_st_b1z, ne_st_b2_29z⟩))
  obtain ⟨T38z, X38z, e38z, st38z⟩ := getF X35z hx hZ31z hown31z (host := "") (Or.inl (own_hw hw 15 rfl)) Via.refl rfl f37z (g := (mkF m 49 #[.val (.ref st)] [(.ref st), (.ref b1z)])) rfl rfl (hb hby d_prog_18_method_6_code_49)
  refine own_go st38z ?_
  obtain ⟨cq39z, kq39z, qa39z, qb39z, qc39z⟩ := isOf hZ31z e38z ((f32z.ext E31z).keep K35zq)
  obtain ⟨_, _, ⟨T39z, L39z, k39z, n39z⟩, -, X39z, ⟨Lc39z, hQ39z, l39z, y39z, z39z⟩, st39z⟩ := X38z.virtualBack hx (y := own_m17) (z := own_m17) hown31z (own_mw hZ31z hw 152 rfl) (own_mw hZ31z hw 153 rfl) (notFace_of_selects (args := #[]) (own_mw hZ31z hw 155 rfl)) (own_mw hZ31z hw 155 rfl) (own_mw hZ31z hw 154 rfl) (by decide) (backOf (W := 0) (own_sapI l Z a0 hw [] b1z b2_35z k2_35z (((((((own_nil ++ own_t0) ++ (own_sl pl)) ++ own_t1) ++ (own_sl ph)) ++ own_t2) ++ (own_sl pe)) ++ own_t3) tl2_35z pz cz T35z.heap O36z ((f32z.ext E31z).keep K35zq) fr_b1z r35z_4 r35z_5 r35z_0 r35z_1 r35z_2 r35z_3 r35z_7 r35z_8 (by have a0 := own_sl_le pl; have a1 := own_sl_le ph; have a2 := own_sl_le pe; have a3 := own_sl_le pz.toInt64; simp only [own_l0, own_l1, own_l2, own_l3, own_lnil, List.length_append] <;> omega) DT S_CS hcs) hZ31z (own_hw hw 156 rfl) (own_hw hw 24 rfl) (by decide) (by decide)) qa39z qc39z (g := (mkF m 52 #[.val (.ref st)] [(.int pz), (.ref b1z)])) rfl (by rw [hml]; rfl) (Steps.refl _) (argsL := [(.int pz)]) (rest := []) (lenOf pd_3535260294 rfl) rfl (by show 2 * 0 + _ ≤ _; exact Nat.le_of_eq rfl) (hb hby d_prog_18_method_6_code_52) (fun _ _ => ⟨rfl, e38z, (by decide : 17 + 1 ≤ _), (by decide : 2264 + 300 ≤ _)⟩)
  dsimp only [Pt.U, Pt.locs, Pt.cells, Pt.slots] at X39z l39z y39z z39z st39z hQ39z
  subst l39z y39z z39z
  obtain ⟨b2_39z, k2_39z, tl2_39z, rfl, NQ39z, K39zq, r39z_0, r39z_1, r39z_2, r39z_3, r39z_4, r39z_5, r39z_6, r39z_7, r39z_8⟩ := hQ39z
  refine own_tr st39z ?_
  have N39z := Fr.app N35z NQ39z
  have O40z := own_ext_keep O36z K39zq (allS fr_b1z (allS r35z_4 all0))
  have K40z := K36z.trans K39zq (allS (Or.inr lz_b1z) (allS (dd_b2_35z.elim (fun e => e.symm ▸ (dd_b2_29z.elim (fun e => e.symm ▸ (dd_b2_25z.elim (fun e => e.symm ▸ (dd_b2_21z.elim (fun e => e.symm ▸ (dd_b2_17z.elim (fun e => e.symm ▸ (dd_b2_11z.elim (fun e => e.symm ▸ (dd_b2_7z.elim (fun e => e.symm ▸ (Or.inr lz_b_3z)) (fun q => Or.inr q))) (fun q => Or.inr q))) (fun q => Or.inr q))) (fun q => Or.inr q))) (fun q => Or.inr q))) (fun q => Or.inr q))) (fun q => Or.inr q)) all0))
  have Sn40z := Nat.le_trans Sn36z K39zq.1
  have CR40z := CR36z.trans (CHr.keep K39zq (allS sf36z_b1z (allS sf_b2_35z all0)) CR36z.1)
  have sf40z_b1z := Jvm.RoadKit.Safe.keep K39zq (allS sf36z_b1z (allS sf_b2_35z all0)) CR36z.1 sf36z_b1z
  have sf40z_b2_35z := Jvm.RoadKit.Safe.keep K39zq (allS sf36z_b1z (allS sf_b2_35z all0)) CR36z.1 sf_b2_35z
  have dd_b2_39z : b2_39z = b2_35z ∨ h0.size ≤ b2_39z := r39z_6.imp id (fun q => Nat.le_trans K36z.1 q)
  have sf_b2_39z := Jvm.RoadKit.Safe.keep K39zq (allS sf36z_b1z (allS sf_b2_35z all0)) CR36z.1 (r39z_6.elim (fun e => e.symm ▸ sf_b2_35z) (fun q => Jvm.RoadKit.Safe.new (EL := own_EL) (vm := T31z.vm) (Z := Z) q))
  have ne_st_b2_39z : st ≠ b2_39z := r39z_6.elim (fun e => e ▸ ne_st_b2_35z) (fun q => Nat.ne_of_lt (Nat.lt_of_lt_of_le (f34z.keep K35zq).lt q))
  have ne_b1z_b2_39z : b1z ≠ b2_39z := r39z_6.elim (fun e => e ▸ r35z_7) (fun q => Nat.ne_of_lt (Nat.lt_of_lt_of_le ((f32z.ext E31z).keep K35zq).lt q))
  show own_G p e below (T39z.setTop (mkF m 55 #[.val (.ref st)] [(.ref b1z)])) _
  obtain ⟨cq41z, kq41z, qa41z, qb41z, qc41z⟩ := isOf hZ31z (rfl : T39z.heap = _) (((f32z.ext E31z).keep K35zq).keep K39zq)
  obtain ⟨_, _, ⟨T41z, L41z, k41z, n41z⟩, -, X41z, ⟨Lc41z, hQ41z, l41z, y41z, z41z⟩, st41z⟩ := X39z.virtualBack hx (y := own_m26) (z := own_m26) hown31z (own_mw hZ31z hw 168 rfl) (own_mw hZ31z hw 169 rfl) (notFace_of_selects (args := #[]) (own_mw hZ31z hw 171 rfl)) (own_mw hZ31z hw 171 rfl) (own_mw hZ31z hw 170 rfl) (by decide) (backOf (W := 0) (own_tos l Z a0 hw [] b1z b2_39z k2_39z ((((((((own_nil ++ own_t0) ++ (own_sl pl)) ++ own_t1) ++ (own_sl ph)) ++ own_t2) ++ (own_sl pe)) ++ own_t3) ++ (own_sl pz.toInt64)) tl2_39z cz T39z.heap O40z (((f32z.ext E31z).keep K35zq).keep K39zq) fr_b1z r39z_4 r39z_5 r39z_0 r39z_1 r39z_2 r39z_3 r39z_7 r39z_8 S_CS hcs) hZ31z (own_hw hw 172 rfl) (own_hw hw 24 rfl) (by decide) (by decide)) qa41z qc41z (g := (mkF m 55 #[.val (.ref st)] [(.ref b1z)])) rfl (by rw [hml]; rfl) (Steps.refl _) (argsL := []) (rest := []) (lenOf pd_2047462102 rfl) rfl (by show 2 * 0 + _ ≤ _; exact Nat.le_of_eq rfl) (hb hby d_prog_18_method_6_code_55) (fun _ _ => ⟨rfl, rfl, (by decide : 18 + 2 ≤ _), (by decide : 2564 + 304 ≤ _)⟩)
  dsimp only [Pt.U, Pt.locs, Pt.cells, Pt.slots] at X41z l41z y41z z41z st41z hQ41z
  subst l41z y41z z41z
  obtain ⟨a_41z, r_41z, kr_41z, rfl, NQ41z, K41zq, r41z_0, r41z_1, r41z_2, r41z_3, r41z_4, r41z_5, r41z_6⟩ := hQ41z
  refine own_tr st41z ?_
  have N41z := Fr.app N39z NQ41z
  have O42z := own_ext_keep O40z K41zq all0
  have K42z := K40z.trans K41zq all0
  have Sn42z := Nat.le_trans Sn40z K41zq.1
  have CR42z := CR40z.trans (CHr.keep K41zq all0 CR40z.1)
  have sf42z_b1z := Jvm.RoadKit.Safe.keep K41zq all0 CR40z.1 sf40z_b1z
  have sf42z_b2_39z := Jvm.RoadKit.Safe.keep K41zq all0 CR40z.1 sf_b2_39z
  have lz_a_41z : h0.size ≤ a_41z := Nat.le_trans K40z.1 r41z_2
  have ne_st_a_41z : st ≠ a_41z := Nat.ne_of_lt (Nat.lt_of_lt_of_le ((f34z.keep K35zq).keep K39zq).lt r41z_2)
  have ne_b1z_a_41z : b1z ≠ a_41z := Nat.ne_of_lt (Nat.lt_of_lt_of_le (((f32z.ext E31z).keep K35zq).keep K39zq).lt r41z_2)
  have ne_b2_39z_a_41z : b2_39z ≠ a_41z := Nat.ne_of_lt (Nat.lt_of_lt_of_le r39z_3.lt r41z_2)
  have sf_a_41z := Jvm.RoadKit.Safe.keep K41zq all0 CR40z.1 (Jvm.RoadKit.Safe.new (EL := own_EL) (vm := T31z.vm) (Z := Z) r41z_2)
  have lz_r_41z : h0.size ≤ r_41z := Nat.le_trans K40z.1 r41z_6
  have ne_st_r_41z : st ≠ r_41z := Nat.ne_of_lt (Nat.lt_of_lt_of_le ((f34z.keep K35zq).keep K39zq).lt r41z_6)
  have ne_b1z_r_41z : b1z ≠ r_41z := Nat.ne_of_lt (Nat.lt_of_lt_of_le (((f32z.ext E31z).keep K35zq).keep K39zq).lt r41z_6)
  have ne_b2_39z_r_41z : b2_39z ≠ r_41z := Nat.ne_of_lt (Nat.lt_of_lt_of_le r39z_3.lt r41z_6)
  have sf_r_41z := Jvm.RoadKit.Safe.keep K41zq all0 CR40z.1 (Jvm.RoadKit.Safe.new (EL := own_EL) (vm := T31z.vm) (Z := Z) r41z_6)
  show own_G p e below (T41z.setTop (mkF m 58 #[.val (.ref st)] [(.ref a_41z)])) _
  exact own_retH X41z Si31z Sn42z hx Bd.returns rfl (Or.inr (Or.inr (Or.inr (Or.inr ⟨rfl, rfl, rfl⟩)))) (hb hby d_prog_18_method_6_code_58) hlk (Nat.le_of_ble_eq_true rfl) (Nat.le_of_ble_eq_true rfl) (by show Q_own_ts Z st pl ph pe pz cz h0 _ T41z.heap _; exact ⟨a_41z, r_41z, kr_41z, rfl, N41z, K42z, r41z_0, lz_a_41z, r41z_3, r41z_4, r41z_5, lz_r_41z⟩) (by rw [hh]; exact CR42z.trans (CHv.at X41z hZ31z (own_EW hw) CR42z.1))
theorem ef_own_law (m : MethodId) (x0 : Int64) (x1 : Int64) (x2 : Int64) (x3 : Int32) : entryFrame m #[(.long x0), (.long x1), (.long x2), (.int x3)] maxLocals = mkF m 0 #[.val (.long x0), .second, .val (.long x1), .second, .val (.long x2), .second, .val (.int x3), .unset, .unset, .unset] [] := by first | (simp [entryFrame, mkF, argsToLocals, Value.category, maxLocals]; done) | rfl
theorem pf_own_law : plainFor x = true := plainFor_of_name (by simp [plainName, overriddenIn, x])
theorem pd_3168518035 : parseMethodDescriptor "(JJJI)V" = some ⟨[.long, .long, .long, .int], none⟩ := by decide +kernel
theorem pd_2755322120 : parseMethodDescriptor "(Ljava/lang/String;ILjava/lang/String;)I" = some ⟨[(.object "java/lang/String"), .int, (.object "java/lang/String")], some .int⟩ := by decide +kernel
theorem pd_1719627602 : parseMethodDescriptor "(Ljava/lang/String;IJ)I" = some ⟨[(.object "java/lang/String"), .int, .long], some .int⟩ := by decide +kernel
def Q_own_law (Z : State) (p0 : Int64) (p1 : Int64) (p2 : Int64) (p3 : Int32) (cz : Int32) (fm : Value) (h0 : Heap) (v : Option Value) (h : Heap) (L : List Loc) : Prop := v = some (.int (1 : Int32)) ∧ Fr Z.heap.size L ∧ Keep h0 h []
set_option maxRecDepth 65536 in
set_option maxHeartbeats 40000000 in
theorem own_law (l : Launch) (Z : State) (a0 : Array Value) (hw : ∀ d ∈ tables_1, d.before a0 Z = true) (ws : List Jvm.Cond) (p0 : Int64) (p1 : Int64) (p2 : Int64) (p3 : Int32) (cz : Int32) (fm : Value) (h0 : Heap) (O0 : Ext Z.heap h0) (DT : own_DT Z) (S_CS : Sta Z Z.heap own_s2 own_s5 "Z" (.int cz)) (hcs : ¬ (cz = (0 : Int32))) (S_FM : Sta Z Z.heap own_s6 "SIOOBE_FORMATTER" "Ljava/util/function/BiFunction;" fm) (hfm : fm.isRef = true) :
    MetFree l x (head1 (Jvm.Cond.code x code maxLocals ret :: ws) room_1) (fun aa U => aa = #[(.long p0), (.long p1), (.long p2), (.int p3)] ∧ Z.Warmed39 U.vm ∧ U.heap = h0 ∧ CHv Z own_EL U.vm h0) (fun _ _ _ _ _ => True) (fun _ U o U' => ∃ v L, o = .returned v ∧ Q_own_law Z p0 p1 p2 p3 cz fm h0 v U'.heap L ∧ CHr Z own_EL U.vm U.heap U'.vm U'.heap ∧ ReturnedEndW U o U' L room_1.cells room_1.slots) := by
  refine MetFree.of_bodySF pf_own_law hisR ?_
  intro p e s m args below meth c s₁ Bd hml0 hP hK
  obtain ⟨rfl, hZ, hh, CH0⟩ := hP
  have hx := Bd.exec
  have hby := Bd.bytes
  have hlk := BodyLoose.notSynchronized Bd
  have hml : c.maxLocals = 10 := hml0
  have hown : s.vm.findClass own_s4 = some m.cls := findClass_of_methodNamed Bd.named
  have hnm := (name_of_methodNamed Bd.named Bd.method).1
  have X0 : Stand p l e room_1 s m #[(.long p0), (.long p1), (.long p2), (.int p3)] below meth c s₁ [] 0 0 := Stand.of_body Bd
  have e0 : s₁.heap = h0 := by rw [← hh, Bd.state]; rfl
  have N0 := Fr.nil Z.heap.size
  have K0 : Keep h0 h0 [] := Keep.refl _ _
  have Si0 : s.Since s.vm h0.size := (State.WarmedH.refl s).since h0.size
  have Sn0 : h0.size ≤ h0.size := Nat.le_refl _
  have hZ : Z.Warmed39 (s.setVm s.vm).vm := hZ
  have hown : (s.setVm s.vm).vm.findClass own_s4 = some m.cls := hown
  have X0 := (show Stand _ _ _ _ (s.setVm s.vm) _ _ _ _ _ _ _ _ _ from X0)
  have CR0 : CHr Z own_EL s.vm h0 s.vm h0 := CHr.refl CH0
  refine own_startH (Q := Q_own_law Z p0 p1 p2 p3 cz fm h0) (ef_own_law m (p0) (p1) (p2) (p3)) ?_
  show own_G p e below (s₁.setTop (mkF m 0 #[.val (.long p0), .second, .val (.long p1), .second, .val (.long p2), .second, .val (.int p3), .unset, .unset, .unset] [])) _
  obtain ⟨T1z, h1z, X1z, e1z, E1z, A1z, D1z, -, st1z⟩ := newO X0 hx hZ hown (own_hw hw 0 rfl) (own_hw hw 1 rfl) (own_hw hw 2 rfl) e0 (g := (mkF m 0 #[.val (.long p0), .second, .val (.long p1), .second, .val (.long p2), .second, .val (.int p3), .unset, .unset, .unset] [])) rfl (hb hby at_0) (by decide) (by decide)
  obtain ⟨b1z, g1z⟩ : ∃ z, z = h0.size := ⟨_, rfl⟩
  rw [← g1z] at A1z D1z st1z
  have fr_b1z : Z.heap.size ≤ b1z := g1z ▸ O0.1
  have lz_b1z : h0.size ≤ b1z := g1z ▸ K0.1
  have O2z := own_ext_trans O0 E1z
  have K2z := K0.ext E1z
  have Sn2z := Nat.le_trans Sn0 E1z.1
  have CR2z := CR0.trans (CHr.ext E1z CR0.1)
  have F1z_loads : Fld Z h1z b1z own_s1 "loads" "J" (.long (0 : Int64)) := D1z (Or.inr (own_hw hw 10 rfl)) (ty := .long) (by decide)
  have F1z_hits : Fld Z h1z b1z own_s1 "hits" "J" (.long (0 : Int64)) := D1z (Or.inr (own_hw hw 12 rfl)) (ty := .long) (by decide)
  have F1z_evictions : Fld Z h1z b1z own_s1 "evictions" "J" (.long (0 : Int64)) := D1z (Or.inr (own_hw hw 14 rfl)) (ty := .long) (by decide)
  have F1z_size : Fld Z h1z b1z own_s1 "size" "I" (.int (0 : Int32)) := D1z (Or.inr (own_hw hw 16 rfl)) (ty := .int) (by decide)
  refine own_go st1z ?_
  refine own_go (fun t k => XS.dup X1z.here hx rfl (hb hby at_3) rfl rfl k) ?_
  refine own_go (fun t k => XS.lloadN X1z.here hx rfl (hb hby at_4) rfl k) ?_
  show own_G p e below (T1z.setTop (mkF m 5 #[.val (.long p0), .second, .val (.long p1), .second, .val (.long p2), .second, .val (.int p3), .unset, .unset, .unset] [(.long p0), (.ref b1z), (.ref b1z)])) _
  refine own_go (fun t k => XS.lloadN X1z.here hx rfl (hb hby at_5) rfl k) ?_
  refine own_go (fun t k => XS.lload X1z.here hx rfl (hb hby at_6) rfl k) ?_
  refine own_go (fun t k => XS.iload X1z.here hx rfl (hb hby at_8) rfl k) ?_
  show own_G p e below (T1z.setTop (mkF m 10 #[.val (.long p0), .second, .val (.long p1), .second, .val (.long p2), .second, .val (.int p3), .unset, .unset, .unset] [(.int p3), (.long p2), (.long p1), (.long p0), (.ref b1z), (.ref b1z)])) _
  obtain ⟨_, _, ⟨T3z, L3z, k3z, n3z⟩, -, X3z, ⟨Lc3z, hQ3z, l3z, y3z, z3z⟩, st3z⟩ := X1z.specialBack hx (y := own_m40) rfl hown (own_mw hZ hw 3 rfl) (own_mw hZ hw 4 rfl) (own_mw hZ hw 5 rfl) (by decide) (backOf (W := 1) (own_sin l Z a0 hw [] b1z p0 p1 p2 p3 h1z O2z A1z fr_b1z F1z_loads F1z_hits F1z_evictions F1z_size) hZ (own_hw hw 5 rfl) (own_hw hw 2 rfl) (by decide) (by decide)) (g := (mkF m 10 #[.val (.long p0), .second, .val (.long p1), .second, .val (.long p2), .second, .val (.int p3), .unset, .unset, .unset] [(.int p3), (.long p2), (.long p1), (.long p0), (.ref b1z), (.ref b1z)])) rfl (by rw [hml]; rfl) (Steps.refl _) (a := b1z) (argsL := [(.long p0), (.long p1), (.long p2), (.int p3)]) (rest := [(.ref b1z)]) (lenOf pd_3168518035 rfl) rfl (by show 2 * 0 + _ ≤ _; exact Nat.le_of_eq rfl) (hb hby at_10) (fun _ _ => ⟨rfl, e1z, (by decide : 1 + 0 ≤ _), (by decide : 4 + 0 ≤ _)⟩)
  dsimp only [Pt.U, Pt.locs, Pt.cells, Pt.slots] at X3z l3z y3z z3z st3z hQ3z
  subst l3z y3z z3z
  obtain ⟨rfl, NQ3z, K3zq, r3z_0, r3z_1, r3z_2, r3z_3⟩ := hQ3z
  refine own_tr st3z ?_
  have N3z := Fr.app N0 NQ3z
  have O4z := own_ext_keep O2z K3zq (allS fr_b1z all0)
  have K4z := K2z.trans K3zq (allS (Or.inr lz_b1z) all0)
  have Sn4z := Nat.le_trans Sn2z K3zq.1
  have CR4z := CR2z.trans (CHr.keep K3zq (allS (Jvm.RoadKit.Safe.exa hZ.alike A1z (by decide) (by decide)) all0) CR2z.1)
  show own_G p e below (T3z.setTop (mkF m 13 #[.val (.long p0), .second, .val (.long p1), .second, .val (.long p2), .second, .val (.int p3), .unset, .unset, .unset] [(.ref b1z)])) _
  refine own_go (fun t k => XS.astore X3z.here hx rfl (hb hby at_13) rfl rfl (l' := #[.val (.long p0), .second, .val (.long p1), .second, .val (.long p2), .second, .val (.int p3), .val (.ref b1z), .unset, .unset]) rfl k) ?_
  refine own_go (fun t k => XS.aload X3z.here hx rfl (hb hby at_15) rfl rfl k) ?_
  obtain ⟨cq5z, kq5z, qa5z, qb5z, qc5z⟩ := isOf hZ (rfl : T3z.heap = _) (A1z.keep K3zq)
  obtain ⟨_, _, ⟨T5z, L5z, k5z, n5z⟩, -, X5z, Si5z, gr5z, ⟨Lc5z, hQ5z, l5z, y5z, z5z, CQ5z⟩, st5z⟩ := X3z.virtualBackS hx (y := own_m41) (z := own_m41) hown (own_mw hZ hw 17 rfl) (own_mw hZ hw 18 rfl) (notFace_of_selects (args := #[]) (own_mw hZ hw 20 rfl)) (own_mw hZ hw 20 rfl) (own_mw hZ hw 19 rfl) (by decide) (backOfSH (W := 0) (own_ts l Z a0 hw [] b1z p0 p1 p2 p3 cz T3z.heap O4z (A1z.keep K3zq) r3z_0 r3z_1 r3z_2 r3z_3 DT S_CS hcs) hZ (own_hw hw 21 rfl) (own_hw hw 2 rfl) (by decide) (by decide) (own_EW hw) CR4z.1) qa5z qc5z (g := (mkF m 17 #[.val (.long p0), .second, .val (.long p1), .second, .val (.long p2), .second, .val (.int p3), .val (.ref b1z), .unset, .unset] [(.ref b1z)])) rfl (by rw [hml]; rfl) (Steps.refl _) (argsL := []) (rest := []) (lenOf pd_2047462102 rfl) rfl (by show 2 * 0 + _ ≤ _; exact Nat.le_of_eq rfl) (hb hby at_17) (fun _ _ => ⟨rfl, rfl, (by decide : 1 + 20 ≤ _), (by decide : 4 + 2900 ≤ _)⟩)
  dsimp only [Pt.U, Pt.locs, Pt.cells, Pt.slots] at X5z l5z y5z z5z st5z hQ5z Si5z gr5z CQ5z
  subst l5z y5z z5z
  obtain ⟨a_5z, r_5z, kr_5z, rfl, NQ5z, K5zq, r5z_0, r5z_1, r5z_2, r5z_3, r5z_4, r5z_5⟩ := hQ5z
  refine own_tr st5z ?_
  have N5z := Fr.app N3z NQ5z
  have Sx5z : s.Since T5z.vm T5z.heap.size := foldS Si0 (by first | exact Sn4z | (rw [Nat.add_zero]; exact Sn4z)) Si5z gr5z
  have hZ5z : Z.Warmed39 (s.setVm T5z.vm).vm := State.Warmed39.trans (t := s.setVm s.vm) hZ Si5z.1
  have hown5z : (s.setVm T5z.vm).vm.findClass own_s4 = some m.cls := by rw [show (s.setVm T5z.vm).vm = T5z.vm from rfl, Si5z.1.alike.findClass]; exact hown
  have X5z := (show Stand _ _ _ _ (s.setVm T5z.vm) _ _ _ _ _ _ _ _ _ from X5z)
  have Sn5z : T5z.heap.size ≤ T5z.heap.size := Nat.le_refl _
  have O6z := own_ext_keep O4z K5zq all0
  have K6z := K4z.trans K5zq all0
  have CR6z := CR4z.trans CQ5z
  have lz_a_5z : h0.size ≤ a_5z := Nat.le_trans K4z.1 r5z_1
  have ne_b1z_a_5z : b1z ≠ a_5z := Nat.ne_of_lt (Nat.lt_of_lt_of_le (A1z.keep K3zq).lt r5z_1)
  have lz_r_5z : h0.size ≤ r_5z := Nat.le_trans K4z.1 r5z_5
  have ne_b1z_r_5z : b1z ≠ r_5z := Nat.ne_of_lt (Nat.lt_of_lt_of_le (A1z.keep K3zq).lt r5z_5)
  show own_G p e below (T5z.setTop (mkF m 20 #[.val (.long p0), .second, .val (.long p1), .second, .val (.long p2), .second, .val (.int p3), .val (.ref b1z), .unset, .unset] [(.ref a_5z)])) _
  refine own_go (fun t k => XS.astore X5z.here hx rfl (hb hby at_20) rfl rfl (l' := #[.val (.long p0), .second, .val (.long p1), .second, .val (.long p2), .second, .val (.int p3), .val (.ref b1z), .val (.ref a_5z), .unset]) rfl k) ?_
  refine own_go (fun t k => XS.aload X5z.here hx rfl (hb hby at_22) rfl rfl k) ?_
  refine own_go (fun t k => XS.iconst X5z.here hx rfl (hb hby at_24) k) ?_
  show own_G p e below (T5z.setTop (mkF m 25 #[.val (.long p0), .second, .val (.long p1), .second, .val (.long p2), .second, .val (.int p3), .val (.ref b1z), .val (.ref a_5z), .unset] [(.int (0 : Int32)), (.ref a_5z)])) _
  show own_G p e below (T5z.setTop (mkF m 25 #[.val (.long p0), .second, .val (.long p1), .second, .val (.long p2), .second, .val (.int p3), .val (.ref b1z), .val (.ref a_5z), .unset] [(.int (Int32.ofNat 0)), (.ref a_5z)])) _
  obtain ⟨a7z, T7z, h7z, k7z, b7z, kb7z, X7z, e7z, E7z, Si7z, Sn7z, hZ7z, hown7z, Le7z, Lc7z, Lv7z, La7z, -, -, CQ7z, -, ne7z, st7z⟩ := ldcCH X5z hx hZ5z hown5z (own_hw hw 205 rfl) (own_wS hw) (rfl : T5z.heap = _) Sx5z Sn5z (own_EW hw) (List.mem_of_getElem? (i := 4) rfl) CR6z.1 (vs := (own_cv own_t0)) (z := 6) ⟨by decide, rfl⟩ (by decide) (by decide) (g := (mkF m 25 #[.val (.long p0), .second, .val (.long p1), .second, .val (.long p2), .second, .val (.int p3), .val (.ref b1z), .val (.ref a_5z), .unset] [(.int (Int32.ofNat 0)), (.ref a_5z)])) rfl (hb hby at_25) (n := 24) (by decide) (by decide) (by decide) (by decide)
  refine own_go st7z ?_
  have O8z := own_ext_trans O6z E7z
  have K8z := K6z.ext E7z
  have CR8z := CR6z.trans CQ7z
  have Lb7z : own_A Z h7z b7z kb7z .byte (own_cv own_t0) := own_A.of_arv La7z (by decide)
  show own_G p e below (T7z.setTop (mkF m 27 #[.val (.long p0), .second, .val (.long p1), .second, .val (.long p2), .second, .val (.int p3), .val (.ref b1z), .val (.ref a_5z), .unset] [(.ref a7z), (.int (Int32.ofNat 0)), (.ref a_5z)])) _
  obtain ⟨_, _, ⟨T9z, L9z, k9z, n9z⟩, -, X9z, ⟨Lc9z, hQ9z, l9z, y9z, z9z⟩, st9z⟩ := Jvm.LawKit.callS X7z hx (y := own_m35) hown7z (own_mw hZ7z hw 206 rfl) (own_mw hZ7z hw 207 rfl) (own_mw hZ7z hw 208 rfl) (own_mw hZ7z hw 209 rfl) (by decide) (backOf (W := 0) (own_lit l Z a0 hw [] a_5z r_5z kr_5z (own_tot p0 p1 p2 p3) 0 a7z b7z kb7z own_t0 cz fm h7z O8z (r5z_0.ext E7z) (r5z_2.ext E7z) (r5z_3.ext E7z) (r5z_4.ext E7z) (own_tot_le p0 p1 p2 p3) Le7z Lv7z Lc7z Lb7z (by decide) (own_tot_asc p0 p1 p2 p3) own_asc_t0 ((own_at0 p0 p1 p2 p3).1) ((own_at0 p0 p1 p2 p3).2) S_CS hcs S_FM hfm) hZ7z (own_hw hw 209 rfl) (own_hw hw 208 rfl) (by decide) (by decide)) (g := (mkF m 27 #[.val (.long p0), .second, .val (.long p1), .second, .val (.long p2), .second, .val (.int p3), .val (.ref b1z), .val (.ref a_5z), .unset] [(.ref a7z), (.int (Int32.ofNat 0)), (.ref a_5z)])) rfl (by rw [hml]; rfl) (argsL := [(.ref a_5z), (.int (Int32.ofNat 0)), (.ref a7z)]) (rest := []) (lenOf pd_2755322120 rfl) rfl (by show 2 * 0 + _ ≤ _; exact Nat.le_of_eq rfl) (hb hby at_27) (fun _ _ => ⟨rfl, e7z, (by decide : 23 + 0 ≤ _), (by decide : 2932 + 0 ≤ _)⟩)
  dsimp only [Pt.U, Pt.locs, Pt.cells, Pt.slots] at X9z l9z y9z z9z st9z hQ9z
  subst l9z y9z z9z
  obtain ⟨rfl, NQ9z, K9zq⟩ := hQ9z
  refine own_go st9z ?_
  have N9z := Fr.app N5z NQ9z
  show own_G p e below (T9z.setTop (mkF m 30 #[.val (.long p0), .second, .val (.long p1), .second, .val (.long p2), .second, .val (.int p3), .val (.ref b1z), .val (.ref a_5z), .unset] [(.int (Int32.ofNat (0 + own_t0.length)))])) _
  refine own_go (fun t k => XS.istore X9z.here hx rfl (hb hby at_30) rfl (l' := #[.val (.long p0), .second, .val (.long p1), .second, .val (.long p2), .second, .val (.int p3), .val (.ref b1z), .val (.ref a_5z), .val (.int (Int32.ofNat (0 + own_t0.length)))]) rfl k) ?_
  refine own_go (fun t k => XS.aload X9z.here hx rfl (hb hby at_32) rfl rfl k) ?_
  refine own_go (fun t k => XS.iload X9z.here hx rfl (hb hby at_34) rfl k) ?_
  show own_G p e below (T9z.setTop (mkF m 36 #[.val (.long p0), .second, .val (.long p1), .second, .val (.long p2), .second, .val (.int p3), .val (.ref b1z), .val (.ref a_5z), .val (.int (Int32.ofNat (0 + own_t0.length)))] [(.int (Int32.ofNat (0 + own_t0.length))), (.ref a_5z)])) _
  refine own_go (fun t k => XS.lloadN X9z.here hx rfl (hb hby at_36) rfl k) ?_
  obtain ⟨_, _, ⟨T10z, L10z, k10z, n10z⟩, -, X10z, ⟨Lc10z, hQ10z, l10z, y10z, z10z⟩, st10z⟩ := Jvm.LawKit.callS X9z hx (y := own_m39) hown7z (own_mw hZ7z hw 236 rfl) (own_mw hZ7z hw 237 rfl) (own_mw hZ7z hw 208 rfl) (own_mw hZ7z hw 238 rfl) (by decide) (backOf (W := 0) (own_numb l Z a0 hw [] a_5z r_5z kr_5z (own_tot p0 p1 p2 p3) (0 + own_t0.length) p0 cz fm h7z O8z (r5z_0.ext E7z) (r5z_2.ext E7z) (r5z_3.ext E7z) (r5z_4.ext E7z) (own_tot_le p0 p1 p2 p3) (own_tot_asc p0 p1 p2 p3) ((own_at1 p0 p1 p2 p3).1) ((own_at1 p0 p1 p2 p3).2) S_CS hcs S_FM hfm) hZ7z (own_hw hw 238 rfl) (own_hw hw 208 rfl) (by decide) (by decide)) (g := (mkF m 37 #[.val (.long p0), .second, .val (.long p1), .second, .val (.long p2), .second, .val (.int p3), .val (.ref b1z), .val (.ref a_5z), .val (.int (Int32.ofNat (0 + own_t0.length)))] [(.long p0), (.int (Int32.ofNat (0 + own_t0.length))), (.ref a_5z)])) rfl (by rw [hml]; rfl) (argsL := [(.ref a_5z), (.int (Int32.ofNat (0 + own_t0.length))), (.long p0)]) (rest := []) (lenOf pd_1719627602 rfl) rfl (by show 2 * 0 + _ ≤ _; exact Nat.le_of_eq rfl) (hb hby at_37) (fun _ _ => ⟨rfl, K9zq, (by decide : 23 + 19 ≤ _), (by decide : 2932 + 361 ≤ _)⟩)
  dsimp only [Pt.U, Pt.locs, Pt.cells, Pt.slots] at X10z l10z y10z z10z st10z hQ10z
  subst l10z y10z z10z
  obtain ⟨rfl, NQ10z, K10zq⟩ := hQ10z
  refine own_go st10z ?_
  have N10z := Fr.app N9z NQ10z
  have O11z := own_ext_keep O8z K10zq all0
  have K11z := K8z.trans K10zq all0
  have Sn11z := Nat.le_trans Sn7z K10zq.1
  have CR11z := CR8z.trans (CHr.keep K10zq all0 CR8z.1)
  show own_G p e below (T10z.setTop (mkF m 40 #[.val (.long p0), .second, .val (.long p1), .second, .val (.long p2), .second, .val (.int p3), .val (.ref b1z), .val (.ref a_5z), .val (.int (Int32.ofNat (0 + own_t0.length)))] [(.int (Int32.ofNat ((0 + own_t0.length) + (own_sl p0).length)))])) _
  refine own_go (fun t k => XS.istore X10z.here hx rfl (hb hby at_40) rfl (l' := #[.val (.long p0), .second, .val (.long p1), .second, .val (.long p2), .second, .val (.int p3), .val (.ref b1z), .val (.ref a_5z), .val (.int (Int32.ofNat ((0 + own_t0.length) + (own_sl p0).length)))]) rfl k) ?_
  refine own_go (fun t k => XS.aload X10z.here hx rfl (hb hby at_42) rfl rfl k) ?_
  refine own_go (fun t k => XS.iload X10z.here hx rfl (hb hby at_44) rfl k) ?_
  show own_G p e below (T10z.setTop (mkF m 46 #[.val (.long p0), .second, .val (.long p1), .second, .val (.long p2), .second, .val (.int p3), .val (.ref b1z), .val (.ref a_5z), .val (.int (Int32.ofNat ((0 + own_t0.length) + (own_sl p0).length)))] [(.int (Int32.ofNat ((0 + own_t0.length) + (own_sl p0).length))), (.ref a_5z)])) _
  obtain ⟨a12z, T12z, h12z, k12z, b12z, kb12z, X12z, e12z, E12z, Si12z, Sn12z, hZ12z, hown12z, Le12z, Lc12z, Lv12z, La12z, -, -, CQ12z, -, ne12z, st12z⟩ := ldcCH X10z hx hZ7z hown7z (own_hw hw 267 rfl) (own_wS hw) (rfl : T10z.heap = _) Si7z Sn11z (own_EW hw) (List.mem_of_getElem? (i := 5) rfl) CR11z.1 (vs := (own_cv own_t1)) (z := 7) ⟨by decide, rfl⟩ (by decide) (by decide) (g := (mkF m 46 #[.val (.long p0), .second, .val (.long p1), .second, .val (.long p2), .second, .val (.int p3), .val (.ref b1z), .val (.ref a_5z), .val (.int (Int32.ofNat ((0 + own_t0.length) + (own_sl p0).length)))] [(.int (Int32.ofNat ((0 + own_t0.length) + (own_sl p0).length))), (.ref a_5z)])) rfl (hb hby at_46) (n := 28) (by decide) (by decide) (by decide) (by decide)
  refine own_go st12z ?_
  have O13z := own_ext_trans O11z E12z
  have K13z := K11z.ext E12z
  have CR13z := CR11z.trans CQ12z
  have Lb12z : own_A Z h12z b12z kb12z .byte (own_cv own_t1) := own_A.of_arv La12z (by decide)
  show own_G p e below (T12z.setTop (mkF m 48 #[.val (.long p0), .second, .val (.long p1), .second, .val (.long p2), .second, .val (.int p3), .val (.ref b1z), .val (.ref a_5z), .val (.int (Int32.ofNat ((0 + own_t0.length) + (own_sl p0).length)))] [(.ref a12z), (.int (Int32.ofNat ((0 + own_t0.length) + (own_sl p0).length))), (.ref a_5z)])) _
  obtain ⟨_, _, ⟨T14z, L14z, k14z, n14z⟩, -, X14z, ⟨Lc14z, hQ14z, l14z, y14z, z14z⟩, st14z⟩ := Jvm.LawKit.callS X12z hx (y := own_m35) hown12z (own_mw hZ12z hw 206 rfl) (own_mw hZ12z hw 207 rfl) (own_mw hZ12z hw 208 rfl) (own_mw hZ12z hw 209 rfl) (by decide) (backOf (W := 0) (own_lit l Z a0 hw [] a_5z r_5z kr_5z (own_tot p0 p1 p2 p3) ((0 + own_t0.length) + (own_sl p0).length) a12z b12z kb12z own_t1 cz fm h12z O13z (((r5z_0.ext E7z).keep K10zq).ext E12z) (((r5z_2.ext E7z).keep K10zq (by simp)).ext E12z) (((r5z_3.ext E7z).keep K10zq (by simp)).ext E12z) (((r5z_4.ext E7z).keep K10zq (by simp)).ext E12z) (own_tot_le p0 p1 p2 p3) Le12z Lv12z Lc12z Lb12z (by decide) (own_tot_asc p0 p1 p2 p3) own_asc_t1 ((own_at2 p0 p1 p2 p3).1) ((own_at2 p0 p1 p2 p3).2) S_CS hcs S_FM hfm) hZ12z (own_hw hw 209 rfl) (own_hw hw 208 rfl) (by decide) (by decide)) (g := (mkF m 48 #[.val (.long p0), .second, .val (.long p1), .second, .val (.long p2), .second, .val (.int p3), .val (.ref b1z), .val (.ref a_5z), .val (.int (Int32.ofNat ((0 + own_t0.length) + (own_sl p0).length)))] [(.ref a12z), (.int (Int32.ofNat ((0 + own_t0.length) + (own_sl p0).length))), (.ref a_5z)])) rfl (by rw [hml]; rfl) (argsL := [(.ref a_5z), (.int (Int32.ofNat ((0 + own_t0.length) + (own_sl p0).length))), (.ref a12z)]) (rest := []) (lenOf pd_2755322120 rfl) rfl (by show 2 * 0 + _ ≤ _; exact Nat.le_of_eq rfl) (hb hby at_48) (fun _ _ => ⟨rfl, e12z, (by decide : 44 + 0 ≤ _), (by decide : 3325 + 0 ≤ _)⟩)
  dsimp only [Pt.U, Pt.locs, Pt.cells, Pt.slots] at X14z l14z y14z z14z st14z hQ14z
  subst l14z y14z z14z
  obtain ⟨rfl, NQ14z, K14zq⟩ := hQ14z
  refine own_go st14z ?_
  have N14z := Fr.app N10z NQ14z
  show own_G p e below (T14z.setTop (mkF m 51 #[.val (.long p0), .second, .val (.long p1), .second, .val (.long p2), .second, .val (.int p3), .val (.ref b1z), .val (.ref a_5z), .val (.int (Int32.ofNat ((0 + own_t0.length) + (own_sl p0).length)))] [(.int (Int32.ofNat (((0 + own_t0.length) + (own_sl p0).length) + own_t1.length)))])) _
  refine own_go (fun t k => XS.istore X14z.here hx rfl (hb hby at_51) rfl (l' := #[.val (.long p0), .second, .val (.long p1), .second, .val (.long p2), .second, .val (.int p3), .val (.ref b1z), .val (.ref a_5z), .val (.int (Int32.ofNat (((0 + own_t0.length) + (own_sl p0).length) + own_t1.length)))]) rfl k) ?_
  refine own_go (fun t k => XS.aload X14z.here hx rfl (hb hby at_53) rfl rfl k) ?_
  refine own_go (fun t k => XS.iload X14z.here hx rfl (hb hby at_55) rfl k) ?_
  show own_G p e below (T14z.setTop (mkF m 57 #[.val (.long p0), .second, .val (.long p1), .second, .val (.long p2), .second, .val (.int p3), .val (.ref b1z), .val (.ref a_5z), .val (.int (Int32.ofNat (((0 + own_t0.length) + (own_sl p0).length) + own_t1.length)))] [(.int (Int32.ofNat (((0 + own_t0.length) + (own_sl p0).length) + own_t1.length))), (.ref a_5z)])) _
  refine own_go (fun t k => XS.lloadN X14z.here hx rfl (hb hby at_57) rfl k) ?_
  obtain ⟨_, _, ⟨T15z, L15z, k15z, n15z⟩, -, X15z, ⟨Lc15z, hQ15z, l15z, y15z, z15z⟩, st15z⟩ := Jvm.LawKit.callS X14z hx (y := own_m39) hown12z (own_mw hZ12z hw 236 rfl) (own_mw hZ12z hw 237 rfl) (own_mw hZ12z hw 208 rfl) (own_mw hZ12z hw 238 rfl) (by decide) (backOf (W := 0) (own_numb l Z a0 hw [] a_5z r_5z kr_5z (own_tot p0 p1 p2 p3) (((0 + own_t0.length) + (own_sl p0).length) + own_t1.length) p1 cz fm h12z O13z (((r5z_0.ext E7z).keep K10zq).ext E12z) (((r5z_2.ext E7z).keep K10zq (by simp)).ext E12z) (((r5z_3.ext E7z).keep K10zq (by simp)).ext E12z) (((r5z_4.ext E7z).keep K10zq (by simp)).ext E12z) (own_tot_le p0 p1 p2 p3) (own_tot_asc p0 p1 p2 p3) ((own_at3 p0 p1 p2 p3).1) ((own_at3 p0 p1 p2 p3).2) S_CS hcs S_FM hfm) hZ12z (own_hw hw 238 rfl) (own_hw hw 208 rfl) (by decide) (by decide)) (g := (mkF m 58 #[.val (.long p0), .second, .val (.long p1), .second, .val (.long p2), .second, .val (.int p3), .val (.ref b1z), .val (.ref a_5z), .val (.int (Int32.ofNat (((0 + own_t0.length) + (own_sl p0).length) + own_t1.length)))] [(.long p1), (.int (Int32.ofNat (((0 + own_t0.length) + (own_sl p0).length) + own_t1.length))), (.ref a_5z)])) rfl (by rw [hml]; rfl) (argsL := [(.ref a_5z), (.int (Int32.ofNat (((0 + own_t0.length) + (own_sl p0).length) + own_t1.length))), (.long p1)]) (rest := []) (lenOf pd_1719627602 rfl) rfl (by show 2 * 0 + _ ≤ _; exact Nat.le_of_eq rfl) (hb hby at_58) (fun _ _ => ⟨rfl, K14zq, (by decide : 44 + 19 ≤ _), (by decide : 3325 + 361 ≤ _)⟩)
  dsimp only [Pt.U, Pt.locs, Pt.cells, Pt.slots] at X15z l15z y15z z15z st15z hQ15z
  subst l15z y15z z15z
  obtain ⟨rfl, NQ15z, K15zq⟩ := hQ15z
  refine own_go st15z ?_
  have N15z := Fr.app N14z NQ15z
  have O16z := own_ext_keep O13z K15zq all0
  have K16z := K13z.trans K15zq all0
  have Sn16z := Nat.le_trans Sn12z K15zq.1
  have CR16z := CR13z.trans (CHr.keep K15zq all0 CR13z.1)
  show own_G p e below (T15z.setTop (mkF m 61 #[.val (.long p0), .second, .val (.long p1), .second, .val (.long p2), .second, .val (.int p3), .val (.ref b1z), .val (.ref a_5z), .val (.int (Int32.ofNat (((0 + own_t0.length) + (own_sl p0).length) + own_t1.length)))] [(.int (Int32.ofNat ((((0 + own_t0.length) + (own_sl p0).length) + own_t1.length) + (own_sl p1).length)))])) _
  refine own_go (fun t k => XS.istore X15z.here hx rfl (hb hby at_61) rfl (l' := #[.val (.long p0), .second, .val (.long p1), .second, .val (.long p2), .second, .val (.int p3), .val (.ref b1z), .val (.ref a_5z), .val (.int (Int32.ofNat ((((0 + own_t0.length) + (own_sl p0).length) + own_t1.length) + (own_sl p1).length)))]) rfl k) ?_
  refine own_go (fun t k => XS.aload X15z.here hx rfl (hb hby at_63) rfl rfl k) ?_
  refine own_go (fun t k => XS.iload X15z.here hx rfl (hb hby at_65) rfl k) ?_
  show own_G p e below (T15z.setTop (mkF m 67 #[.val (.long p0), .second, .val (.long p1), .second, .val (.long p2), .second, .val (.int p3), .val (.ref b1z), .val (.ref a_5z), .val (.int (Int32.ofNat ((((0 + own_t0.length) + (own_sl p0).length) + own_t1.length) + (own_sl p1).length)))] [(.int (Int32.ofNat ((((0 + own_t0.length) + (own_sl p0).length) + own_t1.length) + (own_sl p1).length))), (.ref a_5z)])) _
  obtain ⟨a17z, T17z, h17z, k17z, b17z, kb17z, X17z, e17z, E17z, Si17z, Sn17z, hZ17z, hown17z, Le17z, Lc17z, Lv17z, La17z, -, -, CQ17z, -, ne17z, st17z⟩ := ldcCH X15z hx hZ12z hown12z (own_hw hw 268 rfl) (own_wS hw) (rfl : T15z.heap = _) Si12z Sn16z (own_EW hw) (List.mem_of_getElem? (i := 6) rfl) CR16z.1 (vs := (own_cv own_t2)) (z := 12) ⟨by decide, rfl⟩ (by decide) (by decide) (g := (mkF m 67 #[.val (.long p0), .second, .val (.long p1), .second, .val (.long p2), .second, .val (.int p3), .val (.ref b1z), .val (.ref a_5z), .val (.int (Int32.ofNat ((((0 + own_t0.length) + (own_sl p0).length) + own_t1.length) + (own_sl p1).length)))] [(.int (Int32.ofNat ((((0 + own_t0.length) + (own_sl p0).length) + own_t1.length) + (own_sl p1).length))), (.ref a_5z)])) rfl (hb hby at_67) (n := 48) (by decide) (by decide) (by decide) (by decide)
  refine own_go st17z ?_
  have O18z := own_ext_trans O16z E17z
  have K18z := K16z.ext E17z
  have CR18z := CR16z.trans CQ17z
  have Lb17z : own_A Z h17z b17z kb17z .byte (own_cv own_t2) := own_A.of_arv La17z (by decide)
  show own_G p e below (T17z.setTop (mkF m 69 #[.val (.long p0), .second, .val (.long p1), .second, .val (.long p2), .second, .val (.int p3), .val (.ref b1z), .val (.ref a_5z), .val (.int (Int32.ofNat ((((0 + own_t0.length) + (own_sl p0).length) + own_t1.length) + (own_sl p1).length)))] [(.ref a17z), (.int (Int32.ofNat ((((0 + own_t0.length) + (own_sl p0).length) + own_t1.length) + (own_sl p1).length))), (.ref a_5z)])) _
  have f19z := (((((r5z_0.ext E7z).keep K10zq).ext E12z).keep K15zq).ext E17z)
  have f20z := (((((r5z_2.ext E7z).keep K10zq (by simp)).ext E12z).keep K15zq (by simp)).ext E17z)
  have f21z := (((((r5z_3.ext E7z).keep K10zq (by simp)).ext E12z).keep K15zq (by simp)).ext E17z)
  have f22z := (((((r5z_4.ext E7z).keep K10zq (by simp)).ext E12z).keep K15zq (by simp)).ext E17z)
  obtain ⟨_, _, ⟨T23z, L23z, k23z, n23z⟩, -, X23z, ⟨Lc23z, hQ23z, l23z, y23z, z23z⟩, st23z⟩ := Jvm.LawKit.callS X17z hx (y := own_m35) hown17z (own_mw hZ17z hw 206 rfl) (own_mw hZ17z hw 207 rfl) (own_mw hZ17z hw 208 rfl) (own_mw hZ17z hw 209 rfl) (by decide) (backOf (W := 0) (own_lit l Z a0 hw [] a_5z r_5z kr_5z (own_tot p0 p1 p2 p3) ((((0 + own_t0.length) + (own_sl p0).length) + own_t1.length) + (own_sl p1).length) a17z b17z kb17z own_t2 cz fm h17z O18z f19z f20z f21z f22z (own_tot_le p0 p1 p2 p3) Le17z Lv17z Lc17z Lb17z (by decide) (own_tot_asc p0 p1 p2 p3) own_asc_t2 ((own_at4 p0 p1 p2 p3).1) ((own_at4 p0 p1 p2 p3).2) S_CS hcs S_FM hfm) hZ17z (own_hw hw 209 rfl) (own_hw hw 208 rfl) (by decide) (by decide)) (g := (mkF m 69 #[.val (.long p0), .second, .val (.long p1), .second, .val (.long p2), .second, .val (.int p3), .val (.ref b1z), .val (.ref a_5z), .val (.int (Int32.ofNat ((((0 + own_t0.length) + (own_sl p0).length) + own_t1.length) + (own_sl p1).length)))] [(.ref a17z), (.int (Int32.ofNat ((((0 + own_t0.length) + (own_sl p0).length) + own_t1.length) + (own_sl p1).length))), (.ref a_5z)])) rfl (by rw [hml]; rfl) (argsL := [(.ref a_5z), (.int (Int32.ofNat ((((0 + own_t0.length) + (own_sl p0).length) + own_t1.length) + (own_sl p1).length))), (.ref a17z)]) (rest := []) (lenOf pd_2755322120 rfl) rfl (by show 2 * 0 + _ ≤ _; exact Nat.le_of_eq rfl) (hb hby at_69) (fun _ _ => ⟨rfl, e17z, (by decide : 65 + 0 ≤ _), (by decide : 3738 + 0 ≤ _)⟩)
  dsimp only [Pt.U, Pt.locs, Pt.cells, Pt.slots] at X23z l23z y23z z23z st23z hQ23z
  subst l23z y23z z23z
  obtain ⟨rfl, NQ23z, K23zq⟩ := hQ23z
  refine own_go st23z ?_
  have N23z := Fr.app N15z NQ23z
  show own_G p e below (T23z.setTop (mkF m 72 #[.val (.long p0), .second, .val (.long p1), .second, .val (.long p2), .second, .val (.int p3), .val (.ref b1z), .val (.ref a_5z), .val (.int (Int32.ofNat ((((0 + own_t0.length) + (own_sl p0).length) + own_t1.length) + (own_sl p1).length)))] [(.int (Int32.ofNat (((((0 + own_t0.length) + (own_sl p0).length) + own_t1.length) + (own_sl p1).length) + own_t2.length)))])) _
  refine own_go (fun t k => XS.istore X23z.here hx rfl (hb hby at_72) rfl (l' := #[.val (.long p0), .second, .val (.long p1), .second, .val (.long p2), .second, .val (.int p3), .val (.ref b1z), .val (.ref a_5z), .val (.int (Int32.ofNat (((((0 + own_t0.length) + (own_sl p0).length) + own_t1.length) + (own_sl p1).length) + own_t2.length)))]) rfl k) ?_
  refine own_go (fun t k => XS.aload X23z.here hx rfl (hb hby at_74) rfl rfl k) ?_
  refine own_go (fun t k => XS.iload X23z.here hx rfl (hb hby at_76) rfl k) ?_
  show own_G p e below (T23z.setTop (mkF m 78 #[.val (.long p0), .second, .val (.long p1), .second, .val (.long p2), .second, .val (.int p3), .val (.ref b1z), .val (.ref a_5z), .val (.int (Int32.ofNat (((((0 + own_t0.length) + (own_sl p0).length) + own_t1.length) + (own_sl p1).length) + own_t2.length)))] [(.int (Int32.ofNat (((((0 + own_t0.length) + (own_sl p0).length) + own_t1.length) + (own_sl p1).length) + own_t2.length))), (.ref a_5z)])) _
  refine own_go (fun t k => XS.lload X23z.here hx rfl (hb hby at_78) rfl k) ?_
  obtain ⟨_, _, ⟨T24z, L24z, k24z, n24z⟩, -, X24z, ⟨Lc24z, hQ24z, l24z, y24z, z24z⟩, st24z⟩ := Jvm.LawKit.callS X23z hx (y := own_m39) hown17z (own_mw hZ17z hw 236 rfl) (own_mw hZ17z hw 237 rfl) (own_mw hZ17z hw 208 rfl) (own_mw hZ17z hw 238 rfl) (by decide) (backOf (W := 0) (own_numb l Z a0 hw [] a_5z r_5z kr_5z (own_tot p0 p1 p2 p3) (((((0 + own_t0.length) + (own_sl p0).length) + own_t1.length) + (own_sl p1).length) + own_t2.length) p2 cz fm h17z O18z f19z f20z f21z f22z (own_tot_le p0 p1 p2 p3) (own_tot_asc p0 p1 p2 p3) ((own_at5 p0 p1 p2 p3).1) ((own_at5 p0 p1 p2 p3).2) S_CS hcs S_FM hfm) hZ17z (own_hw hw 238 rfl) (own_hw hw 208 rfl) (by decide) (by decide)) (g := (mkF m 80 #[.val (.long p0), .second, .val (.long p1), .second, .val (.long p2), .second, .val (.int p3), .val (.ref b1z), .val (.ref a_5z), .val (.int (Int32.ofNat (((((0 + own_t0.length) + (own_sl p0).length) + own_t1.length) + (own_sl p1).length) + own_t2.length)))] [(.long p2), (.int (Int32.ofNat (((((0 + own_t0.length) + (own_sl p0).length) + own_t1.length) + (own_sl p1).length) + own_t2.length))), (.ref a_5z)])) rfl (by rw [hml]; rfl) (argsL := [(.ref a_5z), (.int (Int32.ofNat (((((0 + own_t0.length) + (own_sl p0).length) + own_t1.length) + (own_sl p1).length) + own_t2.length))), (.long p2)]) (rest := []) (lenOf pd_1719627602 rfl) rfl (by show 2 * 0 + _ ≤ _; exact Nat.le_of_eq rfl) (hb hby at_80) (fun _ _ => ⟨rfl, K23zq, (by decide : 65 + 19 ≤ _), (by decide : 3738 + 361 ≤ _)⟩)
  dsimp only [Pt.U, Pt.locs, Pt.cells, Pt.slots] at X24z l24z y24z z24z st24z hQ24z
  subst l24z y24z z24z
  obtain ⟨rfl, NQ24z, K24zq⟩ := hQ24z
  refine own_go st24z ?_
  have N24z := Fr.app N23z NQ24z
  have O25z := own_ext_keep O18z K24zq all0
  have K25z := K18z.trans K24zq all0
  have Sn25z := Nat.le_trans Sn17z K24zq.1
  have CR25z := CR18z.trans (CHr.keep K24zq all0 CR18z.1)
  show own_G p e below (T24z.setTop (mkF m 83 #[.val (.long p0), .second, .val (.long p1), .second, .val (.long p2), .second, .val (.int p3), .val (.ref b1z), .val (.ref a_5z), .val (.int (Int32.ofNat (((((0 + own_t0.length) + (own_sl p0).length) + own_t1.length) + (own_sl p1).length) + own_t2.length)))] [(.int (Int32.ofNat ((((((0 + own_t0.length) + (own_sl p0).length) + own_t1.length) + (own_sl p1).length) + own_t2.length) + (own_sl p2).length)))])) _
  refine own_go (fun t k => XS.istore X24z.here hx rfl (hb hby at_83) rfl (l' := #[.val (.long p0), .second, .val (.long p1), .second, .val (.long p2), .second, .val (.int p3), .val (.ref b1z), .val (.ref a_5z), .val (.int (Int32.ofNat ((((((0 + own_t0.length) + (own_sl p0).length) + own_t1.length) + (own_sl p1).length) + own_t2.length) + (own_sl p2).length)))]) rfl k) ?_
  refine own_go (fun t k => XS.aload X24z.here hx rfl (hb hby at_85) rfl rfl k) ?_
  refine own_go (fun t k => XS.iload X24z.here hx rfl (hb hby at_87) rfl k) ?_
  show own_G p e below (T24z.setTop (mkF m 89 #[.val (.long p0), .second, .val (.long p1), .second, .val (.long p2), .second, .val (.int p3), .val (.ref b1z), .val (.ref a_5z), .val (.int (Int32.ofNat ((((((0 + own_t0.length) + (own_sl p0).length) + own_t1.length) + (own_sl p1).length) + own_t2.length) + (own_sl p2).length)))] [(.int (Int32.ofNat ((((((0 + own_t0.length) + (own_sl p0).length) + own_t1.length) + (own_sl p1).length) + own_t2.length) + (own_sl p2).length))), (.ref a_5z)])) _
  obtain ⟨a26z, T26z, h26z, k26z, b26z, kb26z, X26z, e26z, E26z, Si26z, Sn26z, hZ26z, hown26z, Le26z, Lc26z, Lv26z, La26z, -, -, CQ26z, -, ne26z, st26z⟩ := ldcCH X24z hx hZ17z hown17z (own_hw hw 269 rfl) (own_wS hw) (rfl : T24z.heap = _) Si17z Sn25z (own_EW hw) (List.mem_of_getElem? (i := 7) rfl) CR25z.1 (vs := (own_cv own_t3)) (z := 7) ⟨by decide, rfl⟩ (by decide) (by decide) (g := (mkF m 89 #[.val (.long p0), .second, .val (.long p1), .second, .val (.long p2), .second, .val (.int p3), .val (.ref b1z), .val (.ref a_5z), .val (.int (Int32.ofNat ((((((0 + own_t0.length) + (own_sl p0).length) + own_t1.length) + (own_sl p1).length) + own_t2.length) + (own_sl p2).length)))] [(.int (Int32.ofNat ((((((0 + own_t0.length) + (own_sl p0).length) + own_t1.length) + (own_sl p1).length) + own_t2.length) + (own_sl p2).length))), (.ref a_5z)])) rfl (hb hby at_89) (n := 28) (by decide) (by decide) (by decide) (by decide)
  refine own_go st26z ?_
  have O27z := own_ext_trans O25z E26z
  have K27z := K25z.ext E26z
  have CR27z := CR25z.trans CQ26z
  have Lb26z : own_A Z h26z b26z kb26z .byte (own_cv own_t3) := own_A.of_arv La26z (by decide)
  show own_G p e below (T26z.setTop (mkF m 91 #[.val (.long p0), .second, .val (.long p1), .second, .val (.long p2), .second, .val (.int p3), .val (.ref b1z), .val (.ref a_5z), .val (.int (Int32.ofNat ((((((0 + own_t0.length) + (own_sl p0).length) + own_t1.length) + (own_sl p1).length) + own_t2.length) + (own_sl p2).length)))] [(.ref a26z), (.int (Int32.ofNat ((((((0 + own_t0.length) + (own_sl p0).length) + own_t1.length) + (own_sl p1).length) + own_t2.length) + (own_sl p2).length))), (.ref a_5z)])) _
  obtain ⟨_, _, ⟨T28z, L28z, k28z, n28z⟩, -, X28z, ⟨Lc28z, hQ28z, l28z, y28z, z28z⟩, st28z⟩ := Jvm.LawKit.callS X26z hx (y := own_m35) hown26z (own_mw hZ26z hw 206 rfl) (own_mw hZ26z hw 207 rfl) (own_mw hZ26z hw 208 rfl) (own_mw hZ26z hw 209 rfl) (by decide) (backOf (W := 0) (own_lit l Z a0 hw [] a_5z r_5z kr_5z (own_tot p0 p1 p2 p3) ((((((0 + own_t0.length) + (own_sl p0).length) + own_t1.length) + (own_sl p1).length) + own_t2.length) + (own_sl p2).length) a26z b26z kb26z own_t3 cz fm h26z O27z ((f19z.keep K24zq).ext E26z) ((f20z.keep K24zq (by simp)).ext E26z) ((f21z.keep K24zq (by simp)).ext E26z) ((f22z.keep K24zq (by simp)).ext E26z) (own_tot_le p0 p1 p2 p3) Le26z Lv26z Lc26z Lb26z (by decide) (own_tot_asc p0 p1 p2 p3) own_asc_t3 ((own_at6 p0 p1 p2 p3).1) ((own_at6 p0 p1 p2 p3).2) S_CS hcs S_FM hfm) hZ26z (own_hw hw 209 rfl) (own_hw hw 208 rfl) (by decide) (by decide)) (g := (mkF m 91 #[.val (.long p0), .second, .val (.long p1), .second, .val (.long p2), .second, .val (.int p3), .val (.ref b1z), .val (.ref a_5z), .val (.int (Int32.ofNat ((((((0 + own_t0.length) + (own_sl p0).length) + own_t1.length) + (own_sl p1).length) + own_t2.length) + (own_sl p2).length)))] [(.ref a26z), (.int (Int32.ofNat ((((((0 + own_t0.length) + (own_sl p0).length) + own_t1.length) + (own_sl p1).length) + own_t2.length) + (own_sl p2).length))), (.ref a_5z)])) rfl (by rw [hml]; rfl) (argsL := [(.ref a_5z), (.int (Int32.ofNat ((((((0 + own_t0.length) + (own_sl p0).length) + own_t1.length) + (own_sl p1).length) + own_t2.length) + (own_sl p2).length))), (.ref a26z)]) (rest := []) (lenOf pd_2755322120 rfl) rfl (by show 2 * 0 + _ ≤ _; exact Nat.le_of_eq rfl) (hb hby at_91) (fun _ _ => ⟨rfl, e26z, (by decide : 86 + 0 ≤ _), (by decide : 4131 + 0 ≤ _)⟩)
  dsimp only [Pt.U, Pt.locs, Pt.cells, Pt.slots] at X28z l28z y28z z28z st28z hQ28z
  subst l28z y28z z28z
  obtain ⟨rfl, NQ28z, K28zq⟩ := hQ28z
  refine own_go st28z ?_
  have N28z := Fr.app N24z NQ28z
  show own_G p e below (T28z.setTop (mkF m 94 #[.val (.long p0), .second, .val (.long p1), .second, .val (.long p2), .second, .val (.int p3), .val (.ref b1z), .val (.ref a_5z), .val (.int (Int32.ofNat ((((((0 + own_t0.length) + (own_sl p0).length) + own_t1.length) + (own_sl p1).length) + own_t2.length) + (own_sl p2).length)))] [(.int (Int32.ofNat (((((((0 + own_t0.length) + (own_sl p0).length) + own_t1.length) + (own_sl p1).length) + own_t2.length) + (own_sl p2).length) + own_t3.length)))])) _
  refine own_go (fun t k => XS.istore X28z.here hx rfl (hb hby at_94) rfl (l' := #[.val (.long p0), .second, .val (.long p1), .second, .val (.long p2), .second, .val (.int p3), .val (.ref b1z), .val (.ref a_5z), .val (.int (Int32.ofNat (((((((0 + own_t0.length) + (own_sl p0).length) + own_t1.length) + (own_sl p1).length) + own_t2.length) + (own_sl p2).length) + own_t3.length)))]) rfl k) ?_
  refine own_go (fun t k => XS.aload X28z.here hx rfl (hb hby at_96) rfl rfl k) ?_
  refine own_go (fun t k => XS.iload X28z.here hx rfl (hb hby at_98) rfl k) ?_
  show own_G p e below (T28z.setTop (mkF m 100 #[.val (.long p0), .second, .val (.long p1), .second, .val (.long p2), .second, .val (.int p3), .val (.ref b1z), .val (.ref a_5z), .val (.int (Int32.ofNat (((((((0 + own_t0.length) + (own_sl p0).length) + own_t1.length) + (own_sl p1).length) + own_t2.length) + (own_sl p2).length) + own_t3.length)))] [(.int (Int32.ofNat (((((((0 + own_t0.length) + (own_sl p0).length) + own_t1.length) + (own_sl p1).length) + own_t2.length) + (own_sl p2).length) + own_t3.length))), (.ref a_5z)])) _
  refine own_go (fun t k => XS.iload X28z.here hx rfl (hb hby at_100) rfl k) ?_
  refine own_go (fun t k => XS.i2l X28z.here hx rfl (hb hby at_102) rfl k) ?_
  obtain ⟨_, _, ⟨T29z, L29z, k29z, n29z⟩, -, X29z, ⟨Lc29z, hQ29z, l29z, y29z, z29z⟩, st29z⟩ := Jvm.LawKit.callS X28z hx (y := own_m39) hown26z (own_mw hZ26z hw 236 rfl) (own_mw hZ26z hw 237 rfl) (own_mw hZ26z hw 208 rfl) (own_mw hZ26z hw 238 rfl) (by decide) (backOf (W := 0) (own_numb l Z a0 hw [] a_5z r_5z kr_5z (own_tot p0 p1 p2 p3) (((((((0 + own_t0.length) + (own_sl p0).length) + own_t1.length) + (own_sl p1).length) + own_t2.length) + (own_sl p2).length) + own_t3.length) ((p3).toInt64) cz fm h26z O27z ((f19z.keep K24zq).ext E26z) ((f20z.keep K24zq (by simp)).ext E26z) ((f21z.keep K24zq (by simp)).ext E26z) ((f22z.keep K24zq (by simp)).ext E26z) (own_tot_le p0 p1 p2 p3) (own_tot_asc p0 p1 p2 p3) ((own_at7 p0 p1 p2 p3).1) ((own_at7 p0 p1 p2 p3).2) S_CS hcs S_FM hfm) hZ26z (own_hw hw 238 rfl) (own_hw hw 208 rfl) (by decide) (by decide)) (g := (mkF m 103 #[.val (.long p0), .second, .val (.long p1), .second, .val (.long p2), .second, .val (.int p3), .val (.ref b1z), .val (.ref a_5z), .val (.int (Int32.ofNat (((((((0 + own_t0.length) + (own_sl p0).length) + own_t1.length) + (own_sl p1).length) + own_t2.length) + (own_sl p2).length) + own_t3.length)))] [(.long ((p3).toInt64)), (.int (Int32.ofNat (((((((0 + own_t0.length) + (own_sl p0).length) + own_t1.length) + (own_sl p1).length) + own_t2.length) + (own_sl p2).length) + own_t3.length))), (.ref a_5z)])) rfl (by rw [hml]; rfl) (argsL := [(.ref a_5z), (.int (Int32.ofNat (((((((0 + own_t0.length) + (own_sl p0).length) + own_t1.length) + (own_sl p1).length) + own_t2.length) + (own_sl p2).length) + own_t3.length))), (.long ((p3).toInt64))]) (rest := []) (lenOf pd_1719627602 rfl) rfl (by show 2 * 0 + _ ≤ _; exact Nat.le_of_eq rfl) (hb hby at_103) (fun _ _ => ⟨rfl, K28zq, (by decide : 86 + 19 ≤ _), (by decide : 4131 + 361 ≤ _)⟩)
  dsimp only [Pt.U, Pt.locs, Pt.cells, Pt.slots] at X29z l29z y29z z29z st29z hQ29z
  subst l29z y29z z29z
  obtain ⟨rfl, NQ29z, K29zq⟩ := hQ29z
  refine own_go st29z ?_
  have N29z := Fr.app N28z NQ29z
  have O30z := own_ext_keep O27z K29zq all0
  have K30z := K27z.trans K29zq all0
  have Sn30z := Nat.le_trans Sn26z K29zq.1
  have CR30z := CR27z.trans (CHr.keep K29zq all0 CR27z.1)
  show own_G p e below (T29z.setTop (mkF m 106 #[.val (.long p0), .second, .val (.long p1), .second, .val (.long p2), .second, .val (.int p3), .val (.ref b1z), .val (.ref a_5z), .val (.int (Int32.ofNat (((((((0 + own_t0.length) + (own_sl p0).length) + own_t1.length) + (own_sl p1).length) + own_t2.length) + (own_sl p2).length) + own_t3.length)))] [(.int (Int32.ofNat ((((((((0 + own_t0.length) + (own_sl p0).length) + own_t1.length) + (own_sl p1).length) + own_t2.length) + (own_sl p2).length) + own_t3.length) + (own_sl ((p3).toInt64)).length)))])) _
  refine own_go (fun t k => XS.istore X29z.here hx rfl (hb hby at_106) rfl (l' := #[.val (.long p0), .second, .val (.long p1), .second, .val (.long p2), .second, .val (.int p3), .val (.ref b1z), .val (.ref a_5z), .val (.int (Int32.ofNat ((((((((0 + own_t0.length) + (own_sl p0).length) + own_t1.length) + (own_sl p1).length) + own_t2.length) + (own_sl p2).length) + own_t3.length) + (own_sl ((p3).toInt64)).length)))]) rfl k) ?_
  refine own_go (fun t k => XS.iload X29z.here hx rfl (hb hby at_108) rfl k) ?_
  refine own_go (fun t k => XS.aload X29z.here hx rfl (hb hby at_110) rfl rfl k) ?_
  show own_G p e below (T29z.setTop (mkF m 112 #[.val (.long p0), .second, .val (.long p1), .second, .val (.long p2), .second, .val (.int p3), .val (.ref b1z), .val (.ref a_5z), .val (.int (Int32.ofNat ((((((((0 + own_t0.length) + (own_sl p0).length) + own_t1.length) + (own_sl p1).length) + own_t2.length) + (own_sl p2).length) + own_t3.length) + (own_sl ((p3).toInt64)).length)))] [(.ref a_5z), (.int (Int32.ofNat ((((((((0 + own_t0.length) + (own_sl p0).length) + own_t1.length) + (own_sl p1).length) + own_t2.length) + (own_sl p2).length) + own_t3.length) + (own_sl ((p3).toInt64)).length)))])) _
  have f31z := (((f20z.keep K24zq (by simp)).ext E26z).keep K29zq (by simp))
  have f32z := (((f21z.keep K24zq (by simp)).ext E26z).keep K29zq (by simp))
  have f33z := (((f22z.keep K24zq (by simp)).ext E26z).keep K29zq (by simp))
  obtain ⟨cq34z, kq34z, qa34z, qb34z, qc34z⟩ := isOf hZ26z (rfl : T29z.heap = _) (((f19z.keep K24zq).ext E26z).keep K29zq)
  obtain ⟨_, _, ⟨T34z, L34z, k34z, n34z⟩, -, X34z, ⟨Lc34z, hQ34z, l34z, y34z, z34z⟩, st34z⟩ := X29z.virtualBack hx (y := own_m7) (z := own_m7) hown26z (own_mw hZ26z hw 210 rfl) (own_mw hZ26z hw 59 rfl) (notFace_of_selects (args := #[]) (own_mw hZ26z hw 61 rfl)) (own_mw hZ26z hw 61 rfl) (own_mw hZ26z hw 60 rfl) (by decide) (backOf (W := 1) (own_slen l Z a0 hw [] a_5z r_5z kr_5z (own_tot p0 p1 p2 p3) cz T29z.heap O30z (((f19z.keep K24zq).ext E26z).keep K29zq) f31z f32z f33z (own_tot_le p0 p1 p2 p3) S_CS hcs) hZ26z (own_hw hw 62 rfl) (own_hw hw 36 rfl) (by decide) (by decide)) qa34z qc34z (g := (mkF m 112 #[.val (.long p0), .second, .val (.long p1), .second, .val (.long p2), .second, .val (.int p3), .val (.ref b1z), .val (.ref a_5z), .val (.int (Int32.ofNat ((((((((0 + own_t0.length) + (own_sl p0).length) + own_t1.length) + (own_sl p1).length) + own_t2.length) + (own_sl p2).length) + own_t3.length) + (own_sl ((p3).toInt64)).length)))] [(.ref a_5z), (.int (Int32.ofNat ((((((((0 + own_t0.length) + (own_sl p0).length) + own_t1.length) + (own_sl p1).length) + own_t2.length) + (own_sl p2).length) + own_t3.length) + (own_sl ((p3).toInt64)).length)))])) rfl (by rw [hml]; rfl) (Steps.refl _) (argsL := []) (rest := [(.int (Int32.ofNat ((((((((0 + own_t0.length) + (own_sl p0).length) + own_t1.length) + (own_sl p1).length) + own_t2.length) + (own_sl p2).length) + own_t3.length) + (own_sl ((p3).toInt64)).length)))]) (lenOf pd_193421983 rfl) rfl (by show 2 * 0 + _ ≤ _; exact Nat.le_of_eq rfl) (hb hby at_112) (fun _ _ => ⟨rfl, rfl, (by decide : 105 + 0 ≤ _), (by decide : 4492 + 0 ≤ _)⟩)
  dsimp only [Pt.U, Pt.locs, Pt.cells, Pt.slots] at X34z l34z y34z z34z st34z hQ34z
  subst l34z y34z z34z
  obtain ⟨rfl, NQ34z, K34zq⟩ := hQ34z
  refine own_tr st34z ?_
  have N34z := Fr.app N29z NQ34z
  show own_G p e below (T34z.setTop (mkF m 115 #[.val (.long p0), .second, .val (.long p1), .second, .val (.long p2), .second, .val (.int p3), .val (.ref b1z), .val (.ref a_5z), .val (.int (Int32.ofNat ((((((((0 + own_t0.length) + (own_sl p0).length) + own_t1.length) + (own_sl p1).length) + own_t2.length) + (own_sl p2).length) + own_t3.length) + (own_sl ((p3).toInt64)).length)))] [(.int (Int32.ofNat (own_tot p0 p1 p2 p3).length)), (.int (Int32.ofNat ((((((((0 + own_t0.length) + (own_sl p0).length) + own_t1.length) + (own_sl p1).length) + own_t2.length) + (own_sl p2).length) + own_t3.length) + (own_sl ((p3).toInt64)).length)))])) _
  refine own_go (fun t k => XS.icmpNo X34z.here hx rfl (hb hby at_115) rfl (teq (congrArg Int32.ofNat (own_totlen p0 p1 p2 p3))).2 k) ?_
  show own_G p e below (T34z.setTop (mkF m 118 #[.val (.long p0), .second, .val (.long p1), .second, .val (.long p2), .second, .val (.int p3), .val (.ref b1z), .val (.ref a_5z), .val (.int (Int32.ofNat ((((((((0 + own_t0.length) + (own_sl p0).length) + own_t1.length) + (own_sl p1).length) + own_t2.length) + (own_sl p2).length) + own_t3.length) + (own_sl ((p3).toInt64)).length)))] [])) _
  refine own_go (fun t k => XS.iconst X34z.here hx rfl (hb hby at_118) k) ?_
  refine own_go (fun t k => XS.goto X34z.here hx rfl (pc0 := 119) (pc' := 123) rfl (hb hby at_119) (by decide) (by decide) k) ?_
  show own_G p e below (T34z.setTop (mkF m 123 #[.val (.long p0), .second, .val (.long p1), .second, .val (.long p2), .second, .val (.int p3), .val (.ref b1z), .val (.ref a_5z), .val (.int (Int32.ofNat ((((((((0 + own_t0.length) + (own_sl p0).length) + own_t1.length) + (own_sl p1).length) + own_t2.length) + (own_sl p2).length) + own_t3.length) + (own_sl ((p3).toInt64)).length)))] [(.int (1 : Int32))])) _
  exact own_retH X34z Si26z (by rw [K34zq]; exact Sn30z) hx Bd.returns rfl (Or.inl ⟨rfl, Or.inr (Or.inl rfl), _, rfl⟩) (hb hby at_123) hlk (Nat.le_of_ble_eq_true rfl) (Nat.le_of_ble_eq_true rfl) (by show Q_own_law Z p0 p1 p2 p3 cz fm h0 _ T34z.heap _; rw [K34zq]; exact ⟨rfl, N34z, K30z⟩) (by rw [hh]; rw [K34zq]; exact CR30z.trans (CHv.at X34z hZ26z (own_EW hw) CR30z.1))
theorem own_evO {s : State} {args : Array Value} {r : Nat} (hr : r < 100) : (Term.add (Term.int (48 : Int32)) (Term.rem (Term.index (0 : Nat)) (Term.int (10 : Int32)))).eval args s none [r] s = some (.int (Int32.ofNat (48 + r % 10))) := by
  rw [← own_fOnes ⟨r, hr⟩]; simp [Term.eval]
theorem own_evT {s : State} {args : Array Value} {r : Nat} (hr : r < 100) : (Term.add (Term.int (48 : Int32)) (Term.div (Term.index (0 : Nat)) (Term.int (10 : Int32)))).eval args s none [r] s = some (.int (Int32.ofNat (48 + r / 10))) := by
  rw [← own_fTens ⟨r, hr⟩]; simp [Term.eval]
set_option maxRecDepth 65536 in
set_option maxHeartbeats 40000000 in
theorem comes_1 {Post : Tables → Env → Array Value → State → Outcome → State → Prop} (hpost : ∀ tb e args s v u, (limb_1_1.after args s (.returned v) u = true ∧ limb_1_2.after args s (.returned v) u = true ∧ True) → ReturnedEndW s (.returned v) u (Jvm.fieldLocs frame_1_writes args s ++ Jvm.arrayLocs frame_1_arrays args s ++ Jvm.staticLocs frame_1_statics s) 176 11648 → Post tb e args s (.returned v) u) :
    ArmFor flags0 classFile x code maxLocals ret World_1 tables_1 room_1 Calls_1 rest_1 Pre_1 Post := by
  intro l hfl _ _ p e ha hc hk s m args below hf hA hF happ hP
  obtain ⟨hcalls, hrest, hpre⟩ := hP
  obtain ⟨-, -, -, hnamed, -, -, -, hat⟩ := (Spec.applies_iff hf).mp happ
  obtain ⟨hg, hn⟩ := and_e (Cond.before_iff.mp (show (Jvm.Cond.and given_1 narrow_1).before args s = true from hpre))
  obtain ⟨hg0, hg1⟩ := and_e hg
  obtain ⟨hy0, hz0⟩ := and_e hg1
  obtain ⟨hy1, hz1⟩ := and_e hz0
  obtain ⟨hy2, hz2⟩ := and_e hz1
  obtain ⟨w0, w1, w2, w3, rfl⟩ : ∃ w0 w1 w2 w3 : Value, args = #[w0, w1, w2, w3] := by
    have hs : args.size = 4 := by simpa [Cond.value, given_1] using hg0
    obtain ⟨L⟩ := args
    match L, hs with
    | [w0, w1, w2, w3], _ => exact ⟨w0, w1, w2, w3, rfl⟩
  have hw := fun d (hd : d ∈ tables_1) => atoms_spec (ws := Jvm.Cond.code x code maxLocals ret :: tables_1) hat d (List.mem_cons_of_mem _ hd)
  have hfit : Fit s := fun {y c} hc i hi => by
    obtain ⟨ha, rfl⟩ := Array.getElem?_eq_some_iff.mp hc
    have q := List.all_eq_true.mp ((Array.all_eq_true_iff_forall_mem.mp hF) _ (Array.getElem_mem ha)) i (List.mem_range.mpr hi)
    simpa [Array.getElem?_eq_getElem hi] using q
  obtain ⟨i0, ea0⟩ := isL_v hy0
  obtain rfl : w0 = (.long i0) := Option.some.inj ea0
  obtain ⟨i1, ea1⟩ := isL_v hy1
  obtain rfl : w1 = (.long i1) := Option.some.inj ea1
  obtain ⟨i2, ea2⟩ := isL_v hy2
  obtain rfl : w2 = (.long i2) := Option.some.inj ea2
  obtain ⟨i3, ea3⟩ := is_v hz2
  obtain rfl : w3 = (.int i3) := Option.some.inj ea3
  obtain ⟨hsets, hown0⟩ := atoms_of _ (rest_1_c_eq ▸ (show rest_1_c.before _ s = true from hrest))
  have hS := fun d (hd : d ∈ jdkStatics_1) => hsets d hd
  obtain ⟨cz, evS⟩ := is_v (Cond.before_iff.mp (own_hw hS 1 rfl))
  have S_CS : Sta s s.heap "java/lang/String" "COMPACT_STRINGS" "Z" (.int cz) := Sta.start evS (Or.inl (own_hw hS 0 rfl))
  have hcs : ¬ (cz = (0 : Int32)) := gotF (Cond.eq_ints evS (Term.int_eval (0))) (not_v (Cond.before_iff.mp (own_hw hS 2 rfl)))
  obtain ⟨fm, evF, hfm⟩ := isR_v (Cond.before_iff.mp (own_hw hS 8 rfl))
  have S_FM : Sta s s.heap "jdk/internal/util/Preconditions" "SIOOBE_FORMATTER" "Ljava/util/function/BiFunction;" fm := Sta.start evF (Or.inl (own_hw hS 7 rfl))
  obtain ⟨d1, ev1⟩ := exa_v (Cond.before_iff.mp (own_hw hS 12 rfl))
  have S1 : Sta s s.heap "java/lang/Integer" "DigitOnes" "[B" (.ref d1) := Sta.start ev1 (Or.inl (own_hw hS 11 rfl))
  obtain ⟨st1, D1, t1, on1, f1⟩ := own_tblA (fun r => 48 + r % 10) ev1 (fun _ => ev1) S1 (Cond.before_iff.mp (own_hw hS 12 rfl)) (own_hw hw 37 rfl) (Cond.before_iff.mp (own_hw hS 13 rfl)) (Cond.before_iff.mp (own_hw hS 14 rfl)) (fun r hr => own_evO hr)
  obtain ⟨d2, ev2⟩ := exa_v (Cond.before_iff.mp (own_hw hS 17 rfl))
  have S2 : Sta s s.heap "java/lang/Integer" "DigitTens" "[B" (.ref d2) := Sta.start ev2 (Or.inl (own_hw hS 16 rfl))
  obtain ⟨st2, D2, t2, on2, f2⟩ := own_tblA (fun r => 48 + r / 10) ev2 (fun _ => ev2) S2 (Cond.before_iff.mp (own_hw hS 17 rfl)) (own_hw hw 37 rfl) (Cond.before_iff.mp (own_hw hS 18 rfl)) (Cond.before_iff.mp (own_hw hS 19 rfl)) (fun r hr => own_evT hr)
  have DT : own_DT s := own_DTstart t1 t2 on1 on2 f1 f2 (own_hw hS 10 rfl) (own_hw hS 15 rfl)
  have CH0 : CHv s own_EL s.vm s.heap := CHv.start (own_EW hw) (fun p hp => hcalls.1 p hp) (own_hw hS 2 rfl) (own_hw hw 37 rfl) (own_hw hw 43 rfl)
  obtain ⟨n, o, h1, h2, h3, _, L, rfl, hQ, -, hq⟩ := own_law l s _ hw tables_1 i0 i1 i2 i3 cz fm s.heap (own_ext_refl _) DT S_CS hcs S_FM hfm p e ha hc hk s m _ below hf ((Spec.applies_iff_loose hf).mp happ).1 ⟨rfl, State.Warmed39.refl s, rfl, CH0⟩ trivial
  obtain ⟨rfl, N, -⟩ := hQ
  exact ⟨n, _, h1, h2, h3, hpost _ _ _ _ _ _ ⟨Cond.after_iff.mpr rfl, Cond.after_iff.mpr (eq_i res_at (Term.int_eval (1)) rfl), trivial⟩ ⟨hq.1, hq.2.1, hq.2.2.1, (hq.2.2.2.sift fun y hy => Or.inr (N y hy)).mono (by decide) (by decide)⟩⟩
theorem main_1_1 : Claimed_1_1 := comes_1 fun _ _ _ _ _ _ h hF => ⟨h.1, hF⟩
theorem main_1_2 : Claimed_1_2 := comes_1 fun _ _ _ _ _ _ h hF => ⟨h.2.1, hF⟩
end Jvm.Pilot.@@N@@
namespace Jvm.Pilot.@@N@@
open Jvm Jvm.ClassFile Sem Op Lib Jvm.Free Jvm.Stand Jvm.Pilot.@@N@@.Jvm.D
/-! MADE BY PROGRAM (witnessworld.py) out of the Statement's table words and the real class files: 28 classes; the members and pool entries that the words name. The judged class is class 1, her method 1. -/
namespace start1
open Jvm.ClassFile
def u (s : String) : CpInfo := .utf8 (stringToUtf16 s)
/-- a pool by its gaps: so many unusable entries, then the entry; so many at the end -/
def gap : Nat → List CpInfo → List CpInfo
  | 0, r => r
  | n + 1, r => .unusable :: gap n r
def poolList (es : List (Nat × CpInfo)) (last : Nat) : List CpInfo := es.foldr (fun e r => gap e.1 (e.2 :: r)) (gap last [])
def pool (es : List (Nat × CpInfo)) (last : Nat) : Array CpInfo := ⟨poolList es last⟩
def fileOf (pool : Array CpInfo) (this : Nat) (attrs : Array Attribute := #[]) (ms : Array MethodInfo := #[]) (fl : Nat := 33) (sup : Nat := 0) (ifs : Array Nat := #[]) (fds : Array FieldInfo := #[]) : ClassFile where
  minorVersion := 0
  majorVersion := 65
  constantPool := pool
  accessFlags := fl
  thisClass := this
  superClass := sup
  interfaces := ifs
  fields := fds
  methods := ms
  attributes := attrs
def plain (name : String) (sup : Option ClassId) : Class where
  name := name
  kind := .ordinary
  loader := none
  accessFlags := 33
  super := sup
  interfaces := #[]
  cf := none
  fields := #[]
  methods := #[]
  instanceTypes := #[]
  staticTypes := #[]
  resolved := #[]
  callSites := []
  init := .initialized
  statics := none
  mirror := none

def pool0 : Array CpInfo := pool [(5, u "<init>"), (0, u "()V"), (1, .class_ 10), (1, u "java/lang/Object"), (85, u "clone"), (0, u "()Ljava/lang/Object;")] 26

def k0c0 : Code := { maxStack := 0, maxLocals := 1, code := object_method_1_code, exceptionTable := #[], attributes := #[] }
def k0m0 : Method := { name := "<init>", desc := "()V", sig := { parameters := [], returnType := none }, accessFlags := 1, code := some k0c0 }
def k0m1 : Method := { name := "clone", desc := "()Ljava/lang/Object;", sig := { parameters := [], returnType := some (.object "java/lang/Object") }, accessFlags := 260, code := none }
/-- java/lang/Object -/
def k0 : Class := { plain "java/lang/Object" none with
  accessFlags := 33
  interfaces := #[]
  cf := some (fileOf pool0 8 #[] #[{ accessFlags := 1, nameIndex := 5, descriptorIndex := 6, attributes := #[] }, { accessFlags := 260, nameIndex := 96, descriptorIndex := 97, attributes := #[] }] 33 0 #[] #[])
  fields := #[]
  methods := #[k0m0, k0m1]
  instanceTypes := #[]
  staticTypes := #[]
  resolved := Array.replicate 124 none
  statics := none }

def pool1 : Array CpInfo := pool [(2, .class_ 4), (1, u "java/lang/Object"), (0, u "<init>"), (0, u "()V"), (0, .class_ 8), (0, u "com/example/test_context_overlay/testcontextoverlay/context/OverlayCache$Statistics"), (0, .methodref 7 10), (0, .nameAndType 5 11), (0, u "(JJJI)V"), (0, .methodref 7 13), (0, .nameAndType 14 15), (0, u "toString"), (0, u "()Ljava/lang/String;"), (0, .string 17), (0, u "loads="), (0, .methodref 19 20), (0, .class_ 21), (0, .nameAndType 22 23), (0, u "com/example/test_context_overlay/testcontextoverlay/context/StatisticsToStringPinLaw"), (0, u "literal"), (0, u "(Ljava/lang/String;ILjava/lang/String;)I"), (0, .methodref 19 25), (0, .nameAndType 26 27), (0, u "number"), (0, u "(Ljava/lang/String;IJ)I"), (0, .string 29), (0, u ", hits="), (0, .string 31), (0, u ", evictions="), (0, .string 33), (0, u ", size="), (0, .methodref 35 36), (0, .class_ 37), (0, .nameAndType 38 39), (0, u "java/lang/String"), (0, u "length"), (0, u "()I"), (0, .methodref 19 41), (0, .nameAndType 42 43), (0, u "litChar"), (0, u "(Ljava/lang/String;ILjava/lang/String;I)Z"), (0, .methodref 35 45), (0, .nameAndType 46 47), (0, u "charAt"), (0, u "(I)C"), (0, .methodref 19 49), (0, .nameAndType 50 51), (0, u "digitCount"), (0, u "(J)I"), (0, .methodref 19 53), (0, .nameAndType 54 55), (0, u "digit"), (0, u "(Ljava/lang/String;IJII)Z"), (0, .long 10), (1, .long 100), (1, .long 1000), (1, .long 10000), (1, .long 100000), (1, .long 1000000), (1, .long 10000000), (1, .long 100000000), (1, .long 1000000000), (1, .long 10000000000), (1, .long 100000000000), (1, .long 1000000000000), (1, .long 10000000000000), (1, .long 100000000000000), (1, .long 1000000000000000), (1, .long 10000000000000000), (1, .long 100000000000000000), (1, .long 1000000000000000000), (1, .methodref 93 94), (0, .class_ 95), (0, .nameAndType 96 97), (0, u "java/lang/Math"), (0, u "abs"), (0, u "(J)J"), (2, u "law"), (0, u "(JJJI)Z")] 9

def k1m0 : Method := { name := "<init>", desc := "()V", sig := { parameters := [], returnType := none }, accessFlags := 2, code := none }
def k1c1 : Code := { maxStack := 9, maxLocals := 10, code := code, exceptionTable := #[], attributes := #[] }
def k1m1 : Method := { name := "law", desc := "(JJJI)Z", sig := { parameters := [.long, .long, .long, .int], returnType := some .boolean }, accessFlags := 9, code := some k1c1 }
def k1c2 : Code := { maxStack := 4, maxLocals := 4, code := method_3_code, exceptionTable := #[], attributes := #[] }
def k1m2 : Method := { name := "literal", desc := "(Ljava/lang/String;ILjava/lang/String;)I", sig := { parameters := [(.object "java/lang/String"), .int, (.object "java/lang/String")], returnType := some .int }, accessFlags := 10, code := some k1c2 }
def k1c3 : Code := { maxStack := 3, maxLocals := 4, code := method_4_code, exceptionTable := #[], attributes := #[] }
def k1m3 : Method := { name := "litChar", desc := "(Ljava/lang/String;ILjava/lang/String;I)Z", sig := { parameters := [(.object "java/lang/String"), .int, (.object "java/lang/String"), .int], returnType := some .boolean }, accessFlags := 10, code := some k1c3 }
def k1c4 : Code := { maxStack := 6, maxLocals := 7, code := method_5_code, exceptionTable := #[], attributes := #[] }
def k1m4 : Method := { name := "number", desc := "(Ljava/lang/String;IJ)I", sig := { parameters := [(.object "java/lang/String"), .int, .long], returnType := some .int }, accessFlags := 10, code := some k1c4 }
def k1c5 : Code := { maxStack := 4, maxLocals := 3, code := method_6_code, exceptionTable := #[], attributes := #[] }
def k1m5 : Method := { name := "digitCount", desc := "(J)I", sig := { parameters := [.long], returnType := some .int }, accessFlags := 10, code := some k1c5 }
def k1c6 : Code := { maxStack := 5, maxLocals := 10, code := method_7_code, exceptionTable := #[], attributes := #[] }
def k1m6 : Method := { name := "digit", desc := "(Ljava/lang/String;IJII)Z", sig := { parameters := [(.object "java/lang/String"), .int, .long, .int, .int], returnType := some .boolean }, accessFlags := 10, code := some k1c6 }
/-- com/example/test_context_overlay/testcontextoverlay/context/StatisticsToStringPinLaw -/
def k1 : Class := { plain "com/example/test_context_overlay/testcontextoverlay/context/StatisticsToStringPinLaw" (some 0) with
  accessFlags := 49
  interfaces := #[]
  cf := some (fileOf pool1 19 #[] #[{ accessFlags := 2, nameIndex := 5, descriptorIndex := 6, attributes := #[] }, { accessFlags := 9, nameIndex := 100, descriptorIndex := 101, attributes := #[] }, { accessFlags := 10, nameIndex := 22, descriptorIndex := 23, attributes := #[] }, { accessFlags := 10, nameIndex := 42, descriptorIndex := 43, attributes := #[] }, { accessFlags := 10, nameIndex := 26, descriptorIndex := 27, attributes := #[] }, { accessFlags := 10, nameIndex := 50, descriptorIndex := 51, attributes := #[] }, { accessFlags := 10, nameIndex := 54, descriptorIndex := 55, attributes := #[] }] 49 2 #[] #[])
  fields := #[]
  methods := #[k1m0, k1m1, k1m2, k1m3, k1m4, k1m5, k1m6]
  instanceTypes := #[]
  staticTypes := #[]
  resolved := Array.replicate 111 none
  statics := none }

def pool2 : Array CpInfo := pool [(1, .methodref 2 3), (0, .class_ 4), (0, .nameAndType 5 6), (0, u "java/lang/Object"), (0, u "<init>"), (0, u "()V"), (0, .fieldref 8 9), (0, .class_ 10), (0, .nameAndType 11 12), (0, u "com/example/test_context_overlay/testcontextoverlay/context/OverlayCache$Statistics"), (0, u "loads"), (0, u "J"), (0, .fieldref 8 14), (0, .nameAndType 15 12), (0, u "hits"), (0, .fieldref 8 17), (0, .nameAndType 18 12), (0, u "evictions"), (0, .fieldref 8 20), (0, .nameAndType 21 22), (0, u "size"), (0, u "I"), (0, .class_ 24), (0, u "java/lang/StringBuilder"), (0, .methodref 23 3), (0, .string 27), (0, u "loads="), (0, .methodref 23 29), (0, .nameAndType 30 31), (0, u "append"), (0, u "(Ljava/lang/String;)Ljava/lang/StringBuilder;"), (0, .methodref 23 33), (0, .nameAndType 30 34), (0, u "(J)Ljava/lang/StringBuilder;"), (0, .string 36), (0, u ", hits="), (0, .string 38), (0, u ", evictions="), (0, .string 40), (0, u ", size="), (0, .methodref 23 42), (0, .nameAndType 30 43), (0, u "(I)Ljava/lang/StringBuilder;"), (0, .methodref 23 45), (0, .nameAndType 46 47), (0, u "toString"), (0, u "()Ljava/lang/String;"), (0, u "(JJJI)V"), (7, .class_ 57), (0, u "com/example/test_context_overlay/testcontextoverlay/context/OverlayCache")] 2

def k2c0 : Code := { maxStack := 3, maxLocals := 8, code := prog_18_method_1_code, exceptionTable := #[], attributes := #[] }
def k2m0 : Method := { name := "<init>", desc := "(JJJI)V", sig := { parameters := [.long, .long, .long, .int], returnType := none }, accessFlags := 0, code := some k2c0 }
def k2c1 : Code := { maxStack := 3, maxLocals := 1, code := prog_18_method_6_code, exceptionTable := #[], attributes := #[] }
def k2m1 : Method := { name := "toString", desc := "()Ljava/lang/String;", sig := { parameters := [], returnType := some (.object "java/lang/String") }, accessFlags := 1, code := some k2c1 }
/-- com/example/test_context_overlay/testcontextoverlay/context/OverlayCache$Statistics -/
def k2 : Class := { plain "com/example/test_context_overlay/testcontextoverlay/context/OverlayCache$Statistics" (some 0) with
  accessFlags := 49
  interfaces := #[]
  cf := some (fileOf pool2 8 #[.nestHost 56] #[{ accessFlags := 0, nameIndex := 5, descriptorIndex := 48, attributes := #[] }, { accessFlags := 1, nameIndex := 46, descriptorIndex := 47, attributes := #[] }] 49 2 #[] #[{ accessFlags := 18, nameIndex := 11, descriptorIndex := 12, attributes := #[] }, { accessFlags := 18, nameIndex := 15, descriptorIndex := 12, attributes := #[] }, { accessFlags := 18, nameIndex := 18, descriptorIndex := 12, attributes := #[] }, { accessFlags := 18, nameIndex := 21, descriptorIndex := 22, attributes := #[] }])
  fields := #[{ name := "loads", type := .long, accessFlags := 18, slot := 0, constantValue := 0 }, { name := "hits", type := .long, accessFlags := 18, slot := 1, constantValue := 0 }, { name := "evictions", type := .long, accessFlags := 18, slot := 2, constantValue := 0 }, { name := "size", type := .int, accessFlags := 18, slot := 3, constantValue := 0 }]
  methods := #[k2m0, k2m1]
  instanceTypes := #[.long, .long, .long, .int]
  staticTypes := #[]
  resolved := Array.replicate 60 none
  statics := none }

def pool3 : Array CpInfo := pool [(1, .class_ 2), (0, u "java/lang/Appendable"), (0, .class_ 4), (0, u "java/lang/Object")] 9

/-- java/lang/Appendable -/
def k3 : Class := { plain "java/lang/Appendable" (some 0) with
  accessFlags := 1537
  interfaces := #[]
  cf := some (fileOf pool3 1 #[] #[] 1537 3 #[] #[])
  fields := #[]
  methods := #[]
  instanceTypes := #[]
  staticTypes := #[]
  resolved := Array.replicate 14 none
  statics := none }

def pool4 : Array CpInfo := pool [(2, .class_ 4), (1, u "java/lang/CharSequence"), (42, .class_ 48), (0, u "java/lang/CharSequence$1CodePointIterator"), (10, .class_ 60), (0, u "java/lang/CharSequence$1CharIterator"), (5, .class_ 67), (0, u "java/lang/Object")] 63

/-- java/lang/CharSequence -/
def k4 : Class := { plain "java/lang/CharSequence" (some 0) with
  accessFlags := 1537
  interfaces := #[]
  cf := some (fileOf pool4 2 #[.nestMembers #[47, 59]] #[] 1537 66 #[] #[])
  fields := #[]
  methods := #[]
  instanceTypes := #[]
  staticTypes := #[]
  resolved := Array.replicate 131 none
  statics := none }

def pool5 : Array CpInfo := pool [(1, .class_ 2), (0, u "java/lang/String"), (0, .methodref 4 5), (0, .class_ 6), (0, .nameAndType 7 8), (0, u "java/lang/Object"), (0, u "<init>"), (0, u "()V"), (1, .class_ 12), (1, u "java/lang/AbstractStringBuilder"), (0, u "EMPTYVALUE"), (0, u "[B"), (0, .fieldref 10 16), (0, .nameAndType 17 14), (0, u "value"), (0, .fieldref 1 19), (0, .nameAndType 20 21), (0, u "COMPACT_STRINGS"), (0, u "Z"), (0, .fieldref 10 23), (0, .nameAndType 24 25), (0, u "coder"), (0, u "B"), (6, .methodref 1 33), (0, .nameAndType 34 35), (0, u "length"), (0, u "()I"), (0, .class_ 37), (0, u "java/lang/Integer"), (1, .integer 2147483647), (0, .methodref 1 41), (0, .nameAndType 24 42), (0, u "()B"), (2, u "append"), (0, u "(Ljava/lang/String;)Ljava/lang/AbstractStringBuilder;"), (1, .class_ 49), (0, u "java/lang/CharSequence"), (19, u "(Ljava/lang/String;)V"), (5, u "maybeLatin1"), (3, .fieldref 10 80), (0, .nameAndType 81 82), (0, u "count"), (0, u "I"), (0, .methodref 10 84), (0, .nameAndType 85 86), (0, u "isLatin1"), (0, u "()Z"), (13, .methodref 10 101), (0, .nameAndType 102 103), (0, u "ensureCapacityInternal"), (0, u "(I)V"), (0, .methodref 10 105), (0, .nameAndType 106 107), (0, u "newCapacity"), (0, u "(I)I"), (0, .methodref 109 110), (0, .class_ 111), (0, .nameAndType 112 113), (0, u "java/util/Arrays"), (0, u "copyOf"), (0, u "([BI)[B"), (0, .methodref 115 116), (0, .class_ 117), (0, .nameAndType 118 119), (0, u "jdk/internal/util/ArraysSupport"), (0, u "newLength"), (0, u "(III)I"), (68, u "getChars"), (19, .methodref 10 209), (0, .nameAndType 210 211), (0, u "putStringAt"), (0, u "(ILjava/lang/String;)V"), (5, u "inflateIfNeededFor"), (2, .nameAndType 221 222), (0, u "getBytes"), (0, u "([BIB)V"), (22, .methodref 36 246), (0, .nameAndType 247 107), (0, u "stringSize"), (0, .methodref 36 249), (0, .nameAndType 188 250), (0, u "(II[B)I"), (3, .methodref 255 256), (0, .class_ 257), (0, .nameAndType 247 258), (0, u "java/lang/Long"), (0, u "(J)I"), (0, .methodref 255 260), (0, .nameAndType 188 261), (0, u "(JI[B)I"), (135, .methodref 10 398), (0, .nameAndType 217 69), (0, .methodref 1 220), (3, u "()[B"), (40, .class_ 445), (0, u "java/lang/Appendable"), (65, u "(I)Ljava/lang/AbstractStringBuilder;"), (1, u "(J)Ljava/lang/AbstractStringBuilder;"), (38, u "getValue")] 56

def k5m0 : Method := { name := "<init>", desc := "()V", sig := { parameters := [], returnType := none }, accessFlags := 0, code := none }
def k5c1 : Code := { maxStack := 2, maxLocals := 2, code := jdk_68_method_2_code, exceptionTable := #[], attributes := #[] }
def k5m1 : Method := { name := "<init>", desc := "(I)V", sig := { parameters := [.int], returnType := none }, accessFlags := 0, code := some k5c1 }
def k5c2 : Code := { maxStack := 1, maxLocals := 1, code := jdk_68_method_6_code, exceptionTable := #[], attributes := #[] }
def k5m2 : Method := { name := "length", desc := "()I", sig := { parameters := [], returnType := some .int }, accessFlags := 1, code := some k5c2 }
def k5c3 : Code := { maxStack := 4, maxLocals := 3, code := jdk_68_method_9_code, exceptionTable := #[], attributes := #[] }
def k5m3 : Method := { name := "ensureCapacityInternal", desc := "(I)V", sig := { parameters := [.int], returnType := none }, accessFlags := 2, code := some k5c3 }
def k5c4 : Code := { maxStack := 5, maxLocals := 6, code := jdk_68_method_10_code, exceptionTable := #[], attributes := #[] }
def k5m4 : Method := { name := "newCapacity", desc := "(I)I", sig := { parameters := [.int], returnType := some .int }, accessFlags := 2, code := some k5c4 }
def k5c5 : Code := { maxStack := 3, maxLocals := 3, code := jdk_68_method_22_code, exceptionTable := #[], attributes := #[] }
def k5m5 : Method := { name := "append", desc := "(Ljava/lang/String;)Ljava/lang/AbstractStringBuilder;", sig := { parameters := [(.object "java/lang/String")], returnType := some (.object "java/lang/AbstractStringBuilder") }, accessFlags := 1, code := some k5c5 }
def k5c6 : Code := { maxStack := 4, maxLocals := 4, code := jdk_68_method_32_code, exceptionTable := #[], attributes := #[] }
def k5m6 : Method := { name := "append", desc := "(I)Ljava/lang/AbstractStringBuilder;", sig := { parameters := [.int], returnType := some (.object "java/lang/AbstractStringBuilder") }, accessFlags := 1, code := some k5c6 }
def k5c7 : Code := { maxStack := 5, maxLocals := 5, code := jdk_68_method_33_code, exceptionTable := #[], attributes := #[] }
def k5m7 : Method := { name := "append", desc := "(J)Ljava/lang/AbstractStringBuilder;", sig := { parameters := [.long], returnType := some (.object "java/lang/AbstractStringBuilder") }, accessFlags := 1, code := some k5c7 }
def k5c8 : Code := { maxStack := 1, maxLocals := 1, code := jdk_68_method_64_code, exceptionTable := #[], attributes := #[] }
def k5m8 : Method := { name := "getValue", desc := "()[B", sig := { parameters := [], returnType := some (.array .byte) }, accessFlags := 16, code := some k5c8 }
def k5c9 : Code := { maxStack := 1, maxLocals := 1, code := jdk_68_method_68_code, exceptionTable := #[], attributes := #[] }
def k5m9 : Method := { name := "isLatin1", desc := "()Z", sig := { parameters := [], returnType := some .boolean }, accessFlags := 16, code := some k5c9 }
def k5c10 : Code := { maxStack := 2, maxLocals := 2, code := jdk_68_method_71_code, exceptionTable := #[], attributes := #[] }
def k5m10 : Method := { name := "inflateIfNeededFor", desc := "(Ljava/lang/String;)V", sig := { parameters := [(.object "java/lang/String")], returnType := none }, accessFlags := 2, code := some k5c10 }
def k5c11 : Code := { maxStack := 4, maxLocals := 3, code := jdk_68_method_73_code, exceptionTable := #[], attributes := #[] }
def k5m11 : Method := { name := "putStringAt", desc := "(ILjava/lang/String;)V", sig := { parameters := [.int, (.object "java/lang/String")], returnType := none }, accessFlags := 2, code := some k5c11 }
/-- java/lang/AbstractStringBuilder -/
def k5 : Class := { plain "java/lang/AbstractStringBuilder" (some 0) with
  accessFlags := 1056
  interfaces := #[3, 4]
  cf := some (fileOf pool5 10 #[] #[{ accessFlags := 0, nameIndex := 7, descriptorIndex := 8, attributes := #[] }, { accessFlags := 0, nameIndex := 7, descriptorIndex := 103, attributes := #[] }, { accessFlags := 1, nameIndex := 34, descriptorIndex := 35, attributes := #[] }, { accessFlags := 2, nameIndex := 102, descriptorIndex := 103, attributes := #[] }, { accessFlags := 2, nameIndex := 106, descriptorIndex := 107, attributes := #[] }, { accessFlags := 1, nameIndex := 45, descriptorIndex := 46, attributes := #[] }, { accessFlags := 1, nameIndex := 45, descriptorIndex := 511, attributes := #[] }, { accessFlags := 1, nameIndex := 45, descriptorIndex := 513, attributes := #[] }, { accessFlags := 16, nameIndex := 552, descriptorIndex := 403, attributes := #[] }, { accessFlags := 16, nameIndex := 85, descriptorIndex := 86, attributes := #[] }, { accessFlags := 2, nameIndex := 217, descriptorIndex := 69, attributes := #[] }, { accessFlags := 2, nameIndex := 210, descriptorIndex := 211, attributes := #[] }] 1056 4 #[444, 48] #[{ accessFlags := 0, nameIndex := 17, descriptorIndex := 14, attributes := #[] }, { accessFlags := 0, nameIndex := 24, descriptorIndex := 25, attributes := #[] }, { accessFlags := 0, nameIndex := 75, descriptorIndex := 21, attributes := #[] }, { accessFlags := 0, nameIndex := 81, descriptorIndex := 82, attributes := #[] }, { accessFlags := 26, nameIndex := 13, descriptorIndex := 14, attributes := #[] }])
  fields := #[{ name := "value", type := (.array .byte), accessFlags := 0, slot := 0, constantValue := 0 }, { name := "coder", type := .byte, accessFlags := 0, slot := 1, constantValue := 0 }, { name := "maybeLatin1", type := .boolean, accessFlags := 0, slot := 2, constantValue := 0 }, { name := "count", type := .int, accessFlags := 0, slot := 3, constantValue := 0 }, { name := "EMPTYVALUE", type := (.array .byte), accessFlags := 26, slot := 0, constantValue := 0 }]
  methods := #[k5m0, k5m1, k5m2, k5m3, k5m4, k5m5, k5m6, k5m7, k5m8, k5m9, k5m10, k5m11]
  instanceTypes := #[(.array .byte), .byte, .boolean, .int]
  staticTypes := #[(.array .byte)]
  resolved := Array.replicate 609 none
  statics := none }

def pool6 : Array CpInfo := pool [(1, .class_ 2), (0, u "java/io/Serializable"), (0, .class_ 4), (0, u "java/lang/Object")] 2

/-- java/io/Serializable -/
def k6 : Class := { plain "java/io/Serializable" (some 0) with
  accessFlags := 1537
  interfaces := #[]
  cf := some (fileOf pool6 1 #[] #[] 1537 3 #[] #[])
  fields := #[]
  methods := #[]
  instanceTypes := #[]
  staticTypes := #[]
  resolved := Array.replicate 7 none
  statics := none }

def pool7 : Array CpInfo := pool [(1, .class_ 2), (0, u "java/lang/Comparable"), (0, .class_ 4), (0, u "java/lang/Object")] 7

/-- java/lang/Comparable -/
def k7 : Class := { plain "java/lang/Comparable" (some 0) with
  accessFlags := 1537
  interfaces := #[]
  cf := some (fileOf pool7 1 #[] #[] 1537 3 #[] #[])
  fields := #[]
  methods := #[]
  instanceTypes := #[]
  staticTypes := #[]
  resolved := Array.replicate 12 none
  statics := none }

def pool8 : Array CpInfo := pool [(1, .methodref 2 3), (0, .class_ 4), (0, .nameAndType 5 6), (0, u "java/lang/AbstractStringBuilder"), (0, u "<init>"), (0, u "(I)V"), (11, .class_ 20), (1, u "java/lang/String"), (3, .class_ 26), (1, u "java/lang/StringBuilder"), (0, u "append"), (0, u "(Ljava/lang/String;)Ljava/lang/StringBuilder;"), (0, .methodref 2 30), (0, .nameAndType 27 31), (0, u "(Ljava/lang/String;)Ljava/lang/AbstractStringBuilder;"), (21, .methodref 2 54), (0, .nameAndType 27 55), (0, u "(I)Ljava/lang/AbstractStringBuilder;"), (0, .methodref 2 57), (0, .nameAndType 27 58), (0, u "(J)Ljava/lang/AbstractStringBuilder;"), (78, .methodref 18 138), (0, .nameAndType 5 139), (0, u "(Ljava/lang/StringBuilder;)V"), (5, u "()V"), (10, u "()I"), (111, u "(I)Ljava/lang/StringBuilder;"), (12, u "(J)Ljava/lang/StringBuilder;"), (61, .methodref 2 344), (0, .nameAndType 345 156), (0, u "length"), (3, .class_ 350), (0, u "java/lang/Appendable"), (0, .class_ 352), (0, u "java/io/Serializable"), (0, .class_ 354), (0, u "java/lang/Comparable"), (0, .class_ 356), (0, u "java/lang/CharSequence"), (0, u "serialVersionUID"), (0, u "J"), (40, u "toString"), (0, u "()Ljava/lang/String;")] 21

def k8c0 : Code := { maxStack := 2, maxLocals := 1, code := jdk_67_method_1_code, exceptionTable := #[], attributes := #[] }
def k8m0 : Method := { name := "<init>", desc := "()V", sig := { parameters := [], returnType := none }, accessFlags := 1, code := some k8c0 }
def k8c1 : Code := { maxStack := 2, maxLocals := 2, code := jdk_67_method_7_code, exceptionTable := #[], attributes := #[] }
def k8m1 : Method := { name := "append", desc := "(Ljava/lang/String;)Ljava/lang/StringBuilder;", sig := { parameters := [(.object "java/lang/String")], returnType := some (.object "java/lang/StringBuilder") }, accessFlags := 1, code := some k8c1 }
def k8c2 : Code := { maxStack := 2, maxLocals := 2, code := jdk_67_method_15_code, exceptionTable := #[], attributes := #[] }
def k8m2 : Method := { name := "append", desc := "(I)Ljava/lang/StringBuilder;", sig := { parameters := [.int], returnType := some (.object "java/lang/StringBuilder") }, accessFlags := 1, code := some k8c2 }
def k8c3 : Code := { maxStack := 3, maxLocals := 3, code := jdk_67_method_16_code, exceptionTable := #[], attributes := #[] }
def k8m3 : Method := { name := "append", desc := "(J)Ljava/lang/StringBuilder;", sig := { parameters := [.long], returnType := some (.object "java/lang/StringBuilder") }, accessFlags := 1, code := some k8c3 }
def k8c4 : Code := { maxStack := 3, maxLocals := 1, code := jdk_67_method_42_code, exceptionTable := #[], attributes := #[] }
def k8m4 : Method := { name := "toString", desc := "()Ljava/lang/String;", sig := { parameters := [], returnType := some (.object "java/lang/String") }, accessFlags := 1, code := some k8c4 }
def k8c5 : Code := { maxStack := 1, maxLocals := 1, code := jdk_67_method_93_code, exceptionTable := #[], attributes := #[] }
def k8m5 : Method := { name := "length", desc := "()I", sig := { parameters := [], returnType := some .int }, accessFlags := 4161, code := some k8c5 }
/-- java/lang/StringBuilder -/
def k8 : Class := { plain "java/lang/StringBuilder" (some 5) with
  accessFlags := 49
  interfaces := #[3, 6, 7, 4]
  cf := some (fileOf pool8 24 #[] #[{ accessFlags := 1, nameIndex := 5, descriptorIndex := 145, attributes := #[] }, { accessFlags := 1, nameIndex := 27, descriptorIndex := 28, attributes := #[] }, { accessFlags := 1, nameIndex := 27, descriptorIndex := 268, attributes := #[] }, { accessFlags := 1, nameIndex := 27, descriptorIndex := 281, attributes := #[] }, { accessFlags := 1, nameIndex := 399, descriptorIndex := 400, attributes := #[] }, { accessFlags := 4161, nameIndex := 345, descriptorIndex := 156, attributes := #[] }] 49 2 #[349, 351, 353, 355] #[{ accessFlags := 24, nameIndex := 357, descriptorIndex := 358, attributes := #[] }])
  fields := #[{ name := "serialVersionUID", type := .long, accessFlags := 24, slot := 0, constantValue := 0 }]
  methods := #[k8m0, k8m1, k8m2, k8m3, k8m4, k8m5]
  instanceTypes := #[(.array .byte), .byte, .boolean, .int]
  staticTypes := #[.long]
  resolved := Array.replicate 422 none
  statics := none }

def pool9 : Array CpInfo := pool [(1, .class_ 2), (0, u "java/lang/constant/Constable"), (0, .class_ 4), (0, u "java/lang/Object")] 6

/-- java/lang/constant/Constable -/
def k9 : Class := { plain "java/lang/constant/Constable" (some 0) with
  accessFlags := 1537
  interfaces := #[]
  cf := some (fileOf pool9 1 #[] #[] 1537 3 #[] #[])
  fields := #[]
  methods := #[]
  instanceTypes := #[]
  staticTypes := #[]
  resolved := Array.replicate 11 none
  statics := none }

def pool10 : Array CpInfo := pool [(1, .class_ 2), (0, u "java/lang/constant/ConstantDesc"), (0, .class_ 4), (0, u "java/lang/Object")] 32

/-- java/lang/constant/ConstantDesc -/
def k10 : Class := { plain "java/lang/constant/ConstantDesc" (some 0) with
  accessFlags := 1537
  interfaces := #[]
  cf := some (fileOf pool10 1 #[] #[] 1537 3 #[] #[])
  fields := #[]
  methods := #[]
  instanceTypes := #[]
  staticTypes := #[]
  resolved := Array.replicate 37 none
  statics := none }

def pool11 : Array CpInfo := pool [(1, .methodref 2 3), (0, .class_ 4), (0, .nameAndType 5 6), (0, u "java/lang/Object"), (0, u "<init>"), (0, u "()V"), (2, .fieldref 10 11), (0, .class_ 12), (0, .nameAndType 13 14), (0, u "java/lang/String"), (0, u "value"), (0, u "[B"), (0, .fieldref 10 16), (0, .nameAndType 17 18), (0, u "coder"), (0, u "B"), (2, u "hash"), (0, u "I"), (2, u "hashIsZero"), (0, u "Z"), (11, .fieldref 10 39), (0, .nameAndType 40 26), (0, u "COMPACT_STRINGS"), (13, .methodref 55 56), (0, .class_ 57), (0, .nameAndType 58 59), (0, u "java/util/Arrays"), (0, u "copyOfRange"), (0, u "([BII)[B"), (47, .class_ 109), (1, u "java/lang/StringLatin1"), (32, u "()Z"), (50, .class_ 195), (1, u "java/lang/System"), (16, .methodref 193 213), (0, .nameAndType 214 215), (0, u "arraycopy"), (0, u "(Ljava/lang/Object;ILjava/lang/Object;II)V"), (118, u "()I"), (0, .methodref 10 336), (0, .nameAndType 17 337), (0, u "()B"), (2, u "()[B"), (22, u "([BI)C"), (27, u "(II)V"), (35, u "(I)C"), (61, .methodref 10 490), (0, .nameAndType 5 491), (0, u "(Ljava/lang/AbstractStringBuilder;Ljava/lang/Void;)V"), (0, .methodref 10 493), (0, .nameAndType 494 142), (0, u "isLatin1"), (0, .methodref 107 496), (0, .nameAndType 497 363), (0, u "charAt"), (3, u "checkIndex"), (4, .nameAndType 507 334), (0, u "length"), (24, u "getBytes"), (16, .methodref 550 506), (0, .class_ 551), (0, u "java/lang/AbstractStringBuilder"), (0, .methodref 550 553), (0, .nameAndType 554 340), (0, u "getValue"), (20, .class_ 576), (0, u "java/lang/CharSequence"), (22, u "CASE_INSENSITIVE_ORDER"), (0, u "Ljava/util/Comparator;"), (220, u "([BIB)V"), (225, .methodref 550 493), (5, .fieldref 1054 1055), (0, .class_ 1056), (0, .nameAndType 1057 1058), (0, u "jdk/internal/util/Preconditions"), (0, u "SIOOBE_FORMATTER"), (0, u "Ljava/util/function/BiFunction;"), (0, .methodref 1054 1060), (0, .nameAndType 501 1061), (0, u "(IILjava/util/function/BiFunction;)I"), (39, u "serialPersistentFields"), (0, u "[Ljava/io/ObjectStreamField;"), (0, .class_ 1104), (0, u "java/lang/String$CaseInsensitiveComparator"), (1, .class_ 1107), (0, u "java/io/Serializable"), (0, .class_ 1109), (0, u "java/lang/Comparable"), (0, .class_ 1111), (0, u "java/lang/constant/Constable"), (0, .class_ 1113), (0, u "java/lang/constant/ConstantDesc"), (2, u "serialVersionUID"), (0, u "J"), (3, u "REPL"), (0, u "C"), (2, u "LATIN1"), (1, u "UTF16"), (105, u "(Ljava/lang/StringBuilder;)V")] 217

def k11m0 : Method := { name := "<init>", desc := "()V", sig := { parameters := [], returnType := none }, accessFlags := 1, code := none }
def k11c1 : Code := { maxStack := 3, maxLocals := 2, code := jdk_42_method_53_code, exceptionTable := #[], attributes := #[] }
def k11m1 : Method := { name := "<init>", desc := "(Ljava/lang/StringBuilder;)V", sig := { parameters := [(.object "java/lang/StringBuilder")], returnType := none }, accessFlags := 1, code := some k11c1 }
def k11c2 : Code := { maxStack := 2, maxLocals := 1, code := jdk_42_method_54_code, exceptionTable := #[], attributes := #[] }
def k11m2 : Method := { name := "length", desc := "()I", sig := { parameters := [], returnType := some .int }, accessFlags := 1, code := some k11c2 }
def k11c3 : Code := { maxStack := 2, maxLocals := 2, code := jdk_42_method_56_code, exceptionTable := #[], attributes := #[] }
def k11m3 : Method := { name := "charAt", desc := "(I)C", sig := { parameters := [.int], returnType := some .char }, accessFlags := 1, code := some k11c3 }
def k11c4 : Code := { maxStack := 5, maxLocals := 4, code := jdk_42_method_147_code, exceptionTable := #[], attributes := #[] }
def k11m4 : Method := { name := "getBytes", desc := "([BIB)V", sig := { parameters := [(.array .byte), .int, .byte], returnType := none }, accessFlags := 0, code := some k11c4 }
def k11c5 : Code := { maxStack := 5, maxLocals := 5, code := jdk_42_method_150_code, exceptionTable := #[], attributes := #[] }
def k11m5 : Method := { name := "<init>", desc := "(Ljava/lang/AbstractStringBuilder;Ljava/lang/Void;)V", sig := { parameters := [(.object "java/lang/AbstractStringBuilder"), (.object "java/lang/Void")], returnType := none }, accessFlags := 0, code := some k11c5 }
def k11c6 : Code := { maxStack := 1, maxLocals := 1, code := jdk_42_method_152_code, exceptionTable := #[], attributes := #[] }
def k11m6 : Method := { name := "coder", desc := "()B", sig := { parameters := [], returnType := some .byte }, accessFlags := 0, code := some k11c6 }
def k11c7 : Code := { maxStack := 1, maxLocals := 1, code := jdk_42_method_154_code, exceptionTable := #[], attributes := #[] }
def k11m7 : Method := { name := "isLatin1", desc := "()Z", sig := { parameters := [], returnType := some .boolean }, accessFlags := 0, code := some k11c7 }
def k11c8 : Code := { maxStack := 3, maxLocals := 2, code := jdk_42_method_155_code, exceptionTable := #[], attributes := #[] }
def k11m8 : Method := { name := "checkIndex", desc := "(II)V", sig := { parameters := [.int, .int], returnType := none }, accessFlags := 8, code := some k11c8 }
/-- java/lang/String -/
def k11 : Class := { plain "java/lang/String" (some 0) with
  accessFlags := 49
  interfaces := #[6, 7, 4, 9, 10]
  cf := some (fileOf pool11 10 #[.nestMembers #[1103]] #[{ accessFlags := 1, nameIndex := 5, descriptorIndex := 6, attributes := #[] }, { accessFlags := 1, nameIndex := 5, descriptorIndex := 1233, attributes := #[] }, { accessFlags := 1, nameIndex := 507, descriptorIndex := 334, attributes := #[] }, { accessFlags := 1, nameIndex := 497, descriptorIndex := 427, attributes := #[] }, { accessFlags := 0, nameIndex := 532, descriptorIndex := 821, attributes := #[] }, { accessFlags := 0, nameIndex := 5, descriptorIndex := 491, attributes := #[] }, { accessFlags := 0, nameIndex := 17, descriptorIndex := 337, attributes := #[] }, { accessFlags := 0, nameIndex := 494, descriptorIndex := 142, attributes := #[] }, { accessFlags := 8, nameIndex := 501, descriptorIndex := 391, attributes := #[] }] 49 2 #[1106, 1108, 575, 1110, 1112] #[{ accessFlags := 18, nameIndex := 13, descriptorIndex := 14, attributes := #[] }, { accessFlags := 18, nameIndex := 17, descriptorIndex := 18, attributes := #[] }, { accessFlags := 2, nameIndex := 21, descriptorIndex := 22, attributes := #[] }, { accessFlags := 2, nameIndex := 25, descriptorIndex := 26, attributes := #[] }, { accessFlags := 26, nameIndex := 1116, descriptorIndex := 1117, attributes := #[] }, { accessFlags := 24, nameIndex := 40, descriptorIndex := 26, attributes := #[] }, { accessFlags := 26, nameIndex := 1101, descriptorIndex := 1102, attributes := #[] }, { accessFlags := 26, nameIndex := 1121, descriptorIndex := 1122, attributes := #[] }, { accessFlags := 25, nameIndex := 599, descriptorIndex := 600, attributes := #[] }, { accessFlags := 24, nameIndex := 1125, descriptorIndex := 18, attributes := #[] }, { accessFlags := 24, nameIndex := 1127, descriptorIndex := 18, attributes := #[] }])
  fields := #[{ name := "value", type := (.array .byte), accessFlags := 18, slot := 0, constantValue := 0 }, { name := "coder", type := .byte, accessFlags := 18, slot := 1, constantValue := 0 }, { name := "hash", type := .int, accessFlags := 2, slot := 2, constantValue := 0 }, { name := "hashIsZero", type := .boolean, accessFlags := 2, slot := 3, constantValue := 0 }, { name := "serialVersionUID", type := .long, accessFlags := 26, slot := 0, constantValue := 0 }, { name := "COMPACT_STRINGS", type := .boolean, accessFlags := 24, slot := 1, constantValue := 0 }, { name := "serialPersistentFields", type := (.array (.object "java/io/ObjectStreamField")), accessFlags := 26, slot := 2, constantValue := 0 }, { name := "REPL", type := .char, accessFlags := 26, slot := 3, constantValue := 0 }, { name := "CASE_INSENSITIVE_ORDER", type := (.object "java/util/Comparator"), accessFlags := 25, slot := 4, constantValue := 0 }, { name := "LATIN1", type := .byte, accessFlags := 24, slot := 5, constantValue := 0 }, { name := "UTF16", type := .byte, accessFlags := 24, slot := 6, constantValue := 0 }]
  methods := #[k11m0, k11m1, k11m2, k11m3, k11m4, k11m5, k11m6, k11m7, k11m8]
  instanceTypes := #[(.array .byte), .byte, .int, .boolean]
  staticTypes := #[.long, .boolean, (.array (.object "java/io/ObjectStreamField")), .char, (.object "java/util/Comparator"), .byte, .byte]
  resolved := Array.replicate 1451 none
  statics := some 0 }

def pool12 : Array CpInfo := pool [(2, .class_ 4), (1, u "java/lang/Object"), (0, u "<init>"), (0, u "()V"), (1, .class_ 10), (1, u "java/lang/System"), (0, u "allowSecurityManager"), (0, u "I"), (16, u "cons"), (0, u "Ljava/io/Console;"), (77, .class_ 110), (1, u "java/lang/System$CallersHolder"), (43, u "initialErrStream"), (0, u "Ljava/io/PrintStream;"), (19, u "security"), (0, u "Ljava/lang/SecurityManager;"), (31, .class_ 209), (0, u "java/lang/System$1"), (7, u "props"), (0, u "Ljava/util/Properties;"), (2, u "lineSeparator"), (0, u "Ljava/lang/String;"), (96, .class_ 321), (1, u "java/lang/System$LoggerFinder"), (5, .class_ 328), (0, u "java/lang/System$Logger"), (67, u "err"), (2, u "out"), (91, u "notSupportedJnuEncoding"), (15, u "in"), (17, u "initialIn"), (0, u "Ljava/io/InputStream;"), (35, u "bootLayer"), (0, u "Ljava/lang/ModuleLayer;"), (99, .class_ 664), (0, u "java/lang/System$2"), (9, u "NEVER"), (2, u "MAYBE"), (49, u "arraycopy"), (0, u "(Ljava/lang/Object;ILjava/lang/Object;II)V"), (72, .class_ 802), (0, u "java/lang/System$Logger$Level")] 31

def k12m0 : Method := { name := "<init>", desc := "()V", sig := { parameters := [], returnType := none }, accessFlags := 2, code := none }
def k12m1 : Method := { name := "arraycopy", desc := "(Ljava/lang/Object;ILjava/lang/Object;II)V", sig := { parameters := [(.object "java/lang/Object"), .int, (.object "java/lang/Object"), .int, .int], returnType := none }, accessFlags := 265, code := none }
/-- java/lang/System -/
def k12 : Class := { plain "java/lang/System" (some 0) with
  accessFlags := 49
  interfaces := #[]
  cf := some (fileOf pool12 8 #[.nestMembers #[319, 327, 801, 108, 663, 208]] #[{ accessFlags := 2, nameIndex := 5, descriptorIndex := 6, attributes := #[] }, { accessFlags := 265, nameIndex := 727, descriptorIndex := 728, attributes := #[] }] 49 2 #[] #[{ accessFlags := 25, nameIndex := 507, descriptorIndex := 526, attributes := #[] }, { accessFlags := 25, nameIndex := 399, descriptorIndex := 155, attributes := #[] }, { accessFlags := 25, nameIndex := 396, descriptorIndex := 155, attributes := #[] }, { accessFlags := 10, nameIndex := 525, descriptorIndex := 526, attributes := #[] }, { accessFlags := 26, nameIndex := 674, descriptorIndex := 12, attributes := #[] }, { accessFlags := 26, nameIndex := 677, descriptorIndex := 12, attributes := #[] }, { accessFlags := 10, nameIndex := 11, descriptorIndex := 12, attributes := #[] }, { accessFlags := 74, nameIndex := 175, descriptorIndex := 176, attributes := #[] }, { accessFlags := 10, nameIndex := 491, descriptorIndex := 222, attributes := #[] }, { accessFlags := 74, nameIndex := 29, descriptorIndex := 30, attributes := #[] }, { accessFlags := 74, nameIndex := 154, descriptorIndex := 155, attributes := #[] }, { accessFlags := 10, nameIndex := 217, descriptorIndex := 218, attributes := #[] }, { accessFlags := 10, nameIndex := 221, descriptorIndex := 222, attributes := #[] }, { accessFlags := 8, nameIndex := 562, descriptorIndex := 563, attributes := #[] }])
  fields := #[{ name := "in", type := (.object "java/io/InputStream"), accessFlags := 25, slot := 0, constantValue := 0 }, { name := "out", type := (.object "java/io/PrintStream"), accessFlags := 25, slot := 1, constantValue := 0 }, { name := "err", type := (.object "java/io/PrintStream"), accessFlags := 25, slot := 2, constantValue := 0 }, { name := "initialIn", type := (.object "java/io/InputStream"), accessFlags := 10, slot := 3, constantValue := 0 }, { name := "NEVER", type := .int, accessFlags := 26, slot := 4, constantValue := 0 }, { name := "MAYBE", type := .int, accessFlags := 26, slot := 5, constantValue := 0 }, { name := "allowSecurityManager", type := .int, accessFlags := 10, slot := 6, constantValue := 0 }, { name := "security", type := (.object "java/lang/SecurityManager"), accessFlags := 74, slot := 7, constantValue := 0 }, { name := "notSupportedJnuEncoding", type := (.object "java/lang/String"), accessFlags := 10, slot := 8, constantValue := 0 }, { name := "cons", type := (.object "java/io/Console"), accessFlags := 74, slot := 9, constantValue := 0 }, { name := "initialErrStream", type := (.object "java/io/PrintStream"), accessFlags := 74, slot := 10, constantValue := 0 }, { name := "props", type := (.object "java/util/Properties"), accessFlags := 10, slot := 11, constantValue := 0 }, { name := "lineSeparator", type := (.object "java/lang/String"), accessFlags := 10, slot := 12, constantValue := 0 }, { name := "bootLayer", type := (.object "java/lang/ModuleLayer"), accessFlags := 8, slot := 13, constantValue := 0 }]
  methods := #[k12m0, k12m1]
  instanceTypes := #[]
  staticTypes := #[(.object "java/io/InputStream"), (.object "java/io/PrintStream"), (.object "java/io/PrintStream"), (.object "java/io/InputStream"), .int, .int, .int, (.object "java/lang/SecurityManager"), (.object "java/lang/String"), (.object "java/io/Console"), (.object "java/io/PrintStream"), (.object "java/util/Properties"), (.object "java/lang/String"), (.object "java/lang/ModuleLayer")]
  resolved := Array.replicate 834 none
  statics := none }

def pool13 : Array CpInfo := pool [(2, .class_ 4), (1, u "java/lang/Object"), (0, u "<init>"), (0, u "()V"), (1, .class_ 10), (1, u "java/lang/Number"), (2, .class_ 14), (0, u "java/io/Serializable"), (0, u "serialVersionUID"), (0, u "J")] 20

def k13m0 : Method := { name := "<init>", desc := "()V", sig := { parameters := [], returnType := none }, accessFlags := 1, code := none }
/-- java/lang/Number -/
def k13 : Class := { plain "java/lang/Number" (some 0) with
  accessFlags := 1057
  interfaces := #[6]
  cf := some (fileOf pool13 8 #[] #[{ accessFlags := 1, nameIndex := 5, descriptorIndex := 6, attributes := #[] }] 1057 2 #[13] #[{ accessFlags := 26, nameIndex := 15, descriptorIndex := 16, attributes := #[] }])
  fields := #[{ name := "serialVersionUID", type := .long, accessFlags := 26, slot := 0, constantValue := 0 }]
  methods := #[k13m0]
  instanceTypes := #[]
  staticTypes := #[.long]
  resolved := Array.replicate 37 none
  statics := none }

def pool14 : Array CpInfo := pool [(1, .class_ 2), (0, u "java/lang/Long"), (15, .class_ 20), (1, u "java/lang/Integer"), (32, .long 10), (47, u "(J)I"), (18, u "stringSize"), (2, u "getChars"), (0, u "(JI[B)I"), (4, .long 18446744071562067968), (1, .long 100), (1, .fieldref 18 134), (0, .nameAndType 135 136), (0, u "DigitOnes"), (0, u "[B"), (0, .fieldref 18 138), (0, .nameAndType 139 136), (0, u "DigitTens"), (0, .long 18446744073709551606), (94, .class_ 237), (1, u "java/lang/Long$LongCache"), (33, .class_ 272), (0, u "java/lang/Number"), (2, u "value"), (0, u "J"), (84, u "TYPE"), (0, u "Ljava/lang/Class;"), (0, .class_ 364), (0, u "java/lang/Comparable"), (0, .class_ 366), (0, u "java/lang/constant/Constable"), (0, .class_ 368), (0, u "java/lang/constant/ConstantDesc"), (0, u "MIN_VALUE"), (1, u "MAX_VALUE"), (4, u "SIZE"), (0, u "I"), (1, u "BYTES"), (1, u "serialVersionUID")] 142

def k14c0 : Code := { maxStack := 4, maxLocals := 11, code := jdk_35_method_14_code, exceptionTable := #[], attributes := #[] }
def k14m0 : Method := { name := "getChars", desc := "(JI[B)I", sig := { parameters := [.long, .int, (.array .byte)], returnType := some .int }, accessFlags := 8, code := some k14c0 }
def k14c1 : Code := { maxStack := 4, maxLocals := 6, code := jdk_35_method_15_code, exceptionTable := #[], attributes := #[] }
def k14m1 : Method := { name := "stringSize", desc := "(J)I", sig := { parameters := [.long], returnType := some .int }, accessFlags := 8, code := some k14c1 }
/-- java/lang/Long -/
def k14 : Class := { plain "java/lang/Long" (some 13) with
  accessFlags := 49
  interfaces := #[7, 9, 10]
  cf := some (fileOf pool14 1 #[.nestMembers #[235]] #[{ accessFlags := 8, nameIndex := 123, descriptorIndex := 124, attributes := #[] }, { accessFlags := 8, nameIndex := 120, descriptorIndex := 101, attributes := #[] }] 49 271 #[363, 365, 367] #[{ accessFlags := 25, nameIndex := 369, descriptorIndex := 276, attributes := #[] }, { accessFlags := 25, nameIndex := 371, descriptorIndex := 276, attributes := #[] }, { accessFlags := 25, nameIndex := 361, descriptorIndex := 362, attributes := #[] }, { accessFlags := 18, nameIndex := 275, descriptorIndex := 276, attributes := #[] }, { accessFlags := 25, nameIndex := 376, descriptorIndex := 377, attributes := #[] }, { accessFlags := 25, nameIndex := 379, descriptorIndex := 377, attributes := #[] }, { accessFlags := 26, nameIndex := 381, descriptorIndex := 276, attributes := #[] }])
  fields := #[{ name := "MIN_VALUE", type := .long, accessFlags := 25, slot := 0, constantValue := 0 }, { name := "MAX_VALUE", type := .long, accessFlags := 25, slot := 1, constantValue := 0 }, { name := "TYPE", type := (.object "java/lang/Class"), accessFlags := 25, slot := 2, constantValue := 0 }, { name := "value", type := .long, accessFlags := 18, slot := 0, constantValue := 0 }, { name := "SIZE", type := .int, accessFlags := 25, slot := 3, constantValue := 0 }, { name := "BYTES", type := .int, accessFlags := 25, slot := 4, constantValue := 0 }, { name := "serialVersionUID", type := .long, accessFlags := 26, slot := 5, constantValue := 0 }]
  methods := #[k14m0, k14m1]
  instanceTypes := #[.long]
  staticTypes := #[.long, .long, (.object "java/lang/Class"), .int, .int, .long]
  resolved := Array.replicate 524 none
  statics := none }

def pool15 : Array CpInfo := pool [(1, .class_ 2), (0, u "java/lang/Integer"), (16, u "digits"), (0, u "[C"), (33, u "(I)I"), (19, u "stringSize"), (2, u "getChars"), (0, u "(II[B)I"), (4, .fieldref 1 84), (0, .nameAndType 85 86), (0, u "DigitOnes"), (0, u "[B"), (0, .fieldref 1 88), (0, .nameAndType 89 86), (0, u "DigitTens"), (99, .class_ 190), (0, u "java/lang/Integer$IntegerCache"), (3, u "I"), (8, .class_ 204), (0, u "java/lang/Number"), (2, u "value"), (94, u "TYPE"), (0, u "Ljava/lang/Class;"), (0, .class_ 305), (0, u "java/lang/Comparable"), (0, .class_ 307), (0, u "java/lang/constant/Constable"), (0, .class_ 309), (0, u "java/lang/constant/ConstantDesc"), (0, u "MIN_VALUE"), (1, u "MAX_VALUE"), (3, u "SIZE"), (1, u "BYTES"), (1, u "serialVersionUID"), (0, u "J")] 131

def k15c0 : Code := { maxStack := 4, maxLocals := 7, code := jdk_33_method_12_code, exceptionTable := #[], attributes := #[] }
def k15m0 : Method := { name := "getChars", desc := "(II[B)I", sig := { parameters := [.int, .int, (.array .byte)], returnType := some .int }, accessFlags := 8, code := some k15c0 }
def k15c1 : Code := { maxStack := 2, maxLocals := 4, code := jdk_33_method_13_code, exceptionTable := #[], attributes := #[] }
def k15m1 : Method := { name := "stringSize", desc := "(I)I", sig := { parameters := [.int], returnType := some .int }, accessFlags := 8, code := some k15c1 }
/-- java/lang/Integer -/
def k15 : Class := { plain "java/lang/Integer" (some 13) with
  accessFlags := 49
  interfaces := #[7, 9, 10]
  cf := some (fileOf pool15 1 #[.nestMembers #[189]] #[{ accessFlags := 8, nameIndex := 77, descriptorIndex := 78, attributes := #[] }, { accessFlags := 8, nameIndex := 74, descriptorIndex := 54, attributes := #[] }] 49 203 #[304, 306, 308] #[{ accessFlags := 25, nameIndex := 310, descriptorIndex := 194, attributes := #[] }, { accessFlags := 25, nameIndex := 312, descriptorIndex := 194, attributes := #[] }, { accessFlags := 25, nameIndex := 302, descriptorIndex := 303, attributes := #[] }, { accessFlags := 24, nameIndex := 19, descriptorIndex := 20, attributes := #[] }, { accessFlags := 24, nameIndex := 89, descriptorIndex := 86, attributes := #[] }, { accessFlags := 24, nameIndex := 85, descriptorIndex := 86, attributes := #[] }, { accessFlags := 18, nameIndex := 207, descriptorIndex := 194, attributes := #[] }, { accessFlags := 25, nameIndex := 316, descriptorIndex := 194, attributes := #[] }, { accessFlags := 25, nameIndex := 318, descriptorIndex := 194, attributes := #[] }, { accessFlags := 26, nameIndex := 320, descriptorIndex := 321, attributes := #[] }])
  fields := #[{ name := "MIN_VALUE", type := .int, accessFlags := 25, slot := 0, constantValue := 0 }, { name := "MAX_VALUE", type := .int, accessFlags := 25, slot := 1, constantValue := 0 }, { name := "TYPE", type := (.object "java/lang/Class"), accessFlags := 25, slot := 2, constantValue := 0 }, { name := "digits", type := (.array .char), accessFlags := 24, slot := 3, constantValue := 0 }, { name := "DigitTens", type := (.array .byte), accessFlags := 24, slot := 4, constantValue := 0 }, { name := "DigitOnes", type := (.array .byte), accessFlags := 24, slot := 5, constantValue := 0 }, { name := "value", type := .int, accessFlags := 18, slot := 0, constantValue := 0 }, { name := "SIZE", type := .int, accessFlags := 25, slot := 6, constantValue := 0 }, { name := "BYTES", type := .int, accessFlags := 25, slot := 7, constantValue := 0 }, { name := "serialVersionUID", type := .long, accessFlags := 26, slot := 8, constantValue := 0 }]
  methods := #[k15m0, k15m1]
  instanceTypes := #[.int]
  staticTypes := #[.int, .int, (.object "java/lang/Class"), (.array .char), (.array .byte), (.array .byte), .int, .int, .long]
  resolved := Array.replicate 453 none
  statics := some 1 }

def pool16 : Array CpInfo := pool [(9, u "<init>"), (6, .class_ 18), (1, u "java/lang/Object"), (0, u "()V"), (1, .class_ 23), (1, u "jdk/internal/util/ArraysSupport"), (0, u "LOG2_ARRAY_LONG_INDEX_SCALE"), (0, u "I"), (2, u "U"), (0, u "Ljdk/internal/misc/Unsafe;"), (8, u "BIG_ENDIAN"), (0, u "Z"), (8, u "LOG2_BYTE_BIT_SIZE"), (4, u "LOG2_ARRAY_INT_INDEX_SCALE"), (54, u "JLA"), (0, u "Ljdk/internal/access/JavaLangAccess;"), (11, u "LOG2_ARRAY_BOOLEAN_INDEX_SCALE"), (9, u "LOG2_ARRAY_BYTE_INDEX_SCALE"), (5, u "LOG2_ARRAY_CHAR_INDEX_SCALE"), (5, u "LOG2_ARRAY_SHORT_INDEX_SCALE"), (18, u "LOG2_ARRAY_FLOAT_INDEX_SCALE"), (24, u "LOG2_ARRAY_DOUBLE_INDEX_SCALE"), (6, .methodref 195 196), (0, .class_ 197), (0, .nameAndType 198 199), (0, u "java/lang/Math"), (0, u "max"), (0, u "(II)I"), (0, .integer 2147483639), (76, u "T_BOOLEAN"), (2, u "T_CHAR"), (1, u "T_FLOAT"), (1, u "T_DOUBLE"), (1, u "T_BYTE"), (1, u "T_SHORT"), (1, u "T_INT"), (1, u "T_LONG"), (1, u "SOFT_MAX_ARRAY_LENGTH"), (56, u "newLength"), (0, u "(III)I")] 25

def k16m0 : Method := { name := "<init>", desc := "()V", sig := { parameters := [], returnType := none }, accessFlags := 2, code := none }
def k16c1 : Code := { maxStack := 3, maxLocals := 4, code := jdk_48_method_27_code, exceptionTable := #[], attributes := #[] }
def k16m1 : Method := { name := "newLength", desc := "(III)I", sig := { parameters := [.int, .int, .int], returnType := some .int }, accessFlags := 9, code := some k16c1 }
/-- jdk/internal/util/ArraysSupport -/
def k16 : Class := { plain "jdk/internal/util/ArraysSupport" (some 0) with
  accessFlags := 33
  interfaces := #[]
  cf := some (fileOf pool16 21 #[] #[{ accessFlags := 2, nameIndex := 9, descriptorIndex := 19, attributes := #[] }, { accessFlags := 9, nameIndex := 351, descriptorIndex := 352, attributes := #[] }] 33 16 #[] #[{ accessFlags := 24, nameIndex := 28, descriptorIndex := 29, attributes := #[] }, { accessFlags := 26, nameIndex := 38, descriptorIndex := 39, attributes := #[] }, { accessFlags := 25, nameIndex := 121, descriptorIndex := 25, attributes := #[] }, { accessFlags := 25, nameIndex := 131, descriptorIndex := 25, attributes := #[] }, { accessFlags := 25, nameIndex := 137, descriptorIndex := 25, attributes := #[] }, { accessFlags := 25, nameIndex := 143, descriptorIndex := 25, attributes := #[] }, { accessFlags := 25, nameIndex := 53, descriptorIndex := 25, attributes := #[] }, { accessFlags := 25, nameIndex := 24, descriptorIndex := 25, attributes := #[] }, { accessFlags := 25, nameIndex := 162, descriptorIndex := 25, attributes := #[] }, { accessFlags := 25, nameIndex := 187, descriptorIndex := 25, attributes := #[] }, { accessFlags := 26, nameIndex := 48, descriptorIndex := 25, attributes := #[] }, { accessFlags := 25, nameIndex := 277, descriptorIndex := 25, attributes := #[] }, { accessFlags := 25, nameIndex := 280, descriptorIndex := 25, attributes := #[] }, { accessFlags := 25, nameIndex := 282, descriptorIndex := 25, attributes := #[] }, { accessFlags := 25, nameIndex := 284, descriptorIndex := 25, attributes := #[] }, { accessFlags := 25, nameIndex := 286, descriptorIndex := 25, attributes := #[] }, { accessFlags := 25, nameIndex := 288, descriptorIndex := 25, attributes := #[] }, { accessFlags := 25, nameIndex := 290, descriptorIndex := 25, attributes := #[] }, { accessFlags := 25, nameIndex := 292, descriptorIndex := 25, attributes := #[] }, { accessFlags := 26, nameIndex := 108, descriptorIndex := 109, attributes := #[] }, { accessFlags := 25, nameIndex := 294, descriptorIndex := 25, attributes := #[] }])
  fields := #[{ name := "U", type := (.object "jdk/internal/misc/Unsafe"), accessFlags := 24, slot := 0, constantValue := 0 }, { name := "BIG_ENDIAN", type := .boolean, accessFlags := 26, slot := 1, constantValue := 0 }, { name := "LOG2_ARRAY_BOOLEAN_INDEX_SCALE", type := .int, accessFlags := 25, slot := 2, constantValue := 0 }, { name := "LOG2_ARRAY_BYTE_INDEX_SCALE", type := .int, accessFlags := 25, slot := 3, constantValue := 0 }, { name := "LOG2_ARRAY_CHAR_INDEX_SCALE", type := .int, accessFlags := 25, slot := 4, constantValue := 0 }, { name := "LOG2_ARRAY_SHORT_INDEX_SCALE", type := .int, accessFlags := 25, slot := 5, constantValue := 0 }, { name := "LOG2_ARRAY_INT_INDEX_SCALE", type := .int, accessFlags := 25, slot := 6, constantValue := 0 }, { name := "LOG2_ARRAY_LONG_INDEX_SCALE", type := .int, accessFlags := 25, slot := 7, constantValue := 0 }, { name := "LOG2_ARRAY_FLOAT_INDEX_SCALE", type := .int, accessFlags := 25, slot := 8, constantValue := 0 }, { name := "LOG2_ARRAY_DOUBLE_INDEX_SCALE", type := .int, accessFlags := 25, slot := 9, constantValue := 0 }, { name := "LOG2_BYTE_BIT_SIZE", type := .int, accessFlags := 26, slot := 10, constantValue := 0 }, { name := "T_BOOLEAN", type := .int, accessFlags := 25, slot := 11, constantValue := 0 }, { name := "T_CHAR", type := .int, accessFlags := 25, slot := 12, constantValue := 0 }, { name := "T_FLOAT", type := .int, accessFlags := 25, slot := 13, constantValue := 0 }, { name := "T_DOUBLE", type := .int, accessFlags := 25, slot := 14, constantValue := 0 }, { name := "T_BYTE", type := .int, accessFlags := 25, slot := 15, constantValue := 0 }, { name := "T_SHORT", type := .int, accessFlags := 25, slot := 16, constantValue := 0 }, { name := "T_INT", type := .int, accessFlags := 25, slot := 17, constantValue := 0 }, { name := "T_LONG", type := .int, accessFlags := 25, slot := 18, constantValue := 0 }, { name := "JLA", type := (.object "jdk/internal/access/JavaLangAccess"), accessFlags := 26, slot := 19, constantValue := 0 }, { name := "SOFT_MAX_ARRAY_LENGTH", type := .int, accessFlags := 25, slot := 20, constantValue := 0 }]
  methods := #[k16m0, k16m1]
  instanceTypes := #[]
  staticTypes := #[(.object "jdk/internal/misc/Unsafe"), .boolean, .int, .int, .int, .int, .int, .int, .int, .int, .int, .int, .int, .int, .int, .int, .int, .int, .int, (.object "jdk/internal/access/JavaLangAccess"), .int]
  resolved := Array.replicate 378 none
  statics := none }

def pool17 : Array CpInfo := pool [(1, .class_ 2), (0, u "java/lang/Math"), (1, .class_ 6), (1, u "java/lang/Object"), (0, u "<init>"), (0, u "()V"), (89, .class_ 100), (1, u "java/lang/Math$RandomNumberGeneratorHolder"), (23, u "abs"), (0, u "(J)J"), (46, u "negativeZeroFloatBits"), (0, u "J"), (2, u "negativeZeroDoubleBits"), (21, u "max"), (2, u "min"), (43, u "$assertionsDisabled"), (0, u "Z"), (88, u "(II)I"), (2, u "twoToTheDoubleScaleDown"), (0, u "D"), (4, u "twoToTheDoubleScaleUp"), (9, u "E"), (3, u "PI"), (2, u "TAU"), (2, u "DEGREES_TO_RADIANS"), (0, u "RADIANS_TO_DEGREES")] 94

def k17m0 : Method := { name := "<init>", desc := "()V", sig := { parameters := [], returnType := none }, accessFlags := 2, code := none }
def k17c1 : Code := { maxStack := 4, maxLocals := 2, code := jdk_29_method_61_code, exceptionTable := #[], attributes := #[] }
def k17m1 : Method := { name := "abs", desc := "(J)J", sig := { parameters := [.long], returnType := some .long }, accessFlags := 9, code := some k17c1 }
def k17c2 : Code := { maxStack := 2, maxLocals := 2, code := jdk_29_method_65_code, exceptionTable := #[], attributes := #[] }
def k17m2 : Method := { name := "max", desc := "(II)I", sig := { parameters := [.int, .int], returnType := some .int }, accessFlags := 9, code := some k17c2 }
def k17c3 : Code := { maxStack := 2, maxLocals := 2, code := jdk_29_method_69_code, exceptionTable := #[], attributes := #[] }
def k17m3 : Method := { name := "min", desc := "(II)I", sig := { parameters := [.int, .int], returnType := some .int }, accessFlags := 9, code := some k17c3 }
/-- java/lang/Math -/
def k17 : Class := { plain "java/lang/Math" (some 0) with
  accessFlags := 49
  interfaces := #[]
  cf := some (fileOf pool17 1 #[.nestMembers #[98]] #[{ accessFlags := 2, nameIndex := 7, descriptorIndex := 8, attributes := #[] }, { accessFlags := 9, nameIndex := 124, descriptorIndex := 125, attributes := #[] }, { accessFlags := 9, nameIndex := 198, descriptorIndex := 335, attributes := #[] }, { accessFlags := 9, nameIndex := 201, descriptorIndex := 335, attributes := #[] }] 49 4 #[] #[{ accessFlags := 25, nameIndex := 354, descriptorIndex := 339, attributes := #[] }, { accessFlags := 25, nameIndex := 358, descriptorIndex := 339, attributes := #[] }, { accessFlags := 25, nameIndex := 361, descriptorIndex := 339, attributes := #[] }, { accessFlags := 26, nameIndex := 364, descriptorIndex := 339, attributes := #[] }, { accessFlags := 26, nameIndex := 365, descriptorIndex := 339, attributes := #[] }, { accessFlags := 26, nameIndex := 172, descriptorIndex := 173, attributes := #[] }, { accessFlags := 26, nameIndex := 176, descriptorIndex := 173, attributes := #[] }, { accessFlags := 8, nameIndex := 344, descriptorIndex := 339, attributes := #[] }, { accessFlags := 8, nameIndex := 338, descriptorIndex := 339, attributes := #[] }, { accessFlags := 4120, nameIndex := 245, descriptorIndex := 246, attributes := #[] }])
  fields := #[{ name := "E", type := .double, accessFlags := 25, slot := 0, constantValue := 0 }, { name := "PI", type := .double, accessFlags := 25, slot := 1, constantValue := 0 }, { name := "TAU", type := .double, accessFlags := 25, slot := 2, constantValue := 0 }, { name := "DEGREES_TO_RADIANS", type := .double, accessFlags := 26, slot := 3, constantValue := 0 }, { name := "RADIANS_TO_DEGREES", type := .double, accessFlags := 26, slot := 4, constantValue := 0 }, { name := "negativeZeroFloatBits", type := .long, accessFlags := 26, slot := 5, constantValue := 0 }, { name := "negativeZeroDoubleBits", type := .long, accessFlags := 26, slot := 6, constantValue := 0 }, { name := "twoToTheDoubleScaleUp", type := .double, accessFlags := 8, slot := 7, constantValue := 0 }, { name := "twoToTheDoubleScaleDown", type := .double, accessFlags := 8, slot := 8, constantValue := 0 }, { name := "$assertionsDisabled", type := .boolean, accessFlags := 4120, slot := 9, constantValue := 0 }]
  methods := #[k17m0, k17m1, k17m2, k17m3]
  instanceTypes := #[]
  staticTypes := #[.double, .double, .double, .double, .double, .long, .long, .double, .double, .boolean]
  resolved := Array.replicate 460 none
  statics := none }

def pool18 : Array CpInfo := pool [(2, .class_ 4), (1, u "java/lang/Object"), (0, u "<init>"), (0, u "()V"), (7, .class_ 16), (1, u "java/util/Arrays"), (57, .class_ 76), (1, u "java/util/Arrays$NaturalOrder"), (32, u "()Ljava/lang/Object;"), (3, .class_ 115), (1, u "java/util/Arrays$LegacyMergeSort"), (1, u "Z"), (10, .nameAndType 129 109), (0, u "clone"), (9, u "copyOfRange"), (10, .methodref 151 152), (0, .class_ 153), (0, .nameAndType 154 155), (0, u "java/lang/System"), (0, u "arraycopy"), (0, u "(Ljava/lang/Object;ILjava/lang/Object;II)V"), (146, u "copyOf"), (1, .methodref 305 306), (0, .class_ 307), (0, .nameAndType 308 309), (0, u "java/lang/Math"), (0, u "min"), (0, u "(II)I"), (0, .methodref 311 128), (0, .class_ 312), (0, u "[B"), (26, .methodref 14 340), (0, .nameAndType 341 342), (0, u "copyOfRangeByte"), (0, u "([BII)[B"), (0, .methodref 14 344), (0, .nameAndType 345 346), (0, u "checkLength"), (0, u "(II)V"), (28, .class_ 376), (0, u "java/util/Arrays$ArrayList"), (68, u "$assertionsDisabled"), (269, u "MIN_ARRAY_SORT_GRAN"), (0, u "I"), (2, u "INSERTIONSORT_THRESHOLD"), (149, u "([BI)[B"), (105, .class_ 976), (0, u "java/util/Arrays$ArrayItr")] 52

def k18m0 : Method := { name := "<init>", desc := "()V", sig := { parameters := [], returnType := none }, accessFlags := 2, code := none }
def k18c1 : Code := { maxStack := 6, maxLocals := 3, code := jdk_65_method_121_code, exceptionTable := #[], attributes := #[] }
def k18m1 : Method := { name := "copyOf", desc := "([BI)[B", sig := { parameters := [(.array .byte), .int], returnType := some (.array .byte) }, accessFlags := 9, code := some k18c1 }
def k18c2 : Code := { maxStack := 4, maxLocals := 2, code := jdk_65_method_131_code, exceptionTable := #[], attributes := #[] }
def k18m2 : Method := { name := "checkLength", desc := "(II)V", sig := { parameters := [.int, .int], returnType := none }, accessFlags := 10, code := some k18c2 }
def k18c3 : Code := { maxStack := 3, maxLocals := 3, code := jdk_65_method_132_code, exceptionTable := #[], attributes := #[] }
def k18m3 : Method := { name := "copyOfRange", desc := "([BII)[B", sig := { parameters := [(.array .byte), .int, .int], returnType := some (.array .byte) }, accessFlags := 9, code := some k18c3 }
def k18c4 : Code := { maxStack := 6, maxLocals := 5, code := jdk_65_method_133_code, exceptionTable := #[], attributes := #[] }
def k18m4 : Method := { name := "copyOfRangeByte", desc := "([BII)[B", sig := { parameters := [(.array .byte), .int, .int], returnType := some (.array .byte) }, accessFlags := 10, code := some k18c4 }
/-- java/util/Arrays -/
def k18 : Class := { plain "java/util/Arrays" (some 0) with
  accessFlags := 49
  interfaces := #[]
  cf := some (fileOf pool18 14 #[.nestMembers #[975, 375, 113, 74]] #[{ accessFlags := 2, nameIndex := 5, descriptorIndex := 6, attributes := #[] }, { accessFlags := 9, nameIndex := 302, descriptorIndex := 869, attributes := #[] }, { accessFlags := 10, nameIndex := 345, descriptorIndex := 346, attributes := #[] }, { accessFlags := 9, nameIndex := 139, descriptorIndex := 342, attributes := #[] }, { accessFlags := 10, nameIndex := 341, descriptorIndex := 342, attributes := #[] }] 49 2 #[] #[{ accessFlags := 26, nameIndex := 715, descriptorIndex := 716, attributes := #[] }, { accessFlags := 26, nameIndex := 719, descriptorIndex := 716, attributes := #[] }, { accessFlags := 4120, nameIndex := 445, descriptorIndex := 117, attributes := #[] }])
  fields := #[{ name := "MIN_ARRAY_SORT_GRAN", type := .int, accessFlags := 26, slot := 0, constantValue := 0 }, { name := "INSERTIONSORT_THRESHOLD", type := .int, accessFlags := 26, slot := 1, constantValue := 0 }, { name := "$assertionsDisabled", type := .boolean, accessFlags := 4120, slot := 2, constantValue := 0 }]
  methods := #[k18m0, k18m1, k18m2, k18m3, k18m4]
  instanceTypes := #[]
  staticTypes := #[.int, .int, .boolean]
  resolved := Array.replicate 1029 none
  statics := none }

def pool19 : Array CpInfo := pool [(1, .class_ 2), (0, u "java/lang/String"), (1, .class_ 6), (1, u "java/lang/Object"), (0, u "<init>"), (0, u "()V"), (0, .methodref 1 10), (0, .nameAndType 11 12), (0, u "checkIndex"), (0, u "(II)V"), (1, .class_ 16), (1, u "java/lang/StringLatin1"), (36, u "([BI)C"), (67, u "$assertionsDisabled"), (0, u "Z"), (98, .class_ 223), (1, u "java/lang/StringLatin1$LinesSpliterator"), (28, u "charAt"), (137, .class_ 391), (0, u "java/lang/StringLatin1$CharsSpliterator")] 3

def k19m0 : Method := { name := "<init>", desc := "()V", sig := { parameters := [], returnType := none }, accessFlags := 0, code := none }
def k19c1 : Code := { maxStack := 2, maxLocals := 2, code := jdk_43_method_2_code, exceptionTable := #[], attributes := #[] }
def k19m1 : Method := { name := "charAt", desc := "([BI)C", sig := { parameters := [(.array .byte), .int], returnType := some .char }, accessFlags := 9, code := some k19c1 }
/-- java/lang/StringLatin1 -/
def k19 : Class := { plain "java/lang/StringLatin1" (some 0) with
  accessFlags := 48
  interfaces := #[]
  cf := some (fileOf pool19 14 #[.nestMembers #[390, 221]] #[{ accessFlags := 0, nameIndex := 7, descriptorIndex := 8, attributes := #[] }, { accessFlags := 9, nameIndex := 252, descriptorIndex := 53, attributes := #[] }] 48 4 #[] #[{ accessFlags := 4120, nameIndex := 121, descriptorIndex := 122, attributes := #[] }])
  fields := #[{ name := "$assertionsDisabled", type := .boolean, accessFlags := 4120, slot := 0, constantValue := 0 }]
  methods := #[k19m0, k19m1]
  instanceTypes := #[]
  staticTypes := #[.boolean]
  resolved := Array.replicate 395 none
  statics := none }

def pool20 : Array CpInfo := pool [(2, .class_ 4), (1, u "java/lang/Object"), (0, u "<init>"), (0, u "()V"), (17, .class_ 26), (1, u "jdk/internal/util/Preconditions"), (6, u "checkIndex"), (21, .class_ 56), (0, u "jdk/internal/util/Preconditions$4"), (57, .class_ 115), (0, u "jdk/internal/util/Preconditions$1"), (7, u "SIOOBE_FORMATTER"), (0, u "Ljava/util/function/BiFunction;"), (0, .class_ 126), (0, u "jdk/internal/util/Preconditions$2"), (3, u "AIOOBE_FORMATTER"), (0, .class_ 132), (0, u "jdk/internal/util/Preconditions$3"), (3, u "IOOBE_FORMATTER"), (41, u "(IILjava/util/function/BiFunction;)I")] 15

def k20m0 : Method := { name := "<init>", desc := "()V", sig := { parameters := [], returnType := none }, accessFlags := 1, code := none }
def k20c1 : Code := { maxStack := 3, maxLocals := 3, code := jdk_41_method_11_code, exceptionTable := #[], attributes := #[] }
def k20m1 : Method := { name := "checkIndex", desc := "(IILjava/util/function/BiFunction;)I", sig := { parameters := [.int, .int, (.object "java/util/function/BiFunction")], returnType := some .int }, accessFlags := 9, code := some k20c1 }
/-- jdk/internal/util/Preconditions -/
def k20 : Class := { plain "jdk/internal/util/Preconditions" (some 0) with
  accessFlags := 33
  interfaces := #[]
  cf := some (fileOf pool20 24 #[.nestMembers #[55, 131, 125, 114]] #[{ accessFlags := 1, nameIndex := 5, descriptorIndex := 6, attributes := #[] }, { accessFlags := 9, nameIndex := 33, descriptorIndex := 178, attributes := #[] }] 33 2 #[] #[{ accessFlags := 25, nameIndex := 123, descriptorIndex := 124, attributes := #[] }, { accessFlags := 25, nameIndex := 130, descriptorIndex := 124, attributes := #[] }, { accessFlags := 25, nameIndex := 136, descriptorIndex := 124, attributes := #[] }])
  fields := #[{ name := "SIOOBE_FORMATTER", type := (.object "java/util/function/BiFunction"), accessFlags := 25, slot := 0, constantValue := 0 }, { name := "AIOOBE_FORMATTER", type := (.object "java/util/function/BiFunction"), accessFlags := 25, slot := 1, constantValue := 0 }, { name := "IOOBE_FORMATTER", type := (.object "java/util/function/BiFunction"), accessFlags := 25, slot := 2, constantValue := 0 }]
  methods := #[k20m0, k20m1]
  instanceTypes := #[]
  staticTypes := #[(.object "java/util/function/BiFunction"), (.object "java/util/function/BiFunction"), (.object "java/util/function/BiFunction")]
  resolved := Array.replicate 194 none
  statics := some 2 }

def pool21 : Array CpInfo := pool [(1, .class_ 2), (0, u "java/lang/Cloneable"), (0, .class_ 4), (0, u "java/lang/Object")] 2

/-- java/lang/Cloneable -/
def k21 : Class := { plain "java/lang/Cloneable" (some 0) with
  accessFlags := 1537
  interfaces := #[]
  cf := some (fileOf pool21 1 #[] #[] 1537 3 #[] #[])
  fields := #[]
  methods := #[]
  instanceTypes := #[]
  staticTypes := #[]
  resolved := Array.replicate 7 none
  statics := none }

/-- the primitive byte -/
def k22 : Class := { plain "byte" none with kind := .primitive 'B', accessFlags := 0x411 }
/-- [B -/
def k23 : Class := { plain "[B" (some 0) with kind := .array 22 .byte, interfaces := #[21, 6], accessFlags := 1041 }

/-- the primitive int -/
def k24 : Class := { plain "int" none with kind := .primitive 'I', accessFlags := 0x411 }
/-- [I -/
def k25 : Class := { plain "[I" (some 0) with kind := .array 24 .int, interfaces := #[21, 6], accessFlags := 1041 }

/-- the primitive long -/
def k26 : Class := { plain "long" none with kind := .primitive 'J', accessFlags := 0x411 }
/-- [J -/
def k27 : Class := { plain "[J" (some 0) with kind := .array 26 .long, interfaces := #[21, 6], accessFlags := 1041 }

def heap : Heap := #[{ cls := 11, slots := #[.long 0, .int 1, .null, .int 0, .null, .int 0, .int 0], vm := .statics 11 },
  { cls := 15, slots := #[.int 0, .int 0, .null, .null, .ref 4, .ref 3, .int 0, .int 0, .long 0], vm := .statics 15 },
  { cls := 20, slots := #[.null, .null, .null], vm := .statics 20 },
  { cls := 23, slots := #[.int 48, .int 49, .int 50, .int 51, .int 52, .int 53, .int 54, .int 55, .int 56, .int 57, .int 48, .int 49, .int 50, .int 51, .int 52, .int 53, .int 54, .int 55, .int 56, .int 57, .int 48, .int 49, .int 50, .int 51, .int 52, .int 53, .int 54, .int 55, .int 56, .int 57, .int 48, .int 49, .int 50, .int 51, .int 52, .int 53, .int 54, .int 55, .int 56, .int 57, .int 48, .int 49, .int 50, .int 51, .int 52, .int 53, .int 54, .int 55, .int 56, .int 57, .int 48, .int 49, .int 50, .int 51, .int 52, .int 53, .int 54, .int 55, .int 56, .int 57, .int 48, .int 49, .int 50, .int 51, .int 52, .int 53, .int 54, .int 55, .int 56, .int 57, .int 48, .int 49, .int 50, .int 51, .int 52, .int 53, .int 54, .int 55, .int 56, .int 57, .int 48, .int 49, .int 50, .int 51, .int 52, .int 53, .int 54, .int 55, .int 56, .int 57, .int 48, .int 49, .int 50, .int 51, .int 52, .int 53, .int 54, .int 55, .int 56, .int 57], vm := .none },
  { cls := 23, slots := #[.int 48, .int 48, .int 48, .int 48, .int 48, .int 48, .int 48, .int 48, .int 48, .int 48, .int 49, .int 49, .int 49, .int 49, .int 49, .int 49, .int 49, .int 49, .int 49, .int 49, .int 50, .int 50, .int 50, .int 50, .int 50, .int 50, .int 50, .int 50, .int 50, .int 50, .int 51, .int 51, .int 51, .int 51, .int 51, .int 51, .int 51, .int 51, .int 51, .int 51, .int 52, .int 52, .int 52, .int 52, .int 52, .int 52, .int 52, .int 52, .int 52, .int 52, .int 53, .int 53, .int 53, .int 53, .int 53, .int 53, .int 53, .int 53, .int 53, .int 53, .int 54, .int 54, .int 54, .int 54, .int 54, .int 54, .int 54, .int 54, .int 54, .int 54, .int 55, .int 55, .int 55, .int 55, .int 55, .int 55, .int 55, .int 55, .int 55, .int 55, .int 56, .int 56, .int 56, .int 56, .int 56, .int 56, .int 56, .int 56, .int 56, .int 56, .int 57, .int 57, .int 57, .int 57, .int 57, .int 57, .int 57, .int 57, .int 57, .int 57], vm := .none }]
def classes : Array Class := #[k0, k1, k2, k3, k4, k5, k6, k7, k8, k9, k10, k11, k12, k13, k14, k15, k16, k17, k18, k19, k20, k21, k22, k23, k24, k25, k26, k27]
def interned : List (Array UInt16 × Addr) := []
def slotsUsed : Nat := 219
def theMethod : MethodId := ⟨1, 1⟩
def args0 : Array Value := #[.long 5, .long 7, .long 3, .int 12]
def aboutOver (below : List Frame) : State where
  vm := { classes := classes, interned := interned.toArray }
  heap := heap
  slotsUsed := slotsUsed
  threads := #[{ frames := .invoking theMethod args0 :: below }]
def below0 : List Frame := [.native { method := ⟨0, 0⟩, args := #[] }]
def about1 : State := aboutOver below0
def p0 : Program := .bare "" "" ""
def e0 : Env := launch0.env 0 0 0
theorem w_frames : about1.frames = Frame.invoking theMethod args0 :: below0 := rfl
set_option maxRecDepth 65536 in
theorem w_args : argsFit about1.vm theMethod args0 = true := by decide +kernel
set_option maxRecDepth 65536 in
theorem w_heap : heapFits about1 = true := by decide +kernel
set_option maxRecDepth 65536 in
theorem w_runnable : about1.curStatus? = some .runnable := by decide +kernel
set_option maxRecDepth 65536 in
theorem w_alone : about1.alone = true := by decide +kernel
set_option maxRecDepth 65536 in
theorem w_named : about1.methodNamed? x = some theMethod := by decide +kernel
set_option maxRecDepth 65536 in
theorem w_hears : about1.hears theMethod below0 = true := by decide +kernel
set_option maxRecDepth 65536 in
theorem w_ripe : about1.ripe theMethod args0 below0 = true := by decide +kernel
theorem w_running : about1.status = .running := rfl
set_option maxRecDepth 65536 in
theorem w_room : about1.hasRoom e0.platform room_1 = true :=
  launch0.hasRoom_least _ room_1 (by decide +kernel) (by decide +kernel) (by decide +kernel) (by decide +kernel) (by decide +kernel) (by decide +kernel)
theorem allAtoms_all (ts : List Jvm.Cond) (a : Array Jvm.Value) (st : Jvm.State) : (allAtoms ts).before a st = ts.all (fun c => c.before a st) := by
  induction ts with
  | nil => rfl
  | cons c t ih =>
    show (Jvm.Cond.and c (allAtoms t)).before a st = _
    rw [Jvm.Cond.before_and, ih, List.all_cons]
def words1 : List Jvm.Cond := Jvm.Cond.code x code maxLocals ret :: tables_1
/-- a 'code' word, met by the world's own term for the bytes: nothing is compared byte by byte -/
theorem code_word {y : MethodName} {bytes : ByteArray} {mx : Nat} {rt : Option FieldType} {a : Array Value} {s : State} {m : MethodId} {meth : Method} {c : Code} (h1 : s.methodNamed? y = some m) (h2 : s.vm.method? m = some meth) (h3 : meth.code = some c) (h4 : c.code = bytes)
    (h5 : (c.maxLocals == mx && c.exceptionTable.isEmpty && decide (c.maxStack ≤ mostOperands) && decide (meth.sig.returnType = rt) && !meth.locks && decide (parseMethodDescriptor y.desc = some meth.sig)) = true) : (Jvm.Cond.code y bytes mx rt).before a s = true := by
  simp only [Bool.and_eq_true, beq_iff_eq, Bool.not_eq_true', decide_eq_true_eq] at h5
  obtain ⟨⟨⟨⟨⟨g1, g2⟩, g3⟩, g4⟩, g5⟩, g6⟩ := h5
  simp [Cond.before, Cond.holds, Cond.value, h1, h2, h3, h4, g1, g2, g3, g4, g5, g6]
def isCode : Jvm.Cond → Bool
  | .code _ _ _ _ => true
  | _ => false
theorem all_split {L : List Jvm.Cond} {P : Jvm.Cond → Bool} (h1 : L.all (fun c => isCode c || P c) = true) (h2 : ∀ c ∈ L.filter isCode, P c = true) : L.all P = true := by
  refine List.all_eq_true.mpr fun c hc => ?_
  have h := List.all_eq_true.mp h1 c hc
  rcases Bool.eq_false_or_eq_true (isCode c) with hi | hi
  · exact h2 c (List.mem_filter.mpr ⟨hc, hi⟩)
  · simpa [hi] using h
set_option maxRecDepth 65536 in
theorem w_c0 : (Jvm.Cond.code x code maxLocals ret).before args0 about1 = true := code_word (m := ⟨1, 1⟩) (meth := k1m1) (c := k1c1) (by decide +kernel) rfl rfl rfl (by decide +kernel)
set_option maxRecDepth 65536 in
theorem w_c1 : (Jvm.Cond.code ({ cls := "com/example/test_context_overlay/testcontextoverlay/context/OverlayCache$Statistics", name := "<init>", desc := "(JJJI)V" } : Jvm.MethodName) prog_18_method_1_code (8 : Nat) (Option.none : Option Jvm.ClassFile.FieldType)).before args0 about1 = true := code_word (m := ⟨2, 0⟩) (meth := k2m0) (c := k2c0) (by decide +kernel) rfl rfl rfl (by decide +kernel)
set_option maxRecDepth 65536 in
theorem w_c2 : (Jvm.Cond.code ({ cls := "java/lang/Object", name := "<init>", desc := "()V" } : Jvm.MethodName) object_method_1_code (1 : Nat) (Option.none : Option Jvm.ClassFile.FieldType)).before args0 about1 = true := code_word (m := ⟨0, 0⟩) (meth := k0m0) (c := k0c0) (by decide +kernel) rfl rfl rfl (by decide +kernel)
set_option maxRecDepth 65536 in
theorem w_c3 : (Jvm.Cond.code ({ cls := "com/example/test_context_overlay/testcontextoverlay/context/OverlayCache$Statistics", name := "toString", desc := "()Ljava/lang/String;" } : Jvm.MethodName) prog_18_method_6_code (1 : Nat) (Option.some (Jvm.ClassFile.FieldType.object "java/lang/String"))).before args0 about1 = true := code_word (m := ⟨2, 1⟩) (meth := k2m1) (c := k2c1) (by decide +kernel) rfl rfl rfl (by decide +kernel)
set_option maxRecDepth 65536 in
theorem w_c4 : (Jvm.Cond.code ({ cls := "java/lang/StringBuilder", name := "<init>", desc := "()V" } : Jvm.MethodName) jdk_67_method_1_code (1 : Nat) (Option.none : Option Jvm.ClassFile.FieldType)).before args0 about1 = true := code_word (m := ⟨8, 0⟩) (meth := k8m0) (c := k8c0) (by decide +kernel) rfl rfl rfl (by decide +kernel)
set_option maxRecDepth 65536 in
theorem w_c5 : (Jvm.Cond.code ({ cls := "java/lang/AbstractStringBuilder", name := "<init>", desc := "(I)V" } : Jvm.MethodName) jdk_68_method_2_code (2 : Nat) (Option.none : Option Jvm.ClassFile.FieldType)).before args0 about1 = true := code_word (m := ⟨5, 1⟩) (meth := k5m1) (c := k5c1) (by decide +kernel) rfl rfl rfl (by decide +kernel)
set_option maxRecDepth 65536 in
theorem w_c6 : (Jvm.Cond.code ({ cls := "java/lang/StringBuilder", name := "append", desc := "(Ljava/lang/String;)Ljava/lang/StringBuilder;" } : Jvm.MethodName) jdk_67_method_7_code (2 : Nat) (Option.some (Jvm.ClassFile.FieldType.object "java/lang/StringBuilder"))).before args0 about1 = true := code_word (m := ⟨8, 1⟩) (meth := k8m1) (c := k8c1) (by decide +kernel) rfl rfl rfl (by decide +kernel)
set_option maxRecDepth 65536 in
theorem w_c7 : (Jvm.Cond.code ({ cls := "java/lang/AbstractStringBuilder", name := "append", desc := "(Ljava/lang/String;)Ljava/lang/AbstractStringBuilder;" } : Jvm.MethodName) jdk_68_method_22_code (3 : Nat) (Option.some (Jvm.ClassFile.FieldType.object "java/lang/AbstractStringBuilder"))).before args0 about1 = true := code_word (m := ⟨5, 5⟩) (meth := k5m5) (c := k5c5) (by decide +kernel) rfl rfl rfl (by decide +kernel)
set_option maxRecDepth 65536 in
theorem w_c8 : (Jvm.Cond.code ({ cls := "java/lang/String", name := "length", desc := "()I" } : Jvm.MethodName) jdk_42_method_54_code (1 : Nat) (Option.some Jvm.ClassFile.FieldType.int)).before args0 about1 = true := code_word (m := ⟨11, 2⟩) (meth := k11m2) (c := k11c2) (by decide +kernel) rfl rfl rfl (by decide +kernel)
set_option maxRecDepth 65536 in
theorem w_c9 : (Jvm.Cond.code ({ cls := "java/lang/String", name := "coder", desc := "()B" } : Jvm.MethodName) jdk_42_method_152_code (1 : Nat) (Option.some Jvm.ClassFile.FieldType.byte)).before args0 about1 = true := code_word (m := ⟨11, 6⟩) (meth := k11m6) (c := k11c6) (by decide +kernel) rfl rfl rfl (by decide +kernel)
set_option maxRecDepth 65536 in
theorem w_c10 : (Jvm.Cond.code ({ cls := "java/lang/AbstractStringBuilder", name := "ensureCapacityInternal", desc := "(I)V" } : Jvm.MethodName) jdk_68_method_9_code (3 : Nat) (Option.none : Option Jvm.ClassFile.FieldType)).before args0 about1 = true := code_word (m := ⟨5, 3⟩) (meth := k5m3) (c := k5c3) (by decide +kernel) rfl rfl rfl (by decide +kernel)
set_option maxRecDepth 65536 in
theorem w_c11 : (Jvm.Cond.code ({ cls := "java/lang/AbstractStringBuilder", name := "putStringAt", desc := "(ILjava/lang/String;)V" } : Jvm.MethodName) jdk_68_method_73_code (3 : Nat) (Option.none : Option Jvm.ClassFile.FieldType)).before args0 about1 = true := code_word (m := ⟨5, 11⟩) (meth := k5m11) (c := k5c11) (by decide +kernel) rfl rfl rfl (by decide +kernel)
set_option maxRecDepth 65536 in
theorem w_c12 : (Jvm.Cond.code ({ cls := "java/lang/AbstractStringBuilder", name := "inflateIfNeededFor", desc := "(Ljava/lang/String;)V" } : Jvm.MethodName) jdk_68_method_71_code (2 : Nat) (Option.none : Option Jvm.ClassFile.FieldType)).before args0 about1 = true := code_word (m := ⟨5, 10⟩) (meth := k5m10) (c := k5c10) (by decide +kernel) rfl rfl rfl (by decide +kernel)
set_option maxRecDepth 65536 in
theorem w_c13 : (Jvm.Cond.code ({ cls := "java/lang/String", name := "getBytes", desc := "([BIB)V" } : Jvm.MethodName) jdk_42_method_147_code (4 : Nat) (Option.none : Option Jvm.ClassFile.FieldType)).before args0 about1 = true := code_word (m := ⟨11, 4⟩) (meth := k11m4) (c := k11c4) (by decide +kernel) rfl rfl rfl (by decide +kernel)
set_option maxRecDepth 65536 in
theorem w_c14 : (Jvm.Cond.code ({ cls := "java/lang/StringBuilder", name := "append", desc := "(J)Ljava/lang/StringBuilder;" } : Jvm.MethodName) jdk_67_method_16_code (3 : Nat) (Option.some (Jvm.ClassFile.FieldType.object "java/lang/StringBuilder"))).before args0 about1 = true := code_word (m := ⟨8, 3⟩) (meth := k8m3) (c := k8c3) (by decide +kernel) rfl rfl rfl (by decide +kernel)
set_option maxRecDepth 65536 in
theorem w_c15 : (Jvm.Cond.code ({ cls := "java/lang/AbstractStringBuilder", name := "append", desc := "(J)Ljava/lang/AbstractStringBuilder;" } : Jvm.MethodName) jdk_68_method_33_code (5 : Nat) (Option.some (Jvm.ClassFile.FieldType.object "java/lang/AbstractStringBuilder"))).before args0 about1 = true := code_word (m := ⟨5, 7⟩) (meth := k5m7) (c := k5c7) (by decide +kernel) rfl rfl rfl (by decide +kernel)
set_option maxRecDepth 65536 in
theorem w_c16 : (Jvm.Cond.code ({ cls := "java/lang/Long", name := "stringSize", desc := "(J)I" } : Jvm.MethodName) jdk_35_method_15_code (6 : Nat) (Option.some Jvm.ClassFile.FieldType.int)).before args0 about1 = true := code_word (m := ⟨14, 1⟩) (meth := k14m1) (c := k14c1) (by decide +kernel) rfl rfl rfl (by decide +kernel)
set_option maxRecDepth 65536 in
theorem w_c17 : (Jvm.Cond.code ({ cls := "java/lang/AbstractStringBuilder", name := "isLatin1", desc := "()Z" } : Jvm.MethodName) jdk_68_method_68_code (1 : Nat) (Option.some Jvm.ClassFile.FieldType.boolean)).before args0 about1 = true := code_word (m := ⟨5, 9⟩) (meth := k5m9) (c := k5c9) (by decide +kernel) rfl rfl rfl (by decide +kernel)
set_option maxRecDepth 65536 in
theorem w_c18 : (Jvm.Cond.code ({ cls := "java/lang/Long", name := "getChars", desc := "(JI[B)I" } : Jvm.MethodName) jdk_35_method_14_code (11 : Nat) (Option.some Jvm.ClassFile.FieldType.int)).before args0 about1 = true := code_word (m := ⟨14, 0⟩) (meth := k14m0) (c := k14c0) (by decide +kernel) rfl rfl rfl (by decide +kernel)
set_option maxRecDepth 65536 in
theorem w_c19 : (Jvm.Cond.code ({ cls := "java/lang/AbstractStringBuilder", name := "newCapacity", desc := "(I)I" } : Jvm.MethodName) jdk_68_method_10_code (6 : Nat) (Option.some Jvm.ClassFile.FieldType.int)).before args0 about1 = true := code_word (m := ⟨5, 4⟩) (meth := k5m4) (c := k5c4) (by decide +kernel) rfl rfl rfl (by decide +kernel)
set_option maxRecDepth 65536 in
theorem w_c20 : (Jvm.Cond.code ({ cls := "jdk/internal/util/ArraysSupport", name := "newLength", desc := "(III)I" } : Jvm.MethodName) jdk_48_method_27_code (4 : Nat) (Option.some Jvm.ClassFile.FieldType.int)).before args0 about1 = true := code_word (m := ⟨16, 1⟩) (meth := k16m1) (c := k16c1) (by decide +kernel) rfl rfl rfl (by decide +kernel)
set_option maxRecDepth 65536 in
theorem w_c21 : (Jvm.Cond.code ({ cls := "java/lang/Math", name := "max", desc := "(II)I" } : Jvm.MethodName) jdk_29_method_65_code (2 : Nat) (Option.some Jvm.ClassFile.FieldType.int)).before args0 about1 = true := code_word (m := ⟨17, 2⟩) (meth := k17m2) (c := k17c2) (by decide +kernel) rfl rfl rfl (by decide +kernel)
set_option maxRecDepth 65536 in
theorem w_c22 : (Jvm.Cond.code ({ cls := "java/util/Arrays", name := "copyOf", desc := "([BI)[B" } : Jvm.MethodName) jdk_65_method_121_code (3 : Nat) (Option.some (Jvm.ClassFile.FieldType.array Jvm.ClassFile.FieldType.byte))).before args0 about1 = true := code_word (m := ⟨18, 1⟩) (meth := k18m1) (c := k18c1) (by decide +kernel) rfl rfl rfl (by decide +kernel)
set_option maxRecDepth 65536 in
theorem w_c23 : (Jvm.Cond.code ({ cls := "java/lang/Math", name := "min", desc := "(II)I" } : Jvm.MethodName) jdk_29_method_69_code (2 : Nat) (Option.some Jvm.ClassFile.FieldType.int)).before args0 about1 = true := code_word (m := ⟨17, 3⟩) (meth := k17m3) (c := k17c3) (by decide +kernel) rfl rfl rfl (by decide +kernel)
set_option maxRecDepth 65536 in
theorem w_c24 : (Jvm.Cond.code ({ cls := "java/lang/StringBuilder", name := "append", desc := "(I)Ljava/lang/StringBuilder;" } : Jvm.MethodName) jdk_67_method_15_code (2 : Nat) (Option.some (Jvm.ClassFile.FieldType.object "java/lang/StringBuilder"))).before args0 about1 = true := code_word (m := ⟨8, 2⟩) (meth := k8m2) (c := k8c2) (by decide +kernel) rfl rfl rfl (by decide +kernel)
set_option maxRecDepth 65536 in
theorem w_c25 : (Jvm.Cond.code ({ cls := "java/lang/AbstractStringBuilder", name := "append", desc := "(I)Ljava/lang/AbstractStringBuilder;" } : Jvm.MethodName) jdk_68_method_32_code (4 : Nat) (Option.some (Jvm.ClassFile.FieldType.object "java/lang/AbstractStringBuilder"))).before args0 about1 = true := code_word (m := ⟨5, 6⟩) (meth := k5m6) (c := k5c6) (by decide +kernel) rfl rfl rfl (by decide +kernel)
set_option maxRecDepth 65536 in
theorem w_c26 : (Jvm.Cond.code ({ cls := "java/lang/Integer", name := "stringSize", desc := "(I)I" } : Jvm.MethodName) jdk_33_method_13_code (4 : Nat) (Option.some Jvm.ClassFile.FieldType.int)).before args0 about1 = true := code_word (m := ⟨15, 1⟩) (meth := k15m1) (c := k15c1) (by decide +kernel) rfl rfl rfl (by decide +kernel)
set_option maxRecDepth 65536 in
theorem w_c27 : (Jvm.Cond.code ({ cls := "java/lang/Integer", name := "getChars", desc := "(II[B)I" } : Jvm.MethodName) jdk_33_method_12_code (7 : Nat) (Option.some Jvm.ClassFile.FieldType.int)).before args0 about1 = true := code_word (m := ⟨15, 0⟩) (meth := k15m0) (c := k15c0) (by decide +kernel) rfl rfl rfl (by decide +kernel)
set_option maxRecDepth 65536 in
theorem w_c28 : (Jvm.Cond.code ({ cls := "java/lang/StringBuilder", name := "toString", desc := "()Ljava/lang/String;" } : Jvm.MethodName) jdk_67_method_42_code (1 : Nat) (Option.some (Jvm.ClassFile.FieldType.object "java/lang/String"))).before args0 about1 = true := code_word (m := ⟨8, 4⟩) (meth := k8m4) (c := k8c4) (by decide +kernel) rfl rfl rfl (by decide +kernel)
set_option maxRecDepth 65536 in
theorem w_c29 : (Jvm.Cond.code ({ cls := "java/lang/String", name := "<init>", desc := "(Ljava/lang/StringBuilder;)V" } : Jvm.MethodName) jdk_42_method_53_code (2 : Nat) (Option.none : Option Jvm.ClassFile.FieldType)).before args0 about1 = true := code_word (m := ⟨11, 1⟩) (meth := k11m1) (c := k11c1) (by decide +kernel) rfl rfl rfl (by decide +kernel)
set_option maxRecDepth 65536 in
theorem w_c30 : (Jvm.Cond.code ({ cls := "java/lang/String", name := "<init>", desc := "(Ljava/lang/AbstractStringBuilder;Ljava/lang/Void;)V" } : Jvm.MethodName) jdk_42_method_150_code (5 : Nat) (Option.none : Option Jvm.ClassFile.FieldType)).before args0 about1 = true := code_word (m := ⟨11, 5⟩) (meth := k11m5) (c := k11c5) (by decide +kernel) rfl rfl rfl (by decide +kernel)
set_option maxRecDepth 65536 in
theorem w_c31 : (Jvm.Cond.code ({ cls := "java/lang/AbstractStringBuilder", name := "getValue", desc := "()[B" } : Jvm.MethodName) jdk_68_method_64_code (1 : Nat) (Option.some (Jvm.ClassFile.FieldType.array Jvm.ClassFile.FieldType.byte))).before args0 about1 = true := code_word (m := ⟨5, 8⟩) (meth := k5m8) (c := k5c8) (by decide +kernel) rfl rfl rfl (by decide +kernel)
set_option maxRecDepth 65536 in
theorem w_c32 : (Jvm.Cond.code ({ cls := "java/lang/StringBuilder", name := "length", desc := "()I" } : Jvm.MethodName) jdk_67_method_93_code (1 : Nat) (Option.some Jvm.ClassFile.FieldType.int)).before args0 about1 = true := code_word (m := ⟨8, 5⟩) (meth := k8m5) (c := k8c5) (by decide +kernel) rfl rfl rfl (by decide +kernel)
set_option maxRecDepth 65536 in
theorem w_c33 : (Jvm.Cond.code ({ cls := "java/lang/AbstractStringBuilder", name := "length", desc := "()I" } : Jvm.MethodName) jdk_68_method_6_code (1 : Nat) (Option.some Jvm.ClassFile.FieldType.int)).before args0 about1 = true := code_word (m := ⟨5, 2⟩) (meth := k5m2) (c := k5c2) (by decide +kernel) rfl rfl rfl (by decide +kernel)
set_option maxRecDepth 65536 in
theorem w_c34 : (Jvm.Cond.code ({ cls := "java/util/Arrays", name := "copyOfRange", desc := "([BII)[B" } : Jvm.MethodName) jdk_65_method_132_code (3 : Nat) (Option.some (Jvm.ClassFile.FieldType.array Jvm.ClassFile.FieldType.byte))).before args0 about1 = true := code_word (m := ⟨18, 3⟩) (meth := k18m3) (c := k18c3) (by decide +kernel) rfl rfl rfl (by decide +kernel)
set_option maxRecDepth 65536 in
theorem w_c35 : (Jvm.Cond.code ({ cls := "java/util/Arrays", name := "copyOfRangeByte", desc := "([BII)[B" } : Jvm.MethodName) jdk_65_method_133_code (5 : Nat) (Option.some (Jvm.ClassFile.FieldType.array Jvm.ClassFile.FieldType.byte))).before args0 about1 = true := code_word (m := ⟨18, 4⟩) (meth := k18m4) (c := k18c4) (by decide +kernel) rfl rfl rfl (by decide +kernel)
set_option maxRecDepth 65536 in
theorem w_c36 : (Jvm.Cond.code ({ cls := "java/util/Arrays", name := "checkLength", desc := "(II)V" } : Jvm.MethodName) jdk_65_method_131_code (2 : Nat) (Option.none : Option Jvm.ClassFile.FieldType)).before args0 about1 = true := code_word (m := ⟨18, 2⟩) (meth := k18m2) (c := k18c2) (by decide +kernel) rfl rfl rfl (by decide +kernel)
set_option maxRecDepth 65536 in
theorem w_c37 : (Jvm.Cond.code ({ cls := "com/example/test_context_overlay/testcontextoverlay/context/StatisticsToStringPinLaw", name := "literal", desc := "(Ljava/lang/String;ILjava/lang/String;)I" } : Jvm.MethodName) method_3_code (4 : Nat) (Option.some Jvm.ClassFile.FieldType.int)).before args0 about1 = true := code_word (m := ⟨1, 2⟩) (meth := k1m2) (c := k1c2) (by decide +kernel) rfl rfl rfl (by decide +kernel)
set_option maxRecDepth 65536 in
theorem w_c38 : (Jvm.Cond.code ({ cls := "com/example/test_context_overlay/testcontextoverlay/context/StatisticsToStringPinLaw", name := "litChar", desc := "(Ljava/lang/String;ILjava/lang/String;I)Z" } : Jvm.MethodName) method_4_code (4 : Nat) (Option.some Jvm.ClassFile.FieldType.boolean)).before args0 about1 = true := code_word (m := ⟨1, 3⟩) (meth := k1m3) (c := k1c3) (by decide +kernel) rfl rfl rfl (by decide +kernel)
set_option maxRecDepth 65536 in
theorem w_c39 : (Jvm.Cond.code ({ cls := "java/lang/String", name := "charAt", desc := "(I)C" } : Jvm.MethodName) jdk_42_method_56_code (2 : Nat) (Option.some Jvm.ClassFile.FieldType.char)).before args0 about1 = true := code_word (m := ⟨11, 3⟩) (meth := k11m3) (c := k11c3) (by decide +kernel) rfl rfl rfl (by decide +kernel)
set_option maxRecDepth 65536 in
theorem w_c40 : (Jvm.Cond.code ({ cls := "java/lang/String", name := "isLatin1", desc := "()Z" } : Jvm.MethodName) jdk_42_method_154_code (1 : Nat) (Option.some Jvm.ClassFile.FieldType.boolean)).before args0 about1 = true := code_word (m := ⟨11, 7⟩) (meth := k11m7) (c := k11c7) (by decide +kernel) rfl rfl rfl (by decide +kernel)
set_option maxRecDepth 65536 in
theorem w_c41 : (Jvm.Cond.code ({ cls := "java/lang/StringLatin1", name := "charAt", desc := "([BI)C" } : Jvm.MethodName) jdk_43_method_2_code (2 : Nat) (Option.some Jvm.ClassFile.FieldType.char)).before args0 about1 = true := code_word (m := ⟨19, 1⟩) (meth := k19m1) (c := k19c1) (by decide +kernel) rfl rfl rfl (by decide +kernel)
set_option maxRecDepth 65536 in
theorem w_c42 : (Jvm.Cond.code ({ cls := "java/lang/String", name := "checkIndex", desc := "(II)V" } : Jvm.MethodName) jdk_42_method_155_code (2 : Nat) (Option.none : Option Jvm.ClassFile.FieldType)).before args0 about1 = true := code_word (m := ⟨11, 8⟩) (meth := k11m8) (c := k11c8) (by decide +kernel) rfl rfl rfl (by decide +kernel)
set_option maxRecDepth 65536 in
theorem w_c43 : (Jvm.Cond.code ({ cls := "jdk/internal/util/Preconditions", name := "checkIndex", desc := "(IILjava/util/function/BiFunction;)I" } : Jvm.MethodName) jdk_41_method_11_code (3 : Nat) (Option.some Jvm.ClassFile.FieldType.int)).before args0 about1 = true := code_word (m := ⟨20, 1⟩) (meth := k20m1) (c := k20c1) (by decide +kernel) rfl rfl rfl (by decide +kernel)
set_option maxRecDepth 65536 in
theorem w_c44 : (Jvm.Cond.code ({ cls := "com/example/test_context_overlay/testcontextoverlay/context/StatisticsToStringPinLaw", name := "number", desc := "(Ljava/lang/String;IJ)I" } : Jvm.MethodName) method_5_code (7 : Nat) (Option.some Jvm.ClassFile.FieldType.int)).before args0 about1 = true := code_word (m := ⟨1, 4⟩) (meth := k1m4) (c := k1c4) (by decide +kernel) rfl rfl rfl (by decide +kernel)
set_option maxRecDepth 65536 in
theorem w_c45 : (Jvm.Cond.code ({ cls := "com/example/test_context_overlay/testcontextoverlay/context/StatisticsToStringPinLaw", name := "digitCount", desc := "(J)I" } : Jvm.MethodName) method_6_code (3 : Nat) (Option.some Jvm.ClassFile.FieldType.int)).before args0 about1 = true := code_word (m := ⟨1, 5⟩) (meth := k1m5) (c := k1c5) (by decide +kernel) rfl rfl rfl (by decide +kernel)
set_option maxRecDepth 65536 in
theorem w_c46 : (Jvm.Cond.code ({ cls := "com/example/test_context_overlay/testcontextoverlay/context/StatisticsToStringPinLaw", name := "digit", desc := "(Ljava/lang/String;IJII)Z" } : Jvm.MethodName) method_7_code (10 : Nat) (Option.some Jvm.ClassFile.FieldType.boolean)).before args0 about1 = true := code_word (m := ⟨1, 6⟩) (meth := k1m6) (c := k1c6) (by decide +kernel) rfl rfl rfl (by decide +kernel)
set_option maxRecDepth 65536 in
theorem w_c47 : (Jvm.Cond.code ({ cls := "java/lang/Math", name := "abs", desc := "(J)J" } : Jvm.MethodName) jdk_29_method_61_code (2 : Nat) (Option.some Jvm.ClassFile.FieldType.long)).before args0 about1 = true := code_word (m := ⟨17, 1⟩) (meth := k17m1) (c := k17c1) (by decide +kernel) rfl rfl rfl (by decide +kernel)
def codes1 : List Jvm.Cond := [Jvm.Cond.code x code maxLocals ret, Jvm.Cond.code ({ cls := "com/example/test_context_overlay/testcontextoverlay/context/OverlayCache$Statistics", name := "<init>", desc := "(JJJI)V" } : Jvm.MethodName) prog_18_method_1_code (8 : Nat) (Option.none : Option Jvm.ClassFile.FieldType), Jvm.Cond.code ({ cls := "java/lang/Object", name := "<init>", desc := "()V" } : Jvm.MethodName) object_method_1_code (1 : Nat) (Option.none : Option Jvm.ClassFile.FieldType), Jvm.Cond.code ({ cls := "com/example/test_context_overlay/testcontextoverlay/context/OverlayCache$Statistics", name := "toString", desc := "()Ljava/lang/String;" } : Jvm.MethodName) prog_18_method_6_code (1 : Nat) (Option.some (Jvm.ClassFile.FieldType.object "java/lang/String")), Jvm.Cond.code ({ cls := "java/lang/StringBuilder", name := "<init>", desc := "()V" } : Jvm.MethodName) jdk_67_method_1_code (1 : Nat) (Option.none : Option Jvm.ClassFile.FieldType), Jvm.Cond.code ({ cls := "java/lang/AbstractStringBuilder", name := "<init>", desc := "(I)V" } : Jvm.MethodName) jdk_68_method_2_code (2 : Nat) (Option.none : Option Jvm.ClassFile.FieldType), Jvm.Cond.code ({ cls := "java/lang/StringBuilder", name := "append", desc := "(Ljava/lang/String;)Ljava/lang/StringBuilder;" } : Jvm.MethodName) jdk_67_method_7_code (2 : Nat) (Option.some (Jvm.ClassFile.FieldType.object "java/lang/StringBuilder")), Jvm.Cond.code ({ cls := "java/lang/AbstractStringBuilder", name := "append", desc := "(Ljava/lang/String;)Ljava/lang/AbstractStringBuilder;" } : Jvm.MethodName) jdk_68_method_22_code (3 : Nat) (Option.some (Jvm.ClassFile.FieldType.object "java/lang/AbstractStringBuilder")), Jvm.Cond.code ({ cls := "java/lang/String", name := "length", desc := "()I" } : Jvm.MethodName) jdk_42_method_54_code (1 : Nat) (Option.some Jvm.ClassFile.FieldType.int), Jvm.Cond.code ({ cls := "java/lang/String", name := "coder", desc := "()B" } : Jvm.MethodName) jdk_42_method_152_code (1 : Nat) (Option.some Jvm.ClassFile.FieldType.byte), Jvm.Cond.code ({ cls := "java/lang/AbstractStringBuilder", name := "ensureCapacityInternal", desc := "(I)V" } : Jvm.MethodName) jdk_68_method_9_code (3 : Nat) (Option.none : Option Jvm.ClassFile.FieldType), Jvm.Cond.code ({ cls := "java/lang/AbstractStringBuilder", name := "putStringAt", desc := "(ILjava/lang/String;)V" } : Jvm.MethodName) jdk_68_method_73_code (3 : Nat) (Option.none : Option Jvm.ClassFile.FieldType), Jvm.Cond.code ({ cls := "java/lang/AbstractStringBuilder", name := "inflateIfNeededFor", desc := "(Ljava/lang/String;)V" } : Jvm.MethodName) jdk_68_method_71_code (2 : Nat) (Option.none : Option Jvm.ClassFile.FieldType), Jvm.Cond.code ({ cls := "java/lang/String", name := "getBytes", desc := "([BIB)V" } : Jvm.MethodName) jdk_42_method_147_code (4 : Nat) (Option.none : Option Jvm.ClassFile.FieldType), Jvm.Cond.code ({ cls := "java/lang/StringBuilder", name := "append", desc := "(J)Ljava/lang/StringBuilder;" } : Jvm.MethodName) jdk_67_method_16_code (3 : Nat) (Option.some (Jvm.ClassFile.FieldType.object "java/lang/StringBuilder")), Jvm.Cond.code ({ cls := "java/lang/AbstractStringBuilder", name := "append", desc := "(J)Ljava/lang/AbstractStringBuilder;" } : Jvm.MethodName) jdk_68_method_33_code (5 : Nat) (Option.some (Jvm.ClassFile.FieldType.object "java/lang/AbstractStringBuilder")), Jvm.Cond.code ({ cls := "java/lang/Long", name := "stringSize", desc := "(J)I" } : Jvm.MethodName) jdk_35_method_15_code (6 : Nat) (Option.some Jvm.ClassFile.FieldType.int), Jvm.Cond.code ({ cls := "java/lang/AbstractStringBuilder", name := "isLatin1", desc := "()Z" } : Jvm.MethodName) jdk_68_method_68_code (1 : Nat) (Option.some Jvm.ClassFile.FieldType.boolean), Jvm.Cond.code ({ cls := "java/lang/Long", name := "getChars", desc := "(JI[B)I" } : Jvm.MethodName) jdk_35_method_14_code (11 : Nat) (Option.some Jvm.ClassFile.FieldType.int), Jvm.Cond.code ({ cls := "java/lang/AbstractStringBuilder", name := "newCapacity", desc := "(I)I" } : Jvm.MethodName) jdk_68_method_10_code (6 : Nat) (Option.some Jvm.ClassFile.FieldType.int), Jvm.Cond.code ({ cls := "jdk/internal/util/ArraysSupport", name := "newLength", desc := "(III)I" } : Jvm.MethodName) jdk_48_method_27_code (4 : Nat) (Option.some Jvm.ClassFile.FieldType.int), Jvm.Cond.code ({ cls := "java/lang/Math", name := "max", desc := "(II)I" } : Jvm.MethodName) jdk_29_method_65_code (2 : Nat) (Option.some Jvm.ClassFile.FieldType.int), Jvm.Cond.code ({ cls := "java/util/Arrays", name := "copyOf", desc := "([BI)[B" } : Jvm.MethodName) jdk_65_method_121_code (3 : Nat) (Option.some (Jvm.ClassFile.FieldType.array Jvm.ClassFile.FieldType.byte)), Jvm.Cond.code ({ cls := "java/lang/Math", name := "min", desc := "(II)I" } : Jvm.MethodName) jdk_29_method_69_code (2 : Nat) (Option.some Jvm.ClassFile.FieldType.int), Jvm.Cond.code ({ cls := "java/lang/StringBuilder", name := "append", desc := "(I)Ljava/lang/StringBuilder;" } : Jvm.MethodName) jdk_67_method_15_code (2 : Nat) (Option.some (Jvm.ClassFile.FieldType.object "java/lang/StringBuilder")), Jvm.Cond.code ({ cls := "java/lang/AbstractStringBuilder", name := "append", desc := "(I)Ljava/lang/AbstractStringBuilder;" } : Jvm.MethodName) jdk_68_method_32_code (4 : Nat) (Option.some (Jvm.ClassFile.FieldType.object "java/lang/AbstractStringBuilder")), Jvm.Cond.code ({ cls := "java/lang/Integer", name := "stringSize", desc := "(I)I" } : Jvm.MethodName) jdk_33_method_13_code (4 : Nat) (Option.some Jvm.ClassFile.FieldType.int), Jvm.Cond.code ({ cls := "java/lang/Integer", name := "getChars", desc := "(II[B)I" } : Jvm.MethodName) jdk_33_method_12_code (7 : Nat) (Option.some Jvm.ClassFile.FieldType.int), Jvm.Cond.code ({ cls := "java/lang/StringBuilder", name := "toString", desc := "()Ljava/lang/String;" } : Jvm.MethodName) jdk_67_method_42_code (1 : Nat) (Option.some (Jvm.ClassFile.FieldType.object "java/lang/String")), Jvm.Cond.code ({ cls := "java/lang/String", name := "<init>", desc := "(Ljava/lang/StringBuilder;)V" } : Jvm.MethodName) jdk_42_method_53_code (2 : Nat) (Option.none : Option Jvm.ClassFile.FieldType), Jvm.Cond.code ({ cls := "java/lang/String", name := "<init>", desc := "(Ljava/lang/AbstractStringBuilder;Ljava/lang/Void;)V" } : Jvm.MethodName) jdk_42_method_150_code (5 : Nat) (Option.none : Option Jvm.ClassFile.FieldType), Jvm.Cond.code ({ cls := "java/lang/AbstractStringBuilder", name := "getValue", desc := "()[B" } : Jvm.MethodName) jdk_68_method_64_code (1 : Nat) (Option.some (Jvm.ClassFile.FieldType.array Jvm.ClassFile.FieldType.byte)), Jvm.Cond.code ({ cls := "java/lang/StringBuilder", name := "length", desc := "()I" } : Jvm.MethodName) jdk_67_method_93_code (1 : Nat) (Option.some Jvm.ClassFile.FieldType.int), Jvm.Cond.code ({ cls := "java/lang/AbstractStringBuilder", name := "length", desc := "()I" } : Jvm.MethodName) jdk_68_method_6_code (1 : Nat) (Option.some Jvm.ClassFile.FieldType.int), Jvm.Cond.code ({ cls := "java/util/Arrays", name := "copyOfRange", desc := "([BII)[B" } : Jvm.MethodName) jdk_65_method_132_code (3 : Nat) (Option.some (Jvm.ClassFile.FieldType.array Jvm.ClassFile.FieldType.byte)), Jvm.Cond.code ({ cls := "java/util/Arrays", name := "copyOfRangeByte", desc := "([BII)[B" } : Jvm.MethodName) jdk_65_method_133_code (5 : Nat) (Option.some (Jvm.ClassFile.FieldType.array Jvm.ClassFile.FieldType.byte)), Jvm.Cond.code ({ cls := "java/util/Arrays", name := "checkLength", desc := "(II)V" } : Jvm.MethodName) jdk_65_method_131_code (2 : Nat) (Option.none : Option Jvm.ClassFile.FieldType), Jvm.Cond.code ({ cls := "com/example/test_context_overlay/testcontextoverlay/context/StatisticsToStringPinLaw", name := "literal", desc := "(Ljava/lang/String;ILjava/lang/String;)I" } : Jvm.MethodName) method_3_code (4 : Nat) (Option.some Jvm.ClassFile.FieldType.int), Jvm.Cond.code ({ cls := "com/example/test_context_overlay/testcontextoverlay/context/StatisticsToStringPinLaw", name := "litChar", desc := "(Ljava/lang/String;ILjava/lang/String;I)Z" } : Jvm.MethodName) method_4_code (4 : Nat) (Option.some Jvm.ClassFile.FieldType.boolean), Jvm.Cond.code ({ cls := "java/lang/String", name := "charAt", desc := "(I)C" } : Jvm.MethodName) jdk_42_method_56_code (2 : Nat) (Option.some Jvm.ClassFile.FieldType.char), Jvm.Cond.code ({ cls := "java/lang/String", name := "isLatin1", desc := "()Z" } : Jvm.MethodName) jdk_42_method_154_code (1 : Nat) (Option.some Jvm.ClassFile.FieldType.boolean), Jvm.Cond.code ({ cls := "java/lang/StringLatin1", name := "charAt", desc := "([BI)C" } : Jvm.MethodName) jdk_43_method_2_code (2 : Nat) (Option.some Jvm.ClassFile.FieldType.char), Jvm.Cond.code ({ cls := "java/lang/String", name := "checkIndex", desc := "(II)V" } : Jvm.MethodName) jdk_42_method_155_code (2 : Nat) (Option.none : Option Jvm.ClassFile.FieldType), Jvm.Cond.code ({ cls := "jdk/internal/util/Preconditions", name := "checkIndex", desc := "(IILjava/util/function/BiFunction;)I" } : Jvm.MethodName) jdk_41_method_11_code (3 : Nat) (Option.some Jvm.ClassFile.FieldType.int), Jvm.Cond.code ({ cls := "com/example/test_context_overlay/testcontextoverlay/context/StatisticsToStringPinLaw", name := "number", desc := "(Ljava/lang/String;IJ)I" } : Jvm.MethodName) method_5_code (7 : Nat) (Option.some Jvm.ClassFile.FieldType.int), Jvm.Cond.code ({ cls := "com/example/test_context_overlay/testcontextoverlay/context/StatisticsToStringPinLaw", name := "digitCount", desc := "(J)I" } : Jvm.MethodName) method_6_code (3 : Nat) (Option.some Jvm.ClassFile.FieldType.int), Jvm.Cond.code ({ cls := "com/example/test_context_overlay/testcontextoverlay/context/StatisticsToStringPinLaw", name := "digit", desc := "(Ljava/lang/String;IJII)Z" } : Jvm.MethodName) method_7_code (10 : Nat) (Option.some Jvm.ClassFile.FieldType.boolean), Jvm.Cond.code ({ cls := "java/lang/Math", name := "abs", desc := "(J)J" } : Jvm.MethodName) jdk_29_method_61_code (2 : Nat) (Option.some Jvm.ClassFile.FieldType.long)]
set_option maxRecDepth 65536 in
theorem codes_eq : words1.filter isCode = codes1 := rfl
theorem w_codes : ∀ c ∈ words1.filter isCode, c.before args0 about1 = true := by
  rw [codes_eq]
  intro c hc
  simp only [codes1, List.mem_cons, List.not_mem_nil, or_false] at hc
  rcases hc with rfl | rfl | rfl | rfl | rfl | rfl | rfl | rfl | rfl | rfl | rfl | rfl | rfl | rfl | rfl | rfl | rfl | rfl | rfl | rfl | rfl | rfl | rfl | rfl | rfl | rfl | rfl | rfl | rfl | rfl | rfl | rfl | rfl | rfl | rfl | rfl | rfl | rfl | rfl | rfl | rfl | rfl | rfl | rfl | rfl | rfl | rfl | rfl
  · exact w_c0
  · exact w_c1
  · exact w_c2
  · exact w_c3
  · exact w_c4
  · exact w_c5
  · exact w_c6
  · exact w_c7
  · exact w_c8
  · exact w_c9
  · exact w_c10
  · exact w_c11
  · exact w_c12
  · exact w_c13
  · exact w_c14
  · exact w_c15
  · exact w_c16
  · exact w_c17
  · exact w_c18
  · exact w_c19
  · exact w_c20
  · exact w_c21
  · exact w_c22
  · exact w_c23
  · exact w_c24
  · exact w_c25
  · exact w_c26
  · exact w_c27
  · exact w_c28
  · exact w_c29
  · exact w_c30
  · exact w_c31
  · exact w_c32
  · exact w_c33
  · exact w_c34
  · exact w_c35
  · exact w_c36
  · exact w_c37
  · exact w_c38
  · exact w_c39
  · exact w_c40
  · exact w_c41
  · exact w_c42
  · exact w_c43
  · exact w_c44
  · exact w_c45
  · exact w_c46
  · exact w_c47
set_option maxRecDepth 65536 in
theorem w_t1 : (words1.take 24).all (fun c => isCode c || c.before args0 about1) = true := by decide +kernel
set_option maxRecDepth 65536 in
theorem w_t2 : ((words1.drop 24).take 24).all (fun c => isCode c || c.before args0 about1) = true := by decide +kernel
set_option maxRecDepth 65536 in
theorem w_t3 : (((words1.drop 24).drop 24).take 24).all (fun c => isCode c || c.before args0 about1) = true := by decide +kernel
set_option maxRecDepth 65536 in
theorem w_t4 : ((((words1.drop 24).drop 24).drop 24).take 24).all (fun c => isCode c || c.before args0 about1) = true := by decide +kernel
set_option maxRecDepth 65536 in
theorem w_t5 : (((((words1.drop 24).drop 24).drop 24).drop 24).take 24).all (fun c => isCode c || c.before args0 about1) = true := by decide +kernel
set_option maxRecDepth 65536 in
theorem w_t6 : ((((((words1.drop 24).drop 24).drop 24).drop 24).drop 24).take 24).all (fun c => isCode c || c.before args0 about1) = true := by decide +kernel
set_option maxRecDepth 65536 in
theorem w_t7 : (((((((words1.drop 24).drop 24).drop 24).drop 24).drop 24).drop 24).take 24).all (fun c => isCode c || c.before args0 about1) = true := by decide +kernel
set_option maxRecDepth 65536 in
theorem w_t8 : ((((((((words1.drop 24).drop 24).drop 24).drop 24).drop 24).drop 24).drop 24).take 24).all (fun c => isCode c || c.before args0 about1) = true := by decide +kernel
set_option maxRecDepth 65536 in
theorem w_t9 : (((((((((words1.drop 24).drop 24).drop 24).drop 24).drop 24).drop 24).drop 24).drop 24).take 24).all (fun c => isCode c || c.before args0 about1) = true := by decide +kernel
set_option maxRecDepth 65536 in
theorem w_t10 : ((((((((((words1.drop 24).drop 24).drop 24).drop 24).drop 24).drop 24).drop 24).drop 24).drop 24).take 24).all (fun c => isCode c || c.before args0 about1) = true := by decide +kernel
set_option maxRecDepth 65536 in
theorem w_t11 : (((((((((((words1.drop 24).drop 24).drop 24).drop 24).drop 24).drop 24).drop 24).drop 24).drop 24).drop 24).take 24).all (fun c => isCode c || c.before args0 about1) = true := by decide +kernel
set_option maxRecDepth 65536 in
theorem w_t12 : (((((((((((words1.drop 24).drop 24).drop 24).drop 24).drop 24).drop 24).drop 24).drop 24).drop 24).drop 24).drop 24).all (fun c => isCode c || c.before args0 about1) = true := by decide +kernel
theorem w_tables : (allAtoms (Jvm.Cond.code x code maxLocals ret :: tables_1)).before args0 about1 = true := by
  rw [allAtoms_all]
  show words1.all (fun c => c.before args0 about1) = true
  refine all_split ?_ w_codes
  rw [← List.take_append_drop 24 words1, List.all_append, w_t1, ← List.take_append_drop 24 (words1.drop 24), List.all_append, w_t2, ← List.take_append_drop 24 ((words1.drop 24).drop 24), List.all_append, w_t3, ← List.take_append_drop 24 (((words1.drop 24).drop 24).drop 24), List.all_append, w_t4, ← List.take_append_drop 24 ((((words1.drop 24).drop 24).drop 24).drop 24), List.all_append, w_t5, ← List.take_append_drop 24 (((((words1.drop 24).drop 24).drop 24).drop 24).drop 24), List.all_append, w_t6, ← List.take_append_drop 24 ((((((words1.drop 24).drop 24).drop 24).drop 24).drop 24).drop 24), List.all_append, w_t7, ← List.take_append_drop 24 (((((((words1.drop 24).drop 24).drop 24).drop 24).drop 24).drop 24).drop 24), List.all_append, w_t8, ← List.take_append_drop 24 ((((((((words1.drop 24).drop 24).drop 24).drop 24).drop 24).drop 24).drop 24).drop 24), List.all_append, w_t9, ← List.take_append_drop 24 (((((((((words1.drop 24).drop 24).drop 24).drop 24).drop 24).drop 24).drop 24).drop 24).drop 24), List.all_append, w_t10, ← List.take_append_drop 24 ((((((((((words1.drop 24).drop 24).drop 24).drop 24).drop 24).drop 24).drop 24).drop 24).drop 24).drop 24), List.all_append, w_t11, w_t12]
  rfl
set_option maxRecDepth 65536 in
theorem w_rest : rest_1_c.before args0 about1 = true := by decide +kernel
set_option maxRecDepth 65536 in
theorem w_case : (Jvm.Cond.and given_1 narrow_1).before args0 about1 = true := by decide +kernel
set_option maxRecDepth 65536 in
theorem w_consts : constsHeld consts_1 about1 := Jvm.Lit.constsHeldB_iff.mp (by decide +kernel)
theorem w_applies : (headSpec (Jvm.Cond.code x code maxLocals ret :: tables_1) room_1).applies x e0.platform about1 = true :=
  (Spec.applies_iff w_frames).mpr ⟨w_running, w_runnable, w_alone, w_named, w_hears, w_ripe, w_room, w_tables⟩
theorem atStart : AtStart classFile x code maxLocals ret World_1 tables_1 room_1 Calls_1 rest_1 Pre_1 launch0 p0 e0 about1 theMethod args0 below0 :=
  ⟨lists_1, trivial, launch0.admits_env _ _ _, launch0.least_env, fairChoices_fair.cas, fairChoices_fair.clock, w_frames, w_args, w_heap, w_applies, ⟨w_consts, trivial⟩, w_rest, w_case⟩
end start1
theorem witness_1 : WitnessClaimed_1 := ⟨start1.p0, start1.e0, start1.about1, start1.theMethod, start1.args0, start1.below0, start1.atStart⟩
end Jvm.Pilot.@@N@@
