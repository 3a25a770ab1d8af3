import JvmDerived
import JvmDerived.Pilot.@@N@@Statement
import JvmDerived.Pilot.@@N@@Code
@@BLOCK:NumsL.lean.txt@@
set_option linter.unusedVariables false
set_option linter.unusedSimpArgs false
namespace Jvm.Pilot.@@N@@
open Jvm Jvm.ClassFile Sem Op Lib Jvm.Free Jvm.Stand Jvm.LawKit Jvm.RoadKit Bundle Jvm.Pilot.@@N@@.Jvm.D
abbrev own_m0 : MethodName := ⟨"com/example/feeds_to_views/feedstoviews/sql/ValuesComparePinLaw", "sgn", "(I)I"⟩
abbrev own_m1 : MethodName := ⟨"java/lang/Integer", "compare", "(II)I"⟩
abbrev own_m2 : MethodName := ⟨"java/lang/Long", "compare", "(JJ)I"⟩
abbrev own_m3 : MethodName := ⟨"java/lang/Character", "isHighSurrogate", "(C)Z"⟩
abbrev own_m4 : MethodName := ⟨"java/lang/Character", "isLowSurrogate", "(C)Z"⟩
abbrev own_m5 : MethodName := ⟨"java/lang/Character", "charCount", "(I)I"⟩
abbrev own_m6 : MethodName := ⟨"java/lang/Character", "toCodePoint", "(CC)I"⟩
abbrev own_m7 : MethodName := ⟨"java/lang/Number", "<init>", "()V"⟩
abbrev own_m8 : MethodName := ⟨"java/lang/Long", "<init>", "(J)V"⟩
abbrev own_m9 : MethodName := ⟨"java/lang/Long", "valueOf", "(J)Ljava/lang/Long;"⟩
abbrev own_m10 : MethodName := ⟨"java/lang/Long", "longValue", "()J"⟩
abbrev own_m11 : MethodName := ⟨"com/example/feeds_to_views/feedstoviews/sql/Values", "compare", "(Ljava/lang/Object;Ljava/lang/Object;)I"⟩
abbrev own_m12 : MethodName := ⟨"com/example/feeds_to_views/feedstoviews/sql/ValuesComparePinLaw", "pick", "(JIZ)C"⟩
abbrev own_m13 : MethodName := ⟨"com/example/feeds_to_views/feedstoviews/sql/ValuesComparePinLaw", "chars", "(JIZ)[C"⟩
abbrev own_m14 : MethodName := ⟨"com/example/feeds_to_views/feedstoviews/sql/ValuesComparePinLaw", "cpAt", "([CI)I"⟩
abbrev own_m15 : MethodName := ⟨"com/example/feeds_to_views/feedstoviews/sql/ValuesComparePinLaw", "decode", "([C)[I"⟩
abbrev own_m16 : MethodName := ⟨"com/example/feeds_to_views/feedstoviews/sql/ValuesComparePinLaw", "lex", "([I[I)I"⟩
abbrev own_m17 : MethodName := ⟨"java/lang/StringUTF16", "getChar", "([BI)C"⟩
abbrev own_m18 : MethodName := ⟨"java/lang/StringUTF16", "newBytesLength", "(I)I"⟩
abbrev own_m19 : MethodName := ⟨"java/lang/StringUTF16", "newBytesFor", "(I)[B"⟩
abbrev own_m20 : MethodName := ⟨"java/lang/StringUTF16", "putChar", "([BII)V"⟩
abbrev own_m21 : MethodName := ⟨"java/lang/StringUTF16", "toBytes", "([CII)[B"⟩
abbrev own_m22 : MethodName := ⟨"java/lang/StringUTF16", "compress", "([CI[BII)I"⟩
abbrev own_m23 : MethodName := ⟨"java/lang/StringUTF16", "compress", "([CII)[B"⟩
abbrev own_m24 : MethodName := ⟨"java/lang/StringUTF16", "coderFromArrayLen", "([BI)B"⟩
abbrev own_m25 : MethodName := ⟨"java/lang/String", "<init>", "([CIILjava/lang/Void;)V"⟩
abbrev own_m26 : MethodName := ⟨"java/lang/String", "<init>", "([C)V"⟩
abbrev own_m27 : MethodName := ⟨"java/lang/String", "coder", "()B"⟩
abbrev own_m28 : MethodName := ⟨"java/lang/String", "isLatin1", "()Z"⟩
abbrev own_m29 : MethodName := ⟨"java/lang/String", "length", "()I"⟩
abbrev own_m30 : MethodName := ⟨"jdk/internal/util/Preconditions", "checkIndex", "(IILjava/util/function/BiFunction;)I"⟩
abbrev own_m31 : MethodName := ⟨"java/lang/String", "checkIndex", "(II)V"⟩
abbrev own_m32 : MethodName := ⟨"java/lang/StringUTF16", "codePointAt", "([BIIZ)I"⟩
abbrev own_m33 : MethodName := ⟨"java/lang/StringUTF16", "codePointAt", "([BII)I"⟩
abbrev own_m34 : MethodName := ⟨"java/lang/String", "codePointAt", "(I)I"⟩
abbrev own_m35 : MethodName := ⟨"com/example/feeds_to_views/feedstoviews/sql/Values", "compareText", "(Ljava/lang/String;Ljava/lang/String;)I"⟩
abbrev own_s0 : String := "java/lang/StringUTF16"
abbrev own_s1 : String := "java/lang/String"
abbrev own_s2 : String := "com/example/feeds_to_views/feedstoviews/sql/ValuesComparePinLaw"
abbrev own_s4 : String := "$assertionsDisabled"
section OwnPre
variable {p : Program} {l : Launch} {e : Env} {R : Room} {s : State} {m : MethodId} {args : Array Value} {below : List Frame} {meth : Method} {c : Code} {T : State} {locs : List Loc} {cells slots : Nat} {Z : State} {h h' : Heap}
/-- from A the run comes to an end of which P holds -/
def own_G (p : Program) (e : Env) (below : List Frame) (A : State) (P : State → Outcome → Prop) : Prop := ∃ s₂ o, Steps p.tables e below A s₂ ∧ P s₂ o
def own_P (s : State) (below : List Frame) (C S : Nat) (Q : Option Value → Heap → List Loc → Prop) (s₂ : State) (o : Outcome) : Prop := s₂.status = .running ∧ Ended s₂ below o ∧ ∃ v L, o = .returned v ∧ Q v s₂.heap L ∧ FrameEnd s o s₂ L C S
def own_PW (s : State) (below : List Frame) (C S : Nat) (Q : Option Value → Heap → List Loc → Prop) (s₂ : State) (o : Outcome) : Prop := s₂.status = .running ∧ Ended s₂ below o ∧ ∃ v L, o = .returned v ∧ Q v s₂.heap L ∧ ReturnedEndW s o s₂ L C S
theorem own_go {A B : State} {P : State → Outcome → Prop} (k : ∀ t, Steps p.tables e below B t → Steps p.tables e below A t) (g : own_G p e below B P) : own_G p e below A P := by
  obtain ⟨s, o, h, r⟩ := g; exact ⟨s, o, k _ h, r⟩
theorem own_tr {A B : State} {P : State → Outcome → Prop} (k : Steps p.tables e below A B) (g : own_G p e below B P) : own_G p e below A P := own_go (fun _ h => k.trans h) g
theorem own_start {C S : Nat} {Q : Option Value → Heap → List Loc → Prop} {g g' : JFrame} (q : g = g') (k : own_G p e below (T.setTop g') (own_P s below C S Q)) :
    ∃ s₂ o, Steps p.tables e below (T.setTop g) s₂ ∧ s₂.status = .running ∧ Ended s₂ below o ∧ ∃ v L, o = .returned v ∧ Q v s₂.heap L ∧ FrameEnd s o s₂ L C S := q ▸ k
theorem own_startW {C S : Nat} {Q : Option Value → Heap → List Loc → Prop} {g g' : JFrame} (q : g = g') (k : own_G p e below (T.setTop g') (own_PW s below C S Q)) :
    ∃ s₂ o, Steps p.tables e below (T.setTop g) s₂ ∧ s₂.status = .running ∧ Ended s₂ below o ∧ ∃ v L, o = .returned v ∧ Q v s₂.heap L ∧ ReturnedEndW s o s₂ L C S := q ▸ k
theorem own_ret (X : Stand p l e R s m args below meth c T locs cells slots) (hx : p.tables.exec = Jvm.exec) {pc : Nat} {Ls : Array Slot} {w : Value} {t : FieldType} {i : Instr} {rest : List Value} (hret : meth.sig.returnType = some t) (hn : narrow t w = w)
    (hi : (i = .ireturn ∧ (t = .int ∨ t = .boolean ∨ t = .byte ∨ t = .char ∨ t = .short) ∧ ∃ z, w = .int z) ∨ (i = .lreturn ∧ t = .long ∧ ∃ z, w = .long z) ∨ (i = .dreturn ∧ t = .double ∧ ∃ z, w = .double z) ∨ (i = .freturn ∧ t = .float ∧ ∃ z, w = .float z) ∨ (i = .areturn ∧ t.isReference = true ∧ w.isRef = true))
    (hd : decode c.code pc = .ok (i, 1)) (hlocks : meth.locks = false) {C S : Nat} {Q : Option Value → Heap → List Loc → Prop} (hC : cells ≤ C) (hS : slots ≤ S) (hQ : Q (some w) T.heap locs) :
    own_G p e below (T.setTop (mkF m pc Ls (w :: rest))) (own_P s below C S Q) := by
  obtain ⟨fs, hr, hrun, hended, hW, hsame⟩ := X.leave (v := some w) (fun h => by rw [hret] at h; cases h) hlocks
  exact ⟨_, _, retOut X hx hret hn hi hd hr, hrun, hended, _, _, rfl, hQ, ⟨_, rfl⟩, hW, hsame.mono hC hS⟩
theorem own_retV (X : Stand p l e R s m args below meth c T locs cells slots) (hx : p.tables.exec = Jvm.exec) {pc : Nat} {Ls : Array Slot} (hret : meth.sig.returnType = none) (hd : decode c.code pc = .ok (.return_, 1)) (hlocks : meth.locks = false)
    {C S : Nat} {Q : Option Value → Heap → List Loc → Prop} (hC : cells ≤ C) (hS : slots ≤ S) (hQ : Q none T.heap locs) : own_G p e below (T.setTop (mkF m pc Ls [])) (own_P s below C S Q) := by
  obtain ⟨fs, hr, hrun, hended, hW, hsame⟩ := X.leave (v := none) (fun _ => rfl) hlocks
  exact ⟨_, _, X.returnOut hx hret hd hr, hrun, hended, _, _, rfl, hQ, ⟨_, rfl⟩, hW, hsame.mono hC hS⟩
theorem own_retW {vm₁ : Vm} (X : Stand p l e R (s.setVm vm₁) m args below meth c T locs cells slots) {n : Nat} (hSi : s.Since vm₁ n) (hn' : n ≤ T.heap.size) (hx : p.tables.exec = Jvm.exec) {pc : Nat} {Ls : Array Slot} {w : Value} {t : FieldType} {i : Instr} {rest : List Value} (hret : meth.sig.returnType = some t) (hn : narrow t w = w)
    (hi : (i = .ireturn ∧ (t = .int ∨ t = .boolean ∨ t = .byte ∨ t = .char ∨ t = .short) ∧ ∃ z, w = .int z) ∨ (i = .lreturn ∧ t = .long ∧ ∃ z, w = .long z) ∨ (i = .dreturn ∧ t = .double ∧ ∃ z, w = .double z) ∨ (i = .freturn ∧ t = .float ∧ ∃ z, w = .float z) ∨ (i = .areturn ∧ t.isReference = true ∧ w.isRef = true))
    (hd : decode c.code pc = .ok (i, 1)) (hlocks : meth.locks = false) {C S : Nat} {Q : Option Value → Heap → List Loc → Prop} (hC : cells ≤ C) (hS : slots ≤ S) (hQ : Q (some w) T.heap locs) :
    own_G p e below (T.setTop (mkF m pc Ls (w :: rest))) (own_PW s below C S Q) := by
  obtain ⟨fs, hr, hrun, hended, hW⟩ := (X.mono hC hS).leaveW hSi hn' (v := some w) (fun h => by rw [hret] at h; cases h) hlocks
  exact ⟨_, _, retOut X hx hret hn hi hd hr, hrun, hended, _, _, rfl, hQ, hW⟩
theorem own_retVW {vm₁ : Vm} (X : Stand p l e R (s.setVm vm₁) m args below meth c T locs cells slots) {n : Nat} (hSi : s.Since vm₁ n) (hn' : n ≤ T.heap.size) (hx : p.tables.exec = Jvm.exec) {pc : Nat} {Ls : Array Slot} (hret : meth.sig.returnType = none) (hd : decode c.code pc = .ok (.return_, 1)) (hlocks : meth.locks = false)
    {C S : Nat} {Q : Option Value → Heap → List Loc → Prop} (hC : cells ≤ C) (hS : slots ≤ S) (hQ : Q none T.heap locs) : own_G p e below (T.setTop (mkF m pc Ls [])) (own_PW s below C S Q) := by
  obtain ⟨fs, hr, hrun, hended, hW⟩ := (X.mono hC hS).leaveW hSi hn' (v := none) (fun _ => rfl) hlocks
  exact ⟨_, _, X.returnOut hx hret hd hr, hrun, hended, _, _, rfl, hQ, hW⟩
theorem own_ext_refl (h : Heap) : Ext h h := ⟨Nat.le_refl _, fun _ _ q => q⟩
theorem own_ext_trans {h1 h2 h3 : Heap} (A : Ext h1 h2) (B : Ext h2 h3) : Ext h1 h3 := ⟨Nat.le_trans A.1 B.1, fun a c q => B.2 a c (A.2 a c q)⟩
theorem own_ext_keep {h0 : Heap} {ws : List Addr} (O : Ext h0 h) (K : Keep h h' ws) (q : ∀ x ∈ ws, h0.size ≤ x) : Ext h0 h' := ⟨Nat.le_trans O.1 K.1, fun x c r => K.2.1 x c (O.2 x c r) fun z => absurd (Array.getElem?_eq_some_iff.mp r).1 (Nat.not_lt.mpr (q x z))⟩
theorem own_ext_wr {h0 : Heap} {a : Addr} {sl : Nat} {v : Value} (O : Ext h0 h) (W : Wr h h' a sl v) (q : h0.size ≤ a) : Ext h0 h' := own_ext_keep O (Keep.of_wr W) (allS q all0)
theorem own_fld_ne {a b : Addr} {C n d : String} {v w : Value} (F : Fld Z h a C n d v) (G : Fld Z h b C n d w) (q : v ≠ w) : a ≠ b := fun e => by
  subst e
  obtain ⟨c1, cf, k, i, f, h1, h2, -, -, -, -, h7⟩ := F
  obtain ⟨c2, cf', k', i', f', g1, g2, -, -, -, -, g7⟩ := G
  cases h1.symm.trans g1
  cases h2.symm.trans g2
  exact q (Option.some.inj (h7.symm.trans g7))
theorem own_getR (X : Stand p l e R s m args below meth c T locs cells slots) (hx : p.tables.exec = Jvm.exec) (hZ : Z.Warmed39 s.vm) {a0 : Array Value} {own R0 O n d : String} {index : Nat} (hown : s.vm.findClass own = some m.cls) (w : (Cond.fieldRef own index R0 n d).before a0 Z = true) (via : Via Z R0 O n d)
    (eT : T.heap = h) {a : Addr} {v : Value} (F : Fld Z h a O n d v) {g : JFrame} (hg : g.method = m) {rest : List Value} (hs : g.stack = .ref a :: rest) (hd : decode c.code g.pc = .ok (.getfield index, 3)) :
    ∀ target, Steps p.tables e below (T.setTop { g with pc := g.pc + 3, stack := v :: rest }) target → Steps p.tables e below (T.setTop g) target := by
  obtain ⟨cell, cf, k, i, f, h1, h2, h3, h4, -, -, h7⟩ := F
  have hi := via _ h2
  have hT : Z.Warmed39 T.vm := wtrans hZ X.warmed
  have hownZ : Z.vm.findClass own = some m.cls := by rw [← hZ.alike.findClass]; exact hown
  have hr : Z.resolvedAt? own index = some (.field cf i) := by
    simp only [Cond.before, Cond.holds, Cond.value, hownZ, hi, beq_iff_eq, Option.some.injEq, Bool.and_eq_true] at w
    obtain ⟨-, w⟩ := w
    split at w
    · rename_i c' i' hr; simp only [Bool.and_eq_true, beq_iff_eq] at w; obtain ⟨rfl, rfl⟩ := w; exact hr
    · cases w
  have hr' := State.resolvedAt?_warmed39 hT hr
  have hownT : T.vm.findClass own = some m.cls := by rw [hT.alike.findClass]; exact hownZ
  obtain ⟨k', hi', -⟩ := State.fieldFound?_setVm (s := Z) hT.alike hi
  obtain ⟨hk, hf⟩ := State.fieldFound?_spec hi'
  have hready : T.vm.fieldReady m.cls index cf f := by
    simp only [State.resolvedAt?, State.vm_setVm, hownT, Option.bind_eq_bind, Option.bind_some, Option.bind_eq_some_iff] at hr'
    obtain ⟨kc, hkc, hr'⟩ := hr'
    refine ⟨kc, i, k', hkc, ?_, hk, hf⟩
    cases hx : kc.resolved[index]? with
    | none => simp [hx] at hr'
    | some y => simp only [hx, Option.join_some] at hr'; rw [hr']
  intro target hrest
  subst hg
  jvm_step X.here [hx, hd, getfield.wp_ready (e := e) (s := T) (f := g) X.here.top hready h3 hs (show T.heap[a]? = some cell by rw [eT]; exact h1) h4 h7]
  exact hrest
theorem own_selfPriv {s : State} {args args' : Array Value} {y : MethodName} {n : Nat} (wi : (Cond.instantiable y.cls n).before args' s = true) (hp : s.PrivateAt y) (hi : (Cond.instanceMethod y).before args s = true) (hy : y.cls ≠ "java/lang/invoke/MethodHandle" ∧ y.cls ≠ "java/lang/invoke/VarHandle") : (Cond.selects y.cls y y).before args s = true := by
  obtain ⟨c, k, h1, h2, -, h4, -⟩ := Cond.instantiable_spec wi
  exact Jvm.Stand.selects_self_of_private h1 h2 (by simp only [Bool.or_eq_false_iff] at h4; exact h4.1) hp hi hy
theorem own_bool (z : Int32) (h : z = 0 ∨ z = 1) : narrow .boolean (.int z) = .int z := by rcases h with rfl | rfl <;> rfl
theorem own_mw {s Z : State} {a0 args : Array Value} {ws : List Jvm.Cond} (hZ : Z.Warmed39 s.vm) (hw : ∀ d ∈ ws, d.before a0 Z = true) (i : Nat) {d : Jvm.Cond} (h : ws[i]? = some d) (hd : (d.onTables && d.keepsFace) = true := by first | rfl | simp [Cond.onTables, Cond.keepsFace, Cond.keeps, Cond.steady]) : d.before args s = true := mvT hZ (hw d (List.mem_of_getElem? h)) hd
theorem own_hw {Z : State} {a0 : Array Value} {ws : List Jvm.Cond} (hw : ∀ d ∈ ws, d.before a0 Z = true) (i : Nat) {d : Jvm.Cond} (h : ws[i]? = some d) : d.before a0 Z = true := hw d (List.mem_of_getElem? h)
end OwnPre

section OwnArr
variable {p : Program} {l : Launch} {e : Env} {R : Room} {s : State} {m : MethodId} {args : Array Value} {below : List Frame} {meth : Method} {c : Code} {T : State} {locs : List Loc} {cells slots : Nat} {Z : State} {h h' : Heap} {a b : Addr} {k : ClassId} {ty : FieldType} {vs : List Value} {a0 : Array Value}
/-- the array at a is of class k, of components ty, and holds vs -/
def own_A (Z : State) (h : Heap) (a : Addr) (k : ClassId) (ty : FieldType) (vs : List Value) : Prop := ∃ c : Cell, Arr Z h a c ty ∧ c.cls = k ∧ c.slots.toList = vs ∧ vs.length < 2 ^ 31 ∧ ∀ v ∈ vs, fits ty v = true
theorem own_A.lt (F : own_A Z h a k ty vs) : a < h.size := by obtain ⟨c, A, -⟩ := F; exact A.lt
theorem own_A.ext (F : own_A Z h a k ty vs) (E : Ext h h') : own_A Z h' a k ty vs := by obtain ⟨c, A, r⟩ := F; exact ⟨c, A.ext E, r⟩
theorem own_A.other {sl : Nat} {v : Value} (F : own_A Z h b k ty vs) (W : Wr h h' a sl v) (q : b ≠ a) : own_A Z h' b k ty vs := by obtain ⟨c, A, r⟩ := F; exact ⟨c, A.other W q, r⟩
theorem own_A.keep {ws : List Addr} (F : own_A Z h a k ty vs) (K : Keep h h' ws) (q : a ∉ ws) : own_A Z h' a k ty vs := by obtain ⟨c, A, r⟩ := F; exact ⟨c, ⟨K.2.1 a c A.1 q, A.2⟩, r⟩
theorem own_A.eqs {vs' : List Value} (F : own_A Z h a k ty vs) (q : vs = vs') : own_A Z h a k ty vs' := q ▸ F
theorem own_in {cl : Cell} (hs : cl.slots.toList = vs) {j : Int32} {i : Nat} {v : Value} (hj : j.toInt = (i : Int)) (hv : vs[i]? = some v) : ¬ (j < 0 ∨ cl.slots.size ≤ j.toNatClampNeg) ∧ cl.slots[j.toNatClampNeg]? = some v ∧ j.toNatClampNeg = i := by
  have e : j.toNatClampNeg = i := by show j.toInt.toNat = i; omega
  have hlt : i < vs.length := by
    rcases Nat.lt_or_ge i vs.length with q | q
    · exact q
    · rw [List.getElem?_eq_none q] at hv; cases hv
  have hz : cl.slots.size = vs.length := by rw [← hs]; simp
  refine ⟨fun q => ?_, ?_, e⟩
  · rcases q with q | q
    · rw [Int32.lt_iff_toInt_lt, hj] at q; simp at q; omega
    · omega
  · rw [e, ← Array.getElem?_toList, hs]; exact hv
theorem own_ldJ (X : Stand p l e R s m args below meth c T locs cells slots) (hx : p.tables.exec = Jvm.exec) (hZ : Z.Warmed39 s.vm) (eT : T.heap = h) (F : own_A Z h a k .long vs) {j : Int32} {i : Nat} {v : Value} (hj : j.toInt = (i : Int)) (hv : vs[i]? = some v) {g : JFrame} (hg : g.method = m) {rest : List Value} (hs : g.stack = .int j :: .ref a :: rest) (hd : decode c.code g.pc = .ok (.laload, 1)) :
    ∀ t, Steps p.tables e below (T.setTop { g with pc := g.pc + 1, stack := v :: rest }) t → Steps p.tables e below (T.setTop g) t := fun t r => by
  obtain ⟨cl, A, -, q, -⟩ := F; obtain ⟨h1, h2, -⟩ := own_in q hj hv
  exact X.laload hx (by rw [eT]; exact A.1) (State.isArrayOf_alike hZ.alike A.2.1) A.2.2 h1 h2 hg hs hd t r
theorem own_ldI (X : Stand p l e R s m args below meth c T locs cells slots) (hx : p.tables.exec = Jvm.exec) (hZ : Z.Warmed39 s.vm) (eT : T.heap = h) (F : own_A Z h a k .int vs) {j : Int32} {i : Nat} {v : Value} (hj : j.toInt = (i : Int)) (hv : vs[i]? = some v) {g : JFrame} (hg : g.method = m) {rest : List Value} (hs : g.stack = .int j :: .ref a :: rest) (hd : decode c.code g.pc = .ok (.iaload, 1)) :
    ∀ t, Steps p.tables e below (T.setTop { g with pc := g.pc + 1, stack := v :: rest }) t → Steps p.tables e below (T.setTop g) t := fun t r => by
  obtain ⟨cl, A, -, q, -⟩ := F; obtain ⟨h1, h2, -⟩ := own_in q hj hv
  exact X.iaload hx (by rw [eT]; exact A.1) (State.isArrayOf_alike hZ.alike A.2.1) A.2.2 h1 h2 hg hs hd t r
theorem own_ldC (X : Stand p l e R s m args below meth c T locs cells slots) (hx : p.tables.exec = Jvm.exec) (hZ : Z.Warmed39 s.vm) (eT : T.heap = h) (F : own_A Z h a k .char vs) {j : Int32} {i : Nat} {v : Value} (hj : j.toInt = (i : Int)) (hv : vs[i]? = some v) {g : JFrame} (hg : g.method = m) {rest : List Value} (hs : g.stack = .int j :: .ref a :: rest) (hd : decode c.code g.pc = .ok (.caload, 1)) :
    ∀ t, Steps p.tables e below (T.setTop { g with pc := g.pc + 1, stack := v :: rest }) t → Steps p.tables e below (T.setTop g) t := fun t r => by
  obtain ⟨cl, A, -, q, -⟩ := F; obtain ⟨h1, h2, -⟩ := own_in q hj hv
  exact X.caload hx (by rw [eT]; exact A.1) (State.isArrayOf_alike hZ.alike A.2.1) A.2.2 h1 h2 hg hs hd t r
theorem own_ldB (X : Stand p l e R s m args below meth c T locs cells slots) (hx : p.tables.exec = Jvm.exec) (hZ : Z.Warmed39 s.vm) (eT : T.heap = h) (F : own_A Z h a k .byte vs) {j : Int32} {i : Nat} {v : Value} (hj : j.toInt = (i : Int)) (hv : vs[i]? = some v) {g : JFrame} (hg : g.method = m) {rest : List Value} (hs : g.stack = .int j :: .ref a :: rest) (hd : decode c.code g.pc = .ok (.baload, 1)) :
    ∀ t, Steps p.tables e below (T.setTop { g with pc := g.pc + 1, stack := v :: rest }) t → Steps p.tables e below (T.setTop g) t := fun t r => by
  obtain ⟨cl, A, -, q, -⟩ := F; obtain ⟨h1, h2, -⟩ := own_in q hj hv
  exact X.baloadBytes hx (by rw [eT]; exact A.1) (State.isArrayOf_alike hZ.alike A.2.1) A.2.2 h1 h2 hg hs hd t r
theorem own_ldA (X : Stand p l e R s m args below meth c T locs cells slots) (hx : p.tables.exec = Jvm.exec) (hZ : Z.Warmed39 s.vm) (eT : T.heap = h) (F : own_A Z h a k ty vs) (hty : ty.isReference = true) {j : Int32} {i : Nat} {v : Value} (hj : j.toInt = (i : Int)) (hv : vs[i]? = some v) {g : JFrame} (hg : g.method = m) {rest : List Value} (hs : g.stack = .int j :: .ref a :: rest) (hd : decode c.code g.pc = .ok (.aaload, 1)) :
    ∀ t, Steps p.tables e below (T.setTop { g with pc := g.pc + 1, stack := v :: rest }) t → Steps p.tables e below (T.setTop g) t := fun t r => by
  obtain ⟨cl, A, -, q, -⟩ := F; obtain ⟨h1, h2, -⟩ := own_in q hj hv
  exact X.aaload hx (by rw [eT]; exact A.1) (State.isArrayOf_alike hZ.alike A.2.1) hty A.2.2 h1 h2 hg hs hd t r
theorem own_len (X : Stand p l e R s m args below meth c T locs cells slots) (hx : p.tables.exec = Jvm.exec) (hZ : Z.Warmed39 s.vm) (eT : T.heap = h) (F : own_A Z h a k ty vs) {z : Int32} (hz : z.toInt = (vs.length : Int)) {g : JFrame} (hg : g.method = m) {rest : List Value} (hs : g.stack = .ref a :: rest) (hd : decode c.code g.pc = .ok (.arraylength, 1)) :
    ∀ t, Steps p.tables e below (T.setTop { g with pc := g.pc + 1, stack := .int z :: rest }) t → Steps p.tables e below (T.setTop g) t := fun t r => by
  obtain ⟨cl, A, -, q, q2, -⟩ := F
  have hl : cl.slots.size = vs.length := by rw [← q]; simp
  have e1 : cl.slots.size.toInt32 = z := by
    apply Int32.toInt_inj.mp
    rw [hl, hz]; exact Int32.toInt_ofNat_small q2
  exact X.arraylength hx (by rw [eT]; exact A.1) (State.isArrayOf_alike hZ.alike A.2.1) hg hs hd t (by rw [e1]; exact r)
theorem own_A.set {cl : Cell} (A : Arr Z h a cl ty) (q1 : cl.cls = k) (q2 : cl.slots.toList = vs) (q3 : vs.length < 2 ^ 31) (q4 : ∀ v ∈ vs, fits ty v = true) {i : Nat} {v : Value} (hv : fits ty v = true) (W : Wr h h' a i v) : own_A Z h' a k ty (vs.set i v) := by
  refine ⟨cl.setSlot i v, A.same W, q1, ?_, by simpa using q3, fun u hu => ?_⟩
  · simp [Cell.setSlot, q2]
  · rcases List.mem_or_eq_of_mem_set hu with r | r
    · exact q4 u r
    · rw [r]; exact hv
theorem own_stJ (X : Stand p l e R s m args below meth c T locs cells slots) (hx : p.tables.exec = Jvm.exec) (hZ : Z.Warmed39 s.vm) (eT : T.heap = h) (F : own_A Z h a k .long vs) {j : Int32} {i : Nat} {x : Int64} (hj : j.toInt = (i : Int)) (hi : i < vs.length) {g : JFrame} (hg : g.method = m) {rest : List Value} (hs : g.stack = .long x :: .int j :: .ref a :: rest) (hd : decode c.code g.pc = .ok (.lastore, 1)) :
    ∃ T' h', Stand p l e R s m args below meth c T' (locs ++ [⟨a, i⟩]) cells slots ∧ T'.heap = h' ∧ Wr h h' a i (.long x) ∧ own_A Z h' a k .long (vs.set i (.long x)) ∧ ∀ t, Steps p.tables e below (T'.setTop { g with pc := g.pc + 1, stack := rest }) t → Steps p.tables e below (T.setTop g) t := by
  obtain ⟨cl, A, r1, r2, r3, r4⟩ := F; obtain ⟨h1, -, h3⟩ := own_in r2 hj (List.getElem?_eq_getElem hi)
  obtain ⟨T', h', X', e', W, st⟩ := stJ X hx hZ eT A h1 hg hs hd
  rw [h3] at X' W
  exact ⟨T', h', X', e', W, own_A.set A r1 r2 r3 r4 rfl W, st⟩
theorem own_stI (X : Stand p l e R s m args below meth c T locs cells slots) (hx : p.tables.exec = Jvm.exec) (hZ : Z.Warmed39 s.vm) (eT : T.heap = h) (F : own_A Z h a k .int vs) {j : Int32} {i : Nat} {x : Int32} (hj : j.toInt = (i : Int)) (hi : i < vs.length) {g : JFrame} (hg : g.method = m) {rest : List Value} (hs : g.stack = .int x :: .int j :: .ref a :: rest) (hd : decode c.code g.pc = .ok (.iastore, 1)) :
    ∃ T' h', Stand p l e R s m args below meth c T' (locs ++ [⟨a, i⟩]) cells slots ∧ T'.heap = h' ∧ Wr h h' a i (.int x) ∧ own_A Z h' a k .int (vs.set i (.int x)) ∧ ∀ t, Steps p.tables e below (T'.setTop { g with pc := g.pc + 1, stack := rest }) t → Steps p.tables e below (T.setTop g) t := by
  obtain ⟨cl, A, r1, r2, r3, r4⟩ := F; obtain ⟨h1, -, h3⟩ := own_in r2 hj (List.getElem?_eq_getElem hi)
  obtain ⟨T', h', X', e', W, st⟩ := stI X hx hZ eT A h1 hg hs hd
  rw [h3] at X' W
  exact ⟨T', h', X', e', W, own_A.set A r1 r2 r3 r4 rfl W, st⟩
theorem own_stC (X : Stand p l e R s m args below meth c T locs cells slots) (hx : p.tables.exec = Jvm.exec) (hZ : Z.Warmed39 s.vm) (eT : T.heap = h) (F : own_A Z h a k .char vs) {j : Int32} {i : Nat} {x y : Int32} (hy : nar .char x = y) (hj : j.toInt = (i : Int)) (hi : i < vs.length) {g : JFrame} (hg : g.method = m) {rest : List Value} (hs : g.stack = .int x :: .int j :: .ref a :: rest) (hd : decode c.code g.pc = .ok (.castore, 1)) :
    ∃ T' h', Stand p l e R s m args below meth c T' (locs ++ [⟨a, i⟩]) cells slots ∧ T'.heap = h' ∧ Wr h h' a i (.int y) ∧ own_A Z h' a k .char (vs.set i (.int y)) ∧ ∀ t, Steps p.tables e below (T'.setTop { g with pc := g.pc + 1, stack := rest }) t → Steps p.tables e below (T.setTop g) t := by
  obtain ⟨cl, A, r1, r2, r3, r4⟩ := F; obtain ⟨h1, -, h3⟩ := own_in r2 hj (List.getElem?_eq_getElem hi)
  obtain ⟨T', h', X', e', W, st⟩ := stC X hx hZ eT A h1 hg hs hd
  have hfy := fits_nar_char x
  rw [hy] at hfy W
  rw [h3] at X' W
  exact ⟨T', h', X', e', W, own_A.set A r1 r2 r3 r4 hfy W, st⟩
theorem own_stB (X : Stand p l e R s m args below meth c T locs cells slots) (hx : p.tables.exec = Jvm.exec) (hZ : Z.Warmed39 s.vm) (eT : T.heap = h) (F : own_A Z h a k .byte vs) {j : Int32} {i : Nat} {x y : Int32} (hy : nar .byte x = y) (hj : j.toInt = (i : Int)) (hi : i < vs.length) {g : JFrame} (hg : g.method = m) {rest : List Value} (hs : g.stack = .int x :: .int j :: .ref a :: rest) (hd : decode c.code g.pc = .ok (.bastore, 1)) :
    ∃ T' h', Stand p l e R s m args below meth c T' (locs ++ [⟨a, i⟩]) cells slots ∧ T'.heap = h' ∧ Wr h h' a i (.int y) ∧ own_A Z h' a k .byte (vs.set i (.int y)) ∧ ∀ t, Steps p.tables e below (T'.setTop { g with pc := g.pc + 1, stack := rest }) t → Steps p.tables e below (T.setTop g) t := by
  obtain ⟨cl, A, r1, r2, r3, r4⟩ := F; obtain ⟨h1, -, h3⟩ := own_in r2 hj (List.getElem?_eq_getElem hi)
  obtain ⟨T', h', X', e', W, st⟩ := stB X hx hZ eT A h1 hg hs hd
  have hfy : fits .byte (.int (nar .byte x)) = true := fits_nar_byte x
  rw [hy] at hfy W
  rw [h3] at X' W
  exact ⟨T', h', X', e', W, own_A.set A r1 r2 r3 r4 hfy W, st⟩
theorem own_stR (X : Stand p l e R s m args below meth c T locs cells slots) (hx : p.tables.exec = Jvm.exec) (hZ : Z.Warmed39 s.vm) (eT : T.heap = h) (F : own_A Z h a k ty vs) (hty : ty.isReference = true) {j : Int32} {i : Nat} {v : Value} (hj : j.toInt = (i : Int)) (hi : i < vs.length) (hS : ∀ cl : Cell, Arr Z h a cl ty → cl.cls = k → Sto Z h a v) (hf : fits ty v = true) {g : JFrame} (hg : g.method = m) {rest : List Value} (hs : g.stack = v :: .int j :: .ref a :: rest) (hd : decode c.code g.pc = .ok (.aastore, 1)) :
    ∃ T' h', Stand p l e R s m args below meth c T' (locs ++ [⟨a, i⟩]) cells slots ∧ T'.heap = h' ∧ Wr h h' a i v ∧ own_A Z h' a k ty (vs.set i v) ∧ ∀ t, Steps p.tables e below (T'.setTop { g with pc := g.pc + 1, stack := rest }) t → Steps p.tables e below (T.setTop g) t := by
  obtain ⟨cl, A, r1, r2, r3, r4⟩ := F; obtain ⟨h1, -, h3⟩ := own_in r2 hj (List.getElem?_eq_getElem hi)
  obtain ⟨T', h', X', e', W, st⟩ := stR X hx hZ eT A h1 hty (hS cl A r1) hg hs hd
  rw [h3] at X' W
  exact ⟨T', h', X', e', W, own_A.set A r1 r2 r3 r4 hf W, st⟩
theorem own_A.of_new {n : Int32} {i : Nat} (hn : n.toInt = (i : Int)) (hd : fits ty (defaultValue ty) = true) (A : Arr Z h a (newA k ty n) ty) : own_A Z h a k ty (List.replicate i (defaultValue ty)) := by
  have e : n.toNatClampNeg = i := by show n.toInt.toNat = i; omega
  have hb := n.toInt_lt
  refine ⟨_, A, rfl, by simp [newA, e], by simp; omega, fun v hv => by rw [(List.mem_replicate.mp hv).2]; exact hd⟩
theorem own_newP (X : Stand p l e R s m args below meth c T locs cells slots) (hx : p.tables.exec = Jvm.exec) (hZ : Z.Warmed39 s.vm) {aty : ArrayType} (w : (Cond.arrayClass (newarray.typeOf aty)).before a0 Z = true) (eT : T.heap = h) {g : JFrame} (hg : g.method = m) (hd : decode c.code g.pc = .ok (.newarray aty, 2)) {n : Int32} {rest : List Value} (hs : g.stack = .int n :: rest)
    {i : Nat} (hn : n.toInt = (i : Int)) {cap : Nat} (hcap : i ≤ cap) (hb : cap * 8 ≤ 536870912) (hc : cells + 1 ≤ R.cells) (hl : slots + cap ≤ R.slots) :
    ∃ T' h' cA, Stand p l e R s m args below meth c T' locs (cells + 1) (slots + cap) ∧ T'.heap = h' ∧ Ext h h' ∧ own_A Z h' h.size cA (newarray.typeOf aty) (List.replicate i (defaultValue (newarray.typeOf aty))) ∧
      ∀ target, Steps p.tables e below (T'.setTop { g with pc := g.pc + 2, stack := .ref h.size :: rest }) target → Steps p.tables e below (T.setTop g) target := by
  have hn' : ¬ n < 0 := by rw [Int32.lt_iff_toInt_lt, hn]; simp
  obtain ⟨T', h', cA, X', e', E, A, st⟩ := newP X hx hZ w eT hg hd hs hn' (cap := cap) (by show n.toInt.toNat ≤ cap; omega) hb hc hl
  exact ⟨T', h', cA, X', e', E, own_A.of_new hn (by cases aty <;> rfl) A, st⟩
theorem own_newR (X : Stand p l e R s m args below meth c T locs cells slots) (hx : p.tables.exec = Jvm.exec) (hZ : Z.Warmed39 s.vm) {own C : String} {index : Nat} (hown : s.vm.findClass own = some m.cls) (w1 : (Cond.classLink own index C).before a0 Z = true) (w2 : (Cond.arrayOver (.object C)).before a0 Z = true)
    (eT : T.heap = h) {g : JFrame} (hg : g.method = m) (hd : decode c.code g.pc = .ok (.anewarray index, 3)) {n : Int32} {rest : List Value} (hs : g.stack = .int n :: rest) {i : Nat} (hn : n.toInt = (i : Int)) {cap : Nat} (hcap : i ≤ cap) (hb : cap * 8 ≤ 536870912) (hc : cells + 1 ≤ R.cells) (hl : slots + cap ≤ R.slots) :
    ∃ T' h' cA, Stand p l e R s m args below meth c T' locs (cells + 1) (slots + cap) ∧ T'.heap = h' ∧ Ext h h' ∧ own_A Z h' h.size cA (.object C) (List.replicate i .null) ∧ Ovr Z cA C ∧
      ∀ target, Steps p.tables e below (T'.setTop { g with pc := g.pc + 3, stack := .ref h.size :: rest }) target → Steps p.tables e below (T.setTop g) target := by
  have hn' : ¬ n < 0 := by rw [Int32.lt_iff_toInt_lt, hn]; simp
  obtain ⟨T', h', cA, X', e', E, A, O, st⟩ := newR X hx hZ hown w1 w2 eT hg hd hs hn' (cap := cap) (by show n.toInt.toNat ≤ cap; omega) hb hc hl
  exact ⟨T', h', cA, X', e', E, own_A.of_new hn rfl A, O, st⟩
theorem own_sto {C : String} {v : Value} (O : Ovr Z k C) (I : v = .null ∨ ∃ y, v = .ref y ∧ Ins Z h y C true) : ∀ cl : Cell, Arr Z h a cl ty → cl.cls = k → Sto Z h a v := fun cl A q => by
  rcases I with rfl | ⟨y, rfl, I⟩
  · exact Or.inl rfl
  · exact Sto.ofV A q O I
theorem own_A.start {args : Array Value} (hf : Fit Z) {t : Term} {n : Int32} (ev : t.eval args Z none [] Z = some (.ref a)) (hA : (Cond.arrayOf t ty).value args Z none Z [] = some true) (hL : (Cond.eq (.length t) (.int n)).value args Z none Z [] = some true) :
    ∃ c : Cell, Arr Z Z.heap a c ty ∧ own_A Z Z.heap a c.cls ty c.slots.toList ∧ c.slots.size < 2 ^ 31 ∧ c.slots.size.toInt32 = n ∧ (c.slots.size : Int) = n.toInt := by
  obtain ⟨c, A⟩ := Arr.start ev hA
  have e := eqv_i (Term.int_eval n) hL
  have e4 : Z.arrayAt? a = some c := A.fin (Vm.Alike.refl _)
  have hl : c.slots.size < 2 ^ 31 := by
    rcases Nat.lt_or_ge c.slots.size (2 ^ 31) with q | q
    · exact q
    · simp [Term.eval, ev, e4, Nat.not_lt.mpr q] at e
  have e5 := (len_f ev e4 hl).symm.trans e
  have e6 : c.slots.size.toInt32 = n := Value.int.inj (Option.some.inj e5)
  refine ⟨c, A, ⟨c, A, rfl, rfl, by simpa using hl, fun v hv => ?_⟩, hl, e6, ?_⟩
  · obtain ⟨i, hi, rfl⟩ := List.getElem_of_mem hv
    have hi' : i < c.slots.size := by simpa using hi
    have q := idx_in hi' hl
    have e7 : i.toInt32.toNatClampNeg = i := by
      show i.toInt32.toInt.toNat = i
      rw [len_toInt (Nat.lt_trans hi' hl)]; rfl
    exact elem_fits hf A q (by rw [e7]; simp [hi'])
  · rw [← e6, len_toInt hl]
end OwnArr

section OwnArr2
variable {p : Program} {l : Launch} {e : Env} {R : Room} {s : State} {m : MethodId} {args : Array Value} {below : List Frame} {meth : Method} {c : Code} {T : State} {locs : List Loc} {cells slots : Nat} {Z : State} {h h' : Heap} {a b : Addr} {k : ClassId} {ty : FieldType} {vs : List Value} {a0 : Array Value}
theorem own_newRE (X : Stand p l e R s m args below meth c T locs cells slots) (hx : p.tables.exec = Jvm.exec) (hZ : Z.Warmed39 s.vm) {own C : String} {index : Nat} (hown : s.vm.findClass own = some m.cls) (w1 : (Cond.classLink own index C).before a0 Z = true) (w2 : (Cond.arrayOver (.object C)).before a0 Z = true)
    (eT : T.heap = h) {g : JFrame} (hg : g.method = m) (hd : decode c.code g.pc = .ok (.anewarray index, 3)) {n : Int32} {rest : List Value} (hs : g.stack = .int n :: rest) {i : Nat} (hn : n.toInt = (i : Int)) {cap : Nat} (hcap : i ≤ cap) (hb : cap * 8 ≤ 536870912) (hc : cells + 1 ≤ R.cells) (hl : slots + cap ≤ R.slots) {ad : String} (had : "[" ++ (FieldType.object C).toString = ad) :
    ∃ T' h' cA, Stand p l e R s m args below meth c T' locs (cells + 1) (slots + cap) ∧ T'.heap = h' ∧ Ext h h' ∧ own_A Z h' h.size cA (.object C) (List.replicate i .null) ∧ Exa Z h' h.size ad ∧ Ovr Z cA C ∧
      ∀ target, Steps p.tables e below (T'.setTop { g with pc := g.pc + 3, stack := .ref h.size :: rest }) target → Steps p.tables e below (T.setTop g) target := by
  have hn' : ¬ n < 0 := by rw [Int32.lt_iff_toInt_lt, hn]; simp
  obtain ⟨T', h', cA, X', e', E, A, EX, O, st⟩ := newRE X hx hZ hown w1 w2 eT hg hd hs hn' (cap := cap) (by show n.toInt.toNat ≤ cap; omega) hb hc hl had
  exact ⟨T', h', cA, X', e', E, own_A.of_new hn rfl A, EX, O, st⟩
theorem own_A.arv (F : own_A Z h a k ty vs) {z : Int32} (hz : z.toInt = (vs.length : Int)) (d : Value) : Arv Z h a k ty z vs d := by
  obtain ⟨cl, A, r1, r2, r3, r4⟩ := F
  have hs : cl.slots.size = vs.length := by rw [← r2]; simp
  have hn : z.toNatClampNeg = vs.length := by show z.toInt.toNat = _; omega
  refine ⟨cl, A, r1, by rw [hs, hn], by rw [Int32.lt_iff_toInt_lt, hz]; simp, fun i hi => ?_, fun i hi => ?_⟩
  · rw [hs] at hi
    rw [← Array.getElem?_toList, r2, List.getD_eq_getElem?_getD, List.getElem?_eq_getElem hi]; rfl
  · rw [hs] at hi
    rw [List.getD_eq_getElem?_getD, List.getElem?_eq_getElem hi]; exact r4 _ (List.getElem_mem hi)
theorem own_A.of_arv {z : Int32} {d : Value} (F : Arv Z h a k ty z vs d) (hz : z.toInt = (vs.length : Int)) : own_A Z h a k ty vs := by
  obtain ⟨cl, A, r1, r2, r3, r4, r5⟩ := F
  have hn : z.toNatClampNeg = vs.length := by show z.toInt.toNat = _; omega
  have hlt := z.toInt_lt
  refine ⟨cl, A, r1, ?_, by omega, fun v hv => ?_⟩
  · apply List.ext_getElem?
    intro i
    rw [Array.getElem?_toList]
    rcases Nat.lt_or_ge i vs.length with q | q
    · rw [r4 i (by omega), List.getD_eq_getElem?_getD, List.getElem?_eq_getElem q]; rfl
    · rw [List.getElem?_eq_none q, Array.getElem?_eq_none (by omega)]
  · obtain ⟨i, hi, rfl⟩ := List.getElem_of_mem hv
    have := r5 i (by omega)
    rwa [List.getD_eq_getElem?_getD, List.getElem?_eq_getElem hi] at this
theorem own_stoL {C : String} (O : Ovr Z k C) (A : own_A Z h a k ty vs) : ∀ us : List Value, (∀ v ∈ us, v = .null ∨ ∃ y, v = .ref y ∧ Ins Z h y C true) → StoL Z h a us
  | [], _ => trivial
  | v :: us, q => ⟨by obtain ⟨cl, Ar, r1, -⟩ := A; exact own_sto O (q v List.mem_cons_self) cl Ar r1, own_stoL O A us fun u hu => q u (List.mem_cons_of_mem _ hu)⟩
theorem own_memc {P : Value → Prop} {v : Value} {us : List Value} (q : P v) (r : ∀ u ∈ us, P u) : ∀ u ∈ v :: us, P u := fun u hu => by
  rcases List.mem_cons.mp hu with rfl | hu
  · exact q
  · exact r u hu
theorem own_cp (X : Stand p l e R s m args below meth c T locs cells slots) (hx : p.tables.exec = Jvm.exec) (hZ : Z.Warmed39 s.vm) {own : String} {index : Nat} (hown : s.vm.findClass own = some m.cls)
    (w1 : (Cond.methodLink own index Jvm.Stand.acN).before a0 Z = true) (w2 : (Cond.native Jvm.Stand.acN).before a0 Z = true) (w3 : (Cond.static Jvm.Stand.acN).before a0 Z = true) (w4 : (Cond.initialized "java/lang/System").before a0 Z = true) (eT : T.heap = h)
    {k' : ClassId} {ty' : FieldType} {sp dp nn : Int32} {vd us vr : List Value} {i j n : Nat} (A : own_A Z h a k ty vs) (B : own_A Z h b k' ty' vd) (hA : vs.length < 2147483648) (hB : vd.length < 2147483648) (hty : (ty = ty' ∧ refKind ty = false) ∨ (refKind ty = true ∧ refKind ty' = true ∧ StoL Z h b us))
    (h1 : sp.toInt = (i : Int)) (h2 : dp.toInt = (j : Int)) (h3 : nn.toInt = (n : Int)) (h4 : i + n ≤ vs.length) (h5 : j + n ≤ vd.length)
    (hus : us = (vs.drop i).take n) (hvr : vr = vd.take j ++ us ++ vd.drop (j + n)) {n0 : Nat} (N : Fr n0 locs) (ge : n0 ≤ b)
    {g : JFrame} (hg : g.method = m) (hsize : g.locals.size = c.maxLocals) {rest : List Value} (hs : g.stack = .int nn :: .int dp :: .ref b :: .int sp :: .ref a :: rest) (hd : decode c.code g.pc = .ok (.invokestatic index, 3))
    (hf : 1 ≤ R.frames) {W : Nat} (hW : 2 * g.monitorRoom + (rest.map fun v => v.category).sum ≤ W) (hlo : W + (nativeFrameWords "java/lang/System" "arraycopy" 5 + 11) ≤ R.locals) :
    ∃ T' h' L, Stand p l e R s m args below meth c T' L cells slots ∧ T'.heap = h' ∧ Fr n0 L ∧ Keep h h' [b] ∧ own_A Z h' b k' ty' vr ∧
      ∀ target, Steps p.tables e below (T'.setTop { g with pc := g.pc + 3, stack := rest }) target → Steps p.tables e below (T.setTop g) target := by
  have e1 : sp.toNatClampNeg = i := by show sp.toInt.toNat = i; omega
  have e2 : dp.toNatClampNeg = j := by show dp.toInt.toNat = j; omega
  have e3 : nn.toNatClampNeg = n := by show nn.toInt.toNat = n; omega
  have z1 : (Int32.ofNat vs.length).toInt = (vs.length : Int) := Int32.toInt_ofNat_small (by omega)
  have z2 : (Int32.ofNat vd.length).toInt = (vd.length : Int) := Int32.toInt_ofNat_small (by omega)
  have y1 : (Int32.ofNat vs.length).toNatClampNeg = vs.length := by show (Int32.ofNat vs.length).toInt.toNat = _; omega
  have y2 : (Int32.ofNat vd.length).toNatClampNeg = vd.length := by show (Int32.ofNat vd.length).toInt.toNat = _; omega
  have hus' : us = (List.range nn.toNatClampNeg).map fun q => vs.getD (sp.toNatClampNeg + q) .null := by
    rw [hus, e1, e3]
    apply List.ext_getElem?
    intro q
    rcases Nat.lt_or_ge q n with r | r
    · rw [List.getElem?_take_of_lt r, List.getElem?_drop, List.getElem?_map, List.getElem?_range r, List.getElem?_eq_getElem (by omega)]
      simp [List.getD_eq_getElem?_getD, List.getElem?_eq_getElem (show i + q < vs.length by omega)]
    · rw [List.getElem?_eq_none (by simp; omega), List.getElem?_eq_none (by simp; omega)]
  obtain ⟨T', h', L, X', e', N', K, V, st⟩ := cpA X hx hZ hown w1 w2 w3 w4 eT (A.arv z1 .null) (B.arv z2 .null) hty (by rw [Int32.lt_iff_toInt_lt, h1]; simp) (by rw [Int32.lt_iff_toInt_lt, h2]; simp) (by rw [Int32.lt_iff_toInt_lt, h3]; simp) (by rw [e1, e3, y1]; exact h4) (by rw [e2, e3, y2]; exact h5) hus' (by rw [e2, e3]; exact h5) N ge hg hsize hs hd hf hW hlo
  rw [e2, e3, ← hvr] at V
  refine ⟨T', h', L, X', e', N', K, own_A.of_arv V ?_, st⟩
  rw [z2, hvr, hus]; simp; omega
theorem own_ldcK (X : Stand p l e R s m args below meth c T locs cells slots) (hx : p.tables.exec = Jvm.exec) (hZ : Z.Warmed39 s.vm) {own C : String} {index : Nat} (hown : s.vm.findClass own = some m.cls) (w : (Cond.classLink own index C).before a0 Z = true) {mr : Addr} (M : Mir Z C mr) (eT : T.heap = h) {g : JFrame} (hg : g.method = m) (hd : decode c.code g.pc = .ok (.ldc index, 2)) :
    ∃ T', Stand p l e R s m args below meth c T' locs cells slots ∧ T'.heap = h ∧ ∀ target, Steps p.tables e below (T'.setTop { g with pc := g.pc + 2, stack := .ref mr :: g.stack }) target → Steps p.tables e below (T.setTop g) target := by
  obtain ⟨cc, kc, m1, m2, m3, -⟩ := M
  obtain ⟨k', q, ek⟩ := hZ.alike.2.2 _ _ m2
  have hf : s.vm.findClass C = some cc := by rw [hZ.alike.findClass]; exact m1
  have hm : k'.mirror = some mr := by rw [ek]; exact m3
  obtain ⟨vm', X', st⟩ := X.ldcMirror hx hown (mvT hZ w) (a := mr) (by simp [Term.eval, hf, q, hm]) hg hd
  exact ⟨_, X', eT, st⟩
theorem own_NSroot {O K : String} {n : Nat} (w : (Cond.noSuperclass O).before a0 Z = true) (wk : (Cond.instantiable K n).before a0 Z = true) (hn : O ≠ K) : NS Z O K := by
  obtain ⟨c, k, h1, h2, h3, -, -⟩ := Cond.noSuperclass_spec w
  obtain ⟨t, k', g1, -⟩ := Cond.instantiable_spec wk
  have ne := ids_ne h1 g1 hn
  refine ⟨c, t, h1, g1, fun fuel => ?_⟩
  cases fuel with
  | zero => rfl
  | succ f => simp [Vm.isSubclassAux, ne, h2, h3]
theorem own_NSno {C S K : String} {nn : Nat} (w : (Cond.superclass C S).before a0 Z = true) (wk : (Cond.instantiable K nn).before a0 Z = true) (n : NS Z C K) (hn : C ≠ K) : ∃ c t, Z.vm.findClass C = some c ∧ Z.vm.findClass K = some t ∧ Z.vm.assignable c t = false := by
  obtain ⟨c, t, h0, g0, n3⟩ := n
  obtain ⟨p, k, kp, h1, h2, h3, h4, h5, -, h7⟩ := Cond.superclass_spec h0 w
  obtain ⟨t', k', g1, g2, g5, g7, -⟩ := Cond.instantiable_spec wk
  cases g0.symm.trans g1
  simp only [Bool.or_eq_false_iff] at g7
  have ne := ids_ne h0 g0 hn
  refine ⟨c, t, h0, g0, ?_⟩
  show Z.vm.assignableAux (255 + 1) c t = false
  simp [Vm.assignableAux, ne, h2, g2, h5, g5, g7.1, Vm.isSubclass, n3]
end OwnArr2


abbrev own_EL : List (String × Nat) := [("java/lang/String", 7)]
section OwnHeld
variable {p : Program} {l : Launch} {e : Env} {R : Room} {s : State} {m : MethodId} {args : Array Value} {below : List Frame} {meth : Method} {c : Code} {T : State} {locs : List Loc} {cells slots : Nat} {Z : State} {h h' : Heap} {EL : List (String × Nat)}
def own_PH (s : State) (below : List Frame) (C S : Nat) (Z : State) (EL : List (String × Nat)) (Q : Option Value → Heap → List Loc → Prop) (s₂ : State) (o : Outcome) : Prop := s₂.status = .running ∧ Ended s₂ below o ∧ ∃ v L, o = .returned v ∧ Q v s₂.heap L ∧ CHr Z EL s.vm s.heap s₂.vm s₂.heap ∧ ReturnedEndW s o s₂ L C S
theorem own_startH {C S : Nat} {Q : Option Value → Heap → List Loc → Prop} {g g' : JFrame} (q : g = g') (k : own_G p e below (T.setTop g') (own_PH s below C S Z EL Q)) :
    ∃ s₂ o, Steps p.tables e below (T.setTop g) s₂ ∧ s₂.status = .running ∧ Ended s₂ below o ∧ ∃ v L, o = .returned v ∧ Q v s₂.heap L ∧ CHr Z EL s.vm s.heap s₂.vm s₂.heap ∧ ReturnedEndW s o s₂ L C S := q ▸ k
theorem own_retH {vm₁ : Vm} (X : Stand p l e R (s.setVm vm₁) m args below meth c T locs cells slots) {n : Nat} (hSi : s.Since vm₁ n) (hn' : n ≤ T.heap.size) (hx : p.tables.exec = Jvm.exec) {pc : Nat} {Ls : Array Slot} {w : Value} {t : FieldType} {i : Instr} {rest : List Value} (hret : meth.sig.returnType = some t) (hn : narrow t w = w)
    (hi : (i = .ireturn ∧ (t = .int ∨ t = .boolean ∨ t = .byte ∨ t = .char ∨ t = .short) ∧ ∃ z, w = .int z) ∨ (i = .lreturn ∧ t = .long ∧ ∃ z, w = .long z) ∨ (i = .dreturn ∧ t = .double ∧ ∃ z, w = .double z) ∨ (i = .freturn ∧ t = .float ∧ ∃ z, w = .float z) ∨ (i = .areturn ∧ t.isReference = true ∧ w.isRef = true))
    (hd : decode c.code pc = .ok (i, 1)) (hlocks : meth.locks = false) {C S : Nat} {Q : Option Value → Heap → List Loc → Prop} (hC : cells ≤ C) (hS : slots ≤ S) (hQ : Q (some w) T.heap locs) (hR : CHr Z EL s.vm s.heap T.vm T.heap) :
    own_G p e below (T.setTop (mkF m pc Ls (w :: rest))) (own_PH s below C S Z EL Q) := by
  obtain ⟨fs, hr, hrun, hended, hW⟩ := (X.mono hC hS).leaveW hSi hn' (v := some w) (fun h => by rw [hret] at h; cases h) hlocks
  exact ⟨_, _, retOut X hx hret hn hi hd hr, hrun, hended, _, _, rfl, hQ, hR, hW⟩
theorem own_retVH {vm₁ : Vm} (X : Stand p l e R (s.setVm vm₁) m args below meth c T locs cells slots) {n : Nat} (hSi : s.Since vm₁ n) (hn' : n ≤ T.heap.size) (hx : p.tables.exec = Jvm.exec) {pc : Nat} {Ls : Array Slot} (hret : meth.sig.returnType = none) (hd : decode c.code pc = .ok (.return_, 1)) (hlocks : meth.locks = false)
    {C S : Nat} {Q : Option Value → Heap → List Loc → Prop} (hC : cells ≤ C) (hS : slots ≤ S) (hQ : Q none T.heap locs) (hR : CHr Z EL s.vm s.heap T.vm T.heap) : own_G p e below (T.setTop (mkF m pc Ls [])) (own_PH s below C S Z EL Q) := by
  obtain ⟨fs, hr, hrun, hended, hW⟩ := (X.mono hC hS).leaveW hSi hn' (v := none) (fun _ => rfl) hlocks
  exact ⟨_, _, X.returnOut hx hret hd hr, hrun, hended, _, _, rfl, hQ, hR, hW⟩
theorem own_EW {a0 : Array Value} (hw : ∀ d ∈ tables_1, d.before a0 Z = true) : EW Z a0 own_EL := EW.cons (text := "") (own_hw hw 164 rfl) (by decide) EW.nil
theorem own_safe_null {vm : Vm} {x : Addr} (hal : Z.vm.Alike vm) (E : Exa Z h x "java/lang/String") (F : Fld Z h x "java/lang/String" "value" "[B" .null) : Jvm.RoadKit.Safe Z EL vm h x := fun B => by
  obtain ⟨cell, k, e1, e2, e3, -, -⟩ := E
  obtain ⟨c2, cf, k2, i2, f2, g1, g2, -, -, -, -, g7⟩ := F
  obtain ⟨p, -, u, a, -, q, -, G, rfl | rfl⟩ := B
  · cases (show h[q.sa]? = some q.sC from G.ha).symm.trans g1
    obtain ⟨cS, ⟨⟨-, -, -, ⟨c1, k1, i1, f1, -⟩, -, -, -, v1, -⟩, -⟩, -⟩ := G
    obtain ⟨k3, e4, -⟩ := State.fieldFound?_setVm (s := Z) hal g2
    have e5 := (show (Jvm.RoadKit.Wst Z vm h).fieldFound? _ _ _ = _ from e4).symm.trans f1
    simp only [Option.some.injEq, Prod.mk.injEq] at e5
    rw [← e5.2.2.2, g7] at v1
    cases v1
  · cases (show h[q.sd]? = some q.SA from G.hd).symm.trans e1
    obtain ⟨cS, -, -, f, -⟩ := G
    have f' : Z.vm.findClass "[B" = some q.SA.cls := by rw [← hal.findClass]; exact f
    exact (ids_ne e2 f' (by decide)) rfl
end OwnHeld
theorem own_catR {v : Value} (h : v.isRef = true) : v.category = 1 := by cases v <;> first | rfl | cases h


/-! the plain law -/
def own_ch (c : Int32) : Prop := 0 ≤ c.toInt ∧ c.toInt < 65536
def own_chs (cs : List Int32) : Prop := ∀ c ∈ cs, own_ch c
theorem own_chs_nil : own_chs [] := fun _ h => nomatch h
theorem own_chs_cons {c : Int32} {r : List Int32} (h : own_ch c) (t : own_chs r) : own_chs (c :: r) := fun d hd => by
  rcases List.mem_cons.mp hd with rfl | hd
  · exact h
  · exact t d hd
def own_cv (cs : List Int32) : List Value := cs.map Value.int
def own_lb (c : Int32) : Int32 := c.toInt8.toInt32
def own_lat (cs : List Int32) : List Value := cs.map fun c => Value.int (own_lb c)
def own_lo (c : Int32) : Int32 := (c >>> ((0 : Int32) &&& 31)).toInt8.toInt32
def own_hi (c : Int32) : Int32 := (c >>> ((8 : Int32) &&& 31)).toInt8.toInt32
def own_utf : List Int32 → List Value
  | [] => []
  | c :: r => .int (own_lo c) :: .int (own_hi c) :: own_utf r
def own_rep (cs : List Int32) (cd : Int32) (vs : List Value) : Prop := (cd = 0 ∧ vs = own_lat cs ∧ ∀ c ∈ cs, c.toInt < 256) ∨ (cd = 1 ∧ vs = own_utf cs)
def own_cntN : List Int32 → Nat
  | [] => 0
  | c :: r => if (255 : Int32) < c then 0 else own_cntN r + 1
def own_cnt (cs : List Int32) : Int32 := Int32.ofNat (own_cntN cs)
theorem own_cntN_hit {c : Int32} {r : List Int32} (h : (255 : Int32) < c) : own_cntN (c :: r) = 0 := if_pos h
theorem own_cntN_miss {c : Int32} {r : List Int32} (h : ¬ (255 : Int32) < c) : own_cntN (c :: r) = own_cntN r + 1 := if_neg h
abbrev own_pair (c d : Int32) : Prop := (55296 : Int32) ≤ c ∧ c < 56320 ∧ (56320 : Int32) ≤ d ∧ d < 57344
def own_join (c d : Int32) : Int32 := (((c - (55296 : Int32)) <<< ((10 : Int32) &&& 31)) + (d - (56320 : Int32))) + (65536 : Int32)
def own_tcp (c d : Int32) : Int32 := ((c <<< ((10 : Int32) &&& 31)) + d) + (-56613888 : Int32)
def own_cpx (cs : List Int32) (i : Nat) : Int32 := if i + 1 < cs.length ∧ own_pair (cs.getD i 0) (cs.getD (i + 1) 0) then own_join (cs.getD i 0) (cs.getD (i + 1) 0) else cs.getD i 0
def own_hs (c : Int32) : Int32 := if c < (55296 : Int32) then 0 else if c < (56320 : Int32) then 1 else 0
def own_ls (c : Int32) : Int32 := if c < (56320 : Int32) then 0 else if c < (57344 : Int32) then 1 else 0
def own_l1 (cd : Int32) : Int32 := if cd = (0 : Int32) then 1 else 0
def own_ic (x y : Int32) : Int32 := if x < y then (-1) else if x = y then 0 else 1
def own_lc (x y : Int64) : Int32 := if x < y then (-1) else if x = y then 0 else 1
def own_sgn (x : Int32) : Int32 := if x < (0 : Int32) then (-1) else if x = (0 : Int32) then 0 else 1
def own_cc (x : Int32) : Int32 := if x < (65536 : Int32) then 1 else 2
def own_ccN (x : Int32) : Nat := if x < (65536 : Int32) then 1 else 2
def own_cf (cs ds : List Int32) : Nat → Nat → Int32
  | 0, _ => own_ic (Int32.ofNat cs.length) (Int32.ofNat ds.length)
  | f + 1, i => if i < cs.length ∧ i < ds.length then (if own_ic (own_cpx cs i) (own_cpx ds i) = 0 then own_cf cs ds f (i + own_ccN (own_cpx cs i)) else own_ic (own_cpx cs i) (own_cpx ds i)) else own_ic (Int32.ofNat cs.length) (Int32.ofNat ds.length)
def own_ct (cs ds : List Int32) : Int32 := own_cf cs ds 4 0
def own_lexF (p0 p1 p2 n q0 q1 q2 k : Int32) : Int32 :=
  if n = (0 : Int32) then own_sgn (n - k) else if k = (0 : Int32) then own_sgn (n - k) else
  if p0 = q0 then (if n = (1 : Int32) then own_sgn (n - k) else if k = (1 : Int32) then own_sgn (n - k) else
    if p1 = q1 then (if n = (2 : Int32) then own_sgn (n - k) else if k = (2 : Int32) then own_sgn (n - k) else
      if p2 = q2 then 0 else if p2 < q2 then (-1) else 1)
    else if p1 < q1 then (-1) else 1)
  else if p0 < q0 then (-1) else 1
def own_dec : List Int32 → List Int32
  | [] => []
  | [c] => [c]
  | c :: d :: r => if own_pair c d then own_join c d :: own_dec r else c :: own_dec (d :: r)
def own_lexL : List Int32 → List Int32 → Int32
  | [], [] => 0
  | [], _ :: _ => (-1)
  | _ :: _, [] => 1
  | x :: p, y :: q => if x = y then own_lexL p q else if x < y then (-1) else 1
def own_decs (cs : List Int32) (p0 p1 p2 n : Int32) : Prop := (own_dec cs).length ≤ 3 ∧ p0 = (own_dec cs).getD 0 0 ∧ p1 = (own_dec cs).getD 1 0 ∧ p2 = (own_dec cs).getD 2 0 ∧ n = Int32.ofNat (own_dec cs).length
theorem own_decs0 {cs : List Int32} (h : own_dec cs = []) : own_decs cs 0 0 0 0 := by unfold own_decs; rw [h]; exact ⟨by decide, rfl, rfl, rfl, by decide⟩
theorem own_decs1 {cs : List Int32} {a : Int32} (h : own_dec cs = [a]) : own_decs cs a 0 0 1 := by unfold own_decs; rw [h]; exact ⟨by simp, rfl, rfl, rfl, by show (1 : Int32) = Int32.ofNat 1; decide⟩
theorem own_decs2 {cs : List Int32} {a b : Int32} (h : own_dec cs = [a, b]) : own_decs cs a b 0 2 := by unfold own_decs; rw [h]; exact ⟨by simp, rfl, rfl, rfl, by show (2 : Int32) = Int32.ofNat 2; decide⟩
theorem own_decs3 {cs : List Int32} {a b d : Int32} (h : own_dec cs = [a, b, d]) : own_decs cs a b d 3 := by unfold own_decs; rw [h]; exact ⟨by simp, rfl, rfl, rfl, by show (3 : Int32) = Int32.ofNat 3; decide⟩
theorem own_narC {c : Int32} (h : own_ch c) : c.toUInt32.toUInt16.toUInt32.toInt32 = c := by
  have h1 : c.toUInt32.toNat = c.toInt.toNat := Int32.toNat_toUInt32_of_le (Jvm.Kit.i32_nonneg.mpr h.1)
  have h2 : c.toUInt32.toUInt16.toUInt32 = c.toUInt32 := by
    apply UInt32.toNat_inj.mp
    have := h.1; have := h.2
    rw [UInt16.toNat_toUInt32, UInt32.toNat_toUInt16, h1]; omega
  rw [h2]; exact Int32.toInt32_toUInt32 c
theorem own_chC (x : Int32) : own_ch (x.toUInt32.toUInt16.toUInt32.toInt32) := by
  have h := fits_nar_char x
  have h' : fits .char (.int x.toUInt32.toUInt16.toUInt32.toInt32) = true := h
  simp only [fits, Bool.and_eq_true, decide_eq_true_eq] at h'
  obtain ⟨a, b⟩ := h'
  rw [Int32.le_iff_toInt_le] at a b
  have e1 : (0 : Int32).toInt = 0 := by decide
  have e2 : (65535 : Int32).toInt = 65535 := by decide
  rw [e1] at a; rw [e2] at b
  exact ⟨a, by omega⟩
theorem own_nrC (x : Int32) : narrow .char (.int x.toUInt32.toUInt16.toUInt32.toInt32) = .int x.toUInt32.toUInt16.toUInt32.toInt32 := congrArg Value.int (own_narC (own_chC x))
theorem own_nar8 (x : Int32) : nar .byte (x.toInt8.toInt32) = x.toInt8.toInt32 := by
  show (x.toInt8.toInt32).toInt8.toInt32 = _
  rw [Int8.toInt8_toInt32]
theorem own_nrB (x : Int32) : narrow .byte (.int x.toInt8.toInt32) = .int x.toInt8.toInt32 := congrArg Value.int (own_nar8 x)
theorem own_cdN {cs : List Int32} {cd : Int32} {vs : List Value} (h : own_rep cs cd vs) : narrow .byte (.int cd) = .int cd := by
  rcases h with ⟨rfl, -⟩ | ⟨rfl, -⟩ <;> rfl
theorem own_cdF {cs : List Int32} {cd : Int32} {vs : List Value} (h : own_rep cs cd vs) : fits .byte (.int cd) = true := by
  rcases h with ⟨rfl, -⟩ | ⟨rfl, -⟩ <;> rfl
theorem own_lat_len (cs : List Int32) : (own_lat cs).length = cs.length := by unfold own_lat; rw [List.length_map]
theorem own_cv_len (cs : List Int32) : (own_cv cs).length = cs.length := by unfold own_cv; rw [List.length_map]
theorem own_utf_len : ∀ cs : List Int32, (own_utf cs).length = 2 * cs.length
  | [] => rfl
  | c :: r => by
    have := own_utf_len r
    show (own_utf r).length + 1 + 1 = 2 * (r.length + 1)
    omega
theorem own_len3 {cs : List Int32} (h : cs.length ≤ 3) : cs = [] ∨ (∃ a, cs = [a]) ∨ (∃ a b, cs = [a, b]) ∨ ∃ a b d, cs = [a, b, d] := by
  match cs, h with
  | [], _ => exact Or.inl rfl
  | [a], _ => exact Or.inr (Or.inl ⟨a, rfl⟩)
  | [a, b], _ => exact Or.inr (Or.inr (Or.inl ⟨a, b, rfl⟩))
  | [a, b, d], _ => exact Or.inr (Or.inr (Or.inr ⟨a, b, d, rfl⟩))
  | _ :: _ :: _ :: _ :: _, h => simp only [List.length_cons] at h; omega
theorem own_len3' {cs : List Int32} {n : Int32} (hn : n = Int32.ofNat cs.length) (h : cs.length ≤ 3) (hne : cs ≠ []) : (∃ a, cs = [a] ∧ n = 1) ∨ (∃ a b, cs = [a, b] ∧ n = 2) ∨ ∃ a b d, cs = [a, b, d] ∧ n = 3 := by
  rcases own_len3 h with rfl | ⟨a, rfl⟩ | ⟨a, b, rfl⟩ | ⟨a, b, d, rfl⟩
  · exact absurd rfl hne
  · exact Or.inl ⟨a, rfl, hn⟩
  · exact Or.inr (Or.inl ⟨a, b, rfl, hn⟩)
  · exact Or.inr (Or.inr ⟨a, b, d, rfl, hn⟩)
theorem own_ofN {n : Nat} (h : n ≤ 6) : (Int32.ofNat n).toInt = (n : Int) := Int32.toInt_ofNat_small (by omega)
theorem own_lenI {cs : List Int32} (h : cs.length ≤ 3) : (Int32.ofNat cs.length).toInt = ((own_cv cs).length : Int) := by rw [own_cv_len]; exact own_ofN (by omega)
theorem own_lenU {cs : List Int32} {vs : List Value} (hu : vs = own_utf cs) (h : cs.length ≤ 3) : (Int32.ofNat vs.length).toInt = (vs.length : Int) := own_ofN (by rw [hu, own_utf_len]; omega)
theorem own_lenV {cs : List Int32} {cd : Int32} {vs : List Value} (hr : own_rep cs cd vs) (h : cs.length ≤ 3) : (Int32.ofNat vs.length).toInt = (vs.length : Int) := by
  rcases hr with ⟨-, e, -⟩ | ⟨-, e⟩
  · exact own_ofN (by rw [e, own_lat_len]; omega)
  · exact own_lenU e h
theorem own_sh0 : ∀ n : Fin 4, (Int32.ofNat n.val) >>> ((0 : Int32) &&& 31) = Int32.ofNat n.val := by decide
theorem own_sh1 : ∀ n : Fin 4, (Int32.ofNat (2 * n.val)) >>> ((1 : Int32) &&& 31) = Int32.ofNat n.val := by decide
theorem own_len16 {cs : List Int32} {vs : List Value} (hu : vs = own_utf cs) (h : cs.length ≤ 3) : (Int32.ofNat vs.length) >>> ((1 : Int32) &&& 31) = Int32.ofNat cs.length := by
  rw [hu, own_utf_len]; exact own_sh1 ⟨cs.length, by omega⟩
theorem own_lenS {cs : List Int32} {cd : Int32} {vs : List Value} (hr : own_rep cs cd vs) (h : cs.length ≤ 3) : (Int32.ofNat vs.length) >>> (cd &&& 31) = Int32.ofNat cs.length := by
  rcases hr with ⟨rfl, e, -⟩ | ⟨rfl, e⟩
  · rw [e, own_lat_len]; exact own_sh0 ⟨cs.length, by omega⟩
  · exact own_len16 e h
theorem own_cfa0 : ∀ n : Fin 4, ((((Int32.ofNat n.val - Int32.ofNat n.val).toUInt32 >>> ((31 : Int32) &&& 31).toUInt32).toInt32).toInt8.toInt32) = 0 := by decide
theorem own_cfa1 : ∀ n : Fin 4, n.val ≠ 0 → ((((Int32.ofNat n.val - Int32.ofNat (2 * n.val)).toUInt32 >>> ((31 : Int32) &&& 31).toUInt32).toInt32).toInt8.toInt32) = 1 := by decide
theorem own_cfal {cs : List Int32} {cd n : Int32} {vs : List Value} (hr : own_rep cs cd vs) (hn : n = Int32.ofNat cs.length) (h : cs.length ≤ 3) (hne : cs ≠ []) : ((((n - (Int32.ofNat vs.length)).toUInt32 >>> ((31 : Int32) &&& 31).toUInt32).toInt32).toInt8.toInt32) = cd := by
  rcases hr with ⟨rfl, e, -⟩ | ⟨rfl, e⟩
  · rw [hn, e, own_lat_len]; exact own_cfa0 ⟨cs.length, by omega⟩
  · rw [hn, e, own_utf_len]; exact own_cfa1 ⟨cs.length, by omega⟩ (fun q => hne (List.length_eq_zero_iff.mp q))
theorem own_n0 {cs : List Int32} {n : Int32} (hn : n = Int32.ofNat cs.length) (h : cs.length ≤ 3) (h0 : n = 0) : cs = [] := by
  have e := congrArg Int32.toInt (hn.symm.trans h0)
  rw [own_ofN (by omega)] at e
  have e1 : (0 : Int32).toInt = 0 := by decide
  exact List.length_eq_zero_iff.mp (by omega)
theorem own_n1 {cs : List Int32} {n : Int32} (hn : n = Int32.ofNat cs.length) (h0 : ¬ n = 0) : cs ≠ [] := fun q => h0 (by rw [hn, q]; rfl)
theorem own_rep0 {cs : List Int32} (h : cs = []) : own_rep cs 0 [] := by subst h; exact Or.inl ⟨rfl, rfl, fun _ q => nomatch q⟩
theorem own_getD_mem {cs : List Int32} {i : Nat} (h : i < cs.length) : cs.getD i 0 ∈ cs := by
  rw [List.getD_eq_getElem?_getD, List.getElem?_eq_getElem h]; exact List.getElem_mem h
theorem own_cv_get {cs : List Int32} {i : Nat} (h : i < cs.length) : (own_cv cs)[i]? = some (.int (cs.getD i 0)) := by
  unfold own_cv; rw [List.getElem?_map, List.getElem?_eq_getElem h, List.getD_eq_getElem?_getD, List.getElem?_eq_getElem h]; rfl
theorem own_lat_get {cs : List Int32} {i : Nat} (h : i < cs.length) : (own_lat cs)[i]? = some (.int (own_lb (cs.getD i 0))) := by
  unfold own_lat; rw [List.getElem?_map, List.getElem?_eq_getElem h, List.getD_eq_getElem?_getD, List.getElem?_eq_getElem h]; rfl
theorem own_utf_get : ∀ (cs : List Int32) (i : Nat), i < cs.length → (own_utf cs)[2 * i]? = some (.int (own_lo (cs.getD i 0))) ∧ (own_utf cs)[2 * i + 1]? = some (.int (own_hi (cs.getD i 0)))
  | [], i, h => absurd h (Nat.not_lt_zero _)
  | c :: r, 0, _ => ⟨rfl, rfl⟩
  | c :: r, i + 1, h => own_utf_get r i (Nat.lt_of_succ_lt_succ h)
theorem own_shl1 {x : Int32} {i : Nat} (hx : x.toInt = (i : Int)) (hi : i < 4) : (x <<< ((1 : Int32) &&& 31)).toInt = ((2 * i : Nat) : Int) := by
  rw [Jvm.Kit.i32_shl x _ (k := 1) (by decide) (by omega) (by omega), hx]; omega
theorem own_shl1' {x : Int32} {i : Nat} (hx : x.toInt = (i : Int)) (hi : i < 4) : ((x <<< ((1 : Int32) &&& 31)) + (1 : Int32)).toInt = ((2 * i + 1 : Nat) : Int) := by
  have e1 : (1 : Int32).toInt = 1 := by decide
  have e := own_shl1 hx hi
  rw [Jvm.Kit.i32_add (by rw [e, e1]; omega) (by rw [e, e1]; omega), e, e1]; omega
theorem own_add1 {x : Int32} {i : Nat} (hx : x.toInt = (i : Int)) (hi : i < 4) : (x + (1 : Int32)).toInt = ((i + 1 : Nat) : Int) := by
  have e1 : (1 : Int32).toInt = 1 := by decide
  rw [Jvm.Kit.i32_add (by rw [hx, e1]; omega) (by rw [hx, e1]; omega), hx, e1]; omega
theorem own_ltN {x : Int32} {i n : Nat} (hx : x.toInt = (i : Int)) (hn : n ≤ 3) : x < Int32.ofNat n ↔ i < n := by
  rw [Int32.lt_iff_toInt_lt, hx, own_ofN (by omega)]; omega
theorem own_b255 (x : Int32) : (x.toInt8.toInt32 &&& (255 : Int32)).toInt = x.toInt % 256 := by
  rw [Jvm.Kit.i32_mask _ _ (k := 8) (by decide) (by decide), Int8.toInt_toInt32, Int32.toInt_toInt8]
  exact Int.bmod_emod
theorem own_nn {X : Int32} (h : 0 ≤ X.toInt) : (X.toBitVec.toNat : Int) = X.toInt := by
  have e := BitVec.toInt_eq_toNat_cond X.toBitVec
  have hl := X.toBitVec.isLt
  have e' : X.toInt = X.toBitVec.toInt := rfl
  by_cases q : 2 * X.toBitVec.toNat < 2 ^ 32
  · rw [e', e, if_pos q]
  · exfalso; rw [e', e, if_neg q] at h; omega
theorem own_or8 {A B : Int32} (hA : 0 ≤ A.toInt) (hA' : A.toInt < 256) (hB : 0 ≤ B.toInt) (hB' : B.toInt < 256) : (A ||| (B <<< ((8 : Int32) &&& 31))).toInt = A.toInt + B.toInt * 256 := by
  have hS : (B <<< ((8 : Int32) &&& 31)).toInt = B.toInt * 2 ^ 8 := Jvm.Kit.i32_shl B _ (k := 8) (by decide) (by omega) (by omega)
  generalize B <<< ((8 : Int32) &&& 31) = S at hS ⊢
  have a := own_nn hA
  have s := own_nn (X := S) (by omega)
  have b := own_nn hB
  have q : (A ||| S).toBitVec.toNat = A.toBitVec.toNat + S.toBitVec.toNat := by
    show (A.toBitVec ||| S.toBitVec).toNat = _
    have e : S.toBitVec.toNat = B.toBitVec.toNat <<< 8 := by rw [Nat.shiftLeft_eq]; omega
    rw [BitVec.toNat_or, e, Nat.or_comm, ← Nat.shiftLeft_add_eq_or_of_lt (by omega), Nat.add_comm]
  have r : (A ||| S).toInt = ((A ||| S).toBitVec.toNat : Int) := by
    have e := BitVec.toInt_eq_toNat_cond (A ||| S).toBitVec
    have e' : (A ||| S).toInt = (A ||| S).toBitVec.toInt := rfl
    rw [e', e, if_pos (by omega)]
  omega
theorem own_gc {c : Int32} (h : own_ch c) : ((((own_lo c) &&& (255 : Int32)) <<< ((0 : Int32) &&& 31)) ||| (((own_hi c) &&& (255 : Int32)) <<< ((8 : Int32) &&& 31))).toUInt32.toUInt16.toUInt32.toInt32 = c := by
  obtain ⟨h0, h1⟩ := h
  have s0 : (c >>> ((0 : Int32) &&& 31)).toInt = c.toInt / 2 ^ 0 := Jvm.Kit.i32_shr c _ (k := 0) (by decide)
  have s8 : (c >>> ((8 : Int32) &&& 31)).toInt = c.toInt / 2 ^ 8 := Jvm.Kit.i32_shr c _ (k := 8) (by decide)
  have a : ((own_lo c) &&& (255 : Int32)).toInt = c.toInt % 256 := by
    unfold own_lo; rw [own_b255, s0]; omega
  have b : ((own_hi c) &&& (255 : Int32)).toInt = c.toInt / 256 := by
    unfold own_hi; rw [own_b255, s8]; omega
  have a' : (((own_lo c) &&& (255 : Int32)) <<< ((0 : Int32) &&& 31)).toInt = c.toInt % 256 := by
    rw [Jvm.Kit.i32_shl _ _ (k := 0) (by decide) (by rw [a]; omega) (by rw [a]; omega), a]; omega
  have r := own_or8 (A := ((own_lo c) &&& (255 : Int32)) <<< ((0 : Int32) &&& 31)) (B := (own_hi c) &&& (255 : Int32)) (by omega) (by omega) (by omega) (by omega)
  rw [own_narC ⟨by omega, by omega⟩]
  apply Int32.toInt_inj.mp
  omega
theorem own_lb255 {c : Int32} (h : own_ch c) (h' : c.toInt < 256) : (own_lb c) &&& (255 : Int32) = c := by
  apply Int32.toInt_inj.mp
  have := h.1
  unfold own_lb; rw [own_b255]; omega
theorem own_cpA {cs : List Int32} {i : Nat} (h : cs.getD i 0 < (55296 : Int32) ∨ (56319 : Int32) < cs.getD i 0 ∨ ¬ i + 1 < cs.length ∨ cs.getD (i + 1) 0 < (56320 : Int32) ∨ (57343 : Int32) < cs.getD (i + 1) 0) : own_cpx cs i = cs.getD i 0 := if_neg fun q => by
  obtain ⟨h0, h1, h2, h3, h4⟩ := q
  rw [Int32.le_iff_toInt_le] at h1 h3
  rw [Int32.lt_iff_toInt_lt] at h2 h4
  have e1 : (55296 : Int32).toInt = 55296 := by decide
  have e2 : (56320 : Int32).toInt = 56320 := by decide
  have e3 : (57344 : Int32).toInt = 57344 := by decide
  have e4 : (56319 : Int32).toInt = 56319 := by decide
  have e5 : (57343 : Int32).toInt = 57343 := by decide
  rcases h with h | h | h | h | h
  · rw [Int32.lt_iff_toInt_lt] at h; omega
  · rw [Int32.lt_iff_toInt_lt] at h; omega
  · exact h h0
  · rw [Int32.lt_iff_toInt_lt] at h; omega
  · rw [Int32.lt_iff_toInt_lt] at h; omega
theorem own_pairB {c d : Int32} (h1 : ¬ c < (55296 : Int32)) (h2 : ¬ (56319 : Int32) < c) (h4 : ¬ d < (56320 : Int32)) (h5 : ¬ (57343 : Int32) < d) : own_pair c d := by
  rw [Int32.lt_iff_toInt_lt] at h1 h2 h4 h5
  have e1 : (55296 : Int32).toInt = 55296 := by decide
  have e2 : (56320 : Int32).toInt = 56320 := by decide
  have e3 : (57344 : Int32).toInt = 57344 := by decide
  have e4 : (56319 : Int32).toInt = 56319 := by decide
  have e5 : (57343 : Int32).toInt = 57343 := by decide
  refine ⟨?_, ?_, ?_, ?_⟩
  · rw [Int32.le_iff_toInt_le]; omega
  · rw [Int32.lt_iff_toInt_lt]; omega
  · rw [Int32.le_iff_toInt_le]; omega
  · rw [Int32.lt_iff_toInt_lt]; omega
theorem own_cpB {cs : List Int32} {i : Nat} (h0 : i + 1 < cs.length) (h : own_pair (cs.getD i 0) (cs.getD (i + 1) 0)) : own_cpx cs i = own_join (cs.getD i 0) (cs.getD (i + 1) 0) := if_pos ⟨h0, h⟩
theorem own_hs0 {c : Int32} (h : own_hs c = 0) : c < (55296 : Int32) ∨ (56319 : Int32) < c := by
  unfold own_hs at h
  by_cases q : c < (55296 : Int32)
  · exact Or.inl q
  · rw [if_neg q] at h
    by_cases r : c < (56320 : Int32)
    · rw [if_pos r] at h; exact absurd h (by decide)
    · right
      rw [Int32.lt_iff_toInt_lt] at r ⊢
      have e2 : (56320 : Int32).toInt = 56320 := by decide
      have e4 : (56319 : Int32).toInt = 56319 := by decide
      omega
theorem own_hs1 {c : Int32} (h : ¬ own_hs c = 0) : ¬ c < (55296 : Int32) ∧ c < (56320 : Int32) := by
  unfold own_hs at h
  by_cases q : c < (55296 : Int32)
  · rw [if_pos q] at h; exact absurd rfl h
  · rw [if_neg q] at h
    by_cases r : c < (56320 : Int32)
    · exact ⟨q, r⟩
    · rw [if_neg r] at h; exact absurd rfl h
theorem own_ls0 {c : Int32} (h : own_ls c = 0) : c < (56320 : Int32) ∨ (57343 : Int32) < c := by
  unfold own_ls at h
  by_cases q : c < (56320 : Int32)
  · exact Or.inl q
  · rw [if_neg q] at h
    by_cases r : c < (57344 : Int32)
    · rw [if_pos r] at h; exact absurd h (by decide)
    · right
      rw [Int32.lt_iff_toInt_lt] at r ⊢
      have e2 : (57344 : Int32).toInt = 57344 := by decide
      have e4 : (57343 : Int32).toInt = 57343 := by decide
      omega
theorem own_ls1 {c : Int32} (h : ¬ own_ls c = 0) : ¬ c < (56320 : Int32) ∧ c < (57344 : Int32) := by
  unfold own_ls at h
  by_cases q : c < (56320 : Int32)
  · rw [if_pos q] at h; exact absurd rfl h
  · rw [if_neg q] at h
    by_cases r : c < (57344 : Int32)
    · exact ⟨q, r⟩
    · rw [if_neg r] at h; exact absurd rfl h
theorem own_cpC {cs : List Int32} {i : Nat} (h : own_hs (cs.getD i 0) = 0 ∨ ¬ i + 1 < cs.length ∨ own_ls (cs.getD (i + 1) 0) = 0) : own_cpx cs i = cs.getD i 0 := own_cpA (by
  rcases h with h | h | h
  · rcases own_hs0 h with h | h
    · exact Or.inl h
    · exact Or.inr (Or.inl h)
  · exact Or.inr (Or.inr (Or.inl h))
  · rcases own_ls0 h with h | h
    · exact Or.inr (Or.inr (Or.inr (Or.inl h)))
    · exact Or.inr (Or.inr (Or.inr (Or.inr h))))
theorem own_join_toInt {c d : Int32} (h : own_pair c d) : (own_join c d).toInt = (c.toInt - 55296) * 1024 + (d.toInt - 56320) + 65536 ∧ 55296 ≤ c.toInt ∧ c.toInt < 56320 ∧ 56320 ≤ d.toInt ∧ d.toInt < 57344 := by
  obtain ⟨h1, h2, h3, h4⟩ := h
  rw [Int32.le_iff_toInt_le] at h1 h3
  rw [Int32.lt_iff_toInt_lt] at h2 h4
  have e1 : (55296 : Int32).toInt = 55296 := by decide
  have e2 : (56320 : Int32).toInt = 56320 := by decide
  have e3 : (57344 : Int32).toInt = 57344 := by decide
  have e4 : (65536 : Int32).toInt = 65536 := by decide
  rw [e1] at h1
  rw [e2] at h2 h3
  rw [e3] at h4
  refine ⟨?_, h1, h2, h3, h4⟩
  have s1 : (c - (55296 : Int32)).toInt = c.toInt - 55296 := by rw [Jvm.Kit.i32_sub (by rw [e1]; omega) (by rw [e1]; omega), e1]
  have s2 : (d - (56320 : Int32)).toInt = d.toInt - 56320 := by rw [Jvm.Kit.i32_sub (by rw [e2]; omega) (by rw [e2]; omega), e2]
  have s3 : ((c - (55296 : Int32)) <<< ((10 : Int32) &&& 31)).toInt = (c.toInt - 55296) * 2 ^ 10 := by
    rw [Jvm.Kit.i32_shl _ _ (k := 10) (by decide) (by rw [s1]; omega) (by rw [s1]; omega), s1]
  have s4 : (((c - (55296 : Int32)) <<< ((10 : Int32) &&& 31)) + (d - (56320 : Int32))).toInt = (c.toInt - 55296) * 1024 + (d.toInt - 56320) := by
    rw [Jvm.Kit.i32_add (by rw [s3, s2]; omega) (by rw [s3, s2]; omega), s3, s2]; omega
  unfold own_join
  rw [Jvm.Kit.i32_add (by rw [s4, e4]; omega) (by rw [s4, e4]; omega), s4, e4]
theorem own_tcp_eq {c d : Int32} (h : own_pair c d) : own_tcp c d = own_join c d := by
  obtain ⟨e, h1, h2, h3, h4⟩ := own_join_toInt h
  apply Int32.toInt_inj.mp
  rw [e]
  have e5 : (-56613888 : Int32).toInt = -56613888 := by decide
  have s3 : (c <<< ((10 : Int32) &&& 31)).toInt = c.toInt * 2 ^ 10 := Jvm.Kit.i32_shl _ _ (k := 10) (by decide) (by omega) (by omega)
  have s4 : ((c <<< ((10 : Int32) &&& 31)) + d).toInt = c.toInt * 1024 + d.toInt := by
    rw [Jvm.Kit.i32_add (by rw [s3]; omega) (by rw [s3]; omega), s3]; omega
  unfold own_tcp
  rw [Jvm.Kit.i32_add (by rw [s4, e5]; omega) (by rw [s4, e5]; omega), s4, e5]; omega
theorem own_cpD {cs : List Int32} {i : Nat} (h : ¬ own_hs (cs.getD i 0) = 0) (h0 : i + 1 < cs.length) (h' : ¬ own_ls (cs.getD (i + 1) 0) = 0) : own_tcp (cs.getD i 0) (cs.getD (i + 1) 0) = own_cpx cs i := by
  obtain ⟨a1, a2⟩ := own_hs1 h
  obtain ⟨b1, b2⟩ := own_ls1 h'
  have hp : own_pair (cs.getD i 0) (cs.getD (i + 1) 0) := ⟨Int32.not_lt.mp a1, a2, Int32.not_lt.mp b1, b2⟩
  rw [own_cpB h0 hp]; exact own_tcp_eq hp
theorem own_cpL {cs : List Int32} {i : Nat} (hc : own_chs cs) (h8 : ∀ c ∈ cs, c.toInt < 256) (h : i < cs.length) : (own_lb (cs.getD i 0)) &&& (255 : Int32) = own_cpx cs i := by
  have m := own_getD_mem h
  rw [own_lb255 (hc _ m) (h8 _ m), own_cpA (Or.inl _)]
  rw [Int32.lt_iff_toInt_lt]
  have e1 : (55296 : Int32).toInt = 55296 := by decide
  have := h8 _ m
  omega
theorem own_l1n {cd : Int32} {cs : List Int32} {vs : List Value} (hr : own_rep cs cd vs) (h : ¬ own_l1 cd = 0) : vs = own_lat cs ∧ ∀ c ∈ cs, c.toInt < 256 := by
  rcases hr with ⟨-, e⟩ | ⟨rfl, -⟩
  · exact e
  · exact absurd (if_neg (by decide)) h
theorem own_l1y {cd : Int32} {cs : List Int32} {vs : List Value} (hr : own_rep cs cd vs) (h : own_l1 cd = 0) : vs = own_utf cs := by
  rcases hr with ⟨rfl, -⟩ | ⟨-, e⟩
  · exact absurd (h.symm.trans (if_pos rfl)) (by decide)
  · exact e
theorem own_nneg {x : Int32} {i : Nat} (hx : x.toInt = (i : Int)) : ¬ x < (0 : Int32) := by
  rw [Int32.lt_iff_toInt_lt, hx]
  have e1 : (0 : Int32).toInt = 0 := by decide
  omega
theorem own_ltV {x : Int32} {i : Nat} {cs : List Int32} {vs : List Value} (hx : x.toInt = (i : Int)) (h3 : cs.length ≤ 3) (h : i < cs.length) (e : vs = own_lat cs) : x < Int32.ofNat vs.length := by
  rw [e, own_lat_len]; exact (own_ltN hx h3).mpr h
theorem own_cntN_le : ∀ cs : List Int32, own_cntN cs ≤ cs.length
  | [] => Nat.le_refl _
  | c :: r => by
    by_cases q : (255 : Int32) < c
    · rw [own_cntN_hit q]; exact Nat.zero_le _
    · rw [own_cntN_miss q]; exact Nat.succ_le_succ (own_cntN_le r)
theorem own_cnt_toInt {cs : List Int32} (h : cs.length ≤ 3) : (own_cnt cs).toInt = (own_cntN cs : Int) := own_ofN (Nat.le_trans (own_cntN_le cs) (by omega))
theorem own_cnt_lt {cs : List Int32} {n : Int32} (hn : n = Int32.ofNat cs.length) (h : ¬ own_cnt cs = n) : own_cntN cs < cs.length := by
  rcases Nat.lt_or_eq_of_le (own_cntN_le cs) with q | q
  · exact q
  · exact absurd (by rw [hn]; exact congrArg Int32.ofNat q) h
theorem own_cnt_gt : ∀ cs : List Int32, own_cntN cs < cs.length → (255 : Int32) < cs.getD (own_cntN cs) 0
  | [], h => absurd h (Nat.not_lt_zero _)
  | c :: r, h => by
    by_cases q : (255 : Int32) < c
    · rw [own_cntN_hit q]; exact q
    · rw [own_cntN_miss q] at h ⊢; exact own_cnt_gt r (Nat.lt_of_succ_lt_succ h)
theorem own_cnt_all : ∀ cs : List Int32, own_cntN cs = cs.length → ∀ c ∈ cs, ¬ (255 : Int32) < c
  | [], _, c, hc => nomatch hc
  | d :: r, h, c, hc => by
    by_cases q : (255 : Int32) < d
    · rw [own_cntN_hit q] at h; simp at h
    · rw [own_cntN_miss q] at h
      rcases List.mem_cons.mp hc with rfl | hc
      · exact q
      · exact own_cnt_all r (Nat.succ.inj h) c hc
theorem own_rep_lat {cs : List Int32} {n : Int32} {vs : List Value} (hn : n = Int32.ofNat cs.length) (h3 : cs.length ≤ 3) (h : own_cnt cs = n) (hv : vs = own_lat cs) : own_rep cs 0 vs := by
  refine Or.inl ⟨rfl, hv, fun c hc => ?_⟩
  have e := congrArg Int32.toInt (h.trans hn)
  rw [own_cnt_toInt h3, own_ofN (by omega)] at e
  have q := own_cnt_all cs (by omega) c hc
  rw [Int32.lt_iff_toInt_lt] at q
  have e1 : (255 : Int32).toInt = 255 := by decide
  omega
theorem own_cc_toInt (x : Int32) : (own_cc x).toInt = (own_ccN x : Int) := by
  unfold own_cc own_ccN
  by_cases q : x < (65536 : Int32)
  · rw [if_pos q, if_pos q]; decide
  · rw [if_neg q, if_neg q]; decide
theorem own_ccN_le (x : Int32) : 1 ≤ own_ccN x ∧ own_ccN x ≤ 2 := by
  unfold own_ccN
  by_cases q : x < (65536 : Int32)
  · rw [if_pos q]; decide
  · rw [if_neg q]; decide
theorem own_addcc {x y : Int32} {i : Nat} (hx : x.toInt = (i : Int)) (hi : i < 4) : (x + own_cc y).toInt = ((i + own_ccN y : Nat) : Int) := by
  have e := own_cc_toInt y
  have := own_ccN_le y
  rw [Jvm.Kit.i32_add (by rw [hx, e]; omega) (by rw [hx, e]; omega), hx, e]; omega
theorem own_cf_exit {cs ds : List Int32} {f i : Nat} (h : ¬ (i < cs.length ∧ i < ds.length)) : own_ic (Int32.ofNat cs.length) (Int32.ofNat ds.length) = own_cf cs ds f i := by
  cases f with
  | zero => rfl
  | succ f => exact (if_neg h).symm
theorem own_cf_step1 {cs ds : List Int32} {f i : Nat} (h1 : i < cs.length) (h2 : i < ds.length) (h : own_ic (own_cpx cs i) (own_cpx ds i) = 0) : own_cf cs ds f (i + own_ccN (own_cpx cs i)) = own_cf cs ds (f + 1) i := by
  show _ = ite _ _ _
  rw [if_pos ⟨h1, h2⟩, if_pos h]
theorem own_cf_step2 {cs ds : List Int32} {f i : Nat} (h1 : i < cs.length) (h2 : i < ds.length) (h : ¬ own_ic (own_cpx cs i) (own_cpx ds i) = 0) : own_ic (own_cpx cs i) (own_cpx ds i) = own_cf cs ds (f + 1) i := by
  show _ = ite _ _ _
  rw [if_pos ⟨h1, h2⟩, if_neg h]
theorem own_cplt {c : Int32} (h : own_ch c) : c < (65536 : Int32) := by
  rw [Int32.lt_iff_toInt_lt]
  have e1 : (65536 : Int32).toInt = 65536 := by decide
  have := h.2
  omega
theorem own_join_ge {c d : Int32} (h : own_pair c d) : ¬ own_join c d < (65536 : Int32) := by
  obtain ⟨e, h1, h2, h3, h4⟩ := own_join_toInt h
  rw [Int32.lt_iff_toInt_lt, e]
  have e1 : (65536 : Int32).toInt = 65536 := by decide
  omega
theorem own_ccN_cp {cs : List Int32} {i : Nat} (hc : own_chs cs) (h : i < cs.length) : ((i + 1 < cs.length ∧ own_pair (cs.getD i 0) (cs.getD (i + 1) 0)) ∧ own_cpx cs i = own_join (cs.getD i 0) (cs.getD (i + 1) 0) ∧ own_ccN (own_cpx cs i) = 2) ∨ (¬ (i + 1 < cs.length ∧ own_pair (cs.getD i 0) (cs.getD (i + 1) 0)) ∧ own_cpx cs i = cs.getD i 0 ∧ own_ccN (own_cpx cs i) = 1) := by
  by_cases q : i + 1 < cs.length ∧ own_pair (cs.getD i 0) (cs.getD (i + 1) 0)
  · have e : own_cpx cs i = own_join (cs.getD i 0) (cs.getD (i + 1) 0) := if_pos q
    exact Or.inl ⟨q, e, by rw [e]; exact if_neg (own_join_ge q.2)⟩
  · have e : own_cpx cs i = cs.getD i 0 := if_neg q
    exact Or.inr ⟨q, e, by rw [e]; exact if_pos (own_cplt (hc _ (own_getD_mem h)))⟩
theorem own_cc_le {cs : List Int32} {i : Nat} (hc : own_chs cs) (h : i < cs.length) : i + own_ccN (own_cpx cs i) ≤ cs.length := by
  rcases own_ccN_cp hc h with ⟨q, -, e⟩ | ⟨-, -, e⟩
  · rw [e]; have := q.1; omega
  · rw [e]; omega
theorem own_drop {cs : List Int32} {i : Nat} (h : i < cs.length) : cs.drop i = cs.getD i 0 :: cs.drop (i + 1) := by
  rw [List.drop_eq_getElem_cons h, List.getD_eq_getElem?_getD, List.getElem?_eq_getElem h]; rfl
theorem own_dec_at {cs : List Int32} {i : Nat} (hc : own_chs cs) (h : i < cs.length) : own_dec (cs.drop i) = own_cpx cs i :: own_dec (cs.drop (i + own_ccN (own_cpx cs i))) := by
  rcases own_ccN_cp hc h with ⟨⟨h1, hp⟩, e, e2⟩ | ⟨q, e, e2⟩
  · rw [e2, e, own_drop h, own_drop h1]; exact if_pos hp
  · rw [e2, e, own_drop h]
    by_cases h1 : i + 1 < cs.length
    · rw [own_drop h1]; exact if_neg (fun hp => q ⟨h1, hp⟩)
    · rw [List.drop_eq_nil_of_le (by omega)]; rfl
theorem own_d1 {cs : List Int32} {i : Nat} (hc : own_chs cs) (h : i < cs.length) (hq : own_cpx cs i < (65536 : Int32)) : own_dec (cs.drop i) = own_cpx cs i :: own_dec (cs.drop (i + 1)) := by
  have := own_dec_at hc h
  rwa [show own_ccN (own_cpx cs i) = 1 from if_pos hq] at this
theorem own_d2 {cs : List Int32} {i : Nat} (hc : own_chs cs) (h : i < cs.length) (hq : ¬ own_cpx cs i < (65536 : Int32)) : own_dec (cs.drop i) = own_cpx cs i :: own_dec (cs.drop (i + 2)) := by
  have := own_dec_at hc h
  rwa [show own_ccN (own_cpx cs i) = 2 from if_neg hq] at this
theorem own_d0 {cs : List Int32} {i : Nat} (h : cs.length ≤ i) : own_dec (cs.drop i) = [] := by rw [List.drop_eq_nil_of_le h]; rfl
theorem own_icN : ∀ n k : Fin 4, own_ic (Int32.ofNat n.val) (Int32.ofNat k.val) = if n.val = k.val then 0 else if n.val < k.val then (-1) else 1 := by decide
theorem own_exit {cs ds : List Int32} {i : Nat} (hc : own_chs cs) (hd : own_chs ds) (h3 : cs.length ≤ 3) (h3' : ds.length ≤ 3) (h1 : i ≤ cs.length) (h2 : i ≤ ds.length) (h : ¬ (i < cs.length ∧ i < ds.length)) :
    own_ic (Int32.ofNat cs.length) (Int32.ofNat ds.length) = own_lexL (own_dec (cs.drop i)) (own_dec (ds.drop i)) := by
  rw [own_icN ⟨cs.length, by omega⟩ ⟨ds.length, by omega⟩]
  show (if cs.length = ds.length then (0 : Int32) else if cs.length < ds.length then (-1) else 1) = _
  rcases Nat.lt_trichotomy cs.length ds.length with q | q | q
  · rw [if_neg (by omega), if_pos q, own_d0 (cs := cs) (by omega), own_dec_at hd (by omega)]; rfl
  · rw [if_pos q, own_d0 (cs := cs) (by omega), own_d0 (cs := ds) (by omega)]; rfl
  · rw [if_neg (by omega), if_neg (by omega), own_d0 (cs := ds) (by omega), own_dec_at hc (by omega)]; rfl
theorem own_ic_eq {x y : Int32} (h : x = y) : own_ic x y = 0 := by
  unfold own_ic; rw [if_neg (by rw [h]; exact Int32.lt_irrefl), if_pos h]
theorem own_ic_lt {x y : Int32} (h : x < y) : own_ic x y = (-1) := if_pos h
theorem own_ic_gt {x y : Int32} (h : ¬ x < y) (h' : ¬ x = y) : own_ic x y = 1 := by unfold own_ic; rw [if_neg h, if_neg h']
theorem own_cf_lex {cs ds : List Int32} (hc : own_chs cs) (hd : own_chs ds) (h3 : cs.length ≤ 3) (h3' : ds.length ≤ 3) : ∀ f i : Nat, cs.length ≤ i + f → i ≤ cs.length → i ≤ ds.length → own_cf cs ds f i = own_lexL (own_dec (cs.drop i)) (own_dec (ds.drop i)) := by
  intro f
  induction f with
  | zero => intro i hf h1 h2; exact own_exit hc hd h3 h3' h1 h2 (by omega)
  | succ f ih =>
    intro i hf h1 h2
    by_cases q : i < cs.length ∧ i < ds.length
    · have g1 := own_ccN_le (own_cpx cs i)
      have g2 := own_cc_le hc q.1
      have g3 := own_cc_le hd q.2
      rw [own_dec_at hc q.1, own_dec_at hd q.2]
      show _ = if own_cpx cs i = own_cpx ds i then own_lexL _ _ else if own_cpx cs i < own_cpx ds i then (-1) else 1
      by_cases e : own_cpx cs i = own_cpx ds i
      · rw [if_pos e, ← own_cf_step1 q.1 q.2 (own_ic_eq e), ih _ (by omega) g2 (by rw [e]; exact g3), e]
      · rw [if_neg e]
        by_cases l : own_cpx cs i < own_cpx ds i
        · rw [if_pos l, ← own_cf_step2 q.1 q.2 (by rw [own_ic_lt l]; decide), own_ic_lt l]
        · rw [if_neg l, ← own_cf_step2 q.1 q.2 (by rw [own_ic_gt l e]; decide), own_ic_gt l e]
    · rw [← own_cf_exit q]; exact own_exit hc hd h3 h3' h1 h2 q
theorem own_lexL3 : ∀ p q : List Int32, own_lexL p q = (-1) ∨ own_lexL p q = 0 ∨ own_lexL p q = 1
  | [], [] => Or.inr (Or.inl rfl)
  | [], _ :: _ => Or.inl rfl
  | _ :: _, [] => Or.inr (Or.inr rfl)
  | x :: p, y :: q => by
    have ih := own_lexL3 p q
    show (if x = y then own_lexL p q else if x < y then (-1) else 1) = (-1) ∨ (if x = y then own_lexL p q else if x < y then (-1) else 1) = 0 ∨ (if x = y then own_lexL p q else if x < y then (-1) else 1) = 1
    by_cases e : x = y
    · rw [if_pos e]; exact ih
    · rw [if_neg e]
      by_cases l : x < y
      · rw [if_pos l]; exact Or.inl rfl
      · rw [if_neg l]; exact Or.inr (Or.inr rfl)
theorem own_sgnL (p q : List Int32) : own_sgn (own_lexL p q) = own_lexL p q := by
  rcases own_lexL3 p q with e | e | e <;> rw [e] <;> decide
theorem own_lexFL {p q : List Int32} (hp : p.length ≤ 3) (hq : q.length ≤ 3) : own_lexF (p.getD 0 0) (p.getD 1 0) (p.getD 2 0) (Int32.ofNat p.length) (q.getD 0 0) (q.getD 1 0) (q.getD 2 0) (Int32.ofNat q.length) = own_lexL p q := by
  rcases own_len3 hp with rfl | ⟨a, rfl⟩ | ⟨a, b, rfl⟩ | ⟨a, b, d, rfl⟩ <;> rcases own_len3 hq with rfl | ⟨a', rfl⟩ | ⟨a', b', rfl⟩ | ⟨a', b', d', rfl⟩ <;> first | rfl | (simp [own_lexF, own_lexL, own_sgn]; done) | (simp [own_lexF, own_lexL, own_sgn] <;> decide)
theorem own_main {cs ds : List Int32} {p0 p1 p2 n q0 q1 q2 k : Int32} (hc : own_chs cs) (hd : own_chs ds) (h3 : cs.length ≤ 3) (h3' : ds.length ≤ 3) (h1 : own_decs cs p0 p1 p2 n) (h2 : own_decs ds q0 q1 q2 k) : own_sgn (own_ct cs ds) = own_lexF p0 p1 p2 n q0 q1 q2 k := by
  obtain ⟨a0, rfl, rfl, rfl, rfl⟩ := h1
  obtain ⟨b0, rfl, rfl, rfl, rfl⟩ := h2
  rw [own_lexFL a0 b0]
  have e := own_cf_lex hc hd h3 h3' 4 0 (by omega) (Nat.zero_le _) (Nat.zero_le _)
  show own_sgn (own_cf cs ds 4 0) = _
  rw [e]; exact own_sgnL _ _
theorem own_and3 (x : Int32) : x &&& (3 : Int32) = 0 ∨ x &&& (3 : Int32) = 1 ∨ x &&& (3 : Int32) = 2 ∨ x &&& (3 : Int32) = 3 := by
  have e := Jvm.Kit.i32_mask x 3 (k := 2) (by decide) (by decide)
  have e0 : (0 : Int32).toInt = 0 := by decide
  have e1 : (1 : Int32).toInt = 1 := by decide
  have e2 : (2 : Int32).toInt = 2 := by decide
  have e3 : (3 : Int32).toInt = 3 := by decide
  have q : (x &&& (3 : Int32)).toInt = 0 ∨ (x &&& (3 : Int32)).toInt = 1 ∨ (x &&& (3 : Int32)).toInt = 2 ∨ (x &&& (3 : Int32)).toInt = 3 := by omega
  rcases q with q | q | q | q
  · exact Or.inl (Int32.toInt_inj.mp (q.trans e0.symm))
  · exact Or.inr (Or.inl (Int32.toInt_inj.mp (q.trans e1.symm)))
  · exact Or.inr (Or.inr (Or.inl (Int32.toInt_inj.mp (q.trans e2.symm))))
  · exact Or.inr (Or.inr (Or.inr (Int32.toInt_inj.mp (q.trans e3.symm))))
theorem own_idx {v : Int64} (h1 : ¬ v < (-128 : Int64)) (h2 : ¬ (127 : Int64) < v) : (v.toInt32 + (128 : Int32)).toInt = (((v.toInt + 128).toNat : Nat) : Int) ∧ (v.toInt + 128).toNat < 256 := by
  rw [Int64.lt_iff_toInt_lt] at h1 h2
  have e1 : (-128 : Int64).toInt = -128 := by decide
  have e2 : (127 : Int64).toInt = 127 := by decide
  have e3 : (128 : Int32).toInt = 128 := by decide
  have s := Jvm.Kit.i32_of_i64 (x := v) (by omega) (by omega)
  refine ⟨?_, by omega⟩
  rw [Jvm.Kit.i32_add (by rw [s, e3]; omega) (by rw [s, e3]; omega), s, e3]; omega
theorem own_idv {v : Int64} (h1 : ¬ v < (-128 : Int64)) (h2 : ¬ (127 : Int64) < v) : (((v.toInt + 128).toNat).toInt32 - (128 : Int32)).toInt64 = v := by
  rw [Int64.lt_iff_toInt_lt] at h1 h2
  have e1 : (-128 : Int64).toInt = -128 := by decide
  have e2 : (127 : Int64).toInt = 127 := by decide
  have e3 : (128 : Int32).toInt = 128 := by decide
  have s : (((v.toInt + 128).toNat).toInt32).toInt = (((v.toInt + 128).toNat : Nat) : Int) := Int32.toInt_ofNat_small (by omega)
  apply Int64.toInt_inj.mp
  rw [Jvm.Kit.i64_of_i32, Jvm.Kit.i32_sub (by rw [s, e3]; omega) (by rw [s, e3]; omega), s, e3]; omega

theorem own_wS {Z : State} {a0 : Array Value} (hw : ∀ d ∈ tables_1, d.before a0 Z = true) : ∀ a ∈ Bundle.stringAtoms, a.before a0 Z = true := fun d hd => by
  simp only [Bundle.stringAtoms, List.mem_cons, List.not_mem_nil, or_false] at hd
  rcases hd with rfl | rfl | rfl | rfl | rfl | rfl | rfl
  · exact (own_hw hw 53 rfl)
  · exact (own_hw hw 52 rfl)
  · exact (own_hw hw 67 rfl)
  · exact (own_hw hw 96 rfl)
  · exact (own_hw hw 94 rfl)
  · exact (own_hw hw 165 rfl)
  · exact (own_hw hw 166 rfl)
theorem ef_own_sgnM (m : MethodId) (x0 : Int32) : entryFrame m #[(.int x0)] 1 = mkF m 0 #[.val (.int x0)] [] := by first | (simp [entryFrame, mkF, argsToLocals, Value.category]; done) | rfl
theorem pf_own_sgnM : plainFor own_m0 = true := plainFor_of_name (by simp [plainName, overriddenIn])
theorem d_method_3_code_0 : decode method_3_code 0 = .ok (.iload_n 0, 1) := by decide +kernel
theorem d_method_3_code_1 : decode method_3_code 1 = .ok (.ifCond .ge 7, 3) := by decide +kernel
theorem d_method_3_code_12 : decode method_3_code 12 = .ok (.iconst 0, 1) := by decide +kernel
theorem d_method_3_code_13 : decode method_3_code 13 = .ok (.goto 4, 3) := by decide +kernel
theorem d_method_3_code_16 : decode method_3_code 16 = .ok (.iconst 1, 1) := by decide +kernel
theorem d_method_3_code_17 : decode method_3_code 17 = .ok (.ireturn, 1) := by decide +kernel
theorem d_method_3_code_4 : decode method_3_code 4 = .ok (.iconst (-1), 1) := by decide +kernel
theorem d_method_3_code_5 : decode method_3_code 5 = .ok (.goto 12, 3) := by decide +kernel
theorem d_method_3_code_8 : decode method_3_code 8 = .ok (.iload_n 0, 1) := by decide +kernel
theorem d_method_3_code_9 : decode method_3_code 9 = .ok (.ifCond .ne 7, 3) := by decide +kernel
def Q_own_sgnM (Z : State) (x : Int32) (h0 : Heap) (v : Option Value) (h : Heap) (L : List Loc) : Prop := v = some (.int (own_sgn x)) ∧ Fr Z.heap.size L ∧ h = h0
set_option maxRecDepth 65536 in
set_option maxHeartbeats 40000000 in
theorem own_sgnM (l : Launch) (Z : State) (a0 : Array Value) (hw : ∀ d ∈ tables_1, d.before a0 Z = true) (ws : List Jvm.Cond) (x : Int32) (h0 : Heap) (O0 : Ext Z.heap h0) :
    MetFree l own_m0 (head1 (Jvm.Cond.code own_m0 method_3_code 1 (some .int) :: ws) ({ frames := 0, cells := 0, slots := 0, locals := 0 } : Room)) (fun aa U => aa = #[(.int x)] ∧ Z.Warmed39 U.vm ∧ U.heap = h0) (fun _ _ _ _ _ => True) (fun _ U o U' => ∃ v L, o = .returned v ∧ Q_own_sgnM Z x h0 v U'.heap L ∧ FrameEnd U o U' L ({ frames := 0, cells := 0, slots := 0, locals := 0 } : Room).cells ({ frames := 0, cells := 0, slots := 0, locals := 0 } : Room).slots) := by
  refine MetFree.of_bodySF pf_own_sgnM hisR ?_
  intro p e s m args below meth c s₁ Bd hml0 hP hK
  obtain ⟨rfl, hZ, hh⟩ := hP
  have hx := Bd.exec
  have hby := Bd.bytes
  have hlk := BodyLoose.notSynchronized Bd
  have hml : c.maxLocals = 1 := hml0
  have hown : s.vm.findClass own_s2 = some m.cls := findClass_of_methodNamed Bd.named
  have hnm := (name_of_methodNamed Bd.named Bd.method).1
  have X0 : Stand p l e ({ frames := 0, cells := 0, slots := 0, locals := 0 } : Room) s m #[(.int x)] below meth c s₁ [] 0 0 := Stand.of_body Bd
  have e0 : s₁.heap = h0 := by rw [← hh, Bd.state]; rfl
  have N0 := Fr.nil Z.heap.size
  have K0 : Keep h0 h0 [] := Keep.refl _ _
  refine own_start (Q := Q_own_sgnM Z x h0) (ef_own_sgnM m (x)) ?_
  show own_G p e below (s₁.setTop (mkF m 0 #[.val (.int x)] [])) _
  refine own_go (fun t k => XS.iloadN X0.here hx rfl (hb hby d_method_3_code_0) rfl k) ?_
  by_cases hc1z : x < (0 : Int32)
  · refine own_go (fun t k => XS.ifNo X0.here hx rfl (hb hby d_method_3_code_1) rfl ((if0 _ _).trans (tlt hc1z).2.1) k) ?_
    show own_G p e below (s₁.setTop (mkF m 4 #[.val (.int x)] [])) _
    refine own_go (fun t k => XS.iconst X0.here hx rfl (hb hby d_method_3_code_4) k) ?_
    refine own_go (fun t k => XS.goto X0.here hx rfl (pc0 := 5) (pc' := 17) rfl (hb hby d_method_3_code_5) (by decide) (by decide) k) ?_
    show own_G p e below (s₁.setTop (mkF m 17 #[.val (.int x)] [(.int (-1 : Int32))])) _
    exact own_ret X0 hx Bd.returns rfl (Or.inl ⟨rfl, Or.inl rfl, _, rfl⟩) (hb hby d_method_3_code_17) hlk (Nat.le_of_ble_eq_true rfl) (Nat.le_of_ble_eq_true rfl) (by show Q_own_sgnM Z x h0 _ s₁.heap _; rw [e0]; exact ⟨(congrArg (fun z => some (Value.int z)) (show (own_sgn x) = _ from (if_pos hc1z)).symm), N0, rfl⟩)
  · refine own_go (fun t k => XS.ifYes X0.here hx rfl (pc0 := 1) (pc' := 8) rfl (hb hby d_method_3_code_1) rfl ((if0 _ _).trans (flt hc1z).2.1) (by decide) (by decide) k) ?_
    show own_G p e below (s₁.setTop (mkF m 8 #[.val (.int x)] [])) _
    refine own_go (fun t k => XS.iloadN X0.here hx rfl (hb hby d_method_3_code_8) rfl k) ?_
    by_cases hc2z : x = (0 : Int32)
    · refine own_go (fun t k => XS.ifNo X0.here hx rfl (hb hby d_method_3_code_9) rfl ((if0 _ _).trans (teq hc2z).2) k) ?_
      show own_G p e below (s₁.setTop (mkF m 12 #[.val (.int x)] [])) _
      refine own_go (fun t k => XS.iconst X0.here hx rfl (hb hby d_method_3_code_12) k) ?_
      refine own_go (fun t k => XS.goto X0.here hx rfl (pc0 := 13) (pc' := 17) rfl (hb hby d_method_3_code_13) (by decide) (by decide) k) ?_
      show own_G p e below (s₁.setTop (mkF m 17 #[.val (.int x)] [(.int (0 : Int32))])) _
      exact own_ret X0 hx Bd.returns rfl (Or.inl ⟨rfl, Or.inl rfl, _, rfl⟩) (hb hby d_method_3_code_17) hlk (Nat.le_of_ble_eq_true rfl) (Nat.le_of_ble_eq_true rfl) (by show Q_own_sgnM Z x h0 _ s₁.heap _; rw [e0]; exact ⟨(congrArg (fun z => some (Value.int z)) (show (own_sgn x) = _ from ((if_neg hc1z).trans (if_pos hc2z))).symm), N0, rfl⟩)
    · refine own_go (fun t k => XS.ifYes X0.here hx rfl (pc0 := 9) (pc' := 16) rfl (hb hby d_method_3_code_9) rfl ((if0 _ _).trans (feq hc2z).2) (by decide) (by decide) k) ?_
      show own_G p e below (s₁.setTop (mkF m 16 #[.val (.int x)] [])) _
      refine own_go (fun t k => XS.iconst X0.here hx rfl (hb hby d_method_3_code_16) k) ?_
      exact own_ret X0 hx Bd.returns rfl (Or.inl ⟨rfl, Or.inl rfl, _, rfl⟩) (hb hby d_method_3_code_17) hlk (Nat.le_of_ble_eq_true rfl) (Nat.le_of_ble_eq_true rfl) (by show Q_own_sgnM Z x h0 _ s₁.heap _; rw [e0]; exact ⟨(congrArg (fun z => some (Value.int z)) (show (own_sgn x) = _ from ((if_neg hc1z).trans (if_neg hc2z))).symm), N0, rfl⟩)
theorem ef_own_icM (m : MethodId) (x0 : Int32) (x1 : Int32) : entryFrame m #[(.int x0), (.int x1)] 2 = mkF m 0 #[.val (.int x0), .val (.int x1)] [] := by first | (simp [entryFrame, mkF, argsToLocals, Value.category]; done) | rfl
theorem pf_own_icM : plainFor own_m1 = true := plainFor_of_name (by simp [plainName, overriddenIn])
theorem d_jdk_33_method_40_code_0 : decode jdk_33_method_40_code 0 = .ok (.iload_n 0, 1) := by decide +kernel
theorem d_jdk_33_method_40_code_1 : decode jdk_33_method_40_code 1 = .ok (.iload_n 1, 1) := by decide +kernel
theorem d_jdk_33_method_40_code_10 : decode jdk_33_method_40_code 10 = .ok (.iload_n 1, 1) := by decide +kernel
theorem d_jdk_33_method_40_code_11 : decode jdk_33_method_40_code 11 = .ok (.if_icmp .ne 7, 3) := by decide +kernel
theorem d_jdk_33_method_40_code_14 : decode jdk_33_method_40_code 14 = .ok (.iconst 0, 1) := by decide +kernel
theorem d_jdk_33_method_40_code_15 : decode jdk_33_method_40_code 15 = .ok (.goto 4, 3) := by decide +kernel
theorem d_jdk_33_method_40_code_18 : decode jdk_33_method_40_code 18 = .ok (.iconst 1, 1) := by decide +kernel
theorem d_jdk_33_method_40_code_19 : decode jdk_33_method_40_code 19 = .ok (.ireturn, 1) := by decide +kernel
theorem d_jdk_33_method_40_code_2 : decode jdk_33_method_40_code 2 = .ok (.if_icmp .ge 7, 3) := by decide +kernel
theorem d_jdk_33_method_40_code_5 : decode jdk_33_method_40_code 5 = .ok (.iconst (-1), 1) := by decide +kernel
theorem d_jdk_33_method_40_code_6 : decode jdk_33_method_40_code 6 = .ok (.goto 13, 3) := by decide +kernel
theorem d_jdk_33_method_40_code_9 : decode jdk_33_method_40_code 9 = .ok (.iload_n 0, 1) := by decide +kernel
def Q_own_icM (Z : State) (x : Int32) (y : Int32) (h0 : Heap) (v : Option Value) (h : Heap) (L : List Loc) : Prop := v = some (.int (own_ic x y)) ∧ Fr Z.heap.size L ∧ h = h0
set_option maxRecDepth 65536 in
set_option maxHeartbeats 40000000 in
theorem own_icM (l : Launch) (Z : State) (a0 : Array Value) (hw : ∀ d ∈ tables_1, d.before a0 Z = true) (ws : List Jvm.Cond) (x : Int32) (y : Int32) (h0 : Heap) (O0 : Ext Z.heap h0) :
    MetFree l own_m1 (head1 (Jvm.Cond.code own_m1 jdk_33_method_40_code 2 (some .int) :: ws) ({ frames := 0, cells := 0, slots := 0, locals := 0 } : Room)) (fun aa U => aa = #[(.int x), (.int y)] ∧ Z.Warmed39 U.vm ∧ U.heap = h0) (fun _ _ _ _ _ => True) (fun _ U o U' => ∃ v L, o = .returned v ∧ Q_own_icM Z x y h0 v U'.heap L ∧ FrameEnd U o U' L ({ frames := 0, cells := 0, slots := 0, locals := 0 } : Room).cells ({ frames := 0, cells := 0, slots := 0, locals := 0 } : Room).slots) := by
  refine MetFree.of_bodySF pf_own_icM hisR ?_
  intro p e s m args below meth c s₁ Bd hml0 hP hK
  obtain ⟨rfl, hZ, hh⟩ := hP
  have hx := Bd.exec
  have hby := Bd.bytes
  have hlk := BodyLoose.notSynchronized Bd
  have hml : c.maxLocals = 2 := hml0
  have hown : s.vm.findClass "java/lang/Integer" = some m.cls := findClass_of_methodNamed Bd.named
  have hnm := (name_of_methodNamed Bd.named Bd.method).1
  have X0 : Stand p l e ({ frames := 0, cells := 0, slots := 0, locals := 0 } : Room) s m #[(.int x), (.int y)] below meth c s₁ [] 0 0 := Stand.of_body Bd
  have e0 : s₁.heap = h0 := by rw [← hh, Bd.state]; rfl
  have N0 := Fr.nil Z.heap.size
  have K0 : Keep h0 h0 [] := Keep.refl _ _
  refine own_start (Q := Q_own_icM Z x y h0) (ef_own_icM m (x) (y)) ?_
  show own_G p e below (s₁.setTop (mkF m 0 #[.val (.int x), .val (.int y)] [])) _
  refine own_go (fun t k => XS.iloadN X0.here hx rfl (hb hby d_jdk_33_method_40_code_0) rfl k) ?_
  refine own_go (fun t k => XS.iloadN X0.here hx rfl (hb hby d_jdk_33_method_40_code_1) rfl k) ?_
  by_cases hc1z : x < y
  · refine own_go (fun t k => XS.icmpNo X0.here hx rfl (hb hby d_jdk_33_method_40_code_2) rfl (tlt hc1z).2.1 k) ?_
    show own_G p e below (s₁.setTop (mkF m 5 #[.val (.int x), .val (.int y)] [])) _
    refine own_go (fun t k => XS.iconst X0.here hx rfl (hb hby d_jdk_33_method_40_code_5) k) ?_
    refine own_go (fun t k => XS.goto X0.here hx rfl (pc0 := 6) (pc' := 19) rfl (hb hby d_jdk_33_method_40_code_6) (by decide) (by decide) k) ?_
    show own_G p e below (s₁.setTop (mkF m 19 #[.val (.int x), .val (.int y)] [(.int (-1 : Int32))])) _
    exact own_ret X0 hx Bd.returns rfl (Or.inl ⟨rfl, Or.inl rfl, _, rfl⟩) (hb hby d_jdk_33_method_40_code_19) hlk (Nat.le_of_ble_eq_true rfl) (Nat.le_of_ble_eq_true rfl) (by show Q_own_icM Z x y h0 _ s₁.heap _; rw [e0]; exact ⟨(congrArg (fun z => some (Value.int z)) (show (own_ic x y) = _ from (if_pos hc1z)).symm), N0, rfl⟩)
  · refine own_go (fun t k => XS.icmpYes X0.here hx rfl (pc0 := 2) (pc' := 9) rfl (hb hby d_jdk_33_method_40_code_2) rfl (flt hc1z).2.1 (by decide) (by decide) k) ?_
    show own_G p e below (s₁.setTop (mkF m 9 #[.val (.int x), .val (.int y)] [])) _
    refine own_go (fun t k => XS.iloadN X0.here hx rfl (hb hby d_jdk_33_method_40_code_9) rfl k) ?_
    refine own_go (fun t k => XS.iloadN X0.here hx rfl (hb hby d_jdk_33_method_40_code_10) rfl k) ?_
    by_cases hc2z : x = y
    · refine own_go (fun t k => XS.icmpNo X0.here hx rfl (hb hby d_jdk_33_method_40_code_11) rfl (teq hc2z).2 k) ?_
      show own_G p e below (s₁.setTop (mkF m 14 #[.val (.int x), .val (.int y)] [])) _
      refine own_go (fun t k => XS.iconst X0.here hx rfl (hb hby d_jdk_33_method_40_code_14) k) ?_
      refine own_go (fun t k => XS.goto X0.here hx rfl (pc0 := 15) (pc' := 19) rfl (hb hby d_jdk_33_method_40_code_15) (by decide) (by decide) k) ?_
      show own_G p e below (s₁.setTop (mkF m 19 #[.val (.int x), .val (.int y)] [(.int (0 : Int32))])) _
      exact own_ret X0 hx Bd.returns rfl (Or.inl ⟨rfl, Or.inl rfl, _, rfl⟩) (hb hby d_jdk_33_method_40_code_19) hlk (Nat.le_of_ble_eq_true rfl) (Nat.le_of_ble_eq_true rfl) (by show Q_own_icM Z x y h0 _ s₁.heap _; rw [e0]; exact ⟨(congrArg (fun z => some (Value.int z)) (show (own_ic x y) = _ from ((if_neg hc1z).trans (if_pos hc2z))).symm), N0, rfl⟩)
    · refine own_go (fun t k => XS.icmpYes X0.here hx rfl (pc0 := 11) (pc' := 18) rfl (hb hby d_jdk_33_method_40_code_11) rfl (feq hc2z).2 (by decide) (by decide) k) ?_
      show own_G p e below (s₁.setTop (mkF m 18 #[.val (.int x), .val (.int y)] [])) _
      refine own_go (fun t k => XS.iconst X0.here hx rfl (hb hby d_jdk_33_method_40_code_18) k) ?_
      exact own_ret X0 hx Bd.returns rfl (Or.inl ⟨rfl, Or.inl rfl, _, rfl⟩) (hb hby d_jdk_33_method_40_code_19) hlk (Nat.le_of_ble_eq_true rfl) (Nat.le_of_ble_eq_true rfl) (by show Q_own_icM Z x y h0 _ s₁.heap _; rw [e0]; exact ⟨(congrArg (fun z => some (Value.int z)) (show (own_ic x y) = _ from ((if_neg hc1z).trans (if_neg hc2z))).symm), N0, rfl⟩)
theorem ef_own_lcM (m : MethodId) (x0 : Int64) (x1 : Int64) : entryFrame m #[(.long x0), (.long x1)] 4 = mkF m 0 #[.val (.long x0), .second, .val (.long x1), .second] [] := by first | (simp [entryFrame, mkF, argsToLocals, Value.category]; done) | rfl
theorem pf_own_lcM : plainFor own_m2 = true := plainFor_of_name (by simp [plainName, overriddenIn])
theorem d_jdk_35_method_42_code_0 : decode jdk_35_method_42_code 0 = .ok (.lload_n 0, 1) := by decide +kernel
theorem d_jdk_35_method_42_code_1 : decode jdk_35_method_42_code 1 = .ok (.lload_n 2, 1) := by decide +kernel
theorem d_jdk_35_method_42_code_10 : decode jdk_35_method_42_code 10 = .ok (.lload_n 0, 1) := by decide +kernel
theorem d_jdk_35_method_42_code_11 : decode jdk_35_method_42_code 11 = .ok (.lload_n 2, 1) := by decide +kernel
theorem d_jdk_35_method_42_code_12 : decode jdk_35_method_42_code 12 = .ok (.lcmp, 1) := by decide +kernel
theorem d_jdk_35_method_42_code_13 : decode jdk_35_method_42_code 13 = .ok (.ifCond .ne 7, 3) := by decide +kernel
theorem d_jdk_35_method_42_code_16 : decode jdk_35_method_42_code 16 = .ok (.iconst 0, 1) := by decide +kernel
theorem d_jdk_35_method_42_code_17 : decode jdk_35_method_42_code 17 = .ok (.goto 4, 3) := by decide +kernel
theorem d_jdk_35_method_42_code_2 : decode jdk_35_method_42_code 2 = .ok (.lcmp, 1) := by decide +kernel
theorem d_jdk_35_method_42_code_20 : decode jdk_35_method_42_code 20 = .ok (.iconst 1, 1) := by decide +kernel
theorem d_jdk_35_method_42_code_21 : decode jdk_35_method_42_code 21 = .ok (.ireturn, 1) := by decide +kernel
theorem d_jdk_35_method_42_code_3 : decode jdk_35_method_42_code 3 = .ok (.ifCond .ge 7, 3) := by decide +kernel
theorem d_jdk_35_method_42_code_6 : decode jdk_35_method_42_code 6 = .ok (.iconst (-1), 1) := by decide +kernel
theorem d_jdk_35_method_42_code_7 : decode jdk_35_method_42_code 7 = .ok (.goto 14, 3) := by decide +kernel
def Q_own_lcM (Z : State) (x : Int64) (y : Int64) (h0 : Heap) (v : Option Value) (h : Heap) (L : List Loc) : Prop := v = some (.int (own_lc x y)) ∧ Fr Z.heap.size L ∧ h = h0
set_option maxRecDepth 65536 in
set_option maxHeartbeats 40000000 in
theorem own_lcM (l : Launch) (Z : State) (a0 : Array Value) (hw : ∀ d ∈ tables_1, d.before a0 Z = true) (ws : List Jvm.Cond) (x : Int64) (y : Int64) (h0 : Heap) (O0 : Ext Z.heap h0) :
    MetFree l own_m2 (head1 (Jvm.Cond.code own_m2 jdk_35_method_42_code 4 (some .int) :: ws) ({ frames := 0, cells := 0, slots := 0, locals := 0 } : Room)) (fun aa U => aa = #[(.long x), (.long y)] ∧ Z.Warmed39 U.vm ∧ U.heap = h0) (fun _ _ _ _ _ => True) (fun _ U o U' => ∃ v L, o = .returned v ∧ Q_own_lcM Z x y h0 v U'.heap L ∧ FrameEnd U o U' L ({ frames := 0, cells := 0, slots := 0, locals := 0 } : Room).cells ({ frames := 0, cells := 0, slots := 0, locals := 0 } : Room).slots) := by
  refine MetFree.of_bodySF pf_own_lcM hisR ?_
  intro p e s m args below meth c s₁ Bd hml0 hP hK
  obtain ⟨rfl, hZ, hh⟩ := hP
  have hx := Bd.exec
  have hby := Bd.bytes
  have hlk := BodyLoose.notSynchronized Bd
  have hml : c.maxLocals = 4 := hml0
  have hown : s.vm.findClass "java/lang/Long" = some m.cls := findClass_of_methodNamed Bd.named
  have hnm := (name_of_methodNamed Bd.named Bd.method).1
  have X0 : Stand p l e ({ frames := 0, cells := 0, slots := 0, locals := 0 } : Room) s m #[(.long x), (.long y)] below meth c s₁ [] 0 0 := Stand.of_body Bd
  have e0 : s₁.heap = h0 := by rw [← hh, Bd.state]; rfl
  have N0 := Fr.nil Z.heap.size
  have K0 : Keep h0 h0 [] := Keep.refl _ _
  refine own_start (Q := Q_own_lcM Z x y h0) (ef_own_lcM m (x) (y)) ?_
  show own_G p e below (s₁.setTop (mkF m 0 #[.val (.long x), .second, .val (.long y), .second] [])) _
  refine own_go (fun t k => XS.lloadN X0.here hx rfl (hb hby d_jdk_35_method_42_code_0) rfl k) ?_
  refine own_go (fun t k => XS.lloadN X0.here hx rfl (hb hby d_jdk_35_method_42_code_1) rfl k) ?_
  refine own_go (fun t k => XS.lcmp X0.here hx rfl (hb hby d_jdk_35_method_42_code_2) rfl k) ?_
  show own_G p e below (s₁.setTop (mkF m 3 #[.val (.long x), .second, .val (.long y), .second] [(.int (lcmpW x y))])) _
  by_cases hc1z : x < y
  · refine own_go (fun t k => XS.ifNo X0.here hx rfl (hb hby d_jdk_35_method_42_code_3) rfl ((if0 _ _).trans (tlt ((lw_lt x y).mpr hc1z)).2.1) k) ?_
    show own_G p e below (s₁.setTop (mkF m 6 #[.val (.long x), .second, .val (.long y), .second] [])) _
    refine own_go (fun t k => XS.iconst X0.here hx rfl (hb hby d_jdk_35_method_42_code_6) k) ?_
    refine own_go (fun t k => XS.goto X0.here hx rfl (pc0 := 7) (pc' := 21) rfl (hb hby d_jdk_35_method_42_code_7) (by decide) (by decide) k) ?_
    show own_G p e below (s₁.setTop (mkF m 21 #[.val (.long x), .second, .val (.long y), .second] [(.int (-1 : Int32))])) _
    exact own_ret X0 hx Bd.returns rfl (Or.inl ⟨rfl, Or.inl rfl, _, rfl⟩) (hb hby d_jdk_35_method_42_code_21) hlk (Nat.le_of_ble_eq_true rfl) (Nat.le_of_ble_eq_true rfl) (by show Q_own_lcM Z x y h0 _ s₁.heap _; rw [e0]; exact ⟨(congrArg (fun z => some (Value.int z)) (show (own_lc x y) = _ from (if_pos hc1z)).symm), N0, rfl⟩)
  · refine own_go (fun t k => XS.ifYes X0.here hx rfl (pc0 := 3) (pc' := 10) rfl (hb hby d_jdk_35_method_42_code_3) rfl ((if0 _ _).trans (flt (fun q => hc1z ((lw_lt x y).mp q))).2.1) (by decide) (by decide) k) ?_
    show own_G p e below (s₁.setTop (mkF m 10 #[.val (.long x), .second, .val (.long y), .second] [])) _
    refine own_go (fun t k => XS.lloadN X0.here hx rfl (hb hby d_jdk_35_method_42_code_10) rfl k) ?_
    refine own_go (fun t k => XS.lloadN X0.here hx rfl (hb hby d_jdk_35_method_42_code_11) rfl k) ?_
    refine own_go (fun t k => XS.lcmp X0.here hx rfl (hb hby d_jdk_35_method_42_code_12) rfl k) ?_
    show own_G p e below (s₁.setTop (mkF m 13 #[.val (.long x), .second, .val (.long y), .second] [(.int (lcmpW x y))])) _
    by_cases hc2z : x = y
    · refine own_go (fun t k => XS.ifNo X0.here hx rfl (hb hby d_jdk_35_method_42_code_13) rfl ((if0 _ _).trans (teq ((lw_eq x y).mpr hc2z)).2) k) ?_
      show own_G p e below (s₁.setTop (mkF m 16 #[.val (.long x), .second, .val (.long y), .second] [])) _
      refine own_go (fun t k => XS.iconst X0.here hx rfl (hb hby d_jdk_35_method_42_code_16) k) ?_
      refine own_go (fun t k => XS.goto X0.here hx rfl (pc0 := 17) (pc' := 21) rfl (hb hby d_jdk_35_method_42_code_17) (by decide) (by decide) k) ?_
      show own_G p e below (s₁.setTop (mkF m 21 #[.val (.long x), .second, .val (.long y), .second] [(.int (0 : Int32))])) _
      exact own_ret X0 hx Bd.returns rfl (Or.inl ⟨rfl, Or.inl rfl, _, rfl⟩) (hb hby d_jdk_35_method_42_code_21) hlk (Nat.le_of_ble_eq_true rfl) (Nat.le_of_ble_eq_true rfl) (by show Q_own_lcM Z x y h0 _ s₁.heap _; rw [e0]; exact ⟨(congrArg (fun z => some (Value.int z)) (show (own_lc x y) = _ from ((if_neg hc1z).trans (if_pos hc2z))).symm), N0, rfl⟩)
    · refine own_go (fun t k => XS.ifYes X0.here hx rfl (pc0 := 13) (pc' := 20) rfl (hb hby d_jdk_35_method_42_code_13) rfl ((if0 _ _).trans (feq (fun q => hc2z ((lw_eq x y).mp q))).2) (by decide) (by decide) k) ?_
      show own_G p e below (s₁.setTop (mkF m 20 #[.val (.long x), .second, .val (.long y), .second] [])) _
      refine own_go (fun t k => XS.iconst X0.here hx rfl (hb hby d_jdk_35_method_42_code_20) k) ?_
      exact own_ret X0 hx Bd.returns rfl (Or.inl ⟨rfl, Or.inl rfl, _, rfl⟩) (hb hby d_jdk_35_method_42_code_21) hlk (Nat.le_of_ble_eq_true rfl) (Nat.le_of_ble_eq_true rfl) (by show Q_own_lcM Z x y h0 _ s₁.heap _; rw [e0]; exact ⟨(congrArg (fun z => some (Value.int z)) (show (own_lc x y) = _ from ((if_neg hc1z).trans (if_neg hc2z))).symm), N0, rfl⟩)
theorem ef_own_hsM (m : MethodId) (x0 : Int32) : entryFrame m #[(.int x0)] 1 = mkF m 0 #[.val (.int x0)] [] := by first | (simp [entryFrame, mkF, argsToLocals, Value.category]; done) | rfl
theorem pf_own_hsM : plainFor own_m3 = true := plainFor_of_name (by simp [plainName, overriddenIn])
theorem d_jdk_89_method_14_code_0 : decode jdk_89_method_14_code 0 = .ok (.iload_n 0, 1) := by decide +kernel
theorem d_jdk_89_method_14_code_1 : decode jdk_89_method_14_code 1 = .ok (.ldc 75, 2) := by decide +kernel
theorem d_jdk_89_method_14_code_12 : decode jdk_89_method_14_code 12 = .ok (.iconst 1, 1) := by decide +kernel
theorem d_jdk_89_method_14_code_13 : decode jdk_89_method_14_code 13 = .ok (.goto 4, 3) := by decide +kernel
theorem d_jdk_89_method_14_code_16 : decode jdk_89_method_14_code 16 = .ok (.iconst 0, 1) := by decide +kernel
theorem d_jdk_89_method_14_code_17 : decode jdk_89_method_14_code 17 = .ok (.ireturn, 1) := by decide +kernel
theorem d_jdk_89_method_14_code_3 : decode jdk_89_method_14_code 3 = .ok (.if_icmp .lt 13, 3) := by decide +kernel
theorem d_jdk_89_method_14_code_6 : decode jdk_89_method_14_code 6 = .ok (.iload_n 0, 1) := by decide +kernel
theorem d_jdk_89_method_14_code_7 : decode jdk_89_method_14_code 7 = .ok (.ldc 76, 2) := by decide +kernel
theorem d_jdk_89_method_14_code_9 : decode jdk_89_method_14_code 9 = .ok (.if_icmp .ge 7, 3) := by decide +kernel
def Q_own_hsM (Z : State) (x : Int32) (h0 : Heap) (v : Option Value) (h : Heap) (L : List Loc) : Prop := v = some (.int (own_hs x)) ∧ Fr Z.heap.size L ∧ h = h0
set_option maxRecDepth 65536 in
set_option maxHeartbeats 40000000 in
theorem own_hsM (l : Launch) (Z : State) (a0 : Array Value) (hw : ∀ d ∈ tables_1, d.before a0 Z = true) (ws : List Jvm.Cond) (x : Int32) (h0 : Heap) (O0 : Ext Z.heap h0) :
    MetFree l own_m3 (head1 (Jvm.Cond.code own_m3 jdk_89_method_14_code 1 (some .boolean) :: ws) ({ frames := 0, cells := 0, slots := 0, locals := 0 } : Room)) (fun aa U => aa = #[(.int x)] ∧ Z.Warmed39 U.vm ∧ U.heap = h0) (fun _ _ _ _ _ => True) (fun _ U o U' => ∃ v L, o = .returned v ∧ Q_own_hsM Z x h0 v U'.heap L ∧ FrameEnd U o U' L ({ frames := 0, cells := 0, slots := 0, locals := 0 } : Room).cells ({ frames := 0, cells := 0, slots := 0, locals := 0 } : Room).slots) := by
  refine MetFree.of_bodySF pf_own_hsM hisR ?_
  intro p e s m args below meth c s₁ Bd hml0 hP hK
  obtain ⟨rfl, hZ, hh⟩ := hP
  have hx := Bd.exec
  have hby := Bd.bytes
  have hlk := BodyLoose.notSynchronized Bd
  have hml : c.maxLocals = 1 := hml0
  have hown : s.vm.findClass "java/lang/Character" = some m.cls := findClass_of_methodNamed Bd.named
  have hnm := (name_of_methodNamed Bd.named Bd.method).1
  have X0 : Stand p l e ({ frames := 0, cells := 0, slots := 0, locals := 0 } : Room) s m #[(.int x)] below meth c s₁ [] 0 0 := Stand.of_body Bd
  have e0 : s₁.heap = h0 := by rw [← hh, Bd.state]; rfl
  have N0 := Fr.nil Z.heap.size
  have K0 : Keep h0 h0 [] := Keep.refl _ _
  refine own_start (Q := Q_own_hsM Z x h0) (ef_own_hsM m (x)) ?_
  show own_G p e below (s₁.setTop (mkF m 0 #[.val (.int x)] [])) _
  refine own_go (fun t k => XS.iloadN X0.here hx rfl (hb hby d_jdk_89_method_14_code_0) rfl k) ?_
  refine own_go (fun t k => X0.ldcI hx hown (mvT hZ (own_hw hw 141 rfl)) rfl (hb hby d_jdk_89_method_14_code_1) k) ?_
  by_cases hc1z : x < (55296 : Int32)
  · refine own_go (fun t k => XS.icmpYes X0.here hx rfl (pc0 := 3) (pc' := 16) rfl (hb hby d_jdk_89_method_14_code_3) rfl (tlt hc1z).1 (by decide) (by decide) k) ?_
    show own_G p e below (s₁.setTop (mkF m 16 #[.val (.int x)] [])) _
    refine own_go (fun t k => XS.iconst X0.here hx rfl (hb hby d_jdk_89_method_14_code_16) k) ?_
    exact own_ret X0 hx Bd.returns rfl (Or.inl ⟨rfl, Or.inr (Or.inl rfl), _, rfl⟩) (hb hby d_jdk_89_method_14_code_17) hlk (Nat.le_of_ble_eq_true rfl) (Nat.le_of_ble_eq_true rfl) (by show Q_own_hsM Z x h0 _ s₁.heap _; rw [e0]; exact ⟨(congrArg (fun z => some (Value.int z)) (show (own_hs x) = _ from (if_pos hc1z)).symm), N0, rfl⟩)
  · refine own_go (fun t k => XS.icmpNo X0.here hx rfl (hb hby d_jdk_89_method_14_code_3) rfl (flt hc1z).1 k) ?_
    show own_G p e below (s₁.setTop (mkF m 6 #[.val (.int x)] [])) _
    refine own_go (fun t k => XS.iloadN X0.here hx rfl (hb hby d_jdk_89_method_14_code_6) rfl k) ?_
    refine own_go (fun t k => X0.ldcI hx hown (mvT hZ (own_hw hw 150 rfl)) rfl (hb hby d_jdk_89_method_14_code_7) k) ?_
    by_cases hc2z : x < (56320 : Int32)
    · refine own_go (fun t k => XS.icmpNo X0.here hx rfl (hb hby d_jdk_89_method_14_code_9) rfl (tlt hc2z).2.1 k) ?_
      show own_G p e below (s₁.setTop (mkF m 12 #[.val (.int x)] [])) _
      refine own_go (fun t k => XS.iconst X0.here hx rfl (hb hby d_jdk_89_method_14_code_12) k) ?_
      refine own_go (fun t k => XS.goto X0.here hx rfl (pc0 := 13) (pc' := 17) rfl (hb hby d_jdk_89_method_14_code_13) (by decide) (by decide) k) ?_
      show own_G p e below (s₁.setTop (mkF m 17 #[.val (.int x)] [(.int (1 : Int32))])) _
      exact own_ret X0 hx Bd.returns rfl (Or.inl ⟨rfl, Or.inr (Or.inl rfl), _, rfl⟩) (hb hby d_jdk_89_method_14_code_17) hlk (Nat.le_of_ble_eq_true rfl) (Nat.le_of_ble_eq_true rfl) (by show Q_own_hsM Z x h0 _ s₁.heap _; rw [e0]; exact ⟨(congrArg (fun z => some (Value.int z)) (show (own_hs x) = _ from ((if_neg hc1z).trans (if_pos hc2z))).symm), N0, rfl⟩)
    · refine own_go (fun t k => XS.icmpYes X0.here hx rfl (pc0 := 9) (pc' := 16) rfl (hb hby d_jdk_89_method_14_code_9) rfl (flt hc2z).2.1 (by decide) (by decide) k) ?_
      show own_G p e below (s₁.setTop (mkF m 16 #[.val (.int x)] [])) _
      refine own_go (fun t k => XS.iconst X0.here hx rfl (hb hby d_jdk_89_method_14_code_16) k) ?_
      exact own_ret X0 hx Bd.returns rfl (Or.inl ⟨rfl, Or.inr (Or.inl rfl), _, rfl⟩) (hb hby d_jdk_89_method_14_code_17) hlk (Nat.le_of_ble_eq_true rfl) (Nat.le_of_ble_eq_true rfl) (by show Q_own_hsM Z x h0 _ s₁.heap _; rw [e0]; exact ⟨(congrArg (fun z => some (Value.int z)) (show (own_hs x) = _ from ((if_neg hc1z).trans (if_neg hc2z))).symm), N0, rfl⟩)
theorem ef_own_lsM (m : MethodId) (x0 : Int32) : entryFrame m #[(.int x0)] 1 = mkF m 0 #[.val (.int x0)] [] := by first | (simp [entryFrame, mkF, argsToLocals, Value.category]; done) | rfl
theorem pf_own_lsM : plainFor own_m4 = true := plainFor_of_name (by simp [plainName, overriddenIn])
theorem d_jdk_89_method_15_code_0 : decode jdk_89_method_15_code 0 = .ok (.iload_n 0, 1) := by decide +kernel
theorem d_jdk_89_method_15_code_1 : decode jdk_89_method_15_code 1 = .ok (.ldc 76, 2) := by decide +kernel
theorem d_jdk_89_method_15_code_12 : decode jdk_89_method_15_code 12 = .ok (.iconst 1, 1) := by decide +kernel
theorem d_jdk_89_method_15_code_13 : decode jdk_89_method_15_code 13 = .ok (.goto 4, 3) := by decide +kernel
theorem d_jdk_89_method_15_code_16 : decode jdk_89_method_15_code 16 = .ok (.iconst 0, 1) := by decide +kernel
theorem d_jdk_89_method_15_code_17 : decode jdk_89_method_15_code 17 = .ok (.ireturn, 1) := by decide +kernel
theorem d_jdk_89_method_15_code_3 : decode jdk_89_method_15_code 3 = .ok (.if_icmp .lt 13, 3) := by decide +kernel
theorem d_jdk_89_method_15_code_6 : decode jdk_89_method_15_code 6 = .ok (.iload_n 0, 1) := by decide +kernel
theorem d_jdk_89_method_15_code_7 : decode jdk_89_method_15_code 7 = .ok (.ldc 77, 2) := by decide +kernel
theorem d_jdk_89_method_15_code_9 : decode jdk_89_method_15_code 9 = .ok (.if_icmp .ge 7, 3) := by decide +kernel
def Q_own_lsM (Z : State) (x : Int32) (h0 : Heap) (v : Option Value) (h : Heap) (L : List Loc) : Prop := v = some (.int (own_ls x)) ∧ Fr Z.heap.size L ∧ h = h0
set_option maxRecDepth 65536 in
set_option maxHeartbeats 40000000 in
theorem own_lsM (l : Launch) (Z : State) (a0 : Array Value) (hw : ∀ d ∈ tables_1, d.before a0 Z = true) (ws : List Jvm.Cond) (x : Int32) (h0 : Heap) (O0 : Ext Z.heap h0) :
    MetFree l own_m4 (head1 (Jvm.Cond.code own_m4 jdk_89_method_15_code 1 (some .boolean) :: ws) ({ frames := 0, cells := 0, slots := 0, locals := 0 } : Room)) (fun aa U => aa = #[(.int x)] ∧ Z.Warmed39 U.vm ∧ U.heap = h0) (fun _ _ _ _ _ => True) (fun _ U o U' => ∃ v L, o = .returned v ∧ Q_own_lsM Z x h0 v U'.heap L ∧ FrameEnd U o U' L ({ frames := 0, cells := 0, slots := 0, locals := 0 } : Room).cells ({ frames := 0, cells := 0, slots := 0, locals := 0 } : Room).slots) := by
  refine MetFree.of_bodySF pf_own_lsM hisR ?_
  intro p e s m args below meth c s₁ Bd hml0 hP hK
  obtain ⟨rfl, hZ, hh⟩ := hP
  have hx := Bd.exec
  have hby := Bd.bytes
  have hlk := BodyLoose.notSynchronized Bd
  have hml : c.maxLocals = 1 := hml0
  have hown : s.vm.findClass "java/lang/Character" = some m.cls := findClass_of_methodNamed Bd.named
  have hnm := (name_of_methodNamed Bd.named Bd.method).1
  have X0 : Stand p l e ({ frames := 0, cells := 0, slots := 0, locals := 0 } : Room) s m #[(.int x)] below meth c s₁ [] 0 0 := Stand.of_body Bd
  have e0 : s₁.heap = h0 := by rw [← hh, Bd.state]; rfl
  have N0 := Fr.nil Z.heap.size
  have K0 : Keep h0 h0 [] := Keep.refl _ _
  refine own_start (Q := Q_own_lsM Z x h0) (ef_own_lsM m (x)) ?_
  show own_G p e below (s₁.setTop (mkF m 0 #[.val (.int x)] [])) _
  refine own_go (fun t k => XS.iloadN X0.here hx rfl (hb hby d_jdk_89_method_15_code_0) rfl k) ?_
  refine own_go (fun t k => X0.ldcI hx hown (mvT hZ (own_hw hw 150 rfl)) rfl (hb hby d_jdk_89_method_15_code_1) k) ?_
  by_cases hc1z : x < (56320 : Int32)
  · refine own_go (fun t k => XS.icmpYes X0.here hx rfl (pc0 := 3) (pc' := 16) rfl (hb hby d_jdk_89_method_15_code_3) rfl (tlt hc1z).1 (by decide) (by decide) k) ?_
    show own_G p e below (s₁.setTop (mkF m 16 #[.val (.int x)] [])) _
    refine own_go (fun t k => XS.iconst X0.here hx rfl (hb hby d_jdk_89_method_15_code_16) k) ?_
    exact own_ret X0 hx Bd.returns rfl (Or.inl ⟨rfl, Or.inr (Or.inl rfl), _, rfl⟩) (hb hby d_jdk_89_method_15_code_17) hlk (Nat.le_of_ble_eq_true rfl) (Nat.le_of_ble_eq_true rfl) (by show Q_own_lsM Z x h0 _ s₁.heap _; rw [e0]; exact ⟨(congrArg (fun z => some (Value.int z)) (show (own_ls x) = _ from (if_pos hc1z)).symm), N0, rfl⟩)
  · refine own_go (fun t k => XS.icmpNo X0.here hx rfl (hb hby d_jdk_89_method_15_code_3) rfl (flt hc1z).1 k) ?_
    show own_G p e below (s₁.setTop (mkF m 6 #[.val (.int x)] [])) _
    refine own_go (fun t k => XS.iloadN X0.here hx rfl (hb hby d_jdk_89_method_15_code_6) rfl k) ?_
    refine own_go (fun t k => X0.ldcI hx hown (mvT hZ (own_hw hw 172 rfl)) rfl (hb hby d_jdk_89_method_15_code_7) k) ?_
    by_cases hc2z : x < (57344 : Int32)
    · refine own_go (fun t k => XS.icmpNo X0.here hx rfl (hb hby d_jdk_89_method_15_code_9) rfl (tlt hc2z).2.1 k) ?_
      show own_G p e below (s₁.setTop (mkF m 12 #[.val (.int x)] [])) _
      refine own_go (fun t k => XS.iconst X0.here hx rfl (hb hby d_jdk_89_method_15_code_12) k) ?_
      refine own_go (fun t k => XS.goto X0.here hx rfl (pc0 := 13) (pc' := 17) rfl (hb hby d_jdk_89_method_15_code_13) (by decide) (by decide) k) ?_
      show own_G p e below (s₁.setTop (mkF m 17 #[.val (.int x)] [(.int (1 : Int32))])) _
      exact own_ret X0 hx Bd.returns rfl (Or.inl ⟨rfl, Or.inr (Or.inl rfl), _, rfl⟩) (hb hby d_jdk_89_method_15_code_17) hlk (Nat.le_of_ble_eq_true rfl) (Nat.le_of_ble_eq_true rfl) (by show Q_own_lsM Z x h0 _ s₁.heap _; rw [e0]; exact ⟨(congrArg (fun z => some (Value.int z)) (show (own_ls x) = _ from ((if_neg hc1z).trans (if_pos hc2z))).symm), N0, rfl⟩)
    · refine own_go (fun t k => XS.icmpYes X0.here hx rfl (pc0 := 9) (pc' := 16) rfl (hb hby d_jdk_89_method_15_code_9) rfl (flt hc2z).2.1 (by decide) (by decide) k) ?_
      show own_G p e below (s₁.setTop (mkF m 16 #[.val (.int x)] [])) _
      refine own_go (fun t k => XS.iconst X0.here hx rfl (hb hby d_jdk_89_method_15_code_16) k) ?_
      exact own_ret X0 hx Bd.returns rfl (Or.inl ⟨rfl, Or.inr (Or.inl rfl), _, rfl⟩) (hb hby d_jdk_89_method_15_code_17) hlk (Nat.le_of_ble_eq_true rfl) (Nat.le_of_ble_eq_true rfl) (by show Q_own_lsM Z x h0 _ s₁.heap _; rw [e0]; exact ⟨(congrArg (fun z => some (Value.int z)) (show (own_ls x) = _ from ((if_neg hc1z).trans (if_neg hc2z))).symm), N0, rfl⟩)
theorem ef_own_ccM (m : MethodId) (x0 : Int32) : entryFrame m #[(.int x0)] 1 = mkF m 0 #[.val (.int x0)] [] := by first | (simp [entryFrame, mkF, argsToLocals, Value.category]; done) | rfl
theorem pf_own_ccM : plainFor own_m5 = true := plainFor_of_name (by simp [plainName, overriddenIn])
theorem d_jdk_89_method_18_code_0 : decode jdk_89_method_18_code 0 = .ok (.iload_n 0, 1) := by decide +kernel
theorem d_jdk_89_method_18_code_1 : decode jdk_89_method_18_code 1 = .ok (.ldc 73, 2) := by decide +kernel
theorem d_jdk_89_method_18_code_10 : decode jdk_89_method_18_code 10 = .ok (.iconst 1, 1) := by decide +kernel
theorem d_jdk_89_method_18_code_11 : decode jdk_89_method_18_code 11 = .ok (.ireturn, 1) := by decide +kernel
theorem d_jdk_89_method_18_code_3 : decode jdk_89_method_18_code 3 = .ok (.if_icmp .lt 7, 3) := by decide +kernel
theorem d_jdk_89_method_18_code_6 : decode jdk_89_method_18_code 6 = .ok (.iconst 2, 1) := by decide +kernel
theorem d_jdk_89_method_18_code_7 : decode jdk_89_method_18_code 7 = .ok (.goto 4, 3) := by decide +kernel
def Q_own_ccM (Z : State) (x : Int32) (h0 : Heap) (v : Option Value) (h : Heap) (L : List Loc) : Prop := v = some (.int (own_cc x)) ∧ Fr Z.heap.size L ∧ h = h0
set_option maxRecDepth 65536 in
set_option maxHeartbeats 40000000 in
theorem own_ccM (l : Launch) (Z : State) (a0 : Array Value) (hw : ∀ d ∈ tables_1, d.before a0 Z = true) (ws : List Jvm.Cond) (x : Int32) (h0 : Heap) (O0 : Ext Z.heap h0) :
    MetFree l own_m5 (head1 (Jvm.Cond.code own_m5 jdk_89_method_18_code 1 (some .int) :: ws) ({ frames := 0, cells := 0, slots := 0, locals := 0 } : Room)) (fun aa U => aa = #[(.int x)] ∧ Z.Warmed39 U.vm ∧ U.heap = h0) (fun _ _ _ _ _ => True) (fun _ U o U' => ∃ v L, o = .returned v ∧ Q_own_ccM Z x h0 v U'.heap L ∧ FrameEnd U o U' L ({ frames := 0, cells := 0, slots := 0, locals := 0 } : Room).cells ({ frames := 0, cells := 0, slots := 0, locals := 0 } : Room).slots) := by
  refine MetFree.of_bodySF pf_own_ccM hisR ?_
  intro p e s m args below meth c s₁ Bd hml0 hP hK
  obtain ⟨rfl, hZ, hh⟩ := hP
  have hx := Bd.exec
  have hby := Bd.bytes
  have hlk := BodyLoose.notSynchronized Bd
  have hml : c.maxLocals = 1 := hml0
  have hown : s.vm.findClass "java/lang/Character" = some m.cls := findClass_of_methodNamed Bd.named
  have hnm := (name_of_methodNamed Bd.named Bd.method).1
  have X0 : Stand p l e ({ frames := 0, cells := 0, slots := 0, locals := 0 } : Room) s m #[(.int x)] below meth c s₁ [] 0 0 := Stand.of_body Bd
  have e0 : s₁.heap = h0 := by rw [← hh, Bd.state]; rfl
  have N0 := Fr.nil Z.heap.size
  have K0 : Keep h0 h0 [] := Keep.refl _ _
  refine own_start (Q := Q_own_ccM Z x h0) (ef_own_ccM m (x)) ?_
  show own_G p e below (s₁.setTop (mkF m 0 #[.val (.int x)] [])) _
  refine own_go (fun t k => XS.iloadN X0.here hx rfl (hb hby d_jdk_89_method_18_code_0) rfl k) ?_
  refine own_go (fun t k => X0.ldcI hx hown (mvT hZ (own_hw hw 149 rfl)) rfl (hb hby d_jdk_89_method_18_code_1) k) ?_
  by_cases hc1z : x < (65536 : Int32)
  · refine own_go (fun t k => XS.icmpYes X0.here hx rfl (pc0 := 3) (pc' := 10) rfl (hb hby d_jdk_89_method_18_code_3) rfl (tlt hc1z).1 (by decide) (by decide) k) ?_
    show own_G p e below (s₁.setTop (mkF m 10 #[.val (.int x)] [])) _
    refine own_go (fun t k => XS.iconst X0.here hx rfl (hb hby d_jdk_89_method_18_code_10) k) ?_
    exact own_ret X0 hx Bd.returns rfl (Or.inl ⟨rfl, Or.inl rfl, _, rfl⟩) (hb hby d_jdk_89_method_18_code_11) hlk (Nat.le_of_ble_eq_true rfl) (Nat.le_of_ble_eq_true rfl) (by show Q_own_ccM Z x h0 _ s₁.heap _; rw [e0]; exact ⟨(congrArg (fun z => some (Value.int z)) (show (own_cc x) = _ from (if_pos hc1z)).symm), N0, rfl⟩)
  · refine own_go (fun t k => XS.icmpNo X0.here hx rfl (hb hby d_jdk_89_method_18_code_3) rfl (flt hc1z).1 k) ?_
    show own_G p e below (s₁.setTop (mkF m 6 #[.val (.int x)] [])) _
    refine own_go (fun t k => XS.iconst X0.here hx rfl (hb hby d_jdk_89_method_18_code_6) k) ?_
    refine own_go (fun t k => XS.goto X0.here hx rfl (pc0 := 7) (pc' := 11) rfl (hb hby d_jdk_89_method_18_code_7) (by decide) (by decide) k) ?_
    show own_G p e below (s₁.setTop (mkF m 11 #[.val (.int x)] [(.int (2 : Int32))])) _
    exact own_ret X0 hx Bd.returns rfl (Or.inl ⟨rfl, Or.inl rfl, _, rfl⟩) (hb hby d_jdk_89_method_18_code_11) hlk (Nat.le_of_ble_eq_true rfl) (Nat.le_of_ble_eq_true rfl) (by show Q_own_ccM Z x h0 _ s₁.heap _; rw [e0]; exact ⟨(congrArg (fun z => some (Value.int z)) (show (own_cc x) = _ from (if_neg hc1z)).symm), N0, rfl⟩)
theorem ef_own_tcM (m : MethodId) (x0 : Int32) (x1 : Int32) : entryFrame m #[(.int x0), (.int x1)] 2 = mkF m 0 #[.val (.int x0), .val (.int x1)] [] := by first | (simp [entryFrame, mkF, argsToLocals, Value.category]; done) | rfl
theorem pf_own_tcM : plainFor own_m6 = true := plainFor_of_name (by simp [plainName, overriddenIn])
theorem d_jdk_89_method_19_code_0 : decode jdk_89_method_19_code 0 = .ok (.iload_n 0, 1) := by decide +kernel
theorem d_jdk_89_method_19_code_1 : decode jdk_89_method_19_code 1 = .ok (.bipush 10, 2) := by decide +kernel
theorem d_jdk_89_method_19_code_3 : decode jdk_89_method_19_code 3 = .ok (.ishl, 1) := by decide +kernel
theorem d_jdk_89_method_19_code_4 : decode jdk_89_method_19_code 4 = .ok (.iload_n 1, 1) := by decide +kernel
theorem d_jdk_89_method_19_code_5 : decode jdk_89_method_19_code 5 = .ok (.iadd, 1) := by decide +kernel
theorem d_jdk_89_method_19_code_6 : decode jdk_89_method_19_code 6 = .ok (.ldc 85, 2) := by decide +kernel
theorem d_jdk_89_method_19_code_8 : decode jdk_89_method_19_code 8 = .ok (.iadd, 1) := by decide +kernel
theorem d_jdk_89_method_19_code_9 : decode jdk_89_method_19_code 9 = .ok (.ireturn, 1) := by decide +kernel
def Q_own_tcM (Z : State) (x : Int32) (y : Int32) (h0 : Heap) (v : Option Value) (h : Heap) (L : List Loc) : Prop := v = some (.int (own_tcp x y)) ∧ Fr Z.heap.size L ∧ h = h0
set_option maxRecDepth 65536 in
set_option maxHeartbeats 40000000 in
theorem own_tcM (l : Launch) (Z : State) (a0 : Array Value) (hw : ∀ d ∈ tables_1, d.before a0 Z = true) (ws : List Jvm.Cond) (x : Int32) (y : Int32) (h0 : Heap) (O0 : Ext Z.heap h0) :
    MetFree l own_m6 (head1 (Jvm.Cond.code own_m6 jdk_89_method_19_code 2 (some .int) :: ws) ({ frames := 0, cells := 0, slots := 0, locals := 0 } : Room)) (fun aa U => aa = #[(.int x), (.int y)] ∧ Z.Warmed39 U.vm ∧ U.heap = h0) (fun _ _ _ _ _ => True) (fun _ U o U' => ∃ v L, o = .returned v ∧ Q_own_tcM Z x y h0 v U'.heap L ∧ FrameEnd U o U' L ({ frames := 0, cells := 0, slots := 0, locals := 0 } : Room).cells ({ frames := 0, cells := 0, slots := 0, locals := 0 } : Room).slots) := by
  refine MetFree.of_bodySF pf_own_tcM hisR ?_
  intro p e s m args below meth c s₁ Bd hml0 hP hK
  obtain ⟨rfl, hZ, hh⟩ := hP
  have hx := Bd.exec
  have hby := Bd.bytes
  have hlk := BodyLoose.notSynchronized Bd
  have hml : c.maxLocals = 2 := hml0
  have hown : s.vm.findClass "java/lang/Character" = some m.cls := findClass_of_methodNamed Bd.named
  have hnm := (name_of_methodNamed Bd.named Bd.method).1
  have X0 : Stand p l e ({ frames := 0, cells := 0, slots := 0, locals := 0 } : Room) s m #[(.int x), (.int y)] below meth c s₁ [] 0 0 := Stand.of_body Bd
  have e0 : s₁.heap = h0 := by rw [← hh, Bd.state]; rfl
  have N0 := Fr.nil Z.heap.size
  have K0 : Keep h0 h0 [] := Keep.refl _ _
  refine own_start (Q := Q_own_tcM Z x y h0) (ef_own_tcM m (x) (y)) ?_
  show own_G p e below (s₁.setTop (mkF m 0 #[.val (.int x), .val (.int y)] [])) _
  refine own_go (fun t k => XS.iloadN X0.here hx rfl (hb hby d_jdk_89_method_19_code_0) rfl k) ?_
  refine own_go (fun t k => XS.bipush X0.here hx rfl (hb hby d_jdk_89_method_19_code_1) k) ?_
  refine own_go (fun t k => XS.ishl X0.here hx rfl (hb hby d_jdk_89_method_19_code_3) rfl k) ?_
  show own_G p e below (s₁.setTop (mkF m 4 #[.val (.int x), .val (.int y)] [(.int (x <<< ((10 : Int32) &&& 31)))])) _
  refine own_go (fun t k => XS.iloadN X0.here hx rfl (hb hby d_jdk_89_method_19_code_4) rfl k) ?_
  refine own_go (fun t k => XS.iadd X0.here hx rfl (hb hby d_jdk_89_method_19_code_5) rfl k) ?_
  refine own_go (fun t k => X0.ldcI hx hown (mvT hZ (own_hw hw 176 rfl)) rfl (hb hby d_jdk_89_method_19_code_6) k) ?_
  show own_G p e below (s₁.setTop (mkF m 8 #[.val (.int x), .val (.int y)] [(.int (-56613888 : Int32)), (.int ((x <<< ((10 : Int32) &&& 31)) + y))])) _
  refine own_go (fun t k => XS.iadd X0.here hx rfl (hb hby d_jdk_89_method_19_code_8) rfl k) ?_
  exact own_ret X0 hx Bd.returns rfl (Or.inl ⟨rfl, Or.inl rfl, _, rfl⟩) (hb hby d_jdk_89_method_19_code_9) hlk (Nat.le_of_ble_eq_true rfl) (Nat.le_of_ble_eq_true rfl) (by show Q_own_tcM Z x y h0 _ s₁.heap _; rw [e0]; exact ⟨rfl, N0, rfl⟩)
theorem ef_own_num (m : MethodId) (x0 : Addr) : entryFrame m #[(.ref x0)] 1 = mkF m 0 #[.val (.ref x0)] [] := by first | (simp [entryFrame, mkF, argsToLocals, Value.category]; done) | rfl
theorem pf_own_num : plainFor own_m7 = true := plainFor_of_name (by simp [plainName, overriddenIn])
theorem d_jdk_18_method_1_code_0 : decode jdk_18_method_1_code 0 = .ok (.aload_n 0, 1) := by decide +kernel
theorem d_jdk_18_method_1_code_1 : decode jdk_18_method_1_code 1 = .ok (.invokespecial 1, 3) := by decide +kernel
theorem d_jdk_18_method_1_code_4 : decode jdk_18_method_1_code 4 = .ok (.return_, 1) := by decide +kernel
def Q_own_num (Z : State) (a : Addr) (h0 : Heap) (v : Option Value) (h : Heap) (L : List Loc) : Prop := v = none ∧ Fr Z.heap.size L ∧ h = h0
set_option maxRecDepth 65536 in
set_option maxHeartbeats 40000000 in
theorem own_num (l : Launch) (Z : State) (a0 : Array Value) (hw : ∀ d ∈ tables_1, d.before a0 Z = true) (ws : List Jvm.Cond) (a : Addr) (h0 : Heap) (O0 : Ext Z.heap h0) :
    MetFree l own_m7 (head1 (Jvm.Cond.code own_m7 jdk_18_method_1_code 1 none :: ws) ({ frames := 1, cells := 0, slots := 0, locals := 12 } : Room)) (fun aa U => aa = #[(.ref a)] ∧ Z.Warmed39 U.vm ∧ U.heap = h0) (fun _ _ _ _ _ => True) (fun _ U o U' => ∃ v L, o = .returned v ∧ Q_own_num Z a h0 v U'.heap L ∧ FrameEnd U o U' L ({ frames := 1, cells := 0, slots := 0, locals := 12 } : Room).cells ({ frames := 1, cells := 0, slots := 0, locals := 12 } : Room).slots) := by
  refine MetFree.of_bodySF pf_own_num hisR ?_
  intro p e s m args below meth c s₁ Bd hml0 hP hK
  obtain ⟨rfl, hZ, hh⟩ := hP
  have hx := Bd.exec
  have hby := Bd.bytes
  have hlk := BodyLoose.notSynchronized Bd
  have hml : c.maxLocals = 1 := hml0
  have hown : s.vm.findClass "java/lang/Number" = some m.cls := findClass_of_methodNamed Bd.named
  have hnm := (name_of_methodNamed Bd.named Bd.method).1
  have X0 : Stand p l e ({ frames := 1, cells := 0, slots := 0, locals := 12 } : Room) s m #[(.ref a)] below meth c s₁ [] 0 0 := Stand.of_body Bd
  have e0 : s₁.heap = h0 := by rw [← hh, Bd.state]; rfl
  have N0 := Fr.nil Z.heap.size
  have K0 : Keep h0 h0 [] := Keep.refl _ _
  refine own_start (Q := Q_own_num Z a h0) (ef_own_num m (a)) ?_
  show own_G p e below (s₁.setTop (mkF m 0 #[.val (.ref a)] [])) _
  refine own_go (fun t k => XS.aloadN X0.here hx rfl (hb hby d_jdk_18_method_1_code_0) rfl rfl k) ?_
  obtain ⟨T1z, X1z, e1z, st1z⟩ := initO X0 hx hZ hown (own_hw hw 39 rfl) (own_hw hw 40 rfl) (own_hw hw 41 rfl) e0 (g := (mkF m 1 #[.val (.ref a)] [(.ref a)])) rfl (by rw [hml]; rfl) rfl (hb hby d_jdk_18_method_1_code_1) (by decide) (W := 0) (by show 2 * 0 + _ ≤ _; exact Nat.le_of_eq rfl) (by decide)
  refine own_go st1z ?_
  show own_G p e below (T1z.setTop (mkF m 4 #[.val (.ref a)] [])) _
  exact own_retV X1z hx Bd.returns (hb hby d_jdk_18_method_1_code_4) hlk (Nat.le_of_ble_eq_true rfl) (Nat.le_of_ble_eq_true rfl) (by show Q_own_num Z a h0 _ T1z.heap _; rw [e1z]; exact ⟨rfl, N0, rfl⟩)
theorem ef_own_loi (m : MethodId) (x0 : Addr) (x1 : Int64) : entryFrame m #[(.ref x0), (.long x1)] 3 = mkF m 0 #[.val (.ref x0), .val (.long x1), .second] [] := by first | (simp [entryFrame, mkF, argsToLocals, Value.category]; done) | rfl
theorem pf_own_loi : plainFor own_m8 = true := plainFor_of_name (by simp [plainName, overriddenIn])
theorem pd_193421996 : parseMethodDescriptor "()V" = some ⟨[], none⟩ := by decide +kernel
theorem d_jdk_35_method_26_code_0 : decode jdk_35_method_26_code 0 = .ok (.aload_n 0, 1) := by decide +kernel
theorem d_jdk_35_method_26_code_1 : decode jdk_35_method_26_code 1 = .ok (.invokespecial 270, 3) := by decide +kernel
theorem d_jdk_35_method_26_code_4 : decode jdk_35_method_26_code 4 = .ok (.aload_n 0, 1) := by decide +kernel
theorem d_jdk_35_method_26_code_5 : decode jdk_35_method_26_code 5 = .ok (.lload_n 1, 1) := by decide +kernel
theorem d_jdk_35_method_26_code_6 : decode jdk_35_method_26_code 6 = .ok (.putfield 273, 3) := by decide +kernel
theorem d_jdk_35_method_26_code_9 : decode jdk_35_method_26_code 9 = .ok (.return_, 1) := by decide +kernel
def Q_own_loi (Z : State) (a : Addr) (pv : Int64) (h0 : Heap) (v : Option Value) (h : Heap) (L : List Loc) : Prop := v = none ∧ Fr Z.heap.size L ∧ Keep h0 h [a] ∧ (Exa Z h a "java/lang/Long") ∧ (Fld Z h a "java/lang/Long" "value" "J" (.long pv))
set_option maxRecDepth 65536 in
set_option maxHeartbeats 40000000 in
theorem own_loi (l : Launch) (Z : State) (a0 : Array Value) (hw : ∀ d ∈ tables_1, d.before a0 Z = true) (ws : List Jvm.Cond) (a : Addr) (pv : Int64) (h0 : Heap) (O0 : Ext Z.heap h0) (q0 : Exa Z h0 a "java/lang/Long") (q1 : Z.heap.size ≤ a) (q2 : Fld Z h0 a "java/lang/Long" "value" "J" (.long (0 : Int64))) :
    MetFree l own_m8 (head1 (Jvm.Cond.code own_m8 jdk_35_method_26_code 3 none :: ws) ({ frames := 2, cells := 0, slots := 0, locals := 24 } : Room)) (fun aa U => aa = #[(.ref a), (.long pv)] ∧ Z.Warmed39 U.vm ∧ U.heap = h0) (fun _ _ _ _ _ => True) (fun _ U o U' => ∃ v L, o = .returned v ∧ Q_own_loi Z a pv h0 v U'.heap L ∧ FrameEnd U o U' L ({ frames := 2, cells := 0, slots := 0, locals := 24 } : Room).cells ({ frames := 2, cells := 0, slots := 0, locals := 24 } : Room).slots) := by
  refine MetFree.of_bodySF pf_own_loi hisR ?_
  intro p e s m args below meth c s₁ Bd hml0 hP hK
  obtain ⟨rfl, hZ, hh⟩ := hP
  have hx := Bd.exec
  have hby := Bd.bytes
  have hlk := BodyLoose.notSynchronized Bd
  have hml : c.maxLocals = 3 := hml0
  have hown : s.vm.findClass "java/lang/Long" = some m.cls := findClass_of_methodNamed Bd.named
  have hnm := (name_of_methodNamed Bd.named Bd.method).1
  have X0 : Stand p l e ({ frames := 2, cells := 0, slots := 0, locals := 24 } : Room) s m #[(.ref a), (.long pv)] below meth c s₁ [] 0 0 := Stand.of_body Bd
  have e0 : s₁.heap = h0 := by rw [← hh, Bd.state]; rfl
  have N0 := Fr.nil Z.heap.size
  have K0 : Keep h0 h0 [a] := Keep.refl _ _
  refine own_start (Q := Q_own_loi Z a pv h0) (ef_own_loi m (a) (pv)) ?_
  show own_G p e below (s₁.setTop (mkF m 0 #[.val (.ref a), .val (.long pv), .second] [])) _
  refine own_go (fun t k => XS.aloadN X0.here hx rfl (hb hby d_jdk_35_method_26_code_0) rfl rfl k) ?_
  obtain ⟨_, _, ⟨T1z, L1z, k1z, n1z⟩, -, X1z, ⟨Lc1z, hQ1z, l1z, y1z, z1z⟩, st1z⟩ := X0.specialBack hx (y := own_m7) rfl hown (own_mw hZ hw 33 rfl) (own_mw hZ hw 34 rfl) (own_mw hZ hw 38 rfl) (by decide) (backOf (W := 0) (own_num l Z a0 hw [] a h0 O0) hZ (own_hw hw 38 rfl) (own_hw hw 37 rfl) (by decide) (by decide)) (g := (mkF m 1 #[.val (.ref a), .val (.long pv), .second] [(.ref a)])) rfl (by rw [hml]; rfl) (Steps.refl _) (a := a) (argsL := []) (rest := []) (lenOf pd_193421996 rfl) rfl (by show 2 * 0 + _ ≤ _; exact Nat.le_of_eq rfl) (hb hby d_jdk_35_method_26_code_1) (fun _ _ => ⟨rfl, e0, (by decide : 0 + 0 ≤ _), (by decide : 0 + 0 ≤ _)⟩)
  dsimp only [Pt.U, Pt.locs, Pt.cells, Pt.slots] at X1z l1z y1z z1z st1z hQ1z
  subst l1z y1z z1z
  obtain ⟨rfl, NQ1z, K1zq⟩ := hQ1z
  refine own_tr st1z ?_
  have N1z := Fr.app N0 NQ1z
  show own_G p e below (T1z.setTop (mkF m 4 #[.val (.ref a), .val (.long pv), .second] [])) _
  refine own_go (fun t k => XS.aloadN X1z.here hx rfl (hb hby d_jdk_35_method_26_code_4) rfl rfl k) ?_
  refine own_go (fun t k => XS.lloadN X1z.here hx rfl (hb hby d_jdk_35_method_26_code_5) rfl k) ?_
  obtain ⟨T2z, h2z, X2z, e2z, W2z, st2z⟩ := putF X1z hx hZ hown (host := "") (Or.inl (own_hw hw 19 rfl)) Via.refl K1zq q2 q0 (Or.inr ⟨(own_hw hw 20 rfl), rfl, hnm⟩) (own_hw hw 29 rfl) (ty := .long) (by decide) rfl rfl (g := (mkF m 6 #[.val (.ref a), .val (.long pv), .second] [(.long pv), (.ref a)])) rfl rfl (hb hby d_jdk_35_method_26_code_6)
  refine own_go st2z ?_
  have N2z := Fr.snoc X2z N1z q1
  have F2z : Fld Z h2z a "java/lang/Long" "value" "J" (.long pv) := q2.same W2z
  have O3z := own_ext_wr O0 W2z q1
  have K3z := K0.wr W2z (Or.inl (List.mem_of_getElem? (i := 0) rfl))
  show own_G p e below (T2z.setTop (mkF m 9 #[.val (.ref a), .val (.long pv), .second] [])) _
  exact own_retV X2z hx Bd.returns (hb hby d_jdk_35_method_26_code_9) hlk (Nat.le_of_ble_eq_true rfl) (Nat.le_of_ble_eq_true rfl) (by show Q_own_loi Z a pv h0 _ T2z.heap _; rw [e2z]; exact ⟨rfl, N2z, K3z, (q0.wr W2z), F2z⟩)
theorem ef_own_vo (m : MethodId) (x0 : Int64) : entryFrame m #[(.long x0)] 3 = mkF m 0 #[.val (.long x0), .second, .unset] [] := by first | (simp [entryFrame, mkF, argsToLocals, Value.category]; done) | rfl
theorem pf_own_vo : plainFor own_m9 = true := plainFor_of_name (by simp [plainName, overriddenIn])
theorem pd_2087993110 : parseMethodDescriptor "(J)V" = some ⟨[.long], none⟩ := by decide +kernel
theorem d_jdk_35_method_24_code_0 : decode jdk_35_method_24_code 0 = .ok (.sipush 128, 3) := by decide +kernel
theorem d_jdk_35_method_24_code_12 : decode jdk_35_method_24_code 12 = .ok (.lload_n 0, 1) := by decide +kernel
theorem d_jdk_35_method_24_code_13 : decode jdk_35_method_24_code 13 = .ok (.ldc2_w 232, 3) := by decide +kernel
theorem d_jdk_35_method_24_code_16 : decode jdk_35_method_24_code 16 = .ok (.lcmp, 1) := by decide +kernel
theorem d_jdk_35_method_24_code_17 : decode jdk_35_method_24_code 17 = .ok (.ifCond .gt 14, 3) := by decide +kernel
theorem d_jdk_35_method_24_code_20 : decode jdk_35_method_24_code 20 = .ok (.getstatic 234, 3) := by decide +kernel
theorem d_jdk_35_method_24_code_23 : decode jdk_35_method_24_code 23 = .ok (.lload_n 0, 1) := by decide +kernel
theorem d_jdk_35_method_24_code_24 : decode jdk_35_method_24_code 24 = .ok (.l2i, 1) := by decide +kernel
theorem d_jdk_35_method_24_code_25 : decode jdk_35_method_24_code 25 = .ok (.sipush 128, 3) := by decide +kernel
theorem d_jdk_35_method_24_code_28 : decode jdk_35_method_24_code 28 = .ok (.iadd, 1) := by decide +kernel
theorem d_jdk_35_method_24_code_29 : decode jdk_35_method_24_code 29 = .ok (.aaload, 1) := by decide +kernel
theorem d_jdk_35_method_24_code_3 : decode jdk_35_method_24_code 3 = .ok (.istore_n 2, 1) := by decide +kernel
theorem d_jdk_35_method_24_code_30 : decode jdk_35_method_24_code 30 = .ok (.areturn, 1) := by decide +kernel
theorem d_jdk_35_method_24_code_31 : decode jdk_35_method_24_code 31 = .ok (.new 1, 3) := by decide +kernel
theorem d_jdk_35_method_24_code_34 : decode jdk_35_method_24_code 34 = .ok (.dup, 1) := by decide +kernel
theorem d_jdk_35_method_24_code_35 : decode jdk_35_method_24_code 35 = .ok (.lload_n 0, 1) := by decide +kernel
theorem d_jdk_35_method_24_code_36 : decode jdk_35_method_24_code 36 = .ok (.invokespecial 240, 3) := by decide +kernel
theorem d_jdk_35_method_24_code_39 : decode jdk_35_method_24_code 39 = .ok (.areturn, 1) := by decide +kernel
theorem d_jdk_35_method_24_code_4 : decode jdk_35_method_24_code 4 = .ok (.lload_n 0, 1) := by decide +kernel
theorem d_jdk_35_method_24_code_5 : decode jdk_35_method_24_code 5 = .ok (.ldc2_w 230, 3) := by decide +kernel
theorem d_jdk_35_method_24_code_8 : decode jdk_35_method_24_code 8 = .ok (.lcmp, 1) := by decide +kernel
theorem d_jdk_35_method_24_code_9 : decode jdk_35_method_24_code 9 = .ok (.ifCond .lt 22, 3) := by decide +kernel
def Q_own_vo (Z : State) (pv : Int64) (ca : Addr) (h0 : Heap) (v : Option Value) (h : Heap) (L : List Loc) : Prop := ∃ r : Addr, v = some (.ref r) ∧ Fr Z.heap.size L ∧ Keep h0 h [] ∧ (Exa Z h r "java/lang/Long") ∧ (Fld Z h r "java/lang/Long" "value" "J" (.long pv))
set_option maxRecDepth 65536 in
set_option maxHeartbeats 40000000 in
theorem own_vo (l : Launch) (Z : State) (a0 : Array Value) (hw : ∀ d ∈ tables_1, d.before a0 Z = true) (ws : List Jvm.Cond) (pv : Int64) (ca : Addr) (h0 : Heap) (O0 : Ext Z.heap h0) (S_C : Sta Z Z.heap "java/lang/Long$LongCache" "cache" "[Ljava/lang/Long;" (.ref ca)) (BX : ∃ (kc : ClassId) (vs : List Value), own_A Z Z.heap ca kc (.object "java/lang/Long") vs ∧ ∀ j : Nat, j < 256 → ∃ y, vs[j]? = some (.ref y) ∧ Exa Z Z.heap y "java/lang/Long" ∧ Fld Z Z.heap y "java/lang/Long" "value" "J" (.long (j.toInt32 - (128 : Int32)).toInt64)) :
    MetFree l own_m9 (head1 (Jvm.Cond.code own_m9 jdk_35_method_24_code 3 (some (.object "java/lang/Long")) :: ws) ({ frames := 3, cells := 1, slots := 1, locals := 40 } : Room)) (fun aa U => aa = #[(.long pv)] ∧ Z.Warmed39 U.vm ∧ U.heap = h0) (fun _ _ _ _ _ => True) (fun _ U o U' => ∃ v L, o = .returned v ∧ Q_own_vo Z pv ca h0 v U'.heap L ∧ FrameEnd U o U' L ({ frames := 3, cells := 1, slots := 1, locals := 40 } : Room).cells ({ frames := 3, cells := 1, slots := 1, locals := 40 } : Room).slots) := by
  refine MetFree.of_bodySF pf_own_vo hisR ?_
  intro p e s m args below meth c s₁ Bd hml0 hP hK
  obtain ⟨rfl, hZ, hh⟩ := hP
  have hx := Bd.exec
  have hby := Bd.bytes
  have hlk := BodyLoose.notSynchronized Bd
  have hml : c.maxLocals = 3 := hml0
  have hown : s.vm.findClass "java/lang/Long" = some m.cls := findClass_of_methodNamed Bd.named
  have hnm := (name_of_methodNamed Bd.named Bd.method).1
  have X0 : Stand p l e ({ frames := 3, cells := 1, slots := 1, locals := 40 } : Room) s m #[(.long pv)] below meth c s₁ [] 0 0 := Stand.of_body Bd
  have e0 : s₁.heap = h0 := by rw [← hh, Bd.state]; rfl
  have N0 := Fr.nil Z.heap.size
  have K0 : Keep h0 h0 [] := Keep.refl _ _
  refine own_start (Q := Q_own_vo Z pv ca h0) (ef_own_vo m (pv)) ?_
  show own_G p e below (s₁.setTop (mkF m 0 #[.val (.long pv), .second, .unset] [])) _
  obtain ⟨kc, vs, AC, HBX⟩ := BX
  refine own_go (fun t k => XS.sipush X0.here hx rfl (hb hby d_jdk_35_method_24_code_0) k) ?_
  refine own_go (fun t k => XS.istoreN X0.here hx rfl (hb hby d_jdk_35_method_24_code_3) rfl (l' := #[.val (.long pv), .second, .val (.int (128 : Int32))]) rfl k) ?_
  refine own_go (fun t k => XS.lloadN X0.here hx rfl (hb hby d_jdk_35_method_24_code_4) rfl k) ?_
  show own_G p e below (s₁.setTop (mkF m 5 #[.val (.long pv), .second, .val (.int (128 : Int32))] [(.long pv)])) _
  refine own_go (fun t k => X0.ldc2J hx hown (mvT hZ (own_hw hw 4 rfl)) rfl (hb hby d_jdk_35_method_24_code_5) k) ?_
  refine own_go (fun t k => XS.lcmp X0.here hx rfl (hb hby d_jdk_35_method_24_code_8) rfl k) ?_
  by_cases hc1z : pv < (-128 : Int64)
  · refine own_go (fun t k => XS.ifYes X0.here hx rfl (pc0 := 9) (pc' := 31) rfl (hb hby d_jdk_35_method_24_code_9) rfl ((if0 _ _).trans (tlt ((lw_lt pv (-128 : Int64)).mpr hc1z)).1) (by decide) (by decide) k) ?_
    show own_G p e below (s₁.setTop (mkF m 31 #[.val (.long pv), .second, .val (.int (128 : Int32))] [])) _
    obtain ⟨T2z, h2z, X2z, e2z, E2z, A2z, D2z, -, st2z⟩ := newO X0 hx hZ hown (own_hw hw 28 rfl) (own_hw hw 29 rfl) (own_hw hw 2 rfl) e0 (g := (mkF m 31 #[.val (.long pv), .second, .val (.int (128 : Int32))] [])) rfl (hb hby d_jdk_35_method_24_code_31) (by decide) (by decide)
    obtain ⟨b2z, g2z⟩ : ∃ z, z = h0.size := ⟨_, rfl⟩
    rw [← g2z] at A2z D2z st2z
    have fr_b2z : Z.heap.size ≤ b2z := g2z ▸ O0.1
    have lz_b2z : h0.size ≤ b2z := g2z ▸ K0.1
    have O3z := own_ext_trans O0 E2z
    have K3z := K0.ext E2z
    have F2z_value : Fld Z h2z b2z "java/lang/Long" "value" "J" (.long (0 : Int64)) := D2z (Or.inr (own_hw hw 20 rfl)) (ty := .long) (by decide)
    refine own_go st2z ?_
    refine own_go (fun t k => XS.dup X2z.here hx rfl (hb hby d_jdk_35_method_24_code_34) rfl rfl k) ?_
    refine own_go (fun t k => XS.lloadN X2z.here hx rfl (hb hby d_jdk_35_method_24_code_35) rfl k) ?_
    show own_G p e below (T2z.setTop (mkF m 36 #[.val (.long pv), .second, .val (.int (128 : Int32))] [(.long pv), (.ref b2z), (.ref b2z)])) _
    obtain ⟨_, _, ⟨T4z, L4z, k4z, n4z⟩, -, X4z, ⟨Lc4z, hQ4z, l4z, y4z, z4z⟩, st4z⟩ := X2z.specialBack hx (y := own_m8) rfl hown (own_mw hZ hw 30 rfl) (own_mw hZ hw 31 rfl) (own_mw hZ hw 32 rfl) (by decide) (backOf (W := 1) (own_loi l Z a0 hw [] b2z pv h2z O3z A2z fr_b2z F2z_value) hZ (own_hw hw 32 rfl) (own_hw hw 2 rfl) (by decide) (by decide)) (g := (mkF m 36 #[.val (.long pv), .second, .val (.int (128 : Int32))] [(.long pv), (.ref b2z), (.ref b2z)])) rfl (by rw [hml]; rfl) (Steps.refl _) (a := b2z) (argsL := [(.long pv)]) (rest := [(.ref b2z)]) (lenOf pd_2087993110 rfl) rfl (by show 2 * 0 + _ ≤ _; exact Nat.le_of_eq rfl) (hb hby d_jdk_35_method_24_code_36) (fun _ _ => ⟨rfl, e2z, (by decide : 1 + 0 ≤ _), (by decide : 1 + 0 ≤ _)⟩)
    dsimp only [Pt.U, Pt.locs, Pt.cells, Pt.slots] at X4z l4z y4z z4z st4z hQ4z
    subst l4z y4z z4z
    obtain ⟨rfl, NQ4z, K4zq, r4z_0, r4z_1⟩ := hQ4z
    refine own_tr st4z ?_
    have N4z := Fr.app N0 NQ4z
    have O5z := own_ext_keep O3z K4zq (allS fr_b2z all0)
    have K5z := K3z.trans K4zq (allS (Or.inr lz_b2z) all0)
    show own_G p e below (T4z.setTop (mkF m 39 #[.val (.long pv), .second, .val (.int (128 : Int32))] [(.ref b2z)])) _
    exact own_ret X4z hx Bd.returns rfl (Or.inr (Or.inr (Or.inr (Or.inr ⟨rfl, rfl, rfl⟩)))) (hb hby d_jdk_35_method_24_code_39) hlk (Nat.le_of_ble_eq_true rfl) (Nat.le_of_ble_eq_true rfl) (by show Q_own_vo Z pv ca h0 _ T4z.heap _; exact ⟨b2z, rfl, N4z, K5z, r4z_0, r4z_1⟩)
  · refine own_go (fun t k => XS.ifNo X0.here hx rfl (hb hby d_jdk_35_method_24_code_9) rfl ((if0 _ _).trans (flt (fun q => hc1z ((lw_lt pv (-128 : Int64)).mp q))).1) k) ?_
    show own_G p e below (s₁.setTop (mkF m 12 #[.val (.long pv), .second, .val (.int (128 : Int32))] [])) _
    refine own_go (fun t k => XS.lloadN X0.here hx rfl (hb hby d_jdk_35_method_24_code_12) rfl k) ?_
    refine own_go (fun t k => X0.ldc2J hx hown (mvT hZ (own_hw hw 5 rfl)) rfl (hb hby d_jdk_35_method_24_code_13) k) ?_
    refine own_go (fun t k => XS.lcmp X0.here hx rfl (hb hby d_jdk_35_method_24_code_16) rfl k) ?_
    show own_G p e below (s₁.setTop (mkF m 17 #[.val (.long pv), .second, .val (.int (128 : Int32))] [(.int (lcmpW pv (127 : Int64)))])) _
    by_cases hc6z : (127 : Int64) < pv
    · refine own_go (fun t k => XS.ifYes X0.here hx rfl (pc0 := 17) (pc' := 31) rfl (hb hby d_jdk_35_method_24_code_17) rfl ((if0 _ _).trans (tlt ((lw_gt pv (127 : Int64)).mpr hc6z)).2.2.1) (by decide) (by decide) k) ?_
      show own_G p e below (s₁.setTop (mkF m 31 #[.val (.long pv), .second, .val (.int (128 : Int32))] [])) _
      obtain ⟨T7z, h7z, X7z, e7z, E7z, A7z, D7z, -, st7z⟩ := newO X0 hx hZ hown (own_hw hw 28 rfl) (own_hw hw 29 rfl) (own_hw hw 2 rfl) e0 (g := (mkF m 31 #[.val (.long pv), .second, .val (.int (128 : Int32))] [])) rfl (hb hby d_jdk_35_method_24_code_31) (by decide) (by decide)
      obtain ⟨b7z, g7z⟩ : ∃ z, z = h0.size := ⟨_, rfl⟩
      rw [← g7z] at A7z D7z st7z
      have fr_b7z : Z.heap.size ≤ b7z := g7z ▸ O0.1
      have lz_b7z : h0.size ≤ b7z := g7z ▸ K0.1
      have O8z := own_ext_trans O0 E7z
      have K8z := K0.ext E7z
      have F7z_value : Fld Z h7z b7z "java/lang/Long" "value" "J" (.long (0 : Int64)) := D7z (Or.inr (own_hw hw 20 rfl)) (ty := .long) (by decide)
      refine own_go st7z ?_
      refine own_go (fun t k => XS.dup X7z.here hx rfl (hb hby d_jdk_35_method_24_code_34) rfl rfl k) ?_
      refine own_go (fun t k => XS.lloadN X7z.here hx rfl (hb hby d_jdk_35_method_24_code_35) rfl k) ?_
      show own_G p e below (T7z.setTop (mkF m 36 #[.val (.long pv), .second, .val (.int (128 : Int32))] [(.long pv), (.ref b7z), (.ref b7z)])) _
      obtain ⟨_, _, ⟨T9z, L9z, k9z, n9z⟩, -, X9z, ⟨Lc9z, hQ9z, l9z, y9z, z9z⟩, st9z⟩ := X7z.specialBack hx (y := own_m8) rfl hown (own_mw hZ hw 30 rfl) (own_mw hZ hw 31 rfl) (own_mw hZ hw 32 rfl) (by decide) (backOf (W := 1) (own_loi l Z a0 hw [] b7z pv h7z O8z A7z fr_b7z F7z_value) hZ (own_hw hw 32 rfl) (own_hw hw 2 rfl) (by decide) (by decide)) (g := (mkF m 36 #[.val (.long pv), .second, .val (.int (128 : Int32))] [(.long pv), (.ref b7z), (.ref b7z)])) rfl (by rw [hml]; rfl) (Steps.refl _) (a := b7z) (argsL := [(.long pv)]) (rest := [(.ref b7z)]) (lenOf pd_2087993110 rfl) rfl (by show 2 * 0 + _ ≤ _; exact Nat.le_of_eq rfl) (hb hby d_jdk_35_method_24_code_36) (fun _ _ => ⟨rfl, e7z, (by decide : 1 + 0 ≤ _), (by decide : 1 + 0 ≤ _)⟩)
      dsimp only [Pt.U, Pt.locs, Pt.cells, Pt.slots] at X9z l9z y9z z9z st9z hQ9z
      subst l9z y9z z9z
      obtain ⟨rfl, NQ9z, K9zq, r9z_0, r9z_1⟩ := hQ9z
      refine own_tr st9z ?_
      have N9z := Fr.app N0 NQ9z
      have O10z := own_ext_keep O8z K9zq (allS fr_b7z all0)
      have K10z := K8z.trans K9zq (allS (Or.inr lz_b7z) all0)
      show own_G p e below (T9z.setTop (mkF m 39 #[.val (.long pv), .second, .val (.int (128 : Int32))] [(.ref b7z)])) _
      exact own_ret X9z hx Bd.returns rfl (Or.inr (Or.inr (Or.inr (Or.inr ⟨rfl, rfl, rfl⟩)))) (hb hby d_jdk_35_method_24_code_39) hlk (Nat.le_of_ble_eq_true rfl) (Nat.le_of_ble_eq_true rfl) (by show Q_own_vo Z pv ca h0 _ T9z.heap _; exact ⟨b7z, rfl, N9z, K10z, r9z_0, r9z_1⟩)
    · refine own_go (fun t k => XS.ifNo X0.here hx rfl (hb hby d_jdk_35_method_24_code_17) rfl ((if0 _ _).trans (flt (fun q => hc6z ((lw_gt pv (127 : Int64)).mp q))).2.2.1) k) ?_
      show own_G p e below (s₁.setTop (mkF m 20 #[.val (.long pv), .second, .val (.int (128 : Int32))] [])) _
      obtain ⟨T11z, X11z, e11z, st11z⟩ := getS2 X0 hx hZ hown (host := "") (Or.inl (own_hw hw 6 rfl)) Via.refl e0 (S_C.ext O0) (g := (mkF m 20 #[.val (.long pv), .second, .val (.int (128 : Int32))] [])) rfl (hb hby d_jdk_35_method_24_code_20)
      refine own_go st11z ?_
      refine own_go (fun t k => XS.lloadN X11z.here hx rfl (hb hby d_jdk_35_method_24_code_23) rfl k) ?_
      refine own_go (fun t k => XS.l2i X11z.here hx rfl (hb hby d_jdk_35_method_24_code_24) rfl k) ?_
      show own_G p e below (T11z.setTop (mkF m 25 #[.val (.long pv), .second, .val (.int (128 : Int32))] [(.int ((pv).toInt32)), (.ref ca)])) _
      refine own_go (fun t k => XS.sipush X11z.here hx rfl (hb hby d_jdk_35_method_24_code_25) k) ?_
      refine own_go (fun t k => XS.iadd X11z.here hx rfl (hb hby d_jdk_35_method_24_code_28) rfl k) ?_
      obtain ⟨y, hy, Ey, Fy⟩ := HBX _ (own_idx hc1z hc6z).2
      rw [own_idv hc1z hc6z] at Fy
      refine own_go (own_ldA X11z hx hZ e11z (AC.ext O0) rfl (i := (pv.toInt + 128).toNat) (v := (.ref y)) (own_idx hc1z hc6z).1 hy (g := (mkF m 29 #[.val (.long pv), .second, .val (.int (128 : Int32))] [(.int (((pv).toInt32) + (128 : Int32))), (.ref ca)])) rfl rfl (hb hby d_jdk_35_method_24_code_29)) ?_
      show own_G p e below (T11z.setTop (mkF m 30 #[.val (.long pv), .second, .val (.int (128 : Int32))] [(.ref y)])) _
      exact own_ret X11z hx Bd.returns rfl (Or.inr (Or.inr (Or.inr (Or.inr ⟨rfl, rfl, rfl⟩)))) (hb hby d_jdk_35_method_24_code_30) hlk (Nat.le_of_ble_eq_true rfl) (Nat.le_of_ble_eq_true rfl) (by show Q_own_vo Z pv ca h0 _ T11z.heap _; rw [e11z]; exact ⟨y, rfl, N0, K0, (Ey.ext O0), (Fy.ext O0)⟩)
theorem ef_own_lv (m : MethodId) (x0 : Addr) : entryFrame m #[(.ref x0)] 1 = mkF m 0 #[.val (.ref x0)] [] := by first | (simp [entryFrame, mkF, argsToLocals, Value.category]; done) | rfl
theorem pf_own_lv : plainFor own_m10 = true := plainFor_of_name (by simp [plainName, overriddenIn])
theorem d_jdk_35_method_31_code_0 : decode jdk_35_method_31_code 0 = .ok (.aload_n 0, 1) := by decide +kernel
theorem d_jdk_35_method_31_code_1 : decode jdk_35_method_31_code 1 = .ok (.getfield 273, 3) := by decide +kernel
theorem d_jdk_35_method_31_code_4 : decode jdk_35_method_31_code 4 = .ok (.lreturn, 1) := by decide +kernel
def Q_own_lv (Z : State) (a : Addr) (pv : Int64) (h0 : Heap) (v : Option Value) (h : Heap) (L : List Loc) : Prop := v = some (.long pv) ∧ Fr Z.heap.size L ∧ h = h0
set_option maxRecDepth 65536 in
set_option maxHeartbeats 40000000 in
theorem own_lv (l : Launch) (Z : State) (a0 : Array Value) (hw : ∀ d ∈ tables_1, d.before a0 Z = true) (ws : List Jvm.Cond) (a : Addr) (pv : Int64) (h0 : Heap) (O0 : Ext Z.heap h0) (q0 : Fld Z h0 a "java/lang/Long" "value" "J" (.long pv)) :
    MetFree l own_m10 (head1 (Jvm.Cond.code own_m10 jdk_35_method_31_code 1 (some .long) :: ws) ({ frames := 0, cells := 0, slots := 0, locals := 0 } : Room)) (fun aa U => aa = #[(.ref a)] ∧ Z.Warmed39 U.vm ∧ U.heap = h0) (fun _ _ _ _ _ => True) (fun _ U o U' => ∃ v L, o = .returned v ∧ Q_own_lv Z a pv h0 v U'.heap L ∧ FrameEnd U o U' L ({ frames := 0, cells := 0, slots := 0, locals := 0 } : Room).cells ({ frames := 0, cells := 0, slots := 0, locals := 0 } : Room).slots) := by
  refine MetFree.of_bodySF pf_own_lv hisR ?_
  intro p e s m args below meth c s₁ Bd hml0 hP hK
  obtain ⟨rfl, hZ, hh⟩ := hP
  have hx := Bd.exec
  have hby := Bd.bytes
  have hlk := BodyLoose.notSynchronized Bd
  have hml : c.maxLocals = 1 := hml0
  have hown : s.vm.findClass "java/lang/Long" = some m.cls := findClass_of_methodNamed Bd.named
  have hnm := (name_of_methodNamed Bd.named Bd.method).1
  have X0 : Stand p l e ({ frames := 0, cells := 0, slots := 0, locals := 0 } : Room) s m #[(.ref a)] below meth c s₁ [] 0 0 := Stand.of_body Bd
  have e0 : s₁.heap = h0 := by rw [← hh, Bd.state]; rfl
  have N0 := Fr.nil Z.heap.size
  have K0 : Keep h0 h0 [] := Keep.refl _ _
  refine own_start (Q := Q_own_lv Z a pv h0) (ef_own_lv m (a)) ?_
  show own_G p e below (s₁.setTop (mkF m 0 #[.val (.ref a)] [])) _
  refine own_go (fun t k => XS.aloadN X0.here hx rfl (hb hby d_jdk_35_method_31_code_0) rfl rfl k) ?_
  obtain ⟨T1z, X1z, e1z, st1z⟩ := getF X0 hx hZ hown (host := "") (Or.inl (own_hw hw 19 rfl)) Via.refl e0 q0 (g := (mkF m 1 #[.val (.ref a)] [(.ref a)])) rfl rfl (hb hby d_jdk_35_method_31_code_1)
  refine own_go st1z ?_
  exact own_ret X1z hx Bd.returns rfl (Or.inr (Or.inl ⟨rfl, rfl, _, rfl⟩)) (hb hby d_jdk_35_method_31_code_4) hlk (Nat.le_of_ble_eq_true rfl) (Nat.le_of_ble_eq_true rfl) (by show Q_own_lv Z a pv h0 _ T1z.heap _; rw [e1z]; exact ⟨rfl, N0, rfl⟩)
theorem ef_own_cmpL (m : MethodId) (x0 : Addr) (x1 : Addr) : entryFrame m #[(.ref x0), (.ref x1)] 4 = mkF m 0 #[.val (.ref x0), .val (.ref x1), .unset, .unset] [] := by first | (simp [entryFrame, mkF, argsToLocals, Value.category]; done) | rfl
theorem pf_own_cmpL : plainFor own_m11 = true := plainFor_of_name (by simp [plainName, overriddenIn])
theorem pd_193421984 : parseMethodDescriptor "()J" = some ⟨[], some .long⟩ := by decide +kernel
theorem pd_184330419 : parseMethodDescriptor "(JJ)I" = some ⟨[.long, .long], some .int⟩ := by decide +kernel
theorem d_prog_124_method_2_code_0 : decode prog_124_method_2_code 0 = .ok (.aload_n 0, 1) := by decide +kernel
theorem d_prog_124_method_2_code_1 : decode prog_124_method_2_code 1 = .ok (.instanceof 7, 3) := by decide +kernel
theorem d_prog_124_method_2_code_11 : decode prog_124_method_2_code 11 = .ok (.astore_n 3, 1) := by decide +kernel
theorem d_prog_124_method_2_code_12 : decode prog_124_method_2_code 12 = .ok (.aload_n 3, 1) := by decide +kernel
theorem d_prog_124_method_2_code_13 : decode prog_124_method_2_code 13 = .ok (.invokevirtual 9, 3) := by decide +kernel
theorem d_prog_124_method_2_code_16 : decode prog_124_method_2_code 16 = .ok (.aload_n 1, 1) := by decide +kernel
theorem d_prog_124_method_2_code_17 : decode prog_124_method_2_code 17 = .ok (.checkcast 7, 3) := by decide +kernel
theorem d_prog_124_method_2_code_20 : decode prog_124_method_2_code 20 = .ok (.invokevirtual 9, 3) := by decide +kernel
theorem d_prog_124_method_2_code_23 : decode prog_124_method_2_code 23 = .ok (.invokestatic 13, 3) := by decide +kernel
theorem d_prog_124_method_2_code_26 : decode prog_124_method_2_code 26 = .ok (.istore_n 2, 1) := by decide +kernel
theorem d_prog_124_method_2_code_27 : decode prog_124_method_2_code 27 = .ok (.goto 15, 3) := by decide +kernel
theorem d_prog_124_method_2_code_4 : decode prog_124_method_2_code 4 = .ok (.ifCond .eq 26, 3) := by decide +kernel
theorem d_prog_124_method_2_code_42 : decode prog_124_method_2_code 42 = .ok (.iload_n 2, 1) := by decide +kernel
theorem d_prog_124_method_2_code_43 : decode prog_124_method_2_code 43 = .ok (.ireturn, 1) := by decide +kernel
theorem d_prog_124_method_2_code_7 : decode prog_124_method_2_code 7 = .ok (.aload_n 0, 1) := by decide +kernel
theorem d_prog_124_method_2_code_8 : decode prog_124_method_2_code 8 = .ok (.checkcast 7, 3) := by decide +kernel
def Q_own_cmpL (Z : State) (a : Addr) (b : Addr) (x : Int64) (y : Int64) (h0 : Heap) (v : Option Value) (h : Heap) (L : List Loc) : Prop := v = some (.int (own_lc x y)) ∧ Fr Z.heap.size L ∧ h = h0
set_option maxRecDepth 65536 in
set_option maxHeartbeats 40000000 in
theorem own_cmpL (l : Launch) (Z : State) (a0 : Array Value) (hw : ∀ d ∈ tables_1, d.before a0 Z = true) (ws : List Jvm.Cond) (a : Addr) (b : Addr) (x : Int64) (y : Int64) (h0 : Heap) (O0 : Ext Z.heap h0) (q0 : Exa Z h0 a "java/lang/Long") (q1 : Exa Z h0 b "java/lang/Long") (q2 : Fld Z h0 a "java/lang/Long" "value" "J" (.long x)) (q3 : Fld Z h0 b "java/lang/Long" "value" "J" (.long y)) :
    MetFree l own_m11 (head1 (Jvm.Cond.code own_m11 prog_124_method_2_code 4 (some .int) :: ws) ({ frames := 2, cells := 0, slots := 0, locals := 20 } : Room)) (fun aa U => aa = #[(.ref a), (.ref b)] ∧ Z.Warmed39 U.vm ∧ U.heap = h0) (fun _ _ _ _ _ => True) (fun _ U o U' => ∃ v L, o = .returned v ∧ Q_own_cmpL Z a b x y h0 v U'.heap L ∧ FrameEnd U o U' L ({ frames := 2, cells := 0, slots := 0, locals := 20 } : Room).cells ({ frames := 2, cells := 0, slots := 0, locals := 20 } : Room).slots) := by
  refine MetFree.of_bodySF pf_own_cmpL hisR ?_
  intro p e s m args below meth c s₁ Bd hml0 hP hK
  obtain ⟨rfl, hZ, hh⟩ := hP
  have hx := Bd.exec
  have hby := Bd.bytes
  have hlk := BodyLoose.notSynchronized Bd
  have hml : c.maxLocals = 4 := hml0
  have hown : s.vm.findClass "com/example/feeds_to_views/feedstoviews/sql/Values" = some m.cls := findClass_of_methodNamed Bd.named
  have hnm := (name_of_methodNamed Bd.named Bd.method).1
  have X0 : Stand p l e ({ frames := 2, cells := 0, slots := 0, locals := 20 } : Room) s m #[(.ref a), (.ref b)] below meth c s₁ [] 0 0 := Stand.of_body Bd
  have e0 : s₁.heap = h0 := by rw [← hh, Bd.state]; rfl
  have N0 := Fr.nil Z.heap.size
  have K0 : Keep h0 h0 [] := Keep.refl _ _
  refine own_start (Q := Q_own_cmpL Z a b x y h0) (ef_own_cmpL m (a) (b)) ?_
  show own_G p e below (s₁.setTop (mkF m 0 #[.val (.ref a), .val (.ref b), .unset, .unset] [])) _
  refine own_go (fun t k => XS.aloadN X0.here hx rfl (hb hby d_prog_124_method_2_code_0) rfl rfl k) ?_
  obtain ⟨T1z, X1z, e1z, st1z⟩ := instY X0 hx hZ hown (own_hw hw 12 rfl) e0 (Ins.self q0) (g := (mkF m 1 #[.val (.ref a), .val (.ref b), .unset, .unset] [(.ref a)])) rfl rfl (hb hby d_prog_124_method_2_code_1)
  refine own_go st1z ?_
  refine own_go (fun t k => XS.ifNo X1z.here hx rfl (hb hby d_prog_124_method_2_code_4) rfl ((if0 _ _).trans (feq (by decide : ¬ ((1 : Int32) = (0 : Int32)))).1) k) ?_
  show own_G p e below (T1z.setTop (mkF m 7 #[.val (.ref a), .val (.ref b), .unset, .unset] [])) _
  refine own_go (fun t k => XS.aloadN X1z.here hx rfl (hb hby d_prog_124_method_2_code_7) rfl rfl k) ?_
  obtain ⟨T2z, X2z, e2z, st2z⟩ := castY X1z hx hZ hown (own_hw hw 12 rfl) e1z (Ins.self q0) (g := (mkF m 8 #[.val (.ref a), .val (.ref b), .unset, .unset] [(.ref a)])) rfl rfl (hb hby d_prog_124_method_2_code_8)
  refine own_go st2z ?_
  refine own_go (fun t k => XS.astoreN X2z.here hx rfl (hb hby d_prog_124_method_2_code_11) rfl rfl (l' := #[.val (.ref a), .val (.ref b), .unset, .val (.ref a)]) rfl k) ?_
  show own_G p e below (T2z.setTop (mkF m 12 #[.val (.ref a), .val (.ref b), .unset, .val (.ref a)] [])) _
  refine own_go (fun t k => XS.aloadN X2z.here hx rfl (hb hby d_prog_124_method_2_code_12) rfl rfl k) ?_
  obtain ⟨cq3z, kq3z, qa3z, qb3z, qc3z⟩ := isOf hZ e2z q0
  obtain ⟨_, _, ⟨T3z, L3z, k3z, n3z⟩, -, X3z, ⟨Lc3z, hQ3z, l3z, y3z, z3z⟩, st3z⟩ := X2z.virtualBack hx (y := own_m10) (z := own_m10) hown (own_mw hZ hw 14 rfl) (own_mw hZ hw 15 rfl) (notFace_of_selects (args := #[]) (own_mw hZ hw 17 rfl)) (own_mw hZ hw 17 rfl) (own_mw hZ hw 16 rfl) (by decide) (backOf (W := 0) (own_lv l Z a0 hw [] a x h0 O0 q2) hZ (own_hw hw 18 rfl) (own_hw hw 2 rfl) (by decide) (by decide)) qa3z qc3z (g := (mkF m 13 #[.val (.ref a), .val (.ref b), .unset, .val (.ref a)] [(.ref a)])) rfl (by rw [hml]; rfl) (Steps.refl _) (argsL := []) (rest := []) (lenOf pd_193421984 rfl) rfl (by show 2 * 0 + _ ≤ _; exact Nat.le_of_eq rfl) (hb hby d_prog_124_method_2_code_13) (fun _ _ => ⟨rfl, e2z, (by decide : 0 + 0 ≤ _), (by decide : 0 + 0 ≤ _)⟩)
  dsimp only [Pt.U, Pt.locs, Pt.cells, Pt.slots] at X3z l3z y3z z3z st3z hQ3z
  subst l3z y3z z3z
  obtain ⟨rfl, NQ3z, K3zq⟩ := hQ3z
  refine own_tr st3z ?_
  have N3z := Fr.app N0 NQ3z
  show own_G p e below (T3z.setTop (mkF m 16 #[.val (.ref a), .val (.ref b), .unset, .val (.ref a)] [(.long x)])) _
  refine own_go (fun t k => XS.aloadN X3z.here hx rfl (hb hby d_prog_124_method_2_code_16) rfl rfl k) ?_
  obtain ⟨T4z, X4z, e4z, st4z⟩ := castY X3z hx hZ hown (own_hw hw 12 rfl) K3zq (Ins.self q1) (g := (mkF m 17 #[.val (.ref a), .val (.ref b), .unset, .val (.ref a)] [(.ref b), (.long x)])) rfl rfl (hb hby d_prog_124_method_2_code_17)
  refine own_go st4z ?_
  obtain ⟨cq5z, kq5z, qa5z, qb5z, qc5z⟩ := isOf hZ e4z q1
  obtain ⟨_, _, ⟨T5z, L5z, k5z, n5z⟩, -, X5z, ⟨Lc5z, hQ5z, l5z, y5z, z5z⟩, st5z⟩ := X4z.virtualBack hx (y := own_m10) (z := own_m10) hown (own_mw hZ hw 14 rfl) (own_mw hZ hw 15 rfl) (notFace_of_selects (args := #[]) (own_mw hZ hw 17 rfl)) (own_mw hZ hw 17 rfl) (own_mw hZ hw 16 rfl) (by decide) (backOf (W := 2) (own_lv l Z a0 hw [] b y h0 O0 q3) hZ (own_hw hw 18 rfl) (own_hw hw 2 rfl) (by decide) (by decide)) qa5z qc5z (g := (mkF m 20 #[.val (.ref a), .val (.ref b), .unset, .val (.ref a)] [(.ref b), (.long x)])) rfl (by rw [hml]; rfl) (Steps.refl _) (argsL := []) (rest := [(.long x)]) (lenOf pd_193421984 rfl) rfl (by show 2 * 0 + _ ≤ _; exact Nat.le_of_eq rfl) (hb hby d_prog_124_method_2_code_20) (fun _ _ => ⟨rfl, e4z, (by decide : 0 + 0 ≤ _), (by decide : 0 + 0 ≤ _)⟩)
  dsimp only [Pt.U, Pt.locs, Pt.cells, Pt.slots] at X5z l5z y5z z5z st5z hQ5z
  subst l5z y5z z5z
  obtain ⟨rfl, NQ5z, K5zq⟩ := hQ5z
  refine own_tr st5z ?_
  have N5z := Fr.app N3z NQ5z
  show own_G p e below (T5z.setTop (mkF m 23 #[.val (.ref a), .val (.ref b), .unset, .val (.ref a)] [(.long y), (.long x)])) _
  obtain ⟨_, _, ⟨T6z, L6z, k6z, n6z⟩, -, X6z, ⟨Lc6z, hQ6z, l6z, y6z, z6z⟩, st6z⟩ := Jvm.LawKit.callS X5z hx (y := own_m2) hown (own_mw hZ hw 21 rfl) (own_mw hZ hw 22 rfl) (own_mw hZ hw 2 rfl) (own_mw hZ hw 23 rfl) (by decide) (backOf (W := 0) (own_lcM l Z a0 hw [] x y h0 O0) hZ (own_hw hw 23 rfl) (own_hw hw 2 rfl) (by decide) (by decide)) (g := (mkF m 23 #[.val (.ref a), .val (.ref b), .unset, .val (.ref a)] [(.long y), (.long x)])) rfl (by rw [hml]; rfl) (argsL := [(.long x), (.long y)]) (rest := []) (lenOf pd_184330419 rfl) rfl (by show 2 * 0 + _ ≤ _; exact Nat.le_of_eq rfl) (hb hby d_prog_124_method_2_code_23) (fun _ _ => ⟨rfl, K5zq, (by decide : 0 + 0 ≤ _), (by decide : 0 + 0 ≤ _)⟩)
  dsimp only [Pt.U, Pt.locs, Pt.cells, Pt.slots] at X6z l6z y6z z6z st6z hQ6z
  subst l6z y6z z6z
  obtain ⟨rfl, NQ6z, K6zq⟩ := hQ6z
  refine own_go st6z ?_
  have N6z := Fr.app N5z NQ6z
  show own_G p e below (T6z.setTop (mkF m 26 #[.val (.ref a), .val (.ref b), .unset, .val (.ref a)] [(.int (own_lc x y))])) _
  refine own_go (fun t k => XS.istoreN X6z.here hx rfl (hb hby d_prog_124_method_2_code_26) rfl (l' := #[.val (.ref a), .val (.ref b), .val (.int (own_lc x y)), .val (.ref a)]) rfl k) ?_
  refine own_go (fun t k => XS.goto X6z.here hx rfl (pc0 := 27) (pc' := 42) rfl (hb hby d_prog_124_method_2_code_27) (by decide) (by decide) k) ?_
  show own_G p e below (T6z.setTop (mkF m 42 #[.val (.ref a), .val (.ref b), .val (.int (own_lc x y)), .val (.ref a)] [])) _
  refine own_go (fun t k => XS.iloadN X6z.here hx rfl (hb hby d_prog_124_method_2_code_42) rfl k) ?_
  exact own_ret X6z hx Bd.returns rfl (Or.inl ⟨rfl, Or.inl rfl, _, rfl⟩) (hb hby d_prog_124_method_2_code_43) hlk (Nat.le_of_ble_eq_true rfl) (Nat.le_of_ble_eq_true rfl) (by show Q_own_cmpL Z a b x y h0 _ T6z.heap _; rw [K6zq]; exact ⟨rfl, N6z, rfl⟩)
theorem ef_own_pick (m : MethodId) (x0 : Int64) (x1 : Int32) (x2 : Int32) : entryFrame m #[(.long x0), (.int x1), (.int x2)] 7 = mkF m 0 #[.val (.long x0), .second, .val (.int x1), .val (.int x2), .unset, .unset, .unset] [] := by first | (simp [entryFrame, mkF, argsToLocals, Value.category]; done) | rfl
theorem pf_own_pick : plainFor own_m12 = true := plainFor_of_name (by simp [plainName, overriddenIn])
theorem d_method_4_code_0 : decode method_4_code 0 = .ok (.lload_n 0, 1) := by decide +kernel
theorem d_method_4_code_1 : decode method_4_code 1 = .ok (.bipush 16, 2) := by decide +kernel
theorem d_method_4_code_10 : decode method_4_code 10 = .ok (.l2i, 1) := by decide +kernel
theorem d_method_4_code_11 : decode method_4_code 11 = .ok (.istore 4, 2) := by decide +kernel
theorem d_method_4_code_13 : decode method_4_code 13 = .ok (.iload_n 3, 1) := by decide +kernel
theorem d_method_4_code_14 : decode method_4_code 14 = .ok (.ifCond .ne 7, 3) := by decide +kernel
theorem d_method_4_code_17 : decode method_4_code 17 = .ok (.iload 4, 2) := by decide +kernel
theorem d_method_4_code_19 : decode method_4_code 19 = .ok (.i2c, 1) := by decide +kernel
theorem d_method_4_code_20 : decode method_4_code 20 = .ok (.ireturn, 1) := by decide +kernel
theorem d_method_4_code_21 : decode method_4_code 21 = .ok (.iload 4, 2) := by decide +kernel
theorem d_method_4_code_23 : decode method_4_code 23 = .ok (.bipush 14, 2) := by decide +kernel
theorem d_method_4_code_25 : decode method_4_code 25 = .ok (.iushr, 1) := by decide +kernel
theorem d_method_4_code_26 : decode method_4_code 26 = .ok (.istore 5, 2) := by decide +kernel
theorem d_method_4_code_28 : decode method_4_code 28 = .ok (.iload 4, 2) := by decide +kernel
theorem d_method_4_code_3 : decode method_4_code 3 = .ok (.iload_n 2, 1) := by decide +kernel
theorem d_method_4_code_30 : decode method_4_code 30 = .ok (.iconst 3, 1) := by decide +kernel
theorem d_method_4_code_31 : decode method_4_code 31 = .ok (.iand, 1) := by decide +kernel
theorem d_method_4_code_32 : decode method_4_code 32 = .ok (.istore 6, 2) := by decide +kernel
theorem d_method_4_code_34 : decode method_4_code 34 = .ok (.iload 5, 2) := by decide +kernel
theorem d_method_4_code_36 : decode method_4_code 36 = .ok (.ifCond .ne 10, 3) := by decide +kernel
theorem d_method_4_code_39 : decode method_4_code 39 = .ok (.bipush 97, 2) := by decide +kernel
theorem d_method_4_code_4 : decode method_4_code 4 = .ok (.imul, 1) := by decide +kernel
theorem d_method_4_code_41 : decode method_4_code 41 = .ok (.iload 6, 2) := by decide +kernel
theorem d_method_4_code_43 : decode method_4_code 43 = .ok (.iadd, 1) := by decide +kernel
theorem d_method_4_code_44 : decode method_4_code 44 = .ok (.i2c, 1) := by decide +kernel
theorem d_method_4_code_45 : decode method_4_code 45 = .ok (.ireturn, 1) := by decide +kernel
theorem d_method_4_code_46 : decode method_4_code 46 = .ok (.iload 5, 2) := by decide +kernel
theorem d_method_4_code_48 : decode method_4_code 48 = .ok (.iconst 1, 1) := by decide +kernel
theorem d_method_4_code_49 : decode method_4_code 49 = .ok (.if_icmp .ne 10, 3) := by decide +kernel
theorem d_method_4_code_5 : decode method_4_code 5 = .ok (.lushr, 1) := by decide +kernel
theorem d_method_4_code_52 : decode method_4_code 52 = .ok (.ldc 44, 2) := by decide +kernel
theorem d_method_4_code_54 : decode method_4_code 54 = .ok (.iload 6, 2) := by decide +kernel
theorem d_method_4_code_56 : decode method_4_code 56 = .ok (.iadd, 1) := by decide +kernel
theorem d_method_4_code_57 : decode method_4_code 57 = .ok (.i2c, 1) := by decide +kernel
theorem d_method_4_code_58 : decode method_4_code 58 = .ok (.ireturn, 1) := by decide +kernel
theorem d_method_4_code_59 : decode method_4_code 59 = .ok (.iload 5, 2) := by decide +kernel
theorem d_method_4_code_6 : decode method_4_code 6 = .ok (.ldc2_w 42, 3) := by decide +kernel
theorem d_method_4_code_61 : decode method_4_code 61 = .ok (.iconst 2, 1) := by decide +kernel
theorem d_method_4_code_62 : decode method_4_code 62 = .ok (.if_icmp .ne 10, 3) := by decide +kernel
theorem d_method_4_code_65 : decode method_4_code 65 = .ok (.ldc 45, 2) := by decide +kernel
theorem d_method_4_code_67 : decode method_4_code 67 = .ok (.iload 6, 2) := by decide +kernel
theorem d_method_4_code_69 : decode method_4_code 69 = .ok (.iadd, 1) := by decide +kernel
theorem d_method_4_code_70 : decode method_4_code 70 = .ok (.i2c, 1) := by decide +kernel
theorem d_method_4_code_71 : decode method_4_code 71 = .ok (.ireturn, 1) := by decide +kernel
theorem d_method_4_code_72 : decode method_4_code 72 = .ok (.ldc 46, 2) := by decide +kernel
theorem d_method_4_code_74 : decode method_4_code 74 = .ok (.iload 6, 2) := by decide +kernel
theorem d_method_4_code_76 : decode method_4_code 76 = .ok (.isub, 1) := by decide +kernel
theorem d_method_4_code_77 : decode method_4_code 77 = .ok (.i2c, 1) := by decide +kernel
theorem d_method_4_code_78 : decode method_4_code 78 = .ok (.ireturn, 1) := by decide +kernel
theorem d_method_4_code_9 : decode method_4_code 9 = .ok (.land, 1) := by decide +kernel
def Q_own_pick (Z : State) (pv : Int64) (kx : Int32) (sm : Int32) (h0 : Heap) (v : Option Value) (h : Heap) (L : List Loc) : Prop := ∃ ch : Int32, v = some (.int ch) ∧ Fr Z.heap.size L ∧ h = h0 ∧ (own_ch ch)
set_option maxRecDepth 65536 in
set_option maxHeartbeats 40000000 in
theorem own_pick (l : Launch) (Z : State) (a0 : Array Value) (hw : ∀ d ∈ tables_1, d.before a0 Z = true) (ws : List Jvm.Cond) (pv : Int64) (kx : Int32) (sm : Int32) (h0 : Heap) (O0 : Ext Z.heap h0) :
    MetFree l own_m12 (head1 (Jvm.Cond.code own_m12 method_4_code 7 (some .char) :: ws) ({ frames := 0, cells := 0, slots := 0, locals := 0 } : Room)) (fun aa U => aa = #[(.long pv), (.int kx), (.int sm)] ∧ Z.Warmed39 U.vm ∧ U.heap = h0) (fun _ _ _ _ _ => True) (fun _ U o U' => ∃ v L, o = .returned v ∧ Q_own_pick Z pv kx sm h0 v U'.heap L ∧ FrameEnd U o U' L ({ frames := 0, cells := 0, slots := 0, locals := 0 } : Room).cells ({ frames := 0, cells := 0, slots := 0, locals := 0 } : Room).slots) := by
  refine MetFree.of_bodySF pf_own_pick hisR ?_
  intro p e s m args below meth c s₁ Bd hml0 hP hK
  obtain ⟨rfl, hZ, hh⟩ := hP
  have hx := Bd.exec
  have hby := Bd.bytes
  have hlk := BodyLoose.notSynchronized Bd
  have hml : c.maxLocals = 7 := hml0
  have hown : s.vm.findClass own_s2 = some m.cls := findClass_of_methodNamed Bd.named
  have hnm := (name_of_methodNamed Bd.named Bd.method).1
  have X0 : Stand p l e ({ frames := 0, cells := 0, slots := 0, locals := 0 } : Room) s m #[(.long pv), (.int kx), (.int sm)] below meth c s₁ [] 0 0 := Stand.of_body Bd
  have e0 : s₁.heap = h0 := by rw [← hh, Bd.state]; rfl
  have N0 := Fr.nil Z.heap.size
  have K0 : Keep h0 h0 [] := Keep.refl _ _
  refine own_start (Q := Q_own_pick Z pv kx sm h0) (ef_own_pick m (pv) (kx) (sm)) ?_
  show own_G p e below (s₁.setTop (mkF m 0 #[.val (.long pv), .second, .val (.int kx), .val (.int sm), .unset, .unset, .unset] [])) _
  refine own_go (fun t k => XS.lloadN X0.here hx rfl (hb hby d_method_4_code_0) rfl k) ?_
  refine own_go (fun t k => XS.bipush X0.here hx rfl (hb hby d_method_4_code_1) k) ?_
  refine own_go (fun t k => XS.iloadN X0.here hx rfl (hb hby d_method_4_code_3) rfl k) ?_
  show own_G p e below (s₁.setTop (mkF m 4 #[.val (.long pv), .second, .val (.int kx), .val (.int sm), .unset, .unset, .unset] [(.int kx), (.int (16 : Int32)), (.long pv)])) _
  refine own_go (fun t k => XS.imul X0.here hx rfl (hb hby d_method_4_code_4) rfl k) ?_
  refine own_go (fun t k => XS.lushr X0.here hx rfl (hb hby d_method_4_code_5) rfl k) ?_
  refine own_go (fun t k => X0.ldc2J hx hown (mvT hZ (own_hw hw 49 rfl)) rfl (hb hby d_method_4_code_6) k) ?_
  show own_G p e below (s₁.setTop (mkF m 9 #[.val (.long pv), .second, .val (.int kx), .val (.int sm), .unset, .unset, .unset] [(.long (65535 : Int64)), (.long ((pv).toUInt64 >>> (((16 : Int32) * kx) &&& 0x3f).toInt64.toUInt64).toInt64)])) _
  refine own_go (fun t k => XS.land X0.here hx rfl (hb hby d_method_4_code_9) rfl k) ?_
  refine own_go (fun t k => XS.l2i X0.here hx rfl (hb hby d_method_4_code_10) rfl k) ?_
  refine own_go (fun t k => XS.istore X0.here hx rfl (hb hby d_method_4_code_11) rfl (l' := #[.val (.long pv), .second, .val (.int kx), .val (.int sm), .val (.int (((((pv).toUInt64 >>> (((16 : Int32) * kx) &&& 0x3f).toInt64.toUInt64).toInt64 &&& (65535 : Int64))).toInt32)), .unset, .unset]) rfl k) ?_
  show own_G p e below (s₁.setTop (mkF m 13 #[.val (.long pv), .second, .val (.int kx), .val (.int sm), .val (.int (((((pv).toUInt64 >>> (((16 : Int32) * kx) &&& 0x3f).toInt64.toUInt64).toInt64 &&& (65535 : Int64))).toInt32)), .unset, .unset] [])) _
  refine own_go (fun t k => XS.iloadN X0.here hx rfl (hb hby d_method_4_code_13) rfl k) ?_
  by_cases hc1z : sm = (0 : Int32)
  · refine own_go (fun t k => XS.ifNo X0.here hx rfl (hb hby d_method_4_code_14) rfl ((if0 _ _).trans (teq hc1z).2) k) ?_
    show own_G p e below (s₁.setTop (mkF m 17 #[.val (.long pv), .second, .val (.int kx), .val (.int sm), .val (.int (((((pv).toUInt64 >>> (((16 : Int32) * kx) &&& 0x3f).toInt64.toUInt64).toInt64 &&& (65535 : Int64))).toInt32)), .unset, .unset] [])) _
    refine own_go (fun t k => XS.iload X0.here hx rfl (hb hby d_method_4_code_17) rfl k) ?_
    refine own_go (fun t k => XS.i2c X0.here hx rfl (hb hby d_method_4_code_19) rfl k) ?_
    exact own_ret X0 hx Bd.returns (own_nrC _) (Or.inl ⟨rfl, Or.inr (Or.inr (Or.inr (Or.inl rfl))), _, rfl⟩) (hb hby d_method_4_code_20) hlk (Nat.le_of_ble_eq_true rfl) (Nat.le_of_ble_eq_true rfl) (by show Q_own_pick Z pv kx sm h0 _ s₁.heap _; rw [e0]; exact ⟨(((((((pv).toUInt64 >>> (((16 : Int32) * kx) &&& 0x3f).toInt64.toUInt64).toInt64 &&& (65535 : Int64))).toInt32)).toUInt32.toUInt16.toUInt32.toInt32), rfl, N0, rfl, (own_chC _)⟩)
  · refine own_go (fun t k => XS.ifYes X0.here hx rfl (pc0 := 14) (pc' := 21) rfl (hb hby d_method_4_code_14) rfl ((if0 _ _).trans (feq hc1z).2) (by decide) (by decide) k) ?_
    show own_G p e below (s₁.setTop (mkF m 21 #[.val (.long pv), .second, .val (.int kx), .val (.int sm), .val (.int (((((pv).toUInt64 >>> (((16 : Int32) * kx) &&& 0x3f).toInt64.toUInt64).toInt64 &&& (65535 : Int64))).toInt32)), .unset, .unset] [])) _
    refine own_go (fun t k => XS.iload X0.here hx rfl (hb hby d_method_4_code_21) rfl k) ?_
    refine own_go (fun t k => XS.bipush X0.here hx rfl (hb hby d_method_4_code_23) k) ?_
    refine own_go (fun t k => XS.iushr X0.here hx rfl (hb hby d_method_4_code_25) rfl k) ?_
    show own_G p e below (s₁.setTop (mkF m 26 #[.val (.long pv), .second, .val (.int kx), .val (.int sm), .val (.int (((((pv).toUInt64 >>> (((16 : Int32) * kx) &&& 0x3f).toInt64.toUInt64).toInt64 &&& (65535 : Int64))).toInt32)), .unset, .unset] [(.int (((((((pv).toUInt64 >>> (((16 : Int32) * kx) &&& 0x3f).toInt64.toUInt64).toInt64 &&& (65535 : Int64))).toInt32)).toUInt32 >>> ((14 : Int32) &&& 31).toUInt32).toInt32)])) _
    refine own_go (fun t k => XS.istore X0.here hx rfl (hb hby d_method_4_code_26) rfl (l' := #[.val (.long pv), .second, .val (.int kx), .val (.int sm), .val (.int (((((pv).toUInt64 >>> (((16 : Int32) * kx) &&& 0x3f).toInt64.toUInt64).toInt64 &&& (65535 : Int64))).toInt32)), .val (.int (((((((pv).toUInt64 >>> (((16 : Int32) * kx) &&& 0x3f).toInt64.toUInt64).toInt64 &&& (65535 : Int64))).toInt32)).toUInt32 >>> ((14 : Int32) &&& 31).toUInt32).toInt32), .unset]) rfl k) ?_
    refine own_go (fun t k => XS.iload X0.here hx rfl (hb hby d_method_4_code_28) rfl k) ?_
    refine own_go (fun t k => XS.iconst X0.here hx rfl (hb hby d_method_4_code_30) k) ?_
    show own_G p e below (s₁.setTop (mkF m 31 #[.val (.long pv), .second, .val (.int kx), .val (.int sm), .val (.int (((((pv).toUInt64 >>> (((16 : Int32) * kx) &&& 0x3f).toInt64.toUInt64).toInt64 &&& (65535 : Int64))).toInt32)), .val (.int (((((((pv).toUInt64 >>> (((16 : Int32) * kx) &&& 0x3f).toInt64.toUInt64).toInt64 &&& (65535 : Int64))).toInt32)).toUInt32 >>> ((14 : Int32) &&& 31).toUInt32).toInt32), .unset] [(.int (3 : Int32)), (.int (((((pv).toUInt64 >>> (((16 : Int32) * kx) &&& 0x3f).toInt64.toUInt64).toInt64 &&& (65535 : Int64))).toInt32))])) _
    refine own_go (fun t k => XS.iand X0.here hx rfl (hb hby d_method_4_code_31) rfl k) ?_
    refine own_go (fun t k => XS.istore X0.here hx rfl (hb hby d_method_4_code_32) rfl (l' := #[.val (.long pv), .second, .val (.int kx), .val (.int sm), .val (.int (((((pv).toUInt64 >>> (((16 : Int32) * kx) &&& 0x3f).toInt64.toUInt64).toInt64 &&& (65535 : Int64))).toInt32)), .val (.int (((((((pv).toUInt64 >>> (((16 : Int32) * kx) &&& 0x3f).toInt64.toUInt64).toInt64 &&& (65535 : Int64))).toInt32)).toUInt32 >>> ((14 : Int32) &&& 31).toUInt32).toInt32), .val (.int ((((((pv).toUInt64 >>> (((16 : Int32) * kx) &&& 0x3f).toInt64.toUInt64).toInt64 &&& (65535 : Int64))).toInt32) &&& (3 : Int32)))]) rfl k) ?_
    refine own_go (fun t k => XS.iload X0.here hx rfl (hb hby d_method_4_code_34) rfl k) ?_
    show own_G p e below (s₁.setTop (mkF m 36 #[.val (.long pv), .second, .val (.int kx), .val (.int sm), .val (.int (((((pv).toUInt64 >>> (((16 : Int32) * kx) &&& 0x3f).toInt64.toUInt64).toInt64 &&& (65535 : Int64))).toInt32)), .val (.int (((((((pv).toUInt64 >>> (((16 : Int32) * kx) &&& 0x3f).toInt64.toUInt64).toInt64 &&& (65535 : Int64))).toInt32)).toUInt32 >>> ((14 : Int32) &&& 31).toUInt32).toInt32), .val (.int ((((((pv).toUInt64 >>> (((16 : Int32) * kx) &&& 0x3f).toInt64.toUInt64).toInt64 &&& (65535 : Int64))).toInt32) &&& (3 : Int32)))] [(.int (((((((pv).toUInt64 >>> (((16 : Int32) * kx) &&& 0x3f).toInt64.toUInt64).toInt64 &&& (65535 : Int64))).toInt32)).toUInt32 >>> ((14 : Int32) &&& 31).toUInt32).toInt32)])) _
    by_cases hc2z : (((((((pv).toUInt64 >>> (((16 : Int32) * kx) &&& 0x3f).toInt64.toUInt64).toInt64 &&& (65535 : Int64))).toInt32)).toUInt32 >>> ((14 : Int32) &&& 31).toUInt32).toInt32 = (0 : Int32)
    · refine own_go (fun t k => XS.ifNo X0.here hx rfl (hb hby d_method_4_code_36) rfl ((if0 _ _).trans (teq hc2z).2) k) ?_
      show own_G p e below (s₁.setTop (mkF m 39 #[.val (.long pv), .second, .val (.int kx), .val (.int sm), .val (.int (((((pv).toUInt64 >>> (((16 : Int32) * kx) &&& 0x3f).toInt64.toUInt64).toInt64 &&& (65535 : Int64))).toInt32)), .val (.int (((((((pv).toUInt64 >>> (((16 : Int32) * kx) &&& 0x3f).toInt64.toUInt64).toInt64 &&& (65535 : Int64))).toInt32)).toUInt32 >>> ((14 : Int32) &&& 31).toUInt32).toInt32), .val (.int ((((((pv).toUInt64 >>> (((16 : Int32) * kx) &&& 0x3f).toInt64.toUInt64).toInt64 &&& (65535 : Int64))).toInt32) &&& (3 : Int32)))] [])) _
      refine own_go (fun t k => XS.bipush X0.here hx rfl (hb hby d_method_4_code_39) k) ?_
      refine own_go (fun t k => XS.iload X0.here hx rfl (hb hby d_method_4_code_41) rfl k) ?_
      refine own_go (fun t k => XS.iadd X0.here hx rfl (hb hby d_method_4_code_43) rfl k) ?_
      show own_G p e below (s₁.setTop (mkF m 44 #[.val (.long pv), .second, .val (.int kx), .val (.int sm), .val (.int (((((pv).toUInt64 >>> (((16 : Int32) * kx) &&& 0x3f).toInt64.toUInt64).toInt64 &&& (65535 : Int64))).toInt32)), .val (.int (((((((pv).toUInt64 >>> (((16 : Int32) * kx) &&& 0x3f).toInt64.toUInt64).toInt64 &&& (65535 : Int64))).toInt32)).toUInt32 >>> ((14 : Int32) &&& 31).toUInt32).toInt32), .val (.int ((((((pv).toUInt64 >>> (((16 : Int32) * kx) &&& 0x3f).toInt64.toUInt64).toInt64 &&& (65535 : Int64))).toInt32) &&& (3 : Int32)))] [(.int ((97 : Int32) + ((((((pv).toUInt64 >>> (((16 : Int32) * kx) &&& 0x3f).toInt64.toUInt64).toInt64 &&& (65535 : Int64))).toInt32) &&& (3 : Int32))))])) _
      refine own_go (fun t k => XS.i2c X0.here hx rfl (hb hby d_method_4_code_44) rfl k) ?_
      exact own_ret X0 hx Bd.returns (own_nrC _) (Or.inl ⟨rfl, Or.inr (Or.inr (Or.inr (Or.inl rfl))), _, rfl⟩) (hb hby d_method_4_code_45) hlk (Nat.le_of_ble_eq_true rfl) (Nat.le_of_ble_eq_true rfl) (by show Q_own_pick Z pv kx sm h0 _ s₁.heap _; rw [e0]; exact ⟨((((97 : Int32) + ((((((pv).toUInt64 >>> (((16 : Int32) * kx) &&& 0x3f).toInt64.toUInt64).toInt64 &&& (65535 : Int64))).toInt32) &&& (3 : Int32)))).toUInt32.toUInt16.toUInt32.toInt32), rfl, N0, rfl, (own_chC _)⟩)
    · refine own_go (fun t k => XS.ifYes X0.here hx rfl (pc0 := 36) (pc' := 46) rfl (hb hby d_method_4_code_36) rfl ((if0 _ _).trans (feq hc2z).2) (by decide) (by decide) k) ?_
      show own_G p e below (s₁.setTop (mkF m 46 #[.val (.long pv), .second, .val (.int kx), .val (.int sm), .val (.int (((((pv).toUInt64 >>> (((16 : Int32) * kx) &&& 0x3f).toInt64.toUInt64).toInt64 &&& (65535 : Int64))).toInt32)), .val (.int (((((((pv).toUInt64 >>> (((16 : Int32) * kx) &&& 0x3f).toInt64.toUInt64).toInt64 &&& (65535 : Int64))).toInt32)).toUInt32 >>> ((14 : Int32) &&& 31).toUInt32).toInt32), .val (.int ((((((pv).toUInt64 >>> (((16 : Int32) * kx) &&& 0x3f).toInt64.toUInt64).toInt64 &&& (65535 : Int64))).toInt32) &&& (3 : Int32)))] [])) _
      refine own_go (fun t k => XS.iload X0.here hx rfl (hb hby d_method_4_code_46) rfl k) ?_
      refine own_go (fun t k => XS.iconst X0.here hx rfl (hb hby d_method_4_code_48) k) ?_
      by_cases hc3z : (((((((pv).toUInt64 >>> (((16 : Int32) * kx) &&& 0x3f).toInt64.toUInt64).toInt64 &&& (65535 : Int64))).toInt32)).toUInt32 >>> ((14 : Int32) &&& 31).toUInt32).toInt32 = (1 : Int32)
      · refine own_go (fun t k => XS.icmpNo X0.here hx rfl (hb hby d_method_4_code_49) rfl (teq hc3z).2 k) ?_
        show own_G p e below (s₁.setTop (mkF m 52 #[.val (.long pv), .second, .val (.int kx), .val (.int sm), .val (.int (((((pv).toUInt64 >>> (((16 : Int32) * kx) &&& 0x3f).toInt64.toUInt64).toInt64 &&& (65535 : Int64))).toInt32)), .val (.int (((((((pv).toUInt64 >>> (((16 : Int32) * kx) &&& 0x3f).toInt64.toUInt64).toInt64 &&& (65535 : Int64))).toInt32)).toUInt32 >>> ((14 : Int32) &&& 31).toUInt32).toInt32), .val (.int ((((((pv).toUInt64 >>> (((16 : Int32) * kx) &&& 0x3f).toInt64.toUInt64).toInt64 &&& (65535 : Int64))).toInt32) &&& (3 : Int32)))] [])) _
        refine own_go (fun t k => X0.ldcI hx hown (mvT hZ (own_hw hw 158 rfl)) rfl (hb hby d_method_4_code_52) k) ?_
        refine own_go (fun t k => XS.iload X0.here hx rfl (hb hby d_method_4_code_54) rfl k) ?_
        refine own_go (fun t k => XS.iadd X0.here hx rfl (hb hby d_method_4_code_56) rfl k) ?_
        show own_G p e below (s₁.setTop (mkF m 57 #[.val (.long pv), .second, .val (.int kx), .val (.int sm), .val (.int (((((pv).toUInt64 >>> (((16 : Int32) * kx) &&& 0x3f).toInt64.toUInt64).toInt64 &&& (65535 : Int64))).toInt32)), .val (.int (((((((pv).toUInt64 >>> (((16 : Int32) * kx) &&& 0x3f).toInt64.toUInt64).toInt64 &&& (65535 : Int64))).toInt32)).toUInt32 >>> ((14 : Int32) &&& 31).toUInt32).toInt32), .val (.int ((((((pv).toUInt64 >>> (((16 : Int32) * kx) &&& 0x3f).toInt64.toUInt64).toInt64 &&& (65535 : Int64))).toInt32) &&& (3 : Int32)))] [(.int ((55296 : Int32) + ((((((pv).toUInt64 >>> (((16 : Int32) * kx) &&& 0x3f).toInt64.toUInt64).toInt64 &&& (65535 : Int64))).toInt32) &&& (3 : Int32))))])) _
        refine own_go (fun t k => XS.i2c X0.here hx rfl (hb hby d_method_4_code_57) rfl k) ?_
        exact own_ret X0 hx Bd.returns (own_nrC _) (Or.inl ⟨rfl, Or.inr (Or.inr (Or.inr (Or.inl rfl))), _, rfl⟩) (hb hby d_method_4_code_58) hlk (Nat.le_of_ble_eq_true rfl) (Nat.le_of_ble_eq_true rfl) (by show Q_own_pick Z pv kx sm h0 _ s₁.heap _; rw [e0]; exact ⟨((((55296 : Int32) + ((((((pv).toUInt64 >>> (((16 : Int32) * kx) &&& 0x3f).toInt64.toUInt64).toInt64 &&& (65535 : Int64))).toInt32) &&& (3 : Int32)))).toUInt32.toUInt16.toUInt32.toInt32), rfl, N0, rfl, (own_chC _)⟩)
      · refine own_go (fun t k => XS.icmpYes X0.here hx rfl (pc0 := 49) (pc' := 59) rfl (hb hby d_method_4_code_49) rfl (feq hc3z).2 (by decide) (by decide) k) ?_
        show own_G p e below (s₁.setTop (mkF m 59 #[.val (.long pv), .second, .val (.int kx), .val (.int sm), .val (.int (((((pv).toUInt64 >>> (((16 : Int32) * kx) &&& 0x3f).toInt64.toUInt64).toInt64 &&& (65535 : Int64))).toInt32)), .val (.int (((((((pv).toUInt64 >>> (((16 : Int32) * kx) &&& 0x3f).toInt64.toUInt64).toInt64 &&& (65535 : Int64))).toInt32)).toUInt32 >>> ((14 : Int32) &&& 31).toUInt32).toInt32), .val (.int ((((((pv).toUInt64 >>> (((16 : Int32) * kx) &&& 0x3f).toInt64.toUInt64).toInt64 &&& (65535 : Int64))).toInt32) &&& (3 : Int32)))] [])) _
        refine own_go (fun t k => XS.iload X0.here hx rfl (hb hby d_method_4_code_59) rfl k) ?_
        refine own_go (fun t k => XS.iconst X0.here hx rfl (hb hby d_method_4_code_61) k) ?_
        by_cases hc4z : (((((((pv).toUInt64 >>> (((16 : Int32) * kx) &&& 0x3f).toInt64.toUInt64).toInt64 &&& (65535 : Int64))).toInt32)).toUInt32 >>> ((14 : Int32) &&& 31).toUInt32).toInt32 = (2 : Int32)
        · refine own_go (fun t k => XS.icmpNo X0.here hx rfl (hb hby d_method_4_code_62) rfl (teq hc4z).2 k) ?_
          show own_G p e below (s₁.setTop (mkF m 65 #[.val (.long pv), .second, .val (.int kx), .val (.int sm), .val (.int (((((pv).toUInt64 >>> (((16 : Int32) * kx) &&& 0x3f).toInt64.toUInt64).toInt64 &&& (65535 : Int64))).toInt32)), .val (.int (((((((pv).toUInt64 >>> (((16 : Int32) * kx) &&& 0x3f).toInt64.toUInt64).toInt64 &&& (65535 : Int64))).toInt32)).toUInt32 >>> ((14 : Int32) &&& 31).toUInt32).toInt32), .val (.int ((((((pv).toUInt64 >>> (((16 : Int32) * kx) &&& 0x3f).toInt64.toUInt64).toInt64 &&& (65535 : Int64))).toInt32) &&& (3 : Int32)))] [])) _
          refine own_go (fun t k => X0.ldcI hx hown (mvT hZ (own_hw hw 170 rfl)) rfl (hb hby d_method_4_code_65) k) ?_
          refine own_go (fun t k => XS.iload X0.here hx rfl (hb hby d_method_4_code_67) rfl k) ?_
          refine own_go (fun t k => XS.iadd X0.here hx rfl (hb hby d_method_4_code_69) rfl k) ?_
          show own_G p e below (s₁.setTop (mkF m 70 #[.val (.long pv), .second, .val (.int kx), .val (.int sm), .val (.int (((((pv).toUInt64 >>> (((16 : Int32) * kx) &&& 0x3f).toInt64.toUInt64).toInt64 &&& (65535 : Int64))).toInt32)), .val (.int (((((((pv).toUInt64 >>> (((16 : Int32) * kx) &&& 0x3f).toInt64.toUInt64).toInt64 &&& (65535 : Int64))).toInt32)).toUInt32 >>> ((14 : Int32) &&& 31).toUInt32).toInt32), .val (.int ((((((pv).toUInt64 >>> (((16 : Int32) * kx) &&& 0x3f).toInt64.toUInt64).toInt64 &&& (65535 : Int64))).toInt32) &&& (3 : Int32)))] [(.int ((56320 : Int32) + ((((((pv).toUInt64 >>> (((16 : Int32) * kx) &&& 0x3f).toInt64.toUInt64).toInt64 &&& (65535 : Int64))).toInt32) &&& (3 : Int32))))])) _
          refine own_go (fun t k => XS.i2c X0.here hx rfl (hb hby d_method_4_code_70) rfl k) ?_
          exact own_ret X0 hx Bd.returns (own_nrC _) (Or.inl ⟨rfl, Or.inr (Or.inr (Or.inr (Or.inl rfl))), _, rfl⟩) (hb hby d_method_4_code_71) hlk (Nat.le_of_ble_eq_true rfl) (Nat.le_of_ble_eq_true rfl) (by show Q_own_pick Z pv kx sm h0 _ s₁.heap _; rw [e0]; exact ⟨((((56320 : Int32) + ((((((pv).toUInt64 >>> (((16 : Int32) * kx) &&& 0x3f).toInt64.toUInt64).toInt64 &&& (65535 : Int64))).toInt32) &&& (3 : Int32)))).toUInt32.toUInt16.toUInt32.toInt32), rfl, N0, rfl, (own_chC _)⟩)
        · refine own_go (fun t k => XS.icmpYes X0.here hx rfl (pc0 := 62) (pc' := 72) rfl (hb hby d_method_4_code_62) rfl (feq hc4z).2 (by decide) (by decide) k) ?_
          show own_G p e below (s₁.setTop (mkF m 72 #[.val (.long pv), .second, .val (.int kx), .val (.int sm), .val (.int (((((pv).toUInt64 >>> (((16 : Int32) * kx) &&& 0x3f).toInt64.toUInt64).toInt64 &&& (65535 : Int64))).toInt32)), .val (.int (((((((pv).toUInt64 >>> (((16 : Int32) * kx) &&& 0x3f).toInt64.toUInt64).toInt64 &&& (65535 : Int64))).toInt32)).toUInt32 >>> ((14 : Int32) &&& 31).toUInt32).toInt32), .val (.int ((((((pv).toUInt64 >>> (((16 : Int32) * kx) &&& 0x3f).toInt64.toUInt64).toInt64 &&& (65535 : Int64))).toInt32) &&& (3 : Int32)))] [])) _
          refine own_go (fun t k => X0.ldcI hx hown (mvT hZ (own_hw hw 50 rfl)) rfl (hb hby d_method_4_code_72) k) ?_
          refine own_go (fun t k => XS.iload X0.here hx rfl (hb hby d_method_4_code_74) rfl k) ?_
          refine own_go (fun t k => XS.isub X0.here hx rfl (hb hby d_method_4_code_76) rfl k) ?_
          show own_G p e below (s₁.setTop (mkF m 77 #[.val (.long pv), .second, .val (.int kx), .val (.int sm), .val (.int (((((pv).toUInt64 >>> (((16 : Int32) * kx) &&& 0x3f).toInt64.toUInt64).toInt64 &&& (65535 : Int64))).toInt32)), .val (.int (((((((pv).toUInt64 >>> (((16 : Int32) * kx) &&& 0x3f).toInt64.toUInt64).toInt64 &&& (65535 : Int64))).toInt32)).toUInt32 >>> ((14 : Int32) &&& 31).toUInt32).toInt32), .val (.int ((((((pv).toUInt64 >>> (((16 : Int32) * kx) &&& 0x3f).toInt64.toUInt64).toInt64 &&& (65535 : Int64))).toInt32) &&& (3 : Int32)))] [(.int ((65535 : Int32) - ((((((pv).toUInt64 >>> (((16 : Int32) * kx) &&& 0x3f).toInt64.toUInt64).toInt64 &&& (65535 : Int64))).toInt32) &&& (3 : Int32))))])) _
          refine own_go (fun t k => XS.i2c X0.here hx rfl (hb hby d_method_4_code_77) rfl k) ?_
          exact own_ret X0 hx Bd.returns (own_nrC _) (Or.inl ⟨rfl, Or.inr (Or.inr (Or.inr (Or.inl rfl))), _, rfl⟩) (hb hby d_method_4_code_78) hlk (Nat.le_of_ble_eq_true rfl) (Nat.le_of_ble_eq_true rfl) (by show Q_own_pick Z pv kx sm h0 _ s₁.heap _; rw [e0]; exact ⟨((((65535 : Int32) - ((((((pv).toUInt64 >>> (((16 : Int32) * kx) &&& 0x3f).toInt64.toUInt64).toInt64 &&& (65535 : Int64))).toInt32) &&& (3 : Int32)))).toUInt32.toUInt16.toUInt32.toInt32), rfl, N0, rfl, (own_chC _)⟩)
theorem ef_own_chars (m : MethodId) (x0 : Int64) (x1 : Int32) (x2 : Int32) : entryFrame m #[(.long x0), (.int x1), (.int x2)] 5 = mkF m 0 #[.val (.long x0), .second, .val (.int x1), .val (.int x2), .unset] [] := by first | (simp [entryFrame, mkF, argsToLocals, Value.category]; done) | rfl
theorem pf_own_chars : plainFor own_m13 = true := plainFor_of_name (by simp [plainName, overriddenIn])
theorem pd_1787952966 : parseMethodDescriptor "(JIZ)C" = some ⟨[.long, .int, .boolean], some .char⟩ := by decide +kernel
theorem d_method_5_code_0 : decode method_5_code 0 = .ok (.iload_n 2, 1) := by decide +kernel
theorem d_method_5_code_1 : decode method_5_code 1 = .ok (.newarray .char, 2) := by decide +kernel
theorem d_method_5_code_11 : decode method_5_code 11 = .ok (.iconst 0, 1) := by decide +kernel
theorem d_method_5_code_12 : decode method_5_code 12 = .ok (.lload_n 0, 1) := by decide +kernel
theorem d_method_5_code_13 : decode method_5_code 13 = .ok (.iconst 0, 1) := by decide +kernel
theorem d_method_5_code_14 : decode method_5_code 14 = .ok (.iload_n 3, 1) := by decide +kernel
theorem d_method_5_code_15 : decode method_5_code 15 = .ok (.invokestatic 47, 3) := by decide +kernel
theorem d_method_5_code_18 : decode method_5_code 18 = .ok (.castore, 1) := by decide +kernel
theorem d_method_5_code_19 : decode method_5_code 19 = .ok (.iload_n 2, 1) := by decide +kernel
theorem d_method_5_code_20 : decode method_5_code 20 = .ok (.iconst 1, 1) := by decide +kernel
theorem d_method_5_code_21 : decode method_5_code 21 = .ok (.if_icmp .le 13, 3) := by decide +kernel
theorem d_method_5_code_24 : decode method_5_code 24 = .ok (.aload 4, 2) := by decide +kernel
theorem d_method_5_code_26 : decode method_5_code 26 = .ok (.iconst 1, 1) := by decide +kernel
theorem d_method_5_code_27 : decode method_5_code 27 = .ok (.lload_n 0, 1) := by decide +kernel
theorem d_method_5_code_28 : decode method_5_code 28 = .ok (.iconst 1, 1) := by decide +kernel
theorem d_method_5_code_29 : decode method_5_code 29 = .ok (.iload_n 3, 1) := by decide +kernel
theorem d_method_5_code_3 : decode method_5_code 3 = .ok (.astore 4, 2) := by decide +kernel
theorem d_method_5_code_30 : decode method_5_code 30 = .ok (.invokestatic 47, 3) := by decide +kernel
theorem d_method_5_code_33 : decode method_5_code 33 = .ok (.castore, 1) := by decide +kernel
theorem d_method_5_code_34 : decode method_5_code 34 = .ok (.iload_n 2, 1) := by decide +kernel
theorem d_method_5_code_35 : decode method_5_code 35 = .ok (.iconst 2, 1) := by decide +kernel
theorem d_method_5_code_36 : decode method_5_code 36 = .ok (.if_icmp .le 13, 3) := by decide +kernel
theorem d_method_5_code_39 : decode method_5_code 39 = .ok (.aload 4, 2) := by decide +kernel
theorem d_method_5_code_41 : decode method_5_code 41 = .ok (.iconst 2, 1) := by decide +kernel
theorem d_method_5_code_42 : decode method_5_code 42 = .ok (.lload_n 0, 1) := by decide +kernel
theorem d_method_5_code_43 : decode method_5_code 43 = .ok (.iconst 2, 1) := by decide +kernel
theorem d_method_5_code_44 : decode method_5_code 44 = .ok (.iload_n 3, 1) := by decide +kernel
theorem d_method_5_code_45 : decode method_5_code 45 = .ok (.invokestatic 47, 3) := by decide +kernel
theorem d_method_5_code_48 : decode method_5_code 48 = .ok (.castore, 1) := by decide +kernel
theorem d_method_5_code_49 : decode method_5_code 49 = .ok (.aload 4, 2) := by decide +kernel
theorem d_method_5_code_5 : decode method_5_code 5 = .ok (.iload_n 2, 1) := by decide +kernel
theorem d_method_5_code_51 : decode method_5_code 51 = .ok (.areturn, 1) := by decide +kernel
theorem d_method_5_code_6 : decode method_5_code 6 = .ok (.ifCond .le 13, 3) := by decide +kernel
theorem d_method_5_code_9 : decode method_5_code 9 = .ok (.aload 4, 2) := by decide +kernel
def Q_own_chars (Z : State) (pv : Int64) (n : Int32) (sm : Int32) (h0 : Heap) (v : Option Value) (h : Heap) (L : List Loc) : Prop := ∃ arr : Addr, ∃ kk : ClassId, ∃ cs : (List Int32), v = some (.ref arr) ∧ Fr Z.heap.size L ∧ Keep h0 h [] ∧ (own_A Z h arr kk .char (own_cv cs)) ∧ (h0.size ≤ arr) ∧ (own_chs cs) ∧ (cs.length ≤ 3)
set_option maxRecDepth 65536 in
set_option maxHeartbeats 40000000 in
theorem own_chars (l : Launch) (Z : State) (a0 : Array Value) (hw : ∀ d ∈ tables_1, d.before a0 Z = true) (ws : List Jvm.Cond) (pv : Int64) (n : Int32) (sm : Int32) (h0 : Heap) (O0 : Ext Z.heap h0) (hn : n = 0 ∨ n = 1 ∨ n = 2 ∨ n = 3) :
    MetFree l own_m13 (head1 (Jvm.Cond.code own_m13 method_5_code 5 (some (.array .char)) :: ws) ({ frames := 1, cells := 1, slots := 3, locals := 20 } : Room)) (fun aa U => aa = #[(.long pv), (.int n), (.int sm)] ∧ Z.Warmed39 U.vm ∧ U.heap = h0) (fun _ _ _ _ _ => True) (fun _ U o U' => ∃ v L, o = .returned v ∧ Q_own_chars Z pv n sm h0 v U'.heap L ∧ FrameEnd U o U' L ({ frames := 1, cells := 1, slots := 3, locals := 20 } : Room).cells ({ frames := 1, cells := 1, slots := 3, locals := 20 } : Room).slots) := by
  refine MetFree.of_bodySF pf_own_chars hisR ?_
  intro p e s m args below meth c s₁ Bd hml0 hP hK
  obtain ⟨rfl, hZ, hh⟩ := hP
  have hx := Bd.exec
  have hby := Bd.bytes
  have hlk := BodyLoose.notSynchronized Bd
  have hml : c.maxLocals = 5 := hml0
  have hown : s.vm.findClass own_s2 = some m.cls := findClass_of_methodNamed Bd.named
  have hnm := (name_of_methodNamed Bd.named Bd.method).1
  have X0 : Stand p l e ({ frames := 1, cells := 1, slots := 3, locals := 20 } : Room) s m #[(.long pv), (.int n), (.int sm)] below meth c s₁ [] 0 0 := Stand.of_body Bd
  have e0 : s₁.heap = h0 := by rw [← hh, Bd.state]; rfl
  have N0 := Fr.nil Z.heap.size
  have K0 : Keep h0 h0 [] := Keep.refl _ _
  refine own_start (Q := Q_own_chars Z pv n sm h0) (ef_own_chars m (pv) (n) (sm)) ?_
  show own_G p e below (s₁.setTop (mkF m 0 #[.val (.long pv), .second, .val (.int n), .val (.int sm), .unset] [])) _
  rcases hn with rfl | rfl | rfl | rfl
  · show own_G p e below (s₁.setTop (mkF m 0 #[.val (.long pv), .second, .val (.int (0 : Int32)), .val (.int sm), .unset] [])) _
    refine own_go (fun t k => XS.iloadN X0.here hx rfl (hb hby d_method_5_code_0) rfl k) ?_
    obtain ⟨T1z, h1z, kc1z, X1z, e1z, E1z, V1z, st1z⟩ := own_newP X0 hx hZ (own_hw hw 45 rfl) e0 (g := (mkF m 1 #[.val (.long pv), .second, .val (.int (0 : Int32)), .val (.int sm), .unset] [(.int (0 : Int32))])) rfl (hb hby d_method_5_code_1) rfl (i := 0) (by decide) (cap := 0) (by decide) (by decide) (by decide) (by decide)
    obtain ⟨b1z, g1z⟩ : ∃ z, z = h0.size := ⟨_, rfl⟩
    rw [← g1z] at V1z st1z
    have fr_b1z : Z.heap.size ≤ b1z := g1z ▸ O0.1
    have lz_b1z : h0.size ≤ b1z := g1z ▸ K0.1
    have O2z := own_ext_trans O0 E1z
    have K2z := K0.ext E1z
    have V1z : own_A Z h1z b1z kc1z .char [] := V1z
    refine own_go st1z ?_
    refine own_go (fun t k => XS.astore X1z.here hx rfl (hb hby d_method_5_code_3) rfl rfl (l' := #[.val (.long pv), .second, .val (.int (0 : Int32)), .val (.int sm), .val (.ref b1z)]) rfl k) ?_
    show own_G p e below (T1z.setTop (mkF m 5 #[.val (.long pv), .second, .val (.int (0 : Int32)), .val (.int sm), .val (.ref b1z)] [])) _
    refine own_go (fun t k => XS.iloadN X1z.here hx rfl (hb hby d_method_5_code_5) rfl k) ?_
    refine own_go (fun t k => XS.ifYes X1z.here hx rfl (pc0 := 6) (pc' := 19) rfl (hb hby d_method_5_code_6) rfl ((if0 _ _).trans (flt (by decide : ¬ ((0 : Int32) < (0 : Int32)))).2.2.2) (by decide) (by decide) k) ?_
    show own_G p e below (T1z.setTop (mkF m 19 #[.val (.long pv), .second, .val (.int (0 : Int32)), .val (.int sm), .val (.ref b1z)] [])) _
    refine own_go (fun t k => XS.iloadN X1z.here hx rfl (hb hby d_method_5_code_19) rfl k) ?_
    refine own_go (fun t k => XS.iconst X1z.here hx rfl (hb hby d_method_5_code_20) k) ?_
    refine own_go (fun t k => XS.icmpYes X1z.here hx rfl (pc0 := 21) (pc' := 34) rfl (hb hby d_method_5_code_21) rfl (flt (by decide : ¬ ((1 : Int32) < (0 : Int32)))).2.2.2 (by decide) (by decide) k) ?_
    show own_G p e below (T1z.setTop (mkF m 34 #[.val (.long pv), .second, .val (.int (0 : Int32)), .val (.int sm), .val (.ref b1z)] [])) _
    refine own_go (fun t k => XS.iloadN X1z.here hx rfl (hb hby d_method_5_code_34) rfl k) ?_
    refine own_go (fun t k => XS.iconst X1z.here hx rfl (hb hby d_method_5_code_35) k) ?_
    refine own_go (fun t k => XS.icmpYes X1z.here hx rfl (pc0 := 36) (pc' := 49) rfl (hb hby d_method_5_code_36) rfl (flt (by decide : ¬ ((2 : Int32) < (0 : Int32)))).2.2.2 (by decide) (by decide) k) ?_
    show own_G p e below (T1z.setTop (mkF m 49 #[.val (.long pv), .second, .val (.int (0 : Int32)), .val (.int sm), .val (.ref b1z)] [])) _
    refine own_go (fun t k => XS.aload X1z.here hx rfl (hb hby d_method_5_code_49) rfl rfl k) ?_
    exact own_ret X1z hx Bd.returns rfl (Or.inr (Or.inr (Or.inr (Or.inr ⟨rfl, rfl, rfl⟩)))) (hb hby d_method_5_code_51) hlk (Nat.le_of_ble_eq_true rfl) (Nat.le_of_ble_eq_true rfl) (by show Q_own_chars Z pv (0 : Int32) sm h0 _ T1z.heap _; rw [e1z]; exact ⟨b1z, kc1z, [], rfl, N0, K2z, V1z, lz_b1z, own_chs_nil, (by simp)⟩)
  · show own_G p e below (s₁.setTop (mkF m 0 #[.val (.long pv), .second, .val (.int (1 : Int32)), .val (.int sm), .unset] [])) _
    refine own_go (fun t k => XS.iloadN X0.here hx rfl (hb hby d_method_5_code_0) rfl k) ?_
    obtain ⟨T3z, h3z, kc3z, X3z, e3z, E3z, V3z, st3z⟩ := own_newP X0 hx hZ (own_hw hw 45 rfl) e0 (g := (mkF m 1 #[.val (.long pv), .second, .val (.int (1 : Int32)), .val (.int sm), .unset] [(.int (1 : Int32))])) rfl (hb hby d_method_5_code_1) rfl (i := 1) (by decide) (cap := 1) (by decide) (by decide) (by decide) (by decide)
    obtain ⟨b3z, g3z⟩ : ∃ z, z = h0.size := ⟨_, rfl⟩
    rw [← g3z] at V3z st3z
    have fr_b3z : Z.heap.size ≤ b3z := g3z ▸ O0.1
    have lz_b3z : h0.size ≤ b3z := g3z ▸ K0.1
    have O4z := own_ext_trans O0 E3z
    have K4z := K0.ext E3z
    have V3z : own_A Z h3z b3z kc3z .char [(.int (0 : Int32))] := V3z
    refine own_go st3z ?_
    refine own_go (fun t k => XS.astore X3z.here hx rfl (hb hby d_method_5_code_3) rfl rfl (l' := #[.val (.long pv), .second, .val (.int (1 : Int32)), .val (.int sm), .val (.ref b3z)]) rfl k) ?_
    show own_G p e below (T3z.setTop (mkF m 5 #[.val (.long pv), .second, .val (.int (1 : Int32)), .val (.int sm), .val (.ref b3z)] [])) _
    refine own_go (fun t k => XS.iloadN X3z.here hx rfl (hb hby d_method_5_code_5) rfl k) ?_
    refine own_go (fun t k => XS.ifNo X3z.here hx rfl (hb hby d_method_5_code_6) rfl ((if0 _ _).trans (tlt (by decide : (0 : Int32) < (1 : Int32))).2.2.2) k) ?_
    show own_G p e below (T3z.setTop (mkF m 9 #[.val (.long pv), .second, .val (.int (1 : Int32)), .val (.int sm), .val (.ref b3z)] [])) _
    refine own_go (fun t k => XS.aload X3z.here hx rfl (hb hby d_method_5_code_9) rfl rfl k) ?_
    refine own_go (fun t k => XS.iconst X3z.here hx rfl (hb hby d_method_5_code_11) k) ?_
    refine own_go (fun t k => XS.lloadN X3z.here hx rfl (hb hby d_method_5_code_12) rfl k) ?_
    show own_G p e below (T3z.setTop (mkF m 13 #[.val (.long pv), .second, .val (.int (1 : Int32)), .val (.int sm), .val (.ref b3z)] [(.long pv), (.int (0 : Int32)), (.ref b3z)])) _
    refine own_go (fun t k => XS.iconst X3z.here hx rfl (hb hby d_method_5_code_13) k) ?_
    refine own_go (fun t k => XS.iloadN X3z.here hx rfl (hb hby d_method_5_code_14) rfl k) ?_
    obtain ⟨_, _, ⟨T5z, L5z, k5z, n5z⟩, -, X5z, ⟨Lc5z, hQ5z, l5z, y5z, z5z⟩, st5z⟩ := Jvm.LawKit.callS X3z hx (y := own_m12) hown (own_mw hZ hw 46 rfl) (own_mw hZ hw 47 rfl) (own_mw hZ hw 26 rfl) (own_mw hZ hw 48 rfl) (by decide) (backOf (W := 2) (own_pick l Z a0 hw [] pv (0 : Int32) sm h3z O4z) hZ (own_hw hw 48 rfl) (own_hw hw 26 rfl) (by decide) (by decide)) (g := (mkF m 15 #[.val (.long pv), .second, .val (.int (1 : Int32)), .val (.int sm), .val (.ref b3z)] [(.int sm), (.int (0 : Int32)), (.long pv), (.int (0 : Int32)), (.ref b3z)])) rfl (by rw [hml]; rfl) (argsL := [(.long pv), (.int (0 : Int32)), (.int sm)]) (rest := [(.int (0 : Int32)), (.ref b3z)]) (lenOf pd_1787952966 rfl) rfl (by show 2 * 0 + _ ≤ _; exact Nat.le_of_eq rfl) (hb hby d_method_5_code_15) (fun _ _ => ⟨rfl, e3z, (by decide : 1 + 0 ≤ _), (by decide : 1 + 0 ≤ _)⟩)
    dsimp only [Pt.U, Pt.locs, Pt.cells, Pt.slots] at X5z l5z y5z z5z st5z hQ5z
    subst l5z y5z z5z
    obtain ⟨ch_5z, rfl, NQ5z, K5zq, r5z_0⟩ := hQ5z
    refine own_go st5z ?_
    have N5z := Fr.app N0 NQ5z
    show own_G p e below (T5z.setTop (mkF m 18 #[.val (.long pv), .second, .val (.int (1 : Int32)), .val (.int sm), .val (.ref b3z)] [(.int ch_5z), (.int (0 : Int32)), (.ref b3z)])) _
    obtain ⟨T6z, h6z, X6z, e6z, W6z, V6z, st6z⟩ := own_stC X5z hx hZ K5zq V3z (i := 0) (y := ch_5z) (own_narC r5z_0) (by decide) (Nat.le_of_ble_eq_true rfl) (g := (mkF m 18 #[.val (.long pv), .second, .val (.int (1 : Int32)), .val (.int sm), .val (.ref b3z)] [(.int ch_5z), (.int (0 : Int32)), (.ref b3z)])) rfl rfl (hb hby d_method_5_code_18)
    refine own_go st6z ?_
    have N6z := Fr.snoc X6z N5z fr_b3z
    have O7z := own_ext_wr O4z W6z fr_b3z
    have K7z := K4z.wr W6z (Or.inr lz_b3z)
    have V6z : own_A Z h6z b3z kc3z .char [(.int ch_5z)] := V6z
    refine own_go (fun t k => XS.iloadN X6z.here hx rfl (hb hby d_method_5_code_19) rfl k) ?_
    refine own_go (fun t k => XS.iconst X6z.here hx rfl (hb hby d_method_5_code_20) k) ?_
    show own_G p e below (T6z.setTop (mkF m 21 #[.val (.long pv), .second, .val (.int (1 : Int32)), .val (.int sm), .val (.ref b3z)] [(.int (1 : Int32)), (.int (1 : Int32))])) _
    refine own_go (fun t k => XS.icmpYes X6z.here hx rfl (pc0 := 21) (pc' := 34) rfl (hb hby d_method_5_code_21) rfl (flt (by decide : ¬ ((1 : Int32) < (1 : Int32)))).2.2.2 (by decide) (by decide) k) ?_
    show own_G p e below (T6z.setTop (mkF m 34 #[.val (.long pv), .second, .val (.int (1 : Int32)), .val (.int sm), .val (.ref b3z)] [])) _
    refine own_go (fun t k => XS.iloadN X6z.here hx rfl (hb hby d_method_5_code_34) rfl k) ?_
    refine own_go (fun t k => XS.iconst X6z.here hx rfl (hb hby d_method_5_code_35) k) ?_
    refine own_go (fun t k => XS.icmpYes X6z.here hx rfl (pc0 := 36) (pc' := 49) rfl (hb hby d_method_5_code_36) rfl (flt (by decide : ¬ ((2 : Int32) < (1 : Int32)))).2.2.2 (by decide) (by decide) k) ?_
    show own_G p e below (T6z.setTop (mkF m 49 #[.val (.long pv), .second, .val (.int (1 : Int32)), .val (.int sm), .val (.ref b3z)] [])) _
    refine own_go (fun t k => XS.aload X6z.here hx rfl (hb hby d_method_5_code_49) rfl rfl k) ?_
    exact own_ret X6z hx Bd.returns rfl (Or.inr (Or.inr (Or.inr (Or.inr ⟨rfl, rfl, rfl⟩)))) (hb hby d_method_5_code_51) hlk (Nat.le_of_ble_eq_true rfl) (Nat.le_of_ble_eq_true rfl) (by show Q_own_chars Z pv (1 : Int32) sm h0 _ T6z.heap _; rw [e6z]; exact ⟨b3z, kc3z, [ch_5z], rfl, N6z, K7z, V6z, lz_b3z, (own_chs_cons r5z_0 own_chs_nil), (by simp)⟩)
  · show own_G p e below (s₁.setTop (mkF m 0 #[.val (.long pv), .second, .val (.int (2 : Int32)), .val (.int sm), .unset] [])) _
    refine own_go (fun t k => XS.iloadN X0.here hx rfl (hb hby d_method_5_code_0) rfl k) ?_
    obtain ⟨T8z, h8z, kc8z, X8z, e8z, E8z, V8z, st8z⟩ := own_newP X0 hx hZ (own_hw hw 45 rfl) e0 (g := (mkF m 1 #[.val (.long pv), .second, .val (.int (2 : Int32)), .val (.int sm), .unset] [(.int (2 : Int32))])) rfl (hb hby d_method_5_code_1) rfl (i := 2) (by decide) (cap := 2) (by decide) (by decide) (by decide) (by decide)
    obtain ⟨b8z, g8z⟩ : ∃ z, z = h0.size := ⟨_, rfl⟩
    rw [← g8z] at V8z st8z
    have fr_b8z : Z.heap.size ≤ b8z := g8z ▸ O0.1
    have lz_b8z : h0.size ≤ b8z := g8z ▸ K0.1
    have O9z := own_ext_trans O0 E8z
    have K9z := K0.ext E8z
    have V8z : own_A Z h8z b8z kc8z .char [(.int (0 : Int32)), (.int (0 : Int32))] := V8z
    refine own_go st8z ?_
    refine own_go (fun t k => XS.astore X8z.here hx rfl (hb hby d_method_5_code_3) rfl rfl (l' := #[.val (.long pv), .second, .val (.int (2 : Int32)), .val (.int sm), .val (.ref b8z)]) rfl k) ?_
    show own_G p e below (T8z.setTop (mkF m 5 #[.val (.long pv), .second, .val (.int (2 : Int32)), .val (.int sm), .val (.ref b8z)] [])) _
    refine own_go (fun t k => XS.iloadN X8z.here hx rfl (hb hby d_method_5_code_5) rfl k) ?_
    refine own_go (fun t k => XS.ifNo X8z.here hx rfl (hb hby d_method_5_code_6) rfl ((if0 _ _).trans (tlt (by decide : (0 : Int32) < (2 : Int32))).2.2.2) k) ?_
    show own_G p e below (T8z.setTop (mkF m 9 #[.val (.long pv), .second, .val (.int (2 : Int32)), .val (.int sm), .val (.ref b8z)] [])) _
    refine own_go (fun t k => XS.aload X8z.here hx rfl (hb hby d_method_5_code_9) rfl rfl k) ?_
    refine own_go (fun t k => XS.iconst X8z.here hx rfl (hb hby d_method_5_code_11) k) ?_
    refine own_go (fun t k => XS.lloadN X8z.here hx rfl (hb hby d_method_5_code_12) rfl k) ?_
    show own_G p e below (T8z.setTop (mkF m 13 #[.val (.long pv), .second, .val (.int (2 : Int32)), .val (.int sm), .val (.ref b8z)] [(.long pv), (.int (0 : Int32)), (.ref b8z)])) _
    refine own_go (fun t k => XS.iconst X8z.here hx rfl (hb hby d_method_5_code_13) k) ?_
    refine own_go (fun t k => XS.iloadN X8z.here hx rfl (hb hby d_method_5_code_14) rfl k) ?_
    obtain ⟨_, _, ⟨T10z, L10z, k10z, n10z⟩, -, X10z, ⟨Lc10z, hQ10z, l10z, y10z, z10z⟩, st10z⟩ := Jvm.LawKit.callS X8z hx (y := own_m12) hown (own_mw hZ hw 46 rfl) (own_mw hZ hw 47 rfl) (own_mw hZ hw 26 rfl) (own_mw hZ hw 48 rfl) (by decide) (backOf (W := 2) (own_pick l Z a0 hw [] pv (0 : Int32) sm h8z O9z) hZ (own_hw hw 48 rfl) (own_hw hw 26 rfl) (by decide) (by decide)) (g := (mkF m 15 #[.val (.long pv), .second, .val (.int (2 : Int32)), .val (.int sm), .val (.ref b8z)] [(.int sm), (.int (0 : Int32)), (.long pv), (.int (0 : Int32)), (.ref b8z)])) rfl (by rw [hml]; rfl) (argsL := [(.long pv), (.int (0 : Int32)), (.int sm)]) (rest := [(.int (0 : Int32)), (.ref b8z)]) (lenOf pd_1787952966 rfl) rfl (by show 2 * 0 + _ ≤ _; exact Nat.le_of_eq rfl) (hb hby d_method_5_code_15) (fun _ _ => ⟨rfl, e8z, (by decide : 1 + 0 ≤ _), (by decide : 2 + 0 ≤ _)⟩)
    dsimp only [Pt.U, Pt.locs, Pt.cells, Pt.slots] at X10z l10z y10z z10z st10z hQ10z
    subst l10z y10z z10z
    obtain ⟨ch_10z, rfl, NQ10z, K10zq, r10z_0⟩ := hQ10z
    refine own_go st10z ?_
    have N10z := Fr.app N0 NQ10z
    show own_G p e below (T10z.setTop (mkF m 18 #[.val (.long pv), .second, .val (.int (2 : Int32)), .val (.int sm), .val (.ref b8z)] [(.int ch_10z), (.int (0 : Int32)), (.ref b8z)])) _
    obtain ⟨T11z, h11z, X11z, e11z, W11z, V11z, st11z⟩ := own_stC X10z hx hZ K10zq V8z (i := 0) (y := ch_10z) (own_narC r10z_0) (by decide) (Nat.le_of_ble_eq_true rfl) (g := (mkF m 18 #[.val (.long pv), .second, .val (.int (2 : Int32)), .val (.int sm), .val (.ref b8z)] [(.int ch_10z), (.int (0 : Int32)), (.ref b8z)])) rfl rfl (hb hby d_method_5_code_18)
    refine own_go st11z ?_
    have N11z := Fr.snoc X11z N10z fr_b8z
    have O12z := own_ext_wr O9z W11z fr_b8z
    have K12z := K9z.wr W11z (Or.inr lz_b8z)
    have V11z : own_A Z h11z b8z kc8z .char [(.int ch_10z), (.int (0 : Int32))] := V11z
    refine own_go (fun t k => XS.iloadN X11z.here hx rfl (hb hby d_method_5_code_19) rfl k) ?_
    refine own_go (fun t k => XS.iconst X11z.here hx rfl (hb hby d_method_5_code_20) k) ?_
    show own_G p e below (T11z.setTop (mkF m 21 #[.val (.long pv), .second, .val (.int (2 : Int32)), .val (.int sm), .val (.ref b8z)] [(.int (1 : Int32)), (.int (2 : Int32))])) _
    refine own_go (fun t k => XS.icmpNo X11z.here hx rfl (hb hby d_method_5_code_21) rfl (tlt (by decide : (1 : Int32) < (2 : Int32))).2.2.2 k) ?_
    show own_G p e below (T11z.setTop (mkF m 24 #[.val (.long pv), .second, .val (.int (2 : Int32)), .val (.int sm), .val (.ref b8z)] [])) _
    refine own_go (fun t k => XS.aload X11z.here hx rfl (hb hby d_method_5_code_24) rfl rfl k) ?_
    refine own_go (fun t k => XS.iconst X11z.here hx rfl (hb hby d_method_5_code_26) k) ?_
    refine own_go (fun t k => XS.lloadN X11z.here hx rfl (hb hby d_method_5_code_27) rfl k) ?_
    show own_G p e below (T11z.setTop (mkF m 28 #[.val (.long pv), .second, .val (.int (2 : Int32)), .val (.int sm), .val (.ref b8z)] [(.long pv), (.int (1 : Int32)), (.ref b8z)])) _
    refine own_go (fun t k => XS.iconst X11z.here hx rfl (hb hby d_method_5_code_28) k) ?_
    refine own_go (fun t k => XS.iloadN X11z.here hx rfl (hb hby d_method_5_code_29) rfl k) ?_
    obtain ⟨_, _, ⟨T13z, L13z, k13z, n13z⟩, -, X13z, ⟨Lc13z, hQ13z, l13z, y13z, z13z⟩, st13z⟩ := Jvm.LawKit.callS X11z hx (y := own_m12) hown (own_mw hZ hw 46 rfl) (own_mw hZ hw 47 rfl) (own_mw hZ hw 26 rfl) (own_mw hZ hw 48 rfl) (by decide) (backOf (W := 2) (own_pick l Z a0 hw [] pv (1 : Int32) sm h11z O12z) hZ (own_hw hw 48 rfl) (own_hw hw 26 rfl) (by decide) (by decide)) (g := (mkF m 30 #[.val (.long pv), .second, .val (.int (2 : Int32)), .val (.int sm), .val (.ref b8z)] [(.int sm), (.int (1 : Int32)), (.long pv), (.int (1 : Int32)), (.ref b8z)])) rfl (by rw [hml]; rfl) (argsL := [(.long pv), (.int (1 : Int32)), (.int sm)]) (rest := [(.int (1 : Int32)), (.ref b8z)]) (lenOf pd_1787952966 rfl) rfl (by show 2 * 0 + _ ≤ _; exact Nat.le_of_eq rfl) (hb hby d_method_5_code_30) (fun _ _ => ⟨rfl, e11z, (by decide : 1 + 0 ≤ _), (by decide : 2 + 0 ≤ _)⟩)
    dsimp only [Pt.U, Pt.locs, Pt.cells, Pt.slots] at X13z l13z y13z z13z st13z hQ13z
    subst l13z y13z z13z
    obtain ⟨ch_13z, rfl, NQ13z, K13zq, r13z_0⟩ := hQ13z
    refine own_go st13z ?_
    have N13z := Fr.app N11z NQ13z
    show own_G p e below (T13z.setTop (mkF m 33 #[.val (.long pv), .second, .val (.int (2 : Int32)), .val (.int sm), .val (.ref b8z)] [(.int ch_13z), (.int (1 : Int32)), (.ref b8z)])) _
    obtain ⟨T14z, h14z, X14z, e14z, W14z, V14z, st14z⟩ := own_stC X13z hx hZ K13zq V11z (i := 1) (y := ch_13z) (own_narC r13z_0) (by decide) (Nat.le_of_ble_eq_true rfl) (g := (mkF m 33 #[.val (.long pv), .second, .val (.int (2 : Int32)), .val (.int sm), .val (.ref b8z)] [(.int ch_13z), (.int (1 : Int32)), (.ref b8z)])) rfl rfl (hb hby d_method_5_code_33)
    refine own_go st14z ?_
    have N14z := Fr.snoc X14z N13z fr_b8z
    have O15z := own_ext_wr O12z W14z fr_b8z
    have K15z := K12z.wr W14z (Or.inr lz_b8z)
    have V14z : own_A Z h14z b8z kc8z .char [(.int ch_10z), (.int ch_13z)] := V14z
    refine own_go (fun t k => XS.iloadN X14z.here hx rfl (hb hby d_method_5_code_34) rfl k) ?_
    refine own_go (fun t k => XS.iconst X14z.here hx rfl (hb hby d_method_5_code_35) k) ?_
    show own_G p e below (T14z.setTop (mkF m 36 #[.val (.long pv), .second, .val (.int (2 : Int32)), .val (.int sm), .val (.ref b8z)] [(.int (2 : Int32)), (.int (2 : Int32))])) _
    refine own_go (fun t k => XS.icmpYes X14z.here hx rfl (pc0 := 36) (pc' := 49) rfl (hb hby d_method_5_code_36) rfl (flt (by decide : ¬ ((2 : Int32) < (2 : Int32)))).2.2.2 (by decide) (by decide) k) ?_
    show own_G p e below (T14z.setTop (mkF m 49 #[.val (.long pv), .second, .val (.int (2 : Int32)), .val (.int sm), .val (.ref b8z)] [])) _
    refine own_go (fun t k => XS.aload X14z.here hx rfl (hb hby d_method_5_code_49) rfl rfl k) ?_
    exact own_ret X14z hx Bd.returns rfl (Or.inr (Or.inr (Or.inr (Or.inr ⟨rfl, rfl, rfl⟩)))) (hb hby d_method_5_code_51) hlk (Nat.le_of_ble_eq_true rfl) (Nat.le_of_ble_eq_true rfl) (by show Q_own_chars Z pv (2 : Int32) sm h0 _ T14z.heap _; rw [e14z]; exact ⟨b8z, kc8z, [ch_10z, ch_13z], rfl, N14z, K15z, V14z, lz_b8z, (own_chs_cons r10z_0 (own_chs_cons r13z_0 own_chs_nil)), (by simp)⟩)
  · show own_G p e below (s₁.setTop (mkF m 0 #[.val (.long pv), .second, .val (.int (3 : Int32)), .val (.int sm), .unset] [])) _
    refine own_go (fun t k => XS.iloadN X0.here hx rfl (hb hby d_method_5_code_0) rfl k) ?_
    obtain ⟨T16z, h16z, kc16z, X16z, e16z, E16z, V16z, st16z⟩ := own_newP X0 hx hZ (own_hw hw 45 rfl) e0 (g := (mkF m 1 #[.val (.long pv), .second, .val (.int (3 : Int32)), .val (.int sm), .unset] [(.int (3 : Int32))])) rfl (hb hby d_method_5_code_1) rfl (i := 3) (by decide) (cap := 3) (by decide) (by decide) (by decide) (by decide)
    obtain ⟨b16z, g16z⟩ : ∃ z, z = h0.size := ⟨_, rfl⟩
    rw [← g16z] at V16z st16z
    have fr_b16z : Z.heap.size ≤ b16z := g16z ▸ O0.1
    have lz_b16z : h0.size ≤ b16z := g16z ▸ K0.1
    have O17z := own_ext_trans O0 E16z
    have K17z := K0.ext E16z
    have V16z : own_A Z h16z b16z kc16z .char [(.int (0 : Int32)), (.int (0 : Int32)), (.int (0 : Int32))] := V16z
    refine own_go st16z ?_
    refine own_go (fun t k => XS.astore X16z.here hx rfl (hb hby d_method_5_code_3) rfl rfl (l' := #[.val (.long pv), .second, .val (.int (3 : Int32)), .val (.int sm), .val (.ref b16z)]) rfl k) ?_
    show own_G p e below (T16z.setTop (mkF m 5 #[.val (.long pv), .second, .val (.int (3 : Int32)), .val (.int sm), .val (.ref b16z)] [])) _
    refine own_go (fun t k => XS.iloadN X16z.here hx rfl (hb hby d_method_5_code_5) rfl k) ?_
    refine own_go (fun t k => XS.ifNo X16z.here hx rfl (hb hby d_method_5_code_6) rfl ((if0 _ _).trans (tlt (by decide : (0 : Int32) < (3 : Int32))).2.2.2) k) ?_
    show own_G p e below (T16z.setTop (mkF m 9 #[.val (.long pv), .second, .val (.int (3 : Int32)), .val (.int sm), .val (.ref b16z)] [])) _
    refine own_go (fun t k => XS.aload X16z.here hx rfl (hb hby d_method_5_code_9) rfl rfl k) ?_
    refine own_go (fun t k => XS.iconst X16z.here hx rfl (hb hby d_method_5_code_11) k) ?_
    refine own_go (fun t k => XS.lloadN X16z.here hx rfl (hb hby d_method_5_code_12) rfl k) ?_
    show own_G p e below (T16z.setTop (mkF m 13 #[.val (.long pv), .second, .val (.int (3 : Int32)), .val (.int sm), .val (.ref b16z)] [(.long pv), (.int (0 : Int32)), (.ref b16z)])) _
    refine own_go (fun t k => XS.iconst X16z.here hx rfl (hb hby d_method_5_code_13) k) ?_
    refine own_go (fun t k => XS.iloadN X16z.here hx rfl (hb hby d_method_5_code_14) rfl k) ?_
    obtain ⟨_, _, ⟨T18z, L18z, k18z, n18z⟩, -, X18z, ⟨Lc18z, hQ18z, l18z, y18z, z18z⟩, st18z⟩ := Jvm.LawKit.callS X16z hx (y := own_m12) hown (own_mw hZ hw 46 rfl) (own_mw hZ hw 47 rfl) (own_mw hZ hw 26 rfl) (own_mw hZ hw 48 rfl) (by decide) (backOf (W := 2) (own_pick l Z a0 hw [] pv (0 : Int32) sm h16z O17z) hZ (own_hw hw 48 rfl) (own_hw hw 26 rfl) (by decide) (by decide)) (g := (mkF m 15 #[.val (.long pv), .second, .val (.int (3 : Int32)), .val (.int sm), .val (.ref b16z)] [(.int sm), (.int (0 : Int32)), (.long pv), (.int (0 : Int32)), (.ref b16z)])) rfl (by rw [hml]; rfl) (argsL := [(.long pv), (.int (0 : Int32)), (.int sm)]) (rest := [(.int (0 : Int32)), (.ref b16z)]) (lenOf pd_1787952966 rfl) rfl (by show 2 * 0 + _ ≤ _; exact Nat.le_of_eq rfl) (hb hby d_method_5_code_15) (fun _ _ => ⟨rfl, e16z, (by decide : 1 + 0 ≤ _), (by decide : 3 + 0 ≤ _)⟩)
    dsimp only [Pt.U, Pt.locs, Pt.cells, Pt.slots] at X18z l18z y18z z18z st18z hQ18z
    subst l18z y18z z18z
    obtain ⟨ch_18z, rfl, NQ18z, K18zq, r18z_0⟩ := hQ18z
    refine own_go st18z ?_
    have N18z := Fr.app N0 NQ18z
    show own_G p e below (T18z.setTop (mkF m 18 #[.val (.long pv), .second, .val (.int (3 : Int32)), .val (.int sm), .val (.ref b16z)] [(.int ch_18z), (.int (0 : Int32)), (.ref b16z)])) _
    obtain ⟨T19z, h19z, X19z, e19z, W19z, V19z, st19z⟩ := own_stC X18z hx hZ K18zq V16z (i := 0) (y := ch_18z) (own_narC r18z_0) (by decide) (Nat.le_of_ble_eq_true rfl) (g := (mkF m 18 #[.val (.long pv), .second, .val (.int (3 : Int32)), .val (.int sm), .val (.ref b16z)] [(.int ch_18z), (.int (0 : Int32)), (.ref b16z)])) rfl rfl (hb hby d_method_5_code_18)
    refine own_go st19z ?_
    have N19z := Fr.snoc X19z N18z fr_b16z
    have O20z := own_ext_wr O17z W19z fr_b16z
    have K20z := K17z.wr W19z (Or.inr lz_b16z)
    have V19z : own_A Z h19z b16z kc16z .char [(.int ch_18z), (.int (0 : Int32)), (.int (0 : Int32))] := V19z
    refine own_go (fun t k => XS.iloadN X19z.here hx rfl (hb hby d_method_5_code_19) rfl k) ?_
    refine own_go (fun t k => XS.iconst X19z.here hx rfl (hb hby d_method_5_code_20) k) ?_
    show own_G p e below (T19z.setTop (mkF m 21 #[.val (.long pv), .second, .val (.int (3 : Int32)), .val (.int sm), .val (.ref b16z)] [(.int (1 : Int32)), (.int (3 : Int32))])) _
    refine own_go (fun t k => XS.icmpNo X19z.here hx rfl (hb hby d_method_5_code_21) rfl (tlt (by decide : (1 : Int32) < (3 : Int32))).2.2.2 k) ?_
    show own_G p e below (T19z.setTop (mkF m 24 #[.val (.long pv), .second, .val (.int (3 : Int32)), .val (.int sm), .val (.ref b16z)] [])) _
    refine own_go (fun t k => XS.aload X19z.here hx rfl (hb hby d_method_5_code_24) rfl rfl k) ?_
    refine own_go (fun t k => XS.iconst X19z.here hx rfl (hb hby d_method_5_code_26) k) ?_
    refine own_go (fun t k => XS.lloadN X19z.here hx rfl (hb hby d_method_5_code_27) rfl k) ?_
    show own_G p e below (T19z.setTop (mkF m 28 #[.val (.long pv), .second, .val (.int (3 : Int32)), .val (.int sm), .val (.ref b16z)] [(.long pv), (.int (1 : Int32)), (.ref b16z)])) _
    refine own_go (fun t k => XS.iconst X19z.here hx rfl (hb hby d_method_5_code_28) k) ?_
    refine own_go (fun t k => XS.iloadN X19z.here hx rfl (hb hby d_method_5_code_29) rfl k) ?_
    obtain ⟨_, _, ⟨T21z, L21z, k21z, n21z⟩, -, X21z, ⟨Lc21z, hQ21z, l21z, y21z, z21z⟩, st21z⟩ := Jvm.LawKit.callS X19z hx (y := own_m12) hown (own_mw hZ hw 46 rfl) (own_mw hZ hw 47 rfl) (own_mw hZ hw 26 rfl) (own_mw hZ hw 48 rfl) (by decide) (backOf (W := 2) (own_pick l Z a0 hw [] pv (1 : Int32) sm h19z O20z) hZ (own_hw hw 48 rfl) (own_hw hw 26 rfl) (by decide) (by decide)) (g := (mkF m 30 #[.val (.long pv), .second, .val (.int (3 : Int32)), .val (.int sm), .val (.ref b16z)] [(.int sm), (.int (1 : Int32)), (.long pv), (.int (1 : Int32)), (.ref b16z)])) rfl (by rw [hml]; rfl) (argsL := [(.long pv), (.int (1 : Int32)), (.int sm)]) (rest := [(.int (1 : Int32)), (.ref b16z)]) (lenOf pd_1787952966 rfl) rfl (by show 2 * 0 + _ ≤ _; exact Nat.le_of_eq rfl) (hb hby d_method_5_code_30) (fun _ _ => ⟨rfl, e19z, (by decide : 1 + 0 ≤ _), (by decide : 3 + 0 ≤ _)⟩)
    dsimp only [Pt.U, Pt.locs, Pt.cells, Pt.slots] at X21z l21z y21z z21z st21z hQ21z
    subst l21z y21z z21z
    obtain ⟨ch_21z, rfl, NQ21z, K21zq, r21z_0⟩ := hQ21z
    refine own_go st21z ?_
    have N21z := Fr.app N19z NQ21z
    show own_G p e below (T21z.setTop (mkF m 33 #[.val (.long pv), .second, .val (.int (3 : Int32)), .val (.int sm), .val (.ref b16z)] [(.int ch_21z), (.int (1 : Int32)), (.ref b16z)])) _
    obtain ⟨T22z, h22z, X22z, e22z, W22z, V22z, st22z⟩ := own_stC X21z hx hZ K21zq V19z (i := 1) (y := ch_21z) (own_narC r21z_0) (by decide) (Nat.le_of_ble_eq_true rfl) (g := (mkF m 33 #[.val (.long pv), .second, .val (.int (3 : Int32)), .val (.int sm), .val (.ref b16z)] [(.int ch_21z), (.int (1 : Int32)), (.ref b16z)])) rfl rfl (hb hby d_method_5_code_33)
    refine own_go st22z ?_
    have N22z := Fr.snoc X22z N21z fr_b16z
    have O23z := own_ext_wr O20z W22z fr_b16z
    have K23z := K20z.wr W22z (Or.inr lz_b16z)
    have V22z : own_A Z h22z b16z kc16z .char [(.int ch_18z), (.int ch_21z), (.int (0 : Int32))] := V22z
    refine own_go (fun t k => XS.iloadN X22z.here hx rfl (hb hby d_method_5_code_34) rfl k) ?_
    refine own_go (fun t k => XS.iconst X22z.here hx rfl (hb hby d_method_5_code_35) k) ?_
    show own_G p e below (T22z.setTop (mkF m 36 #[.val (.long pv), .second, .val (.int (3 : Int32)), .val (.int sm), .val (.ref b16z)] [(.int (2 : Int32)), (.int (3 : Int32))])) _
    refine own_go (fun t k => XS.icmpNo X22z.here hx rfl (hb hby d_method_5_code_36) rfl (tlt (by decide : (2 : Int32) < (3 : Int32))).2.2.2 k) ?_
    show own_G p e below (T22z.setTop (mkF m 39 #[.val (.long pv), .second, .val (.int (3 : Int32)), .val (.int sm), .val (.ref b16z)] [])) _
    refine own_go (fun t k => XS.aload X22z.here hx rfl (hb hby d_method_5_code_39) rfl rfl k) ?_
    refine own_go (fun t k => XS.iconst X22z.here hx rfl (hb hby d_method_5_code_41) k) ?_
    refine own_go (fun t k => XS.lloadN X22z.here hx rfl (hb hby d_method_5_code_42) rfl k) ?_
    show own_G p e below (T22z.setTop (mkF m 43 #[.val (.long pv), .second, .val (.int (3 : Int32)), .val (.int sm), .val (.ref b16z)] [(.long pv), (.int (2 : Int32)), (.ref b16z)])) _
    refine own_go (fun t k => XS.iconst X22z.here hx rfl (hb hby d_method_5_code_43) k) ?_
    refine own_go (fun t k => XS.iloadN X22z.here hx rfl (hb hby d_method_5_code_44) rfl k) ?_
    obtain ⟨_, _, ⟨T24z, L24z, k24z, n24z⟩, -, X24z, ⟨Lc24z, hQ24z, l24z, y24z, z24z⟩, st24z⟩ := Jvm.LawKit.callS X22z hx (y := own_m12) hown (own_mw hZ hw 46 rfl) (own_mw hZ hw 47 rfl) (own_mw hZ hw 26 rfl) (own_mw hZ hw 48 rfl) (by decide) (backOf (W := 2) (own_pick l Z a0 hw [] pv (2 : Int32) sm h22z O23z) hZ (own_hw hw 48 rfl) (own_hw hw 26 rfl) (by decide) (by decide)) (g := (mkF m 45 #[.val (.long pv), .second, .val (.int (3 : Int32)), .val (.int sm), .val (.ref b16z)] [(.int sm), (.int (2 : Int32)), (.long pv), (.int (2 : Int32)), (.ref b16z)])) rfl (by rw [hml]; rfl) (argsL := [(.long pv), (.int (2 : Int32)), (.int sm)]) (rest := [(.int (2 : Int32)), (.ref b16z)]) (lenOf pd_1787952966 rfl) rfl (by show 2 * 0 + _ ≤ _; exact Nat.le_of_eq rfl) (hb hby d_method_5_code_45) (fun _ _ => ⟨rfl, e22z, (by decide : 1 + 0 ≤ _), (by decide : 3 + 0 ≤ _)⟩)
    dsimp only [Pt.U, Pt.locs, Pt.cells, Pt.slots] at X24z l24z y24z z24z st24z hQ24z
    subst l24z y24z z24z
    obtain ⟨ch_24z, rfl, NQ24z, K24zq, r24z_0⟩ := hQ24z
    refine own_go st24z ?_
    have N24z := Fr.app N22z NQ24z
    show own_G p e below (T24z.setTop (mkF m 48 #[.val (.long pv), .second, .val (.int (3 : Int32)), .val (.int sm), .val (.ref b16z)] [(.int ch_24z), (.int (2 : Int32)), (.ref b16z)])) _
    obtain ⟨T25z, h25z, X25z, e25z, W25z, V25z, st25z⟩ := own_stC X24z hx hZ K24zq V22z (i := 2) (y := ch_24z) (own_narC r24z_0) (by decide) (Nat.le_of_ble_eq_true rfl) (g := (mkF m 48 #[.val (.long pv), .second, .val (.int (3 : Int32)), .val (.int sm), .val (.ref b16z)] [(.int ch_24z), (.int (2 : Int32)), (.ref b16z)])) rfl rfl (hb hby d_method_5_code_48)
    refine own_go st25z ?_
    have N25z := Fr.snoc X25z N24z fr_b16z
    have O26z := own_ext_wr O23z W25z fr_b16z
    have K26z := K23z.wr W25z (Or.inr lz_b16z)
    have V25z : own_A Z h25z b16z kc16z .char [(.int ch_18z), (.int ch_21z), (.int ch_24z)] := V25z
    refine own_go (fun t k => XS.aload X25z.here hx rfl (hb hby d_method_5_code_49) rfl rfl k) ?_
    exact own_ret X25z hx Bd.returns rfl (Or.inr (Or.inr (Or.inr (Or.inr ⟨rfl, rfl, rfl⟩)))) (hb hby d_method_5_code_51) hlk (Nat.le_of_ble_eq_true rfl) (Nat.le_of_ble_eq_true rfl) (by show Q_own_chars Z pv (3 : Int32) sm h0 _ T25z.heap _; rw [e25z]; exact ⟨b16z, kc16z, [ch_18z, ch_21z, ch_24z], rfl, N25z, K26z, V25z, lz_b16z, (own_chs_cons r18z_0 (own_chs_cons r21z_0 (own_chs_cons r24z_0 own_chs_nil))), (by simp)⟩)
theorem ef_own_cpAt (m : MethodId) (x0 : Addr) (x1 : Int32) : entryFrame m #[(.ref x0), (.int x1)] 4 = mkF m 0 #[.val (.ref x0), .val (.int x1), .unset, .unset] [] := by first | (simp [entryFrame, mkF, argsToLocals, Value.category]; done) | rfl
theorem pf_own_cpAt : plainFor own_m14 = true := plainFor_of_name (by simp [plainName, overriddenIn])
theorem d_method_6_code_0 : decode method_6_code 0 = .ok (.aload_n 0, 1) := by decide +kernel
theorem d_method_6_code_1 : decode method_6_code 1 = .ok (.iload_n 1, 1) := by decide +kernel
theorem d_method_6_code_10 : decode method_6_code 10 = .ok (.iload_n 2, 1) := by decide +kernel
theorem d_method_6_code_11 : decode method_6_code 11 = .ok (.ldc 51, 2) := by decide +kernel
theorem d_method_6_code_13 : decode method_6_code 13 = .ok (.if_icmp .gt 45, 3) := by decide +kernel
theorem d_method_6_code_16 : decode method_6_code 16 = .ok (.iload_n 1, 1) := by decide +kernel
theorem d_method_6_code_17 : decode method_6_code 17 = .ok (.iconst 1, 1) := by decide +kernel
theorem d_method_6_code_18 : decode method_6_code 18 = .ok (.iadd, 1) := by decide +kernel
theorem d_method_6_code_19 : decode method_6_code 19 = .ok (.aload_n 0, 1) := by decide +kernel
theorem d_method_6_code_2 : decode method_6_code 2 = .ok (.caload, 1) := by decide +kernel
theorem d_method_6_code_20 : decode method_6_code 20 = .ok (.arraylength, 1) := by decide +kernel
theorem d_method_6_code_21 : decode method_6_code 21 = .ok (.if_icmp .ge 37, 3) := by decide +kernel
theorem d_method_6_code_24 : decode method_6_code 24 = .ok (.aload_n 0, 1) := by decide +kernel
theorem d_method_6_code_25 : decode method_6_code 25 = .ok (.iload_n 1, 1) := by decide +kernel
theorem d_method_6_code_26 : decode method_6_code 26 = .ok (.iconst 1, 1) := by decide +kernel
theorem d_method_6_code_27 : decode method_6_code 27 = .ok (.iadd, 1) := by decide +kernel
theorem d_method_6_code_28 : decode method_6_code 28 = .ok (.caload, 1) := by decide +kernel
theorem d_method_6_code_29 : decode method_6_code 29 = .ok (.istore_n 3, 1) := by decide +kernel
theorem d_method_6_code_3 : decode method_6_code 3 = .ok (.istore_n 2, 1) := by decide +kernel
theorem d_method_6_code_30 : decode method_6_code 30 = .ok (.iload_n 3, 1) := by decide +kernel
theorem d_method_6_code_31 : decode method_6_code 31 = .ok (.ldc 45, 2) := by decide +kernel
theorem d_method_6_code_33 : decode method_6_code 33 = .ok (.if_icmp .lt 25, 3) := by decide +kernel
theorem d_method_6_code_36 : decode method_6_code 36 = .ok (.iload_n 3, 1) := by decide +kernel
theorem d_method_6_code_37 : decode method_6_code 37 = .ok (.ldc 52, 2) := by decide +kernel
theorem d_method_6_code_39 : decode method_6_code 39 = .ok (.if_icmp .gt 19, 3) := by decide +kernel
theorem d_method_6_code_4 : decode method_6_code 4 = .ok (.iload_n 2, 1) := by decide +kernel
theorem d_method_6_code_42 : decode method_6_code 42 = .ok (.iload_n 2, 1) := by decide +kernel
theorem d_method_6_code_43 : decode method_6_code 43 = .ok (.ldc 44, 2) := by decide +kernel
theorem d_method_6_code_45 : decode method_6_code 45 = .ok (.isub, 1) := by decide +kernel
theorem d_method_6_code_46 : decode method_6_code 46 = .ok (.bipush 10, 2) := by decide +kernel
theorem d_method_6_code_48 : decode method_6_code 48 = .ok (.ishl, 1) := by decide +kernel
theorem d_method_6_code_49 : decode method_6_code 49 = .ok (.iload_n 3, 1) := by decide +kernel
theorem d_method_6_code_5 : decode method_6_code 5 = .ok (.ldc 44, 2) := by decide +kernel
theorem d_method_6_code_50 : decode method_6_code 50 = .ok (.ldc 45, 2) := by decide +kernel
theorem d_method_6_code_52 : decode method_6_code 52 = .ok (.isub, 1) := by decide +kernel
theorem d_method_6_code_53 : decode method_6_code 53 = .ok (.iadd, 1) := by decide +kernel
theorem d_method_6_code_54 : decode method_6_code 54 = .ok (.ldc 53, 2) := by decide +kernel
theorem d_method_6_code_56 : decode method_6_code 56 = .ok (.iadd, 1) := by decide +kernel
theorem d_method_6_code_57 : decode method_6_code 57 = .ok (.ireturn, 1) := by decide +kernel
theorem d_method_6_code_58 : decode method_6_code 58 = .ok (.iload_n 2, 1) := by decide +kernel
theorem d_method_6_code_59 : decode method_6_code 59 = .ok (.ireturn, 1) := by decide +kernel
theorem d_method_6_code_7 : decode method_6_code 7 = .ok (.if_icmp .lt 51, 3) := by decide +kernel
def Q_own_cpAt (Z : State) (arr : Addr) (kk : ClassId) (cs : (List Int32)) (x : Int32) (i : Nat) (h0 : Heap) (v : Option Value) (h : Heap) (L : List Loc) : Prop := v = some (.int (own_cpx cs i)) ∧ Fr Z.heap.size L ∧ h = h0
set_option maxRecDepth 65536 in
set_option maxHeartbeats 40000000 in
theorem own_cpAt (l : Launch) (Z : State) (a0 : Array Value) (hw : ∀ d ∈ tables_1, d.before a0 Z = true) (ws : List Jvm.Cond) (arr : Addr) (kk : ClassId) (cs : (List Int32)) (x : Int32) (i : Nat) (h0 : Heap) (O0 : Ext Z.heap h0) (q0 : own_A Z h0 arr kk .char (own_cv cs)) (hxx : x.toInt = (i : Int)) (hlt : i < cs.length) (h3 : cs.length ≤ 3) :
    MetFree l own_m14 (head1 (Jvm.Cond.code own_m14 method_6_code 4 (some .int) :: ws) ({ frames := 0, cells := 0, slots := 0, locals := 0 } : Room)) (fun aa U => aa = #[(.ref arr), (.int x)] ∧ Z.Warmed39 U.vm ∧ U.heap = h0) (fun _ _ _ _ _ => True) (fun _ U o U' => ∃ v L, o = .returned v ∧ Q_own_cpAt Z arr kk cs x i h0 v U'.heap L ∧ FrameEnd U o U' L ({ frames := 0, cells := 0, slots := 0, locals := 0 } : Room).cells ({ frames := 0, cells := 0, slots := 0, locals := 0 } : Room).slots) := by
  refine MetFree.of_bodySF pf_own_cpAt hisR ?_
  intro p e s m args below meth c s₁ Bd hml0 hP hK
  obtain ⟨rfl, hZ, hh⟩ := hP
  have hx := Bd.exec
  have hby := Bd.bytes
  have hlk := BodyLoose.notSynchronized Bd
  have hml : c.maxLocals = 4 := hml0
  have hown : s.vm.findClass own_s2 = some m.cls := findClass_of_methodNamed Bd.named
  have hnm := (name_of_methodNamed Bd.named Bd.method).1
  have X0 : Stand p l e ({ frames := 0, cells := 0, slots := 0, locals := 0 } : Room) s m #[(.ref arr), (.int x)] below meth c s₁ [] 0 0 := Stand.of_body Bd
  have e0 : s₁.heap = h0 := by rw [← hh, Bd.state]; rfl
  have N0 := Fr.nil Z.heap.size
  have K0 : Keep h0 h0 [] := Keep.refl _ _
  refine own_start (Q := Q_own_cpAt Z arr kk cs x i h0) (ef_own_cpAt m (arr) (x)) ?_
  show own_G p e below (s₁.setTop (mkF m 0 #[.val (.ref arr), .val (.int x), .unset, .unset] [])) _
  refine own_go (fun t k => XS.aloadN X0.here hx rfl (hb hby d_method_6_code_0) rfl rfl k) ?_
  refine own_go (fun t k => XS.iloadN X0.here hx rfl (hb hby d_method_6_code_1) rfl k) ?_
  refine own_go (own_ldC X0 hx hZ e0 q0 (i := i) (v := (.int (cs.getD i 0))) hxx (own_cv_get hlt) (g := (mkF m 2 #[.val (.ref arr), .val (.int x), .unset, .unset] [(.int x), (.ref arr)])) rfl rfl (hb hby d_method_6_code_2)) ?_
  show own_G p e below (s₁.setTop (mkF m 3 #[.val (.ref arr), .val (.int x), .unset, .unset] [(.int (cs.getD i 0))])) _
  refine own_go (fun t k => XS.istoreN X0.here hx rfl (hb hby d_method_6_code_3) rfl (l' := #[.val (.ref arr), .val (.int x), .val (.int (cs.getD i 0)), .unset]) rfl k) ?_
  refine own_go (fun t k => XS.iloadN X0.here hx rfl (hb hby d_method_6_code_4) rfl k) ?_
  refine own_go (fun t k => X0.ldcI hx hown (mvT hZ (own_hw hw 158 rfl)) rfl (hb hby d_method_6_code_5) k) ?_
  show own_G p e below (s₁.setTop (mkF m 7 #[.val (.ref arr), .val (.int x), .val (.int (cs.getD i 0)), .unset] [(.int (55296 : Int32)), (.int (cs.getD i 0))])) _
  by_cases hc1z : (cs.getD i 0) < (55296 : Int32)
  · refine own_go (fun t k => XS.icmpYes X0.here hx rfl (pc0 := 7) (pc' := 58) rfl (hb hby d_method_6_code_7) rfl (tlt hc1z).1 (by decide) (by decide) k) ?_
    show own_G p e below (s₁.setTop (mkF m 58 #[.val (.ref arr), .val (.int x), .val (.int (cs.getD i 0)), .unset] [])) _
    refine own_go (fun t k => XS.iloadN X0.here hx rfl (hb hby d_method_6_code_58) rfl k) ?_
    exact own_ret X0 hx Bd.returns rfl (Or.inl ⟨rfl, Or.inl rfl, _, rfl⟩) (hb hby d_method_6_code_59) hlk (Nat.le_of_ble_eq_true rfl) (Nat.le_of_ble_eq_true rfl) (by show Q_own_cpAt Z arr kk cs x i h0 _ s₁.heap _; rw [e0]; exact ⟨(congrArg (fun z => some (Value.int z)) (own_cpA (Or.inl hc1z)).symm), N0, rfl⟩)
  · refine own_go (fun t k => XS.icmpNo X0.here hx rfl (hb hby d_method_6_code_7) rfl (flt hc1z).1 k) ?_
    show own_G p e below (s₁.setTop (mkF m 10 #[.val (.ref arr), .val (.int x), .val (.int (cs.getD i 0)), .unset] [])) _
    refine own_go (fun t k => XS.iloadN X0.here hx rfl (hb hby d_method_6_code_10) rfl k) ?_
    refine own_go (fun t k => X0.ldcI hx hown (mvT hZ (own_hw hw 160 rfl)) rfl (hb hby d_method_6_code_11) k) ?_
    by_cases hc2z : (56319 : Int32) < (cs.getD i 0)
    · refine own_go (fun t k => XS.icmpYes X0.here hx rfl (pc0 := 13) (pc' := 58) rfl (hb hby d_method_6_code_13) rfl (tlt hc2z).2.2.1 (by decide) (by decide) k) ?_
      show own_G p e below (s₁.setTop (mkF m 58 #[.val (.ref arr), .val (.int x), .val (.int (cs.getD i 0)), .unset] [])) _
      refine own_go (fun t k => XS.iloadN X0.here hx rfl (hb hby d_method_6_code_58) rfl k) ?_
      exact own_ret X0 hx Bd.returns rfl (Or.inl ⟨rfl, Or.inl rfl, _, rfl⟩) (hb hby d_method_6_code_59) hlk (Nat.le_of_ble_eq_true rfl) (Nat.le_of_ble_eq_true rfl) (by show Q_own_cpAt Z arr kk cs x i h0 _ s₁.heap _; rw [e0]; exact ⟨(congrArg (fun z => some (Value.int z)) (own_cpA (Or.inr (Or.inl hc2z))).symm), N0, rfl⟩)
    · refine own_go (fun t k => XS.icmpNo X0.here hx rfl (hb hby d_method_6_code_13) rfl (flt hc2z).2.2.1 k) ?_
      show own_G p e below (s₁.setTop (mkF m 16 #[.val (.ref arr), .val (.int x), .val (.int (cs.getD i 0)), .unset] [])) _
      refine own_go (fun t k => XS.iloadN X0.here hx rfl (hb hby d_method_6_code_16) rfl k) ?_
      refine own_go (fun t k => XS.iconst X0.here hx rfl (hb hby d_method_6_code_17) k) ?_
      refine own_go (fun t k => XS.iadd X0.here hx rfl (hb hby d_method_6_code_18) rfl k) ?_
      show own_G p e below (s₁.setTop (mkF m 19 #[.val (.ref arr), .val (.int x), .val (.int (cs.getD i 0)), .unset] [(.int (x + (1 : Int32)))])) _
      refine own_go (fun t k => XS.aloadN X0.here hx rfl (hb hby d_method_6_code_19) rfl rfl k) ?_
      refine own_go (own_len X0 hx hZ e0 q0 (z := (Int32.ofNat cs.length)) (own_lenI h3) (g := (mkF m 20 #[.val (.ref arr), .val (.int x), .val (.int (cs.getD i 0)), .unset] [(.ref arr), (.int (x + (1 : Int32)))])) rfl rfl (hb hby d_method_6_code_20)) ?_
      by_cases hc3z : (x + (1 : Int32)) < (Int32.ofNat cs.length)
      · refine own_go (fun t k => XS.icmpNo X0.here hx rfl (hb hby d_method_6_code_21) rfl (tlt hc3z).2.1 k) ?_
        show own_G p e below (s₁.setTop (mkF m 24 #[.val (.ref arr), .val (.int x), .val (.int (cs.getD i 0)), .unset] [])) _
        refine own_go (fun t k => XS.aloadN X0.here hx rfl (hb hby d_method_6_code_24) rfl rfl k) ?_
        refine own_go (fun t k => XS.iloadN X0.here hx rfl (hb hby d_method_6_code_25) rfl k) ?_
        refine own_go (fun t k => XS.iconst X0.here hx rfl (hb hby d_method_6_code_26) k) ?_
        show own_G p e below (s₁.setTop (mkF m 27 #[.val (.ref arr), .val (.int x), .val (.int (cs.getD i 0)), .unset] [(.int (1 : Int32)), (.int x), (.ref arr)])) _
        refine own_go (fun t k => XS.iadd X0.here hx rfl (hb hby d_method_6_code_27) rfl k) ?_
        refine own_go (own_ldC X0 hx hZ e0 q0 (i := (i + 1)) (v := (.int (cs.getD (i + 1) 0))) (own_add1 hxx (by omega)) (own_cv_get ((own_ltN (own_add1 hxx (by omega)) h3).mp hc3z)) (g := (mkF m 28 #[.val (.ref arr), .val (.int x), .val (.int (cs.getD i 0)), .unset] [(.int (x + (1 : Int32))), (.ref arr)])) rfl rfl (hb hby d_method_6_code_28)) ?_
        refine own_go (fun t k => XS.istoreN X0.here hx rfl (hb hby d_method_6_code_29) rfl (l' := #[.val (.ref arr), .val (.int x), .val (.int (cs.getD i 0)), .val (.int (cs.getD (i + 1) 0))]) rfl k) ?_
        show own_G p e below (s₁.setTop (mkF m 30 #[.val (.ref arr), .val (.int x), .val (.int (cs.getD i 0)), .val (.int (cs.getD (i + 1) 0))] [])) _
        refine own_go (fun t k => XS.iloadN X0.here hx rfl (hb hby d_method_6_code_30) rfl k) ?_
        refine own_go (fun t k => X0.ldcI hx hown (mvT hZ (own_hw hw 170 rfl)) rfl (hb hby d_method_6_code_31) k) ?_
        by_cases hc4z : (cs.getD (i + 1) 0) < (56320 : Int32)
        · refine own_go (fun t k => XS.icmpYes X0.here hx rfl (pc0 := 33) (pc' := 58) rfl (hb hby d_method_6_code_33) rfl (tlt hc4z).1 (by decide) (by decide) k) ?_
          show own_G p e below (s₁.setTop (mkF m 58 #[.val (.ref arr), .val (.int x), .val (.int (cs.getD i 0)), .val (.int (cs.getD (i + 1) 0))] [])) _
          refine own_go (fun t k => XS.iloadN X0.here hx rfl (hb hby d_method_6_code_58) rfl k) ?_
          exact own_ret X0 hx Bd.returns rfl (Or.inl ⟨rfl, Or.inl rfl, _, rfl⟩) (hb hby d_method_6_code_59) hlk (Nat.le_of_ble_eq_true rfl) (Nat.le_of_ble_eq_true rfl) (by show Q_own_cpAt Z arr kk cs x i h0 _ s₁.heap _; rw [e0]; exact ⟨(congrArg (fun z => some (Value.int z)) (own_cpA (Or.inr (Or.inr (Or.inr (Or.inl hc4z))))).symm), N0, rfl⟩)
        · refine own_go (fun t k => XS.icmpNo X0.here hx rfl (hb hby d_method_6_code_33) rfl (flt hc4z).1 k) ?_
          show own_G p e below (s₁.setTop (mkF m 36 #[.val (.ref arr), .val (.int x), .val (.int (cs.getD i 0)), .val (.int (cs.getD (i + 1) 0))] [])) _
          refine own_go (fun t k => XS.iloadN X0.here hx rfl (hb hby d_method_6_code_36) rfl k) ?_
          refine own_go (fun t k => X0.ldcI hx hown (mvT hZ (own_hw hw 171 rfl)) rfl (hb hby d_method_6_code_37) k) ?_
          by_cases hc5z : (57343 : Int32) < (cs.getD (i + 1) 0)
          · refine own_go (fun t k => XS.icmpYes X0.here hx rfl (pc0 := 39) (pc' := 58) rfl (hb hby d_method_6_code_39) rfl (tlt hc5z).2.2.1 (by decide) (by decide) k) ?_
            show own_G p e below (s₁.setTop (mkF m 58 #[.val (.ref arr), .val (.int x), .val (.int (cs.getD i 0)), .val (.int (cs.getD (i + 1) 0))] [])) _
            refine own_go (fun t k => XS.iloadN X0.here hx rfl (hb hby d_method_6_code_58) rfl k) ?_
            exact own_ret X0 hx Bd.returns rfl (Or.inl ⟨rfl, Or.inl rfl, _, rfl⟩) (hb hby d_method_6_code_59) hlk (Nat.le_of_ble_eq_true rfl) (Nat.le_of_ble_eq_true rfl) (by show Q_own_cpAt Z arr kk cs x i h0 _ s₁.heap _; rw [e0]; exact ⟨(congrArg (fun z => some (Value.int z)) (own_cpA (Or.inr (Or.inr (Or.inr (Or.inr hc5z))))).symm), N0, rfl⟩)
          · refine own_go (fun t k => XS.icmpNo X0.here hx rfl (hb hby d_method_6_code_39) rfl (flt hc5z).2.2.1 k) ?_
            show own_G p e below (s₁.setTop (mkF m 42 #[.val (.ref arr), .val (.int x), .val (.int (cs.getD i 0)), .val (.int (cs.getD (i + 1) 0))] [])) _
            refine own_go (fun t k => XS.iloadN X0.here hx rfl (hb hby d_method_6_code_42) rfl k) ?_
            refine own_go (fun t k => X0.ldcI hx hown (mvT hZ (own_hw hw 158 rfl)) rfl (hb hby d_method_6_code_43) k) ?_
            refine own_go (fun t k => XS.isub X0.here hx rfl (hb hby d_method_6_code_45) rfl k) ?_
            show own_G p e below (s₁.setTop (mkF m 46 #[.val (.ref arr), .val (.int x), .val (.int (cs.getD i 0)), .val (.int (cs.getD (i + 1) 0))] [(.int ((cs.getD i 0) - (55296 : Int32)))])) _
            refine own_go (fun t k => XS.bipush X0.here hx rfl (hb hby d_method_6_code_46) k) ?_
            refine own_go (fun t k => XS.ishl X0.here hx rfl (hb hby d_method_6_code_48) rfl k) ?_
            refine own_go (fun t k => XS.iloadN X0.here hx rfl (hb hby d_method_6_code_49) rfl k) ?_
            show own_G p e below (s₁.setTop (mkF m 50 #[.val (.ref arr), .val (.int x), .val (.int (cs.getD i 0)), .val (.int (cs.getD (i + 1) 0))] [(.int (cs.getD (i + 1) 0)), (.int (((cs.getD i 0) - (55296 : Int32)) <<< ((10 : Int32) &&& 31)))])) _
            refine own_go (fun t k => X0.ldcI hx hown (mvT hZ (own_hw hw 170 rfl)) rfl (hb hby d_method_6_code_50) k) ?_
            refine own_go (fun t k => XS.isub X0.here hx rfl (hb hby d_method_6_code_52) rfl k) ?_
            refine own_go (fun t k => XS.iadd X0.here hx rfl (hb hby d_method_6_code_53) rfl k) ?_
            show own_G p e below (s₁.setTop (mkF m 54 #[.val (.ref arr), .val (.int x), .val (.int (cs.getD i 0)), .val (.int (cs.getD (i + 1) 0))] [(.int ((((cs.getD i 0) - (55296 : Int32)) <<< ((10 : Int32) &&& 31)) + ((cs.getD (i + 1) 0) - (56320 : Int32))))])) _
            refine own_go (fun t k => X0.ldcI hx hown (mvT hZ (own_hw hw 159 rfl)) rfl (hb hby d_method_6_code_54) k) ?_
            refine own_go (fun t k => XS.iadd X0.here hx rfl (hb hby d_method_6_code_56) rfl k) ?_
            exact own_ret X0 hx Bd.returns rfl (Or.inl ⟨rfl, Or.inl rfl, _, rfl⟩) (hb hby d_method_6_code_57) hlk (Nat.le_of_ble_eq_true rfl) (Nat.le_of_ble_eq_true rfl) (by show Q_own_cpAt Z arr kk cs x i h0 _ s₁.heap _; rw [e0]; exact ⟨(congrArg (fun z => some (Value.int z)) (own_cpB ((own_ltN (own_add1 hxx (by omega)) h3).mp hc3z) (own_pairB hc1z hc2z hc4z hc5z)).symm), N0, rfl⟩)
      · refine own_go (fun t k => XS.icmpYes X0.here hx rfl (pc0 := 21) (pc' := 58) rfl (hb hby d_method_6_code_21) rfl (flt hc3z).2.1 (by decide) (by decide) k) ?_
        show own_G p e below (s₁.setTop (mkF m 58 #[.val (.ref arr), .val (.int x), .val (.int (cs.getD i 0)), .unset] [])) _
        refine own_go (fun t k => XS.iloadN X0.here hx rfl (hb hby d_method_6_code_58) rfl k) ?_
        exact own_ret X0 hx Bd.returns rfl (Or.inl ⟨rfl, Or.inl rfl, _, rfl⟩) (hb hby d_method_6_code_59) hlk (Nat.le_of_ble_eq_true rfl) (Nat.le_of_ble_eq_true rfl) (by show Q_own_cpAt Z arr kk cs x i h0 _ s₁.heap _; rw [e0]; exact ⟨(congrArg (fun z => some (Value.int z)) (own_cpA (Or.inr (Or.inr (Or.inl fun q => hc3z ((own_ltN (own_add1 hxx (by omega)) h3).mpr q))))).symm), N0, rfl⟩)
theorem ef_own_decode (m : MethodId) (x0 : Addr) : entryFrame m #[(.ref x0)] 5 = mkF m 0 #[.val (.ref x0), .unset, .unset, .unset, .unset] [] := by first | (simp [entryFrame, mkF, argsToLocals, Value.category]; done) | rfl
theorem pf_own_decode : plainFor own_m15 = true := plainFor_of_name (by simp [plainName, overriddenIn])
theorem pd_1807879494 : parseMethodDescriptor "([CI)I" = some ⟨[(.array .char), .int], some .int⟩ := by decide +kernel
theorem d_method_7_code_0 : decode method_7_code 0 = .ok (.iconst 4, 1) := by decide +kernel
theorem d_method_7_code_1 : decode method_7_code 1 = .ok (.newarray .int, 2) := by decide +kernel
theorem d_method_7_code_10 : decode method_7_code 10 = .ok (.arraylength, 1) := by decide +kernel
theorem d_method_7_code_101 : decode method_7_code 101 = .ok (.iload_n 2, 1) := by decide +kernel
theorem d_method_7_code_102 : decode method_7_code 102 = .ok (.iload 4, 2) := by decide +kernel
theorem d_method_7_code_104 : decode method_7_code 104 = .ok (.ldc 53, 2) := by decide +kernel
theorem d_method_7_code_106 : decode method_7_code 106 = .ok (.if_icmp .lt 7, 3) := by decide +kernel
theorem d_method_7_code_109 : decode method_7_code 109 = .ok (.iconst 2, 1) := by decide +kernel
theorem d_method_7_code_11 : decode method_7_code 11 = .ok (.if_icmp .ge 33, 3) := by decide +kernel
theorem d_method_7_code_110 : decode method_7_code 110 = .ok (.goto 4, 3) := by decide +kernel
theorem d_method_7_code_113 : decode method_7_code 113 = .ok (.iconst 1, 1) := by decide +kernel
theorem d_method_7_code_114 : decode method_7_code 114 = .ok (.iadd, 1) := by decide +kernel
theorem d_method_7_code_115 : decode method_7_code 115 = .ok (.istore_n 2, 1) := by decide +kernel
theorem d_method_7_code_116 : decode method_7_code 116 = .ok (.aload_n 1, 1) := by decide +kernel
theorem d_method_7_code_117 : decode method_7_code 117 = .ok (.iconst 3, 1) := by decide +kernel
theorem d_method_7_code_118 : decode method_7_code 118 = .ok (.iload_n 3, 1) := by decide +kernel
theorem d_method_7_code_119 : decode method_7_code 119 = .ok (.iastore, 1) := by decide +kernel
theorem d_method_7_code_120 : decode method_7_code 120 = .ok (.aload_n 1, 1) := by decide +kernel
theorem d_method_7_code_121 : decode method_7_code 121 = .ok (.areturn, 1) := by decide +kernel
theorem d_method_7_code_14 : decode method_7_code 14 = .ok (.aload_n 0, 1) := by decide +kernel
theorem d_method_7_code_15 : decode method_7_code 15 = .ok (.iload_n 2, 1) := by decide +kernel
theorem d_method_7_code_16 : decode method_7_code 16 = .ok (.invokestatic 54, 3) := by decide +kernel
theorem d_method_7_code_19 : decode method_7_code 19 = .ok (.istore 4, 2) := by decide +kernel
theorem d_method_7_code_21 : decode method_7_code 21 = .ok (.aload_n 1, 1) := by decide +kernel
theorem d_method_7_code_22 : decode method_7_code 22 = .ok (.iload_n 3, 1) := by decide +kernel
theorem d_method_7_code_23 : decode method_7_code 23 = .ok (.iload 4, 2) := by decide +kernel
theorem d_method_7_code_25 : decode method_7_code 25 = .ok (.iastore, 1) := by decide +kernel
theorem d_method_7_code_26 : decode method_7_code 26 = .ok (.iinc 3 1, 3) := by decide +kernel
theorem d_method_7_code_29 : decode method_7_code 29 = .ok (.iload_n 2, 1) := by decide +kernel
theorem d_method_7_code_3 : decode method_7_code 3 = .ok (.astore_n 1, 1) := by decide +kernel
theorem d_method_7_code_30 : decode method_7_code 30 = .ok (.iload 4, 2) := by decide +kernel
theorem d_method_7_code_32 : decode method_7_code 32 = .ok (.ldc 53, 2) := by decide +kernel
theorem d_method_7_code_34 : decode method_7_code 34 = .ok (.if_icmp .lt 7, 3) := by decide +kernel
theorem d_method_7_code_37 : decode method_7_code 37 = .ok (.iconst 2, 1) := by decide +kernel
theorem d_method_7_code_38 : decode method_7_code 38 = .ok (.goto 4, 3) := by decide +kernel
theorem d_method_7_code_4 : decode method_7_code 4 = .ok (.iconst 0, 1) := by decide +kernel
theorem d_method_7_code_41 : decode method_7_code 41 = .ok (.iconst 1, 1) := by decide +kernel
theorem d_method_7_code_42 : decode method_7_code 42 = .ok (.iadd, 1) := by decide +kernel
theorem d_method_7_code_43 : decode method_7_code 43 = .ok (.istore_n 2, 1) := by decide +kernel
theorem d_method_7_code_44 : decode method_7_code 44 = .ok (.iload_n 2, 1) := by decide +kernel
theorem d_method_7_code_45 : decode method_7_code 45 = .ok (.aload_n 0, 1) := by decide +kernel
theorem d_method_7_code_46 : decode method_7_code 46 = .ok (.arraylength, 1) := by decide +kernel
theorem d_method_7_code_47 : decode method_7_code 47 = .ok (.if_icmp .ge 33, 3) := by decide +kernel
theorem d_method_7_code_5 : decode method_7_code 5 = .ok (.istore_n 2, 1) := by decide +kernel
theorem d_method_7_code_50 : decode method_7_code 50 = .ok (.aload_n 0, 1) := by decide +kernel
theorem d_method_7_code_51 : decode method_7_code 51 = .ok (.iload_n 2, 1) := by decide +kernel
theorem d_method_7_code_52 : decode method_7_code 52 = .ok (.invokestatic 54, 3) := by decide +kernel
theorem d_method_7_code_55 : decode method_7_code 55 = .ok (.istore 4, 2) := by decide +kernel
theorem d_method_7_code_57 : decode method_7_code 57 = .ok (.aload_n 1, 1) := by decide +kernel
theorem d_method_7_code_58 : decode method_7_code 58 = .ok (.iload_n 3, 1) := by decide +kernel
theorem d_method_7_code_59 : decode method_7_code 59 = .ok (.iload 4, 2) := by decide +kernel
theorem d_method_7_code_6 : decode method_7_code 6 = .ok (.iconst 0, 1) := by decide +kernel
theorem d_method_7_code_61 : decode method_7_code 61 = .ok (.iastore, 1) := by decide +kernel
theorem d_method_7_code_62 : decode method_7_code 62 = .ok (.iinc 3 1, 3) := by decide +kernel
theorem d_method_7_code_65 : decode method_7_code 65 = .ok (.iload_n 2, 1) := by decide +kernel
theorem d_method_7_code_66 : decode method_7_code 66 = .ok (.iload 4, 2) := by decide +kernel
theorem d_method_7_code_68 : decode method_7_code 68 = .ok (.ldc 53, 2) := by decide +kernel
theorem d_method_7_code_7 : decode method_7_code 7 = .ok (.istore_n 3, 1) := by decide +kernel
theorem d_method_7_code_70 : decode method_7_code 70 = .ok (.if_icmp .lt 7, 3) := by decide +kernel
theorem d_method_7_code_73 : decode method_7_code 73 = .ok (.iconst 2, 1) := by decide +kernel
theorem d_method_7_code_74 : decode method_7_code 74 = .ok (.goto 4, 3) := by decide +kernel
theorem d_method_7_code_77 : decode method_7_code 77 = .ok (.iconst 1, 1) := by decide +kernel
theorem d_method_7_code_78 : decode method_7_code 78 = .ok (.iadd, 1) := by decide +kernel
theorem d_method_7_code_79 : decode method_7_code 79 = .ok (.istore_n 2, 1) := by decide +kernel
theorem d_method_7_code_8 : decode method_7_code 8 = .ok (.iload_n 2, 1) := by decide +kernel
theorem d_method_7_code_80 : decode method_7_code 80 = .ok (.iload_n 2, 1) := by decide +kernel
theorem d_method_7_code_81 : decode method_7_code 81 = .ok (.aload_n 0, 1) := by decide +kernel
theorem d_method_7_code_82 : decode method_7_code 82 = .ok (.arraylength, 1) := by decide +kernel
theorem d_method_7_code_83 : decode method_7_code 83 = .ok (.if_icmp .ge 33, 3) := by decide +kernel
theorem d_method_7_code_86 : decode method_7_code 86 = .ok (.aload_n 0, 1) := by decide +kernel
theorem d_method_7_code_87 : decode method_7_code 87 = .ok (.iload_n 2, 1) := by decide +kernel
theorem d_method_7_code_88 : decode method_7_code 88 = .ok (.invokestatic 54, 3) := by decide +kernel
theorem d_method_7_code_9 : decode method_7_code 9 = .ok (.aload_n 0, 1) := by decide +kernel
theorem d_method_7_code_91 : decode method_7_code 91 = .ok (.istore 4, 2) := by decide +kernel
theorem d_method_7_code_93 : decode method_7_code 93 = .ok (.aload_n 1, 1) := by decide +kernel
theorem d_method_7_code_94 : decode method_7_code 94 = .ok (.iload_n 3, 1) := by decide +kernel
theorem d_method_7_code_95 : decode method_7_code 95 = .ok (.iload 4, 2) := by decide +kernel
theorem d_method_7_code_97 : decode method_7_code 97 = .ok (.iastore, 1) := by decide +kernel
theorem d_method_7_code_98 : decode method_7_code 98 = .ok (.iinc 3 1, 3) := by decide +kernel
def Q_own_decode (Z : State) (arr : Addr) (kk : ClassId) (cs : (List Int32)) (h0 : Heap) (v : Option Value) (h : Heap) (L : List Loc) : Prop := ∃ r : Addr, ∃ kr : ClassId, ∃ p0 : Int32, ∃ p1 : Int32, ∃ p2 : Int32, ∃ cn : Int32, v = some (.ref r) ∧ Fr Z.heap.size L ∧ Keep h0 h [] ∧ (own_A Z h r kr .int [(.int p0), (.int p1), (.int p2), (.int cn)]) ∧ (h0.size ≤ r) ∧ (own_decs cs p0 p1 p2 cn)
set_option maxRecDepth 65536 in
set_option maxHeartbeats 40000000 in
theorem own_decode (l : Launch) (Z : State) (a0 : Array Value) (hw : ∀ d ∈ tables_1, d.before a0 Z = true) (ws : List Jvm.Cond) (arr : Addr) (kk : ClassId) (cs : (List Int32)) (h0 : Heap) (O0 : Ext Z.heap h0) (q0 : own_A Z h0 arr kk .char (own_cv cs)) (hc : own_chs cs) (h3 : cs.length ≤ 3) :
    MetFree l own_m15 (head1 (Jvm.Cond.code own_m15 method_7_code 5 (some (.array .int)) :: ws) ({ frames := 1, cells := 1, slots := 4, locals := 16 } : Room)) (fun aa U => aa = #[(.ref arr)] ∧ Z.Warmed39 U.vm ∧ U.heap = h0) (fun _ _ _ _ _ => True) (fun _ U o U' => ∃ v L, o = .returned v ∧ Q_own_decode Z arr kk cs h0 v U'.heap L ∧ FrameEnd U o U' L ({ frames := 1, cells := 1, slots := 4, locals := 16 } : Room).cells ({ frames := 1, cells := 1, slots := 4, locals := 16 } : Room).slots) := by
  refine MetFree.of_bodySF pf_own_decode hisR ?_
  intro p e s m args below meth c s₁ Bd hml0 hP hK
  obtain ⟨rfl, hZ, hh⟩ := hP
  have hx := Bd.exec
  have hby := Bd.bytes
  have hlk := BodyLoose.notSynchronized Bd
  have hml : c.maxLocals = 5 := hml0
  have hown : s.vm.findClass own_s2 = some m.cls := findClass_of_methodNamed Bd.named
  have hnm := (name_of_methodNamed Bd.named Bd.method).1
  have X0 : Stand p l e ({ frames := 1, cells := 1, slots := 4, locals := 16 } : Room) s m #[(.ref arr)] below meth c s₁ [] 0 0 := Stand.of_body Bd
  have e0 : s₁.heap = h0 := by rw [← hh, Bd.state]; rfl
  have N0 := Fr.nil Z.heap.size
  have K0 : Keep h0 h0 [] := Keep.refl _ _
  refine own_start (Q := Q_own_decode Z arr kk cs h0) (ef_own_decode m (arr)) ?_
  show own_G p e below (s₁.setTop (mkF m 0 #[.val (.ref arr), .unset, .unset, .unset, .unset] [])) _
  rcases own_len3 h3 with rfl | ⟨c0, rfl⟩ | ⟨c0, c1, rfl⟩ | ⟨c0, c1, c2, rfl⟩
  · have VA : own_A Z h0 arr kk .char [] := q0
    show own_G p e below (s₁.setTop (mkF m 0 #[.val (.ref arr), .unset, .unset, .unset, .unset] [])) _
    refine own_go (fun t k => XS.iconst X0.here hx rfl (hb hby d_method_7_code_0) k) ?_
    obtain ⟨T1z, h1z, kc1z, X1z, e1z, E1z, V1z, st1z⟩ := own_newP X0 hx hZ (own_hw hw 154 rfl) e0 (g := (mkF m 1 #[.val (.ref arr), .unset, .unset, .unset, .unset] [(.int (4 : Int32))])) rfl (hb hby d_method_7_code_1) rfl (i := 4) (by decide) (cap := 4) (by decide) (by decide) (by decide) (by decide)
    obtain ⟨b1z, g1z⟩ : ∃ z, z = h0.size := ⟨_, rfl⟩
    rw [← g1z] at V1z st1z
    have fr_b1z : Z.heap.size ≤ b1z := g1z ▸ O0.1
    have lz_b1z : h0.size ≤ b1z := g1z ▸ K0.1
    have ne_arr_b1z : arr ≠ b1z := Nat.ne_of_lt (g1z ▸ VA.lt)
    have O2z := own_ext_trans O0 E1z
    have K2z := K0.ext E1z
    have V1z : own_A Z h1z b1z kc1z .int [(.int (0 : Int32)), (.int (0 : Int32)), (.int (0 : Int32)), (.int (0 : Int32))] := V1z
    refine own_go st1z ?_
    refine own_go (fun t k => XS.astoreN X1z.here hx rfl (hb hby d_method_7_code_3) rfl rfl (l' := #[.val (.ref arr), .val (.ref b1z), .unset, .unset, .unset]) rfl k) ?_
    show own_G p e below (T1z.setTop (mkF m 4 #[.val (.ref arr), .val (.ref b1z), .unset, .unset, .unset] [])) _
    refine own_go (fun t k => XS.iconst X1z.here hx rfl (hb hby d_method_7_code_4) k) ?_
    refine own_go (fun t k => XS.istoreN X1z.here hx rfl (hb hby d_method_7_code_5) rfl (l' := #[.val (.ref arr), .val (.ref b1z), .val (.int (0 : Int32)), .unset, .unset]) rfl k) ?_
    refine own_go (fun t k => XS.iconst X1z.here hx rfl (hb hby d_method_7_code_6) k) ?_
    show own_G p e below (T1z.setTop (mkF m 7 #[.val (.ref arr), .val (.ref b1z), .val (.int (0 : Int32)), .unset, .unset] [(.int (0 : Int32))])) _
    refine own_go (fun t k => XS.istoreN X1z.here hx rfl (hb hby d_method_7_code_7) rfl (l' := #[.val (.ref arr), .val (.ref b1z), .val (.int (0 : Int32)), .val (.int (0 : Int32)), .unset]) rfl k) ?_
    refine own_go (fun t k => XS.iloadN X1z.here hx rfl (hb hby d_method_7_code_8) rfl k) ?_
    refine own_go (fun t k => XS.aloadN X1z.here hx rfl (hb hby d_method_7_code_9) rfl rfl k) ?_
    show own_G p e below (T1z.setTop (mkF m 10 #[.val (.ref arr), .val (.ref b1z), .val (.int (0 : Int32)), .val (.int (0 : Int32)), .unset] [(.ref arr), (.int (0 : Int32))])) _
    refine own_go (own_len X1z hx hZ e1z (VA.ext E1z) (z := (0 : Int32)) (by show (0 : Int32).toInt = ((0 : Nat) : Int); decide) (g := (mkF m 10 #[.val (.ref arr), .val (.ref b1z), .val (.int (0 : Int32)), .val (.int (0 : Int32)), .unset] [(.ref arr), (.int (0 : Int32))])) rfl rfl (hb hby d_method_7_code_10)) ?_
    refine own_go (fun t k => XS.icmpYes X1z.here hx rfl (pc0 := 11) (pc' := 44) rfl (hb hby d_method_7_code_11) rfl (flt (by decide : ¬ ((0 : Int32) < (0 : Int32)))).2.1 (by decide) (by decide) k) ?_
    show own_G p e below (T1z.setTop (mkF m 44 #[.val (.ref arr), .val (.ref b1z), .val (.int (0 : Int32)), .val (.int (0 : Int32)), .unset] [])) _
    refine own_go (fun t k => XS.iloadN X1z.here hx rfl (hb hby d_method_7_code_44) rfl k) ?_
    refine own_go (fun t k => XS.aloadN X1z.here hx rfl (hb hby d_method_7_code_45) rfl rfl k) ?_
    refine own_go (own_len X1z hx hZ e1z (VA.ext E1z) (z := (0 : Int32)) (by show (0 : Int32).toInt = ((0 : Nat) : Int); decide) (g := (mkF m 46 #[.val (.ref arr), .val (.ref b1z), .val (.int (0 : Int32)), .val (.int (0 : Int32)), .unset] [(.ref arr), (.int (0 : Int32))])) rfl rfl (hb hby d_method_7_code_46)) ?_
    show own_G p e below (T1z.setTop (mkF m 47 #[.val (.ref arr), .val (.ref b1z), .val (.int (0 : Int32)), .val (.int (0 : Int32)), .unset] [(.int (0 : Int32)), (.int (0 : Int32))])) _
    refine own_go (fun t k => XS.icmpYes X1z.here hx rfl (pc0 := 47) (pc' := 80) rfl (hb hby d_method_7_code_47) rfl (flt (by decide : ¬ ((0 : Int32) < (0 : Int32)))).2.1 (by decide) (by decide) k) ?_
    show own_G p e below (T1z.setTop (mkF m 80 #[.val (.ref arr), .val (.ref b1z), .val (.int (0 : Int32)), .val (.int (0 : Int32)), .unset] [])) _
    refine own_go (fun t k => XS.iloadN X1z.here hx rfl (hb hby d_method_7_code_80) rfl k) ?_
    refine own_go (fun t k => XS.aloadN X1z.here hx rfl (hb hby d_method_7_code_81) rfl rfl k) ?_
    refine own_go (own_len X1z hx hZ e1z (VA.ext E1z) (z := (0 : Int32)) (by show (0 : Int32).toInt = ((0 : Nat) : Int); decide) (g := (mkF m 82 #[.val (.ref arr), .val (.ref b1z), .val (.int (0 : Int32)), .val (.int (0 : Int32)), .unset] [(.ref arr), (.int (0 : Int32))])) rfl rfl (hb hby d_method_7_code_82)) ?_
    show own_G p e below (T1z.setTop (mkF m 83 #[.val (.ref arr), .val (.ref b1z), .val (.int (0 : Int32)), .val (.int (0 : Int32)), .unset] [(.int (0 : Int32)), (.int (0 : Int32))])) _
    refine own_go (fun t k => XS.icmpYes X1z.here hx rfl (pc0 := 83) (pc' := 116) rfl (hb hby d_method_7_code_83) rfl (flt (by decide : ¬ ((0 : Int32) < (0 : Int32)))).2.1 (by decide) (by decide) k) ?_
    show own_G p e below (T1z.setTop (mkF m 116 #[.val (.ref arr), .val (.ref b1z), .val (.int (0 : Int32)), .val (.int (0 : Int32)), .unset] [])) _
    refine own_go (fun t k => XS.aloadN X1z.here hx rfl (hb hby d_method_7_code_116) rfl rfl k) ?_
    refine own_go (fun t k => XS.iconst X1z.here hx rfl (hb hby d_method_7_code_117) k) ?_
    refine own_go (fun t k => XS.iloadN X1z.here hx rfl (hb hby d_method_7_code_118) rfl k) ?_
    show own_G p e below (T1z.setTop (mkF m 119 #[.val (.ref arr), .val (.ref b1z), .val (.int (0 : Int32)), .val (.int (0 : Int32)), .unset] [(.int (0 : Int32)), (.int (3 : Int32)), (.ref b1z)])) _
    obtain ⟨T3z, h3z, X3z, e3z, W3z, V3z, st3z⟩ := own_stI X1z hx hZ e1z V1z (i := 3) (by decide) (Nat.le_of_ble_eq_true rfl) (g := (mkF m 119 #[.val (.ref arr), .val (.ref b1z), .val (.int (0 : Int32)), .val (.int (0 : Int32)), .unset] [(.int (0 : Int32)), (.int (3 : Int32)), (.ref b1z)])) rfl rfl (hb hby d_method_7_code_119)
    refine own_go st3z ?_
    have N3z := Fr.snoc X3z N0 fr_b1z
    have O4z := own_ext_wr O2z W3z fr_b1z
    have K4z := K2z.wr W3z (Or.inr lz_b1z)
    have V3z : own_A Z h3z b1z kc1z .int [(.int (0 : Int32)), (.int (0 : Int32)), (.int (0 : Int32)), (.int (0 : Int32))] := V3z
    refine own_go (fun t k => XS.aloadN X3z.here hx rfl (hb hby d_method_7_code_120) rfl rfl k) ?_
    exact own_ret X3z hx Bd.returns rfl (Or.inr (Or.inr (Or.inr (Or.inr ⟨rfl, rfl, rfl⟩)))) (hb hby d_method_7_code_121) hlk (Nat.le_of_ble_eq_true rfl) (Nat.le_of_ble_eq_true rfl) (by show Q_own_decode Z arr kk [] h0 _ T3z.heap _; rw [e3z]; exact ⟨b1z, kc1z, (0 : Int32), (0 : Int32), (0 : Int32), (0 : Int32), rfl, N3z, K4z, V3z, lz_b1z, (own_decs0 (cs := []) ((own_d0 (cs := []) (i := 0) (by simp)) : own_dec (List.drop 0 []) = _))⟩)
  · have VA : own_A Z h0 arr kk .char [(.int c0)] := q0
    show own_G p e below (s₁.setTop (mkF m 0 #[.val (.ref arr), .unset, .unset, .unset, .unset] [])) _
    refine own_go (fun t k => XS.iconst X0.here hx rfl (hb hby d_method_7_code_0) k) ?_
    obtain ⟨T5z, h5z, kc5z, X5z, e5z, E5z, V5z, st5z⟩ := own_newP X0 hx hZ (own_hw hw 154 rfl) e0 (g := (mkF m 1 #[.val (.ref arr), .unset, .unset, .unset, .unset] [(.int (4 : Int32))])) rfl (hb hby d_method_7_code_1) rfl (i := 4) (by decide) (cap := 4) (by decide) (by decide) (by decide) (by decide)
    obtain ⟨b5z, g5z⟩ : ∃ z, z = h0.size := ⟨_, rfl⟩
    rw [← g5z] at V5z st5z
    have fr_b5z : Z.heap.size ≤ b5z := g5z ▸ O0.1
    have lz_b5z : h0.size ≤ b5z := g5z ▸ K0.1
    have ne_arr_b5z : arr ≠ b5z := Nat.ne_of_lt (g5z ▸ VA.lt)
    have O6z := own_ext_trans O0 E5z
    have K6z := K0.ext E5z
    have V5z : own_A Z h5z b5z kc5z .int [(.int (0 : Int32)), (.int (0 : Int32)), (.int (0 : Int32)), (.int (0 : Int32))] := V5z
    refine own_go st5z ?_
    refine own_go (fun t k => XS.astoreN X5z.here hx rfl (hb hby d_method_7_code_3) rfl rfl (l' := #[.val (.ref arr), .val (.ref b5z), .unset, .unset, .unset]) rfl k) ?_
    show own_G p e below (T5z.setTop (mkF m 4 #[.val (.ref arr), .val (.ref b5z), .unset, .unset, .unset] [])) _
    refine own_go (fun t k => XS.iconst X5z.here hx rfl (hb hby d_method_7_code_4) k) ?_
    refine own_go (fun t k => XS.istoreN X5z.here hx rfl (hb hby d_method_7_code_5) rfl (l' := #[.val (.ref arr), .val (.ref b5z), .val (.int (0 : Int32)), .unset, .unset]) rfl k) ?_
    refine own_go (fun t k => XS.iconst X5z.here hx rfl (hb hby d_method_7_code_6) k) ?_
    show own_G p e below (T5z.setTop (mkF m 7 #[.val (.ref arr), .val (.ref b5z), .val (.int (0 : Int32)), .unset, .unset] [(.int (0 : Int32))])) _
    refine own_go (fun t k => XS.istoreN X5z.here hx rfl (hb hby d_method_7_code_7) rfl (l' := #[.val (.ref arr), .val (.ref b5z), .val (.int (0 : Int32)), .val (.int (0 : Int32)), .unset]) rfl k) ?_
    refine own_go (fun t k => XS.iloadN X5z.here hx rfl (hb hby d_method_7_code_8) rfl k) ?_
    refine own_go (fun t k => XS.aloadN X5z.here hx rfl (hb hby d_method_7_code_9) rfl rfl k) ?_
    show own_G p e below (T5z.setTop (mkF m 10 #[.val (.ref arr), .val (.ref b5z), .val (.int (0 : Int32)), .val (.int (0 : Int32)), .unset] [(.ref arr), (.int (0 : Int32))])) _
    refine own_go (own_len X5z hx hZ e5z (VA.ext E5z) (z := (1 : Int32)) (by show (1 : Int32).toInt = ((1 : Nat) : Int); decide) (g := (mkF m 10 #[.val (.ref arr), .val (.ref b5z), .val (.int (0 : Int32)), .val (.int (0 : Int32)), .unset] [(.ref arr), (.int (0 : Int32))])) rfl rfl (hb hby d_method_7_code_10)) ?_
    refine own_go (fun t k => XS.icmpNo X5z.here hx rfl (hb hby d_method_7_code_11) rfl (tlt (by decide : (0 : Int32) < (1 : Int32))).2.1 k) ?_
    show own_G p e below (T5z.setTop (mkF m 14 #[.val (.ref arr), .val (.ref b5z), .val (.int (0 : Int32)), .val (.int (0 : Int32)), .unset] [])) _
    refine own_go (fun t k => XS.aloadN X5z.here hx rfl (hb hby d_method_7_code_14) rfl rfl k) ?_
    refine own_go (fun t k => XS.iloadN X5z.here hx rfl (hb hby d_method_7_code_15) rfl k) ?_
    obtain ⟨_, _, ⟨T7z, L7z, k7z, n7z⟩, -, X7z, ⟨Lc7z, hQ7z, l7z, y7z, z7z⟩, st7z⟩ := Jvm.LawKit.callS X5z hx (y := own_m14) hown (own_mw hZ hw 155 rfl) (own_mw hZ hw 156 rfl) (own_mw hZ hw 26 rfl) (own_mw hZ hw 157 rfl) (by decide) (backOf (W := 0) (own_cpAt l Z a0 hw [] arr kk ([c0]) (0 : Int32) 0 h5z O6z (VA.ext E5z) (by decide) (by simp) h3) hZ (own_hw hw 157 rfl) (own_hw hw 26 rfl) (by decide) (by decide)) (g := (mkF m 16 #[.val (.ref arr), .val (.ref b5z), .val (.int (0 : Int32)), .val (.int (0 : Int32)), .unset] [(.int (0 : Int32)), (.ref arr)])) rfl (by rw [hml]; rfl) (argsL := [(.ref arr), (.int (0 : Int32))]) (rest := []) (lenOf pd_1807879494 rfl) rfl (by show 2 * 0 + _ ≤ _; exact Nat.le_of_eq rfl) (hb hby d_method_7_code_16) (fun _ _ => ⟨rfl, e5z, (by decide : 1 + 0 ≤ _), (by decide : 4 + 0 ≤ _)⟩)
    dsimp only [Pt.U, Pt.locs, Pt.cells, Pt.slots] at X7z l7z y7z z7z st7z hQ7z
    subst l7z y7z z7z
    obtain ⟨rfl, NQ7z, K7zq⟩ := hQ7z
    refine own_go st7z ?_
    have N7z := Fr.app N0 NQ7z
    show own_G p e below (T7z.setTop (mkF m 19 #[.val (.ref arr), .val (.ref b5z), .val (.int (0 : Int32)), .val (.int (0 : Int32)), .unset] [(.int (own_cpx [c0] 0))])) _
    refine own_go (fun t k => XS.istore X7z.here hx rfl (hb hby d_method_7_code_19) rfl (l' := #[.val (.ref arr), .val (.ref b5z), .val (.int (0 : Int32)), .val (.int (0 : Int32)), .val (.int (own_cpx [c0] 0))]) rfl k) ?_
    refine own_go (fun t k => XS.aloadN X7z.here hx rfl (hb hby d_method_7_code_21) rfl rfl k) ?_
    refine own_go (fun t k => XS.iloadN X7z.here hx rfl (hb hby d_method_7_code_22) rfl k) ?_
    show own_G p e below (T7z.setTop (mkF m 23 #[.val (.ref arr), .val (.ref b5z), .val (.int (0 : Int32)), .val (.int (0 : Int32)), .val (.int (own_cpx [c0] 0))] [(.int (0 : Int32)), (.ref b5z)])) _
    refine own_go (fun t k => XS.iload X7z.here hx rfl (hb hby d_method_7_code_23) rfl k) ?_
    obtain ⟨T8z, h8z, X8z, e8z, W8z, V8z, st8z⟩ := own_stI X7z hx hZ K7zq V5z (i := 0) (by decide) (Nat.le_of_ble_eq_true rfl) (g := (mkF m 25 #[.val (.ref arr), .val (.ref b5z), .val (.int (0 : Int32)), .val (.int (0 : Int32)), .val (.int (own_cpx [c0] 0))] [(.int (own_cpx [c0] 0)), (.int (0 : Int32)), (.ref b5z)])) rfl rfl (hb hby d_method_7_code_25)
    refine own_go st8z ?_
    have N8z := Fr.snoc X8z N7z fr_b5z
    have O9z := own_ext_wr O6z W8z fr_b5z
    have K9z := K6z.wr W8z (Or.inr lz_b5z)
    have V8z : own_A Z h8z b5z kc5z .int [(.int (own_cpx [c0] 0)), (.int (0 : Int32)), (.int (0 : Int32)), (.int (0 : Int32))] := V8z
    refine own_go (fun t k => XS.iinc X8z.here hx rfl (hb hby d_method_7_code_26) rfl (l' := #[.val (.ref arr), .val (.ref b5z), .val (.int (0 : Int32)), .val (.int (1 : Int32)), .val (.int (own_cpx [c0] 0))]) rfl k) ?_
    show own_G p e below (T8z.setTop (mkF m 29 #[.val (.ref arr), .val (.ref b5z), .val (.int (0 : Int32)), .val (.int (1 : Int32)), .val (.int (own_cpx [c0] 0))] [])) _
    refine own_go (fun t k => XS.iloadN X8z.here hx rfl (hb hby d_method_7_code_29) rfl k) ?_
    refine own_go (fun t k => XS.iload X8z.here hx rfl (hb hby d_method_7_code_30) rfl k) ?_
    refine own_go (fun t k => X8z.ldcI hx hown (mvT hZ (own_hw hw 159 rfl)) rfl (hb hby d_method_7_code_32) k) ?_
    show own_G p e below (T8z.setTop (mkF m 34 #[.val (.ref arr), .val (.ref b5z), .val (.int (0 : Int32)), .val (.int (1 : Int32)), .val (.int (own_cpx [c0] 0))] [(.int (65536 : Int32)), (.int (own_cpx [c0] 0)), (.int (0 : Int32))])) _
    by_cases hc10z : (own_cpx [c0] 0) < (65536 : Int32)
    · refine own_go (fun t k => XS.icmpYes X8z.here hx rfl (pc0 := 34) (pc' := 41) rfl (hb hby d_method_7_code_34) rfl (tlt hc10z).1 (by decide) (by decide) k) ?_
      show own_G p e below (T8z.setTop (mkF m 41 #[.val (.ref arr), .val (.ref b5z), .val (.int (0 : Int32)), .val (.int (1 : Int32)), .val (.int (own_cpx [c0] 0))] [(.int (0 : Int32))])) _
      refine own_go (fun t k => XS.iconst X8z.here hx rfl (hb hby d_method_7_code_41) k) ?_
      refine own_go (fun t k => XS.iadd X8z.here hx rfl (hb hby d_method_7_code_42) rfl k) ?_
      refine own_go (fun t k => XS.istoreN X8z.here hx rfl (hb hby d_method_7_code_43) rfl (l' := #[.val (.ref arr), .val (.ref b5z), .val (.int (1 : Int32)), .val (.int (1 : Int32)), .val (.int (own_cpx [c0] 0))]) rfl k) ?_
      show own_G p e below (T8z.setTop (mkF m 44 #[.val (.ref arr), .val (.ref b5z), .val (.int (1 : Int32)), .val (.int (1 : Int32)), .val (.int (own_cpx [c0] 0))] [])) _
      refine own_go (fun t k => XS.iloadN X8z.here hx rfl (hb hby d_method_7_code_44) rfl k) ?_
      refine own_go (fun t k => XS.aloadN X8z.here hx rfl (hb hby d_method_7_code_45) rfl rfl k) ?_
      refine own_go (own_len X8z hx hZ e8z ((VA.ext E5z).other W8z ne_arr_b5z) (z := (1 : Int32)) (by show (1 : Int32).toInt = ((1 : Nat) : Int); decide) (g := (mkF m 46 #[.val (.ref arr), .val (.ref b5z), .val (.int (1 : Int32)), .val (.int (1 : Int32)), .val (.int (own_cpx [c0] 0))] [(.ref arr), (.int (1 : Int32))])) rfl rfl (hb hby d_method_7_code_46)) ?_
      show own_G p e below (T8z.setTop (mkF m 47 #[.val (.ref arr), .val (.ref b5z), .val (.int (1 : Int32)), .val (.int (1 : Int32)), .val (.int (own_cpx [c0] 0))] [(.int (1 : Int32)), (.int (1 : Int32))])) _
      refine own_go (fun t k => XS.icmpYes X8z.here hx rfl (pc0 := 47) (pc' := 80) rfl (hb hby d_method_7_code_47) rfl (flt (by decide : ¬ ((1 : Int32) < (1 : Int32)))).2.1 (by decide) (by decide) k) ?_
      show own_G p e below (T8z.setTop (mkF m 80 #[.val (.ref arr), .val (.ref b5z), .val (.int (1 : Int32)), .val (.int (1 : Int32)), .val (.int (own_cpx [c0] 0))] [])) _
      refine own_go (fun t k => XS.iloadN X8z.here hx rfl (hb hby d_method_7_code_80) rfl k) ?_
      refine own_go (fun t k => XS.aloadN X8z.here hx rfl (hb hby d_method_7_code_81) rfl rfl k) ?_
      refine own_go (own_len X8z hx hZ e8z ((VA.ext E5z).other W8z ne_arr_b5z) (z := (1 : Int32)) (by show (1 : Int32).toInt = ((1 : Nat) : Int); decide) (g := (mkF m 82 #[.val (.ref arr), .val (.ref b5z), .val (.int (1 : Int32)), .val (.int (1 : Int32)), .val (.int (own_cpx [c0] 0))] [(.ref arr), (.int (1 : Int32))])) rfl rfl (hb hby d_method_7_code_82)) ?_
      show own_G p e below (T8z.setTop (mkF m 83 #[.val (.ref arr), .val (.ref b5z), .val (.int (1 : Int32)), .val (.int (1 : Int32)), .val (.int (own_cpx [c0] 0))] [(.int (1 : Int32)), (.int (1 : Int32))])) _
      refine own_go (fun t k => XS.icmpYes X8z.here hx rfl (pc0 := 83) (pc' := 116) rfl (hb hby d_method_7_code_83) rfl (flt (by decide : ¬ ((1 : Int32) < (1 : Int32)))).2.1 (by decide) (by decide) k) ?_
      show own_G p e below (T8z.setTop (mkF m 116 #[.val (.ref arr), .val (.ref b5z), .val (.int (1 : Int32)), .val (.int (1 : Int32)), .val (.int (own_cpx [c0] 0))] [])) _
      refine own_go (fun t k => XS.aloadN X8z.here hx rfl (hb hby d_method_7_code_116) rfl rfl k) ?_
      refine own_go (fun t k => XS.iconst X8z.here hx rfl (hb hby d_method_7_code_117) k) ?_
      refine own_go (fun t k => XS.iloadN X8z.here hx rfl (hb hby d_method_7_code_118) rfl k) ?_
      show own_G p e below (T8z.setTop (mkF m 119 #[.val (.ref arr), .val (.ref b5z), .val (.int (1 : Int32)), .val (.int (1 : Int32)), .val (.int (own_cpx [c0] 0))] [(.int (1 : Int32)), (.int (3 : Int32)), (.ref b5z)])) _
      obtain ⟨T11z, h11z, X11z, e11z, W11z, V11z, st11z⟩ := own_stI X8z hx hZ e8z V8z (i := 3) (by decide) (Nat.le_of_ble_eq_true rfl) (g := (mkF m 119 #[.val (.ref arr), .val (.ref b5z), .val (.int (1 : Int32)), .val (.int (1 : Int32)), .val (.int (own_cpx [c0] 0))] [(.int (1 : Int32)), (.int (3 : Int32)), (.ref b5z)])) rfl rfl (hb hby d_method_7_code_119)
      refine own_go st11z ?_
      have N11z := Fr.snoc X11z N8z fr_b5z
      have O12z := own_ext_wr O9z W11z fr_b5z
      have K12z := K9z.wr W11z (Or.inr lz_b5z)
      have V11z : own_A Z h11z b5z kc5z .int [(.int (own_cpx [c0] 0)), (.int (0 : Int32)), (.int (0 : Int32)), (.int (1 : Int32))] := V11z
      refine own_go (fun t k => XS.aloadN X11z.here hx rfl (hb hby d_method_7_code_120) rfl rfl k) ?_
      exact own_ret X11z hx Bd.returns rfl (Or.inr (Or.inr (Or.inr (Or.inr ⟨rfl, rfl, rfl⟩)))) (hb hby d_method_7_code_121) hlk (Nat.le_of_ble_eq_true rfl) (Nat.le_of_ble_eq_true rfl) (by show Q_own_decode Z arr kk [c0] h0 _ T11z.heap _; rw [e11z]; exact ⟨b5z, kc5z, (own_cpx [c0] 0), (0 : Int32), (0 : Int32), (1 : Int32), rfl, N11z, K12z, V11z, lz_b5z, (own_decs1 (cs := [c0]) (((own_d1 hc (by simp) hc10z).trans (congrArg (List.cons _) (own_d0 (cs := [c0]) (i := 1) (by simp)))) : own_dec (List.drop 0 [c0]) = _))⟩)
    · refine own_go (fun t k => XS.icmpNo X8z.here hx rfl (hb hby d_method_7_code_34) rfl (flt hc10z).1 k) ?_
      show own_G p e below (T8z.setTop (mkF m 37 #[.val (.ref arr), .val (.ref b5z), .val (.int (0 : Int32)), .val (.int (1 : Int32)), .val (.int (own_cpx [c0] 0))] [(.int (0 : Int32))])) _
      refine own_go (fun t k => XS.iconst X8z.here hx rfl (hb hby d_method_7_code_37) k) ?_
      refine own_go (fun t k => XS.goto X8z.here hx rfl (pc0 := 38) (pc' := 42) rfl (hb hby d_method_7_code_38) (by decide) (by decide) k) ?_
      show own_G p e below (T8z.setTop (mkF m 42 #[.val (.ref arr), .val (.ref b5z), .val (.int (0 : Int32)), .val (.int (1 : Int32)), .val (.int (own_cpx [c0] 0))] [(.int (2 : Int32)), (.int (0 : Int32))])) _
      refine own_go (fun t k => XS.iadd X8z.here hx rfl (hb hby d_method_7_code_42) rfl k) ?_
      refine own_go (fun t k => XS.istoreN X8z.here hx rfl (hb hby d_method_7_code_43) rfl (l' := #[.val (.ref arr), .val (.ref b5z), .val (.int (2 : Int32)), .val (.int (1 : Int32)), .val (.int (own_cpx [c0] 0))]) rfl k) ?_
      refine own_go (fun t k => XS.iloadN X8z.here hx rfl (hb hby d_method_7_code_44) rfl k) ?_
      show own_G p e below (T8z.setTop (mkF m 45 #[.val (.ref arr), .val (.ref b5z), .val (.int (2 : Int32)), .val (.int (1 : Int32)), .val (.int (own_cpx [c0] 0))] [(.int (2 : Int32))])) _
      refine own_go (fun t k => XS.aloadN X8z.here hx rfl (hb hby d_method_7_code_45) rfl rfl k) ?_
      refine own_go (own_len X8z hx hZ e8z ((VA.ext E5z).other W8z ne_arr_b5z) (z := (1 : Int32)) (by show (1 : Int32).toInt = ((1 : Nat) : Int); decide) (g := (mkF m 46 #[.val (.ref arr), .val (.ref b5z), .val (.int (2 : Int32)), .val (.int (1 : Int32)), .val (.int (own_cpx [c0] 0))] [(.ref arr), (.int (2 : Int32))])) rfl rfl (hb hby d_method_7_code_46)) ?_
      refine own_go (fun t k => XS.icmpYes X8z.here hx rfl (pc0 := 47) (pc' := 80) rfl (hb hby d_method_7_code_47) rfl (flt (by decide : ¬ ((2 : Int32) < (1 : Int32)))).2.1 (by decide) (by decide) k) ?_
      show own_G p e below (T8z.setTop (mkF m 80 #[.val (.ref arr), .val (.ref b5z), .val (.int (2 : Int32)), .val (.int (1 : Int32)), .val (.int (own_cpx [c0] 0))] [])) _
      refine own_go (fun t k => XS.iloadN X8z.here hx rfl (hb hby d_method_7_code_80) rfl k) ?_
      refine own_go (fun t k => XS.aloadN X8z.here hx rfl (hb hby d_method_7_code_81) rfl rfl k) ?_
      refine own_go (own_len X8z hx hZ e8z ((VA.ext E5z).other W8z ne_arr_b5z) (z := (1 : Int32)) (by show (1 : Int32).toInt = ((1 : Nat) : Int); decide) (g := (mkF m 82 #[.val (.ref arr), .val (.ref b5z), .val (.int (2 : Int32)), .val (.int (1 : Int32)), .val (.int (own_cpx [c0] 0))] [(.ref arr), (.int (2 : Int32))])) rfl rfl (hb hby d_method_7_code_82)) ?_
      show own_G p e below (T8z.setTop (mkF m 83 #[.val (.ref arr), .val (.ref b5z), .val (.int (2 : Int32)), .val (.int (1 : Int32)), .val (.int (own_cpx [c0] 0))] [(.int (1 : Int32)), (.int (2 : Int32))])) _
      refine own_go (fun t k => XS.icmpYes X8z.here hx rfl (pc0 := 83) (pc' := 116) rfl (hb hby d_method_7_code_83) rfl (flt (by decide : ¬ ((2 : Int32) < (1 : Int32)))).2.1 (by decide) (by decide) k) ?_
      show own_G p e below (T8z.setTop (mkF m 116 #[.val (.ref arr), .val (.ref b5z), .val (.int (2 : Int32)), .val (.int (1 : Int32)), .val (.int (own_cpx [c0] 0))] [])) _
      refine own_go (fun t k => XS.aloadN X8z.here hx rfl (hb hby d_method_7_code_116) rfl rfl k) ?_
      refine own_go (fun t k => XS.iconst X8z.here hx rfl (hb hby d_method_7_code_117) k) ?_
      refine own_go (fun t k => XS.iloadN X8z.here hx rfl (hb hby d_method_7_code_118) rfl k) ?_
      show own_G p e below (T8z.setTop (mkF m 119 #[.val (.ref arr), .val (.ref b5z), .val (.int (2 : Int32)), .val (.int (1 : Int32)), .val (.int (own_cpx [c0] 0))] [(.int (1 : Int32)), (.int (3 : Int32)), (.ref b5z)])) _
      obtain ⟨T13z, h13z, X13z, e13z, W13z, V13z, st13z⟩ := own_stI X8z hx hZ e8z V8z (i := 3) (by decide) (Nat.le_of_ble_eq_true rfl) (g := (mkF m 119 #[.val (.ref arr), .val (.ref b5z), .val (.int (2 : Int32)), .val (.int (1 : Int32)), .val (.int (own_cpx [c0] 0))] [(.int (1 : Int32)), (.int (3 : Int32)), (.ref b5z)])) rfl rfl (hb hby d_method_7_code_119)
      refine own_go st13z ?_
      have N13z := Fr.snoc X13z N8z fr_b5z
      have O14z := own_ext_wr O9z W13z fr_b5z
      have K14z := K9z.wr W13z (Or.inr lz_b5z)
      have V13z : own_A Z h13z b5z kc5z .int [(.int (own_cpx [c0] 0)), (.int (0 : Int32)), (.int (0 : Int32)), (.int (1 : Int32))] := V13z
      refine own_go (fun t k => XS.aloadN X13z.here hx rfl (hb hby d_method_7_code_120) rfl rfl k) ?_
      exact own_ret X13z hx Bd.returns rfl (Or.inr (Or.inr (Or.inr (Or.inr ⟨rfl, rfl, rfl⟩)))) (hb hby d_method_7_code_121) hlk (Nat.le_of_ble_eq_true rfl) (Nat.le_of_ble_eq_true rfl) (by show Q_own_decode Z arr kk [c0] h0 _ T13z.heap _; rw [e13z]; exact ⟨b5z, kc5z, (own_cpx [c0] 0), (0 : Int32), (0 : Int32), (1 : Int32), rfl, N13z, K14z, V13z, lz_b5z, (own_decs1 (cs := [c0]) (((own_d2 hc (by simp) hc10z).trans (congrArg (List.cons _) (own_d0 (cs := [c0]) (i := 2) (by simp)))) : own_dec (List.drop 0 [c0]) = _))⟩)
  · have VA : own_A Z h0 arr kk .char [(.int c0), (.int c1)] := q0
    show own_G p e below (s₁.setTop (mkF m 0 #[.val (.ref arr), .unset, .unset, .unset, .unset] [])) _
    refine own_go (fun t k => XS.iconst X0.here hx rfl (hb hby d_method_7_code_0) k) ?_
    obtain ⟨T15z, h15z, kc15z, X15z, e15z, E15z, V15z, st15z⟩ := own_newP X0 hx hZ (own_hw hw 154 rfl) e0 (g := (mkF m 1 #[.val (.ref arr), .unset, .unset, .unset, .unset] [(.int (4 : Int32))])) rfl (hb hby d_method_7_code_1) rfl (i := 4) (by decide) (cap := 4) (by decide) (by decide) (by decide) (by decide)
    obtain ⟨b15z, g15z⟩ : ∃ z, z = h0.size := ⟨_, rfl⟩
    rw [← g15z] at V15z st15z
    have fr_b15z : Z.heap.size ≤ b15z := g15z ▸ O0.1
    have lz_b15z : h0.size ≤ b15z := g15z ▸ K0.1
    have ne_arr_b15z : arr ≠ b15z := Nat.ne_of_lt (g15z ▸ VA.lt)
    have O16z := own_ext_trans O0 E15z
    have K16z := K0.ext E15z
    have V15z : own_A Z h15z b15z kc15z .int [(.int (0 : Int32)), (.int (0 : Int32)), (.int (0 : Int32)), (.int (0 : Int32))] := V15z
    refine own_go st15z ?_
    refine own_go (fun t k => XS.astoreN X15z.here hx rfl (hb hby d_method_7_code_3) rfl rfl (l' := #[.val (.ref arr), .val (.ref b15z), .unset, .unset, .unset]) rfl k) ?_
    show own_G p e below (T15z.setTop (mkF m 4 #[.val (.ref arr), .val (.ref b15z), .unset, .unset, .unset] [])) _
    refine own_go (fun t k => XS.iconst X15z.here hx rfl (hb hby d_method_7_code_4) k) ?_
    refine own_go (fun t k => XS.istoreN X15z.here hx rfl (hb hby d_method_7_code_5) rfl (l' := #[.val (.ref arr), .val (.ref b15z), .val (.int (0 : Int32)), .unset, .unset]) rfl k) ?_
    refine own_go (fun t k => XS.iconst X15z.here hx rfl (hb hby d_method_7_code_6) k) ?_
    show own_G p e below (T15z.setTop (mkF m 7 #[.val (.ref arr), .val (.ref b15z), .val (.int (0 : Int32)), .unset, .unset] [(.int (0 : Int32))])) _
    refine own_go (fun t k => XS.istoreN X15z.here hx rfl (hb hby d_method_7_code_7) rfl (l' := #[.val (.ref arr), .val (.ref b15z), .val (.int (0 : Int32)), .val (.int (0 : Int32)), .unset]) rfl k) ?_
    refine own_go (fun t k => XS.iloadN X15z.here hx rfl (hb hby d_method_7_code_8) rfl k) ?_
    refine own_go (fun t k => XS.aloadN X15z.here hx rfl (hb hby d_method_7_code_9) rfl rfl k) ?_
    show own_G p e below (T15z.setTop (mkF m 10 #[.val (.ref arr), .val (.ref b15z), .val (.int (0 : Int32)), .val (.int (0 : Int32)), .unset] [(.ref arr), (.int (0 : Int32))])) _
    refine own_go (own_len X15z hx hZ e15z (VA.ext E15z) (z := (2 : Int32)) (by show (2 : Int32).toInt = ((2 : Nat) : Int); decide) (g := (mkF m 10 #[.val (.ref arr), .val (.ref b15z), .val (.int (0 : Int32)), .val (.int (0 : Int32)), .unset] [(.ref arr), (.int (0 : Int32))])) rfl rfl (hb hby d_method_7_code_10)) ?_
    refine own_go (fun t k => XS.icmpNo X15z.here hx rfl (hb hby d_method_7_code_11) rfl (tlt (by decide : (0 : Int32) < (2 : Int32))).2.1 k) ?_
    show own_G p e below (T15z.setTop (mkF m 14 #[.val (.ref arr), .val (.ref b15z), .val (.int (0 : Int32)), .val (.int (0 : Int32)), .unset] [])) _
    refine own_go (fun t k => XS.aloadN X15z.here hx rfl (hb hby d_method_7_code_14) rfl rfl k) ?_
    refine own_go (fun t k => XS.iloadN X15z.here hx rfl (hb hby d_method_7_code_15) rfl k) ?_
    obtain ⟨_, _, ⟨T17z, L17z, k17z, n17z⟩, -, X17z, ⟨Lc17z, hQ17z, l17z, y17z, z17z⟩, st17z⟩ := Jvm.LawKit.callS X15z hx (y := own_m14) hown (own_mw hZ hw 155 rfl) (own_mw hZ hw 156 rfl) (own_mw hZ hw 26 rfl) (own_mw hZ hw 157 rfl) (by decide) (backOf (W := 0) (own_cpAt l Z a0 hw [] arr kk ([c0, c1]) (0 : Int32) 0 h15z O16z (VA.ext E15z) (by decide) (by simp) h3) hZ (own_hw hw 157 rfl) (own_hw hw 26 rfl) (by decide) (by decide)) (g := (mkF m 16 #[.val (.ref arr), .val (.ref b15z), .val (.int (0 : Int32)), .val (.int (0 : Int32)), .unset] [(.int (0 : Int32)), (.ref arr)])) rfl (by rw [hml]; rfl) (argsL := [(.ref arr), (.int (0 : Int32))]) (rest := []) (lenOf pd_1807879494 rfl) rfl (by show 2 * 0 + _ ≤ _; exact Nat.le_of_eq rfl) (hb hby d_method_7_code_16) (fun _ _ => ⟨rfl, e15z, (by decide : 1 + 0 ≤ _), (by decide : 4 + 0 ≤ _)⟩)
    dsimp only [Pt.U, Pt.locs, Pt.cells, Pt.slots] at X17z l17z y17z z17z st17z hQ17z
    subst l17z y17z z17z
    obtain ⟨rfl, NQ17z, K17zq⟩ := hQ17z
    refine own_go st17z ?_
    have N17z := Fr.app N0 NQ17z
    show own_G p e below (T17z.setTop (mkF m 19 #[.val (.ref arr), .val (.ref b15z), .val (.int (0 : Int32)), .val (.int (0 : Int32)), .unset] [(.int (own_cpx [c0, c1] 0))])) _
    refine own_go (fun t k => XS.istore X17z.here hx rfl (hb hby d_method_7_code_19) rfl (l' := #[.val (.ref arr), .val (.ref b15z), .val (.int (0 : Int32)), .val (.int (0 : Int32)), .val (.int (own_cpx [c0, c1] 0))]) rfl k) ?_
    refine own_go (fun t k => XS.aloadN X17z.here hx rfl (hb hby d_method_7_code_21) rfl rfl k) ?_
    refine own_go (fun t k => XS.iloadN X17z.here hx rfl (hb hby d_method_7_code_22) rfl k) ?_
    show own_G p e below (T17z.setTop (mkF m 23 #[.val (.ref arr), .val (.ref b15z), .val (.int (0 : Int32)), .val (.int (0 : Int32)), .val (.int (own_cpx [c0, c1] 0))] [(.int (0 : Int32)), (.ref b15z)])) _
    refine own_go (fun t k => XS.iload X17z.here hx rfl (hb hby d_method_7_code_23) rfl k) ?_
    obtain ⟨T18z, h18z, X18z, e18z, W18z, V18z, st18z⟩ := own_stI X17z hx hZ K17zq V15z (i := 0) (by decide) (Nat.le_of_ble_eq_true rfl) (g := (mkF m 25 #[.val (.ref arr), .val (.ref b15z), .val (.int (0 : Int32)), .val (.int (0 : Int32)), .val (.int (own_cpx [c0, c1] 0))] [(.int (own_cpx [c0, c1] 0)), (.int (0 : Int32)), (.ref b15z)])) rfl rfl (hb hby d_method_7_code_25)
    refine own_go st18z ?_
    have N18z := Fr.snoc X18z N17z fr_b15z
    have O19z := own_ext_wr O16z W18z fr_b15z
    have K19z := K16z.wr W18z (Or.inr lz_b15z)
    have V18z : own_A Z h18z b15z kc15z .int [(.int (own_cpx [c0, c1] 0)), (.int (0 : Int32)), (.int (0 : Int32)), (.int (0 : Int32))] := V18z
    refine own_go (fun t k => XS.iinc X18z.here hx rfl (hb hby d_method_7_code_26) rfl (l' := #[.val (.ref arr), .val (.ref b15z), .val (.int (0 : Int32)), .val (.int (1 : Int32)), .val (.int (own_cpx [c0, c1] 0))]) rfl k) ?_
    show own_G p e below (T18z.setTop (mkF m 29 #[.val (.ref arr), .val (.ref b15z), .val (.int (0 : Int32)), .val (.int (1 : Int32)), .val (.int (own_cpx [c0, c1] 0))] [])) _
    refine own_go (fun t k => XS.iloadN X18z.here hx rfl (hb hby d_method_7_code_29) rfl k) ?_
    refine own_go (fun t k => XS.iload X18z.here hx rfl (hb hby d_method_7_code_30) rfl k) ?_
    refine own_go (fun t k => X18z.ldcI hx hown (mvT hZ (own_hw hw 159 rfl)) rfl (hb hby d_method_7_code_32) k) ?_
    show own_G p e below (T18z.setTop (mkF m 34 #[.val (.ref arr), .val (.ref b15z), .val (.int (0 : Int32)), .val (.int (1 : Int32)), .val (.int (own_cpx [c0, c1] 0))] [(.int (65536 : Int32)), (.int (own_cpx [c0, c1] 0)), (.int (0 : Int32))])) _
    by_cases hc20z : (own_cpx [c0, c1] 0) < (65536 : Int32)
    · refine own_go (fun t k => XS.icmpYes X18z.here hx rfl (pc0 := 34) (pc' := 41) rfl (hb hby d_method_7_code_34) rfl (tlt hc20z).1 (by decide) (by decide) k) ?_
      show own_G p e below (T18z.setTop (mkF m 41 #[.val (.ref arr), .val (.ref b15z), .val (.int (0 : Int32)), .val (.int (1 : Int32)), .val (.int (own_cpx [c0, c1] 0))] [(.int (0 : Int32))])) _
      refine own_go (fun t k => XS.iconst X18z.here hx rfl (hb hby d_method_7_code_41) k) ?_
      refine own_go (fun t k => XS.iadd X18z.here hx rfl (hb hby d_method_7_code_42) rfl k) ?_
      refine own_go (fun t k => XS.istoreN X18z.here hx rfl (hb hby d_method_7_code_43) rfl (l' := #[.val (.ref arr), .val (.ref b15z), .val (.int (1 : Int32)), .val (.int (1 : Int32)), .val (.int (own_cpx [c0, c1] 0))]) rfl k) ?_
      show own_G p e below (T18z.setTop (mkF m 44 #[.val (.ref arr), .val (.ref b15z), .val (.int (1 : Int32)), .val (.int (1 : Int32)), .val (.int (own_cpx [c0, c1] 0))] [])) _
      refine own_go (fun t k => XS.iloadN X18z.here hx rfl (hb hby d_method_7_code_44) rfl k) ?_
      refine own_go (fun t k => XS.aloadN X18z.here hx rfl (hb hby d_method_7_code_45) rfl rfl k) ?_
      refine own_go (own_len X18z hx hZ e18z ((VA.ext E15z).other W18z ne_arr_b15z) (z := (2 : Int32)) (by show (2 : Int32).toInt = ((2 : Nat) : Int); decide) (g := (mkF m 46 #[.val (.ref arr), .val (.ref b15z), .val (.int (1 : Int32)), .val (.int (1 : Int32)), .val (.int (own_cpx [c0, c1] 0))] [(.ref arr), (.int (1 : Int32))])) rfl rfl (hb hby d_method_7_code_46)) ?_
      show own_G p e below (T18z.setTop (mkF m 47 #[.val (.ref arr), .val (.ref b15z), .val (.int (1 : Int32)), .val (.int (1 : Int32)), .val (.int (own_cpx [c0, c1] 0))] [(.int (2 : Int32)), (.int (1 : Int32))])) _
      refine own_go (fun t k => XS.icmpNo X18z.here hx rfl (hb hby d_method_7_code_47) rfl (tlt (by decide : (1 : Int32) < (2 : Int32))).2.1 k) ?_
      show own_G p e below (T18z.setTop (mkF m 50 #[.val (.ref arr), .val (.ref b15z), .val (.int (1 : Int32)), .val (.int (1 : Int32)), .val (.int (own_cpx [c0, c1] 0))] [])) _
      refine own_go (fun t k => XS.aloadN X18z.here hx rfl (hb hby d_method_7_code_50) rfl rfl k) ?_
      refine own_go (fun t k => XS.iloadN X18z.here hx rfl (hb hby d_method_7_code_51) rfl k) ?_
      obtain ⟨_, _, ⟨T21z, L21z, k21z, n21z⟩, -, X21z, ⟨Lc21z, hQ21z, l21z, y21z, z21z⟩, st21z⟩ := Jvm.LawKit.callS X18z hx (y := own_m14) hown (own_mw hZ hw 155 rfl) (own_mw hZ hw 156 rfl) (own_mw hZ hw 26 rfl) (own_mw hZ hw 157 rfl) (by decide) (backOf (W := 0) (own_cpAt l Z a0 hw [] arr kk ([c0, c1]) (1 : Int32) 1 h18z O19z ((VA.ext E15z).other W18z ne_arr_b15z) (by decide) (by simp) h3) hZ (own_hw hw 157 rfl) (own_hw hw 26 rfl) (by decide) (by decide)) (g := (mkF m 52 #[.val (.ref arr), .val (.ref b15z), .val (.int (1 : Int32)), .val (.int (1 : Int32)), .val (.int (own_cpx [c0, c1] 0))] [(.int (1 : Int32)), (.ref arr)])) rfl (by rw [hml]; rfl) (argsL := [(.ref arr), (.int (1 : Int32))]) (rest := []) (lenOf pd_1807879494 rfl) rfl (by show 2 * 0 + _ ≤ _; exact Nat.le_of_eq rfl) (hb hby d_method_7_code_52) (fun _ _ => ⟨rfl, e18z, (by decide : 1 + 0 ≤ _), (by decide : 4 + 0 ≤ _)⟩)
      dsimp only [Pt.U, Pt.locs, Pt.cells, Pt.slots] at X21z l21z y21z z21z st21z hQ21z
      subst l21z y21z z21z
      obtain ⟨rfl, NQ21z, K21zq⟩ := hQ21z
      refine own_go st21z ?_
      have N21z := Fr.app N18z NQ21z
      show own_G p e below (T21z.setTop (mkF m 55 #[.val (.ref arr), .val (.ref b15z), .val (.int (1 : Int32)), .val (.int (1 : Int32)), .val (.int (own_cpx [c0, c1] 0))] [(.int (own_cpx [c0, c1] 1))])) _
      refine own_go (fun t k => XS.istore X21z.here hx rfl (hb hby d_method_7_code_55) rfl (l' := #[.val (.ref arr), .val (.ref b15z), .val (.int (1 : Int32)), .val (.int (1 : Int32)), .val (.int (own_cpx [c0, c1] 1))]) rfl k) ?_
      refine own_go (fun t k => XS.aloadN X21z.here hx rfl (hb hby d_method_7_code_57) rfl rfl k) ?_
      refine own_go (fun t k => XS.iloadN X21z.here hx rfl (hb hby d_method_7_code_58) rfl k) ?_
      show own_G p e below (T21z.setTop (mkF m 59 #[.val (.ref arr), .val (.ref b15z), .val (.int (1 : Int32)), .val (.int (1 : Int32)), .val (.int (own_cpx [c0, c1] 1))] [(.int (1 : Int32)), (.ref b15z)])) _
      refine own_go (fun t k => XS.iload X21z.here hx rfl (hb hby d_method_7_code_59) rfl k) ?_
      obtain ⟨T22z, h22z, X22z, e22z, W22z, V22z, st22z⟩ := own_stI X21z hx hZ K21zq V18z (i := 1) (by decide) (Nat.le_of_ble_eq_true rfl) (g := (mkF m 61 #[.val (.ref arr), .val (.ref b15z), .val (.int (1 : Int32)), .val (.int (1 : Int32)), .val (.int (own_cpx [c0, c1] 1))] [(.int (own_cpx [c0, c1] 1)), (.int (1 : Int32)), (.ref b15z)])) rfl rfl (hb hby d_method_7_code_61)
      refine own_go st22z ?_
      have N22z := Fr.snoc X22z N21z fr_b15z
      have O23z := own_ext_wr O19z W22z fr_b15z
      have K23z := K19z.wr W22z (Or.inr lz_b15z)
      have V22z : own_A Z h22z b15z kc15z .int [(.int (own_cpx [c0, c1] 0)), (.int (own_cpx [c0, c1] 1)), (.int (0 : Int32)), (.int (0 : Int32))] := V22z
      refine own_go (fun t k => XS.iinc X22z.here hx rfl (hb hby d_method_7_code_62) rfl (l' := #[.val (.ref arr), .val (.ref b15z), .val (.int (1 : Int32)), .val (.int (2 : Int32)), .val (.int (own_cpx [c0, c1] 1))]) rfl k) ?_
      show own_G p e below (T22z.setTop (mkF m 65 #[.val (.ref arr), .val (.ref b15z), .val (.int (1 : Int32)), .val (.int (2 : Int32)), .val (.int (own_cpx [c0, c1] 1))] [])) _
      refine own_go (fun t k => XS.iloadN X22z.here hx rfl (hb hby d_method_7_code_65) rfl k) ?_
      refine own_go (fun t k => XS.iload X22z.here hx rfl (hb hby d_method_7_code_66) rfl k) ?_
      refine own_go (fun t k => X22z.ldcI hx hown (mvT hZ (own_hw hw 159 rfl)) rfl (hb hby d_method_7_code_68) k) ?_
      show own_G p e below (T22z.setTop (mkF m 70 #[.val (.ref arr), .val (.ref b15z), .val (.int (1 : Int32)), .val (.int (2 : Int32)), .val (.int (own_cpx [c0, c1] 1))] [(.int (65536 : Int32)), (.int (own_cpx [c0, c1] 1)), (.int (1 : Int32))])) _
      by_cases hc24z : (own_cpx [c0, c1] 1) < (65536 : Int32)
      · refine own_go (fun t k => XS.icmpYes X22z.here hx rfl (pc0 := 70) (pc' := 77) rfl (hb hby d_method_7_code_70) rfl (tlt hc24z).1 (by decide) (by decide) k) ?_
        show own_G p e below (T22z.setTop (mkF m 77 #[.val (.ref arr), .val (.ref b15z), .val (.int (1 : Int32)), .val (.int (2 : Int32)), .val (.int (own_cpx [c0, c1] 1))] [(.int (1 : Int32))])) _
        refine own_go (fun t k => XS.iconst X22z.here hx rfl (hb hby d_method_7_code_77) k) ?_
        refine own_go (fun t k => XS.iadd X22z.here hx rfl (hb hby d_method_7_code_78) rfl k) ?_
        refine own_go (fun t k => XS.istoreN X22z.here hx rfl (hb hby d_method_7_code_79) rfl (l' := #[.val (.ref arr), .val (.ref b15z), .val (.int (2 : Int32)), .val (.int (2 : Int32)), .val (.int (own_cpx [c0, c1] 1))]) rfl k) ?_
        show own_G p e below (T22z.setTop (mkF m 80 #[.val (.ref arr), .val (.ref b15z), .val (.int (2 : Int32)), .val (.int (2 : Int32)), .val (.int (own_cpx [c0, c1] 1))] [])) _
        refine own_go (fun t k => XS.iloadN X22z.here hx rfl (hb hby d_method_7_code_80) rfl k) ?_
        refine own_go (fun t k => XS.aloadN X22z.here hx rfl (hb hby d_method_7_code_81) rfl rfl k) ?_
        have f25z := (((VA.ext E15z).other W18z ne_arr_b15z).other W22z ne_arr_b15z)
        refine own_go (own_len X22z hx hZ e22z f25z (z := (2 : Int32)) (by show (2 : Int32).toInt = ((2 : Nat) : Int); decide) (g := (mkF m 82 #[.val (.ref arr), .val (.ref b15z), .val (.int (2 : Int32)), .val (.int (2 : Int32)), .val (.int (own_cpx [c0, c1] 1))] [(.ref arr), (.int (2 : Int32))])) rfl rfl (hb hby d_method_7_code_82)) ?_
        show own_G p e below (T22z.setTop (mkF m 83 #[.val (.ref arr), .val (.ref b15z), .val (.int (2 : Int32)), .val (.int (2 : Int32)), .val (.int (own_cpx [c0, c1] 1))] [(.int (2 : Int32)), (.int (2 : Int32))])) _
        refine own_go (fun t k => XS.icmpYes X22z.here hx rfl (pc0 := 83) (pc' := 116) rfl (hb hby d_method_7_code_83) rfl (flt (by decide : ¬ ((2 : Int32) < (2 : Int32)))).2.1 (by decide) (by decide) k) ?_
        show own_G p e below (T22z.setTop (mkF m 116 #[.val (.ref arr), .val (.ref b15z), .val (.int (2 : Int32)), .val (.int (2 : Int32)), .val (.int (own_cpx [c0, c1] 1))] [])) _
        refine own_go (fun t k => XS.aloadN X22z.here hx rfl (hb hby d_method_7_code_116) rfl rfl k) ?_
        refine own_go (fun t k => XS.iconst X22z.here hx rfl (hb hby d_method_7_code_117) k) ?_
        refine own_go (fun t k => XS.iloadN X22z.here hx rfl (hb hby d_method_7_code_118) rfl k) ?_
        show own_G p e below (T22z.setTop (mkF m 119 #[.val (.ref arr), .val (.ref b15z), .val (.int (2 : Int32)), .val (.int (2 : Int32)), .val (.int (own_cpx [c0, c1] 1))] [(.int (2 : Int32)), (.int (3 : Int32)), (.ref b15z)])) _
        obtain ⟨T26z, h26z, X26z, e26z, W26z, V26z, st26z⟩ := own_stI X22z hx hZ e22z V22z (i := 3) (by decide) (Nat.le_of_ble_eq_true rfl) (g := (mkF m 119 #[.val (.ref arr), .val (.ref b15z), .val (.int (2 : Int32)), .val (.int (2 : Int32)), .val (.int (own_cpx [c0, c1] 1))] [(.int (2 : Int32)), (.int (3 : Int32)), (.ref b15z)])) rfl rfl (hb hby d_method_7_code_119)
        refine own_go st26z ?_
        have N26z := Fr.snoc X26z N22z fr_b15z
        have O27z := own_ext_wr O23z W26z fr_b15z
        have K27z := K23z.wr W26z (Or.inr lz_b15z)
        have V26z : own_A Z h26z b15z kc15z .int [(.int (own_cpx [c0, c1] 0)), (.int (own_cpx [c0, c1] 1)), (.int (0 : Int32)), (.int (2 : Int32))] := V26z
        refine own_go (fun t k => XS.aloadN X26z.here hx rfl (hb hby d_method_7_code_120) rfl rfl k) ?_
        exact own_ret X26z hx Bd.returns rfl (Or.inr (Or.inr (Or.inr (Or.inr ⟨rfl, rfl, rfl⟩)))) (hb hby d_method_7_code_121) hlk (Nat.le_of_ble_eq_true rfl) (Nat.le_of_ble_eq_true rfl) (by show Q_own_decode Z arr kk [c0, c1] h0 _ T26z.heap _; rw [e26z]; exact ⟨b15z, kc15z, (own_cpx [c0, c1] 0), (own_cpx [c0, c1] 1), (0 : Int32), (2 : Int32), rfl, N26z, K27z, V26z, lz_b15z, (own_decs2 (cs := [c0, c1]) (((own_d1 hc (by simp) hc20z).trans (congrArg (List.cons _) ((own_d1 hc (by simp) hc24z).trans (congrArg (List.cons _) (own_d0 (cs := [c0, c1]) (i := 2) (by simp)))))) : own_dec (List.drop 0 [c0, c1]) = _))⟩)
      · refine own_go (fun t k => XS.icmpNo X22z.here hx rfl (hb hby d_method_7_code_70) rfl (flt hc24z).1 k) ?_
        show own_G p e below (T22z.setTop (mkF m 73 #[.val (.ref arr), .val (.ref b15z), .val (.int (1 : Int32)), .val (.int (2 : Int32)), .val (.int (own_cpx [c0, c1] 1))] [(.int (1 : Int32))])) _
        refine own_go (fun t k => XS.iconst X22z.here hx rfl (hb hby d_method_7_code_73) k) ?_
        refine own_go (fun t k => XS.goto X22z.here hx rfl (pc0 := 74) (pc' := 78) rfl (hb hby d_method_7_code_74) (by decide) (by decide) k) ?_
        show own_G p e below (T22z.setTop (mkF m 78 #[.val (.ref arr), .val (.ref b15z), .val (.int (1 : Int32)), .val (.int (2 : Int32)), .val (.int (own_cpx [c0, c1] 1))] [(.int (2 : Int32)), (.int (1 : Int32))])) _
        refine own_go (fun t k => XS.iadd X22z.here hx rfl (hb hby d_method_7_code_78) rfl k) ?_
        refine own_go (fun t k => XS.istoreN X22z.here hx rfl (hb hby d_method_7_code_79) rfl (l' := #[.val (.ref arr), .val (.ref b15z), .val (.int (3 : Int32)), .val (.int (2 : Int32)), .val (.int (own_cpx [c0, c1] 1))]) rfl k) ?_
        refine own_go (fun t k => XS.iloadN X22z.here hx rfl (hb hby d_method_7_code_80) rfl k) ?_
        show own_G p e below (T22z.setTop (mkF m 81 #[.val (.ref arr), .val (.ref b15z), .val (.int (3 : Int32)), .val (.int (2 : Int32)), .val (.int (own_cpx [c0, c1] 1))] [(.int (3 : Int32))])) _
        refine own_go (fun t k => XS.aloadN X22z.here hx rfl (hb hby d_method_7_code_81) rfl rfl k) ?_
        have f28z := (((VA.ext E15z).other W18z ne_arr_b15z).other W22z ne_arr_b15z)
        refine own_go (own_len X22z hx hZ e22z f28z (z := (2 : Int32)) (by show (2 : Int32).toInt = ((2 : Nat) : Int); decide) (g := (mkF m 82 #[.val (.ref arr), .val (.ref b15z), .val (.int (3 : Int32)), .val (.int (2 : Int32)), .val (.int (own_cpx [c0, c1] 1))] [(.ref arr), (.int (3 : Int32))])) rfl rfl (hb hby d_method_7_code_82)) ?_
        refine own_go (fun t k => XS.icmpYes X22z.here hx rfl (pc0 := 83) (pc' := 116) rfl (hb hby d_method_7_code_83) rfl (flt (by decide : ¬ ((3 : Int32) < (2 : Int32)))).2.1 (by decide) (by decide) k) ?_
        show own_G p e below (T22z.setTop (mkF m 116 #[.val (.ref arr), .val (.ref b15z), .val (.int (3 : Int32)), .val (.int (2 : Int32)), .val (.int (own_cpx [c0, c1] 1))] [])) _
        refine own_go (fun t k => XS.aloadN X22z.here hx rfl (hb hby d_method_7_code_116) rfl rfl k) ?_
        refine own_go (fun t k => XS.iconst X22z.here hx rfl (hb hby d_method_7_code_117) k) ?_
        refine own_go (fun t k => XS.iloadN X22z.here hx rfl (hb hby d_method_7_code_118) rfl k) ?_
        show own_G p e below (T22z.setTop (mkF m 119 #[.val (.ref arr), .val (.ref b15z), .val (.int (3 : Int32)), .val (.int (2 : Int32)), .val (.int (own_cpx [c0, c1] 1))] [(.int (2 : Int32)), (.int (3 : Int32)), (.ref b15z)])) _
        obtain ⟨T29z, h29z, X29z, e29z, W29z, V29z, st29z⟩ := own_stI X22z hx hZ e22z V22z (i := 3) (by decide) (Nat.le_of_ble_eq_true rfl) (g := (mkF m 119 #[.val (.ref arr), .val (.ref b15z), .val (.int (3 : Int32)), .val (.int (2 : Int32)), .val (.int (own_cpx [c0, c1] 1))] [(.int (2 : Int32)), (.int (3 : Int32)), (.ref b15z)])) rfl rfl (hb hby d_method_7_code_119)
        refine own_go st29z ?_
        have N29z := Fr.snoc X29z N22z fr_b15z
        have O30z := own_ext_wr O23z W29z fr_b15z
        have K30z := K23z.wr W29z (Or.inr lz_b15z)
        have V29z : own_A Z h29z b15z kc15z .int [(.int (own_cpx [c0, c1] 0)), (.int (own_cpx [c0, c1] 1)), (.int (0 : Int32)), (.int (2 : Int32))] := V29z
        refine own_go (fun t k => XS.aloadN X29z.here hx rfl (hb hby d_method_7_code_120) rfl rfl k) ?_
        exact own_ret X29z hx Bd.returns rfl (Or.inr (Or.inr (Or.inr (Or.inr ⟨rfl, rfl, rfl⟩)))) (hb hby d_method_7_code_121) hlk (Nat.le_of_ble_eq_true rfl) (Nat.le_of_ble_eq_true rfl) (by show Q_own_decode Z arr kk [c0, c1] h0 _ T29z.heap _; rw [e29z]; exact ⟨b15z, kc15z, (own_cpx [c0, c1] 0), (own_cpx [c0, c1] 1), (0 : Int32), (2 : Int32), rfl, N29z, K30z, V29z, lz_b15z, (own_decs2 (cs := [c0, c1]) (((own_d1 hc (by simp) hc20z).trans (congrArg (List.cons _) ((own_d2 hc (by simp) hc24z).trans (congrArg (List.cons _) (own_d0 (cs := [c0, c1]) (i := 3) (by simp)))))) : own_dec (List.drop 0 [c0, c1]) = _))⟩)
    · refine own_go (fun t k => XS.icmpNo X18z.here hx rfl (hb hby d_method_7_code_34) rfl (flt hc20z).1 k) ?_
      show own_G p e below (T18z.setTop (mkF m 37 #[.val (.ref arr), .val (.ref b15z), .val (.int (0 : Int32)), .val (.int (1 : Int32)), .val (.int (own_cpx [c0, c1] 0))] [(.int (0 : Int32))])) _
      refine own_go (fun t k => XS.iconst X18z.here hx rfl (hb hby d_method_7_code_37) k) ?_
      refine own_go (fun t k => XS.goto X18z.here hx rfl (pc0 := 38) (pc' := 42) rfl (hb hby d_method_7_code_38) (by decide) (by decide) k) ?_
      show own_G p e below (T18z.setTop (mkF m 42 #[.val (.ref arr), .val (.ref b15z), .val (.int (0 : Int32)), .val (.int (1 : Int32)), .val (.int (own_cpx [c0, c1] 0))] [(.int (2 : Int32)), (.int (0 : Int32))])) _
      refine own_go (fun t k => XS.iadd X18z.here hx rfl (hb hby d_method_7_code_42) rfl k) ?_
      refine own_go (fun t k => XS.istoreN X18z.here hx rfl (hb hby d_method_7_code_43) rfl (l' := #[.val (.ref arr), .val (.ref b15z), .val (.int (2 : Int32)), .val (.int (1 : Int32)), .val (.int (own_cpx [c0, c1] 0))]) rfl k) ?_
      refine own_go (fun t k => XS.iloadN X18z.here hx rfl (hb hby d_method_7_code_44) rfl k) ?_
      show own_G p e below (T18z.setTop (mkF m 45 #[.val (.ref arr), .val (.ref b15z), .val (.int (2 : Int32)), .val (.int (1 : Int32)), .val (.int (own_cpx [c0, c1] 0))] [(.int (2 : Int32))])) _
      refine own_go (fun t k => XS.aloadN X18z.here hx rfl (hb hby d_method_7_code_45) rfl rfl k) ?_
      refine own_go (own_len X18z hx hZ e18z ((VA.ext E15z).other W18z ne_arr_b15z) (z := (2 : Int32)) (by show (2 : Int32).toInt = ((2 : Nat) : Int); decide) (g := (mkF m 46 #[.val (.ref arr), .val (.ref b15z), .val (.int (2 : Int32)), .val (.int (1 : Int32)), .val (.int (own_cpx [c0, c1] 0))] [(.ref arr), (.int (2 : Int32))])) rfl rfl (hb hby d_method_7_code_46)) ?_
      refine own_go (fun t k => XS.icmpYes X18z.here hx rfl (pc0 := 47) (pc' := 80) rfl (hb hby d_method_7_code_47) rfl (flt (by decide : ¬ ((2 : Int32) < (2 : Int32)))).2.1 (by decide) (by decide) k) ?_
      show own_G p e below (T18z.setTop (mkF m 80 #[.val (.ref arr), .val (.ref b15z), .val (.int (2 : Int32)), .val (.int (1 : Int32)), .val (.int (own_cpx [c0, c1] 0))] [])) _
      refine own_go (fun t k => XS.iloadN X18z.here hx rfl (hb hby d_method_7_code_80) rfl k) ?_
      refine own_go (fun t k => XS.aloadN X18z.here hx rfl (hb hby d_method_7_code_81) rfl rfl k) ?_
      refine own_go (own_len X18z hx hZ e18z ((VA.ext E15z).other W18z ne_arr_b15z) (z := (2 : Int32)) (by show (2 : Int32).toInt = ((2 : Nat) : Int); decide) (g := (mkF m 82 #[.val (.ref arr), .val (.ref b15z), .val (.int (2 : Int32)), .val (.int (1 : Int32)), .val (.int (own_cpx [c0, c1] 0))] [(.ref arr), (.int (2 : Int32))])) rfl rfl (hb hby d_method_7_code_82)) ?_
      show own_G p e below (T18z.setTop (mkF m 83 #[.val (.ref arr), .val (.ref b15z), .val (.int (2 : Int32)), .val (.int (1 : Int32)), .val (.int (own_cpx [c0, c1] 0))] [(.int (2 : Int32)), (.int (2 : Int32))])) _
      refine own_go (fun t k => XS.icmpYes X18z.here hx rfl (pc0 := 83) (pc' := 116) rfl (hb hby d_method_7_code_83) rfl (flt (by decide : ¬ ((2 : Int32) < (2 : Int32)))).2.1 (by decide) (by decide) k) ?_
      show own_G p e below (T18z.setTop (mkF m 116 #[.val (.ref arr), .val (.ref b15z), .val (.int (2 : Int32)), .val (.int (1 : Int32)), .val (.int (own_cpx [c0, c1] 0))] [])) _
      refine own_go (fun t k => XS.aloadN X18z.here hx rfl (hb hby d_method_7_code_116) rfl rfl k) ?_
      refine own_go (fun t k => XS.iconst X18z.here hx rfl (hb hby d_method_7_code_117) k) ?_
      refine own_go (fun t k => XS.iloadN X18z.here hx rfl (hb hby d_method_7_code_118) rfl k) ?_
      show own_G p e below (T18z.setTop (mkF m 119 #[.val (.ref arr), .val (.ref b15z), .val (.int (2 : Int32)), .val (.int (1 : Int32)), .val (.int (own_cpx [c0, c1] 0))] [(.int (1 : Int32)), (.int (3 : Int32)), (.ref b15z)])) _
      obtain ⟨T31z, h31z, X31z, e31z, W31z, V31z, st31z⟩ := own_stI X18z hx hZ e18z V18z (i := 3) (by decide) (Nat.le_of_ble_eq_true rfl) (g := (mkF m 119 #[.val (.ref arr), .val (.ref b15z), .val (.int (2 : Int32)), .val (.int (1 : Int32)), .val (.int (own_cpx [c0, c1] 0))] [(.int (1 : Int32)), (.int (3 : Int32)), (.ref b15z)])) rfl rfl (hb hby d_method_7_code_119)
      refine own_go st31z ?_
      have N31z := Fr.snoc X31z N18z fr_b15z
      have O32z := own_ext_wr O19z W31z fr_b15z
      have K32z := K19z.wr W31z (Or.inr lz_b15z)
      have V31z : own_A Z h31z b15z kc15z .int [(.int (own_cpx [c0, c1] 0)), (.int (0 : Int32)), (.int (0 : Int32)), (.int (1 : Int32))] := V31z
      refine own_go (fun t k => XS.aloadN X31z.here hx rfl (hb hby d_method_7_code_120) rfl rfl k) ?_
      exact own_ret X31z hx Bd.returns rfl (Or.inr (Or.inr (Or.inr (Or.inr ⟨rfl, rfl, rfl⟩)))) (hb hby d_method_7_code_121) hlk (Nat.le_of_ble_eq_true rfl) (Nat.le_of_ble_eq_true rfl) (by show Q_own_decode Z arr kk [c0, c1] h0 _ T31z.heap _; rw [e31z]; exact ⟨b15z, kc15z, (own_cpx [c0, c1] 0), (0 : Int32), (0 : Int32), (1 : Int32), rfl, N31z, K32z, V31z, lz_b15z, (own_decs1 (cs := [c0, c1]) (((own_d2 hc (by simp) hc20z).trans (congrArg (List.cons _) (own_d0 (cs := [c0, c1]) (i := 2) (by simp)))) : own_dec (List.drop 0 [c0, c1]) = _))⟩)
  · have VA : own_A Z h0 arr kk .char [(.int c0), (.int c1), (.int c2)] := q0
    show own_G p e below (s₁.setTop (mkF m 0 #[.val (.ref arr), .unset, .unset, .unset, .unset] [])) _
    refine own_go (fun t k => XS.iconst X0.here hx rfl (hb hby d_method_7_code_0) k) ?_
    obtain ⟨T33z, h33z, kc33z, X33z, e33z, E33z, V33z, st33z⟩ := own_newP X0 hx hZ (own_hw hw 154 rfl) e0 (g := (mkF m 1 #[.val (.ref arr), .unset, .unset, .unset, .unset] [(.int (4 : Int32))])) rfl (hb hby d_method_7_code_1) rfl (i := 4) (by decide) (cap := 4) (by decide) (by decide) (by decide) (by decide)
    obtain ⟨b33z, g33z⟩ : ∃ z, z = h0.size := ⟨_, rfl⟩
    rw [← g33z] at V33z st33z
    have fr_b33z : Z.heap.size ≤ b33z := g33z ▸ O0.1
    have lz_b33z : h0.size ≤ b33z := g33z ▸ K0.1
    have ne_arr_b33z : arr ≠ b33z := Nat.ne_of_lt (g33z ▸ VA.lt)
    have O34z := own_ext_trans O0 E33z
    have K34z := K0.ext E33z
    have V33z : own_A Z h33z b33z kc33z .int [(.int (0 : Int32)), (.int (0 : Int32)), (.int (0 : Int32)), (.int (0 : Int32))] := V33z
    refine own_go st33z ?_
    refine own_go (fun t k => XS.astoreN X33z.here hx rfl (hb hby d_method_7_code_3) rfl rfl (l' := #[.val (.ref arr), .val (.ref b33z), .unset, .unset, .unset]) rfl k) ?_
    show own_G p e below (T33z.setTop (mkF m 4 #[.val (.ref arr), .val (.ref b33z), .unset, .unset, .unset] [])) _
    refine own_go (fun t k => XS.iconst X33z.here hx rfl (hb hby d_method_7_code_4) k) ?_
    refine own_go (fun t k => XS.istoreN X33z.here hx rfl (hb hby d_method_7_code_5) rfl (l' := #[.val (.ref arr), .val (.ref b33z), .val (.int (0 : Int32)), .unset, .unset]) rfl k) ?_
    refine own_go (fun t k => XS.iconst X33z.here hx rfl (hb hby d_method_7_code_6) k) ?_
    show own_G p e below (T33z.setTop (mkF m 7 #[.val (.ref arr), .val (.ref b33z), .val (.int (0 : Int32)), .unset, .unset] [(.int (0 : Int32))])) _
    refine own_go (fun t k => XS.istoreN X33z.here hx rfl (hb hby d_method_7_code_7) rfl (l' := #[.val (.ref arr), .val (.ref b33z), .val (.int (0 : Int32)), .val (.int (0 : Int32)), .unset]) rfl k) ?_
    refine own_go (fun t k => XS.iloadN X33z.here hx rfl (hb hby d_method_7_code_8) rfl k) ?_
    refine own_go (fun t k => XS.aloadN X33z.here hx rfl (hb hby d_method_7_code_9) rfl rfl k) ?_
    show own_G p e below (T33z.setTop (mkF m 10 #[.val (.ref arr), .val (.ref b33z), .val (.int (0 : Int32)), .val (.int (0 : Int32)), .unset] [(.ref arr), (.int (0 : Int32))])) _
    refine own_go (own_len X33z hx hZ e33z (VA.ext E33z) (z := (3 : Int32)) (by show (3 : Int32).toInt = ((3 : Nat) : Int); decide) (g := (mkF m 10 #[.val (.ref arr), .val (.ref b33z), .val (.int (0 : Int32)), .val (.int (0 : Int32)), .unset] [(.ref arr), (.int (0 : Int32))])) rfl rfl (hb hby d_method_7_code_10)) ?_
    refine own_go (fun t k => XS.icmpNo X33z.here hx rfl (hb hby d_method_7_code_11) rfl (tlt (by decide : (0 : Int32) < (3 : Int32))).2.1 k) ?_
    show own_G p e below (T33z.setTop (mkF m 14 #[.val (.ref arr), .val (.ref b33z), .val (.int (0 : Int32)), .val (.int (0 : Int32)), .unset] [])) _
    refine own_go (fun t k => XS.aloadN X33z.here hx rfl (hb hby d_method_7_code_14) rfl rfl k) ?_
    refine own_go (fun t k => XS.iloadN X33z.here hx rfl (hb hby d_method_7_code_15) rfl k) ?_
    obtain ⟨_, _, ⟨T35z, L35z, k35z, n35z⟩, -, X35z, ⟨Lc35z, hQ35z, l35z, y35z, z35z⟩, st35z⟩ := Jvm.LawKit.callS X33z hx (y := own_m14) hown (own_mw hZ hw 155 rfl) (own_mw hZ hw 156 rfl) (own_mw hZ hw 26 rfl) (own_mw hZ hw 157 rfl) (by decide) (backOf (W := 0) (own_cpAt l Z a0 hw [] arr kk ([c0, c1, c2]) (0 : Int32) 0 h33z O34z (VA.ext E33z) (by decide) (by simp) h3) hZ (own_hw hw 157 rfl) (own_hw hw 26 rfl) (by decide) (by decide)) (g := (mkF m 16 #[.val (.ref arr), .val (.ref b33z), .val (.int (0 : Int32)), .val (.int (0 : Int32)), .unset] [(.int (0 : Int32)), (.ref arr)])) rfl (by rw [hml]; rfl) (argsL := [(.ref arr), (.int (0 : Int32))]) (rest := []) (lenOf pd_1807879494 rfl) rfl (by show 2 * 0 + _ ≤ _; exact Nat.le_of_eq rfl) (hb hby d_method_7_code_16) (fun _ _ => ⟨rfl, e33z, (by decide : 1 + 0 ≤ _), (by decide : 4 + 0 ≤ _)⟩)
    dsimp only [Pt.U, Pt.locs, Pt.cells, Pt.slots] at X35z l35z y35z z35z st35z hQ35z
    subst l35z y35z z35z
    obtain ⟨rfl, NQ35z, K35zq⟩ := hQ35z
    refine own_go st35z ?_
    have N35z := Fr.app N0 NQ35z
    show own_G p e below (T35z.setTop (mkF m 19 #[.val (.ref arr), .val (.ref b33z), .val (.int (0 : Int32)), .val (.int (0 : Int32)), .unset] [(.int (own_cpx [c0, c1, c2] 0))])) _
    refine own_go (fun t k => XS.istore X35z.here hx rfl (hb hby d_method_7_code_19) rfl (l' := #[.val (.ref arr), .val (.ref b33z), .val (.int (0 : Int32)), .val (.int (0 : Int32)), .val (.int (own_cpx [c0, c1, c2] 0))]) rfl k) ?_
    refine own_go (fun t k => XS.aloadN X35z.here hx rfl (hb hby d_method_7_code_21) rfl rfl k) ?_
    refine own_go (fun t k => XS.iloadN X35z.here hx rfl (hb hby d_method_7_code_22) rfl k) ?_
    show own_G p e below (T35z.setTop (mkF m 23 #[.val (.ref arr), .val (.ref b33z), .val (.int (0 : Int32)), .val (.int (0 : Int32)), .val (.int (own_cpx [c0, c1, c2] 0))] [(.int (0 : Int32)), (.ref b33z)])) _
    refine own_go (fun t k => XS.iload X35z.here hx rfl (hb hby d_method_7_code_23) rfl k) ?_
    obtain ⟨T36z, h36z, X36z, e36z, W36z, V36z, st36z⟩ := own_stI X35z hx hZ K35zq V33z (i := 0) (by decide) (Nat.le_of_ble_eq_true rfl) (g := (mkF m 25 #[.val (.ref arr), .val (.ref b33z), .val (.int (0 : Int32)), .val (.int (0 : Int32)), .val (.int (own_cpx [c0, c1, c2] 0))] [(.int (own_cpx [c0, c1, c2] 0)), (.int (0 : Int32)), (.ref b33z)])) rfl rfl (hb hby d_method_7_code_25)
    refine own_go st36z ?_
    have N36z := Fr.snoc X36z N35z fr_b33z
    have O37z := own_ext_wr O34z W36z fr_b33z
    have K37z := K34z.wr W36z (Or.inr lz_b33z)
    have V36z : own_A Z h36z b33z kc33z .int [(.int (own_cpx [c0, c1, c2] 0)), (.int (0 : Int32)), (.int (0 : Int32)), (.int (0 : Int32))] := V36z
    refine own_go (fun t k => XS.iinc X36z.here hx rfl (hb hby d_method_7_code_26) rfl (l' := #[.val (.ref arr), .val (.ref b33z), .val (.int (0 : Int32)), .val (.int (1 : Int32)), .val (.int (own_cpx [c0, c1, c2] 0))]) rfl k) ?_
    show own_G p e below (T36z.setTop (mkF m 29 #[.val (.ref arr), .val (.ref b33z), .val (.int (0 : Int32)), .val (.int (1 : Int32)), .val (.int (own_cpx [c0, c1, c2] 0))] [])) _
    refine own_go (fun t k => XS.iloadN X36z.here hx rfl (hb hby d_method_7_code_29) rfl k) ?_
    refine own_go (fun t k => XS.iload X36z.here hx rfl (hb hby d_method_7_code_30) rfl k) ?_
    refine own_go (fun t k => X36z.ldcI hx hown (mvT hZ (own_hw hw 159 rfl)) rfl (hb hby d_method_7_code_32) k) ?_
    show own_G p e below (T36z.setTop (mkF m 34 #[.val (.ref arr), .val (.ref b33z), .val (.int (0 : Int32)), .val (.int (1 : Int32)), .val (.int (own_cpx [c0, c1, c2] 0))] [(.int (65536 : Int32)), (.int (own_cpx [c0, c1, c2] 0)), (.int (0 : Int32))])) _
    by_cases hc38z : (own_cpx [c0, c1, c2] 0) < (65536 : Int32)
    · refine own_go (fun t k => XS.icmpYes X36z.here hx rfl (pc0 := 34) (pc' := 41) rfl (hb hby d_method_7_code_34) rfl (tlt hc38z).1 (by decide) (by decide) k) ?_
      show own_G p e below (T36z.setTop (mkF m 41 #[.val (.ref arr), .val (.ref b33z), .val (.int (0 : Int32)), .val (.int (1 : Int32)), .val (.int (own_cpx [c0, c1, c2] 0))] [(.int (0 : Int32))])) _
      refine own_go (fun t k => XS.iconst X36z.here hx rfl (hb hby d_method_7_code_41) k) ?_
      refine own_go (fun t k => XS.iadd X36z.here hx rfl (hb hby d_method_7_code_42) rfl k) ?_
      refine own_go (fun t k => XS.istoreN X36z.here hx rfl (hb hby d_method_7_code_43) rfl (l' := #[.val (.ref arr), .val (.ref b33z), .val (.int (1 : Int32)), .val (.int (1 : Int32)), .val (.int (own_cpx [c0, c1, c2] 0))]) rfl k) ?_
      show own_G p e below (T36z.setTop (mkF m 44 #[.val (.ref arr), .val (.ref b33z), .val (.int (1 : Int32)), .val (.int (1 : Int32)), .val (.int (own_cpx [c0, c1, c2] 0))] [])) _
      refine own_go (fun t k => XS.iloadN X36z.here hx rfl (hb hby d_method_7_code_44) rfl k) ?_
      refine own_go (fun t k => XS.aloadN X36z.here hx rfl (hb hby d_method_7_code_45) rfl rfl k) ?_
      refine own_go (own_len X36z hx hZ e36z ((VA.ext E33z).other W36z ne_arr_b33z) (z := (3 : Int32)) (by show (3 : Int32).toInt = ((3 : Nat) : Int); decide) (g := (mkF m 46 #[.val (.ref arr), .val (.ref b33z), .val (.int (1 : Int32)), .val (.int (1 : Int32)), .val (.int (own_cpx [c0, c1, c2] 0))] [(.ref arr), (.int (1 : Int32))])) rfl rfl (hb hby d_method_7_code_46)) ?_
      show own_G p e below (T36z.setTop (mkF m 47 #[.val (.ref arr), .val (.ref b33z), .val (.int (1 : Int32)), .val (.int (1 : Int32)), .val (.int (own_cpx [c0, c1, c2] 0))] [(.int (3 : Int32)), (.int (1 : Int32))])) _
      refine own_go (fun t k => XS.icmpNo X36z.here hx rfl (hb hby d_method_7_code_47) rfl (tlt (by decide : (1 : Int32) < (3 : Int32))).2.1 k) ?_
      show own_G p e below (T36z.setTop (mkF m 50 #[.val (.ref arr), .val (.ref b33z), .val (.int (1 : Int32)), .val (.int (1 : Int32)), .val (.int (own_cpx [c0, c1, c2] 0))] [])) _
      refine own_go (fun t k => XS.aloadN X36z.here hx rfl (hb hby d_method_7_code_50) rfl rfl k) ?_
      refine own_go (fun t k => XS.iloadN X36z.here hx rfl (hb hby d_method_7_code_51) rfl k) ?_
      obtain ⟨_, _, ⟨T39z, L39z, k39z, n39z⟩, -, X39z, ⟨Lc39z, hQ39z, l39z, y39z, z39z⟩, st39z⟩ := Jvm.LawKit.callS X36z hx (y := own_m14) hown (own_mw hZ hw 155 rfl) (own_mw hZ hw 156 rfl) (own_mw hZ hw 26 rfl) (own_mw hZ hw 157 rfl) (by decide) (backOf (W := 0) (own_cpAt l Z a0 hw [] arr kk ([c0, c1, c2]) (1 : Int32) 1 h36z O37z ((VA.ext E33z).other W36z ne_arr_b33z) (by decide) (by simp) h3) hZ (own_hw hw 157 rfl) (own_hw hw 26 rfl) (by decide) (by decide)) (g := (mkF m 52 #[.val (.ref arr), .val (.ref b33z), .val (.int (1 : Int32)), .val (.int (1 : Int32)), .val (.int (own_cpx [c0, c1, c2] 0))] [(.int (1 : Int32)), (.ref arr)])) rfl (by rw [hml]; rfl) (argsL := [(.ref arr), (.int (1 : Int32))]) (rest := []) (lenOf pd_1807879494 rfl) rfl (by show 2 * 0 + _ ≤ _; exact Nat.le_of_eq rfl) (hb hby d_method_7_code_52) (fun _ _ => ⟨rfl, e36z, (by decide : 1 + 0 ≤ _), (by decide : 4 + 0 ≤ _)⟩)
      dsimp only [Pt.U, Pt.locs, Pt.cells, Pt.slots] at X39z l39z y39z z39z st39z hQ39z
      subst l39z y39z z39z
      obtain ⟨rfl, NQ39z, K39zq⟩ := hQ39z
      refine own_go st39z ?_
      have N39z := Fr.app N36z NQ39z
      show own_G p e below (T39z.setTop (mkF m 55 #[.val (.ref arr), .val (.ref b33z), .val (.int (1 : Int32)), .val (.int (1 : Int32)), .val (.int (own_cpx [c0, c1, c2] 0))] [(.int (own_cpx [c0, c1, c2] 1))])) _
      refine own_go (fun t k => XS.istore X39z.here hx rfl (hb hby d_method_7_code_55) rfl (l' := #[.val (.ref arr), .val (.ref b33z), .val (.int (1 : Int32)), .val (.int (1 : Int32)), .val (.int (own_cpx [c0, c1, c2] 1))]) rfl k) ?_
      refine own_go (fun t k => XS.aloadN X39z.here hx rfl (hb hby d_method_7_code_57) rfl rfl k) ?_
      refine own_go (fun t k => XS.iloadN X39z.here hx rfl (hb hby d_method_7_code_58) rfl k) ?_
      show own_G p e below (T39z.setTop (mkF m 59 #[.val (.ref arr), .val (.ref b33z), .val (.int (1 : Int32)), .val (.int (1 : Int32)), .val (.int (own_cpx [c0, c1, c2] 1))] [(.int (1 : Int32)), (.ref b33z)])) _
      refine own_go (fun t k => XS.iload X39z.here hx rfl (hb hby d_method_7_code_59) rfl k) ?_
      obtain ⟨T40z, h40z, X40z, e40z, W40z, V40z, st40z⟩ := own_stI X39z hx hZ K39zq V36z (i := 1) (by decide) (Nat.le_of_ble_eq_true rfl) (g := (mkF m 61 #[.val (.ref arr), .val (.ref b33z), .val (.int (1 : Int32)), .val (.int (1 : Int32)), .val (.int (own_cpx [c0, c1, c2] 1))] [(.int (own_cpx [c0, c1, c2] 1)), (.int (1 : Int32)), (.ref b33z)])) rfl rfl (hb hby d_method_7_code_61)
      refine own_go st40z ?_
      have N40z := Fr.snoc X40z N39z fr_b33z
      have O41z := own_ext_wr O37z W40z fr_b33z
      have K41z := K37z.wr W40z (Or.inr lz_b33z)
      have V40z : own_A Z h40z b33z kc33z .int [(.int (own_cpx [c0, c1, c2] 0)), (.int (own_cpx [c0, c1, c2] 1)), (.int (0 : Int32)), (.int (0 : Int32))] := V40z
      refine own_go (fun t k => XS.iinc X40z.here hx rfl (hb hby d_method_7_code_62) rfl (l' := #[.val (.ref arr), .val (.ref b33z), .val (.int (1 : Int32)), .val (.int (2 : Int32)), .val (.int (own_cpx [c0, c1, c2] 1))]) rfl k) ?_
      show own_G p e below (T40z.setTop (mkF m 65 #[.val (.ref arr), .val (.ref b33z), .val (.int (1 : Int32)), .val (.int (2 : Int32)), .val (.int (own_cpx [c0, c1, c2] 1))] [])) _
      refine own_go (fun t k => XS.iloadN X40z.here hx rfl (hb hby d_method_7_code_65) rfl k) ?_
      refine own_go (fun t k => XS.iload X40z.here hx rfl (hb hby d_method_7_code_66) rfl k) ?_
      refine own_go (fun t k => X40z.ldcI hx hown (mvT hZ (own_hw hw 159 rfl)) rfl (hb hby d_method_7_code_68) k) ?_
      show own_G p e below (T40z.setTop (mkF m 70 #[.val (.ref arr), .val (.ref b33z), .val (.int (1 : Int32)), .val (.int (2 : Int32)), .val (.int (own_cpx [c0, c1, c2] 1))] [(.int (65536 : Int32)), (.int (own_cpx [c0, c1, c2] 1)), (.int (1 : Int32))])) _
      by_cases hc42z : (own_cpx [c0, c1, c2] 1) < (65536 : Int32)
      · refine own_go (fun t k => XS.icmpYes X40z.here hx rfl (pc0 := 70) (pc' := 77) rfl (hb hby d_method_7_code_70) rfl (tlt hc42z).1 (by decide) (by decide) k) ?_
        show own_G p e below (T40z.setTop (mkF m 77 #[.val (.ref arr), .val (.ref b33z), .val (.int (1 : Int32)), .val (.int (2 : Int32)), .val (.int (own_cpx [c0, c1, c2] 1))] [(.int (1 : Int32))])) _
        refine own_go (fun t k => XS.iconst X40z.here hx rfl (hb hby d_method_7_code_77) k) ?_
        refine own_go (fun t k => XS.iadd X40z.here hx rfl (hb hby d_method_7_code_78) rfl k) ?_
        refine own_go (fun t k => XS.istoreN X40z.here hx rfl (hb hby d_method_7_code_79) rfl (l' := #[.val (.ref arr), .val (.ref b33z), .val (.int (2 : Int32)), .val (.int (2 : Int32)), .val (.int (own_cpx [c0, c1, c2] 1))]) rfl k) ?_
        show own_G p e below (T40z.setTop (mkF m 80 #[.val (.ref arr), .val (.ref b33z), .val (.int (2 : Int32)), .val (.int (2 : Int32)), .val (.int (own_cpx [c0, c1, c2] 1))] [])) _
        refine own_go (fun t k => XS.iloadN X40z.here hx rfl (hb hby d_method_7_code_80) rfl k) ?_
        refine own_go (fun t k => XS.aloadN X40z.here hx rfl (hb hby d_method_7_code_81) rfl rfl k) ?_
        have f43z := (((VA.ext E33z).other W36z ne_arr_b33z).other W40z ne_arr_b33z)
        refine own_go (own_len X40z hx hZ e40z f43z (z := (3 : Int32)) (by show (3 : Int32).toInt = ((3 : Nat) : Int); decide) (g := (mkF m 82 #[.val (.ref arr), .val (.ref b33z), .val (.int (2 : Int32)), .val (.int (2 : Int32)), .val (.int (own_cpx [c0, c1, c2] 1))] [(.ref arr), (.int (2 : Int32))])) rfl rfl (hb hby d_method_7_code_82)) ?_
        show own_G p e below (T40z.setTop (mkF m 83 #[.val (.ref arr), .val (.ref b33z), .val (.int (2 : Int32)), .val (.int (2 : Int32)), .val (.int (own_cpx [c0, c1, c2] 1))] [(.int (3 : Int32)), (.int (2 : Int32))])) _
        refine own_go (fun t k => XS.icmpNo X40z.here hx rfl (hb hby d_method_7_code_83) rfl (tlt (by decide : (2 : Int32) < (3 : Int32))).2.1 k) ?_
        show own_G p e below (T40z.setTop (mkF m 86 #[.val (.ref arr), .val (.ref b33z), .val (.int (2 : Int32)), .val (.int (2 : Int32)), .val (.int (own_cpx [c0, c1, c2] 1))] [])) _
        refine own_go (fun t k => XS.aloadN X40z.here hx rfl (hb hby d_method_7_code_86) rfl rfl k) ?_
        refine own_go (fun t k => XS.iloadN X40z.here hx rfl (hb hby d_method_7_code_87) rfl k) ?_
        obtain ⟨_, _, ⟨T44z, L44z, k44z, n44z⟩, -, X44z, ⟨Lc44z, hQ44z, l44z, y44z, z44z⟩, st44z⟩ := Jvm.LawKit.callS X40z hx (y := own_m14) hown (own_mw hZ hw 155 rfl) (own_mw hZ hw 156 rfl) (own_mw hZ hw 26 rfl) (own_mw hZ hw 157 rfl) (by decide) (backOf (W := 0) (own_cpAt l Z a0 hw [] arr kk ([c0, c1, c2]) (2 : Int32) 2 h40z O41z f43z (by decide) (by simp) h3) hZ (own_hw hw 157 rfl) (own_hw hw 26 rfl) (by decide) (by decide)) (g := (mkF m 88 #[.val (.ref arr), .val (.ref b33z), .val (.int (2 : Int32)), .val (.int (2 : Int32)), .val (.int (own_cpx [c0, c1, c2] 1))] [(.int (2 : Int32)), (.ref arr)])) rfl (by rw [hml]; rfl) (argsL := [(.ref arr), (.int (2 : Int32))]) (rest := []) (lenOf pd_1807879494 rfl) rfl (by show 2 * 0 + _ ≤ _; exact Nat.le_of_eq rfl) (hb hby d_method_7_code_88) (fun _ _ => ⟨rfl, e40z, (by decide : 1 + 0 ≤ _), (by decide : 4 + 0 ≤ _)⟩)
        dsimp only [Pt.U, Pt.locs, Pt.cells, Pt.slots] at X44z l44z y44z z44z st44z hQ44z
        subst l44z y44z z44z
        obtain ⟨rfl, NQ44z, K44zq⟩ := hQ44z
        refine own_go st44z ?_
        have N44z := Fr.app N40z NQ44z
        show own_G p e below (T44z.setTop (mkF m 91 #[.val (.ref arr), .val (.ref b33z), .val (.int (2 : Int32)), .val (.int (2 : Int32)), .val (.int (own_cpx [c0, c1, c2] 1))] [(.int (own_cpx [c0, c1, c2] 2))])) _
        refine own_go (fun t k => XS.istore X44z.here hx rfl (hb hby d_method_7_code_91) rfl (l' := #[.val (.ref arr), .val (.ref b33z), .val (.int (2 : Int32)), .val (.int (2 : Int32)), .val (.int (own_cpx [c0, c1, c2] 2))]) rfl k) ?_
        refine own_go (fun t k => XS.aloadN X44z.here hx rfl (hb hby d_method_7_code_93) rfl rfl k) ?_
        refine own_go (fun t k => XS.iloadN X44z.here hx rfl (hb hby d_method_7_code_94) rfl k) ?_
        show own_G p e below (T44z.setTop (mkF m 95 #[.val (.ref arr), .val (.ref b33z), .val (.int (2 : Int32)), .val (.int (2 : Int32)), .val (.int (own_cpx [c0, c1, c2] 2))] [(.int (2 : Int32)), (.ref b33z)])) _
        refine own_go (fun t k => XS.iload X44z.here hx rfl (hb hby d_method_7_code_95) rfl k) ?_
        obtain ⟨T45z, h45z, X45z, e45z, W45z, V45z, st45z⟩ := own_stI X44z hx hZ K44zq V40z (i := 2) (by decide) (Nat.le_of_ble_eq_true rfl) (g := (mkF m 97 #[.val (.ref arr), .val (.ref b33z), .val (.int (2 : Int32)), .val (.int (2 : Int32)), .val (.int (own_cpx [c0, c1, c2] 2))] [(.int (own_cpx [c0, c1, c2] 2)), (.int (2 : Int32)), (.ref b33z)])) rfl rfl (hb hby d_method_7_code_97)
        refine own_go st45z ?_
        have N45z := Fr.snoc X45z N44z fr_b33z
        have O46z := own_ext_wr O41z W45z fr_b33z
        have K46z := K41z.wr W45z (Or.inr lz_b33z)
        have V45z : own_A Z h45z b33z kc33z .int [(.int (own_cpx [c0, c1, c2] 0)), (.int (own_cpx [c0, c1, c2] 1)), (.int (own_cpx [c0, c1, c2] 2)), (.int (0 : Int32))] := V45z
        refine own_go (fun t k => XS.iinc X45z.here hx rfl (hb hby d_method_7_code_98) rfl (l' := #[.val (.ref arr), .val (.ref b33z), .val (.int (2 : Int32)), .val (.int (3 : Int32)), .val (.int (own_cpx [c0, c1, c2] 2))]) rfl k) ?_
        show own_G p e below (T45z.setTop (mkF m 101 #[.val (.ref arr), .val (.ref b33z), .val (.int (2 : Int32)), .val (.int (3 : Int32)), .val (.int (own_cpx [c0, c1, c2] 2))] [])) _
        refine own_go (fun t k => XS.iloadN X45z.here hx rfl (hb hby d_method_7_code_101) rfl k) ?_
        refine own_go (fun t k => XS.iload X45z.here hx rfl (hb hby d_method_7_code_102) rfl k) ?_
        refine own_go (fun t k => X45z.ldcI hx hown (mvT hZ (own_hw hw 159 rfl)) rfl (hb hby d_method_7_code_104) k) ?_
        show own_G p e below (T45z.setTop (mkF m 106 #[.val (.ref arr), .val (.ref b33z), .val (.int (2 : Int32)), .val (.int (3 : Int32)), .val (.int (own_cpx [c0, c1, c2] 2))] [(.int (65536 : Int32)), (.int (own_cpx [c0, c1, c2] 2)), (.int (2 : Int32))])) _
        by_cases hc47z : (own_cpx [c0, c1, c2] 2) < (65536 : Int32)
        · refine own_go (fun t k => XS.icmpYes X45z.here hx rfl (pc0 := 106) (pc' := 113) rfl (hb hby d_method_7_code_106) rfl (tlt hc47z).1 (by decide) (by decide) k) ?_
          show own_G p e below (T45z.setTop (mkF m 113 #[.val (.ref arr), .val (.ref b33z), .val (.int (2 : Int32)), .val (.int (3 : Int32)), .val (.int (own_cpx [c0, c1, c2] 2))] [(.int (2 : Int32))])) _
          refine own_go (fun t k => XS.iconst X45z.here hx rfl (hb hby d_method_7_code_113) k) ?_
          refine own_go (fun t k => XS.iadd X45z.here hx rfl (hb hby d_method_7_code_114) rfl k) ?_
          refine own_go (fun t k => XS.istoreN X45z.here hx rfl (hb hby d_method_7_code_115) rfl (l' := #[.val (.ref arr), .val (.ref b33z), .val (.int (3 : Int32)), .val (.int (3 : Int32)), .val (.int (own_cpx [c0, c1, c2] 2))]) rfl k) ?_
          show own_G p e below (T45z.setTop (mkF m 116 #[.val (.ref arr), .val (.ref b33z), .val (.int (3 : Int32)), .val (.int (3 : Int32)), .val (.int (own_cpx [c0, c1, c2] 2))] [])) _
          refine own_go (fun t k => XS.aloadN X45z.here hx rfl (hb hby d_method_7_code_116) rfl rfl k) ?_
          refine own_go (fun t k => XS.iconst X45z.here hx rfl (hb hby d_method_7_code_117) k) ?_
          refine own_go (fun t k => XS.iloadN X45z.here hx rfl (hb hby d_method_7_code_118) rfl k) ?_
          show own_G p e below (T45z.setTop (mkF m 119 #[.val (.ref arr), .val (.ref b33z), .val (.int (3 : Int32)), .val (.int (3 : Int32)), .val (.int (own_cpx [c0, c1, c2] 2))] [(.int (3 : Int32)), (.int (3 : Int32)), (.ref b33z)])) _
          obtain ⟨T48z, h48z, X48z, e48z, W48z, V48z, st48z⟩ := own_stI X45z hx hZ e45z V45z (i := 3) (by decide) (Nat.le_of_ble_eq_true rfl) (g := (mkF m 119 #[.val (.ref arr), .val (.ref b33z), .val (.int (3 : Int32)), .val (.int (3 : Int32)), .val (.int (own_cpx [c0, c1, c2] 2))] [(.int (3 : Int32)), (.int (3 : Int32)), (.ref b33z)])) rfl rfl (hb hby d_method_7_code_119)
          refine own_go st48z ?_
          have N48z := Fr.snoc X48z N45z fr_b33z
          have O49z := own_ext_wr O46z W48z fr_b33z
          have K49z := K46z.wr W48z (Or.inr lz_b33z)
          have V48z : own_A Z h48z b33z kc33z .int [(.int (own_cpx [c0, c1, c2] 0)), (.int (own_cpx [c0, c1, c2] 1)), (.int (own_cpx [c0, c1, c2] 2)), (.int (3 : Int32))] := V48z
          refine own_go (fun t k => XS.aloadN X48z.here hx rfl (hb hby d_method_7_code_120) rfl rfl k) ?_
          exact own_ret X48z hx Bd.returns rfl (Or.inr (Or.inr (Or.inr (Or.inr ⟨rfl, rfl, rfl⟩)))) (hb hby d_method_7_code_121) hlk (Nat.le_of_ble_eq_true rfl) (Nat.le_of_ble_eq_true rfl) (by show Q_own_decode Z arr kk [c0, c1, c2] h0 _ T48z.heap _; rw [e48z]; exact ⟨b33z, kc33z, (own_cpx [c0, c1, c2] 0), (own_cpx [c0, c1, c2] 1), (own_cpx [c0, c1, c2] 2), (3 : Int32), rfl, N48z, K49z, V48z, lz_b33z, (own_decs3 (cs := [c0, c1, c2]) (((own_d1 hc (by simp) hc38z).trans (congrArg (List.cons _) ((own_d1 hc (by simp) hc42z).trans (congrArg (List.cons _) ((own_d1 hc (by simp) hc47z).trans (congrArg (List.cons _) (own_d0 (cs := [c0, c1, c2]) (i := 3) (by simp)))))))) : own_dec (List.drop 0 [c0, c1, c2]) = _))⟩)
        · refine own_go (fun t k => XS.icmpNo X45z.here hx rfl (hb hby d_method_7_code_106) rfl (flt hc47z).1 k) ?_
          show own_G p e below (T45z.setTop (mkF m 109 #[.val (.ref arr), .val (.ref b33z), .val (.int (2 : Int32)), .val (.int (3 : Int32)), .val (.int (own_cpx [c0, c1, c2] 2))] [(.int (2 : Int32))])) _
          refine own_go (fun t k => XS.iconst X45z.here hx rfl (hb hby d_method_7_code_109) k) ?_
          refine own_go (fun t k => XS.goto X45z.here hx rfl (pc0 := 110) (pc' := 114) rfl (hb hby d_method_7_code_110) (by decide) (by decide) k) ?_
          show own_G p e below (T45z.setTop (mkF m 114 #[.val (.ref arr), .val (.ref b33z), .val (.int (2 : Int32)), .val (.int (3 : Int32)), .val (.int (own_cpx [c0, c1, c2] 2))] [(.int (2 : Int32)), (.int (2 : Int32))])) _
          refine own_go (fun t k => XS.iadd X45z.here hx rfl (hb hby d_method_7_code_114) rfl k) ?_
          refine own_go (fun t k => XS.istoreN X45z.here hx rfl (hb hby d_method_7_code_115) rfl (l' := #[.val (.ref arr), .val (.ref b33z), .val (.int (4 : Int32)), .val (.int (3 : Int32)), .val (.int (own_cpx [c0, c1, c2] 2))]) rfl k) ?_
          refine own_go (fun t k => XS.aloadN X45z.here hx rfl (hb hby d_method_7_code_116) rfl rfl k) ?_
          show own_G p e below (T45z.setTop (mkF m 117 #[.val (.ref arr), .val (.ref b33z), .val (.int (4 : Int32)), .val (.int (3 : Int32)), .val (.int (own_cpx [c0, c1, c2] 2))] [(.ref b33z)])) _
          refine own_go (fun t k => XS.iconst X45z.here hx rfl (hb hby d_method_7_code_117) k) ?_
          refine own_go (fun t k => XS.iloadN X45z.here hx rfl (hb hby d_method_7_code_118) rfl k) ?_
          obtain ⟨T50z, h50z, X50z, e50z, W50z, V50z, st50z⟩ := own_stI X45z hx hZ e45z V45z (i := 3) (by decide) (Nat.le_of_ble_eq_true rfl) (g := (mkF m 119 #[.val (.ref arr), .val (.ref b33z), .val (.int (4 : Int32)), .val (.int (3 : Int32)), .val (.int (own_cpx [c0, c1, c2] 2))] [(.int (3 : Int32)), (.int (3 : Int32)), (.ref b33z)])) rfl rfl (hb hby d_method_7_code_119)
          refine own_go st50z ?_
          have N50z := Fr.snoc X50z N45z fr_b33z
          have O51z := own_ext_wr O46z W50z fr_b33z
          have K51z := K46z.wr W50z (Or.inr lz_b33z)
          have V50z : own_A Z h50z b33z kc33z .int [(.int (own_cpx [c0, c1, c2] 0)), (.int (own_cpx [c0, c1, c2] 1)), (.int (own_cpx [c0, c1, c2] 2)), (.int (3 : Int32))] := V50z
          show own_G p e below (T50z.setTop (mkF m 120 #[.val (.ref arr), .val (.ref b33z), .val (.int (4 : Int32)), .val (.int (3 : Int32)), .val (.int (own_cpx [c0, c1, c2] 2))] [])) _
          refine own_go (fun t k => XS.aloadN X50z.here hx rfl (hb hby d_method_7_code_120) rfl rfl k) ?_
          exact own_ret X50z hx Bd.returns rfl (Or.inr (Or.inr (Or.inr (Or.inr ⟨rfl, rfl, rfl⟩)))) (hb hby d_method_7_code_121) hlk (Nat.le_of_ble_eq_true rfl) (Nat.le_of_ble_eq_true rfl) (by show Q_own_decode Z arr kk [c0, c1, c2] h0 _ T50z.heap _; rw [e50z]; exact ⟨b33z, kc33z, (own_cpx [c0, c1, c2] 0), (own_cpx [c0, c1, c2] 1), (own_cpx [c0, c1, c2] 2), (3 : Int32), rfl, N50z, K51z, V50z, lz_b33z, (own_decs3 (cs := [c0, c1, c2]) (((own_d1 hc (by simp) hc38z).trans (congrArg (List.cons _) ((own_d1 hc (by simp) hc42z).trans (congrArg (List.cons _) ((own_d2 hc (by simp) hc47z).trans (congrArg (List.cons _) (own_d0 (cs := [c0, c1, c2]) (i := 4) (by simp)))))))) : own_dec (List.drop 0 [c0, c1, c2]) = _))⟩)
      · refine own_go (fun t k => XS.icmpNo X40z.here hx rfl (hb hby d_method_7_code_70) rfl (flt hc42z).1 k) ?_
        show own_G p e below (T40z.setTop (mkF m 73 #[.val (.ref arr), .val (.ref b33z), .val (.int (1 : Int32)), .val (.int (2 : Int32)), .val (.int (own_cpx [c0, c1, c2] 1))] [(.int (1 : Int32))])) _
        refine own_go (fun t k => XS.iconst X40z.here hx rfl (hb hby d_method_7_code_73) k) ?_
        refine own_go (fun t k => XS.goto X40z.here hx rfl (pc0 := 74) (pc' := 78) rfl (hb hby d_method_7_code_74) (by decide) (by decide) k) ?_
        show own_G p e below (T40z.setTop (mkF m 78 #[.val (.ref arr), .val (.ref b33z), .val (.int (1 : Int32)), .val (.int (2 : Int32)), .val (.int (own_cpx [c0, c1, c2] 1))] [(.int (2 : Int32)), (.int (1 : Int32))])) _
        refine own_go (fun t k => XS.iadd X40z.here hx rfl (hb hby d_method_7_code_78) rfl k) ?_
        refine own_go (fun t k => XS.istoreN X40z.here hx rfl (hb hby d_method_7_code_79) rfl (l' := #[.val (.ref arr), .val (.ref b33z), .val (.int (3 : Int32)), .val (.int (2 : Int32)), .val (.int (own_cpx [c0, c1, c2] 1))]) rfl k) ?_
        refine own_go (fun t k => XS.iloadN X40z.here hx rfl (hb hby d_method_7_code_80) rfl k) ?_
        show own_G p e below (T40z.setTop (mkF m 81 #[.val (.ref arr), .val (.ref b33z), .val (.int (3 : Int32)), .val (.int (2 : Int32)), .val (.int (own_cpx [c0, c1, c2] 1))] [(.int (3 : Int32))])) _
        refine own_go (fun t k => XS.aloadN X40z.here hx rfl (hb hby d_method_7_code_81) rfl rfl k) ?_
        have f52z := (((VA.ext E33z).other W36z ne_arr_b33z).other W40z ne_arr_b33z)
        refine own_go (own_len X40z hx hZ e40z f52z (z := (3 : Int32)) (by show (3 : Int32).toInt = ((3 : Nat) : Int); decide) (g := (mkF m 82 #[.val (.ref arr), .val (.ref b33z), .val (.int (3 : Int32)), .val (.int (2 : Int32)), .val (.int (own_cpx [c0, c1, c2] 1))] [(.ref arr), (.int (3 : Int32))])) rfl rfl (hb hby d_method_7_code_82)) ?_
        refine own_go (fun t k => XS.icmpYes X40z.here hx rfl (pc0 := 83) (pc' := 116) rfl (hb hby d_method_7_code_83) rfl (flt (by decide : ¬ ((3 : Int32) < (3 : Int32)))).2.1 (by decide) (by decide) k) ?_
        show own_G p e below (T40z.setTop (mkF m 116 #[.val (.ref arr), .val (.ref b33z), .val (.int (3 : Int32)), .val (.int (2 : Int32)), .val (.int (own_cpx [c0, c1, c2] 1))] [])) _
        refine own_go (fun t k => XS.aloadN X40z.here hx rfl (hb hby d_method_7_code_116) rfl rfl k) ?_
        refine own_go (fun t k => XS.iconst X40z.here hx rfl (hb hby d_method_7_code_117) k) ?_
        refine own_go (fun t k => XS.iloadN X40z.here hx rfl (hb hby d_method_7_code_118) rfl k) ?_
        show own_G p e below (T40z.setTop (mkF m 119 #[.val (.ref arr), .val (.ref b33z), .val (.int (3 : Int32)), .val (.int (2 : Int32)), .val (.int (own_cpx [c0, c1, c2] 1))] [(.int (2 : Int32)), (.int (3 : Int32)), (.ref b33z)])) _
        obtain ⟨T53z, h53z, X53z, e53z, W53z, V53z, st53z⟩ := own_stI X40z hx hZ e40z V40z (i := 3) (by decide) (Nat.le_of_ble_eq_true rfl) (g := (mkF m 119 #[.val (.ref arr), .val (.ref b33z), .val (.int (3 : Int32)), .val (.int (2 : Int32)), .val (.int (own_cpx [c0, c1, c2] 1))] [(.int (2 : Int32)), (.int (3 : Int32)), (.ref b33z)])) rfl rfl (hb hby d_method_7_code_119)
        refine own_go st53z ?_
        have N53z := Fr.snoc X53z N40z fr_b33z
        have O54z := own_ext_wr O41z W53z fr_b33z
        have K54z := K41z.wr W53z (Or.inr lz_b33z)
        have V53z : own_A Z h53z b33z kc33z .int [(.int (own_cpx [c0, c1, c2] 0)), (.int (own_cpx [c0, c1, c2] 1)), (.int (0 : Int32)), (.int (2 : Int32))] := V53z
        refine own_go (fun t k => XS.aloadN X53z.here hx rfl (hb hby d_method_7_code_120) rfl rfl k) ?_
        exact own_ret X53z hx Bd.returns rfl (Or.inr (Or.inr (Or.inr (Or.inr ⟨rfl, rfl, rfl⟩)))) (hb hby d_method_7_code_121) hlk (Nat.le_of_ble_eq_true rfl) (Nat.le_of_ble_eq_true rfl) (by show Q_own_decode Z arr kk [c0, c1, c2] h0 _ T53z.heap _; rw [e53z]; exact ⟨b33z, kc33z, (own_cpx [c0, c1, c2] 0), (own_cpx [c0, c1, c2] 1), (0 : Int32), (2 : Int32), rfl, N53z, K54z, V53z, lz_b33z, (own_decs2 (cs := [c0, c1, c2]) (((own_d1 hc (by simp) hc38z).trans (congrArg (List.cons _) ((own_d2 hc (by simp) hc42z).trans (congrArg (List.cons _) (own_d0 (cs := [c0, c1, c2]) (i := 3) (by simp)))))) : own_dec (List.drop 0 [c0, c1, c2]) = _))⟩)
    · refine own_go (fun t k => XS.icmpNo X36z.here hx rfl (hb hby d_method_7_code_34) rfl (flt hc38z).1 k) ?_
      show own_G p e below (T36z.setTop (mkF m 37 #[.val (.ref arr), .val (.ref b33z), .val (.int (0 : Int32)), .val (.int (1 : Int32)), .val (.int (own_cpx [c0, c1, c2] 0))] [(.int (0 : Int32))])) _
      refine own_go (fun t k => XS.iconst X36z.here hx rfl (hb hby d_method_7_code_37) k) ?_
      refine own_go (fun t k => XS.goto X36z.here hx rfl (pc0 := 38) (pc' := 42) rfl (hb hby d_method_7_code_38) (by decide) (by decide) k) ?_
      show own_G p e below (T36z.setTop (mkF m 42 #[.val (.ref arr), .val (.ref b33z), .val (.int (0 : Int32)), .val (.int (1 : Int32)), .val (.int (own_cpx [c0, c1, c2] 0))] [(.int (2 : Int32)), (.int (0 : Int32))])) _
      refine own_go (fun t k => XS.iadd X36z.here hx rfl (hb hby d_method_7_code_42) rfl k) ?_
      refine own_go (fun t k => XS.istoreN X36z.here hx rfl (hb hby d_method_7_code_43) rfl (l' := #[.val (.ref arr), .val (.ref b33z), .val (.int (2 : Int32)), .val (.int (1 : Int32)), .val (.int (own_cpx [c0, c1, c2] 0))]) rfl k) ?_
      refine own_go (fun t k => XS.iloadN X36z.here hx rfl (hb hby d_method_7_code_44) rfl k) ?_
      show own_G p e below (T36z.setTop (mkF m 45 #[.val (.ref arr), .val (.ref b33z), .val (.int (2 : Int32)), .val (.int (1 : Int32)), .val (.int (own_cpx [c0, c1, c2] 0))] [(.int (2 : Int32))])) _
      refine own_go (fun t k => XS.aloadN X36z.here hx rfl (hb hby d_method_7_code_45) rfl rfl k) ?_
      refine own_go (own_len X36z hx hZ e36z ((VA.ext E33z).other W36z ne_arr_b33z) (z := (3 : Int32)) (by show (3 : Int32).toInt = ((3 : Nat) : Int); decide) (g := (mkF m 46 #[.val (.ref arr), .val (.ref b33z), .val (.int (2 : Int32)), .val (.int (1 : Int32)), .val (.int (own_cpx [c0, c1, c2] 0))] [(.ref arr), (.int (2 : Int32))])) rfl rfl (hb hby d_method_7_code_46)) ?_
      refine own_go (fun t k => XS.icmpNo X36z.here hx rfl (hb hby d_method_7_code_47) rfl (tlt (by decide : (2 : Int32) < (3 : Int32))).2.1 k) ?_
      show own_G p e below (T36z.setTop (mkF m 50 #[.val (.ref arr), .val (.ref b33z), .val (.int (2 : Int32)), .val (.int (1 : Int32)), .val (.int (own_cpx [c0, c1, c2] 0))] [])) _
      refine own_go (fun t k => XS.aloadN X36z.here hx rfl (hb hby d_method_7_code_50) rfl rfl k) ?_
      refine own_go (fun t k => XS.iloadN X36z.here hx rfl (hb hby d_method_7_code_51) rfl k) ?_
      obtain ⟨_, _, ⟨T55z, L55z, k55z, n55z⟩, -, X55z, ⟨Lc55z, hQ55z, l55z, y55z, z55z⟩, st55z⟩ := Jvm.LawKit.callS X36z hx (y := own_m14) hown (own_mw hZ hw 155 rfl) (own_mw hZ hw 156 rfl) (own_mw hZ hw 26 rfl) (own_mw hZ hw 157 rfl) (by decide) (backOf (W := 0) (own_cpAt l Z a0 hw [] arr kk ([c0, c1, c2]) (2 : Int32) 2 h36z O37z ((VA.ext E33z).other W36z ne_arr_b33z) (by decide) (by simp) h3) hZ (own_hw hw 157 rfl) (own_hw hw 26 rfl) (by decide) (by decide)) (g := (mkF m 52 #[.val (.ref arr), .val (.ref b33z), .val (.int (2 : Int32)), .val (.int (1 : Int32)), .val (.int (own_cpx [c0, c1, c2] 0))] [(.int (2 : Int32)), (.ref arr)])) rfl (by rw [hml]; rfl) (argsL := [(.ref arr), (.int (2 : Int32))]) (rest := []) (lenOf pd_1807879494 rfl) rfl (by show 2 * 0 + _ ≤ _; exact Nat.le_of_eq rfl) (hb hby d_method_7_code_52) (fun _ _ => ⟨rfl, e36z, (by decide : 1 + 0 ≤ _), (by decide : 4 + 0 ≤ _)⟩)
      dsimp only [Pt.U, Pt.locs, Pt.cells, Pt.slots] at X55z l55z y55z z55z st55z hQ55z
      subst l55z y55z z55z
      obtain ⟨rfl, NQ55z, K55zq⟩ := hQ55z
      refine own_go st55z ?_
      have N55z := Fr.app N36z NQ55z
      show own_G p e below (T55z.setTop (mkF m 55 #[.val (.ref arr), .val (.ref b33z), .val (.int (2 : Int32)), .val (.int (1 : Int32)), .val (.int (own_cpx [c0, c1, c2] 0))] [(.int (own_cpx [c0, c1, c2] 2))])) _
      refine own_go (fun t k => XS.istore X55z.here hx rfl (hb hby d_method_7_code_55) rfl (l' := #[.val (.ref arr), .val (.ref b33z), .val (.int (2 : Int32)), .val (.int (1 : Int32)), .val (.int (own_cpx [c0, c1, c2] 2))]) rfl k) ?_
      refine own_go (fun t k => XS.aloadN X55z.here hx rfl (hb hby d_method_7_code_57) rfl rfl k) ?_
      refine own_go (fun t k => XS.iloadN X55z.here hx rfl (hb hby d_method_7_code_58) rfl k) ?_
      show own_G p e below (T55z.setTop (mkF m 59 #[.val (.ref arr), .val (.ref b33z), .val (.int (2 : Int32)), .val (.int (1 : Int32)), .val (.int (own_cpx [c0, c1, c2] 2))] [(.int (1 : Int32)), (.ref b33z)])) _
      refine own_go (fun t k => XS.iload X55z.here hx rfl (hb hby d_method_7_code_59) rfl k) ?_
      obtain ⟨T56z, h56z, X56z, e56z, W56z, V56z, st56z⟩ := own_stI X55z hx hZ K55zq V36z (i := 1) (by decide) (Nat.le_of_ble_eq_true rfl) (g := (mkF m 61 #[.val (.ref arr), .val (.ref b33z), .val (.int (2 : Int32)), .val (.int (1 : Int32)), .val (.int (own_cpx [c0, c1, c2] 2))] [(.int (own_cpx [c0, c1, c2] 2)), (.int (1 : Int32)), (.ref b33z)])) rfl rfl (hb hby d_method_7_code_61)
      refine own_go st56z ?_
      have N56z := Fr.snoc X56z N55z fr_b33z
      have O57z := own_ext_wr O37z W56z fr_b33z
      have K57z := K37z.wr W56z (Or.inr lz_b33z)
      have V56z : own_A Z h56z b33z kc33z .int [(.int (own_cpx [c0, c1, c2] 0)), (.int (own_cpx [c0, c1, c2] 2)), (.int (0 : Int32)), (.int (0 : Int32))] := V56z
      refine own_go (fun t k => XS.iinc X56z.here hx rfl (hb hby d_method_7_code_62) rfl (l' := #[.val (.ref arr), .val (.ref b33z), .val (.int (2 : Int32)), .val (.int (2 : Int32)), .val (.int (own_cpx [c0, c1, c2] 2))]) rfl k) ?_
      show own_G p e below (T56z.setTop (mkF m 65 #[.val (.ref arr), .val (.ref b33z), .val (.int (2 : Int32)), .val (.int (2 : Int32)), .val (.int (own_cpx [c0, c1, c2] 2))] [])) _
      refine own_go (fun t k => XS.iloadN X56z.here hx rfl (hb hby d_method_7_code_65) rfl k) ?_
      refine own_go (fun t k => XS.iload X56z.here hx rfl (hb hby d_method_7_code_66) rfl k) ?_
      refine own_go (fun t k => X56z.ldcI hx hown (mvT hZ (own_hw hw 159 rfl)) rfl (hb hby d_method_7_code_68) k) ?_
      show own_G p e below (T56z.setTop (mkF m 70 #[.val (.ref arr), .val (.ref b33z), .val (.int (2 : Int32)), .val (.int (2 : Int32)), .val (.int (own_cpx [c0, c1, c2] 2))] [(.int (65536 : Int32)), (.int (own_cpx [c0, c1, c2] 2)), (.int (2 : Int32))])) _
      by_cases hc58z : (own_cpx [c0, c1, c2] 2) < (65536 : Int32)
      · refine own_go (fun t k => XS.icmpYes X56z.here hx rfl (pc0 := 70) (pc' := 77) rfl (hb hby d_method_7_code_70) rfl (tlt hc58z).1 (by decide) (by decide) k) ?_
        show own_G p e below (T56z.setTop (mkF m 77 #[.val (.ref arr), .val (.ref b33z), .val (.int (2 : Int32)), .val (.int (2 : Int32)), .val (.int (own_cpx [c0, c1, c2] 2))] [(.int (2 : Int32))])) _
        refine own_go (fun t k => XS.iconst X56z.here hx rfl (hb hby d_method_7_code_77) k) ?_
        refine own_go (fun t k => XS.iadd X56z.here hx rfl (hb hby d_method_7_code_78) rfl k) ?_
        refine own_go (fun t k => XS.istoreN X56z.here hx rfl (hb hby d_method_7_code_79) rfl (l' := #[.val (.ref arr), .val (.ref b33z), .val (.int (3 : Int32)), .val (.int (2 : Int32)), .val (.int (own_cpx [c0, c1, c2] 2))]) rfl k) ?_
        show own_G p e below (T56z.setTop (mkF m 80 #[.val (.ref arr), .val (.ref b33z), .val (.int (3 : Int32)), .val (.int (2 : Int32)), .val (.int (own_cpx [c0, c1, c2] 2))] [])) _
        refine own_go (fun t k => XS.iloadN X56z.here hx rfl (hb hby d_method_7_code_80) rfl k) ?_
        refine own_go (fun t k => XS.aloadN X56z.here hx rfl (hb hby d_method_7_code_81) rfl rfl k) ?_
        have f59z := (((VA.ext E33z).other W36z ne_arr_b33z).other W56z ne_arr_b33z)
        refine own_go (own_len X56z hx hZ e56z f59z (z := (3 : Int32)) (by show (3 : Int32).toInt = ((3 : Nat) : Int); decide) (g := (mkF m 82 #[.val (.ref arr), .val (.ref b33z), .val (.int (3 : Int32)), .val (.int (2 : Int32)), .val (.int (own_cpx [c0, c1, c2] 2))] [(.ref arr), (.int (3 : Int32))])) rfl rfl (hb hby d_method_7_code_82)) ?_
        show own_G p e below (T56z.setTop (mkF m 83 #[.val (.ref arr), .val (.ref b33z), .val (.int (3 : Int32)), .val (.int (2 : Int32)), .val (.int (own_cpx [c0, c1, c2] 2))] [(.int (3 : Int32)), (.int (3 : Int32))])) _
        refine own_go (fun t k => XS.icmpYes X56z.here hx rfl (pc0 := 83) (pc' := 116) rfl (hb hby d_method_7_code_83) rfl (flt (by decide : ¬ ((3 : Int32) < (3 : Int32)))).2.1 (by decide) (by decide) k) ?_
        show own_G p e below (T56z.setTop (mkF m 116 #[.val (.ref arr), .val (.ref b33z), .val (.int (3 : Int32)), .val (.int (2 : Int32)), .val (.int (own_cpx [c0, c1, c2] 2))] [])) _
        refine own_go (fun t k => XS.aloadN X56z.here hx rfl (hb hby d_method_7_code_116) rfl rfl k) ?_
        refine own_go (fun t k => XS.iconst X56z.here hx rfl (hb hby d_method_7_code_117) k) ?_
        refine own_go (fun t k => XS.iloadN X56z.here hx rfl (hb hby d_method_7_code_118) rfl k) ?_
        show own_G p e below (T56z.setTop (mkF m 119 #[.val (.ref arr), .val (.ref b33z), .val (.int (3 : Int32)), .val (.int (2 : Int32)), .val (.int (own_cpx [c0, c1, c2] 2))] [(.int (2 : Int32)), (.int (3 : Int32)), (.ref b33z)])) _
        obtain ⟨T60z, h60z, X60z, e60z, W60z, V60z, st60z⟩ := own_stI X56z hx hZ e56z V56z (i := 3) (by decide) (Nat.le_of_ble_eq_true rfl) (g := (mkF m 119 #[.val (.ref arr), .val (.ref b33z), .val (.int (3 : Int32)), .val (.int (2 : Int32)), .val (.int (own_cpx [c0, c1, c2] 2))] [(.int (2 : Int32)), (.int (3 : Int32)), (.ref b33z)])) rfl rfl (hb hby d_method_7_code_119)
        refine own_go st60z ?_
        have N60z := Fr.snoc X60z N56z fr_b33z
        have O61z := own_ext_wr O57z W60z fr_b33z
        have K61z := K57z.wr W60z (Or.inr lz_b33z)
        have V60z : own_A Z h60z b33z kc33z .int [(.int (own_cpx [c0, c1, c2] 0)), (.int (own_cpx [c0, c1, c2] 2)), (.int (0 : Int32)), (.int (2 : Int32))] := V60z
        refine own_go (fun t k => XS.aloadN X60z.here hx rfl (hb hby d_method_7_code_120) rfl rfl k) ?_
        exact own_ret X60z hx Bd.returns rfl (Or.inr (Or.inr (Or.inr (Or.inr ⟨rfl, rfl, rfl⟩)))) (hb hby d_method_7_code_121) hlk (Nat.le_of_ble_eq_true rfl) (Nat.le_of_ble_eq_true rfl) (by show Q_own_decode Z arr kk [c0, c1, c2] h0 _ T60z.heap _; rw [e60z]; exact ⟨b33z, kc33z, (own_cpx [c0, c1, c2] 0), (own_cpx [c0, c1, c2] 2), (0 : Int32), (2 : Int32), rfl, N60z, K61z, V60z, lz_b33z, (own_decs2 (cs := [c0, c1, c2]) (((own_d2 hc (by simp) hc38z).trans (congrArg (List.cons _) ((own_d1 hc (by simp) hc58z).trans (congrArg (List.cons _) (own_d0 (cs := [c0, c1, c2]) (i := 3) (by simp)))))) : own_dec (List.drop 0 [c0, c1, c2]) = _))⟩)
      · refine own_go (fun t k => XS.icmpNo X56z.here hx rfl (hb hby d_method_7_code_70) rfl (flt hc58z).1 k) ?_
        show own_G p e below (T56z.setTop (mkF m 73 #[.val (.ref arr), .val (.ref b33z), .val (.int (2 : Int32)), .val (.int (2 : Int32)), .val (.int (own_cpx [c0, c1, c2] 2))] [(.int (2 : Int32))])) _
        refine own_go (fun t k => XS.iconst X56z.here hx rfl (hb hby d_method_7_code_73) k) ?_
        refine own_go (fun t k => XS.goto X56z.here hx rfl (pc0 := 74) (pc' := 78) rfl (hb hby d_method_7_code_74) (by decide) (by decide) k) ?_
        show own_G p e below (T56z.setTop (mkF m 78 #[.val (.ref arr), .val (.ref b33z), .val (.int (2 : Int32)), .val (.int (2 : Int32)), .val (.int (own_cpx [c0, c1, c2] 2))] [(.int (2 : Int32)), (.int (2 : Int32))])) _
        refine own_go (fun t k => XS.iadd X56z.here hx rfl (hb hby d_method_7_code_78) rfl k) ?_
        refine own_go (fun t k => XS.istoreN X56z.here hx rfl (hb hby d_method_7_code_79) rfl (l' := #[.val (.ref arr), .val (.ref b33z), .val (.int (4 : Int32)), .val (.int (2 : Int32)), .val (.int (own_cpx [c0, c1, c2] 2))]) rfl k) ?_
        refine own_go (fun t k => XS.iloadN X56z.here hx rfl (hb hby d_method_7_code_80) rfl k) ?_
        show own_G p e below (T56z.setTop (mkF m 81 #[.val (.ref arr), .val (.ref b33z), .val (.int (4 : Int32)), .val (.int (2 : Int32)), .val (.int (own_cpx [c0, c1, c2] 2))] [(.int (4 : Int32))])) _
        refine own_go (fun t k => XS.aloadN X56z.here hx rfl (hb hby d_method_7_code_81) rfl rfl k) ?_
        have f62z := (((VA.ext E33z).other W36z ne_arr_b33z).other W56z ne_arr_b33z)
        refine own_go (own_len X56z hx hZ e56z f62z (z := (3 : Int32)) (by show (3 : Int32).toInt = ((3 : Nat) : Int); decide) (g := (mkF m 82 #[.val (.ref arr), .val (.ref b33z), .val (.int (4 : Int32)), .val (.int (2 : Int32)), .val (.int (own_cpx [c0, c1, c2] 2))] [(.ref arr), (.int (4 : Int32))])) rfl rfl (hb hby d_method_7_code_82)) ?_
        refine own_go (fun t k => XS.icmpYes X56z.here hx rfl (pc0 := 83) (pc' := 116) rfl (hb hby d_method_7_code_83) rfl (flt (by decide : ¬ ((4 : Int32) < (3 : Int32)))).2.1 (by decide) (by decide) k) ?_
        show own_G p e below (T56z.setTop (mkF m 116 #[.val (.ref arr), .val (.ref b33z), .val (.int (4 : Int32)), .val (.int (2 : Int32)), .val (.int (own_cpx [c0, c1, c2] 2))] [])) _
        refine own_go (fun t k => XS.aloadN X56z.here hx rfl (hb hby d_method_7_code_116) rfl rfl k) ?_
        refine own_go (fun t k => XS.iconst X56z.here hx rfl (hb hby d_method_7_code_117) k) ?_
        refine own_go (fun t k => XS.iloadN X56z.here hx rfl (hb hby d_method_7_code_118) rfl k) ?_
        show own_G p e below (T56z.setTop (mkF m 119 #[.val (.ref arr), .val (.ref b33z), .val (.int (4 : Int32)), .val (.int (2 : Int32)), .val (.int (own_cpx [c0, c1, c2] 2))] [(.int (2 : Int32)), (.int (3 : Int32)), (.ref b33z)])) _
        obtain ⟨T63z, h63z, X63z, e63z, W63z, V63z, st63z⟩ := own_stI X56z hx hZ e56z V56z (i := 3) (by decide) (Nat.le_of_ble_eq_true rfl) (g := (mkF m 119 #[.val (.ref arr), .val (.ref b33z), .val (.int (4 : Int32)), .val (.int (2 : Int32)), .val (.int (own_cpx [c0, c1, c2] 2))] [(.int (2 : Int32)), (.int (3 : Int32)), (.ref b33z)])) rfl rfl (hb hby d_method_7_code_119)
        refine own_go st63z ?_
        have N63z := Fr.snoc X63z N56z fr_b33z
        have O64z := own_ext_wr O57z W63z fr_b33z
        have K64z := K57z.wr W63z (Or.inr lz_b33z)
        have V63z : own_A Z h63z b33z kc33z .int [(.int (own_cpx [c0, c1, c2] 0)), (.int (own_cpx [c0, c1, c2] 2)), (.int (0 : Int32)), (.int (2 : Int32))] := V63z
        refine own_go (fun t k => XS.aloadN X63z.here hx rfl (hb hby d_method_7_code_120) rfl rfl k) ?_
        exact own_ret X63z hx Bd.returns rfl (Or.inr (Or.inr (Or.inr (Or.inr ⟨rfl, rfl, rfl⟩)))) (hb hby d_method_7_code_121) hlk (Nat.le_of_ble_eq_true rfl) (Nat.le_of_ble_eq_true rfl) (by show Q_own_decode Z arr kk [c0, c1, c2] h0 _ T63z.heap _; rw [e63z]; exact ⟨b33z, kc33z, (own_cpx [c0, c1, c2] 0), (own_cpx [c0, c1, c2] 2), (0 : Int32), (2 : Int32), rfl, N63z, K64z, V63z, lz_b33z, (own_decs2 (cs := [c0, c1, c2]) (((own_d2 hc (by simp) hc38z).trans (congrArg (List.cons _) ((own_d2 hc (by simp) hc58z).trans (congrArg (List.cons _) (own_d0 (cs := [c0, c1, c2]) (i := 4) (by simp)))))) : own_dec (List.drop 0 [c0, c1, c2]) = _))⟩)
theorem ef_own_lexM (m : MethodId) (x0 : Addr) (x1 : Addr) : entryFrame m #[(.ref x0), (.ref x1)] 4 = mkF m 0 #[.val (.ref x0), .val (.ref x1), .unset, .unset] [] := by first | (simp [entryFrame, mkF, argsToLocals, Value.category]; done) | rfl
theorem pf_own_lexM : plainFor own_m16 = true := plainFor_of_name (by simp [plainName, overriddenIn])
theorem pd_2087992008 : parseMethodDescriptor "(I)I" = some ⟨[.int], some .int⟩ := by decide +kernel
theorem d_method_8_code_0 : decode method_8_code 0 = .ok (.aload_n 0, 1) := by decide +kernel
theorem d_method_8_code_1 : decode method_8_code 1 = .ok (.iconst 3, 1) := by decide +kernel
theorem d_method_8_code_100 : decode method_8_code 100 = .ok (.isub, 1) := by decide +kernel
theorem d_method_8_code_101 : decode method_8_code 101 = .ok (.invokestatic 19, 3) := by decide +kernel
theorem d_method_8_code_104 : decode method_8_code 104 = .ok (.ireturn, 1) := by decide +kernel
theorem d_method_8_code_105 : decode method_8_code 105 = .ok (.aload_n 0, 1) := by decide +kernel
theorem d_method_8_code_106 : decode method_8_code 106 = .ok (.iconst 2, 1) := by decide +kernel
theorem d_method_8_code_107 : decode method_8_code 107 = .ok (.iaload, 1) := by decide +kernel
theorem d_method_8_code_108 : decode method_8_code 108 = .ok (.aload_n 1, 1) := by decide +kernel
theorem d_method_8_code_109 : decode method_8_code 109 = .ok (.iconst 2, 1) := by decide +kernel
theorem d_method_8_code_110 : decode method_8_code 110 = .ok (.iaload, 1) := by decide +kernel
theorem d_method_8_code_111 : decode method_8_code 111 = .ok (.if_icmp .eq 18, 3) := by decide +kernel
theorem d_method_8_code_114 : decode method_8_code 114 = .ok (.aload_n 0, 1) := by decide +kernel
theorem d_method_8_code_115 : decode method_8_code 115 = .ok (.iconst 2, 1) := by decide +kernel
theorem d_method_8_code_116 : decode method_8_code 116 = .ok (.iaload, 1) := by decide +kernel
theorem d_method_8_code_117 : decode method_8_code 117 = .ok (.aload_n 1, 1) := by decide +kernel
theorem d_method_8_code_118 : decode method_8_code 118 = .ok (.iconst 2, 1) := by decide +kernel
theorem d_method_8_code_119 : decode method_8_code 119 = .ok (.iaload, 1) := by decide +kernel
theorem d_method_8_code_12 : decode method_8_code 12 = .ok (.iload_n 3, 1) := by decide +kernel
theorem d_method_8_code_120 : decode method_8_code 120 = .ok (.if_icmp .ge 7, 3) := by decide +kernel
theorem d_method_8_code_123 : decode method_8_code 123 = .ok (.iconst (-1), 1) := by decide +kernel
theorem d_method_8_code_124 : decode method_8_code 124 = .ok (.goto 4, 3) := by decide +kernel
theorem d_method_8_code_127 : decode method_8_code 127 = .ok (.iconst 1, 1) := by decide +kernel
theorem d_method_8_code_128 : decode method_8_code 128 = .ok (.ireturn, 1) := by decide +kernel
theorem d_method_8_code_129 : decode method_8_code 129 = .ok (.iconst 0, 1) := by decide +kernel
theorem d_method_8_code_13 : decode method_8_code 13 = .ok (.ifCond .ne 10, 3) := by decide +kernel
theorem d_method_8_code_130 : decode method_8_code 130 = .ok (.ireturn, 1) := by decide +kernel
theorem d_method_8_code_16 : decode method_8_code 16 = .ok (.iload_n 2, 1) := by decide +kernel
theorem d_method_8_code_17 : decode method_8_code 17 = .ok (.iload_n 3, 1) := by decide +kernel
theorem d_method_8_code_18 : decode method_8_code 18 = .ok (.isub, 1) := by decide +kernel
theorem d_method_8_code_19 : decode method_8_code 19 = .ok (.invokestatic 19, 3) := by decide +kernel
theorem d_method_8_code_2 : decode method_8_code 2 = .ok (.iaload, 1) := by decide +kernel
theorem d_method_8_code_22 : decode method_8_code 22 = .ok (.ireturn, 1) := by decide +kernel
theorem d_method_8_code_23 : decode method_8_code 23 = .ok (.aload_n 0, 1) := by decide +kernel
theorem d_method_8_code_24 : decode method_8_code 24 = .ok (.iconst 0, 1) := by decide +kernel
theorem d_method_8_code_25 : decode method_8_code 25 = .ok (.iaload, 1) := by decide +kernel
theorem d_method_8_code_26 : decode method_8_code 26 = .ok (.aload_n 1, 1) := by decide +kernel
theorem d_method_8_code_27 : decode method_8_code 27 = .ok (.iconst 0, 1) := by decide +kernel
theorem d_method_8_code_28 : decode method_8_code 28 = .ok (.iaload, 1) := by decide +kernel
theorem d_method_8_code_29 : decode method_8_code 29 = .ok (.if_icmp .eq 18, 3) := by decide +kernel
theorem d_method_8_code_3 : decode method_8_code 3 = .ok (.istore_n 2, 1) := by decide +kernel
theorem d_method_8_code_32 : decode method_8_code 32 = .ok (.aload_n 0, 1) := by decide +kernel
theorem d_method_8_code_33 : decode method_8_code 33 = .ok (.iconst 0, 1) := by decide +kernel
theorem d_method_8_code_34 : decode method_8_code 34 = .ok (.iaload, 1) := by decide +kernel
theorem d_method_8_code_35 : decode method_8_code 35 = .ok (.aload_n 1, 1) := by decide +kernel
theorem d_method_8_code_36 : decode method_8_code 36 = .ok (.iconst 0, 1) := by decide +kernel
theorem d_method_8_code_37 : decode method_8_code 37 = .ok (.iaload, 1) := by decide +kernel
theorem d_method_8_code_38 : decode method_8_code 38 = .ok (.if_icmp .ge 7, 3) := by decide +kernel
theorem d_method_8_code_4 : decode method_8_code 4 = .ok (.aload_n 1, 1) := by decide +kernel
theorem d_method_8_code_41 : decode method_8_code 41 = .ok (.iconst (-1), 1) := by decide +kernel
theorem d_method_8_code_42 : decode method_8_code 42 = .ok (.goto 4, 3) := by decide +kernel
theorem d_method_8_code_45 : decode method_8_code 45 = .ok (.iconst 1, 1) := by decide +kernel
theorem d_method_8_code_46 : decode method_8_code 46 = .ok (.ireturn, 1) := by decide +kernel
theorem d_method_8_code_47 : decode method_8_code 47 = .ok (.iload_n 2, 1) := by decide +kernel
theorem d_method_8_code_48 : decode method_8_code 48 = .ok (.iconst 1, 1) := by decide +kernel
theorem d_method_8_code_49 : decode method_8_code 49 = .ok (.if_icmp .eq 8, 3) := by decide +kernel
theorem d_method_8_code_5 : decode method_8_code 5 = .ok (.iconst 3, 1) := by decide +kernel
theorem d_method_8_code_52 : decode method_8_code 52 = .ok (.iload_n 3, 1) := by decide +kernel
theorem d_method_8_code_53 : decode method_8_code 53 = .ok (.iconst 1, 1) := by decide +kernel
theorem d_method_8_code_54 : decode method_8_code 54 = .ok (.if_icmp .ne 10, 3) := by decide +kernel
theorem d_method_8_code_57 : decode method_8_code 57 = .ok (.iload_n 2, 1) := by decide +kernel
theorem d_method_8_code_58 : decode method_8_code 58 = .ok (.iload_n 3, 1) := by decide +kernel
theorem d_method_8_code_59 : decode method_8_code 59 = .ok (.isub, 1) := by decide +kernel
theorem d_method_8_code_6 : decode method_8_code 6 = .ok (.iaload, 1) := by decide +kernel
theorem d_method_8_code_60 : decode method_8_code 60 = .ok (.invokestatic 19, 3) := by decide +kernel
theorem d_method_8_code_63 : decode method_8_code 63 = .ok (.ireturn, 1) := by decide +kernel
theorem d_method_8_code_64 : decode method_8_code 64 = .ok (.aload_n 0, 1) := by decide +kernel
theorem d_method_8_code_65 : decode method_8_code 65 = .ok (.iconst 1, 1) := by decide +kernel
theorem d_method_8_code_66 : decode method_8_code 66 = .ok (.iaload, 1) := by decide +kernel
theorem d_method_8_code_67 : decode method_8_code 67 = .ok (.aload_n 1, 1) := by decide +kernel
theorem d_method_8_code_68 : decode method_8_code 68 = .ok (.iconst 1, 1) := by decide +kernel
theorem d_method_8_code_69 : decode method_8_code 69 = .ok (.iaload, 1) := by decide +kernel
theorem d_method_8_code_7 : decode method_8_code 7 = .ok (.istore_n 3, 1) := by decide +kernel
theorem d_method_8_code_70 : decode method_8_code 70 = .ok (.if_icmp .eq 18, 3) := by decide +kernel
theorem d_method_8_code_73 : decode method_8_code 73 = .ok (.aload_n 0, 1) := by decide +kernel
theorem d_method_8_code_74 : decode method_8_code 74 = .ok (.iconst 1, 1) := by decide +kernel
theorem d_method_8_code_75 : decode method_8_code 75 = .ok (.iaload, 1) := by decide +kernel
theorem d_method_8_code_76 : decode method_8_code 76 = .ok (.aload_n 1, 1) := by decide +kernel
theorem d_method_8_code_77 : decode method_8_code 77 = .ok (.iconst 1, 1) := by decide +kernel
theorem d_method_8_code_78 : decode method_8_code 78 = .ok (.iaload, 1) := by decide +kernel
theorem d_method_8_code_79 : decode method_8_code 79 = .ok (.if_icmp .ge 7, 3) := by decide +kernel
theorem d_method_8_code_8 : decode method_8_code 8 = .ok (.iload_n 2, 1) := by decide +kernel
theorem d_method_8_code_82 : decode method_8_code 82 = .ok (.iconst (-1), 1) := by decide +kernel
theorem d_method_8_code_83 : decode method_8_code 83 = .ok (.goto 4, 3) := by decide +kernel
theorem d_method_8_code_86 : decode method_8_code 86 = .ok (.iconst 1, 1) := by decide +kernel
theorem d_method_8_code_87 : decode method_8_code 87 = .ok (.ireturn, 1) := by decide +kernel
theorem d_method_8_code_88 : decode method_8_code 88 = .ok (.iload_n 2, 1) := by decide +kernel
theorem d_method_8_code_89 : decode method_8_code 89 = .ok (.iconst 2, 1) := by decide +kernel
theorem d_method_8_code_9 : decode method_8_code 9 = .ok (.ifCond .eq 7, 3) := by decide +kernel
theorem d_method_8_code_90 : decode method_8_code 90 = .ok (.if_icmp .eq 8, 3) := by decide +kernel
theorem d_method_8_code_93 : decode method_8_code 93 = .ok (.iload_n 3, 1) := by decide +kernel
theorem d_method_8_code_94 : decode method_8_code 94 = .ok (.iconst 2, 1) := by decide +kernel
theorem d_method_8_code_95 : decode method_8_code 95 = .ok (.if_icmp .ne 10, 3) := by decide +kernel
theorem d_method_8_code_98 : decode method_8_code 98 = .ok (.iload_n 2, 1) := by decide +kernel
theorem d_method_8_code_99 : decode method_8_code 99 = .ok (.iload_n 3, 1) := by decide +kernel
def Q_own_lexM (Z : State) (pa : Addr) (pk : ClassId) (p0 : Int32) (p1 : Int32) (p2 : Int32) (pn : Int32) (ua : Addr) (uk : ClassId) (u0 : Int32) (u1 : Int32) (u2 : Int32) (un : Int32) (h0 : Heap) (v : Option Value) (h : Heap) (L : List Loc) : Prop := v = some (.int (own_lexF p0 p1 p2 pn u0 u1 u2 un)) ∧ Fr Z.heap.size L ∧ h = h0
set_option maxRecDepth 65536 in
set_option maxHeartbeats 40000000 in
theorem own_lexM (l : Launch) (Z : State) (a0 : Array Value) (hw : ∀ d ∈ tables_1, d.before a0 Z = true) (ws : List Jvm.Cond) (pa : Addr) (pk : ClassId) (p0 : Int32) (p1 : Int32) (p2 : Int32) (pn : Int32) (ua : Addr) (uk : ClassId) (u0 : Int32) (u1 : Int32) (u2 : Int32) (un : Int32) (h0 : Heap) (O0 : Ext Z.heap h0) (q0 : own_A Z h0 pa pk .int [(.int p0), (.int p1), (.int p2), (.int pn)]) (q1 : own_A Z h0 ua uk .int [(.int u0), (.int u1), (.int u2), (.int un)]) :
    MetFree l own_m16 (head1 (Jvm.Cond.code own_m16 method_8_code 4 (some .int) :: ws) ({ frames := 1, cells := 0, slots := 0, locals := 12 } : Room)) (fun aa U => aa = #[(.ref pa), (.ref ua)] ∧ Z.Warmed39 U.vm ∧ U.heap = h0) (fun _ _ _ _ _ => True) (fun _ U o U' => ∃ v L, o = .returned v ∧ Q_own_lexM Z pa pk p0 p1 p2 pn ua uk u0 u1 u2 un h0 v U'.heap L ∧ FrameEnd U o U' L ({ frames := 1, cells := 0, slots := 0, locals := 12 } : Room).cells ({ frames := 1, cells := 0, slots := 0, locals := 12 } : Room).slots) := by
  refine MetFree.of_bodySF pf_own_lexM hisR ?_
  intro p e s m args below meth c s₁ Bd hml0 hP hK
  obtain ⟨rfl, hZ, hh⟩ := hP
  have hx := Bd.exec
  have hby := Bd.bytes
  have hlk := BodyLoose.notSynchronized Bd
  have hml : c.maxLocals = 4 := hml0
  have hown : s.vm.findClass own_s2 = some m.cls := findClass_of_methodNamed Bd.named
  have hnm := (name_of_methodNamed Bd.named Bd.method).1
  have X0 : Stand p l e ({ frames := 1, cells := 0, slots := 0, locals := 12 } : Room) s m #[(.ref pa), (.ref ua)] below meth c s₁ [] 0 0 := Stand.of_body Bd
  have e0 : s₁.heap = h0 := by rw [← hh, Bd.state]; rfl
  have N0 := Fr.nil Z.heap.size
  have K0 : Keep h0 h0 [] := Keep.refl _ _
  refine own_start (Q := Q_own_lexM Z pa pk p0 p1 p2 pn ua uk u0 u1 u2 un h0) (ef_own_lexM m (pa) (ua)) ?_
  show own_G p e below (s₁.setTop (mkF m 0 #[.val (.ref pa), .val (.ref ua), .unset, .unset] [])) _
  refine own_go (fun t k => XS.aloadN X0.here hx rfl (hb hby d_method_8_code_0) rfl rfl k) ?_
  refine own_go (fun t k => XS.iconst X0.here hx rfl (hb hby d_method_8_code_1) k) ?_
  refine own_go (own_ldI X0 hx hZ e0 q0 (i := 3) (v := (.int pn)) (by decide) rfl (g := (mkF m 2 #[.val (.ref pa), .val (.ref ua), .unset, .unset] [(.int (3 : Int32)), (.ref pa)])) rfl rfl (hb hby d_method_8_code_2)) ?_
  show own_G p e below (s₁.setTop (mkF m 3 #[.val (.ref pa), .val (.ref ua), .unset, .unset] [(.int pn)])) _
  refine own_go (fun t k => XS.istoreN X0.here hx rfl (hb hby d_method_8_code_3) rfl (l' := #[.val (.ref pa), .val (.ref ua), .val (.int pn), .unset]) rfl k) ?_
  refine own_go (fun t k => XS.aloadN X0.here hx rfl (hb hby d_method_8_code_4) rfl rfl k) ?_
  refine own_go (fun t k => XS.iconst X0.here hx rfl (hb hby d_method_8_code_5) k) ?_
  show own_G p e below (s₁.setTop (mkF m 6 #[.val (.ref pa), .val (.ref ua), .val (.int pn), .unset] [(.int (3 : Int32)), (.ref ua)])) _
  refine own_go (own_ldI X0 hx hZ e0 q1 (i := 3) (v := (.int un)) (by decide) rfl (g := (mkF m 6 #[.val (.ref pa), .val (.ref ua), .val (.int pn), .unset] [(.int (3 : Int32)), (.ref ua)])) rfl rfl (hb hby d_method_8_code_6)) ?_
  refine own_go (fun t k => XS.istoreN X0.here hx rfl (hb hby d_method_8_code_7) rfl (l' := #[.val (.ref pa), .val (.ref ua), .val (.int pn), .val (.int un)]) rfl k) ?_
  refine own_go (fun t k => XS.iloadN X0.here hx rfl (hb hby d_method_8_code_8) rfl k) ?_
  show own_G p e below (s₁.setTop (mkF m 9 #[.val (.ref pa), .val (.ref ua), .val (.int pn), .val (.int un)] [(.int pn)])) _
  by_cases hc1z : pn = (0 : Int32)
  · refine own_go (fun t k => XS.ifYes X0.here hx rfl (pc0 := 9) (pc' := 16) rfl (hb hby d_method_8_code_9) rfl ((if0 _ _).trans (teq hc1z).1) (by decide) (by decide) k) ?_
    show own_G p e below (s₁.setTop (mkF m 16 #[.val (.ref pa), .val (.ref ua), .val (.int pn), .val (.int un)] [])) _
    refine own_go (fun t k => XS.iloadN X0.here hx rfl (hb hby d_method_8_code_16) rfl k) ?_
    refine own_go (fun t k => XS.iloadN X0.here hx rfl (hb hby d_method_8_code_17) rfl k) ?_
    refine own_go (fun t k => XS.isub X0.here hx rfl (hb hby d_method_8_code_18) rfl k) ?_
    show own_G p e below (s₁.setTop (mkF m 19 #[.val (.ref pa), .val (.ref ua), .val (.int pn), .val (.int un)] [(.int (pn - un))])) _
    obtain ⟨_, _, ⟨T2z, L2z, k2z, n2z⟩, -, X2z, ⟨Lc2z, hQ2z, l2z, y2z, z2z⟩, st2z⟩ := Jvm.LawKit.callS X0 hx (y := own_m0) hown (own_mw hZ hw 24 rfl) (own_mw hZ hw 25 rfl) (own_mw hZ hw 26 rfl) (own_mw hZ hw 27 rfl) (by decide) (backOf (W := 0) (own_sgnM l Z a0 hw [] (pn - un) h0 O0) hZ (own_hw hw 27 rfl) (own_hw hw 26 rfl) (by decide) (by decide)) (g := (mkF m 19 #[.val (.ref pa), .val (.ref ua), .val (.int pn), .val (.int un)] [(.int (pn - un))])) rfl (by rw [hml]; rfl) (argsL := [(.int (pn - un))]) (rest := []) (lenOf pd_2087992008 rfl) rfl (by show 2 * 0 + _ ≤ _; exact Nat.le_of_eq rfl) (hb hby d_method_8_code_19) (fun _ _ => ⟨rfl, e0, (by decide : 0 + 0 ≤ _), (by decide : 0 + 0 ≤ _)⟩)
    dsimp only [Pt.U, Pt.locs, Pt.cells, Pt.slots] at X2z l2z y2z z2z st2z hQ2z
    subst l2z y2z z2z
    obtain ⟨rfl, NQ2z, K2zq⟩ := hQ2z
    refine own_go st2z ?_
    have N2z := Fr.app N0 NQ2z
    show own_G p e below (T2z.setTop (mkF m 22 #[.val (.ref pa), .val (.ref ua), .val (.int pn), .val (.int un)] [(.int (own_sgn (pn - un)))])) _
    exact own_ret X2z hx Bd.returns rfl (Or.inl ⟨rfl, Or.inl rfl, _, rfl⟩) (hb hby d_method_8_code_22) hlk (Nat.le_of_ble_eq_true rfl) (Nat.le_of_ble_eq_true rfl) (by show Q_own_lexM Z pa pk p0 p1 p2 pn ua uk u0 u1 u2 un h0 _ T2z.heap _; rw [K2zq]; exact ⟨(congrArg (fun z => some (Value.int z)) (show (own_lexF p0 p1 p2 pn u0 u1 u2 un) = _ from (if_pos hc1z)).symm), N2z, rfl⟩)
  · refine own_go (fun t k => XS.ifNo X0.here hx rfl (hb hby d_method_8_code_9) rfl ((if0 _ _).trans (feq hc1z).1) k) ?_
    show own_G p e below (s₁.setTop (mkF m 12 #[.val (.ref pa), .val (.ref ua), .val (.int pn), .val (.int un)] [])) _
    refine own_go (fun t k => XS.iloadN X0.here hx rfl (hb hby d_method_8_code_12) rfl k) ?_
    by_cases hc3z : un = (0 : Int32)
    · refine own_go (fun t k => XS.ifNo X0.here hx rfl (hb hby d_method_8_code_13) rfl ((if0 _ _).trans (teq hc3z).2) k) ?_
      show own_G p e below (s₁.setTop (mkF m 16 #[.val (.ref pa), .val (.ref ua), .val (.int pn), .val (.int un)] [])) _
      refine own_go (fun t k => XS.iloadN X0.here hx rfl (hb hby d_method_8_code_16) rfl k) ?_
      refine own_go (fun t k => XS.iloadN X0.here hx rfl (hb hby d_method_8_code_17) rfl k) ?_
      refine own_go (fun t k => XS.isub X0.here hx rfl (hb hby d_method_8_code_18) rfl k) ?_
      show own_G p e below (s₁.setTop (mkF m 19 #[.val (.ref pa), .val (.ref ua), .val (.int pn), .val (.int un)] [(.int (pn - un))])) _
      obtain ⟨_, _, ⟨T4z, L4z, k4z, n4z⟩, -, X4z, ⟨Lc4z, hQ4z, l4z, y4z, z4z⟩, st4z⟩ := Jvm.LawKit.callS X0 hx (y := own_m0) hown (own_mw hZ hw 24 rfl) (own_mw hZ hw 25 rfl) (own_mw hZ hw 26 rfl) (own_mw hZ hw 27 rfl) (by decide) (backOf (W := 0) (own_sgnM l Z a0 hw [] (pn - un) h0 O0) hZ (own_hw hw 27 rfl) (own_hw hw 26 rfl) (by decide) (by decide)) (g := (mkF m 19 #[.val (.ref pa), .val (.ref ua), .val (.int pn), .val (.int un)] [(.int (pn - un))])) rfl (by rw [hml]; rfl) (argsL := [(.int (pn - un))]) (rest := []) (lenOf pd_2087992008 rfl) rfl (by show 2 * 0 + _ ≤ _; exact Nat.le_of_eq rfl) (hb hby d_method_8_code_19) (fun _ _ => ⟨rfl, e0, (by decide : 0 + 0 ≤ _), (by decide : 0 + 0 ≤ _)⟩)
      dsimp only [Pt.U, Pt.locs, Pt.cells, Pt.slots] at X4z l4z y4z z4z st4z hQ4z
      subst l4z y4z z4z
      obtain ⟨rfl, NQ4z, K4zq⟩ := hQ4z
      refine own_go st4z ?_
      have N4z := Fr.app N0 NQ4z
      show own_G p e below (T4z.setTop (mkF m 22 #[.val (.ref pa), .val (.ref ua), .val (.int pn), .val (.int un)] [(.int (own_sgn (pn - un)))])) _
      exact own_ret X4z hx Bd.returns rfl (Or.inl ⟨rfl, Or.inl rfl, _, rfl⟩) (hb hby d_method_8_code_22) hlk (Nat.le_of_ble_eq_true rfl) (Nat.le_of_ble_eq_true rfl) (by show Q_own_lexM Z pa pk p0 p1 p2 pn ua uk u0 u1 u2 un h0 _ T4z.heap _; rw [K4zq]; exact ⟨(congrArg (fun z => some (Value.int z)) (show (own_lexF p0 p1 p2 pn u0 u1 u2 un) = _ from ((if_neg hc1z).trans (if_pos hc3z))).symm), N4z, rfl⟩)
    · refine own_go (fun t k => XS.ifYes X0.here hx rfl (pc0 := 13) (pc' := 23) rfl (hb hby d_method_8_code_13) rfl ((if0 _ _).trans (feq hc3z).2) (by decide) (by decide) k) ?_
      show own_G p e below (s₁.setTop (mkF m 23 #[.val (.ref pa), .val (.ref ua), .val (.int pn), .val (.int un)] [])) _
      refine own_go (fun t k => XS.aloadN X0.here hx rfl (hb hby d_method_8_code_23) rfl rfl k) ?_
      refine own_go (fun t k => XS.iconst X0.here hx rfl (hb hby d_method_8_code_24) k) ?_
      refine own_go (own_ldI X0 hx hZ e0 q0 (i := 0) (v := (.int p0)) (by decide) rfl (g := (mkF m 25 #[.val (.ref pa), .val (.ref ua), .val (.int pn), .val (.int un)] [(.int (0 : Int32)), (.ref pa)])) rfl rfl (hb hby d_method_8_code_25)) ?_
      show own_G p e below (s₁.setTop (mkF m 26 #[.val (.ref pa), .val (.ref ua), .val (.int pn), .val (.int un)] [(.int p0)])) _
      refine own_go (fun t k => XS.aloadN X0.here hx rfl (hb hby d_method_8_code_26) rfl rfl k) ?_
      refine own_go (fun t k => XS.iconst X0.here hx rfl (hb hby d_method_8_code_27) k) ?_
      refine own_go (own_ldI X0 hx hZ e0 q1 (i := 0) (v := (.int u0)) (by decide) rfl (g := (mkF m 28 #[.val (.ref pa), .val (.ref ua), .val (.int pn), .val (.int un)] [(.int (0 : Int32)), (.ref ua), (.int p0)])) rfl rfl (hb hby d_method_8_code_28)) ?_
      show own_G p e below (s₁.setTop (mkF m 29 #[.val (.ref pa), .val (.ref ua), .val (.int pn), .val (.int un)] [(.int u0), (.int p0)])) _
      by_cases hc5z : p0 = u0
      · refine own_go (fun t k => XS.icmpYes X0.here hx rfl (pc0 := 29) (pc' := 47) rfl (hb hby d_method_8_code_29) rfl (teq hc5z).1 (by decide) (by decide) k) ?_
        show own_G p e below (s₁.setTop (mkF m 47 #[.val (.ref pa), .val (.ref ua), .val (.int pn), .val (.int un)] [])) _
        refine own_go (fun t k => XS.iloadN X0.here hx rfl (hb hby d_method_8_code_47) rfl k) ?_
        refine own_go (fun t k => XS.iconst X0.here hx rfl (hb hby d_method_8_code_48) k) ?_
        by_cases hc6z : pn = (1 : Int32)
        · refine own_go (fun t k => XS.icmpYes X0.here hx rfl (pc0 := 49) (pc' := 57) rfl (hb hby d_method_8_code_49) rfl (teq hc6z).1 (by decide) (by decide) k) ?_
          show own_G p e below (s₁.setTop (mkF m 57 #[.val (.ref pa), .val (.ref ua), .val (.int pn), .val (.int un)] [])) _
          refine own_go (fun t k => XS.iloadN X0.here hx rfl (hb hby d_method_8_code_57) rfl k) ?_
          refine own_go (fun t k => XS.iloadN X0.here hx rfl (hb hby d_method_8_code_58) rfl k) ?_
          refine own_go (fun t k => XS.isub X0.here hx rfl (hb hby d_method_8_code_59) rfl k) ?_
          show own_G p e below (s₁.setTop (mkF m 60 #[.val (.ref pa), .val (.ref ua), .val (.int pn), .val (.int un)] [(.int (pn - un))])) _
          obtain ⟨_, _, ⟨T7z, L7z, k7z, n7z⟩, -, X7z, ⟨Lc7z, hQ7z, l7z, y7z, z7z⟩, st7z⟩ := Jvm.LawKit.callS X0 hx (y := own_m0) hown (own_mw hZ hw 24 rfl) (own_mw hZ hw 25 rfl) (own_mw hZ hw 26 rfl) (own_mw hZ hw 27 rfl) (by decide) (backOf (W := 0) (own_sgnM l Z a0 hw [] (pn - un) h0 O0) hZ (own_hw hw 27 rfl) (own_hw hw 26 rfl) (by decide) (by decide)) (g := (mkF m 60 #[.val (.ref pa), .val (.ref ua), .val (.int pn), .val (.int un)] [(.int (pn - un))])) rfl (by rw [hml]; rfl) (argsL := [(.int (pn - un))]) (rest := []) (lenOf pd_2087992008 rfl) rfl (by show 2 * 0 + _ ≤ _; exact Nat.le_of_eq rfl) (hb hby d_method_8_code_60) (fun _ _ => ⟨rfl, e0, (by decide : 0 + 0 ≤ _), (by decide : 0 + 0 ≤ _)⟩)
          dsimp only [Pt.U, Pt.locs, Pt.cells, Pt.slots] at X7z l7z y7z z7z st7z hQ7z
          subst l7z y7z z7z
          obtain ⟨rfl, NQ7z, K7zq⟩ := hQ7z
          refine own_go st7z ?_
          have N7z := Fr.app N0 NQ7z
          show own_G p e below (T7z.setTop (mkF m 63 #[.val (.ref pa), .val (.ref ua), .val (.int pn), .val (.int un)] [(.int (own_sgn (pn - un)))])) _
          exact own_ret X7z hx Bd.returns rfl (Or.inl ⟨rfl, Or.inl rfl, _, rfl⟩) (hb hby d_method_8_code_63) hlk (Nat.le_of_ble_eq_true rfl) (Nat.le_of_ble_eq_true rfl) (by show Q_own_lexM Z pa pk p0 p1 p2 pn ua uk u0 u1 u2 un h0 _ T7z.heap _; rw [K7zq]; exact ⟨(congrArg (fun z => some (Value.int z)) (show (own_lexF p0 p1 p2 pn u0 u1 u2 un) = _ from ((if_neg hc1z).trans ((if_neg hc3z).trans ((if_pos hc5z).trans (if_pos hc6z))))).symm), N7z, rfl⟩)
        · refine own_go (fun t k => XS.icmpNo X0.here hx rfl (hb hby d_method_8_code_49) rfl (feq hc6z).1 k) ?_
          show own_G p e below (s₁.setTop (mkF m 52 #[.val (.ref pa), .val (.ref ua), .val (.int pn), .val (.int un)] [])) _
          refine own_go (fun t k => XS.iloadN X0.here hx rfl (hb hby d_method_8_code_52) rfl k) ?_
          refine own_go (fun t k => XS.iconst X0.here hx rfl (hb hby d_method_8_code_53) k) ?_
          by_cases hc8z : un = (1 : Int32)
          · refine own_go (fun t k => XS.icmpNo X0.here hx rfl (hb hby d_method_8_code_54) rfl (teq hc8z).2 k) ?_
            show own_G p e below (s₁.setTop (mkF m 57 #[.val (.ref pa), .val (.ref ua), .val (.int pn), .val (.int un)] [])) _
            refine own_go (fun t k => XS.iloadN X0.here hx rfl (hb hby d_method_8_code_57) rfl k) ?_
            refine own_go (fun t k => XS.iloadN X0.here hx rfl (hb hby d_method_8_code_58) rfl k) ?_
            refine own_go (fun t k => XS.isub X0.here hx rfl (hb hby d_method_8_code_59) rfl k) ?_
            show own_G p e below (s₁.setTop (mkF m 60 #[.val (.ref pa), .val (.ref ua), .val (.int pn), .val (.int un)] [(.int (pn - un))])) _
            obtain ⟨_, _, ⟨T9z, L9z, k9z, n9z⟩, -, X9z, ⟨Lc9z, hQ9z, l9z, y9z, z9z⟩, st9z⟩ := Jvm.LawKit.callS X0 hx (y := own_m0) hown (own_mw hZ hw 24 rfl) (own_mw hZ hw 25 rfl) (own_mw hZ hw 26 rfl) (own_mw hZ hw 27 rfl) (by decide) (backOf (W := 0) (own_sgnM l Z a0 hw [] (pn - un) h0 O0) hZ (own_hw hw 27 rfl) (own_hw hw 26 rfl) (by decide) (by decide)) (g := (mkF m 60 #[.val (.ref pa), .val (.ref ua), .val (.int pn), .val (.int un)] [(.int (pn - un))])) rfl (by rw [hml]; rfl) (argsL := [(.int (pn - un))]) (rest := []) (lenOf pd_2087992008 rfl) rfl (by show 2 * 0 + _ ≤ _; exact Nat.le_of_eq rfl) (hb hby d_method_8_code_60) (fun _ _ => ⟨rfl, e0, (by decide : 0 + 0 ≤ _), (by decide : 0 + 0 ≤ _)⟩)
            dsimp only [Pt.U, Pt.locs, Pt.cells, Pt.slots] at X9z l9z y9z z9z st9z hQ9z
            subst l9z y9z z9z
            obtain ⟨rfl, NQ9z, K9zq⟩ := hQ9z
            refine own_go st9z ?_
            have N9z := Fr.app N0 NQ9z
            show own_G p e below (T9z.setTop (mkF m 63 #[.val (.ref pa), .val (.ref ua), .val (.int pn), .val (.int un)] [(.int (own_sgn (pn - un)))])) _
            exact own_ret X9z hx Bd.returns rfl (Or.inl ⟨rfl, Or.inl rfl, _, rfl⟩) (hb hby d_method_8_code_63) hlk (Nat.le_of_ble_eq_true rfl) (Nat.le_of_ble_eq_true rfl) (by show Q_own_lexM Z pa pk p0 p1 p2 pn ua uk u0 u1 u2 un h0 _ T9z.heap _; rw [K9zq]; exact ⟨(congrArg (fun z => some (Value.int z)) (show (own_lexF p0 p1 p2 pn u0 u1 u2 un) = _ from ((if_neg hc1z).trans ((if_neg hc3z).trans ((if_pos hc5z).trans ((if_neg hc6z).trans (if_pos hc8z)))))).symm), N9z, rfl⟩)
          · refine own_go (fun t k => XS.icmpYes X0.here hx rfl (pc0 := 54) (pc' := 64) rfl (hb hby d_method_8_code_54) rfl (feq hc8z).2 (by decide) (by decide) k) ?_
            show own_G p e below (s₁.setTop (mkF m 64 #[.val (.ref pa), .val (.ref ua), .val (.int pn), .val (.int un)] [])) _
            refine own_go (fun t k => XS.aloadN X0.here hx rfl (hb hby d_method_8_code_64) rfl rfl k) ?_
            refine own_go (fun t k => XS.iconst X0.here hx rfl (hb hby d_method_8_code_65) k) ?_
            refine own_go (own_ldI X0 hx hZ e0 q0 (i := 1) (v := (.int p1)) (by decide) rfl (g := (mkF m 66 #[.val (.ref pa), .val (.ref ua), .val (.int pn), .val (.int un)] [(.int (1 : Int32)), (.ref pa)])) rfl rfl (hb hby d_method_8_code_66)) ?_
            show own_G p e below (s₁.setTop (mkF m 67 #[.val (.ref pa), .val (.ref ua), .val (.int pn), .val (.int un)] [(.int p1)])) _
            refine own_go (fun t k => XS.aloadN X0.here hx rfl (hb hby d_method_8_code_67) rfl rfl k) ?_
            refine own_go (fun t k => XS.iconst X0.here hx rfl (hb hby d_method_8_code_68) k) ?_
            refine own_go (own_ldI X0 hx hZ e0 q1 (i := 1) (v := (.int u1)) (by decide) rfl (g := (mkF m 69 #[.val (.ref pa), .val (.ref ua), .val (.int pn), .val (.int un)] [(.int (1 : Int32)), (.ref ua), (.int p1)])) rfl rfl (hb hby d_method_8_code_69)) ?_
            show own_G p e below (s₁.setTop (mkF m 70 #[.val (.ref pa), .val (.ref ua), .val (.int pn), .val (.int un)] [(.int u1), (.int p1)])) _
            by_cases hc10z : p1 = u1
            · refine own_go (fun t k => XS.icmpYes X0.here hx rfl (pc0 := 70) (pc' := 88) rfl (hb hby d_method_8_code_70) rfl (teq hc10z).1 (by decide) (by decide) k) ?_
              show own_G p e below (s₁.setTop (mkF m 88 #[.val (.ref pa), .val (.ref ua), .val (.int pn), .val (.int un)] [])) _
              refine own_go (fun t k => XS.iloadN X0.here hx rfl (hb hby d_method_8_code_88) rfl k) ?_
              refine own_go (fun t k => XS.iconst X0.here hx rfl (hb hby d_method_8_code_89) k) ?_
              by_cases hc11z : pn = (2 : Int32)
              · refine own_go (fun t k => XS.icmpYes X0.here hx rfl (pc0 := 90) (pc' := 98) rfl (hb hby d_method_8_code_90) rfl (teq hc11z).1 (by decide) (by decide) k) ?_
                show own_G p e below (s₁.setTop (mkF m 98 #[.val (.ref pa), .val (.ref ua), .val (.int pn), .val (.int un)] [])) _
                refine own_go (fun t k => XS.iloadN X0.here hx rfl (hb hby d_method_8_code_98) rfl k) ?_
                refine own_go (fun t k => XS.iloadN X0.here hx rfl (hb hby d_method_8_code_99) rfl k) ?_
                refine own_go (fun t k => XS.isub X0.here hx rfl (hb hby d_method_8_code_100) rfl k) ?_
                show own_G p e below (s₁.setTop (mkF m 101 #[.val (.ref pa), .val (.ref ua), .val (.int pn), .val (.int un)] [(.int (pn - un))])) _
                obtain ⟨_, _, ⟨T12z, L12z, k12z, n12z⟩, -, X12z, ⟨Lc12z, hQ12z, l12z, y12z, z12z⟩, st12z⟩ := Jvm.LawKit.callS X0 hx (y := own_m0) hown (own_mw hZ hw 24 rfl) (own_mw hZ hw 25 rfl) (own_mw hZ hw 26 rfl) (own_mw hZ hw 27 rfl) (by decide) (backOf (W := 0) (own_sgnM l Z a0 hw [] (pn - un) h0 O0) hZ (own_hw hw 27 rfl) (own_hw hw 26 rfl) (by decide) (by decide)) (g := (mkF m 101 #[.val (.ref pa), .val (.ref ua), .val (.int pn), .val (.int un)] [(.int (pn - un))])) rfl (by rw [hml]; rfl) (argsL := [(.int (pn - un))]) (rest := []) (lenOf pd_2087992008 rfl) rfl (by show 2 * 0 + _ ≤ _; exact Nat.le_of_eq rfl) (hb hby d_method_8_code_101) (fun _ _ => ⟨rfl, e0, (by decide : 0 + 0 ≤ _), (by decide : 0 + 0 ≤ _)⟩)
                dsimp only [Pt.U, Pt.locs, Pt.cells, Pt.slots] at X12z l12z y12z z12z st12z hQ12z
                subst l12z y12z z12z
                obtain ⟨rfl, NQ12z, K12zq⟩ := hQ12z
                refine own_go st12z ?_
                have N12z := Fr.app N0 NQ12z
                show own_G p e below (T12z.setTop (mkF m 104 #[.val (.ref pa), .val (.ref ua), .val (.int pn), .val (.int un)] [(.int (own_sgn (pn - un)))])) _
                exact own_ret X12z hx Bd.returns rfl (Or.inl ⟨rfl, Or.inl rfl, _, rfl⟩) (hb hby d_method_8_code_104) hlk (Nat.le_of_ble_eq_true rfl) (Nat.le_of_ble_eq_true rfl) (by show Q_own_lexM Z pa pk p0 p1 p2 pn ua uk u0 u1 u2 un h0 _ T12z.heap _; rw [K12zq]; exact ⟨(congrArg (fun z => some (Value.int z)) (show (own_lexF p0 p1 p2 pn u0 u1 u2 un) = _ from ((if_neg hc1z).trans ((if_neg hc3z).trans ((if_pos hc5z).trans ((if_neg hc6z).trans ((if_neg hc8z).trans ((if_pos hc10z).trans (if_pos hc11z)))))))).symm), N12z, rfl⟩)
              · refine own_go (fun t k => XS.icmpNo X0.here hx rfl (hb hby d_method_8_code_90) rfl (feq hc11z).1 k) ?_
                show own_G p e below (s₁.setTop (mkF m 93 #[.val (.ref pa), .val (.ref ua), .val (.int pn), .val (.int un)] [])) _
                refine own_go (fun t k => XS.iloadN X0.here hx rfl (hb hby d_method_8_code_93) rfl k) ?_
                refine own_go (fun t k => XS.iconst X0.here hx rfl (hb hby d_method_8_code_94) k) ?_
                by_cases hc13z : un = (2 : Int32)
                · refine own_go (fun t k => XS.icmpNo X0.here hx rfl (hb hby d_method_8_code_95) rfl (teq hc13z).2 k) ?_
                  show own_G p e below (s₁.setTop (mkF m 98 #[.val (.ref pa), .val (.ref ua), .val (.int pn), .val (.int un)] [])) _
                  refine own_go (fun t k => XS.iloadN X0.here hx rfl (hb hby d_method_8_code_98) rfl k) ?_
                  refine own_go (fun t k => XS.iloadN X0.here hx rfl (hb hby d_method_8_code_99) rfl k) ?_
                  refine own_go (fun t k => XS.isub X0.here hx rfl (hb hby d_method_8_code_100) rfl k) ?_
                  show own_G p e below (s₁.setTop (mkF m 101 #[.val (.ref pa), .val (.ref ua), .val (.int pn), .val (.int un)] [(.int (pn - un))])) _
                  obtain ⟨_, _, ⟨T14z, L14z, k14z, n14z⟩, -, X14z, ⟨Lc14z, hQ14z, l14z, y14z, z14z⟩, st14z⟩ := Jvm.LawKit.callS X0 hx (y := own_m0) hown (own_mw hZ hw 24 rfl) (own_mw hZ hw 25 rfl) (own_mw hZ hw 26 rfl) (own_mw hZ hw 27 rfl) (by decide) (backOf (W := 0) (own_sgnM l Z a0 hw [] (pn - un) h0 O0) hZ (own_hw hw 27 rfl) (own_hw hw 26 rfl) (by decide) (by decide)) (g := (mkF m 101 #[.val (.ref pa), .val (.ref ua), .val (.int pn), .val (.int un)] [(.int (pn - un))])) rfl (by rw [hml]; rfl) (argsL := [(.int (pn - un))]) (rest := []) (lenOf pd_2087992008 rfl) rfl (by show 2 * 0 + _ ≤ _; exact Nat.le_of_eq rfl) (hb hby d_method_8_code_101) (fun _ _ => ⟨rfl, e0, (by decide : 0 + 0 ≤ _), (by decide : 0 + 0 ≤ _)⟩)
                  dsimp only [Pt.U, Pt.locs, Pt.cells, Pt.slots] at X14z l14z y14z z14z st14z hQ14z
                  subst l14z y14z z14z
                  obtain ⟨rfl, NQ14z, K14zq⟩ := hQ14z
                  refine own_go st14z ?_
                  have N14z := Fr.app N0 NQ14z
                  show own_G p e below (T14z.setTop (mkF m 104 #[.val (.ref pa), .val (.ref ua), .val (.int pn), .val (.int un)] [(.int (own_sgn (pn - un)))])) _
                  exact own_ret X14z hx Bd.returns rfl (Or.inl ⟨rfl, Or.inl rfl, _, rfl⟩) (hb hby d_method_8_code_104) hlk (Nat.le_of_ble_eq_true rfl) (Nat.le_of_ble_eq_true rfl) (by show Q_own_lexM Z pa pk p0 p1 p2 pn ua uk u0 u1 u2 un h0 _ T14z.heap _; rw [K14zq]; exact ⟨(congrArg (fun z => some (Value.int z)) (show (own_lexF p0 p1 p2 pn u0 u1 u2 un) = _ from ((if_neg hc1z).trans ((if_neg hc3z).trans ((if_pos hc5z).trans ((if_neg hc6z).trans ((if_neg hc8z).trans ((if_pos hc10z).trans ((if_neg hc11z).trans (if_pos hc13z))))))))).symm), N14z, rfl⟩)
                · refine own_go (fun t k => XS.icmpYes X0.here hx rfl (pc0 := 95) (pc' := 105) rfl (hb hby d_method_8_code_95) rfl (feq hc13z).2 (by decide) (by decide) k) ?_
                  show own_G p e below (s₁.setTop (mkF m 105 #[.val (.ref pa), .val (.ref ua), .val (.int pn), .val (.int un)] [])) _
                  refine own_go (fun t k => XS.aloadN X0.here hx rfl (hb hby d_method_8_code_105) rfl rfl k) ?_
                  refine own_go (fun t k => XS.iconst X0.here hx rfl (hb hby d_method_8_code_106) k) ?_
                  refine own_go (own_ldI X0 hx hZ e0 q0 (i := 2) (v := (.int p2)) (by decide) rfl (g := (mkF m 107 #[.val (.ref pa), .val (.ref ua), .val (.int pn), .val (.int un)] [(.int (2 : Int32)), (.ref pa)])) rfl rfl (hb hby d_method_8_code_107)) ?_
                  show own_G p e below (s₁.setTop (mkF m 108 #[.val (.ref pa), .val (.ref ua), .val (.int pn), .val (.int un)] [(.int p2)])) _
                  refine own_go (fun t k => XS.aloadN X0.here hx rfl (hb hby d_method_8_code_108) rfl rfl k) ?_
                  refine own_go (fun t k => XS.iconst X0.here hx rfl (hb hby d_method_8_code_109) k) ?_
                  refine own_go (own_ldI X0 hx hZ e0 q1 (i := 2) (v := (.int u2)) (by decide) rfl (g := (mkF m 110 #[.val (.ref pa), .val (.ref ua), .val (.int pn), .val (.int un)] [(.int (2 : Int32)), (.ref ua), (.int p2)])) rfl rfl (hb hby d_method_8_code_110)) ?_
                  show own_G p e below (s₁.setTop (mkF m 111 #[.val (.ref pa), .val (.ref ua), .val (.int pn), .val (.int un)] [(.int u2), (.int p2)])) _
                  by_cases hc15z : p2 = u2
                  · refine own_go (fun t k => XS.icmpYes X0.here hx rfl (pc0 := 111) (pc' := 129) rfl (hb hby d_method_8_code_111) rfl (teq hc15z).1 (by decide) (by decide) k) ?_
                    show own_G p e below (s₁.setTop (mkF m 129 #[.val (.ref pa), .val (.ref ua), .val (.int pn), .val (.int un)] [])) _
                    refine own_go (fun t k => XS.iconst X0.here hx rfl (hb hby d_method_8_code_129) k) ?_
                    exact own_ret X0 hx Bd.returns rfl (Or.inl ⟨rfl, Or.inl rfl, _, rfl⟩) (hb hby d_method_8_code_130) hlk (Nat.le_of_ble_eq_true rfl) (Nat.le_of_ble_eq_true rfl) (by show Q_own_lexM Z pa pk p0 p1 p2 pn ua uk u0 u1 u2 un h0 _ s₁.heap _; rw [e0]; exact ⟨(congrArg (fun z => some (Value.int z)) (show (own_lexF p0 p1 p2 pn u0 u1 u2 un) = _ from ((if_neg hc1z).trans ((if_neg hc3z).trans ((if_pos hc5z).trans ((if_neg hc6z).trans ((if_neg hc8z).trans ((if_pos hc10z).trans ((if_neg hc11z).trans ((if_neg hc13z).trans (if_pos hc15z)))))))))).symm), N0, rfl⟩)
                  · refine own_go (fun t k => XS.icmpNo X0.here hx rfl (hb hby d_method_8_code_111) rfl (feq hc15z).1 k) ?_
                    show own_G p e below (s₁.setTop (mkF m 114 #[.val (.ref pa), .val (.ref ua), .val (.int pn), .val (.int un)] [])) _
                    refine own_go (fun t k => XS.aloadN X0.here hx rfl (hb hby d_method_8_code_114) rfl rfl k) ?_
                    refine own_go (fun t k => XS.iconst X0.here hx rfl (hb hby d_method_8_code_115) k) ?_
                    refine own_go (own_ldI X0 hx hZ e0 q0 (i := 2) (v := (.int p2)) (by decide) rfl (g := (mkF m 116 #[.val (.ref pa), .val (.ref ua), .val (.int pn), .val (.int un)] [(.int (2 : Int32)), (.ref pa)])) rfl rfl (hb hby d_method_8_code_116)) ?_
                    show own_G p e below (s₁.setTop (mkF m 117 #[.val (.ref pa), .val (.ref ua), .val (.int pn), .val (.int un)] [(.int p2)])) _
                    refine own_go (fun t k => XS.aloadN X0.here hx rfl (hb hby d_method_8_code_117) rfl rfl k) ?_
                    refine own_go (fun t k => XS.iconst X0.here hx rfl (hb hby d_method_8_code_118) k) ?_
                    refine own_go (own_ldI X0 hx hZ e0 q1 (i := 2) (v := (.int u2)) (by decide) rfl (g := (mkF m 119 #[.val (.ref pa), .val (.ref ua), .val (.int pn), .val (.int un)] [(.int (2 : Int32)), (.ref ua), (.int p2)])) rfl rfl (hb hby d_method_8_code_119)) ?_
                    show own_G p e below (s₁.setTop (mkF m 120 #[.val (.ref pa), .val (.ref ua), .val (.int pn), .val (.int un)] [(.int u2), (.int p2)])) _
                    by_cases hc16z : p2 < u2
                    · refine own_go (fun t k => XS.icmpNo X0.here hx rfl (hb hby d_method_8_code_120) rfl (tlt hc16z).2.1 k) ?_
                      show own_G p e below (s₁.setTop (mkF m 123 #[.val (.ref pa), .val (.ref ua), .val (.int pn), .val (.int un)] [])) _
                      refine own_go (fun t k => XS.iconst X0.here hx rfl (hb hby d_method_8_code_123) k) ?_
                      refine own_go (fun t k => XS.goto X0.here hx rfl (pc0 := 124) (pc' := 128) rfl (hb hby d_method_8_code_124) (by decide) (by decide) k) ?_
                      show own_G p e below (s₁.setTop (mkF m 128 #[.val (.ref pa), .val (.ref ua), .val (.int pn), .val (.int un)] [(.int (-1 : Int32))])) _
                      exact own_ret X0 hx Bd.returns rfl (Or.inl ⟨rfl, Or.inl rfl, _, rfl⟩) (hb hby d_method_8_code_128) hlk (Nat.le_of_ble_eq_true rfl) (Nat.le_of_ble_eq_true rfl) (by show Q_own_lexM Z pa pk p0 p1 p2 pn ua uk u0 u1 u2 un h0 _ s₁.heap _; rw [e0]; exact ⟨(congrArg (fun z => some (Value.int z)) (show (own_lexF p0 p1 p2 pn u0 u1 u2 un) = _ from ((if_neg hc1z).trans ((if_neg hc3z).trans ((if_pos hc5z).trans ((if_neg hc6z).trans ((if_neg hc8z).trans ((if_pos hc10z).trans ((if_neg hc11z).trans ((if_neg hc13z).trans ((if_neg hc15z).trans (if_pos hc16z))))))))))).symm), N0, rfl⟩)
                    · refine own_go (fun t k => XS.icmpYes X0.here hx rfl (pc0 := 120) (pc' := 127) rfl (hb hby d_method_8_code_120) rfl (flt hc16z).2.1 (by decide) (by decide) k) ?_
                      show own_G p e below (s₁.setTop (mkF m 127 #[.val (.ref pa), .val (.ref ua), .val (.int pn), .val (.int un)] [])) _
                      refine own_go (fun t k => XS.iconst X0.here hx rfl (hb hby d_method_8_code_127) k) ?_
                      exact own_ret X0 hx Bd.returns rfl (Or.inl ⟨rfl, Or.inl rfl, _, rfl⟩) (hb hby d_method_8_code_128) hlk (Nat.le_of_ble_eq_true rfl) (Nat.le_of_ble_eq_true rfl) (by show Q_own_lexM Z pa pk p0 p1 p2 pn ua uk u0 u1 u2 un h0 _ s₁.heap _; rw [e0]; exact ⟨(congrArg (fun z => some (Value.int z)) (show (own_lexF p0 p1 p2 pn u0 u1 u2 un) = _ from ((if_neg hc1z).trans ((if_neg hc3z).trans ((if_pos hc5z).trans ((if_neg hc6z).trans ((if_neg hc8z).trans ((if_pos hc10z).trans ((if_neg hc11z).trans ((if_neg hc13z).trans ((if_neg hc15z).trans (if_neg hc16z))))))))))).symm), N0, rfl⟩)
            · refine own_go (fun t k => XS.icmpNo X0.here hx rfl (hb hby d_method_8_code_70) rfl (feq hc10z).1 k) ?_
              show own_G p e below (s₁.setTop (mkF m 73 #[.val (.ref pa), .val (.ref ua), .val (.int pn), .val (.int un)] [])) _
              refine own_go (fun t k => XS.aloadN X0.here hx rfl (hb hby d_method_8_code_73) rfl rfl k) ?_
              refine own_go (fun t k => XS.iconst X0.here hx rfl (hb hby d_method_8_code_74) k) ?_
              refine own_go (own_ldI X0 hx hZ e0 q0 (i := 1) (v := (.int p1)) (by decide) rfl (g := (mkF m 75 #[.val (.ref pa), .val (.ref ua), .val (.int pn), .val (.int un)] [(.int (1 : Int32)), (.ref pa)])) rfl rfl (hb hby d_method_8_code_75)) ?_
              show own_G p e below (s₁.setTop (mkF m 76 #[.val (.ref pa), .val (.ref ua), .val (.int pn), .val (.int un)] [(.int p1)])) _
              refine own_go (fun t k => XS.aloadN X0.here hx rfl (hb hby d_method_8_code_76) rfl rfl k) ?_
              refine own_go (fun t k => XS.iconst X0.here hx rfl (hb hby d_method_8_code_77) k) ?_
              refine own_go (own_ldI X0 hx hZ e0 q1 (i := 1) (v := (.int u1)) (by decide) rfl (g := (mkF m 78 #[.val (.ref pa), .val (.ref ua), .val (.int pn), .val (.int un)] [(.int (1 : Int32)), (.ref ua), (.int p1)])) rfl rfl (hb hby d_method_8_code_78)) ?_
              show own_G p e below (s₁.setTop (mkF m 79 #[.val (.ref pa), .val (.ref ua), .val (.int pn), .val (.int un)] [(.int u1), (.int p1)])) _
              by_cases hc17z : p1 < u1
              · refine own_go (fun t k => XS.icmpNo X0.here hx rfl (hb hby d_method_8_code_79) rfl (tlt hc17z).2.1 k) ?_
                show own_G p e below (s₁.setTop (mkF m 82 #[.val (.ref pa), .val (.ref ua), .val (.int pn), .val (.int un)] [])) _
                refine own_go (fun t k => XS.iconst X0.here hx rfl (hb hby d_method_8_code_82) k) ?_
                refine own_go (fun t k => XS.goto X0.here hx rfl (pc0 := 83) (pc' := 87) rfl (hb hby d_method_8_code_83) (by decide) (by decide) k) ?_
                show own_G p e below (s₁.setTop (mkF m 87 #[.val (.ref pa), .val (.ref ua), .val (.int pn), .val (.int un)] [(.int (-1 : Int32))])) _
                exact own_ret X0 hx Bd.returns rfl (Or.inl ⟨rfl, Or.inl rfl, _, rfl⟩) (hb hby d_method_8_code_87) hlk (Nat.le_of_ble_eq_true rfl) (Nat.le_of_ble_eq_true rfl) (by show Q_own_lexM Z pa pk p0 p1 p2 pn ua uk u0 u1 u2 un h0 _ s₁.heap _; rw [e0]; exact ⟨(congrArg (fun z => some (Value.int z)) (show (own_lexF p0 p1 p2 pn u0 u1 u2 un) = _ from ((if_neg hc1z).trans ((if_neg hc3z).trans ((if_pos hc5z).trans ((if_neg hc6z).trans ((if_neg hc8z).trans ((if_neg hc10z).trans (if_pos hc17z)))))))).symm), N0, rfl⟩)
              · refine own_go (fun t k => XS.icmpYes X0.here hx rfl (pc0 := 79) (pc' := 86) rfl (hb hby d_method_8_code_79) rfl (flt hc17z).2.1 (by decide) (by decide) k) ?_
                show own_G p e below (s₁.setTop (mkF m 86 #[.val (.ref pa), .val (.ref ua), .val (.int pn), .val (.int un)] [])) _
                refine own_go (fun t k => XS.iconst X0.here hx rfl (hb hby d_method_8_code_86) k) ?_
                exact own_ret X0 hx Bd.returns rfl (Or.inl ⟨rfl, Or.inl rfl, _, rfl⟩) (hb hby d_method_8_code_87) hlk (Nat.le_of_ble_eq_true rfl) (Nat.le_of_ble_eq_true rfl) (by show Q_own_lexM Z pa pk p0 p1 p2 pn ua uk u0 u1 u2 un h0 _ s₁.heap _; rw [e0]; exact ⟨(congrArg (fun z => some (Value.int z)) (show (own_lexF p0 p1 p2 pn u0 u1 u2 un) = _ from ((if_neg hc1z).trans ((if_neg hc3z).trans ((if_pos hc5z).trans ((if_neg hc6z).trans ((if_neg hc8z).trans ((if_neg hc10z).trans (if_neg hc17z)))))))).symm), N0, rfl⟩)
      · refine own_go (fun t k => XS.icmpNo X0.here hx rfl (hb hby d_method_8_code_29) rfl (feq hc5z).1 k) ?_
        show own_G p e below (s₁.setTop (mkF m 32 #[.val (.ref pa), .val (.ref ua), .val (.int pn), .val (.int un)] [])) _
        refine own_go (fun t k => XS.aloadN X0.here hx rfl (hb hby d_method_8_code_32) rfl rfl k) ?_
        refine own_go (fun t k => XS.iconst X0.here hx rfl (hb hby d_method_8_code_33) k) ?_
        refine own_go (own_ldI X0 hx hZ e0 q0 (i := 0) (v := (.int p0)) (by decide) rfl (g := (mkF m 34 #[.val (.ref pa), .val (.ref ua), .val (.int pn), .val (.int un)] [(.int (0 : Int32)), (.ref pa)])) rfl rfl (hb hby d_method_8_code_34)) ?_
        show own_G p e below (s₁.setTop (mkF m 35 #[.val (.ref pa), .val (.ref ua), .val (.int pn), .val (.int un)] [(.int p0)])) _
        refine own_go (fun t k => XS.aloadN X0.here hx rfl (hb hby d_method_8_code_35) rfl rfl k) ?_
        refine own_go (fun t k => XS.iconst X0.here hx rfl (hb hby d_method_8_code_36) k) ?_
        refine own_go (own_ldI X0 hx hZ e0 q1 (i := 0) (v := (.int u0)) (by decide) rfl (g := (mkF m 37 #[.val (.ref pa), .val (.ref ua), .val (.int pn), .val (.int un)] [(.int (0 : Int32)), (.ref ua), (.int p0)])) rfl rfl (hb hby d_method_8_code_37)) ?_
        show own_G p e below (s₁.setTop (mkF m 38 #[.val (.ref pa), .val (.ref ua), .val (.int pn), .val (.int un)] [(.int u0), (.int p0)])) _
        by_cases hc18z : p0 < u0
        · refine own_go (fun t k => XS.icmpNo X0.here hx rfl (hb hby d_method_8_code_38) rfl (tlt hc18z).2.1 k) ?_
          show own_G p e below (s₁.setTop (mkF m 41 #[.val (.ref pa), .val (.ref ua), .val (.int pn), .val (.int un)] [])) _
          refine own_go (fun t k => XS.iconst X0.here hx rfl (hb hby d_method_8_code_41) k) ?_
          refine own_go (fun t k => XS.goto X0.here hx rfl (pc0 := 42) (pc' := 46) rfl (hb hby d_method_8_code_42) (by decide) (by decide) k) ?_
          show own_G p e below (s₁.setTop (mkF m 46 #[.val (.ref pa), .val (.ref ua), .val (.int pn), .val (.int un)] [(.int (-1 : Int32))])) _
          exact own_ret X0 hx Bd.returns rfl (Or.inl ⟨rfl, Or.inl rfl, _, rfl⟩) (hb hby d_method_8_code_46) hlk (Nat.le_of_ble_eq_true rfl) (Nat.le_of_ble_eq_true rfl) (by show Q_own_lexM Z pa pk p0 p1 p2 pn ua uk u0 u1 u2 un h0 _ s₁.heap _; rw [e0]; exact ⟨(congrArg (fun z => some (Value.int z)) (show (own_lexF p0 p1 p2 pn u0 u1 u2 un) = _ from ((if_neg hc1z).trans ((if_neg hc3z).trans ((if_neg hc5z).trans (if_pos hc18z))))).symm), N0, rfl⟩)
        · refine own_go (fun t k => XS.icmpYes X0.here hx rfl (pc0 := 38) (pc' := 45) rfl (hb hby d_method_8_code_38) rfl (flt hc18z).2.1 (by decide) (by decide) k) ?_
          show own_G p e below (s₁.setTop (mkF m 45 #[.val (.ref pa), .val (.ref ua), .val (.int pn), .val (.int un)] [])) _
          refine own_go (fun t k => XS.iconst X0.here hx rfl (hb hby d_method_8_code_45) k) ?_
          exact own_ret X0 hx Bd.returns rfl (Or.inl ⟨rfl, Or.inl rfl, _, rfl⟩) (hb hby d_method_8_code_46) hlk (Nat.le_of_ble_eq_true rfl) (Nat.le_of_ble_eq_true rfl) (by show Q_own_lexM Z pa pk p0 p1 p2 pn ua uk u0 u1 u2 un h0 _ s₁.heap _; rw [e0]; exact ⟨(congrArg (fun z => some (Value.int z)) (show (own_lexF p0 p1 p2 pn u0 u1 u2 un) = _ from ((if_neg hc1z).trans ((if_neg hc3z).trans ((if_neg hc5z).trans (if_neg hc18z))))).symm), N0, rfl⟩)
theorem ef_own_getChar (m : MethodId) (x0 : Addr) (x1 : Int32) : entryFrame m #[(.ref x0), (.int x1)] 2 = mkF m 0 #[.val (.ref x0), .val (.int x1)] [] := by first | (simp [entryFrame, mkF, argsToLocals, Value.category]; done) | rfl
theorem pf_own_getChar : plainFor own_m17 = true := plainFor_of_name (by simp [plainName, overriddenIn])
theorem d_jdk_52_method_5_code_0 : decode jdk_52_method_5_code 0 = .ok (.getstatic 44, 3) := by decide +kernel
theorem d_jdk_52_method_5_code_28 : decode jdk_52_method_5_code 28 = .ok (.iload_n 1, 1) := by decide +kernel
theorem d_jdk_52_method_5_code_29 : decode jdk_52_method_5_code 29 = .ok (.iconst 1, 1) := by decide +kernel
theorem d_jdk_52_method_5_code_3 : decode jdk_52_method_5_code 3 = .ok (.ifCond .ne 25, 3) := by decide +kernel
theorem d_jdk_52_method_5_code_30 : decode jdk_52_method_5_code 30 = .ok (.ishl, 1) := by decide +kernel
theorem d_jdk_52_method_5_code_31 : decode jdk_52_method_5_code 31 = .ok (.istore_n 1, 1) := by decide +kernel
theorem d_jdk_52_method_5_code_32 : decode jdk_52_method_5_code 32 = .ok (.aload_n 0, 1) := by decide +kernel
theorem d_jdk_52_method_5_code_33 : decode jdk_52_method_5_code 33 = .ok (.iload_n 1, 1) := by decide +kernel
theorem d_jdk_52_method_5_code_34 : decode jdk_52_method_5_code 34 = .ok (.iinc 1 1, 3) := by decide +kernel
theorem d_jdk_52_method_5_code_37 : decode jdk_52_method_5_code 37 = .ok (.baload, 1) := by decide +kernel
theorem d_jdk_52_method_5_code_38 : decode jdk_52_method_5_code 38 = .ok (.sipush 255, 3) := by decide +kernel
theorem d_jdk_52_method_5_code_41 : decode jdk_52_method_5_code 41 = .ok (.iand, 1) := by decide +kernel
theorem d_jdk_52_method_5_code_42 : decode jdk_52_method_5_code 42 = .ok (.getstatic 59, 3) := by decide +kernel
theorem d_jdk_52_method_5_code_45 : decode jdk_52_method_5_code 45 = .ok (.ishl, 1) := by decide +kernel
theorem d_jdk_52_method_5_code_46 : decode jdk_52_method_5_code 46 = .ok (.aload_n 0, 1) := by decide +kernel
theorem d_jdk_52_method_5_code_47 : decode jdk_52_method_5_code 47 = .ok (.iload_n 1, 1) := by decide +kernel
theorem d_jdk_52_method_5_code_48 : decode jdk_52_method_5_code 48 = .ok (.baload, 1) := by decide +kernel
theorem d_jdk_52_method_5_code_49 : decode jdk_52_method_5_code 49 = .ok (.sipush 255, 3) := by decide +kernel
theorem d_jdk_52_method_5_code_52 : decode jdk_52_method_5_code 52 = .ok (.iand, 1) := by decide +kernel
theorem d_jdk_52_method_5_code_53 : decode jdk_52_method_5_code 53 = .ok (.getstatic 63, 3) := by decide +kernel
theorem d_jdk_52_method_5_code_56 : decode jdk_52_method_5_code 56 = .ok (.ishl, 1) := by decide +kernel
theorem d_jdk_52_method_5_code_57 : decode jdk_52_method_5_code 57 = .ok (.ior, 1) := by decide +kernel
theorem d_jdk_52_method_5_code_58 : decode jdk_52_method_5_code 58 = .ok (.i2c, 1) := by decide +kernel
theorem d_jdk_52_method_5_code_59 : decode jdk_52_method_5_code 59 = .ok (.ireturn, 1) := by decide +kernel
def Q_own_getChar (Z : State) (arr : Addr) (kk : ClassId) (vs : (List Value)) (cs : (List Int32)) (x : Int32) (i : Nat) (h0 : Heap) (v : Option Value) (h : Heap) (L : List Loc) : Prop := v = some (.int (cs.getD i 0)) ∧ Fr Z.heap.size L ∧ h = h0
set_option maxRecDepth 65536 in
set_option maxHeartbeats 40000000 in
theorem own_getChar (l : Launch) (Z : State) (a0 : Array Value) (hw : ∀ d ∈ tables_1, d.before a0 Z = true) (ws : List Jvm.Cond) (arr : Addr) (kk : ClassId) (vs : (List Value)) (cs : (List Int32)) (x : Int32) (i : Nat) (h0 : Heap) (O0 : Ext Z.heap h0) (q0 : own_A Z h0 arr kk .byte vs) (hu : vs = own_utf cs) (hxx : x.toInt = (i : Int)) (hlt : i < cs.length) (h3 : cs.length ≤ 3) (hc : own_chs cs) (S_AD : Sta Z Z.heap own_s0 own_s4 "Z" (.int (1 : Int32))) (S_HI : Sta Z Z.heap own_s0 "HI_BYTE_SHIFT" "I" (.int (0 : Int32))) (S_LO : Sta Z Z.heap own_s0 "LO_BYTE_SHIFT" "I" (.int (8 : Int32))) :
    MetFree l own_m17 (head1 (Jvm.Cond.code own_m17 jdk_52_method_5_code 2 (some .char) :: ws) ({ frames := 0, cells := 0, slots := 0, locals := 0 } : Room)) (fun aa U => aa = #[(.ref arr), (.int x)] ∧ Z.Warmed39 U.vm ∧ U.heap = h0) (fun _ _ _ _ _ => True) (fun _ U o U' => ∃ v L, o = .returned v ∧ Q_own_getChar Z arr kk vs cs x i h0 v U'.heap L ∧ FrameEnd U o U' L ({ frames := 0, cells := 0, slots := 0, locals := 0 } : Room).cells ({ frames := 0, cells := 0, slots := 0, locals := 0 } : Room).slots) := by
  refine MetFree.of_bodySF pf_own_getChar hisR ?_
  intro p e s m args below meth c s₁ Bd hml0 hP hK
  obtain ⟨rfl, hZ, hh⟩ := hP
  have hx := Bd.exec
  have hby := Bd.bytes
  have hlk := BodyLoose.notSynchronized Bd
  have hml : c.maxLocals = 2 := hml0
  have hown : s.vm.findClass own_s0 = some m.cls := findClass_of_methodNamed Bd.named
  have hnm := (name_of_methodNamed Bd.named Bd.method).1
  have X0 : Stand p l e ({ frames := 0, cells := 0, slots := 0, locals := 0 } : Room) s m #[(.ref arr), (.int x)] below meth c s₁ [] 0 0 := Stand.of_body Bd
  have e0 : s₁.heap = h0 := by rw [← hh, Bd.state]; rfl
  have N0 := Fr.nil Z.heap.size
  have K0 : Keep h0 h0 [] := Keep.refl _ _
  refine own_start (Q := Q_own_getChar Z arr kk vs cs x i h0) (ef_own_getChar m (arr) (x)) ?_
  show own_G p e below (s₁.setTop (mkF m 0 #[.val (.ref arr), .val (.int x)] [])) _
  obtain ⟨T1z, X1z, e1z, st1z⟩ := getS2 X0 hx hZ hown (host := "") (Or.inl (own_hw hw 84 rfl)) Via.refl e0 (S_AD.ext O0) (g := (mkF m 0 #[.val (.ref arr), .val (.int x)] [])) rfl (hb hby d_jdk_52_method_5_code_0)
  refine own_go st1z ?_
  refine own_go (fun t k => XS.ifYes X1z.here hx rfl (pc0 := 3) (pc' := 28) rfl (hb hby d_jdk_52_method_5_code_3) rfl ((if0 _ _).trans (feq (by decide : ¬ ((1 : Int32) = (0 : Int32)))).2) (by decide) (by decide) k) ?_
  show own_G p e below (T1z.setTop (mkF m 28 #[.val (.ref arr), .val (.int x)] [])) _
  refine own_go (fun t k => XS.iloadN X1z.here hx rfl (hb hby d_jdk_52_method_5_code_28) rfl k) ?_
  refine own_go (fun t k => XS.iconst X1z.here hx rfl (hb hby d_jdk_52_method_5_code_29) k) ?_
  refine own_go (fun t k => XS.ishl X1z.here hx rfl (hb hby d_jdk_52_method_5_code_30) rfl k) ?_
  show own_G p e below (T1z.setTop (mkF m 31 #[.val (.ref arr), .val (.int x)] [(.int (x <<< ((1 : Int32) &&& 31)))])) _
  refine own_go (fun t k => XS.istoreN X1z.here hx rfl (hb hby d_jdk_52_method_5_code_31) rfl (l' := #[.val (.ref arr), .val (.int (x <<< ((1 : Int32) &&& 31)))]) rfl k) ?_
  refine own_go (fun t k => XS.aloadN X1z.here hx rfl (hb hby d_jdk_52_method_5_code_32) rfl rfl k) ?_
  refine own_go (fun t k => XS.iloadN X1z.here hx rfl (hb hby d_jdk_52_method_5_code_33) rfl k) ?_
  show own_G p e below (T1z.setTop (mkF m 34 #[.val (.ref arr), .val (.int (x <<< ((1 : Int32) &&& 31)))] [(.int (x <<< ((1 : Int32) &&& 31))), (.ref arr)])) _
  refine own_go (fun t k => XS.iinc X1z.here hx rfl (hb hby d_jdk_52_method_5_code_34) rfl (l' := #[.val (.ref arr), .val (.int ((x <<< ((1 : Int32) &&& 31)) + (1 : Int32)))]) rfl k) ?_
  refine own_go (own_ldB X1z hx hZ e1z q0 (i := (2 * i)) (v := (.int (own_lo (cs.getD i 0)))) (own_shl1 hxx (by omega)) (by rw [hu]; exact (own_utf_get cs i hlt).1) (g := (mkF m 37 #[.val (.ref arr), .val (.int ((x <<< ((1 : Int32) &&& 31)) + (1 : Int32)))] [(.int (x <<< ((1 : Int32) &&& 31))), (.ref arr)])) rfl rfl (hb hby d_jdk_52_method_5_code_37)) ?_
  refine own_go (fun t k => XS.sipush X1z.here hx rfl (hb hby d_jdk_52_method_5_code_38) k) ?_
  show own_G p e below (T1z.setTop (mkF m 41 #[.val (.ref arr), .val (.int ((x <<< ((1 : Int32) &&& 31)) + (1 : Int32)))] [(.int (255 : Int32)), (.int (own_lo (cs.getD i 0)))])) _
  refine own_go (fun t k => XS.iand X1z.here hx rfl (hb hby d_jdk_52_method_5_code_41) rfl k) ?_
  obtain ⟨T2z, X2z, e2z, st2z⟩ := getS2 X1z hx hZ hown (host := "") (Or.inl (own_hw hw 85 rfl)) Via.refl e1z (S_HI.ext O0) (g := (mkF m 42 #[.val (.ref arr), .val (.int ((x <<< ((1 : Int32) &&& 31)) + (1 : Int32)))] [(.int ((own_lo (cs.getD i 0)) &&& (255 : Int32)))])) rfl (hb hby d_jdk_52_method_5_code_42)
  refine own_go st2z ?_
  refine own_go (fun t k => XS.ishl X2z.here hx rfl (hb hby d_jdk_52_method_5_code_45) rfl k) ?_
  show own_G p e below (T2z.setTop (mkF m 46 #[.val (.ref arr), .val (.int ((x <<< ((1 : Int32) &&& 31)) + (1 : Int32)))] [(.int (((own_lo (cs.getD i 0)) &&& (255 : Int32)) <<< ((0 : Int32) &&& 31)))])) _
  refine own_go (fun t k => XS.aloadN X2z.here hx rfl (hb hby d_jdk_52_method_5_code_46) rfl rfl k) ?_
  refine own_go (fun t k => XS.iloadN X2z.here hx rfl (hb hby d_jdk_52_method_5_code_47) rfl k) ?_
  refine own_go (own_ldB X2z hx hZ e2z q0 (i := (2 * i + 1)) (v := (.int (own_hi (cs.getD i 0)))) (own_shl1' hxx (by omega)) (by rw [hu]; exact (own_utf_get cs i hlt).2) (g := (mkF m 48 #[.val (.ref arr), .val (.int ((x <<< ((1 : Int32) &&& 31)) + (1 : Int32)))] [(.int ((x <<< ((1 : Int32) &&& 31)) + (1 : Int32))), (.ref arr), (.int (((own_lo (cs.getD i 0)) &&& (255 : Int32)) <<< ((0 : Int32) &&& 31)))])) rfl rfl (hb hby d_jdk_52_method_5_code_48)) ?_
  show own_G p e below (T2z.setTop (mkF m 49 #[.val (.ref arr), .val (.int ((x <<< ((1 : Int32) &&& 31)) + (1 : Int32)))] [(.int (own_hi (cs.getD i 0))), (.int (((own_lo (cs.getD i 0)) &&& (255 : Int32)) <<< ((0 : Int32) &&& 31)))])) _
  refine own_go (fun t k => XS.sipush X2z.here hx rfl (hb hby d_jdk_52_method_5_code_49) k) ?_
  refine own_go (fun t k => XS.iand X2z.here hx rfl (hb hby d_jdk_52_method_5_code_52) rfl k) ?_
  obtain ⟨T3z, X3z, e3z, st3z⟩ := getS2 X2z hx hZ hown (host := "") (Or.inl (own_hw hw 86 rfl)) Via.refl e2z (S_LO.ext O0) (g := (mkF m 53 #[.val (.ref arr), .val (.int ((x <<< ((1 : Int32) &&& 31)) + (1 : Int32)))] [(.int ((own_hi (cs.getD i 0)) &&& (255 : Int32))), (.int (((own_lo (cs.getD i 0)) &&& (255 : Int32)) <<< ((0 : Int32) &&& 31)))])) rfl (hb hby d_jdk_52_method_5_code_53)
  refine own_go st3z ?_
  show own_G p e below (T3z.setTop (mkF m 56 #[.val (.ref arr), .val (.int ((x <<< ((1 : Int32) &&& 31)) + (1 : Int32)))] [(.int (8 : Int32)), (.int ((own_hi (cs.getD i 0)) &&& (255 : Int32))), (.int (((own_lo (cs.getD i 0)) &&& (255 : Int32)) <<< ((0 : Int32) &&& 31)))])) _
  refine own_go (fun t k => XS.ishl X3z.here hx rfl (hb hby d_jdk_52_method_5_code_56) rfl k) ?_
  refine own_go (fun t k => XS.ior X3z.here hx rfl (hb hby d_jdk_52_method_5_code_57) rfl k) ?_
  refine own_go (fun t k => XS.i2c X3z.here hx rfl (hb hby d_jdk_52_method_5_code_58) rfl k) ?_
  show own_G p e below (T3z.setTop (mkF m 59 #[.val (.ref arr), .val (.int ((x <<< ((1 : Int32) &&& 31)) + (1 : Int32)))] [(.int ((((((own_lo (cs.getD i 0)) &&& (255 : Int32)) <<< ((0 : Int32) &&& 31)) ||| (((own_hi (cs.getD i 0)) &&& (255 : Int32)) <<< ((8 : Int32) &&& 31)))).toUInt32.toUInt16.toUInt32.toInt32))])) _
  exact own_ret X3z hx Bd.returns (own_nrC _) (Or.inl ⟨rfl, Or.inr (Or.inr (Or.inr (Or.inl rfl))), _, rfl⟩) (hb hby d_jdk_52_method_5_code_59) hlk (Nat.le_of_ble_eq_true rfl) (Nat.le_of_ble_eq_true rfl) (by show Q_own_getChar Z arr kk vs cs x i h0 _ T3z.heap _; rw [e3z]; exact ⟨(congrArg (fun z => some (Value.int z)) (own_gc (hc _ (own_getD_mem hlt)))), N0, rfl⟩)
theorem ef_own_nbl1 (m : MethodId) (x0 : Int32) : entryFrame m #[(.int x0)] 1 = mkF m 0 #[.val (.int x0)] [] := by first | (simp [entryFrame, mkF, argsToLocals, Value.category]; done) | rfl
theorem pf_own_nbl1 : plainFor own_m18 = true := plainFor_of_name (by simp [plainName, overriddenIn])
theorem d_jdk_52_method_3_code_0 : decode jdk_52_method_3_code 0 = .ok (.iload_n 0, 1) := by decide +kernel
theorem d_jdk_52_method_3_code_1 : decode jdk_52_method_3_code 1 = .ok (.ifCond .ge 11, 3) := by decide +kernel
theorem d_jdk_52_method_3_code_12 : decode jdk_52_method_3_code 12 = .ok (.iload_n 0, 1) := by decide +kernel
theorem d_jdk_52_method_3_code_13 : decode jdk_52_method_3_code 13 = .ok (.ldc 20, 2) := by decide +kernel
theorem d_jdk_52_method_3_code_15 : decode jdk_52_method_3_code 15 = .ok (.if_icmp .lt 40, 3) := by decide +kernel
theorem d_jdk_52_method_3_code_55 : decode jdk_52_method_3_code 55 = .ok (.iload_n 0, 1) := by decide +kernel
theorem d_jdk_52_method_3_code_56 : decode jdk_52_method_3_code 56 = .ok (.iconst 1, 1) := by decide +kernel
theorem d_jdk_52_method_3_code_57 : decode jdk_52_method_3_code 57 = .ok (.ishl, 1) := by decide +kernel
theorem d_jdk_52_method_3_code_58 : decode jdk_52_method_3_code 58 = .ok (.ireturn, 1) := by decide +kernel
def Q_own_nbl1 (Z : State) (h0 : Heap) (v : Option Value) (h : Heap) (L : List Loc) : Prop := v = some (.int (2 : Int32)) ∧ Fr Z.heap.size L ∧ h = h0
set_option maxRecDepth 65536 in
set_option maxHeartbeats 40000000 in
theorem own_nbl1 (l : Launch) (Z : State) (a0 : Array Value) (hw : ∀ d ∈ tables_1, d.before a0 Z = true) (ws : List Jvm.Cond) (h0 : Heap) (O0 : Ext Z.heap h0) :
    MetFree l own_m18 (head1 (Jvm.Cond.code own_m18 jdk_52_method_3_code 1 (some .int) :: ws) ({ frames := 0, cells := 0, slots := 0, locals := 0 } : Room)) (fun aa U => aa = #[(.int (1 : Int32))] ∧ Z.Warmed39 U.vm ∧ U.heap = h0) (fun _ _ _ _ _ => True) (fun _ U o U' => ∃ v L, o = .returned v ∧ Q_own_nbl1 Z h0 v U'.heap L ∧ FrameEnd U o U' L ({ frames := 0, cells := 0, slots := 0, locals := 0 } : Room).cells ({ frames := 0, cells := 0, slots := 0, locals := 0 } : Room).slots) := by
  refine MetFree.of_bodySF pf_own_nbl1 hisR ?_
  intro p e s m args below meth c s₁ Bd hml0 hP hK
  obtain ⟨rfl, hZ, hh⟩ := hP
  have hx := Bd.exec
  have hby := Bd.bytes
  have hlk := BodyLoose.notSynchronized Bd
  have hml : c.maxLocals = 1 := hml0
  have hown : s.vm.findClass own_s0 = some m.cls := findClass_of_methodNamed Bd.named
  have hnm := (name_of_methodNamed Bd.named Bd.method).1
  have X0 : Stand p l e ({ frames := 0, cells := 0, slots := 0, locals := 0 } : Room) s m #[(.int (1 : Int32))] below meth c s₁ [] 0 0 := Stand.of_body Bd
  have e0 : s₁.heap = h0 := by rw [← hh, Bd.state]; rfl
  have N0 := Fr.nil Z.heap.size
  have K0 : Keep h0 h0 [] := Keep.refl _ _
  refine own_start (Q := Q_own_nbl1 Z h0) (ef_own_nbl1 m ((1 : Int32))) ?_
  show own_G p e below (s₁.setTop (mkF m 0 #[.val (.int (1 : Int32))] [])) _
  refine own_go (fun t k => XS.iloadN X0.here hx rfl (hb hby d_jdk_52_method_3_code_0) rfl k) ?_
  refine own_go (fun t k => XS.ifYes X0.here hx rfl (pc0 := 1) (pc' := 12) rfl (hb hby d_jdk_52_method_3_code_1) rfl ((if0 _ _).trans (flt (by decide : ¬ ((1 : Int32) < (0 : Int32)))).2.1) (by decide) (by decide) k) ?_
  show own_G p e below (s₁.setTop (mkF m 12 #[.val (.int (1 : Int32))] [])) _
  refine own_go (fun t k => XS.iloadN X0.here hx rfl (hb hby d_jdk_52_method_3_code_12) rfl k) ?_
  refine own_go (fun t k => X0.ldcI hx hown (mvT hZ (own_hw hw 80 rfl)) rfl (hb hby d_jdk_52_method_3_code_13) k) ?_
  refine own_go (fun t k => XS.icmpYes X0.here hx rfl (pc0 := 15) (pc' := 55) rfl (hb hby d_jdk_52_method_3_code_15) rfl (tlt (by decide : (1 : Int32) < (1073741823 : Int32))).1 (by decide) (by decide) k) ?_
  show own_G p e below (s₁.setTop (mkF m 55 #[.val (.int (1 : Int32))] [])) _
  refine own_go (fun t k => XS.iloadN X0.here hx rfl (hb hby d_jdk_52_method_3_code_55) rfl k) ?_
  refine own_go (fun t k => XS.iconst X0.here hx rfl (hb hby d_jdk_52_method_3_code_56) k) ?_
  refine own_go (fun t k => XS.ishl X0.here hx rfl (hb hby d_jdk_52_method_3_code_57) rfl k) ?_
  show own_G p e below (s₁.setTop (mkF m 58 #[.val (.int (1 : Int32))] [(.int ((1 : Int32) <<< ((1 : Int32) &&& 31)))])) _
  exact own_ret X0 hx Bd.returns rfl (Or.inl ⟨rfl, Or.inl rfl, _, rfl⟩) (hb hby d_jdk_52_method_3_code_58) hlk (Nat.le_of_ble_eq_true rfl) (Nat.le_of_ble_eq_true rfl) (by show Q_own_nbl1 Z h0 _ s₁.heap _; rw [e0]; exact ⟨(congrArg (fun z => some (Value.int z)) (by decide : ((1 : Int32) <<< ((1 : Int32) &&& 31)) = (2 : Int32))), N0, rfl⟩)
theorem ef_own_nbf1 (m : MethodId) (x0 : Int32) : entryFrame m #[(.int x0)] 1 = mkF m 0 #[.val (.int x0)] [] := by first | (simp [entryFrame, mkF, argsToLocals, Value.category]; done) | rfl
theorem pf_own_nbf1 : plainFor own_m19 = true := plainFor_of_name (by simp [plainName, overriddenIn])
theorem d_jdk_52_method_2_code_0 : decode jdk_52_method_2_code 0 = .ok (.iload_n 0, 1) := by decide +kernel
theorem d_jdk_52_method_2_code_1 : decode jdk_52_method_2_code 1 = .ok (.invokestatic 11, 3) := by decide +kernel
theorem d_jdk_52_method_2_code_4 : decode jdk_52_method_2_code 4 = .ok (.newarray .byte, 2) := by decide +kernel
theorem d_jdk_52_method_2_code_6 : decode jdk_52_method_2_code 6 = .ok (.areturn, 1) := by decide +kernel
def Q_own_nbf1 (Z : State) (h0 : Heap) (v : Option Value) (h : Heap) (L : List Loc) : Prop := ∃ b : Addr, ∃ kb : ClassId, v = some (.ref b) ∧ Fr Z.heap.size L ∧ Keep h0 h [] ∧ (own_A Z h b kb .byte [(.int (0 : Int32)), (.int (0 : Int32))]) ∧ (Z.heap.size ≤ b) ∧ (h0.size ≤ b)
set_option maxRecDepth 65536 in
set_option maxHeartbeats 40000000 in
theorem own_nbf1 (l : Launch) (Z : State) (a0 : Array Value) (hw : ∀ d ∈ tables_1, d.before a0 Z = true) (ws : List Jvm.Cond) (h0 : Heap) (O0 : Ext Z.heap h0) :
    MetFree l own_m19 (head1 (Jvm.Cond.code own_m19 jdk_52_method_2_code 1 (some (.array .byte)) :: ws) ({ frames := 1, cells := 1, slots := 2, locals := 12 } : Room)) (fun aa U => aa = #[(.int (1 : Int32))] ∧ Z.Warmed39 U.vm ∧ U.heap = h0) (fun _ _ _ _ _ => True) (fun _ U o U' => ∃ v L, o = .returned v ∧ Q_own_nbf1 Z h0 v U'.heap L ∧ FrameEnd U o U' L ({ frames := 1, cells := 1, slots := 2, locals := 12 } : Room).cells ({ frames := 1, cells := 1, slots := 2, locals := 12 } : Room).slots) := by
  refine MetFree.of_bodySF pf_own_nbf1 hisR ?_
  intro p e s m args below meth c s₁ Bd hml0 hP hK
  obtain ⟨rfl, hZ, hh⟩ := hP
  have hx := Bd.exec
  have hby := Bd.bytes
  have hlk := BodyLoose.notSynchronized Bd
  have hml : c.maxLocals = 1 := hml0
  have hown : s.vm.findClass own_s0 = some m.cls := findClass_of_methodNamed Bd.named
  have hnm := (name_of_methodNamed Bd.named Bd.method).1
  have X0 : Stand p l e ({ frames := 1, cells := 1, slots := 2, locals := 12 } : Room) s m #[(.int (1 : Int32))] below meth c s₁ [] 0 0 := Stand.of_body Bd
  have e0 : s₁.heap = h0 := by rw [← hh, Bd.state]; rfl
  have N0 := Fr.nil Z.heap.size
  have K0 : Keep h0 h0 [] := Keep.refl _ _
  refine own_start (Q := Q_own_nbf1 Z h0) (ef_own_nbf1 m ((1 : Int32))) ?_
  show own_G p e below (s₁.setTop (mkF m 0 #[.val (.int (1 : Int32))] [])) _
  refine own_go (fun t k => XS.iloadN X0.here hx rfl (hb hby d_jdk_52_method_2_code_0) rfl k) ?_
  obtain ⟨_, _, ⟨T1z, L1z, k1z, n1z⟩, -, X1z, ⟨Lc1z, hQ1z, l1z, y1z, z1z⟩, st1z⟩ := Jvm.LawKit.callS X0 hx (y := own_m18) hown (own_mw hZ hw 77 rfl) (own_mw hZ hw 78 rfl) (own_mw hZ hw 65 rfl) (own_mw hZ hw 79 rfl) (by decide) (backOf (W := 0) (own_nbl1 l Z a0 hw [] h0 O0) hZ (own_hw hw 79 rfl) (own_hw hw 65 rfl) (by decide) (by decide)) (g := (mkF m 1 #[.val (.int (1 : Int32))] [(.int (1 : Int32))])) rfl (by rw [hml]; rfl) (argsL := [(.int (1 : Int32))]) (rest := []) (lenOf pd_2087992008 rfl) rfl (by show 2 * 0 + _ ≤ _; exact Nat.le_of_eq rfl) (hb hby d_jdk_52_method_2_code_1) (fun _ _ => ⟨rfl, e0, (by decide : 0 + 0 ≤ _), (by decide : 0 + 0 ≤ _)⟩)
  dsimp only [Pt.U, Pt.locs, Pt.cells, Pt.slots] at X1z l1z y1z z1z st1z hQ1z
  subst l1z y1z z1z
  obtain ⟨rfl, NQ1z, K1zq⟩ := hQ1z
  refine own_go st1z ?_
  have N1z := Fr.app N0 NQ1z
  show own_G p e below (T1z.setTop (mkF m 4 #[.val (.int (1 : Int32))] [(.int (2 : Int32))])) _
  obtain ⟨T2z, h2z, kc2z, X2z, e2z, E2z, V2z, st2z⟩ := own_newP X1z hx hZ (own_hw hw 67 rfl) K1zq (g := (mkF m 4 #[.val (.int (1 : Int32))] [(.int (2 : Int32))])) rfl (hb hby d_jdk_52_method_2_code_4) rfl (i := 2) (by decide) (cap := 2) (by decide) (by decide) (by decide) (by decide)
  obtain ⟨b2z, g2z⟩ : ∃ z, z = h0.size := ⟨_, rfl⟩
  rw [← g2z] at V2z st2z
  have fr_b2z : Z.heap.size ≤ b2z := g2z ▸ O0.1
  have lz_b2z : h0.size ≤ b2z := g2z ▸ K0.1
  have O3z := own_ext_trans O0 E2z
  have K3z := K0.ext E2z
  have V2z : own_A Z h2z b2z kc2z .byte [(.int (0 : Int32)), (.int (0 : Int32))] := V2z
  refine own_go st2z ?_
  exact own_ret X2z hx Bd.returns rfl (Or.inr (Or.inr (Or.inr (Or.inr ⟨rfl, rfl, rfl⟩)))) (hb hby d_jdk_52_method_2_code_6) hlk (Nat.le_of_ble_eq_true rfl) (Nat.le_of_ble_eq_true rfl) (by show Q_own_nbf1 Z h0 _ T2z.heap _; rw [e2z]; exact ⟨b2z, kc2z, rfl, N1z, K3z, V2z, fr_b2z, lz_b2z⟩)
theorem ef_own_nbl2 (m : MethodId) (x0 : Int32) : entryFrame m #[(.int x0)] 1 = mkF m 0 #[.val (.int x0)] [] := by first | (simp [entryFrame, mkF, argsToLocals, Value.category]; done) | rfl
theorem pf_own_nbl2 : plainFor own_m18 = true := plainFor_of_name (by simp [plainName, overriddenIn])
def Q_own_nbl2 (Z : State) (h0 : Heap) (v : Option Value) (h : Heap) (L : List Loc) : Prop := v = some (.int (4 : Int32)) ∧ Fr Z.heap.size L ∧ h = h0
set_option maxRecDepth 65536 in
set_option maxHeartbeats 40000000 in
theorem own_nbl2 (l : Launch) (Z : State) (a0 : Array Value) (hw : ∀ d ∈ tables_1, d.before a0 Z = true) (ws : List Jvm.Cond) (h0 : Heap) (O0 : Ext Z.heap h0) :
    MetFree l own_m18 (head1 (Jvm.Cond.code own_m18 jdk_52_method_3_code 1 (some .int) :: ws) ({ frames := 0, cells := 0, slots := 0, locals := 0 } : Room)) (fun aa U => aa = #[(.int (2 : Int32))] ∧ Z.Warmed39 U.vm ∧ U.heap = h0) (fun _ _ _ _ _ => True) (fun _ U o U' => ∃ v L, o = .returned v ∧ Q_own_nbl2 Z h0 v U'.heap L ∧ FrameEnd U o U' L ({ frames := 0, cells := 0, slots := 0, locals := 0 } : Room).cells ({ frames := 0, cells := 0, slots := 0, locals := 0 } : Room).slots) := by
  refine MetFree.of_bodySF pf_own_nbl2 hisR ?_
  intro p e s m args below meth c s₁ Bd hml0 hP hK
  obtain ⟨rfl, hZ, hh⟩ := hP
  have hx := Bd.exec
  have hby := Bd.bytes
  have hlk := BodyLoose.notSynchronized Bd
  have hml : c.maxLocals = 1 := hml0
  have hown : s.vm.findClass own_s0 = some m.cls := findClass_of_methodNamed Bd.named
  have hnm := (name_of_methodNamed Bd.named Bd.method).1
  have X0 : Stand p l e ({ frames := 0, cells := 0, slots := 0, locals := 0 } : Room) s m #[(.int (2 : Int32))] below meth c s₁ [] 0 0 := Stand.of_body Bd
  have e0 : s₁.heap = h0 := by rw [← hh, Bd.state]; rfl
  have N0 := Fr.nil Z.heap.size
  have K0 : Keep h0 h0 [] := Keep.refl _ _
  refine own_start (Q := Q_own_nbl2 Z h0) (ef_own_nbl2 m ((2 : Int32))) ?_
  show own_G p e below (s₁.setTop (mkF m 0 #[.val (.int (2 : Int32))] [])) _
  refine own_go (fun t k => XS.iloadN X0.here hx rfl (hb hby d_jdk_52_method_3_code_0) rfl k) ?_
  refine own_go (fun t k => XS.ifYes X0.here hx rfl (pc0 := 1) (pc' := 12) rfl (hb hby d_jdk_52_method_3_code_1) rfl ((if0 _ _).trans (flt (by decide : ¬ ((2 : Int32) < (0 : Int32)))).2.1) (by decide) (by decide) k) ?_
  show own_G p e below (s₁.setTop (mkF m 12 #[.val (.int (2 : Int32))] [])) _
  refine own_go (fun t k => XS.iloadN X0.here hx rfl (hb hby d_jdk_52_method_3_code_12) rfl k) ?_
  refine own_go (fun t k => X0.ldcI hx hown (mvT hZ (own_hw hw 80 rfl)) rfl (hb hby d_jdk_52_method_3_code_13) k) ?_
  refine own_go (fun t k => XS.icmpYes X0.here hx rfl (pc0 := 15) (pc' := 55) rfl (hb hby d_jdk_52_method_3_code_15) rfl (tlt (by decide : (2 : Int32) < (1073741823 : Int32))).1 (by decide) (by decide) k) ?_
  show own_G p e below (s₁.setTop (mkF m 55 #[.val (.int (2 : Int32))] [])) _
  refine own_go (fun t k => XS.iloadN X0.here hx rfl (hb hby d_jdk_52_method_3_code_55) rfl k) ?_
  refine own_go (fun t k => XS.iconst X0.here hx rfl (hb hby d_jdk_52_method_3_code_56) k) ?_
  refine own_go (fun t k => XS.ishl X0.here hx rfl (hb hby d_jdk_52_method_3_code_57) rfl k) ?_
  show own_G p e below (s₁.setTop (mkF m 58 #[.val (.int (2 : Int32))] [(.int ((2 : Int32) <<< ((1 : Int32) &&& 31)))])) _
  exact own_ret X0 hx Bd.returns rfl (Or.inl ⟨rfl, Or.inl rfl, _, rfl⟩) (hb hby d_jdk_52_method_3_code_58) hlk (Nat.le_of_ble_eq_true rfl) (Nat.le_of_ble_eq_true rfl) (by show Q_own_nbl2 Z h0 _ s₁.heap _; rw [e0]; exact ⟨(congrArg (fun z => some (Value.int z)) (by decide : ((2 : Int32) <<< ((1 : Int32) &&& 31)) = (4 : Int32))), N0, rfl⟩)
theorem ef_own_nbf2 (m : MethodId) (x0 : Int32) : entryFrame m #[(.int x0)] 1 = mkF m 0 #[.val (.int x0)] [] := by first | (simp [entryFrame, mkF, argsToLocals, Value.category]; done) | rfl
theorem pf_own_nbf2 : plainFor own_m19 = true := plainFor_of_name (by simp [plainName, overriddenIn])
def Q_own_nbf2 (Z : State) (h0 : Heap) (v : Option Value) (h : Heap) (L : List Loc) : Prop := ∃ b : Addr, ∃ kb : ClassId, v = some (.ref b) ∧ Fr Z.heap.size L ∧ Keep h0 h [] ∧ (own_A Z h b kb .byte [(.int (0 : Int32)), (.int (0 : Int32)), (.int (0 : Int32)), (.int (0 : Int32))]) ∧ (Z.heap.size ≤ b) ∧ (h0.size ≤ b)
set_option maxRecDepth 65536 in
set_option maxHeartbeats 40000000 in
theorem own_nbf2 (l : Launch) (Z : State) (a0 : Array Value) (hw : ∀ d ∈ tables_1, d.before a0 Z = true) (ws : List Jvm.Cond) (h0 : Heap) (O0 : Ext Z.heap h0) :
    MetFree l own_m19 (head1 (Jvm.Cond.code own_m19 jdk_52_method_2_code 1 (some (.array .byte)) :: ws) ({ frames := 1, cells := 1, slots := 4, locals := 12 } : Room)) (fun aa U => aa = #[(.int (2 : Int32))] ∧ Z.Warmed39 U.vm ∧ U.heap = h0) (fun _ _ _ _ _ => True) (fun _ U o U' => ∃ v L, o = .returned v ∧ Q_own_nbf2 Z h0 v U'.heap L ∧ FrameEnd U o U' L ({ frames := 1, cells := 1, slots := 4, locals := 12 } : Room).cells ({ frames := 1, cells := 1, slots := 4, locals := 12 } : Room).slots) := by
  refine MetFree.of_bodySF pf_own_nbf2 hisR ?_
  intro p e s m args below meth c s₁ Bd hml0 hP hK
  obtain ⟨rfl, hZ, hh⟩ := hP
  have hx := Bd.exec
  have hby := Bd.bytes
  have hlk := BodyLoose.notSynchronized Bd
  have hml : c.maxLocals = 1 := hml0
  have hown : s.vm.findClass own_s0 = some m.cls := findClass_of_methodNamed Bd.named
  have hnm := (name_of_methodNamed Bd.named Bd.method).1
  have X0 : Stand p l e ({ frames := 1, cells := 1, slots := 4, locals := 12 } : Room) s m #[(.int (2 : Int32))] below meth c s₁ [] 0 0 := Stand.of_body Bd
  have e0 : s₁.heap = h0 := by rw [← hh, Bd.state]; rfl
  have N0 := Fr.nil Z.heap.size
  have K0 : Keep h0 h0 [] := Keep.refl _ _
  refine own_start (Q := Q_own_nbf2 Z h0) (ef_own_nbf2 m ((2 : Int32))) ?_
  show own_G p e below (s₁.setTop (mkF m 0 #[.val (.int (2 : Int32))] [])) _
  refine own_go (fun t k => XS.iloadN X0.here hx rfl (hb hby d_jdk_52_method_2_code_0) rfl k) ?_
  obtain ⟨_, _, ⟨T1z, L1z, k1z, n1z⟩, -, X1z, ⟨Lc1z, hQ1z, l1z, y1z, z1z⟩, st1z⟩ := Jvm.LawKit.callS X0 hx (y := own_m18) hown (own_mw hZ hw 77 rfl) (own_mw hZ hw 78 rfl) (own_mw hZ hw 65 rfl) (own_mw hZ hw 79 rfl) (by decide) (backOf (W := 0) (own_nbl2 l Z a0 hw [] h0 O0) hZ (own_hw hw 79 rfl) (own_hw hw 65 rfl) (by decide) (by decide)) (g := (mkF m 1 #[.val (.int (2 : Int32))] [(.int (2 : Int32))])) rfl (by rw [hml]; rfl) (argsL := [(.int (2 : Int32))]) (rest := []) (lenOf pd_2087992008 rfl) rfl (by show 2 * 0 + _ ≤ _; exact Nat.le_of_eq rfl) (hb hby d_jdk_52_method_2_code_1) (fun _ _ => ⟨rfl, e0, (by decide : 0 + 0 ≤ _), (by decide : 0 + 0 ≤ _)⟩)
  dsimp only [Pt.U, Pt.locs, Pt.cells, Pt.slots] at X1z l1z y1z z1z st1z hQ1z
  subst l1z y1z z1z
  obtain ⟨rfl, NQ1z, K1zq⟩ := hQ1z
  refine own_go st1z ?_
  have N1z := Fr.app N0 NQ1z
  show own_G p e below (T1z.setTop (mkF m 4 #[.val (.int (2 : Int32))] [(.int (4 : Int32))])) _
  obtain ⟨T2z, h2z, kc2z, X2z, e2z, E2z, V2z, st2z⟩ := own_newP X1z hx hZ (own_hw hw 67 rfl) K1zq (g := (mkF m 4 #[.val (.int (2 : Int32))] [(.int (4 : Int32))])) rfl (hb hby d_jdk_52_method_2_code_4) rfl (i := 4) (by decide) (cap := 4) (by decide) (by decide) (by decide) (by decide)
  obtain ⟨b2z, g2z⟩ : ∃ z, z = h0.size := ⟨_, rfl⟩
  rw [← g2z] at V2z st2z
  have fr_b2z : Z.heap.size ≤ b2z := g2z ▸ O0.1
  have lz_b2z : h0.size ≤ b2z := g2z ▸ K0.1
  have O3z := own_ext_trans O0 E2z
  have K3z := K0.ext E2z
  have V2z : own_A Z h2z b2z kc2z .byte [(.int (0 : Int32)), (.int (0 : Int32)), (.int (0 : Int32)), (.int (0 : Int32))] := V2z
  refine own_go st2z ?_
  exact own_ret X2z hx Bd.returns rfl (Or.inr (Or.inr (Or.inr (Or.inr ⟨rfl, rfl, rfl⟩)))) (hb hby d_jdk_52_method_2_code_6) hlk (Nat.le_of_ble_eq_true rfl) (Nat.le_of_ble_eq_true rfl) (by show Q_own_nbf2 Z h0 _ T2z.heap _; rw [e2z]; exact ⟨b2z, kc2z, rfl, N1z, K3z, V2z, fr_b2z, lz_b2z⟩)
theorem ef_own_nbl3 (m : MethodId) (x0 : Int32) : entryFrame m #[(.int x0)] 1 = mkF m 0 #[.val (.int x0)] [] := by first | (simp [entryFrame, mkF, argsToLocals, Value.category]; done) | rfl
theorem pf_own_nbl3 : plainFor own_m18 = true := plainFor_of_name (by simp [plainName, overriddenIn])
def Q_own_nbl3 (Z : State) (h0 : Heap) (v : Option Value) (h : Heap) (L : List Loc) : Prop := v = some (.int (6 : Int32)) ∧ Fr Z.heap.size L ∧ h = h0
set_option maxRecDepth 65536 in
set_option maxHeartbeats 40000000 in
theorem own_nbl3 (l : Launch) (Z : State) (a0 : Array Value) (hw : ∀ d ∈ tables_1, d.before a0 Z = true) (ws : List Jvm.Cond) (h0 : Heap) (O0 : Ext Z.heap h0) :
    MetFree l own_m18 (head1 (Jvm.Cond.code own_m18 jdk_52_method_3_code 1 (some .int) :: ws) ({ frames := 0, cells := 0, slots := 0, locals := 0 } : Room)) (fun aa U => aa = #[(.int (3 : Int32))] ∧ Z.Warmed39 U.vm ∧ U.heap = h0) (fun _ _ _ _ _ => True) (fun _ U o U' => ∃ v L, o = .returned v ∧ Q_own_nbl3 Z h0 v U'.heap L ∧ FrameEnd U o U' L ({ frames := 0, cells := 0, slots := 0, locals := 0 } : Room).cells ({ frames := 0, cells := 0, slots := 0, locals := 0 } : Room).slots) := by
  refine MetFree.of_bodySF pf_own_nbl3 hisR ?_
  intro p e s m args below meth c s₁ Bd hml0 hP hK
  obtain ⟨rfl, hZ, hh⟩ := hP
  have hx := Bd.exec
  have hby := Bd.bytes
  have hlk := BodyLoose.notSynchronized Bd
  have hml : c.maxLocals = 1 := hml0
  have hown : s.vm.findClass own_s0 = some m.cls := findClass_of_methodNamed Bd.named
  have hnm := (name_of_methodNamed Bd.named Bd.method).1
  have X0 : Stand p l e ({ frames := 0, cells := 0, slots := 0, locals := 0 } : Room) s m #[(.int (3 : Int32))] below meth c s₁ [] 0 0 := Stand.of_body Bd
  have e0 : s₁.heap = h0 := by rw [← hh, Bd.state]; rfl
  have N0 := Fr.nil Z.heap.size
  have K0 : Keep h0 h0 [] := Keep.refl _ _
  refine own_start (Q := Q_own_nbl3 Z h0) (ef_own_nbl3 m ((3 : Int32))) ?_
  show own_G p e below (s₁.setTop (mkF m 0 #[.val (.int (3 : Int32))] [])) _
  refine own_go (fun t k => XS.iloadN X0.here hx rfl (hb hby d_jdk_52_method_3_code_0) rfl k) ?_
  refine own_go (fun t k => XS.ifYes X0.here hx rfl (pc0 := 1) (pc' := 12) rfl (hb hby d_jdk_52_method_3_code_1) rfl ((if0 _ _).trans (flt (by decide : ¬ ((3 : Int32) < (0 : Int32)))).2.1) (by decide) (by decide) k) ?_
  show own_G p e below (s₁.setTop (mkF m 12 #[.val (.int (3 : Int32))] [])) _
  refine own_go (fun t k => XS.iloadN X0.here hx rfl (hb hby d_jdk_52_method_3_code_12) rfl k) ?_
  refine own_go (fun t k => X0.ldcI hx hown (mvT hZ (own_hw hw 80 rfl)) rfl (hb hby d_jdk_52_method_3_code_13) k) ?_
  refine own_go (fun t k => XS.icmpYes X0.here hx rfl (pc0 := 15) (pc' := 55) rfl (hb hby d_jdk_52_method_3_code_15) rfl (tlt (by decide : (3 : Int32) < (1073741823 : Int32))).1 (by decide) (by decide) k) ?_
  show own_G p e below (s₁.setTop (mkF m 55 #[.val (.int (3 : Int32))] [])) _
  refine own_go (fun t k => XS.iloadN X0.here hx rfl (hb hby d_jdk_52_method_3_code_55) rfl k) ?_
  refine own_go (fun t k => XS.iconst X0.here hx rfl (hb hby d_jdk_52_method_3_code_56) k) ?_
  refine own_go (fun t k => XS.ishl X0.here hx rfl (hb hby d_jdk_52_method_3_code_57) rfl k) ?_
  show own_G p e below (s₁.setTop (mkF m 58 #[.val (.int (3 : Int32))] [(.int ((3 : Int32) <<< ((1 : Int32) &&& 31)))])) _
  exact own_ret X0 hx Bd.returns rfl (Or.inl ⟨rfl, Or.inl rfl, _, rfl⟩) (hb hby d_jdk_52_method_3_code_58) hlk (Nat.le_of_ble_eq_true rfl) (Nat.le_of_ble_eq_true rfl) (by show Q_own_nbl3 Z h0 _ s₁.heap _; rw [e0]; exact ⟨(congrArg (fun z => some (Value.int z)) (by decide : ((3 : Int32) <<< ((1 : Int32) &&& 31)) = (6 : Int32))), N0, rfl⟩)
theorem ef_own_nbf3 (m : MethodId) (x0 : Int32) : entryFrame m #[(.int x0)] 1 = mkF m 0 #[.val (.int x0)] [] := by first | (simp [entryFrame, mkF, argsToLocals, Value.category]; done) | rfl
theorem pf_own_nbf3 : plainFor own_m19 = true := plainFor_of_name (by simp [plainName, overriddenIn])
def Q_own_nbf3 (Z : State) (h0 : Heap) (v : Option Value) (h : Heap) (L : List Loc) : Prop := ∃ b : Addr, ∃ kb : ClassId, v = some (.ref b) ∧ Fr Z.heap.size L ∧ Keep h0 h [] ∧ (own_A Z h b kb .byte [(.int (0 : Int32)), (.int (0 : Int32)), (.int (0 : Int32)), (.int (0 : Int32)), (.int (0 : Int32)), (.int (0 : Int32))]) ∧ (Z.heap.size ≤ b) ∧ (h0.size ≤ b)
set_option maxRecDepth 65536 in
set_option maxHeartbeats 40000000 in
theorem own_nbf3 (l : Launch) (Z : State) (a0 : Array Value) (hw : ∀ d ∈ tables_1, d.before a0 Z = true) (ws : List Jvm.Cond) (h0 : Heap) (O0 : Ext Z.heap h0) :
    MetFree l own_m19 (head1 (Jvm.Cond.code own_m19 jdk_52_method_2_code 1 (some (.array .byte)) :: ws) ({ frames := 1, cells := 1, slots := 6, locals := 12 } : Room)) (fun aa U => aa = #[(.int (3 : Int32))] ∧ Z.Warmed39 U.vm ∧ U.heap = h0) (fun _ _ _ _ _ => True) (fun _ U o U' => ∃ v L, o = .returned v ∧ Q_own_nbf3 Z h0 v U'.heap L ∧ FrameEnd U o U' L ({ frames := 1, cells := 1, slots := 6, locals := 12 } : Room).cells ({ frames := 1, cells := 1, slots := 6, locals := 12 } : Room).slots) := by
  refine MetFree.of_bodySF pf_own_nbf3 hisR ?_
  intro p e s m args below meth c s₁ Bd hml0 hP hK
  obtain ⟨rfl, hZ, hh⟩ := hP
  have hx := Bd.exec
  have hby := Bd.bytes
  have hlk := BodyLoose.notSynchronized Bd
  have hml : c.maxLocals = 1 := hml0
  have hown : s.vm.findClass own_s0 = some m.cls := findClass_of_methodNamed Bd.named
  have hnm := (name_of_methodNamed Bd.named Bd.method).1
  have X0 : Stand p l e ({ frames := 1, cells := 1, slots := 6, locals := 12 } : Room) s m #[(.int (3 : Int32))] below meth c s₁ [] 0 0 := Stand.of_body Bd
  have e0 : s₁.heap = h0 := by rw [← hh, Bd.state]; rfl
  have N0 := Fr.nil Z.heap.size
  have K0 : Keep h0 h0 [] := Keep.refl _ _
  refine own_start (Q := Q_own_nbf3 Z h0) (ef_own_nbf3 m ((3 : Int32))) ?_
  show own_G p e below (s₁.setTop (mkF m 0 #[.val (.int (3 : Int32))] [])) _
  refine own_go (fun t k => XS.iloadN X0.here hx rfl (hb hby d_jdk_52_method_2_code_0) rfl k) ?_
  obtain ⟨_, _, ⟨T1z, L1z, k1z, n1z⟩, -, X1z, ⟨Lc1z, hQ1z, l1z, y1z, z1z⟩, st1z⟩ := Jvm.LawKit.callS X0 hx (y := own_m18) hown (own_mw hZ hw 77 rfl) (own_mw hZ hw 78 rfl) (own_mw hZ hw 65 rfl) (own_mw hZ hw 79 rfl) (by decide) (backOf (W := 0) (own_nbl3 l Z a0 hw [] h0 O0) hZ (own_hw hw 79 rfl) (own_hw hw 65 rfl) (by decide) (by decide)) (g := (mkF m 1 #[.val (.int (3 : Int32))] [(.int (3 : Int32))])) rfl (by rw [hml]; rfl) (argsL := [(.int (3 : Int32))]) (rest := []) (lenOf pd_2087992008 rfl) rfl (by show 2 * 0 + _ ≤ _; exact Nat.le_of_eq rfl) (hb hby d_jdk_52_method_2_code_1) (fun _ _ => ⟨rfl, e0, (by decide : 0 + 0 ≤ _), (by decide : 0 + 0 ≤ _)⟩)
  dsimp only [Pt.U, Pt.locs, Pt.cells, Pt.slots] at X1z l1z y1z z1z st1z hQ1z
  subst l1z y1z z1z
  obtain ⟨rfl, NQ1z, K1zq⟩ := hQ1z
  refine own_go st1z ?_
  have N1z := Fr.app N0 NQ1z
  show own_G p e below (T1z.setTop (mkF m 4 #[.val (.int (3 : Int32))] [(.int (6 : Int32))])) _
  obtain ⟨T2z, h2z, kc2z, X2z, e2z, E2z, V2z, st2z⟩ := own_newP X1z hx hZ (own_hw hw 67 rfl) K1zq (g := (mkF m 4 #[.val (.int (3 : Int32))] [(.int (6 : Int32))])) rfl (hb hby d_jdk_52_method_2_code_4) rfl (i := 6) (by decide) (cap := 6) (by decide) (by decide) (by decide) (by decide)
  obtain ⟨b2z, g2z⟩ : ∃ z, z = h0.size := ⟨_, rfl⟩
  rw [← g2z] at V2z st2z
  have fr_b2z : Z.heap.size ≤ b2z := g2z ▸ O0.1
  have lz_b2z : h0.size ≤ b2z := g2z ▸ K0.1
  have O3z := own_ext_trans O0 E2z
  have K3z := K0.ext E2z
  have V2z : own_A Z h2z b2z kc2z .byte [(.int (0 : Int32)), (.int (0 : Int32)), (.int (0 : Int32)), (.int (0 : Int32)), (.int (0 : Int32)), (.int (0 : Int32))] := V2z
  refine own_go st2z ?_
  exact own_ret X2z hx Bd.returns rfl (Or.inr (Or.inr (Or.inr (Or.inr ⟨rfl, rfl, rfl⟩)))) (hb hby d_jdk_52_method_2_code_6) hlk (Nat.le_of_ble_eq_true rfl) (Nat.le_of_ble_eq_true rfl) (by show Q_own_nbf3 Z h0 _ T2z.heap _; rw [e2z]; exact ⟨b2z, kc2z, rfl, N1z, K3z, V2z, fr_b2z, lz_b2z⟩)
theorem ef_own_pc0 (m : MethodId) (x0 : Addr) (x1 : Int32) (x2 : Int32) : entryFrame m #[(.ref x0), (.int x1), (.int x2)] 3 = mkF m 0 #[.val (.ref x0), .val (.int x1), .val (.int x2)] [] := by first | (simp [entryFrame, mkF, argsToLocals, Value.category]; done) | rfl
theorem pf_own_pc0 : plainFor own_m20 = true := plainFor_of_name (by simp [plainName, overriddenIn])
theorem d_jdk_52_method_4_code_0 : decode jdk_52_method_4_code 0 = .ok (.getstatic 44, 3) := by decide +kernel
theorem d_jdk_52_method_4_code_28 : decode jdk_52_method_4_code 28 = .ok (.iload_n 1, 1) := by decide +kernel
theorem d_jdk_52_method_4_code_29 : decode jdk_52_method_4_code 29 = .ok (.iconst 1, 1) := by decide +kernel
theorem d_jdk_52_method_4_code_3 : decode jdk_52_method_4_code 3 = .ok (.ifCond .ne 25, 3) := by decide +kernel
theorem d_jdk_52_method_4_code_30 : decode jdk_52_method_4_code 30 = .ok (.ishl, 1) := by decide +kernel
theorem d_jdk_52_method_4_code_31 : decode jdk_52_method_4_code 31 = .ok (.istore_n 1, 1) := by decide +kernel
theorem d_jdk_52_method_4_code_32 : decode jdk_52_method_4_code 32 = .ok (.aload_n 0, 1) := by decide +kernel
theorem d_jdk_52_method_4_code_33 : decode jdk_52_method_4_code 33 = .ok (.iload_n 1, 1) := by decide +kernel
theorem d_jdk_52_method_4_code_34 : decode jdk_52_method_4_code 34 = .ok (.iinc 1 1, 3) := by decide +kernel
theorem d_jdk_52_method_4_code_37 : decode jdk_52_method_4_code 37 = .ok (.iload_n 2, 1) := by decide +kernel
theorem d_jdk_52_method_4_code_38 : decode jdk_52_method_4_code 38 = .ok (.getstatic 59, 3) := by decide +kernel
theorem d_jdk_52_method_4_code_41 : decode jdk_52_method_4_code 41 = .ok (.ishr, 1) := by decide +kernel
theorem d_jdk_52_method_4_code_42 : decode jdk_52_method_4_code 42 = .ok (.i2b, 1) := by decide +kernel
theorem d_jdk_52_method_4_code_43 : decode jdk_52_method_4_code 43 = .ok (.bastore, 1) := by decide +kernel
theorem d_jdk_52_method_4_code_44 : decode jdk_52_method_4_code 44 = .ok (.aload_n 0, 1) := by decide +kernel
theorem d_jdk_52_method_4_code_45 : decode jdk_52_method_4_code 45 = .ok (.iload_n 1, 1) := by decide +kernel
theorem d_jdk_52_method_4_code_46 : decode jdk_52_method_4_code 46 = .ok (.iload_n 2, 1) := by decide +kernel
theorem d_jdk_52_method_4_code_47 : decode jdk_52_method_4_code 47 = .ok (.getstatic 63, 3) := by decide +kernel
theorem d_jdk_52_method_4_code_50 : decode jdk_52_method_4_code 50 = .ok (.ishr, 1) := by decide +kernel
theorem d_jdk_52_method_4_code_51 : decode jdk_52_method_4_code 51 = .ok (.i2b, 1) := by decide +kernel
theorem d_jdk_52_method_4_code_52 : decode jdk_52_method_4_code 52 = .ok (.bastore, 1) := by decide +kernel
theorem d_jdk_52_method_4_code_53 : decode jdk_52_method_4_code 53 = .ok (.return_, 1) := by decide +kernel
def Q_own_pc0 (Z : State) (arr : Addr) (kk : ClassId) (vs : (List Value)) (cc : Int32) (h0 : Heap) (v : Option Value) (h : Heap) (L : List Loc) : Prop := v = none ∧ Fr Z.heap.size L ∧ Keep h0 h [arr] ∧ (own_A Z h arr kk .byte ((vs.set 0 (.int (own_lo cc))).set 1 (.int (own_hi cc))))
set_option maxRecDepth 65536 in
set_option maxHeartbeats 40000000 in
theorem own_pc0 (l : Launch) (Z : State) (a0 : Array Value) (hw : ∀ d ∈ tables_1, d.before a0 Z = true) (ws : List Jvm.Cond) (arr : Addr) (kk : ClassId) (vs : (List Value)) (cc : Int32) (h0 : Heap) (O0 : Ext Z.heap h0) (q0 : Z.heap.size ≤ arr) (q1 : own_A Z h0 arr kk .byte vs) (hl : 1 < vs.length) (S_AD : Sta Z Z.heap own_s0 own_s4 "Z" (.int (1 : Int32))) (S_HI : Sta Z Z.heap own_s0 "HI_BYTE_SHIFT" "I" (.int (0 : Int32))) (S_LO : Sta Z Z.heap own_s0 "LO_BYTE_SHIFT" "I" (.int (8 : Int32))) :
    MetFree l own_m20 (head1 (Jvm.Cond.code own_m20 jdk_52_method_4_code 3 none :: ws) ({ frames := 0, cells := 0, slots := 0, locals := 0 } : Room)) (fun aa U => aa = #[(.ref arr), (.int (0 : Int32)), (.int cc)] ∧ Z.Warmed39 U.vm ∧ U.heap = h0) (fun _ _ _ _ _ => True) (fun _ U o U' => ∃ v L, o = .returned v ∧ Q_own_pc0 Z arr kk vs cc h0 v U'.heap L ∧ FrameEnd U o U' L ({ frames := 0, cells := 0, slots := 0, locals := 0 } : Room).cells ({ frames := 0, cells := 0, slots := 0, locals := 0 } : Room).slots) := by
  refine MetFree.of_bodySF pf_own_pc0 hisR ?_
  intro p e s m args below meth c s₁ Bd hml0 hP hK
  obtain ⟨rfl, hZ, hh⟩ := hP
  have hx := Bd.exec
  have hby := Bd.bytes
  have hlk := BodyLoose.notSynchronized Bd
  have hml : c.maxLocals = 3 := hml0
  have hown : s.vm.findClass own_s0 = some m.cls := findClass_of_methodNamed Bd.named
  have hnm := (name_of_methodNamed Bd.named Bd.method).1
  have X0 : Stand p l e ({ frames := 0, cells := 0, slots := 0, locals := 0 } : Room) s m #[(.ref arr), (.int (0 : Int32)), (.int cc)] below meth c s₁ [] 0 0 := Stand.of_body Bd
  have e0 : s₁.heap = h0 := by rw [← hh, Bd.state]; rfl
  have N0 := Fr.nil Z.heap.size
  have K0 : Keep h0 h0 [arr] := Keep.refl _ _
  refine own_start (Q := Q_own_pc0 Z arr kk vs cc h0) (ef_own_pc0 m (arr) ((0 : Int32)) (cc)) ?_
  show own_G p e below (s₁.setTop (mkF m 0 #[.val (.ref arr), .val (.int (0 : Int32)), .val (.int cc)] [])) _
  obtain ⟨T1z, X1z, e1z, st1z⟩ := getS2 X0 hx hZ hown (host := "") (Or.inl (own_hw hw 84 rfl)) Via.refl e0 (S_AD.ext O0) (g := (mkF m 0 #[.val (.ref arr), .val (.int (0 : Int32)), .val (.int cc)] [])) rfl (hb hby d_jdk_52_method_4_code_0)
  refine own_go st1z ?_
  refine own_go (fun t k => XS.ifYes X1z.here hx rfl (pc0 := 3) (pc' := 28) rfl (hb hby d_jdk_52_method_4_code_3) rfl ((if0 _ _).trans (feq (by decide : ¬ ((1 : Int32) = (0 : Int32)))).2) (by decide) (by decide) k) ?_
  show own_G p e below (T1z.setTop (mkF m 28 #[.val (.ref arr), .val (.int (0 : Int32)), .val (.int cc)] [])) _
  refine own_go (fun t k => XS.iloadN X1z.here hx rfl (hb hby d_jdk_52_method_4_code_28) rfl k) ?_
  refine own_go (fun t k => XS.iconst X1z.here hx rfl (hb hby d_jdk_52_method_4_code_29) k) ?_
  refine own_go (fun t k => XS.ishl X1z.here hx rfl (hb hby d_jdk_52_method_4_code_30) rfl k) ?_
  show own_G p e below (T1z.setTop (mkF m 31 #[.val (.ref arr), .val (.int (0 : Int32)), .val (.int cc)] [(.int ((0 : Int32) <<< ((1 : Int32) &&& 31)))])) _
  refine own_go (fun t k => XS.istoreN X1z.here hx rfl (hb hby d_jdk_52_method_4_code_31) rfl (l' := #[.val (.ref arr), .val (.int ((0 : Int32) <<< ((1 : Int32) &&& 31))), .val (.int cc)]) rfl k) ?_
  refine own_go (fun t k => XS.aloadN X1z.here hx rfl (hb hby d_jdk_52_method_4_code_32) rfl rfl k) ?_
  refine own_go (fun t k => XS.iloadN X1z.here hx rfl (hb hby d_jdk_52_method_4_code_33) rfl k) ?_
  show own_G p e below (T1z.setTop (mkF m 34 #[.val (.ref arr), .val (.int ((0 : Int32) <<< ((1 : Int32) &&& 31))), .val (.int cc)] [(.int ((0 : Int32) <<< ((1 : Int32) &&& 31))), (.ref arr)])) _
  refine own_go (fun t k => XS.iinc X1z.here hx rfl (hb hby d_jdk_52_method_4_code_34) rfl (l' := #[.val (.ref arr), .val (.int (((0 : Int32) <<< ((1 : Int32) &&& 31)) + (1 : Int32))), .val (.int cc)]) rfl k) ?_
  refine own_go (fun t k => XS.iloadN X1z.here hx rfl (hb hby d_jdk_52_method_4_code_37) rfl k) ?_
  obtain ⟨T2z, X2z, e2z, st2z⟩ := getS2 X1z hx hZ hown (host := "") (Or.inl (own_hw hw 85 rfl)) Via.refl e1z (S_HI.ext O0) (g := (mkF m 38 #[.val (.ref arr), .val (.int (((0 : Int32) <<< ((1 : Int32) &&& 31)) + (1 : Int32))), .val (.int cc)] [(.int cc), (.int ((0 : Int32) <<< ((1 : Int32) &&& 31))), (.ref arr)])) rfl (hb hby d_jdk_52_method_4_code_38)
  refine own_go st2z ?_
  show own_G p e below (T2z.setTop (mkF m 41 #[.val (.ref arr), .val (.int (((0 : Int32) <<< ((1 : Int32) &&& 31)) + (1 : Int32))), .val (.int cc)] [(.int (0 : Int32)), (.int cc), (.int ((0 : Int32) <<< ((1 : Int32) &&& 31))), (.ref arr)])) _
  refine own_go (fun t k => XS.ishr X2z.here hx rfl (hb hby d_jdk_52_method_4_code_41) rfl k) ?_
  refine own_go (fun t k => XS.i2b X2z.here hx rfl (hb hby d_jdk_52_method_4_code_42) rfl k) ?_
  obtain ⟨T3z, h3z, X3z, e3z, W3z, V3z, st3z⟩ := own_stB X2z hx hZ e2z q1 (i := 0) (y := (own_lo cc)) (own_nar8 _) (by decide) (by omega) (g := (mkF m 43 #[.val (.ref arr), .val (.int (((0 : Int32) <<< ((1 : Int32) &&& 31)) + (1 : Int32))), .val (.int cc)] [(.int (((cc >>> ((0 : Int32) &&& 31))).toInt8.toInt32)), (.int ((0 : Int32) <<< ((1 : Int32) &&& 31))), (.ref arr)])) rfl rfl (hb hby d_jdk_52_method_4_code_43)
  refine own_go st3z ?_
  have N3z := Fr.snoc X3z N0 q0
  have O4z := own_ext_wr O0 W3z q0
  have K4z := K0.wr W3z (Or.inl (List.mem_of_getElem? (i := 0) rfl))
  have V3z : own_A Z h3z arr kk .byte (vs.set 0 (.int (own_lo cc))) := V3z
  show own_G p e below (T3z.setTop (mkF m 44 #[.val (.ref arr), .val (.int (((0 : Int32) <<< ((1 : Int32) &&& 31)) + (1 : Int32))), .val (.int cc)] [])) _
  refine own_go (fun t k => XS.aloadN X3z.here hx rfl (hb hby d_jdk_52_method_4_code_44) rfl rfl k) ?_
  refine own_go (fun t k => XS.iloadN X3z.here hx rfl (hb hby d_jdk_52_method_4_code_45) rfl k) ?_
  refine own_go (fun t k => XS.iloadN X3z.here hx rfl (hb hby d_jdk_52_method_4_code_46) rfl k) ?_
  show own_G p e below (T3z.setTop (mkF m 47 #[.val (.ref arr), .val (.int (((0 : Int32) <<< ((1 : Int32) &&& 31)) + (1 : Int32))), .val (.int cc)] [(.int cc), (.int (((0 : Int32) <<< ((1 : Int32) &&& 31)) + (1 : Int32))), (.ref arr)])) _
  obtain ⟨T5z, X5z, e5z, st5z⟩ := getS2 X3z hx hZ hown (host := "") (Or.inl (own_hw hw 86 rfl)) Via.refl e3z (S_LO.ext O4z) (g := (mkF m 47 #[.val (.ref arr), .val (.int (((0 : Int32) <<< ((1 : Int32) &&& 31)) + (1 : Int32))), .val (.int cc)] [(.int cc), (.int (((0 : Int32) <<< ((1 : Int32) &&& 31)) + (1 : Int32))), (.ref arr)])) rfl (hb hby d_jdk_52_method_4_code_47)
  refine own_go st5z ?_
  refine own_go (fun t k => XS.ishr X5z.here hx rfl (hb hby d_jdk_52_method_4_code_50) rfl k) ?_
  refine own_go (fun t k => XS.i2b X5z.here hx rfl (hb hby d_jdk_52_method_4_code_51) rfl k) ?_
  show own_G p e below (T5z.setTop (mkF m 52 #[.val (.ref arr), .val (.int (((0 : Int32) <<< ((1 : Int32) &&& 31)) + (1 : Int32))), .val (.int cc)] [(.int (((cc >>> ((8 : Int32) &&& 31))).toInt8.toInt32)), (.int (((0 : Int32) <<< ((1 : Int32) &&& 31)) + (1 : Int32))), (.ref arr)])) _
  obtain ⟨T6z, h6z, X6z, e6z, W6z, V6z, st6z⟩ := own_stB X5z hx hZ e5z V3z (i := 1) (y := (own_hi cc)) (own_nar8 _) (by decide) (by rw [List.length_set]; exact hl) (g := (mkF m 52 #[.val (.ref arr), .val (.int (((0 : Int32) <<< ((1 : Int32) &&& 31)) + (1 : Int32))), .val (.int cc)] [(.int (((cc >>> ((8 : Int32) &&& 31))).toInt8.toInt32)), (.int (((0 : Int32) <<< ((1 : Int32) &&& 31)) + (1 : Int32))), (.ref arr)])) rfl rfl (hb hby d_jdk_52_method_4_code_52)
  refine own_go st6z ?_
  have N6z := Fr.snoc X6z N3z q0
  have O7z := own_ext_wr O4z W6z q0
  have K7z := K4z.wr W6z (Or.inl (List.mem_of_getElem? (i := 0) rfl))
  have V6z : own_A Z h6z arr kk .byte ((vs.set 0 (.int (own_lo cc))).set 1 (.int (own_hi cc))) := V6z
  exact own_retV X6z hx Bd.returns (hb hby d_jdk_52_method_4_code_53) hlk (Nat.le_of_ble_eq_true rfl) (Nat.le_of_ble_eq_true rfl) (by show Q_own_pc0 Z arr kk vs cc h0 _ T6z.heap _; rw [e6z]; exact ⟨rfl, N6z, K7z, V6z⟩)
theorem ef_own_pc1 (m : MethodId) (x0 : Addr) (x1 : Int32) (x2 : Int32) : entryFrame m #[(.ref x0), (.int x1), (.int x2)] 3 = mkF m 0 #[.val (.ref x0), .val (.int x1), .val (.int x2)] [] := by first | (simp [entryFrame, mkF, argsToLocals, Value.category]; done) | rfl
theorem pf_own_pc1 : plainFor own_m20 = true := plainFor_of_name (by simp [plainName, overriddenIn])
def Q_own_pc1 (Z : State) (arr : Addr) (kk : ClassId) (vs : (List Value)) (cc : Int32) (h0 : Heap) (v : Option Value) (h : Heap) (L : List Loc) : Prop := v = none ∧ Fr Z.heap.size L ∧ Keep h0 h [arr] ∧ (own_A Z h arr kk .byte ((vs.set 2 (.int (own_lo cc))).set 3 (.int (own_hi cc))))
set_option maxRecDepth 65536 in
set_option maxHeartbeats 40000000 in
theorem own_pc1 (l : Launch) (Z : State) (a0 : Array Value) (hw : ∀ d ∈ tables_1, d.before a0 Z = true) (ws : List Jvm.Cond) (arr : Addr) (kk : ClassId) (vs : (List Value)) (cc : Int32) (h0 : Heap) (O0 : Ext Z.heap h0) (q0 : Z.heap.size ≤ arr) (q1 : own_A Z h0 arr kk .byte vs) (hl : 3 < vs.length) (S_AD : Sta Z Z.heap own_s0 own_s4 "Z" (.int (1 : Int32))) (S_HI : Sta Z Z.heap own_s0 "HI_BYTE_SHIFT" "I" (.int (0 : Int32))) (S_LO : Sta Z Z.heap own_s0 "LO_BYTE_SHIFT" "I" (.int (8 : Int32))) :
    MetFree l own_m20 (head1 (Jvm.Cond.code own_m20 jdk_52_method_4_code 3 none :: ws) ({ frames := 0, cells := 0, slots := 0, locals := 0 } : Room)) (fun aa U => aa = #[(.ref arr), (.int (1 : Int32)), (.int cc)] ∧ Z.Warmed39 U.vm ∧ U.heap = h0) (fun _ _ _ _ _ => True) (fun _ U o U' => ∃ v L, o = .returned v ∧ Q_own_pc1 Z arr kk vs cc h0 v U'.heap L ∧ FrameEnd U o U' L ({ frames := 0, cells := 0, slots := 0, locals := 0 } : Room).cells ({ frames := 0, cells := 0, slots := 0, locals := 0 } : Room).slots) := by
  refine MetFree.of_bodySF pf_own_pc1 hisR ?_
  intro p e s m args below meth c s₁ Bd hml0 hP hK
  obtain ⟨rfl, hZ, hh⟩ := hP
  have hx := Bd.exec
  have hby := Bd.bytes
  have hlk := BodyLoose.notSynchronized Bd
  have hml : c.maxLocals = 3 := hml0
  have hown : s.vm.findClass own_s0 = some m.cls := findClass_of_methodNamed Bd.named
  have hnm := (name_of_methodNamed Bd.named Bd.method).1
  have X0 : Stand p l e ({ frames := 0, cells := 0, slots := 0, locals := 0 } : Room) s m #[(.ref arr), (.int (1 : Int32)), (.int cc)] below meth c s₁ [] 0 0 := Stand.of_body Bd
  have e0 : s₁.heap = h0 := by rw [← hh, Bd.state]; rfl
  have N0 := Fr.nil Z.heap.size
  have K0 : Keep h0 h0 [arr] := Keep.refl _ _
  refine own_start (Q := Q_own_pc1 Z arr kk vs cc h0) (ef_own_pc1 m (arr) ((1 : Int32)) (cc)) ?_
  show own_G p e below (s₁.setTop (mkF m 0 #[.val (.ref arr), .val (.int (1 : Int32)), .val (.int cc)] [])) _
  obtain ⟨T1z, X1z, e1z, st1z⟩ := getS2 X0 hx hZ hown (host := "") (Or.inl (own_hw hw 84 rfl)) Via.refl e0 (S_AD.ext O0) (g := (mkF m 0 #[.val (.ref arr), .val (.int (1 : Int32)), .val (.int cc)] [])) rfl (hb hby d_jdk_52_method_4_code_0)
  refine own_go st1z ?_
  refine own_go (fun t k => XS.ifYes X1z.here hx rfl (pc0 := 3) (pc' := 28) rfl (hb hby d_jdk_52_method_4_code_3) rfl ((if0 _ _).trans (feq (by decide : ¬ ((1 : Int32) = (0 : Int32)))).2) (by decide) (by decide) k) ?_
  show own_G p e below (T1z.setTop (mkF m 28 #[.val (.ref arr), .val (.int (1 : Int32)), .val (.int cc)] [])) _
  refine own_go (fun t k => XS.iloadN X1z.here hx rfl (hb hby d_jdk_52_method_4_code_28) rfl k) ?_
  refine own_go (fun t k => XS.iconst X1z.here hx rfl (hb hby d_jdk_52_method_4_code_29) k) ?_
  refine own_go (fun t k => XS.ishl X1z.here hx rfl (hb hby d_jdk_52_method_4_code_30) rfl k) ?_
  show own_G p e below (T1z.setTop (mkF m 31 #[.val (.ref arr), .val (.int (1 : Int32)), .val (.int cc)] [(.int ((1 : Int32) <<< ((1 : Int32) &&& 31)))])) _
  refine own_go (fun t k => XS.istoreN X1z.here hx rfl (hb hby d_jdk_52_method_4_code_31) rfl (l' := #[.val (.ref arr), .val (.int ((1 : Int32) <<< ((1 : Int32) &&& 31))), .val (.int cc)]) rfl k) ?_
  refine own_go (fun t k => XS.aloadN X1z.here hx rfl (hb hby d_jdk_52_method_4_code_32) rfl rfl k) ?_
  refine own_go (fun t k => XS.iloadN X1z.here hx rfl (hb hby d_jdk_52_method_4_code_33) rfl k) ?_
  show own_G p e below (T1z.setTop (mkF m 34 #[.val (.ref arr), .val (.int ((1 : Int32) <<< ((1 : Int32) &&& 31))), .val (.int cc)] [(.int ((1 : Int32) <<< ((1 : Int32) &&& 31))), (.ref arr)])) _
  refine own_go (fun t k => XS.iinc X1z.here hx rfl (hb hby d_jdk_52_method_4_code_34) rfl (l' := #[.val (.ref arr), .val (.int (((1 : Int32) <<< ((1 : Int32) &&& 31)) + (1 : Int32))), .val (.int cc)]) rfl k) ?_
  refine own_go (fun t k => XS.iloadN X1z.here hx rfl (hb hby d_jdk_52_method_4_code_37) rfl k) ?_
  obtain ⟨T2z, X2z, e2z, st2z⟩ := getS2 X1z hx hZ hown (host := "") (Or.inl (own_hw hw 85 rfl)) Via.refl e1z (S_HI.ext O0) (g := (mkF m 38 #[.val (.ref arr), .val (.int (((1 : Int32) <<< ((1 : Int32) &&& 31)) + (1 : Int32))), .val (.int cc)] [(.int cc), (.int ((1 : Int32) <<< ((1 : Int32) &&& 31))), (.ref arr)])) rfl (hb hby d_jdk_52_method_4_code_38)
  refine own_go st2z ?_
  show own_G p e below (T2z.setTop (mkF m 41 #[.val (.ref arr), .val (.int (((1 : Int32) <<< ((1 : Int32) &&& 31)) + (1 : Int32))), .val (.int cc)] [(.int (0 : Int32)), (.int cc), (.int ((1 : Int32) <<< ((1 : Int32) &&& 31))), (.ref arr)])) _
  refine own_go (fun t k => XS.ishr X2z.here hx rfl (hb hby d_jdk_52_method_4_code_41) rfl k) ?_
  refine own_go (fun t k => XS.i2b X2z.here hx rfl (hb hby d_jdk_52_method_4_code_42) rfl k) ?_
  obtain ⟨T3z, h3z, X3z, e3z, W3z, V3z, st3z⟩ := own_stB X2z hx hZ e2z q1 (i := 2) (y := (own_lo cc)) (own_nar8 _) (by decide) (by omega) (g := (mkF m 43 #[.val (.ref arr), .val (.int (((1 : Int32) <<< ((1 : Int32) &&& 31)) + (1 : Int32))), .val (.int cc)] [(.int (((cc >>> ((0 : Int32) &&& 31))).toInt8.toInt32)), (.int ((1 : Int32) <<< ((1 : Int32) &&& 31))), (.ref arr)])) rfl rfl (hb hby d_jdk_52_method_4_code_43)
  refine own_go st3z ?_
  have N3z := Fr.snoc X3z N0 q0
  have O4z := own_ext_wr O0 W3z q0
  have K4z := K0.wr W3z (Or.inl (List.mem_of_getElem? (i := 0) rfl))
  have V3z : own_A Z h3z arr kk .byte (vs.set 2 (.int (own_lo cc))) := V3z
  show own_G p e below (T3z.setTop (mkF m 44 #[.val (.ref arr), .val (.int (((1 : Int32) <<< ((1 : Int32) &&& 31)) + (1 : Int32))), .val (.int cc)] [])) _
  refine own_go (fun t k => XS.aloadN X3z.here hx rfl (hb hby d_jdk_52_method_4_code_44) rfl rfl k) ?_
  refine own_go (fun t k => XS.iloadN X3z.here hx rfl (hb hby d_jdk_52_method_4_code_45) rfl k) ?_
  refine own_go (fun t k => XS.iloadN X3z.here hx rfl (hb hby d_jdk_52_method_4_code_46) rfl k) ?_
  show own_G p e below (T3z.setTop (mkF m 47 #[.val (.ref arr), .val (.int (((1 : Int32) <<< ((1 : Int32) &&& 31)) + (1 : Int32))), .val (.int cc)] [(.int cc), (.int (((1 : Int32) <<< ((1 : Int32) &&& 31)) + (1 : Int32))), (.ref arr)])) _
  obtain ⟨T5z, X5z, e5z, st5z⟩ := getS2 X3z hx hZ hown (host := "") (Or.inl (own_hw hw 86 rfl)) Via.refl e3z (S_LO.ext O4z) (g := (mkF m 47 #[.val (.ref arr), .val (.int (((1 : Int32) <<< ((1 : Int32) &&& 31)) + (1 : Int32))), .val (.int cc)] [(.int cc), (.int (((1 : Int32) <<< ((1 : Int32) &&& 31)) + (1 : Int32))), (.ref arr)])) rfl (hb hby d_jdk_52_method_4_code_47)
  refine own_go st5z ?_
  refine own_go (fun t k => XS.ishr X5z.here hx rfl (hb hby d_jdk_52_method_4_code_50) rfl k) ?_
  refine own_go (fun t k => XS.i2b X5z.here hx rfl (hb hby d_jdk_52_method_4_code_51) rfl k) ?_
  show own_G p e below (T5z.setTop (mkF m 52 #[.val (.ref arr), .val (.int (((1 : Int32) <<< ((1 : Int32) &&& 31)) + (1 : Int32))), .val (.int cc)] [(.int (((cc >>> ((8 : Int32) &&& 31))).toInt8.toInt32)), (.int (((1 : Int32) <<< ((1 : Int32) &&& 31)) + (1 : Int32))), (.ref arr)])) _
  obtain ⟨T6z, h6z, X6z, e6z, W6z, V6z, st6z⟩ := own_stB X5z hx hZ e5z V3z (i := 3) (y := (own_hi cc)) (own_nar8 _) (by decide) (by rw [List.length_set]; exact hl) (g := (mkF m 52 #[.val (.ref arr), .val (.int (((1 : Int32) <<< ((1 : Int32) &&& 31)) + (1 : Int32))), .val (.int cc)] [(.int (((cc >>> ((8 : Int32) &&& 31))).toInt8.toInt32)), (.int (((1 : Int32) <<< ((1 : Int32) &&& 31)) + (1 : Int32))), (.ref arr)])) rfl rfl (hb hby d_jdk_52_method_4_code_52)
  refine own_go st6z ?_
  have N6z := Fr.snoc X6z N3z q0
  have O7z := own_ext_wr O4z W6z q0
  have K7z := K4z.wr W6z (Or.inl (List.mem_of_getElem? (i := 0) rfl))
  have V6z : own_A Z h6z arr kk .byte ((vs.set 2 (.int (own_lo cc))).set 3 (.int (own_hi cc))) := V6z
  exact own_retV X6z hx Bd.returns (hb hby d_jdk_52_method_4_code_53) hlk (Nat.le_of_ble_eq_true rfl) (Nat.le_of_ble_eq_true rfl) (by show Q_own_pc1 Z arr kk vs cc h0 _ T6z.heap _; rw [e6z]; exact ⟨rfl, N6z, K7z, V6z⟩)
theorem ef_own_pc2 (m : MethodId) (x0 : Addr) (x1 : Int32) (x2 : Int32) : entryFrame m #[(.ref x0), (.int x1), (.int x2)] 3 = mkF m 0 #[.val (.ref x0), .val (.int x1), .val (.int x2)] [] := by first | (simp [entryFrame, mkF, argsToLocals, Value.category]; done) | rfl
theorem pf_own_pc2 : plainFor own_m20 = true := plainFor_of_name (by simp [plainName, overriddenIn])
def Q_own_pc2 (Z : State) (arr : Addr) (kk : ClassId) (vs : (List Value)) (cc : Int32) (h0 : Heap) (v : Option Value) (h : Heap) (L : List Loc) : Prop := v = none ∧ Fr Z.heap.size L ∧ Keep h0 h [arr] ∧ (own_A Z h arr kk .byte ((vs.set 4 (.int (own_lo cc))).set 5 (.int (own_hi cc))))
set_option maxRecDepth 65536 in
set_option maxHeartbeats 40000000 in
theorem own_pc2 (l : Launch) (Z : State) (a0 : Array Value) (hw : ∀ d ∈ tables_1, d.before a0 Z = true) (ws : List Jvm.Cond) (arr : Addr) (kk : ClassId) (vs : (List Value)) (cc : Int32) (h0 : Heap) (O0 : Ext Z.heap h0) (q0 : Z.heap.size ≤ arr) (q1 : own_A Z h0 arr kk .byte vs) (hl : 5 < vs.length) (S_AD : Sta Z Z.heap own_s0 own_s4 "Z" (.int (1 : Int32))) (S_HI : Sta Z Z.heap own_s0 "HI_BYTE_SHIFT" "I" (.int (0 : Int32))) (S_LO : Sta Z Z.heap own_s0 "LO_BYTE_SHIFT" "I" (.int (8 : Int32))) :
    MetFree l own_m20 (head1 (Jvm.Cond.code own_m20 jdk_52_method_4_code 3 none :: ws) ({ frames := 0, cells := 0, slots := 0, locals := 0 } : Room)) (fun aa U => aa = #[(.ref arr), (.int (2 : Int32)), (.int cc)] ∧ Z.Warmed39 U.vm ∧ U.heap = h0) (fun _ _ _ _ _ => True) (fun _ U o U' => ∃ v L, o = .returned v ∧ Q_own_pc2 Z arr kk vs cc h0 v U'.heap L ∧ FrameEnd U o U' L ({ frames := 0, cells := 0, slots := 0, locals := 0 } : Room).cells ({ frames := 0, cells := 0, slots := 0, locals := 0 } : Room).slots) := by
  refine MetFree.of_bodySF pf_own_pc2 hisR ?_
  intro p e s m args below meth c s₁ Bd hml0 hP hK
  obtain ⟨rfl, hZ, hh⟩ := hP
  have hx := Bd.exec
  have hby := Bd.bytes
  have hlk := BodyLoose.notSynchronized Bd
  have hml : c.maxLocals = 3 := hml0
  have hown : s.vm.findClass own_s0 = some m.cls := findClass_of_methodNamed Bd.named
  have hnm := (name_of_methodNamed Bd.named Bd.method).1
  have X0 : Stand p l e ({ frames := 0, cells := 0, slots := 0, locals := 0 } : Room) s m #[(.ref arr), (.int (2 : Int32)), (.int cc)] below meth c s₁ [] 0 0 := Stand.of_body Bd
  have e0 : s₁.heap = h0 := by rw [← hh, Bd.state]; rfl
  have N0 := Fr.nil Z.heap.size
  have K0 : Keep h0 h0 [arr] := Keep.refl _ _
  refine own_start (Q := Q_own_pc2 Z arr kk vs cc h0) (ef_own_pc2 m (arr) ((2 : Int32)) (cc)) ?_
  show own_G p e below (s₁.setTop (mkF m 0 #[.val (.ref arr), .val (.int (2 : Int32)), .val (.int cc)] [])) _
  obtain ⟨T1z, X1z, e1z, st1z⟩ := getS2 X0 hx hZ hown (host := "") (Or.inl (own_hw hw 84 rfl)) Via.refl e0 (S_AD.ext O0) (g := (mkF m 0 #[.val (.ref arr), .val (.int (2 : Int32)), .val (.int cc)] [])) rfl (hb hby d_jdk_52_method_4_code_0)
  refine own_go st1z ?_
  refine own_go (fun t k => XS.ifYes X1z.here hx rfl (pc0 := 3) (pc' := 28) rfl (hb hby d_jdk_52_method_4_code_3) rfl ((if0 _ _).trans (feq (by decide : ¬ ((1 : Int32) = (0 : Int32)))).2) (by decide) (by decide) k) ?_
  show own_G p e below (T1z.setTop (mkF m 28 #[.val (.ref arr), .val (.int (2 : Int32)), .val (.int cc)] [])) _
  refine own_go (fun t k => XS.iloadN X1z.here hx rfl (hb hby d_jdk_52_method_4_code_28) rfl k) ?_
  refine own_go (fun t k => XS.iconst X1z.here hx rfl (hb hby d_jdk_52_method_4_code_29) k) ?_
  refine own_go (fun t k => XS.ishl X1z.here hx rfl (hb hby d_jdk_52_method_4_code_30) rfl k) ?_
  show own_G p e below (T1z.setTop (mkF m 31 #[.val (.ref arr), .val (.int (2 : Int32)), .val (.int cc)] [(.int ((2 : Int32) <<< ((1 : Int32) &&& 31)))])) _
  refine own_go (fun t k => XS.istoreN X1z.here hx rfl (hb hby d_jdk_52_method_4_code_31) rfl (l' := #[.val (.ref arr), .val (.int ((2 : Int32) <<< ((1 : Int32) &&& 31))), .val (.int cc)]) rfl k) ?_
  refine own_go (fun t k => XS.aloadN X1z.here hx rfl (hb hby d_jdk_52_method_4_code_32) rfl rfl k) ?_
  refine own_go (fun t k => XS.iloadN X1z.here hx rfl (hb hby d_jdk_52_method_4_code_33) rfl k) ?_
  show own_G p e below (T1z.setTop (mkF m 34 #[.val (.ref arr), .val (.int ((2 : Int32) <<< ((1 : Int32) &&& 31))), .val (.int cc)] [(.int ((2 : Int32) <<< ((1 : Int32) &&& 31))), (.ref arr)])) _
  refine own_go (fun t k => XS.iinc X1z.here hx rfl (hb hby d_jdk_52_method_4_code_34) rfl (l' := #[.val (.ref arr), .val (.int (((2 : Int32) <<< ((1 : Int32) &&& 31)) + (1 : Int32))), .val (.int cc)]) rfl k) ?_
  refine own_go (fun t k => XS.iloadN X1z.here hx rfl (hb hby d_jdk_52_method_4_code_37) rfl k) ?_
  obtain ⟨T2z, X2z, e2z, st2z⟩ := getS2 X1z hx hZ hown (host := "") (Or.inl (own_hw hw 85 rfl)) Via.refl e1z (S_HI.ext O0) (g := (mkF m 38 #[.val (.ref arr), .val (.int (((2 : Int32) <<< ((1 : Int32) &&& 31)) + (1 : Int32))), .val (.int cc)] [(.int cc), (.int ((2 : Int32) <<< ((1 : Int32) &&& 31))), (.ref arr)])) rfl (hb hby d_jdk_52_method_4_code_38)
  refine own_go st2z ?_
  show own_G p e below (T2z.setTop (mkF m 41 #[.val (.ref arr), .val (.int (((2 : Int32) <<< ((1 : Int32) &&& 31)) + (1 : Int32))), .val (.int cc)] [(.int (0 : Int32)), (.int cc), (.int ((2 : Int32) <<< ((1 : Int32) &&& 31))), (.ref arr)])) _
  refine own_go (fun t k => XS.ishr X2z.here hx rfl (hb hby d_jdk_52_method_4_code_41) rfl k) ?_
  refine own_go (fun t k => XS.i2b X2z.here hx rfl (hb hby d_jdk_52_method_4_code_42) rfl k) ?_
  obtain ⟨T3z, h3z, X3z, e3z, W3z, V3z, st3z⟩ := own_stB X2z hx hZ e2z q1 (i := 4) (y := (own_lo cc)) (own_nar8 _) (by decide) (by omega) (g := (mkF m 43 #[.val (.ref arr), .val (.int (((2 : Int32) <<< ((1 : Int32) &&& 31)) + (1 : Int32))), .val (.int cc)] [(.int (((cc >>> ((0 : Int32) &&& 31))).toInt8.toInt32)), (.int ((2 : Int32) <<< ((1 : Int32) &&& 31))), (.ref arr)])) rfl rfl (hb hby d_jdk_52_method_4_code_43)
  refine own_go st3z ?_
  have N3z := Fr.snoc X3z N0 q0
  have O4z := own_ext_wr O0 W3z q0
  have K4z := K0.wr W3z (Or.inl (List.mem_of_getElem? (i := 0) rfl))
  have V3z : own_A Z h3z arr kk .byte (vs.set 4 (.int (own_lo cc))) := V3z
  show own_G p e below (T3z.setTop (mkF m 44 #[.val (.ref arr), .val (.int (((2 : Int32) <<< ((1 : Int32) &&& 31)) + (1 : Int32))), .val (.int cc)] [])) _
  refine own_go (fun t k => XS.aloadN X3z.here hx rfl (hb hby d_jdk_52_method_4_code_44) rfl rfl k) ?_
  refine own_go (fun t k => XS.iloadN X3z.here hx rfl (hb hby d_jdk_52_method_4_code_45) rfl k) ?_
  refine own_go (fun t k => XS.iloadN X3z.here hx rfl (hb hby d_jdk_52_method_4_code_46) rfl k) ?_
  show own_G p e below (T3z.setTop (mkF m 47 #[.val (.ref arr), .val (.int (((2 : Int32) <<< ((1 : Int32) &&& 31)) + (1 : Int32))), .val (.int cc)] [(.int cc), (.int (((2 : Int32) <<< ((1 : Int32) &&& 31)) + (1 : Int32))), (.ref arr)])) _
  obtain ⟨T5z, X5z, e5z, st5z⟩ := getS2 X3z hx hZ hown (host := "") (Or.inl (own_hw hw 86 rfl)) Via.refl e3z (S_LO.ext O4z) (g := (mkF m 47 #[.val (.ref arr), .val (.int (((2 : Int32) <<< ((1 : Int32) &&& 31)) + (1 : Int32))), .val (.int cc)] [(.int cc), (.int (((2 : Int32) <<< ((1 : Int32) &&& 31)) + (1 : Int32))), (.ref arr)])) rfl (hb hby d_jdk_52_method_4_code_47)
  refine own_go st5z ?_
  refine own_go (fun t k => XS.ishr X5z.here hx rfl (hb hby d_jdk_52_method_4_code_50) rfl k) ?_
  refine own_go (fun t k => XS.i2b X5z.here hx rfl (hb hby d_jdk_52_method_4_code_51) rfl k) ?_
  show own_G p e below (T5z.setTop (mkF m 52 #[.val (.ref arr), .val (.int (((2 : Int32) <<< ((1 : Int32) &&& 31)) + (1 : Int32))), .val (.int cc)] [(.int (((cc >>> ((8 : Int32) &&& 31))).toInt8.toInt32)), (.int (((2 : Int32) <<< ((1 : Int32) &&& 31)) + (1 : Int32))), (.ref arr)])) _
  obtain ⟨T6z, h6z, X6z, e6z, W6z, V6z, st6z⟩ := own_stB X5z hx hZ e5z V3z (i := 5) (y := (own_hi cc)) (own_nar8 _) (by decide) (by rw [List.length_set]; exact hl) (g := (mkF m 52 #[.val (.ref arr), .val (.int (((2 : Int32) <<< ((1 : Int32) &&& 31)) + (1 : Int32))), .val (.int cc)] [(.int (((cc >>> ((8 : Int32) &&& 31))).toInt8.toInt32)), (.int (((2 : Int32) <<< ((1 : Int32) &&& 31)) + (1 : Int32))), (.ref arr)])) rfl rfl (hb hby d_jdk_52_method_4_code_52)
  refine own_go st6z ?_
  have N6z := Fr.snoc X6z N3z q0
  have O7z := own_ext_wr O4z W6z q0
  have K7z := K4z.wr W6z (Or.inl (List.mem_of_getElem? (i := 0) rfl))
  have V6z : own_A Z h6z arr kk .byte ((vs.set 4 (.int (own_lo cc))).set 5 (.int (own_hi cc))) := V6z
  exact own_retV X6z hx Bd.returns (hb hby d_jdk_52_method_4_code_53) hlk (Nat.le_of_ble_eq_true rfl) (Nat.le_of_ble_eq_true rfl) (by show Q_own_pc2 Z arr kk vs cc h0 _ T6z.heap _; rw [e6z]; exact ⟨rfl, N6z, K7z, V6z⟩)
theorem ef_own_tb1 (m : MethodId) (x0 : Addr) (x1 : Int32) (x2 : Int32) : entryFrame m #[(.ref x0), (.int x1), (.int x2)] 5 = mkF m 0 #[.val (.ref x0), .val (.int x1), .val (.int x2), .unset, .unset] [] := by first | (simp [entryFrame, mkF, argsToLocals, Value.category]; done) | rfl
theorem pf_own_tb1 : plainFor own_m21 = true := plainFor_of_name (by simp [plainName, overriddenIn])
theorem pd_184260188 : parseMethodDescriptor "(I)[B" = some ⟨[.int], some (.array .byte)⟩ := by decide +kernel
theorem pd_3824296411 : parseMethodDescriptor "([BII)V" = some ⟨[(.array .byte), .int, .int], none⟩ := by decide +kernel
theorem d_jdk_52_method_14_code_0 : decode jdk_52_method_14_code 0 = .ok (.iload_n 2, 1) := by decide +kernel
theorem d_jdk_52_method_14_code_1 : decode jdk_52_method_14_code 1 = .ok (.invokestatic 107, 3) := by decide +kernel
theorem d_jdk_52_method_14_code_10 : decode jdk_52_method_14_code 10 = .ok (.iload_n 2, 1) := by decide +kernel
theorem d_jdk_52_method_14_code_11 : decode jdk_52_method_14_code 11 = .ok (.if_icmp .ge 21, 3) := by decide +kernel
theorem d_jdk_52_method_14_code_14 : decode jdk_52_method_14_code 14 = .ok (.aload_n 3, 1) := by decide +kernel
theorem d_jdk_52_method_14_code_15 : decode jdk_52_method_14_code 15 = .ok (.iload 4, 2) := by decide +kernel
theorem d_jdk_52_method_14_code_17 : decode jdk_52_method_14_code 17 = .ok (.aload_n 0, 1) := by decide +kernel
theorem d_jdk_52_method_14_code_18 : decode jdk_52_method_14_code 18 = .ok (.iload_n 1, 1) := by decide +kernel
theorem d_jdk_52_method_14_code_19 : decode jdk_52_method_14_code 19 = .ok (.caload, 1) := by decide +kernel
theorem d_jdk_52_method_14_code_20 : decode jdk_52_method_14_code 20 = .ok (.invokestatic 111, 3) := by decide +kernel
theorem d_jdk_52_method_14_code_23 : decode jdk_52_method_14_code 23 = .ok (.iinc 1 1, 3) := by decide +kernel
theorem d_jdk_52_method_14_code_26 : decode jdk_52_method_14_code 26 = .ok (.iinc 4 1, 3) := by decide +kernel
theorem d_jdk_52_method_14_code_29 : decode jdk_52_method_14_code 29 = .ok (.goto (-21), 3) := by decide +kernel
theorem d_jdk_52_method_14_code_32 : decode jdk_52_method_14_code 32 = .ok (.aload_n 3, 1) := by decide +kernel
theorem d_jdk_52_method_14_code_33 : decode jdk_52_method_14_code 33 = .ok (.areturn, 1) := by decide +kernel
theorem d_jdk_52_method_14_code_4 : decode jdk_52_method_14_code 4 = .ok (.astore_n 3, 1) := by decide +kernel
theorem d_jdk_52_method_14_code_5 : decode jdk_52_method_14_code 5 = .ok (.iconst 0, 1) := by decide +kernel
theorem d_jdk_52_method_14_code_6 : decode jdk_52_method_14_code 6 = .ok (.istore 4, 2) := by decide +kernel
theorem d_jdk_52_method_14_code_8 : decode jdk_52_method_14_code 8 = .ok (.iload 4, 2) := by decide +kernel
def Q_own_tb1 (Z : State) (arr : Addr) (kk : ClassId) (c0 : Int32) (h0 : Heap) (v : Option Value) (h : Heap) (L : List Loc) : Prop := ∃ b : Addr, ∃ kb : ClassId, v = some (.ref b) ∧ Fr Z.heap.size L ∧ Keep h0 h [] ∧ (own_A Z h b kb .byte [(.int (own_lo c0)), (.int (own_hi c0))]) ∧ (Z.heap.size ≤ b) ∧ (h0.size ≤ b)
set_option maxRecDepth 65536 in
set_option maxHeartbeats 40000000 in
theorem own_tb1 (l : Launch) (Z : State) (a0 : Array Value) (hw : ∀ d ∈ tables_1, d.before a0 Z = true) (ws : List Jvm.Cond) (arr : Addr) (kk : ClassId) (c0 : Int32) (h0 : Heap) (O0 : Ext Z.heap h0) (q0 : own_A Z h0 arr kk .char [(.int c0)]) (S_AD : Sta Z Z.heap own_s0 own_s4 "Z" (.int (1 : Int32))) (S_HI : Sta Z Z.heap own_s0 "HI_BYTE_SHIFT" "I" (.int (0 : Int32))) (S_LO : Sta Z Z.heap own_s0 "LO_BYTE_SHIFT" "I" (.int (8 : Int32))) :
    MetFree l own_m21 (head1 (Jvm.Cond.code own_m21 jdk_52_method_14_code 5 (some (.array .byte)) :: ws) ({ frames := 2, cells := 1, slots := 2, locals := 24 } : Room)) (fun aa U => aa = #[(.ref arr), (.int (0 : Int32)), (.int (1 : Int32))] ∧ Z.Warmed39 U.vm ∧ U.heap = h0) (fun _ _ _ _ _ => True) (fun _ U o U' => ∃ v L, o = .returned v ∧ Q_own_tb1 Z arr kk c0 h0 v U'.heap L ∧ FrameEnd U o U' L ({ frames := 2, cells := 1, slots := 2, locals := 24 } : Room).cells ({ frames := 2, cells := 1, slots := 2, locals := 24 } : Room).slots) := by
  refine MetFree.of_bodySF pf_own_tb1 hisR ?_
  intro p e s m args below meth c s₁ Bd hml0 hP hK
  obtain ⟨rfl, hZ, hh⟩ := hP
  have hx := Bd.exec
  have hby := Bd.bytes
  have hlk := BodyLoose.notSynchronized Bd
  have hml : c.maxLocals = 5 := hml0
  have hown : s.vm.findClass own_s0 = some m.cls := findClass_of_methodNamed Bd.named
  have hnm := (name_of_methodNamed Bd.named Bd.method).1
  have X0 : Stand p l e ({ frames := 2, cells := 1, slots := 2, locals := 24 } : Room) s m #[(.ref arr), (.int (0 : Int32)), (.int (1 : Int32))] below meth c s₁ [] 0 0 := Stand.of_body Bd
  have e0 : s₁.heap = h0 := by rw [← hh, Bd.state]; rfl
  have N0 := Fr.nil Z.heap.size
  have K0 : Keep h0 h0 [] := Keep.refl _ _
  refine own_start (Q := Q_own_tb1 Z arr kk c0 h0) (ef_own_tb1 m (arr) ((0 : Int32)) ((1 : Int32))) ?_
  show own_G p e below (s₁.setTop (mkF m 0 #[.val (.ref arr), .val (.int (0 : Int32)), .val (.int (1 : Int32)), .unset, .unset] [])) _
  refine own_go (fun t k => XS.iloadN X0.here hx rfl (hb hby d_jdk_52_method_14_code_0) rfl k) ?_
  obtain ⟨_, _, ⟨T1z, L1z, k1z, n1z⟩, -, X1z, ⟨Lc1z, hQ1z, l1z, y1z, z1z⟩, st1z⟩ := Jvm.LawKit.callS X0 hx (y := own_m19) hown (own_mw hZ hw 74 rfl) (own_mw hZ hw 75 rfl) (own_mw hZ hw 65 rfl) (own_mw hZ hw 76 rfl) (by decide) (backOf (W := 0) (own_nbf1 l Z a0 hw [] h0 O0) hZ (own_hw hw 76 rfl) (own_hw hw 65 rfl) (by decide) (by decide)) (g := (mkF m 1 #[.val (.ref arr), .val (.int (0 : Int32)), .val (.int (1 : Int32)), .unset, .unset] [(.int (1 : Int32))])) rfl (by rw [hml]; rfl) (argsL := [(.int (1 : Int32))]) (rest := []) (lenOf pd_184260188 rfl) rfl (by show 2 * 0 + _ ≤ _; exact Nat.le_of_eq rfl) (hb hby d_jdk_52_method_14_code_1) (fun _ _ => ⟨rfl, e0, (by decide : 0 + 1 ≤ _), (by decide : 0 + 2 ≤ _)⟩)
  dsimp only [Pt.U, Pt.locs, Pt.cells, Pt.slots] at X1z l1z y1z z1z st1z hQ1z
  subst l1z y1z z1z
  obtain ⟨b_1z, kb_1z, rfl, NQ1z, K1zq, r1z_0, r1z_1, r1z_2⟩ := hQ1z
  refine own_go st1z ?_
  have N1z := Fr.app N0 NQ1z
  have O2z := own_ext_keep O0 K1zq all0
  have K2z := K0.trans K1zq all0
  have lz_b_1z : h0.size ≤ b_1z := Nat.le_trans K0.1 r1z_2
  have ne_arr_b_1z : arr ≠ b_1z := Nat.ne_of_lt (Nat.lt_of_lt_of_le q0.lt r1z_2)
  show own_G p e below (T1z.setTop (mkF m 4 #[.val (.ref arr), .val (.int (0 : Int32)), .val (.int (1 : Int32)), .unset, .unset] [(.ref b_1z)])) _
  refine own_go (fun t k => XS.astoreN X1z.here hx rfl (hb hby d_jdk_52_method_14_code_4) rfl rfl (l' := #[.val (.ref arr), .val (.int (0 : Int32)), .val (.int (1 : Int32)), .val (.ref b_1z), .unset]) rfl k) ?_
  refine own_go (fun t k => XS.iconst X1z.here hx rfl (hb hby d_jdk_52_method_14_code_5) k) ?_
  refine own_go (fun t k => XS.istore X1z.here hx rfl (hb hby d_jdk_52_method_14_code_6) rfl (l' := #[.val (.ref arr), .val (.int (0 : Int32)), .val (.int (1 : Int32)), .val (.ref b_1z), .val (.int (0 : Int32))]) rfl k) ?_
  show own_G p e below (T1z.setTop (mkF m 8 #[.val (.ref arr), .val (.int (0 : Int32)), .val (.int (1 : Int32)), .val (.ref b_1z), .val (.int (0 : Int32))] [])) _
  refine own_go (fun t k => XS.iload X1z.here hx rfl (hb hby d_jdk_52_method_14_code_8) rfl k) ?_
  refine own_go (fun t k => XS.iloadN X1z.here hx rfl (hb hby d_jdk_52_method_14_code_10) rfl k) ?_
  refine own_go (fun t k => XS.icmpNo X1z.here hx rfl (hb hby d_jdk_52_method_14_code_11) rfl (tlt (by decide : (0 : Int32) < (1 : Int32))).2.1 k) ?_
  show own_G p e below (T1z.setTop (mkF m 14 #[.val (.ref arr), .val (.int (0 : Int32)), .val (.int (1 : Int32)), .val (.ref b_1z), .val (.int (0 : Int32))] [])) _
  refine own_go (fun t k => XS.aloadN X1z.here hx rfl (hb hby d_jdk_52_method_14_code_14) rfl rfl k) ?_
  refine own_go (fun t k => XS.iload X1z.here hx rfl (hb hby d_jdk_52_method_14_code_15) rfl k) ?_
  refine own_go (fun t k => XS.aloadN X1z.here hx rfl (hb hby d_jdk_52_method_14_code_17) rfl rfl k) ?_
  show own_G p e below (T1z.setTop (mkF m 18 #[.val (.ref arr), .val (.int (0 : Int32)), .val (.int (1 : Int32)), .val (.ref b_1z), .val (.int (0 : Int32))] [(.ref arr), (.int (0 : Int32)), (.ref b_1z)])) _
  refine own_go (fun t k => XS.iloadN X1z.here hx rfl (hb hby d_jdk_52_method_14_code_18) rfl k) ?_
  refine own_go (own_ldC X1z hx hZ rfl (q0.keep K1zq (by simp)) (i := 0) (v := (.int c0)) (by decide) rfl (g := (mkF m 19 #[.val (.ref arr), .val (.int (0 : Int32)), .val (.int (1 : Int32)), .val (.ref b_1z), .val (.int (0 : Int32))] [(.int (0 : Int32)), (.ref arr), (.int (0 : Int32)), (.ref b_1z)])) rfl rfl (hb hby d_jdk_52_method_14_code_19)) ?_
  obtain ⟨_, _, ⟨T3z, L3z, k3z, n3z⟩, -, X3z, ⟨Lc3z, hQ3z, l3z, y3z, z3z⟩, st3z⟩ := Jvm.LawKit.callS X1z hx (y := own_m20) hown (own_mw hZ hw 81 rfl) (own_mw hZ hw 82 rfl) (own_mw hZ hw 65 rfl) (own_mw hZ hw 83 rfl) (by decide) (backOf (W := 0) (own_pc0 l Z a0 hw [] b_1z kb_1z ([(.int (0 : Int32)), (.int (0 : Int32))]) c0 T1z.heap O2z r1z_1 r1z_0 (by simp) S_AD S_HI S_LO) hZ (own_hw hw 83 rfl) (own_hw hw 65 rfl) (by decide) (by decide)) (g := (mkF m 20 #[.val (.ref arr), .val (.int (0 : Int32)), .val (.int (1 : Int32)), .val (.ref b_1z), .val (.int (0 : Int32))] [(.int c0), (.int (0 : Int32)), (.ref b_1z)])) rfl (by rw [hml]; rfl) (argsL := [(.ref b_1z), (.int (0 : Int32)), (.int c0)]) (rest := []) (lenOf pd_3824296411 rfl) rfl (by show 2 * 0 + _ ≤ _; exact Nat.le_of_eq rfl) (hb hby d_jdk_52_method_14_code_20) (fun _ _ => ⟨rfl, rfl, (by decide : 1 + 0 ≤ _), (by decide : 2 + 0 ≤ _)⟩)
  dsimp only [Pt.U, Pt.locs, Pt.cells, Pt.slots] at X3z l3z y3z z3z st3z hQ3z
  subst l3z y3z z3z
  obtain ⟨rfl, NQ3z, K3zq, r3z_0⟩ := hQ3z
  refine own_go st3z ?_
  have N3z := Fr.app N1z NQ3z
  have O4z := own_ext_keep O2z K3zq (allS r1z_1 all0)
  have K4z := K2z.trans K3zq (allS (Or.inr lz_b_1z) all0)
  have r3z_0 : own_A Z T3z.heap b_1z kb_1z .byte [(.int (own_lo c0)), (.int (own_hi c0))] := r3z_0
  show own_G p e below (T3z.setTop (mkF m 23 #[.val (.ref arr), .val (.int (0 : Int32)), .val (.int (1 : Int32)), .val (.ref b_1z), .val (.int (0 : Int32))] [])) _
  refine own_go (fun t k => XS.iinc X3z.here hx rfl (hb hby d_jdk_52_method_14_code_23) rfl (l' := #[.val (.ref arr), .val (.int (1 : Int32)), .val (.int (1 : Int32)), .val (.ref b_1z), .val (.int (0 : Int32))]) rfl k) ?_
  refine own_go (fun t k => XS.iinc X3z.here hx rfl (hb hby d_jdk_52_method_14_code_26) rfl (l' := #[.val (.ref arr), .val (.int (1 : Int32)), .val (.int (1 : Int32)), .val (.ref b_1z), .val (.int (1 : Int32))]) rfl k) ?_
  refine own_go (fun t k => XS.goto X3z.here hx rfl (pc0 := 29) (pc' := 8) rfl (hb hby d_jdk_52_method_14_code_29) (by decide) (by decide) k) ?_
  show own_G p e below (T3z.setTop (mkF m 8 #[.val (.ref arr), .val (.int (1 : Int32)), .val (.int (1 : Int32)), .val (.ref b_1z), .val (.int (1 : Int32))] [])) _
  refine own_go (fun t k => XS.iload X3z.here hx rfl (hb hby d_jdk_52_method_14_code_8) rfl k) ?_
  refine own_go (fun t k => XS.iloadN X3z.here hx rfl (hb hby d_jdk_52_method_14_code_10) rfl k) ?_
  refine own_go (fun t k => XS.icmpYes X3z.here hx rfl (pc0 := 11) (pc' := 32) rfl (hb hby d_jdk_52_method_14_code_11) rfl (flt (by decide : ¬ ((1 : Int32) < (1 : Int32)))).2.1 (by decide) (by decide) k) ?_
  show own_G p e below (T3z.setTop (mkF m 32 #[.val (.ref arr), .val (.int (1 : Int32)), .val (.int (1 : Int32)), .val (.ref b_1z), .val (.int (1 : Int32))] [])) _
  refine own_go (fun t k => XS.aloadN X3z.here hx rfl (hb hby d_jdk_52_method_14_code_32) rfl rfl k) ?_
  exact own_ret X3z hx Bd.returns rfl (Or.inr (Or.inr (Or.inr (Or.inr ⟨rfl, rfl, rfl⟩)))) (hb hby d_jdk_52_method_14_code_33) hlk (Nat.le_of_ble_eq_true rfl) (Nat.le_of_ble_eq_true rfl) (by show Q_own_tb1 Z arr kk c0 h0 _ T3z.heap _; exact ⟨b_1z, kb_1z, rfl, N3z, K4z, r3z_0, r1z_1, lz_b_1z⟩)
theorem ef_own_ci1 (m : MethodId) (x0 : Addr) (x1 : Int32) (x2 : Addr) (x3 : Int32) (x4 : Int32) : entryFrame m #[(.ref x0), (.int x1), (.ref x2), (.int x3), (.int x4)] 7 = mkF m 0 #[.val (.ref x0), .val (.int x1), .val (.ref x2), .val (.int x3), .val (.int x4), .unset, .unset] [] := by first | (simp [entryFrame, mkF, argsToLocals, Value.category]; done) | rfl
theorem pf_own_ci1 : plainFor own_m22 = true := plainFor_of_name (by simp [plainName, overriddenIn])
theorem d_jdk_52_method_21_code_0 : decode jdk_52_method_21_code 0 = .ok (.iconst 0, 1) := by decide +kernel
theorem d_jdk_52_method_21_code_1 : decode jdk_52_method_21_code 1 = .ok (.istore 5, 2) := by decide +kernel
theorem d_jdk_52_method_21_code_10 : decode jdk_52_method_21_code 10 = .ok (.aload_n 0, 1) := by decide +kernel
theorem d_jdk_52_method_21_code_11 : decode jdk_52_method_21_code 11 = .ok (.iload_n 1, 1) := by decide +kernel
theorem d_jdk_52_method_21_code_12 : decode jdk_52_method_21_code 12 = .ok (.caload, 1) := by decide +kernel
theorem d_jdk_52_method_21_code_13 : decode jdk_52_method_21_code 13 = .ok (.istore 6, 2) := by decide +kernel
theorem d_jdk_52_method_21_code_15 : decode jdk_52_method_21_code 15 = .ok (.iload 6, 2) := by decide +kernel
theorem d_jdk_52_method_21_code_17 : decode jdk_52_method_21_code 17 = .ok (.sipush 255, 3) := by decide +kernel
theorem d_jdk_52_method_21_code_20 : decode jdk_52_method_21_code 20 = .ok (.if_icmp .le 6, 3) := by decide +kernel
theorem d_jdk_52_method_21_code_23 : decode jdk_52_method_21_code 23 = .ok (.iload 5, 2) := by decide +kernel
theorem d_jdk_52_method_21_code_25 : decode jdk_52_method_21_code 25 = .ok (.ireturn, 1) := by decide +kernel
theorem d_jdk_52_method_21_code_26 : decode jdk_52_method_21_code 26 = .ok (.aload_n 2, 1) := by decide +kernel
theorem d_jdk_52_method_21_code_27 : decode jdk_52_method_21_code 27 = .ok (.iload_n 3, 1) := by decide +kernel
theorem d_jdk_52_method_21_code_28 : decode jdk_52_method_21_code 28 = .ok (.iload 6, 2) := by decide +kernel
theorem d_jdk_52_method_21_code_3 : decode jdk_52_method_21_code 3 = .ok (.iload 5, 2) := by decide +kernel
theorem d_jdk_52_method_21_code_30 : decode jdk_52_method_21_code 30 = .ok (.i2b, 1) := by decide +kernel
theorem d_jdk_52_method_21_code_31 : decode jdk_52_method_21_code 31 = .ok (.bastore, 1) := by decide +kernel
theorem d_jdk_52_method_21_code_32 : decode jdk_52_method_21_code 32 = .ok (.iinc 1 1, 3) := by decide +kernel
theorem d_jdk_52_method_21_code_35 : decode jdk_52_method_21_code 35 = .ok (.iinc 3 1, 3) := by decide +kernel
theorem d_jdk_52_method_21_code_38 : decode jdk_52_method_21_code 38 = .ok (.iinc 5 1, 3) := by decide +kernel
theorem d_jdk_52_method_21_code_41 : decode jdk_52_method_21_code 41 = .ok (.goto (-38), 3) := by decide +kernel
theorem d_jdk_52_method_21_code_44 : decode jdk_52_method_21_code 44 = .ok (.iload 4, 2) := by decide +kernel
theorem d_jdk_52_method_21_code_46 : decode jdk_52_method_21_code 46 = .ok (.ireturn, 1) := by decide +kernel
theorem d_jdk_52_method_21_code_5 : decode jdk_52_method_21_code 5 = .ok (.iload 4, 2) := by decide +kernel
theorem d_jdk_52_method_21_code_7 : decode jdk_52_method_21_code 7 = .ok (.if_icmp .ge 37, 3) := by decide +kernel
def Q_own_ci1 (Z : State) (arr : Addr) (kk : ClassId) (dst : Addr) (kd : ClassId) (c0 : Int32) (h0 : Heap) (v : Option Value) (h : Heap) (L : List Loc) : Prop := ∃ vs : (List Value), v = some (.int (own_cnt [c0])) ∧ Fr Z.heap.size L ∧ Keep h0 h [dst] ∧ (own_A Z h dst kd .byte vs) ∧ (own_cnt [c0] = (1 : Int32) → vs = own_lat [c0])
set_option maxRecDepth 65536 in
set_option maxHeartbeats 40000000 in
theorem own_ci1 (l : Launch) (Z : State) (a0 : Array Value) (hw : ∀ d ∈ tables_1, d.before a0 Z = true) (ws : List Jvm.Cond) (arr : Addr) (kk : ClassId) (dst : Addr) (kd : ClassId) (c0 : Int32) (h0 : Heap) (O0 : Ext Z.heap h0) (q0 : Z.heap.size ≤ dst) (q1 : own_A Z h0 arr kk .char [(.int c0)]) (q2 : own_A Z h0 dst kd .byte [(.int (0 : Int32))]) (nad : arr ≠ dst) :
    MetFree l own_m22 (head1 (Jvm.Cond.code own_m22 jdk_52_method_21_code 7 (some .int) :: ws) ({ frames := 0, cells := 0, slots := 0, locals := 0 } : Room)) (fun aa U => aa = #[(.ref arr), (.int (0 : Int32)), (.ref dst), (.int (0 : Int32)), (.int (1 : Int32))] ∧ Z.Warmed39 U.vm ∧ U.heap = h0) (fun _ _ _ _ _ => True) (fun _ U o U' => ∃ v L, o = .returned v ∧ Q_own_ci1 Z arr kk dst kd c0 h0 v U'.heap L ∧ FrameEnd U o U' L ({ frames := 0, cells := 0, slots := 0, locals := 0 } : Room).cells ({ frames := 0, cells := 0, slots := 0, locals := 0 } : Room).slots) := by
  refine MetFree.of_bodySF pf_own_ci1 hisR ?_
  intro p e s m args below meth c s₁ Bd hml0 hP hK
  obtain ⟨rfl, hZ, hh⟩ := hP
  have hx := Bd.exec
  have hby := Bd.bytes
  have hlk := BodyLoose.notSynchronized Bd
  have hml : c.maxLocals = 7 := hml0
  have hown : s.vm.findClass own_s0 = some m.cls := findClass_of_methodNamed Bd.named
  have hnm := (name_of_methodNamed Bd.named Bd.method).1
  have X0 : Stand p l e ({ frames := 0, cells := 0, slots := 0, locals := 0 } : Room) s m #[(.ref arr), (.int (0 : Int32)), (.ref dst), (.int (0 : Int32)), (.int (1 : Int32))] below meth c s₁ [] 0 0 := Stand.of_body Bd
  have e0 : s₁.heap = h0 := by rw [← hh, Bd.state]; rfl
  have N0 := Fr.nil Z.heap.size
  have K0 : Keep h0 h0 [dst] := Keep.refl _ _
  refine own_start (Q := Q_own_ci1 Z arr kk dst kd c0 h0) (ef_own_ci1 m (arr) ((0 : Int32)) (dst) ((0 : Int32)) ((1 : Int32))) ?_
  show own_G p e below (s₁.setTop (mkF m 0 #[.val (.ref arr), .val (.int (0 : Int32)), .val (.ref dst), .val (.int (0 : Int32)), .val (.int (1 : Int32)), .unset, .unset] [])) _
  refine own_go (fun t k => XS.iconst X0.here hx rfl (hb hby d_jdk_52_method_21_code_0) k) ?_
  refine own_go (fun t k => XS.istore X0.here hx rfl (hb hby d_jdk_52_method_21_code_1) rfl (l' := #[.val (.ref arr), .val (.int (0 : Int32)), .val (.ref dst), .val (.int (0 : Int32)), .val (.int (1 : Int32)), .val (.int (0 : Int32)), .unset]) rfl k) ?_
  refine own_go (fun t k => XS.iload X0.here hx rfl (hb hby d_jdk_52_method_21_code_3) rfl k) ?_
  show own_G p e below (s₁.setTop (mkF m 5 #[.val (.ref arr), .val (.int (0 : Int32)), .val (.ref dst), .val (.int (0 : Int32)), .val (.int (1 : Int32)), .val (.int (0 : Int32)), .unset] [(.int (0 : Int32))])) _
  refine own_go (fun t k => XS.iload X0.here hx rfl (hb hby d_jdk_52_method_21_code_5) rfl k) ?_
  refine own_go (fun t k => XS.icmpNo X0.here hx rfl (hb hby d_jdk_52_method_21_code_7) rfl (tlt (by decide : (0 : Int32) < (1 : Int32))).2.1 k) ?_
  show own_G p e below (s₁.setTop (mkF m 10 #[.val (.ref arr), .val (.int (0 : Int32)), .val (.ref dst), .val (.int (0 : Int32)), .val (.int (1 : Int32)), .val (.int (0 : Int32)), .unset] [])) _
  refine own_go (fun t k => XS.aloadN X0.here hx rfl (hb hby d_jdk_52_method_21_code_10) rfl rfl k) ?_
  refine own_go (fun t k => XS.iloadN X0.here hx rfl (hb hby d_jdk_52_method_21_code_11) rfl k) ?_
  refine own_go (own_ldC X0 hx hZ e0 q1 (i := 0) (v := (.int c0)) (by decide) rfl (g := (mkF m 12 #[.val (.ref arr), .val (.int (0 : Int32)), .val (.ref dst), .val (.int (0 : Int32)), .val (.int (1 : Int32)), .val (.int (0 : Int32)), .unset] [(.int (0 : Int32)), (.ref arr)])) rfl rfl (hb hby d_jdk_52_method_21_code_12)) ?_
  show own_G p e below (s₁.setTop (mkF m 13 #[.val (.ref arr), .val (.int (0 : Int32)), .val (.ref dst), .val (.int (0 : Int32)), .val (.int (1 : Int32)), .val (.int (0 : Int32)), .unset] [(.int c0)])) _
  refine own_go (fun t k => XS.istore X0.here hx rfl (hb hby d_jdk_52_method_21_code_13) rfl (l' := #[.val (.ref arr), .val (.int (0 : Int32)), .val (.ref dst), .val (.int (0 : Int32)), .val (.int (1 : Int32)), .val (.int (0 : Int32)), .val (.int c0)]) rfl k) ?_
  refine own_go (fun t k => XS.iload X0.here hx rfl (hb hby d_jdk_52_method_21_code_15) rfl k) ?_
  refine own_go (fun t k => XS.sipush X0.here hx rfl (hb hby d_jdk_52_method_21_code_17) k) ?_
  show own_G p e below (s₁.setTop (mkF m 20 #[.val (.ref arr), .val (.int (0 : Int32)), .val (.ref dst), .val (.int (0 : Int32)), .val (.int (1 : Int32)), .val (.int (0 : Int32)), .val (.int c0)] [(.int (255 : Int32)), (.int c0)])) _
  by_cases hc1z : (255 : Int32) < c0
  · refine own_go (fun t k => XS.icmpNo X0.here hx rfl (hb hby d_jdk_52_method_21_code_20) rfl (tlt hc1z).2.2.2 k) ?_
    show own_G p e below (s₁.setTop (mkF m 23 #[.val (.ref arr), .val (.int (0 : Int32)), .val (.ref dst), .val (.int (0 : Int32)), .val (.int (1 : Int32)), .val (.int (0 : Int32)), .val (.int c0)] [])) _
    refine own_go (fun t k => XS.iload X0.here hx rfl (hb hby d_jdk_52_method_21_code_23) rfl k) ?_
    exact own_ret X0 hx Bd.returns rfl (Or.inl ⟨rfl, Or.inl rfl, _, rfl⟩) (hb hby d_jdk_52_method_21_code_25) hlk (Nat.le_of_ble_eq_true rfl) (Nat.le_of_ble_eq_true rfl) (by show Q_own_ci1 Z arr kk dst kd c0 h0 _ s₁.heap _; rw [e0]; exact ⟨[(.int (0 : Int32))], (congrArg (fun k : Nat => some (Value.int (Int32.ofNat k))) ((own_cntN_hit hc1z) : own_cntN [c0] = 0).symm), N0, K0, q2, (fun q => absurd q (by unfold own_cnt; rw [((own_cntN_hit hc1z) : own_cntN [c0] = 0)]; decide))⟩)
  · refine own_go (fun t k => XS.icmpYes X0.here hx rfl (pc0 := 20) (pc' := 26) rfl (hb hby d_jdk_52_method_21_code_20) rfl (flt hc1z).2.2.2 (by decide) (by decide) k) ?_
    show own_G p e below (s₁.setTop (mkF m 26 #[.val (.ref arr), .val (.int (0 : Int32)), .val (.ref dst), .val (.int (0 : Int32)), .val (.int (1 : Int32)), .val (.int (0 : Int32)), .val (.int c0)] [])) _
    refine own_go (fun t k => XS.aloadN X0.here hx rfl (hb hby d_jdk_52_method_21_code_26) rfl rfl k) ?_
    refine own_go (fun t k => XS.iloadN X0.here hx rfl (hb hby d_jdk_52_method_21_code_27) rfl k) ?_
    refine own_go (fun t k => XS.iload X0.here hx rfl (hb hby d_jdk_52_method_21_code_28) rfl k) ?_
    show own_G p e below (s₁.setTop (mkF m 30 #[.val (.ref arr), .val (.int (0 : Int32)), .val (.ref dst), .val (.int (0 : Int32)), .val (.int (1 : Int32)), .val (.int (0 : Int32)), .val (.int c0)] [(.int c0), (.int (0 : Int32)), (.ref dst)])) _
    refine own_go (fun t k => XS.i2b X0.here hx rfl (hb hby d_jdk_52_method_21_code_30) rfl k) ?_
    obtain ⟨T2z, h2z, X2z, e2z, W2z, V2z, st2z⟩ := own_stB X0 hx hZ e0 q2 (i := 0) (y := (own_lb c0)) (own_nar8 _) (by decide) (Nat.le_of_ble_eq_true rfl) (g := (mkF m 31 #[.val (.ref arr), .val (.int (0 : Int32)), .val (.ref dst), .val (.int (0 : Int32)), .val (.int (1 : Int32)), .val (.int (0 : Int32)), .val (.int c0)] [(.int ((c0).toInt8.toInt32)), (.int (0 : Int32)), (.ref dst)])) rfl rfl (hb hby d_jdk_52_method_21_code_31)
    refine own_go st2z ?_
    have N2z := Fr.snoc X2z N0 q0
    have O3z := own_ext_wr O0 W2z q0
    have K3z := K0.wr W2z (Or.inl (List.mem_of_getElem? (i := 0) rfl))
    have V2z : own_A Z h2z dst kd .byte [(.int (own_lb c0))] := V2z
    refine own_go (fun t k => XS.iinc X2z.here hx rfl (hb hby d_jdk_52_method_21_code_32) rfl (l' := #[.val (.ref arr), .val (.int (1 : Int32)), .val (.ref dst), .val (.int (0 : Int32)), .val (.int (1 : Int32)), .val (.int (0 : Int32)), .val (.int c0)]) rfl k) ?_
    show own_G p e below (T2z.setTop (mkF m 35 #[.val (.ref arr), .val (.int (1 : Int32)), .val (.ref dst), .val (.int (0 : Int32)), .val (.int (1 : Int32)), .val (.int (0 : Int32)), .val (.int c0)] [])) _
    refine own_go (fun t k => XS.iinc X2z.here hx rfl (hb hby d_jdk_52_method_21_code_35) rfl (l' := #[.val (.ref arr), .val (.int (1 : Int32)), .val (.ref dst), .val (.int (1 : Int32)), .val (.int (1 : Int32)), .val (.int (0 : Int32)), .val (.int c0)]) rfl k) ?_
    refine own_go (fun t k => XS.iinc X2z.here hx rfl (hb hby d_jdk_52_method_21_code_38) rfl (l' := #[.val (.ref arr), .val (.int (1 : Int32)), .val (.ref dst), .val (.int (1 : Int32)), .val (.int (1 : Int32)), .val (.int (1 : Int32)), .val (.int c0)]) rfl k) ?_
    refine own_go (fun t k => XS.goto X2z.here hx rfl (pc0 := 41) (pc' := 3) rfl (hb hby d_jdk_52_method_21_code_41) (by decide) (by decide) k) ?_
    show own_G p e below (T2z.setTop (mkF m 3 #[.val (.ref arr), .val (.int (1 : Int32)), .val (.ref dst), .val (.int (1 : Int32)), .val (.int (1 : Int32)), .val (.int (1 : Int32)), .val (.int c0)] [])) _
    refine own_go (fun t k => XS.iload X2z.here hx rfl (hb hby d_jdk_52_method_21_code_3) rfl k) ?_
    refine own_go (fun t k => XS.iload X2z.here hx rfl (hb hby d_jdk_52_method_21_code_5) rfl k) ?_
    refine own_go (fun t k => XS.icmpYes X2z.here hx rfl (pc0 := 7) (pc' := 44) rfl (hb hby d_jdk_52_method_21_code_7) rfl (flt (by decide : ¬ ((1 : Int32) < (1 : Int32)))).2.1 (by decide) (by decide) k) ?_
    show own_G p e below (T2z.setTop (mkF m 44 #[.val (.ref arr), .val (.int (1 : Int32)), .val (.ref dst), .val (.int (1 : Int32)), .val (.int (1 : Int32)), .val (.int (1 : Int32)), .val (.int c0)] [])) _
    refine own_go (fun t k => XS.iload X2z.here hx rfl (hb hby d_jdk_52_method_21_code_44) rfl k) ?_
    exact own_ret X2z hx Bd.returns rfl (Or.inl ⟨rfl, Or.inl rfl, _, rfl⟩) (hb hby d_jdk_52_method_21_code_46) hlk (Nat.le_of_ble_eq_true rfl) (Nat.le_of_ble_eq_true rfl) (by show Q_own_ci1 Z arr kk dst kd c0 h0 _ T2z.heap _; rw [e2z]; exact ⟨[(.int (own_lb c0))], (congrArg (fun k : Nat => some (Value.int (Int32.ofNat k))) (((own_cntN_miss hc1z).trans (congrArg (· + 1) (rfl : own_cntN [] = 0))) : own_cntN [c0] = 1).symm), N2z, K3z, V2z, (fun _ => rfl)⟩)
theorem ef_own_tb2 (m : MethodId) (x0 : Addr) (x1 : Int32) (x2 : Int32) : entryFrame m #[(.ref x0), (.int x1), (.int x2)] 5 = mkF m 0 #[.val (.ref x0), .val (.int x1), .val (.int x2), .unset, .unset] [] := by first | (simp [entryFrame, mkF, argsToLocals, Value.category]; done) | rfl
theorem pf_own_tb2 : plainFor own_m21 = true := plainFor_of_name (by simp [plainName, overriddenIn])
def Q_own_tb2 (Z : State) (arr : Addr) (kk : ClassId) (c0 : Int32) (c1 : Int32) (h0 : Heap) (v : Option Value) (h : Heap) (L : List Loc) : Prop := ∃ b : Addr, ∃ kb : ClassId, v = some (.ref b) ∧ Fr Z.heap.size L ∧ Keep h0 h [] ∧ (own_A Z h b kb .byte [(.int (own_lo c0)), (.int (own_hi c0)), (.int (own_lo c1)), (.int (own_hi c1))]) ∧ (Z.heap.size ≤ b) ∧ (h0.size ≤ b)
set_option maxRecDepth 65536 in
set_option maxHeartbeats 40000000 in
theorem own_tb2 (l : Launch) (Z : State) (a0 : Array Value) (hw : ∀ d ∈ tables_1, d.before a0 Z = true) (ws : List Jvm.Cond) (arr : Addr) (kk : ClassId) (c0 : Int32) (c1 : Int32) (h0 : Heap) (O0 : Ext Z.heap h0) (q0 : own_A Z h0 arr kk .char [(.int c0), (.int c1)]) (S_AD : Sta Z Z.heap own_s0 own_s4 "Z" (.int (1 : Int32))) (S_HI : Sta Z Z.heap own_s0 "HI_BYTE_SHIFT" "I" (.int (0 : Int32))) (S_LO : Sta Z Z.heap own_s0 "LO_BYTE_SHIFT" "I" (.int (8 : Int32))) :
    MetFree l own_m21 (head1 (Jvm.Cond.code own_m21 jdk_52_method_14_code 5 (some (.array .byte)) :: ws) ({ frames := 2, cells := 1, slots := 4, locals := 24 } : Room)) (fun aa U => aa = #[(.ref arr), (.int (0 : Int32)), (.int (2 : Int32))] ∧ Z.Warmed39 U.vm ∧ U.heap = h0) (fun _ _ _ _ _ => True) (fun _ U o U' => ∃ v L, o = .returned v ∧ Q_own_tb2 Z arr kk c0 c1 h0 v U'.heap L ∧ FrameEnd U o U' L ({ frames := 2, cells := 1, slots := 4, locals := 24 } : Room).cells ({ frames := 2, cells := 1, slots := 4, locals := 24 } : Room).slots) := by
  refine MetFree.of_bodySF pf_own_tb2 hisR ?_
  intro p e s m args below meth c s₁ Bd hml0 hP hK
  obtain ⟨rfl, hZ, hh⟩ := hP
  have hx := Bd.exec
  have hby := Bd.bytes
  have hlk := BodyLoose.notSynchronized Bd
  have hml : c.maxLocals = 5 := hml0
  have hown : s.vm.findClass own_s0 = some m.cls := findClass_of_methodNamed Bd.named
  have hnm := (name_of_methodNamed Bd.named Bd.method).1
  have X0 : Stand p l e ({ frames := 2, cells := 1, slots := 4, locals := 24 } : Room) s m #[(.ref arr), (.int (0 : Int32)), (.int (2 : Int32))] below meth c s₁ [] 0 0 := Stand.of_body Bd
  have e0 : s₁.heap = h0 := by rw [← hh, Bd.state]; rfl
  have N0 := Fr.nil Z.heap.size
  have K0 : Keep h0 h0 [] := Keep.refl _ _
  refine own_start (Q := Q_own_tb2 Z arr kk c0 c1 h0) (ef_own_tb2 m (arr) ((0 : Int32)) ((2 : Int32))) ?_
  show own_G p e below (s₁.setTop (mkF m 0 #[.val (.ref arr), .val (.int (0 : Int32)), .val (.int (2 : Int32)), .unset, .unset] [])) _
  refine own_go (fun t k => XS.iloadN X0.here hx rfl (hb hby d_jdk_52_method_14_code_0) rfl k) ?_
  obtain ⟨_, _, ⟨T1z, L1z, k1z, n1z⟩, -, X1z, ⟨Lc1z, hQ1z, l1z, y1z, z1z⟩, st1z⟩ := Jvm.LawKit.callS X0 hx (y := own_m19) hown (own_mw hZ hw 74 rfl) (own_mw hZ hw 75 rfl) (own_mw hZ hw 65 rfl) (own_mw hZ hw 76 rfl) (by decide) (backOf (W := 0) (own_nbf2 l Z a0 hw [] h0 O0) hZ (own_hw hw 76 rfl) (own_hw hw 65 rfl) (by decide) (by decide)) (g := (mkF m 1 #[.val (.ref arr), .val (.int (0 : Int32)), .val (.int (2 : Int32)), .unset, .unset] [(.int (2 : Int32))])) rfl (by rw [hml]; rfl) (argsL := [(.int (2 : Int32))]) (rest := []) (lenOf pd_184260188 rfl) rfl (by show 2 * 0 + _ ≤ _; exact Nat.le_of_eq rfl) (hb hby d_jdk_52_method_14_code_1) (fun _ _ => ⟨rfl, e0, (by decide : 0 + 1 ≤ _), (by decide : 0 + 4 ≤ _)⟩)
  dsimp only [Pt.U, Pt.locs, Pt.cells, Pt.slots] at X1z l1z y1z z1z st1z hQ1z
  subst l1z y1z z1z
  obtain ⟨b_1z, kb_1z, rfl, NQ1z, K1zq, r1z_0, r1z_1, r1z_2⟩ := hQ1z
  refine own_go st1z ?_
  have N1z := Fr.app N0 NQ1z
  have O2z := own_ext_keep O0 K1zq all0
  have K2z := K0.trans K1zq all0
  have lz_b_1z : h0.size ≤ b_1z := Nat.le_trans K0.1 r1z_2
  have ne_arr_b_1z : arr ≠ b_1z := Nat.ne_of_lt (Nat.lt_of_lt_of_le q0.lt r1z_2)
  show own_G p e below (T1z.setTop (mkF m 4 #[.val (.ref arr), .val (.int (0 : Int32)), .val (.int (2 : Int32)), .unset, .unset] [(.ref b_1z)])) _
  refine own_go (fun t k => XS.astoreN X1z.here hx rfl (hb hby d_jdk_52_method_14_code_4) rfl rfl (l' := #[.val (.ref arr), .val (.int (0 : Int32)), .val (.int (2 : Int32)), .val (.ref b_1z), .unset]) rfl k) ?_
  refine own_go (fun t k => XS.iconst X1z.here hx rfl (hb hby d_jdk_52_method_14_code_5) k) ?_
  refine own_go (fun t k => XS.istore X1z.here hx rfl (hb hby d_jdk_52_method_14_code_6) rfl (l' := #[.val (.ref arr), .val (.int (0 : Int32)), .val (.int (2 : Int32)), .val (.ref b_1z), .val (.int (0 : Int32))]) rfl k) ?_
  show own_G p e below (T1z.setTop (mkF m 8 #[.val (.ref arr), .val (.int (0 : Int32)), .val (.int (2 : Int32)), .val (.ref b_1z), .val (.int (0 : Int32))] [])) _
  refine own_go (fun t k => XS.iload X1z.here hx rfl (hb hby d_jdk_52_method_14_code_8) rfl k) ?_
  refine own_go (fun t k => XS.iloadN X1z.here hx rfl (hb hby d_jdk_52_method_14_code_10) rfl k) ?_
  refine own_go (fun t k => XS.icmpNo X1z.here hx rfl (hb hby d_jdk_52_method_14_code_11) rfl (tlt (by decide : (0 : Int32) < (2 : Int32))).2.1 k) ?_
  show own_G p e below (T1z.setTop (mkF m 14 #[.val (.ref arr), .val (.int (0 : Int32)), .val (.int (2 : Int32)), .val (.ref b_1z), .val (.int (0 : Int32))] [])) _
  refine own_go (fun t k => XS.aloadN X1z.here hx rfl (hb hby d_jdk_52_method_14_code_14) rfl rfl k) ?_
  refine own_go (fun t k => XS.iload X1z.here hx rfl (hb hby d_jdk_52_method_14_code_15) rfl k) ?_
  refine own_go (fun t k => XS.aloadN X1z.here hx rfl (hb hby d_jdk_52_method_14_code_17) rfl rfl k) ?_
  show own_G p e below (T1z.setTop (mkF m 18 #[.val (.ref arr), .val (.int (0 : Int32)), .val (.int (2 : Int32)), .val (.ref b_1z), .val (.int (0 : Int32))] [(.ref arr), (.int (0 : Int32)), (.ref b_1z)])) _
  refine own_go (fun t k => XS.iloadN X1z.here hx rfl (hb hby d_jdk_52_method_14_code_18) rfl k) ?_
  refine own_go (own_ldC X1z hx hZ rfl (q0.keep K1zq (by simp)) (i := 0) (v := (.int c0)) (by decide) rfl (g := (mkF m 19 #[.val (.ref arr), .val (.int (0 : Int32)), .val (.int (2 : Int32)), .val (.ref b_1z), .val (.int (0 : Int32))] [(.int (0 : Int32)), (.ref arr), (.int (0 : Int32)), (.ref b_1z)])) rfl rfl (hb hby d_jdk_52_method_14_code_19)) ?_
  obtain ⟨_, _, ⟨T3z, L3z, k3z, n3z⟩, -, X3z, ⟨Lc3z, hQ3z, l3z, y3z, z3z⟩, st3z⟩ := Jvm.LawKit.callS X1z hx (y := own_m20) hown (own_mw hZ hw 81 rfl) (own_mw hZ hw 82 rfl) (own_mw hZ hw 65 rfl) (own_mw hZ hw 83 rfl) (by decide) (backOf (W := 0) (own_pc0 l Z a0 hw [] b_1z kb_1z ([(.int (0 : Int32)), (.int (0 : Int32)), (.int (0 : Int32)), (.int (0 : Int32))]) c0 T1z.heap O2z r1z_1 r1z_0 (by simp) S_AD S_HI S_LO) hZ (own_hw hw 83 rfl) (own_hw hw 65 rfl) (by decide) (by decide)) (g := (mkF m 20 #[.val (.ref arr), .val (.int (0 : Int32)), .val (.int (2 : Int32)), .val (.ref b_1z), .val (.int (0 : Int32))] [(.int c0), (.int (0 : Int32)), (.ref b_1z)])) rfl (by rw [hml]; rfl) (argsL := [(.ref b_1z), (.int (0 : Int32)), (.int c0)]) (rest := []) (lenOf pd_3824296411 rfl) rfl (by show 2 * 0 + _ ≤ _; exact Nat.le_of_eq rfl) (hb hby d_jdk_52_method_14_code_20) (fun _ _ => ⟨rfl, rfl, (by decide : 1 + 0 ≤ _), (by decide : 4 + 0 ≤ _)⟩)
  dsimp only [Pt.U, Pt.locs, Pt.cells, Pt.slots] at X3z l3z y3z z3z st3z hQ3z
  subst l3z y3z z3z
  obtain ⟨rfl, NQ3z, K3zq, r3z_0⟩ := hQ3z
  refine own_go st3z ?_
  have N3z := Fr.app N1z NQ3z
  have O4z := own_ext_keep O2z K3zq (allS r1z_1 all0)
  have K4z := K2z.trans K3zq (allS (Or.inr lz_b_1z) all0)
  have r3z_0 : own_A Z T3z.heap b_1z kb_1z .byte [(.int (own_lo c0)), (.int (own_hi c0)), (.int (0 : Int32)), (.int (0 : Int32))] := r3z_0
  show own_G p e below (T3z.setTop (mkF m 23 #[.val (.ref arr), .val (.int (0 : Int32)), .val (.int (2 : Int32)), .val (.ref b_1z), .val (.int (0 : Int32))] [])) _
  refine own_go (fun t k => XS.iinc X3z.here hx rfl (hb hby d_jdk_52_method_14_code_23) rfl (l' := #[.val (.ref arr), .val (.int (1 : Int32)), .val (.int (2 : Int32)), .val (.ref b_1z), .val (.int (0 : Int32))]) rfl k) ?_
  refine own_go (fun t k => XS.iinc X3z.here hx rfl (hb hby d_jdk_52_method_14_code_26) rfl (l' := #[.val (.ref arr), .val (.int (1 : Int32)), .val (.int (2 : Int32)), .val (.ref b_1z), .val (.int (1 : Int32))]) rfl k) ?_
  refine own_go (fun t k => XS.goto X3z.here hx rfl (pc0 := 29) (pc' := 8) rfl (hb hby d_jdk_52_method_14_code_29) (by decide) (by decide) k) ?_
  show own_G p e below (T3z.setTop (mkF m 8 #[.val (.ref arr), .val (.int (1 : Int32)), .val (.int (2 : Int32)), .val (.ref b_1z), .val (.int (1 : Int32))] [])) _
  refine own_go (fun t k => XS.iload X3z.here hx rfl (hb hby d_jdk_52_method_14_code_8) rfl k) ?_
  refine own_go (fun t k => XS.iloadN X3z.here hx rfl (hb hby d_jdk_52_method_14_code_10) rfl k) ?_
  refine own_go (fun t k => XS.icmpNo X3z.here hx rfl (hb hby d_jdk_52_method_14_code_11) rfl (tlt (by decide : (1 : Int32) < (2 : Int32))).2.1 k) ?_
  show own_G p e below (T3z.setTop (mkF m 14 #[.val (.ref arr), .val (.int (1 : Int32)), .val (.int (2 : Int32)), .val (.ref b_1z), .val (.int (1 : Int32))] [])) _
  refine own_go (fun t k => XS.aloadN X3z.here hx rfl (hb hby d_jdk_52_method_14_code_14) rfl rfl k) ?_
  refine own_go (fun t k => XS.iload X3z.here hx rfl (hb hby d_jdk_52_method_14_code_15) rfl k) ?_
  refine own_go (fun t k => XS.aloadN X3z.here hx rfl (hb hby d_jdk_52_method_14_code_17) rfl rfl k) ?_
  show own_G p e below (T3z.setTop (mkF m 18 #[.val (.ref arr), .val (.int (1 : Int32)), .val (.int (2 : Int32)), .val (.ref b_1z), .val (.int (1 : Int32))] [(.ref arr), (.int (1 : Int32)), (.ref b_1z)])) _
  refine own_go (fun t k => XS.iloadN X3z.here hx rfl (hb hby d_jdk_52_method_14_code_18) rfl k) ?_
  have f5z := ((q0.keep K1zq (by simp)).keep K3zq (by simp only [List.mem_cons, List.not_mem_nil, or_false, not_or]; exact ne_arr_b_1z))
  refine own_go (own_ldC X3z hx hZ rfl f5z (i := 1) (v := (.int c1)) (by decide) rfl (g := (mkF m 19 #[.val (.ref arr), .val (.int (1 : Int32)), .val (.int (2 : Int32)), .val (.ref b_1z), .val (.int (1 : Int32))] [(.int (1 : Int32)), (.ref arr), (.int (1 : Int32)), (.ref b_1z)])) rfl rfl (hb hby d_jdk_52_method_14_code_19)) ?_
  obtain ⟨_, _, ⟨T6z, L6z, k6z, n6z⟩, -, X6z, ⟨Lc6z, hQ6z, l6z, y6z, z6z⟩, st6z⟩ := Jvm.LawKit.callS X3z hx (y := own_m20) hown (own_mw hZ hw 81 rfl) (own_mw hZ hw 82 rfl) (own_mw hZ hw 65 rfl) (own_mw hZ hw 83 rfl) (by decide) (backOf (W := 0) (own_pc1 l Z a0 hw [] b_1z kb_1z ([(.int (own_lo c0)), (.int (own_hi c0)), (.int (0 : Int32)), (.int (0 : Int32))]) c1 T3z.heap O4z r1z_1 r3z_0 (by simp) S_AD S_HI S_LO) hZ (own_hw hw 83 rfl) (own_hw hw 65 rfl) (by decide) (by decide)) (g := (mkF m 20 #[.val (.ref arr), .val (.int (1 : Int32)), .val (.int (2 : Int32)), .val (.ref b_1z), .val (.int (1 : Int32))] [(.int c1), (.int (1 : Int32)), (.ref b_1z)])) rfl (by rw [hml]; rfl) (argsL := [(.ref b_1z), (.int (1 : Int32)), (.int c1)]) (rest := []) (lenOf pd_3824296411 rfl) rfl (by show 2 * 0 + _ ≤ _; exact Nat.le_of_eq rfl) (hb hby d_jdk_52_method_14_code_20) (fun _ _ => ⟨rfl, rfl, (by decide : 1 + 0 ≤ _), (by decide : 4 + 0 ≤ _)⟩)
  dsimp only [Pt.U, Pt.locs, Pt.cells, Pt.slots] at X6z l6z y6z z6z st6z hQ6z
  subst l6z y6z z6z
  obtain ⟨rfl, NQ6z, K6zq, r6z_0⟩ := hQ6z
  refine own_go st6z ?_
  have N6z := Fr.app N3z NQ6z
  have O7z := own_ext_keep O4z K6zq (allS r1z_1 all0)
  have K7z := K4z.trans K6zq (allS (Or.inr lz_b_1z) all0)
  have r6z_0 : own_A Z T6z.heap b_1z kb_1z .byte [(.int (own_lo c0)), (.int (own_hi c0)), (.int (own_lo c1)), (.int (own_hi c1))] := r6z_0
  show own_G p e below (T6z.setTop (mkF m 23 #[.val (.ref arr), .val (.int (1 : Int32)), .val (.int (2 : Int32)), .val (.ref b_1z), .val (.int (1 : Int32))] [])) _
  refine own_go (fun t k => XS.iinc X6z.here hx rfl (hb hby d_jdk_52_method_14_code_23) rfl (l' := #[.val (.ref arr), .val (.int (2 : Int32)), .val (.int (2 : Int32)), .val (.ref b_1z), .val (.int (1 : Int32))]) rfl k) ?_
  refine own_go (fun t k => XS.iinc X6z.here hx rfl (hb hby d_jdk_52_method_14_code_26) rfl (l' := #[.val (.ref arr), .val (.int (2 : Int32)), .val (.int (2 : Int32)), .val (.ref b_1z), .val (.int (2 : Int32))]) rfl k) ?_
  refine own_go (fun t k => XS.goto X6z.here hx rfl (pc0 := 29) (pc' := 8) rfl (hb hby d_jdk_52_method_14_code_29) (by decide) (by decide) k) ?_
  show own_G p e below (T6z.setTop (mkF m 8 #[.val (.ref arr), .val (.int (2 : Int32)), .val (.int (2 : Int32)), .val (.ref b_1z), .val (.int (2 : Int32))] [])) _
  refine own_go (fun t k => XS.iload X6z.here hx rfl (hb hby d_jdk_52_method_14_code_8) rfl k) ?_
  refine own_go (fun t k => XS.iloadN X6z.here hx rfl (hb hby d_jdk_52_method_14_code_10) rfl k) ?_
  refine own_go (fun t k => XS.icmpYes X6z.here hx rfl (pc0 := 11) (pc' := 32) rfl (hb hby d_jdk_52_method_14_code_11) rfl (flt (by decide : ¬ ((2 : Int32) < (2 : Int32)))).2.1 (by decide) (by decide) k) ?_
  show own_G p e below (T6z.setTop (mkF m 32 #[.val (.ref arr), .val (.int (2 : Int32)), .val (.int (2 : Int32)), .val (.ref b_1z), .val (.int (2 : Int32))] [])) _
  refine own_go (fun t k => XS.aloadN X6z.here hx rfl (hb hby d_jdk_52_method_14_code_32) rfl rfl k) ?_
  exact own_ret X6z hx Bd.returns rfl (Or.inr (Or.inr (Or.inr (Or.inr ⟨rfl, rfl, rfl⟩)))) (hb hby d_jdk_52_method_14_code_33) hlk (Nat.le_of_ble_eq_true rfl) (Nat.le_of_ble_eq_true rfl) (by show Q_own_tb2 Z arr kk c0 c1 h0 _ T6z.heap _; exact ⟨b_1z, kb_1z, rfl, N6z, K7z, r6z_0, r1z_1, lz_b_1z⟩)
theorem ef_own_ci2 (m : MethodId) (x0 : Addr) (x1 : Int32) (x2 : Addr) (x3 : Int32) (x4 : Int32) : entryFrame m #[(.ref x0), (.int x1), (.ref x2), (.int x3), (.int x4)] 7 = mkF m 0 #[.val (.ref x0), .val (.int x1), .val (.ref x2), .val (.int x3), .val (.int x4), .unset, .unset] [] := by first | (simp [entryFrame, mkF, argsToLocals, Value.category]; done) | rfl
theorem pf_own_ci2 : plainFor own_m22 = true := plainFor_of_name (by simp [plainName, overriddenIn])
def Q_own_ci2 (Z : State) (arr : Addr) (kk : ClassId) (dst : Addr) (kd : ClassId) (c0 : Int32) (c1 : Int32) (h0 : Heap) (v : Option Value) (h : Heap) (L : List Loc) : Prop := ∃ vs : (List Value), v = some (.int (own_cnt [c0, c1])) ∧ Fr Z.heap.size L ∧ Keep h0 h [dst] ∧ (own_A Z h dst kd .byte vs) ∧ (own_cnt [c0, c1] = (2 : Int32) → vs = own_lat [c0, c1])
set_option maxRecDepth 65536 in
set_option maxHeartbeats 40000000 in
theorem own_ci2 (l : Launch) (Z : State) (a0 : Array Value) (hw : ∀ d ∈ tables_1, d.before a0 Z = true) (ws : List Jvm.Cond) (arr : Addr) (kk : ClassId) (dst : Addr) (kd : ClassId) (c0 : Int32) (c1 : Int32) (h0 : Heap) (O0 : Ext Z.heap h0) (q0 : Z.heap.size ≤ dst) (q1 : own_A Z h0 arr kk .char [(.int c0), (.int c1)]) (q2 : own_A Z h0 dst kd .byte [(.int (0 : Int32)), (.int (0 : Int32))]) (nad : arr ≠ dst) :
    MetFree l own_m22 (head1 (Jvm.Cond.code own_m22 jdk_52_method_21_code 7 (some .int) :: ws) ({ frames := 0, cells := 0, slots := 0, locals := 0 } : Room)) (fun aa U => aa = #[(.ref arr), (.int (0 : Int32)), (.ref dst), (.int (0 : Int32)), (.int (2 : Int32))] ∧ Z.Warmed39 U.vm ∧ U.heap = h0) (fun _ _ _ _ _ => True) (fun _ U o U' => ∃ v L, o = .returned v ∧ Q_own_ci2 Z arr kk dst kd c0 c1 h0 v U'.heap L ∧ FrameEnd U o U' L ({ frames := 0, cells := 0, slots := 0, locals := 0 } : Room).cells ({ frames := 0, cells := 0, slots := 0, locals := 0 } : Room).slots) := by
  refine MetFree.of_bodySF pf_own_ci2 hisR ?_
  intro p e s m args below meth c s₁ Bd hml0 hP hK
  obtain ⟨rfl, hZ, hh⟩ := hP
  have hx := Bd.exec
  have hby := Bd.bytes
  have hlk := BodyLoose.notSynchronized Bd
  have hml : c.maxLocals = 7 := hml0
  have hown : s.vm.findClass own_s0 = some m.cls := findClass_of_methodNamed Bd.named
  have hnm := (name_of_methodNamed Bd.named Bd.method).1
  have X0 : Stand p l e ({ frames := 0, cells := 0, slots := 0, locals := 0 } : Room) s m #[(.ref arr), (.int (0 : Int32)), (.ref dst), (.int (0 : Int32)), (.int (2 : Int32))] below meth c s₁ [] 0 0 := Stand.of_body Bd
  have e0 : s₁.heap = h0 := by rw [← hh, Bd.state]; rfl
  have N0 := Fr.nil Z.heap.size
  have K0 : Keep h0 h0 [dst] := Keep.refl _ _
  refine own_start (Q := Q_own_ci2 Z arr kk dst kd c0 c1 h0) (ef_own_ci2 m (arr) ((0 : Int32)) (dst) ((0 : Int32)) ((2 : Int32))) ?_
  show own_G p e below (s₁.setTop (mkF m 0 #[.val (.ref arr), .val (.int (0 : Int32)), .val (.ref dst), .val (.int (0 : Int32)), .val (.int (2 : Int32)), .unset, .unset] [])) _
  refine own_go (fun t k => XS.iconst X0.here hx rfl (hb hby d_jdk_52_method_21_code_0) k) ?_
  refine own_go (fun t k => XS.istore X0.here hx rfl (hb hby d_jdk_52_method_21_code_1) rfl (l' := #[.val (.ref arr), .val (.int (0 : Int32)), .val (.ref dst), .val (.int (0 : Int32)), .val (.int (2 : Int32)), .val (.int (0 : Int32)), .unset]) rfl k) ?_
  refine own_go (fun t k => XS.iload X0.here hx rfl (hb hby d_jdk_52_method_21_code_3) rfl k) ?_
  show own_G p e below (s₁.setTop (mkF m 5 #[.val (.ref arr), .val (.int (0 : Int32)), .val (.ref dst), .val (.int (0 : Int32)), .val (.int (2 : Int32)), .val (.int (0 : Int32)), .unset] [(.int (0 : Int32))])) _
  refine own_go (fun t k => XS.iload X0.here hx rfl (hb hby d_jdk_52_method_21_code_5) rfl k) ?_
  refine own_go (fun t k => XS.icmpNo X0.here hx rfl (hb hby d_jdk_52_method_21_code_7) rfl (tlt (by decide : (0 : Int32) < (2 : Int32))).2.1 k) ?_
  show own_G p e below (s₁.setTop (mkF m 10 #[.val (.ref arr), .val (.int (0 : Int32)), .val (.ref dst), .val (.int (0 : Int32)), .val (.int (2 : Int32)), .val (.int (0 : Int32)), .unset] [])) _
  refine own_go (fun t k => XS.aloadN X0.here hx rfl (hb hby d_jdk_52_method_21_code_10) rfl rfl k) ?_
  refine own_go (fun t k => XS.iloadN X0.here hx rfl (hb hby d_jdk_52_method_21_code_11) rfl k) ?_
  refine own_go (own_ldC X0 hx hZ e0 q1 (i := 0) (v := (.int c0)) (by decide) rfl (g := (mkF m 12 #[.val (.ref arr), .val (.int (0 : Int32)), .val (.ref dst), .val (.int (0 : Int32)), .val (.int (2 : Int32)), .val (.int (0 : Int32)), .unset] [(.int (0 : Int32)), (.ref arr)])) rfl rfl (hb hby d_jdk_52_method_21_code_12)) ?_
  show own_G p e below (s₁.setTop (mkF m 13 #[.val (.ref arr), .val (.int (0 : Int32)), .val (.ref dst), .val (.int (0 : Int32)), .val (.int (2 : Int32)), .val (.int (0 : Int32)), .unset] [(.int c0)])) _
  refine own_go (fun t k => XS.istore X0.here hx rfl (hb hby d_jdk_52_method_21_code_13) rfl (l' := #[.val (.ref arr), .val (.int (0 : Int32)), .val (.ref dst), .val (.int (0 : Int32)), .val (.int (2 : Int32)), .val (.int (0 : Int32)), .val (.int c0)]) rfl k) ?_
  refine own_go (fun t k => XS.iload X0.here hx rfl (hb hby d_jdk_52_method_21_code_15) rfl k) ?_
  refine own_go (fun t k => XS.sipush X0.here hx rfl (hb hby d_jdk_52_method_21_code_17) k) ?_
  show own_G p e below (s₁.setTop (mkF m 20 #[.val (.ref arr), .val (.int (0 : Int32)), .val (.ref dst), .val (.int (0 : Int32)), .val (.int (2 : Int32)), .val (.int (0 : Int32)), .val (.int c0)] [(.int (255 : Int32)), (.int c0)])) _
  by_cases hc1z : (255 : Int32) < c0
  · refine own_go (fun t k => XS.icmpNo X0.here hx rfl (hb hby d_jdk_52_method_21_code_20) rfl (tlt hc1z).2.2.2 k) ?_
    show own_G p e below (s₁.setTop (mkF m 23 #[.val (.ref arr), .val (.int (0 : Int32)), .val (.ref dst), .val (.int (0 : Int32)), .val (.int (2 : Int32)), .val (.int (0 : Int32)), .val (.int c0)] [])) _
    refine own_go (fun t k => XS.iload X0.here hx rfl (hb hby d_jdk_52_method_21_code_23) rfl k) ?_
    exact own_ret X0 hx Bd.returns rfl (Or.inl ⟨rfl, Or.inl rfl, _, rfl⟩) (hb hby d_jdk_52_method_21_code_25) hlk (Nat.le_of_ble_eq_true rfl) (Nat.le_of_ble_eq_true rfl) (by show Q_own_ci2 Z arr kk dst kd c0 c1 h0 _ s₁.heap _; rw [e0]; exact ⟨[(.int (0 : Int32)), (.int (0 : Int32))], (congrArg (fun k : Nat => some (Value.int (Int32.ofNat k))) ((own_cntN_hit hc1z) : own_cntN [c0, c1] = 0).symm), N0, K0, q2, (fun q => absurd q (by unfold own_cnt; rw [((own_cntN_hit hc1z) : own_cntN [c0, c1] = 0)]; decide))⟩)
  · refine own_go (fun t k => XS.icmpYes X0.here hx rfl (pc0 := 20) (pc' := 26) rfl (hb hby d_jdk_52_method_21_code_20) rfl (flt hc1z).2.2.2 (by decide) (by decide) k) ?_
    show own_G p e below (s₁.setTop (mkF m 26 #[.val (.ref arr), .val (.int (0 : Int32)), .val (.ref dst), .val (.int (0 : Int32)), .val (.int (2 : Int32)), .val (.int (0 : Int32)), .val (.int c0)] [])) _
    refine own_go (fun t k => XS.aloadN X0.here hx rfl (hb hby d_jdk_52_method_21_code_26) rfl rfl k) ?_
    refine own_go (fun t k => XS.iloadN X0.here hx rfl (hb hby d_jdk_52_method_21_code_27) rfl k) ?_
    refine own_go (fun t k => XS.iload X0.here hx rfl (hb hby d_jdk_52_method_21_code_28) rfl k) ?_
    show own_G p e below (s₁.setTop (mkF m 30 #[.val (.ref arr), .val (.int (0 : Int32)), .val (.ref dst), .val (.int (0 : Int32)), .val (.int (2 : Int32)), .val (.int (0 : Int32)), .val (.int c0)] [(.int c0), (.int (0 : Int32)), (.ref dst)])) _
    refine own_go (fun t k => XS.i2b X0.here hx rfl (hb hby d_jdk_52_method_21_code_30) rfl k) ?_
    obtain ⟨T2z, h2z, X2z, e2z, W2z, V2z, st2z⟩ := own_stB X0 hx hZ e0 q2 (i := 0) (y := (own_lb c0)) (own_nar8 _) (by decide) (Nat.le_of_ble_eq_true rfl) (g := (mkF m 31 #[.val (.ref arr), .val (.int (0 : Int32)), .val (.ref dst), .val (.int (0 : Int32)), .val (.int (2 : Int32)), .val (.int (0 : Int32)), .val (.int c0)] [(.int ((c0).toInt8.toInt32)), (.int (0 : Int32)), (.ref dst)])) rfl rfl (hb hby d_jdk_52_method_21_code_31)
    refine own_go st2z ?_
    have N2z := Fr.snoc X2z N0 q0
    have O3z := own_ext_wr O0 W2z q0
    have K3z := K0.wr W2z (Or.inl (List.mem_of_getElem? (i := 0) rfl))
    have V2z : own_A Z h2z dst kd .byte [(.int (own_lb c0)), (.int (0 : Int32))] := V2z
    refine own_go (fun t k => XS.iinc X2z.here hx rfl (hb hby d_jdk_52_method_21_code_32) rfl (l' := #[.val (.ref arr), .val (.int (1 : Int32)), .val (.ref dst), .val (.int (0 : Int32)), .val (.int (2 : Int32)), .val (.int (0 : Int32)), .val (.int c0)]) rfl k) ?_
    show own_G p e below (T2z.setTop (mkF m 35 #[.val (.ref arr), .val (.int (1 : Int32)), .val (.ref dst), .val (.int (0 : Int32)), .val (.int (2 : Int32)), .val (.int (0 : Int32)), .val (.int c0)] [])) _
    refine own_go (fun t k => XS.iinc X2z.here hx rfl (hb hby d_jdk_52_method_21_code_35) rfl (l' := #[.val (.ref arr), .val (.int (1 : Int32)), .val (.ref dst), .val (.int (1 : Int32)), .val (.int (2 : Int32)), .val (.int (0 : Int32)), .val (.int c0)]) rfl k) ?_
    refine own_go (fun t k => XS.iinc X2z.here hx rfl (hb hby d_jdk_52_method_21_code_38) rfl (l' := #[.val (.ref arr), .val (.int (1 : Int32)), .val (.ref dst), .val (.int (1 : Int32)), .val (.int (2 : Int32)), .val (.int (1 : Int32)), .val (.int c0)]) rfl k) ?_
    refine own_go (fun t k => XS.goto X2z.here hx rfl (pc0 := 41) (pc' := 3) rfl (hb hby d_jdk_52_method_21_code_41) (by decide) (by decide) k) ?_
    show own_G p e below (T2z.setTop (mkF m 3 #[.val (.ref arr), .val (.int (1 : Int32)), .val (.ref dst), .val (.int (1 : Int32)), .val (.int (2 : Int32)), .val (.int (1 : Int32)), .val (.int c0)] [])) _
    refine own_go (fun t k => XS.iload X2z.here hx rfl (hb hby d_jdk_52_method_21_code_3) rfl k) ?_
    refine own_go (fun t k => XS.iload X2z.here hx rfl (hb hby d_jdk_52_method_21_code_5) rfl k) ?_
    refine own_go (fun t k => XS.icmpNo X2z.here hx rfl (hb hby d_jdk_52_method_21_code_7) rfl (tlt (by decide : (1 : Int32) < (2 : Int32))).2.1 k) ?_
    show own_G p e below (T2z.setTop (mkF m 10 #[.val (.ref arr), .val (.int (1 : Int32)), .val (.ref dst), .val (.int (1 : Int32)), .val (.int (2 : Int32)), .val (.int (1 : Int32)), .val (.int c0)] [])) _
    refine own_go (fun t k => XS.aloadN X2z.here hx rfl (hb hby d_jdk_52_method_21_code_10) rfl rfl k) ?_
    refine own_go (fun t k => XS.iloadN X2z.here hx rfl (hb hby d_jdk_52_method_21_code_11) rfl k) ?_
    refine own_go (own_ldC X2z hx hZ e2z (q1.other W2z nad) (i := 1) (v := (.int c1)) (by decide) rfl (g := (mkF m 12 #[.val (.ref arr), .val (.int (1 : Int32)), .val (.ref dst), .val (.int (1 : Int32)), .val (.int (2 : Int32)), .val (.int (1 : Int32)), .val (.int c0)] [(.int (1 : Int32)), (.ref arr)])) rfl rfl (hb hby d_jdk_52_method_21_code_12)) ?_
    show own_G p e below (T2z.setTop (mkF m 13 #[.val (.ref arr), .val (.int (1 : Int32)), .val (.ref dst), .val (.int (1 : Int32)), .val (.int (2 : Int32)), .val (.int (1 : Int32)), .val (.int c0)] [(.int c1)])) _
    refine own_go (fun t k => XS.istore X2z.here hx rfl (hb hby d_jdk_52_method_21_code_13) rfl (l' := #[.val (.ref arr), .val (.int (1 : Int32)), .val (.ref dst), .val (.int (1 : Int32)), .val (.int (2 : Int32)), .val (.int (1 : Int32)), .val (.int c1)]) rfl k) ?_
    refine own_go (fun t k => XS.iload X2z.here hx rfl (hb hby d_jdk_52_method_21_code_15) rfl k) ?_
    refine own_go (fun t k => XS.sipush X2z.here hx rfl (hb hby d_jdk_52_method_21_code_17) k) ?_
    show own_G p e below (T2z.setTop (mkF m 20 #[.val (.ref arr), .val (.int (1 : Int32)), .val (.ref dst), .val (.int (1 : Int32)), .val (.int (2 : Int32)), .val (.int (1 : Int32)), .val (.int c1)] [(.int (255 : Int32)), (.int c1)])) _
    by_cases hc4z : (255 : Int32) < c1
    · refine own_go (fun t k => XS.icmpNo X2z.here hx rfl (hb hby d_jdk_52_method_21_code_20) rfl (tlt hc4z).2.2.2 k) ?_
      show own_G p e below (T2z.setTop (mkF m 23 #[.val (.ref arr), .val (.int (1 : Int32)), .val (.ref dst), .val (.int (1 : Int32)), .val (.int (2 : Int32)), .val (.int (1 : Int32)), .val (.int c1)] [])) _
      refine own_go (fun t k => XS.iload X2z.here hx rfl (hb hby d_jdk_52_method_21_code_23) rfl k) ?_
      exact own_ret X2z hx Bd.returns rfl (Or.inl ⟨rfl, Or.inl rfl, _, rfl⟩) (hb hby d_jdk_52_method_21_code_25) hlk (Nat.le_of_ble_eq_true rfl) (Nat.le_of_ble_eq_true rfl) (by show Q_own_ci2 Z arr kk dst kd c0 c1 h0 _ T2z.heap _; rw [e2z]; exact ⟨[(.int (own_lb c0)), (.int (0 : Int32))], (congrArg (fun k : Nat => some (Value.int (Int32.ofNat k))) (((own_cntN_miss hc1z).trans (congrArg (· + 1) (own_cntN_hit hc4z))) : own_cntN [c0, c1] = 1).symm), N2z, K3z, V2z, (fun q => absurd q (by unfold own_cnt; rw [(((own_cntN_miss hc1z).trans (congrArg (· + 1) (own_cntN_hit hc4z))) : own_cntN [c0, c1] = 1)]; decide))⟩)
    · refine own_go (fun t k => XS.icmpYes X2z.here hx rfl (pc0 := 20) (pc' := 26) rfl (hb hby d_jdk_52_method_21_code_20) rfl (flt hc4z).2.2.2 (by decide) (by decide) k) ?_
      show own_G p e below (T2z.setTop (mkF m 26 #[.val (.ref arr), .val (.int (1 : Int32)), .val (.ref dst), .val (.int (1 : Int32)), .val (.int (2 : Int32)), .val (.int (1 : Int32)), .val (.int c1)] [])) _
      refine own_go (fun t k => XS.aloadN X2z.here hx rfl (hb hby d_jdk_52_method_21_code_26) rfl rfl k) ?_
      refine own_go (fun t k => XS.iloadN X2z.here hx rfl (hb hby d_jdk_52_method_21_code_27) rfl k) ?_
      refine own_go (fun t k => XS.iload X2z.here hx rfl (hb hby d_jdk_52_method_21_code_28) rfl k) ?_
      show own_G p e below (T2z.setTop (mkF m 30 #[.val (.ref arr), .val (.int (1 : Int32)), .val (.ref dst), .val (.int (1 : Int32)), .val (.int (2 : Int32)), .val (.int (1 : Int32)), .val (.int c1)] [(.int c1), (.int (1 : Int32)), (.ref dst)])) _
      refine own_go (fun t k => XS.i2b X2z.here hx rfl (hb hby d_jdk_52_method_21_code_30) rfl k) ?_
      obtain ⟨T5z, h5z, X5z, e5z, W5z, V5z, st5z⟩ := own_stB X2z hx hZ e2z V2z (i := 1) (y := (own_lb c1)) (own_nar8 _) (by decide) (Nat.le_of_ble_eq_true rfl) (g := (mkF m 31 #[.val (.ref arr), .val (.int (1 : Int32)), .val (.ref dst), .val (.int (1 : Int32)), .val (.int (2 : Int32)), .val (.int (1 : Int32)), .val (.int c1)] [(.int ((c1).toInt8.toInt32)), (.int (1 : Int32)), (.ref dst)])) rfl rfl (hb hby d_jdk_52_method_21_code_31)
      refine own_go st5z ?_
      have N5z := Fr.snoc X5z N2z q0
      have O6z := own_ext_wr O3z W5z q0
      have K6z := K3z.wr W5z (Or.inl (List.mem_of_getElem? (i := 0) rfl))
      have V5z : own_A Z h5z dst kd .byte [(.int (own_lb c0)), (.int (own_lb c1))] := V5z
      refine own_go (fun t k => XS.iinc X5z.here hx rfl (hb hby d_jdk_52_method_21_code_32) rfl (l' := #[.val (.ref arr), .val (.int (2 : Int32)), .val (.ref dst), .val (.int (1 : Int32)), .val (.int (2 : Int32)), .val (.int (1 : Int32)), .val (.int c1)]) rfl k) ?_
      show own_G p e below (T5z.setTop (mkF m 35 #[.val (.ref arr), .val (.int (2 : Int32)), .val (.ref dst), .val (.int (1 : Int32)), .val (.int (2 : Int32)), .val (.int (1 : Int32)), .val (.int c1)] [])) _
      refine own_go (fun t k => XS.iinc X5z.here hx rfl (hb hby d_jdk_52_method_21_code_35) rfl (l' := #[.val (.ref arr), .val (.int (2 : Int32)), .val (.ref dst), .val (.int (2 : Int32)), .val (.int (2 : Int32)), .val (.int (1 : Int32)), .val (.int c1)]) rfl k) ?_
      refine own_go (fun t k => XS.iinc X5z.here hx rfl (hb hby d_jdk_52_method_21_code_38) rfl (l' := #[.val (.ref arr), .val (.int (2 : Int32)), .val (.ref dst), .val (.int (2 : Int32)), .val (.int (2 : Int32)), .val (.int (2 : Int32)), .val (.int c1)]) rfl k) ?_
      refine own_go (fun t k => XS.goto X5z.here hx rfl (pc0 := 41) (pc' := 3) rfl (hb hby d_jdk_52_method_21_code_41) (by decide) (by decide) k) ?_
      show own_G p e below (T5z.setTop (mkF m 3 #[.val (.ref arr), .val (.int (2 : Int32)), .val (.ref dst), .val (.int (2 : Int32)), .val (.int (2 : Int32)), .val (.int (2 : Int32)), .val (.int c1)] [])) _
      refine own_go (fun t k => XS.iload X5z.here hx rfl (hb hby d_jdk_52_method_21_code_3) rfl k) ?_
      refine own_go (fun t k => XS.iload X5z.here hx rfl (hb hby d_jdk_52_method_21_code_5) rfl k) ?_
      refine own_go (fun t k => XS.icmpYes X5z.here hx rfl (pc0 := 7) (pc' := 44) rfl (hb hby d_jdk_52_method_21_code_7) rfl (flt (by decide : ¬ ((2 : Int32) < (2 : Int32)))).2.1 (by decide) (by decide) k) ?_
      show own_G p e below (T5z.setTop (mkF m 44 #[.val (.ref arr), .val (.int (2 : Int32)), .val (.ref dst), .val (.int (2 : Int32)), .val (.int (2 : Int32)), .val (.int (2 : Int32)), .val (.int c1)] [])) _
      refine own_go (fun t k => XS.iload X5z.here hx rfl (hb hby d_jdk_52_method_21_code_44) rfl k) ?_
      exact own_ret X5z hx Bd.returns rfl (Or.inl ⟨rfl, Or.inl rfl, _, rfl⟩) (hb hby d_jdk_52_method_21_code_46) hlk (Nat.le_of_ble_eq_true rfl) (Nat.le_of_ble_eq_true rfl) (by show Q_own_ci2 Z arr kk dst kd c0 c1 h0 _ T5z.heap _; rw [e5z]; exact ⟨[(.int (own_lb c0)), (.int (own_lb c1))], (congrArg (fun k : Nat => some (Value.int (Int32.ofNat k))) (((own_cntN_miss hc1z).trans (congrArg (· + 1) ((own_cntN_miss hc4z).trans (congrArg (· + 1) (rfl : own_cntN [] = 0))))) : own_cntN [c0, c1] = 2).symm), N5z, K6z, V5z, (fun _ => rfl)⟩)
theorem ef_own_tb3 (m : MethodId) (x0 : Addr) (x1 : Int32) (x2 : Int32) : entryFrame m #[(.ref x0), (.int x1), (.int x2)] 5 = mkF m 0 #[.val (.ref x0), .val (.int x1), .val (.int x2), .unset, .unset] [] := by first | (simp [entryFrame, mkF, argsToLocals, Value.category]; done) | rfl
theorem pf_own_tb3 : plainFor own_m21 = true := plainFor_of_name (by simp [plainName, overriddenIn])
def Q_own_tb3 (Z : State) (arr : Addr) (kk : ClassId) (c0 : Int32) (c1 : Int32) (c2 : Int32) (h0 : Heap) (v : Option Value) (h : Heap) (L : List Loc) : Prop := ∃ b : Addr, ∃ kb : ClassId, v = some (.ref b) ∧ Fr Z.heap.size L ∧ Keep h0 h [] ∧ (own_A Z h b kb .byte [(.int (own_lo c0)), (.int (own_hi c0)), (.int (own_lo c1)), (.int (own_hi c1)), (.int (own_lo c2)), (.int (own_hi c2))]) ∧ (Z.heap.size ≤ b) ∧ (h0.size ≤ b)
set_option maxRecDepth 65536 in
set_option maxHeartbeats 40000000 in
theorem own_tb3 (l : Launch) (Z : State) (a0 : Array Value) (hw : ∀ d ∈ tables_1, d.before a0 Z = true) (ws : List Jvm.Cond) (arr : Addr) (kk : ClassId) (c0 : Int32) (c1 : Int32) (c2 : Int32) (h0 : Heap) (O0 : Ext Z.heap h0) (q0 : own_A Z h0 arr kk .char [(.int c0), (.int c1), (.int c2)]) (S_AD : Sta Z Z.heap own_s0 own_s4 "Z" (.int (1 : Int32))) (S_HI : Sta Z Z.heap own_s0 "HI_BYTE_SHIFT" "I" (.int (0 : Int32))) (S_LO : Sta Z Z.heap own_s0 "LO_BYTE_SHIFT" "I" (.int (8 : Int32))) :
    MetFree l own_m21 (head1 (Jvm.Cond.code own_m21 jdk_52_method_14_code 5 (some (.array .byte)) :: ws) ({ frames := 2, cells := 1, slots := 6, locals := 24 } : Room)) (fun aa U => aa = #[(.ref arr), (.int (0 : Int32)), (.int (3 : Int32))] ∧ Z.Warmed39 U.vm ∧ U.heap = h0) (fun _ _ _ _ _ => True) (fun _ U o U' => ∃ v L, o = .returned v ∧ Q_own_tb3 Z arr kk c0 c1 c2 h0 v U'.heap L ∧ FrameEnd U o U' L ({ frames := 2, cells := 1, slots := 6, locals := 24 } : Room).cells ({ frames := 2, cells := 1, slots := 6, locals := 24 } : Room).slots) := by
  refine MetFree.of_bodySF pf_own_tb3 hisR ?_
  intro p e s m args below meth c s₁ Bd hml0 hP hK
  obtain ⟨rfl, hZ, hh⟩ := hP
  have hx := Bd.exec
  have hby := Bd.bytes
  have hlk := BodyLoose.notSynchronized Bd
  have hml : c.maxLocals = 5 := hml0
  have hown : s.vm.findClass own_s0 = some m.cls := findClass_of_methodNamed Bd.named
  have hnm := (name_of_methodNamed Bd.named Bd.method).1
  have X0 : Stand p l e ({ frames := 2, cells := 1, slots := 6, locals := 24 } : Room) s m #[(.ref arr), (.int (0 : Int32)), (.int (3 : Int32))] below meth c s₁ [] 0 0 := Stand.of_body Bd
  have e0 : s₁.heap = h0 := by rw [← hh, Bd.state]; rfl
  have N0 := Fr.nil Z.heap.size
  have K0 : Keep h0 h0 [] := Keep.refl _ _
  refine own_start (Q := Q_own_tb3 Z arr kk c0 c1 c2 h0) (ef_own_tb3 m (arr) ((0 : Int32)) ((3 : Int32))) ?_
  show own_G p e below (s₁.setTop (mkF m 0 #[.val (.ref arr), .val (.int (0 : Int32)), .val (.int (3 : Int32)), .unset, .unset] [])) _
  refine own_go (fun t k => XS.iloadN X0.here hx rfl (hb hby d_jdk_52_method_14_code_0) rfl k) ?_
  obtain ⟨_, _, ⟨T1z, L1z, k1z, n1z⟩, -, X1z, ⟨Lc1z, hQ1z, l1z, y1z, z1z⟩, st1z⟩ := Jvm.LawKit.callS X0 hx (y := own_m19) hown (own_mw hZ hw 74 rfl) (own_mw hZ hw 75 rfl) (own_mw hZ hw 65 rfl) (own_mw hZ hw 76 rfl) (by decide) (backOf (W := 0) (own_nbf3 l Z a0 hw [] h0 O0) hZ (own_hw hw 76 rfl) (own_hw hw 65 rfl) (by decide) (by decide)) (g := (mkF m 1 #[.val (.ref arr), .val (.int (0 : Int32)), .val (.int (3 : Int32)), .unset, .unset] [(.int (3 : Int32))])) rfl (by rw [hml]; rfl) (argsL := [(.int (3 : Int32))]) (rest := []) (lenOf pd_184260188 rfl) rfl (by show 2 * 0 + _ ≤ _; exact Nat.le_of_eq rfl) (hb hby d_jdk_52_method_14_code_1) (fun _ _ => ⟨rfl, e0, (by decide : 0 + 1 ≤ _), (by decide : 0 + 6 ≤ _)⟩)
  dsimp only [Pt.U, Pt.locs, Pt.cells, Pt.slots] at X1z l1z y1z z1z st1z hQ1z
  subst l1z y1z z1z
  obtain ⟨b_1z, kb_1z, rfl, NQ1z, K1zq, r1z_0, r1z_1, r1z_2⟩ := hQ1z
  refine own_go st1z ?_
  have N1z := Fr.app N0 NQ1z
  have O2z := own_ext_keep O0 K1zq all0
  have K2z := K0.trans K1zq all0
  have lz_b_1z : h0.size ≤ b_1z := Nat.le_trans K0.1 r1z_2
  have ne_arr_b_1z : arr ≠ b_1z := Nat.ne_of_lt (Nat.lt_of_lt_of_le q0.lt r1z_2)
  show own_G p e below (T1z.setTop (mkF m 4 #[.val (.ref arr), .val (.int (0 : Int32)), .val (.int (3 : Int32)), .unset, .unset] [(.ref b_1z)])) _
  refine own_go (fun t k => XS.astoreN X1z.here hx rfl (hb hby d_jdk_52_method_14_code_4) rfl rfl (l' := #[.val (.ref arr), .val (.int (0 : Int32)), .val (.int (3 : Int32)), .val (.ref b_1z), .unset]) rfl k) ?_
  refine own_go (fun t k => XS.iconst X1z.here hx rfl (hb hby d_jdk_52_method_14_code_5) k) ?_
  refine own_go (fun t k => XS.istore X1z.here hx rfl (hb hby d_jdk_52_method_14_code_6) rfl (l' := #[.val (.ref arr), .val (.int (0 : Int32)), .val (.int (3 : Int32)), .val (.ref b_1z), .val (.int (0 : Int32))]) rfl k) ?_
  show own_G p e below (T1z.setTop (mkF m 8 #[.val (.ref arr), .val (.int (0 : Int32)), .val (.int (3 : Int32)), .val (.ref b_1z), .val (.int (0 : Int32))] [])) _
  refine own_go (fun t k => XS.iload X1z.here hx rfl (hb hby d_jdk_52_method_14_code_8) rfl k) ?_
  refine own_go (fun t k => XS.iloadN X1z.here hx rfl (hb hby d_jdk_52_method_14_code_10) rfl k) ?_
  refine own_go (fun t k => XS.icmpNo X1z.here hx rfl (hb hby d_jdk_52_method_14_code_11) rfl (tlt (by decide : (0 : Int32) < (3 : Int32))).2.1 k) ?_
  show own_G p e below (T1z.setTop (mkF m 14 #[.val (.ref arr), .val (.int (0 : Int32)), .val (.int (3 : Int32)), .val (.ref b_1z), .val (.int (0 : Int32))] [])) _
  refine own_go (fun t k => XS.aloadN X1z.here hx rfl (hb hby d_jdk_52_method_14_code_14) rfl rfl k) ?_
  refine own_go (fun t k => XS.iload X1z.here hx rfl (hb hby d_jdk_52_method_14_code_15) rfl k) ?_
  refine own_go (fun t k => XS.aloadN X1z.here hx rfl (hb hby d_jdk_52_method_14_code_17) rfl rfl k) ?_
  show own_G p e below (T1z.setTop (mkF m 18 #[.val (.ref arr), .val (.int (0 : Int32)), .val (.int (3 : Int32)), .val (.ref b_1z), .val (.int (0 : Int32))] [(.ref arr), (.int (0 : Int32)), (.ref b_1z)])) _
  refine own_go (fun t k => XS.iloadN X1z.here hx rfl (hb hby d_jdk_52_method_14_code_18) rfl k) ?_
  refine own_go (own_ldC X1z hx hZ rfl (q0.keep K1zq (by simp)) (i := 0) (v := (.int c0)) (by decide) rfl (g := (mkF m 19 #[.val (.ref arr), .val (.int (0 : Int32)), .val (.int (3 : Int32)), .val (.ref b_1z), .val (.int (0 : Int32))] [(.int (0 : Int32)), (.ref arr), (.int (0 : Int32)), (.ref b_1z)])) rfl rfl (hb hby d_jdk_52_method_14_code_19)) ?_
  obtain ⟨_, _, ⟨T3z, L3z, k3z, n3z⟩, -, X3z, ⟨Lc3z, hQ3z, l3z, y3z, z3z⟩, st3z⟩ := Jvm.LawKit.callS X1z hx (y := own_m20) hown (own_mw hZ hw 81 rfl) (own_mw hZ hw 82 rfl) (own_mw hZ hw 65 rfl) (own_mw hZ hw 83 rfl) (by decide) (backOf (W := 0) (own_pc0 l Z a0 hw [] b_1z kb_1z ([(.int (0 : Int32)), (.int (0 : Int32)), (.int (0 : Int32)), (.int (0 : Int32)), (.int (0 : Int32)), (.int (0 : Int32))]) c0 T1z.heap O2z r1z_1 r1z_0 (by simp) S_AD S_HI S_LO) hZ (own_hw hw 83 rfl) (own_hw hw 65 rfl) (by decide) (by decide)) (g := (mkF m 20 #[.val (.ref arr), .val (.int (0 : Int32)), .val (.int (3 : Int32)), .val (.ref b_1z), .val (.int (0 : Int32))] [(.int c0), (.int (0 : Int32)), (.ref b_1z)])) rfl (by rw [hml]; rfl) (argsL := [(.ref b_1z), (.int (0 : Int32)), (.int c0)]) (rest := []) (lenOf pd_3824296411 rfl) rfl (by show 2 * 0 + _ ≤ _; exact Nat.le_of_eq rfl) (hb hby d_jdk_52_method_14_code_20) (fun _ _ => ⟨rfl, rfl, (by decide : 1 + 0 ≤ _), (by decide : 6 + 0 ≤ _)⟩)
  dsimp only [Pt.U, Pt.locs, Pt.cells, Pt.slots] at X3z l3z y3z z3z st3z hQ3z
  subst l3z y3z z3z
  obtain ⟨rfl, NQ3z, K3zq, r3z_0⟩ := hQ3z
  refine own_go st3z ?_
  have N3z := Fr.app N1z NQ3z
  have O4z := own_ext_keep O2z K3zq (allS r1z_1 all0)
  have K4z := K2z.trans K3zq (allS (Or.inr lz_b_1z) all0)
  have r3z_0 : own_A Z T3z.heap b_1z kb_1z .byte [(.int (own_lo c0)), (.int (own_hi c0)), (.int (0 : Int32)), (.int (0 : Int32)), (.int (0 : Int32)), (.int (0 : Int32))] := r3z_0
  show own_G p e below (T3z.setTop (mkF m 23 #[.val (.ref arr), .val (.int (0 : Int32)), .val (.int (3 : Int32)), .val (.ref b_1z), .val (.int (0 : Int32))] [])) _
  refine own_go (fun t k => XS.iinc X3z.here hx rfl (hb hby d_jdk_52_method_14_code_23) rfl (l' := #[.val (.ref arr), .val (.int (1 : Int32)), .val (.int (3 : Int32)), .val (.ref b_1z), .val (.int (0 : Int32))]) rfl k) ?_
  refine own_go (fun t k => XS.iinc X3z.here hx rfl (hb hby d_jdk_52_method_14_code_26) rfl (l' := #[.val (.ref arr), .val (.int (1 : Int32)), .val (.int (3 : Int32)), .val (.ref b_1z), .val (.int (1 : Int32))]) rfl k) ?_
  refine own_go (fun t k => XS.goto X3z.here hx rfl (pc0 := 29) (pc' := 8) rfl (hb hby d_jdk_52_method_14_code_29) (by decide) (by decide) k) ?_
  show own_G p e below (T3z.setTop (mkF m 8 #[.val (.ref arr), .val (.int (1 : Int32)), .val (.int (3 : Int32)), .val (.ref b_1z), .val (.int (1 : Int32))] [])) _
  refine own_go (fun t k => XS.iload X3z.here hx rfl (hb hby d_jdk_52_method_14_code_8) rfl k) ?_
  refine own_go (fun t k => XS.iloadN X3z.here hx rfl (hb hby d_jdk_52_method_14_code_10) rfl k) ?_
  refine own_go (fun t k => XS.icmpNo X3z.here hx rfl (hb hby d_jdk_52_method_14_code_11) rfl (tlt (by decide : (1 : Int32) < (3 : Int32))).2.1 k) ?_
  show own_G p e below (T3z.setTop (mkF m 14 #[.val (.ref arr), .val (.int (1 : Int32)), .val (.int (3 : Int32)), .val (.ref b_1z), .val (.int (1 : Int32))] [])) _
  refine own_go (fun t k => XS.aloadN X3z.here hx rfl (hb hby d_jdk_52_method_14_code_14) rfl rfl k) ?_
  refine own_go (fun t k => XS.iload X3z.here hx rfl (hb hby d_jdk_52_method_14_code_15) rfl k) ?_
  refine own_go (fun t k => XS.aloadN X3z.here hx rfl (hb hby d_jdk_52_method_14_code_17) rfl rfl k) ?_
  show own_G p e below (T3z.setTop (mkF m 18 #[.val (.ref arr), .val (.int (1 : Int32)), .val (.int (3 : Int32)), .val (.ref b_1z), .val (.int (1 : Int32))] [(.ref arr), (.int (1 : Int32)), (.ref b_1z)])) _
  refine own_go (fun t k => XS.iloadN X3z.here hx rfl (hb hby d_jdk_52_method_14_code_18) rfl k) ?_
  have f5z := ((q0.keep K1zq (by simp)).keep K3zq (by simp only [List.mem_cons, List.not_mem_nil, or_false, not_or]; exact ne_arr_b_1z))
  refine own_go (own_ldC X3z hx hZ rfl f5z (i := 1) (v := (.int c1)) (by decide) rfl (g := (mkF m 19 #[.val (.ref arr), .val (.int (1 : Int32)), .val (.int (3 : Int32)), .val (.ref b_1z), .val (.int (1 : Int32))] [(.int (1 : Int32)), (.ref arr), (.int (1 : Int32)), (.ref b_1z)])) rfl rfl (hb hby d_jdk_52_method_14_code_19)) ?_
  obtain ⟨_, _, ⟨T6z, L6z, k6z, n6z⟩, -, X6z, ⟨Lc6z, hQ6z, l6z, y6z, z6z⟩, st6z⟩ := Jvm.LawKit.callS X3z hx (y := own_m20) hown (own_mw hZ hw 81 rfl) (own_mw hZ hw 82 rfl) (own_mw hZ hw 65 rfl) (own_mw hZ hw 83 rfl) (by decide) (backOf (W := 0) (own_pc1 l Z a0 hw [] b_1z kb_1z ([(.int (own_lo c0)), (.int (own_hi c0)), (.int (0 : Int32)), (.int (0 : Int32)), (.int (0 : Int32)), (.int (0 : Int32))]) c1 T3z.heap O4z r1z_1 r3z_0 (by simp) S_AD S_HI S_LO) hZ (own_hw hw 83 rfl) (own_hw hw 65 rfl) (by decide) (by decide)) (g := (mkF m 20 #[.val (.ref arr), .val (.int (1 : Int32)), .val (.int (3 : Int32)), .val (.ref b_1z), .val (.int (1 : Int32))] [(.int c1), (.int (1 : Int32)), (.ref b_1z)])) rfl (by rw [hml]; rfl) (argsL := [(.ref b_1z), (.int (1 : Int32)), (.int c1)]) (rest := []) (lenOf pd_3824296411 rfl) rfl (by show 2 * 0 + _ ≤ _; exact Nat.le_of_eq rfl) (hb hby d_jdk_52_method_14_code_20) (fun _ _ => ⟨rfl, rfl, (by decide : 1 + 0 ≤ _), (by decide : 6 + 0 ≤ _)⟩)
  dsimp only [Pt.U, Pt.locs, Pt.cells, Pt.slots] at X6z l6z y6z z6z st6z hQ6z
  subst l6z y6z z6z
  obtain ⟨rfl, NQ6z, K6zq, r6z_0⟩ := hQ6z
  refine own_go st6z ?_
  have N6z := Fr.app N3z NQ6z
  have O7z := own_ext_keep O4z K6zq (allS r1z_1 all0)
  have K7z := K4z.trans K6zq (allS (Or.inr lz_b_1z) all0)
  have r6z_0 : own_A Z T6z.heap b_1z kb_1z .byte [(.int (own_lo c0)), (.int (own_hi c0)), (.int (own_lo c1)), (.int (own_hi c1)), (.int (0 : Int32)), (.int (0 : Int32))] := r6z_0
  show own_G p e below (T6z.setTop (mkF m 23 #[.val (.ref arr), .val (.int (1 : Int32)), .val (.int (3 : Int32)), .val (.ref b_1z), .val (.int (1 : Int32))] [])) _
  refine own_go (fun t k => XS.iinc X6z.here hx rfl (hb hby d_jdk_52_method_14_code_23) rfl (l' := #[.val (.ref arr), .val (.int (2 : Int32)), .val (.int (3 : Int32)), .val (.ref b_1z), .val (.int (1 : Int32))]) rfl k) ?_
  refine own_go (fun t k => XS.iinc X6z.here hx rfl (hb hby d_jdk_52_method_14_code_26) rfl (l' := #[.val (.ref arr), .val (.int (2 : Int32)), .val (.int (3 : Int32)), .val (.ref b_1z), .val (.int (2 : Int32))]) rfl k) ?_
  refine own_go (fun t k => XS.goto X6z.here hx rfl (pc0 := 29) (pc' := 8) rfl (hb hby d_jdk_52_method_14_code_29) (by decide) (by decide) k) ?_
  show own_G p e below (T6z.setTop (mkF m 8 #[.val (.ref arr), .val (.int (2 : Int32)), .val (.int (3 : Int32)), .val (.ref b_1z), .val (.int (2 : Int32))] [])) _
  refine own_go (fun t k => XS.iload X6z.here hx rfl (hb hby d_jdk_52_method_14_code_8) rfl k) ?_
  refine own_go (fun t k => XS.iloadN X6z.here hx rfl (hb hby d_jdk_52_method_14_code_10) rfl k) ?_
  refine own_go (fun t k => XS.icmpNo X6z.here hx rfl (hb hby d_jdk_52_method_14_code_11) rfl (tlt (by decide : (2 : Int32) < (3 : Int32))).2.1 k) ?_
  show own_G p e below (T6z.setTop (mkF m 14 #[.val (.ref arr), .val (.int (2 : Int32)), .val (.int (3 : Int32)), .val (.ref b_1z), .val (.int (2 : Int32))] [])) _
  refine own_go (fun t k => XS.aloadN X6z.here hx rfl (hb hby d_jdk_52_method_14_code_14) rfl rfl k) ?_
  refine own_go (fun t k => XS.iload X6z.here hx rfl (hb hby d_jdk_52_method_14_code_15) rfl k) ?_
  refine own_go (fun t k => XS.aloadN X6z.here hx rfl (hb hby d_jdk_52_method_14_code_17) rfl rfl k) ?_
  show own_G p e below (T6z.setTop (mkF m 18 #[.val (.ref arr), .val (.int (2 : Int32)), .val (.int (3 : Int32)), .val (.ref b_1z), .val (.int (2 : Int32))] [(.ref arr), (.int (2 : Int32)), (.ref b_1z)])) _
  refine own_go (fun t k => XS.iloadN X6z.here hx rfl (hb hby d_jdk_52_method_14_code_18) rfl k) ?_
  have f8z := (f5z.keep K6zq (by simp only [List.mem_cons, List.not_mem_nil, or_false, not_or]; exact ne_arr_b_1z))
  refine own_go (own_ldC X6z hx hZ rfl f8z (i := 2) (v := (.int c2)) (by decide) rfl (g := (mkF m 19 #[.val (.ref arr), .val (.int (2 : Int32)), .val (.int (3 : Int32)), .val (.ref b_1z), .val (.int (2 : Int32))] [(.int (2 : Int32)), (.ref arr), (.int (2 : Int32)), (.ref b_1z)])) rfl rfl (hb hby d_jdk_52_method_14_code_19)) ?_
  obtain ⟨_, _, ⟨T9z, L9z, k9z, n9z⟩, -, X9z, ⟨Lc9z, hQ9z, l9z, y9z, z9z⟩, st9z⟩ := Jvm.LawKit.callS X6z hx (y := own_m20) hown (own_mw hZ hw 81 rfl) (own_mw hZ hw 82 rfl) (own_mw hZ hw 65 rfl) (own_mw hZ hw 83 rfl) (by decide) (backOf (W := 0) (own_pc2 l Z a0 hw [] b_1z kb_1z ([(.int (own_lo c0)), (.int (own_hi c0)), (.int (own_lo c1)), (.int (own_hi c1)), (.int (0 : Int32)), (.int (0 : Int32))]) c2 T6z.heap O7z r1z_1 r6z_0 (by simp) S_AD S_HI S_LO) hZ (own_hw hw 83 rfl) (own_hw hw 65 rfl) (by decide) (by decide)) (g := (mkF m 20 #[.val (.ref arr), .val (.int (2 : Int32)), .val (.int (3 : Int32)), .val (.ref b_1z), .val (.int (2 : Int32))] [(.int c2), (.int (2 : Int32)), (.ref b_1z)])) rfl (by rw [hml]; rfl) (argsL := [(.ref b_1z), (.int (2 : Int32)), (.int c2)]) (rest := []) (lenOf pd_3824296411 rfl) rfl (by show 2 * 0 + _ ≤ _; exact Nat.le_of_eq rfl) (hb hby d_jdk_52_method_14_code_20) (fun _ _ => ⟨rfl, rfl, (by decide : 1 + 0 ≤ _), (by decide : 6 + 0 ≤ _)⟩)
  dsimp only [Pt.U, Pt.locs, Pt.cells, Pt.slots] at X9z l9z y9z z9z st9z hQ9z
  subst l9z y9z z9z
  obtain ⟨rfl, NQ9z, K9zq, r9z_0⟩ := hQ9z
  refine own_go st9z ?_
  have N9z := Fr.app N6z NQ9z
  have O10z := own_ext_keep O7z K9zq (allS r1z_1 all0)
  have K10z := K7z.trans K9zq (allS (Or.inr lz_b_1z) all0)
  have r9z_0 : own_A Z T9z.heap b_1z kb_1z .byte [(.int (own_lo c0)), (.int (own_hi c0)), (.int (own_lo c1)), (.int (own_hi c1)), (.int (own_lo c2)), (.int (own_hi c2))] := r9z_0
  show own_G p e below (T9z.setTop (mkF m 23 #[.val (.ref arr), .val (.int (2 : Int32)), .val (.int (3 : Int32)), .val (.ref b_1z), .val (.int (2 : Int32))] [])) _
  refine own_go (fun t k => XS.iinc X9z.here hx rfl (hb hby d_jdk_52_method_14_code_23) rfl (l' := #[.val (.ref arr), .val (.int (3 : Int32)), .val (.int (3 : Int32)), .val (.ref b_1z), .val (.int (2 : Int32))]) rfl k) ?_
  refine own_go (fun t k => XS.iinc X9z.here hx rfl (hb hby d_jdk_52_method_14_code_26) rfl (l' := #[.val (.ref arr), .val (.int (3 : Int32)), .val (.int (3 : Int32)), .val (.ref b_1z), .val (.int (3 : Int32))]) rfl k) ?_
  refine own_go (fun t k => XS.goto X9z.here hx rfl (pc0 := 29) (pc' := 8) rfl (hb hby d_jdk_52_method_14_code_29) (by decide) (by decide) k) ?_
  show own_G p e below (T9z.setTop (mkF m 8 #[.val (.ref arr), .val (.int (3 : Int32)), .val (.int (3 : Int32)), .val (.ref b_1z), .val (.int (3 : Int32))] [])) _
  refine own_go (fun t k => XS.iload X9z.here hx rfl (hb hby d_jdk_52_method_14_code_8) rfl k) ?_
  refine own_go (fun t k => XS.iloadN X9z.here hx rfl (hb hby d_jdk_52_method_14_code_10) rfl k) ?_
  refine own_go (fun t k => XS.icmpYes X9z.here hx rfl (pc0 := 11) (pc' := 32) rfl (hb hby d_jdk_52_method_14_code_11) rfl (flt (by decide : ¬ ((3 : Int32) < (3 : Int32)))).2.1 (by decide) (by decide) k) ?_
  show own_G p e below (T9z.setTop (mkF m 32 #[.val (.ref arr), .val (.int (3 : Int32)), .val (.int (3 : Int32)), .val (.ref b_1z), .val (.int (3 : Int32))] [])) _
  refine own_go (fun t k => XS.aloadN X9z.here hx rfl (hb hby d_jdk_52_method_14_code_32) rfl rfl k) ?_
  exact own_ret X9z hx Bd.returns rfl (Or.inr (Or.inr (Or.inr (Or.inr ⟨rfl, rfl, rfl⟩)))) (hb hby d_jdk_52_method_14_code_33) hlk (Nat.le_of_ble_eq_true rfl) (Nat.le_of_ble_eq_true rfl) (by show Q_own_tb3 Z arr kk c0 c1 c2 h0 _ T9z.heap _; exact ⟨b_1z, kb_1z, rfl, N9z, K10z, r9z_0, r1z_1, lz_b_1z⟩)
theorem ef_own_ci3 (m : MethodId) (x0 : Addr) (x1 : Int32) (x2 : Addr) (x3 : Int32) (x4 : Int32) : entryFrame m #[(.ref x0), (.int x1), (.ref x2), (.int x3), (.int x4)] 7 = mkF m 0 #[.val (.ref x0), .val (.int x1), .val (.ref x2), .val (.int x3), .val (.int x4), .unset, .unset] [] := by first | (simp [entryFrame, mkF, argsToLocals, Value.category]; done) | rfl
theorem pf_own_ci3 : plainFor own_m22 = true := plainFor_of_name (by simp [plainName, overriddenIn])
def Q_own_ci3 (Z : State) (arr : Addr) (kk : ClassId) (dst : Addr) (kd : ClassId) (c0 : Int32) (c1 : Int32) (c2 : Int32) (h0 : Heap) (v : Option Value) (h : Heap) (L : List Loc) : Prop := ∃ vs : (List Value), v = some (.int (own_cnt [c0, c1, c2])) ∧ Fr Z.heap.size L ∧ Keep h0 h [dst] ∧ (own_A Z h dst kd .byte vs) ∧ (own_cnt [c0, c1, c2] = (3 : Int32) → vs = own_lat [c0, c1, c2])
set_option maxRecDepth 65536 in
set_option maxHeartbeats 40000000 in
theorem own_ci3 (l : Launch) (Z : State) (a0 : Array Value) (hw : ∀ d ∈ tables_1, d.before a0 Z = true) (ws : List Jvm.Cond) (arr : Addr) (kk : ClassId) (dst : Addr) (kd : ClassId) (c0 : Int32) (c1 : Int32) (c2 : Int32) (h0 : Heap) (O0 : Ext Z.heap h0) (q0 : Z.heap.size ≤ dst) (q1 : own_A Z h0 arr kk .char [(.int c0), (.int c1), (.int c2)]) (q2 : own_A Z h0 dst kd .byte [(.int (0 : Int32)), (.int (0 : Int32)), (.int (0 : Int32))]) (nad : arr ≠ dst) :
    MetFree l own_m22 (head1 (Jvm.Cond.code own_m22 jdk_52_method_21_code 7 (some .int) :: ws) ({ frames := 0, cells := 0, slots := 0, locals := 0 } : Room)) (fun aa U => aa = #[(.ref arr), (.int (0 : Int32)), (.ref dst), (.int (0 : Int32)), (.int (3 : Int32))] ∧ Z.Warmed39 U.vm ∧ U.heap = h0) (fun _ _ _ _ _ => True) (fun _ U o U' => ∃ v L, o = .returned v ∧ Q_own_ci3 Z arr kk dst kd c0 c1 c2 h0 v U'.heap L ∧ FrameEnd U o U' L ({ frames := 0, cells := 0, slots := 0, locals := 0 } : Room).cells ({ frames := 0, cells := 0, slots := 0, locals := 0 } : Room).slots) := by
  refine MetFree.of_bodySF pf_own_ci3 hisR ?_
  intro p e s m args below meth c s₁ Bd hml0 hP hK
  obtain ⟨rfl, hZ, hh⟩ := hP
  have hx := Bd.exec
  have hby := Bd.bytes
  have hlk := BodyLoose.notSynchronized Bd
  have hml : c.maxLocals = 7 := hml0
  have hown : s.vm.findClass own_s0 = some m.cls := findClass_of_methodNamed Bd.named
  have hnm := (name_of_methodNamed Bd.named Bd.method).1
  have X0 : Stand p l e ({ frames := 0, cells := 0, slots := 0, locals := 0 } : Room) s m #[(.ref arr), (.int (0 : Int32)), (.ref dst), (.int (0 : Int32)), (.int (3 : Int32))] below meth c s₁ [] 0 0 := Stand.of_body Bd
  have e0 : s₁.heap = h0 := by rw [← hh, Bd.state]; rfl
  have N0 := Fr.nil Z.heap.size
  have K0 : Keep h0 h0 [dst] := Keep.refl _ _
  refine own_start (Q := Q_own_ci3 Z arr kk dst kd c0 c1 c2 h0) (ef_own_ci3 m (arr) ((0 : Int32)) (dst) ((0 : Int32)) ((3 : Int32))) ?_
  show own_G p e below (s₁.setTop (mkF m 0 #[.val (.ref arr), .val (.int (0 : Int32)), .val (.ref dst), .val (.int (0 : Int32)), .val (.int (3 : Int32)), .unset, .unset] [])) _
  refine own_go (fun t k => XS.iconst X0.here hx rfl (hb hby d_jdk_52_method_21_code_0) k) ?_
  refine own_go (fun t k => XS.istore X0.here hx rfl (hb hby d_jdk_52_method_21_code_1) rfl (l' := #[.val (.ref arr), .val (.int (0 : Int32)), .val (.ref dst), .val (.int (0 : Int32)), .val (.int (3 : Int32)), .val (.int (0 : Int32)), .unset]) rfl k) ?_
  refine own_go (fun t k => XS.iload X0.here hx rfl (hb hby d_jdk_52_method_21_code_3) rfl k) ?_
  show own_G p e below (s₁.setTop (mkF m 5 #[.val (.ref arr), .val (.int (0 : Int32)), .val (.ref dst), .val (.int (0 : Int32)), .val (.int (3 : Int32)), .val (.int (0 : Int32)), .unset] [(.int (0 : Int32))])) _
  refine own_go (fun t k => XS.iload X0.here hx rfl (hb hby d_jdk_52_method_21_code_5) rfl k) ?_
  refine own_go (fun t k => XS.icmpNo X0.here hx rfl (hb hby d_jdk_52_method_21_code_7) rfl (tlt (by decide : (0 : Int32) < (3 : Int32))).2.1 k) ?_
  show own_G p e below (s₁.setTop (mkF m 10 #[.val (.ref arr), .val (.int (0 : Int32)), .val (.ref dst), .val (.int (0 : Int32)), .val (.int (3 : Int32)), .val (.int (0 : Int32)), .unset] [])) _
  refine own_go (fun t k => XS.aloadN X0.here hx rfl (hb hby d_jdk_52_method_21_code_10) rfl rfl k) ?_
  refine own_go (fun t k => XS.iloadN X0.here hx rfl (hb hby d_jdk_52_method_21_code_11) rfl k) ?_
  refine own_go (own_ldC X0 hx hZ e0 q1 (i := 0) (v := (.int c0)) (by decide) rfl (g := (mkF m 12 #[.val (.ref arr), .val (.int (0 : Int32)), .val (.ref dst), .val (.int (0 : Int32)), .val (.int (3 : Int32)), .val (.int (0 : Int32)), .unset] [(.int (0 : Int32)), (.ref arr)])) rfl rfl (hb hby d_jdk_52_method_21_code_12)) ?_
  show own_G p e below (s₁.setTop (mkF m 13 #[.val (.ref arr), .val (.int (0 : Int32)), .val (.ref dst), .val (.int (0 : Int32)), .val (.int (3 : Int32)), .val (.int (0 : Int32)), .unset] [(.int c0)])) _
  refine own_go (fun t k => XS.istore X0.here hx rfl (hb hby d_jdk_52_method_21_code_13) rfl (l' := #[.val (.ref arr), .val (.int (0 : Int32)), .val (.ref dst), .val (.int (0 : Int32)), .val (.int (3 : Int32)), .val (.int (0 : Int32)), .val (.int c0)]) rfl k) ?_
  refine own_go (fun t k => XS.iload X0.here hx rfl (hb hby d_jdk_52_method_21_code_15) rfl k) ?_
  refine own_go (fun t k => XS.sipush X0.here hx rfl (hb hby d_jdk_52_method_21_code_17) k) ?_
  show own_G p e below (s₁.setTop (mkF m 20 #[.val (.ref arr), .val (.int (0 : Int32)), .val (.ref dst), .val (.int (0 : Int32)), .val (.int (3 : Int32)), .val (.int (0 : Int32)), .val (.int c0)] [(.int (255 : Int32)), (.int c0)])) _
  by_cases hc1z : (255 : Int32) < c0
  · refine own_go (fun t k => XS.icmpNo X0.here hx rfl (hb hby d_jdk_52_method_21_code_20) rfl (tlt hc1z).2.2.2 k) ?_
    show own_G p e below (s₁.setTop (mkF m 23 #[.val (.ref arr), .val (.int (0 : Int32)), .val (.ref dst), .val (.int (0 : Int32)), .val (.int (3 : Int32)), .val (.int (0 : Int32)), .val (.int c0)] [])) _
    refine own_go (fun t k => XS.iload X0.here hx rfl (hb hby d_jdk_52_method_21_code_23) rfl k) ?_
    exact own_ret X0 hx Bd.returns rfl (Or.inl ⟨rfl, Or.inl rfl, _, rfl⟩) (hb hby d_jdk_52_method_21_code_25) hlk (Nat.le_of_ble_eq_true rfl) (Nat.le_of_ble_eq_true rfl) (by show Q_own_ci3 Z arr kk dst kd c0 c1 c2 h0 _ s₁.heap _; rw [e0]; exact ⟨[(.int (0 : Int32)), (.int (0 : Int32)), (.int (0 : Int32))], (congrArg (fun k : Nat => some (Value.int (Int32.ofNat k))) ((own_cntN_hit hc1z) : own_cntN [c0, c1, c2] = 0).symm), N0, K0, q2, (fun q => absurd q (by unfold own_cnt; rw [((own_cntN_hit hc1z) : own_cntN [c0, c1, c2] = 0)]; decide))⟩)
  · refine own_go (fun t k => XS.icmpYes X0.here hx rfl (pc0 := 20) (pc' := 26) rfl (hb hby d_jdk_52_method_21_code_20) rfl (flt hc1z).2.2.2 (by decide) (by decide) k) ?_
    show own_G p e below (s₁.setTop (mkF m 26 #[.val (.ref arr), .val (.int (0 : Int32)), .val (.ref dst), .val (.int (0 : Int32)), .val (.int (3 : Int32)), .val (.int (0 : Int32)), .val (.int c0)] [])) _
    refine own_go (fun t k => XS.aloadN X0.here hx rfl (hb hby d_jdk_52_method_21_code_26) rfl rfl k) ?_
    refine own_go (fun t k => XS.iloadN X0.here hx rfl (hb hby d_jdk_52_method_21_code_27) rfl k) ?_
    refine own_go (fun t k => XS.iload X0.here hx rfl (hb hby d_jdk_52_method_21_code_28) rfl k) ?_
    show own_G p e below (s₁.setTop (mkF m 30 #[.val (.ref arr), .val (.int (0 : Int32)), .val (.ref dst), .val (.int (0 : Int32)), .val (.int (3 : Int32)), .val (.int (0 : Int32)), .val (.int c0)] [(.int c0), (.int (0 : Int32)), (.ref dst)])) _
    refine own_go (fun t k => XS.i2b X0.here hx rfl (hb hby d_jdk_52_method_21_code_30) rfl k) ?_
    obtain ⟨T2z, h2z, X2z, e2z, W2z, V2z, st2z⟩ := own_stB X0 hx hZ e0 q2 (i := 0) (y := (own_lb c0)) (own_nar8 _) (by decide) (Nat.le_of_ble_eq_true rfl) (g := (mkF m 31 #[.val (.ref arr), .val (.int (0 : Int32)), .val (.ref dst), .val (.int (0 : Int32)), .val (.int (3 : Int32)), .val (.int (0 : Int32)), .val (.int c0)] [(.int ((c0).toInt8.toInt32)), (.int (0 : Int32)), (.ref dst)])) rfl rfl (hb hby d_jdk_52_method_21_code_31)
    refine own_go st2z ?_
    have N2z := Fr.snoc X2z N0 q0
    have O3z := own_ext_wr O0 W2z q0
    have K3z := K0.wr W2z (Or.inl (List.mem_of_getElem? (i := 0) rfl))
    have V2z : own_A Z h2z dst kd .byte [(.int (own_lb c0)), (.int (0 : Int32)), (.int (0 : Int32))] := V2z
    refine own_go (fun t k => XS.iinc X2z.here hx rfl (hb hby d_jdk_52_method_21_code_32) rfl (l' := #[.val (.ref arr), .val (.int (1 : Int32)), .val (.ref dst), .val (.int (0 : Int32)), .val (.int (3 : Int32)), .val (.int (0 : Int32)), .val (.int c0)]) rfl k) ?_
    show own_G p e below (T2z.setTop (mkF m 35 #[.val (.ref arr), .val (.int (1 : Int32)), .val (.ref dst), .val (.int (0 : Int32)), .val (.int (3 : Int32)), .val (.int (0 : Int32)), .val (.int c0)] [])) _
    refine own_go (fun t k => XS.iinc X2z.here hx rfl (hb hby d_jdk_52_method_21_code_35) rfl (l' := #[.val (.ref arr), .val (.int (1 : Int32)), .val (.ref dst), .val (.int (1 : Int32)), .val (.int (3 : Int32)), .val (.int (0 : Int32)), .val (.int c0)]) rfl k) ?_
    refine own_go (fun t k => XS.iinc X2z.here hx rfl (hb hby d_jdk_52_method_21_code_38) rfl (l' := #[.val (.ref arr), .val (.int (1 : Int32)), .val (.ref dst), .val (.int (1 : Int32)), .val (.int (3 : Int32)), .val (.int (1 : Int32)), .val (.int c0)]) rfl k) ?_
    refine own_go (fun t k => XS.goto X2z.here hx rfl (pc0 := 41) (pc' := 3) rfl (hb hby d_jdk_52_method_21_code_41) (by decide) (by decide) k) ?_
    show own_G p e below (T2z.setTop (mkF m 3 #[.val (.ref arr), .val (.int (1 : Int32)), .val (.ref dst), .val (.int (1 : Int32)), .val (.int (3 : Int32)), .val (.int (1 : Int32)), .val (.int c0)] [])) _
    refine own_go (fun t k => XS.iload X2z.here hx rfl (hb hby d_jdk_52_method_21_code_3) rfl k) ?_
    refine own_go (fun t k => XS.iload X2z.here hx rfl (hb hby d_jdk_52_method_21_code_5) rfl k) ?_
    refine own_go (fun t k => XS.icmpNo X2z.here hx rfl (hb hby d_jdk_52_method_21_code_7) rfl (tlt (by decide : (1 : Int32) < (3 : Int32))).2.1 k) ?_
    show own_G p e below (T2z.setTop (mkF m 10 #[.val (.ref arr), .val (.int (1 : Int32)), .val (.ref dst), .val (.int (1 : Int32)), .val (.int (3 : Int32)), .val (.int (1 : Int32)), .val (.int c0)] [])) _
    refine own_go (fun t k => XS.aloadN X2z.here hx rfl (hb hby d_jdk_52_method_21_code_10) rfl rfl k) ?_
    refine own_go (fun t k => XS.iloadN X2z.here hx rfl (hb hby d_jdk_52_method_21_code_11) rfl k) ?_
    refine own_go (own_ldC X2z hx hZ e2z (q1.other W2z nad) (i := 1) (v := (.int c1)) (by decide) rfl (g := (mkF m 12 #[.val (.ref arr), .val (.int (1 : Int32)), .val (.ref dst), .val (.int (1 : Int32)), .val (.int (3 : Int32)), .val (.int (1 : Int32)), .val (.int c0)] [(.int (1 : Int32)), (.ref arr)])) rfl rfl (hb hby d_jdk_52_method_21_code_12)) ?_
    show own_G p e below (T2z.setTop (mkF m 13 #[.val (.ref arr), .val (.int (1 : Int32)), .val (.ref dst), .val (.int (1 : Int32)), .val (.int (3 : Int32)), .val (.int (1 : Int32)), .val (.int c0)] [(.int c1)])) _
    refine own_go (fun t k => XS.istore X2z.here hx rfl (hb hby d_jdk_52_method_21_code_13) rfl (l' := #[.val (.ref arr), .val (.int (1 : Int32)), .val (.ref dst), .val (.int (1 : Int32)), .val (.int (3 : Int32)), .val (.int (1 : Int32)), .val (.int c1)]) rfl k) ?_
    refine own_go (fun t k => XS.iload X2z.here hx rfl (hb hby d_jdk_52_method_21_code_15) rfl k) ?_
    refine own_go (fun t k => XS.sipush X2z.here hx rfl (hb hby d_jdk_52_method_21_code_17) k) ?_
    show own_G p e below (T2z.setTop (mkF m 20 #[.val (.ref arr), .val (.int (1 : Int32)), .val (.ref dst), .val (.int (1 : Int32)), .val (.int (3 : Int32)), .val (.int (1 : Int32)), .val (.int c1)] [(.int (255 : Int32)), (.int c1)])) _
    by_cases hc4z : (255 : Int32) < c1
    · refine own_go (fun t k => XS.icmpNo X2z.here hx rfl (hb hby d_jdk_52_method_21_code_20) rfl (tlt hc4z).2.2.2 k) ?_
      show own_G p e below (T2z.setTop (mkF m 23 #[.val (.ref arr), .val (.int (1 : Int32)), .val (.ref dst), .val (.int (1 : Int32)), .val (.int (3 : Int32)), .val (.int (1 : Int32)), .val (.int c1)] [])) _
      refine own_go (fun t k => XS.iload X2z.here hx rfl (hb hby d_jdk_52_method_21_code_23) rfl k) ?_
      exact own_ret X2z hx Bd.returns rfl (Or.inl ⟨rfl, Or.inl rfl, _, rfl⟩) (hb hby d_jdk_52_method_21_code_25) hlk (Nat.le_of_ble_eq_true rfl) (Nat.le_of_ble_eq_true rfl) (by show Q_own_ci3 Z arr kk dst kd c0 c1 c2 h0 _ T2z.heap _; rw [e2z]; exact ⟨[(.int (own_lb c0)), (.int (0 : Int32)), (.int (0 : Int32))], (congrArg (fun k : Nat => some (Value.int (Int32.ofNat k))) (((own_cntN_miss hc1z).trans (congrArg (· + 1) (own_cntN_hit hc4z))) : own_cntN [c0, c1, c2] = 1).symm), N2z, K3z, V2z, (fun q => absurd q (by unfold own_cnt; rw [(((own_cntN_miss hc1z).trans (congrArg (· + 1) (own_cntN_hit hc4z))) : own_cntN [c0, c1, c2] = 1)]; decide))⟩)
    · refine own_go (fun t k => XS.icmpYes X2z.here hx rfl (pc0 := 20) (pc' := 26) rfl (hb hby d_jdk_52_method_21_code_20) rfl (flt hc4z).2.2.2 (by decide) (by decide) k) ?_
      show own_G p e below (T2z.setTop (mkF m 26 #[.val (.ref arr), .val (.int (1 : Int32)), .val (.ref dst), .val (.int (1 : Int32)), .val (.int (3 : Int32)), .val (.int (1 : Int32)), .val (.int c1)] [])) _
      refine own_go (fun t k => XS.aloadN X2z.here hx rfl (hb hby d_jdk_52_method_21_code_26) rfl rfl k) ?_
      refine own_go (fun t k => XS.iloadN X2z.here hx rfl (hb hby d_jdk_52_method_21_code_27) rfl k) ?_
      refine own_go (fun t k => XS.iload X2z.here hx rfl (hb hby d_jdk_52_method_21_code_28) rfl k) ?_
      show own_G p e below (T2z.setTop (mkF m 30 #[.val (.ref arr), .val (.int (1 : Int32)), .val (.ref dst), .val (.int (1 : Int32)), .val (.int (3 : Int32)), .val (.int (1 : Int32)), .val (.int c1)] [(.int c1), (.int (1 : Int32)), (.ref dst)])) _
      refine own_go (fun t k => XS.i2b X2z.here hx rfl (hb hby d_jdk_52_method_21_code_30) rfl k) ?_
      obtain ⟨T5z, h5z, X5z, e5z, W5z, V5z, st5z⟩ := own_stB X2z hx hZ e2z V2z (i := 1) (y := (own_lb c1)) (own_nar8 _) (by decide) (Nat.le_of_ble_eq_true rfl) (g := (mkF m 31 #[.val (.ref arr), .val (.int (1 : Int32)), .val (.ref dst), .val (.int (1 : Int32)), .val (.int (3 : Int32)), .val (.int (1 : Int32)), .val (.int c1)] [(.int ((c1).toInt8.toInt32)), (.int (1 : Int32)), (.ref dst)])) rfl rfl (hb hby d_jdk_52_method_21_code_31)
      refine own_go st5z ?_
      have N5z := Fr.snoc X5z N2z q0
      have O6z := own_ext_wr O3z W5z q0
      have K6z := K3z.wr W5z (Or.inl (List.mem_of_getElem? (i := 0) rfl))
      have V5z : own_A Z h5z dst kd .byte [(.int (own_lb c0)), (.int (own_lb c1)), (.int (0 : Int32))] := V5z
      refine own_go (fun t k => XS.iinc X5z.here hx rfl (hb hby d_jdk_52_method_21_code_32) rfl (l' := #[.val (.ref arr), .val (.int (2 : Int32)), .val (.ref dst), .val (.int (1 : Int32)), .val (.int (3 : Int32)), .val (.int (1 : Int32)), .val (.int c1)]) rfl k) ?_
      show own_G p e below (T5z.setTop (mkF m 35 #[.val (.ref arr), .val (.int (2 : Int32)), .val (.ref dst), .val (.int (1 : Int32)), .val (.int (3 : Int32)), .val (.int (1 : Int32)), .val (.int c1)] [])) _
      refine own_go (fun t k => XS.iinc X5z.here hx rfl (hb hby d_jdk_52_method_21_code_35) rfl (l' := #[.val (.ref arr), .val (.int (2 : Int32)), .val (.ref dst), .val (.int (2 : Int32)), .val (.int (3 : Int32)), .val (.int (1 : Int32)), .val (.int c1)]) rfl k) ?_
      refine own_go (fun t k => XS.iinc X5z.here hx rfl (hb hby d_jdk_52_method_21_code_38) rfl (l' := #[.val (.ref arr), .val (.int (2 : Int32)), .val (.ref dst), .val (.int (2 : Int32)), .val (.int (3 : Int32)), .val (.int (2 : Int32)), .val (.int c1)]) rfl k) ?_
      refine own_go (fun t k => XS.goto X5z.here hx rfl (pc0 := 41) (pc' := 3) rfl (hb hby d_jdk_52_method_21_code_41) (by decide) (by decide) k) ?_
      show own_G p e below (T5z.setTop (mkF m 3 #[.val (.ref arr), .val (.int (2 : Int32)), .val (.ref dst), .val (.int (2 : Int32)), .val (.int (3 : Int32)), .val (.int (2 : Int32)), .val (.int c1)] [])) _
      refine own_go (fun t k => XS.iload X5z.here hx rfl (hb hby d_jdk_52_method_21_code_3) rfl k) ?_
      refine own_go (fun t k => XS.iload X5z.here hx rfl (hb hby d_jdk_52_method_21_code_5) rfl k) ?_
      refine own_go (fun t k => XS.icmpNo X5z.here hx rfl (hb hby d_jdk_52_method_21_code_7) rfl (tlt (by decide : (2 : Int32) < (3 : Int32))).2.1 k) ?_
      show own_G p e below (T5z.setTop (mkF m 10 #[.val (.ref arr), .val (.int (2 : Int32)), .val (.ref dst), .val (.int (2 : Int32)), .val (.int (3 : Int32)), .val (.int (2 : Int32)), .val (.int c1)] [])) _
      refine own_go (fun t k => XS.aloadN X5z.here hx rfl (hb hby d_jdk_52_method_21_code_10) rfl rfl k) ?_
      refine own_go (fun t k => XS.iloadN X5z.here hx rfl (hb hby d_jdk_52_method_21_code_11) rfl k) ?_
      refine own_go (own_ldC X5z hx hZ e5z ((q1.other W2z nad).other W5z nad) (i := 2) (v := (.int c2)) (by decide) rfl (g := (mkF m 12 #[.val (.ref arr), .val (.int (2 : Int32)), .val (.ref dst), .val (.int (2 : Int32)), .val (.int (3 : Int32)), .val (.int (2 : Int32)), .val (.int c1)] [(.int (2 : Int32)), (.ref arr)])) rfl rfl (hb hby d_jdk_52_method_21_code_12)) ?_
      show own_G p e below (T5z.setTop (mkF m 13 #[.val (.ref arr), .val (.int (2 : Int32)), .val (.ref dst), .val (.int (2 : Int32)), .val (.int (3 : Int32)), .val (.int (2 : Int32)), .val (.int c1)] [(.int c2)])) _
      refine own_go (fun t k => XS.istore X5z.here hx rfl (hb hby d_jdk_52_method_21_code_13) rfl (l' := #[.val (.ref arr), .val (.int (2 : Int32)), .val (.ref dst), .val (.int (2 : Int32)), .val (.int (3 : Int32)), .val (.int (2 : Int32)), .val (.int c2)]) rfl k) ?_
      refine own_go (fun t k => XS.iload X5z.here hx rfl (hb hby d_jdk_52_method_21_code_15) rfl k) ?_
      refine own_go (fun t k => XS.sipush X5z.here hx rfl (hb hby d_jdk_52_method_21_code_17) k) ?_
      show own_G p e below (T5z.setTop (mkF m 20 #[.val (.ref arr), .val (.int (2 : Int32)), .val (.ref dst), .val (.int (2 : Int32)), .val (.int (3 : Int32)), .val (.int (2 : Int32)), .val (.int c2)] [(.int (255 : Int32)), (.int c2)])) _
      by_cases hc7z : (255 : Int32) < c2
      · refine own_go (fun t k => XS.icmpNo X5z.here hx rfl (hb hby d_jdk_52_method_21_code_20) rfl (tlt hc7z).2.2.2 k) ?_
        show own_G p e below (T5z.setTop (mkF m 23 #[.val (.ref arr), .val (.int (2 : Int32)), .val (.ref dst), .val (.int (2 : Int32)), .val (.int (3 : Int32)), .val (.int (2 : Int32)), .val (.int c2)] [])) _
        refine own_go (fun t k => XS.iload X5z.here hx rfl (hb hby d_jdk_52_method_21_code_23) rfl k) ?_
        exact own_ret X5z hx Bd.returns rfl (Or.inl ⟨rfl, Or.inl rfl, _, rfl⟩) (hb hby d_jdk_52_method_21_code_25) hlk (Nat.le_of_ble_eq_true rfl) (Nat.le_of_ble_eq_true rfl) (by show Q_own_ci3 Z arr kk dst kd c0 c1 c2 h0 _ T5z.heap _; rw [e5z]; exact ⟨[(.int (own_lb c0)), (.int (own_lb c1)), (.int (0 : Int32))], (congrArg (fun k : Nat => some (Value.int (Int32.ofNat k))) (((own_cntN_miss hc1z).trans (congrArg (· + 1) ((own_cntN_miss hc4z).trans (congrArg (· + 1) (own_cntN_hit hc7z))))) : own_cntN [c0, c1, c2] = 2).symm), N5z, K6z, V5z, (fun q => absurd q (by unfold own_cnt; rw [(((own_cntN_miss hc1z).trans (congrArg (· + 1) ((own_cntN_miss hc4z).trans (congrArg (· + 1) (own_cntN_hit hc7z))))) : own_cntN [c0, c1, c2] = 2)]; decide))⟩)
      · refine own_go (fun t k => XS.icmpYes X5z.here hx rfl (pc0 := 20) (pc' := 26) rfl (hb hby d_jdk_52_method_21_code_20) rfl (flt hc7z).2.2.2 (by decide) (by decide) k) ?_
        show own_G p e below (T5z.setTop (mkF m 26 #[.val (.ref arr), .val (.int (2 : Int32)), .val (.ref dst), .val (.int (2 : Int32)), .val (.int (3 : Int32)), .val (.int (2 : Int32)), .val (.int c2)] [])) _
        refine own_go (fun t k => XS.aloadN X5z.here hx rfl (hb hby d_jdk_52_method_21_code_26) rfl rfl k) ?_
        refine own_go (fun t k => XS.iloadN X5z.here hx rfl (hb hby d_jdk_52_method_21_code_27) rfl k) ?_
        refine own_go (fun t k => XS.iload X5z.here hx rfl (hb hby d_jdk_52_method_21_code_28) rfl k) ?_
        show own_G p e below (T5z.setTop (mkF m 30 #[.val (.ref arr), .val (.int (2 : Int32)), .val (.ref dst), .val (.int (2 : Int32)), .val (.int (3 : Int32)), .val (.int (2 : Int32)), .val (.int c2)] [(.int c2), (.int (2 : Int32)), (.ref dst)])) _
        refine own_go (fun t k => XS.i2b X5z.here hx rfl (hb hby d_jdk_52_method_21_code_30) rfl k) ?_
        obtain ⟨T8z, h8z, X8z, e8z, W8z, V8z, st8z⟩ := own_stB X5z hx hZ e5z V5z (i := 2) (y := (own_lb c2)) (own_nar8 _) (by decide) (Nat.le_of_ble_eq_true rfl) (g := (mkF m 31 #[.val (.ref arr), .val (.int (2 : Int32)), .val (.ref dst), .val (.int (2 : Int32)), .val (.int (3 : Int32)), .val (.int (2 : Int32)), .val (.int c2)] [(.int ((c2).toInt8.toInt32)), (.int (2 : Int32)), (.ref dst)])) rfl rfl (hb hby d_jdk_52_method_21_code_31)
        refine own_go st8z ?_
        have N8z := Fr.snoc X8z N5z q0
        have O9z := own_ext_wr O6z W8z q0
        have K9z := K6z.wr W8z (Or.inl (List.mem_of_getElem? (i := 0) rfl))
        have V8z : own_A Z h8z dst kd .byte [(.int (own_lb c0)), (.int (own_lb c1)), (.int (own_lb c2))] := V8z
        refine own_go (fun t k => XS.iinc X8z.here hx rfl (hb hby d_jdk_52_method_21_code_32) rfl (l' := #[.val (.ref arr), .val (.int (3 : Int32)), .val (.ref dst), .val (.int (2 : Int32)), .val (.int (3 : Int32)), .val (.int (2 : Int32)), .val (.int c2)]) rfl k) ?_
        show own_G p e below (T8z.setTop (mkF m 35 #[.val (.ref arr), .val (.int (3 : Int32)), .val (.ref dst), .val (.int (2 : Int32)), .val (.int (3 : Int32)), .val (.int (2 : Int32)), .val (.int c2)] [])) _
        refine own_go (fun t k => XS.iinc X8z.here hx rfl (hb hby d_jdk_52_method_21_code_35) rfl (l' := #[.val (.ref arr), .val (.int (3 : Int32)), .val (.ref dst), .val (.int (3 : Int32)), .val (.int (3 : Int32)), .val (.int (2 : Int32)), .val (.int c2)]) rfl k) ?_
        refine own_go (fun t k => XS.iinc X8z.here hx rfl (hb hby d_jdk_52_method_21_code_38) rfl (l' := #[.val (.ref arr), .val (.int (3 : Int32)), .val (.ref dst), .val (.int (3 : Int32)), .val (.int (3 : Int32)), .val (.int (3 : Int32)), .val (.int c2)]) rfl k) ?_
        refine own_go (fun t k => XS.goto X8z.here hx rfl (pc0 := 41) (pc' := 3) rfl (hb hby d_jdk_52_method_21_code_41) (by decide) (by decide) k) ?_
        show own_G p e below (T8z.setTop (mkF m 3 #[.val (.ref arr), .val (.int (3 : Int32)), .val (.ref dst), .val (.int (3 : Int32)), .val (.int (3 : Int32)), .val (.int (3 : Int32)), .val (.int c2)] [])) _
        refine own_go (fun t k => XS.iload X8z.here hx rfl (hb hby d_jdk_52_method_21_code_3) rfl k) ?_
        refine own_go (fun t k => XS.iload X8z.here hx rfl (hb hby d_jdk_52_method_21_code_5) rfl k) ?_
        refine own_go (fun t k => XS.icmpYes X8z.here hx rfl (pc0 := 7) (pc' := 44) rfl (hb hby d_jdk_52_method_21_code_7) rfl (flt (by decide : ¬ ((3 : Int32) < (3 : Int32)))).2.1 (by decide) (by decide) k) ?_
        show own_G p e below (T8z.setTop (mkF m 44 #[.val (.ref arr), .val (.int (3 : Int32)), .val (.ref dst), .val (.int (3 : Int32)), .val (.int (3 : Int32)), .val (.int (3 : Int32)), .val (.int c2)] [])) _
        refine own_go (fun t k => XS.iload X8z.here hx rfl (hb hby d_jdk_52_method_21_code_44) rfl k) ?_
        exact own_ret X8z hx Bd.returns rfl (Or.inl ⟨rfl, Or.inl rfl, _, rfl⟩) (hb hby d_jdk_52_method_21_code_46) hlk (Nat.le_of_ble_eq_true rfl) (Nat.le_of_ble_eq_true rfl) (by show Q_own_ci3 Z arr kk dst kd c0 c1 c2 h0 _ T8z.heap _; rw [e8z]; exact ⟨[(.int (own_lb c0)), (.int (own_lb c1)), (.int (own_lb c2))], (congrArg (fun k : Nat => some (Value.int (Int32.ofNat k))) (((own_cntN_miss hc1z).trans (congrArg (· + 1) ((own_cntN_miss hc4z).trans (congrArg (· + 1) ((own_cntN_miss hc7z).trans (congrArg (· + 1) (rfl : own_cntN [] = 0))))))) : own_cntN [c0, c1, c2] = 3).symm), N8z, K9z, V8z, (fun _ => rfl)⟩)
theorem ef_own_co (m : MethodId) (x0 : Addr) (x1 : Int32) (x2 : Int32) : entryFrame m #[(.ref x0), (.int x1), (.int x2)] 6 = mkF m 0 #[.val (.ref x0), .val (.int x1), .val (.int x2), .unset, .unset, .unset] [] := by first | (simp [entryFrame, mkF, argsToLocals, Value.category]; done) | rfl
theorem pf_own_co : plainFor own_m23 = true := plainFor_of_name (by simp [plainName, overriddenIn])
theorem pd_3779053557 : parseMethodDescriptor "([CI[BII)I" = some ⟨[(.array .char), .int, (.array .byte), .int, .int], some .int⟩ := by decide +kernel
theorem pd_1686865603 : parseMethodDescriptor "([CII)[B" = some ⟨[(.array .char), .int, .int], some (.array .byte)⟩ := by decide +kernel
theorem pd_1807843551 : parseMethodDescriptor "([BI)C" = some ⟨[(.array .byte), .int], some .char⟩ := by decide +kernel
theorem d_jdk_52_method_16_code_0 : decode jdk_52_method_16_code 0 = .ok (.iload_n 2, 1) := by decide +kernel
theorem d_jdk_52_method_16_code_1 : decode jdk_52_method_16_code 1 = .ok (.newarray .byte, 2) := by decide +kernel
theorem d_jdk_52_method_16_code_12 : decode jdk_52_method_16_code 12 = .ok (.istore 4, 2) := by decide +kernel
theorem d_jdk_52_method_16_code_14 : decode jdk_52_method_16_code 14 = .ok (.iload 4, 2) := by decide +kernel
theorem d_jdk_52_method_16_code_16 : decode jdk_52_method_16_code 16 = .ok (.iload_n 2, 1) := by decide +kernel
theorem d_jdk_52_method_16_code_17 : decode jdk_52_method_16_code 17 = .ok (.if_icmp .eq 40, 3) := by decide +kernel
theorem d_jdk_52_method_16_code_20 : decode jdk_52_method_16_code 20 = .ok (.aload_n 0, 1) := by decide +kernel
theorem d_jdk_52_method_16_code_21 : decode jdk_52_method_16_code 21 = .ok (.iload_n 1, 1) := by decide +kernel
theorem d_jdk_52_method_16_code_22 : decode jdk_52_method_16_code 22 = .ok (.iload_n 2, 1) := by decide +kernel
theorem d_jdk_52_method_16_code_23 : decode jdk_52_method_16_code 23 = .ok (.invokestatic 119, 3) := by decide +kernel
theorem d_jdk_52_method_16_code_26 : decode jdk_52_method_16_code 26 = .ok (.astore 5, 2) := by decide +kernel
theorem d_jdk_52_method_16_code_28 : decode jdk_52_method_16_code 28 = .ok (.aload 5, 2) := by decide +kernel
theorem d_jdk_52_method_16_code_3 : decode jdk_52_method_16_code 3 = .ok (.astore_n 3, 1) := by decide +kernel
theorem d_jdk_52_method_16_code_30 : decode jdk_52_method_16_code 30 = .ok (.iload 4, 2) := by decide +kernel
theorem d_jdk_52_method_16_code_32 : decode jdk_52_method_16_code 32 = .ok (.invokestatic 71, 3) := by decide +kernel
theorem d_jdk_52_method_16_code_35 : decode jdk_52_method_16_code 35 = .ok (.sipush 255, 3) := by decide +kernel
theorem d_jdk_52_method_16_code_38 : decode jdk_52_method_16_code 38 = .ok (.if_icmp .gt 16, 3) := by decide +kernel
theorem d_jdk_52_method_16_code_4 : decode jdk_52_method_16_code 4 = .ok (.aload_n 0, 1) := by decide +kernel
theorem d_jdk_52_method_16_code_5 : decode jdk_52_method_16_code 5 = .ok (.iload_n 1, 1) := by decide +kernel
theorem d_jdk_52_method_16_code_54 : decode jdk_52_method_16_code 54 = .ok (.aload 5, 2) := by decide +kernel
theorem d_jdk_52_method_16_code_56 : decode jdk_52_method_16_code 56 = .ok (.areturn, 1) := by decide +kernel
theorem d_jdk_52_method_16_code_57 : decode jdk_52_method_16_code 57 = .ok (.aload_n 3, 1) := by decide +kernel
theorem d_jdk_52_method_16_code_58 : decode jdk_52_method_16_code 58 = .ok (.areturn, 1) := by decide +kernel
theorem d_jdk_52_method_16_code_6 : decode jdk_52_method_16_code 6 = .ok (.aload_n 3, 1) := by decide +kernel
theorem d_jdk_52_method_16_code_7 : decode jdk_52_method_16_code 7 = .ok (.iconst 0, 1) := by decide +kernel
theorem d_jdk_52_method_16_code_8 : decode jdk_52_method_16_code 8 = .ok (.iload_n 2, 1) := by decide +kernel
theorem d_jdk_52_method_16_code_9 : decode jdk_52_method_16_code 9 = .ok (.invokestatic 115, 3) := by decide +kernel
def Q_own_co (Z : State) (arr : Addr) (kk : ClassId) (cs : (List Int32)) (n : Int32) (h0 : Heap) (v : Option Value) (h : Heap) (L : List Loc) : Prop := ∃ b : Addr, ∃ kb : ClassId, ∃ vs : (List Value), ∃ cd : Int32, v = some (.ref b) ∧ Fr Z.heap.size L ∧ Keep h0 h [] ∧ (own_A Z h b kb .byte vs) ∧ (h0.size ≤ b) ∧ (own_rep cs cd vs)
set_option maxRecDepth 65536 in
set_option maxHeartbeats 40000000 in
theorem own_co (l : Launch) (Z : State) (a0 : Array Value) (hw : ∀ d ∈ tables_1, d.before a0 Z = true) (ws : List Jvm.Cond) (arr : Addr) (kk : ClassId) (cs : (List Int32)) (n : Int32) (h0 : Heap) (O0 : Ext Z.heap h0) (q0 : own_A Z h0 arr kk .char (own_cv cs)) (hn : n = Int32.ofNat cs.length) (h3 : cs.length ≤ 3) (hne : cs ≠ []) (hc : own_chs cs) (S_AD : Sta Z Z.heap own_s0 own_s4 "Z" (.int (1 : Int32))) (S_HI : Sta Z Z.heap own_s0 "HI_BYTE_SHIFT" "I" (.int (0 : Int32))) (S_LO : Sta Z Z.heap own_s0 "LO_BYTE_SHIFT" "I" (.int (8 : Int32))) :
    MetFree l own_m23 (head1 (Jvm.Cond.code own_m23 jdk_52_method_16_code 6 (some (.array .byte)) :: ws) ({ frames := 3, cells := 2, slots := 9, locals := 40 } : Room)) (fun aa U => aa = #[(.ref arr), (.int (0 : Int32)), (.int n)] ∧ Z.Warmed39 U.vm ∧ U.heap = h0) (fun _ _ _ _ _ => True) (fun _ U o U' => ∃ v L, o = .returned v ∧ Q_own_co Z arr kk cs n h0 v U'.heap L ∧ FrameEnd U o U' L ({ frames := 3, cells := 2, slots := 9, locals := 40 } : Room).cells ({ frames := 3, cells := 2, slots := 9, locals := 40 } : Room).slots) := by
  refine MetFree.of_bodySF pf_own_co hisR ?_
  intro p e s m args below meth c s₁ Bd hml0 hP hK
  obtain ⟨rfl, hZ, hh⟩ := hP
  have hx := Bd.exec
  have hby := Bd.bytes
  have hlk := BodyLoose.notSynchronized Bd
  have hml : c.maxLocals = 6 := hml0
  have hown : s.vm.findClass own_s0 = some m.cls := findClass_of_methodNamed Bd.named
  have hnm := (name_of_methodNamed Bd.named Bd.method).1
  have X0 : Stand p l e ({ frames := 3, cells := 2, slots := 9, locals := 40 } : Room) s m #[(.ref arr), (.int (0 : Int32)), (.int n)] below meth c s₁ [] 0 0 := Stand.of_body Bd
  have e0 : s₁.heap = h0 := by rw [← hh, Bd.state]; rfl
  have N0 := Fr.nil Z.heap.size
  have K0 : Keep h0 h0 [] := Keep.refl _ _
  refine own_start (Q := Q_own_co Z arr kk cs n h0) (ef_own_co m (arr) ((0 : Int32)) (n)) ?_
  show own_G p e below (s₁.setTop (mkF m 0 #[.val (.ref arr), .val (.int (0 : Int32)), .val (.int n), .unset, .unset, .unset] [])) _
  rcases own_len3' hn h3 hne with ⟨c0, rfl, rfl⟩ | ⟨c0, c1, rfl, rfl⟩ | ⟨c0, c1, c2, rfl, rfl⟩
  · have VA : own_A Z h0 arr kk .char [(.int c0)] := q0
    show own_G p e below (s₁.setTop (mkF m 0 #[.val (.ref arr), .val (.int (0 : Int32)), .val (.int (1 : Int32)), .unset, .unset, .unset] [])) _
    refine own_go (fun t k => XS.iloadN X0.here hx rfl (hb hby d_jdk_52_method_16_code_0) rfl k) ?_
    obtain ⟨T1z, h1z, kc1z, X1z, e1z, E1z, V1z, st1z⟩ := own_newP X0 hx hZ (own_hw hw 67 rfl) e0 (g := (mkF m 1 #[.val (.ref arr), .val (.int (0 : Int32)), .val (.int (1 : Int32)), .unset, .unset, .unset] [(.int (1 : Int32))])) rfl (hb hby d_jdk_52_method_16_code_1) rfl (i := 1) (by decide) (cap := 1) (by decide) (by decide) (by decide) (by decide)
    obtain ⟨b1z, g1z⟩ : ∃ z, z = h0.size := ⟨_, rfl⟩
    rw [← g1z] at V1z st1z
    have fr_b1z : Z.heap.size ≤ b1z := g1z ▸ O0.1
    have lz_b1z : h0.size ≤ b1z := g1z ▸ K0.1
    have ne_arr_b1z : arr ≠ b1z := Nat.ne_of_lt (g1z ▸ VA.lt)
    have O2z := own_ext_trans O0 E1z
    have K2z := K0.ext E1z
    have V1z : own_A Z h1z b1z kc1z .byte [(.int (0 : Int32))] := V1z
    refine own_go st1z ?_
    refine own_go (fun t k => XS.astoreN X1z.here hx rfl (hb hby d_jdk_52_method_16_code_3) rfl rfl (l' := #[.val (.ref arr), .val (.int (0 : Int32)), .val (.int (1 : Int32)), .val (.ref b1z), .unset, .unset]) rfl k) ?_
    show own_G p e below (T1z.setTop (mkF m 4 #[.val (.ref arr), .val (.int (0 : Int32)), .val (.int (1 : Int32)), .val (.ref b1z), .unset, .unset] [])) _
    refine own_go (fun t k => XS.aloadN X1z.here hx rfl (hb hby d_jdk_52_method_16_code_4) rfl rfl k) ?_
    refine own_go (fun t k => XS.iloadN X1z.here hx rfl (hb hby d_jdk_52_method_16_code_5) rfl k) ?_
    refine own_go (fun t k => XS.aloadN X1z.here hx rfl (hb hby d_jdk_52_method_16_code_6) rfl rfl k) ?_
    show own_G p e below (T1z.setTop (mkF m 7 #[.val (.ref arr), .val (.int (0 : Int32)), .val (.int (1 : Int32)), .val (.ref b1z), .unset, .unset] [(.ref b1z), (.int (0 : Int32)), (.ref arr)])) _
    refine own_go (fun t k => XS.iconst X1z.here hx rfl (hb hby d_jdk_52_method_16_code_7) k) ?_
    refine own_go (fun t k => XS.iloadN X1z.here hx rfl (hb hby d_jdk_52_method_16_code_8) rfl k) ?_
    obtain ⟨_, _, ⟨T3z, L3z, k3z, n3z⟩, -, X3z, ⟨Lc3z, hQ3z, l3z, y3z, z3z⟩, st3z⟩ := Jvm.LawKit.callS X1z hx (y := own_m22) hown (own_mw hZ hw 68 rfl) (own_mw hZ hw 69 rfl) (own_mw hZ hw 65 rfl) (own_mw hZ hw 70 rfl) (by decide) (backOf (W := 0) (own_ci1 l Z a0 hw [] arr kk b1z kc1z c0 h1z O2z fr_b1z (VA.ext E1z) V1z ne_arr_b1z) hZ (own_hw hw 70 rfl) (own_hw hw 65 rfl) (by decide) (by decide)) (g := (mkF m 9 #[.val (.ref arr), .val (.int (0 : Int32)), .val (.int (1 : Int32)), .val (.ref b1z), .unset, .unset] [(.int (1 : Int32)), (.int (0 : Int32)), (.ref b1z), (.int (0 : Int32)), (.ref arr)])) rfl (by rw [hml]; rfl) (argsL := [(.ref arr), (.int (0 : Int32)), (.ref b1z), (.int (0 : Int32)), (.int (1 : Int32))]) (rest := []) (lenOf pd_3779053557 rfl) rfl (by show 2 * 0 + _ ≤ _; exact Nat.le_of_eq rfl) (hb hby d_jdk_52_method_16_code_9) (fun _ _ => ⟨rfl, e1z, (by decide : 1 + 0 ≤ _), (by decide : 1 + 0 ≤ _)⟩)
    dsimp only [Pt.U, Pt.locs, Pt.cells, Pt.slots] at X3z l3z y3z z3z st3z hQ3z
    subst l3z y3z z3z
    obtain ⟨vs_3z, rfl, NQ3z, K3zq, r3z_0, r3z_1⟩ := hQ3z
    refine own_go st3z ?_
    have N3z := Fr.app N0 NQ3z
    have O4z := own_ext_keep O2z K3zq (allS fr_b1z all0)
    have K4z := K2z.trans K3zq (allS (Or.inr lz_b1z) all0)
    show own_G p e below (T3z.setTop (mkF m 12 #[.val (.ref arr), .val (.int (0 : Int32)), .val (.int (1 : Int32)), .val (.ref b1z), .unset, .unset] [(.int (own_cnt [c0]))])) _
    refine own_go (fun t k => XS.istore X3z.here hx rfl (hb hby d_jdk_52_method_16_code_12) rfl (l' := #[.val (.ref arr), .val (.int (0 : Int32)), .val (.int (1 : Int32)), .val (.ref b1z), .val (.int (own_cnt [c0])), .unset]) rfl k) ?_
    refine own_go (fun t k => XS.iload X3z.here hx rfl (hb hby d_jdk_52_method_16_code_14) rfl k) ?_
    refine own_go (fun t k => XS.iloadN X3z.here hx rfl (hb hby d_jdk_52_method_16_code_16) rfl k) ?_
    show own_G p e below (T3z.setTop (mkF m 17 #[.val (.ref arr), .val (.int (0 : Int32)), .val (.int (1 : Int32)), .val (.ref b1z), .val (.int (own_cnt [c0])), .unset] [(.int (1 : Int32)), (.int (own_cnt [c0]))])) _
    by_cases hc5z : (own_cnt [c0]) = (1 : Int32)
    · refine own_go (fun t k => XS.icmpYes X3z.here hx rfl (pc0 := 17) (pc' := 57) rfl (hb hby d_jdk_52_method_16_code_17) rfl (teq hc5z).1 (by decide) (by decide) k) ?_
      show own_G p e below (T3z.setTop (mkF m 57 #[.val (.ref arr), .val (.int (0 : Int32)), .val (.int (1 : Int32)), .val (.ref b1z), .val (.int (own_cnt [c0])), .unset] [])) _
      refine own_go (fun t k => XS.aloadN X3z.here hx rfl (hb hby d_jdk_52_method_16_code_57) rfl rfl k) ?_
      exact own_ret X3z hx Bd.returns rfl (Or.inr (Or.inr (Or.inr (Or.inr ⟨rfl, rfl, rfl⟩)))) (hb hby d_jdk_52_method_16_code_58) hlk (Nat.le_of_ble_eq_true rfl) (Nat.le_of_ble_eq_true rfl) (by show Q_own_co Z arr kk [c0] (1 : Int32) h0 _ T3z.heap _; exact ⟨b1z, kc1z, vs_3z, (0 : Int32), rfl, N3z, K4z, r3z_0, lz_b1z, (own_rep_lat hn h3 hc5z (r3z_1 hc5z))⟩)
    · refine own_go (fun t k => XS.icmpNo X3z.here hx rfl (hb hby d_jdk_52_method_16_code_17) rfl (feq hc5z).1 k) ?_
      show own_G p e below (T3z.setTop (mkF m 20 #[.val (.ref arr), .val (.int (0 : Int32)), .val (.int (1 : Int32)), .val (.ref b1z), .val (.int (own_cnt [c0])), .unset] [])) _
      refine own_go (fun t k => XS.aloadN X3z.here hx rfl (hb hby d_jdk_52_method_16_code_20) rfl rfl k) ?_
      refine own_go (fun t k => XS.iloadN X3z.here hx rfl (hb hby d_jdk_52_method_16_code_21) rfl k) ?_
      refine own_go (fun t k => XS.iloadN X3z.here hx rfl (hb hby d_jdk_52_method_16_code_22) rfl k) ?_
      show own_G p e below (T3z.setTop (mkF m 23 #[.val (.ref arr), .val (.int (0 : Int32)), .val (.int (1 : Int32)), .val (.ref b1z), .val (.int (own_cnt [c0])), .unset] [(.int (1 : Int32)), (.int (0 : Int32)), (.ref arr)])) _
      have f6z := ((VA.ext E1z).keep K3zq (by simp only [List.mem_cons, List.not_mem_nil, or_false, not_or]; exact ne_arr_b1z))
      obtain ⟨_, _, ⟨T7z, L7z, k7z, n7z⟩, -, X7z, ⟨Lc7z, hQ7z, l7z, y7z, z7z⟩, st7z⟩ := Jvm.LawKit.callS X3z hx (y := own_m21) hown (own_mw hZ hw 71 rfl) (own_mw hZ hw 72 rfl) (own_mw hZ hw 65 rfl) (own_mw hZ hw 73 rfl) (by decide) (backOf (W := 0) (own_tb1 l Z a0 hw [] arr kk c0 T3z.heap O4z f6z S_AD S_HI S_LO) hZ (own_hw hw 73 rfl) (own_hw hw 65 rfl) (by decide) (by decide)) (g := (mkF m 23 #[.val (.ref arr), .val (.int (0 : Int32)), .val (.int (1 : Int32)), .val (.ref b1z), .val (.int (own_cnt [c0])), .unset] [(.int (1 : Int32)), (.int (0 : Int32)), (.ref arr)])) rfl (by rw [hml]; rfl) (argsL := [(.ref arr), (.int (0 : Int32)), (.int (1 : Int32))]) (rest := []) (lenOf pd_1686865603 rfl) rfl (by show 2 * 0 + _ ≤ _; exact Nat.le_of_eq rfl) (hb hby d_jdk_52_method_16_code_23) (fun _ _ => ⟨rfl, rfl, (by decide : 1 + 1 ≤ _), (by decide : 1 + 2 ≤ _)⟩)
      dsimp only [Pt.U, Pt.locs, Pt.cells, Pt.slots] at X7z l7z y7z z7z st7z hQ7z
      subst l7z y7z z7z
      obtain ⟨b_7z, kb_7z, rfl, NQ7z, K7zq, r7z_0, r7z_1, r7z_2⟩ := hQ7z
      refine own_go st7z ?_
      have N7z := Fr.app N3z NQ7z
      have O8z := own_ext_keep O4z K7zq all0
      have K8z := K4z.trans K7zq all0
      have lz_b_7z : h0.size ≤ b_7z := Nat.le_trans K4z.1 r7z_2
      have ne_arr_b_7z : arr ≠ b_7z := Nat.ne_of_lt (Nat.lt_of_lt_of_le f6z.lt r7z_2)
      have ne_b1z_b_7z : b1z ≠ b_7z := Nat.ne_of_lt (Nat.lt_of_lt_of_le r3z_0.lt r7z_2)
      show own_G p e below (T7z.setTop (mkF m 26 #[.val (.ref arr), .val (.int (0 : Int32)), .val (.int (1 : Int32)), .val (.ref b1z), .val (.int (own_cnt [c0])), .unset] [(.ref b_7z)])) _
      refine own_go (fun t k => XS.astore X7z.here hx rfl (hb hby d_jdk_52_method_16_code_26) rfl rfl (l' := #[.val (.ref arr), .val (.int (0 : Int32)), .val (.int (1 : Int32)), .val (.ref b1z), .val (.int (own_cnt [c0])), .val (.ref b_7z)]) rfl k) ?_
      refine own_go (fun t k => XS.aload X7z.here hx rfl (hb hby d_jdk_52_method_16_code_28) rfl rfl k) ?_
      refine own_go (fun t k => XS.iload X7z.here hx rfl (hb hby d_jdk_52_method_16_code_30) rfl k) ?_
      show own_G p e below (T7z.setTop (mkF m 32 #[.val (.ref arr), .val (.int (0 : Int32)), .val (.int (1 : Int32)), .val (.ref b1z), .val (.int (own_cnt [c0])), .val (.ref b_7z)] [(.int (own_cnt [c0])), (.ref b_7z)])) _
      obtain ⟨_, _, ⟨T9z, L9z, k9z, n9z⟩, -, X9z, ⟨Lc9z, hQ9z, l9z, y9z, z9z⟩, st9z⟩ := Jvm.LawKit.callS X7z hx (y := own_m17) hown (own_mw hZ hw 87 rfl) (own_mw hZ hw 88 rfl) (own_mw hZ hw 65 rfl) (own_mw hZ hw 89 rfl) (by decide) (backOf (W := 0) (own_getChar l Z a0 hw [] b_7z kb_7z ([(.int (own_lo c0)), (.int (own_hi c0))]) ([c0]) (own_cnt [c0]) (own_cntN [c0]) T7z.heap O8z r7z_0 rfl (own_cnt_toInt h3) (own_cnt_lt hn hc5z) h3 hc S_AD S_HI S_LO) hZ (own_hw hw 89 rfl) (own_hw hw 65 rfl) (by decide) (by decide)) (g := (mkF m 32 #[.val (.ref arr), .val (.int (0 : Int32)), .val (.int (1 : Int32)), .val (.ref b1z), .val (.int (own_cnt [c0])), .val (.ref b_7z)] [(.int (own_cnt [c0])), (.ref b_7z)])) rfl (by rw [hml]; rfl) (argsL := [(.ref b_7z), (.int (own_cnt [c0]))]) (rest := []) (lenOf pd_1807843551 rfl) rfl (by show 2 * 0 + _ ≤ _; exact Nat.le_of_eq rfl) (hb hby d_jdk_52_method_16_code_32) (fun _ _ => ⟨rfl, rfl, (by decide : 2 + 0 ≤ _), (by decide : 3 + 0 ≤ _)⟩)
      dsimp only [Pt.U, Pt.locs, Pt.cells, Pt.slots] at X9z l9z y9z z9z st9z hQ9z
      subst l9z y9z z9z
      obtain ⟨rfl, NQ9z, K9zq⟩ := hQ9z
      refine own_go st9z ?_
      have N9z := Fr.app N7z NQ9z
      show own_G p e below (T9z.setTop (mkF m 35 #[.val (.ref arr), .val (.int (0 : Int32)), .val (.int (1 : Int32)), .val (.ref b1z), .val (.int (own_cnt [c0])), .val (.ref b_7z)] [(.int ([c0].getD (own_cntN [c0]) 0))])) _
      refine own_go (fun t k => XS.sipush X9z.here hx rfl (hb hby d_jdk_52_method_16_code_35) k) ?_
      refine own_go (fun t k => XS.icmpYes X9z.here hx rfl (pc0 := 38) (pc' := 54) rfl (hb hby d_jdk_52_method_16_code_38) rfl (tlt (own_cnt_gt _ (own_cnt_lt hn hc5z))).2.2.1 (by decide) (by decide) k) ?_
      show own_G p e below (T9z.setTop (mkF m 54 #[.val (.ref arr), .val (.int (0 : Int32)), .val (.int (1 : Int32)), .val (.ref b1z), .val (.int (own_cnt [c0])), .val (.ref b_7z)] [])) _
      refine own_go (fun t k => XS.aload X9z.here hx rfl (hb hby d_jdk_52_method_16_code_54) rfl rfl k) ?_
      exact own_ret X9z hx Bd.returns rfl (Or.inr (Or.inr (Or.inr (Or.inr ⟨rfl, rfl, rfl⟩)))) (hb hby d_jdk_52_method_16_code_56) hlk (Nat.le_of_ble_eq_true rfl) (Nat.le_of_ble_eq_true rfl) (by show Q_own_co Z arr kk [c0] (1 : Int32) h0 _ T9z.heap _; rw [K9zq]; exact ⟨b_7z, kb_7z, [(.int (own_lo c0)), (.int (own_hi c0))], (1 : Int32), rfl, N9z, K8z, r7z_0, lz_b_7z, (Or.inr ⟨rfl, rfl⟩)⟩)
  · have VA : own_A Z h0 arr kk .char [(.int c0), (.int c1)] := q0
    show own_G p e below (s₁.setTop (mkF m 0 #[.val (.ref arr), .val (.int (0 : Int32)), .val (.int (2 : Int32)), .unset, .unset, .unset] [])) _
    refine own_go (fun t k => XS.iloadN X0.here hx rfl (hb hby d_jdk_52_method_16_code_0) rfl k) ?_
    obtain ⟨T10z, h10z, kc10z, X10z, e10z, E10z, V10z, st10z⟩ := own_newP X0 hx hZ (own_hw hw 67 rfl) e0 (g := (mkF m 1 #[.val (.ref arr), .val (.int (0 : Int32)), .val (.int (2 : Int32)), .unset, .unset, .unset] [(.int (2 : Int32))])) rfl (hb hby d_jdk_52_method_16_code_1) rfl (i := 2) (by decide) (cap := 2) (by decide) (by decide) (by decide) (by decide)
    obtain ⟨b10z, g10z⟩ : ∃ z, z = h0.size := ⟨_, rfl⟩
    rw [← g10z] at V10z st10z
    have fr_b10z : Z.heap.size ≤ b10z := g10z ▸ O0.1
    have lz_b10z : h0.size ≤ b10z := g10z ▸ K0.1
    have ne_arr_b10z : arr ≠ b10z := Nat.ne_of_lt (g10z ▸ VA.lt)
    have O11z := own_ext_trans O0 E10z
    have K11z := K0.ext E10z
    have V10z : own_A Z h10z b10z kc10z .byte [(.int (0 : Int32)), (.int (0 : Int32))] := V10z
    refine own_go st10z ?_
    refine own_go (fun t k => XS.astoreN X10z.here hx rfl (hb hby d_jdk_52_method_16_code_3) rfl rfl (l' := #[.val (.ref arr), .val (.int (0 : Int32)), .val (.int (2 : Int32)), .val (.ref b10z), .unset, .unset]) rfl k) ?_
    show own_G p e below (T10z.setTop (mkF m 4 #[.val (.ref arr), .val (.int (0 : Int32)), .val (.int (2 : Int32)), .val (.ref b10z), .unset, .unset] [])) _
    refine own_go (fun t k => XS.aloadN X10z.here hx rfl (hb hby d_jdk_52_method_16_code_4) rfl rfl k) ?_
    refine own_go (fun t k => XS.iloadN X10z.here hx rfl (hb hby d_jdk_52_method_16_code_5) rfl k) ?_
    refine own_go (fun t k => XS.aloadN X10z.here hx rfl (hb hby d_jdk_52_method_16_code_6) rfl rfl k) ?_
    show own_G p e below (T10z.setTop (mkF m 7 #[.val (.ref arr), .val (.int (0 : Int32)), .val (.int (2 : Int32)), .val (.ref b10z), .unset, .unset] [(.ref b10z), (.int (0 : Int32)), (.ref arr)])) _
    refine own_go (fun t k => XS.iconst X10z.here hx rfl (hb hby d_jdk_52_method_16_code_7) k) ?_
    refine own_go (fun t k => XS.iloadN X10z.here hx rfl (hb hby d_jdk_52_method_16_code_8) rfl k) ?_
    obtain ⟨_, _, ⟨T12z, L12z, k12z, n12z⟩, -, X12z, ⟨Lc12z, hQ12z, l12z, y12z, z12z⟩, st12z⟩ := Jvm.LawKit.callS X10z hx (y := own_m22) hown (own_mw hZ hw 68 rfl) (own_mw hZ hw 69 rfl) (own_mw hZ hw 65 rfl) (own_mw hZ hw 70 rfl) (by decide) (backOf (W := 0) (own_ci2 l Z a0 hw [] arr kk b10z kc10z c0 c1 h10z O11z fr_b10z (VA.ext E10z) V10z ne_arr_b10z) hZ (own_hw hw 70 rfl) (own_hw hw 65 rfl) (by decide) (by decide)) (g := (mkF m 9 #[.val (.ref arr), .val (.int (0 : Int32)), .val (.int (2 : Int32)), .val (.ref b10z), .unset, .unset] [(.int (2 : Int32)), (.int (0 : Int32)), (.ref b10z), (.int (0 : Int32)), (.ref arr)])) rfl (by rw [hml]; rfl) (argsL := [(.ref arr), (.int (0 : Int32)), (.ref b10z), (.int (0 : Int32)), (.int (2 : Int32))]) (rest := []) (lenOf pd_3779053557 rfl) rfl (by show 2 * 0 + _ ≤ _; exact Nat.le_of_eq rfl) (hb hby d_jdk_52_method_16_code_9) (fun _ _ => ⟨rfl, e10z, (by decide : 1 + 0 ≤ _), (by decide : 2 + 0 ≤ _)⟩)
    dsimp only [Pt.U, Pt.locs, Pt.cells, Pt.slots] at X12z l12z y12z z12z st12z hQ12z
    subst l12z y12z z12z
    obtain ⟨vs_12z, rfl, NQ12z, K12zq, r12z_0, r12z_1⟩ := hQ12z
    refine own_go st12z ?_
    have N12z := Fr.app N0 NQ12z
    have O13z := own_ext_keep O11z K12zq (allS fr_b10z all0)
    have K13z := K11z.trans K12zq (allS (Or.inr lz_b10z) all0)
    show own_G p e below (T12z.setTop (mkF m 12 #[.val (.ref arr), .val (.int (0 : Int32)), .val (.int (2 : Int32)), .val (.ref b10z), .unset, .unset] [(.int (own_cnt [c0, c1]))])) _
    refine own_go (fun t k => XS.istore X12z.here hx rfl (hb hby d_jdk_52_method_16_code_12) rfl (l' := #[.val (.ref arr), .val (.int (0 : Int32)), .val (.int (2 : Int32)), .val (.ref b10z), .val (.int (own_cnt [c0, c1])), .unset]) rfl k) ?_
    refine own_go (fun t k => XS.iload X12z.here hx rfl (hb hby d_jdk_52_method_16_code_14) rfl k) ?_
    refine own_go (fun t k => XS.iloadN X12z.here hx rfl (hb hby d_jdk_52_method_16_code_16) rfl k) ?_
    show own_G p e below (T12z.setTop (mkF m 17 #[.val (.ref arr), .val (.int (0 : Int32)), .val (.int (2 : Int32)), .val (.ref b10z), .val (.int (own_cnt [c0, c1])), .unset] [(.int (2 : Int32)), (.int (own_cnt [c0, c1]))])) _
    by_cases hc14z : (own_cnt [c0, c1]) = (2 : Int32)
    · refine own_go (fun t k => XS.icmpYes X12z.here hx rfl (pc0 := 17) (pc' := 57) rfl (hb hby d_jdk_52_method_16_code_17) rfl (teq hc14z).1 (by decide) (by decide) k) ?_
      show own_G p e below (T12z.setTop (mkF m 57 #[.val (.ref arr), .val (.int (0 : Int32)), .val (.int (2 : Int32)), .val (.ref b10z), .val (.int (own_cnt [c0, c1])), .unset] [])) _
      refine own_go (fun t k => XS.aloadN X12z.here hx rfl (hb hby d_jdk_52_method_16_code_57) rfl rfl k) ?_
      exact own_ret X12z hx Bd.returns rfl (Or.inr (Or.inr (Or.inr (Or.inr ⟨rfl, rfl, rfl⟩)))) (hb hby d_jdk_52_method_16_code_58) hlk (Nat.le_of_ble_eq_true rfl) (Nat.le_of_ble_eq_true rfl) (by show Q_own_co Z arr kk [c0, c1] (2 : Int32) h0 _ T12z.heap _; exact ⟨b10z, kc10z, vs_12z, (0 : Int32), rfl, N12z, K13z, r12z_0, lz_b10z, (own_rep_lat hn h3 hc14z (r12z_1 hc14z))⟩)
    · refine own_go (fun t k => XS.icmpNo X12z.here hx rfl (hb hby d_jdk_52_method_16_code_17) rfl (feq hc14z).1 k) ?_
      show own_G p e below (T12z.setTop (mkF m 20 #[.val (.ref arr), .val (.int (0 : Int32)), .val (.int (2 : Int32)), .val (.ref b10z), .val (.int (own_cnt [c0, c1])), .unset] [])) _
      refine own_go (fun t k => XS.aloadN X12z.here hx rfl (hb hby d_jdk_52_method_16_code_20) rfl rfl k) ?_
      refine own_go (fun t k => XS.iloadN X12z.here hx rfl (hb hby d_jdk_52_method_16_code_21) rfl k) ?_
      refine own_go (fun t k => XS.iloadN X12z.here hx rfl (hb hby d_jdk_52_method_16_code_22) rfl k) ?_
      show own_G p e below (T12z.setTop (mkF m 23 #[.val (.ref arr), .val (.int (0 : Int32)), .val (.int (2 : Int32)), .val (.ref b10z), .val (.int (own_cnt [c0, c1])), .unset] [(.int (2 : Int32)), (.int (0 : Int32)), (.ref arr)])) _
      have f15z := ((VA.ext E10z).keep K12zq (by simp only [List.mem_cons, List.not_mem_nil, or_false, not_or]; exact ne_arr_b10z))
      obtain ⟨_, _, ⟨T16z, L16z, k16z, n16z⟩, -, X16z, ⟨Lc16z, hQ16z, l16z, y16z, z16z⟩, st16z⟩ := Jvm.LawKit.callS X12z hx (y := own_m21) hown (own_mw hZ hw 71 rfl) (own_mw hZ hw 72 rfl) (own_mw hZ hw 65 rfl) (own_mw hZ hw 73 rfl) (by decide) (backOf (W := 0) (own_tb2 l Z a0 hw [] arr kk c0 c1 T12z.heap O13z f15z S_AD S_HI S_LO) hZ (own_hw hw 73 rfl) (own_hw hw 65 rfl) (by decide) (by decide)) (g := (mkF m 23 #[.val (.ref arr), .val (.int (0 : Int32)), .val (.int (2 : Int32)), .val (.ref b10z), .val (.int (own_cnt [c0, c1])), .unset] [(.int (2 : Int32)), (.int (0 : Int32)), (.ref arr)])) rfl (by rw [hml]; rfl) (argsL := [(.ref arr), (.int (0 : Int32)), (.int (2 : Int32))]) (rest := []) (lenOf pd_1686865603 rfl) rfl (by show 2 * 0 + _ ≤ _; exact Nat.le_of_eq rfl) (hb hby d_jdk_52_method_16_code_23) (fun _ _ => ⟨rfl, rfl, (by decide : 1 + 1 ≤ _), (by decide : 2 + 4 ≤ _)⟩)
      dsimp only [Pt.U, Pt.locs, Pt.cells, Pt.slots] at X16z l16z y16z z16z st16z hQ16z
      subst l16z y16z z16z
      obtain ⟨b_16z, kb_16z, rfl, NQ16z, K16zq, r16z_0, r16z_1, r16z_2⟩ := hQ16z
      refine own_go st16z ?_
      have N16z := Fr.app N12z NQ16z
      have O17z := own_ext_keep O13z K16zq all0
      have K17z := K13z.trans K16zq all0
      have lz_b_16z : h0.size ≤ b_16z := Nat.le_trans K13z.1 r16z_2
      have ne_arr_b_16z : arr ≠ b_16z := Nat.ne_of_lt (Nat.lt_of_lt_of_le f15z.lt r16z_2)
      have ne_b10z_b_16z : b10z ≠ b_16z := Nat.ne_of_lt (Nat.lt_of_lt_of_le r12z_0.lt r16z_2)
      show own_G p e below (T16z.setTop (mkF m 26 #[.val (.ref arr), .val (.int (0 : Int32)), .val (.int (2 : Int32)), .val (.ref b10z), .val (.int (own_cnt [c0, c1])), .unset] [(.ref b_16z)])) _
      refine own_go (fun t k => XS.astore X16z.here hx rfl (hb hby d_jdk_52_method_16_code_26) rfl rfl (l' := #[.val (.ref arr), .val (.int (0 : Int32)), .val (.int (2 : Int32)), .val (.ref b10z), .val (.int (own_cnt [c0, c1])), .val (.ref b_16z)]) rfl k) ?_
      refine own_go (fun t k => XS.aload X16z.here hx rfl (hb hby d_jdk_52_method_16_code_28) rfl rfl k) ?_
      refine own_go (fun t k => XS.iload X16z.here hx rfl (hb hby d_jdk_52_method_16_code_30) rfl k) ?_
      show own_G p e below (T16z.setTop (mkF m 32 #[.val (.ref arr), .val (.int (0 : Int32)), .val (.int (2 : Int32)), .val (.ref b10z), .val (.int (own_cnt [c0, c1])), .val (.ref b_16z)] [(.int (own_cnt [c0, c1])), (.ref b_16z)])) _
      obtain ⟨_, _, ⟨T18z, L18z, k18z, n18z⟩, -, X18z, ⟨Lc18z, hQ18z, l18z, y18z, z18z⟩, st18z⟩ := Jvm.LawKit.callS X16z hx (y := own_m17) hown (own_mw hZ hw 87 rfl) (own_mw hZ hw 88 rfl) (own_mw hZ hw 65 rfl) (own_mw hZ hw 89 rfl) (by decide) (backOf (W := 0) (own_getChar l Z a0 hw [] b_16z kb_16z ([(.int (own_lo c0)), (.int (own_hi c0)), (.int (own_lo c1)), (.int (own_hi c1))]) ([c0, c1]) (own_cnt [c0, c1]) (own_cntN [c0, c1]) T16z.heap O17z r16z_0 rfl (own_cnt_toInt h3) (own_cnt_lt hn hc14z) h3 hc S_AD S_HI S_LO) hZ (own_hw hw 89 rfl) (own_hw hw 65 rfl) (by decide) (by decide)) (g := (mkF m 32 #[.val (.ref arr), .val (.int (0 : Int32)), .val (.int (2 : Int32)), .val (.ref b10z), .val (.int (own_cnt [c0, c1])), .val (.ref b_16z)] [(.int (own_cnt [c0, c1])), (.ref b_16z)])) rfl (by rw [hml]; rfl) (argsL := [(.ref b_16z), (.int (own_cnt [c0, c1]))]) (rest := []) (lenOf pd_1807843551 rfl) rfl (by show 2 * 0 + _ ≤ _; exact Nat.le_of_eq rfl) (hb hby d_jdk_52_method_16_code_32) (fun _ _ => ⟨rfl, rfl, (by decide : 2 + 0 ≤ _), (by decide : 6 + 0 ≤ _)⟩)
      dsimp only [Pt.U, Pt.locs, Pt.cells, Pt.slots] at X18z l18z y18z z18z st18z hQ18z
      subst l18z y18z z18z
      obtain ⟨rfl, NQ18z, K18zq⟩ := hQ18z
      refine own_go st18z ?_
      have N18z := Fr.app N16z NQ18z
      show own_G p e below (T18z.setTop (mkF m 35 #[.val (.ref arr), .val (.int (0 : Int32)), .val (.int (2 : Int32)), .val (.ref b10z), .val (.int (own_cnt [c0, c1])), .val (.ref b_16z)] [(.int ([c0, c1].getD (own_cntN [c0, c1]) 0))])) _
      refine own_go (fun t k => XS.sipush X18z.here hx rfl (hb hby d_jdk_52_method_16_code_35) k) ?_
      refine own_go (fun t k => XS.icmpYes X18z.here hx rfl (pc0 := 38) (pc' := 54) rfl (hb hby d_jdk_52_method_16_code_38) rfl (tlt (own_cnt_gt _ (own_cnt_lt hn hc14z))).2.2.1 (by decide) (by decide) k) ?_
      show own_G p e below (T18z.setTop (mkF m 54 #[.val (.ref arr), .val (.int (0 : Int32)), .val (.int (2 : Int32)), .val (.ref b10z), .val (.int (own_cnt [c0, c1])), .val (.ref b_16z)] [])) _
      refine own_go (fun t k => XS.aload X18z.here hx rfl (hb hby d_jdk_52_method_16_code_54) rfl rfl k) ?_
      exact own_ret X18z hx Bd.returns rfl (Or.inr (Or.inr (Or.inr (Or.inr ⟨rfl, rfl, rfl⟩)))) (hb hby d_jdk_52_method_16_code_56) hlk (Nat.le_of_ble_eq_true rfl) (Nat.le_of_ble_eq_true rfl) (by show Q_own_co Z arr kk [c0, c1] (2 : Int32) h0 _ T18z.heap _; rw [K18zq]; exact ⟨b_16z, kb_16z, [(.int (own_lo c0)), (.int (own_hi c0)), (.int (own_lo c1)), (.int (own_hi c1))], (1 : Int32), rfl, N18z, K17z, r16z_0, lz_b_16z, (Or.inr ⟨rfl, rfl⟩)⟩)
  · have VA : own_A Z h0 arr kk .char [(.int c0), (.int c1), (.int c2)] := q0
    show own_G p e below (s₁.setTop (mkF m 0 #[.val (.ref arr), .val (.int (0 : Int32)), .val (.int (3 : Int32)), .unset, .unset, .unset] [])) _
    refine own_go (fun t k => XS.iloadN X0.here hx rfl (hb hby d_jdk_52_method_16_code_0) rfl k) ?_
    obtain ⟨T19z, h19z, kc19z, X19z, e19z, E19z, V19z, st19z⟩ := own_newP X0 hx hZ (own_hw hw 67 rfl) e0 (g := (mkF m 1 #[.val (.ref arr), .val (.int (0 : Int32)), .val (.int (3 : Int32)), .unset, .unset, .unset] [(.int (3 : Int32))])) rfl (hb hby d_jdk_52_method_16_code_1) rfl (i := 3) (by decide) (cap := 3) (by decide) (by decide) (by decide) (by decide)
    obtain ⟨b19z, g19z⟩ : ∃ z, z = h0.size := ⟨_, rfl⟩
    rw [← g19z] at V19z st19z
    have fr_b19z : Z.heap.size ≤ b19z := g19z ▸ O0.1
    have lz_b19z : h0.size ≤ b19z := g19z ▸ K0.1
    have ne_arr_b19z : arr ≠ b19z := Nat.ne_of_lt (g19z ▸ VA.lt)
    have O20z := own_ext_trans O0 E19z
    have K20z := K0.ext E19z
    have V19z : own_A Z h19z b19z kc19z .byte [(.int (0 : Int32)), (.int (0 : Int32)), (.int (0 : Int32))] := V19z
    refine own_go st19z ?_
    refine own_go (fun t k => XS.astoreN X19z.here hx rfl (hb hby d_jdk_52_method_16_code_3) rfl rfl (l' := #[.val (.ref arr), .val (.int (0 : Int32)), .val (.int (3 : Int32)), .val (.ref b19z), .unset, .unset]) rfl k) ?_
    show own_G p e below (T19z.setTop (mkF m 4 #[.val (.ref arr), .val (.int (0 : Int32)), .val (.int (3 : Int32)), .val (.ref b19z), .unset, .unset] [])) _
    refine own_go (fun t k => XS.aloadN X19z.here hx rfl (hb hby d_jdk_52_method_16_code_4) rfl rfl k) ?_
    refine own_go (fun t k => XS.iloadN X19z.here hx rfl (hb hby d_jdk_52_method_16_code_5) rfl k) ?_
    refine own_go (fun t k => XS.aloadN X19z.here hx rfl (hb hby d_jdk_52_method_16_code_6) rfl rfl k) ?_
    show own_G p e below (T19z.setTop (mkF m 7 #[.val (.ref arr), .val (.int (0 : Int32)), .val (.int (3 : Int32)), .val (.ref b19z), .unset, .unset] [(.ref b19z), (.int (0 : Int32)), (.ref arr)])) _
    refine own_go (fun t k => XS.iconst X19z.here hx rfl (hb hby d_jdk_52_method_16_code_7) k) ?_
    refine own_go (fun t k => XS.iloadN X19z.here hx rfl (hb hby d_jdk_52_method_16_code_8) rfl k) ?_
    obtain ⟨_, _, ⟨T21z, L21z, k21z, n21z⟩, -, X21z, ⟨Lc21z, hQ21z, l21z, y21z, z21z⟩, st21z⟩ := Jvm.LawKit.callS X19z hx (y := own_m22) hown (own_mw hZ hw 68 rfl) (own_mw hZ hw 69 rfl) (own_mw hZ hw 65 rfl) (own_mw hZ hw 70 rfl) (by decide) (backOf (W := 0) (own_ci3 l Z a0 hw [] arr kk b19z kc19z c0 c1 c2 h19z O20z fr_b19z (VA.ext E19z) V19z ne_arr_b19z) hZ (own_hw hw 70 rfl) (own_hw hw 65 rfl) (by decide) (by decide)) (g := (mkF m 9 #[.val (.ref arr), .val (.int (0 : Int32)), .val (.int (3 : Int32)), .val (.ref b19z), .unset, .unset] [(.int (3 : Int32)), (.int (0 : Int32)), (.ref b19z), (.int (0 : Int32)), (.ref arr)])) rfl (by rw [hml]; rfl) (argsL := [(.ref arr), (.int (0 : Int32)), (.ref b19z), (.int (0 : Int32)), (.int (3 : Int32))]) (rest := []) (lenOf pd_3779053557 rfl) rfl (by show 2 * 0 + _ ≤ _; exact Nat.le_of_eq rfl) (hb hby d_jdk_52_method_16_code_9) (fun _ _ => ⟨rfl, e19z, (by decide : 1 + 0 ≤ _), (by decide : 3 + 0 ≤ _)⟩)
    dsimp only [Pt.U, Pt.locs, Pt.cells, Pt.slots] at X21z l21z y21z z21z st21z hQ21z
    subst l21z y21z z21z
    obtain ⟨vs_21z, rfl, NQ21z, K21zq, r21z_0, r21z_1⟩ := hQ21z
    refine own_go st21z ?_
    have N21z := Fr.app N0 NQ21z
    have O22z := own_ext_keep O20z K21zq (allS fr_b19z all0)
    have K22z := K20z.trans K21zq (allS (Or.inr lz_b19z) all0)
    show own_G p e below (T21z.setTop (mkF m 12 #[.val (.ref arr), .val (.int (0 : Int32)), .val (.int (3 : Int32)), .val (.ref b19z), .unset, .unset] [(.int (own_cnt [c0, c1, c2]))])) _
    refine own_go (fun t k => XS.istore X21z.here hx rfl (hb hby d_jdk_52_method_16_code_12) rfl (l' := #[.val (.ref arr), .val (.int (0 : Int32)), .val (.int (3 : Int32)), .val (.ref b19z), .val (.int (own_cnt [c0, c1, c2])), .unset]) rfl k) ?_
    refine own_go (fun t k => XS.iload X21z.here hx rfl (hb hby d_jdk_52_method_16_code_14) rfl k) ?_
    refine own_go (fun t k => XS.iloadN X21z.here hx rfl (hb hby d_jdk_52_method_16_code_16) rfl k) ?_
    show own_G p e below (T21z.setTop (mkF m 17 #[.val (.ref arr), .val (.int (0 : Int32)), .val (.int (3 : Int32)), .val (.ref b19z), .val (.int (own_cnt [c0, c1, c2])), .unset] [(.int (3 : Int32)), (.int (own_cnt [c0, c1, c2]))])) _
    by_cases hc23z : (own_cnt [c0, c1, c2]) = (3 : Int32)
    · refine own_go (fun t k => XS.icmpYes X21z.here hx rfl (pc0 := 17) (pc' := 57) rfl (hb hby d_jdk_52_method_16_code_17) rfl (teq hc23z).1 (by decide) (by decide) k) ?_
      show own_G p e below (T21z.setTop (mkF m 57 #[.val (.ref arr), .val (.int (0 : Int32)), .val (.int (3 : Int32)), .val (.ref b19z), .val (.int (own_cnt [c0, c1, c2])), .unset] [])) _
      refine own_go (fun t k => XS.aloadN X21z.here hx rfl (hb hby d_jdk_52_method_16_code_57) rfl rfl k) ?_
      exact own_ret X21z hx Bd.returns rfl (Or.inr (Or.inr (Or.inr (Or.inr ⟨rfl, rfl, rfl⟩)))) (hb hby d_jdk_52_method_16_code_58) hlk (Nat.le_of_ble_eq_true rfl) (Nat.le_of_ble_eq_true rfl) (by show Q_own_co Z arr kk [c0, c1, c2] (3 : Int32) h0 _ T21z.heap _; exact ⟨b19z, kc19z, vs_21z, (0 : Int32), rfl, N21z, K22z, r21z_0, lz_b19z, (own_rep_lat hn h3 hc23z (r21z_1 hc23z))⟩)
    · refine own_go (fun t k => XS.icmpNo X21z.here hx rfl (hb hby d_jdk_52_method_16_code_17) rfl (feq hc23z).1 k) ?_
      show own_G p e below (T21z.setTop (mkF m 20 #[.val (.ref arr), .val (.int (0 : Int32)), .val (.int (3 : Int32)), .val (.ref b19z), .val (.int (own_cnt [c0, c1, c2])), .unset] [])) _
      refine own_go (fun t k => XS.aloadN X21z.here hx rfl (hb hby d_jdk_52_method_16_code_20) rfl rfl k) ?_
      refine own_go (fun t k => XS.iloadN X21z.here hx rfl (hb hby d_jdk_52_method_16_code_21) rfl k) ?_
      refine own_go (fun t k => XS.iloadN X21z.here hx rfl (hb hby d_jdk_52_method_16_code_22) rfl k) ?_
      show own_G p e below (T21z.setTop (mkF m 23 #[.val (.ref arr), .val (.int (0 : Int32)), .val (.int (3 : Int32)), .val (.ref b19z), .val (.int (own_cnt [c0, c1, c2])), .unset] [(.int (3 : Int32)), (.int (0 : Int32)), (.ref arr)])) _
      have f24z := ((VA.ext E19z).keep K21zq (by simp only [List.mem_cons, List.not_mem_nil, or_false, not_or]; exact ne_arr_b19z))
      obtain ⟨_, _, ⟨T25z, L25z, k25z, n25z⟩, -, X25z, ⟨Lc25z, hQ25z, l25z, y25z, z25z⟩, st25z⟩ := Jvm.LawKit.callS X21z hx (y := own_m21) hown (own_mw hZ hw 71 rfl) (own_mw hZ hw 72 rfl) (own_mw hZ hw 65 rfl) (own_mw hZ hw 73 rfl) (by decide) (backOf (W := 0) (own_tb3 l Z a0 hw [] arr kk c0 c1 c2 T21z.heap O22z f24z S_AD S_HI S_LO) hZ (own_hw hw 73 rfl) (own_hw hw 65 rfl) (by decide) (by decide)) (g := (mkF m 23 #[.val (.ref arr), .val (.int (0 : Int32)), .val (.int (3 : Int32)), .val (.ref b19z), .val (.int (own_cnt [c0, c1, c2])), .unset] [(.int (3 : Int32)), (.int (0 : Int32)), (.ref arr)])) rfl (by rw [hml]; rfl) (argsL := [(.ref arr), (.int (0 : Int32)), (.int (3 : Int32))]) (rest := []) (lenOf pd_1686865603 rfl) rfl (by show 2 * 0 + _ ≤ _; exact Nat.le_of_eq rfl) (hb hby d_jdk_52_method_16_code_23) (fun _ _ => ⟨rfl, rfl, (by decide : 1 + 1 ≤ _), (by decide : 3 + 6 ≤ _)⟩)
      dsimp only [Pt.U, Pt.locs, Pt.cells, Pt.slots] at X25z l25z y25z z25z st25z hQ25z
      subst l25z y25z z25z
      obtain ⟨b_25z, kb_25z, rfl, NQ25z, K25zq, r25z_0, r25z_1, r25z_2⟩ := hQ25z
      refine own_go st25z ?_
      have N25z := Fr.app N21z NQ25z
      have O26z := own_ext_keep O22z K25zq all0
      have K26z := K22z.trans K25zq all0
      have lz_b_25z : h0.size ≤ b_25z := Nat.le_trans K22z.1 r25z_2
      have ne_arr_b_25z : arr ≠ b_25z := Nat.ne_of_lt (Nat.lt_of_lt_of_le f24z.lt r25z_2)
      have ne_b19z_b_25z : b19z ≠ b_25z := Nat.ne_of_lt (Nat.lt_of_lt_of_le r21z_0.lt r25z_2)
      show own_G p e below (T25z.setTop (mkF m 26 #[.val (.ref arr), .val (.int (0 : Int32)), .val (.int (3 : Int32)), .val (.ref b19z), .val (.int (own_cnt [c0, c1, c2])), .unset] [(.ref b_25z)])) _
      refine own_go (fun t k => XS.astore X25z.here hx rfl (hb hby d_jdk_52_method_16_code_26) rfl rfl (l' := #[.val (.ref arr), .val (.int (0 : Int32)), .val (.int (3 : Int32)), .val (.ref b19z), .val (.int (own_cnt [c0, c1, c2])), .val (.ref b_25z)]) rfl k) ?_
      refine own_go (fun t k => XS.aload X25z.here hx rfl (hb hby d_jdk_52_method_16_code_28) rfl rfl k) ?_
      refine own_go (fun t k => XS.iload X25z.here hx rfl (hb hby d_jdk_52_method_16_code_30) rfl k) ?_
      show own_G p e below (T25z.setTop (mkF m 32 #[.val (.ref arr), .val (.int (0 : Int32)), .val (.int (3 : Int32)), .val (.ref b19z), .val (.int (own_cnt [c0, c1, c2])), .val (.ref b_25z)] [(.int (own_cnt [c0, c1, c2])), (.ref b_25z)])) _
      obtain ⟨_, _, ⟨T27z, L27z, k27z, n27z⟩, -, X27z, ⟨Lc27z, hQ27z, l27z, y27z, z27z⟩, st27z⟩ := Jvm.LawKit.callS X25z hx (y := own_m17) hown (own_mw hZ hw 87 rfl) (own_mw hZ hw 88 rfl) (own_mw hZ hw 65 rfl) (own_mw hZ hw 89 rfl) (by decide) (backOf (W := 0) (own_getChar l Z a0 hw [] b_25z kb_25z ([(.int (own_lo c0)), (.int (own_hi c0)), (.int (own_lo c1)), (.int (own_hi c1)), (.int (own_lo c2)), (.int (own_hi c2))]) ([c0, c1, c2]) (own_cnt [c0, c1, c2]) (own_cntN [c0, c1, c2]) T25z.heap O26z r25z_0 rfl (own_cnt_toInt h3) (own_cnt_lt hn hc23z) h3 hc S_AD S_HI S_LO) hZ (own_hw hw 89 rfl) (own_hw hw 65 rfl) (by decide) (by decide)) (g := (mkF m 32 #[.val (.ref arr), .val (.int (0 : Int32)), .val (.int (3 : Int32)), .val (.ref b19z), .val (.int (own_cnt [c0, c1, c2])), .val (.ref b_25z)] [(.int (own_cnt [c0, c1, c2])), (.ref b_25z)])) rfl (by rw [hml]; rfl) (argsL := [(.ref b_25z), (.int (own_cnt [c0, c1, c2]))]) (rest := []) (lenOf pd_1807843551 rfl) rfl (by show 2 * 0 + _ ≤ _; exact Nat.le_of_eq rfl) (hb hby d_jdk_52_method_16_code_32) (fun _ _ => ⟨rfl, rfl, (by decide : 2 + 0 ≤ _), (by decide : 9 + 0 ≤ _)⟩)
      dsimp only [Pt.U, Pt.locs, Pt.cells, Pt.slots] at X27z l27z y27z z27z st27z hQ27z
      subst l27z y27z z27z
      obtain ⟨rfl, NQ27z, K27zq⟩ := hQ27z
      refine own_go st27z ?_
      have N27z := Fr.app N25z NQ27z
      show own_G p e below (T27z.setTop (mkF m 35 #[.val (.ref arr), .val (.int (0 : Int32)), .val (.int (3 : Int32)), .val (.ref b19z), .val (.int (own_cnt [c0, c1, c2])), .val (.ref b_25z)] [(.int ([c0, c1, c2].getD (own_cntN [c0, c1, c2]) 0))])) _
      refine own_go (fun t k => XS.sipush X27z.here hx rfl (hb hby d_jdk_52_method_16_code_35) k) ?_
      refine own_go (fun t k => XS.icmpYes X27z.here hx rfl (pc0 := 38) (pc' := 54) rfl (hb hby d_jdk_52_method_16_code_38) rfl (tlt (own_cnt_gt _ (own_cnt_lt hn hc23z))).2.2.1 (by decide) (by decide) k) ?_
      show own_G p e below (T27z.setTop (mkF m 54 #[.val (.ref arr), .val (.int (0 : Int32)), .val (.int (3 : Int32)), .val (.ref b19z), .val (.int (own_cnt [c0, c1, c2])), .val (.ref b_25z)] [])) _
      refine own_go (fun t k => XS.aload X27z.here hx rfl (hb hby d_jdk_52_method_16_code_54) rfl rfl k) ?_
      exact own_ret X27z hx Bd.returns rfl (Or.inr (Or.inr (Or.inr (Or.inr ⟨rfl, rfl, rfl⟩)))) (hb hby d_jdk_52_method_16_code_56) hlk (Nat.le_of_ble_eq_true rfl) (Nat.le_of_ble_eq_true rfl) (by show Q_own_co Z arr kk [c0, c1, c2] (3 : Int32) h0 _ T27z.heap _; rw [K27zq]; exact ⟨b_25z, kb_25z, [(.int (own_lo c0)), (.int (own_hi c0)), (.int (own_lo c1)), (.int (own_hi c1)), (.int (own_lo c2)), (.int (own_hi c2))], (1 : Int32), rfl, N27z, K26z, r25z_0, lz_b_25z, (Or.inr ⟨rfl, rfl⟩)⟩)
theorem ef_own_cfM (m : MethodId) (x0 : Addr) (x1 : Int32) : entryFrame m #[(.ref x0), (.int x1)] 2 = mkF m 0 #[.val (.ref x0), .val (.int x1)] [] := by first | (simp [entryFrame, mkF, argsToLocals, Value.category]; done) | rfl
theorem pf_own_cfM : plainFor own_m24 = true := plainFor_of_name (by simp [plainName, overriddenIn])
theorem d_jdk_52_method_15_code_0 : decode jdk_52_method_15_code 0 = .ok (.iload_n 1, 1) := by decide +kernel
theorem d_jdk_52_method_15_code_1 : decode jdk_52_method_15_code 1 = .ok (.aload_n 0, 1) := by decide +kernel
theorem d_jdk_52_method_15_code_2 : decode jdk_52_method_15_code 2 = .ok (.arraylength, 1) := by decide +kernel
theorem d_jdk_52_method_15_code_3 : decode jdk_52_method_15_code 3 = .ok (.isub, 1) := by decide +kernel
theorem d_jdk_52_method_15_code_4 : decode jdk_52_method_15_code 4 = .ok (.bipush 31, 2) := by decide +kernel
theorem d_jdk_52_method_15_code_6 : decode jdk_52_method_15_code 6 = .ok (.iushr, 1) := by decide +kernel
theorem d_jdk_52_method_15_code_7 : decode jdk_52_method_15_code 7 = .ok (.i2b, 1) := by decide +kernel
theorem d_jdk_52_method_15_code_8 : decode jdk_52_method_15_code 8 = .ok (.ireturn, 1) := by decide +kernel
def Q_own_cfM (Z : State) (arr : Addr) (kk : ClassId) (vs : (List Value)) (cs : (List Int32)) (cd : Int32) (n : Int32) (h0 : Heap) (v : Option Value) (h : Heap) (L : List Loc) : Prop := v = some (.int cd) ∧ Fr Z.heap.size L ∧ h = h0
set_option maxRecDepth 65536 in
set_option maxHeartbeats 40000000 in
theorem own_cfM (l : Launch) (Z : State) (a0 : Array Value) (hw : ∀ d ∈ tables_1, d.before a0 Z = true) (ws : List Jvm.Cond) (arr : Addr) (kk : ClassId) (vs : (List Value)) (cs : (List Int32)) (cd : Int32) (n : Int32) (h0 : Heap) (O0 : Ext Z.heap h0) (q0 : own_A Z h0 arr kk .byte vs) (hr : own_rep cs cd vs) (hn : n = Int32.ofNat cs.length) (h3 : cs.length ≤ 3) (hne : cs ≠ []) :
    MetFree l own_m24 (head1 (Jvm.Cond.code own_m24 jdk_52_method_15_code 2 (some .byte) :: ws) ({ frames := 0, cells := 0, slots := 0, locals := 0 } : Room)) (fun aa U => aa = #[(.ref arr), (.int n)] ∧ Z.Warmed39 U.vm ∧ U.heap = h0) (fun _ _ _ _ _ => True) (fun _ U o U' => ∃ v L, o = .returned v ∧ Q_own_cfM Z arr kk vs cs cd n h0 v U'.heap L ∧ FrameEnd U o U' L ({ frames := 0, cells := 0, slots := 0, locals := 0 } : Room).cells ({ frames := 0, cells := 0, slots := 0, locals := 0 } : Room).slots) := by
  refine MetFree.of_bodySF pf_own_cfM hisR ?_
  intro p e s m args below meth c s₁ Bd hml0 hP hK
  obtain ⟨rfl, hZ, hh⟩ := hP
  have hx := Bd.exec
  have hby := Bd.bytes
  have hlk := BodyLoose.notSynchronized Bd
  have hml : c.maxLocals = 2 := hml0
  have hown : s.vm.findClass own_s0 = some m.cls := findClass_of_methodNamed Bd.named
  have hnm := (name_of_methodNamed Bd.named Bd.method).1
  have X0 : Stand p l e ({ frames := 0, cells := 0, slots := 0, locals := 0 } : Room) s m #[(.ref arr), (.int n)] below meth c s₁ [] 0 0 := Stand.of_body Bd
  have e0 : s₁.heap = h0 := by rw [← hh, Bd.state]; rfl
  have N0 := Fr.nil Z.heap.size
  have K0 : Keep h0 h0 [] := Keep.refl _ _
  refine own_start (Q := Q_own_cfM Z arr kk vs cs cd n h0) (ef_own_cfM m (arr) (n)) ?_
  show own_G p e below (s₁.setTop (mkF m 0 #[.val (.ref arr), .val (.int n)] [])) _
  refine own_go (fun t k => XS.iloadN X0.here hx rfl (hb hby d_jdk_52_method_15_code_0) rfl k) ?_
  refine own_go (fun t k => XS.aloadN X0.here hx rfl (hb hby d_jdk_52_method_15_code_1) rfl rfl k) ?_
  refine own_go (own_len X0 hx hZ e0 q0 (z := (Int32.ofNat vs.length)) (own_lenV hr h3) (g := (mkF m 2 #[.val (.ref arr), .val (.int n)] [(.ref arr), (.int n)])) rfl rfl (hb hby d_jdk_52_method_15_code_2)) ?_
  show own_G p e below (s₁.setTop (mkF m 3 #[.val (.ref arr), .val (.int n)] [(.int (Int32.ofNat vs.length)), (.int n)])) _
  refine own_go (fun t k => XS.isub X0.here hx rfl (hb hby d_jdk_52_method_15_code_3) rfl k) ?_
  refine own_go (fun t k => XS.bipush X0.here hx rfl (hb hby d_jdk_52_method_15_code_4) k) ?_
  refine own_go (fun t k => XS.iushr X0.here hx rfl (hb hby d_jdk_52_method_15_code_6) rfl k) ?_
  show own_G p e below (s₁.setTop (mkF m 7 #[.val (.ref arr), .val (.int n)] [(.int (((n - (Int32.ofNat vs.length))).toUInt32 >>> ((31 : Int32) &&& 31).toUInt32).toInt32)])) _
  refine own_go (fun t k => XS.i2b X0.here hx rfl (hb hby d_jdk_52_method_15_code_7) rfl k) ?_
  exact own_ret X0 hx Bd.returns (own_nrB _) (Or.inl ⟨rfl, Or.inr (Or.inr (Or.inl rfl)), _, rfl⟩) (hb hby d_jdk_52_method_15_code_8) hlk (Nat.le_of_ble_eq_true rfl) (Nat.le_of_ble_eq_true rfl) (by show Q_own_cfM Z arr kk vs cs cd n h0 _ s₁.heap _; rw [e0]; exact ⟨(congrArg (fun z => some (Value.int z)) (own_cfal hr hn h3 hne)), N0, rfl⟩)
theorem ef_own_si2 (m : MethodId) (x0 : Addr) (x1 : Addr) (x2 : Int32) (x3 : Int32) : entryFrame m #[(.ref x0), (.ref x1), (.int x2), (.int x3), .null] 6 = mkF m 0 #[.val (.ref x0), .val (.ref x1), .val (.int x2), .val (.int x3), .val .null, .unset] [] := by first | (simp [entryFrame, mkF, argsToLocals, Value.category]; done) | rfl
theorem pf_own_si2 : plainFor own_m25 = true := plainFor_of_name (by simp [plainName, overriddenIn])
theorem pd_1807843550 : parseMethodDescriptor "([BI)B" = some ⟨[(.array .byte), .int], some .byte⟩ := by decide +kernel
theorem d_jdk_42_method_149_code_0 : decode jdk_42_method_149_code 0 = .ok (.aload_n 0, 1) := by decide +kernel
theorem d_jdk_42_method_149_code_1 : decode jdk_42_method_149_code 1 = .ok (.invokespecial 1, 3) := by decide +kernel
theorem d_jdk_42_method_149_code_11 : decode jdk_42_method_149_code 11 = .ok (.getfield 9, 3) := by decide +kernel
theorem d_jdk_42_method_149_code_14 : decode jdk_42_method_149_code 14 = .ok (.putfield 9, 3) := by decide +kernel
theorem d_jdk_42_method_149_code_17 : decode jdk_42_method_149_code 17 = .ok (.aload_n 0, 1) := by decide +kernel
theorem d_jdk_42_method_149_code_18 : decode jdk_42_method_149_code 18 = .ok (.ldc 7, 2) := by decide +kernel
theorem d_jdk_42_method_149_code_20 : decode jdk_42_method_149_code 20 = .ok (.getfield 15, 3) := by decide +kernel
theorem d_jdk_42_method_149_code_23 : decode jdk_42_method_149_code 23 = .ok (.putfield 15, 3) := by decide +kernel
theorem d_jdk_42_method_149_code_26 : decode jdk_42_method_149_code 26 = .ok (.return_, 1) := by decide +kernel
theorem d_jdk_42_method_149_code_27 : decode jdk_42_method_149_code 27 = .ok (.getstatic 38, 3) := by decide +kernel
theorem d_jdk_42_method_149_code_30 : decode jdk_42_method_149_code 30 = .ok (.ifCond .eq 28, 3) := by decide +kernel
theorem d_jdk_42_method_149_code_33 : decode jdk_42_method_149_code 33 = .ok (.aload_n 1, 1) := by decide +kernel
theorem d_jdk_42_method_149_code_34 : decode jdk_42_method_149_code 34 = .ok (.iload_n 2, 1) := by decide +kernel
theorem d_jdk_42_method_149_code_35 : decode jdk_42_method_149_code 35 = .ok (.iload_n 3, 1) := by decide +kernel
theorem d_jdk_42_method_149_code_36 : decode jdk_42_method_149_code 36 = .ok (.invokestatic 177, 3) := by decide +kernel
theorem d_jdk_42_method_149_code_39 : decode jdk_42_method_149_code 39 = .ok (.astore 5, 2) := by decide +kernel
theorem d_jdk_42_method_149_code_4 : decode jdk_42_method_149_code 4 = .ok (.iload_n 3, 1) := by decide +kernel
theorem d_jdk_42_method_149_code_41 : decode jdk_42_method_149_code 41 = .ok (.aload_n 0, 1) := by decide +kernel
theorem d_jdk_42_method_149_code_42 : decode jdk_42_method_149_code 42 = .ok (.aload 5, 2) := by decide +kernel
theorem d_jdk_42_method_149_code_44 : decode jdk_42_method_149_code 44 = .ok (.iload_n 3, 1) := by decide +kernel
theorem d_jdk_42_method_149_code_45 : decode jdk_42_method_149_code 45 = .ok (.invokestatic 47, 3) := by decide +kernel
theorem d_jdk_42_method_149_code_48 : decode jdk_42_method_149_code 48 = .ok (.putfield 15, 3) := by decide +kernel
theorem d_jdk_42_method_149_code_5 : decode jdk_42_method_149_code 5 = .ok (.ifCond .ne 22, 3) := by decide +kernel
theorem d_jdk_42_method_149_code_51 : decode jdk_42_method_149_code 51 = .ok (.aload_n 0, 1) := by decide +kernel
theorem d_jdk_42_method_149_code_52 : decode jdk_42_method_149_code 52 = .ok (.aload 5, 2) := by decide +kernel
theorem d_jdk_42_method_149_code_54 : decode jdk_42_method_149_code 54 = .ok (.putfield 9, 3) := by decide +kernel
theorem d_jdk_42_method_149_code_57 : decode jdk_42_method_149_code 57 = .ok (.return_, 1) := by decide +kernel
theorem d_jdk_42_method_149_code_8 : decode jdk_42_method_149_code 8 = .ok (.aload_n 0, 1) := by decide +kernel
theorem d_jdk_42_method_149_code_9 : decode jdk_42_method_149_code 9 = .ok (.ldc 7, 2) := by decide +kernel
def Q_own_si2 (Z : State) (a : Addr) (arr : Addr) (kk : ClassId) (cs : (List Int32)) (n : Int32) (cz : Int32) (h0 : Heap) (v : Option Value) (h : Heap) (L : List Loc) : Prop := ∃ b : Addr, ∃ kb : ClassId, ∃ vs : (List Value), ∃ cd : Int32, v = none ∧ Fr Z.heap.size L ∧ Keep h0 h [a] ∧ (Fld Z h a own_s1 "value" "[B" (.ref b)) ∧ (Fld Z h a own_s1 "coder" "B" (.int cd)) ∧ (own_A Z h b kb .byte vs) ∧ (own_rep cs cd vs)
set_option maxRecDepth 65536 in
set_option maxHeartbeats 40000000 in
theorem own_si2 (l : Launch) (Z : State) (a0 : Array Value) (hw : ∀ d ∈ tables_1, d.before a0 Z = true) (ws : List Jvm.Cond) (a : Addr) (arr : Addr) (kk : ClassId) (cs : (List Int32)) (n : Int32) (cz : Int32) (h0 : Heap) (O0 : Ext Z.heap h0) (q0 : Exa Z h0 a own_s1) (q1 : Z.heap.size ≤ a) (q2 : Fld Z h0 a own_s1 "value" "[B" .null) (q3 : Fld Z h0 a own_s1 "coder" "B" (.int (0 : Int32))) (q4 : own_A Z h0 arr kk .char (own_cv cs)) (h3 : cs.length ≤ 3) (hc : own_chs cs) (naa : arr ≠ a) (hn : n = Int32.ofNat cs.length) (S_CS : Sta Z Z.heap own_s1 "COMPACT_STRINGS" "Z" (.int cz)) (hcs : ¬ (cz = (0 : Int32))) (S_AD : Sta Z Z.heap own_s0 own_s4 "Z" (.int (1 : Int32))) (S_HI : Sta Z Z.heap own_s0 "HI_BYTE_SHIFT" "I" (.int (0 : Int32))) (S_LO : Sta Z Z.heap own_s0 "LO_BYTE_SHIFT" "I" (.int (8 : Int32))) :
    MetFree l own_m25 (head1 (Jvm.Cond.code own_m25 jdk_42_method_149_code 6 none :: ws) ({ frames := 4, cells := 4, slots := 20, locals := 57 } : Room)) (fun aa U => aa = #[(.ref a), (.ref arr), (.int (0 : Int32)), (.int n), .null] ∧ Z.Warmed39 U.vm ∧ U.heap = h0 ∧ CHv Z own_EL U.vm h0) (fun _ _ _ _ _ => True) (fun _ U o U' => ∃ v L, o = .returned v ∧ Q_own_si2 Z a arr kk cs n cz h0 v U'.heap L ∧ CHr Z own_EL U.vm U.heap U'.vm U'.heap ∧ ReturnedEndW U o U' L ({ frames := 4, cells := 4, slots := 20, locals := 57 } : Room).cells ({ frames := 4, cells := 4, slots := 20, locals := 57 } : Room).slots) := by
  refine MetFree.of_bodySF pf_own_si2 hisR ?_
  intro p e s m args below meth c s₁ Bd hml0 hP hK
  obtain ⟨rfl, hZ, hh, CH0⟩ := hP
  have hx := Bd.exec
  have hby := Bd.bytes
  have hlk := BodyLoose.notSynchronized Bd
  have hml : c.maxLocals = 6 := hml0
  have hown : s.vm.findClass own_s1 = some m.cls := findClass_of_methodNamed Bd.named
  have hnm := (name_of_methodNamed Bd.named Bd.method).1
  have X0 : Stand p l e ({ frames := 4, cells := 4, slots := 20, locals := 57 } : Room) s m #[(.ref a), (.ref arr), (.int (0 : Int32)), (.int n), .null] below meth c s₁ [] 0 0 := Stand.of_body Bd
  have e0 : s₁.heap = h0 := by rw [← hh, Bd.state]; rfl
  have N0 := Fr.nil Z.heap.size
  have K0 : Keep h0 h0 [a] := Keep.refl _ _
  have Si0 : s.Since s.vm h0.size := (State.WarmedH.refl s).since h0.size
  have Sn0 : h0.size ≤ h0.size := Nat.le_refl _
  have hZ : Z.Warmed39 (s.setVm s.vm).vm := hZ
  have hown : (s.setVm s.vm).vm.findClass own_s1 = some m.cls := hown
  have X0 := (show Stand _ _ _ _ (s.setVm s.vm) _ _ _ _ _ _ _ _ _ from X0)
  have CR0 : CHr Z own_EL s.vm h0 s.vm h0 := CHr.refl CH0
  refine own_startH (Q := Q_own_si2 Z a arr kk cs n cz h0) (ef_own_si2 m (a) (arr) ((0 : Int32)) (n)) ?_
  show own_G p e below (s₁.setTop (mkF m 0 #[.val (.ref a), .val (.ref arr), .val (.int (0 : Int32)), .val (.int n), .val .null, .unset] [])) _
  have sfa := own_safe_null (EL := own_EL) (vm := s.vm) hZ.alike q0 q2
  refine own_go (fun t k => XS.aloadN X0.here hx rfl (hb hby d_jdk_42_method_149_code_0) rfl rfl k) ?_
  obtain ⟨T1z, X1z, e1z, st1z⟩ := initO X0 hx hZ hown (own_hw hw 61 rfl) (own_hw hw 40 rfl) (own_hw hw 41 rfl) e0 (g := (mkF m 1 #[.val (.ref a), .val (.ref arr), .val (.int (0 : Int32)), .val (.int n), .val .null, .unset] [(.ref a)])) rfl (by rw [hml]; rfl) rfl (hb hby d_jdk_42_method_149_code_1) (by decide) (W := 0) (by show 2 * 0 + _ ≤ _; exact Nat.le_of_eq rfl) (by decide)
  refine own_go st1z ?_
  show own_G p e below (T1z.setTop (mkF m 4 #[.val (.ref a), .val (.ref arr), .val (.int (0 : Int32)), .val (.int n), .val .null, .unset] [])) _
  refine own_go (fun t k => XS.iloadN X1z.here hx rfl (hb hby d_jdk_42_method_149_code_4) rfl k) ?_
  by_cases hc2z : n = (0 : Int32)
  · refine own_go (fun t k => XS.ifNo X1z.here hx rfl (hb hby d_jdk_42_method_149_code_5) rfl ((if0 _ _).trans (teq hc2z).2) k) ?_
    show own_G p e below (T1z.setTop (mkF m 8 #[.val (.ref a), .val (.ref arr), .val (.int (0 : Int32)), .val (.int n), .val .null, .unset] [])) _
    refine own_go (fun t k => XS.aloadN X1z.here hx rfl (hb hby d_jdk_42_method_149_code_8) rfl rfl k) ?_
    obtain ⟨a3z, T3z, h3z, k3z, b3z, kb3z, X3z, e3z, E3z, Si3z, Sn3z, hZ3z, hown3z, Le3z, Lc3z, Lv3z, La3z, -, -, CQ3z, -, ne3z, st3z⟩ := ldcCH X1z hx hZ hown (own_hw hw 164 rfl) (own_wS hw) e1z Si0 Sn0 (own_EW hw) (List.mem_of_getElem? (i := 0) rfl) CR0.1 (vs := []) (z := 0) ⟨by decide, rfl⟩ (by decide) (by decide) (g := (mkF m 9 #[.val (.ref a), .val (.ref arr), .val (.int (0 : Int32)), .val (.int n), .val .null, .unset] [(.ref a)])) rfl (hb hby d_jdk_42_method_149_code_9) (n := 0) (by decide) (by decide) (by decide) (by decide)
    refine own_go st3z ?_
    have O4z := own_ext_trans O0 E3z
    have K4z := K0.ext E3z
    have CR4z := CR0.trans CQ3z
    have sf4z_a := CQ3z.safe q0.lt sfa
    have ne_a_a3z : a ≠ a3z := (ne3z _ sf4z_a).1
    have ne_a_b3z : a ≠ b3z := (ne3z _ sf4z_a).2
    have Lb3z : own_A Z h3z b3z kb3z .byte [] := own_A.of_arv La3z (by decide)
    show own_G p e below (T3z.setTop (mkF m 11 #[.val (.ref a), .val (.ref arr), .val (.int (0 : Int32)), .val (.int n), .val .null, .unset] [(.ref a3z), (.ref a)])) _
    obtain ⟨T5z, X5z, e5z, st5z⟩ := getF X3z hx hZ3z hown3z (host := "") (Or.inl (own_hw hw 95 rfl)) Via.refl e3z Lv3z (g := (mkF m 11 #[.val (.ref a), .val (.ref arr), .val (.int (0 : Int32)), .val (.int n), .val .null, .unset] [(.ref a3z), (.ref a)])) rfl rfl (hb hby d_jdk_42_method_149_code_11)
    refine own_go st5z ?_
    obtain ⟨T6z, h6z, X6z, e6z, W6z, st6z⟩ := putF X5z hx hZ3z hown3z (host := "") (Or.inl (own_hw hw 95 rfl)) Via.refl e5z (q2.ext E3z) (q0.ext E3z) (Or.inr ⟨(own_hw hw 96 rfl), rfl, hnm⟩) (own_hw hw 52 rfl) (ty := (.array .byte)) (by decide) rfl rfl (g := (mkF m 14 #[.val (.ref a), .val (.ref arr), .val (.int (0 : Int32)), .val (.int n), .val .null, .unset] [(.ref b3z), (.ref a)])) rfl rfl (hb hby d_jdk_42_method_149_code_14)
    refine own_go st6z ?_
    have N6z := Fr.snoc X6z N0 q1
    have F6z : Fld Z h6z a own_s1 "value" "[B" (.ref b3z) := (q2.ext E3z).same W6z
    have O7z := own_ext_wr O4z W6z q1
    have K7z := K4z.wr W6z (Or.inl (List.mem_of_getElem? (i := 0) rfl))
    have Sn7z := Nat.le_trans Sn3z (Keep.of_wr W6z).1
    have CR7z := CR4z.trans (CHr.wr W6z sf4z_a CR4z.1)
    have sf7z_a := Jvm.RoadKit.Safe.wr W6z sf4z_a CR4z.1 sf4z_a
    refine own_go (fun t k => XS.aloadN X6z.here hx rfl (hb hby d_jdk_42_method_149_code_17) rfl rfl k) ?_
    show own_G p e below (T6z.setTop (mkF m 18 #[.val (.ref a), .val (.ref arr), .val (.int (0 : Int32)), .val (.int n), .val .null, .unset] [(.ref a)])) _
    obtain ⟨a8z, T8z, h8z, k8z, b8z, kb8z, X8z, e8z, E8z, Si8z, Sn8z, hZ8z, hown8z, Le8z, Lc8z, Lv8z, La8z, -, -, CQ8z, -, ne8z, st8z⟩ := ldcCH X6z hx hZ3z hown3z (own_hw hw 164 rfl) (own_wS hw) e6z Si3z Sn7z (own_EW hw) (List.mem_of_getElem? (i := 0) rfl) CR7z.1 (vs := []) (z := 0) ⟨by decide, rfl⟩ (by decide) (by decide) (g := (mkF m 18 #[.val (.ref a), .val (.ref arr), .val (.int (0 : Int32)), .val (.int n), .val .null, .unset] [(.ref a)])) rfl (hb hby d_jdk_42_method_149_code_18) (n := 0) (by decide) (by decide) (by decide) (by decide)
    refine own_go st8z ?_
    have O9z := own_ext_trans O7z E8z
    have K9z := K7z.ext E8z
    have CR9z := CR7z.trans CQ8z
    have sf9z_a := CQ8z.safe ((q0.ext E3z).wr W6z).lt sf7z_a
    have ne_a_a8z : a ≠ a8z := (ne8z _ sf9z_a).1
    have ne_a_b8z : a ≠ b8z := (ne8z _ sf9z_a).2
    have Lb8z : own_A Z h8z b8z kb8z .byte [] := own_A.of_arv La8z (by decide)
    show own_G p e below (T8z.setTop (mkF m 20 #[.val (.ref a), .val (.ref arr), .val (.int (0 : Int32)), .val (.int n), .val .null, .unset] [(.ref a8z), (.ref a)])) _
    obtain ⟨T10z, X10z, e10z, st10z⟩ := getF X8z hx hZ8z hown8z (host := "") (Or.inl (own_hw hw 93 rfl)) Via.refl e8z Lc8z (g := (mkF m 20 #[.val (.ref a), .val (.ref arr), .val (.int (0 : Int32)), .val (.int n), .val .null, .unset] [(.ref a8z), (.ref a)])) rfl rfl (hb hby d_jdk_42_method_149_code_20)
    refine own_go st10z ?_
    have f11z := (((q3.ext E3z).other W6z (Or.inr (slot_ne (Or.inr (own_hw hw 94 rfl)) (Or.inr (own_hw hw 96 rfl)) (by decide) (t := .byte) (t' := (.array .byte)) (by decide) (by decide)))).ext E8z)
    obtain ⟨T12z, h12z, X12z, e12z, W12z, st12z⟩ := putF X10z hx hZ8z hown8z (host := "") (Or.inl (own_hw hw 93 rfl)) Via.refl e10z f11z (((q0.ext E3z).wr W6z).ext E8z) (Or.inr ⟨(own_hw hw 94 rfl), rfl, hnm⟩) (own_hw hw 52 rfl) (ty := .byte) (by decide) rfl rfl (g := (mkF m 23 #[.val (.ref a), .val (.ref arr), .val (.int (0 : Int32)), .val (.int n), .val .null, .unset] [(.int (0 : Int32)), (.ref a)])) rfl rfl (hb hby d_jdk_42_method_149_code_23)
    refine own_go st12z ?_
    have N12z := Fr.snoc X12z N6z q1
    have F12z : Fld Z h12z a own_s1 "coder" "B" (.int (0 : Int32)) := f11z.same W12z
    have O13z := own_ext_wr O9z W12z q1
    have K13z := K9z.wr W12z (Or.inl (List.mem_of_getElem? (i := 0) rfl))
    have Sn13z := Nat.le_trans Sn8z (Keep.of_wr W12z).1
    have CR13z := CR9z.trans (CHr.wr W12z sf9z_a CR9z.1)
    have sf13z_a := Jvm.RoadKit.Safe.wr W12z sf9z_a CR9z.1 sf9z_a
    have f14z := ((F6z.ext E8z).other W12z (Or.inr (slot_ne (Or.inr (own_hw hw 96 rfl)) (Or.inr (own_hw hw 94 rfl)) (by decide) (t := (.array .byte)) (t' := .byte) (by decide) (by decide))))
    have f15z := (((Lb3z.other W6z (Ne.symm ne_a_b3z)).ext E8z).other W12z (Ne.symm ne_a_b3z))
    exact own_retVH X12z Si8z (by rw [e12z]; exact Sn13z) hx Bd.returns (hb hby d_jdk_42_method_149_code_26) hlk (Nat.le_of_ble_eq_true rfl) (Nat.le_of_ble_eq_true rfl) (by show Q_own_si2 Z a arr kk cs n cz h0 _ T12z.heap _; rw [e12z]; exact ⟨b3z, kb3z, [], (0 : Int32), rfl, N12z, K13z, f14z, F12z, f15z, (own_rep0 (own_n0 hn h3 hc2z))⟩) (by rw [hh]; rw [e12z]; exact CR13z.trans (CHv.at X12z hZ8z (own_EW hw) CR13z.1))
  · refine own_go (fun t k => XS.ifYes X1z.here hx rfl (pc0 := 5) (pc' := 27) rfl (hb hby d_jdk_42_method_149_code_5) rfl ((if0 _ _).trans (feq hc2z).2) (by decide) (by decide) k) ?_
    show own_G p e below (T1z.setTop (mkF m 27 #[.val (.ref a), .val (.ref arr), .val (.int (0 : Int32)), .val (.int n), .val .null, .unset] [])) _
    obtain ⟨T16z, X16z, e16z, st16z⟩ := getS2 X1z hx hZ hown (host := "") (Or.inl (own_hw hw 62 rfl)) Via.refl e1z (S_CS.ext O0) (g := (mkF m 27 #[.val (.ref a), .val (.ref arr), .val (.int (0 : Int32)), .val (.int n), .val .null, .unset] [])) rfl (hb hby d_jdk_42_method_149_code_27)
    refine own_go st16z ?_
    refine own_go (fun t k => XS.ifNo X16z.here hx rfl (hb hby d_jdk_42_method_149_code_30) rfl ((if0 _ _).trans (feq hcs).1) k) ?_
    show own_G p e below (T16z.setTop (mkF m 33 #[.val (.ref a), .val (.ref arr), .val (.int (0 : Int32)), .val (.int n), .val .null, .unset] [])) _
    refine own_go (fun t k => XS.aloadN X16z.here hx rfl (hb hby d_jdk_42_method_149_code_33) rfl rfl k) ?_
    refine own_go (fun t k => XS.iloadN X16z.here hx rfl (hb hby d_jdk_42_method_149_code_34) rfl k) ?_
    refine own_go (fun t k => XS.iloadN X16z.here hx rfl (hb hby d_jdk_42_method_149_code_35) rfl k) ?_
    show own_G p e below (T16z.setTop (mkF m 36 #[.val (.ref a), .val (.ref arr), .val (.int (0 : Int32)), .val (.int n), .val .null, .unset] [(.int n), (.int (0 : Int32)), (.ref arr)])) _
    obtain ⟨_, _, ⟨T17z, L17z, k17z, n17z⟩, -, X17z, ⟨Lc17z, hQ17z, l17z, y17z, z17z⟩, st17z⟩ := Jvm.LawKit.callS X16z hx (y := own_m23) hown (own_mw hZ hw 63 rfl) (own_mw hZ hw 64 rfl) (own_mw hZ hw 65 rfl) (own_mw hZ hw 66 rfl) (by decide) (backOf (W := 0) (own_co l Z a0 hw [] arr kk cs n h0 O0 q4 hn h3 (own_n1 hn hc2z) hc S_AD S_HI S_LO) hZ (own_hw hw 66 rfl) (own_hw hw 65 rfl) (by decide) (by decide)) (g := (mkF m 36 #[.val (.ref a), .val (.ref arr), .val (.int (0 : Int32)), .val (.int n), .val .null, .unset] [(.int n), (.int (0 : Int32)), (.ref arr)])) rfl (by rw [hml]; rfl) (argsL := [(.ref arr), (.int (0 : Int32)), (.int n)]) (rest := []) (lenOf pd_1686865603 rfl) rfl (by show 2 * 0 + _ ≤ _; exact Nat.le_of_eq rfl) (hb hby d_jdk_42_method_149_code_36) (fun _ _ => ⟨rfl, e16z, (by decide : 0 + 2 ≤ _), (by decide : 0 + 9 ≤ _)⟩)
    dsimp only [Pt.U, Pt.locs, Pt.cells, Pt.slots] at X17z l17z y17z z17z st17z hQ17z
    subst l17z y17z z17z
    obtain ⟨b_17z, kb_17z, vs_17z, cd_17z, rfl, NQ17z, K17zq, r17z_0, r17z_1, r17z_2⟩ := hQ17z
    refine own_go st17z ?_
    have N17z := Fr.app N0 NQ17z
    have O18z := own_ext_keep O0 K17zq all0
    have K18z := K0.trans K17zq all0
    have Sn18z := Nat.le_trans Sn0 K17zq.1
    have CR18z := CR0.trans (CHr.keep K17zq all0 CR0.1)
    have sf18z_a := Jvm.RoadKit.Safe.keep K17zq all0 CR0.1 sfa
    have lz_b_17z : h0.size ≤ b_17z := Nat.le_trans K0.1 r17z_1
    have ne_a_b_17z : a ≠ b_17z := Nat.ne_of_lt (Nat.lt_of_lt_of_le q0.lt r17z_1)
    have ne_arr_b_17z : arr ≠ b_17z := Nat.ne_of_lt (Nat.lt_of_lt_of_le q4.lt r17z_1)
    show own_G p e below (T17z.setTop (mkF m 39 #[.val (.ref a), .val (.ref arr), .val (.int (0 : Int32)), .val (.int n), .val .null, .unset] [(.ref b_17z)])) _
    refine own_go (fun t k => XS.astore X17z.here hx rfl (hb hby d_jdk_42_method_149_code_39) rfl rfl (l' := #[.val (.ref a), .val (.ref arr), .val (.int (0 : Int32)), .val (.int n), .val .null, .val (.ref b_17z)]) rfl k) ?_
    refine own_go (fun t k => XS.aloadN X17z.here hx rfl (hb hby d_jdk_42_method_149_code_41) rfl rfl k) ?_
    refine own_go (fun t k => XS.aload X17z.here hx rfl (hb hby d_jdk_42_method_149_code_42) rfl rfl k) ?_
    show own_G p e below (T17z.setTop (mkF m 44 #[.val (.ref a), .val (.ref arr), .val (.int (0 : Int32)), .val (.int n), .val .null, .val (.ref b_17z)] [(.ref b_17z), (.ref a)])) _
    refine own_go (fun t k => XS.iloadN X17z.here hx rfl (hb hby d_jdk_42_method_149_code_44) rfl k) ?_
    obtain ⟨_, _, ⟨T19z, L19z, k19z, n19z⟩, -, X19z, ⟨Lc19z, hQ19z, l19z, y19z, z19z⟩, st19z⟩ := Jvm.LawKit.callS X17z hx (y := own_m24) hown (own_mw hZ hw 90 rfl) (own_mw hZ hw 91 rfl) (own_mw hZ hw 65 rfl) (own_mw hZ hw 92 rfl) (by decide) (backOf (W := 1) (own_cfM l Z a0 hw [] b_17z kb_17z vs_17z cs cd_17z n T17z.heap O18z r17z_0 r17z_2 hn h3 (own_n1 hn hc2z)) hZ (own_hw hw 92 rfl) (own_hw hw 65 rfl) (by decide) (by decide)) (g := (mkF m 45 #[.val (.ref a), .val (.ref arr), .val (.int (0 : Int32)), .val (.int n), .val .null, .val (.ref b_17z)] [(.int n), (.ref b_17z), (.ref a)])) rfl (by rw [hml]; rfl) (argsL := [(.ref b_17z), (.int n)]) (rest := [(.ref a)]) (lenOf pd_1807843550 rfl) rfl (by show 2 * 0 + _ ≤ _; exact Nat.le_of_eq rfl) (hb hby d_jdk_42_method_149_code_45) (fun _ _ => ⟨rfl, rfl, (by decide : 2 + 0 ≤ _), (by decide : 9 + 0 ≤ _)⟩)
    dsimp only [Pt.U, Pt.locs, Pt.cells, Pt.slots] at X19z l19z y19z z19z st19z hQ19z
    subst l19z y19z z19z
    obtain ⟨rfl, NQ19z, K19zq⟩ := hQ19z
    refine own_go st19z ?_
    have N19z := Fr.app N17z NQ19z
    show own_G p e below (T19z.setTop (mkF m 48 #[.val (.ref a), .val (.ref arr), .val (.int (0 : Int32)), .val (.int n), .val .null, .val (.ref b_17z)] [(.int cd_17z), (.ref a)])) _
    obtain ⟨T20z, h20z, X20z, e20z, W20z, st20z⟩ := putF X19z hx hZ hown (host := "") (Or.inl (own_hw hw 93 rfl)) Via.refl K19zq (q3.keep K17zq (by simp)) (q0.keep K17zq) (Or.inr ⟨(own_hw hw 94 rfl), rfl, hnm⟩) (own_hw hw 52 rfl) (ty := .byte) (by decide) (own_cdN r17z_2) (own_cdF r17z_2) (g := (mkF m 48 #[.val (.ref a), .val (.ref arr), .val (.int (0 : Int32)), .val (.int n), .val .null, .val (.ref b_17z)] [(.int cd_17z), (.ref a)])) rfl rfl (hb hby d_jdk_42_method_149_code_48)
    refine own_go st20z ?_
    have N20z := Fr.snoc X20z N19z q1
    have F20z : Fld Z h20z a own_s1 "coder" "B" (.int cd_17z) := (q3.keep K17zq (by simp)).same W20z
    have O21z := own_ext_wr O18z W20z q1
    have K21z := K18z.wr W20z (Or.inl (List.mem_of_getElem? (i := 0) rfl))
    have Sn21z := Nat.le_trans Sn18z (Keep.of_wr W20z).1
    have CR21z := CR18z.trans (CHr.wr W20z sf18z_a CR18z.1)
    have sf21z_a := Jvm.RoadKit.Safe.wr W20z sf18z_a CR18z.1 sf18z_a
    refine own_go (fun t k => XS.aloadN X20z.here hx rfl (hb hby d_jdk_42_method_149_code_51) rfl rfl k) ?_
    refine own_go (fun t k => XS.aload X20z.here hx rfl (hb hby d_jdk_42_method_149_code_52) rfl rfl k) ?_
    show own_G p e below (T20z.setTop (mkF m 54 #[.val (.ref a), .val (.ref arr), .val (.int (0 : Int32)), .val (.int n), .val .null, .val (.ref b_17z)] [(.ref b_17z), (.ref a)])) _
    have f22z := ((q2.keep K17zq (by simp)).other W20z (Or.inr (slot_ne (Or.inr (own_hw hw 96 rfl)) (Or.inr (own_hw hw 94 rfl)) (by decide) (t := (.array .byte)) (t' := .byte) (by decide) (by decide))))
    obtain ⟨T23z, h23z, X23z, e23z, W23z, st23z⟩ := putF X20z hx hZ hown (host := "") (Or.inl (own_hw hw 95 rfl)) Via.refl e20z f22z ((q0.keep K17zq).wr W20z) (Or.inr ⟨(own_hw hw 96 rfl), rfl, hnm⟩) (own_hw hw 52 rfl) (ty := (.array .byte)) (by decide) rfl rfl (g := (mkF m 54 #[.val (.ref a), .val (.ref arr), .val (.int (0 : Int32)), .val (.int n), .val .null, .val (.ref b_17z)] [(.ref b_17z), (.ref a)])) rfl rfl (hb hby d_jdk_42_method_149_code_54)
    refine own_go st23z ?_
    have N23z := Fr.snoc X23z N20z q1
    have F23z : Fld Z h23z a own_s1 "value" "[B" (.ref b_17z) := f22z.same W23z
    have O24z := own_ext_wr O21z W23z q1
    have K24z := K21z.wr W23z (Or.inl (List.mem_of_getElem? (i := 0) rfl))
    have Sn24z := Nat.le_trans Sn21z (Keep.of_wr W23z).1
    have CR24z := CR21z.trans (CHr.wr W23z sf21z_a CR21z.1)
    have sf24z_a := Jvm.RoadKit.Safe.wr W23z sf21z_a CR21z.1 sf21z_a
    have f25z := (F20z.other W23z (Or.inr (slot_ne (Or.inr (own_hw hw 94 rfl)) (Or.inr (own_hw hw 96 rfl)) (by decide) (t := .byte) (t' := (.array .byte)) (by decide) (by decide))))
    have f26z := ((r17z_0.other W20z (Ne.symm ne_a_b_17z)).other W23z (Ne.symm ne_a_b_17z))
    exact own_retVH X23z Si0 (by rw [e23z]; exact Sn24z) hx Bd.returns (hb hby d_jdk_42_method_149_code_57) hlk (Nat.le_of_ble_eq_true rfl) (Nat.le_of_ble_eq_true rfl) (by show Q_own_si2 Z a arr kk cs n cz h0 _ T23z.heap _; rw [e23z]; exact ⟨b_17z, kb_17z, vs_17z, cd_17z, rfl, N23z, K24z, F23z, f25z, f26z, r17z_2⟩) (by rw [hh]; rw [e23z]; exact CR24z.trans (CHv.at X23z hZ (own_EW hw) CR24z.1))
theorem ef_own_si1 (m : MethodId) (x0 : Addr) (x1 : Addr) : entryFrame m #[(.ref x0), (.ref x1)] 2 = mkF m 0 #[.val (.ref x0), .val (.ref x1)] [] := by first | (simp [entryFrame, mkF, argsToLocals, Value.category]; done) | rfl
theorem pf_own_si1 : plainFor own_m26 = true := plainFor_of_name (by simp [plainName, overriddenIn])
theorem pd_2391355479 : parseMethodDescriptor "([CIILjava/lang/Void;)V" = some ⟨[(.array .char), .int, .int, (.object "java/lang/Void")], none⟩ := by decide +kernel
theorem d_jdk_42_method_3_code_0 : decode jdk_42_method_3_code 0 = .ok (.aload_n 0, 1) := by decide +kernel
theorem d_jdk_42_method_3_code_1 : decode jdk_42_method_3_code 1 = .ok (.aload_n 1, 1) := by decide +kernel
theorem d_jdk_42_method_3_code_2 : decode jdk_42_method_3_code 2 = .ok (.iconst 0, 1) := by decide +kernel
theorem d_jdk_42_method_3_code_3 : decode jdk_42_method_3_code 3 = .ok (.aload_n 1, 1) := by decide +kernel
theorem d_jdk_42_method_3_code_4 : decode jdk_42_method_3_code 4 = .ok (.arraylength, 1) := by decide +kernel
theorem d_jdk_42_method_3_code_5 : decode jdk_42_method_3_code 5 = .ok (.aconst_null, 1) := by decide +kernel
theorem d_jdk_42_method_3_code_6 : decode jdk_42_method_3_code 6 = .ok (.invokespecial 27, 3) := by decide +kernel
theorem d_jdk_42_method_3_code_9 : decode jdk_42_method_3_code 9 = .ok (.return_, 1) := by decide +kernel
def Q_own_si1 (Z : State) (a : Addr) (arr : Addr) (kk : ClassId) (cs : (List Int32)) (cz : Int32) (h0 : Heap) (v : Option Value) (h : Heap) (L : List Loc) : Prop := ∃ b : Addr, ∃ kb : ClassId, ∃ vs : (List Value), ∃ cd : Int32, v = none ∧ Fr Z.heap.size L ∧ Keep h0 h [a] ∧ (Fld Z h a own_s1 "value" "[B" (.ref b)) ∧ (Fld Z h a own_s1 "coder" "B" (.int cd)) ∧ (own_A Z h b kb .byte vs) ∧ (own_rep cs cd vs)
set_option maxRecDepth 65536 in
set_option maxHeartbeats 40000000 in
theorem own_si1 (l : Launch) (Z : State) (a0 : Array Value) (hw : ∀ d ∈ tables_1, d.before a0 Z = true) (ws : List Jvm.Cond) (a : Addr) (arr : Addr) (kk : ClassId) (cs : (List Int32)) (cz : Int32) (h0 : Heap) (O0 : Ext Z.heap h0) (q0 : Exa Z h0 a own_s1) (q1 : Z.heap.size ≤ a) (q2 : Fld Z h0 a own_s1 "value" "[B" .null) (q3 : Fld Z h0 a own_s1 "coder" "B" (.int (0 : Int32))) (q4 : own_A Z h0 arr kk .char (own_cv cs)) (h3 : cs.length ≤ 3) (hc : own_chs cs) (naa : arr ≠ a) (S_CS : Sta Z Z.heap own_s1 "COMPACT_STRINGS" "Z" (.int cz)) (hcs : ¬ (cz = (0 : Int32))) (S_AD : Sta Z Z.heap own_s0 own_s4 "Z" (.int (1 : Int32))) (S_HI : Sta Z Z.heap own_s0 "HI_BYTE_SHIFT" "I" (.int (0 : Int32))) (S_LO : Sta Z Z.heap own_s0 "LO_BYTE_SHIFT" "I" (.int (8 : Int32))) :
    MetFree l own_m26 (head1 (Jvm.Cond.code own_m26 jdk_42_method_3_code 2 none :: ws) ({ frames := 5, cells := 4, slots := 20, locals := 74 } : Room)) (fun aa U => aa = #[(.ref a), (.ref arr)] ∧ Z.Warmed39 U.vm ∧ U.heap = h0 ∧ CHv Z own_EL U.vm h0) (fun _ _ _ _ _ => True) (fun _ U o U' => ∃ v L, o = .returned v ∧ Q_own_si1 Z a arr kk cs cz h0 v U'.heap L ∧ CHr Z own_EL U.vm U.heap U'.vm U'.heap ∧ ReturnedEndW U o U' L ({ frames := 5, cells := 4, slots := 20, locals := 74 } : Room).cells ({ frames := 5, cells := 4, slots := 20, locals := 74 } : Room).slots) := by
  refine MetFree.of_bodySF pf_own_si1 hisR ?_
  intro p e s m args below meth c s₁ Bd hml0 hP hK
  obtain ⟨rfl, hZ, hh, CH0⟩ := hP
  have hx := Bd.exec
  have hby := Bd.bytes
  have hlk := BodyLoose.notSynchronized Bd
  have hml : c.maxLocals = 2 := hml0
  have hown : s.vm.findClass own_s1 = some m.cls := findClass_of_methodNamed Bd.named
  have hnm := (name_of_methodNamed Bd.named Bd.method).1
  have X0 : Stand p l e ({ frames := 5, cells := 4, slots := 20, locals := 74 } : Room) s m #[(.ref a), (.ref arr)] below meth c s₁ [] 0 0 := Stand.of_body Bd
  have e0 : s₁.heap = h0 := by rw [← hh, Bd.state]; rfl
  have N0 := Fr.nil Z.heap.size
  have K0 : Keep h0 h0 [a] := Keep.refl _ _
  have Si0 : s.Since s.vm h0.size := (State.WarmedH.refl s).since h0.size
  have Sn0 : h0.size ≤ h0.size := Nat.le_refl _
  have hZ : Z.Warmed39 (s.setVm s.vm).vm := hZ
  have hown : (s.setVm s.vm).vm.findClass own_s1 = some m.cls := hown
  have X0 := (show Stand _ _ _ _ (s.setVm s.vm) _ _ _ _ _ _ _ _ _ from X0)
  have CR0 : CHr Z own_EL s.vm h0 s.vm h0 := CHr.refl CH0
  refine own_startH (Q := Q_own_si1 Z a arr kk cs cz h0) (ef_own_si1 m (a) (arr)) ?_
  show own_G p e below (s₁.setTop (mkF m 0 #[.val (.ref a), .val (.ref arr)] [])) _
  refine own_go (fun t k => XS.aloadN X0.here hx rfl (hb hby d_jdk_42_method_3_code_0) rfl rfl k) ?_
  refine own_go (fun t k => XS.aloadN X0.here hx rfl (hb hby d_jdk_42_method_3_code_1) rfl rfl k) ?_
  refine own_go (fun t k => XS.iconst X0.here hx rfl (hb hby d_jdk_42_method_3_code_2) k) ?_
  show own_G p e below (s₁.setTop (mkF m 3 #[.val (.ref a), .val (.ref arr)] [(.int (0 : Int32)), (.ref arr), (.ref a)])) _
  refine own_go (fun t k => XS.aloadN X0.here hx rfl (hb hby d_jdk_42_method_3_code_3) rfl rfl k) ?_
  refine own_go (own_len X0 hx hZ e0 q4 (z := (Int32.ofNat cs.length)) (own_lenI h3) (g := (mkF m 4 #[.val (.ref a), .val (.ref arr)] [(.ref arr), (.int (0 : Int32)), (.ref arr), (.ref a)])) rfl rfl (hb hby d_jdk_42_method_3_code_4)) ?_
  refine own_go (fun t k => XS.aconstNull X0.here hx rfl (hb hby d_jdk_42_method_3_code_5) k) ?_
  show own_G p e below (s₁.setTop (mkF m 6 #[.val (.ref a), .val (.ref arr)] [.null, (.int (Int32.ofNat cs.length)), (.int (0 : Int32)), (.ref arr), (.ref a)])) _
  obtain ⟨_, _, ⟨T1z, L1z, k1z, n1z⟩, -, X1z, Si1z, gr1z, ⟨Lc1z, hQ1z, l1z, y1z, z1z, CQ1z⟩, st1z⟩ := X0.specialBackS hx (y := own_m25) rfl hown (own_mw hZ hw 57 rfl) (own_mw hZ hw 58 rfl) (own_mw hZ hw 60 rfl) (by decide) (backOfSH (W := 0) (own_si2 l Z a0 hw [] a arr kk cs (Int32.ofNat cs.length) cz h0 O0 q0 q1 q2 q3 q4 h3 hc naa rfl S_CS hcs S_AD S_HI S_LO) hZ (own_hw hw 60 rfl) (own_hw hw 53 rfl) (by decide) (by decide) (own_EW hw) CR0.1) (g := (mkF m 6 #[.val (.ref a), .val (.ref arr)] [.null, (.int (Int32.ofNat cs.length)), (.int (0 : Int32)), (.ref arr), (.ref a)])) rfl (by rw [hml]; rfl) (Steps.refl _) (a := a) (argsL := [(.ref arr), (.int (0 : Int32)), (.int (Int32.ofNat cs.length)), .null]) (rest := []) (lenOf pd_2391355479 rfl) rfl (by show 2 * 0 + _ ≤ _; exact Nat.le_of_eq rfl) (hb hby d_jdk_42_method_3_code_6) (fun _ _ => ⟨rfl, e0, (by decide : 0 + 4 ≤ _), (by decide : 0 + 20 ≤ _)⟩)
  dsimp only [Pt.U, Pt.locs, Pt.cells, Pt.slots] at X1z l1z y1z z1z st1z hQ1z Si1z gr1z CQ1z
  subst l1z y1z z1z
  obtain ⟨b_1z, kb_1z, vs_1z, cd_1z, rfl, NQ1z, K1zq, r1z_0, r1z_1, r1z_2, r1z_3⟩ := hQ1z
  refine own_tr st1z ?_
  have N1z := Fr.app N0 NQ1z
  have Sx1z : s.Since T1z.vm T1z.heap.size := foldS Si0 (by first | exact Sn0 | (rw [e0]; exact Sn0)) Si1z gr1z
  have hZ1z : Z.Warmed39 (s.setVm T1z.vm).vm := State.Warmed39.trans (t := s.setVm s.vm) hZ Si1z.1
  have hown1z : (s.setVm T1z.vm).vm.findClass own_s1 = some m.cls := by rw [show (s.setVm T1z.vm).vm = T1z.vm from rfl, Si1z.1.alike.findClass]; exact hown
  have X1z := (show Stand _ _ _ _ (s.setVm T1z.vm) _ _ _ _ _ _ _ _ _ from X1z)
  have Sn1z : T1z.heap.size ≤ T1z.heap.size := Nat.le_refl _
  have O2z := own_ext_keep O0 K1zq (allS q1 all0)
  have K2z := K0.trans K1zq (allS (Or.inl (List.mem_of_getElem? (i := 0) rfl)) all0)
  have CR2z := CR0.trans CQ1z
  show own_G p e below (T1z.setTop (mkF m 9 #[.val (.ref a), .val (.ref arr)] [])) _
  exact own_retVH X1z Sx1z Sn1z hx Bd.returns (hb hby d_jdk_42_method_3_code_9) hlk (Nat.le_of_ble_eq_true rfl) (Nat.le_of_ble_eq_true rfl) (by show Q_own_si1 Z a arr kk cs cz h0 _ T1z.heap _; exact ⟨b_1z, kb_1z, vs_1z, cd_1z, rfl, N1z, K2z, r1z_0, r1z_1, r1z_2, r1z_3⟩) (by rw [hh]; exact CR2z.trans (CHv.at X1z hZ1z (own_EW hw) CR2z.1))
theorem ef_own_coder (m : MethodId) (x0 : Addr) : entryFrame m #[(.ref x0)] 1 = mkF m 0 #[.val (.ref x0)] [] := by first | (simp [entryFrame, mkF, argsToLocals, Value.category]; done) | rfl
theorem pf_own_coder : plainFor own_m27 = true := plainFor_of_name (by simp [plainName, overriddenIn])
theorem d_jdk_42_method_152_code_0 : decode jdk_42_method_152_code 0 = .ok (.getstatic 38, 3) := by decide +kernel
theorem d_jdk_42_method_152_code_10 : decode jdk_42_method_152_code 10 = .ok (.goto 4, 3) := by decide +kernel
theorem d_jdk_42_method_152_code_14 : decode jdk_42_method_152_code 14 = .ok (.ireturn, 1) := by decide +kernel
theorem d_jdk_42_method_152_code_3 : decode jdk_42_method_152_code 3 = .ok (.ifCond .eq 10, 3) := by decide +kernel
theorem d_jdk_42_method_152_code_6 : decode jdk_42_method_152_code 6 = .ok (.aload_n 0, 1) := by decide +kernel
theorem d_jdk_42_method_152_code_7 : decode jdk_42_method_152_code 7 = .ok (.getfield 15, 3) := by decide +kernel
def Q_own_coder (Z : State) (a1 : Addr) (b1 : Addr) (k1 : ClassId) (v1 : (List Value)) (d1 : Int32) (cs1 : (List Int32)) (cz : Int32) (h0 : Heap) (v : Option Value) (h : Heap) (L : List Loc) : Prop := v = some (.int d1) ∧ Fr Z.heap.size L ∧ h = h0
set_option maxRecDepth 65536 in
set_option maxHeartbeats 40000000 in
theorem own_coder (l : Launch) (Z : State) (a0 : Array Value) (hw : ∀ d ∈ tables_1, d.before a0 Z = true) (ws : List Jvm.Cond) (a1 : Addr) (b1 : Addr) (k1 : ClassId) (v1 : (List Value)) (d1 : Int32) (cs1 : (List Int32)) (cz : Int32) (h0 : Heap) (O0 : Ext Z.heap h0) (q0 : Exa Z h0 a1 own_s1) (q1 : Fld Z h0 a1 own_s1 "value" "[B" (.ref b1)) (q2 : Fld Z h0 a1 own_s1 "coder" "B" (.int d1)) (q3 : own_A Z h0 b1 k1 .byte v1) (hr1 : own_rep cs1 d1 v1) (h31 : cs1.length ≤ 3) (S_CS : Sta Z Z.heap own_s1 "COMPACT_STRINGS" "Z" (.int cz)) (hcs : ¬ (cz = (0 : Int32))) :
    MetFree l own_m27 (head1 (Jvm.Cond.code own_m27 jdk_42_method_152_code 1 (some .byte) :: ws) ({ frames := 0, cells := 0, slots := 0, locals := 0 } : Room)) (fun aa U => aa = #[(.ref a1)] ∧ Z.Warmed39 U.vm ∧ U.heap = h0) (fun _ _ _ _ _ => True) (fun _ U o U' => ∃ v L, o = .returned v ∧ Q_own_coder Z a1 b1 k1 v1 d1 cs1 cz h0 v U'.heap L ∧ FrameEnd U o U' L ({ frames := 0, cells := 0, slots := 0, locals := 0 } : Room).cells ({ frames := 0, cells := 0, slots := 0, locals := 0 } : Room).slots) := by
  refine MetFree.of_bodySF pf_own_coder hisR ?_
  intro p e s m args below meth c s₁ Bd hml0 hP hK
  obtain ⟨rfl, hZ, hh⟩ := hP
  have hx := Bd.exec
  have hby := Bd.bytes
  have hlk := BodyLoose.notSynchronized Bd
  have hml : c.maxLocals = 1 := hml0
  have hown : s.vm.findClass own_s1 = some m.cls := findClass_of_methodNamed Bd.named
  have hnm := (name_of_methodNamed Bd.named Bd.method).1
  have X0 : Stand p l e ({ frames := 0, cells := 0, slots := 0, locals := 0 } : Room) s m #[(.ref a1)] below meth c s₁ [] 0 0 := Stand.of_body Bd
  have e0 : s₁.heap = h0 := by rw [← hh, Bd.state]; rfl
  have N0 := Fr.nil Z.heap.size
  have K0 : Keep h0 h0 [] := Keep.refl _ _
  refine own_start (Q := Q_own_coder Z a1 b1 k1 v1 d1 cs1 cz h0) (ef_own_coder m (a1)) ?_
  show own_G p e below (s₁.setTop (mkF m 0 #[.val (.ref a1)] [])) _
  obtain ⟨T1z, X1z, e1z, st1z⟩ := getS2 X0 hx hZ hown (host := "") (Or.inl (own_hw hw 62 rfl)) Via.refl e0 (S_CS.ext O0) (g := (mkF m 0 #[.val (.ref a1)] [])) rfl (hb hby d_jdk_42_method_152_code_0)
  refine own_go st1z ?_
  refine own_go (fun t k => XS.ifNo X1z.here hx rfl (hb hby d_jdk_42_method_152_code_3) rfl ((if0 _ _).trans (feq hcs).1) k) ?_
  show own_G p e below (T1z.setTop (mkF m 6 #[.val (.ref a1)] [])) _
  refine own_go (fun t k => XS.aloadN X1z.here hx rfl (hb hby d_jdk_42_method_152_code_6) rfl rfl k) ?_
  obtain ⟨T2z, X2z, e2z, st2z⟩ := getF X1z hx hZ hown (host := "") (Or.inl (own_hw hw 93 rfl)) Via.refl e1z q2 (g := (mkF m 7 #[.val (.ref a1)] [(.ref a1)])) rfl rfl (hb hby d_jdk_42_method_152_code_7)
  refine own_go st2z ?_
  refine own_go (fun t k => XS.goto X2z.here hx rfl (pc0 := 10) (pc' := 14) rfl (hb hby d_jdk_42_method_152_code_10) (by decide) (by decide) k) ?_
  show own_G p e below (T2z.setTop (mkF m 14 #[.val (.ref a1)] [(.int d1)])) _
  exact own_ret X2z hx Bd.returns (own_cdN hr1) (Or.inl ⟨rfl, Or.inr (Or.inr (Or.inl rfl)), _, rfl⟩) (hb hby d_jdk_42_method_152_code_14) hlk (Nat.le_of_ble_eq_true rfl) (Nat.le_of_ble_eq_true rfl) (by show Q_own_coder Z a1 b1 k1 v1 d1 cs1 cz h0 _ T2z.heap _; rw [e2z]; exact ⟨rfl, N0, rfl⟩)
theorem ef_own_l1M (m : MethodId) (x0 : Addr) : entryFrame m #[(.ref x0)] 1 = mkF m 0 #[.val (.ref x0)] [] := by first | (simp [entryFrame, mkF, argsToLocals, Value.category]; done) | rfl
theorem pf_own_l1M : plainFor own_m28 = true := plainFor_of_name (by simp [plainName, overriddenIn])
theorem d_jdk_42_method_154_code_0 : decode jdk_42_method_154_code 0 = .ok (.getstatic 38, 3) := by decide +kernel
theorem d_jdk_42_method_154_code_10 : decode jdk_42_method_154_code 10 = .ok (.ifCond .ne 7, 3) := by decide +kernel
theorem d_jdk_42_method_154_code_13 : decode jdk_42_method_154_code 13 = .ok (.iconst 1, 1) := by decide +kernel
theorem d_jdk_42_method_154_code_14 : decode jdk_42_method_154_code 14 = .ok (.goto 4, 3) := by decide +kernel
theorem d_jdk_42_method_154_code_17 : decode jdk_42_method_154_code 17 = .ok (.iconst 0, 1) := by decide +kernel
theorem d_jdk_42_method_154_code_18 : decode jdk_42_method_154_code 18 = .ok (.ireturn, 1) := by decide +kernel
theorem d_jdk_42_method_154_code_3 : decode jdk_42_method_154_code 3 = .ok (.ifCond .eq 14, 3) := by decide +kernel
theorem d_jdk_42_method_154_code_6 : decode jdk_42_method_154_code 6 = .ok (.aload_n 0, 1) := by decide +kernel
theorem d_jdk_42_method_154_code_7 : decode jdk_42_method_154_code 7 = .ok (.getfield 15, 3) := by decide +kernel
def Q_own_l1M (Z : State) (a1 : Addr) (b1 : Addr) (k1 : ClassId) (v1 : (List Value)) (d1 : Int32) (cs1 : (List Int32)) (cz : Int32) (h0 : Heap) (v : Option Value) (h : Heap) (L : List Loc) : Prop := v = some (.int (own_l1 d1)) ∧ Fr Z.heap.size L ∧ h = h0
set_option maxRecDepth 65536 in
set_option maxHeartbeats 40000000 in
theorem own_l1M (l : Launch) (Z : State) (a0 : Array Value) (hw : ∀ d ∈ tables_1, d.before a0 Z = true) (ws : List Jvm.Cond) (a1 : Addr) (b1 : Addr) (k1 : ClassId) (v1 : (List Value)) (d1 : Int32) (cs1 : (List Int32)) (cz : Int32) (h0 : Heap) (O0 : Ext Z.heap h0) (q0 : Exa Z h0 a1 own_s1) (q1 : Fld Z h0 a1 own_s1 "value" "[B" (.ref b1)) (q2 : Fld Z h0 a1 own_s1 "coder" "B" (.int d1)) (q3 : own_A Z h0 b1 k1 .byte v1) (hr1 : own_rep cs1 d1 v1) (h31 : cs1.length ≤ 3) (S_CS : Sta Z Z.heap own_s1 "COMPACT_STRINGS" "Z" (.int cz)) (hcs : ¬ (cz = (0 : Int32))) :
    MetFree l own_m28 (head1 (Jvm.Cond.code own_m28 jdk_42_method_154_code 1 (some .boolean) :: ws) ({ frames := 0, cells := 0, slots := 0, locals := 0 } : Room)) (fun aa U => aa = #[(.ref a1)] ∧ Z.Warmed39 U.vm ∧ U.heap = h0) (fun _ _ _ _ _ => True) (fun _ U o U' => ∃ v L, o = .returned v ∧ Q_own_l1M Z a1 b1 k1 v1 d1 cs1 cz h0 v U'.heap L ∧ FrameEnd U o U' L ({ frames := 0, cells := 0, slots := 0, locals := 0 } : Room).cells ({ frames := 0, cells := 0, slots := 0, locals := 0 } : Room).slots) := by
  refine MetFree.of_bodySF pf_own_l1M hisR ?_
  intro p e s m args below meth c s₁ Bd hml0 hP hK
  obtain ⟨rfl, hZ, hh⟩ := hP
  have hx := Bd.exec
  have hby := Bd.bytes
  have hlk := BodyLoose.notSynchronized Bd
  have hml : c.maxLocals = 1 := hml0
  have hown : s.vm.findClass own_s1 = some m.cls := findClass_of_methodNamed Bd.named
  have hnm := (name_of_methodNamed Bd.named Bd.method).1
  have X0 : Stand p l e ({ frames := 0, cells := 0, slots := 0, locals := 0 } : Room) s m #[(.ref a1)] below meth c s₁ [] 0 0 := Stand.of_body Bd
  have e0 : s₁.heap = h0 := by rw [← hh, Bd.state]; rfl
  have N0 := Fr.nil Z.heap.size
  have K0 : Keep h0 h0 [] := Keep.refl _ _
  refine own_start (Q := Q_own_l1M Z a1 b1 k1 v1 d1 cs1 cz h0) (ef_own_l1M m (a1)) ?_
  show own_G p e below (s₁.setTop (mkF m 0 #[.val (.ref a1)] [])) _
  obtain ⟨T1z, X1z, e1z, st1z⟩ := getS2 X0 hx hZ hown (host := "") (Or.inl (own_hw hw 62 rfl)) Via.refl e0 (S_CS.ext O0) (g := (mkF m 0 #[.val (.ref a1)] [])) rfl (hb hby d_jdk_42_method_154_code_0)
  refine own_go st1z ?_
  refine own_go (fun t k => XS.ifNo X1z.here hx rfl (hb hby d_jdk_42_method_154_code_3) rfl ((if0 _ _).trans (feq hcs).1) k) ?_
  show own_G p e below (T1z.setTop (mkF m 6 #[.val (.ref a1)] [])) _
  refine own_go (fun t k => XS.aloadN X1z.here hx rfl (hb hby d_jdk_42_method_154_code_6) rfl rfl k) ?_
  obtain ⟨T2z, X2z, e2z, st2z⟩ := getF X1z hx hZ hown (host := "") (Or.inl (own_hw hw 93 rfl)) Via.refl e1z q2 (g := (mkF m 7 #[.val (.ref a1)] [(.ref a1)])) rfl rfl (hb hby d_jdk_42_method_154_code_7)
  refine own_go st2z ?_
  by_cases hc3z : d1 = (0 : Int32)
  · refine own_go (fun t k => XS.ifNo X2z.here hx rfl (hb hby d_jdk_42_method_154_code_10) rfl ((if0 _ _).trans (teq hc3z).2) k) ?_
    show own_G p e below (T2z.setTop (mkF m 13 #[.val (.ref a1)] [])) _
    refine own_go (fun t k => XS.iconst X2z.here hx rfl (hb hby d_jdk_42_method_154_code_13) k) ?_
    refine own_go (fun t k => XS.goto X2z.here hx rfl (pc0 := 14) (pc' := 18) rfl (hb hby d_jdk_42_method_154_code_14) (by decide) (by decide) k) ?_
    show own_G p e below (T2z.setTop (mkF m 18 #[.val (.ref a1)] [(.int (1 : Int32))])) _
    exact own_ret X2z hx Bd.returns rfl (Or.inl ⟨rfl, Or.inr (Or.inl rfl), _, rfl⟩) (hb hby d_jdk_42_method_154_code_18) hlk (Nat.le_of_ble_eq_true rfl) (Nat.le_of_ble_eq_true rfl) (by show Q_own_l1M Z a1 b1 k1 v1 d1 cs1 cz h0 _ T2z.heap _; rw [e2z]; exact ⟨(congrArg (fun z => some (Value.int z)) (show (own_l1 d1) = _ from (if_pos hc3z)).symm), N0, rfl⟩)
  · refine own_go (fun t k => XS.ifYes X2z.here hx rfl (pc0 := 10) (pc' := 17) rfl (hb hby d_jdk_42_method_154_code_10) rfl ((if0 _ _).trans (feq hc3z).2) (by decide) (by decide) k) ?_
    show own_G p e below (T2z.setTop (mkF m 17 #[.val (.ref a1)] [])) _
    refine own_go (fun t k => XS.iconst X2z.here hx rfl (hb hby d_jdk_42_method_154_code_17) k) ?_
    exact own_ret X2z hx Bd.returns rfl (Or.inl ⟨rfl, Or.inr (Or.inl rfl), _, rfl⟩) (hb hby d_jdk_42_method_154_code_18) hlk (Nat.le_of_ble_eq_true rfl) (Nat.le_of_ble_eq_true rfl) (by show Q_own_l1M Z a1 b1 k1 v1 d1 cs1 cz h0 _ T2z.heap _; rw [e2z]; exact ⟨(congrArg (fun z => some (Value.int z)) (show (own_l1 d1) = _ from (if_neg hc3z)).symm), N0, rfl⟩)
theorem ef_own_len_ (m : MethodId) (x0 : Addr) : entryFrame m #[(.ref x0)] 1 = mkF m 0 #[.val (.ref x0)] [] := by first | (simp [entryFrame, mkF, argsToLocals, Value.category]; done) | rfl
theorem pf_own_len_ : plainFor own_m29 = true := plainFor_of_name (by simp [plainName, overriddenIn])
theorem pd_193421976 : parseMethodDescriptor "()B" = some ⟨[], some .byte⟩ := by decide +kernel
theorem d_jdk_42_method_54_code_0 : decode jdk_42_method_54_code 0 = .ok (.aload_n 0, 1) := by decide +kernel
theorem d_jdk_42_method_54_code_1 : decode jdk_42_method_54_code 1 = .ok (.getfield 9, 3) := by decide +kernel
theorem d_jdk_42_method_54_code_10 : decode jdk_42_method_54_code 10 = .ok (.ireturn, 1) := by decide +kernel
theorem d_jdk_42_method_54_code_4 : decode jdk_42_method_54_code 4 = .ok (.arraylength, 1) := by decide +kernel
theorem d_jdk_42_method_54_code_5 : decode jdk_42_method_54_code 5 = .ok (.aload_n 0, 1) := by decide +kernel
theorem d_jdk_42_method_54_code_6 : decode jdk_42_method_54_code 6 = .ok (.invokevirtual 335, 3) := by decide +kernel
theorem d_jdk_42_method_54_code_9 : decode jdk_42_method_54_code 9 = .ok (.ishr, 1) := by decide +kernel
def Q_own_len_ (Z : State) (a1 : Addr) (b1 : Addr) (k1 : ClassId) (v1 : (List Value)) (d1 : Int32) (cs1 : (List Int32)) (cz : Int32) (h0 : Heap) (v : Option Value) (h : Heap) (L : List Loc) : Prop := v = some (.int (Int32.ofNat cs1.length)) ∧ Fr Z.heap.size L ∧ h = h0
set_option maxRecDepth 65536 in
set_option maxHeartbeats 40000000 in
theorem own_len_ (l : Launch) (Z : State) (a0 : Array Value) (hw : ∀ d ∈ tables_1, d.before a0 Z = true) (ws : List Jvm.Cond) (a1 : Addr) (b1 : Addr) (k1 : ClassId) (v1 : (List Value)) (d1 : Int32) (cs1 : (List Int32)) (cz : Int32) (h0 : Heap) (O0 : Ext Z.heap h0) (q0 : Exa Z h0 a1 own_s1) (q1 : Fld Z h0 a1 own_s1 "value" "[B" (.ref b1)) (q2 : Fld Z h0 a1 own_s1 "coder" "B" (.int d1)) (q3 : own_A Z h0 b1 k1 .byte v1) (hr1 : own_rep cs1 d1 v1) (h31 : cs1.length ≤ 3) (S_CS : Sta Z Z.heap own_s1 "COMPACT_STRINGS" "Z" (.int cz)) (hcs : ¬ (cz = (0 : Int32))) :
    MetFree l own_m29 (head1 (Jvm.Cond.code own_m29 jdk_42_method_54_code 1 (some .int) :: ws) ({ frames := 1, cells := 0, slots := 0, locals := 14 } : Room)) (fun aa U => aa = #[(.ref a1)] ∧ Z.Warmed39 U.vm ∧ U.heap = h0) (fun _ _ _ _ _ => True) (fun _ U o U' => ∃ v L, o = .returned v ∧ Q_own_len_ Z a1 b1 k1 v1 d1 cs1 cz h0 v U'.heap L ∧ FrameEnd U o U' L ({ frames := 1, cells := 0, slots := 0, locals := 14 } : Room).cells ({ frames := 1, cells := 0, slots := 0, locals := 14 } : Room).slots) := by
  refine MetFree.of_bodySF pf_own_len_ hisR ?_
  intro p e s m args below meth c s₁ Bd hml0 hP hK
  obtain ⟨rfl, hZ, hh⟩ := hP
  have hx := Bd.exec
  have hby := Bd.bytes
  have hlk := BodyLoose.notSynchronized Bd
  have hml : c.maxLocals = 1 := hml0
  have hown : s.vm.findClass own_s1 = some m.cls := findClass_of_methodNamed Bd.named
  have hnm := (name_of_methodNamed Bd.named Bd.method).1
  have X0 : Stand p l e ({ frames := 1, cells := 0, slots := 0, locals := 14 } : Room) s m #[(.ref a1)] below meth c s₁ [] 0 0 := Stand.of_body Bd
  have e0 : s₁.heap = h0 := by rw [← hh, Bd.state]; rfl
  have N0 := Fr.nil Z.heap.size
  have K0 : Keep h0 h0 [] := Keep.refl _ _
  refine own_start (Q := Q_own_len_ Z a1 b1 k1 v1 d1 cs1 cz h0) (ef_own_len_ m (a1)) ?_
  show own_G p e below (s₁.setTop (mkF m 0 #[.val (.ref a1)] [])) _
  refine own_go (fun t k => XS.aloadN X0.here hx rfl (hb hby d_jdk_42_method_54_code_0) rfl rfl k) ?_
  obtain ⟨T1z, X1z, e1z, st1z⟩ := getF X0 hx hZ hown (host := "") (Or.inl (own_hw hw 95 rfl)) Via.refl e0 q1 (g := (mkF m 1 #[.val (.ref a1)] [(.ref a1)])) rfl rfl (hb hby d_jdk_42_method_54_code_1)
  refine own_go st1z ?_
  refine own_go (own_len X1z hx hZ e1z q3 (z := (Int32.ofNat v1.length)) (own_lenV hr1 h31) (g := (mkF m 4 #[.val (.ref a1)] [(.ref b1)])) rfl rfl (hb hby d_jdk_42_method_54_code_4)) ?_
  show own_G p e below (T1z.setTop (mkF m 5 #[.val (.ref a1)] [(.int (Int32.ofNat v1.length))])) _
  refine own_go (fun t k => XS.aloadN X1z.here hx rfl (hb hby d_jdk_42_method_54_code_5) rfl rfl k) ?_
  obtain ⟨cq2z, kq2z, qa2z, qb2z, qc2z⟩ := isOf hZ e1z q0
  obtain ⟨_, _, ⟨T2z, L2z, k2z, n2z⟩, -, X2z, ⟨Lc2z, hQ2z, l2z, y2z, z2z⟩, st2z⟩ := X1z.virtualBack hx (y := own_m27) (z := own_m27) hown (own_mw hZ hw 108 rfl) (own_mw hZ hw 109 rfl) (notFace_of_selects (args := #[]) (own_mw hZ hw 111 rfl)) (own_mw hZ hw 111 rfl) (own_mw hZ hw 110 rfl) (by decide) (backOf (W := 1) (own_coder l Z a0 hw [] a1 b1 k1 v1 d1 cs1 cz h0 O0 q0 q1 q2 q3 hr1 h31 S_CS hcs) hZ (own_hw hw 112 rfl) (own_hw hw 53 rfl) (by decide) (by decide)) qa2z qc2z (g := (mkF m 6 #[.val (.ref a1)] [(.ref a1), (.int (Int32.ofNat v1.length))])) rfl (by rw [hml]; rfl) (Steps.refl _) (argsL := []) (rest := [(.int (Int32.ofNat v1.length))]) (lenOf pd_193421976 rfl) rfl (by show 2 * 0 + _ ≤ _; exact Nat.le_of_eq rfl) (hb hby d_jdk_42_method_54_code_6) (fun _ _ => ⟨rfl, e1z, (by decide : 0 + 0 ≤ _), (by decide : 0 + 0 ≤ _)⟩)
  dsimp only [Pt.U, Pt.locs, Pt.cells, Pt.slots] at X2z l2z y2z z2z st2z hQ2z
  subst l2z y2z z2z
  obtain ⟨rfl, NQ2z, K2zq⟩ := hQ2z
  refine own_tr st2z ?_
  have N2z := Fr.app N0 NQ2z
  show own_G p e below (T2z.setTop (mkF m 9 #[.val (.ref a1)] [(.int d1), (.int (Int32.ofNat v1.length))])) _
  refine own_go (fun t k => XS.ishr X2z.here hx rfl (hb hby d_jdk_42_method_54_code_9) rfl k) ?_
  exact own_ret X2z hx Bd.returns rfl (Or.inl ⟨rfl, Or.inl rfl, _, rfl⟩) (hb hby d_jdk_42_method_54_code_10) hlk (Nat.le_of_ble_eq_true rfl) (Nat.le_of_ble_eq_true rfl) (by show Q_own_len_ Z a1 b1 k1 v1 d1 cs1 cz h0 _ T2z.heap _; rw [K2zq]; exact ⟨(congrArg (fun z => some (Value.int z)) (own_lenS hr1 h31)), N2z, rfl⟩)
theorem ef_own_pci (m : MethodId) (x0 : Int32) (x1 : Int32) (x2 : Value) (c2 : x2.category = 1) : entryFrame m #[(.int x0), (.int x1), x2] 3 = mkF m 0 #[.val (.int x0), .val (.int x1), .val x2] [] := by
  cases x2 <;>  first | (simp [entryFrame, mkF, argsToLocals, Value.category]; done) | rfl | (simp [Value.category] at *; done)
theorem pf_own_pci : plainFor own_m30 = true := plainFor_of_name (by simp [plainName, overriddenIn])
theorem d_jdk_41_method_11_code_0 : decode jdk_41_method_11_code 0 = .ok (.iload_n 0, 1) := by decide +kernel
theorem d_jdk_41_method_11_code_1 : decode jdk_41_method_11_code 1 = .ok (.ifCond .lt 8, 3) := by decide +kernel
theorem d_jdk_41_method_11_code_16 : decode jdk_41_method_11_code 16 = .ok (.iload_n 0, 1) := by decide +kernel
theorem d_jdk_41_method_11_code_17 : decode jdk_41_method_11_code 17 = .ok (.ireturn, 1) := by decide +kernel
theorem d_jdk_41_method_11_code_4 : decode jdk_41_method_11_code 4 = .ok (.iload_n 0, 1) := by decide +kernel
theorem d_jdk_41_method_11_code_5 : decode jdk_41_method_11_code 5 = .ok (.iload_n 1, 1) := by decide +kernel
theorem d_jdk_41_method_11_code_6 : decode jdk_41_method_11_code 6 = .ok (.if_icmp .lt 10, 3) := by decide +kernel
def Q_own_pci (Z : State) (x : Int32) (n : Int32) (fm : Value) (h0 : Heap) (v : Option Value) (h : Heap) (L : List Loc) : Prop := v = some (.int x) ∧ Fr Z.heap.size L ∧ h = h0
set_option maxRecDepth 65536 in
set_option maxHeartbeats 40000000 in
theorem own_pci (l : Launch) (Z : State) (a0 : Array Value) (hw : ∀ d ∈ tables_1, d.before a0 Z = true) (ws : List Jvm.Cond) (x : Int32) (n : Int32) (fm : Value) (h0 : Heap) (O0 : Ext Z.heap h0) (hfm : fm.isRef = true) (hx0 : ¬ (x < (0 : Int32))) (hxn : x < n) :
    MetFree l own_m30 (head1 (Jvm.Cond.code own_m30 jdk_41_method_11_code 3 (some .int) :: ws) ({ frames := 0, cells := 0, slots := 0, locals := 0 } : Room)) (fun aa U => aa = #[(.int x), (.int n), fm] ∧ Z.Warmed39 U.vm ∧ U.heap = h0) (fun _ _ _ _ _ => True) (fun _ U o U' => ∃ v L, o = .returned v ∧ Q_own_pci Z x n fm h0 v U'.heap L ∧ FrameEnd U o U' L ({ frames := 0, cells := 0, slots := 0, locals := 0 } : Room).cells ({ frames := 0, cells := 0, slots := 0, locals := 0 } : Room).slots) := by
  refine MetFree.of_bodySF pf_own_pci hisR ?_
  intro p e s m args below meth c s₁ Bd hml0 hP hK
  obtain ⟨rfl, hZ, hh⟩ := hP
  have hx := Bd.exec
  have hby := Bd.bytes
  have hlk := BodyLoose.notSynchronized Bd
  have hml : c.maxLocals = 3 := hml0
  have hown : s.vm.findClass "jdk/internal/util/Preconditions" = some m.cls := findClass_of_methodNamed Bd.named
  have hnm := (name_of_methodNamed Bd.named Bd.method).1
  have X0 : Stand p l e ({ frames := 0, cells := 0, slots := 0, locals := 0 } : Room) s m #[(.int x), (.int n), fm] below meth c s₁ [] 0 0 := Stand.of_body Bd
  have e0 : s₁.heap = h0 := by rw [← hh, Bd.state]; rfl
  have N0 := Fr.nil Z.heap.size
  have K0 : Keep h0 h0 [] := Keep.refl _ _
  refine own_start (Q := Q_own_pci Z x n fm h0) (ef_own_pci m x n fm (own_catR hfm)) ?_
  show own_G p e below (s₁.setTop (mkF m 0 #[.val (.int x), .val (.int n), .val fm] [])) _
  refine own_go (fun t k => XS.iloadN X0.here hx rfl (hb hby d_jdk_41_method_11_code_0) rfl k) ?_
  refine own_go (fun t k => XS.ifNo X0.here hx rfl (hb hby d_jdk_41_method_11_code_1) rfl ((if0 _ _).trans (flt hx0).1) k) ?_
  show own_G p e below (s₁.setTop (mkF m 4 #[.val (.int x), .val (.int n), .val fm] [])) _
  refine own_go (fun t k => XS.iloadN X0.here hx rfl (hb hby d_jdk_41_method_11_code_4) rfl k) ?_
  refine own_go (fun t k => XS.iloadN X0.here hx rfl (hb hby d_jdk_41_method_11_code_5) rfl k) ?_
  refine own_go (fun t k => XS.icmpYes X0.here hx rfl (pc0 := 6) (pc' := 16) rfl (hb hby d_jdk_41_method_11_code_6) rfl (tlt hxn).1 (by decide) (by decide) k) ?_
  show own_G p e below (s₁.setTop (mkF m 16 #[.val (.int x), .val (.int n), .val fm] [])) _
  refine own_go (fun t k => XS.iloadN X0.here hx rfl (hb hby d_jdk_41_method_11_code_16) rfl k) ?_
  exact own_ret X0 hx Bd.returns rfl (Or.inl ⟨rfl, Or.inl rfl, _, rfl⟩) (hb hby d_jdk_41_method_11_code_17) hlk (Nat.le_of_ble_eq_true rfl) (Nat.le_of_ble_eq_true rfl) (by show Q_own_pci Z x n fm h0 _ s₁.heap _; rw [e0]; exact ⟨rfl, N0, rfl⟩)
theorem ef_own_sci (m : MethodId) (x0 : Int32) (x1 : Int32) : entryFrame m #[(.int x0), (.int x1)] 2 = mkF m 0 #[.val (.int x0), .val (.int x1)] [] := by first | (simp [entryFrame, mkF, argsToLocals, Value.category]; done) | rfl
theorem pf_own_sci : plainFor own_m31 = true := plainFor_of_name (by simp [plainName, overriddenIn])
theorem pd_1725485788 : parseMethodDescriptor "(IILjava/util/function/BiFunction;)I" = some ⟨[.int, .int, (.object "java/util/function/BiFunction")], some .int⟩ := by decide +kernel
theorem d_jdk_42_method_155_code_0 : decode jdk_42_method_155_code 0 = .ok (.iload_n 0, 1) := by decide +kernel
theorem d_jdk_42_method_155_code_1 : decode jdk_42_method_155_code 1 = .ok (.iload_n 1, 1) := by decide +kernel
theorem d_jdk_42_method_155_code_2 : decode jdk_42_method_155_code 2 = .ok (.getstatic 1053, 3) := by decide +kernel
theorem d_jdk_42_method_155_code_5 : decode jdk_42_method_155_code 5 = .ok (.invokestatic 1059, 3) := by decide +kernel
theorem d_jdk_42_method_155_code_8 : decode jdk_42_method_155_code 8 = .ok (.pop, 1) := by decide +kernel
theorem d_jdk_42_method_155_code_9 : decode jdk_42_method_155_code 9 = .ok (.return_, 1) := by decide +kernel
def Q_own_sci (Z : State) (x : Int32) (n : Int32) (fm : Value) (h0 : Heap) (v : Option Value) (h : Heap) (L : List Loc) : Prop := v = none ∧ Fr Z.heap.size L ∧ h = h0
set_option maxRecDepth 65536 in
set_option maxHeartbeats 40000000 in
theorem own_sci (l : Launch) (Z : State) (a0 : Array Value) (hw : ∀ d ∈ tables_1, d.before a0 Z = true) (ws : List Jvm.Cond) (x : Int32) (n : Int32) (fm : Value) (h0 : Heap) (O0 : Ext Z.heap h0) (S_FM : Sta Z Z.heap "jdk/internal/util/Preconditions" "SIOOBE_FORMATTER" "Ljava/util/function/BiFunction;" fm) (hfm : fm.isRef = true) (hx0 : ¬ (x < (0 : Int32))) (hxn : x < n) :
    MetFree l own_m31 (head1 (Jvm.Cond.code own_m31 jdk_42_method_155_code 2 none :: ws) ({ frames := 1, cells := 0, slots := 0, locals := 14 } : Room)) (fun aa U => aa = #[(.int x), (.int n)] ∧ Z.Warmed39 U.vm ∧ U.heap = h0) (fun _ _ _ _ _ => True) (fun _ U o U' => ∃ v L, o = .returned v ∧ Q_own_sci Z x n fm h0 v U'.heap L ∧ FrameEnd U o U' L ({ frames := 1, cells := 0, slots := 0, locals := 14 } : Room).cells ({ frames := 1, cells := 0, slots := 0, locals := 14 } : Room).slots) := by
  refine MetFree.of_bodySF pf_own_sci hisR ?_
  intro p e s m args below meth c s₁ Bd hml0 hP hK
  obtain ⟨rfl, hZ, hh⟩ := hP
  have hx := Bd.exec
  have hby := Bd.bytes
  have hlk := BodyLoose.notSynchronized Bd
  have hml : c.maxLocals = 2 := hml0
  have hown : s.vm.findClass own_s1 = some m.cls := findClass_of_methodNamed Bd.named
  have hnm := (name_of_methodNamed Bd.named Bd.method).1
  have X0 : Stand p l e ({ frames := 1, cells := 0, slots := 0, locals := 14 } : Room) s m #[(.int x), (.int n)] below meth c s₁ [] 0 0 := Stand.of_body Bd
  have e0 : s₁.heap = h0 := by rw [← hh, Bd.state]; rfl
  have N0 := Fr.nil Z.heap.size
  have K0 : Keep h0 h0 [] := Keep.refl _ _
  refine own_start (Q := Q_own_sci Z x n fm h0) (ef_own_sci m (x) (n)) ?_
  show own_G p e below (s₁.setTop (mkF m 0 #[.val (.int x), .val (.int n)] [])) _
  refine own_go (fun t k => XS.iloadN X0.here hx rfl (hb hby d_jdk_42_method_155_code_0) rfl k) ?_
  refine own_go (fun t k => XS.iloadN X0.here hx rfl (hb hby d_jdk_42_method_155_code_1) rfl k) ?_
  obtain ⟨T1z, X1z, e1z, st1z⟩ := getS2 X0 hx hZ hown (host := "") (Or.inl (own_hw hw 126 rfl)) Via.refl e0 (S_FM.ext O0) (g := (mkF m 2 #[.val (.int x), .val (.int n)] [(.int n), (.int x)])) rfl (hb hby d_jdk_42_method_155_code_2)
  refine own_go st1z ?_
  show own_G p e below (T1z.setTop (mkF m 5 #[.val (.int x), .val (.int n)] [fm, (.int n), (.int x)])) _
  obtain ⟨_, _, ⟨T2z, L2z, k2z, n2z⟩, -, X2z, ⟨Lc2z, hQ2z, l2z, y2z, z2z⟩, st2z⟩ := Jvm.LawKit.callS X1z hx (y := own_m30) hown (own_mw hZ hw 128 rfl) (own_mw hZ hw 129 rfl) (own_mw hZ hw 127 rfl) (own_mw hZ hw 130 rfl) (by decide) (backOf (W := 0) (own_pci l Z a0 hw [] x n fm h0 O0 hfm hx0 hxn) hZ (own_hw hw 130 rfl) (own_hw hw 127 rfl) (by decide) (by decide)) (g := (mkF m 5 #[.val (.int x), .val (.int n)] [fm, (.int n), (.int x)])) rfl (by rw [hml]; rfl) (argsL := [(.int x), (.int n), fm]) (rest := []) (lenOf pd_1725485788 rfl) rfl (by show 2 * 0 + _ ≤ _; exact Nat.le_of_eq rfl) (hb hby d_jdk_42_method_155_code_5) (fun _ _ => ⟨rfl, e1z, (by decide : 0 + 0 ≤ _), (by decide : 0 + 0 ≤ _)⟩)
  dsimp only [Pt.U, Pt.locs, Pt.cells, Pt.slots] at X2z l2z y2z z2z st2z hQ2z
  subst l2z y2z z2z
  obtain ⟨rfl, NQ2z, K2zq⟩ := hQ2z
  refine own_go st2z ?_
  have N2z := Fr.app N0 NQ2z
  show own_G p e below (T2z.setTop (mkF m 8 #[.val (.int x), .val (.int n)] [(.int x)])) _
  refine own_go (fun t k => XS.pop X2z.here hx rfl (hb hby d_jdk_42_method_155_code_8) rfl rfl k) ?_
  exact own_retV X2z hx Bd.returns (hb hby d_jdk_42_method_155_code_9) hlk (Nat.le_of_ble_eq_true rfl) (Nat.le_of_ble_eq_true rfl) (by show Q_own_sci Z x n fm h0 _ T2z.heap _; rw [K2zq]; exact ⟨rfl, N2z, rfl⟩)
theorem ef_own_c4 (m : MethodId) (x0 : Addr) (x1 : Int32) (x2 : Int32) (x3 : Int32) : entryFrame m #[(.ref x0), (.int x1), (.int x2), (.int x3)] 6 = mkF m 0 #[.val (.ref x0), .val (.int x1), .val (.int x2), .val (.int x3), .unset, .unset] [] := by first | (simp [entryFrame, mkF, argsToLocals, Value.category]; done) | rfl
theorem pf_own_c4 : plainFor own_m32 = true := plainFor_of_name (by simp [plainName, overriddenIn])
theorem pd_2087985491 : parseMethodDescriptor "(C)Z" = some ⟨[.char], some .boolean⟩ := by decide +kernel
theorem pd_184071237 : parseMethodDescriptor "(CC)I" = some ⟨[.char, .char], some .int⟩ := by decide +kernel
theorem d_jdk_52_method_7_code_0 : decode jdk_52_method_7_code 0 = .ok (.getstatic 44, 3) := by decide +kernel
theorem d_jdk_52_method_7_code_19 : decode jdk_52_method_7_code 19 = .ok (.iload_n 3, 1) := by decide +kernel
theorem d_jdk_52_method_7_code_20 : decode jdk_52_method_7_code 20 = .ok (.ifCond .eq 8, 3) := by decide +kernel
theorem d_jdk_52_method_7_code_28 : decode jdk_52_method_7_code 28 = .ok (.aload_n 0, 1) := by decide +kernel
theorem d_jdk_52_method_7_code_29 : decode jdk_52_method_7_code 29 = .ok (.iload_n 1, 1) := by decide +kernel
theorem d_jdk_52_method_7_code_3 : decode jdk_52_method_7_code 3 = .ok (.ifCond .ne 16, 3) := by decide +kernel
theorem d_jdk_52_method_7_code_30 : decode jdk_52_method_7_code 30 = .ok (.invokestatic 71, 3) := by decide +kernel
theorem d_jdk_52_method_7_code_33 : decode jdk_52_method_7_code 33 = .ok (.istore 4, 2) := by decide +kernel
theorem d_jdk_52_method_7_code_35 : decode jdk_52_method_7_code 35 = .ok (.iload 4, 2) := by decide +kernel
theorem d_jdk_52_method_7_code_37 : decode jdk_52_method_7_code 37 = .ok (.invokestatic 75, 3) := by decide +kernel
theorem d_jdk_52_method_7_code_40 : decode jdk_52_method_7_code 40 = .ok (.ifCond .eq 43, 3) := by decide +kernel
theorem d_jdk_52_method_7_code_43 : decode jdk_52_method_7_code 43 = .ok (.iinc 1 1, 3) := by decide +kernel
theorem d_jdk_52_method_7_code_46 : decode jdk_52_method_7_code 46 = .ok (.iload_n 1, 1) := by decide +kernel
theorem d_jdk_52_method_7_code_47 : decode jdk_52_method_7_code 47 = .ok (.iload_n 2, 1) := by decide +kernel
theorem d_jdk_52_method_7_code_48 : decode jdk_52_method_7_code 48 = .ok (.if_icmp .ge 35, 3) := by decide +kernel
theorem d_jdk_52_method_7_code_51 : decode jdk_52_method_7_code 51 = .ok (.iload_n 3, 1) := by decide +kernel
theorem d_jdk_52_method_7_code_52 : decode jdk_52_method_7_code 52 = .ok (.ifCond .eq 8, 3) := by decide +kernel
theorem d_jdk_52_method_7_code_60 : decode jdk_52_method_7_code 60 = .ok (.aload_n 0, 1) := by decide +kernel
theorem d_jdk_52_method_7_code_61 : decode jdk_52_method_7_code 61 = .ok (.iload_n 1, 1) := by decide +kernel
theorem d_jdk_52_method_7_code_62 : decode jdk_52_method_7_code 62 = .ok (.invokestatic 71, 3) := by decide +kernel
theorem d_jdk_52_method_7_code_65 : decode jdk_52_method_7_code 65 = .ok (.istore 5, 2) := by decide +kernel
theorem d_jdk_52_method_7_code_67 : decode jdk_52_method_7_code 67 = .ok (.iload 5, 2) := by decide +kernel
theorem d_jdk_52_method_7_code_69 : decode jdk_52_method_7_code 69 = .ok (.invokestatic 81, 3) := by decide +kernel
theorem d_jdk_52_method_7_code_72 : decode jdk_52_method_7_code 72 = .ok (.ifCond .eq 11, 3) := by decide +kernel
theorem d_jdk_52_method_7_code_75 : decode jdk_52_method_7_code 75 = .ok (.iload 4, 2) := by decide +kernel
theorem d_jdk_52_method_7_code_77 : decode jdk_52_method_7_code 77 = .ok (.iload 5, 2) := by decide +kernel
theorem d_jdk_52_method_7_code_79 : decode jdk_52_method_7_code 79 = .ok (.invokestatic 84, 3) := by decide +kernel
theorem d_jdk_52_method_7_code_82 : decode jdk_52_method_7_code 82 = .ok (.ireturn, 1) := by decide +kernel
theorem d_jdk_52_method_7_code_83 : decode jdk_52_method_7_code 83 = .ok (.iload 4, 2) := by decide +kernel
theorem d_jdk_52_method_7_code_85 : decode jdk_52_method_7_code 85 = .ok (.ireturn, 1) := by decide +kernel
def Q_own_c4 (Z : State) (arr : Addr) (kk : ClassId) (vs : (List Value)) (cs : (List Int32)) (x : Int32) (i : Nat) (n : Int32) (h0 : Heap) (v : Option Value) (h : Heap) (L : List Loc) : Prop := v = some (.int (own_cpx cs i)) ∧ Fr Z.heap.size L ∧ h = h0
set_option maxRecDepth 65536 in
set_option maxHeartbeats 40000000 in
theorem own_c4 (l : Launch) (Z : State) (a0 : Array Value) (hw : ∀ d ∈ tables_1, d.before a0 Z = true) (ws : List Jvm.Cond) (arr : Addr) (kk : ClassId) (vs : (List Value)) (cs : (List Int32)) (x : Int32) (i : Nat) (n : Int32) (h0 : Heap) (O0 : Ext Z.heap h0) (q0 : own_A Z h0 arr kk .byte vs) (hu : vs = own_utf cs) (hxx : x.toInt = (i : Int)) (hlt : i < cs.length) (h3 : cs.length ≤ 3) (hc : own_chs cs) (hn : n = Int32.ofNat cs.length) (S_AD : Sta Z Z.heap own_s0 own_s4 "Z" (.int (1 : Int32))) (S_HI : Sta Z Z.heap own_s0 "HI_BYTE_SHIFT" "I" (.int (0 : Int32))) (S_LO : Sta Z Z.heap own_s0 "LO_BYTE_SHIFT" "I" (.int (8 : Int32))) :
    MetFree l own_m32 (head1 (Jvm.Cond.code own_m32 jdk_52_method_7_code 6 (some .int) :: ws) ({ frames := 1, cells := 0, slots := 0, locals := 14 } : Room)) (fun aa U => aa = #[(.ref arr), (.int x), (.int n), (.int (0 : Int32))] ∧ Z.Warmed39 U.vm ∧ U.heap = h0) (fun _ _ _ _ _ => True) (fun _ U o U' => ∃ v L, o = .returned v ∧ Q_own_c4 Z arr kk vs cs x i n h0 v U'.heap L ∧ FrameEnd U o U' L ({ frames := 1, cells := 0, slots := 0, locals := 14 } : Room).cells ({ frames := 1, cells := 0, slots := 0, locals := 14 } : Room).slots) := by
  refine MetFree.of_bodySF pf_own_c4 hisR ?_
  intro p e s m args below meth c s₁ Bd hml0 hP hK
  obtain ⟨rfl, hZ, hh⟩ := hP
  have hx := Bd.exec
  have hby := Bd.bytes
  have hlk := BodyLoose.notSynchronized Bd
  have hml : c.maxLocals = 6 := hml0
  have hown : s.vm.findClass own_s0 = some m.cls := findClass_of_methodNamed Bd.named
  have hnm := (name_of_methodNamed Bd.named Bd.method).1
  have X0 : Stand p l e ({ frames := 1, cells := 0, slots := 0, locals := 14 } : Room) s m #[(.ref arr), (.int x), (.int n), (.int (0 : Int32))] below meth c s₁ [] 0 0 := Stand.of_body Bd
  have e0 : s₁.heap = h0 := by rw [← hh, Bd.state]; rfl
  have N0 := Fr.nil Z.heap.size
  have K0 : Keep h0 h0 [] := Keep.refl _ _
  refine own_start (Q := Q_own_c4 Z arr kk vs cs x i n h0) (ef_own_c4 m (arr) (x) (n) ((0 : Int32))) ?_
  show own_G p e below (s₁.setTop (mkF m 0 #[.val (.ref arr), .val (.int x), .val (.int n), .val (.int (0 : Int32)), .unset, .unset] [])) _
  obtain ⟨T1z, X1z, e1z, st1z⟩ := getS2 X0 hx hZ hown (host := "") (Or.inl (own_hw hw 84 rfl)) Via.refl e0 (S_AD.ext O0) (g := (mkF m 0 #[.val (.ref arr), .val (.int x), .val (.int n), .val (.int (0 : Int32)), .unset, .unset] [])) rfl (hb hby d_jdk_52_method_7_code_0)
  refine own_go st1z ?_
  refine own_go (fun t k => XS.ifYes X1z.here hx rfl (pc0 := 3) (pc' := 19) rfl (hb hby d_jdk_52_method_7_code_3) rfl ((if0 _ _).trans (feq (by decide : ¬ ((1 : Int32) = (0 : Int32)))).2) (by decide) (by decide) k) ?_
  show own_G p e below (T1z.setTop (mkF m 19 #[.val (.ref arr), .val (.int x), .val (.int n), .val (.int (0 : Int32)), .unset, .unset] [])) _
  refine own_go (fun t k => XS.iloadN X1z.here hx rfl (hb hby d_jdk_52_method_7_code_19) rfl k) ?_
  refine own_go (fun t k => XS.ifYes X1z.here hx rfl (pc0 := 20) (pc' := 28) rfl (hb hby d_jdk_52_method_7_code_20) rfl ((if0 _ _).trans (teq (by decide : (0 : Int32) = (0 : Int32))).1) (by decide) (by decide) k) ?_
  show own_G p e below (T1z.setTop (mkF m 28 #[.val (.ref arr), .val (.int x), .val (.int n), .val (.int (0 : Int32)), .unset, .unset] [])) _
  refine own_go (fun t k => XS.aloadN X1z.here hx rfl (hb hby d_jdk_52_method_7_code_28) rfl rfl k) ?_
  refine own_go (fun t k => XS.iloadN X1z.here hx rfl (hb hby d_jdk_52_method_7_code_29) rfl k) ?_
  obtain ⟨_, _, ⟨T2z, L2z, k2z, n2z⟩, -, X2z, ⟨Lc2z, hQ2z, l2z, y2z, z2z⟩, st2z⟩ := Jvm.LawKit.callS X1z hx (y := own_m17) hown (own_mw hZ hw 87 rfl) (own_mw hZ hw 88 rfl) (own_mw hZ hw 65 rfl) (own_mw hZ hw 89 rfl) (by decide) (backOf (W := 0) (own_getChar l Z a0 hw [] arr kk vs cs x i h0 O0 q0 hu hxx hlt h3 hc S_AD S_HI S_LO) hZ (own_hw hw 89 rfl) (own_hw hw 65 rfl) (by decide) (by decide)) (g := (mkF m 30 #[.val (.ref arr), .val (.int x), .val (.int n), .val (.int (0 : Int32)), .unset, .unset] [(.int x), (.ref arr)])) rfl (by rw [hml]; rfl) (argsL := [(.ref arr), (.int x)]) (rest := []) (lenOf pd_1807843551 rfl) rfl (by show 2 * 0 + _ ≤ _; exact Nat.le_of_eq rfl) (hb hby d_jdk_52_method_7_code_30) (fun _ _ => ⟨rfl, e1z, (by decide : 0 + 0 ≤ _), (by decide : 0 + 0 ≤ _)⟩)
  dsimp only [Pt.U, Pt.locs, Pt.cells, Pt.slots] at X2z l2z y2z z2z st2z hQ2z
  subst l2z y2z z2z
  obtain ⟨rfl, NQ2z, K2zq⟩ := hQ2z
  refine own_go st2z ?_
  have N2z := Fr.app N0 NQ2z
  show own_G p e below (T2z.setTop (mkF m 33 #[.val (.ref arr), .val (.int x), .val (.int n), .val (.int (0 : Int32)), .unset, .unset] [(.int (cs.getD i 0))])) _
  refine own_go (fun t k => XS.istore X2z.here hx rfl (hb hby d_jdk_52_method_7_code_33) rfl (l' := #[.val (.ref arr), .val (.int x), .val (.int n), .val (.int (0 : Int32)), .val (.int (cs.getD i 0)), .unset]) rfl k) ?_
  refine own_go (fun t k => XS.iload X2z.here hx rfl (hb hby d_jdk_52_method_7_code_35) rfl k) ?_
  obtain ⟨_, _, ⟨T3z, L3z, k3z, n3z⟩, -, X3z, ⟨Lc3z, hQ3z, l3z, y3z, z3z⟩, st3z⟩ := Jvm.LawKit.callS X2z hx (y := own_m3) hown (own_mw hZ hw 137 rfl) (own_mw hZ hw 138 rfl) (own_mw hZ hw 139 rfl) (own_mw hZ hw 140 rfl) (by decide) (backOf (W := 0) (own_hsM l Z a0 hw [] (cs.getD i 0) h0 O0) hZ (own_hw hw 140 rfl) (own_hw hw 139 rfl) (by decide) (by decide)) (g := (mkF m 37 #[.val (.ref arr), .val (.int x), .val (.int n), .val (.int (0 : Int32)), .val (.int (cs.getD i 0)), .unset] [(.int (cs.getD i 0))])) rfl (by rw [hml]; rfl) (argsL := [(.int (cs.getD i 0))]) (rest := []) (lenOf pd_2087985491 rfl) rfl (by show 2 * 0 + _ ≤ _; exact Nat.le_of_eq rfl) (hb hby d_jdk_52_method_7_code_37) (fun _ _ => ⟨rfl, K2zq, (by decide : 0 + 0 ≤ _), (by decide : 0 + 0 ≤ _)⟩)
  dsimp only [Pt.U, Pt.locs, Pt.cells, Pt.slots] at X3z l3z y3z z3z st3z hQ3z
  subst l3z y3z z3z
  obtain ⟨rfl, NQ3z, K3zq⟩ := hQ3z
  refine own_go st3z ?_
  have N3z := Fr.app N2z NQ3z
  show own_G p e below (T3z.setTop (mkF m 40 #[.val (.ref arr), .val (.int x), .val (.int n), .val (.int (0 : Int32)), .val (.int (cs.getD i 0)), .unset] [(.int (own_hs (cs.getD i 0)))])) _
  by_cases hc4z : (own_hs (cs.getD i 0)) = (0 : Int32)
  · refine own_go (fun t k => XS.ifYes X3z.here hx rfl (pc0 := 40) (pc' := 83) rfl (hb hby d_jdk_52_method_7_code_40) rfl ((if0 _ _).trans (teq hc4z).1) (by decide) (by decide) k) ?_
    show own_G p e below (T3z.setTop (mkF m 83 #[.val (.ref arr), .val (.int x), .val (.int n), .val (.int (0 : Int32)), .val (.int (cs.getD i 0)), .unset] [])) _
    refine own_go (fun t k => XS.iload X3z.here hx rfl (hb hby d_jdk_52_method_7_code_83) rfl k) ?_
    exact own_ret X3z hx Bd.returns rfl (Or.inl ⟨rfl, Or.inl rfl, _, rfl⟩) (hb hby d_jdk_52_method_7_code_85) hlk (Nat.le_of_ble_eq_true rfl) (Nat.le_of_ble_eq_true rfl) (by show Q_own_c4 Z arr kk vs cs x i n h0 _ T3z.heap _; rw [K3zq]; exact ⟨(congrArg (fun z => some (Value.int z)) (own_cpC (Or.inl hc4z)).symm), N3z, rfl⟩)
  · refine own_go (fun t k => XS.ifNo X3z.here hx rfl (hb hby d_jdk_52_method_7_code_40) rfl ((if0 _ _).trans (feq hc4z).1) k) ?_
    show own_G p e below (T3z.setTop (mkF m 43 #[.val (.ref arr), .val (.int x), .val (.int n), .val (.int (0 : Int32)), .val (.int (cs.getD i 0)), .unset] [])) _
    refine own_go (fun t k => XS.iinc X3z.here hx rfl (hb hby d_jdk_52_method_7_code_43) rfl (l' := #[.val (.ref arr), .val (.int (x + (1 : Int32))), .val (.int n), .val (.int (0 : Int32)), .val (.int (cs.getD i 0)), .unset]) rfl k) ?_
    refine own_go (fun t k => XS.iloadN X3z.here hx rfl (hb hby d_jdk_52_method_7_code_46) rfl k) ?_
    refine own_go (fun t k => XS.iloadN X3z.here hx rfl (hb hby d_jdk_52_method_7_code_47) rfl k) ?_
    show own_G p e below (T3z.setTop (mkF m 48 #[.val (.ref arr), .val (.int (x + (1 : Int32))), .val (.int n), .val (.int (0 : Int32)), .val (.int (cs.getD i 0)), .unset] [(.int n), (.int (x + (1 : Int32)))])) _
    by_cases hc5z : (x + (1 : Int32)) < n
    · refine own_go (fun t k => XS.icmpNo X3z.here hx rfl (hb hby d_jdk_52_method_7_code_48) rfl (tlt hc5z).2.1 k) ?_
      show own_G p e below (T3z.setTop (mkF m 51 #[.val (.ref arr), .val (.int (x + (1 : Int32))), .val (.int n), .val (.int (0 : Int32)), .val (.int (cs.getD i 0)), .unset] [])) _
      refine own_go (fun t k => XS.iloadN X3z.here hx rfl (hb hby d_jdk_52_method_7_code_51) rfl k) ?_
      refine own_go (fun t k => XS.ifYes X3z.here hx rfl (pc0 := 52) (pc' := 60) rfl (hb hby d_jdk_52_method_7_code_52) rfl ((if0 _ _).trans (teq (by decide : (0 : Int32) = (0 : Int32))).1) (by decide) (by decide) k) ?_
      show own_G p e below (T3z.setTop (mkF m 60 #[.val (.ref arr), .val (.int (x + (1 : Int32))), .val (.int n), .val (.int (0 : Int32)), .val (.int (cs.getD i 0)), .unset] [])) _
      refine own_go (fun t k => XS.aloadN X3z.here hx rfl (hb hby d_jdk_52_method_7_code_60) rfl rfl k) ?_
      refine own_go (fun t k => XS.iloadN X3z.here hx rfl (hb hby d_jdk_52_method_7_code_61) rfl k) ?_
      obtain ⟨_, _, ⟨T6z, L6z, k6z, n6z⟩, -, X6z, ⟨Lc6z, hQ6z, l6z, y6z, z6z⟩, st6z⟩ := Jvm.LawKit.callS X3z hx (y := own_m17) hown (own_mw hZ hw 87 rfl) (own_mw hZ hw 88 rfl) (own_mw hZ hw 65 rfl) (own_mw hZ hw 89 rfl) (by decide) (backOf (W := 0) (own_getChar l Z a0 hw [] arr kk vs cs (x + (1 : Int32)) (i + 1) h0 O0 q0 hu (own_add1 hxx (by omega)) ((own_ltN (own_add1 hxx (by omega)) h3).mp (hn ▸ hc5z)) h3 hc S_AD S_HI S_LO) hZ (own_hw hw 89 rfl) (own_hw hw 65 rfl) (by decide) (by decide)) (g := (mkF m 62 #[.val (.ref arr), .val (.int (x + (1 : Int32))), .val (.int n), .val (.int (0 : Int32)), .val (.int (cs.getD i 0)), .unset] [(.int (x + (1 : Int32))), (.ref arr)])) rfl (by rw [hml]; rfl) (argsL := [(.ref arr), (.int (x + (1 : Int32)))]) (rest := []) (lenOf pd_1807843551 rfl) rfl (by show 2 * 0 + _ ≤ _; exact Nat.le_of_eq rfl) (hb hby d_jdk_52_method_7_code_62) (fun _ _ => ⟨rfl, K3zq, (by decide : 0 + 0 ≤ _), (by decide : 0 + 0 ≤ _)⟩)
      dsimp only [Pt.U, Pt.locs, Pt.cells, Pt.slots] at X6z l6z y6z z6z st6z hQ6z
      subst l6z y6z z6z
      obtain ⟨rfl, NQ6z, K6zq⟩ := hQ6z
      refine own_go st6z ?_
      have N6z := Fr.app N3z NQ6z
      show own_G p e below (T6z.setTop (mkF m 65 #[.val (.ref arr), .val (.int (x + (1 : Int32))), .val (.int n), .val (.int (0 : Int32)), .val (.int (cs.getD i 0)), .unset] [(.int (cs.getD (i + 1) 0))])) _
      refine own_go (fun t k => XS.istore X6z.here hx rfl (hb hby d_jdk_52_method_7_code_65) rfl (l' := #[.val (.ref arr), .val (.int (x + (1 : Int32))), .val (.int n), .val (.int (0 : Int32)), .val (.int (cs.getD i 0)), .val (.int (cs.getD (i + 1) 0))]) rfl k) ?_
      refine own_go (fun t k => XS.iload X6z.here hx rfl (hb hby d_jdk_52_method_7_code_67) rfl k) ?_
      obtain ⟨_, _, ⟨T7z, L7z, k7z, n7z⟩, -, X7z, ⟨Lc7z, hQ7z, l7z, y7z, z7z⟩, st7z⟩ := Jvm.LawKit.callS X6z hx (y := own_m4) hown (own_mw hZ hw 167 rfl) (own_mw hZ hw 168 rfl) (own_mw hZ hw 139 rfl) (own_mw hZ hw 169 rfl) (by decide) (backOf (W := 0) (own_lsM l Z a0 hw [] (cs.getD (i + 1) 0) h0 O0) hZ (own_hw hw 169 rfl) (own_hw hw 139 rfl) (by decide) (by decide)) (g := (mkF m 69 #[.val (.ref arr), .val (.int (x + (1 : Int32))), .val (.int n), .val (.int (0 : Int32)), .val (.int (cs.getD i 0)), .val (.int (cs.getD (i + 1) 0))] [(.int (cs.getD (i + 1) 0))])) rfl (by rw [hml]; rfl) (argsL := [(.int (cs.getD (i + 1) 0))]) (rest := []) (lenOf pd_2087985491 rfl) rfl (by show 2 * 0 + _ ≤ _; exact Nat.le_of_eq rfl) (hb hby d_jdk_52_method_7_code_69) (fun _ _ => ⟨rfl, K6zq, (by decide : 0 + 0 ≤ _), (by decide : 0 + 0 ≤ _)⟩)
      dsimp only [Pt.U, Pt.locs, Pt.cells, Pt.slots] at X7z l7z y7z z7z st7z hQ7z
      subst l7z y7z z7z
      obtain ⟨rfl, NQ7z, K7zq⟩ := hQ7z
      refine own_go st7z ?_
      have N7z := Fr.app N6z NQ7z
      show own_G p e below (T7z.setTop (mkF m 72 #[.val (.ref arr), .val (.int (x + (1 : Int32))), .val (.int n), .val (.int (0 : Int32)), .val (.int (cs.getD i 0)), .val (.int (cs.getD (i + 1) 0))] [(.int (own_ls (cs.getD (i + 1) 0)))])) _
      by_cases hc8z : (own_ls (cs.getD (i + 1) 0)) = (0 : Int32)
      · refine own_go (fun t k => XS.ifYes X7z.here hx rfl (pc0 := 72) (pc' := 83) rfl (hb hby d_jdk_52_method_7_code_72) rfl ((if0 _ _).trans (teq hc8z).1) (by decide) (by decide) k) ?_
        show own_G p e below (T7z.setTop (mkF m 83 #[.val (.ref arr), .val (.int (x + (1 : Int32))), .val (.int n), .val (.int (0 : Int32)), .val (.int (cs.getD i 0)), .val (.int (cs.getD (i + 1) 0))] [])) _
        refine own_go (fun t k => XS.iload X7z.here hx rfl (hb hby d_jdk_52_method_7_code_83) rfl k) ?_
        exact own_ret X7z hx Bd.returns rfl (Or.inl ⟨rfl, Or.inl rfl, _, rfl⟩) (hb hby d_jdk_52_method_7_code_85) hlk (Nat.le_of_ble_eq_true rfl) (Nat.le_of_ble_eq_true rfl) (by show Q_own_c4 Z arr kk vs cs x i n h0 _ T7z.heap _; rw [K7zq]; exact ⟨(congrArg (fun z => some (Value.int z)) (own_cpC (Or.inr (Or.inr hc8z))).symm), N7z, rfl⟩)
      · refine own_go (fun t k => XS.ifNo X7z.here hx rfl (hb hby d_jdk_52_method_7_code_72) rfl ((if0 _ _).trans (feq hc8z).1) k) ?_
        show own_G p e below (T7z.setTop (mkF m 75 #[.val (.ref arr), .val (.int (x + (1 : Int32))), .val (.int n), .val (.int (0 : Int32)), .val (.int (cs.getD i 0)), .val (.int (cs.getD (i + 1) 0))] [])) _
        refine own_go (fun t k => XS.iload X7z.here hx rfl (hb hby d_jdk_52_method_7_code_75) rfl k) ?_
        refine own_go (fun t k => XS.iload X7z.here hx rfl (hb hby d_jdk_52_method_7_code_77) rfl k) ?_
        obtain ⟨_, _, ⟨T9z, L9z, k9z, n9z⟩, -, X9z, ⟨Lc9z, hQ9z, l9z, y9z, z9z⟩, st9z⟩ := Jvm.LawKit.callS X7z hx (y := own_m6) hown (own_mw hZ hw 173 rfl) (own_mw hZ hw 174 rfl) (own_mw hZ hw 139 rfl) (own_mw hZ hw 175 rfl) (by decide) (backOf (W := 0) (own_tcM l Z a0 hw [] (cs.getD i 0) (cs.getD (i + 1) 0) h0 O0) hZ (own_hw hw 175 rfl) (own_hw hw 139 rfl) (by decide) (by decide)) (g := (mkF m 79 #[.val (.ref arr), .val (.int (x + (1 : Int32))), .val (.int n), .val (.int (0 : Int32)), .val (.int (cs.getD i 0)), .val (.int (cs.getD (i + 1) 0))] [(.int (cs.getD (i + 1) 0)), (.int (cs.getD i 0))])) rfl (by rw [hml]; rfl) (argsL := [(.int (cs.getD i 0)), (.int (cs.getD (i + 1) 0))]) (rest := []) (lenOf pd_184071237 rfl) rfl (by show 2 * 0 + _ ≤ _; exact Nat.le_of_eq rfl) (hb hby d_jdk_52_method_7_code_79) (fun _ _ => ⟨rfl, K7zq, (by decide : 0 + 0 ≤ _), (by decide : 0 + 0 ≤ _)⟩)
        dsimp only [Pt.U, Pt.locs, Pt.cells, Pt.slots] at X9z l9z y9z z9z st9z hQ9z
        subst l9z y9z z9z
        obtain ⟨rfl, NQ9z, K9zq⟩ := hQ9z
        refine own_go st9z ?_
        have N9z := Fr.app N7z NQ9z
        show own_G p e below (T9z.setTop (mkF m 82 #[.val (.ref arr), .val (.int (x + (1 : Int32))), .val (.int n), .val (.int (0 : Int32)), .val (.int (cs.getD i 0)), .val (.int (cs.getD (i + 1) 0))] [(.int (own_tcp (cs.getD i 0) (cs.getD (i + 1) 0)))])) _
        exact own_ret X9z hx Bd.returns rfl (Or.inl ⟨rfl, Or.inl rfl, _, rfl⟩) (hb hby d_jdk_52_method_7_code_82) hlk (Nat.le_of_ble_eq_true rfl) (Nat.le_of_ble_eq_true rfl) (by show Q_own_c4 Z arr kk vs cs x i n h0 _ T9z.heap _; rw [K9zq]; exact ⟨(congrArg (fun z => some (Value.int z)) (own_cpD hc4z ((own_ltN (own_add1 hxx (by omega)) h3).mp (hn ▸ hc5z)) hc8z)), N9z, rfl⟩)
    · refine own_go (fun t k => XS.icmpYes X3z.here hx rfl (pc0 := 48) (pc' := 83) rfl (hb hby d_jdk_52_method_7_code_48) rfl (flt hc5z).2.1 (by decide) (by decide) k) ?_
      show own_G p e below (T3z.setTop (mkF m 83 #[.val (.ref arr), .val (.int (x + (1 : Int32))), .val (.int n), .val (.int (0 : Int32)), .val (.int (cs.getD i 0)), .unset] [])) _
      refine own_go (fun t k => XS.iload X3z.here hx rfl (hb hby d_jdk_52_method_7_code_83) rfl k) ?_
      exact own_ret X3z hx Bd.returns rfl (Or.inl ⟨rfl, Or.inl rfl, _, rfl⟩) (hb hby d_jdk_52_method_7_code_85) hlk (Nat.le_of_ble_eq_true rfl) (Nat.le_of_ble_eq_true rfl) (by show Q_own_c4 Z arr kk vs cs x i n h0 _ T3z.heap _; rw [K3zq]; exact ⟨(congrArg (fun z => some (Value.int z)) (own_cpC (Or.inr (Or.inl fun q => hc5z (hn ▸ (own_ltN (own_add1 hxx (by omega)) h3).mpr q)))).symm), N3z, rfl⟩)
theorem ef_own_c3 (m : MethodId) (x0 : Addr) (x1 : Int32) (x2 : Int32) : entryFrame m #[(.ref x0), (.int x1), (.int x2)] 3 = mkF m 0 #[.val (.ref x0), .val (.int x1), .val (.int x2)] [] := by first | (simp [entryFrame, mkF, argsToLocals, Value.category]; done) | rfl
theorem pf_own_c3 : plainFor own_m33 = true := plainFor_of_name (by simp [plainName, overriddenIn])
theorem pd_1647781928 : parseMethodDescriptor "([BIIZ)I" = some ⟨[(.array .byte), .int, .int, .boolean], some .int⟩ := by decide +kernel
theorem d_jdk_52_method_8_code_0 : decode jdk_52_method_8_code 0 = .ok (.aload_n 0, 1) := by decide +kernel
theorem d_jdk_52_method_8_code_1 : decode jdk_52_method_8_code 1 = .ok (.iload_n 1, 1) := by decide +kernel
theorem d_jdk_52_method_8_code_2 : decode jdk_52_method_8_code 2 = .ok (.iload_n 2, 1) := by decide +kernel
theorem d_jdk_52_method_8_code_3 : decode jdk_52_method_8_code 3 = .ok (.iconst 0, 1) := by decide +kernel
theorem d_jdk_52_method_8_code_4 : decode jdk_52_method_8_code 4 = .ok (.invokestatic 88, 3) := by decide +kernel
theorem d_jdk_52_method_8_code_7 : decode jdk_52_method_8_code 7 = .ok (.ireturn, 1) := by decide +kernel
def Q_own_c3 (Z : State) (arr : Addr) (kk : ClassId) (vs : (List Value)) (cs : (List Int32)) (x : Int32) (i : Nat) (n : Int32) (h0 : Heap) (v : Option Value) (h : Heap) (L : List Loc) : Prop := v = some (.int (own_cpx cs i)) ∧ Fr Z.heap.size L ∧ h = h0
set_option maxRecDepth 65536 in
set_option maxHeartbeats 40000000 in
theorem own_c3 (l : Launch) (Z : State) (a0 : Array Value) (hw : ∀ d ∈ tables_1, d.before a0 Z = true) (ws : List Jvm.Cond) (arr : Addr) (kk : ClassId) (vs : (List Value)) (cs : (List Int32)) (x : Int32) (i : Nat) (n : Int32) (h0 : Heap) (O0 : Ext Z.heap h0) (q0 : own_A Z h0 arr kk .byte vs) (hu : vs = own_utf cs) (hxx : x.toInt = (i : Int)) (hlt : i < cs.length) (h3 : cs.length ≤ 3) (hc : own_chs cs) (hn : n = Int32.ofNat cs.length) (S_AD : Sta Z Z.heap own_s0 own_s4 "Z" (.int (1 : Int32))) (S_HI : Sta Z Z.heap own_s0 "HI_BYTE_SHIFT" "I" (.int (0 : Int32))) (S_LO : Sta Z Z.heap own_s0 "LO_BYTE_SHIFT" "I" (.int (8 : Int32))) :
    MetFree l own_m33 (head1 (Jvm.Cond.code own_m33 jdk_52_method_8_code 3 (some .int) :: ws) ({ frames := 2, cells := 0, slots := 0, locals := 31 } : Room)) (fun aa U => aa = #[(.ref arr), (.int x), (.int n)] ∧ Z.Warmed39 U.vm ∧ U.heap = h0) (fun _ _ _ _ _ => True) (fun _ U o U' => ∃ v L, o = .returned v ∧ Q_own_c3 Z arr kk vs cs x i n h0 v U'.heap L ∧ FrameEnd U o U' L ({ frames := 2, cells := 0, slots := 0, locals := 31 } : Room).cells ({ frames := 2, cells := 0, slots := 0, locals := 31 } : Room).slots) := by
  refine MetFree.of_bodySF pf_own_c3 hisR ?_
  intro p e s m args below meth c s₁ Bd hml0 hP hK
  obtain ⟨rfl, hZ, hh⟩ := hP
  have hx := Bd.exec
  have hby := Bd.bytes
  have hlk := BodyLoose.notSynchronized Bd
  have hml : c.maxLocals = 3 := hml0
  have hown : s.vm.findClass own_s0 = some m.cls := findClass_of_methodNamed Bd.named
  have hnm := (name_of_methodNamed Bd.named Bd.method).1
  have X0 : Stand p l e ({ frames := 2, cells := 0, slots := 0, locals := 31 } : Room) s m #[(.ref arr), (.int x), (.int n)] below meth c s₁ [] 0 0 := Stand.of_body Bd
  have e0 : s₁.heap = h0 := by rw [← hh, Bd.state]; rfl
  have N0 := Fr.nil Z.heap.size
  have K0 : Keep h0 h0 [] := Keep.refl _ _
  refine own_start (Q := Q_own_c3 Z arr kk vs cs x i n h0) (ef_own_c3 m (arr) (x) (n)) ?_
  show own_G p e below (s₁.setTop (mkF m 0 #[.val (.ref arr), .val (.int x), .val (.int n)] [])) _
  refine own_go (fun t k => XS.aloadN X0.here hx rfl (hb hby d_jdk_52_method_8_code_0) rfl rfl k) ?_
  refine own_go (fun t k => XS.iloadN X0.here hx rfl (hb hby d_jdk_52_method_8_code_1) rfl k) ?_
  refine own_go (fun t k => XS.iloadN X0.here hx rfl (hb hby d_jdk_52_method_8_code_2) rfl k) ?_
  show own_G p e below (s₁.setTop (mkF m 3 #[.val (.ref arr), .val (.int x), .val (.int n)] [(.int n), (.int x), (.ref arr)])) _
  refine own_go (fun t k => XS.iconst X0.here hx rfl (hb hby d_jdk_52_method_8_code_3) k) ?_
  obtain ⟨_, _, ⟨T1z, L1z, k1z, n1z⟩, -, X1z, ⟨Lc1z, hQ1z, l1z, y1z, z1z⟩, st1z⟩ := Jvm.LawKit.callS X0 hx (y := own_m32) hown (own_mw hZ hw 134 rfl) (own_mw hZ hw 135 rfl) (own_mw hZ hw 65 rfl) (own_mw hZ hw 136 rfl) (by decide) (backOf (W := 0) (own_c4 l Z a0 hw [] arr kk vs cs x i n h0 O0 q0 hu hxx hlt h3 hc hn S_AD S_HI S_LO) hZ (own_hw hw 136 rfl) (own_hw hw 65 rfl) (by decide) (by decide)) (g := (mkF m 4 #[.val (.ref arr), .val (.int x), .val (.int n)] [(.int (0 : Int32)), (.int n), (.int x), (.ref arr)])) rfl (by rw [hml]; rfl) (argsL := [(.ref arr), (.int x), (.int n), (.int (0 : Int32))]) (rest := []) (lenOf pd_1647781928 rfl) rfl (by show 2 * 0 + _ ≤ _; exact Nat.le_of_eq rfl) (hb hby d_jdk_52_method_8_code_4) (fun _ _ => ⟨rfl, e0, (by decide : 0 + 0 ≤ _), (by decide : 0 + 0 ≤ _)⟩)
  dsimp only [Pt.U, Pt.locs, Pt.cells, Pt.slots] at X1z l1z y1z z1z st1z hQ1z
  subst l1z y1z z1z
  obtain ⟨rfl, NQ1z, K1zq⟩ := hQ1z
  refine own_go st1z ?_
  have N1z := Fr.app N0 NQ1z
  show own_G p e below (T1z.setTop (mkF m 7 #[.val (.ref arr), .val (.int x), .val (.int n)] [(.int (own_cpx cs i))])) _
  exact own_ret X1z hx Bd.returns rfl (Or.inl ⟨rfl, Or.inl rfl, _, rfl⟩) (hb hby d_jdk_52_method_8_code_7) hlk (Nat.le_of_ble_eq_true rfl) (Nat.le_of_ble_eq_true rfl) (by show Q_own_c3 Z arr kk vs cs x i n h0 _ T1z.heap _; rw [K1zq]; exact ⟨rfl, N1z, rfl⟩)
theorem ef_own_cpa (m : MethodId) (x0 : Addr) (x1 : Int32) : entryFrame m #[(.ref x0), (.int x1)] 3 = mkF m 0 #[.val (.ref x0), .val (.int x1), .unset] [] := by first | (simp [entryFrame, mkF, argsToLocals, Value.category]; done) | rfl
theorem pf_own_cpa : plainFor own_m34 = true := plainFor_of_name (by simp [plainName, overriddenIn])
theorem pd_193422000 : parseMethodDescriptor "()Z" = some ⟨[], some .boolean⟩ := by decide +kernel
theorem pd_184293406 : parseMethodDescriptor "(II)V" = some ⟨[.int, .int], none⟩ := by decide +kernel
theorem pd_3824296398 : parseMethodDescriptor "([BII)I" = some ⟨[(.array .byte), .int, .int], some .int⟩ := by decide +kernel
theorem d_jdk_42_method_57_code_0 : decode jdk_42_method_57_code 0 = .ok (.aload_n 0, 1) := by decide +kernel
theorem d_jdk_42_method_57_code_1 : decode jdk_42_method_57_code 1 = .ok (.invokevirtual 492, 3) := by decide +kernel
theorem d_jdk_42_method_57_code_12 : decode jdk_42_method_57_code 12 = .ok (.arraylength, 1) := by decide +kernel
theorem d_jdk_42_method_57_code_13 : decode jdk_42_method_57_code 13 = .ok (.invokestatic 499, 3) := by decide +kernel
theorem d_jdk_42_method_57_code_16 : decode jdk_42_method_57_code 16 = .ok (.aload_n 0, 1) := by decide +kernel
theorem d_jdk_42_method_57_code_17 : decode jdk_42_method_57_code 17 = .ok (.getfield 9, 3) := by decide +kernel
theorem d_jdk_42_method_57_code_20 : decode jdk_42_method_57_code 20 = .ok (.iload_n 1, 1) := by decide +kernel
theorem d_jdk_42_method_57_code_21 : decode jdk_42_method_57_code 21 = .ok (.baload, 1) := by decide +kernel
theorem d_jdk_42_method_57_code_22 : decode jdk_42_method_57_code 22 = .ok (.sipush 255, 3) := by decide +kernel
theorem d_jdk_42_method_57_code_25 : decode jdk_42_method_57_code 25 = .ok (.iand, 1) := by decide +kernel
theorem d_jdk_42_method_57_code_26 : decode jdk_42_method_57_code 26 = .ok (.ireturn, 1) := by decide +kernel
theorem d_jdk_42_method_57_code_27 : decode jdk_42_method_57_code 27 = .ok (.aload_n 0, 1) := by decide +kernel
theorem d_jdk_42_method_57_code_28 : decode jdk_42_method_57_code 28 = .ok (.getfield 9, 3) := by decide +kernel
theorem d_jdk_42_method_57_code_31 : decode jdk_42_method_57_code 31 = .ok (.arraylength, 1) := by decide +kernel
theorem d_jdk_42_method_57_code_32 : decode jdk_42_method_57_code 32 = .ok (.iconst 1, 1) := by decide +kernel
theorem d_jdk_42_method_57_code_33 : decode jdk_42_method_57_code 33 = .ok (.ishr, 1) := by decide +kernel
theorem d_jdk_42_method_57_code_34 : decode jdk_42_method_57_code 34 = .ok (.istore_n 2, 1) := by decide +kernel
theorem d_jdk_42_method_57_code_35 : decode jdk_42_method_57_code 35 = .ok (.iload_n 1, 1) := by decide +kernel
theorem d_jdk_42_method_57_code_36 : decode jdk_42_method_57_code 36 = .ok (.iload_n 2, 1) := by decide +kernel
theorem d_jdk_42_method_57_code_37 : decode jdk_42_method_57_code 37 = .ok (.invokestatic 499, 3) := by decide +kernel
theorem d_jdk_42_method_57_code_4 : decode jdk_42_method_57_code 4 = .ok (.ifCond .eq 23, 3) := by decide +kernel
theorem d_jdk_42_method_57_code_40 : decode jdk_42_method_57_code 40 = .ok (.aload_n 0, 1) := by decide +kernel
theorem d_jdk_42_method_57_code_41 : decode jdk_42_method_57_code 41 = .ok (.getfield 9, 3) := by decide +kernel
theorem d_jdk_42_method_57_code_44 : decode jdk_42_method_57_code 44 = .ok (.iload_n 1, 1) := by decide +kernel
theorem d_jdk_42_method_57_code_45 : decode jdk_42_method_57_code 45 = .ok (.iload_n 2, 1) := by decide +kernel
theorem d_jdk_42_method_57_code_46 : decode jdk_42_method_57_code 46 = .ok (.invokestatic 502, 3) := by decide +kernel
theorem d_jdk_42_method_57_code_49 : decode jdk_42_method_57_code 49 = .ok (.ireturn, 1) := by decide +kernel
theorem d_jdk_42_method_57_code_7 : decode jdk_42_method_57_code 7 = .ok (.iload_n 1, 1) := by decide +kernel
theorem d_jdk_42_method_57_code_8 : decode jdk_42_method_57_code 8 = .ok (.aload_n 0, 1) := by decide +kernel
theorem d_jdk_42_method_57_code_9 : decode jdk_42_method_57_code 9 = .ok (.getfield 9, 3) := by decide +kernel
def Q_own_cpa (Z : State) (a1 : Addr) (b1 : Addr) (k1 : ClassId) (v1 : (List Value)) (d1 : Int32) (cs1 : (List Int32)) (x : Int32) (i : Nat) (cz : Int32) (fm : Value) (h0 : Heap) (v : Option Value) (h : Heap) (L : List Loc) : Prop := v = some (.int (own_cpx cs1 i)) ∧ Fr Z.heap.size L ∧ h = h0
set_option maxRecDepth 65536 in
set_option maxHeartbeats 40000000 in
theorem own_cpa (l : Launch) (Z : State) (a0 : Array Value) (hw : ∀ d ∈ tables_1, d.before a0 Z = true) (ws : List Jvm.Cond) (a1 : Addr) (b1 : Addr) (k1 : ClassId) (v1 : (List Value)) (d1 : Int32) (cs1 : (List Int32)) (x : Int32) (i : Nat) (cz : Int32) (fm : Value) (h0 : Heap) (O0 : Ext Z.heap h0) (q0 : Exa Z h0 a1 own_s1) (q1 : Fld Z h0 a1 own_s1 "value" "[B" (.ref b1)) (q2 : Fld Z h0 a1 own_s1 "coder" "B" (.int d1)) (q3 : own_A Z h0 b1 k1 .byte v1) (hr1 : own_rep cs1 d1 v1) (h31 : cs1.length ≤ 3) (hxx : x.toInt = (i : Int)) (hlt : i < cs1.length) (hc : own_chs cs1) (S_CS : Sta Z Z.heap own_s1 "COMPACT_STRINGS" "Z" (.int cz)) (hcs : ¬ (cz = (0 : Int32))) (S_FM : Sta Z Z.heap "jdk/internal/util/Preconditions" "SIOOBE_FORMATTER" "Ljava/util/function/BiFunction;" fm) (hfm : fm.isRef = true) (S_AD : Sta Z Z.heap own_s0 own_s4 "Z" (.int (1 : Int32))) (S_HI : Sta Z Z.heap own_s0 "HI_BYTE_SHIFT" "I" (.int (0 : Int32))) (S_LO : Sta Z Z.heap own_s0 "LO_BYTE_SHIFT" "I" (.int (8 : Int32))) :
    MetFree l own_m34 (head1 (Jvm.Cond.code own_m34 jdk_42_method_57_code 3 (some .int) :: ws) ({ frames := 3, cells := 0, slots := 0, locals := 45 } : Room)) (fun aa U => aa = #[(.ref a1), (.int x)] ∧ Z.Warmed39 U.vm ∧ U.heap = h0) (fun _ _ _ _ _ => True) (fun _ U o U' => ∃ v L, o = .returned v ∧ Q_own_cpa Z a1 b1 k1 v1 d1 cs1 x i cz fm h0 v U'.heap L ∧ FrameEnd U o U' L ({ frames := 3, cells := 0, slots := 0, locals := 45 } : Room).cells ({ frames := 3, cells := 0, slots := 0, locals := 45 } : Room).slots) := by
  refine MetFree.of_bodySF pf_own_cpa hisR ?_
  intro p e s m args below meth c s₁ Bd hml0 hP hK
  obtain ⟨rfl, hZ, hh⟩ := hP
  have hx := Bd.exec
  have hby := Bd.bytes
  have hlk := BodyLoose.notSynchronized Bd
  have hml : c.maxLocals = 3 := hml0
  have hown : s.vm.findClass own_s1 = some m.cls := findClass_of_methodNamed Bd.named
  have hnm := (name_of_methodNamed Bd.named Bd.method).1
  have X0 : Stand p l e ({ frames := 3, cells := 0, slots := 0, locals := 45 } : Room) s m #[(.ref a1), (.int x)] below meth c s₁ [] 0 0 := Stand.of_body Bd
  have e0 : s₁.heap = h0 := by rw [← hh, Bd.state]; rfl
  have N0 := Fr.nil Z.heap.size
  have K0 : Keep h0 h0 [] := Keep.refl _ _
  refine own_start (Q := Q_own_cpa Z a1 b1 k1 v1 d1 cs1 x i cz fm h0) (ef_own_cpa m (a1) (x)) ?_
  show own_G p e below (s₁.setTop (mkF m 0 #[.val (.ref a1), .val (.int x), .unset] [])) _
  refine own_go (fun t k => XS.aloadN X0.here hx rfl (hb hby d_jdk_42_method_57_code_0) rfl rfl k) ?_
  obtain ⟨cq1z, kq1z, qa1z, qb1z, qc1z⟩ := isOf hZ e0 q0
  obtain ⟨_, _, ⟨T1z, L1z, k1z, n1z⟩, -, X1z, ⟨Lc1z, hQ1z, l1z, y1z, z1z⟩, st1z⟩ := X0.virtualBack hx (y := own_m28) (z := own_m28) hown (own_mw hZ hw 118 rfl) (own_mw hZ hw 119 rfl) (notFace_of_selects (args := #[]) (own_mw hZ hw 121 rfl)) (own_mw hZ hw 121 rfl) (own_mw hZ hw 120 rfl) (by decide) (backOf (W := 0) (own_l1M l Z a0 hw [] a1 b1 k1 v1 d1 cs1 cz h0 O0 q0 q1 q2 q3 hr1 h31 S_CS hcs) hZ (own_hw hw 122 rfl) (own_hw hw 53 rfl) (by decide) (by decide)) qa1z qc1z (g := (mkF m 1 #[.val (.ref a1), .val (.int x), .unset] [(.ref a1)])) rfl (by rw [hml]; rfl) (Steps.refl _) (argsL := []) (rest := []) (lenOf pd_193422000 rfl) rfl (by show 2 * 0 + _ ≤ _; exact Nat.le_of_eq rfl) (hb hby d_jdk_42_method_57_code_1) (fun _ _ => ⟨rfl, e0, (by decide : 0 + 0 ≤ _), (by decide : 0 + 0 ≤ _)⟩)
  dsimp only [Pt.U, Pt.locs, Pt.cells, Pt.slots] at X1z l1z y1z z1z st1z hQ1z
  subst l1z y1z z1z
  obtain ⟨rfl, NQ1z, K1zq⟩ := hQ1z
  refine own_tr st1z ?_
  have N1z := Fr.app N0 NQ1z
  show own_G p e below (T1z.setTop (mkF m 4 #[.val (.ref a1), .val (.int x), .unset] [(.int (own_l1 d1))])) _
  by_cases hc2z : (own_l1 d1) = (0 : Int32)
  · refine own_go (fun t k => XS.ifYes X1z.here hx rfl (pc0 := 4) (pc' := 27) rfl (hb hby d_jdk_42_method_57_code_4) rfl ((if0 _ _).trans (teq hc2z).1) (by decide) (by decide) k) ?_
    show own_G p e below (T1z.setTop (mkF m 27 #[.val (.ref a1), .val (.int x), .unset] [])) _
    refine own_go (fun t k => XS.aloadN X1z.here hx rfl (hb hby d_jdk_42_method_57_code_27) rfl rfl k) ?_
    obtain ⟨T3z, X3z, e3z, st3z⟩ := getF X1z hx hZ hown (host := "") (Or.inl (own_hw hw 95 rfl)) Via.refl K1zq q1 (g := (mkF m 28 #[.val (.ref a1), .val (.int x), .unset] [(.ref a1)])) rfl rfl (hb hby d_jdk_42_method_57_code_28)
    refine own_go st3z ?_
    refine own_go (own_len X3z hx hZ e3z q3 (z := (Int32.ofNat v1.length)) (own_lenV hr1 h31) (g := (mkF m 31 #[.val (.ref a1), .val (.int x), .unset] [(.ref b1)])) rfl rfl (hb hby d_jdk_42_method_57_code_31)) ?_
    show own_G p e below (T3z.setTop (mkF m 32 #[.val (.ref a1), .val (.int x), .unset] [(.int (Int32.ofNat v1.length))])) _
    refine own_go (fun t k => XS.iconst X3z.here hx rfl (hb hby d_jdk_42_method_57_code_32) k) ?_
    refine own_go (fun t k => XS.ishr X3z.here hx rfl (hb hby d_jdk_42_method_57_code_33) rfl k) ?_
    refine own_go (fun t k => XS.istoreN X3z.here hx rfl (hb hby d_jdk_42_method_57_code_34) rfl (l' := #[.val (.ref a1), .val (.int x), .val (.int ((Int32.ofNat v1.length) >>> ((1 : Int32) &&& 31)))]) rfl k) ?_
    show own_G p e below (T3z.setTop (mkF m 35 #[.val (.ref a1), .val (.int x), .val (.int ((Int32.ofNat v1.length) >>> ((1 : Int32) &&& 31)))] [])) _
    refine own_go (fun t k => XS.iloadN X3z.here hx rfl (hb hby d_jdk_42_method_57_code_35) rfl k) ?_
    refine own_go (fun t k => XS.iloadN X3z.here hx rfl (hb hby d_jdk_42_method_57_code_36) rfl k) ?_
    obtain ⟨_, _, ⟨T4z, L4z, k4z, n4z⟩, -, X4z, ⟨Lc4z, hQ4z, l4z, y4z, z4z⟩, st4z⟩ := Jvm.LawKit.callS X3z hx (y := own_m31) hown (own_mw hZ hw 123 rfl) (own_mw hZ hw 124 rfl) (own_mw hZ hw 53 rfl) (own_mw hZ hw 125 rfl) (by decide) (backOf (W := 0) (own_sci l Z a0 hw [] x ((Int32.ofNat v1.length) >>> ((1 : Int32) &&& 31)) fm h0 O0 S_FM hfm (own_nneg hxx) (by rw [own_len16 (own_l1y hr1 hc2z) h31]; exact (own_ltN hxx h31).mpr hlt)) hZ (own_hw hw 125 rfl) (own_hw hw 53 rfl) (by decide) (by decide)) (g := (mkF m 37 #[.val (.ref a1), .val (.int x), .val (.int ((Int32.ofNat v1.length) >>> ((1 : Int32) &&& 31)))] [(.int ((Int32.ofNat v1.length) >>> ((1 : Int32) &&& 31))), (.int x)])) rfl (by rw [hml]; rfl) (argsL := [(.int x), (.int ((Int32.ofNat v1.length) >>> ((1 : Int32) &&& 31)))]) (rest := []) (lenOf pd_184293406 rfl) rfl (by show 2 * 0 + _ ≤ _; exact Nat.le_of_eq rfl) (hb hby d_jdk_42_method_57_code_37) (fun _ _ => ⟨rfl, e3z, (by decide : 0 + 0 ≤ _), (by decide : 0 + 0 ≤ _)⟩)
    dsimp only [Pt.U, Pt.locs, Pt.cells, Pt.slots] at X4z l4z y4z z4z st4z hQ4z
    subst l4z y4z z4z
    obtain ⟨rfl, NQ4z, K4zq⟩ := hQ4z
    refine own_go st4z ?_
    have N4z := Fr.app N1z NQ4z
    show own_G p e below (T4z.setTop (mkF m 40 #[.val (.ref a1), .val (.int x), .val (.int ((Int32.ofNat v1.length) >>> ((1 : Int32) &&& 31)))] [])) _
    refine own_go (fun t k => XS.aloadN X4z.here hx rfl (hb hby d_jdk_42_method_57_code_40) rfl rfl k) ?_
    obtain ⟨T5z, X5z, e5z, st5z⟩ := getF X4z hx hZ hown (host := "") (Or.inl (own_hw hw 95 rfl)) Via.refl K4zq q1 (g := (mkF m 41 #[.val (.ref a1), .val (.int x), .val (.int ((Int32.ofNat v1.length) >>> ((1 : Int32) &&& 31)))] [(.ref a1)])) rfl rfl (hb hby d_jdk_42_method_57_code_41)
    refine own_go st5z ?_
    refine own_go (fun t k => XS.iloadN X5z.here hx rfl (hb hby d_jdk_42_method_57_code_44) rfl k) ?_
    show own_G p e below (T5z.setTop (mkF m 45 #[.val (.ref a1), .val (.int x), .val (.int ((Int32.ofNat v1.length) >>> ((1 : Int32) &&& 31)))] [(.int x), (.ref b1)])) _
    refine own_go (fun t k => XS.iloadN X5z.here hx rfl (hb hby d_jdk_42_method_57_code_45) rfl k) ?_
    obtain ⟨_, _, ⟨T6z, L6z, k6z, n6z⟩, -, X6z, ⟨Lc6z, hQ6z, l6z, y6z, z6z⟩, st6z⟩ := Jvm.LawKit.callS X5z hx (y := own_m33) hown (own_mw hZ hw 131 rfl) (own_mw hZ hw 132 rfl) (own_mw hZ hw 65 rfl) (own_mw hZ hw 133 rfl) (by decide) (backOf (W := 0) (own_c3 l Z a0 hw [] b1 k1 v1 cs1 x i ((Int32.ofNat v1.length) >>> ((1 : Int32) &&& 31)) h0 O0 q3 (own_l1y hr1 hc2z) hxx hlt h31 hc (own_len16 (own_l1y hr1 hc2z) h31) S_AD S_HI S_LO) hZ (own_hw hw 133 rfl) (own_hw hw 65 rfl) (by decide) (by decide)) (g := (mkF m 46 #[.val (.ref a1), .val (.int x), .val (.int ((Int32.ofNat v1.length) >>> ((1 : Int32) &&& 31)))] [(.int ((Int32.ofNat v1.length) >>> ((1 : Int32) &&& 31))), (.int x), (.ref b1)])) rfl (by rw [hml]; rfl) (argsL := [(.ref b1), (.int x), (.int ((Int32.ofNat v1.length) >>> ((1 : Int32) &&& 31)))]) (rest := []) (lenOf pd_3824296398 rfl) rfl (by show 2 * 0 + _ ≤ _; exact Nat.le_of_eq rfl) (hb hby d_jdk_42_method_57_code_46) (fun _ _ => ⟨rfl, e5z, (by decide : 0 + 0 ≤ _), (by decide : 0 + 0 ≤ _)⟩)
    dsimp only [Pt.U, Pt.locs, Pt.cells, Pt.slots] at X6z l6z y6z z6z st6z hQ6z
    subst l6z y6z z6z
    obtain ⟨rfl, NQ6z, K6zq⟩ := hQ6z
    refine own_go st6z ?_
    have N6z := Fr.app N4z NQ6z
    show own_G p e below (T6z.setTop (mkF m 49 #[.val (.ref a1), .val (.int x), .val (.int ((Int32.ofNat v1.length) >>> ((1 : Int32) &&& 31)))] [(.int (own_cpx cs1 i))])) _
    exact own_ret X6z hx Bd.returns rfl (Or.inl ⟨rfl, Or.inl rfl, _, rfl⟩) (hb hby d_jdk_42_method_57_code_49) hlk (Nat.le_of_ble_eq_true rfl) (Nat.le_of_ble_eq_true rfl) (by show Q_own_cpa Z a1 b1 k1 v1 d1 cs1 x i cz fm h0 _ T6z.heap _; rw [K6zq]; exact ⟨rfl, N6z, rfl⟩)
  · refine own_go (fun t k => XS.ifNo X1z.here hx rfl (hb hby d_jdk_42_method_57_code_4) rfl ((if0 _ _).trans (feq hc2z).1) k) ?_
    show own_G p e below (T1z.setTop (mkF m 7 #[.val (.ref a1), .val (.int x), .unset] [])) _
    refine own_go (fun t k => XS.iloadN X1z.here hx rfl (hb hby d_jdk_42_method_57_code_7) rfl k) ?_
    refine own_go (fun t k => XS.aloadN X1z.here hx rfl (hb hby d_jdk_42_method_57_code_8) rfl rfl k) ?_
    obtain ⟨T7z, X7z, e7z, st7z⟩ := getF X1z hx hZ hown (host := "") (Or.inl (own_hw hw 95 rfl)) Via.refl K1zq q1 (g := (mkF m 9 #[.val (.ref a1), .val (.int x), .unset] [(.ref a1), (.int x)])) rfl rfl (hb hby d_jdk_42_method_57_code_9)
    refine own_go st7z ?_
    show own_G p e below (T7z.setTop (mkF m 12 #[.val (.ref a1), .val (.int x), .unset] [(.ref b1), (.int x)])) _
    refine own_go (own_len X7z hx hZ e7z q3 (z := (Int32.ofNat v1.length)) (own_lenV hr1 h31) (g := (mkF m 12 #[.val (.ref a1), .val (.int x), .unset] [(.ref b1), (.int x)])) rfl rfl (hb hby d_jdk_42_method_57_code_12)) ?_
    obtain ⟨_, _, ⟨T8z, L8z, k8z, n8z⟩, -, X8z, ⟨Lc8z, hQ8z, l8z, y8z, z8z⟩, st8z⟩ := Jvm.LawKit.callS X7z hx (y := own_m31) hown (own_mw hZ hw 123 rfl) (own_mw hZ hw 124 rfl) (own_mw hZ hw 53 rfl) (own_mw hZ hw 125 rfl) (by decide) (backOf (W := 0) (own_sci l Z a0 hw [] x (Int32.ofNat v1.length) fm h0 O0 S_FM hfm (own_nneg hxx) (own_ltV hxx h31 hlt (own_l1n hr1 hc2z).1)) hZ (own_hw hw 125 rfl) (own_hw hw 53 rfl) (by decide) (by decide)) (g := (mkF m 13 #[.val (.ref a1), .val (.int x), .unset] [(.int (Int32.ofNat v1.length)), (.int x)])) rfl (by rw [hml]; rfl) (argsL := [(.int x), (.int (Int32.ofNat v1.length))]) (rest := []) (lenOf pd_184293406 rfl) rfl (by show 2 * 0 + _ ≤ _; exact Nat.le_of_eq rfl) (hb hby d_jdk_42_method_57_code_13) (fun _ _ => ⟨rfl, e7z, (by decide : 0 + 0 ≤ _), (by decide : 0 + 0 ≤ _)⟩)
    dsimp only [Pt.U, Pt.locs, Pt.cells, Pt.slots] at X8z l8z y8z z8z st8z hQ8z
    subst l8z y8z z8z
    obtain ⟨rfl, NQ8z, K8zq⟩ := hQ8z
    refine own_go st8z ?_
    have N8z := Fr.app N1z NQ8z
    show own_G p e below (T8z.setTop (mkF m 16 #[.val (.ref a1), .val (.int x), .unset] [])) _
    refine own_go (fun t k => XS.aloadN X8z.here hx rfl (hb hby d_jdk_42_method_57_code_16) rfl rfl k) ?_
    obtain ⟨T9z, X9z, e9z, st9z⟩ := getF X8z hx hZ hown (host := "") (Or.inl (own_hw hw 95 rfl)) Via.refl K8zq q1 (g := (mkF m 17 #[.val (.ref a1), .val (.int x), .unset] [(.ref a1)])) rfl rfl (hb hby d_jdk_42_method_57_code_17)
    refine own_go st9z ?_
    refine own_go (fun t k => XS.iloadN X9z.here hx rfl (hb hby d_jdk_42_method_57_code_20) rfl k) ?_
    show own_G p e below (T9z.setTop (mkF m 21 #[.val (.ref a1), .val (.int x), .unset] [(.int x), (.ref b1)])) _
    refine own_go (own_ldB X9z hx hZ e9z q3 (i := i) (v := (.int (own_lb (cs1.getD i 0)))) hxx (by rw [(own_l1n hr1 hc2z).1]; exact own_lat_get hlt) (g := (mkF m 21 #[.val (.ref a1), .val (.int x), .unset] [(.int x), (.ref b1)])) rfl rfl (hb hby d_jdk_42_method_57_code_21)) ?_
    refine own_go (fun t k => XS.sipush X9z.here hx rfl (hb hby d_jdk_42_method_57_code_22) k) ?_
    refine own_go (fun t k => XS.iand X9z.here hx rfl (hb hby d_jdk_42_method_57_code_25) rfl k) ?_
    show own_G p e below (T9z.setTop (mkF m 26 #[.val (.ref a1), .val (.int x), .unset] [(.int ((own_lb (cs1.getD i 0)) &&& (255 : Int32)))])) _
    exact own_ret X9z hx Bd.returns rfl (Or.inl ⟨rfl, Or.inl rfl, _, rfl⟩) (hb hby d_jdk_42_method_57_code_26) hlk (Nat.le_of_ble_eq_true rfl) (Nat.le_of_ble_eq_true rfl) (by show Q_own_cpa Z a1 b1 k1 v1 d1 cs1 x i cz fm h0 _ T9z.heap _; rw [e9z]; exact ⟨(congrArg (fun z => some (Value.int z)) (own_cpL hc (own_l1n hr1 hc2z).2 hlt)), N8z, rfl⟩)
theorem ef_own_ctM (m : MethodId) (x0 : Addr) (x1 : Addr) : entryFrame m #[(.ref x0), (.ref x1)] 6 = mkF m 0 #[.val (.ref x0), .val (.ref x1), .unset, .unset, .unset, .unset] [] := by first | (simp [entryFrame, mkF, argsToLocals, Value.category]; done) | rfl
theorem pf_own_ctM : plainFor own_m35 = true := plainFor_of_name (by simp [plainName, overriddenIn])
theorem pd_193421983 : parseMethodDescriptor "()I" = some ⟨[], some .int⟩ := by decide +kernel
theorem pd_184293393 : parseMethodDescriptor "(II)I" = some ⟨[.int, .int], some .int⟩ := by decide +kernel
theorem d_prog_124_method_4_code_0 : decode prog_124_method_4_code 0 = .ok (.iconst 0, 1) := by decide +kernel
theorem d_prog_124_method_4_code_1 : decode prog_124_method_4_code 1 = .ok (.istore_n 2, 1) := by decide +kernel
theorem d_prog_124_method_4_code_10 : decode prog_124_method_4_code 10 = .ok (.invokevirtual 33, 3) := by decide +kernel
theorem d_prog_124_method_4_code_13 : decode prog_124_method_4_code 13 = .ok (.if_icmp .ge 44, 3) := by decide +kernel
theorem d_prog_124_method_4_code_16 : decode prog_124_method_4_code 16 = .ok (.iload_n 2, 1) := by decide +kernel
theorem d_prog_124_method_4_code_17 : decode prog_124_method_4_code 17 = .ok (.aload_n 1, 1) := by decide +kernel
theorem d_prog_124_method_4_code_18 : decode prog_124_method_4_code 18 = .ok (.invokevirtual 33, 3) := by decide +kernel
theorem d_prog_124_method_4_code_2 : decode prog_124_method_4_code 2 = .ok (.iconst 0, 1) := by decide +kernel
theorem d_prog_124_method_4_code_21 : decode prog_124_method_4_code 21 = .ok (.if_icmp .ge 36, 3) := by decide +kernel
theorem d_prog_124_method_4_code_24 : decode prog_124_method_4_code 24 = .ok (.aload_n 0, 1) := by decide +kernel
theorem d_prog_124_method_4_code_25 : decode prog_124_method_4_code 25 = .ok (.iload_n 2, 1) := by decide +kernel
theorem d_prog_124_method_4_code_26 : decode prog_124_method_4_code 26 = .ok (.invokevirtual 37, 3) := by decide +kernel
theorem d_prog_124_method_4_code_29 : decode prog_124_method_4_code 29 = .ok (.istore 4, 2) := by decide +kernel
theorem d_prog_124_method_4_code_3 : decode prog_124_method_4_code 3 = .ok (.istore_n 3, 1) := by decide +kernel
theorem d_prog_124_method_4_code_31 : decode prog_124_method_4_code 31 = .ok (.aload_n 1, 1) := by decide +kernel
theorem d_prog_124_method_4_code_32 : decode prog_124_method_4_code 32 = .ok (.iload_n 2, 1) := by decide +kernel
theorem d_prog_124_method_4_code_33 : decode prog_124_method_4_code 33 = .ok (.invokevirtual 37, 3) := by decide +kernel
theorem d_prog_124_method_4_code_36 : decode prog_124_method_4_code 36 = .ok (.istore 5, 2) := by decide +kernel
theorem d_prog_124_method_4_code_38 : decode prog_124_method_4_code 38 = .ok (.iload 4, 2) := by decide +kernel
theorem d_prog_124_method_4_code_4 : decode prog_124_method_4_code 4 = .ok (.iload_n 3, 1) := by decide +kernel
theorem d_prog_124_method_4_code_40 : decode prog_124_method_4_code 40 = .ok (.iload 5, 2) := by decide +kernel
theorem d_prog_124_method_4_code_42 : decode prog_124_method_4_code 42 = .ok (.invokestatic 41, 3) := by decide +kernel
theorem d_prog_124_method_4_code_45 : decode prog_124_method_4_code 45 = .ok (.istore_n 3, 1) := by decide +kernel
theorem d_prog_124_method_4_code_46 : decode prog_124_method_4_code 46 = .ok (.iload_n 2, 1) := by decide +kernel
theorem d_prog_124_method_4_code_47 : decode prog_124_method_4_code 47 = .ok (.iload 4, 2) := by decide +kernel
theorem d_prog_124_method_4_code_49 : decode prog_124_method_4_code 49 = .ok (.invokestatic 46, 3) := by decide +kernel
theorem d_prog_124_method_4_code_5 : decode prog_124_method_4_code 5 = .ok (.ifCond .ne 52, 3) := by decide +kernel
theorem d_prog_124_method_4_code_52 : decode prog_124_method_4_code 52 = .ok (.iadd, 1) := by decide +kernel
theorem d_prog_124_method_4_code_53 : decode prog_124_method_4_code 53 = .ok (.istore_n 2, 1) := by decide +kernel
theorem d_prog_124_method_4_code_54 : decode prog_124_method_4_code 54 = .ok (.goto (-50), 3) := by decide +kernel
theorem d_prog_124_method_4_code_57 : decode prog_124_method_4_code 57 = .ok (.iload_n 3, 1) := by decide +kernel
theorem d_prog_124_method_4_code_58 : decode prog_124_method_4_code 58 = .ok (.ifCond .ne 15, 3) := by decide +kernel
theorem d_prog_124_method_4_code_61 : decode prog_124_method_4_code 61 = .ok (.aload_n 0, 1) := by decide +kernel
theorem d_prog_124_method_4_code_62 : decode prog_124_method_4_code 62 = .ok (.invokevirtual 33, 3) := by decide +kernel
theorem d_prog_124_method_4_code_65 : decode prog_124_method_4_code 65 = .ok (.aload_n 1, 1) := by decide +kernel
theorem d_prog_124_method_4_code_66 : decode prog_124_method_4_code 66 = .ok (.invokevirtual 33, 3) := by decide +kernel
theorem d_prog_124_method_4_code_69 : decode prog_124_method_4_code 69 = .ok (.invokestatic 41, 3) := by decide +kernel
theorem d_prog_124_method_4_code_72 : decode prog_124_method_4_code 72 = .ok (.istore_n 3, 1) := by decide +kernel
theorem d_prog_124_method_4_code_73 : decode prog_124_method_4_code 73 = .ok (.iload_n 3, 1) := by decide +kernel
theorem d_prog_124_method_4_code_74 : decode prog_124_method_4_code 74 = .ok (.ireturn, 1) := by decide +kernel
theorem d_prog_124_method_4_code_8 : decode prog_124_method_4_code 8 = .ok (.iload_n 2, 1) := by decide +kernel
theorem d_prog_124_method_4_code_9 : decode prog_124_method_4_code 9 = .ok (.aload_n 0, 1) := by decide +kernel
def Q_own_ctM (Z : State) (a1 : Addr) (b1 : Addr) (k1 : ClassId) (v1 : (List Value)) (d1 : Int32) (cs1 : (List Int32)) (a2 : Addr) (b2 : Addr) (k2 : ClassId) (v2 : (List Value)) (d2 : Int32) (cs2 : (List Int32)) (cz : Int32) (fm : Value) (h0 : Heap) (v : Option Value) (h : Heap) (L : List Loc) : Prop := v = some (.int (own_ct cs1 cs2)) ∧ Fr Z.heap.size L ∧ h = h0
set_option maxRecDepth 65536 in
set_option maxHeartbeats 40000000 in
theorem own_ctM (l : Launch) (Z : State) (a0 : Array Value) (hw : ∀ d ∈ tables_1, d.before a0 Z = true) (ws : List Jvm.Cond) (a1 : Addr) (b1 : Addr) (k1 : ClassId) (v1 : (List Value)) (d1 : Int32) (cs1 : (List Int32)) (a2 : Addr) (b2 : Addr) (k2 : ClassId) (v2 : (List Value)) (d2 : Int32) (cs2 : (List Int32)) (cz : Int32) (fm : Value) (h0 : Heap) (O0 : Ext Z.heap h0) (q0 : Exa Z h0 a1 own_s1) (q1 : Fld Z h0 a1 own_s1 "value" "[B" (.ref b1)) (q2 : Fld Z h0 a1 own_s1 "coder" "B" (.int d1)) (q3 : own_A Z h0 b1 k1 .byte v1) (hr1 : own_rep cs1 d1 v1) (h31 : cs1.length ≤ 3) (q6 : Exa Z h0 a2 own_s1) (q7 : Fld Z h0 a2 own_s1 "value" "[B" (.ref b2)) (q8 : Fld Z h0 a2 own_s1 "coder" "B" (.int d2)) (q9 : own_A Z h0 b2 k2 .byte v2) (hr2 : own_rep cs2 d2 v2) (h32 : cs2.length ≤ 3) (hc1 : own_chs cs1) (hc2 : own_chs cs2) (S_CS : Sta Z Z.heap own_s1 "COMPACT_STRINGS" "Z" (.int cz)) (hcs : ¬ (cz = (0 : Int32))) (S_FM : Sta Z Z.heap "jdk/internal/util/Preconditions" "SIOOBE_FORMATTER" "Ljava/util/function/BiFunction;" fm) (hfm : fm.isRef = true) (S_AD : Sta Z Z.heap own_s0 own_s4 "Z" (.int (1 : Int32))) (S_HI : Sta Z Z.heap own_s0 "HI_BYTE_SHIFT" "I" (.int (0 : Int32))) (S_LO : Sta Z Z.heap own_s0 "LO_BYTE_SHIFT" "I" (.int (8 : Int32))) :
    MetFree l own_m35 (head1 (Jvm.Cond.code own_m35 prog_124_method_4_code 6 (some .int) :: ws) ({ frames := 4, cells := 0, slots := 0, locals := 60 } : Room)) (fun aa U => aa = #[(.ref a1), (.ref a2)] ∧ Z.Warmed39 U.vm ∧ U.heap = h0) (fun _ _ _ _ _ => True) (fun _ U o U' => ∃ v L, o = .returned v ∧ Q_own_ctM Z a1 b1 k1 v1 d1 cs1 a2 b2 k2 v2 d2 cs2 cz fm h0 v U'.heap L ∧ FrameEnd U o U' L ({ frames := 4, cells := 0, slots := 0, locals := 60 } : Room).cells ({ frames := 4, cells := 0, slots := 0, locals := 60 } : Room).slots) := by
  refine MetFree.of_bodySF pf_own_ctM hisR ?_
  intro p e s m args below meth c s₁ Bd hml0 hP hK
  obtain ⟨rfl, hZ, hh⟩ := hP
  have hx := Bd.exec
  have hby := Bd.bytes
  have hlk := BodyLoose.notSynchronized Bd
  have hml : c.maxLocals = 6 := hml0
  have hown : s.vm.findClass "com/example/feeds_to_views/feedstoviews/sql/Values" = some m.cls := findClass_of_methodNamed Bd.named
  have hnm := (name_of_methodNamed Bd.named Bd.method).1
  have X0 : Stand p l e ({ frames := 4, cells := 0, slots := 0, locals := 60 } : Room) s m #[(.ref a1), (.ref a2)] below meth c s₁ [] 0 0 := Stand.of_body Bd
  have e0 : s₁.heap = h0 := by rw [← hh, Bd.state]; rfl
  have N0 := Fr.nil Z.heap.size
  have K0 : Keep h0 h0 [] := Keep.refl _ _
  refine own_start (Q := Q_own_ctM Z a1 b1 k1 v1 d1 cs1 a2 b2 k2 v2 d2 cs2 cz fm h0) (ef_own_ctM m (a1) (a2)) ?_
  show own_G p e below (s₁.setTop (mkF m 0 #[.val (.ref a1), .val (.ref a2), .unset, .unset, .unset, .unset] [])) _
  refine own_go (fun t k => XS.iconst X0.here hx rfl (hb hby d_prog_124_method_4_code_0) k) ?_
  refine own_go (fun t k => XS.istoreN X0.here hx rfl (hb hby d_prog_124_method_4_code_1) rfl (l' := #[.val (.ref a1), .val (.ref a2), .val (.int (0 : Int32)), .unset, .unset, .unset]) rfl k) ?_
  refine own_go (fun t k => XS.iconst X0.here hx rfl (hb hby d_prog_124_method_4_code_2) k) ?_
  show own_G p e below (s₁.setTop (mkF m 3 #[.val (.ref a1), .val (.ref a2), .val (.int (0 : Int32)), .unset, .unset, .unset] [(.int (0 : Int32))])) _
  refine own_go (fun t k => XS.istoreN X0.here hx rfl (hb hby d_prog_124_method_4_code_3) rfl (l' := #[.val (.ref a1), .val (.ref a2), .val (.int (0 : Int32)), .val (.int (0 : Int32)), .unset, .unset]) rfl k) ?_
  have loop : ∀ (f i : Nat) (xi z4 z5 : Int32) (T : State) (locs : List Loc), cs1.length ≤ i + f → xi.toInt = (i : Int) → own_cf cs1 cs2 f i = own_ct cs1 cs2 → Stand p l e ({ frames := 4, cells := 0, slots := 0, locals := 60 } : Room) s m #[.ref a1, .ref a2] below meth c T locs 0 0 → T.heap = h0 → Fr Z.heap.size locs → own_G p e below (T.setTop (mkF m 4 #[.val (.ref a1), .val (.ref a2), .val (.int xi), .val (.int (0 : Int32)), .val (.int z4), .val (.int z5)] [])) (own_P s below ({ frames := 4, cells := 0, slots := 0, locals := 60 } : Room).cells ({ frames := 4, cells := 0, slots := 0, locals := 60 } : Room).slots (Q_own_ctM Z a1 b1 k1 v1 d1 cs1 a2 b2 k2 v2 d2 cs2 cz fm h0)) := by
    intro f
    induction f with
    | zero =>
      intro i xi z4 z5 T locs hf hxi hres X eL NL
      refine own_go (fun t k => XS.iloadN X.here hx rfl (hb hby d_prog_124_method_4_code_4) rfl k) ?_
      refine own_go (fun t k => XS.ifNo X.here hx rfl (hb hby d_prog_124_method_4_code_5) rfl ((if0 _ _).trans (teq (by decide : (0 : Int32) = (0 : Int32))).2) k) ?_
      show own_G p e below (T.setTop (mkF m 8 #[.val (.ref a1), .val (.ref a2), .val (.int xi), .val (.int (0 : Int32)), .val (.int z4), .val (.int z5)] [])) _
      refine own_go (fun t k => XS.iloadN X.here hx rfl (hb hby d_prog_124_method_4_code_8) rfl k) ?_
      refine own_go (fun t k => XS.aloadN X.here hx rfl (hb hby d_prog_124_method_4_code_9) rfl rfl k) ?_
      obtain ⟨cq1z, kq1z, qa1z, qb1z, qc1z⟩ := isOf hZ eL q0
      obtain ⟨_, _, ⟨T1z, L1z, k1z, n1z⟩, -, X1z, ⟨Lc1z, hQ1z, l1z, y1z, z1z⟩, st1z⟩ := X.virtualBack hx (y := own_m29) (z := own_m29) hown (own_mw hZ hw 103 rfl) (own_mw hZ hw 104 rfl) (notFace_of_selects (args := #[]) (own_mw hZ hw 106 rfl)) (own_mw hZ hw 106 rfl) (own_mw hZ hw 105 rfl) (by decide) (backOf (W := 1) (own_len_ l Z a0 hw [] a1 b1 k1 v1 d1 cs1 cz h0 O0 q0 q1 q2 q3 hr1 h31 S_CS hcs) hZ (own_hw hw 107 rfl) (own_hw hw 53 rfl) (by decide) (by decide)) qa1z qc1z (g := (mkF m 10 #[.val (.ref a1), .val (.ref a2), .val (.int xi), .val (.int (0 : Int32)), .val (.int z4), .val (.int z5)] [(.ref a1), (.int xi)])) rfl (by rw [hml]; rfl) (Steps.refl _) (argsL := []) (rest := [(.int xi)]) (lenOf pd_193421983 rfl) rfl (by show 2 * 0 + _ ≤ _; exact Nat.le_of_eq rfl) (hb hby d_prog_124_method_4_code_10) (fun _ _ => ⟨rfl, eL, (by decide : 0 + 0 ≤ _), (by decide : 0 + 0 ≤ _)⟩)
      dsimp only [Pt.U, Pt.locs, Pt.cells, Pt.slots] at X1z l1z y1z z1z st1z hQ1z
      subst l1z y1z z1z
      obtain ⟨rfl, NQ1z, K1zq⟩ := hQ1z
      refine own_tr st1z ?_
      have N1z := Fr.app NL NQ1z
      show own_G p e below (T1z.setTop (mkF m 13 #[.val (.ref a1), .val (.ref a2), .val (.int xi), .val (.int (0 : Int32)), .val (.int z4), .val (.int z5)] [(.int (Int32.ofNat cs1.length)), (.int xi)])) _
      refine own_go (fun t k => XS.icmpYes X1z.here hx rfl (pc0 := 13) (pc' := 57) rfl (hb hby d_prog_124_method_4_code_13) rfl (flt (fun q => absurd ((own_ltN hxi h31).mp q) (by omega))).2.1 (by decide) (by decide) k) ?_
      show own_G p e below (T1z.setTop (mkF m 57 #[.val (.ref a1), .val (.ref a2), .val (.int xi), .val (.int (0 : Int32)), .val (.int z4), .val (.int z5)] [])) _
      refine own_go (fun t k => XS.iloadN X1z.here hx rfl (hb hby d_prog_124_method_4_code_57) rfl k) ?_
      refine own_go (fun t k => XS.ifNo X1z.here hx rfl (hb hby d_prog_124_method_4_code_58) rfl ((if0 _ _).trans (teq (by decide : (0 : Int32) = (0 : Int32))).2) k) ?_
      show own_G p e below (T1z.setTop (mkF m 61 #[.val (.ref a1), .val (.ref a2), .val (.int xi), .val (.int (0 : Int32)), .val (.int z4), .val (.int z5)] [])) _
      refine own_go (fun t k => XS.aloadN X1z.here hx rfl (hb hby d_prog_124_method_4_code_61) rfl rfl k) ?_
      obtain ⟨cq2z, kq2z, qa2z, qb2z, qc2z⟩ := isOf hZ K1zq q0
      obtain ⟨_, _, ⟨T2z, L2z, k2z, n2z⟩, -, X2z, ⟨Lc2z, hQ2z, l2z, y2z, z2z⟩, st2z⟩ := X1z.virtualBack hx (y := own_m29) (z := own_m29) hown (own_mw hZ hw 103 rfl) (own_mw hZ hw 104 rfl) (notFace_of_selects (args := #[]) (own_mw hZ hw 106 rfl)) (own_mw hZ hw 106 rfl) (own_mw hZ hw 105 rfl) (by decide) (backOf (W := 0) (own_len_ l Z a0 hw [] a1 b1 k1 v1 d1 cs1 cz h0 O0 q0 q1 q2 q3 hr1 h31 S_CS hcs) hZ (own_hw hw 107 rfl) (own_hw hw 53 rfl) (by decide) (by decide)) qa2z qc2z (g := (mkF m 62 #[.val (.ref a1), .val (.ref a2), .val (.int xi), .val (.int (0 : Int32)), .val (.int z4), .val (.int z5)] [(.ref a1)])) rfl (by rw [hml]; rfl) (Steps.refl _) (argsL := []) (rest := []) (lenOf pd_193421983 rfl) rfl (by show 2 * 0 + _ ≤ _; exact Nat.le_of_eq rfl) (hb hby d_prog_124_method_4_code_62) (fun _ _ => ⟨rfl, K1zq, (by decide : 0 + 0 ≤ _), (by decide : 0 + 0 ≤ _)⟩)
      dsimp only [Pt.U, Pt.locs, Pt.cells, Pt.slots] at X2z l2z y2z z2z st2z hQ2z
      subst l2z y2z z2z
      obtain ⟨rfl, NQ2z, K2zq⟩ := hQ2z
      refine own_tr st2z ?_
      have N2z := Fr.app N1z NQ2z
      show own_G p e below (T2z.setTop (mkF m 65 #[.val (.ref a1), .val (.ref a2), .val (.int xi), .val (.int (0 : Int32)), .val (.int z4), .val (.int z5)] [(.int (Int32.ofNat cs1.length))])) _
      refine own_go (fun t k => XS.aloadN X2z.here hx rfl (hb hby d_prog_124_method_4_code_65) rfl rfl k) ?_
      obtain ⟨cq3z, kq3z, qa3z, qb3z, qc3z⟩ := isOf hZ K2zq q6
      obtain ⟨_, _, ⟨T3z, L3z, k3z, n3z⟩, -, X3z, ⟨Lc3z, hQ3z, l3z, y3z, z3z⟩, st3z⟩ := X2z.virtualBack hx (y := own_m29) (z := own_m29) hown (own_mw hZ hw 103 rfl) (own_mw hZ hw 104 rfl) (notFace_of_selects (args := #[]) (own_mw hZ hw 106 rfl)) (own_mw hZ hw 106 rfl) (own_mw hZ hw 105 rfl) (by decide) (backOf (W := 1) (own_len_ l Z a0 hw [] a2 b2 k2 v2 d2 cs2 cz h0 O0 q6 q7 q8 q9 hr2 h32 S_CS hcs) hZ (own_hw hw 107 rfl) (own_hw hw 53 rfl) (by decide) (by decide)) qa3z qc3z (g := (mkF m 66 #[.val (.ref a1), .val (.ref a2), .val (.int xi), .val (.int (0 : Int32)), .val (.int z4), .val (.int z5)] [(.ref a2), (.int (Int32.ofNat cs1.length))])) rfl (by rw [hml]; rfl) (Steps.refl _) (argsL := []) (rest := [(.int (Int32.ofNat cs1.length))]) (lenOf pd_193421983 rfl) rfl (by show 2 * 0 + _ ≤ _; exact Nat.le_of_eq rfl) (hb hby d_prog_124_method_4_code_66) (fun _ _ => ⟨rfl, K2zq, (by decide : 0 + 0 ≤ _), (by decide : 0 + 0 ≤ _)⟩)
      dsimp only [Pt.U, Pt.locs, Pt.cells, Pt.slots] at X3z l3z y3z z3z st3z hQ3z
      subst l3z y3z z3z
      obtain ⟨rfl, NQ3z, K3zq⟩ := hQ3z
      refine own_tr st3z ?_
      have N3z := Fr.app N2z NQ3z
      show own_G p e below (T3z.setTop (mkF m 69 #[.val (.ref a1), .val (.ref a2), .val (.int xi), .val (.int (0 : Int32)), .val (.int z4), .val (.int z5)] [(.int (Int32.ofNat cs2.length)), (.int (Int32.ofNat cs1.length))])) _
      obtain ⟨_, _, ⟨T4z, L4z, k4z, n4z⟩, -, X4z, ⟨Lc4z, hQ4z, l4z, y4z, z4z⟩, st4z⟩ := Jvm.LawKit.callS X3z hx (y := own_m1) hown (own_mw hZ hw 142 rfl) (own_mw hZ hw 143 rfl) (own_mw hZ hw 144 rfl) (own_mw hZ hw 145 rfl) (by decide) (backOf (W := 0) (own_icM l Z a0 hw [] (Int32.ofNat cs1.length) (Int32.ofNat cs2.length) h0 O0) hZ (own_hw hw 145 rfl) (own_hw hw 144 rfl) (by decide) (by decide)) (g := (mkF m 69 #[.val (.ref a1), .val (.ref a2), .val (.int xi), .val (.int (0 : Int32)), .val (.int z4), .val (.int z5)] [(.int (Int32.ofNat cs2.length)), (.int (Int32.ofNat cs1.length))])) rfl (by rw [hml]; rfl) (argsL := [(.int (Int32.ofNat cs1.length)), (.int (Int32.ofNat cs2.length))]) (rest := []) (lenOf pd_184293393 rfl) rfl (by show 2 * 0 + _ ≤ _; exact Nat.le_of_eq rfl) (hb hby d_prog_124_method_4_code_69) (fun _ _ => ⟨rfl, K3zq, (by decide : 0 + 0 ≤ _), (by decide : 0 + 0 ≤ _)⟩)
      dsimp only [Pt.U, Pt.locs, Pt.cells, Pt.slots] at X4z l4z y4z z4z st4z hQ4z
      subst l4z y4z z4z
      obtain ⟨rfl, NQ4z, K4zq⟩ := hQ4z
      refine own_go st4z ?_
      have N4z := Fr.app N3z NQ4z
      show own_G p e below (T4z.setTop (mkF m 72 #[.val (.ref a1), .val (.ref a2), .val (.int xi), .val (.int (0 : Int32)), .val (.int z4), .val (.int z5)] [(.int (own_ic (Int32.ofNat cs1.length) (Int32.ofNat cs2.length)))])) _
      refine own_go (fun t k => XS.istoreN X4z.here hx rfl (hb hby d_prog_124_method_4_code_72) rfl (l' := #[.val (.ref a1), .val (.ref a2), .val (.int xi), .val (.int (own_ic (Int32.ofNat cs1.length) (Int32.ofNat cs2.length))), .val (.int z4), .val (.int z5)]) rfl k) ?_
      refine own_go (fun t k => XS.iloadN X4z.here hx rfl (hb hby d_prog_124_method_4_code_73) rfl k) ?_
      exact own_ret X4z hx Bd.returns rfl (Or.inl ⟨rfl, Or.inl rfl, _, rfl⟩) (hb hby d_prog_124_method_4_code_74) hlk (Nat.le_of_ble_eq_true rfl) (Nat.le_of_ble_eq_true rfl) (by show Q_own_ctM Z a1 b1 k1 v1 d1 cs1 a2 b2 k2 v2 d2 cs2 cz fm h0 _ T4z.heap _; rw [K4zq]; exact ⟨(congrArg (fun z => some (Value.int z)) ((own_cf_exit (by omega)).trans hres)), N4z, rfl⟩)
    | succ f ih =>
      intro i xi z4 z5 T locs hf hxi hres X eL NL
      refine own_go (fun t k => XS.iloadN X.here hx rfl (hb hby d_prog_124_method_4_code_4) rfl k) ?_
      refine own_go (fun t k => XS.ifNo X.here hx rfl (hb hby d_prog_124_method_4_code_5) rfl ((if0 _ _).trans (teq (by decide : (0 : Int32) = (0 : Int32))).2) k) ?_
      show own_G p e below (T.setTop (mkF m 8 #[.val (.ref a1), .val (.ref a2), .val (.int xi), .val (.int (0 : Int32)), .val (.int z4), .val (.int z5)] [])) _
      refine own_go (fun t k => XS.iloadN X.here hx rfl (hb hby d_prog_124_method_4_code_8) rfl k) ?_
      refine own_go (fun t k => XS.aloadN X.here hx rfl (hb hby d_prog_124_method_4_code_9) rfl rfl k) ?_
      obtain ⟨cq5z, kq5z, qa5z, qb5z, qc5z⟩ := isOf hZ eL q0
      obtain ⟨_, _, ⟨T5z, L5z, k5z, n5z⟩, -, X5z, ⟨Lc5z, hQ5z, l5z, y5z, z5z⟩, st5z⟩ := X.virtualBack hx (y := own_m29) (z := own_m29) hown (own_mw hZ hw 103 rfl) (own_mw hZ hw 104 rfl) (notFace_of_selects (args := #[]) (own_mw hZ hw 106 rfl)) (own_mw hZ hw 106 rfl) (own_mw hZ hw 105 rfl) (by decide) (backOf (W := 1) (own_len_ l Z a0 hw [] a1 b1 k1 v1 d1 cs1 cz h0 O0 q0 q1 q2 q3 hr1 h31 S_CS hcs) hZ (own_hw hw 107 rfl) (own_hw hw 53 rfl) (by decide) (by decide)) qa5z qc5z (g := (mkF m 10 #[.val (.ref a1), .val (.ref a2), .val (.int xi), .val (.int (0 : Int32)), .val (.int z4), .val (.int z5)] [(.ref a1), (.int xi)])) rfl (by rw [hml]; rfl) (Steps.refl _) (argsL := []) (rest := [(.int xi)]) (lenOf pd_193421983 rfl) rfl (by show 2 * 0 + _ ≤ _; exact Nat.le_of_eq rfl) (hb hby d_prog_124_method_4_code_10) (fun _ _ => ⟨rfl, eL, (by decide : 0 + 0 ≤ _), (by decide : 0 + 0 ≤ _)⟩)
      dsimp only [Pt.U, Pt.locs, Pt.cells, Pt.slots] at X5z l5z y5z z5z st5z hQ5z
      subst l5z y5z z5z
      obtain ⟨rfl, NQ5z, K5zq⟩ := hQ5z
      refine own_tr st5z ?_
      have N5z := Fr.app NL NQ5z
      show own_G p e below (T5z.setTop (mkF m 13 #[.val (.ref a1), .val (.ref a2), .val (.int xi), .val (.int (0 : Int32)), .val (.int z4), .val (.int z5)] [(.int (Int32.ofNat cs1.length)), (.int xi)])) _
      by_cases hc6z : xi < (Int32.ofNat cs1.length)
      · refine own_go (fun t k => XS.icmpNo X5z.here hx rfl (hb hby d_prog_124_method_4_code_13) rfl (tlt hc6z).2.1 k) ?_
        show own_G p e below (T5z.setTop (mkF m 16 #[.val (.ref a1), .val (.ref a2), .val (.int xi), .val (.int (0 : Int32)), .val (.int z4), .val (.int z5)] [])) _
        refine own_go (fun t k => XS.iloadN X5z.here hx rfl (hb hby d_prog_124_method_4_code_16) rfl k) ?_
        refine own_go (fun t k => XS.aloadN X5z.here hx rfl (hb hby d_prog_124_method_4_code_17) rfl rfl k) ?_
        obtain ⟨cq7z, kq7z, qa7z, qb7z, qc7z⟩ := isOf hZ K5zq q6
        obtain ⟨_, _, ⟨T7z, L7z, k7z, n7z⟩, -, X7z, ⟨Lc7z, hQ7z, l7z, y7z, z7z⟩, st7z⟩ := X5z.virtualBack hx (y := own_m29) (z := own_m29) hown (own_mw hZ hw 103 rfl) (own_mw hZ hw 104 rfl) (notFace_of_selects (args := #[]) (own_mw hZ hw 106 rfl)) (own_mw hZ hw 106 rfl) (own_mw hZ hw 105 rfl) (by decide) (backOf (W := 1) (own_len_ l Z a0 hw [] a2 b2 k2 v2 d2 cs2 cz h0 O0 q6 q7 q8 q9 hr2 h32 S_CS hcs) hZ (own_hw hw 107 rfl) (own_hw hw 53 rfl) (by decide) (by decide)) qa7z qc7z (g := (mkF m 18 #[.val (.ref a1), .val (.ref a2), .val (.int xi), .val (.int (0 : Int32)), .val (.int z4), .val (.int z5)] [(.ref a2), (.int xi)])) rfl (by rw [hml]; rfl) (Steps.refl _) (argsL := []) (rest := [(.int xi)]) (lenOf pd_193421983 rfl) rfl (by show 2 * 0 + _ ≤ _; exact Nat.le_of_eq rfl) (hb hby d_prog_124_method_4_code_18) (fun _ _ => ⟨rfl, K5zq, (by decide : 0 + 0 ≤ _), (by decide : 0 + 0 ≤ _)⟩)
        dsimp only [Pt.U, Pt.locs, Pt.cells, Pt.slots] at X7z l7z y7z z7z st7z hQ7z
        subst l7z y7z z7z
        obtain ⟨rfl, NQ7z, K7zq⟩ := hQ7z
        refine own_tr st7z ?_
        have N7z := Fr.app N5z NQ7z
        show own_G p e below (T7z.setTop (mkF m 21 #[.val (.ref a1), .val (.ref a2), .val (.int xi), .val (.int (0 : Int32)), .val (.int z4), .val (.int z5)] [(.int (Int32.ofNat cs2.length)), (.int xi)])) _
        by_cases hc8z : xi < (Int32.ofNat cs2.length)
        · refine own_go (fun t k => XS.icmpNo X7z.here hx rfl (hb hby d_prog_124_method_4_code_21) rfl (tlt hc8z).2.1 k) ?_
          show own_G p e below (T7z.setTop (mkF m 24 #[.val (.ref a1), .val (.ref a2), .val (.int xi), .val (.int (0 : Int32)), .val (.int z4), .val (.int z5)] [])) _
          refine own_go (fun t k => XS.aloadN X7z.here hx rfl (hb hby d_prog_124_method_4_code_24) rfl rfl k) ?_
          refine own_go (fun t k => XS.iloadN X7z.here hx rfl (hb hby d_prog_124_method_4_code_25) rfl k) ?_
          obtain ⟨cq9z, kq9z, qa9z, qb9z, qc9z⟩ := isOf hZ K7zq q0
          obtain ⟨_, _, ⟨T9z, L9z, k9z, n9z⟩, -, X9z, ⟨Lc9z, hQ9z, l9z, y9z, z9z⟩, st9z⟩ := X7z.virtualBack hx (y := own_m34) (z := own_m34) hown (own_mw hZ hw 113 rfl) (own_mw hZ hw 114 rfl) (notFace_of_selects (args := #[]) (own_mw hZ hw 116 rfl)) (own_mw hZ hw 116 rfl) (own_mw hZ hw 115 rfl) (by decide) (backOf (W := 0) (own_cpa l Z a0 hw [] a1 b1 k1 v1 d1 cs1 xi i cz fm h0 O0 q0 q1 q2 q3 hr1 h31 hxi ((own_ltN hxi h31).mp hc6z) hc1 S_CS hcs S_FM hfm S_AD S_HI S_LO) hZ (own_hw hw 117 rfl) (own_hw hw 53 rfl) (by decide) (by decide)) qa9z qc9z (g := (mkF m 26 #[.val (.ref a1), .val (.ref a2), .val (.int xi), .val (.int (0 : Int32)), .val (.int z4), .val (.int z5)] [(.int xi), (.ref a1)])) rfl (by rw [hml]; rfl) (Steps.refl _) (argsL := [(.int xi)]) (rest := []) (lenOf pd_2087992008 rfl) rfl (by show 2 * 0 + _ ≤ _; exact Nat.le_of_eq rfl) (hb hby d_prog_124_method_4_code_26) (fun _ _ => ⟨rfl, K7zq, (by decide : 0 + 0 ≤ _), (by decide : 0 + 0 ≤ _)⟩)
          dsimp only [Pt.U, Pt.locs, Pt.cells, Pt.slots] at X9z l9z y9z z9z st9z hQ9z
          subst l9z y9z z9z
          obtain ⟨rfl, NQ9z, K9zq⟩ := hQ9z
          refine own_tr st9z ?_
          have N9z := Fr.app N7z NQ9z
          show own_G p e below (T9z.setTop (mkF m 29 #[.val (.ref a1), .val (.ref a2), .val (.int xi), .val (.int (0 : Int32)), .val (.int z4), .val (.int z5)] [(.int (own_cpx cs1 i))])) _
          refine own_go (fun t k => XS.istore X9z.here hx rfl (hb hby d_prog_124_method_4_code_29) rfl (l' := #[.val (.ref a1), .val (.ref a2), .val (.int xi), .val (.int (0 : Int32)), .val (.int (own_cpx cs1 i)), .val (.int z5)]) rfl k) ?_
          refine own_go (fun t k => XS.aloadN X9z.here hx rfl (hb hby d_prog_124_method_4_code_31) rfl rfl k) ?_
          refine own_go (fun t k => XS.iloadN X9z.here hx rfl (hb hby d_prog_124_method_4_code_32) rfl k) ?_
          show own_G p e below (T9z.setTop (mkF m 33 #[.val (.ref a1), .val (.ref a2), .val (.int xi), .val (.int (0 : Int32)), .val (.int (own_cpx cs1 i)), .val (.int z5)] [(.int xi), (.ref a2)])) _
          obtain ⟨cq10z, kq10z, qa10z, qb10z, qc10z⟩ := isOf hZ K9zq q6
          obtain ⟨_, _, ⟨T10z, L10z, k10z, n10z⟩, -, X10z, ⟨Lc10z, hQ10z, l10z, y10z, z10z⟩, st10z⟩ := X9z.virtualBack hx (y := own_m34) (z := own_m34) hown (own_mw hZ hw 113 rfl) (own_mw hZ hw 114 rfl) (notFace_of_selects (args := #[]) (own_mw hZ hw 116 rfl)) (own_mw hZ hw 116 rfl) (own_mw hZ hw 115 rfl) (by decide) (backOf (W := 0) (own_cpa l Z a0 hw [] a2 b2 k2 v2 d2 cs2 xi i cz fm h0 O0 q6 q7 q8 q9 hr2 h32 hxi ((own_ltN hxi h32).mp hc8z) hc2 S_CS hcs S_FM hfm S_AD S_HI S_LO) hZ (own_hw hw 117 rfl) (own_hw hw 53 rfl) (by decide) (by decide)) qa10z qc10z (g := (mkF m 33 #[.val (.ref a1), .val (.ref a2), .val (.int xi), .val (.int (0 : Int32)), .val (.int (own_cpx cs1 i)), .val (.int z5)] [(.int xi), (.ref a2)])) rfl (by rw [hml]; rfl) (Steps.refl _) (argsL := [(.int xi)]) (rest := []) (lenOf pd_2087992008 rfl) rfl (by show 2 * 0 + _ ≤ _; exact Nat.le_of_eq rfl) (hb hby d_prog_124_method_4_code_33) (fun _ _ => ⟨rfl, K9zq, (by decide : 0 + 0 ≤ _), (by decide : 0 + 0 ≤ _)⟩)
          dsimp only [Pt.U, Pt.locs, Pt.cells, Pt.slots] at X10z l10z y10z z10z st10z hQ10z
          subst l10z y10z z10z
          obtain ⟨rfl, NQ10z, K10zq⟩ := hQ10z
          refine own_tr st10z ?_
          have N10z := Fr.app N9z NQ10z
          show own_G p e below (T10z.setTop (mkF m 36 #[.val (.ref a1), .val (.ref a2), .val (.int xi), .val (.int (0 : Int32)), .val (.int (own_cpx cs1 i)), .val (.int z5)] [(.int (own_cpx cs2 i))])) _
          refine own_go (fun t k => XS.istore X10z.here hx rfl (hb hby d_prog_124_method_4_code_36) rfl (l' := #[.val (.ref a1), .val (.ref a2), .val (.int xi), .val (.int (0 : Int32)), .val (.int (own_cpx cs1 i)), .val (.int (own_cpx cs2 i))]) rfl k) ?_
          refine own_go (fun t k => XS.iload X10z.here hx rfl (hb hby d_prog_124_method_4_code_38) rfl k) ?_
          refine own_go (fun t k => XS.iload X10z.here hx rfl (hb hby d_prog_124_method_4_code_40) rfl k) ?_
          show own_G p e below (T10z.setTop (mkF m 42 #[.val (.ref a1), .val (.ref a2), .val (.int xi), .val (.int (0 : Int32)), .val (.int (own_cpx cs1 i)), .val (.int (own_cpx cs2 i))] [(.int (own_cpx cs2 i)), (.int (own_cpx cs1 i))])) _
          obtain ⟨_, _, ⟨T11z, L11z, k11z, n11z⟩, -, X11z, ⟨Lc11z, hQ11z, l11z, y11z, z11z⟩, st11z⟩ := Jvm.LawKit.callS X10z hx (y := own_m1) hown (own_mw hZ hw 142 rfl) (own_mw hZ hw 143 rfl) (own_mw hZ hw 144 rfl) (own_mw hZ hw 145 rfl) (by decide) (backOf (W := 0) (own_icM l Z a0 hw [] (own_cpx cs1 i) (own_cpx cs2 i) h0 O0) hZ (own_hw hw 145 rfl) (own_hw hw 144 rfl) (by decide) (by decide)) (g := (mkF m 42 #[.val (.ref a1), .val (.ref a2), .val (.int xi), .val (.int (0 : Int32)), .val (.int (own_cpx cs1 i)), .val (.int (own_cpx cs2 i))] [(.int (own_cpx cs2 i)), (.int (own_cpx cs1 i))])) rfl (by rw [hml]; rfl) (argsL := [(.int (own_cpx cs1 i)), (.int (own_cpx cs2 i))]) (rest := []) (lenOf pd_184293393 rfl) rfl (by show 2 * 0 + _ ≤ _; exact Nat.le_of_eq rfl) (hb hby d_prog_124_method_4_code_42) (fun _ _ => ⟨rfl, K10zq, (by decide : 0 + 0 ≤ _), (by decide : 0 + 0 ≤ _)⟩)
          dsimp only [Pt.U, Pt.locs, Pt.cells, Pt.slots] at X11z l11z y11z z11z st11z hQ11z
          subst l11z y11z z11z
          obtain ⟨rfl, NQ11z, K11zq⟩ := hQ11z
          refine own_go st11z ?_
          have N11z := Fr.app N10z NQ11z
          show own_G p e below (T11z.setTop (mkF m 45 #[.val (.ref a1), .val (.ref a2), .val (.int xi), .val (.int (0 : Int32)), .val (.int (own_cpx cs1 i)), .val (.int (own_cpx cs2 i))] [(.int (own_ic (own_cpx cs1 i) (own_cpx cs2 i)))])) _
          refine own_go (fun t k => XS.istoreN X11z.here hx rfl (hb hby d_prog_124_method_4_code_45) rfl (l' := #[.val (.ref a1), .val (.ref a2), .val (.int xi), .val (.int (own_ic (own_cpx cs1 i) (own_cpx cs2 i))), .val (.int (own_cpx cs1 i)), .val (.int (own_cpx cs2 i))]) rfl k) ?_
          refine own_go (fun t k => XS.iloadN X11z.here hx rfl (hb hby d_prog_124_method_4_code_46) rfl k) ?_
          refine own_go (fun t k => XS.iload X11z.here hx rfl (hb hby d_prog_124_method_4_code_47) rfl k) ?_
          show own_G p e below (T11z.setTop (mkF m 49 #[.val (.ref a1), .val (.ref a2), .val (.int xi), .val (.int (own_ic (own_cpx cs1 i) (own_cpx cs2 i))), .val (.int (own_cpx cs1 i)), .val (.int (own_cpx cs2 i))] [(.int (own_cpx cs1 i)), (.int xi)])) _
          obtain ⟨_, _, ⟨T12z, L12z, k12z, n12z⟩, -, X12z, ⟨Lc12z, hQ12z, l12z, y12z, z12z⟩, st12z⟩ := Jvm.LawKit.callS X11z hx (y := own_m5) hown (own_mw hZ hw 146 rfl) (own_mw hZ hw 147 rfl) (own_mw hZ hw 139 rfl) (own_mw hZ hw 148 rfl) (by decide) (backOf (W := 1) (own_ccM l Z a0 hw [] (own_cpx cs1 i) h0 O0) hZ (own_hw hw 148 rfl) (own_hw hw 139 rfl) (by decide) (by decide)) (g := (mkF m 49 #[.val (.ref a1), .val (.ref a2), .val (.int xi), .val (.int (own_ic (own_cpx cs1 i) (own_cpx cs2 i))), .val (.int (own_cpx cs1 i)), .val (.int (own_cpx cs2 i))] [(.int (own_cpx cs1 i)), (.int xi)])) rfl (by rw [hml]; rfl) (argsL := [(.int (own_cpx cs1 i))]) (rest := [(.int xi)]) (lenOf pd_2087992008 rfl) rfl (by show 2 * 0 + _ ≤ _; exact Nat.le_of_eq rfl) (hb hby d_prog_124_method_4_code_49) (fun _ _ => ⟨rfl, K11zq, (by decide : 0 + 0 ≤ _), (by decide : 0 + 0 ≤ _)⟩)
          dsimp only [Pt.U, Pt.locs, Pt.cells, Pt.slots] at X12z l12z y12z z12z st12z hQ12z
          subst l12z y12z z12z
          obtain ⟨rfl, NQ12z, K12zq⟩ := hQ12z
          refine own_go st12z ?_
          have N12z := Fr.app N11z NQ12z
          show own_G p e below (T12z.setTop (mkF m 52 #[.val (.ref a1), .val (.ref a2), .val (.int xi), .val (.int (own_ic (own_cpx cs1 i) (own_cpx cs2 i))), .val (.int (own_cpx cs1 i)), .val (.int (own_cpx cs2 i))] [(.int (own_cc (own_cpx cs1 i))), (.int xi)])) _
          refine own_go (fun t k => XS.iadd X12z.here hx rfl (hb hby d_prog_124_method_4_code_52) rfl k) ?_
          refine own_go (fun t k => XS.istoreN X12z.here hx rfl (hb hby d_prog_124_method_4_code_53) rfl (l' := #[.val (.ref a1), .val (.ref a2), .val (.int (xi + (own_cc (own_cpx cs1 i)))), .val (.int (own_ic (own_cpx cs1 i) (own_cpx cs2 i))), .val (.int (own_cpx cs1 i)), .val (.int (own_cpx cs2 i))]) rfl k) ?_
          refine own_go (fun t k => XS.goto X12z.here hx rfl (pc0 := 54) (pc' := 4) rfl (hb hby d_prog_124_method_4_code_54) (by decide) (by decide) k) ?_
          show own_G p e below (T12z.setTop (mkF m 4 #[.val (.ref a1), .val (.ref a2), .val (.int (xi + (own_cc (own_cpx cs1 i)))), .val (.int (own_ic (own_cpx cs1 i) (own_cpx cs2 i))), .val (.int (own_cpx cs1 i)), .val (.int (own_cpx cs2 i))] [])) _
          by_cases hb13z : (own_ic (own_cpx cs1 i) (own_cpx cs2 i)) = (0 : Int32)
          · rw [hb13z]
            exact ih (i + own_ccN (own_cpx cs1 i)) (xi + (own_cc (own_cpx cs1 i))) _ _ _ _ (by have := own_ccN_le (own_cpx cs1 i); omega) (own_addcc hxi (by have := ((own_ltN hxi h31).mp hc6z); omega)) ((own_cf_step1 ((own_ltN hxi h31).mp hc6z) ((own_ltN hxi h32).mp hc8z) hb13z).trans hres) X12z K12zq N12z
          · show own_G p e below (T12z.setTop (mkF m 4 #[.val (.ref a1), .val (.ref a2), .val (.int (xi + (own_cc (own_cpx cs1 i)))), .val (.int (own_ic (own_cpx cs1 i) (own_cpx cs2 i))), .val (.int (own_cpx cs1 i)), .val (.int (own_cpx cs2 i))] [])) _
            refine own_go (fun t k => XS.iloadN X12z.here hx rfl (hb hby d_prog_124_method_4_code_4) rfl k) ?_
            refine own_go (fun t k => XS.ifYes X12z.here hx rfl (pc0 := 5) (pc' := 57) rfl (hb hby d_prog_124_method_4_code_5) rfl ((if0 _ _).trans (feq hb13z).2) (by decide) (by decide) k) ?_
            show own_G p e below (T12z.setTop (mkF m 57 #[.val (.ref a1), .val (.ref a2), .val (.int (xi + (own_cc (own_cpx cs1 i)))), .val (.int (own_ic (own_cpx cs1 i) (own_cpx cs2 i))), .val (.int (own_cpx cs1 i)), .val (.int (own_cpx cs2 i))] [])) _
            refine own_go (fun t k => XS.iloadN X12z.here hx rfl (hb hby d_prog_124_method_4_code_57) rfl k) ?_
            refine own_go (fun t k => XS.ifYes X12z.here hx rfl (pc0 := 58) (pc' := 73) rfl (hb hby d_prog_124_method_4_code_58) rfl ((if0 _ _).trans (feq hb13z).2) (by decide) (by decide) k) ?_
            show own_G p e below (T12z.setTop (mkF m 73 #[.val (.ref a1), .val (.ref a2), .val (.int (xi + (own_cc (own_cpx cs1 i)))), .val (.int (own_ic (own_cpx cs1 i) (own_cpx cs2 i))), .val (.int (own_cpx cs1 i)), .val (.int (own_cpx cs2 i))] [])) _
            refine own_go (fun t k => XS.iloadN X12z.here hx rfl (hb hby d_prog_124_method_4_code_73) rfl k) ?_
            exact own_ret X12z hx Bd.returns rfl (Or.inl ⟨rfl, Or.inl rfl, _, rfl⟩) (hb hby d_prog_124_method_4_code_74) hlk (Nat.le_of_ble_eq_true rfl) (Nat.le_of_ble_eq_true rfl) (by show Q_own_ctM Z a1 b1 k1 v1 d1 cs1 a2 b2 k2 v2 d2 cs2 cz fm h0 _ T12z.heap _; rw [K12zq]; exact ⟨(congrArg (fun z => some (Value.int z)) ((own_cf_step2 ((own_ltN hxi h31).mp hc6z) ((own_ltN hxi h32).mp hc8z) hb13z).trans hres)), N12z, rfl⟩)
        · refine own_go (fun t k => XS.icmpYes X7z.here hx rfl (pc0 := 21) (pc' := 57) rfl (hb hby d_prog_124_method_4_code_21) rfl (flt hc8z).2.1 (by decide) (by decide) k) ?_
          show own_G p e below (T7z.setTop (mkF m 57 #[.val (.ref a1), .val (.ref a2), .val (.int xi), .val (.int (0 : Int32)), .val (.int z4), .val (.int z5)] [])) _
          refine own_go (fun t k => XS.iloadN X7z.here hx rfl (hb hby d_prog_124_method_4_code_57) rfl k) ?_
          refine own_go (fun t k => XS.ifNo X7z.here hx rfl (hb hby d_prog_124_method_4_code_58) rfl ((if0 _ _).trans (teq (by decide : (0 : Int32) = (0 : Int32))).2) k) ?_
          show own_G p e below (T7z.setTop (mkF m 61 #[.val (.ref a1), .val (.ref a2), .val (.int xi), .val (.int (0 : Int32)), .val (.int z4), .val (.int z5)] [])) _
          refine own_go (fun t k => XS.aloadN X7z.here hx rfl (hb hby d_prog_124_method_4_code_61) rfl rfl k) ?_
          obtain ⟨cq14z, kq14z, qa14z, qb14z, qc14z⟩ := isOf hZ K7zq q0
          obtain ⟨_, _, ⟨T14z, L14z, k14z, n14z⟩, -, X14z, ⟨Lc14z, hQ14z, l14z, y14z, z14z⟩, st14z⟩ := X7z.virtualBack hx (y := own_m29) (z := own_m29) hown (own_mw hZ hw 103 rfl) (own_mw hZ hw 104 rfl) (notFace_of_selects (args := #[]) (own_mw hZ hw 106 rfl)) (own_mw hZ hw 106 rfl) (own_mw hZ hw 105 rfl) (by decide) (backOf (W := 0) (own_len_ l Z a0 hw [] a1 b1 k1 v1 d1 cs1 cz h0 O0 q0 q1 q2 q3 hr1 h31 S_CS hcs) hZ (own_hw hw 107 rfl) (own_hw hw 53 rfl) (by decide) (by decide)) qa14z qc14z (g := (mkF m 62 #[.val (.ref a1), .val (.ref a2), .val (.int xi), .val (.int (0 : Int32)), .val (.int z4), .val (.int z5)] [(.ref a1)])) rfl (by rw [hml]; rfl) (Steps.refl _) (argsL := []) (rest := []) (lenOf pd_193421983 rfl) rfl (by show 2 * 0 + _ ≤ _; exact Nat.le_of_eq rfl) (hb hby d_prog_124_method_4_code_62) (fun _ _ => ⟨rfl, K7zq, (by decide : 0 + 0 ≤ _), (by decide : 0 + 0 ≤ _)⟩)
          dsimp only [Pt.U, Pt.locs, Pt.cells, Pt.slots] at X14z l14z y14z z14z st14z hQ14z
          subst l14z y14z z14z
          obtain ⟨rfl, NQ14z, K14zq⟩ := hQ14z
          refine own_tr st14z ?_
          have N14z := Fr.app N7z NQ14z
          show own_G p e below (T14z.setTop (mkF m 65 #[.val (.ref a1), .val (.ref a2), .val (.int xi), .val (.int (0 : Int32)), .val (.int z4), .val (.int z5)] [(.int (Int32.ofNat cs1.length))])) _
          refine own_go (fun t k => XS.aloadN X14z.here hx rfl (hb hby d_prog_124_method_4_code_65) rfl rfl k) ?_
          obtain ⟨cq15z, kq15z, qa15z, qb15z, qc15z⟩ := isOf hZ K14zq q6
          obtain ⟨_, _, ⟨T15z, L15z, k15z, n15z⟩, -, X15z, ⟨Lc15z, hQ15z, l15z, y15z, z15z⟩, st15z⟩ := X14z.virtualBack hx (y := own_m29) (z := own_m29) hown (own_mw hZ hw 103 rfl) (own_mw hZ hw 104 rfl) (notFace_of_selects (args := #[]) (own_mw hZ hw 106 rfl)) (own_mw hZ hw 106 rfl) (own_mw hZ hw 105 rfl) (by decide) (backOf (W := 1) (own_len_ l Z a0 hw [] a2 b2 k2 v2 d2 cs2 cz h0 O0 q6 q7 q8 q9 hr2 h32 S_CS hcs) hZ (own_hw hw 107 rfl) (own_hw hw 53 rfl) (by decide) (by decide)) qa15z qc15z (g := (mkF m 66 #[.val (.ref a1), .val (.ref a2), .val (.int xi), .val (.int (0 : Int32)), .val (.int z4), .val (.int z5)] [(.ref a2), (.int (Int32.ofNat cs1.length))])) rfl (by rw [hml]; rfl) (Steps.refl _) (argsL := []) (rest := [(.int (Int32.ofNat cs1.length))]) (lenOf pd_193421983 rfl) rfl (by show 2 * 0 + _ ≤ _; exact Nat.le_of_eq rfl) (hb hby d_prog_124_method_4_code_66) (fun _ _ => ⟨rfl, K14zq, (by decide : 0 + 0 ≤ _), (by decide : 0 + 0 ≤ _)⟩)
          dsimp only [Pt.U, Pt.locs, Pt.cells, Pt.slots] at X15z l15z y15z z15z st15z hQ15z
          subst l15z y15z z15z
          obtain ⟨rfl, NQ15z, K15zq⟩ := hQ15z
          refine own_tr st15z ?_
          have N15z := Fr.app N14z NQ15z
          show own_G p e below (T15z.setTop (mkF m 69 #[.val (.ref a1), .val (.ref a2), .val (.int xi), .val (.int (0 : Int32)), .val (.int z4), .val (.int z5)] [(.int (Int32.ofNat cs2.length)), (.int (Int32.ofNat cs1.length))])) _
          obtain ⟨_, _, ⟨T16z, L16z, k16z, n16z⟩, -, X16z, ⟨Lc16z, hQ16z, l16z, y16z, z16z⟩, st16z⟩ := Jvm.LawKit.callS X15z hx (y := own_m1) hown (own_mw hZ hw 142 rfl) (own_mw hZ hw 143 rfl) (own_mw hZ hw 144 rfl) (own_mw hZ hw 145 rfl) (by decide) (backOf (W := 0) (own_icM l Z a0 hw [] (Int32.ofNat cs1.length) (Int32.ofNat cs2.length) h0 O0) hZ (own_hw hw 145 rfl) (own_hw hw 144 rfl) (by decide) (by decide)) (g := (mkF m 69 #[.val (.ref a1), .val (.ref a2), .val (.int xi), .val (.int (0 : Int32)), .val (.int z4), .val (.int z5)] [(.int (Int32.ofNat cs2.length)), (.int (Int32.ofNat cs1.length))])) rfl (by rw [hml]; rfl) (argsL := [(.int (Int32.ofNat cs1.length)), (.int (Int32.ofNat cs2.length))]) (rest := []) (lenOf pd_184293393 rfl) rfl (by show 2 * 0 + _ ≤ _; exact Nat.le_of_eq rfl) (hb hby d_prog_124_method_4_code_69) (fun _ _ => ⟨rfl, K15zq, (by decide : 0 + 0 ≤ _), (by decide : 0 + 0 ≤ _)⟩)
          dsimp only [Pt.U, Pt.locs, Pt.cells, Pt.slots] at X16z l16z y16z z16z st16z hQ16z
          subst l16z y16z z16z
          obtain ⟨rfl, NQ16z, K16zq⟩ := hQ16z
          refine own_go st16z ?_
          have N16z := Fr.app N15z NQ16z
          show own_G p e below (T16z.setTop (mkF m 72 #[.val (.ref a1), .val (.ref a2), .val (.int xi), .val (.int (0 : Int32)), .val (.int z4), .val (.int z5)] [(.int (own_ic (Int32.ofNat cs1.length) (Int32.ofNat cs2.length)))])) _
          refine own_go (fun t k => XS.istoreN X16z.here hx rfl (hb hby d_prog_124_method_4_code_72) rfl (l' := #[.val (.ref a1), .val (.ref a2), .val (.int xi), .val (.int (own_ic (Int32.ofNat cs1.length) (Int32.ofNat cs2.length))), .val (.int z4), .val (.int z5)]) rfl k) ?_
          refine own_go (fun t k => XS.iloadN X16z.here hx rfl (hb hby d_prog_124_method_4_code_73) rfl k) ?_
          exact own_ret X16z hx Bd.returns rfl (Or.inl ⟨rfl, Or.inl rfl, _, rfl⟩) (hb hby d_prog_124_method_4_code_74) hlk (Nat.le_of_ble_eq_true rfl) (Nat.le_of_ble_eq_true rfl) (by show Q_own_ctM Z a1 b1 k1 v1 d1 cs1 a2 b2 k2 v2 d2 cs2 cz fm h0 _ T16z.heap _; rw [K16zq]; exact ⟨(congrArg (fun z => some (Value.int z)) ((own_cf_exit (fun q => hc8z ((own_ltN hxi h32).mpr q.2))).trans hres)), N16z, rfl⟩)
      · refine own_go (fun t k => XS.icmpYes X5z.here hx rfl (pc0 := 13) (pc' := 57) rfl (hb hby d_prog_124_method_4_code_13) rfl (flt hc6z).2.1 (by decide) (by decide) k) ?_
        show own_G p e below (T5z.setTop (mkF m 57 #[.val (.ref a1), .val (.ref a2), .val (.int xi), .val (.int (0 : Int32)), .val (.int z4), .val (.int z5)] [])) _
        refine own_go (fun t k => XS.iloadN X5z.here hx rfl (hb hby d_prog_124_method_4_code_57) rfl k) ?_
        refine own_go (fun t k => XS.ifNo X5z.here hx rfl (hb hby d_prog_124_method_4_code_58) rfl ((if0 _ _).trans (teq (by decide : (0 : Int32) = (0 : Int32))).2) k) ?_
        show own_G p e below (T5z.setTop (mkF m 61 #[.val (.ref a1), .val (.ref a2), .val (.int xi), .val (.int (0 : Int32)), .val (.int z4), .val (.int z5)] [])) _
        refine own_go (fun t k => XS.aloadN X5z.here hx rfl (hb hby d_prog_124_method_4_code_61) rfl rfl k) ?_
        obtain ⟨cq17z, kq17z, qa17z, qb17z, qc17z⟩ := isOf hZ K5zq q0
        obtain ⟨_, _, ⟨T17z, L17z, k17z, n17z⟩, -, X17z, ⟨Lc17z, hQ17z, l17z, y17z, z17z⟩, st17z⟩ := X5z.virtualBack hx (y := own_m29) (z := own_m29) hown (own_mw hZ hw 103 rfl) (own_mw hZ hw 104 rfl) (notFace_of_selects (args := #[]) (own_mw hZ hw 106 rfl)) (own_mw hZ hw 106 rfl) (own_mw hZ hw 105 rfl) (by decide) (backOf (W := 0) (own_len_ l Z a0 hw [] a1 b1 k1 v1 d1 cs1 cz h0 O0 q0 q1 q2 q3 hr1 h31 S_CS hcs) hZ (own_hw hw 107 rfl) (own_hw hw 53 rfl) (by decide) (by decide)) qa17z qc17z (g := (mkF m 62 #[.val (.ref a1), .val (.ref a2), .val (.int xi), .val (.int (0 : Int32)), .val (.int z4), .val (.int z5)] [(.ref a1)])) rfl (by rw [hml]; rfl) (Steps.refl _) (argsL := []) (rest := []) (lenOf pd_193421983 rfl) rfl (by show 2 * 0 + _ ≤ _; exact Nat.le_of_eq rfl) (hb hby d_prog_124_method_4_code_62) (fun _ _ => ⟨rfl, K5zq, (by decide : 0 + 0 ≤ _), (by decide : 0 + 0 ≤ _)⟩)
        dsimp only [Pt.U, Pt.locs, Pt.cells, Pt.slots] at X17z l17z y17z z17z st17z hQ17z
        subst l17z y17z z17z
        obtain ⟨rfl, NQ17z, K17zq⟩ := hQ17z
        refine own_tr st17z ?_
        have N17z := Fr.app N5z NQ17z
        show own_G p e below (T17z.setTop (mkF m 65 #[.val (.ref a1), .val (.ref a2), .val (.int xi), .val (.int (0 : Int32)), .val (.int z4), .val (.int z5)] [(.int (Int32.ofNat cs1.length))])) _
        refine own_go (fun t k => XS.aloadN X17z.here hx rfl (hb hby d_prog_124_method_4_code_65) rfl rfl k) ?_
        obtain ⟨cq18z, kq18z, qa18z, qb18z, qc18z⟩ := isOf hZ K17zq q6
        obtain ⟨_, _, ⟨T18z, L18z, k18z, n18z⟩, -, X18z, ⟨Lc18z, hQ18z, l18z, y18z, z18z⟩, st18z⟩ := X17z.virtualBack hx (y := own_m29) (z := own_m29) hown (own_mw hZ hw 103 rfl) (own_mw hZ hw 104 rfl) (notFace_of_selects (args := #[]) (own_mw hZ hw 106 rfl)) (own_mw hZ hw 106 rfl) (own_mw hZ hw 105 rfl) (by decide) (backOf (W := 1) (own_len_ l Z a0 hw [] a2 b2 k2 v2 d2 cs2 cz h0 O0 q6 q7 q8 q9 hr2 h32 S_CS hcs) hZ (own_hw hw 107 rfl) (own_hw hw 53 rfl) (by decide) (by decide)) qa18z qc18z (g := (mkF m 66 #[.val (.ref a1), .val (.ref a2), .val (.int xi), .val (.int (0 : Int32)), .val (.int z4), .val (.int z5)] [(.ref a2), (.int (Int32.ofNat cs1.length))])) rfl (by rw [hml]; rfl) (Steps.refl _) (argsL := []) (rest := [(.int (Int32.ofNat cs1.length))]) (lenOf pd_193421983 rfl) rfl (by show 2 * 0 + _ ≤ _; exact Nat.le_of_eq rfl) (hb hby d_prog_124_method_4_code_66) (fun _ _ => ⟨rfl, K17zq, (by decide : 0 + 0 ≤ _), (by decide : 0 + 0 ≤ _)⟩)
        dsimp only [Pt.U, Pt.locs, Pt.cells, Pt.slots] at X18z l18z y18z z18z st18z hQ18z
        subst l18z y18z z18z
        obtain ⟨rfl, NQ18z, K18zq⟩ := hQ18z
        refine own_tr st18z ?_
        have N18z := Fr.app N17z NQ18z
        show own_G p e below (T18z.setTop (mkF m 69 #[.val (.ref a1), .val (.ref a2), .val (.int xi), .val (.int (0 : Int32)), .val (.int z4), .val (.int z5)] [(.int (Int32.ofNat cs2.length)), (.int (Int32.ofNat cs1.length))])) _
        obtain ⟨_, _, ⟨T19z, L19z, k19z, n19z⟩, -, X19z, ⟨Lc19z, hQ19z, l19z, y19z, z19z⟩, st19z⟩ := Jvm.LawKit.callS X18z hx (y := own_m1) hown (own_mw hZ hw 142 rfl) (own_mw hZ hw 143 rfl) (own_mw hZ hw 144 rfl) (own_mw hZ hw 145 rfl) (by decide) (backOf (W := 0) (own_icM l Z a0 hw [] (Int32.ofNat cs1.length) (Int32.ofNat cs2.length) h0 O0) hZ (own_hw hw 145 rfl) (own_hw hw 144 rfl) (by decide) (by decide)) (g := (mkF m 69 #[.val (.ref a1), .val (.ref a2), .val (.int xi), .val (.int (0 : Int32)), .val (.int z4), .val (.int z5)] [(.int (Int32.ofNat cs2.length)), (.int (Int32.ofNat cs1.length))])) rfl (by rw [hml]; rfl) (argsL := [(.int (Int32.ofNat cs1.length)), (.int (Int32.ofNat cs2.length))]) (rest := []) (lenOf pd_184293393 rfl) rfl (by show 2 * 0 + _ ≤ _; exact Nat.le_of_eq rfl) (hb hby d_prog_124_method_4_code_69) (fun _ _ => ⟨rfl, K18zq, (by decide : 0 + 0 ≤ _), (by decide : 0 + 0 ≤ _)⟩)
        dsimp only [Pt.U, Pt.locs, Pt.cells, Pt.slots] at X19z l19z y19z z19z st19z hQ19z
        subst l19z y19z z19z
        obtain ⟨rfl, NQ19z, K19zq⟩ := hQ19z
        refine own_go st19z ?_
        have N19z := Fr.app N18z NQ19z
        show own_G p e below (T19z.setTop (mkF m 72 #[.val (.ref a1), .val (.ref a2), .val (.int xi), .val (.int (0 : Int32)), .val (.int z4), .val (.int z5)] [(.int (own_ic (Int32.ofNat cs1.length) (Int32.ofNat cs2.length)))])) _
        refine own_go (fun t k => XS.istoreN X19z.here hx rfl (hb hby d_prog_124_method_4_code_72) rfl (l' := #[.val (.ref a1), .val (.ref a2), .val (.int xi), .val (.int (own_ic (Int32.ofNat cs1.length) (Int32.ofNat cs2.length))), .val (.int z4), .val (.int z5)]) rfl k) ?_
        refine own_go (fun t k => XS.iloadN X19z.here hx rfl (hb hby d_prog_124_method_4_code_73) rfl k) ?_
        exact own_ret X19z hx Bd.returns rfl (Or.inl ⟨rfl, Or.inl rfl, _, rfl⟩) (hb hby d_prog_124_method_4_code_74) hlk (Nat.le_of_ble_eq_true rfl) (Nat.le_of_ble_eq_true rfl) (by show Q_own_ctM Z a1 b1 k1 v1 d1 cs1 a2 b2 k2 v2 d2 cs2 cz fm h0 _ T19z.heap _; rw [K19zq]; exact ⟨(congrArg (fun z => some (Value.int z)) ((own_cf_exit (fun q => hc6z ((own_ltN hxi h31).mpr q.1))).trans hres)), N19z, rfl⟩)
  refine own_go (fun t k => XS.iloadN X0.here hx rfl (hb hby d_prog_124_method_4_code_4) rfl k) ?_
  refine own_go (fun t k => XS.ifNo X0.here hx rfl (hb hby d_prog_124_method_4_code_5) rfl ((if0 _ _).trans (teq (by decide : (0 : Int32) = (0 : Int32))).2) k) ?_
  show own_G p e below (s₁.setTop (mkF m 8 #[.val (.ref a1), .val (.ref a2), .val (.int (0 : Int32)), .val (.int (0 : Int32)), .unset, .unset] [])) _
  refine own_go (fun t k => XS.iloadN X0.here hx rfl (hb hby d_prog_124_method_4_code_8) rfl k) ?_
  refine own_go (fun t k => XS.aloadN X0.here hx rfl (hb hby d_prog_124_method_4_code_9) rfl rfl k) ?_
  obtain ⟨cq20z, kq20z, qa20z, qb20z, qc20z⟩ := isOf hZ e0 q0
  obtain ⟨_, _, ⟨T20z, L20z, k20z, n20z⟩, -, X20z, ⟨Lc20z, hQ20z, l20z, y20z, z20z⟩, st20z⟩ := X0.virtualBack hx (y := own_m29) (z := own_m29) hown (own_mw hZ hw 103 rfl) (own_mw hZ hw 104 rfl) (notFace_of_selects (args := #[]) (own_mw hZ hw 106 rfl)) (own_mw hZ hw 106 rfl) (own_mw hZ hw 105 rfl) (by decide) (backOf (W := 1) (own_len_ l Z a0 hw [] a1 b1 k1 v1 d1 cs1 cz h0 O0 q0 q1 q2 q3 hr1 h31 S_CS hcs) hZ (own_hw hw 107 rfl) (own_hw hw 53 rfl) (by decide) (by decide)) qa20z qc20z (g := (mkF m 10 #[.val (.ref a1), .val (.ref a2), .val (.int (0 : Int32)), .val (.int (0 : Int32)), .unset, .unset] [(.ref a1), (.int (0 : Int32))])) rfl (by rw [hml]; rfl) (Steps.refl _) (argsL := []) (rest := [(.int (0 : Int32))]) (lenOf pd_193421983 rfl) rfl (by show 2 * 0 + _ ≤ _; exact Nat.le_of_eq rfl) (hb hby d_prog_124_method_4_code_10) (fun _ _ => ⟨rfl, e0, (by decide : 0 + 0 ≤ _), (by decide : 0 + 0 ≤ _)⟩)
  dsimp only [Pt.U, Pt.locs, Pt.cells, Pt.slots] at X20z l20z y20z z20z st20z hQ20z
  subst l20z y20z z20z
  obtain ⟨rfl, NQ20z, K20zq⟩ := hQ20z
  refine own_tr st20z ?_
  have N20z := Fr.app N0 NQ20z
  show own_G p e below (T20z.setTop (mkF m 13 #[.val (.ref a1), .val (.ref a2), .val (.int (0 : Int32)), .val (.int (0 : Int32)), .unset, .unset] [(.int (Int32.ofNat cs1.length)), (.int (0 : Int32))])) _
  by_cases hc21z : (0 : Int32) < (Int32.ofNat cs1.length)
  · refine own_go (fun t k => XS.icmpNo X20z.here hx rfl (hb hby d_prog_124_method_4_code_13) rfl (tlt hc21z).2.1 k) ?_
    show own_G p e below (T20z.setTop (mkF m 16 #[.val (.ref a1), .val (.ref a2), .val (.int (0 : Int32)), .val (.int (0 : Int32)), .unset, .unset] [])) _
    refine own_go (fun t k => XS.iloadN X20z.here hx rfl (hb hby d_prog_124_method_4_code_16) rfl k) ?_
    refine own_go (fun t k => XS.aloadN X20z.here hx rfl (hb hby d_prog_124_method_4_code_17) rfl rfl k) ?_
    obtain ⟨cq22z, kq22z, qa22z, qb22z, qc22z⟩ := isOf hZ K20zq q6
    obtain ⟨_, _, ⟨T22z, L22z, k22z, n22z⟩, -, X22z, ⟨Lc22z, hQ22z, l22z, y22z, z22z⟩, st22z⟩ := X20z.virtualBack hx (y := own_m29) (z := own_m29) hown (own_mw hZ hw 103 rfl) (own_mw hZ hw 104 rfl) (notFace_of_selects (args := #[]) (own_mw hZ hw 106 rfl)) (own_mw hZ hw 106 rfl) (own_mw hZ hw 105 rfl) (by decide) (backOf (W := 1) (own_len_ l Z a0 hw [] a2 b2 k2 v2 d2 cs2 cz h0 O0 q6 q7 q8 q9 hr2 h32 S_CS hcs) hZ (own_hw hw 107 rfl) (own_hw hw 53 rfl) (by decide) (by decide)) qa22z qc22z (g := (mkF m 18 #[.val (.ref a1), .val (.ref a2), .val (.int (0 : Int32)), .val (.int (0 : Int32)), .unset, .unset] [(.ref a2), (.int (0 : Int32))])) rfl (by rw [hml]; rfl) (Steps.refl _) (argsL := []) (rest := [(.int (0 : Int32))]) (lenOf pd_193421983 rfl) rfl (by show 2 * 0 + _ ≤ _; exact Nat.le_of_eq rfl) (hb hby d_prog_124_method_4_code_18) (fun _ _ => ⟨rfl, K20zq, (by decide : 0 + 0 ≤ _), (by decide : 0 + 0 ≤ _)⟩)
    dsimp only [Pt.U, Pt.locs, Pt.cells, Pt.slots] at X22z l22z y22z z22z st22z hQ22z
    subst l22z y22z z22z
    obtain ⟨rfl, NQ22z, K22zq⟩ := hQ22z
    refine own_tr st22z ?_
    have N22z := Fr.app N20z NQ22z
    show own_G p e below (T22z.setTop (mkF m 21 #[.val (.ref a1), .val (.ref a2), .val (.int (0 : Int32)), .val (.int (0 : Int32)), .unset, .unset] [(.int (Int32.ofNat cs2.length)), (.int (0 : Int32))])) _
    by_cases hc23z : (0 : Int32) < (Int32.ofNat cs2.length)
    · refine own_go (fun t k => XS.icmpNo X22z.here hx rfl (hb hby d_prog_124_method_4_code_21) rfl (tlt hc23z).2.1 k) ?_
      show own_G p e below (T22z.setTop (mkF m 24 #[.val (.ref a1), .val (.ref a2), .val (.int (0 : Int32)), .val (.int (0 : Int32)), .unset, .unset] [])) _
      refine own_go (fun t k => XS.aloadN X22z.here hx rfl (hb hby d_prog_124_method_4_code_24) rfl rfl k) ?_
      refine own_go (fun t k => XS.iloadN X22z.here hx rfl (hb hby d_prog_124_method_4_code_25) rfl k) ?_
      obtain ⟨cq24z, kq24z, qa24z, qb24z, qc24z⟩ := isOf hZ K22zq q0
      obtain ⟨_, _, ⟨T24z, L24z, k24z, n24z⟩, -, X24z, ⟨Lc24z, hQ24z, l24z, y24z, z24z⟩, st24z⟩ := X22z.virtualBack hx (y := own_m34) (z := own_m34) hown (own_mw hZ hw 113 rfl) (own_mw hZ hw 114 rfl) (notFace_of_selects (args := #[]) (own_mw hZ hw 116 rfl)) (own_mw hZ hw 116 rfl) (own_mw hZ hw 115 rfl) (by decide) (backOf (W := 0) (own_cpa l Z a0 hw [] a1 b1 k1 v1 d1 cs1 (0 : Int32) 0 cz fm h0 O0 q0 q1 q2 q3 hr1 h31 (by decide : ((0 : Int32)).toInt = ((0 : Nat) : Int)) ((own_ltN (by decide : ((0 : Int32)).toInt = ((0 : Nat) : Int)) h31).mp hc21z) hc1 S_CS hcs S_FM hfm S_AD S_HI S_LO) hZ (own_hw hw 117 rfl) (own_hw hw 53 rfl) (by decide) (by decide)) qa24z qc24z (g := (mkF m 26 #[.val (.ref a1), .val (.ref a2), .val (.int (0 : Int32)), .val (.int (0 : Int32)), .unset, .unset] [(.int (0 : Int32)), (.ref a1)])) rfl (by rw [hml]; rfl) (Steps.refl _) (argsL := [(.int (0 : Int32))]) (rest := []) (lenOf pd_2087992008 rfl) rfl (by show 2 * 0 + _ ≤ _; exact Nat.le_of_eq rfl) (hb hby d_prog_124_method_4_code_26) (fun _ _ => ⟨rfl, K22zq, (by decide : 0 + 0 ≤ _), (by decide : 0 + 0 ≤ _)⟩)
      dsimp only [Pt.U, Pt.locs, Pt.cells, Pt.slots] at X24z l24z y24z z24z st24z hQ24z
      subst l24z y24z z24z
      obtain ⟨rfl, NQ24z, K24zq⟩ := hQ24z
      refine own_tr st24z ?_
      have N24z := Fr.app N22z NQ24z
      show own_G p e below (T24z.setTop (mkF m 29 #[.val (.ref a1), .val (.ref a2), .val (.int (0 : Int32)), .val (.int (0 : Int32)), .unset, .unset] [(.int (own_cpx cs1 0))])) _
      refine own_go (fun t k => XS.istore X24z.here hx rfl (hb hby d_prog_124_method_4_code_29) rfl (l' := #[.val (.ref a1), .val (.ref a2), .val (.int (0 : Int32)), .val (.int (0 : Int32)), .val (.int (own_cpx cs1 0)), .unset]) rfl k) ?_
      refine own_go (fun t k => XS.aloadN X24z.here hx rfl (hb hby d_prog_124_method_4_code_31) rfl rfl k) ?_
      refine own_go (fun t k => XS.iloadN X24z.here hx rfl (hb hby d_prog_124_method_4_code_32) rfl k) ?_
      show own_G p e below (T24z.setTop (mkF m 33 #[.val (.ref a1), .val (.ref a2), .val (.int (0 : Int32)), .val (.int (0 : Int32)), .val (.int (own_cpx cs1 0)), .unset] [(.int (0 : Int32)), (.ref a2)])) _
      obtain ⟨cq25z, kq25z, qa25z, qb25z, qc25z⟩ := isOf hZ K24zq q6
      obtain ⟨_, _, ⟨T25z, L25z, k25z, n25z⟩, -, X25z, ⟨Lc25z, hQ25z, l25z, y25z, z25z⟩, st25z⟩ := X24z.virtualBack hx (y := own_m34) (z := own_m34) hown (own_mw hZ hw 113 rfl) (own_mw hZ hw 114 rfl) (notFace_of_selects (args := #[]) (own_mw hZ hw 116 rfl)) (own_mw hZ hw 116 rfl) (own_mw hZ hw 115 rfl) (by decide) (backOf (W := 0) (own_cpa l Z a0 hw [] a2 b2 k2 v2 d2 cs2 (0 : Int32) 0 cz fm h0 O0 q6 q7 q8 q9 hr2 h32 (by decide : ((0 : Int32)).toInt = ((0 : Nat) : Int)) ((own_ltN (by decide : ((0 : Int32)).toInt = ((0 : Nat) : Int)) h32).mp hc23z) hc2 S_CS hcs S_FM hfm S_AD S_HI S_LO) hZ (own_hw hw 117 rfl) (own_hw hw 53 rfl) (by decide) (by decide)) qa25z qc25z (g := (mkF m 33 #[.val (.ref a1), .val (.ref a2), .val (.int (0 : Int32)), .val (.int (0 : Int32)), .val (.int (own_cpx cs1 0)), .unset] [(.int (0 : Int32)), (.ref a2)])) rfl (by rw [hml]; rfl) (Steps.refl _) (argsL := [(.int (0 : Int32))]) (rest := []) (lenOf pd_2087992008 rfl) rfl (by show 2 * 0 + _ ≤ _; exact Nat.le_of_eq rfl) (hb hby d_prog_124_method_4_code_33) (fun _ _ => ⟨rfl, K24zq, (by decide : 0 + 0 ≤ _), (by decide : 0 + 0 ≤ _)⟩)
      dsimp only [Pt.U, Pt.locs, Pt.cells, Pt.slots] at X25z l25z y25z z25z st25z hQ25z
      subst l25z y25z z25z
      obtain ⟨rfl, NQ25z, K25zq⟩ := hQ25z
      refine own_tr st25z ?_
      have N25z := Fr.app N24z NQ25z
      show own_G p e below (T25z.setTop (mkF m 36 #[.val (.ref a1), .val (.ref a2), .val (.int (0 : Int32)), .val (.int (0 : Int32)), .val (.int (own_cpx cs1 0)), .unset] [(.int (own_cpx cs2 0))])) _
      refine own_go (fun t k => XS.istore X25z.here hx rfl (hb hby d_prog_124_method_4_code_36) rfl (l' := #[.val (.ref a1), .val (.ref a2), .val (.int (0 : Int32)), .val (.int (0 : Int32)), .val (.int (own_cpx cs1 0)), .val (.int (own_cpx cs2 0))]) rfl k) ?_
      refine own_go (fun t k => XS.iload X25z.here hx rfl (hb hby d_prog_124_method_4_code_38) rfl k) ?_
      refine own_go (fun t k => XS.iload X25z.here hx rfl (hb hby d_prog_124_method_4_code_40) rfl k) ?_
      show own_G p e below (T25z.setTop (mkF m 42 #[.val (.ref a1), .val (.ref a2), .val (.int (0 : Int32)), .val (.int (0 : Int32)), .val (.int (own_cpx cs1 0)), .val (.int (own_cpx cs2 0))] [(.int (own_cpx cs2 0)), (.int (own_cpx cs1 0))])) _
      obtain ⟨_, _, ⟨T26z, L26z, k26z, n26z⟩, -, X26z, ⟨Lc26z, hQ26z, l26z, y26z, z26z⟩, st26z⟩ := Jvm.LawKit.callS X25z hx (y := own_m1) hown (own_mw hZ hw 142 rfl) (own_mw hZ hw 143 rfl) (own_mw hZ hw 144 rfl) (own_mw hZ hw 145 rfl) (by decide) (backOf (W := 0) (own_icM l Z a0 hw [] (own_cpx cs1 0) (own_cpx cs2 0) h0 O0) hZ (own_hw hw 145 rfl) (own_hw hw 144 rfl) (by decide) (by decide)) (g := (mkF m 42 #[.val (.ref a1), .val (.ref a2), .val (.int (0 : Int32)), .val (.int (0 : Int32)), .val (.int (own_cpx cs1 0)), .val (.int (own_cpx cs2 0))] [(.int (own_cpx cs2 0)), (.int (own_cpx cs1 0))])) rfl (by rw [hml]; rfl) (argsL := [(.int (own_cpx cs1 0)), (.int (own_cpx cs2 0))]) (rest := []) (lenOf pd_184293393 rfl) rfl (by show 2 * 0 + _ ≤ _; exact Nat.le_of_eq rfl) (hb hby d_prog_124_method_4_code_42) (fun _ _ => ⟨rfl, K25zq, (by decide : 0 + 0 ≤ _), (by decide : 0 + 0 ≤ _)⟩)
      dsimp only [Pt.U, Pt.locs, Pt.cells, Pt.slots] at X26z l26z y26z z26z st26z hQ26z
      subst l26z y26z z26z
      obtain ⟨rfl, NQ26z, K26zq⟩ := hQ26z
      refine own_go st26z ?_
      have N26z := Fr.app N25z NQ26z
      show own_G p e below (T26z.setTop (mkF m 45 #[.val (.ref a1), .val (.ref a2), .val (.int (0 : Int32)), .val (.int (0 : Int32)), .val (.int (own_cpx cs1 0)), .val (.int (own_cpx cs2 0))] [(.int (own_ic (own_cpx cs1 0) (own_cpx cs2 0)))])) _
      refine own_go (fun t k => XS.istoreN X26z.here hx rfl (hb hby d_prog_124_method_4_code_45) rfl (l' := #[.val (.ref a1), .val (.ref a2), .val (.int (0 : Int32)), .val (.int (own_ic (own_cpx cs1 0) (own_cpx cs2 0))), .val (.int (own_cpx cs1 0)), .val (.int (own_cpx cs2 0))]) rfl k) ?_
      refine own_go (fun t k => XS.iloadN X26z.here hx rfl (hb hby d_prog_124_method_4_code_46) rfl k) ?_
      refine own_go (fun t k => XS.iload X26z.here hx rfl (hb hby d_prog_124_method_4_code_47) rfl k) ?_
      show own_G p e below (T26z.setTop (mkF m 49 #[.val (.ref a1), .val (.ref a2), .val (.int (0 : Int32)), .val (.int (own_ic (own_cpx cs1 0) (own_cpx cs2 0))), .val (.int (own_cpx cs1 0)), .val (.int (own_cpx cs2 0))] [(.int (own_cpx cs1 0)), (.int (0 : Int32))])) _
      obtain ⟨_, _, ⟨T27z, L27z, k27z, n27z⟩, -, X27z, ⟨Lc27z, hQ27z, l27z, y27z, z27z⟩, st27z⟩ := Jvm.LawKit.callS X26z hx (y := own_m5) hown (own_mw hZ hw 146 rfl) (own_mw hZ hw 147 rfl) (own_mw hZ hw 139 rfl) (own_mw hZ hw 148 rfl) (by decide) (backOf (W := 1) (own_ccM l Z a0 hw [] (own_cpx cs1 0) h0 O0) hZ (own_hw hw 148 rfl) (own_hw hw 139 rfl) (by decide) (by decide)) (g := (mkF m 49 #[.val (.ref a1), .val (.ref a2), .val (.int (0 : Int32)), .val (.int (own_ic (own_cpx cs1 0) (own_cpx cs2 0))), .val (.int (own_cpx cs1 0)), .val (.int (own_cpx cs2 0))] [(.int (own_cpx cs1 0)), (.int (0 : Int32))])) rfl (by rw [hml]; rfl) (argsL := [(.int (own_cpx cs1 0))]) (rest := [(.int (0 : Int32))]) (lenOf pd_2087992008 rfl) rfl (by show 2 * 0 + _ ≤ _; exact Nat.le_of_eq rfl) (hb hby d_prog_124_method_4_code_49) (fun _ _ => ⟨rfl, K26zq, (by decide : 0 + 0 ≤ _), (by decide : 0 + 0 ≤ _)⟩)
      dsimp only [Pt.U, Pt.locs, Pt.cells, Pt.slots] at X27z l27z y27z z27z st27z hQ27z
      subst l27z y27z z27z
      obtain ⟨rfl, NQ27z, K27zq⟩ := hQ27z
      refine own_go st27z ?_
      have N27z := Fr.app N26z NQ27z
      show own_G p e below (T27z.setTop (mkF m 52 #[.val (.ref a1), .val (.ref a2), .val (.int (0 : Int32)), .val (.int (own_ic (own_cpx cs1 0) (own_cpx cs2 0))), .val (.int (own_cpx cs1 0)), .val (.int (own_cpx cs2 0))] [(.int (own_cc (own_cpx cs1 0))), (.int (0 : Int32))])) _
      refine own_go (fun t k => XS.iadd X27z.here hx rfl (hb hby d_prog_124_method_4_code_52) rfl k) ?_
      refine own_go (fun t k => XS.istoreN X27z.here hx rfl (hb hby d_prog_124_method_4_code_53) rfl (l' := #[.val (.ref a1), .val (.ref a2), .val (.int ((0 : Int32) + (own_cc (own_cpx cs1 0)))), .val (.int (own_ic (own_cpx cs1 0) (own_cpx cs2 0))), .val (.int (own_cpx cs1 0)), .val (.int (own_cpx cs2 0))]) rfl k) ?_
      refine own_go (fun t k => XS.goto X27z.here hx rfl (pc0 := 54) (pc' := 4) rfl (hb hby d_prog_124_method_4_code_54) (by decide) (by decide) k) ?_
      show own_G p e below (T27z.setTop (mkF m 4 #[.val (.ref a1), .val (.ref a2), .val (.int ((0 : Int32) + (own_cc (own_cpx cs1 0)))), .val (.int (own_ic (own_cpx cs1 0) (own_cpx cs2 0))), .val (.int (own_cpx cs1 0)), .val (.int (own_cpx cs2 0))] [])) _
      by_cases hb28z : (own_ic (own_cpx cs1 0) (own_cpx cs2 0)) = (0 : Int32)
      · rw [hb28z]
        exact loop 3 (0 + own_ccN (own_cpx cs1 0)) ((0 : Int32) + (own_cc (own_cpx cs1 0))) _ _ _ _ (by have := own_ccN_le (own_cpx cs1 0); omega) (own_addcc (by decide : ((0 : Int32)).toInt = ((0 : Nat) : Int)) (by have := ((own_ltN (by decide : ((0 : Int32)).toInt = ((0 : Nat) : Int)) h31).mp hc21z); omega)) ((own_cf_step1 ((own_ltN (by decide : ((0 : Int32)).toInt = ((0 : Nat) : Int)) h31).mp hc21z) ((own_ltN (by decide : ((0 : Int32)).toInt = ((0 : Nat) : Int)) h32).mp hc23z) hb28z).trans (rfl : own_cf cs1 cs2 (3 + 1) 0 = own_ct cs1 cs2)) X27z K27zq N27z
      · show own_G p e below (T27z.setTop (mkF m 4 #[.val (.ref a1), .val (.ref a2), .val (.int ((0 : Int32) + (own_cc (own_cpx cs1 0)))), .val (.int (own_ic (own_cpx cs1 0) (own_cpx cs2 0))), .val (.int (own_cpx cs1 0)), .val (.int (own_cpx cs2 0))] [])) _
        refine own_go (fun t k => XS.iloadN X27z.here hx rfl (hb hby d_prog_124_method_4_code_4) rfl k) ?_
        refine own_go (fun t k => XS.ifYes X27z.here hx rfl (pc0 := 5) (pc' := 57) rfl (hb hby d_prog_124_method_4_code_5) rfl ((if0 _ _).trans (feq hb28z).2) (by decide) (by decide) k) ?_
        show own_G p e below (T27z.setTop (mkF m 57 #[.val (.ref a1), .val (.ref a2), .val (.int ((0 : Int32) + (own_cc (own_cpx cs1 0)))), .val (.int (own_ic (own_cpx cs1 0) (own_cpx cs2 0))), .val (.int (own_cpx cs1 0)), .val (.int (own_cpx cs2 0))] [])) _
        refine own_go (fun t k => XS.iloadN X27z.here hx rfl (hb hby d_prog_124_method_4_code_57) rfl k) ?_
        refine own_go (fun t k => XS.ifYes X27z.here hx rfl (pc0 := 58) (pc' := 73) rfl (hb hby d_prog_124_method_4_code_58) rfl ((if0 _ _).trans (feq hb28z).2) (by decide) (by decide) k) ?_
        show own_G p e below (T27z.setTop (mkF m 73 #[.val (.ref a1), .val (.ref a2), .val (.int ((0 : Int32) + (own_cc (own_cpx cs1 0)))), .val (.int (own_ic (own_cpx cs1 0) (own_cpx cs2 0))), .val (.int (own_cpx cs1 0)), .val (.int (own_cpx cs2 0))] [])) _
        refine own_go (fun t k => XS.iloadN X27z.here hx rfl (hb hby d_prog_124_method_4_code_73) rfl k) ?_
        exact own_ret X27z hx Bd.returns rfl (Or.inl ⟨rfl, Or.inl rfl, _, rfl⟩) (hb hby d_prog_124_method_4_code_74) hlk (Nat.le_of_ble_eq_true rfl) (Nat.le_of_ble_eq_true rfl) (by show Q_own_ctM Z a1 b1 k1 v1 d1 cs1 a2 b2 k2 v2 d2 cs2 cz fm h0 _ T27z.heap _; rw [K27zq]; exact ⟨(congrArg (fun z => some (Value.int z)) ((own_cf_step2 ((own_ltN (by decide : ((0 : Int32)).toInt = ((0 : Nat) : Int)) h31).mp hc21z) ((own_ltN (by decide : ((0 : Int32)).toInt = ((0 : Nat) : Int)) h32).mp hc23z) hb28z).trans (rfl : own_cf cs1 cs2 (3 + 1) 0 = own_ct cs1 cs2))), N27z, rfl⟩)
    · refine own_go (fun t k => XS.icmpYes X22z.here hx rfl (pc0 := 21) (pc' := 57) rfl (hb hby d_prog_124_method_4_code_21) rfl (flt hc23z).2.1 (by decide) (by decide) k) ?_
      show own_G p e below (T22z.setTop (mkF m 57 #[.val (.ref a1), .val (.ref a2), .val (.int (0 : Int32)), .val (.int (0 : Int32)), .unset, .unset] [])) _
      refine own_go (fun t k => XS.iloadN X22z.here hx rfl (hb hby d_prog_124_method_4_code_57) rfl k) ?_
      refine own_go (fun t k => XS.ifNo X22z.here hx rfl (hb hby d_prog_124_method_4_code_58) rfl ((if0 _ _).trans (teq (by decide : (0 : Int32) = (0 : Int32))).2) k) ?_
      show own_G p e below (T22z.setTop (mkF m 61 #[.val (.ref a1), .val (.ref a2), .val (.int (0 : Int32)), .val (.int (0 : Int32)), .unset, .unset] [])) _
      refine own_go (fun t k => XS.aloadN X22z.here hx rfl (hb hby d_prog_124_method_4_code_61) rfl rfl k) ?_
      obtain ⟨cq29z, kq29z, qa29z, qb29z, qc29z⟩ := isOf hZ K22zq q0
      obtain ⟨_, _, ⟨T29z, L29z, k29z, n29z⟩, -, X29z, ⟨Lc29z, hQ29z, l29z, y29z, z29z⟩, st29z⟩ := X22z.virtualBack hx (y := own_m29) (z := own_m29) hown (own_mw hZ hw 103 rfl) (own_mw hZ hw 104 rfl) (notFace_of_selects (args := #[]) (own_mw hZ hw 106 rfl)) (own_mw hZ hw 106 rfl) (own_mw hZ hw 105 rfl) (by decide) (backOf (W := 0) (own_len_ l Z a0 hw [] a1 b1 k1 v1 d1 cs1 cz h0 O0 q0 q1 q2 q3 hr1 h31 S_CS hcs) hZ (own_hw hw 107 rfl) (own_hw hw 53 rfl) (by decide) (by decide)) qa29z qc29z (g := (mkF m 62 #[.val (.ref a1), .val (.ref a2), .val (.int (0 : Int32)), .val (.int (0 : Int32)), .unset, .unset] [(.ref a1)])) rfl (by rw [hml]; rfl) (Steps.refl _) (argsL := []) (rest := []) (lenOf pd_193421983 rfl) rfl (by show 2 * 0 + _ ≤ _; exact Nat.le_of_eq rfl) (hb hby d_prog_124_method_4_code_62) (fun _ _ => ⟨rfl, K22zq, (by decide : 0 + 0 ≤ _), (by decide : 0 + 0 ≤ _)⟩)
      dsimp only [Pt.U, Pt.locs, Pt.cells, Pt.slots] at X29z l29z y29z z29z st29z hQ29z
      subst l29z y29z z29z
      obtain ⟨rfl, NQ29z, K29zq⟩ := hQ29z
      refine own_tr st29z ?_
      have N29z := Fr.app N22z NQ29z
      show own_G p e below (T29z.setTop (mkF m 65 #[.val (.ref a1), .val (.ref a2), .val (.int (0 : Int32)), .val (.int (0 : Int32)), .unset, .unset] [(.int (Int32.ofNat cs1.length))])) _
      refine own_go (fun t k => XS.aloadN X29z.here hx rfl (hb hby d_prog_124_method_4_code_65) rfl rfl k) ?_
      obtain ⟨cq30z, kq30z, qa30z, qb30z, qc30z⟩ := isOf hZ K29zq q6
      obtain ⟨_, _, ⟨T30z, L30z, k30z, n30z⟩, -, X30z, ⟨Lc30z, hQ30z, l30z, y30z, z30z⟩, st30z⟩ := X29z.virtualBack hx (y := own_m29) (z := own_m29) hown (own_mw hZ hw 103 rfl) (own_mw hZ hw 104 rfl) (notFace_of_selects (args := #[]) (own_mw hZ hw 106 rfl)) (own_mw hZ hw 106 rfl) (own_mw hZ hw 105 rfl) (by decide) (backOf (W := 1) (own_len_ l Z a0 hw [] a2 b2 k2 v2 d2 cs2 cz h0 O0 q6 q7 q8 q9 hr2 h32 S_CS hcs) hZ (own_hw hw 107 rfl) (own_hw hw 53 rfl) (by decide) (by decide)) qa30z qc30z (g := (mkF m 66 #[.val (.ref a1), .val (.ref a2), .val (.int (0 : Int32)), .val (.int (0 : Int32)), .unset, .unset] [(.ref a2), (.int (Int32.ofNat cs1.length))])) rfl (by rw [hml]; rfl) (Steps.refl _) (argsL := []) (rest := [(.int (Int32.ofNat cs1.length))]) (lenOf pd_193421983 rfl) rfl (by show 2 * 0 + _ ≤ _; exact Nat.le_of_eq rfl) (hb hby d_prog_124_method_4_code_66) (fun _ _ => ⟨rfl, K29zq, (by decide : 0 + 0 ≤ _), (by decide : 0 + 0 ≤ _)⟩)
      dsimp only [Pt.U, Pt.locs, Pt.cells, Pt.slots] at X30z l30z y30z z30z st30z hQ30z
      subst l30z y30z z30z
      obtain ⟨rfl, NQ30z, K30zq⟩ := hQ30z
      refine own_tr st30z ?_
      have N30z := Fr.app N29z NQ30z
      show own_G p e below (T30z.setTop (mkF m 69 #[.val (.ref a1), .val (.ref a2), .val (.int (0 : Int32)), .val (.int (0 : Int32)), .unset, .unset] [(.int (Int32.ofNat cs2.length)), (.int (Int32.ofNat cs1.length))])) _
      obtain ⟨_, _, ⟨T31z, L31z, k31z, n31z⟩, -, X31z, ⟨Lc31z, hQ31z, l31z, y31z, z31z⟩, st31z⟩ := Jvm.LawKit.callS X30z hx (y := own_m1) hown (own_mw hZ hw 142 rfl) (own_mw hZ hw 143 rfl) (own_mw hZ hw 144 rfl) (own_mw hZ hw 145 rfl) (by decide) (backOf (W := 0) (own_icM l Z a0 hw [] (Int32.ofNat cs1.length) (Int32.ofNat cs2.length) h0 O0) hZ (own_hw hw 145 rfl) (own_hw hw 144 rfl) (by decide) (by decide)) (g := (mkF m 69 #[.val (.ref a1), .val (.ref a2), .val (.int (0 : Int32)), .val (.int (0 : Int32)), .unset, .unset] [(.int (Int32.ofNat cs2.length)), (.int (Int32.ofNat cs1.length))])) rfl (by rw [hml]; rfl) (argsL := [(.int (Int32.ofNat cs1.length)), (.int (Int32.ofNat cs2.length))]) (rest := []) (lenOf pd_184293393 rfl) rfl (by show 2 * 0 + _ ≤ _; exact Nat.le_of_eq rfl) (hb hby d_prog_124_method_4_code_69) (fun _ _ => ⟨rfl, K30zq, (by decide : 0 + 0 ≤ _), (by decide : 0 + 0 ≤ _)⟩)
      dsimp only [Pt.U, Pt.locs, Pt.cells, Pt.slots] at X31z l31z y31z z31z st31z hQ31z
      subst l31z y31z z31z
      obtain ⟨rfl, NQ31z, K31zq⟩ := hQ31z
      refine own_go st31z ?_
      have N31z := Fr.app N30z NQ31z
      show own_G p e below (T31z.setTop (mkF m 72 #[.val (.ref a1), .val (.ref a2), .val (.int (0 : Int32)), .val (.int (0 : Int32)), .unset, .unset] [(.int (own_ic (Int32.ofNat cs1.length) (Int32.ofNat cs2.length)))])) _
      refine own_go (fun t k => XS.istoreN X31z.here hx rfl (hb hby d_prog_124_method_4_code_72) rfl (l' := #[.val (.ref a1), .val (.ref a2), .val (.int (0 : Int32)), .val (.int (own_ic (Int32.ofNat cs1.length) (Int32.ofNat cs2.length))), .unset, .unset]) rfl k) ?_
      refine own_go (fun t k => XS.iloadN X31z.here hx rfl (hb hby d_prog_124_method_4_code_73) rfl k) ?_
      exact own_ret X31z hx Bd.returns rfl (Or.inl ⟨rfl, Or.inl rfl, _, rfl⟩) (hb hby d_prog_124_method_4_code_74) hlk (Nat.le_of_ble_eq_true rfl) (Nat.le_of_ble_eq_true rfl) (by show Q_own_ctM Z a1 b1 k1 v1 d1 cs1 a2 b2 k2 v2 d2 cs2 cz fm h0 _ T31z.heap _; rw [K31zq]; exact ⟨(congrArg (fun z => some (Value.int z)) ((own_cf_exit (fun q => hc23z ((own_ltN (by decide : ((0 : Int32)).toInt = ((0 : Nat) : Int)) h32).mpr q.2))).trans (rfl : own_cf cs1 cs2 (3 + 1) 0 = own_ct cs1 cs2))), N31z, rfl⟩)
  · refine own_go (fun t k => XS.icmpYes X20z.here hx rfl (pc0 := 13) (pc' := 57) rfl (hb hby d_prog_124_method_4_code_13) rfl (flt hc21z).2.1 (by decide) (by decide) k) ?_
    show own_G p e below (T20z.setTop (mkF m 57 #[.val (.ref a1), .val (.ref a2), .val (.int (0 : Int32)), .val (.int (0 : Int32)), .unset, .unset] [])) _
    refine own_go (fun t k => XS.iloadN X20z.here hx rfl (hb hby d_prog_124_method_4_code_57) rfl k) ?_
    refine own_go (fun t k => XS.ifNo X20z.here hx rfl (hb hby d_prog_124_method_4_code_58) rfl ((if0 _ _).trans (teq (by decide : (0 : Int32) = (0 : Int32))).2) k) ?_
    show own_G p e below (T20z.setTop (mkF m 61 #[.val (.ref a1), .val (.ref a2), .val (.int (0 : Int32)), .val (.int (0 : Int32)), .unset, .unset] [])) _
    refine own_go (fun t k => XS.aloadN X20z.here hx rfl (hb hby d_prog_124_method_4_code_61) rfl rfl k) ?_
    obtain ⟨cq32z, kq32z, qa32z, qb32z, qc32z⟩ := isOf hZ K20zq q0
    obtain ⟨_, _, ⟨T32z, L32z, k32z, n32z⟩, -, X32z, ⟨Lc32z, hQ32z, l32z, y32z, z32z⟩, st32z⟩ := X20z.virtualBack hx (y := own_m29) (z := own_m29) hown (own_mw hZ hw 103 rfl) (own_mw hZ hw 104 rfl) (notFace_of_selects (args := #[]) (own_mw hZ hw 106 rfl)) (own_mw hZ hw 106 rfl) (own_mw hZ hw 105 rfl) (by decide) (backOf (W := 0) (own_len_ l Z a0 hw [] a1 b1 k1 v1 d1 cs1 cz h0 O0 q0 q1 q2 q3 hr1 h31 S_CS hcs) hZ (own_hw hw 107 rfl) (own_hw hw 53 rfl) (by decide) (by decide)) qa32z qc32z (g := (mkF m 62 #[.val (.ref a1), .val (.ref a2), .val (.int (0 : Int32)), .val (.int (0 : Int32)), .unset, .unset] [(.ref a1)])) rfl (by rw [hml]; rfl) (Steps.refl _) (argsL := []) (rest := []) (lenOf pd_193421983 rfl) rfl (by show 2 * 0 + _ ≤ _; exact Nat.le_of_eq rfl) (hb hby d_prog_124_method_4_code_62) (fun _ _ => ⟨rfl, K20zq, (by decide : 0 + 0 ≤ _), (by decide : 0 + 0 ≤ _)⟩)
    dsimp only [Pt.U, Pt.locs, Pt.cells, Pt.slots] at X32z l32z y32z z32z st32z hQ32z
    subst l32z y32z z32z
    obtain ⟨rfl, NQ32z, K32zq⟩ := hQ32z
    refine own_tr st32z ?_
    have N32z := Fr.app N20z NQ32z
    show own_G p e below (T32z.setTop (mkF m 65 #[.val (.ref a1), .val (.ref a2), .val (.int (0 : Int32)), .val (.int (0 : Int32)), .unset, .unset] [(.int (Int32.ofNat cs1.length))])) _
    refine own_go (fun t k => XS.aloadN X32z.here hx rfl (hb hby d_prog_124_method_4_code_65) rfl rfl k) ?_
    obtain ⟨cq33z, kq33z, qa33z, qb33z, qc33z⟩ := isOf hZ K32zq q6
    obtain ⟨_, _, ⟨T33z, L33z, k33z, n33z⟩, -, X33z, ⟨Lc33z, hQ33z, l33z, y33z, z33z⟩, st33z⟩ := X32z.virtualBack hx (y := own_m29) (z := own_m29) hown (own_mw hZ hw 103 rfl) (own_mw hZ hw 104 rfl) (notFace_of_selects (args := #[]) (own_mw hZ hw 106 rfl)) (own_mw hZ hw 106 rfl) (own_mw hZ hw 105 rfl) (by decide) (backOf (W := 1) (own_len_ l Z a0 hw [] a2 b2 k2 v2 d2 cs2 cz h0 O0 q6 q7 q8 q9 hr2 h32 S_CS hcs) hZ (own_hw hw 107 rfl) (own_hw hw 53 rfl) (by decide) (by decide)) qa33z qc33z (g := (mkF m 66 #[.val (.ref a1), .val (.ref a2), .val (.int (0 : Int32)), .val (.int (0 : Int32)), .unset, .unset] [(.ref a2), (.int (Int32.ofNat cs1.length))])) rfl (by rw [hml]; rfl) (Steps.refl _) (argsL := []) (rest := [(.int (Int32.ofNat cs1.length))]) (lenOf pd_193421983 rfl) rfl (by show 2 * 0 + _ ≤ _; exact Nat.le_of_eq rfl) (hb hby d_prog_124_method_4_code_66) (fun _ _ => ⟨rfl, K32zq, (by decide : 0 + 0 ≤ _), (by decide : 0 + 0 ≤ _)⟩)
    dsimp only [Pt.U, Pt.locs, Pt.cells, Pt.slots] at X33z l33z y33z z33z st33z hQ33z
    subst l33z y33z z33z
    obtain ⟨rfl, NQ33z, K33zq⟩ := hQ33z
    refine own_tr st33z ?_
    have N33z := Fr.app N32z NQ33z
    show own_G p e below (T33z.setTop (mkF m 69 #[.val (.ref a1), .val (.ref a2), .val (.int (0 : Int32)), .val (.int (0 : Int32)), .unset, .unset] [(.int (Int32.ofNat cs2.length)), (.int (Int32.ofNat cs1.length))])) _
    obtain ⟨_, _, ⟨T34z, L34z, k34z, n34z⟩, -, X34z, ⟨Lc34z, hQ34z, l34z, y34z, z34z⟩, st34z⟩ := Jvm.LawKit.callS X33z hx (y := own_m1) hown (own_mw hZ hw 142 rfl) (own_mw hZ hw 143 rfl) (own_mw hZ hw 144 rfl) (own_mw hZ hw 145 rfl) (by decide) (backOf (W := 0) (own_icM l Z a0 hw [] (Int32.ofNat cs1.length) (Int32.ofNat cs2.length) h0 O0) hZ (own_hw hw 145 rfl) (own_hw hw 144 rfl) (by decide) (by decide)) (g := (mkF m 69 #[.val (.ref a1), .val (.ref a2), .val (.int (0 : Int32)), .val (.int (0 : Int32)), .unset, .unset] [(.int (Int32.ofNat cs2.length)), (.int (Int32.ofNat cs1.length))])) rfl (by rw [hml]; rfl) (argsL := [(.int (Int32.ofNat cs1.length)), (.int (Int32.ofNat cs2.length))]) (rest := []) (lenOf pd_184293393 rfl) rfl (by show 2 * 0 + _ ≤ _; exact Nat.le_of_eq rfl) (hb hby d_prog_124_method_4_code_69) (fun _ _ => ⟨rfl, K33zq, (by decide : 0 + 0 ≤ _), (by decide : 0 + 0 ≤ _)⟩)
    dsimp only [Pt.U, Pt.locs, Pt.cells, Pt.slots] at X34z l34z y34z z34z st34z hQ34z
    subst l34z y34z z34z
    obtain ⟨rfl, NQ34z, K34zq⟩ := hQ34z
    refine own_go st34z ?_
    have N34z := Fr.app N33z NQ34z
    show own_G p e below (T34z.setTop (mkF m 72 #[.val (.ref a1), .val (.ref a2), .val (.int (0 : Int32)), .val (.int (0 : Int32)), .unset, .unset] [(.int (own_ic (Int32.ofNat cs1.length) (Int32.ofNat cs2.length)))])) _
    refine own_go (fun t k => XS.istoreN X34z.here hx rfl (hb hby d_prog_124_method_4_code_72) rfl (l' := #[.val (.ref a1), .val (.ref a2), .val (.int (0 : Int32)), .val (.int (own_ic (Int32.ofNat cs1.length) (Int32.ofNat cs2.length))), .unset, .unset]) rfl k) ?_
    refine own_go (fun t k => XS.iloadN X34z.here hx rfl (hb hby d_prog_124_method_4_code_73) rfl k) ?_
    exact own_ret X34z hx Bd.returns rfl (Or.inl ⟨rfl, Or.inl rfl, _, rfl⟩) (hb hby d_prog_124_method_4_code_74) hlk (Nat.le_of_ble_eq_true rfl) (Nat.le_of_ble_eq_true rfl) (by show Q_own_ctM Z a1 b1 k1 v1 d1 cs1 a2 b2 k2 v2 d2 cs2 cz fm h0 _ T34z.heap _; rw [K34zq]; exact ⟨(congrArg (fun z => some (Value.int z)) ((own_cf_exit (fun q => hc21z ((own_ltN (by decide : ((0 : Int32)).toInt = ((0 : Nat) : Int)) h31).mpr q.1))).trans (rfl : own_cf cs1 cs2 (3 + 1) 0 = own_ct cs1 cs2))), N34z, rfl⟩)
theorem ef_own_cmpS (m : MethodId) (x0 : Addr) (x1 : Addr) : entryFrame m #[(.ref x0), (.ref x1)] 4 = mkF m 0 #[.val (.ref x0), .val (.ref x1), .unset, .unset] [] := by first | (simp [entryFrame, mkF, argsToLocals, Value.category]; done) | rfl
theorem pf_own_cmpS : plainFor own_m11 = true := plainFor_of_name (by simp [plainName, overriddenIn])
theorem pd_2648918175 : parseMethodDescriptor "(Ljava/lang/String;Ljava/lang/String;)I" = some ⟨[(.object "java/lang/String"), (.object "java/lang/String")], some .int⟩ := by decide +kernel
theorem d_prog_124_method_2_code_30 : decode prog_124_method_2_code 30 = .ok (.aload_n 0, 1) := by decide +kernel
theorem d_prog_124_method_2_code_31 : decode prog_124_method_2_code 31 = .ok (.checkcast 17, 3) := by decide +kernel
theorem d_prog_124_method_2_code_34 : decode prog_124_method_2_code 34 = .ok (.aload_n 1, 1) := by decide +kernel
theorem d_prog_124_method_2_code_35 : decode prog_124_method_2_code 35 = .ok (.checkcast 17, 3) := by decide +kernel
theorem d_prog_124_method_2_code_38 : decode prog_124_method_2_code 38 = .ok (.invokestatic 19, 3) := by decide +kernel
theorem d_prog_124_method_2_code_41 : decode prog_124_method_2_code 41 = .ok (.istore_n 2, 1) := by decide +kernel
def Q_own_cmpS (Z : State) (a1 : Addr) (b1 : Addr) (k1 : ClassId) (v1 : (List Value)) (d1 : Int32) (cs1 : (List Int32)) (a2 : Addr) (b2 : Addr) (k2 : ClassId) (v2 : (List Value)) (d2 : Int32) (cs2 : (List Int32)) (cz : Int32) (fm : Value) (h0 : Heap) (v : Option Value) (h : Heap) (L : List Loc) : Prop := v = some (.int (own_ct cs1 cs2)) ∧ Fr Z.heap.size L ∧ h = h0
set_option maxRecDepth 65536 in
set_option maxHeartbeats 40000000 in
theorem own_cmpS (l : Launch) (Z : State) (a0 : Array Value) (hw : ∀ d ∈ tables_1, d.before a0 Z = true) (ws : List Jvm.Cond) (a1 : Addr) (b1 : Addr) (k1 : ClassId) (v1 : (List Value)) (d1 : Int32) (cs1 : (List Int32)) (a2 : Addr) (b2 : Addr) (k2 : ClassId) (v2 : (List Value)) (d2 : Int32) (cs2 : (List Int32)) (cz : Int32) (fm : Value) (h0 : Heap) (O0 : Ext Z.heap h0) (q0 : Exa Z h0 a1 own_s1) (q1 : Fld Z h0 a1 own_s1 "value" "[B" (.ref b1)) (q2 : Fld Z h0 a1 own_s1 "coder" "B" (.int d1)) (q3 : own_A Z h0 b1 k1 .byte v1) (hr1 : own_rep cs1 d1 v1) (h31 : cs1.length ≤ 3) (q6 : Exa Z h0 a2 own_s1) (q7 : Fld Z h0 a2 own_s1 "value" "[B" (.ref b2)) (q8 : Fld Z h0 a2 own_s1 "coder" "B" (.int d2)) (q9 : own_A Z h0 b2 k2 .byte v2) (hr2 : own_rep cs2 d2 v2) (h32 : cs2.length ≤ 3) (hc1 : own_chs cs1) (hc2 : own_chs cs2) (S_CS : Sta Z Z.heap own_s1 "COMPACT_STRINGS" "Z" (.int cz)) (hcs : ¬ (cz = (0 : Int32))) (S_FM : Sta Z Z.heap "jdk/internal/util/Preconditions" "SIOOBE_FORMATTER" "Ljava/util/function/BiFunction;" fm) (hfm : fm.isRef = true) (S_AD : Sta Z Z.heap own_s0 own_s4 "Z" (.int (1 : Int32))) (S_HI : Sta Z Z.heap own_s0 "HI_BYTE_SHIFT" "I" (.int (0 : Int32))) (S_LO : Sta Z Z.heap own_s0 "LO_BYTE_SHIFT" "I" (.int (8 : Int32))) :
    MetFree l own_m11 (head1 (Jvm.Cond.code own_m11 prog_124_method_2_code 4 (some .int) :: ws) ({ frames := 5, cells := 0, slots := 0, locals := 78 } : Room)) (fun aa U => aa = #[(.ref a1), (.ref a2)] ∧ Z.Warmed39 U.vm ∧ U.heap = h0) (fun _ _ _ _ _ => True) (fun _ U o U' => ∃ v L, o = .returned v ∧ Q_own_cmpS Z a1 b1 k1 v1 d1 cs1 a2 b2 k2 v2 d2 cs2 cz fm h0 v U'.heap L ∧ FrameEnd U o U' L ({ frames := 5, cells := 0, slots := 0, locals := 78 } : Room).cells ({ frames := 5, cells := 0, slots := 0, locals := 78 } : Room).slots) := by
  refine MetFree.of_bodySF pf_own_cmpS hisR ?_
  intro p e s m args below meth c s₁ Bd hml0 hP hK
  obtain ⟨rfl, hZ, hh⟩ := hP
  have hx := Bd.exec
  have hby := Bd.bytes
  have hlk := BodyLoose.notSynchronized Bd
  have hml : c.maxLocals = 4 := hml0
  have hown : s.vm.findClass "com/example/feeds_to_views/feedstoviews/sql/Values" = some m.cls := findClass_of_methodNamed Bd.named
  have hnm := (name_of_methodNamed Bd.named Bd.method).1
  have X0 : Stand p l e ({ frames := 5, cells := 0, slots := 0, locals := 78 } : Room) s m #[(.ref a1), (.ref a2)] below meth c s₁ [] 0 0 := Stand.of_body Bd
  have e0 : s₁.heap = h0 := by rw [← hh, Bd.state]; rfl
  have N0 := Fr.nil Z.heap.size
  have K0 : Keep h0 h0 [] := Keep.refl _ _
  refine own_start (Q := Q_own_cmpS Z a1 b1 k1 v1 d1 cs1 a2 b2 k2 v2 d2 cs2 cz fm h0) (ef_own_cmpS m (a1) (a2)) ?_
  show own_G p e below (s₁.setTop (mkF m 0 #[.val (.ref a1), .val (.ref a2), .unset, .unset] [])) _
  refine own_go (fun t k => XS.aloadN X0.here hx rfl (hb hby d_prog_124_method_2_code_0) rfl rfl k) ?_
  obtain ⟨T1z, X1z, e1z, st1z⟩ := instNo X0 hx hZ hown (own_hw hw 12 rfl) e0 q0 (own_NSno (own_hw hw 97 rfl) (own_hw hw 29 rfl) (NS.step (own_hw hw 97 rfl) (own_NSroot (own_hw hw 98 rfl) (own_hw hw 29 rfl) (by decide)) (by decide)) (by decide)) (g := (mkF m 1 #[.val (.ref a1), .val (.ref a2), .unset, .unset] [(.ref a1)])) rfl rfl (hb hby d_prog_124_method_2_code_1)
  refine own_go st1z ?_
  refine own_go (fun t k => XS.ifYes X1z.here hx rfl (pc0 := 4) (pc' := 30) rfl (hb hby d_prog_124_method_2_code_4) rfl ((if0 _ _).trans (teq (by decide : (0 : Int32) = (0 : Int32))).1) (by decide) (by decide) k) ?_
  show own_G p e below (T1z.setTop (mkF m 30 #[.val (.ref a1), .val (.ref a2), .unset, .unset] [])) _
  refine own_go (fun t k => XS.aloadN X1z.here hx rfl (hb hby d_prog_124_method_2_code_30) rfl rfl k) ?_
  obtain ⟨T2z, X2z, e2z, st2z⟩ := castY X1z hx hZ hown (own_hw hw 99 rfl) e1z (Ins.self q0) (g := (mkF m 31 #[.val (.ref a1), .val (.ref a2), .unset, .unset] [(.ref a1)])) rfl rfl (hb hby d_prog_124_method_2_code_31)
  refine own_go st2z ?_
  refine own_go (fun t k => XS.aloadN X2z.here hx rfl (hb hby d_prog_124_method_2_code_34) rfl rfl k) ?_
  show own_G p e below (T2z.setTop (mkF m 35 #[.val (.ref a1), .val (.ref a2), .unset, .unset] [(.ref a2), (.ref a1)])) _
  obtain ⟨T3z, X3z, e3z, st3z⟩ := castY X2z hx hZ hown (own_hw hw 99 rfl) e2z (Ins.self q6) (g := (mkF m 35 #[.val (.ref a1), .val (.ref a2), .unset, .unset] [(.ref a2), (.ref a1)])) rfl rfl (hb hby d_prog_124_method_2_code_35)
  refine own_go st3z ?_
  obtain ⟨_, _, ⟨T4z, L4z, k4z, n4z⟩, -, X4z, ⟨Lc4z, hQ4z, l4z, y4z, z4z⟩, st4z⟩ := Jvm.LawKit.callS X3z hx (y := own_m35) hown (own_mw hZ hw 100 rfl) (own_mw hZ hw 101 rfl) (own_mw hZ hw 10 rfl) (own_mw hZ hw 102 rfl) (by decide) (backOf (W := 0) (own_ctM l Z a0 hw [] a1 b1 k1 v1 d1 cs1 a2 b2 k2 v2 d2 cs2 cz fm h0 O0 q0 q1 q2 q3 hr1 h31 q6 q7 q8 q9 hr2 h32 hc1 hc2 S_CS hcs S_FM hfm S_AD S_HI S_LO) hZ (own_hw hw 102 rfl) (own_hw hw 10 rfl) (by decide) (by decide)) (g := (mkF m 38 #[.val (.ref a1), .val (.ref a2), .unset, .unset] [(.ref a2), (.ref a1)])) rfl (by rw [hml]; rfl) (argsL := [(.ref a1), (.ref a2)]) (rest := []) (lenOf pd_2648918175 rfl) rfl (by show 2 * 0 + _ ≤ _; exact Nat.le_of_eq rfl) (hb hby d_prog_124_method_2_code_38) (fun _ _ => ⟨rfl, e3z, (by decide : 0 + 0 ≤ _), (by decide : 0 + 0 ≤ _)⟩)
  dsimp only [Pt.U, Pt.locs, Pt.cells, Pt.slots] at X4z l4z y4z z4z st4z hQ4z
  subst l4z y4z z4z
  obtain ⟨rfl, NQ4z, K4zq⟩ := hQ4z
  refine own_go st4z ?_
  have N4z := Fr.app N0 NQ4z
  show own_G p e below (T4z.setTop (mkF m 41 #[.val (.ref a1), .val (.ref a2), .unset, .unset] [(.int (own_ct cs1 cs2))])) _
  refine own_go (fun t k => XS.istoreN X4z.here hx rfl (hb hby d_prog_124_method_2_code_41) rfl (l' := #[.val (.ref a1), .val (.ref a2), .val (.int (own_ct cs1 cs2)), .unset]) rfl k) ?_
  refine own_go (fun t k => XS.iloadN X4z.here hx rfl (hb hby d_prog_124_method_2_code_42) rfl k) ?_
  exact own_ret X4z hx Bd.returns rfl (Or.inl ⟨rfl, Or.inl rfl, _, rfl⟩) (hb hby d_prog_124_method_2_code_43) hlk (Nat.le_of_ble_eq_true rfl) (Nat.le_of_ble_eq_true rfl) (by show Q_own_cmpS Z a1 b1 k1 v1 d1 cs1 a2 b2 k2 v2 d2 cs2 cz fm h0 _ T4z.heap _; rw [K4zq]; exact ⟨rfl, N4z, rfl⟩)
theorem ef_own_law (m : MethodId) (x0 : Int64) (x1 : Int64) (x2 : Int32) : entryFrame m #[(.long x0), (.long x1), (.int x2)] maxLocals = mkF m 0 #[.val (.long x0), .second, .val (.long x1), .second, .val (.int x2), .unset, .unset, .unset, .unset, .unset, .unset, .unset] [] := by first | (simp [entryFrame, mkF, argsToLocals, Value.category, maxLocals]; done) | rfl
theorem pf_own_law : plainFor x = true := plainFor_of_name (by simp [plainName, overriddenIn, x])
theorem pd_1099688089 : parseMethodDescriptor "(J)Ljava/lang/Long;" = some ⟨[.long], some (.object "java/lang/Long")⟩ := by decide +kernel
theorem pd_3139348127 : parseMethodDescriptor "(Ljava/lang/Object;Ljava/lang/Object;)I" = some ⟨[(.object "java/lang/Object"), (.object "java/lang/Object")], some .int⟩ := by decide +kernel
theorem pd_3167873889 : parseMethodDescriptor "(JIZ)[C" = some ⟨[.long, .int, .boolean], some (.array .char)⟩ := by decide +kernel
theorem pd_184933738 : parseMethodDescriptor "([C)V" = some ⟨[(.array .char)], none⟩ := by decide +kernel
theorem pd_1807846296 : parseMethodDescriptor "([C)[I" = some ⟨[(.array .char)], some (.array .int)⟩ := by decide +kernel
theorem pd_3833244711 : parseMethodDescriptor "([I[I)I" = some ⟨[(.array .int), (.array .int)], some .int⟩ := by decide +kernel
def Q_own_law (Z : State) (p0 : Int64) (p1 : Int64) (p2 : Int32) (ca : Addr) (cz : Int32) (fm : Value) (h0 : Heap) (v : Option Value) (h : Heap) (L : List Loc) : Prop := v = some (.int (1 : Int32)) ∧ Fr Z.heap.size L ∧ Keep h0 h []
set_option maxRecDepth 65536 in
set_option maxHeartbeats 40000000 in
theorem own_law (l : Launch) (Z : State) (a0 : Array Value) (hw : ∀ d ∈ tables_1, d.before a0 Z = true) (ws : List Jvm.Cond) (p0 : Int64) (p1 : Int64) (p2 : Int32) (ca : Addr) (cz : Int32) (fm : Value) (h0 : Heap) (O0 : Ext Z.heap h0) (S_C : Sta Z Z.heap "java/lang/Long$LongCache" "cache" "[Ljava/lang/Long;" (.ref ca)) (BX : ∃ (kc : ClassId) (vs : List Value), own_A Z Z.heap ca kc (.object "java/lang/Long") vs ∧ ∀ j : Nat, j < 256 → ∃ y, vs[j]? = some (.ref y) ∧ Exa Z Z.heap y "java/lang/Long" ∧ Fld Z Z.heap y "java/lang/Long" "value" "J" (.long (j.toInt32 - (128 : Int32)).toInt64)) (S_CS : Sta Z Z.heap own_s1 "COMPACT_STRINGS" "Z" (.int cz)) (hcs : ¬ (cz = (0 : Int32))) (S_FM : Sta Z Z.heap "jdk/internal/util/Preconditions" "SIOOBE_FORMATTER" "Ljava/util/function/BiFunction;" fm) (hfm : fm.isRef = true) (S_AD : Sta Z Z.heap own_s0 own_s4 "Z" (.int (1 : Int32))) (S_HI : Sta Z Z.heap own_s0 "HI_BYTE_SHIFT" "I" (.int (0 : Int32))) (S_LO : Sta Z Z.heap own_s0 "LO_BYTE_SHIFT" "I" (.int (8 : Int32))) :
    MetFree l x (head1 (Jvm.Cond.code x code maxLocals ret :: ws) room_1) (fun aa U => aa = #[(.long p0), (.long p1), (.int p2)] ∧ Z.Warmed39 U.vm ∧ U.heap = h0 ∧ CHv Z own_EL U.vm h0) (fun _ _ _ _ _ => True) (fun _ U o U' => ∃ v L, o = .returned v ∧ Q_own_law Z p0 p1 p2 ca cz fm h0 v U'.heap L ∧ CHr Z own_EL U.vm U.heap U'.vm U'.heap ∧ ReturnedEndW U o U' L room_1.cells room_1.slots) := by
  refine MetFree.of_bodySF pf_own_law hisR ?_
  intro p e s m args below meth c s₁ Bd hml0 hP hK
  obtain ⟨rfl, hZ, hh, CH0⟩ := hP
  have hx := Bd.exec
  have hby := Bd.bytes
  have hlk := BodyLoose.notSynchronized Bd
  have hml : c.maxLocals = 12 := hml0
  have hown : s.vm.findClass own_s2 = some m.cls := findClass_of_methodNamed Bd.named
  have hnm := (name_of_methodNamed Bd.named Bd.method).1
  have X0 : Stand p l e room_1 s m #[(.long p0), (.long p1), (.int p2)] below meth c s₁ [] 0 0 := Stand.of_body Bd
  have e0 : s₁.heap = h0 := by rw [← hh, Bd.state]; rfl
  have N0 := Fr.nil Z.heap.size
  have K0 : Keep h0 h0 [] := Keep.refl _ _
  have Si0 : s.Since s.vm h0.size := (State.WarmedH.refl s).since h0.size
  have Sn0 : h0.size ≤ h0.size := Nat.le_refl _
  have hZ : Z.Warmed39 (s.setVm s.vm).vm := hZ
  have hown : (s.setVm s.vm).vm.findClass own_s2 = some m.cls := hown
  have X0 := (show Stand _ _ _ _ (s.setVm s.vm) _ _ _ _ _ _ _ _ _ from X0)
  have CR0 : CHr Z own_EL s.vm h0 s.vm h0 := CHr.refl CH0
  refine own_startH (Q := Q_own_law Z p0 p1 p2 ca cz fm h0) (ef_own_law m (p0) (p1) (p2)) ?_
  show own_G p e below (s₁.setTop (mkF m 0 #[.val (.long p0), .second, .val (.long p1), .second, .val (.int p2), .unset, .unset, .unset, .unset, .unset, .unset, .unset] [])) _
  have go45 : ∀ (tx sm : Int32) (yy : Int64), own_G p e below (s₁.setTop (mkF m 45 #[.val (.long p0), .second, .val (.long p1), .second, .val (.int p2), .val (.int tx), .val (.int sm), .val (.long yy), .second, .unset, .unset, .unset] [])) (own_PH s below room_1.cells room_1.slots Z own_EL (Q_own_law Z p0 p1 p2 ca cz fm h0)) := by
    intro tx sm yy
    show own_G p e below (s₁.setTop (mkF m 45 #[.val (.long p0), .second, .val (.long p1), .second, .val (.int p2), .val (.int tx), .val (.int sm), .val (.long yy), .second, .unset, .unset, .unset] [])) _
    refine own_go (fun t k => XS.iload X0.here hx rfl (hb hby at_45) rfl k) ?_
    by_cases hc1z : tx = (0 : Int32)
    · refine own_go (fun t k => XS.ifNo X0.here hx rfl (hb hby at_47) rfl ((if0 _ _).trans (teq hc1z).2) k) ?_
      show own_G p e below (s₁.setTop (mkF m 50 #[.val (.long p0), .second, .val (.long p1), .second, .val (.int p2), .val (.int tx), .val (.int sm), .val (.long yy), .second, .unset, .unset, .unset] [])) _
      refine own_go (fun t k => XS.lloadN X0.here hx rfl (hb hby at_50) rfl k) ?_
      obtain ⟨_, _, ⟨T2z, L2z, k2z, n2z⟩, -, X2z, ⟨Lc2z, hQ2z, l2z, y2z, z2z⟩, st2z⟩ := Jvm.LawKit.callS X0 hx (y := own_m9) hown (own_mw hZ hw 0 rfl) (own_mw hZ hw 1 rfl) (own_mw hZ hw 2 rfl) (own_mw hZ hw 3 rfl) (by decide) (backOf (W := 0) (own_vo l Z a0 hw [] p0 ca h0 O0 S_C BX) hZ (own_hw hw 3 rfl) (own_hw hw 2 rfl) (by decide) (by decide)) (g := (mkF m 51 #[.val (.long p0), .second, .val (.long p1), .second, .val (.int p2), .val (.int tx), .val (.int sm), .val (.long yy), .second, .unset, .unset, .unset] [(.long p0)])) rfl (by rw [hml]; rfl) (argsL := [(.long p0)]) (rest := []) (lenOf pd_1099688089 rfl) rfl (by show 2 * 0 + _ ≤ _; exact Nat.le_of_eq rfl) (hb hby at_51) (fun _ _ => ⟨rfl, e0, (by decide : 0 + 1 ≤ _), (by decide : 0 + 1 ≤ _)⟩)
      dsimp only [Pt.U, Pt.locs, Pt.cells, Pt.slots] at X2z l2z y2z z2z st2z hQ2z
      subst l2z y2z z2z
      obtain ⟨r_2z, rfl, NQ2z, K2zq, r2z_0, r2z_1⟩ := hQ2z
      refine own_go st2z ?_
      have N2z := Fr.app N0 NQ2z
      have O3z := own_ext_keep O0 K2zq all0
      have K3z := K0.trans K2zq all0
      have Sn3z := Nat.le_trans Sn0 K2zq.1
      have CR3z := CR0.trans (CHr.keep K2zq all0 CR0.1)
      show own_G p e below (T2z.setTop (mkF m 54 #[.val (.long p0), .second, .val (.long p1), .second, .val (.int p2), .val (.int tx), .val (.int sm), .val (.long yy), .second, .unset, .unset, .unset] [(.ref r_2z)])) _
      refine own_go (fun t k => XS.lload X2z.here hx rfl (hb hby at_54) rfl k) ?_
      obtain ⟨_, _, ⟨T4z, L4z, k4z, n4z⟩, -, X4z, ⟨Lc4z, hQ4z, l4z, y4z, z4z⟩, st4z⟩ := Jvm.LawKit.callS X2z hx (y := own_m9) hown (own_mw hZ hw 0 rfl) (own_mw hZ hw 1 rfl) (own_mw hZ hw 2 rfl) (own_mw hZ hw 3 rfl) (by decide) (backOf (W := 1) (own_vo l Z a0 hw [] yy ca T2z.heap O3z S_C BX) hZ (own_hw hw 3 rfl) (own_hw hw 2 rfl) (by decide) (by decide)) (g := (mkF m 56 #[.val (.long p0), .second, .val (.long p1), .second, .val (.int p2), .val (.int tx), .val (.int sm), .val (.long yy), .second, .unset, .unset, .unset] [(.long yy), (.ref r_2z)])) rfl (by rw [hml]; rfl) (argsL := [(.long yy)]) (rest := [(.ref r_2z)]) (lenOf pd_1099688089 rfl) rfl (by show 2 * 0 + _ ≤ _; exact Nat.le_of_eq rfl) (hb hby at_56) (fun _ _ => ⟨rfl, rfl, (by decide : 1 + 1 ≤ _), (by decide : 1 + 1 ≤ _)⟩)
      dsimp only [Pt.U, Pt.locs, Pt.cells, Pt.slots] at X4z l4z y4z z4z st4z hQ4z
      subst l4z y4z z4z
      obtain ⟨r_4z, rfl, NQ4z, K4zq, r4z_0, r4z_1⟩ := hQ4z
      refine own_go st4z ?_
      have N4z := Fr.app N2z NQ4z
      have O5z := own_ext_keep O3z K4zq all0
      have K5z := K3z.trans K4zq all0
      have Sn5z := Nat.le_trans Sn3z K4zq.1
      have CR5z := CR3z.trans (CHr.keep K4zq all0 CR3z.1)
      show own_G p e below (T4z.setTop (mkF m 59 #[.val (.long p0), .second, .val (.long p1), .second, .val (.int p2), .val (.int tx), .val (.int sm), .val (.long yy), .second, .unset, .unset, .unset] [(.ref r_4z), (.ref r_2z)])) _
      obtain ⟨_, _, ⟨T6z, L6z, k6z, n6z⟩, -, X6z, ⟨Lc6z, hQ6z, l6z, y6z, z6z⟩, st6z⟩ := Jvm.LawKit.callS X4z hx (y := own_m11) hown (own_mw hZ hw 8 rfl) (own_mw hZ hw 9 rfl) (own_mw hZ hw 10 rfl) (own_mw hZ hw 11 rfl) (by decide) (backOf (W := 0) (own_cmpL l Z a0 hw [] r_2z r_4z p0 yy T4z.heap O5z (r2z_0.keep K4zq) r4z_0 (r2z_1.keep K4zq (by simp)) r4z_1) hZ (own_hw hw 11 rfl) (own_hw hw 10 rfl) (by decide) (by decide)) (g := (mkF m 59 #[.val (.long p0), .second, .val (.long p1), .second, .val (.int p2), .val (.int tx), .val (.int sm), .val (.long yy), .second, .unset, .unset, .unset] [(.ref r_4z), (.ref r_2z)])) rfl (by rw [hml]; rfl) (argsL := [(.ref r_2z), (.ref r_4z)]) (rest := []) (lenOf pd_3139348127 rfl) rfl (by show 2 * 0 + _ ≤ _; exact Nat.le_of_eq rfl) (hb hby at_59) (fun _ _ => ⟨rfl, rfl, (by decide : 2 + 0 ≤ _), (by decide : 2 + 0 ≤ _)⟩)
      dsimp only [Pt.U, Pt.locs, Pt.cells, Pt.slots] at X6z l6z y6z z6z st6z hQ6z
      subst l6z y6z z6z
      obtain ⟨rfl, NQ6z, K6zq⟩ := hQ6z
      refine own_go st6z ?_
      have N6z := Fr.app N4z NQ6z
      show own_G p e below (T6z.setTop (mkF m 62 #[.val (.long p0), .second, .val (.long p1), .second, .val (.int p2), .val (.int tx), .val (.int sm), .val (.long yy), .second, .unset, .unset, .unset] [(.int (own_lc p0 yy))])) _
      obtain ⟨_, _, ⟨T7z, L7z, k7z, n7z⟩, -, X7z, ⟨Lc7z, hQ7z, l7z, y7z, z7z⟩, st7z⟩ := Jvm.LawKit.callS X6z hx (y := own_m0) hown (own_mw hZ hw 24 rfl) (own_mw hZ hw 25 rfl) (own_mw hZ hw 26 rfl) (own_mw hZ hw 27 rfl) (by decide) (backOf (W := 0) (own_sgnM l Z a0 hw [] (own_lc p0 yy) T4z.heap O5z) hZ (own_hw hw 27 rfl) (own_hw hw 26 rfl) (by decide) (by decide)) (g := (mkF m 62 #[.val (.long p0), .second, .val (.long p1), .second, .val (.int p2), .val (.int tx), .val (.int sm), .val (.long yy), .second, .unset, .unset, .unset] [(.int (own_lc p0 yy))])) rfl (by rw [hml]; rfl) (argsL := [(.int (own_lc p0 yy))]) (rest := []) (lenOf pd_2087992008 rfl) rfl (by show 2 * 0 + _ ≤ _; exact Nat.le_of_eq rfl) (hb hby at_62) (fun _ _ => ⟨rfl, K6zq, (by decide : 2 + 0 ≤ _), (by decide : 2 + 0 ≤ _)⟩)
      dsimp only [Pt.U, Pt.locs, Pt.cells, Pt.slots] at X7z l7z y7z z7z st7z hQ7z
      subst l7z y7z z7z
      obtain ⟨rfl, NQ7z, K7zq⟩ := hQ7z
      refine own_go st7z ?_
      have N7z := Fr.app N6z NQ7z
      show own_G p e below (T7z.setTop (mkF m 65 #[.val (.long p0), .second, .val (.long p1), .second, .val (.int p2), .val (.int tx), .val (.int sm), .val (.long yy), .second, .unset, .unset, .unset] [(.int (own_sgn (own_lc p0 yy)))])) _
      refine own_go (fun t k => XS.istore X7z.here hx rfl (hb hby at_65) rfl (l' := #[.val (.long p0), .second, .val (.long p1), .second, .val (.int p2), .val (.int tx), .val (.int sm), .val (.long yy), .second, .val (.int (own_sgn (own_lc p0 yy))), .unset, .unset]) rfl k) ?_
      refine own_go (fun t k => XS.lloadN X7z.here hx rfl (hb hby at_67) rfl k) ?_
      refine own_go (fun t k => XS.lload X7z.here hx rfl (hb hby at_68) rfl k) ?_
      show own_G p e below (T7z.setTop (mkF m 70 #[.val (.long p0), .second, .val (.long p1), .second, .val (.int p2), .val (.int tx), .val (.int sm), .val (.long yy), .second, .val (.int (own_sgn (own_lc p0 yy))), .unset, .unset] [(.long yy), (.long p0)])) _
      refine own_go (fun t k => XS.lcmp X7z.here hx rfl (hb hby at_70) rfl k) ?_
      by_cases hc8z : p0 < yy
      · refine own_go (fun t k => XS.ifNo X7z.here hx rfl (hb hby at_71) rfl ((if0 _ _).trans (tlt ((lw_lt p0 yy).mpr hc8z)).2.1) k) ?_
        show own_G p e below (T7z.setTop (mkF m 74 #[.val (.long p0), .second, .val (.long p1), .second, .val (.int p2), .val (.int tx), .val (.int sm), .val (.long yy), .second, .val (.int (own_sgn (own_lc p0 yy))), .unset, .unset] [])) _
        refine own_go (fun t k => XS.iconst X7z.here hx rfl (hb hby at_74) k) ?_
        refine own_go (fun t k => XS.goto X7z.here hx rfl (pc0 := 75) (pc' := 90) rfl (hb hby at_75) (by decide) (by decide) k) ?_
        show own_G p e below (T7z.setTop (mkF m 90 #[.val (.long p0), .second, .val (.long p1), .second, .val (.int p2), .val (.int tx), .val (.int sm), .val (.long yy), .second, .val (.int (own_sgn (own_lc p0 yy))), .unset, .unset] [(.int (-1 : Int32))])) _
        refine own_go (fun t k => XS.istore X7z.here hx rfl (hb hby at_90) rfl (l' := #[.val (.long p0), .second, .val (.long p1), .second, .val (.int p2), .val (.int tx), .val (.int sm), .val (.long yy), .second, .val (.int (own_sgn (own_lc p0 yy))), .val (.int (-1 : Int32)), .unset]) rfl k) ?_
        refine own_go (fun t k => XS.iload X7z.here hx rfl (hb hby at_92) rfl k) ?_
        refine own_go (fun t k => XS.iload X7z.here hx rfl (hb hby at_94) rfl k) ?_
        show own_G p e below (T7z.setTop (mkF m 96 #[.val (.long p0), .second, .val (.long p1), .second, .val (.int p2), .val (.int tx), .val (.int sm), .val (.long yy), .second, .val (.int (own_sgn (own_lc p0 yy))), .val (.int (-1 : Int32)), .unset] [(.int (-1 : Int32)), (.int (own_sgn (own_lc p0 yy)))])) _
        refine own_go (fun t k => XS.icmpNo X7z.here hx rfl (hb hby at_96) rfl (teq (by unfold own_lc; rw [if_pos hc8z]; decide)).2 k) ?_
        show own_G p e below (T7z.setTop (mkF m 99 #[.val (.long p0), .second, .val (.long p1), .second, .val (.int p2), .val (.int tx), .val (.int sm), .val (.long yy), .second, .val (.int (own_sgn (own_lc p0 yy))), .val (.int (-1 : Int32)), .unset] [])) _
        refine own_go (fun t k => XS.iconst X7z.here hx rfl (hb hby at_99) k) ?_
        refine own_go (fun t k => XS.goto X7z.here hx rfl (pc0 := 100) (pc' := 104) rfl (hb hby at_100) (by decide) (by decide) k) ?_
        show own_G p e below (T7z.setTop (mkF m 104 #[.val (.long p0), .second, .val (.long p1), .second, .val (.int p2), .val (.int tx), .val (.int sm), .val (.long yy), .second, .val (.int (own_sgn (own_lc p0 yy))), .val (.int (-1 : Int32)), .unset] [(.int (1 : Int32))])) _
        exact own_retH X7z Si0 (by rw [K7zq]; exact Sn5z) hx Bd.returns rfl (Or.inl ⟨rfl, Or.inr (Or.inl rfl), _, rfl⟩) (hb hby at_104) hlk (Nat.le_of_ble_eq_true rfl) (Nat.le_of_ble_eq_true rfl) (by show Q_own_law Z p0 p1 p2 ca cz fm h0 _ T7z.heap _; rw [K7zq]; exact ⟨rfl, N7z, K5z⟩) (by rw [hh]; rw [K7zq]; exact CR5z.trans (CHv.at X7z hZ (own_EW hw) CR5z.1))
      · refine own_go (fun t k => XS.ifYes X7z.here hx rfl (pc0 := 71) (pc' := 78) rfl (hb hby at_71) rfl ((if0 _ _).trans (flt (fun q => hc8z ((lw_lt p0 yy).mp q))).2.1) (by decide) (by decide) k) ?_
        show own_G p e below (T7z.setTop (mkF m 78 #[.val (.long p0), .second, .val (.long p1), .second, .val (.int p2), .val (.int tx), .val (.int sm), .val (.long yy), .second, .val (.int (own_sgn (own_lc p0 yy))), .unset, .unset] [])) _
        refine own_go (fun t k => XS.lloadN X7z.here hx rfl (hb hby at_78) rfl k) ?_
        refine own_go (fun t k => XS.lload X7z.here hx rfl (hb hby at_79) rfl k) ?_
        refine own_go (fun t k => XS.lcmp X7z.here hx rfl (hb hby at_81) rfl k) ?_
        show own_G p e below (T7z.setTop (mkF m 82 #[.val (.long p0), .second, .val (.long p1), .second, .val (.int p2), .val (.int tx), .val (.int sm), .val (.long yy), .second, .val (.int (own_sgn (own_lc p0 yy))), .unset, .unset] [(.int (lcmpW p0 yy))])) _
        by_cases hc9z : p0 = yy
        · refine own_go (fun t k => XS.ifNo X7z.here hx rfl (hb hby at_82) rfl ((if0 _ _).trans (teq ((lw_eq p0 yy).mpr hc9z)).2) k) ?_
          show own_G p e below (T7z.setTop (mkF m 85 #[.val (.long p0), .second, .val (.long p1), .second, .val (.int p2), .val (.int tx), .val (.int sm), .val (.long yy), .second, .val (.int (own_sgn (own_lc p0 yy))), .unset, .unset] [])) _
          refine own_go (fun t k => XS.iconst X7z.here hx rfl (hb hby at_85) k) ?_
          refine own_go (fun t k => XS.goto X7z.here hx rfl (pc0 := 86) (pc' := 90) rfl (hb hby at_86) (by decide) (by decide) k) ?_
          show own_G p e below (T7z.setTop (mkF m 90 #[.val (.long p0), .second, .val (.long p1), .second, .val (.int p2), .val (.int tx), .val (.int sm), .val (.long yy), .second, .val (.int (own_sgn (own_lc p0 yy))), .unset, .unset] [(.int (0 : Int32))])) _
          refine own_go (fun t k => XS.istore X7z.here hx rfl (hb hby at_90) rfl (l' := #[.val (.long p0), .second, .val (.long p1), .second, .val (.int p2), .val (.int tx), .val (.int sm), .val (.long yy), .second, .val (.int (own_sgn (own_lc p0 yy))), .val (.int (0 : Int32)), .unset]) rfl k) ?_
          refine own_go (fun t k => XS.iload X7z.here hx rfl (hb hby at_92) rfl k) ?_
          refine own_go (fun t k => XS.iload X7z.here hx rfl (hb hby at_94) rfl k) ?_
          show own_G p e below (T7z.setTop (mkF m 96 #[.val (.long p0), .second, .val (.long p1), .second, .val (.int p2), .val (.int tx), .val (.int sm), .val (.long yy), .second, .val (.int (own_sgn (own_lc p0 yy))), .val (.int (0 : Int32)), .unset] [(.int (0 : Int32)), (.int (own_sgn (own_lc p0 yy)))])) _
          refine own_go (fun t k => XS.icmpNo X7z.here hx rfl (hb hby at_96) rfl (teq (by unfold own_lc; rw [if_neg hc8z, if_pos hc9z]; decide)).2 k) ?_
          show own_G p e below (T7z.setTop (mkF m 99 #[.val (.long p0), .second, .val (.long p1), .second, .val (.int p2), .val (.int tx), .val (.int sm), .val (.long yy), .second, .val (.int (own_sgn (own_lc p0 yy))), .val (.int (0 : Int32)), .unset] [])) _
          refine own_go (fun t k => XS.iconst X7z.here hx rfl (hb hby at_99) k) ?_
          refine own_go (fun t k => XS.goto X7z.here hx rfl (pc0 := 100) (pc' := 104) rfl (hb hby at_100) (by decide) (by decide) k) ?_
          show own_G p e below (T7z.setTop (mkF m 104 #[.val (.long p0), .second, .val (.long p1), .second, .val (.int p2), .val (.int tx), .val (.int sm), .val (.long yy), .second, .val (.int (own_sgn (own_lc p0 yy))), .val (.int (0 : Int32)), .unset] [(.int (1 : Int32))])) _
          exact own_retH X7z Si0 (by rw [K7zq]; exact Sn5z) hx Bd.returns rfl (Or.inl ⟨rfl, Or.inr (Or.inl rfl), _, rfl⟩) (hb hby at_104) hlk (Nat.le_of_ble_eq_true rfl) (Nat.le_of_ble_eq_true rfl) (by show Q_own_law Z p0 p1 p2 ca cz fm h0 _ T7z.heap _; rw [K7zq]; exact ⟨rfl, N7z, K5z⟩) (by rw [hh]; rw [K7zq]; exact CR5z.trans (CHv.at X7z hZ (own_EW hw) CR5z.1))
        · refine own_go (fun t k => XS.ifYes X7z.here hx rfl (pc0 := 82) (pc' := 89) rfl (hb hby at_82) rfl ((if0 _ _).trans (feq (fun q => hc9z ((lw_eq p0 yy).mp q))).2) (by decide) (by decide) k) ?_
          show own_G p e below (T7z.setTop (mkF m 89 #[.val (.long p0), .second, .val (.long p1), .second, .val (.int p2), .val (.int tx), .val (.int sm), .val (.long yy), .second, .val (.int (own_sgn (own_lc p0 yy))), .unset, .unset] [])) _
          refine own_go (fun t k => XS.iconst X7z.here hx rfl (hb hby at_89) k) ?_
          refine own_go (fun t k => XS.istore X7z.here hx rfl (hb hby at_90) rfl (l' := #[.val (.long p0), .second, .val (.long p1), .second, .val (.int p2), .val (.int tx), .val (.int sm), .val (.long yy), .second, .val (.int (own_sgn (own_lc p0 yy))), .val (.int (1 : Int32)), .unset]) rfl k) ?_
          refine own_go (fun t k => XS.iload X7z.here hx rfl (hb hby at_92) rfl k) ?_
          show own_G p e below (T7z.setTop (mkF m 94 #[.val (.long p0), .second, .val (.long p1), .second, .val (.int p2), .val (.int tx), .val (.int sm), .val (.long yy), .second, .val (.int (own_sgn (own_lc p0 yy))), .val (.int (1 : Int32)), .unset] [(.int (own_sgn (own_lc p0 yy)))])) _
          refine own_go (fun t k => XS.iload X7z.here hx rfl (hb hby at_94) rfl k) ?_
          refine own_go (fun t k => XS.icmpNo X7z.here hx rfl (hb hby at_96) rfl (teq (by unfold own_lc; rw [if_neg hc8z, if_neg hc9z]; decide)).2 k) ?_
          show own_G p e below (T7z.setTop (mkF m 99 #[.val (.long p0), .second, .val (.long p1), .second, .val (.int p2), .val (.int tx), .val (.int sm), .val (.long yy), .second, .val (.int (own_sgn (own_lc p0 yy))), .val (.int (1 : Int32)), .unset] [])) _
          refine own_go (fun t k => XS.iconst X7z.here hx rfl (hb hby at_99) k) ?_
          refine own_go (fun t k => XS.goto X7z.here hx rfl (pc0 := 100) (pc' := 104) rfl (hb hby at_100) (by decide) (by decide) k) ?_
          show own_G p e below (T7z.setTop (mkF m 104 #[.val (.long p0), .second, .val (.long p1), .second, .val (.int p2), .val (.int tx), .val (.int sm), .val (.long yy), .second, .val (.int (own_sgn (own_lc p0 yy))), .val (.int (1 : Int32)), .unset] [(.int (1 : Int32))])) _
          exact own_retH X7z Si0 (by rw [K7zq]; exact Sn5z) hx Bd.returns rfl (Or.inl ⟨rfl, Or.inr (Or.inl rfl), _, rfl⟩) (hb hby at_104) hlk (Nat.le_of_ble_eq_true rfl) (Nat.le_of_ble_eq_true rfl) (by show Q_own_law Z p0 p1 p2 ca cz fm h0 _ T7z.heap _; rw [K7zq]; exact ⟨rfl, N7z, K5z⟩) (by rw [hh]; rw [K7zq]; exact CR5z.trans (CHv.at X7z hZ (own_EW hw) CR5z.1))
    · refine own_go (fun t k => XS.ifYes X0.here hx rfl (pc0 := 47) (pc' := 105) rfl (hb hby at_47) rfl ((if0 _ _).trans (feq hc1z).2) (by decide) (by decide) k) ?_
      show own_G p e below (s₁.setTop (mkF m 105 #[.val (.long p0), .second, .val (.long p1), .second, .val (.int p2), .val (.int tx), .val (.int sm), .val (.long yy), .second, .unset, .unset, .unset] [])) _
      refine own_go (fun t k => XS.lloadN X0.here hx rfl (hb hby at_105) rfl k) ?_
      refine own_go (fun t k => XS.iload X0.here hx rfl (hb hby at_106) rfl k) ?_
      refine own_go (fun t k => XS.iconst X0.here hx rfl (hb hby at_108) k) ?_
      show own_G p e below (s₁.setTop (mkF m 109 #[.val (.long p0), .second, .val (.long p1), .second, .val (.int p2), .val (.int tx), .val (.int sm), .val (.long yy), .second, .unset, .unset, .unset] [(.int (3 : Int32)), (.int p2), (.long p0)])) _
      refine own_go (fun t k => XS.iand X0.here hx rfl (hb hby at_109) rfl k) ?_
      refine own_go (fun t k => XS.iload X0.here hx rfl (hb hby at_110) rfl k) ?_
      obtain ⟨_, _, ⟨T10z, L10z, k10z, n10z⟩, -, X10z, ⟨Lc10z, hQ10z, l10z, y10z, z10z⟩, st10z⟩ := Jvm.LawKit.callS X0 hx (y := own_m13) hown (own_mw hZ hw 42 rfl) (own_mw hZ hw 43 rfl) (own_mw hZ hw 26 rfl) (own_mw hZ hw 44 rfl) (by decide) (backOf (W := 0) (own_chars l Z a0 hw [] p0 (p2 &&& (3 : Int32)) sm h0 O0 (own_and3 _)) hZ (own_hw hw 44 rfl) (own_hw hw 26 rfl) (by decide) (by decide)) (g := (mkF m 112 #[.val (.long p0), .second, .val (.long p1), .second, .val (.int p2), .val (.int tx), .val (.int sm), .val (.long yy), .second, .unset, .unset, .unset] [(.int sm), (.int (p2 &&& (3 : Int32))), (.long p0)])) rfl (by rw [hml]; rfl) (argsL := [(.long p0), (.int (p2 &&& (3 : Int32))), (.int sm)]) (rest := []) (lenOf pd_3167873889 rfl) rfl (by show 2 * 0 + _ ≤ _; exact Nat.le_of_eq rfl) (hb hby at_112) (fun _ _ => ⟨rfl, e0, (by decide : 0 + 1 ≤ _), (by decide : 0 + 3 ≤ _)⟩)
      dsimp only [Pt.U, Pt.locs, Pt.cells, Pt.slots] at X10z l10z y10z z10z st10z hQ10z
      subst l10z y10z z10z
      obtain ⟨arr_10z, kk_10z, cs_10z, rfl, NQ10z, K10zq, r10z_0, r10z_1, r10z_2, r10z_3⟩ := hQ10z
      refine own_go st10z ?_
      have N10z := Fr.app N0 NQ10z
      have O11z := own_ext_keep O0 K10zq all0
      have K11z := K0.trans K10zq all0
      have Sn11z := Nat.le_trans Sn0 K10zq.1
      have CR11z := CR0.trans (CHr.keep K10zq all0 CR0.1)
      have lz_arr_10z : h0.size ≤ arr_10z := Nat.le_trans K0.1 r10z_1
      show own_G p e below (T10z.setTop (mkF m 115 #[.val (.long p0), .second, .val (.long p1), .second, .val (.int p2), .val (.int tx), .val (.int sm), .val (.long yy), .second, .unset, .unset, .unset] [(.ref arr_10z)])) _
      refine own_go (fun t k => XS.astore X10z.here hx rfl (hb hby at_115) rfl rfl (l' := #[.val (.long p0), .second, .val (.long p1), .second, .val (.int p2), .val (.int tx), .val (.int sm), .val (.long yy), .second, .val (.ref arr_10z), .unset, .unset]) rfl k) ?_
      refine own_go (fun t k => XS.lload X10z.here hx rfl (hb hby at_117) rfl k) ?_
      refine own_go (fun t k => XS.iload X10z.here hx rfl (hb hby at_119) rfl k) ?_
      show own_G p e below (T10z.setTop (mkF m 121 #[.val (.long p0), .second, .val (.long p1), .second, .val (.int p2), .val (.int tx), .val (.int sm), .val (.long yy), .second, .val (.ref arr_10z), .unset, .unset] [(.int p2), (.long yy)])) _
      refine own_go (fun t k => XS.iconst X10z.here hx rfl (hb hby at_121) k) ?_
      refine own_go (fun t k => XS.iushr X10z.here hx rfl (hb hby at_122) rfl k) ?_
      refine own_go (fun t k => XS.iconst X10z.here hx rfl (hb hby at_123) k) ?_
      show own_G p e below (T10z.setTop (mkF m 124 #[.val (.long p0), .second, .val (.long p1), .second, .val (.int p2), .val (.int tx), .val (.int sm), .val (.long yy), .second, .val (.ref arr_10z), .unset, .unset] [(.int (3 : Int32)), (.int ((p2).toUInt32 >>> ((2 : Int32) &&& 31).toUInt32).toInt32), (.long yy)])) _
      refine own_go (fun t k => XS.iand X10z.here hx rfl (hb hby at_124) rfl k) ?_
      refine own_go (fun t k => XS.iload X10z.here hx rfl (hb hby at_125) rfl k) ?_
      obtain ⟨_, _, ⟨T12z, L12z, k12z, n12z⟩, -, X12z, ⟨Lc12z, hQ12z, l12z, y12z, z12z⟩, st12z⟩ := Jvm.LawKit.callS X10z hx (y := own_m13) hown (own_mw hZ hw 42 rfl) (own_mw hZ hw 43 rfl) (own_mw hZ hw 26 rfl) (own_mw hZ hw 44 rfl) (by decide) (backOf (W := 0) (own_chars l Z a0 hw [] yy (((p2).toUInt32 >>> ((2 : Int32) &&& 31).toUInt32).toInt32 &&& (3 : Int32)) sm T10z.heap O11z (own_and3 _)) hZ (own_hw hw 44 rfl) (own_hw hw 26 rfl) (by decide) (by decide)) (g := (mkF m 127 #[.val (.long p0), .second, .val (.long p1), .second, .val (.int p2), .val (.int tx), .val (.int sm), .val (.long yy), .second, .val (.ref arr_10z), .unset, .unset] [(.int sm), (.int (((p2).toUInt32 >>> ((2 : Int32) &&& 31).toUInt32).toInt32 &&& (3 : Int32))), (.long yy)])) rfl (by rw [hml]; rfl) (argsL := [(.long yy), (.int (((p2).toUInt32 >>> ((2 : Int32) &&& 31).toUInt32).toInt32 &&& (3 : Int32))), (.int sm)]) (rest := []) (lenOf pd_3167873889 rfl) rfl (by show 2 * 0 + _ ≤ _; exact Nat.le_of_eq rfl) (hb hby at_127) (fun _ _ => ⟨rfl, rfl, (by decide : 1 + 1 ≤ _), (by decide : 3 + 3 ≤ _)⟩)
      dsimp only [Pt.U, Pt.locs, Pt.cells, Pt.slots] at X12z l12z y12z z12z st12z hQ12z
      subst l12z y12z z12z
      obtain ⟨arr_12z, kk_12z, cs_12z, rfl, NQ12z, K12zq, r12z_0, r12z_1, r12z_2, r12z_3⟩ := hQ12z
      refine own_go st12z ?_
      have N12z := Fr.app N10z NQ12z
      have O13z := own_ext_keep O11z K12zq all0
      have K13z := K11z.trans K12zq all0
      have Sn13z := Nat.le_trans Sn11z K12zq.1
      have CR13z := CR11z.trans (CHr.keep K12zq all0 CR11z.1)
      have lz_arr_12z : h0.size ≤ arr_12z := Nat.le_trans K11z.1 r12z_1
      have ne_arr_10z_arr_12z : arr_10z ≠ arr_12z := Nat.ne_of_lt (Nat.lt_of_lt_of_le r10z_0.lt r12z_1)
      show own_G p e below (T12z.setTop (mkF m 130 #[.val (.long p0), .second, .val (.long p1), .second, .val (.int p2), .val (.int tx), .val (.int sm), .val (.long yy), .second, .val (.ref arr_10z), .unset, .unset] [(.ref arr_12z)])) _
      refine own_go (fun t k => XS.astore X12z.here hx rfl (hb hby at_130) rfl rfl (l' := #[.val (.long p0), .second, .val (.long p1), .second, .val (.int p2), .val (.int tx), .val (.int sm), .val (.long yy), .second, .val (.ref arr_10z), .val (.ref arr_12z), .unset]) rfl k) ?_
      obtain ⟨T14z, h14z, X14z, e14z, E14z, A14z, D14z, -, st14z⟩ := newO X12z hx hZ hown (own_hw hw 51 rfl) (own_hw hw 52 rfl) (own_hw hw 53 rfl) rfl (g := (mkF m 132 #[.val (.long p0), .second, .val (.long p1), .second, .val (.int p2), .val (.int tx), .val (.int sm), .val (.long yy), .second, .val (.ref arr_10z), .val (.ref arr_12z), .unset] [])) rfl (hb hby at_132) (by decide) (by decide)
      obtain ⟨b14z, g14z⟩ : ∃ z, z = T12z.heap.size := ⟨_, rfl⟩
      rw [← g14z] at A14z D14z st14z
      have fr_b14z : Z.heap.size ≤ b14z := g14z ▸ O13z.1
      have lz_b14z : h0.size ≤ b14z := g14z ▸ K13z.1
      have ne_arr_10z_b14z : arr_10z ≠ b14z := Nat.ne_of_lt (g14z ▸ (r10z_0.keep K12zq (by simp)).lt)
      have ne_arr_12z_b14z : arr_12z ≠ b14z := Nat.ne_of_lt (g14z ▸ r12z_0.lt)
      have O15z := own_ext_trans O13z E14z
      have K15z := K13z.ext E14z
      have Sn15z := Nat.le_trans Sn13z E14z.1
      have CR15z := CR13z.trans (CHr.ext E14z CR13z.1)
      have F14z_coder : Fld Z h14z b14z own_s1 "coder" "B" (.int (0 : Int32)) := D14z (Or.inr (own_hw hw 94 rfl)) (ty := .byte) (by decide)
      have F14z_value : Fld Z h14z b14z own_s1 "value" "[B" .null := D14z (Or.inr (own_hw hw 96 rfl)) (ty := (.array .byte)) (by decide)
      refine own_go st14z ?_
      refine own_go (fun t k => XS.dup X14z.here hx rfl (hb hby at_135) rfl rfl k) ?_
      show own_G p e below (T14z.setTop (mkF m 136 #[.val (.long p0), .second, .val (.long p1), .second, .val (.int p2), .val (.int tx), .val (.int sm), .val (.long yy), .second, .val (.ref arr_10z), .val (.ref arr_12z), .unset] [(.ref b14z), (.ref b14z)])) _
      refine own_go (fun t k => XS.aload X14z.here hx rfl (hb hby at_136) rfl rfl k) ?_
      obtain ⟨_, _, ⟨T16z, L16z, k16z, n16z⟩, -, X16z, Si16z, gr16z, ⟨Lc16z, hQ16z, l16z, y16z, z16z, CQ16z⟩, st16z⟩ := X14z.specialBackS hx (y := own_m26) rfl hown (own_mw hZ hw 54 rfl) (own_mw hZ hw 55 rfl) (own_mw hZ hw 56 rfl) (by decide) (backOfSH (W := 1) (own_si1 l Z a0 hw [] b14z arr_10z kk_10z cs_10z cz h14z O15z A14z fr_b14z F14z_value F14z_coder ((r10z_0.keep K12zq (by simp)).ext E14z) r10z_3 r10z_2 ne_arr_10z_b14z S_CS hcs S_AD S_HI S_LO) hZ (own_hw hw 56 rfl) (own_hw hw 53 rfl) (by decide) (by decide) (own_EW hw) CR15z.1) (g := (mkF m 138 #[.val (.long p0), .second, .val (.long p1), .second, .val (.int p2), .val (.int tx), .val (.int sm), .val (.long yy), .second, .val (.ref arr_10z), .val (.ref arr_12z), .unset] [(.ref arr_10z), (.ref b14z), (.ref b14z)])) rfl (by rw [hml]; rfl) (Steps.refl _) (a := b14z) (argsL := [(.ref arr_10z)]) (rest := [(.ref b14z)]) (lenOf pd_184933738 rfl) rfl (by show 2 * 0 + _ ≤ _; exact Nat.le_of_eq rfl) (hb hby at_138) (fun _ _ => ⟨rfl, e14z, (by decide : 3 + 4 ≤ _), (by decide : 10 + 20 ≤ _)⟩)
      dsimp only [Pt.U, Pt.locs, Pt.cells, Pt.slots] at X16z l16z y16z z16z st16z hQ16z Si16z gr16z CQ16z
      subst l16z y16z z16z
      obtain ⟨b_16z, kb_16z, vs_16z, cd_16z, rfl, NQ16z, K16zq, r16z_0, r16z_1, r16z_2, r16z_3⟩ := hQ16z
      refine own_tr st16z ?_
      have N16z := Fr.app N12z NQ16z
      have Sx16z : s.Since T16z.vm T16z.heap.size := foldS Si0 (by first | exact Sn15z | (rw [e14z]; exact Sn15z)) Si16z gr16z
      have hZ16z : Z.Warmed39 (s.setVm T16z.vm).vm := State.Warmed39.trans (t := s.setVm s.vm) hZ Si16z.1
      have hown16z : (s.setVm T16z.vm).vm.findClass own_s2 = some m.cls := by rw [show (s.setVm T16z.vm).vm = T16z.vm from rfl, Si16z.1.alike.findClass]; exact hown
      have X16z := (show Stand _ _ _ _ (s.setVm T16z.vm) _ _ _ _ _ _ _ _ _ from X16z)
      have Sn16z : T16z.heap.size ≤ T16z.heap.size := Nat.le_refl _
      have O17z := own_ext_keep O15z K16zq (allS fr_b14z all0)
      have K17z := K15z.trans K16zq (allS (Or.inr lz_b14z) all0)
      have CR17z := CR15z.trans CQ16z
      show own_G p e below (T16z.setTop (mkF m 141 #[.val (.long p0), .second, .val (.long p1), .second, .val (.int p2), .val (.int tx), .val (.int sm), .val (.long yy), .second, .val (.ref arr_10z), .val (.ref arr_12z), .unset] [(.ref b14z)])) _
      obtain ⟨T18z, h18z, X18z, e18z, E18z, A18z, D18z, -, st18z⟩ := newO X16z hx hZ16z hown16z (own_hw hw 51 rfl) (own_hw hw 52 rfl) (own_hw hw 53 rfl) rfl (g := (mkF m 141 #[.val (.long p0), .second, .val (.long p1), .second, .val (.int p2), .val (.int tx), .val (.int sm), .val (.long yy), .second, .val (.ref arr_10z), .val (.ref arr_12z), .unset] [(.ref b14z)])) rfl (hb hby at_141) (by decide) (by decide)
      obtain ⟨b18z, g18z⟩ : ∃ z, z = T16z.heap.size := ⟨_, rfl⟩
      rw [← g18z] at A18z D18z st18z
      have fr_b18z : Z.heap.size ≤ b18z := g18z ▸ O17z.1
      have lz_b18z : h0.size ≤ b18z := g18z ▸ K17z.1
      have f19z := (((r10z_0.keep K12zq (by simp)).ext E14z).keep K16zq (by simp only [List.mem_cons, List.not_mem_nil, or_false, not_or]; exact ne_arr_10z_b14z))
      have ne_arr_10z_b18z : arr_10z ≠ b18z := Nat.ne_of_lt (g18z ▸ f19z.lt)
      have f20z := ((r12z_0.ext E14z).keep K16zq (by simp only [List.mem_cons, List.not_mem_nil, or_false, not_or]; exact ne_arr_12z_b14z))
      have ne_arr_12z_b18z : arr_12z ≠ b18z := Nat.ne_of_lt (g18z ▸ f20z.lt)
      have ne_b14z_b18z : b14z ≠ b18z := Nat.ne_of_lt (g18z ▸ (A14z.keep K16zq).lt)
      have ne_b_16z_b18z : b_16z ≠ b18z := Nat.ne_of_lt (g18z ▸ r16z_2.lt)
      have O21z := own_ext_trans O17z E18z
      have K21z := K17z.ext E18z
      have Sn21z := Nat.le_trans Sn16z E18z.1
      have CR21z := CR17z.trans (CHr.ext E18z CR17z.1)
      have F18z_coder : Fld Z h18z b18z own_s1 "coder" "B" (.int (0 : Int32)) := D18z (Or.inr (own_hw hw 94 rfl)) (ty := .byte) (by decide)
      have F18z_value : Fld Z h18z b18z own_s1 "value" "[B" .null := D18z (Or.inr (own_hw hw 96 rfl)) (ty := (.array .byte)) (by decide)
      refine own_go st18z ?_
      refine own_go (fun t k => XS.dup X18z.here hx rfl (hb hby at_144) rfl rfl k) ?_
      refine own_go (fun t k => XS.aload X18z.here hx rfl (hb hby at_145) rfl rfl k) ?_
      show own_G p e below (T18z.setTop (mkF m 147 #[.val (.long p0), .second, .val (.long p1), .second, .val (.int p2), .val (.int tx), .val (.int sm), .val (.long yy), .second, .val (.ref arr_10z), .val (.ref arr_12z), .unset] [(.ref arr_12z), (.ref b18z), (.ref b18z), (.ref b14z)])) _
      obtain ⟨_, _, ⟨T22z, L22z, k22z, n22z⟩, -, X22z, Si22z, gr22z, ⟨Lc22z, hQ22z, l22z, y22z, z22z, CQ22z⟩, st22z⟩ := X18z.specialBackS hx (y := own_m26) rfl hown16z (own_mw hZ16z hw 54 rfl) (own_mw hZ16z hw 55 rfl) (own_mw hZ16z hw 56 rfl) (by decide) (backOfSH (W := 2) (own_si1 l Z a0 hw [] b18z arr_12z kk_12z cs_12z cz h18z O21z A18z fr_b18z F18z_value F18z_coder (f20z.ext E18z) r12z_3 r12z_2 ne_arr_12z_b18z S_CS hcs S_AD S_HI S_LO) hZ16z (own_hw hw 56 rfl) (own_hw hw 53 rfl) (by decide) (by decide) (own_EW hw) CR21z.1) (g := (mkF m 147 #[.val (.long p0), .second, .val (.long p1), .second, .val (.int p2), .val (.int tx), .val (.int sm), .val (.long yy), .second, .val (.ref arr_10z), .val (.ref arr_12z), .unset] [(.ref arr_12z), (.ref b18z), (.ref b18z), (.ref b14z)])) rfl (by rw [hml]; rfl) (Steps.refl _) (a := b18z) (argsL := [(.ref arr_12z)]) (rest := [(.ref b18z), (.ref b14z)]) (lenOf pd_184933738 rfl) rfl (by show 2 * 0 + _ ≤ _; exact Nat.le_of_eq rfl) (hb hby at_147) (fun _ _ => ⟨rfl, e18z, (by decide : 8 + 4 ≤ _), (by decide : 34 + 20 ≤ _)⟩)
      dsimp only [Pt.U, Pt.locs, Pt.cells, Pt.slots] at X22z l22z y22z z22z st22z hQ22z Si22z gr22z CQ22z
      subst l22z y22z z22z
      obtain ⟨b_22z, kb_22z, vs_22z, cd_22z, rfl, NQ22z, K22zq, r22z_0, r22z_1, r22z_2, r22z_3⟩ := hQ22z
      refine own_tr st22z ?_
      have N22z := Fr.app N16z NQ22z
      have Sx22z : s.Since T22z.vm T22z.heap.size := foldS Sx16z (by first | exact Sn21z | (rw [e18z]; exact Sn21z)) Si22z gr22z
      have hZ22z : Z.Warmed39 (s.setVm T22z.vm).vm := State.Warmed39.trans (t := s.setVm T16z.vm) hZ16z Si22z.1
      have hown22z : (s.setVm T22z.vm).vm.findClass own_s2 = some m.cls := by rw [show (s.setVm T22z.vm).vm = T22z.vm from rfl, Si22z.1.alike.findClass]; exact hown16z
      have X22z := (show Stand _ _ _ _ (s.setVm T22z.vm) _ _ _ _ _ _ _ _ _ from X22z)
      have Sn22z : T22z.heap.size ≤ T22z.heap.size := Nat.le_refl _
      have O23z := own_ext_keep O21z K22zq (allS fr_b18z all0)
      have K23z := K21z.trans K22zq (allS (Or.inr lz_b18z) all0)
      have CR23z := CR21z.trans CQ22z
      show own_G p e below (T22z.setTop (mkF m 150 #[.val (.long p0), .second, .val (.long p1), .second, .val (.int p2), .val (.int tx), .val (.int sm), .val (.long yy), .second, .val (.ref arr_10z), .val (.ref arr_12z), .unset] [(.ref b18z), (.ref b14z)])) _
      have f24z := ((r16z_0.ext E18z).keep K22zq (by simp only [List.mem_cons, List.not_mem_nil, or_false, not_or]; exact ne_b14z_b18z))
      have f25z := ((r16z_1.ext E18z).keep K22zq (by simp only [List.mem_cons, List.not_mem_nil, or_false, not_or]; exact ne_b14z_b18z))
      have f26z := ((r16z_2.ext E18z).keep K22zq (by simp only [List.mem_cons, List.not_mem_nil, or_false, not_or]; exact ne_b_16z_b18z))
      obtain ⟨_, _, ⟨T27z, L27z, k27z, n27z⟩, -, X27z, ⟨Lc27z, hQ27z, l27z, y27z, z27z⟩, st27z⟩ := Jvm.LawKit.callS X22z hx (y := own_m11) hown22z (own_mw hZ22z hw 8 rfl) (own_mw hZ22z hw 9 rfl) (own_mw hZ22z hw 10 rfl) (own_mw hZ22z hw 11 rfl) (by decide) (backOf (W := 0) (own_cmpS l Z a0 hw [] b14z b_16z kb_16z vs_16z cd_16z cs_10z b18z b_22z kb_22z vs_22z cd_22z cs_12z cz fm T22z.heap O23z (((A14z.keep K16zq).ext E18z).keep K22zq) f24z f25z f26z r16z_3 r10z_3 (A18z.keep K22zq) r22z_0 r22z_1 r22z_2 r22z_3 r12z_3 r10z_2 r12z_2 S_CS hcs S_FM hfm S_AD S_HI S_LO) hZ22z (own_hw hw 11 rfl) (own_hw hw 10 rfl) (by decide) (by decide)) (g := (mkF m 150 #[.val (.long p0), .second, .val (.long p1), .second, .val (.int p2), .val (.int tx), .val (.int sm), .val (.long yy), .second, .val (.ref arr_10z), .val (.ref arr_12z), .unset] [(.ref b18z), (.ref b14z)])) rfl (by rw [hml]; rfl) (argsL := [(.ref b14z), (.ref b18z)]) (rest := []) (lenOf pd_3139348127 rfl) rfl (by show 2 * 0 + _ ≤ _; exact Nat.le_of_eq rfl) (hb hby at_150) (fun _ _ => ⟨rfl, rfl, (by decide : 12 + 0 ≤ _), (by decide : 54 + 0 ≤ _)⟩)
      dsimp only [Pt.U, Pt.locs, Pt.cells, Pt.slots] at X27z l27z y27z z27z st27z hQ27z
      subst l27z y27z z27z
      obtain ⟨rfl, NQ27z, K27zq⟩ := hQ27z
      refine own_go st27z ?_
      have N27z := Fr.app N22z NQ27z
      show own_G p e below (T27z.setTop (mkF m 153 #[.val (.long p0), .second, .val (.long p1), .second, .val (.int p2), .val (.int tx), .val (.int sm), .val (.long yy), .second, .val (.ref arr_10z), .val (.ref arr_12z), .unset] [(.int (own_ct cs_10z cs_12z))])) _
      obtain ⟨_, _, ⟨T28z, L28z, k28z, n28z⟩, -, X28z, ⟨Lc28z, hQ28z, l28z, y28z, z28z⟩, st28z⟩ := Jvm.LawKit.callS X27z hx (y := own_m0) hown22z (own_mw hZ22z hw 24 rfl) (own_mw hZ22z hw 25 rfl) (own_mw hZ22z hw 26 rfl) (own_mw hZ22z hw 27 rfl) (by decide) (backOf (W := 0) (own_sgnM l Z a0 hw [] (own_ct cs_10z cs_12z) T22z.heap O23z) hZ22z (own_hw hw 27 rfl) (own_hw hw 26 rfl) (by decide) (by decide)) (g := (mkF m 153 #[.val (.long p0), .second, .val (.long p1), .second, .val (.int p2), .val (.int tx), .val (.int sm), .val (.long yy), .second, .val (.ref arr_10z), .val (.ref arr_12z), .unset] [(.int (own_ct cs_10z cs_12z))])) rfl (by rw [hml]; rfl) (argsL := [(.int (own_ct cs_10z cs_12z))]) (rest := []) (lenOf pd_2087992008 rfl) rfl (by show 2 * 0 + _ ≤ _; exact Nat.le_of_eq rfl) (hb hby at_153) (fun _ _ => ⟨rfl, K27zq, (by decide : 12 + 0 ≤ _), (by decide : 54 + 0 ≤ _)⟩)
      dsimp only [Pt.U, Pt.locs, Pt.cells, Pt.slots] at X28z l28z y28z z28z st28z hQ28z
      subst l28z y28z z28z
      obtain ⟨rfl, NQ28z, K28zq⟩ := hQ28z
      refine own_go st28z ?_
      have N28z := Fr.app N27z NQ28z
      show own_G p e below (T28z.setTop (mkF m 156 #[.val (.long p0), .second, .val (.long p1), .second, .val (.int p2), .val (.int tx), .val (.int sm), .val (.long yy), .second, .val (.ref arr_10z), .val (.ref arr_12z), .unset] [(.int (own_sgn (own_ct cs_10z cs_12z)))])) _
      refine own_go (fun t k => XS.istore X28z.here hx rfl (hb hby at_156) rfl (l' := #[.val (.long p0), .second, .val (.long p1), .second, .val (.int p2), .val (.int tx), .val (.int sm), .val (.long yy), .second, .val (.ref arr_10z), .val (.ref arr_12z), .val (.int (own_sgn (own_ct cs_10z cs_12z)))]) rfl k) ?_
      refine own_go (fun t k => XS.iload X28z.here hx rfl (hb hby at_158) rfl k) ?_
      refine own_go (fun t k => XS.aload X28z.here hx rfl (hb hby at_160) rfl rfl k) ?_
      show own_G p e below (T28z.setTop (mkF m 162 #[.val (.long p0), .second, .val (.long p1), .second, .val (.int p2), .val (.int tx), .val (.int sm), .val (.long yy), .second, .val (.ref arr_10z), .val (.ref arr_12z), .val (.int (own_sgn (own_ct cs_10z cs_12z)))] [(.ref arr_10z), (.int (own_sgn (own_ct cs_10z cs_12z)))])) _
      have f29z := ((f19z.ext E18z).keep K22zq (by simp only [List.mem_cons, List.not_mem_nil, or_false, not_or]; exact ne_arr_10z_b18z))
      have f30z := ((f20z.ext E18z).keep K22zq (by simp only [List.mem_cons, List.not_mem_nil, or_false, not_or]; exact ne_arr_12z_b18z))
      obtain ⟨_, _, ⟨T31z, L31z, k31z, n31z⟩, -, X31z, ⟨Lc31z, hQ31z, l31z, y31z, z31z⟩, st31z⟩ := Jvm.LawKit.callS X28z hx (y := own_m15) hown22z (own_mw hZ22z hw 151 rfl) (own_mw hZ22z hw 152 rfl) (own_mw hZ22z hw 26 rfl) (own_mw hZ22z hw 153 rfl) (by decide) (backOf (W := 1) (own_decode l Z a0 hw [] arr_10z kk_10z cs_10z T22z.heap O23z f29z r10z_2 r10z_3) hZ22z (own_hw hw 153 rfl) (own_hw hw 26 rfl) (by decide) (by decide)) (g := (mkF m 162 #[.val (.long p0), .second, .val (.long p1), .second, .val (.int p2), .val (.int tx), .val (.int sm), .val (.long yy), .second, .val (.ref arr_10z), .val (.ref arr_12z), .val (.int (own_sgn (own_ct cs_10z cs_12z)))] [(.ref arr_10z), (.int (own_sgn (own_ct cs_10z cs_12z)))])) rfl (by rw [hml]; rfl) (argsL := [(.ref arr_10z)]) (rest := [(.int (own_sgn (own_ct cs_10z cs_12z)))]) (lenOf pd_1807846296 rfl) rfl (by show 2 * 0 + _ ≤ _; exact Nat.le_of_eq rfl) (hb hby at_162) (fun _ _ => ⟨rfl, K28zq, (by decide : 12 + 1 ≤ _), (by decide : 54 + 4 ≤ _)⟩)
      dsimp only [Pt.U, Pt.locs, Pt.cells, Pt.slots] at X31z l31z y31z z31z st31z hQ31z
      subst l31z y31z z31z
      obtain ⟨r_31z, kr_31z, p0_31z, p1_31z, p2_31z, cn_31z, rfl, NQ31z, K31zq, r31z_0, r31z_1, r31z_2⟩ := hQ31z
      refine own_go st31z ?_
      have N31z := Fr.app N28z NQ31z
      have O32z := own_ext_keep O23z K31zq all0
      have K32z := K23z.trans K31zq all0
      have Sn32z := Nat.le_trans Sn22z K31zq.1
      have CR32z := CR23z.trans (CHr.keep K31zq all0 CR23z.1)
      have lz_r_31z : h0.size ≤ r_31z := Nat.le_trans K23z.1 r31z_1
      have ne_arr_10z_r_31z : arr_10z ≠ r_31z := Nat.ne_of_lt (Nat.lt_of_lt_of_le f29z.lt r31z_1)
      have ne_arr_12z_r_31z : arr_12z ≠ r_31z := Nat.ne_of_lt (Nat.lt_of_lt_of_le f30z.lt r31z_1)
      have ne_b14z_r_31z : b14z ≠ r_31z := Nat.ne_of_lt (Nat.lt_of_lt_of_le (((A14z.keep K16zq).ext E18z).keep K22zq).lt r31z_1)
      have ne_b_16z_r_31z : b_16z ≠ r_31z := Nat.ne_of_lt (Nat.lt_of_lt_of_le f26z.lt r31z_1)
      have ne_b18z_r_31z : b18z ≠ r_31z := Nat.ne_of_lt (Nat.lt_of_lt_of_le (A18z.keep K22zq).lt r31z_1)
      have ne_b_22z_r_31z : b_22z ≠ r_31z := Nat.ne_of_lt (Nat.lt_of_lt_of_le r22z_2.lt r31z_1)
      show own_G p e below (T31z.setTop (mkF m 165 #[.val (.long p0), .second, .val (.long p1), .second, .val (.int p2), .val (.int tx), .val (.int sm), .val (.long yy), .second, .val (.ref arr_10z), .val (.ref arr_12z), .val (.int (own_sgn (own_ct cs_10z cs_12z)))] [(.ref r_31z), (.int (own_sgn (own_ct cs_10z cs_12z)))])) _
      refine own_go (fun t k => XS.aload X31z.here hx rfl (hb hby at_165) rfl rfl k) ?_
      obtain ⟨_, _, ⟨T33z, L33z, k33z, n33z⟩, -, X33z, ⟨Lc33z, hQ33z, l33z, y33z, z33z⟩, st33z⟩ := Jvm.LawKit.callS X31z hx (y := own_m15) hown22z (own_mw hZ22z hw 151 rfl) (own_mw hZ22z hw 152 rfl) (own_mw hZ22z hw 26 rfl) (own_mw hZ22z hw 153 rfl) (by decide) (backOf (W := 2) (own_decode l Z a0 hw [] arr_12z kk_12z cs_12z T31z.heap O32z (f30z.keep K31zq (by simp)) r12z_2 r12z_3) hZ22z (own_hw hw 153 rfl) (own_hw hw 26 rfl) (by decide) (by decide)) (g := (mkF m 167 #[.val (.long p0), .second, .val (.long p1), .second, .val (.int p2), .val (.int tx), .val (.int sm), .val (.long yy), .second, .val (.ref arr_10z), .val (.ref arr_12z), .val (.int (own_sgn (own_ct cs_10z cs_12z)))] [(.ref arr_12z), (.ref r_31z), (.int (own_sgn (own_ct cs_10z cs_12z)))])) rfl (by rw [hml]; rfl) (argsL := [(.ref arr_12z)]) (rest := [(.ref r_31z), (.int (own_sgn (own_ct cs_10z cs_12z)))]) (lenOf pd_1807846296 rfl) rfl (by show 2 * 0 + _ ≤ _; exact Nat.le_of_eq rfl) (hb hby at_167) (fun _ _ => ⟨rfl, rfl, (by decide : 13 + 1 ≤ _), (by decide : 58 + 4 ≤ _)⟩)
      dsimp only [Pt.U, Pt.locs, Pt.cells, Pt.slots] at X33z l33z y33z z33z st33z hQ33z
      subst l33z y33z z33z
      obtain ⟨r_33z, kr_33z, p0_33z, p1_33z, p2_33z, cn_33z, rfl, NQ33z, K33zq, r33z_0, r33z_1, r33z_2⟩ := hQ33z
      refine own_go st33z ?_
      have N33z := Fr.app N31z NQ33z
      have O34z := own_ext_keep O32z K33zq all0
      have K34z := K32z.trans K33zq all0
      have Sn34z := Nat.le_trans Sn32z K33zq.1
      have CR34z := CR32z.trans (CHr.keep K33zq all0 CR32z.1)
      have lz_r_33z : h0.size ≤ r_33z := Nat.le_trans K32z.1 r33z_1
      have ne_arr_10z_r_33z : arr_10z ≠ r_33z := Nat.ne_of_lt (Nat.lt_of_lt_of_le (f29z.keep K31zq (by simp)).lt r33z_1)
      have ne_arr_12z_r_33z : arr_12z ≠ r_33z := Nat.ne_of_lt (Nat.lt_of_lt_of_le (f30z.keep K31zq (by simp)).lt r33z_1)
      have ne_b14z_r_33z : b14z ≠ r_33z := Nat.ne_of_lt (Nat.lt_of_lt_of_le ((((A14z.keep K16zq).ext E18z).keep K22zq).keep K31zq).lt r33z_1)
      have ne_b_16z_r_33z : b_16z ≠ r_33z := Nat.ne_of_lt (Nat.lt_of_lt_of_le (f26z.keep K31zq (by simp)).lt r33z_1)
      have ne_b18z_r_33z : b18z ≠ r_33z := Nat.ne_of_lt (Nat.lt_of_lt_of_le ((A18z.keep K22zq).keep K31zq).lt r33z_1)
      have ne_b_22z_r_33z : b_22z ≠ r_33z := Nat.ne_of_lt (Nat.lt_of_lt_of_le (r22z_2.keep K31zq (by simp)).lt r33z_1)
      have ne_r_31z_r_33z : r_31z ≠ r_33z := Nat.ne_of_lt (Nat.lt_of_lt_of_le r31z_0.lt r33z_1)
      show own_G p e below (T33z.setTop (mkF m 170 #[.val (.long p0), .second, .val (.long p1), .second, .val (.int p2), .val (.int tx), .val (.int sm), .val (.long yy), .second, .val (.ref arr_10z), .val (.ref arr_12z), .val (.int (own_sgn (own_ct cs_10z cs_12z)))] [(.ref r_33z), (.ref r_31z), (.int (own_sgn (own_ct cs_10z cs_12z)))])) _
      obtain ⟨_, _, ⟨T35z, L35z, k35z, n35z⟩, -, X35z, ⟨Lc35z, hQ35z, l35z, y35z, z35z⟩, st35z⟩ := Jvm.LawKit.callS X33z hx (y := own_m16) hown22z (own_mw hZ22z hw 161 rfl) (own_mw hZ22z hw 162 rfl) (own_mw hZ22z hw 26 rfl) (own_mw hZ22z hw 163 rfl) (by decide) (backOf (W := 1) (own_lexM l Z a0 hw [] r_31z kr_31z p0_31z p1_31z p2_31z cn_31z r_33z kr_33z p0_33z p1_33z p2_33z cn_33z T33z.heap O34z (r31z_0.keep K33zq (by simp)) r33z_0) hZ22z (own_hw hw 163 rfl) (own_hw hw 26 rfl) (by decide) (by decide)) (g := (mkF m 170 #[.val (.long p0), .second, .val (.long p1), .second, .val (.int p2), .val (.int tx), .val (.int sm), .val (.long yy), .second, .val (.ref arr_10z), .val (.ref arr_12z), .val (.int (own_sgn (own_ct cs_10z cs_12z)))] [(.ref r_33z), (.ref r_31z), (.int (own_sgn (own_ct cs_10z cs_12z)))])) rfl (by rw [hml]; rfl) (argsL := [(.ref r_31z), (.ref r_33z)]) (rest := [(.int (own_sgn (own_ct cs_10z cs_12z)))]) (lenOf pd_3833244711 rfl) rfl (by show 2 * 0 + _ ≤ _; exact Nat.le_of_eq rfl) (hb hby at_170) (fun _ _ => ⟨rfl, rfl, (by decide : 14 + 0 ≤ _), (by decide : 62 + 0 ≤ _)⟩)
      dsimp only [Pt.U, Pt.locs, Pt.cells, Pt.slots] at X35z l35z y35z z35z st35z hQ35z
      subst l35z y35z z35z
      obtain ⟨rfl, NQ35z, K35zq⟩ := hQ35z
      refine own_go st35z ?_
      have N35z := Fr.app N33z NQ35z
      show own_G p e below (T35z.setTop (mkF m 173 #[.val (.long p0), .second, .val (.long p1), .second, .val (.int p2), .val (.int tx), .val (.int sm), .val (.long yy), .second, .val (.ref arr_10z), .val (.ref arr_12z), .val (.int (own_sgn (own_ct cs_10z cs_12z)))] [(.int (own_lexF p0_31z p1_31z p2_31z cn_31z p0_33z p1_33z p2_33z cn_33z)), (.int (own_sgn (own_ct cs_10z cs_12z)))])) _
      refine own_go (fun t k => XS.icmpNo X35z.here hx rfl (hb hby at_173) rfl (teq (own_main r10z_2 r12z_2 r10z_3 r12z_3 r31z_2 r33z_2)).2 k) ?_
      show own_G p e below (T35z.setTop (mkF m 176 #[.val (.long p0), .second, .val (.long p1), .second, .val (.int p2), .val (.int tx), .val (.int sm), .val (.long yy), .second, .val (.ref arr_10z), .val (.ref arr_12z), .val (.int (own_sgn (own_ct cs_10z cs_12z)))] [])) _
      refine own_go (fun t k => XS.iconst X35z.here hx rfl (hb hby at_176) k) ?_
      refine own_go (fun t k => XS.goto X35z.here hx rfl (pc0 := 177) (pc' := 181) rfl (hb hby at_177) (by decide) (by decide) k) ?_
      show own_G p e below (T35z.setTop (mkF m 181 #[.val (.long p0), .second, .val (.long p1), .second, .val (.int p2), .val (.int tx), .val (.int sm), .val (.long yy), .second, .val (.ref arr_10z), .val (.ref arr_12z), .val (.int (own_sgn (own_ct cs_10z cs_12z)))] [(.int (1 : Int32))])) _
      exact own_retH X35z Sx22z (by rw [K35zq]; exact Sn34z) hx Bd.returns rfl (Or.inl ⟨rfl, Or.inr (Or.inl rfl), _, rfl⟩) (hb hby at_181) hlk (Nat.le_of_ble_eq_true rfl) (Nat.le_of_ble_eq_true rfl) (by show Q_own_law Z p0 p1 p2 ca cz fm h0 _ T35z.heap _; rw [K35zq]; exact ⟨rfl, N35z, K34z⟩) (by rw [hh]; rw [K35zq]; exact CR34z.trans (CHv.at X35z hZ22z (own_EW hw) CR34z.1))
  refine own_go (fun t k => XS.iload X0.here hx rfl (hb hby at_0) rfl k) ?_
  refine own_go (fun t k => XS.bipush X0.here hx rfl (hb hby at_2) k) ?_
  refine own_go (fun t k => XS.iand X0.here hx rfl (hb hby at_4) rfl k) ?_
  show own_G p e below (s₁.setTop (mkF m 5 #[.val (.long p0), .second, .val (.long p1), .second, .val (.int p2), .unset, .unset, .unset, .unset, .unset, .unset, .unset] [(.int (p2 &&& (16 : Int32)))])) _
  by_cases hc36z : (p2 &&& (16 : Int32)) = (0 : Int32)
  · refine own_go (fun t k => XS.ifYes X0.here hx rfl (pc0 := 5) (pc' := 12) rfl (hb hby at_5) rfl ((if0 _ _).trans (teq hc36z).1) (by decide) (by decide) k) ?_
    show own_G p e below (s₁.setTop (mkF m 12 #[.val (.long p0), .second, .val (.long p1), .second, .val (.int p2), .unset, .unset, .unset, .unset, .unset, .unset, .unset] [])) _
    refine own_go (fun t k => XS.iconst X0.here hx rfl (hb hby at_12) k) ?_
    refine own_go (fun t k => XS.istore X0.here hx rfl (hb hby at_13) rfl (l' := #[.val (.long p0), .second, .val (.long p1), .second, .val (.int p2), .val (.int (0 : Int32)), .unset, .unset, .unset, .unset, .unset, .unset]) rfl k) ?_
    refine own_go (fun t k => XS.iload X0.here hx rfl (hb hby at_15) rfl k) ?_
    show own_G p e below (s₁.setTop (mkF m 17 #[.val (.long p0), .second, .val (.long p1), .second, .val (.int p2), .val (.int (0 : Int32)), .unset, .unset, .unset, .unset, .unset, .unset] [(.int p2)])) _
    refine own_go (fun t k => XS.bipush X0.here hx rfl (hb hby at_17) k) ?_
    refine own_go (fun t k => XS.iand X0.here hx rfl (hb hby at_19) rfl k) ?_
    by_cases hc37z : (p2 &&& (32 : Int32)) = (0 : Int32)
    · refine own_go (fun t k => XS.ifYes X0.here hx rfl (pc0 := 20) (pc' := 27) rfl (hb hby at_20) rfl ((if0 _ _).trans (teq hc37z).1) (by decide) (by decide) k) ?_
      show own_G p e below (s₁.setTop (mkF m 27 #[.val (.long p0), .second, .val (.long p1), .second, .val (.int p2), .val (.int (0 : Int32)), .unset, .unset, .unset, .unset, .unset, .unset] [])) _
      refine own_go (fun t k => XS.iconst X0.here hx rfl (hb hby at_27) k) ?_
      refine own_go (fun t k => XS.istore X0.here hx rfl (hb hby at_28) rfl (l' := #[.val (.long p0), .second, .val (.long p1), .second, .val (.int p2), .val (.int (0 : Int32)), .val (.int (0 : Int32)), .unset, .unset, .unset, .unset, .unset]) rfl k) ?_
      refine own_go (fun t k => XS.iload X0.here hx rfl (hb hby at_30) rfl k) ?_
      show own_G p e below (s₁.setTop (mkF m 32 #[.val (.long p0), .second, .val (.long p1), .second, .val (.int p2), .val (.int (0 : Int32)), .val (.int (0 : Int32)), .unset, .unset, .unset, .unset, .unset] [(.int p2)])) _
      refine own_go (fun t k => XS.bipush X0.here hx rfl (hb hby at_32) k) ?_
      refine own_go (fun t k => XS.iand X0.here hx rfl (hb hby at_34) rfl k) ?_
      by_cases hc38z : (p2 &&& (64 : Int32)) = (0 : Int32)
      · refine own_go (fun t k => XS.ifYes X0.here hx rfl (pc0 := 35) (pc' := 42) rfl (hb hby at_35) rfl ((if0 _ _).trans (teq hc38z).1) (by decide) (by decide) k) ?_
        show own_G p e below (s₁.setTop (mkF m 42 #[.val (.long p0), .second, .val (.long p1), .second, .val (.int p2), .val (.int (0 : Int32)), .val (.int (0 : Int32)), .unset, .unset, .unset, .unset, .unset] [])) _
        refine own_go (fun t k => XS.lloadN X0.here hx rfl (hb hby at_42) rfl k) ?_
        refine own_go (fun t k => XS.lstore X0.here hx rfl (hb hby at_43) rfl (l' := #[.val (.long p0), .second, .val (.long p1), .second, .val (.int p2), .val (.int (0 : Int32)), .val (.int (0 : Int32)), .val (.long p1), .second, .unset, .unset, .unset]) rfl k) ?_
        exact go45 (0 : Int32) (0 : Int32) p1
      · refine own_go (fun t k => XS.ifNo X0.here hx rfl (hb hby at_35) rfl ((if0 _ _).trans (feq hc38z).1) k) ?_
        show own_G p e below (s₁.setTop (mkF m 38 #[.val (.long p0), .second, .val (.long p1), .second, .val (.int p2), .val (.int (0 : Int32)), .val (.int (0 : Int32)), .unset, .unset, .unset, .unset, .unset] [])) _
        refine own_go (fun t k => XS.lloadN X0.here hx rfl (hb hby at_38) rfl k) ?_
        refine own_go (fun t k => XS.goto X0.here hx rfl (pc0 := 39) (pc' := 43) rfl (hb hby at_39) (by decide) (by decide) k) ?_
        show own_G p e below (s₁.setTop (mkF m 43 #[.val (.long p0), .second, .val (.long p1), .second, .val (.int p2), .val (.int (0 : Int32)), .val (.int (0 : Int32)), .unset, .unset, .unset, .unset, .unset] [(.long p0)])) _
        refine own_go (fun t k => XS.lstore X0.here hx rfl (hb hby at_43) rfl (l' := #[.val (.long p0), .second, .val (.long p1), .second, .val (.int p2), .val (.int (0 : Int32)), .val (.int (0 : Int32)), .val (.long p0), .second, .unset, .unset, .unset]) rfl k) ?_
        exact go45 (0 : Int32) (0 : Int32) p0
    · refine own_go (fun t k => XS.ifNo X0.here hx rfl (hb hby at_20) rfl ((if0 _ _).trans (feq hc37z).1) k) ?_
      show own_G p e below (s₁.setTop (mkF m 23 #[.val (.long p0), .second, .val (.long p1), .second, .val (.int p2), .val (.int (0 : Int32)), .unset, .unset, .unset, .unset, .unset, .unset] [])) _
      refine own_go (fun t k => XS.iconst X0.here hx rfl (hb hby at_23) k) ?_
      refine own_go (fun t k => XS.goto X0.here hx rfl (pc0 := 24) (pc' := 28) rfl (hb hby at_24) (by decide) (by decide) k) ?_
      show own_G p e below (s₁.setTop (mkF m 28 #[.val (.long p0), .second, .val (.long p1), .second, .val (.int p2), .val (.int (0 : Int32)), .unset, .unset, .unset, .unset, .unset, .unset] [(.int (1 : Int32))])) _
      refine own_go (fun t k => XS.istore X0.here hx rfl (hb hby at_28) rfl (l' := #[.val (.long p0), .second, .val (.long p1), .second, .val (.int p2), .val (.int (0 : Int32)), .val (.int (1 : Int32)), .unset, .unset, .unset, .unset, .unset]) rfl k) ?_
      refine own_go (fun t k => XS.iload X0.here hx rfl (hb hby at_30) rfl k) ?_
      refine own_go (fun t k => XS.bipush X0.here hx rfl (hb hby at_32) k) ?_
      show own_G p e below (s₁.setTop (mkF m 34 #[.val (.long p0), .second, .val (.long p1), .second, .val (.int p2), .val (.int (0 : Int32)), .val (.int (1 : Int32)), .unset, .unset, .unset, .unset, .unset] [(.int (64 : Int32)), (.int p2)])) _
      refine own_go (fun t k => XS.iand X0.here hx rfl (hb hby at_34) rfl k) ?_
      by_cases hc39z : (p2 &&& (64 : Int32)) = (0 : Int32)
      · refine own_go (fun t k => XS.ifYes X0.here hx rfl (pc0 := 35) (pc' := 42) rfl (hb hby at_35) rfl ((if0 _ _).trans (teq hc39z).1) (by decide) (by decide) k) ?_
        show own_G p e below (s₁.setTop (mkF m 42 #[.val (.long p0), .second, .val (.long p1), .second, .val (.int p2), .val (.int (0 : Int32)), .val (.int (1 : Int32)), .unset, .unset, .unset, .unset, .unset] [])) _
        refine own_go (fun t k => XS.lloadN X0.here hx rfl (hb hby at_42) rfl k) ?_
        refine own_go (fun t k => XS.lstore X0.here hx rfl (hb hby at_43) rfl (l' := #[.val (.long p0), .second, .val (.long p1), .second, .val (.int p2), .val (.int (0 : Int32)), .val (.int (1 : Int32)), .val (.long p1), .second, .unset, .unset, .unset]) rfl k) ?_
        exact go45 (0 : Int32) (1 : Int32) p1
      · refine own_go (fun t k => XS.ifNo X0.here hx rfl (hb hby at_35) rfl ((if0 _ _).trans (feq hc39z).1) k) ?_
        show own_G p e below (s₁.setTop (mkF m 38 #[.val (.long p0), .second, .val (.long p1), .second, .val (.int p2), .val (.int (0 : Int32)), .val (.int (1 : Int32)), .unset, .unset, .unset, .unset, .unset] [])) _
        refine own_go (fun t k => XS.lloadN X0.here hx rfl (hb hby at_38) rfl k) ?_
        refine own_go (fun t k => XS.goto X0.here hx rfl (pc0 := 39) (pc' := 43) rfl (hb hby at_39) (by decide) (by decide) k) ?_
        show own_G p e below (s₁.setTop (mkF m 43 #[.val (.long p0), .second, .val (.long p1), .second, .val (.int p2), .val (.int (0 : Int32)), .val (.int (1 : Int32)), .unset, .unset, .unset, .unset, .unset] [(.long p0)])) _
        refine own_go (fun t k => XS.lstore X0.here hx rfl (hb hby at_43) rfl (l' := #[.val (.long p0), .second, .val (.long p1), .second, .val (.int p2), .val (.int (0 : Int32)), .val (.int (1 : Int32)), .val (.long p0), .second, .unset, .unset, .unset]) rfl k) ?_
        exact go45 (0 : Int32) (1 : Int32) p0
  · refine own_go (fun t k => XS.ifNo X0.here hx rfl (hb hby at_5) rfl ((if0 _ _).trans (feq hc36z).1) k) ?_
    show own_G p e below (s₁.setTop (mkF m 8 #[.val (.long p0), .second, .val (.long p1), .second, .val (.int p2), .unset, .unset, .unset, .unset, .unset, .unset, .unset] [])) _
    refine own_go (fun t k => XS.iconst X0.here hx rfl (hb hby at_8) k) ?_
    refine own_go (fun t k => XS.goto X0.here hx rfl (pc0 := 9) (pc' := 13) rfl (hb hby at_9) (by decide) (by decide) k) ?_
    show own_G p e below (s₁.setTop (mkF m 13 #[.val (.long p0), .second, .val (.long p1), .second, .val (.int p2), .unset, .unset, .unset, .unset, .unset, .unset, .unset] [(.int (1 : Int32))])) _
    refine own_go (fun t k => XS.istore X0.here hx rfl (hb hby at_13) rfl (l' := #[.val (.long p0), .second, .val (.long p1), .second, .val (.int p2), .val (.int (1 : Int32)), .unset, .unset, .unset, .unset, .unset, .unset]) rfl k) ?_
    refine own_go (fun t k => XS.iload X0.here hx rfl (hb hby at_15) rfl k) ?_
    refine own_go (fun t k => XS.bipush X0.here hx rfl (hb hby at_17) k) ?_
    show own_G p e below (s₁.setTop (mkF m 19 #[.val (.long p0), .second, .val (.long p1), .second, .val (.int p2), .val (.int (1 : Int32)), .unset, .unset, .unset, .unset, .unset, .unset] [(.int (32 : Int32)), (.int p2)])) _
    refine own_go (fun t k => XS.iand X0.here hx rfl (hb hby at_19) rfl k) ?_
    by_cases hc40z : (p2 &&& (32 : Int32)) = (0 : Int32)
    · refine own_go (fun t k => XS.ifYes X0.here hx rfl (pc0 := 20) (pc' := 27) rfl (hb hby at_20) rfl ((if0 _ _).trans (teq hc40z).1) (by decide) (by decide) k) ?_
      show own_G p e below (s₁.setTop (mkF m 27 #[.val (.long p0), .second, .val (.long p1), .second, .val (.int p2), .val (.int (1 : Int32)), .unset, .unset, .unset, .unset, .unset, .unset] [])) _
      refine own_go (fun t k => XS.iconst X0.here hx rfl (hb hby at_27) k) ?_
      refine own_go (fun t k => XS.istore X0.here hx rfl (hb hby at_28) rfl (l' := #[.val (.long p0), .second, .val (.long p1), .second, .val (.int p2), .val (.int (1 : Int32)), .val (.int (0 : Int32)), .unset, .unset, .unset, .unset, .unset]) rfl k) ?_
      refine own_go (fun t k => XS.iload X0.here hx rfl (hb hby at_30) rfl k) ?_
      show own_G p e below (s₁.setTop (mkF m 32 #[.val (.long p0), .second, .val (.long p1), .second, .val (.int p2), .val (.int (1 : Int32)), .val (.int (0 : Int32)), .unset, .unset, .unset, .unset, .unset] [(.int p2)])) _
      refine own_go (fun t k => XS.bipush X0.here hx rfl (hb hby at_32) k) ?_
      refine own_go (fun t k => XS.iand X0.here hx rfl (hb hby at_34) rfl k) ?_
      by_cases hc41z : (p2 &&& (64 : Int32)) = (0 : Int32)
      · refine own_go (fun t k => XS.ifYes X0.here hx rfl (pc0 := 35) (pc' := 42) rfl (hb hby at_35) rfl ((if0 _ _).trans (teq hc41z).1) (by decide) (by decide) k) ?_
        show own_G p e below (s₁.setTop (mkF m 42 #[.val (.long p0), .second, .val (.long p1), .second, .val (.int p2), .val (.int (1 : Int32)), .val (.int (0 : Int32)), .unset, .unset, .unset, .unset, .unset] [])) _
        refine own_go (fun t k => XS.lloadN X0.here hx rfl (hb hby at_42) rfl k) ?_
        refine own_go (fun t k => XS.lstore X0.here hx rfl (hb hby at_43) rfl (l' := #[.val (.long p0), .second, .val (.long p1), .second, .val (.int p2), .val (.int (1 : Int32)), .val (.int (0 : Int32)), .val (.long p1), .second, .unset, .unset, .unset]) rfl k) ?_
        exact go45 (1 : Int32) (0 : Int32) p1
      · refine own_go (fun t k => XS.ifNo X0.here hx rfl (hb hby at_35) rfl ((if0 _ _).trans (feq hc41z).1) k) ?_
        show own_G p e below (s₁.setTop (mkF m 38 #[.val (.long p0), .second, .val (.long p1), .second, .val (.int p2), .val (.int (1 : Int32)), .val (.int (0 : Int32)), .unset, .unset, .unset, .unset, .unset] [])) _
        refine own_go (fun t k => XS.lloadN X0.here hx rfl (hb hby at_38) rfl k) ?_
        refine own_go (fun t k => XS.goto X0.here hx rfl (pc0 := 39) (pc' := 43) rfl (hb hby at_39) (by decide) (by decide) k) ?_
        show own_G p e below (s₁.setTop (mkF m 43 #[.val (.long p0), .second, .val (.long p1), .second, .val (.int p2), .val (.int (1 : Int32)), .val (.int (0 : Int32)), .unset, .unset, .unset, .unset, .unset] [(.long p0)])) _
        refine own_go (fun t k => XS.lstore X0.here hx rfl (hb hby at_43) rfl (l' := #[.val (.long p0), .second, .val (.long p1), .second, .val (.int p2), .val (.int (1 : Int32)), .val (.int (0 : Int32)), .val (.long p0), .second, .unset, .unset, .unset]) rfl k) ?_
        exact go45 (1 : Int32) (0 : Int32) p0
    · refine own_go (fun t k => XS.ifNo X0.here hx rfl (hb hby at_20) rfl ((if0 _ _).trans (feq hc40z).1) k) ?_
      show own_G p e below (s₁.setTop (mkF m 23 #[.val (.long p0), .second, .val (.long p1), .second, .val (.int p2), .val (.int (1 : Int32)), .unset, .unset, .unset, .unset, .unset, .unset] [])) _
      refine own_go (fun t k => XS.iconst X0.here hx rfl (hb hby at_23) k) ?_
      refine own_go (fun t k => XS.goto X0.here hx rfl (pc0 := 24) (pc' := 28) rfl (hb hby at_24) (by decide) (by decide) k) ?_
      show own_G p e below (s₁.setTop (mkF m 28 #[.val (.long p0), .second, .val (.long p1), .second, .val (.int p2), .val (.int (1 : Int32)), .unset, .unset, .unset, .unset, .unset, .unset] [(.int (1 : Int32))])) _
      refine own_go (fun t k => XS.istore X0.here hx rfl (hb hby at_28) rfl (l' := #[.val (.long p0), .second, .val (.long p1), .second, .val (.int p2), .val (.int (1 : Int32)), .val (.int (1 : Int32)), .unset, .unset, .unset, .unset, .unset]) rfl k) ?_
      refine own_go (fun t k => XS.iload X0.here hx rfl (hb hby at_30) rfl k) ?_
      refine own_go (fun t k => XS.bipush X0.here hx rfl (hb hby at_32) k) ?_
      show own_G p e below (s₁.setTop (mkF m 34 #[.val (.long p0), .second, .val (.long p1), .second, .val (.int p2), .val (.int (1 : Int32)), .val (.int (1 : Int32)), .unset, .unset, .unset, .unset, .unset] [(.int (64 : Int32)), (.int p2)])) _
      refine own_go (fun t k => XS.iand X0.here hx rfl (hb hby at_34) rfl k) ?_
      by_cases hc42z : (p2 &&& (64 : Int32)) = (0 : Int32)
      · refine own_go (fun t k => XS.ifYes X0.here hx rfl (pc0 := 35) (pc' := 42) rfl (hb hby at_35) rfl ((if0 _ _).trans (teq hc42z).1) (by decide) (by decide) k) ?_
        show own_G p e below (s₁.setTop (mkF m 42 #[.val (.long p0), .second, .val (.long p1), .second, .val (.int p2), .val (.int (1 : Int32)), .val (.int (1 : Int32)), .unset, .unset, .unset, .unset, .unset] [])) _
        refine own_go (fun t k => XS.lloadN X0.here hx rfl (hb hby at_42) rfl k) ?_
        refine own_go (fun t k => XS.lstore X0.here hx rfl (hb hby at_43) rfl (l' := #[.val (.long p0), .second, .val (.long p1), .second, .val (.int p2), .val (.int (1 : Int32)), .val (.int (1 : Int32)), .val (.long p1), .second, .unset, .unset, .unset]) rfl k) ?_
        exact go45 (1 : Int32) (1 : Int32) p1
      · refine own_go (fun t k => XS.ifNo X0.here hx rfl (hb hby at_35) rfl ((if0 _ _).trans (feq hc42z).1) k) ?_
        show own_G p e below (s₁.setTop (mkF m 38 #[.val (.long p0), .second, .val (.long p1), .second, .val (.int p2), .val (.int (1 : Int32)), .val (.int (1 : Int32)), .unset, .unset, .unset, .unset, .unset] [])) _
        refine own_go (fun t k => XS.lloadN X0.here hx rfl (hb hby at_38) rfl k) ?_
        refine own_go (fun t k => XS.goto X0.here hx rfl (pc0 := 39) (pc' := 43) rfl (hb hby at_39) (by decide) (by decide) k) ?_
        show own_G p e below (s₁.setTop (mkF m 43 #[.val (.long p0), .second, .val (.long p1), .second, .val (.int p2), .val (.int (1 : Int32)), .val (.int (1 : Int32)), .unset, .unset, .unset, .unset, .unset] [(.long p0)])) _
        refine own_go (fun t k => XS.lstore X0.here hx rfl (hb hby at_43) rfl (l' := #[.val (.long p0), .second, .val (.long p1), .second, .val (.int p2), .val (.int (1 : Int32)), .val (.int (1 : Int32)), .val (.long p0), .second, .unset, .unset, .unset]) rfl k) ?_
        exact go45 (1 : Int32) (1 : Int32) p0
set_option maxRecDepth 65536 in
set_option maxHeartbeats 40000000 in
theorem comes_1 {Post : Tables → Env → Array Value → State → Outcome → State → Prop} (hpost : ∀ tb e args s v u, (limb_1_1.after args s (.returned v) u = true ∧ limb_1_2.after args s (.returned v) u = true ∧ True) → ReturnedEndW s (.returned v) u (Jvm.fieldLocs frame_1_writes args s ++ Jvm.arrayLocs frame_1_arrays args s ++ Jvm.staticLocs frame_1_statics s) 32 1216 → Post tb e args s (.returned v) u) :
    ArmFor flags0 classFile x code maxLocals ret World_1 tables_1 room_1 Calls_1 rest_1 Pre_1 Post := by
  intro l hfl _ _ p e ha hc hk s m args below hf hA hF happ hP
  obtain ⟨hcalls, hrest, hpre⟩ := hP
  obtain ⟨-, -, -, hnamed, -, -, -, hat⟩ := (Spec.applies_iff hf).mp happ
  obtain ⟨hg, hn⟩ := and_e (Cond.before_iff.mp (show (Jvm.Cond.and given_1 narrow_1).before args s = true from hpre))
  obtain ⟨hg0, hg1⟩ := and_e hg
  obtain ⟨hy0, hz0⟩ := and_e hg1
  obtain ⟨hy1, hz1⟩ := and_e hz0
  obtain ⟨w0, w1, w2, rfl⟩ : ∃ w0 w1 w2 : Value, args = #[w0, w1, w2] := by
    have hs : args.size = 3 := by simpa [Cond.value, given_1] using hg0
    obtain ⟨L⟩ := args
    match L, hs with
    | [w0, w1, w2], _ => exact ⟨w0, w1, w2, rfl⟩
  have hw := fun d (hd : d ∈ tables_1) => atoms_spec (ws := Jvm.Cond.code x code maxLocals ret :: tables_1) hat d (List.mem_cons_of_mem _ hd)
  have hfit : Fit s := fun {y c} hc i hi => by
    obtain ⟨ha, rfl⟩ := Array.getElem?_eq_some_iff.mp hc
    have q := List.all_eq_true.mp ((Array.all_eq_true_iff_forall_mem.mp hF) _ (Array.getElem_mem ha)) i (List.mem_range.mpr hi)
    simpa [Array.getElem?_eq_getElem hi] using q
  obtain ⟨i0, ea0⟩ := isL_v hy0
  obtain rfl : w0 = (.long i0) := Option.some.inj ea0
  obtain ⟨i1, ea1⟩ := isL_v hy1
  obtain rfl : w1 = (.long i1) := Option.some.inj ea1
  obtain ⟨i2, ea2⟩ := is_v hz1
  obtain rfl : w2 = (.int i2) := Option.some.inj ea2
  obtain ⟨hsets, hown0⟩ := atoms_of _ (rest_1_c_eq ▸ (show rest_1_c.before _ s = true from hrest))
  have hS := fun d (hd : d ∈ jdkStatics_1) => hsets d hd
  obtain ⟨ca, evC⟩ := arr_v (Cond.before_iff.mp (own_hw hS 2 rfl))
  have S_C : Sta s s.heap "java/lang/Long$LongCache" "cache" "[Ljava/lang/Long;" (.ref ca) := Sta.start evC (Or.inl (own_hw hS 1 rfl))
  obtain ⟨cC, AC, VC, qC, zC, zC'⟩ := own_A.start hfit evC (Cond.before_iff.mp (own_hw hS 2 rfl)) (Cond.before_iff.mp (own_hw hS 4 rfl))
  have BX0 := Bxs.start (val := fun j => .long (j - 128).toInt64) (fun _ => evC) AC qC zC (by decide) (Cond.before_iff.mp (own_hw hS 5 rfl)) (fun X j nn h => eqv_l (i2l_at (by simp [Term.eval, idx_at nn, (back32 nn).1])) h)
  have e256 : (256 : Int32).toInt = 256 := by decide
  have BX : ∃ (kc : ClassId) (vs : List Value), own_A s s.heap ca kc (.object "java/lang/Long") vs ∧ ∀ j : Nat, j < 256 → ∃ y, vs[j]? = some (.ref y) ∧ Exa s s.heap y "java/lang/Long" ∧ Fld s s.heap y "java/lang/Long" "value" "J" (.long (j.toInt32 - (128 : Int32)).toInt64) := ⟨_, _, VC, fun j hj => by
    have q1 : j < cC.slots.size := by omega
    obtain ⟨b, h1, h2, h3⟩ := BX0.2.2.2 j.toInt32 (idx_in q1 qC)
    have e7 : j.toInt32.toNatClampNeg = j := by
      show j.toInt32.toInt.toNat = j
      rw [len_toInt (Nat.lt_trans q1 qC)]; rfl
    rw [e7] at h1
    exact ⟨b, by simpa using h1, h2, h3⟩⟩
  obtain ⟨cz, evS⟩ := is_v (Cond.before_iff.mp (own_hw hS 7 rfl))
  have S_CS : Sta s s.heap "java/lang/String" "COMPACT_STRINGS" "Z" (.int cz) := Sta.start evS (Or.inl (own_hw hS 6 rfl))
  have hcs : ¬ (cz = (0 : Int32)) := gotF (Cond.eq_ints evS (Term.int_eval (0))) (not_v (Cond.before_iff.mp (own_hw hS 8 rfl)))
  obtain ⟨fm, evF, hfm⟩ := isR_v (Cond.before_iff.mp (own_hw hS 14 rfl))
  have S_FM : Sta s s.heap "jdk/internal/util/Preconditions" "SIOOBE_FORMATTER" "Ljava/util/function/BiFunction;" fm := Sta.start evF (Or.inl (own_hw hS 13 rfl))
  have S_AD : Sta s s.heap "java/lang/StringUTF16" "$assertionsDisabled" "Z" (.int (1 : Int32)) := Sta.start (eqv_i (Term.int_eval (1 : Int32)) (Cond.before_iff.mp (own_hw hS 18 rfl))) (Or.inl (own_hw hS 17 rfl))
  have S_HI : Sta s s.heap "java/lang/StringUTF16" "HI_BYTE_SHIFT" "I" (.int (0 : Int32)) := Sta.start (eqv_i (Term.int_eval (0 : Int32)) (Cond.before_iff.mp (own_hw hS 21 rfl))) (Or.inl (own_hw hS 20 rfl))
  have S_LO : Sta s s.heap "java/lang/StringUTF16" "LO_BYTE_SHIFT" "I" (.int (8 : Int32)) := Sta.start (eqv_i (Term.int_eval (8 : Int32)) (Cond.before_iff.mp (own_hw hS 24 rfl))) (Or.inl (own_hw hS 23 rfl))
  have CH0 : CHv s own_EL s.vm s.heap := CHv.start (own_EW hw) (fun p hp => hcalls.1 p hp) (own_hw hS 8 rfl) (own_hw hw 67 rfl) (own_hw hw 52 rfl)
  obtain ⟨n, o, h1, h2, h3, _, L, rfl, hQ, -, hq⟩ := own_law l s _ hw tables_1 i0 i1 i2 ca cz fm s.heap (own_ext_refl _) S_C BX S_CS hcs S_FM hfm S_AD S_HI S_LO p e ha hc hk s m _ below hf ((Spec.applies_iff_loose hf).mp happ).1 ⟨rfl, State.Warmed39.refl s, rfl, CH0⟩ trivial
  obtain ⟨rfl, N, -⟩ := hQ
  exact ⟨n, _, h1, h2, h3, hpost _ _ _ _ _ _ ⟨Cond.after_iff.mpr rfl, Cond.after_iff.mpr (eq_i res_at (Term.int_eval (1)) rfl), trivial⟩ ⟨hq.1, hq.2.1, hq.2.2.1, (hq.2.2.2.sift fun y hy => Or.inr (N y hy)).mono (by decide) (by decide)⟩⟩
theorem main_1_1 : Claimed_1_1 := comes_1 fun _ _ _ _ _ _ h hF => ⟨h.1, hF⟩
theorem main_1_2 : Claimed_1_2 := comes_1 fun _ _ _ _ _ _ h hF => ⟨h.2.1, hF⟩
end Jvm.Pilot.@@N@@
namespace Jvm.Pilot.@@N@@
open Jvm Jvm.ClassFile Sem Op Lib Jvm.Free Jvm.Stand Jvm.Pilot.@@N@@.Jvm.D
/-! MADE BY PROGRAM (witnessworld.py) out of the Statement's table words and the real class files: 26 classes; the members and pool entries that the words name. The judged class is class 1, her method 1. -/
namespace start1
open Jvm.ClassFile
def u (s : String) : CpInfo := .utf8 (stringToUtf16 s)
/-- a pool by its gaps: so many unusable entries, then the entry; so many at the end -/
def gap : Nat → List CpInfo → List CpInfo
  | 0, r => r
  | n + 1, r => .unusable :: gap n r
def poolList (es : List (Nat × CpInfo)) (last : Nat) : List CpInfo := es.foldr (fun e r => gap e.1 (e.2 :: r)) (gap last [])
def pool (es : List (Nat × CpInfo)) (last : Nat) : Array CpInfo := ⟨poolList es last⟩
def fileOf (pool : Array CpInfo) (this : Nat) (attrs : Array Attribute := #[]) (ms : Array MethodInfo := #[]) (fl : Nat := 33) (sup : Nat := 0) (ifs : Array Nat := #[]) (fds : Array FieldInfo := #[]) : ClassFile where
  minorVersion := 0
  majorVersion := 65
  constantPool := pool
  accessFlags := fl
  thisClass := this
  superClass := sup
  interfaces := ifs
  fields := fds
  methods := ms
  attributes := attrs
def plain (name : String) (sup : Option ClassId) : Class where
  name := name
  kind := .ordinary
  loader := none
  accessFlags := 33
  super := sup
  interfaces := #[]
  cf := none
  fields := #[]
  methods := #[]
  instanceTypes := #[]
  staticTypes := #[]
  resolved := #[]
  callSites := []
  init := .initialized
  statics := none
  mirror := none

def pool0 : Array CpInfo := pool [(5, u "<init>"), (0, u "()V"), (1, .class_ 10), (1, u "java/lang/Object")] 113

def k0c0 : Code := { maxStack := 0, maxLocals := 1, code := object_method_1_code, exceptionTable := #[], attributes := #[] }
def k0m0 : Method := { name := "<init>", desc := "()V", sig := { parameters := [], returnType := none }, accessFlags := 1, code := some k0c0 }
/-- java/lang/Object -/
def k0 : Class := { plain "java/lang/Object" none with
  accessFlags := 33
  interfaces := #[]
  cf := some (fileOf pool0 8 #[] #[{ accessFlags := 1, nameIndex := 5, descriptorIndex := 6, attributes := #[] }] 33 0 #[] #[])
  fields := #[]
  methods := #[k0m0]
  instanceTypes := #[]
  staticTypes := #[]
  resolved := Array.replicate 124 none
  statics := none }

def pool1 : Array CpInfo := pool [(2, .class_ 4), (1, u "java/lang/Object"), (0, u "<init>"), (0, u "()V"), (0, .methodref 8 9), (0, .class_ 10), (0, .nameAndType 11 12), (0, u "java/lang/Long"), (0, u "valueOf"), (0, u "(J)Ljava/lang/Long;"), (0, .methodref 14 15), (0, .class_ 16), (0, .nameAndType 17 18), (0, u "com/example/feeds_to_views/feedstoviews/sql/Values"), (0, u "compare"), (0, u "(Ljava/lang/Object;Ljava/lang/Object;)I"), (0, .methodref 20 21), (0, .class_ 22), (0, .nameAndType 23 24), (0, u "com/example/feeds_to_views/feedstoviews/sql/ValuesComparePinLaw"), (0, u "sgn"), (0, u "(I)I"), (0, .methodref 20 26), (0, .nameAndType 27 28), (0, u "chars"), (0, u "(JIZ)[C"), (0, .class_ 30), (0, u "java/lang/String"), (0, .methodref 29 32), (0, .nameAndType 5 33), (0, u "([C)V"), (0, .methodref 20 35), (0, .nameAndType 36 37), (0, u "decode"), (0, u "([C)[I"), (0, .methodref 20 39), (0, .nameAndType 40 41), (0, u "lex"), (0, u "([I[I)I"), (0, .long 65535), (1, .integer 55296), (0, .integer 56320), (0, .integer 65535), (0, .methodref 20 48), (0, .nameAndType 49 50), (0, u "pick"), (0, u "(JIZ)C"), (0, .integer 56319), (0, .integer 57343), (0, .integer 65536), (0, .methodref 20 55), (0, .nameAndType 56 57), (0, u "cpAt"), (0, u "([CI)I"), (2, u "law"), (0, u "(JJI)Z")] 7

def k1m0 : Method := { name := "<init>", desc := "()V", sig := { parameters := [], returnType := none }, accessFlags := 2, code := none }
def k1c1 : Code := { maxStack := 4, maxLocals := 12, code := code, exceptionTable := #[], attributes := #[] }
def k1m1 : Method := { name := "law", desc := "(JJI)Z", sig := { parameters := [.long, .long, .int], returnType := some .boolean }, accessFlags := 9, code := some k1c1 }
def k1c2 : Code := { maxStack := 1, maxLocals := 1, code := method_3_code, exceptionTable := #[], attributes := #[] }
def k1m2 : Method := { name := "sgn", desc := "(I)I", sig := { parameters := [.int], returnType := some .int }, accessFlags := 10, code := some k1c2 }
def k1c3 : Code := { maxStack := 4, maxLocals := 7, code := method_4_code, exceptionTable := #[], attributes := #[] }
def k1m3 : Method := { name := "pick", desc := "(JIZ)C", sig := { parameters := [.long, .int, .boolean], returnType := some .char }, accessFlags := 10, code := some k1c3 }
def k1c4 : Code := { maxStack := 6, maxLocals := 5, code := method_5_code, exceptionTable := #[], attributes := #[] }
def k1m4 : Method := { name := "chars", desc := "(JIZ)[C", sig := { parameters := [.long, .int, .boolean], returnType := some (.array .char) }, accessFlags := 10, code := some k1c4 }
def k1c5 : Code := { maxStack := 3, maxLocals := 4, code := method_6_code, exceptionTable := #[], attributes := #[] }
def k1m5 : Method := { name := "cpAt", desc := "([CI)I", sig := { parameters := [(.array .char), .int], returnType := some .int }, accessFlags := 10, code := some k1c5 }
def k1c6 : Code := { maxStack := 3, maxLocals := 5, code := method_7_code, exceptionTable := #[], attributes := #[] }
def k1m6 : Method := { name := "decode", desc := "([C)[I", sig := { parameters := [(.array .char)], returnType := some (.array .int) }, accessFlags := 10, code := some k1c6 }
def k1c7 : Code := { maxStack := 3, maxLocals := 4, code := method_8_code, exceptionTable := #[], attributes := #[] }
def k1m7 : Method := { name := "lex", desc := "([I[I)I", sig := { parameters := [(.array .int), (.array .int)], returnType := some .int }, accessFlags := 10, code := some k1c7 }
/-- com/example/feeds_to_views/feedstoviews/sql/ValuesComparePinLaw -/
def k1 : Class := { plain "com/example/feeds_to_views/feedstoviews/sql/ValuesComparePinLaw" (some 0) with
  accessFlags := 49
  interfaces := #[]
  cf := some (fileOf pool1 20 #[] #[{ accessFlags := 2, nameIndex := 5, descriptorIndex := 6, attributes := #[] }, { accessFlags := 9, nameIndex := 60, descriptorIndex := 61, attributes := #[] }, { accessFlags := 10, nameIndex := 23, descriptorIndex := 24, attributes := #[] }, { accessFlags := 10, nameIndex := 49, descriptorIndex := 50, attributes := #[] }, { accessFlags := 10, nameIndex := 27, descriptorIndex := 28, attributes := #[] }, { accessFlags := 10, nameIndex := 56, descriptorIndex := 57, attributes := #[] }, { accessFlags := 10, nameIndex := 36, descriptorIndex := 37, attributes := #[] }, { accessFlags := 10, nameIndex := 40, descriptorIndex := 41, attributes := #[] }] 49 2 #[] #[])
  fields := #[]
  methods := #[k1m0, k1m1, k1m2, k1m3, k1m4, k1m5, k1m6, k1m7]
  instanceTypes := #[]
  staticTypes := #[]
  resolved := Array.replicate 69 none
  statics := none }

def pool2 : Array CpInfo := pool [(1, .class_ 2), (0, u "java/io/Serializable"), (0, .class_ 4), (0, u "java/lang/Object")] 2

/-- java/io/Serializable -/
def k2 : Class := { plain "java/io/Serializable" (some 0) with
  accessFlags := 1537
  interfaces := #[]
  cf := some (fileOf pool2 1 #[] #[] 1537 3 #[] #[])
  fields := #[]
  methods := #[]
  instanceTypes := #[]
  staticTypes := #[]
  resolved := Array.replicate 7 none
  statics := none }

def pool3 : Array CpInfo := pool [(1, .methodref 2 3), (0, .class_ 4), (0, .nameAndType 5 6), (0, u "java/lang/Object"), (0, u "<init>"), (0, u "()V"), (1, .class_ 10), (1, u "java/lang/Number"), (2, .class_ 14), (0, u "java/io/Serializable"), (0, u "serialVersionUID"), (0, u "J")] 20

def k3c0 : Code := { maxStack := 1, maxLocals := 1, code := jdk_18_method_1_code, exceptionTable := #[], attributes := #[] }
def k3m0 : Method := { name := "<init>", desc := "()V", sig := { parameters := [], returnType := none }, accessFlags := 1, code := some k3c0 }
/-- java/lang/Number -/
def k3 : Class := { plain "java/lang/Number" (some 0) with
  accessFlags := 1057
  interfaces := #[2]
  cf := some (fileOf pool3 8 #[] #[{ accessFlags := 1, nameIndex := 5, descriptorIndex := 6, attributes := #[] }] 1057 2 #[13] #[{ accessFlags := 26, nameIndex := 15, descriptorIndex := 16, attributes := #[] }])
  fields := #[{ name := "serialVersionUID", type := .long, accessFlags := 26, slot := 0, constantValue := 0 }]
  methods := #[k3m0]
  instanceTypes := #[]
  staticTypes := #[.long]
  resolved := Array.replicate 37 none
  statics := none }

def pool4 : Array CpInfo := pool [(1, .class_ 2), (0, u "java/lang/Comparable"), (0, .class_ 4), (0, u "java/lang/Object")] 7

/-- java/lang/Comparable -/
def k4 : Class := { plain "java/lang/Comparable" (some 0) with
  accessFlags := 1537
  interfaces := #[]
  cf := some (fileOf pool4 1 #[] #[] 1537 3 #[] #[])
  fields := #[]
  methods := #[]
  instanceTypes := #[]
  staticTypes := #[]
  resolved := Array.replicate 12 none
  statics := none }

def pool5 : Array CpInfo := pool [(1, .class_ 2), (0, u "java/lang/constant/Constable"), (0, .class_ 4), (0, u "java/lang/Object")] 6

/-- java/lang/constant/Constable -/
def k5 : Class := { plain "java/lang/constant/Constable" (some 0) with
  accessFlags := 1537
  interfaces := #[]
  cf := some (fileOf pool5 1 #[] #[] 1537 3 #[] #[])
  fields := #[]
  methods := #[]
  instanceTypes := #[]
  staticTypes := #[]
  resolved := Array.replicate 11 none
  statics := none }

def pool6 : Array CpInfo := pool [(1, .class_ 2), (0, u "java/lang/constant/ConstantDesc"), (0, .class_ 4), (0, u "java/lang/Object")] 32

/-- java/lang/constant/ConstantDesc -/
def k6 : Class := { plain "java/lang/constant/ConstantDesc" (some 0) with
  accessFlags := 1537
  interfaces := #[]
  cf := some (fileOf pool6 1 #[] #[] 1537 3 #[] #[])
  fields := #[]
  methods := #[]
  instanceTypes := #[]
  staticTypes := #[]
  resolved := Array.replicate 37 none
  statics := none }

def pool7 : Array CpInfo := pool [(1, .class_ 2), (0, u "java/lang/Long"), (55, .nameAndType 59 60), (0, u "<init>"), (0, u "()V"), (24, u "valueOf"), (143, u "(J)Ljava/lang/Long;"), (0, .long 18446744073709551488), (1, .long 127), (1, .fieldref 235 236), (0, .class_ 237), (0, .nameAndType 238 239), (0, u "java/lang/Long$LongCache"), (0, u "cache"), (0, u "[Ljava/lang/Long;"), (0, .methodref 1 241), (0, .nameAndType 59 242), (0, u "(J)V"), (27, .methodref 271 58), (0, .class_ 272), (0, u "java/lang/Number"), (0, .fieldref 1 274), (0, .nameAndType 275 276), (0, u "value"), (0, u "J"), (5, u "longValue"), (0, u "()J"), (20, u "compare"), (0, u "(JJ)I"), (55, u "TYPE"), (0, u "Ljava/lang/Class;"), (0, .class_ 364), (0, u "java/lang/Comparable"), (0, .class_ 366), (0, u "java/lang/constant/Constable"), (0, .class_ 368), (0, u "java/lang/constant/ConstantDesc"), (0, u "MIN_VALUE"), (1, u "MAX_VALUE"), (4, u "SIZE"), (0, u "I"), (1, u "BYTES"), (1, u "serialVersionUID")] 142

def k7c0 : Code := { maxStack := 4, maxLocals := 3, code := jdk_35_method_24_code, exceptionTable := #[], attributes := #[] }
def k7m0 : Method := { name := "valueOf", desc := "(J)Ljava/lang/Long;", sig := { parameters := [.long], returnType := some (.object "java/lang/Long") }, accessFlags := 9, code := some k7c0 }
def k7c1 : Code := { maxStack := 3, maxLocals := 3, code := jdk_35_method_26_code, exceptionTable := #[], attributes := #[] }
def k7m1 : Method := { name := "<init>", desc := "(J)V", sig := { parameters := [.long], returnType := none }, accessFlags := 1, code := some k7c1 }
def k7c2 : Code := { maxStack := 2, maxLocals := 1, code := jdk_35_method_31_code, exceptionTable := #[], attributes := #[] }
def k7m2 : Method := { name := "longValue", desc := "()J", sig := { parameters := [], returnType := some .long }, accessFlags := 1, code := some k7c2 }
def k7c3 : Code := { maxStack := 4, maxLocals := 4, code := jdk_35_method_42_code, exceptionTable := #[], attributes := #[] }
def k7m3 : Method := { name := "compare", desc := "(JJ)I", sig := { parameters := [.long, .long], returnType := some .int }, accessFlags := 9, code := some k7c3 }
/-- java/lang/Long -/
def k7 : Class := { plain "java/lang/Long" (some 3) with
  accessFlags := 49
  interfaces := #[4, 5, 6]
  cf := some (fileOf pool7 1 #[.nestMembers #[235]] #[{ accessFlags := 9, nameIndex := 85, descriptorIndex := 229, attributes := #[] }, { accessFlags := 1, nameIndex := 59, descriptorIndex := 242, attributes := #[] }, { accessFlags := 1, nameIndex := 282, descriptorIndex := 283, attributes := #[] }, { accessFlags := 9, nameIndex := 304, descriptorIndex := 305, attributes := #[] }] 49 271 #[363, 365, 367] #[{ accessFlags := 25, nameIndex := 369, descriptorIndex := 276, attributes := #[] }, { accessFlags := 25, nameIndex := 371, descriptorIndex := 276, attributes := #[] }, { accessFlags := 25, nameIndex := 361, descriptorIndex := 362, attributes := #[] }, { accessFlags := 18, nameIndex := 275, descriptorIndex := 276, attributes := #[] }, { accessFlags := 25, nameIndex := 376, descriptorIndex := 377, attributes := #[] }, { accessFlags := 25, nameIndex := 379, descriptorIndex := 377, attributes := #[] }, { accessFlags := 26, nameIndex := 381, descriptorIndex := 276, attributes := #[] }])
  fields := #[{ name := "MIN_VALUE", type := .long, accessFlags := 25, slot := 0, constantValue := 0 }, { name := "MAX_VALUE", type := .long, accessFlags := 25, slot := 1, constantValue := 0 }, { name := "TYPE", type := (.object "java/lang/Class"), accessFlags := 25, slot := 2, constantValue := 0 }, { name := "value", type := .long, accessFlags := 18, slot := 0, constantValue := 0 }, { name := "SIZE", type := .int, accessFlags := 25, slot := 3, constantValue := 0 }, { name := "BYTES", type := .int, accessFlags := 25, slot := 4, constantValue := 0 }, { name := "serialVersionUID", type := .long, accessFlags := 26, slot := 5, constantValue := 0 }]
  methods := #[k7m0, k7m1, k7m2, k7m3]
  instanceTypes := #[.long]
  staticTypes := #[.long, .long, (.object "java/lang/Class"), .int, .int, .long]
  resolved := Array.replicate 524 none
  statics := none }

def pool8 : Array CpInfo := pool [(2, .class_ 4), (1, u "java/lang/Object"), (0, u "<init>"), (0, u "()V"), (0, .class_ 8), (0, u "java/lang/Long"), (7, .class_ 18), (1, u "java/lang/Long$LongCache"), (0, u "$assertionsDisabled"), (0, u "Z"), (8, u "archivedCache"), (0, u "[Ljava/lang/Long;"), (7, u "cache")] 24

def k8m0 : Method := { name := "<init>", desc := "()V", sig := { parameters := [], returnType := none }, accessFlags := 2, code := none }
/-- java/lang/Long$LongCache -/
def k8 : Class := { plain "java/lang/Long$LongCache" (some 0) with
  accessFlags := 48
  interfaces := #[]
  cf := some (fileOf pool8 16 #[.nestHost 7] #[{ accessFlags := 2, nameIndex := 5, descriptorIndex := 6, attributes := #[] }] 48 2 #[] #[{ accessFlags := 24, nameIndex := 38, descriptorIndex := 30, attributes := #[] }, { accessFlags := 8, nameIndex := 29, descriptorIndex := 30, attributes := #[] }, { accessFlags := 4120, nameIndex := 19, descriptorIndex := 20, attributes := #[] }])
  fields := #[{ name := "cache", type := (.array (.object "java/lang/Long")), accessFlags := 24, slot := 0, constantValue := 0 }, { name := "archivedCache", type := (.array (.object "java/lang/Long")), accessFlags := 8, slot := 1, constantValue := 0 }, { name := "$assertionsDisabled", type := .boolean, accessFlags := 4120, slot := 2, constantValue := 0 }]
  methods := #[k8m0]
  instanceTypes := #[]
  staticTypes := #[(.array (.object "java/lang/Long")), (.array (.object "java/lang/Long")), .boolean]
  resolved := Array.replicate 63 none
  statics := some 0 }

def pool9 : Array CpInfo := pool [(2, .class_ 4), (1, u "java/lang/Object"), (0, u "<init>"), (0, u "()V"), (0, .class_ 8), (0, u "java/lang/Long"), (0, .methodref 7 10), (0, .nameAndType 11 12), (0, u "longValue"), (0, u "()J"), (0, .methodref 7 14), (0, .nameAndType 15 16), (0, u "compare"), (0, u "(JJ)I"), (0, .class_ 18), (0, u "java/lang/String"), (0, .methodref 20 21), (0, .class_ 22), (0, .nameAndType 23 24), (0, u "com/example/feeds_to_views/feedstoviews/sql/Values"), (0, u "compareText"), (0, u "(Ljava/lang/String;Ljava/lang/String;)I"), (7, u "(Ljava/lang/Object;Ljava/lang/Object;)I"), (0, .methodref 17 34), (0, .nameAndType 35 36), (0, u "length"), (0, u "()I"), (0, .methodref 17 38), (0, .nameAndType 39 40), (0, u "codePointAt"), (0, u "(I)I"), (0, .methodref 42 43), (0, .class_ 44), (0, .nameAndType 15 45), (0, u "java/lang/Integer"), (0, u "(II)I"), (0, .methodref 47 48), (0, .class_ 49), (0, .nameAndType 50 40), (0, u "java/lang/Character"), (0, u "charCount")] 6

def k9m0 : Method := { name := "<init>", desc := "()V", sig := { parameters := [], returnType := none }, accessFlags := 2, code := none }
def k9c1 : Code := { maxStack := 4, maxLocals := 4, code := prog_124_method_2_code, exceptionTable := #[], attributes := #[] }
def k9m1 : Method := { name := "compare", desc := "(Ljava/lang/Object;Ljava/lang/Object;)I", sig := { parameters := [(.object "java/lang/Object"), (.object "java/lang/Object")], returnType := some .int }, accessFlags := 9, code := some k9c1 }
def k9c2 : Code := { maxStack := 2, maxLocals := 6, code := prog_124_method_4_code, exceptionTable := #[], attributes := #[] }
def k9m2 : Method := { name := "compareText", desc := "(Ljava/lang/String;Ljava/lang/String;)I", sig := { parameters := [(.object "java/lang/String"), (.object "java/lang/String")], returnType := some .int }, accessFlags := 10, code := some k9c2 }
/-- com/example/feeds_to_views/feedstoviews/sql/Values -/
def k9 : Class := { plain "com/example/feeds_to_views/feedstoviews/sql/Values" (some 0) with
  accessFlags := 49
  interfaces := #[]
  cf := some (fileOf pool9 20 #[] #[{ accessFlags := 2, nameIndex := 5, descriptorIndex := 6, attributes := #[] }, { accessFlags := 9, nameIndex := 15, descriptorIndex := 32, attributes := #[] }, { accessFlags := 10, nameIndex := 23, descriptorIndex := 24, attributes := #[] }] 49 2 #[] #[])
  fields := #[]
  methods := #[k9m0, k9m1, k9m2]
  instanceTypes := #[]
  staticTypes := #[]
  resolved := Array.replicate 57 none
  statics := none }

def pool10 : Array CpInfo := pool [(2, .class_ 4), (1, u "java/lang/CharSequence"), (42, .class_ 48), (0, u "java/lang/CharSequence$1CodePointIterator"), (10, .class_ 60), (0, u "java/lang/CharSequence$1CharIterator"), (5, .class_ 67), (0, u "java/lang/Object")] 63

/-- java/lang/CharSequence -/
def k10 : Class := { plain "java/lang/CharSequence" (some 0) with
  accessFlags := 1537
  interfaces := #[]
  cf := some (fileOf pool10 2 #[.nestMembers #[47, 59]] #[] 1537 66 #[] #[])
  fields := #[]
  methods := #[]
  instanceTypes := #[]
  staticTypes := #[]
  resolved := Array.replicate 131 none
  statics := none }

def pool11 : Array CpInfo := pool [(1, .methodref 2 3), (0, .class_ 4), (0, .nameAndType 5 6), (0, u "java/lang/Object"), (0, u "<init>"), (0, u "()V"), (0, .string 8), (0, u ""), (0, .fieldref 10 11), (0, .class_ 12), (0, .nameAndType 13 14), (0, u "java/lang/String"), (0, u "value"), (0, u "[B"), (0, .fieldref 10 16), (0, .nameAndType 17 18), (0, u "coder"), (0, u "B"), (2, u "hash"), (0, u "I"), (2, u "hashIsZero"), (0, u "Z"), (0, .methodref 10 28), (0, .nameAndType 5 29), (0, u "([CIILjava/lang/Void;)V"), (8, .fieldref 10 39), (0, .nameAndType 40 26), (0, u "COMPACT_STRINGS"), (1, .class_ 44), (1, u "java/lang/StringUTF16"), (0, u "compress"), (1, .methodref 42 48), (0, .nameAndType 49 50), (0, u "coderFromArrayLen"), (0, u "([BI)B"), (46, u "([BII)I"), (44, u "()Z"), (34, .methodref 42 178), (0, .nameAndType 45 179), (0, u "([CII)[B"), (154, u "()I"), (0, .methodref 10 336), (0, .nameAndType 17 337), (0, u "()B"), (53, u "(II)V"), (100, .methodref 10 493), (0, .nameAndType 494 142), (0, u "isLatin1"), (4, .methodref 10 500), (0, .nameAndType 501 391), (0, u "checkIndex"), (0, .methodref 42 503), (0, .nameAndType 504 97), (0, u "codePointAt"), (2, u "length"), (67, .class_ 576), (0, u "java/lang/CharSequence"), (22, u "CASE_INSENSITIVE_ORDER"), (0, u "Ljava/util/Comparator;"), (164, u "(I)I"), (244, u "([C)V"), (42, .fieldref 1054 1055), (0, .class_ 1056), (0, .nameAndType 1057 1058), (0, u "jdk/internal/util/Preconditions"), (0, u "SIOOBE_FORMATTER"), (0, u "Ljava/util/function/BiFunction;"), (0, .methodref 1054 1060), (0, .nameAndType 501 1061), (0, u "(IILjava/util/function/BiFunction;)I"), (39, u "serialPersistentFields"), (0, u "[Ljava/io/ObjectStreamField;"), (0, .class_ 1104), (0, u "java/lang/String$CaseInsensitiveComparator"), (1, .class_ 1107), (0, u "java/io/Serializable"), (0, .class_ 1109), (0, u "java/lang/Comparable"), (0, .class_ 1111), (0, u "java/lang/constant/Constable"), (0, .class_ 1113), (0, u "java/lang/constant/ConstantDesc"), (2, u "serialVersionUID"), (0, u "J"), (3, u "REPL"), (0, u "C"), (2, u "LATIN1"), (1, u "UTF16")] 323

def k11m0 : Method := { name := "<init>", desc := "()V", sig := { parameters := [], returnType := none }, accessFlags := 1, code := none }
def k11c1 : Code := { maxStack := 5, maxLocals := 2, code := jdk_42_method_3_code, exceptionTable := #[], attributes := #[] }
def k11m1 : Method := { name := "<init>", desc := "([C)V", sig := { parameters := [(.array .char)], returnType := none }, accessFlags := 1, code := some k11c1 }
def k11c2 : Code := { maxStack := 2, maxLocals := 1, code := jdk_42_method_54_code, exceptionTable := #[], attributes := #[] }
def k11m2 : Method := { name := "length", desc := "()I", sig := { parameters := [], returnType := some .int }, accessFlags := 1, code := some k11c2 }
def k11c3 : Code := { maxStack := 3, maxLocals := 3, code := jdk_42_method_57_code, exceptionTable := #[], attributes := #[] }
def k11m3 : Method := { name := "codePointAt", desc := "(I)I", sig := { parameters := [.int], returnType := some .int }, accessFlags := 1, code := some k11c3 }
def k11c4 : Code := { maxStack := 4, maxLocals := 6, code := jdk_42_method_149_code, exceptionTable := #[], attributes := #[] }
def k11m4 : Method := { name := "<init>", desc := "([CIILjava/lang/Void;)V", sig := { parameters := [(.array .char), .int, .int, (.object "java/lang/Void")], returnType := none }, accessFlags := 2, code := some k11c4 }
def k11c5 : Code := { maxStack := 1, maxLocals := 1, code := jdk_42_method_152_code, exceptionTable := #[], attributes := #[] }
def k11m5 : Method := { name := "coder", desc := "()B", sig := { parameters := [], returnType := some .byte }, accessFlags := 0, code := some k11c5 }
def k11c6 : Code := { maxStack := 1, maxLocals := 1, code := jdk_42_method_154_code, exceptionTable := #[], attributes := #[] }
def k11m6 : Method := { name := "isLatin1", desc := "()Z", sig := { parameters := [], returnType := some .boolean }, accessFlags := 0, code := some k11c6 }
def k11c7 : Code := { maxStack := 3, maxLocals := 2, code := jdk_42_method_155_code, exceptionTable := #[], attributes := #[] }
def k11m7 : Method := { name := "checkIndex", desc := "(II)V", sig := { parameters := [.int, .int], returnType := none }, accessFlags := 8, code := some k11c7 }
/-- java/lang/String -/
def k11 : Class := { plain "java/lang/String" (some 0) with
  accessFlags := 49
  interfaces := #[2, 4, 10, 5, 6]
  cf := some (fileOf pool11 10 #[.nestMembers #[1103]] #[{ accessFlags := 1, nameIndex := 5, descriptorIndex := 6, attributes := #[] }, { accessFlags := 1, nameIndex := 5, descriptorIndex := 1010, attributes := #[] }, { accessFlags := 1, nameIndex := 507, descriptorIndex := 334, attributes := #[] }, { accessFlags := 1, nameIndex := 504, descriptorIndex := 765, attributes := #[] }, { accessFlags := 2, nameIndex := 5, descriptorIndex := 29, attributes := #[] }, { accessFlags := 0, nameIndex := 17, descriptorIndex := 337, attributes := #[] }, { accessFlags := 0, nameIndex := 494, descriptorIndex := 142, attributes := #[] }, { accessFlags := 8, nameIndex := 501, descriptorIndex := 391, attributes := #[] }] 49 2 #[1106, 1108, 575, 1110, 1112] #[{ accessFlags := 18, nameIndex := 13, descriptorIndex := 14, attributes := #[] }, { accessFlags := 18, nameIndex := 17, descriptorIndex := 18, attributes := #[] }, { accessFlags := 2, nameIndex := 21, descriptorIndex := 22, attributes := #[] }, { accessFlags := 2, nameIndex := 25, descriptorIndex := 26, attributes := #[] }, { accessFlags := 26, nameIndex := 1116, descriptorIndex := 1117, attributes := #[] }, { accessFlags := 24, nameIndex := 40, descriptorIndex := 26, attributes := #[] }, { accessFlags := 26, nameIndex := 1101, descriptorIndex := 1102, attributes := #[] }, { accessFlags := 26, nameIndex := 1121, descriptorIndex := 1122, attributes := #[] }, { accessFlags := 25, nameIndex := 599, descriptorIndex := 600, attributes := #[] }, { accessFlags := 24, nameIndex := 1125, descriptorIndex := 18, attributes := #[] }, { accessFlags := 24, nameIndex := 1127, descriptorIndex := 18, attributes := #[] }])
  fields := #[{ name := "value", type := (.array .byte), accessFlags := 18, slot := 0, constantValue := 0 }, { name := "coder", type := .byte, accessFlags := 18, slot := 1, constantValue := 0 }, { name := "hash", type := .int, accessFlags := 2, slot := 2, constantValue := 0 }, { name := "hashIsZero", type := .boolean, accessFlags := 2, slot := 3, constantValue := 0 }, { name := "serialVersionUID", type := .long, accessFlags := 26, slot := 0, constantValue := 0 }, { name := "COMPACT_STRINGS", type := .boolean, accessFlags := 24, slot := 1, constantValue := 0 }, { name := "serialPersistentFields", type := (.array (.object "java/io/ObjectStreamField")), accessFlags := 26, slot := 2, constantValue := 0 }, { name := "REPL", type := .char, accessFlags := 26, slot := 3, constantValue := 0 }, { name := "CASE_INSENSITIVE_ORDER", type := (.object "java/util/Comparator"), accessFlags := 25, slot := 4, constantValue := 0 }, { name := "LATIN1", type := .byte, accessFlags := 24, slot := 5, constantValue := 0 }, { name := "UTF16", type := .byte, accessFlags := 24, slot := 6, constantValue := 0 }]
  methods := #[k11m0, k11m1, k11m2, k11m3, k11m4, k11m5, k11m6, k11m7]
  instanceTypes := #[(.array .byte), .byte, .int, .boolean]
  staticTypes := #[.long, .boolean, (.array (.object "java/io/ObjectStreamField")), .char, (.object "java/util/Comparator"), .byte, .byte]
  resolved := Array.replicate 1451 none
  statics := some 1 }

def pool12 : Array CpInfo := pool [(6, .class_ 8), (1, u "java/lang/Object"), (0, u "<init>"), (0, u "()V"), (0, .methodref 12 13), (0, .class_ 14), (0, .nameAndType 15 16), (0, u "java/lang/StringUTF16"), (0, u "newBytesLength"), (0, u "(I)I"), (3, .integer 1073741823), (23, .fieldref 12 45), (0, .nameAndType 46 47), (0, u "$assertionsDisabled"), (0, u "Z"), (11, .fieldref 12 60), (0, .nameAndType 61 62), (0, u "HI_BYTE_SHIFT"), (0, u "I"), (0, .fieldref 12 64), (0, .nameAndType 65 62), (0, u "LO_BYTE_SHIFT"), (5, .methodref 12 72), (0, .nameAndType 73 74), (0, u "getChar"), (0, u "([BI)C"), (0, .methodref 76 77), (0, .class_ 78), (0, .nameAndType 79 80), (0, u "java/lang/Character"), (0, u "isHighSurrogate"), (0, u "(C)Z"), (0, .methodref 76 82), (0, .nameAndType 83 80), (0, u "isLowSurrogate"), (0, .methodref 76 85), (0, .nameAndType 86 87), (0, u "toCodePoint"), (0, u "(CC)I"), (0, .methodref 12 89), (0, .nameAndType 90 91), (0, u "codePointAt"), (0, u "([BIIZ)I"), (15, .methodref 12 108), (0, .nameAndType 109 110), (0, u "newBytesFor"), (0, u "(I)[B"), (0, .methodref 12 112), (0, .nameAndType 113 114), (0, u "putChar"), (0, u "([BII)V"), (0, .methodref 12 116), (0, .nameAndType 117 118), (0, u "compress"), (0, u "([CI[BII)I"), (0, .methodref 12 120), (0, .nameAndType 121 122), (0, u "toBytes"), (0, u "([CII)[B"), (127, u "([BII)I"), (10, u "coderFromArrayLen"), (0, u "([BI)B"), (106, .class_ 371), (1, u "java/lang/StringUTF16$LinesSpliterator"), (58, u "MAX_LENGTH"), (196, .class_ 628), (0, u "java/lang/StringUTF16$CodePointsSpliterator"), (0, .class_ 630), (0, u "java/lang/StringUTF16$CharsSpliterator")] 4

def k12m0 : Method := { name := "<init>", desc := "()V", sig := { parameters := [], returnType := none }, accessFlags := 0, code := none }
def k12c1 : Code := { maxStack := 1, maxLocals := 1, code := jdk_52_method_2_code, exceptionTable := #[], attributes := #[] }
def k12m1 : Method := { name := "newBytesFor", desc := "(I)[B", sig := { parameters := [.int], returnType := some (.array .byte) }, accessFlags := 9, code := some k12c1 }
def k12c2 : Code := { maxStack := 4, maxLocals := 1, code := jdk_52_method_3_code, exceptionTable := #[], attributes := #[] }
def k12m2 : Method := { name := "newBytesLength", desc := "(I)I", sig := { parameters := [.int], returnType := some .int }, accessFlags := 9, code := some k12c2 }
def k12c3 : Code := { maxStack := 4, maxLocals := 3, code := jdk_52_method_4_code, exceptionTable := #[], attributes := #[] }
def k12m3 : Method := { name := "putChar", desc := "([BII)V", sig := { parameters := [(.array .byte), .int, .int], returnType := none }, accessFlags := 8, code := some k12c3 }
def k12c4 : Code := { maxStack := 3, maxLocals := 2, code := jdk_52_method_5_code, exceptionTable := #[], attributes := #[] }
def k12m4 : Method := { name := "getChar", desc := "([BI)C", sig := { parameters := [(.array .byte), .int], returnType := some .char }, accessFlags := 8, code := some k12c4 }
def k12c5 : Code := { maxStack := 2, maxLocals := 6, code := jdk_52_method_7_code, exceptionTable := #[], attributes := #[] }
def k12m5 : Method := { name := "codePointAt", desc := "([BIIZ)I", sig := { parameters := [(.array .byte), .int, .int, .boolean], returnType := some .int }, accessFlags := 10, code := some k12c5 }
def k12c6 : Code := { maxStack := 4, maxLocals := 3, code := jdk_52_method_8_code, exceptionTable := #[], attributes := #[] }
def k12m6 : Method := { name := "codePointAt", desc := "([BII)I", sig := { parameters := [(.array .byte), .int, .int], returnType := some .int }, accessFlags := 9, code := some k12c6 }
def k12c7 : Code := { maxStack := 4, maxLocals := 5, code := jdk_52_method_14_code, exceptionTable := #[], attributes := #[] }
def k12m7 : Method := { name := "toBytes", desc := "([CII)[B", sig := { parameters := [(.array .char), .int, .int], returnType := some (.array .byte) }, accessFlags := 9, code := some k12c7 }
def k12c8 : Code := { maxStack := 2, maxLocals := 2, code := jdk_52_method_15_code, exceptionTable := #[], attributes := #[] }
def k12m8 : Method := { name := "coderFromArrayLen", desc := "([BI)B", sig := { parameters := [(.array .byte), .int], returnType := some .byte }, accessFlags := 8, code := some k12c8 }
def k12c9 : Code := { maxStack := 5, maxLocals := 6, code := jdk_52_method_16_code, exceptionTable := #[], attributes := #[] }
def k12m9 : Method := { name := "compress", desc := "([CII)[B", sig := { parameters := [(.array .char), .int, .int], returnType := some (.array .byte) }, accessFlags := 9, code := some k12c9 }
def k12c10 : Code := { maxStack := 3, maxLocals := 7, code := jdk_52_method_21_code, exceptionTable := #[], attributes := #[] }
def k12m10 : Method := { name := "compress", desc := "([CI[BII)I", sig := { parameters := [(.array .char), .int, (.array .byte), .int, .int], returnType := some .int }, accessFlags := 9, code := some k12c10 }
/-- java/lang/StringUTF16 -/
def k12 : Class := { plain "java/lang/StringUTF16" (some 0) with
  accessFlags := 48
  interfaces := #[]
  cf := some (fileOf pool12 12 #[.nestMembers #[627, 629, 369]] #[{ accessFlags := 0, nameIndex := 9, descriptorIndex := 10, attributes := #[] }, { accessFlags := 9, nameIndex := 109, descriptorIndex := 110, attributes := #[] }, { accessFlags := 9, nameIndex := 15, descriptorIndex := 16, attributes := #[] }, { accessFlags := 8, nameIndex := 113, descriptorIndex := 114, attributes := #[] }, { accessFlags := 8, nameIndex := 73, descriptorIndex := 74, attributes := #[] }, { accessFlags := 10, nameIndex := 90, descriptorIndex := 91, attributes := #[] }, { accessFlags := 9, nameIndex := 90, descriptorIndex := 250, attributes := #[] }, { accessFlags := 9, nameIndex := 121, descriptorIndex := 122, attributes := #[] }, { accessFlags := 8, nameIndex := 261, descriptorIndex := 262, attributes := #[] }, { accessFlags := 9, nameIndex := 117, descriptorIndex := 122, attributes := #[] }, { accessFlags := 9, nameIndex := 117, descriptorIndex := 118, attributes := #[] }] 48 6 #[] #[{ accessFlags := 26, nameIndex := 61, descriptorIndex := 62, attributes := #[] }, { accessFlags := 26, nameIndex := 65, descriptorIndex := 62, attributes := #[] }, { accessFlags := 24, nameIndex := 430, descriptorIndex := 62, attributes := #[] }, { accessFlags := 4120, nameIndex := 46, descriptorIndex := 47, attributes := #[] }])
  fields := #[{ name := "HI_BYTE_SHIFT", type := .int, accessFlags := 26, slot := 0, constantValue := 0 }, { name := "LO_BYTE_SHIFT", type := .int, accessFlags := 26, slot := 1, constantValue := 0 }, { name := "MAX_LENGTH", type := .int, accessFlags := 24, slot := 2, constantValue := 0 }, { name := "$assertionsDisabled", type := .boolean, accessFlags := 4120, slot := 3, constantValue := 0 }]
  methods := #[k12m0, k12m1, k12m2, k12m3, k12m4, k12m5, k12m6, k12m7, k12m8, k12m9, k12m10]
  instanceTypes := #[]
  staticTypes := #[.int, .int, .int, .boolean]
  resolved := Array.replicate 635 none
  statics := some 2 }

def pool13 : Array CpInfo := pool [(2, .class_ 4), (1, u "java/lang/Object"), (0, u "<init>"), (0, u "()V"), (17, .class_ 26), (1, u "jdk/internal/util/Preconditions"), (6, u "checkIndex"), (21, .class_ 56), (0, u "jdk/internal/util/Preconditions$4"), (57, .class_ 115), (0, u "jdk/internal/util/Preconditions$1"), (7, u "SIOOBE_FORMATTER"), (0, u "Ljava/util/function/BiFunction;"), (0, .class_ 126), (0, u "jdk/internal/util/Preconditions$2"), (3, u "AIOOBE_FORMATTER"), (0, .class_ 132), (0, u "jdk/internal/util/Preconditions$3"), (3, u "IOOBE_FORMATTER"), (41, u "(IILjava/util/function/BiFunction;)I")] 15

def k13m0 : Method := { name := "<init>", desc := "()V", sig := { parameters := [], returnType := none }, accessFlags := 1, code := none }
def k13c1 : Code := { maxStack := 3, maxLocals := 3, code := jdk_41_method_11_code, exceptionTable := #[], attributes := #[] }
def k13m1 : Method := { name := "checkIndex", desc := "(IILjava/util/function/BiFunction;)I", sig := { parameters := [.int, .int, (.object "java/util/function/BiFunction")], returnType := some .int }, accessFlags := 9, code := some k13c1 }
/-- jdk/internal/util/Preconditions -/
def k13 : Class := { plain "jdk/internal/util/Preconditions" (some 0) with
  accessFlags := 33
  interfaces := #[]
  cf := some (fileOf pool13 24 #[.nestMembers #[55, 131, 125, 114]] #[{ accessFlags := 1, nameIndex := 5, descriptorIndex := 6, attributes := #[] }, { accessFlags := 9, nameIndex := 33, descriptorIndex := 178, attributes := #[] }] 33 2 #[] #[{ accessFlags := 25, nameIndex := 123, descriptorIndex := 124, attributes := #[] }, { accessFlags := 25, nameIndex := 130, descriptorIndex := 124, attributes := #[] }, { accessFlags := 25, nameIndex := 136, descriptorIndex := 124, attributes := #[] }])
  fields := #[{ name := "SIOOBE_FORMATTER", type := (.object "java/util/function/BiFunction"), accessFlags := 25, slot := 0, constantValue := 0 }, { name := "AIOOBE_FORMATTER", type := (.object "java/util/function/BiFunction"), accessFlags := 25, slot := 1, constantValue := 0 }, { name := "IOOBE_FORMATTER", type := (.object "java/util/function/BiFunction"), accessFlags := 25, slot := 2, constantValue := 0 }]
  methods := #[k13m0, k13m1]
  instanceTypes := #[]
  staticTypes := #[(.object "java/util/function/BiFunction"), (.object "java/util/function/BiFunction"), (.object "java/util/function/BiFunction")]
  resolved := Array.replicate 194 none
  statics := some 3 }

def pool14 : Array CpInfo := pool [(1, .class_ 2), (0, u "java/lang/Character"), (18, u "value"), (0, u "C"), (19, .class_ 44), (1, u "java/lang/Object"), (3, .class_ 50), (1, u "java/lang/Character$CharacterCache"), (22, .integer 65536), (1, .integer 55296), (0, .integer 56320), (0, .integer 57344), (2, u "isHighSurrogate"), (0, u "(C)Z"), (2, u "isLowSurrogate"), (0, .integer 4238353408), (12, u "toCodePoint"), (0, u "(CC)I"), (74, u "(I)I"), (109, u "$assertionsDisabled"), (0, u "Z"), (21, .class_ 309), (1, u "java/lang/Character$UnicodeBlock"), (73, u "TYPE"), (0, u "Ljava/lang/Class;"), (0, .class_ 386), (0, u "java/io/Serializable"), (0, .class_ 388), (0, u "java/lang/Comparable"), (0, .class_ 390), (0, u "java/lang/constant/Constable"), (0, u "MIN_RADIX"), (0, u "I"), (2, u "MAX_RADIX"), (1, u "MIN_VALUE"), (1, u "MAX_VALUE"), (3, u "UNASSIGNED"), (0, u "B"), (0, u "UPPERCASE_LETTER"), (1, u "LOWERCASE_LETTER"), (0, u "TITLECASE_LETTER"), (1, u "MODIFIER_LETTER"), (1, u "OTHER_LETTER"), (1, u "NON_SPACING_MARK"), (1, u "ENCLOSING_MARK"), (1, u "COMBINING_SPACING_MARK"), (1, u "DECIMAL_DIGIT_NUMBER"), (1, u "LETTER_NUMBER"), (1, u "OTHER_NUMBER"), (1, u "SPACE_SEPARATOR"), (1, u "LINE_SEPARATOR"), (1, u "PARAGRAPH_SEPARATOR"), (1, u "CONTROL"), (1, u "FORMAT"), (1, u "PRIVATE_USE"), (1, u "SURROGATE"), (1, u "DASH_PUNCTUATION"), (1, u "START_PUNCTUATION"), (1, u "END_PUNCTUATION"), (1, u "CONNECTOR_PUNCTUATION"), (1, u "OTHER_PUNCTUATION"), (1, u "MATH_SYMBOL"), (1, u "CURRENCY_SYMBOL"), (1, u "MODIFIER_SYMBOL"), (1, u "OTHER_SYMBOL"), (1, u "INITIAL_QUOTE_PUNCTUATION"), (1, u "FINAL_QUOTE_PUNCTUATION"), (1, u "ERROR"), (1, u "DIRECTIONALITY_UNDEFINED"), (0, u "DIRECTIONALITY_LEFT_TO_RIGHT"), (0, u "DIRECTIONALITY_RIGHT_TO_LEFT"), (0, u "DIRECTIONALITY_RIGHT_TO_LEFT_ARABIC"), (0, u "DIRECTIONALITY_EUROPEAN_NUMBER"), (0, u "DIRECTIONALITY_EUROPEAN_NUMBER_SEPARATOR"), (0, u "DIRECTIONALITY_EUROPEAN_NUMBER_TERMINATOR"), (0, u "DIRECTIONALITY_ARABIC_NUMBER"), (0, u "DIRECTIONALITY_COMMON_NUMBER_SEPARATOR"), (0, u "DIRECTIONALITY_NONSPACING_MARK"), (0, u "DIRECTIONALITY_BOUNDARY_NEUTRAL"), (0, u "DIRECTIONALITY_PARAGRAPH_SEPARATOR"), (0, u "DIRECTIONALITY_SEGMENT_SEPARATOR"), (0, u "DIRECTIONALITY_WHITESPACE"), (0, u "DIRECTIONALITY_OTHER_NEUTRALS"), (0, u "DIRECTIONALITY_LEFT_TO_RIGHT_EMBEDDING"), (0, u "DIRECTIONALITY_LEFT_TO_RIGHT_OVERRIDE"), (0, u "DIRECTIONALITY_RIGHT_TO_LEFT_EMBEDDING"), (0, u "DIRECTIONALITY_RIGHT_TO_LEFT_OVERRIDE"), (1, u "DIRECTIONALITY_POP_DIRECTIONAL_FORMAT"), (0, u "DIRECTIONALITY_LEFT_TO_RIGHT_ISOLATE"), (0, u "DIRECTIONALITY_RIGHT_TO_LEFT_ISOLATE"), (0, u "DIRECTIONALITY_FIRST_STRONG_ISOLATE"), (0, u "DIRECTIONALITY_POP_DIRECTIONAL_ISOLATE"), (0, u "MIN_HIGH_SURROGATE"), (0, u "MAX_HIGH_SURROGATE"), (1, u "MIN_LOW_SURROGATE"), (0, u "MAX_LOW_SURROGATE"), (1, u "MIN_SURROGATE"), (0, u "MAX_SURROGATE"), (0, u "MIN_SUPPLEMENTARY_CODE_POINT"), (0, u "MIN_CODE_POINT"), (0, u "MAX_CODE_POINT"), (1, u "serialVersionUID"), (0, u "J"), (2, u "SIZE"), (0, u "BYTES"), (29, u "charCount"), (58, .class_ 596), (0, u "java/lang/Character$UnicodeScript"), (0, .class_ 598), (0, u "java/lang/Character$Subset")] 5

def k14c0 : Code := { maxStack := 2, maxLocals := 1, code := jdk_89_method_14_code, exceptionTable := #[], attributes := #[] }
def k14m0 : Method := { name := "isHighSurrogate", desc := "(C)Z", sig := { parameters := [.char], returnType := some .boolean }, accessFlags := 9, code := some k14c0 }
def k14c1 : Code := { maxStack := 2, maxLocals := 1, code := jdk_89_method_15_code, exceptionTable := #[], attributes := #[] }
def k14m1 : Method := { name := "isLowSurrogate", desc := "(C)Z", sig := { parameters := [.char], returnType := some .boolean }, accessFlags := 9, code := some k14c1 }
def k14c2 : Code := { maxStack := 2, maxLocals := 1, code := jdk_89_method_18_code, exceptionTable := #[], attributes := #[] }
def k14m2 : Method := { name := "charCount", desc := "(I)I", sig := { parameters := [.int], returnType := some .int }, accessFlags := 9, code := some k14c2 }
def k14c3 : Code := { maxStack := 2, maxLocals := 2, code := jdk_89_method_19_code, exceptionTable := #[], attributes := #[] }
def k14m3 : Method := { name := "toCodePoint", desc := "(CC)I", sig := { parameters := [.char, .char], returnType := some .int }, accessFlags := 9, code := some k14c3 }
/-- java/lang/Character -/
def k14 : Class := { plain "java/lang/Character" (some 0) with
  accessFlags := 49
  interfaces := #[2, 4, 5]
  cf := some (fileOf pool14 1 #[.nestMembers #[48, 595, 307, 597]] #[{ accessFlags := 9, nameIndex := 80, descriptorIndex := 81, attributes := #[] }, { accessFlags := 9, nameIndex := 84, descriptorIndex := 81, attributes := #[] }, { accessFlags := 9, nameIndex := 536, descriptorIndex := 174, attributes := #[] }, { accessFlags := 9, nameIndex := 98, descriptorIndex := 99, attributes := #[] }] 49 42 #[385, 387, 389] #[{ accessFlags := 25, nameIndex := 391, descriptorIndex := 392, attributes := #[] }, { accessFlags := 25, nameIndex := 395, descriptorIndex := 392, attributes := #[] }, { accessFlags := 25, nameIndex := 397, descriptorIndex := 22, attributes := #[] }, { accessFlags := 25, nameIndex := 399, descriptorIndex := 22, attributes := #[] }, { accessFlags := 25, nameIndex := 383, descriptorIndex := 384, attributes := #[] }, { accessFlags := 25, nameIndex := 403, descriptorIndex := 404, attributes := #[] }, { accessFlags := 25, nameIndex := 405, descriptorIndex := 404, attributes := #[] }, { accessFlags := 25, nameIndex := 407, descriptorIndex := 404, attributes := #[] }, { accessFlags := 25, nameIndex := 408, descriptorIndex := 404, attributes := #[] }, { accessFlags := 25, nameIndex := 410, descriptorIndex := 404, attributes := #[] }, { accessFlags := 25, nameIndex := 412, descriptorIndex := 404, attributes := #[] }, { accessFlags := 25, nameIndex := 414, descriptorIndex := 404, attributes := #[] }, { accessFlags := 25, nameIndex := 416, descriptorIndex := 404, attributes := #[] }, { accessFlags := 25, nameIndex := 418, descriptorIndex := 404, attributes := #[] }, { accessFlags := 25, nameIndex := 420, descriptorIndex := 404, attributes := #[] }, { accessFlags := 25, nameIndex := 422, descriptorIndex := 404, attributes := #[] }, { accessFlags := 25, nameIndex := 424, descriptorIndex := 404, attributes := #[] }, { accessFlags := 25, nameIndex := 426, descriptorIndex := 404, attributes := #[] }, { accessFlags := 25, nameIndex := 428, descriptorIndex := 404, attributes := #[] }, { accessFlags := 25, nameIndex := 430, descriptorIndex := 404, attributes := #[] }, { accessFlags := 25, nameIndex := 432, descriptorIndex := 404, attributes := #[] }, { accessFlags := 25, nameIndex := 434, descriptorIndex := 404, attributes := #[] }, { accessFlags := 25, nameIndex := 436, descriptorIndex := 404, attributes := #[] }, { accessFlags := 25, nameIndex := 438, descriptorIndex := 404, attributes := #[] }, { accessFlags := 25, nameIndex := 440, descriptorIndex := 404, attributes := #[] }, { accessFlags := 25, nameIndex := 442, descriptorIndex := 404, attributes := #[] }, { accessFlags := 25, nameIndex := 444, descriptorIndex := 404, attributes := #[] }, { accessFlags := 25, nameIndex := 446, descriptorIndex := 404, attributes := #[] }, { accessFlags := 25, nameIndex := 448, descriptorIndex := 404, attributes := #[] }, { accessFlags := 25, nameIndex := 450, descriptorIndex := 404, attributes := #[] }, { accessFlags := 25, nameIndex := 452, descriptorIndex := 404, attributes := #[] }, { accessFlags := 25, nameIndex := 454, descriptorIndex := 404, attributes := #[] }, { accessFlags := 25, nameIndex := 456, descriptorIndex := 404, attributes := #[] }, { accessFlags := 25, nameIndex := 458, descriptorIndex := 404, attributes := #[] }, { accessFlags := 25, nameIndex := 460, descriptorIndex := 404, attributes := #[] }, { accessFlags := 24, nameIndex := 462, descriptorIndex := 392, attributes := #[] }, { accessFlags := 25, nameIndex := 464, descriptorIndex := 404, attributes := #[] }, { accessFlags := 25, nameIndex := 465, descriptorIndex := 404, attributes := #[] }, { accessFlags := 25, nameIndex := 466, descriptorIndex := 404, attributes := #[] }, { accessFlags := 25, nameIndex := 467, descriptorIndex := 404, attributes := #[] }, { accessFlags := 25, nameIndex := 468, descriptorIndex := 404, attributes := #[] }, { accessFlags := 25, nameIndex := 469, descriptorIndex := 404, attributes := #[] }, { accessFlags := 25, nameIndex := 470, descriptorIndex := 404, attributes := #[] }, { accessFlags := 25, nameIndex := 471, descriptorIndex := 404, attributes := #[] }, { accessFlags := 25, nameIndex := 472, descriptorIndex := 404, attributes := #[] }, { accessFlags := 25, nameIndex := 473, descriptorIndex := 404, attributes := #[] }, { accessFlags := 25, nameIndex := 474, descriptorIndex := 404, attributes := #[] }, { accessFlags := 25, nameIndex := 475, descriptorIndex := 404, attributes := #[] }, { accessFlags := 25, nameIndex := 476, descriptorIndex := 404, attributes := #[] }, { accessFlags := 25, nameIndex := 477, descriptorIndex := 404, attributes := #[] }, { accessFlags := 25, nameIndex := 478, descriptorIndex := 404, attributes := #[] }, { accessFlags := 25, nameIndex := 479, descriptorIndex := 404, attributes := #[] }, { accessFlags := 25, nameIndex := 480, descriptorIndex := 404, attributes := #[] }, { accessFlags := 25, nameIndex := 481, descriptorIndex := 404, attributes := #[] }, { accessFlags := 25, nameIndex := 482, descriptorIndex := 404, attributes := #[] }, { accessFlags := 25, nameIndex := 484, descriptorIndex := 404, attributes := #[] }, { accessFlags := 25, nameIndex := 485, descriptorIndex := 404, attributes := #[] }, { accessFlags := 25, nameIndex := 486, descriptorIndex := 404, attributes := #[] }, { accessFlags := 25, nameIndex := 487, descriptorIndex := 404, attributes := #[] }, { accessFlags := 25, nameIndex := 488, descriptorIndex := 404, attributes := #[] }, { accessFlags := 25, nameIndex := 489, descriptorIndex := 22, attributes := #[] }, { accessFlags := 25, nameIndex := 490, descriptorIndex := 22, attributes := #[] }, { accessFlags := 25, nameIndex := 492, descriptorIndex := 22, attributes := #[] }, { accessFlags := 25, nameIndex := 493, descriptorIndex := 22, attributes := #[] }, { accessFlags := 25, nameIndex := 495, descriptorIndex := 22, attributes := #[] }, { accessFlags := 25, nameIndex := 496, descriptorIndex := 22, attributes := #[] }, { accessFlags := 25, nameIndex := 497, descriptorIndex := 392, attributes := #[] }, { accessFlags := 25, nameIndex := 498, descriptorIndex := 392, attributes := #[] }, { accessFlags := 25, nameIndex := 499, descriptorIndex := 392, attributes := #[] }, { accessFlags := 18, nameIndex := 21, descriptorIndex := 22, attributes := #[] }, { accessFlags := 26, nameIndex := 501, descriptorIndex := 502, attributes := #[] }, { accessFlags := 25, nameIndex := 505, descriptorIndex := 392, attributes := #[] }, { accessFlags := 25, nameIndex := 506, descriptorIndex := 392, attributes := #[] }, { accessFlags := 4120, nameIndex := 284, descriptorIndex := 285, attributes := #[] }])
  fields := #[{ name := "MIN_RADIX", type := .int, accessFlags := 25, slot := 0, constantValue := 0 }, { name := "MAX_RADIX", type := .int, accessFlags := 25, slot := 1, constantValue := 0 }, { name := "MIN_VALUE", type := .char, accessFlags := 25, slot := 2, constantValue := 0 }, { name := "MAX_VALUE", type := .char, accessFlags := 25, slot := 3, constantValue := 0 }, { name := "TYPE", type := (.object "java/lang/Class"), accessFlags := 25, slot := 4, constantValue := 0 }, { name := "UNASSIGNED", type := .byte, accessFlags := 25, slot := 5, constantValue := 0 }, { name := "UPPERCASE_LETTER", type := .byte, accessFlags := 25, slot := 6, constantValue := 0 }, { name := "LOWERCASE_LETTER", type := .byte, accessFlags := 25, slot := 7, constantValue := 0 }, { name := "TITLECASE_LETTER", type := .byte, accessFlags := 25, slot := 8, constantValue := 0 }, { name := "MODIFIER_LETTER", type := .byte, accessFlags := 25, slot := 9, constantValue := 0 }, { name := "OTHER_LETTER", type := .byte, accessFlags := 25, slot := 10, constantValue := 0 }, { name := "NON_SPACING_MARK", type := .byte, accessFlags := 25, slot := 11, constantValue := 0 }, { name := "ENCLOSING_MARK", type := .byte, accessFlags := 25, slot := 12, constantValue := 0 }, { name := "COMBINING_SPACING_MARK", type := .byte, accessFlags := 25, slot := 13, constantValue := 0 }, { name := "DECIMAL_DIGIT_NUMBER", type := .byte, accessFlags := 25, slot := 14, constantValue := 0 }, { name := "LETTER_NUMBER", type := .byte, accessFlags := 25, slot := 15, constantValue := 0 }, { name := "OTHER_NUMBER", type := .byte, accessFlags := 25, slot := 16, constantValue := 0 }, { name := "SPACE_SEPARATOR", type := .byte, accessFlags := 25, slot := 17, constantValue := 0 }, { name := "LINE_SEPARATOR", type := .byte, accessFlags := 25, slot := 18, constantValue := 0 }, { name := "PARAGRAPH_SEPARATOR", type := .byte, accessFlags := 25, slot := 19, constantValue := 0 }, { name := "CONTROL", type := .byte, accessFlags := 25, slot := 20, constantValue := 0 }, { name := "FORMAT", type := .byte, accessFlags := 25, slot := 21, constantValue := 0 }, { name := "PRIVATE_USE", type := .byte, accessFlags := 25, slot := 22, constantValue := 0 }, { name := "SURROGATE", type := .byte, accessFlags := 25, slot := 23, constantValue := 0 }, { name := "DASH_PUNCTUATION", type := .byte, accessFlags := 25, slot := 24, constantValue := 0 }, { name := "START_PUNCTUATION", type := .byte, accessFlags := 25, slot := 25, constantValue := 0 }, { name := "END_PUNCTUATION", type := .byte, accessFlags := 25, slot := 26, constantValue := 0 }, { name := "CONNECTOR_PUNCTUATION", type := .byte, accessFlags := 25, slot := 27, constantValue := 0 }, { name := "OTHER_PUNCTUATION", type := .byte, accessFlags := 25, slot := 28, constantValue := 0 }, { name := "MATH_SYMBOL", type := .byte, accessFlags := 25, slot := 29, constantValue := 0 }, { name := "CURRENCY_SYMBOL", type := .byte, accessFlags := 25, slot := 30, constantValue := 0 }, { name := "MODIFIER_SYMBOL", type := .byte, accessFlags := 25, slot := 31, constantValue := 0 }, { name := "OTHER_SYMBOL", type := .byte, accessFlags := 25, slot := 32, constantValue := 0 }, { name := "INITIAL_QUOTE_PUNCTUATION", type := .byte, accessFlags := 25, slot := 33, constantValue := 0 }, { name := "FINAL_QUOTE_PUNCTUATION", type := .byte, accessFlags := 25, slot := 34, constantValue := 0 }, { name := "ERROR", type := .int, accessFlags := 24, slot := 35, constantValue := 0 }, { name := "DIRECTIONALITY_UNDEFINED", type := .byte, accessFlags := 25, slot := 36, constantValue := 0 }, { name := "DIRECTIONALITY_LEFT_TO_RIGHT", type := .byte, accessFlags := 25, slot := 37, constantValue := 0 }, { name := "DIRECTIONALITY_RIGHT_TO_LEFT", type := .byte, accessFlags := 25, slot := 38, constantValue := 0 }, { name := "DIRECTIONALITY_RIGHT_TO_LEFT_ARABIC", type := .byte, accessFlags := 25, slot := 39, constantValue := 0 }, { name := "DIRECTIONALITY_EUROPEAN_NUMBER", type := .byte, accessFlags := 25, slot := 40, constantValue := 0 }, { name := "DIRECTIONALITY_EUROPEAN_NUMBER_SEPARATOR", type := .byte, accessFlags := 25, slot := 41, constantValue := 0 }, { name := "DIRECTIONALITY_EUROPEAN_NUMBER_TERMINATOR", type := .byte, accessFlags := 25, slot := 42, constantValue := 0 }, { name := "DIRECTIONALITY_ARABIC_NUMBER", type := .byte, accessFlags := 25, slot := 43, constantValue := 0 }, { name := "DIRECTIONALITY_COMMON_NUMBER_SEPARATOR", type := .byte, accessFlags := 25, slot := 44, constantValue := 0 }, { name := "DIRECTIONALITY_NONSPACING_MARK", type := .byte, accessFlags := 25, slot := 45, constantValue := 0 }, { name := "DIRECTIONALITY_BOUNDARY_NEUTRAL", type := .byte, accessFlags := 25, slot := 46, constantValue := 0 }, { name := "DIRECTIONALITY_PARAGRAPH_SEPARATOR", type := .byte, accessFlags := 25, slot := 47, constantValue := 0 }, { name := "DIRECTIONALITY_SEGMENT_SEPARATOR", type := .byte, accessFlags := 25, slot := 48, constantValue := 0 }, { name := "DIRECTIONALITY_WHITESPACE", type := .byte, accessFlags := 25, slot := 49, constantValue := 0 }, { name := "DIRECTIONALITY_OTHER_NEUTRALS", type := .byte, accessFlags := 25, slot := 50, constantValue := 0 }, { name := "DIRECTIONALITY_LEFT_TO_RIGHT_EMBEDDING", type := .byte, accessFlags := 25, slot := 51, constantValue := 0 }, { name := "DIRECTIONALITY_LEFT_TO_RIGHT_OVERRIDE", type := .byte, accessFlags := 25, slot := 52, constantValue := 0 }, { name := "DIRECTIONALITY_RIGHT_TO_LEFT_EMBEDDING", type := .byte, accessFlags := 25, slot := 53, constantValue := 0 }, { name := "DIRECTIONALITY_RIGHT_TO_LEFT_OVERRIDE", type := .byte, accessFlags := 25, slot := 54, constantValue := 0 }, { name := "DIRECTIONALITY_POP_DIRECTIONAL_FORMAT", type := .byte, accessFlags := 25, slot := 55, constantValue := 0 }, { name := "DIRECTIONALITY_LEFT_TO_RIGHT_ISOLATE", type := .byte, accessFlags := 25, slot := 56, constantValue := 0 }, { name := "DIRECTIONALITY_RIGHT_TO_LEFT_ISOLATE", type := .byte, accessFlags := 25, slot := 57, constantValue := 0 }, { name := "DIRECTIONALITY_FIRST_STRONG_ISOLATE", type := .byte, accessFlags := 25, slot := 58, constantValue := 0 }, { name := "DIRECTIONALITY_POP_DIRECTIONAL_ISOLATE", type := .byte, accessFlags := 25, slot := 59, constantValue := 0 }, { name := "MIN_HIGH_SURROGATE", type := .char, accessFlags := 25, slot := 60, constantValue := 0 }, { name := "MAX_HIGH_SURROGATE", type := .char, accessFlags := 25, slot := 61, constantValue := 0 }, { name := "MIN_LOW_SURROGATE", type := .char, accessFlags := 25, slot := 62, constantValue := 0 }, { name := "MAX_LOW_SURROGATE", type := .char, accessFlags := 25, slot := 63, constantValue := 0 }, { name := "MIN_SURROGATE", type := .char, accessFlags := 25, slot := 64, constantValue := 0 }, { name := "MAX_SURROGATE", type := .char, accessFlags := 25, slot := 65, constantValue := 0 }, { name := "MIN_SUPPLEMENTARY_CODE_POINT", type := .int, accessFlags := 25, slot := 66, constantValue := 0 }, { name := "MIN_CODE_POINT", type := .int, accessFlags := 25, slot := 67, constantValue := 0 }, { name := "MAX_CODE_POINT", type := .int, accessFlags := 25, slot := 68, constantValue := 0 }, { name := "value", type := .char, accessFlags := 18, slot := 0, constantValue := 0 }, { name := "serialVersionUID", type := .long, accessFlags := 26, slot := 69, constantValue := 0 }, { name := "SIZE", type := .int, accessFlags := 25, slot := 70, constantValue := 0 }, { name := "BYTES", type := .int, accessFlags := 25, slot := 71, constantValue := 0 }, { name := "$assertionsDisabled", type := .boolean, accessFlags := 4120, slot := 72, constantValue := 0 }]
  methods := #[k14m0, k14m1, k14m2, k14m3]
  instanceTypes := #[.char]
  staticTypes := #[.int, .int, .char, .char, (.object "java/lang/Class"), .byte, .byte, .byte, .byte, .byte, .byte, .byte, .byte, .byte, .byte, .byte, .byte, .byte, .byte, .byte, .byte, .byte, .byte, .byte, .byte, .byte, .byte, .byte, .byte, .byte, .byte, .byte, .byte, .byte, .byte, .int, .byte, .byte, .byte, .byte, .byte, .byte, .byte, .byte, .byte, .byte, .byte, .byte, .byte, .byte, .byte, .byte, .byte, .byte, .byte, .byte, .byte, .byte, .byte, .byte, .char, .char, .char, .char, .char, .char, .int, .int, .int, .long, .int, .int, .boolean]
  resolved := Array.replicate 604 none
  statics := none }

def pool15 : Array CpInfo := pool [(1, .class_ 2), (0, u "java/lang/Integer"), (16, u "digits"), (0, u "[C"), (39, u "(II)I"), (24, u "DigitOnes"), (0, u "[B"), (2, u "DigitTens"), (99, .class_ 190), (0, u "java/lang/Integer$IntegerCache"), (3, u "I"), (8, .class_ 204), (0, u "java/lang/Number"), (2, u "value"), (53, u "compare"), (40, u "TYPE"), (0, u "Ljava/lang/Class;"), (0, .class_ 305), (0, u "java/lang/Comparable"), (0, .class_ 307), (0, u "java/lang/constant/Constable"), (0, .class_ 309), (0, u "java/lang/constant/ConstantDesc"), (0, u "MIN_VALUE"), (1, u "MAX_VALUE"), (3, u "SIZE"), (1, u "BYTES"), (1, u "serialVersionUID"), (0, u "J")] 131

def k15c0 : Code := { maxStack := 2, maxLocals := 2, code := jdk_33_method_40_code, exceptionTable := #[], attributes := #[] }
def k15m0 : Method := { name := "compare", desc := "(II)I", sig := { parameters := [.int, .int], returnType := some .int }, accessFlags := 9, code := some k15c0 }
/-- java/lang/Integer -/
def k15 : Class := { plain "java/lang/Integer" (some 3) with
  accessFlags := 49
  interfaces := #[4, 5, 6]
  cf := some (fileOf pool15 1 #[.nestMembers #[189]] #[{ accessFlags := 9, nameIndex := 261, descriptorIndex := 60, attributes := #[] }] 49 203 #[304, 306, 308] #[{ accessFlags := 25, nameIndex := 310, descriptorIndex := 194, attributes := #[] }, { accessFlags := 25, nameIndex := 312, descriptorIndex := 194, attributes := #[] }, { accessFlags := 25, nameIndex := 302, descriptorIndex := 303, attributes := #[] }, { accessFlags := 24, nameIndex := 19, descriptorIndex := 20, attributes := #[] }, { accessFlags := 24, nameIndex := 89, descriptorIndex := 86, attributes := #[] }, { accessFlags := 24, nameIndex := 85, descriptorIndex := 86, attributes := #[] }, { accessFlags := 18, nameIndex := 207, descriptorIndex := 194, attributes := #[] }, { accessFlags := 25, nameIndex := 316, descriptorIndex := 194, attributes := #[] }, { accessFlags := 25, nameIndex := 318, descriptorIndex := 194, attributes := #[] }, { accessFlags := 26, nameIndex := 320, descriptorIndex := 321, attributes := #[] }])
  fields := #[{ name := "MIN_VALUE", type := .int, accessFlags := 25, slot := 0, constantValue := 0 }, { name := "MAX_VALUE", type := .int, accessFlags := 25, slot := 1, constantValue := 0 }, { name := "TYPE", type := (.object "java/lang/Class"), accessFlags := 25, slot := 2, constantValue := 0 }, { name := "digits", type := (.array .char), accessFlags := 24, slot := 3, constantValue := 0 }, { name := "DigitTens", type := (.array .byte), accessFlags := 24, slot := 4, constantValue := 0 }, { name := "DigitOnes", type := (.array .byte), accessFlags := 24, slot := 5, constantValue := 0 }, { name := "value", type := .int, accessFlags := 18, slot := 0, constantValue := 0 }, { name := "SIZE", type := .int, accessFlags := 25, slot := 6, constantValue := 0 }, { name := "BYTES", type := .int, accessFlags := 25, slot := 7, constantValue := 0 }, { name := "serialVersionUID", type := .long, accessFlags := 26, slot := 8, constantValue := 0 }]
  methods := #[k15m0]
  instanceTypes := #[.int]
  staticTypes := #[.int, .int, (.object "java/lang/Class"), (.array .char), (.array .byte), (.array .byte), .int, .int, .long]
  resolved := Array.replicate 453 none
  statics := none }

def pool16 : Array CpInfo := pool [(4, .class_ 6), (1, u "java/lang/Object"), (0, u "<init>"), (0, u "()V"), (5, .class_ 16), (1, u "java/lang/StringLatin1"), (104, u "$assertionsDisabled"), (0, u "Z"), (98, .class_ 223), (1, u "java/lang/StringLatin1$LinesSpliterator"), (166, .class_ 391), (0, u "java/lang/StringLatin1$CharsSpliterator")] 3

def k16m0 : Method := { name := "<init>", desc := "()V", sig := { parameters := [], returnType := none }, accessFlags := 0, code := none }
/-- java/lang/StringLatin1 -/
def k16 : Class := { plain "java/lang/StringLatin1" (some 0) with
  accessFlags := 48
  interfaces := #[]
  cf := some (fileOf pool16 14 #[.nestMembers #[390, 221]] #[{ accessFlags := 0, nameIndex := 7, descriptorIndex := 8, attributes := #[] }] 48 4 #[] #[{ accessFlags := 4120, nameIndex := 121, descriptorIndex := 122, attributes := #[] }])
  fields := #[{ name := "$assertionsDisabled", type := .boolean, accessFlags := 4120, slot := 0, constantValue := 0 }]
  methods := #[k16m0]
  instanceTypes := #[]
  staticTypes := #[.boolean]
  resolved := Array.replicate 395 none
  statics := none }

def pool17 : Array CpInfo := pool [(9, u "<init>"), (6, .class_ 18), (1, u "java/lang/Object"), (0, u "()V"), (1, .class_ 23), (1, u "jdk/internal/util/ArraysSupport"), (0, u "LOG2_ARRAY_LONG_INDEX_SCALE"), (0, u "I"), (2, u "U"), (0, u "Ljdk/internal/misc/Unsafe;"), (8, u "BIG_ENDIAN"), (0, u "Z"), (8, u "LOG2_BYTE_BIT_SIZE"), (4, u "LOG2_ARRAY_INT_INDEX_SCALE"), (54, u "JLA"), (0, u "Ljdk/internal/access/JavaLangAccess;"), (11, u "LOG2_ARRAY_BOOLEAN_INDEX_SCALE"), (9, u "LOG2_ARRAY_BYTE_INDEX_SCALE"), (5, u "LOG2_ARRAY_CHAR_INDEX_SCALE"), (5, u "LOG2_ARRAY_SHORT_INDEX_SCALE"), (18, u "LOG2_ARRAY_FLOAT_INDEX_SCALE"), (24, u "LOG2_ARRAY_DOUBLE_INDEX_SCALE"), (89, u "T_BOOLEAN"), (2, u "T_CHAR"), (1, u "T_FLOAT"), (1, u "T_DOUBLE"), (1, u "T_BYTE"), (1, u "T_SHORT"), (1, u "T_INT"), (1, u "T_LONG"), (1, u "SOFT_MAX_ARRAY_LENGTH")] 83

def k17m0 : Method := { name := "<init>", desc := "()V", sig := { parameters := [], returnType := none }, accessFlags := 2, code := none }
/-- jdk/internal/util/ArraysSupport -/
def k17 : Class := { plain "jdk/internal/util/ArraysSupport" (some 0) with
  accessFlags := 33
  interfaces := #[]
  cf := some (fileOf pool17 21 #[] #[{ accessFlags := 2, nameIndex := 9, descriptorIndex := 19, attributes := #[] }] 33 16 #[] #[{ accessFlags := 24, nameIndex := 28, descriptorIndex := 29, attributes := #[] }, { accessFlags := 26, nameIndex := 38, descriptorIndex := 39, attributes := #[] }, { accessFlags := 25, nameIndex := 121, descriptorIndex := 25, attributes := #[] }, { accessFlags := 25, nameIndex := 131, descriptorIndex := 25, attributes := #[] }, { accessFlags := 25, nameIndex := 137, descriptorIndex := 25, attributes := #[] }, { accessFlags := 25, nameIndex := 143, descriptorIndex := 25, attributes := #[] }, { accessFlags := 25, nameIndex := 53, descriptorIndex := 25, attributes := #[] }, { accessFlags := 25, nameIndex := 24, descriptorIndex := 25, attributes := #[] }, { accessFlags := 25, nameIndex := 162, descriptorIndex := 25, attributes := #[] }, { accessFlags := 25, nameIndex := 187, descriptorIndex := 25, attributes := #[] }, { accessFlags := 26, nameIndex := 48, descriptorIndex := 25, attributes := #[] }, { accessFlags := 25, nameIndex := 277, descriptorIndex := 25, attributes := #[] }, { accessFlags := 25, nameIndex := 280, descriptorIndex := 25, attributes := #[] }, { accessFlags := 25, nameIndex := 282, descriptorIndex := 25, attributes := #[] }, { accessFlags := 25, nameIndex := 284, descriptorIndex := 25, attributes := #[] }, { accessFlags := 25, nameIndex := 286, descriptorIndex := 25, attributes := #[] }, { accessFlags := 25, nameIndex := 288, descriptorIndex := 25, attributes := #[] }, { accessFlags := 25, nameIndex := 290, descriptorIndex := 25, attributes := #[] }, { accessFlags := 25, nameIndex := 292, descriptorIndex := 25, attributes := #[] }, { accessFlags := 26, nameIndex := 108, descriptorIndex := 109, attributes := #[] }, { accessFlags := 25, nameIndex := 294, descriptorIndex := 25, attributes := #[] }])
  fields := #[{ name := "U", type := (.object "jdk/internal/misc/Unsafe"), accessFlags := 24, slot := 0, constantValue := 0 }, { name := "BIG_ENDIAN", type := .boolean, accessFlags := 26, slot := 1, constantValue := 0 }, { name := "LOG2_ARRAY_BOOLEAN_INDEX_SCALE", type := .int, accessFlags := 25, slot := 2, constantValue := 0 }, { name := "LOG2_ARRAY_BYTE_INDEX_SCALE", type := .int, accessFlags := 25, slot := 3, constantValue := 0 }, { name := "LOG2_ARRAY_CHAR_INDEX_SCALE", type := .int, accessFlags := 25, slot := 4, constantValue := 0 }, { name := "LOG2_ARRAY_SHORT_INDEX_SCALE", type := .int, accessFlags := 25, slot := 5, constantValue := 0 }, { name := "LOG2_ARRAY_INT_INDEX_SCALE", type := .int, accessFlags := 25, slot := 6, constantValue := 0 }, { name := "LOG2_ARRAY_LONG_INDEX_SCALE", type := .int, accessFlags := 25, slot := 7, constantValue := 0 }, { name := "LOG2_ARRAY_FLOAT_INDEX_SCALE", type := .int, accessFlags := 25, slot := 8, constantValue := 0 }, { name := "LOG2_ARRAY_DOUBLE_INDEX_SCALE", type := .int, accessFlags := 25, slot := 9, constantValue := 0 }, { name := "LOG2_BYTE_BIT_SIZE", type := .int, accessFlags := 26, slot := 10, constantValue := 0 }, { name := "T_BOOLEAN", type := .int, accessFlags := 25, slot := 11, constantValue := 0 }, { name := "T_CHAR", type := .int, accessFlags := 25, slot := 12, constantValue := 0 }, { name := "T_FLOAT", type := .int, accessFlags := 25, slot := 13, constantValue := 0 }, { name := "T_DOUBLE", type := .int, accessFlags := 25, slot := 14, constantValue := 0 }, { name := "T_BYTE", type := .int, accessFlags := 25, slot := 15, constantValue := 0 }, { name := "T_SHORT", type := .int, accessFlags := 25, slot := 16, constantValue := 0 }, { name := "T_INT", type := .int, accessFlags := 25, slot := 17, constantValue := 0 }, { name := "T_LONG", type := .int, accessFlags := 25, slot := 18, constantValue := 0 }, { name := "JLA", type := (.object "jdk/internal/access/JavaLangAccess"), accessFlags := 26, slot := 19, constantValue := 0 }, { name := "SOFT_MAX_ARRAY_LENGTH", type := .int, accessFlags := 25, slot := 20, constantValue := 0 }]
  methods := #[k17m0]
  instanceTypes := #[]
  staticTypes := #[(.object "jdk/internal/misc/Unsafe"), .boolean, .int, .int, .int, .int, .int, .int, .int, .int, .int, .int, .int, .int, .int, .int, .int, .int, .int, (.object "jdk/internal/access/JavaLangAccess"), .int]
  resolved := Array.replicate 378 none
  statics := none }

def pool18 : Array CpInfo := pool [(1, u "java/lang/Cloneable"), (0, .class_ 1), (0, u "java/lang/Object"), (0, .class_ 3)] 3

/-- java/lang/Cloneable -/
def k18 : Class := { plain "java/lang/Cloneable" (some 0) with
  accessFlags := 1537
  interfaces := #[]
  cf := some (fileOf pool18 2 #[] #[] 1537 4 #[] #[])
  fields := #[]
  methods := #[]
  instanceTypes := #[]
  staticTypes := #[]
  resolved := Array.replicate 8 none
  statics := none }

/-- the primitive byte -/
def k19 : Class := { plain "byte" none with kind := .primitive 'B', accessFlags := 0x411 }
/-- [B -/
def k20 : Class := { plain "[B" (some 0) with kind := .array 19 .byte, interfaces := #[18, 2], accessFlags := 1041 }

/-- the primitive char -/
def k21 : Class := { plain "char" none with kind := .primitive 'C', accessFlags := 0x411 }
/-- [C -/
def k22 : Class := { plain "[C" (some 0) with kind := .array 21 .char, interfaces := #[18, 2], accessFlags := 1041 }

/-- the primitive int -/
def k23 : Class := { plain "int" none with kind := .primitive 'I', accessFlags := 0x411 }
/-- [I -/
def k24 : Class := { plain "[I" (some 0) with kind := .array 23 .int, interfaces := #[18, 2], accessFlags := 1041 }

/-- [Ljava/lang/Long; -/
def k25 : Class := { plain "[Ljava/lang/Long;" (some 0) with kind := .array 7 (.object "java/lang/Long"), interfaces := #[18, 2], accessFlags := 1041 }

def heap : Heap := #[{ cls := 8, slots := #[.ref 4, .null, .int 0], vm := .statics 8 },
  { cls := 11, slots := #[.long 0, .int 1, .null, .int 0, .null, .int 0, .int 0], vm := .statics 11 },
  { cls := 12, slots := #[.int 0, .int 8, .int 0, .int 1], vm := .statics 12 },
  { cls := 13, slots := #[.null, .null, .null], vm := .statics 13 },
  { cls := 25, slots := #[.ref 5, .ref 6, .ref 7, .ref 8, .ref 9, .ref 10, .ref 11, .ref 12, .ref 13, .ref 14, .ref 15, .ref 16, .ref 17, .ref 18, .ref 19, .ref 20, .ref 21, .ref 22, .ref 23, .ref 24, .ref 25, .ref 26, .ref 27, .ref 28, .ref 29, .ref 30, .ref 31, .ref 32, .ref 33, .ref 34, .ref 35, .ref 36, .ref 37, .ref 38, .ref 39, .ref 40, .ref 41, .ref 42, .ref 43, .ref 44, .ref 45, .ref 46, .ref 47, .ref 48, .ref 49, .ref 50, .ref 51, .ref 52, .ref 53, .ref 54, .ref 55, .ref 56, .ref 57, .ref 58, .ref 59, .ref 60, .ref 61, .ref 62, .ref 63, .ref 64, .ref 65, .ref 66, .ref 67, .ref 68, .ref 69, .ref 70, .ref 71, .ref 72, .ref 73, .ref 74, .ref 75, .ref 76, .ref 77, .ref 78, .ref 79, .ref 80, .ref 81, .ref 82, .ref 83, .ref 84, .ref 85, .ref 86, .ref 87, .ref 88, .ref 89, .ref 90, .ref 91, .ref 92, .ref 93, .ref 94, .ref 95, .ref 96, .ref 97, .ref 98, .ref 99, .ref 100, .ref 101, .ref 102, .ref 103, .ref 104, .ref 105, .ref 106, .ref 107, .ref 108, .ref 109, .ref 110, .ref 111, .ref 112, .ref 113, .ref 114, .ref 115, .ref 116, .ref 117, .ref 118, .ref 119, .ref 120, .ref 121, .ref 122, .ref 123, .ref 124, .ref 125, .ref 126, .ref 127, .ref 128, .ref 129, .ref 130, .ref 131, .ref 132, .ref 133, .ref 134, .ref 135, .ref 136, .ref 137, .ref 138, .ref 139, .ref 140, .ref 141, .ref 142, .ref 143, .ref 144, .ref 145, .ref 146, .ref 147, .ref 148, .ref 149, .ref 150, .ref 151, .ref 152, .ref 153, .ref 154, .ref 155, .ref 156, .ref 157, .ref 158, .ref 159, .ref 160, .ref 161, .ref 162, .ref 163, .ref 164, .ref 165, .ref 166, .ref 167, .ref 168, .ref 169, .ref 170, .ref 171, .ref 172, .ref 173, .ref 174, .ref 175, .ref 176, .ref 177, .ref 178, .ref 179, .ref 180, .ref 181, .ref 182, .ref 183, .ref 184, .ref 185, .ref 186, .ref 187, .ref 188, .ref 189, .ref 190, .ref 191, .ref 192, .ref 193, .ref 194, .ref 195, .ref 196, .ref 197, .ref 198, .ref 199, .ref 200, .ref 201, .ref 202, .ref 203, .ref 204, .ref 205, .ref 206, .ref 207, .ref 208, .ref 209, .ref 210, .ref 211, .ref 212, .ref 213, .ref 214, .ref 215, .ref 216, .ref 217, .ref 218, .ref 219, .ref 220, .ref 221, .ref 222, .ref 223, .ref 224, .ref 225, .ref 226, .ref 227, .ref 228, .ref 229, .ref 230, .ref 231, .ref 232, .ref 233, .ref 234, .ref 235, .ref 236, .ref 237, .ref 238, .ref 239, .ref 240, .ref 241, .ref 242, .ref 243, .ref 244, .ref 245, .ref 246, .ref 247, .ref 248, .ref 249, .ref 250, .ref 251, .ref 252, .ref 253, .ref 254, .ref 255, .ref 256, .ref 257, .ref 258, .ref 259, .ref 260], vm := .none },
  { cls := 7, slots := #[.long (-128)], vm := .none },
  { cls := 7, slots := #[.long (-127)], vm := .none },
  { cls := 7, slots := #[.long (-126)], vm := .none },
  { cls := 7, slots := #[.long (-125)], vm := .none },
  { cls := 7, slots := #[.long (-124)], vm := .none },
  { cls := 7, slots := #[.long (-123)], vm := .none },
  { cls := 7, slots := #[.long (-122)], vm := .none },
  { cls := 7, slots := #[.long (-121)], vm := .none },
  { cls := 7, slots := #[.long (-120)], vm := .none },
  { cls := 7, slots := #[.long (-119)], vm := .none },
  { cls := 7, slots := #[.long (-118)], vm := .none },
  { cls := 7, slots := #[.long (-117)], vm := .none },
  { cls := 7, slots := #[.long (-116)], vm := .none },
  { cls := 7, slots := #[.long (-115)], vm := .none },
  { cls := 7, slots := #[.long (-114)], vm := .none },
  { cls := 7, slots := #[.long (-113)], vm := .none },
  { cls := 7, slots := #[.long (-112)], vm := .none },
  { cls := 7, slots := #[.long (-111)], vm := .none },
  { cls := 7, slots := #[.long (-110)], vm := .none },
  { cls := 7, slots := #[.long (-109)], vm := .none },
  { cls := 7, slots := #[.long (-108)], vm := .none },
  { cls := 7, slots := #[.long (-107)], vm := .none },
  { cls := 7, slots := #[.long (-106)], vm := .none },
  { cls := 7, slots := #[.long (-105)], vm := .none },
  { cls := 7, slots := #[.long (-104)], vm := .none },
  { cls := 7, slots := #[.long (-103)], vm := .none },
  { cls := 7, slots := #[.long (-102)], vm := .none },
  { cls := 7, slots := #[.long (-101)], vm := .none },
  { cls := 7, slots := #[.long (-100)], vm := .none },
  { cls := 7, slots := #[.long (-99)], vm := .none },
  { cls := 7, slots := #[.long (-98)], vm := .none },
  { cls := 7, slots := #[.long (-97)], vm := .none },
  { cls := 7, slots := #[.long (-96)], vm := .none },
  { cls := 7, slots := #[.long (-95)], vm := .none },
  { cls := 7, slots := #[.long (-94)], vm := .none },
  { cls := 7, slots := #[.long (-93)], vm := .none },
  { cls := 7, slots := #[.long (-92)], vm := .none },
  { cls := 7, slots := #[.long (-91)], vm := .none },
  { cls := 7, slots := #[.long (-90)], vm := .none },
  { cls := 7, slots := #[.long (-89)], vm := .none },
  { cls := 7, slots := #[.long (-88)], vm := .none },
  { cls := 7, slots := #[.long (-87)], vm := .none },
  { cls := 7, slots := #[.long (-86)], vm := .none },
  { cls := 7, slots := #[.long (-85)], vm := .none },
  { cls := 7, slots := #[.long (-84)], vm := .none },
  { cls := 7, slots := #[.long (-83)], vm := .none },
  { cls := 7, slots := #[.long (-82)], vm := .none },
  { cls := 7, slots := #[.long (-81)], vm := .none },
  { cls := 7, slots := #[.long (-80)], vm := .none },
  { cls := 7, slots := #[.long (-79)], vm := .none },
  { cls := 7, slots := #[.long (-78)], vm := .none },
  { cls := 7, slots := #[.long (-77)], vm := .none },
  { cls := 7, slots := #[.long (-76)], vm := .none },
  { cls := 7, slots := #[.long (-75)], vm := .none },
  { cls := 7, slots := #[.long (-74)], vm := .none },
  { cls := 7, slots := #[.long (-73)], vm := .none },
  { cls := 7, slots := #[.long (-72)], vm := .none },
  { cls := 7, slots := #[.long (-71)], vm := .none },
  { cls := 7, slots := #[.long (-70)], vm := .none },
  { cls := 7, slots := #[.long (-69)], vm := .none },
  { cls := 7, slots := #[.long (-68)], vm := .none },
  { cls := 7, slots := #[.long (-67)], vm := .none },
  { cls := 7, slots := #[.long (-66)], vm := .none },
  { cls := 7, slots := #[.long (-65)], vm := .none },
  { cls := 7, slots := #[.long (-64)], vm := .none },
  { cls := 7, slots := #[.long (-63)], vm := .none },
  { cls := 7, slots := #[.long (-62)], vm := .none },
  { cls := 7, slots := #[.long (-61)], vm := .none },
  { cls := 7, slots := #[.long (-60)], vm := .none },
  { cls := 7, slots := #[.long (-59)], vm := .none },
  { cls := 7, slots := #[.long (-58)], vm := .none },
  { cls := 7, slots := #[.long (-57)], vm := .none },
  { cls := 7, slots := #[.long (-56)], vm := .none },
  { cls := 7, slots := #[.long (-55)], vm := .none },
  { cls := 7, slots := #[.long (-54)], vm := .none },
  { cls := 7, slots := #[.long (-53)], vm := .none },
  { cls := 7, slots := #[.long (-52)], vm := .none },
  { cls := 7, slots := #[.long (-51)], vm := .none },
  { cls := 7, slots := #[.long (-50)], vm := .none },
  { cls := 7, slots := #[.long (-49)], vm := .none },
  { cls := 7, slots := #[.long (-48)], vm := .none },
  { cls := 7, slots := #[.long (-47)], vm := .none },
  { cls := 7, slots := #[.long (-46)], vm := .none },
  { cls := 7, slots := #[.long (-45)], vm := .none },
  { cls := 7, slots := #[.long (-44)], vm := .none },
  { cls := 7, slots := #[.long (-43)], vm := .none },
  { cls := 7, slots := #[.long (-42)], vm := .none },
  { cls := 7, slots := #[.long (-41)], vm := .none },
  { cls := 7, slots := #[.long (-40)], vm := .none },
  { cls := 7, slots := #[.long (-39)], vm := .none },
  { cls := 7, slots := #[.long (-38)], vm := .none },
  { cls := 7, slots := #[.long (-37)], vm := .none },
  { cls := 7, slots := #[.long (-36)], vm := .none },
  { cls := 7, slots := #[.long (-35)], vm := .none },
  { cls := 7, slots := #[.long (-34)], vm := .none },
  { cls := 7, slots := #[.long (-33)], vm := .none },
  { cls := 7, slots := #[.long (-32)], vm := .none },
  { cls := 7, slots := #[.long (-31)], vm := .none },
  { cls := 7, slots := #[.long (-30)], vm := .none },
  { cls := 7, slots := #[.long (-29)], vm := .none },
  { cls := 7, slots := #[.long (-28)], vm := .none },
  { cls := 7, slots := #[.long (-27)], vm := .none },
  { cls := 7, slots := #[.long (-26)], vm := .none },
  { cls := 7, slots := #[.long (-25)], vm := .none },
  { cls := 7, slots := #[.long (-24)], vm := .none },
  { cls := 7, slots := #[.long (-23)], vm := .none },
  { cls := 7, slots := #[.long (-22)], vm := .none },
  { cls := 7, slots := #[.long (-21)], vm := .none },
  { cls := 7, slots := #[.long (-20)], vm := .none },
  { cls := 7, slots := #[.long (-19)], vm := .none },
  { cls := 7, slots := #[.long (-18)], vm := .none },
  { cls := 7, slots := #[.long (-17)], vm := .none },
  { cls := 7, slots := #[.long (-16)], vm := .none },
  { cls := 7, slots := #[.long (-15)], vm := .none },
  { cls := 7, slots := #[.long (-14)], vm := .none },
  { cls := 7, slots := #[.long (-13)], vm := .none },
  { cls := 7, slots := #[.long (-12)], vm := .none },
  { cls := 7, slots := #[.long (-11)], vm := .none },
  { cls := 7, slots := #[.long (-10)], vm := .none },
  { cls := 7, slots := #[.long (-9)], vm := .none },
  { cls := 7, slots := #[.long (-8)], vm := .none },
  { cls := 7, slots := #[.long (-7)], vm := .none },
  { cls := 7, slots := #[.long (-6)], vm := .none },
  { cls := 7, slots := #[.long (-5)], vm := .none },
  { cls := 7, slots := #[.long (-4)], vm := .none },
  { cls := 7, slots := #[.long (-3)], vm := .none },
  { cls := 7, slots := #[.long (-2)], vm := .none },
  { cls := 7, slots := #[.long (-1)], vm := .none },
  { cls := 7, slots := #[.long 0], vm := .none },
  { cls := 7, slots := #[.long 1], vm := .none },
  { cls := 7, slots := #[.long 2], vm := .none },
  { cls := 7, slots := #[.long 3], vm := .none },
  { cls := 7, slots := #[.long 4], vm := .none },
  { cls := 7, slots := #[.long 5], vm := .none },
  { cls := 7, slots := #[.long 6], vm := .none },
  { cls := 7, slots := #[.long 7], vm := .none },
  { cls := 7, slots := #[.long 8], vm := .none },
  { cls := 7, slots := #[.long 9], vm := .none },
  { cls := 7, slots := #[.long 10], vm := .none },
  { cls := 7, slots := #[.long 11], vm := .none },
  { cls := 7, slots := #[.long 12], vm := .none },
  { cls := 7, slots := #[.long 13], vm := .none },
  { cls := 7, slots := #[.long 14], vm := .none },
  { cls := 7, slots := #[.long 15], vm := .none },
  { cls := 7, slots := #[.long 16], vm := .none },
  { cls := 7, slots := #[.long 17], vm := .none },
  { cls := 7, slots := #[.long 18], vm := .none },
  { cls := 7, slots := #[.long 19], vm := .none },
  { cls := 7, slots := #[.long 20], vm := .none },
  { cls := 7, slots := #[.long 21], vm := .none },
  { cls := 7, slots := #[.long 22], vm := .none },
  { cls := 7, slots := #[.long 23], vm := .none },
  { cls := 7, slots := #[.long 24], vm := .none },
  { cls := 7, slots := #[.long 25], vm := .none },
  { cls := 7, slots := #[.long 26], vm := .none },
  { cls := 7, slots := #[.long 27], vm := .none },
  { cls := 7, slots := #[.long 28], vm := .none },
  { cls := 7, slots := #[.long 29], vm := .none },
  { cls := 7, slots := #[.long 30], vm := .none },
  { cls := 7, slots := #[.long 31], vm := .none },
  { cls := 7, slots := #[.long 32], vm := .none },
  { cls := 7, slots := #[.long 33], vm := .none },
  { cls := 7, slots := #[.long 34], vm := .none },
  { cls := 7, slots := #[.long 35], vm := .none },
  { cls := 7, slots := #[.long 36], vm := .none },
  { cls := 7, slots := #[.long 37], vm := .none },
  { cls := 7, slots := #[.long 38], vm := .none },
  { cls := 7, slots := #[.long 39], vm := .none },
  { cls := 7, slots := #[.long 40], vm := .none },
  { cls := 7, slots := #[.long 41], vm := .none },
  { cls := 7, slots := #[.long 42], vm := .none },
  { cls := 7, slots := #[.long 43], vm := .none },
  { cls := 7, slots := #[.long 44], vm := .none },
  { cls := 7, slots := #[.long 45], vm := .none },
  { cls := 7, slots := #[.long 46], vm := .none },
  { cls := 7, slots := #[.long 47], vm := .none },
  { cls := 7, slots := #[.long 48], vm := .none },
  { cls := 7, slots := #[.long 49], vm := .none },
  { cls := 7, slots := #[.long 50], vm := .none },
  { cls := 7, slots := #[.long 51], vm := .none },
  { cls := 7, slots := #[.long 52], vm := .none },
  { cls := 7, slots := #[.long 53], vm := .none },
  { cls := 7, slots := #[.long 54], vm := .none },
  { cls := 7, slots := #[.long 55], vm := .none },
  { cls := 7, slots := #[.long 56], vm := .none },
  { cls := 7, slots := #[.long 57], vm := .none },
  { cls := 7, slots := #[.long 58], vm := .none },
  { cls := 7, slots := #[.long 59], vm := .none },
  { cls := 7, slots := #[.long 60], vm := .none },
  { cls := 7, slots := #[.long 61], vm := .none },
  { cls := 7, slots := #[.long 62], vm := .none },
  { cls := 7, slots := #[.long 63], vm := .none },
  { cls := 7, slots := #[.long 64], vm := .none },
  { cls := 7, slots := #[.long 65], vm := .none },
  { cls := 7, slots := #[.long 66], vm := .none },
  { cls := 7, slots := #[.long 67], vm := .none },
  { cls := 7, slots := #[.long 68], vm := .none },
  { cls := 7, slots := #[.long 69], vm := .none },
  { cls := 7, slots := #[.long 70], vm := .none },
  { cls := 7, slots := #[.long 71], vm := .none },
  { cls := 7, slots := #[.long 72], vm := .none },
  { cls := 7, slots := #[.long 73], vm := .none },
  { cls := 7, slots := #[.long 74], vm := .none },
  { cls := 7, slots := #[.long 75], vm := .none },
  { cls := 7, slots := #[.long 76], vm := .none },
  { cls := 7, slots := #[.long 77], vm := .none },
  { cls := 7, slots := #[.long 78], vm := .none },
  { cls := 7, slots := #[.long 79], vm := .none },
  { cls := 7, slots := #[.long 80], vm := .none },
  { cls := 7, slots := #[.long 81], vm := .none },
  { cls := 7, slots := #[.long 82], vm := .none },
  { cls := 7, slots := #[.long 83], vm := .none },
  { cls := 7, slots := #[.long 84], vm := .none },
  { cls := 7, slots := #[.long 85], vm := .none },
  { cls := 7, slots := #[.long 86], vm := .none },
  { cls := 7, slots := #[.long 87], vm := .none },
  { cls := 7, slots := #[.long 88], vm := .none },
  { cls := 7, slots := #[.long 89], vm := .none },
  { cls := 7, slots := #[.long 90], vm := .none },
  { cls := 7, slots := #[.long 91], vm := .none },
  { cls := 7, slots := #[.long 92], vm := .none },
  { cls := 7, slots := #[.long 93], vm := .none },
  { cls := 7, slots := #[.long 94], vm := .none },
  { cls := 7, slots := #[.long 95], vm := .none },
  { cls := 7, slots := #[.long 96], vm := .none },
  { cls := 7, slots := #[.long 97], vm := .none },
  { cls := 7, slots := #[.long 98], vm := .none },
  { cls := 7, slots := #[.long 99], vm := .none },
  { cls := 7, slots := #[.long 100], vm := .none },
  { cls := 7, slots := #[.long 101], vm := .none },
  { cls := 7, slots := #[.long 102], vm := .none },
  { cls := 7, slots := #[.long 103], vm := .none },
  { cls := 7, slots := #[.long 104], vm := .none },
  { cls := 7, slots := #[.long 105], vm := .none },
  { cls := 7, slots := #[.long 106], vm := .none },
  { cls := 7, slots := #[.long 107], vm := .none },
  { cls := 7, slots := #[.long 108], vm := .none },
  { cls := 7, slots := #[.long 109], vm := .none },
  { cls := 7, slots := #[.long 110], vm := .none },
  { cls := 7, slots := #[.long 111], vm := .none },
  { cls := 7, slots := #[.long 112], vm := .none },
  { cls := 7, slots := #[.long 113], vm := .none },
  { cls := 7, slots := #[.long 114], vm := .none },
  { cls := 7, slots := #[.long 115], vm := .none },
  { cls := 7, slots := #[.long 116], vm := .none },
  { cls := 7, slots := #[.long 117], vm := .none },
  { cls := 7, slots := #[.long 118], vm := .none },
  { cls := 7, slots := #[.long 119], vm := .none },
  { cls := 7, slots := #[.long 120], vm := .none },
  { cls := 7, slots := #[.long 121], vm := .none },
  { cls := 7, slots := #[.long 122], vm := .none },
  { cls := 7, slots := #[.long 123], vm := .none },
  { cls := 7, slots := #[.long 124], vm := .none },
  { cls := 7, slots := #[.long 125], vm := .none },
  { cls := 7, slots := #[.long 126], vm := .none },
  { cls := 7, slots := #[.long 127], vm := .none }]
def classes : Array Class := #[k0, k1, k2, k3, k4, k5, k6, k7, k8, k9, k10, k11, k12, k13, k14, k15, k16, k17, k18, k19, k20, k21, k22, k23, k24, k25]
def interned : List (Array UInt16 × Addr) := []
def slotsUsed : Nat := 529
def theMethod : MethodId := ⟨1, 1⟩
def args0 : Array Value := #[.long 5, .long 7, .int 3]
def aboutOver (below : List Frame) : State where
  vm := { classes := classes, interned := interned.toArray }
  heap := heap
  slotsUsed := slotsUsed
  threads := #[{ frames := .invoking theMethod args0 :: below }]
def below0 : List Frame := [.native { method := ⟨0, 0⟩, args := #[] }]
def about1 : State := aboutOver below0
def p0 : Program := .bare "" "" ""
def e0 : Env := launch0.env 0 0 0
theorem w_frames : about1.frames = Frame.invoking theMethod args0 :: below0 := rfl
set_option maxRecDepth 65536 in
theorem w_args : argsFit about1.vm theMethod args0 = true := by decide +kernel
set_option maxRecDepth 65536 in
theorem w_heap : heapFits about1 = true := by decide +kernel
set_option maxRecDepth 65536 in
theorem w_runnable : about1.curStatus? = some .runnable := by decide +kernel
set_option maxRecDepth 65536 in
theorem w_alone : about1.alone = true := by decide +kernel
set_option maxRecDepth 65536 in
theorem w_named : about1.methodNamed? x = some theMethod := by decide +kernel
set_option maxRecDepth 65536 in
theorem w_hears : about1.hears theMethod below0 = true := by decide +kernel
set_option maxRecDepth 65536 in
theorem w_ripe : about1.ripe theMethod args0 below0 = true := by decide +kernel
theorem w_running : about1.status = .running := rfl
set_option maxRecDepth 65536 in
theorem w_room : about1.hasRoom e0.platform room_1 = true :=
  launch0.hasRoom_least _ room_1 (by decide +kernel) (by decide +kernel) (by decide +kernel) (by decide +kernel) (by decide +kernel) (by decide +kernel)
theorem allAtoms_all (ts : List Jvm.Cond) (a : Array Jvm.Value) (st : Jvm.State) : (allAtoms ts).before a st = ts.all (fun c => c.before a st) := by
  induction ts with
  | nil => rfl
  | cons c t ih =>
    show (Jvm.Cond.and c (allAtoms t)).before a st = _
    rw [Jvm.Cond.before_and, ih, List.all_cons]
def words1 : List Jvm.Cond := Jvm.Cond.code x code maxLocals ret :: tables_1
/-- a 'code' word, met by the world's own term for the bytes: nothing is compared byte by byte -/
theorem code_word {y : MethodName} {bytes : ByteArray} {mx : Nat} {rt : Option FieldType} {a : Array Value} {s : State} {m : MethodId} {meth : Method} {c : Code} (h1 : s.methodNamed? y = some m) (h2 : s.vm.method? m = some meth) (h3 : meth.code = some c) (h4 : c.code = bytes)
    (h5 : (c.maxLocals == mx && c.exceptionTable.isEmpty && decide (c.maxStack ≤ mostOperands) && decide (meth.sig.returnType = rt) && !meth.locks && decide (parseMethodDescriptor y.desc = some meth.sig)) = true) : (Jvm.Cond.code y bytes mx rt).before a s = true := by
  simp only [Bool.and_eq_true, beq_iff_eq, Bool.not_eq_true', decide_eq_true_eq] at h5
  obtain ⟨⟨⟨⟨⟨g1, g2⟩, g3⟩, g4⟩, g5⟩, g6⟩ := h5
  simp [Cond.before, Cond.holds, Cond.value, h1, h2, h3, h4, g1, g2, g3, g4, g5, g6]
def isCode : Jvm.Cond → Bool
  | .code _ _ _ _ => true
  | _ => false
theorem all_split {L : List Jvm.Cond} {P : Jvm.Cond → Bool} (h1 : L.all (fun c => isCode c || P c) = true) (h2 : ∀ c ∈ L.filter isCode, P c = true) : L.all P = true := by
  refine List.all_eq_true.mpr fun c hc => ?_
  have h := List.all_eq_true.mp h1 c hc
  rcases Bool.eq_false_or_eq_true (isCode c) with hi | hi
  · exact h2 c (List.mem_filter.mpr ⟨hc, hi⟩)
  · simpa [hi] using h
set_option maxRecDepth 65536 in
theorem w_c0 : (Jvm.Cond.code x code maxLocals ret).before args0 about1 = true := code_word (m := ⟨1, 1⟩) (meth := k1m1) (c := k1c1) (by decide +kernel) rfl rfl rfl (by decide +kernel)
set_option maxRecDepth 65536 in
theorem w_c1 : (Jvm.Cond.code ({ cls := "java/lang/Long", name := "valueOf", desc := "(J)Ljava/lang/Long;" } : Jvm.MethodName) jdk_35_method_24_code (3 : Nat) (Option.some (Jvm.ClassFile.FieldType.object "java/lang/Long"))).before args0 about1 = true := code_word (m := ⟨7, 0⟩) (meth := k7m0) (c := k7c0) (by decide +kernel) rfl rfl rfl (by decide +kernel)
set_option maxRecDepth 65536 in
theorem w_c2 : (Jvm.Cond.code ({ cls := "com/example/feeds_to_views/feedstoviews/sql/Values", name := "compare", desc := "(Ljava/lang/Object;Ljava/lang/Object;)I" } : Jvm.MethodName) prog_124_method_2_code (4 : Nat) (Option.some Jvm.ClassFile.FieldType.int)).before args0 about1 = true := code_word (m := ⟨9, 1⟩) (meth := k9m1) (c := k9c1) (by decide +kernel) rfl rfl rfl (by decide +kernel)
set_option maxRecDepth 65536 in
theorem w_c3 : (Jvm.Cond.code ({ cls := "java/lang/Long", name := "longValue", desc := "()J" } : Jvm.MethodName) jdk_35_method_31_code (1 : Nat) (Option.some Jvm.ClassFile.FieldType.long)).before args0 about1 = true := code_word (m := ⟨7, 2⟩) (meth := k7m2) (c := k7c2) (by decide +kernel) rfl rfl rfl (by decide +kernel)
set_option maxRecDepth 65536 in
theorem w_c4 : (Jvm.Cond.code ({ cls := "java/lang/Long", name := "compare", desc := "(JJ)I" } : Jvm.MethodName) jdk_35_method_42_code (4 : Nat) (Option.some Jvm.ClassFile.FieldType.int)).before args0 about1 = true := code_word (m := ⟨7, 3⟩) (meth := k7m3) (c := k7c3) (by decide +kernel) rfl rfl rfl (by decide +kernel)
set_option maxRecDepth 65536 in
theorem w_c5 : (Jvm.Cond.code ({ cls := "com/example/feeds_to_views/feedstoviews/sql/ValuesComparePinLaw", name := "sgn", desc := "(I)I" } : Jvm.MethodName) method_3_code (1 : Nat) (Option.some Jvm.ClassFile.FieldType.int)).before args0 about1 = true := code_word (m := ⟨1, 2⟩) (meth := k1m2) (c := k1c2) (by decide +kernel) rfl rfl rfl (by decide +kernel)
set_option maxRecDepth 65536 in
theorem w_c6 : (Jvm.Cond.code ({ cls := "java/lang/Long", name := "<init>", desc := "(J)V" } : Jvm.MethodName) jdk_35_method_26_code (3 : Nat) (Option.none : Option Jvm.ClassFile.FieldType)).before args0 about1 = true := code_word (m := ⟨7, 1⟩) (meth := k7m1) (c := k7c1) (by decide +kernel) rfl rfl rfl (by decide +kernel)
set_option maxRecDepth 65536 in
theorem w_c7 : (Jvm.Cond.code ({ cls := "java/lang/Number", name := "<init>", desc := "()V" } : Jvm.MethodName) jdk_18_method_1_code (1 : Nat) (Option.none : Option Jvm.ClassFile.FieldType)).before args0 about1 = true := code_word (m := ⟨3, 0⟩) (meth := k3m0) (c := k3c0) (by decide +kernel) rfl rfl rfl (by decide +kernel)
set_option maxRecDepth 65536 in
theorem w_c8 : (Jvm.Cond.code ({ cls := "java/lang/Object", name := "<init>", desc := "()V" } : Jvm.MethodName) object_method_1_code (1 : Nat) (Option.none : Option Jvm.ClassFile.FieldType)).before args0 about1 = true := code_word (m := ⟨0, 0⟩) (meth := k0m0) (c := k0c0) (by decide +kernel) rfl rfl rfl (by decide +kernel)
set_option maxRecDepth 65536 in
theorem w_c9 : (Jvm.Cond.code ({ cls := "com/example/feeds_to_views/feedstoviews/sql/ValuesComparePinLaw", name := "chars", desc := "(JIZ)[C" } : Jvm.MethodName) method_5_code (5 : Nat) (Option.some (Jvm.ClassFile.FieldType.array Jvm.ClassFile.FieldType.char))).before args0 about1 = true := code_word (m := ⟨1, 4⟩) (meth := k1m4) (c := k1c4) (by decide +kernel) rfl rfl rfl (by decide +kernel)
set_option maxRecDepth 65536 in
theorem w_c10 : (Jvm.Cond.code ({ cls := "com/example/feeds_to_views/feedstoviews/sql/ValuesComparePinLaw", name := "pick", desc := "(JIZ)C" } : Jvm.MethodName) method_4_code (7 : Nat) (Option.some Jvm.ClassFile.FieldType.char)).before args0 about1 = true := code_word (m := ⟨1, 3⟩) (meth := k1m3) (c := k1c3) (by decide +kernel) rfl rfl rfl (by decide +kernel)
set_option maxRecDepth 65536 in
theorem w_c11 : (Jvm.Cond.code ({ cls := "java/lang/String", name := "<init>", desc := "([C)V" } : Jvm.MethodName) jdk_42_method_3_code (2 : Nat) (Option.none : Option Jvm.ClassFile.FieldType)).before args0 about1 = true := code_word (m := ⟨11, 1⟩) (meth := k11m1) (c := k11c1) (by decide +kernel) rfl rfl rfl (by decide +kernel)
set_option maxRecDepth 65536 in
theorem w_c12 : (Jvm.Cond.code ({ cls := "java/lang/String", name := "<init>", desc := "([CIILjava/lang/Void;)V" } : Jvm.MethodName) jdk_42_method_149_code (6 : Nat) (Option.none : Option Jvm.ClassFile.FieldType)).before args0 about1 = true := code_word (m := ⟨11, 4⟩) (meth := k11m4) (c := k11c4) (by decide +kernel) rfl rfl rfl (by decide +kernel)
set_option maxRecDepth 65536 in
theorem w_c13 : (Jvm.Cond.code ({ cls := "java/lang/StringUTF16", name := "compress", desc := "([CII)[B" } : Jvm.MethodName) jdk_52_method_16_code (6 : Nat) (Option.some (Jvm.ClassFile.FieldType.array Jvm.ClassFile.FieldType.byte))).before args0 about1 = true := code_word (m := ⟨12, 9⟩) (meth := k12m9) (c := k12c9) (by decide +kernel) rfl rfl rfl (by decide +kernel)
set_option maxRecDepth 65536 in
theorem w_c14 : (Jvm.Cond.code ({ cls := "java/lang/StringUTF16", name := "compress", desc := "([CI[BII)I" } : Jvm.MethodName) jdk_52_method_21_code (7 : Nat) (Option.some Jvm.ClassFile.FieldType.int)).before args0 about1 = true := code_word (m := ⟨12, 10⟩) (meth := k12m10) (c := k12c10) (by decide +kernel) rfl rfl rfl (by decide +kernel)
set_option maxRecDepth 65536 in
theorem w_c15 : (Jvm.Cond.code ({ cls := "java/lang/StringUTF16", name := "toBytes", desc := "([CII)[B" } : Jvm.MethodName) jdk_52_method_14_code (5 : Nat) (Option.some (Jvm.ClassFile.FieldType.array Jvm.ClassFile.FieldType.byte))).before args0 about1 = true := code_word (m := ⟨12, 7⟩) (meth := k12m7) (c := k12c7) (by decide +kernel) rfl rfl rfl (by decide +kernel)
set_option maxRecDepth 65536 in
theorem w_c16 : (Jvm.Cond.code ({ cls := "java/lang/StringUTF16", name := "newBytesFor", desc := "(I)[B" } : Jvm.MethodName) jdk_52_method_2_code (1 : Nat) (Option.some (Jvm.ClassFile.FieldType.array Jvm.ClassFile.FieldType.byte))).before args0 about1 = true := code_word (m := ⟨12, 1⟩) (meth := k12m1) (c := k12c1) (by decide +kernel) rfl rfl rfl (by decide +kernel)
set_option maxRecDepth 65536 in
theorem w_c17 : (Jvm.Cond.code ({ cls := "java/lang/StringUTF16", name := "newBytesLength", desc := "(I)I" } : Jvm.MethodName) jdk_52_method_3_code (1 : Nat) (Option.some Jvm.ClassFile.FieldType.int)).before args0 about1 = true := code_word (m := ⟨12, 2⟩) (meth := k12m2) (c := k12c2) (by decide +kernel) rfl rfl rfl (by decide +kernel)
set_option maxRecDepth 65536 in
theorem w_c18 : (Jvm.Cond.code ({ cls := "java/lang/StringUTF16", name := "putChar", desc := "([BII)V" } : Jvm.MethodName) jdk_52_method_4_code (3 : Nat) (Option.none : Option Jvm.ClassFile.FieldType)).before args0 about1 = true := code_word (m := ⟨12, 3⟩) (meth := k12m3) (c := k12c3) (by decide +kernel) rfl rfl rfl (by decide +kernel)
set_option maxRecDepth 65536 in
theorem w_c19 : (Jvm.Cond.code ({ cls := "java/lang/StringUTF16", name := "getChar", desc := "([BI)C" } : Jvm.MethodName) jdk_52_method_5_code (2 : Nat) (Option.some Jvm.ClassFile.FieldType.char)).before args0 about1 = true := code_word (m := ⟨12, 4⟩) (meth := k12m4) (c := k12c4) (by decide +kernel) rfl rfl rfl (by decide +kernel)
set_option maxRecDepth 65536 in
theorem w_c20 : (Jvm.Cond.code ({ cls := "java/lang/StringUTF16", name := "coderFromArrayLen", desc := "([BI)B" } : Jvm.MethodName) jdk_52_method_15_code (2 : Nat) (Option.some Jvm.ClassFile.FieldType.byte)).before args0 about1 = true := code_word (m := ⟨12, 8⟩) (meth := k12m8) (c := k12c8) (by decide +kernel) rfl rfl rfl (by decide +kernel)
set_option maxRecDepth 65536 in
theorem w_c21 : (Jvm.Cond.code ({ cls := "com/example/feeds_to_views/feedstoviews/sql/Values", name := "compareText", desc := "(Ljava/lang/String;Ljava/lang/String;)I" } : Jvm.MethodName) prog_124_method_4_code (6 : Nat) (Option.some Jvm.ClassFile.FieldType.int)).before args0 about1 = true := code_word (m := ⟨9, 2⟩) (meth := k9m2) (c := k9c2) (by decide +kernel) rfl rfl rfl (by decide +kernel)
set_option maxRecDepth 65536 in
theorem w_c22 : (Jvm.Cond.code ({ cls := "java/lang/String", name := "length", desc := "()I" } : Jvm.MethodName) jdk_42_method_54_code (1 : Nat) (Option.some Jvm.ClassFile.FieldType.int)).before args0 about1 = true := code_word (m := ⟨11, 2⟩) (meth := k11m2) (c := k11c2) (by decide +kernel) rfl rfl rfl (by decide +kernel)
set_option maxRecDepth 65536 in
theorem w_c23 : (Jvm.Cond.code ({ cls := "java/lang/String", name := "coder", desc := "()B" } : Jvm.MethodName) jdk_42_method_152_code (1 : Nat) (Option.some Jvm.ClassFile.FieldType.byte)).before args0 about1 = true := code_word (m := ⟨11, 5⟩) (meth := k11m5) (c := k11c5) (by decide +kernel) rfl rfl rfl (by decide +kernel)
set_option maxRecDepth 65536 in
theorem w_c24 : (Jvm.Cond.code ({ cls := "java/lang/String", name := "codePointAt", desc := "(I)I" } : Jvm.MethodName) jdk_42_method_57_code (3 : Nat) (Option.some Jvm.ClassFile.FieldType.int)).before args0 about1 = true := code_word (m := ⟨11, 3⟩) (meth := k11m3) (c := k11c3) (by decide +kernel) rfl rfl rfl (by decide +kernel)
set_option maxRecDepth 65536 in
theorem w_c25 : (Jvm.Cond.code ({ cls := "java/lang/String", name := "isLatin1", desc := "()Z" } : Jvm.MethodName) jdk_42_method_154_code (1 : Nat) (Option.some Jvm.ClassFile.FieldType.boolean)).before args0 about1 = true := code_word (m := ⟨11, 6⟩) (meth := k11m6) (c := k11c6) (by decide +kernel) rfl rfl rfl (by decide +kernel)
set_option maxRecDepth 65536 in
theorem w_c26 : (Jvm.Cond.code ({ cls := "java/lang/String", name := "checkIndex", desc := "(II)V" } : Jvm.MethodName) jdk_42_method_155_code (2 : Nat) (Option.none : Option Jvm.ClassFile.FieldType)).before args0 about1 = true := code_word (m := ⟨11, 7⟩) (meth := k11m7) (c := k11c7) (by decide +kernel) rfl rfl rfl (by decide +kernel)
set_option maxRecDepth 65536 in
theorem w_c27 : (Jvm.Cond.code ({ cls := "jdk/internal/util/Preconditions", name := "checkIndex", desc := "(IILjava/util/function/BiFunction;)I" } : Jvm.MethodName) jdk_41_method_11_code (3 : Nat) (Option.some Jvm.ClassFile.FieldType.int)).before args0 about1 = true := code_word (m := ⟨13, 1⟩) (meth := k13m1) (c := k13c1) (by decide +kernel) rfl rfl rfl (by decide +kernel)
set_option maxRecDepth 65536 in
theorem w_c28 : (Jvm.Cond.code ({ cls := "java/lang/StringUTF16", name := "codePointAt", desc := "([BII)I" } : Jvm.MethodName) jdk_52_method_8_code (3 : Nat) (Option.some Jvm.ClassFile.FieldType.int)).before args0 about1 = true := code_word (m := ⟨12, 6⟩) (meth := k12m6) (c := k12c6) (by decide +kernel) rfl rfl rfl (by decide +kernel)
set_option maxRecDepth 65536 in
theorem w_c29 : (Jvm.Cond.code ({ cls := "java/lang/StringUTF16", name := "codePointAt", desc := "([BIIZ)I" } : Jvm.MethodName) jdk_52_method_7_code (6 : Nat) (Option.some Jvm.ClassFile.FieldType.int)).before args0 about1 = true := code_word (m := ⟨12, 5⟩) (meth := k12m5) (c := k12c5) (by decide +kernel) rfl rfl rfl (by decide +kernel)
set_option maxRecDepth 65536 in
theorem w_c30 : (Jvm.Cond.code ({ cls := "java/lang/Character", name := "isHighSurrogate", desc := "(C)Z" } : Jvm.MethodName) jdk_89_method_14_code (1 : Nat) (Option.some Jvm.ClassFile.FieldType.boolean)).before args0 about1 = true := code_word (m := ⟨14, 0⟩) (meth := k14m0) (c := k14c0) (by decide +kernel) rfl rfl rfl (by decide +kernel)
set_option maxRecDepth 65536 in
theorem w_c31 : (Jvm.Cond.code ({ cls := "java/lang/Integer", name := "compare", desc := "(II)I" } : Jvm.MethodName) jdk_33_method_40_code (2 : Nat) (Option.some Jvm.ClassFile.FieldType.int)).before args0 about1 = true := code_word (m := ⟨15, 0⟩) (meth := k15m0) (c := k15c0) (by decide +kernel) rfl rfl rfl (by decide +kernel)
set_option maxRecDepth 65536 in
theorem w_c32 : (Jvm.Cond.code ({ cls := "java/lang/Character", name := "charCount", desc := "(I)I" } : Jvm.MethodName) jdk_89_method_18_code (1 : Nat) (Option.some Jvm.ClassFile.FieldType.int)).before args0 about1 = true := code_word (m := ⟨14, 2⟩) (meth := k14m2) (c := k14c2) (by decide +kernel) rfl rfl rfl (by decide +kernel)
set_option maxRecDepth 65536 in
theorem w_c33 : (Jvm.Cond.code ({ cls := "com/example/feeds_to_views/feedstoviews/sql/ValuesComparePinLaw", name := "decode", desc := "([C)[I" } : Jvm.MethodName) method_7_code (5 : Nat) (Option.some (Jvm.ClassFile.FieldType.array Jvm.ClassFile.FieldType.int))).before args0 about1 = true := code_word (m := ⟨1, 6⟩) (meth := k1m6) (c := k1c6) (by decide +kernel) rfl rfl rfl (by decide +kernel)
set_option maxRecDepth 65536 in
theorem w_c34 : (Jvm.Cond.code ({ cls := "com/example/feeds_to_views/feedstoviews/sql/ValuesComparePinLaw", name := "cpAt", desc := "([CI)I" } : Jvm.MethodName) method_6_code (4 : Nat) (Option.some Jvm.ClassFile.FieldType.int)).before args0 about1 = true := code_word (m := ⟨1, 5⟩) (meth := k1m5) (c := k1c5) (by decide +kernel) rfl rfl rfl (by decide +kernel)
set_option maxRecDepth 65536 in
theorem w_c35 : (Jvm.Cond.code ({ cls := "com/example/feeds_to_views/feedstoviews/sql/ValuesComparePinLaw", name := "lex", desc := "([I[I)I" } : Jvm.MethodName) method_8_code (4 : Nat) (Option.some Jvm.ClassFile.FieldType.int)).before args0 about1 = true := code_word (m := ⟨1, 7⟩) (meth := k1m7) (c := k1c7) (by decide +kernel) rfl rfl rfl (by decide +kernel)
set_option maxRecDepth 65536 in
theorem w_c36 : (Jvm.Cond.code ({ cls := "java/lang/Character", name := "isLowSurrogate", desc := "(C)Z" } : Jvm.MethodName) jdk_89_method_15_code (1 : Nat) (Option.some Jvm.ClassFile.FieldType.boolean)).before args0 about1 = true := code_word (m := ⟨14, 1⟩) (meth := k14m1) (c := k14c1) (by decide +kernel) rfl rfl rfl (by decide +kernel)
set_option maxRecDepth 65536 in
theorem w_c37 : (Jvm.Cond.code ({ cls := "java/lang/Character", name := "toCodePoint", desc := "(CC)I" } : Jvm.MethodName) jdk_89_method_19_code (2 : Nat) (Option.some Jvm.ClassFile.FieldType.int)).before args0 about1 = true := code_word (m := ⟨14, 3⟩) (meth := k14m3) (c := k14c3) (by decide +kernel) rfl rfl rfl (by decide +kernel)
def codes1 : List Jvm.Cond := [Jvm.Cond.code x code maxLocals ret, Jvm.Cond.code ({ cls := "java/lang/Long", name := "valueOf", desc := "(J)Ljava/lang/Long;" } : Jvm.MethodName) jdk_35_method_24_code (3 : Nat) (Option.some (Jvm.ClassFile.FieldType.object "java/lang/Long")), Jvm.Cond.code ({ cls := "com/example/feeds_to_views/feedstoviews/sql/Values", name := "compare", desc := "(Ljava/lang/Object;Ljava/lang/Object;)I" } : Jvm.MethodName) prog_124_method_2_code (4 : Nat) (Option.some Jvm.ClassFile.FieldType.int), Jvm.Cond.code ({ cls := "java/lang/Long", name := "longValue", desc := "()J" } : Jvm.MethodName) jdk_35_method_31_code (1 : Nat) (Option.some Jvm.ClassFile.FieldType.long), Jvm.Cond.code ({ cls := "java/lang/Long", name := "compare", desc := "(JJ)I" } : Jvm.MethodName) jdk_35_method_42_code (4 : Nat) (Option.some Jvm.ClassFile.FieldType.int), Jvm.Cond.code ({ cls := "com/example/feeds_to_views/feedstoviews/sql/ValuesComparePinLaw", name := "sgn", desc := "(I)I" } : Jvm.MethodName) method_3_code (1 : Nat) (Option.some Jvm.ClassFile.FieldType.int), Jvm.Cond.code ({ cls := "java/lang/Long", name := "<init>", desc := "(J)V" } : Jvm.MethodName) jdk_35_method_26_code (3 : Nat) (Option.none : Option Jvm.ClassFile.FieldType), Jvm.Cond.code ({ cls := "java/lang/Number", name := "<init>", desc := "()V" } : Jvm.MethodName) jdk_18_method_1_code (1 : Nat) (Option.none : Option Jvm.ClassFile.FieldType), Jvm.Cond.code ({ cls := "java/lang/Object", name := "<init>", desc := "()V" } : Jvm.MethodName) object_method_1_code (1 : Nat) (Option.none : Option Jvm.ClassFile.FieldType), Jvm.Cond.code ({ cls := "com/example/feeds_to_views/feedstoviews/sql/ValuesComparePinLaw", name := "chars", desc := "(JIZ)[C" } : Jvm.MethodName) method_5_code (5 : Nat) (Option.some (Jvm.ClassFile.FieldType.array Jvm.ClassFile.FieldType.char)), Jvm.Cond.code ({ cls := "com/example/feeds_to_views/feedstoviews/sql/ValuesComparePinLaw", name := "pick", desc := "(JIZ)C" } : Jvm.MethodName) method_4_code (7 : Nat) (Option.some Jvm.ClassFile.FieldType.char), Jvm.Cond.code ({ cls := "java/lang/String", name := "<init>", desc := "([C)V" } : Jvm.MethodName) jdk_42_method_3_code (2 : Nat) (Option.none : Option Jvm.ClassFile.FieldType), Jvm.Cond.code ({ cls := "java/lang/String", name := "<init>", desc := "([CIILjava/lang/Void;)V" } : Jvm.MethodName) jdk_42_method_149_code (6 : Nat) (Option.none : Option Jvm.ClassFile.FieldType), Jvm.Cond.code ({ cls := "java/lang/StringUTF16", name := "compress", desc := "([CII)[B" } : Jvm.MethodName) jdk_52_method_16_code (6 : Nat) (Option.some (Jvm.ClassFile.FieldType.array Jvm.ClassFile.FieldType.byte)), Jvm.Cond.code ({ cls := "java/lang/StringUTF16", name := "compress", desc := "([CI[BII)I" } : Jvm.MethodName) jdk_52_method_21_code (7 : Nat) (Option.some Jvm.ClassFile.FieldType.int), Jvm.Cond.code ({ cls := "java/lang/StringUTF16", name := "toBytes", desc := "([CII)[B" } : Jvm.MethodName) jdk_52_method_14_code (5 : Nat) (Option.some (Jvm.ClassFile.FieldType.array Jvm.ClassFile.FieldType.byte)), Jvm.Cond.code ({ cls := "java/lang/StringUTF16", name := "newBytesFor", desc := "(I)[B" } : Jvm.MethodName) jdk_52_method_2_code (1 : Nat) (Option.some (Jvm.ClassFile.FieldType.array Jvm.ClassFile.FieldType.byte)), Jvm.Cond.code ({ cls := "java/lang/StringUTF16", name := "newBytesLength", desc := "(I)I" } : Jvm.MethodName) jdk_52_method_3_code (1 : Nat) (Option.some Jvm.ClassFile.FieldType.int), Jvm.Cond.code ({ cls := "java/lang/StringUTF16", name := "putChar", desc := "([BII)V" } : Jvm.MethodName) jdk_52_method_4_code (3 : Nat) (Option.none : Option Jvm.ClassFile.FieldType), Jvm.Cond.code ({ cls := "java/lang/StringUTF16", name := "getChar", desc := "([BI)C" } : Jvm.MethodName) jdk_52_method_5_code (2 : Nat) (Option.some Jvm.ClassFile.FieldType.char), Jvm.Cond.code ({ cls := "java/lang/StringUTF16", name := "coderFromArrayLen", desc := "([BI)B" } : Jvm.MethodName) jdk_52_method_15_code (2 : Nat) (Option.some Jvm.ClassFile.FieldType.byte), Jvm.Cond.code ({ cls := "com/example/feeds_to_views/feedstoviews/sql/Values", name := "compareText", desc := "(Ljava/lang/String;Ljava/lang/String;)I" } : Jvm.MethodName) prog_124_method_4_code (6 : Nat) (Option.some Jvm.ClassFile.FieldType.int), Jvm.Cond.code ({ cls := "java/lang/String", name := "length", desc := "()I" } : Jvm.MethodName) jdk_42_method_54_code (1 : Nat) (Option.some Jvm.ClassFile.FieldType.int), Jvm.Cond.code ({ cls := "java/lang/String", name := "coder", desc := "()B" } : Jvm.MethodName) jdk_42_method_152_code (1 : Nat) (Option.some Jvm.ClassFile.FieldType.byte), Jvm.Cond.code ({ cls := "java/lang/String", name := "codePointAt", desc := "(I)I" } : Jvm.MethodName) jdk_42_method_57_code (3 : Nat) (Option.some Jvm.ClassFile.FieldType.int), Jvm.Cond.code ({ cls := "java/lang/String", name := "isLatin1", desc := "()Z" } : Jvm.MethodName) jdk_42_method_154_code (1 : Nat) (Option.some Jvm.ClassFile.FieldType.boolean), Jvm.Cond.code ({ cls := "java/lang/String", name := "checkIndex", desc := "(II)V" } : Jvm.MethodName) jdk_42_method_155_code (2 : Nat) (Option.none : Option Jvm.ClassFile.FieldType), Jvm.Cond.code ({ cls := "jdk/internal/util/Preconditions", name := "checkIndex", desc := "(IILjava/util/function/BiFunction;)I" } : Jvm.MethodName) jdk_41_method_11_code (3 : Nat) (Option.some Jvm.ClassFile.FieldType.int), Jvm.Cond.code ({ cls := "java/lang/StringUTF16", name := "codePointAt", desc := "([BII)I" } : Jvm.MethodName) jdk_52_method_8_code (3 : Nat) (Option.some Jvm.ClassFile.FieldType.int), Jvm.Cond.code ({ cls := "java/lang/StringUTF16", name := "codePointAt", desc := "([BIIZ)I" } : Jvm.MethodName) jdk_52_method_7_code (6 : Nat) (Option.some Jvm.ClassFile.FieldType.int), Jvm.Cond.code ({ cls := "java/lang/Character", name := "isHighSurrogate", desc := "(C)Z" } : Jvm.MethodName) jdk_89_method_14_code (1 : Nat) (Option.some Jvm.ClassFile.FieldType.boolean), Jvm.Cond.code ({ cls := "java/lang/Integer", name := "compare", desc := "(II)I" } : Jvm.MethodName) jdk_33_method_40_code (2 : Nat) (Option.some Jvm.ClassFile.FieldType.int), Jvm.Cond.code ({ cls := "java/lang/Character", name := "charCount", desc := "(I)I" } : Jvm.MethodName) jdk_89_method_18_code (1 : Nat) (Option.some Jvm.ClassFile.FieldType.int), Jvm.Cond.code ({ cls := "com/example/feeds_to_views/feedstoviews/sql/ValuesComparePinLaw", name := "decode", desc := "([C)[I" } : Jvm.MethodName) method_7_code (5 : Nat) (Option.some (Jvm.ClassFile.FieldType.array Jvm.ClassFile.FieldType.int)), Jvm.Cond.code ({ cls := "com/example/feeds_to_views/feedstoviews/sql/ValuesComparePinLaw", name := "cpAt", desc := "([CI)I" } : Jvm.MethodName) method_6_code (4 : Nat) (Option.some Jvm.ClassFile.FieldType.int), Jvm.Cond.code ({ cls := "com/example/feeds_to_views/feedstoviews/sql/ValuesComparePinLaw", name := "lex", desc := "([I[I)I" } : Jvm.MethodName) method_8_code (4 : Nat) (Option.some Jvm.ClassFile.FieldType.int), Jvm.Cond.code ({ cls := "java/lang/Character", name := "isLowSurrogate", desc := "(C)Z" } : Jvm.MethodName) jdk_89_method_15_code (1 : Nat) (Option.some Jvm.ClassFile.FieldType.boolean), Jvm.Cond.code ({ cls := "java/lang/Character", name := "toCodePoint", desc := "(CC)I" } : Jvm.MethodName) jdk_89_method_19_code (2 : Nat) (Option.some Jvm.ClassFile.FieldType.int)]
set_option maxRecDepth 65536 in
theorem codes_eq : words1.filter isCode = codes1 := rfl
theorem w_codes : ∀ c ∈ words1.filter isCode, c.before args0 about1 = true := by
  rw [codes_eq]
  intro c hc
  simp only [codes1, List.mem_cons, List.not_mem_nil, or_false] at hc
  rcases hc with rfl | rfl | rfl | rfl | rfl | rfl | rfl | rfl | rfl | rfl | rfl | rfl | rfl | rfl | rfl | rfl | rfl | rfl | rfl | rfl | rfl | rfl | rfl | rfl | rfl | rfl | rfl | rfl | rfl | rfl | rfl | rfl | rfl | rfl | rfl | rfl | rfl | rfl
  · exact w_c0
  · exact w_c1
  · exact w_c2
  · exact w_c3
  · exact w_c4
  · exact w_c5
  · exact w_c6
  · exact w_c7
  · exact w_c8
  · exact w_c9
  · exact w_c10
  · exact w_c11
  · exact w_c12
  · exact w_c13
  · exact w_c14
  · exact w_c15
  · exact w_c16
  · exact w_c17
  · exact w_c18
  · exact w_c19
  · exact w_c20
  · exact w_c21
  · exact w_c22
  · exact w_c23
  · exact w_c24
  · exact w_c25
  · exact w_c26
  · exact w_c27
  · exact w_c28
  · exact w_c29
  · exact w_c30
  · exact w_c31
  · exact w_c32
  · exact w_c33
  · exact w_c34
  · exact w_c35
  · exact w_c36
  · exact w_c37
set_option maxRecDepth 65536 in
theorem w_t1 : (words1.take 24).all (fun c => isCode c || c.before args0 about1) = true := by decide +kernel
set_option maxRecDepth 65536 in
theorem w_t2 : ((words1.drop 24).take 24).all (fun c => isCode c || c.before args0 about1) = true := by decide +kernel
set_option maxRecDepth 65536 in
theorem w_t3 : (((words1.drop 24).drop 24).take 24).all (fun c => isCode c || c.before args0 about1) = true := by decide +kernel
set_option maxRecDepth 65536 in
theorem w_t4 : ((((words1.drop 24).drop 24).drop 24).take 24).all (fun c => isCode c || c.before args0 about1) = true := by decide +kernel
set_option maxRecDepth 65536 in
theorem w_t5 : (((((words1.drop 24).drop 24).drop 24).drop 24).take 24).all (fun c => isCode c || c.before args0 about1) = true := by decide +kernel
set_option maxRecDepth 65536 in
theorem w_t6 : ((((((words1.drop 24).drop 24).drop 24).drop 24).drop 24).take 24).all (fun c => isCode c || c.before args0 about1) = true := by decide +kernel
set_option maxRecDepth 65536 in
theorem w_t7 : (((((((words1.drop 24).drop 24).drop 24).drop 24).drop 24).drop 24).take 24).all (fun c => isCode c || c.before args0 about1) = true := by decide +kernel
set_option maxRecDepth 65536 in
theorem w_t8 : (((((((words1.drop 24).drop 24).drop 24).drop 24).drop 24).drop 24).drop 24).all (fun c => isCode c || c.before args0 about1) = true := by decide +kernel
theorem w_tables : (allAtoms (Jvm.Cond.code x code maxLocals ret :: tables_1)).before args0 about1 = true := by
  rw [allAtoms_all]
  show words1.all (fun c => c.before args0 about1) = true
  refine all_split ?_ w_codes
  rw [← List.take_append_drop 24 words1, List.all_append, w_t1, ← List.take_append_drop 24 (words1.drop 24), List.all_append, w_t2, ← List.take_append_drop 24 ((words1.drop 24).drop 24), List.all_append, w_t3, ← List.take_append_drop 24 (((words1.drop 24).drop 24).drop 24), List.all_append, w_t4, ← List.take_append_drop 24 ((((words1.drop 24).drop 24).drop 24).drop 24), List.all_append, w_t5, ← List.take_append_drop 24 (((((words1.drop 24).drop 24).drop 24).drop 24).drop 24), List.all_append, w_t6, ← List.take_append_drop 24 ((((((words1.drop 24).drop 24).drop 24).drop 24).drop 24).drop 24), List.all_append, w_t7, w_t8]
  rfl
set_option maxRecDepth 65536 in
theorem w_rest : rest_1_c.before args0 about1 = true := by decide +kernel
set_option maxRecDepth 65536 in
theorem w_case : (Jvm.Cond.and given_1 narrow_1).before args0 about1 = true := by decide +kernel
set_option maxRecDepth 65536 in
theorem w_consts : constsHeld consts_1 about1 := Jvm.Lit.constsHeldB_iff.mp (by decide +kernel)
theorem w_applies : (headSpec (Jvm.Cond.code x code maxLocals ret :: tables_1) room_1).applies x e0.platform about1 = true :=
  (Spec.applies_iff w_frames).mpr ⟨w_running, w_runnable, w_alone, w_named, w_hears, w_ripe, w_room, w_tables⟩
theorem atStart : AtStart classFile x code maxLocals ret World_1 tables_1 room_1 Calls_1 rest_1 Pre_1 launch0 p0 e0 about1 theMethod args0 below0 :=
  ⟨lists_1, trivial, launch0.admits_env _ _ _, launch0.least_env, fairChoices_fair.cas, fairChoices_fair.clock, w_frames, w_args, w_heap, w_applies, ⟨w_consts, trivial⟩, w_rest, w_case⟩
end start1
theorem witness_1 : WitnessClaimed_1 := ⟨start1.p0, start1.e0, start1.about1, start1.theMethod, start1.args0, start1.below0, start1.atStart⟩
end Jvm.Pilot.@@N@@
