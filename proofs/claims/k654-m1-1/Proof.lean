import JvmDerived
import JvmDerived.Pilot.@@N@@Statement
import JvmDerived.Pilot.@@N@@Code
@@BLOCK:NumsL.lean.txt@@
set_option linter.unusedVariables false
set_option linter.unusedSimpArgs false
namespace Jvm.Pilot.@@N@@
open Jvm Jvm.ClassFile Sem Op Lib Jvm.Free Jvm.Stand Jvm.LawKit Jvm.RoadKit Bundle Jvm.Pilot.@@N@@.Jvm.D
abbrev own_m0 : MethodName := ⟨"java/util/AbstractCollection", "<init>", "()V"⟩
abbrev own_m1 : MethodName := ⟨"java/util/AbstractList", "<init>", "()V"⟩
abbrev own_m2 : MethodName := ⟨"java/util/ArrayList", "<init>", "()V"⟩
abbrev own_m3 : MethodName := ⟨"java/util/ArrayList", "<init>", "(I)V"⟩
abbrev own_m4 : MethodName := ⟨"java/lang/Math", "max", "(II)I"⟩
abbrev own_m5 : MethodName := ⟨"java/util/ArrayList", "grow", "(I)[Ljava/lang/Object;"⟩
abbrev own_m6 : MethodName := ⟨"java/util/ArrayList", "grow", "()[Ljava/lang/Object;"⟩
abbrev own_m7 : MethodName := ⟨"java/util/ArrayList", "add", "(Ljava/lang/Object;[Ljava/lang/Object;I)V"⟩
abbrev own_m8 : MethodName := ⟨"java/util/ArrayList", "add", "(Ljava/lang/Object;)Z"⟩
abbrev own_m9 : MethodName := ⟨"java/util/ArrayList", "size", "()I"⟩
abbrev own_m10 : MethodName := ⟨"jdk/internal/util/Preconditions", "checkIndex", "(IILjava/util/function/BiFunction;)I"⟩
abbrev own_m11 : MethodName := ⟨"java/util/Objects", "checkIndex", "(II)I"⟩
abbrev own_m12 : MethodName := ⟨"java/util/ArrayList", "elementData", "(I)Ljava/lang/Object;"⟩
abbrev own_m13 : MethodName := ⟨"java/util/ArrayList", "get", "(I)Ljava/lang/Object;"⟩
abbrev own_m14 : MethodName := ⟨"java/util/ArrayList$Itr", "<init>", "(Ljava/util/ArrayList;)V"⟩
abbrev own_m15 : MethodName := ⟨"java/util/ArrayList", "iterator", "()Ljava/util/Iterator;"⟩
abbrev own_m16 : MethodName := ⟨"java/util/ArrayList$Itr", "hasNext", "()Z"⟩
abbrev own_m17 : MethodName := ⟨"java/util/ArrayList$Itr", "checkForComodification", "()V"⟩
abbrev own_m18 : MethodName := ⟨"java/util/ArrayList$Itr", "next", "()Ljava/lang/Object;"⟩
abbrev own_m19 : MethodName := ⟨"java/util/Objects", "requireNonNull", "(Ljava/lang/Object;Ljava/lang/String;)Ljava/lang/Object;"⟩
abbrev own_m20 : MethodName := ⟨"com/example/etapa/etapa/mongodb/EntityBatch", "copyOf", "(Ljava/util/Collection;)Ljava/util/List;"⟩
abbrev own_m21 : MethodName := ⟨"java/util/Collection", "size", "()I"⟩
abbrev own_m22 : MethodName := ⟨"java/util/Collection", "iterator", "()Ljava/util/Iterator;"⟩
abbrev own_m23 : MethodName := ⟨"java/util/Iterator", "hasNext", "()Z"⟩
abbrev own_m24 : MethodName := ⟨"java/util/Iterator", "next", "()Ljava/lang/Object;"⟩
abbrev own_m25 : MethodName := ⟨"java/util/List", "add", "(Ljava/lang/Object;)Z"⟩
abbrev own_m26 : MethodName := ⟨"com/example/etapa/etapa/mongodb/EntityBatchCopyOfPinLaw", "at", "(Ljava/util/List;ILjava/lang/Integer;I)Z"⟩
abbrev own_m27 : MethodName := ⟨"java/util/List", "get", "(I)Ljava/lang/Object;"⟩
abbrev own_m28 : MethodName := ⟨"java/lang/Number", "<init>", "()V"⟩
abbrev own_m29 : MethodName := ⟨"java/lang/Integer", "<init>", "(I)V"⟩
abbrev own_m30 : MethodName := ⟨"java/lang/Integer", "valueOf", "(I)Ljava/lang/Integer;"⟩
abbrev own_m31 : MethodName := ⟨"java/util/List", "size", "()I"⟩
section OwnPre
variable {p : Program} {l : Launch} {e : Env} {R : Room} {s : State} {m : MethodId} {args : Array Value} {below : List Frame} {meth : Method} {c : Code} {T : State} {locs : List Loc} {cells slots : Nat} {Z : State} {h h' : Heap}
/-- from A the run comes to an end of which P holds -/
def own_G (p : Program) (e : Env) (below : List Frame) (A : State) (P : State → Outcome → Prop) : Prop := ∃ s₂ o, Steps p.tables e below A s₂ ∧ P s₂ o
def own_P (s : State) (below : List Frame) (C S : Nat) (Q : Option Value → Heap → List Loc → Prop) (s₂ : State) (o : Outcome) : Prop := s₂.status = .running ∧ Ended s₂ below o ∧ ∃ v L, o = .returned v ∧ Q v s₂.heap L ∧ FrameEnd s o s₂ L C S
def own_PW (s : State) (below : List Frame) (C S : Nat) (Q : Option Value → Heap → List Loc → Prop) (s₂ : State) (o : Outcome) : Prop := s₂.status = .running ∧ Ended s₂ below o ∧ ∃ v L, o = .returned v ∧ Q v s₂.heap L ∧ ReturnedEndW s o s₂ L C S
theorem own_go {A B : State} {P : State → Outcome → Prop} (k : ∀ t, Steps p.tables e below B t → Steps p.tables e below A t) (g : own_G p e below B P) : own_G p e below A P := by
  obtain ⟨s, o, h, r⟩ := g; exact ⟨s, o, k _ h, r⟩
theorem own_tr {A B : State} {P : State → Outcome → Prop} (k : Steps p.tables e below A B) (g : own_G p e below B P) : own_G p e below A P := own_go (fun _ h => k.trans h) g
theorem own_start {C S : Nat} {Q : Option Value → Heap → List Loc → Prop} {g g' : JFrame} (q : g = g') (k : own_G p e below (T.setTop g') (own_P s below C S Q)) :
    ∃ s₂ o, Steps p.tables e below (T.setTop g) s₂ ∧ s₂.status = .running ∧ Ended s₂ below o ∧ ∃ v L, o = .returned v ∧ Q v s₂.heap L ∧ FrameEnd s o s₂ L C S := q ▸ k
theorem own_startW {C S : Nat} {Q : Option Value → Heap → List Loc → Prop} {g g' : JFrame} (q : g = g') (k : own_G p e below (T.setTop g') (own_PW s below C S Q)) :
    ∃ s₂ o, Steps p.tables e below (T.setTop g) s₂ ∧ s₂.status = .running ∧ Ended s₂ below o ∧ ∃ v L, o = .returned v ∧ Q v s₂.heap L ∧ ReturnedEndW s o s₂ L C S := q ▸ k
theorem own_ret (X : Stand p l e R s m args below meth c T locs cells slots) (hx : p.tables.exec = Jvm.exec) {pc : Nat} {Ls : Array Slot} {w : Value} {t : FieldType} {i : Instr} {rest : List Value} (hret : meth.sig.returnType = some t) (hn : narrow t w = w)
    (hi : (i = .ireturn ∧ (t = .int ∨ t = .boolean ∨ t = .byte ∨ t = .char ∨ t = .short) ∧ ∃ z, w = .int z) ∨ (i = .lreturn ∧ t = .long ∧ ∃ z, w = .long z) ∨ (i = .dreturn ∧ t = .double ∧ ∃ z, w = .double z) ∨ (i = .freturn ∧ t = .float ∧ ∃ z, w = .float z) ∨ (i = .areturn ∧ t.isReference = true ∧ w.isRef = true))
    (hd : decode c.code pc = .ok (i, 1)) (hlocks : meth.locks = false) {C S : Nat} {Q : Option Value → Heap → List Loc → Prop} (hC : cells ≤ C) (hS : slots ≤ S) (hQ : Q (some w) T.heap locs) :
    own_G p e below (T.setTop (mkF m pc Ls (w :: rest))) (own_P s below C S Q) := by
  obtain ⟨fs, hr, hrun, hended, hW, hsame⟩ := X.leave (v := some w) (fun h => by rw [hret] at h; cases h) hlocks
  exact ⟨_, _, retOut X hx hret hn hi hd hr, hrun, hended, _, _, rfl, hQ, ⟨_, rfl⟩, hW, hsame.mono hC hS⟩
theorem own_retV (X : Stand p l e R s m args below meth c T locs cells slots) (hx : p.tables.exec = Jvm.exec) {pc : Nat} {Ls : Array Slot} (hret : meth.sig.returnType = none) (hd : decode c.code pc = .ok (.return_, 1)) (hlocks : meth.locks = false)
    {C S : Nat} {Q : Option Value → Heap → List Loc → Prop} (hC : cells ≤ C) (hS : slots ≤ S) (hQ : Q none T.heap locs) : own_G p e below (T.setTop (mkF m pc Ls [])) (own_P s below C S Q) := by
  obtain ⟨fs, hr, hrun, hended, hW, hsame⟩ := X.leave (v := none) (fun _ => rfl) hlocks
  exact ⟨_, _, X.returnOut hx hret hd hr, hrun, hended, _, _, rfl, hQ, ⟨_, rfl⟩, hW, hsame.mono hC hS⟩
theorem own_retW {vm₁ : Vm} (X : Stand p l e R (s.setVm vm₁) m args below meth c T locs cells slots) {n : Nat} (hSi : s.Since vm₁ n) (hn' : n ≤ T.heap.size) (hx : p.tables.exec = Jvm.exec) {pc : Nat} {Ls : Array Slot} {w : Value} {t : FieldType} {i : Instr} {rest : List Value} (hret : meth.sig.returnType = some t) (hn : narrow t w = w)
    (hi : (i = .ireturn ∧ (t = .int ∨ t = .boolean ∨ t = .byte ∨ t = .char ∨ t = .short) ∧ ∃ z, w = .int z) ∨ (i = .lreturn ∧ t = .long ∧ ∃ z, w = .long z) ∨ (i = .dreturn ∧ t = .double ∧ ∃ z, w = .double z) ∨ (i = .freturn ∧ t = .float ∧ ∃ z, w = .float z) ∨ (i = .areturn ∧ t.isReference = true ∧ w.isRef = true))
    (hd : decode c.code pc = .ok (i, 1)) (hlocks : meth.locks = false) {C S : Nat} {Q : Option Value → Heap → List Loc → Prop} (hC : cells ≤ C) (hS : slots ≤ S) (hQ : Q (some w) T.heap locs) :
    own_G p e below (T.setTop (mkF m pc Ls (w :: rest))) (own_PW s below C S Q) := by
  obtain ⟨fs, hr, hrun, hended, hW⟩ := (X.mono hC hS).leaveW hSi hn' (v := some w) (fun h => by rw [hret] at h; cases h) hlocks
  exact ⟨_, _, retOut X hx hret hn hi hd hr, hrun, hended, _, _, rfl, hQ, hW⟩
theorem own_retVW {vm₁ : Vm} (X : Stand p l e R (s.setVm vm₁) m args below meth c T locs cells slots) {n : Nat} (hSi : s.Since vm₁ n) (hn' : n ≤ T.heap.size) (hx : p.tables.exec = Jvm.exec) {pc : Nat} {Ls : Array Slot} (hret : meth.sig.returnType = none) (hd : decode c.code pc = .ok (.return_, 1)) (hlocks : meth.locks = false)
    {C S : Nat} {Q : Option Value → Heap → List Loc → Prop} (hC : cells ≤ C) (hS : slots ≤ S) (hQ : Q none T.heap locs) : own_G p e below (T.setTop (mkF m pc Ls [])) (own_PW s below C S Q) := by
  obtain ⟨fs, hr, hrun, hended, hW⟩ := (X.mono hC hS).leaveW hSi hn' (v := none) (fun _ => rfl) hlocks
  exact ⟨_, _, X.returnOut hx hret hd hr, hrun, hended, _, _, rfl, hQ, hW⟩
theorem own_ext_refl (h : Heap) : Ext h h := ⟨Nat.le_refl _, fun _ _ q => q⟩
theorem own_ext_trans {h1 h2 h3 : Heap} (A : Ext h1 h2) (B : Ext h2 h3) : Ext h1 h3 := ⟨Nat.le_trans A.1 B.1, fun a c q => B.2 a c (A.2 a c q)⟩
theorem own_ext_keep {h0 : Heap} {ws : List Addr} (O : Ext h0 h) (K : Keep h h' ws) (q : ∀ x ∈ ws, h0.size ≤ x) : Ext h0 h' := ⟨Nat.le_trans O.1 K.1, fun x c r => K.2.1 x c (O.2 x c r) fun z => absurd (Array.getElem?_eq_some_iff.mp r).1 (Nat.not_lt.mpr (q x z))⟩
theorem own_ext_wr {h0 : Heap} {a : Addr} {sl : Nat} {v : Value} (O : Ext h0 h) (W : Wr h h' a sl v) (q : h0.size ≤ a) : Ext h0 h' := own_ext_keep O (Keep.of_wr W) (allS q all0)
theorem own_fld_ne {a b : Addr} {C n d : String} {v w : Value} (F : Fld Z h a C n d v) (G : Fld Z h b C n d w) (q : v ≠ w) : a ≠ b := fun e => by
  subst e
  obtain ⟨c1, cf, k, i, f, h1, h2, -, -, -, -, h7⟩ := F
  obtain ⟨c2, cf', k', i', f', g1, g2, -, -, -, -, g7⟩ := G
  cases h1.symm.trans g1
  cases h2.symm.trans g2
  exact q (Option.some.inj (h7.symm.trans g7))
theorem own_getR (X : Stand p l e R s m args below meth c T locs cells slots) (hx : p.tables.exec = Jvm.exec) (hZ : Z.Warmed39 s.vm) {a0 : Array Value} {own R0 O n d : String} {index : Nat} (hown : s.vm.findClass own = some m.cls) (w : (Cond.fieldRef own index R0 n d).before a0 Z = true) (via : Via Z R0 O n d)
    (eT : T.heap = h) {a : Addr} {v : Value} (F : Fld Z h a O n d v) {g : JFrame} (hg : g.method = m) {rest : List Value} (hs : g.stack = .ref a :: rest) (hd : decode c.code g.pc = .ok (.getfield index, 3)) :
    ∀ target, Steps p.tables e below (T.setTop { g with pc := g.pc + 3, stack := v :: rest }) target → Steps p.tables e below (T.setTop g) target := by
  obtain ⟨cell, cf, k, i, f, h1, h2, h3, h4, -, -, h7⟩ := F
  have hi := via _ h2
  have hT : Z.Warmed39 T.vm := wtrans hZ X.warmed
  have hownZ : Z.vm.findClass own = some m.cls := by rw [← hZ.alike.findClass]; exact hown
  have hr : Z.resolvedAt? own index = some (.field cf i) := by
    simp only [Cond.before, Cond.holds, Cond.value, hownZ, hi, beq_iff_eq, Option.some.injEq, Bool.and_eq_true] at w
    obtain ⟨-, w⟩ := w
    split at w
    · rename_i c' i' hr; simp only [Bool.and_eq_true, beq_iff_eq] at w; obtain ⟨rfl, rfl⟩ := w; exact hr
    · cases w
  have hr' := State.resolvedAt?_warmed39 hT hr
  have hownT : T.vm.findClass own = some m.cls := by rw [hT.alike.findClass]; exact hownZ
  obtain ⟨k', hi', -⟩ := State.fieldFound?_setVm (s := Z) hT.alike hi
  obtain ⟨hk, hf⟩ := State.fieldFound?_spec hi'
  have hready : T.vm.fieldReady m.cls index cf f := by
    simp only [State.resolvedAt?, State.vm_setVm, hownT, Option.bind_eq_bind, Option.bind_some, Option.bind_eq_some_iff] at hr'
    obtain ⟨kc, hkc, hr'⟩ := hr'
    refine ⟨kc, i, k', hkc, ?_, hk, hf⟩
    cases hx : kc.resolved[index]? with
    | none => simp [hx] at hr'
    | some y => simp only [hx, Option.join_some] at hr'; rw [hr']
  intro target hrest
  subst hg
  jvm_step X.here [hx, hd, getfield.wp_ready (e := e) (s := T) (f := g) X.here.top hready h3 hs (show T.heap[a]? = some cell by rw [eT]; exact h1) h4 h7]
  exact hrest
theorem own_selfPriv {s : State} {args args' : Array Value} {y : MethodName} {n : Nat} (wi : (Cond.instantiable y.cls n).before args' s = true) (hp : s.PrivateAt y) (hi : (Cond.instanceMethod y).before args s = true) (hy : y.cls ≠ "java/lang/invoke/MethodHandle" ∧ y.cls ≠ "java/lang/invoke/VarHandle") : (Cond.selects y.cls y y).before args s = true := by
  obtain ⟨c, k, h1, h2, -, h4, -⟩ := Cond.instantiable_spec wi
  exact Jvm.Stand.selects_self_of_private h1 h2 (by simp only [Bool.or_eq_false_iff] at h4; exact h4.1) hp hi hy
theorem own_bool (z : Int32) (h : z = 0 ∨ z = 1) : narrow .boolean (.int z) = .int z := by rcases h with rfl | rfl <;> rfl
theorem own_hw {Z : State} {a0 : Array Value} {ws : List Jvm.Cond} (hw : ∀ d ∈ ws, d.before a0 Z = true) (i : Nat) {d : Jvm.Cond} (h : ws[i]? = some d) : d.before a0 Z = true := hw d (List.mem_of_getElem? h)
end OwnPre

section OwnArr
variable {p : Program} {l : Launch} {e : Env} {R : Room} {s : State} {m : MethodId} {args : Array Value} {below : List Frame} {meth : Method} {c : Code} {T : State} {locs : List Loc} {cells slots : Nat} {Z : State} {h h' : Heap} {a b : Addr} {k : ClassId} {ty : FieldType} {vs : List Value} {a0 : Array Value}
/-- the array at a is of class k, of components ty, and holds vs -/
def own_A (Z : State) (h : Heap) (a : Addr) (k : ClassId) (ty : FieldType) (vs : List Value) : Prop := ∃ c : Cell, Arr Z h a c ty ∧ c.cls = k ∧ c.slots.toList = vs ∧ vs.length < 2 ^ 31 ∧ ∀ v ∈ vs, fits ty v = true
theorem own_A.lt (F : own_A Z h a k ty vs) : a < h.size := by obtain ⟨c, A, -⟩ := F; exact A.lt
theorem own_A.ext (F : own_A Z h a k ty vs) (E : Ext h h') : own_A Z h' a k ty vs := by obtain ⟨c, A, r⟩ := F; exact ⟨c, A.ext E, r⟩
theorem own_A.other {sl : Nat} {v : Value} (F : own_A Z h b k ty vs) (W : Wr h h' a sl v) (q : b ≠ a) : own_A Z h' b k ty vs := by obtain ⟨c, A, r⟩ := F; exact ⟨c, A.other W q, r⟩
theorem own_A.keep {ws : List Addr} (F : own_A Z h a k ty vs) (K : Keep h h' ws) (q : a ∉ ws) : own_A Z h' a k ty vs := by obtain ⟨c, A, r⟩ := F; exact ⟨c, ⟨K.2.1 a c A.1 q, A.2⟩, r⟩
theorem own_A.eqs {vs' : List Value} (F : own_A Z h a k ty vs) (q : vs = vs') : own_A Z h a k ty vs' := q ▸ F
theorem own_in {cl : Cell} (hs : cl.slots.toList = vs) {j : Int32} {i : Nat} {v : Value} (hj : j.toInt = (i : Int)) (hv : vs[i]? = some v) : ¬ (j < 0 ∨ cl.slots.size ≤ j.toNatClampNeg) ∧ cl.slots[j.toNatClampNeg]? = some v ∧ j.toNatClampNeg = i := by
  have e : j.toNatClampNeg = i := by show j.toInt.toNat = i; omega
  have hlt : i < vs.length := by
    rcases Nat.lt_or_ge i vs.length with q | q
    · exact q
    · rw [List.getElem?_eq_none q] at hv; cases hv
  have hz : cl.slots.size = vs.length := by rw [← hs]; simp
  refine ⟨fun q => ?_, ?_, e⟩
  · rcases q with q | q
    · rw [Int32.lt_iff_toInt_lt, hj] at q; simp at q; omega
    · omega
  · rw [e, ← Array.getElem?_toList, hs]; exact hv
theorem own_ldJ (X : Stand p l e R s m args below meth c T locs cells slots) (hx : p.tables.exec = Jvm.exec) (hZ : Z.Warmed39 s.vm) (eT : T.heap = h) (F : own_A Z h a k .long vs) {j : Int32} {i : Nat} {v : Value} (hj : j.toInt = (i : Int)) (hv : vs[i]? = some v) {g : JFrame} (hg : g.method = m) {rest : List Value} (hs : g.stack = .int j :: .ref a :: rest) (hd : decode c.code g.pc = .ok (.laload, 1)) :
    ∀ t, Steps p.tables e below (T.setTop { g with pc := g.pc + 1, stack := v :: rest }) t → Steps p.tables e below (T.setTop g) t := fun t r => by
  obtain ⟨cl, A, -, q, -⟩ := F; obtain ⟨h1, h2, -⟩ := own_in q hj hv
  exact X.laload hx (by rw [eT]; exact A.1) (State.isArrayOf_alike hZ.alike A.2.1) A.2.2 h1 h2 hg hs hd t r
theorem own_ldI (X : Stand p l e R s m args below meth c T locs cells slots) (hx : p.tables.exec = Jvm.exec) (hZ : Z.Warmed39 s.vm) (eT : T.heap = h) (F : own_A Z h a k .int vs) {j : Int32} {i : Nat} {v : Value} (hj : j.toInt = (i : Int)) (hv : vs[i]? = some v) {g : JFrame} (hg : g.method = m) {rest : List Value} (hs : g.stack = .int j :: .ref a :: rest) (hd : decode c.code g.pc = .ok (.iaload, 1)) :
    ∀ t, Steps p.tables e below (T.setTop { g with pc := g.pc + 1, stack := v :: rest }) t → Steps p.tables e below (T.setTop g) t := fun t r => by
  obtain ⟨cl, A, -, q, -⟩ := F; obtain ⟨h1, h2, -⟩ := own_in q hj hv
  exact X.iaload hx (by rw [eT]; exact A.1) (State.isArrayOf_alike hZ.alike A.2.1) A.2.2 h1 h2 hg hs hd t r
theorem own_ldC (X : Stand p l e R s m args below meth c T locs cells slots) (hx : p.tables.exec = Jvm.exec) (hZ : Z.Warmed39 s.vm) (eT : T.heap = h) (F : own_A Z h a k .char vs) {j : Int32} {i : Nat} {v : Value} (hj : j.toInt = (i : Int)) (hv : vs[i]? = some v) {g : JFrame} (hg : g.method = m) {rest : List Value} (hs : g.stack = .int j :: .ref a :: rest) (hd : decode c.code g.pc = .ok (.caload, 1)) :
    ∀ t, Steps p.tables e below (T.setTop { g with pc := g.pc + 1, stack := v :: rest }) t → Steps p.tables e below (T.setTop g) t := fun t r => by
  obtain ⟨cl, A, -, q, -⟩ := F; obtain ⟨h1, h2, -⟩ := own_in q hj hv
  exact X.caload hx (by rw [eT]; exact A.1) (State.isArrayOf_alike hZ.alike A.2.1) A.2.2 h1 h2 hg hs hd t r
theorem own_ldB (X : Stand p l e R s m args below meth c T locs cells slots) (hx : p.tables.exec = Jvm.exec) (hZ : Z.Warmed39 s.vm) (eT : T.heap = h) (F : own_A Z h a k .byte vs) {j : Int32} {i : Nat} {v : Value} (hj : j.toInt = (i : Int)) (hv : vs[i]? = some v) {g : JFrame} (hg : g.method = m) {rest : List Value} (hs : g.stack = .int j :: .ref a :: rest) (hd : decode c.code g.pc = .ok (.baload, 1)) :
    ∀ t, Steps p.tables e below (T.setTop { g with pc := g.pc + 1, stack := v :: rest }) t → Steps p.tables e below (T.setTop g) t := fun t r => by
  obtain ⟨cl, A, -, q, -⟩ := F; obtain ⟨h1, h2, -⟩ := own_in q hj hv
  exact X.baloadBytes hx (by rw [eT]; exact A.1) (State.isArrayOf_alike hZ.alike A.2.1) A.2.2 h1 h2 hg hs hd t r
theorem own_ldA (X : Stand p l e R s m args below meth c T locs cells slots) (hx : p.tables.exec = Jvm.exec) (hZ : Z.Warmed39 s.vm) (eT : T.heap = h) (F : own_A Z h a k ty vs) (hty : ty.isReference = true) {j : Int32} {i : Nat} {v : Value} (hj : j.toInt = (i : Int)) (hv : vs[i]? = some v) {g : JFrame} (hg : g.method = m) {rest : List Value} (hs : g.stack = .int j :: .ref a :: rest) (hd : decode c.code g.pc = .ok (.aaload, 1)) :
    ∀ t, Steps p.tables e below (T.setTop { g with pc := g.pc + 1, stack := v :: rest }) t → Steps p.tables e below (T.setTop g) t := fun t r => by
  obtain ⟨cl, A, -, q, -⟩ := F; obtain ⟨h1, h2, -⟩ := own_in q hj hv
  exact X.aaload hx (by rw [eT]; exact A.1) (State.isArrayOf_alike hZ.alike A.2.1) hty A.2.2 h1 h2 hg hs hd t r
theorem own_len (X : Stand p l e R s m args below meth c T locs cells slots) (hx : p.tables.exec = Jvm.exec) (hZ : Z.Warmed39 s.vm) (eT : T.heap = h) (F : own_A Z h a k ty vs) {z : Int32} (hz : z.toInt = (vs.length : Int)) {g : JFrame} (hg : g.method = m) {rest : List Value} (hs : g.stack = .ref a :: rest) (hd : decode c.code g.pc = .ok (.arraylength, 1)) :
    ∀ t, Steps p.tables e below (T.setTop { g with pc := g.pc + 1, stack := .int z :: rest }) t → Steps p.tables e below (T.setTop g) t := fun t r => by
  obtain ⟨cl, A, -, q, q2, -⟩ := F
  have hl : cl.slots.size = vs.length := by rw [← q]; simp
  have e1 : cl.slots.size.toInt32 = z := by
    apply Int32.toInt_inj.mp
    rw [hl, hz]; exact Int32.toInt_ofNat_small q2
  exact X.arraylength hx (by rw [eT]; exact A.1) (State.isArrayOf_alike hZ.alike A.2.1) hg hs hd t (by rw [e1]; exact r)
theorem own_A.set {cl : Cell} (A : Arr Z h a cl ty) (q1 : cl.cls = k) (q2 : cl.slots.toList = vs) (q3 : vs.length < 2 ^ 31) (q4 : ∀ v ∈ vs, fits ty v = true) {i : Nat} {v : Value} (hv : fits ty v = true) (W : Wr h h' a i v) : own_A Z h' a k ty (vs.set i v) := by
  refine ⟨cl.setSlot i v, A.same W, q1, ?_, by simpa using q3, fun u hu => ?_⟩
  · simp [Cell.setSlot, q2]
  · rcases List.mem_or_eq_of_mem_set hu with r | r
    · exact q4 u r
    · rw [r]; exact hv
theorem own_stJ (X : Stand p l e R s m args below meth c T locs cells slots) (hx : p.tables.exec = Jvm.exec) (hZ : Z.Warmed39 s.vm) (eT : T.heap = h) (F : own_A Z h a k .long vs) {j : Int32} {i : Nat} {x : Int64} (hj : j.toInt = (i : Int)) (hi : i < vs.length) {g : JFrame} (hg : g.method = m) {rest : List Value} (hs : g.stack = .long x :: .int j :: .ref a :: rest) (hd : decode c.code g.pc = .ok (.lastore, 1)) :
    ∃ T' h', Stand p l e R s m args below meth c T' (locs ++ [⟨a, i⟩]) cells slots ∧ T'.heap = h' ∧ Wr h h' a i (.long x) ∧ own_A Z h' a k .long (vs.set i (.long x)) ∧ ∀ t, Steps p.tables e below (T'.setTop { g with pc := g.pc + 1, stack := rest }) t → Steps p.tables e below (T.setTop g) t := by
  obtain ⟨cl, A, r1, r2, r3, r4⟩ := F; obtain ⟨h1, -, h3⟩ := own_in r2 hj (List.getElem?_eq_getElem hi)
  obtain ⟨T', h', X', e', W, st⟩ := stJ X hx hZ eT A h1 hg hs hd
  rw [h3] at X' W
  exact ⟨T', h', X', e', W, own_A.set A r1 r2 r3 r4 rfl W, st⟩
theorem own_stI (X : Stand p l e R s m args below meth c T locs cells slots) (hx : p.tables.exec = Jvm.exec) (hZ : Z.Warmed39 s.vm) (eT : T.heap = h) (F : own_A Z h a k .int vs) {j : Int32} {i : Nat} {x : Int32} (hj : j.toInt = (i : Int)) (hi : i < vs.length) {g : JFrame} (hg : g.method = m) {rest : List Value} (hs : g.stack = .int x :: .int j :: .ref a :: rest) (hd : decode c.code g.pc = .ok (.iastore, 1)) :
    ∃ T' h', Stand p l e R s m args below meth c T' (locs ++ [⟨a, i⟩]) cells slots ∧ T'.heap = h' ∧ Wr h h' a i (.int x) ∧ own_A Z h' a k .int (vs.set i (.int x)) ∧ ∀ t, Steps p.tables e below (T'.setTop { g with pc := g.pc + 1, stack := rest }) t → Steps p.tables e below (T.setTop g) t := by
  obtain ⟨cl, A, r1, r2, r3, r4⟩ := F; obtain ⟨h1, -, h3⟩ := own_in r2 hj (List.getElem?_eq_getElem hi)
  obtain ⟨T', h', X', e', W, st⟩ := stI X hx hZ eT A h1 hg hs hd
  rw [h3] at X' W
  exact ⟨T', h', X', e', W, own_A.set A r1 r2 r3 r4 rfl W, st⟩
theorem own_stC (X : Stand p l e R s m args below meth c T locs cells slots) (hx : p.tables.exec = Jvm.exec) (hZ : Z.Warmed39 s.vm) (eT : T.heap = h) (F : own_A Z h a k .char vs) {j : Int32} {i : Nat} {x y : Int32} (hy : nar .char x = y) (hj : j.toInt = (i : Int)) (hi : i < vs.length) {g : JFrame} (hg : g.method = m) {rest : List Value} (hs : g.stack = .int x :: .int j :: .ref a :: rest) (hd : decode c.code g.pc = .ok (.castore, 1)) :
    ∃ T' h', Stand p l e R s m args below meth c T' (locs ++ [⟨a, i⟩]) cells slots ∧ T'.heap = h' ∧ Wr h h' a i (.int y) ∧ own_A Z h' a k .char (vs.set i (.int y)) ∧ ∀ t, Steps p.tables e below (T'.setTop { g with pc := g.pc + 1, stack := rest }) t → Steps p.tables e below (T.setTop g) t := by
  obtain ⟨cl, A, r1, r2, r3, r4⟩ := F; obtain ⟨h1, -, h3⟩ := own_in r2 hj (List.getElem?_eq_getElem hi)
  obtain ⟨T', h', X', e', W, st⟩ := stC X hx hZ eT A h1 hg hs hd
  have hfy := fits_nar_char x
  rw [hy] at hfy W
  rw [h3] at X' W
  exact ⟨T', h', X', e', W, own_A.set A r1 r2 r3 r4 hfy W, st⟩
theorem own_stB (X : Stand p l e R s m args below meth c T locs cells slots) (hx : p.tables.exec = Jvm.exec) (hZ : Z.Warmed39 s.vm) (eT : T.heap = h) (F : own_A Z h a k .byte vs) {j : Int32} {i : Nat} {x y : Int32} (hy : nar .byte x = y) (hj : j.toInt = (i : Int)) (hi : i < vs.length) {g : JFrame} (hg : g.method = m) {rest : List Value} (hs : g.stack = .int x :: .int j :: .ref a :: rest) (hd : decode c.code g.pc = .ok (.bastore, 1)) :
    ∃ T' h', Stand p l e R s m args below meth c T' (locs ++ [⟨a, i⟩]) cells slots ∧ T'.heap = h' ∧ Wr h h' a i (.int y) ∧ own_A Z h' a k .byte (vs.set i (.int y)) ∧ ∀ t, Steps p.tables e below (T'.setTop { g with pc := g.pc + 1, stack := rest }) t → Steps p.tables e below (T.setTop g) t := by
  obtain ⟨cl, A, r1, r2, r3, r4⟩ := F; obtain ⟨h1, -, h3⟩ := own_in r2 hj (List.getElem?_eq_getElem hi)
  obtain ⟨T', h', X', e', W, st⟩ := stB X hx hZ eT A h1 hg hs hd
  have hfy : fits .byte (.int (nar .byte x)) = true := fits_nar_byte x
  rw [hy] at hfy W
  rw [h3] at X' W
  exact ⟨T', h', X', e', W, own_A.set A r1 r2 r3 r4 hfy W, st⟩
theorem own_stR (X : Stand p l e R s m args below meth c T locs cells slots) (hx : p.tables.exec = Jvm.exec) (hZ : Z.Warmed39 s.vm) (eT : T.heap = h) (F : own_A Z h a k ty vs) (hty : ty.isReference = true) {j : Int32} {i : Nat} {v : Value} (hj : j.toInt = (i : Int)) (hi : i < vs.length) (hS : ∀ cl : Cell, Arr Z h a cl ty → cl.cls = k → Sto Z h a v) (hf : fits ty v = true) {g : JFrame} (hg : g.method = m) {rest : List Value} (hs : g.stack = v :: .int j :: .ref a :: rest) (hd : decode c.code g.pc = .ok (.aastore, 1)) :
    ∃ T' h', Stand p l e R s m args below meth c T' (locs ++ [⟨a, i⟩]) cells slots ∧ T'.heap = h' ∧ Wr h h' a i v ∧ own_A Z h' a k ty (vs.set i v) ∧ ∀ t, Steps p.tables e below (T'.setTop { g with pc := g.pc + 1, stack := rest }) t → Steps p.tables e below (T.setTop g) t := by
  obtain ⟨cl, A, r1, r2, r3, r4⟩ := F; obtain ⟨h1, -, h3⟩ := own_in r2 hj (List.getElem?_eq_getElem hi)
  obtain ⟨T', h', X', e', W, st⟩ := stR X hx hZ eT A h1 hty (hS cl A r1) hg hs hd
  rw [h3] at X' W
  exact ⟨T', h', X', e', W, own_A.set A r1 r2 r3 r4 hf W, st⟩
theorem own_A.of_new {n : Int32} {i : Nat} (hn : n.toInt = (i : Int)) (hd : fits ty (defaultValue ty) = true) (A : Arr Z h a (newA k ty n) ty) : own_A Z h a k ty (List.replicate i (defaultValue ty)) := by
  have e : n.toNatClampNeg = i := by show n.toInt.toNat = i; omega
  have hb := n.toInt_lt
  refine ⟨_, A, rfl, by simp [newA, e], by simp; omega, fun v hv => by rw [(List.mem_replicate.mp hv).2]; exact hd⟩
theorem own_newP (X : Stand p l e R s m args below meth c T locs cells slots) (hx : p.tables.exec = Jvm.exec) (hZ : Z.Warmed39 s.vm) {aty : ArrayType} (w : (Cond.arrayClass (newarray.typeOf aty)).before a0 Z = true) (eT : T.heap = h) {g : JFrame} (hg : g.method = m) (hd : decode c.code g.pc = .ok (.newarray aty, 2)) {n : Int32} {rest : List Value} (hs : g.stack = .int n :: rest)
    {i : Nat} (hn : n.toInt = (i : Int)) {cap : Nat} (hcap : i ≤ cap) (hb : cap * 8 ≤ 536870912) (hc : cells + 1 ≤ R.cells) (hl : slots + cap ≤ R.slots) :
    ∃ T' h' cA, Stand p l e R s m args below meth c T' locs (cells + 1) (slots + cap) ∧ T'.heap = h' ∧ Ext h h' ∧ own_A Z h' h.size cA (newarray.typeOf aty) (List.replicate i (defaultValue (newarray.typeOf aty))) ∧
      ∀ target, Steps p.tables e below (T'.setTop { g with pc := g.pc + 2, stack := .ref h.size :: rest }) target → Steps p.tables e below (T.setTop g) target := by
  have hn' : ¬ n < 0 := by rw [Int32.lt_iff_toInt_lt, hn]; simp
  obtain ⟨T', h', cA, X', e', E, A, st⟩ := newP X hx hZ w eT hg hd hs hn' (cap := cap) (by show n.toInt.toNat ≤ cap; omega) hb hc hl
  exact ⟨T', h', cA, X', e', E, own_A.of_new hn (by cases aty <;> rfl) A, st⟩
theorem own_newR (X : Stand p l e R s m args below meth c T locs cells slots) (hx : p.tables.exec = Jvm.exec) (hZ : Z.Warmed39 s.vm) {own C : String} {index : Nat} (hown : s.vm.findClass own = some m.cls) (w1 : (Cond.classLink own index C).before a0 Z = true) (w2 : (Cond.arrayOver (.object C)).before a0 Z = true)
    (eT : T.heap = h) {g : JFrame} (hg : g.method = m) (hd : decode c.code g.pc = .ok (.anewarray index, 3)) {n : Int32} {rest : List Value} (hs : g.stack = .int n :: rest) {i : Nat} (hn : n.toInt = (i : Int)) {cap : Nat} (hcap : i ≤ cap) (hb : cap * 8 ≤ 536870912) (hc : cells + 1 ≤ R.cells) (hl : slots + cap ≤ R.slots) :
    ∃ T' h' cA, Stand p l e R s m args below meth c T' locs (cells + 1) (slots + cap) ∧ T'.heap = h' ∧ Ext h h' ∧ own_A Z h' h.size cA (.object C) (List.replicate i .null) ∧ Ovr Z cA C ∧
      ∀ target, Steps p.tables e below (T'.setTop { g with pc := g.pc + 3, stack := .ref h.size :: rest }) target → Steps p.tables e below (T.setTop g) target := by
  have hn' : ¬ n < 0 := by rw [Int32.lt_iff_toInt_lt, hn]; simp
  obtain ⟨T', h', cA, X', e', E, A, O, st⟩ := newR X hx hZ hown w1 w2 eT hg hd hs hn' (cap := cap) (by show n.toInt.toNat ≤ cap; omega) hb hc hl
  exact ⟨T', h', cA, X', e', E, own_A.of_new hn rfl A, O, st⟩
theorem own_sto {C : String} {v : Value} (O : Ovr Z k C) (I : v = .null ∨ ∃ y, v = .ref y ∧ Ins Z h y C true) : ∀ cl : Cell, Arr Z h a cl ty → cl.cls = k → Sto Z h a v := fun cl A q => by
  rcases I with rfl | ⟨y, rfl, I⟩
  · exact Or.inl rfl
  · exact Sto.ofV A q O I
theorem own_A.start {args : Array Value} (hf : Fit Z) {t : Term} {n : Int32} (ev : t.eval args Z none [] Z = some (.ref a)) (hA : (Cond.arrayOf t ty).value args Z none Z [] = some true) (hL : (Cond.eq (.length t) (.int n)).value args Z none Z [] = some true) :
    ∃ c : Cell, Arr Z Z.heap a c ty ∧ own_A Z Z.heap a c.cls ty c.slots.toList ∧ c.slots.size < 2 ^ 31 ∧ c.slots.size.toInt32 = n ∧ (c.slots.size : Int) = n.toInt := by
  obtain ⟨c, A⟩ := Arr.start ev hA
  have e := eqv_i (Term.int_eval n) hL
  have e4 : Z.arrayAt? a = some c := A.fin (Vm.Alike.refl _)
  have hl : c.slots.size < 2 ^ 31 := by
    rcases Nat.lt_or_ge c.slots.size (2 ^ 31) with q | q
    · exact q
    · simp [Term.eval, ev, e4, Nat.not_lt.mpr q] at e
  have e5 := (len_f ev e4 hl).symm.trans e
  have e6 : c.slots.size.toInt32 = n := Value.int.inj (Option.some.inj e5)
  refine ⟨c, A, ⟨c, A, rfl, rfl, by simpa using hl, fun v hv => ?_⟩, hl, e6, ?_⟩
  · obtain ⟨i, hi, rfl⟩ := List.getElem_of_mem hv
    have hi' : i < c.slots.size := by simpa using hi
    have q := idx_in hi' hl
    have e7 : i.toInt32.toNatClampNeg = i := by
      show i.toInt32.toInt.toNat = i
      rw [len_toInt (Nat.lt_trans hi' hl)]; rfl
    exact elem_fits hf A q (by rw [e7]; simp [hi'])
  · rw [← e6, len_toInt hl]
end OwnArr

theorem own_wS {Z : State} {a0 : Array Value} (hw : ∀ d ∈ tables_1, d.before a0 Z = true) : ∀ a ∈ Bundle.stringAtoms, a.before a0 Z = true := fun d hd => by
  simp only [Bundle.stringAtoms, List.mem_cons, List.not_mem_nil, or_false] at hd
  rcases hd with rfl | rfl | rfl | rfl | rfl | rfl | rfl
  · exact (own_hw hw 39 rfl)
  · exact (own_hw hw 40 rfl)
  · exact (own_hw hw 41 rfl)
  · exact (own_hw hw 42 rfl)
  · exact (own_hw hw 43 rfl)
  · exact (own_hw hw 44 rfl)
  · exact (own_hw hw 45 rfl)
theorem own_mod5 (x : Int32) : (x &&& (2147483647 : Int32)) % (5 : Int32) = 0 ∨ (x &&& (2147483647 : Int32)) % (5 : Int32) = 1 ∨ (x &&& (2147483647 : Int32)) % (5 : Int32) = 2 ∨ (x &&& (2147483647 : Int32)) % (5 : Int32) = 3 ∨ (x &&& (2147483647 : Int32)) % (5 : Int32) = 4 := by
  have h := Jvm.Kit.i32_mask x 2147483647 (k := 31) (by decide) (by decide)
  have h5 : (5 : Int32).toInt = 5 := by decide
  have hr := Jvm.Kit.i32_rem_nonneg (x := x &&& 2147483647) (y := 5) (by omega)
  have h0 : (0 : Int32).toInt = 0 := by decide
  have h1 : (1 : Int32).toInt = 1 := by decide
  have h2 : (2 : Int32).toInt = 2 := by decide
  have h3 : (3 : Int32).toInt = 3 := by decide
  have h4 : (4 : Int32).toInt = 4 := by decide
  simp only [← Int32.toInt_inj, h0, h1, h2, h3, h4]
  rw [h5] at hr
  rw [hr]
  omega
theorem own_ltlen {sz z : Int32} {i n : Nat} (h1 : sz.toInt = (i : Int)) (h2 : z.toInt = (n : Int)) (h3 : i < n) : ¬ (sz = z) := fun q => by rw [q, h2] at h1; omega
theorem own_lt {sz z : Int32} {i n : Nat} (h1 : sz.toInt = (i : Int)) (h2 : z.toInt = (n : Int)) (h3 : i < n) : sz < z := by rw [Int32.lt_iff_toInt_lt, h1, h2]; omega
theorem own_nn {sz : Int32} {i : Nat} (h1 : sz.toInt = (i : Int)) : ¬ (sz < (0 : Int32)) := by rw [Int32.lt_iff_toInt_lt, h1]; simp
theorem own_idx {x : Int32} (h1 : ¬ (x < (-128 : Int32))) (h2 : ¬ ((127 : Int32) < x)) : (x + (128 : Int32)).toInt = (((x.toInt + 128).toNat : Nat) : Int) ∧ (x.toInt + 128).toNat < 256 := by
  have e1 : (-128 : Int32).toInt = -128 := by decide
  have e2 : (127 : Int32).toInt = 127 := by decide
  have e3 : (128 : Int32).toInt = 128 := by decide
  rw [Int32.lt_iff_toInt_lt, e1] at h1
  rw [Int32.lt_iff_toInt_lt, e2] at h2
  rw [Jvm.Kit.i32_add (by omega) (by omega), e3]
  omega
theorem ef_own_abc (m : MethodId) (x0 : Addr) : entryFrame m #[(.ref x0)] 1 = mkF m 0 #[.val (.ref x0)] [] := by first | (simp [entryFrame, mkF, argsToLocals, Value.category]; done) | rfl
theorem pf_own_abc : plainFor own_m0 = true := plainFor_of_name (by simp [plainName, overriddenIn])
theorem d_jdk_22_method_1_code_0 : decode jdk_22_method_1_code 0 = .ok (.aload_n 0, 1) := by decide +kernel
theorem d_jdk_22_method_1_code_1 : decode jdk_22_method_1_code 1 = .ok (.invokespecial 1, 3) := by decide +kernel
theorem d_jdk_22_method_1_code_4 : decode jdk_22_method_1_code 4 = .ok (.return_, 1) := by decide +kernel
def Q_own_abc (Z : State) (a : Addr) (h0 : Heap) (v : Option Value) (h : Heap) (L : List Loc) : Prop := v = none ∧ Fr Z.heap.size L ∧ h = h0
set_option maxRecDepth 65536 in
set_option maxHeartbeats 40000000 in
theorem own_abc (l : Launch) (Z : State) (a0 : Array Value) (hw : ∀ d ∈ tables_1, d.before a0 Z = true) (ws : List Jvm.Cond) (a : Addr) (h0 : Heap) (O0 : Ext Z.heap h0) :
    MetFree l own_m0 (head1 (Jvm.Cond.code own_m0 jdk_22_method_1_code 1 none :: ws) ({ frames := 1, cells := 0, slots := 0, locals := 12 } : Room)) (fun aa U => aa = #[(.ref a)] ∧ Z.Warmed39 U.vm ∧ U.heap = h0) (fun _ _ _ _ _ => True) (fun _ U o U' => ∃ v L, o = .returned v ∧ Q_own_abc Z a h0 v U'.heap L ∧ FrameEnd U o U' L ({ frames := 1, cells := 0, slots := 0, locals := 12 } : Room).cells ({ frames := 1, cells := 0, slots := 0, locals := 12 } : Room).slots) := by
  refine MetFree.of_bodySF pf_own_abc hisR ?_
  intro p e s m args below meth c s₁ Bd hml0 hP hK
  obtain ⟨rfl, hZ, hh⟩ := hP
  have hx := Bd.exec
  have hby := Bd.bytes
  have hlk := BodyLoose.notSynchronized Bd
  have hml : c.maxLocals = 1 := hml0
  have hown : s.vm.findClass "java/util/AbstractCollection" = some m.cls := findClass_of_methodNamed Bd.named
  have hnm := (name_of_methodNamed Bd.named Bd.method).1
  have X0 : Stand p l e ({ frames := 1, cells := 0, slots := 0, locals := 12 } : Room) s m #[(.ref a)] below meth c s₁ [] 0 0 := Stand.of_body Bd
  have e0 : s₁.heap = h0 := by rw [← hh, Bd.state]; rfl
  have N0 := Fr.nil Z.heap.size
  have K0 : Keep h0 h0 [] := Keep.refl _ _
  refine own_start (Q := Q_own_abc Z a h0) (ef_own_abc m (a)) ?_
  show own_G p e below (s₁.setTop (mkF m 0 #[.val (.ref a)] [])) _
  refine own_go (fun t k => XS.aloadN X0.here hx rfl (hb hby d_jdk_22_method_1_code_0) rfl rfl k) ?_
  obtain ⟨T1z, X1z, e1z, st1z⟩ := initO X0 hx hZ hown (own_hw hw 26 rfl) (own_hw hw 27 rfl) (own_hw hw 28 rfl) e0 (g := (mkF m 1 #[.val (.ref a)] [(.ref a)])) rfl (by rw [hml]; rfl) rfl (hb hby d_jdk_22_method_1_code_1) (by decide) (W := 0) (by show 2 * 0 + _ ≤ _; exact Nat.le_of_eq rfl) (by decide)
  refine own_go st1z ?_
  show own_G p e below (T1z.setTop (mkF m 4 #[.val (.ref a)] [])) _
  exact own_retV X1z hx Bd.returns (hb hby d_jdk_22_method_1_code_4) hlk (Nat.le_of_ble_eq_true rfl) (Nat.le_of_ble_eq_true rfl) (by show Q_own_abc Z a h0 _ T1z.heap _; rw [e1z]; exact ⟨rfl, N0, rfl⟩)
theorem ef_own_abl (m : MethodId) (x0 : Addr) : entryFrame m #[(.ref x0)] 1 = mkF m 0 #[.val (.ref x0)] [] := by first | (simp [entryFrame, mkF, argsToLocals, Value.category]; done) | rfl
theorem pf_own_abl : plainFor own_m1 = true := plainFor_of_name (by simp [plainName, overriddenIn])
theorem pd_193421996 : parseMethodDescriptor "()V" = some ⟨[], none⟩ := by decide +kernel
theorem d_jdk_39_method_1_code_0 : decode jdk_39_method_1_code 0 = .ok (.aload_n 0, 1) := by decide +kernel
theorem d_jdk_39_method_1_code_1 : decode jdk_39_method_1_code 1 = .ok (.invokespecial 1, 3) := by decide +kernel
theorem d_jdk_39_method_1_code_4 : decode jdk_39_method_1_code 4 = .ok (.aload_n 0, 1) := by decide +kernel
theorem d_jdk_39_method_1_code_5 : decode jdk_39_method_1_code 5 = .ok (.iconst 0, 1) := by decide +kernel
theorem d_jdk_39_method_1_code_6 : decode jdk_39_method_1_code 6 = .ok (.putfield 7, 3) := by decide +kernel
theorem d_jdk_39_method_1_code_9 : decode jdk_39_method_1_code 9 = .ok (.return_, 1) := by decide +kernel
def Q_own_abl (Z : State) (a : Addr) (h0 : Heap) (v : Option Value) (h : Heap) (L : List Loc) : Prop := v = none ∧ Fr Z.heap.size L ∧ Keep h0 h [a] ∧ (Exa Z h a "java/util/ArrayList") ∧ (Fld Z h a "java/util/AbstractList" "modCount" "I" (.int (0 : Int32))) ∧ (Fld Z h a "java/util/ArrayList" "elementData" "[Ljava/lang/Object;" .null) ∧ (Fld Z h a "java/util/ArrayList" "size" "I" (.int (0 : Int32)))
set_option maxRecDepth 65536 in
set_option maxHeartbeats 40000000 in
theorem own_abl (l : Launch) (Z : State) (a0 : Array Value) (hw : ∀ d ∈ tables_1, d.before a0 Z = true) (ws : List Jvm.Cond) (a : Addr) (h0 : Heap) (O0 : Ext Z.heap h0) (q0 : Exa Z h0 a "java/util/ArrayList") (q1 : Z.heap.size ≤ a) (q2 : Fld Z h0 a "java/util/AbstractList" "modCount" "I" (.int (0 : Int32))) (q3 : Fld Z h0 a "java/util/ArrayList" "elementData" "[Ljava/lang/Object;" .null) (q4 : Fld Z h0 a "java/util/ArrayList" "size" "I" (.int (0 : Int32))) :
    MetFree l own_m1 (head1 (Jvm.Cond.code own_m1 jdk_39_method_1_code 1 none :: ws) ({ frames := 2, cells := 0, slots := 0, locals := 24 } : Room)) (fun aa U => aa = #[(.ref a)] ∧ Z.Warmed39 U.vm ∧ U.heap = h0) (fun _ _ _ _ _ => True) (fun _ U o U' => ∃ v L, o = .returned v ∧ Q_own_abl Z a h0 v U'.heap L ∧ FrameEnd U o U' L ({ frames := 2, cells := 0, slots := 0, locals := 24 } : Room).cells ({ frames := 2, cells := 0, slots := 0, locals := 24 } : Room).slots) := by
  refine MetFree.of_bodySF pf_own_abl hisR ?_
  intro p e s m args below meth c s₁ Bd hml0 hP hK
  obtain ⟨rfl, hZ, hh⟩ := hP
  have hx := Bd.exec
  have hby := Bd.bytes
  have hlk := BodyLoose.notSynchronized Bd
  have hml : c.maxLocals = 1 := hml0
  have hown : s.vm.findClass "java/util/AbstractList" = some m.cls := findClass_of_methodNamed Bd.named
  have hnm := (name_of_methodNamed Bd.named Bd.method).1
  have X0 : Stand p l e ({ frames := 2, cells := 0, slots := 0, locals := 24 } : Room) s m #[(.ref a)] below meth c s₁ [] 0 0 := Stand.of_body Bd
  have e0 : s₁.heap = h0 := by rw [← hh, Bd.state]; rfl
  have N0 := Fr.nil Z.heap.size
  have K0 : Keep h0 h0 [a] := Keep.refl _ _
  refine own_start (Q := Q_own_abl Z a h0) (ef_own_abl m (a)) ?_
  show own_G p e below (s₁.setTop (mkF m 0 #[.val (.ref a)] [])) _
  refine own_go (fun t k => XS.aloadN X0.here hx rfl (hb hby d_jdk_39_method_1_code_0) rfl rfl k) ?_
  obtain ⟨_, _, ⟨T1z, L1z, k1z, n1z⟩, -, X1z, ⟨Lc1z, hQ1z, l1z, y1z, z1z⟩, st1z⟩ := X0.specialBack hx (y := own_m0) rfl hown (mvT hZ (own_hw hw 20 rfl)) (mvT hZ (own_hw hw 21 rfl)) (mvT hZ (own_hw hw 25 rfl)) (by decide) (backOf (W := 0) (own_abc l Z a0 hw [] a h0 O0) hZ (own_hw hw 25 rfl) (own_hw hw 24 rfl) (by decide) (by decide)) (g := (mkF m 1 #[.val (.ref a)] [(.ref a)])) rfl (by rw [hml]; rfl) (Steps.refl _) (a := a) (argsL := []) (rest := []) (lenOf pd_193421996 rfl) rfl (by show 2 * 0 + _ ≤ _; exact Nat.le_of_eq rfl) (hb hby d_jdk_39_method_1_code_1) (fun _ _ => ⟨rfl, e0, (by decide : 0 + 0 ≤ _), (by decide : 0 + 0 ≤ _)⟩)
  dsimp only [Pt.U, Pt.locs, Pt.cells, Pt.slots] at X1z l1z y1z z1z st1z hQ1z
  subst l1z y1z z1z
  obtain ⟨rfl, NQ1z, K1zq⟩ := hQ1z
  refine own_tr st1z ?_
  have N1z := Fr.app N0 NQ1z
  show own_G p e below (T1z.setTop (mkF m 4 #[.val (.ref a)] [])) _
  refine own_go (fun t k => XS.aloadN X1z.here hx rfl (hb hby d_jdk_39_method_1_code_4) rfl rfl k) ?_
  refine own_go (fun t k => XS.iconst X1z.here hx rfl (hb hby d_jdk_39_method_1_code_5) k) ?_
  obtain ⟨T2z, h2z, X2z, e2z, W2z, st2z⟩ := putF X1z hx hZ hown (host := "") (Or.inl (own_hw hw 29 rfl)) Via.refl K1zq q2 q0 (Or.inl (own_hw hw 30 rfl)) (own_hw hw 9 rfl) (ty := .int) (by decide) rfl rfl (g := (mkF m 6 #[.val (.ref a)] [(.int (0 : Int32)), (.ref a)])) rfl rfl (hb hby d_jdk_39_method_1_code_6)
  refine own_go st2z ?_
  have N2z := Fr.snoc X2z N1z q1
  have F2z : Fld Z h2z a "java/util/AbstractList" "modCount" "I" (.int (0 : Int32)) := q2.same W2z
  have O3z : Ext Z.heap h2z := own_ext_wr O0 W2z q1
  have K3z : Keep h0 h2z [a] := K0.wr W2z (Or.inl (List.mem_of_getElem? (i := 0) rfl))
  have f4z := (q3.other W2z (Or.inr (slot_ne (Or.inl (own_hw hw 33 rfl)) (Or.inl (own_hw hw 30 rfl)) (by decide) (t := (.array (.object "java/lang/Object"))) (t' := .int) (by decide) (by decide))))
  have f5z := (q4.other W2z (Or.inr (slot_ne (Or.inl (own_hw hw 61 rfl)) (Or.inl (own_hw hw 30 rfl)) (by decide) (t := .int) (t' := .int) (by decide) (by decide))))
  exact own_retV X2z hx Bd.returns (hb hby d_jdk_39_method_1_code_9) hlk (Nat.le_of_ble_eq_true rfl) (Nat.le_of_ble_eq_true rfl) (by show Q_own_abl Z a h0 _ T2z.heap _; rw [e2z]; exact ⟨rfl, N2z, K3z, (q0.wr W2z), F2z, f4z, f5z⟩)
theorem ef_own_ali (m : MethodId) (x0 : Addr) : entryFrame m #[(.ref x0)] 1 = mkF m 0 #[.val (.ref x0)] [] := by first | (simp [entryFrame, mkF, argsToLocals, Value.category]; done) | rfl
theorem pf_own_ali : plainFor own_m2 = true := plainFor_of_name (by simp [plainName, overriddenIn])
theorem d_jdk_38_method_2_code_0 : decode jdk_38_method_2_code 0 = .ok (.aload_n 0, 1) := by decide +kernel
theorem d_jdk_38_method_2_code_1 : decode jdk_38_method_2_code 1 = .ok (.invokespecial 1, 3) := by decide +kernel
theorem d_jdk_38_method_2_code_11 : decode jdk_38_method_2_code 11 = .ok (.return_, 1) := by decide +kernel
theorem d_jdk_38_method_2_code_4 : decode jdk_38_method_2_code 4 = .ok (.aload_n 0, 1) := by decide +kernel
theorem d_jdk_38_method_2_code_5 : decode jdk_38_method_2_code 5 = .ok (.getstatic 39, 3) := by decide +kernel
theorem d_jdk_38_method_2_code_8 : decode jdk_38_method_2_code 8 = .ok (.putfield 9, 3) := by decide +kernel
def Q_own_ali (Z : State) (a : Addr) (dE : Addr) (h0 : Heap) (v : Option Value) (h : Heap) (L : List Loc) : Prop := v = none ∧ Fr Z.heap.size L ∧ Keep h0 h [a] ∧ (Exa Z h a "java/util/ArrayList") ∧ (Fld Z h a "java/util/AbstractList" "modCount" "I" (.int (0 : Int32))) ∧ (Fld Z h a "java/util/ArrayList" "elementData" "[Ljava/lang/Object;" (.ref dE)) ∧ (Fld Z h a "java/util/ArrayList" "size" "I" (.int (0 : Int32)))
set_option maxRecDepth 65536 in
set_option maxHeartbeats 40000000 in
theorem own_ali (l : Launch) (Z : State) (a0 : Array Value) (hw : ∀ d ∈ tables_1, d.before a0 Z = true) (ws : List Jvm.Cond) (a : Addr) (dE : Addr) (h0 : Heap) (O0 : Ext Z.heap h0) (S_D : Sta Z Z.heap "java/util/ArrayList" "DEFAULTCAPACITY_EMPTY_ELEMENTDATA" "[Ljava/lang/Object;" (.ref dE)) (q1 : Exa Z h0 a "java/util/ArrayList") (q2 : Z.heap.size ≤ a) (q3 : Fld Z h0 a "java/util/AbstractList" "modCount" "I" (.int (0 : Int32))) (q4 : Fld Z h0 a "java/util/ArrayList" "elementData" "[Ljava/lang/Object;" .null) (q5 : Fld Z h0 a "java/util/ArrayList" "size" "I" (.int (0 : Int32))) :
    MetFree l own_m2 (head1 (Jvm.Cond.code own_m2 jdk_38_method_2_code 1 none :: ws) ({ frames := 3, cells := 0, slots := 0, locals := 36 } : Room)) (fun aa U => aa = #[(.ref a)] ∧ Z.Warmed39 U.vm ∧ U.heap = h0) (fun _ _ _ _ _ => True) (fun _ U o U' => ∃ v L, o = .returned v ∧ Q_own_ali Z a dE h0 v U'.heap L ∧ FrameEnd U o U' L ({ frames := 3, cells := 0, slots := 0, locals := 36 } : Room).cells ({ frames := 3, cells := 0, slots := 0, locals := 36 } : Room).slots) := by
  refine MetFree.of_bodySF pf_own_ali hisR ?_
  intro p e s m args below meth c s₁ Bd hml0 hP hK
  obtain ⟨rfl, hZ, hh⟩ := hP
  have hx := Bd.exec
  have hby := Bd.bytes
  have hlk := BodyLoose.notSynchronized Bd
  have hml : c.maxLocals = 1 := hml0
  have hown : s.vm.findClass "java/util/ArrayList" = some m.cls := findClass_of_methodNamed Bd.named
  have hnm := (name_of_methodNamed Bd.named Bd.method).1
  have X0 : Stand p l e ({ frames := 3, cells := 0, slots := 0, locals := 36 } : Room) s m #[(.ref a)] below meth c s₁ [] 0 0 := Stand.of_body Bd
  have e0 : s₁.heap = h0 := by rw [← hh, Bd.state]; rfl
  have N0 := Fr.nil Z.heap.size
  have K0 : Keep h0 h0 [a] := Keep.refl _ _
  refine own_start (Q := Q_own_ali Z a dE h0) (ef_own_ali m (a)) ?_
  show own_G p e below (s₁.setTop (mkF m 0 #[.val (.ref a)] [])) _
  refine own_go (fun t k => XS.aloadN X0.here hx rfl (hb hby d_jdk_38_method_2_code_0) rfl rfl k) ?_
  obtain ⟨_, _, ⟨T1z, L1z, k1z, n1z⟩, -, X1z, ⟨Lc1z, hQ1z, l1z, y1z, z1z⟩, st1z⟩ := X0.specialBack hx (y := own_m1) rfl hown (mvT hZ (own_hw hw 14 rfl)) (mvT hZ (own_hw hw 15 rfl)) (mvT hZ (own_hw hw 19 rfl)) (by decide) (backOf (W := 0) (own_abl l Z a0 hw [] a h0 O0 q1 q2 q3 q4 q5) hZ (own_hw hw 19 rfl) (own_hw hw 18 rfl) (by decide) (by decide)) (g := (mkF m 1 #[.val (.ref a)] [(.ref a)])) rfl (by rw [hml]; rfl) (Steps.refl _) (a := a) (argsL := []) (rest := []) (lenOf pd_193421996 rfl) rfl (by show 2 * 0 + _ ≤ _; exact Nat.le_of_eq rfl) (hb hby d_jdk_38_method_2_code_1) (fun _ _ => ⟨rfl, e0, (by decide : 0 + 0 ≤ _), (by decide : 0 + 0 ≤ _)⟩)
  dsimp only [Pt.U, Pt.locs, Pt.cells, Pt.slots] at X1z l1z y1z z1z st1z hQ1z
  subst l1z y1z z1z
  obtain ⟨rfl, NQ1z, K1zq, r1z_0, r1z_1, r1z_2, r1z_3⟩ := hQ1z
  refine own_tr st1z ?_
  have N1z := Fr.app N0 NQ1z
  have O2z : Ext Z.heap T1z.heap := own_ext_keep O0 K1zq (allS q2 all0)
  have K2z : Keep h0 T1z.heap [a] := K0.trans K1zq (allS (Or.inl (List.mem_of_getElem? (i := 0) rfl)) all0)
  show own_G p e below (T1z.setTop (mkF m 4 #[.val (.ref a)] [])) _
  refine own_go (fun t k => XS.aloadN X1z.here hx rfl (hb hby d_jdk_38_method_2_code_4) rfl rfl k) ?_
  obtain ⟨T3z, X3z, e3z, st3z⟩ := getS2 X1z hx hZ hown (host := "") (Or.inl (own_hw hw 31 rfl)) Via.refl rfl (S_D.ext O2z) (g := (mkF m 5 #[.val (.ref a)] [(.ref a)])) rfl (hb hby d_jdk_38_method_2_code_5)
  refine own_go st3z ?_
  obtain ⟨T4z, h4z, X4z, e4z, W4z, st4z⟩ := putF X3z hx hZ hown (host := "") (Or.inl (own_hw hw 32 rfl)) Via.refl e3z r1z_2 r1z_0 (Or.inl (own_hw hw 33 rfl)) (own_hw hw 9 rfl) (ty := (.array (.object "java/lang/Object"))) (by decide) rfl rfl (g := (mkF m 8 #[.val (.ref a)] [(.ref dE), (.ref a)])) rfl rfl (hb hby d_jdk_38_method_2_code_8)
  refine own_go st4z ?_
  have N4z := Fr.snoc X4z N1z q2
  have F4z : Fld Z h4z a "java/util/ArrayList" "elementData" "[Ljava/lang/Object;" (.ref dE) := r1z_2.same W4z
  have O5z : Ext Z.heap h4z := own_ext_wr O2z W4z q2
  have K5z : Keep h0 h4z [a] := K2z.wr W4z (Or.inl (List.mem_of_getElem? (i := 0) rfl))
  have f6z := (r1z_1.other W4z (Or.inr (slot_ne (Or.inl (own_hw hw 30 rfl)) (Or.inl (own_hw hw 33 rfl)) (by decide) (t := .int) (t' := (.array (.object "java/lang/Object"))) (by decide) (by decide))))
  have f7z := (r1z_3.other W4z (Or.inr (slot_ne (Or.inl (own_hw hw 61 rfl)) (Or.inl (own_hw hw 33 rfl)) (by decide) (t := .int) (t' := (.array (.object "java/lang/Object"))) (by decide) (by decide))))
  exact own_retV X4z hx Bd.returns (hb hby d_jdk_38_method_2_code_11) hlk (Nat.le_of_ble_eq_true rfl) (Nat.le_of_ble_eq_true rfl) (by show Q_own_ali Z a dE h0 _ T4z.heap _; rw [e4z]; exact ⟨rfl, N4z, K5z, (r1z_0.wr W4z), f6z, F4z, f7z⟩)
theorem ef_own_aln0 (m : MethodId) (x0 : Addr) (x1 : Int32) : entryFrame m #[(.ref x0), (.int x1)] 2 = mkF m 0 #[.val (.ref x0), .val (.int x1)] [] := by first | (simp [entryFrame, mkF, argsToLocals, Value.category]; done) | rfl
theorem pf_own_aln0 : plainFor own_m3 = true := plainFor_of_name (by simp [plainName, overriddenIn])
theorem d_jdk_38_method_1_code_0 : decode jdk_38_method_1_code 0 = .ok (.aload_n 0, 1) := by decide +kernel
theorem d_jdk_38_method_1_code_1 : decode jdk_38_method_1_code 1 = .ok (.invokespecial 1, 3) := by decide +kernel
theorem d_jdk_38_method_1_code_19 : decode jdk_38_method_1_code 19 = .ok (.iload_n 1, 1) := by decide +kernel
theorem d_jdk_38_method_1_code_20 : decode jdk_38_method_1_code 20 = .ok (.ifCond .ne 13, 3) := by decide +kernel
theorem d_jdk_38_method_1_code_23 : decode jdk_38_method_1_code 23 = .ok (.aload_n 0, 1) := by decide +kernel
theorem d_jdk_38_method_1_code_24 : decode jdk_38_method_1_code 24 = .ok (.getstatic 15, 3) := by decide +kernel
theorem d_jdk_38_method_1_code_27 : decode jdk_38_method_1_code 27 = .ok (.putfield 9, 3) := by decide +kernel
theorem d_jdk_38_method_1_code_30 : decode jdk_38_method_1_code 30 = .ok (.goto 30, 3) := by decide +kernel
theorem d_jdk_38_method_1_code_4 : decode jdk_38_method_1_code 4 = .ok (.iload_n 1, 1) := by decide +kernel
theorem d_jdk_38_method_1_code_5 : decode jdk_38_method_1_code 5 = .ok (.ifCond .le 14, 3) := by decide +kernel
theorem d_jdk_38_method_1_code_60 : decode jdk_38_method_1_code 60 = .ok (.return_, 1) := by decide +kernel
def Q_own_aln0 (Z : State) (a : Addr) (eE : Addr) (h0 : Heap) (v : Option Value) (h : Heap) (L : List Loc) : Prop := v = none ∧ Fr Z.heap.size L ∧ Keep h0 h [a] ∧ (Exa Z h a "java/util/ArrayList") ∧ (Fld Z h a "java/util/AbstractList" "modCount" "I" (.int (0 : Int32))) ∧ (Fld Z h a "java/util/ArrayList" "elementData" "[Ljava/lang/Object;" (.ref eE)) ∧ (Fld Z h a "java/util/ArrayList" "size" "I" (.int (0 : Int32)))
set_option maxRecDepth 65536 in
set_option maxHeartbeats 40000000 in
theorem own_aln0 (l : Launch) (Z : State) (a0 : Array Value) (hw : ∀ d ∈ tables_1, d.before a0 Z = true) (ws : List Jvm.Cond) (a : Addr) (eE : Addr) (h0 : Heap) (O0 : Ext Z.heap h0) (S_E : Sta Z Z.heap "java/util/ArrayList" "EMPTY_ELEMENTDATA" "[Ljava/lang/Object;" (.ref eE)) (q1 : Exa Z h0 a "java/util/ArrayList") (q2 : Z.heap.size ≤ a) (q3 : Fld Z h0 a "java/util/AbstractList" "modCount" "I" (.int (0 : Int32))) (q4 : Fld Z h0 a "java/util/ArrayList" "elementData" "[Ljava/lang/Object;" .null) (q5 : Fld Z h0 a "java/util/ArrayList" "size" "I" (.int (0 : Int32))) :
    MetFree l own_m3 (head1 (Jvm.Cond.code own_m3 jdk_38_method_1_code 2 none :: ws) ({ frames := 3, cells := 0, slots := 0, locals := 36 } : Room)) (fun aa U => aa = #[(.ref a), (.int (0 : Int32))] ∧ Z.Warmed39 U.vm ∧ U.heap = h0) (fun _ _ _ _ _ => True) (fun _ U o U' => ∃ v L, o = .returned v ∧ Q_own_aln0 Z a eE h0 v U'.heap L ∧ FrameEnd U o U' L ({ frames := 3, cells := 0, slots := 0, locals := 36 } : Room).cells ({ frames := 3, cells := 0, slots := 0, locals := 36 } : Room).slots) := by
  refine MetFree.of_bodySF pf_own_aln0 hisR ?_
  intro p e s m args below meth c s₁ Bd hml0 hP hK
  obtain ⟨rfl, hZ, hh⟩ := hP
  have hx := Bd.exec
  have hby := Bd.bytes
  have hlk := BodyLoose.notSynchronized Bd
  have hml : c.maxLocals = 2 := hml0
  have hown : s.vm.findClass "java/util/ArrayList" = some m.cls := findClass_of_methodNamed Bd.named
  have hnm := (name_of_methodNamed Bd.named Bd.method).1
  have X0 : Stand p l e ({ frames := 3, cells := 0, slots := 0, locals := 36 } : Room) s m #[(.ref a), (.int (0 : Int32))] below meth c s₁ [] 0 0 := Stand.of_body Bd
  have e0 : s₁.heap = h0 := by rw [← hh, Bd.state]; rfl
  have N0 := Fr.nil Z.heap.size
  have K0 : Keep h0 h0 [a] := Keep.refl _ _
  refine own_start (Q := Q_own_aln0 Z a eE h0) (ef_own_aln0 m (a) ((0 : Int32))) ?_
  show own_G p e below (s₁.setTop (mkF m 0 #[.val (.ref a), .val (.int (0 : Int32))] [])) _
  refine own_go (fun t k => XS.aloadN X0.here hx rfl (hb hby d_jdk_38_method_1_code_0) rfl rfl k) ?_
  obtain ⟨_, _, ⟨T1z, L1z, k1z, n1z⟩, -, X1z, ⟨Lc1z, hQ1z, l1z, y1z, z1z⟩, st1z⟩ := X0.specialBack hx (y := own_m1) rfl hown (mvT hZ (own_hw hw 14 rfl)) (mvT hZ (own_hw hw 15 rfl)) (mvT hZ (own_hw hw 19 rfl)) (by decide) (backOf (W := 0) (own_abl l Z a0 hw [] a h0 O0 q1 q2 q3 q4 q5) hZ (own_hw hw 19 rfl) (own_hw hw 18 rfl) (by decide) (by decide)) (g := (mkF m 1 #[.val (.ref a), .val (.int (0 : Int32))] [(.ref a)])) rfl (by rw [hml]; rfl) (Steps.refl _) (a := a) (argsL := []) (rest := []) (lenOf pd_193421996 rfl) rfl (by show 2 * 0 + _ ≤ _; exact Nat.le_of_eq rfl) (hb hby d_jdk_38_method_1_code_1) (fun _ _ => ⟨rfl, e0, (by decide : 0 + 0 ≤ _), (by decide : 0 + 0 ≤ _)⟩)
  dsimp only [Pt.U, Pt.locs, Pt.cells, Pt.slots] at X1z l1z y1z z1z st1z hQ1z
  subst l1z y1z z1z
  obtain ⟨rfl, NQ1z, K1zq, r1z_0, r1z_1, r1z_2, r1z_3⟩ := hQ1z
  refine own_tr st1z ?_
  have N1z := Fr.app N0 NQ1z
  have O2z : Ext Z.heap T1z.heap := own_ext_keep O0 K1zq (allS q2 all0)
  have K2z : Keep h0 T1z.heap [a] := K0.trans K1zq (allS (Or.inl (List.mem_of_getElem? (i := 0) rfl)) all0)
  show own_G p e below (T1z.setTop (mkF m 4 #[.val (.ref a), .val (.int (0 : Int32))] [])) _
  refine own_go (fun t k => XS.iloadN X1z.here hx rfl (hb hby d_jdk_38_method_1_code_4) rfl k) ?_
  refine own_go (fun t k => XS.ifYes X1z.here hx rfl (pc0 := 5) (pc' := 19) rfl (hb hby d_jdk_38_method_1_code_5) rfl ((if0 _ _).trans (flt (by decide : ¬ ((0 : Int32) < (0 : Int32)))).2.2.2) (by decide) (by decide) k) ?_
  show own_G p e below (T1z.setTop (mkF m 19 #[.val (.ref a), .val (.int (0 : Int32))] [])) _
  refine own_go (fun t k => XS.iloadN X1z.here hx rfl (hb hby d_jdk_38_method_1_code_19) rfl k) ?_
  refine own_go (fun t k => XS.ifNo X1z.here hx rfl (hb hby d_jdk_38_method_1_code_20) rfl ((if0 _ _).trans (teq (by decide : (0 : Int32) = (0 : Int32))).2) k) ?_
  show own_G p e below (T1z.setTop (mkF m 23 #[.val (.ref a), .val (.int (0 : Int32))] [])) _
  refine own_go (fun t k => XS.aloadN X1z.here hx rfl (hb hby d_jdk_38_method_1_code_23) rfl rfl k) ?_
  obtain ⟨T3z, X3z, e3z, st3z⟩ := getS2 X1z hx hZ hown (host := "") (Or.inl (own_hw hw 65 rfl)) Via.refl rfl (S_E.ext O2z) (g := (mkF m 24 #[.val (.ref a), .val (.int (0 : Int32))] [(.ref a)])) rfl (hb hby d_jdk_38_method_1_code_24)
  refine own_go st3z ?_
  obtain ⟨T4z, h4z, X4z, e4z, W4z, st4z⟩ := putF X3z hx hZ hown (host := "") (Or.inl (own_hw hw 32 rfl)) Via.refl e3z r1z_2 r1z_0 (Or.inl (own_hw hw 33 rfl)) (own_hw hw 9 rfl) (ty := (.array (.object "java/lang/Object"))) (by decide) rfl rfl (g := (mkF m 27 #[.val (.ref a), .val (.int (0 : Int32))] [(.ref eE), (.ref a)])) rfl rfl (hb hby d_jdk_38_method_1_code_27)
  refine own_go st4z ?_
  have N4z := Fr.snoc X4z N1z q2
  have F4z : Fld Z h4z a "java/util/ArrayList" "elementData" "[Ljava/lang/Object;" (.ref eE) := r1z_2.same W4z
  have O5z : Ext Z.heap h4z := own_ext_wr O2z W4z q2
  have K5z : Keep h0 h4z [a] := K2z.wr W4z (Or.inl (List.mem_of_getElem? (i := 0) rfl))
  refine own_go (fun t k => XS.goto X4z.here hx rfl (pc0 := 30) (pc' := 60) rfl (hb hby d_jdk_38_method_1_code_30) (by decide) (by decide) k) ?_
  show own_G p e below (T4z.setTop (mkF m 60 #[.val (.ref a), .val (.int (0 : Int32))] [])) _
  have f6z := (r1z_1.other W4z (Or.inr (slot_ne (Or.inl (own_hw hw 30 rfl)) (Or.inl (own_hw hw 33 rfl)) (by decide) (t := .int) (t' := (.array (.object "java/lang/Object"))) (by decide) (by decide))))
  have f7z := (r1z_3.other W4z (Or.inr (slot_ne (Or.inl (own_hw hw 61 rfl)) (Or.inl (own_hw hw 33 rfl)) (by decide) (t := .int) (t' := (.array (.object "java/lang/Object"))) (by decide) (by decide))))
  exact own_retV X4z hx Bd.returns (hb hby d_jdk_38_method_1_code_60) hlk (Nat.le_of_ble_eq_true rfl) (Nat.le_of_ble_eq_true rfl) (by show Q_own_aln0 Z a eE h0 _ T4z.heap _; rw [e4z]; exact ⟨rfl, N4z, K5z, (r1z_0.wr W4z), f6z, F4z, f7z⟩)
theorem ef_own_aln1 (m : MethodId) (x0 : Addr) (x1 : Int32) : entryFrame m #[(.ref x0), (.int x1)] 2 = mkF m 0 #[.val (.ref x0), .val (.int x1)] [] := by first | (simp [entryFrame, mkF, argsToLocals, Value.category]; done) | rfl
theorem pf_own_aln1 : plainFor own_m3 = true := plainFor_of_name (by simp [plainName, overriddenIn])
theorem d_jdk_38_method_1_code_10 : decode jdk_38_method_1_code 10 = .ok (.anewarray 7, 3) := by decide +kernel
theorem d_jdk_38_method_1_code_13 : decode jdk_38_method_1_code 13 = .ok (.putfield 9, 3) := by decide +kernel
theorem d_jdk_38_method_1_code_16 : decode jdk_38_method_1_code 16 = .ok (.goto 44, 3) := by decide +kernel
theorem d_jdk_38_method_1_code_8 : decode jdk_38_method_1_code 8 = .ok (.aload_n 0, 1) := by decide +kernel
theorem d_jdk_38_method_1_code_9 : decode jdk_38_method_1_code 9 = .ok (.iload_n 1, 1) := by decide +kernel
def Q_own_aln1 (Z : State) (a : Addr) (h0 : Heap) (v : Option Value) (h : Heap) (L : List Loc) : Prop := ∃ arr : Addr, ∃ kk : ClassId, v = none ∧ Fr Z.heap.size L ∧ Keep h0 h [a] ∧ (Exa Z h a "java/util/ArrayList") ∧ (Z.heap.size ≤ arr) ∧ (h0.size ≤ arr) ∧ (Ovr Z kk "java/lang/Object") ∧ (own_A Z h arr kk (.object "java/lang/Object") [.null]) ∧ (Fld Z h a "java/util/AbstractList" "modCount" "I" (.int (0 : Int32))) ∧ (Fld Z h a "java/util/ArrayList" "elementData" "[Ljava/lang/Object;" (.ref arr)) ∧ (Fld Z h a "java/util/ArrayList" "size" "I" (.int (0 : Int32)))
set_option maxRecDepth 65536 in
set_option maxHeartbeats 40000000 in
theorem own_aln1 (l : Launch) (Z : State) (a0 : Array Value) (hw : ∀ d ∈ tables_1, d.before a0 Z = true) (ws : List Jvm.Cond) (a : Addr) (h0 : Heap) (O0 : Ext Z.heap h0) (q0 : Exa Z h0 a "java/util/ArrayList") (q1 : Z.heap.size ≤ a) (q2 : Fld Z h0 a "java/util/AbstractList" "modCount" "I" (.int (0 : Int32))) (q3 : Fld Z h0 a "java/util/ArrayList" "elementData" "[Ljava/lang/Object;" .null) (q4 : Fld Z h0 a "java/util/ArrayList" "size" "I" (.int (0 : Int32))) :
    MetFree l own_m3 (head1 (Jvm.Cond.code own_m3 jdk_38_method_1_code 2 none :: ws) ({ frames := 3, cells := 1, slots := 1, locals := 36 } : Room)) (fun aa U => aa = #[(.ref a), (.int (1 : Int32))] ∧ Z.Warmed39 U.vm ∧ U.heap = h0) (fun _ _ _ _ _ => True) (fun _ U o U' => ∃ v L, o = .returned v ∧ Q_own_aln1 Z a h0 v U'.heap L ∧ FrameEnd U o U' L ({ frames := 3, cells := 1, slots := 1, locals := 36 } : Room).cells ({ frames := 3, cells := 1, slots := 1, locals := 36 } : Room).slots) := by
  refine MetFree.of_bodySF pf_own_aln1 hisR ?_
  intro p e s m args below meth c s₁ Bd hml0 hP hK
  obtain ⟨rfl, hZ, hh⟩ := hP
  have hx := Bd.exec
  have hby := Bd.bytes
  have hlk := BodyLoose.notSynchronized Bd
  have hml : c.maxLocals = 2 := hml0
  have hown : s.vm.findClass "java/util/ArrayList" = some m.cls := findClass_of_methodNamed Bd.named
  have hnm := (name_of_methodNamed Bd.named Bd.method).1
  have X0 : Stand p l e ({ frames := 3, cells := 1, slots := 1, locals := 36 } : Room) s m #[(.ref a), (.int (1 : Int32))] below meth c s₁ [] 0 0 := Stand.of_body Bd
  have e0 : s₁.heap = h0 := by rw [← hh, Bd.state]; rfl
  have N0 := Fr.nil Z.heap.size
  have K0 : Keep h0 h0 [a] := Keep.refl _ _
  refine own_start (Q := Q_own_aln1 Z a h0) (ef_own_aln1 m (a) ((1 : Int32))) ?_
  show own_G p e below (s₁.setTop (mkF m 0 #[.val (.ref a), .val (.int (1 : Int32))] [])) _
  refine own_go (fun t k => XS.aloadN X0.here hx rfl (hb hby d_jdk_38_method_1_code_0) rfl rfl k) ?_
  obtain ⟨_, _, ⟨T1z, L1z, k1z, n1z⟩, -, X1z, ⟨Lc1z, hQ1z, l1z, y1z, z1z⟩, st1z⟩ := X0.specialBack hx (y := own_m1) rfl hown (mvT hZ (own_hw hw 14 rfl)) (mvT hZ (own_hw hw 15 rfl)) (mvT hZ (own_hw hw 19 rfl)) (by decide) (backOf (W := 0) (own_abl l Z a0 hw [] a h0 O0 q0 q1 q2 q3 q4) hZ (own_hw hw 19 rfl) (own_hw hw 18 rfl) (by decide) (by decide)) (g := (mkF m 1 #[.val (.ref a), .val (.int (1 : Int32))] [(.ref a)])) rfl (by rw [hml]; rfl) (Steps.refl _) (a := a) (argsL := []) (rest := []) (lenOf pd_193421996 rfl) rfl (by show 2 * 0 + _ ≤ _; exact Nat.le_of_eq rfl) (hb hby d_jdk_38_method_1_code_1) (fun _ _ => ⟨rfl, e0, (by decide : 0 + 0 ≤ _), (by decide : 0 + 0 ≤ _)⟩)
  dsimp only [Pt.U, Pt.locs, Pt.cells, Pt.slots] at X1z l1z y1z z1z st1z hQ1z
  subst l1z y1z z1z
  obtain ⟨rfl, NQ1z, K1zq, r1z_0, r1z_1, r1z_2, r1z_3⟩ := hQ1z
  refine own_tr st1z ?_
  have N1z := Fr.app N0 NQ1z
  have O2z : Ext Z.heap T1z.heap := own_ext_keep O0 K1zq (allS q1 all0)
  have K2z : Keep h0 T1z.heap [a] := K0.trans K1zq (allS (Or.inl (List.mem_of_getElem? (i := 0) rfl)) all0)
  show own_G p e below (T1z.setTop (mkF m 4 #[.val (.ref a), .val (.int (1 : Int32))] [])) _
  refine own_go (fun t k => XS.iloadN X1z.here hx rfl (hb hby d_jdk_38_method_1_code_4) rfl k) ?_
  refine own_go (fun t k => XS.ifNo X1z.here hx rfl (hb hby d_jdk_38_method_1_code_5) rfl ((if0 _ _).trans (tlt (by decide : (0 : Int32) < (1 : Int32))).2.2.2) k) ?_
  show own_G p e below (T1z.setTop (mkF m 8 #[.val (.ref a), .val (.int (1 : Int32))] [])) _
  refine own_go (fun t k => XS.aloadN X1z.here hx rfl (hb hby d_jdk_38_method_1_code_8) rfl rfl k) ?_
  refine own_go (fun t k => XS.iloadN X1z.here hx rfl (hb hby d_jdk_38_method_1_code_9) rfl k) ?_
  obtain ⟨T3z, h3z, kc3z, X3z, e3z, E3z, V3z, O3z_, st3z⟩ := own_newR X1z hx hZ hown (own_hw hw 136 rfl) (own_hw hw 137 rfl) rfl (g := (mkF m 10 #[.val (.ref a), .val (.int (1 : Int32))] [(.int (1 : Int32)), (.ref a)])) rfl (hb hby d_jdk_38_method_1_code_10) rfl (i := 1) (by decide) (cap := 1) (by decide) (by decide) (by decide) (by decide)
  obtain ⟨b3z, g3z⟩ : ∃ z, z = T1z.heap.size := ⟨_, rfl⟩
  rw [← g3z] at V3z st3z
  have fr_b3z : Z.heap.size ≤ b3z := g3z ▸ O2z.1
  have lz_b3z : h0.size ≤ b3z := g3z ▸ K2z.1
  have ne_a_b3z : a ≠ b3z := Nat.ne_of_lt (g3z ▸ r1z_0.lt)
  have O4z : Ext Z.heap h3z := own_ext_trans O2z E3z
  have K4z : Keep h0 h3z [a] := K2z.ext E3z
  have V3z : own_A Z h3z b3z kc3z (.object "java/lang/Object") [.null] := V3z
  refine own_go st3z ?_
  obtain ⟨T5z, h5z, X5z, e5z, W5z, st5z⟩ := putF X3z hx hZ hown (host := "") (Or.inl (own_hw hw 32 rfl)) Via.refl e3z (r1z_2.ext E3z) (r1z_0.ext E3z) (Or.inl (own_hw hw 33 rfl)) (own_hw hw 9 rfl) (ty := (.array (.object "java/lang/Object"))) (by decide) rfl rfl (g := (mkF m 13 #[.val (.ref a), .val (.int (1 : Int32))] [(.ref b3z), (.ref a)])) rfl rfl (hb hby d_jdk_38_method_1_code_13)
  refine own_go st5z ?_
  have N5z := Fr.snoc X5z N1z q1
  have F5z : Fld Z h5z a "java/util/ArrayList" "elementData" "[Ljava/lang/Object;" (.ref b3z) := (r1z_2.ext E3z).same W5z
  have O6z : Ext Z.heap h5z := own_ext_wr O4z W5z q1
  have K6z : Keep h0 h5z [a] := K4z.wr W5z (Or.inl (List.mem_of_getElem? (i := 0) rfl))
  show own_G p e below (T5z.setTop (mkF m 16 #[.val (.ref a), .val (.int (1 : Int32))] [])) _
  refine own_go (fun t k => XS.goto X5z.here hx rfl (pc0 := 16) (pc' := 60) rfl (hb hby d_jdk_38_method_1_code_16) (by decide) (by decide) k) ?_
  show own_G p e below (T5z.setTop (mkF m 60 #[.val (.ref a), .val (.int (1 : Int32))] [])) _
  have f7z := ((r1z_1.ext E3z).other W5z (Or.inr (slot_ne (Or.inl (own_hw hw 30 rfl)) (Or.inl (own_hw hw 33 rfl)) (by decide) (t := .int) (t' := (.array (.object "java/lang/Object"))) (by decide) (by decide))))
  have f8z := ((r1z_3.ext E3z).other W5z (Or.inr (slot_ne (Or.inl (own_hw hw 61 rfl)) (Or.inl (own_hw hw 33 rfl)) (by decide) (t := .int) (t' := (.array (.object "java/lang/Object"))) (by decide) (by decide))))
  exact own_retV X5z hx Bd.returns (hb hby d_jdk_38_method_1_code_60) hlk (Nat.le_of_ble_eq_true rfl) (Nat.le_of_ble_eq_true rfl) (by show Q_own_aln1 Z a h0 _ T5z.heap _; rw [e5z]; exact ⟨b3z, kc3z, rfl, N5z, K6z, ((r1z_0.ext E3z).wr W5z), fr_b3z, lz_b3z, O3z_, (V3z.other W5z (Ne.symm ne_a_b3z)), f7z, F5z, f8z⟩)
theorem ef_own_aln2 (m : MethodId) (x0 : Addr) (x1 : Int32) : entryFrame m #[(.ref x0), (.int x1)] 2 = mkF m 0 #[.val (.ref x0), .val (.int x1)] [] := by first | (simp [entryFrame, mkF, argsToLocals, Value.category]; done) | rfl
theorem pf_own_aln2 : plainFor own_m3 = true := plainFor_of_name (by simp [plainName, overriddenIn])
def Q_own_aln2 (Z : State) (a : Addr) (h0 : Heap) (v : Option Value) (h : Heap) (L : List Loc) : Prop := ∃ arr : Addr, ∃ kk : ClassId, v = none ∧ Fr Z.heap.size L ∧ Keep h0 h [a] ∧ (Exa Z h a "java/util/ArrayList") ∧ (Z.heap.size ≤ arr) ∧ (h0.size ≤ arr) ∧ (Ovr Z kk "java/lang/Object") ∧ (own_A Z h arr kk (.object "java/lang/Object") [.null, .null]) ∧ (Fld Z h a "java/util/AbstractList" "modCount" "I" (.int (0 : Int32))) ∧ (Fld Z h a "java/util/ArrayList" "elementData" "[Ljava/lang/Object;" (.ref arr)) ∧ (Fld Z h a "java/util/ArrayList" "size" "I" (.int (0 : Int32)))
set_option maxRecDepth 65536 in
set_option maxHeartbeats 40000000 in
theorem own_aln2 (l : Launch) (Z : State) (a0 : Array Value) (hw : ∀ d ∈ tables_1, d.before a0 Z = true) (ws : List Jvm.Cond) (a : Addr) (h0 : Heap) (O0 : Ext Z.heap h0) (q0 : Exa Z h0 a "java/util/ArrayList") (q1 : Z.heap.size ≤ a) (q2 : Fld Z h0 a "java/util/AbstractList" "modCount" "I" (.int (0 : Int32))) (q3 : Fld Z h0 a "java/util/ArrayList" "elementData" "[Ljava/lang/Object;" .null) (q4 : Fld Z h0 a "java/util/ArrayList" "size" "I" (.int (0 : Int32))) :
    MetFree l own_m3 (head1 (Jvm.Cond.code own_m3 jdk_38_method_1_code 2 none :: ws) ({ frames := 3, cells := 1, slots := 2, locals := 36 } : Room)) (fun aa U => aa = #[(.ref a), (.int (2 : Int32))] ∧ Z.Warmed39 U.vm ∧ U.heap = h0) (fun _ _ _ _ _ => True) (fun _ U o U' => ∃ v L, o = .returned v ∧ Q_own_aln2 Z a h0 v U'.heap L ∧ FrameEnd U o U' L ({ frames := 3, cells := 1, slots := 2, locals := 36 } : Room).cells ({ frames := 3, cells := 1, slots := 2, locals := 36 } : Room).slots) := by
  refine MetFree.of_bodySF pf_own_aln2 hisR ?_
  intro p e s m args below meth c s₁ Bd hml0 hP hK
  obtain ⟨rfl, hZ, hh⟩ := hP
  have hx := Bd.exec
  have hby := Bd.bytes
  have hlk := BodyLoose.notSynchronized Bd
  have hml : c.maxLocals = 2 := hml0
  have hown : s.vm.findClass "java/util/ArrayList" = some m.cls := findClass_of_methodNamed Bd.named
  have hnm := (name_of_methodNamed Bd.named Bd.method).1
  have X0 : Stand p l e ({ frames := 3, cells := 1, slots := 2, locals := 36 } : Room) s m #[(.ref a), (.int (2 : Int32))] below meth c s₁ [] 0 0 := Stand.of_body Bd
  have e0 : s₁.heap = h0 := by rw [← hh, Bd.state]; rfl
  have N0 := Fr.nil Z.heap.size
  have K0 : Keep h0 h0 [a] := Keep.refl _ _
  refine own_start (Q := Q_own_aln2 Z a h0) (ef_own_aln2 m (a) ((2 : Int32))) ?_
  show own_G p e below (s₁.setTop (mkF m 0 #[.val (.ref a), .val (.int (2 : Int32))] [])) _
  refine own_go (fun t k => XS.aloadN X0.here hx rfl (hb hby d_jdk_38_method_1_code_0) rfl rfl k) ?_
  obtain ⟨_, _, ⟨T1z, L1z, k1z, n1z⟩, -, X1z, ⟨Lc1z, hQ1z, l1z, y1z, z1z⟩, st1z⟩ := X0.specialBack hx (y := own_m1) rfl hown (mvT hZ (own_hw hw 14 rfl)) (mvT hZ (own_hw hw 15 rfl)) (mvT hZ (own_hw hw 19 rfl)) (by decide) (backOf (W := 0) (own_abl l Z a0 hw [] a h0 O0 q0 q1 q2 q3 q4) hZ (own_hw hw 19 rfl) (own_hw hw 18 rfl) (by decide) (by decide)) (g := (mkF m 1 #[.val (.ref a), .val (.int (2 : Int32))] [(.ref a)])) rfl (by rw [hml]; rfl) (Steps.refl _) (a := a) (argsL := []) (rest := []) (lenOf pd_193421996 rfl) rfl (by show 2 * 0 + _ ≤ _; exact Nat.le_of_eq rfl) (hb hby d_jdk_38_method_1_code_1) (fun _ _ => ⟨rfl, e0, (by decide : 0 + 0 ≤ _), (by decide : 0 + 0 ≤ _)⟩)
  dsimp only [Pt.U, Pt.locs, Pt.cells, Pt.slots] at X1z l1z y1z z1z st1z hQ1z
  subst l1z y1z z1z
  obtain ⟨rfl, NQ1z, K1zq, r1z_0, r1z_1, r1z_2, r1z_3⟩ := hQ1z
  refine own_tr st1z ?_
  have N1z := Fr.app N0 NQ1z
  have O2z : Ext Z.heap T1z.heap := own_ext_keep O0 K1zq (allS q1 all0)
  have K2z : Keep h0 T1z.heap [a] := K0.trans K1zq (allS (Or.inl (List.mem_of_getElem? (i := 0) rfl)) all0)
  show own_G p e below (T1z.setTop (mkF m 4 #[.val (.ref a), .val (.int (2 : Int32))] [])) _
  refine own_go (fun t k => XS.iloadN X1z.here hx rfl (hb hby d_jdk_38_method_1_code_4) rfl k) ?_
  refine own_go (fun t k => XS.ifNo X1z.here hx rfl (hb hby d_jdk_38_method_1_code_5) rfl ((if0 _ _).trans (tlt (by decide : (0 : Int32) < (2 : Int32))).2.2.2) k) ?_
  show own_G p e below (T1z.setTop (mkF m 8 #[.val (.ref a), .val (.int (2 : Int32))] [])) _
  refine own_go (fun t k => XS.aloadN X1z.here hx rfl (hb hby d_jdk_38_method_1_code_8) rfl rfl k) ?_
  refine own_go (fun t k => XS.iloadN X1z.here hx rfl (hb hby d_jdk_38_method_1_code_9) rfl k) ?_
  obtain ⟨T3z, h3z, kc3z, X3z, e3z, E3z, V3z, O3z_, st3z⟩ := own_newR X1z hx hZ hown (own_hw hw 136 rfl) (own_hw hw 137 rfl) rfl (g := (mkF m 10 #[.val (.ref a), .val (.int (2 : Int32))] [(.int (2 : Int32)), (.ref a)])) rfl (hb hby d_jdk_38_method_1_code_10) rfl (i := 2) (by decide) (cap := 2) (by decide) (by decide) (by decide) (by decide)
  obtain ⟨b3z, g3z⟩ : ∃ z, z = T1z.heap.size := ⟨_, rfl⟩
  rw [← g3z] at V3z st3z
  have fr_b3z : Z.heap.size ≤ b3z := g3z ▸ O2z.1
  have lz_b3z : h0.size ≤ b3z := g3z ▸ K2z.1
  have ne_a_b3z : a ≠ b3z := Nat.ne_of_lt (g3z ▸ r1z_0.lt)
  have O4z : Ext Z.heap h3z := own_ext_trans O2z E3z
  have K4z : Keep h0 h3z [a] := K2z.ext E3z
  have V3z : own_A Z h3z b3z kc3z (.object "java/lang/Object") [.null, .null] := V3z
  refine own_go st3z ?_
  obtain ⟨T5z, h5z, X5z, e5z, W5z, st5z⟩ := putF X3z hx hZ hown (host := "") (Or.inl (own_hw hw 32 rfl)) Via.refl e3z (r1z_2.ext E3z) (r1z_0.ext E3z) (Or.inl (own_hw hw 33 rfl)) (own_hw hw 9 rfl) (ty := (.array (.object "java/lang/Object"))) (by decide) rfl rfl (g := (mkF m 13 #[.val (.ref a), .val (.int (2 : Int32))] [(.ref b3z), (.ref a)])) rfl rfl (hb hby d_jdk_38_method_1_code_13)
  refine own_go st5z ?_
  have N5z := Fr.snoc X5z N1z q1
  have F5z : Fld Z h5z a "java/util/ArrayList" "elementData" "[Ljava/lang/Object;" (.ref b3z) := (r1z_2.ext E3z).same W5z
  have O6z : Ext Z.heap h5z := own_ext_wr O4z W5z q1
  have K6z : Keep h0 h5z [a] := K4z.wr W5z (Or.inl (List.mem_of_getElem? (i := 0) rfl))
  show own_G p e below (T5z.setTop (mkF m 16 #[.val (.ref a), .val (.int (2 : Int32))] [])) _
  refine own_go (fun t k => XS.goto X5z.here hx rfl (pc0 := 16) (pc' := 60) rfl (hb hby d_jdk_38_method_1_code_16) (by decide) (by decide) k) ?_
  show own_G p e below (T5z.setTop (mkF m 60 #[.val (.ref a), .val (.int (2 : Int32))] [])) _
  have f7z := ((r1z_1.ext E3z).other W5z (Or.inr (slot_ne (Or.inl (own_hw hw 30 rfl)) (Or.inl (own_hw hw 33 rfl)) (by decide) (t := .int) (t' := (.array (.object "java/lang/Object"))) (by decide) (by decide))))
  have f8z := ((r1z_3.ext E3z).other W5z (Or.inr (slot_ne (Or.inl (own_hw hw 61 rfl)) (Or.inl (own_hw hw 33 rfl)) (by decide) (t := .int) (t' := (.array (.object "java/lang/Object"))) (by decide) (by decide))))
  exact own_retV X5z hx Bd.returns (hb hby d_jdk_38_method_1_code_60) hlk (Nat.le_of_ble_eq_true rfl) (Nat.le_of_ble_eq_true rfl) (by show Q_own_aln2 Z a h0 _ T5z.heap _; rw [e5z]; exact ⟨b3z, kc3z, rfl, N5z, K6z, ((r1z_0.ext E3z).wr W5z), fr_b3z, lz_b3z, O3z_, (V3z.other W5z (Ne.symm ne_a_b3z)), f7z, F5z, f8z⟩)
theorem ef_own_aln3 (m : MethodId) (x0 : Addr) (x1 : Int32) : entryFrame m #[(.ref x0), (.int x1)] 2 = mkF m 0 #[.val (.ref x0), .val (.int x1)] [] := by first | (simp [entryFrame, mkF, argsToLocals, Value.category]; done) | rfl
theorem pf_own_aln3 : plainFor own_m3 = true := plainFor_of_name (by simp [plainName, overriddenIn])
def Q_own_aln3 (Z : State) (a : Addr) (h0 : Heap) (v : Option Value) (h : Heap) (L : List Loc) : Prop := ∃ arr : Addr, ∃ kk : ClassId, v = none ∧ Fr Z.heap.size L ∧ Keep h0 h [a] ∧ (Exa Z h a "java/util/ArrayList") ∧ (Z.heap.size ≤ arr) ∧ (h0.size ≤ arr) ∧ (Ovr Z kk "java/lang/Object") ∧ (own_A Z h arr kk (.object "java/lang/Object") [.null, .null, .null]) ∧ (Fld Z h a "java/util/AbstractList" "modCount" "I" (.int (0 : Int32))) ∧ (Fld Z h a "java/util/ArrayList" "elementData" "[Ljava/lang/Object;" (.ref arr)) ∧ (Fld Z h a "java/util/ArrayList" "size" "I" (.int (0 : Int32)))
set_option maxRecDepth 65536 in
set_option maxHeartbeats 40000000 in
theorem own_aln3 (l : Launch) (Z : State) (a0 : Array Value) (hw : ∀ d ∈ tables_1, d.before a0 Z = true) (ws : List Jvm.Cond) (a : Addr) (h0 : Heap) (O0 : Ext Z.heap h0) (q0 : Exa Z h0 a "java/util/ArrayList") (q1 : Z.heap.size ≤ a) (q2 : Fld Z h0 a "java/util/AbstractList" "modCount" "I" (.int (0 : Int32))) (q3 : Fld Z h0 a "java/util/ArrayList" "elementData" "[Ljava/lang/Object;" .null) (q4 : Fld Z h0 a "java/util/ArrayList" "size" "I" (.int (0 : Int32))) :
    MetFree l own_m3 (head1 (Jvm.Cond.code own_m3 jdk_38_method_1_code 2 none :: ws) ({ frames := 3, cells := 1, slots := 3, locals := 36 } : Room)) (fun aa U => aa = #[(.ref a), (.int (3 : Int32))] ∧ Z.Warmed39 U.vm ∧ U.heap = h0) (fun _ _ _ _ _ => True) (fun _ U o U' => ∃ v L, o = .returned v ∧ Q_own_aln3 Z a h0 v U'.heap L ∧ FrameEnd U o U' L ({ frames := 3, cells := 1, slots := 3, locals := 36 } : Room).cells ({ frames := 3, cells := 1, slots := 3, locals := 36 } : Room).slots) := by
  refine MetFree.of_bodySF pf_own_aln3 hisR ?_
  intro p e s m args below meth c s₁ Bd hml0 hP hK
  obtain ⟨rfl, hZ, hh⟩ := hP
  have hx := Bd.exec
  have hby := Bd.bytes
  have hlk := BodyLoose.notSynchronized Bd
  have hml : c.maxLocals = 2 := hml0
  have hown : s.vm.findClass "java/util/ArrayList" = some m.cls := findClass_of_methodNamed Bd.named
  have hnm := (name_of_methodNamed Bd.named Bd.method).1
  have X0 : Stand p l e ({ frames := 3, cells := 1, slots := 3, locals := 36 } : Room) s m #[(.ref a), (.int (3 : Int32))] below meth c s₁ [] 0 0 := Stand.of_body Bd
  have e0 : s₁.heap = h0 := by rw [← hh, Bd.state]; rfl
  have N0 := Fr.nil Z.heap.size
  have K0 : Keep h0 h0 [a] := Keep.refl _ _
  refine own_start (Q := Q_own_aln3 Z a h0) (ef_own_aln3 m (a) ((3 : Int32))) ?_
  show own_G p e below (s₁.setTop (mkF m 0 #[.val (.ref a), .val (.int (3 : Int32))] [])) _
  refine own_go (fun t k => XS.aloadN X0.here hx rfl (hb hby d_jdk_38_method_1_code_0) rfl rfl k) ?_
  obtain ⟨_, _, ⟨T1z, L1z, k1z, n1z⟩, -, X1z, ⟨Lc1z, hQ1z, l1z, y1z, z1z⟩, st1z⟩ := X0.specialBack hx (y := own_m1) rfl hown (mvT hZ (own_hw hw 14 rfl)) (mvT hZ (own_hw hw 15 rfl)) (mvT hZ (own_hw hw 19 rfl)) (by decide) (backOf (W := 0) (own_abl l Z a0 hw [] a h0 O0 q0 q1 q2 q3 q4) hZ (own_hw hw 19 rfl) (own_hw hw 18 rfl) (by decide) (by decide)) (g := (mkF m 1 #[.val (.ref a), .val (.int (3 : Int32))] [(.ref a)])) rfl (by rw [hml]; rfl) (Steps.refl _) (a := a) (argsL := []) (rest := []) (lenOf pd_193421996 rfl) rfl (by show 2 * 0 + _ ≤ _; exact Nat.le_of_eq rfl) (hb hby d_jdk_38_method_1_code_1) (fun _ _ => ⟨rfl, e0, (by decide : 0 + 0 ≤ _), (by decide : 0 + 0 ≤ _)⟩)
  dsimp only [Pt.U, Pt.locs, Pt.cells, Pt.slots] at X1z l1z y1z z1z st1z hQ1z
  subst l1z y1z z1z
  obtain ⟨rfl, NQ1z, K1zq, r1z_0, r1z_1, r1z_2, r1z_3⟩ := hQ1z
  refine own_tr st1z ?_
  have N1z := Fr.app N0 NQ1z
  have O2z : Ext Z.heap T1z.heap := own_ext_keep O0 K1zq (allS q1 all0)
  have K2z : Keep h0 T1z.heap [a] := K0.trans K1zq (allS (Or.inl (List.mem_of_getElem? (i := 0) rfl)) all0)
  show own_G p e below (T1z.setTop (mkF m 4 #[.val (.ref a), .val (.int (3 : Int32))] [])) _
  refine own_go (fun t k => XS.iloadN X1z.here hx rfl (hb hby d_jdk_38_method_1_code_4) rfl k) ?_
  refine own_go (fun t k => XS.ifNo X1z.here hx rfl (hb hby d_jdk_38_method_1_code_5) rfl ((if0 _ _).trans (tlt (by decide : (0 : Int32) < (3 : Int32))).2.2.2) k) ?_
  show own_G p e below (T1z.setTop (mkF m 8 #[.val (.ref a), .val (.int (3 : Int32))] [])) _
  refine own_go (fun t k => XS.aloadN X1z.here hx rfl (hb hby d_jdk_38_method_1_code_8) rfl rfl k) ?_
  refine own_go (fun t k => XS.iloadN X1z.here hx rfl (hb hby d_jdk_38_method_1_code_9) rfl k) ?_
  obtain ⟨T3z, h3z, kc3z, X3z, e3z, E3z, V3z, O3z_, st3z⟩ := own_newR X1z hx hZ hown (own_hw hw 136 rfl) (own_hw hw 137 rfl) rfl (g := (mkF m 10 #[.val (.ref a), .val (.int (3 : Int32))] [(.int (3 : Int32)), (.ref a)])) rfl (hb hby d_jdk_38_method_1_code_10) rfl (i := 3) (by decide) (cap := 3) (by decide) (by decide) (by decide) (by decide)
  obtain ⟨b3z, g3z⟩ : ∃ z, z = T1z.heap.size := ⟨_, rfl⟩
  rw [← g3z] at V3z st3z
  have fr_b3z : Z.heap.size ≤ b3z := g3z ▸ O2z.1
  have lz_b3z : h0.size ≤ b3z := g3z ▸ K2z.1
  have ne_a_b3z : a ≠ b3z := Nat.ne_of_lt (g3z ▸ r1z_0.lt)
  have O4z : Ext Z.heap h3z := own_ext_trans O2z E3z
  have K4z : Keep h0 h3z [a] := K2z.ext E3z
  have V3z : own_A Z h3z b3z kc3z (.object "java/lang/Object") [.null, .null, .null] := V3z
  refine own_go st3z ?_
  obtain ⟨T5z, h5z, X5z, e5z, W5z, st5z⟩ := putF X3z hx hZ hown (host := "") (Or.inl (own_hw hw 32 rfl)) Via.refl e3z (r1z_2.ext E3z) (r1z_0.ext E3z) (Or.inl (own_hw hw 33 rfl)) (own_hw hw 9 rfl) (ty := (.array (.object "java/lang/Object"))) (by decide) rfl rfl (g := (mkF m 13 #[.val (.ref a), .val (.int (3 : Int32))] [(.ref b3z), (.ref a)])) rfl rfl (hb hby d_jdk_38_method_1_code_13)
  refine own_go st5z ?_
  have N5z := Fr.snoc X5z N1z q1
  have F5z : Fld Z h5z a "java/util/ArrayList" "elementData" "[Ljava/lang/Object;" (.ref b3z) := (r1z_2.ext E3z).same W5z
  have O6z : Ext Z.heap h5z := own_ext_wr O4z W5z q1
  have K6z : Keep h0 h5z [a] := K4z.wr W5z (Or.inl (List.mem_of_getElem? (i := 0) rfl))
  show own_G p e below (T5z.setTop (mkF m 16 #[.val (.ref a), .val (.int (3 : Int32))] [])) _
  refine own_go (fun t k => XS.goto X5z.here hx rfl (pc0 := 16) (pc' := 60) rfl (hb hby d_jdk_38_method_1_code_16) (by decide) (by decide) k) ?_
  show own_G p e below (T5z.setTop (mkF m 60 #[.val (.ref a), .val (.int (3 : Int32))] [])) _
  have f7z := ((r1z_1.ext E3z).other W5z (Or.inr (slot_ne (Or.inl (own_hw hw 30 rfl)) (Or.inl (own_hw hw 33 rfl)) (by decide) (t := .int) (t' := (.array (.object "java/lang/Object"))) (by decide) (by decide))))
  have f8z := ((r1z_3.ext E3z).other W5z (Or.inr (slot_ne (Or.inl (own_hw hw 61 rfl)) (Or.inl (own_hw hw 33 rfl)) (by decide) (t := .int) (t' := (.array (.object "java/lang/Object"))) (by decide) (by decide))))
  exact own_retV X5z hx Bd.returns (hb hby d_jdk_38_method_1_code_60) hlk (Nat.le_of_ble_eq_true rfl) (Nat.le_of_ble_eq_true rfl) (by show Q_own_aln3 Z a h0 _ T5z.heap _; rw [e5z]; exact ⟨b3z, kc3z, rfl, N5z, K6z, ((r1z_0.ext E3z).wr W5z), fr_b3z, lz_b3z, O3z_, (V3z.other W5z (Ne.symm ne_a_b3z)), f7z, F5z, f8z⟩)
theorem ef_own_aln4 (m : MethodId) (x0 : Addr) (x1 : Int32) : entryFrame m #[(.ref x0), (.int x1)] 2 = mkF m 0 #[.val (.ref x0), .val (.int x1)] [] := by first | (simp [entryFrame, mkF, argsToLocals, Value.category]; done) | rfl
theorem pf_own_aln4 : plainFor own_m3 = true := plainFor_of_name (by simp [plainName, overriddenIn])
def Q_own_aln4 (Z : State) (a : Addr) (h0 : Heap) (v : Option Value) (h : Heap) (L : List Loc) : Prop := ∃ arr : Addr, ∃ kk : ClassId, v = none ∧ Fr Z.heap.size L ∧ Keep h0 h [a] ∧ (Exa Z h a "java/util/ArrayList") ∧ (Z.heap.size ≤ arr) ∧ (h0.size ≤ arr) ∧ (Ovr Z kk "java/lang/Object") ∧ (own_A Z h arr kk (.object "java/lang/Object") [.null, .null, .null, .null]) ∧ (Fld Z h a "java/util/AbstractList" "modCount" "I" (.int (0 : Int32))) ∧ (Fld Z h a "java/util/ArrayList" "elementData" "[Ljava/lang/Object;" (.ref arr)) ∧ (Fld Z h a "java/util/ArrayList" "size" "I" (.int (0 : Int32)))
set_option maxRecDepth 65536 in
set_option maxHeartbeats 40000000 in
theorem own_aln4 (l : Launch) (Z : State) (a0 : Array Value) (hw : ∀ d ∈ tables_1, d.before a0 Z = true) (ws : List Jvm.Cond) (a : Addr) (h0 : Heap) (O0 : Ext Z.heap h0) (q0 : Exa Z h0 a "java/util/ArrayList") (q1 : Z.heap.size ≤ a) (q2 : Fld Z h0 a "java/util/AbstractList" "modCount" "I" (.int (0 : Int32))) (q3 : Fld Z h0 a "java/util/ArrayList" "elementData" "[Ljava/lang/Object;" .null) (q4 : Fld Z h0 a "java/util/ArrayList" "size" "I" (.int (0 : Int32))) :
    MetFree l own_m3 (head1 (Jvm.Cond.code own_m3 jdk_38_method_1_code 2 none :: ws) ({ frames := 3, cells := 1, slots := 4, locals := 36 } : Room)) (fun aa U => aa = #[(.ref a), (.int (4 : Int32))] ∧ Z.Warmed39 U.vm ∧ U.heap = h0) (fun _ _ _ _ _ => True) (fun _ U o U' => ∃ v L, o = .returned v ∧ Q_own_aln4 Z a h0 v U'.heap L ∧ FrameEnd U o U' L ({ frames := 3, cells := 1, slots := 4, locals := 36 } : Room).cells ({ frames := 3, cells := 1, slots := 4, locals := 36 } : Room).slots) := by
  refine MetFree.of_bodySF pf_own_aln4 hisR ?_
  intro p e s m args below meth c s₁ Bd hml0 hP hK
  obtain ⟨rfl, hZ, hh⟩ := hP
  have hx := Bd.exec
  have hby := Bd.bytes
  have hlk := BodyLoose.notSynchronized Bd
  have hml : c.maxLocals = 2 := hml0
  have hown : s.vm.findClass "java/util/ArrayList" = some m.cls := findClass_of_methodNamed Bd.named
  have hnm := (name_of_methodNamed Bd.named Bd.method).1
  have X0 : Stand p l e ({ frames := 3, cells := 1, slots := 4, locals := 36 } : Room) s m #[(.ref a), (.int (4 : Int32))] below meth c s₁ [] 0 0 := Stand.of_body Bd
  have e0 : s₁.heap = h0 := by rw [← hh, Bd.state]; rfl
  have N0 := Fr.nil Z.heap.size
  have K0 : Keep h0 h0 [a] := Keep.refl _ _
  refine own_start (Q := Q_own_aln4 Z a h0) (ef_own_aln4 m (a) ((4 : Int32))) ?_
  show own_G p e below (s₁.setTop (mkF m 0 #[.val (.ref a), .val (.int (4 : Int32))] [])) _
  refine own_go (fun t k => XS.aloadN X0.here hx rfl (hb hby d_jdk_38_method_1_code_0) rfl rfl k) ?_
  obtain ⟨_, _, ⟨T1z, L1z, k1z, n1z⟩, -, X1z, ⟨Lc1z, hQ1z, l1z, y1z, z1z⟩, st1z⟩ := X0.specialBack hx (y := own_m1) rfl hown (mvT hZ (own_hw hw 14 rfl)) (mvT hZ (own_hw hw 15 rfl)) (mvT hZ (own_hw hw 19 rfl)) (by decide) (backOf (W := 0) (own_abl l Z a0 hw [] a h0 O0 q0 q1 q2 q3 q4) hZ (own_hw hw 19 rfl) (own_hw hw 18 rfl) (by decide) (by decide)) (g := (mkF m 1 #[.val (.ref a), .val (.int (4 : Int32))] [(.ref a)])) rfl (by rw [hml]; rfl) (Steps.refl _) (a := a) (argsL := []) (rest := []) (lenOf pd_193421996 rfl) rfl (by show 2 * 0 + _ ≤ _; exact Nat.le_of_eq rfl) (hb hby d_jdk_38_method_1_code_1) (fun _ _ => ⟨rfl, e0, (by decide : 0 + 0 ≤ _), (by decide : 0 + 0 ≤ _)⟩)
  dsimp only [Pt.U, Pt.locs, Pt.cells, Pt.slots] at X1z l1z y1z z1z st1z hQ1z
  subst l1z y1z z1z
  obtain ⟨rfl, NQ1z, K1zq, r1z_0, r1z_1, r1z_2, r1z_3⟩ := hQ1z
  refine own_tr st1z ?_
  have N1z := Fr.app N0 NQ1z
  have O2z : Ext Z.heap T1z.heap := own_ext_keep O0 K1zq (allS q1 all0)
  have K2z : Keep h0 T1z.heap [a] := K0.trans K1zq (allS (Or.inl (List.mem_of_getElem? (i := 0) rfl)) all0)
  show own_G p e below (T1z.setTop (mkF m 4 #[.val (.ref a), .val (.int (4 : Int32))] [])) _
  refine own_go (fun t k => XS.iloadN X1z.here hx rfl (hb hby d_jdk_38_method_1_code_4) rfl k) ?_
  refine own_go (fun t k => XS.ifNo X1z.here hx rfl (hb hby d_jdk_38_method_1_code_5) rfl ((if0 _ _).trans (tlt (by decide : (0 : Int32) < (4 : Int32))).2.2.2) k) ?_
  show own_G p e below (T1z.setTop (mkF m 8 #[.val (.ref a), .val (.int (4 : Int32))] [])) _
  refine own_go (fun t k => XS.aloadN X1z.here hx rfl (hb hby d_jdk_38_method_1_code_8) rfl rfl k) ?_
  refine own_go (fun t k => XS.iloadN X1z.here hx rfl (hb hby d_jdk_38_method_1_code_9) rfl k) ?_
  obtain ⟨T3z, h3z, kc3z, X3z, e3z, E3z, V3z, O3z_, st3z⟩ := own_newR X1z hx hZ hown (own_hw hw 136 rfl) (own_hw hw 137 rfl) rfl (g := (mkF m 10 #[.val (.ref a), .val (.int (4 : Int32))] [(.int (4 : Int32)), (.ref a)])) rfl (hb hby d_jdk_38_method_1_code_10) rfl (i := 4) (by decide) (cap := 4) (by decide) (by decide) (by decide) (by decide)
  obtain ⟨b3z, g3z⟩ : ∃ z, z = T1z.heap.size := ⟨_, rfl⟩
  rw [← g3z] at V3z st3z
  have fr_b3z : Z.heap.size ≤ b3z := g3z ▸ O2z.1
  have lz_b3z : h0.size ≤ b3z := g3z ▸ K2z.1
  have ne_a_b3z : a ≠ b3z := Nat.ne_of_lt (g3z ▸ r1z_0.lt)
  have O4z : Ext Z.heap h3z := own_ext_trans O2z E3z
  have K4z : Keep h0 h3z [a] := K2z.ext E3z
  have V3z : own_A Z h3z b3z kc3z (.object "java/lang/Object") [.null, .null, .null, .null] := V3z
  refine own_go st3z ?_
  obtain ⟨T5z, h5z, X5z, e5z, W5z, st5z⟩ := putF X3z hx hZ hown (host := "") (Or.inl (own_hw hw 32 rfl)) Via.refl e3z (r1z_2.ext E3z) (r1z_0.ext E3z) (Or.inl (own_hw hw 33 rfl)) (own_hw hw 9 rfl) (ty := (.array (.object "java/lang/Object"))) (by decide) rfl rfl (g := (mkF m 13 #[.val (.ref a), .val (.int (4 : Int32))] [(.ref b3z), (.ref a)])) rfl rfl (hb hby d_jdk_38_method_1_code_13)
  refine own_go st5z ?_
  have N5z := Fr.snoc X5z N1z q1
  have F5z : Fld Z h5z a "java/util/ArrayList" "elementData" "[Ljava/lang/Object;" (.ref b3z) := (r1z_2.ext E3z).same W5z
  have O6z : Ext Z.heap h5z := own_ext_wr O4z W5z q1
  have K6z : Keep h0 h5z [a] := K4z.wr W5z (Or.inl (List.mem_of_getElem? (i := 0) rfl))
  show own_G p e below (T5z.setTop (mkF m 16 #[.val (.ref a), .val (.int (4 : Int32))] [])) _
  refine own_go (fun t k => XS.goto X5z.here hx rfl (pc0 := 16) (pc' := 60) rfl (hb hby d_jdk_38_method_1_code_16) (by decide) (by decide) k) ?_
  show own_G p e below (T5z.setTop (mkF m 60 #[.val (.ref a), .val (.int (4 : Int32))] [])) _
  have f7z := ((r1z_1.ext E3z).other W5z (Or.inr (slot_ne (Or.inl (own_hw hw 30 rfl)) (Or.inl (own_hw hw 33 rfl)) (by decide) (t := .int) (t' := (.array (.object "java/lang/Object"))) (by decide) (by decide))))
  have f8z := ((r1z_3.ext E3z).other W5z (Or.inr (slot_ne (Or.inl (own_hw hw 61 rfl)) (Or.inl (own_hw hw 33 rfl)) (by decide) (t := .int) (t' := (.array (.object "java/lang/Object"))) (by decide) (by decide))))
  exact own_retV X5z hx Bd.returns (hb hby d_jdk_38_method_1_code_60) hlk (Nat.le_of_ble_eq_true rfl) (Nat.le_of_ble_eq_true rfl) (by show Q_own_aln4 Z a h0 _ T5z.heap _; rw [e5z]; exact ⟨b3z, kc3z, rfl, N5z, K6z, ((r1z_0.ext E3z).wr W5z), fr_b3z, lz_b3z, O3z_, (V3z.other W5z (Ne.symm ne_a_b3z)), f7z, F5z, f8z⟩)
theorem ef_own_max101 (m : MethodId) (x0 : Int32) (x1 : Int32) : entryFrame m #[(.int x0), (.int x1)] 2 = mkF m 0 #[.val (.int x0), .val (.int x1)] [] := by first | (simp [entryFrame, mkF, argsToLocals, Value.category]; done) | rfl
theorem pf_own_max101 : plainFor own_m4 = true := by decide +kernel
theorem d_jdk_29_method_65_code_0 : decode jdk_29_method_65_code 0 = .ok (.iload_n 0, 1) := by decide +kernel
theorem d_jdk_29_method_65_code_1 : decode jdk_29_method_65_code 1 = .ok (.iload_n 1, 1) := by decide +kernel
theorem d_jdk_29_method_65_code_10 : decode jdk_29_method_65_code 10 = .ok (.ireturn, 1) := by decide +kernel
theorem d_jdk_29_method_65_code_2 : decode jdk_29_method_65_code 2 = .ok (.if_icmp .lt 7, 3) := by decide +kernel
theorem d_jdk_29_method_65_code_5 : decode jdk_29_method_65_code 5 = .ok (.iload_n 0, 1) := by decide +kernel
theorem d_jdk_29_method_65_code_6 : decode jdk_29_method_65_code 6 = .ok (.goto 4, 3) := by decide +kernel
def Q_own_max101 (Z : State) (h0 : Heap) (v : Option Value) (h : Heap) (L : List Loc) : Prop := v = some (.int (10 : Int32)) ∧ Fr Z.heap.size L ∧ h = h0
set_option maxRecDepth 65536 in
set_option maxHeartbeats 40000000 in
theorem own_max101 (l : Launch) (Z : State) (a0 : Array Value) (hw : ∀ d ∈ tables_1, d.before a0 Z = true) (ws : List Jvm.Cond) (h0 : Heap) (O0 : Ext Z.heap h0) :
    MetFree l own_m4 (head1 (Jvm.Cond.code own_m4 jdk_29_method_65_code 2 (some .int) :: ws) ({ frames := 0, cells := 0, slots := 0, locals := 0 } : Room)) (fun aa U => aa = #[(.int (10 : Int32)), (.int (1 : Int32))] ∧ Z.Warmed39 U.vm ∧ U.heap = h0) (fun _ _ _ _ _ => True) (fun _ U o U' => ∃ v L, o = .returned v ∧ Q_own_max101 Z h0 v U'.heap L ∧ FrameEnd U o U' L ({ frames := 0, cells := 0, slots := 0, locals := 0 } : Room).cells ({ frames := 0, cells := 0, slots := 0, locals := 0 } : Room).slots) := by
  refine MetFree.of_bodySF pf_own_max101 hisR ?_
  intro p e s m args below meth c s₁ Bd hml0 hP hK
  obtain ⟨rfl, hZ, hh⟩ := hP
  have hx := Bd.exec
  have hby := Bd.bytes
  have hlk := BodyLoose.notSynchronized Bd
  have hml : c.maxLocals = 2 := hml0
  have hown : s.vm.findClass "java/lang/Math" = some m.cls := findClass_of_methodNamed Bd.named
  have hnm := (name_of_methodNamed Bd.named Bd.method).1
  have X0 : Stand p l e ({ frames := 0, cells := 0, slots := 0, locals := 0 } : Room) s m #[(.int (10 : Int32)), (.int (1 : Int32))] below meth c s₁ [] 0 0 := Stand.of_body Bd
  have e0 : s₁.heap = h0 := by rw [← hh, Bd.state]; rfl
  have N0 := Fr.nil Z.heap.size
  have K0 : Keep h0 h0 [] := Keep.refl _ _
  refine own_start (Q := Q_own_max101 Z h0) (ef_own_max101 m ((10 : Int32)) ((1 : Int32))) ?_
  show own_G p e below (s₁.setTop (mkF m 0 #[.val (.int (10 : Int32)), .val (.int (1 : Int32))] [])) _
  refine own_go (fun t k => XS.iloadN X0.here hx rfl (hb hby d_jdk_29_method_65_code_0) rfl k) ?_
  refine own_go (fun t k => XS.iloadN X0.here hx rfl (hb hby d_jdk_29_method_65_code_1) rfl k) ?_
  refine own_go (fun t k => XS.icmpNo X0.here hx rfl (hb hby d_jdk_29_method_65_code_2) rfl (flt (by decide : ¬ ((10 : Int32) < (1 : Int32)))).1 k) ?_
  show own_G p e below (s₁.setTop (mkF m 5 #[.val (.int (10 : Int32)), .val (.int (1 : Int32))] [])) _
  refine own_go (fun t k => XS.iloadN X0.here hx rfl (hb hby d_jdk_29_method_65_code_5) rfl k) ?_
  refine own_go (fun t k => XS.goto X0.here hx rfl (pc0 := 6) (pc' := 10) rfl (hb hby d_jdk_29_method_65_code_6) (by decide) (by decide) k) ?_
  show own_G p e below (s₁.setTop (mkF m 10 #[.val (.int (10 : Int32)), .val (.int (1 : Int32))] [(.int (10 : Int32))])) _
  exact own_ret X0 hx Bd.returns rfl (Or.inl ⟨rfl, Or.inl rfl, _, rfl⟩) (hb hby d_jdk_29_method_65_code_10) hlk (Nat.le_of_ble_eq_true rfl) (Nat.le_of_ble_eq_true rfl) (by show Q_own_max101 Z h0 _ s₁.heap _; rw [e0]; exact ⟨rfl, N0, rfl⟩)
theorem ef_own_grow1 (m : MethodId) (x0 : Addr) (x1 : Int32) : entryFrame m #[(.ref x0), (.int x1)] 4 = mkF m 0 #[.val (.ref x0), .val (.int x1), .unset, .unset] [] := by first | (simp [entryFrame, mkF, argsToLocals, Value.category]; done) | rfl
theorem pf_own_grow1 : plainFor own_m5 = true := plainFor_of_name (by simp [plainName, overriddenIn])
theorem pd_184293393 : parseMethodDescriptor "(II)I" = some ⟨[.int, .int], some .int⟩ := by decide +kernel
theorem d_jdk_38_method_6_code_0 : decode jdk_38_method_6_code 0 = .ok (.aload_n 0, 1) := by decide +kernel
theorem d_jdk_38_method_6_code_1 : decode jdk_38_method_6_code 1 = .ok (.getfield 9, 3) := by decide +kernel
theorem d_jdk_38_method_6_code_10 : decode jdk_38_method_6_code 10 = .ok (.aload_n 0, 1) := by decide +kernel
theorem d_jdk_38_method_6_code_11 : decode jdk_38_method_6_code 11 = .ok (.getfield 9, 3) := by decide +kernel
theorem d_jdk_38_method_6_code_14 : decode jdk_38_method_6_code 14 = .ok (.getstatic 39, 3) := by decide +kernel
theorem d_jdk_38_method_6_code_17 : decode jdk_38_method_6_code 17 = .ok (.if_acmp .eq 28, 3) := by decide +kernel
theorem d_jdk_38_method_6_code_4 : decode jdk_38_method_6_code 4 = .ok (.arraylength, 1) := by decide +kernel
theorem d_jdk_38_method_6_code_45 : decode jdk_38_method_6_code 45 = .ok (.aload_n 0, 1) := by decide +kernel
theorem d_jdk_38_method_6_code_46 : decode jdk_38_method_6_code 46 = .ok (.bipush 10, 2) := by decide +kernel
theorem d_jdk_38_method_6_code_48 : decode jdk_38_method_6_code 48 = .ok (.iload_n 1, 1) := by decide +kernel
theorem d_jdk_38_method_6_code_49 : decode jdk_38_method_6_code 49 = .ok (.invokestatic 79, 3) := by decide +kernel
theorem d_jdk_38_method_6_code_5 : decode jdk_38_method_6_code 5 = .ok (.istore_n 2, 1) := by decide +kernel
theorem d_jdk_38_method_6_code_52 : decode jdk_38_method_6_code 52 = .ok (.anewarray 7, 3) := by decide +kernel
theorem d_jdk_38_method_6_code_55 : decode jdk_38_method_6_code 55 = .ok (.dup_x1, 1) := by decide +kernel
theorem d_jdk_38_method_6_code_56 : decode jdk_38_method_6_code 56 = .ok (.putfield 9, 3) := by decide +kernel
theorem d_jdk_38_method_6_code_59 : decode jdk_38_method_6_code 59 = .ok (.areturn, 1) := by decide +kernel
theorem d_jdk_38_method_6_code_6 : decode jdk_38_method_6_code 6 = .ok (.iload_n 2, 1) := by decide +kernel
theorem d_jdk_38_method_6_code_7 : decode jdk_38_method_6_code 7 = .ok (.ifCond .gt 13, 3) := by decide +kernel
def Q_own_grow1 (Z : State) (a : Addr) (mc : Int32) (dE : Addr) (kd : ClassId) (h0 : Heap) (v : Option Value) (h : Heap) (L : List Loc) : Prop := ∃ arr : Addr, ∃ kk : ClassId, v = some (.ref arr) ∧ Fr Z.heap.size L ∧ Keep h0 h [a] ∧ (Exa Z h a "java/util/ArrayList") ∧ (Z.heap.size ≤ arr) ∧ (h0.size ≤ arr) ∧ (Ovr Z kk "java/lang/Object") ∧ (own_A Z h arr kk (.object "java/lang/Object") [.null, .null, .null, .null, .null, .null, .null, .null, .null, .null]) ∧ (Fld Z h a "java/util/AbstractList" "modCount" "I" (.int mc)) ∧ (Fld Z h a "java/util/ArrayList" "elementData" "[Ljava/lang/Object;" (.ref arr)) ∧ (Fld Z h a "java/util/ArrayList" "size" "I" (.int (0 : Int32)))
set_option maxRecDepth 65536 in
set_option maxHeartbeats 40000000 in
theorem own_grow1 (l : Launch) (Z : State) (a0 : Array Value) (hw : ∀ d ∈ tables_1, d.before a0 Z = true) (ws : List Jvm.Cond) (a : Addr) (mc : Int32) (dE : Addr) (kd : ClassId) (h0 : Heap) (O0 : Ext Z.heap h0) (S_D : Sta Z Z.heap "java/util/ArrayList" "DEFAULTCAPACITY_EMPTY_ELEMENTDATA" "[Ljava/lang/Object;" (.ref dE)) (BD : own_A Z Z.heap dE kd (.object "java/lang/Object") []) (q2 : Exa Z h0 a "java/util/ArrayList") (q3 : Z.heap.size ≤ a) (q4 : Fld Z h0 a "java/util/AbstractList" "modCount" "I" (.int mc)) (q5 : Fld Z h0 a "java/util/ArrayList" "elementData" "[Ljava/lang/Object;" (.ref dE)) (q6 : Fld Z h0 a "java/util/ArrayList" "size" "I" (.int (0 : Int32))) :
    MetFree l own_m5 (head1 (Jvm.Cond.code own_m5 jdk_38_method_6_code 4 (some (.array (.object "java/lang/Object"))) :: ws) ({ frames := 1, cells := 1, slots := 10, locals := 15 } : Room)) (fun aa U => aa = #[(.ref a), (.int (1 : Int32))] ∧ Z.Warmed39 U.vm ∧ U.heap = h0) (fun _ _ _ _ _ => True) (fun _ U o U' => ∃ v L, o = .returned v ∧ Q_own_grow1 Z a mc dE kd h0 v U'.heap L ∧ FrameEnd U o U' L ({ frames := 1, cells := 1, slots := 10, locals := 15 } : Room).cells ({ frames := 1, cells := 1, slots := 10, locals := 15 } : Room).slots) := by
  refine MetFree.of_bodySF pf_own_grow1 hisR ?_
  intro p e s m args below meth c s₁ Bd hml0 hP hK
  obtain ⟨rfl, hZ, hh⟩ := hP
  have hx := Bd.exec
  have hby := Bd.bytes
  have hlk := BodyLoose.notSynchronized Bd
  have hml : c.maxLocals = 4 := hml0
  have hown : s.vm.findClass "java/util/ArrayList" = some m.cls := findClass_of_methodNamed Bd.named
  have hnm := (name_of_methodNamed Bd.named Bd.method).1
  have X0 : Stand p l e ({ frames := 1, cells := 1, slots := 10, locals := 15 } : Room) s m #[(.ref a), (.int (1 : Int32))] below meth c s₁ [] 0 0 := Stand.of_body Bd
  have e0 : s₁.heap = h0 := by rw [← hh, Bd.state]; rfl
  have N0 := Fr.nil Z.heap.size
  have K0 : Keep h0 h0 [a] := Keep.refl _ _
  refine own_start (Q := Q_own_grow1 Z a mc dE kd h0) (ef_own_grow1 m (a) ((1 : Int32))) ?_
  show own_G p e below (s₁.setTop (mkF m 0 #[.val (.ref a), .val (.int (1 : Int32)), .unset, .unset] [])) _
  refine own_go (fun t k => XS.aloadN X0.here hx rfl (hb hby d_jdk_38_method_6_code_0) rfl rfl k) ?_
  obtain ⟨T1z, X1z, e1z, st1z⟩ := getF X0 hx hZ hown (host := "") (Or.inl (own_hw hw 32 rfl)) Via.refl e0 q5 (g := (mkF m 1 #[.val (.ref a), .val (.int (1 : Int32)), .unset, .unset] [(.ref a)])) rfl rfl (hb hby d_jdk_38_method_6_code_1)
  refine own_go st1z ?_
  refine own_go (own_len X1z hx hZ e1z (BD.ext O0) (z := (0 : Int32)) (by show (0 : Int32).toInt = ((0 : Nat) : Int); decide) (g := (mkF m 4 #[.val (.ref a), .val (.int (1 : Int32)), .unset, .unset] [(.ref dE)])) rfl rfl (hb hby d_jdk_38_method_6_code_4)) ?_
  refine own_go (fun t k => XS.istoreN X1z.here hx rfl (hb hby d_jdk_38_method_6_code_5) rfl (l' := #[.val (.ref a), .val (.int (1 : Int32)), .val (.int (0 : Int32)), .unset]) rfl k) ?_
  show own_G p e below (T1z.setTop (mkF m 6 #[.val (.ref a), .val (.int (1 : Int32)), .val (.int (0 : Int32)), .unset] [])) _
  refine own_go (fun t k => XS.iloadN X1z.here hx rfl (hb hby d_jdk_38_method_6_code_6) rfl k) ?_
  refine own_go (fun t k => XS.ifNo X1z.here hx rfl (hb hby d_jdk_38_method_6_code_7) rfl ((if0 _ _).trans (flt (by decide : ¬ ((0 : Int32) < (0 : Int32)))).2.2.1) k) ?_
  show own_G p e below (T1z.setTop (mkF m 10 #[.val (.ref a), .val (.int (1 : Int32)), .val (.int (0 : Int32)), .unset] [])) _
  refine own_go (fun t k => XS.aloadN X1z.here hx rfl (hb hby d_jdk_38_method_6_code_10) rfl rfl k) ?_
  obtain ⟨T2z, X2z, e2z, st2z⟩ := getF X1z hx hZ hown (host := "") (Or.inl (own_hw hw 32 rfl)) Via.refl e1z q5 (g := (mkF m 11 #[.val (.ref a), .val (.int (1 : Int32)), .val (.int (0 : Int32)), .unset] [(.ref a)])) rfl rfl (hb hby d_jdk_38_method_6_code_11)
  refine own_go st2z ?_
  obtain ⟨T3z, X3z, e3z, st3z⟩ := getS2 X2z hx hZ hown (host := "") (Or.inl (own_hw hw 31 rfl)) Via.refl e2z (S_D.ext O0) (g := (mkF m 14 #[.val (.ref a), .val (.int (1 : Int32)), .val (.int (0 : Int32)), .unset] [(.ref dE)])) rfl (hb hby d_jdk_38_method_6_code_14)
  refine own_go st3z ?_
  refine own_go (fun t k => Jvm.RoadKit.acmp (g := (mkF m 17 #[.val (.ref a), .val (.int (1 : Int32)), .val (.int (0 : Int32)), .unset] [(.ref dE), (.ref dE)])) X3z hx rfl rfl rfl (pc0 := 17) (pc' := 45) (same := true) rfl (hb hby d_jdk_38_method_6_code_17) rfl (decide_eq_true (congrArg Value.ref rfl)) (by decide) (by decide) k) ?_
  show own_G p e below (T3z.setTop (mkF m 45 #[.val (.ref a), .val (.int (1 : Int32)), .val (.int (0 : Int32)), .unset] [])) _
  refine own_go (fun t k => XS.aloadN X3z.here hx rfl (hb hby d_jdk_38_method_6_code_45) rfl rfl k) ?_
  refine own_go (fun t k => XS.bipush X3z.here hx rfl (hb hby d_jdk_38_method_6_code_46) k) ?_
  refine own_go (fun t k => XS.iloadN X3z.here hx rfl (hb hby d_jdk_38_method_6_code_48) rfl k) ?_
  obtain ⟨_, _, ⟨T4z, L4z, k4z, n4z⟩, -, X4z, ⟨Lc4z, hQ4z, l4z, y4z, z4z⟩, st4z⟩ := Jvm.LawKit.callS X3z hx (y := own_m4) hown (mvT hZ (own_hw hw 132 rfl)) (mvT hZ (own_hw hw 133 rfl)) (mvT hZ (own_hw hw 134 rfl)) (mvT hZ (own_hw hw 135 rfl)) (by decide) (backOf (W := 1) (own_max101 l Z a0 hw [] h0 O0) hZ (own_hw hw 135 rfl) (own_hw hw 134 rfl) (by decide) (by decide)) (g := (mkF m 49 #[.val (.ref a), .val (.int (1 : Int32)), .val (.int (0 : Int32)), .unset] [(.int (1 : Int32)), (.int (10 : Int32)), (.ref a)])) rfl (by rw [hml]; rfl) (argsL := [(.int (10 : Int32)), (.int (1 : Int32))]) (rest := [(.ref a)]) (lenOf pd_184293393 rfl) rfl (by show 2 * 0 + _ ≤ _; exact Nat.le_of_eq rfl) (hb hby d_jdk_38_method_6_code_49) (fun _ _ => ⟨rfl, e3z, (by decide : 0 + 0 ≤ _), (by decide : 0 + 0 ≤ _)⟩)
  dsimp only [Pt.U, Pt.locs, Pt.cells, Pt.slots] at X4z l4z y4z z4z st4z hQ4z
  subst l4z y4z z4z
  obtain ⟨rfl, NQ4z, K4zq⟩ := hQ4z
  refine own_go st4z ?_
  have N4z := Fr.app N0 NQ4z
  show own_G p e below (T4z.setTop (mkF m 52 #[.val (.ref a), .val (.int (1 : Int32)), .val (.int (0 : Int32)), .unset] [(.int (10 : Int32)), (.ref a)])) _
  obtain ⟨T5z, h5z, kc5z, X5z, e5z, E5z, V5z, O5z_, st5z⟩ := own_newR X4z hx hZ hown (own_hw hw 136 rfl) (own_hw hw 137 rfl) K4zq (g := (mkF m 52 #[.val (.ref a), .val (.int (1 : Int32)), .val (.int (0 : Int32)), .unset] [(.int (10 : Int32)), (.ref a)])) rfl (hb hby d_jdk_38_method_6_code_52) rfl (i := 10) (by decide) (cap := 10) (by decide) (by decide) (by decide) (by decide)
  obtain ⟨b5z, g5z⟩ : ∃ z, z = h0.size := ⟨_, rfl⟩
  rw [← g5z] at V5z st5z
  have fr_b5z : Z.heap.size ≤ b5z := g5z ▸ O0.1
  have lz_b5z : h0.size ≤ b5z := g5z ▸ K0.1
  have ne_a_b5z : a ≠ b5z := Nat.ne_of_lt (g5z ▸ q2.lt)
  have O6z : Ext Z.heap h5z := own_ext_trans O0 E5z
  have K6z : Keep h0 h5z [a] := K0.ext E5z
  have V5z : own_A Z h5z b5z kc5z (.object "java/lang/Object") [.null, .null, .null, .null, .null, .null, .null, .null, .null, .null] := V5z
  refine own_go st5z ?_
  refine own_go (fun t k => XS.dupX1 X5z.here hx rfl (hb hby d_jdk_38_method_6_code_55) rfl rfl rfl k) ?_
  obtain ⟨T7z, h7z, X7z, e7z, W7z, st7z⟩ := putF X5z hx hZ hown (host := "") (Or.inl (own_hw hw 32 rfl)) Via.refl e5z (q5.ext E5z) (q2.ext E5z) (Or.inl (own_hw hw 33 rfl)) (own_hw hw 9 rfl) (ty := (.array (.object "java/lang/Object"))) (by decide) rfl rfl (g := (mkF m 56 #[.val (.ref a), .val (.int (1 : Int32)), .val (.int (0 : Int32)), .unset] [(.ref b5z), (.ref a), (.ref b5z)])) rfl rfl (hb hby d_jdk_38_method_6_code_56)
  refine own_go st7z ?_
  have N7z := Fr.snoc X7z N4z q3
  have F7z : Fld Z h7z a "java/util/ArrayList" "elementData" "[Ljava/lang/Object;" (.ref b5z) := (q5.ext E5z).same W7z
  have O8z : Ext Z.heap h7z := own_ext_wr O6z W7z q3
  have K8z : Keep h0 h7z [a] := K6z.wr W7z (Or.inl (List.mem_of_getElem? (i := 0) rfl))
  have f9z := ((q4.ext E5z).other W7z (Or.inr (slot_ne (Or.inl (own_hw hw 30 rfl)) (Or.inl (own_hw hw 33 rfl)) (by decide) (t := .int) (t' := (.array (.object "java/lang/Object"))) (by decide) (by decide))))
  have f10z := ((q6.ext E5z).other W7z (Or.inr (slot_ne (Or.inl (own_hw hw 61 rfl)) (Or.inl (own_hw hw 33 rfl)) (by decide) (t := .int) (t' := (.array (.object "java/lang/Object"))) (by decide) (by decide))))
  exact own_ret X7z hx Bd.returns rfl (Or.inr (Or.inr (Or.inr (Or.inr ⟨rfl, rfl, rfl⟩)))) (hb hby d_jdk_38_method_6_code_59) hlk (Nat.le_of_ble_eq_true rfl) (Nat.le_of_ble_eq_true rfl) (by show Q_own_grow1 Z a mc dE kd h0 _ T7z.heap _; rw [e7z]; exact ⟨b5z, kc5z, rfl, N7z, K8z, ((q2.ext E5z).wr W7z), fr_b5z, lz_b5z, O5z_, (V5z.other W7z (Ne.symm ne_a_b5z)), f9z, F7z, f10z⟩)
theorem ef_own_grow0 (m : MethodId) (x0 : Addr) : entryFrame m #[(.ref x0)] 1 = mkF m 0 #[.val (.ref x0)] [] := by first | (simp [entryFrame, mkF, argsToLocals, Value.category]; done) | rfl
theorem pf_own_grow0 : plainFor own_m6 = true := plainFor_of_name (by simp [plainName, overriddenIn])
theorem pd_591629850 : parseMethodDescriptor "(I)[Ljava/lang/Object;" = some ⟨[.int], some (.array (.object "java/lang/Object"))⟩ := by decide +kernel
theorem d_jdk_38_method_7_code_0 : decode jdk_38_method_7_code 0 = .ok (.aload_n 0, 1) := by decide +kernel
theorem d_jdk_38_method_7_code_1 : decode jdk_38_method_7_code 1 = .ok (.aload_n 0, 1) := by decide +kernel
theorem d_jdk_38_method_7_code_10 : decode jdk_38_method_7_code 10 = .ok (.areturn, 1) := by decide +kernel
theorem d_jdk_38_method_7_code_2 : decode jdk_38_method_7_code 2 = .ok (.getfield 48, 3) := by decide +kernel
theorem d_jdk_38_method_7_code_5 : decode jdk_38_method_7_code 5 = .ok (.iconst 1, 1) := by decide +kernel
theorem d_jdk_38_method_7_code_6 : decode jdk_38_method_7_code 6 = .ok (.iadd, 1) := by decide +kernel
theorem d_jdk_38_method_7_code_7 : decode jdk_38_method_7_code 7 = .ok (.invokevirtual 69, 3) := by decide +kernel
def Q_own_grow0 (Z : State) (a : Addr) (mc : Int32) (dE : Addr) (kd : ClassId) (h0 : Heap) (v : Option Value) (h : Heap) (L : List Loc) : Prop := ∃ arr : Addr, ∃ kk : ClassId, v = some (.ref arr) ∧ Fr Z.heap.size L ∧ Keep h0 h [a] ∧ (Exa Z h a "java/util/ArrayList") ∧ (Z.heap.size ≤ arr) ∧ (h0.size ≤ arr) ∧ (Ovr Z kk "java/lang/Object") ∧ (own_A Z h arr kk (.object "java/lang/Object") [.null, .null, .null, .null, .null, .null, .null, .null, .null, .null]) ∧ (Fld Z h a "java/util/AbstractList" "modCount" "I" (.int mc)) ∧ (Fld Z h a "java/util/ArrayList" "elementData" "[Ljava/lang/Object;" (.ref arr)) ∧ (Fld Z h a "java/util/ArrayList" "size" "I" (.int (0 : Int32)))
set_option maxRecDepth 65536 in
set_option maxHeartbeats 40000000 in
theorem own_grow0 (l : Launch) (Z : State) (a0 : Array Value) (hw : ∀ d ∈ tables_1, d.before a0 Z = true) (ws : List Jvm.Cond) (a : Addr) (mc : Int32) (dE : Addr) (kd : ClassId) (h0 : Heap) (O0 : Ext Z.heap h0) (S_D : Sta Z Z.heap "java/util/ArrayList" "DEFAULTCAPACITY_EMPTY_ELEMENTDATA" "[Ljava/lang/Object;" (.ref dE)) (BD : own_A Z Z.heap dE kd (.object "java/lang/Object") []) (q2 : Exa Z h0 a "java/util/ArrayList") (q3 : Z.heap.size ≤ a) (q4 : Fld Z h0 a "java/util/AbstractList" "modCount" "I" (.int mc)) (q5 : Fld Z h0 a "java/util/ArrayList" "elementData" "[Ljava/lang/Object;" (.ref dE)) (q6 : Fld Z h0 a "java/util/ArrayList" "size" "I" (.int (0 : Int32))) :
    MetFree l own_m6 (head1 (Jvm.Cond.code own_m6 jdk_38_method_7_code 1 (some (.array (.object "java/lang/Object"))) :: ws) ({ frames := 2, cells := 1, slots := 10, locals := 30 } : Room)) (fun aa U => aa = #[(.ref a)] ∧ Z.Warmed39 U.vm ∧ U.heap = h0) (fun _ _ _ _ _ => True) (fun _ U o U' => ∃ v L, o = .returned v ∧ Q_own_grow0 Z a mc dE kd h0 v U'.heap L ∧ FrameEnd U o U' L ({ frames := 2, cells := 1, slots := 10, locals := 30 } : Room).cells ({ frames := 2, cells := 1, slots := 10, locals := 30 } : Room).slots) := by
  refine MetFree.of_bodySF pf_own_grow0 hisR ?_
  intro p e s m args below meth c s₁ Bd hml0 hP hK
  obtain ⟨rfl, hZ, hh⟩ := hP
  have hx := Bd.exec
  have hby := Bd.bytes
  have hlk := BodyLoose.notSynchronized Bd
  have hml : c.maxLocals = 1 := hml0
  have hown : s.vm.findClass "java/util/ArrayList" = some m.cls := findClass_of_methodNamed Bd.named
  have hnm := (name_of_methodNamed Bd.named Bd.method).1
  have X0 : Stand p l e ({ frames := 2, cells := 1, slots := 10, locals := 30 } : Room) s m #[(.ref a)] below meth c s₁ [] 0 0 := Stand.of_body Bd
  have e0 : s₁.heap = h0 := by rw [← hh, Bd.state]; rfl
  have N0 := Fr.nil Z.heap.size
  have K0 : Keep h0 h0 [a] := Keep.refl _ _
  refine own_start (Q := Q_own_grow0 Z a mc dE kd h0) (ef_own_grow0 m (a)) ?_
  show own_G p e below (s₁.setTop (mkF m 0 #[.val (.ref a)] [])) _
  refine own_go (fun t k => XS.aloadN X0.here hx rfl (hb hby d_jdk_38_method_7_code_0) rfl rfl k) ?_
  refine own_go (fun t k => XS.aloadN X0.here hx rfl (hb hby d_jdk_38_method_7_code_1) rfl rfl k) ?_
  obtain ⟨T1z, X1z, e1z, st1z⟩ := getF X0 hx hZ hown (host := "") (Or.inl (own_hw hw 60 rfl)) Via.refl e0 q6 (g := (mkF m 2 #[.val (.ref a)] [(.ref a), (.ref a)])) rfl rfl (hb hby d_jdk_38_method_7_code_2)
  refine own_go st1z ?_
  refine own_go (fun t k => XS.iconst X1z.here hx rfl (hb hby d_jdk_38_method_7_code_5) k) ?_
  show own_G p e below (T1z.setTop (mkF m 6 #[.val (.ref a)] [(.int (1 : Int32)), (.int (0 : Int32)), (.ref a)])) _
  refine own_go (fun t k => XS.iadd X1z.here hx rfl (hb hby d_jdk_38_method_7_code_6) rfl k) ?_
  obtain ⟨cq2z, qa2z, qb2z⟩ := q2.cell
  obtain ⟨_, _, ⟨T2z, L2z, k2z, n2z⟩, -, X2z, ⟨Lc2z, hQ2z, l2z, y2z, z2z⟩, st2z⟩ := X1z.privateBack hx (y := own_m5) hown (mvT hZ (own_hw hw 127 rfl)) (mvT hZ (own_hw hw 128 rfl)) (mvT hZ (own_hw hw 130 rfl)) (Cond.privateMethod_at (mvP hZ (own_hw hw 129 rfl) (args := #[]))) (mvT hZ (own_hw hw 131 rfl)) (by decide) (backOf (W := 0) (own_grow1 l Z a0 hw [] a mc dE kd h0 O0 S_D BD q2 q3 q4 q5 q6) hZ (own_hw hw 131 rfl) (own_hw hw 10 rfl) (by decide) (by decide)) (g := (mkF m 7 #[.val (.ref a)] [(.int (1 : Int32)), (.ref a)])) rfl (by rw [hml]; rfl) (Steps.refl _) (a := a) (by rw [e1z]; exact qa2z) qb2z (argsL := [(.int (1 : Int32))]) (rest := []) (lenOf pd_591629850 rfl) rfl (by show 2 * 0 + _ ≤ _; exact Nat.le_of_eq rfl) (hb hby d_jdk_38_method_7_code_7) (fun _ _ => ⟨rfl, e1z, (by decide : 0 + 1 ≤ _), (by decide : 0 + 10 ≤ _)⟩)
  dsimp only [Pt.U, Pt.locs, Pt.cells, Pt.slots] at X2z l2z y2z z2z st2z hQ2z
  subst l2z y2z z2z
  obtain ⟨arr_2z, kk_2z, rfl, NQ2z, K2zq, r2z_0, r2z_1, r2z_2, r2z_3, r2z_4, r2z_5, r2z_6, r2z_7⟩ := hQ2z
  refine own_tr st2z ?_
  have N2z := Fr.app N0 NQ2z
  have O3z : Ext Z.heap T2z.heap := own_ext_keep O0 K2zq (allS q3 all0)
  have K3z : Keep h0 T2z.heap [a] := K0.trans K2zq (allS (Or.inl (List.mem_of_getElem? (i := 0) rfl)) all0)
  have lz_arr_2z : h0.size ≤ arr_2z := Nat.le_trans K0.1 r2z_2
  have ne_a_arr_2z : a ≠ arr_2z := Nat.ne_of_lt (Nat.lt_of_lt_of_le q2.lt r2z_2)
  show own_G p e below (T2z.setTop (mkF m 10 #[.val (.ref a)] [(.ref arr_2z)])) _
  exact own_ret X2z hx Bd.returns rfl (Or.inr (Or.inr (Or.inr (Or.inr ⟨rfl, rfl, rfl⟩)))) (hb hby d_jdk_38_method_7_code_10) hlk (Nat.le_of_ble_eq_true rfl) (Nat.le_of_ble_eq_true rfl) (by show Q_own_grow0 Z a mc dE kd h0 _ T2z.heap _; exact ⟨arr_2z, kk_2z, rfl, N2z, K3z, r2z_0, r2z_1, lz_arr_2z, r2z_3, r2z_4, r2z_5, r2z_6, r2z_7⟩)
theorem ef_own_add30 (m : MethodId) (x0 : Addr) (x1 : Addr) (x2 : Addr) (x3 : Int32) : entryFrame m #[(.ref x0), (.ref x1), (.ref x2), (.int x3)] 4 = mkF m 0 #[.val (.ref x0), .val (.ref x1), .val (.ref x2), .val (.int x3)] [] := by first | (simp [entryFrame, mkF, argsToLocals, Value.category]; done) | rfl
theorem pf_own_add30 : plainFor own_m7 = true := plainFor_of_name (by simp [plainName, overriddenIn])
theorem pd_3591787953 : parseMethodDescriptor "()[Ljava/lang/Object;" = some ⟨[], some (.array (.object "java/lang/Object"))⟩ := by decide +kernel
theorem d_jdk_38_method_24_code_0 : decode jdk_38_method_24_code 0 = .ok (.iload_n 3, 1) := by decide +kernel
theorem d_jdk_38_method_24_code_1 : decode jdk_38_method_24_code 1 = .ok (.aload_n 2, 1) := by decide +kernel
theorem d_jdk_38_method_24_code_10 : decode jdk_38_method_24_code 10 = .ok (.astore_n 2, 1) := by decide +kernel
theorem d_jdk_38_method_24_code_11 : decode jdk_38_method_24_code 11 = .ok (.aload_n 2, 1) := by decide +kernel
theorem d_jdk_38_method_24_code_12 : decode jdk_38_method_24_code 12 = .ok (.iload_n 3, 1) := by decide +kernel
theorem d_jdk_38_method_24_code_13 : decode jdk_38_method_24_code 13 = .ok (.aload_n 1, 1) := by decide +kernel
theorem d_jdk_38_method_24_code_14 : decode jdk_38_method_24_code 14 = .ok (.aastore, 1) := by decide +kernel
theorem d_jdk_38_method_24_code_15 : decode jdk_38_method_24_code 15 = .ok (.aload_n 0, 1) := by decide +kernel
theorem d_jdk_38_method_24_code_16 : decode jdk_38_method_24_code 16 = .ok (.iload_n 3, 1) := by decide +kernel
theorem d_jdk_38_method_24_code_17 : decode jdk_38_method_24_code 17 = .ok (.iconst 1, 1) := by decide +kernel
theorem d_jdk_38_method_24_code_18 : decode jdk_38_method_24_code 18 = .ok (.iadd, 1) := by decide +kernel
theorem d_jdk_38_method_24_code_19 : decode jdk_38_method_24_code 19 = .ok (.putfield 48, 3) := by decide +kernel
theorem d_jdk_38_method_24_code_2 : decode jdk_38_method_24_code 2 = .ok (.arraylength, 1) := by decide +kernel
theorem d_jdk_38_method_24_code_22 : decode jdk_38_method_24_code 22 = .ok (.return_, 1) := by decide +kernel
theorem d_jdk_38_method_24_code_3 : decode jdk_38_method_24_code 3 = .ok (.if_icmp .ne 8, 3) := by decide +kernel
theorem d_jdk_38_method_24_code_6 : decode jdk_38_method_24_code 6 = .ok (.aload_n 0, 1) := by decide +kernel
theorem d_jdk_38_method_24_code_7 : decode jdk_38_method_24_code 7 = .ok (.invokevirtual 129, 3) := by decide +kernel
def Q_own_add30 (Z : State) (a : Addr) (mc : Int32) (dE : Addr) (kd : ClassId) (x : Addr) (h0 : Heap) (v : Option Value) (h : Heap) (L : List Loc) : Prop := ∃ arr : Addr, ∃ kk : ClassId, v = none ∧ Fr Z.heap.size L ∧ Keep h0 h [a] ∧ (Exa Z h a "java/util/ArrayList") ∧ (Z.heap.size ≤ arr) ∧ (h0.size ≤ arr) ∧ (Ovr Z kk "java/lang/Object") ∧ (own_A Z h arr kk (.object "java/lang/Object") [(.ref x), .null, .null, .null, .null, .null, .null, .null, .null, .null]) ∧ (Fld Z h a "java/util/AbstractList" "modCount" "I" (.int mc)) ∧ (Fld Z h a "java/util/ArrayList" "elementData" "[Ljava/lang/Object;" (.ref arr)) ∧ (Fld Z h a "java/util/ArrayList" "size" "I" (.int (1 : Int32)))
set_option maxRecDepth 65536 in
set_option maxHeartbeats 40000000 in
theorem own_add30 (l : Launch) (Z : State) (a0 : Array Value) (hw : ∀ d ∈ tables_1, d.before a0 Z = true) (ws : List Jvm.Cond) (a : Addr) (mc : Int32) (dE : Addr) (kd : ClassId) (x : Addr) (h0 : Heap) (O0 : Ext Z.heap h0) (S_D : Sta Z Z.heap "java/util/ArrayList" "DEFAULTCAPACITY_EMPTY_ELEMENTDATA" "[Ljava/lang/Object;" (.ref dE)) (BD : own_A Z Z.heap dE kd (.object "java/lang/Object") []) (q2 : Exa Z h0 a "java/util/ArrayList") (q3 : Z.heap.size ≤ a) (q4 : Fld Z h0 a "java/util/AbstractList" "modCount" "I" (.int mc)) (q5 : Fld Z h0 a "java/util/ArrayList" "elementData" "[Ljava/lang/Object;" (.ref dE)) (q6 : Fld Z h0 a "java/util/ArrayList" "size" "I" (.int (0 : Int32))) (q7 : Exa Z h0 x "java/lang/Integer") :
    MetFree l own_m7 (head1 (Jvm.Cond.code own_m7 jdk_38_method_24_code 4 none :: ws) ({ frames := 3, cells := 1, slots := 10, locals := 50 } : Room)) (fun aa U => aa = #[(.ref a), (.ref x), (.ref dE), (.int (0 : Int32))] ∧ Z.Warmed39 U.vm ∧ U.heap = h0) (fun _ _ _ _ _ => True) (fun _ U o U' => ∃ v L, o = .returned v ∧ Q_own_add30 Z a mc dE kd x h0 v U'.heap L ∧ FrameEnd U o U' L ({ frames := 3, cells := 1, slots := 10, locals := 50 } : Room).cells ({ frames := 3, cells := 1, slots := 10, locals := 50 } : Room).slots) := by
  refine MetFree.of_bodySF pf_own_add30 hisR ?_
  intro p e s m args below meth c s₁ Bd hml0 hP hK
  obtain ⟨rfl, hZ, hh⟩ := hP
  have hx := Bd.exec
  have hby := Bd.bytes
  have hlk := BodyLoose.notSynchronized Bd
  have hml : c.maxLocals = 4 := hml0
  have hown : s.vm.findClass "java/util/ArrayList" = some m.cls := findClass_of_methodNamed Bd.named
  have hnm := (name_of_methodNamed Bd.named Bd.method).1
  have X0 : Stand p l e ({ frames := 3, cells := 1, slots := 10, locals := 50 } : Room) s m #[(.ref a), (.ref x), (.ref dE), (.int (0 : Int32))] below meth c s₁ [] 0 0 := Stand.of_body Bd
  have e0 : s₁.heap = h0 := by rw [← hh, Bd.state]; rfl
  have N0 := Fr.nil Z.heap.size
  have K0 : Keep h0 h0 [a] := Keep.refl _ _
  refine own_start (Q := Q_own_add30 Z a mc dE kd x h0) (ef_own_add30 m (a) (x) (dE) ((0 : Int32))) ?_
  show own_G p e below (s₁.setTop (mkF m 0 #[.val (.ref a), .val (.ref x), .val (.ref dE), .val (.int (0 : Int32))] [])) _
  refine own_go (fun t k => XS.iloadN X0.here hx rfl (hb hby d_jdk_38_method_24_code_0) rfl k) ?_
  refine own_go (fun t k => XS.aloadN X0.here hx rfl (hb hby d_jdk_38_method_24_code_1) rfl rfl k) ?_
  refine own_go (own_len X0 hx hZ e0 (BD.ext O0) (z := (0 : Int32)) (by show (0 : Int32).toInt = ((0 : Nat) : Int); decide) (g := (mkF m 2 #[.val (.ref a), .val (.ref x), .val (.ref dE), .val (.int (0 : Int32))] [(.ref dE), (.int (0 : Int32))])) rfl rfl (hb hby d_jdk_38_method_24_code_2)) ?_
  refine own_go (fun t k => XS.icmpNo X0.here hx rfl (hb hby d_jdk_38_method_24_code_3) rfl (teq (by decide : (0 : Int32) = (0 : Int32))).2 k) ?_
  show own_G p e below (s₁.setTop (mkF m 6 #[.val (.ref a), .val (.ref x), .val (.ref dE), .val (.int (0 : Int32))] [])) _
  refine own_go (fun t k => XS.aloadN X0.here hx rfl (hb hby d_jdk_38_method_24_code_6) rfl rfl k) ?_
  obtain ⟨cq1z, qa1z, qb1z⟩ := q2.cell
  obtain ⟨_, _, ⟨T1z, L1z, k1z, n1z⟩, -, X1z, ⟨Lc1z, hQ1z, l1z, y1z, z1z⟩, st1z⟩ := X0.privateBack hx (y := own_m6) hown (mvT hZ (own_hw hw 122 rfl)) (mvT hZ (own_hw hw 123 rfl)) (mvT hZ (own_hw hw 125 rfl)) (Cond.privateMethod_at (mvP hZ (own_hw hw 124 rfl) (args := #[]))) (mvT hZ (own_hw hw 126 rfl)) (by decide) (backOf (W := 0) (own_grow0 l Z a0 hw [] a mc dE kd h0 O0 S_D BD q2 q3 q4 q5 q6) hZ (own_hw hw 126 rfl) (own_hw hw 10 rfl) (by decide) (by decide)) (g := (mkF m 7 #[.val (.ref a), .val (.ref x), .val (.ref dE), .val (.int (0 : Int32))] [(.ref a)])) rfl (by rw [hml]; rfl) (Steps.refl _) (a := a) (by rw [e0]; exact qa1z) qb1z (argsL := []) (rest := []) (lenOf pd_3591787953 rfl) rfl (by show 2 * 0 + _ ≤ _; exact Nat.le_of_eq rfl) (hb hby d_jdk_38_method_24_code_7) (fun _ _ => ⟨rfl, e0, (by decide : 0 + 1 ≤ _), (by decide : 0 + 10 ≤ _)⟩)
  dsimp only [Pt.U, Pt.locs, Pt.cells, Pt.slots] at X1z l1z y1z z1z st1z hQ1z
  subst l1z y1z z1z
  obtain ⟨arr_1z, kk_1z, rfl, NQ1z, K1zq, r1z_0, r1z_1, r1z_2, r1z_3, r1z_4, r1z_5, r1z_6, r1z_7⟩ := hQ1z
  refine own_tr st1z ?_
  have N1z := Fr.app N0 NQ1z
  have O2z : Ext Z.heap T1z.heap := own_ext_keep O0 K1zq (allS q3 all0)
  have K2z : Keep h0 T1z.heap [a] := K0.trans K1zq (allS (Or.inl (List.mem_of_getElem? (i := 0) rfl)) all0)
  have lz_arr_1z : h0.size ≤ arr_1z := Nat.le_trans K0.1 r1z_2
  have ne_a_arr_1z : a ≠ arr_1z := Nat.ne_of_lt (Nat.lt_of_lt_of_le q2.lt r1z_2)
  have ne_x_arr_1z : x ≠ arr_1z := Nat.ne_of_lt (Nat.lt_of_lt_of_le q7.lt r1z_2)
  show own_G p e below (T1z.setTop (mkF m 10 #[.val (.ref a), .val (.ref x), .val (.ref dE), .val (.int (0 : Int32))] [(.ref arr_1z)])) _
  refine own_go (fun t k => XS.astoreN X1z.here hx rfl (hb hby d_jdk_38_method_24_code_10) rfl rfl (l' := #[.val (.ref a), .val (.ref x), .val (.ref arr_1z), .val (.int (0 : Int32))]) rfl k) ?_
  refine own_go (fun t k => XS.aloadN X1z.here hx rfl (hb hby d_jdk_38_method_24_code_11) rfl rfl k) ?_
  refine own_go (fun t k => XS.iloadN X1z.here hx rfl (hb hby d_jdk_38_method_24_code_12) rfl k) ?_
  refine own_go (fun t k => XS.aloadN X1z.here hx rfl (hb hby d_jdk_38_method_24_code_13) rfl rfl k) ?_
  show own_G p e below (T1z.setTop (mkF m 14 #[.val (.ref a), .val (.ref x), .val (.ref arr_1z), .val (.int (0 : Int32))] [(.ref x), (.int (0 : Int32)), (.ref arr_1z)])) _
  obtain ⟨T3z, h3z, X3z, e3z, W3z, V3z, st3z⟩ := own_stR X1z hx hZ rfl r1z_4 rfl (i := 0) (by decide) (Nat.le_of_ble_eq_true rfl) (own_sto r1z_3 (Or.inr ⟨_, rfl, (Ins.of_exa (q7.keep K1zq) (own_hw hw 138 rfl))⟩)) rfl (g := (mkF m 14 #[.val (.ref a), .val (.ref x), .val (.ref arr_1z), .val (.int (0 : Int32))] [(.ref x), (.int (0 : Int32)), (.ref arr_1z)])) rfl rfl (hb hby d_jdk_38_method_24_code_14)
  refine own_go st3z ?_
  have N3z := Fr.snoc X3z N1z r1z_1
  have O4z : Ext Z.heap h3z := own_ext_wr O2z W3z r1z_1
  have K4z : Keep h0 h3z [a] := K2z.wr W3z (Or.inr lz_arr_1z)
  have V3z : own_A Z h3z arr_1z kk_1z (.object "java/lang/Object") [(.ref x), .null, .null, .null, .null, .null, .null, .null, .null, .null] := V3z
  refine own_go (fun t k => XS.aloadN X3z.here hx rfl (hb hby d_jdk_38_method_24_code_15) rfl rfl k) ?_
  refine own_go (fun t k => XS.iloadN X3z.here hx rfl (hb hby d_jdk_38_method_24_code_16) rfl k) ?_
  refine own_go (fun t k => XS.iconst X3z.here hx rfl (hb hby d_jdk_38_method_24_code_17) k) ?_
  show own_G p e below (T3z.setTop (mkF m 18 #[.val (.ref a), .val (.ref x), .val (.ref arr_1z), .val (.int (0 : Int32))] [(.int (1 : Int32)), (.int (0 : Int32)), (.ref a)])) _
  refine own_go (fun t k => XS.iadd X3z.here hx rfl (hb hby d_jdk_38_method_24_code_18) rfl k) ?_
  obtain ⟨T5z, h5z, X5z, e5z, W5z, st5z⟩ := putF X3z hx hZ hown (host := "") (Or.inl (own_hw hw 60 rfl)) Via.refl e3z (r1z_7.other W3z (Or.inl ne_a_arr_1z)) (r1z_0.wr W3z) (Or.inl (own_hw hw 61 rfl)) (own_hw hw 9 rfl) (ty := .int) (by decide) rfl rfl (g := (mkF m 19 #[.val (.ref a), .val (.ref x), .val (.ref arr_1z), .val (.int (0 : Int32))] [(.int (1 : Int32)), (.ref a)])) rfl rfl (hb hby d_jdk_38_method_24_code_19)
  refine own_go st5z ?_
  have N5z := Fr.snoc X5z N3z q3
  have F5z : Fld Z h5z a "java/util/ArrayList" "size" "I" (.int (1 : Int32)) := (r1z_7.other W3z (Or.inl ne_a_arr_1z)).same W5z
  have O6z : Ext Z.heap h5z := own_ext_wr O4z W5z q3
  have K6z : Keep h0 h5z [a] := K4z.wr W5z (Or.inl (List.mem_of_getElem? (i := 0) rfl))
  have f7z := ((r1z_5.other W3z (Or.inl ne_a_arr_1z)).other W5z (Or.inr (slot_ne (Or.inl (own_hw hw 30 rfl)) (Or.inl (own_hw hw 61 rfl)) (by decide) (t := .int) (t' := .int) (by decide) (by decide))))
  have f8z := ((r1z_6.other W3z (Or.inl ne_a_arr_1z)).other W5z (Or.inr (slot_ne (Or.inl (own_hw hw 33 rfl)) (Or.inl (own_hw hw 61 rfl)) (by decide) (t := (.array (.object "java/lang/Object"))) (t' := .int) (by decide) (by decide))))
  exact own_retV X5z hx Bd.returns (hb hby d_jdk_38_method_24_code_22) hlk (Nat.le_of_ble_eq_true rfl) (Nat.le_of_ble_eq_true rfl) (by show Q_own_add30 Z a mc dE kd x h0 _ T5z.heap _; rw [e5z]; exact ⟨arr_1z, kk_1z, rfl, N5z, K6z, ((r1z_0.wr W3z).wr W5z), r1z_1, lz_arr_1z, r1z_3, (V3z.other W5z (Ne.symm ne_a_arr_1z)), f7z, f8z, F5z⟩)
theorem ef_own_add10 (m : MethodId) (x0 : Addr) (x1 : Addr) : entryFrame m #[(.ref x0), (.ref x1)] 2 = mkF m 0 #[.val (.ref x0), .val (.ref x1)] [] := by first | (simp [entryFrame, mkF, argsToLocals, Value.category]; done) | rfl
theorem pf_own_add10 : plainFor own_m8 = true := plainFor_of_name (by simp [plainName, overriddenIn])
theorem pd_2301215664 : parseMethodDescriptor "(Ljava/lang/Object;[Ljava/lang/Object;I)V" = some ⟨[(.object "java/lang/Object"), (.array (.object "java/lang/Object")), .int], none⟩ := by decide +kernel
theorem d_jdk_38_method_25_code_0 : decode jdk_38_method_25_code 0 = .ok (.aload_n 0, 1) := by decide +kernel
theorem d_jdk_38_method_25_code_1 : decode jdk_38_method_25_code 1 = .ok (.dup, 1) := by decide +kernel
theorem d_jdk_38_method_25_code_10 : decode jdk_38_method_25_code 10 = .ok (.aload_n 0, 1) := by decide +kernel
theorem d_jdk_38_method_25_code_11 : decode jdk_38_method_25_code 11 = .ok (.aload_n 1, 1) := by decide +kernel
theorem d_jdk_38_method_25_code_12 : decode jdk_38_method_25_code 12 = .ok (.aload_n 0, 1) := by decide +kernel
theorem d_jdk_38_method_25_code_13 : decode jdk_38_method_25_code 13 = .ok (.getfield 9, 3) := by decide +kernel
theorem d_jdk_38_method_25_code_16 : decode jdk_38_method_25_code 16 = .ok (.aload_n 0, 1) := by decide +kernel
theorem d_jdk_38_method_25_code_17 : decode jdk_38_method_25_code 17 = .ok (.getfield 48, 3) := by decide +kernel
theorem d_jdk_38_method_25_code_2 : decode jdk_38_method_25_code 2 = .ok (.getfield 63, 3) := by decide +kernel
theorem d_jdk_38_method_25_code_20 : decode jdk_38_method_25_code 20 = .ok (.invokevirtual 131, 3) := by decide +kernel
theorem d_jdk_38_method_25_code_23 : decode jdk_38_method_25_code 23 = .ok (.iconst 1, 1) := by decide +kernel
theorem d_jdk_38_method_25_code_24 : decode jdk_38_method_25_code 24 = .ok (.ireturn, 1) := by decide +kernel
theorem d_jdk_38_method_25_code_5 : decode jdk_38_method_25_code 5 = .ok (.iconst 1, 1) := by decide +kernel
theorem d_jdk_38_method_25_code_6 : decode jdk_38_method_25_code 6 = .ok (.iadd, 1) := by decide +kernel
theorem d_jdk_38_method_25_code_7 : decode jdk_38_method_25_code 7 = .ok (.putfield 63, 3) := by decide +kernel
def Q_own_add10 (Z : State) (a : Addr) (mc : Int32) (dE : Addr) (kd : ClassId) (x : Addr) (h0 : Heap) (v : Option Value) (h : Heap) (L : List Loc) : Prop := ∃ arr : Addr, ∃ kk : ClassId, v = some (.int (1 : Int32)) ∧ Fr Z.heap.size L ∧ Keep h0 h [a] ∧ (Exa Z h a "java/util/ArrayList") ∧ (Z.heap.size ≤ arr) ∧ (h0.size ≤ arr) ∧ (Ovr Z kk "java/lang/Object") ∧ (own_A Z h arr kk (.object "java/lang/Object") [(.ref x), .null, .null, .null, .null, .null, .null, .null, .null, .null]) ∧ (Fld Z h a "java/util/AbstractList" "modCount" "I" (.int (mc + (1 : Int32)))) ∧ (Fld Z h a "java/util/ArrayList" "elementData" "[Ljava/lang/Object;" (.ref arr)) ∧ (Fld Z h a "java/util/ArrayList" "size" "I" (.int (1 : Int32)))
set_option maxRecDepth 65536 in
set_option maxHeartbeats 40000000 in
theorem own_add10 (l : Launch) (Z : State) (a0 : Array Value) (hw : ∀ d ∈ tables_1, d.before a0 Z = true) (ws : List Jvm.Cond) (a : Addr) (mc : Int32) (dE : Addr) (kd : ClassId) (x : Addr) (h0 : Heap) (O0 : Ext Z.heap h0) (S_D : Sta Z Z.heap "java/util/ArrayList" "DEFAULTCAPACITY_EMPTY_ELEMENTDATA" "[Ljava/lang/Object;" (.ref dE)) (BD : own_A Z Z.heap dE kd (.object "java/lang/Object") []) (q2 : Exa Z h0 a "java/util/ArrayList") (q3 : Z.heap.size ≤ a) (q4 : Fld Z h0 a "java/util/AbstractList" "modCount" "I" (.int mc)) (q5 : Fld Z h0 a "java/util/ArrayList" "elementData" "[Ljava/lang/Object;" (.ref dE)) (q6 : Fld Z h0 a "java/util/ArrayList" "size" "I" (.int (0 : Int32))) (q7 : Exa Z h0 x "java/lang/Integer") :
    MetFree l own_m8 (head1 (Jvm.Cond.code own_m8 jdk_38_method_25_code 2 (some .boolean) :: ws) ({ frames := 4, cells := 1, slots := 10, locals := 70 } : Room)) (fun aa U => aa = #[(.ref a), (.ref x)] ∧ Z.Warmed39 U.vm ∧ U.heap = h0) (fun _ _ _ _ _ => True) (fun _ U o U' => ∃ v L, o = .returned v ∧ Q_own_add10 Z a mc dE kd x h0 v U'.heap L ∧ FrameEnd U o U' L ({ frames := 4, cells := 1, slots := 10, locals := 70 } : Room).cells ({ frames := 4, cells := 1, slots := 10, locals := 70 } : Room).slots) := by
  refine MetFree.of_bodySF pf_own_add10 hisR ?_
  intro p e s m args below meth c s₁ Bd hml0 hP hK
  obtain ⟨rfl, hZ, hh⟩ := hP
  have hx := Bd.exec
  have hby := Bd.bytes
  have hlk := BodyLoose.notSynchronized Bd
  have hml : c.maxLocals = 2 := hml0
  have hown : s.vm.findClass "java/util/ArrayList" = some m.cls := findClass_of_methodNamed Bd.named
  have hnm := (name_of_methodNamed Bd.named Bd.method).1
  have X0 : Stand p l e ({ frames := 4, cells := 1, slots := 10, locals := 70 } : Room) s m #[(.ref a), (.ref x)] below meth c s₁ [] 0 0 := Stand.of_body Bd
  have e0 : s₁.heap = h0 := by rw [← hh, Bd.state]; rfl
  have N0 := Fr.nil Z.heap.size
  have K0 : Keep h0 h0 [a] := Keep.refl _ _
  refine own_start (Q := Q_own_add10 Z a mc dE kd x h0) (ef_own_add10 m (a) (x)) ?_
  show own_G p e below (s₁.setTop (mkF m 0 #[.val (.ref a), .val (.ref x)] [])) _
  refine own_go (fun t k => XS.aloadN X0.here hx rfl (hb hby d_jdk_38_method_25_code_0) rfl rfl k) ?_
  refine own_go (fun t k => XS.dup X0.here hx rfl (hb hby d_jdk_38_method_25_code_1) rfl rfl k) ?_
  obtain ⟨T1z, X1z, e1z, st1z⟩ := getF X0 hx hZ hown (host := "") (Or.inl (own_hw hw 116 rfl)) (Via.of (own_hw hw 87 rfl)) e0 q4 (g := (mkF m 2 #[.val (.ref a), .val (.ref x)] [(.ref a), (.ref a)])) rfl rfl (hb hby d_jdk_38_method_25_code_2)
  refine own_go st1z ?_
  refine own_go (fun t k => XS.iconst X1z.here hx rfl (hb hby d_jdk_38_method_25_code_5) k) ?_
  show own_G p e below (T1z.setTop (mkF m 6 #[.val (.ref a), .val (.ref x)] [(.int (1 : Int32)), (.int mc), (.ref a)])) _
  refine own_go (fun t k => XS.iadd X1z.here hx rfl (hb hby d_jdk_38_method_25_code_6) rfl k) ?_
  obtain ⟨T2z, h2z, X2z, e2z, W2z, st2z⟩ := putF X1z hx hZ hown (host := "") (Or.inl (own_hw hw 116 rfl)) (Via.of (own_hw hw 87 rfl)) e1z q4 q2 (Or.inl (own_hw hw 30 rfl)) (own_hw hw 9 rfl) (ty := .int) (by decide) rfl rfl (g := (mkF m 7 #[.val (.ref a), .val (.ref x)] [(.int (mc + (1 : Int32))), (.ref a)])) rfl rfl (hb hby d_jdk_38_method_25_code_7)
  refine own_go st2z ?_
  have N2z := Fr.snoc X2z N0 q3
  have F2z : Fld Z h2z a "java/util/AbstractList" "modCount" "I" (.int (mc + (1 : Int32))) := q4.same W2z
  have O3z : Ext Z.heap h2z := own_ext_wr O0 W2z q3
  have K3z : Keep h0 h2z [a] := K0.wr W2z (Or.inl (List.mem_of_getElem? (i := 0) rfl))
  refine own_go (fun t k => XS.aloadN X2z.here hx rfl (hb hby d_jdk_38_method_25_code_10) rfl rfl k) ?_
  refine own_go (fun t k => XS.aloadN X2z.here hx rfl (hb hby d_jdk_38_method_25_code_11) rfl rfl k) ?_
  show own_G p e below (T2z.setTop (mkF m 12 #[.val (.ref a), .val (.ref x)] [(.ref x), (.ref a)])) _
  refine own_go (fun t k => XS.aloadN X2z.here hx rfl (hb hby d_jdk_38_method_25_code_12) rfl rfl k) ?_
  have f4z := (q5.other W2z (Or.inr (slot_ne (Or.inl (own_hw hw 33 rfl)) (Or.inl (own_hw hw 30 rfl)) (by decide) (t := (.array (.object "java/lang/Object"))) (t' := .int) (by decide) (by decide))))
  obtain ⟨T5z, X5z, e5z, st5z⟩ := getF X2z hx hZ hown (host := "") (Or.inl (own_hw hw 32 rfl)) Via.refl e2z f4z (g := (mkF m 13 #[.val (.ref a), .val (.ref x)] [(.ref a), (.ref x), (.ref a)])) rfl rfl (hb hby d_jdk_38_method_25_code_13)
  refine own_go st5z ?_
  refine own_go (fun t k => XS.aloadN X5z.here hx rfl (hb hby d_jdk_38_method_25_code_16) rfl rfl k) ?_
  have f6z := (q6.other W2z (Or.inr (slot_ne (Or.inl (own_hw hw 61 rfl)) (Or.inl (own_hw hw 30 rfl)) (by decide) (t := .int) (t' := .int) (by decide) (by decide))))
  obtain ⟨T7z, X7z, e7z, st7z⟩ := getF X5z hx hZ hown (host := "") (Or.inl (own_hw hw 60 rfl)) Via.refl e5z f6z (g := (mkF m 17 #[.val (.ref a), .val (.ref x)] [(.ref a), (.ref dE), (.ref x), (.ref a)])) rfl rfl (hb hby d_jdk_38_method_25_code_17)
  refine own_go st7z ?_
  show own_G p e below (T7z.setTop (mkF m 20 #[.val (.ref a), .val (.ref x)] [(.int (0 : Int32)), (.ref dE), (.ref x), (.ref a)])) _
  obtain ⟨cq8z, qa8z, qb8z⟩ := (q2.wr W2z).cell
  obtain ⟨_, _, ⟨T8z, L8z, k8z, n8z⟩, -, X8z, ⟨Lc8z, hQ8z, l8z, y8z, z8z⟩, st8z⟩ := X7z.privateBack hx (y := own_m7) hown (mvT hZ (own_hw hw 117 rfl)) (mvT hZ (own_hw hw 118 rfl)) (mvT hZ (own_hw hw 120 rfl)) (Cond.privateMethod_at (mvP hZ (own_hw hw 119 rfl) (args := #[]))) (mvT hZ (own_hw hw 121 rfl)) (by decide) (backOf (W := 0) (own_add30 l Z a0 hw [] a (mc + (1 : Int32)) dE kd x h2z O3z S_D BD (q2.wr W2z) q3 F2z f4z f6z (q7.wr W2z)) hZ (own_hw hw 121 rfl) (own_hw hw 10 rfl) (by decide) (by decide)) (g := (mkF m 20 #[.val (.ref a), .val (.ref x)] [(.int (0 : Int32)), (.ref dE), (.ref x), (.ref a)])) rfl (by rw [hml]; rfl) (Steps.refl _) (a := a) (by rw [e7z]; exact qa8z) qb8z (argsL := [(.ref x), (.ref dE), (.int (0 : Int32))]) (rest := []) (lenOf pd_2301215664 rfl) rfl (by show 2 * 0 + _ ≤ _; exact Nat.le_of_eq rfl) (hb hby d_jdk_38_method_25_code_20) (fun _ _ => ⟨rfl, e7z, (by decide : 0 + 1 ≤ _), (by decide : 0 + 10 ≤ _)⟩)
  dsimp only [Pt.U, Pt.locs, Pt.cells, Pt.slots] at X8z l8z y8z z8z st8z hQ8z
  subst l8z y8z z8z
  obtain ⟨arr_8z, kk_8z, rfl, NQ8z, K8zq, r8z_0, r8z_1, r8z_2, r8z_3, r8z_4, r8z_5, r8z_6, r8z_7⟩ := hQ8z
  refine own_tr st8z ?_
  have N8z := Fr.app N2z NQ8z
  have O9z : Ext Z.heap T8z.heap := own_ext_keep O3z K8zq (allS q3 all0)
  have K9z : Keep h0 T8z.heap [a] := K3z.trans K8zq (allS (Or.inl (List.mem_of_getElem? (i := 0) rfl)) all0)
  have lz_arr_8z : h0.size ≤ arr_8z := Nat.le_trans K3z.1 r8z_2
  have ne_a_arr_8z : a ≠ arr_8z := Nat.ne_of_lt (Nat.lt_of_lt_of_le (q2.wr W2z).lt r8z_2)
  have ne_x_arr_8z : x ≠ arr_8z := Nat.ne_of_lt (Nat.lt_of_lt_of_le (q7.wr W2z).lt r8z_2)
  show own_G p e below (T8z.setTop (mkF m 23 #[.val (.ref a), .val (.ref x)] [])) _
  refine own_go (fun t k => XS.iconst X8z.here hx rfl (hb hby d_jdk_38_method_25_code_23) k) ?_
  exact own_ret X8z hx Bd.returns rfl (Or.inl ⟨rfl, Or.inr (Or.inl rfl), _, rfl⟩) (hb hby d_jdk_38_method_25_code_24) hlk (Nat.le_of_ble_eq_true rfl) (Nat.le_of_ble_eq_true rfl) (by show Q_own_add10 Z a mc dE kd x h0 _ T8z.heap _; exact ⟨arr_8z, kk_8z, rfl, N8z, K9z, r8z_0, r8z_1, lz_arr_8z, r8z_3, r8z_4, r8z_5, r8z_6, r8z_7⟩)
theorem ef_own_add3 (m : MethodId) (x0 : Addr) (x1 : Addr) (x2 : Addr) (x3 : Int32) : entryFrame m #[(.ref x0), (.ref x1), (.ref x2), (.int x3)] 4 = mkF m 0 #[.val (.ref x0), .val (.ref x1), .val (.ref x2), .val (.int x3)] [] := by first | (simp [entryFrame, mkF, argsToLocals, Value.category]; done) | rfl
theorem pf_own_add3 : plainFor own_m7 = true := plainFor_of_name (by simp [plainName, overriddenIn])
def Q_own_add3 (Z : State) (a : Addr) (x : Addr) (arr : Addr) (kk : ClassId) (vs : (List Value)) (sz : Int32) (mc : Int32) (zl : Int32) (i : Nat) (h0 : Heap) (v : Option Value) (h : Heap) (L : List Loc) : Prop := v = none ∧ Fr Z.heap.size L ∧ Keep h0 h [a, arr] ∧ (Exa Z h a "java/util/ArrayList") ∧ (own_A Z h arr kk (.object "java/lang/Object") (vs.set i (.ref x))) ∧ (Fld Z h a "java/util/AbstractList" "modCount" "I" (.int mc)) ∧ (Fld Z h a "java/util/ArrayList" "elementData" "[Ljava/lang/Object;" (.ref arr)) ∧ (Fld Z h a "java/util/ArrayList" "size" "I" (.int (sz + (1 : Int32))))
set_option maxRecDepth 65536 in
set_option maxHeartbeats 40000000 in
theorem own_add3 (l : Launch) (Z : State) (a0 : Array Value) (hw : ∀ d ∈ tables_1, d.before a0 Z = true) (ws : List Jvm.Cond) (a : Addr) (x : Addr) (arr : Addr) (kk : ClassId) (vs : (List Value)) (sz : Int32) (mc : Int32) (zl : Int32) (i : Nat) (h0 : Heap) (O0 : Ext Z.heap h0) (q0 : Exa Z h0 a "java/util/ArrayList") (q1 : Z.heap.size ≤ a) (q2 : Z.heap.size ≤ arr) (q3 : Exa Z h0 x "java/lang/Integer") (q4 : own_A Z h0 arr kk (.object "java/lang/Object") vs) (ov : Ovr Z kk "java/lang/Object") (hsz : sz.toInt = (i : Int)) (hzl : zl.toInt = (vs.length : Int)) (hi : i < vs.length) (nea : a ≠ arr) (q10 : Fld Z h0 a "java/util/AbstractList" "modCount" "I" (.int mc)) (q11 : Fld Z h0 a "java/util/ArrayList" "elementData" "[Ljava/lang/Object;" (.ref arr)) (q12 : Fld Z h0 a "java/util/ArrayList" "size" "I" (.int sz)) :
    MetFree l own_m7 (head1 (Jvm.Cond.code own_m7 jdk_38_method_24_code 4 none :: ws) ({ frames := 0, cells := 0, slots := 0, locals := 0 } : Room)) (fun aa U => aa = #[(.ref a), (.ref x), (.ref arr), (.int sz)] ∧ Z.Warmed39 U.vm ∧ U.heap = h0) (fun _ _ _ _ _ => True) (fun _ U o U' => ∃ v L, o = .returned v ∧ Q_own_add3 Z a x arr kk vs sz mc zl i h0 v U'.heap L ∧ FrameEnd U o U' L ({ frames := 0, cells := 0, slots := 0, locals := 0 } : Room).cells ({ frames := 0, cells := 0, slots := 0, locals := 0 } : Room).slots) := by
  refine MetFree.of_bodySF pf_own_add3 hisR ?_
  intro p e s m args below meth c s₁ Bd hml0 hP hK
  obtain ⟨rfl, hZ, hh⟩ := hP
  have hx := Bd.exec
  have hby := Bd.bytes
  have hlk := BodyLoose.notSynchronized Bd
  have hml : c.maxLocals = 4 := hml0
  have hown : s.vm.findClass "java/util/ArrayList" = some m.cls := findClass_of_methodNamed Bd.named
  have hnm := (name_of_methodNamed Bd.named Bd.method).1
  have X0 : Stand p l e ({ frames := 0, cells := 0, slots := 0, locals := 0 } : Room) s m #[(.ref a), (.ref x), (.ref arr), (.int sz)] below meth c s₁ [] 0 0 := Stand.of_body Bd
  have e0 : s₁.heap = h0 := by rw [← hh, Bd.state]; rfl
  have N0 := Fr.nil Z.heap.size
  have K0 : Keep h0 h0 [a, arr] := Keep.refl _ _
  refine own_start (Q := Q_own_add3 Z a x arr kk vs sz mc zl i h0) (ef_own_add3 m (a) (x) (arr) (sz)) ?_
  show own_G p e below (s₁.setTop (mkF m 0 #[.val (.ref a), .val (.ref x), .val (.ref arr), .val (.int sz)] [])) _
  refine own_go (fun t k => XS.iloadN X0.here hx rfl (hb hby d_jdk_38_method_24_code_0) rfl k) ?_
  refine own_go (fun t k => XS.aloadN X0.here hx rfl (hb hby d_jdk_38_method_24_code_1) rfl rfl k) ?_
  refine own_go (own_len X0 hx hZ e0 q4 (z := zl) hzl (g := (mkF m 2 #[.val (.ref a), .val (.ref x), .val (.ref arr), .val (.int sz)] [(.ref arr), (.int sz)])) rfl rfl (hb hby d_jdk_38_method_24_code_2)) ?_
  refine own_go (fun t k => XS.icmpYes X0.here hx rfl (pc0 := 3) (pc' := 11) rfl (hb hby d_jdk_38_method_24_code_3) rfl (feq (own_ltlen hsz hzl hi)).2 (by decide) (by decide) k) ?_
  show own_G p e below (s₁.setTop (mkF m 11 #[.val (.ref a), .val (.ref x), .val (.ref arr), .val (.int sz)] [])) _
  refine own_go (fun t k => XS.aloadN X0.here hx rfl (hb hby d_jdk_38_method_24_code_11) rfl rfl k) ?_
  refine own_go (fun t k => XS.iloadN X0.here hx rfl (hb hby d_jdk_38_method_24_code_12) rfl k) ?_
  refine own_go (fun t k => XS.aloadN X0.here hx rfl (hb hby d_jdk_38_method_24_code_13) rfl rfl k) ?_
  obtain ⟨T1z, h1z, X1z, e1z, W1z, V1z, st1z⟩ := own_stR X0 hx hZ e0 q4 rfl (i := i) hsz hi (own_sto ov (Or.inr ⟨_, rfl, (Ins.of_exa q3 (own_hw hw 138 rfl))⟩)) rfl (g := (mkF m 14 #[.val (.ref a), .val (.ref x), .val (.ref arr), .val (.int sz)] [(.ref x), (.int sz), (.ref arr)])) rfl rfl (hb hby d_jdk_38_method_24_code_14)
  refine own_go st1z ?_
  have N1z := Fr.snoc X1z N0 q2
  have O2z : Ext Z.heap h1z := own_ext_wr O0 W1z q2
  have K2z : Keep h0 h1z [a, arr] := K0.wr W1z (Or.inl (List.mem_of_getElem? (i := 1) rfl))
  have V1z : own_A Z h1z arr kk (.object "java/lang/Object") (vs.set i (.ref x)) := V1z
  show own_G p e below (T1z.setTop (mkF m 15 #[.val (.ref a), .val (.ref x), .val (.ref arr), .val (.int sz)] [])) _
  refine own_go (fun t k => XS.aloadN X1z.here hx rfl (hb hby d_jdk_38_method_24_code_15) rfl rfl k) ?_
  refine own_go (fun t k => XS.iloadN X1z.here hx rfl (hb hby d_jdk_38_method_24_code_16) rfl k) ?_
  refine own_go (fun t k => XS.iconst X1z.here hx rfl (hb hby d_jdk_38_method_24_code_17) k) ?_
  refine own_go (fun t k => XS.iadd X1z.here hx rfl (hb hby d_jdk_38_method_24_code_18) rfl k) ?_
  show own_G p e below (T1z.setTop (mkF m 19 #[.val (.ref a), .val (.ref x), .val (.ref arr), .val (.int sz)] [(.int (sz + (1 : Int32))), (.ref a)])) _
  obtain ⟨T3z, h3z, X3z, e3z, W3z, st3z⟩ := putF X1z hx hZ hown (host := "") (Or.inl (own_hw hw 60 rfl)) Via.refl e1z (q12.other W1z (Or.inl nea)) (q0.wr W1z) (Or.inl (own_hw hw 61 rfl)) (own_hw hw 9 rfl) (ty := .int) (by decide) rfl rfl (g := (mkF m 19 #[.val (.ref a), .val (.ref x), .val (.ref arr), .val (.int sz)] [(.int (sz + (1 : Int32))), (.ref a)])) rfl rfl (hb hby d_jdk_38_method_24_code_19)
  refine own_go st3z ?_
  have N3z := Fr.snoc X3z N1z q1
  have F3z : Fld Z h3z a "java/util/ArrayList" "size" "I" (.int (sz + (1 : Int32))) := (q12.other W1z (Or.inl nea)).same W3z
  have O4z : Ext Z.heap h3z := own_ext_wr O2z W3z q1
  have K4z : Keep h0 h3z [a, arr] := K2z.wr W3z (Or.inl (List.mem_of_getElem? (i := 0) rfl))
  have f5z := ((q10.other W1z (Or.inl nea)).other W3z (Or.inr (slot_ne (Or.inl (own_hw hw 30 rfl)) (Or.inl (own_hw hw 61 rfl)) (by decide) (t := .int) (t' := .int) (by decide) (by decide))))
  have f6z := ((q11.other W1z (Or.inl nea)).other W3z (Or.inr (slot_ne (Or.inl (own_hw hw 33 rfl)) (Or.inl (own_hw hw 61 rfl)) (by decide) (t := (.array (.object "java/lang/Object"))) (t' := .int) (by decide) (by decide))))
  exact own_retV X3z hx Bd.returns (hb hby d_jdk_38_method_24_code_22) hlk (Nat.le_of_ble_eq_true rfl) (Nat.le_of_ble_eq_true rfl) (by show Q_own_add3 Z a x arr kk vs sz mc zl i h0 _ T3z.heap _; rw [e3z]; exact ⟨rfl, N3z, K4z, ((q0.wr W1z).wr W3z), (V1z.other W3z (Ne.symm nea)), f5z, f6z, F3z⟩)
theorem ef_own_add1 (m : MethodId) (x0 : Addr) (x1 : Addr) : entryFrame m #[(.ref x0), (.ref x1)] 2 = mkF m 0 #[.val (.ref x0), .val (.ref x1)] [] := by first | (simp [entryFrame, mkF, argsToLocals, Value.category]; done) | rfl
theorem pf_own_add1 : plainFor own_m8 = true := plainFor_of_name (by simp [plainName, overriddenIn])
def Q_own_add1 (Z : State) (a : Addr) (x : Addr) (arr : Addr) (kk : ClassId) (vs : (List Value)) (sz : Int32) (mc : Int32) (zl : Int32) (i : Nat) (h0 : Heap) (v : Option Value) (h : Heap) (L : List Loc) : Prop := v = some (.int (1 : Int32)) ∧ Fr Z.heap.size L ∧ Keep h0 h [a, arr] ∧ (Exa Z h a "java/util/ArrayList") ∧ (own_A Z h arr kk (.object "java/lang/Object") (vs.set i (.ref x))) ∧ (Fld Z h a "java/util/AbstractList" "modCount" "I" (.int (mc + (1 : Int32)))) ∧ (Fld Z h a "java/util/ArrayList" "elementData" "[Ljava/lang/Object;" (.ref arr)) ∧ (Fld Z h a "java/util/ArrayList" "size" "I" (.int (sz + (1 : Int32))))
set_option maxRecDepth 65536 in
set_option maxHeartbeats 40000000 in
theorem own_add1 (l : Launch) (Z : State) (a0 : Array Value) (hw : ∀ d ∈ tables_1, d.before a0 Z = true) (ws : List Jvm.Cond) (a : Addr) (x : Addr) (arr : Addr) (kk : ClassId) (vs : (List Value)) (sz : Int32) (mc : Int32) (zl : Int32) (i : Nat) (h0 : Heap) (O0 : Ext Z.heap h0) (q0 : Exa Z h0 a "java/util/ArrayList") (q1 : Z.heap.size ≤ a) (q2 : Z.heap.size ≤ arr) (q3 : Exa Z h0 x "java/lang/Integer") (q4 : own_A Z h0 arr kk (.object "java/lang/Object") vs) (ov : Ovr Z kk "java/lang/Object") (hsz : sz.toInt = (i : Int)) (hzl : zl.toInt = (vs.length : Int)) (hi : i < vs.length) (nea : a ≠ arr) (q10 : Fld Z h0 a "java/util/AbstractList" "modCount" "I" (.int mc)) (q11 : Fld Z h0 a "java/util/ArrayList" "elementData" "[Ljava/lang/Object;" (.ref arr)) (q12 : Fld Z h0 a "java/util/ArrayList" "size" "I" (.int sz)) :
    MetFree l own_m8 (head1 (Jvm.Cond.code own_m8 jdk_38_method_25_code 2 (some .boolean) :: ws) ({ frames := 1, cells := 0, slots := 0, locals := 15 } : Room)) (fun aa U => aa = #[(.ref a), (.ref x)] ∧ Z.Warmed39 U.vm ∧ U.heap = h0) (fun _ _ _ _ _ => True) (fun _ U o U' => ∃ v L, o = .returned v ∧ Q_own_add1 Z a x arr kk vs sz mc zl i h0 v U'.heap L ∧ FrameEnd U o U' L ({ frames := 1, cells := 0, slots := 0, locals := 15 } : Room).cells ({ frames := 1, cells := 0, slots := 0, locals := 15 } : Room).slots) := by
  refine MetFree.of_bodySF pf_own_add1 hisR ?_
  intro p e s m args below meth c s₁ Bd hml0 hP hK
  obtain ⟨rfl, hZ, hh⟩ := hP
  have hx := Bd.exec
  have hby := Bd.bytes
  have hlk := BodyLoose.notSynchronized Bd
  have hml : c.maxLocals = 2 := hml0
  have hown : s.vm.findClass "java/util/ArrayList" = some m.cls := findClass_of_methodNamed Bd.named
  have hnm := (name_of_methodNamed Bd.named Bd.method).1
  have X0 : Stand p l e ({ frames := 1, cells := 0, slots := 0, locals := 15 } : Room) s m #[(.ref a), (.ref x)] below meth c s₁ [] 0 0 := Stand.of_body Bd
  have e0 : s₁.heap = h0 := by rw [← hh, Bd.state]; rfl
  have N0 := Fr.nil Z.heap.size
  have K0 : Keep h0 h0 [a, arr] := Keep.refl _ _
  refine own_start (Q := Q_own_add1 Z a x arr kk vs sz mc zl i h0) (ef_own_add1 m (a) (x)) ?_
  show own_G p e below (s₁.setTop (mkF m 0 #[.val (.ref a), .val (.ref x)] [])) _
  refine own_go (fun t k => XS.aloadN X0.here hx rfl (hb hby d_jdk_38_method_25_code_0) rfl rfl k) ?_
  refine own_go (fun t k => XS.dup X0.here hx rfl (hb hby d_jdk_38_method_25_code_1) rfl rfl k) ?_
  obtain ⟨T1z, X1z, e1z, st1z⟩ := getF X0 hx hZ hown (host := "") (Or.inl (own_hw hw 116 rfl)) (Via.of (own_hw hw 87 rfl)) e0 q10 (g := (mkF m 2 #[.val (.ref a), .val (.ref x)] [(.ref a), (.ref a)])) rfl rfl (hb hby d_jdk_38_method_25_code_2)
  refine own_go st1z ?_
  refine own_go (fun t k => XS.iconst X1z.here hx rfl (hb hby d_jdk_38_method_25_code_5) k) ?_
  show own_G p e below (T1z.setTop (mkF m 6 #[.val (.ref a), .val (.ref x)] [(.int (1 : Int32)), (.int mc), (.ref a)])) _
  refine own_go (fun t k => XS.iadd X1z.here hx rfl (hb hby d_jdk_38_method_25_code_6) rfl k) ?_
  obtain ⟨T2z, h2z, X2z, e2z, W2z, st2z⟩ := putF X1z hx hZ hown (host := "") (Or.inl (own_hw hw 116 rfl)) (Via.of (own_hw hw 87 rfl)) e1z q10 q0 (Or.inl (own_hw hw 30 rfl)) (own_hw hw 9 rfl) (ty := .int) (by decide) rfl rfl (g := (mkF m 7 #[.val (.ref a), .val (.ref x)] [(.int (mc + (1 : Int32))), (.ref a)])) rfl rfl (hb hby d_jdk_38_method_25_code_7)
  refine own_go st2z ?_
  have N2z := Fr.snoc X2z N0 q1
  have F2z : Fld Z h2z a "java/util/AbstractList" "modCount" "I" (.int (mc + (1 : Int32))) := q10.same W2z
  have O3z : Ext Z.heap h2z := own_ext_wr O0 W2z q1
  have K3z : Keep h0 h2z [a, arr] := K0.wr W2z (Or.inl (List.mem_of_getElem? (i := 0) rfl))
  refine own_go (fun t k => XS.aloadN X2z.here hx rfl (hb hby d_jdk_38_method_25_code_10) rfl rfl k) ?_
  refine own_go (fun t k => XS.aloadN X2z.here hx rfl (hb hby d_jdk_38_method_25_code_11) rfl rfl k) ?_
  show own_G p e below (T2z.setTop (mkF m 12 #[.val (.ref a), .val (.ref x)] [(.ref x), (.ref a)])) _
  refine own_go (fun t k => XS.aloadN X2z.here hx rfl (hb hby d_jdk_38_method_25_code_12) rfl rfl k) ?_
  have f4z := (q11.other W2z (Or.inr (slot_ne (Or.inl (own_hw hw 33 rfl)) (Or.inl (own_hw hw 30 rfl)) (by decide) (t := (.array (.object "java/lang/Object"))) (t' := .int) (by decide) (by decide))))
  obtain ⟨T5z, X5z, e5z, st5z⟩ := getF X2z hx hZ hown (host := "") (Or.inl (own_hw hw 32 rfl)) Via.refl e2z f4z (g := (mkF m 13 #[.val (.ref a), .val (.ref x)] [(.ref a), (.ref x), (.ref a)])) rfl rfl (hb hby d_jdk_38_method_25_code_13)
  refine own_go st5z ?_
  refine own_go (fun t k => XS.aloadN X5z.here hx rfl (hb hby d_jdk_38_method_25_code_16) rfl rfl k) ?_
  have f6z := (q12.other W2z (Or.inr (slot_ne (Or.inl (own_hw hw 61 rfl)) (Or.inl (own_hw hw 30 rfl)) (by decide) (t := .int) (t' := .int) (by decide) (by decide))))
  obtain ⟨T7z, X7z, e7z, st7z⟩ := getF X5z hx hZ hown (host := "") (Or.inl (own_hw hw 60 rfl)) Via.refl e5z f6z (g := (mkF m 17 #[.val (.ref a), .val (.ref x)] [(.ref a), (.ref arr), (.ref x), (.ref a)])) rfl rfl (hb hby d_jdk_38_method_25_code_17)
  refine own_go st7z ?_
  show own_G p e below (T7z.setTop (mkF m 20 #[.val (.ref a), .val (.ref x)] [(.int sz), (.ref arr), (.ref x), (.ref a)])) _
  obtain ⟨cq8z, qa8z, qb8z⟩ := (q0.wr W2z).cell
  obtain ⟨_, _, ⟨T8z, L8z, k8z, n8z⟩, -, X8z, ⟨Lc8z, hQ8z, l8z, y8z, z8z⟩, st8z⟩ := X7z.privateBack hx (y := own_m7) hown (mvT hZ (own_hw hw 117 rfl)) (mvT hZ (own_hw hw 118 rfl)) (mvT hZ (own_hw hw 120 rfl)) (Cond.privateMethod_at (mvP hZ (own_hw hw 119 rfl) (args := #[]))) (mvT hZ (own_hw hw 121 rfl)) (by decide) (backOf (W := 0) (own_add3 l Z a0 hw [] a x arr kk vs sz (mc + (1 : Int32)) zl i h2z O3z (q0.wr W2z) q1 q2 (q3.wr W2z) (q4.other W2z (Ne.symm nea)) ov hsz hzl hi nea F2z f4z f6z) hZ (own_hw hw 121 rfl) (own_hw hw 10 rfl) (by decide) (by decide)) (g := (mkF m 20 #[.val (.ref a), .val (.ref x)] [(.int sz), (.ref arr), (.ref x), (.ref a)])) rfl (by rw [hml]; rfl) (Steps.refl _) (a := a) (by rw [e7z]; exact qa8z) qb8z (argsL := [(.ref x), (.ref arr), (.int sz)]) (rest := []) (lenOf pd_2301215664 rfl) rfl (by show 2 * 0 + _ ≤ _; exact Nat.le_of_eq rfl) (hb hby d_jdk_38_method_25_code_20) (fun _ _ => ⟨rfl, e7z, (by decide : 0 + 0 ≤ _), (by decide : 0 + 0 ≤ _)⟩)
  dsimp only [Pt.U, Pt.locs, Pt.cells, Pt.slots] at X8z l8z y8z z8z st8z hQ8z
  subst l8z y8z z8z
  obtain ⟨rfl, NQ8z, K8zq, r8z_0, r8z_1, r8z_2, r8z_3, r8z_4⟩ := hQ8z
  refine own_tr st8z ?_
  have N8z := Fr.app N2z NQ8z
  have O9z : Ext Z.heap T8z.heap := own_ext_keep O3z K8zq (allS q1 (allS q2 all0))
  have K9z : Keep h0 T8z.heap [a, arr] := K3z.trans K8zq (allS (Or.inl (List.mem_of_getElem? (i := 0) rfl)) (allS (Or.inl (List.mem_of_getElem? (i := 1) rfl)) all0))
  show own_G p e below (T8z.setTop (mkF m 23 #[.val (.ref a), .val (.ref x)] [])) _
  refine own_go (fun t k => XS.iconst X8z.here hx rfl (hb hby d_jdk_38_method_25_code_23) k) ?_
  exact own_ret X8z hx Bd.returns rfl (Or.inl ⟨rfl, Or.inr (Or.inl rfl), _, rfl⟩) (hb hby d_jdk_38_method_25_code_24) hlk (Nat.le_of_ble_eq_true rfl) (Nat.le_of_ble_eq_true rfl) (by show Q_own_add1 Z a x arr kk vs sz mc zl i h0 _ T8z.heap _; exact ⟨rfl, N8z, K9z, r8z_0, r8z_1, r8z_2, r8z_3, r8z_4⟩)
theorem ef_own_size (m : MethodId) (x0 : Addr) : entryFrame m #[(.ref x0)] 1 = mkF m 0 #[.val (.ref x0)] [] := by first | (simp [entryFrame, mkF, argsToLocals, Value.category]; done) | rfl
theorem pf_own_size : plainFor own_m9 = true := plainFor_of_name (by simp [plainName, overriddenIn])
theorem d_jdk_38_method_8_code_0 : decode jdk_38_method_8_code 0 = .ok (.aload_n 0, 1) := by decide +kernel
theorem d_jdk_38_method_8_code_1 : decode jdk_38_method_8_code 1 = .ok (.getfield 48, 3) := by decide +kernel
theorem d_jdk_38_method_8_code_4 : decode jdk_38_method_8_code 4 = .ok (.ireturn, 1) := by decide +kernel
def Q_own_size (Z : State) (a : Addr) (n : Int32) (h0 : Heap) (v : Option Value) (h : Heap) (L : List Loc) : Prop := v = some (.int n) ∧ Fr Z.heap.size L ∧ h = h0
set_option maxRecDepth 65536 in
set_option maxHeartbeats 40000000 in
theorem own_size (l : Launch) (Z : State) (a0 : Array Value) (hw : ∀ d ∈ tables_1, d.before a0 Z = true) (ws : List Jvm.Cond) (a : Addr) (n : Int32) (h0 : Heap) (O0 : Ext Z.heap h0) (q0 : Fld Z h0 a "java/util/ArrayList" "size" "I" (.int n)) :
    MetFree l own_m9 (head1 (Jvm.Cond.code own_m9 jdk_38_method_8_code 1 (some .int) :: ws) ({ frames := 0, cells := 0, slots := 0, locals := 0 } : Room)) (fun aa U => aa = #[(.ref a)] ∧ Z.Warmed39 U.vm ∧ U.heap = h0) (fun _ _ _ _ _ => True) (fun _ U o U' => ∃ v L, o = .returned v ∧ Q_own_size Z a n h0 v U'.heap L ∧ FrameEnd U o U' L ({ frames := 0, cells := 0, slots := 0, locals := 0 } : Room).cells ({ frames := 0, cells := 0, slots := 0, locals := 0 } : Room).slots) := by
  refine MetFree.of_bodySF pf_own_size hisR ?_
  intro p e s m args below meth c s₁ Bd hml0 hP hK
  obtain ⟨rfl, hZ, hh⟩ := hP
  have hx := Bd.exec
  have hby := Bd.bytes
  have hlk := BodyLoose.notSynchronized Bd
  have hml : c.maxLocals = 1 := hml0
  have hown : s.vm.findClass "java/util/ArrayList" = some m.cls := findClass_of_methodNamed Bd.named
  have hnm := (name_of_methodNamed Bd.named Bd.method).1
  have X0 : Stand p l e ({ frames := 0, cells := 0, slots := 0, locals := 0 } : Room) s m #[(.ref a)] below meth c s₁ [] 0 0 := Stand.of_body Bd
  have e0 : s₁.heap = h0 := by rw [← hh, Bd.state]; rfl
  have N0 := Fr.nil Z.heap.size
  have K0 : Keep h0 h0 [] := Keep.refl _ _
  refine own_start (Q := Q_own_size Z a n h0) (ef_own_size m (a)) ?_
  show own_G p e below (s₁.setTop (mkF m 0 #[.val (.ref a)] [])) _
  refine own_go (fun t k => XS.aloadN X0.here hx rfl (hb hby d_jdk_38_method_8_code_0) rfl rfl k) ?_
  obtain ⟨T1z, X1z, e1z, st1z⟩ := getF X0 hx hZ hown (host := "") (Or.inl (own_hw hw 60 rfl)) Via.refl e0 q0 (g := (mkF m 1 #[.val (.ref a)] [(.ref a)])) rfl rfl (hb hby d_jdk_38_method_8_code_1)
  refine own_go st1z ?_
  exact own_ret X1z hx Bd.returns rfl (Or.inl ⟨rfl, Or.inl rfl, _, rfl⟩) (hb hby d_jdk_38_method_8_code_4) hlk (Nat.le_of_ble_eq_true rfl) (Nat.le_of_ble_eq_true rfl) (by show Q_own_size Z a n h0 _ T1z.heap _; rw [e1z]; exact ⟨rfl, N0, rfl⟩)
theorem ef_own_pci (m : MethodId) (x0 : Int32) (x1 : Int32) : entryFrame m #[(.int x0), (.int x1), .null] 3 = mkF m 0 #[.val (.int x0), .val (.int x1), .val .null] [] := by first | (simp [entryFrame, mkF, argsToLocals, Value.category]; done) | rfl
theorem pf_own_pci : plainFor own_m10 = true := plainFor_of_name (by simp [plainName, overriddenIn])
theorem d_jdk_41_method_11_code_0 : decode jdk_41_method_11_code 0 = .ok (.iload_n 0, 1) := by decide +kernel
theorem d_jdk_41_method_11_code_1 : decode jdk_41_method_11_code 1 = .ok (.ifCond .lt 8, 3) := by decide +kernel
theorem d_jdk_41_method_11_code_16 : decode jdk_41_method_11_code 16 = .ok (.iload_n 0, 1) := by decide +kernel
theorem d_jdk_41_method_11_code_17 : decode jdk_41_method_11_code 17 = .ok (.ireturn, 1) := by decide +kernel
theorem d_jdk_41_method_11_code_4 : decode jdk_41_method_11_code 4 = .ok (.iload_n 0, 1) := by decide +kernel
theorem d_jdk_41_method_11_code_5 : decode jdk_41_method_11_code 5 = .ok (.iload_n 1, 1) := by decide +kernel
theorem d_jdk_41_method_11_code_6 : decode jdk_41_method_11_code 6 = .ok (.if_icmp .lt 10, 3) := by decide +kernel
def Q_own_pci (Z : State) (j : Int32) (n : Int32) (h0 : Heap) (v : Option Value) (h : Heap) (L : List Loc) : Prop := v = some (.int j) ∧ Fr Z.heap.size L ∧ h = h0
set_option maxRecDepth 65536 in
set_option maxHeartbeats 40000000 in
theorem own_pci (l : Launch) (Z : State) (a0 : Array Value) (hw : ∀ d ∈ tables_1, d.before a0 Z = true) (ws : List Jvm.Cond) (j : Int32) (n : Int32) (h0 : Heap) (O0 : Ext Z.heap h0) (h1 : ¬ (j < (0 : Int32))) (h2 : j < n) :
    MetFree l own_m10 (head1 (Jvm.Cond.code own_m10 jdk_41_method_11_code 3 (some .int) :: ws) ({ frames := 0, cells := 0, slots := 0, locals := 0 } : Room)) (fun aa U => aa = #[(.int j), (.int n), .null] ∧ Z.Warmed39 U.vm ∧ U.heap = h0) (fun _ _ _ _ _ => True) (fun _ U o U' => ∃ v L, o = .returned v ∧ Q_own_pci Z j n h0 v U'.heap L ∧ FrameEnd U o U' L ({ frames := 0, cells := 0, slots := 0, locals := 0 } : Room).cells ({ frames := 0, cells := 0, slots := 0, locals := 0 } : Room).slots) := by
  refine MetFree.of_bodySF pf_own_pci hisR ?_
  intro p e s m args below meth c s₁ Bd hml0 hP hK
  obtain ⟨rfl, hZ, hh⟩ := hP
  have hx := Bd.exec
  have hby := Bd.bytes
  have hlk := BodyLoose.notSynchronized Bd
  have hml : c.maxLocals = 3 := hml0
  have hown : s.vm.findClass "jdk/internal/util/Preconditions" = some m.cls := findClass_of_methodNamed Bd.named
  have hnm := (name_of_methodNamed Bd.named Bd.method).1
  have X0 : Stand p l e ({ frames := 0, cells := 0, slots := 0, locals := 0 } : Room) s m #[(.int j), (.int n), .null] below meth c s₁ [] 0 0 := Stand.of_body Bd
  have e0 : s₁.heap = h0 := by rw [← hh, Bd.state]; rfl
  have N0 := Fr.nil Z.heap.size
  have K0 : Keep h0 h0 [] := Keep.refl _ _
  refine own_start (Q := Q_own_pci Z j n h0) (ef_own_pci m (j) (n)) ?_
  show own_G p e below (s₁.setTop (mkF m 0 #[.val (.int j), .val (.int n), .val .null] [])) _
  refine own_go (fun t k => XS.iloadN X0.here hx rfl (hb hby d_jdk_41_method_11_code_0) rfl k) ?_
  refine own_go (fun t k => XS.ifNo X0.here hx rfl (hb hby d_jdk_41_method_11_code_1) rfl ((if0 _ _).trans (flt h1).1) k) ?_
  show own_G p e below (s₁.setTop (mkF m 4 #[.val (.int j), .val (.int n), .val .null] [])) _
  refine own_go (fun t k => XS.iloadN X0.here hx rfl (hb hby d_jdk_41_method_11_code_4) rfl k) ?_
  refine own_go (fun t k => XS.iloadN X0.here hx rfl (hb hby d_jdk_41_method_11_code_5) rfl k) ?_
  refine own_go (fun t k => XS.icmpYes X0.here hx rfl (pc0 := 6) (pc' := 16) rfl (hb hby d_jdk_41_method_11_code_6) rfl (tlt h2).1 (by decide) (by decide) k) ?_
  show own_G p e below (s₁.setTop (mkF m 16 #[.val (.int j), .val (.int n), .val .null] [])) _
  refine own_go (fun t k => XS.iloadN X0.here hx rfl (hb hby d_jdk_41_method_11_code_16) rfl k) ?_
  exact own_ret X0 hx Bd.returns rfl (Or.inl ⟨rfl, Or.inl rfl, _, rfl⟩) (hb hby d_jdk_41_method_11_code_17) hlk (Nat.le_of_ble_eq_true rfl) (Nat.le_of_ble_eq_true rfl) (by show Q_own_pci Z j n h0 _ s₁.heap _; rw [e0]; exact ⟨rfl, N0, rfl⟩)
theorem ef_own_oci (m : MethodId) (x0 : Int32) (x1 : Int32) : entryFrame m #[(.int x0), (.int x1)] 2 = mkF m 0 #[.val (.int x0), .val (.int x1)] [] := by first | (simp [entryFrame, mkF, argsToLocals, Value.category]; done) | rfl
theorem pf_own_oci : plainFor own_m11 = true := plainFor_of_name (by simp [plainName, overriddenIn])
theorem pd_1725485788 : parseMethodDescriptor "(IILjava/util/function/BiFunction;)I" = some ⟨[.int, .int, (.object "java/util/function/BiFunction")], some .int⟩ := by decide +kernel
theorem d_jdk_31_method_17_code_0 : decode jdk_31_method_17_code 0 = .ok (.iload_n 0, 1) := by decide +kernel
theorem d_jdk_31_method_17_code_1 : decode jdk_31_method_17_code 1 = .ok (.iload_n 1, 1) := by decide +kernel
theorem d_jdk_31_method_17_code_2 : decode jdk_31_method_17_code 2 = .ok (.aconst_null, 1) := by decide +kernel
theorem d_jdk_31_method_17_code_3 : decode jdk_31_method_17_code 3 = .ok (.invokestatic 105, 3) := by decide +kernel
theorem d_jdk_31_method_17_code_6 : decode jdk_31_method_17_code 6 = .ok (.ireturn, 1) := by decide +kernel
def Q_own_oci (Z : State) (j : Int32) (n : Int32) (h0 : Heap) (v : Option Value) (h : Heap) (L : List Loc) : Prop := v = some (.int j) ∧ Fr Z.heap.size L ∧ h = h0
set_option maxRecDepth 65536 in
set_option maxHeartbeats 40000000 in
theorem own_oci (l : Launch) (Z : State) (a0 : Array Value) (hw : ∀ d ∈ tables_1, d.before a0 Z = true) (ws : List Jvm.Cond) (j : Int32) (n : Int32) (h0 : Heap) (O0 : Ext Z.heap h0) (h1 : ¬ (j < (0 : Int32))) (h2 : j < n) :
    MetFree l own_m11 (head1 (Jvm.Cond.code own_m11 jdk_31_method_17_code 2 (some .int) :: ws) ({ frames := 1, cells := 0, slots := 0, locals := 14 } : Room)) (fun aa U => aa = #[(.int j), (.int n)] ∧ Z.Warmed39 U.vm ∧ U.heap = h0) (fun _ _ _ _ _ => True) (fun _ U o U' => ∃ v L, o = .returned v ∧ Q_own_oci Z j n h0 v U'.heap L ∧ FrameEnd U o U' L ({ frames := 1, cells := 0, slots := 0, locals := 14 } : Room).cells ({ frames := 1, cells := 0, slots := 0, locals := 14 } : Room).slots) := by
  refine MetFree.of_bodySF pf_own_oci hisR ?_
  intro p e s m args below meth c s₁ Bd hml0 hP hK
  obtain ⟨rfl, hZ, hh⟩ := hP
  have hx := Bd.exec
  have hby := Bd.bytes
  have hlk := BodyLoose.notSynchronized Bd
  have hml : c.maxLocals = 2 := hml0
  have hown : s.vm.findClass "java/util/Objects" = some m.cls := findClass_of_methodNamed Bd.named
  have hnm := (name_of_methodNamed Bd.named Bd.method).1
  have X0 : Stand p l e ({ frames := 1, cells := 0, slots := 0, locals := 14 } : Room) s m #[(.int j), (.int n)] below meth c s₁ [] 0 0 := Stand.of_body Bd
  have e0 : s₁.heap = h0 := by rw [← hh, Bd.state]; rfl
  have N0 := Fr.nil Z.heap.size
  have K0 : Keep h0 h0 [] := Keep.refl _ _
  refine own_start (Q := Q_own_oci Z j n h0) (ef_own_oci m (j) (n)) ?_
  show own_G p e below (s₁.setTop (mkF m 0 #[.val (.int j), .val (.int n)] [])) _
  refine own_go (fun t k => XS.iloadN X0.here hx rfl (hb hby d_jdk_31_method_17_code_0) rfl k) ?_
  refine own_go (fun t k => XS.iloadN X0.here hx rfl (hb hby d_jdk_31_method_17_code_1) rfl k) ?_
  refine own_go (fun t k => XS.aconstNull X0.here hx rfl (hb hby d_jdk_31_method_17_code_2) k) ?_
  obtain ⟨_, _, ⟨T1z, L1z, k1z, n1z⟩, -, X1z, ⟨Lc1z, hQ1z, l1z, y1z, z1z⟩, st1z⟩ := Jvm.LawKit.callS X0 hx (y := own_m10) hown (mvT hZ (own_hw hw 171 rfl)) (mvT hZ (own_hw hw 172 rfl)) (mvT hZ (own_hw hw 173 rfl)) (mvT hZ (own_hw hw 174 rfl)) (by decide) (backOf (W := 0) (own_pci l Z a0 hw [] j n h0 O0 h1 h2) hZ (own_hw hw 174 rfl) (own_hw hw 173 rfl) (by decide) (by decide)) (g := (mkF m 3 #[.val (.int j), .val (.int n)] [.null, (.int n), (.int j)])) rfl (by rw [hml]; rfl) (argsL := [(.int j), (.int n), .null]) (rest := []) (lenOf pd_1725485788 rfl) rfl (by show 2 * 0 + _ ≤ _; exact Nat.le_of_eq rfl) (hb hby d_jdk_31_method_17_code_3) (fun _ _ => ⟨rfl, e0, (by decide : 0 + 0 ≤ _), (by decide : 0 + 0 ≤ _)⟩)
  dsimp only [Pt.U, Pt.locs, Pt.cells, Pt.slots] at X1z l1z y1z z1z st1z hQ1z
  subst l1z y1z z1z
  obtain ⟨rfl, NQ1z, K1zq⟩ := hQ1z
  refine own_go st1z ?_
  have N1z := Fr.app N0 NQ1z
  show own_G p e below (T1z.setTop (mkF m 6 #[.val (.int j), .val (.int n)] [(.int j)])) _
  exact own_ret X1z hx Bd.returns rfl (Or.inl ⟨rfl, Or.inl rfl, _, rfl⟩) (hb hby d_jdk_31_method_17_code_6) hlk (Nat.le_of_ble_eq_true rfl) (Nat.le_of_ble_eq_true rfl) (by show Q_own_oci Z j n h0 _ T1z.heap _; rw [K1zq]; exact ⟨rfl, N1z, rfl⟩)
theorem ef_own_ed (m : MethodId) (x0 : Addr) (x1 : Int32) : entryFrame m #[(.ref x0), (.int x1)] 2 = mkF m 0 #[.val (.ref x0), .val (.int x1)] [] := by first | (simp [entryFrame, mkF, argsToLocals, Value.category]; done) | rfl
theorem pf_own_ed : plainFor own_m12 = true := plainFor_of_name (by simp [plainName, overriddenIn])
theorem d_jdk_38_method_18_code_0 : decode jdk_38_method_18_code 0 = .ok (.aload_n 0, 1) := by decide +kernel
theorem d_jdk_38_method_18_code_1 : decode jdk_38_method_18_code 1 = .ok (.getfield 9, 3) := by decide +kernel
theorem d_jdk_38_method_18_code_4 : decode jdk_38_method_18_code 4 = .ok (.iload_n 1, 1) := by decide +kernel
theorem d_jdk_38_method_18_code_5 : decode jdk_38_method_18_code 5 = .ok (.aaload, 1) := by decide +kernel
theorem d_jdk_38_method_18_code_6 : decode jdk_38_method_18_code 6 = .ok (.areturn, 1) := by decide +kernel
def Q_own_ed (Z : State) (a : Addr) (j : Int32) (arr : Addr) (kk : ClassId) (vs : (List Value)) (i : Nat) (y : Addr) (h0 : Heap) (v : Option Value) (h : Heap) (L : List Loc) : Prop := v = some (.ref y) ∧ Fr Z.heap.size L ∧ h = h0
set_option maxRecDepth 65536 in
set_option maxHeartbeats 40000000 in
theorem own_ed (l : Launch) (Z : State) (a0 : Array Value) (hw : ∀ d ∈ tables_1, d.before a0 Z = true) (ws : List Jvm.Cond) (a : Addr) (j : Int32) (arr : Addr) (kk : ClassId) (vs : (List Value)) (i : Nat) (y : Addr) (h0 : Heap) (O0 : Ext Z.heap h0) (q0 : Exa Z h0 a "java/util/ArrayList") (q1 : Fld Z h0 a "java/util/ArrayList" "elementData" "[Ljava/lang/Object;" (.ref arr)) (q2 : own_A Z h0 arr kk (.object "java/lang/Object") vs) (hj : j.toInt = (i : Int)) (hv : vs[i]? = some (.ref y)) :
    MetFree l own_m12 (head1 (Jvm.Cond.code own_m12 jdk_38_method_18_code 2 (some (.object "java/lang/Object")) :: ws) ({ frames := 0, cells := 0, slots := 0, locals := 0 } : Room)) (fun aa U => aa = #[(.ref a), (.int j)] ∧ Z.Warmed39 U.vm ∧ U.heap = h0) (fun _ _ _ _ _ => True) (fun _ U o U' => ∃ v L, o = .returned v ∧ Q_own_ed Z a j arr kk vs i y h0 v U'.heap L ∧ FrameEnd U o U' L ({ frames := 0, cells := 0, slots := 0, locals := 0 } : Room).cells ({ frames := 0, cells := 0, slots := 0, locals := 0 } : Room).slots) := by
  refine MetFree.of_bodySF pf_own_ed hisR ?_
  intro p e s m args below meth c s₁ Bd hml0 hP hK
  obtain ⟨rfl, hZ, hh⟩ := hP
  have hx := Bd.exec
  have hby := Bd.bytes
  have hlk := BodyLoose.notSynchronized Bd
  have hml : c.maxLocals = 2 := hml0
  have hown : s.vm.findClass "java/util/ArrayList" = some m.cls := findClass_of_methodNamed Bd.named
  have hnm := (name_of_methodNamed Bd.named Bd.method).1
  have X0 : Stand p l e ({ frames := 0, cells := 0, slots := 0, locals := 0 } : Room) s m #[(.ref a), (.int j)] below meth c s₁ [] 0 0 := Stand.of_body Bd
  have e0 : s₁.heap = h0 := by rw [← hh, Bd.state]; rfl
  have N0 := Fr.nil Z.heap.size
  have K0 : Keep h0 h0 [] := Keep.refl _ _
  refine own_start (Q := Q_own_ed Z a j arr kk vs i y h0) (ef_own_ed m (a) (j)) ?_
  show own_G p e below (s₁.setTop (mkF m 0 #[.val (.ref a), .val (.int j)] [])) _
  refine own_go (fun t k => XS.aloadN X0.here hx rfl (hb hby d_jdk_38_method_18_code_0) rfl rfl k) ?_
  obtain ⟨T1z, X1z, e1z, st1z⟩ := getF X0 hx hZ hown (host := "") (Or.inl (own_hw hw 32 rfl)) Via.refl e0 q1 (g := (mkF m 1 #[.val (.ref a), .val (.int j)] [(.ref a)])) rfl rfl (hb hby d_jdk_38_method_18_code_1)
  refine own_go st1z ?_
  refine own_go (fun t k => XS.iloadN X1z.here hx rfl (hb hby d_jdk_38_method_18_code_4) rfl k) ?_
  refine own_go (own_ldA X1z hx hZ e1z q2 rfl (i := i) (v := (.ref y)) hj hv (g := (mkF m 5 #[.val (.ref a), .val (.int j)] [(.int j), (.ref arr)])) rfl rfl (hb hby d_jdk_38_method_18_code_5)) ?_
  show own_G p e below (T1z.setTop (mkF m 6 #[.val (.ref a), .val (.int j)] [(.ref y)])) _
  exact own_ret X1z hx Bd.returns rfl (Or.inr (Or.inr (Or.inr (Or.inr ⟨rfl, rfl, rfl⟩)))) (hb hby d_jdk_38_method_18_code_6) hlk (Nat.le_of_ble_eq_true rfl) (Nat.le_of_ble_eq_true rfl) (by show Q_own_ed Z a j arr kk vs i y h0 _ T1z.heap _; rw [e1z]; exact ⟨rfl, N0, rfl⟩)
theorem ef_own_get (m : MethodId) (x0 : Addr) (x1 : Int32) : entryFrame m #[(.ref x0), (.int x1)] 2 = mkF m 0 #[.val (.ref x0), .val (.int x1)] [] := by first | (simp [entryFrame, mkF, argsToLocals, Value.category]; done) | rfl
theorem pf_own_get : plainFor own_m13 = true := plainFor_of_name (by simp [plainName, overriddenIn])
theorem pd_3495176479 : parseMethodDescriptor "(I)Ljava/lang/Object;" = some ⟨[.int], some (.object "java/lang/Object")⟩ := by decide +kernel
theorem d_jdk_38_method_20_code_0 : decode jdk_38_method_20_code 0 = .ok (.iload_n 1, 1) := by decide +kernel
theorem d_jdk_38_method_20_code_1 : decode jdk_38_method_20_code 1 = .ok (.aload_n 0, 1) := by decide +kernel
theorem d_jdk_38_method_20_code_10 : decode jdk_38_method_20_code 10 = .ok (.iload_n 1, 1) := by decide +kernel
theorem d_jdk_38_method_20_code_11 : decode jdk_38_method_20_code 11 = .ok (.invokevirtual 123, 3) := by decide +kernel
theorem d_jdk_38_method_20_code_14 : decode jdk_38_method_20_code 14 = .ok (.areturn, 1) := by decide +kernel
theorem d_jdk_38_method_20_code_2 : decode jdk_38_method_20_code 2 = .ok (.getfield 48, 3) := by decide +kernel
theorem d_jdk_38_method_20_code_5 : decode jdk_38_method_20_code 5 = .ok (.invokestatic 118, 3) := by decide +kernel
theorem d_jdk_38_method_20_code_8 : decode jdk_38_method_20_code 8 = .ok (.pop, 1) := by decide +kernel
theorem d_jdk_38_method_20_code_9 : decode jdk_38_method_20_code 9 = .ok (.aload_n 0, 1) := by decide +kernel
def Q_own_get (Z : State) (a : Addr) (j : Int32) (arr : Addr) (kk : ClassId) (vs : (List Value)) (i : Nat) (y : Addr) (n : Int32) (h0 : Heap) (v : Option Value) (h : Heap) (L : List Loc) : Prop := v = some (.ref y) ∧ Fr Z.heap.size L ∧ h = h0
set_option maxRecDepth 65536 in
set_option maxHeartbeats 40000000 in
theorem own_get (l : Launch) (Z : State) (a0 : Array Value) (hw : ∀ d ∈ tables_1, d.before a0 Z = true) (ws : List Jvm.Cond) (a : Addr) (j : Int32) (arr : Addr) (kk : ClassId) (vs : (List Value)) (i : Nat) (y : Addr) (n : Int32) (h0 : Heap) (O0 : Ext Z.heap h0) (q0 : Exa Z h0 a "java/util/ArrayList") (q1 : Fld Z h0 a "java/util/ArrayList" "elementData" "[Ljava/lang/Object;" (.ref arr)) (q2 : own_A Z h0 arr kk (.object "java/lang/Object") vs) (hj : j.toInt = (i : Int)) (hv : vs[i]? = some (.ref y)) (q5 : Fld Z h0 a "java/util/ArrayList" "size" "I" (.int n)) (h1 : ¬ (j < (0 : Int32))) (h2 : j < n) :
    MetFree l own_m13 (head1 (Jvm.Cond.code own_m13 jdk_38_method_20_code 2 (some (.object "java/lang/Object")) :: ws) ({ frames := 2, cells := 0, slots := 0, locals := 30 } : Room)) (fun aa U => aa = #[(.ref a), (.int j)] ∧ Z.Warmed39 U.vm ∧ U.heap = h0) (fun _ _ _ _ _ => True) (fun _ U o U' => ∃ v L, o = .returned v ∧ Q_own_get Z a j arr kk vs i y n h0 v U'.heap L ∧ FrameEnd U o U' L ({ frames := 2, cells := 0, slots := 0, locals := 30 } : Room).cells ({ frames := 2, cells := 0, slots := 0, locals := 30 } : Room).slots) := by
  refine MetFree.of_bodySF pf_own_get hisR ?_
  intro p e s m args below meth c s₁ Bd hml0 hP hK
  obtain ⟨rfl, hZ, hh⟩ := hP
  have hx := Bd.exec
  have hby := Bd.bytes
  have hlk := BodyLoose.notSynchronized Bd
  have hml : c.maxLocals = 2 := hml0
  have hown : s.vm.findClass "java/util/ArrayList" = some m.cls := findClass_of_methodNamed Bd.named
  have hnm := (name_of_methodNamed Bd.named Bd.method).1
  have X0 : Stand p l e ({ frames := 2, cells := 0, slots := 0, locals := 30 } : Room) s m #[(.ref a), (.int j)] below meth c s₁ [] 0 0 := Stand.of_body Bd
  have e0 : s₁.heap = h0 := by rw [← hh, Bd.state]; rfl
  have N0 := Fr.nil Z.heap.size
  have K0 : Keep h0 h0 [] := Keep.refl _ _
  refine own_start (Q := Q_own_get Z a j arr kk vs i y n h0) (ef_own_get m (a) (j)) ?_
  show own_G p e below (s₁.setTop (mkF m 0 #[.val (.ref a), .val (.int j)] [])) _
  refine own_go (fun t k => XS.iloadN X0.here hx rfl (hb hby d_jdk_38_method_20_code_0) rfl k) ?_
  refine own_go (fun t k => XS.aloadN X0.here hx rfl (hb hby d_jdk_38_method_20_code_1) rfl rfl k) ?_
  obtain ⟨T1z, X1z, e1z, st1z⟩ := getF X0 hx hZ hown (host := "") (Or.inl (own_hw hw 60 rfl)) Via.refl e0 q5 (g := (mkF m 2 #[.val (.ref a), .val (.int j)] [(.ref a), (.int j)])) rfl rfl (hb hby d_jdk_38_method_20_code_2)
  refine own_go st1z ?_
  obtain ⟨_, _, ⟨T2z, L2z, k2z, n2z⟩, -, X2z, ⟨Lc2z, hQ2z, l2z, y2z, z2z⟩, st2z⟩ := Jvm.LawKit.callS X1z hx (y := own_m11) hown (mvT hZ (own_hw hw 168 rfl)) (mvT hZ (own_hw hw 169 rfl)) (mvT hZ (own_hw hw 48 rfl)) (mvT hZ (own_hw hw 170 rfl)) (by decide) (backOf (W := 0) (own_oci l Z a0 hw [] j n h0 O0 h1 h2) hZ (own_hw hw 170 rfl) (own_hw hw 48 rfl) (by decide) (by decide)) (g := (mkF m 5 #[.val (.ref a), .val (.int j)] [(.int n), (.int j)])) rfl (by rw [hml]; rfl) (argsL := [(.int j), (.int n)]) (rest := []) (lenOf pd_184293393 rfl) rfl (by show 2 * 0 + _ ≤ _; exact Nat.le_of_eq rfl) (hb hby d_jdk_38_method_20_code_5) (fun _ _ => ⟨rfl, e1z, (by decide : 0 + 0 ≤ _), (by decide : 0 + 0 ≤ _)⟩)
  dsimp only [Pt.U, Pt.locs, Pt.cells, Pt.slots] at X2z l2z y2z z2z st2z hQ2z
  subst l2z y2z z2z
  obtain ⟨rfl, NQ2z, K2zq⟩ := hQ2z
  refine own_go st2z ?_
  have N2z := Fr.app N0 NQ2z
  show own_G p e below (T2z.setTop (mkF m 8 #[.val (.ref a), .val (.int j)] [(.int j)])) _
  refine own_go (fun t k => XS.pop X2z.here hx rfl (hb hby d_jdk_38_method_20_code_8) rfl rfl k) ?_
  refine own_go (fun t k => XS.aloadN X2z.here hx rfl (hb hby d_jdk_38_method_20_code_9) rfl rfl k) ?_
  refine own_go (fun t k => XS.iloadN X2z.here hx rfl (hb hby d_jdk_38_method_20_code_10) rfl k) ?_
  obtain ⟨cq3z, kq3z, qa3z, qb3z, qc3z⟩ := isOf hZ K2zq q0
  obtain ⟨_, _, ⟨T3z, L3z, k3z, n3z⟩, -, X3z, ⟨Lc3z, hQ3z, l3z, y3z, z3z⟩, st3z⟩ := X2z.virtualBack hx (y := own_m12) (z := own_m12) hown (mvT hZ (own_hw hw 175 rfl)) (mvT hZ (own_hw hw 176 rfl)) (notFace_of_selects (args := #[]) (mvT hZ (own_hw hw 178 rfl))) (mvT hZ (own_hw hw 178 rfl)) (mvT hZ (own_hw hw 177 rfl)) (by decide) (backOf (W := 0) (own_ed l Z a0 hw [] a j arr kk vs i y h0 O0 q0 q1 q2 hj hv) hZ (own_hw hw 179 rfl) (own_hw hw 10 rfl) (by decide) (by decide)) qa3z qc3z (g := (mkF m 11 #[.val (.ref a), .val (.int j)] [(.int j), (.ref a)])) rfl (by rw [hml]; rfl) (Steps.refl _) (argsL := [(.int j)]) (rest := []) (lenOf pd_3495176479 rfl) rfl (by show 2 * 0 + _ ≤ _; exact Nat.le_of_eq rfl) (hb hby d_jdk_38_method_20_code_11) (fun _ _ => ⟨rfl, K2zq, (by decide : 0 + 0 ≤ _), (by decide : 0 + 0 ≤ _)⟩)
  dsimp only [Pt.U, Pt.locs, Pt.cells, Pt.slots] at X3z l3z y3z z3z st3z hQ3z
  subst l3z y3z z3z
  obtain ⟨rfl, NQ3z, K3zq⟩ := hQ3z
  refine own_tr st3z ?_
  have N3z := Fr.app N2z NQ3z
  show own_G p e below (T3z.setTop (mkF m 14 #[.val (.ref a), .val (.int j)] [(.ref y)])) _
  exact own_ret X3z hx Bd.returns rfl (Or.inr (Or.inr (Or.inr (Or.inr ⟨rfl, rfl, rfl⟩)))) (hb hby d_jdk_38_method_20_code_14) hlk (Nat.le_of_ble_eq_true rfl) (Nat.le_of_ble_eq_true rfl) (by show Q_own_get Z a j arr kk vs i y n h0 _ T3z.heap _; rw [K3zq]; exact ⟨rfl, N3z, rfl⟩)
theorem ef_own_iti (m : MethodId) (x0 : Addr) (x1 : Addr) : entryFrame m #[(.ref x0), (.ref x1)] 2 = mkF m 0 #[.val (.ref x0), .val (.ref x1)] [] := by first | (simp [entryFrame, mkF, argsToLocals, Value.category]; done) | rfl
theorem pf_own_iti : plainFor own_m14 = true := plainFor_of_name (by simp [plainName, overriddenIn])
theorem d_jdk_49_method_1_code_0 : decode jdk_49_method_1_code 0 = .ok (.aload_n 0, 1) := by decide +kernel
theorem d_jdk_49_method_1_code_1 : decode jdk_49_method_1_code 1 = .ok (.aload_n 1, 1) := by decide +kernel
theorem d_jdk_49_method_1_code_10 : decode jdk_49_method_1_code 10 = .ok (.iconst (-1), 1) := by decide +kernel
theorem d_jdk_49_method_1_code_11 : decode jdk_49_method_1_code 11 = .ok (.putfield 13, 3) := by decide +kernel
theorem d_jdk_49_method_1_code_14 : decode jdk_49_method_1_code 14 = .ok (.aload_n 0, 1) := by decide +kernel
theorem d_jdk_49_method_1_code_15 : decode jdk_49_method_1_code 15 = .ok (.aload_n 0, 1) := by decide +kernel
theorem d_jdk_49_method_1_code_16 : decode jdk_49_method_1_code 16 = .ok (.getfield 1, 3) := by decide +kernel
theorem d_jdk_49_method_1_code_19 : decode jdk_49_method_1_code 19 = .ok (.getfield 17, 3) := by decide +kernel
theorem d_jdk_49_method_1_code_2 : decode jdk_49_method_1_code 2 = .ok (.putfield 1, 3) := by decide +kernel
theorem d_jdk_49_method_1_code_22 : decode jdk_49_method_1_code 22 = .ok (.putfield 22, 3) := by decide +kernel
theorem d_jdk_49_method_1_code_25 : decode jdk_49_method_1_code 25 = .ok (.return_, 1) := by decide +kernel
theorem d_jdk_49_method_1_code_5 : decode jdk_49_method_1_code 5 = .ok (.aload_n 0, 1) := by decide +kernel
theorem d_jdk_49_method_1_code_6 : decode jdk_49_method_1_code 6 = .ok (.invokespecial 7, 3) := by decide +kernel
theorem d_jdk_49_method_1_code_9 : decode jdk_49_method_1_code 9 = .ok (.aload_n 0, 1) := by decide +kernel
def Q_own_iti (Z : State) (b : Addr) (a : Addr) (mc : Int32) (h0 : Heap) (v : Option Value) (h : Heap) (L : List Loc) : Prop := v = none ∧ Fr Z.heap.size L ∧ Keep h0 h [b] ∧ (Exa Z h b "java/util/ArrayList$Itr") ∧ (Fld Z h b "java/util/ArrayList$Itr" "this$0" "Ljava/util/ArrayList;" (.ref a)) ∧ (Fld Z h b "java/util/ArrayList$Itr" "cursor" "I" (.int (0 : Int32))) ∧ (Fld Z h b "java/util/ArrayList$Itr" "lastRet" "I" (.int (-1 : Int32))) ∧ (Fld Z h b "java/util/ArrayList$Itr" "expectedModCount" "I" (.int mc))
set_option maxRecDepth 65536 in
set_option maxHeartbeats 40000000 in
theorem own_iti (l : Launch) (Z : State) (a0 : Array Value) (hw : ∀ d ∈ tables_1, d.before a0 Z = true) (ws : List Jvm.Cond) (b : Addr) (a : Addr) (mc : Int32) (h0 : Heap) (O0 : Ext Z.heap h0) (q0 : Exa Z h0 b "java/util/ArrayList$Itr") (q1 : Z.heap.size ≤ b) (q2 : Fld Z h0 a "java/util/AbstractList" "modCount" "I" (.int mc)) (neab : a ≠ b) (q4 : Fld Z h0 b "java/util/ArrayList$Itr" "this$0" "Ljava/util/ArrayList;" .null) (q5 : Fld Z h0 b "java/util/ArrayList$Itr" "cursor" "I" (.int (0 : Int32))) (q6 : Fld Z h0 b "java/util/ArrayList$Itr" "lastRet" "I" (.int (0 : Int32))) (q7 : Fld Z h0 b "java/util/ArrayList$Itr" "expectedModCount" "I" (.int (0 : Int32))) :
    MetFree l own_m14 (head1 (Jvm.Cond.code own_m14 jdk_49_method_1_code 2 none :: ws) ({ frames := 1, cells := 0, slots := 0, locals := 12 } : Room)) (fun aa U => aa = #[(.ref b), (.ref a)] ∧ Z.Warmed39 U.vm ∧ U.heap = h0) (fun _ _ _ _ _ => True) (fun _ U o U' => ∃ v L, o = .returned v ∧ Q_own_iti Z b a mc h0 v U'.heap L ∧ FrameEnd U o U' L ({ frames := 1, cells := 0, slots := 0, locals := 12 } : Room).cells ({ frames := 1, cells := 0, slots := 0, locals := 12 } : Room).slots) := by
  refine MetFree.of_bodySF pf_own_iti hisR ?_
  intro p e s m args below meth c s₁ Bd hml0 hP hK
  obtain ⟨rfl, hZ, hh⟩ := hP
  have hx := Bd.exec
  have hby := Bd.bytes
  have hlk := BodyLoose.notSynchronized Bd
  have hml : c.maxLocals = 2 := hml0
  have hown : s.vm.findClass "java/util/ArrayList$Itr" = some m.cls := findClass_of_methodNamed Bd.named
  have hnm := (name_of_methodNamed Bd.named Bd.method).1
  have X0 : Stand p l e ({ frames := 1, cells := 0, slots := 0, locals := 12 } : Room) s m #[(.ref b), (.ref a)] below meth c s₁ [] 0 0 := Stand.of_body Bd
  have e0 : s₁.heap = h0 := by rw [← hh, Bd.state]; rfl
  have N0 := Fr.nil Z.heap.size
  have K0 : Keep h0 h0 [b] := Keep.refl _ _
  refine own_start (Q := Q_own_iti Z b a mc h0) (ef_own_iti m (b) (a)) ?_
  show own_G p e below (s₁.setTop (mkF m 0 #[.val (.ref b), .val (.ref a)] [])) _
  refine own_go (fun t k => XS.aloadN X0.here hx rfl (hb hby d_jdk_49_method_1_code_0) rfl rfl k) ?_
  refine own_go (fun t k => XS.aloadN X0.here hx rfl (hb hby d_jdk_49_method_1_code_1) rfl rfl k) ?_
  obtain ⟨T1z, h1z, X1z, e1z, W1z, st1z⟩ := putF X0 hx hZ hown (host := "") (Or.inl (own_hw hw 81 rfl)) Via.refl e0 q4 q0 (Or.inr ⟨(own_hw hw 82 rfl), rfl, hnm⟩) (own_hw hw 75 rfl) (ty := (.object "java/util/ArrayList")) (by decide) rfl rfl (g := (mkF m 2 #[.val (.ref b), .val (.ref a)] [(.ref a), (.ref b)])) rfl rfl (hb hby d_jdk_49_method_1_code_2)
  refine own_go st1z ?_
  have N1z := Fr.snoc X1z N0 q1
  have F1z : Fld Z h1z b "java/util/ArrayList$Itr" "this$0" "Ljava/util/ArrayList;" (.ref a) := q4.same W1z
  have O2z : Ext Z.heap h1z := own_ext_wr O0 W1z q1
  have K2z : Keep h0 h1z [b] := K0.wr W1z (Or.inl (List.mem_of_getElem? (i := 0) rfl))
  refine own_go (fun t k => XS.aloadN X1z.here hx rfl (hb hby d_jdk_49_method_1_code_5) rfl rfl k) ?_
  show own_G p e below (T1z.setTop (mkF m 6 #[.val (.ref b), .val (.ref a)] [(.ref b)])) _
  obtain ⟨T3z, X3z, e3z, st3z⟩ := initO X1z hx hZ hown (own_hw hw 83 rfl) (own_hw hw 27 rfl) (own_hw hw 28 rfl) e1z (g := (mkF m 6 #[.val (.ref b), .val (.ref a)] [(.ref b)])) rfl (by rw [hml]; rfl) rfl (hb hby d_jdk_49_method_1_code_6) (by decide) (W := 0) (by show 2 * 0 + _ ≤ _; exact Nat.le_of_eq rfl) (by decide)
  refine own_go st3z ?_
  show own_G p e below (T3z.setTop (mkF m 9 #[.val (.ref b), .val (.ref a)] [])) _
  refine own_go (fun t k => XS.aloadN X3z.here hx rfl (hb hby d_jdk_49_method_1_code_9) rfl rfl k) ?_
  refine own_go (fun t k => XS.iconst X3z.here hx rfl (hb hby d_jdk_49_method_1_code_10) k) ?_
  have f4z := (q6.other W1z (Or.inr (slot_ne (Or.inl (own_hw hw 85 rfl)) (Or.inr (own_hw hw 82 rfl)) (by decide) (t := .int) (t' := (.object "java/util/ArrayList")) (by decide) (by decide))))
  obtain ⟨T5z, h5z, X5z, e5z, W5z, st5z⟩ := putF X3z hx hZ hown (host := "") (Or.inl (own_hw hw 84 rfl)) Via.refl e3z f4z (q0.wr W1z) (Or.inl (own_hw hw 85 rfl)) (own_hw hw 75 rfl) (ty := .int) (by decide) rfl rfl (g := (mkF m 11 #[.val (.ref b), .val (.ref a)] [(.int (-1 : Int32)), (.ref b)])) rfl rfl (hb hby d_jdk_49_method_1_code_11)
  refine own_go st5z ?_
  have N5z := Fr.snoc X5z N1z q1
  have F5z : Fld Z h5z b "java/util/ArrayList$Itr" "lastRet" "I" (.int (-1 : Int32)) := f4z.same W5z
  have O6z : Ext Z.heap h5z := own_ext_wr O2z W5z q1
  have K6z : Keep h0 h5z [b] := K2z.wr W5z (Or.inl (List.mem_of_getElem? (i := 0) rfl))
  refine own_go (fun t k => XS.aloadN X5z.here hx rfl (hb hby d_jdk_49_method_1_code_14) rfl rfl k) ?_
  show own_G p e below (T5z.setTop (mkF m 15 #[.val (.ref b), .val (.ref a)] [(.ref b)])) _
  refine own_go (fun t k => XS.aloadN X5z.here hx rfl (hb hby d_jdk_49_method_1_code_15) rfl rfl k) ?_
  have f7z := (F1z.other W5z (Or.inr (slot_ne (Or.inr (own_hw hw 82 rfl)) (Or.inl (own_hw hw 85 rfl)) (by decide) (t := (.object "java/util/ArrayList")) (t' := .int) (by decide) (by decide))))
  obtain ⟨T8z, X8z, e8z, st8z⟩ := getF X5z hx hZ hown (host := "") (Or.inl (own_hw hw 81 rfl)) Via.refl e5z f7z (g := (mkF m 16 #[.val (.ref b), .val (.ref a)] [(.ref b), (.ref b)])) rfl rfl (hb hby d_jdk_49_method_1_code_16)
  refine own_go st8z ?_
  obtain ⟨T9z, X9z, e9z, st9z⟩ := getF X8z hx hZ hown (host := "") (Or.inl (own_hw hw 86 rfl)) (Via.of (own_hw hw 87 rfl)) e8z ((q2.other W1z (Or.inl neab)).other W5z (Or.inl neab)) (g := (mkF m 19 #[.val (.ref b), .val (.ref a)] [(.ref a), (.ref b)])) rfl rfl (hb hby d_jdk_49_method_1_code_19)
  refine own_go st9z ?_
  have f10z := ((q7.other W1z (Or.inr (slot_ne (Or.inl (own_hw hw 89 rfl)) (Or.inr (own_hw hw 82 rfl)) (by decide) (t := .int) (t' := (.object "java/util/ArrayList")) (by decide) (by decide)))).other W5z (Or.inr (slot_ne (Or.inl (own_hw hw 89 rfl)) (Or.inl (own_hw hw 85 rfl)) (by decide) (t := .int) (t' := .int) (by decide) (by decide))))
  obtain ⟨T11z, h11z, X11z, e11z, W11z, st11z⟩ := putF X9z hx hZ hown (host := "") (Or.inl (own_hw hw 88 rfl)) Via.refl e9z f10z ((q0.wr W1z).wr W5z) (Or.inl (own_hw hw 89 rfl)) (own_hw hw 75 rfl) (ty := .int) (by decide) rfl rfl (g := (mkF m 22 #[.val (.ref b), .val (.ref a)] [(.int mc), (.ref b)])) rfl rfl (hb hby d_jdk_49_method_1_code_22)
  refine own_go st11z ?_
  have N11z := Fr.snoc X11z N5z q1
  have F11z : Fld Z h11z b "java/util/ArrayList$Itr" "expectedModCount" "I" (.int mc) := f10z.same W11z
  have O12z : Ext Z.heap h11z := own_ext_wr O6z W11z q1
  have K12z : Keep h0 h11z [b] := K6z.wr W11z (Or.inl (List.mem_of_getElem? (i := 0) rfl))
  show own_G p e below (T11z.setTop (mkF m 25 #[.val (.ref b), .val (.ref a)] [])) _
  have f13z := (f7z.other W11z (Or.inr (slot_ne (Or.inr (own_hw hw 82 rfl)) (Or.inl (own_hw hw 89 rfl)) (by decide) (t := (.object "java/util/ArrayList")) (t' := .int) (by decide) (by decide))))
  have f14z := (((q5.other W1z (Or.inr (slot_ne (Or.inl (own_hw hw 100 rfl)) (Or.inr (own_hw hw 82 rfl)) (by decide) (t := .int) (t' := (.object "java/util/ArrayList")) (by decide) (by decide)))).other W5z (Or.inr (slot_ne (Or.inl (own_hw hw 100 rfl)) (Or.inl (own_hw hw 85 rfl)) (by decide) (t := .int) (t' := .int) (by decide) (by decide)))).other W11z (Or.inr (slot_ne (Or.inl (own_hw hw 100 rfl)) (Or.inl (own_hw hw 89 rfl)) (by decide) (t := .int) (t' := .int) (by decide) (by decide))))
  have f15z := (F5z.other W11z (Or.inr (slot_ne (Or.inl (own_hw hw 85 rfl)) (Or.inl (own_hw hw 89 rfl)) (by decide) (t := .int) (t' := .int) (by decide) (by decide))))
  exact own_retV X11z hx Bd.returns (hb hby d_jdk_49_method_1_code_25) hlk (Nat.le_of_ble_eq_true rfl) (Nat.le_of_ble_eq_true rfl) (by show Q_own_iti Z b a mc h0 _ T11z.heap _; rw [e11z]; exact ⟨rfl, N11z, K12z, (((q0.wr W1z).wr W5z).wr W11z), f13z, f14z, f15z, F11z⟩)
theorem ef_own_itr (m : MethodId) (x0 : Addr) : entryFrame m #[(.ref x0)] 1 = mkF m 0 #[.val (.ref x0)] [] := by first | (simp [entryFrame, mkF, argsToLocals, Value.category]; done) | rfl
theorem pf_own_itr : plainFor own_m15 = true := plainFor_of_name (by simp [plainName, overriddenIn])
theorem pd_2532766572 : parseMethodDescriptor "(Ljava/util/ArrayList;)V" = some ⟨[(.object "java/util/ArrayList")], none⟩ := by decide +kernel
theorem d_jdk_38_method_55_code_0 : decode jdk_38_method_55_code 0 = .ok (.new 267, 3) := by decide +kernel
theorem d_jdk_38_method_55_code_3 : decode jdk_38_method_55_code 3 = .ok (.dup, 1) := by decide +kernel
theorem d_jdk_38_method_55_code_4 : decode jdk_38_method_55_code 4 = .ok (.aload_n 0, 1) := by decide +kernel
theorem d_jdk_38_method_55_code_5 : decode jdk_38_method_55_code 5 = .ok (.invokespecial 269, 3) := by decide +kernel
theorem d_jdk_38_method_55_code_8 : decode jdk_38_method_55_code 8 = .ok (.areturn, 1) := by decide +kernel
def Q_own_itr (Z : State) (a : Addr) (mc : Int32) (h0 : Heap) (v : Option Value) (h : Heap) (L : List Loc) : Prop := ∃ b : Addr, v = some (.ref b) ∧ Fr Z.heap.size L ∧ Keep h0 h [] ∧ (Exa Z h b "java/util/ArrayList$Itr") ∧ (Z.heap.size ≤ b) ∧ (h0.size ≤ b) ∧ (Fld Z h b "java/util/ArrayList$Itr" "this$0" "Ljava/util/ArrayList;" (.ref a)) ∧ (Fld Z h b "java/util/ArrayList$Itr" "cursor" "I" (.int (0 : Int32))) ∧ (Fld Z h b "java/util/ArrayList$Itr" "lastRet" "I" (.int (-1 : Int32))) ∧ (Fld Z h b "java/util/ArrayList$Itr" "expectedModCount" "I" (.int mc))
set_option maxRecDepth 65536 in
set_option maxHeartbeats 40000000 in
theorem own_itr (l : Launch) (Z : State) (a0 : Array Value) (hw : ∀ d ∈ tables_1, d.before a0 Z = true) (ws : List Jvm.Cond) (a : Addr) (mc : Int32) (h0 : Heap) (O0 : Ext Z.heap h0) (q0 : Fld Z h0 a "java/util/AbstractList" "modCount" "I" (.int mc)) :
    MetFree l own_m15 (head1 (Jvm.Cond.code own_m15 jdk_38_method_55_code 1 (some (.object "java/util/Iterator")) :: ws) ({ frames := 2, cells := 1, slots := 4, locals := 26 } : Room)) (fun aa U => aa = #[(.ref a)] ∧ Z.Warmed39 U.vm ∧ U.heap = h0) (fun _ _ _ _ _ => True) (fun _ U o U' => ∃ v L, o = .returned v ∧ Q_own_itr Z a mc h0 v U'.heap L ∧ FrameEnd U o U' L ({ frames := 2, cells := 1, slots := 4, locals := 26 } : Room).cells ({ frames := 2, cells := 1, slots := 4, locals := 26 } : Room).slots) := by
  refine MetFree.of_bodySF pf_own_itr hisR ?_
  intro p e s m args below meth c s₁ Bd hml0 hP hK
  obtain ⟨rfl, hZ, hh⟩ := hP
  have hx := Bd.exec
  have hby := Bd.bytes
  have hlk := BodyLoose.notSynchronized Bd
  have hml : c.maxLocals = 1 := hml0
  have hown : s.vm.findClass "java/util/ArrayList" = some m.cls := findClass_of_methodNamed Bd.named
  have hnm := (name_of_methodNamed Bd.named Bd.method).1
  have X0 : Stand p l e ({ frames := 2, cells := 1, slots := 4, locals := 26 } : Room) s m #[(.ref a)] below meth c s₁ [] 0 0 := Stand.of_body Bd
  have e0 : s₁.heap = h0 := by rw [← hh, Bd.state]; rfl
  have N0 := Fr.nil Z.heap.size
  have K0 : Keep h0 h0 [] := Keep.refl _ _
  refine own_start (Q := Q_own_itr Z a mc h0) (ef_own_itr m (a)) ?_
  show own_G p e below (s₁.setTop (mkF m 0 #[.val (.ref a)] [])) _
  obtain ⟨T1z, h1z, X1z, e1z, E1z, A1z, D1z, -, st1z⟩ := newO X0 hx hZ hown (own_hw hw 74 rfl) (own_hw hw 75 rfl) (own_hw hw 76 rfl) e0 (g := (mkF m 0 #[.val (.ref a)] [])) rfl (hb hby d_jdk_38_method_55_code_0) (by decide) (by decide)
  obtain ⟨b1z, g1z⟩ : ∃ z, z = h0.size := ⟨_, rfl⟩
  rw [← g1z] at A1z D1z st1z
  have fr_b1z : Z.heap.size ≤ b1z := g1z ▸ O0.1
  have lz_b1z : h0.size ≤ b1z := g1z ▸ K0.1
  have ne_a_b1z : a ≠ b1z := Nat.ne_of_lt (g1z ▸ q0.lt)
  have O2z : Ext Z.heap h1z := own_ext_trans O0 E1z
  have K2z : Keep h0 h1z [] := K0.ext E1z
  have F1z_this_0 : Fld Z h1z b1z "java/util/ArrayList$Itr" "this$0" "Ljava/util/ArrayList;" .null := D1z (Or.inr (own_hw hw 82 rfl)) (ty := (.object "java/util/ArrayList")) (by decide)
  have F1z_lastRet : Fld Z h1z b1z "java/util/ArrayList$Itr" "lastRet" "I" (.int (0 : Int32)) := D1z (Or.inl (own_hw hw 85 rfl)) (ty := .int) (by decide)
  have F1z_expectedModCount : Fld Z h1z b1z "java/util/ArrayList$Itr" "expectedModCount" "I" (.int (0 : Int32)) := D1z (Or.inl (own_hw hw 89 rfl)) (ty := .int) (by decide)
  have F1z_cursor : Fld Z h1z b1z "java/util/ArrayList$Itr" "cursor" "I" (.int (0 : Int32)) := D1z (Or.inl (own_hw hw 100 rfl)) (ty := .int) (by decide)
  refine own_go st1z ?_
  refine own_go (fun t k => XS.dup X1z.here hx rfl (hb hby d_jdk_38_method_55_code_3) rfl rfl k) ?_
  refine own_go (fun t k => XS.aloadN X1z.here hx rfl (hb hby d_jdk_38_method_55_code_4) rfl rfl k) ?_
  obtain ⟨_, _, ⟨T3z, L3z, k3z, n3z⟩, -, X3z, ⟨Lc3z, hQ3z, l3z, y3z, z3z⟩, st3z⟩ := X1z.specialBack hx (y := own_m14) rfl hown (mvT hZ (own_hw hw 77 rfl)) (mvT hZ (own_hw hw 78 rfl)) (mvT hZ (own_hw hw 80 rfl)) (by decide) (backOf (W := 1) (own_iti l Z a0 hw [] b1z a mc h1z O2z A1z fr_b1z (q0.ext E1z) ne_a_b1z F1z_this_0 F1z_cursor F1z_lastRet F1z_expectedModCount) hZ (own_hw hw 80 rfl) (own_hw hw 76 rfl) (by decide) (by decide)) (g := (mkF m 5 #[.val (.ref a)] [(.ref a), (.ref b1z), (.ref b1z)])) rfl (by rw [hml]; rfl) (Steps.refl _) (a := b1z) (argsL := [(.ref a)]) (rest := [(.ref b1z)]) (lenOf pd_2532766572 rfl) rfl (by show 2 * 0 + _ ≤ _; exact Nat.le_of_eq rfl) (hb hby d_jdk_38_method_55_code_5) (fun _ _ => ⟨rfl, e1z, (by decide : 1 + 0 ≤ _), (by decide : 4 + 0 ≤ _)⟩)
  dsimp only [Pt.U, Pt.locs, Pt.cells, Pt.slots] at X3z l3z y3z z3z st3z hQ3z
  subst l3z y3z z3z
  obtain ⟨rfl, NQ3z, K3zq, r3z_0, r3z_1, r3z_2, r3z_3, r3z_4⟩ := hQ3z
  refine own_tr st3z ?_
  have N3z := Fr.app N0 NQ3z
  have O4z : Ext Z.heap T3z.heap := own_ext_keep O2z K3zq (allS fr_b1z all0)
  have K4z : Keep h0 T3z.heap [] := K2z.trans K3zq (allS (Or.inr lz_b1z) all0)
  show own_G p e below (T3z.setTop (mkF m 8 #[.val (.ref a)] [(.ref b1z)])) _
  exact own_ret X3z hx Bd.returns rfl (Or.inr (Or.inr (Or.inr (Or.inr ⟨rfl, rfl, rfl⟩)))) (hb hby d_jdk_38_method_55_code_8) hlk (Nat.le_of_ble_eq_true rfl) (Nat.le_of_ble_eq_true rfl) (by show Q_own_itr Z a mc h0 _ T3z.heap _; exact ⟨b1z, rfl, N3z, K4z, r3z_0, fr_b1z, lz_b1z, r3z_1, r3z_2, r3z_3, r3z_4⟩)
theorem ef_own_hn1 (m : MethodId) (x0 : Addr) : entryFrame m #[(.ref x0)] 1 = mkF m 0 #[.val (.ref x0)] [] := by first | (simp [entryFrame, mkF, argsToLocals, Value.category]; done) | rfl
theorem pf_own_hn1 : plainFor own_m16 = true := plainFor_of_name (by simp [plainName, overriddenIn])
theorem d_jdk_49_method_2_code_0 : decode jdk_49_method_2_code 0 = .ok (.aload_n 0, 1) := by decide +kernel
theorem d_jdk_49_method_2_code_1 : decode jdk_49_method_2_code 1 = .ok (.getfield 25, 3) := by decide +kernel
theorem d_jdk_49_method_2_code_11 : decode jdk_49_method_2_code 11 = .ok (.if_icmp .eq 7, 3) := by decide +kernel
theorem d_jdk_49_method_2_code_14 : decode jdk_49_method_2_code 14 = .ok (.iconst 1, 1) := by decide +kernel
theorem d_jdk_49_method_2_code_15 : decode jdk_49_method_2_code 15 = .ok (.goto 4, 3) := by decide +kernel
theorem d_jdk_49_method_2_code_19 : decode jdk_49_method_2_code 19 = .ok (.ireturn, 1) := by decide +kernel
theorem d_jdk_49_method_2_code_4 : decode jdk_49_method_2_code 4 = .ok (.aload_n 0, 1) := by decide +kernel
theorem d_jdk_49_method_2_code_5 : decode jdk_49_method_2_code 5 = .ok (.getfield 1, 3) := by decide +kernel
theorem d_jdk_49_method_2_code_8 : decode jdk_49_method_2_code 8 = .ok (.getfield 28, 3) := by decide +kernel
def Q_own_hn1 (Z : State) (b : Addr) (a : Addr) (cu : Int32) (sz : Int32) (h0 : Heap) (v : Option Value) (h : Heap) (L : List Loc) : Prop := v = some (.int (1 : Int32)) ∧ Fr Z.heap.size L ∧ h = h0
set_option maxRecDepth 65536 in
set_option maxHeartbeats 40000000 in
theorem own_hn1 (l : Launch) (Z : State) (a0 : Array Value) (hw : ∀ d ∈ tables_1, d.before a0 Z = true) (ws : List Jvm.Cond) (b : Addr) (a : Addr) (cu : Int32) (sz : Int32) (h0 : Heap) (O0 : Ext Z.heap h0) (q0 : Fld Z h0 b "java/util/ArrayList$Itr" "this$0" "Ljava/util/ArrayList;" (.ref a)) (q1 : Fld Z h0 b "java/util/ArrayList$Itr" "cursor" "I" (.int cu)) (q2 : Fld Z h0 a "java/util/ArrayList" "size" "I" (.int sz)) (hc : ¬ (cu = sz)) :
    MetFree l own_m16 (head1 (Jvm.Cond.code own_m16 jdk_49_method_2_code 1 (some .boolean) :: ws) ({ frames := 0, cells := 0, slots := 0, locals := 0 } : Room)) (fun aa U => aa = #[(.ref b)] ∧ Z.Warmed39 U.vm ∧ U.heap = h0) (fun _ _ _ _ _ => True) (fun _ U o U' => ∃ v L, o = .returned v ∧ Q_own_hn1 Z b a cu sz h0 v U'.heap L ∧ FrameEnd U o U' L ({ frames := 0, cells := 0, slots := 0, locals := 0 } : Room).cells ({ frames := 0, cells := 0, slots := 0, locals := 0 } : Room).slots) := by
  refine MetFree.of_bodySF pf_own_hn1 hisR ?_
  intro p e s m args below meth c s₁ Bd hml0 hP hK
  obtain ⟨rfl, hZ, hh⟩ := hP
  have hx := Bd.exec
  have hby := Bd.bytes
  have hlk := BodyLoose.notSynchronized Bd
  have hml : c.maxLocals = 1 := hml0
  have hown : s.vm.findClass "java/util/ArrayList$Itr" = some m.cls := findClass_of_methodNamed Bd.named
  have hnm := (name_of_methodNamed Bd.named Bd.method).1
  have X0 : Stand p l e ({ frames := 0, cells := 0, slots := 0, locals := 0 } : Room) s m #[(.ref b)] below meth c s₁ [] 0 0 := Stand.of_body Bd
  have e0 : s₁.heap = h0 := by rw [← hh, Bd.state]; rfl
  have N0 := Fr.nil Z.heap.size
  have K0 : Keep h0 h0 [] := Keep.refl _ _
  refine own_start (Q := Q_own_hn1 Z b a cu sz h0) (ef_own_hn1 m (b)) ?_
  show own_G p e below (s₁.setTop (mkF m 0 #[.val (.ref b)] [])) _
  refine own_go (fun t k => XS.aloadN X0.here hx rfl (hb hby d_jdk_49_method_2_code_0) rfl rfl k) ?_
  obtain ⟨T1z, X1z, e1z, st1z⟩ := getF X0 hx hZ hown (host := "") (Or.inl (own_hw hw 99 rfl)) Via.refl e0 q1 (g := (mkF m 1 #[.val (.ref b)] [(.ref b)])) rfl rfl (hb hby d_jdk_49_method_2_code_1)
  refine own_go st1z ?_
  refine own_go (fun t k => XS.aloadN X1z.here hx rfl (hb hby d_jdk_49_method_2_code_4) rfl rfl k) ?_
  obtain ⟨T2z, X2z, e2z, st2z⟩ := getF X1z hx hZ hown (host := "") (Or.inl (own_hw hw 81 rfl)) Via.refl e1z q0 (g := (mkF m 5 #[.val (.ref b)] [(.ref b), (.int cu)])) rfl rfl (hb hby d_jdk_49_method_2_code_5)
  refine own_go st2z ?_
  show own_G p e below (T2z.setTop (mkF m 8 #[.val (.ref b)] [(.ref a), (.int cu)])) _
  obtain ⟨T3z, X3z, e3z, st3z⟩ := getF X2z hx hZ hown (Or.inr (own_hw hw 101 rfl)) Via.refl e2z q2 (g := (mkF m 8 #[.val (.ref b)] [(.ref a), (.int cu)])) rfl rfl (hb hby d_jdk_49_method_2_code_8)
  refine own_go st3z ?_
  refine own_go (fun t k => XS.icmpNo X3z.here hx rfl (hb hby d_jdk_49_method_2_code_11) rfl (feq hc).1 k) ?_
  show own_G p e below (T3z.setTop (mkF m 14 #[.val (.ref b)] [])) _
  refine own_go (fun t k => XS.iconst X3z.here hx rfl (hb hby d_jdk_49_method_2_code_14) k) ?_
  refine own_go (fun t k => XS.goto X3z.here hx rfl (pc0 := 15) (pc' := 19) rfl (hb hby d_jdk_49_method_2_code_15) (by decide) (by decide) k) ?_
  show own_G p e below (T3z.setTop (mkF m 19 #[.val (.ref b)] [(.int (1 : Int32))])) _
  exact own_ret X3z hx Bd.returns rfl (Or.inl ⟨rfl, Or.inr (Or.inl rfl), _, rfl⟩) (hb hby d_jdk_49_method_2_code_19) hlk (Nat.le_of_ble_eq_true rfl) (Nat.le_of_ble_eq_true rfl) (by show Q_own_hn1 Z b a cu sz h0 _ T3z.heap _; rw [e3z]; exact ⟨rfl, N0, rfl⟩)
theorem ef_own_hn0 (m : MethodId) (x0 : Addr) : entryFrame m #[(.ref x0)] 1 = mkF m 0 #[.val (.ref x0)] [] := by first | (simp [entryFrame, mkF, argsToLocals, Value.category]; done) | rfl
theorem pf_own_hn0 : plainFor own_m16 = true := plainFor_of_name (by simp [plainName, overriddenIn])
theorem d_jdk_49_method_2_code_18 : decode jdk_49_method_2_code 18 = .ok (.iconst 0, 1) := by decide +kernel
def Q_own_hn0 (Z : State) (b : Addr) (a : Addr) (cu : Int32) (sz : Int32) (h0 : Heap) (v : Option Value) (h : Heap) (L : List Loc) : Prop := v = some (.int (0 : Int32)) ∧ Fr Z.heap.size L ∧ h = h0
set_option maxRecDepth 65536 in
set_option maxHeartbeats 40000000 in
theorem own_hn0 (l : Launch) (Z : State) (a0 : Array Value) (hw : ∀ d ∈ tables_1, d.before a0 Z = true) (ws : List Jvm.Cond) (b : Addr) (a : Addr) (cu : Int32) (sz : Int32) (h0 : Heap) (O0 : Ext Z.heap h0) (q0 : Fld Z h0 b "java/util/ArrayList$Itr" "this$0" "Ljava/util/ArrayList;" (.ref a)) (q1 : Fld Z h0 b "java/util/ArrayList$Itr" "cursor" "I" (.int cu)) (q2 : Fld Z h0 a "java/util/ArrayList" "size" "I" (.int sz)) (hc : cu = sz) :
    MetFree l own_m16 (head1 (Jvm.Cond.code own_m16 jdk_49_method_2_code 1 (some .boolean) :: ws) ({ frames := 0, cells := 0, slots := 0, locals := 0 } : Room)) (fun aa U => aa = #[(.ref b)] ∧ Z.Warmed39 U.vm ∧ U.heap = h0) (fun _ _ _ _ _ => True) (fun _ U o U' => ∃ v L, o = .returned v ∧ Q_own_hn0 Z b a cu sz h0 v U'.heap L ∧ FrameEnd U o U' L ({ frames := 0, cells := 0, slots := 0, locals := 0 } : Room).cells ({ frames := 0, cells := 0, slots := 0, locals := 0 } : Room).slots) := by
  refine MetFree.of_bodySF pf_own_hn0 hisR ?_
  intro p e s m args below meth c s₁ Bd hml0 hP hK
  obtain ⟨rfl, hZ, hh⟩ := hP
  have hx := Bd.exec
  have hby := Bd.bytes
  have hlk := BodyLoose.notSynchronized Bd
  have hml : c.maxLocals = 1 := hml0
  have hown : s.vm.findClass "java/util/ArrayList$Itr" = some m.cls := findClass_of_methodNamed Bd.named
  have hnm := (name_of_methodNamed Bd.named Bd.method).1
  have X0 : Stand p l e ({ frames := 0, cells := 0, slots := 0, locals := 0 } : Room) s m #[(.ref b)] below meth c s₁ [] 0 0 := Stand.of_body Bd
  have e0 : s₁.heap = h0 := by rw [← hh, Bd.state]; rfl
  have N0 := Fr.nil Z.heap.size
  have K0 : Keep h0 h0 [] := Keep.refl _ _
  refine own_start (Q := Q_own_hn0 Z b a cu sz h0) (ef_own_hn0 m (b)) ?_
  show own_G p e below (s₁.setTop (mkF m 0 #[.val (.ref b)] [])) _
  refine own_go (fun t k => XS.aloadN X0.here hx rfl (hb hby d_jdk_49_method_2_code_0) rfl rfl k) ?_
  obtain ⟨T1z, X1z, e1z, st1z⟩ := getF X0 hx hZ hown (host := "") (Or.inl (own_hw hw 99 rfl)) Via.refl e0 q1 (g := (mkF m 1 #[.val (.ref b)] [(.ref b)])) rfl rfl (hb hby d_jdk_49_method_2_code_1)
  refine own_go st1z ?_
  refine own_go (fun t k => XS.aloadN X1z.here hx rfl (hb hby d_jdk_49_method_2_code_4) rfl rfl k) ?_
  obtain ⟨T2z, X2z, e2z, st2z⟩ := getF X1z hx hZ hown (host := "") (Or.inl (own_hw hw 81 rfl)) Via.refl e1z q0 (g := (mkF m 5 #[.val (.ref b)] [(.ref b), (.int cu)])) rfl rfl (hb hby d_jdk_49_method_2_code_5)
  refine own_go st2z ?_
  show own_G p e below (T2z.setTop (mkF m 8 #[.val (.ref b)] [(.ref a), (.int cu)])) _
  obtain ⟨T3z, X3z, e3z, st3z⟩ := getF X2z hx hZ hown (Or.inr (own_hw hw 101 rfl)) Via.refl e2z q2 (g := (mkF m 8 #[.val (.ref b)] [(.ref a), (.int cu)])) rfl rfl (hb hby d_jdk_49_method_2_code_8)
  refine own_go st3z ?_
  refine own_go (fun t k => XS.icmpYes X3z.here hx rfl (pc0 := 11) (pc' := 18) rfl (hb hby d_jdk_49_method_2_code_11) rfl (teq hc).1 (by decide) (by decide) k) ?_
  show own_G p e below (T3z.setTop (mkF m 18 #[.val (.ref b)] [])) _
  refine own_go (fun t k => XS.iconst X3z.here hx rfl (hb hby d_jdk_49_method_2_code_18) k) ?_
  exact own_ret X3z hx Bd.returns rfl (Or.inl ⟨rfl, Or.inr (Or.inl rfl), _, rfl⟩) (hb hby d_jdk_49_method_2_code_19) hlk (Nat.le_of_ble_eq_true rfl) (Nat.le_of_ble_eq_true rfl) (by show Q_own_hn0 Z b a cu sz h0 _ T3z.heap _; rw [e3z]; exact ⟨rfl, N0, rfl⟩)
theorem ef_own_cfc (m : MethodId) (x0 : Addr) : entryFrame m #[(.ref x0)] 1 = mkF m 0 #[.val (.ref x0)] [] := by first | (simp [entryFrame, mkF, argsToLocals, Value.category]; done) | rfl
theorem pf_own_cfc : plainFor own_m17 = true := plainFor_of_name (by simp [plainName, overriddenIn])
theorem d_jdk_49_method_6_code_0 : decode jdk_49_method_6_code 0 = .ok (.aload_n 0, 1) := by decide +kernel
theorem d_jdk_49_method_6_code_1 : decode jdk_49_method_6_code 1 = .ok (.getfield 1, 3) := by decide +kernel
theorem d_jdk_49_method_6_code_11 : decode jdk_49_method_6_code 11 = .ok (.if_icmp .eq 11, 3) := by decide +kernel
theorem d_jdk_49_method_6_code_22 : decode jdk_49_method_6_code 22 = .ok (.return_, 1) := by decide +kernel
theorem d_jdk_49_method_6_code_4 : decode jdk_49_method_6_code 4 = .ok (.getfield 17, 3) := by decide +kernel
theorem d_jdk_49_method_6_code_7 : decode jdk_49_method_6_code 7 = .ok (.aload_n 0, 1) := by decide +kernel
theorem d_jdk_49_method_6_code_8 : decode jdk_49_method_6_code 8 = .ok (.getfield 22, 3) := by decide +kernel
def Q_own_cfc (Z : State) (b : Addr) (a : Addr) (mc : Int32) (h0 : Heap) (v : Option Value) (h : Heap) (L : List Loc) : Prop := v = none ∧ Fr Z.heap.size L ∧ h = h0
set_option maxRecDepth 65536 in
set_option maxHeartbeats 40000000 in
theorem own_cfc (l : Launch) (Z : State) (a0 : Array Value) (hw : ∀ d ∈ tables_1, d.before a0 Z = true) (ws : List Jvm.Cond) (b : Addr) (a : Addr) (mc : Int32) (h0 : Heap) (O0 : Ext Z.heap h0) (q0 : Fld Z h0 b "java/util/ArrayList$Itr" "this$0" "Ljava/util/ArrayList;" (.ref a)) (q1 : Fld Z h0 b "java/util/ArrayList$Itr" "expectedModCount" "I" (.int mc)) (q2 : Fld Z h0 a "java/util/AbstractList" "modCount" "I" (.int mc)) :
    MetFree l own_m17 (head1 (Jvm.Cond.code own_m17 jdk_49_method_6_code 1 none :: ws) ({ frames := 0, cells := 0, slots := 0, locals := 0 } : Room)) (fun aa U => aa = #[(.ref b)] ∧ Z.Warmed39 U.vm ∧ U.heap = h0) (fun _ _ _ _ _ => True) (fun _ U o U' => ∃ v L, o = .returned v ∧ Q_own_cfc Z b a mc h0 v U'.heap L ∧ FrameEnd U o U' L ({ frames := 0, cells := 0, slots := 0, locals := 0 } : Room).cells ({ frames := 0, cells := 0, slots := 0, locals := 0 } : Room).slots) := by
  refine MetFree.of_bodySF pf_own_cfc hisR ?_
  intro p e s m args below meth c s₁ Bd hml0 hP hK
  obtain ⟨rfl, hZ, hh⟩ := hP
  have hx := Bd.exec
  have hby := Bd.bytes
  have hlk := BodyLoose.notSynchronized Bd
  have hml : c.maxLocals = 1 := hml0
  have hown : s.vm.findClass "java/util/ArrayList$Itr" = some m.cls := findClass_of_methodNamed Bd.named
  have hnm := (name_of_methodNamed Bd.named Bd.method).1
  have X0 : Stand p l e ({ frames := 0, cells := 0, slots := 0, locals := 0 } : Room) s m #[(.ref b)] below meth c s₁ [] 0 0 := Stand.of_body Bd
  have e0 : s₁.heap = h0 := by rw [← hh, Bd.state]; rfl
  have N0 := Fr.nil Z.heap.size
  have K0 : Keep h0 h0 [] := Keep.refl _ _
  refine own_start (Q := Q_own_cfc Z b a mc h0) (ef_own_cfc m (b)) ?_
  show own_G p e below (s₁.setTop (mkF m 0 #[.val (.ref b)] [])) _
  refine own_go (fun t k => XS.aloadN X0.here hx rfl (hb hby d_jdk_49_method_6_code_0) rfl rfl k) ?_
  obtain ⟨T1z, X1z, e1z, st1z⟩ := getF X0 hx hZ hown (host := "") (Or.inl (own_hw hw 81 rfl)) Via.refl e0 q0 (g := (mkF m 1 #[.val (.ref b)] [(.ref b)])) rfl rfl (hb hby d_jdk_49_method_6_code_1)
  refine own_go st1z ?_
  obtain ⟨T2z, X2z, e2z, st2z⟩ := getF X1z hx hZ hown (host := "") (Or.inl (own_hw hw 86 rfl)) (Via.of (own_hw hw 87 rfl)) e1z q2 (g := (mkF m 4 #[.val (.ref b)] [(.ref a)])) rfl rfl (hb hby d_jdk_49_method_6_code_4)
  refine own_go st2z ?_
  refine own_go (fun t k => XS.aloadN X2z.here hx rfl (hb hby d_jdk_49_method_6_code_7) rfl rfl k) ?_
  show own_G p e below (T2z.setTop (mkF m 8 #[.val (.ref b)] [(.ref b), (.int mc)])) _
  obtain ⟨T3z, X3z, e3z, st3z⟩ := getF X2z hx hZ hown (host := "") (Or.inl (own_hw hw 88 rfl)) Via.refl e2z q1 (g := (mkF m 8 #[.val (.ref b)] [(.ref b), (.int mc)])) rfl rfl (hb hby d_jdk_49_method_6_code_8)
  refine own_go st3z ?_
  refine own_go (fun t k => XS.icmpYes X3z.here hx rfl (pc0 := 11) (pc' := 22) rfl (hb hby d_jdk_49_method_6_code_11) rfl (teq rfl).1 (by decide) (by decide) k) ?_
  show own_G p e below (T3z.setTop (mkF m 22 #[.val (.ref b)] [])) _
  exact own_retV X3z hx Bd.returns (hb hby d_jdk_49_method_6_code_22) hlk (Nat.le_of_ble_eq_true rfl) (Nat.le_of_ble_eq_true rfl) (by show Q_own_cfc Z b a mc h0 _ T3z.heap _; rw [e3z]; exact ⟨rfl, N0, rfl⟩)
theorem ef_own_next (m : MethodId) (x0 : Addr) : entryFrame m #[(.ref x0)] 3 = mkF m 0 #[.val (.ref x0), .unset, .unset] [] := by first | (simp [entryFrame, mkF, argsToLocals, Value.category]; done) | rfl
theorem pf_own_next : plainFor own_m18 = true := plainFor_of_name (by simp [plainName, overriddenIn])
theorem d_jdk_49_method_3_code_0 : decode jdk_49_method_3_code 0 = .ok (.aload_n 0, 1) := by decide +kernel
theorem d_jdk_49_method_3_code_1 : decode jdk_49_method_3_code 1 = .ok (.invokevirtual 31, 3) := by decide +kernel
theorem d_jdk_49_method_3_code_10 : decode jdk_49_method_3_code 10 = .ok (.aload_n 0, 1) := by decide +kernel
theorem d_jdk_49_method_3_code_11 : decode jdk_49_method_3_code 11 = .ok (.getfield 1, 3) := by decide +kernel
theorem d_jdk_49_method_3_code_14 : decode jdk_49_method_3_code 14 = .ok (.getfield 28, 3) := by decide +kernel
theorem d_jdk_49_method_3_code_17 : decode jdk_49_method_3_code 17 = .ok (.if_icmp .lt 11, 3) := by decide +kernel
theorem d_jdk_49_method_3_code_28 : decode jdk_49_method_3_code 28 = .ok (.aload_n 0, 1) := by decide +kernel
theorem d_jdk_49_method_3_code_29 : decode jdk_49_method_3_code 29 = .ok (.getfield 1, 3) := by decide +kernel
theorem d_jdk_49_method_3_code_32 : decode jdk_49_method_3_code 32 = .ok (.getfield 37, 3) := by decide +kernel
theorem d_jdk_49_method_3_code_35 : decode jdk_49_method_3_code 35 = .ok (.astore_n 2, 1) := by decide +kernel
theorem d_jdk_49_method_3_code_36 : decode jdk_49_method_3_code 36 = .ok (.iload_n 1, 1) := by decide +kernel
theorem d_jdk_49_method_3_code_37 : decode jdk_49_method_3_code 37 = .ok (.aload_n 2, 1) := by decide +kernel
theorem d_jdk_49_method_3_code_38 : decode jdk_49_method_3_code 38 = .ok (.arraylength, 1) := by decide +kernel
theorem d_jdk_49_method_3_code_39 : decode jdk_49_method_3_code 39 = .ok (.if_icmp .lt 11, 3) := by decide +kernel
theorem d_jdk_49_method_3_code_4 : decode jdk_49_method_3_code 4 = .ok (.aload_n 0, 1) := by decide +kernel
theorem d_jdk_49_method_3_code_5 : decode jdk_49_method_3_code 5 = .ok (.getfield 25, 3) := by decide +kernel
theorem d_jdk_49_method_3_code_50 : decode jdk_49_method_3_code 50 = .ok (.aload_n 0, 1) := by decide +kernel
theorem d_jdk_49_method_3_code_51 : decode jdk_49_method_3_code 51 = .ok (.iload_n 1, 1) := by decide +kernel
theorem d_jdk_49_method_3_code_52 : decode jdk_49_method_3_code 52 = .ok (.iconst 1, 1) := by decide +kernel
theorem d_jdk_49_method_3_code_53 : decode jdk_49_method_3_code 53 = .ok (.iadd, 1) := by decide +kernel
theorem d_jdk_49_method_3_code_54 : decode jdk_49_method_3_code 54 = .ok (.putfield 25, 3) := by decide +kernel
theorem d_jdk_49_method_3_code_57 : decode jdk_49_method_3_code 57 = .ok (.aload_n 2, 1) := by decide +kernel
theorem d_jdk_49_method_3_code_58 : decode jdk_49_method_3_code 58 = .ok (.aload_n 0, 1) := by decide +kernel
theorem d_jdk_49_method_3_code_59 : decode jdk_49_method_3_code 59 = .ok (.iload_n 1, 1) := by decide +kernel
theorem d_jdk_49_method_3_code_60 : decode jdk_49_method_3_code 60 = .ok (.dup_x1, 1) := by decide +kernel
theorem d_jdk_49_method_3_code_61 : decode jdk_49_method_3_code 61 = .ok (.putfield 13, 3) := by decide +kernel
theorem d_jdk_49_method_3_code_64 : decode jdk_49_method_3_code 64 = .ok (.aaload, 1) := by decide +kernel
theorem d_jdk_49_method_3_code_65 : decode jdk_49_method_3_code 65 = .ok (.areturn, 1) := by decide +kernel
theorem d_jdk_49_method_3_code_8 : decode jdk_49_method_3_code 8 = .ok (.istore_n 1, 1) := by decide +kernel
theorem d_jdk_49_method_3_code_9 : decode jdk_49_method_3_code 9 = .ok (.iload_n 1, 1) := by decide +kernel
def Q_own_next (Z : State) (b : Addr) (a : Addr) (mc : Int32) (cu : Int32) (lr : Int32) (sz : Int32) (arr : Addr) (kk : ClassId) (vs : (List Value)) (i : Nat) (y : Addr) (zl : Int32) (h0 : Heap) (v : Option Value) (h : Heap) (L : List Loc) : Prop := v = some (.ref y) ∧ Fr Z.heap.size L ∧ Keep h0 h [b] ∧ (Exa Z h b "java/util/ArrayList$Itr") ∧ (Fld Z h b "java/util/ArrayList$Itr" "this$0" "Ljava/util/ArrayList;" (.ref a)) ∧ (Fld Z h b "java/util/ArrayList$Itr" "cursor" "I" (.int (cu + (1 : Int32)))) ∧ (Fld Z h b "java/util/ArrayList$Itr" "lastRet" "I" (.int cu)) ∧ (Fld Z h b "java/util/ArrayList$Itr" "expectedModCount" "I" (.int mc))
set_option maxRecDepth 65536 in
set_option maxHeartbeats 40000000 in
theorem own_next (l : Launch) (Z : State) (a0 : Array Value) (hw : ∀ d ∈ tables_1, d.before a0 Z = true) (ws : List Jvm.Cond) (b : Addr) (a : Addr) (mc : Int32) (cu : Int32) (lr : Int32) (sz : Int32) (arr : Addr) (kk : ClassId) (vs : (List Value)) (i : Nat) (y : Addr) (zl : Int32) (h0 : Heap) (O0 : Ext Z.heap h0) (q0 : Exa Z h0 b "java/util/ArrayList$Itr") (q1 : Z.heap.size ≤ b) (q2 : Fld Z h0 b "java/util/ArrayList$Itr" "this$0" "Ljava/util/ArrayList;" (.ref a)) (q3 : Fld Z h0 b "java/util/ArrayList$Itr" "cursor" "I" (.int cu)) (q4 : Fld Z h0 b "java/util/ArrayList$Itr" "lastRet" "I" (.int lr)) (q5 : Fld Z h0 b "java/util/ArrayList$Itr" "expectedModCount" "I" (.int mc)) (q6 : Fld Z h0 a "java/util/AbstractList" "modCount" "I" (.int mc)) (q7 : Fld Z h0 a "java/util/ArrayList" "size" "I" (.int sz)) (q8 : Fld Z h0 a "java/util/ArrayList" "elementData" "[Ljava/lang/Object;" (.ref arr)) (q9 : own_A Z h0 arr kk (.object "java/lang/Object") vs) (hj : cu.toInt = (i : Int)) (hv : vs[i]? = some (.ref y)) (h2 : cu < sz) (hzl : zl.toInt = (vs.length : Int)) (h3 : cu < zl) (neab : a ≠ b) (nevb : arr ≠ b) :
    MetFree l own_m18 (head1 (Jvm.Cond.code own_m18 jdk_49_method_3_code 3 (some (.object "java/lang/Object")) :: ws) ({ frames := 1, cells := 0, slots := 0, locals := 12 } : Room)) (fun aa U => aa = #[(.ref b)] ∧ Z.Warmed39 U.vm ∧ U.heap = h0) (fun _ _ _ _ _ => True) (fun _ U o U' => ∃ v L, o = .returned v ∧ Q_own_next Z b a mc cu lr sz arr kk vs i y zl h0 v U'.heap L ∧ FrameEnd U o U' L ({ frames := 1, cells := 0, slots := 0, locals := 12 } : Room).cells ({ frames := 1, cells := 0, slots := 0, locals := 12 } : Room).slots) := by
  refine MetFree.of_bodySF pf_own_next hisR ?_
  intro p e s m args below meth c s₁ Bd hml0 hP hK
  obtain ⟨rfl, hZ, hh⟩ := hP
  have hx := Bd.exec
  have hby := Bd.bytes
  have hlk := BodyLoose.notSynchronized Bd
  have hml : c.maxLocals = 3 := hml0
  have hown : s.vm.findClass "java/util/ArrayList$Itr" = some m.cls := findClass_of_methodNamed Bd.named
  have hnm := (name_of_methodNamed Bd.named Bd.method).1
  have X0 : Stand p l e ({ frames := 1, cells := 0, slots := 0, locals := 12 } : Room) s m #[(.ref b)] below meth c s₁ [] 0 0 := Stand.of_body Bd
  have e0 : s₁.heap = h0 := by rw [← hh, Bd.state]; rfl
  have N0 := Fr.nil Z.heap.size
  have K0 : Keep h0 h0 [b] := Keep.refl _ _
  refine own_start (Q := Q_own_next Z b a mc cu lr sz arr kk vs i y zl h0) (ef_own_next m (b)) ?_
  show own_G p e below (s₁.setTop (mkF m 0 #[.val (.ref b), .unset, .unset] [])) _
  refine own_go (fun t k => XS.aloadN X0.here hx rfl (hb hby d_jdk_49_method_3_code_0) rfl rfl k) ?_
  obtain ⟨cq1z, kq1z, qa1z, qb1z, qc1z⟩ := isOf hZ e0 q0
  obtain ⟨_, _, ⟨T1z, L1z, k1z, n1z⟩, -, X1z, ⟨Lc1z, hQ1z, l1z, y1z, z1z⟩, st1z⟩ := X0.virtualBack hx (y := own_m17) (z := own_m17) hown (mvT hZ (own_hw hw 147 rfl)) (mvT hZ (own_hw hw 148 rfl)) (notFace_of_selects (args := #[]) (mvT hZ (own_hw hw 150 rfl))) (mvT hZ (own_hw hw 150 rfl)) (mvT hZ (own_hw hw 149 rfl)) (by decide) (backOf (W := 0) (own_cfc l Z a0 hw [] b a mc h0 O0 q2 q5 q6) hZ (own_hw hw 151 rfl) (own_hw hw 76 rfl) (by decide) (by decide)) qa1z qc1z (g := (mkF m 1 #[.val (.ref b), .unset, .unset] [(.ref b)])) rfl (by rw [hml]; rfl) (Steps.refl _) (argsL := []) (rest := []) (lenOf pd_193421996 rfl) rfl (by show 2 * 0 + _ ≤ _; exact Nat.le_of_eq rfl) (hb hby d_jdk_49_method_3_code_1) (fun _ _ => ⟨rfl, e0, (by decide : 0 + 0 ≤ _), (by decide : 0 + 0 ≤ _)⟩)
  dsimp only [Pt.U, Pt.locs, Pt.cells, Pt.slots] at X1z l1z y1z z1z st1z hQ1z
  subst l1z y1z z1z
  obtain ⟨rfl, NQ1z, K1zq⟩ := hQ1z
  refine own_tr st1z ?_
  have N1z := Fr.app N0 NQ1z
  show own_G p e below (T1z.setTop (mkF m 4 #[.val (.ref b), .unset, .unset] [])) _
  refine own_go (fun t k => XS.aloadN X1z.here hx rfl (hb hby d_jdk_49_method_3_code_4) rfl rfl k) ?_
  obtain ⟨T2z, X2z, e2z, st2z⟩ := getF X1z hx hZ hown (host := "") (Or.inl (own_hw hw 99 rfl)) Via.refl K1zq q3 (g := (mkF m 5 #[.val (.ref b), .unset, .unset] [(.ref b)])) rfl rfl (hb hby d_jdk_49_method_3_code_5)
  refine own_go st2z ?_
  refine own_go (fun t k => XS.istoreN X2z.here hx rfl (hb hby d_jdk_49_method_3_code_8) rfl (l' := #[.val (.ref b), .val (.int cu), .unset]) rfl k) ?_
  refine own_go (fun t k => XS.iloadN X2z.here hx rfl (hb hby d_jdk_49_method_3_code_9) rfl k) ?_
  show own_G p e below (T2z.setTop (mkF m 10 #[.val (.ref b), .val (.int cu), .unset] [(.int cu)])) _
  refine own_go (fun t k => XS.aloadN X2z.here hx rfl (hb hby d_jdk_49_method_3_code_10) rfl rfl k) ?_
  obtain ⟨T3z, X3z, e3z, st3z⟩ := getF X2z hx hZ hown (host := "") (Or.inl (own_hw hw 81 rfl)) Via.refl e2z q2 (g := (mkF m 11 #[.val (.ref b), .val (.int cu), .unset] [(.ref b), (.int cu)])) rfl rfl (hb hby d_jdk_49_method_3_code_11)
  refine own_go st3z ?_
  obtain ⟨T4z, X4z, e4z, st4z⟩ := getF X3z hx hZ hown (Or.inr (own_hw hw 101 rfl)) Via.refl e3z q7 (g := (mkF m 14 #[.val (.ref b), .val (.int cu), .unset] [(.ref a), (.int cu)])) rfl rfl (hb hby d_jdk_49_method_3_code_14)
  refine own_go st4z ?_
  refine own_go (fun t k => XS.icmpYes X4z.here hx rfl (pc0 := 17) (pc' := 28) rfl (hb hby d_jdk_49_method_3_code_17) rfl (tlt h2).1 (by decide) (by decide) k) ?_
  show own_G p e below (T4z.setTop (mkF m 28 #[.val (.ref b), .val (.int cu), .unset] [])) _
  refine own_go (fun t k => XS.aloadN X4z.here hx rfl (hb hby d_jdk_49_method_3_code_28) rfl rfl k) ?_
  obtain ⟨T5z, X5z, e5z, st5z⟩ := getF X4z hx hZ hown (host := "") (Or.inl (own_hw hw 81 rfl)) Via.refl e4z q2 (g := (mkF m 29 #[.val (.ref b), .val (.int cu), .unset] [(.ref b)])) rfl rfl (hb hby d_jdk_49_method_3_code_29)
  refine own_go st5z ?_
  obtain ⟨T6z, X6z, e6z, st6z⟩ := getF X5z hx hZ hown (host := "") (Or.inl (own_hw hw 152 rfl)) Via.refl e5z q8 (g := (mkF m 32 #[.val (.ref b), .val (.int cu), .unset] [(.ref a)])) rfl rfl (hb hby d_jdk_49_method_3_code_32)
  refine own_go st6z ?_
  refine own_go (fun t k => XS.astoreN X6z.here hx rfl (hb hby d_jdk_49_method_3_code_35) rfl rfl (l' := #[.val (.ref b), .val (.int cu), .val (.ref arr)]) rfl k) ?_
  show own_G p e below (T6z.setTop (mkF m 36 #[.val (.ref b), .val (.int cu), .val (.ref arr)] [])) _
  refine own_go (fun t k => XS.iloadN X6z.here hx rfl (hb hby d_jdk_49_method_3_code_36) rfl k) ?_
  refine own_go (fun t k => XS.aloadN X6z.here hx rfl (hb hby d_jdk_49_method_3_code_37) rfl rfl k) ?_
  refine own_go (own_len X6z hx hZ e6z q9 (z := zl) hzl (g := (mkF m 38 #[.val (.ref b), .val (.int cu), .val (.ref arr)] [(.ref arr), (.int cu)])) rfl rfl (hb hby d_jdk_49_method_3_code_38)) ?_
  refine own_go (fun t k => XS.icmpYes X6z.here hx rfl (pc0 := 39) (pc' := 50) rfl (hb hby d_jdk_49_method_3_code_39) rfl (tlt h3).1 (by decide) (by decide) k) ?_
  show own_G p e below (T6z.setTop (mkF m 50 #[.val (.ref b), .val (.int cu), .val (.ref arr)] [])) _
  refine own_go (fun t k => XS.aloadN X6z.here hx rfl (hb hby d_jdk_49_method_3_code_50) rfl rfl k) ?_
  refine own_go (fun t k => XS.iloadN X6z.here hx rfl (hb hby d_jdk_49_method_3_code_51) rfl k) ?_
  refine own_go (fun t k => XS.iconst X6z.here hx rfl (hb hby d_jdk_49_method_3_code_52) k) ?_
  refine own_go (fun t k => XS.iadd X6z.here hx rfl (hb hby d_jdk_49_method_3_code_53) rfl k) ?_
  show own_G p e below (T6z.setTop (mkF m 54 #[.val (.ref b), .val (.int cu), .val (.ref arr)] [(.int (cu + (1 : Int32))), (.ref b)])) _
  obtain ⟨T7z, h7z, X7z, e7z, W7z, st7z⟩ := putF X6z hx hZ hown (host := "") (Or.inl (own_hw hw 99 rfl)) Via.refl e6z q3 q0 (Or.inl (own_hw hw 100 rfl)) (own_hw hw 75 rfl) (ty := .int) (by decide) rfl rfl (g := (mkF m 54 #[.val (.ref b), .val (.int cu), .val (.ref arr)] [(.int (cu + (1 : Int32))), (.ref b)])) rfl rfl (hb hby d_jdk_49_method_3_code_54)
  refine own_go st7z ?_
  have N7z := Fr.snoc X7z N1z q1
  have F7z : Fld Z h7z b "java/util/ArrayList$Itr" "cursor" "I" (.int (cu + (1 : Int32))) := q3.same W7z
  have O8z : Ext Z.heap h7z := own_ext_wr O0 W7z q1
  have K8z : Keep h0 h7z [b] := K0.wr W7z (Or.inl (List.mem_of_getElem? (i := 0) rfl))
  refine own_go (fun t k => XS.aloadN X7z.here hx rfl (hb hby d_jdk_49_method_3_code_57) rfl rfl k) ?_
  refine own_go (fun t k => XS.aloadN X7z.here hx rfl (hb hby d_jdk_49_method_3_code_58) rfl rfl k) ?_
  refine own_go (fun t k => XS.iloadN X7z.here hx rfl (hb hby d_jdk_49_method_3_code_59) rfl k) ?_
  show own_G p e below (T7z.setTop (mkF m 60 #[.val (.ref b), .val (.int cu), .val (.ref arr)] [(.int cu), (.ref b), (.ref arr)])) _
  refine own_go (fun t k => XS.dupX1 X7z.here hx rfl (hb hby d_jdk_49_method_3_code_60) rfl rfl rfl k) ?_
  have f9z := (q4.other W7z (Or.inr (slot_ne (Or.inl (own_hw hw 85 rfl)) (Or.inl (own_hw hw 100 rfl)) (by decide) (t := .int) (t' := .int) (by decide) (by decide))))
  obtain ⟨T10z, h10z, X10z, e10z, W10z, st10z⟩ := putF X7z hx hZ hown (host := "") (Or.inl (own_hw hw 84 rfl)) Via.refl e7z f9z (q0.wr W7z) (Or.inl (own_hw hw 85 rfl)) (own_hw hw 75 rfl) (ty := .int) (by decide) rfl rfl (g := (mkF m 61 #[.val (.ref b), .val (.int cu), .val (.ref arr)] [(.int cu), (.ref b), (.int cu), (.ref arr)])) rfl rfl (hb hby d_jdk_49_method_3_code_61)
  refine own_go st10z ?_
  have N10z := Fr.snoc X10z N7z q1
  have F10z : Fld Z h10z b "java/util/ArrayList$Itr" "lastRet" "I" (.int cu) := f9z.same W10z
  have O11z : Ext Z.heap h10z := own_ext_wr O8z W10z q1
  have K11z : Keep h0 h10z [b] := K8z.wr W10z (Or.inl (List.mem_of_getElem? (i := 0) rfl))
  refine own_go (own_ldA X10z hx hZ e10z ((q9.other W7z nevb).other W10z nevb) rfl (i := i) (v := (.ref y)) hj hv (g := (mkF m 64 #[.val (.ref b), .val (.int cu), .val (.ref arr)] [(.int cu), (.ref arr)])) rfl rfl (hb hby d_jdk_49_method_3_code_64)) ?_
  have f12z := ((q2.other W7z (Or.inr (slot_ne (Or.inr (own_hw hw 82 rfl)) (Or.inl (own_hw hw 100 rfl)) (by decide) (t := (.object "java/util/ArrayList")) (t' := .int) (by decide) (by decide)))).other W10z (Or.inr (slot_ne (Or.inr (own_hw hw 82 rfl)) (Or.inl (own_hw hw 85 rfl)) (by decide) (t := (.object "java/util/ArrayList")) (t' := .int) (by decide) (by decide))))
  have f13z := (F7z.other W10z (Or.inr (slot_ne (Or.inl (own_hw hw 100 rfl)) (Or.inl (own_hw hw 85 rfl)) (by decide) (t := .int) (t' := .int) (by decide) (by decide))))
  have f14z := ((q5.other W7z (Or.inr (slot_ne (Or.inl (own_hw hw 89 rfl)) (Or.inl (own_hw hw 100 rfl)) (by decide) (t := .int) (t' := .int) (by decide) (by decide)))).other W10z (Or.inr (slot_ne (Or.inl (own_hw hw 89 rfl)) (Or.inl (own_hw hw 85 rfl)) (by decide) (t := .int) (t' := .int) (by decide) (by decide))))
  exact own_ret X10z hx Bd.returns rfl (Or.inr (Or.inr (Or.inr (Or.inr ⟨rfl, rfl, rfl⟩)))) (hb hby d_jdk_49_method_3_code_65) hlk (Nat.le_of_ble_eq_true rfl) (Nat.le_of_ble_eq_true rfl) (by show Q_own_next Z b a mc cu lr sz arr kk vs i y zl h0 _ T10z.heap _; rw [e10z]; exact ⟨rfl, N10z, K11z, ((q0.wr W7z).wr W10z), f12z, f13z, F10z, f14z⟩)
theorem ef_own_rnn (m : MethodId) (x0 : Addr) (x1 : Addr) : entryFrame m #[(.ref x0), (.ref x1)] 2 = mkF m 0 #[.val (.ref x0), .val (.ref x1)] [] := by first | (simp [entryFrame, mkF, argsToLocals, Value.category]; done) | rfl
theorem pf_own_rnn : plainFor own_m19 = true := plainFor_of_name (by simp [plainName, overriddenIn])
theorem d_jdk_31_method_11_code_0 : decode jdk_31_method_11_code 0 = .ok (.aload_n 0, 1) := by decide +kernel
theorem d_jdk_31_method_11_code_1 : decode jdk_31_method_11_code 1 = .ok (.ifnonnull 12, 3) := by decide +kernel
theorem d_jdk_31_method_11_code_13 : decode jdk_31_method_11_code 13 = .ok (.aload_n 0, 1) := by decide +kernel
theorem d_jdk_31_method_11_code_14 : decode jdk_31_method_11_code 14 = .ok (.areturn, 1) := by decide +kernel
def Q_own_rnn (Z : State) (a : Addr) (b : Addr) (h0 : Heap) (v : Option Value) (h : Heap) (L : List Loc) : Prop := v = some (.ref a) ∧ Fr Z.heap.size L ∧ h = h0
set_option maxRecDepth 65536 in
set_option maxHeartbeats 40000000 in
theorem own_rnn (l : Launch) (Z : State) (a0 : Array Value) (hw : ∀ d ∈ tables_1, d.before a0 Z = true) (ws : List Jvm.Cond) (a : Addr) (b : Addr) (h0 : Heap) (O0 : Ext Z.heap h0) :
    MetFree l own_m19 (head1 (Jvm.Cond.code own_m19 jdk_31_method_11_code 2 (some (.object "java/lang/Object")) :: ws) ({ frames := 0, cells := 0, slots := 0, locals := 0 } : Room)) (fun aa U => aa = #[(.ref a), (.ref b)] ∧ Z.Warmed39 U.vm ∧ U.heap = h0) (fun _ _ _ _ _ => True) (fun _ U o U' => ∃ v L, o = .returned v ∧ Q_own_rnn Z a b h0 v U'.heap L ∧ FrameEnd U o U' L ({ frames := 0, cells := 0, slots := 0, locals := 0 } : Room).cells ({ frames := 0, cells := 0, slots := 0, locals := 0 } : Room).slots) := by
  refine MetFree.of_bodySF pf_own_rnn hisR ?_
  intro p e s m args below meth c s₁ Bd hml0 hP hK
  obtain ⟨rfl, hZ, hh⟩ := hP
  have hx := Bd.exec
  have hby := Bd.bytes
  have hlk := BodyLoose.notSynchronized Bd
  have hml : c.maxLocals = 2 := hml0
  have hown : s.vm.findClass "java/util/Objects" = some m.cls := findClass_of_methodNamed Bd.named
  have hnm := (name_of_methodNamed Bd.named Bd.method).1
  have X0 : Stand p l e ({ frames := 0, cells := 0, slots := 0, locals := 0 } : Room) s m #[(.ref a), (.ref b)] below meth c s₁ [] 0 0 := Stand.of_body Bd
  have e0 : s₁.heap = h0 := by rw [← hh, Bd.state]; rfl
  have N0 := Fr.nil Z.heap.size
  have K0 : Keep h0 h0 [] := Keep.refl _ _
  refine own_start (Q := Q_own_rnn Z a b h0) (ef_own_rnn m (a) (b)) ?_
  show own_G p e below (s₁.setTop (mkF m 0 #[.val (.ref a), .val (.ref b)] [])) _
  refine own_go (fun t k => XS.aloadN X0.here hx rfl (hb hby d_jdk_31_method_11_code_0) rfl rfl k) ?_
  refine own_go (fun t k => XS.ifnonnullYes X0.here hx rfl (pc0 := 1) (pc' := 13) rfl (hb hby d_jdk_31_method_11_code_1) rfl (by decide) (by decide) k) ?_
  show own_G p e below (s₁.setTop (mkF m 13 #[.val (.ref a), .val (.ref b)] [])) _
  refine own_go (fun t k => XS.aloadN X0.here hx rfl (hb hby d_jdk_31_method_11_code_13) rfl rfl k) ?_
  exact own_ret X0 hx Bd.returns rfl (Or.inr (Or.inr (Or.inr (Or.inr ⟨rfl, rfl, rfl⟩)))) (hb hby d_jdk_31_method_11_code_14) hlk (Nat.le_of_ble_eq_true rfl) (Nat.le_of_ble_eq_true rfl) (by show Q_own_rnn Z a b h0 _ s₁.heap _; rw [e0]; exact ⟨rfl, N0, rfl⟩)
theorem ef_own_copy0 (m : MethodId) (x0 : Addr) : entryFrame m #[(.ref x0)] 4 = mkF m 0 #[.val (.ref x0), .unset, .unset, .unset] [] := by first | (simp [entryFrame, mkF, argsToLocals, Value.category]; done) | rfl
theorem pf_own_copy0 : plainFor own_m20 = true := plainFor_of_name (by simp [plainName, overriddenIn])
theorem pd_3946442454 : parseMethodDescriptor "(Ljava/lang/Object;Ljava/lang/String;)Ljava/lang/Object;" = some ⟨[(.object "java/lang/Object"), (.object "java/lang/String")], some (.object "java/lang/Object")⟩ := by decide +kernel
theorem pd_193421983 : parseMethodDescriptor "()I" = some ⟨[], some .int⟩ := by decide +kernel
theorem pd_2087992021 : parseMethodDescriptor "(I)V" = some ⟨[.int], none⟩ := by decide +kernel
theorem pd_1636828997 : parseMethodDescriptor "()Ljava/util/Iterator;" = some ⟨[], some (.object "java/util/Iterator")⟩ := by decide +kernel
theorem pd_193422000 : parseMethodDescriptor "()Z" = some ⟨[], some .boolean⟩ := by decide +kernel
theorem d_prog_14_method_2_code_0 : decode prog_14_method_2_code 0 = .ok (.aload_n 0, 1) := by decide +kernel
theorem d_prog_14_method_2_code_1 : decode prog_14_method_2_code 1 = .ok (.ldc 7, 2) := by decide +kernel
theorem d_prog_14_method_2_code_10 : decode prog_14_method_2_code 10 = .ok (.dup, 1) := by decide +kernel
theorem d_prog_14_method_2_code_11 : decode prog_14_method_2_code 11 = .ok (.aload_n 0, 1) := by decide +kernel
theorem d_prog_14_method_2_code_12 : decode prog_14_method_2_code 12 = .ok (.invokeinterface 17 1, 5) := by decide +kernel
theorem d_prog_14_method_2_code_17 : decode prog_14_method_2_code 17 = .ok (.invokespecial 23, 3) := by decide +kernel
theorem d_prog_14_method_2_code_20 : decode prog_14_method_2_code 20 = .ok (.astore_n 1, 1) := by decide +kernel
theorem d_prog_14_method_2_code_21 : decode prog_14_method_2_code 21 = .ok (.aload_n 0, 1) := by decide +kernel
theorem d_prog_14_method_2_code_22 : decode prog_14_method_2_code 22 = .ok (.invokeinterface 26 1, 5) := by decide +kernel
theorem d_prog_14_method_2_code_27 : decode prog_14_method_2_code 27 = .ok (.astore_n 2, 1) := by decide +kernel
theorem d_prog_14_method_2_code_28 : decode prog_14_method_2_code 28 = .ok (.aload_n 2, 1) := by decide +kernel
theorem d_prog_14_method_2_code_29 : decode prog_14_method_2_code 29 = .ok (.invokeinterface 30 1, 5) := by decide +kernel
theorem d_prog_14_method_2_code_3 : decode prog_14_method_2_code 3 = .ok (.invokestatic 9, 3) := by decide +kernel
theorem d_prog_14_method_2_code_34 : decode prog_14_method_2_code 34 = .ok (.ifCond .eq 26, 3) := by decide +kernel
theorem d_prog_14_method_2_code_6 : decode prog_14_method_2_code 6 = .ok (.pop, 1) := by decide +kernel
theorem d_prog_14_method_2_code_60 : decode prog_14_method_2_code 60 = .ok (.aload_n 1, 1) := by decide +kernel
theorem d_prog_14_method_2_code_61 : decode prog_14_method_2_code 61 = .ok (.areturn, 1) := by decide +kernel
theorem d_prog_14_method_2_code_7 : decode prog_14_method_2_code 7 = .ok (.new 15, 3) := by decide +kernel
def Q_own_copy0 (Z : State) (a : Addr) (mc : Int32) (dE : Addr) (kd : ClassId) (eE : Addr) (h0 : Heap) (v : Option Value) (h : Heap) (L : List Loc) : Prop := ∃ r : Addr, v = some (.ref r) ∧ Fr Z.heap.size L ∧ Keep h0 h [] ∧ (Exa Z h r "java/util/ArrayList") ∧ (h0.size ≤ r) ∧ (Fld Z h r "java/util/AbstractList" "modCount" "I" (.int (0 : Int32))) ∧ (Fld Z h r "java/util/ArrayList" "elementData" "[Ljava/lang/Object;" (.ref eE)) ∧ (Fld Z h r "java/util/ArrayList" "size" "I" (.int (0 : Int32)))
set_option maxRecDepth 65536 in
set_option maxHeartbeats 40000000 in
theorem own_copy0 (l : Launch) (Z : State) (a0 : Array Value) (hw : ∀ d ∈ tables_1, d.before a0 Z = true) (ws : List Jvm.Cond) (a : Addr) (mc : Int32) (dE : Addr) (kd : ClassId) (eE : Addr) (h0 : Heap) (O0 : Ext Z.heap h0) (S_D : Sta Z Z.heap "java/util/ArrayList" "DEFAULTCAPACITY_EMPTY_ELEMENTDATA" "[Ljava/lang/Object;" (.ref dE)) (BD : own_A Z Z.heap dE kd (.object "java/lang/Object") []) (S_E : Sta Z Z.heap "java/util/ArrayList" "EMPTY_ELEMENTDATA" "[Ljava/lang/Object;" (.ref eE)) (q3 : Exa Z h0 a "java/util/ArrayList") (q4 : Fld Z h0 a "java/util/AbstractList" "modCount" "I" (.int mc)) (q5 : Fld Z h0 a "java/util/ArrayList" "elementData" "[Ljava/lang/Object;" (.ref dE)) (q6 : Fld Z h0 a "java/util/ArrayList" "size" "I" (.int (0 : Int32))) :
    MetFree l own_m20 (head1 (Jvm.Cond.code own_m20 prog_14_method_2_code 4 (some (.object "java/util/List")) :: ws) ({ frames := 4, cells := 4, slots := 43, locals := 60 } : Room)) (fun aa U => aa = #[(.ref a)] ∧ Z.Warmed39 U.vm ∧ U.heap = h0) (fun _ _ _ _ _ => True) (fun _ U o U' => ∃ v L, o = .returned v ∧ Q_own_copy0 Z a mc dE kd eE h0 v U'.heap L ∧ ReturnedEndW U o U' L ({ frames := 4, cells := 4, slots := 43, locals := 60 } : Room).cells ({ frames := 4, cells := 4, slots := 43, locals := 60 } : Room).slots) := by
  refine MetFree.of_bodySF pf_own_copy0 hisR ?_
  intro p e s m args below meth c s₁ Bd hml0 hP hK
  obtain ⟨rfl, hZ, hh⟩ := hP
  have hx := Bd.exec
  have hby := Bd.bytes
  have hlk := BodyLoose.notSynchronized Bd
  have hml : c.maxLocals = 4 := hml0
  have hown : s.vm.findClass "com/example/etapa/etapa/mongodb/EntityBatch" = some m.cls := findClass_of_methodNamed Bd.named
  have hnm := (name_of_methodNamed Bd.named Bd.method).1
  have X0 : Stand p l e ({ frames := 4, cells := 4, slots := 43, locals := 60 } : Room) s m #[(.ref a)] below meth c s₁ [] 0 0 := Stand.of_body Bd
  have e0 : s₁.heap = h0 := by rw [← hh, Bd.state]; rfl
  have N0 := Fr.nil Z.heap.size
  have K0 : Keep h0 h0 [] := Keep.refl _ _
  have Si0 : s.Since s.vm h0.size := (State.WarmedH.refl s).since h0.size
  have Sn0 : h0.size ≤ h0.size := Nat.le_refl _
  have hZ : Z.Warmed39 (s.setVm s.vm).vm := hZ
  have hown : (s.setVm s.vm).vm.findClass "com/example/etapa/etapa/mongodb/EntityBatch" = some m.cls := hown
  have X0 := (show Stand _ _ _ _ (s.setVm s.vm) _ _ _ _ _ _ _ _ _ from X0)
  refine own_startW (Q := Q_own_copy0 Z a mc dE kd eE h0) (ef_own_copy0 m (a)) ?_
  show own_G p e below (s₁.setTop (mkF m 0 #[.val (.ref a), .unset, .unset, .unset] [])) _
  refine own_go (fun t k => XS.aloadN X0.here hx rfl (hb hby d_prog_14_method_2_code_0) rfl rfl k) ?_
  obtain ⟨a1z, T1z, h1z, k1z, X1z, e1z, E1z, Si1z, Sn1z, hZ1z, hown1z, st1z⟩ := ldcS X0 hx hZ hown (own_hw hw 38 rfl) (own_wS hw) e0 Si0 Sn0 (g := (mkF m 1 #[.val (.ref a), .unset, .unset, .unset] [(.ref a)])) rfl (hb hby d_prog_14_method_2_code_1) (n := 32) (by decide) (by decide) (by decide) (by decide)
  refine own_go st1z ?_
  have O2z : Ext Z.heap h1z := own_ext_trans O0 E1z
  have K2z : Keep h0 h1z [] := K0.ext E1z
  show own_G p e below (T1z.setTop (mkF m 3 #[.val (.ref a), .unset, .unset, .unset] [(.ref a1z), (.ref a)])) _
  obtain ⟨_, _, ⟨T3z, L3z, k3z, n3z⟩, -, X3z, ⟨Lc3z, hQ3z, l3z, y3z, z3z⟩, st3z⟩ := Jvm.LawKit.callS X1z hx (y := own_m19) hown1z (mvT hZ1z (own_hw hw 46 rfl)) (mvT hZ1z (own_hw hw 47 rfl)) (mvT hZ1z (own_hw hw 48 rfl)) (mvT hZ1z (own_hw hw 49 rfl)) (by decide) (backOf (W := 0) (own_rnn l Z a0 hw [] a a1z h1z O2z) hZ1z (own_hw hw 49 rfl) (own_hw hw 48 rfl) (by decide) (by decide)) (g := (mkF m 3 #[.val (.ref a), .unset, .unset, .unset] [(.ref a1z), (.ref a)])) rfl (by rw [hml]; rfl) (argsL := [(.ref a), (.ref a1z)]) (rest := []) (lenOf pd_3946442454 rfl) rfl (by show 2 * 0 + _ ≤ _; exact Nat.le_of_eq rfl) (hb hby d_prog_14_method_2_code_3) (fun _ _ => ⟨rfl, e1z, (by decide : 2 + 0 ≤ _), (by decide : 36 + 0 ≤ _)⟩)
  dsimp only [Pt.U, Pt.locs, Pt.cells, Pt.slots] at X3z l3z y3z z3z st3z hQ3z
  subst l3z y3z z3z
  obtain ⟨rfl, NQ3z, K3zq⟩ := hQ3z
  refine own_go st3z ?_
  have N3z := Fr.app N0 NQ3z
  show own_G p e below (T3z.setTop (mkF m 6 #[.val (.ref a), .unset, .unset, .unset] [(.ref a)])) _
  refine own_go (fun t k => XS.pop X3z.here hx rfl (hb hby d_prog_14_method_2_code_6) rfl rfl k) ?_
  obtain ⟨T4z, h4z, X4z, e4z, E4z, A4z, D4z, -, st4z⟩ := newO X3z hx hZ1z hown1z (own_hw hw 50 rfl) (own_hw hw 9 rfl) (own_hw hw 10 rfl) K3zq (g := (mkF m 7 #[.val (.ref a), .unset, .unset, .unset] [])) rfl (hb hby d_prog_14_method_2_code_7) (by decide) (by decide)
  obtain ⟨b4z, g4z⟩ : ∃ z, z = h1z.size := ⟨_, rfl⟩
  rw [← g4z] at A4z D4z st4z
  have fr_b4z : Z.heap.size ≤ b4z := g4z ▸ O2z.1
  have lz_b4z : h0.size ≤ b4z := g4z ▸ K2z.1
  have ne_a_b4z : a ≠ b4z := Nat.ne_of_lt (g4z ▸ (q3.ext E1z).lt)
  have O5z : Ext Z.heap h4z := own_ext_trans O2z E4z
  have K5z : Keep h0 h4z [] := K2z.ext E4z
  have Sn5z := Nat.le_trans Sn1z E4z.1
  have F4z_modCount : Fld Z h4z b4z "java/util/AbstractList" "modCount" "I" (.int (0 : Int32)) := D4z (Or.inl (own_hw hw 30 rfl)) (ty := .int) (by decide)
  have F4z_elementData : Fld Z h4z b4z "java/util/ArrayList" "elementData" "[Ljava/lang/Object;" .null := D4z (Or.inl (own_hw hw 33 rfl)) (ty := (.array (.object "java/lang/Object"))) (by decide)
  have F4z_size : Fld Z h4z b4z "java/util/ArrayList" "size" "I" (.int (0 : Int32)) := D4z (Or.inl (own_hw hw 61 rfl)) (ty := .int) (by decide)
  refine own_go st4z ?_
  refine own_go (fun t k => XS.dup X4z.here hx rfl (hb hby d_prog_14_method_2_code_10) rfl rfl k) ?_
  refine own_go (fun t k => XS.aloadN X4z.here hx rfl (hb hby d_prog_14_method_2_code_11) rfl rfl k) ?_
  show own_G p e below (T4z.setTop (mkF m 12 #[.val (.ref a), .unset, .unset, .unset] [(.ref a), (.ref b4z), (.ref b4z)])) _
  obtain ⟨cq6z, kq6z, qa6z, qb6z, qc6z⟩ := isOf hZ1z e4z ((q3.ext E1z).ext E4z)
  obtain ⟨_, _, ⟨T6z, L6z, k6z, n6z⟩, -, X6z, ⟨Lc6z, hQ6z, l6z, y6z, z6z⟩, st6z⟩ := X4z.interfaceBack hx (xi := own_m21) (y := own_m9) hown1z (mvT hZ1z (own_hw hw 51 rfl)) (mvT hZ1z (own_hw hw 52 rfl)) (mvT hZ1z (own_hw hw 53 rfl)) (mvT hZ1z (own_hw hw 54 rfl)) (mvT hZ1z (own_hw hw 55 rfl)) (mvT hZ1z (own_hw hw 56 rfl)) (mvT hZ1z (own_hw hw 57 rfl)) (mvT hZ1z (own_hw hw 58 rfl)) (by decide) (backOf (W := 2) (own_size l Z a0 hw [] a (0 : Int32) h4z O5z ((q6.ext E1z).ext E4z)) hZ1z (own_hw hw 59 rfl) (own_hw hw 10 rfl) (by decide) (by decide)) qa6z qb6z qc6z (g := (mkF m 12 #[.val (.ref a), .unset, .unset, .unset] [(.ref a), (.ref b4z), (.ref b4z)])) rfl (by rw [hml]; rfl) (Steps.refl _) (argsL := []) (rest := [(.ref b4z), (.ref b4z)]) (lenOf pd_193421983 rfl) rfl (by show 2 * 0 + _ ≤ _; exact Nat.le_of_eq rfl) (hb hby d_prog_14_method_2_code_12) (fun _ _ => ⟨rfl, e4z, (by decide : 3 + 0 ≤ _), (by decide : 39 + 0 ≤ _)⟩)
  dsimp only [Pt.U, Pt.locs, Pt.cells, Pt.slots] at X6z l6z y6z z6z st6z hQ6z
  subst l6z y6z z6z
  obtain ⟨rfl, NQ6z, K6zq⟩ := hQ6z
  refine own_tr st6z ?_
  have N6z := Fr.app N3z NQ6z
  show own_G p e below (T6z.setTop (mkF m 17 #[.val (.ref a), .unset, .unset, .unset] [(.int (0 : Int32)), (.ref b4z), (.ref b4z)])) _
  obtain ⟨_, _, ⟨T7z, L7z, k7z, n7z⟩, -, X7z, ⟨Lc7z, hQ7z, l7z, y7z, z7z⟩, st7z⟩ := X6z.specialBack hx (y := own_m3) rfl hown1z (mvT hZ1z (own_hw hw 62 rfl)) (mvT hZ1z (own_hw hw 63 rfl)) (mvT hZ1z (own_hw hw 64 rfl)) (by decide) (backOf (W := 1) (own_aln0 l Z a0 hw [] b4z eE h4z O5z S_E A4z fr_b4z F4z_modCount F4z_elementData F4z_size) hZ1z (own_hw hw 64 rfl) (own_hw hw 10 rfl) (by decide) (by decide)) (g := (mkF m 17 #[.val (.ref a), .unset, .unset, .unset] [(.int (0 : Int32)), (.ref b4z), (.ref b4z)])) rfl (by rw [hml]; rfl) (Steps.refl _) (a := b4z) (argsL := [(.int (0 : Int32))]) (rest := [(.ref b4z)]) (lenOf pd_2087992021 rfl) rfl (by show 2 * 0 + _ ≤ _; exact Nat.le_of_eq rfl) (hb hby d_prog_14_method_2_code_17) (fun _ _ => ⟨rfl, K6zq, (by decide : 3 + 0 ≤ _), (by decide : 39 + 0 ≤ _)⟩)
  dsimp only [Pt.U, Pt.locs, Pt.cells, Pt.slots] at X7z l7z y7z z7z st7z hQ7z
  subst l7z y7z z7z
  obtain ⟨rfl, NQ7z, K7zq, r7z_0, r7z_1, r7z_2, r7z_3⟩ := hQ7z
  refine own_tr st7z ?_
  have N7z := Fr.app N6z NQ7z
  have O8z : Ext Z.heap T7z.heap := own_ext_keep O5z K7zq (allS fr_b4z all0)
  have K8z : Keep h0 T7z.heap [] := K5z.trans K7zq (allS (Or.inr lz_b4z) all0)
  have Sn8z := Nat.le_trans Sn5z K7zq.1
  show own_G p e below (T7z.setTop (mkF m 20 #[.val (.ref a), .unset, .unset, .unset] [(.ref b4z)])) _
  refine own_go (fun t k => XS.astoreN X7z.here hx rfl (hb hby d_prog_14_method_2_code_20) rfl rfl (l' := #[.val (.ref a), .val (.ref b4z), .unset, .unset]) rfl k) ?_
  refine own_go (fun t k => XS.aloadN X7z.here hx rfl (hb hby d_prog_14_method_2_code_21) rfl rfl k) ?_
  have f9z := (((q4.ext E1z).ext E4z).keep K7zq (by simp only [List.mem_cons, List.not_mem_nil, or_false, not_or]; exact ne_a_b4z))
  obtain ⟨cq10z, kq10z, qa10z, qb10z, qc10z⟩ := isOf hZ1z (rfl : T7z.heap = _) (((q3.ext E1z).ext E4z).keep K7zq)
  obtain ⟨_, _, ⟨T10z, L10z, k10z, n10z⟩, -, X10z, ⟨Lc10z, hQ10z, l10z, y10z, z10z⟩, st10z⟩ := X7z.interfaceBack hx (xi := own_m22) (y := own_m15) hown1z (mvT hZ1z (own_hw hw 66 rfl)) (mvT hZ1z (own_hw hw 67 rfl)) (mvT hZ1z (own_hw hw 68 rfl)) (mvT hZ1z (own_hw hw 69 rfl)) (mvT hZ1z (own_hw hw 70 rfl)) (mvT hZ1z (own_hw hw 71 rfl)) (mvT hZ1z (own_hw hw 72 rfl)) (mvT hZ1z (own_hw hw 58 rfl)) (by decide) (backOf (W := 0) (own_itr l Z a0 hw [] a mc T7z.heap O8z f9z) hZ1z (own_hw hw 73 rfl) (own_hw hw 10 rfl) (by decide) (by decide)) qa10z qb10z qc10z (g := (mkF m 22 #[.val (.ref a), .val (.ref b4z), .unset, .unset] [(.ref a)])) rfl (by rw [hml]; rfl) (Steps.refl _) (argsL := []) (rest := []) (lenOf pd_1636828997 rfl) rfl (by show 2 * 0 + _ ≤ _; exact Nat.le_of_eq rfl) (hb hby d_prog_14_method_2_code_22) (fun _ _ => ⟨rfl, rfl, (by decide : 3 + 1 ≤ _), (by decide : 39 + 4 ≤ _)⟩)
  dsimp only [Pt.U, Pt.locs, Pt.cells, Pt.slots] at X10z l10z y10z z10z st10z hQ10z
  subst l10z y10z z10z
  obtain ⟨b_10z, rfl, NQ10z, K10zq, r10z_0, r10z_1, r10z_2, r10z_3, r10z_4, r10z_5, r10z_6⟩ := hQ10z
  refine own_tr st10z ?_
  have N10z := Fr.app N7z NQ10z
  have O11z : Ext Z.heap T10z.heap := own_ext_keep O8z K10zq all0
  have K11z : Keep h0 T10z.heap [] := K8z.trans K10zq all0
  have Sn11z := Nat.le_trans Sn8z K10zq.1
  have lz_b_10z : h0.size ≤ b_10z := Nat.le_trans K8z.1 r10z_2
  have ne_a_b_10z : a ≠ b_10z := Nat.ne_of_lt (Nat.lt_of_lt_of_le (((q3.ext E1z).ext E4z).keep K7zq).lt r10z_2)
  have ne_b4z_b_10z : b4z ≠ b_10z := Nat.ne_of_lt (Nat.lt_of_lt_of_le r7z_0.lt r10z_2)
  show own_G p e below (T10z.setTop (mkF m 27 #[.val (.ref a), .val (.ref b4z), .unset, .unset] [(.ref b_10z)])) _
  refine own_go (fun t k => XS.astoreN X10z.here hx rfl (hb hby d_prog_14_method_2_code_27) rfl rfl (l' := #[.val (.ref a), .val (.ref b4z), .val (.ref b_10z), .unset]) rfl k) ?_
  refine own_go (fun t k => XS.aloadN X10z.here hx rfl (hb hby d_prog_14_method_2_code_28) rfl rfl k) ?_
  have f12z := ((((q6.ext E1z).ext E4z).keep K7zq (by simp only [List.mem_cons, List.not_mem_nil, or_false, not_or]; exact ne_a_b4z)).keep K10zq (by simp))
  obtain ⟨cq13z, kq13z, qa13z, qb13z, qc13z⟩ := isOf hZ1z (rfl : T10z.heap = _) r10z_0
  obtain ⟨_, _, ⟨T13z, L13z, k13z, n13z⟩, -, X13z, ⟨Lc13z, hQ13z, l13z, y13z, z13z⟩, st13z⟩ := X10z.interfaceBack hx (xi := own_m23) (y := own_m16) hown1z (mvT hZ1z (own_hw hw 90 rfl)) (mvT hZ1z (own_hw hw 91 rfl)) (mvT hZ1z (own_hw hw 92 rfl)) (mvT hZ1z (own_hw hw 93 rfl)) (mvT hZ1z (own_hw hw 94 rfl)) (mvT hZ1z (own_hw hw 95 rfl)) (mvT hZ1z (own_hw hw 96 rfl)) (mvT hZ1z (own_hw hw 97 rfl)) (by decide) (backOf (W := 0) (own_hn0 l Z a0 hw [] b_10z a (0 : Int32) (0 : Int32) T10z.heap O11z r10z_3 r10z_4 f12z (by decide)) hZ1z (own_hw hw 98 rfl) (own_hw hw 76 rfl) (by decide) (by decide)) qa13z qb13z qc13z (g := (mkF m 29 #[.val (.ref a), .val (.ref b4z), .val (.ref b_10z), .unset] [(.ref b_10z)])) rfl (by rw [hml]; rfl) (Steps.refl _) (argsL := []) (rest := []) (lenOf pd_193422000 rfl) rfl (by show 2 * 0 + _ ≤ _; exact Nat.le_of_eq rfl) (hb hby d_prog_14_method_2_code_29) (fun _ _ => ⟨rfl, rfl, (by decide : 4 + 0 ≤ _), (by decide : 43 + 0 ≤ _)⟩)
  dsimp only [Pt.U, Pt.locs, Pt.cells, Pt.slots] at X13z l13z y13z z13z st13z hQ13z
  subst l13z y13z z13z
  obtain ⟨rfl, NQ13z, K13zq⟩ := hQ13z
  refine own_tr st13z ?_
  have N13z := Fr.app N10z NQ13z
  show own_G p e below (T13z.setTop (mkF m 34 #[.val (.ref a), .val (.ref b4z), .val (.ref b_10z), .unset] [(.int (0 : Int32))])) _
  refine own_go (fun t k => XS.ifYes X13z.here hx rfl (pc0 := 34) (pc' := 60) rfl (hb hby d_prog_14_method_2_code_34) rfl ((if0 _ _).trans (teq (by decide : (0 : Int32) = (0 : Int32))).1) (by decide) (by decide) k) ?_
  show own_G p e below (T13z.setTop (mkF m 60 #[.val (.ref a), .val (.ref b4z), .val (.ref b_10z), .unset] [])) _
  refine own_go (fun t k => XS.aloadN X13z.here hx rfl (hb hby d_prog_14_method_2_code_60) rfl rfl k) ?_
  exact own_retW X13z Si1z (by rw [K13zq]; exact Sn11z) hx Bd.returns rfl (Or.inr (Or.inr (Or.inr (Or.inr ⟨rfl, rfl, rfl⟩)))) (hb hby d_prog_14_method_2_code_61) hlk (Nat.le_of_ble_eq_true rfl) (Nat.le_of_ble_eq_true rfl) (by show Q_own_copy0 Z a mc dE kd eE h0 _ T13z.heap _; rw [K13zq]; exact ⟨b4z, rfl, N13z, K11z, (r7z_0.keep K10zq), lz_b4z, (r7z_1.keep K10zq (by simp)), (r7z_2.keep K10zq (by simp)), (r7z_3.keep K10zq (by simp))⟩)
theorem ef_own_copy1 (m : MethodId) (x0 : Addr) : entryFrame m #[(.ref x0)] 4 = mkF m 0 #[.val (.ref x0), .unset, .unset, .unset] [] := by first | (simp [entryFrame, mkF, argsToLocals, Value.category]; done) | rfl
theorem pf_own_copy1 : plainFor own_m20 = true := plainFor_of_name (by simp [plainName, overriddenIn])
theorem pd_462477782 : parseMethodDescriptor "()Ljava/lang/Object;" = some ⟨[], some (.object "java/lang/Object")⟩ := by decide +kernel
theorem pd_396412080 : parseMethodDescriptor "(Ljava/lang/Object;)Z" = some ⟨[(.object "java/lang/Object")], some .boolean⟩ := by decide +kernel
theorem d_prog_14_method_2_code_37 : decode prog_14_method_2_code 37 = .ok (.aload_n 2, 1) := by decide +kernel
theorem d_prog_14_method_2_code_38 : decode prog_14_method_2_code 38 = .ok (.invokeinterface 36 1, 5) := by decide +kernel
theorem d_prog_14_method_2_code_43 : decode prog_14_method_2_code 43 = .ok (.astore_n 3, 1) := by decide +kernel
theorem d_prog_14_method_2_code_44 : decode prog_14_method_2_code 44 = .ok (.aload_n 1, 1) := by decide +kernel
theorem d_prog_14_method_2_code_45 : decode prog_14_method_2_code 45 = .ok (.aload_n 3, 1) := by decide +kernel
theorem d_prog_14_method_2_code_46 : decode prog_14_method_2_code 46 = .ok (.ldc 40, 2) := by decide +kernel
theorem d_prog_14_method_2_code_48 : decode prog_14_method_2_code 48 = .ok (.invokestatic 9, 3) := by decide +kernel
theorem d_prog_14_method_2_code_51 : decode prog_14_method_2_code 51 = .ok (.invokeinterface 42 2, 5) := by decide +kernel
theorem d_prog_14_method_2_code_56 : decode prog_14_method_2_code 56 = .ok (.pop, 1) := by decide +kernel
theorem d_prog_14_method_2_code_57 : decode prog_14_method_2_code 57 = .ok (.goto (-29), 3) := by decide +kernel
def Q_own_copy1 (Z : State) (a : Addr) (mc : Int32) (x0 : Addr) (arr : Addr) (kk : ClassId) (h0 : Heap) (v : Option Value) (h : Heap) (L : List Loc) : Prop := ∃ r : Addr, ∃ ar : Addr, ∃ kr : ClassId, v = some (.ref r) ∧ Fr Z.heap.size L ∧ Keep h0 h [] ∧ (Exa Z h r "java/util/ArrayList") ∧ (h0.size ≤ r) ∧ (own_A Z h ar kr (.object "java/lang/Object") [(.ref x0)]) ∧ (Fld Z h r "java/util/AbstractList" "modCount" "I" (.int (1 : Int32))) ∧ (Fld Z h r "java/util/ArrayList" "elementData" "[Ljava/lang/Object;" (.ref ar)) ∧ (Fld Z h r "java/util/ArrayList" "size" "I" (.int (1 : Int32))) ∧ (h0.size ≤ ar)
set_option maxRecDepth 65536 in
set_option maxHeartbeats 40000000 in
theorem own_copy1 (l : Launch) (Z : State) (a0 : Array Value) (hw : ∀ d ∈ tables_1, d.before a0 Z = true) (ws : List Jvm.Cond) (a : Addr) (mc : Int32) (x0 : Addr) (arr : Addr) (kk : ClassId) (h0 : Heap) (O0 : Ext Z.heap h0) (q0 : own_A Z h0 arr kk (.object "java/lang/Object") [(.ref x0), .null, .null, .null, .null, .null, .null, .null, .null, .null]) (q1 : Exa Z h0 a "java/util/ArrayList") (q2 : Exa Z h0 x0 "java/lang/Integer") (q3 : Fld Z h0 a "java/util/AbstractList" "modCount" "I" (.int mc)) (q4 : Fld Z h0 a "java/util/ArrayList" "elementData" "[Ljava/lang/Object;" (.ref arr)) (q5 : Fld Z h0 a "java/util/ArrayList" "size" "I" (.int (1 : Int32))) :
    MetFree l own_m20 (head1 (Jvm.Cond.code own_m20 prog_14_method_2_code 4 (some (.object "java/util/List")) :: ws) ({ frames := 4, cells := 7, slots := 132, locals := 60 } : Room)) (fun aa U => aa = #[(.ref a)] ∧ Z.Warmed39 U.vm ∧ U.heap = h0) (fun _ _ _ _ _ => True) (fun _ U o U' => ∃ v L, o = .returned v ∧ Q_own_copy1 Z a mc x0 arr kk h0 v U'.heap L ∧ ReturnedEndW U o U' L ({ frames := 4, cells := 7, slots := 132, locals := 60 } : Room).cells ({ frames := 4, cells := 7, slots := 132, locals := 60 } : Room).slots) := by
  refine MetFree.of_bodySF pf_own_copy1 hisR ?_
  intro p e s m args below meth c s₁ Bd hml0 hP hK
  obtain ⟨rfl, hZ, hh⟩ := hP
  have hx := Bd.exec
  have hby := Bd.bytes
  have hlk := BodyLoose.notSynchronized Bd
  have hml : c.maxLocals = 4 := hml0
  have hown : s.vm.findClass "com/example/etapa/etapa/mongodb/EntityBatch" = some m.cls := findClass_of_methodNamed Bd.named
  have hnm := (name_of_methodNamed Bd.named Bd.method).1
  have X0 : Stand p l e ({ frames := 4, cells := 7, slots := 132, locals := 60 } : Room) s m #[(.ref a)] below meth c s₁ [] 0 0 := Stand.of_body Bd
  have e0 : s₁.heap = h0 := by rw [← hh, Bd.state]; rfl
  have N0 := Fr.nil Z.heap.size
  have K0 : Keep h0 h0 [] := Keep.refl _ _
  have Si0 : s.Since s.vm h0.size := (State.WarmedH.refl s).since h0.size
  have Sn0 : h0.size ≤ h0.size := Nat.le_refl _
  have hZ : Z.Warmed39 (s.setVm s.vm).vm := hZ
  have hown : (s.setVm s.vm).vm.findClass "com/example/etapa/etapa/mongodb/EntityBatch" = some m.cls := hown
  have X0 := (show Stand _ _ _ _ (s.setVm s.vm) _ _ _ _ _ _ _ _ _ from X0)
  refine own_startW (Q := Q_own_copy1 Z a mc x0 arr kk h0) (ef_own_copy1 m (a)) ?_
  show own_G p e below (s₁.setTop (mkF m 0 #[.val (.ref a), .unset, .unset, .unset] [])) _
  refine own_go (fun t k => XS.aloadN X0.here hx rfl (hb hby d_prog_14_method_2_code_0) rfl rfl k) ?_
  obtain ⟨a1z, T1z, h1z, k1z, X1z, e1z, E1z, Si1z, Sn1z, hZ1z, hown1z, st1z⟩ := ldcS X0 hx hZ hown (own_hw hw 38 rfl) (own_wS hw) e0 Si0 Sn0 (g := (mkF m 1 #[.val (.ref a), .unset, .unset, .unset] [(.ref a)])) rfl (hb hby d_prog_14_method_2_code_1) (n := 32) (by decide) (by decide) (by decide) (by decide)
  refine own_go st1z ?_
  have O2z : Ext Z.heap h1z := own_ext_trans O0 E1z
  have K2z : Keep h0 h1z [] := K0.ext E1z
  show own_G p e below (T1z.setTop (mkF m 3 #[.val (.ref a), .unset, .unset, .unset] [(.ref a1z), (.ref a)])) _
  obtain ⟨_, _, ⟨T3z, L3z, k3z, n3z⟩, -, X3z, ⟨Lc3z, hQ3z, l3z, y3z, z3z⟩, st3z⟩ := Jvm.LawKit.callS X1z hx (y := own_m19) hown1z (mvT hZ1z (own_hw hw 46 rfl)) (mvT hZ1z (own_hw hw 47 rfl)) (mvT hZ1z (own_hw hw 48 rfl)) (mvT hZ1z (own_hw hw 49 rfl)) (by decide) (backOf (W := 0) (own_rnn l Z a0 hw [] a a1z h1z O2z) hZ1z (own_hw hw 49 rfl) (own_hw hw 48 rfl) (by decide) (by decide)) (g := (mkF m 3 #[.val (.ref a), .unset, .unset, .unset] [(.ref a1z), (.ref a)])) rfl (by rw [hml]; rfl) (argsL := [(.ref a), (.ref a1z)]) (rest := []) (lenOf pd_3946442454 rfl) rfl (by show 2 * 0 + _ ≤ _; exact Nat.le_of_eq rfl) (hb hby d_prog_14_method_2_code_3) (fun _ _ => ⟨rfl, e1z, (by decide : 2 + 0 ≤ _), (by decide : 36 + 0 ≤ _)⟩)
  dsimp only [Pt.U, Pt.locs, Pt.cells, Pt.slots] at X3z l3z y3z z3z st3z hQ3z
  subst l3z y3z z3z
  obtain ⟨rfl, NQ3z, K3zq⟩ := hQ3z
  refine own_go st3z ?_
  have N3z := Fr.app N0 NQ3z
  show own_G p e below (T3z.setTop (mkF m 6 #[.val (.ref a), .unset, .unset, .unset] [(.ref a)])) _
  refine own_go (fun t k => XS.pop X3z.here hx rfl (hb hby d_prog_14_method_2_code_6) rfl rfl k) ?_
  obtain ⟨T4z, h4z, X4z, e4z, E4z, A4z, D4z, -, st4z⟩ := newO X3z hx hZ1z hown1z (own_hw hw 50 rfl) (own_hw hw 9 rfl) (own_hw hw 10 rfl) K3zq (g := (mkF m 7 #[.val (.ref a), .unset, .unset, .unset] [])) rfl (hb hby d_prog_14_method_2_code_7) (by decide) (by decide)
  obtain ⟨b4z, g4z⟩ : ∃ z, z = h1z.size := ⟨_, rfl⟩
  rw [← g4z] at A4z D4z st4z
  have fr_b4z : Z.heap.size ≤ b4z := g4z ▸ O2z.1
  have lz_b4z : h0.size ≤ b4z := g4z ▸ K2z.1
  have ne_arr_b4z : arr ≠ b4z := Nat.ne_of_lt (g4z ▸ (q0.ext E1z).lt)
  have ne_a_b4z : a ≠ b4z := Nat.ne_of_lt (g4z ▸ (q1.ext E1z).lt)
  have ne_x0_b4z : x0 ≠ b4z := Nat.ne_of_lt (g4z ▸ (q2.ext E1z).lt)
  have O5z : Ext Z.heap h4z := own_ext_trans O2z E4z
  have K5z : Keep h0 h4z [] := K2z.ext E4z
  have Sn5z := Nat.le_trans Sn1z E4z.1
  have F4z_modCount : Fld Z h4z b4z "java/util/AbstractList" "modCount" "I" (.int (0 : Int32)) := D4z (Or.inl (own_hw hw 30 rfl)) (ty := .int) (by decide)
  have F4z_elementData : Fld Z h4z b4z "java/util/ArrayList" "elementData" "[Ljava/lang/Object;" .null := D4z (Or.inl (own_hw hw 33 rfl)) (ty := (.array (.object "java/lang/Object"))) (by decide)
  have F4z_size : Fld Z h4z b4z "java/util/ArrayList" "size" "I" (.int (0 : Int32)) := D4z (Or.inl (own_hw hw 61 rfl)) (ty := .int) (by decide)
  refine own_go st4z ?_
  refine own_go (fun t k => XS.dup X4z.here hx rfl (hb hby d_prog_14_method_2_code_10) rfl rfl k) ?_
  refine own_go (fun t k => XS.aloadN X4z.here hx rfl (hb hby d_prog_14_method_2_code_11) rfl rfl k) ?_
  show own_G p e below (T4z.setTop (mkF m 12 #[.val (.ref a), .unset, .unset, .unset] [(.ref a), (.ref b4z), (.ref b4z)])) _
  obtain ⟨cq6z, kq6z, qa6z, qb6z, qc6z⟩ := isOf hZ1z e4z ((q1.ext E1z).ext E4z)
  obtain ⟨_, _, ⟨T6z, L6z, k6z, n6z⟩, -, X6z, ⟨Lc6z, hQ6z, l6z, y6z, z6z⟩, st6z⟩ := X4z.interfaceBack hx (xi := own_m21) (y := own_m9) hown1z (mvT hZ1z (own_hw hw 51 rfl)) (mvT hZ1z (own_hw hw 52 rfl)) (mvT hZ1z (own_hw hw 53 rfl)) (mvT hZ1z (own_hw hw 54 rfl)) (mvT hZ1z (own_hw hw 55 rfl)) (mvT hZ1z (own_hw hw 56 rfl)) (mvT hZ1z (own_hw hw 57 rfl)) (mvT hZ1z (own_hw hw 58 rfl)) (by decide) (backOf (W := 2) (own_size l Z a0 hw [] a (1 : Int32) h4z O5z ((q5.ext E1z).ext E4z)) hZ1z (own_hw hw 59 rfl) (own_hw hw 10 rfl) (by decide) (by decide)) qa6z qb6z qc6z (g := (mkF m 12 #[.val (.ref a), .unset, .unset, .unset] [(.ref a), (.ref b4z), (.ref b4z)])) rfl (by rw [hml]; rfl) (Steps.refl _) (argsL := []) (rest := [(.ref b4z), (.ref b4z)]) (lenOf pd_193421983 rfl) rfl (by show 2 * 0 + _ ≤ _; exact Nat.le_of_eq rfl) (hb hby d_prog_14_method_2_code_12) (fun _ _ => ⟨rfl, e4z, (by decide : 3 + 0 ≤ _), (by decide : 39 + 0 ≤ _)⟩)
  dsimp only [Pt.U, Pt.locs, Pt.cells, Pt.slots] at X6z l6z y6z z6z st6z hQ6z
  subst l6z y6z z6z
  obtain ⟨rfl, NQ6z, K6zq⟩ := hQ6z
  refine own_tr st6z ?_
  have N6z := Fr.app N3z NQ6z
  show own_G p e below (T6z.setTop (mkF m 17 #[.val (.ref a), .unset, .unset, .unset] [(.int (1 : Int32)), (.ref b4z), (.ref b4z)])) _
  obtain ⟨_, _, ⟨T7z, L7z, k7z, n7z⟩, -, X7z, ⟨Lc7z, hQ7z, l7z, y7z, z7z⟩, st7z⟩ := X6z.specialBack hx (y := own_m3) rfl hown1z (mvT hZ1z (own_hw hw 62 rfl)) (mvT hZ1z (own_hw hw 63 rfl)) (mvT hZ1z (own_hw hw 64 rfl)) (by decide) (backOf (W := 1) (own_aln1 l Z a0 hw [] b4z h4z O5z A4z fr_b4z F4z_modCount F4z_elementData F4z_size) hZ1z (own_hw hw 64 rfl) (own_hw hw 10 rfl) (by decide) (by decide)) (g := (mkF m 17 #[.val (.ref a), .unset, .unset, .unset] [(.int (1 : Int32)), (.ref b4z), (.ref b4z)])) rfl (by rw [hml]; rfl) (Steps.refl _) (a := b4z) (argsL := [(.int (1 : Int32))]) (rest := [(.ref b4z)]) (lenOf pd_2087992021 rfl) rfl (by show 2 * 0 + _ ≤ _; exact Nat.le_of_eq rfl) (hb hby d_prog_14_method_2_code_17) (fun _ _ => ⟨rfl, K6zq, (by decide : 3 + 1 ≤ _), (by decide : 39 + 1 ≤ _)⟩)
  dsimp only [Pt.U, Pt.locs, Pt.cells, Pt.slots] at X7z l7z y7z z7z st7z hQ7z
  subst l7z y7z z7z
  obtain ⟨arr_7z, kk_7z, rfl, NQ7z, K7zq, r7z_0, r7z_1, r7z_2, r7z_3, r7z_4, r7z_5, r7z_6, r7z_7⟩ := hQ7z
  refine own_tr st7z ?_
  have N7z := Fr.app N6z NQ7z
  have O8z : Ext Z.heap T7z.heap := own_ext_keep O5z K7zq (allS fr_b4z all0)
  have K8z : Keep h0 T7z.heap [] := K5z.trans K7zq (allS (Or.inr lz_b4z) all0)
  have Sn8z := Nat.le_trans Sn5z K7zq.1
  have lz_arr_7z : h0.size ≤ arr_7z := Nat.le_trans K5z.1 r7z_2
  have ne_arr_arr_7z : arr ≠ arr_7z := Nat.ne_of_lt (Nat.lt_of_lt_of_le ((q0.ext E1z).ext E4z).lt r7z_2)
  have ne_a_arr_7z : a ≠ arr_7z := Nat.ne_of_lt (Nat.lt_of_lt_of_le ((q1.ext E1z).ext E4z).lt r7z_2)
  have ne_x0_arr_7z : x0 ≠ arr_7z := Nat.ne_of_lt (Nat.lt_of_lt_of_le ((q2.ext E1z).ext E4z).lt r7z_2)
  have ne_b4z_arr_7z : b4z ≠ arr_7z := Nat.ne_of_lt (Nat.lt_of_lt_of_le A4z.lt r7z_2)
  show own_G p e below (T7z.setTop (mkF m 20 #[.val (.ref a), .unset, .unset, .unset] [(.ref b4z)])) _
  refine own_go (fun t k => XS.astoreN X7z.here hx rfl (hb hby d_prog_14_method_2_code_20) rfl rfl (l' := #[.val (.ref a), .val (.ref b4z), .unset, .unset]) rfl k) ?_
  refine own_go (fun t k => XS.aloadN X7z.here hx rfl (hb hby d_prog_14_method_2_code_21) rfl rfl k) ?_
  have f9z := (((q3.ext E1z).ext E4z).keep K7zq (by simp only [List.mem_cons, List.not_mem_nil, or_false, not_or]; exact ne_a_b4z))
  have f10z := (((q0.ext E1z).ext E4z).keep K7zq (by simp only [List.mem_cons, List.not_mem_nil, or_false, not_or]; exact ne_arr_b4z))
  obtain ⟨cq11z, kq11z, qa11z, qb11z, qc11z⟩ := isOf hZ1z (rfl : T7z.heap = _) (((q1.ext E1z).ext E4z).keep K7zq)
  obtain ⟨_, _, ⟨T11z, L11z, k11z, n11z⟩, -, X11z, ⟨Lc11z, hQ11z, l11z, y11z, z11z⟩, st11z⟩ := X7z.interfaceBack hx (xi := own_m22) (y := own_m15) hown1z (mvT hZ1z (own_hw hw 66 rfl)) (mvT hZ1z (own_hw hw 67 rfl)) (mvT hZ1z (own_hw hw 68 rfl)) (mvT hZ1z (own_hw hw 69 rfl)) (mvT hZ1z (own_hw hw 70 rfl)) (mvT hZ1z (own_hw hw 71 rfl)) (mvT hZ1z (own_hw hw 72 rfl)) (mvT hZ1z (own_hw hw 58 rfl)) (by decide) (backOf (W := 0) (own_itr l Z a0 hw [] a mc T7z.heap O8z f9z) hZ1z (own_hw hw 73 rfl) (own_hw hw 10 rfl) (by decide) (by decide)) qa11z qb11z qc11z (g := (mkF m 22 #[.val (.ref a), .val (.ref b4z), .unset, .unset] [(.ref a)])) rfl (by rw [hml]; rfl) (Steps.refl _) (argsL := []) (rest := []) (lenOf pd_1636828997 rfl) rfl (by show 2 * 0 + _ ≤ _; exact Nat.le_of_eq rfl) (hb hby d_prog_14_method_2_code_22) (fun _ _ => ⟨rfl, rfl, (by decide : 4 + 1 ≤ _), (by decide : 40 + 4 ≤ _)⟩)
  dsimp only [Pt.U, Pt.locs, Pt.cells, Pt.slots] at X11z l11z y11z z11z st11z hQ11z
  subst l11z y11z z11z
  obtain ⟨b_11z, rfl, NQ11z, K11zq, r11z_0, r11z_1, r11z_2, r11z_3, r11z_4, r11z_5, r11z_6⟩ := hQ11z
  refine own_tr st11z ?_
  have N11z := Fr.app N7z NQ11z
  have O12z : Ext Z.heap T11z.heap := own_ext_keep O8z K11zq all0
  have K12z : Keep h0 T11z.heap [] := K8z.trans K11zq all0
  have Sn12z := Nat.le_trans Sn8z K11zq.1
  have lz_b_11z : h0.size ≤ b_11z := Nat.le_trans K8z.1 r11z_2
  have ne_arr_b_11z : arr ≠ b_11z := Nat.ne_of_lt (Nat.lt_of_lt_of_le f10z.lt r11z_2)
  have ne_a_b_11z : a ≠ b_11z := Nat.ne_of_lt (Nat.lt_of_lt_of_le (((q1.ext E1z).ext E4z).keep K7zq).lt r11z_2)
  have ne_x0_b_11z : x0 ≠ b_11z := Nat.ne_of_lt (Nat.lt_of_lt_of_le (((q2.ext E1z).ext E4z).keep K7zq).lt r11z_2)
  have ne_b4z_b_11z : b4z ≠ b_11z := Nat.ne_of_lt (Nat.lt_of_lt_of_le r7z_0.lt r11z_2)
  have ne_arr_7z_b_11z : arr_7z ≠ b_11z := Nat.ne_of_lt (Nat.lt_of_lt_of_le r7z_4.lt r11z_2)
  show own_G p e below (T11z.setTop (mkF m 27 #[.val (.ref a), .val (.ref b4z), .unset, .unset] [(.ref b_11z)])) _
  refine own_go (fun t k => XS.astoreN X11z.here hx rfl (hb hby d_prog_14_method_2_code_27) rfl rfl (l' := #[.val (.ref a), .val (.ref b4z), .val (.ref b_11z), .unset]) rfl k) ?_
  refine own_go (fun t k => XS.aloadN X11z.here hx rfl (hb hby d_prog_14_method_2_code_28) rfl rfl k) ?_
  have f13z := ((((q5.ext E1z).ext E4z).keep K7zq (by simp only [List.mem_cons, List.not_mem_nil, or_false, not_or]; exact ne_a_b4z)).keep K11zq (by simp))
  obtain ⟨cq14z, kq14z, qa14z, qb14z, qc14z⟩ := isOf hZ1z (rfl : T11z.heap = _) r11z_0
  obtain ⟨_, _, ⟨T14z, L14z, k14z, n14z⟩, -, X14z, ⟨Lc14z, hQ14z, l14z, y14z, z14z⟩, st14z⟩ := X11z.interfaceBack hx (xi := own_m23) (y := own_m16) hown1z (mvT hZ1z (own_hw hw 90 rfl)) (mvT hZ1z (own_hw hw 91 rfl)) (mvT hZ1z (own_hw hw 92 rfl)) (mvT hZ1z (own_hw hw 93 rfl)) (mvT hZ1z (own_hw hw 94 rfl)) (mvT hZ1z (own_hw hw 95 rfl)) (mvT hZ1z (own_hw hw 96 rfl)) (mvT hZ1z (own_hw hw 97 rfl)) (by decide) (backOf (W := 0) (own_hn1 l Z a0 hw [] b_11z a (0 : Int32) (1 : Int32) T11z.heap O12z r11z_3 r11z_4 f13z (by decide)) hZ1z (own_hw hw 98 rfl) (own_hw hw 76 rfl) (by decide) (by decide)) qa14z qb14z qc14z (g := (mkF m 29 #[.val (.ref a), .val (.ref b4z), .val (.ref b_11z), .unset] [(.ref b_11z)])) rfl (by rw [hml]; rfl) (Steps.refl _) (argsL := []) (rest := []) (lenOf pd_193422000 rfl) rfl (by show 2 * 0 + _ ≤ _; exact Nat.le_of_eq rfl) (hb hby d_prog_14_method_2_code_29) (fun _ _ => ⟨rfl, rfl, (by decide : 5 + 0 ≤ _), (by decide : 44 + 0 ≤ _)⟩)
  dsimp only [Pt.U, Pt.locs, Pt.cells, Pt.slots] at X14z l14z y14z z14z st14z hQ14z
  subst l14z y14z z14z
  obtain ⟨rfl, NQ14z, K14zq⟩ := hQ14z
  refine own_tr st14z ?_
  have N14z := Fr.app N11z NQ14z
  show own_G p e below (T14z.setTop (mkF m 34 #[.val (.ref a), .val (.ref b4z), .val (.ref b_11z), .unset] [(.int (1 : Int32))])) _
  refine own_go (fun t k => XS.ifNo X14z.here hx rfl (hb hby d_prog_14_method_2_code_34) rfl ((if0 _ _).trans (feq (by decide : ¬ ((1 : Int32) = (0 : Int32)))).1) k) ?_
  show own_G p e below (T14z.setTop (mkF m 37 #[.val (.ref a), .val (.ref b4z), .val (.ref b_11z), .unset] [])) _
  refine own_go (fun t k => XS.aloadN X14z.here hx rfl (hb hby d_prog_14_method_2_code_37) rfl rfl k) ?_
  have f15z := ((((q4.ext E1z).ext E4z).keep K7zq (by simp only [List.mem_cons, List.not_mem_nil, or_false, not_or]; exact ne_a_b4z)).keep K11zq (by simp))
  obtain ⟨cq16z, kq16z, qa16z, qb16z, qc16z⟩ := isOf hZ1z K14zq r11z_0
  obtain ⟨_, _, ⟨T16z, L16z, k16z, n16z⟩, -, X16z, ⟨Lc16z, hQ16z, l16z, y16z, z16z⟩, st16z⟩ := X14z.interfaceBack hx (xi := own_m24) (y := own_m18) hown1z (mvT hZ1z (own_hw hw 139 rfl)) (mvT hZ1z (own_hw hw 140 rfl)) (mvT hZ1z (own_hw hw 141 rfl)) (mvT hZ1z (own_hw hw 142 rfl)) (mvT hZ1z (own_hw hw 143 rfl)) (mvT hZ1z (own_hw hw 144 rfl)) (mvT hZ1z (own_hw hw 145 rfl)) (mvT hZ1z (own_hw hw 97 rfl)) (by decide) (backOf (W := 0) (own_next l Z a0 hw [] b_11z a mc (0 : Int32) (-1 : Int32) (1 : Int32) arr kk ([(.ref x0), .null, .null, .null, .null, .null, .null, .null, .null, .null]) 0 x0 (10 : Int32) T11z.heap O12z r11z_0 r11z_1 r11z_3 r11z_4 r11z_5 r11z_6 (f9z.keep K11zq (by simp)) f13z f15z (f10z.keep K11zq (by simp)) (by decide) rfl (by decide) (by show (10 : Int32).toInt = ((10 : Nat) : Int); decide) (by decide) ne_a_b_11z ne_arr_b_11z) hZ1z (own_hw hw 146 rfl) (own_hw hw 76 rfl) (by decide) (by decide)) qa16z qb16z qc16z (g := (mkF m 38 #[.val (.ref a), .val (.ref b4z), .val (.ref b_11z), .unset] [(.ref b_11z)])) rfl (by rw [hml]; rfl) (Steps.refl _) (argsL := []) (rest := []) (lenOf pd_462477782 rfl) rfl (by show 2 * 0 + _ ≤ _; exact Nat.le_of_eq rfl) (hb hby d_prog_14_method_2_code_38) (fun _ _ => ⟨rfl, K14zq, (by decide : 5 + 0 ≤ _), (by decide : 44 + 0 ≤ _)⟩)
  dsimp only [Pt.U, Pt.locs, Pt.cells, Pt.slots] at X16z l16z y16z z16z st16z hQ16z
  subst l16z y16z z16z
  obtain ⟨rfl, NQ16z, K16zq, r16z_0, r16z_1, r16z_2, r16z_3, r16z_4⟩ := hQ16z
  refine own_tr st16z ?_
  have N16z := Fr.app N14z NQ16z
  have O17z : Ext Z.heap T16z.heap := own_ext_keep O12z K16zq (allS r11z_1 all0)
  have K17z : Keep h0 T16z.heap [] := K12z.trans K16zq (allS (Or.inr lz_b_11z) all0)
  have Sn17z := Nat.le_trans Sn12z K16zq.1
  have r16z_2 : Fld Z T16z.heap b_11z "java/util/ArrayList$Itr" "cursor" "I" (.int (1 : Int32)) := r16z_2
  show own_G p e below (T16z.setTop (mkF m 43 #[.val (.ref a), .val (.ref b4z), .val (.ref b_11z), .unset] [(.ref x0)])) _
  refine own_go (fun t k => XS.astoreN X16z.here hx rfl (hb hby d_prog_14_method_2_code_43) rfl rfl (l' := #[.val (.ref a), .val (.ref b4z), .val (.ref b_11z), .val (.ref x0)]) rfl k) ?_
  refine own_go (fun t k => XS.aloadN X16z.here hx rfl (hb hby d_prog_14_method_2_code_44) rfl rfl k) ?_
  refine own_go (fun t k => XS.aloadN X16z.here hx rfl (hb hby d_prog_14_method_2_code_45) rfl rfl k) ?_
  obtain ⟨a18z, T18z, h18z, k18z, X18z, e18z, E18z, Si18z, Sn18z, hZ18z, hown18z, st18z⟩ := ldcS X16z hx hZ1z hown1z (own_hw hw 153 rfl) (own_wS hw) rfl Si1z Sn17z (g := (mkF m 46 #[.val (.ref a), .val (.ref b4z), .val (.ref b_11z), .val (.ref x0)] [(.ref x0), (.ref b4z)])) rfl (hb hby d_prog_14_method_2_code_46) (n := 84) (by decide) (by decide) (by decide) (by decide)
  refine own_go st18z ?_
  have O19z : Ext Z.heap h18z := own_ext_trans O17z E18z
  have K19z : Keep h0 h18z [] := K17z.ext E18z
  show own_G p e below (T18z.setTop (mkF m 48 #[.val (.ref a), .val (.ref b4z), .val (.ref b_11z), .val (.ref x0)] [(.ref a18z), (.ref x0), (.ref b4z)])) _
  obtain ⟨_, _, ⟨T20z, L20z, k20z, n20z⟩, -, X20z, ⟨Lc20z, hQ20z, l20z, y20z, z20z⟩, st20z⟩ := Jvm.LawKit.callS X18z hx (y := own_m19) hown18z (mvT hZ18z (own_hw hw 46 rfl)) (mvT hZ18z (own_hw hw 47 rfl)) (mvT hZ18z (own_hw hw 48 rfl)) (mvT hZ18z (own_hw hw 49 rfl)) (by decide) (backOf (W := 1) (own_rnn l Z a0 hw [] x0 a18z h18z O19z) hZ18z (own_hw hw 49 rfl) (own_hw hw 48 rfl) (by decide) (by decide)) (g := (mkF m 48 #[.val (.ref a), .val (.ref b4z), .val (.ref b_11z), .val (.ref x0)] [(.ref a18z), (.ref x0), (.ref b4z)])) rfl (by rw [hml]; rfl) (argsL := [(.ref x0), (.ref a18z)]) (rest := [(.ref b4z)]) (lenOf pd_3946442454 rfl) rfl (by show 2 * 0 + _ ≤ _; exact Nat.le_of_eq rfl) (hb hby d_prog_14_method_2_code_48) (fun _ _ => ⟨rfl, e18z, (by decide : 7 + 0 ≤ _), (by decide : 132 + 0 ≤ _)⟩)
  dsimp only [Pt.U, Pt.locs, Pt.cells, Pt.slots] at X20z l20z y20z z20z st20z hQ20z
  subst l20z y20z z20z
  obtain ⟨rfl, NQ20z, K20zq⟩ := hQ20z
  refine own_go st20z ?_
  have N20z := Fr.app N16z NQ20z
  show own_G p e below (T20z.setTop (mkF m 51 #[.val (.ref a), .val (.ref b4z), .val (.ref b_11z), .val (.ref x0)] [(.ref x0), (.ref b4z)])) _
  have f21z := ((((((q2.ext E1z).ext E4z).keep K7zq).keep K11zq).keep K16zq).ext E18z)
  have f22z := (((r7z_4.keep K11zq (by simp)).keep K16zq (by simp only [List.mem_cons, List.not_mem_nil, or_false, not_or]; exact ne_arr_7z_b_11z)).ext E18z)
  have f23z := (((r7z_5.keep K11zq (by simp)).keep K16zq (by simp only [List.mem_cons, List.not_mem_nil, or_false, not_or]; exact ne_b4z_b_11z)).ext E18z)
  have f24z := (((r7z_6.keep K11zq (by simp)).keep K16zq (by simp only [List.mem_cons, List.not_mem_nil, or_false, not_or]; exact ne_b4z_b_11z)).ext E18z)
  have f25z := (((r7z_7.keep K11zq (by simp)).keep K16zq (by simp only [List.mem_cons, List.not_mem_nil, or_false, not_or]; exact ne_b4z_b_11z)).ext E18z)
  obtain ⟨cq26z, kq26z, qa26z, qb26z, qc26z⟩ := isOf hZ18z K20zq (((r7z_0.keep K11zq).keep K16zq).ext E18z)
  obtain ⟨_, _, ⟨T26z, L26z, k26z, n26z⟩, -, X26z, ⟨Lc26z, hQ26z, l26z, y26z, z26z⟩, st26z⟩ := X20z.interfaceBack hx (xi := own_m25) (y := own_m8) hown18z (mvT hZ18z (own_hw hw 154 rfl)) (mvT hZ18z (own_hw hw 155 rfl)) (mvT hZ18z (own_hw hw 156 rfl)) (mvT hZ18z (own_hw hw 157 rfl)) (mvT hZ18z (own_hw hw 113 rfl)) (mvT hZ18z (own_hw hw 158 rfl)) (mvT hZ18z (own_hw hw 159 rfl)) (mvT hZ18z (own_hw hw 106 rfl)) (by decide) (backOf (W := 0) (own_add1 l Z a0 hw [] b4z x0 arr_7z kk_7z ([.null]) (0 : Int32) (0 : Int32) (1 : Int32) 0 h18z O19z (((r7z_0.keep K11zq).keep K16zq).ext E18z) fr_b4z r7z_1 f21z f22z r7z_3 (by decide) (by show (1 : Int32).toInt = ((1 : Nat) : Int); decide) (by show 0 < 1; decide) ne_b4z_arr_7z f23z f24z f25z) hZ18z (own_hw hw 115 rfl) (own_hw hw 10 rfl) (by decide) (by decide)) qa26z qb26z qc26z (g := (mkF m 51 #[.val (.ref a), .val (.ref b4z), .val (.ref b_11z), .val (.ref x0)] [(.ref x0), (.ref b4z)])) rfl (by rw [hml]; rfl) (Steps.refl _) (argsL := [(.ref x0)]) (rest := []) (lenOf pd_396412080 rfl) rfl (by show 2 * 0 + _ ≤ _; exact Nat.le_of_eq rfl) (hb hby d_prog_14_method_2_code_51) (fun _ _ => ⟨rfl, K20zq, (by decide : 7 + 0 ≤ _), (by decide : 132 + 0 ≤ _)⟩)
  dsimp only [Pt.U, Pt.locs, Pt.cells, Pt.slots] at X26z l26z y26z z26z st26z hQ26z
  subst l26z y26z z26z
  obtain ⟨rfl, NQ26z, K26zq, r26z_0, r26z_1, r26z_2, r26z_3, r26z_4⟩ := hQ26z
  refine own_tr st26z ?_
  have N26z := Fr.app N20z NQ26z
  have O27z : Ext Z.heap T26z.heap := own_ext_keep O19z K26zq (allS fr_b4z (allS r7z_1 all0))
  have K27z : Keep h0 T26z.heap [] := K19z.trans K26zq (allS (Or.inr lz_b4z) (allS (Or.inr lz_arr_7z) all0))
  have Sn27z := Nat.le_trans Sn18z K26zq.1
  have r26z_1 : own_A Z T26z.heap arr_7z kk_7z (.object "java/lang/Object") [(.ref x0)] := r26z_1
  have r26z_2 : Fld Z T26z.heap b4z "java/util/AbstractList" "modCount" "I" (.int (1 : Int32)) := r26z_2
  have r26z_4 : Fld Z T26z.heap b4z "java/util/ArrayList" "size" "I" (.int (1 : Int32)) := r26z_4
  show own_G p e below (T26z.setTop (mkF m 56 #[.val (.ref a), .val (.ref b4z), .val (.ref b_11z), .val (.ref x0)] [(.int (1 : Int32))])) _
  refine own_go (fun t k => XS.pop X26z.here hx rfl (hb hby d_prog_14_method_2_code_56) rfl rfl k) ?_
  refine own_go (fun t k => XS.goto X26z.here hx rfl (pc0 := 57) (pc' := 28) rfl (hb hby d_prog_14_method_2_code_57) (by decide) (by decide) k) ?_
  show own_G p e below (T26z.setTop (mkF m 28 #[.val (.ref a), .val (.ref b4z), .val (.ref b_11z), .val (.ref x0)] [])) _
  refine own_go (fun t k => XS.aloadN X26z.here hx rfl (hb hby d_prog_14_method_2_code_28) rfl rfl k) ?_
  have f28z := ((r16z_1.ext E18z).keep K26zq (by simp only [List.mem_cons, List.not_mem_nil, or_false, not_or]; exact ⟨(Ne.symm ne_b4z_b_11z), (Ne.symm ne_arr_7z_b_11z)⟩))
  have f29z := ((r16z_2.ext E18z).keep K26zq (by simp only [List.mem_cons, List.not_mem_nil, or_false, not_or]; exact ⟨(Ne.symm ne_b4z_b_11z), (Ne.symm ne_arr_7z_b_11z)⟩))
  have f30z := (((f13z.keep K16zq (by simp only [List.mem_cons, List.not_mem_nil, or_false, not_or]; exact ne_a_b_11z)).ext E18z).keep K26zq (by simp only [List.mem_cons, List.not_mem_nil, or_false, not_or]; exact ⟨ne_a_b4z, ne_a_arr_7z⟩))
  obtain ⟨cq31z, kq31z, qa31z, qb31z, qc31z⟩ := isOf hZ18z (rfl : T26z.heap = _) ((r16z_0.ext E18z).keep K26zq)
  obtain ⟨_, _, ⟨T31z, L31z, k31z, n31z⟩, -, X31z, ⟨Lc31z, hQ31z, l31z, y31z, z31z⟩, st31z⟩ := X26z.interfaceBack hx (xi := own_m23) (y := own_m16) hown18z (mvT hZ18z (own_hw hw 90 rfl)) (mvT hZ18z (own_hw hw 91 rfl)) (mvT hZ18z (own_hw hw 92 rfl)) (mvT hZ18z (own_hw hw 93 rfl)) (mvT hZ18z (own_hw hw 94 rfl)) (mvT hZ18z (own_hw hw 95 rfl)) (mvT hZ18z (own_hw hw 96 rfl)) (mvT hZ18z (own_hw hw 97 rfl)) (by decide) (backOf (W := 0) (own_hn0 l Z a0 hw [] b_11z a (1 : Int32) (1 : Int32) T26z.heap O27z f28z f29z f30z (by decide)) hZ18z (own_hw hw 98 rfl) (own_hw hw 76 rfl) (by decide) (by decide)) qa31z qb31z qc31z (g := (mkF m 29 #[.val (.ref a), .val (.ref b4z), .val (.ref b_11z), .val (.ref x0)] [(.ref b_11z)])) rfl (by rw [hml]; rfl) (Steps.refl _) (argsL := []) (rest := []) (lenOf pd_193422000 rfl) rfl (by show 2 * 0 + _ ≤ _; exact Nat.le_of_eq rfl) (hb hby d_prog_14_method_2_code_29) (fun _ _ => ⟨rfl, rfl, (by decide : 7 + 0 ≤ _), (by decide : 132 + 0 ≤ _)⟩)
  dsimp only [Pt.U, Pt.locs, Pt.cells, Pt.slots] at X31z l31z y31z z31z st31z hQ31z
  subst l31z y31z z31z
  obtain ⟨rfl, NQ31z, K31zq⟩ := hQ31z
  refine own_tr st31z ?_
  have N31z := Fr.app N26z NQ31z
  show own_G p e below (T31z.setTop (mkF m 34 #[.val (.ref a), .val (.ref b4z), .val (.ref b_11z), .val (.ref x0)] [(.int (0 : Int32))])) _
  refine own_go (fun t k => XS.ifYes X31z.here hx rfl (pc0 := 34) (pc' := 60) rfl (hb hby d_prog_14_method_2_code_34) rfl ((if0 _ _).trans (teq (by decide : (0 : Int32) = (0 : Int32))).1) (by decide) (by decide) k) ?_
  show own_G p e below (T31z.setTop (mkF m 60 #[.val (.ref a), .val (.ref b4z), .val (.ref b_11z), .val (.ref x0)] [])) _
  refine own_go (fun t k => XS.aloadN X31z.here hx rfl (hb hby d_prog_14_method_2_code_60) rfl rfl k) ?_
  exact own_retW X31z Si18z (by rw [K31zq]; exact Sn27z) hx Bd.returns rfl (Or.inr (Or.inr (Or.inr (Or.inr ⟨rfl, rfl, rfl⟩)))) (hb hby d_prog_14_method_2_code_61) hlk (Nat.le_of_ble_eq_true rfl) (Nat.le_of_ble_eq_true rfl) (by show Q_own_copy1 Z a mc x0 arr kk h0 _ T31z.heap _; rw [K31zq]; exact ⟨b4z, arr_7z, kk_7z, rfl, N31z, K27z, r26z_0, lz_b4z, r26z_1, r26z_2, r26z_3, r26z_4, lz_arr_7z⟩)
theorem ef_own_copy2 (m : MethodId) (x0 : Addr) : entryFrame m #[(.ref x0)] 4 = mkF m 0 #[.val (.ref x0), .unset, .unset, .unset] [] := by first | (simp [entryFrame, mkF, argsToLocals, Value.category]; done) | rfl
theorem pf_own_copy2 : plainFor own_m20 = true := plainFor_of_name (by simp [plainName, overriddenIn])
def Q_own_copy2 (Z : State) (a : Addr) (mc : Int32) (x0 : Addr) (x1 : Addr) (arr : Addr) (kk : ClassId) (h0 : Heap) (v : Option Value) (h : Heap) (L : List Loc) : Prop := ∃ r : Addr, ∃ ar : Addr, ∃ kr : ClassId, v = some (.ref r) ∧ Fr Z.heap.size L ∧ Keep h0 h [] ∧ (Exa Z h r "java/util/ArrayList") ∧ (h0.size ≤ r) ∧ (own_A Z h ar kr (.object "java/lang/Object") [(.ref x0), (.ref x1)]) ∧ (Fld Z h r "java/util/AbstractList" "modCount" "I" (.int (2 : Int32))) ∧ (Fld Z h r "java/util/ArrayList" "elementData" "[Ljava/lang/Object;" (.ref ar)) ∧ (Fld Z h r "java/util/ArrayList" "size" "I" (.int (2 : Int32))) ∧ (h0.size ≤ ar)
set_option maxRecDepth 65536 in
set_option maxHeartbeats 40000000 in
theorem own_copy2 (l : Launch) (Z : State) (a0 : Array Value) (hw : ∀ d ∈ tables_1, d.before a0 Z = true) (ws : List Jvm.Cond) (a : Addr) (mc : Int32) (x0 : Addr) (x1 : Addr) (arr : Addr) (kk : ClassId) (h0 : Heap) (O0 : Ext Z.heap h0) (q0 : own_A Z h0 arr kk (.object "java/lang/Object") [(.ref x0), (.ref x1), .null, .null, .null, .null, .null, .null, .null, .null]) (q1 : Exa Z h0 a "java/util/ArrayList") (q2 : Exa Z h0 x0 "java/lang/Integer") (q3 : Exa Z h0 x1 "java/lang/Integer") (q4 : Fld Z h0 a "java/util/AbstractList" "modCount" "I" (.int mc)) (q5 : Fld Z h0 a "java/util/ArrayList" "elementData" "[Ljava/lang/Object;" (.ref arr)) (q6 : Fld Z h0 a "java/util/ArrayList" "size" "I" (.int (2 : Int32))) :
    MetFree l own_m20 (head1 (Jvm.Cond.code own_m20 prog_14_method_2_code 4 (some (.object "java/util/List")) :: ws) ({ frames := 4, cells := 9, slots := 221, locals := 60 } : Room)) (fun aa U => aa = #[(.ref a)] ∧ Z.Warmed39 U.vm ∧ U.heap = h0) (fun _ _ _ _ _ => True) (fun _ U o U' => ∃ v L, o = .returned v ∧ Q_own_copy2 Z a mc x0 x1 arr kk h0 v U'.heap L ∧ ReturnedEndW U o U' L ({ frames := 4, cells := 9, slots := 221, locals := 60 } : Room).cells ({ frames := 4, cells := 9, slots := 221, locals := 60 } : Room).slots) := by
  refine MetFree.of_bodySF pf_own_copy2 hisR ?_
  intro p e s m args below meth c s₁ Bd hml0 hP hK
  obtain ⟨rfl, hZ, hh⟩ := hP
  have hx := Bd.exec
  have hby := Bd.bytes
  have hlk := BodyLoose.notSynchronized Bd
  have hml : c.maxLocals = 4 := hml0
  have hown : s.vm.findClass "com/example/etapa/etapa/mongodb/EntityBatch" = some m.cls := findClass_of_methodNamed Bd.named
  have hnm := (name_of_methodNamed Bd.named Bd.method).1
  have X0 : Stand p l e ({ frames := 4, cells := 9, slots := 221, locals := 60 } : Room) s m #[(.ref a)] below meth c s₁ [] 0 0 := Stand.of_body Bd
  have e0 : s₁.heap = h0 := by rw [← hh, Bd.state]; rfl
  have N0 := Fr.nil Z.heap.size
  have K0 : Keep h0 h0 [] := Keep.refl _ _
  have Si0 : s.Since s.vm h0.size := (State.WarmedH.refl s).since h0.size
  have Sn0 : h0.size ≤ h0.size := Nat.le_refl _
  have hZ : Z.Warmed39 (s.setVm s.vm).vm := hZ
  have hown : (s.setVm s.vm).vm.findClass "com/example/etapa/etapa/mongodb/EntityBatch" = some m.cls := hown
  have X0 := (show Stand _ _ _ _ (s.setVm s.vm) _ _ _ _ _ _ _ _ _ from X0)
  refine own_startW (Q := Q_own_copy2 Z a mc x0 x1 arr kk h0) (ef_own_copy2 m (a)) ?_
  show own_G p e below (s₁.setTop (mkF m 0 #[.val (.ref a), .unset, .unset, .unset] [])) _
  refine own_go (fun t k => XS.aloadN X0.here hx rfl (hb hby d_prog_14_method_2_code_0) rfl rfl k) ?_
  obtain ⟨a1z, T1z, h1z, k1z, X1z, e1z, E1z, Si1z, Sn1z, hZ1z, hown1z, st1z⟩ := ldcS X0 hx hZ hown (own_hw hw 38 rfl) (own_wS hw) e0 Si0 Sn0 (g := (mkF m 1 #[.val (.ref a), .unset, .unset, .unset] [(.ref a)])) rfl (hb hby d_prog_14_method_2_code_1) (n := 32) (by decide) (by decide) (by decide) (by decide)
  refine own_go st1z ?_
  have O2z : Ext Z.heap h1z := own_ext_trans O0 E1z
  have K2z : Keep h0 h1z [] := K0.ext E1z
  show own_G p e below (T1z.setTop (mkF m 3 #[.val (.ref a), .unset, .unset, .unset] [(.ref a1z), (.ref a)])) _
  obtain ⟨_, _, ⟨T3z, L3z, k3z, n3z⟩, -, X3z, ⟨Lc3z, hQ3z, l3z, y3z, z3z⟩, st3z⟩ := Jvm.LawKit.callS X1z hx (y := own_m19) hown1z (mvT hZ1z (own_hw hw 46 rfl)) (mvT hZ1z (own_hw hw 47 rfl)) (mvT hZ1z (own_hw hw 48 rfl)) (mvT hZ1z (own_hw hw 49 rfl)) (by decide) (backOf (W := 0) (own_rnn l Z a0 hw [] a a1z h1z O2z) hZ1z (own_hw hw 49 rfl) (own_hw hw 48 rfl) (by decide) (by decide)) (g := (mkF m 3 #[.val (.ref a), .unset, .unset, .unset] [(.ref a1z), (.ref a)])) rfl (by rw [hml]; rfl) (argsL := [(.ref a), (.ref a1z)]) (rest := []) (lenOf pd_3946442454 rfl) rfl (by show 2 * 0 + _ ≤ _; exact Nat.le_of_eq rfl) (hb hby d_prog_14_method_2_code_3) (fun _ _ => ⟨rfl, e1z, (by decide : 2 + 0 ≤ _), (by decide : 36 + 0 ≤ _)⟩)
  dsimp only [Pt.U, Pt.locs, Pt.cells, Pt.slots] at X3z l3z y3z z3z st3z hQ3z
  subst l3z y3z z3z
  obtain ⟨rfl, NQ3z, K3zq⟩ := hQ3z
  refine own_go st3z ?_
  have N3z := Fr.app N0 NQ3z
  show own_G p e below (T3z.setTop (mkF m 6 #[.val (.ref a), .unset, .unset, .unset] [(.ref a)])) _
  refine own_go (fun t k => XS.pop X3z.here hx rfl (hb hby d_prog_14_method_2_code_6) rfl rfl k) ?_
  obtain ⟨T4z, h4z, X4z, e4z, E4z, A4z, D4z, -, st4z⟩ := newO X3z hx hZ1z hown1z (own_hw hw 50 rfl) (own_hw hw 9 rfl) (own_hw hw 10 rfl) K3zq (g := (mkF m 7 #[.val (.ref a), .unset, .unset, .unset] [])) rfl (hb hby d_prog_14_method_2_code_7) (by decide) (by decide)
  obtain ⟨b4z, g4z⟩ : ∃ z, z = h1z.size := ⟨_, rfl⟩
  rw [← g4z] at A4z D4z st4z
  have fr_b4z : Z.heap.size ≤ b4z := g4z ▸ O2z.1
  have lz_b4z : h0.size ≤ b4z := g4z ▸ K2z.1
  have ne_arr_b4z : arr ≠ b4z := Nat.ne_of_lt (g4z ▸ (q0.ext E1z).lt)
  have ne_a_b4z : a ≠ b4z := Nat.ne_of_lt (g4z ▸ (q1.ext E1z).lt)
  have ne_x0_b4z : x0 ≠ b4z := Nat.ne_of_lt (g4z ▸ (q2.ext E1z).lt)
  have ne_x1_b4z : x1 ≠ b4z := Nat.ne_of_lt (g4z ▸ (q3.ext E1z).lt)
  have O5z : Ext Z.heap h4z := own_ext_trans O2z E4z
  have K5z : Keep h0 h4z [] := K2z.ext E4z
  have Sn5z := Nat.le_trans Sn1z E4z.1
  have F4z_modCount : Fld Z h4z b4z "java/util/AbstractList" "modCount" "I" (.int (0 : Int32)) := D4z (Or.inl (own_hw hw 30 rfl)) (ty := .int) (by decide)
  have F4z_elementData : Fld Z h4z b4z "java/util/ArrayList" "elementData" "[Ljava/lang/Object;" .null := D4z (Or.inl (own_hw hw 33 rfl)) (ty := (.array (.object "java/lang/Object"))) (by decide)
  have F4z_size : Fld Z h4z b4z "java/util/ArrayList" "size" "I" (.int (0 : Int32)) := D4z (Or.inl (own_hw hw 61 rfl)) (ty := .int) (by decide)
  refine own_go st4z ?_
  refine own_go (fun t k => XS.dup X4z.here hx rfl (hb hby d_prog_14_method_2_code_10) rfl rfl k) ?_
  refine own_go (fun t k => XS.aloadN X4z.here hx rfl (hb hby d_prog_14_method_2_code_11) rfl rfl k) ?_
  show own_G p e below (T4z.setTop (mkF m 12 #[.val (.ref a), .unset, .unset, .unset] [(.ref a), (.ref b4z), (.ref b4z)])) _
  obtain ⟨cq6z, kq6z, qa6z, qb6z, qc6z⟩ := isOf hZ1z e4z ((q1.ext E1z).ext E4z)
  obtain ⟨_, _, ⟨T6z, L6z, k6z, n6z⟩, -, X6z, ⟨Lc6z, hQ6z, l6z, y6z, z6z⟩, st6z⟩ := X4z.interfaceBack hx (xi := own_m21) (y := own_m9) hown1z (mvT hZ1z (own_hw hw 51 rfl)) (mvT hZ1z (own_hw hw 52 rfl)) (mvT hZ1z (own_hw hw 53 rfl)) (mvT hZ1z (own_hw hw 54 rfl)) (mvT hZ1z (own_hw hw 55 rfl)) (mvT hZ1z (own_hw hw 56 rfl)) (mvT hZ1z (own_hw hw 57 rfl)) (mvT hZ1z (own_hw hw 58 rfl)) (by decide) (backOf (W := 2) (own_size l Z a0 hw [] a (2 : Int32) h4z O5z ((q6.ext E1z).ext E4z)) hZ1z (own_hw hw 59 rfl) (own_hw hw 10 rfl) (by decide) (by decide)) qa6z qb6z qc6z (g := (mkF m 12 #[.val (.ref a), .unset, .unset, .unset] [(.ref a), (.ref b4z), (.ref b4z)])) rfl (by rw [hml]; rfl) (Steps.refl _) (argsL := []) (rest := [(.ref b4z), (.ref b4z)]) (lenOf pd_193421983 rfl) rfl (by show 2 * 0 + _ ≤ _; exact Nat.le_of_eq rfl) (hb hby d_prog_14_method_2_code_12) (fun _ _ => ⟨rfl, e4z, (by decide : 3 + 0 ≤ _), (by decide : 39 + 0 ≤ _)⟩)
  dsimp only [Pt.U, Pt.locs, Pt.cells, Pt.slots] at X6z l6z y6z z6z st6z hQ6z
  subst l6z y6z z6z
  obtain ⟨rfl, NQ6z, K6zq⟩ := hQ6z
  refine own_tr st6z ?_
  have N6z := Fr.app N3z NQ6z
  show own_G p e below (T6z.setTop (mkF m 17 #[.val (.ref a), .unset, .unset, .unset] [(.int (2 : Int32)), (.ref b4z), (.ref b4z)])) _
  obtain ⟨_, _, ⟨T7z, L7z, k7z, n7z⟩, -, X7z, ⟨Lc7z, hQ7z, l7z, y7z, z7z⟩, st7z⟩ := X6z.specialBack hx (y := own_m3) rfl hown1z (mvT hZ1z (own_hw hw 62 rfl)) (mvT hZ1z (own_hw hw 63 rfl)) (mvT hZ1z (own_hw hw 64 rfl)) (by decide) (backOf (W := 1) (own_aln2 l Z a0 hw [] b4z h4z O5z A4z fr_b4z F4z_modCount F4z_elementData F4z_size) hZ1z (own_hw hw 64 rfl) (own_hw hw 10 rfl) (by decide) (by decide)) (g := (mkF m 17 #[.val (.ref a), .unset, .unset, .unset] [(.int (2 : Int32)), (.ref b4z), (.ref b4z)])) rfl (by rw [hml]; rfl) (Steps.refl _) (a := b4z) (argsL := [(.int (2 : Int32))]) (rest := [(.ref b4z)]) (lenOf pd_2087992021 rfl) rfl (by show 2 * 0 + _ ≤ _; exact Nat.le_of_eq rfl) (hb hby d_prog_14_method_2_code_17) (fun _ _ => ⟨rfl, K6zq, (by decide : 3 + 1 ≤ _), (by decide : 39 + 2 ≤ _)⟩)
  dsimp only [Pt.U, Pt.locs, Pt.cells, Pt.slots] at X7z l7z y7z z7z st7z hQ7z
  subst l7z y7z z7z
  obtain ⟨arr_7z, kk_7z, rfl, NQ7z, K7zq, r7z_0, r7z_1, r7z_2, r7z_3, r7z_4, r7z_5, r7z_6, r7z_7⟩ := hQ7z
  refine own_tr st7z ?_
  have N7z := Fr.app N6z NQ7z
  have O8z : Ext Z.heap T7z.heap := own_ext_keep O5z K7zq (allS fr_b4z all0)
  have K8z : Keep h0 T7z.heap [] := K5z.trans K7zq (allS (Or.inr lz_b4z) all0)
  have Sn8z := Nat.le_trans Sn5z K7zq.1
  have lz_arr_7z : h0.size ≤ arr_7z := Nat.le_trans K5z.1 r7z_2
  have ne_arr_arr_7z : arr ≠ arr_7z := Nat.ne_of_lt (Nat.lt_of_lt_of_le ((q0.ext E1z).ext E4z).lt r7z_2)
  have ne_a_arr_7z : a ≠ arr_7z := Nat.ne_of_lt (Nat.lt_of_lt_of_le ((q1.ext E1z).ext E4z).lt r7z_2)
  have ne_x0_arr_7z : x0 ≠ arr_7z := Nat.ne_of_lt (Nat.lt_of_lt_of_le ((q2.ext E1z).ext E4z).lt r7z_2)
  have ne_x1_arr_7z : x1 ≠ arr_7z := Nat.ne_of_lt (Nat.lt_of_lt_of_le ((q3.ext E1z).ext E4z).lt r7z_2)
  have ne_b4z_arr_7z : b4z ≠ arr_7z := Nat.ne_of_lt (Nat.lt_of_lt_of_le A4z.lt r7z_2)
  show own_G p e below (T7z.setTop (mkF m 20 #[.val (.ref a), .unset, .unset, .unset] [(.ref b4z)])) _
  refine own_go (fun t k => XS.astoreN X7z.here hx rfl (hb hby d_prog_14_method_2_code_20) rfl rfl (l' := #[.val (.ref a), .val (.ref b4z), .unset, .unset]) rfl k) ?_
  refine own_go (fun t k => XS.aloadN X7z.here hx rfl (hb hby d_prog_14_method_2_code_21) rfl rfl k) ?_
  have f9z := (((q4.ext E1z).ext E4z).keep K7zq (by simp only [List.mem_cons, List.not_mem_nil, or_false, not_or]; exact ne_a_b4z))
  have f10z := (((q0.ext E1z).ext E4z).keep K7zq (by simp only [List.mem_cons, List.not_mem_nil, or_false, not_or]; exact ne_arr_b4z))
  obtain ⟨cq11z, kq11z, qa11z, qb11z, qc11z⟩ := isOf hZ1z (rfl : T7z.heap = _) (((q1.ext E1z).ext E4z).keep K7zq)
  obtain ⟨_, _, ⟨T11z, L11z, k11z, n11z⟩, -, X11z, ⟨Lc11z, hQ11z, l11z, y11z, z11z⟩, st11z⟩ := X7z.interfaceBack hx (xi := own_m22) (y := own_m15) hown1z (mvT hZ1z (own_hw hw 66 rfl)) (mvT hZ1z (own_hw hw 67 rfl)) (mvT hZ1z (own_hw hw 68 rfl)) (mvT hZ1z (own_hw hw 69 rfl)) (mvT hZ1z (own_hw hw 70 rfl)) (mvT hZ1z (own_hw hw 71 rfl)) (mvT hZ1z (own_hw hw 72 rfl)) (mvT hZ1z (own_hw hw 58 rfl)) (by decide) (backOf (W := 0) (own_itr l Z a0 hw [] a mc T7z.heap O8z f9z) hZ1z (own_hw hw 73 rfl) (own_hw hw 10 rfl) (by decide) (by decide)) qa11z qb11z qc11z (g := (mkF m 22 #[.val (.ref a), .val (.ref b4z), .unset, .unset] [(.ref a)])) rfl (by rw [hml]; rfl) (Steps.refl _) (argsL := []) (rest := []) (lenOf pd_1636828997 rfl) rfl (by show 2 * 0 + _ ≤ _; exact Nat.le_of_eq rfl) (hb hby d_prog_14_method_2_code_22) (fun _ _ => ⟨rfl, rfl, (by decide : 4 + 1 ≤ _), (by decide : 41 + 4 ≤ _)⟩)
  dsimp only [Pt.U, Pt.locs, Pt.cells, Pt.slots] at X11z l11z y11z z11z st11z hQ11z
  subst l11z y11z z11z
  obtain ⟨b_11z, rfl, NQ11z, K11zq, r11z_0, r11z_1, r11z_2, r11z_3, r11z_4, r11z_5, r11z_6⟩ := hQ11z
  refine own_tr st11z ?_
  have N11z := Fr.app N7z NQ11z
  have O12z : Ext Z.heap T11z.heap := own_ext_keep O8z K11zq all0
  have K12z : Keep h0 T11z.heap [] := K8z.trans K11zq all0
  have Sn12z := Nat.le_trans Sn8z K11zq.1
  have lz_b_11z : h0.size ≤ b_11z := Nat.le_trans K8z.1 r11z_2
  have ne_arr_b_11z : arr ≠ b_11z := Nat.ne_of_lt (Nat.lt_of_lt_of_le f10z.lt r11z_2)
  have ne_a_b_11z : a ≠ b_11z := Nat.ne_of_lt (Nat.lt_of_lt_of_le (((q1.ext E1z).ext E4z).keep K7zq).lt r11z_2)
  have ne_x0_b_11z : x0 ≠ b_11z := Nat.ne_of_lt (Nat.lt_of_lt_of_le (((q2.ext E1z).ext E4z).keep K7zq).lt r11z_2)
  have ne_x1_b_11z : x1 ≠ b_11z := Nat.ne_of_lt (Nat.lt_of_lt_of_le (((q3.ext E1z).ext E4z).keep K7zq).lt r11z_2)
  have ne_b4z_b_11z : b4z ≠ b_11z := Nat.ne_of_lt (Nat.lt_of_lt_of_le r7z_0.lt r11z_2)
  have ne_arr_7z_b_11z : arr_7z ≠ b_11z := Nat.ne_of_lt (Nat.lt_of_lt_of_le r7z_4.lt r11z_2)
  show own_G p e below (T11z.setTop (mkF m 27 #[.val (.ref a), .val (.ref b4z), .unset, .unset] [(.ref b_11z)])) _
  refine own_go (fun t k => XS.astoreN X11z.here hx rfl (hb hby d_prog_14_method_2_code_27) rfl rfl (l' := #[.val (.ref a), .val (.ref b4z), .val (.ref b_11z), .unset]) rfl k) ?_
  refine own_go (fun t k => XS.aloadN X11z.here hx rfl (hb hby d_prog_14_method_2_code_28) rfl rfl k) ?_
  have f13z := ((((q6.ext E1z).ext E4z).keep K7zq (by simp only [List.mem_cons, List.not_mem_nil, or_false, not_or]; exact ne_a_b4z)).keep K11zq (by simp))
  obtain ⟨cq14z, kq14z, qa14z, qb14z, qc14z⟩ := isOf hZ1z (rfl : T11z.heap = _) r11z_0
  obtain ⟨_, _, ⟨T14z, L14z, k14z, n14z⟩, -, X14z, ⟨Lc14z, hQ14z, l14z, y14z, z14z⟩, st14z⟩ := X11z.interfaceBack hx (xi := own_m23) (y := own_m16) hown1z (mvT hZ1z (own_hw hw 90 rfl)) (mvT hZ1z (own_hw hw 91 rfl)) (mvT hZ1z (own_hw hw 92 rfl)) (mvT hZ1z (own_hw hw 93 rfl)) (mvT hZ1z (own_hw hw 94 rfl)) (mvT hZ1z (own_hw hw 95 rfl)) (mvT hZ1z (own_hw hw 96 rfl)) (mvT hZ1z (own_hw hw 97 rfl)) (by decide) (backOf (W := 0) (own_hn1 l Z a0 hw [] b_11z a (0 : Int32) (2 : Int32) T11z.heap O12z r11z_3 r11z_4 f13z (by decide)) hZ1z (own_hw hw 98 rfl) (own_hw hw 76 rfl) (by decide) (by decide)) qa14z qb14z qc14z (g := (mkF m 29 #[.val (.ref a), .val (.ref b4z), .val (.ref b_11z), .unset] [(.ref b_11z)])) rfl (by rw [hml]; rfl) (Steps.refl _) (argsL := []) (rest := []) (lenOf pd_193422000 rfl) rfl (by show 2 * 0 + _ ≤ _; exact Nat.le_of_eq rfl) (hb hby d_prog_14_method_2_code_29) (fun _ _ => ⟨rfl, rfl, (by decide : 5 + 0 ≤ _), (by decide : 45 + 0 ≤ _)⟩)
  dsimp only [Pt.U, Pt.locs, Pt.cells, Pt.slots] at X14z l14z y14z z14z st14z hQ14z
  subst l14z y14z z14z
  obtain ⟨rfl, NQ14z, K14zq⟩ := hQ14z
  refine own_tr st14z ?_
  have N14z := Fr.app N11z NQ14z
  show own_G p e below (T14z.setTop (mkF m 34 #[.val (.ref a), .val (.ref b4z), .val (.ref b_11z), .unset] [(.int (1 : Int32))])) _
  refine own_go (fun t k => XS.ifNo X14z.here hx rfl (hb hby d_prog_14_method_2_code_34) rfl ((if0 _ _).trans (feq (by decide : ¬ ((1 : Int32) = (0 : Int32)))).1) k) ?_
  show own_G p e below (T14z.setTop (mkF m 37 #[.val (.ref a), .val (.ref b4z), .val (.ref b_11z), .unset] [])) _
  refine own_go (fun t k => XS.aloadN X14z.here hx rfl (hb hby d_prog_14_method_2_code_37) rfl rfl k) ?_
  have f15z := ((((q5.ext E1z).ext E4z).keep K7zq (by simp only [List.mem_cons, List.not_mem_nil, or_false, not_or]; exact ne_a_b4z)).keep K11zq (by simp))
  obtain ⟨cq16z, kq16z, qa16z, qb16z, qc16z⟩ := isOf hZ1z K14zq r11z_0
  obtain ⟨_, _, ⟨T16z, L16z, k16z, n16z⟩, -, X16z, ⟨Lc16z, hQ16z, l16z, y16z, z16z⟩, st16z⟩ := X14z.interfaceBack hx (xi := own_m24) (y := own_m18) hown1z (mvT hZ1z (own_hw hw 139 rfl)) (mvT hZ1z (own_hw hw 140 rfl)) (mvT hZ1z (own_hw hw 141 rfl)) (mvT hZ1z (own_hw hw 142 rfl)) (mvT hZ1z (own_hw hw 143 rfl)) (mvT hZ1z (own_hw hw 144 rfl)) (mvT hZ1z (own_hw hw 145 rfl)) (mvT hZ1z (own_hw hw 97 rfl)) (by decide) (backOf (W := 0) (own_next l Z a0 hw [] b_11z a mc (0 : Int32) (-1 : Int32) (2 : Int32) arr kk ([(.ref x0), (.ref x1), .null, .null, .null, .null, .null, .null, .null, .null]) 0 x0 (10 : Int32) T11z.heap O12z r11z_0 r11z_1 r11z_3 r11z_4 r11z_5 r11z_6 (f9z.keep K11zq (by simp)) f13z f15z (f10z.keep K11zq (by simp)) (by decide) rfl (by decide) (by show (10 : Int32).toInt = ((10 : Nat) : Int); decide) (by decide) ne_a_b_11z ne_arr_b_11z) hZ1z (own_hw hw 146 rfl) (own_hw hw 76 rfl) (by decide) (by decide)) qa16z qb16z qc16z (g := (mkF m 38 #[.val (.ref a), .val (.ref b4z), .val (.ref b_11z), .unset] [(.ref b_11z)])) rfl (by rw [hml]; rfl) (Steps.refl _) (argsL := []) (rest := []) (lenOf pd_462477782 rfl) rfl (by show 2 * 0 + _ ≤ _; exact Nat.le_of_eq rfl) (hb hby d_prog_14_method_2_code_38) (fun _ _ => ⟨rfl, K14zq, (by decide : 5 + 0 ≤ _), (by decide : 45 + 0 ≤ _)⟩)
  dsimp only [Pt.U, Pt.locs, Pt.cells, Pt.slots] at X16z l16z y16z z16z st16z hQ16z
  subst l16z y16z z16z
  obtain ⟨rfl, NQ16z, K16zq, r16z_0, r16z_1, r16z_2, r16z_3, r16z_4⟩ := hQ16z
  refine own_tr st16z ?_
  have N16z := Fr.app N14z NQ16z
  have O17z : Ext Z.heap T16z.heap := own_ext_keep O12z K16zq (allS r11z_1 all0)
  have K17z : Keep h0 T16z.heap [] := K12z.trans K16zq (allS (Or.inr lz_b_11z) all0)
  have Sn17z := Nat.le_trans Sn12z K16zq.1
  have r16z_2 : Fld Z T16z.heap b_11z "java/util/ArrayList$Itr" "cursor" "I" (.int (1 : Int32)) := r16z_2
  show own_G p e below (T16z.setTop (mkF m 43 #[.val (.ref a), .val (.ref b4z), .val (.ref b_11z), .unset] [(.ref x0)])) _
  refine own_go (fun t k => XS.astoreN X16z.here hx rfl (hb hby d_prog_14_method_2_code_43) rfl rfl (l' := #[.val (.ref a), .val (.ref b4z), .val (.ref b_11z), .val (.ref x0)]) rfl k) ?_
  refine own_go (fun t k => XS.aloadN X16z.here hx rfl (hb hby d_prog_14_method_2_code_44) rfl rfl k) ?_
  refine own_go (fun t k => XS.aloadN X16z.here hx rfl (hb hby d_prog_14_method_2_code_45) rfl rfl k) ?_
  obtain ⟨a18z, T18z, h18z, k18z, X18z, e18z, E18z, Si18z, Sn18z, hZ18z, hown18z, st18z⟩ := ldcS X16z hx hZ1z hown1z (own_hw hw 153 rfl) (own_wS hw) rfl Si1z Sn17z (g := (mkF m 46 #[.val (.ref a), .val (.ref b4z), .val (.ref b_11z), .val (.ref x0)] [(.ref x0), (.ref b4z)])) rfl (hb hby d_prog_14_method_2_code_46) (n := 84) (by decide) (by decide) (by decide) (by decide)
  refine own_go st18z ?_
  have O19z : Ext Z.heap h18z := own_ext_trans O17z E18z
  have K19z : Keep h0 h18z [] := K17z.ext E18z
  show own_G p e below (T18z.setTop (mkF m 48 #[.val (.ref a), .val (.ref b4z), .val (.ref b_11z), .val (.ref x0)] [(.ref a18z), (.ref x0), (.ref b4z)])) _
  obtain ⟨_, _, ⟨T20z, L20z, k20z, n20z⟩, -, X20z, ⟨Lc20z, hQ20z, l20z, y20z, z20z⟩, st20z⟩ := Jvm.LawKit.callS X18z hx (y := own_m19) hown18z (mvT hZ18z (own_hw hw 46 rfl)) (mvT hZ18z (own_hw hw 47 rfl)) (mvT hZ18z (own_hw hw 48 rfl)) (mvT hZ18z (own_hw hw 49 rfl)) (by decide) (backOf (W := 1) (own_rnn l Z a0 hw [] x0 a18z h18z O19z) hZ18z (own_hw hw 49 rfl) (own_hw hw 48 rfl) (by decide) (by decide)) (g := (mkF m 48 #[.val (.ref a), .val (.ref b4z), .val (.ref b_11z), .val (.ref x0)] [(.ref a18z), (.ref x0), (.ref b4z)])) rfl (by rw [hml]; rfl) (argsL := [(.ref x0), (.ref a18z)]) (rest := [(.ref b4z)]) (lenOf pd_3946442454 rfl) rfl (by show 2 * 0 + _ ≤ _; exact Nat.le_of_eq rfl) (hb hby d_prog_14_method_2_code_48) (fun _ _ => ⟨rfl, e18z, (by decide : 7 + 0 ≤ _), (by decide : 133 + 0 ≤ _)⟩)
  dsimp only [Pt.U, Pt.locs, Pt.cells, Pt.slots] at X20z l20z y20z z20z st20z hQ20z
  subst l20z y20z z20z
  obtain ⟨rfl, NQ20z, K20zq⟩ := hQ20z
  refine own_go st20z ?_
  have N20z := Fr.app N16z NQ20z
  show own_G p e below (T20z.setTop (mkF m 51 #[.val (.ref a), .val (.ref b4z), .val (.ref b_11z), .val (.ref x0)] [(.ref x0), (.ref b4z)])) _
  have f21z := ((((((q2.ext E1z).ext E4z).keep K7zq).keep K11zq).keep K16zq).ext E18z)
  have f22z := (((r7z_4.keep K11zq (by simp)).keep K16zq (by simp only [List.mem_cons, List.not_mem_nil, or_false, not_or]; exact ne_arr_7z_b_11z)).ext E18z)
  have f23z := (((r7z_5.keep K11zq (by simp)).keep K16zq (by simp only [List.mem_cons, List.not_mem_nil, or_false, not_or]; exact ne_b4z_b_11z)).ext E18z)
  have f24z := (((r7z_6.keep K11zq (by simp)).keep K16zq (by simp only [List.mem_cons, List.not_mem_nil, or_false, not_or]; exact ne_b4z_b_11z)).ext E18z)
  have f25z := (((r7z_7.keep K11zq (by simp)).keep K16zq (by simp only [List.mem_cons, List.not_mem_nil, or_false, not_or]; exact ne_b4z_b_11z)).ext E18z)
  obtain ⟨cq26z, kq26z, qa26z, qb26z, qc26z⟩ := isOf hZ18z K20zq (((r7z_0.keep K11zq).keep K16zq).ext E18z)
  obtain ⟨_, _, ⟨T26z, L26z, k26z, n26z⟩, -, X26z, ⟨Lc26z, hQ26z, l26z, y26z, z26z⟩, st26z⟩ := X20z.interfaceBack hx (xi := own_m25) (y := own_m8) hown18z (mvT hZ18z (own_hw hw 154 rfl)) (mvT hZ18z (own_hw hw 155 rfl)) (mvT hZ18z (own_hw hw 156 rfl)) (mvT hZ18z (own_hw hw 157 rfl)) (mvT hZ18z (own_hw hw 113 rfl)) (mvT hZ18z (own_hw hw 158 rfl)) (mvT hZ18z (own_hw hw 159 rfl)) (mvT hZ18z (own_hw hw 106 rfl)) (by decide) (backOf (W := 0) (own_add1 l Z a0 hw [] b4z x0 arr_7z kk_7z ([.null, .null]) (0 : Int32) (0 : Int32) (2 : Int32) 0 h18z O19z (((r7z_0.keep K11zq).keep K16zq).ext E18z) fr_b4z r7z_1 f21z f22z r7z_3 (by decide) (by show (2 : Int32).toInt = ((2 : Nat) : Int); decide) (by show 0 < 2; decide) ne_b4z_arr_7z f23z f24z f25z) hZ18z (own_hw hw 115 rfl) (own_hw hw 10 rfl) (by decide) (by decide)) qa26z qb26z qc26z (g := (mkF m 51 #[.val (.ref a), .val (.ref b4z), .val (.ref b_11z), .val (.ref x0)] [(.ref x0), (.ref b4z)])) rfl (by rw [hml]; rfl) (Steps.refl _) (argsL := [(.ref x0)]) (rest := []) (lenOf pd_396412080 rfl) rfl (by show 2 * 0 + _ ≤ _; exact Nat.le_of_eq rfl) (hb hby d_prog_14_method_2_code_51) (fun _ _ => ⟨rfl, K20zq, (by decide : 7 + 0 ≤ _), (by decide : 133 + 0 ≤ _)⟩)
  dsimp only [Pt.U, Pt.locs, Pt.cells, Pt.slots] at X26z l26z y26z z26z st26z hQ26z
  subst l26z y26z z26z
  obtain ⟨rfl, NQ26z, K26zq, r26z_0, r26z_1, r26z_2, r26z_3, r26z_4⟩ := hQ26z
  refine own_tr st26z ?_
  have N26z := Fr.app N20z NQ26z
  have O27z : Ext Z.heap T26z.heap := own_ext_keep O19z K26zq (allS fr_b4z (allS r7z_1 all0))
  have K27z : Keep h0 T26z.heap [] := K19z.trans K26zq (allS (Or.inr lz_b4z) (allS (Or.inr lz_arr_7z) all0))
  have Sn27z := Nat.le_trans Sn18z K26zq.1
  have r26z_1 : own_A Z T26z.heap arr_7z kk_7z (.object "java/lang/Object") [(.ref x0), .null] := r26z_1
  have r26z_2 : Fld Z T26z.heap b4z "java/util/AbstractList" "modCount" "I" (.int (1 : Int32)) := r26z_2
  have r26z_4 : Fld Z T26z.heap b4z "java/util/ArrayList" "size" "I" (.int (1 : Int32)) := r26z_4
  show own_G p e below (T26z.setTop (mkF m 56 #[.val (.ref a), .val (.ref b4z), .val (.ref b_11z), .val (.ref x0)] [(.int (1 : Int32))])) _
  refine own_go (fun t k => XS.pop X26z.here hx rfl (hb hby d_prog_14_method_2_code_56) rfl rfl k) ?_
  refine own_go (fun t k => XS.goto X26z.here hx rfl (pc0 := 57) (pc' := 28) rfl (hb hby d_prog_14_method_2_code_57) (by decide) (by decide) k) ?_
  show own_G p e below (T26z.setTop (mkF m 28 #[.val (.ref a), .val (.ref b4z), .val (.ref b_11z), .val (.ref x0)] [])) _
  refine own_go (fun t k => XS.aloadN X26z.here hx rfl (hb hby d_prog_14_method_2_code_28) rfl rfl k) ?_
  have f28z := ((r16z_1.ext E18z).keep K26zq (by simp only [List.mem_cons, List.not_mem_nil, or_false, not_or]; exact ⟨(Ne.symm ne_b4z_b_11z), (Ne.symm ne_arr_7z_b_11z)⟩))
  have f29z := ((r16z_2.ext E18z).keep K26zq (by simp only [List.mem_cons, List.not_mem_nil, or_false, not_or]; exact ⟨(Ne.symm ne_b4z_b_11z), (Ne.symm ne_arr_7z_b_11z)⟩))
  have f30z := (((f13z.keep K16zq (by simp only [List.mem_cons, List.not_mem_nil, or_false, not_or]; exact ne_a_b_11z)).ext E18z).keep K26zq (by simp only [List.mem_cons, List.not_mem_nil, or_false, not_or]; exact ⟨ne_a_b4z, ne_a_arr_7z⟩))
  obtain ⟨cq31z, kq31z, qa31z, qb31z, qc31z⟩ := isOf hZ18z (rfl : T26z.heap = _) ((r16z_0.ext E18z).keep K26zq)
  obtain ⟨_, _, ⟨T31z, L31z, k31z, n31z⟩, -, X31z, ⟨Lc31z, hQ31z, l31z, y31z, z31z⟩, st31z⟩ := X26z.interfaceBack hx (xi := own_m23) (y := own_m16) hown18z (mvT hZ18z (own_hw hw 90 rfl)) (mvT hZ18z (own_hw hw 91 rfl)) (mvT hZ18z (own_hw hw 92 rfl)) (mvT hZ18z (own_hw hw 93 rfl)) (mvT hZ18z (own_hw hw 94 rfl)) (mvT hZ18z (own_hw hw 95 rfl)) (mvT hZ18z (own_hw hw 96 rfl)) (mvT hZ18z (own_hw hw 97 rfl)) (by decide) (backOf (W := 0) (own_hn1 l Z a0 hw [] b_11z a (1 : Int32) (2 : Int32) T26z.heap O27z f28z f29z f30z (by decide)) hZ18z (own_hw hw 98 rfl) (own_hw hw 76 rfl) (by decide) (by decide)) qa31z qb31z qc31z (g := (mkF m 29 #[.val (.ref a), .val (.ref b4z), .val (.ref b_11z), .val (.ref x0)] [(.ref b_11z)])) rfl (by rw [hml]; rfl) (Steps.refl _) (argsL := []) (rest := []) (lenOf pd_193422000 rfl) rfl (by show 2 * 0 + _ ≤ _; exact Nat.le_of_eq rfl) (hb hby d_prog_14_method_2_code_29) (fun _ _ => ⟨rfl, rfl, (by decide : 7 + 0 ≤ _), (by decide : 133 + 0 ≤ _)⟩)
  dsimp only [Pt.U, Pt.locs, Pt.cells, Pt.slots] at X31z l31z y31z z31z st31z hQ31z
  subst l31z y31z z31z
  obtain ⟨rfl, NQ31z, K31zq⟩ := hQ31z
  refine own_tr st31z ?_
  have N31z := Fr.app N26z NQ31z
  show own_G p e below (T31z.setTop (mkF m 34 #[.val (.ref a), .val (.ref b4z), .val (.ref b_11z), .val (.ref x0)] [(.int (1 : Int32))])) _
  refine own_go (fun t k => XS.ifNo X31z.here hx rfl (hb hby d_prog_14_method_2_code_34) rfl ((if0 _ _).trans (feq (by decide : ¬ ((1 : Int32) = (0 : Int32)))).1) k) ?_
  show own_G p e below (T31z.setTop (mkF m 37 #[.val (.ref a), .val (.ref b4z), .val (.ref b_11z), .val (.ref x0)] [])) _
  refine own_go (fun t k => XS.aloadN X31z.here hx rfl (hb hby d_prog_14_method_2_code_37) rfl rfl k) ?_
  have f32z := ((r16z_3.ext E18z).keep K26zq (by simp only [List.mem_cons, List.not_mem_nil, or_false, not_or]; exact ⟨(Ne.symm ne_b4z_b_11z), (Ne.symm ne_arr_7z_b_11z)⟩))
  have f33z := ((r16z_4.ext E18z).keep K26zq (by simp only [List.mem_cons, List.not_mem_nil, or_false, not_or]; exact ⟨(Ne.symm ne_b4z_b_11z), (Ne.symm ne_arr_7z_b_11z)⟩))
  have f34z := ((((f9z.keep K11zq (by simp)).keep K16zq (by simp only [List.mem_cons, List.not_mem_nil, or_false, not_or]; exact ne_a_b_11z)).ext E18z).keep K26zq (by simp only [List.mem_cons, List.not_mem_nil, or_false, not_or]; exact ⟨ne_a_b4z, ne_a_arr_7z⟩))
  have f35z := (((f15z.keep K16zq (by simp only [List.mem_cons, List.not_mem_nil, or_false, not_or]; exact ne_a_b_11z)).ext E18z).keep K26zq (by simp only [List.mem_cons, List.not_mem_nil, or_false, not_or]; exact ⟨ne_a_b4z, ne_a_arr_7z⟩))
  have f36z := ((((f10z.keep K11zq (by simp)).keep K16zq (by simp only [List.mem_cons, List.not_mem_nil, or_false, not_or]; exact ne_arr_b_11z)).ext E18z).keep K26zq (by simp only [List.mem_cons, List.not_mem_nil, or_false, not_or]; exact ⟨ne_arr_b4z, ne_arr_arr_7z⟩))
  obtain ⟨cq37z, kq37z, qa37z, qb37z, qc37z⟩ := isOf hZ18z K31zq ((r16z_0.ext E18z).keep K26zq)
  obtain ⟨_, _, ⟨T37z, L37z, k37z, n37z⟩, -, X37z, ⟨Lc37z, hQ37z, l37z, y37z, z37z⟩, st37z⟩ := X31z.interfaceBack hx (xi := own_m24) (y := own_m18) hown18z (mvT hZ18z (own_hw hw 139 rfl)) (mvT hZ18z (own_hw hw 140 rfl)) (mvT hZ18z (own_hw hw 141 rfl)) (mvT hZ18z (own_hw hw 142 rfl)) (mvT hZ18z (own_hw hw 143 rfl)) (mvT hZ18z (own_hw hw 144 rfl)) (mvT hZ18z (own_hw hw 145 rfl)) (mvT hZ18z (own_hw hw 97 rfl)) (by decide) (backOf (W := 0) (own_next l Z a0 hw [] b_11z a mc (1 : Int32) (0 : Int32) (2 : Int32) arr kk ([(.ref x0), (.ref x1), .null, .null, .null, .null, .null, .null, .null, .null]) 1 x1 (10 : Int32) T26z.heap O27z ((r16z_0.ext E18z).keep K26zq) r11z_1 f28z f29z f32z f33z f34z f30z f35z f36z (by decide) rfl (by decide) (by show (10 : Int32).toInt = ((10 : Nat) : Int); decide) (by decide) ne_a_b_11z ne_arr_b_11z) hZ18z (own_hw hw 146 rfl) (own_hw hw 76 rfl) (by decide) (by decide)) qa37z qb37z qc37z (g := (mkF m 38 #[.val (.ref a), .val (.ref b4z), .val (.ref b_11z), .val (.ref x0)] [(.ref b_11z)])) rfl (by rw [hml]; rfl) (Steps.refl _) (argsL := []) (rest := []) (lenOf pd_462477782 rfl) rfl (by show 2 * 0 + _ ≤ _; exact Nat.le_of_eq rfl) (hb hby d_prog_14_method_2_code_38) (fun _ _ => ⟨rfl, K31zq, (by decide : 7 + 0 ≤ _), (by decide : 133 + 0 ≤ _)⟩)
  dsimp only [Pt.U, Pt.locs, Pt.cells, Pt.slots] at X37z l37z y37z z37z st37z hQ37z
  subst l37z y37z z37z
  obtain ⟨rfl, NQ37z, K37zq, r37z_0, r37z_1, r37z_2, r37z_3, r37z_4⟩ := hQ37z
  refine own_tr st37z ?_
  have N37z := Fr.app N31z NQ37z
  have O38z : Ext Z.heap T37z.heap := own_ext_keep O27z K37zq (allS r11z_1 all0)
  have K38z : Keep h0 T37z.heap [] := K27z.trans K37zq (allS (Or.inr lz_b_11z) all0)
  have Sn38z := Nat.le_trans Sn27z K37zq.1
  have r37z_2 : Fld Z T37z.heap b_11z "java/util/ArrayList$Itr" "cursor" "I" (.int (2 : Int32)) := r37z_2
  show own_G p e below (T37z.setTop (mkF m 43 #[.val (.ref a), .val (.ref b4z), .val (.ref b_11z), .val (.ref x0)] [(.ref x1)])) _
  refine own_go (fun t k => XS.astoreN X37z.here hx rfl (hb hby d_prog_14_method_2_code_43) rfl rfl (l' := #[.val (.ref a), .val (.ref b4z), .val (.ref b_11z), .val (.ref x1)]) rfl k) ?_
  refine own_go (fun t k => XS.aloadN X37z.here hx rfl (hb hby d_prog_14_method_2_code_44) rfl rfl k) ?_
  refine own_go (fun t k => XS.aloadN X37z.here hx rfl (hb hby d_prog_14_method_2_code_45) rfl rfl k) ?_
  obtain ⟨a39z, T39z, h39z, k39z, X39z, e39z, E39z, Si39z, Sn39z, hZ39z, hown39z, st39z⟩ := ldcS X37z hx hZ18z hown18z (own_hw hw 153 rfl) (own_wS hw) rfl Si18z Sn38z (g := (mkF m 46 #[.val (.ref a), .val (.ref b4z), .val (.ref b_11z), .val (.ref x1)] [(.ref x1), (.ref b4z)])) rfl (hb hby d_prog_14_method_2_code_46) (n := 84) (by decide) (by decide) (by decide) (by decide)
  refine own_go st39z ?_
  have O40z : Ext Z.heap h39z := own_ext_trans O38z E39z
  have K40z : Keep h0 h39z [] := K38z.ext E39z
  show own_G p e below (T39z.setTop (mkF m 48 #[.val (.ref a), .val (.ref b4z), .val (.ref b_11z), .val (.ref x1)] [(.ref a39z), (.ref x1), (.ref b4z)])) _
  obtain ⟨_, _, ⟨T41z, L41z, k41z, n41z⟩, -, X41z, ⟨Lc41z, hQ41z, l41z, y41z, z41z⟩, st41z⟩ := Jvm.LawKit.callS X39z hx (y := own_m19) hown39z (mvT hZ39z (own_hw hw 46 rfl)) (mvT hZ39z (own_hw hw 47 rfl)) (mvT hZ39z (own_hw hw 48 rfl)) (mvT hZ39z (own_hw hw 49 rfl)) (by decide) (backOf (W := 1) (own_rnn l Z a0 hw [] x1 a39z h39z O40z) hZ39z (own_hw hw 49 rfl) (own_hw hw 48 rfl) (by decide) (by decide)) (g := (mkF m 48 #[.val (.ref a), .val (.ref b4z), .val (.ref b_11z), .val (.ref x1)] [(.ref a39z), (.ref x1), (.ref b4z)])) rfl (by rw [hml]; rfl) (argsL := [(.ref x1), (.ref a39z)]) (rest := [(.ref b4z)]) (lenOf pd_3946442454 rfl) rfl (by show 2 * 0 + _ ≤ _; exact Nat.le_of_eq rfl) (hb hby d_prog_14_method_2_code_48) (fun _ _ => ⟨rfl, e39z, (by decide : 9 + 0 ≤ _), (by decide : 221 + 0 ≤ _)⟩)
  dsimp only [Pt.U, Pt.locs, Pt.cells, Pt.slots] at X41z l41z y41z z41z st41z hQ41z
  subst l41z y41z z41z
  obtain ⟨rfl, NQ41z, K41zq⟩ := hQ41z
  refine own_go st41z ?_
  have N41z := Fr.app N37z NQ41z
  show own_G p e below (T41z.setTop (mkF m 51 #[.val (.ref a), .val (.ref b4z), .val (.ref b_11z), .val (.ref x1)] [(.ref x1), (.ref b4z)])) _
  have f42z := (((((((((q3.ext E1z).ext E4z).keep K7zq).keep K11zq).keep K16zq).ext E18z).keep K26zq).keep K37zq).ext E39z)
  have f43z := ((r26z_1.keep K37zq (by simp only [List.mem_cons, List.not_mem_nil, or_false, not_or]; exact ne_arr_7z_b_11z)).ext E39z)
  have f44z := ((r26z_2.keep K37zq (by simp only [List.mem_cons, List.not_mem_nil, or_false, not_or]; exact ne_b4z_b_11z)).ext E39z)
  have f45z := ((r26z_3.keep K37zq (by simp only [List.mem_cons, List.not_mem_nil, or_false, not_or]; exact ne_b4z_b_11z)).ext E39z)
  have f46z := ((r26z_4.keep K37zq (by simp only [List.mem_cons, List.not_mem_nil, or_false, not_or]; exact ne_b4z_b_11z)).ext E39z)
  obtain ⟨cq47z, kq47z, qa47z, qb47z, qc47z⟩ := isOf hZ39z K41zq ((r26z_0.keep K37zq).ext E39z)
  obtain ⟨_, _, ⟨T47z, L47z, k47z, n47z⟩, -, X47z, ⟨Lc47z, hQ47z, l47z, y47z, z47z⟩, st47z⟩ := X41z.interfaceBack hx (xi := own_m25) (y := own_m8) hown39z (mvT hZ39z (own_hw hw 154 rfl)) (mvT hZ39z (own_hw hw 155 rfl)) (mvT hZ39z (own_hw hw 156 rfl)) (mvT hZ39z (own_hw hw 157 rfl)) (mvT hZ39z (own_hw hw 113 rfl)) (mvT hZ39z (own_hw hw 158 rfl)) (mvT hZ39z (own_hw hw 159 rfl)) (mvT hZ39z (own_hw hw 106 rfl)) (by decide) (backOf (W := 0) (own_add1 l Z a0 hw [] b4z x1 arr_7z kk_7z ([(.ref x0), .null]) (1 : Int32) (1 : Int32) (2 : Int32) 1 h39z O40z ((r26z_0.keep K37zq).ext E39z) fr_b4z r7z_1 f42z f43z r7z_3 (by decide) (by show (2 : Int32).toInt = ((2 : Nat) : Int); decide) (by show 1 < 2; decide) ne_b4z_arr_7z f44z f45z f46z) hZ39z (own_hw hw 115 rfl) (own_hw hw 10 rfl) (by decide) (by decide)) qa47z qb47z qc47z (g := (mkF m 51 #[.val (.ref a), .val (.ref b4z), .val (.ref b_11z), .val (.ref x1)] [(.ref x1), (.ref b4z)])) rfl (by rw [hml]; rfl) (Steps.refl _) (argsL := [(.ref x1)]) (rest := []) (lenOf pd_396412080 rfl) rfl (by show 2 * 0 + _ ≤ _; exact Nat.le_of_eq rfl) (hb hby d_prog_14_method_2_code_51) (fun _ _ => ⟨rfl, K41zq, (by decide : 9 + 0 ≤ _), (by decide : 221 + 0 ≤ _)⟩)
  dsimp only [Pt.U, Pt.locs, Pt.cells, Pt.slots] at X47z l47z y47z z47z st47z hQ47z
  subst l47z y47z z47z
  obtain ⟨rfl, NQ47z, K47zq, r47z_0, r47z_1, r47z_2, r47z_3, r47z_4⟩ := hQ47z
  refine own_tr st47z ?_
  have N47z := Fr.app N41z NQ47z
  have O48z : Ext Z.heap T47z.heap := own_ext_keep O40z K47zq (allS fr_b4z (allS r7z_1 all0))
  have K48z : Keep h0 T47z.heap [] := K40z.trans K47zq (allS (Or.inr lz_b4z) (allS (Or.inr lz_arr_7z) all0))
  have Sn48z := Nat.le_trans Sn39z K47zq.1
  have r47z_1 : own_A Z T47z.heap arr_7z kk_7z (.object "java/lang/Object") [(.ref x0), (.ref x1)] := r47z_1
  have r47z_2 : Fld Z T47z.heap b4z "java/util/AbstractList" "modCount" "I" (.int (2 : Int32)) := r47z_2
  have r47z_4 : Fld Z T47z.heap b4z "java/util/ArrayList" "size" "I" (.int (2 : Int32)) := r47z_4
  show own_G p e below (T47z.setTop (mkF m 56 #[.val (.ref a), .val (.ref b4z), .val (.ref b_11z), .val (.ref x1)] [(.int (1 : Int32))])) _
  refine own_go (fun t k => XS.pop X47z.here hx rfl (hb hby d_prog_14_method_2_code_56) rfl rfl k) ?_
  refine own_go (fun t k => XS.goto X47z.here hx rfl (pc0 := 57) (pc' := 28) rfl (hb hby d_prog_14_method_2_code_57) (by decide) (by decide) k) ?_
  show own_G p e below (T47z.setTop (mkF m 28 #[.val (.ref a), .val (.ref b4z), .val (.ref b_11z), .val (.ref x1)] [])) _
  refine own_go (fun t k => XS.aloadN X47z.here hx rfl (hb hby d_prog_14_method_2_code_28) rfl rfl k) ?_
  have f49z := ((r37z_1.ext E39z).keep K47zq (by simp only [List.mem_cons, List.not_mem_nil, or_false, not_or]; exact ⟨(Ne.symm ne_b4z_b_11z), (Ne.symm ne_arr_7z_b_11z)⟩))
  have f50z := ((r37z_2.ext E39z).keep K47zq (by simp only [List.mem_cons, List.not_mem_nil, or_false, not_or]; exact ⟨(Ne.symm ne_b4z_b_11z), (Ne.symm ne_arr_7z_b_11z)⟩))
  have f51z := (((f30z.keep K37zq (by simp only [List.mem_cons, List.not_mem_nil, or_false, not_or]; exact ne_a_b_11z)).ext E39z).keep K47zq (by simp only [List.mem_cons, List.not_mem_nil, or_false, not_or]; exact ⟨ne_a_b4z, ne_a_arr_7z⟩))
  obtain ⟨cq52z, kq52z, qa52z, qb52z, qc52z⟩ := isOf hZ39z (rfl : T47z.heap = _) ((r37z_0.ext E39z).keep K47zq)
  obtain ⟨_, _, ⟨T52z, L52z, k52z, n52z⟩, -, X52z, ⟨Lc52z, hQ52z, l52z, y52z, z52z⟩, st52z⟩ := X47z.interfaceBack hx (xi := own_m23) (y := own_m16) hown39z (mvT hZ39z (own_hw hw 90 rfl)) (mvT hZ39z (own_hw hw 91 rfl)) (mvT hZ39z (own_hw hw 92 rfl)) (mvT hZ39z (own_hw hw 93 rfl)) (mvT hZ39z (own_hw hw 94 rfl)) (mvT hZ39z (own_hw hw 95 rfl)) (mvT hZ39z (own_hw hw 96 rfl)) (mvT hZ39z (own_hw hw 97 rfl)) (by decide) (backOf (W := 0) (own_hn0 l Z a0 hw [] b_11z a (2 : Int32) (2 : Int32) T47z.heap O48z f49z f50z f51z (by decide)) hZ39z (own_hw hw 98 rfl) (own_hw hw 76 rfl) (by decide) (by decide)) qa52z qb52z qc52z (g := (mkF m 29 #[.val (.ref a), .val (.ref b4z), .val (.ref b_11z), .val (.ref x1)] [(.ref b_11z)])) rfl (by rw [hml]; rfl) (Steps.refl _) (argsL := []) (rest := []) (lenOf pd_193422000 rfl) rfl (by show 2 * 0 + _ ≤ _; exact Nat.le_of_eq rfl) (hb hby d_prog_14_method_2_code_29) (fun _ _ => ⟨rfl, rfl, (by decide : 9 + 0 ≤ _), (by decide : 221 + 0 ≤ _)⟩)
  dsimp only [Pt.U, Pt.locs, Pt.cells, Pt.slots] at X52z l52z y52z z52z st52z hQ52z
  subst l52z y52z z52z
  obtain ⟨rfl, NQ52z, K52zq⟩ := hQ52z
  refine own_tr st52z ?_
  have N52z := Fr.app N47z NQ52z
  show own_G p e below (T52z.setTop (mkF m 34 #[.val (.ref a), .val (.ref b4z), .val (.ref b_11z), .val (.ref x1)] [(.int (0 : Int32))])) _
  refine own_go (fun t k => XS.ifYes X52z.here hx rfl (pc0 := 34) (pc' := 60) rfl (hb hby d_prog_14_method_2_code_34) rfl ((if0 _ _).trans (teq (by decide : (0 : Int32) = (0 : Int32))).1) (by decide) (by decide) k) ?_
  show own_G p e below (T52z.setTop (mkF m 60 #[.val (.ref a), .val (.ref b4z), .val (.ref b_11z), .val (.ref x1)] [])) _
  refine own_go (fun t k => XS.aloadN X52z.here hx rfl (hb hby d_prog_14_method_2_code_60) rfl rfl k) ?_
  exact own_retW X52z Si39z (by rw [K52zq]; exact Sn48z) hx Bd.returns rfl (Or.inr (Or.inr (Or.inr (Or.inr ⟨rfl, rfl, rfl⟩)))) (hb hby d_prog_14_method_2_code_61) hlk (Nat.le_of_ble_eq_true rfl) (Nat.le_of_ble_eq_true rfl) (by show Q_own_copy2 Z a mc x0 x1 arr kk h0 _ T52z.heap _; rw [K52zq]; exact ⟨b4z, arr_7z, kk_7z, rfl, N52z, K48z, r47z_0, lz_b4z, r47z_1, r47z_2, r47z_3, r47z_4, lz_arr_7z⟩)
theorem ef_own_copy3 (m : MethodId) (x0 : Addr) : entryFrame m #[(.ref x0)] 4 = mkF m 0 #[.val (.ref x0), .unset, .unset, .unset] [] := by first | (simp [entryFrame, mkF, argsToLocals, Value.category]; done) | rfl
theorem pf_own_copy3 : plainFor own_m20 = true := plainFor_of_name (by simp [plainName, overriddenIn])
def Q_own_copy3 (Z : State) (a : Addr) (mc : Int32) (x0 : Addr) (x1 : Addr) (x2 : Addr) (arr : Addr) (kk : ClassId) (h0 : Heap) (v : Option Value) (h : Heap) (L : List Loc) : Prop := ∃ r : Addr, ∃ ar : Addr, ∃ kr : ClassId, v = some (.ref r) ∧ Fr Z.heap.size L ∧ Keep h0 h [] ∧ (Exa Z h r "java/util/ArrayList") ∧ (h0.size ≤ r) ∧ (own_A Z h ar kr (.object "java/lang/Object") [(.ref x0), (.ref x1), (.ref x2)]) ∧ (Fld Z h r "java/util/AbstractList" "modCount" "I" (.int (3 : Int32))) ∧ (Fld Z h r "java/util/ArrayList" "elementData" "[Ljava/lang/Object;" (.ref ar)) ∧ (Fld Z h r "java/util/ArrayList" "size" "I" (.int (3 : Int32))) ∧ (h0.size ≤ ar)
set_option maxRecDepth 65536 in
set_option maxHeartbeats 40000000 in
theorem own_copy3 (l : Launch) (Z : State) (a0 : Array Value) (hw : ∀ d ∈ tables_1, d.before a0 Z = true) (ws : List Jvm.Cond) (a : Addr) (mc : Int32) (x0 : Addr) (x1 : Addr) (x2 : Addr) (arr : Addr) (kk : ClassId) (h0 : Heap) (O0 : Ext Z.heap h0) (q0 : own_A Z h0 arr kk (.object "java/lang/Object") [(.ref x0), (.ref x1), (.ref x2), .null, .null, .null, .null, .null, .null, .null]) (q1 : Exa Z h0 a "java/util/ArrayList") (q2 : Exa Z h0 x0 "java/lang/Integer") (q3 : Exa Z h0 x1 "java/lang/Integer") (q4 : Exa Z h0 x2 "java/lang/Integer") (q5 : Fld Z h0 a "java/util/AbstractList" "modCount" "I" (.int mc)) (q6 : Fld Z h0 a "java/util/ArrayList" "elementData" "[Ljava/lang/Object;" (.ref arr)) (q7 : Fld Z h0 a "java/util/ArrayList" "size" "I" (.int (3 : Int32))) :
    MetFree l own_m20 (head1 (Jvm.Cond.code own_m20 prog_14_method_2_code 4 (some (.object "java/util/List")) :: ws) ({ frames := 4, cells := 11, slots := 310, locals := 60 } : Room)) (fun aa U => aa = #[(.ref a)] ∧ Z.Warmed39 U.vm ∧ U.heap = h0) (fun _ _ _ _ _ => True) (fun _ U o U' => ∃ v L, o = .returned v ∧ Q_own_copy3 Z a mc x0 x1 x2 arr kk h0 v U'.heap L ∧ ReturnedEndW U o U' L ({ frames := 4, cells := 11, slots := 310, locals := 60 } : Room).cells ({ frames := 4, cells := 11, slots := 310, locals := 60 } : Room).slots) := by
  refine MetFree.of_bodySF pf_own_copy3 hisR ?_
  intro p e s m args below meth c s₁ Bd hml0 hP hK
  obtain ⟨rfl, hZ, hh⟩ := hP
  have hx := Bd.exec
  have hby := Bd.bytes
  have hlk := BodyLoose.notSynchronized Bd
  have hml : c.maxLocals = 4 := hml0
  have hown : s.vm.findClass "com/example/etapa/etapa/mongodb/EntityBatch" = some m.cls := findClass_of_methodNamed Bd.named
  have hnm := (name_of_methodNamed Bd.named Bd.method).1
  have X0 : Stand p l e ({ frames := 4, cells := 11, slots := 310, locals := 60 } : Room) s m #[(.ref a)] below meth c s₁ [] 0 0 := Stand.of_body Bd
  have e0 : s₁.heap = h0 := by rw [← hh, Bd.state]; rfl
  have N0 := Fr.nil Z.heap.size
  have K0 : Keep h0 h0 [] := Keep.refl _ _
  have Si0 : s.Since s.vm h0.size := (State.WarmedH.refl s).since h0.size
  have Sn0 : h0.size ≤ h0.size := Nat.le_refl _
  have hZ : Z.Warmed39 (s.setVm s.vm).vm := hZ
  have hown : (s.setVm s.vm).vm.findClass "com/example/etapa/etapa/mongodb/EntityBatch" = some m.cls := hown
  have X0 := (show Stand _ _ _ _ (s.setVm s.vm) _ _ _ _ _ _ _ _ _ from X0)
  refine own_startW (Q := Q_own_copy3 Z a mc x0 x1 x2 arr kk h0) (ef_own_copy3 m (a)) ?_
  show own_G p e below (s₁.setTop (mkF m 0 #[.val (.ref a), .unset, .unset, .unset] [])) _
  refine own_go (fun t k => XS.aloadN X0.here hx rfl (hb hby d_prog_14_method_2_code_0) rfl rfl k) ?_
  obtain ⟨a1z, T1z, h1z, k1z, X1z, e1z, E1z, Si1z, Sn1z, hZ1z, hown1z, st1z⟩ := ldcS X0 hx hZ hown (own_hw hw 38 rfl) (own_wS hw) e0 Si0 Sn0 (g := (mkF m 1 #[.val (.ref a), .unset, .unset, .unset] [(.ref a)])) rfl (hb hby d_prog_14_method_2_code_1) (n := 32) (by decide) (by decide) (by decide) (by decide)
  refine own_go st1z ?_
  have O2z : Ext Z.heap h1z := own_ext_trans O0 E1z
  have K2z : Keep h0 h1z [] := K0.ext E1z
  show own_G p e below (T1z.setTop (mkF m 3 #[.val (.ref a), .unset, .unset, .unset] [(.ref a1z), (.ref a)])) _
  obtain ⟨_, _, ⟨T3z, L3z, k3z, n3z⟩, -, X3z, ⟨Lc3z, hQ3z, l3z, y3z, z3z⟩, st3z⟩ := Jvm.LawKit.callS X1z hx (y := own_m19) hown1z (mvT hZ1z (own_hw hw 46 rfl)) (mvT hZ1z (own_hw hw 47 rfl)) (mvT hZ1z (own_hw hw 48 rfl)) (mvT hZ1z (own_hw hw 49 rfl)) (by decide) (backOf (W := 0) (own_rnn l Z a0 hw [] a a1z h1z O2z) hZ1z (own_hw hw 49 rfl) (own_hw hw 48 rfl) (by decide) (by decide)) (g := (mkF m 3 #[.val (.ref a), .unset, .unset, .unset] [(.ref a1z), (.ref a)])) rfl (by rw [hml]; rfl) (argsL := [(.ref a), (.ref a1z)]) (rest := []) (lenOf pd_3946442454 rfl) rfl (by show 2 * 0 + _ ≤ _; exact Nat.le_of_eq rfl) (hb hby d_prog_14_method_2_code_3) (fun _ _ => ⟨rfl, e1z, (by decide : 2 + 0 ≤ _), (by decide : 36 + 0 ≤ _)⟩)
  dsimp only [Pt.U, Pt.locs, Pt.cells, Pt.slots] at X3z l3z y3z z3z st3z hQ3z
  subst l3z y3z z3z
  obtain ⟨rfl, NQ3z, K3zq⟩ := hQ3z
  refine own_go st3z ?_
  have N3z := Fr.app N0 NQ3z
  show own_G p e below (T3z.setTop (mkF m 6 #[.val (.ref a), .unset, .unset, .unset] [(.ref a)])) _
  refine own_go (fun t k => XS.pop X3z.here hx rfl (hb hby d_prog_14_method_2_code_6) rfl rfl k) ?_
  obtain ⟨T4z, h4z, X4z, e4z, E4z, A4z, D4z, -, st4z⟩ := newO X3z hx hZ1z hown1z (own_hw hw 50 rfl) (own_hw hw 9 rfl) (own_hw hw 10 rfl) K3zq (g := (mkF m 7 #[.val (.ref a), .unset, .unset, .unset] [])) rfl (hb hby d_prog_14_method_2_code_7) (by decide) (by decide)
  obtain ⟨b4z, g4z⟩ : ∃ z, z = h1z.size := ⟨_, rfl⟩
  rw [← g4z] at A4z D4z st4z
  have fr_b4z : Z.heap.size ≤ b4z := g4z ▸ O2z.1
  have lz_b4z : h0.size ≤ b4z := g4z ▸ K2z.1
  have ne_arr_b4z : arr ≠ b4z := Nat.ne_of_lt (g4z ▸ (q0.ext E1z).lt)
  have ne_a_b4z : a ≠ b4z := Nat.ne_of_lt (g4z ▸ (q1.ext E1z).lt)
  have ne_x0_b4z : x0 ≠ b4z := Nat.ne_of_lt (g4z ▸ (q2.ext E1z).lt)
  have ne_x1_b4z : x1 ≠ b4z := Nat.ne_of_lt (g4z ▸ (q3.ext E1z).lt)
  have ne_x2_b4z : x2 ≠ b4z := Nat.ne_of_lt (g4z ▸ (q4.ext E1z).lt)
  have O5z : Ext Z.heap h4z := own_ext_trans O2z E4z
  have K5z : Keep h0 h4z [] := K2z.ext E4z
  have Sn5z := Nat.le_trans Sn1z E4z.1
  have F4z_modCount : Fld Z h4z b4z "java/util/AbstractList" "modCount" "I" (.int (0 : Int32)) := D4z (Or.inl (own_hw hw 30 rfl)) (ty := .int) (by decide)
  have F4z_elementData : Fld Z h4z b4z "java/util/ArrayList" "elementData" "[Ljava/lang/Object;" .null := D4z (Or.inl (own_hw hw 33 rfl)) (ty := (.array (.object "java/lang/Object"))) (by decide)
  have F4z_size : Fld Z h4z b4z "java/util/ArrayList" "size" "I" (.int (0 : Int32)) := D4z (Or.inl (own_hw hw 61 rfl)) (ty := .int) (by decide)
  refine own_go st4z ?_
  refine own_go (fun t k => XS.dup X4z.here hx rfl (hb hby d_prog_14_method_2_code_10) rfl rfl k) ?_
  refine own_go (fun t k => XS.aloadN X4z.here hx rfl (hb hby d_prog_14_method_2_code_11) rfl rfl k) ?_
  show own_G p e below (T4z.setTop (mkF m 12 #[.val (.ref a), .unset, .unset, .unset] [(.ref a), (.ref b4z), (.ref b4z)])) _
  obtain ⟨cq6z, kq6z, qa6z, qb6z, qc6z⟩ := isOf hZ1z e4z ((q1.ext E1z).ext E4z)
  obtain ⟨_, _, ⟨T6z, L6z, k6z, n6z⟩, -, X6z, ⟨Lc6z, hQ6z, l6z, y6z, z6z⟩, st6z⟩ := X4z.interfaceBack hx (xi := own_m21) (y := own_m9) hown1z (mvT hZ1z (own_hw hw 51 rfl)) (mvT hZ1z (own_hw hw 52 rfl)) (mvT hZ1z (own_hw hw 53 rfl)) (mvT hZ1z (own_hw hw 54 rfl)) (mvT hZ1z (own_hw hw 55 rfl)) (mvT hZ1z (own_hw hw 56 rfl)) (mvT hZ1z (own_hw hw 57 rfl)) (mvT hZ1z (own_hw hw 58 rfl)) (by decide) (backOf (W := 2) (own_size l Z a0 hw [] a (3 : Int32) h4z O5z ((q7.ext E1z).ext E4z)) hZ1z (own_hw hw 59 rfl) (own_hw hw 10 rfl) (by decide) (by decide)) qa6z qb6z qc6z (g := (mkF m 12 #[.val (.ref a), .unset, .unset, .unset] [(.ref a), (.ref b4z), (.ref b4z)])) rfl (by rw [hml]; rfl) (Steps.refl _) (argsL := []) (rest := [(.ref b4z), (.ref b4z)]) (lenOf pd_193421983 rfl) rfl (by show 2 * 0 + _ ≤ _; exact Nat.le_of_eq rfl) (hb hby d_prog_14_method_2_code_12) (fun _ _ => ⟨rfl, e4z, (by decide : 3 + 0 ≤ _), (by decide : 39 + 0 ≤ _)⟩)
  dsimp only [Pt.U, Pt.locs, Pt.cells, Pt.slots] at X6z l6z y6z z6z st6z hQ6z
  subst l6z y6z z6z
  obtain ⟨rfl, NQ6z, K6zq⟩ := hQ6z
  refine own_tr st6z ?_
  have N6z := Fr.app N3z NQ6z
  show own_G p e below (T6z.setTop (mkF m 17 #[.val (.ref a), .unset, .unset, .unset] [(.int (3 : Int32)), (.ref b4z), (.ref b4z)])) _
  obtain ⟨_, _, ⟨T7z, L7z, k7z, n7z⟩, -, X7z, ⟨Lc7z, hQ7z, l7z, y7z, z7z⟩, st7z⟩ := X6z.specialBack hx (y := own_m3) rfl hown1z (mvT hZ1z (own_hw hw 62 rfl)) (mvT hZ1z (own_hw hw 63 rfl)) (mvT hZ1z (own_hw hw 64 rfl)) (by decide) (backOf (W := 1) (own_aln3 l Z a0 hw [] b4z h4z O5z A4z fr_b4z F4z_modCount F4z_elementData F4z_size) hZ1z (own_hw hw 64 rfl) (own_hw hw 10 rfl) (by decide) (by decide)) (g := (mkF m 17 #[.val (.ref a), .unset, .unset, .unset] [(.int (3 : Int32)), (.ref b4z), (.ref b4z)])) rfl (by rw [hml]; rfl) (Steps.refl _) (a := b4z) (argsL := [(.int (3 : Int32))]) (rest := [(.ref b4z)]) (lenOf pd_2087992021 rfl) rfl (by show 2 * 0 + _ ≤ _; exact Nat.le_of_eq rfl) (hb hby d_prog_14_method_2_code_17) (fun _ _ => ⟨rfl, K6zq, (by decide : 3 + 1 ≤ _), (by decide : 39 + 3 ≤ _)⟩)
  dsimp only [Pt.U, Pt.locs, Pt.cells, Pt.slots] at X7z l7z y7z z7z st7z hQ7z
  subst l7z y7z z7z
  obtain ⟨arr_7z, kk_7z, rfl, NQ7z, K7zq, r7z_0, r7z_1, r7z_2, r7z_3, r7z_4, r7z_5, r7z_6, r7z_7⟩ := hQ7z
  refine own_tr st7z ?_
  have N7z := Fr.app N6z NQ7z
  have O8z : Ext Z.heap T7z.heap := own_ext_keep O5z K7zq (allS fr_b4z all0)
  have K8z : Keep h0 T7z.heap [] := K5z.trans K7zq (allS (Or.inr lz_b4z) all0)
  have Sn8z := Nat.le_trans Sn5z K7zq.1
  have lz_arr_7z : h0.size ≤ arr_7z := Nat.le_trans K5z.1 r7z_2
  have ne_arr_arr_7z : arr ≠ arr_7z := Nat.ne_of_lt (Nat.lt_of_lt_of_le ((q0.ext E1z).ext E4z).lt r7z_2)
  have ne_a_arr_7z : a ≠ arr_7z := Nat.ne_of_lt (Nat.lt_of_lt_of_le ((q1.ext E1z).ext E4z).lt r7z_2)
  have ne_x0_arr_7z : x0 ≠ arr_7z := Nat.ne_of_lt (Nat.lt_of_lt_of_le ((q2.ext E1z).ext E4z).lt r7z_2)
  have ne_x1_arr_7z : x1 ≠ arr_7z := Nat.ne_of_lt (Nat.lt_of_lt_of_le ((q3.ext E1z).ext E4z).lt r7z_2)
  have ne_x2_arr_7z : x2 ≠ arr_7z := Nat.ne_of_lt (Nat.lt_of_lt_of_le ((q4.ext E1z).ext E4z).lt r7z_2)
  have ne_b4z_arr_7z : b4z ≠ arr_7z := Nat.ne_of_lt (Nat.lt_of_lt_of_le A4z.lt r7z_2)
  show own_G p e below (T7z.setTop (mkF m 20 #[.val (.ref a), .unset, .unset, .unset] [(.ref b4z)])) _
  refine own_go (fun t k => XS.astoreN X7z.here hx rfl (hb hby d_prog_14_method_2_code_20) rfl rfl (l' := #[.val (.ref a), .val (.ref b4z), .unset, .unset]) rfl k) ?_
  refine own_go (fun t k => XS.aloadN X7z.here hx rfl (hb hby d_prog_14_method_2_code_21) rfl rfl k) ?_
  have f9z := (((q5.ext E1z).ext E4z).keep K7zq (by simp only [List.mem_cons, List.not_mem_nil, or_false, not_or]; exact ne_a_b4z))
  have f10z := (((q0.ext E1z).ext E4z).keep K7zq (by simp only [List.mem_cons, List.not_mem_nil, or_false, not_or]; exact ne_arr_b4z))
  obtain ⟨cq11z, kq11z, qa11z, qb11z, qc11z⟩ := isOf hZ1z (rfl : T7z.heap = _) (((q1.ext E1z).ext E4z).keep K7zq)
  obtain ⟨_, _, ⟨T11z, L11z, k11z, n11z⟩, -, X11z, ⟨Lc11z, hQ11z, l11z, y11z, z11z⟩, st11z⟩ := X7z.interfaceBack hx (xi := own_m22) (y := own_m15) hown1z (mvT hZ1z (own_hw hw 66 rfl)) (mvT hZ1z (own_hw hw 67 rfl)) (mvT hZ1z (own_hw hw 68 rfl)) (mvT hZ1z (own_hw hw 69 rfl)) (mvT hZ1z (own_hw hw 70 rfl)) (mvT hZ1z (own_hw hw 71 rfl)) (mvT hZ1z (own_hw hw 72 rfl)) (mvT hZ1z (own_hw hw 58 rfl)) (by decide) (backOf (W := 0) (own_itr l Z a0 hw [] a mc T7z.heap O8z f9z) hZ1z (own_hw hw 73 rfl) (own_hw hw 10 rfl) (by decide) (by decide)) qa11z qb11z qc11z (g := (mkF m 22 #[.val (.ref a), .val (.ref b4z), .unset, .unset] [(.ref a)])) rfl (by rw [hml]; rfl) (Steps.refl _) (argsL := []) (rest := []) (lenOf pd_1636828997 rfl) rfl (by show 2 * 0 + _ ≤ _; exact Nat.le_of_eq rfl) (hb hby d_prog_14_method_2_code_22) (fun _ _ => ⟨rfl, rfl, (by decide : 4 + 1 ≤ _), (by decide : 42 + 4 ≤ _)⟩)
  dsimp only [Pt.U, Pt.locs, Pt.cells, Pt.slots] at X11z l11z y11z z11z st11z hQ11z
  subst l11z y11z z11z
  obtain ⟨b_11z, rfl, NQ11z, K11zq, r11z_0, r11z_1, r11z_2, r11z_3, r11z_4, r11z_5, r11z_6⟩ := hQ11z
  refine own_tr st11z ?_
  have N11z := Fr.app N7z NQ11z
  have O12z : Ext Z.heap T11z.heap := own_ext_keep O8z K11zq all0
  have K12z : Keep h0 T11z.heap [] := K8z.trans K11zq all0
  have Sn12z := Nat.le_trans Sn8z K11zq.1
  have lz_b_11z : h0.size ≤ b_11z := Nat.le_trans K8z.1 r11z_2
  have ne_arr_b_11z : arr ≠ b_11z := Nat.ne_of_lt (Nat.lt_of_lt_of_le f10z.lt r11z_2)
  have ne_a_b_11z : a ≠ b_11z := Nat.ne_of_lt (Nat.lt_of_lt_of_le (((q1.ext E1z).ext E4z).keep K7zq).lt r11z_2)
  have ne_x0_b_11z : x0 ≠ b_11z := Nat.ne_of_lt (Nat.lt_of_lt_of_le (((q2.ext E1z).ext E4z).keep K7zq).lt r11z_2)
  have ne_x1_b_11z : x1 ≠ b_11z := Nat.ne_of_lt (Nat.lt_of_lt_of_le (((q3.ext E1z).ext E4z).keep K7zq).lt r11z_2)
  have ne_x2_b_11z : x2 ≠ b_11z := Nat.ne_of_lt (Nat.lt_of_lt_of_le (((q4.ext E1z).ext E4z).keep K7zq).lt r11z_2)
  have ne_b4z_b_11z : b4z ≠ b_11z := Nat.ne_of_lt (Nat.lt_of_lt_of_le r7z_0.lt r11z_2)
  have ne_arr_7z_b_11z : arr_7z ≠ b_11z := Nat.ne_of_lt (Nat.lt_of_lt_of_le r7z_4.lt r11z_2)
  show own_G p e below (T11z.setTop (mkF m 27 #[.val (.ref a), .val (.ref b4z), .unset, .unset] [(.ref b_11z)])) _
  refine own_go (fun t k => XS.astoreN X11z.here hx rfl (hb hby d_prog_14_method_2_code_27) rfl rfl (l' := #[.val (.ref a), .val (.ref b4z), .val (.ref b_11z), .unset]) rfl k) ?_
  refine own_go (fun t k => XS.aloadN X11z.here hx rfl (hb hby d_prog_14_method_2_code_28) rfl rfl k) ?_
  have f13z := ((((q7.ext E1z).ext E4z).keep K7zq (by simp only [List.mem_cons, List.not_mem_nil, or_false, not_or]; exact ne_a_b4z)).keep K11zq (by simp))
  obtain ⟨cq14z, kq14z, qa14z, qb14z, qc14z⟩ := isOf hZ1z (rfl : T11z.heap = _) r11z_0
  obtain ⟨_, _, ⟨T14z, L14z, k14z, n14z⟩, -, X14z, ⟨Lc14z, hQ14z, l14z, y14z, z14z⟩, st14z⟩ := X11z.interfaceBack hx (xi := own_m23) (y := own_m16) hown1z (mvT hZ1z (own_hw hw 90 rfl)) (mvT hZ1z (own_hw hw 91 rfl)) (mvT hZ1z (own_hw hw 92 rfl)) (mvT hZ1z (own_hw hw 93 rfl)) (mvT hZ1z (own_hw hw 94 rfl)) (mvT hZ1z (own_hw hw 95 rfl)) (mvT hZ1z (own_hw hw 96 rfl)) (mvT hZ1z (own_hw hw 97 rfl)) (by decide) (backOf (W := 0) (own_hn1 l Z a0 hw [] b_11z a (0 : Int32) (3 : Int32) T11z.heap O12z r11z_3 r11z_4 f13z (by decide)) hZ1z (own_hw hw 98 rfl) (own_hw hw 76 rfl) (by decide) (by decide)) qa14z qb14z qc14z (g := (mkF m 29 #[.val (.ref a), .val (.ref b4z), .val (.ref b_11z), .unset] [(.ref b_11z)])) rfl (by rw [hml]; rfl) (Steps.refl _) (argsL := []) (rest := []) (lenOf pd_193422000 rfl) rfl (by show 2 * 0 + _ ≤ _; exact Nat.le_of_eq rfl) (hb hby d_prog_14_method_2_code_29) (fun _ _ => ⟨rfl, rfl, (by decide : 5 + 0 ≤ _), (by decide : 46 + 0 ≤ _)⟩)
  dsimp only [Pt.U, Pt.locs, Pt.cells, Pt.slots] at X14z l14z y14z z14z st14z hQ14z
  subst l14z y14z z14z
  obtain ⟨rfl, NQ14z, K14zq⟩ := hQ14z
  refine own_tr st14z ?_
  have N14z := Fr.app N11z NQ14z
  show own_G p e below (T14z.setTop (mkF m 34 #[.val (.ref a), .val (.ref b4z), .val (.ref b_11z), .unset] [(.int (1 : Int32))])) _
  refine own_go (fun t k => XS.ifNo X14z.here hx rfl (hb hby d_prog_14_method_2_code_34) rfl ((if0 _ _).trans (feq (by decide : ¬ ((1 : Int32) = (0 : Int32)))).1) k) ?_
  show own_G p e below (T14z.setTop (mkF m 37 #[.val (.ref a), .val (.ref b4z), .val (.ref b_11z), .unset] [])) _
  refine own_go (fun t k => XS.aloadN X14z.here hx rfl (hb hby d_prog_14_method_2_code_37) rfl rfl k) ?_
  have f15z := ((((q6.ext E1z).ext E4z).keep K7zq (by simp only [List.mem_cons, List.not_mem_nil, or_false, not_or]; exact ne_a_b4z)).keep K11zq (by simp))
  obtain ⟨cq16z, kq16z, qa16z, qb16z, qc16z⟩ := isOf hZ1z K14zq r11z_0
  obtain ⟨_, _, ⟨T16z, L16z, k16z, n16z⟩, -, X16z, ⟨Lc16z, hQ16z, l16z, y16z, z16z⟩, st16z⟩ := X14z.interfaceBack hx (xi := own_m24) (y := own_m18) hown1z (mvT hZ1z (own_hw hw 139 rfl)) (mvT hZ1z (own_hw hw 140 rfl)) (mvT hZ1z (own_hw hw 141 rfl)) (mvT hZ1z (own_hw hw 142 rfl)) (mvT hZ1z (own_hw hw 143 rfl)) (mvT hZ1z (own_hw hw 144 rfl)) (mvT hZ1z (own_hw hw 145 rfl)) (mvT hZ1z (own_hw hw 97 rfl)) (by decide) (backOf (W := 0) (own_next l Z a0 hw [] b_11z a mc (0 : Int32) (-1 : Int32) (3 : Int32) arr kk ([(.ref x0), (.ref x1), (.ref x2), .null, .null, .null, .null, .null, .null, .null]) 0 x0 (10 : Int32) T11z.heap O12z r11z_0 r11z_1 r11z_3 r11z_4 r11z_5 r11z_6 (f9z.keep K11zq (by simp)) f13z f15z (f10z.keep K11zq (by simp)) (by decide) rfl (by decide) (by show (10 : Int32).toInt = ((10 : Nat) : Int); decide) (by decide) ne_a_b_11z ne_arr_b_11z) hZ1z (own_hw hw 146 rfl) (own_hw hw 76 rfl) (by decide) (by decide)) qa16z qb16z qc16z (g := (mkF m 38 #[.val (.ref a), .val (.ref b4z), .val (.ref b_11z), .unset] [(.ref b_11z)])) rfl (by rw [hml]; rfl) (Steps.refl _) (argsL := []) (rest := []) (lenOf pd_462477782 rfl) rfl (by show 2 * 0 + _ ≤ _; exact Nat.le_of_eq rfl) (hb hby d_prog_14_method_2_code_38) (fun _ _ => ⟨rfl, K14zq, (by decide : 5 + 0 ≤ _), (by decide : 46 + 0 ≤ _)⟩)
  dsimp only [Pt.U, Pt.locs, Pt.cells, Pt.slots] at X16z l16z y16z z16z st16z hQ16z
  subst l16z y16z z16z
  obtain ⟨rfl, NQ16z, K16zq, r16z_0, r16z_1, r16z_2, r16z_3, r16z_4⟩ := hQ16z
  refine own_tr st16z ?_
  have N16z := Fr.app N14z NQ16z
  have O17z : Ext Z.heap T16z.heap := own_ext_keep O12z K16zq (allS r11z_1 all0)
  have K17z : Keep h0 T16z.heap [] := K12z.trans K16zq (allS (Or.inr lz_b_11z) all0)
  have Sn17z := Nat.le_trans Sn12z K16zq.1
  have r16z_2 : Fld Z T16z.heap b_11z "java/util/ArrayList$Itr" "cursor" "I" (.int (1 : Int32)) := r16z_2
  show own_G p e below (T16z.setTop (mkF m 43 #[.val (.ref a), .val (.ref b4z), .val (.ref b_11z), .unset] [(.ref x0)])) _
  refine own_go (fun t k => XS.astoreN X16z.here hx rfl (hb hby d_prog_14_method_2_code_43) rfl rfl (l' := #[.val (.ref a), .val (.ref b4z), .val (.ref b_11z), .val (.ref x0)]) rfl k) ?_
  refine own_go (fun t k => XS.aloadN X16z.here hx rfl (hb hby d_prog_14_method_2_code_44) rfl rfl k) ?_
  refine own_go (fun t k => XS.aloadN X16z.here hx rfl (hb hby d_prog_14_method_2_code_45) rfl rfl k) ?_
  obtain ⟨a18z, T18z, h18z, k18z, X18z, e18z, E18z, Si18z, Sn18z, hZ18z, hown18z, st18z⟩ := ldcS X16z hx hZ1z hown1z (own_hw hw 153 rfl) (own_wS hw) rfl Si1z Sn17z (g := (mkF m 46 #[.val (.ref a), .val (.ref b4z), .val (.ref b_11z), .val (.ref x0)] [(.ref x0), (.ref b4z)])) rfl (hb hby d_prog_14_method_2_code_46) (n := 84) (by decide) (by decide) (by decide) (by decide)
  refine own_go st18z ?_
  have O19z : Ext Z.heap h18z := own_ext_trans O17z E18z
  have K19z : Keep h0 h18z [] := K17z.ext E18z
  show own_G p e below (T18z.setTop (mkF m 48 #[.val (.ref a), .val (.ref b4z), .val (.ref b_11z), .val (.ref x0)] [(.ref a18z), (.ref x0), (.ref b4z)])) _
  obtain ⟨_, _, ⟨T20z, L20z, k20z, n20z⟩, -, X20z, ⟨Lc20z, hQ20z, l20z, y20z, z20z⟩, st20z⟩ := Jvm.LawKit.callS X18z hx (y := own_m19) hown18z (mvT hZ18z (own_hw hw 46 rfl)) (mvT hZ18z (own_hw hw 47 rfl)) (mvT hZ18z (own_hw hw 48 rfl)) (mvT hZ18z (own_hw hw 49 rfl)) (by decide) (backOf (W := 1) (own_rnn l Z a0 hw [] x0 a18z h18z O19z) hZ18z (own_hw hw 49 rfl) (own_hw hw 48 rfl) (by decide) (by decide)) (g := (mkF m 48 #[.val (.ref a), .val (.ref b4z), .val (.ref b_11z), .val (.ref x0)] [(.ref a18z), (.ref x0), (.ref b4z)])) rfl (by rw [hml]; rfl) (argsL := [(.ref x0), (.ref a18z)]) (rest := [(.ref b4z)]) (lenOf pd_3946442454 rfl) rfl (by show 2 * 0 + _ ≤ _; exact Nat.le_of_eq rfl) (hb hby d_prog_14_method_2_code_48) (fun _ _ => ⟨rfl, e18z, (by decide : 7 + 0 ≤ _), (by decide : 134 + 0 ≤ _)⟩)
  dsimp only [Pt.U, Pt.locs, Pt.cells, Pt.slots] at X20z l20z y20z z20z st20z hQ20z
  subst l20z y20z z20z
  obtain ⟨rfl, NQ20z, K20zq⟩ := hQ20z
  refine own_go st20z ?_
  have N20z := Fr.app N16z NQ20z
  show own_G p e below (T20z.setTop (mkF m 51 #[.val (.ref a), .val (.ref b4z), .val (.ref b_11z), .val (.ref x0)] [(.ref x0), (.ref b4z)])) _
  have f21z := ((((((q2.ext E1z).ext E4z).keep K7zq).keep K11zq).keep K16zq).ext E18z)
  have f22z := (((r7z_4.keep K11zq (by simp)).keep K16zq (by simp only [List.mem_cons, List.not_mem_nil, or_false, not_or]; exact ne_arr_7z_b_11z)).ext E18z)
  have f23z := (((r7z_5.keep K11zq (by simp)).keep K16zq (by simp only [List.mem_cons, List.not_mem_nil, or_false, not_or]; exact ne_b4z_b_11z)).ext E18z)
  have f24z := (((r7z_6.keep K11zq (by simp)).keep K16zq (by simp only [List.mem_cons, List.not_mem_nil, or_false, not_or]; exact ne_b4z_b_11z)).ext E18z)
  have f25z := (((r7z_7.keep K11zq (by simp)).keep K16zq (by simp only [List.mem_cons, List.not_mem_nil, or_false, not_or]; exact ne_b4z_b_11z)).ext E18z)
  obtain ⟨cq26z, kq26z, qa26z, qb26z, qc26z⟩ := isOf hZ18z K20zq (((r7z_0.keep K11zq).keep K16zq).ext E18z)
  obtain ⟨_, _, ⟨T26z, L26z, k26z, n26z⟩, -, X26z, ⟨Lc26z, hQ26z, l26z, y26z, z26z⟩, st26z⟩ := X20z.interfaceBack hx (xi := own_m25) (y := own_m8) hown18z (mvT hZ18z (own_hw hw 154 rfl)) (mvT hZ18z (own_hw hw 155 rfl)) (mvT hZ18z (own_hw hw 156 rfl)) (mvT hZ18z (own_hw hw 157 rfl)) (mvT hZ18z (own_hw hw 113 rfl)) (mvT hZ18z (own_hw hw 158 rfl)) (mvT hZ18z (own_hw hw 159 rfl)) (mvT hZ18z (own_hw hw 106 rfl)) (by decide) (backOf (W := 0) (own_add1 l Z a0 hw [] b4z x0 arr_7z kk_7z ([.null, .null, .null]) (0 : Int32) (0 : Int32) (3 : Int32) 0 h18z O19z (((r7z_0.keep K11zq).keep K16zq).ext E18z) fr_b4z r7z_1 f21z f22z r7z_3 (by decide) (by show (3 : Int32).toInt = ((3 : Nat) : Int); decide) (by show 0 < 3; decide) ne_b4z_arr_7z f23z f24z f25z) hZ18z (own_hw hw 115 rfl) (own_hw hw 10 rfl) (by decide) (by decide)) qa26z qb26z qc26z (g := (mkF m 51 #[.val (.ref a), .val (.ref b4z), .val (.ref b_11z), .val (.ref x0)] [(.ref x0), (.ref b4z)])) rfl (by rw [hml]; rfl) (Steps.refl _) (argsL := [(.ref x0)]) (rest := []) (lenOf pd_396412080 rfl) rfl (by show 2 * 0 + _ ≤ _; exact Nat.le_of_eq rfl) (hb hby d_prog_14_method_2_code_51) (fun _ _ => ⟨rfl, K20zq, (by decide : 7 + 0 ≤ _), (by decide : 134 + 0 ≤ _)⟩)
  dsimp only [Pt.U, Pt.locs, Pt.cells, Pt.slots] at X26z l26z y26z z26z st26z hQ26z
  subst l26z y26z z26z
  obtain ⟨rfl, NQ26z, K26zq, r26z_0, r26z_1, r26z_2, r26z_3, r26z_4⟩ := hQ26z
  refine own_tr st26z ?_
  have N26z := Fr.app N20z NQ26z
  have O27z : Ext Z.heap T26z.heap := own_ext_keep O19z K26zq (allS fr_b4z (allS r7z_1 all0))
  have K27z : Keep h0 T26z.heap [] := K19z.trans K26zq (allS (Or.inr lz_b4z) (allS (Or.inr lz_arr_7z) all0))
  have Sn27z := Nat.le_trans Sn18z K26zq.1
  have r26z_1 : own_A Z T26z.heap arr_7z kk_7z (.object "java/lang/Object") [(.ref x0), .null, .null] := r26z_1
  have r26z_2 : Fld Z T26z.heap b4z "java/util/AbstractList" "modCount" "I" (.int (1 : Int32)) := r26z_2
  have r26z_4 : Fld Z T26z.heap b4z "java/util/ArrayList" "size" "I" (.int (1 : Int32)) := r26z_4
  show own_G p e below (T26z.setTop (mkF m 56 #[.val (.ref a), .val (.ref b4z), .val (.ref b_11z), .val (.ref x0)] [(.int (1 : Int32))])) _
  refine own_go (fun t k => XS.pop X26z.here hx rfl (hb hby d_prog_14_method_2_code_56) rfl rfl k) ?_
  refine own_go (fun t k => XS.goto X26z.here hx rfl (pc0 := 57) (pc' := 28) rfl (hb hby d_prog_14_method_2_code_57) (by decide) (by decide) k) ?_
  show own_G p e below (T26z.setTop (mkF m 28 #[.val (.ref a), .val (.ref b4z), .val (.ref b_11z), .val (.ref x0)] [])) _
  refine own_go (fun t k => XS.aloadN X26z.here hx rfl (hb hby d_prog_14_method_2_code_28) rfl rfl k) ?_
  have f28z := ((r16z_1.ext E18z).keep K26zq (by simp only [List.mem_cons, List.not_mem_nil, or_false, not_or]; exact ⟨(Ne.symm ne_b4z_b_11z), (Ne.symm ne_arr_7z_b_11z)⟩))
  have f29z := ((r16z_2.ext E18z).keep K26zq (by simp only [List.mem_cons, List.not_mem_nil, or_false, not_or]; exact ⟨(Ne.symm ne_b4z_b_11z), (Ne.symm ne_arr_7z_b_11z)⟩))
  have f30z := (((f13z.keep K16zq (by simp only [List.mem_cons, List.not_mem_nil, or_false, not_or]; exact ne_a_b_11z)).ext E18z).keep K26zq (by simp only [List.mem_cons, List.not_mem_nil, or_false, not_or]; exact ⟨ne_a_b4z, ne_a_arr_7z⟩))
  obtain ⟨cq31z, kq31z, qa31z, qb31z, qc31z⟩ := isOf hZ18z (rfl : T26z.heap = _) ((r16z_0.ext E18z).keep K26zq)
  obtain ⟨_, _, ⟨T31z, L31z, k31z, n31z⟩, -, X31z, ⟨Lc31z, hQ31z, l31z, y31z, z31z⟩, st31z⟩ := X26z.interfaceBack hx (xi := own_m23) (y := own_m16) hown18z (mvT hZ18z (own_hw hw 90 rfl)) (mvT hZ18z (own_hw hw 91 rfl)) (mvT hZ18z (own_hw hw 92 rfl)) (mvT hZ18z (own_hw hw 93 rfl)) (mvT hZ18z (own_hw hw 94 rfl)) (mvT hZ18z (own_hw hw 95 rfl)) (mvT hZ18z (own_hw hw 96 rfl)) (mvT hZ18z (own_hw hw 97 rfl)) (by decide) (backOf (W := 0) (own_hn1 l Z a0 hw [] b_11z a (1 : Int32) (3 : Int32) T26z.heap O27z f28z f29z f30z (by decide)) hZ18z (own_hw hw 98 rfl) (own_hw hw 76 rfl) (by decide) (by decide)) qa31z qb31z qc31z (g := (mkF m 29 #[.val (.ref a), .val (.ref b4z), .val (.ref b_11z), .val (.ref x0)] [(.ref b_11z)])) rfl (by rw [hml]; rfl) (Steps.refl _) (argsL := []) (rest := []) (lenOf pd_193422000 rfl) rfl (by show 2 * 0 + _ ≤ _; exact Nat.le_of_eq rfl) (hb hby d_prog_14_method_2_code_29) (fun _ _ => ⟨rfl, rfl, (by decide : 7 + 0 ≤ _), (by decide : 134 + 0 ≤ _)⟩)
  dsimp only [Pt.U, Pt.locs, Pt.cells, Pt.slots] at X31z l31z y31z z31z st31z hQ31z
  subst l31z y31z z31z
  obtain ⟨rfl, NQ31z, K31zq⟩ := hQ31z
  refine own_tr st31z ?_
  have N31z := Fr.app N26z NQ31z
  show own_G p e below (T31z.setTop (mkF m 34 #[.val (.ref a), .val (.ref b4z), .val (.ref b_11z), .val (.ref x0)] [(.int (1 : Int32))])) _
  refine own_go (fun t k => XS.ifNo X31z.here hx rfl (hb hby d_prog_14_method_2_code_34) rfl ((if0 _ _).trans (feq (by decide : ¬ ((1 : Int32) = (0 : Int32)))).1) k) ?_
  show own_G p e below (T31z.setTop (mkF m 37 #[.val (.ref a), .val (.ref b4z), .val (.ref b_11z), .val (.ref x0)] [])) _
  refine own_go (fun t k => XS.aloadN X31z.here hx rfl (hb hby d_prog_14_method_2_code_37) rfl rfl k) ?_
  have f32z := ((r16z_3.ext E18z).keep K26zq (by simp only [List.mem_cons, List.not_mem_nil, or_false, not_or]; exact ⟨(Ne.symm ne_b4z_b_11z), (Ne.symm ne_arr_7z_b_11z)⟩))
  have f33z := ((r16z_4.ext E18z).keep K26zq (by simp only [List.mem_cons, List.not_mem_nil, or_false, not_or]; exact ⟨(Ne.symm ne_b4z_b_11z), (Ne.symm ne_arr_7z_b_11z)⟩))
  have f34z := ((((f9z.keep K11zq (by simp)).keep K16zq (by simp only [List.mem_cons, List.not_mem_nil, or_false, not_or]; exact ne_a_b_11z)).ext E18z).keep K26zq (by simp only [List.mem_cons, List.not_mem_nil, or_false, not_or]; exact ⟨ne_a_b4z, ne_a_arr_7z⟩))
  have f35z := (((f15z.keep K16zq (by simp only [List.mem_cons, List.not_mem_nil, or_false, not_or]; exact ne_a_b_11z)).ext E18z).keep K26zq (by simp only [List.mem_cons, List.not_mem_nil, or_false, not_or]; exact ⟨ne_a_b4z, ne_a_arr_7z⟩))
  have f36z := ((((f10z.keep K11zq (by simp)).keep K16zq (by simp only [List.mem_cons, List.not_mem_nil, or_false, not_or]; exact ne_arr_b_11z)).ext E18z).keep K26zq (by simp only [List.mem_cons, List.not_mem_nil, or_false, not_or]; exact ⟨ne_arr_b4z, ne_arr_arr_7z⟩))
  obtain ⟨cq37z, kq37z, qa37z, qb37z, qc37z⟩ := isOf hZ18z K31zq ((r16z_0.ext E18z).keep K26zq)
  obtain ⟨_, _, ⟨T37z, L37z, k37z, n37z⟩, -, X37z, ⟨Lc37z, hQ37z, l37z, y37z, z37z⟩, st37z⟩ := X31z.interfaceBack hx (xi := own_m24) (y := own_m18) hown18z (mvT hZ18z (own_hw hw 139 rfl)) (mvT hZ18z (own_hw hw 140 rfl)) (mvT hZ18z (own_hw hw 141 rfl)) (mvT hZ18z (own_hw hw 142 rfl)) (mvT hZ18z (own_hw hw 143 rfl)) (mvT hZ18z (own_hw hw 144 rfl)) (mvT hZ18z (own_hw hw 145 rfl)) (mvT hZ18z (own_hw hw 97 rfl)) (by decide) (backOf (W := 0) (own_next l Z a0 hw [] b_11z a mc (1 : Int32) (0 : Int32) (3 : Int32) arr kk ([(.ref x0), (.ref x1), (.ref x2), .null, .null, .null, .null, .null, .null, .null]) 1 x1 (10 : Int32) T26z.heap O27z ((r16z_0.ext E18z).keep K26zq) r11z_1 f28z f29z f32z f33z f34z f30z f35z f36z (by decide) rfl (by decide) (by show (10 : Int32).toInt = ((10 : Nat) : Int); decide) (by decide) ne_a_b_11z ne_arr_b_11z) hZ18z (own_hw hw 146 rfl) (own_hw hw 76 rfl) (by decide) (by decide)) qa37z qb37z qc37z (g := (mkF m 38 #[.val (.ref a), .val (.ref b4z), .val (.ref b_11z), .val (.ref x0)] [(.ref b_11z)])) rfl (by rw [hml]; rfl) (Steps.refl _) (argsL := []) (rest := []) (lenOf pd_462477782 rfl) rfl (by show 2 * 0 + _ ≤ _; exact Nat.le_of_eq rfl) (hb hby d_prog_14_method_2_code_38) (fun _ _ => ⟨rfl, K31zq, (by decide : 7 + 0 ≤ _), (by decide : 134 + 0 ≤ _)⟩)
  dsimp only [Pt.U, Pt.locs, Pt.cells, Pt.slots] at X37z l37z y37z z37z st37z hQ37z
  subst l37z y37z z37z
  obtain ⟨rfl, NQ37z, K37zq, r37z_0, r37z_1, r37z_2, r37z_3, r37z_4⟩ := hQ37z
  refine own_tr st37z ?_
  have N37z := Fr.app N31z NQ37z
  have O38z : Ext Z.heap T37z.heap := own_ext_keep O27z K37zq (allS r11z_1 all0)
  have K38z : Keep h0 T37z.heap [] := K27z.trans K37zq (allS (Or.inr lz_b_11z) all0)
  have Sn38z := Nat.le_trans Sn27z K37zq.1
  have r37z_2 : Fld Z T37z.heap b_11z "java/util/ArrayList$Itr" "cursor" "I" (.int (2 : Int32)) := r37z_2
  show own_G p e below (T37z.setTop (mkF m 43 #[.val (.ref a), .val (.ref b4z), .val (.ref b_11z), .val (.ref x0)] [(.ref x1)])) _
  refine own_go (fun t k => XS.astoreN X37z.here hx rfl (hb hby d_prog_14_method_2_code_43) rfl rfl (l' := #[.val (.ref a), .val (.ref b4z), .val (.ref b_11z), .val (.ref x1)]) rfl k) ?_
  refine own_go (fun t k => XS.aloadN X37z.here hx rfl (hb hby d_prog_14_method_2_code_44) rfl rfl k) ?_
  refine own_go (fun t k => XS.aloadN X37z.here hx rfl (hb hby d_prog_14_method_2_code_45) rfl rfl k) ?_
  obtain ⟨a39z, T39z, h39z, k39z, X39z, e39z, E39z, Si39z, Sn39z, hZ39z, hown39z, st39z⟩ := ldcS X37z hx hZ18z hown18z (own_hw hw 153 rfl) (own_wS hw) rfl Si18z Sn38z (g := (mkF m 46 #[.val (.ref a), .val (.ref b4z), .val (.ref b_11z), .val (.ref x1)] [(.ref x1), (.ref b4z)])) rfl (hb hby d_prog_14_method_2_code_46) (n := 84) (by decide) (by decide) (by decide) (by decide)
  refine own_go st39z ?_
  have O40z : Ext Z.heap h39z := own_ext_trans O38z E39z
  have K40z : Keep h0 h39z [] := K38z.ext E39z
  show own_G p e below (T39z.setTop (mkF m 48 #[.val (.ref a), .val (.ref b4z), .val (.ref b_11z), .val (.ref x1)] [(.ref a39z), (.ref x1), (.ref b4z)])) _
  obtain ⟨_, _, ⟨T41z, L41z, k41z, n41z⟩, -, X41z, ⟨Lc41z, hQ41z, l41z, y41z, z41z⟩, st41z⟩ := Jvm.LawKit.callS X39z hx (y := own_m19) hown39z (mvT hZ39z (own_hw hw 46 rfl)) (mvT hZ39z (own_hw hw 47 rfl)) (mvT hZ39z (own_hw hw 48 rfl)) (mvT hZ39z (own_hw hw 49 rfl)) (by decide) (backOf (W := 1) (own_rnn l Z a0 hw [] x1 a39z h39z O40z) hZ39z (own_hw hw 49 rfl) (own_hw hw 48 rfl) (by decide) (by decide)) (g := (mkF m 48 #[.val (.ref a), .val (.ref b4z), .val (.ref b_11z), .val (.ref x1)] [(.ref a39z), (.ref x1), (.ref b4z)])) rfl (by rw [hml]; rfl) (argsL := [(.ref x1), (.ref a39z)]) (rest := [(.ref b4z)]) (lenOf pd_3946442454 rfl) rfl (by show 2 * 0 + _ ≤ _; exact Nat.le_of_eq rfl) (hb hby d_prog_14_method_2_code_48) (fun _ _ => ⟨rfl, e39z, (by decide : 9 + 0 ≤ _), (by decide : 222 + 0 ≤ _)⟩)
  dsimp only [Pt.U, Pt.locs, Pt.cells, Pt.slots] at X41z l41z y41z z41z st41z hQ41z
  subst l41z y41z z41z
  obtain ⟨rfl, NQ41z, K41zq⟩ := hQ41z
  refine own_go st41z ?_
  have N41z := Fr.app N37z NQ41z
  show own_G p e below (T41z.setTop (mkF m 51 #[.val (.ref a), .val (.ref b4z), .val (.ref b_11z), .val (.ref x1)] [(.ref x1), (.ref b4z)])) _
  have f42z := (((((((((q3.ext E1z).ext E4z).keep K7zq).keep K11zq).keep K16zq).ext E18z).keep K26zq).keep K37zq).ext E39z)
  have f43z := ((r26z_1.keep K37zq (by simp only [List.mem_cons, List.not_mem_nil, or_false, not_or]; exact ne_arr_7z_b_11z)).ext E39z)
  have f44z := ((r26z_2.keep K37zq (by simp only [List.mem_cons, List.not_mem_nil, or_false, not_or]; exact ne_b4z_b_11z)).ext E39z)
  have f45z := ((r26z_3.keep K37zq (by simp only [List.mem_cons, List.not_mem_nil, or_false, not_or]; exact ne_b4z_b_11z)).ext E39z)
  have f46z := ((r26z_4.keep K37zq (by simp only [List.mem_cons, List.not_mem_nil, or_false, not_or]; exact ne_b4z_b_11z)).ext E39z)
  obtain ⟨cq47z, kq47z, qa47z, qb47z, qc47z⟩ := isOf hZ39z K41zq ((r26z_0.keep K37zq).ext E39z)
  obtain ⟨_, _, ⟨T47z, L47z, k47z, n47z⟩, -, X47z, ⟨Lc47z, hQ47z, l47z, y47z, z47z⟩, st47z⟩ := X41z.interfaceBack hx (xi := own_m25) (y := own_m8) hown39z (mvT hZ39z (own_hw hw 154 rfl)) (mvT hZ39z (own_hw hw 155 rfl)) (mvT hZ39z (own_hw hw 156 rfl)) (mvT hZ39z (own_hw hw 157 rfl)) (mvT hZ39z (own_hw hw 113 rfl)) (mvT hZ39z (own_hw hw 158 rfl)) (mvT hZ39z (own_hw hw 159 rfl)) (mvT hZ39z (own_hw hw 106 rfl)) (by decide) (backOf (W := 0) (own_add1 l Z a0 hw [] b4z x1 arr_7z kk_7z ([(.ref x0), .null, .null]) (1 : Int32) (1 : Int32) (3 : Int32) 1 h39z O40z ((r26z_0.keep K37zq).ext E39z) fr_b4z r7z_1 f42z f43z r7z_3 (by decide) (by show (3 : Int32).toInt = ((3 : Nat) : Int); decide) (by show 1 < 3; decide) ne_b4z_arr_7z f44z f45z f46z) hZ39z (own_hw hw 115 rfl) (own_hw hw 10 rfl) (by decide) (by decide)) qa47z qb47z qc47z (g := (mkF m 51 #[.val (.ref a), .val (.ref b4z), .val (.ref b_11z), .val (.ref x1)] [(.ref x1), (.ref b4z)])) rfl (by rw [hml]; rfl) (Steps.refl _) (argsL := [(.ref x1)]) (rest := []) (lenOf pd_396412080 rfl) rfl (by show 2 * 0 + _ ≤ _; exact Nat.le_of_eq rfl) (hb hby d_prog_14_method_2_code_51) (fun _ _ => ⟨rfl, K41zq, (by decide : 9 + 0 ≤ _), (by decide : 222 + 0 ≤ _)⟩)
  dsimp only [Pt.U, Pt.locs, Pt.cells, Pt.slots] at X47z l47z y47z z47z st47z hQ47z
  subst l47z y47z z47z
  obtain ⟨rfl, NQ47z, K47zq, r47z_0, r47z_1, r47z_2, r47z_3, r47z_4⟩ := hQ47z
  refine own_tr st47z ?_
  have N47z := Fr.app N41z NQ47z
  have O48z : Ext Z.heap T47z.heap := own_ext_keep O40z K47zq (allS fr_b4z (allS r7z_1 all0))
  have K48z : Keep h0 T47z.heap [] := K40z.trans K47zq (allS (Or.inr lz_b4z) (allS (Or.inr lz_arr_7z) all0))
  have Sn48z := Nat.le_trans Sn39z K47zq.1
  have r47z_1 : own_A Z T47z.heap arr_7z kk_7z (.object "java/lang/Object") [(.ref x0), (.ref x1), .null] := r47z_1
  have r47z_2 : Fld Z T47z.heap b4z "java/util/AbstractList" "modCount" "I" (.int (2 : Int32)) := r47z_2
  have r47z_4 : Fld Z T47z.heap b4z "java/util/ArrayList" "size" "I" (.int (2 : Int32)) := r47z_4
  show own_G p e below (T47z.setTop (mkF m 56 #[.val (.ref a), .val (.ref b4z), .val (.ref b_11z), .val (.ref x1)] [(.int (1 : Int32))])) _
  refine own_go (fun t k => XS.pop X47z.here hx rfl (hb hby d_prog_14_method_2_code_56) rfl rfl k) ?_
  refine own_go (fun t k => XS.goto X47z.here hx rfl (pc0 := 57) (pc' := 28) rfl (hb hby d_prog_14_method_2_code_57) (by decide) (by decide) k) ?_
  show own_G p e below (T47z.setTop (mkF m 28 #[.val (.ref a), .val (.ref b4z), .val (.ref b_11z), .val (.ref x1)] [])) _
  refine own_go (fun t k => XS.aloadN X47z.here hx rfl (hb hby d_prog_14_method_2_code_28) rfl rfl k) ?_
  have f49z := ((r37z_1.ext E39z).keep K47zq (by simp only [List.mem_cons, List.not_mem_nil, or_false, not_or]; exact ⟨(Ne.symm ne_b4z_b_11z), (Ne.symm ne_arr_7z_b_11z)⟩))
  have f50z := ((r37z_2.ext E39z).keep K47zq (by simp only [List.mem_cons, List.not_mem_nil, or_false, not_or]; exact ⟨(Ne.symm ne_b4z_b_11z), (Ne.symm ne_arr_7z_b_11z)⟩))
  have f51z := (((f30z.keep K37zq (by simp only [List.mem_cons, List.not_mem_nil, or_false, not_or]; exact ne_a_b_11z)).ext E39z).keep K47zq (by simp only [List.mem_cons, List.not_mem_nil, or_false, not_or]; exact ⟨ne_a_b4z, ne_a_arr_7z⟩))
  obtain ⟨cq52z, kq52z, qa52z, qb52z, qc52z⟩ := isOf hZ39z (rfl : T47z.heap = _) ((r37z_0.ext E39z).keep K47zq)
  obtain ⟨_, _, ⟨T52z, L52z, k52z, n52z⟩, -, X52z, ⟨Lc52z, hQ52z, l52z, y52z, z52z⟩, st52z⟩ := X47z.interfaceBack hx (xi := own_m23) (y := own_m16) hown39z (mvT hZ39z (own_hw hw 90 rfl)) (mvT hZ39z (own_hw hw 91 rfl)) (mvT hZ39z (own_hw hw 92 rfl)) (mvT hZ39z (own_hw hw 93 rfl)) (mvT hZ39z (own_hw hw 94 rfl)) (mvT hZ39z (own_hw hw 95 rfl)) (mvT hZ39z (own_hw hw 96 rfl)) (mvT hZ39z (own_hw hw 97 rfl)) (by decide) (backOf (W := 0) (own_hn1 l Z a0 hw [] b_11z a (2 : Int32) (3 : Int32) T47z.heap O48z f49z f50z f51z (by decide)) hZ39z (own_hw hw 98 rfl) (own_hw hw 76 rfl) (by decide) (by decide)) qa52z qb52z qc52z (g := (mkF m 29 #[.val (.ref a), .val (.ref b4z), .val (.ref b_11z), .val (.ref x1)] [(.ref b_11z)])) rfl (by rw [hml]; rfl) (Steps.refl _) (argsL := []) (rest := []) (lenOf pd_193422000 rfl) rfl (by show 2 * 0 + _ ≤ _; exact Nat.le_of_eq rfl) (hb hby d_prog_14_method_2_code_29) (fun _ _ => ⟨rfl, rfl, (by decide : 9 + 0 ≤ _), (by decide : 222 + 0 ≤ _)⟩)
  dsimp only [Pt.U, Pt.locs, Pt.cells, Pt.slots] at X52z l52z y52z z52z st52z hQ52z
  subst l52z y52z z52z
  obtain ⟨rfl, NQ52z, K52zq⟩ := hQ52z
  refine own_tr st52z ?_
  have N52z := Fr.app N47z NQ52z
  show own_G p e below (T52z.setTop (mkF m 34 #[.val (.ref a), .val (.ref b4z), .val (.ref b_11z), .val (.ref x1)] [(.int (1 : Int32))])) _
  refine own_go (fun t k => XS.ifNo X52z.here hx rfl (hb hby d_prog_14_method_2_code_34) rfl ((if0 _ _).trans (feq (by decide : ¬ ((1 : Int32) = (0 : Int32)))).1) k) ?_
  show own_G p e below (T52z.setTop (mkF m 37 #[.val (.ref a), .val (.ref b4z), .val (.ref b_11z), .val (.ref x1)] [])) _
  refine own_go (fun t k => XS.aloadN X52z.here hx rfl (hb hby d_prog_14_method_2_code_37) rfl rfl k) ?_
  have f53z := ((r37z_3.ext E39z).keep K47zq (by simp only [List.mem_cons, List.not_mem_nil, or_false, not_or]; exact ⟨(Ne.symm ne_b4z_b_11z), (Ne.symm ne_arr_7z_b_11z)⟩))
  have f54z := ((r37z_4.ext E39z).keep K47zq (by simp only [List.mem_cons, List.not_mem_nil, or_false, not_or]; exact ⟨(Ne.symm ne_b4z_b_11z), (Ne.symm ne_arr_7z_b_11z)⟩))
  have f55z := (((f34z.keep K37zq (by simp only [List.mem_cons, List.not_mem_nil, or_false, not_or]; exact ne_a_b_11z)).ext E39z).keep K47zq (by simp only [List.mem_cons, List.not_mem_nil, or_false, not_or]; exact ⟨ne_a_b4z, ne_a_arr_7z⟩))
  have f56z := (((f35z.keep K37zq (by simp only [List.mem_cons, List.not_mem_nil, or_false, not_or]; exact ne_a_b_11z)).ext E39z).keep K47zq (by simp only [List.mem_cons, List.not_mem_nil, or_false, not_or]; exact ⟨ne_a_b4z, ne_a_arr_7z⟩))
  have f57z := (((f36z.keep K37zq (by simp only [List.mem_cons, List.not_mem_nil, or_false, not_or]; exact ne_arr_b_11z)).ext E39z).keep K47zq (by simp only [List.mem_cons, List.not_mem_nil, or_false, not_or]; exact ⟨ne_arr_b4z, ne_arr_arr_7z⟩))
  obtain ⟨cq58z, kq58z, qa58z, qb58z, qc58z⟩ := isOf hZ39z K52zq ((r37z_0.ext E39z).keep K47zq)
  obtain ⟨_, _, ⟨T58z, L58z, k58z, n58z⟩, -, X58z, ⟨Lc58z, hQ58z, l58z, y58z, z58z⟩, st58z⟩ := X52z.interfaceBack hx (xi := own_m24) (y := own_m18) hown39z (mvT hZ39z (own_hw hw 139 rfl)) (mvT hZ39z (own_hw hw 140 rfl)) (mvT hZ39z (own_hw hw 141 rfl)) (mvT hZ39z (own_hw hw 142 rfl)) (mvT hZ39z (own_hw hw 143 rfl)) (mvT hZ39z (own_hw hw 144 rfl)) (mvT hZ39z (own_hw hw 145 rfl)) (mvT hZ39z (own_hw hw 97 rfl)) (by decide) (backOf (W := 0) (own_next l Z a0 hw [] b_11z a mc (2 : Int32) (1 : Int32) (3 : Int32) arr kk ([(.ref x0), (.ref x1), (.ref x2), .null, .null, .null, .null, .null, .null, .null]) 2 x2 (10 : Int32) T47z.heap O48z ((r37z_0.ext E39z).keep K47zq) r11z_1 f49z f50z f53z f54z f55z f51z f56z f57z (by decide) rfl (by decide) (by show (10 : Int32).toInt = ((10 : Nat) : Int); decide) (by decide) ne_a_b_11z ne_arr_b_11z) hZ39z (own_hw hw 146 rfl) (own_hw hw 76 rfl) (by decide) (by decide)) qa58z qb58z qc58z (g := (mkF m 38 #[.val (.ref a), .val (.ref b4z), .val (.ref b_11z), .val (.ref x1)] [(.ref b_11z)])) rfl (by rw [hml]; rfl) (Steps.refl _) (argsL := []) (rest := []) (lenOf pd_462477782 rfl) rfl (by show 2 * 0 + _ ≤ _; exact Nat.le_of_eq rfl) (hb hby d_prog_14_method_2_code_38) (fun _ _ => ⟨rfl, K52zq, (by decide : 9 + 0 ≤ _), (by decide : 222 + 0 ≤ _)⟩)
  dsimp only [Pt.U, Pt.locs, Pt.cells, Pt.slots] at X58z l58z y58z z58z st58z hQ58z
  subst l58z y58z z58z
  obtain ⟨rfl, NQ58z, K58zq, r58z_0, r58z_1, r58z_2, r58z_3, r58z_4⟩ := hQ58z
  refine own_tr st58z ?_
  have N58z := Fr.app N52z NQ58z
  have O59z : Ext Z.heap T58z.heap := own_ext_keep O48z K58zq (allS r11z_1 all0)
  have K59z : Keep h0 T58z.heap [] := K48z.trans K58zq (allS (Or.inr lz_b_11z) all0)
  have Sn59z := Nat.le_trans Sn48z K58zq.1
  have r58z_2 : Fld Z T58z.heap b_11z "java/util/ArrayList$Itr" "cursor" "I" (.int (3 : Int32)) := r58z_2
  show own_G p e below (T58z.setTop (mkF m 43 #[.val (.ref a), .val (.ref b4z), .val (.ref b_11z), .val (.ref x1)] [(.ref x2)])) _
  refine own_go (fun t k => XS.astoreN X58z.here hx rfl (hb hby d_prog_14_method_2_code_43) rfl rfl (l' := #[.val (.ref a), .val (.ref b4z), .val (.ref b_11z), .val (.ref x2)]) rfl k) ?_
  refine own_go (fun t k => XS.aloadN X58z.here hx rfl (hb hby d_prog_14_method_2_code_44) rfl rfl k) ?_
  refine own_go (fun t k => XS.aloadN X58z.here hx rfl (hb hby d_prog_14_method_2_code_45) rfl rfl k) ?_
  obtain ⟨a60z, T60z, h60z, k60z, X60z, e60z, E60z, Si60z, Sn60z, hZ60z, hown60z, st60z⟩ := ldcS X58z hx hZ39z hown39z (own_hw hw 153 rfl) (own_wS hw) rfl Si39z Sn59z (g := (mkF m 46 #[.val (.ref a), .val (.ref b4z), .val (.ref b_11z), .val (.ref x2)] [(.ref x2), (.ref b4z)])) rfl (hb hby d_prog_14_method_2_code_46) (n := 84) (by decide) (by decide) (by decide) (by decide)
  refine own_go st60z ?_
  have O61z : Ext Z.heap h60z := own_ext_trans O59z E60z
  have K61z : Keep h0 h60z [] := K59z.ext E60z
  show own_G p e below (T60z.setTop (mkF m 48 #[.val (.ref a), .val (.ref b4z), .val (.ref b_11z), .val (.ref x2)] [(.ref a60z), (.ref x2), (.ref b4z)])) _
  obtain ⟨_, _, ⟨T62z, L62z, k62z, n62z⟩, -, X62z, ⟨Lc62z, hQ62z, l62z, y62z, z62z⟩, st62z⟩ := Jvm.LawKit.callS X60z hx (y := own_m19) hown60z (mvT hZ60z (own_hw hw 46 rfl)) (mvT hZ60z (own_hw hw 47 rfl)) (mvT hZ60z (own_hw hw 48 rfl)) (mvT hZ60z (own_hw hw 49 rfl)) (by decide) (backOf (W := 1) (own_rnn l Z a0 hw [] x2 a60z h60z O61z) hZ60z (own_hw hw 49 rfl) (own_hw hw 48 rfl) (by decide) (by decide)) (g := (mkF m 48 #[.val (.ref a), .val (.ref b4z), .val (.ref b_11z), .val (.ref x2)] [(.ref a60z), (.ref x2), (.ref b4z)])) rfl (by rw [hml]; rfl) (argsL := [(.ref x2), (.ref a60z)]) (rest := [(.ref b4z)]) (lenOf pd_3946442454 rfl) rfl (by show 2 * 0 + _ ≤ _; exact Nat.le_of_eq rfl) (hb hby d_prog_14_method_2_code_48) (fun _ _ => ⟨rfl, e60z, (by decide : 11 + 0 ≤ _), (by decide : 310 + 0 ≤ _)⟩)
  dsimp only [Pt.U, Pt.locs, Pt.cells, Pt.slots] at X62z l62z y62z z62z st62z hQ62z
  subst l62z y62z z62z
  obtain ⟨rfl, NQ62z, K62zq⟩ := hQ62z
  refine own_go st62z ?_
  have N62z := Fr.app N58z NQ62z
  show own_G p e below (T62z.setTop (mkF m 51 #[.val (.ref a), .val (.ref b4z), .val (.ref b_11z), .val (.ref x2)] [(.ref x2), (.ref b4z)])) _
  have f63z := ((((((((((((q4.ext E1z).ext E4z).keep K7zq).keep K11zq).keep K16zq).ext E18z).keep K26zq).keep K37zq).ext E39z).keep K47zq).keep K58zq).ext E60z)
  have f64z := ((r47z_1.keep K58zq (by simp only [List.mem_cons, List.not_mem_nil, or_false, not_or]; exact ne_arr_7z_b_11z)).ext E60z)
  have f65z := ((r47z_2.keep K58zq (by simp only [List.mem_cons, List.not_mem_nil, or_false, not_or]; exact ne_b4z_b_11z)).ext E60z)
  have f66z := ((r47z_3.keep K58zq (by simp only [List.mem_cons, List.not_mem_nil, or_false, not_or]; exact ne_b4z_b_11z)).ext E60z)
  have f67z := ((r47z_4.keep K58zq (by simp only [List.mem_cons, List.not_mem_nil, or_false, not_or]; exact ne_b4z_b_11z)).ext E60z)
  obtain ⟨cq68z, kq68z, qa68z, qb68z, qc68z⟩ := isOf hZ60z K62zq ((r47z_0.keep K58zq).ext E60z)
  obtain ⟨_, _, ⟨T68z, L68z, k68z, n68z⟩, -, X68z, ⟨Lc68z, hQ68z, l68z, y68z, z68z⟩, st68z⟩ := X62z.interfaceBack hx (xi := own_m25) (y := own_m8) hown60z (mvT hZ60z (own_hw hw 154 rfl)) (mvT hZ60z (own_hw hw 155 rfl)) (mvT hZ60z (own_hw hw 156 rfl)) (mvT hZ60z (own_hw hw 157 rfl)) (mvT hZ60z (own_hw hw 113 rfl)) (mvT hZ60z (own_hw hw 158 rfl)) (mvT hZ60z (own_hw hw 159 rfl)) (mvT hZ60z (own_hw hw 106 rfl)) (by decide) (backOf (W := 0) (own_add1 l Z a0 hw [] b4z x2 arr_7z kk_7z ([(.ref x0), (.ref x1), .null]) (2 : Int32) (2 : Int32) (3 : Int32) 2 h60z O61z ((r47z_0.keep K58zq).ext E60z) fr_b4z r7z_1 f63z f64z r7z_3 (by decide) (by show (3 : Int32).toInt = ((3 : Nat) : Int); decide) (by show 2 < 3; decide) ne_b4z_arr_7z f65z f66z f67z) hZ60z (own_hw hw 115 rfl) (own_hw hw 10 rfl) (by decide) (by decide)) qa68z qb68z qc68z (g := (mkF m 51 #[.val (.ref a), .val (.ref b4z), .val (.ref b_11z), .val (.ref x2)] [(.ref x2), (.ref b4z)])) rfl (by rw [hml]; rfl) (Steps.refl _) (argsL := [(.ref x2)]) (rest := []) (lenOf pd_396412080 rfl) rfl (by show 2 * 0 + _ ≤ _; exact Nat.le_of_eq rfl) (hb hby d_prog_14_method_2_code_51) (fun _ _ => ⟨rfl, K62zq, (by decide : 11 + 0 ≤ _), (by decide : 310 + 0 ≤ _)⟩)
  dsimp only [Pt.U, Pt.locs, Pt.cells, Pt.slots] at X68z l68z y68z z68z st68z hQ68z
  subst l68z y68z z68z
  obtain ⟨rfl, NQ68z, K68zq, r68z_0, r68z_1, r68z_2, r68z_3, r68z_4⟩ := hQ68z
  refine own_tr st68z ?_
  have N68z := Fr.app N62z NQ68z
  have O69z : Ext Z.heap T68z.heap := own_ext_keep O61z K68zq (allS fr_b4z (allS r7z_1 all0))
  have K69z : Keep h0 T68z.heap [] := K61z.trans K68zq (allS (Or.inr lz_b4z) (allS (Or.inr lz_arr_7z) all0))
  have Sn69z := Nat.le_trans Sn60z K68zq.1
  have r68z_1 : own_A Z T68z.heap arr_7z kk_7z (.object "java/lang/Object") [(.ref x0), (.ref x1), (.ref x2)] := r68z_1
  have r68z_2 : Fld Z T68z.heap b4z "java/util/AbstractList" "modCount" "I" (.int (3 : Int32)) := r68z_2
  have r68z_4 : Fld Z T68z.heap b4z "java/util/ArrayList" "size" "I" (.int (3 : Int32)) := r68z_4
  show own_G p e below (T68z.setTop (mkF m 56 #[.val (.ref a), .val (.ref b4z), .val (.ref b_11z), .val (.ref x2)] [(.int (1 : Int32))])) _
  refine own_go (fun t k => XS.pop X68z.here hx rfl (hb hby d_prog_14_method_2_code_56) rfl rfl k) ?_
  refine own_go (fun t k => XS.goto X68z.here hx rfl (pc0 := 57) (pc' := 28) rfl (hb hby d_prog_14_method_2_code_57) (by decide) (by decide) k) ?_
  show own_G p e below (T68z.setTop (mkF m 28 #[.val (.ref a), .val (.ref b4z), .val (.ref b_11z), .val (.ref x2)] [])) _
  refine own_go (fun t k => XS.aloadN X68z.here hx rfl (hb hby d_prog_14_method_2_code_28) rfl rfl k) ?_
  have f70z := ((r58z_1.ext E60z).keep K68zq (by simp only [List.mem_cons, List.not_mem_nil, or_false, not_or]; exact ⟨(Ne.symm ne_b4z_b_11z), (Ne.symm ne_arr_7z_b_11z)⟩))
  have f71z := ((r58z_2.ext E60z).keep K68zq (by simp only [List.mem_cons, List.not_mem_nil, or_false, not_or]; exact ⟨(Ne.symm ne_b4z_b_11z), (Ne.symm ne_arr_7z_b_11z)⟩))
  have f72z := (((f51z.keep K58zq (by simp only [List.mem_cons, List.not_mem_nil, or_false, not_or]; exact ne_a_b_11z)).ext E60z).keep K68zq (by simp only [List.mem_cons, List.not_mem_nil, or_false, not_or]; exact ⟨ne_a_b4z, ne_a_arr_7z⟩))
  obtain ⟨cq73z, kq73z, qa73z, qb73z, qc73z⟩ := isOf hZ60z (rfl : T68z.heap = _) ((r58z_0.ext E60z).keep K68zq)
  obtain ⟨_, _, ⟨T73z, L73z, k73z, n73z⟩, -, X73z, ⟨Lc73z, hQ73z, l73z, y73z, z73z⟩, st73z⟩ := X68z.interfaceBack hx (xi := own_m23) (y := own_m16) hown60z (mvT hZ60z (own_hw hw 90 rfl)) (mvT hZ60z (own_hw hw 91 rfl)) (mvT hZ60z (own_hw hw 92 rfl)) (mvT hZ60z (own_hw hw 93 rfl)) (mvT hZ60z (own_hw hw 94 rfl)) (mvT hZ60z (own_hw hw 95 rfl)) (mvT hZ60z (own_hw hw 96 rfl)) (mvT hZ60z (own_hw hw 97 rfl)) (by decide) (backOf (W := 0) (own_hn0 l Z a0 hw [] b_11z a (3 : Int32) (3 : Int32) T68z.heap O69z f70z f71z f72z (by decide)) hZ60z (own_hw hw 98 rfl) (own_hw hw 76 rfl) (by decide) (by decide)) qa73z qb73z qc73z (g := (mkF m 29 #[.val (.ref a), .val (.ref b4z), .val (.ref b_11z), .val (.ref x2)] [(.ref b_11z)])) rfl (by rw [hml]; rfl) (Steps.refl _) (argsL := []) (rest := []) (lenOf pd_193422000 rfl) rfl (by show 2 * 0 + _ ≤ _; exact Nat.le_of_eq rfl) (hb hby d_prog_14_method_2_code_29) (fun _ _ => ⟨rfl, rfl, (by decide : 11 + 0 ≤ _), (by decide : 310 + 0 ≤ _)⟩)
  dsimp only [Pt.U, Pt.locs, Pt.cells, Pt.slots] at X73z l73z y73z z73z st73z hQ73z
  subst l73z y73z z73z
  obtain ⟨rfl, NQ73z, K73zq⟩ := hQ73z
  refine own_tr st73z ?_
  have N73z := Fr.app N68z NQ73z
  show own_G p e below (T73z.setTop (mkF m 34 #[.val (.ref a), .val (.ref b4z), .val (.ref b_11z), .val (.ref x2)] [(.int (0 : Int32))])) _
  refine own_go (fun t k => XS.ifYes X73z.here hx rfl (pc0 := 34) (pc' := 60) rfl (hb hby d_prog_14_method_2_code_34) rfl ((if0 _ _).trans (teq (by decide : (0 : Int32) = (0 : Int32))).1) (by decide) (by decide) k) ?_
  show own_G p e below (T73z.setTop (mkF m 60 #[.val (.ref a), .val (.ref b4z), .val (.ref b_11z), .val (.ref x2)] [])) _
  refine own_go (fun t k => XS.aloadN X73z.here hx rfl (hb hby d_prog_14_method_2_code_60) rfl rfl k) ?_
  exact own_retW X73z Si60z (by rw [K73zq]; exact Sn69z) hx Bd.returns rfl (Or.inr (Or.inr (Or.inr (Or.inr ⟨rfl, rfl, rfl⟩)))) (hb hby d_prog_14_method_2_code_61) hlk (Nat.le_of_ble_eq_true rfl) (Nat.le_of_ble_eq_true rfl) (by show Q_own_copy3 Z a mc x0 x1 x2 arr kk h0 _ T73z.heap _; rw [K73zq]; exact ⟨b4z, arr_7z, kk_7z, rfl, N73z, K69z, r68z_0, lz_b4z, r68z_1, r68z_2, r68z_3, r68z_4, lz_arr_7z⟩)
theorem ef_own_copy4 (m : MethodId) (x0 : Addr) : entryFrame m #[(.ref x0)] 4 = mkF m 0 #[.val (.ref x0), .unset, .unset, .unset] [] := by first | (simp [entryFrame, mkF, argsToLocals, Value.category]; done) | rfl
theorem pf_own_copy4 : plainFor own_m20 = true := plainFor_of_name (by simp [plainName, overriddenIn])
def Q_own_copy4 (Z : State) (a : Addr) (mc : Int32) (x0 : Addr) (x1 : Addr) (x2 : Addr) (x3 : Addr) (arr : Addr) (kk : ClassId) (h0 : Heap) (v : Option Value) (h : Heap) (L : List Loc) : Prop := ∃ r : Addr, ∃ ar : Addr, ∃ kr : ClassId, v = some (.ref r) ∧ Fr Z.heap.size L ∧ Keep h0 h [] ∧ (Exa Z h r "java/util/ArrayList") ∧ (h0.size ≤ r) ∧ (own_A Z h ar kr (.object "java/lang/Object") [(.ref x0), (.ref x1), (.ref x2), (.ref x3)]) ∧ (Fld Z h r "java/util/AbstractList" "modCount" "I" (.int (4 : Int32))) ∧ (Fld Z h r "java/util/ArrayList" "elementData" "[Ljava/lang/Object;" (.ref ar)) ∧ (Fld Z h r "java/util/ArrayList" "size" "I" (.int (4 : Int32))) ∧ (h0.size ≤ ar)
set_option maxRecDepth 65536 in
set_option maxHeartbeats 40000000 in
theorem own_copy4 (l : Launch) (Z : State) (a0 : Array Value) (hw : ∀ d ∈ tables_1, d.before a0 Z = true) (ws : List Jvm.Cond) (a : Addr) (mc : Int32) (x0 : Addr) (x1 : Addr) (x2 : Addr) (x3 : Addr) (arr : Addr) (kk : ClassId) (h0 : Heap) (O0 : Ext Z.heap h0) (q0 : own_A Z h0 arr kk (.object "java/lang/Object") [(.ref x0), (.ref x1), (.ref x2), (.ref x3), .null, .null, .null, .null, .null, .null]) (q1 : Exa Z h0 a "java/util/ArrayList") (q2 : Exa Z h0 x0 "java/lang/Integer") (q3 : Exa Z h0 x1 "java/lang/Integer") (q4 : Exa Z h0 x2 "java/lang/Integer") (q5 : Exa Z h0 x3 "java/lang/Integer") (q6 : Fld Z h0 a "java/util/AbstractList" "modCount" "I" (.int mc)) (q7 : Fld Z h0 a "java/util/ArrayList" "elementData" "[Ljava/lang/Object;" (.ref arr)) (q8 : Fld Z h0 a "java/util/ArrayList" "size" "I" (.int (4 : Int32))) :
    MetFree l own_m20 (head1 (Jvm.Cond.code own_m20 prog_14_method_2_code 4 (some (.object "java/util/List")) :: ws) ({ frames := 4, cells := 13, slots := 399, locals := 60 } : Room)) (fun aa U => aa = #[(.ref a)] ∧ Z.Warmed39 U.vm ∧ U.heap = h0) (fun _ _ _ _ _ => True) (fun _ U o U' => ∃ v L, o = .returned v ∧ Q_own_copy4 Z a mc x0 x1 x2 x3 arr kk h0 v U'.heap L ∧ ReturnedEndW U o U' L ({ frames := 4, cells := 13, slots := 399, locals := 60 } : Room).cells ({ frames := 4, cells := 13, slots := 399, locals := 60 } : Room).slots) := by
  refine MetFree.of_bodySF pf_own_copy4 hisR ?_
  intro p e s m args below meth c s₁ Bd hml0 hP hK
  obtain ⟨rfl, hZ, hh⟩ := hP
  have hx := Bd.exec
  have hby := Bd.bytes
  have hlk := BodyLoose.notSynchronized Bd
  have hml : c.maxLocals = 4 := hml0
  have hown : s.vm.findClass "com/example/etapa/etapa/mongodb/EntityBatch" = some m.cls := findClass_of_methodNamed Bd.named
  have hnm := (name_of_methodNamed Bd.named Bd.method).1
  have X0 : Stand p l e ({ frames := 4, cells := 13, slots := 399, locals := 60 } : Room) s m #[(.ref a)] below meth c s₁ [] 0 0 := Stand.of_body Bd
  have e0 : s₁.heap = h0 := by rw [← hh, Bd.state]; rfl
  have N0 := Fr.nil Z.heap.size
  have K0 : Keep h0 h0 [] := Keep.refl _ _
  have Si0 : s.Since s.vm h0.size := (State.WarmedH.refl s).since h0.size
  have Sn0 : h0.size ≤ h0.size := Nat.le_refl _
  have hZ : Z.Warmed39 (s.setVm s.vm).vm := hZ
  have hown : (s.setVm s.vm).vm.findClass "com/example/etapa/etapa/mongodb/EntityBatch" = some m.cls := hown
  have X0 := (show Stand _ _ _ _ (s.setVm s.vm) _ _ _ _ _ _ _ _ _ from X0)
  refine own_startW (Q := Q_own_copy4 Z a mc x0 x1 x2 x3 arr kk h0) (ef_own_copy4 m (a)) ?_
  show own_G p e below (s₁.setTop (mkF m 0 #[.val (.ref a), .unset, .unset, .unset] [])) _
  refine own_go (fun t k => XS.aloadN X0.here hx rfl (hb hby d_prog_14_method_2_code_0) rfl rfl k) ?_
  obtain ⟨a1z, T1z, h1z, k1z, X1z, e1z, E1z, Si1z, Sn1z, hZ1z, hown1z, st1z⟩ := ldcS X0 hx hZ hown (own_hw hw 38 rfl) (own_wS hw) e0 Si0 Sn0 (g := (mkF m 1 #[.val (.ref a), .unset, .unset, .unset] [(.ref a)])) rfl (hb hby d_prog_14_method_2_code_1) (n := 32) (by decide) (by decide) (by decide) (by decide)
  refine own_go st1z ?_
  have O2z : Ext Z.heap h1z := own_ext_trans O0 E1z
  have K2z : Keep h0 h1z [] := K0.ext E1z
  show own_G p e below (T1z.setTop (mkF m 3 #[.val (.ref a), .unset, .unset, .unset] [(.ref a1z), (.ref a)])) _
  obtain ⟨_, _, ⟨T3z, L3z, k3z, n3z⟩, -, X3z, ⟨Lc3z, hQ3z, l3z, y3z, z3z⟩, st3z⟩ := Jvm.LawKit.callS X1z hx (y := own_m19) hown1z (mvT hZ1z (own_hw hw 46 rfl)) (mvT hZ1z (own_hw hw 47 rfl)) (mvT hZ1z (own_hw hw 48 rfl)) (mvT hZ1z (own_hw hw 49 rfl)) (by decide) (backOf (W := 0) (own_rnn l Z a0 hw [] a a1z h1z O2z) hZ1z (own_hw hw 49 rfl) (own_hw hw 48 rfl) (by decide) (by decide)) (g := (mkF m 3 #[.val (.ref a), .unset, .unset, .unset] [(.ref a1z), (.ref a)])) rfl (by rw [hml]; rfl) (argsL := [(.ref a), (.ref a1z)]) (rest := []) (lenOf pd_3946442454 rfl) rfl (by show 2 * 0 + _ ≤ _; exact Nat.le_of_eq rfl) (hb hby d_prog_14_method_2_code_3) (fun _ _ => ⟨rfl, e1z, (by decide : 2 + 0 ≤ _), (by decide : 36 + 0 ≤ _)⟩)
  dsimp only [Pt.U, Pt.locs, Pt.cells, Pt.slots] at X3z l3z y3z z3z st3z hQ3z
  subst l3z y3z z3z
  obtain ⟨rfl, NQ3z, K3zq⟩ := hQ3z
  refine own_go st3z ?_
  have N3z := Fr.app N0 NQ3z
  show own_G p e below (T3z.setTop (mkF m 6 #[.val (.ref a), .unset, .unset, .unset] [(.ref a)])) _
  refine own_go (fun t k => XS.pop X3z.here hx rfl (hb hby d_prog_14_method_2_code_6) rfl rfl k) ?_
  obtain ⟨T4z, h4z, X4z, e4z, E4z, A4z, D4z, -, st4z⟩ := newO X3z hx hZ1z hown1z (own_hw hw 50 rfl) (own_hw hw 9 rfl) (own_hw hw 10 rfl) K3zq (g := (mkF m 7 #[.val (.ref a), .unset, .unset, .unset] [])) rfl (hb hby d_prog_14_method_2_code_7) (by decide) (by decide)
  obtain ⟨b4z, g4z⟩ : ∃ z, z = h1z.size := ⟨_, rfl⟩
  rw [← g4z] at A4z D4z st4z
  have fr_b4z : Z.heap.size ≤ b4z := g4z ▸ O2z.1
  have lz_b4z : h0.size ≤ b4z := g4z ▸ K2z.1
  have ne_arr_b4z : arr ≠ b4z := Nat.ne_of_lt (g4z ▸ (q0.ext E1z).lt)
  have ne_a_b4z : a ≠ b4z := Nat.ne_of_lt (g4z ▸ (q1.ext E1z).lt)
  have ne_x0_b4z : x0 ≠ b4z := Nat.ne_of_lt (g4z ▸ (q2.ext E1z).lt)
  have ne_x1_b4z : x1 ≠ b4z := Nat.ne_of_lt (g4z ▸ (q3.ext E1z).lt)
  have ne_x2_b4z : x2 ≠ b4z := Nat.ne_of_lt (g4z ▸ (q4.ext E1z).lt)
  have ne_x3_b4z : x3 ≠ b4z := Nat.ne_of_lt (g4z ▸ (q5.ext E1z).lt)
  have O5z : Ext Z.heap h4z := own_ext_trans O2z E4z
  have K5z : Keep h0 h4z [] := K2z.ext E4z
  have Sn5z := Nat.le_trans Sn1z E4z.1
  have F4z_modCount : Fld Z h4z b4z "java/util/AbstractList" "modCount" "I" (.int (0 : Int32)) := D4z (Or.inl (own_hw hw 30 rfl)) (ty := .int) (by decide)
  have F4z_elementData : Fld Z h4z b4z "java/util/ArrayList" "elementData" "[Ljava/lang/Object;" .null := D4z (Or.inl (own_hw hw 33 rfl)) (ty := (.array (.object "java/lang/Object"))) (by decide)
  have F4z_size : Fld Z h4z b4z "java/util/ArrayList" "size" "I" (.int (0 : Int32)) := D4z (Or.inl (own_hw hw 61 rfl)) (ty := .int) (by decide)
  refine own_go st4z ?_
  refine own_go (fun t k => XS.dup X4z.here hx rfl (hb hby d_prog_14_method_2_code_10) rfl rfl k) ?_
  refine own_go (fun t k => XS.aloadN X4z.here hx rfl (hb hby d_prog_14_method_2_code_11) rfl rfl k) ?_
  show own_G p e below (T4z.setTop (mkF m 12 #[.val (.ref a), .unset, .unset, .unset] [(.ref a), (.ref b4z), (.ref b4z)])) _
  obtain ⟨cq6z, kq6z, qa6z, qb6z, qc6z⟩ := isOf hZ1z e4z ((q1.ext E1z).ext E4z)
  obtain ⟨_, _, ⟨T6z, L6z, k6z, n6z⟩, -, X6z, ⟨Lc6z, hQ6z, l6z, y6z, z6z⟩, st6z⟩ := X4z.interfaceBack hx (xi := own_m21) (y := own_m9) hown1z (mvT hZ1z (own_hw hw 51 rfl)) (mvT hZ1z (own_hw hw 52 rfl)) (mvT hZ1z (own_hw hw 53 rfl)) (mvT hZ1z (own_hw hw 54 rfl)) (mvT hZ1z (own_hw hw 55 rfl)) (mvT hZ1z (own_hw hw 56 rfl)) (mvT hZ1z (own_hw hw 57 rfl)) (mvT hZ1z (own_hw hw 58 rfl)) (by decide) (backOf (W := 2) (own_size l Z a0 hw [] a (4 : Int32) h4z O5z ((q8.ext E1z).ext E4z)) hZ1z (own_hw hw 59 rfl) (own_hw hw 10 rfl) (by decide) (by decide)) qa6z qb6z qc6z (g := (mkF m 12 #[.val (.ref a), .unset, .unset, .unset] [(.ref a), (.ref b4z), (.ref b4z)])) rfl (by rw [hml]; rfl) (Steps.refl _) (argsL := []) (rest := [(.ref b4z), (.ref b4z)]) (lenOf pd_193421983 rfl) rfl (by show 2 * 0 + _ ≤ _; exact Nat.le_of_eq rfl) (hb hby d_prog_14_method_2_code_12) (fun _ _ => ⟨rfl, e4z, (by decide : 3 + 0 ≤ _), (by decide : 39 + 0 ≤ _)⟩)
  dsimp only [Pt.U, Pt.locs, Pt.cells, Pt.slots] at X6z l6z y6z z6z st6z hQ6z
  subst l6z y6z z6z
  obtain ⟨rfl, NQ6z, K6zq⟩ := hQ6z
  refine own_tr st6z ?_
  have N6z := Fr.app N3z NQ6z
  show own_G p e below (T6z.setTop (mkF m 17 #[.val (.ref a), .unset, .unset, .unset] [(.int (4 : Int32)), (.ref b4z), (.ref b4z)])) _
  obtain ⟨_, _, ⟨T7z, L7z, k7z, n7z⟩, -, X7z, ⟨Lc7z, hQ7z, l7z, y7z, z7z⟩, st7z⟩ := X6z.specialBack hx (y := own_m3) rfl hown1z (mvT hZ1z (own_hw hw 62 rfl)) (mvT hZ1z (own_hw hw 63 rfl)) (mvT hZ1z (own_hw hw 64 rfl)) (by decide) (backOf (W := 1) (own_aln4 l Z a0 hw [] b4z h4z O5z A4z fr_b4z F4z_modCount F4z_elementData F4z_size) hZ1z (own_hw hw 64 rfl) (own_hw hw 10 rfl) (by decide) (by decide)) (g := (mkF m 17 #[.val (.ref a), .unset, .unset, .unset] [(.int (4 : Int32)), (.ref b4z), (.ref b4z)])) rfl (by rw [hml]; rfl) (Steps.refl _) (a := b4z) (argsL := [(.int (4 : Int32))]) (rest := [(.ref b4z)]) (lenOf pd_2087992021 rfl) rfl (by show 2 * 0 + _ ≤ _; exact Nat.le_of_eq rfl) (hb hby d_prog_14_method_2_code_17) (fun _ _ => ⟨rfl, K6zq, (by decide : 3 + 1 ≤ _), (by decide : 39 + 4 ≤ _)⟩)
  dsimp only [Pt.U, Pt.locs, Pt.cells, Pt.slots] at X7z l7z y7z z7z st7z hQ7z
  subst l7z y7z z7z
  obtain ⟨arr_7z, kk_7z, rfl, NQ7z, K7zq, r7z_0, r7z_1, r7z_2, r7z_3, r7z_4, r7z_5, r7z_6, r7z_7⟩ := hQ7z
  refine own_tr st7z ?_
  have N7z := Fr.app N6z NQ7z
  have O8z : Ext Z.heap T7z.heap := own_ext_keep O5z K7zq (allS fr_b4z all0)
  have K8z : Keep h0 T7z.heap [] := K5z.trans K7zq (allS (Or.inr lz_b4z) all0)
  have Sn8z := Nat.le_trans Sn5z K7zq.1
  have lz_arr_7z : h0.size ≤ arr_7z := Nat.le_trans K5z.1 r7z_2
  have ne_arr_arr_7z : arr ≠ arr_7z := Nat.ne_of_lt (Nat.lt_of_lt_of_le ((q0.ext E1z).ext E4z).lt r7z_2)
  have ne_a_arr_7z : a ≠ arr_7z := Nat.ne_of_lt (Nat.lt_of_lt_of_le ((q1.ext E1z).ext E4z).lt r7z_2)
  have ne_x0_arr_7z : x0 ≠ arr_7z := Nat.ne_of_lt (Nat.lt_of_lt_of_le ((q2.ext E1z).ext E4z).lt r7z_2)
  have ne_x1_arr_7z : x1 ≠ arr_7z := Nat.ne_of_lt (Nat.lt_of_lt_of_le ((q3.ext E1z).ext E4z).lt r7z_2)
  have ne_x2_arr_7z : x2 ≠ arr_7z := Nat.ne_of_lt (Nat.lt_of_lt_of_le ((q4.ext E1z).ext E4z).lt r7z_2)
  have ne_x3_arr_7z : x3 ≠ arr_7z := Nat.ne_of_lt (Nat.lt_of_lt_of_le ((q5.ext E1z).ext E4z).lt r7z_2)
  have ne_b4z_arr_7z : b4z ≠ arr_7z := Nat.ne_of_lt (Nat.lt_of_lt_of_le A4z.lt r7z_2)
  show own_G p e below (T7z.setTop (mkF m 20 #[.val (.ref a), .unset, .unset, .unset] [(.ref b4z)])) _
  refine own_go (fun t k => XS.astoreN X7z.here hx rfl (hb hby d_prog_14_method_2_code_20) rfl rfl (l' := #[.val (.ref a), .val (.ref b4z), .unset, .unset]) rfl k) ?_
  refine own_go (fun t k => XS.aloadN X7z.here hx rfl (hb hby d_prog_14_method_2_code_21) rfl rfl k) ?_
  have f9z := (((q6.ext E1z).ext E4z).keep K7zq (by simp only [List.mem_cons, List.not_mem_nil, or_false, not_or]; exact ne_a_b4z))
  have f10z := (((q0.ext E1z).ext E4z).keep K7zq (by simp only [List.mem_cons, List.not_mem_nil, or_false, not_or]; exact ne_arr_b4z))
  obtain ⟨cq11z, kq11z, qa11z, qb11z, qc11z⟩ := isOf hZ1z (rfl : T7z.heap = _) (((q1.ext E1z).ext E4z).keep K7zq)
  obtain ⟨_, _, ⟨T11z, L11z, k11z, n11z⟩, -, X11z, ⟨Lc11z, hQ11z, l11z, y11z, z11z⟩, st11z⟩ := X7z.interfaceBack hx (xi := own_m22) (y := own_m15) hown1z (mvT hZ1z (own_hw hw 66 rfl)) (mvT hZ1z (own_hw hw 67 rfl)) (mvT hZ1z (own_hw hw 68 rfl)) (mvT hZ1z (own_hw hw 69 rfl)) (mvT hZ1z (own_hw hw 70 rfl)) (mvT hZ1z (own_hw hw 71 rfl)) (mvT hZ1z (own_hw hw 72 rfl)) (mvT hZ1z (own_hw hw 58 rfl)) (by decide) (backOf (W := 0) (own_itr l Z a0 hw [] a mc T7z.heap O8z f9z) hZ1z (own_hw hw 73 rfl) (own_hw hw 10 rfl) (by decide) (by decide)) qa11z qb11z qc11z (g := (mkF m 22 #[.val (.ref a), .val (.ref b4z), .unset, .unset] [(.ref a)])) rfl (by rw [hml]; rfl) (Steps.refl _) (argsL := []) (rest := []) (lenOf pd_1636828997 rfl) rfl (by show 2 * 0 + _ ≤ _; exact Nat.le_of_eq rfl) (hb hby d_prog_14_method_2_code_22) (fun _ _ => ⟨rfl, rfl, (by decide : 4 + 1 ≤ _), (by decide : 43 + 4 ≤ _)⟩)
  dsimp only [Pt.U, Pt.locs, Pt.cells, Pt.slots] at X11z l11z y11z z11z st11z hQ11z
  subst l11z y11z z11z
  obtain ⟨b_11z, rfl, NQ11z, K11zq, r11z_0, r11z_1, r11z_2, r11z_3, r11z_4, r11z_5, r11z_6⟩ := hQ11z
  refine own_tr st11z ?_
  have N11z := Fr.app N7z NQ11z
  have O12z : Ext Z.heap T11z.heap := own_ext_keep O8z K11zq all0
  have K12z : Keep h0 T11z.heap [] := K8z.trans K11zq all0
  have Sn12z := Nat.le_trans Sn8z K11zq.1
  have lz_b_11z : h0.size ≤ b_11z := Nat.le_trans K8z.1 r11z_2
  have ne_arr_b_11z : arr ≠ b_11z := Nat.ne_of_lt (Nat.lt_of_lt_of_le f10z.lt r11z_2)
  have ne_a_b_11z : a ≠ b_11z := Nat.ne_of_lt (Nat.lt_of_lt_of_le (((q1.ext E1z).ext E4z).keep K7zq).lt r11z_2)
  have ne_x0_b_11z : x0 ≠ b_11z := Nat.ne_of_lt (Nat.lt_of_lt_of_le (((q2.ext E1z).ext E4z).keep K7zq).lt r11z_2)
  have ne_x1_b_11z : x1 ≠ b_11z := Nat.ne_of_lt (Nat.lt_of_lt_of_le (((q3.ext E1z).ext E4z).keep K7zq).lt r11z_2)
  have ne_x2_b_11z : x2 ≠ b_11z := Nat.ne_of_lt (Nat.lt_of_lt_of_le (((q4.ext E1z).ext E4z).keep K7zq).lt r11z_2)
  have ne_x3_b_11z : x3 ≠ b_11z := Nat.ne_of_lt (Nat.lt_of_lt_of_le (((q5.ext E1z).ext E4z).keep K7zq).lt r11z_2)
  have ne_b4z_b_11z : b4z ≠ b_11z := Nat.ne_of_lt (Nat.lt_of_lt_of_le r7z_0.lt r11z_2)
  have ne_arr_7z_b_11z : arr_7z ≠ b_11z := Nat.ne_of_lt (Nat.lt_of_lt_of_le r7z_4.lt r11z_2)
  show own_G p e below (T11z.setTop (mkF m 27 #[.val (.ref a), .val (.ref b4z), .unset, .unset] [(.ref b_11z)])) _
  refine own_go (fun t k => XS.astoreN X11z.here hx rfl (hb hby d_prog_14_method_2_code_27) rfl rfl (l' := #[.val (.ref a), .val (.ref b4z), .val (.ref b_11z), .unset]) rfl k) ?_
  refine own_go (fun t k => XS.aloadN X11z.here hx rfl (hb hby d_prog_14_method_2_code_28) rfl rfl k) ?_
  have f13z := ((((q8.ext E1z).ext E4z).keep K7zq (by simp only [List.mem_cons, List.not_mem_nil, or_false, not_or]; exact ne_a_b4z)).keep K11zq (by simp))
  obtain ⟨cq14z, kq14z, qa14z, qb14z, qc14z⟩ := isOf hZ1z (rfl : T11z.heap = _) r11z_0
  obtain ⟨_, _, ⟨T14z, L14z, k14z, n14z⟩, -, X14z, ⟨Lc14z, hQ14z, l14z, y14z, z14z⟩, st14z⟩ := X11z.interfaceBack hx (xi := own_m23) (y := own_m16) hown1z (mvT hZ1z (own_hw hw 90 rfl)) (mvT hZ1z (own_hw hw 91 rfl)) (mvT hZ1z (own_hw hw 92 rfl)) (mvT hZ1z (own_hw hw 93 rfl)) (mvT hZ1z (own_hw hw 94 rfl)) (mvT hZ1z (own_hw hw 95 rfl)) (mvT hZ1z (own_hw hw 96 rfl)) (mvT hZ1z (own_hw hw 97 rfl)) (by decide) (backOf (W := 0) (own_hn1 l Z a0 hw [] b_11z a (0 : Int32) (4 : Int32) T11z.heap O12z r11z_3 r11z_4 f13z (by decide)) hZ1z (own_hw hw 98 rfl) (own_hw hw 76 rfl) (by decide) (by decide)) qa14z qb14z qc14z (g := (mkF m 29 #[.val (.ref a), .val (.ref b4z), .val (.ref b_11z), .unset] [(.ref b_11z)])) rfl (by rw [hml]; rfl) (Steps.refl _) (argsL := []) (rest := []) (lenOf pd_193422000 rfl) rfl (by show 2 * 0 + _ ≤ _; exact Nat.le_of_eq rfl) (hb hby d_prog_14_method_2_code_29) (fun _ _ => ⟨rfl, rfl, (by decide : 5 + 0 ≤ _), (by decide : 47 + 0 ≤ _)⟩)
  dsimp only [Pt.U, Pt.locs, Pt.cells, Pt.slots] at X14z l14z y14z z14z st14z hQ14z
  subst l14z y14z z14z
  obtain ⟨rfl, NQ14z, K14zq⟩ := hQ14z
  refine own_tr st14z ?_
  have N14z := Fr.app N11z NQ14z
  show own_G p e below (T14z.setTop (mkF m 34 #[.val (.ref a), .val (.ref b4z), .val (.ref b_11z), .unset] [(.int (1 : Int32))])) _
  refine own_go (fun t k => XS.ifNo X14z.here hx rfl (hb hby d_prog_14_method_2_code_34) rfl ((if0 _ _).trans (feq (by decide : ¬ ((1 : Int32) = (0 : Int32)))).1) k) ?_
  show own_G p e below (T14z.setTop (mkF m 37 #[.val (.ref a), .val (.ref b4z), .val (.ref b_11z), .unset] [])) _
  refine own_go (fun t k => XS.aloadN X14z.here hx rfl (hb hby d_prog_14_method_2_code_37) rfl rfl k) ?_
  have f15z := ((((q7.ext E1z).ext E4z).keep K7zq (by simp only [List.mem_cons, List.not_mem_nil, or_false, not_or]; exact ne_a_b4z)).keep K11zq (by simp))
  obtain ⟨cq16z, kq16z, qa16z, qb16z, qc16z⟩ := isOf hZ1z K14zq r11z_0
  obtain ⟨_, _, ⟨T16z, L16z, k16z, n16z⟩, -, X16z, ⟨Lc16z, hQ16z, l16z, y16z, z16z⟩, st16z⟩ := X14z.interfaceBack hx (xi := own_m24) (y := own_m18) hown1z (mvT hZ1z (own_hw hw 139 rfl)) (mvT hZ1z (own_hw hw 140 rfl)) (mvT hZ1z (own_hw hw 141 rfl)) (mvT hZ1z (own_hw hw 142 rfl)) (mvT hZ1z (own_hw hw 143 rfl)) (mvT hZ1z (own_hw hw 144 rfl)) (mvT hZ1z (own_hw hw 145 rfl)) (mvT hZ1z (own_hw hw 97 rfl)) (by decide) (backOf (W := 0) (own_next l Z a0 hw [] b_11z a mc (0 : Int32) (-1 : Int32) (4 : Int32) arr kk ([(.ref x0), (.ref x1), (.ref x2), (.ref x3), .null, .null, .null, .null, .null, .null]) 0 x0 (10 : Int32) T11z.heap O12z r11z_0 r11z_1 r11z_3 r11z_4 r11z_5 r11z_6 (f9z.keep K11zq (by simp)) f13z f15z (f10z.keep K11zq (by simp)) (by decide) rfl (by decide) (by show (10 : Int32).toInt = ((10 : Nat) : Int); decide) (by decide) ne_a_b_11z ne_arr_b_11z) hZ1z (own_hw hw 146 rfl) (own_hw hw 76 rfl) (by decide) (by decide)) qa16z qb16z qc16z (g := (mkF m 38 #[.val (.ref a), .val (.ref b4z), .val (.ref b_11z), .unset] [(.ref b_11z)])) rfl (by rw [hml]; rfl) (Steps.refl _) (argsL := []) (rest := []) (lenOf pd_462477782 rfl) rfl (by show 2 * 0 + _ ≤ _; exact Nat.le_of_eq rfl) (hb hby d_prog_14_method_2_code_38) (fun _ _ => ⟨rfl, K14zq, (by decide : 5 + 0 ≤ _), (by decide : 47 + 0 ≤ _)⟩)
  dsimp only [Pt.U, Pt.locs, Pt.cells, Pt.slots] at X16z l16z y16z z16z st16z hQ16z
  subst l16z y16z z16z
  obtain ⟨rfl, NQ16z, K16zq, r16z_0, r16z_1, r16z_2, r16z_3, r16z_4⟩ := hQ16z
  refine own_tr st16z ?_
  have N16z := Fr.app N14z NQ16z
  have O17z : Ext Z.heap T16z.heap := own_ext_keep O12z K16zq (allS r11z_1 all0)
  have K17z : Keep h0 T16z.heap [] := K12z.trans K16zq (allS (Or.inr lz_b_11z) all0)
  have Sn17z := Nat.le_trans Sn12z K16zq.1
  have r16z_2 : Fld Z T16z.heap b_11z "java/util/ArrayList$Itr" "cursor" "I" (.int (1 : Int32)) := r16z_2
  show own_G p e below (T16z.setTop (mkF m 43 #[.val (.ref a), .val (.ref b4z), .val (.ref b_11z), .unset] [(.ref x0)])) _
  refine own_go (fun t k => XS.astoreN X16z.here hx rfl (hb hby d_prog_14_method_2_code_43) rfl rfl (l' := #[.val (.ref a), .val (.ref b4z), .val (.ref b_11z), .val (.ref x0)]) rfl k) ?_
  refine own_go (fun t k => XS.aloadN X16z.here hx rfl (hb hby d_prog_14_method_2_code_44) rfl rfl k) ?_
  refine own_go (fun t k => XS.aloadN X16z.here hx rfl (hb hby d_prog_14_method_2_code_45) rfl rfl k) ?_
  obtain ⟨a18z, T18z, h18z, k18z, X18z, e18z, E18z, Si18z, Sn18z, hZ18z, hown18z, st18z⟩ := ldcS X16z hx hZ1z hown1z (own_hw hw 153 rfl) (own_wS hw) rfl Si1z Sn17z (g := (mkF m 46 #[.val (.ref a), .val (.ref b4z), .val (.ref b_11z), .val (.ref x0)] [(.ref x0), (.ref b4z)])) rfl (hb hby d_prog_14_method_2_code_46) (n := 84) (by decide) (by decide) (by decide) (by decide)
  refine own_go st18z ?_
  have O19z : Ext Z.heap h18z := own_ext_trans O17z E18z
  have K19z : Keep h0 h18z [] := K17z.ext E18z
  show own_G p e below (T18z.setTop (mkF m 48 #[.val (.ref a), .val (.ref b4z), .val (.ref b_11z), .val (.ref x0)] [(.ref a18z), (.ref x0), (.ref b4z)])) _
  obtain ⟨_, _, ⟨T20z, L20z, k20z, n20z⟩, -, X20z, ⟨Lc20z, hQ20z, l20z, y20z, z20z⟩, st20z⟩ := Jvm.LawKit.callS X18z hx (y := own_m19) hown18z (mvT hZ18z (own_hw hw 46 rfl)) (mvT hZ18z (own_hw hw 47 rfl)) (mvT hZ18z (own_hw hw 48 rfl)) (mvT hZ18z (own_hw hw 49 rfl)) (by decide) (backOf (W := 1) (own_rnn l Z a0 hw [] x0 a18z h18z O19z) hZ18z (own_hw hw 49 rfl) (own_hw hw 48 rfl) (by decide) (by decide)) (g := (mkF m 48 #[.val (.ref a), .val (.ref b4z), .val (.ref b_11z), .val (.ref x0)] [(.ref a18z), (.ref x0), (.ref b4z)])) rfl (by rw [hml]; rfl) (argsL := [(.ref x0), (.ref a18z)]) (rest := [(.ref b4z)]) (lenOf pd_3946442454 rfl) rfl (by show 2 * 0 + _ ≤ _; exact Nat.le_of_eq rfl) (hb hby d_prog_14_method_2_code_48) (fun _ _ => ⟨rfl, e18z, (by decide : 7 + 0 ≤ _), (by decide : 135 + 0 ≤ _)⟩)
  dsimp only [Pt.U, Pt.locs, Pt.cells, Pt.slots] at X20z l20z y20z z20z st20z hQ20z
  subst l20z y20z z20z
  obtain ⟨rfl, NQ20z, K20zq⟩ := hQ20z
  refine own_go st20z ?_
  have N20z := Fr.app N16z NQ20z
  show own_G p e below (T20z.setTop (mkF m 51 #[.val (.ref a), .val (.ref b4z), .val (.ref b_11z), .val (.ref x0)] [(.ref x0), (.ref b4z)])) _
  have f21z := ((((((q2.ext E1z).ext E4z).keep K7zq).keep K11zq).keep K16zq).ext E18z)
  have f22z := (((r7z_4.keep K11zq (by simp)).keep K16zq (by simp only [List.mem_cons, List.not_mem_nil, or_false, not_or]; exact ne_arr_7z_b_11z)).ext E18z)
  have f23z := (((r7z_5.keep K11zq (by simp)).keep K16zq (by simp only [List.mem_cons, List.not_mem_nil, or_false, not_or]; exact ne_b4z_b_11z)).ext E18z)
  have f24z := (((r7z_6.keep K11zq (by simp)).keep K16zq (by simp only [List.mem_cons, List.not_mem_nil, or_false, not_or]; exact ne_b4z_b_11z)).ext E18z)
  have f25z := (((r7z_7.keep K11zq (by simp)).keep K16zq (by simp only [List.mem_cons, List.not_mem_nil, or_false, not_or]; exact ne_b4z_b_11z)).ext E18z)
  obtain ⟨cq26z, kq26z, qa26z, qb26z, qc26z⟩ := isOf hZ18z K20zq (((r7z_0.keep K11zq).keep K16zq).ext E18z)
  obtain ⟨_, _, ⟨T26z, L26z, k26z, n26z⟩, -, X26z, ⟨Lc26z, hQ26z, l26z, y26z, z26z⟩, st26z⟩ := X20z.interfaceBack hx (xi := own_m25) (y := own_m8) hown18z (mvT hZ18z (own_hw hw 154 rfl)) (mvT hZ18z (own_hw hw 155 rfl)) (mvT hZ18z (own_hw hw 156 rfl)) (mvT hZ18z (own_hw hw 157 rfl)) (mvT hZ18z (own_hw hw 113 rfl)) (mvT hZ18z (own_hw hw 158 rfl)) (mvT hZ18z (own_hw hw 159 rfl)) (mvT hZ18z (own_hw hw 106 rfl)) (by decide) (backOf (W := 0) (own_add1 l Z a0 hw [] b4z x0 arr_7z kk_7z ([.null, .null, .null, .null]) (0 : Int32) (0 : Int32) (4 : Int32) 0 h18z O19z (((r7z_0.keep K11zq).keep K16zq).ext E18z) fr_b4z r7z_1 f21z f22z r7z_3 (by decide) (by show (4 : Int32).toInt = ((4 : Nat) : Int); decide) (by show 0 < 4; decide) ne_b4z_arr_7z f23z f24z f25z) hZ18z (own_hw hw 115 rfl) (own_hw hw 10 rfl) (by decide) (by decide)) qa26z qb26z qc26z (g := (mkF m 51 #[.val (.ref a), .val (.ref b4z), .val (.ref b_11z), .val (.ref x0)] [(.ref x0), (.ref b4z)])) rfl (by rw [hml]; rfl) (Steps.refl _) (argsL := [(.ref x0)]) (rest := []) (lenOf pd_396412080 rfl) rfl (by show 2 * 0 + _ ≤ _; exact Nat.le_of_eq rfl) (hb hby d_prog_14_method_2_code_51) (fun _ _ => ⟨rfl, K20zq, (by decide : 7 + 0 ≤ _), (by decide : 135 + 0 ≤ _)⟩)
  dsimp only [Pt.U, Pt.locs, Pt.cells, Pt.slots] at X26z l26z y26z z26z st26z hQ26z
  subst l26z y26z z26z
  obtain ⟨rfl, NQ26z, K26zq, r26z_0, r26z_1, r26z_2, r26z_3, r26z_4⟩ := hQ26z
  refine own_tr st26z ?_
  have N26z := Fr.app N20z NQ26z
  have O27z : Ext Z.heap T26z.heap := own_ext_keep O19z K26zq (allS fr_b4z (allS r7z_1 all0))
  have K27z : Keep h0 T26z.heap [] := K19z.trans K26zq (allS (Or.inr lz_b4z) (allS (Or.inr lz_arr_7z) all0))
  have Sn27z := Nat.le_trans Sn18z K26zq.1
  have r26z_1 : own_A Z T26z.heap arr_7z kk_7z (.object "java/lang/Object") [(.ref x0), .null, .null, .null] := r26z_1
  have r26z_2 : Fld Z T26z.heap b4z "java/util/AbstractList" "modCount" "I" (.int (1 : Int32)) := r26z_2
  have r26z_4 : Fld Z T26z.heap b4z "java/util/ArrayList" "size" "I" (.int (1 : Int32)) := r26z_4
  show own_G p e below (T26z.setTop (mkF m 56 #[.val (.ref a), .val (.ref b4z), .val (.ref b_11z), .val (.ref x0)] [(.int (1 : Int32))])) _
  refine own_go (fun t k => XS.pop X26z.here hx rfl (hb hby d_prog_14_method_2_code_56) rfl rfl k) ?_
  refine own_go (fun t k => XS.goto X26z.here hx rfl (pc0 := 57) (pc' := 28) rfl (hb hby d_prog_14_method_2_code_57) (by decide) (by decide) k) ?_
  show own_G p e below (T26z.setTop (mkF m 28 #[.val (.ref a), .val (.ref b4z), .val (.ref b_11z), .val (.ref x0)] [])) _
  refine own_go (fun t k => XS.aloadN X26z.here hx rfl (hb hby d_prog_14_method_2_code_28) rfl rfl k) ?_
  have f28z := ((r16z_1.ext E18z).keep K26zq (by simp only [List.mem_cons, List.not_mem_nil, or_false, not_or]; exact ⟨(Ne.symm ne_b4z_b_11z), (Ne.symm ne_arr_7z_b_11z)⟩))
  have f29z := ((r16z_2.ext E18z).keep K26zq (by simp only [List.mem_cons, List.not_mem_nil, or_false, not_or]; exact ⟨(Ne.symm ne_b4z_b_11z), (Ne.symm ne_arr_7z_b_11z)⟩))
  have f30z := (((f13z.keep K16zq (by simp only [List.mem_cons, List.not_mem_nil, or_false, not_or]; exact ne_a_b_11z)).ext E18z).keep K26zq (by simp only [List.mem_cons, List.not_mem_nil, or_false, not_or]; exact ⟨ne_a_b4z, ne_a_arr_7z⟩))
  obtain ⟨cq31z, kq31z, qa31z, qb31z, qc31z⟩ := isOf hZ18z (rfl : T26z.heap = _) ((r16z_0.ext E18z).keep K26zq)
  obtain ⟨_, _, ⟨T31z, L31z, k31z, n31z⟩, -, X31z, ⟨Lc31z, hQ31z, l31z, y31z, z31z⟩, st31z⟩ := X26z.interfaceBack hx (xi := own_m23) (y := own_m16) hown18z (mvT hZ18z (own_hw hw 90 rfl)) (mvT hZ18z (own_hw hw 91 rfl)) (mvT hZ18z (own_hw hw 92 rfl)) (mvT hZ18z (own_hw hw 93 rfl)) (mvT hZ18z (own_hw hw 94 rfl)) (mvT hZ18z (own_hw hw 95 rfl)) (mvT hZ18z (own_hw hw 96 rfl)) (mvT hZ18z (own_hw hw 97 rfl)) (by decide) (backOf (W := 0) (own_hn1 l Z a0 hw [] b_11z a (1 : Int32) (4 : Int32) T26z.heap O27z f28z f29z f30z (by decide)) hZ18z (own_hw hw 98 rfl) (own_hw hw 76 rfl) (by decide) (by decide)) qa31z qb31z qc31z (g := (mkF m 29 #[.val (.ref a), .val (.ref b4z), .val (.ref b_11z), .val (.ref x0)] [(.ref b_11z)])) rfl (by rw [hml]; rfl) (Steps.refl _) (argsL := []) (rest := []) (lenOf pd_193422000 rfl) rfl (by show 2 * 0 + _ ≤ _; exact Nat.le_of_eq rfl) (hb hby d_prog_14_method_2_code_29) (fun _ _ => ⟨rfl, rfl, (by decide : 7 + 0 ≤ _), (by decide : 135 + 0 ≤ _)⟩)
  dsimp only [Pt.U, Pt.locs, Pt.cells, Pt.slots] at X31z l31z y31z z31z st31z hQ31z
  subst l31z y31z z31z
  obtain ⟨rfl, NQ31z, K31zq⟩ := hQ31z
  refine own_tr st31z ?_
  have N31z := Fr.app N26z NQ31z
  show own_G p e below (T31z.setTop (mkF m 34 #[.val (.ref a), .val (.ref b4z), .val (.ref b_11z), .val (.ref x0)] [(.int (1 : Int32))])) _
  refine own_go (fun t k => XS.ifNo X31z.here hx rfl (hb hby d_prog_14_method_2_code_34) rfl ((if0 _ _).trans (feq (by decide : ¬ ((1 : Int32) = (0 : Int32)))).1) k) ?_
  show own_G p e below (T31z.setTop (mkF m 37 #[.val (.ref a), .val (.ref b4z), .val (.ref b_11z), .val (.ref x0)] [])) _
  refine own_go (fun t k => XS.aloadN X31z.here hx rfl (hb hby d_prog_14_method_2_code_37) rfl rfl k) ?_
  have f32z := ((r16z_3.ext E18z).keep K26zq (by simp only [List.mem_cons, List.not_mem_nil, or_false, not_or]; exact ⟨(Ne.symm ne_b4z_b_11z), (Ne.symm ne_arr_7z_b_11z)⟩))
  have f33z := ((r16z_4.ext E18z).keep K26zq (by simp only [List.mem_cons, List.not_mem_nil, or_false, not_or]; exact ⟨(Ne.symm ne_b4z_b_11z), (Ne.symm ne_arr_7z_b_11z)⟩))
  have f34z := ((((f9z.keep K11zq (by simp)).keep K16zq (by simp only [List.mem_cons, List.not_mem_nil, or_false, not_or]; exact ne_a_b_11z)).ext E18z).keep K26zq (by simp only [List.mem_cons, List.not_mem_nil, or_false, not_or]; exact ⟨ne_a_b4z, ne_a_arr_7z⟩))
  have f35z := (((f15z.keep K16zq (by simp only [List.mem_cons, List.not_mem_nil, or_false, not_or]; exact ne_a_b_11z)).ext E18z).keep K26zq (by simp only [List.mem_cons, List.not_mem_nil, or_false, not_or]; exact ⟨ne_a_b4z, ne_a_arr_7z⟩))
  have f36z := ((((f10z.keep K11zq (by simp)).keep K16zq (by simp only [List.mem_cons, List.not_mem_nil, or_false, not_or]; exact ne_arr_b_11z)).ext E18z).keep K26zq (by simp only [List.mem_cons, List.not_mem_nil, or_false, not_or]; exact ⟨ne_arr_b4z, ne_arr_arr_7z⟩))
  obtain ⟨cq37z, kq37z, qa37z, qb37z, qc37z⟩ := isOf hZ18z K31zq ((r16z_0.ext E18z).keep K26zq)
  obtain ⟨_, _, ⟨T37z, L37z, k37z, n37z⟩, -, X37z, ⟨Lc37z, hQ37z, l37z, y37z, z37z⟩, st37z⟩ := X31z.interfaceBack hx (xi := own_m24) (y := own_m18) hown18z (mvT hZ18z (own_hw hw 139 rfl)) (mvT hZ18z (own_hw hw 140 rfl)) (mvT hZ18z (own_hw hw 141 rfl)) (mvT hZ18z (own_hw hw 142 rfl)) (mvT hZ18z (own_hw hw 143 rfl)) (mvT hZ18z (own_hw hw 144 rfl)) (mvT hZ18z (own_hw hw 145 rfl)) (mvT hZ18z (own_hw hw 97 rfl)) (by decide) (backOf (W := 0) (own_next l Z a0 hw [] b_11z a mc (1 : Int32) (0 : Int32) (4 : Int32) arr kk ([(.ref x0), (.ref x1), (.ref x2), (.ref x3), .null, .null, .null, .null, .null, .null]) 1 x1 (10 : Int32) T26z.heap O27z ((r16z_0.ext E18z).keep K26zq) r11z_1 f28z f29z f32z f33z f34z f30z f35z f36z (by decide) rfl (by decide) (by show (10 : Int32).toInt = ((10 : Nat) : Int); decide) (by decide) ne_a_b_11z ne_arr_b_11z) hZ18z (own_hw hw 146 rfl) (own_hw hw 76 rfl) (by decide) (by decide)) qa37z qb37z qc37z (g := (mkF m 38 #[.val (.ref a), .val (.ref b4z), .val (.ref b_11z), .val (.ref x0)] [(.ref b_11z)])) rfl (by rw [hml]; rfl) (Steps.refl _) (argsL := []) (rest := []) (lenOf pd_462477782 rfl) rfl (by show 2 * 0 + _ ≤ _; exact Nat.le_of_eq rfl) (hb hby d_prog_14_method_2_code_38) (fun _ _ => ⟨rfl, K31zq, (by decide : 7 + 0 ≤ _), (by decide : 135 + 0 ≤ _)⟩)
  dsimp only [Pt.U, Pt.locs, Pt.cells, Pt.slots] at X37z l37z y37z z37z st37z hQ37z
  subst l37z y37z z37z
  obtain ⟨rfl, NQ37z, K37zq, r37z_0, r37z_1, r37z_2, r37z_3, r37z_4⟩ := hQ37z
  refine own_tr st37z ?_
  have N37z := Fr.app N31z NQ37z
  have O38z : Ext Z.heap T37z.heap := own_ext_keep O27z K37zq (allS r11z_1 all0)
  have K38z : Keep h0 T37z.heap [] := K27z.trans K37zq (allS (Or.inr lz_b_11z) all0)
  have Sn38z := Nat.le_trans Sn27z K37zq.1
  have r37z_2 : Fld Z T37z.heap b_11z "java/util/ArrayList$Itr" "cursor" "I" (.int (2 : Int32)) := r37z_2
  show own_G p e below (T37z.setTop (mkF m 43 #[.val (.ref a), .val (.ref b4z), .val (.ref b_11z), .val (.ref x0)] [(.ref x1)])) _
  refine own_go (fun t k => XS.astoreN X37z.here hx rfl (hb hby d_prog_14_method_2_code_43) rfl rfl (l' := #[.val (.ref a), .val (.ref b4z), .val (.ref b_11z), .val (.ref x1)]) rfl k) ?_
  refine own_go (fun t k => XS.aloadN X37z.here hx rfl (hb hby d_prog_14_method_2_code_44) rfl rfl k) ?_
  refine own_go (fun t k => XS.aloadN X37z.here hx rfl (hb hby d_prog_14_method_2_code_45) rfl rfl k) ?_
  obtain ⟨a39z, T39z, h39z, k39z, X39z, e39z, E39z, Si39z, Sn39z, hZ39z, hown39z, st39z⟩ := ldcS X37z hx hZ18z hown18z (own_hw hw 153 rfl) (own_wS hw) rfl Si18z Sn38z (g := (mkF m 46 #[.val (.ref a), .val (.ref b4z), .val (.ref b_11z), .val (.ref x1)] [(.ref x1), (.ref b4z)])) rfl (hb hby d_prog_14_method_2_code_46) (n := 84) (by decide) (by decide) (by decide) (by decide)
  refine own_go st39z ?_
  have O40z : Ext Z.heap h39z := own_ext_trans O38z E39z
  have K40z : Keep h0 h39z [] := K38z.ext E39z
  show own_G p e below (T39z.setTop (mkF m 48 #[.val (.ref a), .val (.ref b4z), .val (.ref b_11z), .val (.ref x1)] [(.ref a39z), (.ref x1), (.ref b4z)])) _
  obtain ⟨_, _, ⟨T41z, L41z, k41z, n41z⟩, -, X41z, ⟨Lc41z, hQ41z, l41z, y41z, z41z⟩, st41z⟩ := Jvm.LawKit.callS X39z hx (y := own_m19) hown39z (mvT hZ39z (own_hw hw 46 rfl)) (mvT hZ39z (own_hw hw 47 rfl)) (mvT hZ39z (own_hw hw 48 rfl)) (mvT hZ39z (own_hw hw 49 rfl)) (by decide) (backOf (W := 1) (own_rnn l Z a0 hw [] x1 a39z h39z O40z) hZ39z (own_hw hw 49 rfl) (own_hw hw 48 rfl) (by decide) (by decide)) (g := (mkF m 48 #[.val (.ref a), .val (.ref b4z), .val (.ref b_11z), .val (.ref x1)] [(.ref a39z), (.ref x1), (.ref b4z)])) rfl (by rw [hml]; rfl) (argsL := [(.ref x1), (.ref a39z)]) (rest := [(.ref b4z)]) (lenOf pd_3946442454 rfl) rfl (by show 2 * 0 + _ ≤ _; exact Nat.le_of_eq rfl) (hb hby d_prog_14_method_2_code_48) (fun _ _ => ⟨rfl, e39z, (by decide : 9 + 0 ≤ _), (by decide : 223 + 0 ≤ _)⟩)
  dsimp only [Pt.U, Pt.locs, Pt.cells, Pt.slots] at X41z l41z y41z z41z st41z hQ41z
  subst l41z y41z z41z
  obtain ⟨rfl, NQ41z, K41zq⟩ := hQ41z
  refine own_go st41z ?_
  have N41z := Fr.app N37z NQ41z
  show own_G p e below (T41z.setTop (mkF m 51 #[.val (.ref a), .val (.ref b4z), .val (.ref b_11z), .val (.ref x1)] [(.ref x1), (.ref b4z)])) _
  have f42z := (((((((((q3.ext E1z).ext E4z).keep K7zq).keep K11zq).keep K16zq).ext E18z).keep K26zq).keep K37zq).ext E39z)
  have f43z := ((r26z_1.keep K37zq (by simp only [List.mem_cons, List.not_mem_nil, or_false, not_or]; exact ne_arr_7z_b_11z)).ext E39z)
  have f44z := ((r26z_2.keep K37zq (by simp only [List.mem_cons, List.not_mem_nil, or_false, not_or]; exact ne_b4z_b_11z)).ext E39z)
  have f45z := ((r26z_3.keep K37zq (by simp only [List.mem_cons, List.not_mem_nil, or_false, not_or]; exact ne_b4z_b_11z)).ext E39z)
  have f46z := ((r26z_4.keep K37zq (by simp only [List.mem_cons, List.not_mem_nil, or_false, not_or]; exact ne_b4z_b_11z)).ext E39z)
  obtain ⟨cq47z, kq47z, qa47z, qb47z, qc47z⟩ := isOf hZ39z K41zq ((r26z_0.keep K37zq).ext E39z)
  obtain ⟨_, _, ⟨T47z, L47z, k47z, n47z⟩, -, X47z, ⟨Lc47z, hQ47z, l47z, y47z, z47z⟩, st47z⟩ := X41z.interfaceBack hx (xi := own_m25) (y := own_m8) hown39z (mvT hZ39z (own_hw hw 154 rfl)) (mvT hZ39z (own_hw hw 155 rfl)) (mvT hZ39z (own_hw hw 156 rfl)) (mvT hZ39z (own_hw hw 157 rfl)) (mvT hZ39z (own_hw hw 113 rfl)) (mvT hZ39z (own_hw hw 158 rfl)) (mvT hZ39z (own_hw hw 159 rfl)) (mvT hZ39z (own_hw hw 106 rfl)) (by decide) (backOf (W := 0) (own_add1 l Z a0 hw [] b4z x1 arr_7z kk_7z ([(.ref x0), .null, .null, .null]) (1 : Int32) (1 : Int32) (4 : Int32) 1 h39z O40z ((r26z_0.keep K37zq).ext E39z) fr_b4z r7z_1 f42z f43z r7z_3 (by decide) (by show (4 : Int32).toInt = ((4 : Nat) : Int); decide) (by show 1 < 4; decide) ne_b4z_arr_7z f44z f45z f46z) hZ39z (own_hw hw 115 rfl) (own_hw hw 10 rfl) (by decide) (by decide)) qa47z qb47z qc47z (g := (mkF m 51 #[.val (.ref a), .val (.ref b4z), .val (.ref b_11z), .val (.ref x1)] [(.ref x1), (.ref b4z)])) rfl (by rw [hml]; rfl) (Steps.refl _) (argsL := [(.ref x1)]) (rest := []) (lenOf pd_396412080 rfl) rfl (by show 2 * 0 + _ ≤ _; exact Nat.le_of_eq rfl) (hb hby d_prog_14_method_2_code_51) (fun _ _ => ⟨rfl, K41zq, (by decide : 9 + 0 ≤ _), (by decide : 223 + 0 ≤ _)⟩)
  dsimp only [Pt.U, Pt.locs, Pt.cells, Pt.slots] at X47z l47z y47z z47z st47z hQ47z
  subst l47z y47z z47z
  obtain ⟨rfl, NQ47z, K47zq, r47z_0, r47z_1, r47z_2, r47z_3, r47z_4⟩ := hQ47z
  refine own_tr st47z ?_
  have N47z := Fr.app N41z NQ47z
  have O48z : Ext Z.heap T47z.heap := own_ext_keep O40z K47zq (allS fr_b4z (allS r7z_1 all0))
  have K48z : Keep h0 T47z.heap [] := K40z.trans K47zq (allS (Or.inr lz_b4z) (allS (Or.inr lz_arr_7z) all0))
  have Sn48z := Nat.le_trans Sn39z K47zq.1
  have r47z_1 : own_A Z T47z.heap arr_7z kk_7z (.object "java/lang/Object") [(.ref x0), (.ref x1), .null, .null] := r47z_1
  have r47z_2 : Fld Z T47z.heap b4z "java/util/AbstractList" "modCount" "I" (.int (2 : Int32)) := r47z_2
  have r47z_4 : Fld Z T47z.heap b4z "java/util/ArrayList" "size" "I" (.int (2 : Int32)) := r47z_4
  show own_G p e below (T47z.setTop (mkF m 56 #[.val (.ref a), .val (.ref b4z), .val (.ref b_11z), .val (.ref x1)] [(.int (1 : Int32))])) _
  refine own_go (fun t k => XS.pop X47z.here hx rfl (hb hby d_prog_14_method_2_code_56) rfl rfl k) ?_
  refine own_go (fun t k => XS.goto X47z.here hx rfl (pc0 := 57) (pc' := 28) rfl (hb hby d_prog_14_method_2_code_57) (by decide) (by decide) k) ?_
  show own_G p e below (T47z.setTop (mkF m 28 #[.val (.ref a), .val (.ref b4z), .val (.ref b_11z), .val (.ref x1)] [])) _
  refine own_go (fun t k => XS.aloadN X47z.here hx rfl (hb hby d_prog_14_method_2_code_28) rfl rfl k) ?_
  have f49z := ((r37z_1.ext E39z).keep K47zq (by simp only [List.mem_cons, List.not_mem_nil, or_false, not_or]; exact ⟨(Ne.symm ne_b4z_b_11z), (Ne.symm ne_arr_7z_b_11z)⟩))
  have f50z := ((r37z_2.ext E39z).keep K47zq (by simp only [List.mem_cons, List.not_mem_nil, or_false, not_or]; exact ⟨(Ne.symm ne_b4z_b_11z), (Ne.symm ne_arr_7z_b_11z)⟩))
  have f51z := (((f30z.keep K37zq (by simp only [List.mem_cons, List.not_mem_nil, or_false, not_or]; exact ne_a_b_11z)).ext E39z).keep K47zq (by simp only [List.mem_cons, List.not_mem_nil, or_false, not_or]; exact ⟨ne_a_b4z, ne_a_arr_7z⟩))
  obtain ⟨cq52z, kq52z, qa52z, qb52z, qc52z⟩ := isOf hZ39z (rfl : T47z.heap = _) ((r37z_0.ext E39z).keep K47zq)
  obtain ⟨_, _, ⟨T52z, L52z, k52z, n52z⟩, -, X52z, ⟨Lc52z, hQ52z, l52z, y52z, z52z⟩, st52z⟩ := X47z.interfaceBack hx (xi := own_m23) (y := own_m16) hown39z (mvT hZ39z (own_hw hw 90 rfl)) (mvT hZ39z (own_hw hw 91 rfl)) (mvT hZ39z (own_hw hw 92 rfl)) (mvT hZ39z (own_hw hw 93 rfl)) (mvT hZ39z (own_hw hw 94 rfl)) (mvT hZ39z (own_hw hw 95 rfl)) (mvT hZ39z (own_hw hw 96 rfl)) (mvT hZ39z (own_hw hw 97 rfl)) (by decide) (backOf (W := 0) (own_hn1 l Z a0 hw [] b_11z a (2 : Int32) (4 : Int32) T47z.heap O48z f49z f50z f51z (by decide)) hZ39z (own_hw hw 98 rfl) (own_hw hw 76 rfl) (by decide) (by decide)) qa52z qb52z qc52z (g := (mkF m 29 #[.val (.ref a), .val (.ref b4z), .val (.ref b_11z), .val (.ref x1)] [(.ref b_11z)])) rfl (by rw [hml]; rfl) (Steps.refl _) (argsL := []) (rest := []) (lenOf pd_193422000 rfl) rfl (by show 2 * 0 + _ ≤ _; exact Nat.le_of_eq rfl) (hb hby d_prog_14_method_2_code_29) (fun _ _ => ⟨rfl, rfl, (by decide : 9 + 0 ≤ _), (by decide : 223 + 0 ≤ _)⟩)
  dsimp only [Pt.U, Pt.locs, Pt.cells, Pt.slots] at X52z l52z y52z z52z st52z hQ52z
  subst l52z y52z z52z
  obtain ⟨rfl, NQ52z, K52zq⟩ := hQ52z
  refine own_tr st52z ?_
  have N52z := Fr.app N47z NQ52z
  show own_G p e below (T52z.setTop (mkF m 34 #[.val (.ref a), .val (.ref b4z), .val (.ref b_11z), .val (.ref x1)] [(.int (1 : Int32))])) _
  refine own_go (fun t k => XS.ifNo X52z.here hx rfl (hb hby d_prog_14_method_2_code_34) rfl ((if0 _ _).trans (feq (by decide : ¬ ((1 : Int32) = (0 : Int32)))).1) k) ?_
  show own_G p e below (T52z.setTop (mkF m 37 #[.val (.ref a), .val (.ref b4z), .val (.ref b_11z), .val (.ref x1)] [])) _
  refine own_go (fun t k => XS.aloadN X52z.here hx rfl (hb hby d_prog_14_method_2_code_37) rfl rfl k) ?_
  have f53z := ((r37z_3.ext E39z).keep K47zq (by simp only [List.mem_cons, List.not_mem_nil, or_false, not_or]; exact ⟨(Ne.symm ne_b4z_b_11z), (Ne.symm ne_arr_7z_b_11z)⟩))
  have f54z := ((r37z_4.ext E39z).keep K47zq (by simp only [List.mem_cons, List.not_mem_nil, or_false, not_or]; exact ⟨(Ne.symm ne_b4z_b_11z), (Ne.symm ne_arr_7z_b_11z)⟩))
  have f55z := (((f34z.keep K37zq (by simp only [List.mem_cons, List.not_mem_nil, or_false, not_or]; exact ne_a_b_11z)).ext E39z).keep K47zq (by simp only [List.mem_cons, List.not_mem_nil, or_false, not_or]; exact ⟨ne_a_b4z, ne_a_arr_7z⟩))
  have f56z := (((f35z.keep K37zq (by simp only [List.mem_cons, List.not_mem_nil, or_false, not_or]; exact ne_a_b_11z)).ext E39z).keep K47zq (by simp only [List.mem_cons, List.not_mem_nil, or_false, not_or]; exact ⟨ne_a_b4z, ne_a_arr_7z⟩))
  have f57z := (((f36z.keep K37zq (by simp only [List.mem_cons, List.not_mem_nil, or_false, not_or]; exact ne_arr_b_11z)).ext E39z).keep K47zq (by simp only [List.mem_cons, List.not_mem_nil, or_false, not_or]; exact ⟨ne_arr_b4z, ne_arr_arr_7z⟩))
  obtain ⟨cq58z, kq58z, qa58z, qb58z, qc58z⟩ := isOf hZ39z K52zq ((r37z_0.ext E39z).keep K47zq)
  obtain ⟨_, _, ⟨T58z, L58z, k58z, n58z⟩, -, X58z, ⟨Lc58z, hQ58z, l58z, y58z, z58z⟩, st58z⟩ := X52z.interfaceBack hx (xi := own_m24) (y := own_m18) hown39z (mvT hZ39z (own_hw hw 139 rfl)) (mvT hZ39z (own_hw hw 140 rfl)) (mvT hZ39z (own_hw hw 141 rfl)) (mvT hZ39z (own_hw hw 142 rfl)) (mvT hZ39z (own_hw hw 143 rfl)) (mvT hZ39z (own_hw hw 144 rfl)) (mvT hZ39z (own_hw hw 145 rfl)) (mvT hZ39z (own_hw hw 97 rfl)) (by decide) (backOf (W := 0) (own_next l Z a0 hw [] b_11z a mc (2 : Int32) (1 : Int32) (4 : Int32) arr kk ([(.ref x0), (.ref x1), (.ref x2), (.ref x3), .null, .null, .null, .null, .null, .null]) 2 x2 (10 : Int32) T47z.heap O48z ((r37z_0.ext E39z).keep K47zq) r11z_1 f49z f50z f53z f54z f55z f51z f56z f57z (by decide) rfl (by decide) (by show (10 : Int32).toInt = ((10 : Nat) : Int); decide) (by decide) ne_a_b_11z ne_arr_b_11z) hZ39z (own_hw hw 146 rfl) (own_hw hw 76 rfl) (by decide) (by decide)) qa58z qb58z qc58z (g := (mkF m 38 #[.val (.ref a), .val (.ref b4z), .val (.ref b_11z), .val (.ref x1)] [(.ref b_11z)])) rfl (by rw [hml]; rfl) (Steps.refl _) (argsL := []) (rest := []) (lenOf pd_462477782 rfl) rfl (by show 2 * 0 + _ ≤ _; exact Nat.le_of_eq rfl) (hb hby d_prog_14_method_2_code_38) (fun _ _ => ⟨rfl, K52zq, (by decide : 9 + 0 ≤ _), (by decide : 223 + 0 ≤ _)⟩)
  dsimp only [Pt.U, Pt.locs, Pt.cells, Pt.slots] at X58z l58z y58z z58z st58z hQ58z
  subst l58z y58z z58z
  obtain ⟨rfl, NQ58z, K58zq, r58z_0, r58z_1, r58z_2, r58z_3, r58z_4⟩ := hQ58z
  refine own_tr st58z ?_
  have N58z := Fr.app N52z NQ58z
  have O59z : Ext Z.heap T58z.heap := own_ext_keep O48z K58zq (allS r11z_1 all0)
  have K59z : Keep h0 T58z.heap [] := K48z.trans K58zq (allS (Or.inr lz_b_11z) all0)
  have Sn59z := Nat.le_trans Sn48z K58zq.1
  have r58z_2 : Fld Z T58z.heap b_11z "java/util/ArrayList$Itr" "cursor" "I" (.int (3 : Int32)) := r58z_2
  show own_G p e below (T58z.setTop (mkF m 43 #[.val (.ref a), .val (.ref b4z), .val (.ref b_11z), .val (.ref x1)] [(.ref x2)])) _
  refine own_go (fun t k => XS.astoreN X58z.here hx rfl (hb hby d_prog_14_method_2_code_43) rfl rfl (l' := #[.val (.ref a), .val (.ref b4z), .val (.ref b_11z), .val (.ref x2)]) rfl k) ?_
  refine own_go (fun t k => XS.aloadN X58z.here hx rfl (hb hby d_prog_14_method_2_code_44) rfl rfl k) ?_
  refine own_go (fun t k => XS.aloadN X58z.here hx rfl (hb hby d_prog_14_method_2_code_45) rfl rfl k) ?_
  obtain ⟨a60z, T60z, h60z, k60z, X60z, e60z, E60z, Si60z, Sn60z, hZ60z, hown60z, st60z⟩ := ldcS X58z hx hZ39z hown39z (own_hw hw 153 rfl) (own_wS hw) rfl Si39z Sn59z (g := (mkF m 46 #[.val (.ref a), .val (.ref b4z), .val (.ref b_11z), .val (.ref x2)] [(.ref x2), (.ref b4z)])) rfl (hb hby d_prog_14_method_2_code_46) (n := 84) (by decide) (by decide) (by decide) (by decide)
  refine own_go st60z ?_
  have O61z : Ext Z.heap h60z := own_ext_trans O59z E60z
  have K61z : Keep h0 h60z [] := K59z.ext E60z
  show own_G p e below (T60z.setTop (mkF m 48 #[.val (.ref a), .val (.ref b4z), .val (.ref b_11z), .val (.ref x2)] [(.ref a60z), (.ref x2), (.ref b4z)])) _
  obtain ⟨_, _, ⟨T62z, L62z, k62z, n62z⟩, -, X62z, ⟨Lc62z, hQ62z, l62z, y62z, z62z⟩, st62z⟩ := Jvm.LawKit.callS X60z hx (y := own_m19) hown60z (mvT hZ60z (own_hw hw 46 rfl)) (mvT hZ60z (own_hw hw 47 rfl)) (mvT hZ60z (own_hw hw 48 rfl)) (mvT hZ60z (own_hw hw 49 rfl)) (by decide) (backOf (W := 1) (own_rnn l Z a0 hw [] x2 a60z h60z O61z) hZ60z (own_hw hw 49 rfl) (own_hw hw 48 rfl) (by decide) (by decide)) (g := (mkF m 48 #[.val (.ref a), .val (.ref b4z), .val (.ref b_11z), .val (.ref x2)] [(.ref a60z), (.ref x2), (.ref b4z)])) rfl (by rw [hml]; rfl) (argsL := [(.ref x2), (.ref a60z)]) (rest := [(.ref b4z)]) (lenOf pd_3946442454 rfl) rfl (by show 2 * 0 + _ ≤ _; exact Nat.le_of_eq rfl) (hb hby d_prog_14_method_2_code_48) (fun _ _ => ⟨rfl, e60z, (by decide : 11 + 0 ≤ _), (by decide : 311 + 0 ≤ _)⟩)
  dsimp only [Pt.U, Pt.locs, Pt.cells, Pt.slots] at X62z l62z y62z z62z st62z hQ62z
  subst l62z y62z z62z
  obtain ⟨rfl, NQ62z, K62zq⟩ := hQ62z
  refine own_go st62z ?_
  have N62z := Fr.app N58z NQ62z
  show own_G p e below (T62z.setTop (mkF m 51 #[.val (.ref a), .val (.ref b4z), .val (.ref b_11z), .val (.ref x2)] [(.ref x2), (.ref b4z)])) _
  have f63z := ((((((((((((q4.ext E1z).ext E4z).keep K7zq).keep K11zq).keep K16zq).ext E18z).keep K26zq).keep K37zq).ext E39z).keep K47zq).keep K58zq).ext E60z)
  have f64z := ((r47z_1.keep K58zq (by simp only [List.mem_cons, List.not_mem_nil, or_false, not_or]; exact ne_arr_7z_b_11z)).ext E60z)
  have f65z := ((r47z_2.keep K58zq (by simp only [List.mem_cons, List.not_mem_nil, or_false, not_or]; exact ne_b4z_b_11z)).ext E60z)
  have f66z := ((r47z_3.keep K58zq (by simp only [List.mem_cons, List.not_mem_nil, or_false, not_or]; exact ne_b4z_b_11z)).ext E60z)
  have f67z := ((r47z_4.keep K58zq (by simp only [List.mem_cons, List.not_mem_nil, or_false, not_or]; exact ne_b4z_b_11z)).ext E60z)
  obtain ⟨cq68z, kq68z, qa68z, qb68z, qc68z⟩ := isOf hZ60z K62zq ((r47z_0.keep K58zq).ext E60z)
  obtain ⟨_, _, ⟨T68z, L68z, k68z, n68z⟩, -, X68z, ⟨Lc68z, hQ68z, l68z, y68z, z68z⟩, st68z⟩ := X62z.interfaceBack hx (xi := own_m25) (y := own_m8) hown60z (mvT hZ60z (own_hw hw 154 rfl)) (mvT hZ60z (own_hw hw 155 rfl)) (mvT hZ60z (own_hw hw 156 rfl)) (mvT hZ60z (own_hw hw 157 rfl)) (mvT hZ60z (own_hw hw 113 rfl)) (mvT hZ60z (own_hw hw 158 rfl)) (mvT hZ60z (own_hw hw 159 rfl)) (mvT hZ60z (own_hw hw 106 rfl)) (by decide) (backOf (W := 0) (own_add1 l Z a0 hw [] b4z x2 arr_7z kk_7z ([(.ref x0), (.ref x1), .null, .null]) (2 : Int32) (2 : Int32) (4 : Int32) 2 h60z O61z ((r47z_0.keep K58zq).ext E60z) fr_b4z r7z_1 f63z f64z r7z_3 (by decide) (by show (4 : Int32).toInt = ((4 : Nat) : Int); decide) (by show 2 < 4; decide) ne_b4z_arr_7z f65z f66z f67z) hZ60z (own_hw hw 115 rfl) (own_hw hw 10 rfl) (by decide) (by decide)) qa68z qb68z qc68z (g := (mkF m 51 #[.val (.ref a), .val (.ref b4z), .val (.ref b_11z), .val (.ref x2)] [(.ref x2), (.ref b4z)])) rfl (by rw [hml]; rfl) (Steps.refl _) (argsL := [(.ref x2)]) (rest := []) (lenOf pd_396412080 rfl) rfl (by show 2 * 0 + _ ≤ _; exact Nat.le_of_eq rfl) (hb hby d_prog_14_method_2_code_51) (fun _ _ => ⟨rfl, K62zq, (by decide : 11 + 0 ≤ _), (by decide : 311 + 0 ≤ _)⟩)
  dsimp only [Pt.U, Pt.locs, Pt.cells, Pt.slots] at X68z l68z y68z z68z st68z hQ68z
  subst l68z y68z z68z
  obtain ⟨rfl, NQ68z, K68zq, r68z_0, r68z_1, r68z_2, r68z_3, r68z_4⟩ := hQ68z
  refine own_tr st68z ?_
  have N68z := Fr.app N62z NQ68z
  have O69z : Ext Z.heap T68z.heap := own_ext_keep O61z K68zq (allS fr_b4z (allS r7z_1 all0))
  have K69z : Keep h0 T68z.heap [] := K61z.trans K68zq (allS (Or.inr lz_b4z) (allS (Or.inr lz_arr_7z) all0))
  have Sn69z := Nat.le_trans Sn60z K68zq.1
  have r68z_1 : own_A Z T68z.heap arr_7z kk_7z (.object "java/lang/Object") [(.ref x0), (.ref x1), (.ref x2), .null] := r68z_1
  have r68z_2 : Fld Z T68z.heap b4z "java/util/AbstractList" "modCount" "I" (.int (3 : Int32)) := r68z_2
  have r68z_4 : Fld Z T68z.heap b4z "java/util/ArrayList" "size" "I" (.int (3 : Int32)) := r68z_4
  show own_G p e below (T68z.setTop (mkF m 56 #[.val (.ref a), .val (.ref b4z), .val (.ref b_11z), .val (.ref x2)] [(.int (1 : Int32))])) _
  refine own_go (fun t k => XS.pop X68z.here hx rfl (hb hby d_prog_14_method_2_code_56) rfl rfl k) ?_
  refine own_go (fun t k => XS.goto X68z.here hx rfl (pc0 := 57) (pc' := 28) rfl (hb hby d_prog_14_method_2_code_57) (by decide) (by decide) k) ?_
  show own_G p e below (T68z.setTop (mkF m 28 #[.val (.ref a), .val (.ref b4z), .val (.ref b_11z), .val (.ref x2)] [])) _
  refine own_go (fun t k => XS.aloadN X68z.here hx rfl (hb hby d_prog_14_method_2_code_28) rfl rfl k) ?_
  have f70z := ((r58z_1.ext E60z).keep K68zq (by simp only [List.mem_cons, List.not_mem_nil, or_false, not_or]; exact ⟨(Ne.symm ne_b4z_b_11z), (Ne.symm ne_arr_7z_b_11z)⟩))
  have f71z := ((r58z_2.ext E60z).keep K68zq (by simp only [List.mem_cons, List.not_mem_nil, or_false, not_or]; exact ⟨(Ne.symm ne_b4z_b_11z), (Ne.symm ne_arr_7z_b_11z)⟩))
  have f72z := (((f51z.keep K58zq (by simp only [List.mem_cons, List.not_mem_nil, or_false, not_or]; exact ne_a_b_11z)).ext E60z).keep K68zq (by simp only [List.mem_cons, List.not_mem_nil, or_false, not_or]; exact ⟨ne_a_b4z, ne_a_arr_7z⟩))
  obtain ⟨cq73z, kq73z, qa73z, qb73z, qc73z⟩ := isOf hZ60z (rfl : T68z.heap = _) ((r58z_0.ext E60z).keep K68zq)
  obtain ⟨_, _, ⟨T73z, L73z, k73z, n73z⟩, -, X73z, ⟨Lc73z, hQ73z, l73z, y73z, z73z⟩, st73z⟩ := X68z.interfaceBack hx (xi := own_m23) (y := own_m16) hown60z (mvT hZ60z (own_hw hw 90 rfl)) (mvT hZ60z (own_hw hw 91 rfl)) (mvT hZ60z (own_hw hw 92 rfl)) (mvT hZ60z (own_hw hw 93 rfl)) (mvT hZ60z (own_hw hw 94 rfl)) (mvT hZ60z (own_hw hw 95 rfl)) (mvT hZ60z (own_hw hw 96 rfl)) (mvT hZ60z (own_hw hw 97 rfl)) (by decide) (backOf (W := 0) (own_hn1 l Z a0 hw [] b_11z a (3 : Int32) (4 : Int32) T68z.heap O69z f70z f71z f72z (by decide)) hZ60z (own_hw hw 98 rfl) (own_hw hw 76 rfl) (by decide) (by decide)) qa73z qb73z qc73z (g := (mkF m 29 #[.val (.ref a), .val (.ref b4z), .val (.ref b_11z), .val (.ref x2)] [(.ref b_11z)])) rfl (by rw [hml]; rfl) (Steps.refl _) (argsL := []) (rest := []) (lenOf pd_193422000 rfl) rfl (by show 2 * 0 + _ ≤ _; exact Nat.le_of_eq rfl) (hb hby d_prog_14_method_2_code_29) (fun _ _ => ⟨rfl, rfl, (by decide : 11 + 0 ≤ _), (by decide : 311 + 0 ≤ _)⟩)
  dsimp only [Pt.U, Pt.locs, Pt.cells, Pt.slots] at X73z l73z y73z z73z st73z hQ73z
  subst l73z y73z z73z
  obtain ⟨rfl, NQ73z, K73zq⟩ := hQ73z
  refine own_tr st73z ?_
  have N73z := Fr.app N68z NQ73z
  show own_G p e below (T73z.setTop (mkF m 34 #[.val (.ref a), .val (.ref b4z), .val (.ref b_11z), .val (.ref x2)] [(.int (1 : Int32))])) _
  refine own_go (fun t k => XS.ifNo X73z.here hx rfl (hb hby d_prog_14_method_2_code_34) rfl ((if0 _ _).trans (feq (by decide : ¬ ((1 : Int32) = (0 : Int32)))).1) k) ?_
  show own_G p e below (T73z.setTop (mkF m 37 #[.val (.ref a), .val (.ref b4z), .val (.ref b_11z), .val (.ref x2)] [])) _
  refine own_go (fun t k => XS.aloadN X73z.here hx rfl (hb hby d_prog_14_method_2_code_37) rfl rfl k) ?_
  have f74z := ((r58z_3.ext E60z).keep K68zq (by simp only [List.mem_cons, List.not_mem_nil, or_false, not_or]; exact ⟨(Ne.symm ne_b4z_b_11z), (Ne.symm ne_arr_7z_b_11z)⟩))
  have f75z := ((r58z_4.ext E60z).keep K68zq (by simp only [List.mem_cons, List.not_mem_nil, or_false, not_or]; exact ⟨(Ne.symm ne_b4z_b_11z), (Ne.symm ne_arr_7z_b_11z)⟩))
  have f76z := (((f55z.keep K58zq (by simp only [List.mem_cons, List.not_mem_nil, or_false, not_or]; exact ne_a_b_11z)).ext E60z).keep K68zq (by simp only [List.mem_cons, List.not_mem_nil, or_false, not_or]; exact ⟨ne_a_b4z, ne_a_arr_7z⟩))
  have f77z := (((f56z.keep K58zq (by simp only [List.mem_cons, List.not_mem_nil, or_false, not_or]; exact ne_a_b_11z)).ext E60z).keep K68zq (by simp only [List.mem_cons, List.not_mem_nil, or_false, not_or]; exact ⟨ne_a_b4z, ne_a_arr_7z⟩))
  have f78z := (((f57z.keep K58zq (by simp only [List.mem_cons, List.not_mem_nil, or_false, not_or]; exact ne_arr_b_11z)).ext E60z).keep K68zq (by simp only [List.mem_cons, List.not_mem_nil, or_false, not_or]; exact ⟨ne_arr_b4z, ne_arr_arr_7z⟩))
  obtain ⟨cq79z, kq79z, qa79z, qb79z, qc79z⟩ := isOf hZ60z K73zq ((r58z_0.ext E60z).keep K68zq)
  obtain ⟨_, _, ⟨T79z, L79z, k79z, n79z⟩, -, X79z, ⟨Lc79z, hQ79z, l79z, y79z, z79z⟩, st79z⟩ := X73z.interfaceBack hx (xi := own_m24) (y := own_m18) hown60z (mvT hZ60z (own_hw hw 139 rfl)) (mvT hZ60z (own_hw hw 140 rfl)) (mvT hZ60z (own_hw hw 141 rfl)) (mvT hZ60z (own_hw hw 142 rfl)) (mvT hZ60z (own_hw hw 143 rfl)) (mvT hZ60z (own_hw hw 144 rfl)) (mvT hZ60z (own_hw hw 145 rfl)) (mvT hZ60z (own_hw hw 97 rfl)) (by decide) (backOf (W := 0) (own_next l Z a0 hw [] b_11z a mc (3 : Int32) (2 : Int32) (4 : Int32) arr kk ([(.ref x0), (.ref x1), (.ref x2), (.ref x3), .null, .null, .null, .null, .null, .null]) 3 x3 (10 : Int32) T68z.heap O69z ((r58z_0.ext E60z).keep K68zq) r11z_1 f70z f71z f74z f75z f76z f72z f77z f78z (by decide) rfl (by decide) (by show (10 : Int32).toInt = ((10 : Nat) : Int); decide) (by decide) ne_a_b_11z ne_arr_b_11z) hZ60z (own_hw hw 146 rfl) (own_hw hw 76 rfl) (by decide) (by decide)) qa79z qb79z qc79z (g := (mkF m 38 #[.val (.ref a), .val (.ref b4z), .val (.ref b_11z), .val (.ref x2)] [(.ref b_11z)])) rfl (by rw [hml]; rfl) (Steps.refl _) (argsL := []) (rest := []) (lenOf pd_462477782 rfl) rfl (by show 2 * 0 + _ ≤ _; exact Nat.le_of_eq rfl) (hb hby d_prog_14_method_2_code_38) (fun _ _ => ⟨rfl, K73zq, (by decide : 11 + 0 ≤ _), (by decide : 311 + 0 ≤ _)⟩)
  dsimp only [Pt.U, Pt.locs, Pt.cells, Pt.slots] at X79z l79z y79z z79z st79z hQ79z
  subst l79z y79z z79z
  obtain ⟨rfl, NQ79z, K79zq, r79z_0, r79z_1, r79z_2, r79z_3, r79z_4⟩ := hQ79z
  refine own_tr st79z ?_
  have N79z := Fr.app N73z NQ79z
  have O80z : Ext Z.heap T79z.heap := own_ext_keep O69z K79zq (allS r11z_1 all0)
  have K80z : Keep h0 T79z.heap [] := K69z.trans K79zq (allS (Or.inr lz_b_11z) all0)
  have Sn80z := Nat.le_trans Sn69z K79zq.1
  have r79z_2 : Fld Z T79z.heap b_11z "java/util/ArrayList$Itr" "cursor" "I" (.int (4 : Int32)) := r79z_2
  show own_G p e below (T79z.setTop (mkF m 43 #[.val (.ref a), .val (.ref b4z), .val (.ref b_11z), .val (.ref x2)] [(.ref x3)])) _
  refine own_go (fun t k => XS.astoreN X79z.here hx rfl (hb hby d_prog_14_method_2_code_43) rfl rfl (l' := #[.val (.ref a), .val (.ref b4z), .val (.ref b_11z), .val (.ref x3)]) rfl k) ?_
  refine own_go (fun t k => XS.aloadN X79z.here hx rfl (hb hby d_prog_14_method_2_code_44) rfl rfl k) ?_
  refine own_go (fun t k => XS.aloadN X79z.here hx rfl (hb hby d_prog_14_method_2_code_45) rfl rfl k) ?_
  obtain ⟨a81z, T81z, h81z, k81z, X81z, e81z, E81z, Si81z, Sn81z, hZ81z, hown81z, st81z⟩ := ldcS X79z hx hZ60z hown60z (own_hw hw 153 rfl) (own_wS hw) rfl Si60z Sn80z (g := (mkF m 46 #[.val (.ref a), .val (.ref b4z), .val (.ref b_11z), .val (.ref x3)] [(.ref x3), (.ref b4z)])) rfl (hb hby d_prog_14_method_2_code_46) (n := 84) (by decide) (by decide) (by decide) (by decide)
  refine own_go st81z ?_
  have O82z : Ext Z.heap h81z := own_ext_trans O80z E81z
  have K82z : Keep h0 h81z [] := K80z.ext E81z
  show own_G p e below (T81z.setTop (mkF m 48 #[.val (.ref a), .val (.ref b4z), .val (.ref b_11z), .val (.ref x3)] [(.ref a81z), (.ref x3), (.ref b4z)])) _
  obtain ⟨_, _, ⟨T83z, L83z, k83z, n83z⟩, -, X83z, ⟨Lc83z, hQ83z, l83z, y83z, z83z⟩, st83z⟩ := Jvm.LawKit.callS X81z hx (y := own_m19) hown81z (mvT hZ81z (own_hw hw 46 rfl)) (mvT hZ81z (own_hw hw 47 rfl)) (mvT hZ81z (own_hw hw 48 rfl)) (mvT hZ81z (own_hw hw 49 rfl)) (by decide) (backOf (W := 1) (own_rnn l Z a0 hw [] x3 a81z h81z O82z) hZ81z (own_hw hw 49 rfl) (own_hw hw 48 rfl) (by decide) (by decide)) (g := (mkF m 48 #[.val (.ref a), .val (.ref b4z), .val (.ref b_11z), .val (.ref x3)] [(.ref a81z), (.ref x3), (.ref b4z)])) rfl (by rw [hml]; rfl) (argsL := [(.ref x3), (.ref a81z)]) (rest := [(.ref b4z)]) (lenOf pd_3946442454 rfl) rfl (by show 2 * 0 + _ ≤ _; exact Nat.le_of_eq rfl) (hb hby d_prog_14_method_2_code_48) (fun _ _ => ⟨rfl, e81z, (by decide : 13 + 0 ≤ _), (by decide : 399 + 0 ≤ _)⟩)
  dsimp only [Pt.U, Pt.locs, Pt.cells, Pt.slots] at X83z l83z y83z z83z st83z hQ83z
  subst l83z y83z z83z
  obtain ⟨rfl, NQ83z, K83zq⟩ := hQ83z
  refine own_go st83z ?_
  have N83z := Fr.app N79z NQ83z
  show own_G p e below (T83z.setTop (mkF m 51 #[.val (.ref a), .val (.ref b4z), .val (.ref b_11z), .val (.ref x3)] [(.ref x3), (.ref b4z)])) _
  have f84z := (((((((((((((((q5.ext E1z).ext E4z).keep K7zq).keep K11zq).keep K16zq).ext E18z).keep K26zq).keep K37zq).ext E39z).keep K47zq).keep K58zq).ext E60z).keep K68zq).keep K79zq).ext E81z)
  have f85z := ((r68z_1.keep K79zq (by simp only [List.mem_cons, List.not_mem_nil, or_false, not_or]; exact ne_arr_7z_b_11z)).ext E81z)
  have f86z := ((r68z_2.keep K79zq (by simp only [List.mem_cons, List.not_mem_nil, or_false, not_or]; exact ne_b4z_b_11z)).ext E81z)
  have f87z := ((r68z_3.keep K79zq (by simp only [List.mem_cons, List.not_mem_nil, or_false, not_or]; exact ne_b4z_b_11z)).ext E81z)
  have f88z := ((r68z_4.keep K79zq (by simp only [List.mem_cons, List.not_mem_nil, or_false, not_or]; exact ne_b4z_b_11z)).ext E81z)
  obtain ⟨cq89z, kq89z, qa89z, qb89z, qc89z⟩ := isOf hZ81z K83zq ((r68z_0.keep K79zq).ext E81z)
  obtain ⟨_, _, ⟨T89z, L89z, k89z, n89z⟩, -, X89z, ⟨Lc89z, hQ89z, l89z, y89z, z89z⟩, st89z⟩ := X83z.interfaceBack hx (xi := own_m25) (y := own_m8) hown81z (mvT hZ81z (own_hw hw 154 rfl)) (mvT hZ81z (own_hw hw 155 rfl)) (mvT hZ81z (own_hw hw 156 rfl)) (mvT hZ81z (own_hw hw 157 rfl)) (mvT hZ81z (own_hw hw 113 rfl)) (mvT hZ81z (own_hw hw 158 rfl)) (mvT hZ81z (own_hw hw 159 rfl)) (mvT hZ81z (own_hw hw 106 rfl)) (by decide) (backOf (W := 0) (own_add1 l Z a0 hw [] b4z x3 arr_7z kk_7z ([(.ref x0), (.ref x1), (.ref x2), .null]) (3 : Int32) (3 : Int32) (4 : Int32) 3 h81z O82z ((r68z_0.keep K79zq).ext E81z) fr_b4z r7z_1 f84z f85z r7z_3 (by decide) (by show (4 : Int32).toInt = ((4 : Nat) : Int); decide) (by show 3 < 4; decide) ne_b4z_arr_7z f86z f87z f88z) hZ81z (own_hw hw 115 rfl) (own_hw hw 10 rfl) (by decide) (by decide)) qa89z qb89z qc89z (g := (mkF m 51 #[.val (.ref a), .val (.ref b4z), .val (.ref b_11z), .val (.ref x3)] [(.ref x3), (.ref b4z)])) rfl (by rw [hml]; rfl) (Steps.refl _) (argsL := [(.ref x3)]) (rest := []) (lenOf pd_396412080 rfl) rfl (by show 2 * 0 + _ ≤ _; exact Nat.le_of_eq rfl) (hb hby d_prog_14_method_2_code_51) (fun _ _ => ⟨rfl, K83zq, (by decide : 13 + 0 ≤ _), (by decide : 399 + 0 ≤ _)⟩)
  dsimp only [Pt.U, Pt.locs, Pt.cells, Pt.slots] at X89z l89z y89z z89z st89z hQ89z
  subst l89z y89z z89z
  obtain ⟨rfl, NQ89z, K89zq, r89z_0, r89z_1, r89z_2, r89z_3, r89z_4⟩ := hQ89z
  refine own_tr st89z ?_
  have N89z := Fr.app N83z NQ89z
  have O90z : Ext Z.heap T89z.heap := own_ext_keep O82z K89zq (allS fr_b4z (allS r7z_1 all0))
  have K90z : Keep h0 T89z.heap [] := K82z.trans K89zq (allS (Or.inr lz_b4z) (allS (Or.inr lz_arr_7z) all0))
  have Sn90z := Nat.le_trans Sn81z K89zq.1
  have r89z_1 : own_A Z T89z.heap arr_7z kk_7z (.object "java/lang/Object") [(.ref x0), (.ref x1), (.ref x2), (.ref x3)] := r89z_1
  have r89z_2 : Fld Z T89z.heap b4z "java/util/AbstractList" "modCount" "I" (.int (4 : Int32)) := r89z_2
  have r89z_4 : Fld Z T89z.heap b4z "java/util/ArrayList" "size" "I" (.int (4 : Int32)) := r89z_4
  show own_G p e below (T89z.setTop (mkF m 56 #[.val (.ref a), .val (.ref b4z), .val (.ref b_11z), .val (.ref x3)] [(.int (1 : Int32))])) _
  refine own_go (fun t k => XS.pop X89z.here hx rfl (hb hby d_prog_14_method_2_code_56) rfl rfl k) ?_
  refine own_go (fun t k => XS.goto X89z.here hx rfl (pc0 := 57) (pc' := 28) rfl (hb hby d_prog_14_method_2_code_57) (by decide) (by decide) k) ?_
  show own_G p e below (T89z.setTop (mkF m 28 #[.val (.ref a), .val (.ref b4z), .val (.ref b_11z), .val (.ref x3)] [])) _
  refine own_go (fun t k => XS.aloadN X89z.here hx rfl (hb hby d_prog_14_method_2_code_28) rfl rfl k) ?_
  have f91z := ((r79z_1.ext E81z).keep K89zq (by simp only [List.mem_cons, List.not_mem_nil, or_false, not_or]; exact ⟨(Ne.symm ne_b4z_b_11z), (Ne.symm ne_arr_7z_b_11z)⟩))
  have f92z := ((r79z_2.ext E81z).keep K89zq (by simp only [List.mem_cons, List.not_mem_nil, or_false, not_or]; exact ⟨(Ne.symm ne_b4z_b_11z), (Ne.symm ne_arr_7z_b_11z)⟩))
  have f93z := (((f72z.keep K79zq (by simp only [List.mem_cons, List.not_mem_nil, or_false, not_or]; exact ne_a_b_11z)).ext E81z).keep K89zq (by simp only [List.mem_cons, List.not_mem_nil, or_false, not_or]; exact ⟨ne_a_b4z, ne_a_arr_7z⟩))
  obtain ⟨cq94z, kq94z, qa94z, qb94z, qc94z⟩ := isOf hZ81z (rfl : T89z.heap = _) ((r79z_0.ext E81z).keep K89zq)
  obtain ⟨_, _, ⟨T94z, L94z, k94z, n94z⟩, -, X94z, ⟨Lc94z, hQ94z, l94z, y94z, z94z⟩, st94z⟩ := X89z.interfaceBack hx (xi := own_m23) (y := own_m16) hown81z (mvT hZ81z (own_hw hw 90 rfl)) (mvT hZ81z (own_hw hw 91 rfl)) (mvT hZ81z (own_hw hw 92 rfl)) (mvT hZ81z (own_hw hw 93 rfl)) (mvT hZ81z (own_hw hw 94 rfl)) (mvT hZ81z (own_hw hw 95 rfl)) (mvT hZ81z (own_hw hw 96 rfl)) (mvT hZ81z (own_hw hw 97 rfl)) (by decide) (backOf (W := 0) (own_hn0 l Z a0 hw [] b_11z a (4 : Int32) (4 : Int32) T89z.heap O90z f91z f92z f93z (by decide)) hZ81z (own_hw hw 98 rfl) (own_hw hw 76 rfl) (by decide) (by decide)) qa94z qb94z qc94z (g := (mkF m 29 #[.val (.ref a), .val (.ref b4z), .val (.ref b_11z), .val (.ref x3)] [(.ref b_11z)])) rfl (by rw [hml]; rfl) (Steps.refl _) (argsL := []) (rest := []) (lenOf pd_193422000 rfl) rfl (by show 2 * 0 + _ ≤ _; exact Nat.le_of_eq rfl) (hb hby d_prog_14_method_2_code_29) (fun _ _ => ⟨rfl, rfl, (by decide : 13 + 0 ≤ _), (by decide : 399 + 0 ≤ _)⟩)
  dsimp only [Pt.U, Pt.locs, Pt.cells, Pt.slots] at X94z l94z y94z z94z st94z hQ94z
  subst l94z y94z z94z
  obtain ⟨rfl, NQ94z, K94zq⟩ := hQ94z
  refine own_tr st94z ?_
  have N94z := Fr.app N89z NQ94z
  show own_G p e below (T94z.setTop (mkF m 34 #[.val (.ref a), .val (.ref b4z), .val (.ref b_11z), .val (.ref x3)] [(.int (0 : Int32))])) _
  refine own_go (fun t k => XS.ifYes X94z.here hx rfl (pc0 := 34) (pc' := 60) rfl (hb hby d_prog_14_method_2_code_34) rfl ((if0 _ _).trans (teq (by decide : (0 : Int32) = (0 : Int32))).1) (by decide) (by decide) k) ?_
  show own_G p e below (T94z.setTop (mkF m 60 #[.val (.ref a), .val (.ref b4z), .val (.ref b_11z), .val (.ref x3)] [])) _
  refine own_go (fun t k => XS.aloadN X94z.here hx rfl (hb hby d_prog_14_method_2_code_60) rfl rfl k) ?_
  exact own_retW X94z Si81z (by rw [K94zq]; exact Sn90z) hx Bd.returns rfl (Or.inr (Or.inr (Or.inr (Or.inr ⟨rfl, rfl, rfl⟩)))) (hb hby d_prog_14_method_2_code_61) hlk (Nat.le_of_ble_eq_true rfl) (Nat.le_of_ble_eq_true rfl) (by show Q_own_copy4 Z a mc x0 x1 x2 x3 arr kk h0 _ T94z.heap _; rw [K94zq]; exact ⟨b4z, arr_7z, kk_7z, rfl, N94z, K90z, r89z_0, lz_b4z, r89z_1, r89z_2, r89z_3, r89z_4, lz_arr_7z⟩)
theorem ef_own_at0_0 (m : MethodId) (x0 : Addr) (x1 : Int32) (x2 : Addr) (x3 : Int32) : entryFrame m #[(.ref x0), (.int x1), (.ref x2), (.int x3)] 4 = mkF m 0 #[.val (.ref x0), .val (.int x1), .val (.ref x2), .val (.int x3)] [] := by first | (simp [entryFrame, mkF, argsToLocals, Value.category]; done) | rfl
theorem pf_own_at0_0 : plainFor own_m26 = true := plainFor_of_name (by simp [plainName, overriddenIn])
theorem d_method_2_code_0 : decode method_2_code 0 = .ok (.iload_n 1, 1) := by decide +kernel
theorem d_method_2_code_1 : decode method_2_code 1 = .ok (.iload_n 3, 1) := by decide +kernel
theorem d_method_2_code_16 : decode method_2_code 16 = .ok (.iconst 1, 1) := by decide +kernel
theorem d_method_2_code_17 : decode method_2_code 17 = .ok (.goto 4, 3) := by decide +kernel
theorem d_method_2_code_2 : decode method_2_code 2 = .ok (.if_icmp .ge 14, 3) := by decide +kernel
theorem d_method_2_code_21 : decode method_2_code 21 = .ok (.ireturn, 1) := by decide +kernel
def Q_own_at0_0 (Z : State) (a : Addr) (x : Addr) (h0 : Heap) (v : Option Value) (h : Heap) (L : List Loc) : Prop := v = some (.int (1 : Int32)) ∧ Fr Z.heap.size L ∧ h = h0
set_option maxRecDepth 65536 in
set_option maxHeartbeats 40000000 in
theorem own_at0_0 (l : Launch) (Z : State) (a0 : Array Value) (hw : ∀ d ∈ tables_1, d.before a0 Z = true) (ws : List Jvm.Cond) (a : Addr) (x : Addr) (h0 : Heap) (O0 : Ext Z.heap h0) :
    MetFree l own_m26 (head1 (Jvm.Cond.code own_m26 method_2_code 4 (some .boolean) :: ws) ({ frames := 0, cells := 0, slots := 0, locals := 0 } : Room)) (fun aa U => aa = #[(.ref a), (.int (0 : Int32)), (.ref x), (.int (0 : Int32))] ∧ Z.Warmed39 U.vm ∧ U.heap = h0) (fun _ _ _ _ _ => True) (fun _ U o U' => ∃ v L, o = .returned v ∧ Q_own_at0_0 Z a x h0 v U'.heap L ∧ FrameEnd U o U' L ({ frames := 0, cells := 0, slots := 0, locals := 0 } : Room).cells ({ frames := 0, cells := 0, slots := 0, locals := 0 } : Room).slots) := by
  refine MetFree.of_bodySF pf_own_at0_0 hisR ?_
  intro p e s m args below meth c s₁ Bd hml0 hP hK
  obtain ⟨rfl, hZ, hh⟩ := hP
  have hx := Bd.exec
  have hby := Bd.bytes
  have hlk := BodyLoose.notSynchronized Bd
  have hml : c.maxLocals = 4 := hml0
  have hown : s.vm.findClass "com/example/etapa/etapa/mongodb/EntityBatchCopyOfPinLaw" = some m.cls := findClass_of_methodNamed Bd.named
  have hnm := (name_of_methodNamed Bd.named Bd.method).1
  have X0 : Stand p l e ({ frames := 0, cells := 0, slots := 0, locals := 0 } : Room) s m #[(.ref a), (.int (0 : Int32)), (.ref x), (.int (0 : Int32))] below meth c s₁ [] 0 0 := Stand.of_body Bd
  have e0 : s₁.heap = h0 := by rw [← hh, Bd.state]; rfl
  have N0 := Fr.nil Z.heap.size
  have K0 : Keep h0 h0 [] := Keep.refl _ _
  refine own_start (Q := Q_own_at0_0 Z a x h0) (ef_own_at0_0 m (a) ((0 : Int32)) (x) ((0 : Int32))) ?_
  show own_G p e below (s₁.setTop (mkF m 0 #[.val (.ref a), .val (.int (0 : Int32)), .val (.ref x), .val (.int (0 : Int32))] [])) _
  refine own_go (fun t k => XS.iloadN X0.here hx rfl (hb hby d_method_2_code_0) rfl k) ?_
  refine own_go (fun t k => XS.iloadN X0.here hx rfl (hb hby d_method_2_code_1) rfl k) ?_
  refine own_go (fun t k => XS.icmpYes X0.here hx rfl (pc0 := 2) (pc' := 16) rfl (hb hby d_method_2_code_2) rfl (flt (by decide : ¬ ((0 : Int32) < (0 : Int32)))).2.1 (by decide) (by decide) k) ?_
  show own_G p e below (s₁.setTop (mkF m 16 #[.val (.ref a), .val (.int (0 : Int32)), .val (.ref x), .val (.int (0 : Int32))] [])) _
  refine own_go (fun t k => XS.iconst X0.here hx rfl (hb hby d_method_2_code_16) k) ?_
  refine own_go (fun t k => XS.goto X0.here hx rfl (pc0 := 17) (pc' := 21) rfl (hb hby d_method_2_code_17) (by decide) (by decide) k) ?_
  show own_G p e below (s₁.setTop (mkF m 21 #[.val (.ref a), .val (.int (0 : Int32)), .val (.ref x), .val (.int (0 : Int32))] [(.int (1 : Int32))])) _
  exact own_ret X0 hx Bd.returns rfl (Or.inl ⟨rfl, Or.inr (Or.inl rfl), _, rfl⟩) (hb hby d_method_2_code_21) hlk (Nat.le_of_ble_eq_true rfl) (Nat.le_of_ble_eq_true rfl) (by show Q_own_at0_0 Z a x h0 _ s₁.heap _; rw [e0]; exact ⟨rfl, N0, rfl⟩)
theorem ef_own_at0_1 (m : MethodId) (x0 : Addr) (x1 : Int32) (x2 : Addr) (x3 : Int32) : entryFrame m #[(.ref x0), (.int x1), (.ref x2), (.int x3)] 4 = mkF m 0 #[.val (.ref x0), .val (.int x1), .val (.ref x2), .val (.int x3)] [] := by first | (simp [entryFrame, mkF, argsToLocals, Value.category]; done) | rfl
theorem pf_own_at0_1 : plainFor own_m26 = true := plainFor_of_name (by simp [plainName, overriddenIn])
def Q_own_at0_1 (Z : State) (a : Addr) (x : Addr) (h0 : Heap) (v : Option Value) (h : Heap) (L : List Loc) : Prop := v = some (.int (1 : Int32)) ∧ Fr Z.heap.size L ∧ h = h0
set_option maxRecDepth 65536 in
set_option maxHeartbeats 40000000 in
theorem own_at0_1 (l : Launch) (Z : State) (a0 : Array Value) (hw : ∀ d ∈ tables_1, d.before a0 Z = true) (ws : List Jvm.Cond) (a : Addr) (x : Addr) (h0 : Heap) (O0 : Ext Z.heap h0) :
    MetFree l own_m26 (head1 (Jvm.Cond.code own_m26 method_2_code 4 (some .boolean) :: ws) ({ frames := 0, cells := 0, slots := 0, locals := 0 } : Room)) (fun aa U => aa = #[(.ref a), (.int (1 : Int32)), (.ref x), (.int (0 : Int32))] ∧ Z.Warmed39 U.vm ∧ U.heap = h0) (fun _ _ _ _ _ => True) (fun _ U o U' => ∃ v L, o = .returned v ∧ Q_own_at0_1 Z a x h0 v U'.heap L ∧ FrameEnd U o U' L ({ frames := 0, cells := 0, slots := 0, locals := 0 } : Room).cells ({ frames := 0, cells := 0, slots := 0, locals := 0 } : Room).slots) := by
  refine MetFree.of_bodySF pf_own_at0_1 hisR ?_
  intro p e s m args below meth c s₁ Bd hml0 hP hK
  obtain ⟨rfl, hZ, hh⟩ := hP
  have hx := Bd.exec
  have hby := Bd.bytes
  have hlk := BodyLoose.notSynchronized Bd
  have hml : c.maxLocals = 4 := hml0
  have hown : s.vm.findClass "com/example/etapa/etapa/mongodb/EntityBatchCopyOfPinLaw" = some m.cls := findClass_of_methodNamed Bd.named
  have hnm := (name_of_methodNamed Bd.named Bd.method).1
  have X0 : Stand p l e ({ frames := 0, cells := 0, slots := 0, locals := 0 } : Room) s m #[(.ref a), (.int (1 : Int32)), (.ref x), (.int (0 : Int32))] below meth c s₁ [] 0 0 := Stand.of_body Bd
  have e0 : s₁.heap = h0 := by rw [← hh, Bd.state]; rfl
  have N0 := Fr.nil Z.heap.size
  have K0 : Keep h0 h0 [] := Keep.refl _ _
  refine own_start (Q := Q_own_at0_1 Z a x h0) (ef_own_at0_1 m (a) ((1 : Int32)) (x) ((0 : Int32))) ?_
  show own_G p e below (s₁.setTop (mkF m 0 #[.val (.ref a), .val (.int (1 : Int32)), .val (.ref x), .val (.int (0 : Int32))] [])) _
  refine own_go (fun t k => XS.iloadN X0.here hx rfl (hb hby d_method_2_code_0) rfl k) ?_
  refine own_go (fun t k => XS.iloadN X0.here hx rfl (hb hby d_method_2_code_1) rfl k) ?_
  refine own_go (fun t k => XS.icmpYes X0.here hx rfl (pc0 := 2) (pc' := 16) rfl (hb hby d_method_2_code_2) rfl (flt (by decide : ¬ ((1 : Int32) < (0 : Int32)))).2.1 (by decide) (by decide) k) ?_
  show own_G p e below (s₁.setTop (mkF m 16 #[.val (.ref a), .val (.int (1 : Int32)), .val (.ref x), .val (.int (0 : Int32))] [])) _
  refine own_go (fun t k => XS.iconst X0.here hx rfl (hb hby d_method_2_code_16) k) ?_
  refine own_go (fun t k => XS.goto X0.here hx rfl (pc0 := 17) (pc' := 21) rfl (hb hby d_method_2_code_17) (by decide) (by decide) k) ?_
  show own_G p e below (s₁.setTop (mkF m 21 #[.val (.ref a), .val (.int (1 : Int32)), .val (.ref x), .val (.int (0 : Int32))] [(.int (1 : Int32))])) _
  exact own_ret X0 hx Bd.returns rfl (Or.inl ⟨rfl, Or.inr (Or.inl rfl), _, rfl⟩) (hb hby d_method_2_code_21) hlk (Nat.le_of_ble_eq_true rfl) (Nat.le_of_ble_eq_true rfl) (by show Q_own_at0_1 Z a x h0 _ s₁.heap _; rw [e0]; exact ⟨rfl, N0, rfl⟩)
theorem ef_own_at0_2 (m : MethodId) (x0 : Addr) (x1 : Int32) (x2 : Addr) (x3 : Int32) : entryFrame m #[(.ref x0), (.int x1), (.ref x2), (.int x3)] 4 = mkF m 0 #[.val (.ref x0), .val (.int x1), .val (.ref x2), .val (.int x3)] [] := by first | (simp [entryFrame, mkF, argsToLocals, Value.category]; done) | rfl
theorem pf_own_at0_2 : plainFor own_m26 = true := plainFor_of_name (by simp [plainName, overriddenIn])
def Q_own_at0_2 (Z : State) (a : Addr) (x : Addr) (h0 : Heap) (v : Option Value) (h : Heap) (L : List Loc) : Prop := v = some (.int (1 : Int32)) ∧ Fr Z.heap.size L ∧ h = h0
set_option maxRecDepth 65536 in
set_option maxHeartbeats 40000000 in
theorem own_at0_2 (l : Launch) (Z : State) (a0 : Array Value) (hw : ∀ d ∈ tables_1, d.before a0 Z = true) (ws : List Jvm.Cond) (a : Addr) (x : Addr) (h0 : Heap) (O0 : Ext Z.heap h0) :
    MetFree l own_m26 (head1 (Jvm.Cond.code own_m26 method_2_code 4 (some .boolean) :: ws) ({ frames := 0, cells := 0, slots := 0, locals := 0 } : Room)) (fun aa U => aa = #[(.ref a), (.int (2 : Int32)), (.ref x), (.int (0 : Int32))] ∧ Z.Warmed39 U.vm ∧ U.heap = h0) (fun _ _ _ _ _ => True) (fun _ U o U' => ∃ v L, o = .returned v ∧ Q_own_at0_2 Z a x h0 v U'.heap L ∧ FrameEnd U o U' L ({ frames := 0, cells := 0, slots := 0, locals := 0 } : Room).cells ({ frames := 0, cells := 0, slots := 0, locals := 0 } : Room).slots) := by
  refine MetFree.of_bodySF pf_own_at0_2 hisR ?_
  intro p e s m args below meth c s₁ Bd hml0 hP hK
  obtain ⟨rfl, hZ, hh⟩ := hP
  have hx := Bd.exec
  have hby := Bd.bytes
  have hlk := BodyLoose.notSynchronized Bd
  have hml : c.maxLocals = 4 := hml0
  have hown : s.vm.findClass "com/example/etapa/etapa/mongodb/EntityBatchCopyOfPinLaw" = some m.cls := findClass_of_methodNamed Bd.named
  have hnm := (name_of_methodNamed Bd.named Bd.method).1
  have X0 : Stand p l e ({ frames := 0, cells := 0, slots := 0, locals := 0 } : Room) s m #[(.ref a), (.int (2 : Int32)), (.ref x), (.int (0 : Int32))] below meth c s₁ [] 0 0 := Stand.of_body Bd
  have e0 : s₁.heap = h0 := by rw [← hh, Bd.state]; rfl
  have N0 := Fr.nil Z.heap.size
  have K0 : Keep h0 h0 [] := Keep.refl _ _
  refine own_start (Q := Q_own_at0_2 Z a x h0) (ef_own_at0_2 m (a) ((2 : Int32)) (x) ((0 : Int32))) ?_
  show own_G p e below (s₁.setTop (mkF m 0 #[.val (.ref a), .val (.int (2 : Int32)), .val (.ref x), .val (.int (0 : Int32))] [])) _
  refine own_go (fun t k => XS.iloadN X0.here hx rfl (hb hby d_method_2_code_0) rfl k) ?_
  refine own_go (fun t k => XS.iloadN X0.here hx rfl (hb hby d_method_2_code_1) rfl k) ?_
  refine own_go (fun t k => XS.icmpYes X0.here hx rfl (pc0 := 2) (pc' := 16) rfl (hb hby d_method_2_code_2) rfl (flt (by decide : ¬ ((2 : Int32) < (0 : Int32)))).2.1 (by decide) (by decide) k) ?_
  show own_G p e below (s₁.setTop (mkF m 16 #[.val (.ref a), .val (.int (2 : Int32)), .val (.ref x), .val (.int (0 : Int32))] [])) _
  refine own_go (fun t k => XS.iconst X0.here hx rfl (hb hby d_method_2_code_16) k) ?_
  refine own_go (fun t k => XS.goto X0.here hx rfl (pc0 := 17) (pc' := 21) rfl (hb hby d_method_2_code_17) (by decide) (by decide) k) ?_
  show own_G p e below (s₁.setTop (mkF m 21 #[.val (.ref a), .val (.int (2 : Int32)), .val (.ref x), .val (.int (0 : Int32))] [(.int (1 : Int32))])) _
  exact own_ret X0 hx Bd.returns rfl (Or.inl ⟨rfl, Or.inr (Or.inl rfl), _, rfl⟩) (hb hby d_method_2_code_21) hlk (Nat.le_of_ble_eq_true rfl) (Nat.le_of_ble_eq_true rfl) (by show Q_own_at0_2 Z a x h0 _ s₁.heap _; rw [e0]; exact ⟨rfl, N0, rfl⟩)
theorem ef_own_at0_3 (m : MethodId) (x0 : Addr) (x1 : Int32) (x2 : Addr) (x3 : Int32) : entryFrame m #[(.ref x0), (.int x1), (.ref x2), (.int x3)] 4 = mkF m 0 #[.val (.ref x0), .val (.int x1), .val (.ref x2), .val (.int x3)] [] := by first | (simp [entryFrame, mkF, argsToLocals, Value.category]; done) | rfl
theorem pf_own_at0_3 : plainFor own_m26 = true := plainFor_of_name (by simp [plainName, overriddenIn])
def Q_own_at0_3 (Z : State) (a : Addr) (x : Addr) (h0 : Heap) (v : Option Value) (h : Heap) (L : List Loc) : Prop := v = some (.int (1 : Int32)) ∧ Fr Z.heap.size L ∧ h = h0
set_option maxRecDepth 65536 in
set_option maxHeartbeats 40000000 in
theorem own_at0_3 (l : Launch) (Z : State) (a0 : Array Value) (hw : ∀ d ∈ tables_1, d.before a0 Z = true) (ws : List Jvm.Cond) (a : Addr) (x : Addr) (h0 : Heap) (O0 : Ext Z.heap h0) :
    MetFree l own_m26 (head1 (Jvm.Cond.code own_m26 method_2_code 4 (some .boolean) :: ws) ({ frames := 0, cells := 0, slots := 0, locals := 0 } : Room)) (fun aa U => aa = #[(.ref a), (.int (3 : Int32)), (.ref x), (.int (0 : Int32))] ∧ Z.Warmed39 U.vm ∧ U.heap = h0) (fun _ _ _ _ _ => True) (fun _ U o U' => ∃ v L, o = .returned v ∧ Q_own_at0_3 Z a x h0 v U'.heap L ∧ FrameEnd U o U' L ({ frames := 0, cells := 0, slots := 0, locals := 0 } : Room).cells ({ frames := 0, cells := 0, slots := 0, locals := 0 } : Room).slots) := by
  refine MetFree.of_bodySF pf_own_at0_3 hisR ?_
  intro p e s m args below meth c s₁ Bd hml0 hP hK
  obtain ⟨rfl, hZ, hh⟩ := hP
  have hx := Bd.exec
  have hby := Bd.bytes
  have hlk := BodyLoose.notSynchronized Bd
  have hml : c.maxLocals = 4 := hml0
  have hown : s.vm.findClass "com/example/etapa/etapa/mongodb/EntityBatchCopyOfPinLaw" = some m.cls := findClass_of_methodNamed Bd.named
  have hnm := (name_of_methodNamed Bd.named Bd.method).1
  have X0 : Stand p l e ({ frames := 0, cells := 0, slots := 0, locals := 0 } : Room) s m #[(.ref a), (.int (3 : Int32)), (.ref x), (.int (0 : Int32))] below meth c s₁ [] 0 0 := Stand.of_body Bd
  have e0 : s₁.heap = h0 := by rw [← hh, Bd.state]; rfl
  have N0 := Fr.nil Z.heap.size
  have K0 : Keep h0 h0 [] := Keep.refl _ _
  refine own_start (Q := Q_own_at0_3 Z a x h0) (ef_own_at0_3 m (a) ((3 : Int32)) (x) ((0 : Int32))) ?_
  show own_G p e below (s₁.setTop (mkF m 0 #[.val (.ref a), .val (.int (3 : Int32)), .val (.ref x), .val (.int (0 : Int32))] [])) _
  refine own_go (fun t k => XS.iloadN X0.here hx rfl (hb hby d_method_2_code_0) rfl k) ?_
  refine own_go (fun t k => XS.iloadN X0.here hx rfl (hb hby d_method_2_code_1) rfl k) ?_
  refine own_go (fun t k => XS.icmpYes X0.here hx rfl (pc0 := 2) (pc' := 16) rfl (hb hby d_method_2_code_2) rfl (flt (by decide : ¬ ((3 : Int32) < (0 : Int32)))).2.1 (by decide) (by decide) k) ?_
  show own_G p e below (s₁.setTop (mkF m 16 #[.val (.ref a), .val (.int (3 : Int32)), .val (.ref x), .val (.int (0 : Int32))] [])) _
  refine own_go (fun t k => XS.iconst X0.here hx rfl (hb hby d_method_2_code_16) k) ?_
  refine own_go (fun t k => XS.goto X0.here hx rfl (pc0 := 17) (pc' := 21) rfl (hb hby d_method_2_code_17) (by decide) (by decide) k) ?_
  show own_G p e below (s₁.setTop (mkF m 21 #[.val (.ref a), .val (.int (3 : Int32)), .val (.ref x), .val (.int (0 : Int32))] [(.int (1 : Int32))])) _
  exact own_ret X0 hx Bd.returns rfl (Or.inl ⟨rfl, Or.inr (Or.inl rfl), _, rfl⟩) (hb hby d_method_2_code_21) hlk (Nat.le_of_ble_eq_true rfl) (Nat.le_of_ble_eq_true rfl) (by show Q_own_at0_3 Z a x h0 _ s₁.heap _; rw [e0]; exact ⟨rfl, N0, rfl⟩)
theorem ef_own_at1_0 (m : MethodId) (x0 : Addr) (x1 : Int32) (x2 : Addr) (x3 : Int32) : entryFrame m #[(.ref x0), (.int x1), (.ref x2), (.int x3)] 4 = mkF m 0 #[.val (.ref x0), .val (.int x1), .val (.ref x2), .val (.int x3)] [] := by first | (simp [entryFrame, mkF, argsToLocals, Value.category]; done) | rfl
theorem pf_own_at1_0 : plainFor own_m26 = true := plainFor_of_name (by simp [plainName, overriddenIn])
theorem d_method_2_code_12 : decode method_2_code 12 = .ok (.aload_n 2, 1) := by decide +kernel
theorem d_method_2_code_13 : decode method_2_code 13 = .ok (.if_acmp .ne 7, 3) := by decide +kernel
theorem d_method_2_code_5 : decode method_2_code 5 = .ok (.aload_n 0, 1) := by decide +kernel
theorem d_method_2_code_6 : decode method_2_code 6 = .ok (.iload_n 1, 1) := by decide +kernel
theorem d_method_2_code_7 : decode method_2_code 7 = .ok (.invokeinterface 7 2, 5) := by decide +kernel
def Q_own_at1_0 (Z : State) (a : Addr) (x : Addr) (arr : Addr) (kk : ClassId) (vs : (List Value)) (h0 : Heap) (v : Option Value) (h : Heap) (L : List Loc) : Prop := v = some (.int (1 : Int32)) ∧ Fr Z.heap.size L ∧ h = h0
set_option maxRecDepth 65536 in
set_option maxHeartbeats 40000000 in
theorem own_at1_0 (l : Launch) (Z : State) (a0 : Array Value) (hw : ∀ d ∈ tables_1, d.before a0 Z = true) (ws : List Jvm.Cond) (a : Addr) (x : Addr) (arr : Addr) (kk : ClassId) (vs : (List Value)) (h0 : Heap) (O0 : Ext Z.heap h0) (q0 : Exa Z h0 a "java/util/ArrayList") (q1 : Fld Z h0 a "java/util/ArrayList" "elementData" "[Ljava/lang/Object;" (.ref arr)) (q2 : own_A Z h0 arr kk (.object "java/lang/Object") vs) (q3 : Fld Z h0 a "java/util/ArrayList" "size" "I" (.int (1 : Int32))) (hv : vs[0]? = some (.ref x)) :
    MetFree l own_m26 (head1 (Jvm.Cond.code own_m26 method_2_code 4 (some .boolean) :: ws) ({ frames := 3, cells := 0, slots := 0, locals := 50 } : Room)) (fun aa U => aa = #[(.ref a), (.int (0 : Int32)), (.ref x), (.int (1 : Int32))] ∧ Z.Warmed39 U.vm ∧ U.heap = h0) (fun _ _ _ _ _ => True) (fun _ U o U' => ∃ v L, o = .returned v ∧ Q_own_at1_0 Z a x arr kk vs h0 v U'.heap L ∧ FrameEnd U o U' L ({ frames := 3, cells := 0, slots := 0, locals := 50 } : Room).cells ({ frames := 3, cells := 0, slots := 0, locals := 50 } : Room).slots) := by
  refine MetFree.of_bodySF pf_own_at1_0 hisR ?_
  intro p e s m args below meth c s₁ Bd hml0 hP hK
  obtain ⟨rfl, hZ, hh⟩ := hP
  have hx := Bd.exec
  have hby := Bd.bytes
  have hlk := BodyLoose.notSynchronized Bd
  have hml : c.maxLocals = 4 := hml0
  have hown : s.vm.findClass "com/example/etapa/etapa/mongodb/EntityBatchCopyOfPinLaw" = some m.cls := findClass_of_methodNamed Bd.named
  have hnm := (name_of_methodNamed Bd.named Bd.method).1
  have X0 : Stand p l e ({ frames := 3, cells := 0, slots := 0, locals := 50 } : Room) s m #[(.ref a), (.int (0 : Int32)), (.ref x), (.int (1 : Int32))] below meth c s₁ [] 0 0 := Stand.of_body Bd
  have e0 : s₁.heap = h0 := by rw [← hh, Bd.state]; rfl
  have N0 := Fr.nil Z.heap.size
  have K0 : Keep h0 h0 [] := Keep.refl _ _
  refine own_start (Q := Q_own_at1_0 Z a x arr kk vs h0) (ef_own_at1_0 m (a) ((0 : Int32)) (x) ((1 : Int32))) ?_
  show own_G p e below (s₁.setTop (mkF m 0 #[.val (.ref a), .val (.int (0 : Int32)), .val (.ref x), .val (.int (1 : Int32))] [])) _
  refine own_go (fun t k => XS.iloadN X0.here hx rfl (hb hby d_method_2_code_0) rfl k) ?_
  refine own_go (fun t k => XS.iloadN X0.here hx rfl (hb hby d_method_2_code_1) rfl k) ?_
  refine own_go (fun t k => XS.icmpNo X0.here hx rfl (hb hby d_method_2_code_2) rfl (tlt (by decide : (0 : Int32) < (1 : Int32))).2.1 k) ?_
  show own_G p e below (s₁.setTop (mkF m 5 #[.val (.ref a), .val (.int (0 : Int32)), .val (.ref x), .val (.int (1 : Int32))] [])) _
  refine own_go (fun t k => XS.aloadN X0.here hx rfl (hb hby d_method_2_code_5) rfl rfl k) ?_
  refine own_go (fun t k => XS.iloadN X0.here hx rfl (hb hby d_method_2_code_6) rfl k) ?_
  obtain ⟨cq1z, kq1z, qa1z, qb1z, qc1z⟩ := isOf hZ e0 q0
  obtain ⟨_, _, ⟨T1z, L1z, k1z, n1z⟩, -, X1z, ⟨Lc1z, hQ1z, l1z, y1z, z1z⟩, st1z⟩ := X0.interfaceBack hx (xi := own_m27) (y := own_m13) hown (mvT hZ (own_hw hw 160 rfl)) (mvT hZ (own_hw hw 161 rfl)) (mvT hZ (own_hw hw 162 rfl)) (mvT hZ (own_hw hw 163 rfl)) (mvT hZ (own_hw hw 164 rfl)) (mvT hZ (own_hw hw 165 rfl)) (mvT hZ (own_hw hw 166 rfl)) (mvT hZ (own_hw hw 106 rfl)) (by decide) (backOf (W := 0) (own_get l Z a0 hw [] a (0 : Int32) arr kk vs 0 x (1 : Int32) h0 O0 q0 q1 q2 (by decide) hv q3 (by decide) (by decide)) hZ (own_hw hw 167 rfl) (own_hw hw 10 rfl) (by decide) (by decide)) qa1z qb1z qc1z (g := (mkF m 7 #[.val (.ref a), .val (.int (0 : Int32)), .val (.ref x), .val (.int (1 : Int32))] [(.int (0 : Int32)), (.ref a)])) rfl (by rw [hml]; rfl) (Steps.refl _) (argsL := [(.int (0 : Int32))]) (rest := []) (lenOf pd_3495176479 rfl) rfl (by show 2 * 0 + _ ≤ _; exact Nat.le_of_eq rfl) (hb hby d_method_2_code_7) (fun _ _ => ⟨rfl, e0, (by decide : 0 + 0 ≤ _), (by decide : 0 + 0 ≤ _)⟩)
  dsimp only [Pt.U, Pt.locs, Pt.cells, Pt.slots] at X1z l1z y1z z1z st1z hQ1z
  subst l1z y1z z1z
  obtain ⟨rfl, NQ1z, K1zq⟩ := hQ1z
  refine own_tr st1z ?_
  have N1z := Fr.app N0 NQ1z
  show own_G p e below (T1z.setTop (mkF m 12 #[.val (.ref a), .val (.int (0 : Int32)), .val (.ref x), .val (.int (1 : Int32))] [(.ref x)])) _
  refine own_go (fun t k => XS.aloadN X1z.here hx rfl (hb hby d_method_2_code_12) rfl rfl k) ?_
  refine own_go (fun t k => Jvm.RoadKit.acmp (g := (mkF m 13 #[.val (.ref a), .val (.int (0 : Int32)), .val (.ref x), .val (.int (1 : Int32))] [(.ref x), (.ref x)])) X1z hx rfl rfl rfl (pc0 := 13) (pc' := 16) (same := true) rfl (hb hby d_method_2_code_13) rfl (decide_eq_true (congrArg Value.ref rfl)) (by decide) (by decide) k) ?_
  show own_G p e below (T1z.setTop (mkF m 16 #[.val (.ref a), .val (.int (0 : Int32)), .val (.ref x), .val (.int (1 : Int32))] [])) _
  refine own_go (fun t k => XS.iconst X1z.here hx rfl (hb hby d_method_2_code_16) k) ?_
  refine own_go (fun t k => XS.goto X1z.here hx rfl (pc0 := 17) (pc' := 21) rfl (hb hby d_method_2_code_17) (by decide) (by decide) k) ?_
  show own_G p e below (T1z.setTop (mkF m 21 #[.val (.ref a), .val (.int (0 : Int32)), .val (.ref x), .val (.int (1 : Int32))] [(.int (1 : Int32))])) _
  exact own_ret X1z hx Bd.returns rfl (Or.inl ⟨rfl, Or.inr (Or.inl rfl), _, rfl⟩) (hb hby d_method_2_code_21) hlk (Nat.le_of_ble_eq_true rfl) (Nat.le_of_ble_eq_true rfl) (by show Q_own_at1_0 Z a x arr kk vs h0 _ T1z.heap _; rw [K1zq]; exact ⟨rfl, N1z, rfl⟩)
theorem ef_own_at1_1 (m : MethodId) (x0 : Addr) (x1 : Int32) (x2 : Addr) (x3 : Int32) : entryFrame m #[(.ref x0), (.int x1), (.ref x2), (.int x3)] 4 = mkF m 0 #[.val (.ref x0), .val (.int x1), .val (.ref x2), .val (.int x3)] [] := by first | (simp [entryFrame, mkF, argsToLocals, Value.category]; done) | rfl
theorem pf_own_at1_1 : plainFor own_m26 = true := plainFor_of_name (by simp [plainName, overriddenIn])
def Q_own_at1_1 (Z : State) (a : Addr) (x : Addr) (h0 : Heap) (v : Option Value) (h : Heap) (L : List Loc) : Prop := v = some (.int (1 : Int32)) ∧ Fr Z.heap.size L ∧ h = h0
set_option maxRecDepth 65536 in
set_option maxHeartbeats 40000000 in
theorem own_at1_1 (l : Launch) (Z : State) (a0 : Array Value) (hw : ∀ d ∈ tables_1, d.before a0 Z = true) (ws : List Jvm.Cond) (a : Addr) (x : Addr) (h0 : Heap) (O0 : Ext Z.heap h0) :
    MetFree l own_m26 (head1 (Jvm.Cond.code own_m26 method_2_code 4 (some .boolean) :: ws) ({ frames := 0, cells := 0, slots := 0, locals := 0 } : Room)) (fun aa U => aa = #[(.ref a), (.int (1 : Int32)), (.ref x), (.int (1 : Int32))] ∧ Z.Warmed39 U.vm ∧ U.heap = h0) (fun _ _ _ _ _ => True) (fun _ U o U' => ∃ v L, o = .returned v ∧ Q_own_at1_1 Z a x h0 v U'.heap L ∧ FrameEnd U o U' L ({ frames := 0, cells := 0, slots := 0, locals := 0 } : Room).cells ({ frames := 0, cells := 0, slots := 0, locals := 0 } : Room).slots) := by
  refine MetFree.of_bodySF pf_own_at1_1 hisR ?_
  intro p e s m args below meth c s₁ Bd hml0 hP hK
  obtain ⟨rfl, hZ, hh⟩ := hP
  have hx := Bd.exec
  have hby := Bd.bytes
  have hlk := BodyLoose.notSynchronized Bd
  have hml : c.maxLocals = 4 := hml0
  have hown : s.vm.findClass "com/example/etapa/etapa/mongodb/EntityBatchCopyOfPinLaw" = some m.cls := findClass_of_methodNamed Bd.named
  have hnm := (name_of_methodNamed Bd.named Bd.method).1
  have X0 : Stand p l e ({ frames := 0, cells := 0, slots := 0, locals := 0 } : Room) s m #[(.ref a), (.int (1 : Int32)), (.ref x), (.int (1 : Int32))] below meth c s₁ [] 0 0 := Stand.of_body Bd
  have e0 : s₁.heap = h0 := by rw [← hh, Bd.state]; rfl
  have N0 := Fr.nil Z.heap.size
  have K0 : Keep h0 h0 [] := Keep.refl _ _
  refine own_start (Q := Q_own_at1_1 Z a x h0) (ef_own_at1_1 m (a) ((1 : Int32)) (x) ((1 : Int32))) ?_
  show own_G p e below (s₁.setTop (mkF m 0 #[.val (.ref a), .val (.int (1 : Int32)), .val (.ref x), .val (.int (1 : Int32))] [])) _
  refine own_go (fun t k => XS.iloadN X0.here hx rfl (hb hby d_method_2_code_0) rfl k) ?_
  refine own_go (fun t k => XS.iloadN X0.here hx rfl (hb hby d_method_2_code_1) rfl k) ?_
  refine own_go (fun t k => XS.icmpYes X0.here hx rfl (pc0 := 2) (pc' := 16) rfl (hb hby d_method_2_code_2) rfl (flt (by decide : ¬ ((1 : Int32) < (1 : Int32)))).2.1 (by decide) (by decide) k) ?_
  show own_G p e below (s₁.setTop (mkF m 16 #[.val (.ref a), .val (.int (1 : Int32)), .val (.ref x), .val (.int (1 : Int32))] [])) _
  refine own_go (fun t k => XS.iconst X0.here hx rfl (hb hby d_method_2_code_16) k) ?_
  refine own_go (fun t k => XS.goto X0.here hx rfl (pc0 := 17) (pc' := 21) rfl (hb hby d_method_2_code_17) (by decide) (by decide) k) ?_
  show own_G p e below (s₁.setTop (mkF m 21 #[.val (.ref a), .val (.int (1 : Int32)), .val (.ref x), .val (.int (1 : Int32))] [(.int (1 : Int32))])) _
  exact own_ret X0 hx Bd.returns rfl (Or.inl ⟨rfl, Or.inr (Or.inl rfl), _, rfl⟩) (hb hby d_method_2_code_21) hlk (Nat.le_of_ble_eq_true rfl) (Nat.le_of_ble_eq_true rfl) (by show Q_own_at1_1 Z a x h0 _ s₁.heap _; rw [e0]; exact ⟨rfl, N0, rfl⟩)
theorem ef_own_at1_2 (m : MethodId) (x0 : Addr) (x1 : Int32) (x2 : Addr) (x3 : Int32) : entryFrame m #[(.ref x0), (.int x1), (.ref x2), (.int x3)] 4 = mkF m 0 #[.val (.ref x0), .val (.int x1), .val (.ref x2), .val (.int x3)] [] := by first | (simp [entryFrame, mkF, argsToLocals, Value.category]; done) | rfl
theorem pf_own_at1_2 : plainFor own_m26 = true := plainFor_of_name (by simp [plainName, overriddenIn])
def Q_own_at1_2 (Z : State) (a : Addr) (x : Addr) (h0 : Heap) (v : Option Value) (h : Heap) (L : List Loc) : Prop := v = some (.int (1 : Int32)) ∧ Fr Z.heap.size L ∧ h = h0
set_option maxRecDepth 65536 in
set_option maxHeartbeats 40000000 in
theorem own_at1_2 (l : Launch) (Z : State) (a0 : Array Value) (hw : ∀ d ∈ tables_1, d.before a0 Z = true) (ws : List Jvm.Cond) (a : Addr) (x : Addr) (h0 : Heap) (O0 : Ext Z.heap h0) :
    MetFree l own_m26 (head1 (Jvm.Cond.code own_m26 method_2_code 4 (some .boolean) :: ws) ({ frames := 0, cells := 0, slots := 0, locals := 0 } : Room)) (fun aa U => aa = #[(.ref a), (.int (2 : Int32)), (.ref x), (.int (1 : Int32))] ∧ Z.Warmed39 U.vm ∧ U.heap = h0) (fun _ _ _ _ _ => True) (fun _ U o U' => ∃ v L, o = .returned v ∧ Q_own_at1_2 Z a x h0 v U'.heap L ∧ FrameEnd U o U' L ({ frames := 0, cells := 0, slots := 0, locals := 0 } : Room).cells ({ frames := 0, cells := 0, slots := 0, locals := 0 } : Room).slots) := by
  refine MetFree.of_bodySF pf_own_at1_2 hisR ?_
  intro p e s m args below meth c s₁ Bd hml0 hP hK
  obtain ⟨rfl, hZ, hh⟩ := hP
  have hx := Bd.exec
  have hby := Bd.bytes
  have hlk := BodyLoose.notSynchronized Bd
  have hml : c.maxLocals = 4 := hml0
  have hown : s.vm.findClass "com/example/etapa/etapa/mongodb/EntityBatchCopyOfPinLaw" = some m.cls := findClass_of_methodNamed Bd.named
  have hnm := (name_of_methodNamed Bd.named Bd.method).1
  have X0 : Stand p l e ({ frames := 0, cells := 0, slots := 0, locals := 0 } : Room) s m #[(.ref a), (.int (2 : Int32)), (.ref x), (.int (1 : Int32))] below meth c s₁ [] 0 0 := Stand.of_body Bd
  have e0 : s₁.heap = h0 := by rw [← hh, Bd.state]; rfl
  have N0 := Fr.nil Z.heap.size
  have K0 : Keep h0 h0 [] := Keep.refl _ _
  refine own_start (Q := Q_own_at1_2 Z a x h0) (ef_own_at1_2 m (a) ((2 : Int32)) (x) ((1 : Int32))) ?_
  show own_G p e below (s₁.setTop (mkF m 0 #[.val (.ref a), .val (.int (2 : Int32)), .val (.ref x), .val (.int (1 : Int32))] [])) _
  refine own_go (fun t k => XS.iloadN X0.here hx rfl (hb hby d_method_2_code_0) rfl k) ?_
  refine own_go (fun t k => XS.iloadN X0.here hx rfl (hb hby d_method_2_code_1) rfl k) ?_
  refine own_go (fun t k => XS.icmpYes X0.here hx rfl (pc0 := 2) (pc' := 16) rfl (hb hby d_method_2_code_2) rfl (flt (by decide : ¬ ((2 : Int32) < (1 : Int32)))).2.1 (by decide) (by decide) k) ?_
  show own_G p e below (s₁.setTop (mkF m 16 #[.val (.ref a), .val (.int (2 : Int32)), .val (.ref x), .val (.int (1 : Int32))] [])) _
  refine own_go (fun t k => XS.iconst X0.here hx rfl (hb hby d_method_2_code_16) k) ?_
  refine own_go (fun t k => XS.goto X0.here hx rfl (pc0 := 17) (pc' := 21) rfl (hb hby d_method_2_code_17) (by decide) (by decide) k) ?_
  show own_G p e below (s₁.setTop (mkF m 21 #[.val (.ref a), .val (.int (2 : Int32)), .val (.ref x), .val (.int (1 : Int32))] [(.int (1 : Int32))])) _
  exact own_ret X0 hx Bd.returns rfl (Or.inl ⟨rfl, Or.inr (Or.inl rfl), _, rfl⟩) (hb hby d_method_2_code_21) hlk (Nat.le_of_ble_eq_true rfl) (Nat.le_of_ble_eq_true rfl) (by show Q_own_at1_2 Z a x h0 _ s₁.heap _; rw [e0]; exact ⟨rfl, N0, rfl⟩)
theorem ef_own_at1_3 (m : MethodId) (x0 : Addr) (x1 : Int32) (x2 : Addr) (x3 : Int32) : entryFrame m #[(.ref x0), (.int x1), (.ref x2), (.int x3)] 4 = mkF m 0 #[.val (.ref x0), .val (.int x1), .val (.ref x2), .val (.int x3)] [] := by first | (simp [entryFrame, mkF, argsToLocals, Value.category]; done) | rfl
theorem pf_own_at1_3 : plainFor own_m26 = true := plainFor_of_name (by simp [plainName, overriddenIn])
def Q_own_at1_3 (Z : State) (a : Addr) (x : Addr) (h0 : Heap) (v : Option Value) (h : Heap) (L : List Loc) : Prop := v = some (.int (1 : Int32)) ∧ Fr Z.heap.size L ∧ h = h0
set_option maxRecDepth 65536 in
set_option maxHeartbeats 40000000 in
theorem own_at1_3 (l : Launch) (Z : State) (a0 : Array Value) (hw : ∀ d ∈ tables_1, d.before a0 Z = true) (ws : List Jvm.Cond) (a : Addr) (x : Addr) (h0 : Heap) (O0 : Ext Z.heap h0) :
    MetFree l own_m26 (head1 (Jvm.Cond.code own_m26 method_2_code 4 (some .boolean) :: ws) ({ frames := 0, cells := 0, slots := 0, locals := 0 } : Room)) (fun aa U => aa = #[(.ref a), (.int (3 : Int32)), (.ref x), (.int (1 : Int32))] ∧ Z.Warmed39 U.vm ∧ U.heap = h0) (fun _ _ _ _ _ => True) (fun _ U o U' => ∃ v L, o = .returned v ∧ Q_own_at1_3 Z a x h0 v U'.heap L ∧ FrameEnd U o U' L ({ frames := 0, cells := 0, slots := 0, locals := 0 } : Room).cells ({ frames := 0, cells := 0, slots := 0, locals := 0 } : Room).slots) := by
  refine MetFree.of_bodySF pf_own_at1_3 hisR ?_
  intro p e s m args below meth c s₁ Bd hml0 hP hK
  obtain ⟨rfl, hZ, hh⟩ := hP
  have hx := Bd.exec
  have hby := Bd.bytes
  have hlk := BodyLoose.notSynchronized Bd
  have hml : c.maxLocals = 4 := hml0
  have hown : s.vm.findClass "com/example/etapa/etapa/mongodb/EntityBatchCopyOfPinLaw" = some m.cls := findClass_of_methodNamed Bd.named
  have hnm := (name_of_methodNamed Bd.named Bd.method).1
  have X0 : Stand p l e ({ frames := 0, cells := 0, slots := 0, locals := 0 } : Room) s m #[(.ref a), (.int (3 : Int32)), (.ref x), (.int (1 : Int32))] below meth c s₁ [] 0 0 := Stand.of_body Bd
  have e0 : s₁.heap = h0 := by rw [← hh, Bd.state]; rfl
  have N0 := Fr.nil Z.heap.size
  have K0 : Keep h0 h0 [] := Keep.refl _ _
  refine own_start (Q := Q_own_at1_3 Z a x h0) (ef_own_at1_3 m (a) ((3 : Int32)) (x) ((1 : Int32))) ?_
  show own_G p e below (s₁.setTop (mkF m 0 #[.val (.ref a), .val (.int (3 : Int32)), .val (.ref x), .val (.int (1 : Int32))] [])) _
  refine own_go (fun t k => XS.iloadN X0.here hx rfl (hb hby d_method_2_code_0) rfl k) ?_
  refine own_go (fun t k => XS.iloadN X0.here hx rfl (hb hby d_method_2_code_1) rfl k) ?_
  refine own_go (fun t k => XS.icmpYes X0.here hx rfl (pc0 := 2) (pc' := 16) rfl (hb hby d_method_2_code_2) rfl (flt (by decide : ¬ ((3 : Int32) < (1 : Int32)))).2.1 (by decide) (by decide) k) ?_
  show own_G p e below (s₁.setTop (mkF m 16 #[.val (.ref a), .val (.int (3 : Int32)), .val (.ref x), .val (.int (1 : Int32))] [])) _
  refine own_go (fun t k => XS.iconst X0.here hx rfl (hb hby d_method_2_code_16) k) ?_
  refine own_go (fun t k => XS.goto X0.here hx rfl (pc0 := 17) (pc' := 21) rfl (hb hby d_method_2_code_17) (by decide) (by decide) k) ?_
  show own_G p e below (s₁.setTop (mkF m 21 #[.val (.ref a), .val (.int (3 : Int32)), .val (.ref x), .val (.int (1 : Int32))] [(.int (1 : Int32))])) _
  exact own_ret X0 hx Bd.returns rfl (Or.inl ⟨rfl, Or.inr (Or.inl rfl), _, rfl⟩) (hb hby d_method_2_code_21) hlk (Nat.le_of_ble_eq_true rfl) (Nat.le_of_ble_eq_true rfl) (by show Q_own_at1_3 Z a x h0 _ s₁.heap _; rw [e0]; exact ⟨rfl, N0, rfl⟩)
theorem ef_own_at2_0 (m : MethodId) (x0 : Addr) (x1 : Int32) (x2 : Addr) (x3 : Int32) : entryFrame m #[(.ref x0), (.int x1), (.ref x2), (.int x3)] 4 = mkF m 0 #[.val (.ref x0), .val (.int x1), .val (.ref x2), .val (.int x3)] [] := by first | (simp [entryFrame, mkF, argsToLocals, Value.category]; done) | rfl
theorem pf_own_at2_0 : plainFor own_m26 = true := plainFor_of_name (by simp [plainName, overriddenIn])
def Q_own_at2_0 (Z : State) (a : Addr) (x : Addr) (arr : Addr) (kk : ClassId) (vs : (List Value)) (h0 : Heap) (v : Option Value) (h : Heap) (L : List Loc) : Prop := v = some (.int (1 : Int32)) ∧ Fr Z.heap.size L ∧ h = h0
set_option maxRecDepth 65536 in
set_option maxHeartbeats 40000000 in
theorem own_at2_0 (l : Launch) (Z : State) (a0 : Array Value) (hw : ∀ d ∈ tables_1, d.before a0 Z = true) (ws : List Jvm.Cond) (a : Addr) (x : Addr) (arr : Addr) (kk : ClassId) (vs : (List Value)) (h0 : Heap) (O0 : Ext Z.heap h0) (q0 : Exa Z h0 a "java/util/ArrayList") (q1 : Fld Z h0 a "java/util/ArrayList" "elementData" "[Ljava/lang/Object;" (.ref arr)) (q2 : own_A Z h0 arr kk (.object "java/lang/Object") vs) (q3 : Fld Z h0 a "java/util/ArrayList" "size" "I" (.int (2 : Int32))) (hv : vs[0]? = some (.ref x)) :
    MetFree l own_m26 (head1 (Jvm.Cond.code own_m26 method_2_code 4 (some .boolean) :: ws) ({ frames := 3, cells := 0, slots := 0, locals := 50 } : Room)) (fun aa U => aa = #[(.ref a), (.int (0 : Int32)), (.ref x), (.int (2 : Int32))] ∧ Z.Warmed39 U.vm ∧ U.heap = h0) (fun _ _ _ _ _ => True) (fun _ U o U' => ∃ v L, o = .returned v ∧ Q_own_at2_0 Z a x arr kk vs h0 v U'.heap L ∧ FrameEnd U o U' L ({ frames := 3, cells := 0, slots := 0, locals := 50 } : Room).cells ({ frames := 3, cells := 0, slots := 0, locals := 50 } : Room).slots) := by
  refine MetFree.of_bodySF pf_own_at2_0 hisR ?_
  intro p e s m args below meth c s₁ Bd hml0 hP hK
  obtain ⟨rfl, hZ, hh⟩ := hP
  have hx := Bd.exec
  have hby := Bd.bytes
  have hlk := BodyLoose.notSynchronized Bd
  have hml : c.maxLocals = 4 := hml0
  have hown : s.vm.findClass "com/example/etapa/etapa/mongodb/EntityBatchCopyOfPinLaw" = some m.cls := findClass_of_methodNamed Bd.named
  have hnm := (name_of_methodNamed Bd.named Bd.method).1
  have X0 : Stand p l e ({ frames := 3, cells := 0, slots := 0, locals := 50 } : Room) s m #[(.ref a), (.int (0 : Int32)), (.ref x), (.int (2 : Int32))] below meth c s₁ [] 0 0 := Stand.of_body Bd
  have e0 : s₁.heap = h0 := by rw [← hh, Bd.state]; rfl
  have N0 := Fr.nil Z.heap.size
  have K0 : Keep h0 h0 [] := Keep.refl _ _
  refine own_start (Q := Q_own_at2_0 Z a x arr kk vs h0) (ef_own_at2_0 m (a) ((0 : Int32)) (x) ((2 : Int32))) ?_
  show own_G p e below (s₁.setTop (mkF m 0 #[.val (.ref a), .val (.int (0 : Int32)), .val (.ref x), .val (.int (2 : Int32))] [])) _
  refine own_go (fun t k => XS.iloadN X0.here hx rfl (hb hby d_method_2_code_0) rfl k) ?_
  refine own_go (fun t k => XS.iloadN X0.here hx rfl (hb hby d_method_2_code_1) rfl k) ?_
  refine own_go (fun t k => XS.icmpNo X0.here hx rfl (hb hby d_method_2_code_2) rfl (tlt (by decide : (0 : Int32) < (2 : Int32))).2.1 k) ?_
  show own_G p e below (s₁.setTop (mkF m 5 #[.val (.ref a), .val (.int (0 : Int32)), .val (.ref x), .val (.int (2 : Int32))] [])) _
  refine own_go (fun t k => XS.aloadN X0.here hx rfl (hb hby d_method_2_code_5) rfl rfl k) ?_
  refine own_go (fun t k => XS.iloadN X0.here hx rfl (hb hby d_method_2_code_6) rfl k) ?_
  obtain ⟨cq1z, kq1z, qa1z, qb1z, qc1z⟩ := isOf hZ e0 q0
  obtain ⟨_, _, ⟨T1z, L1z, k1z, n1z⟩, -, X1z, ⟨Lc1z, hQ1z, l1z, y1z, z1z⟩, st1z⟩ := X0.interfaceBack hx (xi := own_m27) (y := own_m13) hown (mvT hZ (own_hw hw 160 rfl)) (mvT hZ (own_hw hw 161 rfl)) (mvT hZ (own_hw hw 162 rfl)) (mvT hZ (own_hw hw 163 rfl)) (mvT hZ (own_hw hw 164 rfl)) (mvT hZ (own_hw hw 165 rfl)) (mvT hZ (own_hw hw 166 rfl)) (mvT hZ (own_hw hw 106 rfl)) (by decide) (backOf (W := 0) (own_get l Z a0 hw [] a (0 : Int32) arr kk vs 0 x (2 : Int32) h0 O0 q0 q1 q2 (by decide) hv q3 (by decide) (by decide)) hZ (own_hw hw 167 rfl) (own_hw hw 10 rfl) (by decide) (by decide)) qa1z qb1z qc1z (g := (mkF m 7 #[.val (.ref a), .val (.int (0 : Int32)), .val (.ref x), .val (.int (2 : Int32))] [(.int (0 : Int32)), (.ref a)])) rfl (by rw [hml]; rfl) (Steps.refl _) (argsL := [(.int (0 : Int32))]) (rest := []) (lenOf pd_3495176479 rfl) rfl (by show 2 * 0 + _ ≤ _; exact Nat.le_of_eq rfl) (hb hby d_method_2_code_7) (fun _ _ => ⟨rfl, e0, (by decide : 0 + 0 ≤ _), (by decide : 0 + 0 ≤ _)⟩)
  dsimp only [Pt.U, Pt.locs, Pt.cells, Pt.slots] at X1z l1z y1z z1z st1z hQ1z
  subst l1z y1z z1z
  obtain ⟨rfl, NQ1z, K1zq⟩ := hQ1z
  refine own_tr st1z ?_
  have N1z := Fr.app N0 NQ1z
  show own_G p e below (T1z.setTop (mkF m 12 #[.val (.ref a), .val (.int (0 : Int32)), .val (.ref x), .val (.int (2 : Int32))] [(.ref x)])) _
  refine own_go (fun t k => XS.aloadN X1z.here hx rfl (hb hby d_method_2_code_12) rfl rfl k) ?_
  refine own_go (fun t k => Jvm.RoadKit.acmp (g := (mkF m 13 #[.val (.ref a), .val (.int (0 : Int32)), .val (.ref x), .val (.int (2 : Int32))] [(.ref x), (.ref x)])) X1z hx rfl rfl rfl (pc0 := 13) (pc' := 16) (same := true) rfl (hb hby d_method_2_code_13) rfl (decide_eq_true (congrArg Value.ref rfl)) (by decide) (by decide) k) ?_
  show own_G p e below (T1z.setTop (mkF m 16 #[.val (.ref a), .val (.int (0 : Int32)), .val (.ref x), .val (.int (2 : Int32))] [])) _
  refine own_go (fun t k => XS.iconst X1z.here hx rfl (hb hby d_method_2_code_16) k) ?_
  refine own_go (fun t k => XS.goto X1z.here hx rfl (pc0 := 17) (pc' := 21) rfl (hb hby d_method_2_code_17) (by decide) (by decide) k) ?_
  show own_G p e below (T1z.setTop (mkF m 21 #[.val (.ref a), .val (.int (0 : Int32)), .val (.ref x), .val (.int (2 : Int32))] [(.int (1 : Int32))])) _
  exact own_ret X1z hx Bd.returns rfl (Or.inl ⟨rfl, Or.inr (Or.inl rfl), _, rfl⟩) (hb hby d_method_2_code_21) hlk (Nat.le_of_ble_eq_true rfl) (Nat.le_of_ble_eq_true rfl) (by show Q_own_at2_0 Z a x arr kk vs h0 _ T1z.heap _; rw [K1zq]; exact ⟨rfl, N1z, rfl⟩)
theorem ef_own_at2_1 (m : MethodId) (x0 : Addr) (x1 : Int32) (x2 : Addr) (x3 : Int32) : entryFrame m #[(.ref x0), (.int x1), (.ref x2), (.int x3)] 4 = mkF m 0 #[.val (.ref x0), .val (.int x1), .val (.ref x2), .val (.int x3)] [] := by first | (simp [entryFrame, mkF, argsToLocals, Value.category]; done) | rfl
theorem pf_own_at2_1 : plainFor own_m26 = true := plainFor_of_name (by simp [plainName, overriddenIn])
def Q_own_at2_1 (Z : State) (a : Addr) (x : Addr) (arr : Addr) (kk : ClassId) (vs : (List Value)) (h0 : Heap) (v : Option Value) (h : Heap) (L : List Loc) : Prop := v = some (.int (1 : Int32)) ∧ Fr Z.heap.size L ∧ h = h0
set_option maxRecDepth 65536 in
set_option maxHeartbeats 40000000 in
theorem own_at2_1 (l : Launch) (Z : State) (a0 : Array Value) (hw : ∀ d ∈ tables_1, d.before a0 Z = true) (ws : List Jvm.Cond) (a : Addr) (x : Addr) (arr : Addr) (kk : ClassId) (vs : (List Value)) (h0 : Heap) (O0 : Ext Z.heap h0) (q0 : Exa Z h0 a "java/util/ArrayList") (q1 : Fld Z h0 a "java/util/ArrayList" "elementData" "[Ljava/lang/Object;" (.ref arr)) (q2 : own_A Z h0 arr kk (.object "java/lang/Object") vs) (q3 : Fld Z h0 a "java/util/ArrayList" "size" "I" (.int (2 : Int32))) (hv : vs[1]? = some (.ref x)) :
    MetFree l own_m26 (head1 (Jvm.Cond.code own_m26 method_2_code 4 (some .boolean) :: ws) ({ frames := 3, cells := 0, slots := 0, locals := 50 } : Room)) (fun aa U => aa = #[(.ref a), (.int (1 : Int32)), (.ref x), (.int (2 : Int32))] ∧ Z.Warmed39 U.vm ∧ U.heap = h0) (fun _ _ _ _ _ => True) (fun _ U o U' => ∃ v L, o = .returned v ∧ Q_own_at2_1 Z a x arr kk vs h0 v U'.heap L ∧ FrameEnd U o U' L ({ frames := 3, cells := 0, slots := 0, locals := 50 } : Room).cells ({ frames := 3, cells := 0, slots := 0, locals := 50 } : Room).slots) := by
  refine MetFree.of_bodySF pf_own_at2_1 hisR ?_
  intro p e s m args below meth c s₁ Bd hml0 hP hK
  obtain ⟨rfl, hZ, hh⟩ := hP
  have hx := Bd.exec
  have hby := Bd.bytes
  have hlk := BodyLoose.notSynchronized Bd
  have hml : c.maxLocals = 4 := hml0
  have hown : s.vm.findClass "com/example/etapa/etapa/mongodb/EntityBatchCopyOfPinLaw" = some m.cls := findClass_of_methodNamed Bd.named
  have hnm := (name_of_methodNamed Bd.named Bd.method).1
  have X0 : Stand p l e ({ frames := 3, cells := 0, slots := 0, locals := 50 } : Room) s m #[(.ref a), (.int (1 : Int32)), (.ref x), (.int (2 : Int32))] below meth c s₁ [] 0 0 := Stand.of_body Bd
  have e0 : s₁.heap = h0 := by rw [← hh, Bd.state]; rfl
  have N0 := Fr.nil Z.heap.size
  have K0 : Keep h0 h0 [] := Keep.refl _ _
  refine own_start (Q := Q_own_at2_1 Z a x arr kk vs h0) (ef_own_at2_1 m (a) ((1 : Int32)) (x) ((2 : Int32))) ?_
  show own_G p e below (s₁.setTop (mkF m 0 #[.val (.ref a), .val (.int (1 : Int32)), .val (.ref x), .val (.int (2 : Int32))] [])) _
  refine own_go (fun t k => XS.iloadN X0.here hx rfl (hb hby d_method_2_code_0) rfl k) ?_
  refine own_go (fun t k => XS.iloadN X0.here hx rfl (hb hby d_method_2_code_1) rfl k) ?_
  refine own_go (fun t k => XS.icmpNo X0.here hx rfl (hb hby d_method_2_code_2) rfl (tlt (by decide : (1 : Int32) < (2 : Int32))).2.1 k) ?_
  show own_G p e below (s₁.setTop (mkF m 5 #[.val (.ref a), .val (.int (1 : Int32)), .val (.ref x), .val (.int (2 : Int32))] [])) _
  refine own_go (fun t k => XS.aloadN X0.here hx rfl (hb hby d_method_2_code_5) rfl rfl k) ?_
  refine own_go (fun t k => XS.iloadN X0.here hx rfl (hb hby d_method_2_code_6) rfl k) ?_
  obtain ⟨cq1z, kq1z, qa1z, qb1z, qc1z⟩ := isOf hZ e0 q0
  obtain ⟨_, _, ⟨T1z, L1z, k1z, n1z⟩, -, X1z, ⟨Lc1z, hQ1z, l1z, y1z, z1z⟩, st1z⟩ := X0.interfaceBack hx (xi := own_m27) (y := own_m13) hown (mvT hZ (own_hw hw 160 rfl)) (mvT hZ (own_hw hw 161 rfl)) (mvT hZ (own_hw hw 162 rfl)) (mvT hZ (own_hw hw 163 rfl)) (mvT hZ (own_hw hw 164 rfl)) (mvT hZ (own_hw hw 165 rfl)) (mvT hZ (own_hw hw 166 rfl)) (mvT hZ (own_hw hw 106 rfl)) (by decide) (backOf (W := 0) (own_get l Z a0 hw [] a (1 : Int32) arr kk vs 1 x (2 : Int32) h0 O0 q0 q1 q2 (by decide) hv q3 (by decide) (by decide)) hZ (own_hw hw 167 rfl) (own_hw hw 10 rfl) (by decide) (by decide)) qa1z qb1z qc1z (g := (mkF m 7 #[.val (.ref a), .val (.int (1 : Int32)), .val (.ref x), .val (.int (2 : Int32))] [(.int (1 : Int32)), (.ref a)])) rfl (by rw [hml]; rfl) (Steps.refl _) (argsL := [(.int (1 : Int32))]) (rest := []) (lenOf pd_3495176479 rfl) rfl (by show 2 * 0 + _ ≤ _; exact Nat.le_of_eq rfl) (hb hby d_method_2_code_7) (fun _ _ => ⟨rfl, e0, (by decide : 0 + 0 ≤ _), (by decide : 0 + 0 ≤ _)⟩)
  dsimp only [Pt.U, Pt.locs, Pt.cells, Pt.slots] at X1z l1z y1z z1z st1z hQ1z
  subst l1z y1z z1z
  obtain ⟨rfl, NQ1z, K1zq⟩ := hQ1z
  refine own_tr st1z ?_
  have N1z := Fr.app N0 NQ1z
  show own_G p e below (T1z.setTop (mkF m 12 #[.val (.ref a), .val (.int (1 : Int32)), .val (.ref x), .val (.int (2 : Int32))] [(.ref x)])) _
  refine own_go (fun t k => XS.aloadN X1z.here hx rfl (hb hby d_method_2_code_12) rfl rfl k) ?_
  refine own_go (fun t k => Jvm.RoadKit.acmp (g := (mkF m 13 #[.val (.ref a), .val (.int (1 : Int32)), .val (.ref x), .val (.int (2 : Int32))] [(.ref x), (.ref x)])) X1z hx rfl rfl rfl (pc0 := 13) (pc' := 16) (same := true) rfl (hb hby d_method_2_code_13) rfl (decide_eq_true (congrArg Value.ref rfl)) (by decide) (by decide) k) ?_
  show own_G p e below (T1z.setTop (mkF m 16 #[.val (.ref a), .val (.int (1 : Int32)), .val (.ref x), .val (.int (2 : Int32))] [])) _
  refine own_go (fun t k => XS.iconst X1z.here hx rfl (hb hby d_method_2_code_16) k) ?_
  refine own_go (fun t k => XS.goto X1z.here hx rfl (pc0 := 17) (pc' := 21) rfl (hb hby d_method_2_code_17) (by decide) (by decide) k) ?_
  show own_G p e below (T1z.setTop (mkF m 21 #[.val (.ref a), .val (.int (1 : Int32)), .val (.ref x), .val (.int (2 : Int32))] [(.int (1 : Int32))])) _
  exact own_ret X1z hx Bd.returns rfl (Or.inl ⟨rfl, Or.inr (Or.inl rfl), _, rfl⟩) (hb hby d_method_2_code_21) hlk (Nat.le_of_ble_eq_true rfl) (Nat.le_of_ble_eq_true rfl) (by show Q_own_at2_1 Z a x arr kk vs h0 _ T1z.heap _; rw [K1zq]; exact ⟨rfl, N1z, rfl⟩)
theorem ef_own_at2_2 (m : MethodId) (x0 : Addr) (x1 : Int32) (x2 : Addr) (x3 : Int32) : entryFrame m #[(.ref x0), (.int x1), (.ref x2), (.int x3)] 4 = mkF m 0 #[.val (.ref x0), .val (.int x1), .val (.ref x2), .val (.int x3)] [] := by first | (simp [entryFrame, mkF, argsToLocals, Value.category]; done) | rfl
theorem pf_own_at2_2 : plainFor own_m26 = true := plainFor_of_name (by simp [plainName, overriddenIn])
def Q_own_at2_2 (Z : State) (a : Addr) (x : Addr) (h0 : Heap) (v : Option Value) (h : Heap) (L : List Loc) : Prop := v = some (.int (1 : Int32)) ∧ Fr Z.heap.size L ∧ h = h0
set_option maxRecDepth 65536 in
set_option maxHeartbeats 40000000 in
theorem own_at2_2 (l : Launch) (Z : State) (a0 : Array Value) (hw : ∀ d ∈ tables_1, d.before a0 Z = true) (ws : List Jvm.Cond) (a : Addr) (x : Addr) (h0 : Heap) (O0 : Ext Z.heap h0) :
    MetFree l own_m26 (head1 (Jvm.Cond.code own_m26 method_2_code 4 (some .boolean) :: ws) ({ frames := 0, cells := 0, slots := 0, locals := 0 } : Room)) (fun aa U => aa = #[(.ref a), (.int (2 : Int32)), (.ref x), (.int (2 : Int32))] ∧ Z.Warmed39 U.vm ∧ U.heap = h0) (fun _ _ _ _ _ => True) (fun _ U o U' => ∃ v L, o = .returned v ∧ Q_own_at2_2 Z a x h0 v U'.heap L ∧ FrameEnd U o U' L ({ frames := 0, cells := 0, slots := 0, locals := 0 } : Room).cells ({ frames := 0, cells := 0, slots := 0, locals := 0 } : Room).slots) := by
  refine MetFree.of_bodySF pf_own_at2_2 hisR ?_
  intro p e s m args below meth c s₁ Bd hml0 hP hK
  obtain ⟨rfl, hZ, hh⟩ := hP
  have hx := Bd.exec
  have hby := Bd.bytes
  have hlk := BodyLoose.notSynchronized Bd
  have hml : c.maxLocals = 4 := hml0
  have hown : s.vm.findClass "com/example/etapa/etapa/mongodb/EntityBatchCopyOfPinLaw" = some m.cls := findClass_of_methodNamed Bd.named
  have hnm := (name_of_methodNamed Bd.named Bd.method).1
  have X0 : Stand p l e ({ frames := 0, cells := 0, slots := 0, locals := 0 } : Room) s m #[(.ref a), (.int (2 : Int32)), (.ref x), (.int (2 : Int32))] below meth c s₁ [] 0 0 := Stand.of_body Bd
  have e0 : s₁.heap = h0 := by rw [← hh, Bd.state]; rfl
  have N0 := Fr.nil Z.heap.size
  have K0 : Keep h0 h0 [] := Keep.refl _ _
  refine own_start (Q := Q_own_at2_2 Z a x h0) (ef_own_at2_2 m (a) ((2 : Int32)) (x) ((2 : Int32))) ?_
  show own_G p e below (s₁.setTop (mkF m 0 #[.val (.ref a), .val (.int (2 : Int32)), .val (.ref x), .val (.int (2 : Int32))] [])) _
  refine own_go (fun t k => XS.iloadN X0.here hx rfl (hb hby d_method_2_code_0) rfl k) ?_
  refine own_go (fun t k => XS.iloadN X0.here hx rfl (hb hby d_method_2_code_1) rfl k) ?_
  refine own_go (fun t k => XS.icmpYes X0.here hx rfl (pc0 := 2) (pc' := 16) rfl (hb hby d_method_2_code_2) rfl (flt (by decide : ¬ ((2 : Int32) < (2 : Int32)))).2.1 (by decide) (by decide) k) ?_
  show own_G p e below (s₁.setTop (mkF m 16 #[.val (.ref a), .val (.int (2 : Int32)), .val (.ref x), .val (.int (2 : Int32))] [])) _
  refine own_go (fun t k => XS.iconst X0.here hx rfl (hb hby d_method_2_code_16) k) ?_
  refine own_go (fun t k => XS.goto X0.here hx rfl (pc0 := 17) (pc' := 21) rfl (hb hby d_method_2_code_17) (by decide) (by decide) k) ?_
  show own_G p e below (s₁.setTop (mkF m 21 #[.val (.ref a), .val (.int (2 : Int32)), .val (.ref x), .val (.int (2 : Int32))] [(.int (1 : Int32))])) _
  exact own_ret X0 hx Bd.returns rfl (Or.inl ⟨rfl, Or.inr (Or.inl rfl), _, rfl⟩) (hb hby d_method_2_code_21) hlk (Nat.le_of_ble_eq_true rfl) (Nat.le_of_ble_eq_true rfl) (by show Q_own_at2_2 Z a x h0 _ s₁.heap _; rw [e0]; exact ⟨rfl, N0, rfl⟩)
theorem ef_own_at2_3 (m : MethodId) (x0 : Addr) (x1 : Int32) (x2 : Addr) (x3 : Int32) : entryFrame m #[(.ref x0), (.int x1), (.ref x2), (.int x3)] 4 = mkF m 0 #[.val (.ref x0), .val (.int x1), .val (.ref x2), .val (.int x3)] [] := by first | (simp [entryFrame, mkF, argsToLocals, Value.category]; done) | rfl
theorem pf_own_at2_3 : plainFor own_m26 = true := plainFor_of_name (by simp [plainName, overriddenIn])
def Q_own_at2_3 (Z : State) (a : Addr) (x : Addr) (h0 : Heap) (v : Option Value) (h : Heap) (L : List Loc) : Prop := v = some (.int (1 : Int32)) ∧ Fr Z.heap.size L ∧ h = h0
set_option maxRecDepth 65536 in
set_option maxHeartbeats 40000000 in
theorem own_at2_3 (l : Launch) (Z : State) (a0 : Array Value) (hw : ∀ d ∈ tables_1, d.before a0 Z = true) (ws : List Jvm.Cond) (a : Addr) (x : Addr) (h0 : Heap) (O0 : Ext Z.heap h0) :
    MetFree l own_m26 (head1 (Jvm.Cond.code own_m26 method_2_code 4 (some .boolean) :: ws) ({ frames := 0, cells := 0, slots := 0, locals := 0 } : Room)) (fun aa U => aa = #[(.ref a), (.int (3 : Int32)), (.ref x), (.int (2 : Int32))] ∧ Z.Warmed39 U.vm ∧ U.heap = h0) (fun _ _ _ _ _ => True) (fun _ U o U' => ∃ v L, o = .returned v ∧ Q_own_at2_3 Z a x h0 v U'.heap L ∧ FrameEnd U o U' L ({ frames := 0, cells := 0, slots := 0, locals := 0 } : Room).cells ({ frames := 0, cells := 0, slots := 0, locals := 0 } : Room).slots) := by
  refine MetFree.of_bodySF pf_own_at2_3 hisR ?_
  intro p e s m args below meth c s₁ Bd hml0 hP hK
  obtain ⟨rfl, hZ, hh⟩ := hP
  have hx := Bd.exec
  have hby := Bd.bytes
  have hlk := BodyLoose.notSynchronized Bd
  have hml : c.maxLocals = 4 := hml0
  have hown : s.vm.findClass "com/example/etapa/etapa/mongodb/EntityBatchCopyOfPinLaw" = some m.cls := findClass_of_methodNamed Bd.named
  have hnm := (name_of_methodNamed Bd.named Bd.method).1
  have X0 : Stand p l e ({ frames := 0, cells := 0, slots := 0, locals := 0 } : Room) s m #[(.ref a), (.int (3 : Int32)), (.ref x), (.int (2 : Int32))] below meth c s₁ [] 0 0 := Stand.of_body Bd
  have e0 : s₁.heap = h0 := by rw [← hh, Bd.state]; rfl
  have N0 := Fr.nil Z.heap.size
  have K0 : Keep h0 h0 [] := Keep.refl _ _
  refine own_start (Q := Q_own_at2_3 Z a x h0) (ef_own_at2_3 m (a) ((3 : Int32)) (x) ((2 : Int32))) ?_
  show own_G p e below (s₁.setTop (mkF m 0 #[.val (.ref a), .val (.int (3 : Int32)), .val (.ref x), .val (.int (2 : Int32))] [])) _
  refine own_go (fun t k => XS.iloadN X0.here hx rfl (hb hby d_method_2_code_0) rfl k) ?_
  refine own_go (fun t k => XS.iloadN X0.here hx rfl (hb hby d_method_2_code_1) rfl k) ?_
  refine own_go (fun t k => XS.icmpYes X0.here hx rfl (pc0 := 2) (pc' := 16) rfl (hb hby d_method_2_code_2) rfl (flt (by decide : ¬ ((3 : Int32) < (2 : Int32)))).2.1 (by decide) (by decide) k) ?_
  show own_G p e below (s₁.setTop (mkF m 16 #[.val (.ref a), .val (.int (3 : Int32)), .val (.ref x), .val (.int (2 : Int32))] [])) _
  refine own_go (fun t k => XS.iconst X0.here hx rfl (hb hby d_method_2_code_16) k) ?_
  refine own_go (fun t k => XS.goto X0.here hx rfl (pc0 := 17) (pc' := 21) rfl (hb hby d_method_2_code_17) (by decide) (by decide) k) ?_
  show own_G p e below (s₁.setTop (mkF m 21 #[.val (.ref a), .val (.int (3 : Int32)), .val (.ref x), .val (.int (2 : Int32))] [(.int (1 : Int32))])) _
  exact own_ret X0 hx Bd.returns rfl (Or.inl ⟨rfl, Or.inr (Or.inl rfl), _, rfl⟩) (hb hby d_method_2_code_21) hlk (Nat.le_of_ble_eq_true rfl) (Nat.le_of_ble_eq_true rfl) (by show Q_own_at2_3 Z a x h0 _ s₁.heap _; rw [e0]; exact ⟨rfl, N0, rfl⟩)
theorem ef_own_at3_0 (m : MethodId) (x0 : Addr) (x1 : Int32) (x2 : Addr) (x3 : Int32) : entryFrame m #[(.ref x0), (.int x1), (.ref x2), (.int x3)] 4 = mkF m 0 #[.val (.ref x0), .val (.int x1), .val (.ref x2), .val (.int x3)] [] := by first | (simp [entryFrame, mkF, argsToLocals, Value.category]; done) | rfl
theorem pf_own_at3_0 : plainFor own_m26 = true := plainFor_of_name (by simp [plainName, overriddenIn])
def Q_own_at3_0 (Z : State) (a : Addr) (x : Addr) (arr : Addr) (kk : ClassId) (vs : (List Value)) (h0 : Heap) (v : Option Value) (h : Heap) (L : List Loc) : Prop := v = some (.int (1 : Int32)) ∧ Fr Z.heap.size L ∧ h = h0
set_option maxRecDepth 65536 in
set_option maxHeartbeats 40000000 in
theorem own_at3_0 (l : Launch) (Z : State) (a0 : Array Value) (hw : ∀ d ∈ tables_1, d.before a0 Z = true) (ws : List Jvm.Cond) (a : Addr) (x : Addr) (arr : Addr) (kk : ClassId) (vs : (List Value)) (h0 : Heap) (O0 : Ext Z.heap h0) (q0 : Exa Z h0 a "java/util/ArrayList") (q1 : Fld Z h0 a "java/util/ArrayList" "elementData" "[Ljava/lang/Object;" (.ref arr)) (q2 : own_A Z h0 arr kk (.object "java/lang/Object") vs) (q3 : Fld Z h0 a "java/util/ArrayList" "size" "I" (.int (3 : Int32))) (hv : vs[0]? = some (.ref x)) :
    MetFree l own_m26 (head1 (Jvm.Cond.code own_m26 method_2_code 4 (some .boolean) :: ws) ({ frames := 3, cells := 0, slots := 0, locals := 50 } : Room)) (fun aa U => aa = #[(.ref a), (.int (0 : Int32)), (.ref x), (.int (3 : Int32))] ∧ Z.Warmed39 U.vm ∧ U.heap = h0) (fun _ _ _ _ _ => True) (fun _ U o U' => ∃ v L, o = .returned v ∧ Q_own_at3_0 Z a x arr kk vs h0 v U'.heap L ∧ FrameEnd U o U' L ({ frames := 3, cells := 0, slots := 0, locals := 50 } : Room).cells ({ frames := 3, cells := 0, slots := 0, locals := 50 } : Room).slots) := by
  refine MetFree.of_bodySF pf_own_at3_0 hisR ?_
  intro p e s m args below meth c s₁ Bd hml0 hP hK
  obtain ⟨rfl, hZ, hh⟩ := hP
  have hx := Bd.exec
  have hby := Bd.bytes
  have hlk := BodyLoose.notSynchronized Bd
  have hml : c.maxLocals = 4 := hml0
  have hown : s.vm.findClass "com/example/etapa/etapa/mongodb/EntityBatchCopyOfPinLaw" = some m.cls := findClass_of_methodNamed Bd.named
  have hnm := (name_of_methodNamed Bd.named Bd.method).1
  have X0 : Stand p l e ({ frames := 3, cells := 0, slots := 0, locals := 50 } : Room) s m #[(.ref a), (.int (0 : Int32)), (.ref x), (.int (3 : Int32))] below meth c s₁ [] 0 0 := Stand.of_body Bd
  have e0 : s₁.heap = h0 := by rw [← hh, Bd.state]; rfl
  have N0 := Fr.nil Z.heap.size
  have K0 : Keep h0 h0 [] := Keep.refl _ _
  refine own_start (Q := Q_own_at3_0 Z a x arr kk vs h0) (ef_own_at3_0 m (a) ((0 : Int32)) (x) ((3 : Int32))) ?_
  show own_G p e below (s₁.setTop (mkF m 0 #[.val (.ref a), .val (.int (0 : Int32)), .val (.ref x), .val (.int (3 : Int32))] [])) _
  refine own_go (fun t k => XS.iloadN X0.here hx rfl (hb hby d_method_2_code_0) rfl k) ?_
  refine own_go (fun t k => XS.iloadN X0.here hx rfl (hb hby d_method_2_code_1) rfl k) ?_
  refine own_go (fun t k => XS.icmpNo X0.here hx rfl (hb hby d_method_2_code_2) rfl (tlt (by decide : (0 : Int32) < (3 : Int32))).2.1 k) ?_
  show own_G p e below (s₁.setTop (mkF m 5 #[.val (.ref a), .val (.int (0 : Int32)), .val (.ref x), .val (.int (3 : Int32))] [])) _
  refine own_go (fun t k => XS.aloadN X0.here hx rfl (hb hby d_method_2_code_5) rfl rfl k) ?_
  refine own_go (fun t k => XS.iloadN X0.here hx rfl (hb hby d_method_2_code_6) rfl k) ?_
  obtain ⟨cq1z, kq1z, qa1z, qb1z, qc1z⟩ := isOf hZ e0 q0
  obtain ⟨_, _, ⟨T1z, L1z, k1z, n1z⟩, -, X1z, ⟨Lc1z, hQ1z, l1z, y1z, z1z⟩, st1z⟩ := X0.interfaceBack hx (xi := own_m27) (y := own_m13) hown (mvT hZ (own_hw hw 160 rfl)) (mvT hZ (own_hw hw 161 rfl)) (mvT hZ (own_hw hw 162 rfl)) (mvT hZ (own_hw hw 163 rfl)) (mvT hZ (own_hw hw 164 rfl)) (mvT hZ (own_hw hw 165 rfl)) (mvT hZ (own_hw hw 166 rfl)) (mvT hZ (own_hw hw 106 rfl)) (by decide) (backOf (W := 0) (own_get l Z a0 hw [] a (0 : Int32) arr kk vs 0 x (3 : Int32) h0 O0 q0 q1 q2 (by decide) hv q3 (by decide) (by decide)) hZ (own_hw hw 167 rfl) (own_hw hw 10 rfl) (by decide) (by decide)) qa1z qb1z qc1z (g := (mkF m 7 #[.val (.ref a), .val (.int (0 : Int32)), .val (.ref x), .val (.int (3 : Int32))] [(.int (0 : Int32)), (.ref a)])) rfl (by rw [hml]; rfl) (Steps.refl _) (argsL := [(.int (0 : Int32))]) (rest := []) (lenOf pd_3495176479 rfl) rfl (by show 2 * 0 + _ ≤ _; exact Nat.le_of_eq rfl) (hb hby d_method_2_code_7) (fun _ _ => ⟨rfl, e0, (by decide : 0 + 0 ≤ _), (by decide : 0 + 0 ≤ _)⟩)
  dsimp only [Pt.U, Pt.locs, Pt.cells, Pt.slots] at X1z l1z y1z z1z st1z hQ1z
  subst l1z y1z z1z
  obtain ⟨rfl, NQ1z, K1zq⟩ := hQ1z
  refine own_tr st1z ?_
  have N1z := Fr.app N0 NQ1z
  show own_G p e below (T1z.setTop (mkF m 12 #[.val (.ref a), .val (.int (0 : Int32)), .val (.ref x), .val (.int (3 : Int32))] [(.ref x)])) _
  refine own_go (fun t k => XS.aloadN X1z.here hx rfl (hb hby d_method_2_code_12) rfl rfl k) ?_
  refine own_go (fun t k => Jvm.RoadKit.acmp (g := (mkF m 13 #[.val (.ref a), .val (.int (0 : Int32)), .val (.ref x), .val (.int (3 : Int32))] [(.ref x), (.ref x)])) X1z hx rfl rfl rfl (pc0 := 13) (pc' := 16) (same := true) rfl (hb hby d_method_2_code_13) rfl (decide_eq_true (congrArg Value.ref rfl)) (by decide) (by decide) k) ?_
  show own_G p e below (T1z.setTop (mkF m 16 #[.val (.ref a), .val (.int (0 : Int32)), .val (.ref x), .val (.int (3 : Int32))] [])) _
  refine own_go (fun t k => XS.iconst X1z.here hx rfl (hb hby d_method_2_code_16) k) ?_
  refine own_go (fun t k => XS.goto X1z.here hx rfl (pc0 := 17) (pc' := 21) rfl (hb hby d_method_2_code_17) (by decide) (by decide) k) ?_
  show own_G p e below (T1z.setTop (mkF m 21 #[.val (.ref a), .val (.int (0 : Int32)), .val (.ref x), .val (.int (3 : Int32))] [(.int (1 : Int32))])) _
  exact own_ret X1z hx Bd.returns rfl (Or.inl ⟨rfl, Or.inr (Or.inl rfl), _, rfl⟩) (hb hby d_method_2_code_21) hlk (Nat.le_of_ble_eq_true rfl) (Nat.le_of_ble_eq_true rfl) (by show Q_own_at3_0 Z a x arr kk vs h0 _ T1z.heap _; rw [K1zq]; exact ⟨rfl, N1z, rfl⟩)
theorem ef_own_at3_1 (m : MethodId) (x0 : Addr) (x1 : Int32) (x2 : Addr) (x3 : Int32) : entryFrame m #[(.ref x0), (.int x1), (.ref x2), (.int x3)] 4 = mkF m 0 #[.val (.ref x0), .val (.int x1), .val (.ref x2), .val (.int x3)] [] := by first | (simp [entryFrame, mkF, argsToLocals, Value.category]; done) | rfl
theorem pf_own_at3_1 : plainFor own_m26 = true := plainFor_of_name (by simp [plainName, overriddenIn])
def Q_own_at3_1 (Z : State) (a : Addr) (x : Addr) (arr : Addr) (kk : ClassId) (vs : (List Value)) (h0 : Heap) (v : Option Value) (h : Heap) (L : List Loc) : Prop := v = some (.int (1 : Int32)) ∧ Fr Z.heap.size L ∧ h = h0
set_option maxRecDepth 65536 in
set_option maxHeartbeats 40000000 in
theorem own_at3_1 (l : Launch) (Z : State) (a0 : Array Value) (hw : ∀ d ∈ tables_1, d.before a0 Z = true) (ws : List Jvm.Cond) (a : Addr) (x : Addr) (arr : Addr) (kk : ClassId) (vs : (List Value)) (h0 : Heap) (O0 : Ext Z.heap h0) (q0 : Exa Z h0 a "java/util/ArrayList") (q1 : Fld Z h0 a "java/util/ArrayList" "elementData" "[Ljava/lang/Object;" (.ref arr)) (q2 : own_A Z h0 arr kk (.object "java/lang/Object") vs) (q3 : Fld Z h0 a "java/util/ArrayList" "size" "I" (.int (3 : Int32))) (hv : vs[1]? = some (.ref x)) :
    MetFree l own_m26 (head1 (Jvm.Cond.code own_m26 method_2_code 4 (some .boolean) :: ws) ({ frames := 3, cells := 0, slots := 0, locals := 50 } : Room)) (fun aa U => aa = #[(.ref a), (.int (1 : Int32)), (.ref x), (.int (3 : Int32))] ∧ Z.Warmed39 U.vm ∧ U.heap = h0) (fun _ _ _ _ _ => True) (fun _ U o U' => ∃ v L, o = .returned v ∧ Q_own_at3_1 Z a x arr kk vs h0 v U'.heap L ∧ FrameEnd U o U' L ({ frames := 3, cells := 0, slots := 0, locals := 50 } : Room).cells ({ frames := 3, cells := 0, slots := 0, locals := 50 } : Room).slots) := by
  refine MetFree.of_bodySF pf_own_at3_1 hisR ?_
  intro p e s m args below meth c s₁ Bd hml0 hP hK
  obtain ⟨rfl, hZ, hh⟩ := hP
  have hx := Bd.exec
  have hby := Bd.bytes
  have hlk := BodyLoose.notSynchronized Bd
  have hml : c.maxLocals = 4 := hml0
  have hown : s.vm.findClass "com/example/etapa/etapa/mongodb/EntityBatchCopyOfPinLaw" = some m.cls := findClass_of_methodNamed Bd.named
  have hnm := (name_of_methodNamed Bd.named Bd.method).1
  have X0 : Stand p l e ({ frames := 3, cells := 0, slots := 0, locals := 50 } : Room) s m #[(.ref a), (.int (1 : Int32)), (.ref x), (.int (3 : Int32))] below meth c s₁ [] 0 0 := Stand.of_body Bd
  have e0 : s₁.heap = h0 := by rw [← hh, Bd.state]; rfl
  have N0 := Fr.nil Z.heap.size
  have K0 : Keep h0 h0 [] := Keep.refl _ _
  refine own_start (Q := Q_own_at3_1 Z a x arr kk vs h0) (ef_own_at3_1 m (a) ((1 : Int32)) (x) ((3 : Int32))) ?_
  show own_G p e below (s₁.setTop (mkF m 0 #[.val (.ref a), .val (.int (1 : Int32)), .val (.ref x), .val (.int (3 : Int32))] [])) _
  refine own_go (fun t k => XS.iloadN X0.here hx rfl (hb hby d_method_2_code_0) rfl k) ?_
  refine own_go (fun t k => XS.iloadN X0.here hx rfl (hb hby d_method_2_code_1) rfl k) ?_
  refine own_go (fun t k => XS.icmpNo X0.here hx rfl (hb hby d_method_2_code_2) rfl (tlt (by decide : (1 : Int32) < (3 : Int32))).2.1 k) ?_
  show own_G p e below (s₁.setTop (mkF m 5 #[.val (.ref a), .val (.int (1 : Int32)), .val (.ref x), .val (.int (3 : Int32))] [])) _
  refine own_go (fun t k => XS.aloadN X0.here hx rfl (hb hby d_method_2_code_5) rfl rfl k) ?_
  refine own_go (fun t k => XS.iloadN X0.here hx rfl (hb hby d_method_2_code_6) rfl k) ?_
  obtain ⟨cq1z, kq1z, qa1z, qb1z, qc1z⟩ := isOf hZ e0 q0
  obtain ⟨_, _, ⟨T1z, L1z, k1z, n1z⟩, -, X1z, ⟨Lc1z, hQ1z, l1z, y1z, z1z⟩, st1z⟩ := X0.interfaceBack hx (xi := own_m27) (y := own_m13) hown (mvT hZ (own_hw hw 160 rfl)) (mvT hZ (own_hw hw 161 rfl)) (mvT hZ (own_hw hw 162 rfl)) (mvT hZ (own_hw hw 163 rfl)) (mvT hZ (own_hw hw 164 rfl)) (mvT hZ (own_hw hw 165 rfl)) (mvT hZ (own_hw hw 166 rfl)) (mvT hZ (own_hw hw 106 rfl)) (by decide) (backOf (W := 0) (own_get l Z a0 hw [] a (1 : Int32) arr kk vs 1 x (3 : Int32) h0 O0 q0 q1 q2 (by decide) hv q3 (by decide) (by decide)) hZ (own_hw hw 167 rfl) (own_hw hw 10 rfl) (by decide) (by decide)) qa1z qb1z qc1z (g := (mkF m 7 #[.val (.ref a), .val (.int (1 : Int32)), .val (.ref x), .val (.int (3 : Int32))] [(.int (1 : Int32)), (.ref a)])) rfl (by rw [hml]; rfl) (Steps.refl _) (argsL := [(.int (1 : Int32))]) (rest := []) (lenOf pd_3495176479 rfl) rfl (by show 2 * 0 + _ ≤ _; exact Nat.le_of_eq rfl) (hb hby d_method_2_code_7) (fun _ _ => ⟨rfl, e0, (by decide : 0 + 0 ≤ _), (by decide : 0 + 0 ≤ _)⟩)
  dsimp only [Pt.U, Pt.locs, Pt.cells, Pt.slots] at X1z l1z y1z z1z st1z hQ1z
  subst l1z y1z z1z
  obtain ⟨rfl, NQ1z, K1zq⟩ := hQ1z
  refine own_tr st1z ?_
  have N1z := Fr.app N0 NQ1z
  show own_G p e below (T1z.setTop (mkF m 12 #[.val (.ref a), .val (.int (1 : Int32)), .val (.ref x), .val (.int (3 : Int32))] [(.ref x)])) _
  refine own_go (fun t k => XS.aloadN X1z.here hx rfl (hb hby d_method_2_code_12) rfl rfl k) ?_
  refine own_go (fun t k => Jvm.RoadKit.acmp (g := (mkF m 13 #[.val (.ref a), .val (.int (1 : Int32)), .val (.ref x), .val (.int (3 : Int32))] [(.ref x), (.ref x)])) X1z hx rfl rfl rfl (pc0 := 13) (pc' := 16) (same := true) rfl (hb hby d_method_2_code_13) rfl (decide_eq_true (congrArg Value.ref rfl)) (by decide) (by decide) k) ?_
  show own_G p e below (T1z.setTop (mkF m 16 #[.val (.ref a), .val (.int (1 : Int32)), .val (.ref x), .val (.int (3 : Int32))] [])) _
  refine own_go (fun t k => XS.iconst X1z.here hx rfl (hb hby d_method_2_code_16) k) ?_
  refine own_go (fun t k => XS.goto X1z.here hx rfl (pc0 := 17) (pc' := 21) rfl (hb hby d_method_2_code_17) (by decide) (by decide) k) ?_
  show own_G p e below (T1z.setTop (mkF m 21 #[.val (.ref a), .val (.int (1 : Int32)), .val (.ref x), .val (.int (3 : Int32))] [(.int (1 : Int32))])) _
  exact own_ret X1z hx Bd.returns rfl (Or.inl ⟨rfl, Or.inr (Or.inl rfl), _, rfl⟩) (hb hby d_method_2_code_21) hlk (Nat.le_of_ble_eq_true rfl) (Nat.le_of_ble_eq_true rfl) (by show Q_own_at3_1 Z a x arr kk vs h0 _ T1z.heap _; rw [K1zq]; exact ⟨rfl, N1z, rfl⟩)
theorem ef_own_at3_2 (m : MethodId) (x0 : Addr) (x1 : Int32) (x2 : Addr) (x3 : Int32) : entryFrame m #[(.ref x0), (.int x1), (.ref x2), (.int x3)] 4 = mkF m 0 #[.val (.ref x0), .val (.int x1), .val (.ref x2), .val (.int x3)] [] := by first | (simp [entryFrame, mkF, argsToLocals, Value.category]; done) | rfl
theorem pf_own_at3_2 : plainFor own_m26 = true := plainFor_of_name (by simp [plainName, overriddenIn])
def Q_own_at3_2 (Z : State) (a : Addr) (x : Addr) (arr : Addr) (kk : ClassId) (vs : (List Value)) (h0 : Heap) (v : Option Value) (h : Heap) (L : List Loc) : Prop := v = some (.int (1 : Int32)) ∧ Fr Z.heap.size L ∧ h = h0
set_option maxRecDepth 65536 in
set_option maxHeartbeats 40000000 in
theorem own_at3_2 (l : Launch) (Z : State) (a0 : Array Value) (hw : ∀ d ∈ tables_1, d.before a0 Z = true) (ws : List Jvm.Cond) (a : Addr) (x : Addr) (arr : Addr) (kk : ClassId) (vs : (List Value)) (h0 : Heap) (O0 : Ext Z.heap h0) (q0 : Exa Z h0 a "java/util/ArrayList") (q1 : Fld Z h0 a "java/util/ArrayList" "elementData" "[Ljava/lang/Object;" (.ref arr)) (q2 : own_A Z h0 arr kk (.object "java/lang/Object") vs) (q3 : Fld Z h0 a "java/util/ArrayList" "size" "I" (.int (3 : Int32))) (hv : vs[2]? = some (.ref x)) :
    MetFree l own_m26 (head1 (Jvm.Cond.code own_m26 method_2_code 4 (some .boolean) :: ws) ({ frames := 3, cells := 0, slots := 0, locals := 50 } : Room)) (fun aa U => aa = #[(.ref a), (.int (2 : Int32)), (.ref x), (.int (3 : Int32))] ∧ Z.Warmed39 U.vm ∧ U.heap = h0) (fun _ _ _ _ _ => True) (fun _ U o U' => ∃ v L, o = .returned v ∧ Q_own_at3_2 Z a x arr kk vs h0 v U'.heap L ∧ FrameEnd U o U' L ({ frames := 3, cells := 0, slots := 0, locals := 50 } : Room).cells ({ frames := 3, cells := 0, slots := 0, locals := 50 } : Room).slots) := by
  refine MetFree.of_bodySF pf_own_at3_2 hisR ?_
  intro p e s m args below meth c s₁ Bd hml0 hP hK
  obtain ⟨rfl, hZ, hh⟩ := hP
  have hx := Bd.exec
  have hby := Bd.bytes
  have hlk := BodyLoose.notSynchronized Bd
  have hml : c.maxLocals = 4 := hml0
  have hown : s.vm.findClass "com/example/etapa/etapa/mongodb/EntityBatchCopyOfPinLaw" = some m.cls := findClass_of_methodNamed Bd.named
  have hnm := (name_of_methodNamed Bd.named Bd.method).1
  have X0 : Stand p l e ({ frames := 3, cells := 0, slots := 0, locals := 50 } : Room) s m #[(.ref a), (.int (2 : Int32)), (.ref x), (.int (3 : Int32))] below meth c s₁ [] 0 0 := Stand.of_body Bd
  have e0 : s₁.heap = h0 := by rw [← hh, Bd.state]; rfl
  have N0 := Fr.nil Z.heap.size
  have K0 : Keep h0 h0 [] := Keep.refl _ _
  refine own_start (Q := Q_own_at3_2 Z a x arr kk vs h0) (ef_own_at3_2 m (a) ((2 : Int32)) (x) ((3 : Int32))) ?_
  show own_G p e below (s₁.setTop (mkF m 0 #[.val (.ref a), .val (.int (2 : Int32)), .val (.ref x), .val (.int (3 : Int32))] [])) _
  refine own_go (fun t k => XS.iloadN X0.here hx rfl (hb hby d_method_2_code_0) rfl k) ?_
  refine own_go (fun t k => XS.iloadN X0.here hx rfl (hb hby d_method_2_code_1) rfl k) ?_
  refine own_go (fun t k => XS.icmpNo X0.here hx rfl (hb hby d_method_2_code_2) rfl (tlt (by decide : (2 : Int32) < (3 : Int32))).2.1 k) ?_
  show own_G p e below (s₁.setTop (mkF m 5 #[.val (.ref a), .val (.int (2 : Int32)), .val (.ref x), .val (.int (3 : Int32))] [])) _
  refine own_go (fun t k => XS.aloadN X0.here hx rfl (hb hby d_method_2_code_5) rfl rfl k) ?_
  refine own_go (fun t k => XS.iloadN X0.here hx rfl (hb hby d_method_2_code_6) rfl k) ?_
  obtain ⟨cq1z, kq1z, qa1z, qb1z, qc1z⟩ := isOf hZ e0 q0
  obtain ⟨_, _, ⟨T1z, L1z, k1z, n1z⟩, -, X1z, ⟨Lc1z, hQ1z, l1z, y1z, z1z⟩, st1z⟩ := X0.interfaceBack hx (xi := own_m27) (y := own_m13) hown (mvT hZ (own_hw hw 160 rfl)) (mvT hZ (own_hw hw 161 rfl)) (mvT hZ (own_hw hw 162 rfl)) (mvT hZ (own_hw hw 163 rfl)) (mvT hZ (own_hw hw 164 rfl)) (mvT hZ (own_hw hw 165 rfl)) (mvT hZ (own_hw hw 166 rfl)) (mvT hZ (own_hw hw 106 rfl)) (by decide) (backOf (W := 0) (own_get l Z a0 hw [] a (2 : Int32) arr kk vs 2 x (3 : Int32) h0 O0 q0 q1 q2 (by decide) hv q3 (by decide) (by decide)) hZ (own_hw hw 167 rfl) (own_hw hw 10 rfl) (by decide) (by decide)) qa1z qb1z qc1z (g := (mkF m 7 #[.val (.ref a), .val (.int (2 : Int32)), .val (.ref x), .val (.int (3 : Int32))] [(.int (2 : Int32)), (.ref a)])) rfl (by rw [hml]; rfl) (Steps.refl _) (argsL := [(.int (2 : Int32))]) (rest := []) (lenOf pd_3495176479 rfl) rfl (by show 2 * 0 + _ ≤ _; exact Nat.le_of_eq rfl) (hb hby d_method_2_code_7) (fun _ _ => ⟨rfl, e0, (by decide : 0 + 0 ≤ _), (by decide : 0 + 0 ≤ _)⟩)
  dsimp only [Pt.U, Pt.locs, Pt.cells, Pt.slots] at X1z l1z y1z z1z st1z hQ1z
  subst l1z y1z z1z
  obtain ⟨rfl, NQ1z, K1zq⟩ := hQ1z
  refine own_tr st1z ?_
  have N1z := Fr.app N0 NQ1z
  show own_G p e below (T1z.setTop (mkF m 12 #[.val (.ref a), .val (.int (2 : Int32)), .val (.ref x), .val (.int (3 : Int32))] [(.ref x)])) _
  refine own_go (fun t k => XS.aloadN X1z.here hx rfl (hb hby d_method_2_code_12) rfl rfl k) ?_
  refine own_go (fun t k => Jvm.RoadKit.acmp (g := (mkF m 13 #[.val (.ref a), .val (.int (2 : Int32)), .val (.ref x), .val (.int (3 : Int32))] [(.ref x), (.ref x)])) X1z hx rfl rfl rfl (pc0 := 13) (pc' := 16) (same := true) rfl (hb hby d_method_2_code_13) rfl (decide_eq_true (congrArg Value.ref rfl)) (by decide) (by decide) k) ?_
  show own_G p e below (T1z.setTop (mkF m 16 #[.val (.ref a), .val (.int (2 : Int32)), .val (.ref x), .val (.int (3 : Int32))] [])) _
  refine own_go (fun t k => XS.iconst X1z.here hx rfl (hb hby d_method_2_code_16) k) ?_
  refine own_go (fun t k => XS.goto X1z.here hx rfl (pc0 := 17) (pc' := 21) rfl (hb hby d_method_2_code_17) (by decide) (by decide) k) ?_
  show own_G p e below (T1z.setTop (mkF m 21 #[.val (.ref a), .val (.int (2 : Int32)), .val (.ref x), .val (.int (3 : Int32))] [(.int (1 : Int32))])) _
  exact own_ret X1z hx Bd.returns rfl (Or.inl ⟨rfl, Or.inr (Or.inl rfl), _, rfl⟩) (hb hby d_method_2_code_21) hlk (Nat.le_of_ble_eq_true rfl) (Nat.le_of_ble_eq_true rfl) (by show Q_own_at3_2 Z a x arr kk vs h0 _ T1z.heap _; rw [K1zq]; exact ⟨rfl, N1z, rfl⟩)
theorem ef_own_at3_3 (m : MethodId) (x0 : Addr) (x1 : Int32) (x2 : Addr) (x3 : Int32) : entryFrame m #[(.ref x0), (.int x1), (.ref x2), (.int x3)] 4 = mkF m 0 #[.val (.ref x0), .val (.int x1), .val (.ref x2), .val (.int x3)] [] := by first | (simp [entryFrame, mkF, argsToLocals, Value.category]; done) | rfl
theorem pf_own_at3_3 : plainFor own_m26 = true := plainFor_of_name (by simp [plainName, overriddenIn])
def Q_own_at3_3 (Z : State) (a : Addr) (x : Addr) (h0 : Heap) (v : Option Value) (h : Heap) (L : List Loc) : Prop := v = some (.int (1 : Int32)) ∧ Fr Z.heap.size L ∧ h = h0
set_option maxRecDepth 65536 in
set_option maxHeartbeats 40000000 in
theorem own_at3_3 (l : Launch) (Z : State) (a0 : Array Value) (hw : ∀ d ∈ tables_1, d.before a0 Z = true) (ws : List Jvm.Cond) (a : Addr) (x : Addr) (h0 : Heap) (O0 : Ext Z.heap h0) :
    MetFree l own_m26 (head1 (Jvm.Cond.code own_m26 method_2_code 4 (some .boolean) :: ws) ({ frames := 0, cells := 0, slots := 0, locals := 0 } : Room)) (fun aa U => aa = #[(.ref a), (.int (3 : Int32)), (.ref x), (.int (3 : Int32))] ∧ Z.Warmed39 U.vm ∧ U.heap = h0) (fun _ _ _ _ _ => True) (fun _ U o U' => ∃ v L, o = .returned v ∧ Q_own_at3_3 Z a x h0 v U'.heap L ∧ FrameEnd U o U' L ({ frames := 0, cells := 0, slots := 0, locals := 0 } : Room).cells ({ frames := 0, cells := 0, slots := 0, locals := 0 } : Room).slots) := by
  refine MetFree.of_bodySF pf_own_at3_3 hisR ?_
  intro p e s m args below meth c s₁ Bd hml0 hP hK
  obtain ⟨rfl, hZ, hh⟩ := hP
  have hx := Bd.exec
  have hby := Bd.bytes
  have hlk := BodyLoose.notSynchronized Bd
  have hml : c.maxLocals = 4 := hml0
  have hown : s.vm.findClass "com/example/etapa/etapa/mongodb/EntityBatchCopyOfPinLaw" = some m.cls := findClass_of_methodNamed Bd.named
  have hnm := (name_of_methodNamed Bd.named Bd.method).1
  have X0 : Stand p l e ({ frames := 0, cells := 0, slots := 0, locals := 0 } : Room) s m #[(.ref a), (.int (3 : Int32)), (.ref x), (.int (3 : Int32))] below meth c s₁ [] 0 0 := Stand.of_body Bd
  have e0 : s₁.heap = h0 := by rw [← hh, Bd.state]; rfl
  have N0 := Fr.nil Z.heap.size
  have K0 : Keep h0 h0 [] := Keep.refl _ _
  refine own_start (Q := Q_own_at3_3 Z a x h0) (ef_own_at3_3 m (a) ((3 : Int32)) (x) ((3 : Int32))) ?_
  show own_G p e below (s₁.setTop (mkF m 0 #[.val (.ref a), .val (.int (3 : Int32)), .val (.ref x), .val (.int (3 : Int32))] [])) _
  refine own_go (fun t k => XS.iloadN X0.here hx rfl (hb hby d_method_2_code_0) rfl k) ?_
  refine own_go (fun t k => XS.iloadN X0.here hx rfl (hb hby d_method_2_code_1) rfl k) ?_
  refine own_go (fun t k => XS.icmpYes X0.here hx rfl (pc0 := 2) (pc' := 16) rfl (hb hby d_method_2_code_2) rfl (flt (by decide : ¬ ((3 : Int32) < (3 : Int32)))).2.1 (by decide) (by decide) k) ?_
  show own_G p e below (s₁.setTop (mkF m 16 #[.val (.ref a), .val (.int (3 : Int32)), .val (.ref x), .val (.int (3 : Int32))] [])) _
  refine own_go (fun t k => XS.iconst X0.here hx rfl (hb hby d_method_2_code_16) k) ?_
  refine own_go (fun t k => XS.goto X0.here hx rfl (pc0 := 17) (pc' := 21) rfl (hb hby d_method_2_code_17) (by decide) (by decide) k) ?_
  show own_G p e below (s₁.setTop (mkF m 21 #[.val (.ref a), .val (.int (3 : Int32)), .val (.ref x), .val (.int (3 : Int32))] [(.int (1 : Int32))])) _
  exact own_ret X0 hx Bd.returns rfl (Or.inl ⟨rfl, Or.inr (Or.inl rfl), _, rfl⟩) (hb hby d_method_2_code_21) hlk (Nat.le_of_ble_eq_true rfl) (Nat.le_of_ble_eq_true rfl) (by show Q_own_at3_3 Z a x h0 _ s₁.heap _; rw [e0]; exact ⟨rfl, N0, rfl⟩)
theorem ef_own_at4_0 (m : MethodId) (x0 : Addr) (x1 : Int32) (x2 : Addr) (x3 : Int32) : entryFrame m #[(.ref x0), (.int x1), (.ref x2), (.int x3)] 4 = mkF m 0 #[.val (.ref x0), .val (.int x1), .val (.ref x2), .val (.int x3)] [] := by first | (simp [entryFrame, mkF, argsToLocals, Value.category]; done) | rfl
theorem pf_own_at4_0 : plainFor own_m26 = true := plainFor_of_name (by simp [plainName, overriddenIn])
def Q_own_at4_0 (Z : State) (a : Addr) (x : Addr) (arr : Addr) (kk : ClassId) (vs : (List Value)) (h0 : Heap) (v : Option Value) (h : Heap) (L : List Loc) : Prop := v = some (.int (1 : Int32)) ∧ Fr Z.heap.size L ∧ h = h0
set_option maxRecDepth 65536 in
set_option maxHeartbeats 40000000 in
theorem own_at4_0 (l : Launch) (Z : State) (a0 : Array Value) (hw : ∀ d ∈ tables_1, d.before a0 Z = true) (ws : List Jvm.Cond) (a : Addr) (x : Addr) (arr : Addr) (kk : ClassId) (vs : (List Value)) (h0 : Heap) (O0 : Ext Z.heap h0) (q0 : Exa Z h0 a "java/util/ArrayList") (q1 : Fld Z h0 a "java/util/ArrayList" "elementData" "[Ljava/lang/Object;" (.ref arr)) (q2 : own_A Z h0 arr kk (.object "java/lang/Object") vs) (q3 : Fld Z h0 a "java/util/ArrayList" "size" "I" (.int (4 : Int32))) (hv : vs[0]? = some (.ref x)) :
    MetFree l own_m26 (head1 (Jvm.Cond.code own_m26 method_2_code 4 (some .boolean) :: ws) ({ frames := 3, cells := 0, slots := 0, locals := 50 } : Room)) (fun aa U => aa = #[(.ref a), (.int (0 : Int32)), (.ref x), (.int (4 : Int32))] ∧ Z.Warmed39 U.vm ∧ U.heap = h0) (fun _ _ _ _ _ => True) (fun _ U o U' => ∃ v L, o = .returned v ∧ Q_own_at4_0 Z a x arr kk vs h0 v U'.heap L ∧ FrameEnd U o U' L ({ frames := 3, cells := 0, slots := 0, locals := 50 } : Room).cells ({ frames := 3, cells := 0, slots := 0, locals := 50 } : Room).slots) := by
  refine MetFree.of_bodySF pf_own_at4_0 hisR ?_
  intro p e s m args below meth c s₁ Bd hml0 hP hK
  obtain ⟨rfl, hZ, hh⟩ := hP
  have hx := Bd.exec
  have hby := Bd.bytes
  have hlk := BodyLoose.notSynchronized Bd
  have hml : c.maxLocals = 4 := hml0
  have hown : s.vm.findClass "com/example/etapa/etapa/mongodb/EntityBatchCopyOfPinLaw" = some m.cls := findClass_of_methodNamed Bd.named
  have hnm := (name_of_methodNamed Bd.named Bd.method).1
  have X0 : Stand p l e ({ frames := 3, cells := 0, slots := 0, locals := 50 } : Room) s m #[(.ref a), (.int (0 : Int32)), (.ref x), (.int (4 : Int32))] below meth c s₁ [] 0 0 := Stand.of_body Bd
  have e0 : s₁.heap = h0 := by rw [← hh, Bd.state]; rfl
  have N0 := Fr.nil Z.heap.size
  have K0 : Keep h0 h0 [] := Keep.refl _ _
  refine own_start (Q := Q_own_at4_0 Z a x arr kk vs h0) (ef_own_at4_0 m (a) ((0 : Int32)) (x) ((4 : Int32))) ?_
  show own_G p e below (s₁.setTop (mkF m 0 #[.val (.ref a), .val (.int (0 : Int32)), .val (.ref x), .val (.int (4 : Int32))] [])) _
  refine own_go (fun t k => XS.iloadN X0.here hx rfl (hb hby d_method_2_code_0) rfl k) ?_
  refine own_go (fun t k => XS.iloadN X0.here hx rfl (hb hby d_method_2_code_1) rfl k) ?_
  refine own_go (fun t k => XS.icmpNo X0.here hx rfl (hb hby d_method_2_code_2) rfl (tlt (by decide : (0 : Int32) < (4 : Int32))).2.1 k) ?_
  show own_G p e below (s₁.setTop (mkF m 5 #[.val (.ref a), .val (.int (0 : Int32)), .val (.ref x), .val (.int (4 : Int32))] [])) _
  refine own_go (fun t k => XS.aloadN X0.here hx rfl (hb hby d_method_2_code_5) rfl rfl k) ?_
  refine own_go (fun t k => XS.iloadN X0.here hx rfl (hb hby d_method_2_code_6) rfl k) ?_
  obtain ⟨cq1z, kq1z, qa1z, qb1z, qc1z⟩ := isOf hZ e0 q0
  obtain ⟨_, _, ⟨T1z, L1z, k1z, n1z⟩, -, X1z, ⟨Lc1z, hQ1z, l1z, y1z, z1z⟩, st1z⟩ := X0.interfaceBack hx (xi := own_m27) (y := own_m13) hown (mvT hZ (own_hw hw 160 rfl)) (mvT hZ (own_hw hw 161 rfl)) (mvT hZ (own_hw hw 162 rfl)) (mvT hZ (own_hw hw 163 rfl)) (mvT hZ (own_hw hw 164 rfl)) (mvT hZ (own_hw hw 165 rfl)) (mvT hZ (own_hw hw 166 rfl)) (mvT hZ (own_hw hw 106 rfl)) (by decide) (backOf (W := 0) (own_get l Z a0 hw [] a (0 : Int32) arr kk vs 0 x (4 : Int32) h0 O0 q0 q1 q2 (by decide) hv q3 (by decide) (by decide)) hZ (own_hw hw 167 rfl) (own_hw hw 10 rfl) (by decide) (by decide)) qa1z qb1z qc1z (g := (mkF m 7 #[.val (.ref a), .val (.int (0 : Int32)), .val (.ref x), .val (.int (4 : Int32))] [(.int (0 : Int32)), (.ref a)])) rfl (by rw [hml]; rfl) (Steps.refl _) (argsL := [(.int (0 : Int32))]) (rest := []) (lenOf pd_3495176479 rfl) rfl (by show 2 * 0 + _ ≤ _; exact Nat.le_of_eq rfl) (hb hby d_method_2_code_7) (fun _ _ => ⟨rfl, e0, (by decide : 0 + 0 ≤ _), (by decide : 0 + 0 ≤ _)⟩)
  dsimp only [Pt.U, Pt.locs, Pt.cells, Pt.slots] at X1z l1z y1z z1z st1z hQ1z
  subst l1z y1z z1z
  obtain ⟨rfl, NQ1z, K1zq⟩ := hQ1z
  refine own_tr st1z ?_
  have N1z := Fr.app N0 NQ1z
  show own_G p e below (T1z.setTop (mkF m 12 #[.val (.ref a), .val (.int (0 : Int32)), .val (.ref x), .val (.int (4 : Int32))] [(.ref x)])) _
  refine own_go (fun t k => XS.aloadN X1z.here hx rfl (hb hby d_method_2_code_12) rfl rfl k) ?_
  refine own_go (fun t k => Jvm.RoadKit.acmp (g := (mkF m 13 #[.val (.ref a), .val (.int (0 : Int32)), .val (.ref x), .val (.int (4 : Int32))] [(.ref x), (.ref x)])) X1z hx rfl rfl rfl (pc0 := 13) (pc' := 16) (same := true) rfl (hb hby d_method_2_code_13) rfl (decide_eq_true (congrArg Value.ref rfl)) (by decide) (by decide) k) ?_
  show own_G p e below (T1z.setTop (mkF m 16 #[.val (.ref a), .val (.int (0 : Int32)), .val (.ref x), .val (.int (4 : Int32))] [])) _
  refine own_go (fun t k => XS.iconst X1z.here hx rfl (hb hby d_method_2_code_16) k) ?_
  refine own_go (fun t k => XS.goto X1z.here hx rfl (pc0 := 17) (pc' := 21) rfl (hb hby d_method_2_code_17) (by decide) (by decide) k) ?_
  show own_G p e below (T1z.setTop (mkF m 21 #[.val (.ref a), .val (.int (0 : Int32)), .val (.ref x), .val (.int (4 : Int32))] [(.int (1 : Int32))])) _
  exact own_ret X1z hx Bd.returns rfl (Or.inl ⟨rfl, Or.inr (Or.inl rfl), _, rfl⟩) (hb hby d_method_2_code_21) hlk (Nat.le_of_ble_eq_true rfl) (Nat.le_of_ble_eq_true rfl) (by show Q_own_at4_0 Z a x arr kk vs h0 _ T1z.heap _; rw [K1zq]; exact ⟨rfl, N1z, rfl⟩)
theorem ef_own_at4_1 (m : MethodId) (x0 : Addr) (x1 : Int32) (x2 : Addr) (x3 : Int32) : entryFrame m #[(.ref x0), (.int x1), (.ref x2), (.int x3)] 4 = mkF m 0 #[.val (.ref x0), .val (.int x1), .val (.ref x2), .val (.int x3)] [] := by first | (simp [entryFrame, mkF, argsToLocals, Value.category]; done) | rfl
theorem pf_own_at4_1 : plainFor own_m26 = true := plainFor_of_name (by simp [plainName, overriddenIn])
def Q_own_at4_1 (Z : State) (a : Addr) (x : Addr) (arr : Addr) (kk : ClassId) (vs : (List Value)) (h0 : Heap) (v : Option Value) (h : Heap) (L : List Loc) : Prop := v = some (.int (1 : Int32)) ∧ Fr Z.heap.size L ∧ h = h0
set_option maxRecDepth 65536 in
set_option maxHeartbeats 40000000 in
theorem own_at4_1 (l : Launch) (Z : State) (a0 : Array Value) (hw : ∀ d ∈ tables_1, d.before a0 Z = true) (ws : List Jvm.Cond) (a : Addr) (x : Addr) (arr : Addr) (kk : ClassId) (vs : (List Value)) (h0 : Heap) (O0 : Ext Z.heap h0) (q0 : Exa Z h0 a "java/util/ArrayList") (q1 : Fld Z h0 a "java/util/ArrayList" "elementData" "[Ljava/lang/Object;" (.ref arr)) (q2 : own_A Z h0 arr kk (.object "java/lang/Object") vs) (q3 : Fld Z h0 a "java/util/ArrayList" "size" "I" (.int (4 : Int32))) (hv : vs[1]? = some (.ref x)) :
    MetFree l own_m26 (head1 (Jvm.Cond.code own_m26 method_2_code 4 (some .boolean) :: ws) ({ frames := 3, cells := 0, slots := 0, locals := 50 } : Room)) (fun aa U => aa = #[(.ref a), (.int (1 : Int32)), (.ref x), (.int (4 : Int32))] ∧ Z.Warmed39 U.vm ∧ U.heap = h0) (fun _ _ _ _ _ => True) (fun _ U o U' => ∃ v L, o = .returned v ∧ Q_own_at4_1 Z a x arr kk vs h0 v U'.heap L ∧ FrameEnd U o U' L ({ frames := 3, cells := 0, slots := 0, locals := 50 } : Room).cells ({ frames := 3, cells := 0, slots := 0, locals := 50 } : Room).slots) := by
  refine MetFree.of_bodySF pf_own_at4_1 hisR ?_
  intro p e s m args below meth c s₁ Bd hml0 hP hK
  obtain ⟨rfl, hZ, hh⟩ := hP
  have hx := Bd.exec
  have hby := Bd.bytes
  have hlk := BodyLoose.notSynchronized Bd
  have hml : c.maxLocals = 4 := hml0
  have hown : s.vm.findClass "com/example/etapa/etapa/mongodb/EntityBatchCopyOfPinLaw" = some m.cls := findClass_of_methodNamed Bd.named
  have hnm := (name_of_methodNamed Bd.named Bd.method).1
  have X0 : Stand p l e ({ frames := 3, cells := 0, slots := 0, locals := 50 } : Room) s m #[(.ref a), (.int (1 : Int32)), (.ref x), (.int (4 : Int32))] below meth c s₁ [] 0 0 := Stand.of_body Bd
  have e0 : s₁.heap = h0 := by rw [← hh, Bd.state]; rfl
  have N0 := Fr.nil Z.heap.size
  have K0 : Keep h0 h0 [] := Keep.refl _ _
  refine own_start (Q := Q_own_at4_1 Z a x arr kk vs h0) (ef_own_at4_1 m (a) ((1 : Int32)) (x) ((4 : Int32))) ?_
  show own_G p e below (s₁.setTop (mkF m 0 #[.val (.ref a), .val (.int (1 : Int32)), .val (.ref x), .val (.int (4 : Int32))] [])) _
  refine own_go (fun t k => XS.iloadN X0.here hx rfl (hb hby d_method_2_code_0) rfl k) ?_
  refine own_go (fun t k => XS.iloadN X0.here hx rfl (hb hby d_method_2_code_1) rfl k) ?_
  refine own_go (fun t k => XS.icmpNo X0.here hx rfl (hb hby d_method_2_code_2) rfl (tlt (by decide : (1 : Int32) < (4 : Int32))).2.1 k) ?_
  show own_G p e below (s₁.setTop (mkF m 5 #[.val (.ref a), .val (.int (1 : Int32)), .val (.ref x), .val (.int (4 : Int32))] [])) _
  refine own_go (fun t k => XS.aloadN X0.here hx rfl (hb hby d_method_2_code_5) rfl rfl k) ?_
  refine own_go (fun t k => XS.iloadN X0.here hx rfl (hb hby d_method_2_code_6) rfl k) ?_
  obtain ⟨cq1z, kq1z, qa1z, qb1z, qc1z⟩ := isOf hZ e0 q0
  obtain ⟨_, _, ⟨T1z, L1z, k1z, n1z⟩, -, X1z, ⟨Lc1z, hQ1z, l1z, y1z, z1z⟩, st1z⟩ := X0.interfaceBack hx (xi := own_m27) (y := own_m13) hown (mvT hZ (own_hw hw 160 rfl)) (mvT hZ (own_hw hw 161 rfl)) (mvT hZ (own_hw hw 162 rfl)) (mvT hZ (own_hw hw 163 rfl)) (mvT hZ (own_hw hw 164 rfl)) (mvT hZ (own_hw hw 165 rfl)) (mvT hZ (own_hw hw 166 rfl)) (mvT hZ (own_hw hw 106 rfl)) (by decide) (backOf (W := 0) (own_get l Z a0 hw [] a (1 : Int32) arr kk vs 1 x (4 : Int32) h0 O0 q0 q1 q2 (by decide) hv q3 (by decide) (by decide)) hZ (own_hw hw 167 rfl) (own_hw hw 10 rfl) (by decide) (by decide)) qa1z qb1z qc1z (g := (mkF m 7 #[.val (.ref a), .val (.int (1 : Int32)), .val (.ref x), .val (.int (4 : Int32))] [(.int (1 : Int32)), (.ref a)])) rfl (by rw [hml]; rfl) (Steps.refl _) (argsL := [(.int (1 : Int32))]) (rest := []) (lenOf pd_3495176479 rfl) rfl (by show 2 * 0 + _ ≤ _; exact Nat.le_of_eq rfl) (hb hby d_method_2_code_7) (fun _ _ => ⟨rfl, e0, (by decide : 0 + 0 ≤ _), (by decide : 0 + 0 ≤ _)⟩)
  dsimp only [Pt.U, Pt.locs, Pt.cells, Pt.slots] at X1z l1z y1z z1z st1z hQ1z
  subst l1z y1z z1z
  obtain ⟨rfl, NQ1z, K1zq⟩ := hQ1z
  refine own_tr st1z ?_
  have N1z := Fr.app N0 NQ1z
  show own_G p e below (T1z.setTop (mkF m 12 #[.val (.ref a), .val (.int (1 : Int32)), .val (.ref x), .val (.int (4 : Int32))] [(.ref x)])) _
  refine own_go (fun t k => XS.aloadN X1z.here hx rfl (hb hby d_method_2_code_12) rfl rfl k) ?_
  refine own_go (fun t k => Jvm.RoadKit.acmp (g := (mkF m 13 #[.val (.ref a), .val (.int (1 : Int32)), .val (.ref x), .val (.int (4 : Int32))] [(.ref x), (.ref x)])) X1z hx rfl rfl rfl (pc0 := 13) (pc' := 16) (same := true) rfl (hb hby d_method_2_code_13) rfl (decide_eq_true (congrArg Value.ref rfl)) (by decide) (by decide) k) ?_
  show own_G p e below (T1z.setTop (mkF m 16 #[.val (.ref a), .val (.int (1 : Int32)), .val (.ref x), .val (.int (4 : Int32))] [])) _
  refine own_go (fun t k => XS.iconst X1z.here hx rfl (hb hby d_method_2_code_16) k) ?_
  refine own_go (fun t k => XS.goto X1z.here hx rfl (pc0 := 17) (pc' := 21) rfl (hb hby d_method_2_code_17) (by decide) (by decide) k) ?_
  show own_G p e below (T1z.setTop (mkF m 21 #[.val (.ref a), .val (.int (1 : Int32)), .val (.ref x), .val (.int (4 : Int32))] [(.int (1 : Int32))])) _
  exact own_ret X1z hx Bd.returns rfl (Or.inl ⟨rfl, Or.inr (Or.inl rfl), _, rfl⟩) (hb hby d_method_2_code_21) hlk (Nat.le_of_ble_eq_true rfl) (Nat.le_of_ble_eq_true rfl) (by show Q_own_at4_1 Z a x arr kk vs h0 _ T1z.heap _; rw [K1zq]; exact ⟨rfl, N1z, rfl⟩)
theorem ef_own_at4_2 (m : MethodId) (x0 : Addr) (x1 : Int32) (x2 : Addr) (x3 : Int32) : entryFrame m #[(.ref x0), (.int x1), (.ref x2), (.int x3)] 4 = mkF m 0 #[.val (.ref x0), .val (.int x1), .val (.ref x2), .val (.int x3)] [] := by first | (simp [entryFrame, mkF, argsToLocals, Value.category]; done) | rfl
theorem pf_own_at4_2 : plainFor own_m26 = true := plainFor_of_name (by simp [plainName, overriddenIn])
def Q_own_at4_2 (Z : State) (a : Addr) (x : Addr) (arr : Addr) (kk : ClassId) (vs : (List Value)) (h0 : Heap) (v : Option Value) (h : Heap) (L : List Loc) : Prop := v = some (.int (1 : Int32)) ∧ Fr Z.heap.size L ∧ h = h0
set_option maxRecDepth 65536 in
set_option maxHeartbeats 40000000 in
theorem own_at4_2 (l : Launch) (Z : State) (a0 : Array Value) (hw : ∀ d ∈ tables_1, d.before a0 Z = true) (ws : List Jvm.Cond) (a : Addr) (x : Addr) (arr : Addr) (kk : ClassId) (vs : (List Value)) (h0 : Heap) (O0 : Ext Z.heap h0) (q0 : Exa Z h0 a "java/util/ArrayList") (q1 : Fld Z h0 a "java/util/ArrayList" "elementData" "[Ljava/lang/Object;" (.ref arr)) (q2 : own_A Z h0 arr kk (.object "java/lang/Object") vs) (q3 : Fld Z h0 a "java/util/ArrayList" "size" "I" (.int (4 : Int32))) (hv : vs[2]? = some (.ref x)) :
    MetFree l own_m26 (head1 (Jvm.Cond.code own_m26 method_2_code 4 (some .boolean) :: ws) ({ frames := 3, cells := 0, slots := 0, locals := 50 } : Room)) (fun aa U => aa = #[(.ref a), (.int (2 : Int32)), (.ref x), (.int (4 : Int32))] ∧ Z.Warmed39 U.vm ∧ U.heap = h0) (fun _ _ _ _ _ => True) (fun _ U o U' => ∃ v L, o = .returned v ∧ Q_own_at4_2 Z a x arr kk vs h0 v U'.heap L ∧ FrameEnd U o U' L ({ frames := 3, cells := 0, slots := 0, locals := 50 } : Room).cells ({ frames := 3, cells := 0, slots := 0, locals := 50 } : Room).slots) := by
  refine MetFree.of_bodySF pf_own_at4_2 hisR ?_
  intro p e s m args below meth c s₁ Bd hml0 hP hK
  obtain ⟨rfl, hZ, hh⟩ := hP
  have hx := Bd.exec
  have hby := Bd.bytes
  have hlk := BodyLoose.notSynchronized Bd
  have hml : c.maxLocals = 4 := hml0
  have hown : s.vm.findClass "com/example/etapa/etapa/mongodb/EntityBatchCopyOfPinLaw" = some m.cls := findClass_of_methodNamed Bd.named
  have hnm := (name_of_methodNamed Bd.named Bd.method).1
  have X0 : Stand p l e ({ frames := 3, cells := 0, slots := 0, locals := 50 } : Room) s m #[(.ref a), (.int (2 : Int32)), (.ref x), (.int (4 : Int32))] below meth c s₁ [] 0 0 := Stand.of_body Bd
  have e0 : s₁.heap = h0 := by rw [← hh, Bd.state]; rfl
  have N0 := Fr.nil Z.heap.size
  have K0 : Keep h0 h0 [] := Keep.refl _ _
  refine own_start (Q := Q_own_at4_2 Z a x arr kk vs h0) (ef_own_at4_2 m (a) ((2 : Int32)) (x) ((4 : Int32))) ?_
  show own_G p e below (s₁.setTop (mkF m 0 #[.val (.ref a), .val (.int (2 : Int32)), .val (.ref x), .val (.int (4 : Int32))] [])) _
  refine own_go (fun t k => XS.iloadN X0.here hx rfl (hb hby d_method_2_code_0) rfl k) ?_
  refine own_go (fun t k => XS.iloadN X0.here hx rfl (hb hby d_method_2_code_1) rfl k) ?_
  refine own_go (fun t k => XS.icmpNo X0.here hx rfl (hb hby d_method_2_code_2) rfl (tlt (by decide : (2 : Int32) < (4 : Int32))).2.1 k) ?_
  show own_G p e below (s₁.setTop (mkF m 5 #[.val (.ref a), .val (.int (2 : Int32)), .val (.ref x), .val (.int (4 : Int32))] [])) _
  refine own_go (fun t k => XS.aloadN X0.here hx rfl (hb hby d_method_2_code_5) rfl rfl k) ?_
  refine own_go (fun t k => XS.iloadN X0.here hx rfl (hb hby d_method_2_code_6) rfl k) ?_
  obtain ⟨cq1z, kq1z, qa1z, qb1z, qc1z⟩ := isOf hZ e0 q0
  obtain ⟨_, _, ⟨T1z, L1z, k1z, n1z⟩, -, X1z, ⟨Lc1z, hQ1z, l1z, y1z, z1z⟩, st1z⟩ := X0.interfaceBack hx (xi := own_m27) (y := own_m13) hown (mvT hZ (own_hw hw 160 rfl)) (mvT hZ (own_hw hw 161 rfl)) (mvT hZ (own_hw hw 162 rfl)) (mvT hZ (own_hw hw 163 rfl)) (mvT hZ (own_hw hw 164 rfl)) (mvT hZ (own_hw hw 165 rfl)) (mvT hZ (own_hw hw 166 rfl)) (mvT hZ (own_hw hw 106 rfl)) (by decide) (backOf (W := 0) (own_get l Z a0 hw [] a (2 : Int32) arr kk vs 2 x (4 : Int32) h0 O0 q0 q1 q2 (by decide) hv q3 (by decide) (by decide)) hZ (own_hw hw 167 rfl) (own_hw hw 10 rfl) (by decide) (by decide)) qa1z qb1z qc1z (g := (mkF m 7 #[.val (.ref a), .val (.int (2 : Int32)), .val (.ref x), .val (.int (4 : Int32))] [(.int (2 : Int32)), (.ref a)])) rfl (by rw [hml]; rfl) (Steps.refl _) (argsL := [(.int (2 : Int32))]) (rest := []) (lenOf pd_3495176479 rfl) rfl (by show 2 * 0 + _ ≤ _; exact Nat.le_of_eq rfl) (hb hby d_method_2_code_7) (fun _ _ => ⟨rfl, e0, (by decide : 0 + 0 ≤ _), (by decide : 0 + 0 ≤ _)⟩)
  dsimp only [Pt.U, Pt.locs, Pt.cells, Pt.slots] at X1z l1z y1z z1z st1z hQ1z
  subst l1z y1z z1z
  obtain ⟨rfl, NQ1z, K1zq⟩ := hQ1z
  refine own_tr st1z ?_
  have N1z := Fr.app N0 NQ1z
  show own_G p e below (T1z.setTop (mkF m 12 #[.val (.ref a), .val (.int (2 : Int32)), .val (.ref x), .val (.int (4 : Int32))] [(.ref x)])) _
  refine own_go (fun t k => XS.aloadN X1z.here hx rfl (hb hby d_method_2_code_12) rfl rfl k) ?_
  refine own_go (fun t k => Jvm.RoadKit.acmp (g := (mkF m 13 #[.val (.ref a), .val (.int (2 : Int32)), .val (.ref x), .val (.int (4 : Int32))] [(.ref x), (.ref x)])) X1z hx rfl rfl rfl (pc0 := 13) (pc' := 16) (same := true) rfl (hb hby d_method_2_code_13) rfl (decide_eq_true (congrArg Value.ref rfl)) (by decide) (by decide) k) ?_
  show own_G p e below (T1z.setTop (mkF m 16 #[.val (.ref a), .val (.int (2 : Int32)), .val (.ref x), .val (.int (4 : Int32))] [])) _
  refine own_go (fun t k => XS.iconst X1z.here hx rfl (hb hby d_method_2_code_16) k) ?_
  refine own_go (fun t k => XS.goto X1z.here hx rfl (pc0 := 17) (pc' := 21) rfl (hb hby d_method_2_code_17) (by decide) (by decide) k) ?_
  show own_G p e below (T1z.setTop (mkF m 21 #[.val (.ref a), .val (.int (2 : Int32)), .val (.ref x), .val (.int (4 : Int32))] [(.int (1 : Int32))])) _
  exact own_ret X1z hx Bd.returns rfl (Or.inl ⟨rfl, Or.inr (Or.inl rfl), _, rfl⟩) (hb hby d_method_2_code_21) hlk (Nat.le_of_ble_eq_true rfl) (Nat.le_of_ble_eq_true rfl) (by show Q_own_at4_2 Z a x arr kk vs h0 _ T1z.heap _; rw [K1zq]; exact ⟨rfl, N1z, rfl⟩)
theorem ef_own_at4_3 (m : MethodId) (x0 : Addr) (x1 : Int32) (x2 : Addr) (x3 : Int32) : entryFrame m #[(.ref x0), (.int x1), (.ref x2), (.int x3)] 4 = mkF m 0 #[.val (.ref x0), .val (.int x1), .val (.ref x2), .val (.int x3)] [] := by first | (simp [entryFrame, mkF, argsToLocals, Value.category]; done) | rfl
theorem pf_own_at4_3 : plainFor own_m26 = true := plainFor_of_name (by simp [plainName, overriddenIn])
def Q_own_at4_3 (Z : State) (a : Addr) (x : Addr) (arr : Addr) (kk : ClassId) (vs : (List Value)) (h0 : Heap) (v : Option Value) (h : Heap) (L : List Loc) : Prop := v = some (.int (1 : Int32)) ∧ Fr Z.heap.size L ∧ h = h0
set_option maxRecDepth 65536 in
set_option maxHeartbeats 40000000 in
theorem own_at4_3 (l : Launch) (Z : State) (a0 : Array Value) (hw : ∀ d ∈ tables_1, d.before a0 Z = true) (ws : List Jvm.Cond) (a : Addr) (x : Addr) (arr : Addr) (kk : ClassId) (vs : (List Value)) (h0 : Heap) (O0 : Ext Z.heap h0) (q0 : Exa Z h0 a "java/util/ArrayList") (q1 : Fld Z h0 a "java/util/ArrayList" "elementData" "[Ljava/lang/Object;" (.ref arr)) (q2 : own_A Z h0 arr kk (.object "java/lang/Object") vs) (q3 : Fld Z h0 a "java/util/ArrayList" "size" "I" (.int (4 : Int32))) (hv : vs[3]? = some (.ref x)) :
    MetFree l own_m26 (head1 (Jvm.Cond.code own_m26 method_2_code 4 (some .boolean) :: ws) ({ frames := 3, cells := 0, slots := 0, locals := 50 } : Room)) (fun aa U => aa = #[(.ref a), (.int (3 : Int32)), (.ref x), (.int (4 : Int32))] ∧ Z.Warmed39 U.vm ∧ U.heap = h0) (fun _ _ _ _ _ => True) (fun _ U o U' => ∃ v L, o = .returned v ∧ Q_own_at4_3 Z a x arr kk vs h0 v U'.heap L ∧ FrameEnd U o U' L ({ frames := 3, cells := 0, slots := 0, locals := 50 } : Room).cells ({ frames := 3, cells := 0, slots := 0, locals := 50 } : Room).slots) := by
  refine MetFree.of_bodySF pf_own_at4_3 hisR ?_
  intro p e s m args below meth c s₁ Bd hml0 hP hK
  obtain ⟨rfl, hZ, hh⟩ := hP
  have hx := Bd.exec
  have hby := Bd.bytes
  have hlk := BodyLoose.notSynchronized Bd
  have hml : c.maxLocals = 4 := hml0
  have hown : s.vm.findClass "com/example/etapa/etapa/mongodb/EntityBatchCopyOfPinLaw" = some m.cls := findClass_of_methodNamed Bd.named
  have hnm := (name_of_methodNamed Bd.named Bd.method).1
  have X0 : Stand p l e ({ frames := 3, cells := 0, slots := 0, locals := 50 } : Room) s m #[(.ref a), (.int (3 : Int32)), (.ref x), (.int (4 : Int32))] below meth c s₁ [] 0 0 := Stand.of_body Bd
  have e0 : s₁.heap = h0 := by rw [← hh, Bd.state]; rfl
  have N0 := Fr.nil Z.heap.size
  have K0 : Keep h0 h0 [] := Keep.refl _ _
  refine own_start (Q := Q_own_at4_3 Z a x arr kk vs h0) (ef_own_at4_3 m (a) ((3 : Int32)) (x) ((4 : Int32))) ?_
  show own_G p e below (s₁.setTop (mkF m 0 #[.val (.ref a), .val (.int (3 : Int32)), .val (.ref x), .val (.int (4 : Int32))] [])) _
  refine own_go (fun t k => XS.iloadN X0.here hx rfl (hb hby d_method_2_code_0) rfl k) ?_
  refine own_go (fun t k => XS.iloadN X0.here hx rfl (hb hby d_method_2_code_1) rfl k) ?_
  refine own_go (fun t k => XS.icmpNo X0.here hx rfl (hb hby d_method_2_code_2) rfl (tlt (by decide : (3 : Int32) < (4 : Int32))).2.1 k) ?_
  show own_G p e below (s₁.setTop (mkF m 5 #[.val (.ref a), .val (.int (3 : Int32)), .val (.ref x), .val (.int (4 : Int32))] [])) _
  refine own_go (fun t k => XS.aloadN X0.here hx rfl (hb hby d_method_2_code_5) rfl rfl k) ?_
  refine own_go (fun t k => XS.iloadN X0.here hx rfl (hb hby d_method_2_code_6) rfl k) ?_
  obtain ⟨cq1z, kq1z, qa1z, qb1z, qc1z⟩ := isOf hZ e0 q0
  obtain ⟨_, _, ⟨T1z, L1z, k1z, n1z⟩, -, X1z, ⟨Lc1z, hQ1z, l1z, y1z, z1z⟩, st1z⟩ := X0.interfaceBack hx (xi := own_m27) (y := own_m13) hown (mvT hZ (own_hw hw 160 rfl)) (mvT hZ (own_hw hw 161 rfl)) (mvT hZ (own_hw hw 162 rfl)) (mvT hZ (own_hw hw 163 rfl)) (mvT hZ (own_hw hw 164 rfl)) (mvT hZ (own_hw hw 165 rfl)) (mvT hZ (own_hw hw 166 rfl)) (mvT hZ (own_hw hw 106 rfl)) (by decide) (backOf (W := 0) (own_get l Z a0 hw [] a (3 : Int32) arr kk vs 3 x (4 : Int32) h0 O0 q0 q1 q2 (by decide) hv q3 (by decide) (by decide)) hZ (own_hw hw 167 rfl) (own_hw hw 10 rfl) (by decide) (by decide)) qa1z qb1z qc1z (g := (mkF m 7 #[.val (.ref a), .val (.int (3 : Int32)), .val (.ref x), .val (.int (4 : Int32))] [(.int (3 : Int32)), (.ref a)])) rfl (by rw [hml]; rfl) (Steps.refl _) (argsL := [(.int (3 : Int32))]) (rest := []) (lenOf pd_3495176479 rfl) rfl (by show 2 * 0 + _ ≤ _; exact Nat.le_of_eq rfl) (hb hby d_method_2_code_7) (fun _ _ => ⟨rfl, e0, (by decide : 0 + 0 ≤ _), (by decide : 0 + 0 ≤ _)⟩)
  dsimp only [Pt.U, Pt.locs, Pt.cells, Pt.slots] at X1z l1z y1z z1z st1z hQ1z
  subst l1z y1z z1z
  obtain ⟨rfl, NQ1z, K1zq⟩ := hQ1z
  refine own_tr st1z ?_
  have N1z := Fr.app N0 NQ1z
  show own_G p e below (T1z.setTop (mkF m 12 #[.val (.ref a), .val (.int (3 : Int32)), .val (.ref x), .val (.int (4 : Int32))] [(.ref x)])) _
  refine own_go (fun t k => XS.aloadN X1z.here hx rfl (hb hby d_method_2_code_12) rfl rfl k) ?_
  refine own_go (fun t k => Jvm.RoadKit.acmp (g := (mkF m 13 #[.val (.ref a), .val (.int (3 : Int32)), .val (.ref x), .val (.int (4 : Int32))] [(.ref x), (.ref x)])) X1z hx rfl rfl rfl (pc0 := 13) (pc' := 16) (same := true) rfl (hb hby d_method_2_code_13) rfl (decide_eq_true (congrArg Value.ref rfl)) (by decide) (by decide) k) ?_
  show own_G p e below (T1z.setTop (mkF m 16 #[.val (.ref a), .val (.int (3 : Int32)), .val (.ref x), .val (.int (4 : Int32))] [])) _
  refine own_go (fun t k => XS.iconst X1z.here hx rfl (hb hby d_method_2_code_16) k) ?_
  refine own_go (fun t k => XS.goto X1z.here hx rfl (pc0 := 17) (pc' := 21) rfl (hb hby d_method_2_code_17) (by decide) (by decide) k) ?_
  show own_G p e below (T1z.setTop (mkF m 21 #[.val (.ref a), .val (.int (3 : Int32)), .val (.ref x), .val (.int (4 : Int32))] [(.int (1 : Int32))])) _
  exact own_ret X1z hx Bd.returns rfl (Or.inl ⟨rfl, Or.inr (Or.inl rfl), _, rfl⟩) (hb hby d_method_2_code_21) hlk (Nat.le_of_ble_eq_true rfl) (Nat.le_of_ble_eq_true rfl) (by show Q_own_at4_3 Z a x arr kk vs h0 _ T1z.heap _; rw [K1zq]; exact ⟨rfl, N1z, rfl⟩)
theorem ef_own_num (m : MethodId) (x0 : Addr) : entryFrame m #[(.ref x0)] 1 = mkF m 0 #[.val (.ref x0)] [] := by first | (simp [entryFrame, mkF, argsToLocals, Value.category]; done) | rfl
theorem pf_own_num : plainFor own_m28 = true := plainFor_of_name (by simp [plainName, overriddenIn])
theorem d_jdk_18_method_1_code_0 : decode jdk_18_method_1_code 0 = .ok (.aload_n 0, 1) := by decide +kernel
theorem d_jdk_18_method_1_code_1 : decode jdk_18_method_1_code 1 = .ok (.invokespecial 1, 3) := by decide +kernel
theorem d_jdk_18_method_1_code_4 : decode jdk_18_method_1_code 4 = .ok (.return_, 1) := by decide +kernel
def Q_own_num (Z : State) (a : Addr) (h0 : Heap) (v : Option Value) (h : Heap) (L : List Loc) : Prop := v = none ∧ Fr Z.heap.size L ∧ h = h0
set_option maxRecDepth 65536 in
set_option maxHeartbeats 40000000 in
theorem own_num (l : Launch) (Z : State) (a0 : Array Value) (hw : ∀ d ∈ tables_1, d.before a0 Z = true) (ws : List Jvm.Cond) (a : Addr) (h0 : Heap) (O0 : Ext Z.heap h0) :
    MetFree l own_m28 (head1 (Jvm.Cond.code own_m28 jdk_18_method_1_code 1 none :: ws) ({ frames := 1, cells := 0, slots := 0, locals := 12 } : Room)) (fun aa U => aa = #[(.ref a)] ∧ Z.Warmed39 U.vm ∧ U.heap = h0) (fun _ _ _ _ _ => True) (fun _ U o U' => ∃ v L, o = .returned v ∧ Q_own_num Z a h0 v U'.heap L ∧ FrameEnd U o U' L ({ frames := 1, cells := 0, slots := 0, locals := 12 } : Room).cells ({ frames := 1, cells := 0, slots := 0, locals := 12 } : Room).slots) := by
  refine MetFree.of_bodySF pf_own_num hisR ?_
  intro p e s m args below meth c s₁ Bd hml0 hP hK
  obtain ⟨rfl, hZ, hh⟩ := hP
  have hx := Bd.exec
  have hby := Bd.bytes
  have hlk := BodyLoose.notSynchronized Bd
  have hml : c.maxLocals = 1 := hml0
  have hown : s.vm.findClass "java/lang/Number" = some m.cls := findClass_of_methodNamed Bd.named
  have hnm := (name_of_methodNamed Bd.named Bd.method).1
  have X0 : Stand p l e ({ frames := 1, cells := 0, slots := 0, locals := 12 } : Room) s m #[(.ref a)] below meth c s₁ [] 0 0 := Stand.of_body Bd
  have e0 : s₁.heap = h0 := by rw [← hh, Bd.state]; rfl
  have N0 := Fr.nil Z.heap.size
  have K0 : Keep h0 h0 [] := Keep.refl _ _
  refine own_start (Q := Q_own_num Z a h0) (ef_own_num m (a)) ?_
  show own_G p e below (s₁.setTop (mkF m 0 #[.val (.ref a)] [])) _
  refine own_go (fun t k => XS.aloadN X0.here hx rfl (hb hby d_jdk_18_method_1_code_0) rfl rfl k) ?_
  obtain ⟨T1z, X1z, e1z, st1z⟩ := initO X0 hx hZ hown (own_hw hw 192 rfl) (own_hw hw 27 rfl) (own_hw hw 28 rfl) e0 (g := (mkF m 1 #[.val (.ref a)] [(.ref a)])) rfl (by rw [hml]; rfl) rfl (hb hby d_jdk_18_method_1_code_1) (by decide) (W := 0) (by show 2 * 0 + _ ≤ _; exact Nat.le_of_eq rfl) (by decide)
  refine own_go st1z ?_
  show own_G p e below (T1z.setTop (mkF m 4 #[.val (.ref a)] [])) _
  exact own_retV X1z hx Bd.returns (hb hby d_jdk_18_method_1_code_4) hlk (Nat.le_of_ble_eq_true rfl) (Nat.le_of_ble_eq_true rfl) (by show Q_own_num Z a h0 _ T1z.heap _; rw [e1z]; exact ⟨rfl, N0, rfl⟩)
theorem ef_own_inti (m : MethodId) (x0 : Addr) (x1 : Int32) : entryFrame m #[(.ref x0), (.int x1)] 2 = mkF m 0 #[.val (.ref x0), .val (.int x1)] [] := by first | (simp [entryFrame, mkF, argsToLocals, Value.category]; done) | rfl
theorem pf_own_inti : plainFor own_m29 = true := plainFor_of_name (by simp [plainName, overriddenIn])
theorem d_jdk_33_method_23_code_0 : decode jdk_33_method_23_code 0 = .ok (.aload_n 0, 1) := by decide +kernel
theorem d_jdk_33_method_23_code_1 : decode jdk_33_method_23_code 1 = .ok (.invokespecial 202, 3) := by decide +kernel
theorem d_jdk_33_method_23_code_4 : decode jdk_33_method_23_code 4 = .ok (.aload_n 0, 1) := by decide +kernel
theorem d_jdk_33_method_23_code_5 : decode jdk_33_method_23_code 5 = .ok (.iload_n 1, 1) := by decide +kernel
theorem d_jdk_33_method_23_code_6 : decode jdk_33_method_23_code 6 = .ok (.putfield 205, 3) := by decide +kernel
theorem d_jdk_33_method_23_code_9 : decode jdk_33_method_23_code 9 = .ok (.return_, 1) := by decide +kernel
def Q_own_inti (Z : State) (a : Addr) (pv : Int32) (h0 : Heap) (v : Option Value) (h : Heap) (L : List Loc) : Prop := v = none ∧ Fr Z.heap.size L ∧ Keep h0 h [a] ∧ (Exa Z h a "java/lang/Integer")
set_option maxRecDepth 65536 in
set_option maxHeartbeats 40000000 in
theorem own_inti (l : Launch) (Z : State) (a0 : Array Value) (hw : ∀ d ∈ tables_1, d.before a0 Z = true) (ws : List Jvm.Cond) (a : Addr) (pv : Int32) (h0 : Heap) (O0 : Ext Z.heap h0) (q0 : Exa Z h0 a "java/lang/Integer") (q1 : Z.heap.size ≤ a) (q2 : Fld Z h0 a "java/lang/Integer" "value" "I" (.int (0 : Int32))) :
    MetFree l own_m29 (head1 (Jvm.Cond.code own_m29 jdk_33_method_23_code 2 none :: ws) ({ frames := 2, cells := 0, slots := 0, locals := 24 } : Room)) (fun aa U => aa = #[(.ref a), (.int pv)] ∧ Z.Warmed39 U.vm ∧ U.heap = h0) (fun _ _ _ _ _ => True) (fun _ U o U' => ∃ v L, o = .returned v ∧ Q_own_inti Z a pv h0 v U'.heap L ∧ FrameEnd U o U' L ({ frames := 2, cells := 0, slots := 0, locals := 24 } : Room).cells ({ frames := 2, cells := 0, slots := 0, locals := 24 } : Room).slots) := by
  refine MetFree.of_bodySF pf_own_inti hisR ?_
  intro p e s m args below meth c s₁ Bd hml0 hP hK
  obtain ⟨rfl, hZ, hh⟩ := hP
  have hx := Bd.exec
  have hby := Bd.bytes
  have hlk := BodyLoose.notSynchronized Bd
  have hml : c.maxLocals = 2 := hml0
  have hown : s.vm.findClass "java/lang/Integer" = some m.cls := findClass_of_methodNamed Bd.named
  have hnm := (name_of_methodNamed Bd.named Bd.method).1
  have X0 : Stand p l e ({ frames := 2, cells := 0, slots := 0, locals := 24 } : Room) s m #[(.ref a), (.int pv)] below meth c s₁ [] 0 0 := Stand.of_body Bd
  have e0 : s₁.heap = h0 := by rw [← hh, Bd.state]; rfl
  have N0 := Fr.nil Z.heap.size
  have K0 : Keep h0 h0 [a] := Keep.refl _ _
  refine own_start (Q := Q_own_inti Z a pv h0) (ef_own_inti m (a) (pv)) ?_
  show own_G p e below (s₁.setTop (mkF m 0 #[.val (.ref a), .val (.int pv)] [])) _
  refine own_go (fun t k => XS.aloadN X0.here hx rfl (hb hby d_jdk_33_method_23_code_0) rfl rfl k) ?_
  obtain ⟨_, _, ⟨T1z, L1z, k1z, n1z⟩, -, X1z, ⟨Lc1z, hQ1z, l1z, y1z, z1z⟩, st1z⟩ := X0.specialBack hx (y := own_m28) rfl hown (mvT hZ (own_hw hw 186 rfl)) (mvT hZ (own_hw hw 187 rfl)) (mvT hZ (own_hw hw 191 rfl)) (by decide) (backOf (W := 0) (own_num l Z a0 hw [] a h0 O0) hZ (own_hw hw 191 rfl) (own_hw hw 190 rfl) (by decide) (by decide)) (g := (mkF m 1 #[.val (.ref a), .val (.int pv)] [(.ref a)])) rfl (by rw [hml]; rfl) (Steps.refl _) (a := a) (argsL := []) (rest := []) (lenOf pd_193421996 rfl) rfl (by show 2 * 0 + _ ≤ _; exact Nat.le_of_eq rfl) (hb hby d_jdk_33_method_23_code_1) (fun _ _ => ⟨rfl, e0, (by decide : 0 + 0 ≤ _), (by decide : 0 + 0 ≤ _)⟩)
  dsimp only [Pt.U, Pt.locs, Pt.cells, Pt.slots] at X1z l1z y1z z1z st1z hQ1z
  subst l1z y1z z1z
  obtain ⟨rfl, NQ1z, K1zq⟩ := hQ1z
  refine own_tr st1z ?_
  have N1z := Fr.app N0 NQ1z
  show own_G p e below (T1z.setTop (mkF m 4 #[.val (.ref a), .val (.int pv)] [])) _
  refine own_go (fun t k => XS.aloadN X1z.here hx rfl (hb hby d_jdk_33_method_23_code_4) rfl rfl k) ?_
  refine own_go (fun t k => XS.iloadN X1z.here hx rfl (hb hby d_jdk_33_method_23_code_5) rfl k) ?_
  obtain ⟨T2z, h2z, X2z, e2z, W2z, st2z⟩ := putF X1z hx hZ hown (host := "") (Or.inl (own_hw hw 193 rfl)) Via.refl K1zq q2 q0 (Or.inr ⟨(own_hw hw 194 rfl), rfl, hnm⟩) (own_hw hw 181 rfl) (ty := .int) (by decide) rfl rfl (g := (mkF m 6 #[.val (.ref a), .val (.int pv)] [(.int pv), (.ref a)])) rfl rfl (hb hby d_jdk_33_method_23_code_6)
  refine own_go st2z ?_
  have N2z := Fr.snoc X2z N1z q1
  have F2z : Fld Z h2z a "java/lang/Integer" "value" "I" (.int pv) := q2.same W2z
  have O3z : Ext Z.heap h2z := own_ext_wr O0 W2z q1
  have K3z : Keep h0 h2z [a] := K0.wr W2z (Or.inl (List.mem_of_getElem? (i := 0) rfl))
  exact own_retV X2z hx Bd.returns (hb hby d_jdk_33_method_23_code_9) hlk (Nat.le_of_ble_eq_true rfl) (Nat.le_of_ble_eq_true rfl) (by show Q_own_inti Z a pv h0 _ T2z.heap _; rw [e2z]; exact ⟨rfl, N2z, K3z, (q0.wr W2z)⟩)
theorem ef_own_vo (m : MethodId) (x0 : Int32) : entryFrame m #[(.int x0)] 1 = mkF m 0 #[.val (.int x0)] [] := by first | (simp [entryFrame, mkF, argsToLocals, Value.category]; done) | rfl
theorem pf_own_vo : plainFor own_m30 = true := plainFor_of_name (by simp [plainName, overriddenIn])
theorem d_jdk_33_method_22_code_0 : decode jdk_33_method_22_code 0 = .ok (.iload_n 0, 1) := by decide +kernel
theorem d_jdk_33_method_22_code_1 : decode jdk_33_method_22_code 1 = .ok (.bipush (-128), 2) := by decide +kernel
theorem d_jdk_33_method_22_code_10 : decode jdk_33_method_22_code 10 = .ok (.if_icmp .gt 13, 3) := by decide +kernel
theorem d_jdk_33_method_22_code_13 : decode jdk_33_method_22_code 13 = .ok (.getstatic 195, 3) := by decide +kernel
theorem d_jdk_33_method_22_code_16 : decode jdk_33_method_22_code 16 = .ok (.iload_n 0, 1) := by decide +kernel
theorem d_jdk_33_method_22_code_17 : decode jdk_33_method_22_code 17 = .ok (.sipush 128, 3) := by decide +kernel
theorem d_jdk_33_method_22_code_20 : decode jdk_33_method_22_code 20 = .ok (.iadd, 1) := by decide +kernel
theorem d_jdk_33_method_22_code_21 : decode jdk_33_method_22_code 21 = .ok (.aaload, 1) := by decide +kernel
theorem d_jdk_33_method_22_code_22 : decode jdk_33_method_22_code 22 = .ok (.areturn, 1) := by decide +kernel
theorem d_jdk_33_method_22_code_23 : decode jdk_33_method_22_code 23 = .ok (.new 1, 3) := by decide +kernel
theorem d_jdk_33_method_22_code_26 : decode jdk_33_method_22_code 26 = .ok (.dup, 1) := by decide +kernel
theorem d_jdk_33_method_22_code_27 : decode jdk_33_method_22_code 27 = .ok (.iload_n 0, 1) := by decide +kernel
theorem d_jdk_33_method_22_code_28 : decode jdk_33_method_22_code 28 = .ok (.invokespecial 199, 3) := by decide +kernel
theorem d_jdk_33_method_22_code_3 : decode jdk_33_method_22_code 3 = .ok (.if_icmp .lt 20, 3) := by decide +kernel
theorem d_jdk_33_method_22_code_31 : decode jdk_33_method_22_code 31 = .ok (.areturn, 1) := by decide +kernel
theorem d_jdk_33_method_22_code_6 : decode jdk_33_method_22_code 6 = .ok (.iload_n 0, 1) := by decide +kernel
theorem d_jdk_33_method_22_code_7 : decode jdk_33_method_22_code 7 = .ok (.getstatic 191, 3) := by decide +kernel
def Q_own_vo (Z : State) (pv : Int32) (ca : Addr) (h0 : Heap) (v : Option Value) (h : Heap) (L : List Loc) : Prop := ∃ r : Addr, v = some (.ref r) ∧ Fr Z.heap.size L ∧ Keep h0 h [] ∧ (Exa Z h r "java/lang/Integer")
set_option maxRecDepth 65536 in
set_option maxHeartbeats 40000000 in
theorem own_vo (l : Launch) (Z : State) (a0 : Array Value) (hw : ∀ d ∈ tables_1, d.before a0 Z = true) (ws : List Jvm.Cond) (pv : Int32) (ca : Addr) (h0 : Heap) (O0 : Ext Z.heap h0) (S_H : Sta Z Z.heap "java/lang/Integer$IntegerCache" "high" "I" (.int (127 : Int32))) (S_C : Sta Z Z.heap "java/lang/Integer$IntegerCache" "cache" "[Ljava/lang/Integer;" (.ref ca)) (BX : ∃ (kc : ClassId) (vs : List Value), own_A Z Z.heap ca kc (.object "java/lang/Integer") vs ∧ ∀ j : Nat, j < 256 → ∃ y, vs[j]? = some (.ref y) ∧ Exa Z Z.heap y "java/lang/Integer") :
    MetFree l own_m30 (head1 (Jvm.Cond.code own_m30 jdk_33_method_22_code 1 (some (.object "java/lang/Integer")) :: ws) ({ frames := 3, cells := 1, slots := 1, locals := 40 } : Room)) (fun aa U => aa = #[(.int pv)] ∧ Z.Warmed39 U.vm ∧ U.heap = h0) (fun _ _ _ _ _ => True) (fun _ U o U' => ∃ v L, o = .returned v ∧ Q_own_vo Z pv ca h0 v U'.heap L ∧ FrameEnd U o U' L ({ frames := 3, cells := 1, slots := 1, locals := 40 } : Room).cells ({ frames := 3, cells := 1, slots := 1, locals := 40 } : Room).slots) := by
  refine MetFree.of_bodySF pf_own_vo hisR ?_
  intro p e s m args below meth c s₁ Bd hml0 hP hK
  obtain ⟨rfl, hZ, hh⟩ := hP
  have hx := Bd.exec
  have hby := Bd.bytes
  have hlk := BodyLoose.notSynchronized Bd
  have hml : c.maxLocals = 1 := hml0
  have hown : s.vm.findClass "java/lang/Integer" = some m.cls := findClass_of_methodNamed Bd.named
  have hnm := (name_of_methodNamed Bd.named Bd.method).1
  have X0 : Stand p l e ({ frames := 3, cells := 1, slots := 1, locals := 40 } : Room) s m #[(.int pv)] below meth c s₁ [] 0 0 := Stand.of_body Bd
  have e0 : s₁.heap = h0 := by rw [← hh, Bd.state]; rfl
  have N0 := Fr.nil Z.heap.size
  have K0 : Keep h0 h0 [] := Keep.refl _ _
  refine own_start (Q := Q_own_vo Z pv ca h0) (ef_own_vo m (pv)) ?_
  show own_G p e below (s₁.setTop (mkF m 0 #[.val (.int pv)] [])) _
  obtain ⟨kc, vs, AC, HBX⟩ := BX
  refine own_go (fun t k => XS.iloadN X0.here hx rfl (hb hby d_jdk_33_method_22_code_0) rfl k) ?_
  refine own_go (fun t k => XS.bipush X0.here hx rfl (hb hby d_jdk_33_method_22_code_1) k) ?_
  by_cases hc1z : pv < (-128 : Int32)
  · refine own_go (fun t k => XS.icmpYes X0.here hx rfl (pc0 := 3) (pc' := 23) rfl (hb hby d_jdk_33_method_22_code_3) rfl (tlt hc1z).1 (by decide) (by decide) k) ?_
    show own_G p e below (s₁.setTop (mkF m 23 #[.val (.int pv)] [])) _
    obtain ⟨T2z, h2z, X2z, e2z, E2z, A2z, D2z, -, st2z⟩ := newO X0 hx hZ hown (own_hw hw 180 rfl) (own_hw hw 181 rfl) (own_hw hw 3 rfl) e0 (g := (mkF m 23 #[.val (.int pv)] [])) rfl (hb hby d_jdk_33_method_22_code_23) (by decide) (by decide)
    obtain ⟨b2z, g2z⟩ : ∃ z, z = h0.size := ⟨_, rfl⟩
    rw [← g2z] at A2z D2z st2z
    have fr_b2z : Z.heap.size ≤ b2z := g2z ▸ O0.1
    have lz_b2z : h0.size ≤ b2z := g2z ▸ K0.1
    have O3z : Ext Z.heap h2z := own_ext_trans O0 E2z
    have K3z : Keep h0 h2z [] := K0.ext E2z
    have F2z_value : Fld Z h2z b2z "java/lang/Integer" "value" "I" (.int (0 : Int32)) := D2z (Or.inr (own_hw hw 194 rfl)) (ty := .int) (by decide)
    refine own_go st2z ?_
    refine own_go (fun t k => XS.dup X2z.here hx rfl (hb hby d_jdk_33_method_22_code_26) rfl rfl k) ?_
    refine own_go (fun t k => XS.iloadN X2z.here hx rfl (hb hby d_jdk_33_method_22_code_27) rfl k) ?_
    obtain ⟨_, _, ⟨T4z, L4z, k4z, n4z⟩, -, X4z, ⟨Lc4z, hQ4z, l4z, y4z, z4z⟩, st4z⟩ := X2z.specialBack hx (y := own_m29) rfl hown (mvT hZ (own_hw hw 182 rfl)) (mvT hZ (own_hw hw 183 rfl)) (mvT hZ (own_hw hw 185 rfl)) (by decide) (backOf (W := 1) (own_inti l Z a0 hw [] b2z pv h2z O3z A2z fr_b2z F2z_value) hZ (own_hw hw 185 rfl) (own_hw hw 3 rfl) (by decide) (by decide)) (g := (mkF m 28 #[.val (.int pv)] [(.int pv), (.ref b2z), (.ref b2z)])) rfl (by rw [hml]; rfl) (Steps.refl _) (a := b2z) (argsL := [(.int pv)]) (rest := [(.ref b2z)]) (lenOf pd_2087992021 rfl) rfl (by show 2 * 0 + _ ≤ _; exact Nat.le_of_eq rfl) (hb hby d_jdk_33_method_22_code_28) (fun _ _ => ⟨rfl, e2z, (by decide : 1 + 0 ≤ _), (by decide : 1 + 0 ≤ _)⟩)
    dsimp only [Pt.U, Pt.locs, Pt.cells, Pt.slots] at X4z l4z y4z z4z st4z hQ4z
    subst l4z y4z z4z
    obtain ⟨rfl, NQ4z, K4zq, r4z_0⟩ := hQ4z
    refine own_tr st4z ?_
    have N4z := Fr.app N0 NQ4z
    have O5z : Ext Z.heap T4z.heap := own_ext_keep O3z K4zq (allS fr_b2z all0)
    have K5z : Keep h0 T4z.heap [] := K3z.trans K4zq (allS (Or.inr lz_b2z) all0)
    show own_G p e below (T4z.setTop (mkF m 31 #[.val (.int pv)] [(.ref b2z)])) _
    exact own_ret X4z hx Bd.returns rfl (Or.inr (Or.inr (Or.inr (Or.inr ⟨rfl, rfl, rfl⟩)))) (hb hby d_jdk_33_method_22_code_31) hlk (Nat.le_of_ble_eq_true rfl) (Nat.le_of_ble_eq_true rfl) (by show Q_own_vo Z pv ca h0 _ T4z.heap _; exact ⟨b2z, rfl, N4z, K5z, r4z_0⟩)
  · refine own_go (fun t k => XS.icmpNo X0.here hx rfl (hb hby d_jdk_33_method_22_code_3) rfl (flt hc1z).1 k) ?_
    show own_G p e below (s₁.setTop (mkF m 6 #[.val (.int pv)] [])) _
    refine own_go (fun t k => XS.iloadN X0.here hx rfl (hb hby d_jdk_33_method_22_code_6) rfl k) ?_
    obtain ⟨T6z, X6z, e6z, st6z⟩ := getS2 X0 hx hZ hown (host := "") (Or.inl (own_hw hw 5 rfl)) Via.refl e0 (S_H.ext O0) (g := (mkF m 7 #[.val (.int pv)] [(.int pv)])) rfl (hb hby d_jdk_33_method_22_code_7)
    refine own_go st6z ?_
    by_cases hc7z : (127 : Int32) < pv
    · refine own_go (fun t k => XS.icmpYes X6z.here hx rfl (pc0 := 10) (pc' := 23) rfl (hb hby d_jdk_33_method_22_code_10) rfl (tlt hc7z).2.2.1 (by decide) (by decide) k) ?_
      show own_G p e below (T6z.setTop (mkF m 23 #[.val (.int pv)] [])) _
      obtain ⟨T8z, h8z, X8z, e8z, E8z, A8z, D8z, -, st8z⟩ := newO X6z hx hZ hown (own_hw hw 180 rfl) (own_hw hw 181 rfl) (own_hw hw 3 rfl) e6z (g := (mkF m 23 #[.val (.int pv)] [])) rfl (hb hby d_jdk_33_method_22_code_23) (by decide) (by decide)
      obtain ⟨b8z, g8z⟩ : ∃ z, z = h0.size := ⟨_, rfl⟩
      rw [← g8z] at A8z D8z st8z
      have fr_b8z : Z.heap.size ≤ b8z := g8z ▸ O0.1
      have lz_b8z : h0.size ≤ b8z := g8z ▸ K0.1
      have O9z : Ext Z.heap h8z := own_ext_trans O0 E8z
      have K9z : Keep h0 h8z [] := K0.ext E8z
      have F8z_value : Fld Z h8z b8z "java/lang/Integer" "value" "I" (.int (0 : Int32)) := D8z (Or.inr (own_hw hw 194 rfl)) (ty := .int) (by decide)
      refine own_go st8z ?_
      refine own_go (fun t k => XS.dup X8z.here hx rfl (hb hby d_jdk_33_method_22_code_26) rfl rfl k) ?_
      refine own_go (fun t k => XS.iloadN X8z.here hx rfl (hb hby d_jdk_33_method_22_code_27) rfl k) ?_
      obtain ⟨_, _, ⟨T10z, L10z, k10z, n10z⟩, -, X10z, ⟨Lc10z, hQ10z, l10z, y10z, z10z⟩, st10z⟩ := X8z.specialBack hx (y := own_m29) rfl hown (mvT hZ (own_hw hw 182 rfl)) (mvT hZ (own_hw hw 183 rfl)) (mvT hZ (own_hw hw 185 rfl)) (by decide) (backOf (W := 1) (own_inti l Z a0 hw [] b8z pv h8z O9z A8z fr_b8z F8z_value) hZ (own_hw hw 185 rfl) (own_hw hw 3 rfl) (by decide) (by decide)) (g := (mkF m 28 #[.val (.int pv)] [(.int pv), (.ref b8z), (.ref b8z)])) rfl (by rw [hml]; rfl) (Steps.refl _) (a := b8z) (argsL := [(.int pv)]) (rest := [(.ref b8z)]) (lenOf pd_2087992021 rfl) rfl (by show 2 * 0 + _ ≤ _; exact Nat.le_of_eq rfl) (hb hby d_jdk_33_method_22_code_28) (fun _ _ => ⟨rfl, e8z, (by decide : 1 + 0 ≤ _), (by decide : 1 + 0 ≤ _)⟩)
      dsimp only [Pt.U, Pt.locs, Pt.cells, Pt.slots] at X10z l10z y10z z10z st10z hQ10z
      subst l10z y10z z10z
      obtain ⟨rfl, NQ10z, K10zq, r10z_0⟩ := hQ10z
      refine own_tr st10z ?_
      have N10z := Fr.app N0 NQ10z
      have O11z : Ext Z.heap T10z.heap := own_ext_keep O9z K10zq (allS fr_b8z all0)
      have K11z : Keep h0 T10z.heap [] := K9z.trans K10zq (allS (Or.inr lz_b8z) all0)
      show own_G p e below (T10z.setTop (mkF m 31 #[.val (.int pv)] [(.ref b8z)])) _
      exact own_ret X10z hx Bd.returns rfl (Or.inr (Or.inr (Or.inr (Or.inr ⟨rfl, rfl, rfl⟩)))) (hb hby d_jdk_33_method_22_code_31) hlk (Nat.le_of_ble_eq_true rfl) (Nat.le_of_ble_eq_true rfl) (by show Q_own_vo Z pv ca h0 _ T10z.heap _; exact ⟨b8z, rfl, N10z, K11z, r10z_0⟩)
    · refine own_go (fun t k => XS.icmpNo X6z.here hx rfl (hb hby d_jdk_33_method_22_code_10) rfl (flt hc7z).2.2.1 k) ?_
      show own_G p e below (T6z.setTop (mkF m 13 #[.val (.int pv)] [])) _
      obtain ⟨T12z, X12z, e12z, st12z⟩ := getS2 X6z hx hZ hown (host := "") (Or.inl (own_hw hw 7 rfl)) Via.refl e6z (S_C.ext O0) (g := (mkF m 13 #[.val (.int pv)] [])) rfl (hb hby d_jdk_33_method_22_code_13)
      refine own_go st12z ?_
      refine own_go (fun t k => XS.iloadN X12z.here hx rfl (hb hby d_jdk_33_method_22_code_16) rfl k) ?_
      refine own_go (fun t k => XS.sipush X12z.here hx rfl (hb hby d_jdk_33_method_22_code_17) k) ?_
      refine own_go (fun t k => XS.iadd X12z.here hx rfl (hb hby d_jdk_33_method_22_code_20) rfl k) ?_
      show own_G p e below (T12z.setTop (mkF m 21 #[.val (.int pv)] [(.int (pv + (128 : Int32))), (.ref ca)])) _
      obtain ⟨y, hy, Ey⟩ := HBX _ (own_idx hc1z hc7z).2
      refine own_go (own_ldA X12z hx hZ e12z (AC.ext O0) rfl (i := (pv.toInt + 128).toNat) (v := (.ref y)) (own_idx hc1z hc7z).1 hy (g := (mkF m 21 #[.val (.int pv)] [(.int (pv + (128 : Int32))), (.ref ca)])) rfl rfl (hb hby d_jdk_33_method_22_code_21)) ?_
      exact own_ret X12z hx Bd.returns rfl (Or.inr (Or.inr (Or.inr (Or.inr ⟨rfl, rfl, rfl⟩)))) (hb hby d_jdk_33_method_22_code_22) hlk (Nat.le_of_ble_eq_true rfl) (Nat.le_of_ble_eq_true rfl) (by show Q_own_vo Z pv ca h0 _ T12z.heap _; rw [e12z]; exact ⟨y, rfl, N0, K0, (Ey.ext O0)⟩)
theorem ef_own_law (m : MethodId) (x0 : Int32) (x1 : Int32) (x2 : Int32) (x3 : Int32) (x4 : Int32) : entryFrame m #[(.int x0), (.int x1), (.int x2), (.int x3), (.int x4)] maxLocals = mkF m 0 #[.val (.int x0), .val (.int x1), .val (.int x2), .val (.int x3), .val (.int x4), .unset, .unset, .unset, .unset, .unset, .unset, .unset, .unset] [] := by first | (simp [entryFrame, mkF, argsToLocals, Value.category, maxLocals]; done) | rfl
theorem pf_own_law : plainFor x = true := plainFor_of_name (by simp [plainName, overriddenIn, x])
theorem pd_73316374 : parseMethodDescriptor "(I)Ljava/lang/Integer;" = some ⟨[.int], some (.object "java/lang/Integer")⟩ := by decide +kernel
theorem pd_548093608 : parseMethodDescriptor "(Ljava/util/Collection;)Ljava/util/List;" = some ⟨[(.object "java/util/Collection")], some (.object "java/util/List")⟩ := by decide +kernel
theorem pd_2223509722 : parseMethodDescriptor "(Ljava/util/List;ILjava/lang/Integer;I)Z" = some ⟨[(.object "java/util/List"), .int, (.object "java/lang/Integer"), .int], some .boolean⟩ := by decide +kernel
def Q_own_law (Z : State) (p0 : Int32) (p1 : Int32) (p2 : Int32) (p3 : Int32) (p4 : Int32) (dE : Addr) (kd : ClassId) (eE : Addr) (ca : Addr) (h0 : Heap) (v : Option Value) (h : Heap) (L : List Loc) : Prop := v = some (.int (1 : Int32)) ∧ Fr Z.heap.size L ∧ Keep h0 h []
set_option maxRecDepth 65536 in
set_option maxHeartbeats 40000000 in
theorem own_law (l : Launch) (Z : State) (a0 : Array Value) (hw : ∀ d ∈ tables_1, d.before a0 Z = true) (ws : List Jvm.Cond) (p0 : Int32) (p1 : Int32) (p2 : Int32) (p3 : Int32) (p4 : Int32) (dE : Addr) (kd : ClassId) (eE : Addr) (ca : Addr) (h0 : Heap) (O0 : Ext Z.heap h0) (S_D : Sta Z Z.heap "java/util/ArrayList" "DEFAULTCAPACITY_EMPTY_ELEMENTDATA" "[Ljava/lang/Object;" (.ref dE)) (BD : own_A Z Z.heap dE kd (.object "java/lang/Object") []) (S_E : Sta Z Z.heap "java/util/ArrayList" "EMPTY_ELEMENTDATA" "[Ljava/lang/Object;" (.ref eE)) (S_H : Sta Z Z.heap "java/lang/Integer$IntegerCache" "high" "I" (.int (127 : Int32))) (S_C : Sta Z Z.heap "java/lang/Integer$IntegerCache" "cache" "[Ljava/lang/Integer;" (.ref ca)) (BX : ∃ (kc : ClassId) (vs : List Value), own_A Z Z.heap ca kc (.object "java/lang/Integer") vs ∧ ∀ j : Nat, j < 256 → ∃ y, vs[j]? = some (.ref y) ∧ Exa Z Z.heap y "java/lang/Integer") :
    MetFree l x (head1 (Jvm.Cond.code x code maxLocals ret :: ws) room_1) (fun aa U => aa = #[(.int p0), (.int p1), (.int p2), (.int p3), (.int p4)] ∧ Z.Warmed39 U.vm ∧ U.heap = h0) (fun _ _ _ _ _ => True) (fun _ U o U' => ∃ v L, o = .returned v ∧ Q_own_law Z p0 p1 p2 p3 p4 dE kd eE ca h0 v U'.heap L ∧ ReturnedEndW U o U' L room_1.cells room_1.slots) := by
  refine MetFree.of_bodySF pf_own_law hisR ?_
  intro p e s m args below meth c s₁ Bd hml0 hP hK
  obtain ⟨rfl, hZ, hh⟩ := hP
  have hx := Bd.exec
  have hby := Bd.bytes
  have hlk := BodyLoose.notSynchronized Bd
  have hml : c.maxLocals = 13 := hml0
  have hown : s.vm.findClass "com/example/etapa/etapa/mongodb/EntityBatchCopyOfPinLaw" = some m.cls := findClass_of_methodNamed Bd.named
  have hnm := (name_of_methodNamed Bd.named Bd.method).1
  have X0 : Stand p l e room_1 s m #[(.int p0), (.int p1), (.int p2), (.int p3), (.int p4)] below meth c s₁ [] 0 0 := Stand.of_body Bd
  have e0 : s₁.heap = h0 := by rw [← hh, Bd.state]; rfl
  have N0 := Fr.nil Z.heap.size
  have K0 : Keep h0 h0 [] := Keep.refl _ _
  have Si0 : s.Since s.vm h0.size := (State.WarmedH.refl s).since h0.size
  have Sn0 : h0.size ≤ h0.size := Nat.le_refl _
  have hZ : Z.Warmed39 (s.setVm s.vm).vm := hZ
  have hown : (s.setVm s.vm).vm.findClass "com/example/etapa/etapa/mongodb/EntityBatchCopyOfPinLaw" = some m.cls := hown
  have X0 := (show Stand _ _ _ _ (s.setVm s.vm) _ _ _ _ _ _ _ _ _ from X0)
  refine own_startW (Q := Q_own_law Z p0 p1 p2 p3 p4 dE kd eE ca h0) (ef_own_law m (p0) (p1) (p2) (p3) (p4)) ?_
  show own_G p e below (s₁.setTop (mkF m 0 #[.val (.int p0), .val (.int p1), .val (.int p2), .val (.int p3), .val (.int p4), .unset, .unset, .unset, .unset, .unset, .unset, .unset, .unset] [])) _
  refine own_go (fun t k => XS.iloadN X0.here hx rfl (hb hby at_0) rfl k) ?_
  refine own_go (fun t k => X0.ldcI hx hown (mvT hZ (own_hw hw 0 rfl)) rfl (hb hby at_1) k) ?_
  refine own_go (fun t k => XS.iand X0.here hx rfl (hb hby at_3) rfl k) ?_
  refine own_go (fun t k => XS.iconst X0.here hx rfl (hb hby at_4) k) ?_
  show own_G p e below (s₁.setTop (mkF m 5 #[.val (.int p0), .val (.int p1), .val (.int p2), .val (.int p3), .val (.int p4), .unset, .unset, .unset, .unset, .unset, .unset, .unset, .unset] [(.int (5 : Int32)), (.int (p0 &&& (2147483647 : Int32)))])) _
  refine own_go (fun t k => iremM X0 hx rfl (hb hby at_5) rfl (by decide) k) ?_
  rcases own_mod5 p0 with hk | hk | hk | hk | hk
  · rw [hk]
    show own_G p e below (s₁.setTop (mkF m 6 #[.val (.int p0), .val (.int p1), .val (.int p2), .val (.int p3), .val (.int p4), .unset, .unset, .unset, .unset, .unset, .unset, .unset, .unset] [(.int (0 : Int32))])) _
    refine own_go (fun t k => XS.istore X0.here hx rfl (hb hby at_6) rfl (l' := #[.val (.int p0), .val (.int p1), .val (.int p2), .val (.int p3), .val (.int p4), .val (.int (0 : Int32)), .unset, .unset, .unset, .unset, .unset, .unset, .unset]) rfl k) ?_
    refine own_go (fun t k => XS.iloadN X0.here hx rfl (hb hby at_8) rfl k) ?_
    obtain ⟨_, _, ⟨T1z, L1z, k1z, n1z⟩, -, X1z, ⟨Lc1z, hQ1z, l1z, y1z, z1z⟩, st1z⟩ := Jvm.LawKit.callS X0 hx (y := own_m30) hown (mvT hZ (own_hw hw 1 rfl)) (mvT hZ (own_hw hw 2 rfl)) (mvT hZ (own_hw hw 3 rfl)) (mvT hZ (own_hw hw 4 rfl)) (by decide) (backOf (W := 0) (own_vo l Z a0 hw [] p1 ca h0 O0 S_H S_C BX) hZ (own_hw hw 4 rfl) (own_hw hw 3 rfl) (by decide) (by decide)) (g := (mkF m 9 #[.val (.int p0), .val (.int p1), .val (.int p2), .val (.int p3), .val (.int p4), .val (.int (0 : Int32)), .unset, .unset, .unset, .unset, .unset, .unset, .unset] [(.int p1)])) rfl (by rw [hml]; rfl) (argsL := [(.int p1)]) (rest := []) (lenOf pd_73316374 rfl) rfl (by show 2 * 0 + _ ≤ _; exact Nat.le_of_eq rfl) (hb hby at_9) (fun _ _ => ⟨rfl, e0, (by decide : 0 + 1 ≤ _), (by decide : 0 + 1 ≤ _)⟩)
    dsimp only [Pt.U, Pt.locs, Pt.cells, Pt.slots] at X1z l1z y1z z1z st1z hQ1z
    subst l1z y1z z1z
    obtain ⟨r_1z, rfl, NQ1z, K1zq, r1z_0⟩ := hQ1z
    refine own_go st1z ?_
    have N1z := Fr.app N0 NQ1z
    have O2z : Ext Z.heap T1z.heap := own_ext_keep O0 K1zq all0
    have K2z : Keep h0 T1z.heap [] := K0.trans K1zq all0
    have Sn2z := Nat.le_trans Sn0 K1zq.1
    show own_G p e below (T1z.setTop (mkF m 12 #[.val (.int p0), .val (.int p1), .val (.int p2), .val (.int p3), .val (.int p4), .val (.int (0 : Int32)), .unset, .unset, .unset, .unset, .unset, .unset, .unset] [(.ref r_1z)])) _
    refine own_go (fun t k => XS.astore X1z.here hx rfl (hb hby at_12) rfl rfl (l' := #[.val (.int p0), .val (.int p1), .val (.int p2), .val (.int p3), .val (.int p4), .val (.int (0 : Int32)), .val (.ref r_1z), .unset, .unset, .unset, .unset, .unset, .unset]) rfl k) ?_
    refine own_go (fun t k => XS.iloadN X1z.here hx rfl (hb hby at_14) rfl k) ?_
    obtain ⟨_, _, ⟨T3z, L3z, k3z, n3z⟩, -, X3z, ⟨Lc3z, hQ3z, l3z, y3z, z3z⟩, st3z⟩ := Jvm.LawKit.callS X1z hx (y := own_m30) hown (mvT hZ (own_hw hw 1 rfl)) (mvT hZ (own_hw hw 2 rfl)) (mvT hZ (own_hw hw 3 rfl)) (mvT hZ (own_hw hw 4 rfl)) (by decide) (backOf (W := 0) (own_vo l Z a0 hw [] p2 ca T1z.heap O2z S_H S_C BX) hZ (own_hw hw 4 rfl) (own_hw hw 3 rfl) (by decide) (by decide)) (g := (mkF m 15 #[.val (.int p0), .val (.int p1), .val (.int p2), .val (.int p3), .val (.int p4), .val (.int (0 : Int32)), .val (.ref r_1z), .unset, .unset, .unset, .unset, .unset, .unset] [(.int p2)])) rfl (by rw [hml]; rfl) (argsL := [(.int p2)]) (rest := []) (lenOf pd_73316374 rfl) rfl (by show 2 * 0 + _ ≤ _; exact Nat.le_of_eq rfl) (hb hby at_15) (fun _ _ => ⟨rfl, rfl, (by decide : 1 + 1 ≤ _), (by decide : 1 + 1 ≤ _)⟩)
    dsimp only [Pt.U, Pt.locs, Pt.cells, Pt.slots] at X3z l3z y3z z3z st3z hQ3z
    subst l3z y3z z3z
    obtain ⟨r_3z, rfl, NQ3z, K3zq, r3z_0⟩ := hQ3z
    refine own_go st3z ?_
    have N3z := Fr.app N1z NQ3z
    have O4z : Ext Z.heap T3z.heap := own_ext_keep O2z K3zq all0
    have K4z : Keep h0 T3z.heap [] := K2z.trans K3zq all0
    have Sn4z := Nat.le_trans Sn2z K3zq.1
    show own_G p e below (T3z.setTop (mkF m 18 #[.val (.int p0), .val (.int p1), .val (.int p2), .val (.int p3), .val (.int p4), .val (.int (0 : Int32)), .val (.ref r_1z), .unset, .unset, .unset, .unset, .unset, .unset] [(.ref r_3z)])) _
    refine own_go (fun t k => XS.astore X3z.here hx rfl (hb hby at_18) rfl rfl (l' := #[.val (.int p0), .val (.int p1), .val (.int p2), .val (.int p3), .val (.int p4), .val (.int (0 : Int32)), .val (.ref r_1z), .val (.ref r_3z), .unset, .unset, .unset, .unset, .unset]) rfl k) ?_
    refine own_go (fun t k => XS.iloadN X3z.here hx rfl (hb hby at_20) rfl k) ?_
    obtain ⟨_, _, ⟨T5z, L5z, k5z, n5z⟩, -, X5z, ⟨Lc5z, hQ5z, l5z, y5z, z5z⟩, st5z⟩ := Jvm.LawKit.callS X3z hx (y := own_m30) hown (mvT hZ (own_hw hw 1 rfl)) (mvT hZ (own_hw hw 2 rfl)) (mvT hZ (own_hw hw 3 rfl)) (mvT hZ (own_hw hw 4 rfl)) (by decide) (backOf (W := 0) (own_vo l Z a0 hw [] p3 ca T3z.heap O4z S_H S_C BX) hZ (own_hw hw 4 rfl) (own_hw hw 3 rfl) (by decide) (by decide)) (g := (mkF m 21 #[.val (.int p0), .val (.int p1), .val (.int p2), .val (.int p3), .val (.int p4), .val (.int (0 : Int32)), .val (.ref r_1z), .val (.ref r_3z), .unset, .unset, .unset, .unset, .unset] [(.int p3)])) rfl (by rw [hml]; rfl) (argsL := [(.int p3)]) (rest := []) (lenOf pd_73316374 rfl) rfl (by show 2 * 0 + _ ≤ _; exact Nat.le_of_eq rfl) (hb hby at_21) (fun _ _ => ⟨rfl, rfl, (by decide : 2 + 1 ≤ _), (by decide : 2 + 1 ≤ _)⟩)
    dsimp only [Pt.U, Pt.locs, Pt.cells, Pt.slots] at X5z l5z y5z z5z st5z hQ5z
    subst l5z y5z z5z
    obtain ⟨r_5z, rfl, NQ5z, K5zq, r5z_0⟩ := hQ5z
    refine own_go st5z ?_
    have N5z := Fr.app N3z NQ5z
    have O6z : Ext Z.heap T5z.heap := own_ext_keep O4z K5zq all0
    have K6z : Keep h0 T5z.heap [] := K4z.trans K5zq all0
    have Sn6z := Nat.le_trans Sn4z K5zq.1
    show own_G p e below (T5z.setTop (mkF m 24 #[.val (.int p0), .val (.int p1), .val (.int p2), .val (.int p3), .val (.int p4), .val (.int (0 : Int32)), .val (.ref r_1z), .val (.ref r_3z), .unset, .unset, .unset, .unset, .unset] [(.ref r_5z)])) _
    refine own_go (fun t k => XS.astore X5z.here hx rfl (hb hby at_24) rfl rfl (l' := #[.val (.int p0), .val (.int p1), .val (.int p2), .val (.int p3), .val (.int p4), .val (.int (0 : Int32)), .val (.ref r_1z), .val (.ref r_3z), .val (.ref r_5z), .unset, .unset, .unset, .unset]) rfl k) ?_
    refine own_go (fun t k => XS.iload X5z.here hx rfl (hb hby at_26) rfl k) ?_
    obtain ⟨_, _, ⟨T7z, L7z, k7z, n7z⟩, -, X7z, ⟨Lc7z, hQ7z, l7z, y7z, z7z⟩, st7z⟩ := Jvm.LawKit.callS X5z hx (y := own_m30) hown (mvT hZ (own_hw hw 1 rfl)) (mvT hZ (own_hw hw 2 rfl)) (mvT hZ (own_hw hw 3 rfl)) (mvT hZ (own_hw hw 4 rfl)) (by decide) (backOf (W := 0) (own_vo l Z a0 hw [] p4 ca T5z.heap O6z S_H S_C BX) hZ (own_hw hw 4 rfl) (own_hw hw 3 rfl) (by decide) (by decide)) (g := (mkF m 28 #[.val (.int p0), .val (.int p1), .val (.int p2), .val (.int p3), .val (.int p4), .val (.int (0 : Int32)), .val (.ref r_1z), .val (.ref r_3z), .val (.ref r_5z), .unset, .unset, .unset, .unset] [(.int p4)])) rfl (by rw [hml]; rfl) (argsL := [(.int p4)]) (rest := []) (lenOf pd_73316374 rfl) rfl (by show 2 * 0 + _ ≤ _; exact Nat.le_of_eq rfl) (hb hby at_28) (fun _ _ => ⟨rfl, rfl, (by decide : 3 + 1 ≤ _), (by decide : 3 + 1 ≤ _)⟩)
    dsimp only [Pt.U, Pt.locs, Pt.cells, Pt.slots] at X7z l7z y7z z7z st7z hQ7z
    subst l7z y7z z7z
    obtain ⟨r_7z, rfl, NQ7z, K7zq, r7z_0⟩ := hQ7z
    refine own_go st7z ?_
    have N7z := Fr.app N5z NQ7z
    have O8z : Ext Z.heap T7z.heap := own_ext_keep O6z K7zq all0
    have K8z : Keep h0 T7z.heap [] := K6z.trans K7zq all0
    have Sn8z := Nat.le_trans Sn6z K7zq.1
    show own_G p e below (T7z.setTop (mkF m 31 #[.val (.int p0), .val (.int p1), .val (.int p2), .val (.int p3), .val (.int p4), .val (.int (0 : Int32)), .val (.ref r_1z), .val (.ref r_3z), .val (.ref r_5z), .unset, .unset, .unset, .unset] [(.ref r_7z)])) _
    refine own_go (fun t k => XS.astore X7z.here hx rfl (hb hby at_31) rfl rfl (l' := #[.val (.int p0), .val (.int p1), .val (.int p2), .val (.int p3), .val (.int p4), .val (.int (0 : Int32)), .val (.ref r_1z), .val (.ref r_3z), .val (.ref r_5z), .val (.ref r_7z), .unset, .unset, .unset]) rfl k) ?_
    obtain ⟨T9z, h9z, X9z, e9z, E9z, A9z, D9z, -, st9z⟩ := newO X7z hx hZ hown (own_hw hw 8 rfl) (own_hw hw 9 rfl) (own_hw hw 10 rfl) rfl (g := (mkF m 33 #[.val (.int p0), .val (.int p1), .val (.int p2), .val (.int p3), .val (.int p4), .val (.int (0 : Int32)), .val (.ref r_1z), .val (.ref r_3z), .val (.ref r_5z), .val (.ref r_7z), .unset, .unset, .unset] [])) rfl (hb hby at_33) (by decide) (by decide)
    obtain ⟨b9z, g9z⟩ : ∃ z, z = T7z.heap.size := ⟨_, rfl⟩
    rw [← g9z] at A9z D9z st9z
    have fr_b9z : Z.heap.size ≤ b9z := g9z ▸ O8z.1
    have lz_b9z : h0.size ≤ b9z := g9z ▸ K8z.1
    have ne_r_1z_b9z : r_1z ≠ b9z := Nat.ne_of_lt (g9z ▸ (((r1z_0.keep K3zq).keep K5zq).keep K7zq).lt)
    have ne_r_3z_b9z : r_3z ≠ b9z := Nat.ne_of_lt (g9z ▸ ((r3z_0.keep K5zq).keep K7zq).lt)
    have ne_r_5z_b9z : r_5z ≠ b9z := Nat.ne_of_lt (g9z ▸ (r5z_0.keep K7zq).lt)
    have ne_r_7z_b9z : r_7z ≠ b9z := Nat.ne_of_lt (g9z ▸ r7z_0.lt)
    have O10z : Ext Z.heap h9z := own_ext_trans O8z E9z
    have K10z : Keep h0 h9z [] := K8z.ext E9z
    have Sn10z := Nat.le_trans Sn8z E9z.1
    have F9z_modCount : Fld Z h9z b9z "java/util/AbstractList" "modCount" "I" (.int (0 : Int32)) := D9z (Or.inl (own_hw hw 30 rfl)) (ty := .int) (by decide)
    have F9z_elementData : Fld Z h9z b9z "java/util/ArrayList" "elementData" "[Ljava/lang/Object;" .null := D9z (Or.inl (own_hw hw 33 rfl)) (ty := (.array (.object "java/lang/Object"))) (by decide)
    have F9z_size : Fld Z h9z b9z "java/util/ArrayList" "size" "I" (.int (0 : Int32)) := D9z (Or.inl (own_hw hw 61 rfl)) (ty := .int) (by decide)
    refine own_go st9z ?_
    refine own_go (fun t k => XS.dup X9z.here hx rfl (hb hby at_36) rfl rfl k) ?_
    obtain ⟨_, _, ⟨T11z, L11z, k11z, n11z⟩, -, X11z, ⟨Lc11z, hQ11z, l11z, y11z, z11z⟩, st11z⟩ := X9z.specialBack hx (y := own_m2) rfl hown (mvT hZ (own_hw hw 11 rfl)) (mvT hZ (own_hw hw 12 rfl)) (mvT hZ (own_hw hw 13 rfl)) (by decide) (backOf (W := 1) (own_ali l Z a0 hw [] b9z dE h9z O10z S_D A9z fr_b9z F9z_modCount F9z_elementData F9z_size) hZ (own_hw hw 13 rfl) (own_hw hw 10 rfl) (by decide) (by decide)) (g := (mkF m 37 #[.val (.int p0), .val (.int p1), .val (.int p2), .val (.int p3), .val (.int p4), .val (.int (0 : Int32)), .val (.ref r_1z), .val (.ref r_3z), .val (.ref r_5z), .val (.ref r_7z), .unset, .unset, .unset] [(.ref b9z), (.ref b9z)])) rfl (by rw [hml]; rfl) (Steps.refl _) (a := b9z) (argsL := []) (rest := [(.ref b9z)]) (lenOf pd_193421996 rfl) rfl (by show 2 * 0 + _ ≤ _; exact Nat.le_of_eq rfl) (hb hby at_37) (fun _ _ => ⟨rfl, e9z, (by decide : 5 + 0 ≤ _), (by decide : 7 + 0 ≤ _)⟩)
    dsimp only [Pt.U, Pt.locs, Pt.cells, Pt.slots] at X11z l11z y11z z11z st11z hQ11z
    subst l11z y11z z11z
    obtain ⟨rfl, NQ11z, K11zq, r11z_0, r11z_1, r11z_2, r11z_3⟩ := hQ11z
    refine own_tr st11z ?_
    have N11z := Fr.app N7z NQ11z
    have O12z : Ext Z.heap T11z.heap := own_ext_keep O10z K11zq (allS fr_b9z all0)
    have K12z : Keep h0 T11z.heap [] := K10z.trans K11zq (allS (Or.inr lz_b9z) all0)
    have Sn12z := Nat.le_trans Sn10z K11zq.1
    show own_G p e below (T11z.setTop (mkF m 40 #[.val (.int p0), .val (.int p1), .val (.int p2), .val (.int p3), .val (.int p4), .val (.int (0 : Int32)), .val (.ref r_1z), .val (.ref r_3z), .val (.ref r_5z), .val (.ref r_7z), .unset, .unset, .unset] [(.ref b9z)])) _
    refine own_go (fun t k => XS.astore X11z.here hx rfl (hb hby at_40) rfl rfl (l' := #[.val (.int p0), .val (.int p1), .val (.int p2), .val (.int p3), .val (.int p4), .val (.int (0 : Int32)), .val (.ref r_1z), .val (.ref r_3z), .val (.ref r_5z), .val (.ref r_7z), .val (.ref b9z), .unset, .unset]) rfl k) ?_
    refine own_go (fun t k => XS.iload X11z.here hx rfl (hb hby at_42) rfl k) ?_
    refine own_go (fun t k => XS.ifYes X11z.here hx rfl (pc0 := 44) (pc' := 55) rfl (hb hby at_44) rfl ((if0 _ _).trans (flt (by decide : ¬ ((0 : Int32) < (0 : Int32)))).2.2.2) (by decide) (by decide) k) ?_
    show own_G p e below (T11z.setTop (mkF m 55 #[.val (.int p0), .val (.int p1), .val (.int p2), .val (.int p3), .val (.int p4), .val (.int (0 : Int32)), .val (.ref r_1z), .val (.ref r_3z), .val (.ref r_5z), .val (.ref r_7z), .val (.ref b9z), .unset, .unset] [])) _
    refine own_go (fun t k => XS.iload X11z.here hx rfl (hb hby at_55) rfl k) ?_
    refine own_go (fun t k => XS.iconst X11z.here hx rfl (hb hby at_57) k) ?_
    refine own_go (fun t k => XS.icmpYes X11z.here hx rfl (pc0 := 58) (pc' := 69) rfl (hb hby at_58) rfl (flt (by decide : ¬ ((1 : Int32) < (0 : Int32)))).2.2.2 (by decide) (by decide) k) ?_
    show own_G p e below (T11z.setTop (mkF m 69 #[.val (.int p0), .val (.int p1), .val (.int p2), .val (.int p3), .val (.int p4), .val (.int (0 : Int32)), .val (.ref r_1z), .val (.ref r_3z), .val (.ref r_5z), .val (.ref r_7z), .val (.ref b9z), .unset, .unset] [])) _
    refine own_go (fun t k => XS.iload X11z.here hx rfl (hb hby at_69) rfl k) ?_
    refine own_go (fun t k => XS.iconst X11z.here hx rfl (hb hby at_71) k) ?_
    refine own_go (fun t k => XS.icmpYes X11z.here hx rfl (pc0 := 72) (pc' := 83) rfl (hb hby at_72) rfl (flt (by decide : ¬ ((2 : Int32) < (0 : Int32)))).2.2.2 (by decide) (by decide) k) ?_
    show own_G p e below (T11z.setTop (mkF m 83 #[.val (.int p0), .val (.int p1), .val (.int p2), .val (.int p3), .val (.int p4), .val (.int (0 : Int32)), .val (.ref r_1z), .val (.ref r_3z), .val (.ref r_5z), .val (.ref r_7z), .val (.ref b9z), .unset, .unset] [])) _
    refine own_go (fun t k => XS.iload X11z.here hx rfl (hb hby at_83) rfl k) ?_
    refine own_go (fun t k => XS.iconst X11z.here hx rfl (hb hby at_85) k) ?_
    refine own_go (fun t k => XS.icmpYes X11z.here hx rfl (pc0 := 86) (pc' := 97) rfl (hb hby at_86) rfl (flt (by decide : ¬ ((3 : Int32) < (0 : Int32)))).2.2.2 (by decide) (by decide) k) ?_
    show own_G p e below (T11z.setTop (mkF m 97 #[.val (.int p0), .val (.int p1), .val (.int p2), .val (.int p3), .val (.int p4), .val (.int (0 : Int32)), .val (.ref r_1z), .val (.ref r_3z), .val (.ref r_5z), .val (.ref r_7z), .val (.ref b9z), .unset, .unset] [])) _
    refine own_go (fun t k => XS.aload X11z.here hx rfl (hb hby at_97) rfl rfl k) ?_
    have f13z := (((((r1z_0.keep K3zq).keep K5zq).keep K7zq).ext E9z).keep K11zq)
    obtain ⟨_, _, ⟨T14z, L14z, k14z, n14z⟩, -, X14z, Si14z, gr14z, ⟨Lc14z, hQ14z, l14z, y14z, z14z⟩, st14z⟩ := callSS X11z hx (y := own_m20) hown (mvT hZ (own_hw hw 34 rfl)) (mvT hZ (own_hw hw 35 rfl)) (mvT hZ (own_hw hw 36 rfl)) (mvT hZ (own_hw hw 37 rfl)) (by decide) (backOfS (W := 0) (own_copy0 l Z a0 hw [] b9z (0 : Int32) dE kd eE T11z.heap O12z S_D BD S_E r11z_0 r11z_1 r11z_2 r11z_3) hZ (own_hw hw 37 rfl) (own_hw hw 36 rfl) (by decide) (by decide)) (g := (mkF m 99 #[.val (.int p0), .val (.int p1), .val (.int p2), .val (.int p3), .val (.int p4), .val (.int (0 : Int32)), .val (.ref r_1z), .val (.ref r_3z), .val (.ref r_5z), .val (.ref r_7z), .val (.ref b9z), .unset, .unset] [(.ref b9z)])) rfl (by rw [hml]; rfl) (argsL := [(.ref b9z)]) (rest := []) (lenOf pd_548093608 rfl) rfl (by show 2 * 0 + _ ≤ _; exact Nat.le_of_eq rfl) (hb hby at_99) (fun _ _ => ⟨rfl, rfl, (by decide : 5 + 4 ≤ _), (by decide : 7 + 43 ≤ _)⟩)
    dsimp only [Pt.U, Pt.locs, Pt.cells, Pt.slots] at X14z l14z y14z z14z st14z hQ14z Si14z gr14z
    subst l14z y14z z14z
    obtain ⟨r_14z, rfl, NQ14z, K14zq, r14z_0, r14z_1, r14z_2, r14z_3, r14z_4⟩ := hQ14z
    refine own_tr st14z ?_
    have N14z := Fr.app N11z NQ14z
    have Sx14z : s.Since T14z.vm T14z.heap.size := foldS Si0 (by first | exact Sn12z | (rw [Nat.add_zero]; exact Sn12z)) Si14z gr14z
    have hZ14z : Z.Warmed39 (s.setVm T14z.vm).vm := State.Warmed39.trans (t := s.setVm s.vm) hZ Si14z.1
    have hown14z : (s.setVm T14z.vm).vm.findClass "com/example/etapa/etapa/mongodb/EntityBatchCopyOfPinLaw" = some m.cls := by rw [show (s.setVm T14z.vm).vm = T14z.vm from rfl, Si14z.1.alike.findClass]; exact hown
    have X14z := (show Stand _ _ _ _ (s.setVm T14z.vm) _ _ _ _ _ _ _ _ _ from X14z)
    have Sn14z : T14z.heap.size ≤ T14z.heap.size := Nat.le_refl _
    have O15z : Ext Z.heap T14z.heap := own_ext_keep O12z K14zq all0
    have K15z : Keep h0 T14z.heap [] := K12z.trans K14zq all0
    have lz_r_14z : h0.size ≤ r_14z := Nat.le_trans K12z.1 r14z_1
    have ne_r_1z_r_14z : r_1z ≠ r_14z := Nat.ne_of_lt (Nat.lt_of_lt_of_le f13z.lt r14z_1)
    have ne_r_3z_r_14z : r_3z ≠ r_14z := Nat.ne_of_lt (Nat.lt_of_lt_of_le ((((r3z_0.keep K5zq).keep K7zq).ext E9z).keep K11zq).lt r14z_1)
    have ne_r_5z_r_14z : r_5z ≠ r_14z := Nat.ne_of_lt (Nat.lt_of_lt_of_le (((r5z_0.keep K7zq).ext E9z).keep K11zq).lt r14z_1)
    have ne_r_7z_r_14z : r_7z ≠ r_14z := Nat.ne_of_lt (Nat.lt_of_lt_of_le ((r7z_0.ext E9z).keep K11zq).lt r14z_1)
    have ne_b9z_r_14z : b9z ≠ r_14z := Nat.ne_of_lt (Nat.lt_of_lt_of_le r11z_0.lt r14z_1)
    show own_G p e below (T14z.setTop (mkF m 102 #[.val (.int p0), .val (.int p1), .val (.int p2), .val (.int p3), .val (.int p4), .val (.int (0 : Int32)), .val (.ref r_1z), .val (.ref r_3z), .val (.ref r_5z), .val (.ref r_7z), .val (.ref b9z), .unset, .unset] [(.ref r_14z)])) _
    refine own_go (fun t k => XS.astore X14z.here hx rfl (hb hby at_102) rfl rfl (l' := #[.val (.int p0), .val (.int p1), .val (.int p2), .val (.int p3), .val (.int p4), .val (.int (0 : Int32)), .val (.ref r_1z), .val (.ref r_3z), .val (.ref r_5z), .val (.ref r_7z), .val (.ref b9z), .val (.ref r_14z), .unset]) rfl k) ?_
    refine own_go (fun t k => XS.aload X14z.here hx rfl (hb hby at_104) rfl rfl k) ?_
    refine own_go (fun t k => XS.aload X14z.here hx rfl (hb hby at_106) rfl rfl k) ?_
    refine own_go (fun t k => Jvm.RoadKit.acmp (g := (mkF m 108 #[.val (.int p0), .val (.int p1), .val (.int p2), .val (.int p3), .val (.int p4), .val (.int (0 : Int32)), .val (.ref r_1z), .val (.ref r_3z), .val (.ref r_5z), .val (.ref r_7z), .val (.ref b9z), .val (.ref r_14z), .unset] [(.ref b9z), (.ref r_14z)])) X14z hx rfl rfl rfl (pc0 := 108) (pc' := 111) (same := false) rfl (hb hby at_108) rfl (decide_eq_false fun q => (Ne.symm ne_b9z_r_14z) (Value.ref.inj q)) (by decide) (by decide) k) ?_
    show own_G p e below (T14z.setTop (mkF m 111 #[.val (.int p0), .val (.int p1), .val (.int p2), .val (.int p3), .val (.int p4), .val (.int (0 : Int32)), .val (.ref r_1z), .val (.ref r_3z), .val (.ref r_5z), .val (.ref r_7z), .val (.ref b9z), .val (.ref r_14z), .unset] [])) _
    refine own_go (fun t k => XS.aload X14z.here hx rfl (hb hby at_111) rfl rfl k) ?_
    obtain ⟨cq16z, kq16z, qa16z, qb16z, qc16z⟩ := isOf hZ14z (rfl : T14z.heap = _) r14z_0
    obtain ⟨_, _, ⟨T16z, L16z, k16z, n16z⟩, -, X16z, ⟨Lc16z, hQ16z, l16z, y16z, z16z⟩, st16z⟩ := X14z.interfaceBack hx (xi := own_m31) (y := own_m9) hown14z (mvT hZ14z (own_hw hw 102 rfl)) (mvT hZ14z (own_hw hw 103 rfl)) (mvT hZ14z (own_hw hw 104 rfl)) (mvT hZ14z (own_hw hw 105 rfl)) (mvT hZ14z (own_hw hw 55 rfl)) (mvT hZ14z (own_hw hw 56 rfl)) (mvT hZ14z (own_hw hw 57 rfl)) (mvT hZ14z (own_hw hw 106 rfl)) (by decide) (backOf (W := 0) (own_size l Z a0 hw [] r_14z (0 : Int32) T14z.heap O15z r14z_4) hZ14z (own_hw hw 59 rfl) (own_hw hw 10 rfl) (by decide) (by decide)) qa16z qb16z qc16z (g := (mkF m 113 #[.val (.int p0), .val (.int p1), .val (.int p2), .val (.int p3), .val (.int p4), .val (.int (0 : Int32)), .val (.ref r_1z), .val (.ref r_3z), .val (.ref r_5z), .val (.ref r_7z), .val (.ref b9z), .val (.ref r_14z), .unset] [(.ref r_14z)])) rfl (by rw [hml]; rfl) (Steps.refl _) (argsL := []) (rest := []) (lenOf pd_193421983 rfl) rfl (by show 2 * 0 + _ ≤ _; exact Nat.le_of_eq rfl) (hb hby at_113) (fun _ _ => ⟨rfl, rfl, (by decide : 9 + 0 ≤ _), (by decide : 50 + 0 ≤ _)⟩)
    dsimp only [Pt.U, Pt.locs, Pt.cells, Pt.slots] at X16z l16z y16z z16z st16z hQ16z
    subst l16z y16z z16z
    obtain ⟨rfl, NQ16z, K16zq⟩ := hQ16z
    refine own_tr st16z ?_
    have N16z := Fr.app N14z NQ16z
    show own_G p e below (T16z.setTop (mkF m 118 #[.val (.int p0), .val (.int p1), .val (.int p2), .val (.int p3), .val (.int p4), .val (.int (0 : Int32)), .val (.ref r_1z), .val (.ref r_3z), .val (.ref r_5z), .val (.ref r_7z), .val (.ref b9z), .val (.ref r_14z), .unset] [(.int (0 : Int32))])) _
    refine own_go (fun t k => XS.iload X16z.here hx rfl (hb hby at_118) rfl k) ?_
    refine own_go (fun t k => XS.icmpNo X16z.here hx rfl (hb hby at_120) rfl (teq (by decide : (0 : Int32) = (0 : Int32))).2 k) ?_
    show own_G p e below (T16z.setTop (mkF m 123 #[.val (.int p0), .val (.int p1), .val (.int p2), .val (.int p3), .val (.int p4), .val (.int (0 : Int32)), .val (.ref r_1z), .val (.ref r_3z), .val (.ref r_5z), .val (.ref r_7z), .val (.ref b9z), .val (.ref r_14z), .unset] [])) _
    refine own_go (fun t k => XS.aload X16z.here hx rfl (hb hby at_123) rfl rfl k) ?_
    refine own_go (fun t k => XS.iconst X16z.here hx rfl (hb hby at_125) k) ?_
    refine own_go (fun t k => XS.aload X16z.here hx rfl (hb hby at_126) rfl rfl k) ?_
    refine own_go (fun t k => XS.iload X16z.here hx rfl (hb hby at_128) rfl k) ?_
    show own_G p e below (T16z.setTop (mkF m 130 #[.val (.int p0), .val (.int p1), .val (.int p2), .val (.int p3), .val (.int p4), .val (.int (0 : Int32)), .val (.ref r_1z), .val (.ref r_3z), .val (.ref r_5z), .val (.ref r_7z), .val (.ref b9z), .val (.ref r_14z), .unset] [(.int (0 : Int32)), (.ref r_1z), (.int (0 : Int32)), (.ref r_14z)])) _
    obtain ⟨_, _, ⟨T17z, L17z, k17z, n17z⟩, -, X17z, ⟨Lc17z, hQ17z, l17z, y17z, z17z⟩, st17z⟩ := Jvm.LawKit.callS X16z hx (y := own_m26) hown14z (mvT hZ14z (own_hw hw 107 rfl)) (mvT hZ14z (own_hw hw 108 rfl)) (mvT hZ14z (own_hw hw 109 rfl)) (mvT hZ14z (own_hw hw 110 rfl)) (by decide) (backOf (W := 0) (own_at0_0 l Z a0 hw [] r_14z r_1z T14z.heap O15z) hZ14z (own_hw hw 110 rfl) (own_hw hw 109 rfl) (by decide) (by decide)) (g := (mkF m 130 #[.val (.int p0), .val (.int p1), .val (.int p2), .val (.int p3), .val (.int p4), .val (.int (0 : Int32)), .val (.ref r_1z), .val (.ref r_3z), .val (.ref r_5z), .val (.ref r_7z), .val (.ref b9z), .val (.ref r_14z), .unset] [(.int (0 : Int32)), (.ref r_1z), (.int (0 : Int32)), (.ref r_14z)])) rfl (by rw [hml]; rfl) (argsL := [(.ref r_14z), (.int (0 : Int32)), (.ref r_1z), (.int (0 : Int32))]) (rest := []) (lenOf pd_2223509722 rfl) rfl (by show 2 * 0 + _ ≤ _; exact Nat.le_of_eq rfl) (hb hby at_130) (fun _ _ => ⟨rfl, K16zq, (by decide : 9 + 0 ≤ _), (by decide : 50 + 0 ≤ _)⟩)
    dsimp only [Pt.U, Pt.locs, Pt.cells, Pt.slots] at X17z l17z y17z z17z st17z hQ17z
    subst l17z y17z z17z
    obtain ⟨rfl, NQ17z, K17zq⟩ := hQ17z
    refine own_go st17z ?_
    have N17z := Fr.app N16z NQ17z
    show own_G p e below (T17z.setTop (mkF m 133 #[.val (.int p0), .val (.int p1), .val (.int p2), .val (.int p3), .val (.int p4), .val (.int (0 : Int32)), .val (.ref r_1z), .val (.ref r_3z), .val (.ref r_5z), .val (.ref r_7z), .val (.ref b9z), .val (.ref r_14z), .unset] [(.int (1 : Int32))])) _
    refine own_go (fun t k => XS.ifNo X17z.here hx rfl (hb hby at_133) rfl ((if0 _ _).trans (feq (by decide : ¬ ((1 : Int32) = (0 : Int32)))).1) k) ?_
    show own_G p e below (T17z.setTop (mkF m 136 #[.val (.int p0), .val (.int p1), .val (.int p2), .val (.int p3), .val (.int p4), .val (.int (0 : Int32)), .val (.ref r_1z), .val (.ref r_3z), .val (.ref r_5z), .val (.ref r_7z), .val (.ref b9z), .val (.ref r_14z), .unset] [])) _
    refine own_go (fun t k => XS.aload X17z.here hx rfl (hb hby at_136) rfl rfl k) ?_
    refine own_go (fun t k => XS.iconst X17z.here hx rfl (hb hby at_138) k) ?_
    refine own_go (fun t k => XS.aload X17z.here hx rfl (hb hby at_139) rfl rfl k) ?_
    refine own_go (fun t k => XS.iload X17z.here hx rfl (hb hby at_141) rfl k) ?_
    show own_G p e below (T17z.setTop (mkF m 143 #[.val (.int p0), .val (.int p1), .val (.int p2), .val (.int p3), .val (.int p4), .val (.int (0 : Int32)), .val (.ref r_1z), .val (.ref r_3z), .val (.ref r_5z), .val (.ref r_7z), .val (.ref b9z), .val (.ref r_14z), .unset] [(.int (0 : Int32)), (.ref r_3z), (.int (1 : Int32)), (.ref r_14z)])) _
    obtain ⟨_, _, ⟨T18z, L18z, k18z, n18z⟩, -, X18z, ⟨Lc18z, hQ18z, l18z, y18z, z18z⟩, st18z⟩ := Jvm.LawKit.callS X17z hx (y := own_m26) hown14z (mvT hZ14z (own_hw hw 107 rfl)) (mvT hZ14z (own_hw hw 108 rfl)) (mvT hZ14z (own_hw hw 109 rfl)) (mvT hZ14z (own_hw hw 110 rfl)) (by decide) (backOf (W := 0) (own_at0_1 l Z a0 hw [] r_14z r_3z T14z.heap O15z) hZ14z (own_hw hw 110 rfl) (own_hw hw 109 rfl) (by decide) (by decide)) (g := (mkF m 143 #[.val (.int p0), .val (.int p1), .val (.int p2), .val (.int p3), .val (.int p4), .val (.int (0 : Int32)), .val (.ref r_1z), .val (.ref r_3z), .val (.ref r_5z), .val (.ref r_7z), .val (.ref b9z), .val (.ref r_14z), .unset] [(.int (0 : Int32)), (.ref r_3z), (.int (1 : Int32)), (.ref r_14z)])) rfl (by rw [hml]; rfl) (argsL := [(.ref r_14z), (.int (1 : Int32)), (.ref r_3z), (.int (0 : Int32))]) (rest := []) (lenOf pd_2223509722 rfl) rfl (by show 2 * 0 + _ ≤ _; exact Nat.le_of_eq rfl) (hb hby at_143) (fun _ _ => ⟨rfl, K17zq, (by decide : 9 + 0 ≤ _), (by decide : 50 + 0 ≤ _)⟩)
    dsimp only [Pt.U, Pt.locs, Pt.cells, Pt.slots] at X18z l18z y18z z18z st18z hQ18z
    subst l18z y18z z18z
    obtain ⟨rfl, NQ18z, K18zq⟩ := hQ18z
    refine own_go st18z ?_
    have N18z := Fr.app N17z NQ18z
    show own_G p e below (T18z.setTop (mkF m 146 #[.val (.int p0), .val (.int p1), .val (.int p2), .val (.int p3), .val (.int p4), .val (.int (0 : Int32)), .val (.ref r_1z), .val (.ref r_3z), .val (.ref r_5z), .val (.ref r_7z), .val (.ref b9z), .val (.ref r_14z), .unset] [(.int (1 : Int32))])) _
    refine own_go (fun t k => XS.ifNo X18z.here hx rfl (hb hby at_146) rfl ((if0 _ _).trans (feq (by decide : ¬ ((1 : Int32) = (0 : Int32)))).1) k) ?_
    show own_G p e below (T18z.setTop (mkF m 149 #[.val (.int p0), .val (.int p1), .val (.int p2), .val (.int p3), .val (.int p4), .val (.int (0 : Int32)), .val (.ref r_1z), .val (.ref r_3z), .val (.ref r_5z), .val (.ref r_7z), .val (.ref b9z), .val (.ref r_14z), .unset] [])) _
    refine own_go (fun t k => XS.aload X18z.here hx rfl (hb hby at_149) rfl rfl k) ?_
    refine own_go (fun t k => XS.iconst X18z.here hx rfl (hb hby at_151) k) ?_
    refine own_go (fun t k => XS.aload X18z.here hx rfl (hb hby at_152) rfl rfl k) ?_
    refine own_go (fun t k => XS.iload X18z.here hx rfl (hb hby at_154) rfl k) ?_
    show own_G p e below (T18z.setTop (mkF m 156 #[.val (.int p0), .val (.int p1), .val (.int p2), .val (.int p3), .val (.int p4), .val (.int (0 : Int32)), .val (.ref r_1z), .val (.ref r_3z), .val (.ref r_5z), .val (.ref r_7z), .val (.ref b9z), .val (.ref r_14z), .unset] [(.int (0 : Int32)), (.ref r_5z), (.int (2 : Int32)), (.ref r_14z)])) _
    obtain ⟨_, _, ⟨T19z, L19z, k19z, n19z⟩, -, X19z, ⟨Lc19z, hQ19z, l19z, y19z, z19z⟩, st19z⟩ := Jvm.LawKit.callS X18z hx (y := own_m26) hown14z (mvT hZ14z (own_hw hw 107 rfl)) (mvT hZ14z (own_hw hw 108 rfl)) (mvT hZ14z (own_hw hw 109 rfl)) (mvT hZ14z (own_hw hw 110 rfl)) (by decide) (backOf (W := 0) (own_at0_2 l Z a0 hw [] r_14z r_5z T14z.heap O15z) hZ14z (own_hw hw 110 rfl) (own_hw hw 109 rfl) (by decide) (by decide)) (g := (mkF m 156 #[.val (.int p0), .val (.int p1), .val (.int p2), .val (.int p3), .val (.int p4), .val (.int (0 : Int32)), .val (.ref r_1z), .val (.ref r_3z), .val (.ref r_5z), .val (.ref r_7z), .val (.ref b9z), .val (.ref r_14z), .unset] [(.int (0 : Int32)), (.ref r_5z), (.int (2 : Int32)), (.ref r_14z)])) rfl (by rw [hml]; rfl) (argsL := [(.ref r_14z), (.int (2 : Int32)), (.ref r_5z), (.int (0 : Int32))]) (rest := []) (lenOf pd_2223509722 rfl) rfl (by show 2 * 0 + _ ≤ _; exact Nat.le_of_eq rfl) (hb hby at_156) (fun _ _ => ⟨rfl, K18zq, (by decide : 9 + 0 ≤ _), (by decide : 50 + 0 ≤ _)⟩)
    dsimp only [Pt.U, Pt.locs, Pt.cells, Pt.slots] at X19z l19z y19z z19z st19z hQ19z
    subst l19z y19z z19z
    obtain ⟨rfl, NQ19z, K19zq⟩ := hQ19z
    refine own_go st19z ?_
    have N19z := Fr.app N18z NQ19z
    show own_G p e below (T19z.setTop (mkF m 159 #[.val (.int p0), .val (.int p1), .val (.int p2), .val (.int p3), .val (.int p4), .val (.int (0 : Int32)), .val (.ref r_1z), .val (.ref r_3z), .val (.ref r_5z), .val (.ref r_7z), .val (.ref b9z), .val (.ref r_14z), .unset] [(.int (1 : Int32))])) _
    refine own_go (fun t k => XS.ifNo X19z.here hx rfl (hb hby at_159) rfl ((if0 _ _).trans (feq (by decide : ¬ ((1 : Int32) = (0 : Int32)))).1) k) ?_
    show own_G p e below (T19z.setTop (mkF m 162 #[.val (.int p0), .val (.int p1), .val (.int p2), .val (.int p3), .val (.int p4), .val (.int (0 : Int32)), .val (.ref r_1z), .val (.ref r_3z), .val (.ref r_5z), .val (.ref r_7z), .val (.ref b9z), .val (.ref r_14z), .unset] [])) _
    refine own_go (fun t k => XS.aload X19z.here hx rfl (hb hby at_162) rfl rfl k) ?_
    refine own_go (fun t k => XS.iconst X19z.here hx rfl (hb hby at_164) k) ?_
    refine own_go (fun t k => XS.aload X19z.here hx rfl (hb hby at_165) rfl rfl k) ?_
    refine own_go (fun t k => XS.iload X19z.here hx rfl (hb hby at_167) rfl k) ?_
    show own_G p e below (T19z.setTop (mkF m 169 #[.val (.int p0), .val (.int p1), .val (.int p2), .val (.int p3), .val (.int p4), .val (.int (0 : Int32)), .val (.ref r_1z), .val (.ref r_3z), .val (.ref r_5z), .val (.ref r_7z), .val (.ref b9z), .val (.ref r_14z), .unset] [(.int (0 : Int32)), (.ref r_7z), (.int (3 : Int32)), (.ref r_14z)])) _
    obtain ⟨_, _, ⟨T20z, L20z, k20z, n20z⟩, -, X20z, ⟨Lc20z, hQ20z, l20z, y20z, z20z⟩, st20z⟩ := Jvm.LawKit.callS X19z hx (y := own_m26) hown14z (mvT hZ14z (own_hw hw 107 rfl)) (mvT hZ14z (own_hw hw 108 rfl)) (mvT hZ14z (own_hw hw 109 rfl)) (mvT hZ14z (own_hw hw 110 rfl)) (by decide) (backOf (W := 0) (own_at0_3 l Z a0 hw [] r_14z r_7z T14z.heap O15z) hZ14z (own_hw hw 110 rfl) (own_hw hw 109 rfl) (by decide) (by decide)) (g := (mkF m 169 #[.val (.int p0), .val (.int p1), .val (.int p2), .val (.int p3), .val (.int p4), .val (.int (0 : Int32)), .val (.ref r_1z), .val (.ref r_3z), .val (.ref r_5z), .val (.ref r_7z), .val (.ref b9z), .val (.ref r_14z), .unset] [(.int (0 : Int32)), (.ref r_7z), (.int (3 : Int32)), (.ref r_14z)])) rfl (by rw [hml]; rfl) (argsL := [(.ref r_14z), (.int (3 : Int32)), (.ref r_7z), (.int (0 : Int32))]) (rest := []) (lenOf pd_2223509722 rfl) rfl (by show 2 * 0 + _ ≤ _; exact Nat.le_of_eq rfl) (hb hby at_169) (fun _ _ => ⟨rfl, K19zq, (by decide : 9 + 0 ≤ _), (by decide : 50 + 0 ≤ _)⟩)
    dsimp only [Pt.U, Pt.locs, Pt.cells, Pt.slots] at X20z l20z y20z z20z st20z hQ20z
    subst l20z y20z z20z
    obtain ⟨rfl, NQ20z, K20zq⟩ := hQ20z
    refine own_go st20z ?_
    have N20z := Fr.app N19z NQ20z
    show own_G p e below (T20z.setTop (mkF m 172 #[.val (.int p0), .val (.int p1), .val (.int p2), .val (.int p3), .val (.int p4), .val (.int (0 : Int32)), .val (.ref r_1z), .val (.ref r_3z), .val (.ref r_5z), .val (.ref r_7z), .val (.ref b9z), .val (.ref r_14z), .unset] [(.int (1 : Int32))])) _
    refine own_go (fun t k => XS.ifNo X20z.here hx rfl (hb hby at_172) rfl ((if0 _ _).trans (feq (by decide : ¬ ((1 : Int32) = (0 : Int32)))).1) k) ?_
    show own_G p e below (T20z.setTop (mkF m 175 #[.val (.int p0), .val (.int p1), .val (.int p2), .val (.int p3), .val (.int p4), .val (.int (0 : Int32)), .val (.ref r_1z), .val (.ref r_3z), .val (.ref r_5z), .val (.ref r_7z), .val (.ref b9z), .val (.ref r_14z), .unset] [])) _
    refine own_go (fun t k => XS.iconst X20z.here hx rfl (hb hby at_175) k) ?_
    refine own_go (fun t k => XS.goto X20z.here hx rfl (pc0 := 176) (pc' := 180) rfl (hb hby at_176) (by decide) (by decide) k) ?_
    show own_G p e below (T20z.setTop (mkF m 180 #[.val (.int p0), .val (.int p1), .val (.int p2), .val (.int p3), .val (.int p4), .val (.int (0 : Int32)), .val (.ref r_1z), .val (.ref r_3z), .val (.ref r_5z), .val (.ref r_7z), .val (.ref b9z), .val (.ref r_14z), .unset] [(.int (1 : Int32))])) _
    refine own_go (fun t k => XS.istore X20z.here hx rfl (hb hby at_180) rfl (l' := #[.val (.int p0), .val (.int p1), .val (.int p2), .val (.int p3), .val (.int p4), .val (.int (0 : Int32)), .val (.ref r_1z), .val (.ref r_3z), .val (.ref r_5z), .val (.ref r_7z), .val (.ref b9z), .val (.ref r_14z), .val (.int (1 : Int32))]) rfl k) ?_
    refine own_go (fun t k => XS.aload X20z.here hx rfl (hb hby at_182) rfl rfl k) ?_
    refine own_go (fun t k => XS.aload X20z.here hx rfl (hb hby at_184) rfl rfl k) ?_
    have f21z := (((((r3z_0.keep K5zq).keep K7zq).ext E9z).keep K11zq).keep K14zq)
    obtain ⟨cq22z, kq22z, qa22z, qb22z, qc22z⟩ := isOf hZ14z K20zq (r11z_0.keep K14zq)
    obtain ⟨_, _, ⟨T22z, L22z, k22z, n22z⟩, -, X22z, ⟨Lc22z, hQ22z, l22z, y22z, z22z⟩, st22z⟩ := X20z.virtualBack hx (y := own_m8) (z := own_m8) hown14z (mvT hZ14z (own_hw hw 111 rfl)) (mvT hZ14z (own_hw hw 112 rfl)) (notFace_of_selects (args := #[]) (mvT hZ14z (own_hw hw 114 rfl))) (mvT hZ14z (own_hw hw 114 rfl)) (mvT hZ14z (own_hw hw 113 rfl)) (by decide) (backOf (W := 0) (own_add10 l Z a0 hw [] b9z (0 : Int32) dE kd r_3z T14z.heap O15z S_D BD (r11z_0.keep K14zq) fr_b9z (r11z_1.keep K14zq (by simp)) (r11z_2.keep K14zq (by simp)) (r11z_3.keep K14zq (by simp)) f21z) hZ14z (own_hw hw 115 rfl) (own_hw hw 10 rfl) (by decide) (by decide)) qa22z qc22z (g := (mkF m 186 #[.val (.int p0), .val (.int p1), .val (.int p2), .val (.int p3), .val (.int p4), .val (.int (0 : Int32)), .val (.ref r_1z), .val (.ref r_3z), .val (.ref r_5z), .val (.ref r_7z), .val (.ref b9z), .val (.ref r_14z), .val (.int (1 : Int32))] [(.ref r_3z), (.ref b9z)])) rfl (by rw [hml]; rfl) (Steps.refl _) (argsL := [(.ref r_3z)]) (rest := []) (lenOf pd_396412080 rfl) rfl (by show 2 * 0 + _ ≤ _; exact Nat.le_of_eq rfl) (hb hby at_186) (fun _ _ => ⟨rfl, K20zq, (by decide : 9 + 1 ≤ _), (by decide : 50 + 10 ≤ _)⟩)
    dsimp only [Pt.U, Pt.locs, Pt.cells, Pt.slots] at X22z l22z y22z z22z st22z hQ22z
    subst l22z y22z z22z
    obtain ⟨arr_22z, kk_22z, rfl, NQ22z, K22zq, r22z_0, r22z_1, r22z_2, r22z_3, r22z_4, r22z_5, r22z_6, r22z_7⟩ := hQ22z
    refine own_tr st22z ?_
    have N22z := Fr.app N20z NQ22z
    have O23z : Ext Z.heap T22z.heap := own_ext_keep O15z K22zq (allS fr_b9z all0)
    have K23z : Keep h0 T22z.heap [] := K15z.trans K22zq (allS (Or.inr lz_b9z) all0)
    have Sn23z := Nat.le_trans Sn14z K22zq.1
    have lz_arr_22z : h0.size ≤ arr_22z := Nat.le_trans K15z.1 r22z_2
    have ne_r_1z_arr_22z : r_1z ≠ arr_22z := Nat.ne_of_lt (Nat.lt_of_lt_of_le (f13z.keep K14zq).lt r22z_2)
    have ne_r_3z_arr_22z : r_3z ≠ arr_22z := Nat.ne_of_lt (Nat.lt_of_lt_of_le f21z.lt r22z_2)
    have ne_r_5z_arr_22z : r_5z ≠ arr_22z := Nat.ne_of_lt (Nat.lt_of_lt_of_le ((((r5z_0.keep K7zq).ext E9z).keep K11zq).keep K14zq).lt r22z_2)
    have ne_r_7z_arr_22z : r_7z ≠ arr_22z := Nat.ne_of_lt (Nat.lt_of_lt_of_le (((r7z_0.ext E9z).keep K11zq).keep K14zq).lt r22z_2)
    have ne_b9z_arr_22z : b9z ≠ arr_22z := Nat.ne_of_lt (Nat.lt_of_lt_of_le (r11z_0.keep K14zq).lt r22z_2)
    have ne_r_14z_arr_22z : r_14z ≠ arr_22z := Nat.ne_of_lt (Nat.lt_of_lt_of_le r14z_0.lt r22z_2)
    have r22z_5 : Fld Z T22z.heap b9z "java/util/AbstractList" "modCount" "I" (.int (1 : Int32)) := r22z_5
    show own_G p e below (T22z.setTop (mkF m 189 #[.val (.int p0), .val (.int p1), .val (.int p2), .val (.int p3), .val (.int p4), .val (.int (0 : Int32)), .val (.ref r_1z), .val (.ref r_3z), .val (.ref r_5z), .val (.ref r_7z), .val (.ref b9z), .val (.ref r_14z), .val (.int (1 : Int32))] [(.int (1 : Int32))])) _
    refine own_go (fun t k => XS.pop X22z.here hx rfl (hb hby at_189) rfl rfl k) ?_
    refine own_go (fun t k => XS.iload X22z.here hx rfl (hb hby at_190) rfl k) ?_
    refine own_go (fun t k => XS.ifNo X22z.here hx rfl (hb hby at_192) rfl ((if0 _ _).trans (feq (by decide : ¬ ((1 : Int32) = (0 : Int32)))).1) k) ?_
    show own_G p e below (T22z.setTop (mkF m 195 #[.val (.int p0), .val (.int p1), .val (.int p2), .val (.int p3), .val (.int p4), .val (.int (0 : Int32)), .val (.ref r_1z), .val (.ref r_3z), .val (.ref r_5z), .val (.ref r_7z), .val (.ref b9z), .val (.ref r_14z), .val (.int (1 : Int32))] [])) _
    refine own_go (fun t k => XS.aload X22z.here hx rfl (hb hby at_195) rfl rfl k) ?_
    have f24z := (r14z_4.keep K22zq (by simp only [List.mem_cons, List.not_mem_nil, or_false, not_or]; exact (Ne.symm ne_b9z_r_14z)))
    obtain ⟨cq25z, kq25z, qa25z, qb25z, qc25z⟩ := isOf hZ14z (rfl : T22z.heap = _) (r14z_0.keep K22zq)
    obtain ⟨_, _, ⟨T25z, L25z, k25z, n25z⟩, -, X25z, ⟨Lc25z, hQ25z, l25z, y25z, z25z⟩, st25z⟩ := X22z.interfaceBack hx (xi := own_m31) (y := own_m9) hown14z (mvT hZ14z (own_hw hw 102 rfl)) (mvT hZ14z (own_hw hw 103 rfl)) (mvT hZ14z (own_hw hw 104 rfl)) (mvT hZ14z (own_hw hw 105 rfl)) (mvT hZ14z (own_hw hw 55 rfl)) (mvT hZ14z (own_hw hw 56 rfl)) (mvT hZ14z (own_hw hw 57 rfl)) (mvT hZ14z (own_hw hw 106 rfl)) (by decide) (backOf (W := 0) (own_size l Z a0 hw [] r_14z (0 : Int32) T22z.heap O23z f24z) hZ14z (own_hw hw 59 rfl) (own_hw hw 10 rfl) (by decide) (by decide)) qa25z qb25z qc25z (g := (mkF m 197 #[.val (.int p0), .val (.int p1), .val (.int p2), .val (.int p3), .val (.int p4), .val (.int (0 : Int32)), .val (.ref r_1z), .val (.ref r_3z), .val (.ref r_5z), .val (.ref r_7z), .val (.ref b9z), .val (.ref r_14z), .val (.int (1 : Int32))] [(.ref r_14z)])) rfl (by rw [hml]; rfl) (Steps.refl _) (argsL := []) (rest := []) (lenOf pd_193421983 rfl) rfl (by show 2 * 0 + _ ≤ _; exact Nat.le_of_eq rfl) (hb hby at_197) (fun _ _ => ⟨rfl, rfl, (by decide : 10 + 0 ≤ _), (by decide : 60 + 0 ≤ _)⟩)
    dsimp only [Pt.U, Pt.locs, Pt.cells, Pt.slots] at X25z l25z y25z z25z st25z hQ25z
    subst l25z y25z z25z
    obtain ⟨rfl, NQ25z, K25zq⟩ := hQ25z
    refine own_tr st25z ?_
    have N25z := Fr.app N22z NQ25z
    show own_G p e below (T25z.setTop (mkF m 202 #[.val (.int p0), .val (.int p1), .val (.int p2), .val (.int p3), .val (.int p4), .val (.int (0 : Int32)), .val (.ref r_1z), .val (.ref r_3z), .val (.ref r_5z), .val (.ref r_7z), .val (.ref b9z), .val (.ref r_14z), .val (.int (1 : Int32))] [(.int (0 : Int32))])) _
    refine own_go (fun t k => XS.iload X25z.here hx rfl (hb hby at_202) rfl k) ?_
    refine own_go (fun t k => XS.icmpNo X25z.here hx rfl (hb hby at_204) rfl (teq (by decide : (0 : Int32) = (0 : Int32))).2 k) ?_
    show own_G p e below (T25z.setTop (mkF m 207 #[.val (.int p0), .val (.int p1), .val (.int p2), .val (.int p3), .val (.int p4), .val (.int (0 : Int32)), .val (.ref r_1z), .val (.ref r_3z), .val (.ref r_5z), .val (.ref r_7z), .val (.ref b9z), .val (.ref r_14z), .val (.int (1 : Int32))] [])) _
    refine own_go (fun t k => XS.aload X25z.here hx rfl (hb hby at_207) rfl rfl k) ?_
    refine own_go (fun t k => XS.iconst X25z.here hx rfl (hb hby at_209) k) ?_
    refine own_go (fun t k => XS.aload X25z.here hx rfl (hb hby at_210) rfl rfl k) ?_
    refine own_go (fun t k => XS.iload X25z.here hx rfl (hb hby at_212) rfl k) ?_
    show own_G p e below (T25z.setTop (mkF m 214 #[.val (.int p0), .val (.int p1), .val (.int p2), .val (.int p3), .val (.int p4), .val (.int (0 : Int32)), .val (.ref r_1z), .val (.ref r_3z), .val (.ref r_5z), .val (.ref r_7z), .val (.ref b9z), .val (.ref r_14z), .val (.int (1 : Int32))] [(.int (0 : Int32)), (.ref r_1z), (.int (0 : Int32)), (.ref r_14z)])) _
    obtain ⟨_, _, ⟨T26z, L26z, k26z, n26z⟩, -, X26z, ⟨Lc26z, hQ26z, l26z, y26z, z26z⟩, st26z⟩ := Jvm.LawKit.callS X25z hx (y := own_m26) hown14z (mvT hZ14z (own_hw hw 107 rfl)) (mvT hZ14z (own_hw hw 108 rfl)) (mvT hZ14z (own_hw hw 109 rfl)) (mvT hZ14z (own_hw hw 110 rfl)) (by decide) (backOf (W := 0) (own_at0_0 l Z a0 hw [] r_14z r_1z T22z.heap O23z) hZ14z (own_hw hw 110 rfl) (own_hw hw 109 rfl) (by decide) (by decide)) (g := (mkF m 214 #[.val (.int p0), .val (.int p1), .val (.int p2), .val (.int p3), .val (.int p4), .val (.int (0 : Int32)), .val (.ref r_1z), .val (.ref r_3z), .val (.ref r_5z), .val (.ref r_7z), .val (.ref b9z), .val (.ref r_14z), .val (.int (1 : Int32))] [(.int (0 : Int32)), (.ref r_1z), (.int (0 : Int32)), (.ref r_14z)])) rfl (by rw [hml]; rfl) (argsL := [(.ref r_14z), (.int (0 : Int32)), (.ref r_1z), (.int (0 : Int32))]) (rest := []) (lenOf pd_2223509722 rfl) rfl (by show 2 * 0 + _ ≤ _; exact Nat.le_of_eq rfl) (hb hby at_214) (fun _ _ => ⟨rfl, K25zq, (by decide : 10 + 0 ≤ _), (by decide : 60 + 0 ≤ _)⟩)
    dsimp only [Pt.U, Pt.locs, Pt.cells, Pt.slots] at X26z l26z y26z z26z st26z hQ26z
    subst l26z y26z z26z
    obtain ⟨rfl, NQ26z, K26zq⟩ := hQ26z
    refine own_go st26z ?_
    have N26z := Fr.app N25z NQ26z
    show own_G p e below (T26z.setTop (mkF m 217 #[.val (.int p0), .val (.int p1), .val (.int p2), .val (.int p3), .val (.int p4), .val (.int (0 : Int32)), .val (.ref r_1z), .val (.ref r_3z), .val (.ref r_5z), .val (.ref r_7z), .val (.ref b9z), .val (.ref r_14z), .val (.int (1 : Int32))] [(.int (1 : Int32))])) _
    refine own_go (fun t k => XS.ifNo X26z.here hx rfl (hb hby at_217) rfl ((if0 _ _).trans (feq (by decide : ¬ ((1 : Int32) = (0 : Int32)))).1) k) ?_
    show own_G p e below (T26z.setTop (mkF m 220 #[.val (.int p0), .val (.int p1), .val (.int p2), .val (.int p3), .val (.int p4), .val (.int (0 : Int32)), .val (.ref r_1z), .val (.ref r_3z), .val (.ref r_5z), .val (.ref r_7z), .val (.ref b9z), .val (.ref r_14z), .val (.int (1 : Int32))] [])) _
    refine own_go (fun t k => XS.aload X26z.here hx rfl (hb hby at_220) rfl rfl k) ?_
    refine own_go (fun t k => XS.iconst X26z.here hx rfl (hb hby at_222) k) ?_
    refine own_go (fun t k => XS.aload X26z.here hx rfl (hb hby at_223) rfl rfl k) ?_
    refine own_go (fun t k => XS.iload X26z.here hx rfl (hb hby at_225) rfl k) ?_
    show own_G p e below (T26z.setTop (mkF m 227 #[.val (.int p0), .val (.int p1), .val (.int p2), .val (.int p3), .val (.int p4), .val (.int (0 : Int32)), .val (.ref r_1z), .val (.ref r_3z), .val (.ref r_5z), .val (.ref r_7z), .val (.ref b9z), .val (.ref r_14z), .val (.int (1 : Int32))] [(.int (0 : Int32)), (.ref r_7z), (.int (3 : Int32)), (.ref r_14z)])) _
    obtain ⟨_, _, ⟨T27z, L27z, k27z, n27z⟩, -, X27z, ⟨Lc27z, hQ27z, l27z, y27z, z27z⟩, st27z⟩ := Jvm.LawKit.callS X26z hx (y := own_m26) hown14z (mvT hZ14z (own_hw hw 107 rfl)) (mvT hZ14z (own_hw hw 108 rfl)) (mvT hZ14z (own_hw hw 109 rfl)) (mvT hZ14z (own_hw hw 110 rfl)) (by decide) (backOf (W := 0) (own_at0_3 l Z a0 hw [] r_14z r_7z T22z.heap O23z) hZ14z (own_hw hw 110 rfl) (own_hw hw 109 rfl) (by decide) (by decide)) (g := (mkF m 227 #[.val (.int p0), .val (.int p1), .val (.int p2), .val (.int p3), .val (.int p4), .val (.int (0 : Int32)), .val (.ref r_1z), .val (.ref r_3z), .val (.ref r_5z), .val (.ref r_7z), .val (.ref b9z), .val (.ref r_14z), .val (.int (1 : Int32))] [(.int (0 : Int32)), (.ref r_7z), (.int (3 : Int32)), (.ref r_14z)])) rfl (by rw [hml]; rfl) (argsL := [(.ref r_14z), (.int (3 : Int32)), (.ref r_7z), (.int (0 : Int32))]) (rest := []) (lenOf pd_2223509722 rfl) rfl (by show 2 * 0 + _ ≤ _; exact Nat.le_of_eq rfl) (hb hby at_227) (fun _ _ => ⟨rfl, K26zq, (by decide : 10 + 0 ≤ _), (by decide : 60 + 0 ≤ _)⟩)
    dsimp only [Pt.U, Pt.locs, Pt.cells, Pt.slots] at X27z l27z y27z z27z st27z hQ27z
    subst l27z y27z z27z
    obtain ⟨rfl, NQ27z, K27zq⟩ := hQ27z
    refine own_go st27z ?_
    have N27z := Fr.app N26z NQ27z
    show own_G p e below (T27z.setTop (mkF m 230 #[.val (.int p0), .val (.int p1), .val (.int p2), .val (.int p3), .val (.int p4), .val (.int (0 : Int32)), .val (.ref r_1z), .val (.ref r_3z), .val (.ref r_5z), .val (.ref r_7z), .val (.ref b9z), .val (.ref r_14z), .val (.int (1 : Int32))] [(.int (1 : Int32))])) _
    refine own_go (fun t k => XS.ifNo X27z.here hx rfl (hb hby at_230) rfl ((if0 _ _).trans (feq (by decide : ¬ ((1 : Int32) = (0 : Int32)))).1) k) ?_
    show own_G p e below (T27z.setTop (mkF m 233 #[.val (.int p0), .val (.int p1), .val (.int p2), .val (.int p3), .val (.int p4), .val (.int (0 : Int32)), .val (.ref r_1z), .val (.ref r_3z), .val (.ref r_5z), .val (.ref r_7z), .val (.ref b9z), .val (.ref r_14z), .val (.int (1 : Int32))] [])) _
    refine own_go (fun t k => XS.iconst X27z.here hx rfl (hb hby at_233) k) ?_
    refine own_go (fun t k => XS.goto X27z.here hx rfl (pc0 := 234) (pc' := 238) rfl (hb hby at_234) (by decide) (by decide) k) ?_
    show own_G p e below (T27z.setTop (mkF m 238 #[.val (.int p0), .val (.int p1), .val (.int p2), .val (.int p3), .val (.int p4), .val (.int (0 : Int32)), .val (.ref r_1z), .val (.ref r_3z), .val (.ref r_5z), .val (.ref r_7z), .val (.ref b9z), .val (.ref r_14z), .val (.int (1 : Int32))] [(.int (1 : Int32))])) _
    exact own_retW X27z Sx14z (by rw [K27zq]; exact Sn23z) hx Bd.returns rfl (Or.inl ⟨rfl, Or.inr (Or.inl rfl), _, rfl⟩) (hb hby at_238) hlk (Nat.le_of_ble_eq_true rfl) (Nat.le_of_ble_eq_true rfl) (by show Q_own_law Z p0 p1 p2 p3 p4 dE kd eE ca h0 _ T27z.heap _; rw [K27zq]; exact ⟨rfl, N27z, K23z⟩)
  · rw [hk]
    show own_G p e below (s₁.setTop (mkF m 6 #[.val (.int p0), .val (.int p1), .val (.int p2), .val (.int p3), .val (.int p4), .unset, .unset, .unset, .unset, .unset, .unset, .unset, .unset] [(.int (1 : Int32))])) _
    refine own_go (fun t k => XS.istore X0.here hx rfl (hb hby at_6) rfl (l' := #[.val (.int p0), .val (.int p1), .val (.int p2), .val (.int p3), .val (.int p4), .val (.int (1 : Int32)), .unset, .unset, .unset, .unset, .unset, .unset, .unset]) rfl k) ?_
    refine own_go (fun t k => XS.iloadN X0.here hx rfl (hb hby at_8) rfl k) ?_
    obtain ⟨_, _, ⟨T28z, L28z, k28z, n28z⟩, -, X28z, ⟨Lc28z, hQ28z, l28z, y28z, z28z⟩, st28z⟩ := Jvm.LawKit.callS X0 hx (y := own_m30) hown (mvT hZ (own_hw hw 1 rfl)) (mvT hZ (own_hw hw 2 rfl)) (mvT hZ (own_hw hw 3 rfl)) (mvT hZ (own_hw hw 4 rfl)) (by decide) (backOf (W := 0) (own_vo l Z a0 hw [] p1 ca h0 O0 S_H S_C BX) hZ (own_hw hw 4 rfl) (own_hw hw 3 rfl) (by decide) (by decide)) (g := (mkF m 9 #[.val (.int p0), .val (.int p1), .val (.int p2), .val (.int p3), .val (.int p4), .val (.int (1 : Int32)), .unset, .unset, .unset, .unset, .unset, .unset, .unset] [(.int p1)])) rfl (by rw [hml]; rfl) (argsL := [(.int p1)]) (rest := []) (lenOf pd_73316374 rfl) rfl (by show 2 * 0 + _ ≤ _; exact Nat.le_of_eq rfl) (hb hby at_9) (fun _ _ => ⟨rfl, e0, (by decide : 0 + 1 ≤ _), (by decide : 0 + 1 ≤ _)⟩)
    dsimp only [Pt.U, Pt.locs, Pt.cells, Pt.slots] at X28z l28z y28z z28z st28z hQ28z
    subst l28z y28z z28z
    obtain ⟨r_28z, rfl, NQ28z, K28zq, r28z_0⟩ := hQ28z
    refine own_go st28z ?_
    have N28z := Fr.app N0 NQ28z
    have O29z : Ext Z.heap T28z.heap := own_ext_keep O0 K28zq all0
    have K29z : Keep h0 T28z.heap [] := K0.trans K28zq all0
    have Sn29z := Nat.le_trans Sn0 K28zq.1
    show own_G p e below (T28z.setTop (mkF m 12 #[.val (.int p0), .val (.int p1), .val (.int p2), .val (.int p3), .val (.int p4), .val (.int (1 : Int32)), .unset, .unset, .unset, .unset, .unset, .unset, .unset] [(.ref r_28z)])) _
    refine own_go (fun t k => XS.astore X28z.here hx rfl (hb hby at_12) rfl rfl (l' := #[.val (.int p0), .val (.int p1), .val (.int p2), .val (.int p3), .val (.int p4), .val (.int (1 : Int32)), .val (.ref r_28z), .unset, .unset, .unset, .unset, .unset, .unset]) rfl k) ?_
    refine own_go (fun t k => XS.iloadN X28z.here hx rfl (hb hby at_14) rfl k) ?_
    obtain ⟨_, _, ⟨T30z, L30z, k30z, n30z⟩, -, X30z, ⟨Lc30z, hQ30z, l30z, y30z, z30z⟩, st30z⟩ := Jvm.LawKit.callS X28z hx (y := own_m30) hown (mvT hZ (own_hw hw 1 rfl)) (mvT hZ (own_hw hw 2 rfl)) (mvT hZ (own_hw hw 3 rfl)) (mvT hZ (own_hw hw 4 rfl)) (by decide) (backOf (W := 0) (own_vo l Z a0 hw [] p2 ca T28z.heap O29z S_H S_C BX) hZ (own_hw hw 4 rfl) (own_hw hw 3 rfl) (by decide) (by decide)) (g := (mkF m 15 #[.val (.int p0), .val (.int p1), .val (.int p2), .val (.int p3), .val (.int p4), .val (.int (1 : Int32)), .val (.ref r_28z), .unset, .unset, .unset, .unset, .unset, .unset] [(.int p2)])) rfl (by rw [hml]; rfl) (argsL := [(.int p2)]) (rest := []) (lenOf pd_73316374 rfl) rfl (by show 2 * 0 + _ ≤ _; exact Nat.le_of_eq rfl) (hb hby at_15) (fun _ _ => ⟨rfl, rfl, (by decide : 1 + 1 ≤ _), (by decide : 1 + 1 ≤ _)⟩)
    dsimp only [Pt.U, Pt.locs, Pt.cells, Pt.slots] at X30z l30z y30z z30z st30z hQ30z
    subst l30z y30z z30z
    obtain ⟨r_30z, rfl, NQ30z, K30zq, r30z_0⟩ := hQ30z
    refine own_go st30z ?_
    have N30z := Fr.app N28z NQ30z
    have O31z : Ext Z.heap T30z.heap := own_ext_keep O29z K30zq all0
    have K31z : Keep h0 T30z.heap [] := K29z.trans K30zq all0
    have Sn31z := Nat.le_trans Sn29z K30zq.1
    show own_G p e below (T30z.setTop (mkF m 18 #[.val (.int p0), .val (.int p1), .val (.int p2), .val (.int p3), .val (.int p4), .val (.int (1 : Int32)), .val (.ref r_28z), .unset, .unset, .unset, .unset, .unset, .unset] [(.ref r_30z)])) _
    refine own_go (fun t k => XS.astore X30z.here hx rfl (hb hby at_18) rfl rfl (l' := #[.val (.int p0), .val (.int p1), .val (.int p2), .val (.int p3), .val (.int p4), .val (.int (1 : Int32)), .val (.ref r_28z), .val (.ref r_30z), .unset, .unset, .unset, .unset, .unset]) rfl k) ?_
    refine own_go (fun t k => XS.iloadN X30z.here hx rfl (hb hby at_20) rfl k) ?_
    obtain ⟨_, _, ⟨T32z, L32z, k32z, n32z⟩, -, X32z, ⟨Lc32z, hQ32z, l32z, y32z, z32z⟩, st32z⟩ := Jvm.LawKit.callS X30z hx (y := own_m30) hown (mvT hZ (own_hw hw 1 rfl)) (mvT hZ (own_hw hw 2 rfl)) (mvT hZ (own_hw hw 3 rfl)) (mvT hZ (own_hw hw 4 rfl)) (by decide) (backOf (W := 0) (own_vo l Z a0 hw [] p3 ca T30z.heap O31z S_H S_C BX) hZ (own_hw hw 4 rfl) (own_hw hw 3 rfl) (by decide) (by decide)) (g := (mkF m 21 #[.val (.int p0), .val (.int p1), .val (.int p2), .val (.int p3), .val (.int p4), .val (.int (1 : Int32)), .val (.ref r_28z), .val (.ref r_30z), .unset, .unset, .unset, .unset, .unset] [(.int p3)])) rfl (by rw [hml]; rfl) (argsL := [(.int p3)]) (rest := []) (lenOf pd_73316374 rfl) rfl (by show 2 * 0 + _ ≤ _; exact Nat.le_of_eq rfl) (hb hby at_21) (fun _ _ => ⟨rfl, rfl, (by decide : 2 + 1 ≤ _), (by decide : 2 + 1 ≤ _)⟩)
    dsimp only [Pt.U, Pt.locs, Pt.cells, Pt.slots] at X32z l32z y32z z32z st32z hQ32z
    subst l32z y32z z32z
    obtain ⟨r_32z, rfl, NQ32z, K32zq, r32z_0⟩ := hQ32z
    refine own_go st32z ?_
    have N32z := Fr.app N30z NQ32z
    have O33z : Ext Z.heap T32z.heap := own_ext_keep O31z K32zq all0
    have K33z : Keep h0 T32z.heap [] := K31z.trans K32zq all0
    have Sn33z := Nat.le_trans Sn31z K32zq.1
    show own_G p e below (T32z.setTop (mkF m 24 #[.val (.int p0), .val (.int p1), .val (.int p2), .val (.int p3), .val (.int p4), .val (.int (1 : Int32)), .val (.ref r_28z), .val (.ref r_30z), .unset, .unset, .unset, .unset, .unset] [(.ref r_32z)])) _
    refine own_go (fun t k => XS.astore X32z.here hx rfl (hb hby at_24) rfl rfl (l' := #[.val (.int p0), .val (.int p1), .val (.int p2), .val (.int p3), .val (.int p4), .val (.int (1 : Int32)), .val (.ref r_28z), .val (.ref r_30z), .val (.ref r_32z), .unset, .unset, .unset, .unset]) rfl k) ?_
    refine own_go (fun t k => XS.iload X32z.here hx rfl (hb hby at_26) rfl k) ?_
    obtain ⟨_, _, ⟨T34z, L34z, k34z, n34z⟩, -, X34z, ⟨Lc34z, hQ34z, l34z, y34z, z34z⟩, st34z⟩ := Jvm.LawKit.callS X32z hx (y := own_m30) hown (mvT hZ (own_hw hw 1 rfl)) (mvT hZ (own_hw hw 2 rfl)) (mvT hZ (own_hw hw 3 rfl)) (mvT hZ (own_hw hw 4 rfl)) (by decide) (backOf (W := 0) (own_vo l Z a0 hw [] p4 ca T32z.heap O33z S_H S_C BX) hZ (own_hw hw 4 rfl) (own_hw hw 3 rfl) (by decide) (by decide)) (g := (mkF m 28 #[.val (.int p0), .val (.int p1), .val (.int p2), .val (.int p3), .val (.int p4), .val (.int (1 : Int32)), .val (.ref r_28z), .val (.ref r_30z), .val (.ref r_32z), .unset, .unset, .unset, .unset] [(.int p4)])) rfl (by rw [hml]; rfl) (argsL := [(.int p4)]) (rest := []) (lenOf pd_73316374 rfl) rfl (by show 2 * 0 + _ ≤ _; exact Nat.le_of_eq rfl) (hb hby at_28) (fun _ _ => ⟨rfl, rfl, (by decide : 3 + 1 ≤ _), (by decide : 3 + 1 ≤ _)⟩)
    dsimp only [Pt.U, Pt.locs, Pt.cells, Pt.slots] at X34z l34z y34z z34z st34z hQ34z
    subst l34z y34z z34z
    obtain ⟨r_34z, rfl, NQ34z, K34zq, r34z_0⟩ := hQ34z
    refine own_go st34z ?_
    have N34z := Fr.app N32z NQ34z
    have O35z : Ext Z.heap T34z.heap := own_ext_keep O33z K34zq all0
    have K35z : Keep h0 T34z.heap [] := K33z.trans K34zq all0
    have Sn35z := Nat.le_trans Sn33z K34zq.1
    show own_G p e below (T34z.setTop (mkF m 31 #[.val (.int p0), .val (.int p1), .val (.int p2), .val (.int p3), .val (.int p4), .val (.int (1 : Int32)), .val (.ref r_28z), .val (.ref r_30z), .val (.ref r_32z), .unset, .unset, .unset, .unset] [(.ref r_34z)])) _
    refine own_go (fun t k => XS.astore X34z.here hx rfl (hb hby at_31) rfl rfl (l' := #[.val (.int p0), .val (.int p1), .val (.int p2), .val (.int p3), .val (.int p4), .val (.int (1 : Int32)), .val (.ref r_28z), .val (.ref r_30z), .val (.ref r_32z), .val (.ref r_34z), .unset, .unset, .unset]) rfl k) ?_
    obtain ⟨T36z, h36z, X36z, e36z, E36z, A36z, D36z, -, st36z⟩ := newO X34z hx hZ hown (own_hw hw 8 rfl) (own_hw hw 9 rfl) (own_hw hw 10 rfl) rfl (g := (mkF m 33 #[.val (.int p0), .val (.int p1), .val (.int p2), .val (.int p3), .val (.int p4), .val (.int (1 : Int32)), .val (.ref r_28z), .val (.ref r_30z), .val (.ref r_32z), .val (.ref r_34z), .unset, .unset, .unset] [])) rfl (hb hby at_33) (by decide) (by decide)
    obtain ⟨b36z, g36z⟩ : ∃ z, z = T34z.heap.size := ⟨_, rfl⟩
    rw [← g36z] at A36z D36z st36z
    have fr_b36z : Z.heap.size ≤ b36z := g36z ▸ O35z.1
    have lz_b36z : h0.size ≤ b36z := g36z ▸ K35z.1
    have ne_r_28z_b36z : r_28z ≠ b36z := Nat.ne_of_lt (g36z ▸ (((r28z_0.keep K30zq).keep K32zq).keep K34zq).lt)
    have ne_r_30z_b36z : r_30z ≠ b36z := Nat.ne_of_lt (g36z ▸ ((r30z_0.keep K32zq).keep K34zq).lt)
    have ne_r_32z_b36z : r_32z ≠ b36z := Nat.ne_of_lt (g36z ▸ (r32z_0.keep K34zq).lt)
    have ne_r_34z_b36z : r_34z ≠ b36z := Nat.ne_of_lt (g36z ▸ r34z_0.lt)
    have O37z : Ext Z.heap h36z := own_ext_trans O35z E36z
    have K37z : Keep h0 h36z [] := K35z.ext E36z
    have Sn37z := Nat.le_trans Sn35z E36z.1
    have F36z_modCount : Fld Z h36z b36z "java/util/AbstractList" "modCount" "I" (.int (0 : Int32)) := D36z (Or.inl (own_hw hw 30 rfl)) (ty := .int) (by decide)
    have F36z_elementData : Fld Z h36z b36z "java/util/ArrayList" "elementData" "[Ljava/lang/Object;" .null := D36z (Or.inl (own_hw hw 33 rfl)) (ty := (.array (.object "java/lang/Object"))) (by decide)
    have F36z_size : Fld Z h36z b36z "java/util/ArrayList" "size" "I" (.int (0 : Int32)) := D36z (Or.inl (own_hw hw 61 rfl)) (ty := .int) (by decide)
    refine own_go st36z ?_
    refine own_go (fun t k => XS.dup X36z.here hx rfl (hb hby at_36) rfl rfl k) ?_
    obtain ⟨_, _, ⟨T38z, L38z, k38z, n38z⟩, -, X38z, ⟨Lc38z, hQ38z, l38z, y38z, z38z⟩, st38z⟩ := X36z.specialBack hx (y := own_m2) rfl hown (mvT hZ (own_hw hw 11 rfl)) (mvT hZ (own_hw hw 12 rfl)) (mvT hZ (own_hw hw 13 rfl)) (by decide) (backOf (W := 1) (own_ali l Z a0 hw [] b36z dE h36z O37z S_D A36z fr_b36z F36z_modCount F36z_elementData F36z_size) hZ (own_hw hw 13 rfl) (own_hw hw 10 rfl) (by decide) (by decide)) (g := (mkF m 37 #[.val (.int p0), .val (.int p1), .val (.int p2), .val (.int p3), .val (.int p4), .val (.int (1 : Int32)), .val (.ref r_28z), .val (.ref r_30z), .val (.ref r_32z), .val (.ref r_34z), .unset, .unset, .unset] [(.ref b36z), (.ref b36z)])) rfl (by rw [hml]; rfl) (Steps.refl _) (a := b36z) (argsL := []) (rest := [(.ref b36z)]) (lenOf pd_193421996 rfl) rfl (by show 2 * 0 + _ ≤ _; exact Nat.le_of_eq rfl) (hb hby at_37) (fun _ _ => ⟨rfl, e36z, (by decide : 5 + 0 ≤ _), (by decide : 7 + 0 ≤ _)⟩)
    dsimp only [Pt.U, Pt.locs, Pt.cells, Pt.slots] at X38z l38z y38z z38z st38z hQ38z
    subst l38z y38z z38z
    obtain ⟨rfl, NQ38z, K38zq, r38z_0, r38z_1, r38z_2, r38z_3⟩ := hQ38z
    refine own_tr st38z ?_
    have N38z := Fr.app N34z NQ38z
    have O39z : Ext Z.heap T38z.heap := own_ext_keep O37z K38zq (allS fr_b36z all0)
    have K39z : Keep h0 T38z.heap [] := K37z.trans K38zq (allS (Or.inr lz_b36z) all0)
    have Sn39z := Nat.le_trans Sn37z K38zq.1
    show own_G p e below (T38z.setTop (mkF m 40 #[.val (.int p0), .val (.int p1), .val (.int p2), .val (.int p3), .val (.int p4), .val (.int (1 : Int32)), .val (.ref r_28z), .val (.ref r_30z), .val (.ref r_32z), .val (.ref r_34z), .unset, .unset, .unset] [(.ref b36z)])) _
    refine own_go (fun t k => XS.astore X38z.here hx rfl (hb hby at_40) rfl rfl (l' := #[.val (.int p0), .val (.int p1), .val (.int p2), .val (.int p3), .val (.int p4), .val (.int (1 : Int32)), .val (.ref r_28z), .val (.ref r_30z), .val (.ref r_32z), .val (.ref r_34z), .val (.ref b36z), .unset, .unset]) rfl k) ?_
    refine own_go (fun t k => XS.iload X38z.here hx rfl (hb hby at_42) rfl k) ?_
    refine own_go (fun t k => XS.ifNo X38z.here hx rfl (hb hby at_44) rfl ((if0 _ _).trans (tlt (by decide : (0 : Int32) < (1 : Int32))).2.2.2) k) ?_
    show own_G p e below (T38z.setTop (mkF m 47 #[.val (.int p0), .val (.int p1), .val (.int p2), .val (.int p3), .val (.int p4), .val (.int (1 : Int32)), .val (.ref r_28z), .val (.ref r_30z), .val (.ref r_32z), .val (.ref r_34z), .val (.ref b36z), .unset, .unset] [])) _
    refine own_go (fun t k => XS.aload X38z.here hx rfl (hb hby at_47) rfl rfl k) ?_
    refine own_go (fun t k => XS.aload X38z.here hx rfl (hb hby at_49) rfl rfl k) ?_
    have f40z := (((((r28z_0.keep K30zq).keep K32zq).keep K34zq).ext E36z).keep K38zq)
    obtain ⟨cq41z, kq41z, qa41z, qb41z, qc41z⟩ := isOf hZ (rfl : T38z.heap = _) r38z_0
    obtain ⟨_, _, ⟨T41z, L41z, k41z, n41z⟩, -, X41z, ⟨Lc41z, hQ41z, l41z, y41z, z41z⟩, st41z⟩ := X38z.virtualBack hx (y := own_m8) (z := own_m8) hown (mvT hZ (own_hw hw 111 rfl)) (mvT hZ (own_hw hw 112 rfl)) (notFace_of_selects (args := #[]) (mvT hZ (own_hw hw 114 rfl))) (mvT hZ (own_hw hw 114 rfl)) (mvT hZ (own_hw hw 113 rfl)) (by decide) (backOf (W := 0) (own_add10 l Z a0 hw [] b36z (0 : Int32) dE kd r_28z T38z.heap O39z S_D BD r38z_0 fr_b36z r38z_1 r38z_2 r38z_3 f40z) hZ (own_hw hw 115 rfl) (own_hw hw 10 rfl) (by decide) (by decide)) qa41z qc41z (g := (mkF m 51 #[.val (.int p0), .val (.int p1), .val (.int p2), .val (.int p3), .val (.int p4), .val (.int (1 : Int32)), .val (.ref r_28z), .val (.ref r_30z), .val (.ref r_32z), .val (.ref r_34z), .val (.ref b36z), .unset, .unset] [(.ref r_28z), (.ref b36z)])) rfl (by rw [hml]; rfl) (Steps.refl _) (argsL := [(.ref r_28z)]) (rest := []) (lenOf pd_396412080 rfl) rfl (by show 2 * 0 + _ ≤ _; exact Nat.le_of_eq rfl) (hb hby at_51) (fun _ _ => ⟨rfl, rfl, (by decide : 5 + 1 ≤ _), (by decide : 7 + 10 ≤ _)⟩)
    dsimp only [Pt.U, Pt.locs, Pt.cells, Pt.slots] at X41z l41z y41z z41z st41z hQ41z
    subst l41z y41z z41z
    obtain ⟨arr_41z, kk_41z, rfl, NQ41z, K41zq, r41z_0, r41z_1, r41z_2, r41z_3, r41z_4, r41z_5, r41z_6, r41z_7⟩ := hQ41z
    refine own_tr st41z ?_
    have N41z := Fr.app N38z NQ41z
    have O42z : Ext Z.heap T41z.heap := own_ext_keep O39z K41zq (allS fr_b36z all0)
    have K42z : Keep h0 T41z.heap [] := K39z.trans K41zq (allS (Or.inr lz_b36z) all0)
    have Sn42z := Nat.le_trans Sn39z K41zq.1
    have lz_arr_41z : h0.size ≤ arr_41z := Nat.le_trans K39z.1 r41z_2
    have ne_r_28z_arr_41z : r_28z ≠ arr_41z := Nat.ne_of_lt (Nat.lt_of_lt_of_le f40z.lt r41z_2)
    have ne_r_30z_arr_41z : r_30z ≠ arr_41z := Nat.ne_of_lt (Nat.lt_of_lt_of_le ((((r30z_0.keep K32zq).keep K34zq).ext E36z).keep K38zq).lt r41z_2)
    have ne_r_32z_arr_41z : r_32z ≠ arr_41z := Nat.ne_of_lt (Nat.lt_of_lt_of_le (((r32z_0.keep K34zq).ext E36z).keep K38zq).lt r41z_2)
    have ne_r_34z_arr_41z : r_34z ≠ arr_41z := Nat.ne_of_lt (Nat.lt_of_lt_of_le ((r34z_0.ext E36z).keep K38zq).lt r41z_2)
    have ne_b36z_arr_41z : b36z ≠ arr_41z := Nat.ne_of_lt (Nat.lt_of_lt_of_le r38z_0.lt r41z_2)
    have r41z_5 : Fld Z T41z.heap b36z "java/util/AbstractList" "modCount" "I" (.int (1 : Int32)) := r41z_5
    show own_G p e below (T41z.setTop (mkF m 54 #[.val (.int p0), .val (.int p1), .val (.int p2), .val (.int p3), .val (.int p4), .val (.int (1 : Int32)), .val (.ref r_28z), .val (.ref r_30z), .val (.ref r_32z), .val (.ref r_34z), .val (.ref b36z), .unset, .unset] [(.int (1 : Int32))])) _
    refine own_go (fun t k => XS.pop X41z.here hx rfl (hb hby at_54) rfl rfl k) ?_
    refine own_go (fun t k => XS.iload X41z.here hx rfl (hb hby at_55) rfl k) ?_
    refine own_go (fun t k => XS.iconst X41z.here hx rfl (hb hby at_57) k) ?_
    refine own_go (fun t k => XS.icmpYes X41z.here hx rfl (pc0 := 58) (pc' := 69) rfl (hb hby at_58) rfl (flt (by decide : ¬ ((1 : Int32) < (1 : Int32)))).2.2.2 (by decide) (by decide) k) ?_
    show own_G p e below (T41z.setTop (mkF m 69 #[.val (.int p0), .val (.int p1), .val (.int p2), .val (.int p3), .val (.int p4), .val (.int (1 : Int32)), .val (.ref r_28z), .val (.ref r_30z), .val (.ref r_32z), .val (.ref r_34z), .val (.ref b36z), .unset, .unset] [])) _
    refine own_go (fun t k => XS.iload X41z.here hx rfl (hb hby at_69) rfl k) ?_
    refine own_go (fun t k => XS.iconst X41z.here hx rfl (hb hby at_71) k) ?_
    refine own_go (fun t k => XS.icmpYes X41z.here hx rfl (pc0 := 72) (pc' := 83) rfl (hb hby at_72) rfl (flt (by decide : ¬ ((2 : Int32) < (1 : Int32)))).2.2.2 (by decide) (by decide) k) ?_
    show own_G p e below (T41z.setTop (mkF m 83 #[.val (.int p0), .val (.int p1), .val (.int p2), .val (.int p3), .val (.int p4), .val (.int (1 : Int32)), .val (.ref r_28z), .val (.ref r_30z), .val (.ref r_32z), .val (.ref r_34z), .val (.ref b36z), .unset, .unset] [])) _
    refine own_go (fun t k => XS.iload X41z.here hx rfl (hb hby at_83) rfl k) ?_
    refine own_go (fun t k => XS.iconst X41z.here hx rfl (hb hby at_85) k) ?_
    refine own_go (fun t k => XS.icmpYes X41z.here hx rfl (pc0 := 86) (pc' := 97) rfl (hb hby at_86) rfl (flt (by decide : ¬ ((3 : Int32) < (1 : Int32)))).2.2.2 (by decide) (by decide) k) ?_
    show own_G p e below (T41z.setTop (mkF m 97 #[.val (.int p0), .val (.int p1), .val (.int p2), .val (.int p3), .val (.int p4), .val (.int (1 : Int32)), .val (.ref r_28z), .val (.ref r_30z), .val (.ref r_32z), .val (.ref r_34z), .val (.ref b36z), .unset, .unset] [])) _
    refine own_go (fun t k => XS.aload X41z.here hx rfl (hb hby at_97) rfl rfl k) ?_
    have f43z := (((((r30z_0.keep K32zq).keep K34zq).ext E36z).keep K38zq).keep K41zq)
    obtain ⟨_, _, ⟨T44z, L44z, k44z, n44z⟩, -, X44z, Si44z, gr44z, ⟨Lc44z, hQ44z, l44z, y44z, z44z⟩, st44z⟩ := callSS X41z hx (y := own_m20) hown (mvT hZ (own_hw hw 34 rfl)) (mvT hZ (own_hw hw 35 rfl)) (mvT hZ (own_hw hw 36 rfl)) (mvT hZ (own_hw hw 37 rfl)) (by decide) (backOfS (W := 0) (own_copy1 l Z a0 hw [] b36z (1 : Int32) r_28z arr_41z kk_41z T41z.heap O42z r41z_4 r41z_0 (f40z.keep K41zq) r41z_5 r41z_6 r41z_7) hZ (own_hw hw 37 rfl) (own_hw hw 36 rfl) (by decide) (by decide)) (g := (mkF m 99 #[.val (.int p0), .val (.int p1), .val (.int p2), .val (.int p3), .val (.int p4), .val (.int (1 : Int32)), .val (.ref r_28z), .val (.ref r_30z), .val (.ref r_32z), .val (.ref r_34z), .val (.ref b36z), .unset, .unset] [(.ref b36z)])) rfl (by rw [hml]; rfl) (argsL := [(.ref b36z)]) (rest := []) (lenOf pd_548093608 rfl) rfl (by show 2 * 0 + _ ≤ _; exact Nat.le_of_eq rfl) (hb hby at_99) (fun _ _ => ⟨rfl, rfl, (by decide : 6 + 7 ≤ _), (by decide : 17 + 132 ≤ _)⟩)
    dsimp only [Pt.U, Pt.locs, Pt.cells, Pt.slots] at X44z l44z y44z z44z st44z hQ44z Si44z gr44z
    subst l44z y44z z44z
    obtain ⟨r_44z, ar_44z, kr_44z, rfl, NQ44z, K44zq, r44z_0, r44z_1, r44z_2, r44z_3, r44z_4, r44z_5, r44z_6⟩ := hQ44z
    refine own_tr st44z ?_
    have N44z := Fr.app N41z NQ44z
    have Sx44z : s.Since T44z.vm T44z.heap.size := foldS Si0 (by first | exact Sn42z | (rw [Nat.add_zero]; exact Sn42z)) Si44z gr44z
    have hZ44z : Z.Warmed39 (s.setVm T44z.vm).vm := State.Warmed39.trans (t := s.setVm s.vm) hZ Si44z.1
    have hown44z : (s.setVm T44z.vm).vm.findClass "com/example/etapa/etapa/mongodb/EntityBatchCopyOfPinLaw" = some m.cls := by rw [show (s.setVm T44z.vm).vm = T44z.vm from rfl, Si44z.1.alike.findClass]; exact hown
    have X44z := (show Stand _ _ _ _ (s.setVm T44z.vm) _ _ _ _ _ _ _ _ _ from X44z)
    have Sn44z : T44z.heap.size ≤ T44z.heap.size := Nat.le_refl _
    have O45z : Ext Z.heap T44z.heap := own_ext_keep O42z K44zq all0
    have K45z : Keep h0 T44z.heap [] := K42z.trans K44zq all0
    have lz_r_44z : h0.size ≤ r_44z := Nat.le_trans K42z.1 r44z_1
    have ne_r_28z_r_44z : r_28z ≠ r_44z := Nat.ne_of_lt (Nat.lt_of_lt_of_le (f40z.keep K41zq).lt r44z_1)
    have ne_r_30z_r_44z : r_30z ≠ r_44z := Nat.ne_of_lt (Nat.lt_of_lt_of_le f43z.lt r44z_1)
    have ne_r_32z_r_44z : r_32z ≠ r_44z := Nat.ne_of_lt (Nat.lt_of_lt_of_le ((((r32z_0.keep K34zq).ext E36z).keep K38zq).keep K41zq).lt r44z_1)
    have ne_r_34z_r_44z : r_34z ≠ r_44z := Nat.ne_of_lt (Nat.lt_of_lt_of_le (((r34z_0.ext E36z).keep K38zq).keep K41zq).lt r44z_1)
    have ne_b36z_r_44z : b36z ≠ r_44z := Nat.ne_of_lt (Nat.lt_of_lt_of_le r41z_0.lt r44z_1)
    have ne_arr_41z_r_44z : arr_41z ≠ r_44z := Nat.ne_of_lt (Nat.lt_of_lt_of_le r41z_4.lt r44z_1)
    have lz_ar_44z : h0.size ≤ ar_44z := Nat.le_trans K42z.1 r44z_6
    have ne_r_28z_ar_44z : r_28z ≠ ar_44z := Nat.ne_of_lt (Nat.lt_of_lt_of_le (f40z.keep K41zq).lt r44z_6)
    have ne_r_30z_ar_44z : r_30z ≠ ar_44z := Nat.ne_of_lt (Nat.lt_of_lt_of_le f43z.lt r44z_6)
    have ne_r_32z_ar_44z : r_32z ≠ ar_44z := Nat.ne_of_lt (Nat.lt_of_lt_of_le ((((r32z_0.keep K34zq).ext E36z).keep K38zq).keep K41zq).lt r44z_6)
    have ne_r_34z_ar_44z : r_34z ≠ ar_44z := Nat.ne_of_lt (Nat.lt_of_lt_of_le (((r34z_0.ext E36z).keep K38zq).keep K41zq).lt r44z_6)
    have ne_b36z_ar_44z : b36z ≠ ar_44z := Nat.ne_of_lt (Nat.lt_of_lt_of_le r41z_0.lt r44z_6)
    have ne_arr_41z_ar_44z : arr_41z ≠ ar_44z := Nat.ne_of_lt (Nat.lt_of_lt_of_le r41z_4.lt r44z_6)
    show own_G p e below (T44z.setTop (mkF m 102 #[.val (.int p0), .val (.int p1), .val (.int p2), .val (.int p3), .val (.int p4), .val (.int (1 : Int32)), .val (.ref r_28z), .val (.ref r_30z), .val (.ref r_32z), .val (.ref r_34z), .val (.ref b36z), .unset, .unset] [(.ref r_44z)])) _
    refine own_go (fun t k => XS.astore X44z.here hx rfl (hb hby at_102) rfl rfl (l' := #[.val (.int p0), .val (.int p1), .val (.int p2), .val (.int p3), .val (.int p4), .val (.int (1 : Int32)), .val (.ref r_28z), .val (.ref r_30z), .val (.ref r_32z), .val (.ref r_34z), .val (.ref b36z), .val (.ref r_44z), .unset]) rfl k) ?_
    refine own_go (fun t k => XS.aload X44z.here hx rfl (hb hby at_104) rfl rfl k) ?_
    refine own_go (fun t k => XS.aload X44z.here hx rfl (hb hby at_106) rfl rfl k) ?_
    refine own_go (fun t k => Jvm.RoadKit.acmp (g := (mkF m 108 #[.val (.int p0), .val (.int p1), .val (.int p2), .val (.int p3), .val (.int p4), .val (.int (1 : Int32)), .val (.ref r_28z), .val (.ref r_30z), .val (.ref r_32z), .val (.ref r_34z), .val (.ref b36z), .val (.ref r_44z), .unset] [(.ref b36z), (.ref r_44z)])) X44z hx rfl rfl rfl (pc0 := 108) (pc' := 111) (same := false) rfl (hb hby at_108) rfl (decide_eq_false fun q => (Ne.symm ne_b36z_r_44z) (Value.ref.inj q)) (by decide) (by decide) k) ?_
    show own_G p e below (T44z.setTop (mkF m 111 #[.val (.int p0), .val (.int p1), .val (.int p2), .val (.int p3), .val (.int p4), .val (.int (1 : Int32)), .val (.ref r_28z), .val (.ref r_30z), .val (.ref r_32z), .val (.ref r_34z), .val (.ref b36z), .val (.ref r_44z), .unset] [])) _
    refine own_go (fun t k => XS.aload X44z.here hx rfl (hb hby at_111) rfl rfl k) ?_
    obtain ⟨cq46z, kq46z, qa46z, qb46z, qc46z⟩ := isOf hZ44z (rfl : T44z.heap = _) r44z_0
    obtain ⟨_, _, ⟨T46z, L46z, k46z, n46z⟩, -, X46z, ⟨Lc46z, hQ46z, l46z, y46z, z46z⟩, st46z⟩ := X44z.interfaceBack hx (xi := own_m31) (y := own_m9) hown44z (mvT hZ44z (own_hw hw 102 rfl)) (mvT hZ44z (own_hw hw 103 rfl)) (mvT hZ44z (own_hw hw 104 rfl)) (mvT hZ44z (own_hw hw 105 rfl)) (mvT hZ44z (own_hw hw 55 rfl)) (mvT hZ44z (own_hw hw 56 rfl)) (mvT hZ44z (own_hw hw 57 rfl)) (mvT hZ44z (own_hw hw 106 rfl)) (by decide) (backOf (W := 0) (own_size l Z a0 hw [] r_44z (1 : Int32) T44z.heap O45z r44z_5) hZ44z (own_hw hw 59 rfl) (own_hw hw 10 rfl) (by decide) (by decide)) qa46z qb46z qc46z (g := (mkF m 113 #[.val (.int p0), .val (.int p1), .val (.int p2), .val (.int p3), .val (.int p4), .val (.int (1 : Int32)), .val (.ref r_28z), .val (.ref r_30z), .val (.ref r_32z), .val (.ref r_34z), .val (.ref b36z), .val (.ref r_44z), .unset] [(.ref r_44z)])) rfl (by rw [hml]; rfl) (Steps.refl _) (argsL := []) (rest := []) (lenOf pd_193421983 rfl) rfl (by show 2 * 0 + _ ≤ _; exact Nat.le_of_eq rfl) (hb hby at_113) (fun _ _ => ⟨rfl, rfl, (by decide : 13 + 0 ≤ _), (by decide : 149 + 0 ≤ _)⟩)
    dsimp only [Pt.U, Pt.locs, Pt.cells, Pt.slots] at X46z l46z y46z z46z st46z hQ46z
    subst l46z y46z z46z
    obtain ⟨rfl, NQ46z, K46zq⟩ := hQ46z
    refine own_tr st46z ?_
    have N46z := Fr.app N44z NQ46z
    show own_G p e below (T46z.setTop (mkF m 118 #[.val (.int p0), .val (.int p1), .val (.int p2), .val (.int p3), .val (.int p4), .val (.int (1 : Int32)), .val (.ref r_28z), .val (.ref r_30z), .val (.ref r_32z), .val (.ref r_34z), .val (.ref b36z), .val (.ref r_44z), .unset] [(.int (1 : Int32))])) _
    refine own_go (fun t k => XS.iload X46z.here hx rfl (hb hby at_118) rfl k) ?_
    refine own_go (fun t k => XS.icmpNo X46z.here hx rfl (hb hby at_120) rfl (teq (by decide : (1 : Int32) = (1 : Int32))).2 k) ?_
    show own_G p e below (T46z.setTop (mkF m 123 #[.val (.int p0), .val (.int p1), .val (.int p2), .val (.int p3), .val (.int p4), .val (.int (1 : Int32)), .val (.ref r_28z), .val (.ref r_30z), .val (.ref r_32z), .val (.ref r_34z), .val (.ref b36z), .val (.ref r_44z), .unset] [])) _
    refine own_go (fun t k => XS.aload X46z.here hx rfl (hb hby at_123) rfl rfl k) ?_
    refine own_go (fun t k => XS.iconst X46z.here hx rfl (hb hby at_125) k) ?_
    refine own_go (fun t k => XS.aload X46z.here hx rfl (hb hby at_126) rfl rfl k) ?_
    refine own_go (fun t k => XS.iload X46z.here hx rfl (hb hby at_128) rfl k) ?_
    show own_G p e below (T46z.setTop (mkF m 130 #[.val (.int p0), .val (.int p1), .val (.int p2), .val (.int p3), .val (.int p4), .val (.int (1 : Int32)), .val (.ref r_28z), .val (.ref r_30z), .val (.ref r_32z), .val (.ref r_34z), .val (.ref b36z), .val (.ref r_44z), .unset] [(.int (1 : Int32)), (.ref r_28z), (.int (0 : Int32)), (.ref r_44z)])) _
    obtain ⟨_, _, ⟨T47z, L47z, k47z, n47z⟩, -, X47z, ⟨Lc47z, hQ47z, l47z, y47z, z47z⟩, st47z⟩ := Jvm.LawKit.callS X46z hx (y := own_m26) hown44z (mvT hZ44z (own_hw hw 107 rfl)) (mvT hZ44z (own_hw hw 108 rfl)) (mvT hZ44z (own_hw hw 109 rfl)) (mvT hZ44z (own_hw hw 110 rfl)) (by decide) (backOf (W := 0) (own_at1_0 l Z a0 hw [] r_44z r_28z ar_44z kr_44z ([(.ref r_28z)]) T44z.heap O45z r44z_0 r44z_4 r44z_2 r44z_5 rfl) hZ44z (own_hw hw 110 rfl) (own_hw hw 109 rfl) (by decide) (by decide)) (g := (mkF m 130 #[.val (.int p0), .val (.int p1), .val (.int p2), .val (.int p3), .val (.int p4), .val (.int (1 : Int32)), .val (.ref r_28z), .val (.ref r_30z), .val (.ref r_32z), .val (.ref r_34z), .val (.ref b36z), .val (.ref r_44z), .unset] [(.int (1 : Int32)), (.ref r_28z), (.int (0 : Int32)), (.ref r_44z)])) rfl (by rw [hml]; rfl) (argsL := [(.ref r_44z), (.int (0 : Int32)), (.ref r_28z), (.int (1 : Int32))]) (rest := []) (lenOf pd_2223509722 rfl) rfl (by show 2 * 0 + _ ≤ _; exact Nat.le_of_eq rfl) (hb hby at_130) (fun _ _ => ⟨rfl, K46zq, (by decide : 13 + 0 ≤ _), (by decide : 149 + 0 ≤ _)⟩)
    dsimp only [Pt.U, Pt.locs, Pt.cells, Pt.slots] at X47z l47z y47z z47z st47z hQ47z
    subst l47z y47z z47z
    obtain ⟨rfl, NQ47z, K47zq⟩ := hQ47z
    refine own_go st47z ?_
    have N47z := Fr.app N46z NQ47z
    show own_G p e below (T47z.setTop (mkF m 133 #[.val (.int p0), .val (.int p1), .val (.int p2), .val (.int p3), .val (.int p4), .val (.int (1 : Int32)), .val (.ref r_28z), .val (.ref r_30z), .val (.ref r_32z), .val (.ref r_34z), .val (.ref b36z), .val (.ref r_44z), .unset] [(.int (1 : Int32))])) _
    refine own_go (fun t k => XS.ifNo X47z.here hx rfl (hb hby at_133) rfl ((if0 _ _).trans (feq (by decide : ¬ ((1 : Int32) = (0 : Int32)))).1) k) ?_
    show own_G p e below (T47z.setTop (mkF m 136 #[.val (.int p0), .val (.int p1), .val (.int p2), .val (.int p3), .val (.int p4), .val (.int (1 : Int32)), .val (.ref r_28z), .val (.ref r_30z), .val (.ref r_32z), .val (.ref r_34z), .val (.ref b36z), .val (.ref r_44z), .unset] [])) _
    refine own_go (fun t k => XS.aload X47z.here hx rfl (hb hby at_136) rfl rfl k) ?_
    refine own_go (fun t k => XS.iconst X47z.here hx rfl (hb hby at_138) k) ?_
    refine own_go (fun t k => XS.aload X47z.here hx rfl (hb hby at_139) rfl rfl k) ?_
    refine own_go (fun t k => XS.iload X47z.here hx rfl (hb hby at_141) rfl k) ?_
    show own_G p e below (T47z.setTop (mkF m 143 #[.val (.int p0), .val (.int p1), .val (.int p2), .val (.int p3), .val (.int p4), .val (.int (1 : Int32)), .val (.ref r_28z), .val (.ref r_30z), .val (.ref r_32z), .val (.ref r_34z), .val (.ref b36z), .val (.ref r_44z), .unset] [(.int (1 : Int32)), (.ref r_30z), (.int (1 : Int32)), (.ref r_44z)])) _
    obtain ⟨_, _, ⟨T48z, L48z, k48z, n48z⟩, -, X48z, ⟨Lc48z, hQ48z, l48z, y48z, z48z⟩, st48z⟩ := Jvm.LawKit.callS X47z hx (y := own_m26) hown44z (mvT hZ44z (own_hw hw 107 rfl)) (mvT hZ44z (own_hw hw 108 rfl)) (mvT hZ44z (own_hw hw 109 rfl)) (mvT hZ44z (own_hw hw 110 rfl)) (by decide) (backOf (W := 0) (own_at1_1 l Z a0 hw [] r_44z r_30z T44z.heap O45z) hZ44z (own_hw hw 110 rfl) (own_hw hw 109 rfl) (by decide) (by decide)) (g := (mkF m 143 #[.val (.int p0), .val (.int p1), .val (.int p2), .val (.int p3), .val (.int p4), .val (.int (1 : Int32)), .val (.ref r_28z), .val (.ref r_30z), .val (.ref r_32z), .val (.ref r_34z), .val (.ref b36z), .val (.ref r_44z), .unset] [(.int (1 : Int32)), (.ref r_30z), (.int (1 : Int32)), (.ref r_44z)])) rfl (by rw [hml]; rfl) (argsL := [(.ref r_44z), (.int (1 : Int32)), (.ref r_30z), (.int (1 : Int32))]) (rest := []) (lenOf pd_2223509722 rfl) rfl (by show 2 * 0 + _ ≤ _; exact Nat.le_of_eq rfl) (hb hby at_143) (fun _ _ => ⟨rfl, K47zq, (by decide : 13 + 0 ≤ _), (by decide : 149 + 0 ≤ _)⟩)
    dsimp only [Pt.U, Pt.locs, Pt.cells, Pt.slots] at X48z l48z y48z z48z st48z hQ48z
    subst l48z y48z z48z
    obtain ⟨rfl, NQ48z, K48zq⟩ := hQ48z
    refine own_go st48z ?_
    have N48z := Fr.app N47z NQ48z
    show own_G p e below (T48z.setTop (mkF m 146 #[.val (.int p0), .val (.int p1), .val (.int p2), .val (.int p3), .val (.int p4), .val (.int (1 : Int32)), .val (.ref r_28z), .val (.ref r_30z), .val (.ref r_32z), .val (.ref r_34z), .val (.ref b36z), .val (.ref r_44z), .unset] [(.int (1 : Int32))])) _
    refine own_go (fun t k => XS.ifNo X48z.here hx rfl (hb hby at_146) rfl ((if0 _ _).trans (feq (by decide : ¬ ((1 : Int32) = (0 : Int32)))).1) k) ?_
    show own_G p e below (T48z.setTop (mkF m 149 #[.val (.int p0), .val (.int p1), .val (.int p2), .val (.int p3), .val (.int p4), .val (.int (1 : Int32)), .val (.ref r_28z), .val (.ref r_30z), .val (.ref r_32z), .val (.ref r_34z), .val (.ref b36z), .val (.ref r_44z), .unset] [])) _
    refine own_go (fun t k => XS.aload X48z.here hx rfl (hb hby at_149) rfl rfl k) ?_
    refine own_go (fun t k => XS.iconst X48z.here hx rfl (hb hby at_151) k) ?_
    refine own_go (fun t k => XS.aload X48z.here hx rfl (hb hby at_152) rfl rfl k) ?_
    refine own_go (fun t k => XS.iload X48z.here hx rfl (hb hby at_154) rfl k) ?_
    show own_G p e below (T48z.setTop (mkF m 156 #[.val (.int p0), .val (.int p1), .val (.int p2), .val (.int p3), .val (.int p4), .val (.int (1 : Int32)), .val (.ref r_28z), .val (.ref r_30z), .val (.ref r_32z), .val (.ref r_34z), .val (.ref b36z), .val (.ref r_44z), .unset] [(.int (1 : Int32)), (.ref r_32z), (.int (2 : Int32)), (.ref r_44z)])) _
    obtain ⟨_, _, ⟨T49z, L49z, k49z, n49z⟩, -, X49z, ⟨Lc49z, hQ49z, l49z, y49z, z49z⟩, st49z⟩ := Jvm.LawKit.callS X48z hx (y := own_m26) hown44z (mvT hZ44z (own_hw hw 107 rfl)) (mvT hZ44z (own_hw hw 108 rfl)) (mvT hZ44z (own_hw hw 109 rfl)) (mvT hZ44z (own_hw hw 110 rfl)) (by decide) (backOf (W := 0) (own_at1_2 l Z a0 hw [] r_44z r_32z T44z.heap O45z) hZ44z (own_hw hw 110 rfl) (own_hw hw 109 rfl) (by decide) (by decide)) (g := (mkF m 156 #[.val (.int p0), .val (.int p1), .val (.int p2), .val (.int p3), .val (.int p4), .val (.int (1 : Int32)), .val (.ref r_28z), .val (.ref r_30z), .val (.ref r_32z), .val (.ref r_34z), .val (.ref b36z), .val (.ref r_44z), .unset] [(.int (1 : Int32)), (.ref r_32z), (.int (2 : Int32)), (.ref r_44z)])) rfl (by rw [hml]; rfl) (argsL := [(.ref r_44z), (.int (2 : Int32)), (.ref r_32z), (.int (1 : Int32))]) (rest := []) (lenOf pd_2223509722 rfl) rfl (by show 2 * 0 + _ ≤ _; exact Nat.le_of_eq rfl) (hb hby at_156) (fun _ _ => ⟨rfl, K48zq, (by decide : 13 + 0 ≤ _), (by decide : 149 + 0 ≤ _)⟩)
    dsimp only [Pt.U, Pt.locs, Pt.cells, Pt.slots] at X49z l49z y49z z49z st49z hQ49z
    subst l49z y49z z49z
    obtain ⟨rfl, NQ49z, K49zq⟩ := hQ49z
    refine own_go st49z ?_
    have N49z := Fr.app N48z NQ49z
    show own_G p e below (T49z.setTop (mkF m 159 #[.val (.int p0), .val (.int p1), .val (.int p2), .val (.int p3), .val (.int p4), .val (.int (1 : Int32)), .val (.ref r_28z), .val (.ref r_30z), .val (.ref r_32z), .val (.ref r_34z), .val (.ref b36z), .val (.ref r_44z), .unset] [(.int (1 : Int32))])) _
    refine own_go (fun t k => XS.ifNo X49z.here hx rfl (hb hby at_159) rfl ((if0 _ _).trans (feq (by decide : ¬ ((1 : Int32) = (0 : Int32)))).1) k) ?_
    show own_G p e below (T49z.setTop (mkF m 162 #[.val (.int p0), .val (.int p1), .val (.int p2), .val (.int p3), .val (.int p4), .val (.int (1 : Int32)), .val (.ref r_28z), .val (.ref r_30z), .val (.ref r_32z), .val (.ref r_34z), .val (.ref b36z), .val (.ref r_44z), .unset] [])) _
    refine own_go (fun t k => XS.aload X49z.here hx rfl (hb hby at_162) rfl rfl k) ?_
    refine own_go (fun t k => XS.iconst X49z.here hx rfl (hb hby at_164) k) ?_
    refine own_go (fun t k => XS.aload X49z.here hx rfl (hb hby at_165) rfl rfl k) ?_
    refine own_go (fun t k => XS.iload X49z.here hx rfl (hb hby at_167) rfl k) ?_
    show own_G p e below (T49z.setTop (mkF m 169 #[.val (.int p0), .val (.int p1), .val (.int p2), .val (.int p3), .val (.int p4), .val (.int (1 : Int32)), .val (.ref r_28z), .val (.ref r_30z), .val (.ref r_32z), .val (.ref r_34z), .val (.ref b36z), .val (.ref r_44z), .unset] [(.int (1 : Int32)), (.ref r_34z), (.int (3 : Int32)), (.ref r_44z)])) _
    obtain ⟨_, _, ⟨T50z, L50z, k50z, n50z⟩, -, X50z, ⟨Lc50z, hQ50z, l50z, y50z, z50z⟩, st50z⟩ := Jvm.LawKit.callS X49z hx (y := own_m26) hown44z (mvT hZ44z (own_hw hw 107 rfl)) (mvT hZ44z (own_hw hw 108 rfl)) (mvT hZ44z (own_hw hw 109 rfl)) (mvT hZ44z (own_hw hw 110 rfl)) (by decide) (backOf (W := 0) (own_at1_3 l Z a0 hw [] r_44z r_34z T44z.heap O45z) hZ44z (own_hw hw 110 rfl) (own_hw hw 109 rfl) (by decide) (by decide)) (g := (mkF m 169 #[.val (.int p0), .val (.int p1), .val (.int p2), .val (.int p3), .val (.int p4), .val (.int (1 : Int32)), .val (.ref r_28z), .val (.ref r_30z), .val (.ref r_32z), .val (.ref r_34z), .val (.ref b36z), .val (.ref r_44z), .unset] [(.int (1 : Int32)), (.ref r_34z), (.int (3 : Int32)), (.ref r_44z)])) rfl (by rw [hml]; rfl) (argsL := [(.ref r_44z), (.int (3 : Int32)), (.ref r_34z), (.int (1 : Int32))]) (rest := []) (lenOf pd_2223509722 rfl) rfl (by show 2 * 0 + _ ≤ _; exact Nat.le_of_eq rfl) (hb hby at_169) (fun _ _ => ⟨rfl, K49zq, (by decide : 13 + 0 ≤ _), (by decide : 149 + 0 ≤ _)⟩)
    dsimp only [Pt.U, Pt.locs, Pt.cells, Pt.slots] at X50z l50z y50z z50z st50z hQ50z
    subst l50z y50z z50z
    obtain ⟨rfl, NQ50z, K50zq⟩ := hQ50z
    refine own_go st50z ?_
    have N50z := Fr.app N49z NQ50z
    show own_G p e below (T50z.setTop (mkF m 172 #[.val (.int p0), .val (.int p1), .val (.int p2), .val (.int p3), .val (.int p4), .val (.int (1 : Int32)), .val (.ref r_28z), .val (.ref r_30z), .val (.ref r_32z), .val (.ref r_34z), .val (.ref b36z), .val (.ref r_44z), .unset] [(.int (1 : Int32))])) _
    refine own_go (fun t k => XS.ifNo X50z.here hx rfl (hb hby at_172) rfl ((if0 _ _).trans (feq (by decide : ¬ ((1 : Int32) = (0 : Int32)))).1) k) ?_
    show own_G p e below (T50z.setTop (mkF m 175 #[.val (.int p0), .val (.int p1), .val (.int p2), .val (.int p3), .val (.int p4), .val (.int (1 : Int32)), .val (.ref r_28z), .val (.ref r_30z), .val (.ref r_32z), .val (.ref r_34z), .val (.ref b36z), .val (.ref r_44z), .unset] [])) _
    refine own_go (fun t k => XS.iconst X50z.here hx rfl (hb hby at_175) k) ?_
    refine own_go (fun t k => XS.goto X50z.here hx rfl (pc0 := 176) (pc' := 180) rfl (hb hby at_176) (by decide) (by decide) k) ?_
    show own_G p e below (T50z.setTop (mkF m 180 #[.val (.int p0), .val (.int p1), .val (.int p2), .val (.int p3), .val (.int p4), .val (.int (1 : Int32)), .val (.ref r_28z), .val (.ref r_30z), .val (.ref r_32z), .val (.ref r_34z), .val (.ref b36z), .val (.ref r_44z), .unset] [(.int (1 : Int32))])) _
    refine own_go (fun t k => XS.istore X50z.here hx rfl (hb hby at_180) rfl (l' := #[.val (.int p0), .val (.int p1), .val (.int p2), .val (.int p3), .val (.int p4), .val (.int (1 : Int32)), .val (.ref r_28z), .val (.ref r_30z), .val (.ref r_32z), .val (.ref r_34z), .val (.ref b36z), .val (.ref r_44z), .val (.int (1 : Int32))]) rfl k) ?_
    refine own_go (fun t k => XS.aload X50z.here hx rfl (hb hby at_182) rfl rfl k) ?_
    refine own_go (fun t k => XS.aload X50z.here hx rfl (hb hby at_184) rfl rfl k) ?_
    obtain ⟨cq51z, kq51z, qa51z, qb51z, qc51z⟩ := isOf hZ44z K50zq (r41z_0.keep K44zq)
    obtain ⟨_, _, ⟨T51z, L51z, k51z, n51z⟩, -, X51z, ⟨Lc51z, hQ51z, l51z, y51z, z51z⟩, st51z⟩ := X50z.virtualBack hx (y := own_m8) (z := own_m8) hown44z (mvT hZ44z (own_hw hw 111 rfl)) (mvT hZ44z (own_hw hw 112 rfl)) (notFace_of_selects (args := #[]) (mvT hZ44z (own_hw hw 114 rfl))) (mvT hZ44z (own_hw hw 114 rfl)) (mvT hZ44z (own_hw hw 113 rfl)) (by decide) (backOf (W := 0) (own_add1 l Z a0 hw [] b36z r_30z arr_41z kk_41z ([(.ref r_28z), .null, .null, .null, .null, .null, .null, .null, .null, .null]) (1 : Int32) (1 : Int32) (10 : Int32) 1 T44z.heap O45z (r41z_0.keep K44zq) fr_b36z r41z_1 (f43z.keep K44zq) (r41z_4.keep K44zq (by simp)) r41z_3 (by decide) (by show (10 : Int32).toInt = ((10 : Nat) : Int); decide) (by show 1 < 10; decide) ne_b36z_arr_41z (r41z_5.keep K44zq (by simp)) (r41z_6.keep K44zq (by simp)) (r41z_7.keep K44zq (by simp))) hZ44z (own_hw hw 115 rfl) (own_hw hw 10 rfl) (by decide) (by decide)) qa51z qc51z (g := (mkF m 186 #[.val (.int p0), .val (.int p1), .val (.int p2), .val (.int p3), .val (.int p4), .val (.int (1 : Int32)), .val (.ref r_28z), .val (.ref r_30z), .val (.ref r_32z), .val (.ref r_34z), .val (.ref b36z), .val (.ref r_44z), .val (.int (1 : Int32))] [(.ref r_30z), (.ref b36z)])) rfl (by rw [hml]; rfl) (Steps.refl _) (argsL := [(.ref r_30z)]) (rest := []) (lenOf pd_396412080 rfl) rfl (by show 2 * 0 + _ ≤ _; exact Nat.le_of_eq rfl) (hb hby at_186) (fun _ _ => ⟨rfl, K50zq, (by decide : 13 + 0 ≤ _), (by decide : 149 + 0 ≤ _)⟩)
    dsimp only [Pt.U, Pt.locs, Pt.cells, Pt.slots] at X51z l51z y51z z51z st51z hQ51z
    subst l51z y51z z51z
    obtain ⟨rfl, NQ51z, K51zq, r51z_0, r51z_1, r51z_2, r51z_3, r51z_4⟩ := hQ51z
    refine own_tr st51z ?_
    have N51z := Fr.app N50z NQ51z
    have O52z : Ext Z.heap T51z.heap := own_ext_keep O45z K51zq (allS fr_b36z (allS r41z_1 all0))
    have K52z : Keep h0 T51z.heap [] := K45z.trans K51zq (allS (Or.inr lz_b36z) (allS (Or.inr lz_arr_41z) all0))
    have Sn52z := Nat.le_trans Sn44z K51zq.1
    have r51z_1 : own_A Z T51z.heap arr_41z kk_41z (.object "java/lang/Object") [(.ref r_28z), (.ref r_30z), .null, .null, .null, .null, .null, .null, .null, .null] := r51z_1
    have r51z_2 : Fld Z T51z.heap b36z "java/util/AbstractList" "modCount" "I" (.int (2 : Int32)) := r51z_2
    have r51z_4 : Fld Z T51z.heap b36z "java/util/ArrayList" "size" "I" (.int (2 : Int32)) := r51z_4
    show own_G p e below (T51z.setTop (mkF m 189 #[.val (.int p0), .val (.int p1), .val (.int p2), .val (.int p3), .val (.int p4), .val (.int (1 : Int32)), .val (.ref r_28z), .val (.ref r_30z), .val (.ref r_32z), .val (.ref r_34z), .val (.ref b36z), .val (.ref r_44z), .val (.int (1 : Int32))] [(.int (1 : Int32))])) _
    refine own_go (fun t k => XS.pop X51z.here hx rfl (hb hby at_189) rfl rfl k) ?_
    refine own_go (fun t k => XS.iload X51z.here hx rfl (hb hby at_190) rfl k) ?_
    refine own_go (fun t k => XS.ifNo X51z.here hx rfl (hb hby at_192) rfl ((if0 _ _).trans (feq (by decide : ¬ ((1 : Int32) = (0 : Int32)))).1) k) ?_
    show own_G p e below (T51z.setTop (mkF m 195 #[.val (.int p0), .val (.int p1), .val (.int p2), .val (.int p3), .val (.int p4), .val (.int (1 : Int32)), .val (.ref r_28z), .val (.ref r_30z), .val (.ref r_32z), .val (.ref r_34z), .val (.ref b36z), .val (.ref r_44z), .val (.int (1 : Int32))] [])) _
    refine own_go (fun t k => XS.aload X51z.here hx rfl (hb hby at_195) rfl rfl k) ?_
    have f53z := (r44z_5.keep K51zq (by simp only [List.mem_cons, List.not_mem_nil, or_false, not_or]; exact ⟨(Ne.symm ne_b36z_r_44z), (Ne.symm ne_arr_41z_r_44z)⟩))
    obtain ⟨cq54z, kq54z, qa54z, qb54z, qc54z⟩ := isOf hZ44z (rfl : T51z.heap = _) (r44z_0.keep K51zq)
    obtain ⟨_, _, ⟨T54z, L54z, k54z, n54z⟩, -, X54z, ⟨Lc54z, hQ54z, l54z, y54z, z54z⟩, st54z⟩ := X51z.interfaceBack hx (xi := own_m31) (y := own_m9) hown44z (mvT hZ44z (own_hw hw 102 rfl)) (mvT hZ44z (own_hw hw 103 rfl)) (mvT hZ44z (own_hw hw 104 rfl)) (mvT hZ44z (own_hw hw 105 rfl)) (mvT hZ44z (own_hw hw 55 rfl)) (mvT hZ44z (own_hw hw 56 rfl)) (mvT hZ44z (own_hw hw 57 rfl)) (mvT hZ44z (own_hw hw 106 rfl)) (by decide) (backOf (W := 0) (own_size l Z a0 hw [] r_44z (1 : Int32) T51z.heap O52z f53z) hZ44z (own_hw hw 59 rfl) (own_hw hw 10 rfl) (by decide) (by decide)) qa54z qb54z qc54z (g := (mkF m 197 #[.val (.int p0), .val (.int p1), .val (.int p2), .val (.int p3), .val (.int p4), .val (.int (1 : Int32)), .val (.ref r_28z), .val (.ref r_30z), .val (.ref r_32z), .val (.ref r_34z), .val (.ref b36z), .val (.ref r_44z), .val (.int (1 : Int32))] [(.ref r_44z)])) rfl (by rw [hml]; rfl) (Steps.refl _) (argsL := []) (rest := []) (lenOf pd_193421983 rfl) rfl (by show 2 * 0 + _ ≤ _; exact Nat.le_of_eq rfl) (hb hby at_197) (fun _ _ => ⟨rfl, rfl, (by decide : 13 + 0 ≤ _), (by decide : 149 + 0 ≤ _)⟩)
    dsimp only [Pt.U, Pt.locs, Pt.cells, Pt.slots] at X54z l54z y54z z54z st54z hQ54z
    subst l54z y54z z54z
    obtain ⟨rfl, NQ54z, K54zq⟩ := hQ54z
    refine own_tr st54z ?_
    have N54z := Fr.app N51z NQ54z
    show own_G p e below (T54z.setTop (mkF m 202 #[.val (.int p0), .val (.int p1), .val (.int p2), .val (.int p3), .val (.int p4), .val (.int (1 : Int32)), .val (.ref r_28z), .val (.ref r_30z), .val (.ref r_32z), .val (.ref r_34z), .val (.ref b36z), .val (.ref r_44z), .val (.int (1 : Int32))] [(.int (1 : Int32))])) _
    refine own_go (fun t k => XS.iload X54z.here hx rfl (hb hby at_202) rfl k) ?_
    refine own_go (fun t k => XS.icmpNo X54z.here hx rfl (hb hby at_204) rfl (teq (by decide : (1 : Int32) = (1 : Int32))).2 k) ?_
    show own_G p e below (T54z.setTop (mkF m 207 #[.val (.int p0), .val (.int p1), .val (.int p2), .val (.int p3), .val (.int p4), .val (.int (1 : Int32)), .val (.ref r_28z), .val (.ref r_30z), .val (.ref r_32z), .val (.ref r_34z), .val (.ref b36z), .val (.ref r_44z), .val (.int (1 : Int32))] [])) _
    refine own_go (fun t k => XS.aload X54z.here hx rfl (hb hby at_207) rfl rfl k) ?_
    refine own_go (fun t k => XS.iconst X54z.here hx rfl (hb hby at_209) k) ?_
    refine own_go (fun t k => XS.aload X54z.here hx rfl (hb hby at_210) rfl rfl k) ?_
    refine own_go (fun t k => XS.iload X54z.here hx rfl (hb hby at_212) rfl k) ?_
    show own_G p e below (T54z.setTop (mkF m 214 #[.val (.int p0), .val (.int p1), .val (.int p2), .val (.int p3), .val (.int p4), .val (.int (1 : Int32)), .val (.ref r_28z), .val (.ref r_30z), .val (.ref r_32z), .val (.ref r_34z), .val (.ref b36z), .val (.ref r_44z), .val (.int (1 : Int32))] [(.int (1 : Int32)), (.ref r_28z), (.int (0 : Int32)), (.ref r_44z)])) _
    have f55z := (r44z_4.keep K51zq (by simp only [List.mem_cons, List.not_mem_nil, or_false, not_or]; exact ⟨(Ne.symm ne_b36z_r_44z), (Ne.symm ne_arr_41z_r_44z)⟩))
    have f56z := (r44z_2.keep K51zq (by simp only [List.mem_cons, List.not_mem_nil, or_false, not_or]; exact ⟨(Ne.symm ne_b36z_ar_44z), (Ne.symm ne_arr_41z_ar_44z)⟩))
    obtain ⟨_, _, ⟨T57z, L57z, k57z, n57z⟩, -, X57z, ⟨Lc57z, hQ57z, l57z, y57z, z57z⟩, st57z⟩ := Jvm.LawKit.callS X54z hx (y := own_m26) hown44z (mvT hZ44z (own_hw hw 107 rfl)) (mvT hZ44z (own_hw hw 108 rfl)) (mvT hZ44z (own_hw hw 109 rfl)) (mvT hZ44z (own_hw hw 110 rfl)) (by decide) (backOf (W := 0) (own_at1_0 l Z a0 hw [] r_44z r_28z ar_44z kr_44z ([(.ref r_28z)]) T51z.heap O52z (r44z_0.keep K51zq) f55z f56z f53z rfl) hZ44z (own_hw hw 110 rfl) (own_hw hw 109 rfl) (by decide) (by decide)) (g := (mkF m 214 #[.val (.int p0), .val (.int p1), .val (.int p2), .val (.int p3), .val (.int p4), .val (.int (1 : Int32)), .val (.ref r_28z), .val (.ref r_30z), .val (.ref r_32z), .val (.ref r_34z), .val (.ref b36z), .val (.ref r_44z), .val (.int (1 : Int32))] [(.int (1 : Int32)), (.ref r_28z), (.int (0 : Int32)), (.ref r_44z)])) rfl (by rw [hml]; rfl) (argsL := [(.ref r_44z), (.int (0 : Int32)), (.ref r_28z), (.int (1 : Int32))]) (rest := []) (lenOf pd_2223509722 rfl) rfl (by show 2 * 0 + _ ≤ _; exact Nat.le_of_eq rfl) (hb hby at_214) (fun _ _ => ⟨rfl, K54zq, (by decide : 13 + 0 ≤ _), (by decide : 149 + 0 ≤ _)⟩)
    dsimp only [Pt.U, Pt.locs, Pt.cells, Pt.slots] at X57z l57z y57z z57z st57z hQ57z
    subst l57z y57z z57z
    obtain ⟨rfl, NQ57z, K57zq⟩ := hQ57z
    refine own_go st57z ?_
    have N57z := Fr.app N54z NQ57z
    show own_G p e below (T57z.setTop (mkF m 217 #[.val (.int p0), .val (.int p1), .val (.int p2), .val (.int p3), .val (.int p4), .val (.int (1 : Int32)), .val (.ref r_28z), .val (.ref r_30z), .val (.ref r_32z), .val (.ref r_34z), .val (.ref b36z), .val (.ref r_44z), .val (.int (1 : Int32))] [(.int (1 : Int32))])) _
    refine own_go (fun t k => XS.ifNo X57z.here hx rfl (hb hby at_217) rfl ((if0 _ _).trans (feq (by decide : ¬ ((1 : Int32) = (0 : Int32)))).1) k) ?_
    show own_G p e below (T57z.setTop (mkF m 220 #[.val (.int p0), .val (.int p1), .val (.int p2), .val (.int p3), .val (.int p4), .val (.int (1 : Int32)), .val (.ref r_28z), .val (.ref r_30z), .val (.ref r_32z), .val (.ref r_34z), .val (.ref b36z), .val (.ref r_44z), .val (.int (1 : Int32))] [])) _
    refine own_go (fun t k => XS.aload X57z.here hx rfl (hb hby at_220) rfl rfl k) ?_
    refine own_go (fun t k => XS.iconst X57z.here hx rfl (hb hby at_222) k) ?_
    refine own_go (fun t k => XS.aload X57z.here hx rfl (hb hby at_223) rfl rfl k) ?_
    refine own_go (fun t k => XS.iload X57z.here hx rfl (hb hby at_225) rfl k) ?_
    show own_G p e below (T57z.setTop (mkF m 227 #[.val (.int p0), .val (.int p1), .val (.int p2), .val (.int p3), .val (.int p4), .val (.int (1 : Int32)), .val (.ref r_28z), .val (.ref r_30z), .val (.ref r_32z), .val (.ref r_34z), .val (.ref b36z), .val (.ref r_44z), .val (.int (1 : Int32))] [(.int (1 : Int32)), (.ref r_34z), (.int (3 : Int32)), (.ref r_44z)])) _
    obtain ⟨_, _, ⟨T58z, L58z, k58z, n58z⟩, -, X58z, ⟨Lc58z, hQ58z, l58z, y58z, z58z⟩, st58z⟩ := Jvm.LawKit.callS X57z hx (y := own_m26) hown44z (mvT hZ44z (own_hw hw 107 rfl)) (mvT hZ44z (own_hw hw 108 rfl)) (mvT hZ44z (own_hw hw 109 rfl)) (mvT hZ44z (own_hw hw 110 rfl)) (by decide) (backOf (W := 0) (own_at1_3 l Z a0 hw [] r_44z r_34z T51z.heap O52z) hZ44z (own_hw hw 110 rfl) (own_hw hw 109 rfl) (by decide) (by decide)) (g := (mkF m 227 #[.val (.int p0), .val (.int p1), .val (.int p2), .val (.int p3), .val (.int p4), .val (.int (1 : Int32)), .val (.ref r_28z), .val (.ref r_30z), .val (.ref r_32z), .val (.ref r_34z), .val (.ref b36z), .val (.ref r_44z), .val (.int (1 : Int32))] [(.int (1 : Int32)), (.ref r_34z), (.int (3 : Int32)), (.ref r_44z)])) rfl (by rw [hml]; rfl) (argsL := [(.ref r_44z), (.int (3 : Int32)), (.ref r_34z), (.int (1 : Int32))]) (rest := []) (lenOf pd_2223509722 rfl) rfl (by show 2 * 0 + _ ≤ _; exact Nat.le_of_eq rfl) (hb hby at_227) (fun _ _ => ⟨rfl, K57zq, (by decide : 13 + 0 ≤ _), (by decide : 149 + 0 ≤ _)⟩)
    dsimp only [Pt.U, Pt.locs, Pt.cells, Pt.slots] at X58z l58z y58z z58z st58z hQ58z
    subst l58z y58z z58z
    obtain ⟨rfl, NQ58z, K58zq⟩ := hQ58z
    refine own_go st58z ?_
    have N58z := Fr.app N57z NQ58z
    show own_G p e below (T58z.setTop (mkF m 230 #[.val (.int p0), .val (.int p1), .val (.int p2), .val (.int p3), .val (.int p4), .val (.int (1 : Int32)), .val (.ref r_28z), .val (.ref r_30z), .val (.ref r_32z), .val (.ref r_34z), .val (.ref b36z), .val (.ref r_44z), .val (.int (1 : Int32))] [(.int (1 : Int32))])) _
    refine own_go (fun t k => XS.ifNo X58z.here hx rfl (hb hby at_230) rfl ((if0 _ _).trans (feq (by decide : ¬ ((1 : Int32) = (0 : Int32)))).1) k) ?_
    show own_G p e below (T58z.setTop (mkF m 233 #[.val (.int p0), .val (.int p1), .val (.int p2), .val (.int p3), .val (.int p4), .val (.int (1 : Int32)), .val (.ref r_28z), .val (.ref r_30z), .val (.ref r_32z), .val (.ref r_34z), .val (.ref b36z), .val (.ref r_44z), .val (.int (1 : Int32))] [])) _
    refine own_go (fun t k => XS.iconst X58z.here hx rfl (hb hby at_233) k) ?_
    refine own_go (fun t k => XS.goto X58z.here hx rfl (pc0 := 234) (pc' := 238) rfl (hb hby at_234) (by decide) (by decide) k) ?_
    show own_G p e below (T58z.setTop (mkF m 238 #[.val (.int p0), .val (.int p1), .val (.int p2), .val (.int p3), .val (.int p4), .val (.int (1 : Int32)), .val (.ref r_28z), .val (.ref r_30z), .val (.ref r_32z), .val (.ref r_34z), .val (.ref b36z), .val (.ref r_44z), .val (.int (1 : Int32))] [(.int (1 : Int32))])) _
    exact own_retW X58z Sx44z (by rw [K58zq]; exact Sn52z) hx Bd.returns rfl (Or.inl ⟨rfl, Or.inr (Or.inl rfl), _, rfl⟩) (hb hby at_238) hlk (Nat.le_of_ble_eq_true rfl) (Nat.le_of_ble_eq_true rfl) (by show Q_own_law Z p0 p1 p2 p3 p4 dE kd eE ca h0 _ T58z.heap _; rw [K58zq]; exact ⟨rfl, N58z, K52z⟩)
  · rw [hk]
    show own_G p e below (s₁.setTop (mkF m 6 #[.val (.int p0), .val (.int p1), .val (.int p2), .val (.int p3), .val (.int p4), .unset, .unset, .unset, .unset, .unset, .unset, .unset, .unset] [(.int (2 : Int32))])) _
    refine own_go (fun t k => XS.istore X0.here hx rfl (hb hby at_6) rfl (l' := #[.val (.int p0), .val (.int p1), .val (.int p2), .val (.int p3), .val (.int p4), .val (.int (2 : Int32)), .unset, .unset, .unset, .unset, .unset, .unset, .unset]) rfl k) ?_
    refine own_go (fun t k => XS.iloadN X0.here hx rfl (hb hby at_8) rfl k) ?_
    obtain ⟨_, _, ⟨T59z, L59z, k59z, n59z⟩, -, X59z, ⟨Lc59z, hQ59z, l59z, y59z, z59z⟩, st59z⟩ := Jvm.LawKit.callS X0 hx (y := own_m30) hown (mvT hZ (own_hw hw 1 rfl)) (mvT hZ (own_hw hw 2 rfl)) (mvT hZ (own_hw hw 3 rfl)) (mvT hZ (own_hw hw 4 rfl)) (by decide) (backOf (W := 0) (own_vo l Z a0 hw [] p1 ca h0 O0 S_H S_C BX) hZ (own_hw hw 4 rfl) (own_hw hw 3 rfl) (by decide) (by decide)) (g := (mkF m 9 #[.val (.int p0), .val (.int p1), .val (.int p2), .val (.int p3), .val (.int p4), .val (.int (2 : Int32)), .unset, .unset, .unset, .unset, .unset, .unset, .unset] [(.int p1)])) rfl (by rw [hml]; rfl) (argsL := [(.int p1)]) (rest := []) (lenOf pd_73316374 rfl) rfl (by show 2 * 0 + _ ≤ _; exact Nat.le_of_eq rfl) (hb hby at_9) (fun _ _ => ⟨rfl, e0, (by decide : 0 + 1 ≤ _), (by decide : 0 + 1 ≤ _)⟩)
    dsimp only [Pt.U, Pt.locs, Pt.cells, Pt.slots] at X59z l59z y59z z59z st59z hQ59z
    subst l59z y59z z59z
    obtain ⟨r_59z, rfl, NQ59z, K59zq, r59z_0⟩ := hQ59z
    refine own_go st59z ?_
    have N59z := Fr.app N0 NQ59z
    have O60z : Ext Z.heap T59z.heap := own_ext_keep O0 K59zq all0
    have K60z : Keep h0 T59z.heap [] := K0.trans K59zq all0
    have Sn60z := Nat.le_trans Sn0 K59zq.1
    show own_G p e below (T59z.setTop (mkF m 12 #[.val (.int p0), .val (.int p1), .val (.int p2), .val (.int p3), .val (.int p4), .val (.int (2 : Int32)), .unset, .unset, .unset, .unset, .unset, .unset, .unset] [(.ref r_59z)])) _
    refine own_go (fun t k => XS.astore X59z.here hx rfl (hb hby at_12) rfl rfl (l' := #[.val (.int p0), .val (.int p1), .val (.int p2), .val (.int p3), .val (.int p4), .val (.int (2 : Int32)), .val (.ref r_59z), .unset, .unset, .unset, .unset, .unset, .unset]) rfl k) ?_
    refine own_go (fun t k => XS.iloadN X59z.here hx rfl (hb hby at_14) rfl k) ?_
    obtain ⟨_, _, ⟨T61z, L61z, k61z, n61z⟩, -, X61z, ⟨Lc61z, hQ61z, l61z, y61z, z61z⟩, st61z⟩ := Jvm.LawKit.callS X59z hx (y := own_m30) hown (mvT hZ (own_hw hw 1 rfl)) (mvT hZ (own_hw hw 2 rfl)) (mvT hZ (own_hw hw 3 rfl)) (mvT hZ (own_hw hw 4 rfl)) (by decide) (backOf (W := 0) (own_vo l Z a0 hw [] p2 ca T59z.heap O60z S_H S_C BX) hZ (own_hw hw 4 rfl) (own_hw hw 3 rfl) (by decide) (by decide)) (g := (mkF m 15 #[.val (.int p0), .val (.int p1), .val (.int p2), .val (.int p3), .val (.int p4), .val (.int (2 : Int32)), .val (.ref r_59z), .unset, .unset, .unset, .unset, .unset, .unset] [(.int p2)])) rfl (by rw [hml]; rfl) (argsL := [(.int p2)]) (rest := []) (lenOf pd_73316374 rfl) rfl (by show 2 * 0 + _ ≤ _; exact Nat.le_of_eq rfl) (hb hby at_15) (fun _ _ => ⟨rfl, rfl, (by decide : 1 + 1 ≤ _), (by decide : 1 + 1 ≤ _)⟩)
    dsimp only [Pt.U, Pt.locs, Pt.cells, Pt.slots] at X61z l61z y61z z61z st61z hQ61z
    subst l61z y61z z61z
    obtain ⟨r_61z, rfl, NQ61z, K61zq, r61z_0⟩ := hQ61z
    refine own_go st61z ?_
    have N61z := Fr.app N59z NQ61z
    have O62z : Ext Z.heap T61z.heap := own_ext_keep O60z K61zq all0
    have K62z : Keep h0 T61z.heap [] := K60z.trans K61zq all0
    have Sn62z := Nat.le_trans Sn60z K61zq.1
    show own_G p e below (T61z.setTop (mkF m 18 #[.val (.int p0), .val (.int p1), .val (.int p2), .val (.int p3), .val (.int p4), .val (.int (2 : Int32)), .val (.ref r_59z), .unset, .unset, .unset, .unset, .unset, .unset] [(.ref r_61z)])) _
    refine own_go (fun t k => XS.astore X61z.here hx rfl (hb hby at_18) rfl rfl (l' := #[.val (.int p0), .val (.int p1), .val (.int p2), .val (.int p3), .val (.int p4), .val (.int (2 : Int32)), .val (.ref r_59z), .val (.ref r_61z), .unset, .unset, .unset, .unset, .unset]) rfl k) ?_
    refine own_go (fun t k => XS.iloadN X61z.here hx rfl (hb hby at_20) rfl k) ?_
    obtain ⟨_, _, ⟨T63z, L63z, k63z, n63z⟩, -, X63z, ⟨Lc63z, hQ63z, l63z, y63z, z63z⟩, st63z⟩ := Jvm.LawKit.callS X61z hx (y := own_m30) hown (mvT hZ (own_hw hw 1 rfl)) (mvT hZ (own_hw hw 2 rfl)) (mvT hZ (own_hw hw 3 rfl)) (mvT hZ (own_hw hw 4 rfl)) (by decide) (backOf (W := 0) (own_vo l Z a0 hw [] p3 ca T61z.heap O62z S_H S_C BX) hZ (own_hw hw 4 rfl) (own_hw hw 3 rfl) (by decide) (by decide)) (g := (mkF m 21 #[.val (.int p0), .val (.int p1), .val (.int p2), .val (.int p3), .val (.int p4), .val (.int (2 : Int32)), .val (.ref r_59z), .val (.ref r_61z), .unset, .unset, .unset, .unset, .unset] [(.int p3)])) rfl (by rw [hml]; rfl) (argsL := [(.int p3)]) (rest := []) (lenOf pd_73316374 rfl) rfl (by show 2 * 0 + _ ≤ _; exact Nat.le_of_eq rfl) (hb hby at_21) (fun _ _ => ⟨rfl, rfl, (by decide : 2 + 1 ≤ _), (by decide : 2 + 1 ≤ _)⟩)
    dsimp only [Pt.U, Pt.locs, Pt.cells, Pt.slots] at X63z l63z y63z z63z st63z hQ63z
    subst l63z y63z z63z
    obtain ⟨r_63z, rfl, NQ63z, K63zq, r63z_0⟩ := hQ63z
    refine own_go st63z ?_
    have N63z := Fr.app N61z NQ63z
    have O64z : Ext Z.heap T63z.heap := own_ext_keep O62z K63zq all0
    have K64z : Keep h0 T63z.heap [] := K62z.trans K63zq all0
    have Sn64z := Nat.le_trans Sn62z K63zq.1
    show own_G p e below (T63z.setTop (mkF m 24 #[.val (.int p0), .val (.int p1), .val (.int p2), .val (.int p3), .val (.int p4), .val (.int (2 : Int32)), .val (.ref r_59z), .val (.ref r_61z), .unset, .unset, .unset, .unset, .unset] [(.ref r_63z)])) _
    refine own_go (fun t k => XS.astore X63z.here hx rfl (hb hby at_24) rfl rfl (l' := #[.val (.int p0), .val (.int p1), .val (.int p2), .val (.int p3), .val (.int p4), .val (.int (2 : Int32)), .val (.ref r_59z), .val (.ref r_61z), .val (.ref r_63z), .unset, .unset, .unset, .unset]) rfl k) ?_
    refine own_go (fun t k => XS.iload X63z.here hx rfl (hb hby at_26) rfl k) ?_
    obtain ⟨_, _, ⟨T65z, L65z, k65z, n65z⟩, -, X65z, ⟨Lc65z, hQ65z, l65z, y65z, z65z⟩, st65z⟩ := Jvm.LawKit.callS X63z hx (y := own_m30) hown (mvT hZ (own_hw hw 1 rfl)) (mvT hZ (own_hw hw 2 rfl)) (mvT hZ (own_hw hw 3 rfl)) (mvT hZ (own_hw hw 4 rfl)) (by decide) (backOf (W := 0) (own_vo l Z a0 hw [] p4 ca T63z.heap O64z S_H S_C BX) hZ (own_hw hw 4 rfl) (own_hw hw 3 rfl) (by decide) (by decide)) (g := (mkF m 28 #[.val (.int p0), .val (.int p1), .val (.int p2), .val (.int p3), .val (.int p4), .val (.int (2 : Int32)), .val (.ref r_59z), .val (.ref r_61z), .val (.ref r_63z), .unset, .unset, .unset, .unset] [(.int p4)])) rfl (by rw [hml]; rfl) (argsL := [(.int p4)]) (rest := []) (lenOf pd_73316374 rfl) rfl (by show 2 * 0 + _ ≤ _; exact Nat.le_of_eq rfl) (hb hby at_28) (fun _ _ => ⟨rfl, rfl, (by decide : 3 + 1 ≤ _), (by decide : 3 + 1 ≤ _)⟩)
    dsimp only [Pt.U, Pt.locs, Pt.cells, Pt.slots] at X65z l65z y65z z65z st65z hQ65z
    subst l65z y65z z65z
    obtain ⟨r_65z, rfl, NQ65z, K65zq, r65z_0⟩ := hQ65z
    refine own_go st65z ?_
    have N65z := Fr.app N63z NQ65z
    have O66z : Ext Z.heap T65z.heap := own_ext_keep O64z K65zq all0
    have K66z : Keep h0 T65z.heap [] := K64z.trans K65zq all0
    have Sn66z := Nat.le_trans Sn64z K65zq.1
    show own_G p e below (T65z.setTop (mkF m 31 #[.val (.int p0), .val (.int p1), .val (.int p2), .val (.int p3), .val (.int p4), .val (.int (2 : Int32)), .val (.ref r_59z), .val (.ref r_61z), .val (.ref r_63z), .unset, .unset, .unset, .unset] [(.ref r_65z)])) _
    refine own_go (fun t k => XS.astore X65z.here hx rfl (hb hby at_31) rfl rfl (l' := #[.val (.int p0), .val (.int p1), .val (.int p2), .val (.int p3), .val (.int p4), .val (.int (2 : Int32)), .val (.ref r_59z), .val (.ref r_61z), .val (.ref r_63z), .val (.ref r_65z), .unset, .unset, .unset]) rfl k) ?_
    obtain ⟨T67z, h67z, X67z, e67z, E67z, A67z, D67z, -, st67z⟩ := newO X65z hx hZ hown (own_hw hw 8 rfl) (own_hw hw 9 rfl) (own_hw hw 10 rfl) rfl (g := (mkF m 33 #[.val (.int p0), .val (.int p1), .val (.int p2), .val (.int p3), .val (.int p4), .val (.int (2 : Int32)), .val (.ref r_59z), .val (.ref r_61z), .val (.ref r_63z), .val (.ref r_65z), .unset, .unset, .unset] [])) rfl (hb hby at_33) (by decide) (by decide)
    obtain ⟨b67z, g67z⟩ : ∃ z, z = T65z.heap.size := ⟨_, rfl⟩
    rw [← g67z] at A67z D67z st67z
    have fr_b67z : Z.heap.size ≤ b67z := g67z ▸ O66z.1
    have lz_b67z : h0.size ≤ b67z := g67z ▸ K66z.1
    have ne_r_59z_b67z : r_59z ≠ b67z := Nat.ne_of_lt (g67z ▸ (((r59z_0.keep K61zq).keep K63zq).keep K65zq).lt)
    have ne_r_61z_b67z : r_61z ≠ b67z := Nat.ne_of_lt (g67z ▸ ((r61z_0.keep K63zq).keep K65zq).lt)
    have ne_r_63z_b67z : r_63z ≠ b67z := Nat.ne_of_lt (g67z ▸ (r63z_0.keep K65zq).lt)
    have ne_r_65z_b67z : r_65z ≠ b67z := Nat.ne_of_lt (g67z ▸ r65z_0.lt)
    have O68z : Ext Z.heap h67z := own_ext_trans O66z E67z
    have K68z : Keep h0 h67z [] := K66z.ext E67z
    have Sn68z := Nat.le_trans Sn66z E67z.1
    have F67z_modCount : Fld Z h67z b67z "java/util/AbstractList" "modCount" "I" (.int (0 : Int32)) := D67z (Or.inl (own_hw hw 30 rfl)) (ty := .int) (by decide)
    have F67z_elementData : Fld Z h67z b67z "java/util/ArrayList" "elementData" "[Ljava/lang/Object;" .null := D67z (Or.inl (own_hw hw 33 rfl)) (ty := (.array (.object "java/lang/Object"))) (by decide)
    have F67z_size : Fld Z h67z b67z "java/util/ArrayList" "size" "I" (.int (0 : Int32)) := D67z (Or.inl (own_hw hw 61 rfl)) (ty := .int) (by decide)
    refine own_go st67z ?_
    refine own_go (fun t k => XS.dup X67z.here hx rfl (hb hby at_36) rfl rfl k) ?_
    obtain ⟨_, _, ⟨T69z, L69z, k69z, n69z⟩, -, X69z, ⟨Lc69z, hQ69z, l69z, y69z, z69z⟩, st69z⟩ := X67z.specialBack hx (y := own_m2) rfl hown (mvT hZ (own_hw hw 11 rfl)) (mvT hZ (own_hw hw 12 rfl)) (mvT hZ (own_hw hw 13 rfl)) (by decide) (backOf (W := 1) (own_ali l Z a0 hw [] b67z dE h67z O68z S_D A67z fr_b67z F67z_modCount F67z_elementData F67z_size) hZ (own_hw hw 13 rfl) (own_hw hw 10 rfl) (by decide) (by decide)) (g := (mkF m 37 #[.val (.int p0), .val (.int p1), .val (.int p2), .val (.int p3), .val (.int p4), .val (.int (2 : Int32)), .val (.ref r_59z), .val (.ref r_61z), .val (.ref r_63z), .val (.ref r_65z), .unset, .unset, .unset] [(.ref b67z), (.ref b67z)])) rfl (by rw [hml]; rfl) (Steps.refl _) (a := b67z) (argsL := []) (rest := [(.ref b67z)]) (lenOf pd_193421996 rfl) rfl (by show 2 * 0 + _ ≤ _; exact Nat.le_of_eq rfl) (hb hby at_37) (fun _ _ => ⟨rfl, e67z, (by decide : 5 + 0 ≤ _), (by decide : 7 + 0 ≤ _)⟩)
    dsimp only [Pt.U, Pt.locs, Pt.cells, Pt.slots] at X69z l69z y69z z69z st69z hQ69z
    subst l69z y69z z69z
    obtain ⟨rfl, NQ69z, K69zq, r69z_0, r69z_1, r69z_2, r69z_3⟩ := hQ69z
    refine own_tr st69z ?_
    have N69z := Fr.app N65z NQ69z
    have O70z : Ext Z.heap T69z.heap := own_ext_keep O68z K69zq (allS fr_b67z all0)
    have K70z : Keep h0 T69z.heap [] := K68z.trans K69zq (allS (Or.inr lz_b67z) all0)
    have Sn70z := Nat.le_trans Sn68z K69zq.1
    show own_G p e below (T69z.setTop (mkF m 40 #[.val (.int p0), .val (.int p1), .val (.int p2), .val (.int p3), .val (.int p4), .val (.int (2 : Int32)), .val (.ref r_59z), .val (.ref r_61z), .val (.ref r_63z), .val (.ref r_65z), .unset, .unset, .unset] [(.ref b67z)])) _
    refine own_go (fun t k => XS.astore X69z.here hx rfl (hb hby at_40) rfl rfl (l' := #[.val (.int p0), .val (.int p1), .val (.int p2), .val (.int p3), .val (.int p4), .val (.int (2 : Int32)), .val (.ref r_59z), .val (.ref r_61z), .val (.ref r_63z), .val (.ref r_65z), .val (.ref b67z), .unset, .unset]) rfl k) ?_
    refine own_go (fun t k => XS.iload X69z.here hx rfl (hb hby at_42) rfl k) ?_
    refine own_go (fun t k => XS.ifNo X69z.here hx rfl (hb hby at_44) rfl ((if0 _ _).trans (tlt (by decide : (0 : Int32) < (2 : Int32))).2.2.2) k) ?_
    show own_G p e below (T69z.setTop (mkF m 47 #[.val (.int p0), .val (.int p1), .val (.int p2), .val (.int p3), .val (.int p4), .val (.int (2 : Int32)), .val (.ref r_59z), .val (.ref r_61z), .val (.ref r_63z), .val (.ref r_65z), .val (.ref b67z), .unset, .unset] [])) _
    refine own_go (fun t k => XS.aload X69z.here hx rfl (hb hby at_47) rfl rfl k) ?_
    refine own_go (fun t k => XS.aload X69z.here hx rfl (hb hby at_49) rfl rfl k) ?_
    have f71z := (((((r59z_0.keep K61zq).keep K63zq).keep K65zq).ext E67z).keep K69zq)
    obtain ⟨cq72z, kq72z, qa72z, qb72z, qc72z⟩ := isOf hZ (rfl : T69z.heap = _) r69z_0
    obtain ⟨_, _, ⟨T72z, L72z, k72z, n72z⟩, -, X72z, ⟨Lc72z, hQ72z, l72z, y72z, z72z⟩, st72z⟩ := X69z.virtualBack hx (y := own_m8) (z := own_m8) hown (mvT hZ (own_hw hw 111 rfl)) (mvT hZ (own_hw hw 112 rfl)) (notFace_of_selects (args := #[]) (mvT hZ (own_hw hw 114 rfl))) (mvT hZ (own_hw hw 114 rfl)) (mvT hZ (own_hw hw 113 rfl)) (by decide) (backOf (W := 0) (own_add10 l Z a0 hw [] b67z (0 : Int32) dE kd r_59z T69z.heap O70z S_D BD r69z_0 fr_b67z r69z_1 r69z_2 r69z_3 f71z) hZ (own_hw hw 115 rfl) (own_hw hw 10 rfl) (by decide) (by decide)) qa72z qc72z (g := (mkF m 51 #[.val (.int p0), .val (.int p1), .val (.int p2), .val (.int p3), .val (.int p4), .val (.int (2 : Int32)), .val (.ref r_59z), .val (.ref r_61z), .val (.ref r_63z), .val (.ref r_65z), .val (.ref b67z), .unset, .unset] [(.ref r_59z), (.ref b67z)])) rfl (by rw [hml]; rfl) (Steps.refl _) (argsL := [(.ref r_59z)]) (rest := []) (lenOf pd_396412080 rfl) rfl (by show 2 * 0 + _ ≤ _; exact Nat.le_of_eq rfl) (hb hby at_51) (fun _ _ => ⟨rfl, rfl, (by decide : 5 + 1 ≤ _), (by decide : 7 + 10 ≤ _)⟩)
    dsimp only [Pt.U, Pt.locs, Pt.cells, Pt.slots] at X72z l72z y72z z72z st72z hQ72z
    subst l72z y72z z72z
    obtain ⟨arr_72z, kk_72z, rfl, NQ72z, K72zq, r72z_0, r72z_1, r72z_2, r72z_3, r72z_4, r72z_5, r72z_6, r72z_7⟩ := hQ72z
    refine own_tr st72z ?_
    have N72z := Fr.app N69z NQ72z
    have O73z : Ext Z.heap T72z.heap := own_ext_keep O70z K72zq (allS fr_b67z all0)
    have K73z : Keep h0 T72z.heap [] := K70z.trans K72zq (allS (Or.inr lz_b67z) all0)
    have Sn73z := Nat.le_trans Sn70z K72zq.1
    have lz_arr_72z : h0.size ≤ arr_72z := Nat.le_trans K70z.1 r72z_2
    have ne_r_59z_arr_72z : r_59z ≠ arr_72z := Nat.ne_of_lt (Nat.lt_of_lt_of_le f71z.lt r72z_2)
    have ne_r_61z_arr_72z : r_61z ≠ arr_72z := Nat.ne_of_lt (Nat.lt_of_lt_of_le ((((r61z_0.keep K63zq).keep K65zq).ext E67z).keep K69zq).lt r72z_2)
    have ne_r_63z_arr_72z : r_63z ≠ arr_72z := Nat.ne_of_lt (Nat.lt_of_lt_of_le (((r63z_0.keep K65zq).ext E67z).keep K69zq).lt r72z_2)
    have ne_r_65z_arr_72z : r_65z ≠ arr_72z := Nat.ne_of_lt (Nat.lt_of_lt_of_le ((r65z_0.ext E67z).keep K69zq).lt r72z_2)
    have ne_b67z_arr_72z : b67z ≠ arr_72z := Nat.ne_of_lt (Nat.lt_of_lt_of_le r69z_0.lt r72z_2)
    have r72z_5 : Fld Z T72z.heap b67z "java/util/AbstractList" "modCount" "I" (.int (1 : Int32)) := r72z_5
    show own_G p e below (T72z.setTop (mkF m 54 #[.val (.int p0), .val (.int p1), .val (.int p2), .val (.int p3), .val (.int p4), .val (.int (2 : Int32)), .val (.ref r_59z), .val (.ref r_61z), .val (.ref r_63z), .val (.ref r_65z), .val (.ref b67z), .unset, .unset] [(.int (1 : Int32))])) _
    refine own_go (fun t k => XS.pop X72z.here hx rfl (hb hby at_54) rfl rfl k) ?_
    refine own_go (fun t k => XS.iload X72z.here hx rfl (hb hby at_55) rfl k) ?_
    refine own_go (fun t k => XS.iconst X72z.here hx rfl (hb hby at_57) k) ?_
    refine own_go (fun t k => XS.icmpNo X72z.here hx rfl (hb hby at_58) rfl (tlt (by decide : (1 : Int32) < (2 : Int32))).2.2.2 k) ?_
    show own_G p e below (T72z.setTop (mkF m 61 #[.val (.int p0), .val (.int p1), .val (.int p2), .val (.int p3), .val (.int p4), .val (.int (2 : Int32)), .val (.ref r_59z), .val (.ref r_61z), .val (.ref r_63z), .val (.ref r_65z), .val (.ref b67z), .unset, .unset] [])) _
    refine own_go (fun t k => XS.aload X72z.here hx rfl (hb hby at_61) rfl rfl k) ?_
    refine own_go (fun t k => XS.aload X72z.here hx rfl (hb hby at_63) rfl rfl k) ?_
    have f74z := (((((r61z_0.keep K63zq).keep K65zq).ext E67z).keep K69zq).keep K72zq)
    obtain ⟨cq75z, kq75z, qa75z, qb75z, qc75z⟩ := isOf hZ (rfl : T72z.heap = _) r72z_0
    obtain ⟨_, _, ⟨T75z, L75z, k75z, n75z⟩, -, X75z, ⟨Lc75z, hQ75z, l75z, y75z, z75z⟩, st75z⟩ := X72z.virtualBack hx (y := own_m8) (z := own_m8) hown (mvT hZ (own_hw hw 111 rfl)) (mvT hZ (own_hw hw 112 rfl)) (notFace_of_selects (args := #[]) (mvT hZ (own_hw hw 114 rfl))) (mvT hZ (own_hw hw 114 rfl)) (mvT hZ (own_hw hw 113 rfl)) (by decide) (backOf (W := 0) (own_add1 l Z a0 hw [] b67z r_61z arr_72z kk_72z ([(.ref r_59z), .null, .null, .null, .null, .null, .null, .null, .null, .null]) (1 : Int32) (1 : Int32) (10 : Int32) 1 T72z.heap O73z r72z_0 fr_b67z r72z_1 f74z r72z_4 r72z_3 (by decide) (by show (10 : Int32).toInt = ((10 : Nat) : Int); decide) (by show 1 < 10; decide) ne_b67z_arr_72z r72z_5 r72z_6 r72z_7) hZ (own_hw hw 115 rfl) (own_hw hw 10 rfl) (by decide) (by decide)) qa75z qc75z (g := (mkF m 65 #[.val (.int p0), .val (.int p1), .val (.int p2), .val (.int p3), .val (.int p4), .val (.int (2 : Int32)), .val (.ref r_59z), .val (.ref r_61z), .val (.ref r_63z), .val (.ref r_65z), .val (.ref b67z), .unset, .unset] [(.ref r_61z), (.ref b67z)])) rfl (by rw [hml]; rfl) (Steps.refl _) (argsL := [(.ref r_61z)]) (rest := []) (lenOf pd_396412080 rfl) rfl (by show 2 * 0 + _ ≤ _; exact Nat.le_of_eq rfl) (hb hby at_65) (fun _ _ => ⟨rfl, rfl, (by decide : 6 + 0 ≤ _), (by decide : 17 + 0 ≤ _)⟩)
    dsimp only [Pt.U, Pt.locs, Pt.cells, Pt.slots] at X75z l75z y75z z75z st75z hQ75z
    subst l75z y75z z75z
    obtain ⟨rfl, NQ75z, K75zq, r75z_0, r75z_1, r75z_2, r75z_3, r75z_4⟩ := hQ75z
    refine own_tr st75z ?_
    have N75z := Fr.app N72z NQ75z
    have O76z : Ext Z.heap T75z.heap := own_ext_keep O73z K75zq (allS fr_b67z (allS r72z_1 all0))
    have K76z : Keep h0 T75z.heap [] := K73z.trans K75zq (allS (Or.inr lz_b67z) (allS (Or.inr lz_arr_72z) all0))
    have Sn76z := Nat.le_trans Sn73z K75zq.1
    have r75z_1 : own_A Z T75z.heap arr_72z kk_72z (.object "java/lang/Object") [(.ref r_59z), (.ref r_61z), .null, .null, .null, .null, .null, .null, .null, .null] := r75z_1
    have r75z_2 : Fld Z T75z.heap b67z "java/util/AbstractList" "modCount" "I" (.int (2 : Int32)) := r75z_2
    have r75z_4 : Fld Z T75z.heap b67z "java/util/ArrayList" "size" "I" (.int (2 : Int32)) := r75z_4
    show own_G p e below (T75z.setTop (mkF m 68 #[.val (.int p0), .val (.int p1), .val (.int p2), .val (.int p3), .val (.int p4), .val (.int (2 : Int32)), .val (.ref r_59z), .val (.ref r_61z), .val (.ref r_63z), .val (.ref r_65z), .val (.ref b67z), .unset, .unset] [(.int (1 : Int32))])) _
    refine own_go (fun t k => XS.pop X75z.here hx rfl (hb hby at_68) rfl rfl k) ?_
    refine own_go (fun t k => XS.iload X75z.here hx rfl (hb hby at_69) rfl k) ?_
    refine own_go (fun t k => XS.iconst X75z.here hx rfl (hb hby at_71) k) ?_
    refine own_go (fun t k => XS.icmpYes X75z.here hx rfl (pc0 := 72) (pc' := 83) rfl (hb hby at_72) rfl (flt (by decide : ¬ ((2 : Int32) < (2 : Int32)))).2.2.2 (by decide) (by decide) k) ?_
    show own_G p e below (T75z.setTop (mkF m 83 #[.val (.int p0), .val (.int p1), .val (.int p2), .val (.int p3), .val (.int p4), .val (.int (2 : Int32)), .val (.ref r_59z), .val (.ref r_61z), .val (.ref r_63z), .val (.ref r_65z), .val (.ref b67z), .unset, .unset] [])) _
    refine own_go (fun t k => XS.iload X75z.here hx rfl (hb hby at_83) rfl k) ?_
    refine own_go (fun t k => XS.iconst X75z.here hx rfl (hb hby at_85) k) ?_
    refine own_go (fun t k => XS.icmpYes X75z.here hx rfl (pc0 := 86) (pc' := 97) rfl (hb hby at_86) rfl (flt (by decide : ¬ ((3 : Int32) < (2 : Int32)))).2.2.2 (by decide) (by decide) k) ?_
    show own_G p e below (T75z.setTop (mkF m 97 #[.val (.int p0), .val (.int p1), .val (.int p2), .val (.int p3), .val (.int p4), .val (.int (2 : Int32)), .val (.ref r_59z), .val (.ref r_61z), .val (.ref r_63z), .val (.ref r_65z), .val (.ref b67z), .unset, .unset] [])) _
    refine own_go (fun t k => XS.aload X75z.here hx rfl (hb hby at_97) rfl rfl k) ?_
    have f77z := (((((r63z_0.keep K65zq).ext E67z).keep K69zq).keep K72zq).keep K75zq)
    obtain ⟨_, _, ⟨T78z, L78z, k78z, n78z⟩, -, X78z, Si78z, gr78z, ⟨Lc78z, hQ78z, l78z, y78z, z78z⟩, st78z⟩ := callSS X75z hx (y := own_m20) hown (mvT hZ (own_hw hw 34 rfl)) (mvT hZ (own_hw hw 35 rfl)) (mvT hZ (own_hw hw 36 rfl)) (mvT hZ (own_hw hw 37 rfl)) (by decide) (backOfS (W := 0) (own_copy2 l Z a0 hw [] b67z (2 : Int32) r_59z r_61z arr_72z kk_72z T75z.heap O76z r75z_1 r75z_0 ((f71z.keep K72zq).keep K75zq) (f74z.keep K75zq) r75z_2 r75z_3 r75z_4) hZ (own_hw hw 37 rfl) (own_hw hw 36 rfl) (by decide) (by decide)) (g := (mkF m 99 #[.val (.int p0), .val (.int p1), .val (.int p2), .val (.int p3), .val (.int p4), .val (.int (2 : Int32)), .val (.ref r_59z), .val (.ref r_61z), .val (.ref r_63z), .val (.ref r_65z), .val (.ref b67z), .unset, .unset] [(.ref b67z)])) rfl (by rw [hml]; rfl) (argsL := [(.ref b67z)]) (rest := []) (lenOf pd_548093608 rfl) rfl (by show 2 * 0 + _ ≤ _; exact Nat.le_of_eq rfl) (hb hby at_99) (fun _ _ => ⟨rfl, rfl, (by decide : 6 + 9 ≤ _), (by decide : 17 + 221 ≤ _)⟩)
    dsimp only [Pt.U, Pt.locs, Pt.cells, Pt.slots] at X78z l78z y78z z78z st78z hQ78z Si78z gr78z
    subst l78z y78z z78z
    obtain ⟨r_78z, ar_78z, kr_78z, rfl, NQ78z, K78zq, r78z_0, r78z_1, r78z_2, r78z_3, r78z_4, r78z_5, r78z_6⟩ := hQ78z
    refine own_tr st78z ?_
    have N78z := Fr.app N75z NQ78z
    have Sx78z : s.Since T78z.vm T78z.heap.size := foldS Si0 (by first | exact Sn76z | (rw [Nat.add_zero]; exact Sn76z)) Si78z gr78z
    have hZ78z : Z.Warmed39 (s.setVm T78z.vm).vm := State.Warmed39.trans (t := s.setVm s.vm) hZ Si78z.1
    have hown78z : (s.setVm T78z.vm).vm.findClass "com/example/etapa/etapa/mongodb/EntityBatchCopyOfPinLaw" = some m.cls := by rw [show (s.setVm T78z.vm).vm = T78z.vm from rfl, Si78z.1.alike.findClass]; exact hown
    have X78z := (show Stand _ _ _ _ (s.setVm T78z.vm) _ _ _ _ _ _ _ _ _ from X78z)
    have Sn78z : T78z.heap.size ≤ T78z.heap.size := Nat.le_refl _
    have O79z : Ext Z.heap T78z.heap := own_ext_keep O76z K78zq all0
    have K79z : Keep h0 T78z.heap [] := K76z.trans K78zq all0
    have lz_r_78z : h0.size ≤ r_78z := Nat.le_trans K76z.1 r78z_1
    have ne_r_59z_r_78z : r_59z ≠ r_78z := Nat.ne_of_lt (Nat.lt_of_lt_of_le ((f71z.keep K72zq).keep K75zq).lt r78z_1)
    have ne_r_61z_r_78z : r_61z ≠ r_78z := Nat.ne_of_lt (Nat.lt_of_lt_of_le (f74z.keep K75zq).lt r78z_1)
    have ne_r_63z_r_78z : r_63z ≠ r_78z := Nat.ne_of_lt (Nat.lt_of_lt_of_le f77z.lt r78z_1)
    have ne_r_65z_r_78z : r_65z ≠ r_78z := Nat.ne_of_lt (Nat.lt_of_lt_of_le ((((r65z_0.ext E67z).keep K69zq).keep K72zq).keep K75zq).lt r78z_1)
    have ne_b67z_r_78z : b67z ≠ r_78z := Nat.ne_of_lt (Nat.lt_of_lt_of_le r75z_0.lt r78z_1)
    have ne_arr_72z_r_78z : arr_72z ≠ r_78z := Nat.ne_of_lt (Nat.lt_of_lt_of_le r75z_1.lt r78z_1)
    have lz_ar_78z : h0.size ≤ ar_78z := Nat.le_trans K76z.1 r78z_6
    have ne_r_59z_ar_78z : r_59z ≠ ar_78z := Nat.ne_of_lt (Nat.lt_of_lt_of_le ((f71z.keep K72zq).keep K75zq).lt r78z_6)
    have ne_r_61z_ar_78z : r_61z ≠ ar_78z := Nat.ne_of_lt (Nat.lt_of_lt_of_le (f74z.keep K75zq).lt r78z_6)
    have ne_r_63z_ar_78z : r_63z ≠ ar_78z := Nat.ne_of_lt (Nat.lt_of_lt_of_le f77z.lt r78z_6)
    have ne_r_65z_ar_78z : r_65z ≠ ar_78z := Nat.ne_of_lt (Nat.lt_of_lt_of_le ((((r65z_0.ext E67z).keep K69zq).keep K72zq).keep K75zq).lt r78z_6)
    have ne_b67z_ar_78z : b67z ≠ ar_78z := Nat.ne_of_lt (Nat.lt_of_lt_of_le r75z_0.lt r78z_6)
    have ne_arr_72z_ar_78z : arr_72z ≠ ar_78z := Nat.ne_of_lt (Nat.lt_of_lt_of_le r75z_1.lt r78z_6)
    show own_G p e below (T78z.setTop (mkF m 102 #[.val (.int p0), .val (.int p1), .val (.int p2), .val (.int p3), .val (.int p4), .val (.int (2 : Int32)), .val (.ref r_59z), .val (.ref r_61z), .val (.ref r_63z), .val (.ref r_65z), .val (.ref b67z), .unset, .unset] [(.ref r_78z)])) _
    refine own_go (fun t k => XS.astore X78z.here hx rfl (hb hby at_102) rfl rfl (l' := #[.val (.int p0), .val (.int p1), .val (.int p2), .val (.int p3), .val (.int p4), .val (.int (2 : Int32)), .val (.ref r_59z), .val (.ref r_61z), .val (.ref r_63z), .val (.ref r_65z), .val (.ref b67z), .val (.ref r_78z), .unset]) rfl k) ?_
    refine own_go (fun t k => XS.aload X78z.here hx rfl (hb hby at_104) rfl rfl k) ?_
    refine own_go (fun t k => XS.aload X78z.here hx rfl (hb hby at_106) rfl rfl k) ?_
    refine own_go (fun t k => Jvm.RoadKit.acmp (g := (mkF m 108 #[.val (.int p0), .val (.int p1), .val (.int p2), .val (.int p3), .val (.int p4), .val (.int (2 : Int32)), .val (.ref r_59z), .val (.ref r_61z), .val (.ref r_63z), .val (.ref r_65z), .val (.ref b67z), .val (.ref r_78z), .unset] [(.ref b67z), (.ref r_78z)])) X78z hx rfl rfl rfl (pc0 := 108) (pc' := 111) (same := false) rfl (hb hby at_108) rfl (decide_eq_false fun q => (Ne.symm ne_b67z_r_78z) (Value.ref.inj q)) (by decide) (by decide) k) ?_
    show own_G p e below (T78z.setTop (mkF m 111 #[.val (.int p0), .val (.int p1), .val (.int p2), .val (.int p3), .val (.int p4), .val (.int (2 : Int32)), .val (.ref r_59z), .val (.ref r_61z), .val (.ref r_63z), .val (.ref r_65z), .val (.ref b67z), .val (.ref r_78z), .unset] [])) _
    refine own_go (fun t k => XS.aload X78z.here hx rfl (hb hby at_111) rfl rfl k) ?_
    obtain ⟨cq80z, kq80z, qa80z, qb80z, qc80z⟩ := isOf hZ78z (rfl : T78z.heap = _) r78z_0
    obtain ⟨_, _, ⟨T80z, L80z, k80z, n80z⟩, -, X80z, ⟨Lc80z, hQ80z, l80z, y80z, z80z⟩, st80z⟩ := X78z.interfaceBack hx (xi := own_m31) (y := own_m9) hown78z (mvT hZ78z (own_hw hw 102 rfl)) (mvT hZ78z (own_hw hw 103 rfl)) (mvT hZ78z (own_hw hw 104 rfl)) (mvT hZ78z (own_hw hw 105 rfl)) (mvT hZ78z (own_hw hw 55 rfl)) (mvT hZ78z (own_hw hw 56 rfl)) (mvT hZ78z (own_hw hw 57 rfl)) (mvT hZ78z (own_hw hw 106 rfl)) (by decide) (backOf (W := 0) (own_size l Z a0 hw [] r_78z (2 : Int32) T78z.heap O79z r78z_5) hZ78z (own_hw hw 59 rfl) (own_hw hw 10 rfl) (by decide) (by decide)) qa80z qb80z qc80z (g := (mkF m 113 #[.val (.int p0), .val (.int p1), .val (.int p2), .val (.int p3), .val (.int p4), .val (.int (2 : Int32)), .val (.ref r_59z), .val (.ref r_61z), .val (.ref r_63z), .val (.ref r_65z), .val (.ref b67z), .val (.ref r_78z), .unset] [(.ref r_78z)])) rfl (by rw [hml]; rfl) (Steps.refl _) (argsL := []) (rest := []) (lenOf pd_193421983 rfl) rfl (by show 2 * 0 + _ ≤ _; exact Nat.le_of_eq rfl) (hb hby at_113) (fun _ _ => ⟨rfl, rfl, (by decide : 15 + 0 ≤ _), (by decide : 238 + 0 ≤ _)⟩)
    dsimp only [Pt.U, Pt.locs, Pt.cells, Pt.slots] at X80z l80z y80z z80z st80z hQ80z
    subst l80z y80z z80z
    obtain ⟨rfl, NQ80z, K80zq⟩ := hQ80z
    refine own_tr st80z ?_
    have N80z := Fr.app N78z NQ80z
    show own_G p e below (T80z.setTop (mkF m 118 #[.val (.int p0), .val (.int p1), .val (.int p2), .val (.int p3), .val (.int p4), .val (.int (2 : Int32)), .val (.ref r_59z), .val (.ref r_61z), .val (.ref r_63z), .val (.ref r_65z), .val (.ref b67z), .val (.ref r_78z), .unset] [(.int (2 : Int32))])) _
    refine own_go (fun t k => XS.iload X80z.here hx rfl (hb hby at_118) rfl k) ?_
    refine own_go (fun t k => XS.icmpNo X80z.here hx rfl (hb hby at_120) rfl (teq (by decide : (2 : Int32) = (2 : Int32))).2 k) ?_
    show own_G p e below (T80z.setTop (mkF m 123 #[.val (.int p0), .val (.int p1), .val (.int p2), .val (.int p3), .val (.int p4), .val (.int (2 : Int32)), .val (.ref r_59z), .val (.ref r_61z), .val (.ref r_63z), .val (.ref r_65z), .val (.ref b67z), .val (.ref r_78z), .unset] [])) _
    refine own_go (fun t k => XS.aload X80z.here hx rfl (hb hby at_123) rfl rfl k) ?_
    refine own_go (fun t k => XS.iconst X80z.here hx rfl (hb hby at_125) k) ?_
    refine own_go (fun t k => XS.aload X80z.here hx rfl (hb hby at_126) rfl rfl k) ?_
    refine own_go (fun t k => XS.iload X80z.here hx rfl (hb hby at_128) rfl k) ?_
    show own_G p e below (T80z.setTop (mkF m 130 #[.val (.int p0), .val (.int p1), .val (.int p2), .val (.int p3), .val (.int p4), .val (.int (2 : Int32)), .val (.ref r_59z), .val (.ref r_61z), .val (.ref r_63z), .val (.ref r_65z), .val (.ref b67z), .val (.ref r_78z), .unset] [(.int (2 : Int32)), (.ref r_59z), (.int (0 : Int32)), (.ref r_78z)])) _
    obtain ⟨_, _, ⟨T81z, L81z, k81z, n81z⟩, -, X81z, ⟨Lc81z, hQ81z, l81z, y81z, z81z⟩, st81z⟩ := Jvm.LawKit.callS X80z hx (y := own_m26) hown78z (mvT hZ78z (own_hw hw 107 rfl)) (mvT hZ78z (own_hw hw 108 rfl)) (mvT hZ78z (own_hw hw 109 rfl)) (mvT hZ78z (own_hw hw 110 rfl)) (by decide) (backOf (W := 0) (own_at2_0 l Z a0 hw [] r_78z r_59z ar_78z kr_78z ([(.ref r_59z), (.ref r_61z)]) T78z.heap O79z r78z_0 r78z_4 r78z_2 r78z_5 rfl) hZ78z (own_hw hw 110 rfl) (own_hw hw 109 rfl) (by decide) (by decide)) (g := (mkF m 130 #[.val (.int p0), .val (.int p1), .val (.int p2), .val (.int p3), .val (.int p4), .val (.int (2 : Int32)), .val (.ref r_59z), .val (.ref r_61z), .val (.ref r_63z), .val (.ref r_65z), .val (.ref b67z), .val (.ref r_78z), .unset] [(.int (2 : Int32)), (.ref r_59z), (.int (0 : Int32)), (.ref r_78z)])) rfl (by rw [hml]; rfl) (argsL := [(.ref r_78z), (.int (0 : Int32)), (.ref r_59z), (.int (2 : Int32))]) (rest := []) (lenOf pd_2223509722 rfl) rfl (by show 2 * 0 + _ ≤ _; exact Nat.le_of_eq rfl) (hb hby at_130) (fun _ _ => ⟨rfl, K80zq, (by decide : 15 + 0 ≤ _), (by decide : 238 + 0 ≤ _)⟩)
    dsimp only [Pt.U, Pt.locs, Pt.cells, Pt.slots] at X81z l81z y81z z81z st81z hQ81z
    subst l81z y81z z81z
    obtain ⟨rfl, NQ81z, K81zq⟩ := hQ81z
    refine own_go st81z ?_
    have N81z := Fr.app N80z NQ81z
    show own_G p e below (T81z.setTop (mkF m 133 #[.val (.int p0), .val (.int p1), .val (.int p2), .val (.int p3), .val (.int p4), .val (.int (2 : Int32)), .val (.ref r_59z), .val (.ref r_61z), .val (.ref r_63z), .val (.ref r_65z), .val (.ref b67z), .val (.ref r_78z), .unset] [(.int (1 : Int32))])) _
    refine own_go (fun t k => XS.ifNo X81z.here hx rfl (hb hby at_133) rfl ((if0 _ _).trans (feq (by decide : ¬ ((1 : Int32) = (0 : Int32)))).1) k) ?_
    show own_G p e below (T81z.setTop (mkF m 136 #[.val (.int p0), .val (.int p1), .val (.int p2), .val (.int p3), .val (.int p4), .val (.int (2 : Int32)), .val (.ref r_59z), .val (.ref r_61z), .val (.ref r_63z), .val (.ref r_65z), .val (.ref b67z), .val (.ref r_78z), .unset] [])) _
    refine own_go (fun t k => XS.aload X81z.here hx rfl (hb hby at_136) rfl rfl k) ?_
    refine own_go (fun t k => XS.iconst X81z.here hx rfl (hb hby at_138) k) ?_
    refine own_go (fun t k => XS.aload X81z.here hx rfl (hb hby at_139) rfl rfl k) ?_
    refine own_go (fun t k => XS.iload X81z.here hx rfl (hb hby at_141) rfl k) ?_
    show own_G p e below (T81z.setTop (mkF m 143 #[.val (.int p0), .val (.int p1), .val (.int p2), .val (.int p3), .val (.int p4), .val (.int (2 : Int32)), .val (.ref r_59z), .val (.ref r_61z), .val (.ref r_63z), .val (.ref r_65z), .val (.ref b67z), .val (.ref r_78z), .unset] [(.int (2 : Int32)), (.ref r_61z), (.int (1 : Int32)), (.ref r_78z)])) _
    obtain ⟨_, _, ⟨T82z, L82z, k82z, n82z⟩, -, X82z, ⟨Lc82z, hQ82z, l82z, y82z, z82z⟩, st82z⟩ := Jvm.LawKit.callS X81z hx (y := own_m26) hown78z (mvT hZ78z (own_hw hw 107 rfl)) (mvT hZ78z (own_hw hw 108 rfl)) (mvT hZ78z (own_hw hw 109 rfl)) (mvT hZ78z (own_hw hw 110 rfl)) (by decide) (backOf (W := 0) (own_at2_1 l Z a0 hw [] r_78z r_61z ar_78z kr_78z ([(.ref r_59z), (.ref r_61z)]) T78z.heap O79z r78z_0 r78z_4 r78z_2 r78z_5 rfl) hZ78z (own_hw hw 110 rfl) (own_hw hw 109 rfl) (by decide) (by decide)) (g := (mkF m 143 #[.val (.int p0), .val (.int p1), .val (.int p2), .val (.int p3), .val (.int p4), .val (.int (2 : Int32)), .val (.ref r_59z), .val (.ref r_61z), .val (.ref r_63z), .val (.ref r_65z), .val (.ref b67z), .val (.ref r_78z), .unset] [(.int (2 : Int32)), (.ref r_61z), (.int (1 : Int32)), (.ref r_78z)])) rfl (by rw [hml]; rfl) (argsL := [(.ref r_78z), (.int (1 : Int32)), (.ref r_61z), (.int (2 : Int32))]) (rest := []) (lenOf pd_2223509722 rfl) rfl (by show 2 * 0 + _ ≤ _; exact Nat.le_of_eq rfl) (hb hby at_143) (fun _ _ => ⟨rfl, K81zq, (by decide : 15 + 0 ≤ _), (by decide : 238 + 0 ≤ _)⟩)
    dsimp only [Pt.U, Pt.locs, Pt.cells, Pt.slots] at X82z l82z y82z z82z st82z hQ82z
    subst l82z y82z z82z
    obtain ⟨rfl, NQ82z, K82zq⟩ := hQ82z
    refine own_go st82z ?_
    have N82z := Fr.app N81z NQ82z
    show own_G p e below (T82z.setTop (mkF m 146 #[.val (.int p0), .val (.int p1), .val (.int p2), .val (.int p3), .val (.int p4), .val (.int (2 : Int32)), .val (.ref r_59z), .val (.ref r_61z), .val (.ref r_63z), .val (.ref r_65z), .val (.ref b67z), .val (.ref r_78z), .unset] [(.int (1 : Int32))])) _
    refine own_go (fun t k => XS.ifNo X82z.here hx rfl (hb hby at_146) rfl ((if0 _ _).trans (feq (by decide : ¬ ((1 : Int32) = (0 : Int32)))).1) k) ?_
    show own_G p e below (T82z.setTop (mkF m 149 #[.val (.int p0), .val (.int p1), .val (.int p2), .val (.int p3), .val (.int p4), .val (.int (2 : Int32)), .val (.ref r_59z), .val (.ref r_61z), .val (.ref r_63z), .val (.ref r_65z), .val (.ref b67z), .val (.ref r_78z), .unset] [])) _
    refine own_go (fun t k => XS.aload X82z.here hx rfl (hb hby at_149) rfl rfl k) ?_
    refine own_go (fun t k => XS.iconst X82z.here hx rfl (hb hby at_151) k) ?_
    refine own_go (fun t k => XS.aload X82z.here hx rfl (hb hby at_152) rfl rfl k) ?_
    refine own_go (fun t k => XS.iload X82z.here hx rfl (hb hby at_154) rfl k) ?_
    show own_G p e below (T82z.setTop (mkF m 156 #[.val (.int p0), .val (.int p1), .val (.int p2), .val (.int p3), .val (.int p4), .val (.int (2 : Int32)), .val (.ref r_59z), .val (.ref r_61z), .val (.ref r_63z), .val (.ref r_65z), .val (.ref b67z), .val (.ref r_78z), .unset] [(.int (2 : Int32)), (.ref r_63z), (.int (2 : Int32)), (.ref r_78z)])) _
    obtain ⟨_, _, ⟨T83z, L83z, k83z, n83z⟩, -, X83z, ⟨Lc83z, hQ83z, l83z, y83z, z83z⟩, st83z⟩ := Jvm.LawKit.callS X82z hx (y := own_m26) hown78z (mvT hZ78z (own_hw hw 107 rfl)) (mvT hZ78z (own_hw hw 108 rfl)) (mvT hZ78z (own_hw hw 109 rfl)) (mvT hZ78z (own_hw hw 110 rfl)) (by decide) (backOf (W := 0) (own_at2_2 l Z a0 hw [] r_78z r_63z T78z.heap O79z) hZ78z (own_hw hw 110 rfl) (own_hw hw 109 rfl) (by decide) (by decide)) (g := (mkF m 156 #[.val (.int p0), .val (.int p1), .val (.int p2), .val (.int p3), .val (.int p4), .val (.int (2 : Int32)), .val (.ref r_59z), .val (.ref r_61z), .val (.ref r_63z), .val (.ref r_65z), .val (.ref b67z), .val (.ref r_78z), .unset] [(.int (2 : Int32)), (.ref r_63z), (.int (2 : Int32)), (.ref r_78z)])) rfl (by rw [hml]; rfl) (argsL := [(.ref r_78z), (.int (2 : Int32)), (.ref r_63z), (.int (2 : Int32))]) (rest := []) (lenOf pd_2223509722 rfl) rfl (by show 2 * 0 + _ ≤ _; exact Nat.le_of_eq rfl) (hb hby at_156) (fun _ _ => ⟨rfl, K82zq, (by decide : 15 + 0 ≤ _), (by decide : 238 + 0 ≤ _)⟩)
    dsimp only [Pt.U, Pt.locs, Pt.cells, Pt.slots] at X83z l83z y83z z83z st83z hQ83z
    subst l83z y83z z83z
    obtain ⟨rfl, NQ83z, K83zq⟩ := hQ83z
    refine own_go st83z ?_
    have N83z := Fr.app N82z NQ83z
    show own_G p e below (T83z.setTop (mkF m 159 #[.val (.int p0), .val (.int p1), .val (.int p2), .val (.int p3), .val (.int p4), .val (.int (2 : Int32)), .val (.ref r_59z), .val (.ref r_61z), .val (.ref r_63z), .val (.ref r_65z), .val (.ref b67z), .val (.ref r_78z), .unset] [(.int (1 : Int32))])) _
    refine own_go (fun t k => XS.ifNo X83z.here hx rfl (hb hby at_159) rfl ((if0 _ _).trans (feq (by decide : ¬ ((1 : Int32) = (0 : Int32)))).1) k) ?_
    show own_G p e below (T83z.setTop (mkF m 162 #[.val (.int p0), .val (.int p1), .val (.int p2), .val (.int p3), .val (.int p4), .val (.int (2 : Int32)), .val (.ref r_59z), .val (.ref r_61z), .val (.ref r_63z), .val (.ref r_65z), .val (.ref b67z), .val (.ref r_78z), .unset] [])) _
    refine own_go (fun t k => XS.aload X83z.here hx rfl (hb hby at_162) rfl rfl k) ?_
    refine own_go (fun t k => XS.iconst X83z.here hx rfl (hb hby at_164) k) ?_
    refine own_go (fun t k => XS.aload X83z.here hx rfl (hb hby at_165) rfl rfl k) ?_
    refine own_go (fun t k => XS.iload X83z.here hx rfl (hb hby at_167) rfl k) ?_
    show own_G p e below (T83z.setTop (mkF m 169 #[.val (.int p0), .val (.int p1), .val (.int p2), .val (.int p3), .val (.int p4), .val (.int (2 : Int32)), .val (.ref r_59z), .val (.ref r_61z), .val (.ref r_63z), .val (.ref r_65z), .val (.ref b67z), .val (.ref r_78z), .unset] [(.int (2 : Int32)), (.ref r_65z), (.int (3 : Int32)), (.ref r_78z)])) _
    obtain ⟨_, _, ⟨T84z, L84z, k84z, n84z⟩, -, X84z, ⟨Lc84z, hQ84z, l84z, y84z, z84z⟩, st84z⟩ := Jvm.LawKit.callS X83z hx (y := own_m26) hown78z (mvT hZ78z (own_hw hw 107 rfl)) (mvT hZ78z (own_hw hw 108 rfl)) (mvT hZ78z (own_hw hw 109 rfl)) (mvT hZ78z (own_hw hw 110 rfl)) (by decide) (backOf (W := 0) (own_at2_3 l Z a0 hw [] r_78z r_65z T78z.heap O79z) hZ78z (own_hw hw 110 rfl) (own_hw hw 109 rfl) (by decide) (by decide)) (g := (mkF m 169 #[.val (.int p0), .val (.int p1), .val (.int p2), .val (.int p3), .val (.int p4), .val (.int (2 : Int32)), .val (.ref r_59z), .val (.ref r_61z), .val (.ref r_63z), .val (.ref r_65z), .val (.ref b67z), .val (.ref r_78z), .unset] [(.int (2 : Int32)), (.ref r_65z), (.int (3 : Int32)), (.ref r_78z)])) rfl (by rw [hml]; rfl) (argsL := [(.ref r_78z), (.int (3 : Int32)), (.ref r_65z), (.int (2 : Int32))]) (rest := []) (lenOf pd_2223509722 rfl) rfl (by show 2 * 0 + _ ≤ _; exact Nat.le_of_eq rfl) (hb hby at_169) (fun _ _ => ⟨rfl, K83zq, (by decide : 15 + 0 ≤ _), (by decide : 238 + 0 ≤ _)⟩)
    dsimp only [Pt.U, Pt.locs, Pt.cells, Pt.slots] at X84z l84z y84z z84z st84z hQ84z
    subst l84z y84z z84z
    obtain ⟨rfl, NQ84z, K84zq⟩ := hQ84z
    refine own_go st84z ?_
    have N84z := Fr.app N83z NQ84z
    show own_G p e below (T84z.setTop (mkF m 172 #[.val (.int p0), .val (.int p1), .val (.int p2), .val (.int p3), .val (.int p4), .val (.int (2 : Int32)), .val (.ref r_59z), .val (.ref r_61z), .val (.ref r_63z), .val (.ref r_65z), .val (.ref b67z), .val (.ref r_78z), .unset] [(.int (1 : Int32))])) _
    refine own_go (fun t k => XS.ifNo X84z.here hx rfl (hb hby at_172) rfl ((if0 _ _).trans (feq (by decide : ¬ ((1 : Int32) = (0 : Int32)))).1) k) ?_
    show own_G p e below (T84z.setTop (mkF m 175 #[.val (.int p0), .val (.int p1), .val (.int p2), .val (.int p3), .val (.int p4), .val (.int (2 : Int32)), .val (.ref r_59z), .val (.ref r_61z), .val (.ref r_63z), .val (.ref r_65z), .val (.ref b67z), .val (.ref r_78z), .unset] [])) _
    refine own_go (fun t k => XS.iconst X84z.here hx rfl (hb hby at_175) k) ?_
    refine own_go (fun t k => XS.goto X84z.here hx rfl (pc0 := 176) (pc' := 180) rfl (hb hby at_176) (by decide) (by decide) k) ?_
    show own_G p e below (T84z.setTop (mkF m 180 #[.val (.int p0), .val (.int p1), .val (.int p2), .val (.int p3), .val (.int p4), .val (.int (2 : Int32)), .val (.ref r_59z), .val (.ref r_61z), .val (.ref r_63z), .val (.ref r_65z), .val (.ref b67z), .val (.ref r_78z), .unset] [(.int (1 : Int32))])) _
    refine own_go (fun t k => XS.istore X84z.here hx rfl (hb hby at_180) rfl (l' := #[.val (.int p0), .val (.int p1), .val (.int p2), .val (.int p3), .val (.int p4), .val (.int (2 : Int32)), .val (.ref r_59z), .val (.ref r_61z), .val (.ref r_63z), .val (.ref r_65z), .val (.ref b67z), .val (.ref r_78z), .val (.int (1 : Int32))]) rfl k) ?_
    refine own_go (fun t k => XS.aload X84z.here hx rfl (hb hby at_182) rfl rfl k) ?_
    refine own_go (fun t k => XS.aload X84z.here hx rfl (hb hby at_184) rfl rfl k) ?_
    obtain ⟨cq85z, kq85z, qa85z, qb85z, qc85z⟩ := isOf hZ78z K84zq (r75z_0.keep K78zq)
    obtain ⟨_, _, ⟨T85z, L85z, k85z, n85z⟩, -, X85z, ⟨Lc85z, hQ85z, l85z, y85z, z85z⟩, st85z⟩ := X84z.virtualBack hx (y := own_m8) (z := own_m8) hown78z (mvT hZ78z (own_hw hw 111 rfl)) (mvT hZ78z (own_hw hw 112 rfl)) (notFace_of_selects (args := #[]) (mvT hZ78z (own_hw hw 114 rfl))) (mvT hZ78z (own_hw hw 114 rfl)) (mvT hZ78z (own_hw hw 113 rfl)) (by decide) (backOf (W := 0) (own_add1 l Z a0 hw [] b67z r_61z arr_72z kk_72z ([(.ref r_59z), (.ref r_61z), .null, .null, .null, .null, .null, .null, .null, .null]) (2 : Int32) (2 : Int32) (10 : Int32) 2 T78z.heap O79z (r75z_0.keep K78zq) fr_b67z r72z_1 ((f74z.keep K75zq).keep K78zq) (r75z_1.keep K78zq (by simp)) r72z_3 (by decide) (by show (10 : Int32).toInt = ((10 : Nat) : Int); decide) (by show 2 < 10; decide) ne_b67z_arr_72z (r75z_2.keep K78zq (by simp)) (r75z_3.keep K78zq (by simp)) (r75z_4.keep K78zq (by simp))) hZ78z (own_hw hw 115 rfl) (own_hw hw 10 rfl) (by decide) (by decide)) qa85z qc85z (g := (mkF m 186 #[.val (.int p0), .val (.int p1), .val (.int p2), .val (.int p3), .val (.int p4), .val (.int (2 : Int32)), .val (.ref r_59z), .val (.ref r_61z), .val (.ref r_63z), .val (.ref r_65z), .val (.ref b67z), .val (.ref r_78z), .val (.int (1 : Int32))] [(.ref r_61z), (.ref b67z)])) rfl (by rw [hml]; rfl) (Steps.refl _) (argsL := [(.ref r_61z)]) (rest := []) (lenOf pd_396412080 rfl) rfl (by show 2 * 0 + _ ≤ _; exact Nat.le_of_eq rfl) (hb hby at_186) (fun _ _ => ⟨rfl, K84zq, (by decide : 15 + 0 ≤ _), (by decide : 238 + 0 ≤ _)⟩)
    dsimp only [Pt.U, Pt.locs, Pt.cells, Pt.slots] at X85z l85z y85z z85z st85z hQ85z
    subst l85z y85z z85z
    obtain ⟨rfl, NQ85z, K85zq, r85z_0, r85z_1, r85z_2, r85z_3, r85z_4⟩ := hQ85z
    refine own_tr st85z ?_
    have N85z := Fr.app N84z NQ85z
    have O86z : Ext Z.heap T85z.heap := own_ext_keep O79z K85zq (allS fr_b67z (allS r72z_1 all0))
    have K86z : Keep h0 T85z.heap [] := K79z.trans K85zq (allS (Or.inr lz_b67z) (allS (Or.inr lz_arr_72z) all0))
    have Sn86z := Nat.le_trans Sn78z K85zq.1
    have r85z_1 : own_A Z T85z.heap arr_72z kk_72z (.object "java/lang/Object") [(.ref r_59z), (.ref r_61z), (.ref r_61z), .null, .null, .null, .null, .null, .null, .null] := r85z_1
    have r85z_2 : Fld Z T85z.heap b67z "java/util/AbstractList" "modCount" "I" (.int (3 : Int32)) := r85z_2
    have r85z_4 : Fld Z T85z.heap b67z "java/util/ArrayList" "size" "I" (.int (3 : Int32)) := r85z_4
    show own_G p e below (T85z.setTop (mkF m 189 #[.val (.int p0), .val (.int p1), .val (.int p2), .val (.int p3), .val (.int p4), .val (.int (2 : Int32)), .val (.ref r_59z), .val (.ref r_61z), .val (.ref r_63z), .val (.ref r_65z), .val (.ref b67z), .val (.ref r_78z), .val (.int (1 : Int32))] [(.int (1 : Int32))])) _
    refine own_go (fun t k => XS.pop X85z.here hx rfl (hb hby at_189) rfl rfl k) ?_
    refine own_go (fun t k => XS.iload X85z.here hx rfl (hb hby at_190) rfl k) ?_
    refine own_go (fun t k => XS.ifNo X85z.here hx rfl (hb hby at_192) rfl ((if0 _ _).trans (feq (by decide : ¬ ((1 : Int32) = (0 : Int32)))).1) k) ?_
    show own_G p e below (T85z.setTop (mkF m 195 #[.val (.int p0), .val (.int p1), .val (.int p2), .val (.int p3), .val (.int p4), .val (.int (2 : Int32)), .val (.ref r_59z), .val (.ref r_61z), .val (.ref r_63z), .val (.ref r_65z), .val (.ref b67z), .val (.ref r_78z), .val (.int (1 : Int32))] [])) _
    refine own_go (fun t k => XS.aload X85z.here hx rfl (hb hby at_195) rfl rfl k) ?_
    have f87z := (r78z_5.keep K85zq (by simp only [List.mem_cons, List.not_mem_nil, or_false, not_or]; exact ⟨(Ne.symm ne_b67z_r_78z), (Ne.symm ne_arr_72z_r_78z)⟩))
    obtain ⟨cq88z, kq88z, qa88z, qb88z, qc88z⟩ := isOf hZ78z (rfl : T85z.heap = _) (r78z_0.keep K85zq)
    obtain ⟨_, _, ⟨T88z, L88z, k88z, n88z⟩, -, X88z, ⟨Lc88z, hQ88z, l88z, y88z, z88z⟩, st88z⟩ := X85z.interfaceBack hx (xi := own_m31) (y := own_m9) hown78z (mvT hZ78z (own_hw hw 102 rfl)) (mvT hZ78z (own_hw hw 103 rfl)) (mvT hZ78z (own_hw hw 104 rfl)) (mvT hZ78z (own_hw hw 105 rfl)) (mvT hZ78z (own_hw hw 55 rfl)) (mvT hZ78z (own_hw hw 56 rfl)) (mvT hZ78z (own_hw hw 57 rfl)) (mvT hZ78z (own_hw hw 106 rfl)) (by decide) (backOf (W := 0) (own_size l Z a0 hw [] r_78z (2 : Int32) T85z.heap O86z f87z) hZ78z (own_hw hw 59 rfl) (own_hw hw 10 rfl) (by decide) (by decide)) qa88z qb88z qc88z (g := (mkF m 197 #[.val (.int p0), .val (.int p1), .val (.int p2), .val (.int p3), .val (.int p4), .val (.int (2 : Int32)), .val (.ref r_59z), .val (.ref r_61z), .val (.ref r_63z), .val (.ref r_65z), .val (.ref b67z), .val (.ref r_78z), .val (.int (1 : Int32))] [(.ref r_78z)])) rfl (by rw [hml]; rfl) (Steps.refl _) (argsL := []) (rest := []) (lenOf pd_193421983 rfl) rfl (by show 2 * 0 + _ ≤ _; exact Nat.le_of_eq rfl) (hb hby at_197) (fun _ _ => ⟨rfl, rfl, (by decide : 15 + 0 ≤ _), (by decide : 238 + 0 ≤ _)⟩)
    dsimp only [Pt.U, Pt.locs, Pt.cells, Pt.slots] at X88z l88z y88z z88z st88z hQ88z
    subst l88z y88z z88z
    obtain ⟨rfl, NQ88z, K88zq⟩ := hQ88z
    refine own_tr st88z ?_
    have N88z := Fr.app N85z NQ88z
    show own_G p e below (T88z.setTop (mkF m 202 #[.val (.int p0), .val (.int p1), .val (.int p2), .val (.int p3), .val (.int p4), .val (.int (2 : Int32)), .val (.ref r_59z), .val (.ref r_61z), .val (.ref r_63z), .val (.ref r_65z), .val (.ref b67z), .val (.ref r_78z), .val (.int (1 : Int32))] [(.int (2 : Int32))])) _
    refine own_go (fun t k => XS.iload X88z.here hx rfl (hb hby at_202) rfl k) ?_
    refine own_go (fun t k => XS.icmpNo X88z.here hx rfl (hb hby at_204) rfl (teq (by decide : (2 : Int32) = (2 : Int32))).2 k) ?_
    show own_G p e below (T88z.setTop (mkF m 207 #[.val (.int p0), .val (.int p1), .val (.int p2), .val (.int p3), .val (.int p4), .val (.int (2 : Int32)), .val (.ref r_59z), .val (.ref r_61z), .val (.ref r_63z), .val (.ref r_65z), .val (.ref b67z), .val (.ref r_78z), .val (.int (1 : Int32))] [])) _
    refine own_go (fun t k => XS.aload X88z.here hx rfl (hb hby at_207) rfl rfl k) ?_
    refine own_go (fun t k => XS.iconst X88z.here hx rfl (hb hby at_209) k) ?_
    refine own_go (fun t k => XS.aload X88z.here hx rfl (hb hby at_210) rfl rfl k) ?_
    refine own_go (fun t k => XS.iload X88z.here hx rfl (hb hby at_212) rfl k) ?_
    show own_G p e below (T88z.setTop (mkF m 214 #[.val (.int p0), .val (.int p1), .val (.int p2), .val (.int p3), .val (.int p4), .val (.int (2 : Int32)), .val (.ref r_59z), .val (.ref r_61z), .val (.ref r_63z), .val (.ref r_65z), .val (.ref b67z), .val (.ref r_78z), .val (.int (1 : Int32))] [(.int (2 : Int32)), (.ref r_59z), (.int (0 : Int32)), (.ref r_78z)])) _
    have f89z := (r78z_4.keep K85zq (by simp only [List.mem_cons, List.not_mem_nil, or_false, not_or]; exact ⟨(Ne.symm ne_b67z_r_78z), (Ne.symm ne_arr_72z_r_78z)⟩))
    have f90z := (r78z_2.keep K85zq (by simp only [List.mem_cons, List.not_mem_nil, or_false, not_or]; exact ⟨(Ne.symm ne_b67z_ar_78z), (Ne.symm ne_arr_72z_ar_78z)⟩))
    obtain ⟨_, _, ⟨T91z, L91z, k91z, n91z⟩, -, X91z, ⟨Lc91z, hQ91z, l91z, y91z, z91z⟩, st91z⟩ := Jvm.LawKit.callS X88z hx (y := own_m26) hown78z (mvT hZ78z (own_hw hw 107 rfl)) (mvT hZ78z (own_hw hw 108 rfl)) (mvT hZ78z (own_hw hw 109 rfl)) (mvT hZ78z (own_hw hw 110 rfl)) (by decide) (backOf (W := 0) (own_at2_0 l Z a0 hw [] r_78z r_59z ar_78z kr_78z ([(.ref r_59z), (.ref r_61z)]) T85z.heap O86z (r78z_0.keep K85zq) f89z f90z f87z rfl) hZ78z (own_hw hw 110 rfl) (own_hw hw 109 rfl) (by decide) (by decide)) (g := (mkF m 214 #[.val (.int p0), .val (.int p1), .val (.int p2), .val (.int p3), .val (.int p4), .val (.int (2 : Int32)), .val (.ref r_59z), .val (.ref r_61z), .val (.ref r_63z), .val (.ref r_65z), .val (.ref b67z), .val (.ref r_78z), .val (.int (1 : Int32))] [(.int (2 : Int32)), (.ref r_59z), (.int (0 : Int32)), (.ref r_78z)])) rfl (by rw [hml]; rfl) (argsL := [(.ref r_78z), (.int (0 : Int32)), (.ref r_59z), (.int (2 : Int32))]) (rest := []) (lenOf pd_2223509722 rfl) rfl (by show 2 * 0 + _ ≤ _; exact Nat.le_of_eq rfl) (hb hby at_214) (fun _ _ => ⟨rfl, K88zq, (by decide : 15 + 0 ≤ _), (by decide : 238 + 0 ≤ _)⟩)
    dsimp only [Pt.U, Pt.locs, Pt.cells, Pt.slots] at X91z l91z y91z z91z st91z hQ91z
    subst l91z y91z z91z
    obtain ⟨rfl, NQ91z, K91zq⟩ := hQ91z
    refine own_go st91z ?_
    have N91z := Fr.app N88z NQ91z
    show own_G p e below (T91z.setTop (mkF m 217 #[.val (.int p0), .val (.int p1), .val (.int p2), .val (.int p3), .val (.int p4), .val (.int (2 : Int32)), .val (.ref r_59z), .val (.ref r_61z), .val (.ref r_63z), .val (.ref r_65z), .val (.ref b67z), .val (.ref r_78z), .val (.int (1 : Int32))] [(.int (1 : Int32))])) _
    refine own_go (fun t k => XS.ifNo X91z.here hx rfl (hb hby at_217) rfl ((if0 _ _).trans (feq (by decide : ¬ ((1 : Int32) = (0 : Int32)))).1) k) ?_
    show own_G p e below (T91z.setTop (mkF m 220 #[.val (.int p0), .val (.int p1), .val (.int p2), .val (.int p3), .val (.int p4), .val (.int (2 : Int32)), .val (.ref r_59z), .val (.ref r_61z), .val (.ref r_63z), .val (.ref r_65z), .val (.ref b67z), .val (.ref r_78z), .val (.int (1 : Int32))] [])) _
    refine own_go (fun t k => XS.aload X91z.here hx rfl (hb hby at_220) rfl rfl k) ?_
    refine own_go (fun t k => XS.iconst X91z.here hx rfl (hb hby at_222) k) ?_
    refine own_go (fun t k => XS.aload X91z.here hx rfl (hb hby at_223) rfl rfl k) ?_
    refine own_go (fun t k => XS.iload X91z.here hx rfl (hb hby at_225) rfl k) ?_
    show own_G p e below (T91z.setTop (mkF m 227 #[.val (.int p0), .val (.int p1), .val (.int p2), .val (.int p3), .val (.int p4), .val (.int (2 : Int32)), .val (.ref r_59z), .val (.ref r_61z), .val (.ref r_63z), .val (.ref r_65z), .val (.ref b67z), .val (.ref r_78z), .val (.int (1 : Int32))] [(.int (2 : Int32)), (.ref r_65z), (.int (3 : Int32)), (.ref r_78z)])) _
    obtain ⟨_, _, ⟨T92z, L92z, k92z, n92z⟩, -, X92z, ⟨Lc92z, hQ92z, l92z, y92z, z92z⟩, st92z⟩ := Jvm.LawKit.callS X91z hx (y := own_m26) hown78z (mvT hZ78z (own_hw hw 107 rfl)) (mvT hZ78z (own_hw hw 108 rfl)) (mvT hZ78z (own_hw hw 109 rfl)) (mvT hZ78z (own_hw hw 110 rfl)) (by decide) (backOf (W := 0) (own_at2_3 l Z a0 hw [] r_78z r_65z T85z.heap O86z) hZ78z (own_hw hw 110 rfl) (own_hw hw 109 rfl) (by decide) (by decide)) (g := (mkF m 227 #[.val (.int p0), .val (.int p1), .val (.int p2), .val (.int p3), .val (.int p4), .val (.int (2 : Int32)), .val (.ref r_59z), .val (.ref r_61z), .val (.ref r_63z), .val (.ref r_65z), .val (.ref b67z), .val (.ref r_78z), .val (.int (1 : Int32))] [(.int (2 : Int32)), (.ref r_65z), (.int (3 : Int32)), (.ref r_78z)])) rfl (by rw [hml]; rfl) (argsL := [(.ref r_78z), (.int (3 : Int32)), (.ref r_65z), (.int (2 : Int32))]) (rest := []) (lenOf pd_2223509722 rfl) rfl (by show 2 * 0 + _ ≤ _; exact Nat.le_of_eq rfl) (hb hby at_227) (fun _ _ => ⟨rfl, K91zq, (by decide : 15 + 0 ≤ _), (by decide : 238 + 0 ≤ _)⟩)
    dsimp only [Pt.U, Pt.locs, Pt.cells, Pt.slots] at X92z l92z y92z z92z st92z hQ92z
    subst l92z y92z z92z
    obtain ⟨rfl, NQ92z, K92zq⟩ := hQ92z
    refine own_go st92z ?_
    have N92z := Fr.app N91z NQ92z
    show own_G p e below (T92z.setTop (mkF m 230 #[.val (.int p0), .val (.int p1), .val (.int p2), .val (.int p3), .val (.int p4), .val (.int (2 : Int32)), .val (.ref r_59z), .val (.ref r_61z), .val (.ref r_63z), .val (.ref r_65z), .val (.ref b67z), .val (.ref r_78z), .val (.int (1 : Int32))] [(.int (1 : Int32))])) _
    refine own_go (fun t k => XS.ifNo X92z.here hx rfl (hb hby at_230) rfl ((if0 _ _).trans (feq (by decide : ¬ ((1 : Int32) = (0 : Int32)))).1) k) ?_
    show own_G p e below (T92z.setTop (mkF m 233 #[.val (.int p0), .val (.int p1), .val (.int p2), .val (.int p3), .val (.int p4), .val (.int (2 : Int32)), .val (.ref r_59z), .val (.ref r_61z), .val (.ref r_63z), .val (.ref r_65z), .val (.ref b67z), .val (.ref r_78z), .val (.int (1 : Int32))] [])) _
    refine own_go (fun t k => XS.iconst X92z.here hx rfl (hb hby at_233) k) ?_
    refine own_go (fun t k => XS.goto X92z.here hx rfl (pc0 := 234) (pc' := 238) rfl (hb hby at_234) (by decide) (by decide) k) ?_
    show own_G p e below (T92z.setTop (mkF m 238 #[.val (.int p0), .val (.int p1), .val (.int p2), .val (.int p3), .val (.int p4), .val (.int (2 : Int32)), .val (.ref r_59z), .val (.ref r_61z), .val (.ref r_63z), .val (.ref r_65z), .val (.ref b67z), .val (.ref r_78z), .val (.int (1 : Int32))] [(.int (1 : Int32))])) _
    exact own_retW X92z Sx78z (by rw [K92zq]; exact Sn86z) hx Bd.returns rfl (Or.inl ⟨rfl, Or.inr (Or.inl rfl), _, rfl⟩) (hb hby at_238) hlk (Nat.le_of_ble_eq_true rfl) (Nat.le_of_ble_eq_true rfl) (by show Q_own_law Z p0 p1 p2 p3 p4 dE kd eE ca h0 _ T92z.heap _; rw [K92zq]; exact ⟨rfl, N92z, K86z⟩)
  · rw [hk]
    show own_G p e below (s₁.setTop (mkF m 6 #[.val (.int p0), .val (.int p1), .val (.int p2), .val (.int p3), .val (.int p4), .unset, .unset, .unset, .unset, .unset, .unset, .unset, .unset] [(.int (3 : Int32))])) _
    refine own_go (fun t k => XS.istore X0.here hx rfl (hb hby at_6) rfl (l' := #[.val (.int p0), .val (.int p1), .val (.int p2), .val (.int p3), .val (.int p4), .val (.int (3 : Int32)), .unset, .unset, .unset, .unset, .unset, .unset, .unset]) rfl k) ?_
    refine own_go (fun t k => XS.iloadN X0.here hx rfl (hb hby at_8) rfl k) ?_
    obtain ⟨_, _, ⟨T93z, L93z, k93z, n93z⟩, -, X93z, ⟨Lc93z, hQ93z, l93z, y93z, z93z⟩, st93z⟩ := Jvm.LawKit.callS X0 hx (y := own_m30) hown (mvT hZ (own_hw hw 1 rfl)) (mvT hZ (own_hw hw 2 rfl)) (mvT hZ (own_hw hw 3 rfl)) (mvT hZ (own_hw hw 4 rfl)) (by decide) (backOf (W := 0) (own_vo l Z a0 hw [] p1 ca h0 O0 S_H S_C BX) hZ (own_hw hw 4 rfl) (own_hw hw 3 rfl) (by decide) (by decide)) (g := (mkF m 9 #[.val (.int p0), .val (.int p1), .val (.int p2), .val (.int p3), .val (.int p4), .val (.int (3 : Int32)), .unset, .unset, .unset, .unset, .unset, .unset, .unset] [(.int p1)])) rfl (by rw [hml]; rfl) (argsL := [(.int p1)]) (rest := []) (lenOf pd_73316374 rfl) rfl (by show 2 * 0 + _ ≤ _; exact Nat.le_of_eq rfl) (hb hby at_9) (fun _ _ => ⟨rfl, e0, (by decide : 0 + 1 ≤ _), (by decide : 0 + 1 ≤ _)⟩)
    dsimp only [Pt.U, Pt.locs, Pt.cells, Pt.slots] at X93z l93z y93z z93z st93z hQ93z
    subst l93z y93z z93z
    obtain ⟨r_93z, rfl, NQ93z, K93zq, r93z_0⟩ := hQ93z
    refine own_go st93z ?_
    have N93z := Fr.app N0 NQ93z
    have O94z : Ext Z.heap T93z.heap := own_ext_keep O0 K93zq all0
    have K94z : Keep h0 T93z.heap [] := K0.trans K93zq all0
    have Sn94z := Nat.le_trans Sn0 K93zq.1
    show own_G p e below (T93z.setTop (mkF m 12 #[.val (.int p0), .val (.int p1), .val (.int p2), .val (.int p3), .val (.int p4), .val (.int (3 : Int32)), .unset, .unset, .unset, .unset, .unset, .unset, .unset] [(.ref r_93z)])) _
    refine own_go (fun t k => XS.astore X93z.here hx rfl (hb hby at_12) rfl rfl (l' := #[.val (.int p0), .val (.int p1), .val (.int p2), .val (.int p3), .val (.int p4), .val (.int (3 : Int32)), .val (.ref r_93z), .unset, .unset, .unset, .unset, .unset, .unset]) rfl k) ?_
    refine own_go (fun t k => XS.iloadN X93z.here hx rfl (hb hby at_14) rfl k) ?_
    obtain ⟨_, _, ⟨T95z, L95z, k95z, n95z⟩, -, X95z, ⟨Lc95z, hQ95z, l95z, y95z, z95z⟩, st95z⟩ := Jvm.LawKit.callS X93z hx (y := own_m30) hown (mvT hZ (own_hw hw 1 rfl)) (mvT hZ (own_hw hw 2 rfl)) (mvT hZ (own_hw hw 3 rfl)) (mvT hZ (own_hw hw 4 rfl)) (by decide) (backOf (W := 0) (own_vo l Z a0 hw [] p2 ca T93z.heap O94z S_H S_C BX) hZ (own_hw hw 4 rfl) (own_hw hw 3 rfl) (by decide) (by decide)) (g := (mkF m 15 #[.val (.int p0), .val (.int p1), .val (.int p2), .val (.int p3), .val (.int p4), .val (.int (3 : Int32)), .val (.ref r_93z), .unset, .unset, .unset, .unset, .unset, .unset] [(.int p2)])) rfl (by rw [hml]; rfl) (argsL := [(.int p2)]) (rest := []) (lenOf pd_73316374 rfl) rfl (by show 2 * 0 + _ ≤ _; exact Nat.le_of_eq rfl) (hb hby at_15) (fun _ _ => ⟨rfl, rfl, (by decide : 1 + 1 ≤ _), (by decide : 1 + 1 ≤ _)⟩)
    dsimp only [Pt.U, Pt.locs, Pt.cells, Pt.slots] at X95z l95z y95z z95z st95z hQ95z
    subst l95z y95z z95z
    obtain ⟨r_95z, rfl, NQ95z, K95zq, r95z_0⟩ := hQ95z
    refine own_go st95z ?_
    have N95z := Fr.app N93z NQ95z
    have O96z : Ext Z.heap T95z.heap := own_ext_keep O94z K95zq all0
    have K96z : Keep h0 T95z.heap [] := K94z.trans K95zq all0
    have Sn96z := Nat.le_trans Sn94z K95zq.1
    show own_G p e below (T95z.setTop (mkF m 18 #[.val (.int p0), .val (.int p1), .val (.int p2), .val (.int p3), .val (.int p4), .val (.int (3 : Int32)), .val (.ref r_93z), .unset, .unset, .unset, .unset, .unset, .unset] [(.ref r_95z)])) _
    refine own_go (fun t k => XS.astore X95z.here hx rfl (hb hby at_18) rfl rfl (l' := #[.val (.int p0), .val (.int p1), .val (.int p2), .val (.int p3), .val (.int p4), .val (.int (3 : Int32)), .val (.ref r_93z), .val (.ref r_95z), .unset, .unset, .unset, .unset, .unset]) rfl k) ?_
    refine own_go (fun t k => XS.iloadN X95z.here hx rfl (hb hby at_20) rfl k) ?_
    obtain ⟨_, _, ⟨T97z, L97z, k97z, n97z⟩, -, X97z, ⟨Lc97z, hQ97z, l97z, y97z, z97z⟩, st97z⟩ := Jvm.LawKit.callS X95z hx (y := own_m30) hown (mvT hZ (own_hw hw 1 rfl)) (mvT hZ (own_hw hw 2 rfl)) (mvT hZ (own_hw hw 3 rfl)) (mvT hZ (own_hw hw 4 rfl)) (by decide) (backOf (W := 0) (own_vo l Z a0 hw [] p3 ca T95z.heap O96z S_H S_C BX) hZ (own_hw hw 4 rfl) (own_hw hw 3 rfl) (by decide) (by decide)) (g := (mkF m 21 #[.val (.int p0), .val (.int p1), .val (.int p2), .val (.int p3), .val (.int p4), .val (.int (3 : Int32)), .val (.ref r_93z), .val (.ref r_95z), .unset, .unset, .unset, .unset, .unset] [(.int p3)])) rfl (by rw [hml]; rfl) (argsL := [(.int p3)]) (rest := []) (lenOf pd_73316374 rfl) rfl (by show 2 * 0 + _ ≤ _; exact Nat.le_of_eq rfl) (hb hby at_21) (fun _ _ => ⟨rfl, rfl, (by decide : 2 + 1 ≤ _), (by decide : 2 + 1 ≤ _)⟩)
    dsimp only [Pt.U, Pt.locs, Pt.cells, Pt.slots] at X97z l97z y97z z97z st97z hQ97z
    subst l97z y97z z97z
    obtain ⟨r_97z, rfl, NQ97z, K97zq, r97z_0⟩ := hQ97z
    refine own_go st97z ?_
    have N97z := Fr.app N95z NQ97z
    have O98z : Ext Z.heap T97z.heap := own_ext_keep O96z K97zq all0
    have K98z : Keep h0 T97z.heap [] := K96z.trans K97zq all0
    have Sn98z := Nat.le_trans Sn96z K97zq.1
    show own_G p e below (T97z.setTop (mkF m 24 #[.val (.int p0), .val (.int p1), .val (.int p2), .val (.int p3), .val (.int p4), .val (.int (3 : Int32)), .val (.ref r_93z), .val (.ref r_95z), .unset, .unset, .unset, .unset, .unset] [(.ref r_97z)])) _
    refine own_go (fun t k => XS.astore X97z.here hx rfl (hb hby at_24) rfl rfl (l' := #[.val (.int p0), .val (.int p1), .val (.int p2), .val (.int p3), .val (.int p4), .val (.int (3 : Int32)), .val (.ref r_93z), .val (.ref r_95z), .val (.ref r_97z), .unset, .unset, .unset, .unset]) rfl k) ?_
    refine own_go (fun t k => XS.iload X97z.here hx rfl (hb hby at_26) rfl k) ?_
    obtain ⟨_, _, ⟨T99z, L99z, k99z, n99z⟩, -, X99z, ⟨Lc99z, hQ99z, l99z, y99z, z99z⟩, st99z⟩ := Jvm.LawKit.callS X97z hx (y := own_m30) hown (mvT hZ (own_hw hw 1 rfl)) (mvT hZ (own_hw hw 2 rfl)) (mvT hZ (own_hw hw 3 rfl)) (mvT hZ (own_hw hw 4 rfl)) (by decide) (backOf (W := 0) (own_vo l Z a0 hw [] p4 ca T97z.heap O98z S_H S_C BX) hZ (own_hw hw 4 rfl) (own_hw hw 3 rfl) (by decide) (by decide)) (g := (mkF m 28 #[.val (.int p0), .val (.int p1), .val (.int p2), .val (.int p3), .val (.int p4), .val (.int (3 : Int32)), .val (.ref r_93z), .val (.ref r_95z), .val (.ref r_97z), .unset, .unset, .unset, .unset] [(.int p4)])) rfl (by rw [hml]; rfl) (argsL := [(.int p4)]) (rest := []) (lenOf pd_73316374 rfl) rfl (by show 2 * 0 + _ ≤ _; exact Nat.le_of_eq rfl) (hb hby at_28) (fun _ _ => ⟨rfl, rfl, (by decide : 3 + 1 ≤ _), (by decide : 3 + 1 ≤ _)⟩)
    dsimp only [Pt.U, Pt.locs, Pt.cells, Pt.slots] at X99z l99z y99z z99z st99z hQ99z
    subst l99z y99z z99z
    obtain ⟨r_99z, rfl, NQ99z, K99zq, r99z_0⟩ := hQ99z
    refine own_go st99z ?_
    have N99z := Fr.app N97z NQ99z
    have O100z : Ext Z.heap T99z.heap := own_ext_keep O98z K99zq all0
    have K100z : Keep h0 T99z.heap [] := K98z.trans K99zq all0
    have Sn100z := Nat.le_trans Sn98z K99zq.1
    show own_G p e below (T99z.setTop (mkF m 31 #[.val (.int p0), .val (.int p1), .val (.int p2), .val (.int p3), .val (.int p4), .val (.int (3 : Int32)), .val (.ref r_93z), .val (.ref r_95z), .val (.ref r_97z), .unset, .unset, .unset, .unset] [(.ref r_99z)])) _
    refine own_go (fun t k => XS.astore X99z.here hx rfl (hb hby at_31) rfl rfl (l' := #[.val (.int p0), .val (.int p1), .val (.int p2), .val (.int p3), .val (.int p4), .val (.int (3 : Int32)), .val (.ref r_93z), .val (.ref r_95z), .val (.ref r_97z), .val (.ref r_99z), .unset, .unset, .unset]) rfl k) ?_
    obtain ⟨T101z, h101z, X101z, e101z, E101z, A101z, D101z, -, st101z⟩ := newO X99z hx hZ hown (own_hw hw 8 rfl) (own_hw hw 9 rfl) (own_hw hw 10 rfl) rfl (g := (mkF m 33 #[.val (.int p0), .val (.int p1), .val (.int p2), .val (.int p3), .val (.int p4), .val (.int (3 : Int32)), .val (.ref r_93z), .val (.ref r_95z), .val (.ref r_97z), .val (.ref r_99z), .unset, .unset, .unset] [])) rfl (hb hby at_33) (by decide) (by decide)
    obtain ⟨b101z, g101z⟩ : ∃ z, z = T99z.heap.size := ⟨_, rfl⟩
    rw [← g101z] at A101z D101z st101z
    have fr_b101z : Z.heap.size ≤ b101z := g101z ▸ O100z.1
    have lz_b101z : h0.size ≤ b101z := g101z ▸ K100z.1
    have ne_r_93z_b101z : r_93z ≠ b101z := Nat.ne_of_lt (g101z ▸ (((r93z_0.keep K95zq).keep K97zq).keep K99zq).lt)
    have ne_r_95z_b101z : r_95z ≠ b101z := Nat.ne_of_lt (g101z ▸ ((r95z_0.keep K97zq).keep K99zq).lt)
    have ne_r_97z_b101z : r_97z ≠ b101z := Nat.ne_of_lt (g101z ▸ (r97z_0.keep K99zq).lt)
    have ne_r_99z_b101z : r_99z ≠ b101z := Nat.ne_of_lt (g101z ▸ r99z_0.lt)
    have O102z : Ext Z.heap h101z := own_ext_trans O100z E101z
    have K102z : Keep h0 h101z [] := K100z.ext E101z
    have Sn102z := Nat.le_trans Sn100z E101z.1
    have F101z_modCount : Fld Z h101z b101z "java/util/AbstractList" "modCount" "I" (.int (0 : Int32)) := D101z (Or.inl (own_hw hw 30 rfl)) (ty := .int) (by decide)
    have F101z_elementData : Fld Z h101z b101z "java/util/ArrayList" "elementData" "[Ljava/lang/Object;" .null := D101z (Or.inl (own_hw hw 33 rfl)) (ty := (.array (.object "java/lang/Object"))) (by decide)
    have F101z_size : Fld Z h101z b101z "java/util/ArrayList" "size" "I" (.int (0 : Int32)) := D101z (Or.inl (own_hw hw 61 rfl)) (ty := .int) (by decide)
    refine own_go st101z ?_
    refine own_go (fun t k => XS.dup X101z.here hx rfl (hb hby at_36) rfl rfl k) ?_
    obtain ⟨_, _, ⟨T103z, L103z, k103z, n103z⟩, -, X103z, ⟨Lc103z, hQ103z, l103z, y103z, z103z⟩, st103z⟩ := X101z.specialBack hx (y := own_m2) rfl hown (mvT hZ (own_hw hw 11 rfl)) (mvT hZ (own_hw hw 12 rfl)) (mvT hZ (own_hw hw 13 rfl)) (by decide) (backOf (W := 1) (own_ali l Z a0 hw [] b101z dE h101z O102z S_D A101z fr_b101z F101z_modCount F101z_elementData F101z_size) hZ (own_hw hw 13 rfl) (own_hw hw 10 rfl) (by decide) (by decide)) (g := (mkF m 37 #[.val (.int p0), .val (.int p1), .val (.int p2), .val (.int p3), .val (.int p4), .val (.int (3 : Int32)), .val (.ref r_93z), .val (.ref r_95z), .val (.ref r_97z), .val (.ref r_99z), .unset, .unset, .unset] [(.ref b101z), (.ref b101z)])) rfl (by rw [hml]; rfl) (Steps.refl _) (a := b101z) (argsL := []) (rest := [(.ref b101z)]) (lenOf pd_193421996 rfl) rfl (by show 2 * 0 + _ ≤ _; exact Nat.le_of_eq rfl) (hb hby at_37) (fun _ _ => ⟨rfl, e101z, (by decide : 5 + 0 ≤ _), (by decide : 7 + 0 ≤ _)⟩)
    dsimp only [Pt.U, Pt.locs, Pt.cells, Pt.slots] at X103z l103z y103z z103z st103z hQ103z
    subst l103z y103z z103z
    obtain ⟨rfl, NQ103z, K103zq, r103z_0, r103z_1, r103z_2, r103z_3⟩ := hQ103z
    refine own_tr st103z ?_
    have N103z := Fr.app N99z NQ103z
    have O104z : Ext Z.heap T103z.heap := own_ext_keep O102z K103zq (allS fr_b101z all0)
    have K104z : Keep h0 T103z.heap [] := K102z.trans K103zq (allS (Or.inr lz_b101z) all0)
    have Sn104z := Nat.le_trans Sn102z K103zq.1
    show own_G p e below (T103z.setTop (mkF m 40 #[.val (.int p0), .val (.int p1), .val (.int p2), .val (.int p3), .val (.int p4), .val (.int (3 : Int32)), .val (.ref r_93z), .val (.ref r_95z), .val (.ref r_97z), .val (.ref r_99z), .unset, .unset, .unset] [(.ref b101z)])) _
    refine own_go (fun t k => XS.astore X103z.here hx rfl (hb hby at_40) rfl rfl (l' := #[.val (.int p0), .val (.int p1), .val (.int p2), .val (.int p3), .val (.int p4), .val (.int (3 : Int32)), .val (.ref r_93z), .val (.ref r_95z), .val (.ref r_97z), .val (.ref r_99z), .val (.ref b101z), .unset, .unset]) rfl k) ?_
    refine own_go (fun t k => XS.iload X103z.here hx rfl (hb hby at_42) rfl k) ?_
    refine own_go (fun t k => XS.ifNo X103z.here hx rfl (hb hby at_44) rfl ((if0 _ _).trans (tlt (by decide : (0 : Int32) < (3 : Int32))).2.2.2) k) ?_
    show own_G p e below (T103z.setTop (mkF m 47 #[.val (.int p0), .val (.int p1), .val (.int p2), .val (.int p3), .val (.int p4), .val (.int (3 : Int32)), .val (.ref r_93z), .val (.ref r_95z), .val (.ref r_97z), .val (.ref r_99z), .val (.ref b101z), .unset, .unset] [])) _
    refine own_go (fun t k => XS.aload X103z.here hx rfl (hb hby at_47) rfl rfl k) ?_
    refine own_go (fun t k => XS.aload X103z.here hx rfl (hb hby at_49) rfl rfl k) ?_
    have f105z := (((((r93z_0.keep K95zq).keep K97zq).keep K99zq).ext E101z).keep K103zq)
    obtain ⟨cq106z, kq106z, qa106z, qb106z, qc106z⟩ := isOf hZ (rfl : T103z.heap = _) r103z_0
    obtain ⟨_, _, ⟨T106z, L106z, k106z, n106z⟩, -, X106z, ⟨Lc106z, hQ106z, l106z, y106z, z106z⟩, st106z⟩ := X103z.virtualBack hx (y := own_m8) (z := own_m8) hown (mvT hZ (own_hw hw 111 rfl)) (mvT hZ (own_hw hw 112 rfl)) (notFace_of_selects (args := #[]) (mvT hZ (own_hw hw 114 rfl))) (mvT hZ (own_hw hw 114 rfl)) (mvT hZ (own_hw hw 113 rfl)) (by decide) (backOf (W := 0) (own_add10 l Z a0 hw [] b101z (0 : Int32) dE kd r_93z T103z.heap O104z S_D BD r103z_0 fr_b101z r103z_1 r103z_2 r103z_3 f105z) hZ (own_hw hw 115 rfl) (own_hw hw 10 rfl) (by decide) (by decide)) qa106z qc106z (g := (mkF m 51 #[.val (.int p0), .val (.int p1), .val (.int p2), .val (.int p3), .val (.int p4), .val (.int (3 : Int32)), .val (.ref r_93z), .val (.ref r_95z), .val (.ref r_97z), .val (.ref r_99z), .val (.ref b101z), .unset, .unset] [(.ref r_93z), (.ref b101z)])) rfl (by rw [hml]; rfl) (Steps.refl _) (argsL := [(.ref r_93z)]) (rest := []) (lenOf pd_396412080 rfl) rfl (by show 2 * 0 + _ ≤ _; exact Nat.le_of_eq rfl) (hb hby at_51) (fun _ _ => ⟨rfl, rfl, (by decide : 5 + 1 ≤ _), (by decide : 7 + 10 ≤ _)⟩)
    dsimp only [Pt.U, Pt.locs, Pt.cells, Pt.slots] at X106z l106z y106z z106z st106z hQ106z
    subst l106z y106z z106z
    obtain ⟨arr_106z, kk_106z, rfl, NQ106z, K106zq, r106z_0, r106z_1, r106z_2, r106z_3, r106z_4, r106z_5, r106z_6, r106z_7⟩ := hQ106z
    refine own_tr st106z ?_
    have N106z := Fr.app N103z NQ106z
    have O107z : Ext Z.heap T106z.heap := own_ext_keep O104z K106zq (allS fr_b101z all0)
    have K107z : Keep h0 T106z.heap [] := K104z.trans K106zq (allS (Or.inr lz_b101z) all0)
    have Sn107z := Nat.le_trans Sn104z K106zq.1
    have lz_arr_106z : h0.size ≤ arr_106z := Nat.le_trans K104z.1 r106z_2
    have ne_r_93z_arr_106z : r_93z ≠ arr_106z := Nat.ne_of_lt (Nat.lt_of_lt_of_le f105z.lt r106z_2)
    have ne_r_95z_arr_106z : r_95z ≠ arr_106z := Nat.ne_of_lt (Nat.lt_of_lt_of_le ((((r95z_0.keep K97zq).keep K99zq).ext E101z).keep K103zq).lt r106z_2)
    have ne_r_97z_arr_106z : r_97z ≠ arr_106z := Nat.ne_of_lt (Nat.lt_of_lt_of_le (((r97z_0.keep K99zq).ext E101z).keep K103zq).lt r106z_2)
    have ne_r_99z_arr_106z : r_99z ≠ arr_106z := Nat.ne_of_lt (Nat.lt_of_lt_of_le ((r99z_0.ext E101z).keep K103zq).lt r106z_2)
    have ne_b101z_arr_106z : b101z ≠ arr_106z := Nat.ne_of_lt (Nat.lt_of_lt_of_le r103z_0.lt r106z_2)
    have r106z_5 : Fld Z T106z.heap b101z "java/util/AbstractList" "modCount" "I" (.int (1 : Int32)) := r106z_5
    show own_G p e below (T106z.setTop (mkF m 54 #[.val (.int p0), .val (.int p1), .val (.int p2), .val (.int p3), .val (.int p4), .val (.int (3 : Int32)), .val (.ref r_93z), .val (.ref r_95z), .val (.ref r_97z), .val (.ref r_99z), .val (.ref b101z), .unset, .unset] [(.int (1 : Int32))])) _
    refine own_go (fun t k => XS.pop X106z.here hx rfl (hb hby at_54) rfl rfl k) ?_
    refine own_go (fun t k => XS.iload X106z.here hx rfl (hb hby at_55) rfl k) ?_
    refine own_go (fun t k => XS.iconst X106z.here hx rfl (hb hby at_57) k) ?_
    refine own_go (fun t k => XS.icmpNo X106z.here hx rfl (hb hby at_58) rfl (tlt (by decide : (1 : Int32) < (3 : Int32))).2.2.2 k) ?_
    show own_G p e below (T106z.setTop (mkF m 61 #[.val (.int p0), .val (.int p1), .val (.int p2), .val (.int p3), .val (.int p4), .val (.int (3 : Int32)), .val (.ref r_93z), .val (.ref r_95z), .val (.ref r_97z), .val (.ref r_99z), .val (.ref b101z), .unset, .unset] [])) _
    refine own_go (fun t k => XS.aload X106z.here hx rfl (hb hby at_61) rfl rfl k) ?_
    refine own_go (fun t k => XS.aload X106z.here hx rfl (hb hby at_63) rfl rfl k) ?_
    have f108z := (((((r95z_0.keep K97zq).keep K99zq).ext E101z).keep K103zq).keep K106zq)
    obtain ⟨cq109z, kq109z, qa109z, qb109z, qc109z⟩ := isOf hZ (rfl : T106z.heap = _) r106z_0
    obtain ⟨_, _, ⟨T109z, L109z, k109z, n109z⟩, -, X109z, ⟨Lc109z, hQ109z, l109z, y109z, z109z⟩, st109z⟩ := X106z.virtualBack hx (y := own_m8) (z := own_m8) hown (mvT hZ (own_hw hw 111 rfl)) (mvT hZ (own_hw hw 112 rfl)) (notFace_of_selects (args := #[]) (mvT hZ (own_hw hw 114 rfl))) (mvT hZ (own_hw hw 114 rfl)) (mvT hZ (own_hw hw 113 rfl)) (by decide) (backOf (W := 0) (own_add1 l Z a0 hw [] b101z r_95z arr_106z kk_106z ([(.ref r_93z), .null, .null, .null, .null, .null, .null, .null, .null, .null]) (1 : Int32) (1 : Int32) (10 : Int32) 1 T106z.heap O107z r106z_0 fr_b101z r106z_1 f108z r106z_4 r106z_3 (by decide) (by show (10 : Int32).toInt = ((10 : Nat) : Int); decide) (by show 1 < 10; decide) ne_b101z_arr_106z r106z_5 r106z_6 r106z_7) hZ (own_hw hw 115 rfl) (own_hw hw 10 rfl) (by decide) (by decide)) qa109z qc109z (g := (mkF m 65 #[.val (.int p0), .val (.int p1), .val (.int p2), .val (.int p3), .val (.int p4), .val (.int (3 : Int32)), .val (.ref r_93z), .val (.ref r_95z), .val (.ref r_97z), .val (.ref r_99z), .val (.ref b101z), .unset, .unset] [(.ref r_95z), (.ref b101z)])) rfl (by rw [hml]; rfl) (Steps.refl _) (argsL := [(.ref r_95z)]) (rest := []) (lenOf pd_396412080 rfl) rfl (by show 2 * 0 + _ ≤ _; exact Nat.le_of_eq rfl) (hb hby at_65) (fun _ _ => ⟨rfl, rfl, (by decide : 6 + 0 ≤ _), (by decide : 17 + 0 ≤ _)⟩)
    dsimp only [Pt.U, Pt.locs, Pt.cells, Pt.slots] at X109z l109z y109z z109z st109z hQ109z
    subst l109z y109z z109z
    obtain ⟨rfl, NQ109z, K109zq, r109z_0, r109z_1, r109z_2, r109z_3, r109z_4⟩ := hQ109z
    refine own_tr st109z ?_
    have N109z := Fr.app N106z NQ109z
    have O110z : Ext Z.heap T109z.heap := own_ext_keep O107z K109zq (allS fr_b101z (allS r106z_1 all0))
    have K110z : Keep h0 T109z.heap [] := K107z.trans K109zq (allS (Or.inr lz_b101z) (allS (Or.inr lz_arr_106z) all0))
    have Sn110z := Nat.le_trans Sn107z K109zq.1
    have r109z_1 : own_A Z T109z.heap arr_106z kk_106z (.object "java/lang/Object") [(.ref r_93z), (.ref r_95z), .null, .null, .null, .null, .null, .null, .null, .null] := r109z_1
    have r109z_2 : Fld Z T109z.heap b101z "java/util/AbstractList" "modCount" "I" (.int (2 : Int32)) := r109z_2
    have r109z_4 : Fld Z T109z.heap b101z "java/util/ArrayList" "size" "I" (.int (2 : Int32)) := r109z_4
    show own_G p e below (T109z.setTop (mkF m 68 #[.val (.int p0), .val (.int p1), .val (.int p2), .val (.int p3), .val (.int p4), .val (.int (3 : Int32)), .val (.ref r_93z), .val (.ref r_95z), .val (.ref r_97z), .val (.ref r_99z), .val (.ref b101z), .unset, .unset] [(.int (1 : Int32))])) _
    refine own_go (fun t k => XS.pop X109z.here hx rfl (hb hby at_68) rfl rfl k) ?_
    refine own_go (fun t k => XS.iload X109z.here hx rfl (hb hby at_69) rfl k) ?_
    refine own_go (fun t k => XS.iconst X109z.here hx rfl (hb hby at_71) k) ?_
    refine own_go (fun t k => XS.icmpNo X109z.here hx rfl (hb hby at_72) rfl (tlt (by decide : (2 : Int32) < (3 : Int32))).2.2.2 k) ?_
    show own_G p e below (T109z.setTop (mkF m 75 #[.val (.int p0), .val (.int p1), .val (.int p2), .val (.int p3), .val (.int p4), .val (.int (3 : Int32)), .val (.ref r_93z), .val (.ref r_95z), .val (.ref r_97z), .val (.ref r_99z), .val (.ref b101z), .unset, .unset] [])) _
    refine own_go (fun t k => XS.aload X109z.here hx rfl (hb hby at_75) rfl rfl k) ?_
    refine own_go (fun t k => XS.aload X109z.here hx rfl (hb hby at_77) rfl rfl k) ?_
    have f111z := (((((r97z_0.keep K99zq).ext E101z).keep K103zq).keep K106zq).keep K109zq)
    obtain ⟨cq112z, kq112z, qa112z, qb112z, qc112z⟩ := isOf hZ (rfl : T109z.heap = _) r109z_0
    obtain ⟨_, _, ⟨T112z, L112z, k112z, n112z⟩, -, X112z, ⟨Lc112z, hQ112z, l112z, y112z, z112z⟩, st112z⟩ := X109z.virtualBack hx (y := own_m8) (z := own_m8) hown (mvT hZ (own_hw hw 111 rfl)) (mvT hZ (own_hw hw 112 rfl)) (notFace_of_selects (args := #[]) (mvT hZ (own_hw hw 114 rfl))) (mvT hZ (own_hw hw 114 rfl)) (mvT hZ (own_hw hw 113 rfl)) (by decide) (backOf (W := 0) (own_add1 l Z a0 hw [] b101z r_97z arr_106z kk_106z ([(.ref r_93z), (.ref r_95z), .null, .null, .null, .null, .null, .null, .null, .null]) (2 : Int32) (2 : Int32) (10 : Int32) 2 T109z.heap O110z r109z_0 fr_b101z r106z_1 f111z r109z_1 r106z_3 (by decide) (by show (10 : Int32).toInt = ((10 : Nat) : Int); decide) (by show 2 < 10; decide) ne_b101z_arr_106z r109z_2 r109z_3 r109z_4) hZ (own_hw hw 115 rfl) (own_hw hw 10 rfl) (by decide) (by decide)) qa112z qc112z (g := (mkF m 79 #[.val (.int p0), .val (.int p1), .val (.int p2), .val (.int p3), .val (.int p4), .val (.int (3 : Int32)), .val (.ref r_93z), .val (.ref r_95z), .val (.ref r_97z), .val (.ref r_99z), .val (.ref b101z), .unset, .unset] [(.ref r_97z), (.ref b101z)])) rfl (by rw [hml]; rfl) (Steps.refl _) (argsL := [(.ref r_97z)]) (rest := []) (lenOf pd_396412080 rfl) rfl (by show 2 * 0 + _ ≤ _; exact Nat.le_of_eq rfl) (hb hby at_79) (fun _ _ => ⟨rfl, rfl, (by decide : 6 + 0 ≤ _), (by decide : 17 + 0 ≤ _)⟩)
    dsimp only [Pt.U, Pt.locs, Pt.cells, Pt.slots] at X112z l112z y112z z112z st112z hQ112z
    subst l112z y112z z112z
    obtain ⟨rfl, NQ112z, K112zq, r112z_0, r112z_1, r112z_2, r112z_3, r112z_4⟩ := hQ112z
    refine own_tr st112z ?_
    have N112z := Fr.app N109z NQ112z
    have O113z : Ext Z.heap T112z.heap := own_ext_keep O110z K112zq (allS fr_b101z (allS r106z_1 all0))
    have K113z : Keep h0 T112z.heap [] := K110z.trans K112zq (allS (Or.inr lz_b101z) (allS (Or.inr lz_arr_106z) all0))
    have Sn113z := Nat.le_trans Sn110z K112zq.1
    have r112z_1 : own_A Z T112z.heap arr_106z kk_106z (.object "java/lang/Object") [(.ref r_93z), (.ref r_95z), (.ref r_97z), .null, .null, .null, .null, .null, .null, .null] := r112z_1
    have r112z_2 : Fld Z T112z.heap b101z "java/util/AbstractList" "modCount" "I" (.int (3 : Int32)) := r112z_2
    have r112z_4 : Fld Z T112z.heap b101z "java/util/ArrayList" "size" "I" (.int (3 : Int32)) := r112z_4
    show own_G p e below (T112z.setTop (mkF m 82 #[.val (.int p0), .val (.int p1), .val (.int p2), .val (.int p3), .val (.int p4), .val (.int (3 : Int32)), .val (.ref r_93z), .val (.ref r_95z), .val (.ref r_97z), .val (.ref r_99z), .val (.ref b101z), .unset, .unset] [(.int (1 : Int32))])) _
    refine own_go (fun t k => XS.pop X112z.here hx rfl (hb hby at_82) rfl rfl k) ?_
    refine own_go (fun t k => XS.iload X112z.here hx rfl (hb hby at_83) rfl k) ?_
    refine own_go (fun t k => XS.iconst X112z.here hx rfl (hb hby at_85) k) ?_
    refine own_go (fun t k => XS.icmpYes X112z.here hx rfl (pc0 := 86) (pc' := 97) rfl (hb hby at_86) rfl (flt (by decide : ¬ ((3 : Int32) < (3 : Int32)))).2.2.2 (by decide) (by decide) k) ?_
    show own_G p e below (T112z.setTop (mkF m 97 #[.val (.int p0), .val (.int p1), .val (.int p2), .val (.int p3), .val (.int p4), .val (.int (3 : Int32)), .val (.ref r_93z), .val (.ref r_95z), .val (.ref r_97z), .val (.ref r_99z), .val (.ref b101z), .unset, .unset] [])) _
    refine own_go (fun t k => XS.aload X112z.here hx rfl (hb hby at_97) rfl rfl k) ?_
    have f114z := (((((r99z_0.ext E101z).keep K103zq).keep K106zq).keep K109zq).keep K112zq)
    obtain ⟨_, _, ⟨T115z, L115z, k115z, n115z⟩, -, X115z, Si115z, gr115z, ⟨Lc115z, hQ115z, l115z, y115z, z115z⟩, st115z⟩ := callSS X112z hx (y := own_m20) hown (mvT hZ (own_hw hw 34 rfl)) (mvT hZ (own_hw hw 35 rfl)) (mvT hZ (own_hw hw 36 rfl)) (mvT hZ (own_hw hw 37 rfl)) (by decide) (backOfS (W := 0) (own_copy3 l Z a0 hw [] b101z (3 : Int32) r_93z r_95z r_97z arr_106z kk_106z T112z.heap O113z r112z_1 r112z_0 (((f105z.keep K106zq).keep K109zq).keep K112zq) ((f108z.keep K109zq).keep K112zq) (f111z.keep K112zq) r112z_2 r112z_3 r112z_4) hZ (own_hw hw 37 rfl) (own_hw hw 36 rfl) (by decide) (by decide)) (g := (mkF m 99 #[.val (.int p0), .val (.int p1), .val (.int p2), .val (.int p3), .val (.int p4), .val (.int (3 : Int32)), .val (.ref r_93z), .val (.ref r_95z), .val (.ref r_97z), .val (.ref r_99z), .val (.ref b101z), .unset, .unset] [(.ref b101z)])) rfl (by rw [hml]; rfl) (argsL := [(.ref b101z)]) (rest := []) (lenOf pd_548093608 rfl) rfl (by show 2 * 0 + _ ≤ _; exact Nat.le_of_eq rfl) (hb hby at_99) (fun _ _ => ⟨rfl, rfl, (by decide : 6 + 11 ≤ _), (by decide : 17 + 310 ≤ _)⟩)
    dsimp only [Pt.U, Pt.locs, Pt.cells, Pt.slots] at X115z l115z y115z z115z st115z hQ115z Si115z gr115z
    subst l115z y115z z115z
    obtain ⟨r_115z, ar_115z, kr_115z, rfl, NQ115z, K115zq, r115z_0, r115z_1, r115z_2, r115z_3, r115z_4, r115z_5, r115z_6⟩ := hQ115z
    refine own_tr st115z ?_
    have N115z := Fr.app N112z NQ115z
    have Sx115z : s.Since T115z.vm T115z.heap.size := foldS Si0 (by first | exact Sn113z | (rw [Nat.add_zero]; exact Sn113z)) Si115z gr115z
    have hZ115z : Z.Warmed39 (s.setVm T115z.vm).vm := State.Warmed39.trans (t := s.setVm s.vm) hZ Si115z.1
    have hown115z : (s.setVm T115z.vm).vm.findClass "com/example/etapa/etapa/mongodb/EntityBatchCopyOfPinLaw" = some m.cls := by rw [show (s.setVm T115z.vm).vm = T115z.vm from rfl, Si115z.1.alike.findClass]; exact hown
    have X115z := (show Stand _ _ _ _ (s.setVm T115z.vm) _ _ _ _ _ _ _ _ _ from X115z)
    have Sn115z : T115z.heap.size ≤ T115z.heap.size := Nat.le_refl _
    have O116z : Ext Z.heap T115z.heap := own_ext_keep O113z K115zq all0
    have K116z : Keep h0 T115z.heap [] := K113z.trans K115zq all0
    have lz_r_115z : h0.size ≤ r_115z := Nat.le_trans K113z.1 r115z_1
    have ne_r_93z_r_115z : r_93z ≠ r_115z := Nat.ne_of_lt (Nat.lt_of_lt_of_le (((f105z.keep K106zq).keep K109zq).keep K112zq).lt r115z_1)
    have ne_r_95z_r_115z : r_95z ≠ r_115z := Nat.ne_of_lt (Nat.lt_of_lt_of_le ((f108z.keep K109zq).keep K112zq).lt r115z_1)
    have ne_r_97z_r_115z : r_97z ≠ r_115z := Nat.ne_of_lt (Nat.lt_of_lt_of_le (f111z.keep K112zq).lt r115z_1)
    have ne_r_99z_r_115z : r_99z ≠ r_115z := Nat.ne_of_lt (Nat.lt_of_lt_of_le f114z.lt r115z_1)
    have ne_b101z_r_115z : b101z ≠ r_115z := Nat.ne_of_lt (Nat.lt_of_lt_of_le r112z_0.lt r115z_1)
    have ne_arr_106z_r_115z : arr_106z ≠ r_115z := Nat.ne_of_lt (Nat.lt_of_lt_of_le r112z_1.lt r115z_1)
    have lz_ar_115z : h0.size ≤ ar_115z := Nat.le_trans K113z.1 r115z_6
    have ne_r_93z_ar_115z : r_93z ≠ ar_115z := Nat.ne_of_lt (Nat.lt_of_lt_of_le (((f105z.keep K106zq).keep K109zq).keep K112zq).lt r115z_6)
    have ne_r_95z_ar_115z : r_95z ≠ ar_115z := Nat.ne_of_lt (Nat.lt_of_lt_of_le ((f108z.keep K109zq).keep K112zq).lt r115z_6)
    have ne_r_97z_ar_115z : r_97z ≠ ar_115z := Nat.ne_of_lt (Nat.lt_of_lt_of_le (f111z.keep K112zq).lt r115z_6)
    have ne_r_99z_ar_115z : r_99z ≠ ar_115z := Nat.ne_of_lt (Nat.lt_of_lt_of_le f114z.lt r115z_6)
    have ne_b101z_ar_115z : b101z ≠ ar_115z := Nat.ne_of_lt (Nat.lt_of_lt_of_le r112z_0.lt r115z_6)
    have ne_arr_106z_ar_115z : arr_106z ≠ ar_115z := Nat.ne_of_lt (Nat.lt_of_lt_of_le r112z_1.lt r115z_6)
    show own_G p e below (T115z.setTop (mkF m 102 #[.val (.int p0), .val (.int p1), .val (.int p2), .val (.int p3), .val (.int p4), .val (.int (3 : Int32)), .val (.ref r_93z), .val (.ref r_95z), .val (.ref r_97z), .val (.ref r_99z), .val (.ref b101z), .unset, .unset] [(.ref r_115z)])) _
    refine own_go (fun t k => XS.astore X115z.here hx rfl (hb hby at_102) rfl rfl (l' := #[.val (.int p0), .val (.int p1), .val (.int p2), .val (.int p3), .val (.int p4), .val (.int (3 : Int32)), .val (.ref r_93z), .val (.ref r_95z), .val (.ref r_97z), .val (.ref r_99z), .val (.ref b101z), .val (.ref r_115z), .unset]) rfl k) ?_
    refine own_go (fun t k => XS.aload X115z.here hx rfl (hb hby at_104) rfl rfl k) ?_
    refine own_go (fun t k => XS.aload X115z.here hx rfl (hb hby at_106) rfl rfl k) ?_
    refine own_go (fun t k => Jvm.RoadKit.acmp (g := (mkF m 108 #[.val (.int p0), .val (.int p1), .val (.int p2), .val (.int p3), .val (.int p4), .val (.int (3 : Int32)), .val (.ref r_93z), .val (.ref r_95z), .val (.ref r_97z), .val (.ref r_99z), .val (.ref b101z), .val (.ref r_115z), .unset] [(.ref b101z), (.ref r_115z)])) X115z hx rfl rfl rfl (pc0 := 108) (pc' := 111) (same := false) rfl (hb hby at_108) rfl (decide_eq_false fun q => (Ne.symm ne_b101z_r_115z) (Value.ref.inj q)) (by decide) (by decide) k) ?_
    show own_G p e below (T115z.setTop (mkF m 111 #[.val (.int p0), .val (.int p1), .val (.int p2), .val (.int p3), .val (.int p4), .val (.int (3 : Int32)), .val (.ref r_93z), .val (.ref r_95z), .val (.ref r_97z), .val (.ref r_99z), .val (.ref b101z), .val (.ref r_115z), .unset] [])) _
    refine own_go (fun t k => XS.aload X115z.here hx rfl (hb hby at_111) rfl rfl k) ?_
    obtain ⟨cq117z, kq117z, qa117z, qb117z, qc117z⟩ := isOf hZ115z (rfl : T115z.heap = _) r115z_0
    obtain ⟨_, _, ⟨T117z, L117z, k117z, n117z⟩, -, X117z, ⟨Lc117z, hQ117z, l117z, y117z, z117z⟩, st117z⟩ := X115z.interfaceBack hx (xi := own_m31) (y := own_m9) hown115z (mvT hZ115z (own_hw hw 102 rfl)) (mvT hZ115z (own_hw hw 103 rfl)) (mvT hZ115z (own_hw hw 104 rfl)) (mvT hZ115z (own_hw hw 105 rfl)) (mvT hZ115z (own_hw hw 55 rfl)) (mvT hZ115z (own_hw hw 56 rfl)) (mvT hZ115z (own_hw hw 57 rfl)) (mvT hZ115z (own_hw hw 106 rfl)) (by decide) (backOf (W := 0) (own_size l Z a0 hw [] r_115z (3 : Int32) T115z.heap O116z r115z_5) hZ115z (own_hw hw 59 rfl) (own_hw hw 10 rfl) (by decide) (by decide)) qa117z qb117z qc117z (g := (mkF m 113 #[.val (.int p0), .val (.int p1), .val (.int p2), .val (.int p3), .val (.int p4), .val (.int (3 : Int32)), .val (.ref r_93z), .val (.ref r_95z), .val (.ref r_97z), .val (.ref r_99z), .val (.ref b101z), .val (.ref r_115z), .unset] [(.ref r_115z)])) rfl (by rw [hml]; rfl) (Steps.refl _) (argsL := []) (rest := []) (lenOf pd_193421983 rfl) rfl (by show 2 * 0 + _ ≤ _; exact Nat.le_of_eq rfl) (hb hby at_113) (fun _ _ => ⟨rfl, rfl, (by decide : 17 + 0 ≤ _), (by decide : 327 + 0 ≤ _)⟩)
    dsimp only [Pt.U, Pt.locs, Pt.cells, Pt.slots] at X117z l117z y117z z117z st117z hQ117z
    subst l117z y117z z117z
    obtain ⟨rfl, NQ117z, K117zq⟩ := hQ117z
    refine own_tr st117z ?_
    have N117z := Fr.app N115z NQ117z
    show own_G p e below (T117z.setTop (mkF m 118 #[.val (.int p0), .val (.int p1), .val (.int p2), .val (.int p3), .val (.int p4), .val (.int (3 : Int32)), .val (.ref r_93z), .val (.ref r_95z), .val (.ref r_97z), .val (.ref r_99z), .val (.ref b101z), .val (.ref r_115z), .unset] [(.int (3 : Int32))])) _
    refine own_go (fun t k => XS.iload X117z.here hx rfl (hb hby at_118) rfl k) ?_
    refine own_go (fun t k => XS.icmpNo X117z.here hx rfl (hb hby at_120) rfl (teq (by decide : (3 : Int32) = (3 : Int32))).2 k) ?_
    show own_G p e below (T117z.setTop (mkF m 123 #[.val (.int p0), .val (.int p1), .val (.int p2), .val (.int p3), .val (.int p4), .val (.int (3 : Int32)), .val (.ref r_93z), .val (.ref r_95z), .val (.ref r_97z), .val (.ref r_99z), .val (.ref b101z), .val (.ref r_115z), .unset] [])) _
    refine own_go (fun t k => XS.aload X117z.here hx rfl (hb hby at_123) rfl rfl k) ?_
    refine own_go (fun t k => XS.iconst X117z.here hx rfl (hb hby at_125) k) ?_
    refine own_go (fun t k => XS.aload X117z.here hx rfl (hb hby at_126) rfl rfl k) ?_
    refine own_go (fun t k => XS.iload X117z.here hx rfl (hb hby at_128) rfl k) ?_
    show own_G p e below (T117z.setTop (mkF m 130 #[.val (.int p0), .val (.int p1), .val (.int p2), .val (.int p3), .val (.int p4), .val (.int (3 : Int32)), .val (.ref r_93z), .val (.ref r_95z), .val (.ref r_97z), .val (.ref r_99z), .val (.ref b101z), .val (.ref r_115z), .unset] [(.int (3 : Int32)), (.ref r_93z), (.int (0 : Int32)), (.ref r_115z)])) _
    obtain ⟨_, _, ⟨T118z, L118z, k118z, n118z⟩, -, X118z, ⟨Lc118z, hQ118z, l118z, y118z, z118z⟩, st118z⟩ := Jvm.LawKit.callS X117z hx (y := own_m26) hown115z (mvT hZ115z (own_hw hw 107 rfl)) (mvT hZ115z (own_hw hw 108 rfl)) (mvT hZ115z (own_hw hw 109 rfl)) (mvT hZ115z (own_hw hw 110 rfl)) (by decide) (backOf (W := 0) (own_at3_0 l Z a0 hw [] r_115z r_93z ar_115z kr_115z ([(.ref r_93z), (.ref r_95z), (.ref r_97z)]) T115z.heap O116z r115z_0 r115z_4 r115z_2 r115z_5 rfl) hZ115z (own_hw hw 110 rfl) (own_hw hw 109 rfl) (by decide) (by decide)) (g := (mkF m 130 #[.val (.int p0), .val (.int p1), .val (.int p2), .val (.int p3), .val (.int p4), .val (.int (3 : Int32)), .val (.ref r_93z), .val (.ref r_95z), .val (.ref r_97z), .val (.ref r_99z), .val (.ref b101z), .val (.ref r_115z), .unset] [(.int (3 : Int32)), (.ref r_93z), (.int (0 : Int32)), (.ref r_115z)])) rfl (by rw [hml]; rfl) (argsL := [(.ref r_115z), (.int (0 : Int32)), (.ref r_93z), (.int (3 : Int32))]) (rest := []) (lenOf pd_2223509722 rfl) rfl (by show 2 * 0 + _ ≤ _; exact Nat.le_of_eq rfl) (hb hby at_130) (fun _ _ => ⟨rfl, K117zq, (by decide : 17 + 0 ≤ _), (by decide : 327 + 0 ≤ _)⟩)
    dsimp only [Pt.U, Pt.locs, Pt.cells, Pt.slots] at X118z l118z y118z z118z st118z hQ118z
    subst l118z y118z z118z
    obtain ⟨rfl, NQ118z, K118zq⟩ := hQ118z
    refine own_go st118z ?_
    have N118z := Fr.app N117z NQ118z
    show own_G p e below (T118z.setTop (mkF m 133 #[.val (.int p0), .val (.int p1), .val (.int p2), .val (.int p3), .val (.int p4), .val (.int (3 : Int32)), .val (.ref r_93z), .val (.ref r_95z), .val (.ref r_97z), .val (.ref r_99z), .val (.ref b101z), .val (.ref r_115z), .unset] [(.int (1 : Int32))])) _
    refine own_go (fun t k => XS.ifNo X118z.here hx rfl (hb hby at_133) rfl ((if0 _ _).trans (feq (by decide : ¬ ((1 : Int32) = (0 : Int32)))).1) k) ?_
    show own_G p e below (T118z.setTop (mkF m 136 #[.val (.int p0), .val (.int p1), .val (.int p2), .val (.int p3), .val (.int p4), .val (.int (3 : Int32)), .val (.ref r_93z), .val (.ref r_95z), .val (.ref r_97z), .val (.ref r_99z), .val (.ref b101z), .val (.ref r_115z), .unset] [])) _
    refine own_go (fun t k => XS.aload X118z.here hx rfl (hb hby at_136) rfl rfl k) ?_
    refine own_go (fun t k => XS.iconst X118z.here hx rfl (hb hby at_138) k) ?_
    refine own_go (fun t k => XS.aload X118z.here hx rfl (hb hby at_139) rfl rfl k) ?_
    refine own_go (fun t k => XS.iload X118z.here hx rfl (hb hby at_141) rfl k) ?_
    show own_G p e below (T118z.setTop (mkF m 143 #[.val (.int p0), .val (.int p1), .val (.int p2), .val (.int p3), .val (.int p4), .val (.int (3 : Int32)), .val (.ref r_93z), .val (.ref r_95z), .val (.ref r_97z), .val (.ref r_99z), .val (.ref b101z), .val (.ref r_115z), .unset] [(.int (3 : Int32)), (.ref r_95z), (.int (1 : Int32)), (.ref r_115z)])) _
    obtain ⟨_, _, ⟨T119z, L119z, k119z, n119z⟩, -, X119z, ⟨Lc119z, hQ119z, l119z, y119z, z119z⟩, st119z⟩ := Jvm.LawKit.callS X118z hx (y := own_m26) hown115z (mvT hZ115z (own_hw hw 107 rfl)) (mvT hZ115z (own_hw hw 108 rfl)) (mvT hZ115z (own_hw hw 109 rfl)) (mvT hZ115z (own_hw hw 110 rfl)) (by decide) (backOf (W := 0) (own_at3_1 l Z a0 hw [] r_115z r_95z ar_115z kr_115z ([(.ref r_93z), (.ref r_95z), (.ref r_97z)]) T115z.heap O116z r115z_0 r115z_4 r115z_2 r115z_5 rfl) hZ115z (own_hw hw 110 rfl) (own_hw hw 109 rfl) (by decide) (by decide)) (g := (mkF m 143 #[.val (.int p0), .val (.int p1), .val (.int p2), .val (.int p3), .val (.int p4), .val (.int (3 : Int32)), .val (.ref r_93z), .val (.ref r_95z), .val (.ref r_97z), .val (.ref r_99z), .val (.ref b101z), .val (.ref r_115z), .unset] [(.int (3 : Int32)), (.ref r_95z), (.int (1 : Int32)), (.ref r_115z)])) rfl (by rw [hml]; rfl) (argsL := [(.ref r_115z), (.int (1 : Int32)), (.ref r_95z), (.int (3 : Int32))]) (rest := []) (lenOf pd_2223509722 rfl) rfl (by show 2 * 0 + _ ≤ _; exact Nat.le_of_eq rfl) (hb hby at_143) (fun _ _ => ⟨rfl, K118zq, (by decide : 17 + 0 ≤ _), (by decide : 327 + 0 ≤ _)⟩)
    dsimp only [Pt.U, Pt.locs, Pt.cells, Pt.slots] at X119z l119z y119z z119z st119z hQ119z
    subst l119z y119z z119z
    obtain ⟨rfl, NQ119z, K119zq⟩ := hQ119z
    refine own_go st119z ?_
    have N119z := Fr.app N118z NQ119z
    show own_G p e below (T119z.setTop (mkF m 146 #[.val (.int p0), .val (.int p1), .val (.int p2), .val (.int p3), .val (.int p4), .val (.int (3 : Int32)), .val (.ref r_93z), .val (.ref r_95z), .val (.ref r_97z), .val (.ref r_99z), .val (.ref b101z), .val (.ref r_115z), .unset] [(.int (1 : Int32))])) _
    refine own_go (fun t k => XS.ifNo X119z.here hx rfl (hb hby at_146) rfl ((if0 _ _).trans (feq (by decide : ¬ ((1 : Int32) = (0 : Int32)))).1) k) ?_
    show own_G p e below (T119z.setTop (mkF m 149 #[.val (.int p0), .val (.int p1), .val (.int p2), .val (.int p3), .val (.int p4), .val (.int (3 : Int32)), .val (.ref r_93z), .val (.ref r_95z), .val (.ref r_97z), .val (.ref r_99z), .val (.ref b101z), .val (.ref r_115z), .unset] [])) _
    refine own_go (fun t k => XS.aload X119z.here hx rfl (hb hby at_149) rfl rfl k) ?_
    refine own_go (fun t k => XS.iconst X119z.here hx rfl (hb hby at_151) k) ?_
    refine own_go (fun t k => XS.aload X119z.here hx rfl (hb hby at_152) rfl rfl k) ?_
    refine own_go (fun t k => XS.iload X119z.here hx rfl (hb hby at_154) rfl k) ?_
    show own_G p e below (T119z.setTop (mkF m 156 #[.val (.int p0), .val (.int p1), .val (.int p2), .val (.int p3), .val (.int p4), .val (.int (3 : Int32)), .val (.ref r_93z), .val (.ref r_95z), .val (.ref r_97z), .val (.ref r_99z), .val (.ref b101z), .val (.ref r_115z), .unset] [(.int (3 : Int32)), (.ref r_97z), (.int (2 : Int32)), (.ref r_115z)])) _
    obtain ⟨_, _, ⟨T120z, L120z, k120z, n120z⟩, -, X120z, ⟨Lc120z, hQ120z, l120z, y120z, z120z⟩, st120z⟩ := Jvm.LawKit.callS X119z hx (y := own_m26) hown115z (mvT hZ115z (own_hw hw 107 rfl)) (mvT hZ115z (own_hw hw 108 rfl)) (mvT hZ115z (own_hw hw 109 rfl)) (mvT hZ115z (own_hw hw 110 rfl)) (by decide) (backOf (W := 0) (own_at3_2 l Z a0 hw [] r_115z r_97z ar_115z kr_115z ([(.ref r_93z), (.ref r_95z), (.ref r_97z)]) T115z.heap O116z r115z_0 r115z_4 r115z_2 r115z_5 rfl) hZ115z (own_hw hw 110 rfl) (own_hw hw 109 rfl) (by decide) (by decide)) (g := (mkF m 156 #[.val (.int p0), .val (.int p1), .val (.int p2), .val (.int p3), .val (.int p4), .val (.int (3 : Int32)), .val (.ref r_93z), .val (.ref r_95z), .val (.ref r_97z), .val (.ref r_99z), .val (.ref b101z), .val (.ref r_115z), .unset] [(.int (3 : Int32)), (.ref r_97z), (.int (2 : Int32)), (.ref r_115z)])) rfl (by rw [hml]; rfl) (argsL := [(.ref r_115z), (.int (2 : Int32)), (.ref r_97z), (.int (3 : Int32))]) (rest := []) (lenOf pd_2223509722 rfl) rfl (by show 2 * 0 + _ ≤ _; exact Nat.le_of_eq rfl) (hb hby at_156) (fun _ _ => ⟨rfl, K119zq, (by decide : 17 + 0 ≤ _), (by decide : 327 + 0 ≤ _)⟩)
    dsimp only [Pt.U, Pt.locs, Pt.cells, Pt.slots] at X120z l120z y120z z120z st120z hQ120z
    subst l120z y120z z120z
    obtain ⟨rfl, NQ120z, K120zq⟩ := hQ120z
    refine own_go st120z ?_
    have N120z := Fr.app N119z NQ120z
    show own_G p e below (T120z.setTop (mkF m 159 #[.val (.int p0), .val (.int p1), .val (.int p2), .val (.int p3), .val (.int p4), .val (.int (3 : Int32)), .val (.ref r_93z), .val (.ref r_95z), .val (.ref r_97z), .val (.ref r_99z), .val (.ref b101z), .val (.ref r_115z), .unset] [(.int (1 : Int32))])) _
    refine own_go (fun t k => XS.ifNo X120z.here hx rfl (hb hby at_159) rfl ((if0 _ _).trans (feq (by decide : ¬ ((1 : Int32) = (0 : Int32)))).1) k) ?_
    show own_G p e below (T120z.setTop (mkF m 162 #[.val (.int p0), .val (.int p1), .val (.int p2), .val (.int p3), .val (.int p4), .val (.int (3 : Int32)), .val (.ref r_93z), .val (.ref r_95z), .val (.ref r_97z), .val (.ref r_99z), .val (.ref b101z), .val (.ref r_115z), .unset] [])) _
    refine own_go (fun t k => XS.aload X120z.here hx rfl (hb hby at_162) rfl rfl k) ?_
    refine own_go (fun t k => XS.iconst X120z.here hx rfl (hb hby at_164) k) ?_
    refine own_go (fun t k => XS.aload X120z.here hx rfl (hb hby at_165) rfl rfl k) ?_
    refine own_go (fun t k => XS.iload X120z.here hx rfl (hb hby at_167) rfl k) ?_
    show own_G p e below (T120z.setTop (mkF m 169 #[.val (.int p0), .val (.int p1), .val (.int p2), .val (.int p3), .val (.int p4), .val (.int (3 : Int32)), .val (.ref r_93z), .val (.ref r_95z), .val (.ref r_97z), .val (.ref r_99z), .val (.ref b101z), .val (.ref r_115z), .unset] [(.int (3 : Int32)), (.ref r_99z), (.int (3 : Int32)), (.ref r_115z)])) _
    obtain ⟨_, _, ⟨T121z, L121z, k121z, n121z⟩, -, X121z, ⟨Lc121z, hQ121z, l121z, y121z, z121z⟩, st121z⟩ := Jvm.LawKit.callS X120z hx (y := own_m26) hown115z (mvT hZ115z (own_hw hw 107 rfl)) (mvT hZ115z (own_hw hw 108 rfl)) (mvT hZ115z (own_hw hw 109 rfl)) (mvT hZ115z (own_hw hw 110 rfl)) (by decide) (backOf (W := 0) (own_at3_3 l Z a0 hw [] r_115z r_99z T115z.heap O116z) hZ115z (own_hw hw 110 rfl) (own_hw hw 109 rfl) (by decide) (by decide)) (g := (mkF m 169 #[.val (.int p0), .val (.int p1), .val (.int p2), .val (.int p3), .val (.int p4), .val (.int (3 : Int32)), .val (.ref r_93z), .val (.ref r_95z), .val (.ref r_97z), .val (.ref r_99z), .val (.ref b101z), .val (.ref r_115z), .unset] [(.int (3 : Int32)), (.ref r_99z), (.int (3 : Int32)), (.ref r_115z)])) rfl (by rw [hml]; rfl) (argsL := [(.ref r_115z), (.int (3 : Int32)), (.ref r_99z), (.int (3 : Int32))]) (rest := []) (lenOf pd_2223509722 rfl) rfl (by show 2 * 0 + _ ≤ _; exact Nat.le_of_eq rfl) (hb hby at_169) (fun _ _ => ⟨rfl, K120zq, (by decide : 17 + 0 ≤ _), (by decide : 327 + 0 ≤ _)⟩)
    dsimp only [Pt.U, Pt.locs, Pt.cells, Pt.slots] at X121z l121z y121z z121z st121z hQ121z
    subst l121z y121z z121z
    obtain ⟨rfl, NQ121z, K121zq⟩ := hQ121z
    refine own_go st121z ?_
    have N121z := Fr.app N120z NQ121z
    show own_G p e below (T121z.setTop (mkF m 172 #[.val (.int p0), .val (.int p1), .val (.int p2), .val (.int p3), .val (.int p4), .val (.int (3 : Int32)), .val (.ref r_93z), .val (.ref r_95z), .val (.ref r_97z), .val (.ref r_99z), .val (.ref b101z), .val (.ref r_115z), .unset] [(.int (1 : Int32))])) _
    refine own_go (fun t k => XS.ifNo X121z.here hx rfl (hb hby at_172) rfl ((if0 _ _).trans (feq (by decide : ¬ ((1 : Int32) = (0 : Int32)))).1) k) ?_
    show own_G p e below (T121z.setTop (mkF m 175 #[.val (.int p0), .val (.int p1), .val (.int p2), .val (.int p3), .val (.int p4), .val (.int (3 : Int32)), .val (.ref r_93z), .val (.ref r_95z), .val (.ref r_97z), .val (.ref r_99z), .val (.ref b101z), .val (.ref r_115z), .unset] [])) _
    refine own_go (fun t k => XS.iconst X121z.here hx rfl (hb hby at_175) k) ?_
    refine own_go (fun t k => XS.goto X121z.here hx rfl (pc0 := 176) (pc' := 180) rfl (hb hby at_176) (by decide) (by decide) k) ?_
    show own_G p e below (T121z.setTop (mkF m 180 #[.val (.int p0), .val (.int p1), .val (.int p2), .val (.int p3), .val (.int p4), .val (.int (3 : Int32)), .val (.ref r_93z), .val (.ref r_95z), .val (.ref r_97z), .val (.ref r_99z), .val (.ref b101z), .val (.ref r_115z), .unset] [(.int (1 : Int32))])) _
    refine own_go (fun t k => XS.istore X121z.here hx rfl (hb hby at_180) rfl (l' := #[.val (.int p0), .val (.int p1), .val (.int p2), .val (.int p3), .val (.int p4), .val (.int (3 : Int32)), .val (.ref r_93z), .val (.ref r_95z), .val (.ref r_97z), .val (.ref r_99z), .val (.ref b101z), .val (.ref r_115z), .val (.int (1 : Int32))]) rfl k) ?_
    refine own_go (fun t k => XS.aload X121z.here hx rfl (hb hby at_182) rfl rfl k) ?_
    refine own_go (fun t k => XS.aload X121z.here hx rfl (hb hby at_184) rfl rfl k) ?_
    obtain ⟨cq122z, kq122z, qa122z, qb122z, qc122z⟩ := isOf hZ115z K121zq (r112z_0.keep K115zq)
    obtain ⟨_, _, ⟨T122z, L122z, k122z, n122z⟩, -, X122z, ⟨Lc122z, hQ122z, l122z, y122z, z122z⟩, st122z⟩ := X121z.virtualBack hx (y := own_m8) (z := own_m8) hown115z (mvT hZ115z (own_hw hw 111 rfl)) (mvT hZ115z (own_hw hw 112 rfl)) (notFace_of_selects (args := #[]) (mvT hZ115z (own_hw hw 114 rfl))) (mvT hZ115z (own_hw hw 114 rfl)) (mvT hZ115z (own_hw hw 113 rfl)) (by decide) (backOf (W := 0) (own_add1 l Z a0 hw [] b101z r_95z arr_106z kk_106z ([(.ref r_93z), (.ref r_95z), (.ref r_97z), .null, .null, .null, .null, .null, .null, .null]) (3 : Int32) (3 : Int32) (10 : Int32) 3 T115z.heap O116z (r112z_0.keep K115zq) fr_b101z r106z_1 (((f108z.keep K109zq).keep K112zq).keep K115zq) (r112z_1.keep K115zq (by simp)) r106z_3 (by decide) (by show (10 : Int32).toInt = ((10 : Nat) : Int); decide) (by show 3 < 10; decide) ne_b101z_arr_106z (r112z_2.keep K115zq (by simp)) (r112z_3.keep K115zq (by simp)) (r112z_4.keep K115zq (by simp))) hZ115z (own_hw hw 115 rfl) (own_hw hw 10 rfl) (by decide) (by decide)) qa122z qc122z (g := (mkF m 186 #[.val (.int p0), .val (.int p1), .val (.int p2), .val (.int p3), .val (.int p4), .val (.int (3 : Int32)), .val (.ref r_93z), .val (.ref r_95z), .val (.ref r_97z), .val (.ref r_99z), .val (.ref b101z), .val (.ref r_115z), .val (.int (1 : Int32))] [(.ref r_95z), (.ref b101z)])) rfl (by rw [hml]; rfl) (Steps.refl _) (argsL := [(.ref r_95z)]) (rest := []) (lenOf pd_396412080 rfl) rfl (by show 2 * 0 + _ ≤ _; exact Nat.le_of_eq rfl) (hb hby at_186) (fun _ _ => ⟨rfl, K121zq, (by decide : 17 + 0 ≤ _), (by decide : 327 + 0 ≤ _)⟩)
    dsimp only [Pt.U, Pt.locs, Pt.cells, Pt.slots] at X122z l122z y122z z122z st122z hQ122z
    subst l122z y122z z122z
    obtain ⟨rfl, NQ122z, K122zq, r122z_0, r122z_1, r122z_2, r122z_3, r122z_4⟩ := hQ122z
    refine own_tr st122z ?_
    have N122z := Fr.app N121z NQ122z
    have O123z : Ext Z.heap T122z.heap := own_ext_keep O116z K122zq (allS fr_b101z (allS r106z_1 all0))
    have K123z : Keep h0 T122z.heap [] := K116z.trans K122zq (allS (Or.inr lz_b101z) (allS (Or.inr lz_arr_106z) all0))
    have Sn123z := Nat.le_trans Sn115z K122zq.1
    have r122z_1 : own_A Z T122z.heap arr_106z kk_106z (.object "java/lang/Object") [(.ref r_93z), (.ref r_95z), (.ref r_97z), (.ref r_95z), .null, .null, .null, .null, .null, .null] := r122z_1
    have r122z_2 : Fld Z T122z.heap b101z "java/util/AbstractList" "modCount" "I" (.int (4 : Int32)) := r122z_2
    have r122z_4 : Fld Z T122z.heap b101z "java/util/ArrayList" "size" "I" (.int (4 : Int32)) := r122z_4
    show own_G p e below (T122z.setTop (mkF m 189 #[.val (.int p0), .val (.int p1), .val (.int p2), .val (.int p3), .val (.int p4), .val (.int (3 : Int32)), .val (.ref r_93z), .val (.ref r_95z), .val (.ref r_97z), .val (.ref r_99z), .val (.ref b101z), .val (.ref r_115z), .val (.int (1 : Int32))] [(.int (1 : Int32))])) _
    refine own_go (fun t k => XS.pop X122z.here hx rfl (hb hby at_189) rfl rfl k) ?_
    refine own_go (fun t k => XS.iload X122z.here hx rfl (hb hby at_190) rfl k) ?_
    refine own_go (fun t k => XS.ifNo X122z.here hx rfl (hb hby at_192) rfl ((if0 _ _).trans (feq (by decide : ¬ ((1 : Int32) = (0 : Int32)))).1) k) ?_
    show own_G p e below (T122z.setTop (mkF m 195 #[.val (.int p0), .val (.int p1), .val (.int p2), .val (.int p3), .val (.int p4), .val (.int (3 : Int32)), .val (.ref r_93z), .val (.ref r_95z), .val (.ref r_97z), .val (.ref r_99z), .val (.ref b101z), .val (.ref r_115z), .val (.int (1 : Int32))] [])) _
    refine own_go (fun t k => XS.aload X122z.here hx rfl (hb hby at_195) rfl rfl k) ?_
    have f124z := (r115z_5.keep K122zq (by simp only [List.mem_cons, List.not_mem_nil, or_false, not_or]; exact ⟨(Ne.symm ne_b101z_r_115z), (Ne.symm ne_arr_106z_r_115z)⟩))
    obtain ⟨cq125z, kq125z, qa125z, qb125z, qc125z⟩ := isOf hZ115z (rfl : T122z.heap = _) (r115z_0.keep K122zq)
    obtain ⟨_, _, ⟨T125z, L125z, k125z, n125z⟩, -, X125z, ⟨Lc125z, hQ125z, l125z, y125z, z125z⟩, st125z⟩ := X122z.interfaceBack hx (xi := own_m31) (y := own_m9) hown115z (mvT hZ115z (own_hw hw 102 rfl)) (mvT hZ115z (own_hw hw 103 rfl)) (mvT hZ115z (own_hw hw 104 rfl)) (mvT hZ115z (own_hw hw 105 rfl)) (mvT hZ115z (own_hw hw 55 rfl)) (mvT hZ115z (own_hw hw 56 rfl)) (mvT hZ115z (own_hw hw 57 rfl)) (mvT hZ115z (own_hw hw 106 rfl)) (by decide) (backOf (W := 0) (own_size l Z a0 hw [] r_115z (3 : Int32) T122z.heap O123z f124z) hZ115z (own_hw hw 59 rfl) (own_hw hw 10 rfl) (by decide) (by decide)) qa125z qb125z qc125z (g := (mkF m 197 #[.val (.int p0), .val (.int p1), .val (.int p2), .val (.int p3), .val (.int p4), .val (.int (3 : Int32)), .val (.ref r_93z), .val (.ref r_95z), .val (.ref r_97z), .val (.ref r_99z), .val (.ref b101z), .val (.ref r_115z), .val (.int (1 : Int32))] [(.ref r_115z)])) rfl (by rw [hml]; rfl) (Steps.refl _) (argsL := []) (rest := []) (lenOf pd_193421983 rfl) rfl (by show 2 * 0 + _ ≤ _; exact Nat.le_of_eq rfl) (hb hby at_197) (fun _ _ => ⟨rfl, rfl, (by decide : 17 + 0 ≤ _), (by decide : 327 + 0 ≤ _)⟩)
    dsimp only [Pt.U, Pt.locs, Pt.cells, Pt.slots] at X125z l125z y125z z125z st125z hQ125z
    subst l125z y125z z125z
    obtain ⟨rfl, NQ125z, K125zq⟩ := hQ125z
    refine own_tr st125z ?_
    have N125z := Fr.app N122z NQ125z
    show own_G p e below (T125z.setTop (mkF m 202 #[.val (.int p0), .val (.int p1), .val (.int p2), .val (.int p3), .val (.int p4), .val (.int (3 : Int32)), .val (.ref r_93z), .val (.ref r_95z), .val (.ref r_97z), .val (.ref r_99z), .val (.ref b101z), .val (.ref r_115z), .val (.int (1 : Int32))] [(.int (3 : Int32))])) _
    refine own_go (fun t k => XS.iload X125z.here hx rfl (hb hby at_202) rfl k) ?_
    refine own_go (fun t k => XS.icmpNo X125z.here hx rfl (hb hby at_204) rfl (teq (by decide : (3 : Int32) = (3 : Int32))).2 k) ?_
    show own_G p e below (T125z.setTop (mkF m 207 #[.val (.int p0), .val (.int p1), .val (.int p2), .val (.int p3), .val (.int p4), .val (.int (3 : Int32)), .val (.ref r_93z), .val (.ref r_95z), .val (.ref r_97z), .val (.ref r_99z), .val (.ref b101z), .val (.ref r_115z), .val (.int (1 : Int32))] [])) _
    refine own_go (fun t k => XS.aload X125z.here hx rfl (hb hby at_207) rfl rfl k) ?_
    refine own_go (fun t k => XS.iconst X125z.here hx rfl (hb hby at_209) k) ?_
    refine own_go (fun t k => XS.aload X125z.here hx rfl (hb hby at_210) rfl rfl k) ?_
    refine own_go (fun t k => XS.iload X125z.here hx rfl (hb hby at_212) rfl k) ?_
    show own_G p e below (T125z.setTop (mkF m 214 #[.val (.int p0), .val (.int p1), .val (.int p2), .val (.int p3), .val (.int p4), .val (.int (3 : Int32)), .val (.ref r_93z), .val (.ref r_95z), .val (.ref r_97z), .val (.ref r_99z), .val (.ref b101z), .val (.ref r_115z), .val (.int (1 : Int32))] [(.int (3 : Int32)), (.ref r_93z), (.int (0 : Int32)), (.ref r_115z)])) _
    have f126z := (r115z_4.keep K122zq (by simp only [List.mem_cons, List.not_mem_nil, or_false, not_or]; exact ⟨(Ne.symm ne_b101z_r_115z), (Ne.symm ne_arr_106z_r_115z)⟩))
    have f127z := (r115z_2.keep K122zq (by simp only [List.mem_cons, List.not_mem_nil, or_false, not_or]; exact ⟨(Ne.symm ne_b101z_ar_115z), (Ne.symm ne_arr_106z_ar_115z)⟩))
    obtain ⟨_, _, ⟨T128z, L128z, k128z, n128z⟩, -, X128z, ⟨Lc128z, hQ128z, l128z, y128z, z128z⟩, st128z⟩ := Jvm.LawKit.callS X125z hx (y := own_m26) hown115z (mvT hZ115z (own_hw hw 107 rfl)) (mvT hZ115z (own_hw hw 108 rfl)) (mvT hZ115z (own_hw hw 109 rfl)) (mvT hZ115z (own_hw hw 110 rfl)) (by decide) (backOf (W := 0) (own_at3_0 l Z a0 hw [] r_115z r_93z ar_115z kr_115z ([(.ref r_93z), (.ref r_95z), (.ref r_97z)]) T122z.heap O123z (r115z_0.keep K122zq) f126z f127z f124z rfl) hZ115z (own_hw hw 110 rfl) (own_hw hw 109 rfl) (by decide) (by decide)) (g := (mkF m 214 #[.val (.int p0), .val (.int p1), .val (.int p2), .val (.int p3), .val (.int p4), .val (.int (3 : Int32)), .val (.ref r_93z), .val (.ref r_95z), .val (.ref r_97z), .val (.ref r_99z), .val (.ref b101z), .val (.ref r_115z), .val (.int (1 : Int32))] [(.int (3 : Int32)), (.ref r_93z), (.int (0 : Int32)), (.ref r_115z)])) rfl (by rw [hml]; rfl) (argsL := [(.ref r_115z), (.int (0 : Int32)), (.ref r_93z), (.int (3 : Int32))]) (rest := []) (lenOf pd_2223509722 rfl) rfl (by show 2 * 0 + _ ≤ _; exact Nat.le_of_eq rfl) (hb hby at_214) (fun _ _ => ⟨rfl, K125zq, (by decide : 17 + 0 ≤ _), (by decide : 327 + 0 ≤ _)⟩)
    dsimp only [Pt.U, Pt.locs, Pt.cells, Pt.slots] at X128z l128z y128z z128z st128z hQ128z
    subst l128z y128z z128z
    obtain ⟨rfl, NQ128z, K128zq⟩ := hQ128z
    refine own_go st128z ?_
    have N128z := Fr.app N125z NQ128z
    show own_G p e below (T128z.setTop (mkF m 217 #[.val (.int p0), .val (.int p1), .val (.int p2), .val (.int p3), .val (.int p4), .val (.int (3 : Int32)), .val (.ref r_93z), .val (.ref r_95z), .val (.ref r_97z), .val (.ref r_99z), .val (.ref b101z), .val (.ref r_115z), .val (.int (1 : Int32))] [(.int (1 : Int32))])) _
    refine own_go (fun t k => XS.ifNo X128z.here hx rfl (hb hby at_217) rfl ((if0 _ _).trans (feq (by decide : ¬ ((1 : Int32) = (0 : Int32)))).1) k) ?_
    show own_G p e below (T128z.setTop (mkF m 220 #[.val (.int p0), .val (.int p1), .val (.int p2), .val (.int p3), .val (.int p4), .val (.int (3 : Int32)), .val (.ref r_93z), .val (.ref r_95z), .val (.ref r_97z), .val (.ref r_99z), .val (.ref b101z), .val (.ref r_115z), .val (.int (1 : Int32))] [])) _
    refine own_go (fun t k => XS.aload X128z.here hx rfl (hb hby at_220) rfl rfl k) ?_
    refine own_go (fun t k => XS.iconst X128z.here hx rfl (hb hby at_222) k) ?_
    refine own_go (fun t k => XS.aload X128z.here hx rfl (hb hby at_223) rfl rfl k) ?_
    refine own_go (fun t k => XS.iload X128z.here hx rfl (hb hby at_225) rfl k) ?_
    show own_G p e below (T128z.setTop (mkF m 227 #[.val (.int p0), .val (.int p1), .val (.int p2), .val (.int p3), .val (.int p4), .val (.int (3 : Int32)), .val (.ref r_93z), .val (.ref r_95z), .val (.ref r_97z), .val (.ref r_99z), .val (.ref b101z), .val (.ref r_115z), .val (.int (1 : Int32))] [(.int (3 : Int32)), (.ref r_99z), (.int (3 : Int32)), (.ref r_115z)])) _
    obtain ⟨_, _, ⟨T129z, L129z, k129z, n129z⟩, -, X129z, ⟨Lc129z, hQ129z, l129z, y129z, z129z⟩, st129z⟩ := Jvm.LawKit.callS X128z hx (y := own_m26) hown115z (mvT hZ115z (own_hw hw 107 rfl)) (mvT hZ115z (own_hw hw 108 rfl)) (mvT hZ115z (own_hw hw 109 rfl)) (mvT hZ115z (own_hw hw 110 rfl)) (by decide) (backOf (W := 0) (own_at3_3 l Z a0 hw [] r_115z r_99z T122z.heap O123z) hZ115z (own_hw hw 110 rfl) (own_hw hw 109 rfl) (by decide) (by decide)) (g := (mkF m 227 #[.val (.int p0), .val (.int p1), .val (.int p2), .val (.int p3), .val (.int p4), .val (.int (3 : Int32)), .val (.ref r_93z), .val (.ref r_95z), .val (.ref r_97z), .val (.ref r_99z), .val (.ref b101z), .val (.ref r_115z), .val (.int (1 : Int32))] [(.int (3 : Int32)), (.ref r_99z), (.int (3 : Int32)), (.ref r_115z)])) rfl (by rw [hml]; rfl) (argsL := [(.ref r_115z), (.int (3 : Int32)), (.ref r_99z), (.int (3 : Int32))]) (rest := []) (lenOf pd_2223509722 rfl) rfl (by show 2 * 0 + _ ≤ _; exact Nat.le_of_eq rfl) (hb hby at_227) (fun _ _ => ⟨rfl, K128zq, (by decide : 17 + 0 ≤ _), (by decide : 327 + 0 ≤ _)⟩)
    dsimp only [Pt.U, Pt.locs, Pt.cells, Pt.slots] at X129z l129z y129z z129z st129z hQ129z
    subst l129z y129z z129z
    obtain ⟨rfl, NQ129z, K129zq⟩ := hQ129z
    refine own_go st129z ?_
    have N129z := Fr.app N128z NQ129z
    show own_G p e below (T129z.setTop (mkF m 230 #[.val (.int p0), .val (.int p1), .val (.int p2), .val (.int p3), .val (.int p4), .val (.int (3 : Int32)), .val (.ref r_93z), .val (.ref r_95z), .val (.ref r_97z), .val (.ref r_99z), .val (.ref b101z), .val (.ref r_115z), .val (.int (1 : Int32))] [(.int (1 : Int32))])) _
    refine own_go (fun t k => XS.ifNo X129z.here hx rfl (hb hby at_230) rfl ((if0 _ _).trans (feq (by decide : ¬ ((1 : Int32) = (0 : Int32)))).1) k) ?_
    show own_G p e below (T129z.setTop (mkF m 233 #[.val (.int p0), .val (.int p1), .val (.int p2), .val (.int p3), .val (.int p4), .val (.int (3 : Int32)), .val (.ref r_93z), .val (.ref r_95z), .val (.ref r_97z), .val (.ref r_99z), .val (.ref b101z), .val (.ref r_115z), .val (.int (1 : Int32))] [])) _
    refine own_go (fun t k => XS.iconst X129z.here hx rfl (hb hby at_233) k) ?_
    refine own_go (fun t k => XS.goto X129z.here hx rfl (pc0 := 234) (pc' := 238) rfl (hb hby at_234) (by decide) (by decide) k) ?_
    show own_G p e below (T129z.setTop (mkF m 238 #[.val (.int p0), .val (.int p1), .val (.int p2), .val (.int p3), .val (.int p4), .val (.int (3 : Int32)), .val (.ref r_93z), .val (.ref r_95z), .val (.ref r_97z), .val (.ref r_99z), .val (.ref b101z), .val (.ref r_115z), .val (.int (1 : Int32))] [(.int (1 : Int32))])) _
    exact own_retW X129z Sx115z (by rw [K129zq]; exact Sn123z) hx Bd.returns rfl (Or.inl ⟨rfl, Or.inr (Or.inl rfl), _, rfl⟩) (hb hby at_238) hlk (Nat.le_of_ble_eq_true rfl) (Nat.le_of_ble_eq_true rfl) (by show Q_own_law Z p0 p1 p2 p3 p4 dE kd eE ca h0 _ T129z.heap _; rw [K129zq]; exact ⟨rfl, N129z, K123z⟩)
  · rw [hk]
    show own_G p e below (s₁.setTop (mkF m 6 #[.val (.int p0), .val (.int p1), .val (.int p2), .val (.int p3), .val (.int p4), .unset, .unset, .unset, .unset, .unset, .unset, .unset, .unset] [(.int (4 : Int32))])) _
    refine own_go (fun t k => XS.istore X0.here hx rfl (hb hby at_6) rfl (l' := #[.val (.int p0), .val (.int p1), .val (.int p2), .val (.int p3), .val (.int p4), .val (.int (4 : Int32)), .unset, .unset, .unset, .unset, .unset, .unset, .unset]) rfl k) ?_
    refine own_go (fun t k => XS.iloadN X0.here hx rfl (hb hby at_8) rfl k) ?_
    obtain ⟨_, _, ⟨T130z, L130z, k130z, n130z⟩, -, X130z, ⟨Lc130z, hQ130z, l130z, y130z, z130z⟩, st130z⟩ := Jvm.LawKit.callS X0 hx (y := own_m30) hown (mvT hZ (own_hw hw 1 rfl)) (mvT hZ (own_hw hw 2 rfl)) (mvT hZ (own_hw hw 3 rfl)) (mvT hZ (own_hw hw 4 rfl)) (by decide) (backOf (W := 0) (own_vo l Z a0 hw [] p1 ca h0 O0 S_H S_C BX) hZ (own_hw hw 4 rfl) (own_hw hw 3 rfl) (by decide) (by decide)) (g := (mkF m 9 #[.val (.int p0), .val (.int p1), .val (.int p2), .val (.int p3), .val (.int p4), .val (.int (4 : Int32)), .unset, .unset, .unset, .unset, .unset, .unset, .unset] [(.int p1)])) rfl (by rw [hml]; rfl) (argsL := [(.int p1)]) (rest := []) (lenOf pd_73316374 rfl) rfl (by show 2 * 0 + _ ≤ _; exact Nat.le_of_eq rfl) (hb hby at_9) (fun _ _ => ⟨rfl, e0, (by decide : 0 + 1 ≤ _), (by decide : 0 + 1 ≤ _)⟩)
    dsimp only [Pt.U, Pt.locs, Pt.cells, Pt.slots] at X130z l130z y130z z130z st130z hQ130z
    subst l130z y130z z130z
    obtain ⟨r_130z, rfl, NQ130z, K130zq, r130z_0⟩ := hQ130z
    refine own_go st130z ?_
    have N130z := Fr.app N0 NQ130z
    have O131z : Ext Z.heap T130z.heap := own_ext_keep O0 K130zq all0
    have K131z : Keep h0 T130z.heap [] := K0.trans K130zq all0
    have Sn131z := Nat.le_trans Sn0 K130zq.1
    show own_G p e below (T130z.setTop (mkF m 12 #[.val (.int p0), .val (.int p1), .val (.int p2), .val (.int p3), .val (.int p4), .val (.int (4 : Int32)), .unset, .unset, .unset, .unset, .unset, .unset, .unset] [(.ref r_130z)])) _
    refine own_go (fun t k => XS.astore X130z.here hx rfl (hb hby at_12) rfl rfl (l' := #[.val (.int p0), .val (.int p1), .val (.int p2), .val (.int p3), .val (.int p4), .val (.int (4 : Int32)), .val (.ref r_130z), .unset, .unset, .unset, .unset, .unset, .unset]) rfl k) ?_
    refine own_go (fun t k => XS.iloadN X130z.here hx rfl (hb hby at_14) rfl k) ?_
    obtain ⟨_, _, ⟨T132z, L132z, k132z, n132z⟩, -, X132z, ⟨Lc132z, hQ132z, l132z, y132z, z132z⟩, st132z⟩ := Jvm.LawKit.callS X130z hx (y := own_m30) hown (mvT hZ (own_hw hw 1 rfl)) (mvT hZ (own_hw hw 2 rfl)) (mvT hZ (own_hw hw 3 rfl)) (mvT hZ (own_hw hw 4 rfl)) (by decide) (backOf (W := 0) (own_vo l Z a0 hw [] p2 ca T130z.heap O131z S_H S_C BX) hZ (own_hw hw 4 rfl) (own_hw hw 3 rfl) (by decide) (by decide)) (g := (mkF m 15 #[.val (.int p0), .val (.int p1), .val (.int p2), .val (.int p3), .val (.int p4), .val (.int (4 : Int32)), .val (.ref r_130z), .unset, .unset, .unset, .unset, .unset, .unset] [(.int p2)])) rfl (by rw [hml]; rfl) (argsL := [(.int p2)]) (rest := []) (lenOf pd_73316374 rfl) rfl (by show 2 * 0 + _ ≤ _; exact Nat.le_of_eq rfl) (hb hby at_15) (fun _ _ => ⟨rfl, rfl, (by decide : 1 + 1 ≤ _), (by decide : 1 + 1 ≤ _)⟩)
    dsimp only [Pt.U, Pt.locs, Pt.cells, Pt.slots] at X132z l132z y132z z132z st132z hQ132z
    subst l132z y132z z132z
    obtain ⟨r_132z, rfl, NQ132z, K132zq, r132z_0⟩ := hQ132z
    refine own_go st132z ?_
    have N132z := Fr.app N130z NQ132z
    have O133z : Ext Z.heap T132z.heap := own_ext_keep O131z K132zq all0
    have K133z : Keep h0 T132z.heap [] := K131z.trans K132zq all0
    have Sn133z := Nat.le_trans Sn131z K132zq.1
    show own_G p e below (T132z.setTop (mkF m 18 #[.val (.int p0), .val (.int p1), .val (.int p2), .val (.int p3), .val (.int p4), .val (.int (4 : Int32)), .val (.ref r_130z), .unset, .unset, .unset, .unset, .unset, .unset] [(.ref r_132z)])) _
    refine own_go (fun t k => XS.astore X132z.here hx rfl (hb hby at_18) rfl rfl (l' := #[.val (.int p0), .val (.int p1), .val (.int p2), .val (.int p3), .val (.int p4), .val (.int (4 : Int32)), .val (.ref r_130z), .val (.ref r_132z), .unset, .unset, .unset, .unset, .unset]) rfl k) ?_
    refine own_go (fun t k => XS.iloadN X132z.here hx rfl (hb hby at_20) rfl k) ?_
    obtain ⟨_, _, ⟨T134z, L134z, k134z, n134z⟩, -, X134z, ⟨Lc134z, hQ134z, l134z, y134z, z134z⟩, st134z⟩ := Jvm.LawKit.callS X132z hx (y := own_m30) hown (mvT hZ (own_hw hw 1 rfl)) (mvT hZ (own_hw hw 2 rfl)) (mvT hZ (own_hw hw 3 rfl)) (mvT hZ (own_hw hw 4 rfl)) (by decide) (backOf (W := 0) (own_vo l Z a0 hw [] p3 ca T132z.heap O133z S_H S_C BX) hZ (own_hw hw 4 rfl) (own_hw hw 3 rfl) (by decide) (by decide)) (g := (mkF m 21 #[.val (.int p0), .val (.int p1), .val (.int p2), .val (.int p3), .val (.int p4), .val (.int (4 : Int32)), .val (.ref r_130z), .val (.ref r_132z), .unset, .unset, .unset, .unset, .unset] [(.int p3)])) rfl (by rw [hml]; rfl) (argsL := [(.int p3)]) (rest := []) (lenOf pd_73316374 rfl) rfl (by show 2 * 0 + _ ≤ _; exact Nat.le_of_eq rfl) (hb hby at_21) (fun _ _ => ⟨rfl, rfl, (by decide : 2 + 1 ≤ _), (by decide : 2 + 1 ≤ _)⟩)
    dsimp only [Pt.U, Pt.locs, Pt.cells, Pt.slots] at X134z l134z y134z z134z st134z hQ134z
    subst l134z y134z z134z
    obtain ⟨r_134z, rfl, NQ134z, K134zq, r134z_0⟩ := hQ134z
    refine own_go st134z ?_
    have N134z := Fr.app N132z NQ134z
    have O135z : Ext Z.heap T134z.heap := own_ext_keep O133z K134zq all0
    have K135z : Keep h0 T134z.heap [] := K133z.trans K134zq all0
    have Sn135z := Nat.le_trans Sn133z K134zq.1
    show own_G p e below (T134z.setTop (mkF m 24 #[.val (.int p0), .val (.int p1), .val (.int p2), .val (.int p3), .val (.int p4), .val (.int (4 : Int32)), .val (.ref r_130z), .val (.ref r_132z), .unset, .unset, .unset, .unset, .unset] [(.ref r_134z)])) _
    refine own_go (fun t k => XS.astore X134z.here hx rfl (hb hby at_24) rfl rfl (l' := #[.val (.int p0), .val (.int p1), .val (.int p2), .val (.int p3), .val (.int p4), .val (.int (4 : Int32)), .val (.ref r_130z), .val (.ref r_132z), .val (.ref r_134z), .unset, .unset, .unset, .unset]) rfl k) ?_
    refine own_go (fun t k => XS.iload X134z.here hx rfl (hb hby at_26) rfl k) ?_
    obtain ⟨_, _, ⟨T136z, L136z, k136z, n136z⟩, -, X136z, ⟨Lc136z, hQ136z, l136z, y136z, z136z⟩, st136z⟩ := Jvm.LawKit.callS X134z hx (y := own_m30) hown (mvT hZ (own_hw hw 1 rfl)) (mvT hZ (own_hw hw 2 rfl)) (mvT hZ (own_hw hw 3 rfl)) (mvT hZ (own_hw hw 4 rfl)) (by decide) (backOf (W := 0) (own_vo l Z a0 hw [] p4 ca T134z.heap O135z S_H S_C BX) hZ (own_hw hw 4 rfl) (own_hw hw 3 rfl) (by decide) (by decide)) (g := (mkF m 28 #[.val (.int p0), .val (.int p1), .val (.int p2), .val (.int p3), .val (.int p4), .val (.int (4 : Int32)), .val (.ref r_130z), .val (.ref r_132z), .val (.ref r_134z), .unset, .unset, .unset, .unset] [(.int p4)])) rfl (by rw [hml]; rfl) (argsL := [(.int p4)]) (rest := []) (lenOf pd_73316374 rfl) rfl (by show 2 * 0 + _ ≤ _; exact Nat.le_of_eq rfl) (hb hby at_28) (fun _ _ => ⟨rfl, rfl, (by decide : 3 + 1 ≤ _), (by decide : 3 + 1 ≤ _)⟩)
    dsimp only [Pt.U, Pt.locs, Pt.cells, Pt.slots] at X136z l136z y136z z136z st136z hQ136z
    subst l136z y136z z136z
    obtain ⟨r_136z, rfl, NQ136z, K136zq, r136z_0⟩ := hQ136z
    refine own_go st136z ?_
    have N136z := Fr.app N134z NQ136z
    have O137z : Ext Z.heap T136z.heap := own_ext_keep O135z K136zq all0
    have K137z : Keep h0 T136z.heap [] := K135z.trans K136zq all0
    have Sn137z := Nat.le_trans Sn135z K136zq.1
    show own_G p e below (T136z.setTop (mkF m 31 #[.val (.int p0), .val (.int p1), .val (.int p2), .val (.int p3), .val (.int p4), .val (.int (4 : Int32)), .val (.ref r_130z), .val (.ref r_132z), .val (.ref r_134z), .unset, .unset, .unset, .unset] [(.ref r_136z)])) _
    refine own_go (fun t k => XS.astore X136z.here hx rfl (hb hby at_31) rfl rfl (l' := #[.val (.int p0), .val (.int p1), .val (.int p2), .val (.int p3), .val (.int p4), .val (.int (4 : Int32)), .val (.ref r_130z), .val (.ref r_132z), .val (.ref r_134z), .val (.ref r_136z), .unset, .unset, .unset]) rfl k) ?_
    obtain ⟨T138z, h138z, X138z, e138z, E138z, A138z, D138z, -, st138z⟩ := newO X136z hx hZ hown (own_hw hw 8 rfl) (own_hw hw 9 rfl) (own_hw hw 10 rfl) rfl (g := (mkF m 33 #[.val (.int p0), .val (.int p1), .val (.int p2), .val (.int p3), .val (.int p4), .val (.int (4 : Int32)), .val (.ref r_130z), .val (.ref r_132z), .val (.ref r_134z), .val (.ref r_136z), .unset, .unset, .unset] [])) rfl (hb hby at_33) (by decide) (by decide)
    obtain ⟨b138z, g138z⟩ : ∃ z, z = T136z.heap.size := ⟨_, rfl⟩
    rw [← g138z] at A138z D138z st138z
    have fr_b138z : Z.heap.size ≤ b138z := g138z ▸ O137z.1
    have lz_b138z : h0.size ≤ b138z := g138z ▸ K137z.1
    have ne_r_130z_b138z : r_130z ≠ b138z := Nat.ne_of_lt (g138z ▸ (((r130z_0.keep K132zq).keep K134zq).keep K136zq).lt)
    have ne_r_132z_b138z : r_132z ≠ b138z := Nat.ne_of_lt (g138z ▸ ((r132z_0.keep K134zq).keep K136zq).lt)
    have ne_r_134z_b138z : r_134z ≠ b138z := Nat.ne_of_lt (g138z ▸ (r134z_0.keep K136zq).lt)
    have ne_r_136z_b138z : r_136z ≠ b138z := Nat.ne_of_lt (g138z ▸ r136z_0.lt)
    have O139z : Ext Z.heap h138z := own_ext_trans O137z E138z
    have K139z : Keep h0 h138z [] := K137z.ext E138z
    have Sn139z := Nat.le_trans Sn137z E138z.1
    have F138z_modCount : Fld Z h138z b138z "java/util/AbstractList" "modCount" "I" (.int (0 : Int32)) := D138z (Or.inl (own_hw hw 30 rfl)) (ty := .int) (by decide)
    have F138z_elementData : Fld Z h138z b138z "java/util/ArrayList" "elementData" "[Ljava/lang/Object;" .null := D138z (Or.inl (own_hw hw 33 rfl)) (ty := (.array (.object "java/lang/Object"))) (by decide)
    have F138z_size : Fld Z h138z b138z "java/util/ArrayList" "size" "I" (.int (0 : Int32)) := D138z (Or.inl (own_hw hw 61 rfl)) (ty := .int) (by decide)
    refine own_go st138z ?_
    refine own_go (fun t k => XS.dup X138z.here hx rfl (hb hby at_36) rfl rfl k) ?_
    obtain ⟨_, _, ⟨T140z, L140z, k140z, n140z⟩, -, X140z, ⟨Lc140z, hQ140z, l140z, y140z, z140z⟩, st140z⟩ := X138z.specialBack hx (y := own_m2) rfl hown (mvT hZ (own_hw hw 11 rfl)) (mvT hZ (own_hw hw 12 rfl)) (mvT hZ (own_hw hw 13 rfl)) (by decide) (backOf (W := 1) (own_ali l Z a0 hw [] b138z dE h138z O139z S_D A138z fr_b138z F138z_modCount F138z_elementData F138z_size) hZ (own_hw hw 13 rfl) (own_hw hw 10 rfl) (by decide) (by decide)) (g := (mkF m 37 #[.val (.int p0), .val (.int p1), .val (.int p2), .val (.int p3), .val (.int p4), .val (.int (4 : Int32)), .val (.ref r_130z), .val (.ref r_132z), .val (.ref r_134z), .val (.ref r_136z), .unset, .unset, .unset] [(.ref b138z), (.ref b138z)])) rfl (by rw [hml]; rfl) (Steps.refl _) (a := b138z) (argsL := []) (rest := [(.ref b138z)]) (lenOf pd_193421996 rfl) rfl (by show 2 * 0 + _ ≤ _; exact Nat.le_of_eq rfl) (hb hby at_37) (fun _ _ => ⟨rfl, e138z, (by decide : 5 + 0 ≤ _), (by decide : 7 + 0 ≤ _)⟩)
    dsimp only [Pt.U, Pt.locs, Pt.cells, Pt.slots] at X140z l140z y140z z140z st140z hQ140z
    subst l140z y140z z140z
    obtain ⟨rfl, NQ140z, K140zq, r140z_0, r140z_1, r140z_2, r140z_3⟩ := hQ140z
    refine own_tr st140z ?_
    have N140z := Fr.app N136z NQ140z
    have O141z : Ext Z.heap T140z.heap := own_ext_keep O139z K140zq (allS fr_b138z all0)
    have K141z : Keep h0 T140z.heap [] := K139z.trans K140zq (allS (Or.inr lz_b138z) all0)
    have Sn141z := Nat.le_trans Sn139z K140zq.1
    show own_G p e below (T140z.setTop (mkF m 40 #[.val (.int p0), .val (.int p1), .val (.int p2), .val (.int p3), .val (.int p4), .val (.int (4 : Int32)), .val (.ref r_130z), .val (.ref r_132z), .val (.ref r_134z), .val (.ref r_136z), .unset, .unset, .unset] [(.ref b138z)])) _
    refine own_go (fun t k => XS.astore X140z.here hx rfl (hb hby at_40) rfl rfl (l' := #[.val (.int p0), .val (.int p1), .val (.int p2), .val (.int p3), .val (.int p4), .val (.int (4 : Int32)), .val (.ref r_130z), .val (.ref r_132z), .val (.ref r_134z), .val (.ref r_136z), .val (.ref b138z), .unset, .unset]) rfl k) ?_
    refine own_go (fun t k => XS.iload X140z.here hx rfl (hb hby at_42) rfl k) ?_
    refine own_go (fun t k => XS.ifNo X140z.here hx rfl (hb hby at_44) rfl ((if0 _ _).trans (tlt (by decide : (0 : Int32) < (4 : Int32))).2.2.2) k) ?_
    show own_G p e below (T140z.setTop (mkF m 47 #[.val (.int p0), .val (.int p1), .val (.int p2), .val (.int p3), .val (.int p4), .val (.int (4 : Int32)), .val (.ref r_130z), .val (.ref r_132z), .val (.ref r_134z), .val (.ref r_136z), .val (.ref b138z), .unset, .unset] [])) _
    refine own_go (fun t k => XS.aload X140z.here hx rfl (hb hby at_47) rfl rfl k) ?_
    refine own_go (fun t k => XS.aload X140z.here hx rfl (hb hby at_49) rfl rfl k) ?_
    have f142z := (((((r130z_0.keep K132zq).keep K134zq).keep K136zq).ext E138z).keep K140zq)
    have f143z := ((((r132z_0.keep K134zq).keep K136zq).ext E138z).keep K140zq)
    obtain ⟨cq144z, kq144z, qa144z, qb144z, qc144z⟩ := isOf hZ (rfl : T140z.heap = _) r140z_0
    obtain ⟨_, _, ⟨T144z, L144z, k144z, n144z⟩, -, X144z, ⟨Lc144z, hQ144z, l144z, y144z, z144z⟩, st144z⟩ := X140z.virtualBack hx (y := own_m8) (z := own_m8) hown (mvT hZ (own_hw hw 111 rfl)) (mvT hZ (own_hw hw 112 rfl)) (notFace_of_selects (args := #[]) (mvT hZ (own_hw hw 114 rfl))) (mvT hZ (own_hw hw 114 rfl)) (mvT hZ (own_hw hw 113 rfl)) (by decide) (backOf (W := 0) (own_add10 l Z a0 hw [] b138z (0 : Int32) dE kd r_130z T140z.heap O141z S_D BD r140z_0 fr_b138z r140z_1 r140z_2 r140z_3 f142z) hZ (own_hw hw 115 rfl) (own_hw hw 10 rfl) (by decide) (by decide)) qa144z qc144z (g := (mkF m 51 #[.val (.int p0), .val (.int p1), .val (.int p2), .val (.int p3), .val (.int p4), .val (.int (4 : Int32)), .val (.ref r_130z), .val (.ref r_132z), .val (.ref r_134z), .val (.ref r_136z), .val (.ref b138z), .unset, .unset] [(.ref r_130z), (.ref b138z)])) rfl (by rw [hml]; rfl) (Steps.refl _) (argsL := [(.ref r_130z)]) (rest := []) (lenOf pd_396412080 rfl) rfl (by show 2 * 0 + _ ≤ _; exact Nat.le_of_eq rfl) (hb hby at_51) (fun _ _ => ⟨rfl, rfl, (by decide : 5 + 1 ≤ _), (by decide : 7 + 10 ≤ _)⟩)
    dsimp only [Pt.U, Pt.locs, Pt.cells, Pt.slots] at X144z l144z y144z z144z st144z hQ144z
    subst l144z y144z z144z
    obtain ⟨arr_144z, kk_144z, rfl, NQ144z, K144zq, r144z_0, r144z_1, r144z_2, r144z_3, r144z_4, r144z_5, r144z_6, r144z_7⟩ := hQ144z
    refine own_tr st144z ?_
    have N144z := Fr.app N140z NQ144z
    have O145z : Ext Z.heap T144z.heap := own_ext_keep O141z K144zq (allS fr_b138z all0)
    have K145z : Keep h0 T144z.heap [] := K141z.trans K144zq (allS (Or.inr lz_b138z) all0)
    have Sn145z := Nat.le_trans Sn141z K144zq.1
    have lz_arr_144z : h0.size ≤ arr_144z := Nat.le_trans K141z.1 r144z_2
    have ne_r_130z_arr_144z : r_130z ≠ arr_144z := Nat.ne_of_lt (Nat.lt_of_lt_of_le f142z.lt r144z_2)
    have ne_r_132z_arr_144z : r_132z ≠ arr_144z := Nat.ne_of_lt (Nat.lt_of_lt_of_le f143z.lt r144z_2)
    have ne_r_134z_arr_144z : r_134z ≠ arr_144z := Nat.ne_of_lt (Nat.lt_of_lt_of_le (((r134z_0.keep K136zq).ext E138z).keep K140zq).lt r144z_2)
    have ne_r_136z_arr_144z : r_136z ≠ arr_144z := Nat.ne_of_lt (Nat.lt_of_lt_of_le ((r136z_0.ext E138z).keep K140zq).lt r144z_2)
    have ne_b138z_arr_144z : b138z ≠ arr_144z := Nat.ne_of_lt (Nat.lt_of_lt_of_le r140z_0.lt r144z_2)
    have r144z_5 : Fld Z T144z.heap b138z "java/util/AbstractList" "modCount" "I" (.int (1 : Int32)) := r144z_5
    show own_G p e below (T144z.setTop (mkF m 54 #[.val (.int p0), .val (.int p1), .val (.int p2), .val (.int p3), .val (.int p4), .val (.int (4 : Int32)), .val (.ref r_130z), .val (.ref r_132z), .val (.ref r_134z), .val (.ref r_136z), .val (.ref b138z), .unset, .unset] [(.int (1 : Int32))])) _
    refine own_go (fun t k => XS.pop X144z.here hx rfl (hb hby at_54) rfl rfl k) ?_
    refine own_go (fun t k => XS.iload X144z.here hx rfl (hb hby at_55) rfl k) ?_
    refine own_go (fun t k => XS.iconst X144z.here hx rfl (hb hby at_57) k) ?_
    refine own_go (fun t k => XS.icmpNo X144z.here hx rfl (hb hby at_58) rfl (tlt (by decide : (1 : Int32) < (4 : Int32))).2.2.2 k) ?_
    show own_G p e below (T144z.setTop (mkF m 61 #[.val (.int p0), .val (.int p1), .val (.int p2), .val (.int p3), .val (.int p4), .val (.int (4 : Int32)), .val (.ref r_130z), .val (.ref r_132z), .val (.ref r_134z), .val (.ref r_136z), .val (.ref b138z), .unset, .unset] [])) _
    refine own_go (fun t k => XS.aload X144z.here hx rfl (hb hby at_61) rfl rfl k) ?_
    refine own_go (fun t k => XS.aload X144z.here hx rfl (hb hby at_63) rfl rfl k) ?_
    obtain ⟨cq146z, kq146z, qa146z, qb146z, qc146z⟩ := isOf hZ (rfl : T144z.heap = _) r144z_0
    obtain ⟨_, _, ⟨T146z, L146z, k146z, n146z⟩, -, X146z, ⟨Lc146z, hQ146z, l146z, y146z, z146z⟩, st146z⟩ := X144z.virtualBack hx (y := own_m8) (z := own_m8) hown (mvT hZ (own_hw hw 111 rfl)) (mvT hZ (own_hw hw 112 rfl)) (notFace_of_selects (args := #[]) (mvT hZ (own_hw hw 114 rfl))) (mvT hZ (own_hw hw 114 rfl)) (mvT hZ (own_hw hw 113 rfl)) (by decide) (backOf (W := 0) (own_add1 l Z a0 hw [] b138z r_132z arr_144z kk_144z ([(.ref r_130z), .null, .null, .null, .null, .null, .null, .null, .null, .null]) (1 : Int32) (1 : Int32) (10 : Int32) 1 T144z.heap O145z r144z_0 fr_b138z r144z_1 (f143z.keep K144zq) r144z_4 r144z_3 (by decide) (by show (10 : Int32).toInt = ((10 : Nat) : Int); decide) (by show 1 < 10; decide) ne_b138z_arr_144z r144z_5 r144z_6 r144z_7) hZ (own_hw hw 115 rfl) (own_hw hw 10 rfl) (by decide) (by decide)) qa146z qc146z (g := (mkF m 65 #[.val (.int p0), .val (.int p1), .val (.int p2), .val (.int p3), .val (.int p4), .val (.int (4 : Int32)), .val (.ref r_130z), .val (.ref r_132z), .val (.ref r_134z), .val (.ref r_136z), .val (.ref b138z), .unset, .unset] [(.ref r_132z), (.ref b138z)])) rfl (by rw [hml]; rfl) (Steps.refl _) (argsL := [(.ref r_132z)]) (rest := []) (lenOf pd_396412080 rfl) rfl (by show 2 * 0 + _ ≤ _; exact Nat.le_of_eq rfl) (hb hby at_65) (fun _ _ => ⟨rfl, rfl, (by decide : 6 + 0 ≤ _), (by decide : 17 + 0 ≤ _)⟩)
    dsimp only [Pt.U, Pt.locs, Pt.cells, Pt.slots] at X146z l146z y146z z146z st146z hQ146z
    subst l146z y146z z146z
    obtain ⟨rfl, NQ146z, K146zq, r146z_0, r146z_1, r146z_2, r146z_3, r146z_4⟩ := hQ146z
    refine own_tr st146z ?_
    have N146z := Fr.app N144z NQ146z
    have O147z : Ext Z.heap T146z.heap := own_ext_keep O145z K146zq (allS fr_b138z (allS r144z_1 all0))
    have K147z : Keep h0 T146z.heap [] := K145z.trans K146zq (allS (Or.inr lz_b138z) (allS (Or.inr lz_arr_144z) all0))
    have Sn147z := Nat.le_trans Sn145z K146zq.1
    have r146z_1 : own_A Z T146z.heap arr_144z kk_144z (.object "java/lang/Object") [(.ref r_130z), (.ref r_132z), .null, .null, .null, .null, .null, .null, .null, .null] := r146z_1
    have r146z_2 : Fld Z T146z.heap b138z "java/util/AbstractList" "modCount" "I" (.int (2 : Int32)) := r146z_2
    have r146z_4 : Fld Z T146z.heap b138z "java/util/ArrayList" "size" "I" (.int (2 : Int32)) := r146z_4
    show own_G p e below (T146z.setTop (mkF m 68 #[.val (.int p0), .val (.int p1), .val (.int p2), .val (.int p3), .val (.int p4), .val (.int (4 : Int32)), .val (.ref r_130z), .val (.ref r_132z), .val (.ref r_134z), .val (.ref r_136z), .val (.ref b138z), .unset, .unset] [(.int (1 : Int32))])) _
    refine own_go (fun t k => XS.pop X146z.here hx rfl (hb hby at_68) rfl rfl k) ?_
    refine own_go (fun t k => XS.iload X146z.here hx rfl (hb hby at_69) rfl k) ?_
    refine own_go (fun t k => XS.iconst X146z.here hx rfl (hb hby at_71) k) ?_
    refine own_go (fun t k => XS.icmpNo X146z.here hx rfl (hb hby at_72) rfl (tlt (by decide : (2 : Int32) < (4 : Int32))).2.2.2 k) ?_
    show own_G p e below (T146z.setTop (mkF m 75 #[.val (.int p0), .val (.int p1), .val (.int p2), .val (.int p3), .val (.int p4), .val (.int (4 : Int32)), .val (.ref r_130z), .val (.ref r_132z), .val (.ref r_134z), .val (.ref r_136z), .val (.ref b138z), .unset, .unset] [])) _
    refine own_go (fun t k => XS.aload X146z.here hx rfl (hb hby at_75) rfl rfl k) ?_
    refine own_go (fun t k => XS.aload X146z.here hx rfl (hb hby at_77) rfl rfl k) ?_
    have f148z := (((((r134z_0.keep K136zq).ext E138z).keep K140zq).keep K144zq).keep K146zq)
    obtain ⟨cq149z, kq149z, qa149z, qb149z, qc149z⟩ := isOf hZ (rfl : T146z.heap = _) r146z_0
    obtain ⟨_, _, ⟨T149z, L149z, k149z, n149z⟩, -, X149z, ⟨Lc149z, hQ149z, l149z, y149z, z149z⟩, st149z⟩ := X146z.virtualBack hx (y := own_m8) (z := own_m8) hown (mvT hZ (own_hw hw 111 rfl)) (mvT hZ (own_hw hw 112 rfl)) (notFace_of_selects (args := #[]) (mvT hZ (own_hw hw 114 rfl))) (mvT hZ (own_hw hw 114 rfl)) (mvT hZ (own_hw hw 113 rfl)) (by decide) (backOf (W := 0) (own_add1 l Z a0 hw [] b138z r_134z arr_144z kk_144z ([(.ref r_130z), (.ref r_132z), .null, .null, .null, .null, .null, .null, .null, .null]) (2 : Int32) (2 : Int32) (10 : Int32) 2 T146z.heap O147z r146z_0 fr_b138z r144z_1 f148z r146z_1 r144z_3 (by decide) (by show (10 : Int32).toInt = ((10 : Nat) : Int); decide) (by show 2 < 10; decide) ne_b138z_arr_144z r146z_2 r146z_3 r146z_4) hZ (own_hw hw 115 rfl) (own_hw hw 10 rfl) (by decide) (by decide)) qa149z qc149z (g := (mkF m 79 #[.val (.int p0), .val (.int p1), .val (.int p2), .val (.int p3), .val (.int p4), .val (.int (4 : Int32)), .val (.ref r_130z), .val (.ref r_132z), .val (.ref r_134z), .val (.ref r_136z), .val (.ref b138z), .unset, .unset] [(.ref r_134z), (.ref b138z)])) rfl (by rw [hml]; rfl) (Steps.refl _) (argsL := [(.ref r_134z)]) (rest := []) (lenOf pd_396412080 rfl) rfl (by show 2 * 0 + _ ≤ _; exact Nat.le_of_eq rfl) (hb hby at_79) (fun _ _ => ⟨rfl, rfl, (by decide : 6 + 0 ≤ _), (by decide : 17 + 0 ≤ _)⟩)
    dsimp only [Pt.U, Pt.locs, Pt.cells, Pt.slots] at X149z l149z y149z z149z st149z hQ149z
    subst l149z y149z z149z
    obtain ⟨rfl, NQ149z, K149zq, r149z_0, r149z_1, r149z_2, r149z_3, r149z_4⟩ := hQ149z
    refine own_tr st149z ?_
    have N149z := Fr.app N146z NQ149z
    have O150z : Ext Z.heap T149z.heap := own_ext_keep O147z K149zq (allS fr_b138z (allS r144z_1 all0))
    have K150z : Keep h0 T149z.heap [] := K147z.trans K149zq (allS (Or.inr lz_b138z) (allS (Or.inr lz_arr_144z) all0))
    have Sn150z := Nat.le_trans Sn147z K149zq.1
    have r149z_1 : own_A Z T149z.heap arr_144z kk_144z (.object "java/lang/Object") [(.ref r_130z), (.ref r_132z), (.ref r_134z), .null, .null, .null, .null, .null, .null, .null] := r149z_1
    have r149z_2 : Fld Z T149z.heap b138z "java/util/AbstractList" "modCount" "I" (.int (3 : Int32)) := r149z_2
    have r149z_4 : Fld Z T149z.heap b138z "java/util/ArrayList" "size" "I" (.int (3 : Int32)) := r149z_4
    show own_G p e below (T149z.setTop (mkF m 82 #[.val (.int p0), .val (.int p1), .val (.int p2), .val (.int p3), .val (.int p4), .val (.int (4 : Int32)), .val (.ref r_130z), .val (.ref r_132z), .val (.ref r_134z), .val (.ref r_136z), .val (.ref b138z), .unset, .unset] [(.int (1 : Int32))])) _
    refine own_go (fun t k => XS.pop X149z.here hx rfl (hb hby at_82) rfl rfl k) ?_
    refine own_go (fun t k => XS.iload X149z.here hx rfl (hb hby at_83) rfl k) ?_
    refine own_go (fun t k => XS.iconst X149z.here hx rfl (hb hby at_85) k) ?_
    refine own_go (fun t k => XS.icmpNo X149z.here hx rfl (hb hby at_86) rfl (tlt (by decide : (3 : Int32) < (4 : Int32))).2.2.2 k) ?_
    show own_G p e below (T149z.setTop (mkF m 89 #[.val (.int p0), .val (.int p1), .val (.int p2), .val (.int p3), .val (.int p4), .val (.int (4 : Int32)), .val (.ref r_130z), .val (.ref r_132z), .val (.ref r_134z), .val (.ref r_136z), .val (.ref b138z), .unset, .unset] [])) _
    refine own_go (fun t k => XS.aload X149z.here hx rfl (hb hby at_89) rfl rfl k) ?_
    refine own_go (fun t k => XS.aload X149z.here hx rfl (hb hby at_91) rfl rfl k) ?_
    have f151z := (((((r136z_0.ext E138z).keep K140zq).keep K144zq).keep K146zq).keep K149zq)
    obtain ⟨cq152z, kq152z, qa152z, qb152z, qc152z⟩ := isOf hZ (rfl : T149z.heap = _) r149z_0
    obtain ⟨_, _, ⟨T152z, L152z, k152z, n152z⟩, -, X152z, ⟨Lc152z, hQ152z, l152z, y152z, z152z⟩, st152z⟩ := X149z.virtualBack hx (y := own_m8) (z := own_m8) hown (mvT hZ (own_hw hw 111 rfl)) (mvT hZ (own_hw hw 112 rfl)) (notFace_of_selects (args := #[]) (mvT hZ (own_hw hw 114 rfl))) (mvT hZ (own_hw hw 114 rfl)) (mvT hZ (own_hw hw 113 rfl)) (by decide) (backOf (W := 0) (own_add1 l Z a0 hw [] b138z r_136z arr_144z kk_144z ([(.ref r_130z), (.ref r_132z), (.ref r_134z), .null, .null, .null, .null, .null, .null, .null]) (3 : Int32) (3 : Int32) (10 : Int32) 3 T149z.heap O150z r149z_0 fr_b138z r144z_1 f151z r149z_1 r144z_3 (by decide) (by show (10 : Int32).toInt = ((10 : Nat) : Int); decide) (by show 3 < 10; decide) ne_b138z_arr_144z r149z_2 r149z_3 r149z_4) hZ (own_hw hw 115 rfl) (own_hw hw 10 rfl) (by decide) (by decide)) qa152z qc152z (g := (mkF m 93 #[.val (.int p0), .val (.int p1), .val (.int p2), .val (.int p3), .val (.int p4), .val (.int (4 : Int32)), .val (.ref r_130z), .val (.ref r_132z), .val (.ref r_134z), .val (.ref r_136z), .val (.ref b138z), .unset, .unset] [(.ref r_136z), (.ref b138z)])) rfl (by rw [hml]; rfl) (Steps.refl _) (argsL := [(.ref r_136z)]) (rest := []) (lenOf pd_396412080 rfl) rfl (by show 2 * 0 + _ ≤ _; exact Nat.le_of_eq rfl) (hb hby at_93) (fun _ _ => ⟨rfl, rfl, (by decide : 6 + 0 ≤ _), (by decide : 17 + 0 ≤ _)⟩)
    dsimp only [Pt.U, Pt.locs, Pt.cells, Pt.slots] at X152z l152z y152z z152z st152z hQ152z
    subst l152z y152z z152z
    obtain ⟨rfl, NQ152z, K152zq, r152z_0, r152z_1, r152z_2, r152z_3, r152z_4⟩ := hQ152z
    refine own_tr st152z ?_
    have N152z := Fr.app N149z NQ152z
    have O153z : Ext Z.heap T152z.heap := own_ext_keep O150z K152zq (allS fr_b138z (allS r144z_1 all0))
    have K153z : Keep h0 T152z.heap [] := K150z.trans K152zq (allS (Or.inr lz_b138z) (allS (Or.inr lz_arr_144z) all0))
    have Sn153z := Nat.le_trans Sn150z K152zq.1
    have r152z_1 : own_A Z T152z.heap arr_144z kk_144z (.object "java/lang/Object") [(.ref r_130z), (.ref r_132z), (.ref r_134z), (.ref r_136z), .null, .null, .null, .null, .null, .null] := r152z_1
    have r152z_2 : Fld Z T152z.heap b138z "java/util/AbstractList" "modCount" "I" (.int (4 : Int32)) := r152z_2
    have r152z_4 : Fld Z T152z.heap b138z "java/util/ArrayList" "size" "I" (.int (4 : Int32)) := r152z_4
    show own_G p e below (T152z.setTop (mkF m 96 #[.val (.int p0), .val (.int p1), .val (.int p2), .val (.int p3), .val (.int p4), .val (.int (4 : Int32)), .val (.ref r_130z), .val (.ref r_132z), .val (.ref r_134z), .val (.ref r_136z), .val (.ref b138z), .unset, .unset] [(.int (1 : Int32))])) _
    refine own_go (fun t k => XS.pop X152z.here hx rfl (hb hby at_96) rfl rfl k) ?_
    refine own_go (fun t k => XS.aload X152z.here hx rfl (hb hby at_97) rfl rfl k) ?_
    have f154z := ((((f142z.keep K144zq).keep K146zq).keep K149zq).keep K152zq)
    have f155z := ((((f143z.keep K144zq).keep K146zq).keep K149zq).keep K152zq)
    obtain ⟨_, _, ⟨T156z, L156z, k156z, n156z⟩, -, X156z, Si156z, gr156z, ⟨Lc156z, hQ156z, l156z, y156z, z156z⟩, st156z⟩ := callSS X152z hx (y := own_m20) hown (mvT hZ (own_hw hw 34 rfl)) (mvT hZ (own_hw hw 35 rfl)) (mvT hZ (own_hw hw 36 rfl)) (mvT hZ (own_hw hw 37 rfl)) (by decide) (backOfS (W := 0) (own_copy4 l Z a0 hw [] b138z (4 : Int32) r_130z r_132z r_134z r_136z arr_144z kk_144z T152z.heap O153z r152z_1 r152z_0 f154z f155z ((f148z.keep K149zq).keep K152zq) (f151z.keep K152zq) r152z_2 r152z_3 r152z_4) hZ (own_hw hw 37 rfl) (own_hw hw 36 rfl) (by decide) (by decide)) (g := (mkF m 99 #[.val (.int p0), .val (.int p1), .val (.int p2), .val (.int p3), .val (.int p4), .val (.int (4 : Int32)), .val (.ref r_130z), .val (.ref r_132z), .val (.ref r_134z), .val (.ref r_136z), .val (.ref b138z), .unset, .unset] [(.ref b138z)])) rfl (by rw [hml]; rfl) (argsL := [(.ref b138z)]) (rest := []) (lenOf pd_548093608 rfl) rfl (by show 2 * 0 + _ ≤ _; exact Nat.le_of_eq rfl) (hb hby at_99) (fun _ _ => ⟨rfl, rfl, (by decide : 6 + 13 ≤ _), (by decide : 17 + 399 ≤ _)⟩)
    dsimp only [Pt.U, Pt.locs, Pt.cells, Pt.slots] at X156z l156z y156z z156z st156z hQ156z Si156z gr156z
    subst l156z y156z z156z
    obtain ⟨r_156z, ar_156z, kr_156z, rfl, NQ156z, K156zq, r156z_0, r156z_1, r156z_2, r156z_3, r156z_4, r156z_5, r156z_6⟩ := hQ156z
    refine own_tr st156z ?_
    have N156z := Fr.app N152z NQ156z
    have Sx156z : s.Since T156z.vm T156z.heap.size := foldS Si0 (by first | exact Sn153z | (rw [Nat.add_zero]; exact Sn153z)) Si156z gr156z
    have hZ156z : Z.Warmed39 (s.setVm T156z.vm).vm := State.Warmed39.trans (t := s.setVm s.vm) hZ Si156z.1
    have hown156z : (s.setVm T156z.vm).vm.findClass "com/example/etapa/etapa/mongodb/EntityBatchCopyOfPinLaw" = some m.cls := by rw [show (s.setVm T156z.vm).vm = T156z.vm from rfl, Si156z.1.alike.findClass]; exact hown
    have X156z := (show Stand _ _ _ _ (s.setVm T156z.vm) _ _ _ _ _ _ _ _ _ from X156z)
    have Sn156z : T156z.heap.size ≤ T156z.heap.size := Nat.le_refl _
    have O157z : Ext Z.heap T156z.heap := own_ext_keep O153z K156zq all0
    have K157z : Keep h0 T156z.heap [] := K153z.trans K156zq all0
    have lz_r_156z : h0.size ≤ r_156z := Nat.le_trans K153z.1 r156z_1
    have ne_r_130z_r_156z : r_130z ≠ r_156z := Nat.ne_of_lt (Nat.lt_of_lt_of_le f154z.lt r156z_1)
    have ne_r_132z_r_156z : r_132z ≠ r_156z := Nat.ne_of_lt (Nat.lt_of_lt_of_le f155z.lt r156z_1)
    have ne_r_134z_r_156z : r_134z ≠ r_156z := Nat.ne_of_lt (Nat.lt_of_lt_of_le ((f148z.keep K149zq).keep K152zq).lt r156z_1)
    have ne_r_136z_r_156z : r_136z ≠ r_156z := Nat.ne_of_lt (Nat.lt_of_lt_of_le (f151z.keep K152zq).lt r156z_1)
    have ne_b138z_r_156z : b138z ≠ r_156z := Nat.ne_of_lt (Nat.lt_of_lt_of_le r152z_0.lt r156z_1)
    have ne_arr_144z_r_156z : arr_144z ≠ r_156z := Nat.ne_of_lt (Nat.lt_of_lt_of_le r152z_1.lt r156z_1)
    have lz_ar_156z : h0.size ≤ ar_156z := Nat.le_trans K153z.1 r156z_6
    have ne_r_130z_ar_156z : r_130z ≠ ar_156z := Nat.ne_of_lt (Nat.lt_of_lt_of_le f154z.lt r156z_6)
    have ne_r_132z_ar_156z : r_132z ≠ ar_156z := Nat.ne_of_lt (Nat.lt_of_lt_of_le f155z.lt r156z_6)
    have ne_r_134z_ar_156z : r_134z ≠ ar_156z := Nat.ne_of_lt (Nat.lt_of_lt_of_le ((f148z.keep K149zq).keep K152zq).lt r156z_6)
    have ne_r_136z_ar_156z : r_136z ≠ ar_156z := Nat.ne_of_lt (Nat.lt_of_lt_of_le (f151z.keep K152zq).lt r156z_6)
    have ne_b138z_ar_156z : b138z ≠ ar_156z := Nat.ne_of_lt (Nat.lt_of_lt_of_le r152z_0.lt r156z_6)
    have ne_arr_144z_ar_156z : arr_144z ≠ ar_156z := Nat.ne_of_lt (Nat.lt_of_lt_of_le r152z_1.lt r156z_6)
    show own_G p e below (T156z.setTop (mkF m 102 #[.val (.int p0), .val (.int p1), .val (.int p2), .val (.int p3), .val (.int p4), .val (.int (4 : Int32)), .val (.ref r_130z), .val (.ref r_132z), .val (.ref r_134z), .val (.ref r_136z), .val (.ref b138z), .unset, .unset] [(.ref r_156z)])) _
    refine own_go (fun t k => XS.astore X156z.here hx rfl (hb hby at_102) rfl rfl (l' := #[.val (.int p0), .val (.int p1), .val (.int p2), .val (.int p3), .val (.int p4), .val (.int (4 : Int32)), .val (.ref r_130z), .val (.ref r_132z), .val (.ref r_134z), .val (.ref r_136z), .val (.ref b138z), .val (.ref r_156z), .unset]) rfl k) ?_
    refine own_go (fun t k => XS.aload X156z.here hx rfl (hb hby at_104) rfl rfl k) ?_
    refine own_go (fun t k => XS.aload X156z.here hx rfl (hb hby at_106) rfl rfl k) ?_
    refine own_go (fun t k => Jvm.RoadKit.acmp (g := (mkF m 108 #[.val (.int p0), .val (.int p1), .val (.int p2), .val (.int p3), .val (.int p4), .val (.int (4 : Int32)), .val (.ref r_130z), .val (.ref r_132z), .val (.ref r_134z), .val (.ref r_136z), .val (.ref b138z), .val (.ref r_156z), .unset] [(.ref b138z), (.ref r_156z)])) X156z hx rfl rfl rfl (pc0 := 108) (pc' := 111) (same := false) rfl (hb hby at_108) rfl (decide_eq_false fun q => (Ne.symm ne_b138z_r_156z) (Value.ref.inj q)) (by decide) (by decide) k) ?_
    show own_G p e below (T156z.setTop (mkF m 111 #[.val (.int p0), .val (.int p1), .val (.int p2), .val (.int p3), .val (.int p4), .val (.int (4 : Int32)), .val (.ref r_130z), .val (.ref r_132z), .val (.ref r_134z), .val (.ref r_136z), .val (.ref b138z), .val (.ref r_156z), .unset] [])) _
    refine own_go (fun t k => XS.aload X156z.here hx rfl (hb hby at_111) rfl rfl k) ?_
    obtain ⟨cq158z, kq158z, qa158z, qb158z, qc158z⟩ := isOf hZ156z (rfl : T156z.heap = _) r156z_0
    obtain ⟨_, _, ⟨T158z, L158z, k158z, n158z⟩, -, X158z, ⟨Lc158z, hQ158z, l158z, y158z, z158z⟩, st158z⟩ := X156z.interfaceBack hx (xi := own_m31) (y := own_m9) hown156z (mvT hZ156z (own_hw hw 102 rfl)) (mvT hZ156z (own_hw hw 103 rfl)) (mvT hZ156z (own_hw hw 104 rfl)) (mvT hZ156z (own_hw hw 105 rfl)) (mvT hZ156z (own_hw hw 55 rfl)) (mvT hZ156z (own_hw hw 56 rfl)) (mvT hZ156z (own_hw hw 57 rfl)) (mvT hZ156z (own_hw hw 106 rfl)) (by decide) (backOf (W := 0) (own_size l Z a0 hw [] r_156z (4 : Int32) T156z.heap O157z r156z_5) hZ156z (own_hw hw 59 rfl) (own_hw hw 10 rfl) (by decide) (by decide)) qa158z qb158z qc158z (g := (mkF m 113 #[.val (.int p0), .val (.int p1), .val (.int p2), .val (.int p3), .val (.int p4), .val (.int (4 : Int32)), .val (.ref r_130z), .val (.ref r_132z), .val (.ref r_134z), .val (.ref r_136z), .val (.ref b138z), .val (.ref r_156z), .unset] [(.ref r_156z)])) rfl (by rw [hml]; rfl) (Steps.refl _) (argsL := []) (rest := []) (lenOf pd_193421983 rfl) rfl (by show 2 * 0 + _ ≤ _; exact Nat.le_of_eq rfl) (hb hby at_113) (fun _ _ => ⟨rfl, rfl, (by decide : 19 + 0 ≤ _), (by decide : 416 + 0 ≤ _)⟩)
    dsimp only [Pt.U, Pt.locs, Pt.cells, Pt.slots] at X158z l158z y158z z158z st158z hQ158z
    subst l158z y158z z158z
    obtain ⟨rfl, NQ158z, K158zq⟩ := hQ158z
    refine own_tr st158z ?_
    have N158z := Fr.app N156z NQ158z
    show own_G p e below (T158z.setTop (mkF m 118 #[.val (.int p0), .val (.int p1), .val (.int p2), .val (.int p3), .val (.int p4), .val (.int (4 : Int32)), .val (.ref r_130z), .val (.ref r_132z), .val (.ref r_134z), .val (.ref r_136z), .val (.ref b138z), .val (.ref r_156z), .unset] [(.int (4 : Int32))])) _
    refine own_go (fun t k => XS.iload X158z.here hx rfl (hb hby at_118) rfl k) ?_
    refine own_go (fun t k => XS.icmpNo X158z.here hx rfl (hb hby at_120) rfl (teq (by decide : (4 : Int32) = (4 : Int32))).2 k) ?_
    show own_G p e below (T158z.setTop (mkF m 123 #[.val (.int p0), .val (.int p1), .val (.int p2), .val (.int p3), .val (.int p4), .val (.int (4 : Int32)), .val (.ref r_130z), .val (.ref r_132z), .val (.ref r_134z), .val (.ref r_136z), .val (.ref b138z), .val (.ref r_156z), .unset] [])) _
    refine own_go (fun t k => XS.aload X158z.here hx rfl (hb hby at_123) rfl rfl k) ?_
    refine own_go (fun t k => XS.iconst X158z.here hx rfl (hb hby at_125) k) ?_
    refine own_go (fun t k => XS.aload X158z.here hx rfl (hb hby at_126) rfl rfl k) ?_
    refine own_go (fun t k => XS.iload X158z.here hx rfl (hb hby at_128) rfl k) ?_
    show own_G p e below (T158z.setTop (mkF m 130 #[.val (.int p0), .val (.int p1), .val (.int p2), .val (.int p3), .val (.int p4), .val (.int (4 : Int32)), .val (.ref r_130z), .val (.ref r_132z), .val (.ref r_134z), .val (.ref r_136z), .val (.ref b138z), .val (.ref r_156z), .unset] [(.int (4 : Int32)), (.ref r_130z), (.int (0 : Int32)), (.ref r_156z)])) _
    obtain ⟨_, _, ⟨T159z, L159z, k159z, n159z⟩, -, X159z, ⟨Lc159z, hQ159z, l159z, y159z, z159z⟩, st159z⟩ := Jvm.LawKit.callS X158z hx (y := own_m26) hown156z (mvT hZ156z (own_hw hw 107 rfl)) (mvT hZ156z (own_hw hw 108 rfl)) (mvT hZ156z (own_hw hw 109 rfl)) (mvT hZ156z (own_hw hw 110 rfl)) (by decide) (backOf (W := 0) (own_at4_0 l Z a0 hw [] r_156z r_130z ar_156z kr_156z ([(.ref r_130z), (.ref r_132z), (.ref r_134z), (.ref r_136z)]) T156z.heap O157z r156z_0 r156z_4 r156z_2 r156z_5 rfl) hZ156z (own_hw hw 110 rfl) (own_hw hw 109 rfl) (by decide) (by decide)) (g := (mkF m 130 #[.val (.int p0), .val (.int p1), .val (.int p2), .val (.int p3), .val (.int p4), .val (.int (4 : Int32)), .val (.ref r_130z), .val (.ref r_132z), .val (.ref r_134z), .val (.ref r_136z), .val (.ref b138z), .val (.ref r_156z), .unset] [(.int (4 : Int32)), (.ref r_130z), (.int (0 : Int32)), (.ref r_156z)])) rfl (by rw [hml]; rfl) (argsL := [(.ref r_156z), (.int (0 : Int32)), (.ref r_130z), (.int (4 : Int32))]) (rest := []) (lenOf pd_2223509722 rfl) rfl (by show 2 * 0 + _ ≤ _; exact Nat.le_of_eq rfl) (hb hby at_130) (fun _ _ => ⟨rfl, K158zq, (by decide : 19 + 0 ≤ _), (by decide : 416 + 0 ≤ _)⟩)
    dsimp only [Pt.U, Pt.locs, Pt.cells, Pt.slots] at X159z l159z y159z z159z st159z hQ159z
    subst l159z y159z z159z
    obtain ⟨rfl, NQ159z, K159zq⟩ := hQ159z
    refine own_go st159z ?_
    have N159z := Fr.app N158z NQ159z
    show own_G p e below (T159z.setTop (mkF m 133 #[.val (.int p0), .val (.int p1), .val (.int p2), .val (.int p3), .val (.int p4), .val (.int (4 : Int32)), .val (.ref r_130z), .val (.ref r_132z), .val (.ref r_134z), .val (.ref r_136z), .val (.ref b138z), .val (.ref r_156z), .unset] [(.int (1 : Int32))])) _
    refine own_go (fun t k => XS.ifNo X159z.here hx rfl (hb hby at_133) rfl ((if0 _ _).trans (feq (by decide : ¬ ((1 : Int32) = (0 : Int32)))).1) k) ?_
    show own_G p e below (T159z.setTop (mkF m 136 #[.val (.int p0), .val (.int p1), .val (.int p2), .val (.int p3), .val (.int p4), .val (.int (4 : Int32)), .val (.ref r_130z), .val (.ref r_132z), .val (.ref r_134z), .val (.ref r_136z), .val (.ref b138z), .val (.ref r_156z), .unset] [])) _
    refine own_go (fun t k => XS.aload X159z.here hx rfl (hb hby at_136) rfl rfl k) ?_
    refine own_go (fun t k => XS.iconst X159z.here hx rfl (hb hby at_138) k) ?_
    refine own_go (fun t k => XS.aload X159z.here hx rfl (hb hby at_139) rfl rfl k) ?_
    refine own_go (fun t k => XS.iload X159z.here hx rfl (hb hby at_141) rfl k) ?_
    show own_G p e below (T159z.setTop (mkF m 143 #[.val (.int p0), .val (.int p1), .val (.int p2), .val (.int p3), .val (.int p4), .val (.int (4 : Int32)), .val (.ref r_130z), .val (.ref r_132z), .val (.ref r_134z), .val (.ref r_136z), .val (.ref b138z), .val (.ref r_156z), .unset] [(.int (4 : Int32)), (.ref r_132z), (.int (1 : Int32)), (.ref r_156z)])) _
    obtain ⟨_, _, ⟨T160z, L160z, k160z, n160z⟩, -, X160z, ⟨Lc160z, hQ160z, l160z, y160z, z160z⟩, st160z⟩ := Jvm.LawKit.callS X159z hx (y := own_m26) hown156z (mvT hZ156z (own_hw hw 107 rfl)) (mvT hZ156z (own_hw hw 108 rfl)) (mvT hZ156z (own_hw hw 109 rfl)) (mvT hZ156z (own_hw hw 110 rfl)) (by decide) (backOf (W := 0) (own_at4_1 l Z a0 hw [] r_156z r_132z ar_156z kr_156z ([(.ref r_130z), (.ref r_132z), (.ref r_134z), (.ref r_136z)]) T156z.heap O157z r156z_0 r156z_4 r156z_2 r156z_5 rfl) hZ156z (own_hw hw 110 rfl) (own_hw hw 109 rfl) (by decide) (by decide)) (g := (mkF m 143 #[.val (.int p0), .val (.int p1), .val (.int p2), .val (.int p3), .val (.int p4), .val (.int (4 : Int32)), .val (.ref r_130z), .val (.ref r_132z), .val (.ref r_134z), .val (.ref r_136z), .val (.ref b138z), .val (.ref r_156z), .unset] [(.int (4 : Int32)), (.ref r_132z), (.int (1 : Int32)), (.ref r_156z)])) rfl (by rw [hml]; rfl) (argsL := [(.ref r_156z), (.int (1 : Int32)), (.ref r_132z), (.int (4 : Int32))]) (rest := []) (lenOf pd_2223509722 rfl) rfl (by show 2 * 0 + _ ≤ _; exact Nat.le_of_eq rfl) (hb hby at_143) (fun _ _ => ⟨rfl, K159zq, (by decide : 19 + 0 ≤ _), (by decide : 416 + 0 ≤ _)⟩)
    dsimp only [Pt.U, Pt.locs, Pt.cells, Pt.slots] at X160z l160z y160z z160z st160z hQ160z
    subst l160z y160z z160z
    obtain ⟨rfl, NQ160z, K160zq⟩ := hQ160z
    refine own_go st160z ?_
    have N160z := Fr.app N159z NQ160z
    show own_G p e below (T160z.setTop (mkF m 146 #[.val (.int p0), .val (.int p1), .val (.int p2), .val (.int p3), .val (.int p4), .val (.int (4 : Int32)), .val (.ref r_130z), .val (.ref r_132z), .val (.ref r_134z), .val (.ref r_136z), .val (.ref b138z), .val (.ref r_156z), .unset] [(.int (1 : Int32))])) _
    refine own_go (fun t k => XS.ifNo X160z.here hx rfl (hb hby at_146) rfl ((if0 _ _).trans (feq (by decide : ¬ ((1 : Int32) = (0 : Int32)))).1) k) ?_
    show own_G p e below (T160z.setTop (mkF m 149 #[.val (.int p0), .val (.int p1), .val (.int p2), .val (.int p3), .val (.int p4), .val (.int (4 : Int32)), .val (.ref r_130z), .val (.ref r_132z), .val (.ref r_134z), .val (.ref r_136z), .val (.ref b138z), .val (.ref r_156z), .unset] [])) _
    refine own_go (fun t k => XS.aload X160z.here hx rfl (hb hby at_149) rfl rfl k) ?_
    refine own_go (fun t k => XS.iconst X160z.here hx rfl (hb hby at_151) k) ?_
    refine own_go (fun t k => XS.aload X160z.here hx rfl (hb hby at_152) rfl rfl k) ?_
    refine own_go (fun t k => XS.iload X160z.here hx rfl (hb hby at_154) rfl k) ?_
    show own_G p e below (T160z.setTop (mkF m 156 #[.val (.int p0), .val (.int p1), .val (.int p2), .val (.int p3), .val (.int p4), .val (.int (4 : Int32)), .val (.ref r_130z), .val (.ref r_132z), .val (.ref r_134z), .val (.ref r_136z), .val (.ref b138z), .val (.ref r_156z), .unset] [(.int (4 : Int32)), (.ref r_134z), (.int (2 : Int32)), (.ref r_156z)])) _
    obtain ⟨_, _, ⟨T161z, L161z, k161z, n161z⟩, -, X161z, ⟨Lc161z, hQ161z, l161z, y161z, z161z⟩, st161z⟩ := Jvm.LawKit.callS X160z hx (y := own_m26) hown156z (mvT hZ156z (own_hw hw 107 rfl)) (mvT hZ156z (own_hw hw 108 rfl)) (mvT hZ156z (own_hw hw 109 rfl)) (mvT hZ156z (own_hw hw 110 rfl)) (by decide) (backOf (W := 0) (own_at4_2 l Z a0 hw [] r_156z r_134z ar_156z kr_156z ([(.ref r_130z), (.ref r_132z), (.ref r_134z), (.ref r_136z)]) T156z.heap O157z r156z_0 r156z_4 r156z_2 r156z_5 rfl) hZ156z (own_hw hw 110 rfl) (own_hw hw 109 rfl) (by decide) (by decide)) (g := (mkF m 156 #[.val (.int p0), .val (.int p1), .val (.int p2), .val (.int p3), .val (.int p4), .val (.int (4 : Int32)), .val (.ref r_130z), .val (.ref r_132z), .val (.ref r_134z), .val (.ref r_136z), .val (.ref b138z), .val (.ref r_156z), .unset] [(.int (4 : Int32)), (.ref r_134z), (.int (2 : Int32)), (.ref r_156z)])) rfl (by rw [hml]; rfl) (argsL := [(.ref r_156z), (.int (2 : Int32)), (.ref r_134z), (.int (4 : Int32))]) (rest := []) (lenOf pd_2223509722 rfl) rfl (by show 2 * 0 + _ ≤ _; exact Nat.le_of_eq rfl) (hb hby at_156) (fun _ _ => ⟨rfl, K160zq, (by decide : 19 + 0 ≤ _), (by decide : 416 + 0 ≤ _)⟩)
    dsimp only [Pt.U, Pt.locs, Pt.cells, Pt.slots] at X161z l161z y161z z161z st161z hQ161z
    subst l161z y161z z161z
    obtain ⟨rfl, NQ161z, K161zq⟩ := hQ161z
    refine own_go st161z ?_
    have N161z := Fr.app N160z NQ161z
    show own_G p e below (T161z.setTop (mkF m 159 #[.val (.int p0), .val (.int p1), .val (.int p2), .val (.int p3), .val (.int p4), .val (.int (4 : Int32)), .val (.ref r_130z), .val (.ref r_132z), .val (.ref r_134z), .val (.ref r_136z), .val (.ref b138z), .val (.ref r_156z), .unset] [(.int (1 : Int32))])) _
    refine own_go (fun t k => XS.ifNo X161z.here hx rfl (hb hby at_159) rfl ((if0 _ _).trans (feq (by decide : ¬ ((1 : Int32) = (0 : Int32)))).1) k) ?_
    show own_G p e below (T161z.setTop (mkF m 162 #[.val (.int p0), .val (.int p1), .val (.int p2), .val (.int p3), .val (.int p4), .val (.int (4 : Int32)), .val (.ref r_130z), .val (.ref r_132z), .val (.ref r_134z), .val (.ref r_136z), .val (.ref b138z), .val (.ref r_156z), .unset] [])) _
    refine own_go (fun t k => XS.aload X161z.here hx rfl (hb hby at_162) rfl rfl k) ?_
    refine own_go (fun t k => XS.iconst X161z.here hx rfl (hb hby at_164) k) ?_
    refine own_go (fun t k => XS.aload X161z.here hx rfl (hb hby at_165) rfl rfl k) ?_
    refine own_go (fun t k => XS.iload X161z.here hx rfl (hb hby at_167) rfl k) ?_
    show own_G p e below (T161z.setTop (mkF m 169 #[.val (.int p0), .val (.int p1), .val (.int p2), .val (.int p3), .val (.int p4), .val (.int (4 : Int32)), .val (.ref r_130z), .val (.ref r_132z), .val (.ref r_134z), .val (.ref r_136z), .val (.ref b138z), .val (.ref r_156z), .unset] [(.int (4 : Int32)), (.ref r_136z), (.int (3 : Int32)), (.ref r_156z)])) _
    obtain ⟨_, _, ⟨T162z, L162z, k162z, n162z⟩, -, X162z, ⟨Lc162z, hQ162z, l162z, y162z, z162z⟩, st162z⟩ := Jvm.LawKit.callS X161z hx (y := own_m26) hown156z (mvT hZ156z (own_hw hw 107 rfl)) (mvT hZ156z (own_hw hw 108 rfl)) (mvT hZ156z (own_hw hw 109 rfl)) (mvT hZ156z (own_hw hw 110 rfl)) (by decide) (backOf (W := 0) (own_at4_3 l Z a0 hw [] r_156z r_136z ar_156z kr_156z ([(.ref r_130z), (.ref r_132z), (.ref r_134z), (.ref r_136z)]) T156z.heap O157z r156z_0 r156z_4 r156z_2 r156z_5 rfl) hZ156z (own_hw hw 110 rfl) (own_hw hw 109 rfl) (by decide) (by decide)) (g := (mkF m 169 #[.val (.int p0), .val (.int p1), .val (.int p2), .val (.int p3), .val (.int p4), .val (.int (4 : Int32)), .val (.ref r_130z), .val (.ref r_132z), .val (.ref r_134z), .val (.ref r_136z), .val (.ref b138z), .val (.ref r_156z), .unset] [(.int (4 : Int32)), (.ref r_136z), (.int (3 : Int32)), (.ref r_156z)])) rfl (by rw [hml]; rfl) (argsL := [(.ref r_156z), (.int (3 : Int32)), (.ref r_136z), (.int (4 : Int32))]) (rest := []) (lenOf pd_2223509722 rfl) rfl (by show 2 * 0 + _ ≤ _; exact Nat.le_of_eq rfl) (hb hby at_169) (fun _ _ => ⟨rfl, K161zq, (by decide : 19 + 0 ≤ _), (by decide : 416 + 0 ≤ _)⟩)
    dsimp only [Pt.U, Pt.locs, Pt.cells, Pt.slots] at X162z l162z y162z z162z st162z hQ162z
    subst l162z y162z z162z
    obtain ⟨rfl, NQ162z, K162zq⟩ := hQ162z
    refine own_go st162z ?_
    have N162z := Fr.app N161z NQ162z
    show own_G p e below (T162z.setTop (mkF m 172 #[.val (.int p0), .val (.int p1), .val (.int p2), .val (.int p3), .val (.int p4), .val (.int (4 : Int32)), .val (.ref r_130z), .val (.ref r_132z), .val (.ref r_134z), .val (.ref r_136z), .val (.ref b138z), .val (.ref r_156z), .unset] [(.int (1 : Int32))])) _
    refine own_go (fun t k => XS.ifNo X162z.here hx rfl (hb hby at_172) rfl ((if0 _ _).trans (feq (by decide : ¬ ((1 : Int32) = (0 : Int32)))).1) k) ?_
    show own_G p e below (T162z.setTop (mkF m 175 #[.val (.int p0), .val (.int p1), .val (.int p2), .val (.int p3), .val (.int p4), .val (.int (4 : Int32)), .val (.ref r_130z), .val (.ref r_132z), .val (.ref r_134z), .val (.ref r_136z), .val (.ref b138z), .val (.ref r_156z), .unset] [])) _
    refine own_go (fun t k => XS.iconst X162z.here hx rfl (hb hby at_175) k) ?_
    refine own_go (fun t k => XS.goto X162z.here hx rfl (pc0 := 176) (pc' := 180) rfl (hb hby at_176) (by decide) (by decide) k) ?_
    show own_G p e below (T162z.setTop (mkF m 180 #[.val (.int p0), .val (.int p1), .val (.int p2), .val (.int p3), .val (.int p4), .val (.int (4 : Int32)), .val (.ref r_130z), .val (.ref r_132z), .val (.ref r_134z), .val (.ref r_136z), .val (.ref b138z), .val (.ref r_156z), .unset] [(.int (1 : Int32))])) _
    refine own_go (fun t k => XS.istore X162z.here hx rfl (hb hby at_180) rfl (l' := #[.val (.int p0), .val (.int p1), .val (.int p2), .val (.int p3), .val (.int p4), .val (.int (4 : Int32)), .val (.ref r_130z), .val (.ref r_132z), .val (.ref r_134z), .val (.ref r_136z), .val (.ref b138z), .val (.ref r_156z), .val (.int (1 : Int32))]) rfl k) ?_
    refine own_go (fun t k => XS.aload X162z.here hx rfl (hb hby at_182) rfl rfl k) ?_
    refine own_go (fun t k => XS.aload X162z.here hx rfl (hb hby at_184) rfl rfl k) ?_
    obtain ⟨cq163z, kq163z, qa163z, qb163z, qc163z⟩ := isOf hZ156z K162zq (r152z_0.keep K156zq)
    obtain ⟨_, _, ⟨T163z, L163z, k163z, n163z⟩, -, X163z, ⟨Lc163z, hQ163z, l163z, y163z, z163z⟩, st163z⟩ := X162z.virtualBack hx (y := own_m8) (z := own_m8) hown156z (mvT hZ156z (own_hw hw 111 rfl)) (mvT hZ156z (own_hw hw 112 rfl)) (notFace_of_selects (args := #[]) (mvT hZ156z (own_hw hw 114 rfl))) (mvT hZ156z (own_hw hw 114 rfl)) (mvT hZ156z (own_hw hw 113 rfl)) (by decide) (backOf (W := 0) (own_add1 l Z a0 hw [] b138z r_132z arr_144z kk_144z ([(.ref r_130z), (.ref r_132z), (.ref r_134z), (.ref r_136z), .null, .null, .null, .null, .null, .null]) (4 : Int32) (4 : Int32) (10 : Int32) 4 T156z.heap O157z (r152z_0.keep K156zq) fr_b138z r144z_1 (f155z.keep K156zq) (r152z_1.keep K156zq (by simp)) r144z_3 (by decide) (by show (10 : Int32).toInt = ((10 : Nat) : Int); decide) (by show 4 < 10; decide) ne_b138z_arr_144z (r152z_2.keep K156zq (by simp)) (r152z_3.keep K156zq (by simp)) (r152z_4.keep K156zq (by simp))) hZ156z (own_hw hw 115 rfl) (own_hw hw 10 rfl) (by decide) (by decide)) qa163z qc163z (g := (mkF m 186 #[.val (.int p0), .val (.int p1), .val (.int p2), .val (.int p3), .val (.int p4), .val (.int (4 : Int32)), .val (.ref r_130z), .val (.ref r_132z), .val (.ref r_134z), .val (.ref r_136z), .val (.ref b138z), .val (.ref r_156z), .val (.int (1 : Int32))] [(.ref r_132z), (.ref b138z)])) rfl (by rw [hml]; rfl) (Steps.refl _) (argsL := [(.ref r_132z)]) (rest := []) (lenOf pd_396412080 rfl) rfl (by show 2 * 0 + _ ≤ _; exact Nat.le_of_eq rfl) (hb hby at_186) (fun _ _ => ⟨rfl, K162zq, (by decide : 19 + 0 ≤ _), (by decide : 416 + 0 ≤ _)⟩)
    dsimp only [Pt.U, Pt.locs, Pt.cells, Pt.slots] at X163z l163z y163z z163z st163z hQ163z
    subst l163z y163z z163z
    obtain ⟨rfl, NQ163z, K163zq, r163z_0, r163z_1, r163z_2, r163z_3, r163z_4⟩ := hQ163z
    refine own_tr st163z ?_
    have N163z := Fr.app N162z NQ163z
    have O164z : Ext Z.heap T163z.heap := own_ext_keep O157z K163zq (allS fr_b138z (allS r144z_1 all0))
    have K164z : Keep h0 T163z.heap [] := K157z.trans K163zq (allS (Or.inr lz_b138z) (allS (Or.inr lz_arr_144z) all0))
    have Sn164z := Nat.le_trans Sn156z K163zq.1
    have r163z_1 : own_A Z T163z.heap arr_144z kk_144z (.object "java/lang/Object") [(.ref r_130z), (.ref r_132z), (.ref r_134z), (.ref r_136z), (.ref r_132z), .null, .null, .null, .null, .null] := r163z_1
    have r163z_2 : Fld Z T163z.heap b138z "java/util/AbstractList" "modCount" "I" (.int (5 : Int32)) := r163z_2
    have r163z_4 : Fld Z T163z.heap b138z "java/util/ArrayList" "size" "I" (.int (5 : Int32)) := r163z_4
    show own_G p e below (T163z.setTop (mkF m 189 #[.val (.int p0), .val (.int p1), .val (.int p2), .val (.int p3), .val (.int p4), .val (.int (4 : Int32)), .val (.ref r_130z), .val (.ref r_132z), .val (.ref r_134z), .val (.ref r_136z), .val (.ref b138z), .val (.ref r_156z), .val (.int (1 : Int32))] [(.int (1 : Int32))])) _
    refine own_go (fun t k => XS.pop X163z.here hx rfl (hb hby at_189) rfl rfl k) ?_
    refine own_go (fun t k => XS.iload X163z.here hx rfl (hb hby at_190) rfl k) ?_
    refine own_go (fun t k => XS.ifNo X163z.here hx rfl (hb hby at_192) rfl ((if0 _ _).trans (feq (by decide : ¬ ((1 : Int32) = (0 : Int32)))).1) k) ?_
    show own_G p e below (T163z.setTop (mkF m 195 #[.val (.int p0), .val (.int p1), .val (.int p2), .val (.int p3), .val (.int p4), .val (.int (4 : Int32)), .val (.ref r_130z), .val (.ref r_132z), .val (.ref r_134z), .val (.ref r_136z), .val (.ref b138z), .val (.ref r_156z), .val (.int (1 : Int32))] [])) _
    refine own_go (fun t k => XS.aload X163z.here hx rfl (hb hby at_195) rfl rfl k) ?_
    have f165z := (r156z_5.keep K163zq (by simp only [List.mem_cons, List.not_mem_nil, or_false, not_or]; exact ⟨(Ne.symm ne_b138z_r_156z), (Ne.symm ne_arr_144z_r_156z)⟩))
    obtain ⟨cq166z, kq166z, qa166z, qb166z, qc166z⟩ := isOf hZ156z (rfl : T163z.heap = _) (r156z_0.keep K163zq)
    obtain ⟨_, _, ⟨T166z, L166z, k166z, n166z⟩, -, X166z, ⟨Lc166z, hQ166z, l166z, y166z, z166z⟩, st166z⟩ := X163z.interfaceBack hx (xi := own_m31) (y := own_m9) hown156z (mvT hZ156z (own_hw hw 102 rfl)) (mvT hZ156z (own_hw hw 103 rfl)) (mvT hZ156z (own_hw hw 104 rfl)) (mvT hZ156z (own_hw hw 105 rfl)) (mvT hZ156z (own_hw hw 55 rfl)) (mvT hZ156z (own_hw hw 56 rfl)) (mvT hZ156z (own_hw hw 57 rfl)) (mvT hZ156z (own_hw hw 106 rfl)) (by decide) (backOf (W := 0) (own_size l Z a0 hw [] r_156z (4 : Int32) T163z.heap O164z f165z) hZ156z (own_hw hw 59 rfl) (own_hw hw 10 rfl) (by decide) (by decide)) qa166z qb166z qc166z (g := (mkF m 197 #[.val (.int p0), .val (.int p1), .val (.int p2), .val (.int p3), .val (.int p4), .val (.int (4 : Int32)), .val (.ref r_130z), .val (.ref r_132z), .val (.ref r_134z), .val (.ref r_136z), .val (.ref b138z), .val (.ref r_156z), .val (.int (1 : Int32))] [(.ref r_156z)])) rfl (by rw [hml]; rfl) (Steps.refl _) (argsL := []) (rest := []) (lenOf pd_193421983 rfl) rfl (by show 2 * 0 + _ ≤ _; exact Nat.le_of_eq rfl) (hb hby at_197) (fun _ _ => ⟨rfl, rfl, (by decide : 19 + 0 ≤ _), (by decide : 416 + 0 ≤ _)⟩)
    dsimp only [Pt.U, Pt.locs, Pt.cells, Pt.slots] at X166z l166z y166z z166z st166z hQ166z
    subst l166z y166z z166z
    obtain ⟨rfl, NQ166z, K166zq⟩ := hQ166z
    refine own_tr st166z ?_
    have N166z := Fr.app N163z NQ166z
    show own_G p e below (T166z.setTop (mkF m 202 #[.val (.int p0), .val (.int p1), .val (.int p2), .val (.int p3), .val (.int p4), .val (.int (4 : Int32)), .val (.ref r_130z), .val (.ref r_132z), .val (.ref r_134z), .val (.ref r_136z), .val (.ref b138z), .val (.ref r_156z), .val (.int (1 : Int32))] [(.int (4 : Int32))])) _
    refine own_go (fun t k => XS.iload X166z.here hx rfl (hb hby at_202) rfl k) ?_
    refine own_go (fun t k => XS.icmpNo X166z.here hx rfl (hb hby at_204) rfl (teq (by decide : (4 : Int32) = (4 : Int32))).2 k) ?_
    show own_G p e below (T166z.setTop (mkF m 207 #[.val (.int p0), .val (.int p1), .val (.int p2), .val (.int p3), .val (.int p4), .val (.int (4 : Int32)), .val (.ref r_130z), .val (.ref r_132z), .val (.ref r_134z), .val (.ref r_136z), .val (.ref b138z), .val (.ref r_156z), .val (.int (1 : Int32))] [])) _
    refine own_go (fun t k => XS.aload X166z.here hx rfl (hb hby at_207) rfl rfl k) ?_
    refine own_go (fun t k => XS.iconst X166z.here hx rfl (hb hby at_209) k) ?_
    refine own_go (fun t k => XS.aload X166z.here hx rfl (hb hby at_210) rfl rfl k) ?_
    refine own_go (fun t k => XS.iload X166z.here hx rfl (hb hby at_212) rfl k) ?_
    show own_G p e below (T166z.setTop (mkF m 214 #[.val (.int p0), .val (.int p1), .val (.int p2), .val (.int p3), .val (.int p4), .val (.int (4 : Int32)), .val (.ref r_130z), .val (.ref r_132z), .val (.ref r_134z), .val (.ref r_136z), .val (.ref b138z), .val (.ref r_156z), .val (.int (1 : Int32))] [(.int (4 : Int32)), (.ref r_130z), (.int (0 : Int32)), (.ref r_156z)])) _
    have f167z := (r156z_4.keep K163zq (by simp only [List.mem_cons, List.not_mem_nil, or_false, not_or]; exact ⟨(Ne.symm ne_b138z_r_156z), (Ne.symm ne_arr_144z_r_156z)⟩))
    have f168z := (r156z_2.keep K163zq (by simp only [List.mem_cons, List.not_mem_nil, or_false, not_or]; exact ⟨(Ne.symm ne_b138z_ar_156z), (Ne.symm ne_arr_144z_ar_156z)⟩))
    obtain ⟨_, _, ⟨T169z, L169z, k169z, n169z⟩, -, X169z, ⟨Lc169z, hQ169z, l169z, y169z, z169z⟩, st169z⟩ := Jvm.LawKit.callS X166z hx (y := own_m26) hown156z (mvT hZ156z (own_hw hw 107 rfl)) (mvT hZ156z (own_hw hw 108 rfl)) (mvT hZ156z (own_hw hw 109 rfl)) (mvT hZ156z (own_hw hw 110 rfl)) (by decide) (backOf (W := 0) (own_at4_0 l Z a0 hw [] r_156z r_130z ar_156z kr_156z ([(.ref r_130z), (.ref r_132z), (.ref r_134z), (.ref r_136z)]) T163z.heap O164z (r156z_0.keep K163zq) f167z f168z f165z rfl) hZ156z (own_hw hw 110 rfl) (own_hw hw 109 rfl) (by decide) (by decide)) (g := (mkF m 214 #[.val (.int p0), .val (.int p1), .val (.int p2), .val (.int p3), .val (.int p4), .val (.int (4 : Int32)), .val (.ref r_130z), .val (.ref r_132z), .val (.ref r_134z), .val (.ref r_136z), .val (.ref b138z), .val (.ref r_156z), .val (.int (1 : Int32))] [(.int (4 : Int32)), (.ref r_130z), (.int (0 : Int32)), (.ref r_156z)])) rfl (by rw [hml]; rfl) (argsL := [(.ref r_156z), (.int (0 : Int32)), (.ref r_130z), (.int (4 : Int32))]) (rest := []) (lenOf pd_2223509722 rfl) rfl (by show 2 * 0 + _ ≤ _; exact Nat.le_of_eq rfl) (hb hby at_214) (fun _ _ => ⟨rfl, K166zq, (by decide : 19 + 0 ≤ _), (by decide : 416 + 0 ≤ _)⟩)
    dsimp only [Pt.U, Pt.locs, Pt.cells, Pt.slots] at X169z l169z y169z z169z st169z hQ169z
    subst l169z y169z z169z
    obtain ⟨rfl, NQ169z, K169zq⟩ := hQ169z
    refine own_go st169z ?_
    have N169z := Fr.app N166z NQ169z
    show own_G p e below (T169z.setTop (mkF m 217 #[.val (.int p0), .val (.int p1), .val (.int p2), .val (.int p3), .val (.int p4), .val (.int (4 : Int32)), .val (.ref r_130z), .val (.ref r_132z), .val (.ref r_134z), .val (.ref r_136z), .val (.ref b138z), .val (.ref r_156z), .val (.int (1 : Int32))] [(.int (1 : Int32))])) _
    refine own_go (fun t k => XS.ifNo X169z.here hx rfl (hb hby at_217) rfl ((if0 _ _).trans (feq (by decide : ¬ ((1 : Int32) = (0 : Int32)))).1) k) ?_
    show own_G p e below (T169z.setTop (mkF m 220 #[.val (.int p0), .val (.int p1), .val (.int p2), .val (.int p3), .val (.int p4), .val (.int (4 : Int32)), .val (.ref r_130z), .val (.ref r_132z), .val (.ref r_134z), .val (.ref r_136z), .val (.ref b138z), .val (.ref r_156z), .val (.int (1 : Int32))] [])) _
    refine own_go (fun t k => XS.aload X169z.here hx rfl (hb hby at_220) rfl rfl k) ?_
    refine own_go (fun t k => XS.iconst X169z.here hx rfl (hb hby at_222) k) ?_
    refine own_go (fun t k => XS.aload X169z.here hx rfl (hb hby at_223) rfl rfl k) ?_
    refine own_go (fun t k => XS.iload X169z.here hx rfl (hb hby at_225) rfl k) ?_
    show own_G p e below (T169z.setTop (mkF m 227 #[.val (.int p0), .val (.int p1), .val (.int p2), .val (.int p3), .val (.int p4), .val (.int (4 : Int32)), .val (.ref r_130z), .val (.ref r_132z), .val (.ref r_134z), .val (.ref r_136z), .val (.ref b138z), .val (.ref r_156z), .val (.int (1 : Int32))] [(.int (4 : Int32)), (.ref r_136z), (.int (3 : Int32)), (.ref r_156z)])) _
    obtain ⟨_, _, ⟨T170z, L170z, k170z, n170z⟩, -, X170z, ⟨Lc170z, hQ170z, l170z, y170z, z170z⟩, st170z⟩ := Jvm.LawKit.callS X169z hx (y := own_m26) hown156z (mvT hZ156z (own_hw hw 107 rfl)) (mvT hZ156z (own_hw hw 108 rfl)) (mvT hZ156z (own_hw hw 109 rfl)) (mvT hZ156z (own_hw hw 110 rfl)) (by decide) (backOf (W := 0) (own_at4_3 l Z a0 hw [] r_156z r_136z ar_156z kr_156z ([(.ref r_130z), (.ref r_132z), (.ref r_134z), (.ref r_136z)]) T163z.heap O164z (r156z_0.keep K163zq) f167z f168z f165z rfl) hZ156z (own_hw hw 110 rfl) (own_hw hw 109 rfl) (by decide) (by decide)) (g := (mkF m 227 #[.val (.int p0), .val (.int p1), .val (.int p2), .val (.int p3), .val (.int p4), .val (.int (4 : Int32)), .val (.ref r_130z), .val (.ref r_132z), .val (.ref r_134z), .val (.ref r_136z), .val (.ref b138z), .val (.ref r_156z), .val (.int (1 : Int32))] [(.int (4 : Int32)), (.ref r_136z), (.int (3 : Int32)), (.ref r_156z)])) rfl (by rw [hml]; rfl) (argsL := [(.ref r_156z), (.int (3 : Int32)), (.ref r_136z), (.int (4 : Int32))]) (rest := []) (lenOf pd_2223509722 rfl) rfl (by show 2 * 0 + _ ≤ _; exact Nat.le_of_eq rfl) (hb hby at_227) (fun _ _ => ⟨rfl, K169zq, (by decide : 19 + 0 ≤ _), (by decide : 416 + 0 ≤ _)⟩)
    dsimp only [Pt.U, Pt.locs, Pt.cells, Pt.slots] at X170z l170z y170z z170z st170z hQ170z
    subst l170z y170z z170z
    obtain ⟨rfl, NQ170z, K170zq⟩ := hQ170z
    refine own_go st170z ?_
    have N170z := Fr.app N169z NQ170z
    show own_G p e below (T170z.setTop (mkF m 230 #[.val (.int p0), .val (.int p1), .val (.int p2), .val (.int p3), .val (.int p4), .val (.int (4 : Int32)), .val (.ref r_130z), .val (.ref r_132z), .val (.ref r_134z), .val (.ref r_136z), .val (.ref b138z), .val (.ref r_156z), .val (.int (1 : Int32))] [(.int (1 : Int32))])) _
    refine own_go (fun t k => XS.ifNo X170z.here hx rfl (hb hby at_230) rfl ((if0 _ _).trans (feq (by decide : ¬ ((1 : Int32) = (0 : Int32)))).1) k) ?_
    show own_G p e below (T170z.setTop (mkF m 233 #[.val (.int p0), .val (.int p1), .val (.int p2), .val (.int p3), .val (.int p4), .val (.int (4 : Int32)), .val (.ref r_130z), .val (.ref r_132z), .val (.ref r_134z), .val (.ref r_136z), .val (.ref b138z), .val (.ref r_156z), .val (.int (1 : Int32))] [])) _
    refine own_go (fun t k => XS.iconst X170z.here hx rfl (hb hby at_233) k) ?_
    refine own_go (fun t k => XS.goto X170z.here hx rfl (pc0 := 234) (pc' := 238) rfl (hb hby at_234) (by decide) (by decide) k) ?_
    show own_G p e below (T170z.setTop (mkF m 238 #[.val (.int p0), .val (.int p1), .val (.int p2), .val (.int p3), .val (.int p4), .val (.int (4 : Int32)), .val (.ref r_130z), .val (.ref r_132z), .val (.ref r_134z), .val (.ref r_136z), .val (.ref b138z), .val (.ref r_156z), .val (.int (1 : Int32))] [(.int (1 : Int32))])) _
    exact own_retW X170z Sx156z (by rw [K170zq]; exact Sn164z) hx Bd.returns rfl (Or.inl ⟨rfl, Or.inr (Or.inl rfl), _, rfl⟩) (hb hby at_238) hlk (Nat.le_of_ble_eq_true rfl) (Nat.le_of_ble_eq_true rfl) (by show Q_own_law Z p0 p1 p2 p3 p4 dE kd eE ca h0 _ T170z.heap _; rw [K170zq]; exact ⟨rfl, N170z, K164z⟩)
set_option maxRecDepth 65536 in
set_option maxHeartbeats 40000000 in
theorem comes_1 {Post : Tables → Env → Array Value → State → Outcome → State → Prop} (hpost : ∀ tb e args s v u, (limb_1_1.after args s (.returned v) u = true ∧ limb_1_2.after args s (.returned v) u = true ∧ True) → ReturnedEndW s (.returned v) u (Jvm.fieldLocs frame_1_writes args s ++ Jvm.arrayLocs frame_1_arrays args s ++ Jvm.staticLocs frame_1_statics s) 32 2176 → Post tb e args s (.returned v) u) :
    ArmFor flags0 classFile x code maxLocals ret World_1 tables_1 room_1 Calls_1 rest_1 Pre_1 Post := by
  intro l hfl _ _ p e ha hc hk s m args below hf hA hF happ hP
  obtain ⟨hcalls, hrest, hpre⟩ := hP
  obtain ⟨-, -, -, hnamed, -, -, -, hat⟩ := (Spec.applies_iff hf).mp happ
  obtain ⟨hg, hn⟩ := and_e (Cond.before_iff.mp (show (Jvm.Cond.and given_1 narrow_1).before args s = true from hpre))
  obtain ⟨hg0, hg1⟩ := and_e hg
  obtain ⟨hy0, hz0⟩ := and_e hg1
  obtain ⟨hy1, hz1⟩ := and_e hz0
  obtain ⟨hy2, hz2⟩ := and_e hz1
  obtain ⟨hy3, hz3⟩ := and_e hz2
  obtain ⟨w0, w1, w2, w3, w4, rfl⟩ : ∃ w0 w1 w2 w3 w4 : Value, args = #[w0, w1, w2, w3, w4] := by
    have hs : args.size = 5 := by simpa [Cond.value, given_1] using hg0
    obtain ⟨L⟩ := args
    match L, hs with
    | [w0, w1, w2, w3, w4], _ => exact ⟨w0, w1, w2, w3, w4, rfl⟩
  have hw := fun d (hd : d ∈ tables_1) => atoms_spec (ws := Jvm.Cond.code x code maxLocals ret :: tables_1) hat d (List.mem_cons_of_mem _ hd)
  have hfit : Fit s := fun {y c} hc i hi => by
    obtain ⟨ha, rfl⟩ := Array.getElem?_eq_some_iff.mp hc
    have q := List.all_eq_true.mp ((Array.all_eq_true_iff_forall_mem.mp hF) _ (Array.getElem_mem ha)) i (List.mem_range.mpr hi)
    simpa [Array.getElem?_eq_getElem hi] using q
  obtain ⟨i0, ea0⟩ := is_v hy0
  obtain rfl : w0 = (.int i0) := Option.some.inj ea0
  obtain ⟨i1, ea1⟩ := is_v hy1
  obtain rfl : w1 = (.int i1) := Option.some.inj ea1
  obtain ⟨i2, ea2⟩ := is_v hy2
  obtain rfl : w2 = (.int i2) := Option.some.inj ea2
  obtain ⟨i3, ea3⟩ := is_v hy3
  obtain rfl : w3 = (.int i3) := Option.some.inj ea3
  obtain ⟨i4, ea4⟩ := is_v hz3
  obtain rfl : w4 = (.int i4) := Option.some.inj ea4
  obtain ⟨hsets, hown0⟩ := atoms_of _ (rest_1_c_eq ▸ (show rest_1_c.before _ s = true from hrest))
  have hS := fun d (hd : d ∈ jdkStatics_1) => hsets d hd
  have evH := eqv_i (Term.int_eval (127 : Int32)) (Cond.before_iff.mp (own_hw hS 3 rfl))
  have S_H : Sta s s.heap "java/lang/Integer$IntegerCache" "high" "I" (.int (127 : Int32)) := Sta.start evH (Or.inl (own_hw hS 1 rfl))
  obtain ⟨ca, evC⟩ := arr_v (Cond.before_iff.mp (own_hw hS 4 rfl))
  have S_C : Sta s s.heap "java/lang/Integer$IntegerCache" "cache" "[Ljava/lang/Integer;" (.ref ca) := Sta.start evC (Or.inr ⟨(own_hw hw 6 rfl), own_hw hS 2 rfl⟩)
  obtain ⟨cC, AC, VC, qC, zC, zC'⟩ := own_A.start hfit evC (Cond.before_iff.mp (own_hw hS 4 rfl)) (Cond.before_iff.mp (own_hw hS 6 rfl))
  have BX0 := Bxs.start (val := fun j => .int (j - 128)) (fun _ => evC) AC qC zC (by decide) (Cond.before_iff.mp (own_hw hS 7 rfl)) (fun X j nn h => eqv_i (by simp [Term.eval, idx_at nn, (back32 nn).1]) h)
  have e256 : (256 : Int32).toInt = 256 := by decide
  have BX : ∃ (kc : ClassId) (vs : List Value), own_A s s.heap ca kc (.object "java/lang/Integer") vs ∧ ∀ j : Nat, j < 256 → ∃ y, vs[j]? = some (.ref y) ∧ Exa s s.heap y "java/lang/Integer" := ⟨_, _, VC, fun j hj => by
    have q1 : j < cC.slots.size := by omega
    obtain ⟨b, h1, h2, -⟩ := BX0.2.2.2 j.toInt32 (idx_in q1 qC)
    have e7 : j.toInt32.toNatClampNeg = j := by
      show j.toInt32.toInt.toNat = j
      rw [len_toInt (Nat.lt_trans q1 qC)]; rfl
    rw [e7] at h1
    exact ⟨b, by simpa using h1, h2⟩⟩
  obtain ⟨eE, evE⟩ := arr_v (Cond.before_iff.mp (own_hw hS 11 rfl))
  have S_E : Sta s s.heap "java/util/ArrayList" "EMPTY_ELEMENTDATA" "[Ljava/lang/Object;" (.ref eE) := Sta.start evE (Or.inl (own_hw hS 9 rfl))
  obtain ⟨dE, evD⟩ := arr_v (Cond.before_iff.mp (own_hw hS 14 rfl))
  have S_D : Sta s s.heap "java/util/ArrayList" "DEFAULTCAPACITY_EMPTY_ELEMENTDATA" "[Ljava/lang/Object;" (.ref dE) := Sta.start evD (Or.inr ⟨(own_hw hw 10 rfl), own_hw hS 10 rfl⟩)
  obtain ⟨cD, AD, VD, qD, zD, zD'⟩ := own_A.start hfit evD (Cond.before_iff.mp (own_hw hS 14 rfl)) (Cond.before_iff.mp (own_hw hS 16 rfl))
  have BD : own_A s s.heap dE cD.cls (.object "java/lang/Object") [] := VD.eqs (by
    have e0 : (0 : Int32).toInt = 0 := by decide
    have : cD.slots.size = 0 := by omega
    simpa using this)
  obtain ⟨n, o, h1, h2, h3, _, L, rfl, hQ, hq⟩ := own_law l s _ hw tables_1 i0 i1 i2 i3 i4 dE cD.cls eE ca s.heap (own_ext_refl _) S_D BD S_E S_H S_C BX p e ha hc hk s m _ below hf ((Spec.applies_iff_loose hf).mp happ).1 ⟨rfl, State.Warmed39.refl s, rfl⟩ trivial
  obtain ⟨rfl, N, -⟩ := hQ
  exact ⟨n, _, h1, h2, h3, hpost _ _ _ _ _ _ ⟨Cond.after_iff.mpr rfl, Cond.after_iff.mpr (eq_i res_at (Term.int_eval (1)) rfl), trivial⟩ ⟨hq.1, hq.2.1, hq.2.2.1, (hq.2.2.2.sift fun y hy => Or.inr (N y hy)).mono (by decide) (by decide)⟩⟩
theorem main_1_1 : Claimed_1_1 := comes_1 fun _ _ _ _ _ _ h hF => ⟨h.1, hF⟩
theorem main_1_2 : Claimed_1_2 := comes_1 fun _ _ _ _ _ _ h hF => ⟨h.2.1, hF⟩
end Jvm.Pilot.@@N@@
namespace Jvm.Pilot.@@N@@
open Jvm Jvm.ClassFile Sem Op Lib Jvm.Free Jvm.Stand Jvm.Pilot.@@N@@.Jvm.D
/-! MADE BY PROGRAM (witnessworld.py) out of the Statement's table words and the real class files: 32 classes; the members and pool entries that the words name. The judged class is class 1, her method 2. -/
namespace start1
open Jvm.ClassFile
def u (s : String) : CpInfo := .utf8 (stringToUtf16 s)
/-- a pool by its gaps: so many unusable entries, then the entry; so many at the end -/
def gap : Nat → List CpInfo → List CpInfo
  | 0, r => r
  | n + 1, r => .unusable :: gap n r
def poolList (es : List (Nat × CpInfo)) (last : Nat) : List CpInfo := es.foldr (fun e r => gap e.1 (e.2 :: r)) (gap last [])
def pool (es : List (Nat × CpInfo)) (last : Nat) : Array CpInfo := ⟨poolList es last⟩
def fileOf (pool : Array CpInfo) (this : Nat) (attrs : Array Attribute := #[]) (ms : Array MethodInfo := #[]) (fl : Nat := 33) (sup : Nat := 0) (ifs : Array Nat := #[]) (fds : Array FieldInfo := #[]) : ClassFile where
  minorVersion := 0
  majorVersion := 65
  constantPool := pool
  accessFlags := fl
  thisClass := this
  superClass := sup
  interfaces := ifs
  fields := fds
  methods := ms
  attributes := attrs
def plain (name : String) (sup : Option ClassId) : Class where
  name := name
  kind := .ordinary
  loader := none
  accessFlags := 33
  super := sup
  interfaces := #[]
  cf := none
  fields := #[]
  methods := #[]
  instanceTypes := #[]
  staticTypes := #[]
  resolved := #[]
  callSites := []
  init := .initialized
  statics := none
  mirror := none

def pool0 : Array CpInfo := pool [(5, u "<init>"), (0, u "()V"), (1, .class_ 10), (1, u "java/lang/Object")] 113

def k0c0 : Code := { maxStack := 0, maxLocals := 1, code := object_method_1_code, exceptionTable := #[], attributes := #[] }
def k0m0 : Method := { name := "<init>", desc := "()V", sig := { parameters := [], returnType := none }, accessFlags := 1, code := some k0c0 }
/-- java/lang/Object -/
def k0 : Class := { plain "java/lang/Object" none with
  accessFlags := 33
  interfaces := #[]
  cf := some (fileOf pool0 8 #[] #[{ accessFlags := 1, nameIndex := 5, descriptorIndex := 6, attributes := #[] }] 33 0 #[] #[])
  fields := #[]
  methods := #[k0m0]
  instanceTypes := #[]
  staticTypes := #[]
  resolved := Array.replicate 124 none
  statics := none }

def pool1 : Array CpInfo := pool [(2, .class_ 4), (0, .nameAndType 5 6), (0, u "java/lang/Object"), (0, u "<init>"), (0, u "()V"), (0, .interfaceMethodref 8 9), (0, .class_ 10), (0, .nameAndType 11 12), (0, u "java/util/List"), (0, u "get"), (0, u "(I)Ljava/lang/Object;"), (0, .integer 2147483647), (0, .methodref 15 16), (0, .class_ 17), (0, .nameAndType 18 19), (0, u "java/lang/Integer"), (0, u "valueOf"), (0, u "(I)Ljava/lang/Integer;"), (0, .class_ 21), (0, u "java/util/ArrayList"), (0, .methodref 20 3), (0, .methodref 20 24), (0, .nameAndType 25 26), (0, u "add"), (0, u "(Ljava/lang/Object;)Z"), (0, .methodref 28 29), (0, .class_ 30), (0, .nameAndType 31 32), (0, u "com/example/etapa/etapa/mongodb/EntityBatch"), (0, u "copyOf"), (0, u "(Ljava/util/Collection;)Ljava/util/List;"), (0, .interfaceMethodref 8 34), (0, .nameAndType 35 36), (0, u "size"), (0, u "()I"), (0, .methodref 38 39), (0, .class_ 40), (0, .nameAndType 41 42), (0, u "com/example/etapa/etapa/mongodb/EntityBatchCopyOfPinLaw"), (0, u "at"), (0, u "(Ljava/util/List;ILjava/lang/Integer;I)Z"), (5, u "law"), (0, u "(IIIII)Z")] 2

def k1m0 : Method := { name := "<init>", desc := "()V", sig := { parameters := [], returnType := none }, accessFlags := 2, code := none }
def k1c1 : Code := { maxStack := 2, maxLocals := 4, code := method_2_code, exceptionTable := #[], attributes := #[] }
def k1m1 : Method := { name := "at", desc := "(Ljava/util/List;ILjava/lang/Integer;I)Z", sig := { parameters := [(.object "java/util/List"), .int, (.object "java/lang/Integer"), .int], returnType := some .boolean }, accessFlags := 10, code := some k1c1 }
def k1c2 : Code := { maxStack := 4, maxLocals := 13, code := code, exceptionTable := #[], attributes := #[] }
def k1m2 : Method := { name := "law", desc := "(IIIII)Z", sig := { parameters := [.int, .int, .int, .int, .int], returnType := some .boolean }, accessFlags := 9, code := some k1c2 }
/-- com/example/etapa/etapa/mongodb/EntityBatchCopyOfPinLaw -/
def k1 : Class := { plain "com/example/etapa/etapa/mongodb/EntityBatchCopyOfPinLaw" (some 0) with
  accessFlags := 49
  interfaces := #[]
  cf := some (fileOf pool1 38 #[] #[{ accessFlags := 2, nameIndex := 5, descriptorIndex := 6, attributes := #[] }, { accessFlags := 10, nameIndex := 41, descriptorIndex := 42, attributes := #[] }, { accessFlags := 9, nameIndex := 48, descriptorIndex := 49, attributes := #[] }] 49 2 #[] #[])
  fields := #[]
  methods := #[k1m0, k1m1, k1m2]
  instanceTypes := #[]
  staticTypes := #[]
  resolved := Array.replicate 52 none
  statics := none }

def pool2 : Array CpInfo := pool [(1, .class_ 2), (0, u "java/io/Serializable"), (0, .class_ 4), (0, u "java/lang/Object")] 2

/-- java/io/Serializable -/
def k2 : Class := { plain "java/io/Serializable" (some 0) with
  accessFlags := 1537
  interfaces := #[]
  cf := some (fileOf pool2 1 #[] #[] 1537 3 #[] #[])
  fields := #[]
  methods := #[]
  instanceTypes := #[]
  staticTypes := #[]
  resolved := Array.replicate 7 none
  statics := none }

def pool3 : Array CpInfo := pool [(1, .methodref 2 3), (0, .class_ 4), (0, .nameAndType 5 6), (0, u "java/lang/Object"), (0, u "<init>"), (0, u "()V"), (1, .class_ 10), (1, u "java/lang/Number"), (2, .class_ 14), (0, u "java/io/Serializable"), (0, u "serialVersionUID"), (0, u "J")] 20

def k3c0 : Code := { maxStack := 1, maxLocals := 1, code := jdk_18_method_1_code, exceptionTable := #[], attributes := #[] }
def k3m0 : Method := { name := "<init>", desc := "()V", sig := { parameters := [], returnType := none }, accessFlags := 1, code := some k3c0 }
/-- java/lang/Number -/
def k3 : Class := { plain "java/lang/Number" (some 0) with
  accessFlags := 1057
  interfaces := #[2]
  cf := some (fileOf pool3 8 #[] #[{ accessFlags := 1, nameIndex := 5, descriptorIndex := 6, attributes := #[] }] 1057 2 #[13] #[{ accessFlags := 26, nameIndex := 15, descriptorIndex := 16, attributes := #[] }])
  fields := #[{ name := "serialVersionUID", type := .long, accessFlags := 26, slot := 0, constantValue := 0 }]
  methods := #[k3m0]
  instanceTypes := #[]
  staticTypes := #[.long]
  resolved := Array.replicate 37 none
  statics := none }

def pool4 : Array CpInfo := pool [(1, .class_ 2), (0, u "java/lang/Comparable"), (0, .class_ 4), (0, u "java/lang/Object")] 7

/-- java/lang/Comparable -/
def k4 : Class := { plain "java/lang/Comparable" (some 0) with
  accessFlags := 1537
  interfaces := #[]
  cf := some (fileOf pool4 1 #[] #[] 1537 3 #[] #[])
  fields := #[]
  methods := #[]
  instanceTypes := #[]
  staticTypes := #[]
  resolved := Array.replicate 12 none
  statics := none }

def pool5 : Array CpInfo := pool [(1, .class_ 2), (0, u "java/lang/constant/Constable"), (0, .class_ 4), (0, u "java/lang/Object")] 6

/-- java/lang/constant/Constable -/
def k5 : Class := { plain "java/lang/constant/Constable" (some 0) with
  accessFlags := 1537
  interfaces := #[]
  cf := some (fileOf pool5 1 #[] #[] 1537 3 #[] #[])
  fields := #[]
  methods := #[]
  instanceTypes := #[]
  staticTypes := #[]
  resolved := Array.replicate 11 none
  statics := none }

def pool6 : Array CpInfo := pool [(1, .class_ 2), (0, u "java/lang/constant/ConstantDesc"), (0, .class_ 4), (0, u "java/lang/Object")] 32

/-- java/lang/constant/ConstantDesc -/
def k6 : Class := { plain "java/lang/constant/ConstantDesc" (some 0) with
  accessFlags := 1537
  interfaces := #[]
  cf := some (fileOf pool6 1 #[] #[] 1537 3 #[] #[])
  fields := #[]
  methods := #[]
  instanceTypes := #[]
  staticTypes := #[]
  resolved := Array.replicate 37 none
  statics := none }

def pool7 : Array CpInfo := pool [(1, .class_ 2), (0, u "java/lang/Integer"), (16, u "digits"), (0, u "[C"), (46, u "<init>"), (17, u "DigitOnes"), (0, u "[B"), (2, u "DigitTens"), (10, .nameAndType 67 101), (0, u "()V"), (85, u "valueOf"), (0, u "(I)Ljava/lang/Integer;"), (0, .class_ 190), (0, u "java/lang/Integer$IntegerCache"), (0, .fieldref 189 192), (0, .nameAndType 193 194), (0, u "high"), (0, u "I"), (0, .fieldref 189 196), (0, .nameAndType 197 198), (0, u "cache"), (0, u "[Ljava/lang/Integer;"), (0, .methodref 1 200), (0, .nameAndType 67 201), (0, u "(I)V"), (0, .methodref 203 100), (0, .class_ 204), (0, u "java/lang/Number"), (0, .fieldref 1 206), (0, .nameAndType 207 194), (0, u "value"), (94, u "TYPE"), (0, u "Ljava/lang/Class;"), (0, .class_ 305), (0, u "java/lang/Comparable"), (0, .class_ 307), (0, u "java/lang/constant/Constable"), (0, .class_ 309), (0, u "java/lang/constant/ConstantDesc"), (0, u "MIN_VALUE"), (1, u "MAX_VALUE"), (3, u "SIZE"), (1, u "BYTES"), (1, u "serialVersionUID"), (0, u "J")] 131

def k7c0 : Code := { maxStack := 3, maxLocals := 1, code := jdk_33_method_22_code, exceptionTable := #[], attributes := #[] }
def k7m0 : Method := { name := "valueOf", desc := "(I)Ljava/lang/Integer;", sig := { parameters := [.int], returnType := some (.object "java/lang/Integer") }, accessFlags := 9, code := some k7c0 }
def k7c1 : Code := { maxStack := 2, maxLocals := 2, code := jdk_33_method_23_code, exceptionTable := #[], attributes := #[] }
def k7m1 : Method := { name := "<init>", desc := "(I)V", sig := { parameters := [.int], returnType := none }, accessFlags := 1, code := some k7c1 }
/-- java/lang/Integer -/
def k7 : Class := { plain "java/lang/Integer" (some 3) with
  accessFlags := 49
  interfaces := #[4, 5, 6]
  cf := some (fileOf pool7 1 #[.nestMembers #[189]] #[{ accessFlags := 9, nameIndex := 187, descriptorIndex := 188, attributes := #[] }, { accessFlags := 1, nameIndex := 67, descriptorIndex := 201, attributes := #[] }] 49 203 #[304, 306, 308] #[{ accessFlags := 25, nameIndex := 310, descriptorIndex := 194, attributes := #[] }, { accessFlags := 25, nameIndex := 312, descriptorIndex := 194, attributes := #[] }, { accessFlags := 25, nameIndex := 302, descriptorIndex := 303, attributes := #[] }, { accessFlags := 24, nameIndex := 19, descriptorIndex := 20, attributes := #[] }, { accessFlags := 24, nameIndex := 89, descriptorIndex := 86, attributes := #[] }, { accessFlags := 24, nameIndex := 85, descriptorIndex := 86, attributes := #[] }, { accessFlags := 18, nameIndex := 207, descriptorIndex := 194, attributes := #[] }, { accessFlags := 25, nameIndex := 316, descriptorIndex := 194, attributes := #[] }, { accessFlags := 25, nameIndex := 318, descriptorIndex := 194, attributes := #[] }, { accessFlags := 26, nameIndex := 320, descriptorIndex := 321, attributes := #[] }])
  fields := #[{ name := "MIN_VALUE", type := .int, accessFlags := 25, slot := 0, constantValue := 0 }, { name := "MAX_VALUE", type := .int, accessFlags := 25, slot := 1, constantValue := 0 }, { name := "TYPE", type := (.object "java/lang/Class"), accessFlags := 25, slot := 2, constantValue := 0 }, { name := "digits", type := (.array .char), accessFlags := 24, slot := 3, constantValue := 0 }, { name := "DigitTens", type := (.array .byte), accessFlags := 24, slot := 4, constantValue := 0 }, { name := "DigitOnes", type := (.array .byte), accessFlags := 24, slot := 5, constantValue := 0 }, { name := "value", type := .int, accessFlags := 18, slot := 0, constantValue := 0 }, { name := "SIZE", type := .int, accessFlags := 25, slot := 6, constantValue := 0 }, { name := "BYTES", type := .int, accessFlags := 25, slot := 7, constantValue := 0 }, { name := "serialVersionUID", type := .long, accessFlags := 26, slot := 8, constantValue := 0 }]
  methods := #[k7m0, k7m1]
  instanceTypes := #[.int]
  staticTypes := #[.int, .int, (.object "java/lang/Class"), (.array .char), (.array .byte), (.array .byte), .int, .int, .long]
  resolved := Array.replicate 453 none
  statics := none }

def pool8 : Array CpInfo := pool [(2, .class_ 4), (1, u "java/lang/Object"), (0, u "<init>"), (0, u "()V"), (0, .class_ 8), (0, u "java/lang/Integer"), (7, .class_ 18), (1, u "java/lang/Integer$IntegerCache"), (0, u "$assertionsDisabled"), (0, u "Z"), (26, u "high"), (0, u "I"), (8, u "archivedCache"), (0, u "[Ljava/lang/Integer;"), (12, u "cache"), (0, u "low")] 27

def k8m0 : Method := { name := "<init>", desc := "()V", sig := { parameters := [], returnType := none }, accessFlags := 2, code := none }
/-- java/lang/Integer$IntegerCache -/
def k8 : Class := { plain "java/lang/Integer$IntegerCache" (some 0) with
  accessFlags := 48
  interfaces := #[]
  cf := some (fileOf pool8 16 #[.nestHost 7] #[{ accessFlags := 2, nameIndex := 5, descriptorIndex := 6, attributes := #[] }] 48 2 #[] #[{ accessFlags := 24, nameIndex := 72, descriptorIndex := 48, attributes := #[] }, { accessFlags := 24, nameIndex := 47, descriptorIndex := 48, attributes := #[] }, { accessFlags := 24, nameIndex := 71, descriptorIndex := 58, attributes := #[] }, { accessFlags := 8, nameIndex := 57, descriptorIndex := 58, attributes := #[] }, { accessFlags := 4120, nameIndex := 19, descriptorIndex := 20, attributes := #[] }])
  fields := #[{ name := "low", type := .int, accessFlags := 24, slot := 0, constantValue := 0 }, { name := "high", type := .int, accessFlags := 24, slot := 1, constantValue := 0 }, { name := "cache", type := (.array (.object "java/lang/Integer")), accessFlags := 24, slot := 2, constantValue := 0 }, { name := "archivedCache", type := (.array (.object "java/lang/Integer")), accessFlags := 8, slot := 3, constantValue := 0 }, { name := "$assertionsDisabled", type := .boolean, accessFlags := 4120, slot := 4, constantValue := 0 }]
  methods := #[k8m0]
  instanceTypes := #[]
  staticTypes := #[.int, .int, (.array (.object "java/lang/Integer")), (.array (.object "java/lang/Integer")), .boolean]
  resolved := Array.replicate 100 none
  statics := some 0 }

def pool9 : Array CpInfo := pool [(8, .class_ 10), (1, u "java/lang/Iterable"), (24, .class_ 36), (0, u "java/lang/Object")] 25

/-- java/lang/Iterable -/
def k9 : Class := { plain "java/lang/Iterable" (some 0) with
  accessFlags := 1537
  interfaces := #[]
  cf := some (fileOf pool9 8 #[] #[] 1537 35 #[] #[])
  fields := #[]
  methods := #[]
  instanceTypes := #[]
  staticTypes := #[]
  resolved := Array.replicate 62 none
  statics := none }

def pool10 : Array CpInfo := pool [(10, .class_ 12), (1, u "java/util/Collection"), (10, u "iterator"), (0, u "()Ljava/util/Iterator;"), (35, .class_ 61), (0, u "java/lang/Object"), (0, .class_ 63), (0, u "java/lang/Iterable"), (0, u "size"), (0, u "()I")] 49

def k10m0 : Method := { name := "size", desc := "()I", sig := { parameters := [], returnType := some .int }, accessFlags := 1025, code := none }
def k10m1 : Method := { name := "iterator", desc := "()Ljava/util/Iterator;", sig := { parameters := [], returnType := some (.object "java/util/Iterator") }, accessFlags := 1025, code := none }
/-- java/util/Collection -/
def k10 : Class := { plain "java/util/Collection" (some 0) with
  accessFlags := 1537
  interfaces := #[9]
  cf := some (fileOf pool10 10 #[] #[{ accessFlags := 1025, nameIndex := 64, descriptorIndex := 65, attributes := #[] }, { accessFlags := 1025, nameIndex := 23, descriptorIndex := 24, attributes := #[] }] 1537 60 #[62] #[])
  fields := #[]
  methods := #[k10m0, k10m1]
  instanceTypes := #[]
  staticTypes := #[]
  resolved := Array.replicate 115 none
  statics := none }

def pool11 : Array CpInfo := pool [(1, .methodref 2 3), (0, .class_ 4), (0, .nameAndType 5 6), (0, u "java/lang/Object"), (0, u "<init>"), (0, u "()V"), (1, .class_ 10), (1, u "java/util/AbstractCollection"), (66, .class_ 78), (0, u "java/util/Collection")] 81

def k11c0 : Code := { maxStack := 1, maxLocals := 1, code := jdk_22_method_1_code, exceptionTable := #[], attributes := #[] }
def k11m0 : Method := { name := "<init>", desc := "()V", sig := { parameters := [], returnType := none }, accessFlags := 4, code := some k11c0 }
/-- java/util/AbstractCollection -/
def k11 : Class := { plain "java/util/AbstractCollection" (some 0) with
  accessFlags := 1057
  interfaces := #[10]
  cf := some (fileOf pool11 8 #[] #[{ accessFlags := 4, nameIndex := 5, descriptorIndex := 6, attributes := #[] }] 1057 2 #[77] #[])
  fields := #[]
  methods := #[k11m0]
  instanceTypes := #[]
  staticTypes := #[]
  resolved := Array.replicate 160 none
  statics := none }

def pool12 : Array CpInfo := pool [(8, .class_ 10), (1, u "java/util/SequencedCollection"), (15, .class_ 27), (0, u "java/lang/Object"), (0, .class_ 29), (0, u "java/util/Collection")] 27

/-- java/util/SequencedCollection -/
def k12 : Class := { plain "java/util/SequencedCollection" (some 0) with
  accessFlags := 1537
  interfaces := #[10]
  cf := some (fileOf pool12 8 #[] #[] 1537 26 #[28] #[])
  fields := #[]
  methods := #[]
  instanceTypes := #[]
  staticTypes := #[]
  resolved := Array.replicate 57 none
  statics := none }

def pool13 : Array CpInfo := pool [(8, .class_ 10), (1, u "java/util/List"), (49, u "add"), (3, u "(Ljava/lang/Object;)Z"), (10, u "get"), (0, u "(I)Ljava/lang/Object;"), (2, u "size"), (0, u "()I"), (22, .class_ 104), (0, u "java/lang/Object"), (15, .class_ 121), (0, u "java/util/SequencedCollection")] 129

def k13m0 : Method := { name := "size", desc := "()I", sig := { parameters := [], returnType := some .int }, accessFlags := 1025, code := none }
def k13m1 : Method := { name := "add", desc := "(Ljava/lang/Object;)Z", sig := { parameters := [(.object "java/lang/Object")], returnType := some .boolean }, accessFlags := 1025, code := none }
def k13m2 : Method := { name := "get", desc := "(I)Ljava/lang/Object;", sig := { parameters := [.int], returnType := some (.object "java/lang/Object") }, accessFlags := 1025, code := none }
/-- java/util/List -/
def k13 : Class := { plain "java/util/List" (some 0) with
  accessFlags := 1537
  interfaces := #[12]
  cf := some (fileOf pool13 8 #[] #[{ accessFlags := 1025, nameIndex := 79, descriptorIndex := 80, attributes := #[] }, { accessFlags := 1025, nameIndex := 60, descriptorIndex := 64, attributes := #[] }, { accessFlags := 1025, nameIndex := 75, descriptorIndex := 76, attributes := #[] }] 1537 103 #[120] #[])
  fields := #[]
  methods := #[k13m0, k13m1, k13m2]
  instanceTypes := #[]
  staticTypes := #[]
  resolved := Array.replicate 251 none
  statics := none }

def pool14 : Array CpInfo := pool [(1, .methodref 2 3), (0, .class_ 4), (0, .nameAndType 5 6), (0, u "java/util/AbstractCollection"), (0, u "<init>"), (0, u "()V"), (0, .fieldref 8 9), (0, .class_ 10), (0, .nameAndType 11 12), (0, u "java/util/AbstractList"), (0, u "modCount"), (0, u "I"), (64, .class_ 78), (0, u "java/util/AbstractList$Itr"), (3, .class_ 83), (0, u "java/util/AbstractList$ListItr"), (9, .class_ 94), (0, u "java/util/AbstractList$RandomAccessSubList"), (3, .class_ 99), (0, u "java/util/AbstractList$SubList"), (33, .class_ 134), (0, u "java/util/List"), (73, .class_ 209), (0, u "java/util/AbstractList$SubList$1"), (0, .class_ 211), (0, u "java/util/AbstractList$RandomAccessSpliterator")] 6

def k14c0 : Code := { maxStack := 2, maxLocals := 1, code := jdk_39_method_1_code, exceptionTable := #[], attributes := #[] }
def k14m0 : Method := { name := "<init>", desc := "()V", sig := { parameters := [], returnType := none }, accessFlags := 4, code := some k14c0 }
/-- java/util/AbstractList -/
def k14 : Class := { plain "java/util/AbstractList" (some 11) with
  accessFlags := 1057
  interfaces := #[13]
  cf := some (fileOf pool14 8 #[.nestMembers #[93, 98, 208, 210, 82, 77]] #[{ accessFlags := 4, nameIndex := 5, descriptorIndex := 6, attributes := #[] }] 1057 2 #[133] #[{ accessFlags := 132, nameIndex := 11, descriptorIndex := 12, attributes := #[] }])
  fields := #[{ name := "modCount", type := .int, accessFlags := 132, slot := 0, constantValue := 0 }]
  methods := #[k14m0]
  instanceTypes := #[.int]
  staticTypes := #[]
  resolved := Array.replicate 218 none
  statics := none }

def pool15 : Array CpInfo := pool [(1, .class_ 2), (0, u "java/util/RandomAccess"), (0, .class_ 4), (0, u "java/lang/Object")] 2

/-- java/util/RandomAccess -/
def k15 : Class := { plain "java/util/RandomAccess" (some 0) with
  accessFlags := 1537
  interfaces := #[]
  cf := some (fileOf pool15 1 #[] #[] 1537 3 #[] #[])
  fields := #[]
  methods := #[]
  instanceTypes := #[]
  staticTypes := #[]
  resolved := Array.replicate 7 none
  statics := none }

def pool16 : Array CpInfo := pool [(1, .class_ 2), (0, u "java/lang/Cloneable"), (0, .class_ 4), (0, u "java/lang/Object")] 2

/-- java/lang/Cloneable -/
def k16 : Class := { plain "java/lang/Cloneable" (some 0) with
  accessFlags := 1537
  interfaces := #[]
  cf := some (fileOf pool16 1 #[] #[] 1537 3 #[] #[])
  fields := #[]
  methods := #[]
  instanceTypes := #[]
  staticTypes := #[]
  resolved := Array.replicate 7 none
  statics := none }

def pool17 : Array CpInfo := pool [(1, .methodref 2 3), (0, .class_ 4), (0, .nameAndType 5 6), (0, u "java/util/AbstractList"), (0, u "<init>"), (0, u "()V"), (0, .class_ 8), (0, u "java/lang/Object"), (0, .fieldref 10 11), (0, .class_ 12), (0, .nameAndType 13 14), (0, u "java/util/ArrayList"), (0, u "elementData"), (0, u "[Ljava/lang/Object;"), (0, .fieldref 10 16), (0, .nameAndType 17 14), (0, u "EMPTY_ELEMENTDATA"), (21, .fieldref 10 40), (0, .nameAndType 41 14), (0, u "DEFAULTCAPACITY_EMPTY_ELEMENTDATA"), (5, u "()[Ljava/lang/Object;"), (0, .fieldref 10 49), (0, .nameAndType 50 51), (0, u "size"), (0, u "I"), (11, .fieldref 10 64), (0, .nameAndType 65 51), (0, u "modCount"), (3, .methodref 10 70), (0, .nameAndType 71 72), (0, u "grow"), (0, u "(I)[Ljava/lang/Object;"), (6, .methodref 80 81), (0, .class_ 82), (0, .nameAndType 83 84), (0, u "java/lang/Math"), (0, u "max"), (0, u "(II)I"), (11, u "(Ljava/lang/Object;)Z"), (21, .methodref 119 120), (0, .class_ 121), (0, .nameAndType 122 84), (0, u "java/util/Objects"), (0, u "checkIndex"), (0, .methodref 10 124), (0, .nameAndType 13 125), (0, u "(I)Ljava/lang/Object;"), (3, .methodref 10 130), (0, .nameAndType 71 47), (0, .methodref 10 132), (0, .nameAndType 133 134), (0, u "add"), (0, u "(Ljava/lang/Object;[Ljava/lang/Object;I)V"), (3, u "(I)V"), (9, .class_ 149), (0, u "java/util/List"), (16, u "iterator"), (0, u "()Ljava/util/Iterator;"), (18, u "()I"), (75, .class_ 263), (0, u "java/util/ArrayList$ListItr"), (3, .class_ 268), (0, u "java/util/ArrayList$Itr"), (0, .methodref 267 270), (0, .nameAndType 5 271), (0, u "(Ljava/util/ArrayList;)V"), (4, .class_ 277), (0, u "java/util/ArrayList$SubList"), (12, .class_ 291), (0, u "java/util/ArrayList$ArrayListSpliterator"), (37, .class_ 330), (0, u "java/util/RandomAccess"), (0, .class_ 332), (0, u "java/lang/Cloneable"), (0, .class_ 334), (0, u "java/io/Serializable"), (0, u "serialVersionUID"), (0, u "J"), (3, u "DEFAULT_CAPACITY"), (40, u "get"), (118, .class_ 501), (0, u "java/util/ArrayList$SubList$2"), (0, .class_ 503), (0, u "java/util/ArrayList$SubList$1")] 5

def k17c0 : Code := { maxStack := 4, maxLocals := 2, code := jdk_38_method_1_code, exceptionTable := #[], attributes := #[] }
def k17m0 : Method := { name := "<init>", desc := "(I)V", sig := { parameters := [.int], returnType := none }, accessFlags := 1, code := some k17c0 }
def k17c1 : Code := { maxStack := 2, maxLocals := 1, code := jdk_38_method_2_code, exceptionTable := #[], attributes := #[] }
def k17m1 : Method := { name := "<init>", desc := "()V", sig := { parameters := [], returnType := none }, accessFlags := 1, code := some k17c1 }
def k17c2 : Code := { maxStack := 4, maxLocals := 4, code := jdk_38_method_6_code, exceptionTable := #[], attributes := #[] }
def k17m2 : Method := { name := "grow", desc := "(I)[Ljava/lang/Object;", sig := { parameters := [.int], returnType := some (.array (.object "java/lang/Object")) }, accessFlags := 2, code := some k17c2 }
def k17c3 : Code := { maxStack := 3, maxLocals := 1, code := jdk_38_method_7_code, exceptionTable := #[], attributes := #[] }
def k17m3 : Method := { name := "grow", desc := "()[Ljava/lang/Object;", sig := { parameters := [], returnType := some (.array (.object "java/lang/Object")) }, accessFlags := 2, code := some k17c3 }
def k17c4 : Code := { maxStack := 1, maxLocals := 1, code := jdk_38_method_8_code, exceptionTable := #[], attributes := #[] }
def k17m4 : Method := { name := "size", desc := "()I", sig := { parameters := [], returnType := some .int }, accessFlags := 1, code := some k17c4 }
def k17c5 : Code := { maxStack := 2, maxLocals := 2, code := jdk_38_method_18_code, exceptionTable := #[], attributes := #[] }
def k17m5 : Method := { name := "elementData", desc := "(I)Ljava/lang/Object;", sig := { parameters := [.int], returnType := some (.object "java/lang/Object") }, accessFlags := 0, code := some k17c5 }
def k17c6 : Code := { maxStack := 2, maxLocals := 2, code := jdk_38_method_20_code, exceptionTable := #[], attributes := #[] }
def k17m6 : Method := { name := "get", desc := "(I)Ljava/lang/Object;", sig := { parameters := [.int], returnType := some (.object "java/lang/Object") }, accessFlags := 1, code := some k17c6 }
def k17c7 : Code := { maxStack := 3, maxLocals := 4, code := jdk_38_method_24_code, exceptionTable := #[], attributes := #[] }
def k17m7 : Method := { name := "add", desc := "(Ljava/lang/Object;[Ljava/lang/Object;I)V", sig := { parameters := [(.object "java/lang/Object"), (.array (.object "java/lang/Object")), .int], returnType := none }, accessFlags := 2, code := some k17c7 }
def k17c8 : Code := { maxStack := 4, maxLocals := 2, code := jdk_38_method_25_code, exceptionTable := #[], attributes := #[] }
def k17m8 : Method := { name := "add", desc := "(Ljava/lang/Object;)Z", sig := { parameters := [(.object "java/lang/Object")], returnType := some .boolean }, accessFlags := 1, code := some k17c8 }
def k17c9 : Code := { maxStack := 3, maxLocals := 1, code := jdk_38_method_55_code, exceptionTable := #[], attributes := #[] }
def k17m9 : Method := { name := "iterator", desc := "()Ljava/util/Iterator;", sig := { parameters := [], returnType := some (.object "java/util/Iterator") }, accessFlags := 1, code := some k17c9 }
/-- java/util/ArrayList -/
def k17 : Class := { plain "java/util/ArrayList" (some 14) with
  accessFlags := 33
  interfaces := #[13, 15, 16, 2]
  cf := some (fileOf pool17 10 #[.nestMembers #[290, 276, 500, 502, 262, 267]] #[{ accessFlags := 1, nameIndex := 5, descriptorIndex := 138, attributes := #[] }, { accessFlags := 1, nameIndex := 5, descriptorIndex := 6, attributes := #[] }, { accessFlags := 2, nameIndex := 71, descriptorIndex := 72, attributes := #[] }, { accessFlags := 2, nameIndex := 71, descriptorIndex := 47, attributes := #[] }, { accessFlags := 1, nameIndex := 50, descriptorIndex := 186, attributes := #[] }, { accessFlags := 0, nameIndex := 13, descriptorIndex := 125, attributes := #[] }, { accessFlags := 1, nameIndex := 381, descriptorIndex := 125, attributes := #[] }, { accessFlags := 2, nameIndex := 133, descriptorIndex := 134, attributes := #[] }, { accessFlags := 1, nameIndex := 133, descriptorIndex := 96, attributes := #[] }, { accessFlags := 1, nameIndex := 166, descriptorIndex := 167, attributes := #[] }] 33 2 #[148, 329, 331, 333] #[{ accessFlags := 26, nameIndex := 335, descriptorIndex := 336, attributes := #[] }, { accessFlags := 26, nameIndex := 340, descriptorIndex := 51, attributes := #[] }, { accessFlags := 26, nameIndex := 17, descriptorIndex := 14, attributes := #[] }, { accessFlags := 26, nameIndex := 41, descriptorIndex := 14, attributes := #[] }, { accessFlags := 128, nameIndex := 13, descriptorIndex := 14, attributes := #[] }, { accessFlags := 2, nameIndex := 50, descriptorIndex := 51, attributes := #[] }])
  fields := #[{ name := "serialVersionUID", type := .long, accessFlags := 26, slot := 0, constantValue := 0 }, { name := "DEFAULT_CAPACITY", type := .int, accessFlags := 26, slot := 1, constantValue := 0 }, { name := "EMPTY_ELEMENTDATA", type := (.array (.object "java/lang/Object")), accessFlags := 26, slot := 2, constantValue := 0 }, { name := "DEFAULTCAPACITY_EMPTY_ELEMENTDATA", type := (.array (.object "java/lang/Object")), accessFlags := 26, slot := 3, constantValue := 0 }, { name := "elementData", type := (.array (.object "java/lang/Object")), accessFlags := 128, slot := 1, constantValue := 0 }, { name := "size", type := .int, accessFlags := 2, slot := 2, constantValue := 0 }]
  methods := #[k17m0, k17m1, k17m2, k17m3, k17m4, k17m5, k17m6, k17m7, k17m8, k17m9]
  instanceTypes := #[.int, (.array (.object "java/lang/Object")), .int]
  staticTypes := #[.long, .int, (.array (.object "java/lang/Object")), (.array (.object "java/lang/Object"))]
  resolved := Array.replicate 509 none
  statics := some 1 }

def pool18 : Array CpInfo := pool [(2, .class_ 4), (1, u "java/lang/Object"), (0, u "<init>"), (0, u "()V"), (0, .string 8), (0, u "entities"), (0, .methodref 10 11), (0, .class_ 12), (0, .nameAndType 13 14), (0, u "java/util/Objects"), (0, u "requireNonNull"), (0, u "(Ljava/lang/Object;Ljava/lang/String;)Ljava/lang/Object;"), (0, .class_ 16), (0, u "java/util/ArrayList"), (0, .interfaceMethodref 18 19), (0, .class_ 20), (0, .nameAndType 21 22), (0, u "java/util/Collection"), (0, u "size"), (0, u "()I"), (0, .methodref 15 24), (0, .nameAndType 5 25), (0, u "(I)V"), (0, .interfaceMethodref 18 27), (0, .nameAndType 28 29), (0, u "iterator"), (0, u "()Ljava/util/Iterator;"), (0, .interfaceMethodref 31 32), (0, .class_ 33), (0, .nameAndType 34 35), (0, u "java/util/Iterator"), (0, u "hasNext"), (0, u "()Z"), (0, .interfaceMethodref 31 37), (0, .nameAndType 38 39), (0, u "next"), (0, u "()Ljava/lang/Object;"), (0, .string 41), (0, u "an entity in entities"), (0, .interfaceMethodref 43 44), (0, .class_ 45), (0, .nameAndType 46 47), (0, u "java/util/List"), (0, u "add"), (0, u "(Ljava/lang/Object;)Z"), (0, .class_ 49), (0, u "com/example/etapa/etapa/mongodb/EntityBatch"), (2, u "copyOf"), (0, u "(Ljava/util/Collection;)Ljava/util/List;")] 5

def k18m0 : Method := { name := "<init>", desc := "()V", sig := { parameters := [], returnType := none }, accessFlags := 2, code := none }
def k18c1 : Code := { maxStack := 3, maxLocals := 4, code := prog_14_method_2_code, exceptionTable := #[], attributes := #[] }
def k18m1 : Method := { name := "copyOf", desc := "(Ljava/util/Collection;)Ljava/util/List;", sig := { parameters := [(.object "java/util/Collection")], returnType := some (.object "java/util/List") }, accessFlags := 8, code := some k18c1 }
/-- com/example/etapa/etapa/mongodb/EntityBatch -/
def k18 : Class := { plain "com/example/etapa/etapa/mongodb/EntityBatch" (some 0) with
  accessFlags := 48
  interfaces := #[]
  cf := some (fileOf pool18 48 #[] #[{ accessFlags := 2, nameIndex := 5, descriptorIndex := 6, attributes := #[] }, { accessFlags := 8, nameIndex := 52, descriptorIndex := 53, attributes := #[] }] 48 2 #[] #[])
  fields := #[]
  methods := #[k18m0, k18m1]
  instanceTypes := #[]
  staticTypes := #[]
  resolved := Array.replicate 59 none
  statics := none }

def pool19 : Array CpInfo := pool [(2, .class_ 4), (1, u "java/lang/CharSequence"), (42, .class_ 48), (0, u "java/lang/CharSequence$1CodePointIterator"), (10, .class_ 60), (0, u "java/lang/CharSequence$1CharIterator"), (5, .class_ 67), (0, u "java/lang/Object")] 63

/-- java/lang/CharSequence -/
def k19 : Class := { plain "java/lang/CharSequence" (some 0) with
  accessFlags := 1537
  interfaces := #[]
  cf := some (fileOf pool19 2 #[.nestMembers #[47, 59]] #[] 1537 66 #[] #[])
  fields := #[]
  methods := #[]
  instanceTypes := #[]
  staticTypes := #[]
  resolved := Array.replicate 131 none
  statics := none }

def pool20 : Array CpInfo := pool [(2, .class_ 4), (1, u "java/lang/Object"), (0, u "<init>"), (0, u "()V"), (3, .class_ 12), (1, u "java/lang/String"), (0, u "value"), (0, u "[B"), (2, u "coder"), (0, u "B"), (2, u "hash"), (0, u "I"), (2, u "hashIsZero"), (0, u "Z"), (13, u "COMPACT_STRINGS"), (534, .class_ 576), (0, u "java/lang/CharSequence"), (22, u "CASE_INSENSITIVE_ORDER"), (0, u "Ljava/util/Comparator;"), (500, u "serialPersistentFields"), (0, u "[Ljava/io/ObjectStreamField;"), (0, .class_ 1104), (0, u "java/lang/String$CaseInsensitiveComparator"), (1, .class_ 1107), (0, u "java/io/Serializable"), (0, .class_ 1109), (0, u "java/lang/Comparable"), (0, .class_ 1111), (0, u "java/lang/constant/Constable"), (0, .class_ 1113), (0, u "java/lang/constant/ConstantDesc"), (2, u "serialVersionUID"), (0, u "J"), (3, u "REPL"), (0, u "C"), (2, u "LATIN1"), (1, u "UTF16")] 323

def k20m0 : Method := { name := "<init>", desc := "()V", sig := { parameters := [], returnType := none }, accessFlags := 1, code := none }
/-- java/lang/String -/
def k20 : Class := { plain "java/lang/String" (some 0) with
  accessFlags := 49
  interfaces := #[2, 4, 19, 5, 6]
  cf := some (fileOf pool20 10 #[.nestMembers #[1103]] #[{ accessFlags := 1, nameIndex := 5, descriptorIndex := 6, attributes := #[] }] 49 2 #[1106, 1108, 575, 1110, 1112] #[{ accessFlags := 18, nameIndex := 13, descriptorIndex := 14, attributes := #[] }, { accessFlags := 18, nameIndex := 17, descriptorIndex := 18, attributes := #[] }, { accessFlags := 2, nameIndex := 21, descriptorIndex := 22, attributes := #[] }, { accessFlags := 2, nameIndex := 25, descriptorIndex := 26, attributes := #[] }, { accessFlags := 26, nameIndex := 1116, descriptorIndex := 1117, attributes := #[] }, { accessFlags := 24, nameIndex := 40, descriptorIndex := 26, attributes := #[] }, { accessFlags := 26, nameIndex := 1101, descriptorIndex := 1102, attributes := #[] }, { accessFlags := 26, nameIndex := 1121, descriptorIndex := 1122, attributes := #[] }, { accessFlags := 25, nameIndex := 599, descriptorIndex := 600, attributes := #[] }, { accessFlags := 24, nameIndex := 1125, descriptorIndex := 18, attributes := #[] }, { accessFlags := 24, nameIndex := 1127, descriptorIndex := 18, attributes := #[] }])
  fields := #[{ name := "value", type := (.array .byte), accessFlags := 18, slot := 0, constantValue := 0 }, { name := "coder", type := .byte, accessFlags := 18, slot := 1, constantValue := 0 }, { name := "hash", type := .int, accessFlags := 2, slot := 2, constantValue := 0 }, { name := "hashIsZero", type := .boolean, accessFlags := 2, slot := 3, constantValue := 0 }, { name := "serialVersionUID", type := .long, accessFlags := 26, slot := 0, constantValue := 0 }, { name := "COMPACT_STRINGS", type := .boolean, accessFlags := 24, slot := 1, constantValue := 0 }, { name := "serialPersistentFields", type := (.array (.object "java/io/ObjectStreamField")), accessFlags := 26, slot := 2, constantValue := 0 }, { name := "REPL", type := .char, accessFlags := 26, slot := 3, constantValue := 0 }, { name := "CASE_INSENSITIVE_ORDER", type := (.object "java/util/Comparator"), accessFlags := 25, slot := 4, constantValue := 0 }, { name := "LATIN1", type := .byte, accessFlags := 24, slot := 5, constantValue := 0 }, { name := "UTF16", type := .byte, accessFlags := 24, slot := 6, constantValue := 0 }]
  methods := #[k20m0]
  instanceTypes := #[(.array .byte), .byte, .int, .boolean]
  staticTypes := #[.long, .boolean, (.array (.object "java/io/ObjectStreamField")), .char, (.object "java/util/Comparator"), .byte, .byte]
  resolved := Array.replicate 1451 none
  statics := none }

def pool21 : Array CpInfo := pool [(2, .class_ 4), (1, u "java/lang/Object"), (0, u "<init>"), (0, u "()V"), (35, .class_ 44), (1, u "java/util/Objects"), (0, u "requireNonNull"), (48, u "(Ljava/lang/Object;Ljava/lang/String;)Ljava/lang/Object;"), (10, .methodref 106 107), (0, .class_ 108), (0, .nameAndType 109 110), (0, u "jdk/internal/util/Preconditions"), (0, u "checkIndex"), (0, u "(IILjava/util/function/BiFunction;)I"), (60, u "(II)I")] 12

def k21m0 : Method := { name := "<init>", desc := "()V", sig := { parameters := [], returnType := none }, accessFlags := 2, code := none }
def k21c1 : Code := { maxStack := 3, maxLocals := 2, code := jdk_31_method_11_code, exceptionTable := #[], attributes := #[] }
def k21m1 : Method := { name := "requireNonNull", desc := "(Ljava/lang/Object;Ljava/lang/String;)Ljava/lang/Object;", sig := { parameters := [(.object "java/lang/Object"), (.object "java/lang/String")], returnType := some (.object "java/lang/Object") }, accessFlags := 9, code := some k21c1 }
def k21c2 : Code := { maxStack := 3, maxLocals := 2, code := jdk_31_method_17_code, exceptionTable := #[], attributes := #[] }
def k21m2 : Method := { name := "checkIndex", desc := "(II)I", sig := { parameters := [.int, .int], returnType := some .int }, accessFlags := 9, code := some k21c2 }
/-- java/util/Objects -/
def k21 : Class := { plain "java/util/Objects" (some 0) with
  accessFlags := 49
  interfaces := #[]
  cf := some (fileOf pool21 42 #[] #[{ accessFlags := 2, nameIndex := 5, descriptorIndex := 6, attributes := #[] }, { accessFlags := 9, nameIndex := 45, descriptorIndex := 94, attributes := #[] }, { accessFlags := 9, nameIndex := 109, descriptorIndex := 171, attributes := #[] }] 49 2 #[] #[])
  fields := #[]
  methods := #[k21m0, k21m1, k21m2]
  instanceTypes := #[]
  staticTypes := #[]
  resolved := Array.replicate 184 none
  statics := none }

def pool22 : Array CpInfo := pool [(16, .class_ 18), (1, u "java/util/Iterator"), (0, u "hasNext"), (0, u "()Z"), (2, u "next"), (0, u "()Ljava/lang/Object;"), (6, .class_ 32), (0, u "java/lang/Object")] 20

def k22m0 : Method := { name := "hasNext", desc := "()Z", sig := { parameters := [], returnType := some .boolean }, accessFlags := 1025, code := none }
def k22m1 : Method := { name := "next", desc := "()Ljava/lang/Object;", sig := { parameters := [], returnType := some (.object "java/lang/Object") }, accessFlags := 1025, code := none }
/-- java/util/Iterator -/
def k22 : Class := { plain "java/util/Iterator" (some 0) with
  accessFlags := 1537
  interfaces := #[]
  cf := some (fileOf pool22 16 #[] #[{ accessFlags := 1025, nameIndex := 19, descriptorIndex := 20, attributes := #[] }, { accessFlags := 1025, nameIndex := 23, descriptorIndex := 24, attributes := #[] }] 1537 31 #[] #[])
  fields := #[]
  methods := #[k22m0, k22m1]
  instanceTypes := #[]
  staticTypes := #[]
  resolved := Array.replicate 53 none
  statics := none }

def pool23 : Array CpInfo := pool [(1, .fieldref 2 3), (0, .class_ 4), (0, .nameAndType 5 6), (0, u "java/util/ArrayList$Itr"), (0, u "this$0"), (0, u "Ljava/util/ArrayList;"), (0, .methodref 8 9), (0, .class_ 10), (0, .nameAndType 11 12), (0, u "java/lang/Object"), (0, u "<init>"), (0, u "()V"), (0, .fieldref 2 14), (0, .nameAndType 15 16), (0, u "lastRet"), (0, u "I"), (0, .fieldref 18 19), (0, .class_ 20), (0, .nameAndType 21 16), (0, u "java/util/ArrayList"), (0, u "modCount"), (0, .fieldref 2 23), (0, .nameAndType 24 16), (0, u "expectedModCount"), (0, .fieldref 2 26), (0, .nameAndType 27 16), (0, u "cursor"), (0, .fieldref 18 29), (0, .nameAndType 30 16), (0, u "size"), (0, .methodref 2 32), (0, .nameAndType 33 12), (0, u "checkForComodification"), (3, .fieldref 18 38), (0, .nameAndType 39 40), (0, u "elementData"), (0, u "[Ljava/lang/Object;"), (28, .class_ 70), (0, u "java/util/Iterator"), (0, u "(Ljava/util/ArrayList;)V"), (8, u "hasNext"), (0, u "()Z"), (1, u "next"), (0, u "()Ljava/lang/Object;")] 19

def k23c0 : Code := { maxStack := 2, maxLocals := 2, code := jdk_49_method_1_code, exceptionTable := #[], attributes := #[] }
def k23m0 : Method := { name := "<init>", desc := "(Ljava/util/ArrayList;)V", sig := { parameters := [(.object "java/util/ArrayList")], returnType := none }, accessFlags := 0, code := some k23c0 }
def k23c1 : Code := { maxStack := 2, maxLocals := 1, code := jdk_49_method_2_code, exceptionTable := #[], attributes := #[] }
def k23m1 : Method := { name := "hasNext", desc := "()Z", sig := { parameters := [], returnType := some .boolean }, accessFlags := 1, code := some k23c1 }
def k23c2 : Code := { maxStack := 4, maxLocals := 3, code := jdk_49_method_3_code, exceptionTable := #[], attributes := #[] }
def k23m2 : Method := { name := "next", desc := "()Ljava/lang/Object;", sig := { parameters := [], returnType := some (.object "java/lang/Object") }, accessFlags := 1, code := some k23c2 }
def k23c3 : Code := { maxStack := 2, maxLocals := 1, code := jdk_49_method_6_code, exceptionTable := #[], attributes := #[] }
def k23m3 : Method := { name := "checkForComodification", desc := "()V", sig := { parameters := [], returnType := none }, accessFlags := 16, code := some k23c3 }
/-- java/util/ArrayList$Itr -/
def k23 : Class := { plain "java/util/ArrayList$Itr" (some 0) with
  accessFlags := 32
  interfaces := #[22]
  cf := some (fileOf pool23 2 #[.nestHost 18] #[{ accessFlags := 0, nameIndex := 11, descriptorIndex := 71, attributes := #[] }, { accessFlags := 1, nameIndex := 80, descriptorIndex := 81, attributes := #[] }, { accessFlags := 1, nameIndex := 83, descriptorIndex := 84, attributes := #[] }, { accessFlags := 16, nameIndex := 33, descriptorIndex := 12, attributes := #[] }] 32 8 #[69] #[{ accessFlags := 0, nameIndex := 27, descriptorIndex := 16, attributes := #[] }, { accessFlags := 0, nameIndex := 15, descriptorIndex := 16, attributes := #[] }, { accessFlags := 0, nameIndex := 24, descriptorIndex := 16, attributes := #[] }, { accessFlags := 4112, nameIndex := 5, descriptorIndex := 6, attributes := #[] }])
  fields := #[{ name := "cursor", type := .int, accessFlags := 0, slot := 0, constantValue := 0 }, { name := "lastRet", type := .int, accessFlags := 0, slot := 1, constantValue := 0 }, { name := "expectedModCount", type := .int, accessFlags := 0, slot := 2, constantValue := 0 }, { name := "this$0", type := (.object "java/util/ArrayList"), accessFlags := 4112, slot := 3, constantValue := 0 }]
  methods := #[k23m0, k23m1, k23m2, k23m3]
  instanceTypes := #[.int, .int, .int, (.object "java/util/ArrayList")]
  staticTypes := #[]
  resolved := Array.replicate 104 none
  statics := none }

def pool24 : Array CpInfo := pool [(1, .class_ 2), (0, u "java/lang/Math"), (1, .class_ 6), (1, u "java/lang/Object"), (0, u "<init>"), (0, u "()V"), (89, .class_ 100), (1, u "java/lang/Math$RandomNumberGeneratorHolder"), (71, u "negativeZeroFloatBits"), (0, u "J"), (2, u "negativeZeroDoubleBits"), (21, u "max"), (46, u "$assertionsDisabled"), (0, u "Z"), (88, u "(II)I"), (2, u "twoToTheDoubleScaleDown"), (0, u "D"), (4, u "twoToTheDoubleScaleUp"), (9, u "E"), (3, u "PI"), (2, u "TAU"), (2, u "DEGREES_TO_RADIANS"), (0, u "RADIANS_TO_DEGREES")] 94

def k24m0 : Method := { name := "<init>", desc := "()V", sig := { parameters := [], returnType := none }, accessFlags := 2, code := none }
def k24c1 : Code := { maxStack := 2, maxLocals := 2, code := jdk_29_method_65_code, exceptionTable := #[], attributes := #[] }
def k24m1 : Method := { name := "max", desc := "(II)I", sig := { parameters := [.int, .int], returnType := some .int }, accessFlags := 9, code := some k24c1 }
/-- java/lang/Math -/
def k24 : Class := { plain "java/lang/Math" (some 0) with
  accessFlags := 49
  interfaces := #[]
  cf := some (fileOf pool24 1 #[.nestMembers #[98]] #[{ accessFlags := 2, nameIndex := 7, descriptorIndex := 8, attributes := #[] }, { accessFlags := 9, nameIndex := 198, descriptorIndex := 335, attributes := #[] }] 49 4 #[] #[{ accessFlags := 25, nameIndex := 354, descriptorIndex := 339, attributes := #[] }, { accessFlags := 25, nameIndex := 358, descriptorIndex := 339, attributes := #[] }, { accessFlags := 25, nameIndex := 361, descriptorIndex := 339, attributes := #[] }, { accessFlags := 26, nameIndex := 364, descriptorIndex := 339, attributes := #[] }, { accessFlags := 26, nameIndex := 365, descriptorIndex := 339, attributes := #[] }, { accessFlags := 26, nameIndex := 172, descriptorIndex := 173, attributes := #[] }, { accessFlags := 26, nameIndex := 176, descriptorIndex := 173, attributes := #[] }, { accessFlags := 8, nameIndex := 344, descriptorIndex := 339, attributes := #[] }, { accessFlags := 8, nameIndex := 338, descriptorIndex := 339, attributes := #[] }, { accessFlags := 4120, nameIndex := 245, descriptorIndex := 246, attributes := #[] }])
  fields := #[{ name := "E", type := .double, accessFlags := 25, slot := 0, constantValue := 0 }, { name := "PI", type := .double, accessFlags := 25, slot := 1, constantValue := 0 }, { name := "TAU", type := .double, accessFlags := 25, slot := 2, constantValue := 0 }, { name := "DEGREES_TO_RADIANS", type := .double, accessFlags := 26, slot := 3, constantValue := 0 }, { name := "RADIANS_TO_DEGREES", type := .double, accessFlags := 26, slot := 4, constantValue := 0 }, { name := "negativeZeroFloatBits", type := .long, accessFlags := 26, slot := 5, constantValue := 0 }, { name := "negativeZeroDoubleBits", type := .long, accessFlags := 26, slot := 6, constantValue := 0 }, { name := "twoToTheDoubleScaleUp", type := .double, accessFlags := 8, slot := 7, constantValue := 0 }, { name := "twoToTheDoubleScaleDown", type := .double, accessFlags := 8, slot := 8, constantValue := 0 }, { name := "$assertionsDisabled", type := .boolean, accessFlags := 4120, slot := 9, constantValue := 0 }]
  methods := #[k24m0, k24m1]
  instanceTypes := #[]
  staticTypes := #[.double, .double, .double, .double, .double, .long, .long, .double, .double, .boolean]
  resolved := Array.replicate 460 none
  statics := none }

def pool25 : Array CpInfo := pool [(2, .class_ 4), (1, u "java/lang/Object"), (0, u "<init>"), (0, u "()V"), (17, .class_ 26), (1, u "jdk/internal/util/Preconditions"), (6, u "checkIndex"), (21, .class_ 56), (0, u "jdk/internal/util/Preconditions$4"), (57, .class_ 115), (0, u "jdk/internal/util/Preconditions$1"), (7, u "SIOOBE_FORMATTER"), (0, u "Ljava/util/function/BiFunction;"), (0, .class_ 126), (0, u "jdk/internal/util/Preconditions$2"), (3, u "AIOOBE_FORMATTER"), (0, .class_ 132), (0, u "jdk/internal/util/Preconditions$3"), (3, u "IOOBE_FORMATTER"), (41, u "(IILjava/util/function/BiFunction;)I")] 15

def k25m0 : Method := { name := "<init>", desc := "()V", sig := { parameters := [], returnType := none }, accessFlags := 1, code := none }
def k25c1 : Code := { maxStack := 3, maxLocals := 3, code := jdk_41_method_11_code, exceptionTable := #[], attributes := #[] }
def k25m1 : Method := { name := "checkIndex", desc := "(IILjava/util/function/BiFunction;)I", sig := { parameters := [.int, .int, (.object "java/util/function/BiFunction")], returnType := some .int }, accessFlags := 9, code := some k25c1 }
/-- jdk/internal/util/Preconditions -/
def k25 : Class := { plain "jdk/internal/util/Preconditions" (some 0) with
  accessFlags := 33
  interfaces := #[]
  cf := some (fileOf pool25 24 #[.nestMembers #[55, 131, 125, 114]] #[{ accessFlags := 1, nameIndex := 5, descriptorIndex := 6, attributes := #[] }, { accessFlags := 9, nameIndex := 33, descriptorIndex := 178, attributes := #[] }] 33 2 #[] #[{ accessFlags := 25, nameIndex := 123, descriptorIndex := 124, attributes := #[] }, { accessFlags := 25, nameIndex := 130, descriptorIndex := 124, attributes := #[] }, { accessFlags := 25, nameIndex := 136, descriptorIndex := 124, attributes := #[] }])
  fields := #[{ name := "SIOOBE_FORMATTER", type := (.object "java/util/function/BiFunction"), accessFlags := 25, slot := 0, constantValue := 0 }, { name := "AIOOBE_FORMATTER", type := (.object "java/util/function/BiFunction"), accessFlags := 25, slot := 1, constantValue := 0 }, { name := "IOOBE_FORMATTER", type := (.object "java/util/function/BiFunction"), accessFlags := 25, slot := 2, constantValue := 0 }]
  methods := #[k25m0, k25m1]
  instanceTypes := #[]
  staticTypes := #[(.object "java/util/function/BiFunction"), (.object "java/util/function/BiFunction"), (.object "java/util/function/BiFunction")]
  resolved := Array.replicate 194 none
  statics := none }

/-- the primitive byte -/
def k26 : Class := { plain "byte" none with kind := .primitive 'B', accessFlags := 0x411 }
/-- [B -/
def k27 : Class := { plain "[B" (some 0) with kind := .array 26 .byte, interfaces := #[16, 2], accessFlags := 1041 }

/-- the primitive int -/
def k28 : Class := { plain "int" none with kind := .primitive 'I', accessFlags := 0x411 }
/-- [I -/
def k29 : Class := { plain "[I" (some 0) with kind := .array 28 .int, interfaces := #[16, 2], accessFlags := 1041 }

/-- [Ljava/lang/Integer; -/
def k30 : Class := { plain "[Ljava/lang/Integer;" (some 0) with kind := .array 7 (.object "java/lang/Integer"), interfaces := #[16, 2], accessFlags := 1041 }

/-- [Ljava/lang/Object; -/
def k31 : Class := { plain "[Ljava/lang/Object;" (some 0) with kind := .array 0 (.object "java/lang/Object"), interfaces := #[16, 2], accessFlags := 1041 }

def heap : Heap := #[{ cls := 8, slots := #[.int 0, .int 127, .ref 2, .null, .int 0], vm := .statics 8 },
  { cls := 17, slots := #[.long 0, .int 0, .ref 259, .ref 260], vm := .statics 17 },
  { cls := 30, slots := #[.ref 3, .ref 4, .ref 5, .ref 6, .ref 7, .ref 8, .ref 9, .ref 10, .ref 11, .ref 12, .ref 13, .ref 14, .ref 15, .ref 16, .ref 17, .ref 18, .ref 19, .ref 20, .ref 21, .ref 22, .ref 23, .ref 24, .ref 25, .ref 26, .ref 27, .ref 28, .ref 29, .ref 30, .ref 31, .ref 32, .ref 33, .ref 34, .ref 35, .ref 36, .ref 37, .ref 38, .ref 39, .ref 40, .ref 41, .ref 42, .ref 43, .ref 44, .ref 45, .ref 46, .ref 47, .ref 48, .ref 49, .ref 50, .ref 51, .ref 52, .ref 53, .ref 54, .ref 55, .ref 56, .ref 57, .ref 58, .ref 59, .ref 60, .ref 61, .ref 62, .ref 63, .ref 64, .ref 65, .ref 66, .ref 67, .ref 68, .ref 69, .ref 70, .ref 71, .ref 72, .ref 73, .ref 74, .ref 75, .ref 76, .ref 77, .ref 78, .ref 79, .ref 80, .ref 81, .ref 82, .ref 83, .ref 84, .ref 85, .ref 86, .ref 87, .ref 88, .ref 89, .ref 90, .ref 91, .ref 92, .ref 93, .ref 94, .ref 95, .ref 96, .ref 97, .ref 98, .ref 99, .ref 100, .ref 101, .ref 102, .ref 103, .ref 104, .ref 105, .ref 106, .ref 107, .ref 108, .ref 109, .ref 110, .ref 111, .ref 112, .ref 113, .ref 114, .ref 115, .ref 116, .ref 117, .ref 118, .ref 119, .ref 120, .ref 121, .ref 122, .ref 123, .ref 124, .ref 125, .ref 126, .ref 127, .ref 128, .ref 129, .ref 130, .ref 131, .ref 132, .ref 133, .ref 134, .ref 135, .ref 136, .ref 137, .ref 138, .ref 139, .ref 140, .ref 141, .ref 142, .ref 143, .ref 144, .ref 145, .ref 146, .ref 147, .ref 148, .ref 149, .ref 150, .ref 151, .ref 152, .ref 153, .ref 154, .ref 155, .ref 156, .ref 157, .ref 158, .ref 159, .ref 160, .ref 161, .ref 162, .ref 163, .ref 164, .ref 165, .ref 166, .ref 167, .ref 168, .ref 169, .ref 170, .ref 171, .ref 172, .ref 173, .ref 174, .ref 175, .ref 176, .ref 177, .ref 178, .ref 179, .ref 180, .ref 181, .ref 182, .ref 183, .ref 184, .ref 185, .ref 186, .ref 187, .ref 188, .ref 189, .ref 190, .ref 191, .ref 192, .ref 193, .ref 194, .ref 195, .ref 196, .ref 197, .ref 198, .ref 199, .ref 200, .ref 201, .ref 202, .ref 203, .ref 204, .ref 205, .ref 206, .ref 207, .ref 208, .ref 209, .ref 210, .ref 211, .ref 212, .ref 213, .ref 214, .ref 215, .ref 216, .ref 217, .ref 218, .ref 219, .ref 220, .ref 221, .ref 222, .ref 223, .ref 224, .ref 225, .ref 226, .ref 227, .ref 228, .ref 229, .ref 230, .ref 231, .ref 232, .ref 233, .ref 234, .ref 235, .ref 236, .ref 237, .ref 238, .ref 239, .ref 240, .ref 241, .ref 242, .ref 243, .ref 244, .ref 245, .ref 246, .ref 247, .ref 248, .ref 249, .ref 250, .ref 251, .ref 252, .ref 253, .ref 254, .ref 255, .ref 256, .ref 257, .ref 258], vm := .none },
  { cls := 7, slots := #[.int (-128)], vm := .none },
  { cls := 7, slots := #[.int (-127)], vm := .none },
  { cls := 7, slots := #[.int (-126)], vm := .none },
  { cls := 7, slots := #[.int (-125)], vm := .none },
  { cls := 7, slots := #[.int (-124)], vm := .none },
  { cls := 7, slots := #[.int (-123)], vm := .none },
  { cls := 7, slots := #[.int (-122)], vm := .none },
  { cls := 7, slots := #[.int (-121)], vm := .none },
  { cls := 7, slots := #[.int (-120)], vm := .none },
  { cls := 7, slots := #[.int (-119)], vm := .none },
  { cls := 7, slots := #[.int (-118)], vm := .none },
  { cls := 7, slots := #[.int (-117)], vm := .none },
  { cls := 7, slots := #[.int (-116)], vm := .none },
  { cls := 7, slots := #[.int (-115)], vm := .none },
  { cls := 7, slots := #[.int (-114)], vm := .none },
  { cls := 7, slots := #[.int (-113)], vm := .none },
  { cls := 7, slots := #[.int (-112)], vm := .none },
  { cls := 7, slots := #[.int (-111)], vm := .none },
  { cls := 7, slots := #[.int (-110)], vm := .none },
  { cls := 7, slots := #[.int (-109)], vm := .none },
  { cls := 7, slots := #[.int (-108)], vm := .none },
  { cls := 7, slots := #[.int (-107)], vm := .none },
  { cls := 7, slots := #[.int (-106)], vm := .none },
  { cls := 7, slots := #[.int (-105)], vm := .none },
  { cls := 7, slots := #[.int (-104)], vm := .none },
  { cls := 7, slots := #[.int (-103)], vm := .none },
  { cls := 7, slots := #[.int (-102)], vm := .none },
  { cls := 7, slots := #[.int (-101)], vm := .none },
  { cls := 7, slots := #[.int (-100)], vm := .none },
  { cls := 7, slots := #[.int (-99)], vm := .none },
  { cls := 7, slots := #[.int (-98)], vm := .none },
  { cls := 7, slots := #[.int (-97)], vm := .none },
  { cls := 7, slots := #[.int (-96)], vm := .none },
  { cls := 7, slots := #[.int (-95)], vm := .none },
  { cls := 7, slots := #[.int (-94)], vm := .none },
  { cls := 7, slots := #[.int (-93)], vm := .none },
  { cls := 7, slots := #[.int (-92)], vm := .none },
  { cls := 7, slots := #[.int (-91)], vm := .none },
  { cls := 7, slots := #[.int (-90)], vm := .none },
  { cls := 7, slots := #[.int (-89)], vm := .none },
  { cls := 7, slots := #[.int (-88)], vm := .none },
  { cls := 7, slots := #[.int (-87)], vm := .none },
  { cls := 7, slots := #[.int (-86)], vm := .none },
  { cls := 7, slots := #[.int (-85)], vm := .none },
  { cls := 7, slots := #[.int (-84)], vm := .none },
  { cls := 7, slots := #[.int (-83)], vm := .none },
  { cls := 7, slots := #[.int (-82)], vm := .none },
  { cls := 7, slots := #[.int (-81)], vm := .none },
  { cls := 7, slots := #[.int (-80)], vm := .none },
  { cls := 7, slots := #[.int (-79)], vm := .none },
  { cls := 7, slots := #[.int (-78)], vm := .none },
  { cls := 7, slots := #[.int (-77)], vm := .none },
  { cls := 7, slots := #[.int (-76)], vm := .none },
  { cls := 7, slots := #[.int (-75)], vm := .none },
  { cls := 7, slots := #[.int (-74)], vm := .none },
  { cls := 7, slots := #[.int (-73)], vm := .none },
  { cls := 7, slots := #[.int (-72)], vm := .none },
  { cls := 7, slots := #[.int (-71)], vm := .none },
  { cls := 7, slots := #[.int (-70)], vm := .none },
  { cls := 7, slots := #[.int (-69)], vm := .none },
  { cls := 7, slots := #[.int (-68)], vm := .none },
  { cls := 7, slots := #[.int (-67)], vm := .none },
  { cls := 7, slots := #[.int (-66)], vm := .none },
  { cls := 7, slots := #[.int (-65)], vm := .none },
  { cls := 7, slots := #[.int (-64)], vm := .none },
  { cls := 7, slots := #[.int (-63)], vm := .none },
  { cls := 7, slots := #[.int (-62)], vm := .none },
  { cls := 7, slots := #[.int (-61)], vm := .none },
  { cls := 7, slots := #[.int (-60)], vm := .none },
  { cls := 7, slots := #[.int (-59)], vm := .none },
  { cls := 7, slots := #[.int (-58)], vm := .none },
  { cls := 7, slots := #[.int (-57)], vm := .none },
  { cls := 7, slots := #[.int (-56)], vm := .none },
  { cls := 7, slots := #[.int (-55)], vm := .none },
  { cls := 7, slots := #[.int (-54)], vm := .none },
  { cls := 7, slots := #[.int (-53)], vm := .none },
  { cls := 7, slots := #[.int (-52)], vm := .none },
  { cls := 7, slots := #[.int (-51)], vm := .none },
  { cls := 7, slots := #[.int (-50)], vm := .none },
  { cls := 7, slots := #[.int (-49)], vm := .none },
  { cls := 7, slots := #[.int (-48)], vm := .none },
  { cls := 7, slots := #[.int (-47)], vm := .none },
  { cls := 7, slots := #[.int (-46)], vm := .none },
  { cls := 7, slots := #[.int (-45)], vm := .none },
  { cls := 7, slots := #[.int (-44)], vm := .none },
  { cls := 7, slots := #[.int (-43)], vm := .none },
  { cls := 7, slots := #[.int (-42)], vm := .none },
  { cls := 7, slots := #[.int (-41)], vm := .none },
  { cls := 7, slots := #[.int (-40)], vm := .none },
  { cls := 7, slots := #[.int (-39)], vm := .none },
  { cls := 7, slots := #[.int (-38)], vm := .none },
  { cls := 7, slots := #[.int (-37)], vm := .none },
  { cls := 7, slots := #[.int (-36)], vm := .none },
  { cls := 7, slots := #[.int (-35)], vm := .none },
  { cls := 7, slots := #[.int (-34)], vm := .none },
  { cls := 7, slots := #[.int (-33)], vm := .none },
  { cls := 7, slots := #[.int (-32)], vm := .none },
  { cls := 7, slots := #[.int (-31)], vm := .none },
  { cls := 7, slots := #[.int (-30)], vm := .none },
  { cls := 7, slots := #[.int (-29)], vm := .none },
  { cls := 7, slots := #[.int (-28)], vm := .none },
  { cls := 7, slots := #[.int (-27)], vm := .none },
  { cls := 7, slots := #[.int (-26)], vm := .none },
  { cls := 7, slots := #[.int (-25)], vm := .none },
  { cls := 7, slots := #[.int (-24)], vm := .none },
  { cls := 7, slots := #[.int (-23)], vm := .none },
  { cls := 7, slots := #[.int (-22)], vm := .none },
  { cls := 7, slots := #[.int (-21)], vm := .none },
  { cls := 7, slots := #[.int (-20)], vm := .none },
  { cls := 7, slots := #[.int (-19)], vm := .none },
  { cls := 7, slots := #[.int (-18)], vm := .none },
  { cls := 7, slots := #[.int (-17)], vm := .none },
  { cls := 7, slots := #[.int (-16)], vm := .none },
  { cls := 7, slots := #[.int (-15)], vm := .none },
  { cls := 7, slots := #[.int (-14)], vm := .none },
  { cls := 7, slots := #[.int (-13)], vm := .none },
  { cls := 7, slots := #[.int (-12)], vm := .none },
  { cls := 7, slots := #[.int (-11)], vm := .none },
  { cls := 7, slots := #[.int (-10)], vm := .none },
  { cls := 7, slots := #[.int (-9)], vm := .none },
  { cls := 7, slots := #[.int (-8)], vm := .none },
  { cls := 7, slots := #[.int (-7)], vm := .none },
  { cls := 7, slots := #[.int (-6)], vm := .none },
  { cls := 7, slots := #[.int (-5)], vm := .none },
  { cls := 7, slots := #[.int (-4)], vm := .none },
  { cls := 7, slots := #[.int (-3)], vm := .none },
  { cls := 7, slots := #[.int (-2)], vm := .none },
  { cls := 7, slots := #[.int (-1)], vm := .none },
  { cls := 7, slots := #[.int 0], vm := .none },
  { cls := 7, slots := #[.int 1], vm := .none },
  { cls := 7, slots := #[.int 2], vm := .none },
  { cls := 7, slots := #[.int 3], vm := .none },
  { cls := 7, slots := #[.int 4], vm := .none },
  { cls := 7, slots := #[.int 5], vm := .none },
  { cls := 7, slots := #[.int 6], vm := .none },
  { cls := 7, slots := #[.int 7], vm := .none },
  { cls := 7, slots := #[.int 8], vm := .none },
  { cls := 7, slots := #[.int 9], vm := .none },
  { cls := 7, slots := #[.int 10], vm := .none },
  { cls := 7, slots := #[.int 11], vm := .none },
  { cls := 7, slots := #[.int 12], vm := .none },
  { cls := 7, slots := #[.int 13], vm := .none },
  { cls := 7, slots := #[.int 14], vm := .none },
  { cls := 7, slots := #[.int 15], vm := .none },
  { cls := 7, slots := #[.int 16], vm := .none },
  { cls := 7, slots := #[.int 17], vm := .none },
  { cls := 7, slots := #[.int 18], vm := .none },
  { cls := 7, slots := #[.int 19], vm := .none },
  { cls := 7, slots := #[.int 20], vm := .none },
  { cls := 7, slots := #[.int 21], vm := .none },
  { cls := 7, slots := #[.int 22], vm := .none },
  { cls := 7, slots := #[.int 23], vm := .none },
  { cls := 7, slots := #[.int 24], vm := .none },
  { cls := 7, slots := #[.int 25], vm := .none },
  { cls := 7, slots := #[.int 26], vm := .none },
  { cls := 7, slots := #[.int 27], vm := .none },
  { cls := 7, slots := #[.int 28], vm := .none },
  { cls := 7, slots := #[.int 29], vm := .none },
  { cls := 7, slots := #[.int 30], vm := .none },
  { cls := 7, slots := #[.int 31], vm := .none },
  { cls := 7, slots := #[.int 32], vm := .none },
  { cls := 7, slots := #[.int 33], vm := .none },
  { cls := 7, slots := #[.int 34], vm := .none },
  { cls := 7, slots := #[.int 35], vm := .none },
  { cls := 7, slots := #[.int 36], vm := .none },
  { cls := 7, slots := #[.int 37], vm := .none },
  { cls := 7, slots := #[.int 38], vm := .none },
  { cls := 7, slots := #[.int 39], vm := .none },
  { cls := 7, slots := #[.int 40], vm := .none },
  { cls := 7, slots := #[.int 41], vm := .none },
  { cls := 7, slots := #[.int 42], vm := .none },
  { cls := 7, slots := #[.int 43], vm := .none },
  { cls := 7, slots := #[.int 44], vm := .none },
  { cls := 7, slots := #[.int 45], vm := .none },
  { cls := 7, slots := #[.int 46], vm := .none },
  { cls := 7, slots := #[.int 47], vm := .none },
  { cls := 7, slots := #[.int 48], vm := .none },
  { cls := 7, slots := #[.int 49], vm := .none },
  { cls := 7, slots := #[.int 50], vm := .none },
  { cls := 7, slots := #[.int 51], vm := .none },
  { cls := 7, slots := #[.int 52], vm := .none },
  { cls := 7, slots := #[.int 53], vm := .none },
  { cls := 7, slots := #[.int 54], vm := .none },
  { cls := 7, slots := #[.int 55], vm := .none },
  { cls := 7, slots := #[.int 56], vm := .none },
  { cls := 7, slots := #[.int 57], vm := .none },
  { cls := 7, slots := #[.int 58], vm := .none },
  { cls := 7, slots := #[.int 59], vm := .none },
  { cls := 7, slots := #[.int 60], vm := .none },
  { cls := 7, slots := #[.int 61], vm := .none },
  { cls := 7, slots := #[.int 62], vm := .none },
  { cls := 7, slots := #[.int 63], vm := .none },
  { cls := 7, slots := #[.int 64], vm := .none },
  { cls := 7, slots := #[.int 65], vm := .none },
  { cls := 7, slots := #[.int 66], vm := .none },
  { cls := 7, slots := #[.int 67], vm := .none },
  { cls := 7, slots := #[.int 68], vm := .none },
  { cls := 7, slots := #[.int 69], vm := .none },
  { cls := 7, slots := #[.int 70], vm := .none },
  { cls := 7, slots := #[.int 71], vm := .none },
  { cls := 7, slots := #[.int 72], vm := .none },
  { cls := 7, slots := #[.int 73], vm := .none },
  { cls := 7, slots := #[.int 74], vm := .none },
  { cls := 7, slots := #[.int 75], vm := .none },
  { cls := 7, slots := #[.int 76], vm := .none },
  { cls := 7, slots := #[.int 77], vm := .none },
  { cls := 7, slots := #[.int 78], vm := .none },
  { cls := 7, slots := #[.int 79], vm := .none },
  { cls := 7, slots := #[.int 80], vm := .none },
  { cls := 7, slots := #[.int 81], vm := .none },
  { cls := 7, slots := #[.int 82], vm := .none },
  { cls := 7, slots := #[.int 83], vm := .none },
  { cls := 7, slots := #[.int 84], vm := .none },
  { cls := 7, slots := #[.int 85], vm := .none },
  { cls := 7, slots := #[.int 86], vm := .none },
  { cls := 7, slots := #[.int 87], vm := .none },
  { cls := 7, slots := #[.int 88], vm := .none },
  { cls := 7, slots := #[.int 89], vm := .none },
  { cls := 7, slots := #[.int 90], vm := .none },
  { cls := 7, slots := #[.int 91], vm := .none },
  { cls := 7, slots := #[.int 92], vm := .none },
  { cls := 7, slots := #[.int 93], vm := .none },
  { cls := 7, slots := #[.int 94], vm := .none },
  { cls := 7, slots := #[.int 95], vm := .none },
  { cls := 7, slots := #[.int 96], vm := .none },
  { cls := 7, slots := #[.int 97], vm := .none },
  { cls := 7, slots := #[.int 98], vm := .none },
  { cls := 7, slots := #[.int 99], vm := .none },
  { cls := 7, slots := #[.int 100], vm := .none },
  { cls := 7, slots := #[.int 101], vm := .none },
  { cls := 7, slots := #[.int 102], vm := .none },
  { cls := 7, slots := #[.int 103], vm := .none },
  { cls := 7, slots := #[.int 104], vm := .none },
  { cls := 7, slots := #[.int 105], vm := .none },
  { cls := 7, slots := #[.int 106], vm := .none },
  { cls := 7, slots := #[.int 107], vm := .none },
  { cls := 7, slots := #[.int 108], vm := .none },
  { cls := 7, slots := #[.int 109], vm := .none },
  { cls := 7, slots := #[.int 110], vm := .none },
  { cls := 7, slots := #[.int 111], vm := .none },
  { cls := 7, slots := #[.int 112], vm := .none },
  { cls := 7, slots := #[.int 113], vm := .none },
  { cls := 7, slots := #[.int 114], vm := .none },
  { cls := 7, slots := #[.int 115], vm := .none },
  { cls := 7, slots := #[.int 116], vm := .none },
  { cls := 7, slots := #[.int 117], vm := .none },
  { cls := 7, slots := #[.int 118], vm := .none },
  { cls := 7, slots := #[.int 119], vm := .none },
  { cls := 7, slots := #[.int 120], vm := .none },
  { cls := 7, slots := #[.int 121], vm := .none },
  { cls := 7, slots := #[.int 122], vm := .none },
  { cls := 7, slots := #[.int 123], vm := .none },
  { cls := 7, slots := #[.int 124], vm := .none },
  { cls := 7, slots := #[.int 125], vm := .none },
  { cls := 7, slots := #[.int 126], vm := .none },
  { cls := 7, slots := #[.int 127], vm := .none },
  { cls := 31, slots := #[], vm := .none },
  { cls := 31, slots := #[], vm := .none }]
def classes : Array Class := #[k0, k1, k2, k3, k4, k5, k6, k7, k8, k9, k10, k11, k12, k13, k14, k15, k16, k17, k18, k19, k20, k21, k22, k23, k24, k25, k26, k27, k28, k29, k30, k31]
def interned : List (Array UInt16 × Addr) := []
def slotsUsed : Nat := 521
def theMethod : MethodId := ⟨1, 2⟩
def args0 : Array Value := #[.int 7, .int 1, .int 2, .int 3, .int 4]
def aboutOver (below : List Frame) : State where
  vm := { classes := classes, interned := interned.toArray }
  heap := heap
  slotsUsed := slotsUsed
  threads := #[{ frames := .invoking theMethod args0 :: below }]
def below0 : List Frame := [.native { method := ⟨0, 0⟩, args := #[] }]
def about1 : State := aboutOver below0
def p0 : Program := .bare "" "" ""
def e0 : Env := launch0.env 0 0 0
theorem w_frames : about1.frames = Frame.invoking theMethod args0 :: below0 := rfl
set_option maxRecDepth 65536 in
theorem w_args : argsFit about1.vm theMethod args0 = true := by decide +kernel
set_option maxRecDepth 65536 in
theorem w_heap : heapFits about1 = true := by decide +kernel
set_option maxRecDepth 65536 in
theorem w_runnable : about1.curStatus? = some .runnable := by decide +kernel
set_option maxRecDepth 65536 in
theorem w_alone : about1.alone = true := by decide +kernel
set_option maxRecDepth 65536 in
theorem w_named : about1.methodNamed? x = some theMethod := by decide +kernel
set_option maxRecDepth 65536 in
theorem w_hears : about1.hears theMethod below0 = true := by decide +kernel
set_option maxRecDepth 65536 in
theorem w_ripe : about1.ripe theMethod args0 below0 = true := by decide +kernel
theorem w_running : about1.status = .running := rfl
set_option maxRecDepth 65536 in
theorem w_room : about1.hasRoom e0.platform room_1 = true :=
  launch0.hasRoom_least _ room_1 (by decide +kernel) (by decide +kernel) (by decide +kernel) (by decide +kernel) (by decide +kernel) (by decide +kernel)
theorem allAtoms_all (ts : List Jvm.Cond) (a : Array Jvm.Value) (st : Jvm.State) : (allAtoms ts).before a st = ts.all (fun c => c.before a st) := by
  induction ts with
  | nil => rfl
  | cons c t ih =>
    show (Jvm.Cond.and c (allAtoms t)).before a st = _
    rw [Jvm.Cond.before_and, ih, List.all_cons]
def words1 : List Jvm.Cond := Jvm.Cond.code x code maxLocals ret :: tables_1
/-- a 'code' word, met by the world's own term for the bytes: nothing is compared byte by byte -/
theorem code_word {y : MethodName} {bytes : ByteArray} {mx : Nat} {rt : Option FieldType} {a : Array Value} {s : State} {m : MethodId} {meth : Method} {c : Code} (h1 : s.methodNamed? y = some m) (h2 : s.vm.method? m = some meth) (h3 : meth.code = some c) (h4 : c.code = bytes)
    (h5 : (c.maxLocals == mx && c.exceptionTable.isEmpty && decide (c.maxStack ≤ mostOperands) && decide (meth.sig.returnType = rt) && !meth.locks && decide (parseMethodDescriptor y.desc = some meth.sig)) = true) : (Jvm.Cond.code y bytes mx rt).before a s = true := by
  simp only [Bool.and_eq_true, beq_iff_eq, Bool.not_eq_true', decide_eq_true_eq] at h5
  obtain ⟨⟨⟨⟨⟨g1, g2⟩, g3⟩, g4⟩, g5⟩, g6⟩ := h5
  simp [Cond.before, Cond.holds, Cond.value, h1, h2, h3, h4, g1, g2, g3, g4, g5, g6]
def isCode : Jvm.Cond → Bool
  | .code _ _ _ _ => true
  | _ => false
theorem all_split {L : List Jvm.Cond} {P : Jvm.Cond → Bool} (h1 : L.all (fun c => isCode c || P c) = true) (h2 : ∀ c ∈ L.filter isCode, P c = true) : L.all P = true := by
  refine List.all_eq_true.mpr fun c hc => ?_
  have h := List.all_eq_true.mp h1 c hc
  rcases Bool.eq_false_or_eq_true (isCode c) with hi | hi
  · exact h2 c (List.mem_filter.mpr ⟨hc, hi⟩)
  · simpa [hi] using h
set_option maxRecDepth 65536 in
theorem w_c0 : (Jvm.Cond.code x code maxLocals ret).before args0 about1 = true := code_word (m := ⟨1, 2⟩) (meth := k1m2) (c := k1c2) (by decide +kernel) rfl rfl rfl (by decide +kernel)
set_option maxRecDepth 65536 in
theorem w_c1 : (Jvm.Cond.code ({ cls := "java/lang/Integer", name := "valueOf", desc := "(I)Ljava/lang/Integer;" } : Jvm.MethodName) jdk_33_method_22_code (1 : Nat) (Option.some (Jvm.ClassFile.FieldType.object "java/lang/Integer"))).before args0 about1 = true := code_word (m := ⟨7, 0⟩) (meth := k7m0) (c := k7c0) (by decide +kernel) rfl rfl rfl (by decide +kernel)
set_option maxRecDepth 65536 in
theorem w_c2 : (Jvm.Cond.code ({ cls := "java/util/ArrayList", name := "<init>", desc := "()V" } : Jvm.MethodName) jdk_38_method_2_code (1 : Nat) (Option.none : Option Jvm.ClassFile.FieldType)).before args0 about1 = true := code_word (m := ⟨17, 1⟩) (meth := k17m1) (c := k17c1) (by decide +kernel) rfl rfl rfl (by decide +kernel)
set_option maxRecDepth 65536 in
theorem w_c3 : (Jvm.Cond.code ({ cls := "java/util/AbstractList", name := "<init>", desc := "()V" } : Jvm.MethodName) jdk_39_method_1_code (1 : Nat) (Option.none : Option Jvm.ClassFile.FieldType)).before args0 about1 = true := code_word (m := ⟨14, 0⟩) (meth := k14m0) (c := k14c0) (by decide +kernel) rfl rfl rfl (by decide +kernel)
set_option maxRecDepth 65536 in
theorem w_c4 : (Jvm.Cond.code ({ cls := "java/util/AbstractCollection", name := "<init>", desc := "()V" } : Jvm.MethodName) jdk_22_method_1_code (1 : Nat) (Option.none : Option Jvm.ClassFile.FieldType)).before args0 about1 = true := code_word (m := ⟨11, 0⟩) (meth := k11m0) (c := k11c0) (by decide +kernel) rfl rfl rfl (by decide +kernel)
set_option maxRecDepth 65536 in
theorem w_c5 : (Jvm.Cond.code ({ cls := "java/lang/Object", name := "<init>", desc := "()V" } : Jvm.MethodName) object_method_1_code (1 : Nat) (Option.none : Option Jvm.ClassFile.FieldType)).before args0 about1 = true := code_word (m := ⟨0, 0⟩) (meth := k0m0) (c := k0c0) (by decide +kernel) rfl rfl rfl (by decide +kernel)
set_option maxRecDepth 65536 in
theorem w_c6 : (Jvm.Cond.code ({ cls := "com/example/etapa/etapa/mongodb/EntityBatch", name := "copyOf", desc := "(Ljava/util/Collection;)Ljava/util/List;" } : Jvm.MethodName) prog_14_method_2_code (4 : Nat) (Option.some (Jvm.ClassFile.FieldType.object "java/util/List"))).before args0 about1 = true := code_word (m := ⟨18, 1⟩) (meth := k18m1) (c := k18c1) (by decide +kernel) rfl rfl rfl (by decide +kernel)
set_option maxRecDepth 65536 in
theorem w_c7 : (Jvm.Cond.code ({ cls := "java/util/Objects", name := "requireNonNull", desc := "(Ljava/lang/Object;Ljava/lang/String;)Ljava/lang/Object;" } : Jvm.MethodName) jdk_31_method_11_code (2 : Nat) (Option.some (Jvm.ClassFile.FieldType.object "java/lang/Object"))).before args0 about1 = true := code_word (m := ⟨21, 1⟩) (meth := k21m1) (c := k21c1) (by decide +kernel) rfl rfl rfl (by decide +kernel)
set_option maxRecDepth 65536 in
theorem w_c8 : (Jvm.Cond.code ({ cls := "java/util/ArrayList", name := "size", desc := "()I" } : Jvm.MethodName) jdk_38_method_8_code (1 : Nat) (Option.some Jvm.ClassFile.FieldType.int)).before args0 about1 = true := code_word (m := ⟨17, 4⟩) (meth := k17m4) (c := k17c4) (by decide +kernel) rfl rfl rfl (by decide +kernel)
set_option maxRecDepth 65536 in
theorem w_c9 : (Jvm.Cond.code ({ cls := "java/util/ArrayList", name := "<init>", desc := "(I)V" } : Jvm.MethodName) jdk_38_method_1_code (2 : Nat) (Option.none : Option Jvm.ClassFile.FieldType)).before args0 about1 = true := code_word (m := ⟨17, 0⟩) (meth := k17m0) (c := k17c0) (by decide +kernel) rfl rfl rfl (by decide +kernel)
set_option maxRecDepth 65536 in
theorem w_c10 : (Jvm.Cond.code ({ cls := "java/util/ArrayList", name := "iterator", desc := "()Ljava/util/Iterator;" } : Jvm.MethodName) jdk_38_method_55_code (1 : Nat) (Option.some (Jvm.ClassFile.FieldType.object "java/util/Iterator"))).before args0 about1 = true := code_word (m := ⟨17, 9⟩) (meth := k17m9) (c := k17c9) (by decide +kernel) rfl rfl rfl (by decide +kernel)
set_option maxRecDepth 65536 in
theorem w_c11 : (Jvm.Cond.code ({ cls := "java/util/ArrayList$Itr", name := "<init>", desc := "(Ljava/util/ArrayList;)V" } : Jvm.MethodName) jdk_49_method_1_code (2 : Nat) (Option.none : Option Jvm.ClassFile.FieldType)).before args0 about1 = true := code_word (m := ⟨23, 0⟩) (meth := k23m0) (c := k23c0) (by decide +kernel) rfl rfl rfl (by decide +kernel)
set_option maxRecDepth 65536 in
theorem w_c12 : (Jvm.Cond.code ({ cls := "java/util/ArrayList$Itr", name := "hasNext", desc := "()Z" } : Jvm.MethodName) jdk_49_method_2_code (1 : Nat) (Option.some Jvm.ClassFile.FieldType.boolean)).before args0 about1 = true := code_word (m := ⟨23, 1⟩) (meth := k23m1) (c := k23c1) (by decide +kernel) rfl rfl rfl (by decide +kernel)
set_option maxRecDepth 65536 in
theorem w_c13 : (Jvm.Cond.code ({ cls := "com/example/etapa/etapa/mongodb/EntityBatchCopyOfPinLaw", name := "at", desc := "(Ljava/util/List;ILjava/lang/Integer;I)Z" } : Jvm.MethodName) method_2_code (4 : Nat) (Option.some Jvm.ClassFile.FieldType.boolean)).before args0 about1 = true := code_word (m := ⟨1, 1⟩) (meth := k1m1) (c := k1c1) (by decide +kernel) rfl rfl rfl (by decide +kernel)
set_option maxRecDepth 65536 in
theorem w_c14 : (Jvm.Cond.code ({ cls := "java/util/ArrayList", name := "add", desc := "(Ljava/lang/Object;)Z" } : Jvm.MethodName) jdk_38_method_25_code (2 : Nat) (Option.some Jvm.ClassFile.FieldType.boolean)).before args0 about1 = true := code_word (m := ⟨17, 8⟩) (meth := k17m8) (c := k17c8) (by decide +kernel) rfl rfl rfl (by decide +kernel)
set_option maxRecDepth 65536 in
theorem w_c15 : (Jvm.Cond.code ({ cls := "java/util/ArrayList", name := "add", desc := "(Ljava/lang/Object;[Ljava/lang/Object;I)V" } : Jvm.MethodName) jdk_38_method_24_code (4 : Nat) (Option.none : Option Jvm.ClassFile.FieldType)).before args0 about1 = true := code_word (m := ⟨17, 7⟩) (meth := k17m7) (c := k17c7) (by decide +kernel) rfl rfl rfl (by decide +kernel)
set_option maxRecDepth 65536 in
theorem w_c16 : (Jvm.Cond.code ({ cls := "java/util/ArrayList", name := "grow", desc := "()[Ljava/lang/Object;" } : Jvm.MethodName) jdk_38_method_7_code (1 : Nat) (Option.some (Jvm.ClassFile.FieldType.array (Jvm.ClassFile.FieldType.object "java/lang/Object")))).before args0 about1 = true := code_word (m := ⟨17, 3⟩) (meth := k17m3) (c := k17c3) (by decide +kernel) rfl rfl rfl (by decide +kernel)
set_option maxRecDepth 65536 in
theorem w_c17 : (Jvm.Cond.code ({ cls := "java/util/ArrayList", name := "grow", desc := "(I)[Ljava/lang/Object;" } : Jvm.MethodName) jdk_38_method_6_code (4 : Nat) (Option.some (Jvm.ClassFile.FieldType.array (Jvm.ClassFile.FieldType.object "java/lang/Object")))).before args0 about1 = true := code_word (m := ⟨17, 2⟩) (meth := k17m2) (c := k17c2) (by decide +kernel) rfl rfl rfl (by decide +kernel)
set_option maxRecDepth 65536 in
theorem w_c18 : (Jvm.Cond.code ({ cls := "java/lang/Math", name := "max", desc := "(II)I" } : Jvm.MethodName) jdk_29_method_65_code (2 : Nat) (Option.some Jvm.ClassFile.FieldType.int)).before args0 about1 = true := code_word (m := ⟨24, 1⟩) (meth := k24m1) (c := k24c1) (by decide +kernel) rfl rfl rfl (by decide +kernel)
set_option maxRecDepth 65536 in
theorem w_c19 : (Jvm.Cond.code ({ cls := "java/util/ArrayList$Itr", name := "next", desc := "()Ljava/lang/Object;" } : Jvm.MethodName) jdk_49_method_3_code (3 : Nat) (Option.some (Jvm.ClassFile.FieldType.object "java/lang/Object"))).before args0 about1 = true := code_word (m := ⟨23, 2⟩) (meth := k23m2) (c := k23c2) (by decide +kernel) rfl rfl rfl (by decide +kernel)
set_option maxRecDepth 65536 in
theorem w_c20 : (Jvm.Cond.code ({ cls := "java/util/ArrayList$Itr", name := "checkForComodification", desc := "()V" } : Jvm.MethodName) jdk_49_method_6_code (1 : Nat) (Option.none : Option Jvm.ClassFile.FieldType)).before args0 about1 = true := code_word (m := ⟨23, 3⟩) (meth := k23m3) (c := k23c3) (by decide +kernel) rfl rfl rfl (by decide +kernel)
set_option maxRecDepth 65536 in
theorem w_c21 : (Jvm.Cond.code ({ cls := "java/util/ArrayList", name := "get", desc := "(I)Ljava/lang/Object;" } : Jvm.MethodName) jdk_38_method_20_code (2 : Nat) (Option.some (Jvm.ClassFile.FieldType.object "java/lang/Object"))).before args0 about1 = true := code_word (m := ⟨17, 6⟩) (meth := k17m6) (c := k17c6) (by decide +kernel) rfl rfl rfl (by decide +kernel)
set_option maxRecDepth 65536 in
theorem w_c22 : (Jvm.Cond.code ({ cls := "java/util/Objects", name := "checkIndex", desc := "(II)I" } : Jvm.MethodName) jdk_31_method_17_code (2 : Nat) (Option.some Jvm.ClassFile.FieldType.int)).before args0 about1 = true := code_word (m := ⟨21, 2⟩) (meth := k21m2) (c := k21c2) (by decide +kernel) rfl rfl rfl (by decide +kernel)
set_option maxRecDepth 65536 in
theorem w_c23 : (Jvm.Cond.code ({ cls := "jdk/internal/util/Preconditions", name := "checkIndex", desc := "(IILjava/util/function/BiFunction;)I" } : Jvm.MethodName) jdk_41_method_11_code (3 : Nat) (Option.some Jvm.ClassFile.FieldType.int)).before args0 about1 = true := code_word (m := ⟨25, 1⟩) (meth := k25m1) (c := k25c1) (by decide +kernel) rfl rfl rfl (by decide +kernel)
set_option maxRecDepth 65536 in
theorem w_c24 : (Jvm.Cond.code ({ cls := "java/util/ArrayList", name := "elementData", desc := "(I)Ljava/lang/Object;" } : Jvm.MethodName) jdk_38_method_18_code (2 : Nat) (Option.some (Jvm.ClassFile.FieldType.object "java/lang/Object"))).before args0 about1 = true := code_word (m := ⟨17, 5⟩) (meth := k17m5) (c := k17c5) (by decide +kernel) rfl rfl rfl (by decide +kernel)
set_option maxRecDepth 65536 in
theorem w_c25 : (Jvm.Cond.code ({ cls := "java/lang/Integer", name := "<init>", desc := "(I)V" } : Jvm.MethodName) jdk_33_method_23_code (2 : Nat) (Option.none : Option Jvm.ClassFile.FieldType)).before args0 about1 = true := code_word (m := ⟨7, 1⟩) (meth := k7m1) (c := k7c1) (by decide +kernel) rfl rfl rfl (by decide +kernel)
set_option maxRecDepth 65536 in
theorem w_c26 : (Jvm.Cond.code ({ cls := "java/lang/Number", name := "<init>", desc := "()V" } : Jvm.MethodName) jdk_18_method_1_code (1 : Nat) (Option.none : Option Jvm.ClassFile.FieldType)).before args0 about1 = true := code_word (m := ⟨3, 0⟩) (meth := k3m0) (c := k3c0) (by decide +kernel) rfl rfl rfl (by decide +kernel)
def codes1 : List Jvm.Cond := [Jvm.Cond.code x code maxLocals ret, Jvm.Cond.code ({ cls := "java/lang/Integer", name := "valueOf", desc := "(I)Ljava/lang/Integer;" } : Jvm.MethodName) jdk_33_method_22_code (1 : Nat) (Option.some (Jvm.ClassFile.FieldType.object "java/lang/Integer")), Jvm.Cond.code ({ cls := "java/util/ArrayList", name := "<init>", desc := "()V" } : Jvm.MethodName) jdk_38_method_2_code (1 : Nat) (Option.none : Option Jvm.ClassFile.FieldType), Jvm.Cond.code ({ cls := "java/util/AbstractList", name := "<init>", desc := "()V" } : Jvm.MethodName) jdk_39_method_1_code (1 : Nat) (Option.none : Option Jvm.ClassFile.FieldType), Jvm.Cond.code ({ cls := "java/util/AbstractCollection", name := "<init>", desc := "()V" } : Jvm.MethodName) jdk_22_method_1_code (1 : Nat) (Option.none : Option Jvm.ClassFile.FieldType), Jvm.Cond.code ({ cls := "java/lang/Object", name := "<init>", desc := "()V" } : Jvm.MethodName) object_method_1_code (1 : Nat) (Option.none : Option Jvm.ClassFile.FieldType), Jvm.Cond.code ({ cls := "com/example/etapa/etapa/mongodb/EntityBatch", name := "copyOf", desc := "(Ljava/util/Collection;)Ljava/util/List;" } : Jvm.MethodName) prog_14_method_2_code (4 : Nat) (Option.some (Jvm.ClassFile.FieldType.object "java/util/List")), Jvm.Cond.code ({ cls := "java/util/Objects", name := "requireNonNull", desc := "(Ljava/lang/Object;Ljava/lang/String;)Ljava/lang/Object;" } : Jvm.MethodName) jdk_31_method_11_code (2 : Nat) (Option.some (Jvm.ClassFile.FieldType.object "java/lang/Object")), Jvm.Cond.code ({ cls := "java/util/ArrayList", name := "size", desc := "()I" } : Jvm.MethodName) jdk_38_method_8_code (1 : Nat) (Option.some Jvm.ClassFile.FieldType.int), Jvm.Cond.code ({ cls := "java/util/ArrayList", name := "<init>", desc := "(I)V" } : Jvm.MethodName) jdk_38_method_1_code (2 : Nat) (Option.none : Option Jvm.ClassFile.FieldType), Jvm.Cond.code ({ cls := "java/util/ArrayList", name := "iterator", desc := "()Ljava/util/Iterator;" } : Jvm.MethodName) jdk_38_method_55_code (1 : Nat) (Option.some (Jvm.ClassFile.FieldType.object "java/util/Iterator")), Jvm.Cond.code ({ cls := "java/util/ArrayList$Itr", name := "<init>", desc := "(Ljava/util/ArrayList;)V" } : Jvm.MethodName) jdk_49_method_1_code (2 : Nat) (Option.none : Option Jvm.ClassFile.FieldType), Jvm.Cond.code ({ cls := "java/util/ArrayList$Itr", name := "hasNext", desc := "()Z" } : Jvm.MethodName) jdk_49_method_2_code (1 : Nat) (Option.some Jvm.ClassFile.FieldType.boolean), Jvm.Cond.code ({ cls := "com/example/etapa/etapa/mongodb/EntityBatchCopyOfPinLaw", name := "at", desc := "(Ljava/util/List;ILjava/lang/Integer;I)Z" } : Jvm.MethodName) method_2_code (4 : Nat) (Option.some Jvm.ClassFile.FieldType.boolean), Jvm.Cond.code ({ cls := "java/util/ArrayList", name := "add", desc := "(Ljava/lang/Object;)Z" } : Jvm.MethodName) jdk_38_method_25_code (2 : Nat) (Option.some Jvm.ClassFile.FieldType.boolean), Jvm.Cond.code ({ cls := "java/util/ArrayList", name := "add", desc := "(Ljava/lang/Object;[Ljava/lang/Object;I)V" } : Jvm.MethodName) jdk_38_method_24_code (4 : Nat) (Option.none : Option Jvm.ClassFile.FieldType), Jvm.Cond.code ({ cls := "java/util/ArrayList", name := "grow", desc := "()[Ljava/lang/Object;" } : Jvm.MethodName) jdk_38_method_7_code (1 : Nat) (Option.some (Jvm.ClassFile.FieldType.array (Jvm.ClassFile.FieldType.object "java/lang/Object"))), Jvm.Cond.code ({ cls := "java/util/ArrayList", name := "grow", desc := "(I)[Ljava/lang/Object;" } : Jvm.MethodName) jdk_38_method_6_code (4 : Nat) (Option.some (Jvm.ClassFile.FieldType.array (Jvm.ClassFile.FieldType.object "java/lang/Object"))), Jvm.Cond.code ({ cls := "java/lang/Math", name := "max", desc := "(II)I" } : Jvm.MethodName) jdk_29_method_65_code (2 : Nat) (Option.some Jvm.ClassFile.FieldType.int), Jvm.Cond.code ({ cls := "java/util/ArrayList$Itr", name := "next", desc := "()Ljava/lang/Object;" } : Jvm.MethodName) jdk_49_method_3_code (3 : Nat) (Option.some (Jvm.ClassFile.FieldType.object "java/lang/Object")), Jvm.Cond.code ({ cls := "java/util/ArrayList$Itr", name := "checkForComodification", desc := "()V" } : Jvm.MethodName) jdk_49_method_6_code (1 : Nat) (Option.none : Option Jvm.ClassFile.FieldType), Jvm.Cond.code ({ cls := "java/util/ArrayList", name := "get", desc := "(I)Ljava/lang/Object;" } : Jvm.MethodName) jdk_38_method_20_code (2 : Nat) (Option.some (Jvm.ClassFile.FieldType.object "java/lang/Object")), Jvm.Cond.code ({ cls := "java/util/Objects", name := "checkIndex", desc := "(II)I" } : Jvm.MethodName) jdk_31_method_17_code (2 : Nat) (Option.some Jvm.ClassFile.FieldType.int), Jvm.Cond.code ({ cls := "jdk/internal/util/Preconditions", name := "checkIndex", desc := "(IILjava/util/function/BiFunction;)I" } : Jvm.MethodName) jdk_41_method_11_code (3 : Nat) (Option.some Jvm.ClassFile.FieldType.int), Jvm.Cond.code ({ cls := "java/util/ArrayList", name := "elementData", desc := "(I)Ljava/lang/Object;" } : Jvm.MethodName) jdk_38_method_18_code (2 : Nat) (Option.some (Jvm.ClassFile.FieldType.object "java/lang/Object")), Jvm.Cond.code ({ cls := "java/lang/Integer", name := "<init>", desc := "(I)V" } : Jvm.MethodName) jdk_33_method_23_code (2 : Nat) (Option.none : Option Jvm.ClassFile.FieldType), Jvm.Cond.code ({ cls := "java/lang/Number", name := "<init>", desc := "()V" } : Jvm.MethodName) jdk_18_method_1_code (1 : Nat) (Option.none : Option Jvm.ClassFile.FieldType)]
set_option maxRecDepth 65536 in
theorem codes_eq : words1.filter isCode = codes1 := rfl
theorem w_codes : ∀ c ∈ words1.filter isCode, c.before args0 about1 = true := by
  rw [codes_eq]
  intro c hc
  simp only [codes1, List.mem_cons, List.not_mem_nil, or_false] at hc
  rcases hc with rfl | rfl | rfl | rfl | rfl | rfl | rfl | rfl | rfl | rfl | rfl | rfl | rfl | rfl | rfl | rfl | rfl | rfl | rfl | rfl | rfl | rfl | rfl | rfl | rfl | rfl | rfl
  · exact w_c0
  · exact w_c1
  · exact w_c2
  · exact w_c3
  · exact w_c4
  · exact w_c5
  · exact w_c6
  · exact w_c7
  · exact w_c8
  · exact w_c9
  · exact w_c10
  · exact w_c11
  · exact w_c12
  · exact w_c13
  · exact w_c14
  · exact w_c15
  · exact w_c16
  · exact w_c17
  · exact w_c18
  · exact w_c19
  · exact w_c20
  · exact w_c21
  · exact w_c22
  · exact w_c23
  · exact w_c24
  · exact w_c25
  · exact w_c26
set_option maxRecDepth 65536 in
theorem w_t1 : (words1.take 24).all (fun c => isCode c || c.before args0 about1) = true := by decide +kernel
set_option maxRecDepth 65536 in
theorem w_t2 : ((words1.drop 24).take 24).all (fun c => isCode c || c.before args0 about1) = true := by decide +kernel
set_option maxRecDepth 65536 in
theorem w_t3 : (((words1.drop 24).drop 24).take 24).all (fun c => isCode c || c.before args0 about1) = true := by decide +kernel
set_option maxRecDepth 65536 in
theorem w_t4 : ((((words1.drop 24).drop 24).drop 24).take 24).all (fun c => isCode c || c.before args0 about1) = true := by decide +kernel
set_option maxRecDepth 65536 in
theorem w_t5 : (((((words1.drop 24).drop 24).drop 24).drop 24).take 24).all (fun c => isCode c || c.before args0 about1) = true := by decide +kernel
set_option maxRecDepth 65536 in
theorem w_t6 : ((((((words1.drop 24).drop 24).drop 24).drop 24).drop 24).take 24).all (fun c => isCode c || c.before args0 about1) = true := by decide +kernel
set_option maxRecDepth 65536 in
theorem w_t7 : (((((((words1.drop 24).drop 24).drop 24).drop 24).drop 24).drop 24).take 24).all (fun c => isCode c || c.before args0 about1) = true := by decide +kernel
set_option maxRecDepth 65536 in
theorem w_t8 : ((((((((words1.drop 24).drop 24).drop 24).drop 24).drop 24).drop 24).drop 24).take 24).all (fun c => isCode c || c.before args0 about1) = true := by decide +kernel
set_option maxRecDepth 65536 in
theorem w_t9 : ((((((((words1.drop 24).drop 24).drop 24).drop 24).drop 24).drop 24).drop 24).drop 24).all (fun c => isCode c || c.before args0 about1) = true := by decide +kernel
theorem w_tables : (allAtoms (Jvm.Cond.code x code maxLocals ret :: tables_1)).before args0 about1 = true := by
  rw [allAtoms_all]
  show words1.all (fun c => c.before args0 about1) = true
  refine all_split ?_ w_codes
  rw [← List.take_append_drop 24 words1, List.all_append, w_t1, ← List.take_append_drop 24 (words1.drop 24), List.all_append, w_t2, ← List.take_append_drop 24 ((words1.drop 24).drop 24), List.all_append, w_t3, ← List.take_append_drop 24 (((words1.drop 24).drop 24).drop 24), List.all_append, w_t4, ← List.take_append_drop 24 ((((words1.drop 24).drop 24).drop 24).drop 24), List.all_append, w_t5, ← List.take_append_drop 24 (((((words1.drop 24).drop 24).drop 24).drop 24).drop 24), List.all_append, w_t6, ← List.take_append_drop 24 ((((((words1.drop 24).drop 24).drop 24).drop 24).drop 24).drop 24), List.all_append, w_t7, ← List.take_append_drop 24 (((((((words1.drop 24).drop 24).drop 24).drop 24).drop 24).drop 24).drop 24), List.all_append, w_t8, w_t9]
  rfl
set_option maxRecDepth 65536 in
theorem w_rest : rest_1_c.before args0 about1 = true := by decide +kernel
set_option maxRecDepth 65536 in
theorem w_case : (Jvm.Cond.and given_1 narrow_1).before args0 about1 = true := by decide +kernel
theorem w_applies : (headSpec (Jvm.Cond.code x code maxLocals ret :: tables_1) room_1).applies x e0.platform about1 = true :=
  (Spec.applies_iff w_frames).mpr ⟨w_running, w_runnable, w_alone, w_named, w_hears, w_ripe, w_room, w_tables⟩
theorem atStart : AtStart classFile x code maxLocals ret World_1 tables_1 room_1 Calls_1 rest_1 Pre_1 launch0 p0 e0 about1 theMethod args0 below0 :=
  ⟨lists_1, trivial, launch0.admits_env _ _ _, launch0.least_env, fairChoices_fair.cas, fairChoices_fair.clock, w_frames, w_args, w_heap, w_applies, trivial, w_rest, w_case⟩
end start1
theorem witness_1 : WitnessClaimed_1 := ⟨start1.p0, start1.e0, start1.about1, start1.theMethod, start1.args0, start1.below0, start1.atStart⟩
end Jvm.Pilot.@@N@@
