import JvmDerived
import JvmDerived.Pilot.@@N@@Statement
import JvmDerived.Pilot.@@N@@Code
@@BLOCK:NumsL.lean.txt@@
set_option linter.unusedVariables false
set_option linter.unusedSimpArgs false
namespace Jvm.Pilot.@@N@@
open Jvm Jvm.ClassFile Sem Op Lib Jvm.Free Jvm.Stand Jvm.LawKit Jvm.RoadKit Bundle Jvm.Pilot.@@N@@.Jvm.D
abbrev own_m0 : MethodName := ⟨"java/util/AbstractCollection", "<init>", "()V"⟩
abbrev own_m1 : MethodName := ⟨"java/util/AbstractList", "<init>", "()V"⟩
abbrev own_m2 : MethodName := ⟨"java/util/ArrayList", "<init>", "()V"⟩
abbrev own_m3 : MethodName := ⟨"java/lang/Math", "max", "(II)I"⟩
abbrev own_m4 : MethodName := ⟨"java/util/ArrayList", "grow", "(I)[Ljava/lang/Object;"⟩
abbrev own_m5 : MethodName := ⟨"java/util/ArrayList", "grow", "()[Ljava/lang/Object;"⟩
abbrev own_m6 : MethodName := ⟨"java/util/ArrayList", "add", "(Ljava/lang/Object;[Ljava/lang/Object;I)V"⟩
abbrev own_m7 : MethodName := ⟨"java/util/ArrayList", "add", "(Ljava/lang/Object;)Z"⟩
abbrev own_m8 : MethodName := ⟨"java/lang/Record", "<init>", "()V"⟩
abbrev own_m9 : MethodName := ⟨"java/util/ImmutableCollections$AbstractImmutableCollection", "<init>", "()V"⟩
abbrev own_m10 : MethodName := ⟨"java/util/ImmutableCollections$AbstractImmutableList", "<init>", "()V"⟩
abbrev own_m11 : MethodName := ⟨"java/util/Objects", "requireNonNull", "(Ljava/lang/Object;)Ljava/lang/Object;"⟩
abbrev own_m12 : MethodName := ⟨"com/example/treeshard/treeshard/model/Selection", "<init>", "(Lcom/example/treeshard/treeshard/model/DocumentPath;Lcom/example/treeshard/treeshard/model/Selection$Test;Ljava/lang/String;)V"⟩
abbrev own_m13 : MethodName := ⟨"java/lang/String", "<init>", "([BB)V"⟩
abbrev own_m14 : MethodName := ⟨"java/lang/StringLatin1", "canEncode", "(C)Z"⟩
abbrev own_m15 : MethodName := ⟨"java/lang/StringLatin1", "toBytes", "(C)[B"⟩
abbrev own_m16 : MethodName := ⟨"java/lang/String", "valueOf", "(C)Ljava/lang/String;"⟩
abbrev own_m17 : MethodName := ⟨"java/util/ArrayList", "isEmpty", "()Z"⟩
abbrev own_m18 : MethodName := ⟨"java/util/ImmutableCollections$List12", "<init>", "(Ljava/lang/Object;)V"⟩
abbrev own_m19 : MethodName := ⟨"java/util/ImmutableCollections$List12", "<init>", "(Ljava/lang/Object;Ljava/lang/Object;)V"⟩
abbrev own_m20 : MethodName := ⟨"java/util/ImmutableCollections$ListN", "<init>", "([Ljava/lang/Object;Z)V"⟩
abbrev own_m21 : MethodName := ⟨"java/lang/Math", "min", "(II)I"⟩
abbrev own_m22 : MethodName := ⟨"java/util/Arrays", "copyOf", "([Ljava/lang/Object;ILjava/lang/Class;)[Ljava/lang/Object;"⟩
abbrev own_m23 : MethodName := ⟨"java/util/Arrays", "copyOf", "([Ljava/lang/Object;I)[Ljava/lang/Object;"⟩
abbrev own_m24 : MethodName := ⟨"java/util/ArrayList", "toArray", "()[Ljava/lang/Object;"⟩
abbrev own_m25 : MethodName := ⟨"java/util/List", "of", "([Ljava/lang/Object;)Ljava/util/List;"⟩
abbrev own_m26 : MethodName := ⟨"java/util/ImmutableCollections", "listCopy", "(Ljava/util/Collection;)Ljava/util/List;"⟩
abbrev own_m27 : MethodName := ⟨"java/util/Collection", "isEmpty", "()Z"⟩
abbrev own_m28 : MethodName := ⟨"java/util/Collection", "toArray", "()[Ljava/lang/Object;"⟩
abbrev own_m29 : MethodName := ⟨"java/util/List", "copyOf", "(Ljava/util/Collection;)Ljava/util/List;"⟩
abbrev own_m30 : MethodName := ⟨"java/util/ImmutableCollections", "listFromArray", "([Ljava/lang/Object;)Ljava/util/List;"⟩
abbrev own_m31 : MethodName := ⟨"java/util/List", "of", "()Ljava/util/List;"⟩
abbrev own_m32 : MethodName := ⟨"java/util/ImmutableCollections$ListN", "isEmpty", "()Z"⟩
abbrev own_m33 : MethodName := ⟨"java/util/ImmutableCollections$List12", "isEmpty", "()Z"⟩
abbrev own_m34 : MethodName := ⟨"com/example/treeshard/treeshard/model/Fragment", "<init>", "(Ljava/lang/String;Ljava/lang/String;Lcom/example/treeshard/treeshard/model/Design$Kind;Ljava/util/List;Lcom/example/treeshard/treeshard/model/Projection;)V"⟩
abbrev own_m35 : MethodName := ⟨"java/util/List", "isEmpty", "()Z"⟩
abbrev own_m36 : MethodName := ⟨"com/example/treeshard/treeshard/model/DesignKindPinLaw", "make", "(Lcom/example/treeshard/treeshard/model/Design$Kind;I)Lcom/example/treeshard/treeshard/model/Fragment;"⟩
abbrev own_m37 : MethodName := ⟨"com/example/treeshard/treeshard/model/Design", "<init>", "(Ljava/util/List;)V"⟩
abbrev own_m38 : MethodName := ⟨"java/util/ImmutableCollections$List12", "get", "(I)Ljava/lang/Object;"⟩
abbrev own_m39 : MethodName := ⟨"java/util/ImmutableCollections$ListN", "get", "(I)Ljava/lang/Object;"⟩
abbrev own_m40 : MethodName := ⟨"com/example/treeshard/treeshard/model/Fragment", "kind", "()Lcom/example/treeshard/treeshard/model/Design$Kind;"⟩
abbrev own_m41 : MethodName := ⟨"com/example/treeshard/treeshard/model/Design", "kind", "()Lcom/example/treeshard/treeshard/model/Design$Kind;"⟩
abbrev own_m42 : MethodName := ⟨"java/util/List", "get", "(I)Ljava/lang/Object;"⟩
abbrev own_s0 : String := "com/example/treeshard/treeshard/model/Fragment"
abbrev own_s1 : String := "java/util/ArrayList"
abbrev own_s2 : String := "java/lang/Object"
abbrev own_s3 : String := "[Ljava/lang/Object;"
abbrev own_s4 : String := "com/example/treeshard/treeshard/model/Design$Kind"
abbrev own_s5 : String := "Lcom/example/treeshard/treeshard/model/Design$Kind;"
abbrev own_s6 : String := "java/util/ImmutableCollections$List12"
abbrev own_s7 : String := "java/util/AbstractList"
abbrev own_s8 : String := "com/example/treeshard/treeshard/model/Design"
abbrev own_s9 : String := "com/example/treeshard/treeshard/model/Selection"
abbrev own_s10 : String := "java/util/ImmutableCollections$ListN"
abbrev own_s11 : String := "java/lang/String"
abbrev own_s12 : String := "java/util/ImmutableCollections"
abbrev own_s13 : String := "Ljava/lang/Object;"
abbrev own_s14 : String := "com/example/treeshard/treeshard/model/Projection"
abbrev own_s15 : String := "java/util/List"
abbrev own_s16 : String := "Ljava/util/List;"
abbrev own_s17 : String := "Lcom/example/treeshard/treeshard/model/Projection;"
abbrev own_s18 : String := "Ljava/lang/String;"
abbrev own_s19 : String := "DEFAULTCAPACITY_EMPTY_ELEMENTDATA"
abbrev own_s20 : String := "com/example/treeshard/treeshard/model/DesignKindPinLaw"
abbrev own_s21 : String := "com/example/treeshard/treeshard/model/Selection$Test"
abbrev own_s22 : String := "Ljava/util/ImmutableCollections$ListN;"
abbrev own_s23 : String := "com/example/treeshard/treeshard/model/DocumentPath"
abbrev own_s24 : String := "Lcom/example/treeshard/treeshard/model/Selection$Test;"
abbrev own_s25 : String := "Lcom/example/treeshard/treeshard/model/DocumentPath;"
section OwnPre
variable {p : Program} {l : Launch} {e : Env} {R : Room} {s : State} {m : MethodId} {args : Array Value} {below : List Frame} {meth : Method} {c : Code} {T : State} {locs : List Loc} {cells slots : Nat} {Z : State} {h h' : Heap}
/-- from A the run comes to an end of which P holds -/
def own_G (p : Program) (e : Env) (below : List Frame) (A : State) (P : State → Outcome → Prop) : Prop := ∃ s₂ o, Steps p.tables e below A s₂ ∧ P s₂ o
def own_P (s : State) (below : List Frame) (C S : Nat) (Q : Option Value → Heap → List Loc → Prop) (s₂ : State) (o : Outcome) : Prop := s₂.status = .running ∧ Ended s₂ below o ∧ ∃ v L, o = .returned v ∧ Q v s₂.heap L ∧ FrameEnd s o s₂ L C S
def own_PW (s : State) (below : List Frame) (C S : Nat) (Q : Option Value → Heap → List Loc → Prop) (s₂ : State) (o : Outcome) : Prop := s₂.status = .running ∧ Ended s₂ below o ∧ ∃ v L, o = .returned v ∧ Q v s₂.heap L ∧ ReturnedEndW s o s₂ L C S
theorem own_go {A B : State} {P : State → Outcome → Prop} (k : ∀ t, Steps p.tables e below B t → Steps p.tables e below A t) (g : own_G p e below B P) : own_G p e below A P := by
  obtain ⟨s, o, h, r⟩ := g; exact ⟨s, o, k _ h, r⟩
theorem own_tr {A B : State} {P : State → Outcome → Prop} (k : Steps p.tables e below A B) (g : own_G p e below B P) : own_G p e below A P := own_go (fun _ h => k.trans h) g
theorem own_start {C S : Nat} {Q : Option Value → Heap → List Loc → Prop} {g g' : JFrame} (q : g = g') (k : own_G p e below (T.setTop g') (own_P s below C S Q)) :
    ∃ s₂ o, Steps p.tables e below (T.setTop g) s₂ ∧ s₂.status = .running ∧ Ended s₂ below o ∧ ∃ v L, o = .returned v ∧ Q v s₂.heap L ∧ FrameEnd s o s₂ L C S := q ▸ k
theorem own_startW {C S : Nat} {Q : Option Value → Heap → List Loc → Prop} {g g' : JFrame} (q : g = g') (k : own_G p e below (T.setTop g') (own_PW s below C S Q)) :
    ∃ s₂ o, Steps p.tables e below (T.setTop g) s₂ ∧ s₂.status = .running ∧ Ended s₂ below o ∧ ∃ v L, o = .returned v ∧ Q v s₂.heap L ∧ ReturnedEndW s o s₂ L C S := q ▸ k
theorem own_ret (X : Stand p l e R s m args below meth c T locs cells slots) (hx : p.tables.exec = Jvm.exec) {pc : Nat} {Ls : Array Slot} {w : Value} {t : FieldType} {i : Instr} {rest : List Value} (hret : meth.sig.returnType = some t) (hn : narrow t w = w)
    (hi : (i = .ireturn ∧ (t = .int ∨ t = .boolean ∨ t = .byte ∨ t = .char ∨ t = .short) ∧ ∃ z, w = .int z) ∨ (i = .lreturn ∧ t = .long ∧ ∃ z, w = .long z) ∨ (i = .dreturn ∧ t = .double ∧ ∃ z, w = .double z) ∨ (i = .freturn ∧ t = .float ∧ ∃ z, w = .float z) ∨ (i = .areturn ∧ t.isReference = true ∧ w.isRef = true))
    (hd : decode c.code pc = .ok (i, 1)) (hlocks : meth.locks = false) {C S : Nat} {Q : Option Value → Heap → List Loc → Prop} (hC : cells ≤ C) (hS : slots ≤ S) (hQ : Q (some w) T.heap locs) :
    own_G p e below (T.setTop (mkF m pc Ls (w :: rest))) (own_P s below C S Q) := by
  obtain ⟨fs, hr, hrun, hended, hW, hsame⟩ := X.leave (v := some w) (fun h => by rw [hret] at h; cases h) hlocks
  exact ⟨_, _, retOut X hx hret hn hi hd hr, hrun, hended, _, _, rfl, hQ, ⟨_, rfl⟩, hW, hsame.mono hC hS⟩
theorem own_retV (X : Stand p l e R s m args below meth c T locs cells slots) (hx : p.tables.exec = Jvm.exec) {pc : Nat} {Ls : Array Slot} (hret : meth.sig.returnType = none) (hd : decode c.code pc = .ok (.return_, 1)) (hlocks : meth.locks = false)
    {C S : Nat} {Q : Option Value → Heap → List Loc → Prop} (hC : cells ≤ C) (hS : slots ≤ S) (hQ : Q none T.heap locs) : own_G p e below (T.setTop (mkF m pc Ls [])) (own_P s below C S Q) := by
  obtain ⟨fs, hr, hrun, hended, hW, hsame⟩ := X.leave (v := none) (fun _ => rfl) hlocks
  exact ⟨_, _, X.returnOut hx hret hd hr, hrun, hended, _, _, rfl, hQ, ⟨_, rfl⟩, hW, hsame.mono hC hS⟩
theorem own_retW {vm₁ : Vm} (X : Stand p l e R (s.setVm vm₁) m args below meth c T locs cells slots) {n : Nat} (hSi : s.Since vm₁ n) (hn' : n ≤ T.heap.size) (hx : p.tables.exec = Jvm.exec) {pc : Nat} {Ls : Array Slot} {w : Value} {t : FieldType} {i : Instr} {rest : List Value} (hret : meth.sig.returnType = some t) (hn : narrow t w = w)
    (hi : (i = .ireturn ∧ (t = .int ∨ t = .boolean ∨ t = .byte ∨ t = .char ∨ t = .short) ∧ ∃ z, w = .int z) ∨ (i = .lreturn ∧ t = .long ∧ ∃ z, w = .long z) ∨ (i = .dreturn ∧ t = .double ∧ ∃ z, w = .double z) ∨ (i = .freturn ∧ t = .float ∧ ∃ z, w = .float z) ∨ (i = .areturn ∧ t.isReference = true ∧ w.isRef = true))
    (hd : decode c.code pc = .ok (i, 1)) (hlocks : meth.locks = false) {C S : Nat} {Q : Option Value → Heap → List Loc → Prop} (hC : cells ≤ C) (hS : slots ≤ S) (hQ : Q (some w) T.heap locs) :
    own_G p e below (T.setTop (mkF m pc Ls (w :: rest))) (own_PW s below C S Q) := by
  obtain ⟨fs, hr, hrun, hended, hW⟩ := (X.mono hC hS).leaveW hSi hn' (v := some w) (fun h => by rw [hret] at h; cases h) hlocks
  exact ⟨_, _, retOut X hx hret hn hi hd hr, hrun, hended, _, _, rfl, hQ, hW⟩
theorem own_retVW {vm₁ : Vm} (X : Stand p l e R (s.setVm vm₁) m args below meth c T locs cells slots) {n : Nat} (hSi : s.Since vm₁ n) (hn' : n ≤ T.heap.size) (hx : p.tables.exec = Jvm.exec) {pc : Nat} {Ls : Array Slot} (hret : meth.sig.returnType = none) (hd : decode c.code pc = .ok (.return_, 1)) (hlocks : meth.locks = false)
    {C S : Nat} {Q : Option Value → Heap → List Loc → Prop} (hC : cells ≤ C) (hS : slots ≤ S) (hQ : Q none T.heap locs) : own_G p e below (T.setTop (mkF m pc Ls [])) (own_PW s below C S Q) := by
  obtain ⟨fs, hr, hrun, hended, hW⟩ := (X.mono hC hS).leaveW hSi hn' (v := none) (fun _ => rfl) hlocks
  exact ⟨_, _, X.returnOut hx hret hd hr, hrun, hended, _, _, rfl, hQ, hW⟩
theorem own_ext_refl (h : Heap) : Ext h h := ⟨Nat.le_refl _, fun _ _ q => q⟩
theorem own_ext_trans {h1 h2 h3 : Heap} (A : Ext h1 h2) (B : Ext h2 h3) : Ext h1 h3 := ⟨Nat.le_trans A.1 B.1, fun a c q => B.2 a c (A.2 a c q)⟩
theorem own_ext_keep {h0 : Heap} {ws : List Addr} (O : Ext h0 h) (K : Keep h h' ws) (q : ∀ x ∈ ws, h0.size ≤ x) : Ext h0 h' := ⟨Nat.le_trans O.1 K.1, fun x c r => K.2.1 x c (O.2 x c r) fun z => absurd (Array.getElem?_eq_some_iff.mp r).1 (Nat.not_lt.mpr (q x z))⟩
theorem own_ext_wr {h0 : Heap} {a : Addr} {sl : Nat} {v : Value} (O : Ext h0 h) (W : Wr h h' a sl v) (q : h0.size ≤ a) : Ext h0 h' := own_ext_keep O (Keep.of_wr W) (allS q all0)
theorem own_fld_ne {a b : Addr} {C n d : String} {v w : Value} (F : Fld Z h a C n d v) (G : Fld Z h b C n d w) (q : v ≠ w) : a ≠ b := fun e => by
  subst e
  obtain ⟨c1, cf, k, i, f, h1, h2, -, -, -, -, h7⟩ := F
  obtain ⟨c2, cf', k', i', f', g1, g2, -, -, -, -, g7⟩ := G
  cases h1.symm.trans g1
  cases h2.symm.trans g2
  exact q (Option.some.inj (h7.symm.trans g7))
theorem own_getR (X : Stand p l e R s m args below meth c T locs cells slots) (hx : p.tables.exec = Jvm.exec) (hZ : Z.Warmed39 s.vm) {a0 : Array Value} {own R0 O n d : String} {index : Nat} (hown : s.vm.findClass own = some m.cls) (w : (Cond.fieldRef own index R0 n d).before a0 Z = true) (via : Via Z R0 O n d)
    (eT : T.heap = h) {a : Addr} {v : Value} (F : Fld Z h a O n d v) {g : JFrame} (hg : g.method = m) {rest : List Value} (hs : g.stack = .ref a :: rest) (hd : decode c.code g.pc = .ok (.getfield index, 3)) :
    ∀ target, Steps p.tables e below (T.setTop { g with pc := g.pc + 3, stack := v :: rest }) target → Steps p.tables e below (T.setTop g) target := by
  obtain ⟨cell, cf, k, i, f, h1, h2, h3, h4, -, -, h7⟩ := F
  have hi := via _ h2
  have hT : Z.Warmed39 T.vm := wtrans hZ X.warmed
  have hownZ : Z.vm.findClass own = some m.cls := by rw [← hZ.alike.findClass]; exact hown
  have hr : Z.resolvedAt? own index = some (.field cf i) := by
    simp only [Cond.before, Cond.holds, Cond.value, hownZ, hi, beq_iff_eq, Option.some.injEq, Bool.and_eq_true] at w
    obtain ⟨-, w⟩ := w
    split at w
    · rename_i c' i' hr; simp only [Bool.and_eq_true, beq_iff_eq] at w; obtain ⟨rfl, rfl⟩ := w; exact hr
    · cases w
  have hr' := State.resolvedAt?_warmed39 hT hr
  have hownT : T.vm.findClass own = some m.cls := by rw [hT.alike.findClass]; exact hownZ
  obtain ⟨k', hi', -⟩ := State.fieldFound?_setVm (s := Z) hT.alike hi
  obtain ⟨hk, hf⟩ := State.fieldFound?_spec hi'
  have hready : T.vm.fieldReady m.cls index cf f := by
    simp only [State.resolvedAt?, State.vm_setVm, hownT, Option.bind_eq_bind, Option.bind_some, Option.bind_eq_some_iff] at hr'
    obtain ⟨kc, hkc, hr'⟩ := hr'
    refine ⟨kc, i, k', hkc, ?_, hk, hf⟩
    cases hx : kc.resolved[index]? with
    | none => simp [hx] at hr'
    | some y => simp only [hx, Option.join_some] at hr'; rw [hr']
  intro target hrest
  subst hg
  jvm_step X.here [hx, hd, getfield.wp_ready (e := e) (s := T) (f := g) X.here.top hready h3 hs (show T.heap[a]? = some cell by rw [eT]; exact h1) h4 h7]
  exact hrest
theorem own_selfPriv {s : State} {args args' : Array Value} {y : MethodName} {n : Nat} (wi : (Cond.instantiable y.cls n).before args' s = true) (hp : s.PrivateAt y) (hi : (Cond.instanceMethod y).before args s = true) (hy : y.cls ≠ "java/lang/invoke/MethodHandle" ∧ y.cls ≠ "java/lang/invoke/VarHandle") : (Cond.selects y.cls y y).before args s = true := by
  obtain ⟨c, k, h1, h2, -, h4, -⟩ := Cond.instantiable_spec wi
  exact Jvm.Stand.selects_self_of_private h1 h2 (by simp only [Bool.or_eq_false_iff] at h4; exact h4.1) hp hi hy
theorem own_bool (z : Int32) (h : z = 0 ∨ z = 1) : narrow .boolean (.int z) = .int z := by rcases h with rfl | rfl <;> rfl
theorem own_mw {s Z : State} {a0 args : Array Value} {ws : List Jvm.Cond} (hZ : Z.Warmed39 s.vm) (hw : ∀ d ∈ ws, d.before a0 Z = true) (i : Nat) {d : Jvm.Cond} (h : ws[i]? = some d) (hd : (d.onTables && d.keepsFace) = true := by first | rfl | simp [Cond.onTables, Cond.keepsFace, Cond.keeps, Cond.steady]) : d.before args s = true := mvT hZ (hw d (List.mem_of_getElem? h)) hd
theorem own_hw {Z : State} {a0 : Array Value} {ws : List Jvm.Cond} (hw : ∀ d ∈ ws, d.before a0 Z = true) (i : Nat) {d : Jvm.Cond} (h : ws[i]? = some d) : d.before a0 Z = true := hw d (List.mem_of_getElem? h)
end OwnPre

section OwnArr
variable {p : Program} {l : Launch} {e : Env} {R : Room} {s : State} {m : MethodId} {args : Array Value} {below : List Frame} {meth : Method} {c : Code} {T : State} {locs : List Loc} {cells slots : Nat} {Z : State} {h h' : Heap} {a b : Addr} {k : ClassId} {ty : FieldType} {vs : List Value} {a0 : Array Value}
/-- the array at a is of class k, of components ty, and holds vs -/
def own_A (Z : State) (h : Heap) (a : Addr) (k : ClassId) (ty : FieldType) (vs : List Value) : Prop := ∃ c : Cell, Arr Z h a c ty ∧ c.cls = k ∧ c.slots.toList = vs ∧ vs.length < 2 ^ 31 ∧ ∀ v ∈ vs, fits ty v = true
theorem own_A.lt (F : own_A Z h a k ty vs) : a < h.size := by obtain ⟨c, A, -⟩ := F; exact A.lt
theorem own_A.ext (F : own_A Z h a k ty vs) (E : Ext h h') : own_A Z h' a k ty vs := by obtain ⟨c, A, r⟩ := F; exact ⟨c, A.ext E, r⟩
theorem own_A.other {sl : Nat} {v : Value} (F : own_A Z h b k ty vs) (W : Wr h h' a sl v) (q : b ≠ a) : own_A Z h' b k ty vs := by obtain ⟨c, A, r⟩ := F; exact ⟨c, A.other W q, r⟩
theorem own_A.keep {ws : List Addr} (F : own_A Z h a k ty vs) (K : Keep h h' ws) (q : a ∉ ws) : own_A Z h' a k ty vs := by obtain ⟨c, A, r⟩ := F; exact ⟨c, ⟨K.2.1 a c A.1 q, A.2⟩, r⟩
theorem own_A.eqs {vs' : List Value} (F : own_A Z h a k ty vs) (q : vs = vs') : own_A Z h a k ty vs' := q ▸ F
theorem own_in {cl : Cell} (hs : cl.slots.toList = vs) {j : Int32} {i : Nat} {v : Value} (hj : j.toInt = (i : Int)) (hv : vs[i]? = some v) : ¬ (j < 0 ∨ cl.slots.size ≤ j.toNatClampNeg) ∧ cl.slots[j.toNatClampNeg]? = some v ∧ j.toNatClampNeg = i := by
  have e : j.toNatClampNeg = i := by show j.toInt.toNat = i; omega
  have hlt : i < vs.length := by
    rcases Nat.lt_or_ge i vs.length with q | q
    · exact q
    · rw [List.getElem?_eq_none q] at hv; cases hv
  have hz : cl.slots.size = vs.length := by rw [← hs]; simp
  refine ⟨fun q => ?_, ?_, e⟩
  · rcases q with q | q
    · rw [Int32.lt_iff_toInt_lt, hj] at q; simp at q; omega
    · omega
  · rw [e, ← Array.getElem?_toList, hs]; exact hv
theorem own_ldJ (X : Stand p l e R s m args below meth c T locs cells slots) (hx : p.tables.exec = Jvm.exec) (hZ : Z.Warmed39 s.vm) (eT : T.heap = h) (F : own_A Z h a k .long vs) {j : Int32} {i : Nat} {v : Value} (hj : j.toInt = (i : Int)) (hv : vs[i]? = some v) {g : JFrame} (hg : g.method = m) {rest : List Value} (hs : g.stack = .int j :: .ref a :: rest) (hd : decode c.code g.pc = .ok (.laload, 1)) :
    ∀ t, Steps p.tables e below (T.setTop { g with pc := g.pc + 1, stack := v :: rest }) t → Steps p.tables e below (T.setTop g) t := fun t r => by
  obtain ⟨cl, A, -, q, -⟩ := F; obtain ⟨h1, h2, -⟩ := own_in q hj hv
  exact X.laload hx (by rw [eT]; exact A.1) (State.isArrayOf_alike hZ.alike A.2.1) A.2.2 h1 h2 hg hs hd t r
theorem own_ldI (X : Stand p l e R s m args below meth c T locs cells slots) (hx : p.tables.exec = Jvm.exec) (hZ : Z.Warmed39 s.vm) (eT : T.heap = h) (F : own_A Z h a k .int vs) {j : Int32} {i : Nat} {v : Value} (hj : j.toInt = (i : Int)) (hv : vs[i]? = some v) {g : JFrame} (hg : g.method = m) {rest : List Value} (hs : g.stack = .int j :: .ref a :: rest) (hd : decode c.code g.pc = .ok (.iaload, 1)) :
    ∀ t, Steps p.tables e below (T.setTop { g with pc := g.pc + 1, stack := v :: rest }) t → Steps p.tables e below (T.setTop g) t := fun t r => by
  obtain ⟨cl, A, -, q, -⟩ := F; obtain ⟨h1, h2, -⟩ := own_in q hj hv
  exact X.iaload hx (by rw [eT]; exact A.1) (State.isArrayOf_alike hZ.alike A.2.1) A.2.2 h1 h2 hg hs hd t r
theorem own_ldC (X : Stand p l e R s m args below meth c T locs cells slots) (hx : p.tables.exec = Jvm.exec) (hZ : Z.Warmed39 s.vm) (eT : T.heap = h) (F : own_A Z h a k .char vs) {j : Int32} {i : Nat} {v : Value} (hj : j.toInt = (i : Int)) (hv : vs[i]? = some v) {g : JFrame} (hg : g.method = m) {rest : List Value} (hs : g.stack = .int j :: .ref a :: rest) (hd : decode c.code g.pc = .ok (.caload, 1)) :
    ∀ t, Steps p.tables e below (T.setTop { g with pc := g.pc + 1, stack := v :: rest }) t → Steps p.tables e below (T.setTop g) t := fun t r => by
  obtain ⟨cl, A, -, q, -⟩ := F; obtain ⟨h1, h2, -⟩ := own_in q hj hv
  exact X.caload hx (by rw [eT]; exact A.1) (State.isArrayOf_alike hZ.alike A.2.1) A.2.2 h1 h2 hg hs hd t r
theorem own_ldB (X : Stand p l e R s m args below meth c T locs cells slots) (hx : p.tables.exec = Jvm.exec) (hZ : Z.Warmed39 s.vm) (eT : T.heap = h) (F : own_A Z h a k .byte vs) {j : Int32} {i : Nat} {v : Value} (hj : j.toInt = (i : Int)) (hv : vs[i]? = some v) {g : JFrame} (hg : g.method = m) {rest : List Value} (hs : g.stack = .int j :: .ref a :: rest) (hd : decode c.code g.pc = .ok (.baload, 1)) :
    ∀ t, Steps p.tables e below (T.setTop { g with pc := g.pc + 1, stack := v :: rest }) t → Steps p.tables e below (T.setTop g) t := fun t r => by
  obtain ⟨cl, A, -, q, -⟩ := F; obtain ⟨h1, h2, -⟩ := own_in q hj hv
  exact X.baloadBytes hx (by rw [eT]; exact A.1) (State.isArrayOf_alike hZ.alike A.2.1) A.2.2 h1 h2 hg hs hd t r
theorem own_ldA (X : Stand p l e R s m args below meth c T locs cells slots) (hx : p.tables.exec = Jvm.exec) (hZ : Z.Warmed39 s.vm) (eT : T.heap = h) (F : own_A Z h a k ty vs) (hty : ty.isReference = true) {j : Int32} {i : Nat} {v : Value} (hj : j.toInt = (i : Int)) (hv : vs[i]? = some v) {g : JFrame} (hg : g.method = m) {rest : List Value} (hs : g.stack = .int j :: .ref a :: rest) (hd : decode c.code g.pc = .ok (.aaload, 1)) :
    ∀ t, Steps p.tables e below (T.setTop { g with pc := g.pc + 1, stack := v :: rest }) t → Steps p.tables e below (T.setTop g) t := fun t r => by
  obtain ⟨cl, A, -, q, -⟩ := F; obtain ⟨h1, h2, -⟩ := own_in q hj hv
  exact X.aaload hx (by rw [eT]; exact A.1) (State.isArrayOf_alike hZ.alike A.2.1) hty A.2.2 h1 h2 hg hs hd t r
theorem own_len (X : Stand p l e R s m args below meth c T locs cells slots) (hx : p.tables.exec = Jvm.exec) (hZ : Z.Warmed39 s.vm) (eT : T.heap = h) (F : own_A Z h a k ty vs) {z : Int32} (hz : z.toInt = (vs.length : Int)) {g : JFrame} (hg : g.method = m) {rest : List Value} (hs : g.stack = .ref a :: rest) (hd : decode c.code g.pc = .ok (.arraylength, 1)) :
    ∀ t, Steps p.tables e below (T.setTop { g with pc := g.pc + 1, stack := .int z :: rest }) t → Steps p.tables e below (T.setTop g) t := fun t r => by
  obtain ⟨cl, A, -, q, q2, -⟩ := F
  have hl : cl.slots.size = vs.length := by rw [← q]; simp
  have e1 : cl.slots.size.toInt32 = z := by
    apply Int32.toInt_inj.mp
    rw [hl, hz]; exact Int32.toInt_ofNat_small q2
  exact X.arraylength hx (by rw [eT]; exact A.1) (State.isArrayOf_alike hZ.alike A.2.1) hg hs hd t (by rw [e1]; exact r)
theorem own_A.set {cl : Cell} (A : Arr Z h a cl ty) (q1 : cl.cls = k) (q2 : cl.slots.toList = vs) (q3 : vs.length < 2 ^ 31) (q4 : ∀ v ∈ vs, fits ty v = true) {i : Nat} {v : Value} (hv : fits ty v = true) (W : Wr h h' a i v) : own_A Z h' a k ty (vs.set i v) := by
  refine ⟨cl.setSlot i v, A.same W, q1, ?_, by simpa using q3, fun u hu => ?_⟩
  · simp [Cell.setSlot, q2]
  · rcases List.mem_or_eq_of_mem_set hu with r | r
    · exact q4 u r
    · rw [r]; exact hv
theorem own_stJ (X : Stand p l e R s m args below meth c T locs cells slots) (hx : p.tables.exec = Jvm.exec) (hZ : Z.Warmed39 s.vm) (eT : T.heap = h) (F : own_A Z h a k .long vs) {j : Int32} {i : Nat} {x : Int64} (hj : j.toInt = (i : Int)) (hi : i < vs.length) {g : JFrame} (hg : g.method = m) {rest : List Value} (hs : g.stack = .long x :: .int j :: .ref a :: rest) (hd : decode c.code g.pc = .ok (.lastore, 1)) :
    ∃ T' h', Stand p l e R s m args below meth c T' (locs ++ [⟨a, i⟩]) cells slots ∧ T'.heap = h' ∧ Wr h h' a i (.long x) ∧ own_A Z h' a k .long (vs.set i (.long x)) ∧ ∀ t, Steps p.tables e below (T'.setTop { g with pc := g.pc + 1, stack := rest }) t → Steps p.tables e below (T.setTop g) t := by
  obtain ⟨cl, A, r1, r2, r3, r4⟩ := F; obtain ⟨h1, -, h3⟩ := own_in r2 hj (List.getElem?_eq_getElem hi)
  obtain ⟨T', h', X', e', W, st⟩ := stJ X hx hZ eT A h1 hg hs hd
  rw [h3] at X' W
  exact ⟨T', h', X', e', W, own_A.set A r1 r2 r3 r4 rfl W, st⟩
theorem own_stI (X : Stand p l e R s m args below meth c T locs cells slots) (hx : p.tables.exec = Jvm.exec) (hZ : Z.Warmed39 s.vm) (eT : T.heap = h) (F : own_A Z h a k .int vs) {j : Int32} {i : Nat} {x : Int32} (hj : j.toInt = (i : Int)) (hi : i < vs.length) {g : JFrame} (hg : g.method = m) {rest : List Value} (hs : g.stack = .int x :: .int j :: .ref a :: rest) (hd : decode c.code g.pc = .ok (.iastore, 1)) :
    ∃ T' h', Stand p l e R s m args below meth c T' (locs ++ [⟨a, i⟩]) cells slots ∧ T'.heap = h' ∧ Wr h h' a i (.int x) ∧ own_A Z h' a k .int (vs.set i (.int x)) ∧ ∀ t, Steps p.tables e below (T'.setTop { g with pc := g.pc + 1, stack := rest }) t → Steps p.tables e below (T.setTop g) t := by
  obtain ⟨cl, A, r1, r2, r3, r4⟩ := F; obtain ⟨h1, -, h3⟩ := own_in r2 hj (List.getElem?_eq_getElem hi)
  obtain ⟨T', h', X', e', W, st⟩ := stI X hx hZ eT A h1 hg hs hd
  rw [h3] at X' W
  exact ⟨T', h', X', e', W, own_A.set A r1 r2 r3 r4 rfl W, st⟩
theorem own_stC (X : Stand p l e R s m args below meth c T locs cells slots) (hx : p.tables.exec = Jvm.exec) (hZ : Z.Warmed39 s.vm) (eT : T.heap = h) (F : own_A Z h a k .char vs) {j : Int32} {i : Nat} {x y : Int32} (hy : nar .char x = y) (hj : j.toInt = (i : Int)) (hi : i < vs.length) {g : JFrame} (hg : g.method = m) {rest : List Value} (hs : g.stack = .int x :: .int j :: .ref a :: rest) (hd : decode c.code g.pc = .ok (.castore, 1)) :
    ∃ T' h', Stand p l e R s m args below meth c T' (locs ++ [⟨a, i⟩]) cells slots ∧ T'.heap = h' ∧ Wr h h' a i (.int y) ∧ own_A Z h' a k .char (vs.set i (.int y)) ∧ ∀ t, Steps p.tables e below (T'.setTop { g with pc := g.pc + 1, stack := rest }) t → Steps p.tables e below (T.setTop g) t := by
  obtain ⟨cl, A, r1, r2, r3, r4⟩ := F; obtain ⟨h1, -, h3⟩ := own_in r2 hj (List.getElem?_eq_getElem hi)
  obtain ⟨T', h', X', e', W, st⟩ := stC X hx hZ eT A h1 hg hs hd
  have hfy := fits_nar_char x
  rw [hy] at hfy W
  rw [h3] at X' W
  exact ⟨T', h', X', e', W, own_A.set A r1 r2 r3 r4 hfy W, st⟩
theorem own_stB (X : Stand p l e R s m args below meth c T locs cells slots) (hx : p.tables.exec = Jvm.exec) (hZ : Z.Warmed39 s.vm) (eT : T.heap = h) (F : own_A Z h a k .byte vs) {j : Int32} {i : Nat} {x y : Int32} (hy : nar .byte x = y) (hj : j.toInt = (i : Int)) (hi : i < vs.length) {g : JFrame} (hg : g.method = m) {rest : List Value} (hs : g.stack = .int x :: .int j :: .ref a :: rest) (hd : decode c.code g.pc = .ok (.bastore, 1)) :
    ∃ T' h', Stand p l e R s m args below meth c T' (locs ++ [⟨a, i⟩]) cells slots ∧ T'.heap = h' ∧ Wr h h' a i (.int y) ∧ own_A Z h' a k .byte (vs.set i (.int y)) ∧ ∀ t, Steps p.tables e below (T'.setTop { g with pc := g.pc + 1, stack := rest }) t → Steps p.tables e below (T.setTop g) t := by
  obtain ⟨cl, A, r1, r2, r3, r4⟩ := F; obtain ⟨h1, -, h3⟩ := own_in r2 hj (List.getElem?_eq_getElem hi)
  obtain ⟨T', h', X', e', W, st⟩ := stB X hx hZ eT A h1 hg hs hd
  have hfy : fits .byte (.int (nar .byte x)) = true := fits_nar_byte x
  rw [hy] at hfy W
  rw [h3] at X' W
  exact ⟨T', h', X', e', W, own_A.set A r1 r2 r3 r4 hfy W, st⟩
theorem own_stR (X : Stand p l e R s m args below meth c T locs cells slots) (hx : p.tables.exec = Jvm.exec) (hZ : Z.Warmed39 s.vm) (eT : T.heap = h) (F : own_A Z h a k ty vs) (hty : ty.isReference = true) {j : Int32} {i : Nat} {v : Value} (hj : j.toInt = (i : Int)) (hi : i < vs.length) (hS : ∀ cl : Cell, Arr Z h a cl ty → cl.cls = k → Sto Z h a v) (hf : fits ty v = true) {g : JFrame} (hg : g.method = m) {rest : List Value} (hs : g.stack = v :: .int j :: .ref a :: rest) (hd : decode c.code g.pc = .ok (.aastore, 1)) :
    ∃ T' h', Stand p l e R s m args below meth c T' (locs ++ [⟨a, i⟩]) cells slots ∧ T'.heap = h' ∧ Wr h h' a i v ∧ own_A Z h' a k ty (vs.set i v) ∧ ∀ t, Steps p.tables e below (T'.setTop { g with pc := g.pc + 1, stack := rest }) t → Steps p.tables e below (T.setTop g) t := by
  obtain ⟨cl, A, r1, r2, r3, r4⟩ := F; obtain ⟨h1, -, h3⟩ := own_in r2 hj (List.getElem?_eq_getElem hi)
  obtain ⟨T', h', X', e', W, st⟩ := stR X hx hZ eT A h1 hty (hS cl A r1) hg hs hd
  rw [h3] at X' W
  exact ⟨T', h', X', e', W, own_A.set A r1 r2 r3 r4 hf W, st⟩
theorem own_A.of_new {n : Int32} {i : Nat} (hn : n.toInt = (i : Int)) (hd : fits ty (defaultValue ty) = true) (A : Arr Z h a (newA k ty n) ty) : own_A Z h a k ty (List.replicate i (defaultValue ty)) := by
  have e : n.toNatClampNeg = i := by show n.toInt.toNat = i; omega
  have hb := n.toInt_lt
  refine ⟨_, A, rfl, by simp [newA, e], by simp; omega, fun v hv => by rw [(List.mem_replicate.mp hv).2]; exact hd⟩
theorem own_newP (X : Stand p l e R s m args below meth c T locs cells slots) (hx : p.tables.exec = Jvm.exec) (hZ : Z.Warmed39 s.vm) {aty : ArrayType} (w : (Cond.arrayClass (newarray.typeOf aty)).before a0 Z = true) (eT : T.heap = h) {g : JFrame} (hg : g.method = m) (hd : decode c.code g.pc = .ok (.newarray aty, 2)) {n : Int32} {rest : List Value} (hs : g.stack = .int n :: rest)
    {i : Nat} (hn : n.toInt = (i : Int)) {cap : Nat} (hcap : i ≤ cap) (hb : cap * 8 ≤ 536870912) (hc : cells + 1 ≤ R.cells) (hl : slots + cap ≤ R.slots) :
    ∃ T' h' cA, Stand p l e R s m args below meth c T' locs (cells + 1) (slots + cap) ∧ T'.heap = h' ∧ Ext h h' ∧ own_A Z h' h.size cA (newarray.typeOf aty) (List.replicate i (defaultValue (newarray.typeOf aty))) ∧
      ∀ target, Steps p.tables e below (T'.setTop { g with pc := g.pc + 2, stack := .ref h.size :: rest }) target → Steps p.tables e below (T.setTop g) target := by
  have hn' : ¬ n < 0 := by rw [Int32.lt_iff_toInt_lt, hn]; simp
  obtain ⟨T', h', cA, X', e', E, A, st⟩ := newP X hx hZ w eT hg hd hs hn' (cap := cap) (by show n.toInt.toNat ≤ cap; omega) hb hc hl
  exact ⟨T', h', cA, X', e', E, own_A.of_new hn (by cases aty <;> rfl) A, st⟩
theorem own_newR (X : Stand p l e R s m args below meth c T locs cells slots) (hx : p.tables.exec = Jvm.exec) (hZ : Z.Warmed39 s.vm) {own C : String} {index : Nat} (hown : s.vm.findClass own = some m.cls) (w1 : (Cond.classLink own index C).before a0 Z = true) (w2 : (Cond.arrayOver (.object C)).before a0 Z = true)
    (eT : T.heap = h) {g : JFrame} (hg : g.method = m) (hd : decode c.code g.pc = .ok (.anewarray index, 3)) {n : Int32} {rest : List Value} (hs : g.stack = .int n :: rest) {i : Nat} (hn : n.toInt = (i : Int)) {cap : Nat} (hcap : i ≤ cap) (hb : cap * 8 ≤ 536870912) (hc : cells + 1 ≤ R.cells) (hl : slots + cap ≤ R.slots) :
    ∃ T' h' cA, Stand p l e R s m args below meth c T' locs (cells + 1) (slots + cap) ∧ T'.heap = h' ∧ Ext h h' ∧ own_A Z h' h.size cA (.object C) (List.replicate i .null) ∧ Ovr Z cA C ∧
      ∀ target, Steps p.tables e below (T'.setTop { g with pc := g.pc + 3, stack := .ref h.size :: rest }) target → Steps p.tables e below (T.setTop g) target := by
  have hn' : ¬ n < 0 := by rw [Int32.lt_iff_toInt_lt, hn]; simp
  obtain ⟨T', h', cA, X', e', E, A, O, st⟩ := newR X hx hZ hown w1 w2 eT hg hd hs hn' (cap := cap) (by show n.toInt.toNat ≤ cap; omega) hb hc hl
  exact ⟨T', h', cA, X', e', E, own_A.of_new hn rfl A, O, st⟩
theorem own_sto {C : String} {v : Value} (O : Ovr Z k C) (I : v = .null ∨ ∃ y, v = .ref y ∧ Ins Z h y C true) : ∀ cl : Cell, Arr Z h a cl ty → cl.cls = k → Sto Z h a v := fun cl A q => by
  rcases I with rfl | ⟨y, rfl, I⟩
  · exact Or.inl rfl
  · exact Sto.ofV A q O I
theorem own_A.start {args : Array Value} (hf : Fit Z) {t : Term} {n : Int32} (ev : t.eval args Z none [] Z = some (.ref a)) (hA : (Cond.arrayOf t ty).value args Z none Z [] = some true) (hL : (Cond.eq (.length t) (.int n)).value args Z none Z [] = some true) :
    ∃ c : Cell, Arr Z Z.heap a c ty ∧ own_A Z Z.heap a c.cls ty c.slots.toList ∧ c.slots.size < 2 ^ 31 ∧ c.slots.size.toInt32 = n ∧ (c.slots.size : Int) = n.toInt := by
  obtain ⟨c, A⟩ := Arr.start ev hA
  have e := eqv_i (Term.int_eval n) hL
  have e4 : Z.arrayAt? a = some c := A.fin (Vm.Alike.refl _)
  have hl : c.slots.size < 2 ^ 31 := by
    rcases Nat.lt_or_ge c.slots.size (2 ^ 31) with q | q
    · exact q
    · simp [Term.eval, ev, e4, Nat.not_lt.mpr q] at e
  have e5 := (len_f ev e4 hl).symm.trans e
  have e6 : c.slots.size.toInt32 = n := Value.int.inj (Option.some.inj e5)
  refine ⟨c, A, ⟨c, A, rfl, rfl, by simpa using hl, fun v hv => ?_⟩, hl, e6, ?_⟩
  · obtain ⟨i, hi, rfl⟩ := List.getElem_of_mem hv
    have hi' : i < c.slots.size := by simpa using hi
    have q := idx_in hi' hl
    have e7 : i.toInt32.toNatClampNeg = i := by
      show i.toInt32.toInt.toNat = i
      rw [len_toInt (Nat.lt_trans hi' hl)]; rfl
    exact elem_fits hf A q (by rw [e7]; simp [hi'])
  · rw [← e6, len_toInt hl]
end OwnArr

section OwnArr2
variable {p : Program} {l : Launch} {e : Env} {R : Room} {s : State} {m : MethodId} {args : Array Value} {below : List Frame} {meth : Method} {c : Code} {T : State} {locs : List Loc} {cells slots : Nat} {Z : State} {h h' : Heap} {a b : Addr} {k : ClassId} {ty : FieldType} {vs : List Value} {a0 : Array Value}
theorem own_newRE (X : Stand p l e R s m args below meth c T locs cells slots) (hx : p.tables.exec = Jvm.exec) (hZ : Z.Warmed39 s.vm) {own C : String} {index : Nat} (hown : s.vm.findClass own = some m.cls) (w1 : (Cond.classLink own index C).before a0 Z = true) (w2 : (Cond.arrayOver (.object C)).before a0 Z = true)
    (eT : T.heap = h) {g : JFrame} (hg : g.method = m) (hd : decode c.code g.pc = .ok (.anewarray index, 3)) {n : Int32} {rest : List Value} (hs : g.stack = .int n :: rest) {i : Nat} (hn : n.toInt = (i : Int)) {cap : Nat} (hcap : i ≤ cap) (hb : cap * 8 ≤ 536870912) (hc : cells + 1 ≤ R.cells) (hl : slots + cap ≤ R.slots) {ad : String} (had : "[" ++ (FieldType.object C).toString = ad) :
    ∃ T' h' cA, Stand p l e R s m args below meth c T' locs (cells + 1) (slots + cap) ∧ T'.heap = h' ∧ Ext h h' ∧ own_A Z h' h.size cA (.object C) (List.replicate i .null) ∧ Exa Z h' h.size ad ∧ Ovr Z cA C ∧
      ∀ target, Steps p.tables e below (T'.setTop { g with pc := g.pc + 3, stack := .ref h.size :: rest }) target → Steps p.tables e below (T.setTop g) target := by
  have hn' : ¬ n < 0 := by rw [Int32.lt_iff_toInt_lt, hn]; simp
  obtain ⟨T', h', cA, X', e', E, A, EX, O, st⟩ := newRE X hx hZ hown w1 w2 eT hg hd hs hn' (cap := cap) (by show n.toInt.toNat ≤ cap; omega) hb hc hl had
  exact ⟨T', h', cA, X', e', E, own_A.of_new hn rfl A, EX, O, st⟩
theorem own_A.arv (F : own_A Z h a k ty vs) {z : Int32} (hz : z.toInt = (vs.length : Int)) (d : Value) : Arv Z h a k ty z vs d := by
  obtain ⟨cl, A, r1, r2, r3, r4⟩ := F
  have hs : cl.slots.size = vs.length := by rw [← r2]; simp
  have hn : z.toNatClampNeg = vs.length := by show z.toInt.toNat = _; omega
  refine ⟨cl, A, r1, by rw [hs, hn], by rw [Int32.lt_iff_toInt_lt, hz]; simp, fun i hi => ?_, fun i hi => ?_⟩
  · rw [hs] at hi
    rw [← Array.getElem?_toList, r2, List.getD_eq_getElem?_getD, List.getElem?_eq_getElem hi]; rfl
  · rw [hs] at hi
    rw [List.getD_eq_getElem?_getD, List.getElem?_eq_getElem hi]; exact r4 _ (List.getElem_mem hi)
theorem own_A.of_arv {z : Int32} {d : Value} (F : Arv Z h a k ty z vs d) (hz : z.toInt = (vs.length : Int)) : own_A Z h a k ty vs := by
  obtain ⟨cl, A, r1, r2, r3, r4, r5⟩ := F
  have hn : z.toNatClampNeg = vs.length := by show z.toInt.toNat = _; omega
  have hlt := z.toInt_lt
  refine ⟨cl, A, r1, ?_, by omega, fun v hv => ?_⟩
  · apply List.ext_getElem?
    intro i
    rw [Array.getElem?_toList]
    rcases Nat.lt_or_ge i vs.length with q | q
    · rw [r4 i (by omega), List.getD_eq_getElem?_getD, List.getElem?_eq_getElem q]; rfl
    · rw [List.getElem?_eq_none q, Array.getElem?_eq_none (by omega)]
  · obtain ⟨i, hi, rfl⟩ := List.getElem_of_mem hv
    have := r5 i (by omega)
    rwa [List.getD_eq_getElem?_getD, List.getElem?_eq_getElem hi] at this
theorem own_stoL {C : String} (O : Ovr Z k C) (A : own_A Z h a k ty vs) : ∀ us : List Value, (∀ v ∈ us, v = .null ∨ ∃ y, v = .ref y ∧ Ins Z h y C true) → StoL Z h a us
  | [], _ => trivial
  | v :: us, q => ⟨by obtain ⟨cl, Ar, r1, -⟩ := A; exact own_sto O (q v List.mem_cons_self) cl Ar r1, own_stoL O A us fun u hu => q u (List.mem_cons_of_mem _ hu)⟩
theorem own_memc {P : Value → Prop} {v : Value} {us : List Value} (q : P v) (r : ∀ u ∈ us, P u) : ∀ u ∈ v :: us, P u := fun u hu => by
  rcases List.mem_cons.mp hu with rfl | hu
  · exact q
  · exact r u hu
theorem own_cp (X : Stand p l e R s m args below meth c T locs cells slots) (hx : p.tables.exec = Jvm.exec) (hZ : Z.Warmed39 s.vm) {own : String} {index : Nat} (hown : s.vm.findClass own = some m.cls)
    (w1 : (Cond.methodLink own index Jvm.Stand.acN).before a0 Z = true) (w2 : (Cond.native Jvm.Stand.acN).before a0 Z = true) (w3 : (Cond.static Jvm.Stand.acN).before a0 Z = true) (w4 : (Cond.initialized "java/lang/System").before a0 Z = true) (eT : T.heap = h)
    {k' : ClassId} {ty' : FieldType} {sp dp nn : Int32} {vd us vr : List Value} {i j n : Nat} (A : own_A Z h a k ty vs) (B : own_A Z h b k' ty' vd) (hA : vs.length < 2147483648) (hB : vd.length < 2147483648) (hty : (ty = ty' ∧ refKind ty = false) ∨ (refKind ty = true ∧ refKind ty' = true ∧ StoL Z h b us))
    (h1 : sp.toInt = (i : Int)) (h2 : dp.toInt = (j : Int)) (h3 : nn.toInt = (n : Int)) (h4 : i + n ≤ vs.length) (h5 : j + n ≤ vd.length)
    (hus : us = (vs.drop i).take n) (hvr : vr = vd.take j ++ us ++ vd.drop (j + n)) {n0 : Nat} (N : Fr n0 locs) (ge : n0 ≤ b)
    {g : JFrame} (hg : g.method = m) (hsize : g.locals.size = c.maxLocals) {rest : List Value} (hs : g.stack = .int nn :: .int dp :: .ref b :: .int sp :: .ref a :: rest) (hd : decode c.code g.pc = .ok (.invokestatic index, 3))
    (hf : 1 ≤ R.frames) {W : Nat} (hW : 2 * g.monitorRoom + (rest.map fun v => v.category).sum ≤ W) (hlo : W + (nativeFrameWords "java/lang/System" "arraycopy" 5 + 11) ≤ R.locals) :
    ∃ T' h' L, Stand p l e R s m args below meth c T' L cells slots ∧ T'.heap = h' ∧ Fr n0 L ∧ Keep h h' [b] ∧ own_A Z h' b k' ty' vr ∧
      ∀ target, Steps p.tables e below (T'.setTop { g with pc := g.pc + 3, stack := rest }) target → Steps p.tables e below (T.setTop g) target := by
  have e1 : sp.toNatClampNeg = i := by show sp.toInt.toNat = i; omega
  have e2 : dp.toNatClampNeg = j := by show dp.toInt.toNat = j; omega
  have e3 : nn.toNatClampNeg = n := by show nn.toInt.toNat = n; omega
  have z1 : (Int32.ofNat vs.length).toInt = (vs.length : Int) := Int32.toInt_ofNat_small (by omega)
  have z2 : (Int32.ofNat vd.length).toInt = (vd.length : Int) := Int32.toInt_ofNat_small (by omega)
  have y1 : (Int32.ofNat vs.length).toNatClampNeg = vs.length := by show (Int32.ofNat vs.length).toInt.toNat = _; omega
  have y2 : (Int32.ofNat vd.length).toNatClampNeg = vd.length := by show (Int32.ofNat vd.length).toInt.toNat = _; omega
  have hus' : us = (List.range nn.toNatClampNeg).map fun q => vs.getD (sp.toNatClampNeg + q) .null := by
    rw [hus, e1, e3]
    apply List.ext_getElem?
    intro q
    rcases Nat.lt_or_ge q n with r | r
    · rw [List.getElem?_take_of_lt r, List.getElem?_drop, List.getElem?_map, List.getElem?_range r, List.getElem?_eq_getElem (by omega)]
      simp [List.getD_eq_getElem?_getD, List.getElem?_eq_getElem (show i + q < vs.length by omega)]
    · rw [List.getElem?_eq_none (by simp; omega), List.getElem?_eq_none (by simp; omega)]
  obtain ⟨T', h', L, X', e', N', K, V, st⟩ := cpA X hx hZ hown w1 w2 w3 w4 eT (A.arv z1 .null) (B.arv z2 .null) hty (by rw [Int32.lt_iff_toInt_lt, h1]; simp) (by rw [Int32.lt_iff_toInt_lt, h2]; simp) (by rw [Int32.lt_iff_toInt_lt, h3]; simp) (by rw [e1, e3, y1]; exact h4) (by rw [e2, e3, y2]; exact h5) hus' (by rw [e2, e3]; exact h5) N ge hg hsize hs hd hf hW hlo
  rw [e2, e3, ← hvr] at V
  refine ⟨T', h', L, X', e', N', K, own_A.of_arv V ?_, st⟩
  rw [z2, hvr, hus]; simp; omega
theorem own_ldcK (X : Stand p l e R s m args below meth c T locs cells slots) (hx : p.tables.exec = Jvm.exec) (hZ : Z.Warmed39 s.vm) {own C : String} {index : Nat} (hown : s.vm.findClass own = some m.cls) (w : (Cond.classLink own index C).before a0 Z = true) {mr : Addr} (M : Mir Z C mr) (eT : T.heap = h) {g : JFrame} (hg : g.method = m) (hd : decode c.code g.pc = .ok (.ldc index, 2)) :
    ∃ T', Stand p l e R s m args below meth c T' locs cells slots ∧ T'.heap = h ∧ ∀ target, Steps p.tables e below (T'.setTop { g with pc := g.pc + 2, stack := .ref mr :: g.stack }) target → Steps p.tables e below (T.setTop g) target := by
  obtain ⟨cc, kc, m1, m2, m3, -⟩ := M
  obtain ⟨k', q, ek⟩ := hZ.alike.2.2 _ _ m2
  have hf : s.vm.findClass C = some cc := by rw [hZ.alike.findClass]; exact m1
  have hm : k'.mirror = some mr := by rw [ek]; exact m3
  obtain ⟨vm', X', st⟩ := X.ldcMirror hx hown (mvT hZ w) (a := mr) (by simp [Term.eval, hf, q, hm]) hg hd
  exact ⟨_, X', eT, st⟩
theorem own_NSroot {O K : String} {n : Nat} (w : (Cond.noSuperclass O).before a0 Z = true) (wk : (Cond.instantiable K n).before a0 Z = true) (hn : O ≠ K) : NS Z O K := by
  obtain ⟨c, k, h1, h2, h3, -, -⟩ := Cond.noSuperclass_spec w
  obtain ⟨t, k', g1, -⟩ := Cond.instantiable_spec wk
  have ne := ids_ne h1 g1 hn
  refine ⟨c, t, h1, g1, fun fuel => ?_⟩
  cases fuel with
  | zero => rfl
  | succ f => simp [Vm.isSubclassAux, ne, h2, h3]
theorem own_NSno {C S K : String} {nn : Nat} (w : (Cond.superclass C S).before a0 Z = true) (wk : (Cond.instantiable K nn).before a0 Z = true) (n : NS Z C K) (hn : C ≠ K) : ∃ c t, Z.vm.findClass C = some c ∧ Z.vm.findClass K = some t ∧ Z.vm.assignable c t = false := by
  obtain ⟨c, t, h0, g0, n3⟩ := n
  obtain ⟨p, k, kp, h1, h2, h3, h4, h5, -, h7⟩ := Cond.superclass_spec h0 w
  obtain ⟨t', k', g1, g2, g5, g7, -⟩ := Cond.instantiable_spec wk
  cases g0.symm.trans g1
  simp only [Bool.or_eq_false_iff] at g7
  have ne := ids_ne h0 g0 hn
  refine ⟨c, t, h0, g0, ?_⟩
  show Z.vm.assignableAux (255 + 1) c t = false
  simp [Vm.assignableAux, ne, h2, g2, h5, g5, g7.1, Vm.isSubclass, n3]
end OwnArr2

theorem own_ltlen {sz z : Int32} {i n : Nat} (h1 : sz.toInt = (i : Int)) (h2 : z.toInt = (n : Int)) (h3 : i < n) : ¬ (sz = z) := fun q => by rw [q, h2] at h1; omega
theorem own_mod3 (x : Int32) : (x &&& (2147483647 : Int32)) % (3 : Int32) = 0 ∨ (x &&& (2147483647 : Int32)) % (3 : Int32) = 1 ∨ (x &&& (2147483647 : Int32)) % (3 : Int32) = 2 := by
  have h := Jvm.Kit.i32_mask x 2147483647 (k := 31) (by decide) (by decide)
  have h5 : (3 : Int32).toInt = 3 := by decide
  have hr := Jvm.Kit.i32_rem_nonneg (x := x &&& 2147483647) (y := 3) (by omega)
  have h0 : (0 : Int32).toInt = 0 := by decide
  have h1 : (1 : Int32).toInt = 1 := by decide
  have h2 : (2 : Int32).toInt = 2 := by decide
  simp only [← Int32.toInt_inj, h0, h1, h2]
  rw [h5] at hr
  rw [hr]
  omega
theorem ef_own_abc (m : MethodId) (x0 : Addr) : entryFrame m #[(.ref x0)] 1 = mkF m 0 #[.val (.ref x0)] [] := by first | (simp [entryFrame, mkF, argsToLocals, Value.category]; done) | rfl
theorem pf_own_abc : plainFor own_m0 = true := plainFor_of_name (by simp [plainName, overriddenIn])
theorem d_jdk_22_method_1_code_0 : decode jdk_22_method_1_code 0 = .ok (.aload_n 0, 1) := by decide +kernel
theorem d_jdk_22_method_1_code_1 : decode jdk_22_method_1_code 1 = .ok (.invokespecial 1, 3) := by decide +kernel
theorem d_jdk_22_method_1_code_4 : decode jdk_22_method_1_code 4 = .ok (.return_, 1) := by decide +kernel
def Q_own_abc (Z : State) (a : Addr) (h0 : Heap) (v : Option Value) (h : Heap) (L : List Loc) : Prop := v = none ∧ Fr Z.heap.size L ∧ h = h0
set_option maxRecDepth 65536 in
set_option maxHeartbeats 40000000 in
theorem own_abc (l : Launch) (Z : State) (a0 : Array Value) (hw : ∀ d ∈ tables_1, d.before a0 Z = true) (ws : List Jvm.Cond) (a : Addr) (h0 : Heap) (O0 : Ext Z.heap h0) :
    MetFree l own_m0 (head1 (Jvm.Cond.code own_m0 jdk_22_method_1_code 1 none :: ws) ({ frames := 1, cells := 0, slots := 0, locals := 12 } : Room)) (fun aa U => aa = #[(.ref a)] ∧ Z.Warmed39 U.vm ∧ U.heap = h0) (fun _ _ _ _ _ => True) (fun _ U o U' => ∃ v L, o = .returned v ∧ Q_own_abc Z a h0 v U'.heap L ∧ FrameEnd U o U' L ({ frames := 1, cells := 0, slots := 0, locals := 12 } : Room).cells ({ frames := 1, cells := 0, slots := 0, locals := 12 } : Room).slots) := by
  refine MetFree.of_bodySF pf_own_abc hisR ?_
  intro p e s m args below meth c s₁ Bd hml0 hP hK
  obtain ⟨rfl, hZ, hh⟩ := hP
  have hx := Bd.exec
  have hby := Bd.bytes
  have hlk := BodyLoose.notSynchronized Bd
  have hml : c.maxLocals = 1 := hml0
  have hown : s.vm.findClass "java/util/AbstractCollection" = some m.cls := findClass_of_methodNamed Bd.named
  have hnm := (name_of_methodNamed Bd.named Bd.method).1
  have X0 : Stand p l e ({ frames := 1, cells := 0, slots := 0, locals := 12 } : Room) s m #[(.ref a)] below meth c s₁ [] 0 0 := Stand.of_body Bd
  have e0 : s₁.heap = h0 := by rw [← hh, Bd.state]; rfl
  have N0 := Fr.nil Z.heap.size
  have K0 : Keep h0 h0 [] := Keep.refl _ _
  refine own_start (Q := Q_own_abc Z a h0) (ef_own_abc m (a)) ?_
  show own_G p e below (s₁.setTop (mkF m 0 #[.val (.ref a)] [])) _
  refine own_go (fun t k => XS.aloadN X0.here hx rfl (hb hby d_jdk_22_method_1_code_0) rfl rfl k) ?_
  obtain ⟨T1z, X1z, e1z, st1z⟩ := initO X0 hx hZ hown (own_hw hw 22 rfl) (own_hw hw 23 rfl) (own_hw hw 24 rfl) e0 (g := (mkF m 1 #[.val (.ref a)] [(.ref a)])) rfl (by rw [hml]; rfl) rfl (hb hby d_jdk_22_method_1_code_1) (by decide) (W := 0) (by show 2 * 0 + _ ≤ _; exact Nat.le_of_eq rfl) (by decide)
  refine own_go st1z ?_
  show own_G p e below (T1z.setTop (mkF m 4 #[.val (.ref a)] [])) _
  exact own_retV X1z hx Bd.returns (hb hby d_jdk_22_method_1_code_4) hlk (Nat.le_of_ble_eq_true rfl) (Nat.le_of_ble_eq_true rfl) (by show Q_own_abc Z a h0 _ T1z.heap _; rw [e1z]; exact ⟨rfl, N0, rfl⟩)
theorem ef_own_abl (m : MethodId) (x0 : Addr) : entryFrame m #[(.ref x0)] 1 = mkF m 0 #[.val (.ref x0)] [] := by first | (simp [entryFrame, mkF, argsToLocals, Value.category]; done) | rfl
theorem pf_own_abl : plainFor own_m1 = true := plainFor_of_name (by simp [plainName, overriddenIn])
theorem pd_193421996 : parseMethodDescriptor "()V" = some ⟨[], none⟩ := by decide +kernel
theorem d_jdk_39_method_1_code_0 : decode jdk_39_method_1_code 0 = .ok (.aload_n 0, 1) := by decide +kernel
theorem d_jdk_39_method_1_code_1 : decode jdk_39_method_1_code 1 = .ok (.invokespecial 1, 3) := by decide +kernel
theorem d_jdk_39_method_1_code_4 : decode jdk_39_method_1_code 4 = .ok (.aload_n 0, 1) := by decide +kernel
theorem d_jdk_39_method_1_code_5 : decode jdk_39_method_1_code 5 = .ok (.iconst 0, 1) := by decide +kernel
theorem d_jdk_39_method_1_code_6 : decode jdk_39_method_1_code 6 = .ok (.putfield 7, 3) := by decide +kernel
theorem d_jdk_39_method_1_code_9 : decode jdk_39_method_1_code 9 = .ok (.return_, 1) := by decide +kernel
def Q_own_abl (Z : State) (a : Addr) (h0 : Heap) (v : Option Value) (h : Heap) (L : List Loc) : Prop := v = none ∧ Fr Z.heap.size L ∧ Keep h0 h [a] ∧ (Exa Z h a own_s1) ∧ (Fld Z h a own_s7 "modCount" "I" (.int (0 : Int32))) ∧ (Fld Z h a own_s1 "elementData" own_s3 .null) ∧ (Fld Z h a own_s1 "size" "I" (.int (0 : Int32)))
set_option maxRecDepth 65536 in
set_option maxHeartbeats 40000000 in
theorem own_abl (l : Launch) (Z : State) (a0 : Array Value) (hw : ∀ d ∈ tables_1, d.before a0 Z = true) (ws : List Jvm.Cond) (a : Addr) (h0 : Heap) (O0 : Ext Z.heap h0) (q0 : Exa Z h0 a own_s1) (q1 : Z.heap.size ≤ a) (q2 : Fld Z h0 a own_s7 "modCount" "I" (.int (0 : Int32))) (q3 : Fld Z h0 a own_s1 "elementData" own_s3 .null) (q4 : Fld Z h0 a own_s1 "size" "I" (.int (0 : Int32))) :
    MetFree l own_m1 (head1 (Jvm.Cond.code own_m1 jdk_39_method_1_code 1 none :: ws) ({ frames := 2, cells := 0, slots := 0, locals := 24 } : Room)) (fun aa U => aa = #[(.ref a)] ∧ Z.Warmed39 U.vm ∧ U.heap = h0) (fun _ _ _ _ _ => True) (fun _ U o U' => ∃ v L, o = .returned v ∧ Q_own_abl Z a h0 v U'.heap L ∧ FrameEnd U o U' L ({ frames := 2, cells := 0, slots := 0, locals := 24 } : Room).cells ({ frames := 2, cells := 0, slots := 0, locals := 24 } : Room).slots) := by
  refine MetFree.of_bodySF pf_own_abl hisR ?_
  intro p e s m args below meth c s₁ Bd hml0 hP hK
  obtain ⟨rfl, hZ, hh⟩ := hP
  have hx := Bd.exec
  have hby := Bd.bytes
  have hlk := BodyLoose.notSynchronized Bd
  have hml : c.maxLocals = 1 := hml0
  have hown : s.vm.findClass own_s7 = some m.cls := findClass_of_methodNamed Bd.named
  have hnm := (name_of_methodNamed Bd.named Bd.method).1
  have X0 : Stand p l e ({ frames := 2, cells := 0, slots := 0, locals := 24 } : Room) s m #[(.ref a)] below meth c s₁ [] 0 0 := Stand.of_body Bd
  have e0 : s₁.heap = h0 := by rw [← hh, Bd.state]; rfl
  have N0 := Fr.nil Z.heap.size
  have K0 : Keep h0 h0 [a] := Keep.refl _ _
  refine own_start (Q := Q_own_abl Z a h0) (ef_own_abl m (a)) ?_
  show own_G p e below (s₁.setTop (mkF m 0 #[.val (.ref a)] [])) _
  refine own_go (fun t k => XS.aloadN X0.here hx rfl (hb hby d_jdk_39_method_1_code_0) rfl rfl k) ?_
  obtain ⟨_, _, ⟨T1z, L1z, k1z, n1z⟩, -, X1z, ⟨Lc1z, hQ1z, l1z, y1z, z1z⟩, st1z⟩ := X0.specialBack hx (y := own_m0) rfl hown (own_mw hZ hw 16 rfl) (own_mw hZ hw 17 rfl) (own_mw hZ hw 21 rfl) (by decide) (backOf (W := 0) (own_abc l Z a0 hw [] a h0 O0) hZ (own_hw hw 21 rfl) (own_hw hw 20 rfl) (by decide) (by decide)) (g := (mkF m 1 #[.val (.ref a)] [(.ref a)])) rfl (by rw [hml]; rfl) (Steps.refl _) (a := a) (argsL := []) (rest := []) (lenOf pd_193421996 rfl) rfl (by show 2 * 0 + _ ≤ _; exact Nat.le_of_eq rfl) (hb hby d_jdk_39_method_1_code_1) (fun _ _ => ⟨rfl, e0, (by decide : 0 + 0 ≤ _), (by decide : 0 + 0 ≤ _)⟩)
  dsimp only [Pt.U, Pt.locs, Pt.cells, Pt.slots] at X1z l1z y1z z1z st1z hQ1z
  subst l1z y1z z1z
  obtain ⟨rfl, NQ1z, K1zq⟩ := hQ1z
  refine own_tr st1z ?_
  have N1z := Fr.app N0 NQ1z
  show own_G p e below (T1z.setTop (mkF m 4 #[.val (.ref a)] [])) _
  refine own_go (fun t k => XS.aloadN X1z.here hx rfl (hb hby d_jdk_39_method_1_code_4) rfl rfl k) ?_
  refine own_go (fun t k => XS.iconst X1z.here hx rfl (hb hby d_jdk_39_method_1_code_5) k) ?_
  obtain ⟨T2z, h2z, X2z, e2z, W2z, st2z⟩ := putF X1z hx hZ hown (host := "") (Or.inl (own_hw hw 25 rfl)) Via.refl K1zq q2 q0 (Or.inl (own_hw hw 26 rfl)) (own_hw hw 5 rfl) (ty := .int) (by decide) rfl rfl (g := (mkF m 6 #[.val (.ref a)] [(.int (0 : Int32)), (.ref a)])) rfl rfl (hb hby d_jdk_39_method_1_code_6)
  refine own_go st2z ?_
  have N2z := Fr.snoc X2z N1z q1
  have F2z : Fld Z h2z a own_s7 "modCount" "I" (.int (0 : Int32)) := q2.same W2z
  have O3z := own_ext_wr O0 W2z q1
  have K3z := K0.wr W2z (Or.inl (List.mem_of_getElem? (i := 0) rfl))
  have f4z := (q3.other W2z (Or.inr (slot_ne (Or.inl (own_hw hw 29 rfl)) (Or.inl (own_hw hw 26 rfl)) (by decide) (t := (.array (.object own_s2))) (t' := .int) (by decide) (by decide))))
  have f5z := (q4.other W2z (Or.inr (slot_ne (Or.inl (own_hw hw 96 rfl)) (Or.inl (own_hw hw 26 rfl)) (by decide) (t := .int) (t' := .int) (by decide) (by decide))))
  exact own_retV X2z hx Bd.returns (hb hby d_jdk_39_method_1_code_9) hlk (Nat.le_of_ble_eq_true rfl) (Nat.le_of_ble_eq_true rfl) (by show Q_own_abl Z a h0 _ T2z.heap _; rw [e2z]; exact ⟨rfl, N2z, K3z, (q0.wr W2z), F2z, f4z, f5z⟩)
theorem ef_own_ali (m : MethodId) (x0 : Addr) : entryFrame m #[(.ref x0)] 1 = mkF m 0 #[.val (.ref x0)] [] := by first | (simp [entryFrame, mkF, argsToLocals, Value.category]; done) | rfl
theorem pf_own_ali : plainFor own_m2 = true := plainFor_of_name (by simp [plainName, overriddenIn])
theorem d_jdk_38_method_2_code_0 : decode jdk_38_method_2_code 0 = .ok (.aload_n 0, 1) := by decide +kernel
theorem d_jdk_38_method_2_code_1 : decode jdk_38_method_2_code 1 = .ok (.invokespecial 1, 3) := by decide +kernel
theorem d_jdk_38_method_2_code_11 : decode jdk_38_method_2_code 11 = .ok (.return_, 1) := by decide +kernel
theorem d_jdk_38_method_2_code_4 : decode jdk_38_method_2_code 4 = .ok (.aload_n 0, 1) := by decide +kernel
theorem d_jdk_38_method_2_code_5 : decode jdk_38_method_2_code 5 = .ok (.getstatic 39, 3) := by decide +kernel
theorem d_jdk_38_method_2_code_8 : decode jdk_38_method_2_code 8 = .ok (.putfield 9, 3) := by decide +kernel
def Q_own_ali (Z : State) (a : Addr) (dE : Addr) (h0 : Heap) (v : Option Value) (h : Heap) (L : List Loc) : Prop := v = none ∧ Fr Z.heap.size L ∧ Keep h0 h [a] ∧ (Exa Z h a own_s1) ∧ (Fld Z h a own_s7 "modCount" "I" (.int (0 : Int32))) ∧ (Fld Z h a own_s1 "elementData" own_s3 (.ref dE)) ∧ (Fld Z h a own_s1 "size" "I" (.int (0 : Int32)))
set_option maxRecDepth 65536 in
set_option maxHeartbeats 40000000 in
theorem own_ali (l : Launch) (Z : State) (a0 : Array Value) (hw : ∀ d ∈ tables_1, d.before a0 Z = true) (ws : List Jvm.Cond) (a : Addr) (dE : Addr) (h0 : Heap) (O0 : Ext Z.heap h0) (S_D : Sta Z Z.heap own_s1 own_s19 own_s3 (.ref dE)) (q1 : Exa Z h0 a own_s1) (q2 : Z.heap.size ≤ a) (q3 : Fld Z h0 a own_s7 "modCount" "I" (.int (0 : Int32))) (q4 : Fld Z h0 a own_s1 "elementData" own_s3 .null) (q5 : Fld Z h0 a own_s1 "size" "I" (.int (0 : Int32))) :
    MetFree l own_m2 (head1 (Jvm.Cond.code own_m2 jdk_38_method_2_code 1 none :: ws) ({ frames := 3, cells := 0, slots := 0, locals := 36 } : Room)) (fun aa U => aa = #[(.ref a)] ∧ Z.Warmed39 U.vm ∧ U.heap = h0) (fun _ _ _ _ _ => True) (fun _ U o U' => ∃ v L, o = .returned v ∧ Q_own_ali Z a dE h0 v U'.heap L ∧ FrameEnd U o U' L ({ frames := 3, cells := 0, slots := 0, locals := 36 } : Room).cells ({ frames := 3, cells := 0, slots := 0, locals := 36 } : Room).slots) := by
  refine MetFree.of_bodySF pf_own_ali hisR ?_
  intro p e s m args below meth c s₁ Bd hml0 hP hK
  obtain ⟨rfl, hZ, hh⟩ := hP
  have hx := Bd.exec
  have hby := Bd.bytes
  have hlk := BodyLoose.notSynchronized Bd
  have hml : c.maxLocals = 1 := hml0
  have hown : s.vm.findClass own_s1 = some m.cls := findClass_of_methodNamed Bd.named
  have hnm := (name_of_methodNamed Bd.named Bd.method).1
  have X0 : Stand p l e ({ frames := 3, cells := 0, slots := 0, locals := 36 } : Room) s m #[(.ref a)] below meth c s₁ [] 0 0 := Stand.of_body Bd
  have e0 : s₁.heap = h0 := by rw [← hh, Bd.state]; rfl
  have N0 := Fr.nil Z.heap.size
  have K0 : Keep h0 h0 [a] := Keep.refl _ _
  refine own_start (Q := Q_own_ali Z a dE h0) (ef_own_ali m (a)) ?_
  show own_G p e below (s₁.setTop (mkF m 0 #[.val (.ref a)] [])) _
  refine own_go (fun t k => XS.aloadN X0.here hx rfl (hb hby d_jdk_38_method_2_code_0) rfl rfl k) ?_
  obtain ⟨_, _, ⟨T1z, L1z, k1z, n1z⟩, -, X1z, ⟨Lc1z, hQ1z, l1z, y1z, z1z⟩, st1z⟩ := X0.specialBack hx (y := own_m1) rfl hown (own_mw hZ hw 10 rfl) (own_mw hZ hw 11 rfl) (own_mw hZ hw 15 rfl) (by decide) (backOf (W := 0) (own_abl l Z a0 hw [] a h0 O0 q1 q2 q3 q4 q5) hZ (own_hw hw 15 rfl) (own_hw hw 14 rfl) (by decide) (by decide)) (g := (mkF m 1 #[.val (.ref a)] [(.ref a)])) rfl (by rw [hml]; rfl) (Steps.refl _) (a := a) (argsL := []) (rest := []) (lenOf pd_193421996 rfl) rfl (by show 2 * 0 + _ ≤ _; exact Nat.le_of_eq rfl) (hb hby d_jdk_38_method_2_code_1) (fun _ _ => ⟨rfl, e0, (by decide : 0 + 0 ≤ _), (by decide : 0 + 0 ≤ _)⟩)
  dsimp only [Pt.U, Pt.locs, Pt.cells, Pt.slots] at X1z l1z y1z z1z st1z hQ1z
  subst l1z y1z z1z
  obtain ⟨rfl, NQ1z, K1zq, r1z_0, r1z_1, r1z_2, r1z_3⟩ := hQ1z
  refine own_tr st1z ?_
  have N1z := Fr.app N0 NQ1z
  have O2z := own_ext_keep O0 K1zq (allS q2 all0)
  have K2z := K0.trans K1zq (allS (Or.inl (List.mem_of_getElem? (i := 0) rfl)) all0)
  show own_G p e below (T1z.setTop (mkF m 4 #[.val (.ref a)] [])) _
  refine own_go (fun t k => XS.aloadN X1z.here hx rfl (hb hby d_jdk_38_method_2_code_4) rfl rfl k) ?_
  obtain ⟨T3z, X3z, e3z, st3z⟩ := getS2 X1z hx hZ hown (host := "") (Or.inl (own_hw hw 27 rfl)) Via.refl rfl (S_D.ext O2z) (g := (mkF m 5 #[.val (.ref a)] [(.ref a)])) rfl (hb hby d_jdk_38_method_2_code_5)
  refine own_go st3z ?_
  obtain ⟨T4z, h4z, X4z, e4z, W4z, st4z⟩ := putF X3z hx hZ hown (host := "") (Or.inl (own_hw hw 28 rfl)) Via.refl e3z r1z_2 r1z_0 (Or.inl (own_hw hw 29 rfl)) (own_hw hw 5 rfl) (ty := (.array (.object own_s2))) (by decide) rfl rfl (g := (mkF m 8 #[.val (.ref a)] [(.ref dE), (.ref a)])) rfl rfl (hb hby d_jdk_38_method_2_code_8)
  refine own_go st4z ?_
  have N4z := Fr.snoc X4z N1z q2
  have F4z : Fld Z h4z a own_s1 "elementData" own_s3 (.ref dE) := r1z_2.same W4z
  have O5z := own_ext_wr O2z W4z q2
  have K5z := K2z.wr W4z (Or.inl (List.mem_of_getElem? (i := 0) rfl))
  have f6z := (r1z_1.other W4z (Or.inr (slot_ne (Or.inl (own_hw hw 26 rfl)) (Or.inl (own_hw hw 29 rfl)) (by decide) (t := .int) (t' := (.array (.object own_s2))) (by decide) (by decide))))
  have f7z := (r1z_3.other W4z (Or.inr (slot_ne (Or.inl (own_hw hw 96 rfl)) (Or.inl (own_hw hw 29 rfl)) (by decide) (t := .int) (t' := (.array (.object own_s2))) (by decide) (by decide))))
  exact own_retV X4z hx Bd.returns (hb hby d_jdk_38_method_2_code_11) hlk (Nat.le_of_ble_eq_true rfl) (Nat.le_of_ble_eq_true rfl) (by show Q_own_ali Z a dE h0 _ T4z.heap _; rw [e4z]; exact ⟨rfl, N4z, K5z, (r1z_0.wr W4z), f6z, F4z, f7z⟩)
theorem ef_own_max101 (m : MethodId) (x0 : Int32) (x1 : Int32) : entryFrame m #[(.int x0), (.int x1)] 2 = mkF m 0 #[.val (.int x0), .val (.int x1)] [] := by first | (simp [entryFrame, mkF, argsToLocals, Value.category]; done) | rfl
theorem pf_own_max101 : plainFor own_m3 = true := by decide +kernel
theorem d_jdk_29_method_65_code_0 : decode jdk_29_method_65_code 0 = .ok (.iload_n 0, 1) := by decide +kernel
theorem d_jdk_29_method_65_code_1 : decode jdk_29_method_65_code 1 = .ok (.iload_n 1, 1) := by decide +kernel
theorem d_jdk_29_method_65_code_10 : decode jdk_29_method_65_code 10 = .ok (.ireturn, 1) := by decide +kernel
theorem d_jdk_29_method_65_code_2 : decode jdk_29_method_65_code 2 = .ok (.if_icmp .lt 7, 3) := by decide +kernel
theorem d_jdk_29_method_65_code_5 : decode jdk_29_method_65_code 5 = .ok (.iload_n 0, 1) := by decide +kernel
theorem d_jdk_29_method_65_code_6 : decode jdk_29_method_65_code 6 = .ok (.goto 4, 3) := by decide +kernel
def Q_own_max101 (Z : State) (h0 : Heap) (v : Option Value) (h : Heap) (L : List Loc) : Prop := v = some (.int (10 : Int32)) ∧ Fr Z.heap.size L ∧ h = h0
set_option maxRecDepth 65536 in
set_option maxHeartbeats 40000000 in
theorem own_max101 (l : Launch) (Z : State) (a0 : Array Value) (hw : ∀ d ∈ tables_1, d.before a0 Z = true) (ws : List Jvm.Cond) (h0 : Heap) (O0 : Ext Z.heap h0) :
    MetFree l own_m3 (head1 (Jvm.Cond.code own_m3 jdk_29_method_65_code 2 (some .int) :: ws) ({ frames := 0, cells := 0, slots := 0, locals := 0 } : Room)) (fun aa U => aa = #[(.int (10 : Int32)), (.int (1 : Int32))] ∧ Z.Warmed39 U.vm ∧ U.heap = h0) (fun _ _ _ _ _ => True) (fun _ U o U' => ∃ v L, o = .returned v ∧ Q_own_max101 Z h0 v U'.heap L ∧ FrameEnd U o U' L ({ frames := 0, cells := 0, slots := 0, locals := 0 } : Room).cells ({ frames := 0, cells := 0, slots := 0, locals := 0 } : Room).slots) := by
  refine MetFree.of_bodySF pf_own_max101 hisR ?_
  intro p e s m args below meth c s₁ Bd hml0 hP hK
  obtain ⟨rfl, hZ, hh⟩ := hP
  have hx := Bd.exec
  have hby := Bd.bytes
  have hlk := BodyLoose.notSynchronized Bd
  have hml : c.maxLocals = 2 := hml0
  have hown : s.vm.findClass "java/lang/Math" = some m.cls := findClass_of_methodNamed Bd.named
  have hnm := (name_of_methodNamed Bd.named Bd.method).1
  have X0 : Stand p l e ({ frames := 0, cells := 0, slots := 0, locals := 0 } : Room) s m #[(.int (10 : Int32)), (.int (1 : Int32))] below meth c s₁ [] 0 0 := Stand.of_body Bd
  have e0 : s₁.heap = h0 := by rw [← hh, Bd.state]; rfl
  have N0 := Fr.nil Z.heap.size
  have K0 : Keep h0 h0 [] := Keep.refl _ _
  refine own_start (Q := Q_own_max101 Z h0) (ef_own_max101 m ((10 : Int32)) ((1 : Int32))) ?_
  show own_G p e below (s₁.setTop (mkF m 0 #[.val (.int (10 : Int32)), .val (.int (1 : Int32))] [])) _
  refine own_go (fun t k => XS.iloadN X0.here hx rfl (hb hby d_jdk_29_method_65_code_0) rfl k) ?_
  refine own_go (fun t k => XS.iloadN X0.here hx rfl (hb hby d_jdk_29_method_65_code_1) rfl k) ?_
  refine own_go (fun t k => XS.icmpNo X0.here hx rfl (hb hby d_jdk_29_method_65_code_2) rfl (flt (by decide : ¬ ((10 : Int32) < (1 : Int32)))).1 k) ?_
  show own_G p e below (s₁.setTop (mkF m 5 #[.val (.int (10 : Int32)), .val (.int (1 : Int32))] [])) _
  refine own_go (fun t k => XS.iloadN X0.here hx rfl (hb hby d_jdk_29_method_65_code_5) rfl k) ?_
  refine own_go (fun t k => XS.goto X0.here hx rfl (pc0 := 6) (pc' := 10) rfl (hb hby d_jdk_29_method_65_code_6) (by decide) (by decide) k) ?_
  show own_G p e below (s₁.setTop (mkF m 10 #[.val (.int (10 : Int32)), .val (.int (1 : Int32))] [(.int (10 : Int32))])) _
  exact own_ret X0 hx Bd.returns rfl (Or.inl ⟨rfl, Or.inl rfl, _, rfl⟩) (hb hby d_jdk_29_method_65_code_10) hlk (Nat.le_of_ble_eq_true rfl) (Nat.le_of_ble_eq_true rfl) (by show Q_own_max101 Z h0 _ s₁.heap _; rw [e0]; exact ⟨rfl, N0, rfl⟩)
theorem ef_own_grow1 (m : MethodId) (x0 : Addr) (x1 : Int32) : entryFrame m #[(.ref x0), (.int x1)] 4 = mkF m 0 #[.val (.ref x0), .val (.int x1), .unset, .unset] [] := by first | (simp [entryFrame, mkF, argsToLocals, Value.category]; done) | rfl
theorem pf_own_grow1 : plainFor own_m4 = true := plainFor_of_name (by simp [plainName, overriddenIn])
theorem pd_184293393 : parseMethodDescriptor "(II)I" = some ⟨[.int, .int], some .int⟩ := by decide +kernel
theorem d_jdk_38_method_6_code_0 : decode jdk_38_method_6_code 0 = .ok (.aload_n 0, 1) := by decide +kernel
theorem d_jdk_38_method_6_code_1 : decode jdk_38_method_6_code 1 = .ok (.getfield 9, 3) := by decide +kernel
theorem d_jdk_38_method_6_code_10 : decode jdk_38_method_6_code 10 = .ok (.aload_n 0, 1) := by decide +kernel
theorem d_jdk_38_method_6_code_11 : decode jdk_38_method_6_code 11 = .ok (.getfield 9, 3) := by decide +kernel
theorem d_jdk_38_method_6_code_14 : decode jdk_38_method_6_code 14 = .ok (.getstatic 39, 3) := by decide +kernel
theorem d_jdk_38_method_6_code_17 : decode jdk_38_method_6_code 17 = .ok (.if_acmp .eq 28, 3) := by decide +kernel
theorem d_jdk_38_method_6_code_4 : decode jdk_38_method_6_code 4 = .ok (.arraylength, 1) := by decide +kernel
theorem d_jdk_38_method_6_code_45 : decode jdk_38_method_6_code 45 = .ok (.aload_n 0, 1) := by decide +kernel
theorem d_jdk_38_method_6_code_46 : decode jdk_38_method_6_code 46 = .ok (.bipush 10, 2) := by decide +kernel
theorem d_jdk_38_method_6_code_48 : decode jdk_38_method_6_code 48 = .ok (.iload_n 1, 1) := by decide +kernel
theorem d_jdk_38_method_6_code_49 : decode jdk_38_method_6_code 49 = .ok (.invokestatic 79, 3) := by decide +kernel
theorem d_jdk_38_method_6_code_5 : decode jdk_38_method_6_code 5 = .ok (.istore_n 2, 1) := by decide +kernel
theorem d_jdk_38_method_6_code_52 : decode jdk_38_method_6_code 52 = .ok (.anewarray 7, 3) := by decide +kernel
theorem d_jdk_38_method_6_code_55 : decode jdk_38_method_6_code 55 = .ok (.dup_x1, 1) := by decide +kernel
theorem d_jdk_38_method_6_code_56 : decode jdk_38_method_6_code 56 = .ok (.putfield 9, 3) := by decide +kernel
theorem d_jdk_38_method_6_code_59 : decode jdk_38_method_6_code 59 = .ok (.areturn, 1) := by decide +kernel
theorem d_jdk_38_method_6_code_6 : decode jdk_38_method_6_code 6 = .ok (.iload_n 2, 1) := by decide +kernel
theorem d_jdk_38_method_6_code_7 : decode jdk_38_method_6_code 7 = .ok (.ifCond .gt 13, 3) := by decide +kernel
def Q_own_grow1 (Z : State) (a : Addr) (mc : Int32) (dE : Addr) (kd : ClassId) (h0 : Heap) (v : Option Value) (h : Heap) (L : List Loc) : Prop := ∃ arr : Addr, ∃ kk : ClassId, v = some (.ref arr) ∧ Fr Z.heap.size L ∧ Keep h0 h [a] ∧ (Exa Z h a own_s1) ∧ (Z.heap.size ≤ arr) ∧ (h0.size ≤ arr) ∧ (Ovr Z kk own_s2) ∧ (Exa Z h arr own_s3) ∧ (own_A Z h arr kk (.object own_s2) [.null, .null, .null, .null, .null, .null, .null, .null, .null, .null]) ∧ (Fld Z h a own_s7 "modCount" "I" (.int mc)) ∧ (Fld Z h a own_s1 "elementData" own_s3 (.ref arr)) ∧ (Fld Z h a own_s1 "size" "I" (.int (0 : Int32)))
set_option maxRecDepth 65536 in
set_option maxHeartbeats 40000000 in
theorem own_grow1 (l : Launch) (Z : State) (a0 : Array Value) (hw : ∀ d ∈ tables_1, d.before a0 Z = true) (ws : List Jvm.Cond) (a : Addr) (mc : Int32) (dE : Addr) (kd : ClassId) (h0 : Heap) (O0 : Ext Z.heap h0) (S_D : Sta Z Z.heap own_s1 own_s19 own_s3 (.ref dE)) (BD : own_A Z Z.heap dE kd (.object own_s2) []) (q2 : Exa Z h0 a own_s1) (q3 : Z.heap.size ≤ a) (q4 : Fld Z h0 a own_s7 "modCount" "I" (.int mc)) (q5 : Fld Z h0 a own_s1 "elementData" own_s3 (.ref dE)) (q6 : Fld Z h0 a own_s1 "size" "I" (.int (0 : Int32))) :
    MetFree l own_m4 (head1 (Jvm.Cond.code own_m4 jdk_38_method_6_code 4 (some (.array (.object own_s2))) :: ws) ({ frames := 1, cells := 1, slots := 10, locals := 15 } : Room)) (fun aa U => aa = #[(.ref a), (.int (1 : Int32))] ∧ Z.Warmed39 U.vm ∧ U.heap = h0) (fun _ _ _ _ _ => True) (fun _ U o U' => ∃ v L, o = .returned v ∧ Q_own_grow1 Z a mc dE kd h0 v U'.heap L ∧ FrameEnd U o U' L ({ frames := 1, cells := 1, slots := 10, locals := 15 } : Room).cells ({ frames := 1, cells := 1, slots := 10, locals := 15 } : Room).slots) := by
  refine MetFree.of_bodySF pf_own_grow1 hisR ?_
  intro p e s m args below meth c s₁ Bd hml0 hP hK
  obtain ⟨rfl, hZ, hh⟩ := hP
  have hx := Bd.exec
  have hby := Bd.bytes
  have hlk := BodyLoose.notSynchronized Bd
  have hml : c.maxLocals = 4 := hml0
  have hown : s.vm.findClass own_s1 = some m.cls := findClass_of_methodNamed Bd.named
  have hnm := (name_of_methodNamed Bd.named Bd.method).1
  have X0 : Stand p l e ({ frames := 1, cells := 1, slots := 10, locals := 15 } : Room) s m #[(.ref a), (.int (1 : Int32))] below meth c s₁ [] 0 0 := Stand.of_body Bd
  have e0 : s₁.heap = h0 := by rw [← hh, Bd.state]; rfl
  have N0 := Fr.nil Z.heap.size
  have K0 : Keep h0 h0 [a] := Keep.refl _ _
  refine own_start (Q := Q_own_grow1 Z a mc dE kd h0) (ef_own_grow1 m (a) ((1 : Int32))) ?_
  show own_G p e below (s₁.setTop (mkF m 0 #[.val (.ref a), .val (.int (1 : Int32)), .unset, .unset] [])) _
  refine own_go (fun t k => XS.aloadN X0.here hx rfl (hb hby d_jdk_38_method_6_code_0) rfl rfl k) ?_
  obtain ⟨T1z, X1z, e1z, st1z⟩ := getF X0 hx hZ hown (host := "") (Or.inl (own_hw hw 28 rfl)) Via.refl e0 q5 (g := (mkF m 1 #[.val (.ref a), .val (.int (1 : Int32)), .unset, .unset] [(.ref a)])) rfl rfl (hb hby d_jdk_38_method_6_code_1)
  refine own_go st1z ?_
  refine own_go (own_len X1z hx hZ e1z (BD.ext O0) (z := (0 : Int32)) (by show (0 : Int32).toInt = ((0 : Nat) : Int); decide) (g := (mkF m 4 #[.val (.ref a), .val (.int (1 : Int32)), .unset, .unset] [(.ref dE)])) rfl rfl (hb hby d_jdk_38_method_6_code_4)) ?_
  refine own_go (fun t k => XS.istoreN X1z.here hx rfl (hb hby d_jdk_38_method_6_code_5) rfl (l' := #[.val (.ref a), .val (.int (1 : Int32)), .val (.int (0 : Int32)), .unset]) rfl k) ?_
  refine own_go (fun t k => XS.iloadN X1z.here hx rfl (hb hby d_jdk_38_method_6_code_6) rfl k) ?_
  refine own_go (fun t k => XS.ifNo X1z.here hx rfl (hb hby d_jdk_38_method_6_code_7) rfl ((if0 _ _).trans (flt (by decide : ¬ ((0 : Int32) < (0 : Int32)))).2.2.1) k) ?_
  show own_G p e below (T1z.setTop (mkF m 10 #[.val (.ref a), .val (.int (1 : Int32)), .val (.int (0 : Int32)), .unset] [])) _
  refine own_go (fun t k => XS.aloadN X1z.here hx rfl (hb hby d_jdk_38_method_6_code_10) rfl rfl k) ?_
  obtain ⟨T2z, X2z, e2z, st2z⟩ := getF X1z hx hZ hown (host := "") (Or.inl (own_hw hw 28 rfl)) Via.refl e1z q5 (g := (mkF m 11 #[.val (.ref a), .val (.int (1 : Int32)), .val (.int (0 : Int32)), .unset] [(.ref a)])) rfl rfl (hb hby d_jdk_38_method_6_code_11)
  refine own_go st2z ?_
  obtain ⟨T3z, X3z, e3z, st3z⟩ := getS2 X2z hx hZ hown (host := "") (Or.inl (own_hw hw 27 rfl)) Via.refl e2z (S_D.ext O0) (g := (mkF m 14 #[.val (.ref a), .val (.int (1 : Int32)), .val (.int (0 : Int32)), .unset] [(.ref dE)])) rfl (hb hby d_jdk_38_method_6_code_14)
  refine own_go st3z ?_
  refine own_go (fun t k => Jvm.RoadKit.acmp (g := (mkF m 17 #[.val (.ref a), .val (.int (1 : Int32)), .val (.int (0 : Int32)), .unset] [(.ref dE), (.ref dE)])) X3z hx rfl rfl rfl (pc0 := 17) (pc' := 45) (same := true) rfl (hb hby d_jdk_38_method_6_code_17) rfl (decide_eq_true (congrArg Value.ref rfl)) (by decide) (by decide) k) ?_
  show own_G p e below (T3z.setTop (mkF m 45 #[.val (.ref a), .val (.int (1 : Int32)), .val (.int (0 : Int32)), .unset] [])) _
  refine own_go (fun t k => XS.aloadN X3z.here hx rfl (hb hby d_jdk_38_method_6_code_45) rfl rfl k) ?_
  refine own_go (fun t k => XS.bipush X3z.here hx rfl (hb hby d_jdk_38_method_6_code_46) k) ?_
  refine own_go (fun t k => XS.iloadN X3z.here hx rfl (hb hby d_jdk_38_method_6_code_48) rfl k) ?_
  obtain ⟨_, _, ⟨T4z, L4z, k4z, n4z⟩, -, X4z, ⟨Lc4z, hQ4z, l4z, y4z, z4z⟩, st4z⟩ := Jvm.LawKit.callS X3z hx (y := own_m3) hown (own_mw hZ hw 148 rfl) (own_mw hZ hw 149 rfl) (own_mw hZ hw 150 rfl) (own_mw hZ hw 151 rfl) (by decide) (backOf (W := 1) (own_max101 l Z a0 hw [] h0 O0) hZ (own_hw hw 151 rfl) (own_hw hw 150 rfl) (by decide) (by decide)) (g := (mkF m 49 #[.val (.ref a), .val (.int (1 : Int32)), .val (.int (0 : Int32)), .unset] [(.int (1 : Int32)), (.int (10 : Int32)), (.ref a)])) rfl (by rw [hml]; rfl) (argsL := [(.int (10 : Int32)), (.int (1 : Int32))]) (rest := [(.ref a)]) (lenOf pd_184293393 rfl) rfl (by show 2 * 0 + _ ≤ _; exact Nat.le_of_eq rfl) (hb hby d_jdk_38_method_6_code_49) (fun _ _ => ⟨rfl, e3z, (by decide : 0 + 0 ≤ _), (by decide : 0 + 0 ≤ _)⟩)
  dsimp only [Pt.U, Pt.locs, Pt.cells, Pt.slots] at X4z l4z y4z z4z st4z hQ4z
  subst l4z y4z z4z
  obtain ⟨rfl, NQ4z, K4zq⟩ := hQ4z
  refine own_go st4z ?_
  have N4z := Fr.app N0 NQ4z
  show own_G p e below (T4z.setTop (mkF m 52 #[.val (.ref a), .val (.int (1 : Int32)), .val (.int (0 : Int32)), .unset] [(.int (10 : Int32)), (.ref a)])) _
  obtain ⟨T5z, h5z, kc5z, X5z, e5z, E5z, V5z, EX5z, O5z_, st5z⟩ := own_newRE X4z hx hZ hown (own_hw hw 152 rfl) (own_hw hw 153 rfl) K4zq (g := (mkF m 52 #[.val (.ref a), .val (.int (1 : Int32)), .val (.int (0 : Int32)), .unset] [(.int (10 : Int32)), (.ref a)])) rfl (hb hby d_jdk_38_method_6_code_52) rfl (i := 10) (by decide) (cap := 10) (by decide) (by decide) (by decide) (by decide) (ad := own_s3) (by decide)
  obtain ⟨b5z, g5z⟩ : ∃ z, z = h0.size := ⟨_, rfl⟩
  rw [← g5z] at V5z st5z EX5z
  have fr_b5z : Z.heap.size ≤ b5z := g5z ▸ O0.1
  have lz_b5z : h0.size ≤ b5z := g5z ▸ K0.1
  have ne_a_b5z : a ≠ b5z := Nat.ne_of_lt (g5z ▸ q2.lt)
  have O6z := own_ext_trans O0 E5z
  have K6z := K0.ext E5z
  have V5z : own_A Z h5z b5z kc5z (.object own_s2) [.null, .null, .null, .null, .null, .null, .null, .null, .null, .null] := V5z
  refine own_go st5z ?_
  refine own_go (fun t k => XS.dupX1 X5z.here hx rfl (hb hby d_jdk_38_method_6_code_55) rfl rfl rfl k) ?_
  obtain ⟨T7z, h7z, X7z, e7z, W7z, st7z⟩ := putF X5z hx hZ hown (host := "") (Or.inl (own_hw hw 28 rfl)) Via.refl e5z (q5.ext E5z) (q2.ext E5z) (Or.inl (own_hw hw 29 rfl)) (own_hw hw 5 rfl) (ty := (.array (.object own_s2))) (by decide) rfl rfl (g := (mkF m 56 #[.val (.ref a), .val (.int (1 : Int32)), .val (.int (0 : Int32)), .unset] [(.ref b5z), (.ref a), (.ref b5z)])) rfl rfl (hb hby d_jdk_38_method_6_code_56)
  refine own_go st7z ?_
  have N7z := Fr.snoc X7z N4z q3
  have F7z : Fld Z h7z a own_s1 "elementData" own_s3 (.ref b5z) := (q5.ext E5z).same W7z
  have O8z := own_ext_wr O6z W7z q3
  have K8z := K6z.wr W7z (Or.inl (List.mem_of_getElem? (i := 0) rfl))
  have f9z := ((q4.ext E5z).other W7z (Or.inr (slot_ne (Or.inl (own_hw hw 26 rfl)) (Or.inl (own_hw hw 29 rfl)) (by decide) (t := .int) (t' := (.array (.object own_s2))) (by decide) (by decide))))
  have f10z := ((q6.ext E5z).other W7z (Or.inr (slot_ne (Or.inl (own_hw hw 96 rfl)) (Or.inl (own_hw hw 29 rfl)) (by decide) (t := .int) (t' := (.array (.object own_s2))) (by decide) (by decide))))
  exact own_ret X7z hx Bd.returns rfl (Or.inr (Or.inr (Or.inr (Or.inr ⟨rfl, rfl, rfl⟩)))) (hb hby d_jdk_38_method_6_code_59) hlk (Nat.le_of_ble_eq_true rfl) (Nat.le_of_ble_eq_true rfl) (by show Q_own_grow1 Z a mc dE kd h0 _ T7z.heap _; rw [e7z]; exact ⟨b5z, kc5z, rfl, N7z, K8z, ((q2.ext E5z).wr W7z), fr_b5z, lz_b5z, O5z_, (EX5z.wr W7z), (V5z.other W7z (Ne.symm ne_a_b5z)), f9z, F7z, f10z⟩)
theorem ef_own_grow0 (m : MethodId) (x0 : Addr) : entryFrame m #[(.ref x0)] 1 = mkF m 0 #[.val (.ref x0)] [] := by first | (simp [entryFrame, mkF, argsToLocals, Value.category]; done) | rfl
theorem pf_own_grow0 : plainFor own_m5 = true := plainFor_of_name (by simp [plainName, overriddenIn])
theorem pd_591629850 : parseMethodDescriptor "(I)[Ljava/lang/Object;" = some ⟨[.int], some (.array (.object "java/lang/Object"))⟩ := by decide +kernel
theorem d_jdk_38_method_7_code_0 : decode jdk_38_method_7_code 0 = .ok (.aload_n 0, 1) := by decide +kernel
theorem d_jdk_38_method_7_code_1 : decode jdk_38_method_7_code 1 = .ok (.aload_n 0, 1) := by decide +kernel
theorem d_jdk_38_method_7_code_10 : decode jdk_38_method_7_code 10 = .ok (.areturn, 1) := by decide +kernel
theorem d_jdk_38_method_7_code_2 : decode jdk_38_method_7_code 2 = .ok (.getfield 48, 3) := by decide +kernel
theorem d_jdk_38_method_7_code_5 : decode jdk_38_method_7_code 5 = .ok (.iconst 1, 1) := by decide +kernel
theorem d_jdk_38_method_7_code_6 : decode jdk_38_method_7_code 6 = .ok (.iadd, 1) := by decide +kernel
theorem d_jdk_38_method_7_code_7 : decode jdk_38_method_7_code 7 = .ok (.invokevirtual 69, 3) := by decide +kernel
def Q_own_grow0 (Z : State) (a : Addr) (mc : Int32) (dE : Addr) (kd : ClassId) (h0 : Heap) (v : Option Value) (h : Heap) (L : List Loc) : Prop := ∃ arr : Addr, ∃ kk : ClassId, v = some (.ref arr) ∧ Fr Z.heap.size L ∧ Keep h0 h [a] ∧ (Exa Z h a own_s1) ∧ (Z.heap.size ≤ arr) ∧ (h0.size ≤ arr) ∧ (Ovr Z kk own_s2) ∧ (Exa Z h arr own_s3) ∧ (own_A Z h arr kk (.object own_s2) [.null, .null, .null, .null, .null, .null, .null, .null, .null, .null]) ∧ (Fld Z h a own_s7 "modCount" "I" (.int mc)) ∧ (Fld Z h a own_s1 "elementData" own_s3 (.ref arr)) ∧ (Fld Z h a own_s1 "size" "I" (.int (0 : Int32)))
set_option maxRecDepth 65536 in
set_option maxHeartbeats 40000000 in
theorem own_grow0 (l : Launch) (Z : State) (a0 : Array Value) (hw : ∀ d ∈ tables_1, d.before a0 Z = true) (ws : List Jvm.Cond) (a : Addr) (mc : Int32) (dE : Addr) (kd : ClassId) (h0 : Heap) (O0 : Ext Z.heap h0) (S_D : Sta Z Z.heap own_s1 own_s19 own_s3 (.ref dE)) (BD : own_A Z Z.heap dE kd (.object own_s2) []) (q2 : Exa Z h0 a own_s1) (q3 : Z.heap.size ≤ a) (q4 : Fld Z h0 a own_s7 "modCount" "I" (.int mc)) (q5 : Fld Z h0 a own_s1 "elementData" own_s3 (.ref dE)) (q6 : Fld Z h0 a own_s1 "size" "I" (.int (0 : Int32))) :
    MetFree l own_m5 (head1 (Jvm.Cond.code own_m5 jdk_38_method_7_code 1 (some (.array (.object own_s2))) :: ws) ({ frames := 2, cells := 1, slots := 10, locals := 30 } : Room)) (fun aa U => aa = #[(.ref a)] ∧ Z.Warmed39 U.vm ∧ U.heap = h0) (fun _ _ _ _ _ => True) (fun _ U o U' => ∃ v L, o = .returned v ∧ Q_own_grow0 Z a mc dE kd h0 v U'.heap L ∧ FrameEnd U o U' L ({ frames := 2, cells := 1, slots := 10, locals := 30 } : Room).cells ({ frames := 2, cells := 1, slots := 10, locals := 30 } : Room).slots) := by
  refine MetFree.of_bodySF pf_own_grow0 hisR ?_
  intro p e s m args below meth c s₁ Bd hml0 hP hK
  obtain ⟨rfl, hZ, hh⟩ := hP
  have hx := Bd.exec
  have hby := Bd.bytes
  have hlk := BodyLoose.notSynchronized Bd
  have hml : c.maxLocals = 1 := hml0
  have hown : s.vm.findClass own_s1 = some m.cls := findClass_of_methodNamed Bd.named
  have hnm := (name_of_methodNamed Bd.named Bd.method).1
  have X0 : Stand p l e ({ frames := 2, cells := 1, slots := 10, locals := 30 } : Room) s m #[(.ref a)] below meth c s₁ [] 0 0 := Stand.of_body Bd
  have e0 : s₁.heap = h0 := by rw [← hh, Bd.state]; rfl
  have N0 := Fr.nil Z.heap.size
  have K0 : Keep h0 h0 [a] := Keep.refl _ _
  refine own_start (Q := Q_own_grow0 Z a mc dE kd h0) (ef_own_grow0 m (a)) ?_
  show own_G p e below (s₁.setTop (mkF m 0 #[.val (.ref a)] [])) _
  refine own_go (fun t k => XS.aloadN X0.here hx rfl (hb hby d_jdk_38_method_7_code_0) rfl rfl k) ?_
  refine own_go (fun t k => XS.aloadN X0.here hx rfl (hb hby d_jdk_38_method_7_code_1) rfl rfl k) ?_
  obtain ⟨T1z, X1z, e1z, st1z⟩ := getF X0 hx hZ hown (host := "") (Or.inl (own_hw hw 95 rfl)) Via.refl e0 q6 (g := (mkF m 2 #[.val (.ref a)] [(.ref a), (.ref a)])) rfl rfl (hb hby d_jdk_38_method_7_code_2)
  refine own_go st1z ?_
  refine own_go (fun t k => XS.iconst X1z.here hx rfl (hb hby d_jdk_38_method_7_code_5) k) ?_
  refine own_go (fun t k => XS.iadd X1z.here hx rfl (hb hby d_jdk_38_method_7_code_6) rfl k) ?_
  obtain ⟨cq2z, qa2z, qb2z⟩ := q2.cell
  obtain ⟨_, _, ⟨T2z, L2z, k2z, n2z⟩, -, X2z, ⟨Lc2z, hQ2z, l2z, y2z, z2z⟩, st2z⟩ := X1z.privateBack hx (y := own_m4) hown (own_mw hZ hw 143 rfl) (own_mw hZ hw 144 rfl) (own_mw hZ hw 146 rfl) (Cond.privateMethod_at (mvP hZ (own_hw hw 145 rfl) (args := #[]))) (own_mw hZ hw 147 rfl) (by decide) (backOf (W := 0) (own_grow1 l Z a0 hw [] a mc dE kd h0 O0 S_D BD q2 q3 q4 q5 q6) hZ (own_hw hw 147 rfl) (own_hw hw 6 rfl) (by decide) (by decide)) (g := (mkF m 7 #[.val (.ref a)] [(.int (1 : Int32)), (.ref a)])) rfl (by rw [hml]; rfl) (Steps.refl _) (a := a) (by rw [e1z]; exact qa2z) qb2z (argsL := [(.int (1 : Int32))]) (rest := []) (lenOf pd_591629850 rfl) rfl (by show 2 * 0 + _ ≤ _; exact Nat.le_of_eq rfl) (hb hby d_jdk_38_method_7_code_7) (fun _ _ => ⟨rfl, e1z, (by decide : 0 + 1 ≤ _), (by decide : 0 + 10 ≤ _)⟩)
  dsimp only [Pt.U, Pt.locs, Pt.cells, Pt.slots] at X2z l2z y2z z2z st2z hQ2z
  subst l2z y2z z2z
  obtain ⟨arr_2z, kk_2z, rfl, NQ2z, K2zq, r2z_0, r2z_1, r2z_2, r2z_3, r2z_4, r2z_5, r2z_6, r2z_7, r2z_8⟩ := hQ2z
  refine own_tr st2z ?_
  have N2z := Fr.app N0 NQ2z
  have O3z := own_ext_keep O0 K2zq (allS q3 all0)
  have K3z := K0.trans K2zq (allS (Or.inl (List.mem_of_getElem? (i := 0) rfl)) all0)
  have lz_arr_2z : h0.size ≤ arr_2z := Nat.le_trans K0.1 r2z_2
  have ne_a_arr_2z : a ≠ arr_2z := Nat.ne_of_lt (Nat.lt_of_lt_of_le q2.lt r2z_2)
  show own_G p e below (T2z.setTop (mkF m 10 #[.val (.ref a)] [(.ref arr_2z)])) _
  exact own_ret X2z hx Bd.returns rfl (Or.inr (Or.inr (Or.inr (Or.inr ⟨rfl, rfl, rfl⟩)))) (hb hby d_jdk_38_method_7_code_10) hlk (Nat.le_of_ble_eq_true rfl) (Nat.le_of_ble_eq_true rfl) (by show Q_own_grow0 Z a mc dE kd h0 _ T2z.heap _; exact ⟨arr_2z, kk_2z, rfl, N2z, K3z, r2z_0, r2z_1, lz_arr_2z, r2z_3, r2z_4, r2z_5, r2z_6, r2z_7, r2z_8⟩)
theorem ef_own_add30F (m : MethodId) (x0 : Addr) (x1 : Addr) (x2 : Addr) (x3 : Int32) : entryFrame m #[(.ref x0), (.ref x1), (.ref x2), (.int x3)] 4 = mkF m 0 #[.val (.ref x0), .val (.ref x1), .val (.ref x2), .val (.int x3)] [] := by first | (simp [entryFrame, mkF, argsToLocals, Value.category]; done) | rfl
theorem pf_own_add30F : plainFor own_m6 = true := plainFor_of_name (by simp [plainName, overriddenIn])
theorem pd_3591787953 : parseMethodDescriptor "()[Ljava/lang/Object;" = some ⟨[], some (.array (.object "java/lang/Object"))⟩ := by decide +kernel
theorem d_jdk_38_method_24_code_0 : decode jdk_38_method_24_code 0 = .ok (.iload_n 3, 1) := by decide +kernel
theorem d_jdk_38_method_24_code_1 : decode jdk_38_method_24_code 1 = .ok (.aload_n 2, 1) := by decide +kernel
theorem d_jdk_38_method_24_code_10 : decode jdk_38_method_24_code 10 = .ok (.astore_n 2, 1) := by decide +kernel
theorem d_jdk_38_method_24_code_11 : decode jdk_38_method_24_code 11 = .ok (.aload_n 2, 1) := by decide +kernel
theorem d_jdk_38_method_24_code_12 : decode jdk_38_method_24_code 12 = .ok (.iload_n 3, 1) := by decide +kernel
theorem d_jdk_38_method_24_code_13 : decode jdk_38_method_24_code 13 = .ok (.aload_n 1, 1) := by decide +kernel
theorem d_jdk_38_method_24_code_14 : decode jdk_38_method_24_code 14 = .ok (.aastore, 1) := by decide +kernel
theorem d_jdk_38_method_24_code_15 : decode jdk_38_method_24_code 15 = .ok (.aload_n 0, 1) := by decide +kernel
theorem d_jdk_38_method_24_code_16 : decode jdk_38_method_24_code 16 = .ok (.iload_n 3, 1) := by decide +kernel
theorem d_jdk_38_method_24_code_17 : decode jdk_38_method_24_code 17 = .ok (.iconst 1, 1) := by decide +kernel
theorem d_jdk_38_method_24_code_18 : decode jdk_38_method_24_code 18 = .ok (.iadd, 1) := by decide +kernel
theorem d_jdk_38_method_24_code_19 : decode jdk_38_method_24_code 19 = .ok (.putfield 48, 3) := by decide +kernel
theorem d_jdk_38_method_24_code_2 : decode jdk_38_method_24_code 2 = .ok (.arraylength, 1) := by decide +kernel
theorem d_jdk_38_method_24_code_22 : decode jdk_38_method_24_code 22 = .ok (.return_, 1) := by decide +kernel
theorem d_jdk_38_method_24_code_3 : decode jdk_38_method_24_code 3 = .ok (.if_icmp .ne 8, 3) := by decide +kernel
theorem d_jdk_38_method_24_code_6 : decode jdk_38_method_24_code 6 = .ok (.aload_n 0, 1) := by decide +kernel
theorem d_jdk_38_method_24_code_7 : decode jdk_38_method_24_code 7 = .ok (.invokevirtual 129, 3) := by decide +kernel
def Q_own_add30F (Z : State) (a : Addr) (mc : Int32) (dE : Addr) (kd : ClassId) (x : Addr) (h0 : Heap) (v : Option Value) (h : Heap) (L : List Loc) : Prop := ∃ arr : Addr, ∃ kk : ClassId, v = none ∧ Fr Z.heap.size L ∧ Keep h0 h [a] ∧ (Exa Z h a own_s1) ∧ (Z.heap.size ≤ arr) ∧ (h0.size ≤ arr) ∧ (Ovr Z kk own_s2) ∧ (Exa Z h arr own_s3) ∧ (own_A Z h arr kk (.object own_s2) [(.ref x), .null, .null, .null, .null, .null, .null, .null, .null, .null]) ∧ (Fld Z h a own_s7 "modCount" "I" (.int mc)) ∧ (Fld Z h a own_s1 "elementData" own_s3 (.ref arr)) ∧ (Fld Z h a own_s1 "size" "I" (.int (1 : Int32)))
set_option maxRecDepth 65536 in
set_option maxHeartbeats 40000000 in
theorem own_add30F (l : Launch) (Z : State) (a0 : Array Value) (hw : ∀ d ∈ tables_1, d.before a0 Z = true) (ws : List Jvm.Cond) (a : Addr) (mc : Int32) (dE : Addr) (kd : ClassId) (x : Addr) (h0 : Heap) (O0 : Ext Z.heap h0) (S_D : Sta Z Z.heap own_s1 own_s19 own_s3 (.ref dE)) (BD : own_A Z Z.heap dE kd (.object own_s2) []) (q2 : Exa Z h0 a own_s1) (q3 : Z.heap.size ≤ a) (q4 : Fld Z h0 a own_s7 "modCount" "I" (.int mc)) (q5 : Fld Z h0 a own_s1 "elementData" own_s3 (.ref dE)) (q6 : Fld Z h0 a own_s1 "size" "I" (.int (0 : Int32))) (q7 : Exa Z h0 x own_s0) :
    MetFree l own_m6 (head1 (Jvm.Cond.code own_m6 jdk_38_method_24_code 4 none :: ws) ({ frames := 3, cells := 1, slots := 10, locals := 50 } : Room)) (fun aa U => aa = #[(.ref a), (.ref x), (.ref dE), (.int (0 : Int32))] ∧ Z.Warmed39 U.vm ∧ U.heap = h0) (fun _ _ _ _ _ => True) (fun _ U o U' => ∃ v L, o = .returned v ∧ Q_own_add30F Z a mc dE kd x h0 v U'.heap L ∧ FrameEnd U o U' L ({ frames := 3, cells := 1, slots := 10, locals := 50 } : Room).cells ({ frames := 3, cells := 1, slots := 10, locals := 50 } : Room).slots) := by
  refine MetFree.of_bodySF pf_own_add30F hisR ?_
  intro p e s m args below meth c s₁ Bd hml0 hP hK
  obtain ⟨rfl, hZ, hh⟩ := hP
  have hx := Bd.exec
  have hby := Bd.bytes
  have hlk := BodyLoose.notSynchronized Bd
  have hml : c.maxLocals = 4 := hml0
  have hown : s.vm.findClass own_s1 = some m.cls := findClass_of_methodNamed Bd.named
  have hnm := (name_of_methodNamed Bd.named Bd.method).1
  have X0 : Stand p l e ({ frames := 3, cells := 1, slots := 10, locals := 50 } : Room) s m #[(.ref a), (.ref x), (.ref dE), (.int (0 : Int32))] below meth c s₁ [] 0 0 := Stand.of_body Bd
  have e0 : s₁.heap = h0 := by rw [← hh, Bd.state]; rfl
  have N0 := Fr.nil Z.heap.size
  have K0 : Keep h0 h0 [a] := Keep.refl _ _
  refine own_start (Q := Q_own_add30F Z a mc dE kd x h0) (ef_own_add30F m (a) (x) (dE) ((0 : Int32))) ?_
  show own_G p e below (s₁.setTop (mkF m 0 #[.val (.ref a), .val (.ref x), .val (.ref dE), .val (.int (0 : Int32))] [])) _
  refine own_go (fun t k => XS.iloadN X0.here hx rfl (hb hby d_jdk_38_method_24_code_0) rfl k) ?_
  refine own_go (fun t k => XS.aloadN X0.here hx rfl (hb hby d_jdk_38_method_24_code_1) rfl rfl k) ?_
  refine own_go (own_len X0 hx hZ e0 (BD.ext O0) (z := (0 : Int32)) (by show (0 : Int32).toInt = ((0 : Nat) : Int); decide) (g := (mkF m 2 #[.val (.ref a), .val (.ref x), .val (.ref dE), .val (.int (0 : Int32))] [(.ref dE), (.int (0 : Int32))])) rfl rfl (hb hby d_jdk_38_method_24_code_2)) ?_
  refine own_go (fun t k => XS.icmpNo X0.here hx rfl (hb hby d_jdk_38_method_24_code_3) rfl (teq (by decide : (0 : Int32) = (0 : Int32))).2 k) ?_
  show own_G p e below (s₁.setTop (mkF m 6 #[.val (.ref a), .val (.ref x), .val (.ref dE), .val (.int (0 : Int32))] [])) _
  refine own_go (fun t k => XS.aloadN X0.here hx rfl (hb hby d_jdk_38_method_24_code_6) rfl rfl k) ?_
  obtain ⟨cq1z, qa1z, qb1z⟩ := q2.cell
  obtain ⟨_, _, ⟨T1z, L1z, k1z, n1z⟩, -, X1z, ⟨Lc1z, hQ1z, l1z, y1z, z1z⟩, st1z⟩ := X0.privateBack hx (y := own_m5) hown (own_mw hZ hw 138 rfl) (own_mw hZ hw 139 rfl) (own_mw hZ hw 141 rfl) (Cond.privateMethod_at (mvP hZ (own_hw hw 140 rfl) (args := #[]))) (own_mw hZ hw 142 rfl) (by decide) (backOf (W := 0) (own_grow0 l Z a0 hw [] a mc dE kd h0 O0 S_D BD q2 q3 q4 q5 q6) hZ (own_hw hw 142 rfl) (own_hw hw 6 rfl) (by decide) (by decide)) (g := (mkF m 7 #[.val (.ref a), .val (.ref x), .val (.ref dE), .val (.int (0 : Int32))] [(.ref a)])) rfl (by rw [hml]; rfl) (Steps.refl _) (a := a) (by rw [e0]; exact qa1z) qb1z (argsL := []) (rest := []) (lenOf pd_3591787953 rfl) rfl (by show 2 * 0 + _ ≤ _; exact Nat.le_of_eq rfl) (hb hby d_jdk_38_method_24_code_7) (fun _ _ => ⟨rfl, e0, (by decide : 0 + 1 ≤ _), (by decide : 0 + 10 ≤ _)⟩)
  dsimp only [Pt.U, Pt.locs, Pt.cells, Pt.slots] at X1z l1z y1z z1z st1z hQ1z
  subst l1z y1z z1z
  obtain ⟨arr_1z, kk_1z, rfl, NQ1z, K1zq, r1z_0, r1z_1, r1z_2, r1z_3, r1z_4, r1z_5, r1z_6, r1z_7, r1z_8⟩ := hQ1z
  refine own_tr st1z ?_
  have N1z := Fr.app N0 NQ1z
  have O2z := own_ext_keep O0 K1zq (allS q3 all0)
  have K2z := K0.trans K1zq (allS (Or.inl (List.mem_of_getElem? (i := 0) rfl)) all0)
  have lz_arr_1z : h0.size ≤ arr_1z := Nat.le_trans K0.1 r1z_2
  have ne_a_arr_1z : a ≠ arr_1z := Nat.ne_of_lt (Nat.lt_of_lt_of_le q2.lt r1z_2)
  have ne_x_arr_1z : x ≠ arr_1z := Nat.ne_of_lt (Nat.lt_of_lt_of_le q7.lt r1z_2)
  show own_G p e below (T1z.setTop (mkF m 10 #[.val (.ref a), .val (.ref x), .val (.ref dE), .val (.int (0 : Int32))] [(.ref arr_1z)])) _
  refine own_go (fun t k => XS.astoreN X1z.here hx rfl (hb hby d_jdk_38_method_24_code_10) rfl rfl (l' := #[.val (.ref a), .val (.ref x), .val (.ref arr_1z), .val (.int (0 : Int32))]) rfl k) ?_
  refine own_go (fun t k => XS.aloadN X1z.here hx rfl (hb hby d_jdk_38_method_24_code_11) rfl rfl k) ?_
  refine own_go (fun t k => XS.iloadN X1z.here hx rfl (hb hby d_jdk_38_method_24_code_12) rfl k) ?_
  refine own_go (fun t k => XS.aloadN X1z.here hx rfl (hb hby d_jdk_38_method_24_code_13) rfl rfl k) ?_
  obtain ⟨T3z, h3z, X3z, e3z, W3z, V3z, st3z⟩ := own_stR X1z hx hZ rfl r1z_5 rfl (i := 0) (by decide) (Nat.le_of_ble_eq_true rfl) (own_sto r1z_3 (Or.inr ⟨_, rfl, (Ins.of_exa (q7.keep K1zq) (own_hw hw 154 rfl))⟩)) rfl (g := (mkF m 14 #[.val (.ref a), .val (.ref x), .val (.ref arr_1z), .val (.int (0 : Int32))] [(.ref x), (.int (0 : Int32)), (.ref arr_1z)])) rfl rfl (hb hby d_jdk_38_method_24_code_14)
  refine own_go st3z ?_
  have N3z := Fr.snoc X3z N1z r1z_1
  have O4z := own_ext_wr O2z W3z r1z_1
  have K4z := K2z.wr W3z (Or.inr lz_arr_1z)
  have V3z : own_A Z h3z arr_1z kk_1z (.object own_s2) [(.ref x), .null, .null, .null, .null, .null, .null, .null, .null, .null] := V3z
  refine own_go (fun t k => XS.aloadN X3z.here hx rfl (hb hby d_jdk_38_method_24_code_15) rfl rfl k) ?_
  refine own_go (fun t k => XS.iloadN X3z.here hx rfl (hb hby d_jdk_38_method_24_code_16) rfl k) ?_
  refine own_go (fun t k => XS.iconst X3z.here hx rfl (hb hby d_jdk_38_method_24_code_17) k) ?_
  refine own_go (fun t k => XS.iadd X3z.here hx rfl (hb hby d_jdk_38_method_24_code_18) rfl k) ?_
  show own_G p e below (T3z.setTop (mkF m 19 #[.val (.ref a), .val (.ref x), .val (.ref arr_1z), .val (.int (0 : Int32))] [(.int (1 : Int32)), (.ref a)])) _
  obtain ⟨T5z, h5z, X5z, e5z, W5z, st5z⟩ := putF X3z hx hZ hown (host := "") (Or.inl (own_hw hw 95 rfl)) Via.refl e3z (r1z_8.other W3z (Or.inl ne_a_arr_1z)) (r1z_0.wr W3z) (Or.inl (own_hw hw 96 rfl)) (own_hw hw 5 rfl) (ty := .int) (by decide) rfl rfl (g := (mkF m 19 #[.val (.ref a), .val (.ref x), .val (.ref arr_1z), .val (.int (0 : Int32))] [(.int (1 : Int32)), (.ref a)])) rfl rfl (hb hby d_jdk_38_method_24_code_19)
  refine own_go st5z ?_
  have N5z := Fr.snoc X5z N3z q3
  have F5z : Fld Z h5z a own_s1 "size" "I" (.int (1 : Int32)) := (r1z_8.other W3z (Or.inl ne_a_arr_1z)).same W5z
  have O6z := own_ext_wr O4z W5z q3
  have K6z := K4z.wr W5z (Or.inl (List.mem_of_getElem? (i := 0) rfl))
  have f7z := ((r1z_6.other W3z (Or.inl ne_a_arr_1z)).other W5z (Or.inr (slot_ne (Or.inl (own_hw hw 26 rfl)) (Or.inl (own_hw hw 96 rfl)) (by decide) (t := .int) (t' := .int) (by decide) (by decide))))
  have f8z := ((r1z_7.other W3z (Or.inl ne_a_arr_1z)).other W5z (Or.inr (slot_ne (Or.inl (own_hw hw 29 rfl)) (Or.inl (own_hw hw 96 rfl)) (by decide) (t := (.array (.object own_s2))) (t' := .int) (by decide) (by decide))))
  exact own_retV X5z hx Bd.returns (hb hby d_jdk_38_method_24_code_22) hlk (Nat.le_of_ble_eq_true rfl) (Nat.le_of_ble_eq_true rfl) (by show Q_own_add30F Z a mc dE kd x h0 _ T5z.heap _; rw [e5z]; exact ⟨arr_1z, kk_1z, rfl, N5z, K6z, ((r1z_0.wr W3z).wr W5z), r1z_1, lz_arr_1z, r1z_3, ((r1z_4.wr W3z).wr W5z), (V3z.other W5z (Ne.symm ne_a_arr_1z)), f7z, f8z, F5z⟩)
theorem ef_own_add10F (m : MethodId) (x0 : Addr) (x1 : Addr) : entryFrame m #[(.ref x0), (.ref x1)] 2 = mkF m 0 #[.val (.ref x0), .val (.ref x1)] [] := by first | (simp [entryFrame, mkF, argsToLocals, Value.category]; done) | rfl
theorem pf_own_add10F : plainFor own_m7 = true := plainFor_of_name (by simp [plainName, overriddenIn])
theorem pd_2301215664 : parseMethodDescriptor "(Ljava/lang/Object;[Ljava/lang/Object;I)V" = some ⟨[(.object "java/lang/Object"), (.array (.object "java/lang/Object")), .int], none⟩ := by decide +kernel
theorem d_jdk_38_method_25_code_0 : decode jdk_38_method_25_code 0 = .ok (.aload_n 0, 1) := by decide +kernel
theorem d_jdk_38_method_25_code_1 : decode jdk_38_method_25_code 1 = .ok (.dup, 1) := by decide +kernel
theorem d_jdk_38_method_25_code_10 : decode jdk_38_method_25_code 10 = .ok (.aload_n 0, 1) := by decide +kernel
theorem d_jdk_38_method_25_code_11 : decode jdk_38_method_25_code 11 = .ok (.aload_n 1, 1) := by decide +kernel
theorem d_jdk_38_method_25_code_12 : decode jdk_38_method_25_code 12 = .ok (.aload_n 0, 1) := by decide +kernel
theorem d_jdk_38_method_25_code_13 : decode jdk_38_method_25_code 13 = .ok (.getfield 9, 3) := by decide +kernel
theorem d_jdk_38_method_25_code_16 : decode jdk_38_method_25_code 16 = .ok (.aload_n 0, 1) := by decide +kernel
theorem d_jdk_38_method_25_code_17 : decode jdk_38_method_25_code 17 = .ok (.getfield 48, 3) := by decide +kernel
theorem d_jdk_38_method_25_code_2 : decode jdk_38_method_25_code 2 = .ok (.getfield 63, 3) := by decide +kernel
theorem d_jdk_38_method_25_code_20 : decode jdk_38_method_25_code 20 = .ok (.invokevirtual 131, 3) := by decide +kernel
theorem d_jdk_38_method_25_code_23 : decode jdk_38_method_25_code 23 = .ok (.iconst 1, 1) := by decide +kernel
theorem d_jdk_38_method_25_code_24 : decode jdk_38_method_25_code 24 = .ok (.ireturn, 1) := by decide +kernel
theorem d_jdk_38_method_25_code_5 : decode jdk_38_method_25_code 5 = .ok (.iconst 1, 1) := by decide +kernel
theorem d_jdk_38_method_25_code_6 : decode jdk_38_method_25_code 6 = .ok (.iadd, 1) := by decide +kernel
theorem d_jdk_38_method_25_code_7 : decode jdk_38_method_25_code 7 = .ok (.putfield 63, 3) := by decide +kernel
def Q_own_add10F (Z : State) (a : Addr) (mc : Int32) (dE : Addr) (kd : ClassId) (x : Addr) (h0 : Heap) (v : Option Value) (h : Heap) (L : List Loc) : Prop := ∃ arr : Addr, ∃ kk : ClassId, v = some (.int (1 : Int32)) ∧ Fr Z.heap.size L ∧ Keep h0 h [a] ∧ (Exa Z h a own_s1) ∧ (Z.heap.size ≤ arr) ∧ (h0.size ≤ arr) ∧ (Ovr Z kk own_s2) ∧ (Exa Z h arr own_s3) ∧ (own_A Z h arr kk (.object own_s2) [(.ref x), .null, .null, .null, .null, .null, .null, .null, .null, .null]) ∧ (Fld Z h a own_s7 "modCount" "I" (.int (mc + (1 : Int32)))) ∧ (Fld Z h a own_s1 "elementData" own_s3 (.ref arr)) ∧ (Fld Z h a own_s1 "size" "I" (.int (1 : Int32)))
set_option maxRecDepth 65536 in
set_option maxHeartbeats 40000000 in
theorem own_add10F (l : Launch) (Z : State) (a0 : Array Value) (hw : ∀ d ∈ tables_1, d.before a0 Z = true) (ws : List Jvm.Cond) (a : Addr) (mc : Int32) (dE : Addr) (kd : ClassId) (x : Addr) (h0 : Heap) (O0 : Ext Z.heap h0) (S_D : Sta Z Z.heap own_s1 own_s19 own_s3 (.ref dE)) (BD : own_A Z Z.heap dE kd (.object own_s2) []) (q2 : Exa Z h0 a own_s1) (q3 : Z.heap.size ≤ a) (q4 : Fld Z h0 a own_s7 "modCount" "I" (.int mc)) (q5 : Fld Z h0 a own_s1 "elementData" own_s3 (.ref dE)) (q6 : Fld Z h0 a own_s1 "size" "I" (.int (0 : Int32))) (q7 : Exa Z h0 x own_s0) :
    MetFree l own_m7 (head1 (Jvm.Cond.code own_m7 jdk_38_method_25_code 2 (some .boolean) :: ws) ({ frames := 4, cells := 1, slots := 10, locals := 70 } : Room)) (fun aa U => aa = #[(.ref a), (.ref x)] ∧ Z.Warmed39 U.vm ∧ U.heap = h0) (fun _ _ _ _ _ => True) (fun _ U o U' => ∃ v L, o = .returned v ∧ Q_own_add10F Z a mc dE kd x h0 v U'.heap L ∧ FrameEnd U o U' L ({ frames := 4, cells := 1, slots := 10, locals := 70 } : Room).cells ({ frames := 4, cells := 1, slots := 10, locals := 70 } : Room).slots) := by
  refine MetFree.of_bodySF pf_own_add10F hisR ?_
  intro p e s m args below meth c s₁ Bd hml0 hP hK
  obtain ⟨rfl, hZ, hh⟩ := hP
  have hx := Bd.exec
  have hby := Bd.bytes
  have hlk := BodyLoose.notSynchronized Bd
  have hml : c.maxLocals = 2 := hml0
  have hown : s.vm.findClass own_s1 = some m.cls := findClass_of_methodNamed Bd.named
  have hnm := (name_of_methodNamed Bd.named Bd.method).1
  have X0 : Stand p l e ({ frames := 4, cells := 1, slots := 10, locals := 70 } : Room) s m #[(.ref a), (.ref x)] below meth c s₁ [] 0 0 := Stand.of_body Bd
  have e0 : s₁.heap = h0 := by rw [← hh, Bd.state]; rfl
  have N0 := Fr.nil Z.heap.size
  have K0 : Keep h0 h0 [a] := Keep.refl _ _
  refine own_start (Q := Q_own_add10F Z a mc dE kd x h0) (ef_own_add10F m (a) (x)) ?_
  show own_G p e below (s₁.setTop (mkF m 0 #[.val (.ref a), .val (.ref x)] [])) _
  refine own_go (fun t k => XS.aloadN X0.here hx rfl (hb hby d_jdk_38_method_25_code_0) rfl rfl k) ?_
  refine own_go (fun t k => XS.dup X0.here hx rfl (hb hby d_jdk_38_method_25_code_1) rfl rfl k) ?_
  obtain ⟨T1z, X1z, e1z, st1z⟩ := getF X0 hx hZ hown (host := "") (Or.inl (own_hw hw 131 rfl)) (Via.of (own_hw hw 132 rfl)) e0 q4 (g := (mkF m 2 #[.val (.ref a), .val (.ref x)] [(.ref a), (.ref a)])) rfl rfl (hb hby d_jdk_38_method_25_code_2)
  refine own_go st1z ?_
  refine own_go (fun t k => XS.iconst X1z.here hx rfl (hb hby d_jdk_38_method_25_code_5) k) ?_
  refine own_go (fun t k => XS.iadd X1z.here hx rfl (hb hby d_jdk_38_method_25_code_6) rfl k) ?_
  obtain ⟨T2z, h2z, X2z, e2z, W2z, st2z⟩ := putF X1z hx hZ hown (host := "") (Or.inl (own_hw hw 131 rfl)) (Via.of (own_hw hw 132 rfl)) e1z q4 q2 (Or.inl (own_hw hw 26 rfl)) (own_hw hw 5 rfl) (ty := .int) (by decide) rfl rfl (g := (mkF m 7 #[.val (.ref a), .val (.ref x)] [(.int (mc + (1 : Int32))), (.ref a)])) rfl rfl (hb hby d_jdk_38_method_25_code_7)
  refine own_go st2z ?_
  have N2z := Fr.snoc X2z N0 q3
  have F2z : Fld Z h2z a own_s7 "modCount" "I" (.int (mc + (1 : Int32))) := q4.same W2z
  have O3z := own_ext_wr O0 W2z q3
  have K3z := K0.wr W2z (Or.inl (List.mem_of_getElem? (i := 0) rfl))
  refine own_go (fun t k => XS.aloadN X2z.here hx rfl (hb hby d_jdk_38_method_25_code_10) rfl rfl k) ?_
  refine own_go (fun t k => XS.aloadN X2z.here hx rfl (hb hby d_jdk_38_method_25_code_11) rfl rfl k) ?_
  refine own_go (fun t k => XS.aloadN X2z.here hx rfl (hb hby d_jdk_38_method_25_code_12) rfl rfl k) ?_
  show own_G p e below (T2z.setTop (mkF m 13 #[.val (.ref a), .val (.ref x)] [(.ref a), (.ref x), (.ref a)])) _
  have f4z := (q5.other W2z (Or.inr (slot_ne (Or.inl (own_hw hw 29 rfl)) (Or.inl (own_hw hw 26 rfl)) (by decide) (t := (.array (.object own_s2))) (t' := .int) (by decide) (by decide))))
  obtain ⟨T5z, X5z, e5z, st5z⟩ := getF X2z hx hZ hown (host := "") (Or.inl (own_hw hw 28 rfl)) Via.refl e2z f4z (g := (mkF m 13 #[.val (.ref a), .val (.ref x)] [(.ref a), (.ref x), (.ref a)])) rfl rfl (hb hby d_jdk_38_method_25_code_13)
  refine own_go st5z ?_
  refine own_go (fun t k => XS.aloadN X5z.here hx rfl (hb hby d_jdk_38_method_25_code_16) rfl rfl k) ?_
  have f6z := (q6.other W2z (Or.inr (slot_ne (Or.inl (own_hw hw 96 rfl)) (Or.inl (own_hw hw 26 rfl)) (by decide) (t := .int) (t' := .int) (by decide) (by decide))))
  obtain ⟨T7z, X7z, e7z, st7z⟩ := getF X5z hx hZ hown (host := "") (Or.inl (own_hw hw 95 rfl)) Via.refl e5z f6z (g := (mkF m 17 #[.val (.ref a), .val (.ref x)] [(.ref a), (.ref dE), (.ref x), (.ref a)])) rfl rfl (hb hby d_jdk_38_method_25_code_17)
  refine own_go st7z ?_
  obtain ⟨cq8z, qa8z, qb8z⟩ := (q2.wr W2z).cell
  obtain ⟨_, _, ⟨T8z, L8z, k8z, n8z⟩, -, X8z, ⟨Lc8z, hQ8z, l8z, y8z, z8z⟩, st8z⟩ := X7z.privateBack hx (y := own_m6) hown (own_mw hZ hw 133 rfl) (own_mw hZ hw 134 rfl) (own_mw hZ hw 136 rfl) (Cond.privateMethod_at (mvP hZ (own_hw hw 135 rfl) (args := #[]))) (own_mw hZ hw 137 rfl) (by decide) (backOf (W := 0) (own_add30F l Z a0 hw [] a (mc + (1 : Int32)) dE kd x h2z O3z S_D BD (q2.wr W2z) q3 F2z f4z f6z (q7.wr W2z)) hZ (own_hw hw 137 rfl) (own_hw hw 6 rfl) (by decide) (by decide)) (g := (mkF m 20 #[.val (.ref a), .val (.ref x)] [(.int (0 : Int32)), (.ref dE), (.ref x), (.ref a)])) rfl (by rw [hml]; rfl) (Steps.refl _) (a := a) (by rw [e7z]; exact qa8z) qb8z (argsL := [(.ref x), (.ref dE), (.int (0 : Int32))]) (rest := []) (lenOf pd_2301215664 rfl) rfl (by show 2 * 0 + _ ≤ _; exact Nat.le_of_eq rfl) (hb hby d_jdk_38_method_25_code_20) (fun _ _ => ⟨rfl, e7z, (by decide : 0 + 1 ≤ _), (by decide : 0 + 10 ≤ _)⟩)
  dsimp only [Pt.U, Pt.locs, Pt.cells, Pt.slots] at X8z l8z y8z z8z st8z hQ8z
  subst l8z y8z z8z
  obtain ⟨arr_8z, kk_8z, rfl, NQ8z, K8zq, r8z_0, r8z_1, r8z_2, r8z_3, r8z_4, r8z_5, r8z_6, r8z_7, r8z_8⟩ := hQ8z
  refine own_tr st8z ?_
  have N8z := Fr.app N2z NQ8z
  have O9z := own_ext_keep O3z K8zq (allS q3 all0)
  have K9z := K3z.trans K8zq (allS (Or.inl (List.mem_of_getElem? (i := 0) rfl)) all0)
  have lz_arr_8z : h0.size ≤ arr_8z := Nat.le_trans K3z.1 r8z_2
  have ne_a_arr_8z : a ≠ arr_8z := Nat.ne_of_lt (Nat.lt_of_lt_of_le (q2.wr W2z).lt r8z_2)
  have ne_x_arr_8z : x ≠ arr_8z := Nat.ne_of_lt (Nat.lt_of_lt_of_le (q7.wr W2z).lt r8z_2)
  show own_G p e below (T8z.setTop (mkF m 23 #[.val (.ref a), .val (.ref x)] [])) _
  refine own_go (fun t k => XS.iconst X8z.here hx rfl (hb hby d_jdk_38_method_25_code_23) k) ?_
  exact own_ret X8z hx Bd.returns rfl (Or.inl ⟨rfl, Or.inr (Or.inl rfl), _, rfl⟩) (hb hby d_jdk_38_method_25_code_24) hlk (Nat.le_of_ble_eq_true rfl) (Nat.le_of_ble_eq_true rfl) (by show Q_own_add10F Z a mc dE kd x h0 _ T8z.heap _; exact ⟨arr_8z, kk_8z, rfl, N8z, K9z, r8z_0, r8z_1, lz_arr_8z, r8z_3, r8z_4, r8z_5, r8z_6, r8z_7, r8z_8⟩)
theorem ef_own_add3F (m : MethodId) (x0 : Addr) (x1 : Addr) (x2 : Addr) (x3 : Int32) : entryFrame m #[(.ref x0), (.ref x1), (.ref x2), (.int x3)] 4 = mkF m 0 #[.val (.ref x0), .val (.ref x1), .val (.ref x2), .val (.int x3)] [] := by first | (simp [entryFrame, mkF, argsToLocals, Value.category]; done) | rfl
theorem pf_own_add3F : plainFor own_m6 = true := plainFor_of_name (by simp [plainName, overriddenIn])
def Q_own_add3F (Z : State) (a : Addr) (x : Addr) (arr : Addr) (kk : ClassId) (vs : (List Value)) (sz : Int32) (mc : Int32) (zl : Int32) (i : Nat) (h0 : Heap) (v : Option Value) (h : Heap) (L : List Loc) : Prop := v = none ∧ Fr Z.heap.size L ∧ Keep h0 h [a, arr] ∧ (Exa Z h a own_s1) ∧ (own_A Z h arr kk (.object own_s2) (vs.set i (.ref x))) ∧ (Fld Z h a own_s7 "modCount" "I" (.int mc)) ∧ (Fld Z h a own_s1 "elementData" own_s3 (.ref arr)) ∧ (Fld Z h a own_s1 "size" "I" (.int (sz + (1 : Int32))))
set_option maxRecDepth 65536 in
set_option maxHeartbeats 40000000 in
theorem own_add3F (l : Launch) (Z : State) (a0 : Array Value) (hw : ∀ d ∈ tables_1, d.before a0 Z = true) (ws : List Jvm.Cond) (a : Addr) (x : Addr) (arr : Addr) (kk : ClassId) (vs : (List Value)) (sz : Int32) (mc : Int32) (zl : Int32) (i : Nat) (h0 : Heap) (O0 : Ext Z.heap h0) (q0 : Exa Z h0 a own_s1) (q1 : Z.heap.size ≤ a) (q2 : Z.heap.size ≤ arr) (q3 : Exa Z h0 x own_s0) (q4 : own_A Z h0 arr kk (.object own_s2) vs) (ov : Ovr Z kk own_s2) (hsz : sz.toInt = (i : Int)) (hzl : zl.toInt = (vs.length : Int)) (hi : i < vs.length) (nea : a ≠ arr) (q10 : Fld Z h0 a own_s7 "modCount" "I" (.int mc)) (q11 : Fld Z h0 a own_s1 "elementData" own_s3 (.ref arr)) (q12 : Fld Z h0 a own_s1 "size" "I" (.int sz)) :
    MetFree l own_m6 (head1 (Jvm.Cond.code own_m6 jdk_38_method_24_code 4 none :: ws) ({ frames := 0, cells := 0, slots := 0, locals := 0 } : Room)) (fun aa U => aa = #[(.ref a), (.ref x), (.ref arr), (.int sz)] ∧ Z.Warmed39 U.vm ∧ U.heap = h0) (fun _ _ _ _ _ => True) (fun _ U o U' => ∃ v L, o = .returned v ∧ Q_own_add3F Z a x arr kk vs sz mc zl i h0 v U'.heap L ∧ FrameEnd U o U' L ({ frames := 0, cells := 0, slots := 0, locals := 0 } : Room).cells ({ frames := 0, cells := 0, slots := 0, locals := 0 } : Room).slots) := by
  refine MetFree.of_bodySF pf_own_add3F hisR ?_
  intro p e s m args below meth c s₁ Bd hml0 hP hK
  obtain ⟨rfl, hZ, hh⟩ := hP
  have hx := Bd.exec
  have hby := Bd.bytes
  have hlk := BodyLoose.notSynchronized Bd
  have hml : c.maxLocals = 4 := hml0
  have hown : s.vm.findClass own_s1 = some m.cls := findClass_of_methodNamed Bd.named
  have hnm := (name_of_methodNamed Bd.named Bd.method).1
  have X0 : Stand p l e ({ frames := 0, cells := 0, slots := 0, locals := 0 } : Room) s m #[(.ref a), (.ref x), (.ref arr), (.int sz)] below meth c s₁ [] 0 0 := Stand.of_body Bd
  have e0 : s₁.heap = h0 := by rw [← hh, Bd.state]; rfl
  have N0 := Fr.nil Z.heap.size
  have K0 : Keep h0 h0 [a, arr] := Keep.refl _ _
  refine own_start (Q := Q_own_add3F Z a x arr kk vs sz mc zl i h0) (ef_own_add3F m (a) (x) (arr) (sz)) ?_
  show own_G p e below (s₁.setTop (mkF m 0 #[.val (.ref a), .val (.ref x), .val (.ref arr), .val (.int sz)] [])) _
  refine own_go (fun t k => XS.iloadN X0.here hx rfl (hb hby d_jdk_38_method_24_code_0) rfl k) ?_
  refine own_go (fun t k => XS.aloadN X0.here hx rfl (hb hby d_jdk_38_method_24_code_1) rfl rfl k) ?_
  refine own_go (own_len X0 hx hZ e0 q4 (z := zl) hzl (g := (mkF m 2 #[.val (.ref a), .val (.ref x), .val (.ref arr), .val (.int sz)] [(.ref arr), (.int sz)])) rfl rfl (hb hby d_jdk_38_method_24_code_2)) ?_
  refine own_go (fun t k => XS.icmpYes X0.here hx rfl (pc0 := 3) (pc' := 11) rfl (hb hby d_jdk_38_method_24_code_3) rfl (feq (own_ltlen hsz hzl hi)).2 (by decide) (by decide) k) ?_
  show own_G p e below (s₁.setTop (mkF m 11 #[.val (.ref a), .val (.ref x), .val (.ref arr), .val (.int sz)] [])) _
  refine own_go (fun t k => XS.aloadN X0.here hx rfl (hb hby d_jdk_38_method_24_code_11) rfl rfl k) ?_
  refine own_go (fun t k => XS.iloadN X0.here hx rfl (hb hby d_jdk_38_method_24_code_12) rfl k) ?_
  refine own_go (fun t k => XS.aloadN X0.here hx rfl (hb hby d_jdk_38_method_24_code_13) rfl rfl k) ?_
  obtain ⟨T1z, h1z, X1z, e1z, W1z, V1z, st1z⟩ := own_stR X0 hx hZ e0 q4 rfl (i := i) hsz hi (own_sto ov (Or.inr ⟨_, rfl, (Ins.of_exa q3 (own_hw hw 154 rfl))⟩)) rfl (g := (mkF m 14 #[.val (.ref a), .val (.ref x), .val (.ref arr), .val (.int sz)] [(.ref x), (.int sz), (.ref arr)])) rfl rfl (hb hby d_jdk_38_method_24_code_14)
  refine own_go st1z ?_
  have N1z := Fr.snoc X1z N0 q2
  have O2z := own_ext_wr O0 W1z q2
  have K2z := K0.wr W1z (Or.inl (List.mem_of_getElem? (i := 1) rfl))
  have V1z : own_A Z h1z arr kk (.object own_s2) (vs.set i (.ref x)) := V1z
  refine own_go (fun t k => XS.aloadN X1z.here hx rfl (hb hby d_jdk_38_method_24_code_15) rfl rfl k) ?_
  refine own_go (fun t k => XS.iloadN X1z.here hx rfl (hb hby d_jdk_38_method_24_code_16) rfl k) ?_
  refine own_go (fun t k => XS.iconst X1z.here hx rfl (hb hby d_jdk_38_method_24_code_17) k) ?_
  refine own_go (fun t k => XS.iadd X1z.here hx rfl (hb hby d_jdk_38_method_24_code_18) rfl k) ?_
  obtain ⟨T3z, h3z, X3z, e3z, W3z, st3z⟩ := putF X1z hx hZ hown (host := "") (Or.inl (own_hw hw 95 rfl)) Via.refl e1z (q12.other W1z (Or.inl nea)) (q0.wr W1z) (Or.inl (own_hw hw 96 rfl)) (own_hw hw 5 rfl) (ty := .int) (by decide) rfl rfl (g := (mkF m 19 #[.val (.ref a), .val (.ref x), .val (.ref arr), .val (.int sz)] [(.int (sz + (1 : Int32))), (.ref a)])) rfl rfl (hb hby d_jdk_38_method_24_code_19)
  refine own_go st3z ?_
  have N3z := Fr.snoc X3z N1z q1
  have F3z : Fld Z h3z a own_s1 "size" "I" (.int (sz + (1 : Int32))) := (q12.other W1z (Or.inl nea)).same W3z
  have O4z := own_ext_wr O2z W3z q1
  have K4z := K2z.wr W3z (Or.inl (List.mem_of_getElem? (i := 0) rfl))
  show own_G p e below (T3z.setTop (mkF m 22 #[.val (.ref a), .val (.ref x), .val (.ref arr), .val (.int sz)] [])) _
  have f5z := ((q10.other W1z (Or.inl nea)).other W3z (Or.inr (slot_ne (Or.inl (own_hw hw 26 rfl)) (Or.inl (own_hw hw 96 rfl)) (by decide) (t := .int) (t' := .int) (by decide) (by decide))))
  have f6z := ((q11.other W1z (Or.inl nea)).other W3z (Or.inr (slot_ne (Or.inl (own_hw hw 29 rfl)) (Or.inl (own_hw hw 96 rfl)) (by decide) (t := (.array (.object own_s2))) (t' := .int) (by decide) (by decide))))
  exact own_retV X3z hx Bd.returns (hb hby d_jdk_38_method_24_code_22) hlk (Nat.le_of_ble_eq_true rfl) (Nat.le_of_ble_eq_true rfl) (by show Q_own_add3F Z a x arr kk vs sz mc zl i h0 _ T3z.heap _; rw [e3z]; exact ⟨rfl, N3z, K4z, ((q0.wr W1z).wr W3z), (V1z.other W3z (Ne.symm nea)), f5z, f6z, F3z⟩)
theorem ef_own_add1F (m : MethodId) (x0 : Addr) (x1 : Addr) : entryFrame m #[(.ref x0), (.ref x1)] 2 = mkF m 0 #[.val (.ref x0), .val (.ref x1)] [] := by first | (simp [entryFrame, mkF, argsToLocals, Value.category]; done) | rfl
theorem pf_own_add1F : plainFor own_m7 = true := plainFor_of_name (by simp [plainName, overriddenIn])
def Q_own_add1F (Z : State) (a : Addr) (x : Addr) (arr : Addr) (kk : ClassId) (vs : (List Value)) (sz : Int32) (mc : Int32) (zl : Int32) (i : Nat) (h0 : Heap) (v : Option Value) (h : Heap) (L : List Loc) : Prop := v = some (.int (1 : Int32)) ∧ Fr Z.heap.size L ∧ Keep h0 h [a, arr] ∧ (Exa Z h a own_s1) ∧ (own_A Z h arr kk (.object own_s2) (vs.set i (.ref x))) ∧ (Fld Z h a own_s7 "modCount" "I" (.int (mc + (1 : Int32)))) ∧ (Fld Z h a own_s1 "elementData" own_s3 (.ref arr)) ∧ (Fld Z h a own_s1 "size" "I" (.int (sz + (1 : Int32))))
set_option maxRecDepth 65536 in
set_option maxHeartbeats 40000000 in
theorem own_add1F (l : Launch) (Z : State) (a0 : Array Value) (hw : ∀ d ∈ tables_1, d.before a0 Z = true) (ws : List Jvm.Cond) (a : Addr) (x : Addr) (arr : Addr) (kk : ClassId) (vs : (List Value)) (sz : Int32) (mc : Int32) (zl : Int32) (i : Nat) (h0 : Heap) (O0 : Ext Z.heap h0) (q0 : Exa Z h0 a own_s1) (q1 : Z.heap.size ≤ a) (q2 : Z.heap.size ≤ arr) (q3 : Exa Z h0 x own_s0) (q4 : own_A Z h0 arr kk (.object own_s2) vs) (ov : Ovr Z kk own_s2) (hsz : sz.toInt = (i : Int)) (hzl : zl.toInt = (vs.length : Int)) (hi : i < vs.length) (nea : a ≠ arr) (q10 : Fld Z h0 a own_s7 "modCount" "I" (.int mc)) (q11 : Fld Z h0 a own_s1 "elementData" own_s3 (.ref arr)) (q12 : Fld Z h0 a own_s1 "size" "I" (.int sz)) :
    MetFree l own_m7 (head1 (Jvm.Cond.code own_m7 jdk_38_method_25_code 2 (some .boolean) :: ws) ({ frames := 1, cells := 0, slots := 0, locals := 15 } : Room)) (fun aa U => aa = #[(.ref a), (.ref x)] ∧ Z.Warmed39 U.vm ∧ U.heap = h0) (fun _ _ _ _ _ => True) (fun _ U o U' => ∃ v L, o = .returned v ∧ Q_own_add1F Z a x arr kk vs sz mc zl i h0 v U'.heap L ∧ FrameEnd U o U' L ({ frames := 1, cells := 0, slots := 0, locals := 15 } : Room).cells ({ frames := 1, cells := 0, slots := 0, locals := 15 } : Room).slots) := by
  refine MetFree.of_bodySF pf_own_add1F hisR ?_
  intro p e s m args below meth c s₁ Bd hml0 hP hK
  obtain ⟨rfl, hZ, hh⟩ := hP
  have hx := Bd.exec
  have hby := Bd.bytes
  have hlk := BodyLoose.notSynchronized Bd
  have hml : c.maxLocals = 2 := hml0
  have hown : s.vm.findClass own_s1 = some m.cls := findClass_of_methodNamed Bd.named
  have hnm := (name_of_methodNamed Bd.named Bd.method).1
  have X0 : Stand p l e ({ frames := 1, cells := 0, slots := 0, locals := 15 } : Room) s m #[(.ref a), (.ref x)] below meth c s₁ [] 0 0 := Stand.of_body Bd
  have e0 : s₁.heap = h0 := by rw [← hh, Bd.state]; rfl
  have N0 := Fr.nil Z.heap.size
  have K0 : Keep h0 h0 [a, arr] := Keep.refl _ _
  refine own_start (Q := Q_own_add1F Z a x arr kk vs sz mc zl i h0) (ef_own_add1F m (a) (x)) ?_
  show own_G p e below (s₁.setTop (mkF m 0 #[.val (.ref a), .val (.ref x)] [])) _
  refine own_go (fun t k => XS.aloadN X0.here hx rfl (hb hby d_jdk_38_method_25_code_0) rfl rfl k) ?_
  refine own_go (fun t k => XS.dup X0.here hx rfl (hb hby d_jdk_38_method_25_code_1) rfl rfl k) ?_
  obtain ⟨T1z, X1z, e1z, st1z⟩ := getF X0 hx hZ hown (host := "") (Or.inl (own_hw hw 131 rfl)) (Via.of (own_hw hw 132 rfl)) e0 q10 (g := (mkF m 2 #[.val (.ref a), .val (.ref x)] [(.ref a), (.ref a)])) rfl rfl (hb hby d_jdk_38_method_25_code_2)
  refine own_go st1z ?_
  refine own_go (fun t k => XS.iconst X1z.here hx rfl (hb hby d_jdk_38_method_25_code_5) k) ?_
  refine own_go (fun t k => XS.iadd X1z.here hx rfl (hb hby d_jdk_38_method_25_code_6) rfl k) ?_
  obtain ⟨T2z, h2z, X2z, e2z, W2z, st2z⟩ := putF X1z hx hZ hown (host := "") (Or.inl (own_hw hw 131 rfl)) (Via.of (own_hw hw 132 rfl)) e1z q10 q0 (Or.inl (own_hw hw 26 rfl)) (own_hw hw 5 rfl) (ty := .int) (by decide) rfl rfl (g := (mkF m 7 #[.val (.ref a), .val (.ref x)] [(.int (mc + (1 : Int32))), (.ref a)])) rfl rfl (hb hby d_jdk_38_method_25_code_7)
  refine own_go st2z ?_
  have N2z := Fr.snoc X2z N0 q1
  have F2z : Fld Z h2z a own_s7 "modCount" "I" (.int (mc + (1 : Int32))) := q10.same W2z
  have O3z := own_ext_wr O0 W2z q1
  have K3z := K0.wr W2z (Or.inl (List.mem_of_getElem? (i := 0) rfl))
  refine own_go (fun t k => XS.aloadN X2z.here hx rfl (hb hby d_jdk_38_method_25_code_10) rfl rfl k) ?_
  refine own_go (fun t k => XS.aloadN X2z.here hx rfl (hb hby d_jdk_38_method_25_code_11) rfl rfl k) ?_
  refine own_go (fun t k => XS.aloadN X2z.here hx rfl (hb hby d_jdk_38_method_25_code_12) rfl rfl k) ?_
  show own_G p e below (T2z.setTop (mkF m 13 #[.val (.ref a), .val (.ref x)] [(.ref a), (.ref x), (.ref a)])) _
  have f4z := (q11.other W2z (Or.inr (slot_ne (Or.inl (own_hw hw 29 rfl)) (Or.inl (own_hw hw 26 rfl)) (by decide) (t := (.array (.object own_s2))) (t' := .int) (by decide) (by decide))))
  obtain ⟨T5z, X5z, e5z, st5z⟩ := getF X2z hx hZ hown (host := "") (Or.inl (own_hw hw 28 rfl)) Via.refl e2z f4z (g := (mkF m 13 #[.val (.ref a), .val (.ref x)] [(.ref a), (.ref x), (.ref a)])) rfl rfl (hb hby d_jdk_38_method_25_code_13)
  refine own_go st5z ?_
  refine own_go (fun t k => XS.aloadN X5z.here hx rfl (hb hby d_jdk_38_method_25_code_16) rfl rfl k) ?_
  have f6z := (q12.other W2z (Or.inr (slot_ne (Or.inl (own_hw hw 96 rfl)) (Or.inl (own_hw hw 26 rfl)) (by decide) (t := .int) (t' := .int) (by decide) (by decide))))
  obtain ⟨T7z, X7z, e7z, st7z⟩ := getF X5z hx hZ hown (host := "") (Or.inl (own_hw hw 95 rfl)) Via.refl e5z f6z (g := (mkF m 17 #[.val (.ref a), .val (.ref x)] [(.ref a), (.ref arr), (.ref x), (.ref a)])) rfl rfl (hb hby d_jdk_38_method_25_code_17)
  refine own_go st7z ?_
  obtain ⟨cq8z, qa8z, qb8z⟩ := (q0.wr W2z).cell
  obtain ⟨_, _, ⟨T8z, L8z, k8z, n8z⟩, -, X8z, ⟨Lc8z, hQ8z, l8z, y8z, z8z⟩, st8z⟩ := X7z.privateBack hx (y := own_m6) hown (own_mw hZ hw 133 rfl) (own_mw hZ hw 134 rfl) (own_mw hZ hw 136 rfl) (Cond.privateMethod_at (mvP hZ (own_hw hw 135 rfl) (args := #[]))) (own_mw hZ hw 137 rfl) (by decide) (backOf (W := 0) (own_add3F l Z a0 hw [] a x arr kk vs sz (mc + (1 : Int32)) zl i h2z O3z (q0.wr W2z) q1 q2 (q3.wr W2z) (q4.other W2z (Ne.symm nea)) ov hsz hzl hi nea F2z f4z f6z) hZ (own_hw hw 137 rfl) (own_hw hw 6 rfl) (by decide) (by decide)) (g := (mkF m 20 #[.val (.ref a), .val (.ref x)] [(.int sz), (.ref arr), (.ref x), (.ref a)])) rfl (by rw [hml]; rfl) (Steps.refl _) (a := a) (by rw [e7z]; exact qa8z) qb8z (argsL := [(.ref x), (.ref arr), (.int sz)]) (rest := []) (lenOf pd_2301215664 rfl) rfl (by show 2 * 0 + _ ≤ _; exact Nat.le_of_eq rfl) (hb hby d_jdk_38_method_25_code_20) (fun _ _ => ⟨rfl, e7z, (by decide : 0 + 0 ≤ _), (by decide : 0 + 0 ≤ _)⟩)
  dsimp only [Pt.U, Pt.locs, Pt.cells, Pt.slots] at X8z l8z y8z z8z st8z hQ8z
  subst l8z y8z z8z
  obtain ⟨rfl, NQ8z, K8zq, r8z_0, r8z_1, r8z_2, r8z_3, r8z_4⟩ := hQ8z
  refine own_tr st8z ?_
  have N8z := Fr.app N2z NQ8z
  have O9z := own_ext_keep O3z K8zq (allS q1 (allS q2 all0))
  have K9z := K3z.trans K8zq (allS (Or.inl (List.mem_of_getElem? (i := 0) rfl)) (allS (Or.inl (List.mem_of_getElem? (i := 1) rfl)) all0))
  show own_G p e below (T8z.setTop (mkF m 23 #[.val (.ref a), .val (.ref x)] [])) _
  refine own_go (fun t k => XS.iconst X8z.here hx rfl (hb hby d_jdk_38_method_25_code_23) k) ?_
  exact own_ret X8z hx Bd.returns rfl (Or.inl ⟨rfl, Or.inr (Or.inl rfl), _, rfl⟩) (hb hby d_jdk_38_method_25_code_24) hlk (Nat.le_of_ble_eq_true rfl) (Nat.le_of_ble_eq_true rfl) (by show Q_own_add1F Z a x arr kk vs sz mc zl i h0 _ T8z.heap _; exact ⟨rfl, N8z, K9z, r8z_0, r8z_1, r8z_2, r8z_3, r8z_4⟩)
theorem ef_own_add30S (m : MethodId) (x0 : Addr) (x1 : Addr) (x2 : Addr) (x3 : Int32) : entryFrame m #[(.ref x0), (.ref x1), (.ref x2), (.int x3)] 4 = mkF m 0 #[.val (.ref x0), .val (.ref x1), .val (.ref x2), .val (.int x3)] [] := by first | (simp [entryFrame, mkF, argsToLocals, Value.category]; done) | rfl
theorem pf_own_add30S : plainFor own_m6 = true := plainFor_of_name (by simp [plainName, overriddenIn])
def Q_own_add30S (Z : State) (a : Addr) (mc : Int32) (dE : Addr) (kd : ClassId) (x : Addr) (h0 : Heap) (v : Option Value) (h : Heap) (L : List Loc) : Prop := ∃ arr : Addr, ∃ kk : ClassId, v = none ∧ Fr Z.heap.size L ∧ Keep h0 h [a] ∧ (Exa Z h a own_s1) ∧ (Z.heap.size ≤ arr) ∧ (h0.size ≤ arr) ∧ (Ovr Z kk own_s2) ∧ (Exa Z h arr own_s3) ∧ (own_A Z h arr kk (.object own_s2) [(.ref x), .null, .null, .null, .null, .null, .null, .null, .null, .null]) ∧ (Fld Z h a own_s7 "modCount" "I" (.int mc)) ∧ (Fld Z h a own_s1 "elementData" own_s3 (.ref arr)) ∧ (Fld Z h a own_s1 "size" "I" (.int (1 : Int32)))
set_option maxRecDepth 65536 in
set_option maxHeartbeats 40000000 in
theorem own_add30S (l : Launch) (Z : State) (a0 : Array Value) (hw : ∀ d ∈ tables_1, d.before a0 Z = true) (ws : List Jvm.Cond) (a : Addr) (mc : Int32) (dE : Addr) (kd : ClassId) (x : Addr) (h0 : Heap) (O0 : Ext Z.heap h0) (S_D : Sta Z Z.heap own_s1 own_s19 own_s3 (.ref dE)) (BD : own_A Z Z.heap dE kd (.object own_s2) []) (q2 : Exa Z h0 a own_s1) (q3 : Z.heap.size ≤ a) (q4 : Fld Z h0 a own_s7 "modCount" "I" (.int mc)) (q5 : Fld Z h0 a own_s1 "elementData" own_s3 (.ref dE)) (q6 : Fld Z h0 a own_s1 "size" "I" (.int (0 : Int32))) (q7 : Exa Z h0 x own_s9) :
    MetFree l own_m6 (head1 (Jvm.Cond.code own_m6 jdk_38_method_24_code 4 none :: ws) ({ frames := 3, cells := 1, slots := 10, locals := 50 } : Room)) (fun aa U => aa = #[(.ref a), (.ref x), (.ref dE), (.int (0 : Int32))] ∧ Z.Warmed39 U.vm ∧ U.heap = h0) (fun _ _ _ _ _ => True) (fun _ U o U' => ∃ v L, o = .returned v ∧ Q_own_add30S Z a mc dE kd x h0 v U'.heap L ∧ FrameEnd U o U' L ({ frames := 3, cells := 1, slots := 10, locals := 50 } : Room).cells ({ frames := 3, cells := 1, slots := 10, locals := 50 } : Room).slots) := by
  refine MetFree.of_bodySF pf_own_add30S hisR ?_
  intro p e s m args below meth c s₁ Bd hml0 hP hK
  obtain ⟨rfl, hZ, hh⟩ := hP
  have hx := Bd.exec
  have hby := Bd.bytes
  have hlk := BodyLoose.notSynchronized Bd
  have hml : c.maxLocals = 4 := hml0
  have hown : s.vm.findClass own_s1 = some m.cls := findClass_of_methodNamed Bd.named
  have hnm := (name_of_methodNamed Bd.named Bd.method).1
  have X0 : Stand p l e ({ frames := 3, cells := 1, slots := 10, locals := 50 } : Room) s m #[(.ref a), (.ref x), (.ref dE), (.int (0 : Int32))] below meth c s₁ [] 0 0 := Stand.of_body Bd
  have e0 : s₁.heap = h0 := by rw [← hh, Bd.state]; rfl
  have N0 := Fr.nil Z.heap.size
  have K0 : Keep h0 h0 [a] := Keep.refl _ _
  refine own_start (Q := Q_own_add30S Z a mc dE kd x h0) (ef_own_add30S m (a) (x) (dE) ((0 : Int32))) ?_
  show own_G p e below (s₁.setTop (mkF m 0 #[.val (.ref a), .val (.ref x), .val (.ref dE), .val (.int (0 : Int32))] [])) _
  refine own_go (fun t k => XS.iloadN X0.here hx rfl (hb hby d_jdk_38_method_24_code_0) rfl k) ?_
  refine own_go (fun t k => XS.aloadN X0.here hx rfl (hb hby d_jdk_38_method_24_code_1) rfl rfl k) ?_
  refine own_go (own_len X0 hx hZ e0 (BD.ext O0) (z := (0 : Int32)) (by show (0 : Int32).toInt = ((0 : Nat) : Int); decide) (g := (mkF m 2 #[.val (.ref a), .val (.ref x), .val (.ref dE), .val (.int (0 : Int32))] [(.ref dE), (.int (0 : Int32))])) rfl rfl (hb hby d_jdk_38_method_24_code_2)) ?_
  refine own_go (fun t k => XS.icmpNo X0.here hx rfl (hb hby d_jdk_38_method_24_code_3) rfl (teq (by decide : (0 : Int32) = (0 : Int32))).2 k) ?_
  show own_G p e below (s₁.setTop (mkF m 6 #[.val (.ref a), .val (.ref x), .val (.ref dE), .val (.int (0 : Int32))] [])) _
  refine own_go (fun t k => XS.aloadN X0.here hx rfl (hb hby d_jdk_38_method_24_code_6) rfl rfl k) ?_
  obtain ⟨cq1z, qa1z, qb1z⟩ := q2.cell
  obtain ⟨_, _, ⟨T1z, L1z, k1z, n1z⟩, -, X1z, ⟨Lc1z, hQ1z, l1z, y1z, z1z⟩, st1z⟩ := X0.privateBack hx (y := own_m5) hown (own_mw hZ hw 138 rfl) (own_mw hZ hw 139 rfl) (own_mw hZ hw 141 rfl) (Cond.privateMethod_at (mvP hZ (own_hw hw 140 rfl) (args := #[]))) (own_mw hZ hw 142 rfl) (by decide) (backOf (W := 0) (own_grow0 l Z a0 hw [] a mc dE kd h0 O0 S_D BD q2 q3 q4 q5 q6) hZ (own_hw hw 142 rfl) (own_hw hw 6 rfl) (by decide) (by decide)) (g := (mkF m 7 #[.val (.ref a), .val (.ref x), .val (.ref dE), .val (.int (0 : Int32))] [(.ref a)])) rfl (by rw [hml]; rfl) (Steps.refl _) (a := a) (by rw [e0]; exact qa1z) qb1z (argsL := []) (rest := []) (lenOf pd_3591787953 rfl) rfl (by show 2 * 0 + _ ≤ _; exact Nat.le_of_eq rfl) (hb hby d_jdk_38_method_24_code_7) (fun _ _ => ⟨rfl, e0, (by decide : 0 + 1 ≤ _), (by decide : 0 + 10 ≤ _)⟩)
  dsimp only [Pt.U, Pt.locs, Pt.cells, Pt.slots] at X1z l1z y1z z1z st1z hQ1z
  subst l1z y1z z1z
  obtain ⟨arr_1z, kk_1z, rfl, NQ1z, K1zq, r1z_0, r1z_1, r1z_2, r1z_3, r1z_4, r1z_5, r1z_6, r1z_7, r1z_8⟩ := hQ1z
  refine own_tr st1z ?_
  have N1z := Fr.app N0 NQ1z
  have O2z := own_ext_keep O0 K1zq (allS q3 all0)
  have K2z := K0.trans K1zq (allS (Or.inl (List.mem_of_getElem? (i := 0) rfl)) all0)
  have lz_arr_1z : h0.size ≤ arr_1z := Nat.le_trans K0.1 r1z_2
  have ne_a_arr_1z : a ≠ arr_1z := Nat.ne_of_lt (Nat.lt_of_lt_of_le q2.lt r1z_2)
  have ne_x_arr_1z : x ≠ arr_1z := Nat.ne_of_lt (Nat.lt_of_lt_of_le q7.lt r1z_2)
  show own_G p e below (T1z.setTop (mkF m 10 #[.val (.ref a), .val (.ref x), .val (.ref dE), .val (.int (0 : Int32))] [(.ref arr_1z)])) _
  refine own_go (fun t k => XS.astoreN X1z.here hx rfl (hb hby d_jdk_38_method_24_code_10) rfl rfl (l' := #[.val (.ref a), .val (.ref x), .val (.ref arr_1z), .val (.int (0 : Int32))]) rfl k) ?_
  refine own_go (fun t k => XS.aloadN X1z.here hx rfl (hb hby d_jdk_38_method_24_code_11) rfl rfl k) ?_
  refine own_go (fun t k => XS.iloadN X1z.here hx rfl (hb hby d_jdk_38_method_24_code_12) rfl k) ?_
  refine own_go (fun t k => XS.aloadN X1z.here hx rfl (hb hby d_jdk_38_method_24_code_13) rfl rfl k) ?_
  obtain ⟨T3z, h3z, X3z, e3z, W3z, V3z, st3z⟩ := own_stR X1z hx hZ rfl r1z_5 rfl (i := 0) (by decide) (Nat.le_of_ble_eq_true rfl) (own_sto r1z_3 (Or.inr ⟨_, rfl, (Ins.of_exa (q7.keep K1zq) (own_hw hw 262 rfl))⟩)) rfl (g := (mkF m 14 #[.val (.ref a), .val (.ref x), .val (.ref arr_1z), .val (.int (0 : Int32))] [(.ref x), (.int (0 : Int32)), (.ref arr_1z)])) rfl rfl (hb hby d_jdk_38_method_24_code_14)
  refine own_go st3z ?_
  have N3z := Fr.snoc X3z N1z r1z_1
  have O4z := own_ext_wr O2z W3z r1z_1
  have K4z := K2z.wr W3z (Or.inr lz_arr_1z)
  have V3z : own_A Z h3z arr_1z kk_1z (.object own_s2) [(.ref x), .null, .null, .null, .null, .null, .null, .null, .null, .null] := V3z
  refine own_go (fun t k => XS.aloadN X3z.here hx rfl (hb hby d_jdk_38_method_24_code_15) rfl rfl k) ?_
  refine own_go (fun t k => XS.iloadN X3z.here hx rfl (hb hby d_jdk_38_method_24_code_16) rfl k) ?_
  refine own_go (fun t k => XS.iconst X3z.here hx rfl (hb hby d_jdk_38_method_24_code_17) k) ?_
  refine own_go (fun t k => XS.iadd X3z.here hx rfl (hb hby d_jdk_38_method_24_code_18) rfl k) ?_
  show own_G p e below (T3z.setTop (mkF m 19 #[.val (.ref a), .val (.ref x), .val (.ref arr_1z), .val (.int (0 : Int32))] [(.int (1 : Int32)), (.ref a)])) _
  obtain ⟨T5z, h5z, X5z, e5z, W5z, st5z⟩ := putF X3z hx hZ hown (host := "") (Or.inl (own_hw hw 95 rfl)) Via.refl e3z (r1z_8.other W3z (Or.inl ne_a_arr_1z)) (r1z_0.wr W3z) (Or.inl (own_hw hw 96 rfl)) (own_hw hw 5 rfl) (ty := .int) (by decide) rfl rfl (g := (mkF m 19 #[.val (.ref a), .val (.ref x), .val (.ref arr_1z), .val (.int (0 : Int32))] [(.int (1 : Int32)), (.ref a)])) rfl rfl (hb hby d_jdk_38_method_24_code_19)
  refine own_go st5z ?_
  have N5z := Fr.snoc X5z N3z q3
  have F5z : Fld Z h5z a own_s1 "size" "I" (.int (1 : Int32)) := (r1z_8.other W3z (Or.inl ne_a_arr_1z)).same W5z
  have O6z := own_ext_wr O4z W5z q3
  have K6z := K4z.wr W5z (Or.inl (List.mem_of_getElem? (i := 0) rfl))
  have f7z := ((r1z_6.other W3z (Or.inl ne_a_arr_1z)).other W5z (Or.inr (slot_ne (Or.inl (own_hw hw 26 rfl)) (Or.inl (own_hw hw 96 rfl)) (by decide) (t := .int) (t' := .int) (by decide) (by decide))))
  have f8z := ((r1z_7.other W3z (Or.inl ne_a_arr_1z)).other W5z (Or.inr (slot_ne (Or.inl (own_hw hw 29 rfl)) (Or.inl (own_hw hw 96 rfl)) (by decide) (t := (.array (.object own_s2))) (t' := .int) (by decide) (by decide))))
  exact own_retV X5z hx Bd.returns (hb hby d_jdk_38_method_24_code_22) hlk (Nat.le_of_ble_eq_true rfl) (Nat.le_of_ble_eq_true rfl) (by show Q_own_add30S Z a mc dE kd x h0 _ T5z.heap _; rw [e5z]; exact ⟨arr_1z, kk_1z, rfl, N5z, K6z, ((r1z_0.wr W3z).wr W5z), r1z_1, lz_arr_1z, r1z_3, ((r1z_4.wr W3z).wr W5z), (V3z.other W5z (Ne.symm ne_a_arr_1z)), f7z, f8z, F5z⟩)
theorem ef_own_add10S (m : MethodId) (x0 : Addr) (x1 : Addr) : entryFrame m #[(.ref x0), (.ref x1)] 2 = mkF m 0 #[.val (.ref x0), .val (.ref x1)] [] := by first | (simp [entryFrame, mkF, argsToLocals, Value.category]; done) | rfl
theorem pf_own_add10S : plainFor own_m7 = true := plainFor_of_name (by simp [plainName, overriddenIn])
def Q_own_add10S (Z : State) (a : Addr) (mc : Int32) (dE : Addr) (kd : ClassId) (x : Addr) (h0 : Heap) (v : Option Value) (h : Heap) (L : List Loc) : Prop := ∃ arr : Addr, ∃ kk : ClassId, v = some (.int (1 : Int32)) ∧ Fr Z.heap.size L ∧ Keep h0 h [a] ∧ (Exa Z h a own_s1) ∧ (Z.heap.size ≤ arr) ∧ (h0.size ≤ arr) ∧ (Ovr Z kk own_s2) ∧ (Exa Z h arr own_s3) ∧ (own_A Z h arr kk (.object own_s2) [(.ref x), .null, .null, .null, .null, .null, .null, .null, .null, .null]) ∧ (Fld Z h a own_s7 "modCount" "I" (.int (mc + (1 : Int32)))) ∧ (Fld Z h a own_s1 "elementData" own_s3 (.ref arr)) ∧ (Fld Z h a own_s1 "size" "I" (.int (1 : Int32)))
set_option maxRecDepth 65536 in
set_option maxHeartbeats 40000000 in
theorem own_add10S (l : Launch) (Z : State) (a0 : Array Value) (hw : ∀ d ∈ tables_1, d.before a0 Z = true) (ws : List Jvm.Cond) (a : Addr) (mc : Int32) (dE : Addr) (kd : ClassId) (x : Addr) (h0 : Heap) (O0 : Ext Z.heap h0) (S_D : Sta Z Z.heap own_s1 own_s19 own_s3 (.ref dE)) (BD : own_A Z Z.heap dE kd (.object own_s2) []) (q2 : Exa Z h0 a own_s1) (q3 : Z.heap.size ≤ a) (q4 : Fld Z h0 a own_s7 "modCount" "I" (.int mc)) (q5 : Fld Z h0 a own_s1 "elementData" own_s3 (.ref dE)) (q6 : Fld Z h0 a own_s1 "size" "I" (.int (0 : Int32))) (q7 : Exa Z h0 x own_s9) :
    MetFree l own_m7 (head1 (Jvm.Cond.code own_m7 jdk_38_method_25_code 2 (some .boolean) :: ws) ({ frames := 4, cells := 1, slots := 10, locals := 70 } : Room)) (fun aa U => aa = #[(.ref a), (.ref x)] ∧ Z.Warmed39 U.vm ∧ U.heap = h0) (fun _ _ _ _ _ => True) (fun _ U o U' => ∃ v L, o = .returned v ∧ Q_own_add10S Z a mc dE kd x h0 v U'.heap L ∧ FrameEnd U o U' L ({ frames := 4, cells := 1, slots := 10, locals := 70 } : Room).cells ({ frames := 4, cells := 1, slots := 10, locals := 70 } : Room).slots) := by
  refine MetFree.of_bodySF pf_own_add10S hisR ?_
  intro p e s m args below meth c s₁ Bd hml0 hP hK
  obtain ⟨rfl, hZ, hh⟩ := hP
  have hx := Bd.exec
  have hby := Bd.bytes
  have hlk := BodyLoose.notSynchronized Bd
  have hml : c.maxLocals = 2 := hml0
  have hown : s.vm.findClass own_s1 = some m.cls := findClass_of_methodNamed Bd.named
  have hnm := (name_of_methodNamed Bd.named Bd.method).1
  have X0 : Stand p l e ({ frames := 4, cells := 1, slots := 10, locals := 70 } : Room) s m #[(.ref a), (.ref x)] below meth c s₁ [] 0 0 := Stand.of_body Bd
  have e0 : s₁.heap = h0 := by rw [← hh, Bd.state]; rfl
  have N0 := Fr.nil Z.heap.size
  have K0 : Keep h0 h0 [a] := Keep.refl _ _
  refine own_start (Q := Q_own_add10S Z a mc dE kd x h0) (ef_own_add10S m (a) (x)) ?_
  show own_G p e below (s₁.setTop (mkF m 0 #[.val (.ref a), .val (.ref x)] [])) _
  refine own_go (fun t k => XS.aloadN X0.here hx rfl (hb hby d_jdk_38_method_25_code_0) rfl rfl k) ?_
  refine own_go (fun t k => XS.dup X0.here hx rfl (hb hby d_jdk_38_method_25_code_1) rfl rfl k) ?_
  obtain ⟨T1z, X1z, e1z, st1z⟩ := getF X0 hx hZ hown (host := "") (Or.inl (own_hw hw 131 rfl)) (Via.of (own_hw hw 132 rfl)) e0 q4 (g := (mkF m 2 #[.val (.ref a), .val (.ref x)] [(.ref a), (.ref a)])) rfl rfl (hb hby d_jdk_38_method_25_code_2)
  refine own_go st1z ?_
  refine own_go (fun t k => XS.iconst X1z.here hx rfl (hb hby d_jdk_38_method_25_code_5) k) ?_
  refine own_go (fun t k => XS.iadd X1z.here hx rfl (hb hby d_jdk_38_method_25_code_6) rfl k) ?_
  obtain ⟨T2z, h2z, X2z, e2z, W2z, st2z⟩ := putF X1z hx hZ hown (host := "") (Or.inl (own_hw hw 131 rfl)) (Via.of (own_hw hw 132 rfl)) e1z q4 q2 (Or.inl (own_hw hw 26 rfl)) (own_hw hw 5 rfl) (ty := .int) (by decide) rfl rfl (g := (mkF m 7 #[.val (.ref a), .val (.ref x)] [(.int (mc + (1 : Int32))), (.ref a)])) rfl rfl (hb hby d_jdk_38_method_25_code_7)
  refine own_go st2z ?_
  have N2z := Fr.snoc X2z N0 q3
  have F2z : Fld Z h2z a own_s7 "modCount" "I" (.int (mc + (1 : Int32))) := q4.same W2z
  have O3z := own_ext_wr O0 W2z q3
  have K3z := K0.wr W2z (Or.inl (List.mem_of_getElem? (i := 0) rfl))
  refine own_go (fun t k => XS.aloadN X2z.here hx rfl (hb hby d_jdk_38_method_25_code_10) rfl rfl k) ?_
  refine own_go (fun t k => XS.aloadN X2z.here hx rfl (hb hby d_jdk_38_method_25_code_11) rfl rfl k) ?_
  refine own_go (fun t k => XS.aloadN X2z.here hx rfl (hb hby d_jdk_38_method_25_code_12) rfl rfl k) ?_
  show own_G p e below (T2z.setTop (mkF m 13 #[.val (.ref a), .val (.ref x)] [(.ref a), (.ref x), (.ref a)])) _
  have f4z := (q5.other W2z (Or.inr (slot_ne (Or.inl (own_hw hw 29 rfl)) (Or.inl (own_hw hw 26 rfl)) (by decide) (t := (.array (.object own_s2))) (t' := .int) (by decide) (by decide))))
  obtain ⟨T5z, X5z, e5z, st5z⟩ := getF X2z hx hZ hown (host := "") (Or.inl (own_hw hw 28 rfl)) Via.refl e2z f4z (g := (mkF m 13 #[.val (.ref a), .val (.ref x)] [(.ref a), (.ref x), (.ref a)])) rfl rfl (hb hby d_jdk_38_method_25_code_13)
  refine own_go st5z ?_
  refine own_go (fun t k => XS.aloadN X5z.here hx rfl (hb hby d_jdk_38_method_25_code_16) rfl rfl k) ?_
  have f6z := (q6.other W2z (Or.inr (slot_ne (Or.inl (own_hw hw 96 rfl)) (Or.inl (own_hw hw 26 rfl)) (by decide) (t := .int) (t' := .int) (by decide) (by decide))))
  obtain ⟨T7z, X7z, e7z, st7z⟩ := getF X5z hx hZ hown (host := "") (Or.inl (own_hw hw 95 rfl)) Via.refl e5z f6z (g := (mkF m 17 #[.val (.ref a), .val (.ref x)] [(.ref a), (.ref dE), (.ref x), (.ref a)])) rfl rfl (hb hby d_jdk_38_method_25_code_17)
  refine own_go st7z ?_
  obtain ⟨cq8z, qa8z, qb8z⟩ := (q2.wr W2z).cell
  obtain ⟨_, _, ⟨T8z, L8z, k8z, n8z⟩, -, X8z, ⟨Lc8z, hQ8z, l8z, y8z, z8z⟩, st8z⟩ := X7z.privateBack hx (y := own_m6) hown (own_mw hZ hw 133 rfl) (own_mw hZ hw 134 rfl) (own_mw hZ hw 136 rfl) (Cond.privateMethod_at (mvP hZ (own_hw hw 135 rfl) (args := #[]))) (own_mw hZ hw 137 rfl) (by decide) (backOf (W := 0) (own_add30S l Z a0 hw [] a (mc + (1 : Int32)) dE kd x h2z O3z S_D BD (q2.wr W2z) q3 F2z f4z f6z (q7.wr W2z)) hZ (own_hw hw 137 rfl) (own_hw hw 6 rfl) (by decide) (by decide)) (g := (mkF m 20 #[.val (.ref a), .val (.ref x)] [(.int (0 : Int32)), (.ref dE), (.ref x), (.ref a)])) rfl (by rw [hml]; rfl) (Steps.refl _) (a := a) (by rw [e7z]; exact qa8z) qb8z (argsL := [(.ref x), (.ref dE), (.int (0 : Int32))]) (rest := []) (lenOf pd_2301215664 rfl) rfl (by show 2 * 0 + _ ≤ _; exact Nat.le_of_eq rfl) (hb hby d_jdk_38_method_25_code_20) (fun _ _ => ⟨rfl, e7z, (by decide : 0 + 1 ≤ _), (by decide : 0 + 10 ≤ _)⟩)
  dsimp only [Pt.U, Pt.locs, Pt.cells, Pt.slots] at X8z l8z y8z z8z st8z hQ8z
  subst l8z y8z z8z
  obtain ⟨arr_8z, kk_8z, rfl, NQ8z, K8zq, r8z_0, r8z_1, r8z_2, r8z_3, r8z_4, r8z_5, r8z_6, r8z_7, r8z_8⟩ := hQ8z
  refine own_tr st8z ?_
  have N8z := Fr.app N2z NQ8z
  have O9z := own_ext_keep O3z K8zq (allS q3 all0)
  have K9z := K3z.trans K8zq (allS (Or.inl (List.mem_of_getElem? (i := 0) rfl)) all0)
  have lz_arr_8z : h0.size ≤ arr_8z := Nat.le_trans K3z.1 r8z_2
  have ne_a_arr_8z : a ≠ arr_8z := Nat.ne_of_lt (Nat.lt_of_lt_of_le (q2.wr W2z).lt r8z_2)
  have ne_x_arr_8z : x ≠ arr_8z := Nat.ne_of_lt (Nat.lt_of_lt_of_le (q7.wr W2z).lt r8z_2)
  show own_G p e below (T8z.setTop (mkF m 23 #[.val (.ref a), .val (.ref x)] [])) _
  refine own_go (fun t k => XS.iconst X8z.here hx rfl (hb hby d_jdk_38_method_25_code_23) k) ?_
  exact own_ret X8z hx Bd.returns rfl (Or.inl ⟨rfl, Or.inr (Or.inl rfl), _, rfl⟩) (hb hby d_jdk_38_method_25_code_24) hlk (Nat.le_of_ble_eq_true rfl) (Nat.le_of_ble_eq_true rfl) (by show Q_own_add10S Z a mc dE kd x h0 _ T8z.heap _; exact ⟨arr_8z, kk_8z, rfl, N8z, K9z, r8z_0, r8z_1, lz_arr_8z, r8z_3, r8z_4, r8z_5, r8z_6, r8z_7, r8z_8⟩)
theorem ef_own_add3S (m : MethodId) (x0 : Addr) (x1 : Addr) (x2 : Addr) (x3 : Int32) : entryFrame m #[(.ref x0), (.ref x1), (.ref x2), (.int x3)] 4 = mkF m 0 #[.val (.ref x0), .val (.ref x1), .val (.ref x2), .val (.int x3)] [] := by first | (simp [entryFrame, mkF, argsToLocals, Value.category]; done) | rfl
theorem pf_own_add3S : plainFor own_m6 = true := plainFor_of_name (by simp [plainName, overriddenIn])
def Q_own_add3S (Z : State) (a : Addr) (x : Addr) (arr : Addr) (kk : ClassId) (vs : (List Value)) (sz : Int32) (mc : Int32) (zl : Int32) (i : Nat) (h0 : Heap) (v : Option Value) (h : Heap) (L : List Loc) : Prop := v = none ∧ Fr Z.heap.size L ∧ Keep h0 h [a, arr] ∧ (Exa Z h a own_s1) ∧ (own_A Z h arr kk (.object own_s2) (vs.set i (.ref x))) ∧ (Fld Z h a own_s7 "modCount" "I" (.int mc)) ∧ (Fld Z h a own_s1 "elementData" own_s3 (.ref arr)) ∧ (Fld Z h a own_s1 "size" "I" (.int (sz + (1 : Int32))))
set_option maxRecDepth 65536 in
set_option maxHeartbeats 40000000 in
theorem own_add3S (l : Launch) (Z : State) (a0 : Array Value) (hw : ∀ d ∈ tables_1, d.before a0 Z = true) (ws : List Jvm.Cond) (a : Addr) (x : Addr) (arr : Addr) (kk : ClassId) (vs : (List Value)) (sz : Int32) (mc : Int32) (zl : Int32) (i : Nat) (h0 : Heap) (O0 : Ext Z.heap h0) (q0 : Exa Z h0 a own_s1) (q1 : Z.heap.size ≤ a) (q2 : Z.heap.size ≤ arr) (q3 : Exa Z h0 x own_s9) (q4 : own_A Z h0 arr kk (.object own_s2) vs) (ov : Ovr Z kk own_s2) (hsz : sz.toInt = (i : Int)) (hzl : zl.toInt = (vs.length : Int)) (hi : i < vs.length) (nea : a ≠ arr) (q10 : Fld Z h0 a own_s7 "modCount" "I" (.int mc)) (q11 : Fld Z h0 a own_s1 "elementData" own_s3 (.ref arr)) (q12 : Fld Z h0 a own_s1 "size" "I" (.int sz)) :
    MetFree l own_m6 (head1 (Jvm.Cond.code own_m6 jdk_38_method_24_code 4 none :: ws) ({ frames := 0, cells := 0, slots := 0, locals := 0 } : Room)) (fun aa U => aa = #[(.ref a), (.ref x), (.ref arr), (.int sz)] ∧ Z.Warmed39 U.vm ∧ U.heap = h0) (fun _ _ _ _ _ => True) (fun _ U o U' => ∃ v L, o = .returned v ∧ Q_own_add3S Z a x arr kk vs sz mc zl i h0 v U'.heap L ∧ FrameEnd U o U' L ({ frames := 0, cells := 0, slots := 0, locals := 0 } : Room).cells ({ frames := 0, cells := 0, slots := 0, locals := 0 } : Room).slots) := by
  refine MetFree.of_bodySF pf_own_add3S hisR ?_
  intro p e s m args below meth c s₁ Bd hml0 hP hK
  obtain ⟨rfl, hZ, hh⟩ := hP
  have hx := Bd.exec
  have hby := Bd.bytes
  have hlk := BodyLoose.notSynchronized Bd
  have hml : c.maxLocals = 4 := hml0
  have hown : s.vm.findClass own_s1 = some m.cls := findClass_of_methodNamed Bd.named
  have hnm := (name_of_methodNamed Bd.named Bd.method).1
  have X0 : Stand p l e ({ frames := 0, cells := 0, slots := 0, locals := 0 } : Room) s m #[(.ref a), (.ref x), (.ref arr), (.int sz)] below meth c s₁ [] 0 0 := Stand.of_body Bd
  have e0 : s₁.heap = h0 := by rw [← hh, Bd.state]; rfl
  have N0 := Fr.nil Z.heap.size
  have K0 : Keep h0 h0 [a, arr] := Keep.refl _ _
  refine own_start (Q := Q_own_add3S Z a x arr kk vs sz mc zl i h0) (ef_own_add3S m (a) (x) (arr) (sz)) ?_
  show own_G p e below (s₁.setTop (mkF m 0 #[.val (.ref a), .val (.ref x), .val (.ref arr), .val (.int sz)] [])) _
  refine own_go (fun t k => XS.iloadN X0.here hx rfl (hb hby d_jdk_38_method_24_code_0) rfl k) ?_
  refine own_go (fun t k => XS.aloadN X0.here hx rfl (hb hby d_jdk_38_method_24_code_1) rfl rfl k) ?_
  refine own_go (own_len X0 hx hZ e0 q4 (z := zl) hzl (g := (mkF m 2 #[.val (.ref a), .val (.ref x), .val (.ref arr), .val (.int sz)] [(.ref arr), (.int sz)])) rfl rfl (hb hby d_jdk_38_method_24_code_2)) ?_
  refine own_go (fun t k => XS.icmpYes X0.here hx rfl (pc0 := 3) (pc' := 11) rfl (hb hby d_jdk_38_method_24_code_3) rfl (feq (own_ltlen hsz hzl hi)).2 (by decide) (by decide) k) ?_
  show own_G p e below (s₁.setTop (mkF m 11 #[.val (.ref a), .val (.ref x), .val (.ref arr), .val (.int sz)] [])) _
  refine own_go (fun t k => XS.aloadN X0.here hx rfl (hb hby d_jdk_38_method_24_code_11) rfl rfl k) ?_
  refine own_go (fun t k => XS.iloadN X0.here hx rfl (hb hby d_jdk_38_method_24_code_12) rfl k) ?_
  refine own_go (fun t k => XS.aloadN X0.here hx rfl (hb hby d_jdk_38_method_24_code_13) rfl rfl k) ?_
  obtain ⟨T1z, h1z, X1z, e1z, W1z, V1z, st1z⟩ := own_stR X0 hx hZ e0 q4 rfl (i := i) hsz hi (own_sto ov (Or.inr ⟨_, rfl, (Ins.of_exa q3 (own_hw hw 262 rfl))⟩)) rfl (g := (mkF m 14 #[.val (.ref a), .val (.ref x), .val (.ref arr), .val (.int sz)] [(.ref x), (.int sz), (.ref arr)])) rfl rfl (hb hby d_jdk_38_method_24_code_14)
  refine own_go st1z ?_
  have N1z := Fr.snoc X1z N0 q2
  have O2z := own_ext_wr O0 W1z q2
  have K2z := K0.wr W1z (Or.inl (List.mem_of_getElem? (i := 1) rfl))
  have V1z : own_A Z h1z arr kk (.object own_s2) (vs.set i (.ref x)) := V1z
  refine own_go (fun t k => XS.aloadN X1z.here hx rfl (hb hby d_jdk_38_method_24_code_15) rfl rfl k) ?_
  refine own_go (fun t k => XS.iloadN X1z.here hx rfl (hb hby d_jdk_38_method_24_code_16) rfl k) ?_
  refine own_go (fun t k => XS.iconst X1z.here hx rfl (hb hby d_jdk_38_method_24_code_17) k) ?_
  refine own_go (fun t k => XS.iadd X1z.here hx rfl (hb hby d_jdk_38_method_24_code_18) rfl k) ?_
  obtain ⟨T3z, h3z, X3z, e3z, W3z, st3z⟩ := putF X1z hx hZ hown (host := "") (Or.inl (own_hw hw 95 rfl)) Via.refl e1z (q12.other W1z (Or.inl nea)) (q0.wr W1z) (Or.inl (own_hw hw 96 rfl)) (own_hw hw 5 rfl) (ty := .int) (by decide) rfl rfl (g := (mkF m 19 #[.val (.ref a), .val (.ref x), .val (.ref arr), .val (.int sz)] [(.int (sz + (1 : Int32))), (.ref a)])) rfl rfl (hb hby d_jdk_38_method_24_code_19)
  refine own_go st3z ?_
  have N3z := Fr.snoc X3z N1z q1
  have F3z : Fld Z h3z a own_s1 "size" "I" (.int (sz + (1 : Int32))) := (q12.other W1z (Or.inl nea)).same W3z
  have O4z := own_ext_wr O2z W3z q1
  have K4z := K2z.wr W3z (Or.inl (List.mem_of_getElem? (i := 0) rfl))
  show own_G p e below (T3z.setTop (mkF m 22 #[.val (.ref a), .val (.ref x), .val (.ref arr), .val (.int sz)] [])) _
  have f5z := ((q10.other W1z (Or.inl nea)).other W3z (Or.inr (slot_ne (Or.inl (own_hw hw 26 rfl)) (Or.inl (own_hw hw 96 rfl)) (by decide) (t := .int) (t' := .int) (by decide) (by decide))))
  have f6z := ((q11.other W1z (Or.inl nea)).other W3z (Or.inr (slot_ne (Or.inl (own_hw hw 29 rfl)) (Or.inl (own_hw hw 96 rfl)) (by decide) (t := (.array (.object own_s2))) (t' := .int) (by decide) (by decide))))
  exact own_retV X3z hx Bd.returns (hb hby d_jdk_38_method_24_code_22) hlk (Nat.le_of_ble_eq_true rfl) (Nat.le_of_ble_eq_true rfl) (by show Q_own_add3S Z a x arr kk vs sz mc zl i h0 _ T3z.heap _; rw [e3z]; exact ⟨rfl, N3z, K4z, ((q0.wr W1z).wr W3z), (V1z.other W3z (Ne.symm nea)), f5z, f6z, F3z⟩)
theorem ef_own_add1S (m : MethodId) (x0 : Addr) (x1 : Addr) : entryFrame m #[(.ref x0), (.ref x1)] 2 = mkF m 0 #[.val (.ref x0), .val (.ref x1)] [] := by first | (simp [entryFrame, mkF, argsToLocals, Value.category]; done) | rfl
theorem pf_own_add1S : plainFor own_m7 = true := plainFor_of_name (by simp [plainName, overriddenIn])
def Q_own_add1S (Z : State) (a : Addr) (x : Addr) (arr : Addr) (kk : ClassId) (vs : (List Value)) (sz : Int32) (mc : Int32) (zl : Int32) (i : Nat) (h0 : Heap) (v : Option Value) (h : Heap) (L : List Loc) : Prop := v = some (.int (1 : Int32)) ∧ Fr Z.heap.size L ∧ Keep h0 h [a, arr] ∧ (Exa Z h a own_s1) ∧ (own_A Z h arr kk (.object own_s2) (vs.set i (.ref x))) ∧ (Fld Z h a own_s7 "modCount" "I" (.int (mc + (1 : Int32)))) ∧ (Fld Z h a own_s1 "elementData" own_s3 (.ref arr)) ∧ (Fld Z h a own_s1 "size" "I" (.int (sz + (1 : Int32))))
set_option maxRecDepth 65536 in
set_option maxHeartbeats 40000000 in
theorem own_add1S (l : Launch) (Z : State) (a0 : Array Value) (hw : ∀ d ∈ tables_1, d.before a0 Z = true) (ws : List Jvm.Cond) (a : Addr) (x : Addr) (arr : Addr) (kk : ClassId) (vs : (List Value)) (sz : Int32) (mc : Int32) (zl : Int32) (i : Nat) (h0 : Heap) (O0 : Ext Z.heap h0) (q0 : Exa Z h0 a own_s1) (q1 : Z.heap.size ≤ a) (q2 : Z.heap.size ≤ arr) (q3 : Exa Z h0 x own_s9) (q4 : own_A Z h0 arr kk (.object own_s2) vs) (ov : Ovr Z kk own_s2) (hsz : sz.toInt = (i : Int)) (hzl : zl.toInt = (vs.length : Int)) (hi : i < vs.length) (nea : a ≠ arr) (q10 : Fld Z h0 a own_s7 "modCount" "I" (.int mc)) (q11 : Fld Z h0 a own_s1 "elementData" own_s3 (.ref arr)) (q12 : Fld Z h0 a own_s1 "size" "I" (.int sz)) :
    MetFree l own_m7 (head1 (Jvm.Cond.code own_m7 jdk_38_method_25_code 2 (some .boolean) :: ws) ({ frames := 1, cells := 0, slots := 0, locals := 15 } : Room)) (fun aa U => aa = #[(.ref a), (.ref x)] ∧ Z.Warmed39 U.vm ∧ U.heap = h0) (fun _ _ _ _ _ => True) (fun _ U o U' => ∃ v L, o = .returned v ∧ Q_own_add1S Z a x arr kk vs sz mc zl i h0 v U'.heap L ∧ FrameEnd U o U' L ({ frames := 1, cells := 0, slots := 0, locals := 15 } : Room).cells ({ frames := 1, cells := 0, slots := 0, locals := 15 } : Room).slots) := by
  refine MetFree.of_bodySF pf_own_add1S hisR ?_
  intro p e s m args below meth c s₁ Bd hml0 hP hK
  obtain ⟨rfl, hZ, hh⟩ := hP
  have hx := Bd.exec
  have hby := Bd.bytes
  have hlk := BodyLoose.notSynchronized Bd
  have hml : c.maxLocals = 2 := hml0
  have hown : s.vm.findClass own_s1 = some m.cls := findClass_of_methodNamed Bd.named
  have hnm := (name_of_methodNamed Bd.named Bd.method).1
  have X0 : Stand p l e ({ frames := 1, cells := 0, slots := 0, locals := 15 } : Room) s m #[(.ref a), (.ref x)] below meth c s₁ [] 0 0 := Stand.of_body Bd
  have e0 : s₁.heap = h0 := by rw [← hh, Bd.state]; rfl
  have N0 := Fr.nil Z.heap.size
  have K0 : Keep h0 h0 [a, arr] := Keep.refl _ _
  refine own_start (Q := Q_own_add1S Z a x arr kk vs sz mc zl i h0) (ef_own_add1S m (a) (x)) ?_
  show own_G p e below (s₁.setTop (mkF m 0 #[.val (.ref a), .val (.ref x)] [])) _
  refine own_go (fun t k => XS.aloadN X0.here hx rfl (hb hby d_jdk_38_method_25_code_0) rfl rfl k) ?_
  refine own_go (fun t k => XS.dup X0.here hx rfl (hb hby d_jdk_38_method_25_code_1) rfl rfl k) ?_
  obtain ⟨T1z, X1z, e1z, st1z⟩ := getF X0 hx hZ hown (host := "") (Or.inl (own_hw hw 131 rfl)) (Via.of (own_hw hw 132 rfl)) e0 q10 (g := (mkF m 2 #[.val (.ref a), .val (.ref x)] [(.ref a), (.ref a)])) rfl rfl (hb hby d_jdk_38_method_25_code_2)
  refine own_go st1z ?_
  refine own_go (fun t k => XS.iconst X1z.here hx rfl (hb hby d_jdk_38_method_25_code_5) k) ?_
  refine own_go (fun t k => XS.iadd X1z.here hx rfl (hb hby d_jdk_38_method_25_code_6) rfl k) ?_
  obtain ⟨T2z, h2z, X2z, e2z, W2z, st2z⟩ := putF X1z hx hZ hown (host := "") (Or.inl (own_hw hw 131 rfl)) (Via.of (own_hw hw 132 rfl)) e1z q10 q0 (Or.inl (own_hw hw 26 rfl)) (own_hw hw 5 rfl) (ty := .int) (by decide) rfl rfl (g := (mkF m 7 #[.val (.ref a), .val (.ref x)] [(.int (mc + (1 : Int32))), (.ref a)])) rfl rfl (hb hby d_jdk_38_method_25_code_7)
  refine own_go st2z ?_
  have N2z := Fr.snoc X2z N0 q1
  have F2z : Fld Z h2z a own_s7 "modCount" "I" (.int (mc + (1 : Int32))) := q10.same W2z
  have O3z := own_ext_wr O0 W2z q1
  have K3z := K0.wr W2z (Or.inl (List.mem_of_getElem? (i := 0) rfl))
  refine own_go (fun t k => XS.aloadN X2z.here hx rfl (hb hby d_jdk_38_method_25_code_10) rfl rfl k) ?_
  refine own_go (fun t k => XS.aloadN X2z.here hx rfl (hb hby d_jdk_38_method_25_code_11) rfl rfl k) ?_
  refine own_go (fun t k => XS.aloadN X2z.here hx rfl (hb hby d_jdk_38_method_25_code_12) rfl rfl k) ?_
  show own_G p e below (T2z.setTop (mkF m 13 #[.val (.ref a), .val (.ref x)] [(.ref a), (.ref x), (.ref a)])) _
  have f4z := (q11.other W2z (Or.inr (slot_ne (Or.inl (own_hw hw 29 rfl)) (Or.inl (own_hw hw 26 rfl)) (by decide) (t := (.array (.object own_s2))) (t' := .int) (by decide) (by decide))))
  obtain ⟨T5z, X5z, e5z, st5z⟩ := getF X2z hx hZ hown (host := "") (Or.inl (own_hw hw 28 rfl)) Via.refl e2z f4z (g := (mkF m 13 #[.val (.ref a), .val (.ref x)] [(.ref a), (.ref x), (.ref a)])) rfl rfl (hb hby d_jdk_38_method_25_code_13)
  refine own_go st5z ?_
  refine own_go (fun t k => XS.aloadN X5z.here hx rfl (hb hby d_jdk_38_method_25_code_16) rfl rfl k) ?_
  have f6z := (q12.other W2z (Or.inr (slot_ne (Or.inl (own_hw hw 96 rfl)) (Or.inl (own_hw hw 26 rfl)) (by decide) (t := .int) (t' := .int) (by decide) (by decide))))
  obtain ⟨T7z, X7z, e7z, st7z⟩ := getF X5z hx hZ hown (host := "") (Or.inl (own_hw hw 95 rfl)) Via.refl e5z f6z (g := (mkF m 17 #[.val (.ref a), .val (.ref x)] [(.ref a), (.ref arr), (.ref x), (.ref a)])) rfl rfl (hb hby d_jdk_38_method_25_code_17)
  refine own_go st7z ?_
  obtain ⟨cq8z, qa8z, qb8z⟩ := (q0.wr W2z).cell
  obtain ⟨_, _, ⟨T8z, L8z, k8z, n8z⟩, -, X8z, ⟨Lc8z, hQ8z, l8z, y8z, z8z⟩, st8z⟩ := X7z.privateBack hx (y := own_m6) hown (own_mw hZ hw 133 rfl) (own_mw hZ hw 134 rfl) (own_mw hZ hw 136 rfl) (Cond.privateMethod_at (mvP hZ (own_hw hw 135 rfl) (args := #[]))) (own_mw hZ hw 137 rfl) (by decide) (backOf (W := 0) (own_add3S l Z a0 hw [] a x arr kk vs sz (mc + (1 : Int32)) zl i h2z O3z (q0.wr W2z) q1 q2 (q3.wr W2z) (q4.other W2z (Ne.symm nea)) ov hsz hzl hi nea F2z f4z f6z) hZ (own_hw hw 137 rfl) (own_hw hw 6 rfl) (by decide) (by decide)) (g := (mkF m 20 #[.val (.ref a), .val (.ref x)] [(.int sz), (.ref arr), (.ref x), (.ref a)])) rfl (by rw [hml]; rfl) (Steps.refl _) (a := a) (by rw [e7z]; exact qa8z) qb8z (argsL := [(.ref x), (.ref arr), (.int sz)]) (rest := []) (lenOf pd_2301215664 rfl) rfl (by show 2 * 0 + _ ≤ _; exact Nat.le_of_eq rfl) (hb hby d_jdk_38_method_25_code_20) (fun _ _ => ⟨rfl, e7z, (by decide : 0 + 0 ≤ _), (by decide : 0 + 0 ≤ _)⟩)
  dsimp only [Pt.U, Pt.locs, Pt.cells, Pt.slots] at X8z l8z y8z z8z st8z hQ8z
  subst l8z y8z z8z
  obtain ⟨rfl, NQ8z, K8zq, r8z_0, r8z_1, r8z_2, r8z_3, r8z_4⟩ := hQ8z
  refine own_tr st8z ?_
  have N8z := Fr.app N2z NQ8z
  have O9z := own_ext_keep O3z K8zq (allS q1 (allS q2 all0))
  have K9z := K3z.trans K8zq (allS (Or.inl (List.mem_of_getElem? (i := 0) rfl)) (allS (Or.inl (List.mem_of_getElem? (i := 1) rfl)) all0))
  show own_G p e below (T8z.setTop (mkF m 23 #[.val (.ref a), .val (.ref x)] [])) _
  refine own_go (fun t k => XS.iconst X8z.here hx rfl (hb hby d_jdk_38_method_25_code_23) k) ?_
  exact own_ret X8z hx Bd.returns rfl (Or.inl ⟨rfl, Or.inr (Or.inl rfl), _, rfl⟩) (hb hby d_jdk_38_method_25_code_24) hlk (Nat.le_of_ble_eq_true rfl) (Nat.le_of_ble_eq_true rfl) (by show Q_own_add1S Z a x arr kk vs sz mc zl i h0 _ T8z.heap _; exact ⟨rfl, N8z, K9z, r8z_0, r8z_1, r8z_2, r8z_3, r8z_4⟩)
theorem ef_own_rec (m : MethodId) (x0 : Addr) : entryFrame m #[(.ref x0)] 1 = mkF m 0 #[.val (.ref x0)] [] := by first | (simp [entryFrame, mkF, argsToLocals, Value.category]; done) | rfl
theorem pf_own_rec : plainFor own_m8 = true := plainFor_of_name (by simp [plainName, overriddenIn])
theorem d_jdk_30_method_1_code_0 : decode jdk_30_method_1_code 0 = .ok (.aload_n 0, 1) := by decide +kernel
theorem d_jdk_30_method_1_code_1 : decode jdk_30_method_1_code 1 = .ok (.invokespecial 1, 3) := by decide +kernel
theorem d_jdk_30_method_1_code_4 : decode jdk_30_method_1_code 4 = .ok (.return_, 1) := by decide +kernel
def Q_own_rec (Z : State) (a : Addr) (h0 : Heap) (v : Option Value) (h : Heap) (L : List Loc) : Prop := v = none ∧ Fr Z.heap.size L ∧ h = h0
set_option maxRecDepth 65536 in
set_option maxHeartbeats 40000000 in
theorem own_rec (l : Launch) (Z : State) (a0 : Array Value) (hw : ∀ d ∈ tables_1, d.before a0 Z = true) (ws : List Jvm.Cond) (a : Addr) (h0 : Heap) (O0 : Ext Z.heap h0) :
    MetFree l own_m8 (head1 (Jvm.Cond.code own_m8 jdk_30_method_1_code 1 none :: ws) ({ frames := 1, cells := 0, slots := 0, locals := 12 } : Room)) (fun aa U => aa = #[(.ref a)] ∧ Z.Warmed39 U.vm ∧ U.heap = h0) (fun _ _ _ _ _ => True) (fun _ U o U' => ∃ v L, o = .returned v ∧ Q_own_rec Z a h0 v U'.heap L ∧ FrameEnd U o U' L ({ frames := 1, cells := 0, slots := 0, locals := 12 } : Room).cells ({ frames := 1, cells := 0, slots := 0, locals := 12 } : Room).slots) := by
  refine MetFree.of_bodySF pf_own_rec hisR ?_
  intro p e s m args below meth c s₁ Bd hml0 hP hK
  obtain ⟨rfl, hZ, hh⟩ := hP
  have hx := Bd.exec
  have hby := Bd.bytes
  have hlk := BodyLoose.notSynchronized Bd
  have hml : c.maxLocals = 1 := hml0
  have hown : s.vm.findClass "java/lang/Record" = some m.cls := findClass_of_methodNamed Bd.named
  have hnm := (name_of_methodNamed Bd.named Bd.method).1
  have X0 : Stand p l e ({ frames := 1, cells := 0, slots := 0, locals := 12 } : Room) s m #[(.ref a)] below meth c s₁ [] 0 0 := Stand.of_body Bd
  have e0 : s₁.heap = h0 := by rw [← hh, Bd.state]; rfl
  have N0 := Fr.nil Z.heap.size
  have K0 : Keep h0 h0 [] := Keep.refl _ _
  refine own_start (Q := Q_own_rec Z a h0) (ef_own_rec m (a)) ?_
  show own_G p e below (s₁.setTop (mkF m 0 #[.val (.ref a)] [])) _
  refine own_go (fun t k => XS.aloadN X0.here hx rfl (hb hby d_jdk_30_method_1_code_0) rfl rfl k) ?_
  obtain ⟨T1z, X1z, e1z, st1z⟩ := initO X0 hx hZ hown (own_hw hw 71 rfl) (own_hw hw 23 rfl) (own_hw hw 24 rfl) e0 (g := (mkF m 1 #[.val (.ref a)] [(.ref a)])) rfl (by rw [hml]; rfl) rfl (hb hby d_jdk_30_method_1_code_1) (by decide) (W := 0) (by show 2 * 0 + _ ≤ _; exact Nat.le_of_eq rfl) (by decide)
  refine own_go st1z ?_
  show own_G p e below (T1z.setTop (mkF m 4 #[.val (.ref a)] [])) _
  exact own_retV X1z hx Bd.returns (hb hby d_jdk_30_method_1_code_4) hlk (Nat.le_of_ble_eq_true rfl) (Nat.le_of_ble_eq_true rfl) (by show Q_own_rec Z a h0 _ T1z.heap _; rw [e1z]; exact ⟨rfl, N0, rfl⟩)
theorem ef_own_aic (m : MethodId) (x0 : Addr) : entryFrame m #[(.ref x0)] 1 = mkF m 0 #[.val (.ref x0)] [] := by first | (simp [entryFrame, mkF, argsToLocals, Value.category]; done) | rfl
theorem pf_own_aic : plainFor own_m9 = true := plainFor_of_name (by simp [plainName, overriddenIn])
theorem d_jdk_47_method_1_code_0 : decode jdk_47_method_1_code 0 = .ok (.aload_n 0, 1) := by decide +kernel
theorem d_jdk_47_method_1_code_1 : decode jdk_47_method_1_code 1 = .ok (.invokespecial 1, 3) := by decide +kernel
theorem d_jdk_47_method_1_code_4 : decode jdk_47_method_1_code 4 = .ok (.return_, 1) := by decide +kernel
def Q_own_aic (Z : State) (a : Addr) (h0 : Heap) (v : Option Value) (h : Heap) (L : List Loc) : Prop := v = none ∧ Fr Z.heap.size L ∧ h = h0
set_option maxRecDepth 65536 in
set_option maxHeartbeats 40000000 in
theorem own_aic (l : Launch) (Z : State) (a0 : Array Value) (hw : ∀ d ∈ tables_1, d.before a0 Z = true) (ws : List Jvm.Cond) (a : Addr) (h0 : Heap) (O0 : Ext Z.heap h0) :
    MetFree l own_m9 (head1 (Jvm.Cond.code own_m9 jdk_47_method_1_code 1 none :: ws) ({ frames := 2, cells := 0, slots := 0, locals := 24 } : Room)) (fun aa U => aa = #[(.ref a)] ∧ Z.Warmed39 U.vm ∧ U.heap = h0) (fun _ _ _ _ _ => True) (fun _ U o U' => ∃ v L, o = .returned v ∧ Q_own_aic Z a h0 v U'.heap L ∧ FrameEnd U o U' L ({ frames := 2, cells := 0, slots := 0, locals := 24 } : Room).cells ({ frames := 2, cells := 0, slots := 0, locals := 24 } : Room).slots) := by
  refine MetFree.of_bodySF pf_own_aic hisR ?_
  intro p e s m args below meth c s₁ Bd hml0 hP hK
  obtain ⟨rfl, hZ, hh⟩ := hP
  have hx := Bd.exec
  have hby := Bd.bytes
  have hlk := BodyLoose.notSynchronized Bd
  have hml : c.maxLocals = 1 := hml0
  have hown : s.vm.findClass "java/util/ImmutableCollections$AbstractImmutableCollection" = some m.cls := findClass_of_methodNamed Bd.named
  have hnm := (name_of_methodNamed Bd.named Bd.method).1
  have X0 : Stand p l e ({ frames := 2, cells := 0, slots := 0, locals := 24 } : Room) s m #[(.ref a)] below meth c s₁ [] 0 0 := Stand.of_body Bd
  have e0 : s₁.heap = h0 := by rw [← hh, Bd.state]; rfl
  have N0 := Fr.nil Z.heap.size
  have K0 : Keep h0 h0 [] := Keep.refl _ _
  refine own_start (Q := Q_own_aic Z a h0) (ef_own_aic m (a)) ?_
  show own_G p e below (s₁.setTop (mkF m 0 #[.val (.ref a)] [])) _
  refine own_go (fun t k => XS.aloadN X0.here hx rfl (hb hby d_jdk_47_method_1_code_0) rfl rfl k) ?_
  obtain ⟨_, _, ⟨T1z, L1z, k1z, n1z⟩, -, X1z, ⟨Lc1z, hQ1z, l1z, y1z, z1z⟩, st1z⟩ := X0.specialBack hx (y := own_m0) rfl hown (own_mw hZ hw 215 rfl) (own_mw hZ hw 17 rfl) (own_mw hZ hw 21 rfl) (by decide) (backOf (W := 0) (own_abc l Z a0 hw [] a h0 O0) hZ (own_hw hw 21 rfl) (own_hw hw 20 rfl) (by decide) (by decide)) (g := (mkF m 1 #[.val (.ref a)] [(.ref a)])) rfl (by rw [hml]; rfl) (Steps.refl _) (a := a) (argsL := []) (rest := []) (lenOf pd_193421996 rfl) rfl (by show 2 * 0 + _ ≤ _; exact Nat.le_of_eq rfl) (hb hby d_jdk_47_method_1_code_1) (fun _ _ => ⟨rfl, e0, (by decide : 0 + 0 ≤ _), (by decide : 0 + 0 ≤ _)⟩)
  dsimp only [Pt.U, Pt.locs, Pt.cells, Pt.slots] at X1z l1z y1z z1z st1z hQ1z
  subst l1z y1z z1z
  obtain ⟨rfl, NQ1z, K1zq⟩ := hQ1z
  refine own_tr st1z ?_
  have N1z := Fr.app N0 NQ1z
  show own_G p e below (T1z.setTop (mkF m 4 #[.val (.ref a)] [])) _
  exact own_retV X1z hx Bd.returns (hb hby d_jdk_47_method_1_code_4) hlk (Nat.le_of_ble_eq_true rfl) (Nat.le_of_ble_eq_true rfl) (by show Q_own_aic Z a h0 _ T1z.heap _; rw [K1zq]; exact ⟨rfl, N1z, rfl⟩)
theorem ef_own_ail (m : MethodId) (x0 : Addr) : entryFrame m #[(.ref x0)] 1 = mkF m 0 #[.val (.ref x0)] [] := by first | (simp [entryFrame, mkF, argsToLocals, Value.category]; done) | rfl
theorem pf_own_ail : plainFor own_m10 = true := plainFor_of_name (by simp [plainName, overriddenIn])
theorem d_jdk_46_method_1_code_0 : decode jdk_46_method_1_code 0 = .ok (.aload_n 0, 1) := by decide +kernel
theorem d_jdk_46_method_1_code_1 : decode jdk_46_method_1_code 1 = .ok (.invokespecial 1, 3) := by decide +kernel
theorem d_jdk_46_method_1_code_4 : decode jdk_46_method_1_code 4 = .ok (.return_, 1) := by decide +kernel
def Q_own_ail (Z : State) (a : Addr) (h0 : Heap) (v : Option Value) (h : Heap) (L : List Loc) : Prop := v = none ∧ Fr Z.heap.size L ∧ h = h0
set_option maxRecDepth 65536 in
set_option maxHeartbeats 40000000 in
theorem own_ail (l : Launch) (Z : State) (a0 : Array Value) (hw : ∀ d ∈ tables_1, d.before a0 Z = true) (ws : List Jvm.Cond) (a : Addr) (h0 : Heap) (O0 : Ext Z.heap h0) :
    MetFree l own_m10 (head1 (Jvm.Cond.code own_m10 jdk_46_method_1_code 1 none :: ws) ({ frames := 3, cells := 0, slots := 0, locals := 36 } : Room)) (fun aa U => aa = #[(.ref a)] ∧ Z.Warmed39 U.vm ∧ U.heap = h0) (fun _ _ _ _ _ => True) (fun _ U o U' => ∃ v L, o = .returned v ∧ Q_own_ail Z a h0 v U'.heap L ∧ FrameEnd U o U' L ({ frames := 3, cells := 0, slots := 0, locals := 36 } : Room).cells ({ frames := 3, cells := 0, slots := 0, locals := 36 } : Room).slots) := by
  refine MetFree.of_bodySF pf_own_ail hisR ?_
  intro p e s m args below meth c s₁ Bd hml0 hP hK
  obtain ⟨rfl, hZ, hh⟩ := hP
  have hx := Bd.exec
  have hby := Bd.bytes
  have hlk := BodyLoose.notSynchronized Bd
  have hml : c.maxLocals = 1 := hml0
  have hown : s.vm.findClass "java/util/ImmutableCollections$AbstractImmutableList" = some m.cls := findClass_of_methodNamed Bd.named
  have hnm := (name_of_methodNamed Bd.named Bd.method).1
  have X0 : Stand p l e ({ frames := 3, cells := 0, slots := 0, locals := 36 } : Room) s m #[(.ref a)] below meth c s₁ [] 0 0 := Stand.of_body Bd
  have e0 : s₁.heap = h0 := by rw [← hh, Bd.state]; rfl
  have N0 := Fr.nil Z.heap.size
  have K0 : Keep h0 h0 [] := Keep.refl _ _
  refine own_start (Q := Q_own_ail Z a h0) (ef_own_ail m (a)) ?_
  show own_G p e below (s₁.setTop (mkF m 0 #[.val (.ref a)] [])) _
  refine own_go (fun t k => XS.aloadN X0.here hx rfl (hb hby d_jdk_46_method_1_code_0) rfl rfl k) ?_
  obtain ⟨_, _, ⟨T1z, L1z, k1z, n1z⟩, -, X1z, ⟨Lc1z, hQ1z, l1z, y1z, z1z⟩, st1z⟩ := X0.specialBack hx (y := own_m9) rfl hown (own_mw hZ hw 209 rfl) (own_mw hZ hw 210 rfl) (own_mw hZ hw 214 rfl) (by decide) (backOf (W := 0) (own_aic l Z a0 hw [] a h0 O0) hZ (own_hw hw 214 rfl) (own_hw hw 213 rfl) (by decide) (by decide)) (g := (mkF m 1 #[.val (.ref a)] [(.ref a)])) rfl (by rw [hml]; rfl) (Steps.refl _) (a := a) (argsL := []) (rest := []) (lenOf pd_193421996 rfl) rfl (by show 2 * 0 + _ ≤ _; exact Nat.le_of_eq rfl) (hb hby d_jdk_46_method_1_code_1) (fun _ _ => ⟨rfl, e0, (by decide : 0 + 0 ≤ _), (by decide : 0 + 0 ≤ _)⟩)
  dsimp only [Pt.U, Pt.locs, Pt.cells, Pt.slots] at X1z l1z y1z z1z st1z hQ1z
  subst l1z y1z z1z
  obtain ⟨rfl, NQ1z, K1zq⟩ := hQ1z
  refine own_tr st1z ?_
  have N1z := Fr.app N0 NQ1z
  show own_G p e below (T1z.setTop (mkF m 4 #[.val (.ref a)] [])) _
  exact own_retV X1z hx Bd.returns (hb hby d_jdk_46_method_1_code_4) hlk (Nat.le_of_ble_eq_true rfl) (Nat.le_of_ble_eq_true rfl) (by show Q_own_ail Z a h0 _ T1z.heap _; rw [K1zq]; exact ⟨rfl, N1z, rfl⟩)
theorem ef_own_rnn (m : MethodId) (x0 : Addr) : entryFrame m #[(.ref x0)] 1 = mkF m 0 #[.val (.ref x0)] [] := by first | (simp [entryFrame, mkF, argsToLocals, Value.category]; done) | rfl
theorem pf_own_rnn : plainFor own_m11 = true := plainFor_of_name (by simp [plainName, overriddenIn])
theorem d_jdk_31_method_10_code_0 : decode jdk_31_method_10_code 0 = .ok (.aload_n 0, 1) := by decide +kernel
theorem d_jdk_31_method_10_code_1 : decode jdk_31_method_10_code 1 = .ok (.ifnonnull 11, 3) := by decide +kernel
theorem d_jdk_31_method_10_code_12 : decode jdk_31_method_10_code 12 = .ok (.aload_n 0, 1) := by decide +kernel
theorem d_jdk_31_method_10_code_13 : decode jdk_31_method_10_code 13 = .ok (.areturn, 1) := by decide +kernel
def Q_own_rnn (Z : State) (a : Addr) (h0 : Heap) (v : Option Value) (h : Heap) (L : List Loc) : Prop := v = some (.ref a) ∧ Fr Z.heap.size L ∧ h = h0
set_option maxRecDepth 65536 in
set_option maxHeartbeats 40000000 in
theorem own_rnn (l : Launch) (Z : State) (a0 : Array Value) (hw : ∀ d ∈ tables_1, d.before a0 Z = true) (ws : List Jvm.Cond) (a : Addr) (h0 : Heap) (O0 : Ext Z.heap h0) :
    MetFree l own_m11 (head1 (Jvm.Cond.code own_m11 jdk_31_method_10_code 1 (some (.object own_s2)) :: ws) ({ frames := 0, cells := 0, slots := 0, locals := 0 } : Room)) (fun aa U => aa = #[(.ref a)] ∧ Z.Warmed39 U.vm ∧ U.heap = h0) (fun _ _ _ _ _ => True) (fun _ U o U' => ∃ v L, o = .returned v ∧ Q_own_rnn Z a h0 v U'.heap L ∧ FrameEnd U o U' L ({ frames := 0, cells := 0, slots := 0, locals := 0 } : Room).cells ({ frames := 0, cells := 0, slots := 0, locals := 0 } : Room).slots) := by
  refine MetFree.of_bodySF pf_own_rnn hisR ?_
  intro p e s m args below meth c s₁ Bd hml0 hP hK
  obtain ⟨rfl, hZ, hh⟩ := hP
  have hx := Bd.exec
  have hby := Bd.bytes
  have hlk := BodyLoose.notSynchronized Bd
  have hml : c.maxLocals = 1 := hml0
  have hown : s.vm.findClass "java/util/Objects" = some m.cls := findClass_of_methodNamed Bd.named
  have hnm := (name_of_methodNamed Bd.named Bd.method).1
  have X0 : Stand p l e ({ frames := 0, cells := 0, slots := 0, locals := 0 } : Room) s m #[(.ref a)] below meth c s₁ [] 0 0 := Stand.of_body Bd
  have e0 : s₁.heap = h0 := by rw [← hh, Bd.state]; rfl
  have N0 := Fr.nil Z.heap.size
  have K0 : Keep h0 h0 [] := Keep.refl _ _
  refine own_start (Q := Q_own_rnn Z a h0) (ef_own_rnn m (a)) ?_
  show own_G p e below (s₁.setTop (mkF m 0 #[.val (.ref a)] [])) _
  refine own_go (fun t k => XS.aloadN X0.here hx rfl (hb hby d_jdk_31_method_10_code_0) rfl rfl k) ?_
  refine own_go (fun t k => XS.ifnonnullYes X0.here hx rfl (pc0 := 1) (pc' := 12) rfl (hb hby d_jdk_31_method_10_code_1) rfl (by decide) (by decide) k) ?_
  show own_G p e below (s₁.setTop (mkF m 12 #[.val (.ref a)] [])) _
  refine own_go (fun t k => XS.aloadN X0.here hx rfl (hb hby d_jdk_31_method_10_code_12) rfl rfl k) ?_
  exact own_ret X0 hx Bd.returns rfl (Or.inr (Or.inr (Or.inr (Or.inr ⟨rfl, rfl, rfl⟩)))) (hb hby d_jdk_31_method_10_code_13) hlk (Nat.le_of_ble_eq_true rfl) (Nat.le_of_ble_eq_true rfl) (by show Q_own_rnn Z a h0 _ s₁.heap _; rw [e0]; exact ⟨rfl, N0, rfl⟩)
theorem ef_own_seli (m : MethodId) (x0 : Addr) : entryFrame m #[(.ref x0), .null, .null, .null] 4 = mkF m 0 #[.val (.ref x0), .val .null, .val .null, .val .null] [] := by first | (simp [entryFrame, mkF, argsToLocals, Value.category]; done) | rfl
theorem pf_own_seli : plainFor own_m12 = true := plainFor_of_name (by simp [plainName, overriddenIn])
theorem d_prog_55_method_1_code_0 : decode prog_55_method_1_code 0 = .ok (.aload_n 0, 1) := by decide +kernel
theorem d_prog_55_method_1_code_1 : decode prog_55_method_1_code 1 = .ok (.invokespecial 1, 3) := by decide +kernel
theorem d_prog_55_method_1_code_10 : decode prog_55_method_1_code 10 = .ok (.aload_n 2, 1) := by decide +kernel
theorem d_prog_55_method_1_code_11 : decode prog_55_method_1_code 11 = .ok (.putfield 13, 3) := by decide +kernel
theorem d_prog_55_method_1_code_14 : decode prog_55_method_1_code 14 = .ok (.aload_n 0, 1) := by decide +kernel
theorem d_prog_55_method_1_code_15 : decode prog_55_method_1_code 15 = .ok (.aload_n 3, 1) := by decide +kernel
theorem d_prog_55_method_1_code_16 : decode prog_55_method_1_code 16 = .ok (.putfield 17, 3) := by decide +kernel
theorem d_prog_55_method_1_code_19 : decode prog_55_method_1_code 19 = .ok (.return_, 1) := by decide +kernel
theorem d_prog_55_method_1_code_4 : decode prog_55_method_1_code 4 = .ok (.aload_n 0, 1) := by decide +kernel
theorem d_prog_55_method_1_code_5 : decode prog_55_method_1_code 5 = .ok (.aload_n 1, 1) := by decide +kernel
theorem d_prog_55_method_1_code_6 : decode prog_55_method_1_code 6 = .ok (.putfield 7, 3) := by decide +kernel
theorem d_prog_55_method_1_code_9 : decode prog_55_method_1_code 9 = .ok (.aload_n 0, 1) := by decide +kernel
def Q_own_seli (Z : State) (a : Addr) (h0 : Heap) (v : Option Value) (h : Heap) (L : List Loc) : Prop := v = none ∧ Fr Z.heap.size L ∧ Keep h0 h [a] ∧ (Exa Z h a own_s9)
set_option maxRecDepth 65536 in
set_option maxHeartbeats 40000000 in
theorem own_seli (l : Launch) (Z : State) (a0 : Array Value) (hw : ∀ d ∈ tables_1, d.before a0 Z = true) (ws : List Jvm.Cond) (a : Addr) (h0 : Heap) (O0 : Ext Z.heap h0) (q0 : Exa Z h0 a own_s9) (q1 : Z.heap.size ≤ a) (q2 : Fld Z h0 a own_s9 "path" own_s25 .null) (q3 : Fld Z h0 a own_s9 "test" own_s24 .null) (q4 : Fld Z h0 a own_s9 "value" own_s18 .null) :
    MetFree l own_m12 (head1 (Jvm.Cond.code own_m12 prog_55_method_1_code 4 none :: ws) ({ frames := 2, cells := 0, slots := 0, locals := 24 } : Room)) (fun aa U => aa = #[(.ref a), .null, .null, .null] ∧ Z.Warmed39 U.vm ∧ U.heap = h0) (fun _ _ _ _ _ => True) (fun _ U o U' => ∃ v L, o = .returned v ∧ Q_own_seli Z a h0 v U'.heap L ∧ FrameEnd U o U' L ({ frames := 2, cells := 0, slots := 0, locals := 24 } : Room).cells ({ frames := 2, cells := 0, slots := 0, locals := 24 } : Room).slots) := by
  refine MetFree.of_bodySF pf_own_seli hisR ?_
  intro p e s m args below meth c s₁ Bd hml0 hP hK
  obtain ⟨rfl, hZ, hh⟩ := hP
  have hx := Bd.exec
  have hby := Bd.bytes
  have hlk := BodyLoose.notSynchronized Bd
  have hml : c.maxLocals = 4 := hml0
  have hown : s.vm.findClass own_s9 = some m.cls := findClass_of_methodNamed Bd.named
  have hnm := (name_of_methodNamed Bd.named Bd.method).1
  have X0 : Stand p l e ({ frames := 2, cells := 0, slots := 0, locals := 24 } : Room) s m #[(.ref a), .null, .null, .null] below meth c s₁ [] 0 0 := Stand.of_body Bd
  have e0 : s₁.heap = h0 := by rw [← hh, Bd.state]; rfl
  have N0 := Fr.nil Z.heap.size
  have K0 : Keep h0 h0 [a] := Keep.refl _ _
  refine own_start (Q := Q_own_seli Z a h0) (ef_own_seli m (a)) ?_
  show own_G p e below (s₁.setTop (mkF m 0 #[.val (.ref a), .val .null, .val .null, .val .null] [])) _
  refine own_go (fun t k => XS.aloadN X0.here hx rfl (hb hby d_prog_55_method_1_code_0) rfl rfl k) ?_
  obtain ⟨_, _, ⟨T1z, L1z, k1z, n1z⟩, -, X1z, ⟨Lc1z, hQ1z, l1z, y1z, z1z⟩, st1z⟩ := X0.specialBack hx (y := own_m8) rfl hown (own_mw hZ hw 255 rfl) (own_mw hZ hw 67 rfl) (own_mw hZ hw 70 rfl) (by decide) (backOf (W := 0) (own_rec l Z a0 hw [] a h0 O0) hZ (own_hw hw 70 rfl) (own_hw hw 69 rfl) (by decide) (by decide)) (g := (mkF m 1 #[.val (.ref a), .val .null, .val .null, .val .null] [(.ref a)])) rfl (by rw [hml]; rfl) (Steps.refl _) (a := a) (argsL := []) (rest := []) (lenOf pd_193421996 rfl) rfl (by show 2 * 0 + _ ≤ _; exact Nat.le_of_eq rfl) (hb hby d_prog_55_method_1_code_1) (fun _ _ => ⟨rfl, e0, (by decide : 0 + 0 ≤ _), (by decide : 0 + 0 ≤ _)⟩)
  dsimp only [Pt.U, Pt.locs, Pt.cells, Pt.slots] at X1z l1z y1z z1z st1z hQ1z
  subst l1z y1z z1z
  obtain ⟨rfl, NQ1z, K1zq⟩ := hQ1z
  refine own_tr st1z ?_
  have N1z := Fr.app N0 NQ1z
  show own_G p e below (T1z.setTop (mkF m 4 #[.val (.ref a), .val .null, .val .null, .val .null] [])) _
  refine own_go (fun t k => XS.aloadN X1z.here hx rfl (hb hby d_prog_55_method_1_code_4) rfl rfl k) ?_
  refine own_go (fun t k => XS.aloadN X1z.here hx rfl (hb hby d_prog_55_method_1_code_5) rfl rfl k) ?_
  obtain ⟨T2z, h2z, X2z, e2z, W2z, st2z⟩ := putF X1z hx hZ hown (host := "") (Or.inl (own_hw hw 256 rfl)) Via.refl K1zq q2 q0 (Or.inr ⟨(own_hw hw 257 rfl), rfl, hnm⟩) (own_hw hw 250 rfl) (ty := (.object own_s23)) (by decide) rfl rfl (g := (mkF m 6 #[.val (.ref a), .val .null, .val .null, .val .null] [.null, (.ref a)])) rfl rfl (hb hby d_prog_55_method_1_code_6)
  refine own_go st2z ?_
  have N2z := Fr.snoc X2z N1z q1
  have F2z : Fld Z h2z a own_s9 "path" own_s25 .null := q2.same W2z
  have O3z := own_ext_wr O0 W2z q1
  have K3z := K0.wr W2z (Or.inl (List.mem_of_getElem? (i := 0) rfl))
  refine own_go (fun t k => XS.aloadN X2z.here hx rfl (hb hby d_prog_55_method_1_code_9) rfl rfl k) ?_
  refine own_go (fun t k => XS.aloadN X2z.here hx rfl (hb hby d_prog_55_method_1_code_10) rfl rfl k) ?_
  have f4z := (q3.other W2z (Or.inr (slot_ne (Or.inr (own_hw hw 259 rfl)) (Or.inr (own_hw hw 257 rfl)) (by decide) (t := (.object own_s21)) (t' := (.object own_s23)) (by decide) (by decide))))
  obtain ⟨T5z, h5z, X5z, e5z, W5z, st5z⟩ := putF X2z hx hZ hown (host := "") (Or.inl (own_hw hw 258 rfl)) Via.refl e2z f4z (q0.wr W2z) (Or.inr ⟨(own_hw hw 259 rfl), rfl, hnm⟩) (own_hw hw 250 rfl) (ty := (.object own_s21)) (by decide) rfl rfl (g := (mkF m 11 #[.val (.ref a), .val .null, .val .null, .val .null] [.null, (.ref a)])) rfl rfl (hb hby d_prog_55_method_1_code_11)
  refine own_go st5z ?_
  have N5z := Fr.snoc X5z N2z q1
  have F5z : Fld Z h5z a own_s9 "test" own_s24 .null := f4z.same W5z
  have O6z := own_ext_wr O3z W5z q1
  have K6z := K3z.wr W5z (Or.inl (List.mem_of_getElem? (i := 0) rfl))
  refine own_go (fun t k => XS.aloadN X5z.here hx rfl (hb hby d_prog_55_method_1_code_14) rfl rfl k) ?_
  refine own_go (fun t k => XS.aloadN X5z.here hx rfl (hb hby d_prog_55_method_1_code_15) rfl rfl k) ?_
  have f7z := ((q4.other W2z (Or.inr (slot_ne (Or.inr (own_hw hw 261 rfl)) (Or.inr (own_hw hw 257 rfl)) (by decide) (t := (.object own_s11)) (t' := (.object own_s23)) (by decide) (by decide)))).other W5z (Or.inr (slot_ne (Or.inr (own_hw hw 261 rfl)) (Or.inr (own_hw hw 259 rfl)) (by decide) (t := (.object own_s11)) (t' := (.object own_s21)) (by decide) (by decide))))
  obtain ⟨T8z, h8z, X8z, e8z, W8z, st8z⟩ := putF X5z hx hZ hown (host := "") (Or.inl (own_hw hw 260 rfl)) Via.refl e5z f7z ((q0.wr W2z).wr W5z) (Or.inr ⟨(own_hw hw 261 rfl), rfl, hnm⟩) (own_hw hw 250 rfl) (ty := (.object own_s11)) (by decide) rfl rfl (g := (mkF m 16 #[.val (.ref a), .val .null, .val .null, .val .null] [.null, (.ref a)])) rfl rfl (hb hby d_prog_55_method_1_code_16)
  refine own_go st8z ?_
  have N8z := Fr.snoc X8z N5z q1
  have F8z : Fld Z h8z a own_s9 "value" own_s18 .null := f7z.same W8z
  have O9z := own_ext_wr O6z W8z q1
  have K9z := K6z.wr W8z (Or.inl (List.mem_of_getElem? (i := 0) rfl))
  show own_G p e below (T8z.setTop (mkF m 19 #[.val (.ref a), .val .null, .val .null, .val .null] [])) _
  exact own_retV X8z hx Bd.returns (hb hby d_prog_55_method_1_code_19) hlk (Nat.le_of_ble_eq_true rfl) (Nat.le_of_ble_eq_true rfl) (by show Q_own_seli Z a h0 _ T8z.heap _; rw [e8z]; exact ⟨rfl, N8z, K9z, (((q0.wr W2z).wr W5z).wr W8z)⟩)
theorem ef_own_sti (m : MethodId) (x0 : Addr) (x1 : Addr) (x2 : Int32) : entryFrame m #[(.ref x0), (.ref x1), (.int x2)] 3 = mkF m 0 #[.val (.ref x0), .val (.ref x1), .val (.int x2)] [] := by first | (simp [entryFrame, mkF, argsToLocals, Value.category]; done) | rfl
theorem pf_own_sti : plainFor own_m13 = true := plainFor_of_name (by simp [plainName, overriddenIn])
theorem d_jdk_42_method_151_code_0 : decode jdk_42_method_151_code 0 = .ok (.aload_n 0, 1) := by decide +kernel
theorem d_jdk_42_method_151_code_1 : decode jdk_42_method_151_code 1 = .ok (.invokespecial 1, 3) := by decide +kernel
theorem d_jdk_42_method_151_code_10 : decode jdk_42_method_151_code 10 = .ok (.iload_n 2, 1) := by decide +kernel
theorem d_jdk_42_method_151_code_11 : decode jdk_42_method_151_code 11 = .ok (.putfield 15, 3) := by decide +kernel
theorem d_jdk_42_method_151_code_14 : decode jdk_42_method_151_code 14 = .ok (.return_, 1) := by decide +kernel
theorem d_jdk_42_method_151_code_4 : decode jdk_42_method_151_code 4 = .ok (.aload_n 0, 1) := by decide +kernel
theorem d_jdk_42_method_151_code_5 : decode jdk_42_method_151_code 5 = .ok (.aload_n 1, 1) := by decide +kernel
theorem d_jdk_42_method_151_code_6 : decode jdk_42_method_151_code 6 = .ok (.putfield 9, 3) := by decide +kernel
theorem d_jdk_42_method_151_code_9 : decode jdk_42_method_151_code 9 = .ok (.aload_n 0, 1) := by decide +kernel
def Q_own_sti (Z : State) (a : Addr) (b : Addr) (h0 : Heap) (v : Option Value) (h : Heap) (L : List Loc) : Prop := v = none ∧ Fr Z.heap.size L ∧ Keep h0 h [a] ∧ (Exa Z h a own_s11)
set_option maxRecDepth 65536 in
set_option maxHeartbeats 40000000 in
theorem own_sti (l : Launch) (Z : State) (a0 : Array Value) (hw : ∀ d ∈ tables_1, d.before a0 Z = true) (ws : List Jvm.Cond) (a : Addr) (b : Addr) (h0 : Heap) (O0 : Ext Z.heap h0) (q0 : Exa Z h0 a own_s11) (q1 : Z.heap.size ≤ a) (q2 : Fld Z h0 a own_s11 "value" "[B" .null) (q3 : Fld Z h0 a own_s11 "coder" "B" (.int (0 : Int32))) :
    MetFree l own_m13 (head1 (Jvm.Cond.code own_m13 jdk_42_method_151_code 3 none :: ws) ({ frames := 1, cells := 0, slots := 0, locals := 12 } : Room)) (fun aa U => aa = #[(.ref a), (.ref b), (.int (0 : Int32))] ∧ Z.Warmed39 U.vm ∧ U.heap = h0) (fun _ _ _ _ _ => True) (fun _ U o U' => ∃ v L, o = .returned v ∧ Q_own_sti Z a b h0 v U'.heap L ∧ FrameEnd U o U' L ({ frames := 1, cells := 0, slots := 0, locals := 12 } : Room).cells ({ frames := 1, cells := 0, slots := 0, locals := 12 } : Room).slots) := by
  refine MetFree.of_bodySF pf_own_sti hisR ?_
  intro p e s m args below meth c s₁ Bd hml0 hP hK
  obtain ⟨rfl, hZ, hh⟩ := hP
  have hx := Bd.exec
  have hby := Bd.bytes
  have hlk := BodyLoose.notSynchronized Bd
  have hml : c.maxLocals = 3 := hml0
  have hown : s.vm.findClass own_s11 = some m.cls := findClass_of_methodNamed Bd.named
  have hnm := (name_of_methodNamed Bd.named Bd.method).1
  have X0 : Stand p l e ({ frames := 1, cells := 0, slots := 0, locals := 12 } : Room) s m #[(.ref a), (.ref b), (.int (0 : Int32))] below meth c s₁ [] 0 0 := Stand.of_body Bd
  have e0 : s₁.heap = h0 := by rw [← hh, Bd.state]; rfl
  have N0 := Fr.nil Z.heap.size
  have K0 : Keep h0 h0 [a] := Keep.refl _ _
  refine own_start (Q := Q_own_sti Z a b h0) (ef_own_sti m (a) (b) ((0 : Int32))) ?_
  show own_G p e below (s₁.setTop (mkF m 0 #[.val (.ref a), .val (.ref b), .val (.int (0 : Int32))] [])) _
  refine own_go (fun t k => XS.aloadN X0.here hx rfl (hb hby d_jdk_42_method_151_code_0) rfl rfl k) ?_
  obtain ⟨T1z, X1z, e1z, st1z⟩ := initO X0 hx hZ hown (own_hw hw 55 rfl) (own_hw hw 23 rfl) (own_hw hw 24 rfl) e0 (g := (mkF m 1 #[.val (.ref a), .val (.ref b), .val (.int (0 : Int32))] [(.ref a)])) rfl (by rw [hml]; rfl) rfl (hb hby d_jdk_42_method_151_code_1) (by decide) (W := 0) (by show 2 * 0 + _ ≤ _; exact Nat.le_of_eq rfl) (by decide)
  refine own_go st1z ?_
  show own_G p e below (T1z.setTop (mkF m 4 #[.val (.ref a), .val (.ref b), .val (.int (0 : Int32))] [])) _
  refine own_go (fun t k => XS.aloadN X1z.here hx rfl (hb hby d_jdk_42_method_151_code_4) rfl rfl k) ?_
  refine own_go (fun t k => XS.aloadN X1z.here hx rfl (hb hby d_jdk_42_method_151_code_5) rfl rfl k) ?_
  obtain ⟨T2z, h2z, X2z, e2z, W2z, st2z⟩ := putF X1z hx hZ hown (host := "") (Or.inl (own_hw hw 56 rfl)) Via.refl e1z q2 q0 (Or.inr ⟨(own_hw hw 57 rfl), rfl, hnm⟩) (own_hw hw 46 rfl) (ty := (.array .byte)) (by decide) rfl rfl (g := (mkF m 6 #[.val (.ref a), .val (.ref b), .val (.int (0 : Int32))] [(.ref b), (.ref a)])) rfl rfl (hb hby d_jdk_42_method_151_code_6)
  refine own_go st2z ?_
  have N2z := Fr.snoc X2z N0 q1
  have F2z : Fld Z h2z a own_s11 "value" "[B" (.ref b) := q2.same W2z
  have O3z := own_ext_wr O0 W2z q1
  have K3z := K0.wr W2z (Or.inl (List.mem_of_getElem? (i := 0) rfl))
  refine own_go (fun t k => XS.aloadN X2z.here hx rfl (hb hby d_jdk_42_method_151_code_9) rfl rfl k) ?_
  refine own_go (fun t k => XS.iloadN X2z.here hx rfl (hb hby d_jdk_42_method_151_code_10) rfl k) ?_
  have f4z := (q3.other W2z (Or.inr (slot_ne (Or.inr (own_hw hw 59 rfl)) (Or.inr (own_hw hw 57 rfl)) (by decide) (t := .byte) (t' := (.array .byte)) (by decide) (by decide))))
  obtain ⟨T5z, h5z, X5z, e5z, W5z, st5z⟩ := putF X2z hx hZ hown (host := "") (Or.inl (own_hw hw 58 rfl)) Via.refl e2z f4z (q0.wr W2z) (Or.inr ⟨(own_hw hw 59 rfl), rfl, hnm⟩) (own_hw hw 46 rfl) (ty := .byte) (by decide) rfl rfl (g := (mkF m 11 #[.val (.ref a), .val (.ref b), .val (.int (0 : Int32))] [(.int (0 : Int32)), (.ref a)])) rfl rfl (hb hby d_jdk_42_method_151_code_11)
  refine own_go st5z ?_
  have N5z := Fr.snoc X5z N2z q1
  have F5z : Fld Z h5z a own_s11 "coder" "B" (.int (0 : Int32)) := f4z.same W5z
  have O6z := own_ext_wr O3z W5z q1
  have K6z := K3z.wr W5z (Or.inl (List.mem_of_getElem? (i := 0) rfl))
  exact own_retV X5z hx Bd.returns (hb hby d_jdk_42_method_151_code_14) hlk (Nat.le_of_ble_eq_true rfl) (Nat.le_of_ble_eq_true rfl) (by show Q_own_sti Z a b h0 _ T5z.heap _; rw [e5z]; exact ⟨rfl, N5z, K6z, ((q0.wr W2z).wr W5z)⟩)
theorem ef_own_ce0 (m : MethodId) (x0 : Int32) : entryFrame m #[(.int x0)] 1 = mkF m 0 #[.val (.int x0)] [] := by first | (simp [entryFrame, mkF, argsToLocals, Value.category]; done) | rfl
theorem pf_own_ce0 : plainFor own_m14 = true := plainFor_of_name (by simp [plainName, overriddenIn])
theorem d_jdk_43_method_3_code_0 : decode jdk_43_method_3_code 0 = .ok (.iload_n 0, 1) := by decide +kernel
theorem d_jdk_43_method_3_code_1 : decode jdk_43_method_3_code 1 = .ok (.sipush 255, 3) := by decide +kernel
theorem d_jdk_43_method_3_code_12 : decode jdk_43_method_3_code 12 = .ok (.ireturn, 1) := by decide +kernel
theorem d_jdk_43_method_3_code_4 : decode jdk_43_method_3_code 4 = .ok (.if_icmp .gt 7, 3) := by decide +kernel
theorem d_jdk_43_method_3_code_7 : decode jdk_43_method_3_code 7 = .ok (.iconst 1, 1) := by decide +kernel
theorem d_jdk_43_method_3_code_8 : decode jdk_43_method_3_code 8 = .ok (.goto 4, 3) := by decide +kernel
def Q_own_ce0 (Z : State) (h0 : Heap) (v : Option Value) (h : Heap) (L : List Loc) : Prop := v = some (.int (1 : Int32)) ∧ Fr Z.heap.size L ∧ h = h0
set_option maxRecDepth 65536 in
set_option maxHeartbeats 40000000 in
theorem own_ce0 (l : Launch) (Z : State) (a0 : Array Value) (hw : ∀ d ∈ tables_1, d.before a0 Z = true) (ws : List Jvm.Cond) (h0 : Heap) (O0 : Ext Z.heap h0) :
    MetFree l own_m14 (head1 (Jvm.Cond.code own_m14 jdk_43_method_3_code 1 (some .boolean) :: ws) ({ frames := 0, cells := 0, slots := 0, locals := 0 } : Room)) (fun aa U => aa = #[(.int (97 : Int32))] ∧ Z.Warmed39 U.vm ∧ U.heap = h0) (fun _ _ _ _ _ => True) (fun _ U o U' => ∃ v L, o = .returned v ∧ Q_own_ce0 Z h0 v U'.heap L ∧ FrameEnd U o U' L ({ frames := 0, cells := 0, slots := 0, locals := 0 } : Room).cells ({ frames := 0, cells := 0, slots := 0, locals := 0 } : Room).slots) := by
  refine MetFree.of_bodySF pf_own_ce0 hisR ?_
  intro p e s m args below meth c s₁ Bd hml0 hP hK
  obtain ⟨rfl, hZ, hh⟩ := hP
  have hx := Bd.exec
  have hby := Bd.bytes
  have hlk := BodyLoose.notSynchronized Bd
  have hml : c.maxLocals = 1 := hml0
  have hown : s.vm.findClass "java/lang/StringLatin1" = some m.cls := findClass_of_methodNamed Bd.named
  have hnm := (name_of_methodNamed Bd.named Bd.method).1
  have X0 : Stand p l e ({ frames := 0, cells := 0, slots := 0, locals := 0 } : Room) s m #[(.int (97 : Int32))] below meth c s₁ [] 0 0 := Stand.of_body Bd
  have e0 : s₁.heap = h0 := by rw [← hh, Bd.state]; rfl
  have N0 := Fr.nil Z.heap.size
  have K0 : Keep h0 h0 [] := Keep.refl _ _
  refine own_start (Q := Q_own_ce0 Z h0) (ef_own_ce0 m ((97 : Int32))) ?_
  show own_G p e below (s₁.setTop (mkF m 0 #[.val (.int (97 : Int32))] [])) _
  refine own_go (fun t k => XS.iloadN X0.here hx rfl (hb hby d_jdk_43_method_3_code_0) rfl k) ?_
  refine own_go (fun t k => XS.sipush X0.here hx rfl (hb hby d_jdk_43_method_3_code_1) k) ?_
  refine own_go (fun t k => XS.icmpNo X0.here hx rfl (hb hby d_jdk_43_method_3_code_4) rfl (flt (by decide : ¬ ((255 : Int32) < (97 : Int32)))).2.2.1 k) ?_
  show own_G p e below (s₁.setTop (mkF m 7 #[.val (.int (97 : Int32))] [])) _
  refine own_go (fun t k => XS.iconst X0.here hx rfl (hb hby d_jdk_43_method_3_code_7) k) ?_
  refine own_go (fun t k => XS.goto X0.here hx rfl (pc0 := 8) (pc' := 12) rfl (hb hby d_jdk_43_method_3_code_8) (by decide) (by decide) k) ?_
  show own_G p e below (s₁.setTop (mkF m 12 #[.val (.int (97 : Int32))] [(.int (1 : Int32))])) _
  exact own_ret X0 hx Bd.returns rfl (Or.inl ⟨rfl, Or.inr (Or.inl rfl), _, rfl⟩) (hb hby d_jdk_43_method_3_code_12) hlk (Nat.le_of_ble_eq_true rfl) (Nat.le_of_ble_eq_true rfl) (by show Q_own_ce0 Z h0 _ s₁.heap _; rw [e0]; exact ⟨rfl, N0, rfl⟩)
theorem ef_own_tb0 (m : MethodId) (x0 : Int32) : entryFrame m #[(.int x0)] 1 = mkF m 0 #[.val (.int x0)] [] := by first | (simp [entryFrame, mkF, argsToLocals, Value.category]; done) | rfl
theorem pf_own_tb0 : plainFor own_m15 = true := plainFor_of_name (by simp [plainName, overriddenIn])
theorem d_jdk_43_method_46_code_0 : decode jdk_43_method_46_code 0 = .ok (.iconst 1, 1) := by decide +kernel
theorem d_jdk_43_method_46_code_1 : decode jdk_43_method_46_code 1 = .ok (.newarray .byte, 2) := by decide +kernel
theorem d_jdk_43_method_46_code_3 : decode jdk_43_method_46_code 3 = .ok (.dup, 1) := by decide +kernel
theorem d_jdk_43_method_46_code_4 : decode jdk_43_method_46_code 4 = .ok (.iconst 0, 1) := by decide +kernel
theorem d_jdk_43_method_46_code_5 : decode jdk_43_method_46_code 5 = .ok (.iload_n 0, 1) := by decide +kernel
theorem d_jdk_43_method_46_code_6 : decode jdk_43_method_46_code 6 = .ok (.i2b, 1) := by decide +kernel
theorem d_jdk_43_method_46_code_7 : decode jdk_43_method_46_code 7 = .ok (.bastore, 1) := by decide +kernel
theorem d_jdk_43_method_46_code_8 : decode jdk_43_method_46_code 8 = .ok (.areturn, 1) := by decide +kernel
def Q_own_tb0 (Z : State) (h0 : Heap) (v : Option Value) (h : Heap) (L : List Loc) : Prop := ∃ r : Addr, v = some (.ref r) ∧ Fr Z.heap.size L ∧ Keep h0 h [] ∧ (h0.size ≤ r)
set_option maxRecDepth 65536 in
set_option maxHeartbeats 40000000 in
theorem own_tb0 (l : Launch) (Z : State) (a0 : Array Value) (hw : ∀ d ∈ tables_1, d.before a0 Z = true) (ws : List Jvm.Cond) (h0 : Heap) (O0 : Ext Z.heap h0) :
    MetFree l own_m15 (head1 (Jvm.Cond.code own_m15 jdk_43_method_46_code 1 (some (.array .byte)) :: ws) ({ frames := 0, cells := 1, slots := 1, locals := 0 } : Room)) (fun aa U => aa = #[(.int (97 : Int32))] ∧ Z.Warmed39 U.vm ∧ U.heap = h0) (fun _ _ _ _ _ => True) (fun _ U o U' => ∃ v L, o = .returned v ∧ Q_own_tb0 Z h0 v U'.heap L ∧ FrameEnd U o U' L ({ frames := 0, cells := 1, slots := 1, locals := 0 } : Room).cells ({ frames := 0, cells := 1, slots := 1, locals := 0 } : Room).slots) := by
  refine MetFree.of_bodySF pf_own_tb0 hisR ?_
  intro p e s m args below meth c s₁ Bd hml0 hP hK
  obtain ⟨rfl, hZ, hh⟩ := hP
  have hx := Bd.exec
  have hby := Bd.bytes
  have hlk := BodyLoose.notSynchronized Bd
  have hml : c.maxLocals = 1 := hml0
  have hown : s.vm.findClass "java/lang/StringLatin1" = some m.cls := findClass_of_methodNamed Bd.named
  have hnm := (name_of_methodNamed Bd.named Bd.method).1
  have X0 : Stand p l e ({ frames := 0, cells := 1, slots := 1, locals := 0 } : Room) s m #[(.int (97 : Int32))] below meth c s₁ [] 0 0 := Stand.of_body Bd
  have e0 : s₁.heap = h0 := by rw [← hh, Bd.state]; rfl
  have N0 := Fr.nil Z.heap.size
  have K0 : Keep h0 h0 [] := Keep.refl _ _
  refine own_start (Q := Q_own_tb0 Z h0) (ef_own_tb0 m ((97 : Int32))) ?_
  show own_G p e below (s₁.setTop (mkF m 0 #[.val (.int (97 : Int32))] [])) _
  refine own_go (fun t k => XS.iconst X0.here hx rfl (hb hby d_jdk_43_method_46_code_0) k) ?_
  obtain ⟨T1z, h1z, kc1z, X1z, e1z, E1z, V1z, st1z⟩ := own_newP X0 hx hZ (own_hw hw 50 rfl) e0 (g := (mkF m 1 #[.val (.int (97 : Int32))] [(.int (1 : Int32))])) rfl (hb hby d_jdk_43_method_46_code_1) rfl (i := 1) (by decide) (cap := 1) (by decide) (by decide) (by decide) (by decide)
  obtain ⟨b1z, g1z⟩ : ∃ z, z = h0.size := ⟨_, rfl⟩
  rw [← g1z] at V1z st1z
  have fr_b1z : Z.heap.size ≤ b1z := g1z ▸ O0.1
  have lz_b1z : h0.size ≤ b1z := g1z ▸ K0.1
  have O2z := own_ext_trans O0 E1z
  have K2z := K0.ext E1z
  have V1z : own_A Z h1z b1z kc1z .byte [(.int (0 : Int32))] := V1z
  refine own_go st1z ?_
  refine own_go (fun t k => XS.dup X1z.here hx rfl (hb hby d_jdk_43_method_46_code_3) rfl rfl k) ?_
  refine own_go (fun t k => XS.iconst X1z.here hx rfl (hb hby d_jdk_43_method_46_code_4) k) ?_
  refine own_go (fun t k => XS.iloadN X1z.here hx rfl (hb hby d_jdk_43_method_46_code_5) rfl k) ?_
  refine own_go (fun t k => XS.i2b X1z.here hx rfl (hb hby d_jdk_43_method_46_code_6) rfl k) ?_
  obtain ⟨T3z, h3z, X3z, e3z, W3z, V3z, st3z⟩ := own_stB X1z hx hZ e1z V1z (i := 0) (y := (97 : Int32)) (by decide) (by decide) (Nat.le_of_ble_eq_true rfl) (g := (mkF m 7 #[.val (.int (97 : Int32))] [(.int (97 : Int32)), (.int (0 : Int32)), (.ref b1z), (.ref b1z)])) rfl rfl (hb hby d_jdk_43_method_46_code_7)
  refine own_go st3z ?_
  have N3z := Fr.snoc X3z N0 fr_b1z
  have O4z := own_ext_wr O2z W3z fr_b1z
  have K4z := K2z.wr W3z (Or.inr lz_b1z)
  have V3z : own_A Z h3z b1z kc1z .byte [(.int (97 : Int32))] := V3z
  exact own_ret X3z hx Bd.returns rfl (Or.inr (Or.inr (Or.inr (Or.inr ⟨rfl, rfl, rfl⟩)))) (hb hby d_jdk_43_method_46_code_8) hlk (Nat.le_of_ble_eq_true rfl) (Nat.le_of_ble_eq_true rfl) (by show Q_own_tb0 Z h0 _ T3z.heap _; rw [e3z]; exact ⟨b1z, rfl, N3z, K4z, lz_b1z⟩)
theorem ef_own_vo0 (m : MethodId) (x0 : Int32) : entryFrame m #[(.int x0)] 1 = mkF m 0 #[.val (.int x0)] [] := by first | (simp [entryFrame, mkF, argsToLocals, Value.category]; done) | rfl
theorem pf_own_vo0 : plainFor own_m16 = true := plainFor_of_name (by simp [plainName, overriddenIn])
theorem pd_2087985491 : parseMethodDescriptor "(C)Z" = some ⟨[.char], some .boolean⟩ := by decide +kernel
theorem pd_184044566 : parseMethodDescriptor "(C)[B" = some ⟨[.char], some (.array .byte)⟩ := by decide +kernel
theorem pd_1807835947 : parseMethodDescriptor "([BB)V" = some ⟨[(.array .byte), .byte], none⟩ := by decide +kernel
theorem d_jdk_42_method_139_code_0 : decode jdk_42_method_139_code 0 = .ok (.getstatic 38, 3) := by decide +kernel
theorem d_jdk_42_method_139_code_10 : decode jdk_42_method_139_code 10 = .ok (.ifCond .eq 16, 3) := by decide +kernel
theorem d_jdk_42_method_139_code_13 : decode jdk_42_method_139_code 13 = .ok (.new 10, 3) := by decide +kernel
theorem d_jdk_42_method_139_code_16 : decode jdk_42_method_139_code 16 = .ok (.dup, 1) := by decide +kernel
theorem d_jdk_42_method_139_code_17 : decode jdk_42_method_139_code 17 = .ok (.iload_n 0, 1) := by decide +kernel
theorem d_jdk_42_method_139_code_18 : decode jdk_42_method_139_code 18 = .ok (.invokestatic 1018, 3) := by decide +kernel
theorem d_jdk_42_method_139_code_21 : decode jdk_42_method_139_code 21 = .ok (.iconst 0, 1) := by decide +kernel
theorem d_jdk_42_method_139_code_22 : decode jdk_42_method_139_code 22 = .ok (.invokespecial 209, 3) := by decide +kernel
theorem d_jdk_42_method_139_code_25 : decode jdk_42_method_139_code 25 = .ok (.areturn, 1) := by decide +kernel
theorem d_jdk_42_method_139_code_3 : decode jdk_42_method_139_code 3 = .ok (.ifCond .eq 23, 3) := by decide +kernel
theorem d_jdk_42_method_139_code_6 : decode jdk_42_method_139_code 6 = .ok (.iload_n 0, 1) := by decide +kernel
theorem d_jdk_42_method_139_code_7 : decode jdk_42_method_139_code 7 = .ok (.invokestatic 1015, 3) := by decide +kernel
def Q_own_vo0 (Z : State) (cs : Int32) (h0 : Heap) (v : Option Value) (h : Heap) (L : List Loc) : Prop := ∃ r : Addr, v = some (.ref r) ∧ Fr Z.heap.size L ∧ Keep h0 h []
set_option maxRecDepth 65536 in
set_option maxHeartbeats 40000000 in
theorem own_vo0 (l : Launch) (Z : State) (a0 : Array Value) (hw : ∀ d ∈ tables_1, d.before a0 Z = true) (ws : List Jvm.Cond) (cs : Int32) (h0 : Heap) (O0 : Ext Z.heap h0) (S_CS : Sta Z Z.heap own_s11 "COMPACT_STRINGS" "Z" (.int cs)) (hcs : ¬ (cs = (0 : Int32))) :
    MetFree l own_m16 (head1 (Jvm.Cond.code own_m16 jdk_42_method_139_code 1 (some (.object own_s11)) :: ws) ({ frames := 2, cells := 2, slots := 5, locals := 30 } : Room)) (fun aa U => aa = #[(.int (97 : Int32))] ∧ Z.Warmed39 U.vm ∧ U.heap = h0) (fun _ _ _ _ _ => True) (fun _ U o U' => ∃ v L, o = .returned v ∧ Q_own_vo0 Z cs h0 v U'.heap L ∧ FrameEnd U o U' L ({ frames := 2, cells := 2, slots := 5, locals := 30 } : Room).cells ({ frames := 2, cells := 2, slots := 5, locals := 30 } : Room).slots) := by
  refine MetFree.of_bodySF pf_own_vo0 hisR ?_
  intro p e s m args below meth c s₁ Bd hml0 hP hK
  obtain ⟨rfl, hZ, hh⟩ := hP
  have hx := Bd.exec
  have hby := Bd.bytes
  have hlk := BodyLoose.notSynchronized Bd
  have hml : c.maxLocals = 1 := hml0
  have hown : s.vm.findClass own_s11 = some m.cls := findClass_of_methodNamed Bd.named
  have hnm := (name_of_methodNamed Bd.named Bd.method).1
  have X0 : Stand p l e ({ frames := 2, cells := 2, slots := 5, locals := 30 } : Room) s m #[(.int (97 : Int32))] below meth c s₁ [] 0 0 := Stand.of_body Bd
  have e0 : s₁.heap = h0 := by rw [← hh, Bd.state]; rfl
  have N0 := Fr.nil Z.heap.size
  have K0 : Keep h0 h0 [] := Keep.refl _ _
  refine own_start (Q := Q_own_vo0 Z cs h0) (ef_own_vo0 m ((97 : Int32))) ?_
  show own_G p e below (s₁.setTop (mkF m 0 #[.val (.int (97 : Int32))] [])) _
  obtain ⟨T1z, X1z, e1z, st1z⟩ := getS2 X0 hx hZ hown (host := "") (Or.inl (own_hw hw 40 rfl)) Via.refl e0 (S_CS.ext O0) (g := (mkF m 0 #[.val (.int (97 : Int32))] [])) rfl (hb hby d_jdk_42_method_139_code_0)
  refine own_go st1z ?_
  refine own_go (fun t k => XS.ifNo X1z.here hx rfl (hb hby d_jdk_42_method_139_code_3) rfl ((if0 _ _).trans (feq hcs).1) k) ?_
  show own_G p e below (T1z.setTop (mkF m 6 #[.val (.int (97 : Int32))] [])) _
  refine own_go (fun t k => XS.iloadN X1z.here hx rfl (hb hby d_jdk_42_method_139_code_6) rfl k) ?_
  obtain ⟨_, _, ⟨T2z, L2z, k2z, n2z⟩, -, X2z, ⟨Lc2z, hQ2z, l2z, y2z, z2z⟩, st2z⟩ := Jvm.LawKit.callS X1z hx (y := own_m14) hown (own_mw hZ hw 41 rfl) (own_mw hZ hw 42 rfl) (own_mw hZ hw 43 rfl) (own_mw hZ hw 44 rfl) (by decide) (backOf (W := 0) (own_ce0 l Z a0 hw [] h0 O0) hZ (own_hw hw 44 rfl) (own_hw hw 43 rfl) (by decide) (by decide)) (g := (mkF m 7 #[.val (.int (97 : Int32))] [(.int (97 : Int32))])) rfl (by rw [hml]; rfl) (argsL := [(.int (97 : Int32))]) (rest := []) (lenOf pd_2087985491 rfl) rfl (by show 2 * 0 + _ ≤ _; exact Nat.le_of_eq rfl) (hb hby d_jdk_42_method_139_code_7) (fun _ _ => ⟨rfl, e1z, (by decide : 0 + 0 ≤ _), (by decide : 0 + 0 ≤ _)⟩)
  dsimp only [Pt.U, Pt.locs, Pt.cells, Pt.slots] at X2z l2z y2z z2z st2z hQ2z
  subst l2z y2z z2z
  obtain ⟨rfl, NQ2z, K2zq⟩ := hQ2z
  refine own_go st2z ?_
  have N2z := Fr.app N0 NQ2z
  show own_G p e below (T2z.setTop (mkF m 10 #[.val (.int (97 : Int32))] [(.int (1 : Int32))])) _
  refine own_go (fun t k => XS.ifNo X2z.here hx rfl (hb hby d_jdk_42_method_139_code_10) rfl ((if0 _ _).trans (feq (by decide : ¬ ((1 : Int32) = (0 : Int32)))).1) k) ?_
  show own_G p e below (T2z.setTop (mkF m 13 #[.val (.int (97 : Int32))] [])) _
  obtain ⟨T3z, h3z, X3z, e3z, E3z, A3z, D3z, -, st3z⟩ := newO X2z hx hZ hown (own_hw hw 45 rfl) (own_hw hw 46 rfl) (own_hw hw 38 rfl) K2zq (g := (mkF m 13 #[.val (.int (97 : Int32))] [])) rfl (hb hby d_jdk_42_method_139_code_13) (by decide) (by decide)
  obtain ⟨b3z, g3z⟩ : ∃ z, z = h0.size := ⟨_, rfl⟩
  rw [← g3z] at A3z D3z st3z
  have fr_b3z : Z.heap.size ≤ b3z := g3z ▸ O0.1
  have lz_b3z : h0.size ≤ b3z := g3z ▸ K0.1
  have O4z := own_ext_trans O0 E3z
  have K4z := K0.ext E3z
  have F3z_value : Fld Z h3z b3z own_s11 "value" "[B" .null := D3z (Or.inr (own_hw hw 57 rfl)) (ty := (.array .byte)) (by decide)
  have F3z_coder : Fld Z h3z b3z own_s11 "coder" "B" (.int (0 : Int32)) := D3z (Or.inr (own_hw hw 59 rfl)) (ty := .byte) (by decide)
  refine own_go st3z ?_
  refine own_go (fun t k => XS.dup X3z.here hx rfl (hb hby d_jdk_42_method_139_code_16) rfl rfl k) ?_
  refine own_go (fun t k => XS.iloadN X3z.here hx rfl (hb hby d_jdk_42_method_139_code_17) rfl k) ?_
  obtain ⟨_, _, ⟨T5z, L5z, k5z, n5z⟩, -, X5z, ⟨Lc5z, hQ5z, l5z, y5z, z5z⟩, st5z⟩ := Jvm.LawKit.callS X3z hx (y := own_m15) hown (own_mw hZ hw 47 rfl) (own_mw hZ hw 48 rfl) (own_mw hZ hw 43 rfl) (own_mw hZ hw 49 rfl) (by decide) (backOf (W := 2) (own_tb0 l Z a0 hw [] h3z O4z) hZ (own_hw hw 49 rfl) (own_hw hw 43 rfl) (by decide) (by decide)) (g := (mkF m 18 #[.val (.int (97 : Int32))] [(.int (97 : Int32)), (.ref b3z), (.ref b3z)])) rfl (by rw [hml]; rfl) (argsL := [(.int (97 : Int32))]) (rest := [(.ref b3z), (.ref b3z)]) (lenOf pd_184044566 rfl) rfl (by show 2 * 0 + _ ≤ _; exact Nat.le_of_eq rfl) (hb hby d_jdk_42_method_139_code_18) (fun _ _ => ⟨rfl, e3z, (by decide : 1 + 1 ≤ _), (by decide : 4 + 1 ≤ _)⟩)
  dsimp only [Pt.U, Pt.locs, Pt.cells, Pt.slots] at X5z l5z y5z z5z st5z hQ5z
  subst l5z y5z z5z
  obtain ⟨r_5z, rfl, NQ5z, K5zq, r5z_0⟩ := hQ5z
  refine own_go st5z ?_
  have N5z := Fr.app N2z NQ5z
  have O6z := own_ext_keep O4z K5zq all0
  have K6z := K4z.trans K5zq all0
  have lz_r_5z : h0.size ≤ r_5z := Nat.le_trans K4z.1 r5z_0
  have ne_b3z_r_5z : b3z ≠ r_5z := Nat.ne_of_lt (Nat.lt_of_lt_of_le A3z.lt r5z_0)
  show own_G p e below (T5z.setTop (mkF m 21 #[.val (.int (97 : Int32))] [(.ref r_5z), (.ref b3z), (.ref b3z)])) _
  refine own_go (fun t k => XS.iconst X5z.here hx rfl (hb hby d_jdk_42_method_139_code_21) k) ?_
  obtain ⟨_, _, ⟨T7z, L7z, k7z, n7z⟩, -, X7z, ⟨Lc7z, hQ7z, l7z, y7z, z7z⟩, st7z⟩ := X5z.specialBack hx (y := own_m13) rfl hown (own_mw hZ hw 51 rfl) (own_mw hZ hw 52 rfl) (own_mw hZ hw 54 rfl) (by decide) (backOf (W := 1) (own_sti l Z a0 hw [] b3z r_5z T5z.heap O6z (A3z.keep K5zq) fr_b3z (F3z_value.keep K5zq (by simp)) (F3z_coder.keep K5zq (by simp))) hZ (own_hw hw 54 rfl) (own_hw hw 38 rfl) (by decide) (by decide)) (g := (mkF m 22 #[.val (.int (97 : Int32))] [(.int (0 : Int32)), (.ref r_5z), (.ref b3z), (.ref b3z)])) rfl (by rw [hml]; rfl) (Steps.refl _) (a := b3z) (argsL := [(.ref r_5z), (.int (0 : Int32))]) (rest := [(.ref b3z)]) (lenOf pd_1807835947 rfl) rfl (by show 2 * 0 + _ ≤ _; exact Nat.le_of_eq rfl) (hb hby d_jdk_42_method_139_code_22) (fun _ _ => ⟨rfl, rfl, (by decide : 2 + 0 ≤ _), (by decide : 5 + 0 ≤ _)⟩)
  dsimp only [Pt.U, Pt.locs, Pt.cells, Pt.slots] at X7z l7z y7z z7z st7z hQ7z
  subst l7z y7z z7z
  obtain ⟨rfl, NQ7z, K7zq, r7z_0⟩ := hQ7z
  refine own_tr st7z ?_
  have N7z := Fr.app N5z NQ7z
  have O8z := own_ext_keep O6z K7zq (allS fr_b3z all0)
  have K8z := K6z.trans K7zq (allS (Or.inr lz_b3z) all0)
  show own_G p e below (T7z.setTop (mkF m 25 #[.val (.int (97 : Int32))] [(.ref b3z)])) _
  exact own_ret X7z hx Bd.returns rfl (Or.inr (Or.inr (Or.inr (Or.inr ⟨rfl, rfl, rfl⟩)))) (hb hby d_jdk_42_method_139_code_25) hlk (Nat.le_of_ble_eq_true rfl) (Nat.le_of_ble_eq_true rfl) (by show Q_own_vo0 Z cs h0 _ T7z.heap _; exact ⟨b3z, rfl, N7z, K8z⟩)
theorem ef_own_ce1 (m : MethodId) (x0 : Int32) : entryFrame m #[(.int x0)] 1 = mkF m 0 #[.val (.int x0)] [] := by first | (simp [entryFrame, mkF, argsToLocals, Value.category]; done) | rfl
theorem pf_own_ce1 : plainFor own_m14 = true := plainFor_of_name (by simp [plainName, overriddenIn])
def Q_own_ce1 (Z : State) (h0 : Heap) (v : Option Value) (h : Heap) (L : List Loc) : Prop := v = some (.int (1 : Int32)) ∧ Fr Z.heap.size L ∧ h = h0
set_option maxRecDepth 65536 in
set_option maxHeartbeats 40000000 in
theorem own_ce1 (l : Launch) (Z : State) (a0 : Array Value) (hw : ∀ d ∈ tables_1, d.before a0 Z = true) (ws : List Jvm.Cond) (h0 : Heap) (O0 : Ext Z.heap h0) :
    MetFree l own_m14 (head1 (Jvm.Cond.code own_m14 jdk_43_method_3_code 1 (some .boolean) :: ws) ({ frames := 0, cells := 0, slots := 0, locals := 0 } : Room)) (fun aa U => aa = #[(.int (98 : Int32))] ∧ Z.Warmed39 U.vm ∧ U.heap = h0) (fun _ _ _ _ _ => True) (fun _ U o U' => ∃ v L, o = .returned v ∧ Q_own_ce1 Z h0 v U'.heap L ∧ FrameEnd U o U' L ({ frames := 0, cells := 0, slots := 0, locals := 0 } : Room).cells ({ frames := 0, cells := 0, slots := 0, locals := 0 } : Room).slots) := by
  refine MetFree.of_bodySF pf_own_ce1 hisR ?_
  intro p e s m args below meth c s₁ Bd hml0 hP hK
  obtain ⟨rfl, hZ, hh⟩ := hP
  have hx := Bd.exec
  have hby := Bd.bytes
  have hlk := BodyLoose.notSynchronized Bd
  have hml : c.maxLocals = 1 := hml0
  have hown : s.vm.findClass "java/lang/StringLatin1" = some m.cls := findClass_of_methodNamed Bd.named
  have hnm := (name_of_methodNamed Bd.named Bd.method).1
  have X0 : Stand p l e ({ frames := 0, cells := 0, slots := 0, locals := 0 } : Room) s m #[(.int (98 : Int32))] below meth c s₁ [] 0 0 := Stand.of_body Bd
  have e0 : s₁.heap = h0 := by rw [← hh, Bd.state]; rfl
  have N0 := Fr.nil Z.heap.size
  have K0 : Keep h0 h0 [] := Keep.refl _ _
  refine own_start (Q := Q_own_ce1 Z h0) (ef_own_ce1 m ((98 : Int32))) ?_
  show own_G p e below (s₁.setTop (mkF m 0 #[.val (.int (98 : Int32))] [])) _
  refine own_go (fun t k => XS.iloadN X0.here hx rfl (hb hby d_jdk_43_method_3_code_0) rfl k) ?_
  refine own_go (fun t k => XS.sipush X0.here hx rfl (hb hby d_jdk_43_method_3_code_1) k) ?_
  refine own_go (fun t k => XS.icmpNo X0.here hx rfl (hb hby d_jdk_43_method_3_code_4) rfl (flt (by decide : ¬ ((255 : Int32) < (98 : Int32)))).2.2.1 k) ?_
  show own_G p e below (s₁.setTop (mkF m 7 #[.val (.int (98 : Int32))] [])) _
  refine own_go (fun t k => XS.iconst X0.here hx rfl (hb hby d_jdk_43_method_3_code_7) k) ?_
  refine own_go (fun t k => XS.goto X0.here hx rfl (pc0 := 8) (pc' := 12) rfl (hb hby d_jdk_43_method_3_code_8) (by decide) (by decide) k) ?_
  show own_G p e below (s₁.setTop (mkF m 12 #[.val (.int (98 : Int32))] [(.int (1 : Int32))])) _
  exact own_ret X0 hx Bd.returns rfl (Or.inl ⟨rfl, Or.inr (Or.inl rfl), _, rfl⟩) (hb hby d_jdk_43_method_3_code_12) hlk (Nat.le_of_ble_eq_true rfl) (Nat.le_of_ble_eq_true rfl) (by show Q_own_ce1 Z h0 _ s₁.heap _; rw [e0]; exact ⟨rfl, N0, rfl⟩)
theorem ef_own_tb1 (m : MethodId) (x0 : Int32) : entryFrame m #[(.int x0)] 1 = mkF m 0 #[.val (.int x0)] [] := by first | (simp [entryFrame, mkF, argsToLocals, Value.category]; done) | rfl
theorem pf_own_tb1 : plainFor own_m15 = true := plainFor_of_name (by simp [plainName, overriddenIn])
def Q_own_tb1 (Z : State) (h0 : Heap) (v : Option Value) (h : Heap) (L : List Loc) : Prop := ∃ r : Addr, v = some (.ref r) ∧ Fr Z.heap.size L ∧ Keep h0 h [] ∧ (h0.size ≤ r)
set_option maxRecDepth 65536 in
set_option maxHeartbeats 40000000 in
theorem own_tb1 (l : Launch) (Z : State) (a0 : Array Value) (hw : ∀ d ∈ tables_1, d.before a0 Z = true) (ws : List Jvm.Cond) (h0 : Heap) (O0 : Ext Z.heap h0) :
    MetFree l own_m15 (head1 (Jvm.Cond.code own_m15 jdk_43_method_46_code 1 (some (.array .byte)) :: ws) ({ frames := 0, cells := 1, slots := 1, locals := 0 } : Room)) (fun aa U => aa = #[(.int (98 : Int32))] ∧ Z.Warmed39 U.vm ∧ U.heap = h0) (fun _ _ _ _ _ => True) (fun _ U o U' => ∃ v L, o = .returned v ∧ Q_own_tb1 Z h0 v U'.heap L ∧ FrameEnd U o U' L ({ frames := 0, cells := 1, slots := 1, locals := 0 } : Room).cells ({ frames := 0, cells := 1, slots := 1, locals := 0 } : Room).slots) := by
  refine MetFree.of_bodySF pf_own_tb1 hisR ?_
  intro p e s m args below meth c s₁ Bd hml0 hP hK
  obtain ⟨rfl, hZ, hh⟩ := hP
  have hx := Bd.exec
  have hby := Bd.bytes
  have hlk := BodyLoose.notSynchronized Bd
  have hml : c.maxLocals = 1 := hml0
  have hown : s.vm.findClass "java/lang/StringLatin1" = some m.cls := findClass_of_methodNamed Bd.named
  have hnm := (name_of_methodNamed Bd.named Bd.method).1
  have X0 : Stand p l e ({ frames := 0, cells := 1, slots := 1, locals := 0 } : Room) s m #[(.int (98 : Int32))] below meth c s₁ [] 0 0 := Stand.of_body Bd
  have e0 : s₁.heap = h0 := by rw [← hh, Bd.state]; rfl
  have N0 := Fr.nil Z.heap.size
  have K0 : Keep h0 h0 [] := Keep.refl _ _
  refine own_start (Q := Q_own_tb1 Z h0) (ef_own_tb1 m ((98 : Int32))) ?_
  show own_G p e below (s₁.setTop (mkF m 0 #[.val (.int (98 : Int32))] [])) _
  refine own_go (fun t k => XS.iconst X0.here hx rfl (hb hby d_jdk_43_method_46_code_0) k) ?_
  obtain ⟨T1z, h1z, kc1z, X1z, e1z, E1z, V1z, st1z⟩ := own_newP X0 hx hZ (own_hw hw 50 rfl) e0 (g := (mkF m 1 #[.val (.int (98 : Int32))] [(.int (1 : Int32))])) rfl (hb hby d_jdk_43_method_46_code_1) rfl (i := 1) (by decide) (cap := 1) (by decide) (by decide) (by decide) (by decide)
  obtain ⟨b1z, g1z⟩ : ∃ z, z = h0.size := ⟨_, rfl⟩
  rw [← g1z] at V1z st1z
  have fr_b1z : Z.heap.size ≤ b1z := g1z ▸ O0.1
  have lz_b1z : h0.size ≤ b1z := g1z ▸ K0.1
  have O2z := own_ext_trans O0 E1z
  have K2z := K0.ext E1z
  have V1z : own_A Z h1z b1z kc1z .byte [(.int (0 : Int32))] := V1z
  refine own_go st1z ?_
  refine own_go (fun t k => XS.dup X1z.here hx rfl (hb hby d_jdk_43_method_46_code_3) rfl rfl k) ?_
  refine own_go (fun t k => XS.iconst X1z.here hx rfl (hb hby d_jdk_43_method_46_code_4) k) ?_
  refine own_go (fun t k => XS.iloadN X1z.here hx rfl (hb hby d_jdk_43_method_46_code_5) rfl k) ?_
  refine own_go (fun t k => XS.i2b X1z.here hx rfl (hb hby d_jdk_43_method_46_code_6) rfl k) ?_
  obtain ⟨T3z, h3z, X3z, e3z, W3z, V3z, st3z⟩ := own_stB X1z hx hZ e1z V1z (i := 0) (y := (98 : Int32)) (by decide) (by decide) (Nat.le_of_ble_eq_true rfl) (g := (mkF m 7 #[.val (.int (98 : Int32))] [(.int (98 : Int32)), (.int (0 : Int32)), (.ref b1z), (.ref b1z)])) rfl rfl (hb hby d_jdk_43_method_46_code_7)
  refine own_go st3z ?_
  have N3z := Fr.snoc X3z N0 fr_b1z
  have O4z := own_ext_wr O2z W3z fr_b1z
  have K4z := K2z.wr W3z (Or.inr lz_b1z)
  have V3z : own_A Z h3z b1z kc1z .byte [(.int (98 : Int32))] := V3z
  exact own_ret X3z hx Bd.returns rfl (Or.inr (Or.inr (Or.inr (Or.inr ⟨rfl, rfl, rfl⟩)))) (hb hby d_jdk_43_method_46_code_8) hlk (Nat.le_of_ble_eq_true rfl) (Nat.le_of_ble_eq_true rfl) (by show Q_own_tb1 Z h0 _ T3z.heap _; rw [e3z]; exact ⟨b1z, rfl, N3z, K4z, lz_b1z⟩)
theorem ef_own_vo1 (m : MethodId) (x0 : Int32) : entryFrame m #[(.int x0)] 1 = mkF m 0 #[.val (.int x0)] [] := by first | (simp [entryFrame, mkF, argsToLocals, Value.category]; done) | rfl
theorem pf_own_vo1 : plainFor own_m16 = true := plainFor_of_name (by simp [plainName, overriddenIn])
def Q_own_vo1 (Z : State) (cs : Int32) (h0 : Heap) (v : Option Value) (h : Heap) (L : List Loc) : Prop := ∃ r : Addr, v = some (.ref r) ∧ Fr Z.heap.size L ∧ Keep h0 h []
set_option maxRecDepth 65536 in
set_option maxHeartbeats 40000000 in
theorem own_vo1 (l : Launch) (Z : State) (a0 : Array Value) (hw : ∀ d ∈ tables_1, d.before a0 Z = true) (ws : List Jvm.Cond) (cs : Int32) (h0 : Heap) (O0 : Ext Z.heap h0) (S_CS : Sta Z Z.heap own_s11 "COMPACT_STRINGS" "Z" (.int cs)) (hcs : ¬ (cs = (0 : Int32))) :
    MetFree l own_m16 (head1 (Jvm.Cond.code own_m16 jdk_42_method_139_code 1 (some (.object own_s11)) :: ws) ({ frames := 2, cells := 2, slots := 5, locals := 30 } : Room)) (fun aa U => aa = #[(.int (98 : Int32))] ∧ Z.Warmed39 U.vm ∧ U.heap = h0) (fun _ _ _ _ _ => True) (fun _ U o U' => ∃ v L, o = .returned v ∧ Q_own_vo1 Z cs h0 v U'.heap L ∧ FrameEnd U o U' L ({ frames := 2, cells := 2, slots := 5, locals := 30 } : Room).cells ({ frames := 2, cells := 2, slots := 5, locals := 30 } : Room).slots) := by
  refine MetFree.of_bodySF pf_own_vo1 hisR ?_
  intro p e s m args below meth c s₁ Bd hml0 hP hK
  obtain ⟨rfl, hZ, hh⟩ := hP
  have hx := Bd.exec
  have hby := Bd.bytes
  have hlk := BodyLoose.notSynchronized Bd
  have hml : c.maxLocals = 1 := hml0
  have hown : s.vm.findClass own_s11 = some m.cls := findClass_of_methodNamed Bd.named
  have hnm := (name_of_methodNamed Bd.named Bd.method).1
  have X0 : Stand p l e ({ frames := 2, cells := 2, slots := 5, locals := 30 } : Room) s m #[(.int (98 : Int32))] below meth c s₁ [] 0 0 := Stand.of_body Bd
  have e0 : s₁.heap = h0 := by rw [← hh, Bd.state]; rfl
  have N0 := Fr.nil Z.heap.size
  have K0 : Keep h0 h0 [] := Keep.refl _ _
  refine own_start (Q := Q_own_vo1 Z cs h0) (ef_own_vo1 m ((98 : Int32))) ?_
  show own_G p e below (s₁.setTop (mkF m 0 #[.val (.int (98 : Int32))] [])) _
  obtain ⟨T1z, X1z, e1z, st1z⟩ := getS2 X0 hx hZ hown (host := "") (Or.inl (own_hw hw 40 rfl)) Via.refl e0 (S_CS.ext O0) (g := (mkF m 0 #[.val (.int (98 : Int32))] [])) rfl (hb hby d_jdk_42_method_139_code_0)
  refine own_go st1z ?_
  refine own_go (fun t k => XS.ifNo X1z.here hx rfl (hb hby d_jdk_42_method_139_code_3) rfl ((if0 _ _).trans (feq hcs).1) k) ?_
  show own_G p e below (T1z.setTop (mkF m 6 #[.val (.int (98 : Int32))] [])) _
  refine own_go (fun t k => XS.iloadN X1z.here hx rfl (hb hby d_jdk_42_method_139_code_6) rfl k) ?_
  obtain ⟨_, _, ⟨T2z, L2z, k2z, n2z⟩, -, X2z, ⟨Lc2z, hQ2z, l2z, y2z, z2z⟩, st2z⟩ := Jvm.LawKit.callS X1z hx (y := own_m14) hown (own_mw hZ hw 41 rfl) (own_mw hZ hw 42 rfl) (own_mw hZ hw 43 rfl) (own_mw hZ hw 44 rfl) (by decide) (backOf (W := 0) (own_ce1 l Z a0 hw [] h0 O0) hZ (own_hw hw 44 rfl) (own_hw hw 43 rfl) (by decide) (by decide)) (g := (mkF m 7 #[.val (.int (98 : Int32))] [(.int (98 : Int32))])) rfl (by rw [hml]; rfl) (argsL := [(.int (98 : Int32))]) (rest := []) (lenOf pd_2087985491 rfl) rfl (by show 2 * 0 + _ ≤ _; exact Nat.le_of_eq rfl) (hb hby d_jdk_42_method_139_code_7) (fun _ _ => ⟨rfl, e1z, (by decide : 0 + 0 ≤ _), (by decide : 0 + 0 ≤ _)⟩)
  dsimp only [Pt.U, Pt.locs, Pt.cells, Pt.slots] at X2z l2z y2z z2z st2z hQ2z
  subst l2z y2z z2z
  obtain ⟨rfl, NQ2z, K2zq⟩ := hQ2z
  refine own_go st2z ?_
  have N2z := Fr.app N0 NQ2z
  show own_G p e below (T2z.setTop (mkF m 10 #[.val (.int (98 : Int32))] [(.int (1 : Int32))])) _
  refine own_go (fun t k => XS.ifNo X2z.here hx rfl (hb hby d_jdk_42_method_139_code_10) rfl ((if0 _ _).trans (feq (by decide : ¬ ((1 : Int32) = (0 : Int32)))).1) k) ?_
  show own_G p e below (T2z.setTop (mkF m 13 #[.val (.int (98 : Int32))] [])) _
  obtain ⟨T3z, h3z, X3z, e3z, E3z, A3z, D3z, -, st3z⟩ := newO X2z hx hZ hown (own_hw hw 45 rfl) (own_hw hw 46 rfl) (own_hw hw 38 rfl) K2zq (g := (mkF m 13 #[.val (.int (98 : Int32))] [])) rfl (hb hby d_jdk_42_method_139_code_13) (by decide) (by decide)
  obtain ⟨b3z, g3z⟩ : ∃ z, z = h0.size := ⟨_, rfl⟩
  rw [← g3z] at A3z D3z st3z
  have fr_b3z : Z.heap.size ≤ b3z := g3z ▸ O0.1
  have lz_b3z : h0.size ≤ b3z := g3z ▸ K0.1
  have O4z := own_ext_trans O0 E3z
  have K4z := K0.ext E3z
  have F3z_value : Fld Z h3z b3z own_s11 "value" "[B" .null := D3z (Or.inr (own_hw hw 57 rfl)) (ty := (.array .byte)) (by decide)
  have F3z_coder : Fld Z h3z b3z own_s11 "coder" "B" (.int (0 : Int32)) := D3z (Or.inr (own_hw hw 59 rfl)) (ty := .byte) (by decide)
  refine own_go st3z ?_
  refine own_go (fun t k => XS.dup X3z.here hx rfl (hb hby d_jdk_42_method_139_code_16) rfl rfl k) ?_
  refine own_go (fun t k => XS.iloadN X3z.here hx rfl (hb hby d_jdk_42_method_139_code_17) rfl k) ?_
  obtain ⟨_, _, ⟨T5z, L5z, k5z, n5z⟩, -, X5z, ⟨Lc5z, hQ5z, l5z, y5z, z5z⟩, st5z⟩ := Jvm.LawKit.callS X3z hx (y := own_m15) hown (own_mw hZ hw 47 rfl) (own_mw hZ hw 48 rfl) (own_mw hZ hw 43 rfl) (own_mw hZ hw 49 rfl) (by decide) (backOf (W := 2) (own_tb1 l Z a0 hw [] h3z O4z) hZ (own_hw hw 49 rfl) (own_hw hw 43 rfl) (by decide) (by decide)) (g := (mkF m 18 #[.val (.int (98 : Int32))] [(.int (98 : Int32)), (.ref b3z), (.ref b3z)])) rfl (by rw [hml]; rfl) (argsL := [(.int (98 : Int32))]) (rest := [(.ref b3z), (.ref b3z)]) (lenOf pd_184044566 rfl) rfl (by show 2 * 0 + _ ≤ _; exact Nat.le_of_eq rfl) (hb hby d_jdk_42_method_139_code_18) (fun _ _ => ⟨rfl, e3z, (by decide : 1 + 1 ≤ _), (by decide : 4 + 1 ≤ _)⟩)
  dsimp only [Pt.U, Pt.locs, Pt.cells, Pt.slots] at X5z l5z y5z z5z st5z hQ5z
  subst l5z y5z z5z
  obtain ⟨r_5z, rfl, NQ5z, K5zq, r5z_0⟩ := hQ5z
  refine own_go st5z ?_
  have N5z := Fr.app N2z NQ5z
  have O6z := own_ext_keep O4z K5zq all0
  have K6z := K4z.trans K5zq all0
  have lz_r_5z : h0.size ≤ r_5z := Nat.le_trans K4z.1 r5z_0
  have ne_b3z_r_5z : b3z ≠ r_5z := Nat.ne_of_lt (Nat.lt_of_lt_of_le A3z.lt r5z_0)
  show own_G p e below (T5z.setTop (mkF m 21 #[.val (.int (98 : Int32))] [(.ref r_5z), (.ref b3z), (.ref b3z)])) _
  refine own_go (fun t k => XS.iconst X5z.here hx rfl (hb hby d_jdk_42_method_139_code_21) k) ?_
  obtain ⟨_, _, ⟨T7z, L7z, k7z, n7z⟩, -, X7z, ⟨Lc7z, hQ7z, l7z, y7z, z7z⟩, st7z⟩ := X5z.specialBack hx (y := own_m13) rfl hown (own_mw hZ hw 51 rfl) (own_mw hZ hw 52 rfl) (own_mw hZ hw 54 rfl) (by decide) (backOf (W := 1) (own_sti l Z a0 hw [] b3z r_5z T5z.heap O6z (A3z.keep K5zq) fr_b3z (F3z_value.keep K5zq (by simp)) (F3z_coder.keep K5zq (by simp))) hZ (own_hw hw 54 rfl) (own_hw hw 38 rfl) (by decide) (by decide)) (g := (mkF m 22 #[.val (.int (98 : Int32))] [(.int (0 : Int32)), (.ref r_5z), (.ref b3z), (.ref b3z)])) rfl (by rw [hml]; rfl) (Steps.refl _) (a := b3z) (argsL := [(.ref r_5z), (.int (0 : Int32))]) (rest := [(.ref b3z)]) (lenOf pd_1807835947 rfl) rfl (by show 2 * 0 + _ ≤ _; exact Nat.le_of_eq rfl) (hb hby d_jdk_42_method_139_code_22) (fun _ _ => ⟨rfl, rfl, (by decide : 2 + 0 ≤ _), (by decide : 5 + 0 ≤ _)⟩)
  dsimp only [Pt.U, Pt.locs, Pt.cells, Pt.slots] at X7z l7z y7z z7z st7z hQ7z
  subst l7z y7z z7z
  obtain ⟨rfl, NQ7z, K7zq, r7z_0⟩ := hQ7z
  refine own_tr st7z ?_
  have N7z := Fr.app N5z NQ7z
  have O8z := own_ext_keep O6z K7zq (allS fr_b3z all0)
  have K8z := K6z.trans K7zq (allS (Or.inr lz_b3z) all0)
  show own_G p e below (T7z.setTop (mkF m 25 #[.val (.int (98 : Int32))] [(.ref b3z)])) _
  exact own_ret X7z hx Bd.returns rfl (Or.inr (Or.inr (Or.inr (Or.inr ⟨rfl, rfl, rfl⟩)))) (hb hby d_jdk_42_method_139_code_25) hlk (Nat.le_of_ble_eq_true rfl) (Nat.le_of_ble_eq_true rfl) (by show Q_own_vo1 Z cs h0 _ T7z.heap _; exact ⟨b3z, rfl, N7z, K8z⟩)
theorem ef_own_ce2 (m : MethodId) (x0 : Int32) : entryFrame m #[(.int x0)] 1 = mkF m 0 #[.val (.int x0)] [] := by first | (simp [entryFrame, mkF, argsToLocals, Value.category]; done) | rfl
theorem pf_own_ce2 : plainFor own_m14 = true := plainFor_of_name (by simp [plainName, overriddenIn])
def Q_own_ce2 (Z : State) (h0 : Heap) (v : Option Value) (h : Heap) (L : List Loc) : Prop := v = some (.int (1 : Int32)) ∧ Fr Z.heap.size L ∧ h = h0
set_option maxRecDepth 65536 in
set_option maxHeartbeats 40000000 in
theorem own_ce2 (l : Launch) (Z : State) (a0 : Array Value) (hw : ∀ d ∈ tables_1, d.before a0 Z = true) (ws : List Jvm.Cond) (h0 : Heap) (O0 : Ext Z.heap h0) :
    MetFree l own_m14 (head1 (Jvm.Cond.code own_m14 jdk_43_method_3_code 1 (some .boolean) :: ws) ({ frames := 0, cells := 0, slots := 0, locals := 0 } : Room)) (fun aa U => aa = #[(.int (99 : Int32))] ∧ Z.Warmed39 U.vm ∧ U.heap = h0) (fun _ _ _ _ _ => True) (fun _ U o U' => ∃ v L, o = .returned v ∧ Q_own_ce2 Z h0 v U'.heap L ∧ FrameEnd U o U' L ({ frames := 0, cells := 0, slots := 0, locals := 0 } : Room).cells ({ frames := 0, cells := 0, slots := 0, locals := 0 } : Room).slots) := by
  refine MetFree.of_bodySF pf_own_ce2 hisR ?_
  intro p e s m args below meth c s₁ Bd hml0 hP hK
  obtain ⟨rfl, hZ, hh⟩ := hP
  have hx := Bd.exec
  have hby := Bd.bytes
  have hlk := BodyLoose.notSynchronized Bd
  have hml : c.maxLocals = 1 := hml0
  have hown : s.vm.findClass "java/lang/StringLatin1" = some m.cls := findClass_of_methodNamed Bd.named
  have hnm := (name_of_methodNamed Bd.named Bd.method).1
  have X0 : Stand p l e ({ frames := 0, cells := 0, slots := 0, locals := 0 } : Room) s m #[(.int (99 : Int32))] below meth c s₁ [] 0 0 := Stand.of_body Bd
  have e0 : s₁.heap = h0 := by rw [← hh, Bd.state]; rfl
  have N0 := Fr.nil Z.heap.size
  have K0 : Keep h0 h0 [] := Keep.refl _ _
  refine own_start (Q := Q_own_ce2 Z h0) (ef_own_ce2 m ((99 : Int32))) ?_
  show own_G p e below (s₁.setTop (mkF m 0 #[.val (.int (99 : Int32))] [])) _
  refine own_go (fun t k => XS.iloadN X0.here hx rfl (hb hby d_jdk_43_method_3_code_0) rfl k) ?_
  refine own_go (fun t k => XS.sipush X0.here hx rfl (hb hby d_jdk_43_method_3_code_1) k) ?_
  refine own_go (fun t k => XS.icmpNo X0.here hx rfl (hb hby d_jdk_43_method_3_code_4) rfl (flt (by decide : ¬ ((255 : Int32) < (99 : Int32)))).2.2.1 k) ?_
  show own_G p e below (s₁.setTop (mkF m 7 #[.val (.int (99 : Int32))] [])) _
  refine own_go (fun t k => XS.iconst X0.here hx rfl (hb hby d_jdk_43_method_3_code_7) k) ?_
  refine own_go (fun t k => XS.goto X0.here hx rfl (pc0 := 8) (pc' := 12) rfl (hb hby d_jdk_43_method_3_code_8) (by decide) (by decide) k) ?_
  show own_G p e below (s₁.setTop (mkF m 12 #[.val (.int (99 : Int32))] [(.int (1 : Int32))])) _
  exact own_ret X0 hx Bd.returns rfl (Or.inl ⟨rfl, Or.inr (Or.inl rfl), _, rfl⟩) (hb hby d_jdk_43_method_3_code_12) hlk (Nat.le_of_ble_eq_true rfl) (Nat.le_of_ble_eq_true rfl) (by show Q_own_ce2 Z h0 _ s₁.heap _; rw [e0]; exact ⟨rfl, N0, rfl⟩)
theorem ef_own_tb2 (m : MethodId) (x0 : Int32) : entryFrame m #[(.int x0)] 1 = mkF m 0 #[.val (.int x0)] [] := by first | (simp [entryFrame, mkF, argsToLocals, Value.category]; done) | rfl
theorem pf_own_tb2 : plainFor own_m15 = true := plainFor_of_name (by simp [plainName, overriddenIn])
def Q_own_tb2 (Z : State) (h0 : Heap) (v : Option Value) (h : Heap) (L : List Loc) : Prop := ∃ r : Addr, v = some (.ref r) ∧ Fr Z.heap.size L ∧ Keep h0 h [] ∧ (h0.size ≤ r)
set_option maxRecDepth 65536 in
set_option maxHeartbeats 40000000 in
theorem own_tb2 (l : Launch) (Z : State) (a0 : Array Value) (hw : ∀ d ∈ tables_1, d.before a0 Z = true) (ws : List Jvm.Cond) (h0 : Heap) (O0 : Ext Z.heap h0) :
    MetFree l own_m15 (head1 (Jvm.Cond.code own_m15 jdk_43_method_46_code 1 (some (.array .byte)) :: ws) ({ frames := 0, cells := 1, slots := 1, locals := 0 } : Room)) (fun aa U => aa = #[(.int (99 : Int32))] ∧ Z.Warmed39 U.vm ∧ U.heap = h0) (fun _ _ _ _ _ => True) (fun _ U o U' => ∃ v L, o = .returned v ∧ Q_own_tb2 Z h0 v U'.heap L ∧ FrameEnd U o U' L ({ frames := 0, cells := 1, slots := 1, locals := 0 } : Room).cells ({ frames := 0, cells := 1, slots := 1, locals := 0 } : Room).slots) := by
  refine MetFree.of_bodySF pf_own_tb2 hisR ?_
  intro p e s m args below meth c s₁ Bd hml0 hP hK
  obtain ⟨rfl, hZ, hh⟩ := hP
  have hx := Bd.exec
  have hby := Bd.bytes
  have hlk := BodyLoose.notSynchronized Bd
  have hml : c.maxLocals = 1 := hml0
  have hown : s.vm.findClass "java/lang/StringLatin1" = some m.cls := findClass_of_methodNamed Bd.named
  have hnm := (name_of_methodNamed Bd.named Bd.method).1
  have X0 : Stand p l e ({ frames := 0, cells := 1, slots := 1, locals := 0 } : Room) s m #[(.int (99 : Int32))] below meth c s₁ [] 0 0 := Stand.of_body Bd
  have e0 : s₁.heap = h0 := by rw [← hh, Bd.state]; rfl
  have N0 := Fr.nil Z.heap.size
  have K0 : Keep h0 h0 [] := Keep.refl _ _
  refine own_start (Q := Q_own_tb2 Z h0) (ef_own_tb2 m ((99 : Int32))) ?_
  show own_G p e below (s₁.setTop (mkF m 0 #[.val (.int (99 : Int32))] [])) _
  refine own_go (fun t k => XS.iconst X0.here hx rfl (hb hby d_jdk_43_method_46_code_0) k) ?_
  obtain ⟨T1z, h1z, kc1z, X1z, e1z, E1z, V1z, st1z⟩ := own_newP X0 hx hZ (own_hw hw 50 rfl) e0 (g := (mkF m 1 #[.val (.int (99 : Int32))] [(.int (1 : Int32))])) rfl (hb hby d_jdk_43_method_46_code_1) rfl (i := 1) (by decide) (cap := 1) (by decide) (by decide) (by decide) (by decide)
  obtain ⟨b1z, g1z⟩ : ∃ z, z = h0.size := ⟨_, rfl⟩
  rw [← g1z] at V1z st1z
  have fr_b1z : Z.heap.size ≤ b1z := g1z ▸ O0.1
  have lz_b1z : h0.size ≤ b1z := g1z ▸ K0.1
  have O2z := own_ext_trans O0 E1z
  have K2z := K0.ext E1z
  have V1z : own_A Z h1z b1z kc1z .byte [(.int (0 : Int32))] := V1z
  refine own_go st1z ?_
  refine own_go (fun t k => XS.dup X1z.here hx rfl (hb hby d_jdk_43_method_46_code_3) rfl rfl k) ?_
  refine own_go (fun t k => XS.iconst X1z.here hx rfl (hb hby d_jdk_43_method_46_code_4) k) ?_
  refine own_go (fun t k => XS.iloadN X1z.here hx rfl (hb hby d_jdk_43_method_46_code_5) rfl k) ?_
  refine own_go (fun t k => XS.i2b X1z.here hx rfl (hb hby d_jdk_43_method_46_code_6) rfl k) ?_
  obtain ⟨T3z, h3z, X3z, e3z, W3z, V3z, st3z⟩ := own_stB X1z hx hZ e1z V1z (i := 0) (y := (99 : Int32)) (by decide) (by decide) (Nat.le_of_ble_eq_true rfl) (g := (mkF m 7 #[.val (.int (99 : Int32))] [(.int (99 : Int32)), (.int (0 : Int32)), (.ref b1z), (.ref b1z)])) rfl rfl (hb hby d_jdk_43_method_46_code_7)
  refine own_go st3z ?_
  have N3z := Fr.snoc X3z N0 fr_b1z
  have O4z := own_ext_wr O2z W3z fr_b1z
  have K4z := K2z.wr W3z (Or.inr lz_b1z)
  have V3z : own_A Z h3z b1z kc1z .byte [(.int (99 : Int32))] := V3z
  exact own_ret X3z hx Bd.returns rfl (Or.inr (Or.inr (Or.inr (Or.inr ⟨rfl, rfl, rfl⟩)))) (hb hby d_jdk_43_method_46_code_8) hlk (Nat.le_of_ble_eq_true rfl) (Nat.le_of_ble_eq_true rfl) (by show Q_own_tb2 Z h0 _ T3z.heap _; rw [e3z]; exact ⟨b1z, rfl, N3z, K4z, lz_b1z⟩)
theorem ef_own_vo2 (m : MethodId) (x0 : Int32) : entryFrame m #[(.int x0)] 1 = mkF m 0 #[.val (.int x0)] [] := by first | (simp [entryFrame, mkF, argsToLocals, Value.category]; done) | rfl
theorem pf_own_vo2 : plainFor own_m16 = true := plainFor_of_name (by simp [plainName, overriddenIn])
def Q_own_vo2 (Z : State) (cs : Int32) (h0 : Heap) (v : Option Value) (h : Heap) (L : List Loc) : Prop := ∃ r : Addr, v = some (.ref r) ∧ Fr Z.heap.size L ∧ Keep h0 h []
set_option maxRecDepth 65536 in
set_option maxHeartbeats 40000000 in
theorem own_vo2 (l : Launch) (Z : State) (a0 : Array Value) (hw : ∀ d ∈ tables_1, d.before a0 Z = true) (ws : List Jvm.Cond) (cs : Int32) (h0 : Heap) (O0 : Ext Z.heap h0) (S_CS : Sta Z Z.heap own_s11 "COMPACT_STRINGS" "Z" (.int cs)) (hcs : ¬ (cs = (0 : Int32))) :
    MetFree l own_m16 (head1 (Jvm.Cond.code own_m16 jdk_42_method_139_code 1 (some (.object own_s11)) :: ws) ({ frames := 2, cells := 2, slots := 5, locals := 30 } : Room)) (fun aa U => aa = #[(.int (99 : Int32))] ∧ Z.Warmed39 U.vm ∧ U.heap = h0) (fun _ _ _ _ _ => True) (fun _ U o U' => ∃ v L, o = .returned v ∧ Q_own_vo2 Z cs h0 v U'.heap L ∧ FrameEnd U o U' L ({ frames := 2, cells := 2, slots := 5, locals := 30 } : Room).cells ({ frames := 2, cells := 2, slots := 5, locals := 30 } : Room).slots) := by
  refine MetFree.of_bodySF pf_own_vo2 hisR ?_
  intro p e s m args below meth c s₁ Bd hml0 hP hK
  obtain ⟨rfl, hZ, hh⟩ := hP
  have hx := Bd.exec
  have hby := Bd.bytes
  have hlk := BodyLoose.notSynchronized Bd
  have hml : c.maxLocals = 1 := hml0
  have hown : s.vm.findClass own_s11 = some m.cls := findClass_of_methodNamed Bd.named
  have hnm := (name_of_methodNamed Bd.named Bd.method).1
  have X0 : Stand p l e ({ frames := 2, cells := 2, slots := 5, locals := 30 } : Room) s m #[(.int (99 : Int32))] below meth c s₁ [] 0 0 := Stand.of_body Bd
  have e0 : s₁.heap = h0 := by rw [← hh, Bd.state]; rfl
  have N0 := Fr.nil Z.heap.size
  have K0 : Keep h0 h0 [] := Keep.refl _ _
  refine own_start (Q := Q_own_vo2 Z cs h0) (ef_own_vo2 m ((99 : Int32))) ?_
  show own_G p e below (s₁.setTop (mkF m 0 #[.val (.int (99 : Int32))] [])) _
  obtain ⟨T1z, X1z, e1z, st1z⟩ := getS2 X0 hx hZ hown (host := "") (Or.inl (own_hw hw 40 rfl)) Via.refl e0 (S_CS.ext O0) (g := (mkF m 0 #[.val (.int (99 : Int32))] [])) rfl (hb hby d_jdk_42_method_139_code_0)
  refine own_go st1z ?_
  refine own_go (fun t k => XS.ifNo X1z.here hx rfl (hb hby d_jdk_42_method_139_code_3) rfl ((if0 _ _).trans (feq hcs).1) k) ?_
  show own_G p e below (T1z.setTop (mkF m 6 #[.val (.int (99 : Int32))] [])) _
  refine own_go (fun t k => XS.iloadN X1z.here hx rfl (hb hby d_jdk_42_method_139_code_6) rfl k) ?_
  obtain ⟨_, _, ⟨T2z, L2z, k2z, n2z⟩, -, X2z, ⟨Lc2z, hQ2z, l2z, y2z, z2z⟩, st2z⟩ := Jvm.LawKit.callS X1z hx (y := own_m14) hown (own_mw hZ hw 41 rfl) (own_mw hZ hw 42 rfl) (own_mw hZ hw 43 rfl) (own_mw hZ hw 44 rfl) (by decide) (backOf (W := 0) (own_ce2 l Z a0 hw [] h0 O0) hZ (own_hw hw 44 rfl) (own_hw hw 43 rfl) (by decide) (by decide)) (g := (mkF m 7 #[.val (.int (99 : Int32))] [(.int (99 : Int32))])) rfl (by rw [hml]; rfl) (argsL := [(.int (99 : Int32))]) (rest := []) (lenOf pd_2087985491 rfl) rfl (by show 2 * 0 + _ ≤ _; exact Nat.le_of_eq rfl) (hb hby d_jdk_42_method_139_code_7) (fun _ _ => ⟨rfl, e1z, (by decide : 0 + 0 ≤ _), (by decide : 0 + 0 ≤ _)⟩)
  dsimp only [Pt.U, Pt.locs, Pt.cells, Pt.slots] at X2z l2z y2z z2z st2z hQ2z
  subst l2z y2z z2z
  obtain ⟨rfl, NQ2z, K2zq⟩ := hQ2z
  refine own_go st2z ?_
  have N2z := Fr.app N0 NQ2z
  show own_G p e below (T2z.setTop (mkF m 10 #[.val (.int (99 : Int32))] [(.int (1 : Int32))])) _
  refine own_go (fun t k => XS.ifNo X2z.here hx rfl (hb hby d_jdk_42_method_139_code_10) rfl ((if0 _ _).trans (feq (by decide : ¬ ((1 : Int32) = (0 : Int32)))).1) k) ?_
  show own_G p e below (T2z.setTop (mkF m 13 #[.val (.int (99 : Int32))] [])) _
  obtain ⟨T3z, h3z, X3z, e3z, E3z, A3z, D3z, -, st3z⟩ := newO X2z hx hZ hown (own_hw hw 45 rfl) (own_hw hw 46 rfl) (own_hw hw 38 rfl) K2zq (g := (mkF m 13 #[.val (.int (99 : Int32))] [])) rfl (hb hby d_jdk_42_method_139_code_13) (by decide) (by decide)
  obtain ⟨b3z, g3z⟩ : ∃ z, z = h0.size := ⟨_, rfl⟩
  rw [← g3z] at A3z D3z st3z
  have fr_b3z : Z.heap.size ≤ b3z := g3z ▸ O0.1
  have lz_b3z : h0.size ≤ b3z := g3z ▸ K0.1
  have O4z := own_ext_trans O0 E3z
  have K4z := K0.ext E3z
  have F3z_value : Fld Z h3z b3z own_s11 "value" "[B" .null := D3z (Or.inr (own_hw hw 57 rfl)) (ty := (.array .byte)) (by decide)
  have F3z_coder : Fld Z h3z b3z own_s11 "coder" "B" (.int (0 : Int32)) := D3z (Or.inr (own_hw hw 59 rfl)) (ty := .byte) (by decide)
  refine own_go st3z ?_
  refine own_go (fun t k => XS.dup X3z.here hx rfl (hb hby d_jdk_42_method_139_code_16) rfl rfl k) ?_
  refine own_go (fun t k => XS.iloadN X3z.here hx rfl (hb hby d_jdk_42_method_139_code_17) rfl k) ?_
  obtain ⟨_, _, ⟨T5z, L5z, k5z, n5z⟩, -, X5z, ⟨Lc5z, hQ5z, l5z, y5z, z5z⟩, st5z⟩ := Jvm.LawKit.callS X3z hx (y := own_m15) hown (own_mw hZ hw 47 rfl) (own_mw hZ hw 48 rfl) (own_mw hZ hw 43 rfl) (own_mw hZ hw 49 rfl) (by decide) (backOf (W := 2) (own_tb2 l Z a0 hw [] h3z O4z) hZ (own_hw hw 49 rfl) (own_hw hw 43 rfl) (by decide) (by decide)) (g := (mkF m 18 #[.val (.int (99 : Int32))] [(.int (99 : Int32)), (.ref b3z), (.ref b3z)])) rfl (by rw [hml]; rfl) (argsL := [(.int (99 : Int32))]) (rest := [(.ref b3z), (.ref b3z)]) (lenOf pd_184044566 rfl) rfl (by show 2 * 0 + _ ≤ _; exact Nat.le_of_eq rfl) (hb hby d_jdk_42_method_139_code_18) (fun _ _ => ⟨rfl, e3z, (by decide : 1 + 1 ≤ _), (by decide : 4 + 1 ≤ _)⟩)
  dsimp only [Pt.U, Pt.locs, Pt.cells, Pt.slots] at X5z l5z y5z z5z st5z hQ5z
  subst l5z y5z z5z
  obtain ⟨r_5z, rfl, NQ5z, K5zq, r5z_0⟩ := hQ5z
  refine own_go st5z ?_
  have N5z := Fr.app N2z NQ5z
  have O6z := own_ext_keep O4z K5zq all0
  have K6z := K4z.trans K5zq all0
  have lz_r_5z : h0.size ≤ r_5z := Nat.le_trans K4z.1 r5z_0
  have ne_b3z_r_5z : b3z ≠ r_5z := Nat.ne_of_lt (Nat.lt_of_lt_of_le A3z.lt r5z_0)
  show own_G p e below (T5z.setTop (mkF m 21 #[.val (.int (99 : Int32))] [(.ref r_5z), (.ref b3z), (.ref b3z)])) _
  refine own_go (fun t k => XS.iconst X5z.here hx rfl (hb hby d_jdk_42_method_139_code_21) k) ?_
  obtain ⟨_, _, ⟨T7z, L7z, k7z, n7z⟩, -, X7z, ⟨Lc7z, hQ7z, l7z, y7z, z7z⟩, st7z⟩ := X5z.specialBack hx (y := own_m13) rfl hown (own_mw hZ hw 51 rfl) (own_mw hZ hw 52 rfl) (own_mw hZ hw 54 rfl) (by decide) (backOf (W := 1) (own_sti l Z a0 hw [] b3z r_5z T5z.heap O6z (A3z.keep K5zq) fr_b3z (F3z_value.keep K5zq (by simp)) (F3z_coder.keep K5zq (by simp))) hZ (own_hw hw 54 rfl) (own_hw hw 38 rfl) (by decide) (by decide)) (g := (mkF m 22 #[.val (.int (99 : Int32))] [(.int (0 : Int32)), (.ref r_5z), (.ref b3z), (.ref b3z)])) rfl (by rw [hml]; rfl) (Steps.refl _) (a := b3z) (argsL := [(.ref r_5z), (.int (0 : Int32))]) (rest := [(.ref b3z)]) (lenOf pd_1807835947 rfl) rfl (by show 2 * 0 + _ ≤ _; exact Nat.le_of_eq rfl) (hb hby d_jdk_42_method_139_code_22) (fun _ _ => ⟨rfl, rfl, (by decide : 2 + 0 ≤ _), (by decide : 5 + 0 ≤ _)⟩)
  dsimp only [Pt.U, Pt.locs, Pt.cells, Pt.slots] at X7z l7z y7z z7z st7z hQ7z
  subst l7z y7z z7z
  obtain ⟨rfl, NQ7z, K7zq, r7z_0⟩ := hQ7z
  refine own_tr st7z ?_
  have N7z := Fr.app N5z NQ7z
  have O8z := own_ext_keep O6z K7zq (allS fr_b3z all0)
  have K8z := K6z.trans K7zq (allS (Or.inr lz_b3z) all0)
  show own_G p e below (T7z.setTop (mkF m 25 #[.val (.int (99 : Int32))] [(.ref b3z)])) _
  exact own_ret X7z hx Bd.returns rfl (Or.inr (Or.inr (Or.inr (Or.inr ⟨rfl, rfl, rfl⟩)))) (hb hby d_jdk_42_method_139_code_25) hlk (Nat.le_of_ble_eq_true rfl) (Nat.le_of_ble_eq_true rfl) (by show Q_own_vo2 Z cs h0 _ T7z.heap _; exact ⟨b3z, rfl, N7z, K8z⟩)
theorem ef_own_ise0 (m : MethodId) (x0 : Addr) : entryFrame m #[(.ref x0)] 1 = mkF m 0 #[.val (.ref x0)] [] := by first | (simp [entryFrame, mkF, argsToLocals, Value.category]; done) | rfl
theorem pf_own_ise0 : plainFor own_m17 = true := plainFor_of_name (by simp [plainName, overriddenIn])
theorem d_jdk_38_method_9_code_0 : decode jdk_38_method_9_code 0 = .ok (.aload_n 0, 1) := by decide +kernel
theorem d_jdk_38_method_9_code_1 : decode jdk_38_method_9_code 1 = .ok (.getfield 48, 3) := by decide +kernel
theorem d_jdk_38_method_9_code_12 : decode jdk_38_method_9_code 12 = .ok (.ireturn, 1) := by decide +kernel
theorem d_jdk_38_method_9_code_4 : decode jdk_38_method_9_code 4 = .ok (.ifCond .ne 7, 3) := by decide +kernel
theorem d_jdk_38_method_9_code_7 : decode jdk_38_method_9_code 7 = .ok (.iconst 1, 1) := by decide +kernel
theorem d_jdk_38_method_9_code_8 : decode jdk_38_method_9_code 8 = .ok (.goto 4, 3) := by decide +kernel
def Q_own_ise0 (Z : State) (a : Addr) (h0 : Heap) (v : Option Value) (h : Heap) (L : List Loc) : Prop := v = some (.int (1 : Int32)) ∧ Fr Z.heap.size L ∧ h = h0
set_option maxRecDepth 65536 in
set_option maxHeartbeats 40000000 in
theorem own_ise0 (l : Launch) (Z : State) (a0 : Array Value) (hw : ∀ d ∈ tables_1, d.before a0 Z = true) (ws : List Jvm.Cond) (a : Addr) (h0 : Heap) (O0 : Ext Z.heap h0) (q0 : Fld Z h0 a own_s1 "size" "I" (.int (0 : Int32))) :
    MetFree l own_m17 (head1 (Jvm.Cond.code own_m17 jdk_38_method_9_code 1 (some .boolean) :: ws) ({ frames := 0, cells := 0, slots := 0, locals := 0 } : Room)) (fun aa U => aa = #[(.ref a)] ∧ Z.Warmed39 U.vm ∧ U.heap = h0) (fun _ _ _ _ _ => True) (fun _ U o U' => ∃ v L, o = .returned v ∧ Q_own_ise0 Z a h0 v U'.heap L ∧ FrameEnd U o U' L ({ frames := 0, cells := 0, slots := 0, locals := 0 } : Room).cells ({ frames := 0, cells := 0, slots := 0, locals := 0 } : Room).slots) := by
  refine MetFree.of_bodySF pf_own_ise0 hisR ?_
  intro p e s m args below meth c s₁ Bd hml0 hP hK
  obtain ⟨rfl, hZ, hh⟩ := hP
  have hx := Bd.exec
  have hby := Bd.bytes
  have hlk := BodyLoose.notSynchronized Bd
  have hml : c.maxLocals = 1 := hml0
  have hown : s.vm.findClass own_s1 = some m.cls := findClass_of_methodNamed Bd.named
  have hnm := (name_of_methodNamed Bd.named Bd.method).1
  have X0 : Stand p l e ({ frames := 0, cells := 0, slots := 0, locals := 0 } : Room) s m #[(.ref a)] below meth c s₁ [] 0 0 := Stand.of_body Bd
  have e0 : s₁.heap = h0 := by rw [← hh, Bd.state]; rfl
  have N0 := Fr.nil Z.heap.size
  have K0 : Keep h0 h0 [] := Keep.refl _ _
  refine own_start (Q := Q_own_ise0 Z a h0) (ef_own_ise0 m (a)) ?_
  show own_G p e below (s₁.setTop (mkF m 0 #[.val (.ref a)] [])) _
  refine own_go (fun t k => XS.aloadN X0.here hx rfl (hb hby d_jdk_38_method_9_code_0) rfl rfl k) ?_
  obtain ⟨T1z, X1z, e1z, st1z⟩ := getF X0 hx hZ hown (host := "") (Or.inl (own_hw hw 95 rfl)) Via.refl e0 q0 (g := (mkF m 1 #[.val (.ref a)] [(.ref a)])) rfl rfl (hb hby d_jdk_38_method_9_code_1)
  refine own_go st1z ?_
  refine own_go (fun t k => XS.ifNo X1z.here hx rfl (hb hby d_jdk_38_method_9_code_4) rfl ((if0 _ _).trans (teq (by decide : (0 : Int32) = (0 : Int32))).2) k) ?_
  show own_G p e below (T1z.setTop (mkF m 7 #[.val (.ref a)] [])) _
  refine own_go (fun t k => XS.iconst X1z.here hx rfl (hb hby d_jdk_38_method_9_code_7) k) ?_
  refine own_go (fun t k => XS.goto X1z.here hx rfl (pc0 := 8) (pc' := 12) rfl (hb hby d_jdk_38_method_9_code_8) (by decide) (by decide) k) ?_
  show own_G p e below (T1z.setTop (mkF m 12 #[.val (.ref a)] [(.int (1 : Int32))])) _
  exact own_ret X1z hx Bd.returns rfl (Or.inl ⟨rfl, Or.inr (Or.inl rfl), _, rfl⟩) (hb hby d_jdk_38_method_9_code_12) hlk (Nat.le_of_ble_eq_true rfl) (Nat.le_of_ble_eq_true rfl) (by show Q_own_ise0 Z a h0 _ T1z.heap _; rw [e1z]; exact ⟨rfl, N0, rfl⟩)
theorem ef_own_ise1 (m : MethodId) (x0 : Addr) : entryFrame m #[(.ref x0)] 1 = mkF m 0 #[.val (.ref x0)] [] := by first | (simp [entryFrame, mkF, argsToLocals, Value.category]; done) | rfl
theorem pf_own_ise1 : plainFor own_m17 = true := plainFor_of_name (by simp [plainName, overriddenIn])
theorem d_jdk_38_method_9_code_11 : decode jdk_38_method_9_code 11 = .ok (.iconst 0, 1) := by decide +kernel
def Q_own_ise1 (Z : State) (a : Addr) (h0 : Heap) (v : Option Value) (h : Heap) (L : List Loc) : Prop := v = some (.int (0 : Int32)) ∧ Fr Z.heap.size L ∧ h = h0
set_option maxRecDepth 65536 in
set_option maxHeartbeats 40000000 in
theorem own_ise1 (l : Launch) (Z : State) (a0 : Array Value) (hw : ∀ d ∈ tables_1, d.before a0 Z = true) (ws : List Jvm.Cond) (a : Addr) (h0 : Heap) (O0 : Ext Z.heap h0) (q0 : Fld Z h0 a own_s1 "size" "I" (.int (1 : Int32))) :
    MetFree l own_m17 (head1 (Jvm.Cond.code own_m17 jdk_38_method_9_code 1 (some .boolean) :: ws) ({ frames := 0, cells := 0, slots := 0, locals := 0 } : Room)) (fun aa U => aa = #[(.ref a)] ∧ Z.Warmed39 U.vm ∧ U.heap = h0) (fun _ _ _ _ _ => True) (fun _ U o U' => ∃ v L, o = .returned v ∧ Q_own_ise1 Z a h0 v U'.heap L ∧ FrameEnd U o U' L ({ frames := 0, cells := 0, slots := 0, locals := 0 } : Room).cells ({ frames := 0, cells := 0, slots := 0, locals := 0 } : Room).slots) := by
  refine MetFree.of_bodySF pf_own_ise1 hisR ?_
  intro p e s m args below meth c s₁ Bd hml0 hP hK
  obtain ⟨rfl, hZ, hh⟩ := hP
  have hx := Bd.exec
  have hby := Bd.bytes
  have hlk := BodyLoose.notSynchronized Bd
  have hml : c.maxLocals = 1 := hml0
  have hown : s.vm.findClass own_s1 = some m.cls := findClass_of_methodNamed Bd.named
  have hnm := (name_of_methodNamed Bd.named Bd.method).1
  have X0 : Stand p l e ({ frames := 0, cells := 0, slots := 0, locals := 0 } : Room) s m #[(.ref a)] below meth c s₁ [] 0 0 := Stand.of_body Bd
  have e0 : s₁.heap = h0 := by rw [← hh, Bd.state]; rfl
  have N0 := Fr.nil Z.heap.size
  have K0 : Keep h0 h0 [] := Keep.refl _ _
  refine own_start (Q := Q_own_ise1 Z a h0) (ef_own_ise1 m (a)) ?_
  show own_G p e below (s₁.setTop (mkF m 0 #[.val (.ref a)] [])) _
  refine own_go (fun t k => XS.aloadN X0.here hx rfl (hb hby d_jdk_38_method_9_code_0) rfl rfl k) ?_
  obtain ⟨T1z, X1z, e1z, st1z⟩ := getF X0 hx hZ hown (host := "") (Or.inl (own_hw hw 95 rfl)) Via.refl e0 q0 (g := (mkF m 1 #[.val (.ref a)] [(.ref a)])) rfl rfl (hb hby d_jdk_38_method_9_code_1)
  refine own_go st1z ?_
  refine own_go (fun t k => XS.ifYes X1z.here hx rfl (pc0 := 4) (pc' := 11) rfl (hb hby d_jdk_38_method_9_code_4) rfl ((if0 _ _).trans (feq (by decide : ¬ ((1 : Int32) = (0 : Int32)))).2) (by decide) (by decide) k) ?_
  show own_G p e below (T1z.setTop (mkF m 11 #[.val (.ref a)] [])) _
  refine own_go (fun t k => XS.iconst X1z.here hx rfl (hb hby d_jdk_38_method_9_code_11) k) ?_
  exact own_ret X1z hx Bd.returns rfl (Or.inl ⟨rfl, Or.inr (Or.inl rfl), _, rfl⟩) (hb hby d_jdk_38_method_9_code_12) hlk (Nat.le_of_ble_eq_true rfl) (Nat.le_of_ble_eq_true rfl) (by show Q_own_ise1 Z a h0 _ T1z.heap _; rw [e1z]; exact ⟨rfl, N0, rfl⟩)
theorem ef_own_ise2 (m : MethodId) (x0 : Addr) : entryFrame m #[(.ref x0)] 1 = mkF m 0 #[.val (.ref x0)] [] := by first | (simp [entryFrame, mkF, argsToLocals, Value.category]; done) | rfl
theorem pf_own_ise2 : plainFor own_m17 = true := plainFor_of_name (by simp [plainName, overriddenIn])
def Q_own_ise2 (Z : State) (a : Addr) (h0 : Heap) (v : Option Value) (h : Heap) (L : List Loc) : Prop := v = some (.int (0 : Int32)) ∧ Fr Z.heap.size L ∧ h = h0
set_option maxRecDepth 65536 in
set_option maxHeartbeats 40000000 in
theorem own_ise2 (l : Launch) (Z : State) (a0 : Array Value) (hw : ∀ d ∈ tables_1, d.before a0 Z = true) (ws : List Jvm.Cond) (a : Addr) (h0 : Heap) (O0 : Ext Z.heap h0) (q0 : Fld Z h0 a own_s1 "size" "I" (.int (2 : Int32))) :
    MetFree l own_m17 (head1 (Jvm.Cond.code own_m17 jdk_38_method_9_code 1 (some .boolean) :: ws) ({ frames := 0, cells := 0, slots := 0, locals := 0 } : Room)) (fun aa U => aa = #[(.ref a)] ∧ Z.Warmed39 U.vm ∧ U.heap = h0) (fun _ _ _ _ _ => True) (fun _ U o U' => ∃ v L, o = .returned v ∧ Q_own_ise2 Z a h0 v U'.heap L ∧ FrameEnd U o U' L ({ frames := 0, cells := 0, slots := 0, locals := 0 } : Room).cells ({ frames := 0, cells := 0, slots := 0, locals := 0 } : Room).slots) := by
  refine MetFree.of_bodySF pf_own_ise2 hisR ?_
  intro p e s m args below meth c s₁ Bd hml0 hP hK
  obtain ⟨rfl, hZ, hh⟩ := hP
  have hx := Bd.exec
  have hby := Bd.bytes
  have hlk := BodyLoose.notSynchronized Bd
  have hml : c.maxLocals = 1 := hml0
  have hown : s.vm.findClass own_s1 = some m.cls := findClass_of_methodNamed Bd.named
  have hnm := (name_of_methodNamed Bd.named Bd.method).1
  have X0 : Stand p l e ({ frames := 0, cells := 0, slots := 0, locals := 0 } : Room) s m #[(.ref a)] below meth c s₁ [] 0 0 := Stand.of_body Bd
  have e0 : s₁.heap = h0 := by rw [← hh, Bd.state]; rfl
  have N0 := Fr.nil Z.heap.size
  have K0 : Keep h0 h0 [] := Keep.refl _ _
  refine own_start (Q := Q_own_ise2 Z a h0) (ef_own_ise2 m (a)) ?_
  show own_G p e below (s₁.setTop (mkF m 0 #[.val (.ref a)] [])) _
  refine own_go (fun t k => XS.aloadN X0.here hx rfl (hb hby d_jdk_38_method_9_code_0) rfl rfl k) ?_
  obtain ⟨T1z, X1z, e1z, st1z⟩ := getF X0 hx hZ hown (host := "") (Or.inl (own_hw hw 95 rfl)) Via.refl e0 q0 (g := (mkF m 1 #[.val (.ref a)] [(.ref a)])) rfl rfl (hb hby d_jdk_38_method_9_code_1)
  refine own_go st1z ?_
  refine own_go (fun t k => XS.ifYes X1z.here hx rfl (pc0 := 4) (pc' := 11) rfl (hb hby d_jdk_38_method_9_code_4) rfl ((if0 _ _).trans (feq (by decide : ¬ ((2 : Int32) = (0 : Int32)))).2) (by decide) (by decide) k) ?_
  show own_G p e below (T1z.setTop (mkF m 11 #[.val (.ref a)] [])) _
  refine own_go (fun t k => XS.iconst X1z.here hx rfl (hb hby d_jdk_38_method_9_code_11) k) ?_
  exact own_ret X1z hx Bd.returns rfl (Or.inl ⟨rfl, Or.inr (Or.inl rfl), _, rfl⟩) (hb hby d_jdk_38_method_9_code_12) hlk (Nat.le_of_ble_eq_true rfl) (Nat.le_of_ble_eq_true rfl) (by show Q_own_ise2 Z a h0 _ T1z.heap _; rw [e1z]; exact ⟨rfl, N0, rfl⟩)
theorem ef_own_ise3 (m : MethodId) (x0 : Addr) : entryFrame m #[(.ref x0)] 1 = mkF m 0 #[.val (.ref x0)] [] := by first | (simp [entryFrame, mkF, argsToLocals, Value.category]; done) | rfl
theorem pf_own_ise3 : plainFor own_m17 = true := plainFor_of_name (by simp [plainName, overriddenIn])
def Q_own_ise3 (Z : State) (a : Addr) (h0 : Heap) (v : Option Value) (h : Heap) (L : List Loc) : Prop := v = some (.int (0 : Int32)) ∧ Fr Z.heap.size L ∧ h = h0
set_option maxRecDepth 65536 in
set_option maxHeartbeats 40000000 in
theorem own_ise3 (l : Launch) (Z : State) (a0 : Array Value) (hw : ∀ d ∈ tables_1, d.before a0 Z = true) (ws : List Jvm.Cond) (a : Addr) (h0 : Heap) (O0 : Ext Z.heap h0) (q0 : Fld Z h0 a own_s1 "size" "I" (.int (3 : Int32))) :
    MetFree l own_m17 (head1 (Jvm.Cond.code own_m17 jdk_38_method_9_code 1 (some .boolean) :: ws) ({ frames := 0, cells := 0, slots := 0, locals := 0 } : Room)) (fun aa U => aa = #[(.ref a)] ∧ Z.Warmed39 U.vm ∧ U.heap = h0) (fun _ _ _ _ _ => True) (fun _ U o U' => ∃ v L, o = .returned v ∧ Q_own_ise3 Z a h0 v U'.heap L ∧ FrameEnd U o U' L ({ frames := 0, cells := 0, slots := 0, locals := 0 } : Room).cells ({ frames := 0, cells := 0, slots := 0, locals := 0 } : Room).slots) := by
  refine MetFree.of_bodySF pf_own_ise3 hisR ?_
  intro p e s m args below meth c s₁ Bd hml0 hP hK
  obtain ⟨rfl, hZ, hh⟩ := hP
  have hx := Bd.exec
  have hby := Bd.bytes
  have hlk := BodyLoose.notSynchronized Bd
  have hml : c.maxLocals = 1 := hml0
  have hown : s.vm.findClass own_s1 = some m.cls := findClass_of_methodNamed Bd.named
  have hnm := (name_of_methodNamed Bd.named Bd.method).1
  have X0 : Stand p l e ({ frames := 0, cells := 0, slots := 0, locals := 0 } : Room) s m #[(.ref a)] below meth c s₁ [] 0 0 := Stand.of_body Bd
  have e0 : s₁.heap = h0 := by rw [← hh, Bd.state]; rfl
  have N0 := Fr.nil Z.heap.size
  have K0 : Keep h0 h0 [] := Keep.refl _ _
  refine own_start (Q := Q_own_ise3 Z a h0) (ef_own_ise3 m (a)) ?_
  show own_G p e below (s₁.setTop (mkF m 0 #[.val (.ref a)] [])) _
  refine own_go (fun t k => XS.aloadN X0.here hx rfl (hb hby d_jdk_38_method_9_code_0) rfl rfl k) ?_
  obtain ⟨T1z, X1z, e1z, st1z⟩ := getF X0 hx hZ hown (host := "") (Or.inl (own_hw hw 95 rfl)) Via.refl e0 q0 (g := (mkF m 1 #[.val (.ref a)] [(.ref a)])) rfl rfl (hb hby d_jdk_38_method_9_code_1)
  refine own_go st1z ?_
  refine own_go (fun t k => XS.ifYes X1z.here hx rfl (pc0 := 4) (pc' := 11) rfl (hb hby d_jdk_38_method_9_code_4) rfl ((if0 _ _).trans (feq (by decide : ¬ ((3 : Int32) = (0 : Int32)))).2) (by decide) (by decide) k) ?_
  show own_G p e below (T1z.setTop (mkF m 11 #[.val (.ref a)] [])) _
  refine own_go (fun t k => XS.iconst X1z.here hx rfl (hb hby d_jdk_38_method_9_code_11) k) ?_
  exact own_ret X1z hx Bd.returns rfl (Or.inl ⟨rfl, Or.inr (Or.inl rfl), _, rfl⟩) (hb hby d_jdk_38_method_9_code_12) hlk (Nat.le_of_ble_eq_true rfl) (Nat.le_of_ble_eq_true rfl) (by show Q_own_ise3 Z a h0 _ T1z.heap _; rw [e1z]; exact ⟨rfl, N0, rfl⟩)
theorem ef_own_l12a (m : MethodId) (x0 : Addr) (x1 : Addr) : entryFrame m #[(.ref x0), (.ref x1)] 2 = mkF m 0 #[.val (.ref x0), .val (.ref x1)] [] := by first | (simp [entryFrame, mkF, argsToLocals, Value.category]; done) | rfl
theorem pf_own_l12a : plainFor own_m18 = true := plainFor_of_name (by simp [plainName, overriddenIn])
theorem pd_1977252822 : parseMethodDescriptor "(Ljava/lang/Object;)Ljava/lang/Object;" = some ⟨[(.object "java/lang/Object")], some (.object "java/lang/Object")⟩ := by decide +kernel
theorem d_jdk_44_method_1_code_0 : decode jdk_44_method_1_code 0 = .ok (.aload_n 0, 1) := by decide +kernel
theorem d_jdk_44_method_1_code_1 : decode jdk_44_method_1_code 1 = .ok (.invokespecial 1, 3) := by decide +kernel
theorem d_jdk_44_method_1_code_12 : decode jdk_44_method_1_code 12 = .ok (.aload_n 0, 1) := by decide +kernel
theorem d_jdk_44_method_1_code_13 : decode jdk_44_method_1_code 13 = .ok (.getstatic 19, 3) := by decide +kernel
theorem d_jdk_44_method_1_code_16 : decode jdk_44_method_1_code 16 = .ok (.putfield 24, 3) := by decide +kernel
theorem d_jdk_44_method_1_code_19 : decode jdk_44_method_1_code 19 = .ok (.return_, 1) := by decide +kernel
theorem d_jdk_44_method_1_code_4 : decode jdk_44_method_1_code 4 = .ok (.aload_n 0, 1) := by decide +kernel
theorem d_jdk_44_method_1_code_5 : decode jdk_44_method_1_code 5 = .ok (.aload_n 1, 1) := by decide +kernel
theorem d_jdk_44_method_1_code_6 : decode jdk_44_method_1_code 6 = .ok (.invokestatic 7, 3) := by decide +kernel
theorem d_jdk_44_method_1_code_9 : decode jdk_44_method_1_code 9 = .ok (.putfield 13, 3) := by decide +kernel
def Q_own_l12a (Z : State) (a : Addr) (x0 : Addr) (eM : Addr) (h0 : Heap) (v : Option Value) (h : Heap) (L : List Loc) : Prop := v = none ∧ Fr Z.heap.size L ∧ Keep h0 h [a] ∧ (Exa Z h a own_s6) ∧ (Fld Z h a own_s6 "e0" own_s13 (.ref x0)) ∧ (Fld Z h a own_s6 "e1" own_s13 (.ref eM))
set_option maxRecDepth 65536 in
set_option maxHeartbeats 40000000 in
theorem own_l12a (l : Launch) (Z : State) (a0 : Array Value) (hw : ∀ d ∈ tables_1, d.before a0 Z = true) (ws : List Jvm.Cond) (a : Addr) (x0 : Addr) (eM : Addr) (h0 : Heap) (O0 : Ext Z.heap h0) (S_EM : Sta Z Z.heap own_s12 "EMPTY" own_s13 (.ref eM)) (q1 : Exa Z h0 a own_s6) (q2 : Z.heap.size ≤ a) (q3 : Fld Z h0 a own_s6 "e0" own_s13 .null) (q4 : Fld Z h0 a own_s6 "e1" own_s13 .null) :
    MetFree l own_m18 (head1 (Jvm.Cond.code own_m18 jdk_44_method_1_code 2 none :: ws) ({ frames := 4, cells := 0, slots := 0, locals := 48 } : Room)) (fun aa U => aa = #[(.ref a), (.ref x0)] ∧ Z.Warmed39 U.vm ∧ U.heap = h0) (fun _ _ _ _ _ => True) (fun _ U o U' => ∃ v L, o = .returned v ∧ Q_own_l12a Z a x0 eM h0 v U'.heap L ∧ FrameEnd U o U' L ({ frames := 4, cells := 0, slots := 0, locals := 48 } : Room).cells ({ frames := 4, cells := 0, slots := 0, locals := 48 } : Room).slots) := by
  refine MetFree.of_bodySF pf_own_l12a hisR ?_
  intro p e s m args below meth c s₁ Bd hml0 hP hK
  obtain ⟨rfl, hZ, hh⟩ := hP
  have hx := Bd.exec
  have hby := Bd.bytes
  have hlk := BodyLoose.notSynchronized Bd
  have hml : c.maxLocals = 2 := hml0
  have hown : s.vm.findClass own_s6 = some m.cls := findClass_of_methodNamed Bd.named
  have hnm := (name_of_methodNamed Bd.named Bd.method).1
  have X0 : Stand p l e ({ frames := 4, cells := 0, slots := 0, locals := 48 } : Room) s m #[(.ref a), (.ref x0)] below meth c s₁ [] 0 0 := Stand.of_body Bd
  have e0 : s₁.heap = h0 := by rw [← hh, Bd.state]; rfl
  have N0 := Fr.nil Z.heap.size
  have K0 : Keep h0 h0 [a] := Keep.refl _ _
  refine own_start (Q := Q_own_l12a Z a x0 eM h0) (ef_own_l12a m (a) (x0)) ?_
  show own_G p e below (s₁.setTop (mkF m 0 #[.val (.ref a), .val (.ref x0)] [])) _
  refine own_go (fun t k => XS.aloadN X0.here hx rfl (hb hby d_jdk_44_method_1_code_0) rfl rfl k) ?_
  obtain ⟨_, _, ⟨T1z, L1z, k1z, n1z⟩, -, X1z, ⟨Lc1z, hQ1z, l1z, y1z, z1z⟩, st1z⟩ := X0.specialBack hx (y := own_m10) rfl hown (own_mw hZ hw 203 rfl) (own_mw hZ hw 204 rfl) (own_mw hZ hw 208 rfl) (by decide) (backOf (W := 0) (own_ail l Z a0 hw [] a h0 O0) hZ (own_hw hw 208 rfl) (own_hw hw 207 rfl) (by decide) (by decide)) (g := (mkF m 1 #[.val (.ref a), .val (.ref x0)] [(.ref a)])) rfl (by rw [hml]; rfl) (Steps.refl _) (a := a) (argsL := []) (rest := []) (lenOf pd_193421996 rfl) rfl (by show 2 * 0 + _ ≤ _; exact Nat.le_of_eq rfl) (hb hby d_jdk_44_method_1_code_1) (fun _ _ => ⟨rfl, e0, (by decide : 0 + 0 ≤ _), (by decide : 0 + 0 ≤ _)⟩)
  dsimp only [Pt.U, Pt.locs, Pt.cells, Pt.slots] at X1z l1z y1z z1z st1z hQ1z
  subst l1z y1z z1z
  obtain ⟨rfl, NQ1z, K1zq⟩ := hQ1z
  refine own_tr st1z ?_
  have N1z := Fr.app N0 NQ1z
  show own_G p e below (T1z.setTop (mkF m 4 #[.val (.ref a), .val (.ref x0)] [])) _
  refine own_go (fun t k => XS.aloadN X1z.here hx rfl (hb hby d_jdk_44_method_1_code_4) rfl rfl k) ?_
  refine own_go (fun t k => XS.aloadN X1z.here hx rfl (hb hby d_jdk_44_method_1_code_5) rfl rfl k) ?_
  obtain ⟨_, _, ⟨T2z, L2z, k2z, n2z⟩, -, X2z, ⟨Lc2z, hQ2z, l2z, y2z, z2z⟩, st2z⟩ := Jvm.LawKit.callS X1z hx (y := own_m11) hown (own_mw hZ hw 217 rfl) (own_mw hZ hw 218 rfl) (own_mw hZ hw 219 rfl) (own_mw hZ hw 220 rfl) (by decide) (backOf (W := 1) (own_rnn l Z a0 hw [] x0 h0 O0) hZ (own_hw hw 220 rfl) (own_hw hw 219 rfl) (by decide) (by decide)) (g := (mkF m 6 #[.val (.ref a), .val (.ref x0)] [(.ref x0), (.ref a)])) rfl (by rw [hml]; rfl) (argsL := [(.ref x0)]) (rest := [(.ref a)]) (lenOf pd_1977252822 rfl) rfl (by show 2 * 0 + _ ≤ _; exact Nat.le_of_eq rfl) (hb hby d_jdk_44_method_1_code_6) (fun _ _ => ⟨rfl, K1zq, (by decide : 0 + 0 ≤ _), (by decide : 0 + 0 ≤ _)⟩)
  dsimp only [Pt.U, Pt.locs, Pt.cells, Pt.slots] at X2z l2z y2z z2z st2z hQ2z
  subst l2z y2z z2z
  obtain ⟨rfl, NQ2z, K2zq⟩ := hQ2z
  refine own_go st2z ?_
  have N2z := Fr.app N1z NQ2z
  show own_G p e below (T2z.setTop (mkF m 9 #[.val (.ref a), .val (.ref x0)] [(.ref x0), (.ref a)])) _
  obtain ⟨T3z, h3z, X3z, e3z, W3z, st3z⟩ := putF X2z hx hZ hown (host := "") (Or.inl (own_hw hw 221 rfl)) Via.refl K2zq q3 q1 (Or.inr ⟨(own_hw hw 222 rfl), rfl, hnm⟩) (own_hw hw 197 rfl) (ty := (.object own_s2)) (by decide) rfl rfl (g := (mkF m 9 #[.val (.ref a), .val (.ref x0)] [(.ref x0), (.ref a)])) rfl rfl (hb hby d_jdk_44_method_1_code_9)
  refine own_go st3z ?_
  have N3z := Fr.snoc X3z N2z q2
  have F3z : Fld Z h3z a own_s6 "e0" own_s13 (.ref x0) := q3.same W3z
  have O4z := own_ext_wr O0 W3z q2
  have K4z := K0.wr W3z (Or.inl (List.mem_of_getElem? (i := 0) rfl))
  refine own_go (fun t k => XS.aloadN X3z.here hx rfl (hb hby d_jdk_44_method_1_code_12) rfl rfl k) ?_
  obtain ⟨T5z, X5z, e5z, st5z⟩ := getS2 X3z hx hZ hown (Or.inr (own_hw hw 223 rfl)) Via.refl e3z (S_EM.ext O4z) (g := (mkF m 13 #[.val (.ref a), .val (.ref x0)] [(.ref a)])) rfl (hb hby d_jdk_44_method_1_code_13)
  refine own_go st5z ?_
  have f6z := (q4.other W3z (Or.inr (slot_ne (Or.inr (own_hw hw 225 rfl)) (Or.inr (own_hw hw 222 rfl)) (by decide) (t := (.object own_s2)) (t' := (.object own_s2)) (by decide) (by decide))))
  obtain ⟨T7z, h7z, X7z, e7z, W7z, st7z⟩ := putF X5z hx hZ hown (host := "") (Or.inl (own_hw hw 224 rfl)) Via.refl e5z f6z (q1.wr W3z) (Or.inr ⟨(own_hw hw 225 rfl), rfl, hnm⟩) (own_hw hw 197 rfl) (ty := (.object own_s2)) (by decide) rfl rfl (g := (mkF m 16 #[.val (.ref a), .val (.ref x0)] [(.ref eM), (.ref a)])) rfl rfl (hb hby d_jdk_44_method_1_code_16)
  refine own_go st7z ?_
  have N7z := Fr.snoc X7z N3z q2
  have F7z : Fld Z h7z a own_s6 "e1" own_s13 (.ref eM) := f6z.same W7z
  have O8z := own_ext_wr O4z W7z q2
  have K8z := K4z.wr W7z (Or.inl (List.mem_of_getElem? (i := 0) rfl))
  have f9z := (F3z.other W7z (Or.inr (slot_ne (Or.inr (own_hw hw 222 rfl)) (Or.inr (own_hw hw 225 rfl)) (by decide) (t := (.object own_s2)) (t' := (.object own_s2)) (by decide) (by decide))))
  exact own_retV X7z hx Bd.returns (hb hby d_jdk_44_method_1_code_19) hlk (Nat.le_of_ble_eq_true rfl) (Nat.le_of_ble_eq_true rfl) (by show Q_own_l12a Z a x0 eM h0 _ T7z.heap _; rw [e7z]; exact ⟨rfl, N7z, K8z, ((q1.wr W3z).wr W7z), f9z, F7z⟩)
theorem ef_own_l12b (m : MethodId) (x0 : Addr) (x1 : Addr) (x2 : Addr) : entryFrame m #[(.ref x0), (.ref x1), (.ref x2)] 3 = mkF m 0 #[.val (.ref x0), .val (.ref x1), .val (.ref x2)] [] := by first | (simp [entryFrame, mkF, argsToLocals, Value.category]; done) | rfl
theorem pf_own_l12b : plainFor own_m19 = true := plainFor_of_name (by simp [plainName, overriddenIn])
theorem d_jdk_44_method_2_code_0 : decode jdk_44_method_2_code 0 = .ok (.aload_n 0, 1) := by decide +kernel
theorem d_jdk_44_method_2_code_1 : decode jdk_44_method_2_code 1 = .ok (.invokespecial 1, 3) := by decide +kernel
theorem d_jdk_44_method_2_code_12 : decode jdk_44_method_2_code 12 = .ok (.aload_n 0, 1) := by decide +kernel
theorem d_jdk_44_method_2_code_13 : decode jdk_44_method_2_code 13 = .ok (.aload_n 2, 1) := by decide +kernel
theorem d_jdk_44_method_2_code_14 : decode jdk_44_method_2_code 14 = .ok (.invokestatic 7, 3) := by decide +kernel
theorem d_jdk_44_method_2_code_17 : decode jdk_44_method_2_code 17 = .ok (.putfield 24, 3) := by decide +kernel
theorem d_jdk_44_method_2_code_20 : decode jdk_44_method_2_code 20 = .ok (.return_, 1) := by decide +kernel
theorem d_jdk_44_method_2_code_4 : decode jdk_44_method_2_code 4 = .ok (.aload_n 0, 1) := by decide +kernel
theorem d_jdk_44_method_2_code_5 : decode jdk_44_method_2_code 5 = .ok (.aload_n 1, 1) := by decide +kernel
theorem d_jdk_44_method_2_code_6 : decode jdk_44_method_2_code 6 = .ok (.invokestatic 7, 3) := by decide +kernel
theorem d_jdk_44_method_2_code_9 : decode jdk_44_method_2_code 9 = .ok (.putfield 13, 3) := by decide +kernel
def Q_own_l12b (Z : State) (a : Addr) (x0 : Addr) (x1 : Addr) (h0 : Heap) (v : Option Value) (h : Heap) (L : List Loc) : Prop := v = none ∧ Fr Z.heap.size L ∧ Keep h0 h [a] ∧ (Exa Z h a own_s6) ∧ (Fld Z h a own_s6 "e0" own_s13 (.ref x0)) ∧ (Fld Z h a own_s6 "e1" own_s13 (.ref x1))
set_option maxRecDepth 65536 in
set_option maxHeartbeats 40000000 in
theorem own_l12b (l : Launch) (Z : State) (a0 : Array Value) (hw : ∀ d ∈ tables_1, d.before a0 Z = true) (ws : List Jvm.Cond) (a : Addr) (x0 : Addr) (x1 : Addr) (h0 : Heap) (O0 : Ext Z.heap h0) (q0 : Exa Z h0 a own_s6) (q1 : Z.heap.size ≤ a) (q2 : Fld Z h0 a own_s6 "e0" own_s13 .null) (q3 : Fld Z h0 a own_s6 "e1" own_s13 .null) :
    MetFree l own_m19 (head1 (Jvm.Cond.code own_m19 jdk_44_method_2_code 3 none :: ws) ({ frames := 4, cells := 0, slots := 0, locals := 48 } : Room)) (fun aa U => aa = #[(.ref a), (.ref x0), (.ref x1)] ∧ Z.Warmed39 U.vm ∧ U.heap = h0) (fun _ _ _ _ _ => True) (fun _ U o U' => ∃ v L, o = .returned v ∧ Q_own_l12b Z a x0 x1 h0 v U'.heap L ∧ FrameEnd U o U' L ({ frames := 4, cells := 0, slots := 0, locals := 48 } : Room).cells ({ frames := 4, cells := 0, slots := 0, locals := 48 } : Room).slots) := by
  refine MetFree.of_bodySF pf_own_l12b hisR ?_
  intro p e s m args below meth c s₁ Bd hml0 hP hK
  obtain ⟨rfl, hZ, hh⟩ := hP
  have hx := Bd.exec
  have hby := Bd.bytes
  have hlk := BodyLoose.notSynchronized Bd
  have hml : c.maxLocals = 3 := hml0
  have hown : s.vm.findClass own_s6 = some m.cls := findClass_of_methodNamed Bd.named
  have hnm := (name_of_methodNamed Bd.named Bd.method).1
  have X0 : Stand p l e ({ frames := 4, cells := 0, slots := 0, locals := 48 } : Room) s m #[(.ref a), (.ref x0), (.ref x1)] below meth c s₁ [] 0 0 := Stand.of_body Bd
  have e0 : s₁.heap = h0 := by rw [← hh, Bd.state]; rfl
  have N0 := Fr.nil Z.heap.size
  have K0 : Keep h0 h0 [a] := Keep.refl _ _
  refine own_start (Q := Q_own_l12b Z a x0 x1 h0) (ef_own_l12b m (a) (x0) (x1)) ?_
  show own_G p e below (s₁.setTop (mkF m 0 #[.val (.ref a), .val (.ref x0), .val (.ref x1)] [])) _
  refine own_go (fun t k => XS.aloadN X0.here hx rfl (hb hby d_jdk_44_method_2_code_0) rfl rfl k) ?_
  obtain ⟨_, _, ⟨T1z, L1z, k1z, n1z⟩, -, X1z, ⟨Lc1z, hQ1z, l1z, y1z, z1z⟩, st1z⟩ := X0.specialBack hx (y := own_m10) rfl hown (own_mw hZ hw 203 rfl) (own_mw hZ hw 204 rfl) (own_mw hZ hw 208 rfl) (by decide) (backOf (W := 0) (own_ail l Z a0 hw [] a h0 O0) hZ (own_hw hw 208 rfl) (own_hw hw 207 rfl) (by decide) (by decide)) (g := (mkF m 1 #[.val (.ref a), .val (.ref x0), .val (.ref x1)] [(.ref a)])) rfl (by rw [hml]; rfl) (Steps.refl _) (a := a) (argsL := []) (rest := []) (lenOf pd_193421996 rfl) rfl (by show 2 * 0 + _ ≤ _; exact Nat.le_of_eq rfl) (hb hby d_jdk_44_method_2_code_1) (fun _ _ => ⟨rfl, e0, (by decide : 0 + 0 ≤ _), (by decide : 0 + 0 ≤ _)⟩)
  dsimp only [Pt.U, Pt.locs, Pt.cells, Pt.slots] at X1z l1z y1z z1z st1z hQ1z
  subst l1z y1z z1z
  obtain ⟨rfl, NQ1z, K1zq⟩ := hQ1z
  refine own_tr st1z ?_
  have N1z := Fr.app N0 NQ1z
  show own_G p e below (T1z.setTop (mkF m 4 #[.val (.ref a), .val (.ref x0), .val (.ref x1)] [])) _
  refine own_go (fun t k => XS.aloadN X1z.here hx rfl (hb hby d_jdk_44_method_2_code_4) rfl rfl k) ?_
  refine own_go (fun t k => XS.aloadN X1z.here hx rfl (hb hby d_jdk_44_method_2_code_5) rfl rfl k) ?_
  obtain ⟨_, _, ⟨T2z, L2z, k2z, n2z⟩, -, X2z, ⟨Lc2z, hQ2z, l2z, y2z, z2z⟩, st2z⟩ := Jvm.LawKit.callS X1z hx (y := own_m11) hown (own_mw hZ hw 217 rfl) (own_mw hZ hw 218 rfl) (own_mw hZ hw 219 rfl) (own_mw hZ hw 220 rfl) (by decide) (backOf (W := 1) (own_rnn l Z a0 hw [] x0 h0 O0) hZ (own_hw hw 220 rfl) (own_hw hw 219 rfl) (by decide) (by decide)) (g := (mkF m 6 #[.val (.ref a), .val (.ref x0), .val (.ref x1)] [(.ref x0), (.ref a)])) rfl (by rw [hml]; rfl) (argsL := [(.ref x0)]) (rest := [(.ref a)]) (lenOf pd_1977252822 rfl) rfl (by show 2 * 0 + _ ≤ _; exact Nat.le_of_eq rfl) (hb hby d_jdk_44_method_2_code_6) (fun _ _ => ⟨rfl, K1zq, (by decide : 0 + 0 ≤ _), (by decide : 0 + 0 ≤ _)⟩)
  dsimp only [Pt.U, Pt.locs, Pt.cells, Pt.slots] at X2z l2z y2z z2z st2z hQ2z
  subst l2z y2z z2z
  obtain ⟨rfl, NQ2z, K2zq⟩ := hQ2z
  refine own_go st2z ?_
  have N2z := Fr.app N1z NQ2z
  show own_G p e below (T2z.setTop (mkF m 9 #[.val (.ref a), .val (.ref x0), .val (.ref x1)] [(.ref x0), (.ref a)])) _
  obtain ⟨T3z, h3z, X3z, e3z, W3z, st3z⟩ := putF X2z hx hZ hown (host := "") (Or.inl (own_hw hw 221 rfl)) Via.refl K2zq q2 q0 (Or.inr ⟨(own_hw hw 222 rfl), rfl, hnm⟩) (own_hw hw 197 rfl) (ty := (.object own_s2)) (by decide) rfl rfl (g := (mkF m 9 #[.val (.ref a), .val (.ref x0), .val (.ref x1)] [(.ref x0), (.ref a)])) rfl rfl (hb hby d_jdk_44_method_2_code_9)
  refine own_go st3z ?_
  have N3z := Fr.snoc X3z N2z q1
  have F3z : Fld Z h3z a own_s6 "e0" own_s13 (.ref x0) := q2.same W3z
  have O4z := own_ext_wr O0 W3z q1
  have K4z := K0.wr W3z (Or.inl (List.mem_of_getElem? (i := 0) rfl))
  refine own_go (fun t k => XS.aloadN X3z.here hx rfl (hb hby d_jdk_44_method_2_code_12) rfl rfl k) ?_
  refine own_go (fun t k => XS.aloadN X3z.here hx rfl (hb hby d_jdk_44_method_2_code_13) rfl rfl k) ?_
  obtain ⟨_, _, ⟨T5z, L5z, k5z, n5z⟩, -, X5z, ⟨Lc5z, hQ5z, l5z, y5z, z5z⟩, st5z⟩ := Jvm.LawKit.callS X3z hx (y := own_m11) hown (own_mw hZ hw 217 rfl) (own_mw hZ hw 218 rfl) (own_mw hZ hw 219 rfl) (own_mw hZ hw 220 rfl) (by decide) (backOf (W := 1) (own_rnn l Z a0 hw [] x1 h3z O4z) hZ (own_hw hw 220 rfl) (own_hw hw 219 rfl) (by decide) (by decide)) (g := (mkF m 14 #[.val (.ref a), .val (.ref x0), .val (.ref x1)] [(.ref x1), (.ref a)])) rfl (by rw [hml]; rfl) (argsL := [(.ref x1)]) (rest := [(.ref a)]) (lenOf pd_1977252822 rfl) rfl (by show 2 * 0 + _ ≤ _; exact Nat.le_of_eq rfl) (hb hby d_jdk_44_method_2_code_14) (fun _ _ => ⟨rfl, e3z, (by decide : 0 + 0 ≤ _), (by decide : 0 + 0 ≤ _)⟩)
  dsimp only [Pt.U, Pt.locs, Pt.cells, Pt.slots] at X5z l5z y5z z5z st5z hQ5z
  subst l5z y5z z5z
  obtain ⟨rfl, NQ5z, K5zq⟩ := hQ5z
  refine own_go st5z ?_
  have N5z := Fr.app N3z NQ5z
  show own_G p e below (T5z.setTop (mkF m 17 #[.val (.ref a), .val (.ref x0), .val (.ref x1)] [(.ref x1), (.ref a)])) _
  have f6z := (q3.other W3z (Or.inr (slot_ne (Or.inr (own_hw hw 225 rfl)) (Or.inr (own_hw hw 222 rfl)) (by decide) (t := (.object own_s2)) (t' := (.object own_s2)) (by decide) (by decide))))
  obtain ⟨T7z, h7z, X7z, e7z, W7z, st7z⟩ := putF X5z hx hZ hown (host := "") (Or.inl (own_hw hw 224 rfl)) Via.refl K5zq f6z (q0.wr W3z) (Or.inr ⟨(own_hw hw 225 rfl), rfl, hnm⟩) (own_hw hw 197 rfl) (ty := (.object own_s2)) (by decide) rfl rfl (g := (mkF m 17 #[.val (.ref a), .val (.ref x0), .val (.ref x1)] [(.ref x1), (.ref a)])) rfl rfl (hb hby d_jdk_44_method_2_code_17)
  refine own_go st7z ?_
  have N7z := Fr.snoc X7z N5z q1
  have F7z : Fld Z h7z a own_s6 "e1" own_s13 (.ref x1) := f6z.same W7z
  have O8z := own_ext_wr O4z W7z q1
  have K8z := K4z.wr W7z (Or.inl (List.mem_of_getElem? (i := 0) rfl))
  have f9z := (F3z.other W7z (Or.inr (slot_ne (Or.inr (own_hw hw 222 rfl)) (Or.inr (own_hw hw 225 rfl)) (by decide) (t := (.object own_s2)) (t' := (.object own_s2)) (by decide) (by decide))))
  exact own_retV X7z hx Bd.returns (hb hby d_jdk_44_method_2_code_20) hlk (Nat.le_of_ble_eq_true rfl) (Nat.le_of_ble_eq_true rfl) (by show Q_own_l12b Z a x0 x1 h0 _ T7z.heap _; rw [e7z]; exact ⟨rfl, N7z, K8z, ((q0.wr W3z).wr W7z), f9z, F7z⟩)
theorem ef_own_lni (m : MethodId) (x0 : Addr) (x1 : Addr) (x2 : Int32) : entryFrame m #[(.ref x0), (.ref x1), (.int x2)] 3 = mkF m 0 #[.val (.ref x0), .val (.ref x1), .val (.int x2)] [] := by first | (simp [entryFrame, mkF, argsToLocals, Value.category]; done) | rfl
theorem pf_own_lni : plainFor own_m20 = true := plainFor_of_name (by simp [plainName, overriddenIn])
theorem d_jdk_45_method_1_code_0 : decode jdk_45_method_1_code 0 = .ok (.aload_n 0, 1) := by decide +kernel
theorem d_jdk_45_method_1_code_1 : decode jdk_45_method_1_code 1 = .ok (.invokespecial 1, 3) := by decide +kernel
theorem d_jdk_45_method_1_code_10 : decode jdk_45_method_1_code 10 = .ok (.iload_n 2, 1) := by decide +kernel
theorem d_jdk_45_method_1_code_11 : decode jdk_45_method_1_code 11 = .ok (.putfield 13, 3) := by decide +kernel
theorem d_jdk_45_method_1_code_14 : decode jdk_45_method_1_code 14 = .ok (.return_, 1) := by decide +kernel
theorem d_jdk_45_method_1_code_4 : decode jdk_45_method_1_code 4 = .ok (.aload_n 0, 1) := by decide +kernel
theorem d_jdk_45_method_1_code_5 : decode jdk_45_method_1_code 5 = .ok (.aload_n 1, 1) := by decide +kernel
theorem d_jdk_45_method_1_code_6 : decode jdk_45_method_1_code 6 = .ok (.putfield 7, 3) := by decide +kernel
theorem d_jdk_45_method_1_code_9 : decode jdk_45_method_1_code 9 = .ok (.aload_n 0, 1) := by decide +kernel
def Q_own_lni (Z : State) (a : Addr) (b : Addr) (h0 : Heap) (v : Option Value) (h : Heap) (L : List Loc) : Prop := v = none ∧ Fr Z.heap.size L ∧ Keep h0 h [a] ∧ (Exa Z h a own_s10) ∧ (Fld Z h a own_s10 "elements" own_s3 (.ref b))
set_option maxRecDepth 65536 in
set_option maxHeartbeats 40000000 in
theorem own_lni (l : Launch) (Z : State) (a0 : Array Value) (hw : ∀ d ∈ tables_1, d.before a0 Z = true) (ws : List Jvm.Cond) (a : Addr) (b : Addr) (h0 : Heap) (O0 : Ext Z.heap h0) (q0 : Exa Z h0 a own_s10) (q1 : Z.heap.size ≤ a) (q2 : Fld Z h0 a own_s10 "elements" own_s3 .null) (q3 : Fld Z h0 a own_s10 "allowNulls" "Z" (.int (0 : Int32))) :
    MetFree l own_m20 (head1 (Jvm.Cond.code own_m20 jdk_45_method_1_code 3 none :: ws) ({ frames := 4, cells := 0, slots := 0, locals := 48 } : Room)) (fun aa U => aa = #[(.ref a), (.ref b), (.int (0 : Int32))] ∧ Z.Warmed39 U.vm ∧ U.heap = h0) (fun _ _ _ _ _ => True) (fun _ U o U' => ∃ v L, o = .returned v ∧ Q_own_lni Z a b h0 v U'.heap L ∧ FrameEnd U o U' L ({ frames := 4, cells := 0, slots := 0, locals := 48 } : Room).cells ({ frames := 4, cells := 0, slots := 0, locals := 48 } : Room).slots) := by
  refine MetFree.of_bodySF pf_own_lni hisR ?_
  intro p e s m args below meth c s₁ Bd hml0 hP hK
  obtain ⟨rfl, hZ, hh⟩ := hP
  have hx := Bd.exec
  have hby := Bd.bytes
  have hlk := BodyLoose.notSynchronized Bd
  have hml : c.maxLocals = 3 := hml0
  have hown : s.vm.findClass own_s10 = some m.cls := findClass_of_methodNamed Bd.named
  have hnm := (name_of_methodNamed Bd.named Bd.method).1
  have X0 : Stand p l e ({ frames := 4, cells := 0, slots := 0, locals := 48 } : Room) s m #[(.ref a), (.ref b), (.int (0 : Int32))] below meth c s₁ [] 0 0 := Stand.of_body Bd
  have e0 : s₁.heap = h0 := by rw [← hh, Bd.state]; rfl
  have N0 := Fr.nil Z.heap.size
  have K0 : Keep h0 h0 [a] := Keep.refl _ _
  refine own_start (Q := Q_own_lni Z a b h0) (ef_own_lni m (a) (b) ((0 : Int32))) ?_
  show own_G p e below (s₁.setTop (mkF m 0 #[.val (.ref a), .val (.ref b), .val (.int (0 : Int32))] [])) _
  refine own_go (fun t k => XS.aloadN X0.here hx rfl (hb hby d_jdk_45_method_1_code_0) rfl rfl k) ?_
  obtain ⟨_, _, ⟨T1z, L1z, k1z, n1z⟩, -, X1z, ⟨Lc1z, hQ1z, l1z, y1z, z1z⟩, st1z⟩ := X0.specialBack hx (y := own_m10) rfl hown (own_mw hZ hw 281 rfl) (own_mw hZ hw 204 rfl) (own_mw hZ hw 208 rfl) (by decide) (backOf (W := 0) (own_ail l Z a0 hw [] a h0 O0) hZ (own_hw hw 208 rfl) (own_hw hw 207 rfl) (by decide) (by decide)) (g := (mkF m 1 #[.val (.ref a), .val (.ref b), .val (.int (0 : Int32))] [(.ref a)])) rfl (by rw [hml]; rfl) (Steps.refl _) (a := a) (argsL := []) (rest := []) (lenOf pd_193421996 rfl) rfl (by show 2 * 0 + _ ≤ _; exact Nat.le_of_eq rfl) (hb hby d_jdk_45_method_1_code_1) (fun _ _ => ⟨rfl, e0, (by decide : 0 + 0 ≤ _), (by decide : 0 + 0 ≤ _)⟩)
  dsimp only [Pt.U, Pt.locs, Pt.cells, Pt.slots] at X1z l1z y1z z1z st1z hQ1z
  subst l1z y1z z1z
  obtain ⟨rfl, NQ1z, K1zq⟩ := hQ1z
  refine own_tr st1z ?_
  have N1z := Fr.app N0 NQ1z
  show own_G p e below (T1z.setTop (mkF m 4 #[.val (.ref a), .val (.ref b), .val (.int (0 : Int32))] [])) _
  refine own_go (fun t k => XS.aloadN X1z.here hx rfl (hb hby d_jdk_45_method_1_code_4) rfl rfl k) ?_
  refine own_go (fun t k => XS.aloadN X1z.here hx rfl (hb hby d_jdk_45_method_1_code_5) rfl rfl k) ?_
  obtain ⟨T2z, h2z, X2z, e2z, W2z, st2z⟩ := putF X1z hx hZ hown (host := "") (Or.inl (own_hw hw 111 rfl)) Via.refl K1zq q2 q0 (Or.inr ⟨(own_hw hw 112 rfl), rfl, hnm⟩) (own_hw hw 276 rfl) (ty := (.array (.object own_s2))) (by decide) rfl rfl (g := (mkF m 6 #[.val (.ref a), .val (.ref b), .val (.int (0 : Int32))] [(.ref b), (.ref a)])) rfl rfl (hb hby d_jdk_45_method_1_code_6)
  refine own_go st2z ?_
  have N2z := Fr.snoc X2z N1z q1
  have F2z : Fld Z h2z a own_s10 "elements" own_s3 (.ref b) := q2.same W2z
  have O3z := own_ext_wr O0 W2z q1
  have K3z := K0.wr W2z (Or.inl (List.mem_of_getElem? (i := 0) rfl))
  refine own_go (fun t k => XS.aloadN X2z.here hx rfl (hb hby d_jdk_45_method_1_code_9) rfl rfl k) ?_
  refine own_go (fun t k => XS.iloadN X2z.here hx rfl (hb hby d_jdk_45_method_1_code_10) rfl k) ?_
  have f4z := (q3.other W2z (Or.inr (slot_ne (Or.inr (own_hw hw 286 rfl)) (Or.inr (own_hw hw 112 rfl)) (by decide) (t := .boolean) (t' := (.array (.object own_s2))) (by decide) (by decide))))
  obtain ⟨T5z, h5z, X5z, e5z, W5z, st5z⟩ := putF X2z hx hZ hown (host := "") (Or.inl (own_hw hw 285 rfl)) Via.refl e2z f4z (q0.wr W2z) (Or.inr ⟨(own_hw hw 286 rfl), rfl, hnm⟩) (own_hw hw 276 rfl) (ty := .boolean) (by decide) rfl rfl (g := (mkF m 11 #[.val (.ref a), .val (.ref b), .val (.int (0 : Int32))] [(.int (0 : Int32)), (.ref a)])) rfl rfl (hb hby d_jdk_45_method_1_code_11)
  refine own_go st5z ?_
  have N5z := Fr.snoc X5z N2z q1
  have F5z : Fld Z h5z a own_s10 "allowNulls" "Z" (.int (0 : Int32)) := f4z.same W5z
  have O6z := own_ext_wr O3z W5z q1
  have K6z := K3z.wr W5z (Or.inl (List.mem_of_getElem? (i := 0) rfl))
  have f7z := (F2z.other W5z (Or.inr (slot_ne (Or.inr (own_hw hw 112 rfl)) (Or.inr (own_hw hw 286 rfl)) (by decide) (t := (.array (.object own_s2))) (t' := .boolean) (by decide) (by decide))))
  exact own_retV X5z hx Bd.returns (hb hby d_jdk_45_method_1_code_14) hlk (Nat.le_of_ble_eq_true rfl) (Nat.le_of_ble_eq_true rfl) (by show Q_own_lni Z a b h0 _ T5z.heap _; rw [e5z]; exact ⟨rfl, N5z, K6z, ((q0.wr W2z).wr W5z), f7z⟩)
theorem ef_own_min1 (m : MethodId) (x0 : Int32) (x1 : Int32) : entryFrame m #[(.int x0), (.int x1)] 2 = mkF m 0 #[.val (.int x0), .val (.int x1)] [] := by first | (simp [entryFrame, mkF, argsToLocals, Value.category]; done) | rfl
theorem pf_own_min1 : plainFor own_m21 = true := by decide +kernel
theorem d_jdk_29_method_69_code_0 : decode jdk_29_method_69_code 0 = .ok (.iload_n 0, 1) := by decide +kernel
theorem d_jdk_29_method_69_code_1 : decode jdk_29_method_69_code 1 = .ok (.iload_n 1, 1) := by decide +kernel
theorem d_jdk_29_method_69_code_10 : decode jdk_29_method_69_code 10 = .ok (.ireturn, 1) := by decide +kernel
theorem d_jdk_29_method_69_code_2 : decode jdk_29_method_69_code 2 = .ok (.if_icmp .gt 7, 3) := by decide +kernel
theorem d_jdk_29_method_69_code_9 : decode jdk_29_method_69_code 9 = .ok (.iload_n 1, 1) := by decide +kernel
def Q_own_min1 (Z : State) (h0 : Heap) (v : Option Value) (h : Heap) (L : List Loc) : Prop := v = some (.int (1 : Int32)) ∧ Fr Z.heap.size L ∧ h = h0
set_option maxRecDepth 65536 in
set_option maxHeartbeats 40000000 in
theorem own_min1 (l : Launch) (Z : State) (a0 : Array Value) (hw : ∀ d ∈ tables_1, d.before a0 Z = true) (ws : List Jvm.Cond) (h0 : Heap) (O0 : Ext Z.heap h0) :
    MetFree l own_m21 (head1 (Jvm.Cond.code own_m21 jdk_29_method_69_code 2 (some .int) :: ws) ({ frames := 0, cells := 0, slots := 0, locals := 0 } : Room)) (fun aa U => aa = #[(.int (10 : Int32)), (.int (1 : Int32))] ∧ Z.Warmed39 U.vm ∧ U.heap = h0) (fun _ _ _ _ _ => True) (fun _ U o U' => ∃ v L, o = .returned v ∧ Q_own_min1 Z h0 v U'.heap L ∧ FrameEnd U o U' L ({ frames := 0, cells := 0, slots := 0, locals := 0 } : Room).cells ({ frames := 0, cells := 0, slots := 0, locals := 0 } : Room).slots) := by
  refine MetFree.of_bodySF pf_own_min1 hisR ?_
  intro p e s m args below meth c s₁ Bd hml0 hP hK
  obtain ⟨rfl, hZ, hh⟩ := hP
  have hx := Bd.exec
  have hby := Bd.bytes
  have hlk := BodyLoose.notSynchronized Bd
  have hml : c.maxLocals = 2 := hml0
  have hown : s.vm.findClass "java/lang/Math" = some m.cls := findClass_of_methodNamed Bd.named
  have hnm := (name_of_methodNamed Bd.named Bd.method).1
  have X0 : Stand p l e ({ frames := 0, cells := 0, slots := 0, locals := 0 } : Room) s m #[(.int (10 : Int32)), (.int (1 : Int32))] below meth c s₁ [] 0 0 := Stand.of_body Bd
  have e0 : s₁.heap = h0 := by rw [← hh, Bd.state]; rfl
  have N0 := Fr.nil Z.heap.size
  have K0 : Keep h0 h0 [] := Keep.refl _ _
  refine own_start (Q := Q_own_min1 Z h0) (ef_own_min1 m ((10 : Int32)) ((1 : Int32))) ?_
  show own_G p e below (s₁.setTop (mkF m 0 #[.val (.int (10 : Int32)), .val (.int (1 : Int32))] [])) _
  refine own_go (fun t k => XS.iloadN X0.here hx rfl (hb hby d_jdk_29_method_69_code_0) rfl k) ?_
  refine own_go (fun t k => XS.iloadN X0.here hx rfl (hb hby d_jdk_29_method_69_code_1) rfl k) ?_
  refine own_go (fun t k => XS.icmpYes X0.here hx rfl (pc0 := 2) (pc' := 9) rfl (hb hby d_jdk_29_method_69_code_2) rfl (tlt (by decide : (1 : Int32) < (10 : Int32))).2.2.1 (by decide) (by decide) k) ?_
  show own_G p e below (s₁.setTop (mkF m 9 #[.val (.int (10 : Int32)), .val (.int (1 : Int32))] [])) _
  refine own_go (fun t k => XS.iloadN X0.here hx rfl (hb hby d_jdk_29_method_69_code_9) rfl k) ?_
  exact own_ret X0 hx Bd.returns rfl (Or.inl ⟨rfl, Or.inl rfl, _, rfl⟩) (hb hby d_jdk_29_method_69_code_10) hlk (Nat.le_of_ble_eq_true rfl) (Nat.le_of_ble_eq_true rfl) (by show Q_own_min1 Z h0 _ s₁.heap _; rw [e0]; exact ⟨rfl, N0, rfl⟩)
theorem ef_own_co3S1 (m : MethodId) (x0 : Addr) (x1 : Int32) (x2 : Addr) : entryFrame m #[(.ref x0), (.int x1), (.ref x2)] 4 = mkF m 0 #[.val (.ref x0), .val (.int x1), .val (.ref x2), .unset] [] := by first | (simp [entryFrame, mkF, argsToLocals, Value.category]; done) | rfl
theorem pf_own_co3S1 : plainFor own_m22 = true := plainFor_of_name (by simp [plainName, overriddenIn])
theorem d_jdk_65_method_120_code_0 : decode jdk_65_method_120_code 0 = .ok (.aload_n 2, 1) := by decide +kernel
theorem d_jdk_65_method_120_code_1 : decode jdk_65_method_120_code 1 = .ok (.ldc 110, 2) := by decide +kernel
theorem d_jdk_65_method_120_code_10 : decode jdk_65_method_120_code 10 = .ok (.goto 14, 3) := by decide +kernel
theorem d_jdk_65_method_120_code_24 : decode jdk_65_method_120_code 24 = .ok (.astore_n 3, 1) := by decide +kernel
theorem d_jdk_65_method_120_code_25 : decode jdk_65_method_120_code 25 = .ok (.aload_n 0, 1) := by decide +kernel
theorem d_jdk_65_method_120_code_26 : decode jdk_65_method_120_code 26 = .ok (.iconst 0, 1) := by decide +kernel
theorem d_jdk_65_method_120_code_27 : decode jdk_65_method_120_code 27 = .ok (.aload_n 3, 1) := by decide +kernel
theorem d_jdk_65_method_120_code_28 : decode jdk_65_method_120_code 28 = .ok (.iconst 0, 1) := by decide +kernel
theorem d_jdk_65_method_120_code_29 : decode jdk_65_method_120_code 29 = .ok (.aload_n 0, 1) := by decide +kernel
theorem d_jdk_65_method_120_code_3 : decode jdk_65_method_120_code 3 = .ok (.if_acmp .ne 10, 3) := by decide +kernel
theorem d_jdk_65_method_120_code_30 : decode jdk_65_method_120_code 30 = .ok (.arraylength, 1) := by decide +kernel
theorem d_jdk_65_method_120_code_31 : decode jdk_65_method_120_code 31 = .ok (.iload_n 1, 1) := by decide +kernel
theorem d_jdk_65_method_120_code_32 : decode jdk_65_method_120_code 32 = .ok (.invokestatic 304, 3) := by decide +kernel
theorem d_jdk_65_method_120_code_35 : decode jdk_65_method_120_code 35 = .ok (.invokestatic 150, 3) := by decide +kernel
theorem d_jdk_65_method_120_code_38 : decode jdk_65_method_120_code 38 = .ok (.aload_n 3, 1) := by decide +kernel
theorem d_jdk_65_method_120_code_39 : decode jdk_65_method_120_code 39 = .ok (.areturn, 1) := by decide +kernel
theorem d_jdk_65_method_120_code_6 : decode jdk_65_method_120_code 6 = .ok (.iload_n 1, 1) := by decide +kernel
theorem d_jdk_65_method_120_code_7 : decode jdk_65_method_120_code 7 = .ok (.anewarray 2, 3) := by decide +kernel
def Q_own_co3S1 (Z : State) (arr : Addr) (kk : ClassId) (mi : Addr) (x0 : Addr) (h0 : Heap) (v : Option Value) (h : Heap) (L : List Loc) : Prop := ∃ r : Addr, ∃ kr : ClassId, v = some (.ref r) ∧ Fr Z.heap.size L ∧ Keep h0 h [] ∧ (Z.heap.size ≤ r) ∧ (h0.size ≤ r) ∧ (own_A Z h r kr (.object own_s2) [(.ref x0)])
set_option maxRecDepth 65536 in
set_option maxHeartbeats 40000000 in
theorem own_co3S1 (l : Launch) (Z : State) (a0 : Array Value) (hw : ∀ d ∈ tables_1, d.before a0 Z = true) (ws : List Jvm.Cond) (arr : Addr) (kk : ClassId) (mi : Addr) (x0 : Addr) (h0 : Heap) (O0 : Ext Z.heap h0) (MI : Mir Z own_s3 mi) (q1 : own_A Z h0 arr kk (.object own_s2) [(.ref x0), .null, .null, .null, .null, .null, .null, .null, .null, .null]) (q2 : Exa Z h0 x0 own_s9) :
    MetFree l own_m22 (head1 (Jvm.Cond.code own_m22 jdk_65_method_120_code 4 (some (.array (.object own_s2))) :: ws) ({ frames := 1, cells := 1, slots := 1, locals := 24 } : Room)) (fun aa U => aa = #[(.ref arr), (.int (1 : Int32)), (.ref mi)] ∧ Z.Warmed39 U.vm ∧ U.heap = h0) (fun _ _ _ _ _ => True) (fun _ U o U' => ∃ v L, o = .returned v ∧ Q_own_co3S1 Z arr kk mi x0 h0 v U'.heap L ∧ FrameEnd U o U' L ({ frames := 1, cells := 1, slots := 1, locals := 24 } : Room).cells ({ frames := 1, cells := 1, slots := 1, locals := 24 } : Room).slots) := by
  refine MetFree.of_bodySF pf_own_co3S1 hisR ?_
  intro p e s m args below meth c s₁ Bd hml0 hP hK
  obtain ⟨rfl, hZ, hh⟩ := hP
  have hx := Bd.exec
  have hby := Bd.bytes
  have hlk := BodyLoose.notSynchronized Bd
  have hml : c.maxLocals = 4 := hml0
  have hown : s.vm.findClass "java/util/Arrays" = some m.cls := findClass_of_methodNamed Bd.named
  have hnm := (name_of_methodNamed Bd.named Bd.method).1
  have X0 : Stand p l e ({ frames := 1, cells := 1, slots := 1, locals := 24 } : Room) s m #[(.ref arr), (.int (1 : Int32)), (.ref mi)] below meth c s₁ [] 0 0 := Stand.of_body Bd
  have e0 : s₁.heap = h0 := by rw [← hh, Bd.state]; rfl
  have N0 := Fr.nil Z.heap.size
  have K0 : Keep h0 h0 [] := Keep.refl _ _
  refine own_start (Q := Q_own_co3S1 Z arr kk mi x0 h0) (ef_own_co3S1 m (arr) ((1 : Int32)) (mi)) ?_
  show own_G p e below (s₁.setTop (mkF m 0 #[.val (.ref arr), .val (.int (1 : Int32)), .val (.ref mi), .unset] [])) _
  refine own_go (fun t k => XS.aloadN X0.here hx rfl (hb hby d_jdk_65_method_120_code_0) rfl rfl k) ?_
  obtain ⟨T1z, X1z, e1z, st1z⟩ := own_ldcK X0 hx hZ hown (own_hw hw 184 rfl) MI e0 (g := (mkF m 1 #[.val (.ref arr), .val (.int (1 : Int32)), .val (.ref mi), .unset] [(.ref mi)])) rfl (hb hby d_jdk_65_method_120_code_1)
  refine own_go st1z ?_
  refine own_go (fun t k => Jvm.RoadKit.acmp (g := (mkF m 3 #[.val (.ref arr), .val (.int (1 : Int32)), .val (.ref mi), .unset] [(.ref mi), (.ref mi)])) X1z hx rfl rfl rfl (pc0 := 3) (pc' := 6) (same := true) rfl (hb hby d_jdk_65_method_120_code_3) rfl (decide_eq_true (congrArg Value.ref rfl)) (by decide) (by decide) k) ?_
  show own_G p e below (T1z.setTop (mkF m 6 #[.val (.ref arr), .val (.int (1 : Int32)), .val (.ref mi), .unset] [])) _
  refine own_go (fun t k => XS.iloadN X1z.here hx rfl (hb hby d_jdk_65_method_120_code_6) rfl k) ?_
  obtain ⟨T2z, h2z, kc2z, X2z, e2z, E2z, V2z, EX2z, O2z_, st2z⟩ := own_newRE X1z hx hZ hown (own_hw hw 185 rfl) (own_hw hw 153 rfl) e1z (g := (mkF m 7 #[.val (.ref arr), .val (.int (1 : Int32)), .val (.ref mi), .unset] [(.int (1 : Int32))])) rfl (hb hby d_jdk_65_method_120_code_7) rfl (i := 1) (by decide) (cap := 1) (by decide) (by decide) (by decide) (by decide) (ad := own_s3) (by decide)
  obtain ⟨b2z, g2z⟩ : ∃ z, z = h0.size := ⟨_, rfl⟩
  rw [← g2z] at V2z st2z EX2z
  have fr_b2z : Z.heap.size ≤ b2z := g2z ▸ O0.1
  have lz_b2z : h0.size ≤ b2z := g2z ▸ K0.1
  have ne_arr_b2z : arr ≠ b2z := Nat.ne_of_lt (g2z ▸ q1.lt)
  have ne_x0_b2z : x0 ≠ b2z := Nat.ne_of_lt (g2z ▸ q2.lt)
  have O3z := own_ext_trans O0 E2z
  have K3z := K0.ext E2z
  have V2z : own_A Z h2z b2z kc2z (.object own_s2) [.null] := V2z
  refine own_go st2z ?_
  refine own_go (fun t k => XS.goto X2z.here hx rfl (pc0 := 10) (pc' := 24) rfl (hb hby d_jdk_65_method_120_code_10) (by decide) (by decide) k) ?_
  show own_G p e below (T2z.setTop (mkF m 24 #[.val (.ref arr), .val (.int (1 : Int32)), .val (.ref mi), .unset] [(.ref b2z)])) _
  refine own_go (fun t k => XS.astoreN X2z.here hx rfl (hb hby d_jdk_65_method_120_code_24) rfl rfl (l' := #[.val (.ref arr), .val (.int (1 : Int32)), .val (.ref mi), .val (.ref b2z)]) rfl k) ?_
  refine own_go (fun t k => XS.aloadN X2z.here hx rfl (hb hby d_jdk_65_method_120_code_25) rfl rfl k) ?_
  refine own_go (fun t k => XS.iconst X2z.here hx rfl (hb hby d_jdk_65_method_120_code_26) k) ?_
  refine own_go (fun t k => XS.aloadN X2z.here hx rfl (hb hby d_jdk_65_method_120_code_27) rfl rfl k) ?_
  refine own_go (fun t k => XS.iconst X2z.here hx rfl (hb hby d_jdk_65_method_120_code_28) k) ?_
  refine own_go (fun t k => XS.aloadN X2z.here hx rfl (hb hby d_jdk_65_method_120_code_29) rfl rfl k) ?_
  refine own_go (own_len X2z hx hZ e2z (q1.ext E2z) (z := (10 : Int32)) (by show (10 : Int32).toInt = ((10 : Nat) : Int); decide) (g := (mkF m 30 #[.val (.ref arr), .val (.int (1 : Int32)), .val (.ref mi), .val (.ref b2z)] [(.ref arr), (.int (0 : Int32)), (.ref b2z), (.int (0 : Int32)), (.ref arr)])) rfl rfl (hb hby d_jdk_65_method_120_code_30)) ?_
  refine own_go (fun t k => XS.iloadN X2z.here hx rfl (hb hby d_jdk_65_method_120_code_31) rfl k) ?_
  obtain ⟨_, _, ⟨T4z, L4z, k4z, n4z⟩, -, X4z, ⟨Lc4z, hQ4z, l4z, y4z, z4z⟩, st4z⟩ := Jvm.LawKit.callS X2z hx (y := own_m21) hown (own_mw hZ hw 186 rfl) (own_mw hZ hw 187 rfl) (own_mw hZ hw 150 rfl) (own_mw hZ hw 188 rfl) (by decide) (backOf (W := 4) (own_min1 l Z a0 hw [] h2z O3z) hZ (own_hw hw 188 rfl) (own_hw hw 150 rfl) (by decide) (by decide)) (g := (mkF m 32 #[.val (.ref arr), .val (.int (1 : Int32)), .val (.ref mi), .val (.ref b2z)] [(.int (1 : Int32)), (.int (10 : Int32)), (.int (0 : Int32)), (.ref b2z), (.int (0 : Int32)), (.ref arr)])) rfl (by rw [hml]; rfl) (argsL := [(.int (10 : Int32)), (.int (1 : Int32))]) (rest := [(.int (0 : Int32)), (.ref b2z), (.int (0 : Int32)), (.ref arr)]) (lenOf pd_184293393 rfl) rfl (by show 2 * 0 + _ ≤ _; exact Nat.le_of_eq rfl) (hb hby d_jdk_65_method_120_code_32) (fun _ _ => ⟨rfl, e2z, (by decide : 1 + 0 ≤ _), (by decide : 1 + 0 ≤ _)⟩)
  dsimp only [Pt.U, Pt.locs, Pt.cells, Pt.slots] at X4z l4z y4z z4z st4z hQ4z
  subst l4z y4z z4z
  obtain ⟨rfl, NQ4z, K4zq⟩ := hQ4z
  refine own_go st4z ?_
  have N4z := Fr.app N0 NQ4z
  show own_G p e below (T4z.setTop (mkF m 35 #[.val (.ref arr), .val (.int (1 : Int32)), .val (.ref mi), .val (.ref b2z)] [(.int (1 : Int32)), (.int (0 : Int32)), (.ref b2z), (.int (0 : Int32)), (.ref arr)])) _
  obtain ⟨T5z, h5z, L5z, X5z, e5z, N5z, K5zq, V5z, st5z⟩ := own_cp X4z hx hZ hown (own_hw hw 189 rfl) (own_hw hw 192 rfl) (own_hw hw 190 rfl) (own_hw hw 191 rfl) K4zq (us := [(.ref x0)]) (vr := [(.ref x0)]) (i := 0) (j := 0) (n := 1) (q1.ext E2z) V2z (by show 10 < _; decide) (by show 1 < _; decide) (Or.inr ⟨rfl, rfl, own_stoL O2z_ V2z [(.ref x0)] (own_memc (Or.inr ⟨_, rfl, (Ins.of_exa (q2.ext E2z) (own_hw hw 262 rfl))⟩) (fun v hv => nomatch hv))⟩) (by decide) (by decide) (by decide) (by show 1 ≤ 10; decide) (by show 1 ≤ 1; decide) rfl rfl N4z fr_b2z (g := (mkF m 35 #[.val (.ref arr), .val (.int (1 : Int32)), .val (.ref mi), .val (.ref b2z)] [(.int (1 : Int32)), (.int (0 : Int32)), (.ref b2z), (.int (0 : Int32)), (.ref arr)])) rfl (by rw [hml]; rfl) rfl (hb hby d_jdk_65_method_120_code_35) (by decide) (W := 0) (by show 2 * 0 + _ ≤ _; exact Nat.le_of_eq rfl) (by decide)
  refine own_go st5z ?_
  have O6z := own_ext_keep O3z K5zq (allS fr_b2z all0)
  have K6z := K3z.trans K5zq (allS (Or.inr lz_b2z) all0)
  show own_G p e below (T5z.setTop (mkF m 38 #[.val (.ref arr), .val (.int (1 : Int32)), .val (.ref mi), .val (.ref b2z)] [])) _
  refine own_go (fun t k => XS.aloadN X5z.here hx rfl (hb hby d_jdk_65_method_120_code_38) rfl rfl k) ?_
  exact own_ret X5z hx Bd.returns rfl (Or.inr (Or.inr (Or.inr (Or.inr ⟨rfl, rfl, rfl⟩)))) (hb hby d_jdk_65_method_120_code_39) hlk (Nat.le_of_ble_eq_true rfl) (Nat.le_of_ble_eq_true rfl) (by show Q_own_co3S1 Z arr kk mi x0 h0 _ T5z.heap _; rw [e5z]; exact ⟨b2z, kc2z, rfl, N5z, K6z, fr_b2z, lz_b2z, V5z⟩)
theorem ef_own_co2S1 (m : MethodId) (x0 : Addr) (x1 : Int32) : entryFrame m #[(.ref x0), (.int x1)] 2 = mkF m 0 #[.val (.ref x0), .val (.int x1)] [] := by first | (simp [entryFrame, mkF, argsToLocals, Value.category]; done) | rfl
theorem pf_own_co2S1 : plainFor own_m23 = true := plainFor_of_name (by simp [plainName, overriddenIn])
theorem pd_684281524 : parseMethodDescriptor "([Ljava/lang/Object;ILjava/lang/Class;)[Ljava/lang/Object;" = some ⟨[(.array (.object "java/lang/Object")), .int, (.object "java/lang/Class")], some (.array (.object "java/lang/Object"))⟩ := by decide +kernel
theorem d_jdk_65_method_119_code_0 : decode jdk_65_method_119_code 0 = .ok (.aload_n 0, 1) := by decide +kernel
theorem d_jdk_65_method_119_code_1 : decode jdk_65_method_119_code 1 = .ok (.iload_n 1, 1) := by decide +kernel
theorem d_jdk_65_method_119_code_2 : decode jdk_65_method_119_code 2 = .ok (.aload_n 0, 1) := by decide +kernel
theorem d_jdk_65_method_119_code_3 : decode jdk_65_method_119_code 3 = .ok (.invokevirtual 86, 3) := by decide +kernel
theorem d_jdk_65_method_119_code_6 : decode jdk_65_method_119_code 6 = .ok (.invokestatic 300, 3) := by decide +kernel
theorem d_jdk_65_method_119_code_9 : decode jdk_65_method_119_code 9 = .ok (.areturn, 1) := by decide +kernel
def Q_own_co2S1 (Z : State) (arr : Addr) (kk : ClassId) (mi : Addr) (x0 : Addr) (h0 : Heap) (v : Option Value) (h : Heap) (L : List Loc) : Prop := ∃ r : Addr, ∃ kr : ClassId, v = some (.ref r) ∧ Fr Z.heap.size L ∧ Keep h0 h [] ∧ (Z.heap.size ≤ r) ∧ (h0.size ≤ r) ∧ (own_A Z h r kr (.object own_s2) [(.ref x0)])
set_option maxRecDepth 65536 in
set_option maxHeartbeats 40000000 in
theorem own_co2S1 (l : Launch) (Z : State) (a0 : Array Value) (hw : ∀ d ∈ tables_1, d.before a0 Z = true) (ws : List Jvm.Cond) (arr : Addr) (kk : ClassId) (mi : Addr) (x0 : Addr) (h0 : Heap) (O0 : Ext Z.heap h0) (MI : Mir Z own_s3 mi) (q1 : own_A Z h0 arr kk (.object own_s2) [(.ref x0), .null, .null, .null, .null, .null, .null, .null, .null, .null]) (q2 : Exa Z h0 arr own_s3) (q3 : Exa Z h0 x0 own_s9) :
    MetFree l own_m23 (head1 (Jvm.Cond.code own_m23 jdk_65_method_119_code 2 (some (.array (.object own_s2))) :: ws) ({ frames := 2, cells := 1, slots := 1, locals := 44 } : Room)) (fun aa U => aa = #[(.ref arr), (.int (1 : Int32))] ∧ Z.Warmed39 U.vm ∧ U.heap = h0) (fun _ _ _ _ _ => True) (fun _ U o U' => ∃ v L, o = .returned v ∧ Q_own_co2S1 Z arr kk mi x0 h0 v U'.heap L ∧ FrameEnd U o U' L ({ frames := 2, cells := 1, slots := 1, locals := 44 } : Room).cells ({ frames := 2, cells := 1, slots := 1, locals := 44 } : Room).slots) := by
  refine MetFree.of_bodySF pf_own_co2S1 hisR ?_
  intro p e s m args below meth c s₁ Bd hml0 hP hK
  obtain ⟨rfl, hZ, hh⟩ := hP
  have hx := Bd.exec
  have hby := Bd.bytes
  have hlk := BodyLoose.notSynchronized Bd
  have hml : c.maxLocals = 2 := hml0
  have hown : s.vm.findClass "java/util/Arrays" = some m.cls := findClass_of_methodNamed Bd.named
  have hnm := (name_of_methodNamed Bd.named Bd.method).1
  have X0 : Stand p l e ({ frames := 2, cells := 1, slots := 1, locals := 44 } : Room) s m #[(.ref arr), (.int (1 : Int32))] below meth c s₁ [] 0 0 := Stand.of_body Bd
  have e0 : s₁.heap = h0 := by rw [← hh, Bd.state]; rfl
  have N0 := Fr.nil Z.heap.size
  have K0 : Keep h0 h0 [] := Keep.refl _ _
  refine own_start (Q := Q_own_co2S1 Z arr kk mi x0 h0) (ef_own_co2S1 m (arr) ((1 : Int32))) ?_
  show own_G p e below (s₁.setTop (mkF m 0 #[.val (.ref arr), .val (.int (1 : Int32))] [])) _
  refine own_go (fun t k => XS.aloadN X0.here hx rfl (hb hby d_jdk_65_method_119_code_0) rfl rfl k) ?_
  refine own_go (fun t k => XS.iloadN X0.here hx rfl (hb hby d_jdk_65_method_119_code_1) rfl k) ?_
  refine own_go (fun t k => XS.aloadN X0.here hx rfl (hb hby d_jdk_65_method_119_code_2) rfl rfl k) ?_
  obtain ⟨T1z, X1z, e1z, st1z⟩ := gcls X0 hx hZ hown (own_hw hw 175 rfl) (own_hw hw 176 rfl) (own_hw hw 84 rfl) (own_hw hw 178 rfl) (own_hw hw 177 rfl) (own_hw hw 179 rfl) e0 q2 MI (g := (mkF m 3 #[.val (.ref arr), .val (.int (1 : Int32))] [(.ref arr), (.int (1 : Int32)), (.ref arr)])) rfl (by rw [hml]; rfl) rfl (hb hby d_jdk_65_method_119_code_3) (by decide) (W := 2) (by show 2 * 0 + _ ≤ _; exact Nat.le_of_eq rfl) (by decide)
  refine own_go st1z ?_
  show own_G p e below (T1z.setTop (mkF m 6 #[.val (.ref arr), .val (.int (1 : Int32))] [(.ref mi), (.int (1 : Int32)), (.ref arr)])) _
  obtain ⟨_, _, ⟨T2z, L2z, k2z, n2z⟩, -, X2z, ⟨Lc2z, hQ2z, l2z, y2z, z2z⟩, st2z⟩ := Jvm.LawKit.callS X1z hx (y := own_m22) hown (own_mw hZ hw 181 rfl) (own_mw hZ hw 182 rfl) (own_mw hZ hw 173 rfl) (own_mw hZ hw 183 rfl) (by decide) (backOf (W := 0) (own_co3S1 l Z a0 hw [] arr kk mi x0 h0 O0 MI q1 q3) hZ (own_hw hw 183 rfl) (own_hw hw 173 rfl) (by decide) (by decide)) (g := (mkF m 6 #[.val (.ref arr), .val (.int (1 : Int32))] [(.ref mi), (.int (1 : Int32)), (.ref arr)])) rfl (by rw [hml]; rfl) (argsL := [(.ref arr), (.int (1 : Int32)), (.ref mi)]) (rest := []) (lenOf pd_684281524 rfl) rfl (by show 2 * 0 + _ ≤ _; exact Nat.le_of_eq rfl) (hb hby d_jdk_65_method_119_code_6) (fun _ _ => ⟨rfl, e1z, (by decide : 0 + 1 ≤ _), (by decide : 0 + 1 ≤ _)⟩)
  dsimp only [Pt.U, Pt.locs, Pt.cells, Pt.slots] at X2z l2z y2z z2z st2z hQ2z
  subst l2z y2z z2z
  obtain ⟨r_2z, kr_2z, rfl, NQ2z, K2zq, r2z_0, r2z_1, r2z_2⟩ := hQ2z
  refine own_go st2z ?_
  have N2z := Fr.app N0 NQ2z
  have O3z := own_ext_keep O0 K2zq all0
  have K3z := K0.trans K2zq all0
  have lz_r_2z : h0.size ≤ r_2z := Nat.le_trans K0.1 r2z_1
  have ne_arr_r_2z : arr ≠ r_2z := Nat.ne_of_lt (Nat.lt_of_lt_of_le q1.lt r2z_1)
  have ne_x0_r_2z : x0 ≠ r_2z := Nat.ne_of_lt (Nat.lt_of_lt_of_le q3.lt r2z_1)
  show own_G p e below (T2z.setTop (mkF m 9 #[.val (.ref arr), .val (.int (1 : Int32))] [(.ref r_2z)])) _
  exact own_ret X2z hx Bd.returns rfl (Or.inr (Or.inr (Or.inr (Or.inr ⟨rfl, rfl, rfl⟩)))) (hb hby d_jdk_65_method_119_code_9) hlk (Nat.le_of_ble_eq_true rfl) (Nat.le_of_ble_eq_true rfl) (by show Q_own_co2S1 Z arr kk mi x0 h0 _ T2z.heap _; exact ⟨r_2z, kr_2z, rfl, N2z, K3z, r2z_0, lz_r_2z, r2z_2⟩)
theorem ef_own_taS1 (m : MethodId) (x0 : Addr) : entryFrame m #[(.ref x0)] 1 = mkF m 0 #[.val (.ref x0)] [] := by first | (simp [entryFrame, mkF, argsToLocals, Value.category]; done) | rfl
theorem pf_own_taS1 : plainFor own_m24 = true := plainFor_of_name (by simp [plainName, overriddenIn])
theorem pd_3812470197 : parseMethodDescriptor "([Ljava/lang/Object;I)[Ljava/lang/Object;" = some ⟨[(.array (.object "java/lang/Object")), .int], some (.array (.object "java/lang/Object"))⟩ := by decide +kernel
theorem d_jdk_38_method_16_code_0 : decode jdk_38_method_16_code 0 = .ok (.aload_n 0, 1) := by decide +kernel
theorem d_jdk_38_method_16_code_1 : decode jdk_38_method_16_code 1 = .ok (.getfield 9, 3) := by decide +kernel
theorem d_jdk_38_method_16_code_11 : decode jdk_38_method_16_code 11 = .ok (.areturn, 1) := by decide +kernel
theorem d_jdk_38_method_16_code_4 : decode jdk_38_method_16_code 4 = .ok (.aload_n 0, 1) := by decide +kernel
theorem d_jdk_38_method_16_code_5 : decode jdk_38_method_16_code 5 = .ok (.getfield 48, 3) := by decide +kernel
theorem d_jdk_38_method_16_code_8 : decode jdk_38_method_16_code 8 = .ok (.invokestatic 66, 3) := by decide +kernel
def Q_own_taS1 (Z : State) (a : Addr) (arr : Addr) (kk : ClassId) (mi : Addr) (x0 : Addr) (h0 : Heap) (v : Option Value) (h : Heap) (L : List Loc) : Prop := ∃ r : Addr, ∃ kr : ClassId, v = some (.ref r) ∧ Fr Z.heap.size L ∧ Keep h0 h [] ∧ (Z.heap.size ≤ r) ∧ (h0.size ≤ r) ∧ (own_A Z h r kr (.object own_s2) [(.ref x0)])
set_option maxRecDepth 65536 in
set_option maxHeartbeats 40000000 in
theorem own_taS1 (l : Launch) (Z : State) (a0 : Array Value) (hw : ∀ d ∈ tables_1, d.before a0 Z = true) (ws : List Jvm.Cond) (a : Addr) (arr : Addr) (kk : ClassId) (mi : Addr) (x0 : Addr) (h0 : Heap) (O0 : Ext Z.heap h0) (MI : Mir Z own_s3 mi) (q1 : own_A Z h0 arr kk (.object own_s2) [(.ref x0), .null, .null, .null, .null, .null, .null, .null, .null, .null]) (q2 : Exa Z h0 arr own_s3) (q3 : Fld Z h0 a own_s1 "elementData" own_s3 (.ref arr)) (q4 : Fld Z h0 a own_s1 "size" "I" (.int (1 : Int32))) (q5 : Exa Z h0 x0 own_s9) :
    MetFree l own_m24 (head1 (Jvm.Cond.code own_m24 jdk_38_method_16_code 1 (some (.array (.object own_s2))) :: ws) ({ frames := 3, cells := 1, slots := 1, locals := 60 } : Room)) (fun aa U => aa = #[(.ref a)] ∧ Z.Warmed39 U.vm ∧ U.heap = h0) (fun _ _ _ _ _ => True) (fun _ U o U' => ∃ v L, o = .returned v ∧ Q_own_taS1 Z a arr kk mi x0 h0 v U'.heap L ∧ FrameEnd U o U' L ({ frames := 3, cells := 1, slots := 1, locals := 60 } : Room).cells ({ frames := 3, cells := 1, slots := 1, locals := 60 } : Room).slots) := by
  refine MetFree.of_bodySF pf_own_taS1 hisR ?_
  intro p e s m args below meth c s₁ Bd hml0 hP hK
  obtain ⟨rfl, hZ, hh⟩ := hP
  have hx := Bd.exec
  have hby := Bd.bytes
  have hlk := BodyLoose.notSynchronized Bd
  have hml : c.maxLocals = 1 := hml0
  have hown : s.vm.findClass own_s1 = some m.cls := findClass_of_methodNamed Bd.named
  have hnm := (name_of_methodNamed Bd.named Bd.method).1
  have X0 : Stand p l e ({ frames := 3, cells := 1, slots := 1, locals := 60 } : Room) s m #[(.ref a)] below meth c s₁ [] 0 0 := Stand.of_body Bd
  have e0 : s₁.heap = h0 := by rw [← hh, Bd.state]; rfl
  have N0 := Fr.nil Z.heap.size
  have K0 : Keep h0 h0 [] := Keep.refl _ _
  refine own_start (Q := Q_own_taS1 Z a arr kk mi x0 h0) (ef_own_taS1 m (a)) ?_
  show own_G p e below (s₁.setTop (mkF m 0 #[.val (.ref a)] [])) _
  refine own_go (fun t k => XS.aloadN X0.here hx rfl (hb hby d_jdk_38_method_16_code_0) rfl rfl k) ?_
  obtain ⟨T1z, X1z, e1z, st1z⟩ := getF X0 hx hZ hown (host := "") (Or.inl (own_hw hw 28 rfl)) Via.refl e0 q3 (g := (mkF m 1 #[.val (.ref a)] [(.ref a)])) rfl rfl (hb hby d_jdk_38_method_16_code_1)
  refine own_go st1z ?_
  refine own_go (fun t k => XS.aloadN X1z.here hx rfl (hb hby d_jdk_38_method_16_code_4) rfl rfl k) ?_
  obtain ⟨T2z, X2z, e2z, st2z⟩ := getF X1z hx hZ hown (host := "") (Or.inl (own_hw hw 95 rfl)) Via.refl e1z q4 (g := (mkF m 5 #[.val (.ref a)] [(.ref a), (.ref arr)])) rfl rfl (hb hby d_jdk_38_method_16_code_5)
  refine own_go st2z ?_
  obtain ⟨_, _, ⟨T3z, L3z, k3z, n3z⟩, -, X3z, ⟨Lc3z, hQ3z, l3z, y3z, z3z⟩, st3z⟩ := Jvm.LawKit.callS X2z hx (y := own_m23) hown (own_mw hZ hw 171 rfl) (own_mw hZ hw 172 rfl) (own_mw hZ hw 173 rfl) (own_mw hZ hw 174 rfl) (by decide) (backOf (W := 0) (own_co2S1 l Z a0 hw [] arr kk mi x0 h0 O0 MI q1 q2 q5) hZ (own_hw hw 174 rfl) (own_hw hw 173 rfl) (by decide) (by decide)) (g := (mkF m 8 #[.val (.ref a)] [(.int (1 : Int32)), (.ref arr)])) rfl (by rw [hml]; rfl) (argsL := [(.ref arr), (.int (1 : Int32))]) (rest := []) (lenOf pd_3812470197 rfl) rfl (by show 2 * 0 + _ ≤ _; exact Nat.le_of_eq rfl) (hb hby d_jdk_38_method_16_code_8) (fun _ _ => ⟨rfl, e2z, (by decide : 0 + 1 ≤ _), (by decide : 0 + 1 ≤ _)⟩)
  dsimp only [Pt.U, Pt.locs, Pt.cells, Pt.slots] at X3z l3z y3z z3z st3z hQ3z
  subst l3z y3z z3z
  obtain ⟨r_3z, kr_3z, rfl, NQ3z, K3zq, r3z_0, r3z_1, r3z_2⟩ := hQ3z
  refine own_go st3z ?_
  have N3z := Fr.app N0 NQ3z
  have O4z := own_ext_keep O0 K3zq all0
  have K4z := K0.trans K3zq all0
  have lz_r_3z : h0.size ≤ r_3z := Nat.le_trans K0.1 r3z_1
  have ne_arr_r_3z : arr ≠ r_3z := Nat.ne_of_lt (Nat.lt_of_lt_of_le q1.lt r3z_1)
  have ne_a_r_3z : a ≠ r_3z := Nat.ne_of_lt (Nat.lt_of_lt_of_le q3.lt r3z_1)
  have ne_x0_r_3z : x0 ≠ r_3z := Nat.ne_of_lt (Nat.lt_of_lt_of_le q5.lt r3z_1)
  show own_G p e below (T3z.setTop (mkF m 11 #[.val (.ref a)] [(.ref r_3z)])) _
  exact own_ret X3z hx Bd.returns rfl (Or.inr (Or.inr (Or.inr (Or.inr ⟨rfl, rfl, rfl⟩)))) (hb hby d_jdk_38_method_16_code_11) hlk (Nat.le_of_ble_eq_true rfl) (Nat.le_of_ble_eq_true rfl) (by show Q_own_taS1 Z a arr kk mi x0 h0 _ T3z.heap _; exact ⟨r_3z, kr_3z, rfl, N3z, K4z, r3z_0, lz_r_3z, r3z_2⟩)
theorem ef_own_ofS1 (m : MethodId) (x0 : Addr) : entryFrame m #[(.ref x0)] 2 = mkF m 0 #[.val (.ref x0), .unset] [] := by first | (simp [entryFrame, mkF, argsToLocals, Value.category]; done) | rfl
theorem pf_own_ofS1 : plainFor own_m25 = true := plainFor_of_name (by simp [plainName, overriddenIn])
theorem pd_396412076 : parseMethodDescriptor "(Ljava/lang/Object;)V" = some ⟨[(.object "java/lang/Object")], none⟩ := by decide +kernel
theorem d_jdk_40_method_47_code_0 : decode jdk_40_method_47_code 0 = .ok (.aload_n 0, 1) := by decide +kernel
theorem d_jdk_40_method_47_code_1 : decode jdk_40_method_47_code 1 = .ok (.arraylength, 1) := by decide +kernel
theorem d_jdk_40_method_47_code_2 : decode jdk_40_method_47_code 2 = .ok (.tableswitch 57 0 2 #[26, 32, 43], 26) := by decide +kernel
theorem d_jdk_40_method_47_code_34 : decode jdk_40_method_47_code 34 = .ok (.new 96, 3) := by decide +kernel
theorem d_jdk_40_method_47_code_37 : decode jdk_40_method_47_code 37 = .ok (.dup, 1) := by decide +kernel
theorem d_jdk_40_method_47_code_38 : decode jdk_40_method_47_code 38 = .ok (.aload_n 0, 1) := by decide +kernel
theorem d_jdk_40_method_47_code_39 : decode jdk_40_method_47_code 39 = .ok (.iconst 0, 1) := by decide +kernel
theorem d_jdk_40_method_47_code_40 : decode jdk_40_method_47_code 40 = .ok (.aaload, 1) := by decide +kernel
theorem d_jdk_40_method_47_code_41 : decode jdk_40_method_47_code 41 = .ok (.invokespecial 98, 3) := by decide +kernel
theorem d_jdk_40_method_47_code_44 : decode jdk_40_method_47_code 44 = .ok (.areturn, 1) := by decide +kernel
def Q_own_ofS1 (Z : State) (b : Addr) (kb : ClassId) (eM : Addr) (x0 : Addr) (h0 : Heap) (v : Option Value) (h : Heap) (L : List Loc) : Prop := ∃ r : Addr, v = some (.ref r) ∧ Fr Z.heap.size L ∧ Keep h0 h [] ∧ (Exa Z h r own_s6) ∧ (Z.heap.size ≤ r) ∧ (h0.size ≤ r) ∧ (Fld Z h r own_s6 "e0" own_s13 (.ref x0))
set_option maxRecDepth 65536 in
set_option maxHeartbeats 40000000 in
theorem own_ofS1 (l : Launch) (Z : State) (a0 : Array Value) (hw : ∀ d ∈ tables_1, d.before a0 Z = true) (ws : List Jvm.Cond) (b : Addr) (kb : ClassId) (eM : Addr) (x0 : Addr) (h0 : Heap) (O0 : Ext Z.heap h0) (S_EM : Sta Z Z.heap own_s12 "EMPTY" own_s13 (.ref eM)) (q1 : own_A Z h0 b kb (.object own_s2) [(.ref x0)]) (q2 : Exa Z h0 x0 own_s9) :
    MetFree l own_m25 (head1 (Jvm.Cond.code own_m25 jdk_40_method_47_code 2 (some (.object own_s15)) :: ws) ({ frames := 5, cells := 1, slots := 2, locals := 64 } : Room)) (fun aa U => aa = #[(.ref b)] ∧ Z.Warmed39 U.vm ∧ U.heap = h0) (fun _ _ _ _ _ => True) (fun _ U o U' => ∃ v L, o = .returned v ∧ Q_own_ofS1 Z b kb eM x0 h0 v U'.heap L ∧ FrameEnd U o U' L ({ frames := 5, cells := 1, slots := 2, locals := 64 } : Room).cells ({ frames := 5, cells := 1, slots := 2, locals := 64 } : Room).slots) := by
  refine MetFree.of_bodySF pf_own_ofS1 hisR ?_
  intro p e s m args below meth c s₁ Bd hml0 hP hK
  obtain ⟨rfl, hZ, hh⟩ := hP
  have hx := Bd.exec
  have hby := Bd.bytes
  have hlk := BodyLoose.notSynchronized Bd
  have hml : c.maxLocals = 2 := hml0
  have hown : s.vm.findClass own_s15 = some m.cls := findClass_of_methodNamed Bd.named
  have hnm := (name_of_methodNamed Bd.named Bd.method).1
  have X0 : Stand p l e ({ frames := 5, cells := 1, slots := 2, locals := 64 } : Room) s m #[(.ref b)] below meth c s₁ [] 0 0 := Stand.of_body Bd
  have e0 : s₁.heap = h0 := by rw [← hh, Bd.state]; rfl
  have N0 := Fr.nil Z.heap.size
  have K0 : Keep h0 h0 [] := Keep.refl _ _
  refine own_start (Q := Q_own_ofS1 Z b kb eM x0 h0) (ef_own_ofS1 m (b)) ?_
  show own_G p e below (s₁.setTop (mkF m 0 #[.val (.ref b), .unset] [])) _
  refine own_go (fun t k => XS.aloadN X0.here hx rfl (hb hby d_jdk_40_method_47_code_0) rfl rfl k) ?_
  refine own_go (own_len X0 hx hZ e0 q1 (z := (1 : Int32)) (by show (1 : Int32).toInt = ((1 : Nat) : Int); decide) (g := (mkF m 1 #[.val (.ref b), .unset] [(.ref b)])) rfl rfl (hb hby d_jdk_40_method_47_code_1)) ?_
  refine own_go (fun t k => XS.tswIn X0.here hx rfl (pc0 := 2) (pc' := 34) (o := 32) rfl (hb hby d_jdk_40_method_47_code_2) rfl (by decide) (by decide) (by decide) (by decide) k) ?_
  show own_G p e below (s₁.setTop (mkF m 34 #[.val (.ref b), .unset] [])) _
  obtain ⟨T1z, h1z, X1z, e1z, E1z, A1z, D1z, -, st1z⟩ := newO X0 hx hZ hown (own_hw hw 196 rfl) (own_hw hw 197 rfl) (own_hw hw 198 rfl) e0 (g := (mkF m 34 #[.val (.ref b), .unset] [])) rfl (hb hby d_jdk_40_method_47_code_34) (by decide) (by decide)
  obtain ⟨b1z, g1z⟩ : ∃ z, z = h0.size := ⟨_, rfl⟩
  rw [← g1z] at A1z D1z st1z
  have fr_b1z : Z.heap.size ≤ b1z := g1z ▸ O0.1
  have lz_b1z : h0.size ≤ b1z := g1z ▸ K0.1
  have ne_b_b1z : b ≠ b1z := Nat.ne_of_lt (g1z ▸ q1.lt)
  have ne_x0_b1z : x0 ≠ b1z := Nat.ne_of_lt (g1z ▸ q2.lt)
  have O2z := own_ext_trans O0 E1z
  have K2z := K0.ext E1z
  have F1z_e0 : Fld Z h1z b1z own_s6 "e0" own_s13 .null := D1z (Or.inr (own_hw hw 222 rfl)) (ty := (.object own_s2)) (by decide)
  have F1z_e1 : Fld Z h1z b1z own_s6 "e1" own_s13 .null := D1z (Or.inr (own_hw hw 225 rfl)) (ty := (.object own_s2)) (by decide)
  refine own_go st1z ?_
  refine own_go (fun t k => XS.dup X1z.here hx rfl (hb hby d_jdk_40_method_47_code_37) rfl rfl k) ?_
  refine own_go (fun t k => XS.aloadN X1z.here hx rfl (hb hby d_jdk_40_method_47_code_38) rfl rfl k) ?_
  refine own_go (fun t k => XS.iconst X1z.here hx rfl (hb hby d_jdk_40_method_47_code_39) k) ?_
  refine own_go (own_ldA X1z hx hZ e1z (q1.ext E1z) rfl (i := 0) (v := (.ref x0)) (by decide) rfl (g := (mkF m 40 #[.val (.ref b), .unset] [(.int (0 : Int32)), (.ref b), (.ref b1z), (.ref b1z)])) rfl rfl (hb hby d_jdk_40_method_47_code_40)) ?_
  obtain ⟨_, _, ⟨T3z, L3z, k3z, n3z⟩, -, X3z, ⟨Lc3z, hQ3z, l3z, y3z, z3z⟩, st3z⟩ := X1z.specialBack hx (y := own_m18) rfl hown (own_mw hZ hw 199 rfl) (own_mw hZ hw 200 rfl) (own_mw hZ hw 202 rfl) (by decide) (backOf (W := 1) (own_l12a l Z a0 hw [] b1z x0 eM h1z O2z S_EM A1z fr_b1z F1z_e0 F1z_e1) hZ (own_hw hw 202 rfl) (own_hw hw 198 rfl) (by decide) (by decide)) (g := (mkF m 41 #[.val (.ref b), .unset] [(.ref x0), (.ref b1z), (.ref b1z)])) rfl (by rw [hml]; rfl) (Steps.refl _) (a := b1z) (argsL := [(.ref x0)]) (rest := [(.ref b1z)]) (lenOf pd_396412076 rfl) rfl (by show 2 * 0 + _ ≤ _; exact Nat.le_of_eq rfl) (hb hby d_jdk_40_method_47_code_41) (fun _ _ => ⟨rfl, e1z, (by decide : 1 + 0 ≤ _), (by decide : 2 + 0 ≤ _)⟩)
  dsimp only [Pt.U, Pt.locs, Pt.cells, Pt.slots] at X3z l3z y3z z3z st3z hQ3z
  subst l3z y3z z3z
  obtain ⟨rfl, NQ3z, K3zq, r3z_0, r3z_1, r3z_2⟩ := hQ3z
  refine own_tr st3z ?_
  have N3z := Fr.app N0 NQ3z
  have O4z := own_ext_keep O2z K3zq (allS fr_b1z all0)
  have K4z := K2z.trans K3zq (allS (Or.inr lz_b1z) all0)
  show own_G p e below (T3z.setTop (mkF m 44 #[.val (.ref b), .unset] [(.ref b1z)])) _
  exact own_ret X3z hx Bd.returns rfl (Or.inr (Or.inr (Or.inr (Or.inr ⟨rfl, rfl, rfl⟩)))) (hb hby d_jdk_40_method_47_code_44) hlk (Nat.le_of_ble_eq_true rfl) (Nat.le_of_ble_eq_true rfl) (by show Q_own_ofS1 Z b kb eM x0 h0 _ T3z.heap _; exact ⟨b1z, rfl, N3z, K4z, r3z_0, fr_b1z, lz_b1z, r3z_1⟩)
theorem ef_own_lcpS1 (m : MethodId) (x0 : Addr) : entryFrame m #[(.ref x0)] 2 = mkF m 0 #[.val (.ref x0), .unset] [] := by first | (simp [entryFrame, mkF, argsToLocals, Value.category]; done) | rfl
theorem pf_own_lcpS1 : plainFor own_m26 = true := plainFor_of_name (by simp [plainName, overriddenIn])
theorem pd_193422000 : parseMethodDescriptor "()Z" = some ⟨[], some .boolean⟩ := by decide +kernel
theorem pd_3349133522 : parseMethodDescriptor "([Ljava/lang/Object;)Ljava/util/List;" = some ⟨[(.array (.object "java/lang/Object"))], some (.object "java/util/List")⟩ := by decide +kernel
theorem d_jdk_56_method_3_code_0 : decode jdk_56_method_3_code 0 = .ok (.aload_n 0, 1) := by decide +kernel
theorem d_jdk_56_method_3_code_1 : decode jdk_56_method_3_code 1 = .ok (.instanceof 10, 3) := by decide +kernel
theorem d_jdk_56_method_3_code_11 : decode jdk_56_method_3_code 11 = .ok (.ifCond .eq 20, 3) := by decide +kernel
theorem d_jdk_56_method_3_code_31 : decode jdk_56_method_3_code 31 = .ok (.aload_n 0, 1) := by decide +kernel
theorem d_jdk_56_method_3_code_32 : decode jdk_56_method_3_code 32 = .ok (.invokeinterface 20 1, 5) := by decide +kernel
theorem d_jdk_56_method_3_code_37 : decode jdk_56_method_3_code 37 = .ok (.ifCond .eq 7, 3) := by decide +kernel
theorem d_jdk_56_method_3_code_4 : decode jdk_56_method_3_code 4 = .ok (.ifCond .ne 22, 3) := by decide +kernel
theorem d_jdk_56_method_3_code_44 : decode jdk_56_method_3_code 44 = .ok (.aload_n 0, 1) := by decide +kernel
theorem d_jdk_56_method_3_code_45 : decode jdk_56_method_3_code 45 = .ok (.invokeinterface 30 1, 5) := by decide +kernel
theorem d_jdk_56_method_3_code_50 : decode jdk_56_method_3_code 50 = .ok (.invokestatic 34, 3) := by decide +kernel
theorem d_jdk_56_method_3_code_53 : decode jdk_56_method_3_code 53 = .ok (.areturn, 1) := by decide +kernel
theorem d_jdk_56_method_3_code_7 : decode jdk_56_method_3_code 7 = .ok (.aload_n 0, 1) := by decide +kernel
theorem d_jdk_56_method_3_code_8 : decode jdk_56_method_3_code 8 = .ok (.instanceof 12, 3) := by decide +kernel
def Q_own_lcpS1 (Z : State) (a : Addr) (arr : Addr) (kk : ClassId) (mi : Addr) (eM : Addr) (x0 : Addr) (h0 : Heap) (v : Option Value) (h : Heap) (L : List Loc) : Prop := ∃ r : Addr, v = some (.ref r) ∧ Fr Z.heap.size L ∧ Keep h0 h [] ∧ (Exa Z h r own_s6) ∧ (Z.heap.size ≤ r) ∧ (h0.size ≤ r) ∧ (Fld Z h r own_s6 "e0" own_s13 (.ref x0))
set_option maxRecDepth 65536 in
set_option maxHeartbeats 40000000 in
theorem own_lcpS1 (l : Launch) (Z : State) (a0 : Array Value) (hw : ∀ d ∈ tables_1, d.before a0 Z = true) (ws : List Jvm.Cond) (a : Addr) (arr : Addr) (kk : ClassId) (mi : Addr) (eM : Addr) (x0 : Addr) (h0 : Heap) (O0 : Ext Z.heap h0) (MI : Mir Z own_s3 mi) (S_EM : Sta Z Z.heap own_s12 "EMPTY" own_s13 (.ref eM)) (q2 : Exa Z h0 a own_s1) (q3 : own_A Z h0 arr kk (.object own_s2) [(.ref x0), .null, .null, .null, .null, .null, .null, .null, .null, .null]) (q4 : Exa Z h0 arr own_s3) (q5 : Fld Z h0 a own_s1 "elementData" own_s3 (.ref arr)) (q6 : Fld Z h0 a own_s1 "size" "I" (.int (1 : Int32))) (q7 : Exa Z h0 x0 own_s9) :
    MetFree l own_m26 (head1 (Jvm.Cond.code own_m26 jdk_56_method_3_code 2 (some (.object own_s15)) :: ws) ({ frames := 7, cells := 2, slots := 3, locals := 100 } : Room)) (fun aa U => aa = #[(.ref a)] ∧ Z.Warmed39 U.vm ∧ U.heap = h0) (fun _ _ _ _ _ => True) (fun _ U o U' => ∃ v L, o = .returned v ∧ Q_own_lcpS1 Z a arr kk mi eM x0 h0 v U'.heap L ∧ FrameEnd U o U' L ({ frames := 7, cells := 2, slots := 3, locals := 100 } : Room).cells ({ frames := 7, cells := 2, slots := 3, locals := 100 } : Room).slots) := by
  refine MetFree.of_bodySF pf_own_lcpS1 hisR ?_
  intro p e s m args below meth c s₁ Bd hml0 hP hK
  obtain ⟨rfl, hZ, hh⟩ := hP
  have hx := Bd.exec
  have hby := Bd.bytes
  have hlk := BodyLoose.notSynchronized Bd
  have hml : c.maxLocals = 2 := hml0
  have hown : s.vm.findClass own_s12 = some m.cls := findClass_of_methodNamed Bd.named
  have hnm := (name_of_methodNamed Bd.named Bd.method).1
  have X0 : Stand p l e ({ frames := 7, cells := 2, slots := 3, locals := 100 } : Room) s m #[(.ref a)] below meth c s₁ [] 0 0 := Stand.of_body Bd
  have e0 : s₁.heap = h0 := by rw [← hh, Bd.state]; rfl
  have N0 := Fr.nil Z.heap.size
  have K0 : Keep h0 h0 [] := Keep.refl _ _
  refine own_start (Q := Q_own_lcpS1 Z a arr kk mi eM x0 h0) (ef_own_lcpS1 m (a)) ?_
  show own_G p e below (s₁.setTop (mkF m 0 #[.val (.ref a), .unset] [])) _
  refine own_go (fun t k => XS.aloadN X0.here hx rfl (hb hby d_jdk_56_method_3_code_0) rfl rfl k) ?_
  obtain ⟨T1z, X1z, e1z, st1z⟩ := instNo X0 hx hZ hown (own_hw hw 80 rfl) e0 q2 (own_NSno (own_hw hw 81 rfl) (own_hw hw 197 rfl) (NS.step (own_hw hw 81 rfl) (NS.step (own_hw hw 82 rfl) (NS.step (own_hw hw 83 rfl) (own_NSroot (own_hw hw 84 rfl) (own_hw hw 197 rfl) (by decide)) (by decide)) (by decide)) (by decide)) (by decide)) (g := (mkF m 1 #[.val (.ref a), .unset] [(.ref a)])) rfl rfl (hb hby d_jdk_56_method_3_code_1)
  refine own_go st1z ?_
  refine own_go (fun t k => XS.ifNo X1z.here hx rfl (hb hby d_jdk_56_method_3_code_4) rfl ((if0 _ _).trans (teq (by decide : (0 : Int32) = (0 : Int32))).2) k) ?_
  show own_G p e below (T1z.setTop (mkF m 7 #[.val (.ref a), .unset] [])) _
  refine own_go (fun t k => XS.aloadN X1z.here hx rfl (hb hby d_jdk_56_method_3_code_7) rfl rfl k) ?_
  obtain ⟨T2z, X2z, e2z, st2z⟩ := instNo X1z hx hZ hown (own_hw hw 85 rfl) e1z q2 (own_NSno (own_hw hw 81 rfl) (own_hw hw 276 rfl) (NS.step (own_hw hw 81 rfl) (NS.step (own_hw hw 82 rfl) (NS.step (own_hw hw 83 rfl) (own_NSroot (own_hw hw 84 rfl) (own_hw hw 276 rfl) (by decide)) (by decide)) (by decide)) (by decide)) (by decide)) (g := (mkF m 8 #[.val (.ref a), .unset] [(.ref a)])) rfl rfl (hb hby d_jdk_56_method_3_code_8)
  refine own_go st2z ?_
  refine own_go (fun t k => XS.ifYes X2z.here hx rfl (pc0 := 11) (pc' := 31) rfl (hb hby d_jdk_56_method_3_code_11) rfl ((if0 _ _).trans (teq (by decide : (0 : Int32) = (0 : Int32))).1) (by decide) (by decide) k) ?_
  show own_G p e below (T2z.setTop (mkF m 31 #[.val (.ref a), .unset] [])) _
  refine own_go (fun t k => XS.aloadN X2z.here hx rfl (hb hby d_jdk_56_method_3_code_31) rfl rfl k) ?_
  obtain ⟨cq3z, kq3z, qa3z, qb3z, qc3z⟩ := isOf hZ e2z q2
  obtain ⟨_, _, ⟨T3z, L3z, k3z, n3z⟩, -, X3z, ⟨Lc3z, hQ3z, l3z, y3z, z3z⟩, st3z⟩ := X2z.interfaceBack hx (xi := own_m27) (y := own_m17) hown (own_mw hZ hw 86 rfl) (own_mw hZ hw 87 rfl) (own_mw hZ hw 88 rfl) (own_mw hZ hw 89 rfl) (own_mw hZ hw 90 rfl) (own_mw hZ hw 91 rfl) (own_mw hZ hw 92 rfl) (own_mw hZ hw 93 rfl) (by decide) (backOf (W := 0) (own_ise1 l Z a0 hw [] a h0 O0 q6) hZ (own_hw hw 94 rfl) (own_hw hw 6 rfl) (by decide) (by decide)) qa3z qb3z qc3z (g := (mkF m 32 #[.val (.ref a), .unset] [(.ref a)])) rfl (by rw [hml]; rfl) (Steps.refl _) (argsL := []) (rest := []) (lenOf pd_193422000 rfl) rfl (by show 2 * 0 + _ ≤ _; exact Nat.le_of_eq rfl) (hb hby d_jdk_56_method_3_code_32) (fun _ _ => ⟨rfl, e2z, (by decide : 0 + 0 ≤ _), (by decide : 0 + 0 ≤ _)⟩)
  dsimp only [Pt.U, Pt.locs, Pt.cells, Pt.slots] at X3z l3z y3z z3z st3z hQ3z
  subst l3z y3z z3z
  obtain ⟨rfl, NQ3z, K3zq⟩ := hQ3z
  refine own_tr st3z ?_
  have N3z := Fr.app N0 NQ3z
  show own_G p e below (T3z.setTop (mkF m 37 #[.val (.ref a), .unset] [(.int (0 : Int32))])) _
  refine own_go (fun t k => XS.ifYes X3z.here hx rfl (pc0 := 37) (pc' := 44) rfl (hb hby d_jdk_56_method_3_code_37) rfl ((if0 _ _).trans (teq (by decide : (0 : Int32) = (0 : Int32))).1) (by decide) (by decide) k) ?_
  show own_G p e below (T3z.setTop (mkF m 44 #[.val (.ref a), .unset] [])) _
  refine own_go (fun t k => XS.aloadN X3z.here hx rfl (hb hby d_jdk_56_method_3_code_44) rfl rfl k) ?_
  obtain ⟨cq4z, kq4z, qa4z, qb4z, qc4z⟩ := isOf hZ K3zq q2
  obtain ⟨_, _, ⟨T4z, L4z, k4z, n4z⟩, -, X4z, ⟨Lc4z, hQ4z, l4z, y4z, z4z⟩, st4z⟩ := X3z.interfaceBack hx (xi := own_m28) (y := own_m24) hown (own_mw hZ hw 163 rfl) (own_mw hZ hw 164 rfl) (own_mw hZ hw 165 rfl) (own_mw hZ hw 166 rfl) (own_mw hZ hw 167 rfl) (own_mw hZ hw 168 rfl) (own_mw hZ hw 169 rfl) (own_mw hZ hw 93 rfl) (by decide) (backOf (W := 0) (own_taS1 l Z a0 hw [] a arr kk mi x0 h0 O0 MI q3 q4 q5 q6 q7) hZ (own_hw hw 170 rfl) (own_hw hw 6 rfl) (by decide) (by decide)) qa4z qb4z qc4z (g := (mkF m 45 #[.val (.ref a), .unset] [(.ref a)])) rfl (by rw [hml]; rfl) (Steps.refl _) (argsL := []) (rest := []) (lenOf pd_3591787953 rfl) rfl (by show 2 * 0 + _ ≤ _; exact Nat.le_of_eq rfl) (hb hby d_jdk_56_method_3_code_45) (fun _ _ => ⟨rfl, K3zq, (by decide : 0 + 1 ≤ _), (by decide : 0 + 1 ≤ _)⟩)
  dsimp only [Pt.U, Pt.locs, Pt.cells, Pt.slots] at X4z l4z y4z z4z st4z hQ4z
  subst l4z y4z z4z
  obtain ⟨r_4z, kr_4z, rfl, NQ4z, K4zq, r4z_0, r4z_1, r4z_2⟩ := hQ4z
  refine own_tr st4z ?_
  have N4z := Fr.app N3z NQ4z
  have O5z := own_ext_keep O0 K4zq all0
  have K5z := K0.trans K4zq all0
  have lz_r_4z : h0.size ≤ r_4z := Nat.le_trans K0.1 r4z_1
  have ne_a_r_4z : a ≠ r_4z := Nat.ne_of_lt (Nat.lt_of_lt_of_le q2.lt r4z_1)
  have ne_arr_r_4z : arr ≠ r_4z := Nat.ne_of_lt (Nat.lt_of_lt_of_le q3.lt r4z_1)
  have ne_x0_r_4z : x0 ≠ r_4z := Nat.ne_of_lt (Nat.lt_of_lt_of_le q7.lt r4z_1)
  show own_G p e below (T4z.setTop (mkF m 50 #[.val (.ref a), .unset] [(.ref r_4z)])) _
  obtain ⟨_, _, ⟨T6z, L6z, k6z, n6z⟩, -, X6z, ⟨Lc6z, hQ6z, l6z, y6z, z6z⟩, st6z⟩ := Jvm.LawKit.callS X4z hx (y := own_m25) hown (own_mw hZ hw 193 rfl) (own_mw hZ hw 194 rfl) (own_mw hZ hw 74 rfl) (own_mw hZ hw 195 rfl) (by decide) (backOf (W := 0) (own_ofS1 l Z a0 hw [] r_4z kr_4z eM x0 T4z.heap O5z S_EM r4z_2 (q7.keep K4zq)) hZ (own_hw hw 195 rfl) (own_hw hw 74 rfl) (by decide) (by decide)) (g := (mkF m 50 #[.val (.ref a), .unset] [(.ref r_4z)])) rfl (by rw [hml]; rfl) (argsL := [(.ref r_4z)]) (rest := []) (lenOf pd_3349133522 rfl) rfl (by show 2 * 0 + _ ≤ _; exact Nat.le_of_eq rfl) (hb hby d_jdk_56_method_3_code_50) (fun _ _ => ⟨rfl, rfl, (by decide : 1 + 1 ≤ _), (by decide : 1 + 2 ≤ _)⟩)
  dsimp only [Pt.U, Pt.locs, Pt.cells, Pt.slots] at X6z l6z y6z z6z st6z hQ6z
  subst l6z y6z z6z
  obtain ⟨r_6z, rfl, NQ6z, K6zq, r6z_0, r6z_1, r6z_2, r6z_3⟩ := hQ6z
  refine own_go st6z ?_
  have N6z := Fr.app N4z NQ6z
  have O7z := own_ext_keep O5z K6zq all0
  have K7z := K5z.trans K6zq all0
  have lz_r_6z : h0.size ≤ r_6z := Nat.le_trans K5z.1 r6z_2
  have ne_a_r_6z : a ≠ r_6z := Nat.ne_of_lt (Nat.lt_of_lt_of_le (q2.keep K4zq).lt r6z_2)
  have ne_arr_r_6z : arr ≠ r_6z := Nat.ne_of_lt (Nat.lt_of_lt_of_le (q3.keep K4zq (by simp)).lt r6z_2)
  have ne_x0_r_6z : x0 ≠ r_6z := Nat.ne_of_lt (Nat.lt_of_lt_of_le (q7.keep K4zq).lt r6z_2)
  have ne_r_4z_r_6z : r_4z ≠ r_6z := Nat.ne_of_lt (Nat.lt_of_lt_of_le r4z_2.lt r6z_2)
  show own_G p e below (T6z.setTop (mkF m 53 #[.val (.ref a), .unset] [(.ref r_6z)])) _
  exact own_ret X6z hx Bd.returns rfl (Or.inr (Or.inr (Or.inr (Or.inr ⟨rfl, rfl, rfl⟩)))) (hb hby d_jdk_56_method_3_code_53) hlk (Nat.le_of_ble_eq_true rfl) (Nat.le_of_ble_eq_true rfl) (by show Q_own_lcpS1 Z a arr kk mi eM x0 h0 _ T6z.heap _; exact ⟨r_6z, rfl, N6z, K7z, r6z_0, r6z_1, lz_r_6z, r6z_3⟩)
theorem ef_own_cpoS1 (m : MethodId) (x0 : Addr) : entryFrame m #[(.ref x0)] 1 = mkF m 0 #[.val (.ref x0)] [] := by first | (simp [entryFrame, mkF, argsToLocals, Value.category]; done) | rfl
theorem pf_own_cpoS1 : plainFor own_m29 = true := plainFor_of_name (by simp [plainName, overriddenIn])
theorem pd_548093608 : parseMethodDescriptor "(Ljava/util/Collection;)Ljava/util/List;" = some ⟨[(.object "java/util/Collection")], some (.object "java/util/List")⟩ := by decide +kernel
theorem d_jdk_40_method_48_code_0 : decode jdk_40_method_48_code 0 = .ok (.aload_n 0, 1) := by decide +kernel
theorem d_jdk_40_method_48_code_1 : decode jdk_40_method_48_code 1 = .ok (.invokestatic 112, 3) := by decide +kernel
theorem d_jdk_40_method_48_code_4 : decode jdk_40_method_48_code 4 = .ok (.areturn, 1) := by decide +kernel
def Q_own_cpoS1 (Z : State) (a : Addr) (arr : Addr) (kk : ClassId) (mi : Addr) (eM : Addr) (x0 : Addr) (h0 : Heap) (v : Option Value) (h : Heap) (L : List Loc) : Prop := ∃ r : Addr, v = some (.ref r) ∧ Fr Z.heap.size L ∧ Keep h0 h [] ∧ (Exa Z h r own_s6) ∧ (Z.heap.size ≤ r) ∧ (h0.size ≤ r) ∧ (Fld Z h r own_s6 "e0" own_s13 (.ref x0))
set_option maxRecDepth 65536 in
set_option maxHeartbeats 40000000 in
theorem own_cpoS1 (l : Launch) (Z : State) (a0 : Array Value) (hw : ∀ d ∈ tables_1, d.before a0 Z = true) (ws : List Jvm.Cond) (a : Addr) (arr : Addr) (kk : ClassId) (mi : Addr) (eM : Addr) (x0 : Addr) (h0 : Heap) (O0 : Ext Z.heap h0) (MI : Mir Z own_s3 mi) (S_EM : Sta Z Z.heap own_s12 "EMPTY" own_s13 (.ref eM)) (q2 : Exa Z h0 a own_s1) (q3 : own_A Z h0 arr kk (.object own_s2) [(.ref x0), .null, .null, .null, .null, .null, .null, .null, .null, .null]) (q4 : Exa Z h0 arr own_s3) (q5 : Fld Z h0 a own_s1 "elementData" own_s3 (.ref arr)) (q6 : Fld Z h0 a own_s1 "size" "I" (.int (1 : Int32))) (q7 : Exa Z h0 x0 own_s9) :
    MetFree l own_m29 (head1 (Jvm.Cond.code own_m29 jdk_40_method_48_code 1 (some (.object own_s15)) :: ws) ({ frames := 8, cells := 2, slots := 3, locals := 120 } : Room)) (fun aa U => aa = #[(.ref a)] ∧ Z.Warmed39 U.vm ∧ U.heap = h0) (fun _ _ _ _ _ => True) (fun _ U o U' => ∃ v L, o = .returned v ∧ Q_own_cpoS1 Z a arr kk mi eM x0 h0 v U'.heap L ∧ FrameEnd U o U' L ({ frames := 8, cells := 2, slots := 3, locals := 120 } : Room).cells ({ frames := 8, cells := 2, slots := 3, locals := 120 } : Room).slots) := by
  refine MetFree.of_bodySF pf_own_cpoS1 hisR ?_
  intro p e s m args below meth c s₁ Bd hml0 hP hK
  obtain ⟨rfl, hZ, hh⟩ := hP
  have hx := Bd.exec
  have hby := Bd.bytes
  have hlk := BodyLoose.notSynchronized Bd
  have hml : c.maxLocals = 1 := hml0
  have hown : s.vm.findClass own_s15 = some m.cls := findClass_of_methodNamed Bd.named
  have hnm := (name_of_methodNamed Bd.named Bd.method).1
  have X0 : Stand p l e ({ frames := 8, cells := 2, slots := 3, locals := 120 } : Room) s m #[(.ref a)] below meth c s₁ [] 0 0 := Stand.of_body Bd
  have e0 : s₁.heap = h0 := by rw [← hh, Bd.state]; rfl
  have N0 := Fr.nil Z.heap.size
  have K0 : Keep h0 h0 [] := Keep.refl _ _
  refine own_start (Q := Q_own_cpoS1 Z a arr kk mi eM x0 h0) (ef_own_cpoS1 m (a)) ?_
  show own_G p e below (s₁.setTop (mkF m 0 #[.val (.ref a)] [])) _
  refine own_go (fun t k => XS.aloadN X0.here hx rfl (hb hby d_jdk_40_method_48_code_0) rfl rfl k) ?_
  obtain ⟨_, _, ⟨T1z, L1z, k1z, n1z⟩, -, X1z, ⟨Lc1z, hQ1z, l1z, y1z, z1z⟩, st1z⟩ := Jvm.LawKit.callS X0 hx (y := own_m26) hown (own_mw hZ hw 76 rfl) (own_mw hZ hw 77 rfl) (own_mw hZ hw 78 rfl) (own_mw hZ hw 79 rfl) (by decide) (backOf (W := 0) (own_lcpS1 l Z a0 hw [] a arr kk mi eM x0 h0 O0 MI S_EM q2 q3 q4 q5 q6 q7) hZ (own_hw hw 79 rfl) (own_hw hw 78 rfl) (by decide) (by decide)) (g := (mkF m 1 #[.val (.ref a)] [(.ref a)])) rfl (by rw [hml]; rfl) (argsL := [(.ref a)]) (rest := []) (lenOf pd_548093608 rfl) rfl (by show 2 * 0 + _ ≤ _; exact Nat.le_of_eq rfl) (hb hby d_jdk_40_method_48_code_1) (fun _ _ => ⟨rfl, e0, (by decide : 0 + 2 ≤ _), (by decide : 0 + 3 ≤ _)⟩)
  dsimp only [Pt.U, Pt.locs, Pt.cells, Pt.slots] at X1z l1z y1z z1z st1z hQ1z
  subst l1z y1z z1z
  obtain ⟨r_1z, rfl, NQ1z, K1zq, r1z_0, r1z_1, r1z_2, r1z_3⟩ := hQ1z
  refine own_go st1z ?_
  have N1z := Fr.app N0 NQ1z
  have O2z := own_ext_keep O0 K1zq all0
  have K2z := K0.trans K1zq all0
  have lz_r_1z : h0.size ≤ r_1z := Nat.le_trans K0.1 r1z_2
  have ne_a_r_1z : a ≠ r_1z := Nat.ne_of_lt (Nat.lt_of_lt_of_le q2.lt r1z_2)
  have ne_arr_r_1z : arr ≠ r_1z := Nat.ne_of_lt (Nat.lt_of_lt_of_le q3.lt r1z_2)
  have ne_x0_r_1z : x0 ≠ r_1z := Nat.ne_of_lt (Nat.lt_of_lt_of_le q7.lt r1z_2)
  show own_G p e below (T1z.setTop (mkF m 4 #[.val (.ref a)] [(.ref r_1z)])) _
  exact own_ret X1z hx Bd.returns rfl (Or.inr (Or.inr (Or.inr (Or.inr ⟨rfl, rfl, rfl⟩)))) (hb hby d_jdk_40_method_48_code_4) hlk (Nat.le_of_ble_eq_true rfl) (Nat.le_of_ble_eq_true rfl) (by show Q_own_cpoS1 Z a arr kk mi eM x0 h0 _ T1z.heap _; exact ⟨r_1z, rfl, N1z, K2z, r1z_0, r1z_1, lz_r_1z, r1z_3⟩)
theorem ef_own_co3F1 (m : MethodId) (x0 : Addr) (x1 : Int32) (x2 : Addr) : entryFrame m #[(.ref x0), (.int x1), (.ref x2)] 4 = mkF m 0 #[.val (.ref x0), .val (.int x1), .val (.ref x2), .unset] [] := by first | (simp [entryFrame, mkF, argsToLocals, Value.category]; done) | rfl
theorem pf_own_co3F1 : plainFor own_m22 = true := plainFor_of_name (by simp [plainName, overriddenIn])
def Q_own_co3F1 (Z : State) (arr : Addr) (kk : ClassId) (mi : Addr) (x0 : Addr) (h0 : Heap) (v : Option Value) (h : Heap) (L : List Loc) : Prop := ∃ r : Addr, ∃ kr : ClassId, v = some (.ref r) ∧ Fr Z.heap.size L ∧ Keep h0 h [] ∧ (Z.heap.size ≤ r) ∧ (h0.size ≤ r) ∧ (own_A Z h r kr (.object own_s2) [(.ref x0)])
set_option maxRecDepth 65536 in
set_option maxHeartbeats 40000000 in
theorem own_co3F1 (l : Launch) (Z : State) (a0 : Array Value) (hw : ∀ d ∈ tables_1, d.before a0 Z = true) (ws : List Jvm.Cond) (arr : Addr) (kk : ClassId) (mi : Addr) (x0 : Addr) (h0 : Heap) (O0 : Ext Z.heap h0) (MI : Mir Z own_s3 mi) (q1 : own_A Z h0 arr kk (.object own_s2) [(.ref x0), .null, .null, .null, .null, .null, .null, .null, .null, .null]) (q2 : Exa Z h0 x0 own_s0) :
    MetFree l own_m22 (head1 (Jvm.Cond.code own_m22 jdk_65_method_120_code 4 (some (.array (.object own_s2))) :: ws) ({ frames := 1, cells := 1, slots := 1, locals := 24 } : Room)) (fun aa U => aa = #[(.ref arr), (.int (1 : Int32)), (.ref mi)] ∧ Z.Warmed39 U.vm ∧ U.heap = h0) (fun _ _ _ _ _ => True) (fun _ U o U' => ∃ v L, o = .returned v ∧ Q_own_co3F1 Z arr kk mi x0 h0 v U'.heap L ∧ FrameEnd U o U' L ({ frames := 1, cells := 1, slots := 1, locals := 24 } : Room).cells ({ frames := 1, cells := 1, slots := 1, locals := 24 } : Room).slots) := by
  refine MetFree.of_bodySF pf_own_co3F1 hisR ?_
  intro p e s m args below meth c s₁ Bd hml0 hP hK
  obtain ⟨rfl, hZ, hh⟩ := hP
  have hx := Bd.exec
  have hby := Bd.bytes
  have hlk := BodyLoose.notSynchronized Bd
  have hml : c.maxLocals = 4 := hml0
  have hown : s.vm.findClass "java/util/Arrays" = some m.cls := findClass_of_methodNamed Bd.named
  have hnm := (name_of_methodNamed Bd.named Bd.method).1
  have X0 : Stand p l e ({ frames := 1, cells := 1, slots := 1, locals := 24 } : Room) s m #[(.ref arr), (.int (1 : Int32)), (.ref mi)] below meth c s₁ [] 0 0 := Stand.of_body Bd
  have e0 : s₁.heap = h0 := by rw [← hh, Bd.state]; rfl
  have N0 := Fr.nil Z.heap.size
  have K0 : Keep h0 h0 [] := Keep.refl _ _
  refine own_start (Q := Q_own_co3F1 Z arr kk mi x0 h0) (ef_own_co3F1 m (arr) ((1 : Int32)) (mi)) ?_
  show own_G p e below (s₁.setTop (mkF m 0 #[.val (.ref arr), .val (.int (1 : Int32)), .val (.ref mi), .unset] [])) _
  refine own_go (fun t k => XS.aloadN X0.here hx rfl (hb hby d_jdk_65_method_120_code_0) rfl rfl k) ?_
  obtain ⟨T1z, X1z, e1z, st1z⟩ := own_ldcK X0 hx hZ hown (own_hw hw 184 rfl) MI e0 (g := (mkF m 1 #[.val (.ref arr), .val (.int (1 : Int32)), .val (.ref mi), .unset] [(.ref mi)])) rfl (hb hby d_jdk_65_method_120_code_1)
  refine own_go st1z ?_
  refine own_go (fun t k => Jvm.RoadKit.acmp (g := (mkF m 3 #[.val (.ref arr), .val (.int (1 : Int32)), .val (.ref mi), .unset] [(.ref mi), (.ref mi)])) X1z hx rfl rfl rfl (pc0 := 3) (pc' := 6) (same := true) rfl (hb hby d_jdk_65_method_120_code_3) rfl (decide_eq_true (congrArg Value.ref rfl)) (by decide) (by decide) k) ?_
  show own_G p e below (T1z.setTop (mkF m 6 #[.val (.ref arr), .val (.int (1 : Int32)), .val (.ref mi), .unset] [])) _
  refine own_go (fun t k => XS.iloadN X1z.here hx rfl (hb hby d_jdk_65_method_120_code_6) rfl k) ?_
  obtain ⟨T2z, h2z, kc2z, X2z, e2z, E2z, V2z, EX2z, O2z_, st2z⟩ := own_newRE X1z hx hZ hown (own_hw hw 185 rfl) (own_hw hw 153 rfl) e1z (g := (mkF m 7 #[.val (.ref arr), .val (.int (1 : Int32)), .val (.ref mi), .unset] [(.int (1 : Int32))])) rfl (hb hby d_jdk_65_method_120_code_7) rfl (i := 1) (by decide) (cap := 1) (by decide) (by decide) (by decide) (by decide) (ad := own_s3) (by decide)
  obtain ⟨b2z, g2z⟩ : ∃ z, z = h0.size := ⟨_, rfl⟩
  rw [← g2z] at V2z st2z EX2z
  have fr_b2z : Z.heap.size ≤ b2z := g2z ▸ O0.1
  have lz_b2z : h0.size ≤ b2z := g2z ▸ K0.1
  have ne_arr_b2z : arr ≠ b2z := Nat.ne_of_lt (g2z ▸ q1.lt)
  have ne_x0_b2z : x0 ≠ b2z := Nat.ne_of_lt (g2z ▸ q2.lt)
  have O3z := own_ext_trans O0 E2z
  have K3z := K0.ext E2z
  have V2z : own_A Z h2z b2z kc2z (.object own_s2) [.null] := V2z
  refine own_go st2z ?_
  refine own_go (fun t k => XS.goto X2z.here hx rfl (pc0 := 10) (pc' := 24) rfl (hb hby d_jdk_65_method_120_code_10) (by decide) (by decide) k) ?_
  show own_G p e below (T2z.setTop (mkF m 24 #[.val (.ref arr), .val (.int (1 : Int32)), .val (.ref mi), .unset] [(.ref b2z)])) _
  refine own_go (fun t k => XS.astoreN X2z.here hx rfl (hb hby d_jdk_65_method_120_code_24) rfl rfl (l' := #[.val (.ref arr), .val (.int (1 : Int32)), .val (.ref mi), .val (.ref b2z)]) rfl k) ?_
  refine own_go (fun t k => XS.aloadN X2z.here hx rfl (hb hby d_jdk_65_method_120_code_25) rfl rfl k) ?_
  refine own_go (fun t k => XS.iconst X2z.here hx rfl (hb hby d_jdk_65_method_120_code_26) k) ?_
  refine own_go (fun t k => XS.aloadN X2z.here hx rfl (hb hby d_jdk_65_method_120_code_27) rfl rfl k) ?_
  refine own_go (fun t k => XS.iconst X2z.here hx rfl (hb hby d_jdk_65_method_120_code_28) k) ?_
  refine own_go (fun t k => XS.aloadN X2z.here hx rfl (hb hby d_jdk_65_method_120_code_29) rfl rfl k) ?_
  refine own_go (own_len X2z hx hZ e2z (q1.ext E2z) (z := (10 : Int32)) (by show (10 : Int32).toInt = ((10 : Nat) : Int); decide) (g := (mkF m 30 #[.val (.ref arr), .val (.int (1 : Int32)), .val (.ref mi), .val (.ref b2z)] [(.ref arr), (.int (0 : Int32)), (.ref b2z), (.int (0 : Int32)), (.ref arr)])) rfl rfl (hb hby d_jdk_65_method_120_code_30)) ?_
  refine own_go (fun t k => XS.iloadN X2z.here hx rfl (hb hby d_jdk_65_method_120_code_31) rfl k) ?_
  obtain ⟨_, _, ⟨T4z, L4z, k4z, n4z⟩, -, X4z, ⟨Lc4z, hQ4z, l4z, y4z, z4z⟩, st4z⟩ := Jvm.LawKit.callS X2z hx (y := own_m21) hown (own_mw hZ hw 186 rfl) (own_mw hZ hw 187 rfl) (own_mw hZ hw 150 rfl) (own_mw hZ hw 188 rfl) (by decide) (backOf (W := 4) (own_min1 l Z a0 hw [] h2z O3z) hZ (own_hw hw 188 rfl) (own_hw hw 150 rfl) (by decide) (by decide)) (g := (mkF m 32 #[.val (.ref arr), .val (.int (1 : Int32)), .val (.ref mi), .val (.ref b2z)] [(.int (1 : Int32)), (.int (10 : Int32)), (.int (0 : Int32)), (.ref b2z), (.int (0 : Int32)), (.ref arr)])) rfl (by rw [hml]; rfl) (argsL := [(.int (10 : Int32)), (.int (1 : Int32))]) (rest := [(.int (0 : Int32)), (.ref b2z), (.int (0 : Int32)), (.ref arr)]) (lenOf pd_184293393 rfl) rfl (by show 2 * 0 + _ ≤ _; exact Nat.le_of_eq rfl) (hb hby d_jdk_65_method_120_code_32) (fun _ _ => ⟨rfl, e2z, (by decide : 1 + 0 ≤ _), (by decide : 1 + 0 ≤ _)⟩)
  dsimp only [Pt.U, Pt.locs, Pt.cells, Pt.slots] at X4z l4z y4z z4z st4z hQ4z
  subst l4z y4z z4z
  obtain ⟨rfl, NQ4z, K4zq⟩ := hQ4z
  refine own_go st4z ?_
  have N4z := Fr.app N0 NQ4z
  show own_G p e below (T4z.setTop (mkF m 35 #[.val (.ref arr), .val (.int (1 : Int32)), .val (.ref mi), .val (.ref b2z)] [(.int (1 : Int32)), (.int (0 : Int32)), (.ref b2z), (.int (0 : Int32)), (.ref arr)])) _
  obtain ⟨T5z, h5z, L5z, X5z, e5z, N5z, K5zq, V5z, st5z⟩ := own_cp X4z hx hZ hown (own_hw hw 189 rfl) (own_hw hw 192 rfl) (own_hw hw 190 rfl) (own_hw hw 191 rfl) K4zq (us := [(.ref x0)]) (vr := [(.ref x0)]) (i := 0) (j := 0) (n := 1) (q1.ext E2z) V2z (by show 10 < _; decide) (by show 1 < _; decide) (Or.inr ⟨rfl, rfl, own_stoL O2z_ V2z [(.ref x0)] (own_memc (Or.inr ⟨_, rfl, (Ins.of_exa (q2.ext E2z) (own_hw hw 154 rfl))⟩) (fun v hv => nomatch hv))⟩) (by decide) (by decide) (by decide) (by show 1 ≤ 10; decide) (by show 1 ≤ 1; decide) rfl rfl N4z fr_b2z (g := (mkF m 35 #[.val (.ref arr), .val (.int (1 : Int32)), .val (.ref mi), .val (.ref b2z)] [(.int (1 : Int32)), (.int (0 : Int32)), (.ref b2z), (.int (0 : Int32)), (.ref arr)])) rfl (by rw [hml]; rfl) rfl (hb hby d_jdk_65_method_120_code_35) (by decide) (W := 0) (by show 2 * 0 + _ ≤ _; exact Nat.le_of_eq rfl) (by decide)
  refine own_go st5z ?_
  have O6z := own_ext_keep O3z K5zq (allS fr_b2z all0)
  have K6z := K3z.trans K5zq (allS (Or.inr lz_b2z) all0)
  show own_G p e below (T5z.setTop (mkF m 38 #[.val (.ref arr), .val (.int (1 : Int32)), .val (.ref mi), .val (.ref b2z)] [])) _
  refine own_go (fun t k => XS.aloadN X5z.here hx rfl (hb hby d_jdk_65_method_120_code_38) rfl rfl k) ?_
  exact own_ret X5z hx Bd.returns rfl (Or.inr (Or.inr (Or.inr (Or.inr ⟨rfl, rfl, rfl⟩)))) (hb hby d_jdk_65_method_120_code_39) hlk (Nat.le_of_ble_eq_true rfl) (Nat.le_of_ble_eq_true rfl) (by show Q_own_co3F1 Z arr kk mi x0 h0 _ T5z.heap _; rw [e5z]; exact ⟨b2z, kc2z, rfl, N5z, K6z, fr_b2z, lz_b2z, V5z⟩)
theorem ef_own_co2F1 (m : MethodId) (x0 : Addr) (x1 : Int32) : entryFrame m #[(.ref x0), (.int x1)] 2 = mkF m 0 #[.val (.ref x0), .val (.int x1)] [] := by first | (simp [entryFrame, mkF, argsToLocals, Value.category]; done) | rfl
theorem pf_own_co2F1 : plainFor own_m23 = true := plainFor_of_name (by simp [plainName, overriddenIn])
def Q_own_co2F1 (Z : State) (arr : Addr) (kk : ClassId) (mi : Addr) (x0 : Addr) (h0 : Heap) (v : Option Value) (h : Heap) (L : List Loc) : Prop := ∃ r : Addr, ∃ kr : ClassId, v = some (.ref r) ∧ Fr Z.heap.size L ∧ Keep h0 h [] ∧ (Z.heap.size ≤ r) ∧ (h0.size ≤ r) ∧ (own_A Z h r kr (.object own_s2) [(.ref x0)])
set_option maxRecDepth 65536 in
set_option maxHeartbeats 40000000 in
theorem own_co2F1 (l : Launch) (Z : State) (a0 : Array Value) (hw : ∀ d ∈ tables_1, d.before a0 Z = true) (ws : List Jvm.Cond) (arr : Addr) (kk : ClassId) (mi : Addr) (x0 : Addr) (h0 : Heap) (O0 : Ext Z.heap h0) (MI : Mir Z own_s3 mi) (q1 : own_A Z h0 arr kk (.object own_s2) [(.ref x0), .null, .null, .null, .null, .null, .null, .null, .null, .null]) (q2 : Exa Z h0 arr own_s3) (q3 : Exa Z h0 x0 own_s0) :
    MetFree l own_m23 (head1 (Jvm.Cond.code own_m23 jdk_65_method_119_code 2 (some (.array (.object own_s2))) :: ws) ({ frames := 2, cells := 1, slots := 1, locals := 44 } : Room)) (fun aa U => aa = #[(.ref arr), (.int (1 : Int32))] ∧ Z.Warmed39 U.vm ∧ U.heap = h0) (fun _ _ _ _ _ => True) (fun _ U o U' => ∃ v L, o = .returned v ∧ Q_own_co2F1 Z arr kk mi x0 h0 v U'.heap L ∧ FrameEnd U o U' L ({ frames := 2, cells := 1, slots := 1, locals := 44 } : Room).cells ({ frames := 2, cells := 1, slots := 1, locals := 44 } : Room).slots) := by
  refine MetFree.of_bodySF pf_own_co2F1 hisR ?_
  intro p e s m args below meth c s₁ Bd hml0 hP hK
  obtain ⟨rfl, hZ, hh⟩ := hP
  have hx := Bd.exec
  have hby := Bd.bytes
  have hlk := BodyLoose.notSynchronized Bd
  have hml : c.maxLocals = 2 := hml0
  have hown : s.vm.findClass "java/util/Arrays" = some m.cls := findClass_of_methodNamed Bd.named
  have hnm := (name_of_methodNamed Bd.named Bd.method).1
  have X0 : Stand p l e ({ frames := 2, cells := 1, slots := 1, locals := 44 } : Room) s m #[(.ref arr), (.int (1 : Int32))] below meth c s₁ [] 0 0 := Stand.of_body Bd
  have e0 : s₁.heap = h0 := by rw [← hh, Bd.state]; rfl
  have N0 := Fr.nil Z.heap.size
  have K0 : Keep h0 h0 [] := Keep.refl _ _
  refine own_start (Q := Q_own_co2F1 Z arr kk mi x0 h0) (ef_own_co2F1 m (arr) ((1 : Int32))) ?_
  show own_G p e below (s₁.setTop (mkF m 0 #[.val (.ref arr), .val (.int (1 : Int32))] [])) _
  refine own_go (fun t k => XS.aloadN X0.here hx rfl (hb hby d_jdk_65_method_119_code_0) rfl rfl k) ?_
  refine own_go (fun t k => XS.iloadN X0.here hx rfl (hb hby d_jdk_65_method_119_code_1) rfl k) ?_
  refine own_go (fun t k => XS.aloadN X0.here hx rfl (hb hby d_jdk_65_method_119_code_2) rfl rfl k) ?_
  obtain ⟨T1z, X1z, e1z, st1z⟩ := gcls X0 hx hZ hown (own_hw hw 175 rfl) (own_hw hw 176 rfl) (own_hw hw 84 rfl) (own_hw hw 178 rfl) (own_hw hw 177 rfl) (own_hw hw 179 rfl) e0 q2 MI (g := (mkF m 3 #[.val (.ref arr), .val (.int (1 : Int32))] [(.ref arr), (.int (1 : Int32)), (.ref arr)])) rfl (by rw [hml]; rfl) rfl (hb hby d_jdk_65_method_119_code_3) (by decide) (W := 2) (by show 2 * 0 + _ ≤ _; exact Nat.le_of_eq rfl) (by decide)
  refine own_go st1z ?_
  show own_G p e below (T1z.setTop (mkF m 6 #[.val (.ref arr), .val (.int (1 : Int32))] [(.ref mi), (.int (1 : Int32)), (.ref arr)])) _
  obtain ⟨_, _, ⟨T2z, L2z, k2z, n2z⟩, -, X2z, ⟨Lc2z, hQ2z, l2z, y2z, z2z⟩, st2z⟩ := Jvm.LawKit.callS X1z hx (y := own_m22) hown (own_mw hZ hw 181 rfl) (own_mw hZ hw 182 rfl) (own_mw hZ hw 173 rfl) (own_mw hZ hw 183 rfl) (by decide) (backOf (W := 0) (own_co3F1 l Z a0 hw [] arr kk mi x0 h0 O0 MI q1 q3) hZ (own_hw hw 183 rfl) (own_hw hw 173 rfl) (by decide) (by decide)) (g := (mkF m 6 #[.val (.ref arr), .val (.int (1 : Int32))] [(.ref mi), (.int (1 : Int32)), (.ref arr)])) rfl (by rw [hml]; rfl) (argsL := [(.ref arr), (.int (1 : Int32)), (.ref mi)]) (rest := []) (lenOf pd_684281524 rfl) rfl (by show 2 * 0 + _ ≤ _; exact Nat.le_of_eq rfl) (hb hby d_jdk_65_method_119_code_6) (fun _ _ => ⟨rfl, e1z, (by decide : 0 + 1 ≤ _), (by decide : 0 + 1 ≤ _)⟩)
  dsimp only [Pt.U, Pt.locs, Pt.cells, Pt.slots] at X2z l2z y2z z2z st2z hQ2z
  subst l2z y2z z2z
  obtain ⟨r_2z, kr_2z, rfl, NQ2z, K2zq, r2z_0, r2z_1, r2z_2⟩ := hQ2z
  refine own_go st2z ?_
  have N2z := Fr.app N0 NQ2z
  have O3z := own_ext_keep O0 K2zq all0
  have K3z := K0.trans K2zq all0
  have lz_r_2z : h0.size ≤ r_2z := Nat.le_trans K0.1 r2z_1
  have ne_arr_r_2z : arr ≠ r_2z := Nat.ne_of_lt (Nat.lt_of_lt_of_le q1.lt r2z_1)
  have ne_x0_r_2z : x0 ≠ r_2z := Nat.ne_of_lt (Nat.lt_of_lt_of_le q3.lt r2z_1)
  show own_G p e below (T2z.setTop (mkF m 9 #[.val (.ref arr), .val (.int (1 : Int32))] [(.ref r_2z)])) _
  exact own_ret X2z hx Bd.returns rfl (Or.inr (Or.inr (Or.inr (Or.inr ⟨rfl, rfl, rfl⟩)))) (hb hby d_jdk_65_method_119_code_9) hlk (Nat.le_of_ble_eq_true rfl) (Nat.le_of_ble_eq_true rfl) (by show Q_own_co2F1 Z arr kk mi x0 h0 _ T2z.heap _; exact ⟨r_2z, kr_2z, rfl, N2z, K3z, r2z_0, lz_r_2z, r2z_2⟩)
theorem ef_own_taF1 (m : MethodId) (x0 : Addr) : entryFrame m #[(.ref x0)] 1 = mkF m 0 #[.val (.ref x0)] [] := by first | (simp [entryFrame, mkF, argsToLocals, Value.category]; done) | rfl
theorem pf_own_taF1 : plainFor own_m24 = true := plainFor_of_name (by simp [plainName, overriddenIn])
def Q_own_taF1 (Z : State) (a : Addr) (arr : Addr) (kk : ClassId) (mi : Addr) (x0 : Addr) (h0 : Heap) (v : Option Value) (h : Heap) (L : List Loc) : Prop := ∃ r : Addr, ∃ kr : ClassId, v = some (.ref r) ∧ Fr Z.heap.size L ∧ Keep h0 h [] ∧ (Z.heap.size ≤ r) ∧ (h0.size ≤ r) ∧ (own_A Z h r kr (.object own_s2) [(.ref x0)])
set_option maxRecDepth 65536 in
set_option maxHeartbeats 40000000 in
theorem own_taF1 (l : Launch) (Z : State) (a0 : Array Value) (hw : ∀ d ∈ tables_1, d.before a0 Z = true) (ws : List Jvm.Cond) (a : Addr) (arr : Addr) (kk : ClassId) (mi : Addr) (x0 : Addr) (h0 : Heap) (O0 : Ext Z.heap h0) (MI : Mir Z own_s3 mi) (q1 : own_A Z h0 arr kk (.object own_s2) [(.ref x0), .null, .null, .null, .null, .null, .null, .null, .null, .null]) (q2 : Exa Z h0 arr own_s3) (q3 : Fld Z h0 a own_s1 "elementData" own_s3 (.ref arr)) (q4 : Fld Z h0 a own_s1 "size" "I" (.int (1 : Int32))) (q5 : Exa Z h0 x0 own_s0) :
    MetFree l own_m24 (head1 (Jvm.Cond.code own_m24 jdk_38_method_16_code 1 (some (.array (.object own_s2))) :: ws) ({ frames := 3, cells := 1, slots := 1, locals := 60 } : Room)) (fun aa U => aa = #[(.ref a)] ∧ Z.Warmed39 U.vm ∧ U.heap = h0) (fun _ _ _ _ _ => True) (fun _ U o U' => ∃ v L, o = .returned v ∧ Q_own_taF1 Z a arr kk mi x0 h0 v U'.heap L ∧ FrameEnd U o U' L ({ frames := 3, cells := 1, slots := 1, locals := 60 } : Room).cells ({ frames := 3, cells := 1, slots := 1, locals := 60 } : Room).slots) := by
  refine MetFree.of_bodySF pf_own_taF1 hisR ?_
  intro p e s m args below meth c s₁ Bd hml0 hP hK
  obtain ⟨rfl, hZ, hh⟩ := hP
  have hx := Bd.exec
  have hby := Bd.bytes
  have hlk := BodyLoose.notSynchronized Bd
  have hml : c.maxLocals = 1 := hml0
  have hown : s.vm.findClass own_s1 = some m.cls := findClass_of_methodNamed Bd.named
  have hnm := (name_of_methodNamed Bd.named Bd.method).1
  have X0 : Stand p l e ({ frames := 3, cells := 1, slots := 1, locals := 60 } : Room) s m #[(.ref a)] below meth c s₁ [] 0 0 := Stand.of_body Bd
  have e0 : s₁.heap = h0 := by rw [← hh, Bd.state]; rfl
  have N0 := Fr.nil Z.heap.size
  have K0 : Keep h0 h0 [] := Keep.refl _ _
  refine own_start (Q := Q_own_taF1 Z a arr kk mi x0 h0) (ef_own_taF1 m (a)) ?_
  show own_G p e below (s₁.setTop (mkF m 0 #[.val (.ref a)] [])) _
  refine own_go (fun t k => XS.aloadN X0.here hx rfl (hb hby d_jdk_38_method_16_code_0) rfl rfl k) ?_
  obtain ⟨T1z, X1z, e1z, st1z⟩ := getF X0 hx hZ hown (host := "") (Or.inl (own_hw hw 28 rfl)) Via.refl e0 q3 (g := (mkF m 1 #[.val (.ref a)] [(.ref a)])) rfl rfl (hb hby d_jdk_38_method_16_code_1)
  refine own_go st1z ?_
  refine own_go (fun t k => XS.aloadN X1z.here hx rfl (hb hby d_jdk_38_method_16_code_4) rfl rfl k) ?_
  obtain ⟨T2z, X2z, e2z, st2z⟩ := getF X1z hx hZ hown (host := "") (Or.inl (own_hw hw 95 rfl)) Via.refl e1z q4 (g := (mkF m 5 #[.val (.ref a)] [(.ref a), (.ref arr)])) rfl rfl (hb hby d_jdk_38_method_16_code_5)
  refine own_go st2z ?_
  obtain ⟨_, _, ⟨T3z, L3z, k3z, n3z⟩, -, X3z, ⟨Lc3z, hQ3z, l3z, y3z, z3z⟩, st3z⟩ := Jvm.LawKit.callS X2z hx (y := own_m23) hown (own_mw hZ hw 171 rfl) (own_mw hZ hw 172 rfl) (own_mw hZ hw 173 rfl) (own_mw hZ hw 174 rfl) (by decide) (backOf (W := 0) (own_co2F1 l Z a0 hw [] arr kk mi x0 h0 O0 MI q1 q2 q5) hZ (own_hw hw 174 rfl) (own_hw hw 173 rfl) (by decide) (by decide)) (g := (mkF m 8 #[.val (.ref a)] [(.int (1 : Int32)), (.ref arr)])) rfl (by rw [hml]; rfl) (argsL := [(.ref arr), (.int (1 : Int32))]) (rest := []) (lenOf pd_3812470197 rfl) rfl (by show 2 * 0 + _ ≤ _; exact Nat.le_of_eq rfl) (hb hby d_jdk_38_method_16_code_8) (fun _ _ => ⟨rfl, e2z, (by decide : 0 + 1 ≤ _), (by decide : 0 + 1 ≤ _)⟩)
  dsimp only [Pt.U, Pt.locs, Pt.cells, Pt.slots] at X3z l3z y3z z3z st3z hQ3z
  subst l3z y3z z3z
  obtain ⟨r_3z, kr_3z, rfl, NQ3z, K3zq, r3z_0, r3z_1, r3z_2⟩ := hQ3z
  refine own_go st3z ?_
  have N3z := Fr.app N0 NQ3z
  have O4z := own_ext_keep O0 K3zq all0
  have K4z := K0.trans K3zq all0
  have lz_r_3z : h0.size ≤ r_3z := Nat.le_trans K0.1 r3z_1
  have ne_arr_r_3z : arr ≠ r_3z := Nat.ne_of_lt (Nat.lt_of_lt_of_le q1.lt r3z_1)
  have ne_a_r_3z : a ≠ r_3z := Nat.ne_of_lt (Nat.lt_of_lt_of_le q3.lt r3z_1)
  have ne_x0_r_3z : x0 ≠ r_3z := Nat.ne_of_lt (Nat.lt_of_lt_of_le q5.lt r3z_1)
  show own_G p e below (T3z.setTop (mkF m 11 #[.val (.ref a)] [(.ref r_3z)])) _
  exact own_ret X3z hx Bd.returns rfl (Or.inr (Or.inr (Or.inr (Or.inr ⟨rfl, rfl, rfl⟩)))) (hb hby d_jdk_38_method_16_code_11) hlk (Nat.le_of_ble_eq_true rfl) (Nat.le_of_ble_eq_true rfl) (by show Q_own_taF1 Z a arr kk mi x0 h0 _ T3z.heap _; exact ⟨r_3z, kr_3z, rfl, N3z, K4z, r3z_0, lz_r_3z, r3z_2⟩)
theorem ef_own_ofF1 (m : MethodId) (x0 : Addr) : entryFrame m #[(.ref x0)] 2 = mkF m 0 #[.val (.ref x0), .unset] [] := by first | (simp [entryFrame, mkF, argsToLocals, Value.category]; done) | rfl
theorem pf_own_ofF1 : plainFor own_m25 = true := plainFor_of_name (by simp [plainName, overriddenIn])
def Q_own_ofF1 (Z : State) (b : Addr) (kb : ClassId) (eM : Addr) (x0 : Addr) (h0 : Heap) (v : Option Value) (h : Heap) (L : List Loc) : Prop := ∃ r : Addr, v = some (.ref r) ∧ Fr Z.heap.size L ∧ Keep h0 h [] ∧ (Exa Z h r own_s6) ∧ (Z.heap.size ≤ r) ∧ (h0.size ≤ r) ∧ (Fld Z h r own_s6 "e0" own_s13 (.ref x0))
set_option maxRecDepth 65536 in
set_option maxHeartbeats 40000000 in
theorem own_ofF1 (l : Launch) (Z : State) (a0 : Array Value) (hw : ∀ d ∈ tables_1, d.before a0 Z = true) (ws : List Jvm.Cond) (b : Addr) (kb : ClassId) (eM : Addr) (x0 : Addr) (h0 : Heap) (O0 : Ext Z.heap h0) (S_EM : Sta Z Z.heap own_s12 "EMPTY" own_s13 (.ref eM)) (q1 : own_A Z h0 b kb (.object own_s2) [(.ref x0)]) (q2 : Exa Z h0 x0 own_s0) :
    MetFree l own_m25 (head1 (Jvm.Cond.code own_m25 jdk_40_method_47_code 2 (some (.object own_s15)) :: ws) ({ frames := 5, cells := 1, slots := 2, locals := 64 } : Room)) (fun aa U => aa = #[(.ref b)] ∧ Z.Warmed39 U.vm ∧ U.heap = h0) (fun _ _ _ _ _ => True) (fun _ U o U' => ∃ v L, o = .returned v ∧ Q_own_ofF1 Z b kb eM x0 h0 v U'.heap L ∧ FrameEnd U o U' L ({ frames := 5, cells := 1, slots := 2, locals := 64 } : Room).cells ({ frames := 5, cells := 1, slots := 2, locals := 64 } : Room).slots) := by
  refine MetFree.of_bodySF pf_own_ofF1 hisR ?_
  intro p e s m args below meth c s₁ Bd hml0 hP hK
  obtain ⟨rfl, hZ, hh⟩ := hP
  have hx := Bd.exec
  have hby := Bd.bytes
  have hlk := BodyLoose.notSynchronized Bd
  have hml : c.maxLocals = 2 := hml0
  have hown : s.vm.findClass own_s15 = some m.cls := findClass_of_methodNamed Bd.named
  have hnm := (name_of_methodNamed Bd.named Bd.method).1
  have X0 : Stand p l e ({ frames := 5, cells := 1, slots := 2, locals := 64 } : Room) s m #[(.ref b)] below meth c s₁ [] 0 0 := Stand.of_body Bd
  have e0 : s₁.heap = h0 := by rw [← hh, Bd.state]; rfl
  have N0 := Fr.nil Z.heap.size
  have K0 : Keep h0 h0 [] := Keep.refl _ _
  refine own_start (Q := Q_own_ofF1 Z b kb eM x0 h0) (ef_own_ofF1 m (b)) ?_
  show own_G p e below (s₁.setTop (mkF m 0 #[.val (.ref b), .unset] [])) _
  refine own_go (fun t k => XS.aloadN X0.here hx rfl (hb hby d_jdk_40_method_47_code_0) rfl rfl k) ?_
  refine own_go (own_len X0 hx hZ e0 q1 (z := (1 : Int32)) (by show (1 : Int32).toInt = ((1 : Nat) : Int); decide) (g := (mkF m 1 #[.val (.ref b), .unset] [(.ref b)])) rfl rfl (hb hby d_jdk_40_method_47_code_1)) ?_
  refine own_go (fun t k => XS.tswIn X0.here hx rfl (pc0 := 2) (pc' := 34) (o := 32) rfl (hb hby d_jdk_40_method_47_code_2) rfl (by decide) (by decide) (by decide) (by decide) k) ?_
  show own_G p e below (s₁.setTop (mkF m 34 #[.val (.ref b), .unset] [])) _
  obtain ⟨T1z, h1z, X1z, e1z, E1z, A1z, D1z, -, st1z⟩ := newO X0 hx hZ hown (own_hw hw 196 rfl) (own_hw hw 197 rfl) (own_hw hw 198 rfl) e0 (g := (mkF m 34 #[.val (.ref b), .unset] [])) rfl (hb hby d_jdk_40_method_47_code_34) (by decide) (by decide)
  obtain ⟨b1z, g1z⟩ : ∃ z, z = h0.size := ⟨_, rfl⟩
  rw [← g1z] at A1z D1z st1z
  have fr_b1z : Z.heap.size ≤ b1z := g1z ▸ O0.1
  have lz_b1z : h0.size ≤ b1z := g1z ▸ K0.1
  have ne_b_b1z : b ≠ b1z := Nat.ne_of_lt (g1z ▸ q1.lt)
  have ne_x0_b1z : x0 ≠ b1z := Nat.ne_of_lt (g1z ▸ q2.lt)
  have O2z := own_ext_trans O0 E1z
  have K2z := K0.ext E1z
  have F1z_e0 : Fld Z h1z b1z own_s6 "e0" own_s13 .null := D1z (Or.inr (own_hw hw 222 rfl)) (ty := (.object own_s2)) (by decide)
  have F1z_e1 : Fld Z h1z b1z own_s6 "e1" own_s13 .null := D1z (Or.inr (own_hw hw 225 rfl)) (ty := (.object own_s2)) (by decide)
  refine own_go st1z ?_
  refine own_go (fun t k => XS.dup X1z.here hx rfl (hb hby d_jdk_40_method_47_code_37) rfl rfl k) ?_
  refine own_go (fun t k => XS.aloadN X1z.here hx rfl (hb hby d_jdk_40_method_47_code_38) rfl rfl k) ?_
  refine own_go (fun t k => XS.iconst X1z.here hx rfl (hb hby d_jdk_40_method_47_code_39) k) ?_
  refine own_go (own_ldA X1z hx hZ e1z (q1.ext E1z) rfl (i := 0) (v := (.ref x0)) (by decide) rfl (g := (mkF m 40 #[.val (.ref b), .unset] [(.int (0 : Int32)), (.ref b), (.ref b1z), (.ref b1z)])) rfl rfl (hb hby d_jdk_40_method_47_code_40)) ?_
  obtain ⟨_, _, ⟨T3z, L3z, k3z, n3z⟩, -, X3z, ⟨Lc3z, hQ3z, l3z, y3z, z3z⟩, st3z⟩ := X1z.specialBack hx (y := own_m18) rfl hown (own_mw hZ hw 199 rfl) (own_mw hZ hw 200 rfl) (own_mw hZ hw 202 rfl) (by decide) (backOf (W := 1) (own_l12a l Z a0 hw [] b1z x0 eM h1z O2z S_EM A1z fr_b1z F1z_e0 F1z_e1) hZ (own_hw hw 202 rfl) (own_hw hw 198 rfl) (by decide) (by decide)) (g := (mkF m 41 #[.val (.ref b), .unset] [(.ref x0), (.ref b1z), (.ref b1z)])) rfl (by rw [hml]; rfl) (Steps.refl _) (a := b1z) (argsL := [(.ref x0)]) (rest := [(.ref b1z)]) (lenOf pd_396412076 rfl) rfl (by show 2 * 0 + _ ≤ _; exact Nat.le_of_eq rfl) (hb hby d_jdk_40_method_47_code_41) (fun _ _ => ⟨rfl, e1z, (by decide : 1 + 0 ≤ _), (by decide : 2 + 0 ≤ _)⟩)
  dsimp only [Pt.U, Pt.locs, Pt.cells, Pt.slots] at X3z l3z y3z z3z st3z hQ3z
  subst l3z y3z z3z
  obtain ⟨rfl, NQ3z, K3zq, r3z_0, r3z_1, r3z_2⟩ := hQ3z
  refine own_tr st3z ?_
  have N3z := Fr.app N0 NQ3z
  have O4z := own_ext_keep O2z K3zq (allS fr_b1z all0)
  have K4z := K2z.trans K3zq (allS (Or.inr lz_b1z) all0)
  show own_G p e below (T3z.setTop (mkF m 44 #[.val (.ref b), .unset] [(.ref b1z)])) _
  exact own_ret X3z hx Bd.returns rfl (Or.inr (Or.inr (Or.inr (Or.inr ⟨rfl, rfl, rfl⟩)))) (hb hby d_jdk_40_method_47_code_44) hlk (Nat.le_of_ble_eq_true rfl) (Nat.le_of_ble_eq_true rfl) (by show Q_own_ofF1 Z b kb eM x0 h0 _ T3z.heap _; exact ⟨b1z, rfl, N3z, K4z, r3z_0, fr_b1z, lz_b1z, r3z_1⟩)
theorem ef_own_lcpF1 (m : MethodId) (x0 : Addr) : entryFrame m #[(.ref x0)] 2 = mkF m 0 #[.val (.ref x0), .unset] [] := by first | (simp [entryFrame, mkF, argsToLocals, Value.category]; done) | rfl
theorem pf_own_lcpF1 : plainFor own_m26 = true := plainFor_of_name (by simp [plainName, overriddenIn])
def Q_own_lcpF1 (Z : State) (a : Addr) (arr : Addr) (kk : ClassId) (mi : Addr) (eM : Addr) (x0 : Addr) (h0 : Heap) (v : Option Value) (h : Heap) (L : List Loc) : Prop := ∃ r : Addr, v = some (.ref r) ∧ Fr Z.heap.size L ∧ Keep h0 h [] ∧ (Exa Z h r own_s6) ∧ (Z.heap.size ≤ r) ∧ (h0.size ≤ r) ∧ (Fld Z h r own_s6 "e0" own_s13 (.ref x0))
set_option maxRecDepth 65536 in
set_option maxHeartbeats 40000000 in
theorem own_lcpF1 (l : Launch) (Z : State) (a0 : Array Value) (hw : ∀ d ∈ tables_1, d.before a0 Z = true) (ws : List Jvm.Cond) (a : Addr) (arr : Addr) (kk : ClassId) (mi : Addr) (eM : Addr) (x0 : Addr) (h0 : Heap) (O0 : Ext Z.heap h0) (MI : Mir Z own_s3 mi) (S_EM : Sta Z Z.heap own_s12 "EMPTY" own_s13 (.ref eM)) (q2 : Exa Z h0 a own_s1) (q3 : own_A Z h0 arr kk (.object own_s2) [(.ref x0), .null, .null, .null, .null, .null, .null, .null, .null, .null]) (q4 : Exa Z h0 arr own_s3) (q5 : Fld Z h0 a own_s1 "elementData" own_s3 (.ref arr)) (q6 : Fld Z h0 a own_s1 "size" "I" (.int (1 : Int32))) (q7 : Exa Z h0 x0 own_s0) :
    MetFree l own_m26 (head1 (Jvm.Cond.code own_m26 jdk_56_method_3_code 2 (some (.object own_s15)) :: ws) ({ frames := 7, cells := 2, slots := 3, locals := 100 } : Room)) (fun aa U => aa = #[(.ref a)] ∧ Z.Warmed39 U.vm ∧ U.heap = h0) (fun _ _ _ _ _ => True) (fun _ U o U' => ∃ v L, o = .returned v ∧ Q_own_lcpF1 Z a arr kk mi eM x0 h0 v U'.heap L ∧ FrameEnd U o U' L ({ frames := 7, cells := 2, slots := 3, locals := 100 } : Room).cells ({ frames := 7, cells := 2, slots := 3, locals := 100 } : Room).slots) := by
  refine MetFree.of_bodySF pf_own_lcpF1 hisR ?_
  intro p e s m args below meth c s₁ Bd hml0 hP hK
  obtain ⟨rfl, hZ, hh⟩ := hP
  have hx := Bd.exec
  have hby := Bd.bytes
  have hlk := BodyLoose.notSynchronized Bd
  have hml : c.maxLocals = 2 := hml0
  have hown : s.vm.findClass own_s12 = some m.cls := findClass_of_methodNamed Bd.named
  have hnm := (name_of_methodNamed Bd.named Bd.method).1
  have X0 : Stand p l e ({ frames := 7, cells := 2, slots := 3, locals := 100 } : Room) s m #[(.ref a)] below meth c s₁ [] 0 0 := Stand.of_body Bd
  have e0 : s₁.heap = h0 := by rw [← hh, Bd.state]; rfl
  have N0 := Fr.nil Z.heap.size
  have K0 : Keep h0 h0 [] := Keep.refl _ _
  refine own_start (Q := Q_own_lcpF1 Z a arr kk mi eM x0 h0) (ef_own_lcpF1 m (a)) ?_
  show own_G p e below (s₁.setTop (mkF m 0 #[.val (.ref a), .unset] [])) _
  refine own_go (fun t k => XS.aloadN X0.here hx rfl (hb hby d_jdk_56_method_3_code_0) rfl rfl k) ?_
  obtain ⟨T1z, X1z, e1z, st1z⟩ := instNo X0 hx hZ hown (own_hw hw 80 rfl) e0 q2 (own_NSno (own_hw hw 81 rfl) (own_hw hw 197 rfl) (NS.step (own_hw hw 81 rfl) (NS.step (own_hw hw 82 rfl) (NS.step (own_hw hw 83 rfl) (own_NSroot (own_hw hw 84 rfl) (own_hw hw 197 rfl) (by decide)) (by decide)) (by decide)) (by decide)) (by decide)) (g := (mkF m 1 #[.val (.ref a), .unset] [(.ref a)])) rfl rfl (hb hby d_jdk_56_method_3_code_1)
  refine own_go st1z ?_
  refine own_go (fun t k => XS.ifNo X1z.here hx rfl (hb hby d_jdk_56_method_3_code_4) rfl ((if0 _ _).trans (teq (by decide : (0 : Int32) = (0 : Int32))).2) k) ?_
  show own_G p e below (T1z.setTop (mkF m 7 #[.val (.ref a), .unset] [])) _
  refine own_go (fun t k => XS.aloadN X1z.here hx rfl (hb hby d_jdk_56_method_3_code_7) rfl rfl k) ?_
  obtain ⟨T2z, X2z, e2z, st2z⟩ := instNo X1z hx hZ hown (own_hw hw 85 rfl) e1z q2 (own_NSno (own_hw hw 81 rfl) (own_hw hw 276 rfl) (NS.step (own_hw hw 81 rfl) (NS.step (own_hw hw 82 rfl) (NS.step (own_hw hw 83 rfl) (own_NSroot (own_hw hw 84 rfl) (own_hw hw 276 rfl) (by decide)) (by decide)) (by decide)) (by decide)) (by decide)) (g := (mkF m 8 #[.val (.ref a), .unset] [(.ref a)])) rfl rfl (hb hby d_jdk_56_method_3_code_8)
  refine own_go st2z ?_
  refine own_go (fun t k => XS.ifYes X2z.here hx rfl (pc0 := 11) (pc' := 31) rfl (hb hby d_jdk_56_method_3_code_11) rfl ((if0 _ _).trans (teq (by decide : (0 : Int32) = (0 : Int32))).1) (by decide) (by decide) k) ?_
  show own_G p e below (T2z.setTop (mkF m 31 #[.val (.ref a), .unset] [])) _
  refine own_go (fun t k => XS.aloadN X2z.here hx rfl (hb hby d_jdk_56_method_3_code_31) rfl rfl k) ?_
  obtain ⟨cq3z, kq3z, qa3z, qb3z, qc3z⟩ := isOf hZ e2z q2
  obtain ⟨_, _, ⟨T3z, L3z, k3z, n3z⟩, -, X3z, ⟨Lc3z, hQ3z, l3z, y3z, z3z⟩, st3z⟩ := X2z.interfaceBack hx (xi := own_m27) (y := own_m17) hown (own_mw hZ hw 86 rfl) (own_mw hZ hw 87 rfl) (own_mw hZ hw 88 rfl) (own_mw hZ hw 89 rfl) (own_mw hZ hw 90 rfl) (own_mw hZ hw 91 rfl) (own_mw hZ hw 92 rfl) (own_mw hZ hw 93 rfl) (by decide) (backOf (W := 0) (own_ise1 l Z a0 hw [] a h0 O0 q6) hZ (own_hw hw 94 rfl) (own_hw hw 6 rfl) (by decide) (by decide)) qa3z qb3z qc3z (g := (mkF m 32 #[.val (.ref a), .unset] [(.ref a)])) rfl (by rw [hml]; rfl) (Steps.refl _) (argsL := []) (rest := []) (lenOf pd_193422000 rfl) rfl (by show 2 * 0 + _ ≤ _; exact Nat.le_of_eq rfl) (hb hby d_jdk_56_method_3_code_32) (fun _ _ => ⟨rfl, e2z, (by decide : 0 + 0 ≤ _), (by decide : 0 + 0 ≤ _)⟩)
  dsimp only [Pt.U, Pt.locs, Pt.cells, Pt.slots] at X3z l3z y3z z3z st3z hQ3z
  subst l3z y3z z3z
  obtain ⟨rfl, NQ3z, K3zq⟩ := hQ3z
  refine own_tr st3z ?_
  have N3z := Fr.app N0 NQ3z
  show own_G p e below (T3z.setTop (mkF m 37 #[.val (.ref a), .unset] [(.int (0 : Int32))])) _
  refine own_go (fun t k => XS.ifYes X3z.here hx rfl (pc0 := 37) (pc' := 44) rfl (hb hby d_jdk_56_method_3_code_37) rfl ((if0 _ _).trans (teq (by decide : (0 : Int32) = (0 : Int32))).1) (by decide) (by decide) k) ?_
  show own_G p e below (T3z.setTop (mkF m 44 #[.val (.ref a), .unset] [])) _
  refine own_go (fun t k => XS.aloadN X3z.here hx rfl (hb hby d_jdk_56_method_3_code_44) rfl rfl k) ?_
  obtain ⟨cq4z, kq4z, qa4z, qb4z, qc4z⟩ := isOf hZ K3zq q2
  obtain ⟨_, _, ⟨T4z, L4z, k4z, n4z⟩, -, X4z, ⟨Lc4z, hQ4z, l4z, y4z, z4z⟩, st4z⟩ := X3z.interfaceBack hx (xi := own_m28) (y := own_m24) hown (own_mw hZ hw 163 rfl) (own_mw hZ hw 164 rfl) (own_mw hZ hw 165 rfl) (own_mw hZ hw 166 rfl) (own_mw hZ hw 167 rfl) (own_mw hZ hw 168 rfl) (own_mw hZ hw 169 rfl) (own_mw hZ hw 93 rfl) (by decide) (backOf (W := 0) (own_taF1 l Z a0 hw [] a arr kk mi x0 h0 O0 MI q3 q4 q5 q6 q7) hZ (own_hw hw 170 rfl) (own_hw hw 6 rfl) (by decide) (by decide)) qa4z qb4z qc4z (g := (mkF m 45 #[.val (.ref a), .unset] [(.ref a)])) rfl (by rw [hml]; rfl) (Steps.refl _) (argsL := []) (rest := []) (lenOf pd_3591787953 rfl) rfl (by show 2 * 0 + _ ≤ _; exact Nat.le_of_eq rfl) (hb hby d_jdk_56_method_3_code_45) (fun _ _ => ⟨rfl, K3zq, (by decide : 0 + 1 ≤ _), (by decide : 0 + 1 ≤ _)⟩)
  dsimp only [Pt.U, Pt.locs, Pt.cells, Pt.slots] at X4z l4z y4z z4z st4z hQ4z
  subst l4z y4z z4z
  obtain ⟨r_4z, kr_4z, rfl, NQ4z, K4zq, r4z_0, r4z_1, r4z_2⟩ := hQ4z
  refine own_tr st4z ?_
  have N4z := Fr.app N3z NQ4z
  have O5z := own_ext_keep O0 K4zq all0
  have K5z := K0.trans K4zq all0
  have lz_r_4z : h0.size ≤ r_4z := Nat.le_trans K0.1 r4z_1
  have ne_a_r_4z : a ≠ r_4z := Nat.ne_of_lt (Nat.lt_of_lt_of_le q2.lt r4z_1)
  have ne_arr_r_4z : arr ≠ r_4z := Nat.ne_of_lt (Nat.lt_of_lt_of_le q3.lt r4z_1)
  have ne_x0_r_4z : x0 ≠ r_4z := Nat.ne_of_lt (Nat.lt_of_lt_of_le q7.lt r4z_1)
  show own_G p e below (T4z.setTop (mkF m 50 #[.val (.ref a), .unset] [(.ref r_4z)])) _
  obtain ⟨_, _, ⟨T6z, L6z, k6z, n6z⟩, -, X6z, ⟨Lc6z, hQ6z, l6z, y6z, z6z⟩, st6z⟩ := Jvm.LawKit.callS X4z hx (y := own_m25) hown (own_mw hZ hw 193 rfl) (own_mw hZ hw 194 rfl) (own_mw hZ hw 74 rfl) (own_mw hZ hw 195 rfl) (by decide) (backOf (W := 0) (own_ofF1 l Z a0 hw [] r_4z kr_4z eM x0 T4z.heap O5z S_EM r4z_2 (q7.keep K4zq)) hZ (own_hw hw 195 rfl) (own_hw hw 74 rfl) (by decide) (by decide)) (g := (mkF m 50 #[.val (.ref a), .unset] [(.ref r_4z)])) rfl (by rw [hml]; rfl) (argsL := [(.ref r_4z)]) (rest := []) (lenOf pd_3349133522 rfl) rfl (by show 2 * 0 + _ ≤ _; exact Nat.le_of_eq rfl) (hb hby d_jdk_56_method_3_code_50) (fun _ _ => ⟨rfl, rfl, (by decide : 1 + 1 ≤ _), (by decide : 1 + 2 ≤ _)⟩)
  dsimp only [Pt.U, Pt.locs, Pt.cells, Pt.slots] at X6z l6z y6z z6z st6z hQ6z
  subst l6z y6z z6z
  obtain ⟨r_6z, rfl, NQ6z, K6zq, r6z_0, r6z_1, r6z_2, r6z_3⟩ := hQ6z
  refine own_go st6z ?_
  have N6z := Fr.app N4z NQ6z
  have O7z := own_ext_keep O5z K6zq all0
  have K7z := K5z.trans K6zq all0
  have lz_r_6z : h0.size ≤ r_6z := Nat.le_trans K5z.1 r6z_2
  have ne_a_r_6z : a ≠ r_6z := Nat.ne_of_lt (Nat.lt_of_lt_of_le (q2.keep K4zq).lt r6z_2)
  have ne_arr_r_6z : arr ≠ r_6z := Nat.ne_of_lt (Nat.lt_of_lt_of_le (q3.keep K4zq (by simp)).lt r6z_2)
  have ne_x0_r_6z : x0 ≠ r_6z := Nat.ne_of_lt (Nat.lt_of_lt_of_le (q7.keep K4zq).lt r6z_2)
  have ne_r_4z_r_6z : r_4z ≠ r_6z := Nat.ne_of_lt (Nat.lt_of_lt_of_le r4z_2.lt r6z_2)
  show own_G p e below (T6z.setTop (mkF m 53 #[.val (.ref a), .unset] [(.ref r_6z)])) _
  exact own_ret X6z hx Bd.returns rfl (Or.inr (Or.inr (Or.inr (Or.inr ⟨rfl, rfl, rfl⟩)))) (hb hby d_jdk_56_method_3_code_53) hlk (Nat.le_of_ble_eq_true rfl) (Nat.le_of_ble_eq_true rfl) (by show Q_own_lcpF1 Z a arr kk mi eM x0 h0 _ T6z.heap _; exact ⟨r_6z, rfl, N6z, K7z, r6z_0, r6z_1, lz_r_6z, r6z_3⟩)
theorem ef_own_cpoF1 (m : MethodId) (x0 : Addr) : entryFrame m #[(.ref x0)] 1 = mkF m 0 #[.val (.ref x0)] [] := by first | (simp [entryFrame, mkF, argsToLocals, Value.category]; done) | rfl
theorem pf_own_cpoF1 : plainFor own_m29 = true := plainFor_of_name (by simp [plainName, overriddenIn])
def Q_own_cpoF1 (Z : State) (a : Addr) (arr : Addr) (kk : ClassId) (mi : Addr) (eM : Addr) (x0 : Addr) (h0 : Heap) (v : Option Value) (h : Heap) (L : List Loc) : Prop := ∃ r : Addr, v = some (.ref r) ∧ Fr Z.heap.size L ∧ Keep h0 h [] ∧ (Exa Z h r own_s6) ∧ (Z.heap.size ≤ r) ∧ (h0.size ≤ r) ∧ (Fld Z h r own_s6 "e0" own_s13 (.ref x0))
set_option maxRecDepth 65536 in
set_option maxHeartbeats 40000000 in
theorem own_cpoF1 (l : Launch) (Z : State) (a0 : Array Value) (hw : ∀ d ∈ tables_1, d.before a0 Z = true) (ws : List Jvm.Cond) (a : Addr) (arr : Addr) (kk : ClassId) (mi : Addr) (eM : Addr) (x0 : Addr) (h0 : Heap) (O0 : Ext Z.heap h0) (MI : Mir Z own_s3 mi) (S_EM : Sta Z Z.heap own_s12 "EMPTY" own_s13 (.ref eM)) (q2 : Exa Z h0 a own_s1) (q3 : own_A Z h0 arr kk (.object own_s2) [(.ref x0), .null, .null, .null, .null, .null, .null, .null, .null, .null]) (q4 : Exa Z h0 arr own_s3) (q5 : Fld Z h0 a own_s1 "elementData" own_s3 (.ref arr)) (q6 : Fld Z h0 a own_s1 "size" "I" (.int (1 : Int32))) (q7 : Exa Z h0 x0 own_s0) :
    MetFree l own_m29 (head1 (Jvm.Cond.code own_m29 jdk_40_method_48_code 1 (some (.object own_s15)) :: ws) ({ frames := 8, cells := 2, slots := 3, locals := 120 } : Room)) (fun aa U => aa = #[(.ref a)] ∧ Z.Warmed39 U.vm ∧ U.heap = h0) (fun _ _ _ _ _ => True) (fun _ U o U' => ∃ v L, o = .returned v ∧ Q_own_cpoF1 Z a arr kk mi eM x0 h0 v U'.heap L ∧ FrameEnd U o U' L ({ frames := 8, cells := 2, slots := 3, locals := 120 } : Room).cells ({ frames := 8, cells := 2, slots := 3, locals := 120 } : Room).slots) := by
  refine MetFree.of_bodySF pf_own_cpoF1 hisR ?_
  intro p e s m args below meth c s₁ Bd hml0 hP hK
  obtain ⟨rfl, hZ, hh⟩ := hP
  have hx := Bd.exec
  have hby := Bd.bytes
  have hlk := BodyLoose.notSynchronized Bd
  have hml : c.maxLocals = 1 := hml0
  have hown : s.vm.findClass own_s15 = some m.cls := findClass_of_methodNamed Bd.named
  have hnm := (name_of_methodNamed Bd.named Bd.method).1
  have X0 : Stand p l e ({ frames := 8, cells := 2, slots := 3, locals := 120 } : Room) s m #[(.ref a)] below meth c s₁ [] 0 0 := Stand.of_body Bd
  have e0 : s₁.heap = h0 := by rw [← hh, Bd.state]; rfl
  have N0 := Fr.nil Z.heap.size
  have K0 : Keep h0 h0 [] := Keep.refl _ _
  refine own_start (Q := Q_own_cpoF1 Z a arr kk mi eM x0 h0) (ef_own_cpoF1 m (a)) ?_
  show own_G p e below (s₁.setTop (mkF m 0 #[.val (.ref a)] [])) _
  refine own_go (fun t k => XS.aloadN X0.here hx rfl (hb hby d_jdk_40_method_48_code_0) rfl rfl k) ?_
  obtain ⟨_, _, ⟨T1z, L1z, k1z, n1z⟩, -, X1z, ⟨Lc1z, hQ1z, l1z, y1z, z1z⟩, st1z⟩ := Jvm.LawKit.callS X0 hx (y := own_m26) hown (own_mw hZ hw 76 rfl) (own_mw hZ hw 77 rfl) (own_mw hZ hw 78 rfl) (own_mw hZ hw 79 rfl) (by decide) (backOf (W := 0) (own_lcpF1 l Z a0 hw [] a arr kk mi eM x0 h0 O0 MI S_EM q2 q3 q4 q5 q6 q7) hZ (own_hw hw 79 rfl) (own_hw hw 78 rfl) (by decide) (by decide)) (g := (mkF m 1 #[.val (.ref a)] [(.ref a)])) rfl (by rw [hml]; rfl) (argsL := [(.ref a)]) (rest := []) (lenOf pd_548093608 rfl) rfl (by show 2 * 0 + _ ≤ _; exact Nat.le_of_eq rfl) (hb hby d_jdk_40_method_48_code_1) (fun _ _ => ⟨rfl, e0, (by decide : 0 + 2 ≤ _), (by decide : 0 + 3 ≤ _)⟩)
  dsimp only [Pt.U, Pt.locs, Pt.cells, Pt.slots] at X1z l1z y1z z1z st1z hQ1z
  subst l1z y1z z1z
  obtain ⟨r_1z, rfl, NQ1z, K1zq, r1z_0, r1z_1, r1z_2, r1z_3⟩ := hQ1z
  refine own_go st1z ?_
  have N1z := Fr.app N0 NQ1z
  have O2z := own_ext_keep O0 K1zq all0
  have K2z := K0.trans K1zq all0
  have lz_r_1z : h0.size ≤ r_1z := Nat.le_trans K0.1 r1z_2
  have ne_a_r_1z : a ≠ r_1z := Nat.ne_of_lt (Nat.lt_of_lt_of_le q2.lt r1z_2)
  have ne_arr_r_1z : arr ≠ r_1z := Nat.ne_of_lt (Nat.lt_of_lt_of_le q3.lt r1z_2)
  have ne_x0_r_1z : x0 ≠ r_1z := Nat.ne_of_lt (Nat.lt_of_lt_of_le q7.lt r1z_2)
  show own_G p e below (T1z.setTop (mkF m 4 #[.val (.ref a)] [(.ref r_1z)])) _
  exact own_ret X1z hx Bd.returns rfl (Or.inr (Or.inr (Or.inr (Or.inr ⟨rfl, rfl, rfl⟩)))) (hb hby d_jdk_40_method_48_code_4) hlk (Nat.le_of_ble_eq_true rfl) (Nat.le_of_ble_eq_true rfl) (by show Q_own_cpoF1 Z a arr kk mi eM x0 h0 _ T1z.heap _; exact ⟨r_1z, rfl, N1z, K2z, r1z_0, r1z_1, lz_r_1z, r1z_3⟩)
theorem ef_own_min2 (m : MethodId) (x0 : Int32) (x1 : Int32) : entryFrame m #[(.int x0), (.int x1)] 2 = mkF m 0 #[.val (.int x0), .val (.int x1)] [] := by first | (simp [entryFrame, mkF, argsToLocals, Value.category]; done) | rfl
theorem pf_own_min2 : plainFor own_m21 = true := by decide +kernel
def Q_own_min2 (Z : State) (h0 : Heap) (v : Option Value) (h : Heap) (L : List Loc) : Prop := v = some (.int (2 : Int32)) ∧ Fr Z.heap.size L ∧ h = h0
set_option maxRecDepth 65536 in
set_option maxHeartbeats 40000000 in
theorem own_min2 (l : Launch) (Z : State) (a0 : Array Value) (hw : ∀ d ∈ tables_1, d.before a0 Z = true) (ws : List Jvm.Cond) (h0 : Heap) (O0 : Ext Z.heap h0) :
    MetFree l own_m21 (head1 (Jvm.Cond.code own_m21 jdk_29_method_69_code 2 (some .int) :: ws) ({ frames := 0, cells := 0, slots := 0, locals := 0 } : Room)) (fun aa U => aa = #[(.int (10 : Int32)), (.int (2 : Int32))] ∧ Z.Warmed39 U.vm ∧ U.heap = h0) (fun _ _ _ _ _ => True) (fun _ U o U' => ∃ v L, o = .returned v ∧ Q_own_min2 Z h0 v U'.heap L ∧ FrameEnd U o U' L ({ frames := 0, cells := 0, slots := 0, locals := 0 } : Room).cells ({ frames := 0, cells := 0, slots := 0, locals := 0 } : Room).slots) := by
  refine MetFree.of_bodySF pf_own_min2 hisR ?_
  intro p e s m args below meth c s₁ Bd hml0 hP hK
  obtain ⟨rfl, hZ, hh⟩ := hP
  have hx := Bd.exec
  have hby := Bd.bytes
  have hlk := BodyLoose.notSynchronized Bd
  have hml : c.maxLocals = 2 := hml0
  have hown : s.vm.findClass "java/lang/Math" = some m.cls := findClass_of_methodNamed Bd.named
  have hnm := (name_of_methodNamed Bd.named Bd.method).1
  have X0 : Stand p l e ({ frames := 0, cells := 0, slots := 0, locals := 0 } : Room) s m #[(.int (10 : Int32)), (.int (2 : Int32))] below meth c s₁ [] 0 0 := Stand.of_body Bd
  have e0 : s₁.heap = h0 := by rw [← hh, Bd.state]; rfl
  have N0 := Fr.nil Z.heap.size
  have K0 : Keep h0 h0 [] := Keep.refl _ _
  refine own_start (Q := Q_own_min2 Z h0) (ef_own_min2 m ((10 : Int32)) ((2 : Int32))) ?_
  show own_G p e below (s₁.setTop (mkF m 0 #[.val (.int (10 : Int32)), .val (.int (2 : Int32))] [])) _
  refine own_go (fun t k => XS.iloadN X0.here hx rfl (hb hby d_jdk_29_method_69_code_0) rfl k) ?_
  refine own_go (fun t k => XS.iloadN X0.here hx rfl (hb hby d_jdk_29_method_69_code_1) rfl k) ?_
  refine own_go (fun t k => XS.icmpYes X0.here hx rfl (pc0 := 2) (pc' := 9) rfl (hb hby d_jdk_29_method_69_code_2) rfl (tlt (by decide : (2 : Int32) < (10 : Int32))).2.2.1 (by decide) (by decide) k) ?_
  show own_G p e below (s₁.setTop (mkF m 9 #[.val (.int (10 : Int32)), .val (.int (2 : Int32))] [])) _
  refine own_go (fun t k => XS.iloadN X0.here hx rfl (hb hby d_jdk_29_method_69_code_9) rfl k) ?_
  exact own_ret X0 hx Bd.returns rfl (Or.inl ⟨rfl, Or.inl rfl, _, rfl⟩) (hb hby d_jdk_29_method_69_code_10) hlk (Nat.le_of_ble_eq_true rfl) (Nat.le_of_ble_eq_true rfl) (by show Q_own_min2 Z h0 _ s₁.heap _; rw [e0]; exact ⟨rfl, N0, rfl⟩)
theorem ef_own_co3F2 (m : MethodId) (x0 : Addr) (x1 : Int32) (x2 : Addr) : entryFrame m #[(.ref x0), (.int x1), (.ref x2)] 4 = mkF m 0 #[.val (.ref x0), .val (.int x1), .val (.ref x2), .unset] [] := by first | (simp [entryFrame, mkF, argsToLocals, Value.category]; done) | rfl
theorem pf_own_co3F2 : plainFor own_m22 = true := plainFor_of_name (by simp [plainName, overriddenIn])
def Q_own_co3F2 (Z : State) (arr : Addr) (kk : ClassId) (mi : Addr) (x0 : Addr) (x1 : Addr) (h0 : Heap) (v : Option Value) (h : Heap) (L : List Loc) : Prop := ∃ r : Addr, ∃ kr : ClassId, v = some (.ref r) ∧ Fr Z.heap.size L ∧ Keep h0 h [] ∧ (Z.heap.size ≤ r) ∧ (h0.size ≤ r) ∧ (own_A Z h r kr (.object own_s2) [(.ref x0), (.ref x1)])
set_option maxRecDepth 65536 in
set_option maxHeartbeats 40000000 in
theorem own_co3F2 (l : Launch) (Z : State) (a0 : Array Value) (hw : ∀ d ∈ tables_1, d.before a0 Z = true) (ws : List Jvm.Cond) (arr : Addr) (kk : ClassId) (mi : Addr) (x0 : Addr) (x1 : Addr) (h0 : Heap) (O0 : Ext Z.heap h0) (MI : Mir Z own_s3 mi) (q1 : own_A Z h0 arr kk (.object own_s2) [(.ref x0), (.ref x1), .null, .null, .null, .null, .null, .null, .null, .null]) (q2 : Exa Z h0 x0 own_s0) (q3 : Exa Z h0 x1 own_s0) :
    MetFree l own_m22 (head1 (Jvm.Cond.code own_m22 jdk_65_method_120_code 4 (some (.array (.object own_s2))) :: ws) ({ frames := 1, cells := 1, slots := 2, locals := 24 } : Room)) (fun aa U => aa = #[(.ref arr), (.int (2 : Int32)), (.ref mi)] ∧ Z.Warmed39 U.vm ∧ U.heap = h0) (fun _ _ _ _ _ => True) (fun _ U o U' => ∃ v L, o = .returned v ∧ Q_own_co3F2 Z arr kk mi x0 x1 h0 v U'.heap L ∧ FrameEnd U o U' L ({ frames := 1, cells := 1, slots := 2, locals := 24 } : Room).cells ({ frames := 1, cells := 1, slots := 2, locals := 24 } : Room).slots) := by
  refine MetFree.of_bodySF pf_own_co3F2 hisR ?_
  intro p e s m args below meth c s₁ Bd hml0 hP hK
  obtain ⟨rfl, hZ, hh⟩ := hP
  have hx := Bd.exec
  have hby := Bd.bytes
  have hlk := BodyLoose.notSynchronized Bd
  have hml : c.maxLocals = 4 := hml0
  have hown : s.vm.findClass "java/util/Arrays" = some m.cls := findClass_of_methodNamed Bd.named
  have hnm := (name_of_methodNamed Bd.named Bd.method).1
  have X0 : Stand p l e ({ frames := 1, cells := 1, slots := 2, locals := 24 } : Room) s m #[(.ref arr), (.int (2 : Int32)), (.ref mi)] below meth c s₁ [] 0 0 := Stand.of_body Bd
  have e0 : s₁.heap = h0 := by rw [← hh, Bd.state]; rfl
  have N0 := Fr.nil Z.heap.size
  have K0 : Keep h0 h0 [] := Keep.refl _ _
  refine own_start (Q := Q_own_co3F2 Z arr kk mi x0 x1 h0) (ef_own_co3F2 m (arr) ((2 : Int32)) (mi)) ?_
  show own_G p e below (s₁.setTop (mkF m 0 #[.val (.ref arr), .val (.int (2 : Int32)), .val (.ref mi), .unset] [])) _
  refine own_go (fun t k => XS.aloadN X0.here hx rfl (hb hby d_jdk_65_method_120_code_0) rfl rfl k) ?_
  obtain ⟨T1z, X1z, e1z, st1z⟩ := own_ldcK X0 hx hZ hown (own_hw hw 184 rfl) MI e0 (g := (mkF m 1 #[.val (.ref arr), .val (.int (2 : Int32)), .val (.ref mi), .unset] [(.ref mi)])) rfl (hb hby d_jdk_65_method_120_code_1)
  refine own_go st1z ?_
  refine own_go (fun t k => Jvm.RoadKit.acmp (g := (mkF m 3 #[.val (.ref arr), .val (.int (2 : Int32)), .val (.ref mi), .unset] [(.ref mi), (.ref mi)])) X1z hx rfl rfl rfl (pc0 := 3) (pc' := 6) (same := true) rfl (hb hby d_jdk_65_method_120_code_3) rfl (decide_eq_true (congrArg Value.ref rfl)) (by decide) (by decide) k) ?_
  show own_G p e below (T1z.setTop (mkF m 6 #[.val (.ref arr), .val (.int (2 : Int32)), .val (.ref mi), .unset] [])) _
  refine own_go (fun t k => XS.iloadN X1z.here hx rfl (hb hby d_jdk_65_method_120_code_6) rfl k) ?_
  obtain ⟨T2z, h2z, kc2z, X2z, e2z, E2z, V2z, EX2z, O2z_, st2z⟩ := own_newRE X1z hx hZ hown (own_hw hw 185 rfl) (own_hw hw 153 rfl) e1z (g := (mkF m 7 #[.val (.ref arr), .val (.int (2 : Int32)), .val (.ref mi), .unset] [(.int (2 : Int32))])) rfl (hb hby d_jdk_65_method_120_code_7) rfl (i := 2) (by decide) (cap := 2) (by decide) (by decide) (by decide) (by decide) (ad := own_s3) (by decide)
  obtain ⟨b2z, g2z⟩ : ∃ z, z = h0.size := ⟨_, rfl⟩
  rw [← g2z] at V2z st2z EX2z
  have fr_b2z : Z.heap.size ≤ b2z := g2z ▸ O0.1
  have lz_b2z : h0.size ≤ b2z := g2z ▸ K0.1
  have ne_arr_b2z : arr ≠ b2z := Nat.ne_of_lt (g2z ▸ q1.lt)
  have ne_x0_b2z : x0 ≠ b2z := Nat.ne_of_lt (g2z ▸ q2.lt)
  have ne_x1_b2z : x1 ≠ b2z := Nat.ne_of_lt (g2z ▸ q3.lt)
  have O3z := own_ext_trans O0 E2z
  have K3z := K0.ext E2z
  have V2z : own_A Z h2z b2z kc2z (.object own_s2) [.null, .null] := V2z
  refine own_go st2z ?_
  refine own_go (fun t k => XS.goto X2z.here hx rfl (pc0 := 10) (pc' := 24) rfl (hb hby d_jdk_65_method_120_code_10) (by decide) (by decide) k) ?_
  show own_G p e below (T2z.setTop (mkF m 24 #[.val (.ref arr), .val (.int (2 : Int32)), .val (.ref mi), .unset] [(.ref b2z)])) _
  refine own_go (fun t k => XS.astoreN X2z.here hx rfl (hb hby d_jdk_65_method_120_code_24) rfl rfl (l' := #[.val (.ref arr), .val (.int (2 : Int32)), .val (.ref mi), .val (.ref b2z)]) rfl k) ?_
  refine own_go (fun t k => XS.aloadN X2z.here hx rfl (hb hby d_jdk_65_method_120_code_25) rfl rfl k) ?_
  refine own_go (fun t k => XS.iconst X2z.here hx rfl (hb hby d_jdk_65_method_120_code_26) k) ?_
  refine own_go (fun t k => XS.aloadN X2z.here hx rfl (hb hby d_jdk_65_method_120_code_27) rfl rfl k) ?_
  refine own_go (fun t k => XS.iconst X2z.here hx rfl (hb hby d_jdk_65_method_120_code_28) k) ?_
  refine own_go (fun t k => XS.aloadN X2z.here hx rfl (hb hby d_jdk_65_method_120_code_29) rfl rfl k) ?_
  refine own_go (own_len X2z hx hZ e2z (q1.ext E2z) (z := (10 : Int32)) (by show (10 : Int32).toInt = ((10 : Nat) : Int); decide) (g := (mkF m 30 #[.val (.ref arr), .val (.int (2 : Int32)), .val (.ref mi), .val (.ref b2z)] [(.ref arr), (.int (0 : Int32)), (.ref b2z), (.int (0 : Int32)), (.ref arr)])) rfl rfl (hb hby d_jdk_65_method_120_code_30)) ?_
  refine own_go (fun t k => XS.iloadN X2z.here hx rfl (hb hby d_jdk_65_method_120_code_31) rfl k) ?_
  obtain ⟨_, _, ⟨T4z, L4z, k4z, n4z⟩, -, X4z, ⟨Lc4z, hQ4z, l4z, y4z, z4z⟩, st4z⟩ := Jvm.LawKit.callS X2z hx (y := own_m21) hown (own_mw hZ hw 186 rfl) (own_mw hZ hw 187 rfl) (own_mw hZ hw 150 rfl) (own_mw hZ hw 188 rfl) (by decide) (backOf (W := 4) (own_min2 l Z a0 hw [] h2z O3z) hZ (own_hw hw 188 rfl) (own_hw hw 150 rfl) (by decide) (by decide)) (g := (mkF m 32 #[.val (.ref arr), .val (.int (2 : Int32)), .val (.ref mi), .val (.ref b2z)] [(.int (2 : Int32)), (.int (10 : Int32)), (.int (0 : Int32)), (.ref b2z), (.int (0 : Int32)), (.ref arr)])) rfl (by rw [hml]; rfl) (argsL := [(.int (10 : Int32)), (.int (2 : Int32))]) (rest := [(.int (0 : Int32)), (.ref b2z), (.int (0 : Int32)), (.ref arr)]) (lenOf pd_184293393 rfl) rfl (by show 2 * 0 + _ ≤ _; exact Nat.le_of_eq rfl) (hb hby d_jdk_65_method_120_code_32) (fun _ _ => ⟨rfl, e2z, (by decide : 1 + 0 ≤ _), (by decide : 2 + 0 ≤ _)⟩)
  dsimp only [Pt.U, Pt.locs, Pt.cells, Pt.slots] at X4z l4z y4z z4z st4z hQ4z
  subst l4z y4z z4z
  obtain ⟨rfl, NQ4z, K4zq⟩ := hQ4z
  refine own_go st4z ?_
  have N4z := Fr.app N0 NQ4z
  show own_G p e below (T4z.setTop (mkF m 35 #[.val (.ref arr), .val (.int (2 : Int32)), .val (.ref mi), .val (.ref b2z)] [(.int (2 : Int32)), (.int (0 : Int32)), (.ref b2z), (.int (0 : Int32)), (.ref arr)])) _
  obtain ⟨T5z, h5z, L5z, X5z, e5z, N5z, K5zq, V5z, st5z⟩ := own_cp X4z hx hZ hown (own_hw hw 189 rfl) (own_hw hw 192 rfl) (own_hw hw 190 rfl) (own_hw hw 191 rfl) K4zq (us := [(.ref x0), (.ref x1)]) (vr := [(.ref x0), (.ref x1)]) (i := 0) (j := 0) (n := 2) (q1.ext E2z) V2z (by show 10 < _; decide) (by show 2 < _; decide) (Or.inr ⟨rfl, rfl, own_stoL O2z_ V2z [(.ref x0), (.ref x1)] (own_memc (Or.inr ⟨_, rfl, (Ins.of_exa (q2.ext E2z) (own_hw hw 154 rfl))⟩) (own_memc (Or.inr ⟨_, rfl, (Ins.of_exa (q3.ext E2z) (own_hw hw 154 rfl))⟩) (fun v hv => nomatch hv)))⟩) (by decide) (by decide) (by decide) (by show 2 ≤ 10; decide) (by show 2 ≤ 2; decide) rfl rfl N4z fr_b2z (g := (mkF m 35 #[.val (.ref arr), .val (.int (2 : Int32)), .val (.ref mi), .val (.ref b2z)] [(.int (2 : Int32)), (.int (0 : Int32)), (.ref b2z), (.int (0 : Int32)), (.ref arr)])) rfl (by rw [hml]; rfl) rfl (hb hby d_jdk_65_method_120_code_35) (by decide) (W := 0) (by show 2 * 0 + _ ≤ _; exact Nat.le_of_eq rfl) (by decide)
  refine own_go st5z ?_
  have O6z := own_ext_keep O3z K5zq (allS fr_b2z all0)
  have K6z := K3z.trans K5zq (allS (Or.inr lz_b2z) all0)
  show own_G p e below (T5z.setTop (mkF m 38 #[.val (.ref arr), .val (.int (2 : Int32)), .val (.ref mi), .val (.ref b2z)] [])) _
  refine own_go (fun t k => XS.aloadN X5z.here hx rfl (hb hby d_jdk_65_method_120_code_38) rfl rfl k) ?_
  exact own_ret X5z hx Bd.returns rfl (Or.inr (Or.inr (Or.inr (Or.inr ⟨rfl, rfl, rfl⟩)))) (hb hby d_jdk_65_method_120_code_39) hlk (Nat.le_of_ble_eq_true rfl) (Nat.le_of_ble_eq_true rfl) (by show Q_own_co3F2 Z arr kk mi x0 x1 h0 _ T5z.heap _; rw [e5z]; exact ⟨b2z, kc2z, rfl, N5z, K6z, fr_b2z, lz_b2z, V5z⟩)
theorem ef_own_co2F2 (m : MethodId) (x0 : Addr) (x1 : Int32) : entryFrame m #[(.ref x0), (.int x1)] 2 = mkF m 0 #[.val (.ref x0), .val (.int x1)] [] := by first | (simp [entryFrame, mkF, argsToLocals, Value.category]; done) | rfl
theorem pf_own_co2F2 : plainFor own_m23 = true := plainFor_of_name (by simp [plainName, overriddenIn])
def Q_own_co2F2 (Z : State) (arr : Addr) (kk : ClassId) (mi : Addr) (x0 : Addr) (x1 : Addr) (h0 : Heap) (v : Option Value) (h : Heap) (L : List Loc) : Prop := ∃ r : Addr, ∃ kr : ClassId, v = some (.ref r) ∧ Fr Z.heap.size L ∧ Keep h0 h [] ∧ (Z.heap.size ≤ r) ∧ (h0.size ≤ r) ∧ (own_A Z h r kr (.object own_s2) [(.ref x0), (.ref x1)])
set_option maxRecDepth 65536 in
set_option maxHeartbeats 40000000 in
theorem own_co2F2 (l : Launch) (Z : State) (a0 : Array Value) (hw : ∀ d ∈ tables_1, d.before a0 Z = true) (ws : List Jvm.Cond) (arr : Addr) (kk : ClassId) (mi : Addr) (x0 : Addr) (x1 : Addr) (h0 : Heap) (O0 : Ext Z.heap h0) (MI : Mir Z own_s3 mi) (q1 : own_A Z h0 arr kk (.object own_s2) [(.ref x0), (.ref x1), .null, .null, .null, .null, .null, .null, .null, .null]) (q2 : Exa Z h0 arr own_s3) (q3 : Exa Z h0 x0 own_s0) (q4 : Exa Z h0 x1 own_s0) :
    MetFree l own_m23 (head1 (Jvm.Cond.code own_m23 jdk_65_method_119_code 2 (some (.array (.object own_s2))) :: ws) ({ frames := 2, cells := 1, slots := 2, locals := 44 } : Room)) (fun aa U => aa = #[(.ref arr), (.int (2 : Int32))] ∧ Z.Warmed39 U.vm ∧ U.heap = h0) (fun _ _ _ _ _ => True) (fun _ U o U' => ∃ v L, o = .returned v ∧ Q_own_co2F2 Z arr kk mi x0 x1 h0 v U'.heap L ∧ FrameEnd U o U' L ({ frames := 2, cells := 1, slots := 2, locals := 44 } : Room).cells ({ frames := 2, cells := 1, slots := 2, locals := 44 } : Room).slots) := by
  refine MetFree.of_bodySF pf_own_co2F2 hisR ?_
  intro p e s m args below meth c s₁ Bd hml0 hP hK
  obtain ⟨rfl, hZ, hh⟩ := hP
  have hx := Bd.exec
  have hby := Bd.bytes
  have hlk := BodyLoose.notSynchronized Bd
  have hml : c.maxLocals = 2 := hml0
  have hown : s.vm.findClass "java/util/Arrays" = some m.cls := findClass_of_methodNamed Bd.named
  have hnm := (name_of_methodNamed Bd.named Bd.method).1
  have X0 : Stand p l e ({ frames := 2, cells := 1, slots := 2, locals := 44 } : Room) s m #[(.ref arr), (.int (2 : Int32))] below meth c s₁ [] 0 0 := Stand.of_body Bd
  have e0 : s₁.heap = h0 := by rw [← hh, Bd.state]; rfl
  have N0 := Fr.nil Z.heap.size
  have K0 : Keep h0 h0 [] := Keep.refl _ _
  refine own_start (Q := Q_own_co2F2 Z arr kk mi x0 x1 h0) (ef_own_co2F2 m (arr) ((2 : Int32))) ?_
  show own_G p e below (s₁.setTop (mkF m 0 #[.val (.ref arr), .val (.int (2 : Int32))] [])) _
  refine own_go (fun t k => XS.aloadN X0.here hx rfl (hb hby d_jdk_65_method_119_code_0) rfl rfl k) ?_
  refine own_go (fun t k => XS.iloadN X0.here hx rfl (hb hby d_jdk_65_method_119_code_1) rfl k) ?_
  refine own_go (fun t k => XS.aloadN X0.here hx rfl (hb hby d_jdk_65_method_119_code_2) rfl rfl k) ?_
  obtain ⟨T1z, X1z, e1z, st1z⟩ := gcls X0 hx hZ hown (own_hw hw 175 rfl) (own_hw hw 176 rfl) (own_hw hw 84 rfl) (own_hw hw 178 rfl) (own_hw hw 177 rfl) (own_hw hw 179 rfl) e0 q2 MI (g := (mkF m 3 #[.val (.ref arr), .val (.int (2 : Int32))] [(.ref arr), (.int (2 : Int32)), (.ref arr)])) rfl (by rw [hml]; rfl) rfl (hb hby d_jdk_65_method_119_code_3) (by decide) (W := 2) (by show 2 * 0 + _ ≤ _; exact Nat.le_of_eq rfl) (by decide)
  refine own_go st1z ?_
  show own_G p e below (T1z.setTop (mkF m 6 #[.val (.ref arr), .val (.int (2 : Int32))] [(.ref mi), (.int (2 : Int32)), (.ref arr)])) _
  obtain ⟨_, _, ⟨T2z, L2z, k2z, n2z⟩, -, X2z, ⟨Lc2z, hQ2z, l2z, y2z, z2z⟩, st2z⟩ := Jvm.LawKit.callS X1z hx (y := own_m22) hown (own_mw hZ hw 181 rfl) (own_mw hZ hw 182 rfl) (own_mw hZ hw 173 rfl) (own_mw hZ hw 183 rfl) (by decide) (backOf (W := 0) (own_co3F2 l Z a0 hw [] arr kk mi x0 x1 h0 O0 MI q1 q3 q4) hZ (own_hw hw 183 rfl) (own_hw hw 173 rfl) (by decide) (by decide)) (g := (mkF m 6 #[.val (.ref arr), .val (.int (2 : Int32))] [(.ref mi), (.int (2 : Int32)), (.ref arr)])) rfl (by rw [hml]; rfl) (argsL := [(.ref arr), (.int (2 : Int32)), (.ref mi)]) (rest := []) (lenOf pd_684281524 rfl) rfl (by show 2 * 0 + _ ≤ _; exact Nat.le_of_eq rfl) (hb hby d_jdk_65_method_119_code_6) (fun _ _ => ⟨rfl, e1z, (by decide : 0 + 1 ≤ _), (by decide : 0 + 2 ≤ _)⟩)
  dsimp only [Pt.U, Pt.locs, Pt.cells, Pt.slots] at X2z l2z y2z z2z st2z hQ2z
  subst l2z y2z z2z
  obtain ⟨r_2z, kr_2z, rfl, NQ2z, K2zq, r2z_0, r2z_1, r2z_2⟩ := hQ2z
  refine own_go st2z ?_
  have N2z := Fr.app N0 NQ2z
  have O3z := own_ext_keep O0 K2zq all0
  have K3z := K0.trans K2zq all0
  have lz_r_2z : h0.size ≤ r_2z := Nat.le_trans K0.1 r2z_1
  have ne_arr_r_2z : arr ≠ r_2z := Nat.ne_of_lt (Nat.lt_of_lt_of_le q1.lt r2z_1)
  have ne_x0_r_2z : x0 ≠ r_2z := Nat.ne_of_lt (Nat.lt_of_lt_of_le q3.lt r2z_1)
  have ne_x1_r_2z : x1 ≠ r_2z := Nat.ne_of_lt (Nat.lt_of_lt_of_le q4.lt r2z_1)
  show own_G p e below (T2z.setTop (mkF m 9 #[.val (.ref arr), .val (.int (2 : Int32))] [(.ref r_2z)])) _
  exact own_ret X2z hx Bd.returns rfl (Or.inr (Or.inr (Or.inr (Or.inr ⟨rfl, rfl, rfl⟩)))) (hb hby d_jdk_65_method_119_code_9) hlk (Nat.le_of_ble_eq_true rfl) (Nat.le_of_ble_eq_true rfl) (by show Q_own_co2F2 Z arr kk mi x0 x1 h0 _ T2z.heap _; exact ⟨r_2z, kr_2z, rfl, N2z, K3z, r2z_0, lz_r_2z, r2z_2⟩)
theorem ef_own_taF2 (m : MethodId) (x0 : Addr) : entryFrame m #[(.ref x0)] 1 = mkF m 0 #[.val (.ref x0)] [] := by first | (simp [entryFrame, mkF, argsToLocals, Value.category]; done) | rfl
theorem pf_own_taF2 : plainFor own_m24 = true := plainFor_of_name (by simp [plainName, overriddenIn])
def Q_own_taF2 (Z : State) (a : Addr) (arr : Addr) (kk : ClassId) (mi : Addr) (x0 : Addr) (x1 : Addr) (h0 : Heap) (v : Option Value) (h : Heap) (L : List Loc) : Prop := ∃ r : Addr, ∃ kr : ClassId, v = some (.ref r) ∧ Fr Z.heap.size L ∧ Keep h0 h [] ∧ (Z.heap.size ≤ r) ∧ (h0.size ≤ r) ∧ (own_A Z h r kr (.object own_s2) [(.ref x0), (.ref x1)])
set_option maxRecDepth 65536 in
set_option maxHeartbeats 40000000 in
theorem own_taF2 (l : Launch) (Z : State) (a0 : Array Value) (hw : ∀ d ∈ tables_1, d.before a0 Z = true) (ws : List Jvm.Cond) (a : Addr) (arr : Addr) (kk : ClassId) (mi : Addr) (x0 : Addr) (x1 : Addr) (h0 : Heap) (O0 : Ext Z.heap h0) (MI : Mir Z own_s3 mi) (q1 : own_A Z h0 arr kk (.object own_s2) [(.ref x0), (.ref x1), .null, .null, .null, .null, .null, .null, .null, .null]) (q2 : Exa Z h0 arr own_s3) (q3 : Fld Z h0 a own_s1 "elementData" own_s3 (.ref arr)) (q4 : Fld Z h0 a own_s1 "size" "I" (.int (2 : Int32))) (q5 : Exa Z h0 x0 own_s0) (q6 : Exa Z h0 x1 own_s0) :
    MetFree l own_m24 (head1 (Jvm.Cond.code own_m24 jdk_38_method_16_code 1 (some (.array (.object own_s2))) :: ws) ({ frames := 3, cells := 1, slots := 2, locals := 60 } : Room)) (fun aa U => aa = #[(.ref a)] ∧ Z.Warmed39 U.vm ∧ U.heap = h0) (fun _ _ _ _ _ => True) (fun _ U o U' => ∃ v L, o = .returned v ∧ Q_own_taF2 Z a arr kk mi x0 x1 h0 v U'.heap L ∧ FrameEnd U o U' L ({ frames := 3, cells := 1, slots := 2, locals := 60 } : Room).cells ({ frames := 3, cells := 1, slots := 2, locals := 60 } : Room).slots) := by
  refine MetFree.of_bodySF pf_own_taF2 hisR ?_
  intro p e s m args below meth c s₁ Bd hml0 hP hK
  obtain ⟨rfl, hZ, hh⟩ := hP
  have hx := Bd.exec
  have hby := Bd.bytes
  have hlk := BodyLoose.notSynchronized Bd
  have hml : c.maxLocals = 1 := hml0
  have hown : s.vm.findClass own_s1 = some m.cls := findClass_of_methodNamed Bd.named
  have hnm := (name_of_methodNamed Bd.named Bd.method).1
  have X0 : Stand p l e ({ frames := 3, cells := 1, slots := 2, locals := 60 } : Room) s m #[(.ref a)] below meth c s₁ [] 0 0 := Stand.of_body Bd
  have e0 : s₁.heap = h0 := by rw [← hh, Bd.state]; rfl
  have N0 := Fr.nil Z.heap.size
  have K0 : Keep h0 h0 [] := Keep.refl _ _
  refine own_start (Q := Q_own_taF2 Z a arr kk mi x0 x1 h0) (ef_own_taF2 m (a)) ?_
  show own_G p e below (s₁.setTop (mkF m 0 #[.val (.ref a)] [])) _
  refine own_go (fun t k => XS.aloadN X0.here hx rfl (hb hby d_jdk_38_method_16_code_0) rfl rfl k) ?_
  obtain ⟨T1z, X1z, e1z, st1z⟩ := getF X0 hx hZ hown (host := "") (Or.inl (own_hw hw 28 rfl)) Via.refl e0 q3 (g := (mkF m 1 #[.val (.ref a)] [(.ref a)])) rfl rfl (hb hby d_jdk_38_method_16_code_1)
  refine own_go st1z ?_
  refine own_go (fun t k => XS.aloadN X1z.here hx rfl (hb hby d_jdk_38_method_16_code_4) rfl rfl k) ?_
  obtain ⟨T2z, X2z, e2z, st2z⟩ := getF X1z hx hZ hown (host := "") (Or.inl (own_hw hw 95 rfl)) Via.refl e1z q4 (g := (mkF m 5 #[.val (.ref a)] [(.ref a), (.ref arr)])) rfl rfl (hb hby d_jdk_38_method_16_code_5)
  refine own_go st2z ?_
  obtain ⟨_, _, ⟨T3z, L3z, k3z, n3z⟩, -, X3z, ⟨Lc3z, hQ3z, l3z, y3z, z3z⟩, st3z⟩ := Jvm.LawKit.callS X2z hx (y := own_m23) hown (own_mw hZ hw 171 rfl) (own_mw hZ hw 172 rfl) (own_mw hZ hw 173 rfl) (own_mw hZ hw 174 rfl) (by decide) (backOf (W := 0) (own_co2F2 l Z a0 hw [] arr kk mi x0 x1 h0 O0 MI q1 q2 q5 q6) hZ (own_hw hw 174 rfl) (own_hw hw 173 rfl) (by decide) (by decide)) (g := (mkF m 8 #[.val (.ref a)] [(.int (2 : Int32)), (.ref arr)])) rfl (by rw [hml]; rfl) (argsL := [(.ref arr), (.int (2 : Int32))]) (rest := []) (lenOf pd_3812470197 rfl) rfl (by show 2 * 0 + _ ≤ _; exact Nat.le_of_eq rfl) (hb hby d_jdk_38_method_16_code_8) (fun _ _ => ⟨rfl, e2z, (by decide : 0 + 1 ≤ _), (by decide : 0 + 2 ≤ _)⟩)
  dsimp only [Pt.U, Pt.locs, Pt.cells, Pt.slots] at X3z l3z y3z z3z st3z hQ3z
  subst l3z y3z z3z
  obtain ⟨r_3z, kr_3z, rfl, NQ3z, K3zq, r3z_0, r3z_1, r3z_2⟩ := hQ3z
  refine own_go st3z ?_
  have N3z := Fr.app N0 NQ3z
  have O4z := own_ext_keep O0 K3zq all0
  have K4z := K0.trans K3zq all0
  have lz_r_3z : h0.size ≤ r_3z := Nat.le_trans K0.1 r3z_1
  have ne_arr_r_3z : arr ≠ r_3z := Nat.ne_of_lt (Nat.lt_of_lt_of_le q1.lt r3z_1)
  have ne_a_r_3z : a ≠ r_3z := Nat.ne_of_lt (Nat.lt_of_lt_of_le q3.lt r3z_1)
  have ne_x0_r_3z : x0 ≠ r_3z := Nat.ne_of_lt (Nat.lt_of_lt_of_le q5.lt r3z_1)
  have ne_x1_r_3z : x1 ≠ r_3z := Nat.ne_of_lt (Nat.lt_of_lt_of_le q6.lt r3z_1)
  show own_G p e below (T3z.setTop (mkF m 11 #[.val (.ref a)] [(.ref r_3z)])) _
  exact own_ret X3z hx Bd.returns rfl (Or.inr (Or.inr (Or.inr (Or.inr ⟨rfl, rfl, rfl⟩)))) (hb hby d_jdk_38_method_16_code_11) hlk (Nat.le_of_ble_eq_true rfl) (Nat.le_of_ble_eq_true rfl) (by show Q_own_taF2 Z a arr kk mi x0 x1 h0 _ T3z.heap _; exact ⟨r_3z, kr_3z, rfl, N3z, K4z, r3z_0, lz_r_3z, r3z_2⟩)
theorem ef_own_ofF2 (m : MethodId) (x0 : Addr) : entryFrame m #[(.ref x0)] 2 = mkF m 0 #[.val (.ref x0), .unset] [] := by first | (simp [entryFrame, mkF, argsToLocals, Value.category]; done) | rfl
theorem pf_own_ofF2 : plainFor own_m25 = true := plainFor_of_name (by simp [plainName, overriddenIn])
theorem pd_3139348140 : parseMethodDescriptor "(Ljava/lang/Object;Ljava/lang/Object;)V" = some ⟨[(.object "java/lang/Object"), (.object "java/lang/Object")], none⟩ := by decide +kernel
theorem d_jdk_40_method_47_code_45 : decode jdk_40_method_47_code 45 = .ok (.new 96, 3) := by decide +kernel
theorem d_jdk_40_method_47_code_48 : decode jdk_40_method_47_code 48 = .ok (.dup, 1) := by decide +kernel
theorem d_jdk_40_method_47_code_49 : decode jdk_40_method_47_code 49 = .ok (.aload_n 0, 1) := by decide +kernel
theorem d_jdk_40_method_47_code_50 : decode jdk_40_method_47_code 50 = .ok (.iconst 0, 1) := by decide +kernel
theorem d_jdk_40_method_47_code_51 : decode jdk_40_method_47_code 51 = .ok (.aaload, 1) := by decide +kernel
theorem d_jdk_40_method_47_code_52 : decode jdk_40_method_47_code 52 = .ok (.aload_n 0, 1) := by decide +kernel
theorem d_jdk_40_method_47_code_53 : decode jdk_40_method_47_code 53 = .ok (.iconst 1, 1) := by decide +kernel
theorem d_jdk_40_method_47_code_54 : decode jdk_40_method_47_code 54 = .ok (.aaload, 1) := by decide +kernel
theorem d_jdk_40_method_47_code_55 : decode jdk_40_method_47_code 55 = .ok (.invokespecial 100, 3) := by decide +kernel
theorem d_jdk_40_method_47_code_58 : decode jdk_40_method_47_code 58 = .ok (.areturn, 1) := by decide +kernel
def Q_own_ofF2 (Z : State) (b : Addr) (kb : ClassId) (eM : Addr) (x0 : Addr) (x1 : Addr) (h0 : Heap) (v : Option Value) (h : Heap) (L : List Loc) : Prop := ∃ r : Addr, v = some (.ref r) ∧ Fr Z.heap.size L ∧ Keep h0 h [] ∧ (Exa Z h r own_s6) ∧ (Z.heap.size ≤ r) ∧ (h0.size ≤ r) ∧ (Fld Z h r own_s6 "e0" own_s13 (.ref x0))
set_option maxRecDepth 65536 in
set_option maxHeartbeats 40000000 in
theorem own_ofF2 (l : Launch) (Z : State) (a0 : Array Value) (hw : ∀ d ∈ tables_1, d.before a0 Z = true) (ws : List Jvm.Cond) (b : Addr) (kb : ClassId) (eM : Addr) (x0 : Addr) (x1 : Addr) (h0 : Heap) (O0 : Ext Z.heap h0) (S_EM : Sta Z Z.heap own_s12 "EMPTY" own_s13 (.ref eM)) (q1 : own_A Z h0 b kb (.object own_s2) [(.ref x0), (.ref x1)]) (q2 : Exa Z h0 x0 own_s0) (q3 : Exa Z h0 x1 own_s0) :
    MetFree l own_m25 (head1 (Jvm.Cond.code own_m25 jdk_40_method_47_code 2 (some (.object own_s15)) :: ws) ({ frames := 5, cells := 1, slots := 2, locals := 64 } : Room)) (fun aa U => aa = #[(.ref b)] ∧ Z.Warmed39 U.vm ∧ U.heap = h0) (fun _ _ _ _ _ => True) (fun _ U o U' => ∃ v L, o = .returned v ∧ Q_own_ofF2 Z b kb eM x0 x1 h0 v U'.heap L ∧ FrameEnd U o U' L ({ frames := 5, cells := 1, slots := 2, locals := 64 } : Room).cells ({ frames := 5, cells := 1, slots := 2, locals := 64 } : Room).slots) := by
  refine MetFree.of_bodySF pf_own_ofF2 hisR ?_
  intro p e s m args below meth c s₁ Bd hml0 hP hK
  obtain ⟨rfl, hZ, hh⟩ := hP
  have hx := Bd.exec
  have hby := Bd.bytes
  have hlk := BodyLoose.notSynchronized Bd
  have hml : c.maxLocals = 2 := hml0
  have hown : s.vm.findClass own_s15 = some m.cls := findClass_of_methodNamed Bd.named
  have hnm := (name_of_methodNamed Bd.named Bd.method).1
  have X0 : Stand p l e ({ frames := 5, cells := 1, slots := 2, locals := 64 } : Room) s m #[(.ref b)] below meth c s₁ [] 0 0 := Stand.of_body Bd
  have e0 : s₁.heap = h0 := by rw [← hh, Bd.state]; rfl
  have N0 := Fr.nil Z.heap.size
  have K0 : Keep h0 h0 [] := Keep.refl _ _
  refine own_start (Q := Q_own_ofF2 Z b kb eM x0 x1 h0) (ef_own_ofF2 m (b)) ?_
  show own_G p e below (s₁.setTop (mkF m 0 #[.val (.ref b), .unset] [])) _
  refine own_go (fun t k => XS.aloadN X0.here hx rfl (hb hby d_jdk_40_method_47_code_0) rfl rfl k) ?_
  refine own_go (own_len X0 hx hZ e0 q1 (z := (2 : Int32)) (by show (2 : Int32).toInt = ((2 : Nat) : Int); decide) (g := (mkF m 1 #[.val (.ref b), .unset] [(.ref b)])) rfl rfl (hb hby d_jdk_40_method_47_code_1)) ?_
  refine own_go (fun t k => XS.tswIn X0.here hx rfl (pc0 := 2) (pc' := 45) (o := 43) rfl (hb hby d_jdk_40_method_47_code_2) rfl (by decide) (by decide) (by decide) (by decide) k) ?_
  show own_G p e below (s₁.setTop (mkF m 45 #[.val (.ref b), .unset] [])) _
  obtain ⟨T1z, h1z, X1z, e1z, E1z, A1z, D1z, -, st1z⟩ := newO X0 hx hZ hown (own_hw hw 196 rfl) (own_hw hw 197 rfl) (own_hw hw 198 rfl) e0 (g := (mkF m 45 #[.val (.ref b), .unset] [])) rfl (hb hby d_jdk_40_method_47_code_45) (by decide) (by decide)
  obtain ⟨b1z, g1z⟩ : ∃ z, z = h0.size := ⟨_, rfl⟩
  rw [← g1z] at A1z D1z st1z
  have fr_b1z : Z.heap.size ≤ b1z := g1z ▸ O0.1
  have lz_b1z : h0.size ≤ b1z := g1z ▸ K0.1
  have ne_b_b1z : b ≠ b1z := Nat.ne_of_lt (g1z ▸ q1.lt)
  have ne_x0_b1z : x0 ≠ b1z := Nat.ne_of_lt (g1z ▸ q2.lt)
  have ne_x1_b1z : x1 ≠ b1z := Nat.ne_of_lt (g1z ▸ q3.lt)
  have O2z := own_ext_trans O0 E1z
  have K2z := K0.ext E1z
  have F1z_e0 : Fld Z h1z b1z own_s6 "e0" own_s13 .null := D1z (Or.inr (own_hw hw 222 rfl)) (ty := (.object own_s2)) (by decide)
  have F1z_e1 : Fld Z h1z b1z own_s6 "e1" own_s13 .null := D1z (Or.inr (own_hw hw 225 rfl)) (ty := (.object own_s2)) (by decide)
  refine own_go st1z ?_
  refine own_go (fun t k => XS.dup X1z.here hx rfl (hb hby d_jdk_40_method_47_code_48) rfl rfl k) ?_
  refine own_go (fun t k => XS.aloadN X1z.here hx rfl (hb hby d_jdk_40_method_47_code_49) rfl rfl k) ?_
  refine own_go (fun t k => XS.iconst X1z.here hx rfl (hb hby d_jdk_40_method_47_code_50) k) ?_
  refine own_go (own_ldA X1z hx hZ e1z (q1.ext E1z) rfl (i := 0) (v := (.ref x0)) (by decide) rfl (g := (mkF m 51 #[.val (.ref b), .unset] [(.int (0 : Int32)), (.ref b), (.ref b1z), (.ref b1z)])) rfl rfl (hb hby d_jdk_40_method_47_code_51)) ?_
  refine own_go (fun t k => XS.aloadN X1z.here hx rfl (hb hby d_jdk_40_method_47_code_52) rfl rfl k) ?_
  refine own_go (fun t k => XS.iconst X1z.here hx rfl (hb hby d_jdk_40_method_47_code_53) k) ?_
  refine own_go (own_ldA X1z hx hZ e1z (q1.ext E1z) rfl (i := 1) (v := (.ref x1)) (by decide) rfl (g := (mkF m 54 #[.val (.ref b), .unset] [(.int (1 : Int32)), (.ref b), (.ref x0), (.ref b1z), (.ref b1z)])) rfl rfl (hb hby d_jdk_40_method_47_code_54)) ?_
  obtain ⟨_, _, ⟨T3z, L3z, k3z, n3z⟩, -, X3z, ⟨Lc3z, hQ3z, l3z, y3z, z3z⟩, st3z⟩ := X1z.specialBack hx (y := own_m19) rfl hown (own_mw hZ hw 268 rfl) (own_mw hZ hw 269 rfl) (own_mw hZ hw 270 rfl) (by decide) (backOf (W := 1) (own_l12b l Z a0 hw [] b1z x0 x1 h1z O2z A1z fr_b1z F1z_e0 F1z_e1) hZ (own_hw hw 270 rfl) (own_hw hw 198 rfl) (by decide) (by decide)) (g := (mkF m 55 #[.val (.ref b), .unset] [(.ref x1), (.ref x0), (.ref b1z), (.ref b1z)])) rfl (by rw [hml]; rfl) (Steps.refl _) (a := b1z) (argsL := [(.ref x0), (.ref x1)]) (rest := [(.ref b1z)]) (lenOf pd_3139348140 rfl) rfl (by show 2 * 0 + _ ≤ _; exact Nat.le_of_eq rfl) (hb hby d_jdk_40_method_47_code_55) (fun _ _ => ⟨rfl, e1z, (by decide : 1 + 0 ≤ _), (by decide : 2 + 0 ≤ _)⟩)
  dsimp only [Pt.U, Pt.locs, Pt.cells, Pt.slots] at X3z l3z y3z z3z st3z hQ3z
  subst l3z y3z z3z
  obtain ⟨rfl, NQ3z, K3zq, r3z_0, r3z_1, r3z_2⟩ := hQ3z
  refine own_tr st3z ?_
  have N3z := Fr.app N0 NQ3z
  have O4z := own_ext_keep O2z K3zq (allS fr_b1z all0)
  have K4z := K2z.trans K3zq (allS (Or.inr lz_b1z) all0)
  show own_G p e below (T3z.setTop (mkF m 58 #[.val (.ref b), .unset] [(.ref b1z)])) _
  exact own_ret X3z hx Bd.returns rfl (Or.inr (Or.inr (Or.inr (Or.inr ⟨rfl, rfl, rfl⟩)))) (hb hby d_jdk_40_method_47_code_58) hlk (Nat.le_of_ble_eq_true rfl) (Nat.le_of_ble_eq_true rfl) (by show Q_own_ofF2 Z b kb eM x0 x1 h0 _ T3z.heap _; exact ⟨b1z, rfl, N3z, K4z, r3z_0, fr_b1z, lz_b1z, r3z_1⟩)
theorem ef_own_lcpF2 (m : MethodId) (x0 : Addr) : entryFrame m #[(.ref x0)] 2 = mkF m 0 #[.val (.ref x0), .unset] [] := by first | (simp [entryFrame, mkF, argsToLocals, Value.category]; done) | rfl
theorem pf_own_lcpF2 : plainFor own_m26 = true := plainFor_of_name (by simp [plainName, overriddenIn])
def Q_own_lcpF2 (Z : State) (a : Addr) (arr : Addr) (kk : ClassId) (mi : Addr) (eM : Addr) (x0 : Addr) (x1 : Addr) (h0 : Heap) (v : Option Value) (h : Heap) (L : List Loc) : Prop := ∃ r : Addr, v = some (.ref r) ∧ Fr Z.heap.size L ∧ Keep h0 h [] ∧ (Exa Z h r own_s6) ∧ (Z.heap.size ≤ r) ∧ (h0.size ≤ r) ∧ (Fld Z h r own_s6 "e0" own_s13 (.ref x0))
set_option maxRecDepth 65536 in
set_option maxHeartbeats 40000000 in
theorem own_lcpF2 (l : Launch) (Z : State) (a0 : Array Value) (hw : ∀ d ∈ tables_1, d.before a0 Z = true) (ws : List Jvm.Cond) (a : Addr) (arr : Addr) (kk : ClassId) (mi : Addr) (eM : Addr) (x0 : Addr) (x1 : Addr) (h0 : Heap) (O0 : Ext Z.heap h0) (MI : Mir Z own_s3 mi) (S_EM : Sta Z Z.heap own_s12 "EMPTY" own_s13 (.ref eM)) (q2 : Exa Z h0 a own_s1) (q3 : own_A Z h0 arr kk (.object own_s2) [(.ref x0), (.ref x1), .null, .null, .null, .null, .null, .null, .null, .null]) (q4 : Exa Z h0 arr own_s3) (q5 : Fld Z h0 a own_s1 "elementData" own_s3 (.ref arr)) (q6 : Fld Z h0 a own_s1 "size" "I" (.int (2 : Int32))) (q7 : Exa Z h0 x0 own_s0) (q8 : Exa Z h0 x1 own_s0) :
    MetFree l own_m26 (head1 (Jvm.Cond.code own_m26 jdk_56_method_3_code 2 (some (.object own_s15)) :: ws) ({ frames := 7, cells := 2, slots := 4, locals := 100 } : Room)) (fun aa U => aa = #[(.ref a)] ∧ Z.Warmed39 U.vm ∧ U.heap = h0) (fun _ _ _ _ _ => True) (fun _ U o U' => ∃ v L, o = .returned v ∧ Q_own_lcpF2 Z a arr kk mi eM x0 x1 h0 v U'.heap L ∧ FrameEnd U o U' L ({ frames := 7, cells := 2, slots := 4, locals := 100 } : Room).cells ({ frames := 7, cells := 2, slots := 4, locals := 100 } : Room).slots) := by
  refine MetFree.of_bodySF pf_own_lcpF2 hisR ?_
  intro p e s m args below meth c s₁ Bd hml0 hP hK
  obtain ⟨rfl, hZ, hh⟩ := hP
  have hx := Bd.exec
  have hby := Bd.bytes
  have hlk := BodyLoose.notSynchronized Bd
  have hml : c.maxLocals = 2 := hml0
  have hown : s.vm.findClass own_s12 = some m.cls := findClass_of_methodNamed Bd.named
  have hnm := (name_of_methodNamed Bd.named Bd.method).1
  have X0 : Stand p l e ({ frames := 7, cells := 2, slots := 4, locals := 100 } : Room) s m #[(.ref a)] below meth c s₁ [] 0 0 := Stand.of_body Bd
  have e0 : s₁.heap = h0 := by rw [← hh, Bd.state]; rfl
  have N0 := Fr.nil Z.heap.size
  have K0 : Keep h0 h0 [] := Keep.refl _ _
  refine own_start (Q := Q_own_lcpF2 Z a arr kk mi eM x0 x1 h0) (ef_own_lcpF2 m (a)) ?_
  show own_G p e below (s₁.setTop (mkF m 0 #[.val (.ref a), .unset] [])) _
  refine own_go (fun t k => XS.aloadN X0.here hx rfl (hb hby d_jdk_56_method_3_code_0) rfl rfl k) ?_
  obtain ⟨T1z, X1z, e1z, st1z⟩ := instNo X0 hx hZ hown (own_hw hw 80 rfl) e0 q2 (own_NSno (own_hw hw 81 rfl) (own_hw hw 197 rfl) (NS.step (own_hw hw 81 rfl) (NS.step (own_hw hw 82 rfl) (NS.step (own_hw hw 83 rfl) (own_NSroot (own_hw hw 84 rfl) (own_hw hw 197 rfl) (by decide)) (by decide)) (by decide)) (by decide)) (by decide)) (g := (mkF m 1 #[.val (.ref a), .unset] [(.ref a)])) rfl rfl (hb hby d_jdk_56_method_3_code_1)
  refine own_go st1z ?_
  refine own_go (fun t k => XS.ifNo X1z.here hx rfl (hb hby d_jdk_56_method_3_code_4) rfl ((if0 _ _).trans (teq (by decide : (0 : Int32) = (0 : Int32))).2) k) ?_
  show own_G p e below (T1z.setTop (mkF m 7 #[.val (.ref a), .unset] [])) _
  refine own_go (fun t k => XS.aloadN X1z.here hx rfl (hb hby d_jdk_56_method_3_code_7) rfl rfl k) ?_
  obtain ⟨T2z, X2z, e2z, st2z⟩ := instNo X1z hx hZ hown (own_hw hw 85 rfl) e1z q2 (own_NSno (own_hw hw 81 rfl) (own_hw hw 276 rfl) (NS.step (own_hw hw 81 rfl) (NS.step (own_hw hw 82 rfl) (NS.step (own_hw hw 83 rfl) (own_NSroot (own_hw hw 84 rfl) (own_hw hw 276 rfl) (by decide)) (by decide)) (by decide)) (by decide)) (by decide)) (g := (mkF m 8 #[.val (.ref a), .unset] [(.ref a)])) rfl rfl (hb hby d_jdk_56_method_3_code_8)
  refine own_go st2z ?_
  refine own_go (fun t k => XS.ifYes X2z.here hx rfl (pc0 := 11) (pc' := 31) rfl (hb hby d_jdk_56_method_3_code_11) rfl ((if0 _ _).trans (teq (by decide : (0 : Int32) = (0 : Int32))).1) (by decide) (by decide) k) ?_
  show own_G p e below (T2z.setTop (mkF m 31 #[.val (.ref a), .unset] [])) _
  refine own_go (fun t k => XS.aloadN X2z.here hx rfl (hb hby d_jdk_56_method_3_code_31) rfl rfl k) ?_
  obtain ⟨cq3z, kq3z, qa3z, qb3z, qc3z⟩ := isOf hZ e2z q2
  obtain ⟨_, _, ⟨T3z, L3z, k3z, n3z⟩, -, X3z, ⟨Lc3z, hQ3z, l3z, y3z, z3z⟩, st3z⟩ := X2z.interfaceBack hx (xi := own_m27) (y := own_m17) hown (own_mw hZ hw 86 rfl) (own_mw hZ hw 87 rfl) (own_mw hZ hw 88 rfl) (own_mw hZ hw 89 rfl) (own_mw hZ hw 90 rfl) (own_mw hZ hw 91 rfl) (own_mw hZ hw 92 rfl) (own_mw hZ hw 93 rfl) (by decide) (backOf (W := 0) (own_ise2 l Z a0 hw [] a h0 O0 q6) hZ (own_hw hw 94 rfl) (own_hw hw 6 rfl) (by decide) (by decide)) qa3z qb3z qc3z (g := (mkF m 32 #[.val (.ref a), .unset] [(.ref a)])) rfl (by rw [hml]; rfl) (Steps.refl _) (argsL := []) (rest := []) (lenOf pd_193422000 rfl) rfl (by show 2 * 0 + _ ≤ _; exact Nat.le_of_eq rfl) (hb hby d_jdk_56_method_3_code_32) (fun _ _ => ⟨rfl, e2z, (by decide : 0 + 0 ≤ _), (by decide : 0 + 0 ≤ _)⟩)
  dsimp only [Pt.U, Pt.locs, Pt.cells, Pt.slots] at X3z l3z y3z z3z st3z hQ3z
  subst l3z y3z z3z
  obtain ⟨rfl, NQ3z, K3zq⟩ := hQ3z
  refine own_tr st3z ?_
  have N3z := Fr.app N0 NQ3z
  show own_G p e below (T3z.setTop (mkF m 37 #[.val (.ref a), .unset] [(.int (0 : Int32))])) _
  refine own_go (fun t k => XS.ifYes X3z.here hx rfl (pc0 := 37) (pc' := 44) rfl (hb hby d_jdk_56_method_3_code_37) rfl ((if0 _ _).trans (teq (by decide : (0 : Int32) = (0 : Int32))).1) (by decide) (by decide) k) ?_
  show own_G p e below (T3z.setTop (mkF m 44 #[.val (.ref a), .unset] [])) _
  refine own_go (fun t k => XS.aloadN X3z.here hx rfl (hb hby d_jdk_56_method_3_code_44) rfl rfl k) ?_
  obtain ⟨cq4z, kq4z, qa4z, qb4z, qc4z⟩ := isOf hZ K3zq q2
  obtain ⟨_, _, ⟨T4z, L4z, k4z, n4z⟩, -, X4z, ⟨Lc4z, hQ4z, l4z, y4z, z4z⟩, st4z⟩ := X3z.interfaceBack hx (xi := own_m28) (y := own_m24) hown (own_mw hZ hw 163 rfl) (own_mw hZ hw 164 rfl) (own_mw hZ hw 165 rfl) (own_mw hZ hw 166 rfl) (own_mw hZ hw 167 rfl) (own_mw hZ hw 168 rfl) (own_mw hZ hw 169 rfl) (own_mw hZ hw 93 rfl) (by decide) (backOf (W := 0) (own_taF2 l Z a0 hw [] a arr kk mi x0 x1 h0 O0 MI q3 q4 q5 q6 q7 q8) hZ (own_hw hw 170 rfl) (own_hw hw 6 rfl) (by decide) (by decide)) qa4z qb4z qc4z (g := (mkF m 45 #[.val (.ref a), .unset] [(.ref a)])) rfl (by rw [hml]; rfl) (Steps.refl _) (argsL := []) (rest := []) (lenOf pd_3591787953 rfl) rfl (by show 2 * 0 + _ ≤ _; exact Nat.le_of_eq rfl) (hb hby d_jdk_56_method_3_code_45) (fun _ _ => ⟨rfl, K3zq, (by decide : 0 + 1 ≤ _), (by decide : 0 + 2 ≤ _)⟩)
  dsimp only [Pt.U, Pt.locs, Pt.cells, Pt.slots] at X4z l4z y4z z4z st4z hQ4z
  subst l4z y4z z4z
  obtain ⟨r_4z, kr_4z, rfl, NQ4z, K4zq, r4z_0, r4z_1, r4z_2⟩ := hQ4z
  refine own_tr st4z ?_
  have N4z := Fr.app N3z NQ4z
  have O5z := own_ext_keep O0 K4zq all0
  have K5z := K0.trans K4zq all0
  have lz_r_4z : h0.size ≤ r_4z := Nat.le_trans K0.1 r4z_1
  have ne_a_r_4z : a ≠ r_4z := Nat.ne_of_lt (Nat.lt_of_lt_of_le q2.lt r4z_1)
  have ne_arr_r_4z : arr ≠ r_4z := Nat.ne_of_lt (Nat.lt_of_lt_of_le q3.lt r4z_1)
  have ne_x0_r_4z : x0 ≠ r_4z := Nat.ne_of_lt (Nat.lt_of_lt_of_le q7.lt r4z_1)
  have ne_x1_r_4z : x1 ≠ r_4z := Nat.ne_of_lt (Nat.lt_of_lt_of_le q8.lt r4z_1)
  show own_G p e below (T4z.setTop (mkF m 50 #[.val (.ref a), .unset] [(.ref r_4z)])) _
  obtain ⟨_, _, ⟨T6z, L6z, k6z, n6z⟩, -, X6z, ⟨Lc6z, hQ6z, l6z, y6z, z6z⟩, st6z⟩ := Jvm.LawKit.callS X4z hx (y := own_m25) hown (own_mw hZ hw 193 rfl) (own_mw hZ hw 194 rfl) (own_mw hZ hw 74 rfl) (own_mw hZ hw 195 rfl) (by decide) (backOf (W := 0) (own_ofF2 l Z a0 hw [] r_4z kr_4z eM x0 x1 T4z.heap O5z S_EM r4z_2 (q7.keep K4zq) (q8.keep K4zq)) hZ (own_hw hw 195 rfl) (own_hw hw 74 rfl) (by decide) (by decide)) (g := (mkF m 50 #[.val (.ref a), .unset] [(.ref r_4z)])) rfl (by rw [hml]; rfl) (argsL := [(.ref r_4z)]) (rest := []) (lenOf pd_3349133522 rfl) rfl (by show 2 * 0 + _ ≤ _; exact Nat.le_of_eq rfl) (hb hby d_jdk_56_method_3_code_50) (fun _ _ => ⟨rfl, rfl, (by decide : 1 + 1 ≤ _), (by decide : 2 + 2 ≤ _)⟩)
  dsimp only [Pt.U, Pt.locs, Pt.cells, Pt.slots] at X6z l6z y6z z6z st6z hQ6z
  subst l6z y6z z6z
  obtain ⟨r_6z, rfl, NQ6z, K6zq, r6z_0, r6z_1, r6z_2, r6z_3⟩ := hQ6z
  refine own_go st6z ?_
  have N6z := Fr.app N4z NQ6z
  have O7z := own_ext_keep O5z K6zq all0
  have K7z := K5z.trans K6zq all0
  have lz_r_6z : h0.size ≤ r_6z := Nat.le_trans K5z.1 r6z_2
  have ne_a_r_6z : a ≠ r_6z := Nat.ne_of_lt (Nat.lt_of_lt_of_le (q2.keep K4zq).lt r6z_2)
  have ne_arr_r_6z : arr ≠ r_6z := Nat.ne_of_lt (Nat.lt_of_lt_of_le (q3.keep K4zq (by simp)).lt r6z_2)
  have ne_x0_r_6z : x0 ≠ r_6z := Nat.ne_of_lt (Nat.lt_of_lt_of_le (q7.keep K4zq).lt r6z_2)
  have ne_x1_r_6z : x1 ≠ r_6z := Nat.ne_of_lt (Nat.lt_of_lt_of_le (q8.keep K4zq).lt r6z_2)
  have ne_r_4z_r_6z : r_4z ≠ r_6z := Nat.ne_of_lt (Nat.lt_of_lt_of_le r4z_2.lt r6z_2)
  show own_G p e below (T6z.setTop (mkF m 53 #[.val (.ref a), .unset] [(.ref r_6z)])) _
  exact own_ret X6z hx Bd.returns rfl (Or.inr (Or.inr (Or.inr (Or.inr ⟨rfl, rfl, rfl⟩)))) (hb hby d_jdk_56_method_3_code_53) hlk (Nat.le_of_ble_eq_true rfl) (Nat.le_of_ble_eq_true rfl) (by show Q_own_lcpF2 Z a arr kk mi eM x0 x1 h0 _ T6z.heap _; exact ⟨r_6z, rfl, N6z, K7z, r6z_0, r6z_1, lz_r_6z, r6z_3⟩)
theorem ef_own_cpoF2 (m : MethodId) (x0 : Addr) : entryFrame m #[(.ref x0)] 1 = mkF m 0 #[.val (.ref x0)] [] := by first | (simp [entryFrame, mkF, argsToLocals, Value.category]; done) | rfl
theorem pf_own_cpoF2 : plainFor own_m29 = true := plainFor_of_name (by simp [plainName, overriddenIn])
def Q_own_cpoF2 (Z : State) (a : Addr) (arr : Addr) (kk : ClassId) (mi : Addr) (eM : Addr) (x0 : Addr) (x1 : Addr) (h0 : Heap) (v : Option Value) (h : Heap) (L : List Loc) : Prop := ∃ r : Addr, v = some (.ref r) ∧ Fr Z.heap.size L ∧ Keep h0 h [] ∧ (Exa Z h r own_s6) ∧ (Z.heap.size ≤ r) ∧ (h0.size ≤ r) ∧ (Fld Z h r own_s6 "e0" own_s13 (.ref x0))
set_option maxRecDepth 65536 in
set_option maxHeartbeats 40000000 in
theorem own_cpoF2 (l : Launch) (Z : State) (a0 : Array Value) (hw : ∀ d ∈ tables_1, d.before a0 Z = true) (ws : List Jvm.Cond) (a : Addr) (arr : Addr) (kk : ClassId) (mi : Addr) (eM : Addr) (x0 : Addr) (x1 : Addr) (h0 : Heap) (O0 : Ext Z.heap h0) (MI : Mir Z own_s3 mi) (S_EM : Sta Z Z.heap own_s12 "EMPTY" own_s13 (.ref eM)) (q2 : Exa Z h0 a own_s1) (q3 : own_A Z h0 arr kk (.object own_s2) [(.ref x0), (.ref x1), .null, .null, .null, .null, .null, .null, .null, .null]) (q4 : Exa Z h0 arr own_s3) (q5 : Fld Z h0 a own_s1 "elementData" own_s3 (.ref arr)) (q6 : Fld Z h0 a own_s1 "size" "I" (.int (2 : Int32))) (q7 : Exa Z h0 x0 own_s0) (q8 : Exa Z h0 x1 own_s0) :
    MetFree l own_m29 (head1 (Jvm.Cond.code own_m29 jdk_40_method_48_code 1 (some (.object own_s15)) :: ws) ({ frames := 8, cells := 2, slots := 4, locals := 120 } : Room)) (fun aa U => aa = #[(.ref a)] ∧ Z.Warmed39 U.vm ∧ U.heap = h0) (fun _ _ _ _ _ => True) (fun _ U o U' => ∃ v L, o = .returned v ∧ Q_own_cpoF2 Z a arr kk mi eM x0 x1 h0 v U'.heap L ∧ FrameEnd U o U' L ({ frames := 8, cells := 2, slots := 4, locals := 120 } : Room).cells ({ frames := 8, cells := 2, slots := 4, locals := 120 } : Room).slots) := by
  refine MetFree.of_bodySF pf_own_cpoF2 hisR ?_
  intro p e s m args below meth c s₁ Bd hml0 hP hK
  obtain ⟨rfl, hZ, hh⟩ := hP
  have hx := Bd.exec
  have hby := Bd.bytes
  have hlk := BodyLoose.notSynchronized Bd
  have hml : c.maxLocals = 1 := hml0
  have hown : s.vm.findClass own_s15 = some m.cls := findClass_of_methodNamed Bd.named
  have hnm := (name_of_methodNamed Bd.named Bd.method).1
  have X0 : Stand p l e ({ frames := 8, cells := 2, slots := 4, locals := 120 } : Room) s m #[(.ref a)] below meth c s₁ [] 0 0 := Stand.of_body Bd
  have e0 : s₁.heap = h0 := by rw [← hh, Bd.state]; rfl
  have N0 := Fr.nil Z.heap.size
  have K0 : Keep h0 h0 [] := Keep.refl _ _
  refine own_start (Q := Q_own_cpoF2 Z a arr kk mi eM x0 x1 h0) (ef_own_cpoF2 m (a)) ?_
  show own_G p e below (s₁.setTop (mkF m 0 #[.val (.ref a)] [])) _
  refine own_go (fun t k => XS.aloadN X0.here hx rfl (hb hby d_jdk_40_method_48_code_0) rfl rfl k) ?_
  obtain ⟨_, _, ⟨T1z, L1z, k1z, n1z⟩, -, X1z, ⟨Lc1z, hQ1z, l1z, y1z, z1z⟩, st1z⟩ := Jvm.LawKit.callS X0 hx (y := own_m26) hown (own_mw hZ hw 76 rfl) (own_mw hZ hw 77 rfl) (own_mw hZ hw 78 rfl) (own_mw hZ hw 79 rfl) (by decide) (backOf (W := 0) (own_lcpF2 l Z a0 hw [] a arr kk mi eM x0 x1 h0 O0 MI S_EM q2 q3 q4 q5 q6 q7 q8) hZ (own_hw hw 79 rfl) (own_hw hw 78 rfl) (by decide) (by decide)) (g := (mkF m 1 #[.val (.ref a)] [(.ref a)])) rfl (by rw [hml]; rfl) (argsL := [(.ref a)]) (rest := []) (lenOf pd_548093608 rfl) rfl (by show 2 * 0 + _ ≤ _; exact Nat.le_of_eq rfl) (hb hby d_jdk_40_method_48_code_1) (fun _ _ => ⟨rfl, e0, (by decide : 0 + 2 ≤ _), (by decide : 0 + 4 ≤ _)⟩)
  dsimp only [Pt.U, Pt.locs, Pt.cells, Pt.slots] at X1z l1z y1z z1z st1z hQ1z
  subst l1z y1z z1z
  obtain ⟨r_1z, rfl, NQ1z, K1zq, r1z_0, r1z_1, r1z_2, r1z_3⟩ := hQ1z
  refine own_go st1z ?_
  have N1z := Fr.app N0 NQ1z
  have O2z := own_ext_keep O0 K1zq all0
  have K2z := K0.trans K1zq all0
  have lz_r_1z : h0.size ≤ r_1z := Nat.le_trans K0.1 r1z_2
  have ne_a_r_1z : a ≠ r_1z := Nat.ne_of_lt (Nat.lt_of_lt_of_le q2.lt r1z_2)
  have ne_arr_r_1z : arr ≠ r_1z := Nat.ne_of_lt (Nat.lt_of_lt_of_le q3.lt r1z_2)
  have ne_x0_r_1z : x0 ≠ r_1z := Nat.ne_of_lt (Nat.lt_of_lt_of_le q7.lt r1z_2)
  have ne_x1_r_1z : x1 ≠ r_1z := Nat.ne_of_lt (Nat.lt_of_lt_of_le q8.lt r1z_2)
  show own_G p e below (T1z.setTop (mkF m 4 #[.val (.ref a)] [(.ref r_1z)])) _
  exact own_ret X1z hx Bd.returns rfl (Or.inr (Or.inr (Or.inr (Or.inr ⟨rfl, rfl, rfl⟩)))) (hb hby d_jdk_40_method_48_code_4) hlk (Nat.le_of_ble_eq_true rfl) (Nat.le_of_ble_eq_true rfl) (by show Q_own_cpoF2 Z a arr kk mi eM x0 x1 h0 _ T1z.heap _; exact ⟨r_1z, rfl, N1z, K2z, r1z_0, r1z_1, lz_r_1z, r1z_3⟩)
theorem ef_own_min3 (m : MethodId) (x0 : Int32) (x1 : Int32) : entryFrame m #[(.int x0), (.int x1)] 2 = mkF m 0 #[.val (.int x0), .val (.int x1)] [] := by first | (simp [entryFrame, mkF, argsToLocals, Value.category]; done) | rfl
theorem pf_own_min3 : plainFor own_m21 = true := by decide +kernel
def Q_own_min3 (Z : State) (h0 : Heap) (v : Option Value) (h : Heap) (L : List Loc) : Prop := v = some (.int (3 : Int32)) ∧ Fr Z.heap.size L ∧ h = h0
set_option maxRecDepth 65536 in
set_option maxHeartbeats 40000000 in
theorem own_min3 (l : Launch) (Z : State) (a0 : Array Value) (hw : ∀ d ∈ tables_1, d.before a0 Z = true) (ws : List Jvm.Cond) (h0 : Heap) (O0 : Ext Z.heap h0) :
    MetFree l own_m21 (head1 (Jvm.Cond.code own_m21 jdk_29_method_69_code 2 (some .int) :: ws) ({ frames := 0, cells := 0, slots := 0, locals := 0 } : Room)) (fun aa U => aa = #[(.int (10 : Int32)), (.int (3 : Int32))] ∧ Z.Warmed39 U.vm ∧ U.heap = h0) (fun _ _ _ _ _ => True) (fun _ U o U' => ∃ v L, o = .returned v ∧ Q_own_min3 Z h0 v U'.heap L ∧ FrameEnd U o U' L ({ frames := 0, cells := 0, slots := 0, locals := 0 } : Room).cells ({ frames := 0, cells := 0, slots := 0, locals := 0 } : Room).slots) := by
  refine MetFree.of_bodySF pf_own_min3 hisR ?_
  intro p e s m args below meth c s₁ Bd hml0 hP hK
  obtain ⟨rfl, hZ, hh⟩ := hP
  have hx := Bd.exec
  have hby := Bd.bytes
  have hlk := BodyLoose.notSynchronized Bd
  have hml : c.maxLocals = 2 := hml0
  have hown : s.vm.findClass "java/lang/Math" = some m.cls := findClass_of_methodNamed Bd.named
  have hnm := (name_of_methodNamed Bd.named Bd.method).1
  have X0 : Stand p l e ({ frames := 0, cells := 0, slots := 0, locals := 0 } : Room) s m #[(.int (10 : Int32)), (.int (3 : Int32))] below meth c s₁ [] 0 0 := Stand.of_body Bd
  have e0 : s₁.heap = h0 := by rw [← hh, Bd.state]; rfl
  have N0 := Fr.nil Z.heap.size
  have K0 : Keep h0 h0 [] := Keep.refl _ _
  refine own_start (Q := Q_own_min3 Z h0) (ef_own_min3 m ((10 : Int32)) ((3 : Int32))) ?_
  show own_G p e below (s₁.setTop (mkF m 0 #[.val (.int (10 : Int32)), .val (.int (3 : Int32))] [])) _
  refine own_go (fun t k => XS.iloadN X0.here hx rfl (hb hby d_jdk_29_method_69_code_0) rfl k) ?_
  refine own_go (fun t k => XS.iloadN X0.here hx rfl (hb hby d_jdk_29_method_69_code_1) rfl k) ?_
  refine own_go (fun t k => XS.icmpYes X0.here hx rfl (pc0 := 2) (pc' := 9) rfl (hb hby d_jdk_29_method_69_code_2) rfl (tlt (by decide : (3 : Int32) < (10 : Int32))).2.2.1 (by decide) (by decide) k) ?_
  show own_G p e below (s₁.setTop (mkF m 9 #[.val (.int (10 : Int32)), .val (.int (3 : Int32))] [])) _
  refine own_go (fun t k => XS.iloadN X0.here hx rfl (hb hby d_jdk_29_method_69_code_9) rfl k) ?_
  exact own_ret X0 hx Bd.returns rfl (Or.inl ⟨rfl, Or.inl rfl, _, rfl⟩) (hb hby d_jdk_29_method_69_code_10) hlk (Nat.le_of_ble_eq_true rfl) (Nat.le_of_ble_eq_true rfl) (by show Q_own_min3 Z h0 _ s₁.heap _; rw [e0]; exact ⟨rfl, N0, rfl⟩)
theorem ef_own_co3F3 (m : MethodId) (x0 : Addr) (x1 : Int32) (x2 : Addr) : entryFrame m #[(.ref x0), (.int x1), (.ref x2)] 4 = mkF m 0 #[.val (.ref x0), .val (.int x1), .val (.ref x2), .unset] [] := by first | (simp [entryFrame, mkF, argsToLocals, Value.category]; done) | rfl
theorem pf_own_co3F3 : plainFor own_m22 = true := plainFor_of_name (by simp [plainName, overriddenIn])
def Q_own_co3F3 (Z : State) (arr : Addr) (kk : ClassId) (mi : Addr) (x0 : Addr) (x1 : Addr) (x2 : Addr) (h0 : Heap) (v : Option Value) (h : Heap) (L : List Loc) : Prop := ∃ r : Addr, ∃ kr : ClassId, v = some (.ref r) ∧ Fr Z.heap.size L ∧ Keep h0 h [] ∧ (Z.heap.size ≤ r) ∧ (h0.size ≤ r) ∧ (own_A Z h r kr (.object own_s2) [(.ref x0), (.ref x1), (.ref x2)])
set_option maxRecDepth 65536 in
set_option maxHeartbeats 40000000 in
theorem own_co3F3 (l : Launch) (Z : State) (a0 : Array Value) (hw : ∀ d ∈ tables_1, d.before a0 Z = true) (ws : List Jvm.Cond) (arr : Addr) (kk : ClassId) (mi : Addr) (x0 : Addr) (x1 : Addr) (x2 : Addr) (h0 : Heap) (O0 : Ext Z.heap h0) (MI : Mir Z own_s3 mi) (q1 : own_A Z h0 arr kk (.object own_s2) [(.ref x0), (.ref x1), (.ref x2), .null, .null, .null, .null, .null, .null, .null]) (q2 : Exa Z h0 x0 own_s0) (q3 : Exa Z h0 x1 own_s0) (q4 : Exa Z h0 x2 own_s0) :
    MetFree l own_m22 (head1 (Jvm.Cond.code own_m22 jdk_65_method_120_code 4 (some (.array (.object own_s2))) :: ws) ({ frames := 1, cells := 1, slots := 3, locals := 24 } : Room)) (fun aa U => aa = #[(.ref arr), (.int (3 : Int32)), (.ref mi)] ∧ Z.Warmed39 U.vm ∧ U.heap = h0) (fun _ _ _ _ _ => True) (fun _ U o U' => ∃ v L, o = .returned v ∧ Q_own_co3F3 Z arr kk mi x0 x1 x2 h0 v U'.heap L ∧ FrameEnd U o U' L ({ frames := 1, cells := 1, slots := 3, locals := 24 } : Room).cells ({ frames := 1, cells := 1, slots := 3, locals := 24 } : Room).slots) := by
  refine MetFree.of_bodySF pf_own_co3F3 hisR ?_
  intro p e s m args below meth c s₁ Bd hml0 hP hK
  obtain ⟨rfl, hZ, hh⟩ := hP
  have hx := Bd.exec
  have hby := Bd.bytes
  have hlk := BodyLoose.notSynchronized Bd
  have hml : c.maxLocals = 4 := hml0
  have hown : s.vm.findClass "java/util/Arrays" = some m.cls := findClass_of_methodNamed Bd.named
  have hnm := (name_of_methodNamed Bd.named Bd.method).1
  have X0 : Stand p l e ({ frames := 1, cells := 1, slots := 3, locals := 24 } : Room) s m #[(.ref arr), (.int (3 : Int32)), (.ref mi)] below meth c s₁ [] 0 0 := Stand.of_body Bd
  have e0 : s₁.heap = h0 := by rw [← hh, Bd.state]; rfl
  have N0 := Fr.nil Z.heap.size
  have K0 : Keep h0 h0 [] := Keep.refl _ _
  refine own_start (Q := Q_own_co3F3 Z arr kk mi x0 x1 x2 h0) (ef_own_co3F3 m (arr) ((3 : Int32)) (mi)) ?_
  show own_G p e below (s₁.setTop (mkF m 0 #[.val (.ref arr), .val (.int (3 : Int32)), .val (.ref mi), .unset] [])) _
  refine own_go (fun t k => XS.aloadN X0.here hx rfl (hb hby d_jdk_65_method_120_code_0) rfl rfl k) ?_
  obtain ⟨T1z, X1z, e1z, st1z⟩ := own_ldcK X0 hx hZ hown (own_hw hw 184 rfl) MI e0 (g := (mkF m 1 #[.val (.ref arr), .val (.int (3 : Int32)), .val (.ref mi), .unset] [(.ref mi)])) rfl (hb hby d_jdk_65_method_120_code_1)
  refine own_go st1z ?_
  refine own_go (fun t k => Jvm.RoadKit.acmp (g := (mkF m 3 #[.val (.ref arr), .val (.int (3 : Int32)), .val (.ref mi), .unset] [(.ref mi), (.ref mi)])) X1z hx rfl rfl rfl (pc0 := 3) (pc' := 6) (same := true) rfl (hb hby d_jdk_65_method_120_code_3) rfl (decide_eq_true (congrArg Value.ref rfl)) (by decide) (by decide) k) ?_
  show own_G p e below (T1z.setTop (mkF m 6 #[.val (.ref arr), .val (.int (3 : Int32)), .val (.ref mi), .unset] [])) _
  refine own_go (fun t k => XS.iloadN X1z.here hx rfl (hb hby d_jdk_65_method_120_code_6) rfl k) ?_
  obtain ⟨T2z, h2z, kc2z, X2z, e2z, E2z, V2z, EX2z, O2z_, st2z⟩ := own_newRE X1z hx hZ hown (own_hw hw 185 rfl) (own_hw hw 153 rfl) e1z (g := (mkF m 7 #[.val (.ref arr), .val (.int (3 : Int32)), .val (.ref mi), .unset] [(.int (3 : Int32))])) rfl (hb hby d_jdk_65_method_120_code_7) rfl (i := 3) (by decide) (cap := 3) (by decide) (by decide) (by decide) (by decide) (ad := own_s3) (by decide)
  obtain ⟨b2z, g2z⟩ : ∃ z, z = h0.size := ⟨_, rfl⟩
  rw [← g2z] at V2z st2z EX2z
  have fr_b2z : Z.heap.size ≤ b2z := g2z ▸ O0.1
  have lz_b2z : h0.size ≤ b2z := g2z ▸ K0.1
  have ne_arr_b2z : arr ≠ b2z := Nat.ne_of_lt (g2z ▸ q1.lt)
  have ne_x0_b2z : x0 ≠ b2z := Nat.ne_of_lt (g2z ▸ q2.lt)
  have ne_x1_b2z : x1 ≠ b2z := Nat.ne_of_lt (g2z ▸ q3.lt)
  have ne_x2_b2z : x2 ≠ b2z := Nat.ne_of_lt (g2z ▸ q4.lt)
  have O3z := own_ext_trans O0 E2z
  have K3z := K0.ext E2z
  have V2z : own_A Z h2z b2z kc2z (.object own_s2) [.null, .null, .null] := V2z
  refine own_go st2z ?_
  refine own_go (fun t k => XS.goto X2z.here hx rfl (pc0 := 10) (pc' := 24) rfl (hb hby d_jdk_65_method_120_code_10) (by decide) (by decide) k) ?_
  show own_G p e below (T2z.setTop (mkF m 24 #[.val (.ref arr), .val (.int (3 : Int32)), .val (.ref mi), .unset] [(.ref b2z)])) _
  refine own_go (fun t k => XS.astoreN X2z.here hx rfl (hb hby d_jdk_65_method_120_code_24) rfl rfl (l' := #[.val (.ref arr), .val (.int (3 : Int32)), .val (.ref mi), .val (.ref b2z)]) rfl k) ?_
  refine own_go (fun t k => XS.aloadN X2z.here hx rfl (hb hby d_jdk_65_method_120_code_25) rfl rfl k) ?_
  refine own_go (fun t k => XS.iconst X2z.here hx rfl (hb hby d_jdk_65_method_120_code_26) k) ?_
  refine own_go (fun t k => XS.aloadN X2z.here hx rfl (hb hby d_jdk_65_method_120_code_27) rfl rfl k) ?_
  refine own_go (fun t k => XS.iconst X2z.here hx rfl (hb hby d_jdk_65_method_120_code_28) k) ?_
  refine own_go (fun t k => XS.aloadN X2z.here hx rfl (hb hby d_jdk_65_method_120_code_29) rfl rfl k) ?_
  refine own_go (own_len X2z hx hZ e2z (q1.ext E2z) (z := (10 : Int32)) (by show (10 : Int32).toInt = ((10 : Nat) : Int); decide) (g := (mkF m 30 #[.val (.ref arr), .val (.int (3 : Int32)), .val (.ref mi), .val (.ref b2z)] [(.ref arr), (.int (0 : Int32)), (.ref b2z), (.int (0 : Int32)), (.ref arr)])) rfl rfl (hb hby d_jdk_65_method_120_code_30)) ?_
  refine own_go (fun t k => XS.iloadN X2z.here hx rfl (hb hby d_jdk_65_method_120_code_31) rfl k) ?_
  obtain ⟨_, _, ⟨T4z, L4z, k4z, n4z⟩, -, X4z, ⟨Lc4z, hQ4z, l4z, y4z, z4z⟩, st4z⟩ := Jvm.LawKit.callS X2z hx (y := own_m21) hown (own_mw hZ hw 186 rfl) (own_mw hZ hw 187 rfl) (own_mw hZ hw 150 rfl) (own_mw hZ hw 188 rfl) (by decide) (backOf (W := 4) (own_min3 l Z a0 hw [] h2z O3z) hZ (own_hw hw 188 rfl) (own_hw hw 150 rfl) (by decide) (by decide)) (g := (mkF m 32 #[.val (.ref arr), .val (.int (3 : Int32)), .val (.ref mi), .val (.ref b2z)] [(.int (3 : Int32)), (.int (10 : Int32)), (.int (0 : Int32)), (.ref b2z), (.int (0 : Int32)), (.ref arr)])) rfl (by rw [hml]; rfl) (argsL := [(.int (10 : Int32)), (.int (3 : Int32))]) (rest := [(.int (0 : Int32)), (.ref b2z), (.int (0 : Int32)), (.ref arr)]) (lenOf pd_184293393 rfl) rfl (by show 2 * 0 + _ ≤ _; exact Nat.le_of_eq rfl) (hb hby d_jdk_65_method_120_code_32) (fun _ _ => ⟨rfl, e2z, (by decide : 1 + 0 ≤ _), (by decide : 3 + 0 ≤ _)⟩)
  dsimp only [Pt.U, Pt.locs, Pt.cells, Pt.slots] at X4z l4z y4z z4z st4z hQ4z
  subst l4z y4z z4z
  obtain ⟨rfl, NQ4z, K4zq⟩ := hQ4z
  refine own_go st4z ?_
  have N4z := Fr.app N0 NQ4z
  show own_G p e below (T4z.setTop (mkF m 35 #[.val (.ref arr), .val (.int (3 : Int32)), .val (.ref mi), .val (.ref b2z)] [(.int (3 : Int32)), (.int (0 : Int32)), (.ref b2z), (.int (0 : Int32)), (.ref arr)])) _
  obtain ⟨T5z, h5z, L5z, X5z, e5z, N5z, K5zq, V5z, st5z⟩ := own_cp X4z hx hZ hown (own_hw hw 189 rfl) (own_hw hw 192 rfl) (own_hw hw 190 rfl) (own_hw hw 191 rfl) K4zq (us := [(.ref x0), (.ref x1), (.ref x2)]) (vr := [(.ref x0), (.ref x1), (.ref x2)]) (i := 0) (j := 0) (n := 3) (q1.ext E2z) V2z (by show 10 < _; decide) (by show 3 < _; decide) (Or.inr ⟨rfl, rfl, own_stoL O2z_ V2z [(.ref x0), (.ref x1), (.ref x2)] (own_memc (Or.inr ⟨_, rfl, (Ins.of_exa (q2.ext E2z) (own_hw hw 154 rfl))⟩) (own_memc (Or.inr ⟨_, rfl, (Ins.of_exa (q3.ext E2z) (own_hw hw 154 rfl))⟩) (own_memc (Or.inr ⟨_, rfl, (Ins.of_exa (q4.ext E2z) (own_hw hw 154 rfl))⟩) (fun v hv => nomatch hv))))⟩) (by decide) (by decide) (by decide) (by show 3 ≤ 10; decide) (by show 3 ≤ 3; decide) rfl rfl N4z fr_b2z (g := (mkF m 35 #[.val (.ref arr), .val (.int (3 : Int32)), .val (.ref mi), .val (.ref b2z)] [(.int (3 : Int32)), (.int (0 : Int32)), (.ref b2z), (.int (0 : Int32)), (.ref arr)])) rfl (by rw [hml]; rfl) rfl (hb hby d_jdk_65_method_120_code_35) (by decide) (W := 0) (by show 2 * 0 + _ ≤ _; exact Nat.le_of_eq rfl) (by decide)
  refine own_go st5z ?_
  have O6z := own_ext_keep O3z K5zq (allS fr_b2z all0)
  have K6z := K3z.trans K5zq (allS (Or.inr lz_b2z) all0)
  show own_G p e below (T5z.setTop (mkF m 38 #[.val (.ref arr), .val (.int (3 : Int32)), .val (.ref mi), .val (.ref b2z)] [])) _
  refine own_go (fun t k => XS.aloadN X5z.here hx rfl (hb hby d_jdk_65_method_120_code_38) rfl rfl k) ?_
  exact own_ret X5z hx Bd.returns rfl (Or.inr (Or.inr (Or.inr (Or.inr ⟨rfl, rfl, rfl⟩)))) (hb hby d_jdk_65_method_120_code_39) hlk (Nat.le_of_ble_eq_true rfl) (Nat.le_of_ble_eq_true rfl) (by show Q_own_co3F3 Z arr kk mi x0 x1 x2 h0 _ T5z.heap _; rw [e5z]; exact ⟨b2z, kc2z, rfl, N5z, K6z, fr_b2z, lz_b2z, V5z⟩)
theorem ef_own_co2F3 (m : MethodId) (x0 : Addr) (x1 : Int32) : entryFrame m #[(.ref x0), (.int x1)] 2 = mkF m 0 #[.val (.ref x0), .val (.int x1)] [] := by first | (simp [entryFrame, mkF, argsToLocals, Value.category]; done) | rfl
theorem pf_own_co2F3 : plainFor own_m23 = true := plainFor_of_name (by simp [plainName, overriddenIn])
def Q_own_co2F3 (Z : State) (arr : Addr) (kk : ClassId) (mi : Addr) (x0 : Addr) (x1 : Addr) (x2 : Addr) (h0 : Heap) (v : Option Value) (h : Heap) (L : List Loc) : Prop := ∃ r : Addr, ∃ kr : ClassId, v = some (.ref r) ∧ Fr Z.heap.size L ∧ Keep h0 h [] ∧ (Z.heap.size ≤ r) ∧ (h0.size ≤ r) ∧ (own_A Z h r kr (.object own_s2) [(.ref x0), (.ref x1), (.ref x2)])
set_option maxRecDepth 65536 in
set_option maxHeartbeats 40000000 in
theorem own_co2F3 (l : Launch) (Z : State) (a0 : Array Value) (hw : ∀ d ∈ tables_1, d.before a0 Z = true) (ws : List Jvm.Cond) (arr : Addr) (kk : ClassId) (mi : Addr) (x0 : Addr) (x1 : Addr) (x2 : Addr) (h0 : Heap) (O0 : Ext Z.heap h0) (MI : Mir Z own_s3 mi) (q1 : own_A Z h0 arr kk (.object own_s2) [(.ref x0), (.ref x1), (.ref x2), .null, .null, .null, .null, .null, .null, .null]) (q2 : Exa Z h0 arr own_s3) (q3 : Exa Z h0 x0 own_s0) (q4 : Exa Z h0 x1 own_s0) (q5 : Exa Z h0 x2 own_s0) :
    MetFree l own_m23 (head1 (Jvm.Cond.code own_m23 jdk_65_method_119_code 2 (some (.array (.object own_s2))) :: ws) ({ frames := 2, cells := 1, slots := 3, locals := 44 } : Room)) (fun aa U => aa = #[(.ref arr), (.int (3 : Int32))] ∧ Z.Warmed39 U.vm ∧ U.heap = h0) (fun _ _ _ _ _ => True) (fun _ U o U' => ∃ v L, o = .returned v ∧ Q_own_co2F3 Z arr kk mi x0 x1 x2 h0 v U'.heap L ∧ FrameEnd U o U' L ({ frames := 2, cells := 1, slots := 3, locals := 44 } : Room).cells ({ frames := 2, cells := 1, slots := 3, locals := 44 } : Room).slots) := by
  refine MetFree.of_bodySF pf_own_co2F3 hisR ?_
  intro p e s m args below meth c s₁ Bd hml0 hP hK
  obtain ⟨rfl, hZ, hh⟩ := hP
  have hx := Bd.exec
  have hby := Bd.bytes
  have hlk := BodyLoose.notSynchronized Bd
  have hml : c.maxLocals = 2 := hml0
  have hown : s.vm.findClass "java/util/Arrays" = some m.cls := findClass_of_methodNamed Bd.named
  have hnm := (name_of_methodNamed Bd.named Bd.method).1
  have X0 : Stand p l e ({ frames := 2, cells := 1, slots := 3, locals := 44 } : Room) s m #[(.ref arr), (.int (3 : Int32))] below meth c s₁ [] 0 0 := Stand.of_body Bd
  have e0 : s₁.heap = h0 := by rw [← hh, Bd.state]; rfl
  have N0 := Fr.nil Z.heap.size
  have K0 : Keep h0 h0 [] := Keep.refl _ _
  refine own_start (Q := Q_own_co2F3 Z arr kk mi x0 x1 x2 h0) (ef_own_co2F3 m (arr) ((3 : Int32))) ?_
  show own_G p e below (s₁.setTop (mkF m 0 #[.val (.ref arr), .val (.int (3 : Int32))] [])) _
  refine own_go (fun t k => XS.aloadN X0.here hx rfl (hb hby d_jdk_65_method_119_code_0) rfl rfl k) ?_
  refine own_go (fun t k => XS.iloadN X0.here hx rfl (hb hby d_jdk_65_method_119_code_1) rfl k) ?_
  refine own_go (fun t k => XS.aloadN X0.here hx rfl (hb hby d_jdk_65_method_119_code_2) rfl rfl k) ?_
  obtain ⟨T1z, X1z, e1z, st1z⟩ := gcls X0 hx hZ hown (own_hw hw 175 rfl) (own_hw hw 176 rfl) (own_hw hw 84 rfl) (own_hw hw 178 rfl) (own_hw hw 177 rfl) (own_hw hw 179 rfl) e0 q2 MI (g := (mkF m 3 #[.val (.ref arr), .val (.int (3 : Int32))] [(.ref arr), (.int (3 : Int32)), (.ref arr)])) rfl (by rw [hml]; rfl) rfl (hb hby d_jdk_65_method_119_code_3) (by decide) (W := 2) (by show 2 * 0 + _ ≤ _; exact Nat.le_of_eq rfl) (by decide)
  refine own_go st1z ?_
  show own_G p e below (T1z.setTop (mkF m 6 #[.val (.ref arr), .val (.int (3 : Int32))] [(.ref mi), (.int (3 : Int32)), (.ref arr)])) _
  obtain ⟨_, _, ⟨T2z, L2z, k2z, n2z⟩, -, X2z, ⟨Lc2z, hQ2z, l2z, y2z, z2z⟩, st2z⟩ := Jvm.LawKit.callS X1z hx (y := own_m22) hown (own_mw hZ hw 181 rfl) (own_mw hZ hw 182 rfl) (own_mw hZ hw 173 rfl) (own_mw hZ hw 183 rfl) (by decide) (backOf (W := 0) (own_co3F3 l Z a0 hw [] arr kk mi x0 x1 x2 h0 O0 MI q1 q3 q4 q5) hZ (own_hw hw 183 rfl) (own_hw hw 173 rfl) (by decide) (by decide)) (g := (mkF m 6 #[.val (.ref arr), .val (.int (3 : Int32))] [(.ref mi), (.int (3 : Int32)), (.ref arr)])) rfl (by rw [hml]; rfl) (argsL := [(.ref arr), (.int (3 : Int32)), (.ref mi)]) (rest := []) (lenOf pd_684281524 rfl) rfl (by show 2 * 0 + _ ≤ _; exact Nat.le_of_eq rfl) (hb hby d_jdk_65_method_119_code_6) (fun _ _ => ⟨rfl, e1z, (by decide : 0 + 1 ≤ _), (by decide : 0 + 3 ≤ _)⟩)
  dsimp only [Pt.U, Pt.locs, Pt.cells, Pt.slots] at X2z l2z y2z z2z st2z hQ2z
  subst l2z y2z z2z
  obtain ⟨r_2z, kr_2z, rfl, NQ2z, K2zq, r2z_0, r2z_1, r2z_2⟩ := hQ2z
  refine own_go st2z ?_
  have N2z := Fr.app N0 NQ2z
  have O3z := own_ext_keep O0 K2zq all0
  have K3z := K0.trans K2zq all0
  have lz_r_2z : h0.size ≤ r_2z := Nat.le_trans K0.1 r2z_1
  have ne_arr_r_2z : arr ≠ r_2z := Nat.ne_of_lt (Nat.lt_of_lt_of_le q1.lt r2z_1)
  have ne_x0_r_2z : x0 ≠ r_2z := Nat.ne_of_lt (Nat.lt_of_lt_of_le q3.lt r2z_1)
  have ne_x1_r_2z : x1 ≠ r_2z := Nat.ne_of_lt (Nat.lt_of_lt_of_le q4.lt r2z_1)
  have ne_x2_r_2z : x2 ≠ r_2z := Nat.ne_of_lt (Nat.lt_of_lt_of_le q5.lt r2z_1)
  show own_G p e below (T2z.setTop (mkF m 9 #[.val (.ref arr), .val (.int (3 : Int32))] [(.ref r_2z)])) _
  exact own_ret X2z hx Bd.returns rfl (Or.inr (Or.inr (Or.inr (Or.inr ⟨rfl, rfl, rfl⟩)))) (hb hby d_jdk_65_method_119_code_9) hlk (Nat.le_of_ble_eq_true rfl) (Nat.le_of_ble_eq_true rfl) (by show Q_own_co2F3 Z arr kk mi x0 x1 x2 h0 _ T2z.heap _; exact ⟨r_2z, kr_2z, rfl, N2z, K3z, r2z_0, lz_r_2z, r2z_2⟩)
theorem ef_own_taF3 (m : MethodId) (x0 : Addr) : entryFrame m #[(.ref x0)] 1 = mkF m 0 #[.val (.ref x0)] [] := by first | (simp [entryFrame, mkF, argsToLocals, Value.category]; done) | rfl
theorem pf_own_taF3 : plainFor own_m24 = true := plainFor_of_name (by simp [plainName, overriddenIn])
def Q_own_taF3 (Z : State) (a : Addr) (arr : Addr) (kk : ClassId) (mi : Addr) (x0 : Addr) (x1 : Addr) (x2 : Addr) (h0 : Heap) (v : Option Value) (h : Heap) (L : List Loc) : Prop := ∃ r : Addr, ∃ kr : ClassId, v = some (.ref r) ∧ Fr Z.heap.size L ∧ Keep h0 h [] ∧ (Z.heap.size ≤ r) ∧ (h0.size ≤ r) ∧ (own_A Z h r kr (.object own_s2) [(.ref x0), (.ref x1), (.ref x2)])
set_option maxRecDepth 65536 in
set_option maxHeartbeats 40000000 in
theorem own_taF3 (l : Launch) (Z : State) (a0 : Array Value) (hw : ∀ d ∈ tables_1, d.before a0 Z = true) (ws : List Jvm.Cond) (a : Addr) (arr : Addr) (kk : ClassId) (mi : Addr) (x0 : Addr) (x1 : Addr) (x2 : Addr) (h0 : Heap) (O0 : Ext Z.heap h0) (MI : Mir Z own_s3 mi) (q1 : own_A Z h0 arr kk (.object own_s2) [(.ref x0), (.ref x1), (.ref x2), .null, .null, .null, .null, .null, .null, .null]) (q2 : Exa Z h0 arr own_s3) (q3 : Fld Z h0 a own_s1 "elementData" own_s3 (.ref arr)) (q4 : Fld Z h0 a own_s1 "size" "I" (.int (3 : Int32))) (q5 : Exa Z h0 x0 own_s0) (q6 : Exa Z h0 x1 own_s0) (q7 : Exa Z h0 x2 own_s0) :
    MetFree l own_m24 (head1 (Jvm.Cond.code own_m24 jdk_38_method_16_code 1 (some (.array (.object own_s2))) :: ws) ({ frames := 3, cells := 1, slots := 3, locals := 60 } : Room)) (fun aa U => aa = #[(.ref a)] ∧ Z.Warmed39 U.vm ∧ U.heap = h0) (fun _ _ _ _ _ => True) (fun _ U o U' => ∃ v L, o = .returned v ∧ Q_own_taF3 Z a arr kk mi x0 x1 x2 h0 v U'.heap L ∧ FrameEnd U o U' L ({ frames := 3, cells := 1, slots := 3, locals := 60 } : Room).cells ({ frames := 3, cells := 1, slots := 3, locals := 60 } : Room).slots) := by
  refine MetFree.of_bodySF pf_own_taF3 hisR ?_
  intro p e s m args below meth c s₁ Bd hml0 hP hK
  obtain ⟨rfl, hZ, hh⟩ := hP
  have hx := Bd.exec
  have hby := Bd.bytes
  have hlk := BodyLoose.notSynchronized Bd
  have hml : c.maxLocals = 1 := hml0
  have hown : s.vm.findClass own_s1 = some m.cls := findClass_of_methodNamed Bd.named
  have hnm := (name_of_methodNamed Bd.named Bd.method).1
  have X0 : Stand p l e ({ frames := 3, cells := 1, slots := 3, locals := 60 } : Room) s m #[(.ref a)] below meth c s₁ [] 0 0 := Stand.of_body Bd
  have e0 : s₁.heap = h0 := by rw [← hh, Bd.state]; rfl
  have N0 := Fr.nil Z.heap.size
  have K0 : Keep h0 h0 [] := Keep.refl _ _
  refine own_start (Q := Q_own_taF3 Z a arr kk mi x0 x1 x2 h0) (ef_own_taF3 m (a)) ?_
  show own_G p e below (s₁.setTop (mkF m 0 #[.val (.ref a)] [])) _
  refine own_go (fun t k => XS.aloadN X0.here hx rfl (hb hby d_jdk_38_method_16_code_0) rfl rfl k) ?_
  obtain ⟨T1z, X1z, e1z, st1z⟩ := getF X0 hx hZ hown (host := "") (Or.inl (own_hw hw 28 rfl)) Via.refl e0 q3 (g := (mkF m 1 #[.val (.ref a)] [(.ref a)])) rfl rfl (hb hby d_jdk_38_method_16_code_1)
  refine own_go st1z ?_
  refine own_go (fun t k => XS.aloadN X1z.here hx rfl (hb hby d_jdk_38_method_16_code_4) rfl rfl k) ?_
  obtain ⟨T2z, X2z, e2z, st2z⟩ := getF X1z hx hZ hown (host := "") (Or.inl (own_hw hw 95 rfl)) Via.refl e1z q4 (g := (mkF m 5 #[.val (.ref a)] [(.ref a), (.ref arr)])) rfl rfl (hb hby d_jdk_38_method_16_code_5)
  refine own_go st2z ?_
  obtain ⟨_, _, ⟨T3z, L3z, k3z, n3z⟩, -, X3z, ⟨Lc3z, hQ3z, l3z, y3z, z3z⟩, st3z⟩ := Jvm.LawKit.callS X2z hx (y := own_m23) hown (own_mw hZ hw 171 rfl) (own_mw hZ hw 172 rfl) (own_mw hZ hw 173 rfl) (own_mw hZ hw 174 rfl) (by decide) (backOf (W := 0) (own_co2F3 l Z a0 hw [] arr kk mi x0 x1 x2 h0 O0 MI q1 q2 q5 q6 q7) hZ (own_hw hw 174 rfl) (own_hw hw 173 rfl) (by decide) (by decide)) (g := (mkF m 8 #[.val (.ref a)] [(.int (3 : Int32)), (.ref arr)])) rfl (by rw [hml]; rfl) (argsL := [(.ref arr), (.int (3 : Int32))]) (rest := []) (lenOf pd_3812470197 rfl) rfl (by show 2 * 0 + _ ≤ _; exact Nat.le_of_eq rfl) (hb hby d_jdk_38_method_16_code_8) (fun _ _ => ⟨rfl, e2z, (by decide : 0 + 1 ≤ _), (by decide : 0 + 3 ≤ _)⟩)
  dsimp only [Pt.U, Pt.locs, Pt.cells, Pt.slots] at X3z l3z y3z z3z st3z hQ3z
  subst l3z y3z z3z
  obtain ⟨r_3z, kr_3z, rfl, NQ3z, K3zq, r3z_0, r3z_1, r3z_2⟩ := hQ3z
  refine own_go st3z ?_
  have N3z := Fr.app N0 NQ3z
  have O4z := own_ext_keep O0 K3zq all0
  have K4z := K0.trans K3zq all0
  have lz_r_3z : h0.size ≤ r_3z := Nat.le_trans K0.1 r3z_1
  have ne_arr_r_3z : arr ≠ r_3z := Nat.ne_of_lt (Nat.lt_of_lt_of_le q1.lt r3z_1)
  have ne_a_r_3z : a ≠ r_3z := Nat.ne_of_lt (Nat.lt_of_lt_of_le q3.lt r3z_1)
  have ne_x0_r_3z : x0 ≠ r_3z := Nat.ne_of_lt (Nat.lt_of_lt_of_le q5.lt r3z_1)
  have ne_x1_r_3z : x1 ≠ r_3z := Nat.ne_of_lt (Nat.lt_of_lt_of_le q6.lt r3z_1)
  have ne_x2_r_3z : x2 ≠ r_3z := Nat.ne_of_lt (Nat.lt_of_lt_of_le q7.lt r3z_1)
  show own_G p e below (T3z.setTop (mkF m 11 #[.val (.ref a)] [(.ref r_3z)])) _
  exact own_ret X3z hx Bd.returns rfl (Or.inr (Or.inr (Or.inr (Or.inr ⟨rfl, rfl, rfl⟩)))) (hb hby d_jdk_38_method_16_code_11) hlk (Nat.le_of_ble_eq_true rfl) (Nat.le_of_ble_eq_true rfl) (by show Q_own_taF3 Z a arr kk mi x0 x1 x2 h0 _ T3z.heap _; exact ⟨r_3z, kr_3z, rfl, N3z, K4z, r3z_0, lz_r_3z, r3z_2⟩)
theorem ef_own_lfaF3 (m : MethodId) (x0 : Addr) : entryFrame m #[(.ref x0)] 3 = mkF m 0 #[.val (.ref x0), .unset, .unset] [] := by first | (simp [entryFrame, mkF, argsToLocals, Value.category]; done) | rfl
theorem pf_own_lfaF3 : plainFor own_m30 = true := plainFor_of_name (by simp [plainName, overriddenIn])
theorem pd_246131201 : parseMethodDescriptor "([Ljava/lang/Object;Z)V" = some ⟨[(.array (.object "java/lang/Object")), .boolean], none⟩ := by decide +kernel
theorem d_jdk_56_method_4_code_0 : decode jdk_56_method_4_code 0 = .ok (.aload_n 0, 1) := by decide +kernel
theorem d_jdk_56_method_4_code_1 : decode jdk_56_method_4_code 1 = .ok (.arraylength, 1) := by decide +kernel
theorem d_jdk_56_method_4_code_10 : decode jdk_56_method_4_code 10 = .ok (.arraylength, 1) := by decide +kernel
theorem d_jdk_56_method_4_code_11 : decode jdk_56_method_4_code 11 = .ok (.if_icmp .ge 18, 3) := by decide +kernel
theorem d_jdk_56_method_4_code_14 : decode jdk_56_method_4_code 14 = .ok (.aload_n 1, 1) := by decide +kernel
theorem d_jdk_56_method_4_code_15 : decode jdk_56_method_4_code 15 = .ok (.iload_n 2, 1) := by decide +kernel
theorem d_jdk_56_method_4_code_16 : decode jdk_56_method_4_code 16 = .ok (.aload_n 0, 1) := by decide +kernel
theorem d_jdk_56_method_4_code_17 : decode jdk_56_method_4_code 17 = .ok (.iload_n 2, 1) := by decide +kernel
theorem d_jdk_56_method_4_code_18 : decode jdk_56_method_4_code 18 = .ok (.aaload, 1) := by decide +kernel
theorem d_jdk_56_method_4_code_19 : decode jdk_56_method_4_code 19 = .ok (.invokestatic 37, 3) := by decide +kernel
theorem d_jdk_56_method_4_code_2 : decode jdk_56_method_4_code 2 = .ok (.anewarray 2, 3) := by decide +kernel
theorem d_jdk_56_method_4_code_22 : decode jdk_56_method_4_code 22 = .ok (.aastore, 1) := by decide +kernel
theorem d_jdk_56_method_4_code_23 : decode jdk_56_method_4_code 23 = .ok (.iinc 2 1, 3) := by decide +kernel
theorem d_jdk_56_method_4_code_26 : decode jdk_56_method_4_code 26 = .ok (.goto (-18), 3) := by decide +kernel
theorem d_jdk_56_method_4_code_29 : decode jdk_56_method_4_code 29 = .ok (.new 12, 3) := by decide +kernel
theorem d_jdk_56_method_4_code_32 : decode jdk_56_method_4_code 32 = .ok (.dup, 1) := by decide +kernel
theorem d_jdk_56_method_4_code_33 : decode jdk_56_method_4_code 33 = .ok (.aload_n 1, 1) := by decide +kernel
theorem d_jdk_56_method_4_code_34 : decode jdk_56_method_4_code 34 = .ok (.iconst 0, 1) := by decide +kernel
theorem d_jdk_56_method_4_code_35 : decode jdk_56_method_4_code 35 = .ok (.invokespecial 43, 3) := by decide +kernel
theorem d_jdk_56_method_4_code_38 : decode jdk_56_method_4_code 38 = .ok (.areturn, 1) := by decide +kernel
theorem d_jdk_56_method_4_code_5 : decode jdk_56_method_4_code 5 = .ok (.astore_n 1, 1) := by decide +kernel
theorem d_jdk_56_method_4_code_6 : decode jdk_56_method_4_code 6 = .ok (.iconst 0, 1) := by decide +kernel
theorem d_jdk_56_method_4_code_7 : decode jdk_56_method_4_code 7 = .ok (.istore_n 2, 1) := by decide +kernel
theorem d_jdk_56_method_4_code_8 : decode jdk_56_method_4_code 8 = .ok (.iload_n 2, 1) := by decide +kernel
theorem d_jdk_56_method_4_code_9 : decode jdk_56_method_4_code 9 = .ok (.aload_n 0, 1) := by decide +kernel
def Q_own_lfaF3 (Z : State) (b : Addr) (kb : ClassId) (x0 : Addr) (x1 : Addr) (x2 : Addr) (h0 : Heap) (v : Option Value) (h : Heap) (L : List Loc) : Prop := ∃ r : Addr, ∃ er : Addr, ∃ ke : ClassId, v = some (.ref r) ∧ Fr Z.heap.size L ∧ Keep h0 h [] ∧ (Exa Z h r own_s10) ∧ (Z.heap.size ≤ r) ∧ (h0.size ≤ r) ∧ (Fld Z h r own_s10 "elements" own_s3 (.ref er)) ∧ (own_A Z h er ke (.object own_s2) [(.ref x0), (.ref x1), (.ref x2)]) ∧ (h0.size ≤ er)
set_option maxRecDepth 65536 in
set_option maxHeartbeats 40000000 in
theorem own_lfaF3 (l : Launch) (Z : State) (a0 : Array Value) (hw : ∀ d ∈ tables_1, d.before a0 Z = true) (ws : List Jvm.Cond) (b : Addr) (kb : ClassId) (x0 : Addr) (x1 : Addr) (x2 : Addr) (h0 : Heap) (O0 : Ext Z.heap h0) (q0 : own_A Z h0 b kb (.object own_s2) [(.ref x0), (.ref x1), (.ref x2)]) (q1 : Exa Z h0 x0 own_s0) (q2 : Exa Z h0 x1 own_s0) (q3 : Exa Z h0 x2 own_s0) :
    MetFree l own_m30 (head1 (Jvm.Cond.code own_m30 jdk_56_method_4_code 3 (some (.object own_s15)) :: ws) ({ frames := 5, cells := 2, slots := 5, locals := 64 } : Room)) (fun aa U => aa = #[(.ref b)] ∧ Z.Warmed39 U.vm ∧ U.heap = h0) (fun _ _ _ _ _ => True) (fun _ U o U' => ∃ v L, o = .returned v ∧ Q_own_lfaF3 Z b kb x0 x1 x2 h0 v U'.heap L ∧ FrameEnd U o U' L ({ frames := 5, cells := 2, slots := 5, locals := 64 } : Room).cells ({ frames := 5, cells := 2, slots := 5, locals := 64 } : Room).slots) := by
  refine MetFree.of_bodySF pf_own_lfaF3 hisR ?_
  intro p e s m args below meth c s₁ Bd hml0 hP hK
  obtain ⟨rfl, hZ, hh⟩ := hP
  have hx := Bd.exec
  have hby := Bd.bytes
  have hlk := BodyLoose.notSynchronized Bd
  have hml : c.maxLocals = 3 := hml0
  have hown : s.vm.findClass own_s12 = some m.cls := findClass_of_methodNamed Bd.named
  have hnm := (name_of_methodNamed Bd.named Bd.method).1
  have X0 : Stand p l e ({ frames := 5, cells := 2, slots := 5, locals := 64 } : Room) s m #[(.ref b)] below meth c s₁ [] 0 0 := Stand.of_body Bd
  have e0 : s₁.heap = h0 := by rw [← hh, Bd.state]; rfl
  have N0 := Fr.nil Z.heap.size
  have K0 : Keep h0 h0 [] := Keep.refl _ _
  refine own_start (Q := Q_own_lfaF3 Z b kb x0 x1 x2 h0) (ef_own_lfaF3 m (b)) ?_
  show own_G p e below (s₁.setTop (mkF m 0 #[.val (.ref b), .unset, .unset] [])) _
  refine own_go (fun t k => XS.aloadN X0.here hx rfl (hb hby d_jdk_56_method_4_code_0) rfl rfl k) ?_
  refine own_go (own_len X0 hx hZ e0 q0 (z := (3 : Int32)) (by show (3 : Int32).toInt = ((3 : Nat) : Int); decide) (g := (mkF m 1 #[.val (.ref b), .unset, .unset] [(.ref b)])) rfl rfl (hb hby d_jdk_56_method_4_code_1)) ?_
  obtain ⟨T1z, h1z, kc1z, X1z, e1z, E1z, V1z, EX1z, O1z_, st1z⟩ := own_newRE X0 hx hZ hown (own_hw hw 274 rfl) (own_hw hw 153 rfl) e0 (g := (mkF m 2 #[.val (.ref b), .unset, .unset] [(.int (3 : Int32))])) rfl (hb hby d_jdk_56_method_4_code_2) rfl (i := 3) (by decide) (cap := 3) (by decide) (by decide) (by decide) (by decide) (ad := own_s3) (by decide)
  obtain ⟨b1z, g1z⟩ : ∃ z, z = h0.size := ⟨_, rfl⟩
  rw [← g1z] at V1z st1z EX1z
  have fr_b1z : Z.heap.size ≤ b1z := g1z ▸ O0.1
  have lz_b1z : h0.size ≤ b1z := g1z ▸ K0.1
  have ne_b_b1z : b ≠ b1z := Nat.ne_of_lt (g1z ▸ q0.lt)
  have ne_x0_b1z : x0 ≠ b1z := Nat.ne_of_lt (g1z ▸ q1.lt)
  have ne_x1_b1z : x1 ≠ b1z := Nat.ne_of_lt (g1z ▸ q2.lt)
  have ne_x2_b1z : x2 ≠ b1z := Nat.ne_of_lt (g1z ▸ q3.lt)
  have O2z := own_ext_trans O0 E1z
  have K2z := K0.ext E1z
  have V1z : own_A Z h1z b1z kc1z (.object own_s2) [.null, .null, .null] := V1z
  refine own_go st1z ?_
  refine own_go (fun t k => XS.astoreN X1z.here hx rfl (hb hby d_jdk_56_method_4_code_5) rfl rfl (l' := #[.val (.ref b), .val (.ref b1z), .unset]) rfl k) ?_
  refine own_go (fun t k => XS.iconst X1z.here hx rfl (hb hby d_jdk_56_method_4_code_6) k) ?_
  refine own_go (fun t k => XS.istoreN X1z.here hx rfl (hb hby d_jdk_56_method_4_code_7) rfl (l' := #[.val (.ref b), .val (.ref b1z), .val (.int (0 : Int32))]) rfl k) ?_
  refine own_go (fun t k => XS.iloadN X1z.here hx rfl (hb hby d_jdk_56_method_4_code_8) rfl k) ?_
  refine own_go (fun t k => XS.aloadN X1z.here hx rfl (hb hby d_jdk_56_method_4_code_9) rfl rfl k) ?_
  refine own_go (own_len X1z hx hZ e1z (q0.ext E1z) (z := (3 : Int32)) (by show (3 : Int32).toInt = ((3 : Nat) : Int); decide) (g := (mkF m 10 #[.val (.ref b), .val (.ref b1z), .val (.int (0 : Int32))] [(.ref b), (.int (0 : Int32))])) rfl rfl (hb hby d_jdk_56_method_4_code_10)) ?_
  show own_G p e below (T1z.setTop (mkF m 11 #[.val (.ref b), .val (.ref b1z), .val (.int (0 : Int32))] [(.int (3 : Int32)), (.int (0 : Int32))])) _
  refine own_go (fun t k => XS.icmpNo X1z.here hx rfl (hb hby d_jdk_56_method_4_code_11) rfl (tlt (by decide : (0 : Int32) < (3 : Int32))).2.1 k) ?_
  show own_G p e below (T1z.setTop (mkF m 14 #[.val (.ref b), .val (.ref b1z), .val (.int (0 : Int32))] [])) _
  refine own_go (fun t k => XS.aloadN X1z.here hx rfl (hb hby d_jdk_56_method_4_code_14) rfl rfl k) ?_
  refine own_go (fun t k => XS.iloadN X1z.here hx rfl (hb hby d_jdk_56_method_4_code_15) rfl k) ?_
  refine own_go (fun t k => XS.aloadN X1z.here hx rfl (hb hby d_jdk_56_method_4_code_16) rfl rfl k) ?_
  refine own_go (fun t k => XS.iloadN X1z.here hx rfl (hb hby d_jdk_56_method_4_code_17) rfl k) ?_
  refine own_go (own_ldA X1z hx hZ e1z (q0.ext E1z) rfl (i := 0) (v := (.ref x0)) (by decide) rfl (g := (mkF m 18 #[.val (.ref b), .val (.ref b1z), .val (.int (0 : Int32))] [(.int (0 : Int32)), (.ref b), (.int (0 : Int32)), (.ref b1z)])) rfl rfl (hb hby d_jdk_56_method_4_code_18)) ?_
  obtain ⟨_, _, ⟨T3z, L3z, k3z, n3z⟩, -, X3z, ⟨Lc3z, hQ3z, l3z, y3z, z3z⟩, st3z⟩ := Jvm.LawKit.callS X1z hx (y := own_m11) hown (own_mw hZ hw 275 rfl) (own_mw hZ hw 218 rfl) (own_mw hZ hw 219 rfl) (own_mw hZ hw 220 rfl) (by decide) (backOf (W := 2) (own_rnn l Z a0 hw [] x0 h1z O2z) hZ (own_hw hw 220 rfl) (own_hw hw 219 rfl) (by decide) (by decide)) (g := (mkF m 19 #[.val (.ref b), .val (.ref b1z), .val (.int (0 : Int32))] [(.ref x0), (.int (0 : Int32)), (.ref b1z)])) rfl (by rw [hml]; rfl) (argsL := [(.ref x0)]) (rest := [(.int (0 : Int32)), (.ref b1z)]) (lenOf pd_1977252822 rfl) rfl (by show 2 * 0 + _ ≤ _; exact Nat.le_of_eq rfl) (hb hby d_jdk_56_method_4_code_19) (fun _ _ => ⟨rfl, e1z, (by decide : 1 + 0 ≤ _), (by decide : 3 + 0 ≤ _)⟩)
  dsimp only [Pt.U, Pt.locs, Pt.cells, Pt.slots] at X3z l3z y3z z3z st3z hQ3z
  subst l3z y3z z3z
  obtain ⟨rfl, NQ3z, K3zq⟩ := hQ3z
  refine own_go st3z ?_
  have N3z := Fr.app N0 NQ3z
  show own_G p e below (T3z.setTop (mkF m 22 #[.val (.ref b), .val (.ref b1z), .val (.int (0 : Int32))] [(.ref x0), (.int (0 : Int32)), (.ref b1z)])) _
  obtain ⟨T4z, h4z, X4z, e4z, W4z, V4z, st4z⟩ := own_stR X3z hx hZ K3zq V1z rfl (i := 0) (by decide) (Nat.le_of_ble_eq_true rfl) (own_sto O1z_ (Or.inr ⟨_, rfl, (Ins.of_exa (q1.ext E1z) (own_hw hw 154 rfl))⟩)) rfl (g := (mkF m 22 #[.val (.ref b), .val (.ref b1z), .val (.int (0 : Int32))] [(.ref x0), (.int (0 : Int32)), (.ref b1z)])) rfl rfl (hb hby d_jdk_56_method_4_code_22)
  refine own_go st4z ?_
  have N4z := Fr.snoc X4z N3z fr_b1z
  have O5z := own_ext_wr O2z W4z fr_b1z
  have K5z := K2z.wr W4z (Or.inr lz_b1z)
  have V4z : own_A Z h4z b1z kc1z (.object own_s2) [(.ref x0), .null, .null] := V4z
  refine own_go (fun t k => XS.iinc X4z.here hx rfl (hb hby d_jdk_56_method_4_code_23) rfl (l' := #[.val (.ref b), .val (.ref b1z), .val (.int (1 : Int32))]) rfl k) ?_
  refine own_go (fun t k => XS.goto X4z.here hx rfl (pc0 := 26) (pc' := 8) rfl (hb hby d_jdk_56_method_4_code_26) (by decide) (by decide) k) ?_
  show own_G p e below (T4z.setTop (mkF m 8 #[.val (.ref b), .val (.ref b1z), .val (.int (1 : Int32))] [])) _
  refine own_go (fun t k => XS.iloadN X4z.here hx rfl (hb hby d_jdk_56_method_4_code_8) rfl k) ?_
  refine own_go (fun t k => XS.aloadN X4z.here hx rfl (hb hby d_jdk_56_method_4_code_9) rfl rfl k) ?_
  refine own_go (own_len X4z hx hZ e4z ((q0.ext E1z).other W4z ne_b_b1z) (z := (3 : Int32)) (by show (3 : Int32).toInt = ((3 : Nat) : Int); decide) (g := (mkF m 10 #[.val (.ref b), .val (.ref b1z), .val (.int (1 : Int32))] [(.ref b), (.int (1 : Int32))])) rfl rfl (hb hby d_jdk_56_method_4_code_10)) ?_
  refine own_go (fun t k => XS.icmpNo X4z.here hx rfl (hb hby d_jdk_56_method_4_code_11) rfl (tlt (by decide : (1 : Int32) < (3 : Int32))).2.1 k) ?_
  show own_G p e below (T4z.setTop (mkF m 14 #[.val (.ref b), .val (.ref b1z), .val (.int (1 : Int32))] [])) _
  refine own_go (fun t k => XS.aloadN X4z.here hx rfl (hb hby d_jdk_56_method_4_code_14) rfl rfl k) ?_
  refine own_go (fun t k => XS.iloadN X4z.here hx rfl (hb hby d_jdk_56_method_4_code_15) rfl k) ?_
  refine own_go (fun t k => XS.aloadN X4z.here hx rfl (hb hby d_jdk_56_method_4_code_16) rfl rfl k) ?_
  refine own_go (fun t k => XS.iloadN X4z.here hx rfl (hb hby d_jdk_56_method_4_code_17) rfl k) ?_
  refine own_go (own_ldA X4z hx hZ e4z ((q0.ext E1z).other W4z ne_b_b1z) rfl (i := 1) (v := (.ref x1)) (by decide) rfl (g := (mkF m 18 #[.val (.ref b), .val (.ref b1z), .val (.int (1 : Int32))] [(.int (1 : Int32)), (.ref b), (.int (1 : Int32)), (.ref b1z)])) rfl rfl (hb hby d_jdk_56_method_4_code_18)) ?_
  obtain ⟨_, _, ⟨T6z, L6z, k6z, n6z⟩, -, X6z, ⟨Lc6z, hQ6z, l6z, y6z, z6z⟩, st6z⟩ := Jvm.LawKit.callS X4z hx (y := own_m11) hown (own_mw hZ hw 275 rfl) (own_mw hZ hw 218 rfl) (own_mw hZ hw 219 rfl) (own_mw hZ hw 220 rfl) (by decide) (backOf (W := 2) (own_rnn l Z a0 hw [] x1 h4z O5z) hZ (own_hw hw 220 rfl) (own_hw hw 219 rfl) (by decide) (by decide)) (g := (mkF m 19 #[.val (.ref b), .val (.ref b1z), .val (.int (1 : Int32))] [(.ref x1), (.int (1 : Int32)), (.ref b1z)])) rfl (by rw [hml]; rfl) (argsL := [(.ref x1)]) (rest := [(.int (1 : Int32)), (.ref b1z)]) (lenOf pd_1977252822 rfl) rfl (by show 2 * 0 + _ ≤ _; exact Nat.le_of_eq rfl) (hb hby d_jdk_56_method_4_code_19) (fun _ _ => ⟨rfl, e4z, (by decide : 1 + 0 ≤ _), (by decide : 3 + 0 ≤ _)⟩)
  dsimp only [Pt.U, Pt.locs, Pt.cells, Pt.slots] at X6z l6z y6z z6z st6z hQ6z
  subst l6z y6z z6z
  obtain ⟨rfl, NQ6z, K6zq⟩ := hQ6z
  refine own_go st6z ?_
  have N6z := Fr.app N4z NQ6z
  show own_G p e below (T6z.setTop (mkF m 22 #[.val (.ref b), .val (.ref b1z), .val (.int (1 : Int32))] [(.ref x1), (.int (1 : Int32)), (.ref b1z)])) _
  obtain ⟨T7z, h7z, X7z, e7z, W7z, V7z, st7z⟩ := own_stR X6z hx hZ K6zq V4z rfl (i := 1) (by decide) (Nat.le_of_ble_eq_true rfl) (own_sto O1z_ (Or.inr ⟨_, rfl, (Ins.of_exa ((q2.ext E1z).wr W4z) (own_hw hw 154 rfl))⟩)) rfl (g := (mkF m 22 #[.val (.ref b), .val (.ref b1z), .val (.int (1 : Int32))] [(.ref x1), (.int (1 : Int32)), (.ref b1z)])) rfl rfl (hb hby d_jdk_56_method_4_code_22)
  refine own_go st7z ?_
  have N7z := Fr.snoc X7z N6z fr_b1z
  have O8z := own_ext_wr O5z W7z fr_b1z
  have K8z := K5z.wr W7z (Or.inr lz_b1z)
  have V7z : own_A Z h7z b1z kc1z (.object own_s2) [(.ref x0), (.ref x1), .null] := V7z
  refine own_go (fun t k => XS.iinc X7z.here hx rfl (hb hby d_jdk_56_method_4_code_23) rfl (l' := #[.val (.ref b), .val (.ref b1z), .val (.int (2 : Int32))]) rfl k) ?_
  refine own_go (fun t k => XS.goto X7z.here hx rfl (pc0 := 26) (pc' := 8) rfl (hb hby d_jdk_56_method_4_code_26) (by decide) (by decide) k) ?_
  show own_G p e below (T7z.setTop (mkF m 8 #[.val (.ref b), .val (.ref b1z), .val (.int (2 : Int32))] [])) _
  refine own_go (fun t k => XS.iloadN X7z.here hx rfl (hb hby d_jdk_56_method_4_code_8) rfl k) ?_
  refine own_go (fun t k => XS.aloadN X7z.here hx rfl (hb hby d_jdk_56_method_4_code_9) rfl rfl k) ?_
  refine own_go (own_len X7z hx hZ e7z (((q0.ext E1z).other W4z ne_b_b1z).other W7z ne_b_b1z) (z := (3 : Int32)) (by show (3 : Int32).toInt = ((3 : Nat) : Int); decide) (g := (mkF m 10 #[.val (.ref b), .val (.ref b1z), .val (.int (2 : Int32))] [(.ref b), (.int (2 : Int32))])) rfl rfl (hb hby d_jdk_56_method_4_code_10)) ?_
  refine own_go (fun t k => XS.icmpNo X7z.here hx rfl (hb hby d_jdk_56_method_4_code_11) rfl (tlt (by decide : (2 : Int32) < (3 : Int32))).2.1 k) ?_
  show own_G p e below (T7z.setTop (mkF m 14 #[.val (.ref b), .val (.ref b1z), .val (.int (2 : Int32))] [])) _
  refine own_go (fun t k => XS.aloadN X7z.here hx rfl (hb hby d_jdk_56_method_4_code_14) rfl rfl k) ?_
  refine own_go (fun t k => XS.iloadN X7z.here hx rfl (hb hby d_jdk_56_method_4_code_15) rfl k) ?_
  refine own_go (fun t k => XS.aloadN X7z.here hx rfl (hb hby d_jdk_56_method_4_code_16) rfl rfl k) ?_
  refine own_go (fun t k => XS.iloadN X7z.here hx rfl (hb hby d_jdk_56_method_4_code_17) rfl k) ?_
  refine own_go (own_ldA X7z hx hZ e7z (((q0.ext E1z).other W4z ne_b_b1z).other W7z ne_b_b1z) rfl (i := 2) (v := (.ref x2)) (by decide) rfl (g := (mkF m 18 #[.val (.ref b), .val (.ref b1z), .val (.int (2 : Int32))] [(.int (2 : Int32)), (.ref b), (.int (2 : Int32)), (.ref b1z)])) rfl rfl (hb hby d_jdk_56_method_4_code_18)) ?_
  obtain ⟨_, _, ⟨T9z, L9z, k9z, n9z⟩, -, X9z, ⟨Lc9z, hQ9z, l9z, y9z, z9z⟩, st9z⟩ := Jvm.LawKit.callS X7z hx (y := own_m11) hown (own_mw hZ hw 275 rfl) (own_mw hZ hw 218 rfl) (own_mw hZ hw 219 rfl) (own_mw hZ hw 220 rfl) (by decide) (backOf (W := 2) (own_rnn l Z a0 hw [] x2 h7z O8z) hZ (own_hw hw 220 rfl) (own_hw hw 219 rfl) (by decide) (by decide)) (g := (mkF m 19 #[.val (.ref b), .val (.ref b1z), .val (.int (2 : Int32))] [(.ref x2), (.int (2 : Int32)), (.ref b1z)])) rfl (by rw [hml]; rfl) (argsL := [(.ref x2)]) (rest := [(.int (2 : Int32)), (.ref b1z)]) (lenOf pd_1977252822 rfl) rfl (by show 2 * 0 + _ ≤ _; exact Nat.le_of_eq rfl) (hb hby d_jdk_56_method_4_code_19) (fun _ _ => ⟨rfl, e7z, (by decide : 1 + 0 ≤ _), (by decide : 3 + 0 ≤ _)⟩)
  dsimp only [Pt.U, Pt.locs, Pt.cells, Pt.slots] at X9z l9z y9z z9z st9z hQ9z
  subst l9z y9z z9z
  obtain ⟨rfl, NQ9z, K9zq⟩ := hQ9z
  refine own_go st9z ?_
  have N9z := Fr.app N7z NQ9z
  show own_G p e below (T9z.setTop (mkF m 22 #[.val (.ref b), .val (.ref b1z), .val (.int (2 : Int32))] [(.ref x2), (.int (2 : Int32)), (.ref b1z)])) _
  obtain ⟨T10z, h10z, X10z, e10z, W10z, V10z, st10z⟩ := own_stR X9z hx hZ K9zq V7z rfl (i := 2) (by decide) (Nat.le_of_ble_eq_true rfl) (own_sto O1z_ (Or.inr ⟨_, rfl, (Ins.of_exa (((q3.ext E1z).wr W4z).wr W7z) (own_hw hw 154 rfl))⟩)) rfl (g := (mkF m 22 #[.val (.ref b), .val (.ref b1z), .val (.int (2 : Int32))] [(.ref x2), (.int (2 : Int32)), (.ref b1z)])) rfl rfl (hb hby d_jdk_56_method_4_code_22)
  refine own_go st10z ?_
  have N10z := Fr.snoc X10z N9z fr_b1z
  have O11z := own_ext_wr O8z W10z fr_b1z
  have K11z := K8z.wr W10z (Or.inr lz_b1z)
  have V10z : own_A Z h10z b1z kc1z (.object own_s2) [(.ref x0), (.ref x1), (.ref x2)] := V10z
  refine own_go (fun t k => XS.iinc X10z.here hx rfl (hb hby d_jdk_56_method_4_code_23) rfl (l' := #[.val (.ref b), .val (.ref b1z), .val (.int (3 : Int32))]) rfl k) ?_
  refine own_go (fun t k => XS.goto X10z.here hx rfl (pc0 := 26) (pc' := 8) rfl (hb hby d_jdk_56_method_4_code_26) (by decide) (by decide) k) ?_
  show own_G p e below (T10z.setTop (mkF m 8 #[.val (.ref b), .val (.ref b1z), .val (.int (3 : Int32))] [])) _
  refine own_go (fun t k => XS.iloadN X10z.here hx rfl (hb hby d_jdk_56_method_4_code_8) rfl k) ?_
  refine own_go (fun t k => XS.aloadN X10z.here hx rfl (hb hby d_jdk_56_method_4_code_9) rfl rfl k) ?_
  have f12z := ((((q0.ext E1z).other W4z ne_b_b1z).other W7z ne_b_b1z).other W10z ne_b_b1z)
  refine own_go (own_len X10z hx hZ e10z f12z (z := (3 : Int32)) (by show (3 : Int32).toInt = ((3 : Nat) : Int); decide) (g := (mkF m 10 #[.val (.ref b), .val (.ref b1z), .val (.int (3 : Int32))] [(.ref b), (.int (3 : Int32))])) rfl rfl (hb hby d_jdk_56_method_4_code_10)) ?_
  refine own_go (fun t k => XS.icmpYes X10z.here hx rfl (pc0 := 11) (pc' := 29) rfl (hb hby d_jdk_56_method_4_code_11) rfl (flt (by decide : ¬ ((3 : Int32) < (3 : Int32)))).2.1 (by decide) (by decide) k) ?_
  show own_G p e below (T10z.setTop (mkF m 29 #[.val (.ref b), .val (.ref b1z), .val (.int (3 : Int32))] [])) _
  obtain ⟨T13z, h13z, X13z, e13z, E13z, A13z, D13z, -, st13z⟩ := newO X10z hx hZ hown (own_hw hw 85 rfl) (own_hw hw 276 rfl) (own_hw hw 109 rfl) e10z (g := (mkF m 29 #[.val (.ref b), .val (.ref b1z), .val (.int (3 : Int32))] [])) rfl (hb hby d_jdk_56_method_4_code_29) (by decide) (by decide)
  obtain ⟨b13z, g13z⟩ : ∃ z, z = h10z.size := ⟨_, rfl⟩
  rw [← g13z] at A13z D13z st13z
  have fr_b13z : Z.heap.size ≤ b13z := g13z ▸ O11z.1
  have lz_b13z : h0.size ≤ b13z := g13z ▸ K11z.1
  have ne_b_b13z : b ≠ b13z := Nat.ne_of_lt (g13z ▸ f12z.lt)
  have ne_x0_b13z : x0 ≠ b13z := Nat.ne_of_lt (g13z ▸ ((((q1.ext E1z).wr W4z).wr W7z).wr W10z).lt)
  have ne_x1_b13z : x1 ≠ b13z := Nat.ne_of_lt (g13z ▸ ((((q2.ext E1z).wr W4z).wr W7z).wr W10z).lt)
  have ne_x2_b13z : x2 ≠ b13z := Nat.ne_of_lt (g13z ▸ ((((q3.ext E1z).wr W4z).wr W7z).wr W10z).lt)
  have ne_b1z_b13z : b1z ≠ b13z := Nat.ne_of_lt (g13z ▸ V10z.lt)
  have O14z := own_ext_trans O11z E13z
  have K14z := K11z.ext E13z
  have F13z_elements : Fld Z h13z b13z own_s10 "elements" own_s3 .null := D13z (Or.inr (own_hw hw 112 rfl)) (ty := (.array (.object own_s2))) (by decide)
  have F13z_allowNulls : Fld Z h13z b13z own_s10 "allowNulls" "Z" (.int (0 : Int32)) := D13z (Or.inr (own_hw hw 286 rfl)) (ty := .boolean) (by decide)
  refine own_go st13z ?_
  refine own_go (fun t k => XS.dup X13z.here hx rfl (hb hby d_jdk_56_method_4_code_32) rfl rfl k) ?_
  refine own_go (fun t k => XS.aloadN X13z.here hx rfl (hb hby d_jdk_56_method_4_code_33) rfl rfl k) ?_
  refine own_go (fun t k => XS.iconst X13z.here hx rfl (hb hby d_jdk_56_method_4_code_34) k) ?_
  obtain ⟨_, _, ⟨T15z, L15z, k15z, n15z⟩, -, X15z, ⟨Lc15z, hQ15z, l15z, y15z, z15z⟩, st15z⟩ := X13z.specialBackNest hx (y := own_m20) rfl hown (Cond.methodLinkNest_wide hZ (own_hw hw 277 rfl) :) (own_mw hZ hw 278 rfl) (own_mw hZ hw 280 rfl) (by decide) (backOf (W := 1) (own_lni l Z a0 hw [] b13z b1z h13z O14z A13z fr_b13z F13z_elements F13z_allowNulls) hZ (own_hw hw 280 rfl) (own_hw hw 109 rfl) (by decide) (by decide)) (g := (mkF m 35 #[.val (.ref b), .val (.ref b1z), .val (.int (3 : Int32))] [(.int (0 : Int32)), (.ref b1z), (.ref b13z), (.ref b13z)])) rfl (by rw [hml]; rfl) (Steps.refl _) (a := b13z) (argsL := [(.ref b1z), (.int (0 : Int32))]) (rest := [(.ref b13z)]) (lenOf pd_246131201 rfl) rfl (by show 2 * 0 + _ ≤ _; exact Nat.le_of_eq rfl) (hb hby d_jdk_56_method_4_code_35) (fun _ _ => ⟨rfl, e13z, (by decide : 2 + 0 ≤ _), (by decide : 5 + 0 ≤ _)⟩)
  dsimp only [Pt.U, Pt.locs, Pt.cells, Pt.slots] at X15z l15z y15z z15z st15z hQ15z
  subst l15z y15z z15z
  obtain ⟨rfl, NQ15z, K15zq, r15z_0, r15z_1⟩ := hQ15z
  refine own_tr st15z ?_
  have N15z := Fr.app N10z NQ15z
  have O16z := own_ext_keep O14z K15zq (allS fr_b13z all0)
  have K16z := K14z.trans K15zq (allS (Or.inr lz_b13z) all0)
  show own_G p e below (T15z.setTop (mkF m 38 #[.val (.ref b), .val (.ref b1z), .val (.int (3 : Int32))] [(.ref b13z)])) _
  have f17z := ((V10z.ext E13z).keep K15zq (by simp only [List.mem_cons, List.not_mem_nil, or_false, not_or]; exact ne_b1z_b13z))
  exact own_ret X15z hx Bd.returns rfl (Or.inr (Or.inr (Or.inr (Or.inr ⟨rfl, rfl, rfl⟩)))) (hb hby d_jdk_56_method_4_code_38) hlk (Nat.le_of_ble_eq_true rfl) (Nat.le_of_ble_eq_true rfl) (by show Q_own_lfaF3 Z b kb x0 x1 x2 h0 _ T15z.heap _; exact ⟨b13z, b1z, kc1z, rfl, N15z, K16z, r15z_0, fr_b13z, lz_b13z, r15z_1, f17z, lz_b1z⟩)
theorem ef_own_ofF3 (m : MethodId) (x0 : Addr) : entryFrame m #[(.ref x0)] 2 = mkF m 0 #[.val (.ref x0), .unset] [] := by first | (simp [entryFrame, mkF, argsToLocals, Value.category]; done) | rfl
theorem pf_own_ofF3 : plainFor own_m25 = true := plainFor_of_name (by simp [plainName, overriddenIn])
theorem d_jdk_40_method_47_code_59 : decode jdk_40_method_47_code 59 = .ok (.aload_n 0, 1) := by decide +kernel
theorem d_jdk_40_method_47_code_60 : decode jdk_40_method_47_code 60 = .ok (.invokestatic 109, 3) := by decide +kernel
theorem d_jdk_40_method_47_code_63 : decode jdk_40_method_47_code 63 = .ok (.areturn, 1) := by decide +kernel
def Q_own_ofF3 (Z : State) (b : Addr) (kb : ClassId) (eM : Addr) (x0 : Addr) (x1 : Addr) (x2 : Addr) (h0 : Heap) (v : Option Value) (h : Heap) (L : List Loc) : Prop := ∃ r : Addr, ∃ er : Addr, ∃ ke : ClassId, v = some (.ref r) ∧ Fr Z.heap.size L ∧ Keep h0 h [] ∧ (Exa Z h r own_s10) ∧ (Z.heap.size ≤ r) ∧ (h0.size ≤ r) ∧ (Fld Z h r own_s10 "elements" own_s3 (.ref er)) ∧ (own_A Z h er ke (.object own_s2) [(.ref x0), (.ref x1), (.ref x2)]) ∧ (h0.size ≤ er)
set_option maxRecDepth 65536 in
set_option maxHeartbeats 40000000 in
theorem own_ofF3 (l : Launch) (Z : State) (a0 : Array Value) (hw : ∀ d ∈ tables_1, d.before a0 Z = true) (ws : List Jvm.Cond) (b : Addr) (kb : ClassId) (eM : Addr) (x0 : Addr) (x1 : Addr) (x2 : Addr) (h0 : Heap) (O0 : Ext Z.heap h0) (S_EM : Sta Z Z.heap own_s12 "EMPTY" own_s13 (.ref eM)) (q1 : own_A Z h0 b kb (.object own_s2) [(.ref x0), (.ref x1), (.ref x2)]) (q2 : Exa Z h0 x0 own_s0) (q3 : Exa Z h0 x1 own_s0) (q4 : Exa Z h0 x2 own_s0) :
    MetFree l own_m25 (head1 (Jvm.Cond.code own_m25 jdk_40_method_47_code 2 (some (.object own_s15)) :: ws) ({ frames := 6, cells := 2, slots := 5, locals := 84 } : Room)) (fun aa U => aa = #[(.ref b)] ∧ Z.Warmed39 U.vm ∧ U.heap = h0) (fun _ _ _ _ _ => True) (fun _ U o U' => ∃ v L, o = .returned v ∧ Q_own_ofF3 Z b kb eM x0 x1 x2 h0 v U'.heap L ∧ FrameEnd U o U' L ({ frames := 6, cells := 2, slots := 5, locals := 84 } : Room).cells ({ frames := 6, cells := 2, slots := 5, locals := 84 } : Room).slots) := by
  refine MetFree.of_bodySF pf_own_ofF3 hisR ?_
  intro p e s m args below meth c s₁ Bd hml0 hP hK
  obtain ⟨rfl, hZ, hh⟩ := hP
  have hx := Bd.exec
  have hby := Bd.bytes
  have hlk := BodyLoose.notSynchronized Bd
  have hml : c.maxLocals = 2 := hml0
  have hown : s.vm.findClass own_s15 = some m.cls := findClass_of_methodNamed Bd.named
  have hnm := (name_of_methodNamed Bd.named Bd.method).1
  have X0 : Stand p l e ({ frames := 6, cells := 2, slots := 5, locals := 84 } : Room) s m #[(.ref b)] below meth c s₁ [] 0 0 := Stand.of_body Bd
  have e0 : s₁.heap = h0 := by rw [← hh, Bd.state]; rfl
  have N0 := Fr.nil Z.heap.size
  have K0 : Keep h0 h0 [] := Keep.refl _ _
  refine own_start (Q := Q_own_ofF3 Z b kb eM x0 x1 x2 h0) (ef_own_ofF3 m (b)) ?_
  show own_G p e below (s₁.setTop (mkF m 0 #[.val (.ref b), .unset] [])) _
  refine own_go (fun t k => XS.aloadN X0.here hx rfl (hb hby d_jdk_40_method_47_code_0) rfl rfl k) ?_
  refine own_go (own_len X0 hx hZ e0 q1 (z := (3 : Int32)) (by show (3 : Int32).toInt = ((3 : Nat) : Int); decide) (g := (mkF m 1 #[.val (.ref b), .unset] [(.ref b)])) rfl rfl (hb hby d_jdk_40_method_47_code_1)) ?_
  refine own_go (fun t k => XS.tswOut X0.here hx rfl (pc0 := 2) (pc' := 59) rfl (hb hby d_jdk_40_method_47_code_2) rfl (by decide) (by decide) (by decide) k) ?_
  show own_G p e below (s₁.setTop (mkF m 59 #[.val (.ref b), .unset] [])) _
  refine own_go (fun t k => XS.aloadN X0.here hx rfl (hb hby d_jdk_40_method_47_code_59) rfl rfl k) ?_
  obtain ⟨_, _, ⟨T1z, L1z, k1z, n1z⟩, -, X1z, ⟨Lc1z, hQ1z, l1z, y1z, z1z⟩, st1z⟩ := Jvm.LawKit.callS X0 hx (y := own_m30) hown (own_mw hZ hw 271 rfl) (own_mw hZ hw 272 rfl) (own_mw hZ hw 78 rfl) (own_mw hZ hw 273 rfl) (by decide) (backOf (W := 0) (own_lfaF3 l Z a0 hw [] b kb x0 x1 x2 h0 O0 q1 q2 q3 q4) hZ (own_hw hw 273 rfl) (own_hw hw 78 rfl) (by decide) (by decide)) (g := (mkF m 60 #[.val (.ref b), .unset] [(.ref b)])) rfl (by rw [hml]; rfl) (argsL := [(.ref b)]) (rest := []) (lenOf pd_3349133522 rfl) rfl (by show 2 * 0 + _ ≤ _; exact Nat.le_of_eq rfl) (hb hby d_jdk_40_method_47_code_60) (fun _ _ => ⟨rfl, e0, (by decide : 0 + 2 ≤ _), (by decide : 0 + 5 ≤ _)⟩)
  dsimp only [Pt.U, Pt.locs, Pt.cells, Pt.slots] at X1z l1z y1z z1z st1z hQ1z
  subst l1z y1z z1z
  obtain ⟨r_1z, er_1z, ke_1z, rfl, NQ1z, K1zq, r1z_0, r1z_1, r1z_2, r1z_3, r1z_4, r1z_5⟩ := hQ1z
  refine own_go st1z ?_
  have N1z := Fr.app N0 NQ1z
  have O2z := own_ext_keep O0 K1zq all0
  have K2z := K0.trans K1zq all0
  have lz_r_1z : h0.size ≤ r_1z := Nat.le_trans K0.1 r1z_2
  have ne_b_r_1z : b ≠ r_1z := Nat.ne_of_lt (Nat.lt_of_lt_of_le q1.lt r1z_2)
  have ne_x0_r_1z : x0 ≠ r_1z := Nat.ne_of_lt (Nat.lt_of_lt_of_le q2.lt r1z_2)
  have ne_x1_r_1z : x1 ≠ r_1z := Nat.ne_of_lt (Nat.lt_of_lt_of_le q3.lt r1z_2)
  have ne_x2_r_1z : x2 ≠ r_1z := Nat.ne_of_lt (Nat.lt_of_lt_of_le q4.lt r1z_2)
  have lz_er_1z : h0.size ≤ er_1z := Nat.le_trans K0.1 r1z_5
  have ne_b_er_1z : b ≠ er_1z := Nat.ne_of_lt (Nat.lt_of_lt_of_le q1.lt r1z_5)
  have ne_x0_er_1z : x0 ≠ er_1z := Nat.ne_of_lt (Nat.lt_of_lt_of_le q2.lt r1z_5)
  have ne_x1_er_1z : x1 ≠ er_1z := Nat.ne_of_lt (Nat.lt_of_lt_of_le q3.lt r1z_5)
  have ne_x2_er_1z : x2 ≠ er_1z := Nat.ne_of_lt (Nat.lt_of_lt_of_le q4.lt r1z_5)
  show own_G p e below (T1z.setTop (mkF m 63 #[.val (.ref b), .unset] [(.ref r_1z)])) _
  exact own_ret X1z hx Bd.returns rfl (Or.inr (Or.inr (Or.inr (Or.inr ⟨rfl, rfl, rfl⟩)))) (hb hby d_jdk_40_method_47_code_63) hlk (Nat.le_of_ble_eq_true rfl) (Nat.le_of_ble_eq_true rfl) (by show Q_own_ofF3 Z b kb eM x0 x1 x2 h0 _ T1z.heap _; exact ⟨r_1z, er_1z, ke_1z, rfl, N1z, K2z, r1z_0, r1z_1, lz_r_1z, r1z_3, r1z_4, lz_er_1z⟩)
theorem ef_own_lcpF3 (m : MethodId) (x0 : Addr) : entryFrame m #[(.ref x0)] 2 = mkF m 0 #[.val (.ref x0), .unset] [] := by first | (simp [entryFrame, mkF, argsToLocals, Value.category]; done) | rfl
theorem pf_own_lcpF3 : plainFor own_m26 = true := plainFor_of_name (by simp [plainName, overriddenIn])
def Q_own_lcpF3 (Z : State) (a : Addr) (arr : Addr) (kk : ClassId) (mi : Addr) (eM : Addr) (x0 : Addr) (x1 : Addr) (x2 : Addr) (h0 : Heap) (v : Option Value) (h : Heap) (L : List Loc) : Prop := ∃ r : Addr, ∃ er : Addr, ∃ ke : ClassId, v = some (.ref r) ∧ Fr Z.heap.size L ∧ Keep h0 h [] ∧ (Exa Z h r own_s10) ∧ (Z.heap.size ≤ r) ∧ (h0.size ≤ r) ∧ (Fld Z h r own_s10 "elements" own_s3 (.ref er)) ∧ (own_A Z h er ke (.object own_s2) [(.ref x0), (.ref x1), (.ref x2)]) ∧ (h0.size ≤ er)
set_option maxRecDepth 65536 in
set_option maxHeartbeats 40000000 in
theorem own_lcpF3 (l : Launch) (Z : State) (a0 : Array Value) (hw : ∀ d ∈ tables_1, d.before a0 Z = true) (ws : List Jvm.Cond) (a : Addr) (arr : Addr) (kk : ClassId) (mi : Addr) (eM : Addr) (x0 : Addr) (x1 : Addr) (x2 : Addr) (h0 : Heap) (O0 : Ext Z.heap h0) (MI : Mir Z own_s3 mi) (S_EM : Sta Z Z.heap own_s12 "EMPTY" own_s13 (.ref eM)) (q2 : Exa Z h0 a own_s1) (q3 : own_A Z h0 arr kk (.object own_s2) [(.ref x0), (.ref x1), (.ref x2), .null, .null, .null, .null, .null, .null, .null]) (q4 : Exa Z h0 arr own_s3) (q5 : Fld Z h0 a own_s1 "elementData" own_s3 (.ref arr)) (q6 : Fld Z h0 a own_s1 "size" "I" (.int (3 : Int32))) (q7 : Exa Z h0 x0 own_s0) (q8 : Exa Z h0 x1 own_s0) (q9 : Exa Z h0 x2 own_s0) :
    MetFree l own_m26 (head1 (Jvm.Cond.code own_m26 jdk_56_method_3_code 2 (some (.object own_s15)) :: ws) ({ frames := 7, cells := 3, slots := 8, locals := 100 } : Room)) (fun aa U => aa = #[(.ref a)] ∧ Z.Warmed39 U.vm ∧ U.heap = h0) (fun _ _ _ _ _ => True) (fun _ U o U' => ∃ v L, o = .returned v ∧ Q_own_lcpF3 Z a arr kk mi eM x0 x1 x2 h0 v U'.heap L ∧ FrameEnd U o U' L ({ frames := 7, cells := 3, slots := 8, locals := 100 } : Room).cells ({ frames := 7, cells := 3, slots := 8, locals := 100 } : Room).slots) := by
  refine MetFree.of_bodySF pf_own_lcpF3 hisR ?_
  intro p e s m args below meth c s₁ Bd hml0 hP hK
  obtain ⟨rfl, hZ, hh⟩ := hP
  have hx := Bd.exec
  have hby := Bd.bytes
  have hlk := BodyLoose.notSynchronized Bd
  have hml : c.maxLocals = 2 := hml0
  have hown : s.vm.findClass own_s12 = some m.cls := findClass_of_methodNamed Bd.named
  have hnm := (name_of_methodNamed Bd.named Bd.method).1
  have X0 : Stand p l e ({ frames := 7, cells := 3, slots := 8, locals := 100 } : Room) s m #[(.ref a)] below meth c s₁ [] 0 0 := Stand.of_body Bd
  have e0 : s₁.heap = h0 := by rw [← hh, Bd.state]; rfl
  have N0 := Fr.nil Z.heap.size
  have K0 : Keep h0 h0 [] := Keep.refl _ _
  refine own_start (Q := Q_own_lcpF3 Z a arr kk mi eM x0 x1 x2 h0) (ef_own_lcpF3 m (a)) ?_
  show own_G p e below (s₁.setTop (mkF m 0 #[.val (.ref a), .unset] [])) _
  refine own_go (fun t k => XS.aloadN X0.here hx rfl (hb hby d_jdk_56_method_3_code_0) rfl rfl k) ?_
  obtain ⟨T1z, X1z, e1z, st1z⟩ := instNo X0 hx hZ hown (own_hw hw 80 rfl) e0 q2 (own_NSno (own_hw hw 81 rfl) (own_hw hw 197 rfl) (NS.step (own_hw hw 81 rfl) (NS.step (own_hw hw 82 rfl) (NS.step (own_hw hw 83 rfl) (own_NSroot (own_hw hw 84 rfl) (own_hw hw 197 rfl) (by decide)) (by decide)) (by decide)) (by decide)) (by decide)) (g := (mkF m 1 #[.val (.ref a), .unset] [(.ref a)])) rfl rfl (hb hby d_jdk_56_method_3_code_1)
  refine own_go st1z ?_
  refine own_go (fun t k => XS.ifNo X1z.here hx rfl (hb hby d_jdk_56_method_3_code_4) rfl ((if0 _ _).trans (teq (by decide : (0 : Int32) = (0 : Int32))).2) k) ?_
  show own_G p e below (T1z.setTop (mkF m 7 #[.val (.ref a), .unset] [])) _
  refine own_go (fun t k => XS.aloadN X1z.here hx rfl (hb hby d_jdk_56_method_3_code_7) rfl rfl k) ?_
  obtain ⟨T2z, X2z, e2z, st2z⟩ := instNo X1z hx hZ hown (own_hw hw 85 rfl) e1z q2 (own_NSno (own_hw hw 81 rfl) (own_hw hw 276 rfl) (NS.step (own_hw hw 81 rfl) (NS.step (own_hw hw 82 rfl) (NS.step (own_hw hw 83 rfl) (own_NSroot (own_hw hw 84 rfl) (own_hw hw 276 rfl) (by decide)) (by decide)) (by decide)) (by decide)) (by decide)) (g := (mkF m 8 #[.val (.ref a), .unset] [(.ref a)])) rfl rfl (hb hby d_jdk_56_method_3_code_8)
  refine own_go st2z ?_
  refine own_go (fun t k => XS.ifYes X2z.here hx rfl (pc0 := 11) (pc' := 31) rfl (hb hby d_jdk_56_method_3_code_11) rfl ((if0 _ _).trans (teq (by decide : (0 : Int32) = (0 : Int32))).1) (by decide) (by decide) k) ?_
  show own_G p e below (T2z.setTop (mkF m 31 #[.val (.ref a), .unset] [])) _
  refine own_go (fun t k => XS.aloadN X2z.here hx rfl (hb hby d_jdk_56_method_3_code_31) rfl rfl k) ?_
  obtain ⟨cq3z, kq3z, qa3z, qb3z, qc3z⟩ := isOf hZ e2z q2
  obtain ⟨_, _, ⟨T3z, L3z, k3z, n3z⟩, -, X3z, ⟨Lc3z, hQ3z, l3z, y3z, z3z⟩, st3z⟩ := X2z.interfaceBack hx (xi := own_m27) (y := own_m17) hown (own_mw hZ hw 86 rfl) (own_mw hZ hw 87 rfl) (own_mw hZ hw 88 rfl) (own_mw hZ hw 89 rfl) (own_mw hZ hw 90 rfl) (own_mw hZ hw 91 rfl) (own_mw hZ hw 92 rfl) (own_mw hZ hw 93 rfl) (by decide) (backOf (W := 0) (own_ise3 l Z a0 hw [] a h0 O0 q6) hZ (own_hw hw 94 rfl) (own_hw hw 6 rfl) (by decide) (by decide)) qa3z qb3z qc3z (g := (mkF m 32 #[.val (.ref a), .unset] [(.ref a)])) rfl (by rw [hml]; rfl) (Steps.refl _) (argsL := []) (rest := []) (lenOf pd_193422000 rfl) rfl (by show 2 * 0 + _ ≤ _; exact Nat.le_of_eq rfl) (hb hby d_jdk_56_method_3_code_32) (fun _ _ => ⟨rfl, e2z, (by decide : 0 + 0 ≤ _), (by decide : 0 + 0 ≤ _)⟩)
  dsimp only [Pt.U, Pt.locs, Pt.cells, Pt.slots] at X3z l3z y3z z3z st3z hQ3z
  subst l3z y3z z3z
  obtain ⟨rfl, NQ3z, K3zq⟩ := hQ3z
  refine own_tr st3z ?_
  have N3z := Fr.app N0 NQ3z
  show own_G p e below (T3z.setTop (mkF m 37 #[.val (.ref a), .unset] [(.int (0 : Int32))])) _
  refine own_go (fun t k => XS.ifYes X3z.here hx rfl (pc0 := 37) (pc' := 44) rfl (hb hby d_jdk_56_method_3_code_37) rfl ((if0 _ _).trans (teq (by decide : (0 : Int32) = (0 : Int32))).1) (by decide) (by decide) k) ?_
  show own_G p e below (T3z.setTop (mkF m 44 #[.val (.ref a), .unset] [])) _
  refine own_go (fun t k => XS.aloadN X3z.here hx rfl (hb hby d_jdk_56_method_3_code_44) rfl rfl k) ?_
  obtain ⟨cq4z, kq4z, qa4z, qb4z, qc4z⟩ := isOf hZ K3zq q2
  obtain ⟨_, _, ⟨T4z, L4z, k4z, n4z⟩, -, X4z, ⟨Lc4z, hQ4z, l4z, y4z, z4z⟩, st4z⟩ := X3z.interfaceBack hx (xi := own_m28) (y := own_m24) hown (own_mw hZ hw 163 rfl) (own_mw hZ hw 164 rfl) (own_mw hZ hw 165 rfl) (own_mw hZ hw 166 rfl) (own_mw hZ hw 167 rfl) (own_mw hZ hw 168 rfl) (own_mw hZ hw 169 rfl) (own_mw hZ hw 93 rfl) (by decide) (backOf (W := 0) (own_taF3 l Z a0 hw [] a arr kk mi x0 x1 x2 h0 O0 MI q3 q4 q5 q6 q7 q8 q9) hZ (own_hw hw 170 rfl) (own_hw hw 6 rfl) (by decide) (by decide)) qa4z qb4z qc4z (g := (mkF m 45 #[.val (.ref a), .unset] [(.ref a)])) rfl (by rw [hml]; rfl) (Steps.refl _) (argsL := []) (rest := []) (lenOf pd_3591787953 rfl) rfl (by show 2 * 0 + _ ≤ _; exact Nat.le_of_eq rfl) (hb hby d_jdk_56_method_3_code_45) (fun _ _ => ⟨rfl, K3zq, (by decide : 0 + 1 ≤ _), (by decide : 0 + 3 ≤ _)⟩)
  dsimp only [Pt.U, Pt.locs, Pt.cells, Pt.slots] at X4z l4z y4z z4z st4z hQ4z
  subst l4z y4z z4z
  obtain ⟨r_4z, kr_4z, rfl, NQ4z, K4zq, r4z_0, r4z_1, r4z_2⟩ := hQ4z
  refine own_tr st4z ?_
  have N4z := Fr.app N3z NQ4z
  have O5z := own_ext_keep O0 K4zq all0
  have K5z := K0.trans K4zq all0
  have lz_r_4z : h0.size ≤ r_4z := Nat.le_trans K0.1 r4z_1
  have ne_a_r_4z : a ≠ r_4z := Nat.ne_of_lt (Nat.lt_of_lt_of_le q2.lt r4z_1)
  have ne_arr_r_4z : arr ≠ r_4z := Nat.ne_of_lt (Nat.lt_of_lt_of_le q3.lt r4z_1)
  have ne_x0_r_4z : x0 ≠ r_4z := Nat.ne_of_lt (Nat.lt_of_lt_of_le q7.lt r4z_1)
  have ne_x1_r_4z : x1 ≠ r_4z := Nat.ne_of_lt (Nat.lt_of_lt_of_le q8.lt r4z_1)
  have ne_x2_r_4z : x2 ≠ r_4z := Nat.ne_of_lt (Nat.lt_of_lt_of_le q9.lt r4z_1)
  show own_G p e below (T4z.setTop (mkF m 50 #[.val (.ref a), .unset] [(.ref r_4z)])) _
  obtain ⟨_, _, ⟨T6z, L6z, k6z, n6z⟩, -, X6z, ⟨Lc6z, hQ6z, l6z, y6z, z6z⟩, st6z⟩ := Jvm.LawKit.callS X4z hx (y := own_m25) hown (own_mw hZ hw 193 rfl) (own_mw hZ hw 194 rfl) (own_mw hZ hw 74 rfl) (own_mw hZ hw 195 rfl) (by decide) (backOf (W := 0) (own_ofF3 l Z a0 hw [] r_4z kr_4z eM x0 x1 x2 T4z.heap O5z S_EM r4z_2 (q7.keep K4zq) (q8.keep K4zq) (q9.keep K4zq)) hZ (own_hw hw 195 rfl) (own_hw hw 74 rfl) (by decide) (by decide)) (g := (mkF m 50 #[.val (.ref a), .unset] [(.ref r_4z)])) rfl (by rw [hml]; rfl) (argsL := [(.ref r_4z)]) (rest := []) (lenOf pd_3349133522 rfl) rfl (by show 2 * 0 + _ ≤ _; exact Nat.le_of_eq rfl) (hb hby d_jdk_56_method_3_code_50) (fun _ _ => ⟨rfl, rfl, (by decide : 1 + 2 ≤ _), (by decide : 3 + 5 ≤ _)⟩)
  dsimp only [Pt.U, Pt.locs, Pt.cells, Pt.slots] at X6z l6z y6z z6z st6z hQ6z
  subst l6z y6z z6z
  obtain ⟨r_6z, er_6z, ke_6z, rfl, NQ6z, K6zq, r6z_0, r6z_1, r6z_2, r6z_3, r6z_4, r6z_5⟩ := hQ6z
  refine own_go st6z ?_
  have N6z := Fr.app N4z NQ6z
  have O7z := own_ext_keep O5z K6zq all0
  have K7z := K5z.trans K6zq all0
  have lz_r_6z : h0.size ≤ r_6z := Nat.le_trans K5z.1 r6z_2
  have ne_a_r_6z : a ≠ r_6z := Nat.ne_of_lt (Nat.lt_of_lt_of_le (q2.keep K4zq).lt r6z_2)
  have ne_arr_r_6z : arr ≠ r_6z := Nat.ne_of_lt (Nat.lt_of_lt_of_le (q3.keep K4zq (by simp)).lt r6z_2)
  have ne_x0_r_6z : x0 ≠ r_6z := Nat.ne_of_lt (Nat.lt_of_lt_of_le (q7.keep K4zq).lt r6z_2)
  have ne_x1_r_6z : x1 ≠ r_6z := Nat.ne_of_lt (Nat.lt_of_lt_of_le (q8.keep K4zq).lt r6z_2)
  have ne_x2_r_6z : x2 ≠ r_6z := Nat.ne_of_lt (Nat.lt_of_lt_of_le (q9.keep K4zq).lt r6z_2)
  have ne_r_4z_r_6z : r_4z ≠ r_6z := Nat.ne_of_lt (Nat.lt_of_lt_of_le r4z_2.lt r6z_2)
  have lz_er_6z : h0.size ≤ er_6z := Nat.le_trans K5z.1 r6z_5
  have ne_a_er_6z : a ≠ er_6z := Nat.ne_of_lt (Nat.lt_of_lt_of_le (q2.keep K4zq).lt r6z_5)
  have ne_arr_er_6z : arr ≠ er_6z := Nat.ne_of_lt (Nat.lt_of_lt_of_le (q3.keep K4zq (by simp)).lt r6z_5)
  have ne_x0_er_6z : x0 ≠ er_6z := Nat.ne_of_lt (Nat.lt_of_lt_of_le (q7.keep K4zq).lt r6z_5)
  have ne_x1_er_6z : x1 ≠ er_6z := Nat.ne_of_lt (Nat.lt_of_lt_of_le (q8.keep K4zq).lt r6z_5)
  have ne_x2_er_6z : x2 ≠ er_6z := Nat.ne_of_lt (Nat.lt_of_lt_of_le (q9.keep K4zq).lt r6z_5)
  have ne_r_4z_er_6z : r_4z ≠ er_6z := Nat.ne_of_lt (Nat.lt_of_lt_of_le r4z_2.lt r6z_5)
  show own_G p e below (T6z.setTop (mkF m 53 #[.val (.ref a), .unset] [(.ref r_6z)])) _
  exact own_ret X6z hx Bd.returns rfl (Or.inr (Or.inr (Or.inr (Or.inr ⟨rfl, rfl, rfl⟩)))) (hb hby d_jdk_56_method_3_code_53) hlk (Nat.le_of_ble_eq_true rfl) (Nat.le_of_ble_eq_true rfl) (by show Q_own_lcpF3 Z a arr kk mi eM x0 x1 x2 h0 _ T6z.heap _; exact ⟨r_6z, er_6z, ke_6z, rfl, N6z, K7z, r6z_0, r6z_1, lz_r_6z, r6z_3, r6z_4, lz_er_6z⟩)
theorem ef_own_cpoF3 (m : MethodId) (x0 : Addr) : entryFrame m #[(.ref x0)] 1 = mkF m 0 #[.val (.ref x0)] [] := by first | (simp [entryFrame, mkF, argsToLocals, Value.category]; done) | rfl
theorem pf_own_cpoF3 : plainFor own_m29 = true := plainFor_of_name (by simp [plainName, overriddenIn])
def Q_own_cpoF3 (Z : State) (a : Addr) (arr : Addr) (kk : ClassId) (mi : Addr) (eM : Addr) (x0 : Addr) (x1 : Addr) (x2 : Addr) (h0 : Heap) (v : Option Value) (h : Heap) (L : List Loc) : Prop := ∃ r : Addr, ∃ er : Addr, ∃ ke : ClassId, v = some (.ref r) ∧ Fr Z.heap.size L ∧ Keep h0 h [] ∧ (Exa Z h r own_s10) ∧ (Z.heap.size ≤ r) ∧ (h0.size ≤ r) ∧ (Fld Z h r own_s10 "elements" own_s3 (.ref er)) ∧ (own_A Z h er ke (.object own_s2) [(.ref x0), (.ref x1), (.ref x2)]) ∧ (h0.size ≤ er)
set_option maxRecDepth 65536 in
set_option maxHeartbeats 40000000 in
theorem own_cpoF3 (l : Launch) (Z : State) (a0 : Array Value) (hw : ∀ d ∈ tables_1, d.before a0 Z = true) (ws : List Jvm.Cond) (a : Addr) (arr : Addr) (kk : ClassId) (mi : Addr) (eM : Addr) (x0 : Addr) (x1 : Addr) (x2 : Addr) (h0 : Heap) (O0 : Ext Z.heap h0) (MI : Mir Z own_s3 mi) (S_EM : Sta Z Z.heap own_s12 "EMPTY" own_s13 (.ref eM)) (q2 : Exa Z h0 a own_s1) (q3 : own_A Z h0 arr kk (.object own_s2) [(.ref x0), (.ref x1), (.ref x2), .null, .null, .null, .null, .null, .null, .null]) (q4 : Exa Z h0 arr own_s3) (q5 : Fld Z h0 a own_s1 "elementData" own_s3 (.ref arr)) (q6 : Fld Z h0 a own_s1 "size" "I" (.int (3 : Int32))) (q7 : Exa Z h0 x0 own_s0) (q8 : Exa Z h0 x1 own_s0) (q9 : Exa Z h0 x2 own_s0) :
    MetFree l own_m29 (head1 (Jvm.Cond.code own_m29 jdk_40_method_48_code 1 (some (.object own_s15)) :: ws) ({ frames := 8, cells := 3, slots := 8, locals := 120 } : Room)) (fun aa U => aa = #[(.ref a)] ∧ Z.Warmed39 U.vm ∧ U.heap = h0) (fun _ _ _ _ _ => True) (fun _ U o U' => ∃ v L, o = .returned v ∧ Q_own_cpoF3 Z a arr kk mi eM x0 x1 x2 h0 v U'.heap L ∧ FrameEnd U o U' L ({ frames := 8, cells := 3, slots := 8, locals := 120 } : Room).cells ({ frames := 8, cells := 3, slots := 8, locals := 120 } : Room).slots) := by
  refine MetFree.of_bodySF pf_own_cpoF3 hisR ?_
  intro p e s m args below meth c s₁ Bd hml0 hP hK
  obtain ⟨rfl, hZ, hh⟩ := hP
  have hx := Bd.exec
  have hby := Bd.bytes
  have hlk := BodyLoose.notSynchronized Bd
  have hml : c.maxLocals = 1 := hml0
  have hown : s.vm.findClass own_s15 = some m.cls := findClass_of_methodNamed Bd.named
  have hnm := (name_of_methodNamed Bd.named Bd.method).1
  have X0 : Stand p l e ({ frames := 8, cells := 3, slots := 8, locals := 120 } : Room) s m #[(.ref a)] below meth c s₁ [] 0 0 := Stand.of_body Bd
  have e0 : s₁.heap = h0 := by rw [← hh, Bd.state]; rfl
  have N0 := Fr.nil Z.heap.size
  have K0 : Keep h0 h0 [] := Keep.refl _ _
  refine own_start (Q := Q_own_cpoF3 Z a arr kk mi eM x0 x1 x2 h0) (ef_own_cpoF3 m (a)) ?_
  show own_G p e below (s₁.setTop (mkF m 0 #[.val (.ref a)] [])) _
  refine own_go (fun t k => XS.aloadN X0.here hx rfl (hb hby d_jdk_40_method_48_code_0) rfl rfl k) ?_
  obtain ⟨_, _, ⟨T1z, L1z, k1z, n1z⟩, -, X1z, ⟨Lc1z, hQ1z, l1z, y1z, z1z⟩, st1z⟩ := Jvm.LawKit.callS X0 hx (y := own_m26) hown (own_mw hZ hw 76 rfl) (own_mw hZ hw 77 rfl) (own_mw hZ hw 78 rfl) (own_mw hZ hw 79 rfl) (by decide) (backOf (W := 0) (own_lcpF3 l Z a0 hw [] a arr kk mi eM x0 x1 x2 h0 O0 MI S_EM q2 q3 q4 q5 q6 q7 q8 q9) hZ (own_hw hw 79 rfl) (own_hw hw 78 rfl) (by decide) (by decide)) (g := (mkF m 1 #[.val (.ref a)] [(.ref a)])) rfl (by rw [hml]; rfl) (argsL := [(.ref a)]) (rest := []) (lenOf pd_548093608 rfl) rfl (by show 2 * 0 + _ ≤ _; exact Nat.le_of_eq rfl) (hb hby d_jdk_40_method_48_code_1) (fun _ _ => ⟨rfl, e0, (by decide : 0 + 3 ≤ _), (by decide : 0 + 8 ≤ _)⟩)
  dsimp only [Pt.U, Pt.locs, Pt.cells, Pt.slots] at X1z l1z y1z z1z st1z hQ1z
  subst l1z y1z z1z
  obtain ⟨r_1z, er_1z, ke_1z, rfl, NQ1z, K1zq, r1z_0, r1z_1, r1z_2, r1z_3, r1z_4, r1z_5⟩ := hQ1z
  refine own_go st1z ?_
  have N1z := Fr.app N0 NQ1z
  have O2z := own_ext_keep O0 K1zq all0
  have K2z := K0.trans K1zq all0
  have lz_r_1z : h0.size ≤ r_1z := Nat.le_trans K0.1 r1z_2
  have ne_a_r_1z : a ≠ r_1z := Nat.ne_of_lt (Nat.lt_of_lt_of_le q2.lt r1z_2)
  have ne_arr_r_1z : arr ≠ r_1z := Nat.ne_of_lt (Nat.lt_of_lt_of_le q3.lt r1z_2)
  have ne_x0_r_1z : x0 ≠ r_1z := Nat.ne_of_lt (Nat.lt_of_lt_of_le q7.lt r1z_2)
  have ne_x1_r_1z : x1 ≠ r_1z := Nat.ne_of_lt (Nat.lt_of_lt_of_le q8.lt r1z_2)
  have ne_x2_r_1z : x2 ≠ r_1z := Nat.ne_of_lt (Nat.lt_of_lt_of_le q9.lt r1z_2)
  have lz_er_1z : h0.size ≤ er_1z := Nat.le_trans K0.1 r1z_5
  have ne_a_er_1z : a ≠ er_1z := Nat.ne_of_lt (Nat.lt_of_lt_of_le q2.lt r1z_5)
  have ne_arr_er_1z : arr ≠ er_1z := Nat.ne_of_lt (Nat.lt_of_lt_of_le q3.lt r1z_5)
  have ne_x0_er_1z : x0 ≠ er_1z := Nat.ne_of_lt (Nat.lt_of_lt_of_le q7.lt r1z_5)
  have ne_x1_er_1z : x1 ≠ er_1z := Nat.ne_of_lt (Nat.lt_of_lt_of_le q8.lt r1z_5)
  have ne_x2_er_1z : x2 ≠ er_1z := Nat.ne_of_lt (Nat.lt_of_lt_of_le q9.lt r1z_5)
  show own_G p e below (T1z.setTop (mkF m 4 #[.val (.ref a)] [(.ref r_1z)])) _
  exact own_ret X1z hx Bd.returns rfl (Or.inr (Or.inr (Or.inr (Or.inr ⟨rfl, rfl, rfl⟩)))) (hb hby d_jdk_40_method_48_code_4) hlk (Nat.le_of_ble_eq_true rfl) (Nat.le_of_ble_eq_true rfl) (by show Q_own_cpoF3 Z a arr kk mi eM x0 x1 x2 h0 _ T1z.heap _; exact ⟨r_1z, er_1z, ke_1z, rfl, N1z, K2z, r1z_0, r1z_1, lz_r_1z, r1z_3, r1z_4, lz_er_1z⟩)
theorem ef_own_of0 (m : MethodId) : entryFrame m #[] 0 = mkF m 0 #[] [] := by first | (simp [entryFrame, mkF, argsToLocals, Value.category]; done) | rfl
theorem pf_own_of0 : plainFor own_m31 = true := plainFor_of_name (by simp [plainName, overriddenIn])
theorem d_jdk_40_method_36_code_0 : decode jdk_40_method_36_code 0 = .ok (.getstatic 90, 3) := by decide +kernel
theorem d_jdk_40_method_36_code_3 : decode jdk_40_method_36_code 3 = .ok (.areturn, 1) := by decide +kernel
def Q_own_of0 (Z : State) (eL : Addr) (h0 : Heap) (v : Option Value) (h : Heap) (L : List Loc) : Prop := v = some (.ref eL) ∧ Fr Z.heap.size L ∧ h = h0
set_option maxRecDepth 65536 in
set_option maxHeartbeats 40000000 in
theorem own_of0 (l : Launch) (Z : State) (a0 : Array Value) (hw : ∀ d ∈ tables_1, d.before a0 Z = true) (ws : List Jvm.Cond) (eL : Addr) (h0 : Heap) (O0 : Ext Z.heap h0) (S_EL : Sta Z Z.heap own_s12 "EMPTY_LIST" own_s22 (.ref eL)) :
    MetFree l own_m31 (head1 (Jvm.Cond.code own_m31 jdk_40_method_36_code 0 (some (.object own_s15)) :: ws) ({ frames := 0, cells := 0, slots := 0, locals := 0 } : Room)) (fun aa U => aa = #[] ∧ Z.Warmed39 U.vm ∧ U.heap = h0) (fun _ _ _ _ _ => True) (fun _ U o U' => ∃ v L, o = .returned v ∧ Q_own_of0 Z eL h0 v U'.heap L ∧ FrameEnd U o U' L ({ frames := 0, cells := 0, slots := 0, locals := 0 } : Room).cells ({ frames := 0, cells := 0, slots := 0, locals := 0 } : Room).slots) := by
  refine MetFree.of_bodySF pf_own_of0 hisR ?_
  intro p e s m args below meth c s₁ Bd hml0 hP hK
  obtain ⟨rfl, hZ, hh⟩ := hP
  have hx := Bd.exec
  have hby := Bd.bytes
  have hlk := BodyLoose.notSynchronized Bd
  have hml : c.maxLocals = 0 := hml0
  have hown : s.vm.findClass own_s15 = some m.cls := findClass_of_methodNamed Bd.named
  have hnm := (name_of_methodNamed Bd.named Bd.method).1
  have X0 : Stand p l e ({ frames := 0, cells := 0, slots := 0, locals := 0 } : Room) s m #[] below meth c s₁ [] 0 0 := Stand.of_body Bd
  have e0 : s₁.heap = h0 := by rw [← hh, Bd.state]; rfl
  have N0 := Fr.nil Z.heap.size
  have K0 : Keep h0 h0 [] := Keep.refl _ _
  refine own_start (Q := Q_own_of0 Z eL h0) (ef_own_of0 m) ?_
  show own_G p e below (s₁.setTop (mkF m 0 #[] [])) _
  obtain ⟨T1z, X1z, e1z, st1z⟩ := getS2 X0 hx hZ hown (host := "") (Or.inl (own_hw hw 100 rfl)) Via.refl e0 (S_EL.ext O0) (g := (mkF m 0 #[] [])) rfl (hb hby d_jdk_40_method_36_code_0)
  refine own_go st1z ?_
  exact own_ret X1z hx Bd.returns rfl (Or.inr (Or.inr (Or.inr (Or.inr ⟨rfl, rfl, rfl⟩)))) (hb hby d_jdk_40_method_36_code_3) hlk (Nat.le_of_ble_eq_true rfl) (Nat.le_of_ble_eq_true rfl) (by show Q_own_of0 Z eL h0 _ T1z.heap _; rw [e1z]; exact ⟨rfl, N0, rfl⟩)
theorem ef_own_lcp0 (m : MethodId) (x0 : Addr) : entryFrame m #[(.ref x0)] 2 = mkF m 0 #[.val (.ref x0), .unset] [] := by first | (simp [entryFrame, mkF, argsToLocals, Value.category]; done) | rfl
theorem pf_own_lcp0 : plainFor own_m26 = true := plainFor_of_name (by simp [plainName, overriddenIn])
theorem pd_3636670135 : parseMethodDescriptor "()Ljava/util/List;" = some ⟨[], some (.object "java/util/List")⟩ := by decide +kernel
theorem d_jdk_56_method_3_code_40 : decode jdk_56_method_3_code 40 = .ok (.invokestatic 26, 3) := by decide +kernel
theorem d_jdk_56_method_3_code_43 : decode jdk_56_method_3_code 43 = .ok (.areturn, 1) := by decide +kernel
def Q_own_lcp0 (Z : State) (a : Addr) (eL : Addr) (h0 : Heap) (v : Option Value) (h : Heap) (L : List Loc) : Prop := v = some (.ref eL) ∧ Fr Z.heap.size L ∧ h = h0
set_option maxRecDepth 65536 in
set_option maxHeartbeats 40000000 in
theorem own_lcp0 (l : Launch) (Z : State) (a0 : Array Value) (hw : ∀ d ∈ tables_1, d.before a0 Z = true) (ws : List Jvm.Cond) (a : Addr) (eL : Addr) (h0 : Heap) (O0 : Ext Z.heap h0) (S_EL : Sta Z Z.heap own_s12 "EMPTY_LIST" own_s22 (.ref eL)) (q1 : Exa Z h0 a own_s1) (q2 : Fld Z h0 a own_s1 "size" "I" (.int (0 : Int32))) :
    MetFree l own_m26 (head1 (Jvm.Cond.code own_m26 jdk_56_method_3_code 2 (some (.object own_s15)) :: ws) ({ frames := 1, cells := 0, slots := 0, locals := 20 } : Room)) (fun aa U => aa = #[(.ref a)] ∧ Z.Warmed39 U.vm ∧ U.heap = h0) (fun _ _ _ _ _ => True) (fun _ U o U' => ∃ v L, o = .returned v ∧ Q_own_lcp0 Z a eL h0 v U'.heap L ∧ FrameEnd U o U' L ({ frames := 1, cells := 0, slots := 0, locals := 20 } : Room).cells ({ frames := 1, cells := 0, slots := 0, locals := 20 } : Room).slots) := by
  refine MetFree.of_bodySF pf_own_lcp0 hisR ?_
  intro p e s m args below meth c s₁ Bd hml0 hP hK
  obtain ⟨rfl, hZ, hh⟩ := hP
  have hx := Bd.exec
  have hby := Bd.bytes
  have hlk := BodyLoose.notSynchronized Bd
  have hml : c.maxLocals = 2 := hml0
  have hown : s.vm.findClass own_s12 = some m.cls := findClass_of_methodNamed Bd.named
  have hnm := (name_of_methodNamed Bd.named Bd.method).1
  have X0 : Stand p l e ({ frames := 1, cells := 0, slots := 0, locals := 20 } : Room) s m #[(.ref a)] below meth c s₁ [] 0 0 := Stand.of_body Bd
  have e0 : s₁.heap = h0 := by rw [← hh, Bd.state]; rfl
  have N0 := Fr.nil Z.heap.size
  have K0 : Keep h0 h0 [] := Keep.refl _ _
  refine own_start (Q := Q_own_lcp0 Z a eL h0) (ef_own_lcp0 m (a)) ?_
  show own_G p e below (s₁.setTop (mkF m 0 #[.val (.ref a), .unset] [])) _
  refine own_go (fun t k => XS.aloadN X0.here hx rfl (hb hby d_jdk_56_method_3_code_0) rfl rfl k) ?_
  obtain ⟨T1z, X1z, e1z, st1z⟩ := instNo X0 hx hZ hown (own_hw hw 80 rfl) e0 q1 (own_NSno (own_hw hw 81 rfl) (own_hw hw 197 rfl) (NS.step (own_hw hw 81 rfl) (NS.step (own_hw hw 82 rfl) (NS.step (own_hw hw 83 rfl) (own_NSroot (own_hw hw 84 rfl) (own_hw hw 197 rfl) (by decide)) (by decide)) (by decide)) (by decide)) (by decide)) (g := (mkF m 1 #[.val (.ref a), .unset] [(.ref a)])) rfl rfl (hb hby d_jdk_56_method_3_code_1)
  refine own_go st1z ?_
  refine own_go (fun t k => XS.ifNo X1z.here hx rfl (hb hby d_jdk_56_method_3_code_4) rfl ((if0 _ _).trans (teq (by decide : (0 : Int32) = (0 : Int32))).2) k) ?_
  show own_G p e below (T1z.setTop (mkF m 7 #[.val (.ref a), .unset] [])) _
  refine own_go (fun t k => XS.aloadN X1z.here hx rfl (hb hby d_jdk_56_method_3_code_7) rfl rfl k) ?_
  obtain ⟨T2z, X2z, e2z, st2z⟩ := instNo X1z hx hZ hown (own_hw hw 85 rfl) e1z q1 (own_NSno (own_hw hw 81 rfl) (own_hw hw 276 rfl) (NS.step (own_hw hw 81 rfl) (NS.step (own_hw hw 82 rfl) (NS.step (own_hw hw 83 rfl) (own_NSroot (own_hw hw 84 rfl) (own_hw hw 276 rfl) (by decide)) (by decide)) (by decide)) (by decide)) (by decide)) (g := (mkF m 8 #[.val (.ref a), .unset] [(.ref a)])) rfl rfl (hb hby d_jdk_56_method_3_code_8)
  refine own_go st2z ?_
  refine own_go (fun t k => XS.ifYes X2z.here hx rfl (pc0 := 11) (pc' := 31) rfl (hb hby d_jdk_56_method_3_code_11) rfl ((if0 _ _).trans (teq (by decide : (0 : Int32) = (0 : Int32))).1) (by decide) (by decide) k) ?_
  show own_G p e below (T2z.setTop (mkF m 31 #[.val (.ref a), .unset] [])) _
  refine own_go (fun t k => XS.aloadN X2z.here hx rfl (hb hby d_jdk_56_method_3_code_31) rfl rfl k) ?_
  obtain ⟨cq3z, kq3z, qa3z, qb3z, qc3z⟩ := isOf hZ e2z q1
  obtain ⟨_, _, ⟨T3z, L3z, k3z, n3z⟩, -, X3z, ⟨Lc3z, hQ3z, l3z, y3z, z3z⟩, st3z⟩ := X2z.interfaceBack hx (xi := own_m27) (y := own_m17) hown (own_mw hZ hw 86 rfl) (own_mw hZ hw 87 rfl) (own_mw hZ hw 88 rfl) (own_mw hZ hw 89 rfl) (own_mw hZ hw 90 rfl) (own_mw hZ hw 91 rfl) (own_mw hZ hw 92 rfl) (own_mw hZ hw 93 rfl) (by decide) (backOf (W := 0) (own_ise0 l Z a0 hw [] a h0 O0 q2) hZ (own_hw hw 94 rfl) (own_hw hw 6 rfl) (by decide) (by decide)) qa3z qb3z qc3z (g := (mkF m 32 #[.val (.ref a), .unset] [(.ref a)])) rfl (by rw [hml]; rfl) (Steps.refl _) (argsL := []) (rest := []) (lenOf pd_193422000 rfl) rfl (by show 2 * 0 + _ ≤ _; exact Nat.le_of_eq rfl) (hb hby d_jdk_56_method_3_code_32) (fun _ _ => ⟨rfl, e2z, (by decide : 0 + 0 ≤ _), (by decide : 0 + 0 ≤ _)⟩)
  dsimp only [Pt.U, Pt.locs, Pt.cells, Pt.slots] at X3z l3z y3z z3z st3z hQ3z
  subst l3z y3z z3z
  obtain ⟨rfl, NQ3z, K3zq⟩ := hQ3z
  refine own_tr st3z ?_
  have N3z := Fr.app N0 NQ3z
  show own_G p e below (T3z.setTop (mkF m 37 #[.val (.ref a), .unset] [(.int (1 : Int32))])) _
  refine own_go (fun t k => XS.ifNo X3z.here hx rfl (hb hby d_jdk_56_method_3_code_37) rfl ((if0 _ _).trans (feq (by decide : ¬ ((1 : Int32) = (0 : Int32)))).1) k) ?_
  show own_G p e below (T3z.setTop (mkF m 40 #[.val (.ref a), .unset] [])) _
  obtain ⟨_, _, ⟨T4z, L4z, k4z, n4z⟩, -, X4z, ⟨Lc4z, hQ4z, l4z, y4z, z4z⟩, st4z⟩ := Jvm.LawKit.callS X3z hx (y := own_m31) hown (own_mw hZ hw 97 rfl) (own_mw hZ hw 98 rfl) (own_mw hZ hw 74 rfl) (own_mw hZ hw 99 rfl) (by decide) (backOf (W := 0) (own_of0 l Z a0 hw [] eL h0 O0 S_EL) hZ (own_hw hw 99 rfl) (own_hw hw 74 rfl) (by decide) (by decide)) (g := (mkF m 40 #[.val (.ref a), .unset] [])) rfl (by rw [hml]; rfl) (argsL := []) (rest := []) (lenOf pd_3636670135 rfl) rfl (by show 2 * 0 + _ ≤ _; exact Nat.le_of_eq rfl) (hb hby d_jdk_56_method_3_code_40) (fun _ _ => ⟨rfl, K3zq, (by decide : 0 + 0 ≤ _), (by decide : 0 + 0 ≤ _)⟩)
  dsimp only [Pt.U, Pt.locs, Pt.cells, Pt.slots] at X4z l4z y4z z4z st4z hQ4z
  subst l4z y4z z4z
  obtain ⟨rfl, NQ4z, K4zq⟩ := hQ4z
  refine own_go st4z ?_
  have N4z := Fr.app N3z NQ4z
  show own_G p e below (T4z.setTop (mkF m 43 #[.val (.ref a), .unset] [(.ref eL)])) _
  exact own_ret X4z hx Bd.returns rfl (Or.inr (Or.inr (Or.inr (Or.inr ⟨rfl, rfl, rfl⟩)))) (hb hby d_jdk_56_method_3_code_43) hlk (Nat.le_of_ble_eq_true rfl) (Nat.le_of_ble_eq_true rfl) (by show Q_own_lcp0 Z a eL h0 _ T4z.heap _; rw [K4zq]; exact ⟨rfl, N4z, rfl⟩)
theorem ef_own_cpo0 (m : MethodId) (x0 : Addr) : entryFrame m #[(.ref x0)] 1 = mkF m 0 #[.val (.ref x0)] [] := by first | (simp [entryFrame, mkF, argsToLocals, Value.category]; done) | rfl
theorem pf_own_cpo0 : plainFor own_m29 = true := plainFor_of_name (by simp [plainName, overriddenIn])
def Q_own_cpo0 (Z : State) (a : Addr) (eL : Addr) (h0 : Heap) (v : Option Value) (h : Heap) (L : List Loc) : Prop := v = some (.ref eL) ∧ Fr Z.heap.size L ∧ h = h0
set_option maxRecDepth 65536 in
set_option maxHeartbeats 40000000 in
theorem own_cpo0 (l : Launch) (Z : State) (a0 : Array Value) (hw : ∀ d ∈ tables_1, d.before a0 Z = true) (ws : List Jvm.Cond) (a : Addr) (eL : Addr) (h0 : Heap) (O0 : Ext Z.heap h0) (S_EL : Sta Z Z.heap own_s12 "EMPTY_LIST" own_s22 (.ref eL)) (q1 : Exa Z h0 a own_s1) (q2 : Fld Z h0 a own_s1 "size" "I" (.int (0 : Int32))) :
    MetFree l own_m29 (head1 (Jvm.Cond.code own_m29 jdk_40_method_48_code 1 (some (.object own_s15)) :: ws) ({ frames := 2, cells := 0, slots := 0, locals := 40 } : Room)) (fun aa U => aa = #[(.ref a)] ∧ Z.Warmed39 U.vm ∧ U.heap = h0) (fun _ _ _ _ _ => True) (fun _ U o U' => ∃ v L, o = .returned v ∧ Q_own_cpo0 Z a eL h0 v U'.heap L ∧ FrameEnd U o U' L ({ frames := 2, cells := 0, slots := 0, locals := 40 } : Room).cells ({ frames := 2, cells := 0, slots := 0, locals := 40 } : Room).slots) := by
  refine MetFree.of_bodySF pf_own_cpo0 hisR ?_
  intro p e s m args below meth c s₁ Bd hml0 hP hK
  obtain ⟨rfl, hZ, hh⟩ := hP
  have hx := Bd.exec
  have hby := Bd.bytes
  have hlk := BodyLoose.notSynchronized Bd
  have hml : c.maxLocals = 1 := hml0
  have hown : s.vm.findClass own_s15 = some m.cls := findClass_of_methodNamed Bd.named
  have hnm := (name_of_methodNamed Bd.named Bd.method).1
  have X0 : Stand p l e ({ frames := 2, cells := 0, slots := 0, locals := 40 } : Room) s m #[(.ref a)] below meth c s₁ [] 0 0 := Stand.of_body Bd
  have e0 : s₁.heap = h0 := by rw [← hh, Bd.state]; rfl
  have N0 := Fr.nil Z.heap.size
  have K0 : Keep h0 h0 [] := Keep.refl _ _
  refine own_start (Q := Q_own_cpo0 Z a eL h0) (ef_own_cpo0 m (a)) ?_
  show own_G p e below (s₁.setTop (mkF m 0 #[.val (.ref a)] [])) _
  refine own_go (fun t k => XS.aloadN X0.here hx rfl (hb hby d_jdk_40_method_48_code_0) rfl rfl k) ?_
  obtain ⟨_, _, ⟨T1z, L1z, k1z, n1z⟩, -, X1z, ⟨Lc1z, hQ1z, l1z, y1z, z1z⟩, st1z⟩ := Jvm.LawKit.callS X0 hx (y := own_m26) hown (own_mw hZ hw 76 rfl) (own_mw hZ hw 77 rfl) (own_mw hZ hw 78 rfl) (own_mw hZ hw 79 rfl) (by decide) (backOf (W := 0) (own_lcp0 l Z a0 hw [] a eL h0 O0 S_EL q1 q2) hZ (own_hw hw 79 rfl) (own_hw hw 78 rfl) (by decide) (by decide)) (g := (mkF m 1 #[.val (.ref a)] [(.ref a)])) rfl (by rw [hml]; rfl) (argsL := [(.ref a)]) (rest := []) (lenOf pd_548093608 rfl) rfl (by show 2 * 0 + _ ≤ _; exact Nat.le_of_eq rfl) (hb hby d_jdk_40_method_48_code_1) (fun _ _ => ⟨rfl, e0, (by decide : 0 + 0 ≤ _), (by decide : 0 + 0 ≤ _)⟩)
  dsimp only [Pt.U, Pt.locs, Pt.cells, Pt.slots] at X1z l1z y1z z1z st1z hQ1z
  subst l1z y1z z1z
  obtain ⟨rfl, NQ1z, K1zq⟩ := hQ1z
  refine own_go st1z ?_
  have N1z := Fr.app N0 NQ1z
  show own_G p e below (T1z.setTop (mkF m 4 #[.val (.ref a)] [(.ref eL)])) _
  exact own_ret X1z hx Bd.returns rfl (Or.inr (Or.inr (Or.inr (Or.inr ⟨rfl, rfl, rfl⟩)))) (hb hby d_jdk_40_method_48_code_4) hlk (Nat.le_of_ble_eq_true rfl) (Nat.le_of_ble_eq_true rfl) (by show Q_own_cpo0 Z a eL h0 _ T1z.heap _; rw [K1zq]; exact ⟨rfl, N1z, rfl⟩)
theorem ef_own_lne (m : MethodId) (x0 : Addr) : entryFrame m #[(.ref x0)] 1 = mkF m 0 #[.val (.ref x0)] [] := by first | (simp [entryFrame, mkF, argsToLocals, Value.category]; done) | rfl
theorem pf_own_lne : plainFor own_m32 = true := plainFor_of_name (by simp [plainName, overriddenIn])
theorem d_jdk_45_method_2_code_0 : decode jdk_45_method_2_code 0 = .ok (.aload_n 0, 1) := by decide +kernel
theorem d_jdk_45_method_2_code_1 : decode jdk_45_method_2_code 1 = .ok (.getfield 7, 3) := by decide +kernel
theorem d_jdk_45_method_2_code_13 : decode jdk_45_method_2_code 13 = .ok (.ireturn, 1) := by decide +kernel
theorem d_jdk_45_method_2_code_4 : decode jdk_45_method_2_code 4 = .ok (.arraylength, 1) := by decide +kernel
theorem d_jdk_45_method_2_code_5 : decode jdk_45_method_2_code 5 = .ok (.ifCond .ne 7, 3) := by decide +kernel
theorem d_jdk_45_method_2_code_8 : decode jdk_45_method_2_code 8 = .ok (.iconst 1, 1) := by decide +kernel
theorem d_jdk_45_method_2_code_9 : decode jdk_45_method_2_code 9 = .ok (.goto 4, 3) := by decide +kernel
def Q_own_lne (Z : State) (eL : Addr) (eA : Addr) (ke : ClassId) (h0 : Heap) (v : Option Value) (h : Heap) (L : List Loc) : Prop := v = some (.int (1 : Int32)) ∧ Fr Z.heap.size L ∧ h = h0
set_option maxRecDepth 65536 in
set_option maxHeartbeats 40000000 in
theorem own_lne (l : Launch) (Z : State) (a0 : Array Value) (hw : ∀ d ∈ tables_1, d.before a0 Z = true) (ws : List Jvm.Cond) (eL : Addr) (eA : Addr) (ke : ClassId) (h0 : Heap) (O0 : Ext Z.heap h0) (F_EL : Fld Z Z.heap eL own_s10 "elements" own_s3 (.ref eA)) (B_EL : own_A Z Z.heap eA ke (.object own_s2) []) :
    MetFree l own_m32 (head1 (Jvm.Cond.code own_m32 jdk_45_method_2_code 1 (some .boolean) :: ws) ({ frames := 0, cells := 0, slots := 0, locals := 0 } : Room)) (fun aa U => aa = #[(.ref eL)] ∧ Z.Warmed39 U.vm ∧ U.heap = h0) (fun _ _ _ _ _ => True) (fun _ U o U' => ∃ v L, o = .returned v ∧ Q_own_lne Z eL eA ke h0 v U'.heap L ∧ FrameEnd U o U' L ({ frames := 0, cells := 0, slots := 0, locals := 0 } : Room).cells ({ frames := 0, cells := 0, slots := 0, locals := 0 } : Room).slots) := by
  refine MetFree.of_bodySF pf_own_lne hisR ?_
  intro p e s m args below meth c s₁ Bd hml0 hP hK
  obtain ⟨rfl, hZ, hh⟩ := hP
  have hx := Bd.exec
  have hby := Bd.bytes
  have hlk := BodyLoose.notSynchronized Bd
  have hml : c.maxLocals = 1 := hml0
  have hown : s.vm.findClass own_s10 = some m.cls := findClass_of_methodNamed Bd.named
  have hnm := (name_of_methodNamed Bd.named Bd.method).1
  have X0 : Stand p l e ({ frames := 0, cells := 0, slots := 0, locals := 0 } : Room) s m #[(.ref eL)] below meth c s₁ [] 0 0 := Stand.of_body Bd
  have e0 : s₁.heap = h0 := by rw [← hh, Bd.state]; rfl
  have N0 := Fr.nil Z.heap.size
  have K0 : Keep h0 h0 [] := Keep.refl _ _
  refine own_start (Q := Q_own_lne Z eL eA ke h0) (ef_own_lne m (eL)) ?_
  show own_G p e below (s₁.setTop (mkF m 0 #[.val (.ref eL)] [])) _
  refine own_go (fun t k => XS.aloadN X0.here hx rfl (hb hby d_jdk_45_method_2_code_0) rfl rfl k) ?_
  obtain ⟨T1z, X1z, e1z, st1z⟩ := getF X0 hx hZ hown (host := "") (Or.inl (own_hw hw 111 rfl)) Via.refl e0 (F_EL.ext O0) (g := (mkF m 1 #[.val (.ref eL)] [(.ref eL)])) rfl rfl (hb hby d_jdk_45_method_2_code_1)
  refine own_go st1z ?_
  refine own_go (own_len X1z hx hZ e1z (B_EL.ext O0) (z := (0 : Int32)) (by show (0 : Int32).toInt = ((0 : Nat) : Int); decide) (g := (mkF m 4 #[.val (.ref eL)] [(.ref eA)])) rfl rfl (hb hby d_jdk_45_method_2_code_4)) ?_
  refine own_go (fun t k => XS.ifNo X1z.here hx rfl (hb hby d_jdk_45_method_2_code_5) rfl ((if0 _ _).trans (teq (by decide : (0 : Int32) = (0 : Int32))).2) k) ?_
  show own_G p e below (T1z.setTop (mkF m 8 #[.val (.ref eL)] [])) _
  refine own_go (fun t k => XS.iconst X1z.here hx rfl (hb hby d_jdk_45_method_2_code_8) k) ?_
  refine own_go (fun t k => XS.goto X1z.here hx rfl (pc0 := 9) (pc' := 13) rfl (hb hby d_jdk_45_method_2_code_9) (by decide) (by decide) k) ?_
  show own_G p e below (T1z.setTop (mkF m 13 #[.val (.ref eL)] [(.int (1 : Int32))])) _
  exact own_ret X1z hx Bd.returns rfl (Or.inl ⟨rfl, Or.inr (Or.inl rfl), _, rfl⟩) (hb hby d_jdk_45_method_2_code_13) hlk (Nat.le_of_ble_eq_true rfl) (Nat.le_of_ble_eq_true rfl) (by show Q_own_lne Z eL eA ke h0 _ T1z.heap _; rw [e1z]; exact ⟨rfl, N0, rfl⟩)
theorem ef_own_l1e (m : MethodId) (x0 : Addr) : entryFrame m #[(.ref x0)] 1 = mkF m 0 #[.val (.ref x0)] [] := by first | (simp [entryFrame, mkF, argsToLocals, Value.category]; done) | rfl
theorem pf_own_l1e : plainFor own_m33 = true := plainFor_of_name (by simp [plainName, overriddenIn])
theorem d_jdk_44_method_4_code_0 : decode jdk_44_method_4_code 0 = .ok (.iconst 0, 1) := by decide +kernel
theorem d_jdk_44_method_4_code_1 : decode jdk_44_method_4_code 1 = .ok (.ireturn, 1) := by decide +kernel
def Q_own_l1e (Z : State) (a : Addr) (h0 : Heap) (v : Option Value) (h : Heap) (L : List Loc) : Prop := v = some (.int (0 : Int32)) ∧ Fr Z.heap.size L ∧ h = h0
set_option maxRecDepth 65536 in
set_option maxHeartbeats 40000000 in
theorem own_l1e (l : Launch) (Z : State) (a0 : Array Value) (hw : ∀ d ∈ tables_1, d.before a0 Z = true) (ws : List Jvm.Cond) (a : Addr) (h0 : Heap) (O0 : Ext Z.heap h0) :
    MetFree l own_m33 (head1 (Jvm.Cond.code own_m33 jdk_44_method_4_code 1 (some .boolean) :: ws) ({ frames := 0, cells := 0, slots := 0, locals := 0 } : Room)) (fun aa U => aa = #[(.ref a)] ∧ Z.Warmed39 U.vm ∧ U.heap = h0) (fun _ _ _ _ _ => True) (fun _ U o U' => ∃ v L, o = .returned v ∧ Q_own_l1e Z a h0 v U'.heap L ∧ FrameEnd U o U' L ({ frames := 0, cells := 0, slots := 0, locals := 0 } : Room).cells ({ frames := 0, cells := 0, slots := 0, locals := 0 } : Room).slots) := by
  refine MetFree.of_bodySF pf_own_l1e hisR ?_
  intro p e s m args below meth c s₁ Bd hml0 hP hK
  obtain ⟨rfl, hZ, hh⟩ := hP
  have hx := Bd.exec
  have hby := Bd.bytes
  have hlk := BodyLoose.notSynchronized Bd
  have hml : c.maxLocals = 1 := hml0
  have hown : s.vm.findClass own_s6 = some m.cls := findClass_of_methodNamed Bd.named
  have hnm := (name_of_methodNamed Bd.named Bd.method).1
  have X0 : Stand p l e ({ frames := 0, cells := 0, slots := 0, locals := 0 } : Room) s m #[(.ref a)] below meth c s₁ [] 0 0 := Stand.of_body Bd
  have e0 : s₁.heap = h0 := by rw [← hh, Bd.state]; rfl
  have N0 := Fr.nil Z.heap.size
  have K0 : Keep h0 h0 [] := Keep.refl _ _
  refine own_start (Q := Q_own_l1e Z a h0) (ef_own_l1e m (a)) ?_
  show own_G p e below (s₁.setTop (mkF m 0 #[.val (.ref a)] [])) _
  refine own_go (fun t k => XS.iconst X0.here hx rfl (hb hby d_jdk_44_method_4_code_0) k) ?_
  exact own_ret X0 hx Bd.returns rfl (Or.inl ⟨rfl, Or.inr (Or.inl rfl), _, rfl⟩) (hb hby d_jdk_44_method_4_code_1) hlk (Nat.le_of_ble_eq_true rfl) (Nat.le_of_ble_eq_true rfl) (by show Q_own_l1e Z a h0 _ s₁.heap _; rw [e0]; exact ⟨rfl, N0, rfl⟩)
theorem ef_own_fie (m : MethodId) (x0 : Addr) (x1 : Addr) (x2 : Addr) (x3 : Addr) (x4 : Addr) : entryFrame m #[(.ref x0), (.ref x1), (.ref x2), (.ref x3), (.ref x4), .null] 6 = mkF m 0 #[.val (.ref x0), .val (.ref x1), .val (.ref x2), .val (.ref x3), .val (.ref x4), .val .null] [] := by first | (simp [entryFrame, mkF, argsToLocals, Value.category]; done) | rfl
theorem pf_own_fie : plainFor own_m34 = true := plainFor_of_name (by simp [plainName, overriddenIn])
theorem d_prog_21_method_1_code_0 : decode prog_21_method_1_code 0 = .ok (.aload_n 0, 1) := by decide +kernel
theorem d_prog_21_method_1_code_1 : decode prog_21_method_1_code 1 = .ok (.invokespecial 1, 3) := by decide +kernel
theorem d_prog_21_method_1_code_100 : decode prog_21_method_1_code 100 = .ok (.putfield 57, 3) := by decide +kernel
theorem d_prog_21_method_1_code_103 : decode prog_21_method_1_code 103 = .ok (.return_, 1) := by decide +kernel
theorem d_prog_21_method_1_code_11 : decode prog_21_method_1_code 11 = .ok (.aload 4, 2) := by decide +kernel
theorem d_prog_21_method_1_code_13 : decode prog_21_method_1_code 13 = .ok (.invokeinterface 13 1, 5) := by decide +kernel
theorem d_prog_21_method_1_code_18 : decode prog_21_method_1_code 18 = .ok (.aload_n 3, 1) := by decide +kernel
theorem d_prog_21_method_1_code_19 : decode prog_21_method_1_code 19 = .ok (.getstatic 17, 3) := by decide +kernel
theorem d_prog_21_method_1_code_22 : decode prog_21_method_1_code 22 = .ok (.if_acmp .ne 7, 3) := by decide +kernel
theorem d_prog_21_method_1_code_29 : decode prog_21_method_1_code 29 = .ok (.iconst 0, 1) := by decide +kernel
theorem d_prog_21_method_1_code_30 : decode prog_21_method_1_code 30 = .ok (.if_icmp .eq 28, 3) := by decide +kernel
theorem d_prog_21_method_1_code_33 : decode prog_21_method_1_code 33 = .ok (.aload 5, 2) := by decide +kernel
theorem d_prog_21_method_1_code_35 : decode prog_21_method_1_code 35 = .ok (.ifnonnull 7, 3) := by decide +kernel
theorem d_prog_21_method_1_code_38 : decode prog_21_method_1_code 38 = .ok (.iconst 1, 1) := by decide +kernel
theorem d_prog_21_method_1_code_39 : decode prog_21_method_1_code 39 = .ok (.goto 4, 3) := by decide +kernel
theorem d_prog_21_method_1_code_4 : decode prog_21_method_1_code 4 = .ok (.aload 4, 2) := by decide +kernel
theorem d_prog_21_method_1_code_43 : decode prog_21_method_1_code 43 = .ok (.aload_n 3, 1) := by decide +kernel
theorem d_prog_21_method_1_code_44 : decode prog_21_method_1_code 44 = .ok (.getstatic 23, 3) := by decide +kernel
theorem d_prog_21_method_1_code_47 : decode prog_21_method_1_code 47 = .ok (.if_acmp .ne 7, 3) := by decide +kernel
theorem d_prog_21_method_1_code_54 : decode prog_21_method_1_code 54 = .ok (.iconst 0, 1) := by decide +kernel
theorem d_prog_21_method_1_code_55 : decode prog_21_method_1_code 55 = .ok (.if_icmp .ne 21, 3) := by decide +kernel
theorem d_prog_21_method_1_code_6 : decode prog_21_method_1_code 6 = .ok (.invokestatic 7, 3) := by decide +kernel
theorem d_prog_21_method_1_code_76 : decode prog_21_method_1_code 76 = .ok (.aload_n 0, 1) := by decide +kernel
theorem d_prog_21_method_1_code_77 : decode prog_21_method_1_code 77 = .ok (.aload_n 1, 1) := by decide +kernel
theorem d_prog_21_method_1_code_78 : decode prog_21_method_1_code 78 = .ok (.putfield 41, 3) := by decide +kernel
theorem d_prog_21_method_1_code_81 : decode prog_21_method_1_code 81 = .ok (.aload_n 0, 1) := by decide +kernel
theorem d_prog_21_method_1_code_82 : decode prog_21_method_1_code 82 = .ok (.aload_n 2, 1) := by decide +kernel
theorem d_prog_21_method_1_code_83 : decode prog_21_method_1_code 83 = .ok (.putfield 47, 3) := by decide +kernel
theorem d_prog_21_method_1_code_86 : decode prog_21_method_1_code 86 = .ok (.aload_n 0, 1) := by decide +kernel
theorem d_prog_21_method_1_code_87 : decode prog_21_method_1_code 87 = .ok (.aload_n 3, 1) := by decide +kernel
theorem d_prog_21_method_1_code_88 : decode prog_21_method_1_code 88 = .ok (.putfield 50, 3) := by decide +kernel
theorem d_prog_21_method_1_code_9 : decode prog_21_method_1_code 9 = .ok (.astore 4, 2) := by decide +kernel
theorem d_prog_21_method_1_code_91 : decode prog_21_method_1_code 91 = .ok (.aload_n 0, 1) := by decide +kernel
theorem d_prog_21_method_1_code_92 : decode prog_21_method_1_code 92 = .ok (.aload 4, 2) := by decide +kernel
theorem d_prog_21_method_1_code_94 : decode prog_21_method_1_code 94 = .ok (.putfield 53, 3) := by decide +kernel
theorem d_prog_21_method_1_code_97 : decode prog_21_method_1_code 97 = .ok (.aload_n 0, 1) := by decide +kernel
theorem d_prog_21_method_1_code_98 : decode prog_21_method_1_code 98 = .ok (.aload 5, 2) := by decide +kernel
def Q_own_fie (Z : State) (a : Addr) (sn : Addr) (kd_ : Addr) (ls : Addr) (aH : Addr) (aV : Addr) (eL : Addr) (eA : Addr) (ke : ClassId) (h0 : Heap) (v : Option Value) (h : Heap) (L : List Loc) : Prop := v = none ∧ Fr Z.heap.size L ∧ Keep h0 h [a] ∧ (Exa Z h a own_s0) ∧ (Fld Z h a own_s0 "kind" own_s5 (.ref kd_))
set_option maxRecDepth 65536 in
set_option maxHeartbeats 40000000 in
theorem own_fie (l : Launch) (Z : State) (a0 : Array Value) (hw : ∀ d ∈ tables_1, d.before a0 Z = true) (ws : List Jvm.Cond) (a : Addr) (sn : Addr) (kd_ : Addr) (ls : Addr) (aH : Addr) (aV : Addr) (eL : Addr) (eA : Addr) (ke : ClassId) (h0 : Heap) (O0 : Ext Z.heap h0) (S_H : Sta Z Z.heap own_s4 "HORIZONTAL" own_s5 (.ref aH)) (S_V : Sta Z Z.heap own_s4 "VERTICAL" own_s5 (.ref aV)) (S_EL : Sta Z Z.heap own_s12 "EMPTY_LIST" own_s22 (.ref eL)) (F_EL : Fld Z Z.heap eL own_s10 "elements" own_s3 (.ref eA)) (B_EL : own_A Z Z.heap eA ke (.object own_s2) []) (E_EL : Exa Z Z.heap eL own_s10) (q6 : Exa Z h0 a own_s0) (q7 : Z.heap.size ≤ a) (q8 : Fld Z h0 a own_s0 "name" own_s18 .null) (q9 : Fld Z h0 a own_s0 "site" own_s18 .null) (q10 : Fld Z h0 a own_s0 "kind" own_s5 .null) (q11 : Fld Z h0 a own_s0 "selections" own_s16 .null) (q12 : Fld Z h0 a own_s0 "projection" own_s17 .null) (q13 : Exa Z h0 ls own_s1) (q14 : Fld Z h0 ls own_s1 "size" "I" (.int (0 : Int32))) (nkh : kd_ ≠ aH) (nkv : kd_ ≠ aV) :
    MetFree l own_m34 (head1 (Jvm.Cond.code own_m34 prog_21_method_1_code 6 none :: ws) ({ frames := 3, cells := 0, slots := 0, locals := 60 } : Room)) (fun aa U => aa = #[(.ref a), (.ref sn), (.ref sn), (.ref kd_), (.ref ls), .null] ∧ Z.Warmed39 U.vm ∧ U.heap = h0) (fun _ _ _ _ _ => True) (fun _ U o U' => ∃ v L, o = .returned v ∧ Q_own_fie Z a sn kd_ ls aH aV eL eA ke h0 v U'.heap L ∧ FrameEnd U o U' L ({ frames := 3, cells := 0, slots := 0, locals := 60 } : Room).cells ({ frames := 3, cells := 0, slots := 0, locals := 60 } : Room).slots) := by
  refine MetFree.of_bodySF pf_own_fie hisR ?_
  intro p e s m args below meth c s₁ Bd hml0 hP hK
  obtain ⟨rfl, hZ, hh⟩ := hP
  have hx := Bd.exec
  have hby := Bd.bytes
  have hlk := BodyLoose.notSynchronized Bd
  have hml : c.maxLocals = 6 := hml0
  have hown : s.vm.findClass own_s0 = some m.cls := findClass_of_methodNamed Bd.named
  have hnm := (name_of_methodNamed Bd.named Bd.method).1
  have X0 : Stand p l e ({ frames := 3, cells := 0, slots := 0, locals := 60 } : Room) s m #[(.ref a), (.ref sn), (.ref sn), (.ref kd_), (.ref ls), .null] below meth c s₁ [] 0 0 := Stand.of_body Bd
  have e0 : s₁.heap = h0 := by rw [← hh, Bd.state]; rfl
  have N0 := Fr.nil Z.heap.size
  have K0 : Keep h0 h0 [a] := Keep.refl _ _
  refine own_start (Q := Q_own_fie Z a sn kd_ ls aH aV eL eA ke h0) (ef_own_fie m (a) (sn) (sn) (kd_) (ls)) ?_
  show own_G p e below (s₁.setTop (mkF m 0 #[.val (.ref a), .val (.ref sn), .val (.ref sn), .val (.ref kd_), .val (.ref ls), .val .null] [])) _
  refine own_go (fun t k => XS.aloadN X0.here hx rfl (hb hby d_prog_21_method_1_code_0) rfl rfl k) ?_
  obtain ⟨_, _, ⟨T1z, L1z, k1z, n1z⟩, -, X1z, ⟨Lc1z, hQ1z, l1z, y1z, z1z⟩, st1z⟩ := X0.specialBack hx (y := own_m8) rfl hown (own_mw hZ hw 66 rfl) (own_mw hZ hw 67 rfl) (own_mw hZ hw 70 rfl) (by decide) (backOf (W := 0) (own_rec l Z a0 hw [] a h0 O0) hZ (own_hw hw 70 rfl) (own_hw hw 69 rfl) (by decide) (by decide)) (g := (mkF m 1 #[.val (.ref a), .val (.ref sn), .val (.ref sn), .val (.ref kd_), .val (.ref ls), .val .null] [(.ref a)])) rfl (by rw [hml]; rfl) (Steps.refl _) (a := a) (argsL := []) (rest := []) (lenOf pd_193421996 rfl) rfl (by show 2 * 0 + _ ≤ _; exact Nat.le_of_eq rfl) (hb hby d_prog_21_method_1_code_1) (fun _ _ => ⟨rfl, e0, (by decide : 0 + 0 ≤ _), (by decide : 0 + 0 ≤ _)⟩)
  dsimp only [Pt.U, Pt.locs, Pt.cells, Pt.slots] at X1z l1z y1z z1z st1z hQ1z
  subst l1z y1z z1z
  obtain ⟨rfl, NQ1z, K1zq⟩ := hQ1z
  refine own_tr st1z ?_
  have N1z := Fr.app N0 NQ1z
  show own_G p e below (T1z.setTop (mkF m 4 #[.val (.ref a), .val (.ref sn), .val (.ref sn), .val (.ref kd_), .val (.ref ls), .val .null] [])) _
  refine own_go (fun t k => XS.aload X1z.here hx rfl (hb hby d_prog_21_method_1_code_4) rfl rfl k) ?_
  obtain ⟨_, _, ⟨T2z, L2z, k2z, n2z⟩, -, X2z, ⟨Lc2z, hQ2z, l2z, y2z, z2z⟩, st2z⟩ := Jvm.LawKit.callS X1z hx (y := own_m29) hown (own_mw hZ hw 72 rfl) (own_mw hZ hw 73 rfl) (own_mw hZ hw 74 rfl) (own_mw hZ hw 75 rfl) (by decide) (backOf (W := 0) (own_cpo0 l Z a0 hw [] ls eL h0 O0 S_EL q13 q14) hZ (own_hw hw 75 rfl) (own_hw hw 74 rfl) (by decide) (by decide)) (g := (mkF m 6 #[.val (.ref a), .val (.ref sn), .val (.ref sn), .val (.ref kd_), .val (.ref ls), .val .null] [(.ref ls)])) rfl (by rw [hml]; rfl) (argsL := [(.ref ls)]) (rest := []) (lenOf pd_548093608 rfl) rfl (by show 2 * 0 + _ ≤ _; exact Nat.le_of_eq rfl) (hb hby d_prog_21_method_1_code_6) (fun _ _ => ⟨rfl, K1zq, (by decide : 0 + 0 ≤ _), (by decide : 0 + 0 ≤ _)⟩)
  dsimp only [Pt.U, Pt.locs, Pt.cells, Pt.slots] at X2z l2z y2z z2z st2z hQ2z
  subst l2z y2z z2z
  obtain ⟨rfl, NQ2z, K2zq⟩ := hQ2z
  refine own_go st2z ?_
  have N2z := Fr.app N1z NQ2z
  show own_G p e below (T2z.setTop (mkF m 9 #[.val (.ref a), .val (.ref sn), .val (.ref sn), .val (.ref kd_), .val (.ref ls), .val .null] [(.ref eL)])) _
  refine own_go (fun t k => XS.astore X2z.here hx rfl (hb hby d_prog_21_method_1_code_9) rfl rfl (l' := #[.val (.ref a), .val (.ref sn), .val (.ref sn), .val (.ref kd_), .val (.ref eL), .val .null]) rfl k) ?_
  refine own_go (fun t k => XS.aload X2z.here hx rfl (hb hby d_prog_21_method_1_code_11) rfl rfl k) ?_
  obtain ⟨cq3z, kq3z, qa3z, qb3z, qc3z⟩ := isOf hZ K2zq (E_EL.ext O0)
  obtain ⟨_, _, ⟨T3z, L3z, k3z, n3z⟩, -, X3z, ⟨Lc3z, hQ3z, l3z, y3z, z3z⟩, st3z⟩ := X2z.interfaceBack hx (xi := own_m35) (y := own_m32) hown (own_mw hZ hw 101 rfl) (own_mw hZ hw 102 rfl) (own_mw hZ hw 103 rfl) (own_mw hZ hw 104 rfl) (own_mw hZ hw 105 rfl) (own_mw hZ hw 106 rfl) (own_mw hZ hw 107 rfl) (own_mw hZ hw 108 rfl) (by decide) (backOf (W := 0) (own_lne l Z a0 hw [] eL eA ke h0 O0 F_EL B_EL) hZ (own_hw hw 110 rfl) (own_hw hw 109 rfl) (by decide) (by decide)) qa3z qb3z qc3z (g := (mkF m 13 #[.val (.ref a), .val (.ref sn), .val (.ref sn), .val (.ref kd_), .val (.ref eL), .val .null] [(.ref eL)])) rfl (by rw [hml]; rfl) (Steps.refl _) (argsL := []) (rest := []) (lenOf pd_193422000 rfl) rfl (by show 2 * 0 + _ ≤ _; exact Nat.le_of_eq rfl) (hb hby d_prog_21_method_1_code_13) (fun _ _ => ⟨rfl, K2zq, (by decide : 0 + 0 ≤ _), (by decide : 0 + 0 ≤ _)⟩)
  dsimp only [Pt.U, Pt.locs, Pt.cells, Pt.slots] at X3z l3z y3z z3z st3z hQ3z
  subst l3z y3z z3z
  obtain ⟨rfl, NQ3z, K3zq⟩ := hQ3z
  refine own_tr st3z ?_
  have N3z := Fr.app N2z NQ3z
  show own_G p e below (T3z.setTop (mkF m 18 #[.val (.ref a), .val (.ref sn), .val (.ref sn), .val (.ref kd_), .val (.ref eL), .val .null] [(.int (1 : Int32))])) _
  refine own_go (fun t k => XS.aloadN X3z.here hx rfl (hb hby d_prog_21_method_1_code_18) rfl rfl k) ?_
  obtain ⟨T4z, X4z, e4z, st4z⟩ := getS2 X3z hx hZ hown (host := "") (Or.inl (own_hw hw 113 rfl)) Via.refl K3zq (S_H.ext O0) (g := (mkF m 19 #[.val (.ref a), .val (.ref sn), .val (.ref sn), .val (.ref kd_), .val (.ref eL), .val .null] [(.ref kd_), (.int (1 : Int32))])) rfl (hb hby d_prog_21_method_1_code_19)
  refine own_go st4z ?_
  refine own_go (fun t k => Jvm.RoadKit.acmp (g := (mkF m 22 #[.val (.ref a), .val (.ref sn), .val (.ref sn), .val (.ref kd_), .val (.ref eL), .val .null] [(.ref aH), (.ref kd_), (.int (1 : Int32))])) X4z hx rfl rfl rfl (pc0 := 22) (pc' := 29) (same := false) rfl (hb hby d_prog_21_method_1_code_22) rfl (decide_eq_false fun q => nkh (Value.ref.inj q)) (by decide) (by decide) k) ?_
  show own_G p e below (T4z.setTop (mkF m 29 #[.val (.ref a), .val (.ref sn), .val (.ref sn), .val (.ref kd_), .val (.ref eL), .val .null] [(.int (1 : Int32))])) _
  refine own_go (fun t k => XS.iconst X4z.here hx rfl (hb hby d_prog_21_method_1_code_29) k) ?_
  refine own_go (fun t k => XS.icmpNo X4z.here hx rfl (hb hby d_prog_21_method_1_code_30) rfl (feq (by decide : ¬ ((1 : Int32) = (0 : Int32)))).1 k) ?_
  show own_G p e below (T4z.setTop (mkF m 33 #[.val (.ref a), .val (.ref sn), .val (.ref sn), .val (.ref kd_), .val (.ref eL), .val .null] [])) _
  refine own_go (fun t k => XS.aload X4z.here hx rfl (hb hby d_prog_21_method_1_code_33) rfl rfl k) ?_
  refine own_go (fun t k => XS.ifnonnullNo X4z.here hx rfl (hb hby d_prog_21_method_1_code_35) rfl k) ?_
  show own_G p e below (T4z.setTop (mkF m 38 #[.val (.ref a), .val (.ref sn), .val (.ref sn), .val (.ref kd_), .val (.ref eL), .val .null] [])) _
  refine own_go (fun t k => XS.iconst X4z.here hx rfl (hb hby d_prog_21_method_1_code_38) k) ?_
  refine own_go (fun t k => XS.goto X4z.here hx rfl (pc0 := 39) (pc' := 43) rfl (hb hby d_prog_21_method_1_code_39) (by decide) (by decide) k) ?_
  show own_G p e below (T4z.setTop (mkF m 43 #[.val (.ref a), .val (.ref sn), .val (.ref sn), .val (.ref kd_), .val (.ref eL), .val .null] [(.int (1 : Int32))])) _
  refine own_go (fun t k => XS.aloadN X4z.here hx rfl (hb hby d_prog_21_method_1_code_43) rfl rfl k) ?_
  obtain ⟨T5z, X5z, e5z, st5z⟩ := getS2 X4z hx hZ hown (host := "") (Or.inl (own_hw hw 114 rfl)) Via.refl e4z (S_V.ext O0) (g := (mkF m 44 #[.val (.ref a), .val (.ref sn), .val (.ref sn), .val (.ref kd_), .val (.ref eL), .val .null] [(.ref kd_), (.int (1 : Int32))])) rfl (hb hby d_prog_21_method_1_code_44)
  refine own_go st5z ?_
  refine own_go (fun t k => Jvm.RoadKit.acmp (g := (mkF m 47 #[.val (.ref a), .val (.ref sn), .val (.ref sn), .val (.ref kd_), .val (.ref eL), .val .null] [(.ref aV), (.ref kd_), (.int (1 : Int32))])) X5z hx rfl rfl rfl (pc0 := 47) (pc' := 54) (same := false) rfl (hb hby d_prog_21_method_1_code_47) rfl (decide_eq_false fun q => nkv (Value.ref.inj q)) (by decide) (by decide) k) ?_
  show own_G p e below (T5z.setTop (mkF m 54 #[.val (.ref a), .val (.ref sn), .val (.ref sn), .val (.ref kd_), .val (.ref eL), .val .null] [(.int (1 : Int32))])) _
  refine own_go (fun t k => XS.iconst X5z.here hx rfl (hb hby d_prog_21_method_1_code_54) k) ?_
  refine own_go (fun t k => XS.icmpYes X5z.here hx rfl (pc0 := 55) (pc' := 76) rfl (hb hby d_prog_21_method_1_code_55) rfl (feq (by decide : ¬ ((1 : Int32) = (0 : Int32)))).2 (by decide) (by decide) k) ?_
  show own_G p e below (T5z.setTop (mkF m 76 #[.val (.ref a), .val (.ref sn), .val (.ref sn), .val (.ref kd_), .val (.ref eL), .val .null] [])) _
  refine own_go (fun t k => XS.aloadN X5z.here hx rfl (hb hby d_prog_21_method_1_code_76) rfl rfl k) ?_
  refine own_go (fun t k => XS.aloadN X5z.here hx rfl (hb hby d_prog_21_method_1_code_77) rfl rfl k) ?_
  obtain ⟨T6z, h6z, X6z, e6z, W6z, st6z⟩ := putF X5z hx hZ hown (host := "") (Or.inl (own_hw hw 116 rfl)) Via.refl e5z q8 q6 (Or.inr ⟨(own_hw hw 117 rfl), rfl, hnm⟩) (own_hw hw 61 rfl) (ty := (.object own_s11)) (by decide) rfl rfl (g := (mkF m 78 #[.val (.ref a), .val (.ref sn), .val (.ref sn), .val (.ref kd_), .val (.ref eL), .val .null] [(.ref sn), (.ref a)])) rfl rfl (hb hby d_prog_21_method_1_code_78)
  refine own_go st6z ?_
  have N6z := Fr.snoc X6z N3z q7
  have F6z : Fld Z h6z a own_s0 "name" own_s18 (.ref sn) := q8.same W6z
  have O7z := own_ext_wr O0 W6z q7
  have K7z := K0.wr W6z (Or.inl (List.mem_of_getElem? (i := 0) rfl))
  refine own_go (fun t k => XS.aloadN X6z.here hx rfl (hb hby d_prog_21_method_1_code_81) rfl rfl k) ?_
  refine own_go (fun t k => XS.aloadN X6z.here hx rfl (hb hby d_prog_21_method_1_code_82) rfl rfl k) ?_
  have f8z := (q9.other W6z (Or.inr (slot_ne (Or.inr (own_hw hw 119 rfl)) (Or.inr (own_hw hw 117 rfl)) (by decide) (t := (.object own_s11)) (t' := (.object own_s11)) (by decide) (by decide))))
  obtain ⟨T9z, h9z, X9z, e9z, W9z, st9z⟩ := putF X6z hx hZ hown (host := "") (Or.inl (own_hw hw 118 rfl)) Via.refl e6z f8z (q6.wr W6z) (Or.inr ⟨(own_hw hw 119 rfl), rfl, hnm⟩) (own_hw hw 61 rfl) (ty := (.object own_s11)) (by decide) rfl rfl (g := (mkF m 83 #[.val (.ref a), .val (.ref sn), .val (.ref sn), .val (.ref kd_), .val (.ref eL), .val .null] [(.ref sn), (.ref a)])) rfl rfl (hb hby d_prog_21_method_1_code_83)
  refine own_go st9z ?_
  have N9z := Fr.snoc X9z N6z q7
  have F9z : Fld Z h9z a own_s0 "site" own_s18 (.ref sn) := f8z.same W9z
  have O10z := own_ext_wr O7z W9z q7
  have K10z := K7z.wr W9z (Or.inl (List.mem_of_getElem? (i := 0) rfl))
  refine own_go (fun t k => XS.aloadN X9z.here hx rfl (hb hby d_prog_21_method_1_code_86) rfl rfl k) ?_
  refine own_go (fun t k => XS.aloadN X9z.here hx rfl (hb hby d_prog_21_method_1_code_87) rfl rfl k) ?_
  have f11z := ((q10.other W6z (Or.inr (slot_ne (Or.inr (own_hw hw 121 rfl)) (Or.inr (own_hw hw 117 rfl)) (by decide) (t := (.object own_s4)) (t' := (.object own_s11)) (by decide) (by decide)))).other W9z (Or.inr (slot_ne (Or.inr (own_hw hw 121 rfl)) (Or.inr (own_hw hw 119 rfl)) (by decide) (t := (.object own_s4)) (t' := (.object own_s11)) (by decide) (by decide))))
  obtain ⟨T12z, h12z, X12z, e12z, W12z, st12z⟩ := putF X9z hx hZ hown (host := "") (Or.inl (own_hw hw 120 rfl)) Via.refl e9z f11z ((q6.wr W6z).wr W9z) (Or.inr ⟨(own_hw hw 121 rfl), rfl, hnm⟩) (own_hw hw 61 rfl) (ty := (.object own_s4)) (by decide) rfl rfl (g := (mkF m 88 #[.val (.ref a), .val (.ref sn), .val (.ref sn), .val (.ref kd_), .val (.ref eL), .val .null] [(.ref kd_), (.ref a)])) rfl rfl (hb hby d_prog_21_method_1_code_88)
  refine own_go st12z ?_
  have N12z := Fr.snoc X12z N9z q7
  have F12z : Fld Z h12z a own_s0 "kind" own_s5 (.ref kd_) := f11z.same W12z
  have O13z := own_ext_wr O10z W12z q7
  have K13z := K10z.wr W12z (Or.inl (List.mem_of_getElem? (i := 0) rfl))
  show own_G p e below (T12z.setTop (mkF m 91 #[.val (.ref a), .val (.ref sn), .val (.ref sn), .val (.ref kd_), .val (.ref eL), .val .null] [])) _
  refine own_go (fun t k => XS.aloadN X12z.here hx rfl (hb hby d_prog_21_method_1_code_91) rfl rfl k) ?_
  refine own_go (fun t k => XS.aload X12z.here hx rfl (hb hby d_prog_21_method_1_code_92) rfl rfl k) ?_
  have f14z := (((q11.other W6z (Or.inr (slot_ne (Or.inr (own_hw hw 123 rfl)) (Or.inr (own_hw hw 117 rfl)) (by decide) (t := (.object own_s15)) (t' := (.object own_s11)) (by decide) (by decide)))).other W9z (Or.inr (slot_ne (Or.inr (own_hw hw 123 rfl)) (Or.inr (own_hw hw 119 rfl)) (by decide) (t := (.object own_s15)) (t' := (.object own_s11)) (by decide) (by decide)))).other W12z (Or.inr (slot_ne (Or.inr (own_hw hw 123 rfl)) (Or.inr (own_hw hw 121 rfl)) (by decide) (t := (.object own_s15)) (t' := (.object own_s4)) (by decide) (by decide))))
  obtain ⟨T15z, h15z, X15z, e15z, W15z, st15z⟩ := putF X12z hx hZ hown (host := "") (Or.inl (own_hw hw 122 rfl)) Via.refl e12z f14z (((q6.wr W6z).wr W9z).wr W12z) (Or.inr ⟨(own_hw hw 123 rfl), rfl, hnm⟩) (own_hw hw 61 rfl) (ty := (.object own_s15)) (by decide) rfl rfl (g := (mkF m 94 #[.val (.ref a), .val (.ref sn), .val (.ref sn), .val (.ref kd_), .val (.ref eL), .val .null] [(.ref eL), (.ref a)])) rfl rfl (hb hby d_prog_21_method_1_code_94)
  refine own_go st15z ?_
  have N15z := Fr.snoc X15z N12z q7
  have F15z : Fld Z h15z a own_s0 "selections" own_s16 (.ref eL) := f14z.same W15z
  have O16z := own_ext_wr O13z W15z q7
  have K16z := K13z.wr W15z (Or.inl (List.mem_of_getElem? (i := 0) rfl))
  refine own_go (fun t k => XS.aloadN X15z.here hx rfl (hb hby d_prog_21_method_1_code_97) rfl rfl k) ?_
  refine own_go (fun t k => XS.aload X15z.here hx rfl (hb hby d_prog_21_method_1_code_98) rfl rfl k) ?_
  have f17z := ((((q12.other W6z (Or.inr (slot_ne (Or.inr (own_hw hw 125 rfl)) (Or.inr (own_hw hw 117 rfl)) (by decide) (t := (.object own_s14)) (t' := (.object own_s11)) (by decide) (by decide)))).other W9z (Or.inr (slot_ne (Or.inr (own_hw hw 125 rfl)) (Or.inr (own_hw hw 119 rfl)) (by decide) (t := (.object own_s14)) (t' := (.object own_s11)) (by decide) (by decide)))).other W12z (Or.inr (slot_ne (Or.inr (own_hw hw 125 rfl)) (Or.inr (own_hw hw 121 rfl)) (by decide) (t := (.object own_s14)) (t' := (.object own_s4)) (by decide) (by decide)))).other W15z (Or.inr (slot_ne (Or.inr (own_hw hw 125 rfl)) (Or.inr (own_hw hw 123 rfl)) (by decide) (t := (.object own_s14)) (t' := (.object own_s15)) (by decide) (by decide))))
  obtain ⟨T18z, h18z, X18z, e18z, W18z, st18z⟩ := putF X15z hx hZ hown (host := "") (Or.inl (own_hw hw 124 rfl)) Via.refl e15z f17z ((((q6.wr W6z).wr W9z).wr W12z).wr W15z) (Or.inr ⟨(own_hw hw 125 rfl), rfl, hnm⟩) (own_hw hw 61 rfl) (ty := (.object own_s14)) (by decide) rfl rfl (g := (mkF m 100 #[.val (.ref a), .val (.ref sn), .val (.ref sn), .val (.ref kd_), .val (.ref eL), .val .null] [.null, (.ref a)])) rfl rfl (hb hby d_prog_21_method_1_code_100)
  refine own_go st18z ?_
  have N18z := Fr.snoc X18z N15z q7
  have F18z : Fld Z h18z a own_s0 "projection" own_s17 .null := f17z.same W18z
  have O19z := own_ext_wr O16z W18z q7
  have K19z := K16z.wr W18z (Or.inl (List.mem_of_getElem? (i := 0) rfl))
  have f20z := ((F12z.other W15z (Or.inr (slot_ne (Or.inr (own_hw hw 121 rfl)) (Or.inr (own_hw hw 123 rfl)) (by decide) (t := (.object own_s4)) (t' := (.object own_s15)) (by decide) (by decide)))).other W18z (Or.inr (slot_ne (Or.inr (own_hw hw 121 rfl)) (Or.inr (own_hw hw 125 rfl)) (by decide) (t := (.object own_s4)) (t' := (.object own_s14)) (by decide) (by decide))))
  exact own_retV X18z hx Bd.returns (hb hby d_prog_21_method_1_code_103) hlk (Nat.le_of_ble_eq_true rfl) (Nat.le_of_ble_eq_true rfl) (by show Q_own_fie Z a sn kd_ ls aH aV eL eA ke h0 _ T18z.heap _; rw [e18z]; exact ⟨rfl, N18z, K19z, (((((q6.wr W6z).wr W9z).wr W12z).wr W15z).wr W18z), f20z⟩)
theorem ef_own_fih (m : MethodId) (x0 : Addr) (x1 : Addr) (x2 : Addr) (x3 : Addr) (x4 : Addr) : entryFrame m #[(.ref x0), (.ref x1), (.ref x2), (.ref x3), (.ref x4), .null] 6 = mkF m 0 #[.val (.ref x0), .val (.ref x1), .val (.ref x2), .val (.ref x3), .val (.ref x4), .val .null] [] := by first | (simp [entryFrame, mkF, argsToLocals, Value.category]; done) | rfl
theorem pf_own_fih : plainFor own_m34 = true := plainFor_of_name (by simp [plainName, overriddenIn])
theorem d_prog_21_method_1_code_25 : decode prog_21_method_1_code 25 = .ok (.iconst 1, 1) := by decide +kernel
theorem d_prog_21_method_1_code_26 : decode prog_21_method_1_code 26 = .ok (.goto 4, 3) := by decide +kernel
def Q_own_fih (Z : State) (a : Addr) (sn : Addr) (ls : Addr) (aH : Addr) (aV : Addr) (arr : Addr) (kk : ClassId) (mi : Addr) (eM : Addr) (x0 : Addr) (h0 : Heap) (v : Option Value) (h : Heap) (L : List Loc) : Prop := v = none ∧ Fr Z.heap.size L ∧ Keep h0 h [a] ∧ (Exa Z h a own_s0) ∧ (Fld Z h a own_s0 "kind" own_s5 (.ref aH))
set_option maxRecDepth 65536 in
set_option maxHeartbeats 40000000 in
theorem own_fih (l : Launch) (Z : State) (a0 : Array Value) (hw : ∀ d ∈ tables_1, d.before a0 Z = true) (ws : List Jvm.Cond) (a : Addr) (sn : Addr) (ls : Addr) (aH : Addr) (aV : Addr) (arr : Addr) (kk : ClassId) (mi : Addr) (eM : Addr) (x0 : Addr) (h0 : Heap) (O0 : Ext Z.heap h0) (S_H : Sta Z Z.heap own_s4 "HORIZONTAL" own_s5 (.ref aH)) (S_V : Sta Z Z.heap own_s4 "VERTICAL" own_s5 (.ref aV)) (MI : Mir Z own_s3 mi) (S_EM : Sta Z Z.heap own_s12 "EMPTY" own_s13 (.ref eM)) (q4 : Exa Z h0 a own_s0) (q5 : Z.heap.size ≤ a) (q6 : Fld Z h0 a own_s0 "name" own_s18 .null) (q7 : Fld Z h0 a own_s0 "site" own_s18 .null) (q8 : Fld Z h0 a own_s0 "kind" own_s5 .null) (q9 : Fld Z h0 a own_s0 "selections" own_s16 .null) (q10 : Fld Z h0 a own_s0 "projection" own_s17 .null) (q11 : Exa Z h0 ls own_s1) (q12 : own_A Z h0 arr kk (.object own_s2) [(.ref x0), .null, .null, .null, .null, .null, .null, .null, .null, .null]) (q13 : Exa Z h0 arr own_s3) (q14 : Fld Z h0 ls own_s1 "elementData" own_s3 (.ref arr)) (q15 : Fld Z h0 ls own_s1 "size" "I" (.int (1 : Int32))) (q16 : Exa Z h0 x0 own_s9) (nhv : aH ≠ aV) :
    MetFree l own_m34 (head1 (Jvm.Cond.code own_m34 prog_21_method_1_code 6 none :: ws) ({ frames := 9, cells := 2, slots := 3, locals := 150 } : Room)) (fun aa U => aa = #[(.ref a), (.ref sn), (.ref sn), (.ref aH), (.ref ls), .null] ∧ Z.Warmed39 U.vm ∧ U.heap = h0) (fun _ _ _ _ _ => True) (fun _ U o U' => ∃ v L, o = .returned v ∧ Q_own_fih Z a sn ls aH aV arr kk mi eM x0 h0 v U'.heap L ∧ FrameEnd U o U' L ({ frames := 9, cells := 2, slots := 3, locals := 150 } : Room).cells ({ frames := 9, cells := 2, slots := 3, locals := 150 } : Room).slots) := by
  refine MetFree.of_bodySF pf_own_fih hisR ?_
  intro p e s m args below meth c s₁ Bd hml0 hP hK
  obtain ⟨rfl, hZ, hh⟩ := hP
  have hx := Bd.exec
  have hby := Bd.bytes
  have hlk := BodyLoose.notSynchronized Bd
  have hml : c.maxLocals = 6 := hml0
  have hown : s.vm.findClass own_s0 = some m.cls := findClass_of_methodNamed Bd.named
  have hnm := (name_of_methodNamed Bd.named Bd.method).1
  have X0 : Stand p l e ({ frames := 9, cells := 2, slots := 3, locals := 150 } : Room) s m #[(.ref a), (.ref sn), (.ref sn), (.ref aH), (.ref ls), .null] below meth c s₁ [] 0 0 := Stand.of_body Bd
  have e0 : s₁.heap = h0 := by rw [← hh, Bd.state]; rfl
  have N0 := Fr.nil Z.heap.size
  have K0 : Keep h0 h0 [a] := Keep.refl _ _
  refine own_start (Q := Q_own_fih Z a sn ls aH aV arr kk mi eM x0 h0) (ef_own_fih m (a) (sn) (sn) (aH) (ls)) ?_
  show own_G p e below (s₁.setTop (mkF m 0 #[.val (.ref a), .val (.ref sn), .val (.ref sn), .val (.ref aH), .val (.ref ls), .val .null] [])) _
  refine own_go (fun t k => XS.aloadN X0.here hx rfl (hb hby d_prog_21_method_1_code_0) rfl rfl k) ?_
  obtain ⟨_, _, ⟨T1z, L1z, k1z, n1z⟩, -, X1z, ⟨Lc1z, hQ1z, l1z, y1z, z1z⟩, st1z⟩ := X0.specialBack hx (y := own_m8) rfl hown (own_mw hZ hw 66 rfl) (own_mw hZ hw 67 rfl) (own_mw hZ hw 70 rfl) (by decide) (backOf (W := 0) (own_rec l Z a0 hw [] a h0 O0) hZ (own_hw hw 70 rfl) (own_hw hw 69 rfl) (by decide) (by decide)) (g := (mkF m 1 #[.val (.ref a), .val (.ref sn), .val (.ref sn), .val (.ref aH), .val (.ref ls), .val .null] [(.ref a)])) rfl (by rw [hml]; rfl) (Steps.refl _) (a := a) (argsL := []) (rest := []) (lenOf pd_193421996 rfl) rfl (by show 2 * 0 + _ ≤ _; exact Nat.le_of_eq rfl) (hb hby d_prog_21_method_1_code_1) (fun _ _ => ⟨rfl, e0, (by decide : 0 + 0 ≤ _), (by decide : 0 + 0 ≤ _)⟩)
  dsimp only [Pt.U, Pt.locs, Pt.cells, Pt.slots] at X1z l1z y1z z1z st1z hQ1z
  subst l1z y1z z1z
  obtain ⟨rfl, NQ1z, K1zq⟩ := hQ1z
  refine own_tr st1z ?_
  have N1z := Fr.app N0 NQ1z
  show own_G p e below (T1z.setTop (mkF m 4 #[.val (.ref a), .val (.ref sn), .val (.ref sn), .val (.ref aH), .val (.ref ls), .val .null] [])) _
  refine own_go (fun t k => XS.aload X1z.here hx rfl (hb hby d_prog_21_method_1_code_4) rfl rfl k) ?_
  obtain ⟨_, _, ⟨T2z, L2z, k2z, n2z⟩, -, X2z, ⟨Lc2z, hQ2z, l2z, y2z, z2z⟩, st2z⟩ := Jvm.LawKit.callS X1z hx (y := own_m29) hown (own_mw hZ hw 72 rfl) (own_mw hZ hw 73 rfl) (own_mw hZ hw 74 rfl) (own_mw hZ hw 75 rfl) (by decide) (backOf (W := 0) (own_cpoS1 l Z a0 hw [] ls arr kk mi eM x0 h0 O0 MI S_EM q11 q12 q13 q14 q15 q16) hZ (own_hw hw 75 rfl) (own_hw hw 74 rfl) (by decide) (by decide)) (g := (mkF m 6 #[.val (.ref a), .val (.ref sn), .val (.ref sn), .val (.ref aH), .val (.ref ls), .val .null] [(.ref ls)])) rfl (by rw [hml]; rfl) (argsL := [(.ref ls)]) (rest := []) (lenOf pd_548093608 rfl) rfl (by show 2 * 0 + _ ≤ _; exact Nat.le_of_eq rfl) (hb hby d_prog_21_method_1_code_6) (fun _ _ => ⟨rfl, K1zq, (by decide : 0 + 2 ≤ _), (by decide : 0 + 3 ≤ _)⟩)
  dsimp only [Pt.U, Pt.locs, Pt.cells, Pt.slots] at X2z l2z y2z z2z st2z hQ2z
  subst l2z y2z z2z
  obtain ⟨r_2z, rfl, NQ2z, K2zq, r2z_0, r2z_1, r2z_2, r2z_3⟩ := hQ2z
  refine own_go st2z ?_
  have N2z := Fr.app N1z NQ2z
  have O3z := own_ext_keep O0 K2zq all0
  have K3z := K0.trans K2zq all0
  have lz_r_2z : h0.size ≤ r_2z := Nat.le_trans K0.1 r2z_2
  have ne_a_r_2z : a ≠ r_2z := Nat.ne_of_lt (Nat.lt_of_lt_of_le q4.lt r2z_2)
  have ne_ls_r_2z : ls ≠ r_2z := Nat.ne_of_lt (Nat.lt_of_lt_of_le q11.lt r2z_2)
  have ne_arr_r_2z : arr ≠ r_2z := Nat.ne_of_lt (Nat.lt_of_lt_of_le q12.lt r2z_2)
  have ne_x0_r_2z : x0 ≠ r_2z := Nat.ne_of_lt (Nat.lt_of_lt_of_le q16.lt r2z_2)
  show own_G p e below (T2z.setTop (mkF m 9 #[.val (.ref a), .val (.ref sn), .val (.ref sn), .val (.ref aH), .val (.ref ls), .val .null] [(.ref r_2z)])) _
  refine own_go (fun t k => XS.astore X2z.here hx rfl (hb hby d_prog_21_method_1_code_9) rfl rfl (l' := #[.val (.ref a), .val (.ref sn), .val (.ref sn), .val (.ref aH), .val (.ref r_2z), .val .null]) rfl k) ?_
  refine own_go (fun t k => XS.aload X2z.here hx rfl (hb hby d_prog_21_method_1_code_11) rfl rfl k) ?_
  obtain ⟨cq4z, kq4z, qa4z, qb4z, qc4z⟩ := isOf hZ (rfl : T2z.heap = _) r2z_0
  obtain ⟨_, _, ⟨T4z, L4z, k4z, n4z⟩, -, X4z, ⟨Lc4z, hQ4z, l4z, y4z, z4z⟩, st4z⟩ := X2z.interfaceBack hx (xi := own_m35) (y := own_m33) hown (own_mw hZ hw 101 rfl) (own_mw hZ hw 102 rfl) (own_mw hZ hw 103 rfl) (own_mw hZ hw 263 rfl) (own_mw hZ hw 264 rfl) (own_mw hZ hw 265 rfl) (own_mw hZ hw 266 rfl) (own_mw hZ hw 240 rfl) (by decide) (backOf (W := 0) (own_l1e l Z a0 hw [] r_2z T2z.heap O3z) hZ (own_hw hw 267 rfl) (own_hw hw 198 rfl) (by decide) (by decide)) qa4z qb4z qc4z (g := (mkF m 13 #[.val (.ref a), .val (.ref sn), .val (.ref sn), .val (.ref aH), .val (.ref r_2z), .val .null] [(.ref r_2z)])) rfl (by rw [hml]; rfl) (Steps.refl _) (argsL := []) (rest := []) (lenOf pd_193422000 rfl) rfl (by show 2 * 0 + _ ≤ _; exact Nat.le_of_eq rfl) (hb hby d_prog_21_method_1_code_13) (fun _ _ => ⟨rfl, rfl, (by decide : 2 + 0 ≤ _), (by decide : 3 + 0 ≤ _)⟩)
  dsimp only [Pt.U, Pt.locs, Pt.cells, Pt.slots] at X4z l4z y4z z4z st4z hQ4z
  subst l4z y4z z4z
  obtain ⟨rfl, NQ4z, K4zq⟩ := hQ4z
  refine own_tr st4z ?_
  have N4z := Fr.app N2z NQ4z
  show own_G p e below (T4z.setTop (mkF m 18 #[.val (.ref a), .val (.ref sn), .val (.ref sn), .val (.ref aH), .val (.ref r_2z), .val .null] [(.int (0 : Int32))])) _
  refine own_go (fun t k => XS.aloadN X4z.here hx rfl (hb hby d_prog_21_method_1_code_18) rfl rfl k) ?_
  obtain ⟨T5z, X5z, e5z, st5z⟩ := getS2 X4z hx hZ hown (host := "") (Or.inl (own_hw hw 113 rfl)) Via.refl K4zq (S_H.ext O3z) (g := (mkF m 19 #[.val (.ref a), .val (.ref sn), .val (.ref sn), .val (.ref aH), .val (.ref r_2z), .val .null] [(.ref aH), (.int (0 : Int32))])) rfl (hb hby d_prog_21_method_1_code_19)
  refine own_go st5z ?_
  refine own_go (fun t k => Jvm.RoadKit.acmp (g := (mkF m 22 #[.val (.ref a), .val (.ref sn), .val (.ref sn), .val (.ref aH), .val (.ref r_2z), .val .null] [(.ref aH), (.ref aH), (.int (0 : Int32))])) X5z hx rfl rfl rfl (pc0 := 22) (pc' := 25) (same := true) rfl (hb hby d_prog_21_method_1_code_22) rfl (decide_eq_true (congrArg Value.ref rfl)) (by decide) (by decide) k) ?_
  show own_G p e below (T5z.setTop (mkF m 25 #[.val (.ref a), .val (.ref sn), .val (.ref sn), .val (.ref aH), .val (.ref r_2z), .val .null] [(.int (0 : Int32))])) _
  refine own_go (fun t k => XS.iconst X5z.here hx rfl (hb hby d_prog_21_method_1_code_25) k) ?_
  refine own_go (fun t k => XS.goto X5z.here hx rfl (pc0 := 26) (pc' := 30) rfl (hb hby d_prog_21_method_1_code_26) (by decide) (by decide) k) ?_
  show own_G p e below (T5z.setTop (mkF m 30 #[.val (.ref a), .val (.ref sn), .val (.ref sn), .val (.ref aH), .val (.ref r_2z), .val .null] [(.int (1 : Int32)), (.int (0 : Int32))])) _
  refine own_go (fun t k => XS.icmpNo X5z.here hx rfl (hb hby d_prog_21_method_1_code_30) rfl (feq (by decide : ¬ ((0 : Int32) = (1 : Int32)))).1 k) ?_
  show own_G p e below (T5z.setTop (mkF m 33 #[.val (.ref a), .val (.ref sn), .val (.ref sn), .val (.ref aH), .val (.ref r_2z), .val .null] [])) _
  refine own_go (fun t k => XS.aload X5z.here hx rfl (hb hby d_prog_21_method_1_code_33) rfl rfl k) ?_
  refine own_go (fun t k => XS.ifnonnullNo X5z.here hx rfl (hb hby d_prog_21_method_1_code_35) rfl k) ?_
  show own_G p e below (T5z.setTop (mkF m 38 #[.val (.ref a), .val (.ref sn), .val (.ref sn), .val (.ref aH), .val (.ref r_2z), .val .null] [])) _
  refine own_go (fun t k => XS.iconst X5z.here hx rfl (hb hby d_prog_21_method_1_code_38) k) ?_
  refine own_go (fun t k => XS.goto X5z.here hx rfl (pc0 := 39) (pc' := 43) rfl (hb hby d_prog_21_method_1_code_39) (by decide) (by decide) k) ?_
  show own_G p e below (T5z.setTop (mkF m 43 #[.val (.ref a), .val (.ref sn), .val (.ref sn), .val (.ref aH), .val (.ref r_2z), .val .null] [(.int (1 : Int32))])) _
  refine own_go (fun t k => XS.aloadN X5z.here hx rfl (hb hby d_prog_21_method_1_code_43) rfl rfl k) ?_
  obtain ⟨T6z, X6z, e6z, st6z⟩ := getS2 X5z hx hZ hown (host := "") (Or.inl (own_hw hw 114 rfl)) Via.refl e5z (S_V.ext O3z) (g := (mkF m 44 #[.val (.ref a), .val (.ref sn), .val (.ref sn), .val (.ref aH), .val (.ref r_2z), .val .null] [(.ref aH), (.int (1 : Int32))])) rfl (hb hby d_prog_21_method_1_code_44)
  refine own_go st6z ?_
  refine own_go (fun t k => Jvm.RoadKit.acmp (g := (mkF m 47 #[.val (.ref a), .val (.ref sn), .val (.ref sn), .val (.ref aH), .val (.ref r_2z), .val .null] [(.ref aV), (.ref aH), (.int (1 : Int32))])) X6z hx rfl rfl rfl (pc0 := 47) (pc' := 54) (same := false) rfl (hb hby d_prog_21_method_1_code_47) rfl (decide_eq_false fun q => nhv (Value.ref.inj q)) (by decide) (by decide) k) ?_
  show own_G p e below (T6z.setTop (mkF m 54 #[.val (.ref a), .val (.ref sn), .val (.ref sn), .val (.ref aH), .val (.ref r_2z), .val .null] [(.int (1 : Int32))])) _
  refine own_go (fun t k => XS.iconst X6z.here hx rfl (hb hby d_prog_21_method_1_code_54) k) ?_
  refine own_go (fun t k => XS.icmpYes X6z.here hx rfl (pc0 := 55) (pc' := 76) rfl (hb hby d_prog_21_method_1_code_55) rfl (feq (by decide : ¬ ((1 : Int32) = (0 : Int32)))).2 (by decide) (by decide) k) ?_
  show own_G p e below (T6z.setTop (mkF m 76 #[.val (.ref a), .val (.ref sn), .val (.ref sn), .val (.ref aH), .val (.ref r_2z), .val .null] [])) _
  refine own_go (fun t k => XS.aloadN X6z.here hx rfl (hb hby d_prog_21_method_1_code_76) rfl rfl k) ?_
  refine own_go (fun t k => XS.aloadN X6z.here hx rfl (hb hby d_prog_21_method_1_code_77) rfl rfl k) ?_
  obtain ⟨T7z, h7z, X7z, e7z, W7z, st7z⟩ := putF X6z hx hZ hown (host := "") (Or.inl (own_hw hw 116 rfl)) Via.refl e6z (q6.keep K2zq (by simp)) (q4.keep K2zq) (Or.inr ⟨(own_hw hw 117 rfl), rfl, hnm⟩) (own_hw hw 61 rfl) (ty := (.object own_s11)) (by decide) rfl rfl (g := (mkF m 78 #[.val (.ref a), .val (.ref sn), .val (.ref sn), .val (.ref aH), .val (.ref r_2z), .val .null] [(.ref sn), (.ref a)])) rfl rfl (hb hby d_prog_21_method_1_code_78)
  refine own_go st7z ?_
  have N7z := Fr.snoc X7z N4z q5
  have F7z : Fld Z h7z a own_s0 "name" own_s18 (.ref sn) := (q6.keep K2zq (by simp)).same W7z
  have O8z := own_ext_wr O3z W7z q5
  have K8z := K3z.wr W7z (Or.inl (List.mem_of_getElem? (i := 0) rfl))
  refine own_go (fun t k => XS.aloadN X7z.here hx rfl (hb hby d_prog_21_method_1_code_81) rfl rfl k) ?_
  refine own_go (fun t k => XS.aloadN X7z.here hx rfl (hb hby d_prog_21_method_1_code_82) rfl rfl k) ?_
  have f9z := ((q7.keep K2zq (by simp)).other W7z (Or.inr (slot_ne (Or.inr (own_hw hw 119 rfl)) (Or.inr (own_hw hw 117 rfl)) (by decide) (t := (.object own_s11)) (t' := (.object own_s11)) (by decide) (by decide))))
  obtain ⟨T10z, h10z, X10z, e10z, W10z, st10z⟩ := putF X7z hx hZ hown (host := "") (Or.inl (own_hw hw 118 rfl)) Via.refl e7z f9z ((q4.keep K2zq).wr W7z) (Or.inr ⟨(own_hw hw 119 rfl), rfl, hnm⟩) (own_hw hw 61 rfl) (ty := (.object own_s11)) (by decide) rfl rfl (g := (mkF m 83 #[.val (.ref a), .val (.ref sn), .val (.ref sn), .val (.ref aH), .val (.ref r_2z), .val .null] [(.ref sn), (.ref a)])) rfl rfl (hb hby d_prog_21_method_1_code_83)
  refine own_go st10z ?_
  have N10z := Fr.snoc X10z N7z q5
  have F10z : Fld Z h10z a own_s0 "site" own_s18 (.ref sn) := f9z.same W10z
  have O11z := own_ext_wr O8z W10z q5
  have K11z := K8z.wr W10z (Or.inl (List.mem_of_getElem? (i := 0) rfl))
  refine own_go (fun t k => XS.aloadN X10z.here hx rfl (hb hby d_prog_21_method_1_code_86) rfl rfl k) ?_
  refine own_go (fun t k => XS.aloadN X10z.here hx rfl (hb hby d_prog_21_method_1_code_87) rfl rfl k) ?_
  have f12z := (((q8.keep K2zq (by simp)).other W7z (Or.inr (slot_ne (Or.inr (own_hw hw 121 rfl)) (Or.inr (own_hw hw 117 rfl)) (by decide) (t := (.object own_s4)) (t' := (.object own_s11)) (by decide) (by decide)))).other W10z (Or.inr (slot_ne (Or.inr (own_hw hw 121 rfl)) (Or.inr (own_hw hw 119 rfl)) (by decide) (t := (.object own_s4)) (t' := (.object own_s11)) (by decide) (by decide))))
  obtain ⟨T13z, h13z, X13z, e13z, W13z, st13z⟩ := putF X10z hx hZ hown (host := "") (Or.inl (own_hw hw 120 rfl)) Via.refl e10z f12z (((q4.keep K2zq).wr W7z).wr W10z) (Or.inr ⟨(own_hw hw 121 rfl), rfl, hnm⟩) (own_hw hw 61 rfl) (ty := (.object own_s4)) (by decide) rfl rfl (g := (mkF m 88 #[.val (.ref a), .val (.ref sn), .val (.ref sn), .val (.ref aH), .val (.ref r_2z), .val .null] [(.ref aH), (.ref a)])) rfl rfl (hb hby d_prog_21_method_1_code_88)
  refine own_go st13z ?_
  have N13z := Fr.snoc X13z N10z q5
  have F13z : Fld Z h13z a own_s0 "kind" own_s5 (.ref aH) := f12z.same W13z
  have O14z := own_ext_wr O11z W13z q5
  have K14z := K11z.wr W13z (Or.inl (List.mem_of_getElem? (i := 0) rfl))
  show own_G p e below (T13z.setTop (mkF m 91 #[.val (.ref a), .val (.ref sn), .val (.ref sn), .val (.ref aH), .val (.ref r_2z), .val .null] [])) _
  refine own_go (fun t k => XS.aloadN X13z.here hx rfl (hb hby d_prog_21_method_1_code_91) rfl rfl k) ?_
  refine own_go (fun t k => XS.aload X13z.here hx rfl (hb hby d_prog_21_method_1_code_92) rfl rfl k) ?_
  have f15z := ((((q9.keep K2zq (by simp)).other W7z (Or.inr (slot_ne (Or.inr (own_hw hw 123 rfl)) (Or.inr (own_hw hw 117 rfl)) (by decide) (t := (.object own_s15)) (t' := (.object own_s11)) (by decide) (by decide)))).other W10z (Or.inr (slot_ne (Or.inr (own_hw hw 123 rfl)) (Or.inr (own_hw hw 119 rfl)) (by decide) (t := (.object own_s15)) (t' := (.object own_s11)) (by decide) (by decide)))).other W13z (Or.inr (slot_ne (Or.inr (own_hw hw 123 rfl)) (Or.inr (own_hw hw 121 rfl)) (by decide) (t := (.object own_s15)) (t' := (.object own_s4)) (by decide) (by decide))))
  obtain ⟨T16z, h16z, X16z, e16z, W16z, st16z⟩ := putF X13z hx hZ hown (host := "") (Or.inl (own_hw hw 122 rfl)) Via.refl e13z f15z ((((q4.keep K2zq).wr W7z).wr W10z).wr W13z) (Or.inr ⟨(own_hw hw 123 rfl), rfl, hnm⟩) (own_hw hw 61 rfl) (ty := (.object own_s15)) (by decide) rfl rfl (g := (mkF m 94 #[.val (.ref a), .val (.ref sn), .val (.ref sn), .val (.ref aH), .val (.ref r_2z), .val .null] [(.ref r_2z), (.ref a)])) rfl rfl (hb hby d_prog_21_method_1_code_94)
  refine own_go st16z ?_
  have N16z := Fr.snoc X16z N13z q5
  have F16z : Fld Z h16z a own_s0 "selections" own_s16 (.ref r_2z) := f15z.same W16z
  have O17z := own_ext_wr O14z W16z q5
  have K17z := K14z.wr W16z (Or.inl (List.mem_of_getElem? (i := 0) rfl))
  refine own_go (fun t k => XS.aloadN X16z.here hx rfl (hb hby d_prog_21_method_1_code_97) rfl rfl k) ?_
  refine own_go (fun t k => XS.aload X16z.here hx rfl (hb hby d_prog_21_method_1_code_98) rfl rfl k) ?_
  have f18z := (((((q10.keep K2zq (by simp)).other W7z (Or.inr (slot_ne (Or.inr (own_hw hw 125 rfl)) (Or.inr (own_hw hw 117 rfl)) (by decide) (t := (.object own_s14)) (t' := (.object own_s11)) (by decide) (by decide)))).other W10z (Or.inr (slot_ne (Or.inr (own_hw hw 125 rfl)) (Or.inr (own_hw hw 119 rfl)) (by decide) (t := (.object own_s14)) (t' := (.object own_s11)) (by decide) (by decide)))).other W13z (Or.inr (slot_ne (Or.inr (own_hw hw 125 rfl)) (Or.inr (own_hw hw 121 rfl)) (by decide) (t := (.object own_s14)) (t' := (.object own_s4)) (by decide) (by decide)))).other W16z (Or.inr (slot_ne (Or.inr (own_hw hw 125 rfl)) (Or.inr (own_hw hw 123 rfl)) (by decide) (t := (.object own_s14)) (t' := (.object own_s15)) (by decide) (by decide))))
  obtain ⟨T19z, h19z, X19z, e19z, W19z, st19z⟩ := putF X16z hx hZ hown (host := "") (Or.inl (own_hw hw 124 rfl)) Via.refl e16z f18z (((((q4.keep K2zq).wr W7z).wr W10z).wr W13z).wr W16z) (Or.inr ⟨(own_hw hw 125 rfl), rfl, hnm⟩) (own_hw hw 61 rfl) (ty := (.object own_s14)) (by decide) rfl rfl (g := (mkF m 100 #[.val (.ref a), .val (.ref sn), .val (.ref sn), .val (.ref aH), .val (.ref r_2z), .val .null] [.null, (.ref a)])) rfl rfl (hb hby d_prog_21_method_1_code_100)
  refine own_go st19z ?_
  have N19z := Fr.snoc X19z N16z q5
  have F19z : Fld Z h19z a own_s0 "projection" own_s17 .null := f18z.same W19z
  have O20z := own_ext_wr O17z W19z q5
  have K20z := K17z.wr W19z (Or.inl (List.mem_of_getElem? (i := 0) rfl))
  have f21z := ((((((q4.keep K2zq).wr W7z).wr W10z).wr W13z).wr W16z).wr W19z)
  have f22z := ((F13z.other W16z (Or.inr (slot_ne (Or.inr (own_hw hw 121 rfl)) (Or.inr (own_hw hw 123 rfl)) (by decide) (t := (.object own_s4)) (t' := (.object own_s15)) (by decide) (by decide)))).other W19z (Or.inr (slot_ne (Or.inr (own_hw hw 121 rfl)) (Or.inr (own_hw hw 125 rfl)) (by decide) (t := (.object own_s4)) (t' := (.object own_s14)) (by decide) (by decide))))
  exact own_retV X19z hx Bd.returns (hb hby d_prog_21_method_1_code_103) hlk (Nat.le_of_ble_eq_true rfl) (Nat.le_of_ble_eq_true rfl) (by show Q_own_fih Z a sn ls aH aV arr kk mi eM x0 h0 _ T19z.heap _; rw [e19z]; exact ⟨rfl, N19z, K20z, f21z, f22z⟩)
theorem ef_own_mke0 (m : MethodId) (x0 : Addr) (x1 : Int32) : entryFrame m #[(.ref x0), (.int x1)] 4 = mkF m 0 #[.val (.ref x0), .val (.int x1), .unset, .unset] [] := by first | (simp [entryFrame, mkF, argsToLocals, Value.category]; done) | rfl
theorem pf_own_mke0 : plainFor own_m36 = true := plainFor_of_name (by simp [plainName, overriddenIn])
theorem pd_1709310937 : parseMethodDescriptor "(C)Ljava/lang/String;" = some ⟨[.char], some (.object "java/lang/String")⟩ := by decide +kernel
theorem pd_1504261874 : parseMethodDescriptor "(Ljava/lang/String;Ljava/lang/String;Lcom/example/treeshard/treeshard/model/Design$Kind;Ljava/util/List;Lcom/example/treeshard/treeshard/model/Projection;)V" = some ⟨[(.object "java/lang/String"), (.object "java/lang/String"), (.object "com/example/treeshard/treeshard/model/Design$Kind"), (.object "java/util/List"), (.object "com/example/treeshard/treeshard/model/Projection")], none⟩ := by decide +kernel
theorem d_method_2_code_0 : decode method_2_code 0 = .ok (.new 7, 3) := by decide +kernel
theorem d_method_2_code_12 : decode method_2_code 12 = .ok (.if_acmp .ne 18, 3) := by decide +kernel
theorem d_method_2_code_3 : decode method_2_code 3 = .ok (.dup, 1) := by decide +kernel
theorem d_method_2_code_30 : decode method_2_code 30 = .ok (.bipush 97, 2) := by decide +kernel
theorem d_method_2_code_32 : decode method_2_code 32 = .ok (.iload_n 1, 1) := by decide +kernel
theorem d_method_2_code_33 : decode method_2_code 33 = .ok (.iadd, 1) := by decide +kernel
theorem d_method_2_code_34 : decode method_2_code 34 = .ok (.i2c, 1) := by decide +kernel
theorem d_method_2_code_35 : decode method_2_code 35 = .ok (.invokestatic 25, 3) := by decide +kernel
theorem d_method_2_code_38 : decode method_2_code 38 = .ok (.astore_n 3, 1) := by decide +kernel
theorem d_method_2_code_39 : decode method_2_code 39 = .ok (.new 31, 3) := by decide +kernel
theorem d_method_2_code_4 : decode method_2_code 4 = .ok (.invokespecial 9, 3) := by decide +kernel
theorem d_method_2_code_42 : decode method_2_code 42 = .ok (.dup, 1) := by decide +kernel
theorem d_method_2_code_43 : decode method_2_code 43 = .ok (.aload_n 3, 1) := by decide +kernel
theorem d_method_2_code_44 : decode method_2_code 44 = .ok (.aload_n 3, 1) := by decide +kernel
theorem d_method_2_code_45 : decode method_2_code 45 = .ok (.aload_n 0, 1) := by decide +kernel
theorem d_method_2_code_46 : decode method_2_code 46 = .ok (.aload_n 2, 1) := by decide +kernel
theorem d_method_2_code_47 : decode method_2_code 47 = .ok (.aconst_null, 1) := by decide +kernel
theorem d_method_2_code_48 : decode method_2_code 48 = .ok (.invokespecial 33, 3) := by decide +kernel
theorem d_method_2_code_51 : decode method_2_code 51 = .ok (.areturn, 1) := by decide +kernel
theorem d_method_2_code_7 : decode method_2_code 7 = .ok (.astore_n 2, 1) := by decide +kernel
theorem d_method_2_code_8 : decode method_2_code 8 = .ok (.aload_n 0, 1) := by decide +kernel
theorem d_method_2_code_9 : decode method_2_code 9 = .ok (.getstatic 10, 3) := by decide +kernel
def Q_own_mke0 (Z : State) (dE : Addr) (kd : ClassId) (cs : Int32) (aH : Addr) (aV : Addr) (kn : Addr) (eL : Addr) (eA : Addr) (ke : ClassId) (h0 : Heap) (v : Option Value) (h : Heap) (L : List Loc) : Prop := ∃ r : Addr, v = some (.ref r) ∧ Fr Z.heap.size L ∧ Keep h0 h [] ∧ (Exa Z h r own_s0) ∧ (Z.heap.size ≤ r) ∧ (h0.size ≤ r) ∧ (Fld Z h r own_s0 "kind" own_s5 (.ref kn))
set_option maxRecDepth 65536 in
set_option maxHeartbeats 40000000 in
theorem own_mke0 (l : Launch) (Z : State) (a0 : Array Value) (hw : ∀ d ∈ tables_1, d.before a0 Z = true) (ws : List Jvm.Cond) (dE : Addr) (kd : ClassId) (cs : Int32) (aH : Addr) (aV : Addr) (kn : Addr) (eL : Addr) (eA : Addr) (ke : ClassId) (h0 : Heap) (O0 : Ext Z.heap h0) (S_D : Sta Z Z.heap own_s1 own_s19 own_s3 (.ref dE)) (BD : own_A Z Z.heap dE kd (.object own_s2) []) (S_CS : Sta Z Z.heap own_s11 "COMPACT_STRINGS" "Z" (.int cs)) (hcs : ¬ (cs = (0 : Int32))) (S_H : Sta Z Z.heap own_s4 "HORIZONTAL" own_s5 (.ref aH)) (S_V : Sta Z Z.heap own_s4 "VERTICAL" own_s5 (.ref aV)) (S_EL : Sta Z Z.heap own_s12 "EMPTY_LIST" own_s22 (.ref eL)) (F_EL : Fld Z Z.heap eL own_s10 "elements" own_s3 (.ref eA)) (B_EL : own_A Z Z.heap eA ke (.object own_s2) []) (E_EL : Exa Z Z.heap eL own_s10) (nkh : kn ≠ aH) (nkv : kn ≠ aV) :
    MetFree l own_m36 (head1 (Jvm.Cond.code own_m36 method_2_code 4 (some (.object own_s0)) :: ws) ({ frames := 10, cells := 4, slots := 13, locals := 180 } : Room)) (fun aa U => aa = #[(.ref kn), (.int (0 : Int32))] ∧ Z.Warmed39 U.vm ∧ U.heap = h0) (fun _ _ _ _ _ => True) (fun _ U o U' => ∃ v L, o = .returned v ∧ Q_own_mke0 Z dE kd cs aH aV kn eL eA ke h0 v U'.heap L ∧ FrameEnd U o U' L ({ frames := 10, cells := 4, slots := 13, locals := 180 } : Room).cells ({ frames := 10, cells := 4, slots := 13, locals := 180 } : Room).slots) := by
  refine MetFree.of_bodySF pf_own_mke0 hisR ?_
  intro p e s m args below meth c s₁ Bd hml0 hP hK
  obtain ⟨rfl, hZ, hh⟩ := hP
  have hx := Bd.exec
  have hby := Bd.bytes
  have hlk := BodyLoose.notSynchronized Bd
  have hml : c.maxLocals = 4 := hml0
  have hown : s.vm.findClass own_s20 = some m.cls := findClass_of_methodNamed Bd.named
  have hnm := (name_of_methodNamed Bd.named Bd.method).1
  have X0 : Stand p l e ({ frames := 10, cells := 4, slots := 13, locals := 180 } : Room) s m #[(.ref kn), (.int (0 : Int32))] below meth c s₁ [] 0 0 := Stand.of_body Bd
  have e0 : s₁.heap = h0 := by rw [← hh, Bd.state]; rfl
  have N0 := Fr.nil Z.heap.size
  have K0 : Keep h0 h0 [] := Keep.refl _ _
  refine own_start (Q := Q_own_mke0 Z dE kd cs aH aV kn eL eA ke h0) (ef_own_mke0 m (kn) ((0 : Int32))) ?_
  show own_G p e below (s₁.setTop (mkF m 0 #[.val (.ref kn), .val (.int (0 : Int32)), .unset, .unset] [])) _
  obtain ⟨T1z, h1z, X1z, e1z, E1z, A1z, D1z, -, st1z⟩ := newO X0 hx hZ hown (own_hw hw 4 rfl) (own_hw hw 5 rfl) (own_hw hw 6 rfl) e0 (g := (mkF m 0 #[.val (.ref kn), .val (.int (0 : Int32)), .unset, .unset] [])) rfl (hb hby d_method_2_code_0) (by decide) (by decide)
  obtain ⟨b1z, g1z⟩ : ∃ z, z = h0.size := ⟨_, rfl⟩
  rw [← g1z] at A1z D1z st1z
  have fr_b1z : Z.heap.size ≤ b1z := g1z ▸ O0.1
  have lz_b1z : h0.size ≤ b1z := g1z ▸ K0.1
  have O2z := own_ext_trans O0 E1z
  have K2z := K0.ext E1z
  have F1z_modCount : Fld Z h1z b1z own_s7 "modCount" "I" (.int (0 : Int32)) := D1z (Or.inl (own_hw hw 26 rfl)) (ty := .int) (by decide)
  have F1z_elementData : Fld Z h1z b1z own_s1 "elementData" own_s3 .null := D1z (Or.inl (own_hw hw 29 rfl)) (ty := (.array (.object own_s2))) (by decide)
  have F1z_size : Fld Z h1z b1z own_s1 "size" "I" (.int (0 : Int32)) := D1z (Or.inl (own_hw hw 96 rfl)) (ty := .int) (by decide)
  refine own_go st1z ?_
  refine own_go (fun t k => XS.dup X1z.here hx rfl (hb hby d_method_2_code_3) rfl rfl k) ?_
  obtain ⟨_, _, ⟨T3z, L3z, k3z, n3z⟩, -, X3z, ⟨Lc3z, hQ3z, l3z, y3z, z3z⟩, st3z⟩ := X1z.specialBack hx (y := own_m2) rfl hown (own_mw hZ hw 7 rfl) (own_mw hZ hw 8 rfl) (own_mw hZ hw 9 rfl) (by decide) (backOf (W := 1) (own_ali l Z a0 hw [] b1z dE h1z O2z S_D A1z fr_b1z F1z_modCount F1z_elementData F1z_size) hZ (own_hw hw 9 rfl) (own_hw hw 6 rfl) (by decide) (by decide)) (g := (mkF m 4 #[.val (.ref kn), .val (.int (0 : Int32)), .unset, .unset] [(.ref b1z), (.ref b1z)])) rfl (by rw [hml]; rfl) (Steps.refl _) (a := b1z) (argsL := []) (rest := [(.ref b1z)]) (lenOf pd_193421996 rfl) rfl (by show 2 * 0 + _ ≤ _; exact Nat.le_of_eq rfl) (hb hby d_method_2_code_4) (fun _ _ => ⟨rfl, e1z, (by decide : 1 + 0 ≤ _), (by decide : 3 + 0 ≤ _)⟩)
  dsimp only [Pt.U, Pt.locs, Pt.cells, Pt.slots] at X3z l3z y3z z3z st3z hQ3z
  subst l3z y3z z3z
  obtain ⟨rfl, NQ3z, K3zq, r3z_0, r3z_1, r3z_2, r3z_3⟩ := hQ3z
  refine own_tr st3z ?_
  have N3z := Fr.app N0 NQ3z
  have O4z := own_ext_keep O2z K3zq (allS fr_b1z all0)
  have K4z := K2z.trans K3zq (allS (Or.inr lz_b1z) all0)
  show own_G p e below (T3z.setTop (mkF m 7 #[.val (.ref kn), .val (.int (0 : Int32)), .unset, .unset] [(.ref b1z)])) _
  refine own_go (fun t k => XS.astoreN X3z.here hx rfl (hb hby d_method_2_code_7) rfl rfl (l' := #[.val (.ref kn), .val (.int (0 : Int32)), .val (.ref b1z), .unset]) rfl k) ?_
  refine own_go (fun t k => XS.aloadN X3z.here hx rfl (hb hby d_method_2_code_8) rfl rfl k) ?_
  obtain ⟨T5z, X5z, e5z, st5z⟩ := getS2 X3z hx hZ hown (host := "") (Or.inl (own_hw hw 34 rfl)) Via.refl rfl (S_H.ext O4z) (g := (mkF m 9 #[.val (.ref kn), .val (.int (0 : Int32)), .val (.ref b1z), .unset] [(.ref kn)])) rfl (hb hby d_method_2_code_9)
  refine own_go st5z ?_
  refine own_go (fun t k => Jvm.RoadKit.acmp (g := (mkF m 12 #[.val (.ref kn), .val (.int (0 : Int32)), .val (.ref b1z), .unset] [(.ref aH), (.ref kn)])) X5z hx rfl rfl rfl (pc0 := 12) (pc' := 30) (same := false) rfl (hb hby d_method_2_code_12) rfl (decide_eq_false fun q => nkh (Value.ref.inj q)) (by decide) (by decide) k) ?_
  show own_G p e below (T5z.setTop (mkF m 30 #[.val (.ref kn), .val (.int (0 : Int32)), .val (.ref b1z), .unset] [])) _
  refine own_go (fun t k => XS.bipush X5z.here hx rfl (hb hby d_method_2_code_30) k) ?_
  refine own_go (fun t k => XS.iloadN X5z.here hx rfl (hb hby d_method_2_code_32) rfl k) ?_
  refine own_go (fun t k => XS.iadd X5z.here hx rfl (hb hby d_method_2_code_33) rfl k) ?_
  refine own_go (fun t k => XS.i2c X5z.here hx rfl (hb hby d_method_2_code_34) rfl k) ?_
  obtain ⟨_, _, ⟨T6z, L6z, k6z, n6z⟩, -, X6z, ⟨Lc6z, hQ6z, l6z, y6z, z6z⟩, st6z⟩ := Jvm.LawKit.callS X5z hx (y := own_m16) hown (own_mw hZ hw 36 rfl) (own_mw hZ hw 37 rfl) (own_mw hZ hw 38 rfl) (own_mw hZ hw 39 rfl) (by decide) (backOf (W := 0) (own_vo0 l Z a0 hw [] cs T3z.heap O4z S_CS hcs) hZ (own_hw hw 39 rfl) (own_hw hw 38 rfl) (by decide) (by decide)) (g := (mkF m 35 #[.val (.ref kn), .val (.int (0 : Int32)), .val (.ref b1z), .unset] [(.int (97 : Int32))])) rfl (by rw [hml]; rfl) (argsL := [(.int (97 : Int32))]) (rest := []) (lenOf pd_1709310937 rfl) rfl (by show 2 * 0 + _ ≤ _; exact Nat.le_of_eq rfl) (hb hby d_method_2_code_35) (fun _ _ => ⟨rfl, e5z, (by decide : 1 + 2 ≤ _), (by decide : 3 + 5 ≤ _)⟩)
  dsimp only [Pt.U, Pt.locs, Pt.cells, Pt.slots] at X6z l6z y6z z6z st6z hQ6z
  subst l6z y6z z6z
  obtain ⟨r_6z, rfl, NQ6z, K6zq⟩ := hQ6z
  refine own_go st6z ?_
  have N6z := Fr.app N3z NQ6z
  have O7z := own_ext_keep O4z K6zq all0
  have K7z := K4z.trans K6zq all0
  show own_G p e below (T6z.setTop (mkF m 38 #[.val (.ref kn), .val (.int (0 : Int32)), .val (.ref b1z), .unset] [(.ref r_6z)])) _
  refine own_go (fun t k => XS.astoreN X6z.here hx rfl (hb hby d_method_2_code_38) rfl rfl (l' := #[.val (.ref kn), .val (.int (0 : Int32)), .val (.ref b1z), .val (.ref r_6z)]) rfl k) ?_
  obtain ⟨T8z, h8z, X8z, e8z, E8z, A8z, D8z, -, st8z⟩ := newO X6z hx hZ hown (own_hw hw 60 rfl) (own_hw hw 61 rfl) (own_hw hw 62 rfl) rfl (g := (mkF m 39 #[.val (.ref kn), .val (.int (0 : Int32)), .val (.ref b1z), .val (.ref r_6z)] [])) rfl (hb hby d_method_2_code_39) (by decide) (by decide)
  obtain ⟨b8z, g8z⟩ : ∃ z, z = T6z.heap.size := ⟨_, rfl⟩
  rw [← g8z] at A8z D8z st8z
  have fr_b8z : Z.heap.size ≤ b8z := g8z ▸ O7z.1
  have lz_b8z : h0.size ≤ b8z := g8z ▸ K7z.1
  have ne_b1z_b8z : b1z ≠ b8z := Nat.ne_of_lt (g8z ▸ (r3z_0.keep K6zq).lt)
  have O9z := own_ext_trans O7z E8z
  have K9z := K7z.ext E8z
  have F8z_name : Fld Z h8z b8z own_s0 "name" own_s18 .null := D8z (Or.inr (own_hw hw 117 rfl)) (ty := (.object own_s11)) (by decide)
  have F8z_site : Fld Z h8z b8z own_s0 "site" own_s18 .null := D8z (Or.inr (own_hw hw 119 rfl)) (ty := (.object own_s11)) (by decide)
  have F8z_kind : Fld Z h8z b8z own_s0 "kind" own_s5 .null := D8z (Or.inr (own_hw hw 121 rfl)) (ty := (.object own_s4)) (by decide)
  have F8z_selections : Fld Z h8z b8z own_s0 "selections" own_s16 .null := D8z (Or.inr (own_hw hw 123 rfl)) (ty := (.object own_s15)) (by decide)
  have F8z_projection : Fld Z h8z b8z own_s0 "projection" own_s17 .null := D8z (Or.inr (own_hw hw 125 rfl)) (ty := (.object own_s14)) (by decide)
  refine own_go st8z ?_
  refine own_go (fun t k => XS.dup X8z.here hx rfl (hb hby d_method_2_code_42) rfl rfl k) ?_
  refine own_go (fun t k => XS.aloadN X8z.here hx rfl (hb hby d_method_2_code_43) rfl rfl k) ?_
  refine own_go (fun t k => XS.aloadN X8z.here hx rfl (hb hby d_method_2_code_44) rfl rfl k) ?_
  refine own_go (fun t k => XS.aloadN X8z.here hx rfl (hb hby d_method_2_code_45) rfl rfl k) ?_
  refine own_go (fun t k => XS.aloadN X8z.here hx rfl (hb hby d_method_2_code_46) rfl rfl k) ?_
  refine own_go (fun t k => XS.aconstNull X8z.here hx rfl (hb hby d_method_2_code_47) k) ?_
  obtain ⟨_, _, ⟨T10z, L10z, k10z, n10z⟩, -, X10z, ⟨Lc10z, hQ10z, l10z, y10z, z10z⟩, st10z⟩ := X8z.specialBack hx (y := own_m34) rfl hown (own_mw hZ hw 63 rfl) (own_mw hZ hw 64 rfl) (own_mw hZ hw 65 rfl) (by decide) (backOf (W := 1) (own_fie l Z a0 hw [] b8z r_6z kn b1z aH aV eL eA ke h8z O9z S_H S_V S_EL F_EL B_EL E_EL A8z fr_b8z F8z_name F8z_site F8z_kind F8z_selections F8z_projection ((r3z_0.keep K6zq).ext E8z) ((r3z_3.keep K6zq (by simp)).ext E8z) nkh nkv) hZ (own_hw hw 65 rfl) (own_hw hw 62 rfl) (by decide) (by decide)) (g := (mkF m 48 #[.val (.ref kn), .val (.int (0 : Int32)), .val (.ref b1z), .val (.ref r_6z)] [.null, (.ref b1z), (.ref kn), (.ref r_6z), (.ref r_6z), (.ref b8z), (.ref b8z)])) rfl (by rw [hml]; rfl) (Steps.refl _) (a := b8z) (argsL := [(.ref r_6z), (.ref r_6z), (.ref kn), (.ref b1z), .null]) (rest := [(.ref b8z)]) (lenOf pd_1504261874 rfl) rfl (by show 2 * 0 + _ ≤ _; exact Nat.le_of_eq rfl) (hb hby d_method_2_code_48) (fun _ _ => ⟨rfl, e8z, (by decide : 4 + 0 ≤ _), (by decide : 13 + 0 ≤ _)⟩)
  dsimp only [Pt.U, Pt.locs, Pt.cells, Pt.slots] at X10z l10z y10z z10z st10z hQ10z
  subst l10z y10z z10z
  obtain ⟨rfl, NQ10z, K10zq, r10z_0, r10z_1⟩ := hQ10z
  refine own_tr st10z ?_
  have N10z := Fr.app N6z NQ10z
  have O11z := own_ext_keep O9z K10zq (allS fr_b8z all0)
  have K11z := K9z.trans K10zq (allS (Or.inr lz_b8z) all0)
  show own_G p e below (T10z.setTop (mkF m 51 #[.val (.ref kn), .val (.int (0 : Int32)), .val (.ref b1z), .val (.ref r_6z)] [(.ref b8z)])) _
  exact own_ret X10z hx Bd.returns rfl (Or.inr (Or.inr (Or.inr (Or.inr ⟨rfl, rfl, rfl⟩)))) (hb hby d_method_2_code_51) hlk (Nat.le_of_ble_eq_true rfl) (Nat.le_of_ble_eq_true rfl) (by show Q_own_mke0 Z dE kd cs aH aV kn eL eA ke h0 _ T10z.heap _; exact ⟨b8z, rfl, N10z, K11z, r10z_0, fr_b8z, lz_b8z, r10z_1⟩)
theorem ef_own_mkh0 (m : MethodId) (x0 : Addr) (x1 : Int32) : entryFrame m #[(.ref x0), (.int x1)] 4 = mkF m 0 #[.val (.ref x0), .val (.int x1), .unset, .unset] [] := by first | (simp [entryFrame, mkF, argsToLocals, Value.category]; done) | rfl
theorem pf_own_mkh0 : plainFor own_m36 = true := plainFor_of_name (by simp [plainName, overriddenIn])
theorem pd_799689350 : parseMethodDescriptor "(Lcom/example/treeshard/treeshard/model/DocumentPath;Lcom/example/treeshard/treeshard/model/Selection$Test;Ljava/lang/String;)V" = some ⟨[(.object "com/example/treeshard/treeshard/model/DocumentPath"), (.object "com/example/treeshard/treeshard/model/Selection$Test"), (.object "java/lang/String")], none⟩ := by decide +kernel
theorem pd_396412080 : parseMethodDescriptor "(Ljava/lang/Object;)Z" = some ⟨[(.object "java/lang/Object")], some .boolean⟩ := by decide +kernel
theorem d_method_2_code_15 : decode method_2_code 15 = .ok (.aload_n 2, 1) := by decide +kernel
theorem d_method_2_code_16 : decode method_2_code 16 = .ok (.new 16, 3) := by decide +kernel
theorem d_method_2_code_19 : decode method_2_code 19 = .ok (.dup, 1) := by decide +kernel
theorem d_method_2_code_20 : decode method_2_code 20 = .ok (.aconst_null, 1) := by decide +kernel
theorem d_method_2_code_21 : decode method_2_code 21 = .ok (.aconst_null, 1) := by decide +kernel
theorem d_method_2_code_22 : decode method_2_code 22 = .ok (.aconst_null, 1) := by decide +kernel
theorem d_method_2_code_23 : decode method_2_code 23 = .ok (.invokespecial 18, 3) := by decide +kernel
theorem d_method_2_code_26 : decode method_2_code 26 = .ok (.invokevirtual 21, 3) := by decide +kernel
theorem d_method_2_code_29 : decode method_2_code 29 = .ok (.pop, 1) := by decide +kernel
def Q_own_mkh0 (Z : State) (dE : Addr) (kd : ClassId) (cs : Int32) (aH : Addr) (aV : Addr) (mi : Addr) (eM : Addr) (h0 : Heap) (v : Option Value) (h : Heap) (L : List Loc) : Prop := ∃ r : Addr, v = some (.ref r) ∧ Fr Z.heap.size L ∧ Keep h0 h [] ∧ (Exa Z h r own_s0) ∧ (Z.heap.size ≤ r) ∧ (h0.size ≤ r) ∧ (Fld Z h r own_s0 "kind" own_s5 (.ref aH))
set_option maxRecDepth 65536 in
set_option maxHeartbeats 40000000 in
theorem own_mkh0 (l : Launch) (Z : State) (a0 : Array Value) (hw : ∀ d ∈ tables_1, d.before a0 Z = true) (ws : List Jvm.Cond) (dE : Addr) (kd : ClassId) (cs : Int32) (aH : Addr) (aV : Addr) (mi : Addr) (eM : Addr) (h0 : Heap) (O0 : Ext Z.heap h0) (S_D : Sta Z Z.heap own_s1 own_s19 own_s3 (.ref dE)) (BD : own_A Z Z.heap dE kd (.object own_s2) []) (S_CS : Sta Z Z.heap own_s11 "COMPACT_STRINGS" "Z" (.int cs)) (hcs : ¬ (cs = (0 : Int32))) (S_H : Sta Z Z.heap own_s4 "HORIZONTAL" own_s5 (.ref aH)) (S_V : Sta Z Z.heap own_s4 "VERTICAL" own_s5 (.ref aV)) (MI : Mir Z own_s3 mi) (S_EM : Sta Z Z.heap own_s12 "EMPTY" own_s13 (.ref eM)) (nhv : aH ≠ aV) :
    MetFree l own_m36 (head1 (Jvm.Cond.code own_m36 method_2_code 4 (some (.object own_s0)) :: ws) ({ frames := 10, cells := 8, slots := 29, locals := 180 } : Room)) (fun aa U => aa = #[(.ref aH), (.int (0 : Int32))] ∧ Z.Warmed39 U.vm ∧ U.heap = h0) (fun _ _ _ _ _ => True) (fun _ U o U' => ∃ v L, o = .returned v ∧ Q_own_mkh0 Z dE kd cs aH aV mi eM h0 v U'.heap L ∧ FrameEnd U o U' L ({ frames := 10, cells := 8, slots := 29, locals := 180 } : Room).cells ({ frames := 10, cells := 8, slots := 29, locals := 180 } : Room).slots) := by
  refine MetFree.of_bodySF pf_own_mkh0 hisR ?_
  intro p e s m args below meth c s₁ Bd hml0 hP hK
  obtain ⟨rfl, hZ, hh⟩ := hP
  have hx := Bd.exec
  have hby := Bd.bytes
  have hlk := BodyLoose.notSynchronized Bd
  have hml : c.maxLocals = 4 := hml0
  have hown : s.vm.findClass own_s20 = some m.cls := findClass_of_methodNamed Bd.named
  have hnm := (name_of_methodNamed Bd.named Bd.method).1
  have X0 : Stand p l e ({ frames := 10, cells := 8, slots := 29, locals := 180 } : Room) s m #[(.ref aH), (.int (0 : Int32))] below meth c s₁ [] 0 0 := Stand.of_body Bd
  have e0 : s₁.heap = h0 := by rw [← hh, Bd.state]; rfl
  have N0 := Fr.nil Z.heap.size
  have K0 : Keep h0 h0 [] := Keep.refl _ _
  refine own_start (Q := Q_own_mkh0 Z dE kd cs aH aV mi eM h0) (ef_own_mkh0 m (aH) ((0 : Int32))) ?_
  show own_G p e below (s₁.setTop (mkF m 0 #[.val (.ref aH), .val (.int (0 : Int32)), .unset, .unset] [])) _
  obtain ⟨T1z, h1z, X1z, e1z, E1z, A1z, D1z, -, st1z⟩ := newO X0 hx hZ hown (own_hw hw 4 rfl) (own_hw hw 5 rfl) (own_hw hw 6 rfl) e0 (g := (mkF m 0 #[.val (.ref aH), .val (.int (0 : Int32)), .unset, .unset] [])) rfl (hb hby d_method_2_code_0) (by decide) (by decide)
  obtain ⟨b1z, g1z⟩ : ∃ z, z = h0.size := ⟨_, rfl⟩
  rw [← g1z] at A1z D1z st1z
  have fr_b1z : Z.heap.size ≤ b1z := g1z ▸ O0.1
  have lz_b1z : h0.size ≤ b1z := g1z ▸ K0.1
  have O2z := own_ext_trans O0 E1z
  have K2z := K0.ext E1z
  have F1z_modCount : Fld Z h1z b1z own_s7 "modCount" "I" (.int (0 : Int32)) := D1z (Or.inl (own_hw hw 26 rfl)) (ty := .int) (by decide)
  have F1z_elementData : Fld Z h1z b1z own_s1 "elementData" own_s3 .null := D1z (Or.inl (own_hw hw 29 rfl)) (ty := (.array (.object own_s2))) (by decide)
  have F1z_size : Fld Z h1z b1z own_s1 "size" "I" (.int (0 : Int32)) := D1z (Or.inl (own_hw hw 96 rfl)) (ty := .int) (by decide)
  refine own_go st1z ?_
  refine own_go (fun t k => XS.dup X1z.here hx rfl (hb hby d_method_2_code_3) rfl rfl k) ?_
  obtain ⟨_, _, ⟨T3z, L3z, k3z, n3z⟩, -, X3z, ⟨Lc3z, hQ3z, l3z, y3z, z3z⟩, st3z⟩ := X1z.specialBack hx (y := own_m2) rfl hown (own_mw hZ hw 7 rfl) (own_mw hZ hw 8 rfl) (own_mw hZ hw 9 rfl) (by decide) (backOf (W := 1) (own_ali l Z a0 hw [] b1z dE h1z O2z S_D A1z fr_b1z F1z_modCount F1z_elementData F1z_size) hZ (own_hw hw 9 rfl) (own_hw hw 6 rfl) (by decide) (by decide)) (g := (mkF m 4 #[.val (.ref aH), .val (.int (0 : Int32)), .unset, .unset] [(.ref b1z), (.ref b1z)])) rfl (by rw [hml]; rfl) (Steps.refl _) (a := b1z) (argsL := []) (rest := [(.ref b1z)]) (lenOf pd_193421996 rfl) rfl (by show 2 * 0 + _ ≤ _; exact Nat.le_of_eq rfl) (hb hby d_method_2_code_4) (fun _ _ => ⟨rfl, e1z, (by decide : 1 + 0 ≤ _), (by decide : 3 + 0 ≤ _)⟩)
  dsimp only [Pt.U, Pt.locs, Pt.cells, Pt.slots] at X3z l3z y3z z3z st3z hQ3z
  subst l3z y3z z3z
  obtain ⟨rfl, NQ3z, K3zq, r3z_0, r3z_1, r3z_2, r3z_3⟩ := hQ3z
  refine own_tr st3z ?_
  have N3z := Fr.app N0 NQ3z
  have O4z := own_ext_keep O2z K3zq (allS fr_b1z all0)
  have K4z := K2z.trans K3zq (allS (Or.inr lz_b1z) all0)
  show own_G p e below (T3z.setTop (mkF m 7 #[.val (.ref aH), .val (.int (0 : Int32)), .unset, .unset] [(.ref b1z)])) _
  refine own_go (fun t k => XS.astoreN X3z.here hx rfl (hb hby d_method_2_code_7) rfl rfl (l' := #[.val (.ref aH), .val (.int (0 : Int32)), .val (.ref b1z), .unset]) rfl k) ?_
  refine own_go (fun t k => XS.aloadN X3z.here hx rfl (hb hby d_method_2_code_8) rfl rfl k) ?_
  obtain ⟨T5z, X5z, e5z, st5z⟩ := getS2 X3z hx hZ hown (host := "") (Or.inl (own_hw hw 34 rfl)) Via.refl rfl (S_H.ext O4z) (g := (mkF m 9 #[.val (.ref aH), .val (.int (0 : Int32)), .val (.ref b1z), .unset] [(.ref aH)])) rfl (hb hby d_method_2_code_9)
  refine own_go st5z ?_
  refine own_go (fun t k => Jvm.RoadKit.acmp (g := (mkF m 12 #[.val (.ref aH), .val (.int (0 : Int32)), .val (.ref b1z), .unset] [(.ref aH), (.ref aH)])) X5z hx rfl rfl rfl (pc0 := 12) (pc' := 15) (same := true) rfl (hb hby d_method_2_code_12) rfl (decide_eq_true (congrArg Value.ref rfl)) (by decide) (by decide) k) ?_
  show own_G p e below (T5z.setTop (mkF m 15 #[.val (.ref aH), .val (.int (0 : Int32)), .val (.ref b1z), .unset] [])) _
  refine own_go (fun t k => XS.aloadN X5z.here hx rfl (hb hby d_method_2_code_15) rfl rfl k) ?_
  obtain ⟨T6z, h6z, X6z, e6z, E6z, A6z, D6z, -, st6z⟩ := newO X5z hx hZ hown (own_hw hw 249 rfl) (own_hw hw 250 rfl) (own_hw hw 251 rfl) e5z (g := (mkF m 16 #[.val (.ref aH), .val (.int (0 : Int32)), .val (.ref b1z), .unset] [(.ref b1z)])) rfl (hb hby d_method_2_code_16) (by decide) (by decide)
  obtain ⟨b6z, g6z⟩ : ∃ z, z = T3z.heap.size := ⟨_, rfl⟩
  rw [← g6z] at A6z D6z st6z
  have fr_b6z : Z.heap.size ≤ b6z := g6z ▸ O4z.1
  have lz_b6z : h0.size ≤ b6z := g6z ▸ K4z.1
  have ne_b1z_b6z : b1z ≠ b6z := Nat.ne_of_lt (g6z ▸ r3z_0.lt)
  have O7z := own_ext_trans O4z E6z
  have K7z := K4z.ext E6z
  have F6z_path : Fld Z h6z b6z own_s9 "path" own_s25 .null := D6z (Or.inr (own_hw hw 257 rfl)) (ty := (.object own_s23)) (by decide)
  have F6z_test : Fld Z h6z b6z own_s9 "test" own_s24 .null := D6z (Or.inr (own_hw hw 259 rfl)) (ty := (.object own_s21)) (by decide)
  have F6z_value : Fld Z h6z b6z own_s9 "value" own_s18 .null := D6z (Or.inr (own_hw hw 261 rfl)) (ty := (.object own_s11)) (by decide)
  refine own_go st6z ?_
  refine own_go (fun t k => XS.dup X6z.here hx rfl (hb hby d_method_2_code_19) rfl rfl k) ?_
  refine own_go (fun t k => XS.aconstNull X6z.here hx rfl (hb hby d_method_2_code_20) k) ?_
  refine own_go (fun t k => XS.aconstNull X6z.here hx rfl (hb hby d_method_2_code_21) k) ?_
  refine own_go (fun t k => XS.aconstNull X6z.here hx rfl (hb hby d_method_2_code_22) k) ?_
  obtain ⟨_, _, ⟨T8z, L8z, k8z, n8z⟩, -, X8z, ⟨Lc8z, hQ8z, l8z, y8z, z8z⟩, st8z⟩ := X6z.specialBack hx (y := own_m12) rfl hown (own_mw hZ hw 252 rfl) (own_mw hZ hw 253 rfl) (own_mw hZ hw 254 rfl) (by decide) (backOf (W := 2) (own_seli l Z a0 hw [] b6z h6z O7z A6z fr_b6z F6z_path F6z_test F6z_value) hZ (own_hw hw 254 rfl) (own_hw hw 251 rfl) (by decide) (by decide)) (g := (mkF m 23 #[.val (.ref aH), .val (.int (0 : Int32)), .val (.ref b1z), .unset] [.null, .null, .null, (.ref b6z), (.ref b6z), (.ref b1z)])) rfl (by rw [hml]; rfl) (Steps.refl _) (a := b6z) (argsL := [.null, .null, .null]) (rest := [(.ref b6z), (.ref b1z)]) (lenOf pd_799689350 rfl) rfl (by show 2 * 0 + _ ≤ _; exact Nat.le_of_eq rfl) (hb hby d_method_2_code_23) (fun _ _ => ⟨rfl, e6z, (by decide : 2 + 0 ≤ _), (by decide : 6 + 0 ≤ _)⟩)
  dsimp only [Pt.U, Pt.locs, Pt.cells, Pt.slots] at X8z l8z y8z z8z st8z hQ8z
  subst l8z y8z z8z
  obtain ⟨rfl, NQ8z, K8zq, r8z_0⟩ := hQ8z
  refine own_tr st8z ?_
  have N8z := Fr.app N3z NQ8z
  have O9z := own_ext_keep O7z K8zq (allS fr_b6z all0)
  have K9z := K7z.trans K8zq (allS (Or.inr lz_b6z) all0)
  show own_G p e below (T8z.setTop (mkF m 26 #[.val (.ref aH), .val (.int (0 : Int32)), .val (.ref b1z), .unset] [(.ref b6z), (.ref b1z)])) _
  have f10z := ((r3z_1.ext E6z).keep K8zq (by simp only [List.mem_cons, List.not_mem_nil, or_false, not_or]; exact ne_b1z_b6z))
  have f11z := ((r3z_2.ext E6z).keep K8zq (by simp only [List.mem_cons, List.not_mem_nil, or_false, not_or]; exact ne_b1z_b6z))
  have f12z := ((r3z_3.ext E6z).keep K8zq (by simp only [List.mem_cons, List.not_mem_nil, or_false, not_or]; exact ne_b1z_b6z))
  obtain ⟨cq13z, kq13z, qa13z, qb13z, qc13z⟩ := isOf hZ (rfl : T8z.heap = _) ((r3z_0.ext E6z).keep K8zq)
  obtain ⟨_, _, ⟨T13z, L13z, k13z, n13z⟩, -, X13z, ⟨Lc13z, hQ13z, l13z, y13z, z13z⟩, st13z⟩ := X8z.virtualBack hx (y := own_m7) (z := own_m7) hown (own_mw hZ hw 126 rfl) (own_mw hZ hw 127 rfl) (notFace_of_selects (args := #[]) (own_mw hZ hw 129 rfl)) (own_mw hZ hw 129 rfl) (own_mw hZ hw 128 rfl) (by decide) (backOf (W := 0) (own_add10S l Z a0 hw [] b1z (0 : Int32) dE kd b6z T8z.heap O9z S_D BD ((r3z_0.ext E6z).keep K8zq) fr_b1z f10z f11z f12z r8z_0) hZ (own_hw hw 130 rfl) (own_hw hw 6 rfl) (by decide) (by decide)) qa13z qc13z (g := (mkF m 26 #[.val (.ref aH), .val (.int (0 : Int32)), .val (.ref b1z), .unset] [(.ref b6z), (.ref b1z)])) rfl (by rw [hml]; rfl) (Steps.refl _) (argsL := [(.ref b6z)]) (rest := []) (lenOf pd_396412080 rfl) rfl (by show 2 * 0 + _ ≤ _; exact Nat.le_of_eq rfl) (hb hby d_method_2_code_26) (fun _ _ => ⟨rfl, rfl, (by decide : 2 + 1 ≤ _), (by decide : 6 + 10 ≤ _)⟩)
  dsimp only [Pt.U, Pt.locs, Pt.cells, Pt.slots] at X13z l13z y13z z13z st13z hQ13z
  subst l13z y13z z13z
  obtain ⟨arr_13z, kk_13z, rfl, NQ13z, K13zq, r13z_0, r13z_1, r13z_2, r13z_3, r13z_4, r13z_5, r13z_6, r13z_7, r13z_8⟩ := hQ13z
  refine own_tr st13z ?_
  have N13z := Fr.app N8z NQ13z
  have O14z := own_ext_keep O9z K13zq (allS fr_b1z all0)
  have K14z := K9z.trans K13zq (allS (Or.inr lz_b1z) all0)
  have lz_arr_13z : h0.size ≤ arr_13z := Nat.le_trans K9z.1 r13z_2
  have ne_b1z_arr_13z : b1z ≠ arr_13z := Nat.ne_of_lt (Nat.lt_of_lt_of_le ((r3z_0.ext E6z).keep K8zq).lt r13z_2)
  have ne_b6z_arr_13z : b6z ≠ arr_13z := Nat.ne_of_lt (Nat.lt_of_lt_of_le r8z_0.lt r13z_2)
  have r13z_6 : Fld Z T13z.heap b1z own_s7 "modCount" "I" (.int (1 : Int32)) := r13z_6
  show own_G p e below (T13z.setTop (mkF m 29 #[.val (.ref aH), .val (.int (0 : Int32)), .val (.ref b1z), .unset] [(.int (1 : Int32))])) _
  refine own_go (fun t k => XS.pop X13z.here hx rfl (hb hby d_method_2_code_29) rfl rfl k) ?_
  refine own_go (fun t k => XS.bipush X13z.here hx rfl (hb hby d_method_2_code_30) k) ?_
  refine own_go (fun t k => XS.iloadN X13z.here hx rfl (hb hby d_method_2_code_32) rfl k) ?_
  refine own_go (fun t k => XS.iadd X13z.here hx rfl (hb hby d_method_2_code_33) rfl k) ?_
  refine own_go (fun t k => XS.i2c X13z.here hx rfl (hb hby d_method_2_code_34) rfl k) ?_
  obtain ⟨_, _, ⟨T15z, L15z, k15z, n15z⟩, -, X15z, ⟨Lc15z, hQ15z, l15z, y15z, z15z⟩, st15z⟩ := Jvm.LawKit.callS X13z hx (y := own_m16) hown (own_mw hZ hw 36 rfl) (own_mw hZ hw 37 rfl) (own_mw hZ hw 38 rfl) (own_mw hZ hw 39 rfl) (by decide) (backOf (W := 0) (own_vo0 l Z a0 hw [] cs T13z.heap O14z S_CS hcs) hZ (own_hw hw 39 rfl) (own_hw hw 38 rfl) (by decide) (by decide)) (g := (mkF m 35 #[.val (.ref aH), .val (.int (0 : Int32)), .val (.ref b1z), .unset] [(.int (97 : Int32))])) rfl (by rw [hml]; rfl) (argsL := [(.int (97 : Int32))]) (rest := []) (lenOf pd_1709310937 rfl) rfl (by show 2 * 0 + _ ≤ _; exact Nat.le_of_eq rfl) (hb hby d_method_2_code_35) (fun _ _ => ⟨rfl, rfl, (by decide : 3 + 2 ≤ _), (by decide : 16 + 5 ≤ _)⟩)
  dsimp only [Pt.U, Pt.locs, Pt.cells, Pt.slots] at X15z l15z y15z z15z st15z hQ15z
  subst l15z y15z z15z
  obtain ⟨r_15z, rfl, NQ15z, K15zq⟩ := hQ15z
  refine own_go st15z ?_
  have N15z := Fr.app N13z NQ15z
  have O16z := own_ext_keep O14z K15zq all0
  have K16z := K14z.trans K15zq all0
  show own_G p e below (T15z.setTop (mkF m 38 #[.val (.ref aH), .val (.int (0 : Int32)), .val (.ref b1z), .unset] [(.ref r_15z)])) _
  refine own_go (fun t k => XS.astoreN X15z.here hx rfl (hb hby d_method_2_code_38) rfl rfl (l' := #[.val (.ref aH), .val (.int (0 : Int32)), .val (.ref b1z), .val (.ref r_15z)]) rfl k) ?_
  obtain ⟨T17z, h17z, X17z, e17z, E17z, A17z, D17z, -, st17z⟩ := newO X15z hx hZ hown (own_hw hw 60 rfl) (own_hw hw 61 rfl) (own_hw hw 62 rfl) rfl (g := (mkF m 39 #[.val (.ref aH), .val (.int (0 : Int32)), .val (.ref b1z), .val (.ref r_15z)] [])) rfl (hb hby d_method_2_code_39) (by decide) (by decide)
  obtain ⟨b17z, g17z⟩ : ∃ z, z = T15z.heap.size := ⟨_, rfl⟩
  rw [← g17z] at A17z D17z st17z
  have fr_b17z : Z.heap.size ≤ b17z := g17z ▸ O16z.1
  have lz_b17z : h0.size ≤ b17z := g17z ▸ K16z.1
  have ne_b1z_b17z : b1z ≠ b17z := Nat.ne_of_lt (g17z ▸ (r13z_0.keep K15zq).lt)
  have ne_b6z_b17z : b6z ≠ b17z := Nat.ne_of_lt (g17z ▸ ((r8z_0.keep K13zq).keep K15zq).lt)
  have ne_arr_13z_b17z : arr_13z ≠ b17z := Nat.ne_of_lt (g17z ▸ (r13z_4.keep K15zq).lt)
  have O18z := own_ext_trans O16z E17z
  have K18z := K16z.ext E17z
  have F17z_name : Fld Z h17z b17z own_s0 "name" own_s18 .null := D17z (Or.inr (own_hw hw 117 rfl)) (ty := (.object own_s11)) (by decide)
  have F17z_site : Fld Z h17z b17z own_s0 "site" own_s18 .null := D17z (Or.inr (own_hw hw 119 rfl)) (ty := (.object own_s11)) (by decide)
  have F17z_kind : Fld Z h17z b17z own_s0 "kind" own_s5 .null := D17z (Or.inr (own_hw hw 121 rfl)) (ty := (.object own_s4)) (by decide)
  have F17z_selections : Fld Z h17z b17z own_s0 "selections" own_s16 .null := D17z (Or.inr (own_hw hw 123 rfl)) (ty := (.object own_s15)) (by decide)
  have F17z_projection : Fld Z h17z b17z own_s0 "projection" own_s17 .null := D17z (Or.inr (own_hw hw 125 rfl)) (ty := (.object own_s14)) (by decide)
  refine own_go st17z ?_
  refine own_go (fun t k => XS.dup X17z.here hx rfl (hb hby d_method_2_code_42) rfl rfl k) ?_
  refine own_go (fun t k => XS.aloadN X17z.here hx rfl (hb hby d_method_2_code_43) rfl rfl k) ?_
  refine own_go (fun t k => XS.aloadN X17z.here hx rfl (hb hby d_method_2_code_44) rfl rfl k) ?_
  refine own_go (fun t k => XS.aloadN X17z.here hx rfl (hb hby d_method_2_code_45) rfl rfl k) ?_
  refine own_go (fun t k => XS.aloadN X17z.here hx rfl (hb hby d_method_2_code_46) rfl rfl k) ?_
  refine own_go (fun t k => XS.aconstNull X17z.here hx rfl (hb hby d_method_2_code_47) k) ?_
  obtain ⟨_, _, ⟨T19z, L19z, k19z, n19z⟩, -, X19z, ⟨Lc19z, hQ19z, l19z, y19z, z19z⟩, st19z⟩ := X17z.specialBack hx (y := own_m34) rfl hown (own_mw hZ hw 63 rfl) (own_mw hZ hw 64 rfl) (own_mw hZ hw 65 rfl) (by decide) (backOf (W := 1) (own_fih l Z a0 hw [] b17z r_15z b1z aH aV arr_13z kk_13z mi eM b6z h17z O18z S_H S_V MI S_EM A17z fr_b17z F17z_name F17z_site F17z_kind F17z_selections F17z_projection ((r13z_0.keep K15zq).ext E17z) ((r13z_5.keep K15zq (by simp)).ext E17z) ((r13z_4.keep K15zq).ext E17z) ((r13z_7.keep K15zq (by simp)).ext E17z) ((r13z_8.keep K15zq (by simp)).ext E17z) (((r8z_0.keep K13zq).keep K15zq).ext E17z) nhv) hZ (own_hw hw 65 rfl) (own_hw hw 62 rfl) (by decide) (by decide)) (g := (mkF m 48 #[.val (.ref aH), .val (.int (0 : Int32)), .val (.ref b1z), .val (.ref r_15z)] [.null, (.ref b1z), (.ref aH), (.ref r_15z), (.ref r_15z), (.ref b17z), (.ref b17z)])) rfl (by rw [hml]; rfl) (Steps.refl _) (a := b17z) (argsL := [(.ref r_15z), (.ref r_15z), (.ref aH), (.ref b1z), .null]) (rest := [(.ref b17z)]) (lenOf pd_1504261874 rfl) rfl (by show 2 * 0 + _ ≤ _; exact Nat.le_of_eq rfl) (hb hby d_method_2_code_48) (fun _ _ => ⟨rfl, e17z, (by decide : 6 + 2 ≤ _), (by decide : 26 + 3 ≤ _)⟩)
  dsimp only [Pt.U, Pt.locs, Pt.cells, Pt.slots] at X19z l19z y19z z19z st19z hQ19z
  subst l19z y19z z19z
  obtain ⟨rfl, NQ19z, K19zq, r19z_0, r19z_1⟩ := hQ19z
  refine own_tr st19z ?_
  have N19z := Fr.app N15z NQ19z
  have O20z := own_ext_keep O18z K19zq (allS fr_b17z all0)
  have K20z := K18z.trans K19zq (allS (Or.inr lz_b17z) all0)
  show own_G p e below (T19z.setTop (mkF m 51 #[.val (.ref aH), .val (.int (0 : Int32)), .val (.ref b1z), .val (.ref r_15z)] [(.ref b17z)])) _
  exact own_ret X19z hx Bd.returns rfl (Or.inr (Or.inr (Or.inr (Or.inr ⟨rfl, rfl, rfl⟩)))) (hb hby d_method_2_code_51) hlk (Nat.le_of_ble_eq_true rfl) (Nat.le_of_ble_eq_true rfl) (by show Q_own_mkh0 Z dE kd cs aH aV mi eM h0 _ T19z.heap _; exact ⟨b17z, rfl, N19z, K20z, r19z_0, fr_b17z, lz_b17z, r19z_1⟩)
theorem ef_own_mke1 (m : MethodId) (x0 : Addr) (x1 : Int32) : entryFrame m #[(.ref x0), (.int x1)] 4 = mkF m 0 #[.val (.ref x0), .val (.int x1), .unset, .unset] [] := by first | (simp [entryFrame, mkF, argsToLocals, Value.category]; done) | rfl
theorem pf_own_mke1 : plainFor own_m36 = true := plainFor_of_name (by simp [plainName, overriddenIn])
def Q_own_mke1 (Z : State) (dE : Addr) (kd : ClassId) (cs : Int32) (aH : Addr) (aV : Addr) (kn : Addr) (eL : Addr) (eA : Addr) (ke : ClassId) (h0 : Heap) (v : Option Value) (h : Heap) (L : List Loc) : Prop := ∃ r : Addr, v = some (.ref r) ∧ Fr Z.heap.size L ∧ Keep h0 h [] ∧ (Exa Z h r own_s0) ∧ (Z.heap.size ≤ r) ∧ (h0.size ≤ r) ∧ (Fld Z h r own_s0 "kind" own_s5 (.ref kn))
set_option maxRecDepth 65536 in
set_option maxHeartbeats 40000000 in
theorem own_mke1 (l : Launch) (Z : State) (a0 : Array Value) (hw : ∀ d ∈ tables_1, d.before a0 Z = true) (ws : List Jvm.Cond) (dE : Addr) (kd : ClassId) (cs : Int32) (aH : Addr) (aV : Addr) (kn : Addr) (eL : Addr) (eA : Addr) (ke : ClassId) (h0 : Heap) (O0 : Ext Z.heap h0) (S_D : Sta Z Z.heap own_s1 own_s19 own_s3 (.ref dE)) (BD : own_A Z Z.heap dE kd (.object own_s2) []) (S_CS : Sta Z Z.heap own_s11 "COMPACT_STRINGS" "Z" (.int cs)) (hcs : ¬ (cs = (0 : Int32))) (S_H : Sta Z Z.heap own_s4 "HORIZONTAL" own_s5 (.ref aH)) (S_V : Sta Z Z.heap own_s4 "VERTICAL" own_s5 (.ref aV)) (S_EL : Sta Z Z.heap own_s12 "EMPTY_LIST" own_s22 (.ref eL)) (F_EL : Fld Z Z.heap eL own_s10 "elements" own_s3 (.ref eA)) (B_EL : own_A Z Z.heap eA ke (.object own_s2) []) (E_EL : Exa Z Z.heap eL own_s10) (nkh : kn ≠ aH) (nkv : kn ≠ aV) :
    MetFree l own_m36 (head1 (Jvm.Cond.code own_m36 method_2_code 4 (some (.object own_s0)) :: ws) ({ frames := 10, cells := 4, slots := 13, locals := 180 } : Room)) (fun aa U => aa = #[(.ref kn), (.int (1 : Int32))] ∧ Z.Warmed39 U.vm ∧ U.heap = h0) (fun _ _ _ _ _ => True) (fun _ U o U' => ∃ v L, o = .returned v ∧ Q_own_mke1 Z dE kd cs aH aV kn eL eA ke h0 v U'.heap L ∧ FrameEnd U o U' L ({ frames := 10, cells := 4, slots := 13, locals := 180 } : Room).cells ({ frames := 10, cells := 4, slots := 13, locals := 180 } : Room).slots) := by
  refine MetFree.of_bodySF pf_own_mke1 hisR ?_
  intro p e s m args below meth c s₁ Bd hml0 hP hK
  obtain ⟨rfl, hZ, hh⟩ := hP
  have hx := Bd.exec
  have hby := Bd.bytes
  have hlk := BodyLoose.notSynchronized Bd
  have hml : c.maxLocals = 4 := hml0
  have hown : s.vm.findClass own_s20 = some m.cls := findClass_of_methodNamed Bd.named
  have hnm := (name_of_methodNamed Bd.named Bd.method).1
  have X0 : Stand p l e ({ frames := 10, cells := 4, slots := 13, locals := 180 } : Room) s m #[(.ref kn), (.int (1 : Int32))] below meth c s₁ [] 0 0 := Stand.of_body Bd
  have e0 : s₁.heap = h0 := by rw [← hh, Bd.state]; rfl
  have N0 := Fr.nil Z.heap.size
  have K0 : Keep h0 h0 [] := Keep.refl _ _
  refine own_start (Q := Q_own_mke1 Z dE kd cs aH aV kn eL eA ke h0) (ef_own_mke1 m (kn) ((1 : Int32))) ?_
  show own_G p e below (s₁.setTop (mkF m 0 #[.val (.ref kn), .val (.int (1 : Int32)), .unset, .unset] [])) _
  obtain ⟨T1z, h1z, X1z, e1z, E1z, A1z, D1z, -, st1z⟩ := newO X0 hx hZ hown (own_hw hw 4 rfl) (own_hw hw 5 rfl) (own_hw hw 6 rfl) e0 (g := (mkF m 0 #[.val (.ref kn), .val (.int (1 : Int32)), .unset, .unset] [])) rfl (hb hby d_method_2_code_0) (by decide) (by decide)
  obtain ⟨b1z, g1z⟩ : ∃ z, z = h0.size := ⟨_, rfl⟩
  rw [← g1z] at A1z D1z st1z
  have fr_b1z : Z.heap.size ≤ b1z := g1z ▸ O0.1
  have lz_b1z : h0.size ≤ b1z := g1z ▸ K0.1
  have O2z := own_ext_trans O0 E1z
  have K2z := K0.ext E1z
  have F1z_modCount : Fld Z h1z b1z own_s7 "modCount" "I" (.int (0 : Int32)) := D1z (Or.inl (own_hw hw 26 rfl)) (ty := .int) (by decide)
  have F1z_elementData : Fld Z h1z b1z own_s1 "elementData" own_s3 .null := D1z (Or.inl (own_hw hw 29 rfl)) (ty := (.array (.object own_s2))) (by decide)
  have F1z_size : Fld Z h1z b1z own_s1 "size" "I" (.int (0 : Int32)) := D1z (Or.inl (own_hw hw 96 rfl)) (ty := .int) (by decide)
  refine own_go st1z ?_
  refine own_go (fun t k => XS.dup X1z.here hx rfl (hb hby d_method_2_code_3) rfl rfl k) ?_
  obtain ⟨_, _, ⟨T3z, L3z, k3z, n3z⟩, -, X3z, ⟨Lc3z, hQ3z, l3z, y3z, z3z⟩, st3z⟩ := X1z.specialBack hx (y := own_m2) rfl hown (own_mw hZ hw 7 rfl) (own_mw hZ hw 8 rfl) (own_mw hZ hw 9 rfl) (by decide) (backOf (W := 1) (own_ali l Z a0 hw [] b1z dE h1z O2z S_D A1z fr_b1z F1z_modCount F1z_elementData F1z_size) hZ (own_hw hw 9 rfl) (own_hw hw 6 rfl) (by decide) (by decide)) (g := (mkF m 4 #[.val (.ref kn), .val (.int (1 : Int32)), .unset, .unset] [(.ref b1z), (.ref b1z)])) rfl (by rw [hml]; rfl) (Steps.refl _) (a := b1z) (argsL := []) (rest := [(.ref b1z)]) (lenOf pd_193421996 rfl) rfl (by show 2 * 0 + _ ≤ _; exact Nat.le_of_eq rfl) (hb hby d_method_2_code_4) (fun _ _ => ⟨rfl, e1z, (by decide : 1 + 0 ≤ _), (by decide : 3 + 0 ≤ _)⟩)
  dsimp only [Pt.U, Pt.locs, Pt.cells, Pt.slots] at X3z l3z y3z z3z st3z hQ3z
  subst l3z y3z z3z
  obtain ⟨rfl, NQ3z, K3zq, r3z_0, r3z_1, r3z_2, r3z_3⟩ := hQ3z
  refine own_tr st3z ?_
  have N3z := Fr.app N0 NQ3z
  have O4z := own_ext_keep O2z K3zq (allS fr_b1z all0)
  have K4z := K2z.trans K3zq (allS (Or.inr lz_b1z) all0)
  show own_G p e below (T3z.setTop (mkF m 7 #[.val (.ref kn), .val (.int (1 : Int32)), .unset, .unset] [(.ref b1z)])) _
  refine own_go (fun t k => XS.astoreN X3z.here hx rfl (hb hby d_method_2_code_7) rfl rfl (l' := #[.val (.ref kn), .val (.int (1 : Int32)), .val (.ref b1z), .unset]) rfl k) ?_
  refine own_go (fun t k => XS.aloadN X3z.here hx rfl (hb hby d_method_2_code_8) rfl rfl k) ?_
  obtain ⟨T5z, X5z, e5z, st5z⟩ := getS2 X3z hx hZ hown (host := "") (Or.inl (own_hw hw 34 rfl)) Via.refl rfl (S_H.ext O4z) (g := (mkF m 9 #[.val (.ref kn), .val (.int (1 : Int32)), .val (.ref b1z), .unset] [(.ref kn)])) rfl (hb hby d_method_2_code_9)
  refine own_go st5z ?_
  refine own_go (fun t k => Jvm.RoadKit.acmp (g := (mkF m 12 #[.val (.ref kn), .val (.int (1 : Int32)), .val (.ref b1z), .unset] [(.ref aH), (.ref kn)])) X5z hx rfl rfl rfl (pc0 := 12) (pc' := 30) (same := false) rfl (hb hby d_method_2_code_12) rfl (decide_eq_false fun q => nkh (Value.ref.inj q)) (by decide) (by decide) k) ?_
  show own_G p e below (T5z.setTop (mkF m 30 #[.val (.ref kn), .val (.int (1 : Int32)), .val (.ref b1z), .unset] [])) _
  refine own_go (fun t k => XS.bipush X5z.here hx rfl (hb hby d_method_2_code_30) k) ?_
  refine own_go (fun t k => XS.iloadN X5z.here hx rfl (hb hby d_method_2_code_32) rfl k) ?_
  refine own_go (fun t k => XS.iadd X5z.here hx rfl (hb hby d_method_2_code_33) rfl k) ?_
  refine own_go (fun t k => XS.i2c X5z.here hx rfl (hb hby d_method_2_code_34) rfl k) ?_
  obtain ⟨_, _, ⟨T6z, L6z, k6z, n6z⟩, -, X6z, ⟨Lc6z, hQ6z, l6z, y6z, z6z⟩, st6z⟩ := Jvm.LawKit.callS X5z hx (y := own_m16) hown (own_mw hZ hw 36 rfl) (own_mw hZ hw 37 rfl) (own_mw hZ hw 38 rfl) (own_mw hZ hw 39 rfl) (by decide) (backOf (W := 0) (own_vo1 l Z a0 hw [] cs T3z.heap O4z S_CS hcs) hZ (own_hw hw 39 rfl) (own_hw hw 38 rfl) (by decide) (by decide)) (g := (mkF m 35 #[.val (.ref kn), .val (.int (1 : Int32)), .val (.ref b1z), .unset] [(.int (98 : Int32))])) rfl (by rw [hml]; rfl) (argsL := [(.int (98 : Int32))]) (rest := []) (lenOf pd_1709310937 rfl) rfl (by show 2 * 0 + _ ≤ _; exact Nat.le_of_eq rfl) (hb hby d_method_2_code_35) (fun _ _ => ⟨rfl, e5z, (by decide : 1 + 2 ≤ _), (by decide : 3 + 5 ≤ _)⟩)
  dsimp only [Pt.U, Pt.locs, Pt.cells, Pt.slots] at X6z l6z y6z z6z st6z hQ6z
  subst l6z y6z z6z
  obtain ⟨r_6z, rfl, NQ6z, K6zq⟩ := hQ6z
  refine own_go st6z ?_
  have N6z := Fr.app N3z NQ6z
  have O7z := own_ext_keep O4z K6zq all0
  have K7z := K4z.trans K6zq all0
  show own_G p e below (T6z.setTop (mkF m 38 #[.val (.ref kn), .val (.int (1 : Int32)), .val (.ref b1z), .unset] [(.ref r_6z)])) _
  refine own_go (fun t k => XS.astoreN X6z.here hx rfl (hb hby d_method_2_code_38) rfl rfl (l' := #[.val (.ref kn), .val (.int (1 : Int32)), .val (.ref b1z), .val (.ref r_6z)]) rfl k) ?_
  obtain ⟨T8z, h8z, X8z, e8z, E8z, A8z, D8z, -, st8z⟩ := newO X6z hx hZ hown (own_hw hw 60 rfl) (own_hw hw 61 rfl) (own_hw hw 62 rfl) rfl (g := (mkF m 39 #[.val (.ref kn), .val (.int (1 : Int32)), .val (.ref b1z), .val (.ref r_6z)] [])) rfl (hb hby d_method_2_code_39) (by decide) (by decide)
  obtain ⟨b8z, g8z⟩ : ∃ z, z = T6z.heap.size := ⟨_, rfl⟩
  rw [← g8z] at A8z D8z st8z
  have fr_b8z : Z.heap.size ≤ b8z := g8z ▸ O7z.1
  have lz_b8z : h0.size ≤ b8z := g8z ▸ K7z.1
  have ne_b1z_b8z : b1z ≠ b8z := Nat.ne_of_lt (g8z ▸ (r3z_0.keep K6zq).lt)
  have O9z := own_ext_trans O7z E8z
  have K9z := K7z.ext E8z
  have F8z_name : Fld Z h8z b8z own_s0 "name" own_s18 .null := D8z (Or.inr (own_hw hw 117 rfl)) (ty := (.object own_s11)) (by decide)
  have F8z_site : Fld Z h8z b8z own_s0 "site" own_s18 .null := D8z (Or.inr (own_hw hw 119 rfl)) (ty := (.object own_s11)) (by decide)
  have F8z_kind : Fld Z h8z b8z own_s0 "kind" own_s5 .null := D8z (Or.inr (own_hw hw 121 rfl)) (ty := (.object own_s4)) (by decide)
  have F8z_selections : Fld Z h8z b8z own_s0 "selections" own_s16 .null := D8z (Or.inr (own_hw hw 123 rfl)) (ty := (.object own_s15)) (by decide)
  have F8z_projection : Fld Z h8z b8z own_s0 "projection" own_s17 .null := D8z (Or.inr (own_hw hw 125 rfl)) (ty := (.object own_s14)) (by decide)
  refine own_go st8z ?_
  refine own_go (fun t k => XS.dup X8z.here hx rfl (hb hby d_method_2_code_42) rfl rfl k) ?_
  refine own_go (fun t k => XS.aloadN X8z.here hx rfl (hb hby d_method_2_code_43) rfl rfl k) ?_
  refine own_go (fun t k => XS.aloadN X8z.here hx rfl (hb hby d_method_2_code_44) rfl rfl k) ?_
  refine own_go (fun t k => XS.aloadN X8z.here hx rfl (hb hby d_method_2_code_45) rfl rfl k) ?_
  refine own_go (fun t k => XS.aloadN X8z.here hx rfl (hb hby d_method_2_code_46) rfl rfl k) ?_
  refine own_go (fun t k => XS.aconstNull X8z.here hx rfl (hb hby d_method_2_code_47) k) ?_
  obtain ⟨_, _, ⟨T10z, L10z, k10z, n10z⟩, -, X10z, ⟨Lc10z, hQ10z, l10z, y10z, z10z⟩, st10z⟩ := X8z.specialBack hx (y := own_m34) rfl hown (own_mw hZ hw 63 rfl) (own_mw hZ hw 64 rfl) (own_mw hZ hw 65 rfl) (by decide) (backOf (W := 1) (own_fie l Z a0 hw [] b8z r_6z kn b1z aH aV eL eA ke h8z O9z S_H S_V S_EL F_EL B_EL E_EL A8z fr_b8z F8z_name F8z_site F8z_kind F8z_selections F8z_projection ((r3z_0.keep K6zq).ext E8z) ((r3z_3.keep K6zq (by simp)).ext E8z) nkh nkv) hZ (own_hw hw 65 rfl) (own_hw hw 62 rfl) (by decide) (by decide)) (g := (mkF m 48 #[.val (.ref kn), .val (.int (1 : Int32)), .val (.ref b1z), .val (.ref r_6z)] [.null, (.ref b1z), (.ref kn), (.ref r_6z), (.ref r_6z), (.ref b8z), (.ref b8z)])) rfl (by rw [hml]; rfl) (Steps.refl _) (a := b8z) (argsL := [(.ref r_6z), (.ref r_6z), (.ref kn), (.ref b1z), .null]) (rest := [(.ref b8z)]) (lenOf pd_1504261874 rfl) rfl (by show 2 * 0 + _ ≤ _; exact Nat.le_of_eq rfl) (hb hby d_method_2_code_48) (fun _ _ => ⟨rfl, e8z, (by decide : 4 + 0 ≤ _), (by decide : 13 + 0 ≤ _)⟩)
  dsimp only [Pt.U, Pt.locs, Pt.cells, Pt.slots] at X10z l10z y10z z10z st10z hQ10z
  subst l10z y10z z10z
  obtain ⟨rfl, NQ10z, K10zq, r10z_0, r10z_1⟩ := hQ10z
  refine own_tr st10z ?_
  have N10z := Fr.app N6z NQ10z
  have O11z := own_ext_keep O9z K10zq (allS fr_b8z all0)
  have K11z := K9z.trans K10zq (allS (Or.inr lz_b8z) all0)
  show own_G p e below (T10z.setTop (mkF m 51 #[.val (.ref kn), .val (.int (1 : Int32)), .val (.ref b1z), .val (.ref r_6z)] [(.ref b8z)])) _
  exact own_ret X10z hx Bd.returns rfl (Or.inr (Or.inr (Or.inr (Or.inr ⟨rfl, rfl, rfl⟩)))) (hb hby d_method_2_code_51) hlk (Nat.le_of_ble_eq_true rfl) (Nat.le_of_ble_eq_true rfl) (by show Q_own_mke1 Z dE kd cs aH aV kn eL eA ke h0 _ T10z.heap _; exact ⟨b8z, rfl, N10z, K11z, r10z_0, fr_b8z, lz_b8z, r10z_1⟩)
theorem ef_own_mkh1 (m : MethodId) (x0 : Addr) (x1 : Int32) : entryFrame m #[(.ref x0), (.int x1)] 4 = mkF m 0 #[.val (.ref x0), .val (.int x1), .unset, .unset] [] := by first | (simp [entryFrame, mkF, argsToLocals, Value.category]; done) | rfl
theorem pf_own_mkh1 : plainFor own_m36 = true := plainFor_of_name (by simp [plainName, overriddenIn])
def Q_own_mkh1 (Z : State) (dE : Addr) (kd : ClassId) (cs : Int32) (aH : Addr) (aV : Addr) (mi : Addr) (eM : Addr) (h0 : Heap) (v : Option Value) (h : Heap) (L : List Loc) : Prop := ∃ r : Addr, v = some (.ref r) ∧ Fr Z.heap.size L ∧ Keep h0 h [] ∧ (Exa Z h r own_s0) ∧ (Z.heap.size ≤ r) ∧ (h0.size ≤ r) ∧ (Fld Z h r own_s0 "kind" own_s5 (.ref aH))
set_option maxRecDepth 65536 in
set_option maxHeartbeats 40000000 in
theorem own_mkh1 (l : Launch) (Z : State) (a0 : Array Value) (hw : ∀ d ∈ tables_1, d.before a0 Z = true) (ws : List Jvm.Cond) (dE : Addr) (kd : ClassId) (cs : Int32) (aH : Addr) (aV : Addr) (mi : Addr) (eM : Addr) (h0 : Heap) (O0 : Ext Z.heap h0) (S_D : Sta Z Z.heap own_s1 own_s19 own_s3 (.ref dE)) (BD : own_A Z Z.heap dE kd (.object own_s2) []) (S_CS : Sta Z Z.heap own_s11 "COMPACT_STRINGS" "Z" (.int cs)) (hcs : ¬ (cs = (0 : Int32))) (S_H : Sta Z Z.heap own_s4 "HORIZONTAL" own_s5 (.ref aH)) (S_V : Sta Z Z.heap own_s4 "VERTICAL" own_s5 (.ref aV)) (MI : Mir Z own_s3 mi) (S_EM : Sta Z Z.heap own_s12 "EMPTY" own_s13 (.ref eM)) (nhv : aH ≠ aV) :
    MetFree l own_m36 (head1 (Jvm.Cond.code own_m36 method_2_code 4 (some (.object own_s0)) :: ws) ({ frames := 10, cells := 8, slots := 29, locals := 180 } : Room)) (fun aa U => aa = #[(.ref aH), (.int (1 : Int32))] ∧ Z.Warmed39 U.vm ∧ U.heap = h0) (fun _ _ _ _ _ => True) (fun _ U o U' => ∃ v L, o = .returned v ∧ Q_own_mkh1 Z dE kd cs aH aV mi eM h0 v U'.heap L ∧ FrameEnd U o U' L ({ frames := 10, cells := 8, slots := 29, locals := 180 } : Room).cells ({ frames := 10, cells := 8, slots := 29, locals := 180 } : Room).slots) := by
  refine MetFree.of_bodySF pf_own_mkh1 hisR ?_
  intro p e s m args below meth c s₁ Bd hml0 hP hK
  obtain ⟨rfl, hZ, hh⟩ := hP
  have hx := Bd.exec
  have hby := Bd.bytes
  have hlk := BodyLoose.notSynchronized Bd
  have hml : c.maxLocals = 4 := hml0
  have hown : s.vm.findClass own_s20 = some m.cls := findClass_of_methodNamed Bd.named
  have hnm := (name_of_methodNamed Bd.named Bd.method).1
  have X0 : Stand p l e ({ frames := 10, cells := 8, slots := 29, locals := 180 } : Room) s m #[(.ref aH), (.int (1 : Int32))] below meth c s₁ [] 0 0 := Stand.of_body Bd
  have e0 : s₁.heap = h0 := by rw [← hh, Bd.state]; rfl
  have N0 := Fr.nil Z.heap.size
  have K0 : Keep h0 h0 [] := Keep.refl _ _
  refine own_start (Q := Q_own_mkh1 Z dE kd cs aH aV mi eM h0) (ef_own_mkh1 m (aH) ((1 : Int32))) ?_
  show own_G p e below (s₁.setTop (mkF m 0 #[.val (.ref aH), .val (.int (1 : Int32)), .unset, .unset] [])) _
  obtain ⟨T1z, h1z, X1z, e1z, E1z, A1z, D1z, -, st1z⟩ := newO X0 hx hZ hown (own_hw hw 4 rfl) (own_hw hw 5 rfl) (own_hw hw 6 rfl) e0 (g := (mkF m 0 #[.val (.ref aH), .val (.int (1 : Int32)), .unset, .unset] [])) rfl (hb hby d_method_2_code_0) (by decide) (by decide)
  obtain ⟨b1z, g1z⟩ : ∃ z, z = h0.size := ⟨_, rfl⟩
  rw [← g1z] at A1z D1z st1z
  have fr_b1z : Z.heap.size ≤ b1z := g1z ▸ O0.1
  have lz_b1z : h0.size ≤ b1z := g1z ▸ K0.1
  have O2z := own_ext_trans O0 E1z
  have K2z := K0.ext E1z
  have F1z_modCount : Fld Z h1z b1z own_s7 "modCount" "I" (.int (0 : Int32)) := D1z (Or.inl (own_hw hw 26 rfl)) (ty := .int) (by decide)
  have F1z_elementData : Fld Z h1z b1z own_s1 "elementData" own_s3 .null := D1z (Or.inl (own_hw hw 29 rfl)) (ty := (.array (.object own_s2))) (by decide)
  have F1z_size : Fld Z h1z b1z own_s1 "size" "I" (.int (0 : Int32)) := D1z (Or.inl (own_hw hw 96 rfl)) (ty := .int) (by decide)
  refine own_go st1z ?_
  refine own_go (fun t k => XS.dup X1z.here hx rfl (hb hby d_method_2_code_3) rfl rfl k) ?_
  obtain ⟨_, _, ⟨T3z, L3z, k3z, n3z⟩, -, X3z, ⟨Lc3z, hQ3z, l3z, y3z, z3z⟩, st3z⟩ := X1z.specialBack hx (y := own_m2) rfl hown (own_mw hZ hw 7 rfl) (own_mw hZ hw 8 rfl) (own_mw hZ hw 9 rfl) (by decide) (backOf (W := 1) (own_ali l Z a0 hw [] b1z dE h1z O2z S_D A1z fr_b1z F1z_modCount F1z_elementData F1z_size) hZ (own_hw hw 9 rfl) (own_hw hw 6 rfl) (by decide) (by decide)) (g := (mkF m 4 #[.val (.ref aH), .val (.int (1 : Int32)), .unset, .unset] [(.ref b1z), (.ref b1z)])) rfl (by rw [hml]; rfl) (Steps.refl _) (a := b1z) (argsL := []) (rest := [(.ref b1z)]) (lenOf pd_193421996 rfl) rfl (by show 2 * 0 + _ ≤ _; exact Nat.le_of_eq rfl) (hb hby d_method_2_code_4) (fun _ _ => ⟨rfl, e1z, (by decide : 1 + 0 ≤ _), (by decide : 3 + 0 ≤ _)⟩)
  dsimp only [Pt.U, Pt.locs, Pt.cells, Pt.slots] at X3z l3z y3z z3z st3z hQ3z
  subst l3z y3z z3z
  obtain ⟨rfl, NQ3z, K3zq, r3z_0, r3z_1, r3z_2, r3z_3⟩ := hQ3z
  refine own_tr st3z ?_
  have N3z := Fr.app N0 NQ3z
  have O4z := own_ext_keep O2z K3zq (allS fr_b1z all0)
  have K4z := K2z.trans K3zq (allS (Or.inr lz_b1z) all0)
  show own_G p e below (T3z.setTop (mkF m 7 #[.val (.ref aH), .val (.int (1 : Int32)), .unset, .unset] [(.ref b1z)])) _
  refine own_go (fun t k => XS.astoreN X3z.here hx rfl (hb hby d_method_2_code_7) rfl rfl (l' := #[.val (.ref aH), .val (.int (1 : Int32)), .val (.ref b1z), .unset]) rfl k) ?_
  refine own_go (fun t k => XS.aloadN X3z.here hx rfl (hb hby d_method_2_code_8) rfl rfl k) ?_
  obtain ⟨T5z, X5z, e5z, st5z⟩ := getS2 X3z hx hZ hown (host := "") (Or.inl (own_hw hw 34 rfl)) Via.refl rfl (S_H.ext O4z) (g := (mkF m 9 #[.val (.ref aH), .val (.int (1 : Int32)), .val (.ref b1z), .unset] [(.ref aH)])) rfl (hb hby d_method_2_code_9)
  refine own_go st5z ?_
  refine own_go (fun t k => Jvm.RoadKit.acmp (g := (mkF m 12 #[.val (.ref aH), .val (.int (1 : Int32)), .val (.ref b1z), .unset] [(.ref aH), (.ref aH)])) X5z hx rfl rfl rfl (pc0 := 12) (pc' := 15) (same := true) rfl (hb hby d_method_2_code_12) rfl (decide_eq_true (congrArg Value.ref rfl)) (by decide) (by decide) k) ?_
  show own_G p e below (T5z.setTop (mkF m 15 #[.val (.ref aH), .val (.int (1 : Int32)), .val (.ref b1z), .unset] [])) _
  refine own_go (fun t k => XS.aloadN X5z.here hx rfl (hb hby d_method_2_code_15) rfl rfl k) ?_
  obtain ⟨T6z, h6z, X6z, e6z, E6z, A6z, D6z, -, st6z⟩ := newO X5z hx hZ hown (own_hw hw 249 rfl) (own_hw hw 250 rfl) (own_hw hw 251 rfl) e5z (g := (mkF m 16 #[.val (.ref aH), .val (.int (1 : Int32)), .val (.ref b1z), .unset] [(.ref b1z)])) rfl (hb hby d_method_2_code_16) (by decide) (by decide)
  obtain ⟨b6z, g6z⟩ : ∃ z, z = T3z.heap.size := ⟨_, rfl⟩
  rw [← g6z] at A6z D6z st6z
  have fr_b6z : Z.heap.size ≤ b6z := g6z ▸ O4z.1
  have lz_b6z : h0.size ≤ b6z := g6z ▸ K4z.1
  have ne_b1z_b6z : b1z ≠ b6z := Nat.ne_of_lt (g6z ▸ r3z_0.lt)
  have O7z := own_ext_trans O4z E6z
  have K7z := K4z.ext E6z
  have F6z_path : Fld Z h6z b6z own_s9 "path" own_s25 .null := D6z (Or.inr (own_hw hw 257 rfl)) (ty := (.object own_s23)) (by decide)
  have F6z_test : Fld Z h6z b6z own_s9 "test" own_s24 .null := D6z (Or.inr (own_hw hw 259 rfl)) (ty := (.object own_s21)) (by decide)
  have F6z_value : Fld Z h6z b6z own_s9 "value" own_s18 .null := D6z (Or.inr (own_hw hw 261 rfl)) (ty := (.object own_s11)) (by decide)
  refine own_go st6z ?_
  refine own_go (fun t k => XS.dup X6z.here hx rfl (hb hby d_method_2_code_19) rfl rfl k) ?_
  refine own_go (fun t k => XS.aconstNull X6z.here hx rfl (hb hby d_method_2_code_20) k) ?_
  refine own_go (fun t k => XS.aconstNull X6z.here hx rfl (hb hby d_method_2_code_21) k) ?_
  refine own_go (fun t k => XS.aconstNull X6z.here hx rfl (hb hby d_method_2_code_22) k) ?_
  obtain ⟨_, _, ⟨T8z, L8z, k8z, n8z⟩, -, X8z, ⟨Lc8z, hQ8z, l8z, y8z, z8z⟩, st8z⟩ := X6z.specialBack hx (y := own_m12) rfl hown (own_mw hZ hw 252 rfl) (own_mw hZ hw 253 rfl) (own_mw hZ hw 254 rfl) (by decide) (backOf (W := 2) (own_seli l Z a0 hw [] b6z h6z O7z A6z fr_b6z F6z_path F6z_test F6z_value) hZ (own_hw hw 254 rfl) (own_hw hw 251 rfl) (by decide) (by decide)) (g := (mkF m 23 #[.val (.ref aH), .val (.int (1 : Int32)), .val (.ref b1z), .unset] [.null, .null, .null, (.ref b6z), (.ref b6z), (.ref b1z)])) rfl (by rw [hml]; rfl) (Steps.refl _) (a := b6z) (argsL := [.null, .null, .null]) (rest := [(.ref b6z), (.ref b1z)]) (lenOf pd_799689350 rfl) rfl (by show 2 * 0 + _ ≤ _; exact Nat.le_of_eq rfl) (hb hby d_method_2_code_23) (fun _ _ => ⟨rfl, e6z, (by decide : 2 + 0 ≤ _), (by decide : 6 + 0 ≤ _)⟩)
  dsimp only [Pt.U, Pt.locs, Pt.cells, Pt.slots] at X8z l8z y8z z8z st8z hQ8z
  subst l8z y8z z8z
  obtain ⟨rfl, NQ8z, K8zq, r8z_0⟩ := hQ8z
  refine own_tr st8z ?_
  have N8z := Fr.app N3z NQ8z
  have O9z := own_ext_keep O7z K8zq (allS fr_b6z all0)
  have K9z := K7z.trans K8zq (allS (Or.inr lz_b6z) all0)
  show own_G p e below (T8z.setTop (mkF m 26 #[.val (.ref aH), .val (.int (1 : Int32)), .val (.ref b1z), .unset] [(.ref b6z), (.ref b1z)])) _
  have f10z := ((r3z_1.ext E6z).keep K8zq (by simp only [List.mem_cons, List.not_mem_nil, or_false, not_or]; exact ne_b1z_b6z))
  have f11z := ((r3z_2.ext E6z).keep K8zq (by simp only [List.mem_cons, List.not_mem_nil, or_false, not_or]; exact ne_b1z_b6z))
  have f12z := ((r3z_3.ext E6z).keep K8zq (by simp only [List.mem_cons, List.not_mem_nil, or_false, not_or]; exact ne_b1z_b6z))
  obtain ⟨cq13z, kq13z, qa13z, qb13z, qc13z⟩ := isOf hZ (rfl : T8z.heap = _) ((r3z_0.ext E6z).keep K8zq)
  obtain ⟨_, _, ⟨T13z, L13z, k13z, n13z⟩, -, X13z, ⟨Lc13z, hQ13z, l13z, y13z, z13z⟩, st13z⟩ := X8z.virtualBack hx (y := own_m7) (z := own_m7) hown (own_mw hZ hw 126 rfl) (own_mw hZ hw 127 rfl) (notFace_of_selects (args := #[]) (own_mw hZ hw 129 rfl)) (own_mw hZ hw 129 rfl) (own_mw hZ hw 128 rfl) (by decide) (backOf (W := 0) (own_add10S l Z a0 hw [] b1z (0 : Int32) dE kd b6z T8z.heap O9z S_D BD ((r3z_0.ext E6z).keep K8zq) fr_b1z f10z f11z f12z r8z_0) hZ (own_hw hw 130 rfl) (own_hw hw 6 rfl) (by decide) (by decide)) qa13z qc13z (g := (mkF m 26 #[.val (.ref aH), .val (.int (1 : Int32)), .val (.ref b1z), .unset] [(.ref b6z), (.ref b1z)])) rfl (by rw [hml]; rfl) (Steps.refl _) (argsL := [(.ref b6z)]) (rest := []) (lenOf pd_396412080 rfl) rfl (by show 2 * 0 + _ ≤ _; exact Nat.le_of_eq rfl) (hb hby d_method_2_code_26) (fun _ _ => ⟨rfl, rfl, (by decide : 2 + 1 ≤ _), (by decide : 6 + 10 ≤ _)⟩)
  dsimp only [Pt.U, Pt.locs, Pt.cells, Pt.slots] at X13z l13z y13z z13z st13z hQ13z
  subst l13z y13z z13z
  obtain ⟨arr_13z, kk_13z, rfl, NQ13z, K13zq, r13z_0, r13z_1, r13z_2, r13z_3, r13z_4, r13z_5, r13z_6, r13z_7, r13z_8⟩ := hQ13z
  refine own_tr st13z ?_
  have N13z := Fr.app N8z NQ13z
  have O14z := own_ext_keep O9z K13zq (allS fr_b1z all0)
  have K14z := K9z.trans K13zq (allS (Or.inr lz_b1z) all0)
  have lz_arr_13z : h0.size ≤ arr_13z := Nat.le_trans K9z.1 r13z_2
  have ne_b1z_arr_13z : b1z ≠ arr_13z := Nat.ne_of_lt (Nat.lt_of_lt_of_le ((r3z_0.ext E6z).keep K8zq).lt r13z_2)
  have ne_b6z_arr_13z : b6z ≠ arr_13z := Nat.ne_of_lt (Nat.lt_of_lt_of_le r8z_0.lt r13z_2)
  have r13z_6 : Fld Z T13z.heap b1z own_s7 "modCount" "I" (.int (1 : Int32)) := r13z_6
  show own_G p e below (T13z.setTop (mkF m 29 #[.val (.ref aH), .val (.int (1 : Int32)), .val (.ref b1z), .unset] [(.int (1 : Int32))])) _
  refine own_go (fun t k => XS.pop X13z.here hx rfl (hb hby d_method_2_code_29) rfl rfl k) ?_
  refine own_go (fun t k => XS.bipush X13z.here hx rfl (hb hby d_method_2_code_30) k) ?_
  refine own_go (fun t k => XS.iloadN X13z.here hx rfl (hb hby d_method_2_code_32) rfl k) ?_
  refine own_go (fun t k => XS.iadd X13z.here hx rfl (hb hby d_method_2_code_33) rfl k) ?_
  refine own_go (fun t k => XS.i2c X13z.here hx rfl (hb hby d_method_2_code_34) rfl k) ?_
  obtain ⟨_, _, ⟨T15z, L15z, k15z, n15z⟩, -, X15z, ⟨Lc15z, hQ15z, l15z, y15z, z15z⟩, st15z⟩ := Jvm.LawKit.callS X13z hx (y := own_m16) hown (own_mw hZ hw 36 rfl) (own_mw hZ hw 37 rfl) (own_mw hZ hw 38 rfl) (own_mw hZ hw 39 rfl) (by decide) (backOf (W := 0) (own_vo1 l Z a0 hw [] cs T13z.heap O14z S_CS hcs) hZ (own_hw hw 39 rfl) (own_hw hw 38 rfl) (by decide) (by decide)) (g := (mkF m 35 #[.val (.ref aH), .val (.int (1 : Int32)), .val (.ref b1z), .unset] [(.int (98 : Int32))])) rfl (by rw [hml]; rfl) (argsL := [(.int (98 : Int32))]) (rest := []) (lenOf pd_1709310937 rfl) rfl (by show 2 * 0 + _ ≤ _; exact Nat.le_of_eq rfl) (hb hby d_method_2_code_35) (fun _ _ => ⟨rfl, rfl, (by decide : 3 + 2 ≤ _), (by decide : 16 + 5 ≤ _)⟩)
  dsimp only [Pt.U, Pt.locs, Pt.cells, Pt.slots] at X15z l15z y15z z15z st15z hQ15z
  subst l15z y15z z15z
  obtain ⟨r_15z, rfl, NQ15z, K15zq⟩ := hQ15z
  refine own_go st15z ?_
  have N15z := Fr.app N13z NQ15z
  have O16z := own_ext_keep O14z K15zq all0
  have K16z := K14z.trans K15zq all0
  show own_G p e below (T15z.setTop (mkF m 38 #[.val (.ref aH), .val (.int (1 : Int32)), .val (.ref b1z), .unset] [(.ref r_15z)])) _
  refine own_go (fun t k => XS.astoreN X15z.here hx rfl (hb hby d_method_2_code_38) rfl rfl (l' := #[.val (.ref aH), .val (.int (1 : Int32)), .val (.ref b1z), .val (.ref r_15z)]) rfl k) ?_
  obtain ⟨T17z, h17z, X17z, e17z, E17z, A17z, D17z, -, st17z⟩ := newO X15z hx hZ hown (own_hw hw 60 rfl) (own_hw hw 61 rfl) (own_hw hw 62 rfl) rfl (g := (mkF m 39 #[.val (.ref aH), .val (.int (1 : Int32)), .val (.ref b1z), .val (.ref r_15z)] [])) rfl (hb hby d_method_2_code_39) (by decide) (by decide)
  obtain ⟨b17z, g17z⟩ : ∃ z, z = T15z.heap.size := ⟨_, rfl⟩
  rw [← g17z] at A17z D17z st17z
  have fr_b17z : Z.heap.size ≤ b17z := g17z ▸ O16z.1
  have lz_b17z : h0.size ≤ b17z := g17z ▸ K16z.1
  have ne_b1z_b17z : b1z ≠ b17z := Nat.ne_of_lt (g17z ▸ (r13z_0.keep K15zq).lt)
  have ne_b6z_b17z : b6z ≠ b17z := Nat.ne_of_lt (g17z ▸ ((r8z_0.keep K13zq).keep K15zq).lt)
  have ne_arr_13z_b17z : arr_13z ≠ b17z := Nat.ne_of_lt (g17z ▸ (r13z_4.keep K15zq).lt)
  have O18z := own_ext_trans O16z E17z
  have K18z := K16z.ext E17z
  have F17z_name : Fld Z h17z b17z own_s0 "name" own_s18 .null := D17z (Or.inr (own_hw hw 117 rfl)) (ty := (.object own_s11)) (by decide)
  have F17z_site : Fld Z h17z b17z own_s0 "site" own_s18 .null := D17z (Or.inr (own_hw hw 119 rfl)) (ty := (.object own_s11)) (by decide)
  have F17z_kind : Fld Z h17z b17z own_s0 "kind" own_s5 .null := D17z (Or.inr (own_hw hw 121 rfl)) (ty := (.object own_s4)) (by decide)
  have F17z_selections : Fld Z h17z b17z own_s0 "selections" own_s16 .null := D17z (Or.inr (own_hw hw 123 rfl)) (ty := (.object own_s15)) (by decide)
  have F17z_projection : Fld Z h17z b17z own_s0 "projection" own_s17 .null := D17z (Or.inr (own_hw hw 125 rfl)) (ty := (.object own_s14)) (by decide)
  refine own_go st17z ?_
  refine own_go (fun t k => XS.dup X17z.here hx rfl (hb hby d_method_2_code_42) rfl rfl k) ?_
  refine own_go (fun t k => XS.aloadN X17z.here hx rfl (hb hby d_method_2_code_43) rfl rfl k) ?_
  refine own_go (fun t k => XS.aloadN X17z.here hx rfl (hb hby d_method_2_code_44) rfl rfl k) ?_
  refine own_go (fun t k => XS.aloadN X17z.here hx rfl (hb hby d_method_2_code_45) rfl rfl k) ?_
  refine own_go (fun t k => XS.aloadN X17z.here hx rfl (hb hby d_method_2_code_46) rfl rfl k) ?_
  refine own_go (fun t k => XS.aconstNull X17z.here hx rfl (hb hby d_method_2_code_47) k) ?_
  obtain ⟨_, _, ⟨T19z, L19z, k19z, n19z⟩, -, X19z, ⟨Lc19z, hQ19z, l19z, y19z, z19z⟩, st19z⟩ := X17z.specialBack hx (y := own_m34) rfl hown (own_mw hZ hw 63 rfl) (own_mw hZ hw 64 rfl) (own_mw hZ hw 65 rfl) (by decide) (backOf (W := 1) (own_fih l Z a0 hw [] b17z r_15z b1z aH aV arr_13z kk_13z mi eM b6z h17z O18z S_H S_V MI S_EM A17z fr_b17z F17z_name F17z_site F17z_kind F17z_selections F17z_projection ((r13z_0.keep K15zq).ext E17z) ((r13z_5.keep K15zq (by simp)).ext E17z) ((r13z_4.keep K15zq).ext E17z) ((r13z_7.keep K15zq (by simp)).ext E17z) ((r13z_8.keep K15zq (by simp)).ext E17z) (((r8z_0.keep K13zq).keep K15zq).ext E17z) nhv) hZ (own_hw hw 65 rfl) (own_hw hw 62 rfl) (by decide) (by decide)) (g := (mkF m 48 #[.val (.ref aH), .val (.int (1 : Int32)), .val (.ref b1z), .val (.ref r_15z)] [.null, (.ref b1z), (.ref aH), (.ref r_15z), (.ref r_15z), (.ref b17z), (.ref b17z)])) rfl (by rw [hml]; rfl) (Steps.refl _) (a := b17z) (argsL := [(.ref r_15z), (.ref r_15z), (.ref aH), (.ref b1z), .null]) (rest := [(.ref b17z)]) (lenOf pd_1504261874 rfl) rfl (by show 2 * 0 + _ ≤ _; exact Nat.le_of_eq rfl) (hb hby d_method_2_code_48) (fun _ _ => ⟨rfl, e17z, (by decide : 6 + 2 ≤ _), (by decide : 26 + 3 ≤ _)⟩)
  dsimp only [Pt.U, Pt.locs, Pt.cells, Pt.slots] at X19z l19z y19z z19z st19z hQ19z
  subst l19z y19z z19z
  obtain ⟨rfl, NQ19z, K19zq, r19z_0, r19z_1⟩ := hQ19z
  refine own_tr st19z ?_
  have N19z := Fr.app N15z NQ19z
  have O20z := own_ext_keep O18z K19zq (allS fr_b17z all0)
  have K20z := K18z.trans K19zq (allS (Or.inr lz_b17z) all0)
  show own_G p e below (T19z.setTop (mkF m 51 #[.val (.ref aH), .val (.int (1 : Int32)), .val (.ref b1z), .val (.ref r_15z)] [(.ref b17z)])) _
  exact own_ret X19z hx Bd.returns rfl (Or.inr (Or.inr (Or.inr (Or.inr ⟨rfl, rfl, rfl⟩)))) (hb hby d_method_2_code_51) hlk (Nat.le_of_ble_eq_true rfl) (Nat.le_of_ble_eq_true rfl) (by show Q_own_mkh1 Z dE kd cs aH aV mi eM h0 _ T19z.heap _; exact ⟨b17z, rfl, N19z, K20z, r19z_0, fr_b17z, lz_b17z, r19z_1⟩)
theorem ef_own_mke2 (m : MethodId) (x0 : Addr) (x1 : Int32) : entryFrame m #[(.ref x0), (.int x1)] 4 = mkF m 0 #[.val (.ref x0), .val (.int x1), .unset, .unset] [] := by first | (simp [entryFrame, mkF, argsToLocals, Value.category]; done) | rfl
theorem pf_own_mke2 : plainFor own_m36 = true := plainFor_of_name (by simp [plainName, overriddenIn])
def Q_own_mke2 (Z : State) (dE : Addr) (kd : ClassId) (cs : Int32) (aH : Addr) (aV : Addr) (kn : Addr) (eL : Addr) (eA : Addr) (ke : ClassId) (h0 : Heap) (v : Option Value) (h : Heap) (L : List Loc) : Prop := ∃ r : Addr, v = some (.ref r) ∧ Fr Z.heap.size L ∧ Keep h0 h [] ∧ (Exa Z h r own_s0) ∧ (Z.heap.size ≤ r) ∧ (h0.size ≤ r) ∧ (Fld Z h r own_s0 "kind" own_s5 (.ref kn))
set_option maxRecDepth 65536 in
set_option maxHeartbeats 40000000 in
theorem own_mke2 (l : Launch) (Z : State) (a0 : Array Value) (hw : ∀ d ∈ tables_1, d.before a0 Z = true) (ws : List Jvm.Cond) (dE : Addr) (kd : ClassId) (cs : Int32) (aH : Addr) (aV : Addr) (kn : Addr) (eL : Addr) (eA : Addr) (ke : ClassId) (h0 : Heap) (O0 : Ext Z.heap h0) (S_D : Sta Z Z.heap own_s1 own_s19 own_s3 (.ref dE)) (BD : own_A Z Z.heap dE kd (.object own_s2) []) (S_CS : Sta Z Z.heap own_s11 "COMPACT_STRINGS" "Z" (.int cs)) (hcs : ¬ (cs = (0 : Int32))) (S_H : Sta Z Z.heap own_s4 "HORIZONTAL" own_s5 (.ref aH)) (S_V : Sta Z Z.heap own_s4 "VERTICAL" own_s5 (.ref aV)) (S_EL : Sta Z Z.heap own_s12 "EMPTY_LIST" own_s22 (.ref eL)) (F_EL : Fld Z Z.heap eL own_s10 "elements" own_s3 (.ref eA)) (B_EL : own_A Z Z.heap eA ke (.object own_s2) []) (E_EL : Exa Z Z.heap eL own_s10) (nkh : kn ≠ aH) (nkv : kn ≠ aV) :
    MetFree l own_m36 (head1 (Jvm.Cond.code own_m36 method_2_code 4 (some (.object own_s0)) :: ws) ({ frames := 10, cells := 4, slots := 13, locals := 180 } : Room)) (fun aa U => aa = #[(.ref kn), (.int (2 : Int32))] ∧ Z.Warmed39 U.vm ∧ U.heap = h0) (fun _ _ _ _ _ => True) (fun _ U o U' => ∃ v L, o = .returned v ∧ Q_own_mke2 Z dE kd cs aH aV kn eL eA ke h0 v U'.heap L ∧ FrameEnd U o U' L ({ frames := 10, cells := 4, slots := 13, locals := 180 } : Room).cells ({ frames := 10, cells := 4, slots := 13, locals := 180 } : Room).slots) := by
  refine MetFree.of_bodySF pf_own_mke2 hisR ?_
  intro p e s m args below meth c s₁ Bd hml0 hP hK
  obtain ⟨rfl, hZ, hh⟩ := hP
  have hx := Bd.exec
  have hby := Bd.bytes
  have hlk := BodyLoose.notSynchronized Bd
  have hml : c.maxLocals = 4 := hml0
  have hown : s.vm.findClass own_s20 = some m.cls := findClass_of_methodNamed Bd.named
  have hnm := (name_of_methodNamed Bd.named Bd.method).1
  have X0 : Stand p l e ({ frames := 10, cells := 4, slots := 13, locals := 180 } : Room) s m #[(.ref kn), (.int (2 : Int32))] below meth c s₁ [] 0 0 := Stand.of_body Bd
  have e0 : s₁.heap = h0 := by rw [← hh, Bd.state]; rfl
  have N0 := Fr.nil Z.heap.size
  have K0 : Keep h0 h0 [] := Keep.refl _ _
  refine own_start (Q := Q_own_mke2 Z dE kd cs aH aV kn eL eA ke h0) (ef_own_mke2 m (kn) ((2 : Int32))) ?_
  show own_G p e below (s₁.setTop (mkF m 0 #[.val (.ref kn), .val (.int (2 : Int32)), .unset, .unset] [])) _
  obtain ⟨T1z, h1z, X1z, e1z, E1z, A1z, D1z, -, st1z⟩ := newO X0 hx hZ hown (own_hw hw 4 rfl) (own_hw hw 5 rfl) (own_hw hw 6 rfl) e0 (g := (mkF m 0 #[.val (.ref kn), .val (.int (2 : Int32)), .unset, .unset] [])) rfl (hb hby d_method_2_code_0) (by decide) (by decide)
  obtain ⟨b1z, g1z⟩ : ∃ z, z = h0.size := ⟨_, rfl⟩
  rw [← g1z] at A1z D1z st1z
  have fr_b1z : Z.heap.size ≤ b1z := g1z ▸ O0.1
  have lz_b1z : h0.size ≤ b1z := g1z ▸ K0.1
  have O2z := own_ext_trans O0 E1z
  have K2z := K0.ext E1z
  have F1z_modCount : Fld Z h1z b1z own_s7 "modCount" "I" (.int (0 : Int32)) := D1z (Or.inl (own_hw hw 26 rfl)) (ty := .int) (by decide)
  have F1z_elementData : Fld Z h1z b1z own_s1 "elementData" own_s3 .null := D1z (Or.inl (own_hw hw 29 rfl)) (ty := (.array (.object own_s2))) (by decide)
  have F1z_size : Fld Z h1z b1z own_s1 "size" "I" (.int (0 : Int32)) := D1z (Or.inl (own_hw hw 96 rfl)) (ty := .int) (by decide)
  refine own_go st1z ?_
  refine own_go (fun t k => XS.dup X1z.here hx rfl (hb hby d_method_2_code_3) rfl rfl k) ?_
  obtain ⟨_, _, ⟨T3z, L3z, k3z, n3z⟩, -, X3z, ⟨Lc3z, hQ3z, l3z, y3z, z3z⟩, st3z⟩ := X1z.specialBack hx (y := own_m2) rfl hown (own_mw hZ hw 7 rfl) (own_mw hZ hw 8 rfl) (own_mw hZ hw 9 rfl) (by decide) (backOf (W := 1) (own_ali l Z a0 hw [] b1z dE h1z O2z S_D A1z fr_b1z F1z_modCount F1z_elementData F1z_size) hZ (own_hw hw 9 rfl) (own_hw hw 6 rfl) (by decide) (by decide)) (g := (mkF m 4 #[.val (.ref kn), .val (.int (2 : Int32)), .unset, .unset] [(.ref b1z), (.ref b1z)])) rfl (by rw [hml]; rfl) (Steps.refl _) (a := b1z) (argsL := []) (rest := [(.ref b1z)]) (lenOf pd_193421996 rfl) rfl (by show 2 * 0 + _ ≤ _; exact Nat.le_of_eq rfl) (hb hby d_method_2_code_4) (fun _ _ => ⟨rfl, e1z, (by decide : 1 + 0 ≤ _), (by decide : 3 + 0 ≤ _)⟩)
  dsimp only [Pt.U, Pt.locs, Pt.cells, Pt.slots] at X3z l3z y3z z3z st3z hQ3z
  subst l3z y3z z3z
  obtain ⟨rfl, NQ3z, K3zq, r3z_0, r3z_1, r3z_2, r3z_3⟩ := hQ3z
  refine own_tr st3z ?_
  have N3z := Fr.app N0 NQ3z
  have O4z := own_ext_keep O2z K3zq (allS fr_b1z all0)
  have K4z := K2z.trans K3zq (allS (Or.inr lz_b1z) all0)
  show own_G p e below (T3z.setTop (mkF m 7 #[.val (.ref kn), .val (.int (2 : Int32)), .unset, .unset] [(.ref b1z)])) _
  refine own_go (fun t k => XS.astoreN X3z.here hx rfl (hb hby d_method_2_code_7) rfl rfl (l' := #[.val (.ref kn), .val (.int (2 : Int32)), .val (.ref b1z), .unset]) rfl k) ?_
  refine own_go (fun t k => XS.aloadN X3z.here hx rfl (hb hby d_method_2_code_8) rfl rfl k) ?_
  obtain ⟨T5z, X5z, e5z, st5z⟩ := getS2 X3z hx hZ hown (host := "") (Or.inl (own_hw hw 34 rfl)) Via.refl rfl (S_H.ext O4z) (g := (mkF m 9 #[.val (.ref kn), .val (.int (2 : Int32)), .val (.ref b1z), .unset] [(.ref kn)])) rfl (hb hby d_method_2_code_9)
  refine own_go st5z ?_
  refine own_go (fun t k => Jvm.RoadKit.acmp (g := (mkF m 12 #[.val (.ref kn), .val (.int (2 : Int32)), .val (.ref b1z), .unset] [(.ref aH), (.ref kn)])) X5z hx rfl rfl rfl (pc0 := 12) (pc' := 30) (same := false) rfl (hb hby d_method_2_code_12) rfl (decide_eq_false fun q => nkh (Value.ref.inj q)) (by decide) (by decide) k) ?_
  show own_G p e below (T5z.setTop (mkF m 30 #[.val (.ref kn), .val (.int (2 : Int32)), .val (.ref b1z), .unset] [])) _
  refine own_go (fun t k => XS.bipush X5z.here hx rfl (hb hby d_method_2_code_30) k) ?_
  refine own_go (fun t k => XS.iloadN X5z.here hx rfl (hb hby d_method_2_code_32) rfl k) ?_
  refine own_go (fun t k => XS.iadd X5z.here hx rfl (hb hby d_method_2_code_33) rfl k) ?_
  refine own_go (fun t k => XS.i2c X5z.here hx rfl (hb hby d_method_2_code_34) rfl k) ?_
  obtain ⟨_, _, ⟨T6z, L6z, k6z, n6z⟩, -, X6z, ⟨Lc6z, hQ6z, l6z, y6z, z6z⟩, st6z⟩ := Jvm.LawKit.callS X5z hx (y := own_m16) hown (own_mw hZ hw 36 rfl) (own_mw hZ hw 37 rfl) (own_mw hZ hw 38 rfl) (own_mw hZ hw 39 rfl) (by decide) (backOf (W := 0) (own_vo2 l Z a0 hw [] cs T3z.heap O4z S_CS hcs) hZ (own_hw hw 39 rfl) (own_hw hw 38 rfl) (by decide) (by decide)) (g := (mkF m 35 #[.val (.ref kn), .val (.int (2 : Int32)), .val (.ref b1z), .unset] [(.int (99 : Int32))])) rfl (by rw [hml]; rfl) (argsL := [(.int (99 : Int32))]) (rest := []) (lenOf pd_1709310937 rfl) rfl (by show 2 * 0 + _ ≤ _; exact Nat.le_of_eq rfl) (hb hby d_method_2_code_35) (fun _ _ => ⟨rfl, e5z, (by decide : 1 + 2 ≤ _), (by decide : 3 + 5 ≤ _)⟩)
  dsimp only [Pt.U, Pt.locs, Pt.cells, Pt.slots] at X6z l6z y6z z6z st6z hQ6z
  subst l6z y6z z6z
  obtain ⟨r_6z, rfl, NQ6z, K6zq⟩ := hQ6z
  refine own_go st6z ?_
  have N6z := Fr.app N3z NQ6z
  have O7z := own_ext_keep O4z K6zq all0
  have K7z := K4z.trans K6zq all0
  show own_G p e below (T6z.setTop (mkF m 38 #[.val (.ref kn), .val (.int (2 : Int32)), .val (.ref b1z), .unset] [(.ref r_6z)])) _
  refine own_go (fun t k => XS.astoreN X6z.here hx rfl (hb hby d_method_2_code_38) rfl rfl (l' := #[.val (.ref kn), .val (.int (2 : Int32)), .val (.ref b1z), .val (.ref r_6z)]) rfl k) ?_
  obtain ⟨T8z, h8z, X8z, e8z, E8z, A8z, D8z, -, st8z⟩ := newO X6z hx hZ hown (own_hw hw 60 rfl) (own_hw hw 61 rfl) (own_hw hw 62 rfl) rfl (g := (mkF m 39 #[.val (.ref kn), .val (.int (2 : Int32)), .val (.ref b1z), .val (.ref r_6z)] [])) rfl (hb hby d_method_2_code_39) (by decide) (by decide)
  obtain ⟨b8z, g8z⟩ : ∃ z, z = T6z.heap.size := ⟨_, rfl⟩
  rw [← g8z] at A8z D8z st8z
  have fr_b8z : Z.heap.size ≤ b8z := g8z ▸ O7z.1
  have lz_b8z : h0.size ≤ b8z := g8z ▸ K7z.1
  have ne_b1z_b8z : b1z ≠ b8z := Nat.ne_of_lt (g8z ▸ (r3z_0.keep K6zq).lt)
  have O9z := own_ext_trans O7z E8z
  have K9z := K7z.ext E8z
  have F8z_name : Fld Z h8z b8z own_s0 "name" own_s18 .null := D8z (Or.inr (own_hw hw 117 rfl)) (ty := (.object own_s11)) (by decide)
  have F8z_site : Fld Z h8z b8z own_s0 "site" own_s18 .null := D8z (Or.inr (own_hw hw 119 rfl)) (ty := (.object own_s11)) (by decide)
  have F8z_kind : Fld Z h8z b8z own_s0 "kind" own_s5 .null := D8z (Or.inr (own_hw hw 121 rfl)) (ty := (.object own_s4)) (by decide)
  have F8z_selections : Fld Z h8z b8z own_s0 "selections" own_s16 .null := D8z (Or.inr (own_hw hw 123 rfl)) (ty := (.object own_s15)) (by decide)
  have F8z_projection : Fld Z h8z b8z own_s0 "projection" own_s17 .null := D8z (Or.inr (own_hw hw 125 rfl)) (ty := (.object own_s14)) (by decide)
  refine own_go st8z ?_
  refine own_go (fun t k => XS.dup X8z.here hx rfl (hb hby d_method_2_code_42) rfl rfl k) ?_
  refine own_go (fun t k => XS.aloadN X8z.here hx rfl (hb hby d_method_2_code_43) rfl rfl k) ?_
  refine own_go (fun t k => XS.aloadN X8z.here hx rfl (hb hby d_method_2_code_44) rfl rfl k) ?_
  refine own_go (fun t k => XS.aloadN X8z.here hx rfl (hb hby d_method_2_code_45) rfl rfl k) ?_
  refine own_go (fun t k => XS.aloadN X8z.here hx rfl (hb hby d_method_2_code_46) rfl rfl k) ?_
  refine own_go (fun t k => XS.aconstNull X8z.here hx rfl (hb hby d_method_2_code_47) k) ?_
  obtain ⟨_, _, ⟨T10z, L10z, k10z, n10z⟩, -, X10z, ⟨Lc10z, hQ10z, l10z, y10z, z10z⟩, st10z⟩ := X8z.specialBack hx (y := own_m34) rfl hown (own_mw hZ hw 63 rfl) (own_mw hZ hw 64 rfl) (own_mw hZ hw 65 rfl) (by decide) (backOf (W := 1) (own_fie l Z a0 hw [] b8z r_6z kn b1z aH aV eL eA ke h8z O9z S_H S_V S_EL F_EL B_EL E_EL A8z fr_b8z F8z_name F8z_site F8z_kind F8z_selections F8z_projection ((r3z_0.keep K6zq).ext E8z) ((r3z_3.keep K6zq (by simp)).ext E8z) nkh nkv) hZ (own_hw hw 65 rfl) (own_hw hw 62 rfl) (by decide) (by decide)) (g := (mkF m 48 #[.val (.ref kn), .val (.int (2 : Int32)), .val (.ref b1z), .val (.ref r_6z)] [.null, (.ref b1z), (.ref kn), (.ref r_6z), (.ref r_6z), (.ref b8z), (.ref b8z)])) rfl (by rw [hml]; rfl) (Steps.refl _) (a := b8z) (argsL := [(.ref r_6z), (.ref r_6z), (.ref kn), (.ref b1z), .null]) (rest := [(.ref b8z)]) (lenOf pd_1504261874 rfl) rfl (by show 2 * 0 + _ ≤ _; exact Nat.le_of_eq rfl) (hb hby d_method_2_code_48) (fun _ _ => ⟨rfl, e8z, (by decide : 4 + 0 ≤ _), (by decide : 13 + 0 ≤ _)⟩)
  dsimp only [Pt.U, Pt.locs, Pt.cells, Pt.slots] at X10z l10z y10z z10z st10z hQ10z
  subst l10z y10z z10z
  obtain ⟨rfl, NQ10z, K10zq, r10z_0, r10z_1⟩ := hQ10z
  refine own_tr st10z ?_
  have N10z := Fr.app N6z NQ10z
  have O11z := own_ext_keep O9z K10zq (allS fr_b8z all0)
  have K11z := K9z.trans K10zq (allS (Or.inr lz_b8z) all0)
  show own_G p e below (T10z.setTop (mkF m 51 #[.val (.ref kn), .val (.int (2 : Int32)), .val (.ref b1z), .val (.ref r_6z)] [(.ref b8z)])) _
  exact own_ret X10z hx Bd.returns rfl (Or.inr (Or.inr (Or.inr (Or.inr ⟨rfl, rfl, rfl⟩)))) (hb hby d_method_2_code_51) hlk (Nat.le_of_ble_eq_true rfl) (Nat.le_of_ble_eq_true rfl) (by show Q_own_mke2 Z dE kd cs aH aV kn eL eA ke h0 _ T10z.heap _; exact ⟨b8z, rfl, N10z, K11z, r10z_0, fr_b8z, lz_b8z, r10z_1⟩)
theorem ef_own_mkh2 (m : MethodId) (x0 : Addr) (x1 : Int32) : entryFrame m #[(.ref x0), (.int x1)] 4 = mkF m 0 #[.val (.ref x0), .val (.int x1), .unset, .unset] [] := by first | (simp [entryFrame, mkF, argsToLocals, Value.category]; done) | rfl
theorem pf_own_mkh2 : plainFor own_m36 = true := plainFor_of_name (by simp [plainName, overriddenIn])
def Q_own_mkh2 (Z : State) (dE : Addr) (kd : ClassId) (cs : Int32) (aH : Addr) (aV : Addr) (mi : Addr) (eM : Addr) (h0 : Heap) (v : Option Value) (h : Heap) (L : List Loc) : Prop := ∃ r : Addr, v = some (.ref r) ∧ Fr Z.heap.size L ∧ Keep h0 h [] ∧ (Exa Z h r own_s0) ∧ (Z.heap.size ≤ r) ∧ (h0.size ≤ r) ∧ (Fld Z h r own_s0 "kind" own_s5 (.ref aH))
set_option maxRecDepth 65536 in
set_option maxHeartbeats 40000000 in
theorem own_mkh2 (l : Launch) (Z : State) (a0 : Array Value) (hw : ∀ d ∈ tables_1, d.before a0 Z = true) (ws : List Jvm.Cond) (dE : Addr) (kd : ClassId) (cs : Int32) (aH : Addr) (aV : Addr) (mi : Addr) (eM : Addr) (h0 : Heap) (O0 : Ext Z.heap h0) (S_D : Sta Z Z.heap own_s1 own_s19 own_s3 (.ref dE)) (BD : own_A Z Z.heap dE kd (.object own_s2) []) (S_CS : Sta Z Z.heap own_s11 "COMPACT_STRINGS" "Z" (.int cs)) (hcs : ¬ (cs = (0 : Int32))) (S_H : Sta Z Z.heap own_s4 "HORIZONTAL" own_s5 (.ref aH)) (S_V : Sta Z Z.heap own_s4 "VERTICAL" own_s5 (.ref aV)) (MI : Mir Z own_s3 mi) (S_EM : Sta Z Z.heap own_s12 "EMPTY" own_s13 (.ref eM)) (nhv : aH ≠ aV) :
    MetFree l own_m36 (head1 (Jvm.Cond.code own_m36 method_2_code 4 (some (.object own_s0)) :: ws) ({ frames := 10, cells := 8, slots := 29, locals := 180 } : Room)) (fun aa U => aa = #[(.ref aH), (.int (2 : Int32))] ∧ Z.Warmed39 U.vm ∧ U.heap = h0) (fun _ _ _ _ _ => True) (fun _ U o U' => ∃ v L, o = .returned v ∧ Q_own_mkh2 Z dE kd cs aH aV mi eM h0 v U'.heap L ∧ FrameEnd U o U' L ({ frames := 10, cells := 8, slots := 29, locals := 180 } : Room).cells ({ frames := 10, cells := 8, slots := 29, locals := 180 } : Room).slots) := by
  refine MetFree.of_bodySF pf_own_mkh2 hisR ?_
  intro p e s m args below meth c s₁ Bd hml0 hP hK
  obtain ⟨rfl, hZ, hh⟩ := hP
  have hx := Bd.exec
  have hby := Bd.bytes
  have hlk := BodyLoose.notSynchronized Bd
  have hml : c.maxLocals = 4 := hml0
  have hown : s.vm.findClass own_s20 = some m.cls := findClass_of_methodNamed Bd.named
  have hnm := (name_of_methodNamed Bd.named Bd.method).1
  have X0 : Stand p l e ({ frames := 10, cells := 8, slots := 29, locals := 180 } : Room) s m #[(.ref aH), (.int (2 : Int32))] below meth c s₁ [] 0 0 := Stand.of_body Bd
  have e0 : s₁.heap = h0 := by rw [← hh, Bd.state]; rfl
  have N0 := Fr.nil Z.heap.size
  have K0 : Keep h0 h0 [] := Keep.refl _ _
  refine own_start (Q := Q_own_mkh2 Z dE kd cs aH aV mi eM h0) (ef_own_mkh2 m (aH) ((2 : Int32))) ?_
  show own_G p e below (s₁.setTop (mkF m 0 #[.val (.ref aH), .val (.int (2 : Int32)), .unset, .unset] [])) _
  obtain ⟨T1z, h1z, X1z, e1z, E1z, A1z, D1z, -, st1z⟩ := newO X0 hx hZ hown (own_hw hw 4 rfl) (own_hw hw 5 rfl) (own_hw hw 6 rfl) e0 (g := (mkF m 0 #[.val (.ref aH), .val (.int (2 : Int32)), .unset, .unset] [])) rfl (hb hby d_method_2_code_0) (by decide) (by decide)
  obtain ⟨b1z, g1z⟩ : ∃ z, z = h0.size := ⟨_, rfl⟩
  rw [← g1z] at A1z D1z st1z
  have fr_b1z : Z.heap.size ≤ b1z := g1z ▸ O0.1
  have lz_b1z : h0.size ≤ b1z := g1z ▸ K0.1
  have O2z := own_ext_trans O0 E1z
  have K2z := K0.ext E1z
  have F1z_modCount : Fld Z h1z b1z own_s7 "modCount" "I" (.int (0 : Int32)) := D1z (Or.inl (own_hw hw 26 rfl)) (ty := .int) (by decide)
  have F1z_elementData : Fld Z h1z b1z own_s1 "elementData" own_s3 .null := D1z (Or.inl (own_hw hw 29 rfl)) (ty := (.array (.object own_s2))) (by decide)
  have F1z_size : Fld Z h1z b1z own_s1 "size" "I" (.int (0 : Int32)) := D1z (Or.inl (own_hw hw 96 rfl)) (ty := .int) (by decide)
  refine own_go st1z ?_
  refine own_go (fun t k => XS.dup X1z.here hx rfl (hb hby d_method_2_code_3) rfl rfl k) ?_
  obtain ⟨_, _, ⟨T3z, L3z, k3z, n3z⟩, -, X3z, ⟨Lc3z, hQ3z, l3z, y3z, z3z⟩, st3z⟩ := X1z.specialBack hx (y := own_m2) rfl hown (own_mw hZ hw 7 rfl) (own_mw hZ hw 8 rfl) (own_mw hZ hw 9 rfl) (by decide) (backOf (W := 1) (own_ali l Z a0 hw [] b1z dE h1z O2z S_D A1z fr_b1z F1z_modCount F1z_elementData F1z_size) hZ (own_hw hw 9 rfl) (own_hw hw 6 rfl) (by decide) (by decide)) (g := (mkF m 4 #[.val (.ref aH), .val (.int (2 : Int32)), .unset, .unset] [(.ref b1z), (.ref b1z)])) rfl (by rw [hml]; rfl) (Steps.refl _) (a := b1z) (argsL := []) (rest := [(.ref b1z)]) (lenOf pd_193421996 rfl) rfl (by show 2 * 0 + _ ≤ _; exact Nat.le_of_eq rfl) (hb hby d_method_2_code_4) (fun _ _ => ⟨rfl, e1z, (by decide : 1 + 0 ≤ _), (by decide : 3 + 0 ≤ _)⟩)
  dsimp only [Pt.U, Pt.locs, Pt.cells, Pt.slots] at X3z l3z y3z z3z st3z hQ3z
  subst l3z y3z z3z
  obtain ⟨rfl, NQ3z, K3zq, r3z_0, r3z_1, r3z_2, r3z_3⟩ := hQ3z
  refine own_tr st3z ?_
  have N3z := Fr.app N0 NQ3z
  have O4z := own_ext_keep O2z K3zq (allS fr_b1z all0)
  have K4z := K2z.trans K3zq (allS (Or.inr lz_b1z) all0)
  show own_G p e below (T3z.setTop (mkF m 7 #[.val (.ref aH), .val (.int (2 : Int32)), .unset, .unset] [(.ref b1z)])) _
  refine own_go (fun t k => XS.astoreN X3z.here hx rfl (hb hby d_method_2_code_7) rfl rfl (l' := #[.val (.ref aH), .val (.int (2 : Int32)), .val (.ref b1z), .unset]) rfl k) ?_
  refine own_go (fun t k => XS.aloadN X3z.here hx rfl (hb hby d_method_2_code_8) rfl rfl k) ?_
  obtain ⟨T5z, X5z, e5z, st5z⟩ := getS2 X3z hx hZ hown (host := "") (Or.inl (own_hw hw 34 rfl)) Via.refl rfl (S_H.ext O4z) (g := (mkF m 9 #[.val (.ref aH), .val (.int (2 : Int32)), .val (.ref b1z), .unset] [(.ref aH)])) rfl (hb hby d_method_2_code_9)
  refine own_go st5z ?_
  refine own_go (fun t k => Jvm.RoadKit.acmp (g := (mkF m 12 #[.val (.ref aH), .val (.int (2 : Int32)), .val (.ref b1z), .unset] [(.ref aH), (.ref aH)])) X5z hx rfl rfl rfl (pc0 := 12) (pc' := 15) (same := true) rfl (hb hby d_method_2_code_12) rfl (decide_eq_true (congrArg Value.ref rfl)) (by decide) (by decide) k) ?_
  show own_G p e below (T5z.setTop (mkF m 15 #[.val (.ref aH), .val (.int (2 : Int32)), .val (.ref b1z), .unset] [])) _
  refine own_go (fun t k => XS.aloadN X5z.here hx rfl (hb hby d_method_2_code_15) rfl rfl k) ?_
  obtain ⟨T6z, h6z, X6z, e6z, E6z, A6z, D6z, -, st6z⟩ := newO X5z hx hZ hown (own_hw hw 249 rfl) (own_hw hw 250 rfl) (own_hw hw 251 rfl) e5z (g := (mkF m 16 #[.val (.ref aH), .val (.int (2 : Int32)), .val (.ref b1z), .unset] [(.ref b1z)])) rfl (hb hby d_method_2_code_16) (by decide) (by decide)
  obtain ⟨b6z, g6z⟩ : ∃ z, z = T3z.heap.size := ⟨_, rfl⟩
  rw [← g6z] at A6z D6z st6z
  have fr_b6z : Z.heap.size ≤ b6z := g6z ▸ O4z.1
  have lz_b6z : h0.size ≤ b6z := g6z ▸ K4z.1
  have ne_b1z_b6z : b1z ≠ b6z := Nat.ne_of_lt (g6z ▸ r3z_0.lt)
  have O7z := own_ext_trans O4z E6z
  have K7z := K4z.ext E6z
  have F6z_path : Fld Z h6z b6z own_s9 "path" own_s25 .null := D6z (Or.inr (own_hw hw 257 rfl)) (ty := (.object own_s23)) (by decide)
  have F6z_test : Fld Z h6z b6z own_s9 "test" own_s24 .null := D6z (Or.inr (own_hw hw 259 rfl)) (ty := (.object own_s21)) (by decide)
  have F6z_value : Fld Z h6z b6z own_s9 "value" own_s18 .null := D6z (Or.inr (own_hw hw 261 rfl)) (ty := (.object own_s11)) (by decide)
  refine own_go st6z ?_
  refine own_go (fun t k => XS.dup X6z.here hx rfl (hb hby d_method_2_code_19) rfl rfl k) ?_
  refine own_go (fun t k => XS.aconstNull X6z.here hx rfl (hb hby d_method_2_code_20) k) ?_
  refine own_go (fun t k => XS.aconstNull X6z.here hx rfl (hb hby d_method_2_code_21) k) ?_
  refine own_go (fun t k => XS.aconstNull X6z.here hx rfl (hb hby d_method_2_code_22) k) ?_
  obtain ⟨_, _, ⟨T8z, L8z, k8z, n8z⟩, -, X8z, ⟨Lc8z, hQ8z, l8z, y8z, z8z⟩, st8z⟩ := X6z.specialBack hx (y := own_m12) rfl hown (own_mw hZ hw 252 rfl) (own_mw hZ hw 253 rfl) (own_mw hZ hw 254 rfl) (by decide) (backOf (W := 2) (own_seli l Z a0 hw [] b6z h6z O7z A6z fr_b6z F6z_path F6z_test F6z_value) hZ (own_hw hw 254 rfl) (own_hw hw 251 rfl) (by decide) (by decide)) (g := (mkF m 23 #[.val (.ref aH), .val (.int (2 : Int32)), .val (.ref b1z), .unset] [.null, .null, .null, (.ref b6z), (.ref b6z), (.ref b1z)])) rfl (by rw [hml]; rfl) (Steps.refl _) (a := b6z) (argsL := [.null, .null, .null]) (rest := [(.ref b6z), (.ref b1z)]) (lenOf pd_799689350 rfl) rfl (by show 2 * 0 + _ ≤ _; exact Nat.le_of_eq rfl) (hb hby d_method_2_code_23) (fun _ _ => ⟨rfl, e6z, (by decide : 2 + 0 ≤ _), (by decide : 6 + 0 ≤ _)⟩)
  dsimp only [Pt.U, Pt.locs, Pt.cells, Pt.slots] at X8z l8z y8z z8z st8z hQ8z
  subst l8z y8z z8z
  obtain ⟨rfl, NQ8z, K8zq, r8z_0⟩ := hQ8z
  refine own_tr st8z ?_
  have N8z := Fr.app N3z NQ8z
  have O9z := own_ext_keep O7z K8zq (allS fr_b6z all0)
  have K9z := K7z.trans K8zq (allS (Or.inr lz_b6z) all0)
  show own_G p e below (T8z.setTop (mkF m 26 #[.val (.ref aH), .val (.int (2 : Int32)), .val (.ref b1z), .unset] [(.ref b6z), (.ref b1z)])) _
  have f10z := ((r3z_1.ext E6z).keep K8zq (by simp only [List.mem_cons, List.not_mem_nil, or_false, not_or]; exact ne_b1z_b6z))
  have f11z := ((r3z_2.ext E6z).keep K8zq (by simp only [List.mem_cons, List.not_mem_nil, or_false, not_or]; exact ne_b1z_b6z))
  have f12z := ((r3z_3.ext E6z).keep K8zq (by simp only [List.mem_cons, List.not_mem_nil, or_false, not_or]; exact ne_b1z_b6z))
  obtain ⟨cq13z, kq13z, qa13z, qb13z, qc13z⟩ := isOf hZ (rfl : T8z.heap = _) ((r3z_0.ext E6z).keep K8zq)
  obtain ⟨_, _, ⟨T13z, L13z, k13z, n13z⟩, -, X13z, ⟨Lc13z, hQ13z, l13z, y13z, z13z⟩, st13z⟩ := X8z.virtualBack hx (y := own_m7) (z := own_m7) hown (own_mw hZ hw 126 rfl) (own_mw hZ hw 127 rfl) (notFace_of_selects (args := #[]) (own_mw hZ hw 129 rfl)) (own_mw hZ hw 129 rfl) (own_mw hZ hw 128 rfl) (by decide) (backOf (W := 0) (own_add10S l Z a0 hw [] b1z (0 : Int32) dE kd b6z T8z.heap O9z S_D BD ((r3z_0.ext E6z).keep K8zq) fr_b1z f10z f11z f12z r8z_0) hZ (own_hw hw 130 rfl) (own_hw hw 6 rfl) (by decide) (by decide)) qa13z qc13z (g := (mkF m 26 #[.val (.ref aH), .val (.int (2 : Int32)), .val (.ref b1z), .unset] [(.ref b6z), (.ref b1z)])) rfl (by rw [hml]; rfl) (Steps.refl _) (argsL := [(.ref b6z)]) (rest := []) (lenOf pd_396412080 rfl) rfl (by show 2 * 0 + _ ≤ _; exact Nat.le_of_eq rfl) (hb hby d_method_2_code_26) (fun _ _ => ⟨rfl, rfl, (by decide : 2 + 1 ≤ _), (by decide : 6 + 10 ≤ _)⟩)
  dsimp only [Pt.U, Pt.locs, Pt.cells, Pt.slots] at X13z l13z y13z z13z st13z hQ13z
  subst l13z y13z z13z
  obtain ⟨arr_13z, kk_13z, rfl, NQ13z, K13zq, r13z_0, r13z_1, r13z_2, r13z_3, r13z_4, r13z_5, r13z_6, r13z_7, r13z_8⟩ := hQ13z
  refine own_tr st13z ?_
  have N13z := Fr.app N8z NQ13z
  have O14z := own_ext_keep O9z K13zq (allS fr_b1z all0)
  have K14z := K9z.trans K13zq (allS (Or.inr lz_b1z) all0)
  have lz_arr_13z : h0.size ≤ arr_13z := Nat.le_trans K9z.1 r13z_2
  have ne_b1z_arr_13z : b1z ≠ arr_13z := Nat.ne_of_lt (Nat.lt_of_lt_of_le ((r3z_0.ext E6z).keep K8zq).lt r13z_2)
  have ne_b6z_arr_13z : b6z ≠ arr_13z := Nat.ne_of_lt (Nat.lt_of_lt_of_le r8z_0.lt r13z_2)
  have r13z_6 : Fld Z T13z.heap b1z own_s7 "modCount" "I" (.int (1 : Int32)) := r13z_6
  show own_G p e below (T13z.setTop (mkF m 29 #[.val (.ref aH), .val (.int (2 : Int32)), .val (.ref b1z), .unset] [(.int (1 : Int32))])) _
  refine own_go (fun t k => XS.pop X13z.here hx rfl (hb hby d_method_2_code_29) rfl rfl k) ?_
  refine own_go (fun t k => XS.bipush X13z.here hx rfl (hb hby d_method_2_code_30) k) ?_
  refine own_go (fun t k => XS.iloadN X13z.here hx rfl (hb hby d_method_2_code_32) rfl k) ?_
  refine own_go (fun t k => XS.iadd X13z.here hx rfl (hb hby d_method_2_code_33) rfl k) ?_
  refine own_go (fun t k => XS.i2c X13z.here hx rfl (hb hby d_method_2_code_34) rfl k) ?_
  obtain ⟨_, _, ⟨T15z, L15z, k15z, n15z⟩, -, X15z, ⟨Lc15z, hQ15z, l15z, y15z, z15z⟩, st15z⟩ := Jvm.LawKit.callS X13z hx (y := own_m16) hown (own_mw hZ hw 36 rfl) (own_mw hZ hw 37 rfl) (own_mw hZ hw 38 rfl) (own_mw hZ hw 39 rfl) (by decide) (backOf (W := 0) (own_vo2 l Z a0 hw [] cs T13z.heap O14z S_CS hcs) hZ (own_hw hw 39 rfl) (own_hw hw 38 rfl) (by decide) (by decide)) (g := (mkF m 35 #[.val (.ref aH), .val (.int (2 : Int32)), .val (.ref b1z), .unset] [(.int (99 : Int32))])) rfl (by rw [hml]; rfl) (argsL := [(.int (99 : Int32))]) (rest := []) (lenOf pd_1709310937 rfl) rfl (by show 2 * 0 + _ ≤ _; exact Nat.le_of_eq rfl) (hb hby d_method_2_code_35) (fun _ _ => ⟨rfl, rfl, (by decide : 3 + 2 ≤ _), (by decide : 16 + 5 ≤ _)⟩)
  dsimp only [Pt.U, Pt.locs, Pt.cells, Pt.slots] at X15z l15z y15z z15z st15z hQ15z
  subst l15z y15z z15z
  obtain ⟨r_15z, rfl, NQ15z, K15zq⟩ := hQ15z
  refine own_go st15z ?_
  have N15z := Fr.app N13z NQ15z
  have O16z := own_ext_keep O14z K15zq all0
  have K16z := K14z.trans K15zq all0
  show own_G p e below (T15z.setTop (mkF m 38 #[.val (.ref aH), .val (.int (2 : Int32)), .val (.ref b1z), .unset] [(.ref r_15z)])) _
  refine own_go (fun t k => XS.astoreN X15z.here hx rfl (hb hby d_method_2_code_38) rfl rfl (l' := #[.val (.ref aH), .val (.int (2 : Int32)), .val (.ref b1z), .val (.ref r_15z)]) rfl k) ?_
  obtain ⟨T17z, h17z, X17z, e17z, E17z, A17z, D17z, -, st17z⟩ := newO X15z hx hZ hown (own_hw hw 60 rfl) (own_hw hw 61 rfl) (own_hw hw 62 rfl) rfl (g := (mkF m 39 #[.val (.ref aH), .val (.int (2 : Int32)), .val (.ref b1z), .val (.ref r_15z)] [])) rfl (hb hby d_method_2_code_39) (by decide) (by decide)
  obtain ⟨b17z, g17z⟩ : ∃ z, z = T15z.heap.size := ⟨_, rfl⟩
  rw [← g17z] at A17z D17z st17z
  have fr_b17z : Z.heap.size ≤ b17z := g17z ▸ O16z.1
  have lz_b17z : h0.size ≤ b17z := g17z ▸ K16z.1
  have ne_b1z_b17z : b1z ≠ b17z := Nat.ne_of_lt (g17z ▸ (r13z_0.keep K15zq).lt)
  have ne_b6z_b17z : b6z ≠ b17z := Nat.ne_of_lt (g17z ▸ ((r8z_0.keep K13zq).keep K15zq).lt)
  have ne_arr_13z_b17z : arr_13z ≠ b17z := Nat.ne_of_lt (g17z ▸ (r13z_4.keep K15zq).lt)
  have O18z := own_ext_trans O16z E17z
  have K18z := K16z.ext E17z
  have F17z_name : Fld Z h17z b17z own_s0 "name" own_s18 .null := D17z (Or.inr (own_hw hw 117 rfl)) (ty := (.object own_s11)) (by decide)
  have F17z_site : Fld Z h17z b17z own_s0 "site" own_s18 .null := D17z (Or.inr (own_hw hw 119 rfl)) (ty := (.object own_s11)) (by decide)
  have F17z_kind : Fld Z h17z b17z own_s0 "kind" own_s5 .null := D17z (Or.inr (own_hw hw 121 rfl)) (ty := (.object own_s4)) (by decide)
  have F17z_selections : Fld Z h17z b17z own_s0 "selections" own_s16 .null := D17z (Or.inr (own_hw hw 123 rfl)) (ty := (.object own_s15)) (by decide)
  have F17z_projection : Fld Z h17z b17z own_s0 "projection" own_s17 .null := D17z (Or.inr (own_hw hw 125 rfl)) (ty := (.object own_s14)) (by decide)
  refine own_go st17z ?_
  refine own_go (fun t k => XS.dup X17z.here hx rfl (hb hby d_method_2_code_42) rfl rfl k) ?_
  refine own_go (fun t k => XS.aloadN X17z.here hx rfl (hb hby d_method_2_code_43) rfl rfl k) ?_
  refine own_go (fun t k => XS.aloadN X17z.here hx rfl (hb hby d_method_2_code_44) rfl rfl k) ?_
  refine own_go (fun t k => XS.aloadN X17z.here hx rfl (hb hby d_method_2_code_45) rfl rfl k) ?_
  refine own_go (fun t k => XS.aloadN X17z.here hx rfl (hb hby d_method_2_code_46) rfl rfl k) ?_
  refine own_go (fun t k => XS.aconstNull X17z.here hx rfl (hb hby d_method_2_code_47) k) ?_
  obtain ⟨_, _, ⟨T19z, L19z, k19z, n19z⟩, -, X19z, ⟨Lc19z, hQ19z, l19z, y19z, z19z⟩, st19z⟩ := X17z.specialBack hx (y := own_m34) rfl hown (own_mw hZ hw 63 rfl) (own_mw hZ hw 64 rfl) (own_mw hZ hw 65 rfl) (by decide) (backOf (W := 1) (own_fih l Z a0 hw [] b17z r_15z b1z aH aV arr_13z kk_13z mi eM b6z h17z O18z S_H S_V MI S_EM A17z fr_b17z F17z_name F17z_site F17z_kind F17z_selections F17z_projection ((r13z_0.keep K15zq).ext E17z) ((r13z_5.keep K15zq (by simp)).ext E17z) ((r13z_4.keep K15zq).ext E17z) ((r13z_7.keep K15zq (by simp)).ext E17z) ((r13z_8.keep K15zq (by simp)).ext E17z) (((r8z_0.keep K13zq).keep K15zq).ext E17z) nhv) hZ (own_hw hw 65 rfl) (own_hw hw 62 rfl) (by decide) (by decide)) (g := (mkF m 48 #[.val (.ref aH), .val (.int (2 : Int32)), .val (.ref b1z), .val (.ref r_15z)] [.null, (.ref b1z), (.ref aH), (.ref r_15z), (.ref r_15z), (.ref b17z), (.ref b17z)])) rfl (by rw [hml]; rfl) (Steps.refl _) (a := b17z) (argsL := [(.ref r_15z), (.ref r_15z), (.ref aH), (.ref b1z), .null]) (rest := [(.ref b17z)]) (lenOf pd_1504261874 rfl) rfl (by show 2 * 0 + _ ≤ _; exact Nat.le_of_eq rfl) (hb hby d_method_2_code_48) (fun _ _ => ⟨rfl, e17z, (by decide : 6 + 2 ≤ _), (by decide : 26 + 3 ≤ _)⟩)
  dsimp only [Pt.U, Pt.locs, Pt.cells, Pt.slots] at X19z l19z y19z z19z st19z hQ19z
  subst l19z y19z z19z
  obtain ⟨rfl, NQ19z, K19zq, r19z_0, r19z_1⟩ := hQ19z
  refine own_tr st19z ?_
  have N19z := Fr.app N15z NQ19z
  have O20z := own_ext_keep O18z K19zq (allS fr_b17z all0)
  have K20z := K18z.trans K19zq (allS (Or.inr lz_b17z) all0)
  show own_G p e below (T19z.setTop (mkF m 51 #[.val (.ref aH), .val (.int (2 : Int32)), .val (.ref b1z), .val (.ref r_15z)] [(.ref b17z)])) _
  exact own_ret X19z hx Bd.returns rfl (Or.inr (Or.inr (Or.inr (Or.inr ⟨rfl, rfl, rfl⟩)))) (hb hby d_method_2_code_51) hlk (Nat.le_of_ble_eq_true rfl) (Nat.le_of_ble_eq_true rfl) (by show Q_own_mkh2 Z dE kd cs aH aV mi eM h0 _ T19z.heap _; exact ⟨b17z, rfl, N19z, K20z, r19z_0, fr_b17z, lz_b17z, r19z_1⟩)
theorem ef_own_di1 (m : MethodId) (x0 : Addr) (x1 : Addr) : entryFrame m #[(.ref x0), (.ref x1)] 2 = mkF m 0 #[.val (.ref x0), .val (.ref x1)] [] := by first | (simp [entryFrame, mkF, argsToLocals, Value.category]; done) | rfl
theorem pf_own_di1 : plainFor own_m37 = true := plainFor_of_name (by simp [plainName, overriddenIn])
theorem d_prog_6_method_1_code_0 : decode prog_6_method_1_code 0 = .ok (.aload_n 0, 1) := by decide +kernel
theorem d_prog_6_method_1_code_1 : decode prog_6_method_1_code 1 = .ok (.invokespecial 1, 3) := by decide +kernel
theorem d_prog_6_method_1_code_10 : decode prog_6_method_1_code 10 = .ok (.aload_n 1, 1) := by decide +kernel
theorem d_prog_6_method_1_code_11 : decode prog_6_method_1_code 11 = .ok (.putfield 13, 3) := by decide +kernel
theorem d_prog_6_method_1_code_14 : decode prog_6_method_1_code 14 = .ok (.return_, 1) := by decide +kernel
theorem d_prog_6_method_1_code_4 : decode prog_6_method_1_code 4 = .ok (.aload_n 1, 1) := by decide +kernel
theorem d_prog_6_method_1_code_5 : decode prog_6_method_1_code 5 = .ok (.invokestatic 7, 3) := by decide +kernel
theorem d_prog_6_method_1_code_8 : decode prog_6_method_1_code 8 = .ok (.astore_n 1, 1) := by decide +kernel
theorem d_prog_6_method_1_code_9 : decode prog_6_method_1_code 9 = .ok (.aload_n 0, 1) := by decide +kernel
def Q_own_di1 (Z : State) (d : Addr) (a : Addr) (arr : Addr) (kk : ClassId) (mi : Addr) (eM : Addr) (x0 : Addr) (h0 : Heap) (v : Option Value) (h : Heap) (L : List Loc) : Prop := ∃ r : Addr, v = none ∧ Fr Z.heap.size L ∧ Keep h0 h [d] ∧ (Exa Z h d own_s8) ∧ (Fld Z h d own_s8 "fragments" own_s16 (.ref r)) ∧ (Exa Z h r own_s6) ∧ (Fld Z h r own_s6 "e0" own_s13 (.ref x0))
set_option maxRecDepth 65536 in
set_option maxHeartbeats 40000000 in
theorem own_di1 (l : Launch) (Z : State) (a0 : Array Value) (hw : ∀ d ∈ tables_1, d.before a0 Z = true) (ws : List Jvm.Cond) (d : Addr) (a : Addr) (arr : Addr) (kk : ClassId) (mi : Addr) (eM : Addr) (x0 : Addr) (h0 : Heap) (O0 : Ext Z.heap h0) (MI : Mir Z own_s3 mi) (S_EM : Sta Z Z.heap own_s12 "EMPTY" own_s13 (.ref eM)) (q2 : Exa Z h0 d own_s8) (q3 : Z.heap.size ≤ d) (q4 : Fld Z h0 d own_s8 "fragments" own_s16 .null) (q5 : Exa Z h0 a own_s1) (q6 : own_A Z h0 arr kk (.object own_s2) [(.ref x0), .null, .null, .null, .null, .null, .null, .null, .null, .null]) (q7 : Exa Z h0 arr own_s3) (q8 : Fld Z h0 a own_s1 "elementData" own_s3 (.ref arr)) (q9 : Fld Z h0 a own_s1 "size" "I" (.int (1 : Int32))) (q10 : Exa Z h0 x0 own_s0) :
    MetFree l own_m37 (head1 (Jvm.Cond.code own_m37 prog_6_method_1_code 2 none :: ws) ({ frames := 9, cells := 2, slots := 3, locals := 150 } : Room)) (fun aa U => aa = #[(.ref d), (.ref a)] ∧ Z.Warmed39 U.vm ∧ U.heap = h0) (fun _ _ _ _ _ => True) (fun _ U o U' => ∃ v L, o = .returned v ∧ Q_own_di1 Z d a arr kk mi eM x0 h0 v U'.heap L ∧ FrameEnd U o U' L ({ frames := 9, cells := 2, slots := 3, locals := 150 } : Room).cells ({ frames := 9, cells := 2, slots := 3, locals := 150 } : Room).slots) := by
  refine MetFree.of_bodySF pf_own_di1 hisR ?_
  intro p e s m args below meth c s₁ Bd hml0 hP hK
  obtain ⟨rfl, hZ, hh⟩ := hP
  have hx := Bd.exec
  have hby := Bd.bytes
  have hlk := BodyLoose.notSynchronized Bd
  have hml : c.maxLocals = 2 := hml0
  have hown : s.vm.findClass own_s8 = some m.cls := findClass_of_methodNamed Bd.named
  have hnm := (name_of_methodNamed Bd.named Bd.method).1
  have X0 : Stand p l e ({ frames := 9, cells := 2, slots := 3, locals := 150 } : Room) s m #[(.ref d), (.ref a)] below meth c s₁ [] 0 0 := Stand.of_body Bd
  have e0 : s₁.heap = h0 := by rw [← hh, Bd.state]; rfl
  have N0 := Fr.nil Z.heap.size
  have K0 : Keep h0 h0 [d] := Keep.refl _ _
  refine own_start (Q := Q_own_di1 Z d a arr kk mi eM x0 h0) (ef_own_di1 m (d) (a)) ?_
  show own_G p e below (s₁.setTop (mkF m 0 #[.val (.ref d), .val (.ref a)] [])) _
  refine own_go (fun t k => XS.aloadN X0.here hx rfl (hb hby d_prog_6_method_1_code_0) rfl rfl k) ?_
  obtain ⟨_, _, ⟨T1z, L1z, k1z, n1z⟩, -, X1z, ⟨Lc1z, hQ1z, l1z, y1z, z1z⟩, st1z⟩ := X0.specialBack hx (y := own_m8) rfl hown (own_mw hZ hw 161 rfl) (own_mw hZ hw 67 rfl) (own_mw hZ hw 70 rfl) (by decide) (backOf (W := 0) (own_rec l Z a0 hw [] d h0 O0) hZ (own_hw hw 70 rfl) (own_hw hw 69 rfl) (by decide) (by decide)) (g := (mkF m 1 #[.val (.ref d), .val (.ref a)] [(.ref d)])) rfl (by rw [hml]; rfl) (Steps.refl _) (a := d) (argsL := []) (rest := []) (lenOf pd_193421996 rfl) rfl (by show 2 * 0 + _ ≤ _; exact Nat.le_of_eq rfl) (hb hby d_prog_6_method_1_code_1) (fun _ _ => ⟨rfl, e0, (by decide : 0 + 0 ≤ _), (by decide : 0 + 0 ≤ _)⟩)
  dsimp only [Pt.U, Pt.locs, Pt.cells, Pt.slots] at X1z l1z y1z z1z st1z hQ1z
  subst l1z y1z z1z
  obtain ⟨rfl, NQ1z, K1zq⟩ := hQ1z
  refine own_tr st1z ?_
  have N1z := Fr.app N0 NQ1z
  show own_G p e below (T1z.setTop (mkF m 4 #[.val (.ref d), .val (.ref a)] [])) _
  refine own_go (fun t k => XS.aloadN X1z.here hx rfl (hb hby d_prog_6_method_1_code_4) rfl rfl k) ?_
  obtain ⟨_, _, ⟨T2z, L2z, k2z, n2z⟩, -, X2z, ⟨Lc2z, hQ2z, l2z, y2z, z2z⟩, st2z⟩ := Jvm.LawKit.callS X1z hx (y := own_m29) hown (own_mw hZ hw 162 rfl) (own_mw hZ hw 73 rfl) (own_mw hZ hw 74 rfl) (own_mw hZ hw 75 rfl) (by decide) (backOf (W := 0) (own_cpoF1 l Z a0 hw [] a arr kk mi eM x0 h0 O0 MI S_EM q5 q6 q7 q8 q9 q10) hZ (own_hw hw 75 rfl) (own_hw hw 74 rfl) (by decide) (by decide)) (g := (mkF m 5 #[.val (.ref d), .val (.ref a)] [(.ref a)])) rfl (by rw [hml]; rfl) (argsL := [(.ref a)]) (rest := []) (lenOf pd_548093608 rfl) rfl (by show 2 * 0 + _ ≤ _; exact Nat.le_of_eq rfl) (hb hby d_prog_6_method_1_code_5) (fun _ _ => ⟨rfl, K1zq, (by decide : 0 + 2 ≤ _), (by decide : 0 + 3 ≤ _)⟩)
  dsimp only [Pt.U, Pt.locs, Pt.cells, Pt.slots] at X2z l2z y2z z2z st2z hQ2z
  subst l2z y2z z2z
  obtain ⟨r_2z, rfl, NQ2z, K2zq, r2z_0, r2z_1, r2z_2, r2z_3⟩ := hQ2z
  refine own_go st2z ?_
  have N2z := Fr.app N1z NQ2z
  have O3z := own_ext_keep O0 K2zq all0
  have K3z := K0.trans K2zq all0
  have lz_r_2z : h0.size ≤ r_2z := Nat.le_trans K0.1 r2z_2
  have ne_d_r_2z : d ≠ r_2z := Nat.ne_of_lt (Nat.lt_of_lt_of_le q2.lt r2z_2)
  have ne_a_r_2z : a ≠ r_2z := Nat.ne_of_lt (Nat.lt_of_lt_of_le q5.lt r2z_2)
  have ne_arr_r_2z : arr ≠ r_2z := Nat.ne_of_lt (Nat.lt_of_lt_of_le q6.lt r2z_2)
  have ne_x0_r_2z : x0 ≠ r_2z := Nat.ne_of_lt (Nat.lt_of_lt_of_le q10.lt r2z_2)
  show own_G p e below (T2z.setTop (mkF m 8 #[.val (.ref d), .val (.ref a)] [(.ref r_2z)])) _
  refine own_go (fun t k => XS.astoreN X2z.here hx rfl (hb hby d_prog_6_method_1_code_8) rfl rfl (l' := #[.val (.ref d), .val (.ref r_2z)]) rfl k) ?_
  refine own_go (fun t k => XS.aloadN X2z.here hx rfl (hb hby d_prog_6_method_1_code_9) rfl rfl k) ?_
  refine own_go (fun t k => XS.aloadN X2z.here hx rfl (hb hby d_prog_6_method_1_code_10) rfl rfl k) ?_
  obtain ⟨T4z, h4z, X4z, e4z, W4z, st4z⟩ := putF X2z hx hZ hown (host := "") (Or.inl (own_hw hw 226 rfl)) Via.refl rfl (q4.keep K2zq (by simp)) (q2.keep K2zq) (Or.inr ⟨(own_hw hw 227 rfl), rfl, hnm⟩) (own_hw hw 156 rfl) (ty := (.object own_s15)) (by decide) rfl rfl (g := (mkF m 11 #[.val (.ref d), .val (.ref r_2z)] [(.ref r_2z), (.ref d)])) rfl rfl (hb hby d_prog_6_method_1_code_11)
  refine own_go st4z ?_
  have N4z := Fr.snoc X4z N2z q3
  have F4z : Fld Z h4z d own_s8 "fragments" own_s16 (.ref r_2z) := (q4.keep K2zq (by simp)).same W4z
  have O5z := own_ext_wr O3z W4z q3
  have K5z := K3z.wr W4z (Or.inl (List.mem_of_getElem? (i := 0) rfl))
  exact own_retV X4z hx Bd.returns (hb hby d_prog_6_method_1_code_14) hlk (Nat.le_of_ble_eq_true rfl) (Nat.le_of_ble_eq_true rfl) (by show Q_own_di1 Z d a arr kk mi eM x0 h0 _ T4z.heap _; rw [e4z]; exact ⟨r_2z, rfl, N4z, K5z, ((q2.keep K2zq).wr W4z), F4z, (r2z_0.wr W4z), (r2z_3.other W4z (Or.inl (Ne.symm ne_d_r_2z)))⟩)
theorem ef_own_di2 (m : MethodId) (x0 : Addr) (x1 : Addr) : entryFrame m #[(.ref x0), (.ref x1)] 2 = mkF m 0 #[.val (.ref x0), .val (.ref x1)] [] := by first | (simp [entryFrame, mkF, argsToLocals, Value.category]; done) | rfl
theorem pf_own_di2 : plainFor own_m37 = true := plainFor_of_name (by simp [plainName, overriddenIn])
def Q_own_di2 (Z : State) (d : Addr) (a : Addr) (arr : Addr) (kk : ClassId) (mi : Addr) (eM : Addr) (x0 : Addr) (x1 : Addr) (h0 : Heap) (v : Option Value) (h : Heap) (L : List Loc) : Prop := ∃ r : Addr, v = none ∧ Fr Z.heap.size L ∧ Keep h0 h [d] ∧ (Exa Z h d own_s8) ∧ (Fld Z h d own_s8 "fragments" own_s16 (.ref r)) ∧ (Exa Z h r own_s6) ∧ (Fld Z h r own_s6 "e0" own_s13 (.ref x0))
set_option maxRecDepth 65536 in
set_option maxHeartbeats 40000000 in
theorem own_di2 (l : Launch) (Z : State) (a0 : Array Value) (hw : ∀ d ∈ tables_1, d.before a0 Z = true) (ws : List Jvm.Cond) (d : Addr) (a : Addr) (arr : Addr) (kk : ClassId) (mi : Addr) (eM : Addr) (x0 : Addr) (x1 : Addr) (h0 : Heap) (O0 : Ext Z.heap h0) (MI : Mir Z own_s3 mi) (S_EM : Sta Z Z.heap own_s12 "EMPTY" own_s13 (.ref eM)) (q2 : Exa Z h0 d own_s8) (q3 : Z.heap.size ≤ d) (q4 : Fld Z h0 d own_s8 "fragments" own_s16 .null) (q5 : Exa Z h0 a own_s1) (q6 : own_A Z h0 arr kk (.object own_s2) [(.ref x0), (.ref x1), .null, .null, .null, .null, .null, .null, .null, .null]) (q7 : Exa Z h0 arr own_s3) (q8 : Fld Z h0 a own_s1 "elementData" own_s3 (.ref arr)) (q9 : Fld Z h0 a own_s1 "size" "I" (.int (2 : Int32))) (q10 : Exa Z h0 x0 own_s0) (q11 : Exa Z h0 x1 own_s0) :
    MetFree l own_m37 (head1 (Jvm.Cond.code own_m37 prog_6_method_1_code 2 none :: ws) ({ frames := 9, cells := 2, slots := 4, locals := 150 } : Room)) (fun aa U => aa = #[(.ref d), (.ref a)] ∧ Z.Warmed39 U.vm ∧ U.heap = h0) (fun _ _ _ _ _ => True) (fun _ U o U' => ∃ v L, o = .returned v ∧ Q_own_di2 Z d a arr kk mi eM x0 x1 h0 v U'.heap L ∧ FrameEnd U o U' L ({ frames := 9, cells := 2, slots := 4, locals := 150 } : Room).cells ({ frames := 9, cells := 2, slots := 4, locals := 150 } : Room).slots) := by
  refine MetFree.of_bodySF pf_own_di2 hisR ?_
  intro p e s m args below meth c s₁ Bd hml0 hP hK
  obtain ⟨rfl, hZ, hh⟩ := hP
  have hx := Bd.exec
  have hby := Bd.bytes
  have hlk := BodyLoose.notSynchronized Bd
  have hml : c.maxLocals = 2 := hml0
  have hown : s.vm.findClass own_s8 = some m.cls := findClass_of_methodNamed Bd.named
  have hnm := (name_of_methodNamed Bd.named Bd.method).1
  have X0 : Stand p l e ({ frames := 9, cells := 2, slots := 4, locals := 150 } : Room) s m #[(.ref d), (.ref a)] below meth c s₁ [] 0 0 := Stand.of_body Bd
  have e0 : s₁.heap = h0 := by rw [← hh, Bd.state]; rfl
  have N0 := Fr.nil Z.heap.size
  have K0 : Keep h0 h0 [d] := Keep.refl _ _
  refine own_start (Q := Q_own_di2 Z d a arr kk mi eM x0 x1 h0) (ef_own_di2 m (d) (a)) ?_
  show own_G p e below (s₁.setTop (mkF m 0 #[.val (.ref d), .val (.ref a)] [])) _
  refine own_go (fun t k => XS.aloadN X0.here hx rfl (hb hby d_prog_6_method_1_code_0) rfl rfl k) ?_
  obtain ⟨_, _, ⟨T1z, L1z, k1z, n1z⟩, -, X1z, ⟨Lc1z, hQ1z, l1z, y1z, z1z⟩, st1z⟩ := X0.specialBack hx (y := own_m8) rfl hown (own_mw hZ hw 161 rfl) (own_mw hZ hw 67 rfl) (own_mw hZ hw 70 rfl) (by decide) (backOf (W := 0) (own_rec l Z a0 hw [] d h0 O0) hZ (own_hw hw 70 rfl) (own_hw hw 69 rfl) (by decide) (by decide)) (g := (mkF m 1 #[.val (.ref d), .val (.ref a)] [(.ref d)])) rfl (by rw [hml]; rfl) (Steps.refl _) (a := d) (argsL := []) (rest := []) (lenOf pd_193421996 rfl) rfl (by show 2 * 0 + _ ≤ _; exact Nat.le_of_eq rfl) (hb hby d_prog_6_method_1_code_1) (fun _ _ => ⟨rfl, e0, (by decide : 0 + 0 ≤ _), (by decide : 0 + 0 ≤ _)⟩)
  dsimp only [Pt.U, Pt.locs, Pt.cells, Pt.slots] at X1z l1z y1z z1z st1z hQ1z
  subst l1z y1z z1z
  obtain ⟨rfl, NQ1z, K1zq⟩ := hQ1z
  refine own_tr st1z ?_
  have N1z := Fr.app N0 NQ1z
  show own_G p e below (T1z.setTop (mkF m 4 #[.val (.ref d), .val (.ref a)] [])) _
  refine own_go (fun t k => XS.aloadN X1z.here hx rfl (hb hby d_prog_6_method_1_code_4) rfl rfl k) ?_
  obtain ⟨_, _, ⟨T2z, L2z, k2z, n2z⟩, -, X2z, ⟨Lc2z, hQ2z, l2z, y2z, z2z⟩, st2z⟩ := Jvm.LawKit.callS X1z hx (y := own_m29) hown (own_mw hZ hw 162 rfl) (own_mw hZ hw 73 rfl) (own_mw hZ hw 74 rfl) (own_mw hZ hw 75 rfl) (by decide) (backOf (W := 0) (own_cpoF2 l Z a0 hw [] a arr kk mi eM x0 x1 h0 O0 MI S_EM q5 q6 q7 q8 q9 q10 q11) hZ (own_hw hw 75 rfl) (own_hw hw 74 rfl) (by decide) (by decide)) (g := (mkF m 5 #[.val (.ref d), .val (.ref a)] [(.ref a)])) rfl (by rw [hml]; rfl) (argsL := [(.ref a)]) (rest := []) (lenOf pd_548093608 rfl) rfl (by show 2 * 0 + _ ≤ _; exact Nat.le_of_eq rfl) (hb hby d_prog_6_method_1_code_5) (fun _ _ => ⟨rfl, K1zq, (by decide : 0 + 2 ≤ _), (by decide : 0 + 4 ≤ _)⟩)
  dsimp only [Pt.U, Pt.locs, Pt.cells, Pt.slots] at X2z l2z y2z z2z st2z hQ2z
  subst l2z y2z z2z
  obtain ⟨r_2z, rfl, NQ2z, K2zq, r2z_0, r2z_1, r2z_2, r2z_3⟩ := hQ2z
  refine own_go st2z ?_
  have N2z := Fr.app N1z NQ2z
  have O3z := own_ext_keep O0 K2zq all0
  have K3z := K0.trans K2zq all0
  have lz_r_2z : h0.size ≤ r_2z := Nat.le_trans K0.1 r2z_2
  have ne_d_r_2z : d ≠ r_2z := Nat.ne_of_lt (Nat.lt_of_lt_of_le q2.lt r2z_2)
  have ne_a_r_2z : a ≠ r_2z := Nat.ne_of_lt (Nat.lt_of_lt_of_le q5.lt r2z_2)
  have ne_arr_r_2z : arr ≠ r_2z := Nat.ne_of_lt (Nat.lt_of_lt_of_le q6.lt r2z_2)
  have ne_x0_r_2z : x0 ≠ r_2z := Nat.ne_of_lt (Nat.lt_of_lt_of_le q10.lt r2z_2)
  have ne_x1_r_2z : x1 ≠ r_2z := Nat.ne_of_lt (Nat.lt_of_lt_of_le q11.lt r2z_2)
  show own_G p e below (T2z.setTop (mkF m 8 #[.val (.ref d), .val (.ref a)] [(.ref r_2z)])) _
  refine own_go (fun t k => XS.astoreN X2z.here hx rfl (hb hby d_prog_6_method_1_code_8) rfl rfl (l' := #[.val (.ref d), .val (.ref r_2z)]) rfl k) ?_
  refine own_go (fun t k => XS.aloadN X2z.here hx rfl (hb hby d_prog_6_method_1_code_9) rfl rfl k) ?_
  refine own_go (fun t k => XS.aloadN X2z.here hx rfl (hb hby d_prog_6_method_1_code_10) rfl rfl k) ?_
  obtain ⟨T4z, h4z, X4z, e4z, W4z, st4z⟩ := putF X2z hx hZ hown (host := "") (Or.inl (own_hw hw 226 rfl)) Via.refl rfl (q4.keep K2zq (by simp)) (q2.keep K2zq) (Or.inr ⟨(own_hw hw 227 rfl), rfl, hnm⟩) (own_hw hw 156 rfl) (ty := (.object own_s15)) (by decide) rfl rfl (g := (mkF m 11 #[.val (.ref d), .val (.ref r_2z)] [(.ref r_2z), (.ref d)])) rfl rfl (hb hby d_prog_6_method_1_code_11)
  refine own_go st4z ?_
  have N4z := Fr.snoc X4z N2z q3
  have F4z : Fld Z h4z d own_s8 "fragments" own_s16 (.ref r_2z) := (q4.keep K2zq (by simp)).same W4z
  have O5z := own_ext_wr O3z W4z q3
  have K5z := K3z.wr W4z (Or.inl (List.mem_of_getElem? (i := 0) rfl))
  exact own_retV X4z hx Bd.returns (hb hby d_prog_6_method_1_code_14) hlk (Nat.le_of_ble_eq_true rfl) (Nat.le_of_ble_eq_true rfl) (by show Q_own_di2 Z d a arr kk mi eM x0 x1 h0 _ T4z.heap _; rw [e4z]; exact ⟨r_2z, rfl, N4z, K5z, ((q2.keep K2zq).wr W4z), F4z, (r2z_0.wr W4z), (r2z_3.other W4z (Or.inl (Ne.symm ne_d_r_2z)))⟩)
theorem ef_own_di3 (m : MethodId) (x0 : Addr) (x1 : Addr) : entryFrame m #[(.ref x0), (.ref x1)] 2 = mkF m 0 #[.val (.ref x0), .val (.ref x1)] [] := by first | (simp [entryFrame, mkF, argsToLocals, Value.category]; done) | rfl
theorem pf_own_di3 : plainFor own_m37 = true := plainFor_of_name (by simp [plainName, overriddenIn])
def Q_own_di3 (Z : State) (d : Addr) (a : Addr) (arr : Addr) (kk : ClassId) (mi : Addr) (eM : Addr) (x0 : Addr) (x1 : Addr) (x2 : Addr) (h0 : Heap) (v : Option Value) (h : Heap) (L : List Loc) : Prop := ∃ r : Addr, ∃ er : Addr, ∃ ke : ClassId, v = none ∧ Fr Z.heap.size L ∧ Keep h0 h [d] ∧ (Exa Z h d own_s8) ∧ (Fld Z h d own_s8 "fragments" own_s16 (.ref r)) ∧ (Exa Z h r own_s10) ∧ (Fld Z h r own_s10 "elements" own_s3 (.ref er)) ∧ (own_A Z h er ke (.object own_s2) [(.ref x0), (.ref x1), (.ref x2)])
set_option maxRecDepth 65536 in
set_option maxHeartbeats 40000000 in
theorem own_di3 (l : Launch) (Z : State) (a0 : Array Value) (hw : ∀ d ∈ tables_1, d.before a0 Z = true) (ws : List Jvm.Cond) (d : Addr) (a : Addr) (arr : Addr) (kk : ClassId) (mi : Addr) (eM : Addr) (x0 : Addr) (x1 : Addr) (x2 : Addr) (h0 : Heap) (O0 : Ext Z.heap h0) (MI : Mir Z own_s3 mi) (S_EM : Sta Z Z.heap own_s12 "EMPTY" own_s13 (.ref eM)) (q2 : Exa Z h0 d own_s8) (q3 : Z.heap.size ≤ d) (q4 : Fld Z h0 d own_s8 "fragments" own_s16 .null) (q5 : Exa Z h0 a own_s1) (q6 : own_A Z h0 arr kk (.object own_s2) [(.ref x0), (.ref x1), (.ref x2), .null, .null, .null, .null, .null, .null, .null]) (q7 : Exa Z h0 arr own_s3) (q8 : Fld Z h0 a own_s1 "elementData" own_s3 (.ref arr)) (q9 : Fld Z h0 a own_s1 "size" "I" (.int (3 : Int32))) (q10 : Exa Z h0 x0 own_s0) (q11 : Exa Z h0 x1 own_s0) (q12 : Exa Z h0 x2 own_s0) :
    MetFree l own_m37 (head1 (Jvm.Cond.code own_m37 prog_6_method_1_code 2 none :: ws) ({ frames := 9, cells := 3, slots := 8, locals := 150 } : Room)) (fun aa U => aa = #[(.ref d), (.ref a)] ∧ Z.Warmed39 U.vm ∧ U.heap = h0) (fun _ _ _ _ _ => True) (fun _ U o U' => ∃ v L, o = .returned v ∧ Q_own_di3 Z d a arr kk mi eM x0 x1 x2 h0 v U'.heap L ∧ FrameEnd U o U' L ({ frames := 9, cells := 3, slots := 8, locals := 150 } : Room).cells ({ frames := 9, cells := 3, slots := 8, locals := 150 } : Room).slots) := by
  refine MetFree.of_bodySF pf_own_di3 hisR ?_
  intro p e s m args below meth c s₁ Bd hml0 hP hK
  obtain ⟨rfl, hZ, hh⟩ := hP
  have hx := Bd.exec
  have hby := Bd.bytes
  have hlk := BodyLoose.notSynchronized Bd
  have hml : c.maxLocals = 2 := hml0
  have hown : s.vm.findClass own_s8 = some m.cls := findClass_of_methodNamed Bd.named
  have hnm := (name_of_methodNamed Bd.named Bd.method).1
  have X0 : Stand p l e ({ frames := 9, cells := 3, slots := 8, locals := 150 } : Room) s m #[(.ref d), (.ref a)] below meth c s₁ [] 0 0 := Stand.of_body Bd
  have e0 : s₁.heap = h0 := by rw [← hh, Bd.state]; rfl
  have N0 := Fr.nil Z.heap.size
  have K0 : Keep h0 h0 [d] := Keep.refl _ _
  refine own_start (Q := Q_own_di3 Z d a arr kk mi eM x0 x1 x2 h0) (ef_own_di3 m (d) (a)) ?_
  show own_G p e below (s₁.setTop (mkF m 0 #[.val (.ref d), .val (.ref a)] [])) _
  refine own_go (fun t k => XS.aloadN X0.here hx rfl (hb hby d_prog_6_method_1_code_0) rfl rfl k) ?_
  obtain ⟨_, _, ⟨T1z, L1z, k1z, n1z⟩, -, X1z, ⟨Lc1z, hQ1z, l1z, y1z, z1z⟩, st1z⟩ := X0.specialBack hx (y := own_m8) rfl hown (own_mw hZ hw 161 rfl) (own_mw hZ hw 67 rfl) (own_mw hZ hw 70 rfl) (by decide) (backOf (W := 0) (own_rec l Z a0 hw [] d h0 O0) hZ (own_hw hw 70 rfl) (own_hw hw 69 rfl) (by decide) (by decide)) (g := (mkF m 1 #[.val (.ref d), .val (.ref a)] [(.ref d)])) rfl (by rw [hml]; rfl) (Steps.refl _) (a := d) (argsL := []) (rest := []) (lenOf pd_193421996 rfl) rfl (by show 2 * 0 + _ ≤ _; exact Nat.le_of_eq rfl) (hb hby d_prog_6_method_1_code_1) (fun _ _ => ⟨rfl, e0, (by decide : 0 + 0 ≤ _), (by decide : 0 + 0 ≤ _)⟩)
  dsimp only [Pt.U, Pt.locs, Pt.cells, Pt.slots] at X1z l1z y1z z1z st1z hQ1z
  subst l1z y1z z1z
  obtain ⟨rfl, NQ1z, K1zq⟩ := hQ1z
  refine own_tr st1z ?_
  have N1z := Fr.app N0 NQ1z
  show own_G p e below (T1z.setTop (mkF m 4 #[.val (.ref d), .val (.ref a)] [])) _
  refine own_go (fun t k => XS.aloadN X1z.here hx rfl (hb hby d_prog_6_method_1_code_4) rfl rfl k) ?_
  obtain ⟨_, _, ⟨T2z, L2z, k2z, n2z⟩, -, X2z, ⟨Lc2z, hQ2z, l2z, y2z, z2z⟩, st2z⟩ := Jvm.LawKit.callS X1z hx (y := own_m29) hown (own_mw hZ hw 162 rfl) (own_mw hZ hw 73 rfl) (own_mw hZ hw 74 rfl) (own_mw hZ hw 75 rfl) (by decide) (backOf (W := 0) (own_cpoF3 l Z a0 hw [] a arr kk mi eM x0 x1 x2 h0 O0 MI S_EM q5 q6 q7 q8 q9 q10 q11 q12) hZ (own_hw hw 75 rfl) (own_hw hw 74 rfl) (by decide) (by decide)) (g := (mkF m 5 #[.val (.ref d), .val (.ref a)] [(.ref a)])) rfl (by rw [hml]; rfl) (argsL := [(.ref a)]) (rest := []) (lenOf pd_548093608 rfl) rfl (by show 2 * 0 + _ ≤ _; exact Nat.le_of_eq rfl) (hb hby d_prog_6_method_1_code_5) (fun _ _ => ⟨rfl, K1zq, (by decide : 0 + 3 ≤ _), (by decide : 0 + 8 ≤ _)⟩)
  dsimp only [Pt.U, Pt.locs, Pt.cells, Pt.slots] at X2z l2z y2z z2z st2z hQ2z
  subst l2z y2z z2z
  obtain ⟨r_2z, er_2z, ke_2z, rfl, NQ2z, K2zq, r2z_0, r2z_1, r2z_2, r2z_3, r2z_4, r2z_5⟩ := hQ2z
  refine own_go st2z ?_
  have N2z := Fr.app N1z NQ2z
  have O3z := own_ext_keep O0 K2zq all0
  have K3z := K0.trans K2zq all0
  have lz_r_2z : h0.size ≤ r_2z := Nat.le_trans K0.1 r2z_2
  have ne_d_r_2z : d ≠ r_2z := Nat.ne_of_lt (Nat.lt_of_lt_of_le q2.lt r2z_2)
  have ne_a_r_2z : a ≠ r_2z := Nat.ne_of_lt (Nat.lt_of_lt_of_le q5.lt r2z_2)
  have ne_arr_r_2z : arr ≠ r_2z := Nat.ne_of_lt (Nat.lt_of_lt_of_le q6.lt r2z_2)
  have ne_x0_r_2z : x0 ≠ r_2z := Nat.ne_of_lt (Nat.lt_of_lt_of_le q10.lt r2z_2)
  have ne_x1_r_2z : x1 ≠ r_2z := Nat.ne_of_lt (Nat.lt_of_lt_of_le q11.lt r2z_2)
  have ne_x2_r_2z : x2 ≠ r_2z := Nat.ne_of_lt (Nat.lt_of_lt_of_le q12.lt r2z_2)
  have lz_er_2z : h0.size ≤ er_2z := Nat.le_trans K0.1 r2z_5
  have ne_d_er_2z : d ≠ er_2z := Nat.ne_of_lt (Nat.lt_of_lt_of_le q2.lt r2z_5)
  have ne_a_er_2z : a ≠ er_2z := Nat.ne_of_lt (Nat.lt_of_lt_of_le q5.lt r2z_5)
  have ne_arr_er_2z : arr ≠ er_2z := Nat.ne_of_lt (Nat.lt_of_lt_of_le q6.lt r2z_5)
  have ne_x0_er_2z : x0 ≠ er_2z := Nat.ne_of_lt (Nat.lt_of_lt_of_le q10.lt r2z_5)
  have ne_x1_er_2z : x1 ≠ er_2z := Nat.ne_of_lt (Nat.lt_of_lt_of_le q11.lt r2z_5)
  have ne_x2_er_2z : x2 ≠ er_2z := Nat.ne_of_lt (Nat.lt_of_lt_of_le q12.lt r2z_5)
  show own_G p e below (T2z.setTop (mkF m 8 #[.val (.ref d), .val (.ref a)] [(.ref r_2z)])) _
  refine own_go (fun t k => XS.astoreN X2z.here hx rfl (hb hby d_prog_6_method_1_code_8) rfl rfl (l' := #[.val (.ref d), .val (.ref r_2z)]) rfl k) ?_
  refine own_go (fun t k => XS.aloadN X2z.here hx rfl (hb hby d_prog_6_method_1_code_9) rfl rfl k) ?_
  refine own_go (fun t k => XS.aloadN X2z.here hx rfl (hb hby d_prog_6_method_1_code_10) rfl rfl k) ?_
  obtain ⟨T4z, h4z, X4z, e4z, W4z, st4z⟩ := putF X2z hx hZ hown (host := "") (Or.inl (own_hw hw 226 rfl)) Via.refl rfl (q4.keep K2zq (by simp)) (q2.keep K2zq) (Or.inr ⟨(own_hw hw 227 rfl), rfl, hnm⟩) (own_hw hw 156 rfl) (ty := (.object own_s15)) (by decide) rfl rfl (g := (mkF m 11 #[.val (.ref d), .val (.ref r_2z)] [(.ref r_2z), (.ref d)])) rfl rfl (hb hby d_prog_6_method_1_code_11)
  refine own_go st4z ?_
  have N4z := Fr.snoc X4z N2z q3
  have F4z : Fld Z h4z d own_s8 "fragments" own_s16 (.ref r_2z) := (q4.keep K2zq (by simp)).same W4z
  have O5z := own_ext_wr O3z W4z q3
  have K5z := K3z.wr W4z (Or.inl (List.mem_of_getElem? (i := 0) rfl))
  exact own_retV X4z hx Bd.returns (hb hby d_prog_6_method_1_code_14) hlk (Nat.le_of_ble_eq_true rfl) (Nat.le_of_ble_eq_true rfl) (by show Q_own_di3 Z d a arr kk mi eM x0 x1 x2 h0 _ T4z.heap _; rw [e4z]; exact ⟨r_2z, er_2z, ke_2z, rfl, N4z, K5z, ((q2.keep K2zq).wr W4z), F4z, (r2z_0.wr W4z), (r2z_3.other W4z (Or.inl (Ne.symm ne_d_r_2z))), (r2z_4.other W4z (Ne.symm ne_d_er_2z))⟩)
theorem ef_own_g12 (m : MethodId) (x0 : Addr) (x1 : Int32) : entryFrame m #[(.ref x0), (.int x1)] 2 = mkF m 0 #[.val (.ref x0), .val (.int x1)] [] := by first | (simp [entryFrame, mkF, argsToLocals, Value.category]; done) | rfl
theorem pf_own_g12 : plainFor own_m38 = true := plainFor_of_name (by simp [plainName, overriddenIn])
theorem d_jdk_44_method_5_code_0 : decode jdk_44_method_5_code 0 = .ok (.iload_n 1, 1) := by decide +kernel
theorem d_jdk_44_method_5_code_1 : decode jdk_44_method_5_code 1 = .ok (.ifCond .ne 8, 3) := by decide +kernel
theorem d_jdk_44_method_5_code_4 : decode jdk_44_method_5_code 4 = .ok (.aload_n 0, 1) := by decide +kernel
theorem d_jdk_44_method_5_code_5 : decode jdk_44_method_5_code 5 = .ok (.getfield 13, 3) := by decide +kernel
theorem d_jdk_44_method_5_code_8 : decode jdk_44_method_5_code 8 = .ok (.areturn, 1) := by decide +kernel
def Q_own_g12 (Z : State) (r : Addr) (x0 : Addr) (h0 : Heap) (v : Option Value) (h : Heap) (L : List Loc) : Prop := v = some (.ref x0) ∧ Fr Z.heap.size L ∧ h = h0
set_option maxRecDepth 65536 in
set_option maxHeartbeats 40000000 in
theorem own_g12 (l : Launch) (Z : State) (a0 : Array Value) (hw : ∀ d ∈ tables_1, d.before a0 Z = true) (ws : List Jvm.Cond) (r : Addr) (x0 : Addr) (h0 : Heap) (O0 : Ext Z.heap h0) (q0 : Fld Z h0 r own_s6 "e0" own_s13 (.ref x0)) :
    MetFree l own_m38 (head1 (Jvm.Cond.code own_m38 jdk_44_method_5_code 2 (some (.object own_s2)) :: ws) ({ frames := 0, cells := 0, slots := 0, locals := 0 } : Room)) (fun aa U => aa = #[(.ref r), (.int (0 : Int32))] ∧ Z.Warmed39 U.vm ∧ U.heap = h0) (fun _ _ _ _ _ => True) (fun _ U o U' => ∃ v L, o = .returned v ∧ Q_own_g12 Z r x0 h0 v U'.heap L ∧ FrameEnd U o U' L ({ frames := 0, cells := 0, slots := 0, locals := 0 } : Room).cells ({ frames := 0, cells := 0, slots := 0, locals := 0 } : Room).slots) := by
  refine MetFree.of_bodySF pf_own_g12 hisR ?_
  intro p e s m args below meth c s₁ Bd hml0 hP hK
  obtain ⟨rfl, hZ, hh⟩ := hP
  have hx := Bd.exec
  have hby := Bd.bytes
  have hlk := BodyLoose.notSynchronized Bd
  have hml : c.maxLocals = 2 := hml0
  have hown : s.vm.findClass own_s6 = some m.cls := findClass_of_methodNamed Bd.named
  have hnm := (name_of_methodNamed Bd.named Bd.method).1
  have X0 : Stand p l e ({ frames := 0, cells := 0, slots := 0, locals := 0 } : Room) s m #[(.ref r), (.int (0 : Int32))] below meth c s₁ [] 0 0 := Stand.of_body Bd
  have e0 : s₁.heap = h0 := by rw [← hh, Bd.state]; rfl
  have N0 := Fr.nil Z.heap.size
  have K0 : Keep h0 h0 [] := Keep.refl _ _
  refine own_start (Q := Q_own_g12 Z r x0 h0) (ef_own_g12 m (r) ((0 : Int32))) ?_
  show own_G p e below (s₁.setTop (mkF m 0 #[.val (.ref r), .val (.int (0 : Int32))] [])) _
  refine own_go (fun t k => XS.iloadN X0.here hx rfl (hb hby d_jdk_44_method_5_code_0) rfl k) ?_
  refine own_go (fun t k => XS.ifNo X0.here hx rfl (hb hby d_jdk_44_method_5_code_1) rfl ((if0 _ _).trans (teq (by decide : (0 : Int32) = (0 : Int32))).2) k) ?_
  show own_G p e below (s₁.setTop (mkF m 4 #[.val (.ref r), .val (.int (0 : Int32))] [])) _
  refine own_go (fun t k => XS.aloadN X0.here hx rfl (hb hby d_jdk_44_method_5_code_4) rfl rfl k) ?_
  obtain ⟨T1z, X1z, e1z, st1z⟩ := getF X0 hx hZ hown (host := "") (Or.inl (own_hw hw 221 rfl)) Via.refl e0 q0 (g := (mkF m 5 #[.val (.ref r), .val (.int (0 : Int32))] [(.ref r)])) rfl rfl (hb hby d_jdk_44_method_5_code_5)
  refine own_go st1z ?_
  exact own_ret X1z hx Bd.returns rfl (Or.inr (Or.inr (Or.inr (Or.inr ⟨rfl, rfl, rfl⟩)))) (hb hby d_jdk_44_method_5_code_8) hlk (Nat.le_of_ble_eq_true rfl) (Nat.le_of_ble_eq_true rfl) (by show Q_own_g12 Z r x0 h0 _ T1z.heap _; rw [e1z]; exact ⟨rfl, N0, rfl⟩)
theorem ef_own_gn (m : MethodId) (x0 : Addr) (x1 : Int32) : entryFrame m #[(.ref x0), (.int x1)] 2 = mkF m 0 #[.val (.ref x0), .val (.int x1)] [] := by first | (simp [entryFrame, mkF, argsToLocals, Value.category]; done) | rfl
theorem pf_own_gn : plainFor own_m39 = true := plainFor_of_name (by simp [plainName, overriddenIn])
theorem d_jdk_45_method_4_code_0 : decode jdk_45_method_4_code 0 = .ok (.aload_n 0, 1) := by decide +kernel
theorem d_jdk_45_method_4_code_1 : decode jdk_45_method_4_code 1 = .ok (.getfield 7, 3) := by decide +kernel
theorem d_jdk_45_method_4_code_4 : decode jdk_45_method_4_code 4 = .ok (.iload_n 1, 1) := by decide +kernel
theorem d_jdk_45_method_4_code_5 : decode jdk_45_method_4_code 5 = .ok (.aaload, 1) := by decide +kernel
theorem d_jdk_45_method_4_code_6 : decode jdk_45_method_4_code 6 = .ok (.areturn, 1) := by decide +kernel
def Q_own_gn (Z : State) (r : Addr) (er : Addr) (ke : ClassId) (x0 : Addr) (x1 : Addr) (x2 : Addr) (h0 : Heap) (v : Option Value) (h : Heap) (L : List Loc) : Prop := v = some (.ref x0) ∧ Fr Z.heap.size L ∧ h = h0
set_option maxRecDepth 65536 in
set_option maxHeartbeats 40000000 in
theorem own_gn (l : Launch) (Z : State) (a0 : Array Value) (hw : ∀ d ∈ tables_1, d.before a0 Z = true) (ws : List Jvm.Cond) (r : Addr) (er : Addr) (ke : ClassId) (x0 : Addr) (x1 : Addr) (x2 : Addr) (h0 : Heap) (O0 : Ext Z.heap h0) (q0 : Fld Z h0 r own_s10 "elements" own_s3 (.ref er)) (q1 : own_A Z h0 er ke (.object own_s2) [(.ref x0), (.ref x1), (.ref x2)]) :
    MetFree l own_m39 (head1 (Jvm.Cond.code own_m39 jdk_45_method_4_code 2 (some (.object own_s2)) :: ws) ({ frames := 0, cells := 0, slots := 0, locals := 0 } : Room)) (fun aa U => aa = #[(.ref r), (.int (0 : Int32))] ∧ Z.Warmed39 U.vm ∧ U.heap = h0) (fun _ _ _ _ _ => True) (fun _ U o U' => ∃ v L, o = .returned v ∧ Q_own_gn Z r er ke x0 x1 x2 h0 v U'.heap L ∧ FrameEnd U o U' L ({ frames := 0, cells := 0, slots := 0, locals := 0 } : Room).cells ({ frames := 0, cells := 0, slots := 0, locals := 0 } : Room).slots) := by
  refine MetFree.of_bodySF pf_own_gn hisR ?_
  intro p e s m args below meth c s₁ Bd hml0 hP hK
  obtain ⟨rfl, hZ, hh⟩ := hP
  have hx := Bd.exec
  have hby := Bd.bytes
  have hlk := BodyLoose.notSynchronized Bd
  have hml : c.maxLocals = 2 := hml0
  have hown : s.vm.findClass own_s10 = some m.cls := findClass_of_methodNamed Bd.named
  have hnm := (name_of_methodNamed Bd.named Bd.method).1
  have X0 : Stand p l e ({ frames := 0, cells := 0, slots := 0, locals := 0 } : Room) s m #[(.ref r), (.int (0 : Int32))] below meth c s₁ [] 0 0 := Stand.of_body Bd
  have e0 : s₁.heap = h0 := by rw [← hh, Bd.state]; rfl
  have N0 := Fr.nil Z.heap.size
  have K0 : Keep h0 h0 [] := Keep.refl _ _
  refine own_start (Q := Q_own_gn Z r er ke x0 x1 x2 h0) (ef_own_gn m (r) ((0 : Int32))) ?_
  show own_G p e below (s₁.setTop (mkF m 0 #[.val (.ref r), .val (.int (0 : Int32))] [])) _
  refine own_go (fun t k => XS.aloadN X0.here hx rfl (hb hby d_jdk_45_method_4_code_0) rfl rfl k) ?_
  obtain ⟨T1z, X1z, e1z, st1z⟩ := getF X0 hx hZ hown (host := "") (Or.inl (own_hw hw 111 rfl)) Via.refl e0 q0 (g := (mkF m 1 #[.val (.ref r), .val (.int (0 : Int32))] [(.ref r)])) rfl rfl (hb hby d_jdk_45_method_4_code_1)
  refine own_go st1z ?_
  refine own_go (fun t k => XS.iloadN X1z.here hx rfl (hb hby d_jdk_45_method_4_code_4) rfl k) ?_
  refine own_go (own_ldA X1z hx hZ e1z q1 rfl (i := 0) (v := (.ref x0)) (by decide) rfl (g := (mkF m 5 #[.val (.ref r), .val (.int (0 : Int32))] [(.int (0 : Int32)), (.ref er)])) rfl rfl (hb hby d_jdk_45_method_4_code_5)) ?_
  exact own_ret X1z hx Bd.returns rfl (Or.inr (Or.inr (Or.inr (Or.inr ⟨rfl, rfl, rfl⟩)))) (hb hby d_jdk_45_method_4_code_6) hlk (Nat.le_of_ble_eq_true rfl) (Nat.le_of_ble_eq_true rfl) (by show Q_own_gn Z r er ke x0 x1 x2 h0 _ T1z.heap _; rw [e1z]; exact ⟨rfl, N0, rfl⟩)
theorem ef_own_fk (m : MethodId) (x0 : Addr) : entryFrame m #[(.ref x0)] 1 = mkF m 0 #[.val (.ref x0)] [] := by first | (simp [entryFrame, mkF, argsToLocals, Value.category]; done) | rfl
theorem pf_own_fk : plainFor own_m40 = true := plainFor_of_name (by simp [plainName, overriddenIn])
theorem d_prog_21_method_11_code_0 : decode prog_21_method_11_code 0 = .ok (.aload_n 0, 1) := by decide +kernel
theorem d_prog_21_method_11_code_1 : decode prog_21_method_11_code 1 = .ok (.getfield 50, 3) := by decide +kernel
theorem d_prog_21_method_11_code_4 : decode prog_21_method_11_code 4 = .ok (.areturn, 1) := by decide +kernel
def Q_own_fk (Z : State) (a : Addr) (kn : Addr) (h0 : Heap) (v : Option Value) (h : Heap) (L : List Loc) : Prop := v = some (.ref kn) ∧ Fr Z.heap.size L ∧ h = h0
set_option maxRecDepth 65536 in
set_option maxHeartbeats 40000000 in
theorem own_fk (l : Launch) (Z : State) (a0 : Array Value) (hw : ∀ d ∈ tables_1, d.before a0 Z = true) (ws : List Jvm.Cond) (a : Addr) (kn : Addr) (h0 : Heap) (O0 : Ext Z.heap h0) (q0 : Fld Z h0 a own_s0 "kind" own_s5 (.ref kn)) :
    MetFree l own_m40 (head1 (Jvm.Cond.code own_m40 prog_21_method_11_code 1 (some (.object own_s4)) :: ws) ({ frames := 0, cells := 0, slots := 0, locals := 0 } : Room)) (fun aa U => aa = #[(.ref a)] ∧ Z.Warmed39 U.vm ∧ U.heap = h0) (fun _ _ _ _ _ => True) (fun _ U o U' => ∃ v L, o = .returned v ∧ Q_own_fk Z a kn h0 v U'.heap L ∧ FrameEnd U o U' L ({ frames := 0, cells := 0, slots := 0, locals := 0 } : Room).cells ({ frames := 0, cells := 0, slots := 0, locals := 0 } : Room).slots) := by
  refine MetFree.of_bodySF pf_own_fk hisR ?_
  intro p e s m args below meth c s₁ Bd hml0 hP hK
  obtain ⟨rfl, hZ, hh⟩ := hP
  have hx := Bd.exec
  have hby := Bd.bytes
  have hlk := BodyLoose.notSynchronized Bd
  have hml : c.maxLocals = 1 := hml0
  have hown : s.vm.findClass own_s0 = some m.cls := findClass_of_methodNamed Bd.named
  have hnm := (name_of_methodNamed Bd.named Bd.method).1
  have X0 : Stand p l e ({ frames := 0, cells := 0, slots := 0, locals := 0 } : Room) s m #[(.ref a)] below meth c s₁ [] 0 0 := Stand.of_body Bd
  have e0 : s₁.heap = h0 := by rw [← hh, Bd.state]; rfl
  have N0 := Fr.nil Z.heap.size
  have K0 : Keep h0 h0 [] := Keep.refl _ _
  refine own_start (Q := Q_own_fk Z a kn h0) (ef_own_fk m (a)) ?_
  show own_G p e below (s₁.setTop (mkF m 0 #[.val (.ref a)] [])) _
  refine own_go (fun t k => XS.aloadN X0.here hx rfl (hb hby d_prog_21_method_11_code_0) rfl rfl k) ?_
  obtain ⟨T1z, X1z, e1z, st1z⟩ := getF X0 hx hZ hown (host := "") (Or.inl (own_hw hw 120 rfl)) Via.refl e0 q0 (g := (mkF m 1 #[.val (.ref a)] [(.ref a)])) rfl rfl (hb hby d_prog_21_method_11_code_1)
  refine own_go st1z ?_
  exact own_ret X1z hx Bd.returns rfl (Or.inr (Or.inr (Or.inr (Or.inr ⟨rfl, rfl, rfl⟩)))) (hb hby d_prog_21_method_11_code_4) hlk (Nat.le_of_ble_eq_true rfl) (Nat.le_of_ble_eq_true rfl) (by show Q_own_fk Z a kn h0 _ T1z.heap _; rw [e1z]; exact ⟨rfl, N0, rfl⟩)
theorem ef_own_dk0 (m : MethodId) (x0 : Addr) : entryFrame m #[(.ref x0)] 1 = mkF m 0 #[.val (.ref x0)] [] := by first | (simp [entryFrame, mkF, argsToLocals, Value.category]; done) | rfl
theorem pf_own_dk0 : plainFor own_m41 = true := plainFor_of_name (by simp [plainName, overriddenIn])
theorem pd_3495176479 : parseMethodDescriptor "(I)Ljava/lang/Object;" = some ⟨[.int], some (.object "java/lang/Object")⟩ := by decide +kernel
theorem pd_3046010860 : parseMethodDescriptor "()Lcom/example/treeshard/treeshard/model/Design$Kind;" = some ⟨[], some (.object "com/example/treeshard/treeshard/model/Design$Kind")⟩ := by decide +kernel
theorem d_prog_6_method_3_code_0 : decode prog_6_method_3_code 0 = .ok (.aload_n 0, 1) := by decide +kernel
theorem d_prog_6_method_3_code_1 : decode prog_6_method_3_code 1 = .ok (.getfield 13, 3) := by decide +kernel
theorem d_prog_6_method_3_code_10 : decode prog_6_method_3_code 10 = .ok (.checkcast 21, 3) := by decide +kernel
theorem d_prog_6_method_3_code_13 : decode prog_6_method_3_code 13 = .ok (.invokevirtual 51, 3) := by decide +kernel
theorem d_prog_6_method_3_code_16 : decode prog_6_method_3_code 16 = .ok (.areturn, 1) := by decide +kernel
theorem d_prog_6_method_3_code_4 : decode prog_6_method_3_code 4 = .ok (.iconst 0, 1) := by decide +kernel
theorem d_prog_6_method_3_code_5 : decode prog_6_method_3_code 5 = .ok (.invokeinterface 47 2, 5) := by decide +kernel
def Q_own_dk0 (Z : State) (d : Addr) (r : Addr) (x0 : Addr) (kn : Addr) (h0 : Heap) (v : Option Value) (h : Heap) (L : List Loc) : Prop := v = some (.ref kn) ∧ Fr Z.heap.size L ∧ h = h0
set_option maxRecDepth 65536 in
set_option maxHeartbeats 40000000 in
theorem own_dk0 (l : Launch) (Z : State) (a0 : Array Value) (hw : ∀ d ∈ tables_1, d.before a0 Z = true) (ws : List Jvm.Cond) (d : Addr) (r : Addr) (x0 : Addr) (kn : Addr) (h0 : Heap) (O0 : Ext Z.heap h0) (q0 : Fld Z h0 d own_s8 "fragments" own_s16 (.ref r)) (q1 : Exa Z h0 r own_s6) (q2 : Fld Z h0 r own_s6 "e0" own_s13 (.ref x0)) (q3 : Exa Z h0 x0 own_s0) (q4 : Fld Z h0 x0 own_s0 "kind" own_s5 (.ref kn)) :
    MetFree l own_m41 (head1 (Jvm.Cond.code own_m41 prog_6_method_3_code 1 (some (.object own_s4)) :: ws) ({ frames := 1, cells := 0, slots := 0, locals := 20 } : Room)) (fun aa U => aa = #[(.ref d)] ∧ Z.Warmed39 U.vm ∧ U.heap = h0) (fun _ _ _ _ _ => True) (fun _ U o U' => ∃ v L, o = .returned v ∧ Q_own_dk0 Z d r x0 kn h0 v U'.heap L ∧ FrameEnd U o U' L ({ frames := 1, cells := 0, slots := 0, locals := 20 } : Room).cells ({ frames := 1, cells := 0, slots := 0, locals := 20 } : Room).slots) := by
  refine MetFree.of_bodySF pf_own_dk0 hisR ?_
  intro p e s m args below meth c s₁ Bd hml0 hP hK
  obtain ⟨rfl, hZ, hh⟩ := hP
  have hx := Bd.exec
  have hby := Bd.bytes
  have hlk := BodyLoose.notSynchronized Bd
  have hml : c.maxLocals = 1 := hml0
  have hown : s.vm.findClass own_s8 = some m.cls := findClass_of_methodNamed Bd.named
  have hnm := (name_of_methodNamed Bd.named Bd.method).1
  have X0 : Stand p l e ({ frames := 1, cells := 0, slots := 0, locals := 20 } : Room) s m #[(.ref d)] below meth c s₁ [] 0 0 := Stand.of_body Bd
  have e0 : s₁.heap = h0 := by rw [← hh, Bd.state]; rfl
  have N0 := Fr.nil Z.heap.size
  have K0 : Keep h0 h0 [] := Keep.refl _ _
  refine own_start (Q := Q_own_dk0 Z d r x0 kn h0) (ef_own_dk0 m (d)) ?_
  show own_G p e below (s₁.setTop (mkF m 0 #[.val (.ref d)] [])) _
  refine own_go (fun t k => XS.aloadN X0.here hx rfl (hb hby d_prog_6_method_3_code_0) rfl rfl k) ?_
  obtain ⟨T1z, X1z, e1z, st1z⟩ := getF X0 hx hZ hown (host := "") (Or.inl (own_hw hw 226 rfl)) Via.refl e0 q0 (g := (mkF m 1 #[.val (.ref d)] [(.ref d)])) rfl rfl (hb hby d_prog_6_method_3_code_1)
  refine own_go st1z ?_
  refine own_go (fun t k => XS.iconst X1z.here hx rfl (hb hby d_prog_6_method_3_code_4) k) ?_
  obtain ⟨cq2z, kq2z, qa2z, qb2z, qc2z⟩ := isOf hZ e1z q1
  obtain ⟨_, _, ⟨T2z, L2z, k2z, n2z⟩, -, X2z, ⟨Lc2z, hQ2z, l2z, y2z, z2z⟩, st2z⟩ := X1z.interfaceBack hx (xi := own_m42) (y := own_m38) hown (own_mw hZ hw 233 rfl) (own_mw hZ hw 234 rfl) (own_mw hZ hw 235 rfl) (own_mw hZ hw 236 rfl) (own_mw hZ hw 237 rfl) (own_mw hZ hw 238 rfl) (own_mw hZ hw 239 rfl) (own_mw hZ hw 240 rfl) (by decide) (backOf (W := 0) (own_g12 l Z a0 hw [] r x0 h0 O0 q2) hZ (own_hw hw 241 rfl) (own_hw hw 198 rfl) (by decide) (by decide)) qa2z qb2z qc2z (g := (mkF m 5 #[.val (.ref d)] [(.int (0 : Int32)), (.ref r)])) rfl (by rw [hml]; rfl) (Steps.refl _) (argsL := [(.int (0 : Int32))]) (rest := []) (lenOf pd_3495176479 rfl) rfl (by show 2 * 0 + _ ≤ _; exact Nat.le_of_eq rfl) (hb hby d_prog_6_method_3_code_5) (fun _ _ => ⟨rfl, e1z, (by decide : 0 + 0 ≤ _), (by decide : 0 + 0 ≤ _)⟩)
  dsimp only [Pt.U, Pt.locs, Pt.cells, Pt.slots] at X2z l2z y2z z2z st2z hQ2z
  subst l2z y2z z2z
  obtain ⟨rfl, NQ2z, K2zq⟩ := hQ2z
  refine own_tr st2z ?_
  have N2z := Fr.app N0 NQ2z
  show own_G p e below (T2z.setTop (mkF m 10 #[.val (.ref d)] [(.ref x0)])) _
  obtain ⟨T3z, X3z, e3z, st3z⟩ := castY X2z hx hZ hown (own_hw hw 242 rfl) K2zq (Ins.self q3) (g := (mkF m 10 #[.val (.ref d)] [(.ref x0)])) rfl rfl (hb hby d_prog_6_method_3_code_10)
  refine own_go st3z ?_
  obtain ⟨cq4z, kq4z, qa4z, qb4z, qc4z⟩ := isOf hZ e3z q3
  obtain ⟨_, _, ⟨T4z, L4z, k4z, n4z⟩, -, X4z, ⟨Lc4z, hQ4z, l4z, y4z, z4z⟩, st4z⟩ := X3z.virtualBack hx (y := own_m40) (z := own_m40) hown (own_mw hZ hw 244 rfl) (own_mw hZ hw 245 rfl) (notFace_of_selects (args := #[]) (own_mw hZ hw 247 rfl)) (own_mw hZ hw 247 rfl) (own_mw hZ hw 246 rfl) (by decide) (backOf (W := 0) (own_fk l Z a0 hw [] x0 kn h0 O0 q4) hZ (own_hw hw 248 rfl) (own_hw hw 62 rfl) (by decide) (by decide)) qa4z qc4z (g := (mkF m 13 #[.val (.ref d)] [(.ref x0)])) rfl (by rw [hml]; rfl) (Steps.refl _) (argsL := []) (rest := []) (lenOf pd_3046010860 rfl) rfl (by show 2 * 0 + _ ≤ _; exact Nat.le_of_eq rfl) (hb hby d_prog_6_method_3_code_13) (fun _ _ => ⟨rfl, e3z, (by decide : 0 + 0 ≤ _), (by decide : 0 + 0 ≤ _)⟩)
  dsimp only [Pt.U, Pt.locs, Pt.cells, Pt.slots] at X4z l4z y4z z4z st4z hQ4z
  subst l4z y4z z4z
  obtain ⟨rfl, NQ4z, K4zq⟩ := hQ4z
  refine own_tr st4z ?_
  have N4z := Fr.app N2z NQ4z
  show own_G p e below (T4z.setTop (mkF m 16 #[.val (.ref d)] [(.ref kn)])) _
  exact own_ret X4z hx Bd.returns rfl (Or.inr (Or.inr (Or.inr (Or.inr ⟨rfl, rfl, rfl⟩)))) (hb hby d_prog_6_method_3_code_16) hlk (Nat.le_of_ble_eq_true rfl) (Nat.le_of_ble_eq_true rfl) (by show Q_own_dk0 Z d r x0 kn h0 _ T4z.heap _; rw [K4zq]; exact ⟨rfl, N4z, rfl⟩)
theorem ef_own_dk1 (m : MethodId) (x0 : Addr) : entryFrame m #[(.ref x0)] 1 = mkF m 0 #[.val (.ref x0)] [] := by first | (simp [entryFrame, mkF, argsToLocals, Value.category]; done) | rfl
theorem pf_own_dk1 : plainFor own_m41 = true := plainFor_of_name (by simp [plainName, overriddenIn])
def Q_own_dk1 (Z : State) (d : Addr) (r : Addr) (x0 : Addr) (kn : Addr) (er : Addr) (ke : ClassId) (x1 : Addr) (x2 : Addr) (h0 : Heap) (v : Option Value) (h : Heap) (L : List Loc) : Prop := v = some (.ref kn) ∧ Fr Z.heap.size L ∧ h = h0
set_option maxRecDepth 65536 in
set_option maxHeartbeats 40000000 in
theorem own_dk1 (l : Launch) (Z : State) (a0 : Array Value) (hw : ∀ d ∈ tables_1, d.before a0 Z = true) (ws : List Jvm.Cond) (d : Addr) (r : Addr) (x0 : Addr) (kn : Addr) (er : Addr) (ke : ClassId) (x1 : Addr) (x2 : Addr) (h0 : Heap) (O0 : Ext Z.heap h0) (q0 : Fld Z h0 d own_s8 "fragments" own_s16 (.ref r)) (q1 : Exa Z h0 r own_s10) (q2 : Fld Z h0 r own_s10 "elements" own_s3 (.ref er)) (q3 : own_A Z h0 er ke (.object own_s2) [(.ref x0), (.ref x1), (.ref x2)]) (q4 : Exa Z h0 x0 own_s0) (q5 : Fld Z h0 x0 own_s0 "kind" own_s5 (.ref kn)) :
    MetFree l own_m41 (head1 (Jvm.Cond.code own_m41 prog_6_method_3_code 1 (some (.object own_s4)) :: ws) ({ frames := 1, cells := 0, slots := 0, locals := 20 } : Room)) (fun aa U => aa = #[(.ref d)] ∧ Z.Warmed39 U.vm ∧ U.heap = h0) (fun _ _ _ _ _ => True) (fun _ U o U' => ∃ v L, o = .returned v ∧ Q_own_dk1 Z d r x0 kn er ke x1 x2 h0 v U'.heap L ∧ FrameEnd U o U' L ({ frames := 1, cells := 0, slots := 0, locals := 20 } : Room).cells ({ frames := 1, cells := 0, slots := 0, locals := 20 } : Room).slots) := by
  refine MetFree.of_bodySF pf_own_dk1 hisR ?_
  intro p e s m args below meth c s₁ Bd hml0 hP hK
  obtain ⟨rfl, hZ, hh⟩ := hP
  have hx := Bd.exec
  have hby := Bd.bytes
  have hlk := BodyLoose.notSynchronized Bd
  have hml : c.maxLocals = 1 := hml0
  have hown : s.vm.findClass own_s8 = some m.cls := findClass_of_methodNamed Bd.named
  have hnm := (name_of_methodNamed Bd.named Bd.method).1
  have X0 : Stand p l e ({ frames := 1, cells := 0, slots := 0, locals := 20 } : Room) s m #[(.ref d)] below meth c s₁ [] 0 0 := Stand.of_body Bd
  have e0 : s₁.heap = h0 := by rw [← hh, Bd.state]; rfl
  have N0 := Fr.nil Z.heap.size
  have K0 : Keep h0 h0 [] := Keep.refl _ _
  refine own_start (Q := Q_own_dk1 Z d r x0 kn er ke x1 x2 h0) (ef_own_dk1 m (d)) ?_
  show own_G p e below (s₁.setTop (mkF m 0 #[.val (.ref d)] [])) _
  refine own_go (fun t k => XS.aloadN X0.here hx rfl (hb hby d_prog_6_method_3_code_0) rfl rfl k) ?_
  obtain ⟨T1z, X1z, e1z, st1z⟩ := getF X0 hx hZ hown (host := "") (Or.inl (own_hw hw 226 rfl)) Via.refl e0 q0 (g := (mkF m 1 #[.val (.ref d)] [(.ref d)])) rfl rfl (hb hby d_prog_6_method_3_code_1)
  refine own_go st1z ?_
  refine own_go (fun t k => XS.iconst X1z.here hx rfl (hb hby d_prog_6_method_3_code_4) k) ?_
  obtain ⟨cq2z, kq2z, qa2z, qb2z, qc2z⟩ := isOf hZ e1z q1
  obtain ⟨_, _, ⟨T2z, L2z, k2z, n2z⟩, -, X2z, ⟨Lc2z, hQ2z, l2z, y2z, z2z⟩, st2z⟩ := X1z.interfaceBack hx (xi := own_m42) (y := own_m39) hown (own_mw hZ hw 233 rfl) (own_mw hZ hw 234 rfl) (own_mw hZ hw 235 rfl) (own_mw hZ hw 287 rfl) (own_mw hZ hw 288 rfl) (own_mw hZ hw 289 rfl) (own_mw hZ hw 290 rfl) (own_mw hZ hw 108 rfl) (by decide) (backOf (W := 0) (own_gn l Z a0 hw [] r er ke x0 x1 x2 h0 O0 q2 q3) hZ (own_hw hw 291 rfl) (own_hw hw 109 rfl) (by decide) (by decide)) qa2z qb2z qc2z (g := (mkF m 5 #[.val (.ref d)] [(.int (0 : Int32)), (.ref r)])) rfl (by rw [hml]; rfl) (Steps.refl _) (argsL := [(.int (0 : Int32))]) (rest := []) (lenOf pd_3495176479 rfl) rfl (by show 2 * 0 + _ ≤ _; exact Nat.le_of_eq rfl) (hb hby d_prog_6_method_3_code_5) (fun _ _ => ⟨rfl, e1z, (by decide : 0 + 0 ≤ _), (by decide : 0 + 0 ≤ _)⟩)
  dsimp only [Pt.U, Pt.locs, Pt.cells, Pt.slots] at X2z l2z y2z z2z st2z hQ2z
  subst l2z y2z z2z
  obtain ⟨rfl, NQ2z, K2zq⟩ := hQ2z
  refine own_tr st2z ?_
  have N2z := Fr.app N0 NQ2z
  show own_G p e below (T2z.setTop (mkF m 10 #[.val (.ref d)] [(.ref x0)])) _
  obtain ⟨T3z, X3z, e3z, st3z⟩ := castY X2z hx hZ hown (own_hw hw 242 rfl) K2zq (Ins.self q4) (g := (mkF m 10 #[.val (.ref d)] [(.ref x0)])) rfl rfl (hb hby d_prog_6_method_3_code_10)
  refine own_go st3z ?_
  obtain ⟨cq4z, kq4z, qa4z, qb4z, qc4z⟩ := isOf hZ e3z q4
  obtain ⟨_, _, ⟨T4z, L4z, k4z, n4z⟩, -, X4z, ⟨Lc4z, hQ4z, l4z, y4z, z4z⟩, st4z⟩ := X3z.virtualBack hx (y := own_m40) (z := own_m40) hown (own_mw hZ hw 244 rfl) (own_mw hZ hw 245 rfl) (notFace_of_selects (args := #[]) (own_mw hZ hw 247 rfl)) (own_mw hZ hw 247 rfl) (own_mw hZ hw 246 rfl) (by decide) (backOf (W := 0) (own_fk l Z a0 hw [] x0 kn h0 O0 q5) hZ (own_hw hw 248 rfl) (own_hw hw 62 rfl) (by decide) (by decide)) qa4z qc4z (g := (mkF m 13 #[.val (.ref d)] [(.ref x0)])) rfl (by rw [hml]; rfl) (Steps.refl _) (argsL := []) (rest := []) (lenOf pd_3046010860 rfl) rfl (by show 2 * 0 + _ ≤ _; exact Nat.le_of_eq rfl) (hb hby d_prog_6_method_3_code_13) (fun _ _ => ⟨rfl, e3z, (by decide : 0 + 0 ≤ _), (by decide : 0 + 0 ≤ _)⟩)
  dsimp only [Pt.U, Pt.locs, Pt.cells, Pt.slots] at X4z l4z y4z z4z st4z hQ4z
  subst l4z y4z z4z
  obtain ⟨rfl, NQ4z, K4zq⟩ := hQ4z
  refine own_tr st4z ?_
  have N4z := Fr.app N2z NQ4z
  show own_G p e below (T4z.setTop (mkF m 16 #[.val (.ref d)] [(.ref kn)])) _
  exact own_ret X4z hx Bd.returns rfl (Or.inr (Or.inr (Or.inr (Or.inr ⟨rfl, rfl, rfl⟩)))) (hb hby d_prog_6_method_3_code_16) hlk (Nat.le_of_ble_eq_true rfl) (Nat.le_of_ble_eq_true rfl) (by show Q_own_dk1 Z d r x0 kn er ke x1 x2 h0 _ T4z.heap _; rw [K4zq]; exact ⟨rfl, N4z, rfl⟩)
theorem ef_own_law (m : MethodId) (x0 : Int32) (x1 : Int32) : entryFrame m #[(.int x0), (.int x1)] maxLocals = mkF m 0 #[.val (.int x0), .val (.int x1), .unset, .unset, .unset, .unset, .unset] [] := by first | (simp [entryFrame, mkF, argsToLocals, Value.category, maxLocals]; done) | rfl
theorem pf_own_law : plainFor x = true := plainFor_of_name (by simp [plainName, overriddenIn, x])
theorem pd_4053637851 : parseMethodDescriptor "(Lcom/example/treeshard/treeshard/model/Design$Kind;I)Lcom/example/treeshard/treeshard/model/Fragment;" = some ⟨[(.object "com/example/treeshard/treeshard/model/Design$Kind"), .int], some (.object "com/example/treeshard/treeshard/model/Fragment")⟩ := by decide +kernel
theorem pd_219446285 : parseMethodDescriptor "(Ljava/util/List;)V" = some ⟨[(.object "java/util/List")], none⟩ := by decide +kernel
def Q_own_law (Z : State) (p0 : Int32) (p1 : Int32) (aS : Addr) (aH : Addr) (aV : Addr) (aR : Addr) (dE : Addr) (kd : ClassId) (cs : Int32) (mi : Addr) (eM : Addr) (eL : Addr) (eA : Addr) (ke : ClassId) (h0 : Heap) (v : Option Value) (h : Heap) (L : List Loc) : Prop := v = some (.int (1 : Int32)) ∧ Fr Z.heap.size L ∧ Keep h0 h []
set_option maxRecDepth 65536 in
set_option maxHeartbeats 40000000 in
theorem own_law (l : Launch) (Z : State) (a0 : Array Value) (hw : ∀ d ∈ tables_1, d.before a0 Z = true) (ws : List Jvm.Cond) (p0 : Int32) (p1 : Int32) (aS : Addr) (aH : Addr) (aV : Addr) (aR : Addr) (dE : Addr) (kd : ClassId) (cs : Int32) (mi : Addr) (eM : Addr) (eL : Addr) (eA : Addr) (ke : ClassId) (h0 : Heap) (O0 : Ext Z.heap h0) (S_S : Sta Z Z.heap own_s4 "SPLIT" own_s5 (.ref aS)) (S_H : Sta Z Z.heap own_s4 "HORIZONTAL" own_s5 (.ref aH)) (S_V : Sta Z Z.heap own_s4 "VERTICAL" own_s5 (.ref aV)) (S_R : Sta Z Z.heap own_s4 "REPLICATED" own_s5 (.ref aR)) (n_aSaH : aS ≠ aH) (n_aSaV : aS ≠ aV) (n_aRaH : aR ≠ aH) (n_aRaV : aR ≠ aV) (n_aHaV : aH ≠ aV) (S_D : Sta Z Z.heap own_s1 own_s19 own_s3 (.ref dE)) (BD : own_A Z Z.heap dE kd (.object own_s2) []) (S_CS : Sta Z Z.heap own_s11 "COMPACT_STRINGS" "Z" (.int cs)) (hcs : ¬ (cs = (0 : Int32))) (MI : Mir Z own_s3 mi) (S_EM : Sta Z Z.heap own_s12 "EMPTY" own_s13 (.ref eM)) (S_EL : Sta Z Z.heap own_s12 "EMPTY_LIST" own_s22 (.ref eL)) (F_EL : Fld Z Z.heap eL own_s10 "elements" own_s3 (.ref eA)) (B_EL : own_A Z Z.heap eA ke (.object own_s2) []) (E_EL : Exa Z Z.heap eL own_s10) :
    MetFree l x (head1 (Jvm.Cond.code x code maxLocals ret :: ws) room_1) (fun aa U => aa = #[(.int p0), (.int p1)] ∧ Z.Warmed39 U.vm ∧ U.heap = h0) (fun _ _ _ _ _ => True) (fun _ U o U' => ∃ v L, o = .returned v ∧ Q_own_law Z p0 p1 aS aH aV aR dE kd cs mi eM eL eA ke h0 v U'.heap L ∧ FrameEnd U o U' L room_1.cells room_1.slots) := by
  refine MetFree.of_bodySF pf_own_law hisR ?_
  intro p e s m args below meth c s₁ Bd hml0 hP hK
  obtain ⟨rfl, hZ, hh⟩ := hP
  have hx := Bd.exec
  have hby := Bd.bytes
  have hlk := BodyLoose.notSynchronized Bd
  have hml : c.maxLocals = 7 := hml0
  have hown : s.vm.findClass own_s20 = some m.cls := findClass_of_methodNamed Bd.named
  have hnm := (name_of_methodNamed Bd.named Bd.method).1
  have X0 : Stand p l e room_1 s m #[(.int p0), (.int p1)] below meth c s₁ [] 0 0 := Stand.of_body Bd
  have e0 : s₁.heap = h0 := by rw [← hh, Bd.state]; rfl
  have N0 := Fr.nil Z.heap.size
  have K0 : Keep h0 h0 [] := Keep.refl _ _
  refine own_start (Q := Q_own_law Z p0 p1 aS aH aV aR dE kd cs mi eM eL eA ke h0) (ef_own_law m (p0) (p1)) ?_
  show own_G p e below (s₁.setTop (mkF m 0 #[.val (.int p0), .val (.int p1), .unset, .unset, .unset, .unset, .unset] [])) _
  refine own_go (fun t k => XS.iloadN X0.here hx rfl (hb hby at_0) rfl k) ?_
  refine own_go (fun t k => X0.ldcI hx hown (mvT hZ (own_hw hw 0 rfl)) rfl (hb hby at_1) k) ?_
  refine own_go (fun t k => XS.iand X0.here hx rfl (hb hby at_3) rfl k) ?_
  refine own_go (fun t k => XS.iconst X0.here hx rfl (hb hby at_4) k) ?_
  refine own_go (fun t k => iremM X0 hx rfl (hb hby at_5) rfl (by decide) k) ?_
  show own_G p e below (s₁.setTop (mkF m 6 #[.val (.int p0), .val (.int p1), .unset, .unset, .unset, .unset, .unset] [(.int ((p0 &&& (2147483647 : Int32)) % (3 : Int32)))])) _
  rcases own_mod3 p0 with hkkk | hkkk | hkkk
  · rw [hkkk]
    show own_G p e below (s₁.setTop (mkF m 6 #[.val (.int p0), .val (.int p1), .unset, .unset, .unset, .unset, .unset] [(.int (0 : Int32))])) _
    refine own_go (fun t k => XS.istoreN X0.here hx rfl (hb hby at_6) rfl (l' := #[.val (.int p0), .val (.int p1), .val (.int (0 : Int32)), .unset, .unset, .unset, .unset]) rfl k) ?_
    refine own_go (fun t k => XS.iconst X0.here hx rfl (hb hby at_7) k) ?_
    refine own_go (fun t k => XS.iloadN X0.here hx rfl (hb hby at_8) rfl k) ?_
    refine own_go (fun t k => X0.ldcI hx hown (mvT hZ (own_hw hw 0 rfl)) rfl (hb hby at_9) k) ?_
    refine own_go (fun t k => XS.iand X0.here hx rfl (hb hby at_11) rfl k) ?_
    refine own_go (fun t k => XS.iconst X0.here hx rfl (hb hby at_12) k) ?_
    refine own_go (fun t k => iremM X0 hx rfl (hb hby at_13) rfl (by decide) k) ?_
    show own_G p e below (s₁.setTop (mkF m 14 #[.val (.int p0), .val (.int p1), .val (.int (0 : Int32)), .unset, .unset, .unset, .unset] [(.int ((p1 &&& (2147483647 : Int32)) % (3 : Int32))), (.int (1 : Int32))])) _
    rcases own_mod3 p1 with hknn | hknn | hknn
    · rw [hknn]
      show own_G p e below (s₁.setTop (mkF m 14 #[.val (.int p0), .val (.int p1), .val (.int (0 : Int32)), .unset, .unset, .unset, .unset] [(.int (0 : Int32)), (.int (1 : Int32))])) _
      refine own_go (fun t k => XS.iadd X0.here hx rfl (hb hby at_14) rfl k) ?_
      refine own_go (fun t k => XS.istoreN X0.here hx rfl (hb hby at_15) rfl (l' := #[.val (.int p0), .val (.int p1), .val (.int (0 : Int32)), .val (.int (1 : Int32)), .unset, .unset, .unset]) rfl k) ?_
      refine own_go (fun t k => XS.iloadN X0.here hx rfl (hb hby at_16) rfl k) ?_
      refine own_go (fun t k => XS.ifNo X0.here hx rfl (hb hby at_17) rfl ((if0 _ _).trans (teq (by decide : (0 : Int32) = (0 : Int32))).2) k) ?_
      show own_G p e below (s₁.setTop (mkF m 20 #[.val (.int p0), .val (.int p1), .val (.int (0 : Int32)), .val (.int (1 : Int32)), .unset, .unset, .unset] [])) _
      obtain ⟨T1z, X1z, e1z, st1z⟩ := getS2 X0 hx hZ hown (host := "") (Or.inl (own_hw hw 1 rfl)) Via.refl e0 (S_S.ext O0) (g := (mkF m 20 #[.val (.int p0), .val (.int p1), .val (.int (0 : Int32)), .val (.int (1 : Int32)), .unset, .unset, .unset] [])) rfl (hb hby at_20)
      refine own_go st1z ?_
      refine own_go (fun t k => XS.astore X1z.here hx rfl (hb hby at_23) rfl rfl (l' := #[.val (.int p0), .val (.int p1), .val (.int (0 : Int32)), .val (.int (1 : Int32)), .val (.ref aS), .unset, .unset]) rfl k) ?_
      refine own_go (fun t k => XS.goto X1z.here hx rfl (pc0 := 25) (pc' := 46) rfl (hb hby at_25) (by decide) (by decide) k) ?_
      show own_G p e below (T1z.setTop (mkF m 46 #[.val (.int p0), .val (.int p1), .val (.int (0 : Int32)), .val (.int (1 : Int32)), .val (.ref aS), .unset, .unset] [])) _
      obtain ⟨T2z, h2z, X2z, e2z, E2z, A2z, D2z, -, st2z⟩ := newO X1z hx hZ hown (own_hw hw 4 rfl) (own_hw hw 5 rfl) (own_hw hw 6 rfl) e1z (g := (mkF m 46 #[.val (.int p0), .val (.int p1), .val (.int (0 : Int32)), .val (.int (1 : Int32)), .val (.ref aS), .unset, .unset] [])) rfl (hb hby at_46) (by decide) (by decide)
      obtain ⟨b2z, g2z⟩ : ∃ z, z = h0.size := ⟨_, rfl⟩
      rw [← g2z] at A2z D2z st2z
      have fr_b2z : Z.heap.size ≤ b2z := g2z ▸ O0.1
      have lz_b2z : h0.size ≤ b2z := g2z ▸ K0.1
      have O3z := own_ext_trans O0 E2z
      have K3z := K0.ext E2z
      have F2z_modCount : Fld Z h2z b2z own_s7 "modCount" "I" (.int (0 : Int32)) := D2z (Or.inl (own_hw hw 26 rfl)) (ty := .int) (by decide)
      have F2z_elementData : Fld Z h2z b2z own_s1 "elementData" own_s3 .null := D2z (Or.inl (own_hw hw 29 rfl)) (ty := (.array (.object own_s2))) (by decide)
      have F2z_size : Fld Z h2z b2z own_s1 "size" "I" (.int (0 : Int32)) := D2z (Or.inl (own_hw hw 96 rfl)) (ty := .int) (by decide)
      refine own_go st2z ?_
      refine own_go (fun t k => XS.dup X2z.here hx rfl (hb hby at_49) rfl rfl k) ?_
      obtain ⟨_, _, ⟨T4z, L4z, k4z, n4z⟩, -, X4z, ⟨Lc4z, hQ4z, l4z, y4z, z4z⟩, st4z⟩ := X2z.specialBack hx (y := own_m2) rfl hown (own_mw hZ hw 7 rfl) (own_mw hZ hw 8 rfl) (own_mw hZ hw 9 rfl) (by decide) (backOf (W := 1) (own_ali l Z a0 hw [] b2z dE h2z O3z S_D A2z fr_b2z F2z_modCount F2z_elementData F2z_size) hZ (own_hw hw 9 rfl) (own_hw hw 6 rfl) (by decide) (by decide)) (g := (mkF m 50 #[.val (.int p0), .val (.int p1), .val (.int (0 : Int32)), .val (.int (1 : Int32)), .val (.ref aS), .unset, .unset] [(.ref b2z), (.ref b2z)])) rfl (by rw [hml]; rfl) (Steps.refl _) (a := b2z) (argsL := []) (rest := [(.ref b2z)]) (lenOf pd_193421996 rfl) rfl (by show 2 * 0 + _ ≤ _; exact Nat.le_of_eq rfl) (hb hby at_50) (fun _ _ => ⟨rfl, e2z, (by decide : 1 + 0 ≤ _), (by decide : 3 + 0 ≤ _)⟩)
      dsimp only [Pt.U, Pt.locs, Pt.cells, Pt.slots] at X4z l4z y4z z4z st4z hQ4z
      subst l4z y4z z4z
      obtain ⟨rfl, NQ4z, K4zq, r4z_0, r4z_1, r4z_2, r4z_3⟩ := hQ4z
      refine own_tr st4z ?_
      have N4z := Fr.app N0 NQ4z
      have O5z := own_ext_keep O3z K4zq (allS fr_b2z all0)
      have K5z := K3z.trans K4zq (allS (Or.inr lz_b2z) all0)
      show own_G p e below (T4z.setTop (mkF m 53 #[.val (.int p0), .val (.int p1), .val (.int (0 : Int32)), .val (.int (1 : Int32)), .val (.ref aS), .unset, .unset] [(.ref b2z)])) _
      refine own_go (fun t k => XS.astore X4z.here hx rfl (hb hby at_53) rfl rfl (l' := #[.val (.int p0), .val (.int p1), .val (.int (0 : Int32)), .val (.int (1 : Int32)), .val (.ref aS), .val (.ref b2z), .unset]) rfl k) ?_
      refine own_go (fun t k => XS.aload X4z.here hx rfl (hb hby at_55) rfl rfl k) ?_
      refine own_go (fun t k => XS.aload X4z.here hx rfl (hb hby at_57) rfl rfl k) ?_
      refine own_go (fun t k => XS.iconst X4z.here hx rfl (hb hby at_59) k) ?_
      obtain ⟨_, _, ⟨T6z, L6z, k6z, n6z⟩, -, X6z, ⟨Lc6z, hQ6z, l6z, y6z, z6z⟩, st6z⟩ := Jvm.LawKit.callS X4z hx (y := own_m36) hown (own_mw hZ hw 30 rfl) (own_mw hZ hw 31 rfl) (own_mw hZ hw 32 rfl) (own_mw hZ hw 33 rfl) (by decide) (backOf (W := 1) (own_mke0 l Z a0 hw [] dE kd cs aH aV aS eL eA ke T4z.heap O5z S_D BD S_CS hcs S_H S_V S_EL F_EL B_EL E_EL n_aSaH n_aSaV) hZ (own_hw hw 33 rfl) (own_hw hw 32 rfl) (by decide) (by decide)) (g := (mkF m 60 #[.val (.int p0), .val (.int p1), .val (.int (0 : Int32)), .val (.int (1 : Int32)), .val (.ref aS), .val (.ref b2z), .unset] [(.int (0 : Int32)), (.ref aS), (.ref b2z)])) rfl (by rw [hml]; rfl) (argsL := [(.ref aS), (.int (0 : Int32))]) (rest := [(.ref b2z)]) (lenOf pd_4053637851 rfl) rfl (by show 2 * 0 + _ ≤ _; exact Nat.le_of_eq rfl) (hb hby at_60) (fun _ _ => ⟨rfl, rfl, (by decide : 1 + 4 ≤ _), (by decide : 3 + 13 ≤ _)⟩)
      dsimp only [Pt.U, Pt.locs, Pt.cells, Pt.slots] at X6z l6z y6z z6z st6z hQ6z
      subst l6z y6z z6z
      obtain ⟨r_6z, rfl, NQ6z, K6zq, r6z_0, r6z_1, r6z_2, r6z_3⟩ := hQ6z
      refine own_go st6z ?_
      have N6z := Fr.app N4z NQ6z
      have O7z := own_ext_keep O5z K6zq all0
      have K7z := K5z.trans K6zq all0
      have lz_r_6z : h0.size ≤ r_6z := Nat.le_trans K5z.1 r6z_2
      have ne_b2z_r_6z : b2z ≠ r_6z := Nat.ne_of_lt (Nat.lt_of_lt_of_le r4z_0.lt r6z_2)
      show own_G p e below (T6z.setTop (mkF m 63 #[.val (.int p0), .val (.int p1), .val (.int (0 : Int32)), .val (.int (1 : Int32)), .val (.ref aS), .val (.ref b2z), .unset] [(.ref r_6z), (.ref b2z)])) _
      obtain ⟨cq8z, kq8z, qa8z, qb8z, qc8z⟩ := isOf hZ (rfl : T6z.heap = _) (r4z_0.keep K6zq)
      obtain ⟨_, _, ⟨T8z, L8z, k8z, n8z⟩, -, X8z, ⟨Lc8z, hQ8z, l8z, y8z, z8z⟩, st8z⟩ := X6z.virtualBack hx (y := own_m7) (z := own_m7) hown (own_mw hZ hw 126 rfl) (own_mw hZ hw 127 rfl) (notFace_of_selects (args := #[]) (own_mw hZ hw 129 rfl)) (own_mw hZ hw 129 rfl) (own_mw hZ hw 128 rfl) (by decide) (backOf (W := 0) (own_add10F l Z a0 hw [] b2z (0 : Int32) dE kd r_6z T6z.heap O7z S_D BD (r4z_0.keep K6zq) fr_b2z (r4z_1.keep K6zq (by simp)) (r4z_2.keep K6zq (by simp)) (r4z_3.keep K6zq (by simp)) r6z_0) hZ (own_hw hw 130 rfl) (own_hw hw 6 rfl) (by decide) (by decide)) qa8z qc8z (g := (mkF m 63 #[.val (.int p0), .val (.int p1), .val (.int (0 : Int32)), .val (.int (1 : Int32)), .val (.ref aS), .val (.ref b2z), .unset] [(.ref r_6z), (.ref b2z)])) rfl (by rw [hml]; rfl) (Steps.refl _) (argsL := [(.ref r_6z)]) (rest := []) (lenOf pd_396412080 rfl) rfl (by show 2 * 0 + _ ≤ _; exact Nat.le_of_eq rfl) (hb hby at_63) (fun _ _ => ⟨rfl, rfl, (by decide : 5 + 1 ≤ _), (by decide : 16 + 10 ≤ _)⟩)
      dsimp only [Pt.U, Pt.locs, Pt.cells, Pt.slots] at X8z l8z y8z z8z st8z hQ8z
      subst l8z y8z z8z
      obtain ⟨arr_8z, kk_8z, rfl, NQ8z, K8zq, r8z_0, r8z_1, r8z_2, r8z_3, r8z_4, r8z_5, r8z_6, r8z_7, r8z_8⟩ := hQ8z
      refine own_tr st8z ?_
      have N8z := Fr.app N6z NQ8z
      have O9z := own_ext_keep O7z K8zq (allS fr_b2z all0)
      have K9z := K7z.trans K8zq (allS (Or.inr lz_b2z) all0)
      have lz_arr_8z : h0.size ≤ arr_8z := Nat.le_trans K7z.1 r8z_2
      have ne_b2z_arr_8z : b2z ≠ arr_8z := Nat.ne_of_lt (Nat.lt_of_lt_of_le (r4z_0.keep K6zq).lt r8z_2)
      have ne_r_6z_arr_8z : r_6z ≠ arr_8z := Nat.ne_of_lt (Nat.lt_of_lt_of_le r6z_0.lt r8z_2)
      have r8z_6 : Fld Z T8z.heap b2z own_s7 "modCount" "I" (.int (1 : Int32)) := r8z_6
      show own_G p e below (T8z.setTop (mkF m 66 #[.val (.int p0), .val (.int p1), .val (.int (0 : Int32)), .val (.int (1 : Int32)), .val (.ref aS), .val (.ref b2z), .unset] [(.int (1 : Int32))])) _
      refine own_go (fun t k => XS.pop X8z.here hx rfl (hb hby at_66) rfl rfl k) ?_
      refine own_go (fun t k => XS.iloadN X8z.here hx rfl (hb hby at_67) rfl k) ?_
      refine own_go (fun t k => XS.iconst X8z.here hx rfl (hb hby at_68) k) ?_
      refine own_go (fun t k => XS.icmpYes X8z.here hx rfl (pc0 := 69) (pc' := 84) rfl (hb hby at_69) rfl (flt (by decide : ¬ ((1 : Int32) < (1 : Int32)))).2.2.2 (by decide) (by decide) k) ?_
      show own_G p e below (T8z.setTop (mkF m 84 #[.val (.int p0), .val (.int p1), .val (.int (0 : Int32)), .val (.int (1 : Int32)), .val (.ref aS), .val (.ref b2z), .unset] [])) _
      refine own_go (fun t k => XS.iloadN X8z.here hx rfl (hb hby at_84) rfl k) ?_
      refine own_go (fun t k => XS.iconst X8z.here hx rfl (hb hby at_85) k) ?_
      refine own_go (fun t k => XS.icmpYes X8z.here hx rfl (pc0 := 86) (pc' := 101) rfl (hb hby at_86) rfl (flt (by decide : ¬ ((2 : Int32) < (1 : Int32)))).2.2.2 (by decide) (by decide) k) ?_
      show own_G p e below (T8z.setTop (mkF m 101 #[.val (.int p0), .val (.int p1), .val (.int (0 : Int32)), .val (.int (1 : Int32)), .val (.ref aS), .val (.ref b2z), .unset] [])) _
      obtain ⟨T10z, h10z, X10z, e10z, E10z, A10z, D10z, -, st10z⟩ := newO X8z hx hZ hown (own_hw hw 155 rfl) (own_hw hw 156 rfl) (own_hw hw 157 rfl) rfl (g := (mkF m 101 #[.val (.int p0), .val (.int p1), .val (.int (0 : Int32)), .val (.int (1 : Int32)), .val (.ref aS), .val (.ref b2z), .unset] [])) rfl (hb hby at_101) (by decide) (by decide)
      obtain ⟨b10z, g10z⟩ : ∃ z, z = T8z.heap.size := ⟨_, rfl⟩
      rw [← g10z] at A10z D10z st10z
      have fr_b10z : Z.heap.size ≤ b10z := g10z ▸ O9z.1
      have lz_b10z : h0.size ≤ b10z := g10z ▸ K9z.1
      have ne_b2z_b10z : b2z ≠ b10z := Nat.ne_of_lt (g10z ▸ r8z_0.lt)
      have ne_r_6z_b10z : r_6z ≠ b10z := Nat.ne_of_lt (g10z ▸ (r6z_0.keep K8zq).lt)
      have ne_arr_8z_b10z : arr_8z ≠ b10z := Nat.ne_of_lt (g10z ▸ r8z_4.lt)
      have O11z := own_ext_trans O9z E10z
      have K11z := K9z.ext E10z
      have F10z_fragments : Fld Z h10z b10z own_s8 "fragments" own_s16 .null := D10z (Or.inr (own_hw hw 227 rfl)) (ty := (.object own_s15)) (by decide)
      refine own_go st10z ?_
      refine own_go (fun t k => XS.dup X10z.here hx rfl (hb hby at_104) rfl rfl k) ?_
      refine own_go (fun t k => XS.aload X10z.here hx rfl (hb hby at_105) rfl rfl k) ?_
      obtain ⟨_, _, ⟨T12z, L12z, k12z, n12z⟩, -, X12z, ⟨Lc12z, hQ12z, l12z, y12z, z12z⟩, st12z⟩ := X10z.specialBack hx (y := own_m37) rfl hown (own_mw hZ hw 158 rfl) (own_mw hZ hw 159 rfl) (own_mw hZ hw 160 rfl) (by decide) (backOf (W := 1) (own_di1 l Z a0 hw [] b10z b2z arr_8z kk_8z mi eM r_6z h10z O11z MI S_EM A10z fr_b10z F10z_fragments (r8z_0.ext E10z) (r8z_5.ext E10z) (r8z_4.ext E10z) (r8z_7.ext E10z) (r8z_8.ext E10z) ((r6z_0.keep K8zq).ext E10z)) hZ (own_hw hw 160 rfl) (own_hw hw 157 rfl) (by decide) (by decide)) (g := (mkF m 107 #[.val (.int p0), .val (.int p1), .val (.int (0 : Int32)), .val (.int (1 : Int32)), .val (.ref aS), .val (.ref b2z), .unset] [(.ref b2z), (.ref b10z), (.ref b10z)])) rfl (by rw [hml]; rfl) (Steps.refl _) (a := b10z) (argsL := [(.ref b2z)]) (rest := [(.ref b10z)]) (lenOf pd_219446285 rfl) rfl (by show 2 * 0 + _ ≤ _; exact Nat.le_of_eq rfl) (hb hby at_107) (fun _ _ => ⟨rfl, e10z, (by decide : 7 + 2 ≤ _), (by decide : 27 + 3 ≤ _)⟩)
      dsimp only [Pt.U, Pt.locs, Pt.cells, Pt.slots] at X12z l12z y12z z12z st12z hQ12z
      subst l12z y12z z12z
      obtain ⟨r_12z, rfl, NQ12z, K12zq, r12z_0, r12z_1, r12z_2, r12z_3⟩ := hQ12z
      refine own_tr st12z ?_
      have N12z := Fr.app N8z NQ12z
      have O13z := own_ext_keep O11z K12zq (allS fr_b10z all0)
      have K13z := K11z.trans K12zq (allS (Or.inr lz_b10z) all0)
      show own_G p e below (T12z.setTop (mkF m 110 #[.val (.int p0), .val (.int p1), .val (.int (0 : Int32)), .val (.int (1 : Int32)), .val (.ref aS), .val (.ref b2z), .unset] [(.ref b10z)])) _
      refine own_go (fun t k => XS.astore X12z.here hx rfl (hb hby at_110) rfl rfl (l' := #[.val (.int p0), .val (.int p1), .val (.int (0 : Int32)), .val (.int (1 : Int32)), .val (.ref aS), .val (.ref b2z), .val (.ref b10z)]) rfl k) ?_
      refine own_go (fun t k => XS.aload X12z.here hx rfl (hb hby at_112) rfl rfl k) ?_
      have f14z := (((r6z_3.keep K8zq (by simp only [List.mem_cons, List.not_mem_nil, or_false, not_or]; exact (Ne.symm ne_b2z_r_6z))).ext E10z).keep K12zq (by simp only [List.mem_cons, List.not_mem_nil, or_false, not_or]; exact ne_r_6z_b10z))
      obtain ⟨cq15z, kq15z, qa15z, qb15z, qc15z⟩ := isOf hZ (rfl : T12z.heap = _) r12z_0
      obtain ⟨_, _, ⟨T15z, L15z, k15z, n15z⟩, -, X15z, ⟨Lc15z, hQ15z, l15z, y15z, z15z⟩, st15z⟩ := X12z.virtualBack hx (y := own_m41) (z := own_m41) hown (own_mw hZ hw 228 rfl) (own_mw hZ hw 229 rfl) (notFace_of_selects (args := #[]) (own_mw hZ hw 231 rfl)) (own_mw hZ hw 231 rfl) (own_mw hZ hw 230 rfl) (by decide) (backOf (W := 0) (own_dk0 l Z a0 hw [] b10z r_12z r_6z aS T12z.heap O13z r12z_1 r12z_2 r12z_3 (((r6z_0.keep K8zq).ext E10z).keep K12zq) f14z) hZ (own_hw hw 232 rfl) (own_hw hw 157 rfl) (by decide) (by decide)) qa15z qc15z (g := (mkF m 114 #[.val (.int p0), .val (.int p1), .val (.int (0 : Int32)), .val (.int (1 : Int32)), .val (.ref aS), .val (.ref b2z), .val (.ref b10z)] [(.ref b10z)])) rfl (by rw [hml]; rfl) (Steps.refl _) (argsL := []) (rest := []) (lenOf pd_3046010860 rfl) rfl (by show 2 * 0 + _ ≤ _; exact Nat.le_of_eq rfl) (hb hby at_114) (fun _ _ => ⟨rfl, rfl, (by decide : 9 + 0 ≤ _), (by decide : 30 + 0 ≤ _)⟩)
      dsimp only [Pt.U, Pt.locs, Pt.cells, Pt.slots] at X15z l15z y15z z15z st15z hQ15z
      subst l15z y15z z15z
      obtain ⟨rfl, NQ15z, K15zq⟩ := hQ15z
      refine own_tr st15z ?_
      have N15z := Fr.app N12z NQ15z
      show own_G p e below (T15z.setTop (mkF m 117 #[.val (.int p0), .val (.int p1), .val (.int (0 : Int32)), .val (.int (1 : Int32)), .val (.ref aS), .val (.ref b2z), .val (.ref b10z)] [(.ref aS)])) _
      refine own_go (fun t k => XS.aload X15z.here hx rfl (hb hby at_117) rfl rfl k) ?_
      refine own_go (fun t k => Jvm.RoadKit.acmp (g := (mkF m 119 #[.val (.int p0), .val (.int p1), .val (.int (0 : Int32)), .val (.int (1 : Int32)), .val (.ref aS), .val (.ref b2z), .val (.ref b10z)] [(.ref aS), (.ref aS)])) X15z hx rfl rfl rfl (pc0 := 119) (pc' := 122) (same := true) rfl (hb hby at_119) rfl (decide_eq_true (congrArg Value.ref rfl)) (by decide) (by decide) k) ?_
      show own_G p e below (T15z.setTop (mkF m 122 #[.val (.int p0), .val (.int p1), .val (.int (0 : Int32)), .val (.int (1 : Int32)), .val (.ref aS), .val (.ref b2z), .val (.ref b10z)] [])) _
      refine own_go (fun t k => XS.iconst X15z.here hx rfl (hb hby at_122) k) ?_
      refine own_go (fun t k => XS.goto X15z.here hx rfl (pc0 := 123) (pc' := 127) rfl (hb hby at_123) (by decide) (by decide) k) ?_
      show own_G p e below (T15z.setTop (mkF m 127 #[.val (.int p0), .val (.int p1), .val (.int (0 : Int32)), .val (.int (1 : Int32)), .val (.ref aS), .val (.ref b2z), .val (.ref b10z)] [(.int (1 : Int32))])) _
      exact own_ret X15z hx Bd.returns rfl (Or.inl ⟨rfl, Or.inr (Or.inl rfl), _, rfl⟩) (hb hby at_127) hlk (Nat.le_of_ble_eq_true rfl) (Nat.le_of_ble_eq_true rfl) (by show Q_own_law Z p0 p1 aS aH aV aR dE kd cs mi eM eL eA ke h0 _ T15z.heap _; rw [K15zq]; exact ⟨rfl, N15z, K13z⟩)
    · rw [hknn]
      show own_G p e below (s₁.setTop (mkF m 14 #[.val (.int p0), .val (.int p1), .val (.int (0 : Int32)), .unset, .unset, .unset, .unset] [(.int (1 : Int32)), (.int (1 : Int32))])) _
      refine own_go (fun t k => XS.iadd X0.here hx rfl (hb hby at_14) rfl k) ?_
      refine own_go (fun t k => XS.istoreN X0.here hx rfl (hb hby at_15) rfl (l' := #[.val (.int p0), .val (.int p1), .val (.int (0 : Int32)), .val (.int (2 : Int32)), .unset, .unset, .unset]) rfl k) ?_
      refine own_go (fun t k => XS.iloadN X0.here hx rfl (hb hby at_16) rfl k) ?_
      refine own_go (fun t k => XS.ifNo X0.here hx rfl (hb hby at_17) rfl ((if0 _ _).trans (teq (by decide : (0 : Int32) = (0 : Int32))).2) k) ?_
      show own_G p e below (s₁.setTop (mkF m 20 #[.val (.int p0), .val (.int p1), .val (.int (0 : Int32)), .val (.int (2 : Int32)), .unset, .unset, .unset] [])) _
      obtain ⟨T16z, X16z, e16z, st16z⟩ := getS2 X0 hx hZ hown (host := "") (Or.inl (own_hw hw 1 rfl)) Via.refl e0 (S_S.ext O0) (g := (mkF m 20 #[.val (.int p0), .val (.int p1), .val (.int (0 : Int32)), .val (.int (2 : Int32)), .unset, .unset, .unset] [])) rfl (hb hby at_20)
      refine own_go st16z ?_
      refine own_go (fun t k => XS.astore X16z.here hx rfl (hb hby at_23) rfl rfl (l' := #[.val (.int p0), .val (.int p1), .val (.int (0 : Int32)), .val (.int (2 : Int32)), .val (.ref aS), .unset, .unset]) rfl k) ?_
      refine own_go (fun t k => XS.goto X16z.here hx rfl (pc0 := 25) (pc' := 46) rfl (hb hby at_25) (by decide) (by decide) k) ?_
      show own_G p e below (T16z.setTop (mkF m 46 #[.val (.int p0), .val (.int p1), .val (.int (0 : Int32)), .val (.int (2 : Int32)), .val (.ref aS), .unset, .unset] [])) _
      obtain ⟨T17z, h17z, X17z, e17z, E17z, A17z, D17z, -, st17z⟩ := newO X16z hx hZ hown (own_hw hw 4 rfl) (own_hw hw 5 rfl) (own_hw hw 6 rfl) e16z (g := (mkF m 46 #[.val (.int p0), .val (.int p1), .val (.int (0 : Int32)), .val (.int (2 : Int32)), .val (.ref aS), .unset, .unset] [])) rfl (hb hby at_46) (by decide) (by decide)
      obtain ⟨b17z, g17z⟩ : ∃ z, z = h0.size := ⟨_, rfl⟩
      rw [← g17z] at A17z D17z st17z
      have fr_b17z : Z.heap.size ≤ b17z := g17z ▸ O0.1
      have lz_b17z : h0.size ≤ b17z := g17z ▸ K0.1
      have O18z := own_ext_trans O0 E17z
      have K18z := K0.ext E17z
      have F17z_modCount : Fld Z h17z b17z own_s7 "modCount" "I" (.int (0 : Int32)) := D17z (Or.inl (own_hw hw 26 rfl)) (ty := .int) (by decide)
      have F17z_elementData : Fld Z h17z b17z own_s1 "elementData" own_s3 .null := D17z (Or.inl (own_hw hw 29 rfl)) (ty := (.array (.object own_s2))) (by decide)
      have F17z_size : Fld Z h17z b17z own_s1 "size" "I" (.int (0 : Int32)) := D17z (Or.inl (own_hw hw 96 rfl)) (ty := .int) (by decide)
      refine own_go st17z ?_
      refine own_go (fun t k => XS.dup X17z.here hx rfl (hb hby at_49) rfl rfl k) ?_
      obtain ⟨_, _, ⟨T19z, L19z, k19z, n19z⟩, -, X19z, ⟨Lc19z, hQ19z, l19z, y19z, z19z⟩, st19z⟩ := X17z.specialBack hx (y := own_m2) rfl hown (own_mw hZ hw 7 rfl) (own_mw hZ hw 8 rfl) (own_mw hZ hw 9 rfl) (by decide) (backOf (W := 1) (own_ali l Z a0 hw [] b17z dE h17z O18z S_D A17z fr_b17z F17z_modCount F17z_elementData F17z_size) hZ (own_hw hw 9 rfl) (own_hw hw 6 rfl) (by decide) (by decide)) (g := (mkF m 50 #[.val (.int p0), .val (.int p1), .val (.int (0 : Int32)), .val (.int (2 : Int32)), .val (.ref aS), .unset, .unset] [(.ref b17z), (.ref b17z)])) rfl (by rw [hml]; rfl) (Steps.refl _) (a := b17z) (argsL := []) (rest := [(.ref b17z)]) (lenOf pd_193421996 rfl) rfl (by show 2 * 0 + _ ≤ _; exact Nat.le_of_eq rfl) (hb hby at_50) (fun _ _ => ⟨rfl, e17z, (by decide : 1 + 0 ≤ _), (by decide : 3 + 0 ≤ _)⟩)
      dsimp only [Pt.U, Pt.locs, Pt.cells, Pt.slots] at X19z l19z y19z z19z st19z hQ19z
      subst l19z y19z z19z
      obtain ⟨rfl, NQ19z, K19zq, r19z_0, r19z_1, r19z_2, r19z_3⟩ := hQ19z
      refine own_tr st19z ?_
      have N19z := Fr.app N0 NQ19z
      have O20z := own_ext_keep O18z K19zq (allS fr_b17z all0)
      have K20z := K18z.trans K19zq (allS (Or.inr lz_b17z) all0)
      show own_G p e below (T19z.setTop (mkF m 53 #[.val (.int p0), .val (.int p1), .val (.int (0 : Int32)), .val (.int (2 : Int32)), .val (.ref aS), .unset, .unset] [(.ref b17z)])) _
      refine own_go (fun t k => XS.astore X19z.here hx rfl (hb hby at_53) rfl rfl (l' := #[.val (.int p0), .val (.int p1), .val (.int (0 : Int32)), .val (.int (2 : Int32)), .val (.ref aS), .val (.ref b17z), .unset]) rfl k) ?_
      refine own_go (fun t k => XS.aload X19z.here hx rfl (hb hby at_55) rfl rfl k) ?_
      refine own_go (fun t k => XS.aload X19z.here hx rfl (hb hby at_57) rfl rfl k) ?_
      refine own_go (fun t k => XS.iconst X19z.here hx rfl (hb hby at_59) k) ?_
      obtain ⟨_, _, ⟨T21z, L21z, k21z, n21z⟩, -, X21z, ⟨Lc21z, hQ21z, l21z, y21z, z21z⟩, st21z⟩ := Jvm.LawKit.callS X19z hx (y := own_m36) hown (own_mw hZ hw 30 rfl) (own_mw hZ hw 31 rfl) (own_mw hZ hw 32 rfl) (own_mw hZ hw 33 rfl) (by decide) (backOf (W := 1) (own_mke0 l Z a0 hw [] dE kd cs aH aV aS eL eA ke T19z.heap O20z S_D BD S_CS hcs S_H S_V S_EL F_EL B_EL E_EL n_aSaH n_aSaV) hZ (own_hw hw 33 rfl) (own_hw hw 32 rfl) (by decide) (by decide)) (g := (mkF m 60 #[.val (.int p0), .val (.int p1), .val (.int (0 : Int32)), .val (.int (2 : Int32)), .val (.ref aS), .val (.ref b17z), .unset] [(.int (0 : Int32)), (.ref aS), (.ref b17z)])) rfl (by rw [hml]; rfl) (argsL := [(.ref aS), (.int (0 : Int32))]) (rest := [(.ref b17z)]) (lenOf pd_4053637851 rfl) rfl (by show 2 * 0 + _ ≤ _; exact Nat.le_of_eq rfl) (hb hby at_60) (fun _ _ => ⟨rfl, rfl, (by decide : 1 + 4 ≤ _), (by decide : 3 + 13 ≤ _)⟩)
      dsimp only [Pt.U, Pt.locs, Pt.cells, Pt.slots] at X21z l21z y21z z21z st21z hQ21z
      subst l21z y21z z21z
      obtain ⟨r_21z, rfl, NQ21z, K21zq, r21z_0, r21z_1, r21z_2, r21z_3⟩ := hQ21z
      refine own_go st21z ?_
      have N21z := Fr.app N19z NQ21z
      have O22z := own_ext_keep O20z K21zq all0
      have K22z := K20z.trans K21zq all0
      have lz_r_21z : h0.size ≤ r_21z := Nat.le_trans K20z.1 r21z_2
      have ne_b17z_r_21z : b17z ≠ r_21z := Nat.ne_of_lt (Nat.lt_of_lt_of_le r19z_0.lt r21z_2)
      show own_G p e below (T21z.setTop (mkF m 63 #[.val (.int p0), .val (.int p1), .val (.int (0 : Int32)), .val (.int (2 : Int32)), .val (.ref aS), .val (.ref b17z), .unset] [(.ref r_21z), (.ref b17z)])) _
      obtain ⟨cq23z, kq23z, qa23z, qb23z, qc23z⟩ := isOf hZ (rfl : T21z.heap = _) (r19z_0.keep K21zq)
      obtain ⟨_, _, ⟨T23z, L23z, k23z, n23z⟩, -, X23z, ⟨Lc23z, hQ23z, l23z, y23z, z23z⟩, st23z⟩ := X21z.virtualBack hx (y := own_m7) (z := own_m7) hown (own_mw hZ hw 126 rfl) (own_mw hZ hw 127 rfl) (notFace_of_selects (args := #[]) (own_mw hZ hw 129 rfl)) (own_mw hZ hw 129 rfl) (own_mw hZ hw 128 rfl) (by decide) (backOf (W := 0) (own_add10F l Z a0 hw [] b17z (0 : Int32) dE kd r_21z T21z.heap O22z S_D BD (r19z_0.keep K21zq) fr_b17z (r19z_1.keep K21zq (by simp)) (r19z_2.keep K21zq (by simp)) (r19z_3.keep K21zq (by simp)) r21z_0) hZ (own_hw hw 130 rfl) (own_hw hw 6 rfl) (by decide) (by decide)) qa23z qc23z (g := (mkF m 63 #[.val (.int p0), .val (.int p1), .val (.int (0 : Int32)), .val (.int (2 : Int32)), .val (.ref aS), .val (.ref b17z), .unset] [(.ref r_21z), (.ref b17z)])) rfl (by rw [hml]; rfl) (Steps.refl _) (argsL := [(.ref r_21z)]) (rest := []) (lenOf pd_396412080 rfl) rfl (by show 2 * 0 + _ ≤ _; exact Nat.le_of_eq rfl) (hb hby at_63) (fun _ _ => ⟨rfl, rfl, (by decide : 5 + 1 ≤ _), (by decide : 16 + 10 ≤ _)⟩)
      dsimp only [Pt.U, Pt.locs, Pt.cells, Pt.slots] at X23z l23z y23z z23z st23z hQ23z
      subst l23z y23z z23z
      obtain ⟨arr_23z, kk_23z, rfl, NQ23z, K23zq, r23z_0, r23z_1, r23z_2, r23z_3, r23z_4, r23z_5, r23z_6, r23z_7, r23z_8⟩ := hQ23z
      refine own_tr st23z ?_
      have N23z := Fr.app N21z NQ23z
      have O24z := own_ext_keep O22z K23zq (allS fr_b17z all0)
      have K24z := K22z.trans K23zq (allS (Or.inr lz_b17z) all0)
      have lz_arr_23z : h0.size ≤ arr_23z := Nat.le_trans K22z.1 r23z_2
      have ne_b17z_arr_23z : b17z ≠ arr_23z := Nat.ne_of_lt (Nat.lt_of_lt_of_le (r19z_0.keep K21zq).lt r23z_2)
      have ne_r_21z_arr_23z : r_21z ≠ arr_23z := Nat.ne_of_lt (Nat.lt_of_lt_of_le r21z_0.lt r23z_2)
      have r23z_6 : Fld Z T23z.heap b17z own_s7 "modCount" "I" (.int (1 : Int32)) := r23z_6
      show own_G p e below (T23z.setTop (mkF m 66 #[.val (.int p0), .val (.int p1), .val (.int (0 : Int32)), .val (.int (2 : Int32)), .val (.ref aS), .val (.ref b17z), .unset] [(.int (1 : Int32))])) _
      refine own_go (fun t k => XS.pop X23z.here hx rfl (hb hby at_66) rfl rfl k) ?_
      refine own_go (fun t k => XS.iloadN X23z.here hx rfl (hb hby at_67) rfl k) ?_
      refine own_go (fun t k => XS.iconst X23z.here hx rfl (hb hby at_68) k) ?_
      refine own_go (fun t k => XS.icmpNo X23z.here hx rfl (hb hby at_69) rfl (tlt (by decide : (1 : Int32) < (2 : Int32))).2.2.2 k) ?_
      show own_G p e below (T23z.setTop (mkF m 72 #[.val (.int p0), .val (.int p1), .val (.int (0 : Int32)), .val (.int (2 : Int32)), .val (.ref aS), .val (.ref b17z), .unset] [])) _
      refine own_go (fun t k => XS.aload X23z.here hx rfl (hb hby at_72) rfl rfl k) ?_
      refine own_go (fun t k => XS.aload X23z.here hx rfl (hb hby at_74) rfl rfl k) ?_
      refine own_go (fun t k => XS.iconst X23z.here hx rfl (hb hby at_76) k) ?_
      obtain ⟨_, _, ⟨T25z, L25z, k25z, n25z⟩, -, X25z, ⟨Lc25z, hQ25z, l25z, y25z, z25z⟩, st25z⟩ := Jvm.LawKit.callS X23z hx (y := own_m36) hown (own_mw hZ hw 30 rfl) (own_mw hZ hw 31 rfl) (own_mw hZ hw 32 rfl) (own_mw hZ hw 33 rfl) (by decide) (backOf (W := 1) (own_mke1 l Z a0 hw [] dE kd cs aH aV aS eL eA ke T23z.heap O24z S_D BD S_CS hcs S_H S_V S_EL F_EL B_EL E_EL n_aSaH n_aSaV) hZ (own_hw hw 33 rfl) (own_hw hw 32 rfl) (by decide) (by decide)) (g := (mkF m 77 #[.val (.int p0), .val (.int p1), .val (.int (0 : Int32)), .val (.int (2 : Int32)), .val (.ref aS), .val (.ref b17z), .unset] [(.int (1 : Int32)), (.ref aS), (.ref b17z)])) rfl (by rw [hml]; rfl) (argsL := [(.ref aS), (.int (1 : Int32))]) (rest := [(.ref b17z)]) (lenOf pd_4053637851 rfl) rfl (by show 2 * 0 + _ ≤ _; exact Nat.le_of_eq rfl) (hb hby at_77) (fun _ _ => ⟨rfl, rfl, (by decide : 6 + 4 ≤ _), (by decide : 26 + 13 ≤ _)⟩)
      dsimp only [Pt.U, Pt.locs, Pt.cells, Pt.slots] at X25z l25z y25z z25z st25z hQ25z
      subst l25z y25z z25z
      obtain ⟨r_25z, rfl, NQ25z, K25zq, r25z_0, r25z_1, r25z_2, r25z_3⟩ := hQ25z
      refine own_go st25z ?_
      have N25z := Fr.app N23z NQ25z
      have O26z := own_ext_keep O24z K25zq all0
      have K26z := K24z.trans K25zq all0
      have lz_r_25z : h0.size ≤ r_25z := Nat.le_trans K24z.1 r25z_2
      have ne_b17z_r_25z : b17z ≠ r_25z := Nat.ne_of_lt (Nat.lt_of_lt_of_le r23z_0.lt r25z_2)
      have ne_r_21z_r_25z : r_21z ≠ r_25z := Nat.ne_of_lt (Nat.lt_of_lt_of_le (r21z_0.keep K23zq).lt r25z_2)
      have ne_arr_23z_r_25z : arr_23z ≠ r_25z := Nat.ne_of_lt (Nat.lt_of_lt_of_le r23z_4.lt r25z_2)
      show own_G p e below (T25z.setTop (mkF m 80 #[.val (.int p0), .val (.int p1), .val (.int (0 : Int32)), .val (.int (2 : Int32)), .val (.ref aS), .val (.ref b17z), .unset] [(.ref r_25z), (.ref b17z)])) _
      obtain ⟨cq27z, kq27z, qa27z, qb27z, qc27z⟩ := isOf hZ (rfl : T25z.heap = _) (r23z_0.keep K25zq)
      obtain ⟨_, _, ⟨T27z, L27z, k27z, n27z⟩, -, X27z, ⟨Lc27z, hQ27z, l27z, y27z, z27z⟩, st27z⟩ := X25z.virtualBack hx (y := own_m7) (z := own_m7) hown (own_mw hZ hw 126 rfl) (own_mw hZ hw 127 rfl) (notFace_of_selects (args := #[]) (own_mw hZ hw 129 rfl)) (own_mw hZ hw 129 rfl) (own_mw hZ hw 128 rfl) (by decide) (backOf (W := 0) (own_add1F l Z a0 hw [] b17z r_25z arr_23z kk_23z ([(.ref r_21z), .null, .null, .null, .null, .null, .null, .null, .null, .null]) (1 : Int32) (1 : Int32) (10 : Int32) 1 T25z.heap O26z (r23z_0.keep K25zq) fr_b17z r23z_1 r25z_0 (r23z_5.keep K25zq (by simp)) r23z_3 (by decide) (by show (10 : Int32).toInt = ((10 : Nat) : Int); decide) (by show 1 < 10; decide) ne_b17z_arr_23z (r23z_6.keep K25zq (by simp)) (r23z_7.keep K25zq (by simp)) (r23z_8.keep K25zq (by simp))) hZ (own_hw hw 130 rfl) (own_hw hw 6 rfl) (by decide) (by decide)) qa27z qc27z (g := (mkF m 80 #[.val (.int p0), .val (.int p1), .val (.int (0 : Int32)), .val (.int (2 : Int32)), .val (.ref aS), .val (.ref b17z), .unset] [(.ref r_25z), (.ref b17z)])) rfl (by rw [hml]; rfl) (Steps.refl _) (argsL := [(.ref r_25z)]) (rest := []) (lenOf pd_396412080 rfl) rfl (by show 2 * 0 + _ ≤ _; exact Nat.le_of_eq rfl) (hb hby at_80) (fun _ _ => ⟨rfl, rfl, (by decide : 10 + 0 ≤ _), (by decide : 39 + 0 ≤ _)⟩)
      dsimp only [Pt.U, Pt.locs, Pt.cells, Pt.slots] at X27z l27z y27z z27z st27z hQ27z
      subst l27z y27z z27z
      obtain ⟨rfl, NQ27z, K27zq, r27z_0, r27z_1, r27z_2, r27z_3, r27z_4⟩ := hQ27z
      refine own_tr st27z ?_
      have N27z := Fr.app N25z NQ27z
      have O28z := own_ext_keep O26z K27zq (allS fr_b17z (allS r23z_1 all0))
      have K28z := K26z.trans K27zq (allS (Or.inr lz_b17z) (allS (Or.inr lz_arr_23z) all0))
      have r27z_1 : own_A Z T27z.heap arr_23z kk_23z (.object own_s2) [(.ref r_21z), (.ref r_25z), .null, .null, .null, .null, .null, .null, .null, .null] := r27z_1
      have r27z_2 : Fld Z T27z.heap b17z own_s7 "modCount" "I" (.int (2 : Int32)) := r27z_2
      have r27z_4 : Fld Z T27z.heap b17z own_s1 "size" "I" (.int (2 : Int32)) := r27z_4
      show own_G p e below (T27z.setTop (mkF m 83 #[.val (.int p0), .val (.int p1), .val (.int (0 : Int32)), .val (.int (2 : Int32)), .val (.ref aS), .val (.ref b17z), .unset] [(.int (1 : Int32))])) _
      refine own_go (fun t k => XS.pop X27z.here hx rfl (hb hby at_83) rfl rfl k) ?_
      refine own_go (fun t k => XS.iloadN X27z.here hx rfl (hb hby at_84) rfl k) ?_
      refine own_go (fun t k => XS.iconst X27z.here hx rfl (hb hby at_85) k) ?_
      refine own_go (fun t k => XS.icmpYes X27z.here hx rfl (pc0 := 86) (pc' := 101) rfl (hb hby at_86) rfl (flt (by decide : ¬ ((2 : Int32) < (2 : Int32)))).2.2.2 (by decide) (by decide) k) ?_
      show own_G p e below (T27z.setTop (mkF m 101 #[.val (.int p0), .val (.int p1), .val (.int (0 : Int32)), .val (.int (2 : Int32)), .val (.ref aS), .val (.ref b17z), .unset] [])) _
      obtain ⟨T29z, h29z, X29z, e29z, E29z, A29z, D29z, -, st29z⟩ := newO X27z hx hZ hown (own_hw hw 155 rfl) (own_hw hw 156 rfl) (own_hw hw 157 rfl) rfl (g := (mkF m 101 #[.val (.int p0), .val (.int p1), .val (.int (0 : Int32)), .val (.int (2 : Int32)), .val (.ref aS), .val (.ref b17z), .unset] [])) rfl (hb hby at_101) (by decide) (by decide)
      obtain ⟨b29z, g29z⟩ : ∃ z, z = T27z.heap.size := ⟨_, rfl⟩
      rw [← g29z] at A29z D29z st29z
      have fr_b29z : Z.heap.size ≤ b29z := g29z ▸ O28z.1
      have lz_b29z : h0.size ≤ b29z := g29z ▸ K28z.1
      have ne_b17z_b29z : b17z ≠ b29z := Nat.ne_of_lt (g29z ▸ r27z_0.lt)
      have ne_r_21z_b29z : r_21z ≠ b29z := Nat.ne_of_lt (g29z ▸ (((r21z_0.keep K23zq).keep K25zq).keep K27zq).lt)
      have ne_arr_23z_b29z : arr_23z ≠ b29z := Nat.ne_of_lt (g29z ▸ ((r23z_4.keep K25zq).keep K27zq).lt)
      have ne_r_25z_b29z : r_25z ≠ b29z := Nat.ne_of_lt (g29z ▸ (r25z_0.keep K27zq).lt)
      have O30z := own_ext_trans O28z E29z
      have K30z := K28z.ext E29z
      have F29z_fragments : Fld Z h29z b29z own_s8 "fragments" own_s16 .null := D29z (Or.inr (own_hw hw 227 rfl)) (ty := (.object own_s15)) (by decide)
      refine own_go st29z ?_
      refine own_go (fun t k => XS.dup X29z.here hx rfl (hb hby at_104) rfl rfl k) ?_
      refine own_go (fun t k => XS.aload X29z.here hx rfl (hb hby at_105) rfl rfl k) ?_
      obtain ⟨_, _, ⟨T31z, L31z, k31z, n31z⟩, -, X31z, ⟨Lc31z, hQ31z, l31z, y31z, z31z⟩, st31z⟩ := X29z.specialBack hx (y := own_m37) rfl hown (own_mw hZ hw 158 rfl) (own_mw hZ hw 159 rfl) (own_mw hZ hw 160 rfl) (by decide) (backOf (W := 1) (own_di2 l Z a0 hw [] b29z b17z arr_23z kk_23z mi eM r_21z r_25z h29z O30z MI S_EM A29z fr_b29z F29z_fragments (r27z_0.ext E29z) (r27z_1.ext E29z) (((r23z_4.keep K25zq).keep K27zq).ext E29z) (r27z_3.ext E29z) (r27z_4.ext E29z) ((((r21z_0.keep K23zq).keep K25zq).keep K27zq).ext E29z) ((r25z_0.keep K27zq).ext E29z)) hZ (own_hw hw 160 rfl) (own_hw hw 157 rfl) (by decide) (by decide)) (g := (mkF m 107 #[.val (.int p0), .val (.int p1), .val (.int (0 : Int32)), .val (.int (2 : Int32)), .val (.ref aS), .val (.ref b17z), .unset] [(.ref b17z), (.ref b29z), (.ref b29z)])) rfl (by rw [hml]; rfl) (Steps.refl _) (a := b29z) (argsL := [(.ref b17z)]) (rest := [(.ref b29z)]) (lenOf pd_219446285 rfl) rfl (by show 2 * 0 + _ ≤ _; exact Nat.le_of_eq rfl) (hb hby at_107) (fun _ _ => ⟨rfl, e29z, (by decide : 11 + 2 ≤ _), (by decide : 40 + 4 ≤ _)⟩)
      dsimp only [Pt.U, Pt.locs, Pt.cells, Pt.slots] at X31z l31z y31z z31z st31z hQ31z
      subst l31z y31z z31z
      obtain ⟨r_31z, rfl, NQ31z, K31zq, r31z_0, r31z_1, r31z_2, r31z_3⟩ := hQ31z
      refine own_tr st31z ?_
      have N31z := Fr.app N27z NQ31z
      have O32z := own_ext_keep O30z K31zq (allS fr_b29z all0)
      have K32z := K30z.trans K31zq (allS (Or.inr lz_b29z) all0)
      show own_G p e below (T31z.setTop (mkF m 110 #[.val (.int p0), .val (.int p1), .val (.int (0 : Int32)), .val (.int (2 : Int32)), .val (.ref aS), .val (.ref b17z), .unset] [(.ref b29z)])) _
      refine own_go (fun t k => XS.astore X31z.here hx rfl (hb hby at_110) rfl rfl (l' := #[.val (.int p0), .val (.int p1), .val (.int (0 : Int32)), .val (.int (2 : Int32)), .val (.ref aS), .val (.ref b17z), .val (.ref b29z)]) rfl k) ?_
      refine own_go (fun t k => XS.aload X31z.here hx rfl (hb hby at_112) rfl rfl k) ?_
      have f33z := (((((r21z_0.keep K23zq).keep K25zq).keep K27zq).ext E29z).keep K31zq)
      have f34z := (((((r21z_3.keep K23zq (by simp only [List.mem_cons, List.not_mem_nil, or_false, not_or]; exact (Ne.symm ne_b17z_r_21z))).keep K25zq (by simp)).keep K27zq (by simp only [List.mem_cons, List.not_mem_nil, or_false, not_or]; exact ⟨(Ne.symm ne_b17z_r_21z), ne_r_21z_arr_23z⟩)).ext E29z).keep K31zq (by simp only [List.mem_cons, List.not_mem_nil, or_false, not_or]; exact ne_r_21z_b29z))
      obtain ⟨cq35z, kq35z, qa35z, qb35z, qc35z⟩ := isOf hZ (rfl : T31z.heap = _) r31z_0
      obtain ⟨_, _, ⟨T35z, L35z, k35z, n35z⟩, -, X35z, ⟨Lc35z, hQ35z, l35z, y35z, z35z⟩, st35z⟩ := X31z.virtualBack hx (y := own_m41) (z := own_m41) hown (own_mw hZ hw 228 rfl) (own_mw hZ hw 229 rfl) (notFace_of_selects (args := #[]) (own_mw hZ hw 231 rfl)) (own_mw hZ hw 231 rfl) (own_mw hZ hw 230 rfl) (by decide) (backOf (W := 0) (own_dk0 l Z a0 hw [] b29z r_31z r_21z aS T31z.heap O32z r31z_1 r31z_2 r31z_3 f33z f34z) hZ (own_hw hw 232 rfl) (own_hw hw 157 rfl) (by decide) (by decide)) qa35z qc35z (g := (mkF m 114 #[.val (.int p0), .val (.int p1), .val (.int (0 : Int32)), .val (.int (2 : Int32)), .val (.ref aS), .val (.ref b17z), .val (.ref b29z)] [(.ref b29z)])) rfl (by rw [hml]; rfl) (Steps.refl _) (argsL := []) (rest := []) (lenOf pd_3046010860 rfl) rfl (by show 2 * 0 + _ ≤ _; exact Nat.le_of_eq rfl) (hb hby at_114) (fun _ _ => ⟨rfl, rfl, (by decide : 13 + 0 ≤ _), (by decide : 44 + 0 ≤ _)⟩)
      dsimp only [Pt.U, Pt.locs, Pt.cells, Pt.slots] at X35z l35z y35z z35z st35z hQ35z
      subst l35z y35z z35z
      obtain ⟨rfl, NQ35z, K35zq⟩ := hQ35z
      refine own_tr st35z ?_
      have N35z := Fr.app N31z NQ35z
      show own_G p e below (T35z.setTop (mkF m 117 #[.val (.int p0), .val (.int p1), .val (.int (0 : Int32)), .val (.int (2 : Int32)), .val (.ref aS), .val (.ref b17z), .val (.ref b29z)] [(.ref aS)])) _
      refine own_go (fun t k => XS.aload X35z.here hx rfl (hb hby at_117) rfl rfl k) ?_
      refine own_go (fun t k => Jvm.RoadKit.acmp (g := (mkF m 119 #[.val (.int p0), .val (.int p1), .val (.int (0 : Int32)), .val (.int (2 : Int32)), .val (.ref aS), .val (.ref b17z), .val (.ref b29z)] [(.ref aS), (.ref aS)])) X35z hx rfl rfl rfl (pc0 := 119) (pc' := 122) (same := true) rfl (hb hby at_119) rfl (decide_eq_true (congrArg Value.ref rfl)) (by decide) (by decide) k) ?_
      show own_G p e below (T35z.setTop (mkF m 122 #[.val (.int p0), .val (.int p1), .val (.int (0 : Int32)), .val (.int (2 : Int32)), .val (.ref aS), .val (.ref b17z), .val (.ref b29z)] [])) _
      refine own_go (fun t k => XS.iconst X35z.here hx rfl (hb hby at_122) k) ?_
      refine own_go (fun t k => XS.goto X35z.here hx rfl (pc0 := 123) (pc' := 127) rfl (hb hby at_123) (by decide) (by decide) k) ?_
      show own_G p e below (T35z.setTop (mkF m 127 #[.val (.int p0), .val (.int p1), .val (.int (0 : Int32)), .val (.int (2 : Int32)), .val (.ref aS), .val (.ref b17z), .val (.ref b29z)] [(.int (1 : Int32))])) _
      exact own_ret X35z hx Bd.returns rfl (Or.inl ⟨rfl, Or.inr (Or.inl rfl), _, rfl⟩) (hb hby at_127) hlk (Nat.le_of_ble_eq_true rfl) (Nat.le_of_ble_eq_true rfl) (by show Q_own_law Z p0 p1 aS aH aV aR dE kd cs mi eM eL eA ke h0 _ T35z.heap _; rw [K35zq]; exact ⟨rfl, N35z, K32z⟩)
    · rw [hknn]
      show own_G p e below (s₁.setTop (mkF m 14 #[.val (.int p0), .val (.int p1), .val (.int (0 : Int32)), .unset, .unset, .unset, .unset] [(.int (2 : Int32)), (.int (1 : Int32))])) _
      refine own_go (fun t k => XS.iadd X0.here hx rfl (hb hby at_14) rfl k) ?_
      refine own_go (fun t k => XS.istoreN X0.here hx rfl (hb hby at_15) rfl (l' := #[.val (.int p0), .val (.int p1), .val (.int (0 : Int32)), .val (.int (3 : Int32)), .unset, .unset, .unset]) rfl k) ?_
      refine own_go (fun t k => XS.iloadN X0.here hx rfl (hb hby at_16) rfl k) ?_
      refine own_go (fun t k => XS.ifNo X0.here hx rfl (hb hby at_17) rfl ((if0 _ _).trans (teq (by decide : (0 : Int32) = (0 : Int32))).2) k) ?_
      show own_G p e below (s₁.setTop (mkF m 20 #[.val (.int p0), .val (.int p1), .val (.int (0 : Int32)), .val (.int (3 : Int32)), .unset, .unset, .unset] [])) _
      obtain ⟨T36z, X36z, e36z, st36z⟩ := getS2 X0 hx hZ hown (host := "") (Or.inl (own_hw hw 1 rfl)) Via.refl e0 (S_S.ext O0) (g := (mkF m 20 #[.val (.int p0), .val (.int p1), .val (.int (0 : Int32)), .val (.int (3 : Int32)), .unset, .unset, .unset] [])) rfl (hb hby at_20)
      refine own_go st36z ?_
      refine own_go (fun t k => XS.astore X36z.here hx rfl (hb hby at_23) rfl rfl (l' := #[.val (.int p0), .val (.int p1), .val (.int (0 : Int32)), .val (.int (3 : Int32)), .val (.ref aS), .unset, .unset]) rfl k) ?_
      refine own_go (fun t k => XS.goto X36z.here hx rfl (pc0 := 25) (pc' := 46) rfl (hb hby at_25) (by decide) (by decide) k) ?_
      show own_G p e below (T36z.setTop (mkF m 46 #[.val (.int p0), .val (.int p1), .val (.int (0 : Int32)), .val (.int (3 : Int32)), .val (.ref aS), .unset, .unset] [])) _
      obtain ⟨T37z, h37z, X37z, e37z, E37z, A37z, D37z, -, st37z⟩ := newO X36z hx hZ hown (own_hw hw 4 rfl) (own_hw hw 5 rfl) (own_hw hw 6 rfl) e36z (g := (mkF m 46 #[.val (.int p0), .val (.int p1), .val (.int (0 : Int32)), .val (.int (3 : Int32)), .val (.ref aS), .unset, .unset] [])) rfl (hb hby at_46) (by decide) (by decide)
      obtain ⟨b37z, g37z⟩ : ∃ z, z = h0.size := ⟨_, rfl⟩
      rw [← g37z] at A37z D37z st37z
      have fr_b37z : Z.heap.size ≤ b37z := g37z ▸ O0.1
      have lz_b37z : h0.size ≤ b37z := g37z ▸ K0.1
      have O38z := own_ext_trans O0 E37z
      have K38z := K0.ext E37z
      have F37z_modCount : Fld Z h37z b37z own_s7 "modCount" "I" (.int (0 : Int32)) := D37z (Or.inl (own_hw hw 26 rfl)) (ty := .int) (by decide)
      have F37z_elementData : Fld Z h37z b37z own_s1 "elementData" own_s3 .null := D37z (Or.inl (own_hw hw 29 rfl)) (ty := (.array (.object own_s2))) (by decide)
      have F37z_size : Fld Z h37z b37z own_s1 "size" "I" (.int (0 : Int32)) := D37z (Or.inl (own_hw hw 96 rfl)) (ty := .int) (by decide)
      refine own_go st37z ?_
      refine own_go (fun t k => XS.dup X37z.here hx rfl (hb hby at_49) rfl rfl k) ?_
      obtain ⟨_, _, ⟨T39z, L39z, k39z, n39z⟩, -, X39z, ⟨Lc39z, hQ39z, l39z, y39z, z39z⟩, st39z⟩ := X37z.specialBack hx (y := own_m2) rfl hown (own_mw hZ hw 7 rfl) (own_mw hZ hw 8 rfl) (own_mw hZ hw 9 rfl) (by decide) (backOf (W := 1) (own_ali l Z a0 hw [] b37z dE h37z O38z S_D A37z fr_b37z F37z_modCount F37z_elementData F37z_size) hZ (own_hw hw 9 rfl) (own_hw hw 6 rfl) (by decide) (by decide)) (g := (mkF m 50 #[.val (.int p0), .val (.int p1), .val (.int (0 : Int32)), .val (.int (3 : Int32)), .val (.ref aS), .unset, .unset] [(.ref b37z), (.ref b37z)])) rfl (by rw [hml]; rfl) (Steps.refl _) (a := b37z) (argsL := []) (rest := [(.ref b37z)]) (lenOf pd_193421996 rfl) rfl (by show 2 * 0 + _ ≤ _; exact Nat.le_of_eq rfl) (hb hby at_50) (fun _ _ => ⟨rfl, e37z, (by decide : 1 + 0 ≤ _), (by decide : 3 + 0 ≤ _)⟩)
      dsimp only [Pt.U, Pt.locs, Pt.cells, Pt.slots] at X39z l39z y39z z39z st39z hQ39z
      subst l39z y39z z39z
      obtain ⟨rfl, NQ39z, K39zq, r39z_0, r39z_1, r39z_2, r39z_3⟩ := hQ39z
      refine own_tr st39z ?_
      have N39z := Fr.app N0 NQ39z
      have O40z := own_ext_keep O38z K39zq (allS fr_b37z all0)
      have K40z := K38z.trans K39zq (allS (Or.inr lz_b37z) all0)
      show own_G p e below (T39z.setTop (mkF m 53 #[.val (.int p0), .val (.int p1), .val (.int (0 : Int32)), .val (.int (3 : Int32)), .val (.ref aS), .unset, .unset] [(.ref b37z)])) _
      refine own_go (fun t k => XS.astore X39z.here hx rfl (hb hby at_53) rfl rfl (l' := #[.val (.int p0), .val (.int p1), .val (.int (0 : Int32)), .val (.int (3 : Int32)), .val (.ref aS), .val (.ref b37z), .unset]) rfl k) ?_
      refine own_go (fun t k => XS.aload X39z.here hx rfl (hb hby at_55) rfl rfl k) ?_
      refine own_go (fun t k => XS.aload X39z.here hx rfl (hb hby at_57) rfl rfl k) ?_
      refine own_go (fun t k => XS.iconst X39z.here hx rfl (hb hby at_59) k) ?_
      obtain ⟨_, _, ⟨T41z, L41z, k41z, n41z⟩, -, X41z, ⟨Lc41z, hQ41z, l41z, y41z, z41z⟩, st41z⟩ := Jvm.LawKit.callS X39z hx (y := own_m36) hown (own_mw hZ hw 30 rfl) (own_mw hZ hw 31 rfl) (own_mw hZ hw 32 rfl) (own_mw hZ hw 33 rfl) (by decide) (backOf (W := 1) (own_mke0 l Z a0 hw [] dE kd cs aH aV aS eL eA ke T39z.heap O40z S_D BD S_CS hcs S_H S_V S_EL F_EL B_EL E_EL n_aSaH n_aSaV) hZ (own_hw hw 33 rfl) (own_hw hw 32 rfl) (by decide) (by decide)) (g := (mkF m 60 #[.val (.int p0), .val (.int p1), .val (.int (0 : Int32)), .val (.int (3 : Int32)), .val (.ref aS), .val (.ref b37z), .unset] [(.int (0 : Int32)), (.ref aS), (.ref b37z)])) rfl (by rw [hml]; rfl) (argsL := [(.ref aS), (.int (0 : Int32))]) (rest := [(.ref b37z)]) (lenOf pd_4053637851 rfl) rfl (by show 2 * 0 + _ ≤ _; exact Nat.le_of_eq rfl) (hb hby at_60) (fun _ _ => ⟨rfl, rfl, (by decide : 1 + 4 ≤ _), (by decide : 3 + 13 ≤ _)⟩)
      dsimp only [Pt.U, Pt.locs, Pt.cells, Pt.slots] at X41z l41z y41z z41z st41z hQ41z
      subst l41z y41z z41z
      obtain ⟨r_41z, rfl, NQ41z, K41zq, r41z_0, r41z_1, r41z_2, r41z_3⟩ := hQ41z
      refine own_go st41z ?_
      have N41z := Fr.app N39z NQ41z
      have O42z := own_ext_keep O40z K41zq all0
      have K42z := K40z.trans K41zq all0
      have lz_r_41z : h0.size ≤ r_41z := Nat.le_trans K40z.1 r41z_2
      have ne_b37z_r_41z : b37z ≠ r_41z := Nat.ne_of_lt (Nat.lt_of_lt_of_le r39z_0.lt r41z_2)
      show own_G p e below (T41z.setTop (mkF m 63 #[.val (.int p0), .val (.int p1), .val (.int (0 : Int32)), .val (.int (3 : Int32)), .val (.ref aS), .val (.ref b37z), .unset] [(.ref r_41z), (.ref b37z)])) _
      obtain ⟨cq43z, kq43z, qa43z, qb43z, qc43z⟩ := isOf hZ (rfl : T41z.heap = _) (r39z_0.keep K41zq)
      obtain ⟨_, _, ⟨T43z, L43z, k43z, n43z⟩, -, X43z, ⟨Lc43z, hQ43z, l43z, y43z, z43z⟩, st43z⟩ := X41z.virtualBack hx (y := own_m7) (z := own_m7) hown (own_mw hZ hw 126 rfl) (own_mw hZ hw 127 rfl) (notFace_of_selects (args := #[]) (own_mw hZ hw 129 rfl)) (own_mw hZ hw 129 rfl) (own_mw hZ hw 128 rfl) (by decide) (backOf (W := 0) (own_add10F l Z a0 hw [] b37z (0 : Int32) dE kd r_41z T41z.heap O42z S_D BD (r39z_0.keep K41zq) fr_b37z (r39z_1.keep K41zq (by simp)) (r39z_2.keep K41zq (by simp)) (r39z_3.keep K41zq (by simp)) r41z_0) hZ (own_hw hw 130 rfl) (own_hw hw 6 rfl) (by decide) (by decide)) qa43z qc43z (g := (mkF m 63 #[.val (.int p0), .val (.int p1), .val (.int (0 : Int32)), .val (.int (3 : Int32)), .val (.ref aS), .val (.ref b37z), .unset] [(.ref r_41z), (.ref b37z)])) rfl (by rw [hml]; rfl) (Steps.refl _) (argsL := [(.ref r_41z)]) (rest := []) (lenOf pd_396412080 rfl) rfl (by show 2 * 0 + _ ≤ _; exact Nat.le_of_eq rfl) (hb hby at_63) (fun _ _ => ⟨rfl, rfl, (by decide : 5 + 1 ≤ _), (by decide : 16 + 10 ≤ _)⟩)
      dsimp only [Pt.U, Pt.locs, Pt.cells, Pt.slots] at X43z l43z y43z z43z st43z hQ43z
      subst l43z y43z z43z
      obtain ⟨arr_43z, kk_43z, rfl, NQ43z, K43zq, r43z_0, r43z_1, r43z_2, r43z_3, r43z_4, r43z_5, r43z_6, r43z_7, r43z_8⟩ := hQ43z
      refine own_tr st43z ?_
      have N43z := Fr.app N41z NQ43z
      have O44z := own_ext_keep O42z K43zq (allS fr_b37z all0)
      have K44z := K42z.trans K43zq (allS (Or.inr lz_b37z) all0)
      have lz_arr_43z : h0.size ≤ arr_43z := Nat.le_trans K42z.1 r43z_2
      have ne_b37z_arr_43z : b37z ≠ arr_43z := Nat.ne_of_lt (Nat.lt_of_lt_of_le (r39z_0.keep K41zq).lt r43z_2)
      have ne_r_41z_arr_43z : r_41z ≠ arr_43z := Nat.ne_of_lt (Nat.lt_of_lt_of_le r41z_0.lt r43z_2)
      have r43z_6 : Fld Z T43z.heap b37z own_s7 "modCount" "I" (.int (1 : Int32)) := r43z_6
      show own_G p e below (T43z.setTop (mkF m 66 #[.val (.int p0), .val (.int p1), .val (.int (0 : Int32)), .val (.int (3 : Int32)), .val (.ref aS), .val (.ref b37z), .unset] [(.int (1 : Int32))])) _
      refine own_go (fun t k => XS.pop X43z.here hx rfl (hb hby at_66) rfl rfl k) ?_
      refine own_go (fun t k => XS.iloadN X43z.here hx rfl (hb hby at_67) rfl k) ?_
      refine own_go (fun t k => XS.iconst X43z.here hx rfl (hb hby at_68) k) ?_
      refine own_go (fun t k => XS.icmpNo X43z.here hx rfl (hb hby at_69) rfl (tlt (by decide : (1 : Int32) < (3 : Int32))).2.2.2 k) ?_
      show own_G p e below (T43z.setTop (mkF m 72 #[.val (.int p0), .val (.int p1), .val (.int (0 : Int32)), .val (.int (3 : Int32)), .val (.ref aS), .val (.ref b37z), .unset] [])) _
      refine own_go (fun t k => XS.aload X43z.here hx rfl (hb hby at_72) rfl rfl k) ?_
      refine own_go (fun t k => XS.aload X43z.here hx rfl (hb hby at_74) rfl rfl k) ?_
      refine own_go (fun t k => XS.iconst X43z.here hx rfl (hb hby at_76) k) ?_
      obtain ⟨_, _, ⟨T45z, L45z, k45z, n45z⟩, -, X45z, ⟨Lc45z, hQ45z, l45z, y45z, z45z⟩, st45z⟩ := Jvm.LawKit.callS X43z hx (y := own_m36) hown (own_mw hZ hw 30 rfl) (own_mw hZ hw 31 rfl) (own_mw hZ hw 32 rfl) (own_mw hZ hw 33 rfl) (by decide) (backOf (W := 1) (own_mke1 l Z a0 hw [] dE kd cs aH aV aS eL eA ke T43z.heap O44z S_D BD S_CS hcs S_H S_V S_EL F_EL B_EL E_EL n_aSaH n_aSaV) hZ (own_hw hw 33 rfl) (own_hw hw 32 rfl) (by decide) (by decide)) (g := (mkF m 77 #[.val (.int p0), .val (.int p1), .val (.int (0 : Int32)), .val (.int (3 : Int32)), .val (.ref aS), .val (.ref b37z), .unset] [(.int (1 : Int32)), (.ref aS), (.ref b37z)])) rfl (by rw [hml]; rfl) (argsL := [(.ref aS), (.int (1 : Int32))]) (rest := [(.ref b37z)]) (lenOf pd_4053637851 rfl) rfl (by show 2 * 0 + _ ≤ _; exact Nat.le_of_eq rfl) (hb hby at_77) (fun _ _ => ⟨rfl, rfl, (by decide : 6 + 4 ≤ _), (by decide : 26 + 13 ≤ _)⟩)
      dsimp only [Pt.U, Pt.locs, Pt.cells, Pt.slots] at X45z l45z y45z z45z st45z hQ45z
      subst l45z y45z z45z
      obtain ⟨r_45z, rfl, NQ45z, K45zq, r45z_0, r45z_1, r45z_2, r45z_3⟩ := hQ45z
      refine own_go st45z ?_
      have N45z := Fr.app N43z NQ45z
      have O46z := own_ext_keep O44z K45zq all0
      have K46z := K44z.trans K45zq all0
      have lz_r_45z : h0.size ≤ r_45z := Nat.le_trans K44z.1 r45z_2
      have ne_b37z_r_45z : b37z ≠ r_45z := Nat.ne_of_lt (Nat.lt_of_lt_of_le r43z_0.lt r45z_2)
      have ne_r_41z_r_45z : r_41z ≠ r_45z := Nat.ne_of_lt (Nat.lt_of_lt_of_le (r41z_0.keep K43zq).lt r45z_2)
      have ne_arr_43z_r_45z : arr_43z ≠ r_45z := Nat.ne_of_lt (Nat.lt_of_lt_of_le r43z_4.lt r45z_2)
      show own_G p e below (T45z.setTop (mkF m 80 #[.val (.int p0), .val (.int p1), .val (.int (0 : Int32)), .val (.int (3 : Int32)), .val (.ref aS), .val (.ref b37z), .unset] [(.ref r_45z), (.ref b37z)])) _
      obtain ⟨cq47z, kq47z, qa47z, qb47z, qc47z⟩ := isOf hZ (rfl : T45z.heap = _) (r43z_0.keep K45zq)
      obtain ⟨_, _, ⟨T47z, L47z, k47z, n47z⟩, -, X47z, ⟨Lc47z, hQ47z, l47z, y47z, z47z⟩, st47z⟩ := X45z.virtualBack hx (y := own_m7) (z := own_m7) hown (own_mw hZ hw 126 rfl) (own_mw hZ hw 127 rfl) (notFace_of_selects (args := #[]) (own_mw hZ hw 129 rfl)) (own_mw hZ hw 129 rfl) (own_mw hZ hw 128 rfl) (by decide) (backOf (W := 0) (own_add1F l Z a0 hw [] b37z r_45z arr_43z kk_43z ([(.ref r_41z), .null, .null, .null, .null, .null, .null, .null, .null, .null]) (1 : Int32) (1 : Int32) (10 : Int32) 1 T45z.heap O46z (r43z_0.keep K45zq) fr_b37z r43z_1 r45z_0 (r43z_5.keep K45zq (by simp)) r43z_3 (by decide) (by show (10 : Int32).toInt = ((10 : Nat) : Int); decide) (by show 1 < 10; decide) ne_b37z_arr_43z (r43z_6.keep K45zq (by simp)) (r43z_7.keep K45zq (by simp)) (r43z_8.keep K45zq (by simp))) hZ (own_hw hw 130 rfl) (own_hw hw 6 rfl) (by decide) (by decide)) qa47z qc47z (g := (mkF m 80 #[.val (.int p0), .val (.int p1), .val (.int (0 : Int32)), .val (.int (3 : Int32)), .val (.ref aS), .val (.ref b37z), .unset] [(.ref r_45z), (.ref b37z)])) rfl (by rw [hml]; rfl) (Steps.refl _) (argsL := [(.ref r_45z)]) (rest := []) (lenOf pd_396412080 rfl) rfl (by show 2 * 0 + _ ≤ _; exact Nat.le_of_eq rfl) (hb hby at_80) (fun _ _ => ⟨rfl, rfl, (by decide : 10 + 0 ≤ _), (by decide : 39 + 0 ≤ _)⟩)
      dsimp only [Pt.U, Pt.locs, Pt.cells, Pt.slots] at X47z l47z y47z z47z st47z hQ47z
      subst l47z y47z z47z
      obtain ⟨rfl, NQ47z, K47zq, r47z_0, r47z_1, r47z_2, r47z_3, r47z_4⟩ := hQ47z
      refine own_tr st47z ?_
      have N47z := Fr.app N45z NQ47z
      have O48z := own_ext_keep O46z K47zq (allS fr_b37z (allS r43z_1 all0))
      have K48z := K46z.trans K47zq (allS (Or.inr lz_b37z) (allS (Or.inr lz_arr_43z) all0))
      have r47z_1 : own_A Z T47z.heap arr_43z kk_43z (.object own_s2) [(.ref r_41z), (.ref r_45z), .null, .null, .null, .null, .null, .null, .null, .null] := r47z_1
      have r47z_2 : Fld Z T47z.heap b37z own_s7 "modCount" "I" (.int (2 : Int32)) := r47z_2
      have r47z_4 : Fld Z T47z.heap b37z own_s1 "size" "I" (.int (2 : Int32)) := r47z_4
      show own_G p e below (T47z.setTop (mkF m 83 #[.val (.int p0), .val (.int p1), .val (.int (0 : Int32)), .val (.int (3 : Int32)), .val (.ref aS), .val (.ref b37z), .unset] [(.int (1 : Int32))])) _
      refine own_go (fun t k => XS.pop X47z.here hx rfl (hb hby at_83) rfl rfl k) ?_
      refine own_go (fun t k => XS.iloadN X47z.here hx rfl (hb hby at_84) rfl k) ?_
      refine own_go (fun t k => XS.iconst X47z.here hx rfl (hb hby at_85) k) ?_
      refine own_go (fun t k => XS.icmpNo X47z.here hx rfl (hb hby at_86) rfl (tlt (by decide : (2 : Int32) < (3 : Int32))).2.2.2 k) ?_
      show own_G p e below (T47z.setTop (mkF m 89 #[.val (.int p0), .val (.int p1), .val (.int (0 : Int32)), .val (.int (3 : Int32)), .val (.ref aS), .val (.ref b37z), .unset] [])) _
      refine own_go (fun t k => XS.aload X47z.here hx rfl (hb hby at_89) rfl rfl k) ?_
      refine own_go (fun t k => XS.aload X47z.here hx rfl (hb hby at_91) rfl rfl k) ?_
      refine own_go (fun t k => XS.iconst X47z.here hx rfl (hb hby at_93) k) ?_
      obtain ⟨_, _, ⟨T49z, L49z, k49z, n49z⟩, -, X49z, ⟨Lc49z, hQ49z, l49z, y49z, z49z⟩, st49z⟩ := Jvm.LawKit.callS X47z hx (y := own_m36) hown (own_mw hZ hw 30 rfl) (own_mw hZ hw 31 rfl) (own_mw hZ hw 32 rfl) (own_mw hZ hw 33 rfl) (by decide) (backOf (W := 1) (own_mke2 l Z a0 hw [] dE kd cs aH aV aS eL eA ke T47z.heap O48z S_D BD S_CS hcs S_H S_V S_EL F_EL B_EL E_EL n_aSaH n_aSaV) hZ (own_hw hw 33 rfl) (own_hw hw 32 rfl) (by decide) (by decide)) (g := (mkF m 94 #[.val (.int p0), .val (.int p1), .val (.int (0 : Int32)), .val (.int (3 : Int32)), .val (.ref aS), .val (.ref b37z), .unset] [(.int (2 : Int32)), (.ref aS), (.ref b37z)])) rfl (by rw [hml]; rfl) (argsL := [(.ref aS), (.int (2 : Int32))]) (rest := [(.ref b37z)]) (lenOf pd_4053637851 rfl) rfl (by show 2 * 0 + _ ≤ _; exact Nat.le_of_eq rfl) (hb hby at_94) (fun _ _ => ⟨rfl, rfl, (by decide : 10 + 4 ≤ _), (by decide : 39 + 13 ≤ _)⟩)
      dsimp only [Pt.U, Pt.locs, Pt.cells, Pt.slots] at X49z l49z y49z z49z st49z hQ49z
      subst l49z y49z z49z
      obtain ⟨r_49z, rfl, NQ49z, K49zq, r49z_0, r49z_1, r49z_2, r49z_3⟩ := hQ49z
      refine own_go st49z ?_
      have N49z := Fr.app N47z NQ49z
      have O50z := own_ext_keep O48z K49zq all0
      have K50z := K48z.trans K49zq all0
      have lz_r_49z : h0.size ≤ r_49z := Nat.le_trans K48z.1 r49z_2
      have ne_b37z_r_49z : b37z ≠ r_49z := Nat.ne_of_lt (Nat.lt_of_lt_of_le r47z_0.lt r49z_2)
      have ne_r_41z_r_49z : r_41z ≠ r_49z := Nat.ne_of_lt (Nat.lt_of_lt_of_le (((r41z_0.keep K43zq).keep K45zq).keep K47zq).lt r49z_2)
      have ne_arr_43z_r_49z : arr_43z ≠ r_49z := Nat.ne_of_lt (Nat.lt_of_lt_of_le ((r43z_4.keep K45zq).keep K47zq).lt r49z_2)
      have ne_r_45z_r_49z : r_45z ≠ r_49z := Nat.ne_of_lt (Nat.lt_of_lt_of_le (r45z_0.keep K47zq).lt r49z_2)
      show own_G p e below (T49z.setTop (mkF m 97 #[.val (.int p0), .val (.int p1), .val (.int (0 : Int32)), .val (.int (3 : Int32)), .val (.ref aS), .val (.ref b37z), .unset] [(.ref r_49z), (.ref b37z)])) _
      obtain ⟨cq51z, kq51z, qa51z, qb51z, qc51z⟩ := isOf hZ (rfl : T49z.heap = _) (r47z_0.keep K49zq)
      obtain ⟨_, _, ⟨T51z, L51z, k51z, n51z⟩, -, X51z, ⟨Lc51z, hQ51z, l51z, y51z, z51z⟩, st51z⟩ := X49z.virtualBack hx (y := own_m7) (z := own_m7) hown (own_mw hZ hw 126 rfl) (own_mw hZ hw 127 rfl) (notFace_of_selects (args := #[]) (own_mw hZ hw 129 rfl)) (own_mw hZ hw 129 rfl) (own_mw hZ hw 128 rfl) (by decide) (backOf (W := 0) (own_add1F l Z a0 hw [] b37z r_49z arr_43z kk_43z ([(.ref r_41z), (.ref r_45z), .null, .null, .null, .null, .null, .null, .null, .null]) (2 : Int32) (2 : Int32) (10 : Int32) 2 T49z.heap O50z (r47z_0.keep K49zq) fr_b37z r43z_1 r49z_0 (r47z_1.keep K49zq (by simp)) r43z_3 (by decide) (by show (10 : Int32).toInt = ((10 : Nat) : Int); decide) (by show 2 < 10; decide) ne_b37z_arr_43z (r47z_2.keep K49zq (by simp)) (r47z_3.keep K49zq (by simp)) (r47z_4.keep K49zq (by simp))) hZ (own_hw hw 130 rfl) (own_hw hw 6 rfl) (by decide) (by decide)) qa51z qc51z (g := (mkF m 97 #[.val (.int p0), .val (.int p1), .val (.int (0 : Int32)), .val (.int (3 : Int32)), .val (.ref aS), .val (.ref b37z), .unset] [(.ref r_49z), (.ref b37z)])) rfl (by rw [hml]; rfl) (Steps.refl _) (argsL := [(.ref r_49z)]) (rest := []) (lenOf pd_396412080 rfl) rfl (by show 2 * 0 + _ ≤ _; exact Nat.le_of_eq rfl) (hb hby at_97) (fun _ _ => ⟨rfl, rfl, (by decide : 14 + 0 ≤ _), (by decide : 52 + 0 ≤ _)⟩)
      dsimp only [Pt.U, Pt.locs, Pt.cells, Pt.slots] at X51z l51z y51z z51z st51z hQ51z
      subst l51z y51z z51z
      obtain ⟨rfl, NQ51z, K51zq, r51z_0, r51z_1, r51z_2, r51z_3, r51z_4⟩ := hQ51z
      refine own_tr st51z ?_
      have N51z := Fr.app N49z NQ51z
      have O52z := own_ext_keep O50z K51zq (allS fr_b37z (allS r43z_1 all0))
      have K52z := K50z.trans K51zq (allS (Or.inr lz_b37z) (allS (Or.inr lz_arr_43z) all0))
      have r51z_1 : own_A Z T51z.heap arr_43z kk_43z (.object own_s2) [(.ref r_41z), (.ref r_45z), (.ref r_49z), .null, .null, .null, .null, .null, .null, .null] := r51z_1
      have r51z_2 : Fld Z T51z.heap b37z own_s7 "modCount" "I" (.int (3 : Int32)) := r51z_2
      have r51z_4 : Fld Z T51z.heap b37z own_s1 "size" "I" (.int (3 : Int32)) := r51z_4
      show own_G p e below (T51z.setTop (mkF m 100 #[.val (.int p0), .val (.int p1), .val (.int (0 : Int32)), .val (.int (3 : Int32)), .val (.ref aS), .val (.ref b37z), .unset] [(.int (1 : Int32))])) _
      refine own_go (fun t k => XS.pop X51z.here hx rfl (hb hby at_100) rfl rfl k) ?_
      obtain ⟨T53z, h53z, X53z, e53z, E53z, A53z, D53z, -, st53z⟩ := newO X51z hx hZ hown (own_hw hw 155 rfl) (own_hw hw 156 rfl) (own_hw hw 157 rfl) rfl (g := (mkF m 101 #[.val (.int p0), .val (.int p1), .val (.int (0 : Int32)), .val (.int (3 : Int32)), .val (.ref aS), .val (.ref b37z), .unset] [])) rfl (hb hby at_101) (by decide) (by decide)
      obtain ⟨b53z, g53z⟩ : ∃ z, z = T51z.heap.size := ⟨_, rfl⟩
      rw [← g53z] at A53z D53z st53z
      have fr_b53z : Z.heap.size ≤ b53z := g53z ▸ O52z.1
      have lz_b53z : h0.size ≤ b53z := g53z ▸ K52z.1
      have ne_b37z_b53z : b37z ≠ b53z := Nat.ne_of_lt (g53z ▸ r51z_0.lt)
      have f54z := (((((r41z_0.keep K43zq).keep K45zq).keep K47zq).keep K49zq).keep K51zq)
      have ne_r_41z_b53z : r_41z ≠ b53z := Nat.ne_of_lt (g53z ▸ f54z.lt)
      have ne_arr_43z_b53z : arr_43z ≠ b53z := Nat.ne_of_lt (g53z ▸ ((((r43z_4.keep K45zq).keep K47zq).keep K49zq).keep K51zq).lt)
      have ne_r_45z_b53z : r_45z ≠ b53z := Nat.ne_of_lt (g53z ▸ (((r45z_0.keep K47zq).keep K49zq).keep K51zq).lt)
      have ne_r_49z_b53z : r_49z ≠ b53z := Nat.ne_of_lt (g53z ▸ (r49z_0.keep K51zq).lt)
      have O55z := own_ext_trans O52z E53z
      have K55z := K52z.ext E53z
      have F53z_fragments : Fld Z h53z b53z own_s8 "fragments" own_s16 .null := D53z (Or.inr (own_hw hw 227 rfl)) (ty := (.object own_s15)) (by decide)
      refine own_go st53z ?_
      refine own_go (fun t k => XS.dup X53z.here hx rfl (hb hby at_104) rfl rfl k) ?_
      refine own_go (fun t k => XS.aload X53z.here hx rfl (hb hby at_105) rfl rfl k) ?_
      have f56z := (((((r43z_4.keep K45zq).keep K47zq).keep K49zq).keep K51zq).ext E53z)
      obtain ⟨_, _, ⟨T57z, L57z, k57z, n57z⟩, -, X57z, ⟨Lc57z, hQ57z, l57z, y57z, z57z⟩, st57z⟩ := X53z.specialBack hx (y := own_m37) rfl hown (own_mw hZ hw 158 rfl) (own_mw hZ hw 159 rfl) (own_mw hZ hw 160 rfl) (by decide) (backOf (W := 1) (own_di3 l Z a0 hw [] b53z b37z arr_43z kk_43z mi eM r_41z r_45z r_49z h53z O55z MI S_EM A53z fr_b53z F53z_fragments (r51z_0.ext E53z) (r51z_1.ext E53z) f56z (r51z_3.ext E53z) (r51z_4.ext E53z) (f54z.ext E53z) ((((r45z_0.keep K47zq).keep K49zq).keep K51zq).ext E53z) ((r49z_0.keep K51zq).ext E53z)) hZ (own_hw hw 160 rfl) (own_hw hw 157 rfl) (by decide) (by decide)) (g := (mkF m 107 #[.val (.int p0), .val (.int p1), .val (.int (0 : Int32)), .val (.int (3 : Int32)), .val (.ref aS), .val (.ref b37z), .unset] [(.ref b37z), (.ref b53z), (.ref b53z)])) rfl (by rw [hml]; rfl) (Steps.refl _) (a := b53z) (argsL := [(.ref b37z)]) (rest := [(.ref b53z)]) (lenOf pd_219446285 rfl) rfl (by show 2 * 0 + _ ≤ _; exact Nat.le_of_eq rfl) (hb hby at_107) (fun _ _ => ⟨rfl, e53z, (by decide : 15 + 3 ≤ _), (by decide : 53 + 8 ≤ _)⟩)
      dsimp only [Pt.U, Pt.locs, Pt.cells, Pt.slots] at X57z l57z y57z z57z st57z hQ57z
      subst l57z y57z z57z
      obtain ⟨r_57z, er_57z, ke_57z, rfl, NQ57z, K57zq, r57z_0, r57z_1, r57z_2, r57z_3, r57z_4⟩ := hQ57z
      refine own_tr st57z ?_
      have N57z := Fr.app N51z NQ57z
      have O58z := own_ext_keep O55z K57zq (allS fr_b53z all0)
      have K58z := K55z.trans K57zq (allS (Or.inr lz_b53z) all0)
      show own_G p e below (T57z.setTop (mkF m 110 #[.val (.int p0), .val (.int p1), .val (.int (0 : Int32)), .val (.int (3 : Int32)), .val (.ref aS), .val (.ref b37z), .unset] [(.ref b53z)])) _
      refine own_go (fun t k => XS.astore X57z.here hx rfl (hb hby at_110) rfl rfl (l' := #[.val (.int p0), .val (.int p1), .val (.int (0 : Int32)), .val (.int (3 : Int32)), .val (.ref aS), .val (.ref b37z), .val (.ref b53z)]) rfl k) ?_
      refine own_go (fun t k => XS.aload X57z.here hx rfl (hb hby at_112) rfl rfl k) ?_
      have f59z := (((((((r41z_3.keep K43zq (by simp only [List.mem_cons, List.not_mem_nil, or_false, not_or]; exact (Ne.symm ne_b37z_r_41z))).keep K45zq (by simp)).keep K47zq (by simp only [List.mem_cons, List.not_mem_nil, or_false, not_or]; exact ⟨(Ne.symm ne_b37z_r_41z), ne_r_41z_arr_43z⟩)).keep K49zq (by simp)).keep K51zq (by simp only [List.mem_cons, List.not_mem_nil, or_false, not_or]; exact ⟨(Ne.symm ne_b37z_r_41z), ne_r_41z_arr_43z⟩)).ext E53z).keep K57zq (by simp only [List.mem_cons, List.not_mem_nil, or_false, not_or]; exact ne_r_41z_b53z))
      obtain ⟨cq60z, kq60z, qa60z, qb60z, qc60z⟩ := isOf hZ (rfl : T57z.heap = _) r57z_0
      obtain ⟨_, _, ⟨T60z, L60z, k60z, n60z⟩, -, X60z, ⟨Lc60z, hQ60z, l60z, y60z, z60z⟩, st60z⟩ := X57z.virtualBack hx (y := own_m41) (z := own_m41) hown (own_mw hZ hw 228 rfl) (own_mw hZ hw 229 rfl) (notFace_of_selects (args := #[]) (own_mw hZ hw 231 rfl)) (own_mw hZ hw 231 rfl) (own_mw hZ hw 230 rfl) (by decide) (backOf (W := 0) (own_dk1 l Z a0 hw [] b53z r_57z r_41z aS er_57z ke_57z r_45z r_49z T57z.heap O58z r57z_1 r57z_2 r57z_3 r57z_4 ((f54z.ext E53z).keep K57zq) f59z) hZ (own_hw hw 232 rfl) (own_hw hw 157 rfl) (by decide) (by decide)) qa60z qc60z (g := (mkF m 114 #[.val (.int p0), .val (.int p1), .val (.int (0 : Int32)), .val (.int (3 : Int32)), .val (.ref aS), .val (.ref b37z), .val (.ref b53z)] [(.ref b53z)])) rfl (by rw [hml]; rfl) (Steps.refl _) (argsL := []) (rest := []) (lenOf pd_3046010860 rfl) rfl (by show 2 * 0 + _ ≤ _; exact Nat.le_of_eq rfl) (hb hby at_114) (fun _ _ => ⟨rfl, rfl, (by decide : 18 + 0 ≤ _), (by decide : 61 + 0 ≤ _)⟩)
      dsimp only [Pt.U, Pt.locs, Pt.cells, Pt.slots] at X60z l60z y60z z60z st60z hQ60z
      subst l60z y60z z60z
      obtain ⟨rfl, NQ60z, K60zq⟩ := hQ60z
      refine own_tr st60z ?_
      have N60z := Fr.app N57z NQ60z
      show own_G p e below (T60z.setTop (mkF m 117 #[.val (.int p0), .val (.int p1), .val (.int (0 : Int32)), .val (.int (3 : Int32)), .val (.ref aS), .val (.ref b37z), .val (.ref b53z)] [(.ref aS)])) _
      refine own_go (fun t k => XS.aload X60z.here hx rfl (hb hby at_117) rfl rfl k) ?_
      refine own_go (fun t k => Jvm.RoadKit.acmp (g := (mkF m 119 #[.val (.int p0), .val (.int p1), .val (.int (0 : Int32)), .val (.int (3 : Int32)), .val (.ref aS), .val (.ref b37z), .val (.ref b53z)] [(.ref aS), (.ref aS)])) X60z hx rfl rfl rfl (pc0 := 119) (pc' := 122) (same := true) rfl (hb hby at_119) rfl (decide_eq_true (congrArg Value.ref rfl)) (by decide) (by decide) k) ?_
      show own_G p e below (T60z.setTop (mkF m 122 #[.val (.int p0), .val (.int p1), .val (.int (0 : Int32)), .val (.int (3 : Int32)), .val (.ref aS), .val (.ref b37z), .val (.ref b53z)] [])) _
      refine own_go (fun t k => XS.iconst X60z.here hx rfl (hb hby at_122) k) ?_
      refine own_go (fun t k => XS.goto X60z.here hx rfl (pc0 := 123) (pc' := 127) rfl (hb hby at_123) (by decide) (by decide) k) ?_
      show own_G p e below (T60z.setTop (mkF m 127 #[.val (.int p0), .val (.int p1), .val (.int (0 : Int32)), .val (.int (3 : Int32)), .val (.ref aS), .val (.ref b37z), .val (.ref b53z)] [(.int (1 : Int32))])) _
      exact own_ret X60z hx Bd.returns rfl (Or.inl ⟨rfl, Or.inr (Or.inl rfl), _, rfl⟩) (hb hby at_127) hlk (Nat.le_of_ble_eq_true rfl) (Nat.le_of_ble_eq_true rfl) (by show Q_own_law Z p0 p1 aS aH aV aR dE kd cs mi eM eL eA ke h0 _ T60z.heap _; rw [K60zq]; exact ⟨rfl, N60z, K58z⟩)
  · rw [hkkk]
    show own_G p e below (s₁.setTop (mkF m 6 #[.val (.int p0), .val (.int p1), .unset, .unset, .unset, .unset, .unset] [(.int (1 : Int32))])) _
    refine own_go (fun t k => XS.istoreN X0.here hx rfl (hb hby at_6) rfl (l' := #[.val (.int p0), .val (.int p1), .val (.int (1 : Int32)), .unset, .unset, .unset, .unset]) rfl k) ?_
    refine own_go (fun t k => XS.iconst X0.here hx rfl (hb hby at_7) k) ?_
    refine own_go (fun t k => XS.iloadN X0.here hx rfl (hb hby at_8) rfl k) ?_
    refine own_go (fun t k => X0.ldcI hx hown (mvT hZ (own_hw hw 0 rfl)) rfl (hb hby at_9) k) ?_
    refine own_go (fun t k => XS.iand X0.here hx rfl (hb hby at_11) rfl k) ?_
    refine own_go (fun t k => XS.iconst X0.here hx rfl (hb hby at_12) k) ?_
    refine own_go (fun t k => iremM X0 hx rfl (hb hby at_13) rfl (by decide) k) ?_
    show own_G p e below (s₁.setTop (mkF m 14 #[.val (.int p0), .val (.int p1), .val (.int (1 : Int32)), .unset, .unset, .unset, .unset] [(.int ((p1 &&& (2147483647 : Int32)) % (3 : Int32))), (.int (1 : Int32))])) _
    rcases own_mod3 p1 with hknn | hknn | hknn
    · rw [hknn]
      show own_G p e below (s₁.setTop (mkF m 14 #[.val (.int p0), .val (.int p1), .val (.int (1 : Int32)), .unset, .unset, .unset, .unset] [(.int (0 : Int32)), (.int (1 : Int32))])) _
      refine own_go (fun t k => XS.iadd X0.here hx rfl (hb hby at_14) rfl k) ?_
      refine own_go (fun t k => XS.istoreN X0.here hx rfl (hb hby at_15) rfl (l' := #[.val (.int p0), .val (.int p1), .val (.int (1 : Int32)), .val (.int (1 : Int32)), .unset, .unset, .unset]) rfl k) ?_
      refine own_go (fun t k => XS.iloadN X0.here hx rfl (hb hby at_16) rfl k) ?_
      refine own_go (fun t k => XS.ifYes X0.here hx rfl (pc0 := 17) (pc' := 28) rfl (hb hby at_17) rfl ((if0 _ _).trans (feq (by decide : ¬ ((1 : Int32) = (0 : Int32)))).2) (by decide) (by decide) k) ?_
      show own_G p e below (s₁.setTop (mkF m 28 #[.val (.int p0), .val (.int p1), .val (.int (1 : Int32)), .val (.int (1 : Int32)), .unset, .unset, .unset] [])) _
      refine own_go (fun t k => XS.iloadN X0.here hx rfl (hb hby at_28) rfl k) ?_
      refine own_go (fun t k => XS.iconst X0.here hx rfl (hb hby at_29) k) ?_
      refine own_go (fun t k => XS.icmpNo X0.here hx rfl (hb hby at_30) rfl (teq (by decide : (1 : Int32) = (1 : Int32))).2 k) ?_
      show own_G p e below (s₁.setTop (mkF m 33 #[.val (.int p0), .val (.int p1), .val (.int (1 : Int32)), .val (.int (1 : Int32)), .unset, .unset, .unset] [])) _
      obtain ⟨T61z, X61z, e61z, st61z⟩ := getS2 X0 hx hZ hown (host := "") (Or.inl (own_hw hw 292 rfl)) Via.refl e0 (S_R.ext O0) (g := (mkF m 33 #[.val (.int p0), .val (.int p1), .val (.int (1 : Int32)), .val (.int (1 : Int32)), .unset, .unset, .unset] [])) rfl (hb hby at_33)
      refine own_go st61z ?_
      refine own_go (fun t k => XS.astore X61z.here hx rfl (hb hby at_36) rfl rfl (l' := #[.val (.int p0), .val (.int p1), .val (.int (1 : Int32)), .val (.int (1 : Int32)), .val (.ref aR), .unset, .unset]) rfl k) ?_
      refine own_go (fun t k => XS.goto X61z.here hx rfl (pc0 := 38) (pc' := 46) rfl (hb hby at_38) (by decide) (by decide) k) ?_
      show own_G p e below (T61z.setTop (mkF m 46 #[.val (.int p0), .val (.int p1), .val (.int (1 : Int32)), .val (.int (1 : Int32)), .val (.ref aR), .unset, .unset] [])) _
      obtain ⟨T62z, h62z, X62z, e62z, E62z, A62z, D62z, -, st62z⟩ := newO X61z hx hZ hown (own_hw hw 4 rfl) (own_hw hw 5 rfl) (own_hw hw 6 rfl) e61z (g := (mkF m 46 #[.val (.int p0), .val (.int p1), .val (.int (1 : Int32)), .val (.int (1 : Int32)), .val (.ref aR), .unset, .unset] [])) rfl (hb hby at_46) (by decide) (by decide)
      obtain ⟨b62z, g62z⟩ : ∃ z, z = h0.size := ⟨_, rfl⟩
      rw [← g62z] at A62z D62z st62z
      have fr_b62z : Z.heap.size ≤ b62z := g62z ▸ O0.1
      have lz_b62z : h0.size ≤ b62z := g62z ▸ K0.1
      have O63z := own_ext_trans O0 E62z
      have K63z := K0.ext E62z
      have F62z_modCount : Fld Z h62z b62z own_s7 "modCount" "I" (.int (0 : Int32)) := D62z (Or.inl (own_hw hw 26 rfl)) (ty := .int) (by decide)
      have F62z_elementData : Fld Z h62z b62z own_s1 "elementData" own_s3 .null := D62z (Or.inl (own_hw hw 29 rfl)) (ty := (.array (.object own_s2))) (by decide)
      have F62z_size : Fld Z h62z b62z own_s1 "size" "I" (.int (0 : Int32)) := D62z (Or.inl (own_hw hw 96 rfl)) (ty := .int) (by decide)
      refine own_go st62z ?_
      refine own_go (fun t k => XS.dup X62z.here hx rfl (hb hby at_49) rfl rfl k) ?_
      obtain ⟨_, _, ⟨T64z, L64z, k64z, n64z⟩, -, X64z, ⟨Lc64z, hQ64z, l64z, y64z, z64z⟩, st64z⟩ := X62z.specialBack hx (y := own_m2) rfl hown (own_mw hZ hw 7 rfl) (own_mw hZ hw 8 rfl) (own_mw hZ hw 9 rfl) (by decide) (backOf (W := 1) (own_ali l Z a0 hw [] b62z dE h62z O63z S_D A62z fr_b62z F62z_modCount F62z_elementData F62z_size) hZ (own_hw hw 9 rfl) (own_hw hw 6 rfl) (by decide) (by decide)) (g := (mkF m 50 #[.val (.int p0), .val (.int p1), .val (.int (1 : Int32)), .val (.int (1 : Int32)), .val (.ref aR), .unset, .unset] [(.ref b62z), (.ref b62z)])) rfl (by rw [hml]; rfl) (Steps.refl _) (a := b62z) (argsL := []) (rest := [(.ref b62z)]) (lenOf pd_193421996 rfl) rfl (by show 2 * 0 + _ ≤ _; exact Nat.le_of_eq rfl) (hb hby at_50) (fun _ _ => ⟨rfl, e62z, (by decide : 1 + 0 ≤ _), (by decide : 3 + 0 ≤ _)⟩)
      dsimp only [Pt.U, Pt.locs, Pt.cells, Pt.slots] at X64z l64z y64z z64z st64z hQ64z
      subst l64z y64z z64z
      obtain ⟨rfl, NQ64z, K64zq, r64z_0, r64z_1, r64z_2, r64z_3⟩ := hQ64z
      refine own_tr st64z ?_
      have N64z := Fr.app N0 NQ64z
      have O65z := own_ext_keep O63z K64zq (allS fr_b62z all0)
      have K65z := K63z.trans K64zq (allS (Or.inr lz_b62z) all0)
      show own_G p e below (T64z.setTop (mkF m 53 #[.val (.int p0), .val (.int p1), .val (.int (1 : Int32)), .val (.int (1 : Int32)), .val (.ref aR), .unset, .unset] [(.ref b62z)])) _
      refine own_go (fun t k => XS.astore X64z.here hx rfl (hb hby at_53) rfl rfl (l' := #[.val (.int p0), .val (.int p1), .val (.int (1 : Int32)), .val (.int (1 : Int32)), .val (.ref aR), .val (.ref b62z), .unset]) rfl k) ?_
      refine own_go (fun t k => XS.aload X64z.here hx rfl (hb hby at_55) rfl rfl k) ?_
      refine own_go (fun t k => XS.aload X64z.here hx rfl (hb hby at_57) rfl rfl k) ?_
      refine own_go (fun t k => XS.iconst X64z.here hx rfl (hb hby at_59) k) ?_
      obtain ⟨_, _, ⟨T66z, L66z, k66z, n66z⟩, -, X66z, ⟨Lc66z, hQ66z, l66z, y66z, z66z⟩, st66z⟩ := Jvm.LawKit.callS X64z hx (y := own_m36) hown (own_mw hZ hw 30 rfl) (own_mw hZ hw 31 rfl) (own_mw hZ hw 32 rfl) (own_mw hZ hw 33 rfl) (by decide) (backOf (W := 1) (own_mke0 l Z a0 hw [] dE kd cs aH aV aR eL eA ke T64z.heap O65z S_D BD S_CS hcs S_H S_V S_EL F_EL B_EL E_EL n_aRaH n_aRaV) hZ (own_hw hw 33 rfl) (own_hw hw 32 rfl) (by decide) (by decide)) (g := (mkF m 60 #[.val (.int p0), .val (.int p1), .val (.int (1 : Int32)), .val (.int (1 : Int32)), .val (.ref aR), .val (.ref b62z), .unset] [(.int (0 : Int32)), (.ref aR), (.ref b62z)])) rfl (by rw [hml]; rfl) (argsL := [(.ref aR), (.int (0 : Int32))]) (rest := [(.ref b62z)]) (lenOf pd_4053637851 rfl) rfl (by show 2 * 0 + _ ≤ _; exact Nat.le_of_eq rfl) (hb hby at_60) (fun _ _ => ⟨rfl, rfl, (by decide : 1 + 4 ≤ _), (by decide : 3 + 13 ≤ _)⟩)
      dsimp only [Pt.U, Pt.locs, Pt.cells, Pt.slots] at X66z l66z y66z z66z st66z hQ66z
      subst l66z y66z z66z
      obtain ⟨r_66z, rfl, NQ66z, K66zq, r66z_0, r66z_1, r66z_2, r66z_3⟩ := hQ66z
      refine own_go st66z ?_
      have N66z := Fr.app N64z NQ66z
      have O67z := own_ext_keep O65z K66zq all0
      have K67z := K65z.trans K66zq all0
      have lz_r_66z : h0.size ≤ r_66z := Nat.le_trans K65z.1 r66z_2
      have ne_b62z_r_66z : b62z ≠ r_66z := Nat.ne_of_lt (Nat.lt_of_lt_of_le r64z_0.lt r66z_2)
      show own_G p e below (T66z.setTop (mkF m 63 #[.val (.int p0), .val (.int p1), .val (.int (1 : Int32)), .val (.int (1 : Int32)), .val (.ref aR), .val (.ref b62z), .unset] [(.ref r_66z), (.ref b62z)])) _
      obtain ⟨cq68z, kq68z, qa68z, qb68z, qc68z⟩ := isOf hZ (rfl : T66z.heap = _) (r64z_0.keep K66zq)
      obtain ⟨_, _, ⟨T68z, L68z, k68z, n68z⟩, -, X68z, ⟨Lc68z, hQ68z, l68z, y68z, z68z⟩, st68z⟩ := X66z.virtualBack hx (y := own_m7) (z := own_m7) hown (own_mw hZ hw 126 rfl) (own_mw hZ hw 127 rfl) (notFace_of_selects (args := #[]) (own_mw hZ hw 129 rfl)) (own_mw hZ hw 129 rfl) (own_mw hZ hw 128 rfl) (by decide) (backOf (W := 0) (own_add10F l Z a0 hw [] b62z (0 : Int32) dE kd r_66z T66z.heap O67z S_D BD (r64z_0.keep K66zq) fr_b62z (r64z_1.keep K66zq (by simp)) (r64z_2.keep K66zq (by simp)) (r64z_3.keep K66zq (by simp)) r66z_0) hZ (own_hw hw 130 rfl) (own_hw hw 6 rfl) (by decide) (by decide)) qa68z qc68z (g := (mkF m 63 #[.val (.int p0), .val (.int p1), .val (.int (1 : Int32)), .val (.int (1 : Int32)), .val (.ref aR), .val (.ref b62z), .unset] [(.ref r_66z), (.ref b62z)])) rfl (by rw [hml]; rfl) (Steps.refl _) (argsL := [(.ref r_66z)]) (rest := []) (lenOf pd_396412080 rfl) rfl (by show 2 * 0 + _ ≤ _; exact Nat.le_of_eq rfl) (hb hby at_63) (fun _ _ => ⟨rfl, rfl, (by decide : 5 + 1 ≤ _), (by decide : 16 + 10 ≤ _)⟩)
      dsimp only [Pt.U, Pt.locs, Pt.cells, Pt.slots] at X68z l68z y68z z68z st68z hQ68z
      subst l68z y68z z68z
      obtain ⟨arr_68z, kk_68z, rfl, NQ68z, K68zq, r68z_0, r68z_1, r68z_2, r68z_3, r68z_4, r68z_5, r68z_6, r68z_7, r68z_8⟩ := hQ68z
      refine own_tr st68z ?_
      have N68z := Fr.app N66z NQ68z
      have O69z := own_ext_keep O67z K68zq (allS fr_b62z all0)
      have K69z := K67z.trans K68zq (allS (Or.inr lz_b62z) all0)
      have lz_arr_68z : h0.size ≤ arr_68z := Nat.le_trans K67z.1 r68z_2
      have ne_b62z_arr_68z : b62z ≠ arr_68z := Nat.ne_of_lt (Nat.lt_of_lt_of_le (r64z_0.keep K66zq).lt r68z_2)
      have ne_r_66z_arr_68z : r_66z ≠ arr_68z := Nat.ne_of_lt (Nat.lt_of_lt_of_le r66z_0.lt r68z_2)
      have r68z_6 : Fld Z T68z.heap b62z own_s7 "modCount" "I" (.int (1 : Int32)) := r68z_6
      show own_G p e below (T68z.setTop (mkF m 66 #[.val (.int p0), .val (.int p1), .val (.int (1 : Int32)), .val (.int (1 : Int32)), .val (.ref aR), .val (.ref b62z), .unset] [(.int (1 : Int32))])) _
      refine own_go (fun t k => XS.pop X68z.here hx rfl (hb hby at_66) rfl rfl k) ?_
      refine own_go (fun t k => XS.iloadN X68z.here hx rfl (hb hby at_67) rfl k) ?_
      refine own_go (fun t k => XS.iconst X68z.here hx rfl (hb hby at_68) k) ?_
      refine own_go (fun t k => XS.icmpYes X68z.here hx rfl (pc0 := 69) (pc' := 84) rfl (hb hby at_69) rfl (flt (by decide : ¬ ((1 : Int32) < (1 : Int32)))).2.2.2 (by decide) (by decide) k) ?_
      show own_G p e below (T68z.setTop (mkF m 84 #[.val (.int p0), .val (.int p1), .val (.int (1 : Int32)), .val (.int (1 : Int32)), .val (.ref aR), .val (.ref b62z), .unset] [])) _
      refine own_go (fun t k => XS.iloadN X68z.here hx rfl (hb hby at_84) rfl k) ?_
      refine own_go (fun t k => XS.iconst X68z.here hx rfl (hb hby at_85) k) ?_
      refine own_go (fun t k => XS.icmpYes X68z.here hx rfl (pc0 := 86) (pc' := 101) rfl (hb hby at_86) rfl (flt (by decide : ¬ ((2 : Int32) < (1 : Int32)))).2.2.2 (by decide) (by decide) k) ?_
      show own_G p e below (T68z.setTop (mkF m 101 #[.val (.int p0), .val (.int p1), .val (.int (1 : Int32)), .val (.int (1 : Int32)), .val (.ref aR), .val (.ref b62z), .unset] [])) _
      obtain ⟨T70z, h70z, X70z, e70z, E70z, A70z, D70z, -, st70z⟩ := newO X68z hx hZ hown (own_hw hw 155 rfl) (own_hw hw 156 rfl) (own_hw hw 157 rfl) rfl (g := (mkF m 101 #[.val (.int p0), .val (.int p1), .val (.int (1 : Int32)), .val (.int (1 : Int32)), .val (.ref aR), .val (.ref b62z), .unset] [])) rfl (hb hby at_101) (by decide) (by decide)
      obtain ⟨b70z, g70z⟩ : ∃ z, z = T68z.heap.size := ⟨_, rfl⟩
      rw [← g70z] at A70z D70z st70z
      have fr_b70z : Z.heap.size ≤ b70z := g70z ▸ O69z.1
      have lz_b70z : h0.size ≤ b70z := g70z ▸ K69z.1
      have ne_b62z_b70z : b62z ≠ b70z := Nat.ne_of_lt (g70z ▸ r68z_0.lt)
      have ne_r_66z_b70z : r_66z ≠ b70z := Nat.ne_of_lt (g70z ▸ (r66z_0.keep K68zq).lt)
      have ne_arr_68z_b70z : arr_68z ≠ b70z := Nat.ne_of_lt (g70z ▸ r68z_4.lt)
      have O71z := own_ext_trans O69z E70z
      have K71z := K69z.ext E70z
      have F70z_fragments : Fld Z h70z b70z own_s8 "fragments" own_s16 .null := D70z (Or.inr (own_hw hw 227 rfl)) (ty := (.object own_s15)) (by decide)
      refine own_go st70z ?_
      refine own_go (fun t k => XS.dup X70z.here hx rfl (hb hby at_104) rfl rfl k) ?_
      refine own_go (fun t k => XS.aload X70z.here hx rfl (hb hby at_105) rfl rfl k) ?_
      obtain ⟨_, _, ⟨T72z, L72z, k72z, n72z⟩, -, X72z, ⟨Lc72z, hQ72z, l72z, y72z, z72z⟩, st72z⟩ := X70z.specialBack hx (y := own_m37) rfl hown (own_mw hZ hw 158 rfl) (own_mw hZ hw 159 rfl) (own_mw hZ hw 160 rfl) (by decide) (backOf (W := 1) (own_di1 l Z a0 hw [] b70z b62z arr_68z kk_68z mi eM r_66z h70z O71z MI S_EM A70z fr_b70z F70z_fragments (r68z_0.ext E70z) (r68z_5.ext E70z) (r68z_4.ext E70z) (r68z_7.ext E70z) (r68z_8.ext E70z) ((r66z_0.keep K68zq).ext E70z)) hZ (own_hw hw 160 rfl) (own_hw hw 157 rfl) (by decide) (by decide)) (g := (mkF m 107 #[.val (.int p0), .val (.int p1), .val (.int (1 : Int32)), .val (.int (1 : Int32)), .val (.ref aR), .val (.ref b62z), .unset] [(.ref b62z), (.ref b70z), (.ref b70z)])) rfl (by rw [hml]; rfl) (Steps.refl _) (a := b70z) (argsL := [(.ref b62z)]) (rest := [(.ref b70z)]) (lenOf pd_219446285 rfl) rfl (by show 2 * 0 + _ ≤ _; exact Nat.le_of_eq rfl) (hb hby at_107) (fun _ _ => ⟨rfl, e70z, (by decide : 7 + 2 ≤ _), (by decide : 27 + 3 ≤ _)⟩)
      dsimp only [Pt.U, Pt.locs, Pt.cells, Pt.slots] at X72z l72z y72z z72z st72z hQ72z
      subst l72z y72z z72z
      obtain ⟨r_72z, rfl, NQ72z, K72zq, r72z_0, r72z_1, r72z_2, r72z_3⟩ := hQ72z
      refine own_tr st72z ?_
      have N72z := Fr.app N68z NQ72z
      have O73z := own_ext_keep O71z K72zq (allS fr_b70z all0)
      have K73z := K71z.trans K72zq (allS (Or.inr lz_b70z) all0)
      show own_G p e below (T72z.setTop (mkF m 110 #[.val (.int p0), .val (.int p1), .val (.int (1 : Int32)), .val (.int (1 : Int32)), .val (.ref aR), .val (.ref b62z), .unset] [(.ref b70z)])) _
      refine own_go (fun t k => XS.astore X72z.here hx rfl (hb hby at_110) rfl rfl (l' := #[.val (.int p0), .val (.int p1), .val (.int (1 : Int32)), .val (.int (1 : Int32)), .val (.ref aR), .val (.ref b62z), .val (.ref b70z)]) rfl k) ?_
      refine own_go (fun t k => XS.aload X72z.here hx rfl (hb hby at_112) rfl rfl k) ?_
      have f74z := (((r66z_3.keep K68zq (by simp only [List.mem_cons, List.not_mem_nil, or_false, not_or]; exact (Ne.symm ne_b62z_r_66z))).ext E70z).keep K72zq (by simp only [List.mem_cons, List.not_mem_nil, or_false, not_or]; exact ne_r_66z_b70z))
      obtain ⟨cq75z, kq75z, qa75z, qb75z, qc75z⟩ := isOf hZ (rfl : T72z.heap = _) r72z_0
      obtain ⟨_, _, ⟨T75z, L75z, k75z, n75z⟩, -, X75z, ⟨Lc75z, hQ75z, l75z, y75z, z75z⟩, st75z⟩ := X72z.virtualBack hx (y := own_m41) (z := own_m41) hown (own_mw hZ hw 228 rfl) (own_mw hZ hw 229 rfl) (notFace_of_selects (args := #[]) (own_mw hZ hw 231 rfl)) (own_mw hZ hw 231 rfl) (own_mw hZ hw 230 rfl) (by decide) (backOf (W := 0) (own_dk0 l Z a0 hw [] b70z r_72z r_66z aR T72z.heap O73z r72z_1 r72z_2 r72z_3 (((r66z_0.keep K68zq).ext E70z).keep K72zq) f74z) hZ (own_hw hw 232 rfl) (own_hw hw 157 rfl) (by decide) (by decide)) qa75z qc75z (g := (mkF m 114 #[.val (.int p0), .val (.int p1), .val (.int (1 : Int32)), .val (.int (1 : Int32)), .val (.ref aR), .val (.ref b62z), .val (.ref b70z)] [(.ref b70z)])) rfl (by rw [hml]; rfl) (Steps.refl _) (argsL := []) (rest := []) (lenOf pd_3046010860 rfl) rfl (by show 2 * 0 + _ ≤ _; exact Nat.le_of_eq rfl) (hb hby at_114) (fun _ _ => ⟨rfl, rfl, (by decide : 9 + 0 ≤ _), (by decide : 30 + 0 ≤ _)⟩)
      dsimp only [Pt.U, Pt.locs, Pt.cells, Pt.slots] at X75z l75z y75z z75z st75z hQ75z
      subst l75z y75z z75z
      obtain ⟨rfl, NQ75z, K75zq⟩ := hQ75z
      refine own_tr st75z ?_
      have N75z := Fr.app N72z NQ75z
      show own_G p e below (T75z.setTop (mkF m 117 #[.val (.int p0), .val (.int p1), .val (.int (1 : Int32)), .val (.int (1 : Int32)), .val (.ref aR), .val (.ref b62z), .val (.ref b70z)] [(.ref aR)])) _
      refine own_go (fun t k => XS.aload X75z.here hx rfl (hb hby at_117) rfl rfl k) ?_
      refine own_go (fun t k => Jvm.RoadKit.acmp (g := (mkF m 119 #[.val (.int p0), .val (.int p1), .val (.int (1 : Int32)), .val (.int (1 : Int32)), .val (.ref aR), .val (.ref b62z), .val (.ref b70z)] [(.ref aR), (.ref aR)])) X75z hx rfl rfl rfl (pc0 := 119) (pc' := 122) (same := true) rfl (hb hby at_119) rfl (decide_eq_true (congrArg Value.ref rfl)) (by decide) (by decide) k) ?_
      show own_G p e below (T75z.setTop (mkF m 122 #[.val (.int p0), .val (.int p1), .val (.int (1 : Int32)), .val (.int (1 : Int32)), .val (.ref aR), .val (.ref b62z), .val (.ref b70z)] [])) _
      refine own_go (fun t k => XS.iconst X75z.here hx rfl (hb hby at_122) k) ?_
      refine own_go (fun t k => XS.goto X75z.here hx rfl (pc0 := 123) (pc' := 127) rfl (hb hby at_123) (by decide) (by decide) k) ?_
      show own_G p e below (T75z.setTop (mkF m 127 #[.val (.int p0), .val (.int p1), .val (.int (1 : Int32)), .val (.int (1 : Int32)), .val (.ref aR), .val (.ref b62z), .val (.ref b70z)] [(.int (1 : Int32))])) _
      exact own_ret X75z hx Bd.returns rfl (Or.inl ⟨rfl, Or.inr (Or.inl rfl), _, rfl⟩) (hb hby at_127) hlk (Nat.le_of_ble_eq_true rfl) (Nat.le_of_ble_eq_true rfl) (by show Q_own_law Z p0 p1 aS aH aV aR dE kd cs mi eM eL eA ke h0 _ T75z.heap _; rw [K75zq]; exact ⟨rfl, N75z, K73z⟩)
    · rw [hknn]
      show own_G p e below (s₁.setTop (mkF m 14 #[.val (.int p0), .val (.int p1), .val (.int (1 : Int32)), .unset, .unset, .unset, .unset] [(.int (1 : Int32)), (.int (1 : Int32))])) _
      refine own_go (fun t k => XS.iadd X0.here hx rfl (hb hby at_14) rfl k) ?_
      refine own_go (fun t k => XS.istoreN X0.here hx rfl (hb hby at_15) rfl (l' := #[.val (.int p0), .val (.int p1), .val (.int (1 : Int32)), .val (.int (2 : Int32)), .unset, .unset, .unset]) rfl k) ?_
      refine own_go (fun t k => XS.iloadN X0.here hx rfl (hb hby at_16) rfl k) ?_
      refine own_go (fun t k => XS.ifYes X0.here hx rfl (pc0 := 17) (pc' := 28) rfl (hb hby at_17) rfl ((if0 _ _).trans (feq (by decide : ¬ ((1 : Int32) = (0 : Int32)))).2) (by decide) (by decide) k) ?_
      show own_G p e below (s₁.setTop (mkF m 28 #[.val (.int p0), .val (.int p1), .val (.int (1 : Int32)), .val (.int (2 : Int32)), .unset, .unset, .unset] [])) _
      refine own_go (fun t k => XS.iloadN X0.here hx rfl (hb hby at_28) rfl k) ?_
      refine own_go (fun t k => XS.iconst X0.here hx rfl (hb hby at_29) k) ?_
      refine own_go (fun t k => XS.icmpNo X0.here hx rfl (hb hby at_30) rfl (teq (by decide : (1 : Int32) = (1 : Int32))).2 k) ?_
      show own_G p e below (s₁.setTop (mkF m 33 #[.val (.int p0), .val (.int p1), .val (.int (1 : Int32)), .val (.int (2 : Int32)), .unset, .unset, .unset] [])) _
      obtain ⟨T76z, X76z, e76z, st76z⟩ := getS2 X0 hx hZ hown (host := "") (Or.inl (own_hw hw 292 rfl)) Via.refl e0 (S_R.ext O0) (g := (mkF m 33 #[.val (.int p0), .val (.int p1), .val (.int (1 : Int32)), .val (.int (2 : Int32)), .unset, .unset, .unset] [])) rfl (hb hby at_33)
      refine own_go st76z ?_
      refine own_go (fun t k => XS.astore X76z.here hx rfl (hb hby at_36) rfl rfl (l' := #[.val (.int p0), .val (.int p1), .val (.int (1 : Int32)), .val (.int (2 : Int32)), .val (.ref aR), .unset, .unset]) rfl k) ?_
      refine own_go (fun t k => XS.goto X76z.here hx rfl (pc0 := 38) (pc' := 46) rfl (hb hby at_38) (by decide) (by decide) k) ?_
      show own_G p e below (T76z.setTop (mkF m 46 #[.val (.int p0), .val (.int p1), .val (.int (1 : Int32)), .val (.int (2 : Int32)), .val (.ref aR), .unset, .unset] [])) _
      obtain ⟨T77z, h77z, X77z, e77z, E77z, A77z, D77z, -, st77z⟩ := newO X76z hx hZ hown (own_hw hw 4 rfl) (own_hw hw 5 rfl) (own_hw hw 6 rfl) e76z (g := (mkF m 46 #[.val (.int p0), .val (.int p1), .val (.int (1 : Int32)), .val (.int (2 : Int32)), .val (.ref aR), .unset, .unset] [])) rfl (hb hby at_46) (by decide) (by decide)
      obtain ⟨b77z, g77z⟩ : ∃ z, z = h0.size := ⟨_, rfl⟩
      rw [← g77z] at A77z D77z st77z
      have fr_b77z : Z.heap.size ≤ b77z := g77z ▸ O0.1
      have lz_b77z : h0.size ≤ b77z := g77z ▸ K0.1
      have O78z := own_ext_trans O0 E77z
      have K78z := K0.ext E77z
      have F77z_modCount : Fld Z h77z b77z own_s7 "modCount" "I" (.int (0 : Int32)) := D77z (Or.inl (own_hw hw 26 rfl)) (ty := .int) (by decide)
      have F77z_elementData : Fld Z h77z b77z own_s1 "elementData" own_s3 .null := D77z (Or.inl (own_hw hw 29 rfl)) (ty := (.array (.object own_s2))) (by decide)
      have F77z_size : Fld Z h77z b77z own_s1 "size" "I" (.int (0 : Int32)) := D77z (Or.inl (own_hw hw 96 rfl)) (ty := .int) (by decide)
      refine own_go st77z ?_
      refine own_go (fun t k => XS.dup X77z.here hx rfl (hb hby at_49) rfl rfl k) ?_
      obtain ⟨_, _, ⟨T79z, L79z, k79z, n79z⟩, -, X79z, ⟨Lc79z, hQ79z, l79z, y79z, z79z⟩, st79z⟩ := X77z.specialBack hx (y := own_m2) rfl hown (own_mw hZ hw 7 rfl) (own_mw hZ hw 8 rfl) (own_mw hZ hw 9 rfl) (by decide) (backOf (W := 1) (own_ali l Z a0 hw [] b77z dE h77z O78z S_D A77z fr_b77z F77z_modCount F77z_elementData F77z_size) hZ (own_hw hw 9 rfl) (own_hw hw 6 rfl) (by decide) (by decide)) (g := (mkF m 50 #[.val (.int p0), .val (.int p1), .val (.int (1 : Int32)), .val (.int (2 : Int32)), .val (.ref aR), .unset, .unset] [(.ref b77z), (.ref b77z)])) rfl (by rw [hml]; rfl) (Steps.refl _) (a := b77z) (argsL := []) (rest := [(.ref b77z)]) (lenOf pd_193421996 rfl) rfl (by show 2 * 0 + _ ≤ _; exact Nat.le_of_eq rfl) (hb hby at_50) (fun _ _ => ⟨rfl, e77z, (by decide : 1 + 0 ≤ _), (by decide : 3 + 0 ≤ _)⟩)
      dsimp only [Pt.U, Pt.locs, Pt.cells, Pt.slots] at X79z l79z y79z z79z st79z hQ79z
      subst l79z y79z z79z
      obtain ⟨rfl, NQ79z, K79zq, r79z_0, r79z_1, r79z_2, r79z_3⟩ := hQ79z
      refine own_tr st79z ?_
      have N79z := Fr.app N0 NQ79z
      have O80z := own_ext_keep O78z K79zq (allS fr_b77z all0)
      have K80z := K78z.trans K79zq (allS (Or.inr lz_b77z) all0)
      show own_G p e below (T79z.setTop (mkF m 53 #[.val (.int p0), .val (.int p1), .val (.int (1 : Int32)), .val (.int (2 : Int32)), .val (.ref aR), .unset, .unset] [(.ref b77z)])) _
      refine own_go (fun t k => XS.astore X79z.here hx rfl (hb hby at_53) rfl rfl (l' := #[.val (.int p0), .val (.int p1), .val (.int (1 : Int32)), .val (.int (2 : Int32)), .val (.ref aR), .val (.ref b77z), .unset]) rfl k) ?_
      refine own_go (fun t k => XS.aload X79z.here hx rfl (hb hby at_55) rfl rfl k) ?_
      refine own_go (fun t k => XS.aload X79z.here hx rfl (hb hby at_57) rfl rfl k) ?_
      refine own_go (fun t k => XS.iconst X79z.here hx rfl (hb hby at_59) k) ?_
      obtain ⟨_, _, ⟨T81z, L81z, k81z, n81z⟩, -, X81z, ⟨Lc81z, hQ81z, l81z, y81z, z81z⟩, st81z⟩ := Jvm.LawKit.callS X79z hx (y := own_m36) hown (own_mw hZ hw 30 rfl) (own_mw hZ hw 31 rfl) (own_mw hZ hw 32 rfl) (own_mw hZ hw 33 rfl) (by decide) (backOf (W := 1) (own_mke0 l Z a0 hw [] dE kd cs aH aV aR eL eA ke T79z.heap O80z S_D BD S_CS hcs S_H S_V S_EL F_EL B_EL E_EL n_aRaH n_aRaV) hZ (own_hw hw 33 rfl) (own_hw hw 32 rfl) (by decide) (by decide)) (g := (mkF m 60 #[.val (.int p0), .val (.int p1), .val (.int (1 : Int32)), .val (.int (2 : Int32)), .val (.ref aR), .val (.ref b77z), .unset] [(.int (0 : Int32)), (.ref aR), (.ref b77z)])) rfl (by rw [hml]; rfl) (argsL := [(.ref aR), (.int (0 : Int32))]) (rest := [(.ref b77z)]) (lenOf pd_4053637851 rfl) rfl (by show 2 * 0 + _ ≤ _; exact Nat.le_of_eq rfl) (hb hby at_60) (fun _ _ => ⟨rfl, rfl, (by decide : 1 + 4 ≤ _), (by decide : 3 + 13 ≤ _)⟩)
      dsimp only [Pt.U, Pt.locs, Pt.cells, Pt.slots] at X81z l81z y81z z81z st81z hQ81z
      subst l81z y81z z81z
      obtain ⟨r_81z, rfl, NQ81z, K81zq, r81z_0, r81z_1, r81z_2, r81z_3⟩ := hQ81z
      refine own_go st81z ?_
      have N81z := Fr.app N79z NQ81z
      have O82z := own_ext_keep O80z K81zq all0
      have K82z := K80z.trans K81zq all0
      have lz_r_81z : h0.size ≤ r_81z := Nat.le_trans K80z.1 r81z_2
      have ne_b77z_r_81z : b77z ≠ r_81z := Nat.ne_of_lt (Nat.lt_of_lt_of_le r79z_0.lt r81z_2)
      show own_G p e below (T81z.setTop (mkF m 63 #[.val (.int p0), .val (.int p1), .val (.int (1 : Int32)), .val (.int (2 : Int32)), .val (.ref aR), .val (.ref b77z), .unset] [(.ref r_81z), (.ref b77z)])) _
      obtain ⟨cq83z, kq83z, qa83z, qb83z, qc83z⟩ := isOf hZ (rfl : T81z.heap = _) (r79z_0.keep K81zq)
      obtain ⟨_, _, ⟨T83z, L83z, k83z, n83z⟩, -, X83z, ⟨Lc83z, hQ83z, l83z, y83z, z83z⟩, st83z⟩ := X81z.virtualBack hx (y := own_m7) (z := own_m7) hown (own_mw hZ hw 126 rfl) (own_mw hZ hw 127 rfl) (notFace_of_selects (args := #[]) (own_mw hZ hw 129 rfl)) (own_mw hZ hw 129 rfl) (own_mw hZ hw 128 rfl) (by decide) (backOf (W := 0) (own_add10F l Z a0 hw [] b77z (0 : Int32) dE kd r_81z T81z.heap O82z S_D BD (r79z_0.keep K81zq) fr_b77z (r79z_1.keep K81zq (by simp)) (r79z_2.keep K81zq (by simp)) (r79z_3.keep K81zq (by simp)) r81z_0) hZ (own_hw hw 130 rfl) (own_hw hw 6 rfl) (by decide) (by decide)) qa83z qc83z (g := (mkF m 63 #[.val (.int p0), .val (.int p1), .val (.int (1 : Int32)), .val (.int (2 : Int32)), .val (.ref aR), .val (.ref b77z), .unset] [(.ref r_81z), (.ref b77z)])) rfl (by rw [hml]; rfl) (Steps.refl _) (argsL := [(.ref r_81z)]) (rest := []) (lenOf pd_396412080 rfl) rfl (by show 2 * 0 + _ ≤ _; exact Nat.le_of_eq rfl) (hb hby at_63) (fun _ _ => ⟨rfl, rfl, (by decide : 5 + 1 ≤ _), (by decide : 16 + 10 ≤ _)⟩)
      dsimp only [Pt.U, Pt.locs, Pt.cells, Pt.slots] at X83z l83z y83z z83z st83z hQ83z
      subst l83z y83z z83z
      obtain ⟨arr_83z, kk_83z, rfl, NQ83z, K83zq, r83z_0, r83z_1, r83z_2, r83z_3, r83z_4, r83z_5, r83z_6, r83z_7, r83z_8⟩ := hQ83z
      refine own_tr st83z ?_
      have N83z := Fr.app N81z NQ83z
      have O84z := own_ext_keep O82z K83zq (allS fr_b77z all0)
      have K84z := K82z.trans K83zq (allS (Or.inr lz_b77z) all0)
      have lz_arr_83z : h0.size ≤ arr_83z := Nat.le_trans K82z.1 r83z_2
      have ne_b77z_arr_83z : b77z ≠ arr_83z := Nat.ne_of_lt (Nat.lt_of_lt_of_le (r79z_0.keep K81zq).lt r83z_2)
      have ne_r_81z_arr_83z : r_81z ≠ arr_83z := Nat.ne_of_lt (Nat.lt_of_lt_of_le r81z_0.lt r83z_2)
      have r83z_6 : Fld Z T83z.heap b77z own_s7 "modCount" "I" (.int (1 : Int32)) := r83z_6
      show own_G p e below (T83z.setTop (mkF m 66 #[.val (.int p0), .val (.int p1), .val (.int (1 : Int32)), .val (.int (2 : Int32)), .val (.ref aR), .val (.ref b77z), .unset] [(.int (1 : Int32))])) _
      refine own_go (fun t k => XS.pop X83z.here hx rfl (hb hby at_66) rfl rfl k) ?_
      refine own_go (fun t k => XS.iloadN X83z.here hx rfl (hb hby at_67) rfl k) ?_
      refine own_go (fun t k => XS.iconst X83z.here hx rfl (hb hby at_68) k) ?_
      refine own_go (fun t k => XS.icmpNo X83z.here hx rfl (hb hby at_69) rfl (tlt (by decide : (1 : Int32) < (2 : Int32))).2.2.2 k) ?_
      show own_G p e below (T83z.setTop (mkF m 72 #[.val (.int p0), .val (.int p1), .val (.int (1 : Int32)), .val (.int (2 : Int32)), .val (.ref aR), .val (.ref b77z), .unset] [])) _
      refine own_go (fun t k => XS.aload X83z.here hx rfl (hb hby at_72) rfl rfl k) ?_
      refine own_go (fun t k => XS.aload X83z.here hx rfl (hb hby at_74) rfl rfl k) ?_
      refine own_go (fun t k => XS.iconst X83z.here hx rfl (hb hby at_76) k) ?_
      obtain ⟨_, _, ⟨T85z, L85z, k85z, n85z⟩, -, X85z, ⟨Lc85z, hQ85z, l85z, y85z, z85z⟩, st85z⟩ := Jvm.LawKit.callS X83z hx (y := own_m36) hown (own_mw hZ hw 30 rfl) (own_mw hZ hw 31 rfl) (own_mw hZ hw 32 rfl) (own_mw hZ hw 33 rfl) (by decide) (backOf (W := 1) (own_mke1 l Z a0 hw [] dE kd cs aH aV aR eL eA ke T83z.heap O84z S_D BD S_CS hcs S_H S_V S_EL F_EL B_EL E_EL n_aRaH n_aRaV) hZ (own_hw hw 33 rfl) (own_hw hw 32 rfl) (by decide) (by decide)) (g := (mkF m 77 #[.val (.int p0), .val (.int p1), .val (.int (1 : Int32)), .val (.int (2 : Int32)), .val (.ref aR), .val (.ref b77z), .unset] [(.int (1 : Int32)), (.ref aR), (.ref b77z)])) rfl (by rw [hml]; rfl) (argsL := [(.ref aR), (.int (1 : Int32))]) (rest := [(.ref b77z)]) (lenOf pd_4053637851 rfl) rfl (by show 2 * 0 + _ ≤ _; exact Nat.le_of_eq rfl) (hb hby at_77) (fun _ _ => ⟨rfl, rfl, (by decide : 6 + 4 ≤ _), (by decide : 26 + 13 ≤ _)⟩)
      dsimp only [Pt.U, Pt.locs, Pt.cells, Pt.slots] at X85z l85z y85z z85z st85z hQ85z
      subst l85z y85z z85z
      obtain ⟨r_85z, rfl, NQ85z, K85zq, r85z_0, r85z_1, r85z_2, r85z_3⟩ := hQ85z
      refine own_go st85z ?_
      have N85z := Fr.app N83z NQ85z
      have O86z := own_ext_keep O84z K85zq all0
      have K86z := K84z.trans K85zq all0
      have lz_r_85z : h0.size ≤ r_85z := Nat.le_trans K84z.1 r85z_2
      have ne_b77z_r_85z : b77z ≠ r_85z := Nat.ne_of_lt (Nat.lt_of_lt_of_le r83z_0.lt r85z_2)
      have ne_r_81z_r_85z : r_81z ≠ r_85z := Nat.ne_of_lt (Nat.lt_of_lt_of_le (r81z_0.keep K83zq).lt r85z_2)
      have ne_arr_83z_r_85z : arr_83z ≠ r_85z := Nat.ne_of_lt (Nat.lt_of_lt_of_le r83z_4.lt r85z_2)
      show own_G p e below (T85z.setTop (mkF m 80 #[.val (.int p0), .val (.int p1), .val (.int (1 : Int32)), .val (.int (2 : Int32)), .val (.ref aR), .val (.ref b77z), .unset] [(.ref r_85z), (.ref b77z)])) _
      obtain ⟨cq87z, kq87z, qa87z, qb87z, qc87z⟩ := isOf hZ (rfl : T85z.heap = _) (r83z_0.keep K85zq)
      obtain ⟨_, _, ⟨T87z, L87z, k87z, n87z⟩, -, X87z, ⟨Lc87z, hQ87z, l87z, y87z, z87z⟩, st87z⟩ := X85z.virtualBack hx (y := own_m7) (z := own_m7) hown (own_mw hZ hw 126 rfl) (own_mw hZ hw 127 rfl) (notFace_of_selects (args := #[]) (own_mw hZ hw 129 rfl)) (own_mw hZ hw 129 rfl) (own_mw hZ hw 128 rfl) (by decide) (backOf (W := 0) (own_add1F l Z a0 hw [] b77z r_85z arr_83z kk_83z ([(.ref r_81z), .null, .null, .null, .null, .null, .null, .null, .null, .null]) (1 : Int32) (1 : Int32) (10 : Int32) 1 T85z.heap O86z (r83z_0.keep K85zq) fr_b77z r83z_1 r85z_0 (r83z_5.keep K85zq (by simp)) r83z_3 (by decide) (by show (10 : Int32).toInt = ((10 : Nat) : Int); decide) (by show 1 < 10; decide) ne_b77z_arr_83z (r83z_6.keep K85zq (by simp)) (r83z_7.keep K85zq (by simp)) (r83z_8.keep K85zq (by simp))) hZ (own_hw hw 130 rfl) (own_hw hw 6 rfl) (by decide) (by decide)) qa87z qc87z (g := (mkF m 80 #[.val (.int p0), .val (.int p1), .val (.int (1 : Int32)), .val (.int (2 : Int32)), .val (.ref aR), .val (.ref b77z), .unset] [(.ref r_85z), (.ref b77z)])) rfl (by rw [hml]; rfl) (Steps.refl _) (argsL := [(.ref r_85z)]) (rest := []) (lenOf pd_396412080 rfl) rfl (by show 2 * 0 + _ ≤ _; exact Nat.le_of_eq rfl) (hb hby at_80) (fun _ _ => ⟨rfl, rfl, (by decide : 10 + 0 ≤ _), (by decide : 39 + 0 ≤ _)⟩)
      dsimp only [Pt.U, Pt.locs, Pt.cells, Pt.slots] at X87z l87z y87z z87z st87z hQ87z
      subst l87z y87z z87z
      obtain ⟨rfl, NQ87z, K87zq, r87z_0, r87z_1, r87z_2, r87z_3, r87z_4⟩ := hQ87z
      refine own_tr st87z ?_
      have N87z := Fr.app N85z NQ87z
      have O88z := own_ext_keep O86z K87zq (allS fr_b77z (allS r83z_1 all0))
      have K88z := K86z.trans K87zq (allS (Or.inr lz_b77z) (allS (Or.inr lz_arr_83z) all0))
      have r87z_1 : own_A Z T87z.heap arr_83z kk_83z (.object own_s2) [(.ref r_81z), (.ref r_85z), .null, .null, .null, .null, .null, .null, .null, .null] := r87z_1
      have r87z_2 : Fld Z T87z.heap b77z own_s7 "modCount" "I" (.int (2 : Int32)) := r87z_2
      have r87z_4 : Fld Z T87z.heap b77z own_s1 "size" "I" (.int (2 : Int32)) := r87z_4
      show own_G p e below (T87z.setTop (mkF m 83 #[.val (.int p0), .val (.int p1), .val (.int (1 : Int32)), .val (.int (2 : Int32)), .val (.ref aR), .val (.ref b77z), .unset] [(.int (1 : Int32))])) _
      refine own_go (fun t k => XS.pop X87z.here hx rfl (hb hby at_83) rfl rfl k) ?_
      refine own_go (fun t k => XS.iloadN X87z.here hx rfl (hb hby at_84) rfl k) ?_
      refine own_go (fun t k => XS.iconst X87z.here hx rfl (hb hby at_85) k) ?_
      refine own_go (fun t k => XS.icmpYes X87z.here hx rfl (pc0 := 86) (pc' := 101) rfl (hb hby at_86) rfl (flt (by decide : ¬ ((2 : Int32) < (2 : Int32)))).2.2.2 (by decide) (by decide) k) ?_
      show own_G p e below (T87z.setTop (mkF m 101 #[.val (.int p0), .val (.int p1), .val (.int (1 : Int32)), .val (.int (2 : Int32)), .val (.ref aR), .val (.ref b77z), .unset] [])) _
      obtain ⟨T89z, h89z, X89z, e89z, E89z, A89z, D89z, -, st89z⟩ := newO X87z hx hZ hown (own_hw hw 155 rfl) (own_hw hw 156 rfl) (own_hw hw 157 rfl) rfl (g := (mkF m 101 #[.val (.int p0), .val (.int p1), .val (.int (1 : Int32)), .val (.int (2 : Int32)), .val (.ref aR), .val (.ref b77z), .unset] [])) rfl (hb hby at_101) (by decide) (by decide)
      obtain ⟨b89z, g89z⟩ : ∃ z, z = T87z.heap.size := ⟨_, rfl⟩
      rw [← g89z] at A89z D89z st89z
      have fr_b89z : Z.heap.size ≤ b89z := g89z ▸ O88z.1
      have lz_b89z : h0.size ≤ b89z := g89z ▸ K88z.1
      have ne_b77z_b89z : b77z ≠ b89z := Nat.ne_of_lt (g89z ▸ r87z_0.lt)
      have ne_r_81z_b89z : r_81z ≠ b89z := Nat.ne_of_lt (g89z ▸ (((r81z_0.keep K83zq).keep K85zq).keep K87zq).lt)
      have ne_arr_83z_b89z : arr_83z ≠ b89z := Nat.ne_of_lt (g89z ▸ ((r83z_4.keep K85zq).keep K87zq).lt)
      have ne_r_85z_b89z : r_85z ≠ b89z := Nat.ne_of_lt (g89z ▸ (r85z_0.keep K87zq).lt)
      have O90z := own_ext_trans O88z E89z
      have K90z := K88z.ext E89z
      have F89z_fragments : Fld Z h89z b89z own_s8 "fragments" own_s16 .null := D89z (Or.inr (own_hw hw 227 rfl)) (ty := (.object own_s15)) (by decide)
      refine own_go st89z ?_
      refine own_go (fun t k => XS.dup X89z.here hx rfl (hb hby at_104) rfl rfl k) ?_
      refine own_go (fun t k => XS.aload X89z.here hx rfl (hb hby at_105) rfl rfl k) ?_
      obtain ⟨_, _, ⟨T91z, L91z, k91z, n91z⟩, -, X91z, ⟨Lc91z, hQ91z, l91z, y91z, z91z⟩, st91z⟩ := X89z.specialBack hx (y := own_m37) rfl hown (own_mw hZ hw 158 rfl) (own_mw hZ hw 159 rfl) (own_mw hZ hw 160 rfl) (by decide) (backOf (W := 1) (own_di2 l Z a0 hw [] b89z b77z arr_83z kk_83z mi eM r_81z r_85z h89z O90z MI S_EM A89z fr_b89z F89z_fragments (r87z_0.ext E89z) (r87z_1.ext E89z) (((r83z_4.keep K85zq).keep K87zq).ext E89z) (r87z_3.ext E89z) (r87z_4.ext E89z) ((((r81z_0.keep K83zq).keep K85zq).keep K87zq).ext E89z) ((r85z_0.keep K87zq).ext E89z)) hZ (own_hw hw 160 rfl) (own_hw hw 157 rfl) (by decide) (by decide)) (g := (mkF m 107 #[.val (.int p0), .val (.int p1), .val (.int (1 : Int32)), .val (.int (2 : Int32)), .val (.ref aR), .val (.ref b77z), .unset] [(.ref b77z), (.ref b89z), (.ref b89z)])) rfl (by rw [hml]; rfl) (Steps.refl _) (a := b89z) (argsL := [(.ref b77z)]) (rest := [(.ref b89z)]) (lenOf pd_219446285 rfl) rfl (by show 2 * 0 + _ ≤ _; exact Nat.le_of_eq rfl) (hb hby at_107) (fun _ _ => ⟨rfl, e89z, (by decide : 11 + 2 ≤ _), (by decide : 40 + 4 ≤ _)⟩)
      dsimp only [Pt.U, Pt.locs, Pt.cells, Pt.slots] at X91z l91z y91z z91z st91z hQ91z
      subst l91z y91z z91z
      obtain ⟨r_91z, rfl, NQ91z, K91zq, r91z_0, r91z_1, r91z_2, r91z_3⟩ := hQ91z
      refine own_tr st91z ?_
      have N91z := Fr.app N87z NQ91z
      have O92z := own_ext_keep O90z K91zq (allS fr_b89z all0)
      have K92z := K90z.trans K91zq (allS (Or.inr lz_b89z) all0)
      show own_G p e below (T91z.setTop (mkF m 110 #[.val (.int p0), .val (.int p1), .val (.int (1 : Int32)), .val (.int (2 : Int32)), .val (.ref aR), .val (.ref b77z), .unset] [(.ref b89z)])) _
      refine own_go (fun t k => XS.astore X91z.here hx rfl (hb hby at_110) rfl rfl (l' := #[.val (.int p0), .val (.int p1), .val (.int (1 : Int32)), .val (.int (2 : Int32)), .val (.ref aR), .val (.ref b77z), .val (.ref b89z)]) rfl k) ?_
      refine own_go (fun t k => XS.aload X91z.here hx rfl (hb hby at_112) rfl rfl k) ?_
      have f93z := (((((r81z_0.keep K83zq).keep K85zq).keep K87zq).ext E89z).keep K91zq)
      have f94z := (((((r81z_3.keep K83zq (by simp only [List.mem_cons, List.not_mem_nil, or_false, not_or]; exact (Ne.symm ne_b77z_r_81z))).keep K85zq (by simp)).keep K87zq (by simp only [List.mem_cons, List.not_mem_nil, or_false, not_or]; exact ⟨(Ne.symm ne_b77z_r_81z), ne_r_81z_arr_83z⟩)).ext E89z).keep K91zq (by simp only [List.mem_cons, List.not_mem_nil, or_false, not_or]; exact ne_r_81z_b89z))
      obtain ⟨cq95z, kq95z, qa95z, qb95z, qc95z⟩ := isOf hZ (rfl : T91z.heap = _) r91z_0
      obtain ⟨_, _, ⟨T95z, L95z, k95z, n95z⟩, -, X95z, ⟨Lc95z, hQ95z, l95z, y95z, z95z⟩, st95z⟩ := X91z.virtualBack hx (y := own_m41) (z := own_m41) hown (own_mw hZ hw 228 rfl) (own_mw hZ hw 229 rfl) (notFace_of_selects (args := #[]) (own_mw hZ hw 231 rfl)) (own_mw hZ hw 231 rfl) (own_mw hZ hw 230 rfl) (by decide) (backOf (W := 0) (own_dk0 l Z a0 hw [] b89z r_91z r_81z aR T91z.heap O92z r91z_1 r91z_2 r91z_3 f93z f94z) hZ (own_hw hw 232 rfl) (own_hw hw 157 rfl) (by decide) (by decide)) qa95z qc95z (g := (mkF m 114 #[.val (.int p0), .val (.int p1), .val (.int (1 : Int32)), .val (.int (2 : Int32)), .val (.ref aR), .val (.ref b77z), .val (.ref b89z)] [(.ref b89z)])) rfl (by rw [hml]; rfl) (Steps.refl _) (argsL := []) (rest := []) (lenOf pd_3046010860 rfl) rfl (by show 2 * 0 + _ ≤ _; exact Nat.le_of_eq rfl) (hb hby at_114) (fun _ _ => ⟨rfl, rfl, (by decide : 13 + 0 ≤ _), (by decide : 44 + 0 ≤ _)⟩)
      dsimp only [Pt.U, Pt.locs, Pt.cells, Pt.slots] at X95z l95z y95z z95z st95z hQ95z
      subst l95z y95z z95z
      obtain ⟨rfl, NQ95z, K95zq⟩ := hQ95z
      refine own_tr st95z ?_
      have N95z := Fr.app N91z NQ95z
      show own_G p e below (T95z.setTop (mkF m 117 #[.val (.int p0), .val (.int p1), .val (.int (1 : Int32)), .val (.int (2 : Int32)), .val (.ref aR), .val (.ref b77z), .val (.ref b89z)] [(.ref aR)])) _
      refine own_go (fun t k => XS.aload X95z.here hx rfl (hb hby at_117) rfl rfl k) ?_
      refine own_go (fun t k => Jvm.RoadKit.acmp (g := (mkF m 119 #[.val (.int p0), .val (.int p1), .val (.int (1 : Int32)), .val (.int (2 : Int32)), .val (.ref aR), .val (.ref b77z), .val (.ref b89z)] [(.ref aR), (.ref aR)])) X95z hx rfl rfl rfl (pc0 := 119) (pc' := 122) (same := true) rfl (hb hby at_119) rfl (decide_eq_true (congrArg Value.ref rfl)) (by decide) (by decide) k) ?_
      show own_G p e below (T95z.setTop (mkF m 122 #[.val (.int p0), .val (.int p1), .val (.int (1 : Int32)), .val (.int (2 : Int32)), .val (.ref aR), .val (.ref b77z), .val (.ref b89z)] [])) _
      refine own_go (fun t k => XS.iconst X95z.here hx rfl (hb hby at_122) k) ?_
      refine own_go (fun t k => XS.goto X95z.here hx rfl (pc0 := 123) (pc' := 127) rfl (hb hby at_123) (by decide) (by decide) k) ?_
      show own_G p e below (T95z.setTop (mkF m 127 #[.val (.int p0), .val (.int p1), .val (.int (1 : Int32)), .val (.int (2 : Int32)), .val (.ref aR), .val (.ref b77z), .val (.ref b89z)] [(.int (1 : Int32))])) _
      exact own_ret X95z hx Bd.returns rfl (Or.inl ⟨rfl, Or.inr (Or.inl rfl), _, rfl⟩) (hb hby at_127) hlk (Nat.le_of_ble_eq_true rfl) (Nat.le_of_ble_eq_true rfl) (by show Q_own_law Z p0 p1 aS aH aV aR dE kd cs mi eM eL eA ke h0 _ T95z.heap _; rw [K95zq]; exact ⟨rfl, N95z, K92z⟩)
    · rw [hknn]
      show own_G p e below (s₁.setTop (mkF m 14 #[.val (.int p0), .val (.int p1), .val (.int (1 : Int32)), .unset, .unset, .unset, .unset] [(.int (2 : Int32)), (.int (1 : Int32))])) _
      refine own_go (fun t k => XS.iadd X0.here hx rfl (hb hby at_14) rfl k) ?_
      refine own_go (fun t k => XS.istoreN X0.here hx rfl (hb hby at_15) rfl (l' := #[.val (.int p0), .val (.int p1), .val (.int (1 : Int32)), .val (.int (3 : Int32)), .unset, .unset, .unset]) rfl k) ?_
      refine own_go (fun t k => XS.iloadN X0.here hx rfl (hb hby at_16) rfl k) ?_
      refine own_go (fun t k => XS.ifYes X0.here hx rfl (pc0 := 17) (pc' := 28) rfl (hb hby at_17) rfl ((if0 _ _).trans (feq (by decide : ¬ ((1 : Int32) = (0 : Int32)))).2) (by decide) (by decide) k) ?_
      show own_G p e below (s₁.setTop (mkF m 28 #[.val (.int p0), .val (.int p1), .val (.int (1 : Int32)), .val (.int (3 : Int32)), .unset, .unset, .unset] [])) _
      refine own_go (fun t k => XS.iloadN X0.here hx rfl (hb hby at_28) rfl k) ?_
      refine own_go (fun t k => XS.iconst X0.here hx rfl (hb hby at_29) k) ?_
      refine own_go (fun t k => XS.icmpNo X0.here hx rfl (hb hby at_30) rfl (teq (by decide : (1 : Int32) = (1 : Int32))).2 k) ?_
      show own_G p e below (s₁.setTop (mkF m 33 #[.val (.int p0), .val (.int p1), .val (.int (1 : Int32)), .val (.int (3 : Int32)), .unset, .unset, .unset] [])) _
      obtain ⟨T96z, X96z, e96z, st96z⟩ := getS2 X0 hx hZ hown (host := "") (Or.inl (own_hw hw 292 rfl)) Via.refl e0 (S_R.ext O0) (g := (mkF m 33 #[.val (.int p0), .val (.int p1), .val (.int (1 : Int32)), .val (.int (3 : Int32)), .unset, .unset, .unset] [])) rfl (hb hby at_33)
      refine own_go st96z ?_
      refine own_go (fun t k => XS.astore X96z.here hx rfl (hb hby at_36) rfl rfl (l' := #[.val (.int p0), .val (.int p1), .val (.int (1 : Int32)), .val (.int (3 : Int32)), .val (.ref aR), .unset, .unset]) rfl k) ?_
      refine own_go (fun t k => XS.goto X96z.here hx rfl (pc0 := 38) (pc' := 46) rfl (hb hby at_38) (by decide) (by decide) k) ?_
      show own_G p e below (T96z.setTop (mkF m 46 #[.val (.int p0), .val (.int p1), .val (.int (1 : Int32)), .val (.int (3 : Int32)), .val (.ref aR), .unset, .unset] [])) _
      obtain ⟨T97z, h97z, X97z, e97z, E97z, A97z, D97z, -, st97z⟩ := newO X96z hx hZ hown (own_hw hw 4 rfl) (own_hw hw 5 rfl) (own_hw hw 6 rfl) e96z (g := (mkF m 46 #[.val (.int p0), .val (.int p1), .val (.int (1 : Int32)), .val (.int (3 : Int32)), .val (.ref aR), .unset, .unset] [])) rfl (hb hby at_46) (by decide) (by decide)
      obtain ⟨b97z, g97z⟩ : ∃ z, z = h0.size := ⟨_, rfl⟩
      rw [← g97z] at A97z D97z st97z
      have fr_b97z : Z.heap.size ≤ b97z := g97z ▸ O0.1
      have lz_b97z : h0.size ≤ b97z := g97z ▸ K0.1
      have O98z := own_ext_trans O0 E97z
      have K98z := K0.ext E97z
      have F97z_modCount : Fld Z h97z b97z own_s7 "modCount" "I" (.int (0 : Int32)) := D97z (Or.inl (own_hw hw 26 rfl)) (ty := .int) (by decide)
      have F97z_elementData : Fld Z h97z b97z own_s1 "elementData" own_s3 .null := D97z (Or.inl (own_hw hw 29 rfl)) (ty := (.array (.object own_s2))) (by decide)
      have F97z_size : Fld Z h97z b97z own_s1 "size" "I" (.int (0 : Int32)) := D97z (Or.inl (own_hw hw 96 rfl)) (ty := .int) (by decide)
      refine own_go st97z ?_
      refine own_go (fun t k => XS.dup X97z.here hx rfl (hb hby at_49) rfl rfl k) ?_
      obtain ⟨_, _, ⟨T99z, L99z, k99z, n99z⟩, -, X99z, ⟨Lc99z, hQ99z, l99z, y99z, z99z⟩, st99z⟩ := X97z.specialBack hx (y := own_m2) rfl hown (own_mw hZ hw 7 rfl) (own_mw hZ hw 8 rfl) (own_mw hZ hw 9 rfl) (by decide) (backOf (W := 1) (own_ali l Z a0 hw [] b97z dE h97z O98z S_D A97z fr_b97z F97z_modCount F97z_elementData F97z_size) hZ (own_hw hw 9 rfl) (own_hw hw 6 rfl) (by decide) (by decide)) (g := (mkF m 50 #[.val (.int p0), .val (.int p1), .val (.int (1 : Int32)), .val (.int (3 : Int32)), .val (.ref aR), .unset, .unset] [(.ref b97z), (.ref b97z)])) rfl (by rw [hml]; rfl) (Steps.refl _) (a := b97z) (argsL := []) (rest := [(.ref b97z)]) (lenOf pd_193421996 rfl) rfl (by show 2 * 0 + _ ≤ _; exact Nat.le_of_eq rfl) (hb hby at_50) (fun _ _ => ⟨rfl, e97z, (by decide : 1 + 0 ≤ _), (by decide : 3 + 0 ≤ _)⟩)
      dsimp only [Pt.U, Pt.locs, Pt.cells, Pt.slots] at X99z l99z y99z z99z st99z hQ99z
      subst l99z y99z z99z
      obtain ⟨rfl, NQ99z, K99zq, r99z_0, r99z_1, r99z_2, r99z_3⟩ := hQ99z
      refine own_tr st99z ?_
      have N99z := Fr.app N0 NQ99z
      have O100z := own_ext_keep O98z K99zq (allS fr_b97z all0)
      have K100z := K98z.trans K99zq (allS (Or.inr lz_b97z) all0)
      show own_G p e below (T99z.setTop (mkF m 53 #[.val (.int p0), .val (.int p1), .val (.int (1 : Int32)), .val (.int (3 : Int32)), .val (.ref aR), .unset, .unset] [(.ref b97z)])) _
      refine own_go (fun t k => XS.astore X99z.here hx rfl (hb hby at_53) rfl rfl (l' := #[.val (.int p0), .val (.int p1), .val (.int (1 : Int32)), .val (.int (3 : Int32)), .val (.ref aR), .val (.ref b97z), .unset]) rfl k) ?_
      refine own_go (fun t k => XS.aload X99z.here hx rfl (hb hby at_55) rfl rfl k) ?_
      refine own_go (fun t k => XS.aload X99z.here hx rfl (hb hby at_57) rfl rfl k) ?_
      refine own_go (fun t k => XS.iconst X99z.here hx rfl (hb hby at_59) k) ?_
      obtain ⟨_, _, ⟨T101z, L101z, k101z, n101z⟩, -, X101z, ⟨Lc101z, hQ101z, l101z, y101z, z101z⟩, st101z⟩ := Jvm.LawKit.callS X99z hx (y := own_m36) hown (own_mw hZ hw 30 rfl) (own_mw hZ hw 31 rfl) (own_mw hZ hw 32 rfl) (own_mw hZ hw 33 rfl) (by decide) (backOf (W := 1) (own_mke0 l Z a0 hw [] dE kd cs aH aV aR eL eA ke T99z.heap O100z S_D BD S_CS hcs S_H S_V S_EL F_EL B_EL E_EL n_aRaH n_aRaV) hZ (own_hw hw 33 rfl) (own_hw hw 32 rfl) (by decide) (by decide)) (g := (mkF m 60 #[.val (.int p0), .val (.int p1), .val (.int (1 : Int32)), .val (.int (3 : Int32)), .val (.ref aR), .val (.ref b97z), .unset] [(.int (0 : Int32)), (.ref aR), (.ref b97z)])) rfl (by rw [hml]; rfl) (argsL := [(.ref aR), (.int (0 : Int32))]) (rest := [(.ref b97z)]) (lenOf pd_4053637851 rfl) rfl (by show 2 * 0 + _ ≤ _; exact Nat.le_of_eq rfl) (hb hby at_60) (fun _ _ => ⟨rfl, rfl, (by decide : 1 + 4 ≤ _), (by decide : 3 + 13 ≤ _)⟩)
      dsimp only [Pt.U, Pt.locs, Pt.cells, Pt.slots] at X101z l101z y101z z101z st101z hQ101z
      subst l101z y101z z101z
      obtain ⟨r_101z, rfl, NQ101z, K101zq, r101z_0, r101z_1, r101z_2, r101z_3⟩ := hQ101z
      refine own_go st101z ?_
      have N101z := Fr.app N99z NQ101z
      have O102z := own_ext_keep O100z K101zq all0
      have K102z := K100z.trans K101zq all0
      have lz_r_101z : h0.size ≤ r_101z := Nat.le_trans K100z.1 r101z_2
      have ne_b97z_r_101z : b97z ≠ r_101z := Nat.ne_of_lt (Nat.lt_of_lt_of_le r99z_0.lt r101z_2)
      show own_G p e below (T101z.setTop (mkF m 63 #[.val (.int p0), .val (.int p1), .val (.int (1 : Int32)), .val (.int (3 : Int32)), .val (.ref aR), .val (.ref b97z), .unset] [(.ref r_101z), (.ref b97z)])) _
      obtain ⟨cq103z, kq103z, qa103z, qb103z, qc103z⟩ := isOf hZ (rfl : T101z.heap = _) (r99z_0.keep K101zq)
      obtain ⟨_, _, ⟨T103z, L103z, k103z, n103z⟩, -, X103z, ⟨Lc103z, hQ103z, l103z, y103z, z103z⟩, st103z⟩ := X101z.virtualBack hx (y := own_m7) (z := own_m7) hown (own_mw hZ hw 126 rfl) (own_mw hZ hw 127 rfl) (notFace_of_selects (args := #[]) (own_mw hZ hw 129 rfl)) (own_mw hZ hw 129 rfl) (own_mw hZ hw 128 rfl) (by decide) (backOf (W := 0) (own_add10F l Z a0 hw [] b97z (0 : Int32) dE kd r_101z T101z.heap O102z S_D BD (r99z_0.keep K101zq) fr_b97z (r99z_1.keep K101zq (by simp)) (r99z_2.keep K101zq (by simp)) (r99z_3.keep K101zq (by simp)) r101z_0) hZ (own_hw hw 130 rfl) (own_hw hw 6 rfl) (by decide) (by decide)) qa103z qc103z (g := (mkF m 63 #[.val (.int p0), .val (.int p1), .val (.int (1 : Int32)), .val (.int (3 : Int32)), .val (.ref aR), .val (.ref b97z), .unset] [(.ref r_101z), (.ref b97z)])) rfl (by rw [hml]; rfl) (Steps.refl _) (argsL := [(.ref r_101z)]) (rest := []) (lenOf pd_396412080 rfl) rfl (by show 2 * 0 + _ ≤ _; exact Nat.le_of_eq rfl) (hb hby at_63) (fun _ _ => ⟨rfl, rfl, (by decide : 5 + 1 ≤ _), (by decide : 16 + 10 ≤ _)⟩)
      dsimp only [Pt.U, Pt.locs, Pt.cells, Pt.slots] at X103z l103z y103z z103z st103z hQ103z
      subst l103z y103z z103z
      obtain ⟨arr_103z, kk_103z, rfl, NQ103z, K103zq, r103z_0, r103z_1, r103z_2, r103z_3, r103z_4, r103z_5, r103z_6, r103z_7, r103z_8⟩ := hQ103z
      refine own_tr st103z ?_
      have N103z := Fr.app N101z NQ103z
      have O104z := own_ext_keep O102z K103zq (allS fr_b97z all0)
      have K104z := K102z.trans K103zq (allS (Or.inr lz_b97z) all0)
      have lz_arr_103z : h0.size ≤ arr_103z := Nat.le_trans K102z.1 r103z_2
      have ne_b97z_arr_103z : b97z ≠ arr_103z := Nat.ne_of_lt (Nat.lt_of_lt_of_le (r99z_0.keep K101zq).lt r103z_2)
      have ne_r_101z_arr_103z : r_101z ≠ arr_103z := Nat.ne_of_lt (Nat.lt_of_lt_of_le r101z_0.lt r103z_2)
      have r103z_6 : Fld Z T103z.heap b97z own_s7 "modCount" "I" (.int (1 : Int32)) := r103z_6
      show own_G p e below (T103z.setTop (mkF m 66 #[.val (.int p0), .val (.int p1), .val (.int (1 : Int32)), .val (.int (3 : Int32)), .val (.ref aR), .val (.ref b97z), .unset] [(.int (1 : Int32))])) _
      refine own_go (fun t k => XS.pop X103z.here hx rfl (hb hby at_66) rfl rfl k) ?_
      refine own_go (fun t k => XS.iloadN X103z.here hx rfl (hb hby at_67) rfl k) ?_
      refine own_go (fun t k => XS.iconst X103z.here hx rfl (hb hby at_68) k) ?_
      refine own_go (fun t k => XS.icmpNo X103z.here hx rfl (hb hby at_69) rfl (tlt (by decide : (1 : Int32) < (3 : Int32))).2.2.2 k) ?_
      show own_G p e below (T103z.setTop (mkF m 72 #[.val (.int p0), .val (.int p1), .val (.int (1 : Int32)), .val (.int (3 : Int32)), .val (.ref aR), .val (.ref b97z), .unset] [])) _
      refine own_go (fun t k => XS.aload X103z.here hx rfl (hb hby at_72) rfl rfl k) ?_
      refine own_go (fun t k => XS.aload X103z.here hx rfl (hb hby at_74) rfl rfl k) ?_
      refine own_go (fun t k => XS.iconst X103z.here hx rfl (hb hby at_76) k) ?_
      obtain ⟨_, _, ⟨T105z, L105z, k105z, n105z⟩, -, X105z, ⟨Lc105z, hQ105z, l105z, y105z, z105z⟩, st105z⟩ := Jvm.LawKit.callS X103z hx (y := own_m36) hown (own_mw hZ hw 30 rfl) (own_mw hZ hw 31 rfl) (own_mw hZ hw 32 rfl) (own_mw hZ hw 33 rfl) (by decide) (backOf (W := 1) (own_mke1 l Z a0 hw [] dE kd cs aH aV aR eL eA ke T103z.heap O104z S_D BD S_CS hcs S_H S_V S_EL F_EL B_EL E_EL n_aRaH n_aRaV) hZ (own_hw hw 33 rfl) (own_hw hw 32 rfl) (by decide) (by decide)) (g := (mkF m 77 #[.val (.int p0), .val (.int p1), .val (.int (1 : Int32)), .val (.int (3 : Int32)), .val (.ref aR), .val (.ref b97z), .unset] [(.int (1 : Int32)), (.ref aR), (.ref b97z)])) rfl (by rw [hml]; rfl) (argsL := [(.ref aR), (.int (1 : Int32))]) (rest := [(.ref b97z)]) (lenOf pd_4053637851 rfl) rfl (by show 2 * 0 + _ ≤ _; exact Nat.le_of_eq rfl) (hb hby at_77) (fun _ _ => ⟨rfl, rfl, (by decide : 6 + 4 ≤ _), (by decide : 26 + 13 ≤ _)⟩)
      dsimp only [Pt.U, Pt.locs, Pt.cells, Pt.slots] at X105z l105z y105z z105z st105z hQ105z
      subst l105z y105z z105z
      obtain ⟨r_105z, rfl, NQ105z, K105zq, r105z_0, r105z_1, r105z_2, r105z_3⟩ := hQ105z
      refine own_go st105z ?_
      have N105z := Fr.app N103z NQ105z
      have O106z := own_ext_keep O104z K105zq all0
      have K106z := K104z.trans K105zq all0
      have lz_r_105z : h0.size ≤ r_105z := Nat.le_trans K104z.1 r105z_2
      have ne_b97z_r_105z : b97z ≠ r_105z := Nat.ne_of_lt (Nat.lt_of_lt_of_le r103z_0.lt r105z_2)
      have ne_r_101z_r_105z : r_101z ≠ r_105z := Nat.ne_of_lt (Nat.lt_of_lt_of_le (r101z_0.keep K103zq).lt r105z_2)
      have ne_arr_103z_r_105z : arr_103z ≠ r_105z := Nat.ne_of_lt (Nat.lt_of_lt_of_le r103z_4.lt r105z_2)
      show own_G p e below (T105z.setTop (mkF m 80 #[.val (.int p0), .val (.int p1), .val (.int (1 : Int32)), .val (.int (3 : Int32)), .val (.ref aR), .val (.ref b97z), .unset] [(.ref r_105z), (.ref b97z)])) _
      obtain ⟨cq107z, kq107z, qa107z, qb107z, qc107z⟩ := isOf hZ (rfl : T105z.heap = _) (r103z_0.keep K105zq)
      obtain ⟨_, _, ⟨T107z, L107z, k107z, n107z⟩, -, X107z, ⟨Lc107z, hQ107z, l107z, y107z, z107z⟩, st107z⟩ := X105z.virtualBack hx (y := own_m7) (z := own_m7) hown (own_mw hZ hw 126 rfl) (own_mw hZ hw 127 rfl) (notFace_of_selects (args := #[]) (own_mw hZ hw 129 rfl)) (own_mw hZ hw 129 rfl) (own_mw hZ hw 128 rfl) (by decide) (backOf (W := 0) (own_add1F l Z a0 hw [] b97z r_105z arr_103z kk_103z ([(.ref r_101z), .null, .null, .null, .null, .null, .null, .null, .null, .null]) (1 : Int32) (1 : Int32) (10 : Int32) 1 T105z.heap O106z (r103z_0.keep K105zq) fr_b97z r103z_1 r105z_0 (r103z_5.keep K105zq (by simp)) r103z_3 (by decide) (by show (10 : Int32).toInt = ((10 : Nat) : Int); decide) (by show 1 < 10; decide) ne_b97z_arr_103z (r103z_6.keep K105zq (by simp)) (r103z_7.keep K105zq (by simp)) (r103z_8.keep K105zq (by simp))) hZ (own_hw hw 130 rfl) (own_hw hw 6 rfl) (by decide) (by decide)) qa107z qc107z (g := (mkF m 80 #[.val (.int p0), .val (.int p1), .val (.int (1 : Int32)), .val (.int (3 : Int32)), .val (.ref aR), .val (.ref b97z), .unset] [(.ref r_105z), (.ref b97z)])) rfl (by rw [hml]; rfl) (Steps.refl _) (argsL := [(.ref r_105z)]) (rest := []) (lenOf pd_396412080 rfl) rfl (by show 2 * 0 + _ ≤ _; exact Nat.le_of_eq rfl) (hb hby at_80) (fun _ _ => ⟨rfl, rfl, (by decide : 10 + 0 ≤ _), (by decide : 39 + 0 ≤ _)⟩)
      dsimp only [Pt.U, Pt.locs, Pt.cells, Pt.slots] at X107z l107z y107z z107z st107z hQ107z
      subst l107z y107z z107z
      obtain ⟨rfl, NQ107z, K107zq, r107z_0, r107z_1, r107z_2, r107z_3, r107z_4⟩ := hQ107z
      refine own_tr st107z ?_
      have N107z := Fr.app N105z NQ107z
      have O108z := own_ext_keep O106z K107zq (allS fr_b97z (allS r103z_1 all0))
      have K108z := K106z.trans K107zq (allS (Or.inr lz_b97z) (allS (Or.inr lz_arr_103z) all0))
      have r107z_1 : own_A Z T107z.heap arr_103z kk_103z (.object own_s2) [(.ref r_101z), (.ref r_105z), .null, .null, .null, .null, .null, .null, .null, .null] := r107z_1
      have r107z_2 : Fld Z T107z.heap b97z own_s7 "modCount" "I" (.int (2 : Int32)) := r107z_2
      have r107z_4 : Fld Z T107z.heap b97z own_s1 "size" "I" (.int (2 : Int32)) := r107z_4
      show own_G p e below (T107z.setTop (mkF m 83 #[.val (.int p0), .val (.int p1), .val (.int (1 : Int32)), .val (.int (3 : Int32)), .val (.ref aR), .val (.ref b97z), .unset] [(.int (1 : Int32))])) _
      refine own_go (fun t k => XS.pop X107z.here hx rfl (hb hby at_83) rfl rfl k) ?_
      refine own_go (fun t k => XS.iloadN X107z.here hx rfl (hb hby at_84) rfl k) ?_
      refine own_go (fun t k => XS.iconst X107z.here hx rfl (hb hby at_85) k) ?_
      refine own_go (fun t k => XS.icmpNo X107z.here hx rfl (hb hby at_86) rfl (tlt (by decide : (2 : Int32) < (3 : Int32))).2.2.2 k) ?_
      show own_G p e below (T107z.setTop (mkF m 89 #[.val (.int p0), .val (.int p1), .val (.int (1 : Int32)), .val (.int (3 : Int32)), .val (.ref aR), .val (.ref b97z), .unset] [])) _
      refine own_go (fun t k => XS.aload X107z.here hx rfl (hb hby at_89) rfl rfl k) ?_
      refine own_go (fun t k => XS.aload X107z.here hx rfl (hb hby at_91) rfl rfl k) ?_
      refine own_go (fun t k => XS.iconst X107z.here hx rfl (hb hby at_93) k) ?_
      obtain ⟨_, _, ⟨T109z, L109z, k109z, n109z⟩, -, X109z, ⟨Lc109z, hQ109z, l109z, y109z, z109z⟩, st109z⟩ := Jvm.LawKit.callS X107z hx (y := own_m36) hown (own_mw hZ hw 30 rfl) (own_mw hZ hw 31 rfl) (own_mw hZ hw 32 rfl) (own_mw hZ hw 33 rfl) (by decide) (backOf (W := 1) (own_mke2 l Z a0 hw [] dE kd cs aH aV aR eL eA ke T107z.heap O108z S_D BD S_CS hcs S_H S_V S_EL F_EL B_EL E_EL n_aRaH n_aRaV) hZ (own_hw hw 33 rfl) (own_hw hw 32 rfl) (by decide) (by decide)) (g := (mkF m 94 #[.val (.int p0), .val (.int p1), .val (.int (1 : Int32)), .val (.int (3 : Int32)), .val (.ref aR), .val (.ref b97z), .unset] [(.int (2 : Int32)), (.ref aR), (.ref b97z)])) rfl (by rw [hml]; rfl) (argsL := [(.ref aR), (.int (2 : Int32))]) (rest := [(.ref b97z)]) (lenOf pd_4053637851 rfl) rfl (by show 2 * 0 + _ ≤ _; exact Nat.le_of_eq rfl) (hb hby at_94) (fun _ _ => ⟨rfl, rfl, (by decide : 10 + 4 ≤ _), (by decide : 39 + 13 ≤ _)⟩)
      dsimp only [Pt.U, Pt.locs, Pt.cells, Pt.slots] at X109z l109z y109z z109z st109z hQ109z
      subst l109z y109z z109z
      obtain ⟨r_109z, rfl, NQ109z, K109zq, r109z_0, r109z_1, r109z_2, r109z_3⟩ := hQ109z
      refine own_go st109z ?_
      have N109z := Fr.app N107z NQ109z
      have O110z := own_ext_keep O108z K109zq all0
      have K110z := K108z.trans K109zq all0
      have lz_r_109z : h0.size ≤ r_109z := Nat.le_trans K108z.1 r109z_2
      have ne_b97z_r_109z : b97z ≠ r_109z := Nat.ne_of_lt (Nat.lt_of_lt_of_le r107z_0.lt r109z_2)
      have ne_r_101z_r_109z : r_101z ≠ r_109z := Nat.ne_of_lt (Nat.lt_of_lt_of_le (((r101z_0.keep K103zq).keep K105zq).keep K107zq).lt r109z_2)
      have ne_arr_103z_r_109z : arr_103z ≠ r_109z := Nat.ne_of_lt (Nat.lt_of_lt_of_le ((r103z_4.keep K105zq).keep K107zq).lt r109z_2)
      have ne_r_105z_r_109z : r_105z ≠ r_109z := Nat.ne_of_lt (Nat.lt_of_lt_of_le (r105z_0.keep K107zq).lt r109z_2)
      show own_G p e below (T109z.setTop (mkF m 97 #[.val (.int p0), .val (.int p1), .val (.int (1 : Int32)), .val (.int (3 : Int32)), .val (.ref aR), .val (.ref b97z), .unset] [(.ref r_109z), (.ref b97z)])) _
      obtain ⟨cq111z, kq111z, qa111z, qb111z, qc111z⟩ := isOf hZ (rfl : T109z.heap = _) (r107z_0.keep K109zq)
      obtain ⟨_, _, ⟨T111z, L111z, k111z, n111z⟩, -, X111z, ⟨Lc111z, hQ111z, l111z, y111z, z111z⟩, st111z⟩ := X109z.virtualBack hx (y := own_m7) (z := own_m7) hown (own_mw hZ hw 126 rfl) (own_mw hZ hw 127 rfl) (notFace_of_selects (args := #[]) (own_mw hZ hw 129 rfl)) (own_mw hZ hw 129 rfl) (own_mw hZ hw 128 rfl) (by decide) (backOf (W := 0) (own_add1F l Z a0 hw [] b97z r_109z arr_103z kk_103z ([(.ref r_101z), (.ref r_105z), .null, .null, .null, .null, .null, .null, .null, .null]) (2 : Int32) (2 : Int32) (10 : Int32) 2 T109z.heap O110z (r107z_0.keep K109zq) fr_b97z r103z_1 r109z_0 (r107z_1.keep K109zq (by simp)) r103z_3 (by decide) (by show (10 : Int32).toInt = ((10 : Nat) : Int); decide) (by show 2 < 10; decide) ne_b97z_arr_103z (r107z_2.keep K109zq (by simp)) (r107z_3.keep K109zq (by simp)) (r107z_4.keep K109zq (by simp))) hZ (own_hw hw 130 rfl) (own_hw hw 6 rfl) (by decide) (by decide)) qa111z qc111z (g := (mkF m 97 #[.val (.int p0), .val (.int p1), .val (.int (1 : Int32)), .val (.int (3 : Int32)), .val (.ref aR), .val (.ref b97z), .unset] [(.ref r_109z), (.ref b97z)])) rfl (by rw [hml]; rfl) (Steps.refl _) (argsL := [(.ref r_109z)]) (rest := []) (lenOf pd_396412080 rfl) rfl (by show 2 * 0 + _ ≤ _; exact Nat.le_of_eq rfl) (hb hby at_97) (fun _ _ => ⟨rfl, rfl, (by decide : 14 + 0 ≤ _), (by decide : 52 + 0 ≤ _)⟩)
      dsimp only [Pt.U, Pt.locs, Pt.cells, Pt.slots] at X111z l111z y111z z111z st111z hQ111z
      subst l111z y111z z111z
      obtain ⟨rfl, NQ111z, K111zq, r111z_0, r111z_1, r111z_2, r111z_3, r111z_4⟩ := hQ111z
      refine own_tr st111z ?_
      have N111z := Fr.app N109z NQ111z
      have O112z := own_ext_keep O110z K111zq (allS fr_b97z (allS r103z_1 all0))
      have K112z := K110z.trans K111zq (allS (Or.inr lz_b97z) (allS (Or.inr lz_arr_103z) all0))
      have r111z_1 : own_A Z T111z.heap arr_103z kk_103z (.object own_s2) [(.ref r_101z), (.ref r_105z), (.ref r_109z), .null, .null, .null, .null, .null, .null, .null] := r111z_1
      have r111z_2 : Fld Z T111z.heap b97z own_s7 "modCount" "I" (.int (3 : Int32)) := r111z_2
      have r111z_4 : Fld Z T111z.heap b97z own_s1 "size" "I" (.int (3 : Int32)) := r111z_4
      show own_G p e below (T111z.setTop (mkF m 100 #[.val (.int p0), .val (.int p1), .val (.int (1 : Int32)), .val (.int (3 : Int32)), .val (.ref aR), .val (.ref b97z), .unset] [(.int (1 : Int32))])) _
      refine own_go (fun t k => XS.pop X111z.here hx rfl (hb hby at_100) rfl rfl k) ?_
      obtain ⟨T113z, h113z, X113z, e113z, E113z, A113z, D113z, -, st113z⟩ := newO X111z hx hZ hown (own_hw hw 155 rfl) (own_hw hw 156 rfl) (own_hw hw 157 rfl) rfl (g := (mkF m 101 #[.val (.int p0), .val (.int p1), .val (.int (1 : Int32)), .val (.int (3 : Int32)), .val (.ref aR), .val (.ref b97z), .unset] [])) rfl (hb hby at_101) (by decide) (by decide)
      obtain ⟨b113z, g113z⟩ : ∃ z, z = T111z.heap.size := ⟨_, rfl⟩
      rw [← g113z] at A113z D113z st113z
      have fr_b113z : Z.heap.size ≤ b113z := g113z ▸ O112z.1
      have lz_b113z : h0.size ≤ b113z := g113z ▸ K112z.1
      have ne_b97z_b113z : b97z ≠ b113z := Nat.ne_of_lt (g113z ▸ r111z_0.lt)
      have f114z := (((((r101z_0.keep K103zq).keep K105zq).keep K107zq).keep K109zq).keep K111zq)
      have ne_r_101z_b113z : r_101z ≠ b113z := Nat.ne_of_lt (g113z ▸ f114z.lt)
      have f115z := ((((r103z_4.keep K105zq).keep K107zq).keep K109zq).keep K111zq)
      have ne_arr_103z_b113z : arr_103z ≠ b113z := Nat.ne_of_lt (g113z ▸ f115z.lt)
      have ne_r_105z_b113z : r_105z ≠ b113z := Nat.ne_of_lt (g113z ▸ (((r105z_0.keep K107zq).keep K109zq).keep K111zq).lt)
      have ne_r_109z_b113z : r_109z ≠ b113z := Nat.ne_of_lt (g113z ▸ (r109z_0.keep K111zq).lt)
      have O116z := own_ext_trans O112z E113z
      have K116z := K112z.ext E113z
      have F113z_fragments : Fld Z h113z b113z own_s8 "fragments" own_s16 .null := D113z (Or.inr (own_hw hw 227 rfl)) (ty := (.object own_s15)) (by decide)
      refine own_go st113z ?_
      refine own_go (fun t k => XS.dup X113z.here hx rfl (hb hby at_104) rfl rfl k) ?_
      refine own_go (fun t k => XS.aload X113z.here hx rfl (hb hby at_105) rfl rfl k) ?_
      have f117z := ((((r105z_0.keep K107zq).keep K109zq).keep K111zq).ext E113z)
      obtain ⟨_, _, ⟨T118z, L118z, k118z, n118z⟩, -, X118z, ⟨Lc118z, hQ118z, l118z, y118z, z118z⟩, st118z⟩ := X113z.specialBack hx (y := own_m37) rfl hown (own_mw hZ hw 158 rfl) (own_mw hZ hw 159 rfl) (own_mw hZ hw 160 rfl) (by decide) (backOf (W := 1) (own_di3 l Z a0 hw [] b113z b97z arr_103z kk_103z mi eM r_101z r_105z r_109z h113z O116z MI S_EM A113z fr_b113z F113z_fragments (r111z_0.ext E113z) (r111z_1.ext E113z) (f115z.ext E113z) (r111z_3.ext E113z) (r111z_4.ext E113z) (f114z.ext E113z) f117z ((r109z_0.keep K111zq).ext E113z)) hZ (own_hw hw 160 rfl) (own_hw hw 157 rfl) (by decide) (by decide)) (g := (mkF m 107 #[.val (.int p0), .val (.int p1), .val (.int (1 : Int32)), .val (.int (3 : Int32)), .val (.ref aR), .val (.ref b97z), .unset] [(.ref b97z), (.ref b113z), (.ref b113z)])) rfl (by rw [hml]; rfl) (Steps.refl _) (a := b113z) (argsL := [(.ref b97z)]) (rest := [(.ref b113z)]) (lenOf pd_219446285 rfl) rfl (by show 2 * 0 + _ ≤ _; exact Nat.le_of_eq rfl) (hb hby at_107) (fun _ _ => ⟨rfl, e113z, (by decide : 15 + 3 ≤ _), (by decide : 53 + 8 ≤ _)⟩)
      dsimp only [Pt.U, Pt.locs, Pt.cells, Pt.slots] at X118z l118z y118z z118z st118z hQ118z
      subst l118z y118z z118z
      obtain ⟨r_118z, er_118z, ke_118z, rfl, NQ118z, K118zq, r118z_0, r118z_1, r118z_2, r118z_3, r118z_4⟩ := hQ118z
      refine own_tr st118z ?_
      have N118z := Fr.app N111z NQ118z
      have O119z := own_ext_keep O116z K118zq (allS fr_b113z all0)
      have K119z := K116z.trans K118zq (allS (Or.inr lz_b113z) all0)
      show own_G p e below (T118z.setTop (mkF m 110 #[.val (.int p0), .val (.int p1), .val (.int (1 : Int32)), .val (.int (3 : Int32)), .val (.ref aR), .val (.ref b97z), .unset] [(.ref b113z)])) _
      refine own_go (fun t k => XS.astore X118z.here hx rfl (hb hby at_110) rfl rfl (l' := #[.val (.int p0), .val (.int p1), .val (.int (1 : Int32)), .val (.int (3 : Int32)), .val (.ref aR), .val (.ref b97z), .val (.ref b113z)]) rfl k) ?_
      refine own_go (fun t k => XS.aload X118z.here hx rfl (hb hby at_112) rfl rfl k) ?_
      have f120z := (((((((r101z_3.keep K103zq (by simp only [List.mem_cons, List.not_mem_nil, or_false, not_or]; exact (Ne.symm ne_b97z_r_101z))).keep K105zq (by simp)).keep K107zq (by simp only [List.mem_cons, List.not_mem_nil, or_false, not_or]; exact ⟨(Ne.symm ne_b97z_r_101z), ne_r_101z_arr_103z⟩)).keep K109zq (by simp)).keep K111zq (by simp only [List.mem_cons, List.not_mem_nil, or_false, not_or]; exact ⟨(Ne.symm ne_b97z_r_101z), ne_r_101z_arr_103z⟩)).ext E113z).keep K118zq (by simp only [List.mem_cons, List.not_mem_nil, or_false, not_or]; exact ne_r_101z_b113z))
      obtain ⟨cq121z, kq121z, qa121z, qb121z, qc121z⟩ := isOf hZ (rfl : T118z.heap = _) r118z_0
      obtain ⟨_, _, ⟨T121z, L121z, k121z, n121z⟩, -, X121z, ⟨Lc121z, hQ121z, l121z, y121z, z121z⟩, st121z⟩ := X118z.virtualBack hx (y := own_m41) (z := own_m41) hown (own_mw hZ hw 228 rfl) (own_mw hZ hw 229 rfl) (notFace_of_selects (args := #[]) (own_mw hZ hw 231 rfl)) (own_mw hZ hw 231 rfl) (own_mw hZ hw 230 rfl) (by decide) (backOf (W := 0) (own_dk1 l Z a0 hw [] b113z r_118z r_101z aR er_118z ke_118z r_105z r_109z T118z.heap O119z r118z_1 r118z_2 r118z_3 r118z_4 ((f114z.ext E113z).keep K118zq) f120z) hZ (own_hw hw 232 rfl) (own_hw hw 157 rfl) (by decide) (by decide)) qa121z qc121z (g := (mkF m 114 #[.val (.int p0), .val (.int p1), .val (.int (1 : Int32)), .val (.int (3 : Int32)), .val (.ref aR), .val (.ref b97z), .val (.ref b113z)] [(.ref b113z)])) rfl (by rw [hml]; rfl) (Steps.refl _) (argsL := []) (rest := []) (lenOf pd_3046010860 rfl) rfl (by show 2 * 0 + _ ≤ _; exact Nat.le_of_eq rfl) (hb hby at_114) (fun _ _ => ⟨rfl, rfl, (by decide : 18 + 0 ≤ _), (by decide : 61 + 0 ≤ _)⟩)
      dsimp only [Pt.U, Pt.locs, Pt.cells, Pt.slots] at X121z l121z y121z z121z st121z hQ121z
      subst l121z y121z z121z
      obtain ⟨rfl, NQ121z, K121zq⟩ := hQ121z
      refine own_tr st121z ?_
      have N121z := Fr.app N118z NQ121z
      show own_G p e below (T121z.setTop (mkF m 117 #[.val (.int p0), .val (.int p1), .val (.int (1 : Int32)), .val (.int (3 : Int32)), .val (.ref aR), .val (.ref b97z), .val (.ref b113z)] [(.ref aR)])) _
      refine own_go (fun t k => XS.aload X121z.here hx rfl (hb hby at_117) rfl rfl k) ?_
      refine own_go (fun t k => Jvm.RoadKit.acmp (g := (mkF m 119 #[.val (.int p0), .val (.int p1), .val (.int (1 : Int32)), .val (.int (3 : Int32)), .val (.ref aR), .val (.ref b97z), .val (.ref b113z)] [(.ref aR), (.ref aR)])) X121z hx rfl rfl rfl (pc0 := 119) (pc' := 122) (same := true) rfl (hb hby at_119) rfl (decide_eq_true (congrArg Value.ref rfl)) (by decide) (by decide) k) ?_
      show own_G p e below (T121z.setTop (mkF m 122 #[.val (.int p0), .val (.int p1), .val (.int (1 : Int32)), .val (.int (3 : Int32)), .val (.ref aR), .val (.ref b97z), .val (.ref b113z)] [])) _
      refine own_go (fun t k => XS.iconst X121z.here hx rfl (hb hby at_122) k) ?_
      refine own_go (fun t k => XS.goto X121z.here hx rfl (pc0 := 123) (pc' := 127) rfl (hb hby at_123) (by decide) (by decide) k) ?_
      show own_G p e below (T121z.setTop (mkF m 127 #[.val (.int p0), .val (.int p1), .val (.int (1 : Int32)), .val (.int (3 : Int32)), .val (.ref aR), .val (.ref b97z), .val (.ref b113z)] [(.int (1 : Int32))])) _
      exact own_ret X121z hx Bd.returns rfl (Or.inl ⟨rfl, Or.inr (Or.inl rfl), _, rfl⟩) (hb hby at_127) hlk (Nat.le_of_ble_eq_true rfl) (Nat.le_of_ble_eq_true rfl) (by show Q_own_law Z p0 p1 aS aH aV aR dE kd cs mi eM eL eA ke h0 _ T121z.heap _; rw [K121zq]; exact ⟨rfl, N121z, K119z⟩)
  · rw [hkkk]
    show own_G p e below (s₁.setTop (mkF m 6 #[.val (.int p0), .val (.int p1), .unset, .unset, .unset, .unset, .unset] [(.int (2 : Int32))])) _
    refine own_go (fun t k => XS.istoreN X0.here hx rfl (hb hby at_6) rfl (l' := #[.val (.int p0), .val (.int p1), .val (.int (2 : Int32)), .unset, .unset, .unset, .unset]) rfl k) ?_
    refine own_go (fun t k => XS.iconst X0.here hx rfl (hb hby at_7) k) ?_
    refine own_go (fun t k => XS.iloadN X0.here hx rfl (hb hby at_8) rfl k) ?_
    refine own_go (fun t k => X0.ldcI hx hown (mvT hZ (own_hw hw 0 rfl)) rfl (hb hby at_9) k) ?_
    refine own_go (fun t k => XS.iand X0.here hx rfl (hb hby at_11) rfl k) ?_
    refine own_go (fun t k => XS.iconst X0.here hx rfl (hb hby at_12) k) ?_
    refine own_go (fun t k => iremM X0 hx rfl (hb hby at_13) rfl (by decide) k) ?_
    show own_G p e below (s₁.setTop (mkF m 14 #[.val (.int p0), .val (.int p1), .val (.int (2 : Int32)), .unset, .unset, .unset, .unset] [(.int ((p1 &&& (2147483647 : Int32)) % (3 : Int32))), (.int (1 : Int32))])) _
    rcases own_mod3 p1 with hknn | hknn | hknn
    · rw [hknn]
      show own_G p e below (s₁.setTop (mkF m 14 #[.val (.int p0), .val (.int p1), .val (.int (2 : Int32)), .unset, .unset, .unset, .unset] [(.int (0 : Int32)), (.int (1 : Int32))])) _
      refine own_go (fun t k => XS.iadd X0.here hx rfl (hb hby at_14) rfl k) ?_
      refine own_go (fun t k => XS.istoreN X0.here hx rfl (hb hby at_15) rfl (l' := #[.val (.int p0), .val (.int p1), .val (.int (2 : Int32)), .val (.int (1 : Int32)), .unset, .unset, .unset]) rfl k) ?_
      refine own_go (fun t k => XS.iloadN X0.here hx rfl (hb hby at_16) rfl k) ?_
      refine own_go (fun t k => XS.ifYes X0.here hx rfl (pc0 := 17) (pc' := 28) rfl (hb hby at_17) rfl ((if0 _ _).trans (feq (by decide : ¬ ((2 : Int32) = (0 : Int32)))).2) (by decide) (by decide) k) ?_
      show own_G p e below (s₁.setTop (mkF m 28 #[.val (.int p0), .val (.int p1), .val (.int (2 : Int32)), .val (.int (1 : Int32)), .unset, .unset, .unset] [])) _
      refine own_go (fun t k => XS.iloadN X0.here hx rfl (hb hby at_28) rfl k) ?_
      refine own_go (fun t k => XS.iconst X0.here hx rfl (hb hby at_29) k) ?_
      refine own_go (fun t k => XS.icmpYes X0.here hx rfl (pc0 := 30) (pc' := 41) rfl (hb hby at_30) rfl (feq (by decide : ¬ ((2 : Int32) = (1 : Int32)))).2 (by decide) (by decide) k) ?_
      show own_G p e below (s₁.setTop (mkF m 41 #[.val (.int p0), .val (.int p1), .val (.int (2 : Int32)), .val (.int (1 : Int32)), .unset, .unset, .unset] [])) _
      obtain ⟨T122z, X122z, e122z, st122z⟩ := getS2 X0 hx hZ hown (host := "") (Or.inl (own_hw hw 34 rfl)) Via.refl e0 (S_H.ext O0) (g := (mkF m 41 #[.val (.int p0), .val (.int p1), .val (.int (2 : Int32)), .val (.int (1 : Int32)), .unset, .unset, .unset] [])) rfl (hb hby at_41)
      refine own_go st122z ?_
      refine own_go (fun t k => XS.astore X122z.here hx rfl (hb hby at_44) rfl rfl (l' := #[.val (.int p0), .val (.int p1), .val (.int (2 : Int32)), .val (.int (1 : Int32)), .val (.ref aH), .unset, .unset]) rfl k) ?_
      obtain ⟨T123z, h123z, X123z, e123z, E123z, A123z, D123z, -, st123z⟩ := newO X122z hx hZ hown (own_hw hw 4 rfl) (own_hw hw 5 rfl) (own_hw hw 6 rfl) e122z (g := (mkF m 46 #[.val (.int p0), .val (.int p1), .val (.int (2 : Int32)), .val (.int (1 : Int32)), .val (.ref aH), .unset, .unset] [])) rfl (hb hby at_46) (by decide) (by decide)
      obtain ⟨b123z, g123z⟩ : ∃ z, z = h0.size := ⟨_, rfl⟩
      rw [← g123z] at A123z D123z st123z
      have fr_b123z : Z.heap.size ≤ b123z := g123z ▸ O0.1
      have lz_b123z : h0.size ≤ b123z := g123z ▸ K0.1
      have O124z := own_ext_trans O0 E123z
      have K124z := K0.ext E123z
      have F123z_modCount : Fld Z h123z b123z own_s7 "modCount" "I" (.int (0 : Int32)) := D123z (Or.inl (own_hw hw 26 rfl)) (ty := .int) (by decide)
      have F123z_elementData : Fld Z h123z b123z own_s1 "elementData" own_s3 .null := D123z (Or.inl (own_hw hw 29 rfl)) (ty := (.array (.object own_s2))) (by decide)
      have F123z_size : Fld Z h123z b123z own_s1 "size" "I" (.int (0 : Int32)) := D123z (Or.inl (own_hw hw 96 rfl)) (ty := .int) (by decide)
      refine own_go st123z ?_
      refine own_go (fun t k => XS.dup X123z.here hx rfl (hb hby at_49) rfl rfl k) ?_
      obtain ⟨_, _, ⟨T125z, L125z, k125z, n125z⟩, -, X125z, ⟨Lc125z, hQ125z, l125z, y125z, z125z⟩, st125z⟩ := X123z.specialBack hx (y := own_m2) rfl hown (own_mw hZ hw 7 rfl) (own_mw hZ hw 8 rfl) (own_mw hZ hw 9 rfl) (by decide) (backOf (W := 1) (own_ali l Z a0 hw [] b123z dE h123z O124z S_D A123z fr_b123z F123z_modCount F123z_elementData F123z_size) hZ (own_hw hw 9 rfl) (own_hw hw 6 rfl) (by decide) (by decide)) (g := (mkF m 50 #[.val (.int p0), .val (.int p1), .val (.int (2 : Int32)), .val (.int (1 : Int32)), .val (.ref aH), .unset, .unset] [(.ref b123z), (.ref b123z)])) rfl (by rw [hml]; rfl) (Steps.refl _) (a := b123z) (argsL := []) (rest := [(.ref b123z)]) (lenOf pd_193421996 rfl) rfl (by show 2 * 0 + _ ≤ _; exact Nat.le_of_eq rfl) (hb hby at_50) (fun _ _ => ⟨rfl, e123z, (by decide : 1 + 0 ≤ _), (by decide : 3 + 0 ≤ _)⟩)
      dsimp only [Pt.U, Pt.locs, Pt.cells, Pt.slots] at X125z l125z y125z z125z st125z hQ125z
      subst l125z y125z z125z
      obtain ⟨rfl, NQ125z, K125zq, r125z_0, r125z_1, r125z_2, r125z_3⟩ := hQ125z
      refine own_tr st125z ?_
      have N125z := Fr.app N0 NQ125z
      have O126z := own_ext_keep O124z K125zq (allS fr_b123z all0)
      have K126z := K124z.trans K125zq (allS (Or.inr lz_b123z) all0)
      show own_G p e below (T125z.setTop (mkF m 53 #[.val (.int p0), .val (.int p1), .val (.int (2 : Int32)), .val (.int (1 : Int32)), .val (.ref aH), .unset, .unset] [(.ref b123z)])) _
      refine own_go (fun t k => XS.astore X125z.here hx rfl (hb hby at_53) rfl rfl (l' := #[.val (.int p0), .val (.int p1), .val (.int (2 : Int32)), .val (.int (1 : Int32)), .val (.ref aH), .val (.ref b123z), .unset]) rfl k) ?_
      refine own_go (fun t k => XS.aload X125z.here hx rfl (hb hby at_55) rfl rfl k) ?_
      refine own_go (fun t k => XS.aload X125z.here hx rfl (hb hby at_57) rfl rfl k) ?_
      refine own_go (fun t k => XS.iconst X125z.here hx rfl (hb hby at_59) k) ?_
      obtain ⟨_, _, ⟨T127z, L127z, k127z, n127z⟩, -, X127z, ⟨Lc127z, hQ127z, l127z, y127z, z127z⟩, st127z⟩ := Jvm.LawKit.callS X125z hx (y := own_m36) hown (own_mw hZ hw 30 rfl) (own_mw hZ hw 31 rfl) (own_mw hZ hw 32 rfl) (own_mw hZ hw 33 rfl) (by decide) (backOf (W := 1) (own_mkh0 l Z a0 hw [] dE kd cs aH aV mi eM T125z.heap O126z S_D BD S_CS hcs S_H S_V MI S_EM n_aHaV) hZ (own_hw hw 33 rfl) (own_hw hw 32 rfl) (by decide) (by decide)) (g := (mkF m 60 #[.val (.int p0), .val (.int p1), .val (.int (2 : Int32)), .val (.int (1 : Int32)), .val (.ref aH), .val (.ref b123z), .unset] [(.int (0 : Int32)), (.ref aH), (.ref b123z)])) rfl (by rw [hml]; rfl) (argsL := [(.ref aH), (.int (0 : Int32))]) (rest := [(.ref b123z)]) (lenOf pd_4053637851 rfl) rfl (by show 2 * 0 + _ ≤ _; exact Nat.le_of_eq rfl) (hb hby at_60) (fun _ _ => ⟨rfl, rfl, (by decide : 1 + 8 ≤ _), (by decide : 3 + 29 ≤ _)⟩)
      dsimp only [Pt.U, Pt.locs, Pt.cells, Pt.slots] at X127z l127z y127z z127z st127z hQ127z
      subst l127z y127z z127z
      obtain ⟨r_127z, rfl, NQ127z, K127zq, r127z_0, r127z_1, r127z_2, r127z_3⟩ := hQ127z
      refine own_go st127z ?_
      have N127z := Fr.app N125z NQ127z
      have O128z := own_ext_keep O126z K127zq all0
      have K128z := K126z.trans K127zq all0
      have lz_r_127z : h0.size ≤ r_127z := Nat.le_trans K126z.1 r127z_2
      have ne_b123z_r_127z : b123z ≠ r_127z := Nat.ne_of_lt (Nat.lt_of_lt_of_le r125z_0.lt r127z_2)
      show own_G p e below (T127z.setTop (mkF m 63 #[.val (.int p0), .val (.int p1), .val (.int (2 : Int32)), .val (.int (1 : Int32)), .val (.ref aH), .val (.ref b123z), .unset] [(.ref r_127z), (.ref b123z)])) _
      obtain ⟨cq129z, kq129z, qa129z, qb129z, qc129z⟩ := isOf hZ (rfl : T127z.heap = _) (r125z_0.keep K127zq)
      obtain ⟨_, _, ⟨T129z, L129z, k129z, n129z⟩, -, X129z, ⟨Lc129z, hQ129z, l129z, y129z, z129z⟩, st129z⟩ := X127z.virtualBack hx (y := own_m7) (z := own_m7) hown (own_mw hZ hw 126 rfl) (own_mw hZ hw 127 rfl) (notFace_of_selects (args := #[]) (own_mw hZ hw 129 rfl)) (own_mw hZ hw 129 rfl) (own_mw hZ hw 128 rfl) (by decide) (backOf (W := 0) (own_add10F l Z a0 hw [] b123z (0 : Int32) dE kd r_127z T127z.heap O128z S_D BD (r125z_0.keep K127zq) fr_b123z (r125z_1.keep K127zq (by simp)) (r125z_2.keep K127zq (by simp)) (r125z_3.keep K127zq (by simp)) r127z_0) hZ (own_hw hw 130 rfl) (own_hw hw 6 rfl) (by decide) (by decide)) qa129z qc129z (g := (mkF m 63 #[.val (.int p0), .val (.int p1), .val (.int (2 : Int32)), .val (.int (1 : Int32)), .val (.ref aH), .val (.ref b123z), .unset] [(.ref r_127z), (.ref b123z)])) rfl (by rw [hml]; rfl) (Steps.refl _) (argsL := [(.ref r_127z)]) (rest := []) (lenOf pd_396412080 rfl) rfl (by show 2 * 0 + _ ≤ _; exact Nat.le_of_eq rfl) (hb hby at_63) (fun _ _ => ⟨rfl, rfl, (by decide : 9 + 1 ≤ _), (by decide : 32 + 10 ≤ _)⟩)
      dsimp only [Pt.U, Pt.locs, Pt.cells, Pt.slots] at X129z l129z y129z z129z st129z hQ129z
      subst l129z y129z z129z
      obtain ⟨arr_129z, kk_129z, rfl, NQ129z, K129zq, r129z_0, r129z_1, r129z_2, r129z_3, r129z_4, r129z_5, r129z_6, r129z_7, r129z_8⟩ := hQ129z
      refine own_tr st129z ?_
      have N129z := Fr.app N127z NQ129z
      have O130z := own_ext_keep O128z K129zq (allS fr_b123z all0)
      have K130z := K128z.trans K129zq (allS (Or.inr lz_b123z) all0)
      have lz_arr_129z : h0.size ≤ arr_129z := Nat.le_trans K128z.1 r129z_2
      have ne_b123z_arr_129z : b123z ≠ arr_129z := Nat.ne_of_lt (Nat.lt_of_lt_of_le (r125z_0.keep K127zq).lt r129z_2)
      have ne_r_127z_arr_129z : r_127z ≠ arr_129z := Nat.ne_of_lt (Nat.lt_of_lt_of_le r127z_0.lt r129z_2)
      have r129z_6 : Fld Z T129z.heap b123z own_s7 "modCount" "I" (.int (1 : Int32)) := r129z_6
      show own_G p e below (T129z.setTop (mkF m 66 #[.val (.int p0), .val (.int p1), .val (.int (2 : Int32)), .val (.int (1 : Int32)), .val (.ref aH), .val (.ref b123z), .unset] [(.int (1 : Int32))])) _
      refine own_go (fun t k => XS.pop X129z.here hx rfl (hb hby at_66) rfl rfl k) ?_
      refine own_go (fun t k => XS.iloadN X129z.here hx rfl (hb hby at_67) rfl k) ?_
      refine own_go (fun t k => XS.iconst X129z.here hx rfl (hb hby at_68) k) ?_
      refine own_go (fun t k => XS.icmpYes X129z.here hx rfl (pc0 := 69) (pc' := 84) rfl (hb hby at_69) rfl (flt (by decide : ¬ ((1 : Int32) < (1 : Int32)))).2.2.2 (by decide) (by decide) k) ?_
      show own_G p e below (T129z.setTop (mkF m 84 #[.val (.int p0), .val (.int p1), .val (.int (2 : Int32)), .val (.int (1 : Int32)), .val (.ref aH), .val (.ref b123z), .unset] [])) _
      refine own_go (fun t k => XS.iloadN X129z.here hx rfl (hb hby at_84) rfl k) ?_
      refine own_go (fun t k => XS.iconst X129z.here hx rfl (hb hby at_85) k) ?_
      refine own_go (fun t k => XS.icmpYes X129z.here hx rfl (pc0 := 86) (pc' := 101) rfl (hb hby at_86) rfl (flt (by decide : ¬ ((2 : Int32) < (1 : Int32)))).2.2.2 (by decide) (by decide) k) ?_
      show own_G p e below (T129z.setTop (mkF m 101 #[.val (.int p0), .val (.int p1), .val (.int (2 : Int32)), .val (.int (1 : Int32)), .val (.ref aH), .val (.ref b123z), .unset] [])) _
      obtain ⟨T131z, h131z, X131z, e131z, E131z, A131z, D131z, -, st131z⟩ := newO X129z hx hZ hown (own_hw hw 155 rfl) (own_hw hw 156 rfl) (own_hw hw 157 rfl) rfl (g := (mkF m 101 #[.val (.int p0), .val (.int p1), .val (.int (2 : Int32)), .val (.int (1 : Int32)), .val (.ref aH), .val (.ref b123z), .unset] [])) rfl (hb hby at_101) (by decide) (by decide)
      obtain ⟨b131z, g131z⟩ : ∃ z, z = T129z.heap.size := ⟨_, rfl⟩
      rw [← g131z] at A131z D131z st131z
      have fr_b131z : Z.heap.size ≤ b131z := g131z ▸ O130z.1
      have lz_b131z : h0.size ≤ b131z := g131z ▸ K130z.1
      have ne_b123z_b131z : b123z ≠ b131z := Nat.ne_of_lt (g131z ▸ r129z_0.lt)
      have ne_r_127z_b131z : r_127z ≠ b131z := Nat.ne_of_lt (g131z ▸ (r127z_0.keep K129zq).lt)
      have ne_arr_129z_b131z : arr_129z ≠ b131z := Nat.ne_of_lt (g131z ▸ r129z_4.lt)
      have O132z := own_ext_trans O130z E131z
      have K132z := K130z.ext E131z
      have F131z_fragments : Fld Z h131z b131z own_s8 "fragments" own_s16 .null := D131z (Or.inr (own_hw hw 227 rfl)) (ty := (.object own_s15)) (by decide)
      refine own_go st131z ?_
      refine own_go (fun t k => XS.dup X131z.here hx rfl (hb hby at_104) rfl rfl k) ?_
      refine own_go (fun t k => XS.aload X131z.here hx rfl (hb hby at_105) rfl rfl k) ?_
      obtain ⟨_, _, ⟨T133z, L133z, k133z, n133z⟩, -, X133z, ⟨Lc133z, hQ133z, l133z, y133z, z133z⟩, st133z⟩ := X131z.specialBack hx (y := own_m37) rfl hown (own_mw hZ hw 158 rfl) (own_mw hZ hw 159 rfl) (own_mw hZ hw 160 rfl) (by decide) (backOf (W := 1) (own_di1 l Z a0 hw [] b131z b123z arr_129z kk_129z mi eM r_127z h131z O132z MI S_EM A131z fr_b131z F131z_fragments (r129z_0.ext E131z) (r129z_5.ext E131z) (r129z_4.ext E131z) (r129z_7.ext E131z) (r129z_8.ext E131z) ((r127z_0.keep K129zq).ext E131z)) hZ (own_hw hw 160 rfl) (own_hw hw 157 rfl) (by decide) (by decide)) (g := (mkF m 107 #[.val (.int p0), .val (.int p1), .val (.int (2 : Int32)), .val (.int (1 : Int32)), .val (.ref aH), .val (.ref b123z), .unset] [(.ref b123z), (.ref b131z), (.ref b131z)])) rfl (by rw [hml]; rfl) (Steps.refl _) (a := b131z) (argsL := [(.ref b123z)]) (rest := [(.ref b131z)]) (lenOf pd_219446285 rfl) rfl (by show 2 * 0 + _ ≤ _; exact Nat.le_of_eq rfl) (hb hby at_107) (fun _ _ => ⟨rfl, e131z, (by decide : 11 + 2 ≤ _), (by decide : 43 + 3 ≤ _)⟩)
      dsimp only [Pt.U, Pt.locs, Pt.cells, Pt.slots] at X133z l133z y133z z133z st133z hQ133z
      subst l133z y133z z133z
      obtain ⟨r_133z, rfl, NQ133z, K133zq, r133z_0, r133z_1, r133z_2, r133z_3⟩ := hQ133z
      refine own_tr st133z ?_
      have N133z := Fr.app N129z NQ133z
      have O134z := own_ext_keep O132z K133zq (allS fr_b131z all0)
      have K134z := K132z.trans K133zq (allS (Or.inr lz_b131z) all0)
      show own_G p e below (T133z.setTop (mkF m 110 #[.val (.int p0), .val (.int p1), .val (.int (2 : Int32)), .val (.int (1 : Int32)), .val (.ref aH), .val (.ref b123z), .unset] [(.ref b131z)])) _
      refine own_go (fun t k => XS.astore X133z.here hx rfl (hb hby at_110) rfl rfl (l' := #[.val (.int p0), .val (.int p1), .val (.int (2 : Int32)), .val (.int (1 : Int32)), .val (.ref aH), .val (.ref b123z), .val (.ref b131z)]) rfl k) ?_
      refine own_go (fun t k => XS.aload X133z.here hx rfl (hb hby at_112) rfl rfl k) ?_
      have f135z := (((r127z_3.keep K129zq (by simp only [List.mem_cons, List.not_mem_nil, or_false, not_or]; exact (Ne.symm ne_b123z_r_127z))).ext E131z).keep K133zq (by simp only [List.mem_cons, List.not_mem_nil, or_false, not_or]; exact ne_r_127z_b131z))
      obtain ⟨cq136z, kq136z, qa136z, qb136z, qc136z⟩ := isOf hZ (rfl : T133z.heap = _) r133z_0
      obtain ⟨_, _, ⟨T136z, L136z, k136z, n136z⟩, -, X136z, ⟨Lc136z, hQ136z, l136z, y136z, z136z⟩, st136z⟩ := X133z.virtualBack hx (y := own_m41) (z := own_m41) hown (own_mw hZ hw 228 rfl) (own_mw hZ hw 229 rfl) (notFace_of_selects (args := #[]) (own_mw hZ hw 231 rfl)) (own_mw hZ hw 231 rfl) (own_mw hZ hw 230 rfl) (by decide) (backOf (W := 0) (own_dk0 l Z a0 hw [] b131z r_133z r_127z aH T133z.heap O134z r133z_1 r133z_2 r133z_3 (((r127z_0.keep K129zq).ext E131z).keep K133zq) f135z) hZ (own_hw hw 232 rfl) (own_hw hw 157 rfl) (by decide) (by decide)) qa136z qc136z (g := (mkF m 114 #[.val (.int p0), .val (.int p1), .val (.int (2 : Int32)), .val (.int (1 : Int32)), .val (.ref aH), .val (.ref b123z), .val (.ref b131z)] [(.ref b131z)])) rfl (by rw [hml]; rfl) (Steps.refl _) (argsL := []) (rest := []) (lenOf pd_3046010860 rfl) rfl (by show 2 * 0 + _ ≤ _; exact Nat.le_of_eq rfl) (hb hby at_114) (fun _ _ => ⟨rfl, rfl, (by decide : 13 + 0 ≤ _), (by decide : 46 + 0 ≤ _)⟩)
      dsimp only [Pt.U, Pt.locs, Pt.cells, Pt.slots] at X136z l136z y136z z136z st136z hQ136z
      subst l136z y136z z136z
      obtain ⟨rfl, NQ136z, K136zq⟩ := hQ136z
      refine own_tr st136z ?_
      have N136z := Fr.app N133z NQ136z
      show own_G p e below (T136z.setTop (mkF m 117 #[.val (.int p0), .val (.int p1), .val (.int (2 : Int32)), .val (.int (1 : Int32)), .val (.ref aH), .val (.ref b123z), .val (.ref b131z)] [(.ref aH)])) _
      refine own_go (fun t k => XS.aload X136z.here hx rfl (hb hby at_117) rfl rfl k) ?_
      refine own_go (fun t k => Jvm.RoadKit.acmp (g := (mkF m 119 #[.val (.int p0), .val (.int p1), .val (.int (2 : Int32)), .val (.int (1 : Int32)), .val (.ref aH), .val (.ref b123z), .val (.ref b131z)] [(.ref aH), (.ref aH)])) X136z hx rfl rfl rfl (pc0 := 119) (pc' := 122) (same := true) rfl (hb hby at_119) rfl (decide_eq_true (congrArg Value.ref rfl)) (by decide) (by decide) k) ?_
      show own_G p e below (T136z.setTop (mkF m 122 #[.val (.int p0), .val (.int p1), .val (.int (2 : Int32)), .val (.int (1 : Int32)), .val (.ref aH), .val (.ref b123z), .val (.ref b131z)] [])) _
      refine own_go (fun t k => XS.iconst X136z.here hx rfl (hb hby at_122) k) ?_
      refine own_go (fun t k => XS.goto X136z.here hx rfl (pc0 := 123) (pc' := 127) rfl (hb hby at_123) (by decide) (by decide) k) ?_
      show own_G p e below (T136z.setTop (mkF m 127 #[.val (.int p0), .val (.int p1), .val (.int (2 : Int32)), .val (.int (1 : Int32)), .val (.ref aH), .val (.ref b123z), .val (.ref b131z)] [(.int (1 : Int32))])) _
      exact own_ret X136z hx Bd.returns rfl (Or.inl ⟨rfl, Or.inr (Or.inl rfl), _, rfl⟩) (hb hby at_127) hlk (Nat.le_of_ble_eq_true rfl) (Nat.le_of_ble_eq_true rfl) (by show Q_own_law Z p0 p1 aS aH aV aR dE kd cs mi eM eL eA ke h0 _ T136z.heap _; rw [K136zq]; exact ⟨rfl, N136z, K134z⟩)
    · rw [hknn]
      show own_G p e below (s₁.setTop (mkF m 14 #[.val (.int p0), .val (.int p1), .val (.int (2 : Int32)), .unset, .unset, .unset, .unset] [(.int (1 : Int32)), (.int (1 : Int32))])) _
      refine own_go (fun t k => XS.iadd X0.here hx rfl (hb hby at_14) rfl k) ?_
      refine own_go (fun t k => XS.istoreN X0.here hx rfl (hb hby at_15) rfl (l' := #[.val (.int p0), .val (.int p1), .val (.int (2 : Int32)), .val (.int (2 : Int32)), .unset, .unset, .unset]) rfl k) ?_
      refine own_go (fun t k => XS.iloadN X0.here hx rfl (hb hby at_16) rfl k) ?_
      refine own_go (fun t k => XS.ifYes X0.here hx rfl (pc0 := 17) (pc' := 28) rfl (hb hby at_17) rfl ((if0 _ _).trans (feq (by decide : ¬ ((2 : Int32) = (0 : Int32)))).2) (by decide) (by decide) k) ?_
      show own_G p e below (s₁.setTop (mkF m 28 #[.val (.int p0), .val (.int p1), .val (.int (2 : Int32)), .val (.int (2 : Int32)), .unset, .unset, .unset] [])) _
      refine own_go (fun t k => XS.iloadN X0.here hx rfl (hb hby at_28) rfl k) ?_
      refine own_go (fun t k => XS.iconst X0.here hx rfl (hb hby at_29) k) ?_
      refine own_go (fun t k => XS.icmpYes X0.here hx rfl (pc0 := 30) (pc' := 41) rfl (hb hby at_30) rfl (feq (by decide : ¬ ((2 : Int32) = (1 : Int32)))).2 (by decide) (by decide) k) ?_
      show own_G p e below (s₁.setTop (mkF m 41 #[.val (.int p0), .val (.int p1), .val (.int (2 : Int32)), .val (.int (2 : Int32)), .unset, .unset, .unset] [])) _
      obtain ⟨T137z, X137z, e137z, st137z⟩ := getS2 X0 hx hZ hown (host := "") (Or.inl (own_hw hw 34 rfl)) Via.refl e0 (S_H.ext O0) (g := (mkF m 41 #[.val (.int p0), .val (.int p1), .val (.int (2 : Int32)), .val (.int (2 : Int32)), .unset, .unset, .unset] [])) rfl (hb hby at_41)
      refine own_go st137z ?_
      refine own_go (fun t k => XS.astore X137z.here hx rfl (hb hby at_44) rfl rfl (l' := #[.val (.int p0), .val (.int p1), .val (.int (2 : Int32)), .val (.int (2 : Int32)), .val (.ref aH), .unset, .unset]) rfl k) ?_
      obtain ⟨T138z, h138z, X138z, e138z, E138z, A138z, D138z, -, st138z⟩ := newO X137z hx hZ hown (own_hw hw 4 rfl) (own_hw hw 5 rfl) (own_hw hw 6 rfl) e137z (g := (mkF m 46 #[.val (.int p0), .val (.int p1), .val (.int (2 : Int32)), .val (.int (2 : Int32)), .val (.ref aH), .unset, .unset] [])) rfl (hb hby at_46) (by decide) (by decide)
      obtain ⟨b138z, g138z⟩ : ∃ z, z = h0.size := ⟨_, rfl⟩
      rw [← g138z] at A138z D138z st138z
      have fr_b138z : Z.heap.size ≤ b138z := g138z ▸ O0.1
      have lz_b138z : h0.size ≤ b138z := g138z ▸ K0.1
      have O139z := own_ext_trans O0 E138z
      have K139z := K0.ext E138z
      have F138z_modCount : Fld Z h138z b138z own_s7 "modCount" "I" (.int (0 : Int32)) := D138z (Or.inl (own_hw hw 26 rfl)) (ty := .int) (by decide)
      have F138z_elementData : Fld Z h138z b138z own_s1 "elementData" own_s3 .null := D138z (Or.inl (own_hw hw 29 rfl)) (ty := (.array (.object own_s2))) (by decide)
      have F138z_size : Fld Z h138z b138z own_s1 "size" "I" (.int (0 : Int32)) := D138z (Or.inl (own_hw hw 96 rfl)) (ty := .int) (by decide)
      refine own_go st138z ?_
      refine own_go (fun t k => XS.dup X138z.here hx rfl (hb hby at_49) rfl rfl k) ?_
      obtain ⟨_, _, ⟨T140z, L140z, k140z, n140z⟩, -, X140z, ⟨Lc140z, hQ140z, l140z, y140z, z140z⟩, st140z⟩ := X138z.specialBack hx (y := own_m2) rfl hown (own_mw hZ hw 7 rfl) (own_mw hZ hw 8 rfl) (own_mw hZ hw 9 rfl) (by decide) (backOf (W := 1) (own_ali l Z a0 hw [] b138z dE h138z O139z S_D A138z fr_b138z F138z_modCount F138z_elementData F138z_size) hZ (own_hw hw 9 rfl) (own_hw hw 6 rfl) (by decide) (by decide)) (g := (mkF m 50 #[.val (.int p0), .val (.int p1), .val (.int (2 : Int32)), .val (.int (2 : Int32)), .val (.ref aH), .unset, .unset] [(.ref b138z), (.ref b138z)])) rfl (by rw [hml]; rfl) (Steps.refl _) (a := b138z) (argsL := []) (rest := [(.ref b138z)]) (lenOf pd_193421996 rfl) rfl (by show 2 * 0 + _ ≤ _; exact Nat.le_of_eq rfl) (hb hby at_50) (fun _ _ => ⟨rfl, e138z, (by decide : 1 + 0 ≤ _), (by decide : 3 + 0 ≤ _)⟩)
      dsimp only [Pt.U, Pt.locs, Pt.cells, Pt.slots] at X140z l140z y140z z140z st140z hQ140z
      subst l140z y140z z140z
      obtain ⟨rfl, NQ140z, K140zq, r140z_0, r140z_1, r140z_2, r140z_3⟩ := hQ140z
      refine own_tr st140z ?_
      have N140z := Fr.app N0 NQ140z
      have O141z := own_ext_keep O139z K140zq (allS fr_b138z all0)
      have K141z := K139z.trans K140zq (allS (Or.inr lz_b138z) all0)
      show own_G p e below (T140z.setTop (mkF m 53 #[.val (.int p0), .val (.int p1), .val (.int (2 : Int32)), .val (.int (2 : Int32)), .val (.ref aH), .unset, .unset] [(.ref b138z)])) _
      refine own_go (fun t k => XS.astore X140z.here hx rfl (hb hby at_53) rfl rfl (l' := #[.val (.int p0), .val (.int p1), .val (.int (2 : Int32)), .val (.int (2 : Int32)), .val (.ref aH), .val (.ref b138z), .unset]) rfl k) ?_
      refine own_go (fun t k => XS.aload X140z.here hx rfl (hb hby at_55) rfl rfl k) ?_
      refine own_go (fun t k => XS.aload X140z.here hx rfl (hb hby at_57) rfl rfl k) ?_
      refine own_go (fun t k => XS.iconst X140z.here hx rfl (hb hby at_59) k) ?_
      obtain ⟨_, _, ⟨T142z, L142z, k142z, n142z⟩, -, X142z, ⟨Lc142z, hQ142z, l142z, y142z, z142z⟩, st142z⟩ := Jvm.LawKit.callS X140z hx (y := own_m36) hown (own_mw hZ hw 30 rfl) (own_mw hZ hw 31 rfl) (own_mw hZ hw 32 rfl) (own_mw hZ hw 33 rfl) (by decide) (backOf (W := 1) (own_mkh0 l Z a0 hw [] dE kd cs aH aV mi eM T140z.heap O141z S_D BD S_CS hcs S_H S_V MI S_EM n_aHaV) hZ (own_hw hw 33 rfl) (own_hw hw 32 rfl) (by decide) (by decide)) (g := (mkF m 60 #[.val (.int p0), .val (.int p1), .val (.int (2 : Int32)), .val (.int (2 : Int32)), .val (.ref aH), .val (.ref b138z), .unset] [(.int (0 : Int32)), (.ref aH), (.ref b138z)])) rfl (by rw [hml]; rfl) (argsL := [(.ref aH), (.int (0 : Int32))]) (rest := [(.ref b138z)]) (lenOf pd_4053637851 rfl) rfl (by show 2 * 0 + _ ≤ _; exact Nat.le_of_eq rfl) (hb hby at_60) (fun _ _ => ⟨rfl, rfl, (by decide : 1 + 8 ≤ _), (by decide : 3 + 29 ≤ _)⟩)
      dsimp only [Pt.U, Pt.locs, Pt.cells, Pt.slots] at X142z l142z y142z z142z st142z hQ142z
      subst l142z y142z z142z
      obtain ⟨r_142z, rfl, NQ142z, K142zq, r142z_0, r142z_1, r142z_2, r142z_3⟩ := hQ142z
      refine own_go st142z ?_
      have N142z := Fr.app N140z NQ142z
      have O143z := own_ext_keep O141z K142zq all0
      have K143z := K141z.trans K142zq all0
      have lz_r_142z : h0.size ≤ r_142z := Nat.le_trans K141z.1 r142z_2
      have ne_b138z_r_142z : b138z ≠ r_142z := Nat.ne_of_lt (Nat.lt_of_lt_of_le r140z_0.lt r142z_2)
      show own_G p e below (T142z.setTop (mkF m 63 #[.val (.int p0), .val (.int p1), .val (.int (2 : Int32)), .val (.int (2 : Int32)), .val (.ref aH), .val (.ref b138z), .unset] [(.ref r_142z), (.ref b138z)])) _
      obtain ⟨cq144z, kq144z, qa144z, qb144z, qc144z⟩ := isOf hZ (rfl : T142z.heap = _) (r140z_0.keep K142zq)
      obtain ⟨_, _, ⟨T144z, L144z, k144z, n144z⟩, -, X144z, ⟨Lc144z, hQ144z, l144z, y144z, z144z⟩, st144z⟩ := X142z.virtualBack hx (y := own_m7) (z := own_m7) hown (own_mw hZ hw 126 rfl) (own_mw hZ hw 127 rfl) (notFace_of_selects (args := #[]) (own_mw hZ hw 129 rfl)) (own_mw hZ hw 129 rfl) (own_mw hZ hw 128 rfl) (by decide) (backOf (W := 0) (own_add10F l Z a0 hw [] b138z (0 : Int32) dE kd r_142z T142z.heap O143z S_D BD (r140z_0.keep K142zq) fr_b138z (r140z_1.keep K142zq (by simp)) (r140z_2.keep K142zq (by simp)) (r140z_3.keep K142zq (by simp)) r142z_0) hZ (own_hw hw 130 rfl) (own_hw hw 6 rfl) (by decide) (by decide)) qa144z qc144z (g := (mkF m 63 #[.val (.int p0), .val (.int p1), .val (.int (2 : Int32)), .val (.int (2 : Int32)), .val (.ref aH), .val (.ref b138z), .unset] [(.ref r_142z), (.ref b138z)])) rfl (by rw [hml]; rfl) (Steps.refl _) (argsL := [(.ref r_142z)]) (rest := []) (lenOf pd_396412080 rfl) rfl (by show 2 * 0 + _ ≤ _; exact Nat.le_of_eq rfl) (hb hby at_63) (fun _ _ => ⟨rfl, rfl, (by decide : 9 + 1 ≤ _), (by decide : 32 + 10 ≤ _)⟩)
      dsimp only [Pt.U, Pt.locs, Pt.cells, Pt.slots] at X144z l144z y144z z144z st144z hQ144z
      subst l144z y144z z144z
      obtain ⟨arr_144z, kk_144z, rfl, NQ144z, K144zq, r144z_0, r144z_1, r144z_2, r144z_3, r144z_4, r144z_5, r144z_6, r144z_7, r144z_8⟩ := hQ144z
      refine own_tr st144z ?_
      have N144z := Fr.app N142z NQ144z
      have O145z := own_ext_keep O143z K144zq (allS fr_b138z all0)
      have K145z := K143z.trans K144zq (allS (Or.inr lz_b138z) all0)
      have lz_arr_144z : h0.size ≤ arr_144z := Nat.le_trans K143z.1 r144z_2
      have ne_b138z_arr_144z : b138z ≠ arr_144z := Nat.ne_of_lt (Nat.lt_of_lt_of_le (r140z_0.keep K142zq).lt r144z_2)
      have ne_r_142z_arr_144z : r_142z ≠ arr_144z := Nat.ne_of_lt (Nat.lt_of_lt_of_le r142z_0.lt r144z_2)
      have r144z_6 : Fld Z T144z.heap b138z own_s7 "modCount" "I" (.int (1 : Int32)) := r144z_6
      show own_G p e below (T144z.setTop (mkF m 66 #[.val (.int p0), .val (.int p1), .val (.int (2 : Int32)), .val (.int (2 : Int32)), .val (.ref aH), .val (.ref b138z), .unset] [(.int (1 : Int32))])) _
      refine own_go (fun t k => XS.pop X144z.here hx rfl (hb hby at_66) rfl rfl k) ?_
      refine own_go (fun t k => XS.iloadN X144z.here hx rfl (hb hby at_67) rfl k) ?_
      refine own_go (fun t k => XS.iconst X144z.here hx rfl (hb hby at_68) k) ?_
      refine own_go (fun t k => XS.icmpNo X144z.here hx rfl (hb hby at_69) rfl (tlt (by decide : (1 : Int32) < (2 : Int32))).2.2.2 k) ?_
      show own_G p e below (T144z.setTop (mkF m 72 #[.val (.int p0), .val (.int p1), .val (.int (2 : Int32)), .val (.int (2 : Int32)), .val (.ref aH), .val (.ref b138z), .unset] [])) _
      refine own_go (fun t k => XS.aload X144z.here hx rfl (hb hby at_72) rfl rfl k) ?_
      refine own_go (fun t k => XS.aload X144z.here hx rfl (hb hby at_74) rfl rfl k) ?_
      refine own_go (fun t k => XS.iconst X144z.here hx rfl (hb hby at_76) k) ?_
      obtain ⟨_, _, ⟨T146z, L146z, k146z, n146z⟩, -, X146z, ⟨Lc146z, hQ146z, l146z, y146z, z146z⟩, st146z⟩ := Jvm.LawKit.callS X144z hx (y := own_m36) hown (own_mw hZ hw 30 rfl) (own_mw hZ hw 31 rfl) (own_mw hZ hw 32 rfl) (own_mw hZ hw 33 rfl) (by decide) (backOf (W := 1) (own_mkh1 l Z a0 hw [] dE kd cs aH aV mi eM T144z.heap O145z S_D BD S_CS hcs S_H S_V MI S_EM n_aHaV) hZ (own_hw hw 33 rfl) (own_hw hw 32 rfl) (by decide) (by decide)) (g := (mkF m 77 #[.val (.int p0), .val (.int p1), .val (.int (2 : Int32)), .val (.int (2 : Int32)), .val (.ref aH), .val (.ref b138z), .unset] [(.int (1 : Int32)), (.ref aH), (.ref b138z)])) rfl (by rw [hml]; rfl) (argsL := [(.ref aH), (.int (1 : Int32))]) (rest := [(.ref b138z)]) (lenOf pd_4053637851 rfl) rfl (by show 2 * 0 + _ ≤ _; exact Nat.le_of_eq rfl) (hb hby at_77) (fun _ _ => ⟨rfl, rfl, (by decide : 10 + 8 ≤ _), (by decide : 42 + 29 ≤ _)⟩)
      dsimp only [Pt.U, Pt.locs, Pt.cells, Pt.slots] at X146z l146z y146z z146z st146z hQ146z
      subst l146z y146z z146z
      obtain ⟨r_146z, rfl, NQ146z, K146zq, r146z_0, r146z_1, r146z_2, r146z_3⟩ := hQ146z
      refine own_go st146z ?_
      have N146z := Fr.app N144z NQ146z
      have O147z := own_ext_keep O145z K146zq all0
      have K147z := K145z.trans K146zq all0
      have lz_r_146z : h0.size ≤ r_146z := Nat.le_trans K145z.1 r146z_2
      have ne_b138z_r_146z : b138z ≠ r_146z := Nat.ne_of_lt (Nat.lt_of_lt_of_le r144z_0.lt r146z_2)
      have ne_r_142z_r_146z : r_142z ≠ r_146z := Nat.ne_of_lt (Nat.lt_of_lt_of_le (r142z_0.keep K144zq).lt r146z_2)
      have ne_arr_144z_r_146z : arr_144z ≠ r_146z := Nat.ne_of_lt (Nat.lt_of_lt_of_le r144z_4.lt r146z_2)
      show own_G p e below (T146z.setTop (mkF m 80 #[.val (.int p0), .val (.int p1), .val (.int (2 : Int32)), .val (.int (2 : Int32)), .val (.ref aH), .val (.ref b138z), .unset] [(.ref r_146z), (.ref b138z)])) _
      obtain ⟨cq148z, kq148z, qa148z, qb148z, qc148z⟩ := isOf hZ (rfl : T146z.heap = _) (r144z_0.keep K146zq)
      obtain ⟨_, _, ⟨T148z, L148z, k148z, n148z⟩, -, X148z, ⟨Lc148z, hQ148z, l148z, y148z, z148z⟩, st148z⟩ := X146z.virtualBack hx (y := own_m7) (z := own_m7) hown (own_mw hZ hw 126 rfl) (own_mw hZ hw 127 rfl) (notFace_of_selects (args := #[]) (own_mw hZ hw 129 rfl)) (own_mw hZ hw 129 rfl) (own_mw hZ hw 128 rfl) (by decide) (backOf (W := 0) (own_add1F l Z a0 hw [] b138z r_146z arr_144z kk_144z ([(.ref r_142z), .null, .null, .null, .null, .null, .null, .null, .null, .null]) (1 : Int32) (1 : Int32) (10 : Int32) 1 T146z.heap O147z (r144z_0.keep K146zq) fr_b138z r144z_1 r146z_0 (r144z_5.keep K146zq (by simp)) r144z_3 (by decide) (by show (10 : Int32).toInt = ((10 : Nat) : Int); decide) (by show 1 < 10; decide) ne_b138z_arr_144z (r144z_6.keep K146zq (by simp)) (r144z_7.keep K146zq (by simp)) (r144z_8.keep K146zq (by simp))) hZ (own_hw hw 130 rfl) (own_hw hw 6 rfl) (by decide) (by decide)) qa148z qc148z (g := (mkF m 80 #[.val (.int p0), .val (.int p1), .val (.int (2 : Int32)), .val (.int (2 : Int32)), .val (.ref aH), .val (.ref b138z), .unset] [(.ref r_146z), (.ref b138z)])) rfl (by rw [hml]; rfl) (Steps.refl _) (argsL := [(.ref r_146z)]) (rest := []) (lenOf pd_396412080 rfl) rfl (by show 2 * 0 + _ ≤ _; exact Nat.le_of_eq rfl) (hb hby at_80) (fun _ _ => ⟨rfl, rfl, (by decide : 18 + 0 ≤ _), (by decide : 71 + 0 ≤ _)⟩)
      dsimp only [Pt.U, Pt.locs, Pt.cells, Pt.slots] at X148z l148z y148z z148z st148z hQ148z
      subst l148z y148z z148z
      obtain ⟨rfl, NQ148z, K148zq, r148z_0, r148z_1, r148z_2, r148z_3, r148z_4⟩ := hQ148z
      refine own_tr st148z ?_
      have N148z := Fr.app N146z NQ148z
      have O149z := own_ext_keep O147z K148zq (allS fr_b138z (allS r144z_1 all0))
      have K149z := K147z.trans K148zq (allS (Or.inr lz_b138z) (allS (Or.inr lz_arr_144z) all0))
      have r148z_1 : own_A Z T148z.heap arr_144z kk_144z (.object own_s2) [(.ref r_142z), (.ref r_146z), .null, .null, .null, .null, .null, .null, .null, .null] := r148z_1
      have r148z_2 : Fld Z T148z.heap b138z own_s7 "modCount" "I" (.int (2 : Int32)) := r148z_2
      have r148z_4 : Fld Z T148z.heap b138z own_s1 "size" "I" (.int (2 : Int32)) := r148z_4
      show own_G p e below (T148z.setTop (mkF m 83 #[.val (.int p0), .val (.int p1), .val (.int (2 : Int32)), .val (.int (2 : Int32)), .val (.ref aH), .val (.ref b138z), .unset] [(.int (1 : Int32))])) _
      refine own_go (fun t k => XS.pop X148z.here hx rfl (hb hby at_83) rfl rfl k) ?_
      refine own_go (fun t k => XS.iloadN X148z.here hx rfl (hb hby at_84) rfl k) ?_
      refine own_go (fun t k => XS.iconst X148z.here hx rfl (hb hby at_85) k) ?_
      refine own_go (fun t k => XS.icmpYes X148z.here hx rfl (pc0 := 86) (pc' := 101) rfl (hb hby at_86) rfl (flt (by decide : ¬ ((2 : Int32) < (2 : Int32)))).2.2.2 (by decide) (by decide) k) ?_
      show own_G p e below (T148z.setTop (mkF m 101 #[.val (.int p0), .val (.int p1), .val (.int (2 : Int32)), .val (.int (2 : Int32)), .val (.ref aH), .val (.ref b138z), .unset] [])) _
      obtain ⟨T150z, h150z, X150z, e150z, E150z, A150z, D150z, -, st150z⟩ := newO X148z hx hZ hown (own_hw hw 155 rfl) (own_hw hw 156 rfl) (own_hw hw 157 rfl) rfl (g := (mkF m 101 #[.val (.int p0), .val (.int p1), .val (.int (2 : Int32)), .val (.int (2 : Int32)), .val (.ref aH), .val (.ref b138z), .unset] [])) rfl (hb hby at_101) (by decide) (by decide)
      obtain ⟨b150z, g150z⟩ : ∃ z, z = T148z.heap.size := ⟨_, rfl⟩
      rw [← g150z] at A150z D150z st150z
      have fr_b150z : Z.heap.size ≤ b150z := g150z ▸ O149z.1
      have lz_b150z : h0.size ≤ b150z := g150z ▸ K149z.1
      have ne_b138z_b150z : b138z ≠ b150z := Nat.ne_of_lt (g150z ▸ r148z_0.lt)
      have ne_r_142z_b150z : r_142z ≠ b150z := Nat.ne_of_lt (g150z ▸ (((r142z_0.keep K144zq).keep K146zq).keep K148zq).lt)
      have ne_arr_144z_b150z : arr_144z ≠ b150z := Nat.ne_of_lt (g150z ▸ ((r144z_4.keep K146zq).keep K148zq).lt)
      have ne_r_146z_b150z : r_146z ≠ b150z := Nat.ne_of_lt (g150z ▸ (r146z_0.keep K148zq).lt)
      have O151z := own_ext_trans O149z E150z
      have K151z := K149z.ext E150z
      have F150z_fragments : Fld Z h150z b150z own_s8 "fragments" own_s16 .null := D150z (Or.inr (own_hw hw 227 rfl)) (ty := (.object own_s15)) (by decide)
      refine own_go st150z ?_
      refine own_go (fun t k => XS.dup X150z.here hx rfl (hb hby at_104) rfl rfl k) ?_
      refine own_go (fun t k => XS.aload X150z.here hx rfl (hb hby at_105) rfl rfl k) ?_
      have f152z := ((((r142z_0.keep K144zq).keep K146zq).keep K148zq).ext E150z)
      obtain ⟨_, _, ⟨T153z, L153z, k153z, n153z⟩, -, X153z, ⟨Lc153z, hQ153z, l153z, y153z, z153z⟩, st153z⟩ := X150z.specialBack hx (y := own_m37) rfl hown (own_mw hZ hw 158 rfl) (own_mw hZ hw 159 rfl) (own_mw hZ hw 160 rfl) (by decide) (backOf (W := 1) (own_di2 l Z a0 hw [] b150z b138z arr_144z kk_144z mi eM r_142z r_146z h150z O151z MI S_EM A150z fr_b150z F150z_fragments (r148z_0.ext E150z) (r148z_1.ext E150z) (((r144z_4.keep K146zq).keep K148zq).ext E150z) (r148z_3.ext E150z) (r148z_4.ext E150z) f152z ((r146z_0.keep K148zq).ext E150z)) hZ (own_hw hw 160 rfl) (own_hw hw 157 rfl) (by decide) (by decide)) (g := (mkF m 107 #[.val (.int p0), .val (.int p1), .val (.int (2 : Int32)), .val (.int (2 : Int32)), .val (.ref aH), .val (.ref b138z), .unset] [(.ref b138z), (.ref b150z), (.ref b150z)])) rfl (by rw [hml]; rfl) (Steps.refl _) (a := b150z) (argsL := [(.ref b138z)]) (rest := [(.ref b150z)]) (lenOf pd_219446285 rfl) rfl (by show 2 * 0 + _ ≤ _; exact Nat.le_of_eq rfl) (hb hby at_107) (fun _ _ => ⟨rfl, e150z, (by decide : 19 + 2 ≤ _), (by decide : 72 + 4 ≤ _)⟩)
      dsimp only [Pt.U, Pt.locs, Pt.cells, Pt.slots] at X153z l153z y153z z153z st153z hQ153z
      subst l153z y153z z153z
      obtain ⟨r_153z, rfl, NQ153z, K153zq, r153z_0, r153z_1, r153z_2, r153z_3⟩ := hQ153z
      refine own_tr st153z ?_
      have N153z := Fr.app N148z NQ153z
      have O154z := own_ext_keep O151z K153zq (allS fr_b150z all0)
      have K154z := K151z.trans K153zq (allS (Or.inr lz_b150z) all0)
      show own_G p e below (T153z.setTop (mkF m 110 #[.val (.int p0), .val (.int p1), .val (.int (2 : Int32)), .val (.int (2 : Int32)), .val (.ref aH), .val (.ref b138z), .unset] [(.ref b150z)])) _
      refine own_go (fun t k => XS.astore X153z.here hx rfl (hb hby at_110) rfl rfl (l' := #[.val (.int p0), .val (.int p1), .val (.int (2 : Int32)), .val (.int (2 : Int32)), .val (.ref aH), .val (.ref b138z), .val (.ref b150z)]) rfl k) ?_
      refine own_go (fun t k => XS.aload X153z.here hx rfl (hb hby at_112) rfl rfl k) ?_
      have f155z := (((((r142z_3.keep K144zq (by simp only [List.mem_cons, List.not_mem_nil, or_false, not_or]; exact (Ne.symm ne_b138z_r_142z))).keep K146zq (by simp)).keep K148zq (by simp only [List.mem_cons, List.not_mem_nil, or_false, not_or]; exact ⟨(Ne.symm ne_b138z_r_142z), ne_r_142z_arr_144z⟩)).ext E150z).keep K153zq (by simp only [List.mem_cons, List.not_mem_nil, or_false, not_or]; exact ne_r_142z_b150z))
      obtain ⟨cq156z, kq156z, qa156z, qb156z, qc156z⟩ := isOf hZ (rfl : T153z.heap = _) r153z_0
      obtain ⟨_, _, ⟨T156z, L156z, k156z, n156z⟩, -, X156z, ⟨Lc156z, hQ156z, l156z, y156z, z156z⟩, st156z⟩ := X153z.virtualBack hx (y := own_m41) (z := own_m41) hown (own_mw hZ hw 228 rfl) (own_mw hZ hw 229 rfl) (notFace_of_selects (args := #[]) (own_mw hZ hw 231 rfl)) (own_mw hZ hw 231 rfl) (own_mw hZ hw 230 rfl) (by decide) (backOf (W := 0) (own_dk0 l Z a0 hw [] b150z r_153z r_142z aH T153z.heap O154z r153z_1 r153z_2 r153z_3 (f152z.keep K153zq) f155z) hZ (own_hw hw 232 rfl) (own_hw hw 157 rfl) (by decide) (by decide)) qa156z qc156z (g := (mkF m 114 #[.val (.int p0), .val (.int p1), .val (.int (2 : Int32)), .val (.int (2 : Int32)), .val (.ref aH), .val (.ref b138z), .val (.ref b150z)] [(.ref b150z)])) rfl (by rw [hml]; rfl) (Steps.refl _) (argsL := []) (rest := []) (lenOf pd_3046010860 rfl) rfl (by show 2 * 0 + _ ≤ _; exact Nat.le_of_eq rfl) (hb hby at_114) (fun _ _ => ⟨rfl, rfl, (by decide : 21 + 0 ≤ _), (by decide : 76 + 0 ≤ _)⟩)
      dsimp only [Pt.U, Pt.locs, Pt.cells, Pt.slots] at X156z l156z y156z z156z st156z hQ156z
      subst l156z y156z z156z
      obtain ⟨rfl, NQ156z, K156zq⟩ := hQ156z
      refine own_tr st156z ?_
      have N156z := Fr.app N153z NQ156z
      show own_G p e below (T156z.setTop (mkF m 117 #[.val (.int p0), .val (.int p1), .val (.int (2 : Int32)), .val (.int (2 : Int32)), .val (.ref aH), .val (.ref b138z), .val (.ref b150z)] [(.ref aH)])) _
      refine own_go (fun t k => XS.aload X156z.here hx rfl (hb hby at_117) rfl rfl k) ?_
      refine own_go (fun t k => Jvm.RoadKit.acmp (g := (mkF m 119 #[.val (.int p0), .val (.int p1), .val (.int (2 : Int32)), .val (.int (2 : Int32)), .val (.ref aH), .val (.ref b138z), .val (.ref b150z)] [(.ref aH), (.ref aH)])) X156z hx rfl rfl rfl (pc0 := 119) (pc' := 122) (same := true) rfl (hb hby at_119) rfl (decide_eq_true (congrArg Value.ref rfl)) (by decide) (by decide) k) ?_
      show own_G p e below (T156z.setTop (mkF m 122 #[.val (.int p0), .val (.int p1), .val (.int (2 : Int32)), .val (.int (2 : Int32)), .val (.ref aH), .val (.ref b138z), .val (.ref b150z)] [])) _
      refine own_go (fun t k => XS.iconst X156z.here hx rfl (hb hby at_122) k) ?_
      refine own_go (fun t k => XS.goto X156z.here hx rfl (pc0 := 123) (pc' := 127) rfl (hb hby at_123) (by decide) (by decide) k) ?_
      show own_G p e below (T156z.setTop (mkF m 127 #[.val (.int p0), .val (.int p1), .val (.int (2 : Int32)), .val (.int (2 : Int32)), .val (.ref aH), .val (.ref b138z), .val (.ref b150z)] [(.int (1 : Int32))])) _
      exact own_ret X156z hx Bd.returns rfl (Or.inl ⟨rfl, Or.inr (Or.inl rfl), _, rfl⟩) (hb hby at_127) hlk (Nat.le_of_ble_eq_true rfl) (Nat.le_of_ble_eq_true rfl) (by show Q_own_law Z p0 p1 aS aH aV aR dE kd cs mi eM eL eA ke h0 _ T156z.heap _; rw [K156zq]; exact ⟨rfl, N156z, K154z⟩)
    · rw [hknn]
      show own_G p e below (s₁.setTop (mkF m 14 #[.val (.int p0), .val (.int p1), .val (.int (2 : Int32)), .unset, .unset, .unset, .unset] [(.int (2 : Int32)), (.int (1 : Int32))])) _
      refine own_go (fun t k => XS.iadd X0.here hx rfl (hb hby at_14) rfl k) ?_
      refine own_go (fun t k => XS.istoreN X0.here hx rfl (hb hby at_15) rfl (l' := #[.val (.int p0), .val (.int p1), .val (.int (2 : Int32)), .val (.int (3 : Int32)), .unset, .unset, .unset]) rfl k) ?_
      refine own_go (fun t k => XS.iloadN X0.here hx rfl (hb hby at_16) rfl k) ?_
      refine own_go (fun t k => XS.ifYes X0.here hx rfl (pc0 := 17) (pc' := 28) rfl (hb hby at_17) rfl ((if0 _ _).trans (feq (by decide : ¬ ((2 : Int32) = (0 : Int32)))).2) (by decide) (by decide) k) ?_
      show own_G p e below (s₁.setTop (mkF m 28 #[.val (.int p0), .val (.int p1), .val (.int (2 : Int32)), .val (.int (3 : Int32)), .unset, .unset, .unset] [])) _
      refine own_go (fun t k => XS.iloadN X0.here hx rfl (hb hby at_28) rfl k) ?_
      refine own_go (fun t k => XS.iconst X0.here hx rfl (hb hby at_29) k) ?_
      refine own_go (fun t k => XS.icmpYes X0.here hx rfl (pc0 := 30) (pc' := 41) rfl (hb hby at_30) rfl (feq (by decide : ¬ ((2 : Int32) = (1 : Int32)))).2 (by decide) (by decide) k) ?_
      show own_G p e below (s₁.setTop (mkF m 41 #[.val (.int p0), .val (.int p1), .val (.int (2 : Int32)), .val (.int (3 : Int32)), .unset, .unset, .unset] [])) _
      obtain ⟨T157z, X157z, e157z, st157z⟩ := getS2 X0 hx hZ hown (host := "") (Or.inl (own_hw hw 34 rfl)) Via.refl e0 (S_H.ext O0) (g := (mkF m 41 #[.val (.int p0), .val (.int p1), .val (.int (2 : Int32)), .val (.int (3 : Int32)), .unset, .unset, .unset] [])) rfl (hb hby at_41)
      refine own_go st157z ?_
      refine own_go (fun t k => XS.astore X157z.here hx rfl (hb hby at_44) rfl rfl (l' := #[.val (.int p0), .val (.int p1), .val (.int (2 : Int32)), .val (.int (3 : Int32)), .val (.ref aH), .unset, .unset]) rfl k) ?_
      obtain ⟨T158z, h158z, X158z, e158z, E158z, A158z, D158z, -, st158z⟩ := newO X157z hx hZ hown (own_hw hw 4 rfl) (own_hw hw 5 rfl) (own_hw hw 6 rfl) e157z (g := (mkF m 46 #[.val (.int p0), .val (.int p1), .val (.int (2 : Int32)), .val (.int (3 : Int32)), .val (.ref aH), .unset, .unset] [])) rfl (hb hby at_46) (by decide) (by decide)
      obtain ⟨b158z, g158z⟩ : ∃ z, z = h0.size := ⟨_, rfl⟩
      rw [← g158z] at A158z D158z st158z
      have fr_b158z : Z.heap.size ≤ b158z := g158z ▸ O0.1
      have lz_b158z : h0.size ≤ b158z := g158z ▸ K0.1
      have O159z := own_ext_trans O0 E158z
      have K159z := K0.ext E158z
      have F158z_modCount : Fld Z h158z b158z own_s7 "modCount" "I" (.int (0 : Int32)) := D158z (Or.inl (own_hw hw 26 rfl)) (ty := .int) (by decide)
      have F158z_elementData : Fld Z h158z b158z own_s1 "elementData" own_s3 .null := D158z (Or.inl (own_hw hw 29 rfl)) (ty := (.array (.object own_s2))) (by decide)
      have F158z_size : Fld Z h158z b158z own_s1 "size" "I" (.int (0 : Int32)) := D158z (Or.inl (own_hw hw 96 rfl)) (ty := .int) (by decide)
      refine own_go st158z ?_
      refine own_go (fun t k => XS.dup X158z.here hx rfl (hb hby at_49) rfl rfl k) ?_
      obtain ⟨_, _, ⟨T160z, L160z, k160z, n160z⟩, -, X160z, ⟨Lc160z, hQ160z, l160z, y160z, z160z⟩, st160z⟩ := X158z.specialBack hx (y := own_m2) rfl hown (own_mw hZ hw 7 rfl) (own_mw hZ hw 8 rfl) (own_mw hZ hw 9 rfl) (by decide) (backOf (W := 1) (own_ali l Z a0 hw [] b158z dE h158z O159z S_D A158z fr_b158z F158z_modCount F158z_elementData F158z_size) hZ (own_hw hw 9 rfl) (own_hw hw 6 rfl) (by decide) (by decide)) (g := (mkF m 50 #[.val (.int p0), .val (.int p1), .val (.int (2 : Int32)), .val (.int (3 : Int32)), .val (.ref aH), .unset, .unset] [(.ref b158z), (.ref b158z)])) rfl (by rw [hml]; rfl) (Steps.refl _) (a := b158z) (argsL := []) (rest := [(.ref b158z)]) (lenOf pd_193421996 rfl) rfl (by show 2 * 0 + _ ≤ _; exact Nat.le_of_eq rfl) (hb hby at_50) (fun _ _ => ⟨rfl, e158z, (by decide : 1 + 0 ≤ _), (by decide : 3 + 0 ≤ _)⟩)
      dsimp only [Pt.U, Pt.locs, Pt.cells, Pt.slots] at X160z l160z y160z z160z st160z hQ160z
      subst l160z y160z z160z
      obtain ⟨rfl, NQ160z, K160zq, r160z_0, r160z_1, r160z_2, r160z_3⟩ := hQ160z
      refine own_tr st160z ?_
      have N160z := Fr.app N0 NQ160z
      have O161z := own_ext_keep O159z K160zq (allS fr_b158z all0)
      have K161z := K159z.trans K160zq (allS (Or.inr lz_b158z) all0)
      show own_G p e below (T160z.setTop (mkF m 53 #[.val (.int p0), .val (.int p1), .val (.int (2 : Int32)), .val (.int (3 : Int32)), .val (.ref aH), .unset, .unset] [(.ref b158z)])) _
      refine own_go (fun t k => XS.astore X160z.here hx rfl (hb hby at_53) rfl rfl (l' := #[.val (.int p0), .val (.int p1), .val (.int (2 : Int32)), .val (.int (3 : Int32)), .val (.ref aH), .val (.ref b158z), .unset]) rfl k) ?_
      refine own_go (fun t k => XS.aload X160z.here hx rfl (hb hby at_55) rfl rfl k) ?_
      refine own_go (fun t k => XS.aload X160z.here hx rfl (hb hby at_57) rfl rfl k) ?_
      refine own_go (fun t k => XS.iconst X160z.here hx rfl (hb hby at_59) k) ?_
      obtain ⟨_, _, ⟨T162z, L162z, k162z, n162z⟩, -, X162z, ⟨Lc162z, hQ162z, l162z, y162z, z162z⟩, st162z⟩ := Jvm.LawKit.callS X160z hx (y := own_m36) hown (own_mw hZ hw 30 rfl) (own_mw hZ hw 31 rfl) (own_mw hZ hw 32 rfl) (own_mw hZ hw 33 rfl) (by decide) (backOf (W := 1) (own_mkh0 l Z a0 hw [] dE kd cs aH aV mi eM T160z.heap O161z S_D BD S_CS hcs S_H S_V MI S_EM n_aHaV) hZ (own_hw hw 33 rfl) (own_hw hw 32 rfl) (by decide) (by decide)) (g := (mkF m 60 #[.val (.int p0), .val (.int p1), .val (.int (2 : Int32)), .val (.int (3 : Int32)), .val (.ref aH), .val (.ref b158z), .unset] [(.int (0 : Int32)), (.ref aH), (.ref b158z)])) rfl (by rw [hml]; rfl) (argsL := [(.ref aH), (.int (0 : Int32))]) (rest := [(.ref b158z)]) (lenOf pd_4053637851 rfl) rfl (by show 2 * 0 + _ ≤ _; exact Nat.le_of_eq rfl) (hb hby at_60) (fun _ _ => ⟨rfl, rfl, (by decide : 1 + 8 ≤ _), (by decide : 3 + 29 ≤ _)⟩)
      dsimp only [Pt.U, Pt.locs, Pt.cells, Pt.slots] at X162z l162z y162z z162z st162z hQ162z
      subst l162z y162z z162z
      obtain ⟨r_162z, rfl, NQ162z, K162zq, r162z_0, r162z_1, r162z_2, r162z_3⟩ := hQ162z
      refine own_go st162z ?_
      have N162z := Fr.app N160z NQ162z
      have O163z := own_ext_keep O161z K162zq all0
      have K163z := K161z.trans K162zq all0
      have lz_r_162z : h0.size ≤ r_162z := Nat.le_trans K161z.1 r162z_2
      have ne_b158z_r_162z : b158z ≠ r_162z := Nat.ne_of_lt (Nat.lt_of_lt_of_le r160z_0.lt r162z_2)
      show own_G p e below (T162z.setTop (mkF m 63 #[.val (.int p0), .val (.int p1), .val (.int (2 : Int32)), .val (.int (3 : Int32)), .val (.ref aH), .val (.ref b158z), .unset] [(.ref r_162z), (.ref b158z)])) _
      obtain ⟨cq164z, kq164z, qa164z, qb164z, qc164z⟩ := isOf hZ (rfl : T162z.heap = _) (r160z_0.keep K162zq)
      obtain ⟨_, _, ⟨T164z, L164z, k164z, n164z⟩, -, X164z, ⟨Lc164z, hQ164z, l164z, y164z, z164z⟩, st164z⟩ := X162z.virtualBack hx (y := own_m7) (z := own_m7) hown (own_mw hZ hw 126 rfl) (own_mw hZ hw 127 rfl) (notFace_of_selects (args := #[]) (own_mw hZ hw 129 rfl)) (own_mw hZ hw 129 rfl) (own_mw hZ hw 128 rfl) (by decide) (backOf (W := 0) (own_add10F l Z a0 hw [] b158z (0 : Int32) dE kd r_162z T162z.heap O163z S_D BD (r160z_0.keep K162zq) fr_b158z (r160z_1.keep K162zq (by simp)) (r160z_2.keep K162zq (by simp)) (r160z_3.keep K162zq (by simp)) r162z_0) hZ (own_hw hw 130 rfl) (own_hw hw 6 rfl) (by decide) (by decide)) qa164z qc164z (g := (mkF m 63 #[.val (.int p0), .val (.int p1), .val (.int (2 : Int32)), .val (.int (3 : Int32)), .val (.ref aH), .val (.ref b158z), .unset] [(.ref r_162z), (.ref b158z)])) rfl (by rw [hml]; rfl) (Steps.refl _) (argsL := [(.ref r_162z)]) (rest := []) (lenOf pd_396412080 rfl) rfl (by show 2 * 0 + _ ≤ _; exact Nat.le_of_eq rfl) (hb hby at_63) (fun _ _ => ⟨rfl, rfl, (by decide : 9 + 1 ≤ _), (by decide : 32 + 10 ≤ _)⟩)
      dsimp only [Pt.U, Pt.locs, Pt.cells, Pt.slots] at X164z l164z y164z z164z st164z hQ164z
      subst l164z y164z z164z
      obtain ⟨arr_164z, kk_164z, rfl, NQ164z, K164zq, r164z_0, r164z_1, r164z_2, r164z_3, r164z_4, r164z_5, r164z_6, r164z_7, r164z_8⟩ := hQ164z
      refine own_tr st164z ?_
      have N164z := Fr.app N162z NQ164z
      have O165z := own_ext_keep O163z K164zq (allS fr_b158z all0)
      have K165z := K163z.trans K164zq (allS (Or.inr lz_b158z) all0)
      have lz_arr_164z : h0.size ≤ arr_164z := Nat.le_trans K163z.1 r164z_2
      have ne_b158z_arr_164z : b158z ≠ arr_164z := Nat.ne_of_lt (Nat.lt_of_lt_of_le (r160z_0.keep K162zq).lt r164z_2)
      have ne_r_162z_arr_164z : r_162z ≠ arr_164z := Nat.ne_of_lt (Nat.lt_of_lt_of_le r162z_0.lt r164z_2)
      have r164z_6 : Fld Z T164z.heap b158z own_s7 "modCount" "I" (.int (1 : Int32)) := r164z_6
      show own_G p e below (T164z.setTop (mkF m 66 #[.val (.int p0), .val (.int p1), .val (.int (2 : Int32)), .val (.int (3 : Int32)), .val (.ref aH), .val (.ref b158z), .unset] [(.int (1 : Int32))])) _
      refine own_go (fun t k => XS.pop X164z.here hx rfl (hb hby at_66) rfl rfl k) ?_
      refine own_go (fun t k => XS.iloadN X164z.here hx rfl (hb hby at_67) rfl k) ?_
      refine own_go (fun t k => XS.iconst X164z.here hx rfl (hb hby at_68) k) ?_
      refine own_go (fun t k => XS.icmpNo X164z.here hx rfl (hb hby at_69) rfl (tlt (by decide : (1 : Int32) < (3 : Int32))).2.2.2 k) ?_
      show own_G p e below (T164z.setTop (mkF m 72 #[.val (.int p0), .val (.int p1), .val (.int (2 : Int32)), .val (.int (3 : Int32)), .val (.ref aH), .val (.ref b158z), .unset] [])) _
      refine own_go (fun t k => XS.aload X164z.here hx rfl (hb hby at_72) rfl rfl k) ?_
      refine own_go (fun t k => XS.aload X164z.here hx rfl (hb hby at_74) rfl rfl k) ?_
      refine own_go (fun t k => XS.iconst X164z.here hx rfl (hb hby at_76) k) ?_
      obtain ⟨_, _, ⟨T166z, L166z, k166z, n166z⟩, -, X166z, ⟨Lc166z, hQ166z, l166z, y166z, z166z⟩, st166z⟩ := Jvm.LawKit.callS X164z hx (y := own_m36) hown (own_mw hZ hw 30 rfl) (own_mw hZ hw 31 rfl) (own_mw hZ hw 32 rfl) (own_mw hZ hw 33 rfl) (by decide) (backOf (W := 1) (own_mkh1 l Z a0 hw [] dE kd cs aH aV mi eM T164z.heap O165z S_D BD S_CS hcs S_H S_V MI S_EM n_aHaV) hZ (own_hw hw 33 rfl) (own_hw hw 32 rfl) (by decide) (by decide)) (g := (mkF m 77 #[.val (.int p0), .val (.int p1), .val (.int (2 : Int32)), .val (.int (3 : Int32)), .val (.ref aH), .val (.ref b158z), .unset] [(.int (1 : Int32)), (.ref aH), (.ref b158z)])) rfl (by rw [hml]; rfl) (argsL := [(.ref aH), (.int (1 : Int32))]) (rest := [(.ref b158z)]) (lenOf pd_4053637851 rfl) rfl (by show 2 * 0 + _ ≤ _; exact Nat.le_of_eq rfl) (hb hby at_77) (fun _ _ => ⟨rfl, rfl, (by decide : 10 + 8 ≤ _), (by decide : 42 + 29 ≤ _)⟩)
      dsimp only [Pt.U, Pt.locs, Pt.cells, Pt.slots] at X166z l166z y166z z166z st166z hQ166z
      subst l166z y166z z166z
      obtain ⟨r_166z, rfl, NQ166z, K166zq, r166z_0, r166z_1, r166z_2, r166z_3⟩ := hQ166z
      refine own_go st166z ?_
      have N166z := Fr.app N164z NQ166z
      have O167z := own_ext_keep O165z K166zq all0
      have K167z := K165z.trans K166zq all0
      have lz_r_166z : h0.size ≤ r_166z := Nat.le_trans K165z.1 r166z_2
      have ne_b158z_r_166z : b158z ≠ r_166z := Nat.ne_of_lt (Nat.lt_of_lt_of_le r164z_0.lt r166z_2)
      have ne_r_162z_r_166z : r_162z ≠ r_166z := Nat.ne_of_lt (Nat.lt_of_lt_of_le (r162z_0.keep K164zq).lt r166z_2)
      have ne_arr_164z_r_166z : arr_164z ≠ r_166z := Nat.ne_of_lt (Nat.lt_of_lt_of_le r164z_4.lt r166z_2)
      show own_G p e below (T166z.setTop (mkF m 80 #[.val (.int p0), .val (.int p1), .val (.int (2 : Int32)), .val (.int (3 : Int32)), .val (.ref aH), .val (.ref b158z), .unset] [(.ref r_166z), (.ref b158z)])) _
      obtain ⟨cq168z, kq168z, qa168z, qb168z, qc168z⟩ := isOf hZ (rfl : T166z.heap = _) (r164z_0.keep K166zq)
      obtain ⟨_, _, ⟨T168z, L168z, k168z, n168z⟩, -, X168z, ⟨Lc168z, hQ168z, l168z, y168z, z168z⟩, st168z⟩ := X166z.virtualBack hx (y := own_m7) (z := own_m7) hown (own_mw hZ hw 126 rfl) (own_mw hZ hw 127 rfl) (notFace_of_selects (args := #[]) (own_mw hZ hw 129 rfl)) (own_mw hZ hw 129 rfl) (own_mw hZ hw 128 rfl) (by decide) (backOf (W := 0) (own_add1F l Z a0 hw [] b158z r_166z arr_164z kk_164z ([(.ref r_162z), .null, .null, .null, .null, .null, .null, .null, .null, .null]) (1 : Int32) (1 : Int32) (10 : Int32) 1 T166z.heap O167z (r164z_0.keep K166zq) fr_b158z r164z_1 r166z_0 (r164z_5.keep K166zq (by simp)) r164z_3 (by decide) (by show (10 : Int32).toInt = ((10 : Nat) : Int); decide) (by show 1 < 10; decide) ne_b158z_arr_164z (r164z_6.keep K166zq (by simp)) (r164z_7.keep K166zq (by simp)) (r164z_8.keep K166zq (by simp))) hZ (own_hw hw 130 rfl) (own_hw hw 6 rfl) (by decide) (by decide)) qa168z qc168z (g := (mkF m 80 #[.val (.int p0), .val (.int p1), .val (.int (2 : Int32)), .val (.int (3 : Int32)), .val (.ref aH), .val (.ref b158z), .unset] [(.ref r_166z), (.ref b158z)])) rfl (by rw [hml]; rfl) (Steps.refl _) (argsL := [(.ref r_166z)]) (rest := []) (lenOf pd_396412080 rfl) rfl (by show 2 * 0 + _ ≤ _; exact Nat.le_of_eq rfl) (hb hby at_80) (fun _ _ => ⟨rfl, rfl, (by decide : 18 + 0 ≤ _), (by decide : 71 + 0 ≤ _)⟩)
      dsimp only [Pt.U, Pt.locs, Pt.cells, Pt.slots] at X168z l168z y168z z168z st168z hQ168z
      subst l168z y168z z168z
      obtain ⟨rfl, NQ168z, K168zq, r168z_0, r168z_1, r168z_2, r168z_3, r168z_4⟩ := hQ168z
      refine own_tr st168z ?_
      have N168z := Fr.app N166z NQ168z
      have O169z := own_ext_keep O167z K168zq (allS fr_b158z (allS r164z_1 all0))
      have K169z := K167z.trans K168zq (allS (Or.inr lz_b158z) (allS (Or.inr lz_arr_164z) all0))
      have r168z_1 : own_A Z T168z.heap arr_164z kk_164z (.object own_s2) [(.ref r_162z), (.ref r_166z), .null, .null, .null, .null, .null, .null, .null, .null] := r168z_1
      have r168z_2 : Fld Z T168z.heap b158z own_s7 "modCount" "I" (.int (2 : Int32)) := r168z_2
      have r168z_4 : Fld Z T168z.heap b158z own_s1 "size" "I" (.int (2 : Int32)) := r168z_4
      show own_G p e below (T168z.setTop (mkF m 83 #[.val (.int p0), .val (.int p1), .val (.int (2 : Int32)), .val (.int (3 : Int32)), .val (.ref aH), .val (.ref b158z), .unset] [(.int (1 : Int32))])) _
      refine own_go (fun t k => XS.pop X168z.here hx rfl (hb hby at_83) rfl rfl k) ?_
      refine own_go (fun t k => XS.iloadN X168z.here hx rfl (hb hby at_84) rfl k) ?_
      refine own_go (fun t k => XS.iconst X168z.here hx rfl (hb hby at_85) k) ?_
      refine own_go (fun t k => XS.icmpNo X168z.here hx rfl (hb hby at_86) rfl (tlt (by decide : (2 : Int32) < (3 : Int32))).2.2.2 k) ?_
      show own_G p e below (T168z.setTop (mkF m 89 #[.val (.int p0), .val (.int p1), .val (.int (2 : Int32)), .val (.int (3 : Int32)), .val (.ref aH), .val (.ref b158z), .unset] [])) _
      refine own_go (fun t k => XS.aload X168z.here hx rfl (hb hby at_89) rfl rfl k) ?_
      refine own_go (fun t k => XS.aload X168z.here hx rfl (hb hby at_91) rfl rfl k) ?_
      refine own_go (fun t k => XS.iconst X168z.here hx rfl (hb hby at_93) k) ?_
      obtain ⟨_, _, ⟨T170z, L170z, k170z, n170z⟩, -, X170z, ⟨Lc170z, hQ170z, l170z, y170z, z170z⟩, st170z⟩ := Jvm.LawKit.callS X168z hx (y := own_m36) hown (own_mw hZ hw 30 rfl) (own_mw hZ hw 31 rfl) (own_mw hZ hw 32 rfl) (own_mw hZ hw 33 rfl) (by decide) (backOf (W := 1) (own_mkh2 l Z a0 hw [] dE kd cs aH aV mi eM T168z.heap O169z S_D BD S_CS hcs S_H S_V MI S_EM n_aHaV) hZ (own_hw hw 33 rfl) (own_hw hw 32 rfl) (by decide) (by decide)) (g := (mkF m 94 #[.val (.int p0), .val (.int p1), .val (.int (2 : Int32)), .val (.int (3 : Int32)), .val (.ref aH), .val (.ref b158z), .unset] [(.int (2 : Int32)), (.ref aH), (.ref b158z)])) rfl (by rw [hml]; rfl) (argsL := [(.ref aH), (.int (2 : Int32))]) (rest := [(.ref b158z)]) (lenOf pd_4053637851 rfl) rfl (by show 2 * 0 + _ ≤ _; exact Nat.le_of_eq rfl) (hb hby at_94) (fun _ _ => ⟨rfl, rfl, (by decide : 18 + 8 ≤ _), (by decide : 71 + 29 ≤ _)⟩)
      dsimp only [Pt.U, Pt.locs, Pt.cells, Pt.slots] at X170z l170z y170z z170z st170z hQ170z
      subst l170z y170z z170z
      obtain ⟨r_170z, rfl, NQ170z, K170zq, r170z_0, r170z_1, r170z_2, r170z_3⟩ := hQ170z
      refine own_go st170z ?_
      have N170z := Fr.app N168z NQ170z
      have O171z := own_ext_keep O169z K170zq all0
      have K171z := K169z.trans K170zq all0
      have lz_r_170z : h0.size ≤ r_170z := Nat.le_trans K169z.1 r170z_2
      have ne_b158z_r_170z : b158z ≠ r_170z := Nat.ne_of_lt (Nat.lt_of_lt_of_le r168z_0.lt r170z_2)
      have ne_r_162z_r_170z : r_162z ≠ r_170z := Nat.ne_of_lt (Nat.lt_of_lt_of_le (((r162z_0.keep K164zq).keep K166zq).keep K168zq).lt r170z_2)
      have ne_arr_164z_r_170z : arr_164z ≠ r_170z := Nat.ne_of_lt (Nat.lt_of_lt_of_le ((r164z_4.keep K166zq).keep K168zq).lt r170z_2)
      have ne_r_166z_r_170z : r_166z ≠ r_170z := Nat.ne_of_lt (Nat.lt_of_lt_of_le (r166z_0.keep K168zq).lt r170z_2)
      show own_G p e below (T170z.setTop (mkF m 97 #[.val (.int p0), .val (.int p1), .val (.int (2 : Int32)), .val (.int (3 : Int32)), .val (.ref aH), .val (.ref b158z), .unset] [(.ref r_170z), (.ref b158z)])) _
      obtain ⟨cq172z, kq172z, qa172z, qb172z, qc172z⟩ := isOf hZ (rfl : T170z.heap = _) (r168z_0.keep K170zq)
      obtain ⟨_, _, ⟨T172z, L172z, k172z, n172z⟩, -, X172z, ⟨Lc172z, hQ172z, l172z, y172z, z172z⟩, st172z⟩ := X170z.virtualBack hx (y := own_m7) (z := own_m7) hown (own_mw hZ hw 126 rfl) (own_mw hZ hw 127 rfl) (notFace_of_selects (args := #[]) (own_mw hZ hw 129 rfl)) (own_mw hZ hw 129 rfl) (own_mw hZ hw 128 rfl) (by decide) (backOf (W := 0) (own_add1F l Z a0 hw [] b158z r_170z arr_164z kk_164z ([(.ref r_162z), (.ref r_166z), .null, .null, .null, .null, .null, .null, .null, .null]) (2 : Int32) (2 : Int32) (10 : Int32) 2 T170z.heap O171z (r168z_0.keep K170zq) fr_b158z r164z_1 r170z_0 (r168z_1.keep K170zq (by simp)) r164z_3 (by decide) (by show (10 : Int32).toInt = ((10 : Nat) : Int); decide) (by show 2 < 10; decide) ne_b158z_arr_164z (r168z_2.keep K170zq (by simp)) (r168z_3.keep K170zq (by simp)) (r168z_4.keep K170zq (by simp))) hZ (own_hw hw 130 rfl) (own_hw hw 6 rfl) (by decide) (by decide)) qa172z qc172z (g := (mkF m 97 #[.val (.int p0), .val (.int p1), .val (.int (2 : Int32)), .val (.int (3 : Int32)), .val (.ref aH), .val (.ref b158z), .unset] [(.ref r_170z), (.ref b158z)])) rfl (by rw [hml]; rfl) (Steps.refl _) (argsL := [(.ref r_170z)]) (rest := []) (lenOf pd_396412080 rfl) rfl (by show 2 * 0 + _ ≤ _; exact Nat.le_of_eq rfl) (hb hby at_97) (fun _ _ => ⟨rfl, rfl, (by decide : 26 + 0 ≤ _), (by decide : 100 + 0 ≤ _)⟩)
      dsimp only [Pt.U, Pt.locs, Pt.cells, Pt.slots] at X172z l172z y172z z172z st172z hQ172z
      subst l172z y172z z172z
      obtain ⟨rfl, NQ172z, K172zq, r172z_0, r172z_1, r172z_2, r172z_3, r172z_4⟩ := hQ172z
      refine own_tr st172z ?_
      have N172z := Fr.app N170z NQ172z
      have O173z := own_ext_keep O171z K172zq (allS fr_b158z (allS r164z_1 all0))
      have K173z := K171z.trans K172zq (allS (Or.inr lz_b158z) (allS (Or.inr lz_arr_164z) all0))
      have r172z_1 : own_A Z T172z.heap arr_164z kk_164z (.object own_s2) [(.ref r_162z), (.ref r_166z), (.ref r_170z), .null, .null, .null, .null, .null, .null, .null] := r172z_1
      have r172z_2 : Fld Z T172z.heap b158z own_s7 "modCount" "I" (.int (3 : Int32)) := r172z_2
      have r172z_4 : Fld Z T172z.heap b158z own_s1 "size" "I" (.int (3 : Int32)) := r172z_4
      show own_G p e below (T172z.setTop (mkF m 100 #[.val (.int p0), .val (.int p1), .val (.int (2 : Int32)), .val (.int (3 : Int32)), .val (.ref aH), .val (.ref b158z), .unset] [(.int (1 : Int32))])) _
      refine own_go (fun t k => XS.pop X172z.here hx rfl (hb hby at_100) rfl rfl k) ?_
      obtain ⟨T174z, h174z, X174z, e174z, E174z, A174z, D174z, -, st174z⟩ := newO X172z hx hZ hown (own_hw hw 155 rfl) (own_hw hw 156 rfl) (own_hw hw 157 rfl) rfl (g := (mkF m 101 #[.val (.int p0), .val (.int p1), .val (.int (2 : Int32)), .val (.int (3 : Int32)), .val (.ref aH), .val (.ref b158z), .unset] [])) rfl (hb hby at_101) (by decide) (by decide)
      obtain ⟨b174z, g174z⟩ : ∃ z, z = T172z.heap.size := ⟨_, rfl⟩
      rw [← g174z] at A174z D174z st174z
      have fr_b174z : Z.heap.size ≤ b174z := g174z ▸ O173z.1
      have lz_b174z : h0.size ≤ b174z := g174z ▸ K173z.1
      have ne_b158z_b174z : b158z ≠ b174z := Nat.ne_of_lt (g174z ▸ r172z_0.lt)
      have f175z := (((((r162z_0.keep K164zq).keep K166zq).keep K168zq).keep K170zq).keep K172zq)
      have ne_r_162z_b174z : r_162z ≠ b174z := Nat.ne_of_lt (g174z ▸ f175z.lt)
      have f176z := ((((r164z_4.keep K166zq).keep K168zq).keep K170zq).keep K172zq)
      have ne_arr_164z_b174z : arr_164z ≠ b174z := Nat.ne_of_lt (g174z ▸ f176z.lt)
      have ne_r_166z_b174z : r_166z ≠ b174z := Nat.ne_of_lt (g174z ▸ (((r166z_0.keep K168zq).keep K170zq).keep K172zq).lt)
      have ne_r_170z_b174z : r_170z ≠ b174z := Nat.ne_of_lt (g174z ▸ (r170z_0.keep K172zq).lt)
      have O177z := own_ext_trans O173z E174z
      have K177z := K173z.ext E174z
      have F174z_fragments : Fld Z h174z b174z own_s8 "fragments" own_s16 .null := D174z (Or.inr (own_hw hw 227 rfl)) (ty := (.object own_s15)) (by decide)
      refine own_go st174z ?_
      refine own_go (fun t k => XS.dup X174z.here hx rfl (hb hby at_104) rfl rfl k) ?_
      refine own_go (fun t k => XS.aload X174z.here hx rfl (hb hby at_105) rfl rfl k) ?_
      have f178z := ((((r166z_0.keep K168zq).keep K170zq).keep K172zq).ext E174z)
      obtain ⟨_, _, ⟨T179z, L179z, k179z, n179z⟩, -, X179z, ⟨Lc179z, hQ179z, l179z, y179z, z179z⟩, st179z⟩ := X174z.specialBack hx (y := own_m37) rfl hown (own_mw hZ hw 158 rfl) (own_mw hZ hw 159 rfl) (own_mw hZ hw 160 rfl) (by decide) (backOf (W := 1) (own_di3 l Z a0 hw [] b174z b158z arr_164z kk_164z mi eM r_162z r_166z r_170z h174z O177z MI S_EM A174z fr_b174z F174z_fragments (r172z_0.ext E174z) (r172z_1.ext E174z) (f176z.ext E174z) (r172z_3.ext E174z) (r172z_4.ext E174z) (f175z.ext E174z) f178z ((r170z_0.keep K172zq).ext E174z)) hZ (own_hw hw 160 rfl) (own_hw hw 157 rfl) (by decide) (by decide)) (g := (mkF m 107 #[.val (.int p0), .val (.int p1), .val (.int (2 : Int32)), .val (.int (3 : Int32)), .val (.ref aH), .val (.ref b158z), .unset] [(.ref b158z), (.ref b174z), (.ref b174z)])) rfl (by rw [hml]; rfl) (Steps.refl _) (a := b174z) (argsL := [(.ref b158z)]) (rest := [(.ref b174z)]) (lenOf pd_219446285 rfl) rfl (by show 2 * 0 + _ ≤ _; exact Nat.le_of_eq rfl) (hb hby at_107) (fun _ _ => ⟨rfl, e174z, (by decide : 27 + 3 ≤ _), (by decide : 101 + 8 ≤ _)⟩)
      dsimp only [Pt.U, Pt.locs, Pt.cells, Pt.slots] at X179z l179z y179z z179z st179z hQ179z
      subst l179z y179z z179z
      obtain ⟨r_179z, er_179z, ke_179z, rfl, NQ179z, K179zq, r179z_0, r179z_1, r179z_2, r179z_3, r179z_4⟩ := hQ179z
      refine own_tr st179z ?_
      have N179z := Fr.app N172z NQ179z
      have O180z := own_ext_keep O177z K179zq (allS fr_b174z all0)
      have K180z := K177z.trans K179zq (allS (Or.inr lz_b174z) all0)
      show own_G p e below (T179z.setTop (mkF m 110 #[.val (.int p0), .val (.int p1), .val (.int (2 : Int32)), .val (.int (3 : Int32)), .val (.ref aH), .val (.ref b158z), .unset] [(.ref b174z)])) _
      refine own_go (fun t k => XS.astore X179z.here hx rfl (hb hby at_110) rfl rfl (l' := #[.val (.int p0), .val (.int p1), .val (.int (2 : Int32)), .val (.int (3 : Int32)), .val (.ref aH), .val (.ref b158z), .val (.ref b174z)]) rfl k) ?_
      refine own_go (fun t k => XS.aload X179z.here hx rfl (hb hby at_112) rfl rfl k) ?_
      have f181z := (((((((r162z_3.keep K164zq (by simp only [List.mem_cons, List.not_mem_nil, or_false, not_or]; exact (Ne.symm ne_b158z_r_162z))).keep K166zq (by simp)).keep K168zq (by simp only [List.mem_cons, List.not_mem_nil, or_false, not_or]; exact ⟨(Ne.symm ne_b158z_r_162z), ne_r_162z_arr_164z⟩)).keep K170zq (by simp)).keep K172zq (by simp only [List.mem_cons, List.not_mem_nil, or_false, not_or]; exact ⟨(Ne.symm ne_b158z_r_162z), ne_r_162z_arr_164z⟩)).ext E174z).keep K179zq (by simp only [List.mem_cons, List.not_mem_nil, or_false, not_or]; exact ne_r_162z_b174z))
      obtain ⟨cq182z, kq182z, qa182z, qb182z, qc182z⟩ := isOf hZ (rfl : T179z.heap = _) r179z_0
      obtain ⟨_, _, ⟨T182z, L182z, k182z, n182z⟩, -, X182z, ⟨Lc182z, hQ182z, l182z, y182z, z182z⟩, st182z⟩ := X179z.virtualBack hx (y := own_m41) (z := own_m41) hown (own_mw hZ hw 228 rfl) (own_mw hZ hw 229 rfl) (notFace_of_selects (args := #[]) (own_mw hZ hw 231 rfl)) (own_mw hZ hw 231 rfl) (own_mw hZ hw 230 rfl) (by decide) (backOf (W := 0) (own_dk1 l Z a0 hw [] b174z r_179z r_162z aH er_179z ke_179z r_166z r_170z T179z.heap O180z r179z_1 r179z_2 r179z_3 r179z_4 ((f175z.ext E174z).keep K179zq) f181z) hZ (own_hw hw 232 rfl) (own_hw hw 157 rfl) (by decide) (by decide)) qa182z qc182z (g := (mkF m 114 #[.val (.int p0), .val (.int p1), .val (.int (2 : Int32)), .val (.int (3 : Int32)), .val (.ref aH), .val (.ref b158z), .val (.ref b174z)] [(.ref b174z)])) rfl (by rw [hml]; rfl) (Steps.refl _) (argsL := []) (rest := []) (lenOf pd_3046010860 rfl) rfl (by show 2 * 0 + _ ≤ _; exact Nat.le_of_eq rfl) (hb hby at_114) (fun _ _ => ⟨rfl, rfl, (by decide : 30 + 0 ≤ _), (by decide : 109 + 0 ≤ _)⟩)
      dsimp only [Pt.U, Pt.locs, Pt.cells, Pt.slots] at X182z l182z y182z z182z st182z hQ182z
      subst l182z y182z z182z
      obtain ⟨rfl, NQ182z, K182zq⟩ := hQ182z
      refine own_tr st182z ?_
      have N182z := Fr.app N179z NQ182z
      show own_G p e below (T182z.setTop (mkF m 117 #[.val (.int p0), .val (.int p1), .val (.int (2 : Int32)), .val (.int (3 : Int32)), .val (.ref aH), .val (.ref b158z), .val (.ref b174z)] [(.ref aH)])) _
      refine own_go (fun t k => XS.aload X182z.here hx rfl (hb hby at_117) rfl rfl k) ?_
      refine own_go (fun t k => Jvm.RoadKit.acmp (g := (mkF m 119 #[.val (.int p0), .val (.int p1), .val (.int (2 : Int32)), .val (.int (3 : Int32)), .val (.ref aH), .val (.ref b158z), .val (.ref b174z)] [(.ref aH), (.ref aH)])) X182z hx rfl rfl rfl (pc0 := 119) (pc' := 122) (same := true) rfl (hb hby at_119) rfl (decide_eq_true (congrArg Value.ref rfl)) (by decide) (by decide) k) ?_
      show own_G p e below (T182z.setTop (mkF m 122 #[.val (.int p0), .val (.int p1), .val (.int (2 : Int32)), .val (.int (3 : Int32)), .val (.ref aH), .val (.ref b158z), .val (.ref b174z)] [])) _
      refine own_go (fun t k => XS.iconst X182z.here hx rfl (hb hby at_122) k) ?_
      refine own_go (fun t k => XS.goto X182z.here hx rfl (pc0 := 123) (pc' := 127) rfl (hb hby at_123) (by decide) (by decide) k) ?_
      show own_G p e below (T182z.setTop (mkF m 127 #[.val (.int p0), .val (.int p1), .val (.int (2 : Int32)), .val (.int (3 : Int32)), .val (.ref aH), .val (.ref b158z), .val (.ref b174z)] [(.int (1 : Int32))])) _
      exact own_ret X182z hx Bd.returns rfl (Or.inl ⟨rfl, Or.inr (Or.inl rfl), _, rfl⟩) (hb hby at_127) hlk (Nat.le_of_ble_eq_true rfl) (Nat.le_of_ble_eq_true rfl) (by show Q_own_law Z p0 p1 aS aH aV aR dE kd cs mi eM eL eA ke h0 _ T182z.heap _; rw [K182zq]; exact ⟨rfl, N182z, K180z⟩)
set_option maxRecDepth 65536 in
set_option maxHeartbeats 40000000 in
theorem comes_1 {Post : Tables → Env → Array Value → State → Outcome → State → Prop} (hpost : ∀ tb e args s v u, (limb_1_1.after args s (.returned v) u = true ∧ limb_1_2.after args s (.returned v) u = true ∧ True) → FrameEnd s (.returned v) u (Jvm.fieldLocs frame_1_writes args s ++ Jvm.arrayLocs frame_1_arrays args s ++ Jvm.staticLocs frame_1_statics s) 72 320 → Post tb e args s (.returned v) u) :
    ArmFor flags0 classFile x code maxLocals ret World_1 tables_1 room_1 Calls_1 rest_1 Pre_1 Post := by
  intro l hfl _ _ p e ha hc hk s m args below hf hA hF happ hP
  obtain ⟨hcalls, hrest, hpre⟩ := hP
  obtain ⟨-, -, -, hnamed, -, -, -, hat⟩ := (Spec.applies_iff hf).mp happ
  obtain ⟨hg, hn⟩ := and_e (Cond.before_iff.mp (show (Jvm.Cond.and given_1 narrow_1).before args s = true from hpre))
  obtain ⟨hg0, hg1⟩ := and_e hg
  obtain ⟨hy0, hz0⟩ := and_e hg1
  obtain ⟨w0, w1, rfl⟩ : ∃ w0 w1 : Value, args = #[w0, w1] := by
    have hs : args.size = 2 := by simpa [Cond.value, given_1] using hg0
    obtain ⟨L⟩ := args
    match L, hs with
    | [w0, w1], _ => exact ⟨w0, w1, rfl⟩
  have hw := fun d (hd : d ∈ tables_1) => atoms_spec (ws := Jvm.Cond.code x code maxLocals ret :: tables_1) hat d (List.mem_cons_of_mem _ hd)
  have hfit : Fit s := fun {y c} hc i hi => by
    obtain ⟨ha, rfl⟩ := Array.getElem?_eq_some_iff.mp hc
    have q := List.all_eq_true.mp ((Array.all_eq_true_iff_forall_mem.mp hF) _ (Array.getElem_mem ha)) i (List.mem_range.mpr hi)
    simpa [Array.getElem?_eq_getElem hi] using q
  obtain ⟨i0, ea0⟩ := is_v hy0
  obtain rfl : w0 = (.int i0) := Option.some.inj ea0
  obtain ⟨i1, ea1⟩ := is_v hz0
  obtain rfl : w1 = (.int i1) := Option.some.inj ea1
  obtain ⟨c0, hn0⟩ := and_e hn
  obtain ⟨c1, hn1⟩ := and_e hn0
  obtain ⟨c2, hn2⟩ := and_e hn1
  obtain ⟨c3, hn3⟩ := and_e hn2
  obtain ⟨c4, hn4⟩ := and_e hn3
  obtain ⟨c5, hn5⟩ := and_e hn4
  obtain ⟨c6, hn6⟩ := and_e hn5
  obtain ⟨a_SPLIT, ev_SPLIT⟩ := exa_v c0
  have E_SPLIT : Exa s s.heap a_SPLIT "com/example/treeshard/treeshard/model/Design$Kind" := Exa.start ev_SPLIT c0
  have S_SPLIT : Sta s s.heap "com/example/treeshard/treeshard/model/Design$Kind" "SPLIT" "Lcom/example/treeshard/treeshard/model/Design$Kind;" (.ref a_SPLIT) := Sta.start ev_SPLIT (Or.inr ⟨(own_hw hw 2 rfl), (own_hw hw 3 rfl)⟩)
  obtain ⟨a_HORIZONTAL, ev_HORIZONTAL⟩ := exa_v c1
  have E_HORIZONTAL : Exa s s.heap a_HORIZONTAL "com/example/treeshard/treeshard/model/Design$Kind" := Exa.start ev_HORIZONTAL c1
  have S_HORIZONTAL : Sta s s.heap "com/example/treeshard/treeshard/model/Design$Kind" "HORIZONTAL" "Lcom/example/treeshard/treeshard/model/Design$Kind;" (.ref a_HORIZONTAL) := Sta.start ev_HORIZONTAL (Or.inr ⟨(own_hw hw 2 rfl), (own_hw hw 35 rfl)⟩)
  obtain ⟨a_VERTICAL, ev_VERTICAL⟩ := exa_v c4
  have E_VERTICAL : Exa s s.heap a_VERTICAL "com/example/treeshard/treeshard/model/Design$Kind" := Exa.start ev_VERTICAL c4
  have S_VERTICAL : Sta s s.heap "com/example/treeshard/treeshard/model/Design$Kind" "VERTICAL" "Lcom/example/treeshard/treeshard/model/Design$Kind;" (.ref a_VERTICAL) := Sta.start ev_VERTICAL (Or.inr ⟨(own_hw hw 2 rfl), (own_hw hw 115 rfl)⟩)
  obtain ⟨a_REPLICATED, ev_REPLICATED⟩ := exa_v c6
  have E_REPLICATED : Exa s s.heap a_REPLICATED "com/example/treeshard/treeshard/model/Design$Kind" := Exa.start ev_REPLICATED c6
  have S_REPLICATED : Sta s s.heap "com/example/treeshard/treeshard/model/Design$Kind" "REPLICATED" "Lcom/example/treeshard/treeshard/model/Design$Kind;" (.ref a_REPLICATED) := Sta.start ev_REPLICATED (Or.inr ⟨(own_hw hw 2 rfl), (own_hw hw 293 rfl)⟩)
  have F_SPLIT_ordinal : Fld s s.heap a_SPLIT "java/lang/Enum" "ordinal" "I" (.int (3 : Int32)) := Fld.start ((fld_at ev_SPLIT).symm.trans (eqv_i (Term.int_eval (3 : Int32)) c2))
  have F_HORIZONTAL_ordinal : Fld s s.heap a_HORIZONTAL "java/lang/Enum" "ordinal" "I" (.int (0 : Int32)) := Fld.start ((fld_at ev_HORIZONTAL).symm.trans (eqv_i (Term.int_eval (0 : Int32)) c3))
  have F_VERTICAL_ordinal : Fld s s.heap a_VERTICAL "java/lang/Enum" "ordinal" "I" (.int (1 : Int32)) := Fld.start ((fld_at ev_VERTICAL).symm.trans (eqv_i (Term.int_eval (1 : Int32)) c5))
  have F_REPLICATED_ordinal : Fld s s.heap a_REPLICATED "java/lang/Enum" "ordinal" "I" (.int (2 : Int32)) := Fld.start ((fld_at ev_REPLICATED).symm.trans (eqv_i (Term.int_eval (2 : Int32)) hn6))
  obtain ⟨hsets, hown0⟩ := atoms_of _ (rest_1_c_eq ▸ (show rest_1_c.before _ s = true from hrest))
  have hS := fun d (hd : d ∈ jdkStatics_1) => hsets d hd
  obtain ⟨mc0, mk0, mi, mi1, mi2, mi3, mi4⟩ := hcalls.1
  have MI : Mir s "[Ljava/lang/Object;" mi := ⟨mc0, mk0, mi1, mi2, mi3, mi4⟩
  obtain ⟨dE, evD⟩ := arr_v (Cond.before_iff.mp (own_hw hS 6 rfl))
  have S_D : Sta s s.heap "java/util/ArrayList" "DEFAULTCAPACITY_EMPTY_ELEMENTDATA" "[Ljava/lang/Object;" (.ref dE) := Sta.start evD (Or.inr ⟨(own_hw hw 6 rfl), own_hw hS 2 rfl⟩)
  obtain ⟨cD, AD, VD, qD, zD, zD'⟩ := own_A.start hfit evD (Cond.before_iff.mp (own_hw hS 6 rfl)) (Cond.before_iff.mp (own_hw hS 8 rfl))
  have e0 : (0 : Int32).toInt = 0 := by decide
  have BD : own_A s s.heap dE cD.cls (.object "java/lang/Object") [] := VD.eqs (by
    have : cD.slots.size = 0 := by omega
    simpa using this)
  obtain ⟨cs, evS⟩ := is_v (Cond.before_iff.mp (own_hw hS 10 rfl))
  have S_CS : Sta s s.heap "java/lang/String" "COMPACT_STRINGS" "Z" (.int cs) := Sta.start evS (Or.inl (own_hw hS 9 rfl))
  have hcs : ¬ (cs = (0 : Int32)) := gotF (Cond.eq_ints evS (Term.int_eval (0))) (not_v (Cond.before_iff.mp (own_hw hS 11 rfl)))
  obtain ⟨eM, evM⟩ := exa_v (Cond.before_iff.mp (own_hw hS 27 rfl))
  have S_EM : Sta s s.heap "java/util/ImmutableCollections" "EMPTY" "Ljava/lang/Object;" (.ref eM) := Sta.start evM (Or.inl (own_hw hS 26 rfl))
  obtain ⟨eL, evL⟩ := exa_v (Cond.before_iff.mp (own_hw hS 20 rfl))
  have E_EL : Exa s s.heap eL "java/util/ImmutableCollections$ListN" := Exa.start evL (Cond.before_iff.mp (own_hw hS 20 rfl))
  have S_EL : Sta s s.heap "java/util/ImmutableCollections" "EMPTY_LIST" "Ljava/util/ImmutableCollections$ListN;" (.ref eL) := Sta.start evL (Or.inl (own_hw hS 19 rfl))
  obtain ⟨eA, evA⟩ := arr_v (Cond.before_iff.mp (own_hw hS 21 rfl))
  have F_EL : Fld s s.heap eL "java/util/ImmutableCollections$ListN" "elements" "[Ljava/lang/Object;" (.ref eA) := Fld.start ((fld_at evL).symm.trans evA)
  obtain ⟨cA, AA, VA, qA, zA, zA'⟩ := own_A.start hfit evA (Cond.before_iff.mp (own_hw hS 21 rfl)) (Cond.before_iff.mp (own_hw hS 23 rfl))
  have B_EL : own_A s s.heap eA cA.cls (.object "java/lang/Object") [] := VA.eqs (by
    have : cA.slots.size = 0 := by omega
    simpa using this)
  obtain ⟨n, o, h1, h2, h3, _, L, rfl, hQ, hq⟩ := own_law l s _ hw tables_1 i0 i1 a_SPLIT a_HORIZONTAL a_VERTICAL a_REPLICATED dE cD.cls cs mi eM eL eA cA.cls s.heap (own_ext_refl _) S_SPLIT S_HORIZONTAL S_VERTICAL S_REPLICATED (own_fld_ne F_SPLIT_ordinal F_HORIZONTAL_ordinal (by decide)) (own_fld_ne F_SPLIT_ordinal F_VERTICAL_ordinal (by decide)) (own_fld_ne F_REPLICATED_ordinal F_HORIZONTAL_ordinal (by decide)) (own_fld_ne F_REPLICATED_ordinal F_VERTICAL_ordinal (by decide)) (own_fld_ne F_HORIZONTAL_ordinal F_VERTICAL_ordinal (by decide)) S_D BD S_CS hcs MI S_EM S_EL F_EL B_EL E_EL p e ha hc hk s m _ below hf ((Spec.applies_iff_loose hf).mp happ).1 ⟨rfl, State.Warmed39.refl s, rfl⟩ trivial
  obtain ⟨rfl, N, -⟩ := hQ
  exact ⟨n, _, h1, h2, h3, hpost _ _ _ _ _ _ ⟨Cond.after_iff.mpr rfl, Cond.after_iff.mpr (eq_i res_at (Term.int_eval (1)) rfl), trivial⟩ ⟨hq.1, hq.2.1, (hq.2.2.sift fun y hy => Or.inr (N y hy)).mono (by decide) (by decide)⟩⟩
theorem main_1_1 : Claimed_1_1 := comes_1 fun _ _ _ _ _ _ h hF => ⟨h.1, hF⟩
theorem main_1_2 : Claimed_1_2 := comes_1 fun _ _ _ _ _ _ h hF => ⟨h.2.1, hF⟩
end Jvm.Pilot.@@N@@
namespace Jvm.Pilot.@@N@@
open Jvm Jvm.ClassFile Sem Op Lib Jvm.Free Jvm.Stand Jvm.Pilot.@@N@@.Jvm.D
/-! MADE BY PROGRAM (witnessworld.py) out of the Statement's table words and the real class files: 41 classes; the members and pool entries that the words name. The judged class is class 1, her method 2. -/
namespace start1
open Jvm.ClassFile
def u (s : String) : CpInfo := .utf8 (stringToUtf16 s)
/-- a pool by its gaps: so many unusable entries, then the entry; so many at the end -/
def gap : Nat → List CpInfo → List CpInfo
  | 0, r => r
  | n + 1, r => .unusable :: gap n r
def poolList (es : List (Nat × CpInfo)) (last : Nat) : List CpInfo := es.foldr (fun e r => gap e.1 (e.2 :: r)) (gap last [])
def pool (es : List (Nat × CpInfo)) (last : Nat) : Array CpInfo := ⟨poolList es last⟩
def fileOf (pool : Array CpInfo) (this : Nat) (attrs : Array Attribute := #[]) (ms : Array MethodInfo := #[]) (fl : Nat := 33) (sup : Nat := 0) (ifs : Array Nat := #[]) (fds : Array FieldInfo := #[]) : ClassFile where
  minorVersion := 0
  majorVersion := 65
  constantPool := pool
  accessFlags := fl
  thisClass := this
  superClass := sup
  interfaces := ifs
  fields := fds
  methods := ms
  attributes := attrs
def plain (name : String) (sup : Option ClassId) : Class where
  name := name
  kind := .ordinary
  loader := none
  accessFlags := 33
  super := sup
  interfaces := #[]
  cf := none
  fields := #[]
  methods := #[]
  instanceTypes := #[]
  staticTypes := #[]
  resolved := #[]
  callSites := []
  init := .initialized
  statics := none
  mirror := none

def pool0 : Array CpInfo := pool [(5, u "<init>"), (0, u "()V"), (1, .class_ 10), (1, u "java/lang/Object"), (0, u "getClass"), (0, u "()Ljava/lang/Class;")] 111

def k0c0 : Code := { maxStack := 0, maxLocals := 1, code := object_method_1_code, exceptionTable := #[], attributes := #[] }
def k0m0 : Method := { name := "<init>", desc := "()V", sig := { parameters := [], returnType := none }, accessFlags := 1, code := some k0c0 }
def k0m1 : Method := { name := "getClass", desc := "()Ljava/lang/Class;", sig := { parameters := [], returnType := some (.object "java/lang/Class") }, accessFlags := 273, code := none }
/-- java/lang/Object -/
def k0 : Class := { plain "java/lang/Object" none with
  accessFlags := 33
  interfaces := #[]
  cf := some (fileOf pool0 8 #[] #[{ accessFlags := 1, nameIndex := 5, descriptorIndex := 6, attributes := #[] }, { accessFlags := 273, nameIndex := 11, descriptorIndex := 12, attributes := #[] }] 33 0 #[] #[])
  fields := #[]
  methods := #[k0m0, k0m1]
  instanceTypes := #[]
  staticTypes := #[]
  resolved := Array.replicate 124 none
  statics := none }

def pool1 : Array CpInfo := pool [(2, .class_ 4), (0, .nameAndType 5 6), (0, u "java/lang/Object"), (0, u "<init>"), (0, u "()V"), (0, .class_ 8), (0, u "java/util/ArrayList"), (0, .methodref 7 3), (0, .fieldref 11 12), (0, .class_ 13), (0, .nameAndType 14 15), (0, u "com/example/treeshard/treeshard/model/Design$Kind"), (0, u "HORIZONTAL"), (0, u "Lcom/example/treeshard/treeshard/model/Design$Kind;"), (0, .class_ 17), (0, u "com/example/treeshard/treeshard/model/Selection"), (0, .methodref 16 19), (0, .nameAndType 5 20), (0, u "(Lcom/example/treeshard/treeshard/model/DocumentPath;Lcom/example/treeshard/treeshard/model/Selection$Test;Ljava/lang/String;)V"), (0, .methodref 7 22), (0, .nameAndType 23 24), (0, u "add"), (0, u "(Ljava/lang/Object;)Z"), (0, .methodref 26 27), (0, .class_ 28), (0, .nameAndType 29 30), (0, u "java/lang/String"), (0, u "valueOf"), (0, u "(C)Ljava/lang/String;"), (0, .class_ 32), (0, u "com/example/treeshard/treeshard/model/Fragment"), (0, .methodref 31 34), (0, .nameAndType 5 35), (0, u "(Ljava/lang/String;Ljava/lang/String;Lcom/example/treeshard/treeshard/model/Design$Kind;Ljava/util/List;Lcom/example/treeshard/treeshard/model/Projection;)V"), (0, .integer 2147483647), (0, .fieldref 11 38), (0, .nameAndType 39 15), (0, u "SPLIT"), (0, .fieldref 11 41), (0, .nameAndType 42 15), (0, u "REPLICATED"), (0, .methodref 44 45), (0, .class_ 46), (0, .nameAndType 47 48), (0, u "com/example/treeshard/treeshard/model/DesignKindPinLaw"), (0, u "make"), (0, u "(Lcom/example/treeshard/treeshard/model/Design$Kind;I)Lcom/example/treeshard/treeshard/model/Fragment;"), (0, .class_ 50), (0, u "com/example/treeshard/treeshard/model/Design"), (0, .methodref 49 52), (0, .nameAndType 5 53), (0, u "(Ljava/util/List;)V"), (0, .methodref 49 55), (0, .nameAndType 56 57), (0, u "kind"), (0, u "()Lcom/example/treeshard/treeshard/model/Design$Kind;"), (3, u "law"), (0, u "(II)Z")] 7

def k1m0 : Method := { name := "<init>", desc := "()V", sig := { parameters := [], returnType := none }, accessFlags := 2, code := none }
def k1c1 : Code := { maxStack := 7, maxLocals := 4, code := method_2_code, exceptionTable := #[], attributes := #[] }
def k1m1 : Method := { name := "make", desc := "(Lcom/example/treeshard/treeshard/model/Design$Kind;I)Lcom/example/treeshard/treeshard/model/Fragment;", sig := { parameters := [(.object "com/example/treeshard/treeshard/model/Design$Kind"), .int], returnType := some (.object "com/example/treeshard/treeshard/model/Fragment") }, accessFlags := 10, code := some k1c1 }
def k1c2 : Code := { maxStack := 3, maxLocals := 7, code := code, exceptionTable := #[], attributes := #[] }
def k1m2 : Method := { name := "law", desc := "(II)Z", sig := { parameters := [.int, .int], returnType := some .boolean }, accessFlags := 9, code := some k1c2 }
/-- com/example/treeshard/treeshard/model/DesignKindPinLaw -/
def k1 : Class := { plain "com/example/treeshard/treeshard/model/DesignKindPinLaw" (some 0) with
  accessFlags := 49
  interfaces := #[]
  cf := some (fileOf pool1 44 #[] #[{ accessFlags := 2, nameIndex := 5, descriptorIndex := 6, attributes := #[] }, { accessFlags := 10, nameIndex := 47, descriptorIndex := 48, attributes := #[] }, { accessFlags := 9, nameIndex := 61, descriptorIndex := 62, attributes := #[] }] 49 2 #[] #[])
  fields := #[]
  methods := #[k1m0, k1m1, k1m2]
  instanceTypes := #[]
  staticTypes := #[]
  resolved := Array.replicate 70 none
  statics := none }

def pool2 : Array CpInfo := pool [(1, .class_ 2), (0, u "java/lang/constant/Constable"), (0, .class_ 4), (0, u "java/lang/Object")] 6

/-- java/lang/constant/Constable -/
def k2 : Class := { plain "java/lang/constant/Constable" (some 0) with
  accessFlags := 1537
  interfaces := #[]
  cf := some (fileOf pool2 1 #[] #[] 1537 3 #[] #[])
  fields := #[]
  methods := #[]
  instanceTypes := #[]
  staticTypes := #[]
  resolved := Array.replicate 11 none
  statics := none }

def pool3 : Array CpInfo := pool [(1, .class_ 2), (0, u "java/lang/Comparable"), (0, .class_ 4), (0, u "java/lang/Object")] 7

/-- java/lang/Comparable -/
def k3 : Class := { plain "java/lang/Comparable" (some 0) with
  accessFlags := 1537
  interfaces := #[]
  cf := some (fileOf pool3 1 #[] #[] 1537 3 #[] #[])
  fields := #[]
  methods := #[]
  instanceTypes := #[]
  staticTypes := #[]
  resolved := Array.replicate 12 none
  statics := none }

def pool4 : Array CpInfo := pool [(1, .class_ 2), (0, u "java/io/Serializable"), (0, .class_ 4), (0, u "java/lang/Object")] 2

/-- java/io/Serializable -/
def k4 : Class := { plain "java/io/Serializable" (some 0) with
  accessFlags := 1537
  interfaces := #[]
  cf := some (fileOf pool4 1 #[] #[] 1537 3 #[] #[])
  fields := #[]
  methods := #[]
  instanceTypes := #[]
  staticTypes := #[]
  resolved := Array.replicate 7 none
  statics := none }

def pool5 : Array CpInfo := pool [(2, .class_ 4), (1, u "java/lang/Enum"), (0, u "name"), (0, u "Ljava/lang/String;"), (2, u "ordinal"), (0, u "I"), (1, .class_ 14), (1, u "java/lang/Object"), (4, u "hash"), (86, .class_ 108), (1, u "java/lang/Enum$EnumDesc"), (2, .class_ 112), (0, u "java/lang/constant/Constable"), (0, .class_ 114), (0, u "java/lang/Comparable"), (0, .class_ 116), (0, u "java/io/Serializable")] 87

/-- java/lang/Enum -/
def k5 : Class := { plain "java/lang/Enum" (some 0) with
  accessFlags := 1057
  interfaces := #[2, 3, 4]
  cf := some (fileOf pool5 2 #[.nestMembers #[106]] #[] 1057 12 #[111, 113, 115] #[{ accessFlags := 18, nameIndex := 5, descriptorIndex := 6, attributes := #[] }, { accessFlags := 18, nameIndex := 9, descriptorIndex := 10, attributes := #[] }, { accessFlags := 2, nameIndex := 19, descriptorIndex := 10, attributes := #[] }])
  fields := #[{ name := "name", type := (.object "java/lang/String"), accessFlags := 18, slot := 0, constantValue := 0 }, { name := "ordinal", type := .int, accessFlags := 18, slot := 1, constantValue := 0 }, { name := "hash", type := .int, accessFlags := 2, slot := 2, constantValue := 0 }]
  methods := #[]
  instanceTypes := #[(.object "java/lang/String"), .int, .int]
  staticTypes := #[]
  resolved := Array.replicate 204 none
  statics := none }

def pool6 : Array CpInfo := pool [(1, .class_ 2), (0, u "com/example/treeshard/treeshard/model/Design$Kind"), (2, u "HORIZONTAL"), (0, u "Lcom/example/treeshard/treeshard/model/Design$Kind;"), (2, u "VERTICAL"), (2, u "REPLICATED"), (2, u "SPLIT"), (2, u "$VALUES"), (0, u "[Lcom/example/treeshard/treeshard/model/Design$Kind;"), (6, .class_ 28), (1, u "java/lang/Enum"), (27, .class_ 57), (0, u "com/example/treeshard/treeshard/model/Design")] 2

/-- com/example/treeshard/treeshard/model/Design$Kind -/
def k6 : Class := { plain "com/example/treeshard/treeshard/model/Design$Kind" (some 5) with
  accessFlags := 16433
  interfaces := #[]
  cf := some (fileOf pool6 1 #[.nestHost 56] #[] 16433 26 #[] #[{ accessFlags := 16409, nameIndex := 5, descriptorIndex := 6, attributes := #[] }, { accessFlags := 16409, nameIndex := 9, descriptorIndex := 6, attributes := #[] }, { accessFlags := 16409, nameIndex := 12, descriptorIndex := 6, attributes := #[] }, { accessFlags := 16409, nameIndex := 15, descriptorIndex := 6, attributes := #[] }, { accessFlags := 4122, nameIndex := 18, descriptorIndex := 19, attributes := #[] }])
  fields := #[{ name := "HORIZONTAL", type := (.object "com/example/treeshard/treeshard/model/Design$Kind"), accessFlags := 16409, slot := 0, constantValue := 0 }, { name := "VERTICAL", type := (.object "com/example/treeshard/treeshard/model/Design$Kind"), accessFlags := 16409, slot := 1, constantValue := 0 }, { name := "REPLICATED", type := (.object "com/example/treeshard/treeshard/model/Design$Kind"), accessFlags := 16409, slot := 2, constantValue := 0 }, { name := "SPLIT", type := (.object "com/example/treeshard/treeshard/model/Design$Kind"), accessFlags := 16409, slot := 3, constantValue := 0 }, { name := "$VALUES", type := (.array (.object "com/example/treeshard/treeshard/model/Design$Kind")), accessFlags := 4122, slot := 4, constantValue := 0 }]
  methods := #[]
  instanceTypes := #[(.object "java/lang/String"), .int, .int]
  staticTypes := #[(.object "com/example/treeshard/treeshard/model/Design$Kind"), (.object "com/example/treeshard/treeshard/model/Design$Kind"), (.object "com/example/treeshard/treeshard/model/Design$Kind"), (.object "com/example/treeshard/treeshard/model/Design$Kind"), (.array (.object "com/example/treeshard/treeshard/model/Design$Kind"))]
  resolved := Array.replicate 60 none
  statics := some 0 }

def pool7 : Array CpInfo := pool [(8, .class_ 10), (1, u "java/lang/Iterable"), (24, .class_ 36), (0, u "java/lang/Object")] 25

/-- java/lang/Iterable -/
def k7 : Class := { plain "java/lang/Iterable" (some 0) with
  accessFlags := 1537
  interfaces := #[]
  cf := some (fileOf pool7 8 #[] #[] 1537 35 #[] #[])
  fields := #[]
  methods := #[]
  instanceTypes := #[]
  staticTypes := #[]
  resolved := Array.replicate 62 none
  statics := none }

def pool8 : Array CpInfo := pool [(10, .class_ 12), (1, u "java/util/Collection"), (0, u "toArray"), (16, u "()Z"), (29, .class_ 61), (0, u "java/lang/Object"), (0, .class_ 63), (0, u "java/lang/Iterable"), (2, u "isEmpty"), (3, u "()[Ljava/lang/Object;")] 44

def k8m0 : Method := { name := "isEmpty", desc := "()Z", sig := { parameters := [], returnType := some .boolean }, accessFlags := 1025, code := none }
def k8m1 : Method := { name := "toArray", desc := "()[Ljava/lang/Object;", sig := { parameters := [], returnType := some (.array (.object "java/lang/Object")) }, accessFlags := 1025, code := none }
/-- java/util/Collection -/
def k8 : Class := { plain "java/util/Collection" (some 0) with
  accessFlags := 1537
  interfaces := #[7]
  cf := some (fileOf pool8 10 #[] #[{ accessFlags := 1025, nameIndex := 66, descriptorIndex := 30, attributes := #[] }, { accessFlags := 1025, nameIndex := 13, descriptorIndex := 70, attributes := #[] }] 1537 60 #[62] #[])
  fields := #[]
  methods := #[k8m0, k8m1]
  instanceTypes := #[]
  staticTypes := #[]
  resolved := Array.replicate 115 none
  statics := none }

def pool9 : Array CpInfo := pool [(1, .methodref 2 3), (0, .class_ 4), (0, .nameAndType 5 6), (0, u "java/lang/Object"), (0, u "<init>"), (0, u "()V"), (1, .class_ 10), (1, u "java/util/AbstractCollection"), (66, .class_ 78), (0, u "java/util/Collection")] 81

def k9c0 : Code := { maxStack := 1, maxLocals := 1, code := jdk_22_method_1_code, exceptionTable := #[], attributes := #[] }
def k9m0 : Method := { name := "<init>", desc := "()V", sig := { parameters := [], returnType := none }, accessFlags := 4, code := some k9c0 }
/-- java/util/AbstractCollection -/
def k9 : Class := { plain "java/util/AbstractCollection" (some 0) with
  accessFlags := 1057
  interfaces := #[8]
  cf := some (fileOf pool9 8 #[] #[{ accessFlags := 4, nameIndex := 5, descriptorIndex := 6, attributes := #[] }] 1057 2 #[77] #[])
  fields := #[]
  methods := #[k9m0]
  instanceTypes := #[]
  staticTypes := #[]
  resolved := Array.replicate 160 none
  statics := none }

def pool10 : Array CpInfo := pool [(8, .class_ 10), (1, u "java/util/SequencedCollection"), (15, .class_ 27), (0, u "java/lang/Object"), (0, .class_ 29), (0, u "java/util/Collection")] 27

/-- java/util/SequencedCollection -/
def k10 : Class := { plain "java/util/SequencedCollection" (some 0) with
  accessFlags := 1537
  interfaces := #[8]
  cf := some (fileOf pool10 8 #[] #[] 1537 26 #[28] #[])
  fields := #[]
  methods := #[]
  instanceTypes := #[]
  staticTypes := #[]
  resolved := Array.replicate 57 none
  statics := none }

def pool11 : Array CpInfo := pool [(8, .class_ 10), (1, u "java/util/List"), (7, u "()Z"), (12, u "(Ljava/lang/Object;)V"), (16, u "<init>"), (18, u "isEmpty"), (7, u "get"), (0, u "(I)Ljava/lang/Object;"), (11, u "of"), (1, .fieldref 91 92), (0, .class_ 93), (0, .nameAndType 94 95), (0, u "java/util/ImmutableCollections"), (0, u "EMPTY_LIST"), (0, u "Ljava/util/ImmutableCollections$ListN;"), (0, .class_ 97), (0, u "java/util/ImmutableCollections$List12"), (0, .methodref 96 99), (0, .nameAndType 48 31), (0, .methodref 96 101), (0, .nameAndType 48 102), (0, u "(Ljava/lang/Object;Ljava/lang/Object;)V"), (0, .class_ 104), (0, u "java/lang/Object"), (3, u "([Ljava/lang/Object;)Ljava/util/List;"), (0, .methodref 91 110), (0, .nameAndType 111 108), (0, u "listFromArray"), (0, .methodref 91 113), (0, .nameAndType 114 115), (0, u "listCopy"), (0, u "(Ljava/util/Collection;)Ljava/util/List;"), (3, u "()Ljava/util/List;"), (0, .class_ 121), (0, u "java/util/SequencedCollection"), (112, u "copyOf")] 16

def k11m0 : Method := { name := "isEmpty", desc := "()Z", sig := { parameters := [], returnType := some .boolean }, accessFlags := 1025, code := none }
def k11m1 : Method := { name := "get", desc := "(I)Ljava/lang/Object;", sig := { parameters := [.int], returnType := some (.object "java/lang/Object") }, accessFlags := 1025, code := none }
def k11c2 : Code := { maxStack := 1, maxLocals := 0, code := jdk_40_method_36_code, exceptionTable := #[], attributes := #[] }
def k11m2 : Method := { name := "of", desc := "()Ljava/util/List;", sig := { parameters := [], returnType := some (.object "java/util/List") }, accessFlags := 9, code := some k11c2 }
def k11c3 : Code := { maxStack := 5, maxLocals := 2, code := jdk_40_method_47_code, exceptionTable := #[], attributes := #[] }
def k11m3 : Method := { name := "of", desc := "([Ljava/lang/Object;)Ljava/util/List;", sig := { parameters := [(.array (.object "java/lang/Object"))], returnType := some (.object "java/util/List") }, accessFlags := 137, code := some k11c3 }
def k11c4 : Code := { maxStack := 1, maxLocals := 1, code := jdk_40_method_48_code, exceptionTable := #[], attributes := #[] }
def k11m4 : Method := { name := "copyOf", desc := "(Ljava/util/Collection;)Ljava/util/List;", sig := { parameters := [(.object "java/util/Collection")], returnType := some (.object "java/util/List") }, accessFlags := 9, code := some k11c4 }
/-- java/util/List -/
def k11 : Class := { plain "java/util/List" (some 0) with
  accessFlags := 1537
  interfaces := #[10]
  cf := some (fileOf pool11 8 #[] #[{ accessFlags := 1025, nameIndex := 67, descriptorIndex := 18, attributes := #[] }, { accessFlags := 1025, nameIndex := 75, descriptorIndex := 76, attributes := #[] }, { accessFlags := 9, nameIndex := 88, descriptorIndex := 119, attributes := #[] }, { accessFlags := 137, nameIndex := 88, descriptorIndex := 108, attributes := #[] }, { accessFlags := 9, nameIndex := 234, descriptorIndex := 115, attributes := #[] }] 1537 103 #[120] #[])
  fields := #[]
  methods := #[k11m0, k11m1, k11m2, k11m3, k11m4]
  instanceTypes := #[]
  staticTypes := #[]
  resolved := Array.replicate 251 none
  statics := none }

def pool12 : Array CpInfo := pool [(1, .methodref 2 3), (0, .class_ 4), (0, .nameAndType 5 6), (0, u "java/util/AbstractCollection"), (0, u "<init>"), (0, u "()V"), (0, .fieldref 8 9), (0, .class_ 10), (0, .nameAndType 11 12), (0, u "java/util/AbstractList"), (0, u "modCount"), (0, u "I"), (64, .class_ 78), (0, u "java/util/AbstractList$Itr"), (3, .class_ 83), (0, u "java/util/AbstractList$ListItr"), (9, .class_ 94), (0, u "java/util/AbstractList$RandomAccessSubList"), (3, .class_ 99), (0, u "java/util/AbstractList$SubList"), (33, .class_ 134), (0, u "java/util/List"), (73, .class_ 209), (0, u "java/util/AbstractList$SubList$1"), (0, .class_ 211), (0, u "java/util/AbstractList$RandomAccessSpliterator")] 6

def k12c0 : Code := { maxStack := 2, maxLocals := 1, code := jdk_39_method_1_code, exceptionTable := #[], attributes := #[] }
def k12m0 : Method := { name := "<init>", desc := "()V", sig := { parameters := [], returnType := none }, accessFlags := 4, code := some k12c0 }
/-- java/util/AbstractList -/
def k12 : Class := { plain "java/util/AbstractList" (some 9) with
  accessFlags := 1057
  interfaces := #[11]
  cf := some (fileOf pool12 8 #[.nestMembers #[93, 98, 208, 210, 82, 77]] #[{ accessFlags := 4, nameIndex := 5, descriptorIndex := 6, attributes := #[] }] 1057 2 #[133] #[{ accessFlags := 132, nameIndex := 11, descriptorIndex := 12, attributes := #[] }])
  fields := #[{ name := "modCount", type := .int, accessFlags := 132, slot := 0, constantValue := 0 }]
  methods := #[k12m0]
  instanceTypes := #[.int]
  staticTypes := #[]
  resolved := Array.replicate 218 none
  statics := none }

def pool13 : Array CpInfo := pool [(1, .class_ 2), (0, u "java/util/RandomAccess"), (0, .class_ 4), (0, u "java/lang/Object")] 2

/-- java/util/RandomAccess -/
def k13 : Class := { plain "java/util/RandomAccess" (some 0) with
  accessFlags := 1537
  interfaces := #[]
  cf := some (fileOf pool13 1 #[] #[] 1537 3 #[] #[])
  fields := #[]
  methods := #[]
  instanceTypes := #[]
  staticTypes := #[]
  resolved := Array.replicate 7 none
  statics := none }

def pool14 : Array CpInfo := pool [(1, .class_ 2), (0, u "java/lang/Cloneable"), (0, .class_ 4), (0, u "java/lang/Object")] 2

/-- java/lang/Cloneable -/
def k14 : Class := { plain "java/lang/Cloneable" (some 0) with
  accessFlags := 1537
  interfaces := #[]
  cf := some (fileOf pool14 1 #[] #[] 1537 3 #[] #[])
  fields := #[]
  methods := #[]
  instanceTypes := #[]
  staticTypes := #[]
  resolved := Array.replicate 7 none
  statics := none }

def pool15 : Array CpInfo := pool [(1, .methodref 2 3), (0, .class_ 4), (0, .nameAndType 5 6), (0, u "java/util/AbstractList"), (0, u "<init>"), (0, u "()V"), (0, .class_ 8), (0, u "java/lang/Object"), (0, .fieldref 10 11), (0, .class_ 12), (0, .nameAndType 13 14), (0, u "java/util/ArrayList"), (0, u "elementData"), (0, u "[Ljava/lang/Object;"), (2, u "EMPTY_ELEMENTDATA"), (21, .fieldref 10 40), (0, .nameAndType 41 14), (0, u "DEFAULTCAPACITY_EMPTY_ELEMENTDATA"), (4, u "toArray"), (0, u "()[Ljava/lang/Object;"), (0, .fieldref 10 49), (0, .nameAndType 50 51), (0, u "size"), (0, u "I"), (6, .class_ 60), (1, u "java/util/Arrays"), (0, u "copyOf"), (1, .fieldref 10 64), (0, .nameAndType 65 51), (0, u "modCount"), (0, .methodref 58 67), (0, .nameAndType 61 68), (0, u "([Ljava/lang/Object;I)[Ljava/lang/Object;"), (0, .methodref 10 70), (0, .nameAndType 71 72), (0, u "grow"), (0, u "(I)[Ljava/lang/Object;"), (6, .methodref 80 81), (0, .class_ 82), (0, .nameAndType 83 84), (0, u "java/lang/Math"), (0, u "max"), (0, u "(II)I"), (11, u "(Ljava/lang/Object;)Z"), (32, .methodref 10 130), (0, .nameAndType 71 47), (0, .methodref 10 132), (0, .nameAndType 133 134), (0, u "add"), (0, u "(Ljava/lang/Object;[Ljava/lang/Object;I)V"), (13, .class_ 149), (0, u "java/util/List"), (23, u "()Z"), (88, .class_ 263), (0, u "java/util/ArrayList$ListItr"), (3, .class_ 268), (0, u "java/util/ArrayList$Itr"), (7, .class_ 277), (0, u "java/util/ArrayList$SubList"), (12, .class_ 291), (0, u "java/util/ArrayList$ArrayListSpliterator"), (37, .class_ 330), (0, u "java/util/RandomAccess"), (0, .class_ 332), (0, u "java/lang/Cloneable"), (0, .class_ 334), (0, u "java/io/Serializable"), (0, u "serialVersionUID"), (0, u "J"), (3, u "DEFAULT_CAPACITY"), (22, u "isEmpty"), (136, .class_ 501), (0, u "java/util/ArrayList$SubList$2"), (0, .class_ 503), (0, u "java/util/ArrayList$SubList$1")] 5

def k15c0 : Code := { maxStack := 2, maxLocals := 1, code := jdk_38_method_2_code, exceptionTable := #[], attributes := #[] }
def k15m0 : Method := { name := "<init>", desc := "()V", sig := { parameters := [], returnType := none }, accessFlags := 1, code := some k15c0 }
def k15c1 : Code := { maxStack := 4, maxLocals := 4, code := jdk_38_method_6_code, exceptionTable := #[], attributes := #[] }
def k15m1 : Method := { name := "grow", desc := "(I)[Ljava/lang/Object;", sig := { parameters := [.int], returnType := some (.array (.object "java/lang/Object")) }, accessFlags := 2, code := some k15c1 }
def k15c2 : Code := { maxStack := 3, maxLocals := 1, code := jdk_38_method_7_code, exceptionTable := #[], attributes := #[] }
def k15m2 : Method := { name := "grow", desc := "()[Ljava/lang/Object;", sig := { parameters := [], returnType := some (.array (.object "java/lang/Object")) }, accessFlags := 2, code := some k15c2 }
def k15c3 : Code := { maxStack := 1, maxLocals := 1, code := jdk_38_method_9_code, exceptionTable := #[], attributes := #[] }
def k15m3 : Method := { name := "isEmpty", desc := "()Z", sig := { parameters := [], returnType := some .boolean }, accessFlags := 1, code := some k15c3 }
def k15c4 : Code := { maxStack := 2, maxLocals := 1, code := jdk_38_method_16_code, exceptionTable := #[], attributes := #[] }
def k15m4 : Method := { name := "toArray", desc := "()[Ljava/lang/Object;", sig := { parameters := [], returnType := some (.array (.object "java/lang/Object")) }, accessFlags := 1, code := some k15c4 }
def k15c5 : Code := { maxStack := 3, maxLocals := 4, code := jdk_38_method_24_code, exceptionTable := #[], attributes := #[] }
def k15m5 : Method := { name := "add", desc := "(Ljava/lang/Object;[Ljava/lang/Object;I)V", sig := { parameters := [(.object "java/lang/Object"), (.array (.object "java/lang/Object")), .int], returnType := none }, accessFlags := 2, code := some k15c5 }
def k15c6 : Code := { maxStack := 4, maxLocals := 2, code := jdk_38_method_25_code, exceptionTable := #[], attributes := #[] }
def k15m6 : Method := { name := "add", desc := "(Ljava/lang/Object;)Z", sig := { parameters := [(.object "java/lang/Object")], returnType := some .boolean }, accessFlags := 1, code := some k15c6 }
/-- java/util/ArrayList -/
def k15 : Class := { plain "java/util/ArrayList" (some 12) with
  accessFlags := 33
  interfaces := #[11, 13, 14, 4]
  cf := some (fileOf pool15 10 #[.nestMembers #[290, 276, 500, 502, 262, 267]] #[{ accessFlags := 1, nameIndex := 5, descriptorIndex := 6, attributes := #[] }, { accessFlags := 2, nameIndex := 71, descriptorIndex := 72, attributes := #[] }, { accessFlags := 2, nameIndex := 71, descriptorIndex := 47, attributes := #[] }, { accessFlags := 1, nameIndex := 363, descriptorIndex := 173, attributes := #[] }, { accessFlags := 1, nameIndex := 46, descriptorIndex := 47, attributes := #[] }, { accessFlags := 2, nameIndex := 133, descriptorIndex := 134, attributes := #[] }, { accessFlags := 1, nameIndex := 133, descriptorIndex := 96, attributes := #[] }] 33 2 #[148, 329, 331, 333] #[{ accessFlags := 26, nameIndex := 335, descriptorIndex := 336, attributes := #[] }, { accessFlags := 26, nameIndex := 340, descriptorIndex := 51, attributes := #[] }, { accessFlags := 26, nameIndex := 17, descriptorIndex := 14, attributes := #[] }, { accessFlags := 26, nameIndex := 41, descriptorIndex := 14, attributes := #[] }, { accessFlags := 128, nameIndex := 13, descriptorIndex := 14, attributes := #[] }, { accessFlags := 2, nameIndex := 50, descriptorIndex := 51, attributes := #[] }])
  fields := #[{ name := "serialVersionUID", type := .long, accessFlags := 26, slot := 0, constantValue := 0 }, { name := "DEFAULT_CAPACITY", type := .int, accessFlags := 26, slot := 1, constantValue := 0 }, { name := "EMPTY_ELEMENTDATA", type := (.array (.object "java/lang/Object")), accessFlags := 26, slot := 2, constantValue := 0 }, { name := "DEFAULTCAPACITY_EMPTY_ELEMENTDATA", type := (.array (.object "java/lang/Object")), accessFlags := 26, slot := 3, constantValue := 0 }, { name := "elementData", type := (.array (.object "java/lang/Object")), accessFlags := 128, slot := 1, constantValue := 0 }, { name := "size", type := .int, accessFlags := 2, slot := 2, constantValue := 0 }]
  methods := #[k15m0, k15m1, k15m2, k15m3, k15m4, k15m5, k15m6]
  instanceTypes := #[.int, (.array (.object "java/lang/Object")), .int]
  staticTypes := #[.long, .int, (.array (.object "java/lang/Object")), (.array (.object "java/lang/Object"))]
  resolved := Array.replicate 509 none
  statics := some 1 }

def pool16 : Array CpInfo := pool [(2, .class_ 4), (1, u "java/lang/CharSequence"), (42, .class_ 48), (0, u "java/lang/CharSequence$1CodePointIterator"), (10, .class_ 60), (0, u "java/lang/CharSequence$1CharIterator"), (5, .class_ 67), (0, u "java/lang/Object")] 63

/-- java/lang/CharSequence -/
def k16 : Class := { plain "java/lang/CharSequence" (some 0) with
  accessFlags := 1537
  interfaces := #[]
  cf := some (fileOf pool16 2 #[.nestMembers #[47, 59]] #[] 1537 66 #[] #[])
  fields := #[]
  methods := #[]
  instanceTypes := #[]
  staticTypes := #[]
  resolved := Array.replicate 131 none
  statics := none }

def pool17 : Array CpInfo := pool [(1, .class_ 2), (0, u "java/lang/constant/ConstantDesc"), (0, .class_ 4), (0, u "java/lang/Object")] 32

/-- java/lang/constant/ConstantDesc -/
def k17 : Class := { plain "java/lang/constant/ConstantDesc" (some 0) with
  accessFlags := 1537
  interfaces := #[]
  cf := some (fileOf pool17 1 #[] #[] 1537 3 #[] #[])
  fields := #[]
  methods := #[]
  instanceTypes := #[]
  staticTypes := #[]
  resolved := Array.replicate 37 none
  statics := none }

def pool18 : Array CpInfo := pool [(1, .methodref 2 3), (0, .class_ 4), (0, .nameAndType 5 6), (0, u "java/lang/Object"), (0, u "<init>"), (0, u "()V"), (2, .fieldref 10 11), (0, .class_ 12), (0, .nameAndType 13 14), (0, u "java/lang/String"), (0, u "value"), (0, u "[B"), (0, .fieldref 10 16), (0, .nameAndType 17 18), (0, u "coder"), (0, u "B"), (2, u "hash"), (0, u "I"), (2, u "hashIsZero"), (0, u "Z"), (11, .fieldref 10 39), (0, .nameAndType 40 26), (0, u "COMPACT_STRINGS"), (12, u "toBytes"), (53, .class_ 109), (1, u "java/lang/StringLatin1"), (99, .methodref 10 210), (0, .nameAndType 5 211), (0, u "([BB)V"), (157, u "(C)Z"), (205, .class_ 576), (0, u "java/lang/CharSequence"), (22, u "CASE_INSENSITIVE_ORDER"), (0, u "Ljava/util/Comparator;"), (181, u "valueOf"), (0, u "(C)Ljava/lang/String;"), (231, .methodref 107 1016), (0, .nameAndType 1017 369), (0, u "canEncode"), (0, .methodref 107 1019), (0, .nameAndType 53 1020), (0, u "(C)[B"), (80, u "serialPersistentFields"), (0, u "[Ljava/io/ObjectStreamField;"), (0, .class_ 1104), (0, u "java/lang/String$CaseInsensitiveComparator"), (1, .class_ 1107), (0, u "java/io/Serializable"), (0, .class_ 1109), (0, u "java/lang/Comparable"), (0, .class_ 1111), (0, u "java/lang/constant/Constable"), (0, .class_ 1113), (0, u "java/lang/constant/ConstantDesc"), (2, u "serialVersionUID"), (0, u "J"), (3, u "REPL"), (0, u "C"), (2, u "LATIN1"), (1, u "UTF16")] 323

def k18m0 : Method := { name := "<init>", desc := "()V", sig := { parameters := [], returnType := none }, accessFlags := 1, code := none }
def k18c1 : Code := { maxStack := 4, maxLocals := 1, code := jdk_42_method_139_code, exceptionTable := #[], attributes := #[] }
def k18m1 : Method := { name := "valueOf", desc := "(C)Ljava/lang/String;", sig := { parameters := [.char], returnType := some (.object "java/lang/String") }, accessFlags := 9, code := some k18c1 }
def k18c2 : Code := { maxStack := 2, maxLocals := 3, code := jdk_42_method_151_code, exceptionTable := #[], attributes := #[] }
def k18m2 : Method := { name := "<init>", desc := "([BB)V", sig := { parameters := [(.array .byte), .byte], returnType := none }, accessFlags := 0, code := some k18c2 }
/-- java/lang/String -/
def k18 : Class := { plain "java/lang/String" (some 0) with
  accessFlags := 49
  interfaces := #[4, 3, 16, 2, 17]
  cf := some (fileOf pool18 10 #[.nestMembers #[1103]] #[{ accessFlags := 1, nameIndex := 5, descriptorIndex := 6, attributes := #[] }, { accessFlags := 9, nameIndex := 782, descriptorIndex := 783, attributes := #[] }, { accessFlags := 0, nameIndex := 5, descriptorIndex := 211, attributes := #[] }] 49 2 #[1106, 1108, 575, 1110, 1112] #[{ accessFlags := 18, nameIndex := 13, descriptorIndex := 14, attributes := #[] }, { accessFlags := 18, nameIndex := 17, descriptorIndex := 18, attributes := #[] }, { accessFlags := 2, nameIndex := 21, descriptorIndex := 22, attributes := #[] }, { accessFlags := 2, nameIndex := 25, descriptorIndex := 26, attributes := #[] }, { accessFlags := 26, nameIndex := 1116, descriptorIndex := 1117, attributes := #[] }, { accessFlags := 24, nameIndex := 40, descriptorIndex := 26, attributes := #[] }, { accessFlags := 26, nameIndex := 1101, descriptorIndex := 1102, attributes := #[] }, { accessFlags := 26, nameIndex := 1121, descriptorIndex := 1122, attributes := #[] }, { accessFlags := 25, nameIndex := 599, descriptorIndex := 600, attributes := #[] }, { accessFlags := 24, nameIndex := 1125, descriptorIndex := 18, attributes := #[] }, { accessFlags := 24, nameIndex := 1127, descriptorIndex := 18, attributes := #[] }])
  fields := #[{ name := "value", type := (.array .byte), accessFlags := 18, slot := 0, constantValue := 0 }, { name := "coder", type := .byte, accessFlags := 18, slot := 1, constantValue := 0 }, { name := "hash", type := .int, accessFlags := 2, slot := 2, constantValue := 0 }, { name := "hashIsZero", type := .boolean, accessFlags := 2, slot := 3, constantValue := 0 }, { name := "serialVersionUID", type := .long, accessFlags := 26, slot := 0, constantValue := 0 }, { name := "COMPACT_STRINGS", type := .boolean, accessFlags := 24, slot := 1, constantValue := 0 }, { name := "serialPersistentFields", type := (.array (.object "java/io/ObjectStreamField")), accessFlags := 26, slot := 2, constantValue := 0 }, { name := "REPL", type := .char, accessFlags := 26, slot := 3, constantValue := 0 }, { name := "CASE_INSENSITIVE_ORDER", type := (.object "java/util/Comparator"), accessFlags := 25, slot := 4, constantValue := 0 }, { name := "LATIN1", type := .byte, accessFlags := 24, slot := 5, constantValue := 0 }, { name := "UTF16", type := .byte, accessFlags := 24, slot := 6, constantValue := 0 }]
  methods := #[k18m0, k18m1, k18m2]
  instanceTypes := #[(.array .byte), .byte, .int, .boolean]
  staticTypes := #[.long, .boolean, (.array (.object "java/io/ObjectStreamField")), .char, (.object "java/util/Comparator"), .byte, .byte]
  resolved := Array.replicate 1451 none
  statics := some 2 }

def pool19 : Array CpInfo := pool [(4, .class_ 6), (1, u "java/lang/Object"), (0, u "<init>"), (0, u "()V"), (5, .class_ 16), (1, u "java/lang/StringLatin1"), (73, u "canEncode"), (14, u "(C)Z"), (15, u "$assertionsDisabled"), (0, u "Z"), (98, .class_ 223), (1, u "java/lang/StringLatin1$LinesSpliterator"), (156, u "toBytes"), (1, u "(C)[B"), (7, .class_ 391), (0, u "java/lang/StringLatin1$CharsSpliterator")] 3

def k19m0 : Method := { name := "<init>", desc := "()V", sig := { parameters := [], returnType := none }, accessFlags := 0, code := none }
def k19c1 : Code := { maxStack := 2, maxLocals := 1, code := jdk_43_method_3_code, exceptionTable := #[], attributes := #[] }
def k19m1 : Method := { name := "canEncode", desc := "(C)Z", sig := { parameters := [.char], returnType := some .boolean }, accessFlags := 9, code := some k19c1 }
def k19c2 : Code := { maxStack := 4, maxLocals := 1, code := jdk_43_method_46_code, exceptionTable := #[], attributes := #[] }
def k19m2 : Method := { name := "toBytes", desc := "(C)[B", sig := { parameters := [.char], returnType := some (.array .byte) }, accessFlags := 9, code := some k19c2 }
/-- java/lang/StringLatin1 -/
def k19 : Class := { plain "java/lang/StringLatin1" (some 0) with
  accessFlags := 48
  interfaces := #[]
  cf := some (fileOf pool19 14 #[.nestMembers #[390, 221]] #[{ accessFlags := 0, nameIndex := 7, descriptorIndex := 8, attributes := #[] }, { accessFlags := 9, nameIndex := 90, descriptorIndex := 105, attributes := #[] }, { accessFlags := 9, nameIndex := 380, descriptorIndex := 382, attributes := #[] }] 48 4 #[] #[{ accessFlags := 4120, nameIndex := 121, descriptorIndex := 122, attributes := #[] }])
  fields := #[{ name := "$assertionsDisabled", type := .boolean, accessFlags := 4120, slot := 0, constantValue := 0 }]
  methods := #[k19m0, k19m1, k19m2]
  instanceTypes := #[]
  staticTypes := #[.boolean]
  resolved := Array.replicate 395 none
  statics := none }

def pool20 : Array CpInfo := pool [(1, .methodref 2 3), (0, .class_ 4), (0, .nameAndType 5 6), (0, u "java/lang/Object"), (0, u "<init>"), (0, u "()V"), (0, .class_ 8), (0, u "java/lang/Record")] 13

def k20c0 : Code := { maxStack := 1, maxLocals := 1, code := jdk_30_method_1_code, exceptionTable := #[], attributes := #[] }
def k20m0 : Method := { name := "<init>", desc := "()V", sig := { parameters := [], returnType := none }, accessFlags := 4, code := some k20c0 }
/-- java/lang/Record -/
def k20 : Class := { plain "java/lang/Record" (some 0) with
  accessFlags := 1057
  interfaces := #[]
  cf := some (fileOf pool20 7 #[] #[{ accessFlags := 4, nameIndex := 5, descriptorIndex := 6, attributes := #[] }] 1057 2 #[] #[])
  fields := #[]
  methods := #[k20m0]
  instanceTypes := #[]
  staticTypes := #[]
  resolved := Array.replicate 22 none
  statics := none }

def pool21 : Array CpInfo := pool [(1, .methodref 2 3), (0, .class_ 4), (0, .nameAndType 5 6), (0, u "java/lang/Record"), (0, u "<init>"), (0, u "()V"), (0, .interfaceMethodref 8 9), (0, .class_ 10), (0, .nameAndType 11 12), (0, u "java/util/List"), (0, u "copyOf"), (0, u "(Ljava/util/Collection;)Ljava/util/List;"), (0, .interfaceMethodref 8 14), (0, .nameAndType 15 16), (0, u "isEmpty"), (0, u "()Z"), (0, .fieldref 18 19), (0, .class_ 20), (0, .nameAndType 21 22), (0, u "com/example/treeshard/treeshard/model/Design$Kind"), (0, u "HORIZONTAL"), (0, u "Lcom/example/treeshard/treeshard/model/Design$Kind;"), (0, .fieldref 18 24), (0, .nameAndType 25 22), (0, u "VERTICAL"), (15, .fieldref 42 43), (0, .class_ 44), (0, .nameAndType 45 46), (0, u "com/example/treeshard/treeshard/model/Fragment"), (0, u "name"), (0, u "Ljava/lang/String;"), (0, .fieldref 42 48), (0, .nameAndType 49 46), (0, u "site"), (0, .fieldref 42 51), (0, .nameAndType 52 22), (0, u "kind"), (0, .fieldref 42 54), (0, .nameAndType 55 56), (0, u "selections"), (0, u "Ljava/util/List;"), (0, .fieldref 42 58), (0, .nameAndType 59 60), (0, u "projection"), (0, u "Lcom/example/treeshard/treeshard/model/Projection;"), (2, u "(Ljava/lang/String;Ljava/lang/String;Lcom/example/treeshard/treeshard/model/Design$Kind;Ljava/util/List;Lcom/example/treeshard/treeshard/model/Projection;)V"), (40, u "()Lcom/example/treeshard/treeshard/model/Design$Kind;")] 37

def k21c0 : Code := { maxStack := 4, maxLocals := 6, code := prog_21_method_1_code, exceptionTable := #[], attributes := #[] }
def k21m0 : Method := { name := "<init>", desc := "(Ljava/lang/String;Ljava/lang/String;Lcom/example/treeshard/treeshard/model/Design$Kind;Ljava/util/List;Lcom/example/treeshard/treeshard/model/Projection;)V", sig := { parameters := [(.object "java/lang/String"), (.object "java/lang/String"), (.object "com/example/treeshard/treeshard/model/Design$Kind"), (.object "java/util/List"), (.object "com/example/treeshard/treeshard/model/Projection")], returnType := none }, accessFlags := 1, code := some k21c0 }
def k21c1 : Code := { maxStack := 1, maxLocals := 1, code := prog_21_method_11_code, exceptionTable := #[], attributes := #[] }
def k21m1 : Method := { name := "kind", desc := "()Lcom/example/treeshard/treeshard/model/Design$Kind;", sig := { parameters := [], returnType := some (.object "com/example/treeshard/treeshard/model/Design$Kind") }, accessFlags := 1, code := some k21c1 }
/-- com/example/treeshard/treeshard/model/Fragment -/
def k21 : Class := { plain "com/example/treeshard/treeshard/model/Fragment" (some 20) with
  accessFlags := 49
  interfaces := #[]
  cf := some (fileOf pool21 42 #[] #[{ accessFlags := 1, nameIndex := 5, descriptorIndex := 63, attributes := #[] }, { accessFlags := 1, nameIndex := 52, descriptorIndex := 104, attributes := #[] }] 49 2 #[] #[{ accessFlags := 18, nameIndex := 45, descriptorIndex := 46, attributes := #[] }, { accessFlags := 18, nameIndex := 49, descriptorIndex := 46, attributes := #[] }, { accessFlags := 18, nameIndex := 52, descriptorIndex := 22, attributes := #[] }, { accessFlags := 18, nameIndex := 55, descriptorIndex := 56, attributes := #[] }, { accessFlags := 18, nameIndex := 59, descriptorIndex := 60, attributes := #[] }])
  fields := #[{ name := "name", type := (.object "java/lang/String"), accessFlags := 18, slot := 0, constantValue := 0 }, { name := "site", type := (.object "java/lang/String"), accessFlags := 18, slot := 1, constantValue := 0 }, { name := "kind", type := (.object "com/example/treeshard/treeshard/model/Design$Kind"), accessFlags := 18, slot := 2, constantValue := 0 }, { name := "selections", type := (.object "java/util/List"), accessFlags := 18, slot := 3, constantValue := 0 }, { name := "projection", type := (.object "com/example/treeshard/treeshard/model/Projection"), accessFlags := 18, slot := 4, constantValue := 0 }]
  methods := #[k21m0, k21m1]
  instanceTypes := #[(.object "java/lang/String"), (.object "java/lang/String"), (.object "com/example/treeshard/treeshard/model/Design$Kind"), (.object "java/util/List"), (.object "com/example/treeshard/treeshard/model/Projection")]
  staticTypes := #[]
  resolved := Array.replicate 142 none
  statics := none }

def pool22 : Array CpInfo := pool [(2, .class_ 4), (1, u "java/lang/Object"), (0, u "<init>"), (0, u "()V"), (3, .class_ 11), (0, u "java/util/ImmutableCollections$List12"), (0, .class_ 13), (0, u "java/util/ImmutableCollections$ListN"), (3, u "Z"), (0, .class_ 19), (0, u "java/util/List"), (0, .interfaceMethodref 21 22), (0, .class_ 23), (0, .nameAndType 24 25), (0, u "java/util/Collection"), (0, u "isEmpty"), (0, u "()Z"), (0, .interfaceMethodref 18 27), (0, .nameAndType 28 29), (0, u "of"), (0, u "()Ljava/util/List;"), (0, .interfaceMethodref 21 31), (0, .nameAndType 32 33), (0, u "toArray"), (0, u "()[Ljava/lang/Object;"), (0, .interfaceMethodref 18 35), (0, .nameAndType 28 36), (0, u "([Ljava/lang/Object;)Ljava/util/List;"), (0, .methodref 38 39), (0, .class_ 40), (0, .nameAndType 41 42), (0, u "java/util/Objects"), (0, u "requireNonNull"), (0, u "(Ljava/lang/Object;)Ljava/lang/Object;"), (0, .methodref 12 44), (0, .nameAndType 5 45), (0, u "([Ljava/lang/Object;Z)V"), (1, .class_ 49), (1, u "java/util/ImmutableCollections"), (0, u "$assertionsDisabled"), (5, u "[Ljava/lang/Object;"), (5, u "EMPTY_LIST"), (0, u "Ljava/util/ImmutableCollections$ListN;"), (8, u "EMPTY_LIST_NULLS"), (22, u "SALT32L"), (0, u "J"), (2, u "REVERSE"), (6, u "archivedObjects"), (2, u "EMPTY"), (0, u "Ljava/lang/Object;"), (0, .class_ 112), (0, u "java/util/ImmutableCollections$SetN"), (5, u "EMPTY_SET"), (0, u "Ljava/util/ImmutableCollections$SetN;"), (0, .class_ 121), (0, u "java/util/ImmutableCollections$MapN"), (3, u "EMPTY_MAP"), (0, u "Ljava/util/ImmutableCollections$MapN;"), (4, u "EXPAND_FACTOR"), (0, u "I"), (9, u "listCopy"), (0, u "(Ljava/util/Collection;)Ljava/util/List;"), (7, u "listFromArray"), (17, .class_ 170), (0, u "java/util/ImmutableCollections$MapN$MapNIterator"), (0, .class_ 172), (0, u "java/util/ImmutableCollections$MapN$1"), (0, .class_ 174), (0, u "java/util/ImmutableCollections$Map1"), (0, .class_ 176), (0, u "java/util/ImmutableCollections$AbstractImmutableMap"), (0, .class_ 178), (0, u "java/util/ImmutableCollections$SetN$SetNIterator"), (0, .class_ 180), (0, u "java/util/ImmutableCollections$Set12"), (0, .class_ 182), (0, u "java/util/ImmutableCollections$Set12$1"), (0, .class_ 184), (0, u "java/util/ImmutableCollections$AbstractImmutableSet"), (0, .class_ 186), (0, u "java/util/ImmutableCollections$SubList"), (0, .class_ 188), (0, u "java/util/ImmutableCollections$ListItr"), (0, .class_ 190), (0, u "java/util/ImmutableCollections$AbstractImmutableList"), (0, .class_ 192), (0, u "java/util/ImmutableCollections$AbstractImmutableCollection"), (0, .class_ 194), (0, u "java/util/ImmutableCollections$Access"), (0, .class_ 196), (0, u "java/util/ImmutableCollections$Access$1")] 16

def k22m0 : Method := { name := "<init>", desc := "()V", sig := { parameters := [], returnType := none }, accessFlags := 2, code := none }
def k22c1 : Code := { maxStack := 1, maxLocals := 2, code := jdk_56_method_3_code, exceptionTable := #[], attributes := #[] }
def k22m1 : Method := { name := "listCopy", desc := "(Ljava/util/Collection;)Ljava/util/List;", sig := { parameters := [(.object "java/util/Collection")], returnType := some (.object "java/util/List") }, accessFlags := 8, code := some k22c1 }
def k22c2 : Code := { maxStack := 4, maxLocals := 3, code := jdk_56_method_4_code, exceptionTable := #[], attributes := #[] }
def k22m2 : Method := { name := "listFromArray", desc := "([Ljava/lang/Object;)Ljava/util/List;", sig := { parameters := [(.array (.object "java/lang/Object"))], returnType := some (.object "java/util/List") }, accessFlags := 136, code := some k22c2 }
/-- java/util/ImmutableCollections -/
def k22 : Class := { plain "java/util/ImmutableCollections" (some 0) with
  accessFlags := 32
  interfaces := #[]
  cf := some (fileOf pool22 47 #[.nestMembers #[120, 169, 171, 173, 175, 111, 177, 179, 181, 183, 12, 10, 185, 187, 189, 191, 193, 195]] #[{ accessFlags := 2, nameIndex := 5, descriptorIndex := 6, attributes := #[] }, { accessFlags := 8, nameIndex := 142, descriptorIndex := 143, attributes := #[] }, { accessFlags := 136, nameIndex := 151, descriptorIndex := 36, attributes := #[] }] 32 2 #[] #[{ accessFlags := 26, nameIndex := 95, descriptorIndex := 96, attributes := #[] }, { accessFlags := 26, nameIndex := 99, descriptorIndex := 17, attributes := #[] }, { accessFlags := 10, nameIndex := 106, descriptorIndex := 56, attributes := #[] }, { accessFlags := 26, nameIndex := 109, descriptorIndex := 110, attributes := #[] }, { accessFlags := 24, nameIndex := 62, descriptorIndex := 63, attributes := #[] }, { accessFlags := 24, nameIndex := 72, descriptorIndex := 63, attributes := #[] }, { accessFlags := 24, nameIndex := 118, descriptorIndex := 119, attributes := #[] }, { accessFlags := 24, nameIndex := 125, descriptorIndex := 126, attributes := #[] }, { accessFlags := 24, nameIndex := 131, descriptorIndex := 132, attributes := #[] }, { accessFlags := 4120, nameIndex := 50, descriptorIndex := 17, attributes := #[] }])
  fields := #[{ name := "SALT32L", type := .long, accessFlags := 26, slot := 0, constantValue := 0 }, { name := "REVERSE", type := .boolean, accessFlags := 26, slot := 1, constantValue := 0 }, { name := "archivedObjects", type := (.array (.object "java/lang/Object")), accessFlags := 10, slot := 2, constantValue := 0 }, { name := "EMPTY", type := (.object "java/lang/Object"), accessFlags := 26, slot := 3, constantValue := 0 }, { name := "EMPTY_LIST", type := (.object "java/util/ImmutableCollections$ListN"), accessFlags := 24, slot := 4, constantValue := 0 }, { name := "EMPTY_LIST_NULLS", type := (.object "java/util/ImmutableCollections$ListN"), accessFlags := 24, slot := 5, constantValue := 0 }, { name := "EMPTY_SET", type := (.object "java/util/ImmutableCollections$SetN"), accessFlags := 24, slot := 6, constantValue := 0 }, { name := "EMPTY_MAP", type := (.object "java/util/ImmutableCollections$MapN"), accessFlags := 24, slot := 7, constantValue := 0 }, { name := "EXPAND_FACTOR", type := .int, accessFlags := 24, slot := 8, constantValue := 0 }, { name := "$assertionsDisabled", type := .boolean, accessFlags := 4120, slot := 9, constantValue := 0 }]
  methods := #[k22m0, k22m1, k22m2]
  instanceTypes := #[]
  staticTypes := #[.long, .boolean, (.array (.object "java/lang/Object")), (.object "java/lang/Object"), (.object "java/util/ImmutableCollections$ListN"), (.object "java/util/ImmutableCollections$ListN"), (.object "java/util/ImmutableCollections$SetN"), (.object "java/util/ImmutableCollections$MapN"), .int, .boolean]
  resolved := Array.replicate 213 none
  statics := some 3 }

def pool23 : Array CpInfo := pool [(1, .methodref 2 3), (0, .class_ 4), (0, .nameAndType 5 6), (0, u "java/util/AbstractCollection"), (0, u "<init>"), (0, u "()V"), (1, .class_ 10), (1, u "java/util/ImmutableCollections"), (2, .class_ 14), (0, u "java/util/ImmutableCollections$AbstractImmutableCollection")] 41

def k23c0 : Code := { maxStack := 1, maxLocals := 1, code := jdk_47_method_1_code, exceptionTable := #[], attributes := #[] }
def k23m0 : Method := { name := "<init>", desc := "()V", sig := { parameters := [], returnType := none }, accessFlags := 0, code := some k23c0 }
/-- java/util/ImmutableCollections$AbstractImmutableCollection -/
def k23 : Class := { plain "java/util/ImmutableCollections$AbstractImmutableCollection" (some 9) with
  accessFlags := 1056
  interfaces := #[]
  cf := some (fileOf pool23 13 #[.nestHost 8] #[{ accessFlags := 0, nameIndex := 5, descriptorIndex := 6, attributes := #[] }] 1056 2 #[] #[])
  fields := #[]
  methods := #[k23m0]
  instanceTypes := #[]
  staticTypes := #[]
  resolved := Array.replicate 56 none
  statics := none }

def pool24 : Array CpInfo := pool [(1, .methodref 2 3), (0, .class_ 4), (0, .nameAndType 5 6), (0, u "java/util/ImmutableCollections$AbstractImmutableCollection"), (0, u "<init>"), (0, u "()V"), (1, .class_ 10), (1, u "java/util/ImmutableCollections"), (3, .class_ 16), (1, u "java/util/ImmutableCollections$AbstractImmutableList"), (60, .class_ 78), (0, u "java/util/List"), (45, .class_ 125), (0, u "java/util/RandomAccess")] 70

def k24c0 : Code := { maxStack := 1, maxLocals := 1, code := jdk_46_method_1_code, exceptionTable := #[], attributes := #[] }
def k24m0 : Method := { name := "<init>", desc := "()V", sig := { parameters := [], returnType := none }, accessFlags := 0, code := some k24c0 }
/-- java/util/ImmutableCollections$AbstractImmutableList -/
def k24 : Class := { plain "java/util/ImmutableCollections$AbstractImmutableList" (some 23) with
  accessFlags := 1056
  interfaces := #[11, 13]
  cf := some (fileOf pool24 14 #[.nestHost 8] #[{ accessFlags := 0, nameIndex := 5, descriptorIndex := 6, attributes := #[] }] 1056 2 #[77, 124] #[])
  fields := #[]
  methods := #[k24m0]
  instanceTypes := #[]
  staticTypes := #[]
  resolved := Array.replicate 196 none
  statics := none }

def pool25 : Array CpInfo := pool [(1, .methodref 2 3), (0, .class_ 4), (0, .nameAndType 5 6), (0, u "java/util/ImmutableCollections$AbstractImmutableList"), (0, u "<init>"), (0, u "()V"), (0, .methodref 8 9), (0, .class_ 10), (0, .nameAndType 11 12), (0, u "java/util/Objects"), (0, u "requireNonNull"), (0, u "(Ljava/lang/Object;)Ljava/lang/Object;"), (0, .fieldref 14 15), (0, .class_ 16), (0, .nameAndType 17 18), (0, u "java/util/ImmutableCollections$List12"), (0, u "e0"), (0, u "Ljava/lang/Object;"), (0, .fieldref 20 21), (0, .class_ 22), (0, .nameAndType 23 18), (0, u "java/util/ImmutableCollections"), (0, u "EMPTY"), (0, .fieldref 14 25), (0, .nameAndType 26 18), (0, u "e1"), (43, .class_ 71), (0, u "java/io/Serializable"), (4, u "(Ljava/lang/Object;)V"), (8, u "(Ljava/lang/Object;Ljava/lang/Object;)V"), (2, u "isEmpty"), (0, u "()Z"), (0, u "get"), (0, u "(I)Ljava/lang/Object;")] 33

def k25c0 : Code := { maxStack := 2, maxLocals := 2, code := jdk_44_method_1_code, exceptionTable := #[], attributes := #[] }
def k25m0 : Method := { name := "<init>", desc := "(Ljava/lang/Object;)V", sig := { parameters := [(.object "java/lang/Object")], returnType := none }, accessFlags := 0, code := some k25c0 }
def k25c1 : Code := { maxStack := 2, maxLocals := 3, code := jdk_44_method_2_code, exceptionTable := #[], attributes := #[] }
def k25m1 : Method := { name := "<init>", desc := "(Ljava/lang/Object;Ljava/lang/Object;)V", sig := { parameters := [(.object "java/lang/Object"), (.object "java/lang/Object")], returnType := none }, accessFlags := 0, code := some k25c1 }
def k25c2 : Code := { maxStack := 1, maxLocals := 1, code := jdk_44_method_4_code, exceptionTable := #[], attributes := #[] }
def k25m2 : Method := { name := "isEmpty", desc := "()Z", sig := { parameters := [], returnType := some .boolean }, accessFlags := 1, code := some k25c2 }
def k25c3 : Code := { maxStack := 2, maxLocals := 2, code := jdk_44_method_5_code, exceptionTable := #[], attributes := #[] }
def k25m3 : Method := { name := "get", desc := "(I)Ljava/lang/Object;", sig := { parameters := [.int], returnType := some (.object "java/lang/Object") }, accessFlags := 1, code := some k25c3 }
/-- java/util/ImmutableCollections$List12 -/
def k25 : Class := { plain "java/util/ImmutableCollections$List12" (some 24) with
  accessFlags := 48
  interfaces := #[4]
  cf := some (fileOf pool25 14 #[.nestHost 20] #[{ accessFlags := 0, nameIndex := 5, descriptorIndex := 76, attributes := #[] }, { accessFlags := 0, nameIndex := 5, descriptorIndex := 85, attributes := #[] }, { accessFlags := 1, nameIndex := 88, descriptorIndex := 89, attributes := #[] }, { accessFlags := 1, nameIndex := 90, descriptorIndex := 91, attributes := #[] }] 48 2 #[70] #[{ accessFlags := 18, nameIndex := 17, descriptorIndex := 18, attributes := #[] }, { accessFlags := 18, nameIndex := 26, descriptorIndex := 18, attributes := #[] }])
  fields := #[{ name := "e0", type := (.object "java/lang/Object"), accessFlags := 18, slot := 0, constantValue := 0 }, { name := "e1", type := (.object "java/lang/Object"), accessFlags := 18, slot := 1, constantValue := 0 }]
  methods := #[k25m0, k25m1, k25m2, k25m3]
  instanceTypes := #[(.object "java/lang/Object"), (.object "java/lang/Object")]
  staticTypes := #[]
  resolved := Array.replicate 125 none
  statics := none }

def pool26 : Array CpInfo := pool [(1, .methodref 2 3), (0, .class_ 4), (0, .nameAndType 5 6), (0, u "java/util/ImmutableCollections$AbstractImmutableList"), (0, u "<init>"), (0, u "()V"), (0, .fieldref 8 9), (0, .class_ 10), (0, .nameAndType 11 12), (0, u "java/util/ImmutableCollections$ListN"), (0, u "elements"), (0, u "[Ljava/lang/Object;"), (0, .fieldref 8 14), (0, .nameAndType 15 16), (0, u "allowNulls"), (0, u "Z"), (42, .class_ 60), (0, u "java/io/Serializable"), (4, u "([Ljava/lang/Object;Z)V"), (8, u "isEmpty"), (0, u "()Z"), (3, u "get"), (0, u "(I)Ljava/lang/Object;"), (33, .class_ 115), (0, u "java/util/ImmutableCollections")] 3

def k26c0 : Code := { maxStack := 2, maxLocals := 3, code := jdk_45_method_1_code, exceptionTable := #[], attributes := #[] }
def k26m0 : Method := { name := "<init>", desc := "([Ljava/lang/Object;Z)V", sig := { parameters := [(.array (.object "java/lang/Object")), .boolean], returnType := none }, accessFlags := 2, code := some k26c0 }
def k26c1 : Code := { maxStack := 1, maxLocals := 1, code := jdk_45_method_2_code, exceptionTable := #[], attributes := #[] }
def k26m1 : Method := { name := "isEmpty", desc := "()Z", sig := { parameters := [], returnType := some .boolean }, accessFlags := 1, code := some k26c1 }
def k26c2 : Code := { maxStack := 2, maxLocals := 2, code := jdk_45_method_4_code, exceptionTable := #[], attributes := #[] }
def k26m2 : Method := { name := "get", desc := "(I)Ljava/lang/Object;", sig := { parameters := [.int], returnType := some (.object "java/lang/Object") }, accessFlags := 1, code := some k26c2 }
/-- java/util/ImmutableCollections$ListN -/
def k26 : Class := { plain "java/util/ImmutableCollections$ListN" (some 24) with
  accessFlags := 48
  interfaces := #[4]
  cf := some (fileOf pool26 8 #[.nestHost 114] #[{ accessFlags := 2, nameIndex := 5, descriptorIndex := 65, attributes := #[] }, { accessFlags := 1, nameIndex := 74, descriptorIndex := 75, attributes := #[] }, { accessFlags := 1, nameIndex := 79, descriptorIndex := 80, attributes := #[] }] 48 2 #[59] #[{ accessFlags := 18, nameIndex := 11, descriptorIndex := 12, attributes := #[] }, { accessFlags := 18, nameIndex := 15, descriptorIndex := 16, attributes := #[] }])
  fields := #[{ name := "elements", type := (.array (.object "java/lang/Object")), accessFlags := 18, slot := 0, constantValue := 0 }, { name := "allowNulls", type := .boolean, accessFlags := 18, slot := 1, constantValue := 0 }]
  methods := #[k26m0, k26m1, k26m2]
  instanceTypes := #[(.array (.object "java/lang/Object")), .boolean]
  staticTypes := #[]
  resolved := Array.replicate 119 none
  statics := none }

def pool27 : Array CpInfo := pool [(1, .class_ 2), (0, u "java/lang/Math"), (1, .class_ 6), (1, u "java/lang/Object"), (0, u "<init>"), (0, u "()V"), (89, .class_ 100), (1, u "java/lang/Math$RandomNumberGeneratorHolder"), (71, u "negativeZeroFloatBits"), (0, u "J"), (2, u "negativeZeroDoubleBits"), (21, u "max"), (2, u "min"), (43, u "$assertionsDisabled"), (0, u "Z"), (88, u "(II)I"), (2, u "twoToTheDoubleScaleDown"), (0, u "D"), (4, u "twoToTheDoubleScaleUp"), (9, u "E"), (3, u "PI"), (2, u "TAU"), (2, u "DEGREES_TO_RADIANS"), (0, u "RADIANS_TO_DEGREES")] 94

def k27m0 : Method := { name := "<init>", desc := "()V", sig := { parameters := [], returnType := none }, accessFlags := 2, code := none }
def k27c1 : Code := { maxStack := 2, maxLocals := 2, code := jdk_29_method_65_code, exceptionTable := #[], attributes := #[] }
def k27m1 : Method := { name := "max", desc := "(II)I", sig := { parameters := [.int, .int], returnType := some .int }, accessFlags := 9, code := some k27c1 }
def k27c2 : Code := { maxStack := 2, maxLocals := 2, code := jdk_29_method_69_code, exceptionTable := #[], attributes := #[] }
def k27m2 : Method := { name := "min", desc := "(II)I", sig := { parameters := [.int, .int], returnType := some .int }, accessFlags := 9, code := some k27c2 }
/-- java/lang/Math -/
def k27 : Class := { plain "java/lang/Math" (some 0) with
  accessFlags := 49
  interfaces := #[]
  cf := some (fileOf pool27 1 #[.nestMembers #[98]] #[{ accessFlags := 2, nameIndex := 7, descriptorIndex := 8, attributes := #[] }, { accessFlags := 9, nameIndex := 198, descriptorIndex := 335, attributes := #[] }, { accessFlags := 9, nameIndex := 201, descriptorIndex := 335, attributes := #[] }] 49 4 #[] #[{ accessFlags := 25, nameIndex := 354, descriptorIndex := 339, attributes := #[] }, { accessFlags := 25, nameIndex := 358, descriptorIndex := 339, attributes := #[] }, { accessFlags := 25, nameIndex := 361, descriptorIndex := 339, attributes := #[] }, { accessFlags := 26, nameIndex := 364, descriptorIndex := 339, attributes := #[] }, { accessFlags := 26, nameIndex := 365, descriptorIndex := 339, attributes := #[] }, { accessFlags := 26, nameIndex := 172, descriptorIndex := 173, attributes := #[] }, { accessFlags := 26, nameIndex := 176, descriptorIndex := 173, attributes := #[] }, { accessFlags := 8, nameIndex := 344, descriptorIndex := 339, attributes := #[] }, { accessFlags := 8, nameIndex := 338, descriptorIndex := 339, attributes := #[] }, { accessFlags := 4120, nameIndex := 245, descriptorIndex := 246, attributes := #[] }])
  fields := #[{ name := "E", type := .double, accessFlags := 25, slot := 0, constantValue := 0 }, { name := "PI", type := .double, accessFlags := 25, slot := 1, constantValue := 0 }, { name := "TAU", type := .double, accessFlags := 25, slot := 2, constantValue := 0 }, { name := "DEGREES_TO_RADIANS", type := .double, accessFlags := 26, slot := 3, constantValue := 0 }, { name := "RADIANS_TO_DEGREES", type := .double, accessFlags := 26, slot := 4, constantValue := 0 }, { name := "negativeZeroFloatBits", type := .long, accessFlags := 26, slot := 5, constantValue := 0 }, { name := "negativeZeroDoubleBits", type := .long, accessFlags := 26, slot := 6, constantValue := 0 }, { name := "twoToTheDoubleScaleUp", type := .double, accessFlags := 8, slot := 7, constantValue := 0 }, { name := "twoToTheDoubleScaleDown", type := .double, accessFlags := 8, slot := 8, constantValue := 0 }, { name := "$assertionsDisabled", type := .boolean, accessFlags := 4120, slot := 9, constantValue := 0 }]
  methods := #[k27m0, k27m1, k27m2]
  instanceTypes := #[]
  staticTypes := #[.double, .double, .double, .double, .double, .long, .long, .double, .double, .boolean]
  resolved := Array.replicate 460 none
  statics := none }

def pool28 : Array CpInfo := pool [(1, .methodref 2 3), (0, .class_ 4), (0, .nameAndType 5 6), (0, u "java/lang/Record"), (0, u "<init>"), (0, u "()V"), (0, .interfaceMethodref 8 9), (0, .class_ 10), (0, .nameAndType 11 12), (0, u "java/util/List"), (0, u "copyOf"), (0, u "(Ljava/util/Collection;)Ljava/util/List;"), (0, .fieldref 14 15), (0, .class_ 16), (0, .nameAndType 17 18), (0, u "com/example/treeshard/treeshard/model/Design"), (0, u "fragments"), (0, u "Ljava/util/List;"), (2, .class_ 22), (0, u "com/example/treeshard/treeshard/model/Fragment"), (23, u "(Ljava/util/List;)V"), (0, .interfaceMethodref 8 48), (0, .nameAndType 49 50), (0, u "get"), (0, u "(I)Ljava/lang/Object;"), (0, .methodref 21 52), (0, .nameAndType 53 54), (0, u "kind"), (0, u "()Lcom/example/treeshard/treeshard/model/Design$Kind;"), (31, .class_ 88), (1, u "com/example/treeshard/treeshard/model/Design$Kind")] 195

def k28c0 : Code := { maxStack := 2, maxLocals := 2, code := prog_6_method_1_code, exceptionTable := #[], attributes := #[] }
def k28m0 : Method := { name := "<init>", desc := "(Ljava/util/List;)V", sig := { parameters := [(.object "java/util/List")], returnType := none }, accessFlags := 1, code := some k28c0 }
def k28c1 : Code := { maxStack := 2, maxLocals := 1, code := prog_6_method_3_code, exceptionTable := #[], attributes := #[] }
def k28m1 : Method := { name := "kind", desc := "()Lcom/example/treeshard/treeshard/model/Design$Kind;", sig := { parameters := [], returnType := some (.object "com/example/treeshard/treeshard/model/Design$Kind") }, accessFlags := 1, code := some k28c1 }
/-- com/example/treeshard/treeshard/model/Design -/
def k28 : Class := { plain "com/example/treeshard/treeshard/model/Design" (some 20) with
  accessFlags := 49
  interfaces := #[]
  cf := some (fileOf pool28 14 #[.nestMembers #[86]] #[{ accessFlags := 1, nameIndex := 5, descriptorIndex := 46, attributes := #[] }, { accessFlags := 1, nameIndex := 53, descriptorIndex := 54, attributes := #[] }] 49 2 #[] #[{ accessFlags := 18, nameIndex := 17, descriptorIndex := 18, attributes := #[] }])
  fields := #[{ name := "fragments", type := (.object "java/util/List"), accessFlags := 18, slot := 0, constantValue := 0 }]
  methods := #[k28m0, k28m1]
  instanceTypes := #[(.object "java/util/List")]
  staticTypes := #[]
  resolved := Array.replicate 284 none
  statics := none }

def pool29 : Array CpInfo := pool [(2, .class_ 4), (1, u "java/lang/Object"), (0, u "<init>"), (0, u "()V"), (7, .class_ 16), (1, u "java/util/Arrays"), (57, .class_ 76), (1, u "java/util/Arrays$NaturalOrder"), (9, .methodref 2 87), (0, .nameAndType 88 89), (0, u "getClass"), (0, u "()Ljava/lang/Class;"), (20, .class_ 111), (0, u "[Ljava/lang/Object;"), (1, .class_ 115), (1, u "java/util/Arrays$LegacyMergeSort"), (1, u "Z"), (32, .methodref 151 152), (0, .class_ 153), (0, .nameAndType 154 155), (0, u "java/lang/System"), (0, u "arraycopy"), (0, u "(Ljava/lang/Object;ILjava/lang/Object;II)V"), (144, .methodref 14 301), (0, .nameAndType 302 303), (0, u "copyOf"), (0, u "([Ljava/lang/Object;ILjava/lang/Class;)[Ljava/lang/Object;"), (0, .methodref 305 306), (0, .class_ 307), (0, .nameAndType 308 309), (0, u "java/lang/Math"), (0, u "min"), (0, u "(II)I"), (65, .class_ 376), (0, u "java/util/Arrays$ArrayList"), (68, u "$assertionsDisabled"), (269, u "MIN_ARRAY_SORT_GRAN"), (0, u "I"), (2, u "INSERTIONSORT_THRESHOLD"), (140, u "([Ljava/lang/Object;I)[Ljava/lang/Object;"), (114, .class_ 976), (0, u "java/util/Arrays$ArrayItr")] 52

def k29m0 : Method := { name := "<init>", desc := "()V", sig := { parameters := [], returnType := none }, accessFlags := 2, code := none }
def k29c1 : Code := { maxStack := 3, maxLocals := 2, code := jdk_65_method_119_code, exceptionTable := #[], attributes := #[] }
def k29m1 : Method := { name := "copyOf", desc := "([Ljava/lang/Object;I)[Ljava/lang/Object;", sig := { parameters := [(.array (.object "java/lang/Object")), .int], returnType := some (.array (.object "java/lang/Object")) }, accessFlags := 9, code := some k29c1 }
def k29c2 : Code := { maxStack := 6, maxLocals := 4, code := jdk_65_method_120_code, exceptionTable := #[], attributes := #[] }
def k29m2 : Method := { name := "copyOf", desc := "([Ljava/lang/Object;ILjava/lang/Class;)[Ljava/lang/Object;", sig := { parameters := [(.array (.object "java/lang/Object")), .int, (.object "java/lang/Class")], returnType := some (.array (.object "java/lang/Object")) }, accessFlags := 9, code := some k29c2 }
/-- java/util/Arrays -/
def k29 : Class := { plain "java/util/Arrays" (some 0) with
  accessFlags := 49
  interfaces := #[]
  cf := some (fileOf pool29 14 #[.nestMembers #[975, 375, 113, 74]] #[{ accessFlags := 2, nameIndex := 5, descriptorIndex := 6, attributes := #[] }, { accessFlags := 9, nameIndex := 302, descriptorIndex := 860, attributes := #[] }, { accessFlags := 9, nameIndex := 302, descriptorIndex := 303, attributes := #[] }] 49 2 #[] #[{ accessFlags := 26, nameIndex := 715, descriptorIndex := 716, attributes := #[] }, { accessFlags := 26, nameIndex := 719, descriptorIndex := 716, attributes := #[] }, { accessFlags := 4120, nameIndex := 445, descriptorIndex := 117, attributes := #[] }])
  fields := #[{ name := "MIN_ARRAY_SORT_GRAN", type := .int, accessFlags := 26, slot := 0, constantValue := 0 }, { name := "INSERTIONSORT_THRESHOLD", type := .int, accessFlags := 26, slot := 1, constantValue := 0 }, { name := "$assertionsDisabled", type := .boolean, accessFlags := 4120, slot := 2, constantValue := 0 }]
  methods := #[k29m0, k29m1, k29m2]
  instanceTypes := #[]
  staticTypes := #[.int, .int, .boolean]
  resolved := Array.replicate 1029 none
  statics := none }

def pool30 : Array CpInfo := pool [(2, .class_ 4), (1, u "java/lang/Object"), (0, u "<init>"), (0, u "()V"), (1, .class_ 10), (1, u "java/lang/System"), (0, u "allowSecurityManager"), (0, u "I"), (16, u "cons"), (0, u "Ljava/io/Console;"), (77, .class_ 110), (1, u "java/lang/System$CallersHolder"), (43, u "initialErrStream"), (0, u "Ljava/io/PrintStream;"), (19, u "security"), (0, u "Ljava/lang/SecurityManager;"), (31, .class_ 209), (0, u "java/lang/System$1"), (7, u "props"), (0, u "Ljava/util/Properties;"), (2, u "lineSeparator"), (0, u "Ljava/lang/String;"), (96, .class_ 321), (1, u "java/lang/System$LoggerFinder"), (5, .class_ 328), (0, u "java/lang/System$Logger"), (67, u "err"), (2, u "out"), (91, u "notSupportedJnuEncoding"), (15, u "in"), (17, u "initialIn"), (0, u "Ljava/io/InputStream;"), (35, u "bootLayer"), (0, u "Ljava/lang/ModuleLayer;"), (99, .class_ 664), (0, u "java/lang/System$2"), (9, u "NEVER"), (2, u "MAYBE"), (49, u "arraycopy"), (0, u "(Ljava/lang/Object;ILjava/lang/Object;II)V"), (72, .class_ 802), (0, u "java/lang/System$Logger$Level")] 31

def k30m0 : Method := { name := "<init>", desc := "()V", sig := { parameters := [], returnType := none }, accessFlags := 2, code := none }
def k30m1 : Method := { name := "arraycopy", desc := "(Ljava/lang/Object;ILjava/lang/Object;II)V", sig := { parameters := [(.object "java/lang/Object"), .int, (.object "java/lang/Object"), .int, .int], returnType := none }, accessFlags := 265, code := none }
/-- java/lang/System -/
def k30 : Class := { plain "java/lang/System" (some 0) with
  accessFlags := 49
  interfaces := #[]
  cf := some (fileOf pool30 8 #[.nestMembers #[319, 327, 801, 108, 663, 208]] #[{ accessFlags := 2, nameIndex := 5, descriptorIndex := 6, attributes := #[] }, { accessFlags := 265, nameIndex := 727, descriptorIndex := 728, attributes := #[] }] 49 2 #[] #[{ accessFlags := 25, nameIndex := 507, descriptorIndex := 526, attributes := #[] }, { accessFlags := 25, nameIndex := 399, descriptorIndex := 155, attributes := #[] }, { accessFlags := 25, nameIndex := 396, descriptorIndex := 155, attributes := #[] }, { accessFlags := 10, nameIndex := 525, descriptorIndex := 526, attributes := #[] }, { accessFlags := 26, nameIndex := 674, descriptorIndex := 12, attributes := #[] }, { accessFlags := 26, nameIndex := 677, descriptorIndex := 12, attributes := #[] }, { accessFlags := 10, nameIndex := 11, descriptorIndex := 12, attributes := #[] }, { accessFlags := 74, nameIndex := 175, descriptorIndex := 176, attributes := #[] }, { accessFlags := 10, nameIndex := 491, descriptorIndex := 222, attributes := #[] }, { accessFlags := 74, nameIndex := 29, descriptorIndex := 30, attributes := #[] }, { accessFlags := 74, nameIndex := 154, descriptorIndex := 155, attributes := #[] }, { accessFlags := 10, nameIndex := 217, descriptorIndex := 218, attributes := #[] }, { accessFlags := 10, nameIndex := 221, descriptorIndex := 222, attributes := #[] }, { accessFlags := 8, nameIndex := 562, descriptorIndex := 563, attributes := #[] }])
  fields := #[{ name := "in", type := (.object "java/io/InputStream"), accessFlags := 25, slot := 0, constantValue := 0 }, { name := "out", type := (.object "java/io/PrintStream"), accessFlags := 25, slot := 1, constantValue := 0 }, { name := "err", type := (.object "java/io/PrintStream"), accessFlags := 25, slot := 2, constantValue := 0 }, { name := "initialIn", type := (.object "java/io/InputStream"), accessFlags := 10, slot := 3, constantValue := 0 }, { name := "NEVER", type := .int, accessFlags := 26, slot := 4, constantValue := 0 }, { name := "MAYBE", type := .int, accessFlags := 26, slot := 5, constantValue := 0 }, { name := "allowSecurityManager", type := .int, accessFlags := 10, slot := 6, constantValue := 0 }, { name := "security", type := (.object "java/lang/SecurityManager"), accessFlags := 74, slot := 7, constantValue := 0 }, { name := "notSupportedJnuEncoding", type := (.object "java/lang/String"), accessFlags := 10, slot := 8, constantValue := 0 }, { name := "cons", type := (.object "java/io/Console"), accessFlags := 74, slot := 9, constantValue := 0 }, { name := "initialErrStream", type := (.object "java/io/PrintStream"), accessFlags := 74, slot := 10, constantValue := 0 }, { name := "props", type := (.object "java/util/Properties"), accessFlags := 10, slot := 11, constantValue := 0 }, { name := "lineSeparator", type := (.object "java/lang/String"), accessFlags := 10, slot := 12, constantValue := 0 }, { name := "bootLayer", type := (.object "java/lang/ModuleLayer"), accessFlags := 8, slot := 13, constantValue := 0 }]
  methods := #[k30m0, k30m1]
  instanceTypes := #[]
  staticTypes := #[(.object "java/io/InputStream"), (.object "java/io/PrintStream"), (.object "java/io/PrintStream"), (.object "java/io/InputStream"), .int, .int, .int, (.object "java/lang/SecurityManager"), (.object "java/lang/String"), (.object "java/io/Console"), (.object "java/io/PrintStream"), (.object "java/util/Properties"), (.object "java/lang/String"), (.object "java/lang/ModuleLayer")]
  resolved := Array.replicate 834 none
  statics := none }

def pool31 : Array CpInfo := pool [(2, .class_ 4), (1, u "java/lang/Object"), (0, u "<init>"), (0, u "()V"), (35, .class_ 44), (1, u "java/util/Objects"), (0, u "requireNonNull"), (0, u "(Ljava/lang/Object;)Ljava/lang/Object;")] 137

def k31m0 : Method := { name := "<init>", desc := "()V", sig := { parameters := [], returnType := none }, accessFlags := 2, code := none }
def k31c1 : Code := { maxStack := 2, maxLocals := 1, code := jdk_31_method_10_code, exceptionTable := #[], attributes := #[] }
def k31m1 : Method := { name := "requireNonNull", desc := "(Ljava/lang/Object;)Ljava/lang/Object;", sig := { parameters := [(.object "java/lang/Object")], returnType := some (.object "java/lang/Object") }, accessFlags := 9, code := some k31c1 }
/-- java/util/Objects -/
def k31 : Class := { plain "java/util/Objects" (some 0) with
  accessFlags := 49
  interfaces := #[]
  cf := some (fileOf pool31 42 #[] #[{ accessFlags := 2, nameIndex := 5, descriptorIndex := 6, attributes := #[] }, { accessFlags := 9, nameIndex := 45, descriptorIndex := 46, attributes := #[] }] 49 2 #[] #[])
  fields := #[]
  methods := #[k31m0, k31m1]
  instanceTypes := #[]
  staticTypes := #[]
  resolved := Array.replicate 184 none
  statics := none }

def pool32 : Array CpInfo := pool [(1, .methodref 2 3), (0, .class_ 4), (0, .nameAndType 5 6), (0, u "java/lang/Record"), (0, u "<init>"), (0, u "()V"), (0, .fieldref 8 9), (0, .class_ 10), (0, .nameAndType 11 12), (0, u "com/example/treeshard/treeshard/model/Selection"), (0, u "path"), (0, u "Lcom/example/treeshard/treeshard/model/DocumentPath;"), (0, .fieldref 8 14), (0, .nameAndType 15 16), (0, u "test"), (0, u "Lcom/example/treeshard/treeshard/model/Selection$Test;"), (0, .fieldref 8 18), (0, .nameAndType 19 20), (0, u "value"), (0, u "Ljava/lang/String;"), (12, u "(Lcom/example/treeshard/treeshard/model/DocumentPath;Lcom/example/treeshard/treeshard/model/Selection$Test;Ljava/lang/String;)V"), (11, .class_ 46), (0, u "com/example/treeshard/treeshard/model/Selection$Test")] 21

def k32c0 : Code := { maxStack := 2, maxLocals := 4, code := prog_55_method_1_code, exceptionTable := #[], attributes := #[] }
def k32m0 : Method := { name := "<init>", desc := "(Lcom/example/treeshard/treeshard/model/DocumentPath;Lcom/example/treeshard/treeshard/model/Selection$Test;Ljava/lang/String;)V", sig := { parameters := [(.object "com/example/treeshard/treeshard/model/DocumentPath"), (.object "com/example/treeshard/treeshard/model/Selection$Test"), (.object "java/lang/String")], returnType := none }, accessFlags := 1, code := some k32c0 }
/-- com/example/treeshard/treeshard/model/Selection -/
def k32 : Class := { plain "com/example/treeshard/treeshard/model/Selection" (some 20) with
  accessFlags := 49
  interfaces := #[]
  cf := some (fileOf pool32 8 #[.nestMembers #[45]] #[{ accessFlags := 1, nameIndex := 5, descriptorIndex := 33, attributes := #[] }] 49 2 #[] #[{ accessFlags := 18, nameIndex := 11, descriptorIndex := 12, attributes := #[] }, { accessFlags := 18, nameIndex := 15, descriptorIndex := 16, attributes := #[] }, { accessFlags := 18, nameIndex := 19, descriptorIndex := 20, attributes := #[] }])
  fields := #[{ name := "path", type := (.object "com/example/treeshard/treeshard/model/DocumentPath"), accessFlags := 18, slot := 0, constantValue := 0 }, { name := "test", type := (.object "com/example/treeshard/treeshard/model/Selection$Test"), accessFlags := 18, slot := 1, constantValue := 0 }, { name := "value", type := (.object "java/lang/String"), accessFlags := 18, slot := 2, constantValue := 0 }]
  methods := #[k32m0]
  instanceTypes := #[(.object "com/example/treeshard/treeshard/model/DocumentPath"), (.object "com/example/treeshard/treeshard/model/Selection$Test"), (.object "java/lang/String")]
  staticTypes := #[]
  resolved := Array.replicate 68 none
  statics := none }

def pool33 : Array CpInfo := pool [(2, .class_ 4), (1, u "java/lang/Object"), (0, u "<init>"), (0, u "()V"), (17, .class_ 26), (1, u "jdk/internal/util/Preconditions"), (28, .class_ 56), (0, u "jdk/internal/util/Preconditions$4"), (57, .class_ 115), (0, u "jdk/internal/util/Preconditions$1"), (7, u "SIOOBE_FORMATTER"), (0, u "Ljava/util/function/BiFunction;"), (0, .class_ 126), (0, u "jdk/internal/util/Preconditions$2"), (3, u "AIOOBE_FORMATTER"), (0, .class_ 132), (0, u "jdk/internal/util/Preconditions$3"), (3, u "IOOBE_FORMATTER")] 57

def k33m0 : Method := { name := "<init>", desc := "()V", sig := { parameters := [], returnType := none }, accessFlags := 1, code := none }
/-- jdk/internal/util/Preconditions -/
def k33 : Class := { plain "jdk/internal/util/Preconditions" (some 0) with
  accessFlags := 33
  interfaces := #[]
  cf := some (fileOf pool33 24 #[.nestMembers #[55, 131, 125, 114]] #[{ accessFlags := 1, nameIndex := 5, descriptorIndex := 6, attributes := #[] }] 33 2 #[] #[{ accessFlags := 25, nameIndex := 123, descriptorIndex := 124, attributes := #[] }, { accessFlags := 25, nameIndex := 130, descriptorIndex := 124, attributes := #[] }, { accessFlags := 25, nameIndex := 136, descriptorIndex := 124, attributes := #[] }])
  fields := #[{ name := "SIOOBE_FORMATTER", type := (.object "java/util/function/BiFunction"), accessFlags := 25, slot := 0, constantValue := 0 }, { name := "AIOOBE_FORMATTER", type := (.object "java/util/function/BiFunction"), accessFlags := 25, slot := 1, constantValue := 0 }, { name := "IOOBE_FORMATTER", type := (.object "java/util/function/BiFunction"), accessFlags := 25, slot := 2, constantValue := 0 }]
  methods := #[k33m0]
  instanceTypes := #[]
  staticTypes := #[(.object "java/util/function/BiFunction"), (.object "java/util/function/BiFunction"), (.object "java/util/function/BiFunction")]
  resolved := Array.replicate 194 none
  statics := some 4 }

def pool34 : Array CpInfo := pool [(9, u "<init>"), (6, .class_ 18), (1, u "java/lang/Object"), (0, u "()V"), (1, .class_ 23), (1, u "jdk/internal/util/ArraysSupport"), (0, u "LOG2_ARRAY_LONG_INDEX_SCALE"), (0, u "I"), (2, u "U"), (0, u "Ljdk/internal/misc/Unsafe;"), (8, u "BIG_ENDIAN"), (0, u "Z"), (8, u "LOG2_BYTE_BIT_SIZE"), (4, u "LOG2_ARRAY_INT_INDEX_SCALE"), (54, u "JLA"), (0, u "Ljdk/internal/access/JavaLangAccess;"), (11, u "LOG2_ARRAY_BOOLEAN_INDEX_SCALE"), (9, u "LOG2_ARRAY_BYTE_INDEX_SCALE"), (5, u "LOG2_ARRAY_CHAR_INDEX_SCALE"), (5, u "LOG2_ARRAY_SHORT_INDEX_SCALE"), (18, u "LOG2_ARRAY_FLOAT_INDEX_SCALE"), (24, u "LOG2_ARRAY_DOUBLE_INDEX_SCALE"), (89, u "T_BOOLEAN"), (2, u "T_CHAR"), (1, u "T_FLOAT"), (1, u "T_DOUBLE"), (1, u "T_BYTE"), (1, u "T_SHORT"), (1, u "T_INT"), (1, u "T_LONG"), (1, u "SOFT_MAX_ARRAY_LENGTH")] 83

def k34m0 : Method := { name := "<init>", desc := "()V", sig := { parameters := [], returnType := none }, accessFlags := 2, code := none }
/-- jdk/internal/util/ArraysSupport -/
def k34 : Class := { plain "jdk/internal/util/ArraysSupport" (some 0) with
  accessFlags := 33
  interfaces := #[]
  cf := some (fileOf pool34 21 #[] #[{ accessFlags := 2, nameIndex := 9, descriptorIndex := 19, attributes := #[] }] 33 16 #[] #[{ accessFlags := 24, nameIndex := 28, descriptorIndex := 29, attributes := #[] }, { accessFlags := 26, nameIndex := 38, descriptorIndex := 39, attributes := #[] }, { accessFlags := 25, nameIndex := 121, descriptorIndex := 25, attributes := #[] }, { accessFlags := 25, nameIndex := 131, descriptorIndex := 25, attributes := #[] }, { accessFlags := 25, nameIndex := 137, descriptorIndex := 25, attributes := #[] }, { accessFlags := 25, nameIndex := 143, descriptorIndex := 25, attributes := #[] }, { accessFlags := 25, nameIndex := 53, descriptorIndex := 25, attributes := #[] }, { accessFlags := 25, nameIndex := 24, descriptorIndex := 25, attributes := #[] }, { accessFlags := 25, nameIndex := 162, descriptorIndex := 25, attributes := #[] }, { accessFlags := 25, nameIndex := 187, descriptorIndex := 25, attributes := #[] }, { accessFlags := 26, nameIndex := 48, descriptorIndex := 25, attributes := #[] }, { accessFlags := 25, nameIndex := 277, descriptorIndex := 25, attributes := #[] }, { accessFlags := 25, nameIndex := 280, descriptorIndex := 25, attributes := #[] }, { accessFlags := 25, nameIndex := 282, descriptorIndex := 25, attributes := #[] }, { accessFlags := 25, nameIndex := 284, descriptorIndex := 25, attributes := #[] }, { accessFlags := 25, nameIndex := 286, descriptorIndex := 25, attributes := #[] }, { accessFlags := 25, nameIndex := 288, descriptorIndex := 25, attributes := #[] }, { accessFlags := 25, nameIndex := 290, descriptorIndex := 25, attributes := #[] }, { accessFlags := 25, nameIndex := 292, descriptorIndex := 25, attributes := #[] }, { accessFlags := 26, nameIndex := 108, descriptorIndex := 109, attributes := #[] }, { accessFlags := 25, nameIndex := 294, descriptorIndex := 25, attributes := #[] }])
  fields := #[{ name := "U", type := (.object "jdk/internal/misc/Unsafe"), accessFlags := 24, slot := 0, constantValue := 0 }, { name := "BIG_ENDIAN", type := .boolean, accessFlags := 26, slot := 1, constantValue := 0 }, { name := "LOG2_ARRAY_BOOLEAN_INDEX_SCALE", type := .int, accessFlags := 25, slot := 2, constantValue := 0 }, { name := "LOG2_ARRAY_BYTE_INDEX_SCALE", type := .int, accessFlags := 25, slot := 3, constantValue := 0 }, { name := "LOG2_ARRAY_CHAR_INDEX_SCALE", type := .int, accessFlags := 25, slot := 4, constantValue := 0 }, { name := "LOG2_ARRAY_SHORT_INDEX_SCALE", type := .int, accessFlags := 25, slot := 5, constantValue := 0 }, { name := "LOG2_ARRAY_INT_INDEX_SCALE", type := .int, accessFlags := 25, slot := 6, constantValue := 0 }, { name := "LOG2_ARRAY_LONG_INDEX_SCALE", type := .int, accessFlags := 25, slot := 7, constantValue := 0 }, { name := "LOG2_ARRAY_FLOAT_INDEX_SCALE", type := .int, accessFlags := 25, slot := 8, constantValue := 0 }, { name := "LOG2_ARRAY_DOUBLE_INDEX_SCALE", type := .int, accessFlags := 25, slot := 9, constantValue := 0 }, { name := "LOG2_BYTE_BIT_SIZE", type := .int, accessFlags := 26, slot := 10, constantValue := 0 }, { name := "T_BOOLEAN", type := .int, accessFlags := 25, slot := 11, constantValue := 0 }, { name := "T_CHAR", type := .int, accessFlags := 25, slot := 12, constantValue := 0 }, { name := "T_FLOAT", type := .int, accessFlags := 25, slot := 13, constantValue := 0 }, { name := "T_DOUBLE", type := .int, accessFlags := 25, slot := 14, constantValue := 0 }, { name := "T_BYTE", type := .int, accessFlags := 25, slot := 15, constantValue := 0 }, { name := "T_SHORT", type := .int, accessFlags := 25, slot := 16, constantValue := 0 }, { name := "T_INT", type := .int, accessFlags := 25, slot := 17, constantValue := 0 }, { name := "T_LONG", type := .int, accessFlags := 25, slot := 18, constantValue := 0 }, { name := "JLA", type := (.object "jdk/internal/access/JavaLangAccess"), accessFlags := 26, slot := 19, constantValue := 0 }, { name := "SOFT_MAX_ARRAY_LENGTH", type := .int, accessFlags := 25, slot := 20, constantValue := 0 }]
  methods := #[k34m0]
  instanceTypes := #[]
  staticTypes := #[(.object "jdk/internal/misc/Unsafe"), .boolean, .int, .int, .int, .int, .int, .int, .int, .int, .int, .int, .int, .int, .int, .int, .int, .int, .int, (.object "jdk/internal/access/JavaLangAccess"), .int]
  resolved := Array.replicate 378 none
  statics := none }

def pool35 : Array CpInfo := pool [(1, u "java/lang/Class"), (0, .class_ 1), (0, u "java/lang/Object"), (0, .class_ 3)] 0

/-- java/lang/Class -/
def k35 : Class := { plain "java/lang/Class" (some 0) with
  accessFlags := 49
  interfaces := #[]
  cf := some (fileOf pool35 2 #[] #[] 49 4 #[] #[])
  fields := #[]
  methods := #[]
  instanceTypes := #[]
  staticTypes := #[]
  resolved := Array.replicate 5 none
  statics := none }

/-- the primitive byte -/
def k36 : Class := { plain "byte" none with kind := .primitive 'B', accessFlags := 0x411 }
/-- [B -/
def k37 : Class := { plain "[B" (some 0) with kind := .array 36 .byte, interfaces := #[14, 4], accessFlags := 1041 }

/-- the primitive int -/
def k38 : Class := { plain "int" none with kind := .primitive 'I', accessFlags := 0x411 }
/-- [I -/
def k39 : Class := { plain "[I" (some 0) with kind := .array 38 .int, interfaces := #[14, 4], accessFlags := 1041 }

/-- [Ljava/lang/Object; -/
def k40 : Class := { plain "[Ljava/lang/Object;" (some 0) with kind := .array 0 (.object "java/lang/Object"), interfaces := #[14, 4], accessFlags := 1041, mirror := some 5 }

def heap : Heap := #[{ cls := 6, slots := #[.ref 6, .ref 7, .ref 8, .ref 9, .null], vm := .statics 6 },
  { cls := 15, slots := #[.long 0, .int 0, .ref 10, .ref 11], vm := .statics 15 },
  { cls := 18, slots := #[.long 0, .int 1, .null, .int 0, .null, .int 0, .int 0], vm := .statics 18 },
  { cls := 22, slots := #[.long 0, .int 0, .null, .ref 13, .ref 12, .null, .null, .null, .int 0, .int 1], vm := .statics 22 },
  { cls := 33, slots := #[.null, .null, .null], vm := .statics 33 },
  { cls := 35, slots := #[], vm := .mirror 40 },
  { cls := 6, slots := #[.null, .int 0, .int 0], vm := .none },
  { cls := 6, slots := #[.null, .int 1, .int 0], vm := .none },
  { cls := 6, slots := #[.null, .int 2, .int 0], vm := .none },
  { cls := 6, slots := #[.null, .int 3, .int 0], vm := .none },
  { cls := 40, slots := #[], vm := .none },
  { cls := 40, slots := #[], vm := .none },
  { cls := 26, slots := #[.ref 10, .int 0], vm := .none },
  { cls := 0, slots := #[], vm := .none }]
def classes : Array Class := #[k0, k1, k2, k3, k4, k5, k6, k7, k8, k9, k10, k11, k12, k13, k14, k15, k16, k17, k18, k19, k20, k21, k22, k23, k24, k25, k26, k27, k28, k29, k30, k31, k32, k33, k34, k35, k36, k37, k38, k39, k40]
def interned : List (Array UInt16 × Addr) := []
def slotsUsed : Nat := 43
def theMethod : MethodId := ⟨1, 2⟩
def args0 : Array Value := #[.int 1, .int 2]
def aboutOver (below : List Frame) : State where
  vm := { classes := classes, interned := interned.toArray }
  heap := heap
  slotsUsed := slotsUsed
  threads := #[{ frames := .invoking theMethod args0 :: below }]
def below0 : List Frame := [.native { method := ⟨0, 0⟩, args := #[] }]
def about1 : State := aboutOver below0
def p0 : Program := .bare "" "" ""
def e0 : Env := launch0.env 0 0 0
theorem w_frames : about1.frames = Frame.invoking theMethod args0 :: below0 := rfl
set_option maxRecDepth 65536 in
theorem w_args : argsFit about1.vm theMethod args0 = true := by decide +kernel
set_option maxRecDepth 65536 in
theorem w_heap : heapFits about1 = true := by decide +kernel
set_option maxRecDepth 65536 in
theorem w_runnable : about1.curStatus? = some .runnable := by decide +kernel
set_option maxRecDepth 65536 in
theorem w_alone : about1.alone = true := by decide +kernel
set_option maxRecDepth 65536 in
theorem w_named : about1.methodNamed? x = some theMethod := by decide +kernel
set_option maxRecDepth 65536 in
theorem w_hears : about1.hears theMethod below0 = true := by decide +kernel
set_option maxRecDepth 65536 in
theorem w_ripe : about1.ripe theMethod args0 below0 = true := by decide +kernel
theorem w_running : about1.status = .running := rfl
set_option maxRecDepth 65536 in
theorem w_room : about1.hasRoom e0.platform room_1 = true :=
  launch0.hasRoom_least _ room_1 (by decide +kernel) (by decide +kernel) (by decide +kernel) (by decide +kernel) (by decide +kernel) (by decide +kernel)
theorem allAtoms_all (ts : List Jvm.Cond) (a : Array Jvm.Value) (st : Jvm.State) : (allAtoms ts).before a st = ts.all (fun c => c.before a st) := by
  induction ts with
  | nil => rfl
  | cons c t ih =>
    show (Jvm.Cond.and c (allAtoms t)).before a st = _
    rw [Jvm.Cond.before_and, ih, List.all_cons]
def words1 : List Jvm.Cond := Jvm.Cond.code x code maxLocals ret :: tables_1
/-- a 'code' word, met by the world's own term for the bytes: nothing is compared byte by byte -/
theorem code_word {y : MethodName} {bytes : ByteArray} {mx : Nat} {rt : Option FieldType} {a : Array Value} {s : State} {m : MethodId} {meth : Method} {c : Code} (h1 : s.methodNamed? y = some m) (h2 : s.vm.method? m = some meth) (h3 : meth.code = some c) (h4 : c.code = bytes)
    (h5 : (c.maxLocals == mx && c.exceptionTable.isEmpty && decide (c.maxStack ≤ mostOperands) && decide (meth.sig.returnType = rt) && !meth.locks && decide (parseMethodDescriptor y.desc = some meth.sig)) = true) : (Jvm.Cond.code y bytes mx rt).before a s = true := by
  simp only [Bool.and_eq_true, beq_iff_eq, Bool.not_eq_true', decide_eq_true_eq] at h5
  obtain ⟨⟨⟨⟨⟨g1, g2⟩, g3⟩, g4⟩, g5⟩, g6⟩ := h5
  simp [Cond.before, Cond.holds, Cond.value, h1, h2, h3, h4, g1, g2, g3, g4, g5, g6]
def isCode : Jvm.Cond → Bool
  | .code _ _ _ _ => true
  | _ => false
theorem all_split {L : List Jvm.Cond} {P : Jvm.Cond → Bool} (h1 : L.all (fun c => isCode c || P c) = true) (h2 : ∀ c ∈ L.filter isCode, P c = true) : L.all P = true := by
  refine List.all_eq_true.mpr fun c hc => ?_
  have h := List.all_eq_true.mp h1 c hc
  rcases Bool.eq_false_or_eq_true (isCode c) with hi | hi
  · exact h2 c (List.mem_filter.mpr ⟨hc, hi⟩)
  · simpa [hi] using h
set_option maxRecDepth 65536 in
theorem w_c0 : (Jvm.Cond.code x code maxLocals ret).before args0 about1 = true := code_word (m := ⟨1, 2⟩) (meth := k1m2) (c := k1c2) (by decide +kernel) rfl rfl rfl (by decide +kernel)
set_option maxRecDepth 65536 in
theorem w_c1 : (Jvm.Cond.code ({ cls := "java/util/ArrayList", name := "<init>", desc := "()V" } : Jvm.MethodName) jdk_38_method_2_code (1 : Nat) (Option.none : Option Jvm.ClassFile.FieldType)).before args0 about1 = true := code_word (m := ⟨15, 0⟩) (meth := k15m0) (c := k15c0) (by decide +kernel) rfl rfl rfl (by decide +kernel)
set_option maxRecDepth 65536 in
theorem w_c2 : (Jvm.Cond.code ({ cls := "java/util/AbstractList", name := "<init>", desc := "()V" } : Jvm.MethodName) jdk_39_method_1_code (1 : Nat) (Option.none : Option Jvm.ClassFile.FieldType)).before args0 about1 = true := code_word (m := ⟨12, 0⟩) (meth := k12m0) (c := k12c0) (by decide +kernel) rfl rfl rfl (by decide +kernel)
set_option maxRecDepth 65536 in
theorem w_c3 : (Jvm.Cond.code ({ cls := "java/util/AbstractCollection", name := "<init>", desc := "()V" } : Jvm.MethodName) jdk_22_method_1_code (1 : Nat) (Option.none : Option Jvm.ClassFile.FieldType)).before args0 about1 = true := code_word (m := ⟨9, 0⟩) (meth := k9m0) (c := k9c0) (by decide +kernel) rfl rfl rfl (by decide +kernel)
set_option maxRecDepth 65536 in
theorem w_c4 : (Jvm.Cond.code ({ cls := "java/lang/Object", name := "<init>", desc := "()V" } : Jvm.MethodName) object_method_1_code (1 : Nat) (Option.none : Option Jvm.ClassFile.FieldType)).before args0 about1 = true := code_word (m := ⟨0, 0⟩) (meth := k0m0) (c := k0c0) (by decide +kernel) rfl rfl rfl (by decide +kernel)
set_option maxRecDepth 65536 in
theorem w_c5 : (Jvm.Cond.code ({ cls := "com/example/treeshard/treeshard/model/DesignKindPinLaw", name := "make", desc := "(Lcom/example/treeshard/treeshard/model/Design$Kind;I)Lcom/example/treeshard/treeshard/model/Fragment;" } : Jvm.MethodName) method_2_code (4 : Nat) (Option.some (Jvm.ClassFile.FieldType.object "com/example/treeshard/treeshard/model/Fragment"))).before args0 about1 = true := code_word (m := ⟨1, 1⟩) (meth := k1m1) (c := k1c1) (by decide +kernel) rfl rfl rfl (by decide +kernel)
set_option maxRecDepth 65536 in
theorem w_c6 : (Jvm.Cond.code ({ cls := "java/lang/String", name := "valueOf", desc := "(C)Ljava/lang/String;" } : Jvm.MethodName) jdk_42_method_139_code (1 : Nat) (Option.some (Jvm.ClassFile.FieldType.object "java/lang/String"))).before args0 about1 = true := code_word (m := ⟨18, 1⟩) (meth := k18m1) (c := k18c1) (by decide +kernel) rfl rfl rfl (by decide +kernel)
set_option maxRecDepth 65536 in
theorem w_c7 : (Jvm.Cond.code ({ cls := "java/lang/StringLatin1", name := "canEncode", desc := "(C)Z" } : Jvm.MethodName) jdk_43_method_3_code (1 : Nat) (Option.some Jvm.ClassFile.FieldType.boolean)).before args0 about1 = true := code_word (m := ⟨19, 1⟩) (meth := k19m1) (c := k19c1) (by decide +kernel) rfl rfl rfl (by decide +kernel)
set_option maxRecDepth 65536 in
theorem w_c8 : (Jvm.Cond.code ({ cls := "java/lang/StringLatin1", name := "toBytes", desc := "(C)[B" } : Jvm.MethodName) jdk_43_method_46_code (1 : Nat) (Option.some (Jvm.ClassFile.FieldType.array Jvm.ClassFile.FieldType.byte))).before args0 about1 = true := code_word (m := ⟨19, 2⟩) (meth := k19m2) (c := k19c2) (by decide +kernel) rfl rfl rfl (by decide +kernel)
set_option maxRecDepth 65536 in
theorem w_c9 : (Jvm.Cond.code ({ cls := "java/lang/String", name := "<init>", desc := "([BB)V" } : Jvm.MethodName) jdk_42_method_151_code (3 : Nat) (Option.none : Option Jvm.ClassFile.FieldType)).before args0 about1 = true := code_word (m := ⟨18, 2⟩) (meth := k18m2) (c := k18c2) (by decide +kernel) rfl rfl rfl (by decide +kernel)
set_option maxRecDepth 65536 in
theorem w_c10 : (Jvm.Cond.code ({ cls := "com/example/treeshard/treeshard/model/Fragment", name := "<init>", desc := "(Ljava/lang/String;Ljava/lang/String;Lcom/example/treeshard/treeshard/model/Design$Kind;Ljava/util/List;Lcom/example/treeshard/treeshard/model/Projection;)V" } : Jvm.MethodName) prog_21_method_1_code (6 : Nat) (Option.none : Option Jvm.ClassFile.FieldType)).before args0 about1 = true := code_word (m := ⟨21, 0⟩) (meth := k21m0) (c := k21c0) (by decide +kernel) rfl rfl rfl (by decide +kernel)
set_option maxRecDepth 65536 in
theorem w_c11 : (Jvm.Cond.code ({ cls := "java/lang/Record", name := "<init>", desc := "()V" } : Jvm.MethodName) jdk_30_method_1_code (1 : Nat) (Option.none : Option Jvm.ClassFile.FieldType)).before args0 about1 = true := code_word (m := ⟨20, 0⟩) (meth := k20m0) (c := k20c0) (by decide +kernel) rfl rfl rfl (by decide +kernel)
set_option maxRecDepth 65536 in
theorem w_c12 : (Jvm.Cond.code ({ cls := "java/util/List", name := "copyOf", desc := "(Ljava/util/Collection;)Ljava/util/List;" } : Jvm.MethodName) jdk_40_method_48_code (1 : Nat) (Option.some (Jvm.ClassFile.FieldType.object "java/util/List"))).before args0 about1 = true := code_word (m := ⟨11, 4⟩) (meth := k11m4) (c := k11c4) (by decide +kernel) rfl rfl rfl (by decide +kernel)
set_option maxRecDepth 65536 in
theorem w_c13 : (Jvm.Cond.code ({ cls := "java/util/ImmutableCollections", name := "listCopy", desc := "(Ljava/util/Collection;)Ljava/util/List;" } : Jvm.MethodName) jdk_56_method_3_code (2 : Nat) (Option.some (Jvm.ClassFile.FieldType.object "java/util/List"))).before args0 about1 = true := code_word (m := ⟨22, 1⟩) (meth := k22m1) (c := k22c1) (by decide +kernel) rfl rfl rfl (by decide +kernel)
set_option maxRecDepth 65536 in
theorem w_c14 : (Jvm.Cond.code ({ cls := "java/util/ArrayList", name := "isEmpty", desc := "()Z" } : Jvm.MethodName) jdk_38_method_9_code (1 : Nat) (Option.some Jvm.ClassFile.FieldType.boolean)).before args0 about1 = true := code_word (m := ⟨15, 3⟩) (meth := k15m3) (c := k15c3) (by decide +kernel) rfl rfl rfl (by decide +kernel)
set_option maxRecDepth 65536 in
theorem w_c15 : (Jvm.Cond.code ({ cls := "java/util/List", name := "of", desc := "()Ljava/util/List;" } : Jvm.MethodName) jdk_40_method_36_code (0 : Nat) (Option.some (Jvm.ClassFile.FieldType.object "java/util/List"))).before args0 about1 = true := code_word (m := ⟨11, 2⟩) (meth := k11m2) (c := k11c2) (by decide +kernel) rfl rfl rfl (by decide +kernel)
set_option maxRecDepth 65536 in
theorem w_c16 : (Jvm.Cond.code ({ cls := "java/util/ImmutableCollections$ListN", name := "isEmpty", desc := "()Z" } : Jvm.MethodName) jdk_45_method_2_code (1 : Nat) (Option.some Jvm.ClassFile.FieldType.boolean)).before args0 about1 = true := code_word (m := ⟨26, 1⟩) (meth := k26m1) (c := k26c1) (by decide +kernel) rfl rfl rfl (by decide +kernel)
set_option maxRecDepth 65536 in
theorem w_c17 : (Jvm.Cond.code ({ cls := "java/util/ArrayList", name := "add", desc := "(Ljava/lang/Object;)Z" } : Jvm.MethodName) jdk_38_method_25_code (2 : Nat) (Option.some Jvm.ClassFile.FieldType.boolean)).before args0 about1 = true := code_word (m := ⟨15, 6⟩) (meth := k15m6) (c := k15c6) (by decide +kernel) rfl rfl rfl (by decide +kernel)
set_option maxRecDepth 65536 in
theorem w_c18 : (Jvm.Cond.code ({ cls := "java/util/ArrayList", name := "add", desc := "(Ljava/lang/Object;[Ljava/lang/Object;I)V" } : Jvm.MethodName) jdk_38_method_24_code (4 : Nat) (Option.none : Option Jvm.ClassFile.FieldType)).before args0 about1 = true := code_word (m := ⟨15, 5⟩) (meth := k15m5) (c := k15c5) (by decide +kernel) rfl rfl rfl (by decide +kernel)
set_option maxRecDepth 65536 in
theorem w_c19 : (Jvm.Cond.code ({ cls := "java/util/ArrayList", name := "grow", desc := "()[Ljava/lang/Object;" } : Jvm.MethodName) jdk_38_method_7_code (1 : Nat) (Option.some (Jvm.ClassFile.FieldType.array (Jvm.ClassFile.FieldType.object "java/lang/Object")))).before args0 about1 = true := code_word (m := ⟨15, 2⟩) (meth := k15m2) (c := k15c2) (by decide +kernel) rfl rfl rfl (by decide +kernel)
set_option maxRecDepth 65536 in
theorem w_c20 : (Jvm.Cond.code ({ cls := "java/util/ArrayList", name := "grow", desc := "(I)[Ljava/lang/Object;" } : Jvm.MethodName) jdk_38_method_6_code (4 : Nat) (Option.some (Jvm.ClassFile.FieldType.array (Jvm.ClassFile.FieldType.object "java/lang/Object")))).before args0 about1 = true := code_word (m := ⟨15, 1⟩) (meth := k15m1) (c := k15c1) (by decide +kernel) rfl rfl rfl (by decide +kernel)
set_option maxRecDepth 65536 in
theorem w_c21 : (Jvm.Cond.code ({ cls := "java/lang/Math", name := "max", desc := "(II)I" } : Jvm.MethodName) jdk_29_method_65_code (2 : Nat) (Option.some Jvm.ClassFile.FieldType.int)).before args0 about1 = true := code_word (m := ⟨27, 1⟩) (meth := k27m1) (c := k27c1) (by decide +kernel) rfl rfl rfl (by decide +kernel)
set_option maxRecDepth 65536 in
theorem w_c22 : (Jvm.Cond.code ({ cls := "com/example/treeshard/treeshard/model/Design", name := "<init>", desc := "(Ljava/util/List;)V" } : Jvm.MethodName) prog_6_method_1_code (2 : Nat) (Option.none : Option Jvm.ClassFile.FieldType)).before args0 about1 = true := code_word (m := ⟨28, 0⟩) (meth := k28m0) (c := k28c0) (by decide +kernel) rfl rfl rfl (by decide +kernel)
set_option maxRecDepth 65536 in
theorem w_c23 : (Jvm.Cond.code ({ cls := "java/util/ArrayList", name := "toArray", desc := "()[Ljava/lang/Object;" } : Jvm.MethodName) jdk_38_method_16_code (1 : Nat) (Option.some (Jvm.ClassFile.FieldType.array (Jvm.ClassFile.FieldType.object "java/lang/Object")))).before args0 about1 = true := code_word (m := ⟨15, 4⟩) (meth := k15m4) (c := k15c4) (by decide +kernel) rfl rfl rfl (by decide +kernel)
set_option maxRecDepth 65536 in
theorem w_c24 : (Jvm.Cond.code ({ cls := "java/util/Arrays", name := "copyOf", desc := "([Ljava/lang/Object;I)[Ljava/lang/Object;" } : Jvm.MethodName) jdk_65_method_119_code (2 : Nat) (Option.some (Jvm.ClassFile.FieldType.array (Jvm.ClassFile.FieldType.object "java/lang/Object")))).before args0 about1 = true := code_word (m := ⟨29, 1⟩) (meth := k29m1) (c := k29c1) (by decide +kernel) rfl rfl rfl (by decide +kernel)
set_option maxRecDepth 65536 in
theorem w_c25 : (Jvm.Cond.code ({ cls := "java/util/Arrays", name := "copyOf", desc := "([Ljava/lang/Object;ILjava/lang/Class;)[Ljava/lang/Object;" } : Jvm.MethodName) jdk_65_method_120_code (4 : Nat) (Option.some (Jvm.ClassFile.FieldType.array (Jvm.ClassFile.FieldType.object "java/lang/Object")))).before args0 about1 = true := code_word (m := ⟨29, 2⟩) (meth := k29m2) (c := k29c2) (by decide +kernel) rfl rfl rfl (by decide +kernel)
set_option maxRecDepth 65536 in
theorem w_c26 : (Jvm.Cond.code ({ cls := "java/lang/Math", name := "min", desc := "(II)I" } : Jvm.MethodName) jdk_29_method_69_code (2 : Nat) (Option.some Jvm.ClassFile.FieldType.int)).before args0 about1 = true := code_word (m := ⟨27, 2⟩) (meth := k27m2) (c := k27c2) (by decide +kernel) rfl rfl rfl (by decide +kernel)
set_option maxRecDepth 65536 in
theorem w_c27 : (Jvm.Cond.code ({ cls := "java/util/List", name := "of", desc := "([Ljava/lang/Object;)Ljava/util/List;" } : Jvm.MethodName) jdk_40_method_47_code (2 : Nat) (Option.some (Jvm.ClassFile.FieldType.object "java/util/List"))).before args0 about1 = true := code_word (m := ⟨11, 3⟩) (meth := k11m3) (c := k11c3) (by decide +kernel) rfl rfl rfl (by decide +kernel)
set_option maxRecDepth 65536 in
theorem w_c28 : (Jvm.Cond.code ({ cls := "java/util/ImmutableCollections$List12", name := "<init>", desc := "(Ljava/lang/Object;)V" } : Jvm.MethodName) jdk_44_method_1_code (2 : Nat) (Option.none : Option Jvm.ClassFile.FieldType)).before args0 about1 = true := code_word (m := ⟨25, 0⟩) (meth := k25m0) (c := k25c0) (by decide +kernel) rfl rfl rfl (by decide +kernel)
set_option maxRecDepth 65536 in
theorem w_c29 : (Jvm.Cond.code ({ cls := "java/util/ImmutableCollections$AbstractImmutableList", name := "<init>", desc := "()V" } : Jvm.MethodName) jdk_46_method_1_code (1 : Nat) (Option.none : Option Jvm.ClassFile.FieldType)).before args0 about1 = true := code_word (m := ⟨24, 0⟩) (meth := k24m0) (c := k24c0) (by decide +kernel) rfl rfl rfl (by decide +kernel)
set_option maxRecDepth 65536 in
theorem w_c30 : (Jvm.Cond.code ({ cls := "java/util/ImmutableCollections$AbstractImmutableCollection", name := "<init>", desc := "()V" } : Jvm.MethodName) jdk_47_method_1_code (1 : Nat) (Option.none : Option Jvm.ClassFile.FieldType)).before args0 about1 = true := code_word (m := ⟨23, 0⟩) (meth := k23m0) (c := k23c0) (by decide +kernel) rfl rfl rfl (by decide +kernel)
set_option maxRecDepth 65536 in
theorem w_c31 : (Jvm.Cond.code ({ cls := "java/util/Objects", name := "requireNonNull", desc := "(Ljava/lang/Object;)Ljava/lang/Object;" } : Jvm.MethodName) jdk_31_method_10_code (1 : Nat) (Option.some (Jvm.ClassFile.FieldType.object "java/lang/Object"))).before args0 about1 = true := code_word (m := ⟨31, 1⟩) (meth := k31m1) (c := k31c1) (by decide +kernel) rfl rfl rfl (by decide +kernel)
set_option maxRecDepth 65536 in
theorem w_c32 : (Jvm.Cond.code ({ cls := "com/example/treeshard/treeshard/model/Design", name := "kind", desc := "()Lcom/example/treeshard/treeshard/model/Design$Kind;" } : Jvm.MethodName) prog_6_method_3_code (1 : Nat) (Option.some (Jvm.ClassFile.FieldType.object "com/example/treeshard/treeshard/model/Design$Kind"))).before args0 about1 = true := code_word (m := ⟨28, 1⟩) (meth := k28m1) (c := k28c1) (by decide +kernel) rfl rfl rfl (by decide +kernel)
set_option maxRecDepth 65536 in
theorem w_c33 : (Jvm.Cond.code ({ cls := "java/util/ImmutableCollections$List12", name := "get", desc := "(I)Ljava/lang/Object;" } : Jvm.MethodName) jdk_44_method_5_code (2 : Nat) (Option.some (Jvm.ClassFile.FieldType.object "java/lang/Object"))).before args0 about1 = true := code_word (m := ⟨25, 3⟩) (meth := k25m3) (c := k25c3) (by decide +kernel) rfl rfl rfl (by decide +kernel)
set_option maxRecDepth 65536 in
theorem w_c34 : (Jvm.Cond.code ({ cls := "com/example/treeshard/treeshard/model/Fragment", name := "kind", desc := "()Lcom/example/treeshard/treeshard/model/Design$Kind;" } : Jvm.MethodName) prog_21_method_11_code (1 : Nat) (Option.some (Jvm.ClassFile.FieldType.object "com/example/treeshard/treeshard/model/Design$Kind"))).before args0 about1 = true := code_word (m := ⟨21, 1⟩) (meth := k21m1) (c := k21c1) (by decide +kernel) rfl rfl rfl (by decide +kernel)
set_option maxRecDepth 65536 in
theorem w_c35 : (Jvm.Cond.code ({ cls := "com/example/treeshard/treeshard/model/Selection", name := "<init>", desc := "(Lcom/example/treeshard/treeshard/model/DocumentPath;Lcom/example/treeshard/treeshard/model/Selection$Test;Ljava/lang/String;)V" } : Jvm.MethodName) prog_55_method_1_code (4 : Nat) (Option.none : Option Jvm.ClassFile.FieldType)).before args0 about1 = true := code_word (m := ⟨32, 0⟩) (meth := k32m0) (c := k32c0) (by decide +kernel) rfl rfl rfl (by decide +kernel)
set_option maxRecDepth 65536 in
theorem w_c36 : (Jvm.Cond.code ({ cls := "java/util/ImmutableCollections$List12", name := "isEmpty", desc := "()Z" } : Jvm.MethodName) jdk_44_method_4_code (1 : Nat) (Option.some Jvm.ClassFile.FieldType.boolean)).before args0 about1 = true := code_word (m := ⟨25, 2⟩) (meth := k25m2) (c := k25c2) (by decide +kernel) rfl rfl rfl (by decide +kernel)
set_option maxRecDepth 65536 in
theorem w_c37 : (Jvm.Cond.code ({ cls := "java/util/ImmutableCollections$List12", name := "<init>", desc := "(Ljava/lang/Object;Ljava/lang/Object;)V" } : Jvm.MethodName) jdk_44_method_2_code (3 : Nat) (Option.none : Option Jvm.ClassFile.FieldType)).before args0 about1 = true := code_word (m := ⟨25, 1⟩) (meth := k25m1) (c := k25c1) (by decide +kernel) rfl rfl rfl (by decide +kernel)
set_option maxRecDepth 65536 in
theorem w_c38 : (Jvm.Cond.code ({ cls := "java/util/ImmutableCollections", name := "listFromArray", desc := "([Ljava/lang/Object;)Ljava/util/List;" } : Jvm.MethodName) jdk_56_method_4_code (3 : Nat) (Option.some (Jvm.ClassFile.FieldType.object "java/util/List"))).before args0 about1 = true := code_word (m := ⟨22, 2⟩) (meth := k22m2) (c := k22c2) (by decide +kernel) rfl rfl rfl (by decide +kernel)
set_option maxRecDepth 65536 in
theorem w_c39 : (Jvm.Cond.code ({ cls := "java/util/ImmutableCollections$ListN", name := "<init>", desc := "([Ljava/lang/Object;Z)V" } : Jvm.MethodName) jdk_45_method_1_code (3 : Nat) (Option.none : Option Jvm.ClassFile.FieldType)).before args0 about1 = true := code_word (m := ⟨26, 0⟩) (meth := k26m0) (c := k26c0) (by decide +kernel) rfl rfl rfl (by decide +kernel)
set_option maxRecDepth 65536 in
theorem w_c40 : (Jvm.Cond.code ({ cls := "java/util/ImmutableCollections$ListN", name := "get", desc := "(I)Ljava/lang/Object;" } : Jvm.MethodName) jdk_45_method_4_code (2 : Nat) (Option.some (Jvm.ClassFile.FieldType.object "java/lang/Object"))).before args0 about1 = true := code_word (m := ⟨26, 2⟩) (meth := k26m2) (c := k26c2) (by decide +kernel) rfl rfl rfl (by decide +kernel)
def codes1 : List Jvm.Cond := [Jvm.Cond.code x code maxLocals ret, Jvm.Cond.code ({ cls := "java/util/ArrayList", name := "<init>", desc := "()V" } : Jvm.MethodName) jdk_38_method_2_code (1 : Nat) (Option.none : Option Jvm.ClassFile.FieldType), Jvm.Cond.code ({ cls := "java/util/AbstractList", name := "<init>", desc := "()V" } : Jvm.MethodName) jdk_39_method_1_code (1 : Nat) (Option.none : Option Jvm.ClassFile.FieldType), Jvm.Cond.code ({ cls := "java/util/AbstractCollection", name := "<init>", desc := "()V" } : Jvm.MethodName) jdk_22_method_1_code (1 : Nat) (Option.none : Option Jvm.ClassFile.FieldType), Jvm.Cond.code ({ cls := "java/lang/Object", name := "<init>", desc := "()V" } : Jvm.MethodName) object_method_1_code (1 : Nat) (Option.none : Option Jvm.ClassFile.FieldType), Jvm.Cond.code ({ cls := "com/example/treeshard/treeshard/model/DesignKindPinLaw", name := "make", desc := "(Lcom/example/treeshard/treeshard/model/Design$Kind;I)Lcom/example/treeshard/treeshard/model/Fragment;" } : Jvm.MethodName) method_2_code (4 : Nat) (Option.some (Jvm.ClassFile.FieldType.object "com/example/treeshard/treeshard/model/Fragment")), Jvm.Cond.code ({ cls := "java/lang/String", name := "valueOf", desc := "(C)Ljava/lang/String;" } : Jvm.MethodName) jdk_42_method_139_code (1 : Nat) (Option.some (Jvm.ClassFile.FieldType.object "java/lang/String")), Jvm.Cond.code ({ cls := "java/lang/StringLatin1", name := "canEncode", desc := "(C)Z" } : Jvm.MethodName) jdk_43_method_3_code (1 : Nat) (Option.some Jvm.ClassFile.FieldType.boolean), Jvm.Cond.code ({ cls := "java/lang/StringLatin1", name := "toBytes", desc := "(C)[B" } : Jvm.MethodName) jdk_43_method_46_code (1 : Nat) (Option.some (Jvm.ClassFile.FieldType.array Jvm.ClassFile.FieldType.byte)), Jvm.Cond.code ({ cls := "java/lang/String", name := "<init>", desc := "([BB)V" } : Jvm.MethodName) jdk_42_method_151_code (3 : Nat) (Option.none : Option Jvm.ClassFile.FieldType), Jvm.Cond.code ({ cls := "com/example/treeshard/treeshard/model/Fragment", name := "<init>", desc := "(Ljava/lang/String;Ljava/lang/String;Lcom/example/treeshard/treeshard/model/Design$Kind;Ljava/util/List;Lcom/example/treeshard/treeshard/model/Projection;)V" } : Jvm.MethodName) prog_21_method_1_code (6 : Nat) (Option.none : Option Jvm.ClassFile.FieldType), Jvm.Cond.code ({ cls := "java/lang/Record", name := "<init>", desc := "()V" } : Jvm.MethodName) jdk_30_method_1_code (1 : Nat) (Option.none : Option Jvm.ClassFile.FieldType), Jvm.Cond.code ({ cls := "java/util/List", name := "copyOf", desc := "(Ljava/util/Collection;)Ljava/util/List;" } : Jvm.MethodName) jdk_40_method_48_code (1 : Nat) (Option.some (Jvm.ClassFile.FieldType.object "java/util/List")), Jvm.Cond.code ({ cls := "java/util/ImmutableCollections", name := "listCopy", desc := "(Ljava/util/Collection;)Ljava/util/List;" } : Jvm.MethodName) jdk_56_method_3_code (2 : Nat) (Option.some (Jvm.ClassFile.FieldType.object "java/util/List")), Jvm.Cond.code ({ cls := "java/util/ArrayList", name := "isEmpty", desc := "()Z" } : Jvm.MethodName) jdk_38_method_9_code (1 : Nat) (Option.some Jvm.ClassFile.FieldType.boolean), Jvm.Cond.code ({ cls := "java/util/List", name := "of", desc := "()Ljava/util/List;" } : Jvm.MethodName) jdk_40_method_36_code (0 : Nat) (Option.some (Jvm.ClassFile.FieldType.object "java/util/List")), Jvm.Cond.code ({ cls := "java/util/ImmutableCollections$ListN", name := "isEmpty", desc := "()Z" } : Jvm.MethodName) jdk_45_method_2_code (1 : Nat) (Option.some Jvm.ClassFile.FieldType.boolean), Jvm.Cond.code ({ cls := "java/util/ArrayList", name := "add", desc := "(Ljava/lang/Object;)Z" } : Jvm.MethodName) jdk_38_method_25_code (2 : Nat) (Option.some Jvm.ClassFile.FieldType.boolean), Jvm.Cond.code ({ cls := "java/util/ArrayList", name := "add", desc := "(Ljava/lang/Object;[Ljava/lang/Object;I)V" } : Jvm.MethodName) jdk_38_method_24_code (4 : Nat) (Option.none : Option Jvm.ClassFile.FieldType), Jvm.Cond.code ({ cls := "java/util/ArrayList", name := "grow", desc := "()[Ljava/lang/Object;" } : Jvm.MethodName) jdk_38_method_7_code (1 : Nat) (Option.some (Jvm.ClassFile.FieldType.array (Jvm.ClassFile.FieldType.object "java/lang/Object"))), Jvm.Cond.code ({ cls := "java/util/ArrayList", name := "grow", desc := "(I)[Ljava/lang/Object;" } : Jvm.MethodName) jdk_38_method_6_code (4 : Nat) (Option.some (Jvm.ClassFile.FieldType.array (Jvm.ClassFile.FieldType.object "java/lang/Object"))), Jvm.Cond.code ({ cls := "java/lang/Math", name := "max", desc := "(II)I" } : Jvm.MethodName) jdk_29_method_65_code (2 : Nat) (Option.some Jvm.ClassFile.FieldType.int), Jvm.Cond.code ({ cls := "com/example/treeshard/treeshard/model/Design", name := "<init>", desc := "(Ljava/util/List;)V" } : Jvm.MethodName) prog_6_method_1_code (2 : Nat) (Option.none : Option Jvm.ClassFile.FieldType), Jvm.Cond.code ({ cls := "java/util/ArrayList", name := "toArray", desc := "()[Ljava/lang/Object;" } : Jvm.MethodName) jdk_38_method_16_code (1 : Nat) (Option.some (Jvm.ClassFile.FieldType.array (Jvm.ClassFile.FieldType.object "java/lang/Object"))), Jvm.Cond.code ({ cls := "java/util/Arrays", name := "copyOf", desc := "([Ljava/lang/Object;I)[Ljava/lang/Object;" } : Jvm.MethodName) jdk_65_method_119_code (2 : Nat) (Option.some (Jvm.ClassFile.FieldType.array (Jvm.ClassFile.FieldType.object "java/lang/Object"))), Jvm.Cond.code ({ cls := "java/util/Arrays", name := "copyOf", desc := "([Ljava/lang/Object;ILjava/lang/Class;)[Ljava/lang/Object;" } : Jvm.MethodName) jdk_65_method_120_code (4 : Nat) (Option.some (Jvm.ClassFile.FieldType.array (Jvm.ClassFile.FieldType.object "java/lang/Object"))), Jvm.Cond.code ({ cls := "java/lang/Math", name := "min", desc := "(II)I" } : Jvm.MethodName) jdk_29_method_69_code (2 : Nat) (Option.some Jvm.ClassFile.FieldType.int), Jvm.Cond.code ({ cls := "java/util/List", name := "of", desc := "([Ljava/lang/Object;)Ljava/util/List;" } : Jvm.MethodName) jdk_40_method_47_code (2 : Nat) (Option.some (Jvm.ClassFile.FieldType.object "java/util/List")), Jvm.Cond.code ({ cls := "java/util/ImmutableCollections$List12", name := "<init>", desc := "(Ljava/lang/Object;)V" } : Jvm.MethodName) jdk_44_method_1_code (2 : Nat) (Option.none : Option Jvm.ClassFile.FieldType), Jvm.Cond.code ({ cls := "java/util/ImmutableCollections$AbstractImmutableList", name := "<init>", desc := "()V" } : Jvm.MethodName) jdk_46_method_1_code (1 : Nat) (Option.none : Option Jvm.ClassFile.FieldType), Jvm.Cond.code ({ cls := "java/util/ImmutableCollections$AbstractImmutableCollection", name := "<init>", desc := "()V" } : Jvm.MethodName) jdk_47_method_1_code (1 : Nat) (Option.none : Option Jvm.ClassFile.FieldType), Jvm.Cond.code ({ cls := "java/util/Objects", name := "requireNonNull", desc := "(Ljava/lang/Object;)Ljava/lang/Object;" } : Jvm.MethodName) jdk_31_method_10_code (1 : Nat) (Option.some (Jvm.ClassFile.FieldType.object "java/lang/Object")), Jvm.Cond.code ({ cls := "com/example/treeshard/treeshard/model/Design", name := "kind", desc := "()Lcom/example/treeshard/treeshard/model/Design$Kind;" } : Jvm.MethodName) prog_6_method_3_code (1 : Nat) (Option.some (Jvm.ClassFile.FieldType.object "com/example/treeshard/treeshard/model/Design$Kind")), Jvm.Cond.code ({ cls := "java/util/ImmutableCollections$List12", name := "get", desc := "(I)Ljava/lang/Object;" } : Jvm.MethodName) jdk_44_method_5_code (2 : Nat) (Option.some (Jvm.ClassFile.FieldType.object "java/lang/Object")), Jvm.Cond.code ({ cls := "com/example/treeshard/treeshard/model/Fragment", name := "kind", desc := "()Lcom/example/treeshard/treeshard/model/Design$Kind;" } : Jvm.MethodName) prog_21_method_11_code (1 : Nat) (Option.some (Jvm.ClassFile.FieldType.object "com/example/treeshard/treeshard/model/Design$Kind")), Jvm.Cond.code ({ cls := "com/example/treeshard/treeshard/model/Selection", name := "<init>", desc := "(Lcom/example/treeshard/treeshard/model/DocumentPath;Lcom/example/treeshard/treeshard/model/Selection$Test;Ljava/lang/String;)V" } : Jvm.MethodName) prog_55_method_1_code (4 : Nat) (Option.none : Option Jvm.ClassFile.FieldType), Jvm.Cond.code ({ cls := "java/util/ImmutableCollections$List12", name := "isEmpty", desc := "()Z" } : Jvm.MethodName) jdk_44_method_4_code (1 : Nat) (Option.some Jvm.ClassFile.FieldType.boolean), Jvm.Cond.code ({ cls := "java/util/ImmutableCollections$List12", name := "<init>", desc := "(Ljava/lang/Object;Ljava/lang/Object;)V" } : Jvm.MethodName) jdk_44_method_2_code (3 : Nat) (Option.none : Option Jvm.ClassFile.FieldType), Jvm.Cond.code ({ cls := "java/util/ImmutableCollections", name := "listFromArray", desc := "([Ljava/lang/Object;)Ljava/util/List;" } : Jvm.MethodName) jdk_56_method_4_code (3 : Nat) (Option.some (Jvm.ClassFile.FieldType.object "java/util/List")), Jvm.Cond.code ({ cls := "java/util/ImmutableCollections$ListN", name := "<init>", desc := "([Ljava/lang/Object;Z)V" } : Jvm.MethodName) jdk_45_method_1_code (3 : Nat) (Option.none : Option Jvm.ClassFile.FieldType), Jvm.Cond.code ({ cls := "java/util/ImmutableCollections$ListN", name := "get", desc := "(I)Ljava/lang/Object;" } : Jvm.MethodName) jdk_45_method_4_code (2 : Nat) (Option.some (Jvm.ClassFile.FieldType.object "java/lang/Object"))]
set_option maxRecDepth 65536 in
theorem codes_eq : words1.filter isCode = codes1 := rfl
theorem w_codes : ∀ c ∈ words1.filter isCode, c.before args0 about1 = true := by
  rw [codes_eq]
  intro c hc
  simp only [codes1, List.mem_cons, List.not_mem_nil, or_false] at hc
  rcases hc with rfl | rfl | rfl | rfl | rfl | rfl | rfl | rfl | rfl | rfl | rfl | rfl | rfl | rfl | rfl | rfl | rfl | rfl | rfl | rfl | rfl | rfl | rfl | rfl | rfl | rfl | rfl | rfl | rfl | rfl | rfl | rfl | rfl | rfl | rfl | rfl | rfl | rfl | rfl | rfl | rfl
  · exact w_c0
  · exact w_c1
  · exact w_c2
  · exact w_c3
  · exact w_c4
  · exact w_c5
  · exact w_c6
  · exact w_c7
  · exact w_c8
  · exact w_c9
  · exact w_c10
  · exact w_c11
  · exact w_c12
  · exact w_c13
  · exact w_c14
  · exact w_c15
  · exact w_c16
  · exact w_c17
  · exact w_c18
  · exact w_c19
  · exact w_c20
  · exact w_c21
  · exact w_c22
  · exact w_c23
  · exact w_c24
  · exact w_c25
  · exact w_c26
  · exact w_c27
  · exact w_c28
  · exact w_c29
  · exact w_c30
  · exact w_c31
  · exact w_c32
  · exact w_c33
  · exact w_c34
  · exact w_c35
  · exact w_c36
  · exact w_c37
  · exact w_c38
  · exact w_c39
  · exact w_c40
set_option maxRecDepth 65536 in
theorem w_t1 : (words1.take 24).all (fun c => isCode c || c.before args0 about1) = true := by decide +kernel
set_option maxRecDepth 65536 in
theorem w_t2 : ((words1.drop 24).take 24).all (fun c => isCode c || c.before args0 about1) = true := by decide +kernel
set_option maxRecDepth 65536 in
theorem w_t3 : (((words1.drop 24).drop 24).take 24).all (fun c => isCode c || c.before args0 about1) = true := by decide +kernel
set_option maxRecDepth 65536 in
theorem w_t4 : ((((words1.drop 24).drop 24).drop 24).take 24).all (fun c => isCode c || c.before args0 about1) = true := by decide +kernel
set_option maxRecDepth 65536 in
theorem w_t5 : (((((words1.drop 24).drop 24).drop 24).drop 24).take 24).all (fun c => isCode c || c.before args0 about1) = true := by decide +kernel
set_option maxRecDepth 65536 in
theorem w_t6 : ((((((words1.drop 24).drop 24).drop 24).drop 24).drop 24).take 24).all (fun c => isCode c || c.before args0 about1) = true := by decide +kernel
set_option maxRecDepth 65536 in
theorem w_t7 : (((((((words1.drop 24).drop 24).drop 24).drop 24).drop 24).drop 24).take 24).all (fun c => isCode c || c.before args0 about1) = true := by decide +kernel
set_option maxRecDepth 65536 in
theorem w_t8 : ((((((((words1.drop 24).drop 24).drop 24).drop 24).drop 24).drop 24).drop 24).take 24).all (fun c => isCode c || c.before args0 about1) = true := by decide +kernel
set_option maxRecDepth 65536 in
theorem w_t9 : (((((((((words1.drop 24).drop 24).drop 24).drop 24).drop 24).drop 24).drop 24).drop 24).take 24).all (fun c => isCode c || c.before args0 about1) = true := by decide +kernel
set_option maxRecDepth 65536 in
theorem w_t10 : ((((((((((words1.drop 24).drop 24).drop 24).drop 24).drop 24).drop 24).drop 24).drop 24).drop 24).take 24).all (fun c => isCode c || c.before args0 about1) = true := by decide +kernel
set_option maxRecDepth 65536 in
theorem w_t11 : (((((((((((words1.drop 24).drop 24).drop 24).drop 24).drop 24).drop 24).drop 24).drop 24).drop 24).drop 24).take 24).all (fun c => isCode c || c.before args0 about1) = true := by decide +kernel
set_option maxRecDepth 65536 in
theorem w_t12 : ((((((((((((words1.drop 24).drop 24).drop 24).drop 24).drop 24).drop 24).drop 24).drop 24).drop 24).drop 24).drop 24).take 24).all (fun c => isCode c || c.before args0 about1) = true := by decide +kernel
set_option maxRecDepth 65536 in
theorem w_t13 : ((((((((((((words1.drop 24).drop 24).drop 24).drop 24).drop 24).drop 24).drop 24).drop 24).drop 24).drop 24).drop 24).drop 24).all (fun c => isCode c || c.before args0 about1) = true := by decide +kernel
theorem w_tables : (allAtoms (Jvm.Cond.code x code maxLocals ret :: tables_1)).before args0 about1 = true := by
  rw [allAtoms_all]
  show words1.all (fun c => c.before args0 about1) = true
  refine all_split ?_ w_codes
  rw [← List.take_append_drop 24 words1, List.all_append, w_t1, ← List.take_append_drop 24 (words1.drop 24), List.all_append, w_t2, ← List.take_append_drop 24 ((words1.drop 24).drop 24), List.all_append, w_t3, ← List.take_append_drop 24 (((words1.drop 24).drop 24).drop 24), List.all_append, w_t4, ← List.take_append_drop 24 ((((words1.drop 24).drop 24).drop 24).drop 24), List.all_append, w_t5, ← List.take_append_drop 24 (((((words1.drop 24).drop 24).drop 24).drop 24).drop 24), List.all_append, w_t6, ← List.take_append_drop 24 ((((((words1.drop 24).drop 24).drop 24).drop 24).drop 24).drop 24), List.all_append, w_t7, ← List.take_append_drop 24 (((((((words1.drop 24).drop 24).drop 24).drop 24).drop 24).drop 24).drop 24), List.all_append, w_t8, ← List.take_append_drop 24 ((((((((words1.drop 24).drop 24).drop 24).drop 24).drop 24).drop 24).drop 24).drop 24), List.all_append, w_t9, ← List.take_append_drop 24 (((((((((words1.drop 24).drop 24).drop 24).drop 24).drop 24).drop 24).drop 24).drop 24).drop 24), List.all_append, w_t10, ← List.take_append_drop 24 ((((((((((words1.drop 24).drop 24).drop 24).drop 24).drop 24).drop 24).drop 24).drop 24).drop 24).drop 24), List.all_append, w_t11, ← List.take_append_drop 24 (((((((((((words1.drop 24).drop 24).drop 24).drop 24).drop 24).drop 24).drop 24).drop 24).drop 24).drop 24).drop 24), List.all_append, w_t12, w_t13]
  rfl
set_option maxRecDepth 65536 in
theorem w_rest : rest_1_c.before args0 about1 = true := by decide +kernel
set_option maxRecDepth 65536 in
theorem w_case : (Jvm.Cond.and given_1 narrow_1).before args0 about1 = true := by decide +kernel
theorem w_applies : (headSpec (Jvm.Cond.code x code maxLocals ret :: tables_1) room_1).applies x e0.platform about1 = true :=
  (Spec.applies_iff w_frames).mpr ⟨w_running, w_runnable, w_alone, w_named, w_hears, w_ripe, w_room, w_tables⟩
theorem atStart : AtStart classFile x code maxLocals ret World_1 tables_1 room_1 Calls_1 rest_1 Pre_1 launch0 p0 e0 about1 theMethod args0 below0 :=
  ⟨lists_1, trivial, launch0.admits_env _ _ _, launch0.least_env, fairChoices_fair.cas, fairChoices_fair.clock, w_frames, w_args, w_heap, w_applies, ⟨⟨40, k40, 5, by decide +kernel, rfl, rfl, _, rfl, rfl⟩, trivial⟩, w_rest, w_case⟩
end start1
theorem witness_1 : WitnessClaimed_1 := ⟨start1.p0, start1.e0, start1.about1, start1.theMethod, start1.args0, start1.below0, start1.atStart⟩
end Jvm.Pilot.@@N@@
