import JvmDerived
import JvmDerived.Pilot.@@N@@Statement
import JvmDerived.Pilot.@@N@@Code
@@BLOCK:NumsL.lean.txt@@
set_option linter.unusedVariables false
set_option linter.unusedSimpArgs false
namespace Jvm.Pilot.@@N@@
open Jvm Jvm.ClassFile Sem Op Lib Jvm.Free Jvm.Stand Jvm.LawKit Jvm.RoadKit Bundle Jvm.Pilot.@@N@@.Jvm.D
abbrev own_m0 : MethodName := ⟨"com/example/greylag/greylag/sim/RequestOrder", "word", "(I)I"⟩
abbrev own_m1 : MethodName := ⟨"com/example/greylag/greylag/sim/RequestOrder", "bit", "(I)J"⟩
abbrev own_m2 : MethodName := ⟨"com/example/greylag/greylag/sim/RequestOrder", "has", "([JI)Z"⟩
abbrev own_m3 : MethodName := ⟨"com/example/greylag/greylag/sim/RequestOrder$Knowledge", "<init>", "([JJ)V"⟩
abbrev own_m4 : MethodName := ⟨"java/lang/Integer", "numberOfTrailingZeros", "(I)I"⟩
abbrev own_m5 : MethodName := ⟨"java/lang/Long", "numberOfTrailingZeros", "(J)I"⟩
abbrev own_m6 : MethodName := ⟨"com/example/greylag/greylag/sim/RequestOrder", "writable", "(I)[J"⟩
abbrev own_m7 : MethodName := ⟨"com/example/greylag/greylag/sim/RequestOrder", "requested", "(I)V"⟩
abbrev own_m8 : MethodName := ⟨"com/example/greylag/greylag/sim/RequestOrder", "sent", "(I)Lcom/example/greylag/greylag/sim/RequestOrder$Knowledge;"⟩
abbrev own_m9 : MethodName := ⟨"com/example/greylag/greylag/sim/RequestOrder", "received", "(ILcom/example/greylag/greylag/sim/RequestOrder$Knowledge;)V"⟩
abbrev own_m10 : MethodName := ⟨"com/example/greylag/greylag/sim/RequestOrder", "entered", "(I)I"⟩
abbrev own_m11 : MethodName := ⟨"com/example/greylag/greylag/sim/RequestOrder", "<init>", "(I)V"⟩
abbrev own_s0 : String := "com/example/greylag/greylag/sim/RequestOrder$Knowledge"
abbrev own_s1 : String := "com/example/greylag/greylag/sim/RequestOrder"
section OwnPre
variable {p : Program} {l : Launch} {e : Env} {R : Room} {s : State} {m : MethodId} {args : Array Value} {below : List Frame} {meth : Method} {c : Code} {T : State} {locs : List Loc} {cells slots : Nat} {Z : State} {h h' : Heap}
/-- from A the run comes to an end of which P holds -/
def own_G (p : Program) (e : Env) (below : List Frame) (A : State) (P : State → Outcome → Prop) : Prop := ∃ s₂ o, Steps p.tables e below A s₂ ∧ P s₂ o
def own_P (s : State) (below : List Frame) (C S : Nat) (Q : Option Value → Heap → List Loc → Prop) (s₂ : State) (o : Outcome) : Prop := s₂.status = .running ∧ Ended s₂ below o ∧ ∃ v L, o = .returned v ∧ Q v s₂.heap L ∧ FrameEnd s o s₂ L C S
def own_PW (s : State) (below : List Frame) (C S : Nat) (Q : Option Value → Heap → List Loc → Prop) (s₂ : State) (o : Outcome) : Prop := s₂.status = .running ∧ Ended s₂ below o ∧ ∃ v L, o = .returned v ∧ Q v s₂.heap L ∧ ReturnedEndW s o s₂ L C S
theorem own_go {A B : State} {P : State → Outcome → Prop} (k : ∀ t, Steps p.tables e below B t → Steps p.tables e below A t) (g : own_G p e below B P) : own_G p e below A P := by
  obtain ⟨s, o, h, r⟩ := g; exact ⟨s, o, k _ h, r⟩
theorem own_tr {A B : State} {P : State → Outcome → Prop} (k : Steps p.tables e below A B) (g : own_G p e below B P) : own_G p e below A P := own_go (fun _ h => k.trans h) g
theorem own_start {C S : Nat} {Q : Option Value → Heap → List Loc → Prop} {g g' : JFrame} (q : g = g') (k : own_G p e below (T.setTop g') (own_P s below C S Q)) :
    ∃ s₂ o, Steps p.tables e below (T.setTop g) s₂ ∧ s₂.status = .running ∧ Ended s₂ below o ∧ ∃ v L, o = .returned v ∧ Q v s₂.heap L ∧ FrameEnd s o s₂ L C S := q ▸ k
theorem own_startW {C S : Nat} {Q : Option Value → Heap → List Loc → Prop} {g g' : JFrame} (q : g = g') (k : own_G p e below (T.setTop g') (own_PW s below C S Q)) :
    ∃ s₂ o, Steps p.tables e below (T.setTop g) s₂ ∧ s₂.status = .running ∧ Ended s₂ below o ∧ ∃ v L, o = .returned v ∧ Q v s₂.heap L ∧ ReturnedEndW s o s₂ L C S := q ▸ k
theorem own_ret (X : Stand p l e R s m args below meth c T locs cells slots) (hx : p.tables.exec = Jvm.exec) {pc : Nat} {Ls : Array Slot} {w : Value} {t : FieldType} {i : Instr} {rest : List Value} (hret : meth.sig.returnType = some t) (hn : narrow t w = w)
    (hi : (i = .ireturn ∧ (t = .int ∨ t = .boolean ∨ t = .byte ∨ t = .char ∨ t = .short) ∧ ∃ z, w = .int z) ∨ (i = .lreturn ∧ t = .long ∧ ∃ z, w = .long z) ∨ (i = .dreturn ∧ t = .double ∧ ∃ z, w = .double z) ∨ (i = .freturn ∧ t = .float ∧ ∃ z, w = .float z) ∨ (i = .areturn ∧ t.isReference = true ∧ w.isRef = true))
    (hd : decode c.code pc = .ok (i, 1)) (hlocks : meth.locks = false) {C S : Nat} {Q : Option Value → Heap → List Loc → Prop} (hC : cells ≤ C) (hS : slots ≤ S) (hQ : Q (some w) T.heap locs) :
    own_G p e below (T.setTop (mkF m pc Ls (w :: rest))) (own_P s below C S Q) := by
  obtain ⟨fs, hr, hrun, hended, hW, hsame⟩ := X.leave (v := some w) (fun h => by rw [hret] at h; cases h) hlocks
  exact ⟨_, _, retOut X hx hret hn hi hd hr, hrun, hended, _, _, rfl, hQ, ⟨_, rfl⟩, hW, hsame.mono hC hS⟩
theorem own_retV (X : Stand p l e R s m args below meth c T locs cells slots) (hx : p.tables.exec = Jvm.exec) {pc : Nat} {Ls : Array Slot} (hret : meth.sig.returnType = none) (hd : decode c.code pc = .ok (.return_, 1)) (hlocks : meth.locks = false)
    {C S : Nat} {Q : Option Value → Heap → List Loc → Prop} (hC : cells ≤ C) (hS : slots ≤ S) (hQ : Q none T.heap locs) : own_G p e below (T.setTop (mkF m pc Ls [])) (own_P s below C S Q) := by
  obtain ⟨fs, hr, hrun, hended, hW, hsame⟩ := X.leave (v := none) (fun _ => rfl) hlocks
  exact ⟨_, _, X.returnOut hx hret hd hr, hrun, hended, _, _, rfl, hQ, ⟨_, rfl⟩, hW, hsame.mono hC hS⟩
theorem own_retW {vm₁ : Vm} (X : Stand p l e R (s.setVm vm₁) m args below meth c T locs cells slots) {n : Nat} (hSi : s.Since vm₁ n) (hn' : n ≤ T.heap.size) (hx : p.tables.exec = Jvm.exec) {pc : Nat} {Ls : Array Slot} {w : Value} {t : FieldType} {i : Instr} {rest : List Value} (hret : meth.sig.returnType = some t) (hn : narrow t w = w)
    (hi : (i = .ireturn ∧ (t = .int ∨ t = .boolean ∨ t = .byte ∨ t = .char ∨ t = .short) ∧ ∃ z, w = .int z) ∨ (i = .lreturn ∧ t = .long ∧ ∃ z, w = .long z) ∨ (i = .dreturn ∧ t = .double ∧ ∃ z, w = .double z) ∨ (i = .freturn ∧ t = .float ∧ ∃ z, w = .float z) ∨ (i = .areturn ∧ t.isReference = true ∧ w.isRef = true))
    (hd : decode c.code pc = .ok (i, 1)) (hlocks : meth.locks = false) {C S : Nat} {Q : Option Value → Heap → List Loc → Prop} (hC : cells ≤ C) (hS : slots ≤ S) (hQ : Q (some w) T.heap locs) :
    own_G p e below (T.setTop (mkF m pc Ls (w :: rest))) (own_PW s below C S Q) := by
  obtain ⟨fs, hr, hrun, hended, hW⟩ := (X.mono hC hS).leaveW hSi hn' (v := some w) (fun h => by rw [hret] at h; cases h) hlocks
  exact ⟨_, _, retOut X hx hret hn hi hd hr, hrun, hended, _, _, rfl, hQ, hW⟩
theorem own_retVW {vm₁ : Vm} (X : Stand p l e R (s.setVm vm₁) m args below meth c T locs cells slots) {n : Nat} (hSi : s.Since vm₁ n) (hn' : n ≤ T.heap.size) (hx : p.tables.exec = Jvm.exec) {pc : Nat} {Ls : Array Slot} (hret : meth.sig.returnType = none) (hd : decode c.code pc = .ok (.return_, 1)) (hlocks : meth.locks = false)
    {C S : Nat} {Q : Option Value → Heap → List Loc → Prop} (hC : cells ≤ C) (hS : slots ≤ S) (hQ : Q none T.heap locs) : own_G p e below (T.setTop (mkF m pc Ls [])) (own_PW s below C S Q) := by
  obtain ⟨fs, hr, hrun, hended, hW⟩ := (X.mono hC hS).leaveW hSi hn' (v := none) (fun _ => rfl) hlocks
  exact ⟨_, _, X.returnOut hx hret hd hr, hrun, hended, _, _, rfl, hQ, hW⟩
theorem own_ext_refl (h : Heap) : Ext h h := ⟨Nat.le_refl _, fun _ _ q => q⟩
theorem own_ext_trans {h1 h2 h3 : Heap} (A : Ext h1 h2) (B : Ext h2 h3) : Ext h1 h3 := ⟨Nat.le_trans A.1 B.1, fun a c q => B.2 a c (A.2 a c q)⟩
theorem own_ext_keep {h0 : Heap} {ws : List Addr} (O : Ext h0 h) (K : Keep h h' ws) (q : ∀ x ∈ ws, h0.size ≤ x) : Ext h0 h' := ⟨Nat.le_trans O.1 K.1, fun x c r => K.2.1 x c (O.2 x c r) fun z => absurd (Array.getElem?_eq_some_iff.mp r).1 (Nat.not_lt.mpr (q x z))⟩
theorem own_ext_wr {h0 : Heap} {a : Addr} {sl : Nat} {v : Value} (O : Ext h0 h) (W : Wr h h' a sl v) (q : h0.size ≤ a) : Ext h0 h' := own_ext_keep O (Keep.of_wr W) (allS q all0)
theorem own_fld_ne {a b : Addr} {C n d : String} {v w : Value} (F : Fld Z h a C n d v) (G : Fld Z h b C n d w) (q : v ≠ w) : a ≠ b := fun e => by
  subst e
  obtain ⟨c1, cf, k, i, f, h1, h2, -, -, -, -, h7⟩ := F
  obtain ⟨c2, cf', k', i', f', g1, g2, -, -, -, -, g7⟩ := G
  cases h1.symm.trans g1
  cases h2.symm.trans g2
  exact q (Option.some.inj (h7.symm.trans g7))
theorem own_getR (X : Stand p l e R s m args below meth c T locs cells slots) (hx : p.tables.exec = Jvm.exec) (hZ : Z.Warmed39 s.vm) {a0 : Array Value} {own R0 O n d : String} {index : Nat} (hown : s.vm.findClass own = some m.cls) (w : (Cond.fieldRef own index R0 n d).before a0 Z = true) (via : Via Z R0 O n d)
    (eT : T.heap = h) {a : Addr} {v : Value} (F : Fld Z h a O n d v) {g : JFrame} (hg : g.method = m) {rest : List Value} (hs : g.stack = .ref a :: rest) (hd : decode c.code g.pc = .ok (.getfield index, 3)) :
    ∀ target, Steps p.tables e below (T.setTop { g with pc := g.pc + 3, stack := v :: rest }) target → Steps p.tables e below (T.setTop g) target := by
  obtain ⟨cell, cf, k, i, f, h1, h2, h3, h4, -, -, h7⟩ := F
  have hi := via _ h2
  have hT : Z.Warmed39 T.vm := wtrans hZ X.warmed
  have hownZ : Z.vm.findClass own = some m.cls := by rw [← hZ.alike.findClass]; exact hown
  have hr : Z.resolvedAt? own index = some (.field cf i) := by
    simp only [Cond.before, Cond.holds, Cond.value, hownZ, hi, beq_iff_eq, Option.some.injEq, Bool.and_eq_true] at w
    obtain ⟨-, w⟩ := w
    split at w
    · rename_i c' i' hr; simp only [Bool.and_eq_true, beq_iff_eq] at w; obtain ⟨rfl, rfl⟩ := w; exact hr
    · cases w
  have hr' := State.resolvedAt?_warmed39 hT hr
  have hownT : T.vm.findClass own = some m.cls := by rw [hT.alike.findClass]; exact hownZ
  obtain ⟨k', hi', -⟩ := State.fieldFound?_setVm (s := Z) hT.alike hi
  obtain ⟨hk, hf⟩ := State.fieldFound?_spec hi'
  have hready : T.vm.fieldReady m.cls index cf f := by
    simp only [State.resolvedAt?, State.vm_setVm, hownT, Option.bind_eq_bind, Option.bind_some, Option.bind_eq_some_iff] at hr'
    obtain ⟨kc, hkc, hr'⟩ := hr'
    refine ⟨kc, i, k', hkc, ?_, hk, hf⟩
    cases hx : kc.resolved[index]? with
    | none => simp [hx] at hr'
    | some y => simp only [hx, Option.join_some] at hr'; rw [hr']
  intro target hrest
  subst hg
  jvm_step X.here [hx, hd, getfield.wp_ready (e := e) (s := T) (f := g) X.here.top hready h3 hs (show T.heap[a]? = some cell by rw [eT]; exact h1) h4 h7]
  exact hrest
theorem own_selfPriv {s : State} {args args' : Array Value} {y : MethodName} {n : Nat} (wi : (Cond.instantiable y.cls n).before args' s = true) (hp : s.PrivateAt y) (hi : (Cond.instanceMethod y).before args s = true) (hy : y.cls ≠ "java/lang/invoke/MethodHandle" ∧ y.cls ≠ "java/lang/invoke/VarHandle") : (Cond.selects y.cls y y).before args s = true := by
  obtain ⟨c, k, h1, h2, -, h4, -⟩ := Cond.instantiable_spec wi
  exact Jvm.Stand.selects_self_of_private h1 h2 (by simp only [Bool.or_eq_false_iff] at h4; exact h4.1) hp hi hy
theorem own_bool (z : Int32) (h : z = 0 ∨ z = 1) : narrow .boolean (.int z) = .int z := by rcases h with rfl | rfl <;> rfl
theorem own_mw {s Z : State} {a0 args : Array Value} {ws : List Jvm.Cond} (hZ : Z.Warmed39 s.vm) (hw : ∀ d ∈ ws, d.before a0 Z = true) (i : Nat) {d : Jvm.Cond} (h : ws[i]? = some d) (hd : (d.onTables && d.keepsFace) = true := by first | rfl | simp [Cond.onTables, Cond.keepsFace, Cond.keeps, Cond.steady]) : d.before args s = true := mvT hZ (hw d (List.mem_of_getElem? h)) hd
theorem own_hw {Z : State} {a0 : Array Value} {ws : List Jvm.Cond} (hw : ∀ d ∈ ws, d.before a0 Z = true) (i : Nat) {d : Jvm.Cond} (h : ws[i]? = some d) : d.before a0 Z = true := hw d (List.mem_of_getElem? h)
end OwnPre

section OwnArr
variable {p : Program} {l : Launch} {e : Env} {R : Room} {s : State} {m : MethodId} {args : Array Value} {below : List Frame} {meth : Method} {c : Code} {T : State} {locs : List Loc} {cells slots : Nat} {Z : State} {h h' : Heap} {a b : Addr} {k : ClassId} {ty : FieldType} {vs : List Value} {a0 : Array Value}
/-- the array at a is of class k, of components ty, and holds vs -/
def own_A (Z : State) (h : Heap) (a : Addr) (k : ClassId) (ty : FieldType) (vs : List Value) : Prop := ∃ c : Cell, Arr Z h a c ty ∧ c.cls = k ∧ c.slots.toList = vs ∧ vs.length < 2 ^ 31 ∧ ∀ v ∈ vs, fits ty v = true
theorem own_A.lt (F : own_A Z h a k ty vs) : a < h.size := by obtain ⟨c, A, -⟩ := F; exact A.lt
theorem own_A.ext (F : own_A Z h a k ty vs) (E : Ext h h') : own_A Z h' a k ty vs := by obtain ⟨c, A, r⟩ := F; exact ⟨c, A.ext E, r⟩
theorem own_A.other {sl : Nat} {v : Value} (F : own_A Z h b k ty vs) (W : Wr h h' a sl v) (q : b ≠ a) : own_A Z h' b k ty vs := by obtain ⟨c, A, r⟩ := F; exact ⟨c, A.other W q, r⟩
theorem own_A.keep {ws : List Addr} (F : own_A Z h a k ty vs) (K : Keep h h' ws) (q : a ∉ ws) : own_A Z h' a k ty vs := by obtain ⟨c, A, r⟩ := F; exact ⟨c, ⟨K.2.1 a c A.1 q, A.2⟩, r⟩
theorem own_A.eqs {vs' : List Value} (F : own_A Z h a k ty vs) (q : vs = vs') : own_A Z h a k ty vs' := q ▸ F
theorem own_in {cl : Cell} (hs : cl.slots.toList = vs) {j : Int32} {i : Nat} {v : Value} (hj : j.toInt = (i : Int)) (hv : vs[i]? = some v) : ¬ (j < 0 ∨ cl.slots.size ≤ j.toNatClampNeg) ∧ cl.slots[j.toNatClampNeg]? = some v ∧ j.toNatClampNeg = i := by
  have e : j.toNatClampNeg = i := by show j.toInt.toNat = i; omega
  have hlt : i < vs.length := by
    rcases Nat.lt_or_ge i vs.length with q | q
    · exact q
    · rw [List.getElem?_eq_none q] at hv; cases hv
  have hz : cl.slots.size = vs.length := by rw [← hs]; simp
  refine ⟨fun q => ?_, ?_, e⟩
  · rcases q with q | q
    · rw [Int32.lt_iff_toInt_lt, hj] at q; simp at q; omega
    · omega
  · rw [e, ← Array.getElem?_toList, hs]; exact hv
theorem own_ldJ (X : Stand p l e R s m args below meth c T locs cells slots) (hx : p.tables.exec = Jvm.exec) (hZ : Z.Warmed39 s.vm) (eT : T.heap = h) (F : own_A Z h a k .long vs) {j : Int32} {i : Nat} {v : Value} (hj : j.toInt = (i : Int)) (hv : vs[i]? = some v) {g : JFrame} (hg : g.method = m) {rest : List Value} (hs : g.stack = .int j :: .ref a :: rest) (hd : decode c.code g.pc = .ok (.laload, 1)) :
    ∀ t, Steps p.tables e below (T.setTop { g with pc := g.pc + 1, stack := v :: rest }) t → Steps p.tables e below (T.setTop g) t := fun t r => by
  obtain ⟨cl, A, -, q, -⟩ := F; obtain ⟨h1, h2, -⟩ := own_in q hj hv
  exact X.laload hx (by rw [eT]; exact A.1) (State.isArrayOf_alike hZ.alike A.2.1) A.2.2 h1 h2 hg hs hd t r
theorem own_ldI (X : Stand p l e R s m args below meth c T locs cells slots) (hx : p.tables.exec = Jvm.exec) (hZ : Z.Warmed39 s.vm) (eT : T.heap = h) (F : own_A Z h a k .int vs) {j : Int32} {i : Nat} {v : Value} (hj : j.toInt = (i : Int)) (hv : vs[i]? = some v) {g : JFrame} (hg : g.method = m) {rest : List Value} (hs : g.stack = .int j :: .ref a :: rest) (hd : decode c.code g.pc = .ok (.iaload, 1)) :
    ∀ t, Steps p.tables e below (T.setTop { g with pc := g.pc + 1, stack := v :: rest }) t → Steps p.tables e below (T.setTop g) t := fun t r => by
  obtain ⟨cl, A, -, q, -⟩ := F; obtain ⟨h1, h2, -⟩ := own_in q hj hv
  exact X.iaload hx (by rw [eT]; exact A.1) (State.isArrayOf_alike hZ.alike A.2.1) A.2.2 h1 h2 hg hs hd t r
theorem own_ldC (X : Stand p l e R s m args below meth c T locs cells slots) (hx : p.tables.exec = Jvm.exec) (hZ : Z.Warmed39 s.vm) (eT : T.heap = h) (F : own_A Z h a k .char vs) {j : Int32} {i : Nat} {v : Value} (hj : j.toInt = (i : Int)) (hv : vs[i]? = some v) {g : JFrame} (hg : g.method = m) {rest : List Value} (hs : g.stack = .int j :: .ref a :: rest) (hd : decode c.code g.pc = .ok (.caload, 1)) :
    ∀ t, Steps p.tables e below (T.setTop { g with pc := g.pc + 1, stack := v :: rest }) t → Steps p.tables e below (T.setTop g) t := fun t r => by
  obtain ⟨cl, A, -, q, -⟩ := F; obtain ⟨h1, h2, -⟩ := own_in q hj hv
  exact X.caload hx (by rw [eT]; exact A.1) (State.isArrayOf_alike hZ.alike A.2.1) A.2.2 h1 h2 hg hs hd t r
theorem own_ldB (X : Stand p l e R s m args below meth c T locs cells slots) (hx : p.tables.exec = Jvm.exec) (hZ : Z.Warmed39 s.vm) (eT : T.heap = h) (F : own_A Z h a k .byte vs) {j : Int32} {i : Nat} {v : Value} (hj : j.toInt = (i : Int)) (hv : vs[i]? = some v) {g : JFrame} (hg : g.method = m) {rest : List Value} (hs : g.stack = .int j :: .ref a :: rest) (hd : decode c.code g.pc = .ok (.baload, 1)) :
    ∀ t, Steps p.tables e below (T.setTop { g with pc := g.pc + 1, stack := v :: rest }) t → Steps p.tables e below (T.setTop g) t := fun t r => by
  obtain ⟨cl, A, -, q, -⟩ := F; obtain ⟨h1, h2, -⟩ := own_in q hj hv
  exact X.baloadBytes hx (by rw [eT]; exact A.1) (State.isArrayOf_alike hZ.alike A.2.1) A.2.2 h1 h2 hg hs hd t r
theorem own_ldA (X : Stand p l e R s m args below meth c T locs cells slots) (hx : p.tables.exec = Jvm.exec) (hZ : Z.Warmed39 s.vm) (eT : T.heap = h) (F : own_A Z h a k ty vs) (hty : ty.isReference = true) {j : Int32} {i : Nat} {v : Value} (hj : j.toInt = (i : Int)) (hv : vs[i]? = some v) {g : JFrame} (hg : g.method = m) {rest : List Value} (hs : g.stack = .int j :: .ref a :: rest) (hd : decode c.code g.pc = .ok (.aaload, 1)) :
    ∀ t, Steps p.tables e below (T.setTop { g with pc := g.pc + 1, stack := v :: rest }) t → Steps p.tables e below (T.setTop g) t := fun t r => by
  obtain ⟨cl, A, -, q, -⟩ := F; obtain ⟨h1, h2, -⟩ := own_in q hj hv
  exact X.aaload hx (by rw [eT]; exact A.1) (State.isArrayOf_alike hZ.alike A.2.1) hty A.2.2 h1 h2 hg hs hd t r
theorem own_len (X : Stand p l e R s m args below meth c T locs cells slots) (hx : p.tables.exec = Jvm.exec) (hZ : Z.Warmed39 s.vm) (eT : T.heap = h) (F : own_A Z h a k ty vs) {z : Int32} (hz : z.toInt = (vs.length : Int)) {g : JFrame} (hg : g.method = m) {rest : List Value} (hs : g.stack = .ref a :: rest) (hd : decode c.code g.pc = .ok (.arraylength, 1)) :
    ∀ t, Steps p.tables e below (T.setTop { g with pc := g.pc + 1, stack := .int z :: rest }) t → Steps p.tables e below (T.setTop g) t := fun t r => by
  obtain ⟨cl, A, -, q, q2, -⟩ := F
  have hl : cl.slots.size = vs.length := by rw [← q]; simp
  have e1 : cl.slots.size.toInt32 = z := by
    apply Int32.toInt_inj.mp
    rw [hl, hz]; exact Int32.toInt_ofNat_small q2
  exact X.arraylength hx (by rw [eT]; exact A.1) (State.isArrayOf_alike hZ.alike A.2.1) hg hs hd t (by rw [e1]; exact r)
theorem own_A.set {cl : Cell} (A : Arr Z h a cl ty) (q1 : cl.cls = k) (q2 : cl.slots.toList = vs) (q3 : vs.length < 2 ^ 31) (q4 : ∀ v ∈ vs, fits ty v = true) {i : Nat} {v : Value} (hv : fits ty v = true) (W : Wr h h' a i v) : own_A Z h' a k ty (vs.set i v) := by
  refine ⟨cl.setSlot i v, A.same W, q1, ?_, by simpa using q3, fun u hu => ?_⟩
  · simp [Cell.setSlot, q2]
  · rcases List.mem_or_eq_of_mem_set hu with r | r
    · exact q4 u r
    · rw [r]; exact hv
theorem own_stJ (X : Stand p l e R s m args below meth c T locs cells slots) (hx : p.tables.exec = Jvm.exec) (hZ : Z.Warmed39 s.vm) (eT : T.heap = h) (F : own_A Z h a k .long vs) {j : Int32} {i : Nat} {x : Int64} (hj : j.toInt = (i : Int)) (hi : i < vs.length) {g : JFrame} (hg : g.method = m) {rest : List Value} (hs : g.stack = .long x :: .int j :: .ref a :: rest) (hd : decode c.code g.pc = .ok (.lastore, 1)) :
    ∃ T' h', Stand p l e R s m args below meth c T' (locs ++ [⟨a, i⟩]) cells slots ∧ T'.heap = h' ∧ Wr h h' a i (.long x) ∧ own_A Z h' a k .long (vs.set i (.long x)) ∧ ∀ t, Steps p.tables e below (T'.setTop { g with pc := g.pc + 1, stack := rest }) t → Steps p.tables e below (T.setTop g) t := by
  obtain ⟨cl, A, r1, r2, r3, r4⟩ := F; obtain ⟨h1, -, h3⟩ := own_in r2 hj (List.getElem?_eq_getElem hi)
  obtain ⟨T', h', X', e', W, st⟩ := stJ X hx hZ eT A h1 hg hs hd
  rw [h3] at X' W
  exact ⟨T', h', X', e', W, own_A.set A r1 r2 r3 r4 rfl W, st⟩
theorem own_stI (X : Stand p l e R s m args below meth c T locs cells slots) (hx : p.tables.exec = Jvm.exec) (hZ : Z.Warmed39 s.vm) (eT : T.heap = h) (F : own_A Z h a k .int vs) {j : Int32} {i : Nat} {x : Int32} (hj : j.toInt = (i : Int)) (hi : i < vs.length) {g : JFrame} (hg : g.method = m) {rest : List Value} (hs : g.stack = .int x :: .int j :: .ref a :: rest) (hd : decode c.code g.pc = .ok (.iastore, 1)) :
    ∃ T' h', Stand p l e R s m args below meth c T' (locs ++ [⟨a, i⟩]) cells slots ∧ T'.heap = h' ∧ Wr h h' a i (.int x) ∧ own_A Z h' a k .int (vs.set i (.int x)) ∧ ∀ t, Steps p.tables e below (T'.setTop { g with pc := g.pc + 1, stack := rest }) t → Steps p.tables e below (T.setTop g) t := by
  obtain ⟨cl, A, r1, r2, r3, r4⟩ := F; obtain ⟨h1, -, h3⟩ := own_in r2 hj (List.getElem?_eq_getElem hi)
  obtain ⟨T', h', X', e', W, st⟩ := stI X hx hZ eT A h1 hg hs hd
  rw [h3] at X' W
  exact ⟨T', h', X', e', W, own_A.set A r1 r2 r3 r4 rfl W, st⟩
theorem own_stC (X : Stand p l e R s m args below meth c T locs cells slots) (hx : p.tables.exec = Jvm.exec) (hZ : Z.Warmed39 s.vm) (eT : T.heap = h) (F : own_A Z h a k .char vs) {j : Int32} {i : Nat} {x y : Int32} (hy : nar .char x = y) (hj : j.toInt = (i : Int)) (hi : i < vs.length) {g : JFrame} (hg : g.method = m) {rest : List Value} (hs : g.stack = .int x :: .int j :: .ref a :: rest) (hd : decode c.code g.pc = .ok (.castore, 1)) :
    ∃ T' h', Stand p l e R s m args below meth c T' (locs ++ [⟨a, i⟩]) cells slots ∧ T'.heap = h' ∧ Wr h h' a i (.int y) ∧ own_A Z h' a k .char (vs.set i (.int y)) ∧ ∀ t, Steps p.tables e below (T'.setTop { g with pc := g.pc + 1, stack := rest }) t → Steps p.tables e below (T.setTop g) t := by
  obtain ⟨cl, A, r1, r2, r3, r4⟩ := F; obtain ⟨h1, -, h3⟩ := own_in r2 hj (List.getElem?_eq_getElem hi)
  obtain ⟨T', h', X', e', W, st⟩ := stC X hx hZ eT A h1 hg hs hd
  have hfy := fits_nar_char x
  rw [hy] at hfy W
  rw [h3] at X' W
  exact ⟨T', h', X', e', W, own_A.set A r1 r2 r3 r4 hfy W, st⟩
theorem own_stB (X : Stand p l e R s m args below meth c T locs cells slots) (hx : p.tables.exec = Jvm.exec) (hZ : Z.Warmed39 s.vm) (eT : T.heap = h) (F : own_A Z h a k .byte vs) {j : Int32} {i : Nat} {x y : Int32} (hy : nar .byte x = y) (hj : j.toInt = (i : Int)) (hi : i < vs.length) {g : JFrame} (hg : g.method = m) {rest : List Value} (hs : g.stack = .int x :: .int j :: .ref a :: rest) (hd : decode c.code g.pc = .ok (.bastore, 1)) :
    ∃ T' h', Stand p l e R s m args below meth c T' (locs ++ [⟨a, i⟩]) cells slots ∧ T'.heap = h' ∧ Wr h h' a i (.int y) ∧ own_A Z h' a k .byte (vs.set i (.int y)) ∧ ∀ t, Steps p.tables e below (T'.setTop { g with pc := g.pc + 1, stack := rest }) t → Steps p.tables e below (T.setTop g) t := by
  obtain ⟨cl, A, r1, r2, r3, r4⟩ := F; obtain ⟨h1, -, h3⟩ := own_in r2 hj (List.getElem?_eq_getElem hi)
  obtain ⟨T', h', X', e', W, st⟩ := stB X hx hZ eT A h1 hg hs hd
  have hfy : fits .byte (.int (nar .byte x)) = true := fits_nar_byte x
  rw [hy] at hfy W
  rw [h3] at X' W
  exact ⟨T', h', X', e', W, own_A.set A r1 r2 r3 r4 hfy W, st⟩
theorem own_stR (X : Stand p l e R s m args below meth c T locs cells slots) (hx : p.tables.exec = Jvm.exec) (hZ : Z.Warmed39 s.vm) (eT : T.heap = h) (F : own_A Z h a k ty vs) (hty : ty.isReference = true) {j : Int32} {i : Nat} {v : Value} (hj : j.toInt = (i : Int)) (hi : i < vs.length) (hS : ∀ cl : Cell, Arr Z h a cl ty → cl.cls = k → Sto Z h a v) (hf : fits ty v = true) {g : JFrame} (hg : g.method = m) {rest : List Value} (hs : g.stack = v :: .int j :: .ref a :: rest) (hd : decode c.code g.pc = .ok (.aastore, 1)) :
    ∃ T' h', Stand p l e R s m args below meth c T' (locs ++ [⟨a, i⟩]) cells slots ∧ T'.heap = h' ∧ Wr h h' a i v ∧ own_A Z h' a k ty (vs.set i v) ∧ ∀ t, Steps p.tables e below (T'.setTop { g with pc := g.pc + 1, stack := rest }) t → Steps p.tables e below (T.setTop g) t := by
  obtain ⟨cl, A, r1, r2, r3, r4⟩ := F; obtain ⟨h1, -, h3⟩ := own_in r2 hj (List.getElem?_eq_getElem hi)
  obtain ⟨T', h', X', e', W, st⟩ := stR X hx hZ eT A h1 hty (hS cl A r1) hg hs hd
  rw [h3] at X' W
  exact ⟨T', h', X', e', W, own_A.set A r1 r2 r3 r4 hf W, st⟩
theorem own_A.of_new {n : Int32} {i : Nat} (hn : n.toInt = (i : Int)) (hd : fits ty (defaultValue ty) = true) (A : Arr Z h a (newA k ty n) ty) : own_A Z h a k ty (List.replicate i (defaultValue ty)) := by
  have e : n.toNatClampNeg = i := by show n.toInt.toNat = i; omega
  have hb := n.toInt_lt
  refine ⟨_, A, rfl, by simp [newA, e], by simp; omega, fun v hv => by rw [(List.mem_replicate.mp hv).2]; exact hd⟩
theorem own_newP (X : Stand p l e R s m args below meth c T locs cells slots) (hx : p.tables.exec = Jvm.exec) (hZ : Z.Warmed39 s.vm) {aty : ArrayType} (w : (Cond.arrayClass (newarray.typeOf aty)).before a0 Z = true) (eT : T.heap = h) {g : JFrame} (hg : g.method = m) (hd : decode c.code g.pc = .ok (.newarray aty, 2)) {n : Int32} {rest : List Value} (hs : g.stack = .int n :: rest)
    {i : Nat} (hn : n.toInt = (i : Int)) {cap : Nat} (hcap : i ≤ cap) (hb : cap * 8 ≤ 536870912) (hc : cells + 1 ≤ R.cells) (hl : slots + cap ≤ R.slots) :
    ∃ T' h' cA, Stand p l e R s m args below meth c T' locs (cells + 1) (slots + cap) ∧ T'.heap = h' ∧ Ext h h' ∧ own_A Z h' h.size cA (newarray.typeOf aty) (List.replicate i (defaultValue (newarray.typeOf aty))) ∧
      ∀ target, Steps p.tables e below (T'.setTop { g with pc := g.pc + 2, stack := .ref h.size :: rest }) target → Steps p.tables e below (T.setTop g) target := by
  have hn' : ¬ n < 0 := by rw [Int32.lt_iff_toInt_lt, hn]; simp
  obtain ⟨T', h', cA, X', e', E, A, st⟩ := newP X hx hZ w eT hg hd hs hn' (cap := cap) (by show n.toInt.toNat ≤ cap; omega) hb hc hl
  exact ⟨T', h', cA, X', e', E, own_A.of_new hn (by cases aty <;> rfl) A, st⟩
theorem own_newR (X : Stand p l e R s m args below meth c T locs cells slots) (hx : p.tables.exec = Jvm.exec) (hZ : Z.Warmed39 s.vm) {own C : String} {index : Nat} (hown : s.vm.findClass own = some m.cls) (w1 : (Cond.classLink own index C).before a0 Z = true) (w2 : (Cond.arrayOver (.object C)).before a0 Z = true)
    (eT : T.heap = h) {g : JFrame} (hg : g.method = m) (hd : decode c.code g.pc = .ok (.anewarray index, 3)) {n : Int32} {rest : List Value} (hs : g.stack = .int n :: rest) {i : Nat} (hn : n.toInt = (i : Int)) {cap : Nat} (hcap : i ≤ cap) (hb : cap * 8 ≤ 536870912) (hc : cells + 1 ≤ R.cells) (hl : slots + cap ≤ R.slots) :
    ∃ T' h' cA, Stand p l e R s m args below meth c T' locs (cells + 1) (slots + cap) ∧ T'.heap = h' ∧ Ext h h' ∧ own_A Z h' h.size cA (.object C) (List.replicate i .null) ∧ Ovr Z cA C ∧
      ∀ target, Steps p.tables e below (T'.setTop { g with pc := g.pc + 3, stack := .ref h.size :: rest }) target → Steps p.tables e below (T.setTop g) target := by
  have hn' : ¬ n < 0 := by rw [Int32.lt_iff_toInt_lt, hn]; simp
  obtain ⟨T', h', cA, X', e', E, A, O, st⟩ := newR X hx hZ hown w1 w2 eT hg hd hs hn' (cap := cap) (by show n.toInt.toNat ≤ cap; omega) hb hc hl
  exact ⟨T', h', cA, X', e', E, own_A.of_new hn rfl A, O, st⟩
theorem own_sto {C : String} {v : Value} (O : Ovr Z k C) (I : v = .null ∨ ∃ y, v = .ref y ∧ Ins Z h y C true) : ∀ cl : Cell, Arr Z h a cl ty → cl.cls = k → Sto Z h a v := fun cl A q => by
  rcases I with rfl | ⟨y, rfl, I⟩
  · exact Or.inl rfl
  · exact Sto.ofV A q O I
theorem own_A.start {args : Array Value} (hf : Fit Z) {t : Term} {n : Int32} (ev : t.eval args Z none [] Z = some (.ref a)) (hA : (Cond.arrayOf t ty).value args Z none Z [] = some true) (hL : (Cond.eq (.length t) (.int n)).value args Z none Z [] = some true) :
    ∃ c : Cell, Arr Z Z.heap a c ty ∧ own_A Z Z.heap a c.cls ty c.slots.toList ∧ c.slots.size < 2 ^ 31 ∧ c.slots.size.toInt32 = n ∧ (c.slots.size : Int) = n.toInt := by
  obtain ⟨c, A⟩ := Arr.start ev hA
  have e := eqv_i (Term.int_eval n) hL
  have e4 : Z.arrayAt? a = some c := A.fin (Vm.Alike.refl _)
  have hl : c.slots.size < 2 ^ 31 := by
    rcases Nat.lt_or_ge c.slots.size (2 ^ 31) with q | q
    · exact q
    · simp [Term.eval, ev, e4, Nat.not_lt.mpr q] at e
  have e5 := (len_f ev e4 hl).symm.trans e
  have e6 : c.slots.size.toInt32 = n := Value.int.inj (Option.some.inj e5)
  refine ⟨c, A, ⟨c, A, rfl, rfl, by simpa using hl, fun v hv => ?_⟩, hl, e6, ?_⟩
  · obtain ⟨i, hi, rfl⟩ := List.getElem_of_mem hv
    have hi' : i < c.slots.size := by simpa using hi
    have q := idx_in hi' hl
    have e7 : i.toInt32.toNatClampNeg = i := by
      show i.toInt32.toInt.toNat = i
      rw [len_toInt (Nat.lt_trans hi' hl)]; rfl
    exact elem_fits hf A q (by rw [e7]; simp [hi'])
  · rw [← e6, len_toInt hl]
end OwnArr

section OwnArr2
variable {p : Program} {l : Launch} {e : Env} {R : Room} {s : State} {m : MethodId} {args : Array Value} {below : List Frame} {meth : Method} {c : Code} {T : State} {locs : List Loc} {cells slots : Nat} {Z : State} {h h' : Heap} {a b : Addr} {k : ClassId} {ty : FieldType} {vs : List Value} {a0 : Array Value}
theorem own_newRE (X : Stand p l e R s m args below meth c T locs cells slots) (hx : p.tables.exec = Jvm.exec) (hZ : Z.Warmed39 s.vm) {own C : String} {index : Nat} (hown : s.vm.findClass own = some m.cls) (w1 : (Cond.classLink own index C).before a0 Z = true) (w2 : (Cond.arrayOver (.object C)).before a0 Z = true)
    (eT : T.heap = h) {g : JFrame} (hg : g.method = m) (hd : decode c.code g.pc = .ok (.anewarray index, 3)) {n : Int32} {rest : List Value} (hs : g.stack = .int n :: rest) {i : Nat} (hn : n.toInt = (i : Int)) {cap : Nat} (hcap : i ≤ cap) (hb : cap * 8 ≤ 536870912) (hc : cells + 1 ≤ R.cells) (hl : slots + cap ≤ R.slots) {ad : String} (had : "[" ++ (FieldType.object C).toString = ad) :
    ∃ T' h' cA, Stand p l e R s m args below meth c T' locs (cells + 1) (slots + cap) ∧ T'.heap = h' ∧ Ext h h' ∧ own_A Z h' h.size cA (.object C) (List.replicate i .null) ∧ Exa Z h' h.size ad ∧ Ovr Z cA C ∧
      ∀ target, Steps p.tables e below (T'.setTop { g with pc := g.pc + 3, stack := .ref h.size :: rest }) target → Steps p.tables e below (T.setTop g) target := by
  have hn' : ¬ n < 0 := by rw [Int32.lt_iff_toInt_lt, hn]; simp
  obtain ⟨T', h', cA, X', e', E, A, EX, O, st⟩ := newRE X hx hZ hown w1 w2 eT hg hd hs hn' (cap := cap) (by show n.toInt.toNat ≤ cap; omega) hb hc hl had
  exact ⟨T', h', cA, X', e', E, own_A.of_new hn rfl A, EX, O, st⟩
theorem own_A.arv (F : own_A Z h a k ty vs) {z : Int32} (hz : z.toInt = (vs.length : Int)) (d : Value) : Arv Z h a k ty z vs d := by
  obtain ⟨cl, A, r1, r2, r3, r4⟩ := F
  have hs : cl.slots.size = vs.length := by rw [← r2]; simp
  have hn : z.toNatClampNeg = vs.length := by show z.toInt.toNat = _; omega
  refine ⟨cl, A, r1, by rw [hs, hn], by rw [Int32.lt_iff_toInt_lt, hz]; simp, fun i hi => ?_, fun i hi => ?_⟩
  · rw [hs] at hi
    rw [← Array.getElem?_toList, r2, List.getD_eq_getElem?_getD, List.getElem?_eq_getElem hi]; rfl
  · rw [hs] at hi
    rw [List.getD_eq_getElem?_getD, List.getElem?_eq_getElem hi]; exact r4 _ (List.getElem_mem hi)
theorem own_A.of_arv {z : Int32} {d : Value} (F : Arv Z h a k ty z vs d) (hz : z.toInt = (vs.length : Int)) : own_A Z h a k ty vs := by
  obtain ⟨cl, A, r1, r2, r3, r4, r5⟩ := F
  have hn : z.toNatClampNeg = vs.length := by show z.toInt.toNat = _; omega
  have hlt := z.toInt_lt
  refine ⟨cl, A, r1, ?_, by omega, fun v hv => ?_⟩
  · apply List.ext_getElem?
    intro i
    rw [Array.getElem?_toList]
    rcases Nat.lt_or_ge i vs.length with q | q
    · rw [r4 i (by omega), List.getD_eq_getElem?_getD, List.getElem?_eq_getElem q]; rfl
    · rw [List.getElem?_eq_none q, Array.getElem?_eq_none (by omega)]
  · obtain ⟨i, hi, rfl⟩ := List.getElem_of_mem hv
    have := r5 i (by omega)
    rwa [List.getD_eq_getElem?_getD, List.getElem?_eq_getElem hi] at this
theorem own_stoL {C : String} (O : Ovr Z k C) (A : own_A Z h a k ty vs) : ∀ us : List Value, (∀ v ∈ us, v = .null ∨ ∃ y, v = .ref y ∧ Ins Z h y C true) → StoL Z h a us
  | [], _ => trivial
  | v :: us, q => ⟨by obtain ⟨cl, Ar, r1, -⟩ := A; exact own_sto O (q v List.mem_cons_self) cl Ar r1, own_stoL O A us fun u hu => q u (List.mem_cons_of_mem _ hu)⟩
theorem own_memc {P : Value → Prop} {v : Value} {us : List Value} (q : P v) (r : ∀ u ∈ us, P u) : ∀ u ∈ v :: us, P u := fun u hu => by
  rcases List.mem_cons.mp hu with rfl | hu
  · exact q
  · exact r u hu
theorem own_cp (X : Stand p l e R s m args below meth c T locs cells slots) (hx : p.tables.exec = Jvm.exec) (hZ : Z.Warmed39 s.vm) {own : String} {index : Nat} (hown : s.vm.findClass own = some m.cls)
    (w1 : (Cond.methodLink own index Jvm.Stand.acN).before a0 Z = true) (w2 : (Cond.native Jvm.Stand.acN).before a0 Z = true) (w3 : (Cond.static Jvm.Stand.acN).before a0 Z = true) (w4 : (Cond.initialized "java/lang/System").before a0 Z = true) (eT : T.heap = h)
    {k' : ClassId} {ty' : FieldType} {sp dp nn : Int32} {vd us vr : List Value} {i j n : Nat} (A : own_A Z h a k ty vs) (B : own_A Z h b k' ty' vd) (hA : vs.length < 2147483648) (hB : vd.length < 2147483648) (hty : (ty = ty' ∧ refKind ty = false) ∨ (refKind ty = true ∧ refKind ty' = true ∧ StoL Z h b us))
    (h1 : sp.toInt = (i : Int)) (h2 : dp.toInt = (j : Int)) (h3 : nn.toInt = (n : Int)) (h4 : i + n ≤ vs.length) (h5 : j + n ≤ vd.length)
    (hus : us = (vs.drop i).take n) (hvr : vr = vd.take j ++ us ++ vd.drop (j + n)) {n0 : Nat} (N : Fr n0 locs) (ge : n0 ≤ b)
    {g : JFrame} (hg : g.method = m) (hsize : g.locals.size = c.maxLocals) {rest : List Value} (hs : g.stack = .int nn :: .int dp :: .ref b :: .int sp :: .ref a :: rest) (hd : decode c.code g.pc = .ok (.invokestatic index, 3))
    (hf : 1 ≤ R.frames) {W : Nat} (hW : 2 * g.monitorRoom + (rest.map fun v => v.category).sum ≤ W) (hlo : W + (nativeFrameWords "java/lang/System" "arraycopy" 5 + 11) ≤ R.locals) :
    ∃ T' h' L, Stand p l e R s m args below meth c T' L cells slots ∧ T'.heap = h' ∧ Fr n0 L ∧ Keep h h' [b] ∧ own_A Z h' b k' ty' vr ∧
      ∀ target, Steps p.tables e below (T'.setTop { g with pc := g.pc + 3, stack := rest }) target → Steps p.tables e below (T.setTop g) target := by
  have e1 : sp.toNatClampNeg = i := by show sp.toInt.toNat = i; omega
  have e2 : dp.toNatClampNeg = j := by show dp.toInt.toNat = j; omega
  have e3 : nn.toNatClampNeg = n := by show nn.toInt.toNat = n; omega
  have z1 : (Int32.ofNat vs.length).toInt = (vs.length : Int) := Int32.toInt_ofNat_small (by omega)
  have z2 : (Int32.ofNat vd.length).toInt = (vd.length : Int) := Int32.toInt_ofNat_small (by omega)
  have y1 : (Int32.ofNat vs.length).toNatClampNeg = vs.length := by show (Int32.ofNat vs.length).toInt.toNat = _; omega
  have y2 : (Int32.ofNat vd.length).toNatClampNeg = vd.length := by show (Int32.ofNat vd.length).toInt.toNat = _; omega
  have hus' : us = (List.range nn.toNatClampNeg).map fun q => vs.getD (sp.toNatClampNeg + q) .null := by
    rw [hus, e1, e3]
    apply List.ext_getElem?
    intro q
    rcases Nat.lt_or_ge q n with r | r
    · rw [List.getElem?_take_of_lt r, List.getElem?_drop, List.getElem?_map, List.getElem?_range r, List.getElem?_eq_getElem (by omega)]
      simp [List.getD_eq_getElem?_getD, List.getElem?_eq_getElem (show i + q < vs.length by omega)]
    · rw [List.getElem?_eq_none (by simp; omega), List.getElem?_eq_none (by simp; omega)]
  obtain ⟨T', h', L, X', e', N', K, V, st⟩ := cpA X hx hZ hown w1 w2 w3 w4 eT (A.arv z1 .null) (B.arv z2 .null) hty (by rw [Int32.lt_iff_toInt_lt, h1]; simp) (by rw [Int32.lt_iff_toInt_lt, h2]; simp) (by rw [Int32.lt_iff_toInt_lt, h3]; simp) (by rw [e1, e3, y1]; exact h4) (by rw [e2, e3, y2]; exact h5) hus' (by rw [e2, e3]; exact h5) N ge hg hsize hs hd hf hW hlo
  rw [e2, e3, ← hvr] at V
  refine ⟨T', h', L, X', e', N', K, own_A.of_arv V ?_, st⟩
  rw [z2, hvr, hus]; simp; omega
theorem own_ldcK (X : Stand p l e R s m args below meth c T locs cells slots) (hx : p.tables.exec = Jvm.exec) (hZ : Z.Warmed39 s.vm) {own C : String} {index : Nat} (hown : s.vm.findClass own = some m.cls) (w : (Cond.classLink own index C).before a0 Z = true) {mr : Addr} (M : Mir Z C mr) (eT : T.heap = h) {g : JFrame} (hg : g.method = m) (hd : decode c.code g.pc = .ok (.ldc index, 2)) :
    ∃ T', Stand p l e R s m args below meth c T' locs cells slots ∧ T'.heap = h ∧ ∀ target, Steps p.tables e below (T'.setTop { g with pc := g.pc + 2, stack := .ref mr :: g.stack }) target → Steps p.tables e below (T.setTop g) target := by
  obtain ⟨cc, kc, m1, m2, m3, -⟩ := M
  obtain ⟨k', q, ek⟩ := hZ.alike.2.2 _ _ m2
  have hf : s.vm.findClass C = some cc := by rw [hZ.alike.findClass]; exact m1
  have hm : k'.mirror = some mr := by rw [ek]; exact m3
  obtain ⟨vm', X', st⟩ := X.ldcMirror hx hown (mvT hZ w) (a := mr) (by simp [Term.eval, hf, q, hm]) hg hd
  exact ⟨_, X', eT, st⟩
theorem own_NSroot {O K : String} {n : Nat} (w : (Cond.noSuperclass O).before a0 Z = true) (wk : (Cond.instantiable K n).before a0 Z = true) (hn : O ≠ K) : NS Z O K := by
  obtain ⟨c, k, h1, h2, h3, -, -⟩ := Cond.noSuperclass_spec w
  obtain ⟨t, k', g1, -⟩ := Cond.instantiable_spec wk
  have ne := ids_ne h1 g1 hn
  refine ⟨c, t, h1, g1, fun fuel => ?_⟩
  cases fuel with
  | zero => rfl
  | succ f => simp [Vm.isSubclassAux, ne, h2, h3]
theorem own_NSno {C S K : String} {nn : Nat} (w : (Cond.superclass C S).before a0 Z = true) (wk : (Cond.instantiable K nn).before a0 Z = true) (n : NS Z C K) (hn : C ≠ K) : ∃ c t, Z.vm.findClass C = some c ∧ Z.vm.findClass K = some t ∧ Z.vm.assignable c t = false := by
  obtain ⟨c, t, h0, g0, n3⟩ := n
  obtain ⟨p, k, kp, h1, h2, h3, h4, h5, -, h7⟩ := Cond.superclass_spec h0 w
  obtain ⟨t', k', g1, g2, g5, g7, -⟩ := Cond.instantiable_spec wk
  cases g0.symm.trans g1
  simp only [Bool.or_eq_false_iff] at g7
  have ne := ids_ne h0 g0 hn
  refine ⟨c, t, h0, g0, ?_⟩
  show Z.vm.assignableAux (255 + 1) c t = false
  simp [Vm.assignableAux, ne, h2, g2, h5, g5, g7.1, Vm.isSubclass, n3]
end OwnArr2


/-! the sets: words of bits -/
def own_B (q : Nat) : Int64 := (1 : Int64) <<< (Int64.ofNat (q % 64))
def own_one (q : Nat) (x : Nat) : Int64 := if x = q / 64 then own_B q else 0
def own_or (f : Nat → Int64) (q : Nat) (x : Nat) : Int64 := if x = q / 64 then f x ||| own_B q else f x
def own_clr (f : Nat → Int64) (q : Nat) (x : Nat) : Int64 := if x = q / 64 then f x &&& (own_B q ^^^ (-1)) else f x
def own_upd {α : Type} (f : Nat → α) (i : Nat) (v : α) (j : Nat) : α := if j = i then v else f j
theorem own_upd_hit {α : Type} (f : Nat → α) (i : Nat) (v : α) : own_upd f i v i = v := if_pos rfl
theorem own_upd_miss {α : Type} (f : Nat → α) {i j : Nat} (v : α) (h : j ≠ i) : own_upd f i v j = f j := if_neg h
theorem own_bits : ∀ i : Fin 64, (((1 : Int64) <<< (Int64.ofNat i.val)) &&& (((1 : Int64) <<< (Int64.ofNat i.val)) - 1) = 0) ∧ ((1 : Int64) <<< (Int64.ofNat i.val)) ≠ 0 ∧ (((1 : Int64) <<< (Int64.ofNat i.val)) &&& (((1 : Int64) <<< (Int64.ofNat i.val)) ^^^ (-1)) = 0) := by decide +kernel
theorem own_bits2 : ∀ i j : Fin 64, i ≠ j → (((1 : Int64) <<< (Int64.ofNat i.val)) &&& ((1 : Int64) <<< (Int64.ofNat j.val)) = 0) := by decide +kernel
theorem own_bm (q : Nat) : q % 64 < 64 := Nat.mod_lt _ (by decide)
theorem own_B_pred (q : Nat) : own_B q &&& (own_B q - 1) = 0 := (own_bits ⟨q % 64, own_bm q⟩).1
theorem own_B_ne (q : Nat) : own_B q ≠ 0 := (own_bits ⟨q % 64, own_bm q⟩).2.1
theorem own_B_not (q : Nat) : own_B q &&& (own_B q ^^^ (-1)) = 0 := (own_bits ⟨q % 64, own_bm q⟩).2.2
theorem own_B_two {a b : Nat} (h : a ≠ b) (hw : a / 64 = b / 64) : own_B a &&& own_B b = 0 := own_bits2 ⟨a % 64, own_bm a⟩ ⟨b % 64, own_bm b⟩ (fun q => h (by have := congrArg Fin.val q; simp at this; omega))
theorem own_and_self (x : Int64) : x &&& x = x := by apply Int64.toBitVec_inj.mp; simp
theorem own_clr_id {x b : Int64} (h : x &&& b = 0) : x &&& (b ^^^ (-1)) = x := by
  have h' : x.toBitVec &&& b.toBitVec = 0#64 := congrArg Int64.toBitVec h
  apply Int64.toBitVec_inj.mp
  show x.toBitVec &&& (b.toBitVec ^^^ (-1 : Int64).toBitVec) = x.toBitVec
  have hm : (-1 : Int64).toBitVec = BitVec.allOnes 64 := by decide
  rw [hm]
  apply BitVec.eq_of_getLsbD_eq
  intro i hi
  have hb := congrArg (fun v => v.getLsbD i) h'
  simp only [BitVec.getLsbD_and, BitVec.getLsbD_zero] at hb
  simp only [BitVec.getLsbD_and, BitVec.getLsbD_xor, BitVec.getLsbD_allOnes, hi, decide_true, Bool.xor_true]
  cases hx : x.toBitVec.getLsbD i <;> cases hc : b.toBitVec.getLsbD i <;> simp_all
theorem own_clr_id' {f : Nat → Int64} {q : Nat} (h : f (q / 64) &&& own_B q = 0) : own_clr f q = f := by
  funext x
  unfold own_clr
  split
  · rename_i e; subst e; exact own_clr_id h
  · rfl

def own_L (Z : State) (h : Heap) (a : Addr) (k : ClassId) (n : Nat) (f : Nat → Int64) : Prop := own_A Z h a k .long ((List.range n).map fun i => .long (f i))
def own_V (Z : State) (h : Heap) (a : Addr) (k : ClassId) (ty : FieldType) (n : Nat) (f : Nat → Value) : Prop := own_A Z h a k ty ((List.range n).map f)
theorem own_rget {α : Type} (f : Nat → α) {n i : Nat} (h : i < n) : ((List.range n).map f)[i]? = some (f i) := by rw [List.getElem?_map, List.getElem?_range h]; rfl
theorem own_rset {α : Type} (f : Nat → α) (n i : Nat) (v : α) : ((List.range n).map f).set i v = (List.range n).map (own_upd f i v) := by
  apply List.ext_getElem?
  intro j
  rw [List.getElem?_set, List.getElem?_map, List.getElem?_map]
  rcases Nat.lt_or_ge j n with q | q
  · rw [List.getElem?_range q]
    by_cases e : i = j
    · subst e; simp [own_upd, q]
    · simp [own_upd, e, Ne.symm e]
  · rw [List.getElem?_eq_none (by simpa using q)]
    by_cases e : i = j
    · subst e; simp [Nat.not_lt.mpr q]
    · simp [e]
theorem own_rlen {α : Type} (f : Nat → α) (n : Nat) : ((List.range n).map f).length = n := by simp
section OwnI
variable {Z : State} {h h' : Heap} {a b : Addr} {k : ClassId} {ty : FieldType} {n : Nat} {f : Nat → Int64} {g : Nat → Value}
theorem own_L.lt (F : own_L Z h a k n f) : a < h.size := own_A.lt F
theorem own_V.lt (F : own_V Z h a k ty n g) : a < h.size := own_A.lt F
theorem own_L.ext (F : own_L Z h a k n f) (E : Ext h h') : own_L Z h' a k n f := own_A.ext F E
theorem own_V.ext (F : own_V Z h a k ty n g) (E : Ext h h') : own_V Z h' a k ty n g := own_A.ext F E
theorem own_L.other {sl : Nat} {v : Value} (F : own_L Z h b k n f) (W : Wr h h' a sl v) (q : b ≠ a) : own_L Z h' b k n f := own_A.other F W q
theorem own_V.other {sl : Nat} {v : Value} (F : own_V Z h b k ty n g) (W : Wr h h' a sl v) (q : b ≠ a) : own_V Z h' b k ty n g := own_A.other F W q
theorem own_L.keep {ws : List Addr} (F : own_L Z h a k n f) (K : Keep h h' ws) (q : a ∉ ws) : own_L Z h' a k n f := own_A.keep F K q
theorem own_L.set {i : Nat} {v : Int64} (F : own_A Z h a k .long (((List.range n).map fun i => Value.long (f i)).set i (.long v))) : own_L Z h a k n (own_upd f i v) := by
  unfold own_L
  rw [own_rset] at F
  exact F.eqs (List.map_congr_left fun j _ => by simp only [own_upd]; split <;> rfl)
theorem own_V.set {i : Nat} {v : Value} (F : own_A Z h a k ty (((List.range n).map g).set i v)) : own_V Z h a k ty n (own_upd g i v) := by
  unfold own_V
  rw [own_rset] at F
  exact F
end OwnI
def own_I (Z : State) (h : Heap) (r : Addr) (N w : Nat) (A : Nat → Addr) (K : Nat → ClassId) (rows : Nat → Addr) (rc : Nat → Nat → Int64) (ls pr : Nat → Value) (wt ra ea : Nat → Int64) (st : Int64) : Prop := Exa Z h r "com/example/greylag/greylag/sim/RequestOrder" ∧ Fld Z h r "com/example/greylag/greylag/sim/RequestOrder" "size" "I" (.int (Int32.ofNat N)) ∧ Fld Z h r "com/example/greylag/greylag/sim/RequestOrder" "follows" "[[J" (.ref (A 0)) ∧ Fld Z h r "com/example/greylag/greylag/sim/RequestOrder" "lastSent" "[Lcom/example/greylag/greylag/sim/RequestOrder$Knowledge;" (.ref (A 1)) ∧ Fld Z h r "com/example/greylag/greylag/sim/RequestOrder" "precedents" "[[J" (.ref (A 2)) ∧ Fld Z h r "com/example/greylag/greylag/sim/RequestOrder" "waiting" "[J" (.ref (A 3)) ∧ Fld Z h r "com/example/greylag/greylag/sim/RequestOrder" "requestedAt" "[J" (.ref (A 4)) ∧ Fld Z h r "com/example/greylag/greylag/sim/RequestOrder" "enteredAt" "[J" (.ref (A 5)) ∧ Fld Z h r "com/example/greylag/greylag/sim/RequestOrder" "stamp" "J" (.long st) ∧ own_V Z h (A 0) (K 0) (.array .long) N (fun i => .ref (rows i)) ∧ own_V Z h (A 1) (K 1) (.object "com/example/greylag/greylag/sim/RequestOrder$Knowledge") N ls ∧ own_V Z h (A 2) (K 2) (.array .long) N pr ∧ own_L Z h (A 3) (K 3) w wt ∧ own_L Z h (A 4) (K 4) N ra ∧ own_L Z h (A 5) (K 5) N ea ∧ (∀ i, i < N → own_L Z h (rows i) (K 6) w (rc i) ∧ Exa Z h (rows i) "[J")
def own_D (n0 : Nat) (r : Addr) (N : Nat) (A : Nat → Addr) (rows : Nat → Addr) : Prop := n0 ≤ r ∧ (∀ j, j < 6 → n0 ≤ A j ∧ A j ≠ r) ∧ (∀ j j', j < 6 → j' < 6 → j ≠ j' → A j ≠ A j') ∧ (∀ i, i < N → n0 ≤ rows i ∧ rows i ≠ r ∧ ∀ j, j < 6 → rows i ≠ A j) ∧ ∀ i i', i < N → i' < N → i ≠ i' → rows i ≠ rows i'
theorem own_I.w1 {n0 : Nat} {Z : State} {h h' : Heap} {r : Addr} {N w : Nat} {A : Nat → Addr} {K : Nat → ClassId} {rows : Nat → Addr} {rc : Nat → Nat → Int64} {ls pr : Nat → Value} {wt ra ea : Nat → Int64} {st : Int64} {sl : Nat} {v : Value} {ls' : Nat → Value} (I : own_I Z h r N w A K rows rc ls pr wt ra ea st) (D : own_D n0 r N A rows) (W : Wr h h' (A 1) sl v) (hV : own_V Z h' (A 1) (K 1) (.object "com/example/greylag/greylag/sim/RequestOrder$Knowledge") N ls') : own_I Z h' r N w A K rows rc ls' pr wt ra ea st :=
  ⟨I.1.wr W, I.2.1.other W (Or.inl (Ne.symm (D.2.1 1 (by decide)).2)), I.2.2.1.other W (Or.inl (Ne.symm (D.2.1 1 (by decide)).2)), I.2.2.2.1.other W (Or.inl (Ne.symm (D.2.1 1 (by decide)).2)), I.2.2.2.2.1.other W (Or.inl (Ne.symm (D.2.1 1 (by decide)).2)), I.2.2.2.2.2.1.other W (Or.inl (Ne.symm (D.2.1 1 (by decide)).2)), I.2.2.2.2.2.2.1.other W (Or.inl (Ne.symm (D.2.1 1 (by decide)).2)), I.2.2.2.2.2.2.2.1.other W (Or.inl (Ne.symm (D.2.1 1 (by decide)).2)), I.2.2.2.2.2.2.2.2.1.other W (Or.inl (Ne.symm (D.2.1 1 (by decide)).2)), I.2.2.2.2.2.2.2.2.2.1.other W (D.2.2.1 0 1 (by decide) (by decide) (by decide)), hV, I.2.2.2.2.2.2.2.2.2.2.2.1.other W (D.2.2.1 2 1 (by decide) (by decide) (by decide)), I.2.2.2.2.2.2.2.2.2.2.2.2.1.other W (D.2.2.1 3 1 (by decide) (by decide) (by decide)), I.2.2.2.2.2.2.2.2.2.2.2.2.2.1.other W (D.2.2.1 4 1 (by decide) (by decide) (by decide)), I.2.2.2.2.2.2.2.2.2.2.2.2.2.2.1.other W (D.2.2.1 5 1 (by decide) (by decide) (by decide)), fun i hi => ⟨(I.2.2.2.2.2.2.2.2.2.2.2.2.2.2.2 i hi).1.other W ((D.2.2.2.1 i hi).2.2 1 (by decide)), (I.2.2.2.2.2.2.2.2.2.2.2.2.2.2.2 i hi).2.wr W⟩⟩
theorem own_I.w2 {n0 : Nat} {Z : State} {h h' : Heap} {r : Addr} {N w : Nat} {A : Nat → Addr} {K : Nat → ClassId} {rows : Nat → Addr} {rc : Nat → Nat → Int64} {ls pr : Nat → Value} {wt ra ea : Nat → Int64} {st : Int64} {sl : Nat} {v : Value} {pr' : Nat → Value} (I : own_I Z h r N w A K rows rc ls pr wt ra ea st) (D : own_D n0 r N A rows) (W : Wr h h' (A 2) sl v) (hV : own_V Z h' (A 2) (K 2) (.array .long) N pr') : own_I Z h' r N w A K rows rc ls pr' wt ra ea st :=
  ⟨I.1.wr W, I.2.1.other W (Or.inl (Ne.symm (D.2.1 2 (by decide)).2)), I.2.2.1.other W (Or.inl (Ne.symm (D.2.1 2 (by decide)).2)), I.2.2.2.1.other W (Or.inl (Ne.symm (D.2.1 2 (by decide)).2)), I.2.2.2.2.1.other W (Or.inl (Ne.symm (D.2.1 2 (by decide)).2)), I.2.2.2.2.2.1.other W (Or.inl (Ne.symm (D.2.1 2 (by decide)).2)), I.2.2.2.2.2.2.1.other W (Or.inl (Ne.symm (D.2.1 2 (by decide)).2)), I.2.2.2.2.2.2.2.1.other W (Or.inl (Ne.symm (D.2.1 2 (by decide)).2)), I.2.2.2.2.2.2.2.2.1.other W (Or.inl (Ne.symm (D.2.1 2 (by decide)).2)), I.2.2.2.2.2.2.2.2.2.1.other W (D.2.2.1 0 2 (by decide) (by decide) (by decide)), I.2.2.2.2.2.2.2.2.2.2.1.other W (D.2.2.1 1 2 (by decide) (by decide) (by decide)), hV, I.2.2.2.2.2.2.2.2.2.2.2.2.1.other W (D.2.2.1 3 2 (by decide) (by decide) (by decide)), I.2.2.2.2.2.2.2.2.2.2.2.2.2.1.other W (D.2.2.1 4 2 (by decide) (by decide) (by decide)), I.2.2.2.2.2.2.2.2.2.2.2.2.2.2.1.other W (D.2.2.1 5 2 (by decide) (by decide) (by decide)), fun i hi => ⟨(I.2.2.2.2.2.2.2.2.2.2.2.2.2.2.2 i hi).1.other W ((D.2.2.2.1 i hi).2.2 2 (by decide)), (I.2.2.2.2.2.2.2.2.2.2.2.2.2.2.2 i hi).2.wr W⟩⟩
theorem own_I.w3 {n0 : Nat} {Z : State} {h h' : Heap} {r : Addr} {N w : Nat} {A : Nat → Addr} {K : Nat → ClassId} {rows : Nat → Addr} {rc : Nat → Nat → Int64} {ls pr : Nat → Value} {wt ra ea : Nat → Int64} {st : Int64} {sl : Nat} {v : Value} {wt' : Nat → Int64} (I : own_I Z h r N w A K rows rc ls pr wt ra ea st) (D : own_D n0 r N A rows) (W : Wr h h' (A 3) sl v) (hV : own_L Z h' (A 3) (K 3) w wt') : own_I Z h' r N w A K rows rc ls pr wt' ra ea st :=
  ⟨I.1.wr W, I.2.1.other W (Or.inl (Ne.symm (D.2.1 3 (by decide)).2)), I.2.2.1.other W (Or.inl (Ne.symm (D.2.1 3 (by decide)).2)), I.2.2.2.1.other W (Or.inl (Ne.symm (D.2.1 3 (by decide)).2)), I.2.2.2.2.1.other W (Or.inl (Ne.symm (D.2.1 3 (by decide)).2)), I.2.2.2.2.2.1.other W (Or.inl (Ne.symm (D.2.1 3 (by decide)).2)), I.2.2.2.2.2.2.1.other W (Or.inl (Ne.symm (D.2.1 3 (by decide)).2)), I.2.2.2.2.2.2.2.1.other W (Or.inl (Ne.symm (D.2.1 3 (by decide)).2)), I.2.2.2.2.2.2.2.2.1.other W (Or.inl (Ne.symm (D.2.1 3 (by decide)).2)), I.2.2.2.2.2.2.2.2.2.1.other W (D.2.2.1 0 3 (by decide) (by decide) (by decide)), I.2.2.2.2.2.2.2.2.2.2.1.other W (D.2.2.1 1 3 (by decide) (by decide) (by decide)), I.2.2.2.2.2.2.2.2.2.2.2.1.other W (D.2.2.1 2 3 (by decide) (by decide) (by decide)), hV, I.2.2.2.2.2.2.2.2.2.2.2.2.2.1.other W (D.2.2.1 4 3 (by decide) (by decide) (by decide)), I.2.2.2.2.2.2.2.2.2.2.2.2.2.2.1.other W (D.2.2.1 5 3 (by decide) (by decide) (by decide)), fun i hi => ⟨(I.2.2.2.2.2.2.2.2.2.2.2.2.2.2.2 i hi).1.other W ((D.2.2.2.1 i hi).2.2 3 (by decide)), (I.2.2.2.2.2.2.2.2.2.2.2.2.2.2.2 i hi).2.wr W⟩⟩
theorem own_I.w4 {n0 : Nat} {Z : State} {h h' : Heap} {r : Addr} {N w : Nat} {A : Nat → Addr} {K : Nat → ClassId} {rows : Nat → Addr} {rc : Nat → Nat → Int64} {ls pr : Nat → Value} {wt ra ea : Nat → Int64} {st : Int64} {sl : Nat} {v : Value} {ra' : Nat → Int64} (I : own_I Z h r N w A K rows rc ls pr wt ra ea st) (D : own_D n0 r N A rows) (W : Wr h h' (A 4) sl v) (hV : own_L Z h' (A 4) (K 4) N ra') : own_I Z h' r N w A K rows rc ls pr wt ra' ea st :=
  ⟨I.1.wr W, I.2.1.other W (Or.inl (Ne.symm (D.2.1 4 (by decide)).2)), I.2.2.1.other W (Or.inl (Ne.symm (D.2.1 4 (by decide)).2)), I.2.2.2.1.other W (Or.inl (Ne.symm (D.2.1 4 (by decide)).2)), I.2.2.2.2.1.other W (Or.inl (Ne.symm (D.2.1 4 (by decide)).2)), I.2.2.2.2.2.1.other W (Or.inl (Ne.symm (D.2.1 4 (by decide)).2)), I.2.2.2.2.2.2.1.other W (Or.inl (Ne.symm (D.2.1 4 (by decide)).2)), I.2.2.2.2.2.2.2.1.other W (Or.inl (Ne.symm (D.2.1 4 (by decide)).2)), I.2.2.2.2.2.2.2.2.1.other W (Or.inl (Ne.symm (D.2.1 4 (by decide)).2)), I.2.2.2.2.2.2.2.2.2.1.other W (D.2.2.1 0 4 (by decide) (by decide) (by decide)), I.2.2.2.2.2.2.2.2.2.2.1.other W (D.2.2.1 1 4 (by decide) (by decide) (by decide)), I.2.2.2.2.2.2.2.2.2.2.2.1.other W (D.2.2.1 2 4 (by decide) (by decide) (by decide)), I.2.2.2.2.2.2.2.2.2.2.2.2.1.other W (D.2.2.1 3 4 (by decide) (by decide) (by decide)), hV, I.2.2.2.2.2.2.2.2.2.2.2.2.2.2.1.other W (D.2.2.1 5 4 (by decide) (by decide) (by decide)), fun i hi => ⟨(I.2.2.2.2.2.2.2.2.2.2.2.2.2.2.2 i hi).1.other W ((D.2.2.2.1 i hi).2.2 4 (by decide)), (I.2.2.2.2.2.2.2.2.2.2.2.2.2.2.2 i hi).2.wr W⟩⟩
theorem own_I.w5 {n0 : Nat} {Z : State} {h h' : Heap} {r : Addr} {N w : Nat} {A : Nat → Addr} {K : Nat → ClassId} {rows : Nat → Addr} {rc : Nat → Nat → Int64} {ls pr : Nat → Value} {wt ra ea : Nat → Int64} {st : Int64} {sl : Nat} {v : Value} {ea' : Nat → Int64} (I : own_I Z h r N w A K rows rc ls pr wt ra ea st) (D : own_D n0 r N A rows) (W : Wr h h' (A 5) sl v) (hV : own_L Z h' (A 5) (K 5) N ea') : own_I Z h' r N w A K rows rc ls pr wt ra ea' st :=
  ⟨I.1.wr W, I.2.1.other W (Or.inl (Ne.symm (D.2.1 5 (by decide)).2)), I.2.2.1.other W (Or.inl (Ne.symm (D.2.1 5 (by decide)).2)), I.2.2.2.1.other W (Or.inl (Ne.symm (D.2.1 5 (by decide)).2)), I.2.2.2.2.1.other W (Or.inl (Ne.symm (D.2.1 5 (by decide)).2)), I.2.2.2.2.2.1.other W (Or.inl (Ne.symm (D.2.1 5 (by decide)).2)), I.2.2.2.2.2.2.1.other W (Or.inl (Ne.symm (D.2.1 5 (by decide)).2)), I.2.2.2.2.2.2.2.1.other W (Or.inl (Ne.symm (D.2.1 5 (by decide)).2)), I.2.2.2.2.2.2.2.2.1.other W (Or.inl (Ne.symm (D.2.1 5 (by decide)).2)), I.2.2.2.2.2.2.2.2.2.1.other W (D.2.2.1 0 5 (by decide) (by decide) (by decide)), I.2.2.2.2.2.2.2.2.2.2.1.other W (D.2.2.1 1 5 (by decide) (by decide) (by decide)), I.2.2.2.2.2.2.2.2.2.2.2.1.other W (D.2.2.1 2 5 (by decide) (by decide) (by decide)), I.2.2.2.2.2.2.2.2.2.2.2.2.1.other W (D.2.2.1 3 5 (by decide) (by decide) (by decide)), I.2.2.2.2.2.2.2.2.2.2.2.2.2.1.other W (D.2.2.1 4 5 (by decide) (by decide) (by decide)), hV, fun i hi => ⟨(I.2.2.2.2.2.2.2.2.2.2.2.2.2.2.2 i hi).1.other W ((D.2.2.2.1 i hi).2.2 5 (by decide)), (I.2.2.2.2.2.2.2.2.2.2.2.2.2.2.2 i hi).2.wr W⟩⟩
theorem own_I.w0 {n0 : Nat} {Z : State} {h h' : Heap} {r : Addr} {N w : Nat} {A : Nat → Addr} {K : Nat → ClassId} {rows : Nat → Addr} {rc : Nat → Nat → Int64} {ls pr : Nat → Value} {wt ra ea : Nat → Int64} {st : Int64} {sl : Nat} {v : Value} {q : Nat} {nr : Addr} (I : own_I Z h r N w A K rows rc ls pr wt ra ea st) (D : own_D n0 r N A rows) (W : Wr h h' (A 0) sl v) (hV : own_V Z h' (A 0) (K 0) (.array .long) N (fun i => .ref (own_upd rows q nr i))) (hR : own_L Z h' nr (K 6) w (rc q) ∧ Exa Z h' nr "[J") : own_I Z h' r N w A K (own_upd rows q nr) rc ls pr wt ra ea st :=
  ⟨I.1.wr W, I.2.1.other W (Or.inl (Ne.symm (D.2.1 0 (by decide)).2)), I.2.2.1.other W (Or.inl (Ne.symm (D.2.1 0 (by decide)).2)), I.2.2.2.1.other W (Or.inl (Ne.symm (D.2.1 0 (by decide)).2)), I.2.2.2.2.1.other W (Or.inl (Ne.symm (D.2.1 0 (by decide)).2)), I.2.2.2.2.2.1.other W (Or.inl (Ne.symm (D.2.1 0 (by decide)).2)), I.2.2.2.2.2.2.1.other W (Or.inl (Ne.symm (D.2.1 0 (by decide)).2)), I.2.2.2.2.2.2.2.1.other W (Or.inl (Ne.symm (D.2.1 0 (by decide)).2)), I.2.2.2.2.2.2.2.2.1.other W (Or.inl (Ne.symm (D.2.1 0 (by decide)).2)), hV, I.2.2.2.2.2.2.2.2.2.2.1.other W (D.2.2.1 1 0 (by decide) (by decide) (by decide)), I.2.2.2.2.2.2.2.2.2.2.2.1.other W (D.2.2.1 2 0 (by decide) (by decide) (by decide)), I.2.2.2.2.2.2.2.2.2.2.2.2.1.other W (D.2.2.1 3 0 (by decide) (by decide) (by decide)), I.2.2.2.2.2.2.2.2.2.2.2.2.2.1.other W (D.2.2.1 4 0 (by decide) (by decide) (by decide)), I.2.2.2.2.2.2.2.2.2.2.2.2.2.2.1.other W (D.2.2.1 5 0 (by decide) (by decide) (by decide)), fun i hi => by
    by_cases e : i = q
    · subst e; rw [own_upd_hit]; exact hR
    · rw [own_upd_miss _ _ e]; exact ⟨(I.2.2.2.2.2.2.2.2.2.2.2.2.2.2.2 i hi).1.other W ((D.2.2.2.1 i hi).2.2 0 (by decide)), (I.2.2.2.2.2.2.2.2.2.2.2.2.2.2.2 i hi).2.wr W⟩⟩
theorem own_I.wr {n0 : Nat} {Z : State} {h h' : Heap} {r : Addr} {N w : Nat} {A : Nat → Addr} {K : Nat → ClassId} {rows : Nat → Addr} {rc : Nat → Nat → Int64} {ls pr : Nat → Value} {wt ra ea : Nat → Int64} {st : Int64} {sl : Nat} {v : Value} {q : Nat} {f : Nat → Int64} (hq : q < N) (I : own_I Z h r N w A K rows rc ls pr wt ra ea st) (D : own_D n0 r N A rows) (W : Wr h h' (rows q) sl v) (hV : own_L Z h' (rows q) (K 6) w f) : own_I Z h' r N w A K rows (own_upd rc q f) ls pr wt ra ea st :=
  ⟨I.1.wr W, I.2.1.other W (Or.inl (Ne.symm (D.2.2.2.1 q hq).2.1)), I.2.2.1.other W (Or.inl (Ne.symm (D.2.2.2.1 q hq).2.1)), I.2.2.2.1.other W (Or.inl (Ne.symm (D.2.2.2.1 q hq).2.1)), I.2.2.2.2.1.other W (Or.inl (Ne.symm (D.2.2.2.1 q hq).2.1)), I.2.2.2.2.2.1.other W (Or.inl (Ne.symm (D.2.2.2.1 q hq).2.1)), I.2.2.2.2.2.2.1.other W (Or.inl (Ne.symm (D.2.2.2.1 q hq).2.1)), I.2.2.2.2.2.2.2.1.other W (Or.inl (Ne.symm (D.2.2.2.1 q hq).2.1)), I.2.2.2.2.2.2.2.2.1.other W (Or.inl (Ne.symm (D.2.2.2.1 q hq).2.1)), I.2.2.2.2.2.2.2.2.2.1.other W (Ne.symm ((D.2.2.2.1 q hq).2.2 0 (by decide))), I.2.2.2.2.2.2.2.2.2.2.1.other W (Ne.symm ((D.2.2.2.1 q hq).2.2 1 (by decide))), I.2.2.2.2.2.2.2.2.2.2.2.1.other W (Ne.symm ((D.2.2.2.1 q hq).2.2 2 (by decide))), I.2.2.2.2.2.2.2.2.2.2.2.2.1.other W (Ne.symm ((D.2.2.2.1 q hq).2.2 3 (by decide))), I.2.2.2.2.2.2.2.2.2.2.2.2.2.1.other W (Ne.symm ((D.2.2.2.1 q hq).2.2 4 (by decide))), I.2.2.2.2.2.2.2.2.2.2.2.2.2.2.1.other W (Ne.symm ((D.2.2.2.1 q hq).2.2 5 (by decide))), fun i hi => by
    by_cases e : i = q
    · subst e; rw [own_upd_hit]; exact ⟨hV, (I.2.2.2.2.2.2.2.2.2.2.2.2.2.2.2 i hi).2.wr W⟩
    · rw [own_upd_miss _ _ e]; exact ⟨(I.2.2.2.2.2.2.2.2.2.2.2.2.2.2.2 i hi).1.other W (D.2.2.2.2 i q hi hq e), (I.2.2.2.2.2.2.2.2.2.2.2.2.2.2.2 i hi).2.wr W⟩⟩
theorem own_I.ext {Z : State} {h h' : Heap} {r : Addr} {N w : Nat} {A : Nat → Addr} {K : Nat → ClassId} {rows : Nat → Addr} {rc : Nat → Nat → Int64} {ls pr : Nat → Value} {wt ra ea : Nat → Int64} {st : Int64} (E : Ext h h') (I : own_I Z h r N w A K rows rc ls pr wt ra ea st) : own_I Z h' r N w A K rows rc ls pr wt ra ea st :=
  ⟨I.1.ext E, I.2.1.ext E, I.2.2.1.ext E, I.2.2.2.1.ext E, I.2.2.2.2.1.ext E, I.2.2.2.2.2.1.ext E, I.2.2.2.2.2.2.1.ext E, I.2.2.2.2.2.2.2.1.ext E, I.2.2.2.2.2.2.2.2.1.ext E, I.2.2.2.2.2.2.2.2.2.1.ext E, I.2.2.2.2.2.2.2.2.2.2.1.ext E, I.2.2.2.2.2.2.2.2.2.2.2.1.ext E, I.2.2.2.2.2.2.2.2.2.2.2.2.1.ext E, I.2.2.2.2.2.2.2.2.2.2.2.2.2.1.ext E, I.2.2.2.2.2.2.2.2.2.2.2.2.2.2.1.ext E, fun i hi => ⟨(I.2.2.2.2.2.2.2.2.2.2.2.2.2.2.2 i hi).1.ext E, (I.2.2.2.2.2.2.2.2.2.2.2.2.2.2.2 i hi).2.ext E⟩⟩
theorem own_I.wst {n0 : Nat} {Z : State} {h h' : Heap} {r : Addr} {N w : Nat} {A : Nat → Addr} {K : Nat → ClassId} {rows : Nat → Addr} {rc : Nat → Nat → Int64} {ls pr : Nat → Value} {wt ra ea : Nat → Int64} {st : Int64} {st' : Int64} (hs : ∀ n d, (n, d) ∈ [("size", "I"), ("follows", "[[J"), ("lastSent", "[Lcom/example/greylag/greylag/sim/RequestOrder$Knowledge;"), ("precedents", "[[J"), ("waiting", "[J"), ("requestedAt", "[J"), ("enteredAt", "[J")] → Jvm.RoadKit.slotOf Z "com/example/greylag/greylag/sim/RequestOrder" n d ≠ Jvm.RoadKit.slotOf Z "com/example/greylag/greylag/sim/RequestOrder" "stamp" "J") (I : own_I Z h r N w A K rows rc ls pr wt ra ea st) (D : own_D n0 r N A rows) (W : Wr h h' r (Jvm.RoadKit.slotOf Z "com/example/greylag/greylag/sim/RequestOrder" "stamp" "J") (.long st')) : own_I Z h' r N w A K rows rc ls pr wt ra ea st' :=
  ⟨I.1.wr W, I.2.1.other W (Or.inr (hs _ _ (List.mem_of_getElem? (i := 0) rfl))), I.2.2.1.other W (Or.inr (hs _ _ (List.mem_of_getElem? (i := 1) rfl))), I.2.2.2.1.other W (Or.inr (hs _ _ (List.mem_of_getElem? (i := 2) rfl))), I.2.2.2.2.1.other W (Or.inr (hs _ _ (List.mem_of_getElem? (i := 3) rfl))), I.2.2.2.2.2.1.other W (Or.inr (hs _ _ (List.mem_of_getElem? (i := 4) rfl))), I.2.2.2.2.2.2.1.other W (Or.inr (hs _ _ (List.mem_of_getElem? (i := 5) rfl))), I.2.2.2.2.2.2.2.1.other W (Or.inr (hs _ _ (List.mem_of_getElem? (i := 6) rfl))), I.2.2.2.2.2.2.2.2.1.same W, I.2.2.2.2.2.2.2.2.2.1.other W (D.2.1 0 (by decide)).2, I.2.2.2.2.2.2.2.2.2.2.1.other W (D.2.1 1 (by decide)).2, I.2.2.2.2.2.2.2.2.2.2.2.1.other W (D.2.1 2 (by decide)).2, I.2.2.2.2.2.2.2.2.2.2.2.2.1.other W (D.2.1 3 (by decide)).2, I.2.2.2.2.2.2.2.2.2.2.2.2.2.1.other W (D.2.1 4 (by decide)).2, I.2.2.2.2.2.2.2.2.2.2.2.2.2.2.1.other W (D.2.1 5 (by decide)).2, fun i hi => ⟨(I.2.2.2.2.2.2.2.2.2.2.2.2.2.2.2 i hi).1.other W (D.2.2.2.1 i hi).2.1, (I.2.2.2.2.2.2.2.2.2.2.2.2.2.2.2 i hi).2.wr W⟩⟩

def own_ws (r : Addr) (N : Nat) (A : Nat → Addr) (rows : Nat → Addr) : List Addr := r :: A 0 :: A 1 :: A 2 :: A 3 :: A 4 :: A 5 :: (List.range N).map rows
section OwnWs
variable {r x : Addr} {N : Nat} {A : Nat → Addr} {rows : Nat → Addr}
theorem own_ws_r : r ∈ own_ws r N A rows := List.mem_of_getElem? (i := 0) rfl
theorem own_ws_A {j : Nat} (h : j < 6) : A j ∈ own_ws r N A rows := by
  match j, h with
  | 0, _ => exact List.mem_of_getElem? (i := 1) rfl
  | 1, _ => exact List.mem_of_getElem? (i := 2) rfl
  | 2, _ => exact List.mem_of_getElem? (i := 3) rfl
  | 3, _ => exact List.mem_of_getElem? (i := 4) rfl
  | 4, _ => exact List.mem_of_getElem? (i := 5) rfl
  | 5, _ => exact List.mem_of_getElem? (i := 6) rfl
theorem own_ws_row {i : Nat} (h : i < N) : rows i ∈ own_ws r N A rows := by
  unfold own_ws
  simp only [List.mem_cons, List.mem_map, List.mem_range]
  exact Or.inr (Or.inr (Or.inr (Or.inr (Or.inr (Or.inr (Or.inr ⟨i, h, rfl⟩))))))
theorem own_ws_all {P : Addr → Prop} (h1 : P r) (h2 : ∀ j, j < 6 → P (A j)) (h3 : ∀ i, i < N → P (rows i)) : ∀ y ∈ own_ws r N A rows, P y := fun y hy => by
  unfold own_ws at hy
  simp only [List.mem_cons, List.mem_map, List.mem_range] at hy
  rcases hy with rfl | rfl | rfl | rfl | rfl | rfl | rfl | ⟨i, hi, rfl⟩
  · exact h1
  · exact h2 0 (by decide)
  · exact h2 1 (by decide)
  · exact h2 2 (by decide)
  · exact h2 3 (by decide)
  · exact h2 4 (by decide)
  · exact h2 5 (by decide)
  · exact h3 i hi
theorem own_ws_not (h1 : x ≠ r) (h2 : ∀ j, j < 6 → x ≠ A j) (h3 : ∀ i, i < N → x ≠ rows i) : x ∉ own_ws r N A rows := fun hx => (own_ws_all (P := fun y => x ≠ y) h1 h2 h3 x hx) rfl
theorem own_nr (h : x ∉ own_ws r N A rows) : x ≠ r := fun e => h (e ▸ own_ws_r)
theorem own_nA (h : x ∉ own_ws r N A rows) {j : Nat} (hj : j < 6) : x ≠ A j := fun e => h (e ▸ own_ws_A hj)
theorem own_nrow (h : x ∉ own_ws r N A rows) {i : Nat} (hi : i < N) : x ≠ rows i := fun e => h (e ▸ own_ws_row hi)
theorem own_ws_upd {q : Nat} {nr : Addr} (h : x ∉ own_ws r N A rows) (hn : x ≠ nr) : x ∉ own_ws r N A (own_upd rows q nr) := own_ws_not (own_nr h) (fun j hj => own_nA h hj) fun i hi => by
  by_cases e : i = q
  · subst e; rw [own_upd_hit]; exact hn
  · rw [own_upd_miss _ _ e]; exact own_nrow h hi
theorem own_D.all {n0 : Nat} (D : own_D n0 r N A rows) : ∀ y ∈ own_ws r N A rows, n0 ≤ y := own_ws_all D.1 (fun j h => (D.2.1 j h).1) fun i h => (D.2.2.2.1 i h).1
theorem own_D.upd {n0 q : Nat} {nr : Addr} (D : own_D n0 r N A rows) (h1 : n0 ≤ nr) (h2 : nr ∉ own_ws r N A rows) : own_D n0 r N A (own_upd rows q nr) := by
  refine ⟨D.1, D.2.1, D.2.2.1, fun i hi => ?_, fun i i' hi hi' ne => ?_⟩
  · by_cases e : i = q
    · subst e; rw [own_upd_hit]; exact ⟨h1, own_nr h2, fun j hj => own_nA h2 hj⟩
    · rw [own_upd_miss _ _ e]; exact D.2.2.2.1 i hi
  · by_cases e : i = q
    · subst e; rw [own_upd_hit, own_upd_miss _ _ (Ne.symm ne)]; exact own_nrow h2 hi'
    · rw [own_upd_miss _ _ e]
      by_cases e' : i' = q
      · subst e'; rw [own_upd_hit]; exact Ne.symm (own_nrow h2 hi)
      · rw [own_upd_miss _ _ e']; exact D.2.2.2.2 i i' hi hi' ne
end OwnWs
theorem own_I.below {Z : State} {h : Heap} {r : Addr} {N w : Nat} {A : Nat → Addr} {K : Nat → ClassId} {rows : Nat → Addr} {rc : Nat → Nat → Int64} {ls pr : Nat → Value} {wt ra ea : Nat → Int64} {st : Int64} (I : own_I Z h r N w A K rows rc ls pr wt ra ea st) : ∀ y ∈ own_ws r N A rows, y < h.size := own_ws_all I.1.lt (fun j hj => by
  match j, hj with
  | 0, _ => exact I.2.2.2.2.2.2.2.2.2.1.lt
  | 1, _ => exact I.2.2.2.2.2.2.2.2.2.2.1.lt
  | 2, _ => exact I.2.2.2.2.2.2.2.2.2.2.2.1.lt
  | 3, _ => exact I.2.2.2.2.2.2.2.2.2.2.2.2.1.lt
  | 4, _ => exact I.2.2.2.2.2.2.2.2.2.2.2.2.2.1.lt
  | 5, _ => exact I.2.2.2.2.2.2.2.2.2.2.2.2.2.2.1.lt) fun i hi => (I.2.2.2.2.2.2.2.2.2.2.2.2.2.2.2 i hi).1.lt
theorem own_I.out {Z : State} {h : Heap} {r : Addr} {N w : Nat} {A : Nat → Addr} {K : Nat → ClassId} {rows : Nat → Addr} {rc : Nat → Nat → Int64} {ls pr : Nat → Value} {wt ra ea : Nat → Int64} {st : Int64} {x : Addr} (I : own_I Z h r N w A K rows rc ls pr wt ra ea st) (hb : h.size ≤ x) : x ∉ own_ws r N A rows := fun hx => absurd (I.below x hx) (Nat.not_lt.mpr hb)
theorem own_I.wo {Z : State} {h h' : Heap} {r : Addr} {N w : Nat} {A : Nat → Addr} {K : Nat → ClassId} {rows : Nat → Addr} {rc : Nat → Nat → Int64} {ls pr : Nat → Value} {wt ra ea : Nat → Int64} {st : Int64} {sl : Nat} {v : Value} {x : Addr} (I : own_I Z h r N w A K rows rc ls pr wt ra ea st) (W : Wr h h' x sl v) (hb : x ∉ own_ws r N A rows) : own_I Z h' r N w A K rows rc ls pr wt ra ea st :=
  ⟨I.1.wr W, I.2.1.other W (Or.inl (Ne.symm (own_nr hb))), I.2.2.1.other W (Or.inl (Ne.symm (own_nr hb))), I.2.2.2.1.other W (Or.inl (Ne.symm (own_nr hb))), I.2.2.2.2.1.other W (Or.inl (Ne.symm (own_nr hb))), I.2.2.2.2.2.1.other W (Or.inl (Ne.symm (own_nr hb))), I.2.2.2.2.2.2.1.other W (Or.inl (Ne.symm (own_nr hb))), I.2.2.2.2.2.2.2.1.other W (Or.inl (Ne.symm (own_nr hb))), I.2.2.2.2.2.2.2.2.1.other W (Or.inl (Ne.symm (own_nr hb))), I.2.2.2.2.2.2.2.2.2.1.other W (Ne.symm (own_nA hb (by decide : 0 < 6))), I.2.2.2.2.2.2.2.2.2.2.1.other W (Ne.symm (own_nA hb (by decide : 1 < 6))), I.2.2.2.2.2.2.2.2.2.2.2.1.other W (Ne.symm (own_nA hb (by decide : 2 < 6))), I.2.2.2.2.2.2.2.2.2.2.2.2.1.other W (Ne.symm (own_nA hb (by decide : 3 < 6))), I.2.2.2.2.2.2.2.2.2.2.2.2.2.1.other W (Ne.symm (own_nA hb (by decide : 4 < 6))), I.2.2.2.2.2.2.2.2.2.2.2.2.2.2.1.other W (Ne.symm (own_nA hb (by decide : 5 < 6))), fun i hi => ⟨(I.2.2.2.2.2.2.2.2.2.2.2.2.2.2.2 i hi).1.other W (Ne.symm (own_nrow hb hi)), (I.2.2.2.2.2.2.2.2.2.2.2.2.2.2.2 i hi).2.wr W⟩⟩

theorem own_I.wrC {n0 : Nat} {Z : State} {h h' : Heap} {r : Addr} {N w : Nat} {A : Nat → Addr} {K : Nat → ClassId} {rows : Nat → Addr} {rc : Nat → Nat → Int64} {ls pr : Nat → Value} {wt ra ea : Nat → Int64} {st : Int64} {sl : Nat} {v : Value} {q : Nat} {nr : Addr} {f : Nat → Int64} (hq : q < N) (I : own_I Z h r N w A K (own_upd rows q nr) rc ls pr wt ra ea st) (D : own_D n0 r N A (own_upd rows q nr)) (W : Wr h h' nr sl v) (hV : own_L Z h' nr (K 6) w f) : own_I Z h' r N w A K (own_upd rows q nr) (own_upd rc q f) ls pr wt ra ea st := by
  have e : own_upd rows q nr q = nr := own_upd_hit _ _ _
  exact own_I.wr hq I D (e.symm ▸ W) (e.symm ▸ hV)
theorem own_I.kp {Z : State} {h h' : Heap} {r : Addr} {N w : Nat} {A : Nat → Addr} {K : Nat → ClassId} {rows : Nat → Addr} {rc : Nat → Nat → Int64} {ls pr : Nat → Value} {wt ra ea : Nat → Int64} {st : Int64} {us : List Addr} (I : own_I Z h r N w A K rows rc ls pr wt ra ea st) (Kp : Keep h h' us) (hd : ∀ y ∈ own_ws r N A rows, y ∉ us) : own_I Z h' r N w A K rows rc ls pr wt ra ea st :=
  ⟨I.1.keep Kp, I.2.1.keep Kp (hd _ own_ws_r), I.2.2.1.keep Kp (hd _ own_ws_r), I.2.2.2.1.keep Kp (hd _ own_ws_r), I.2.2.2.2.1.keep Kp (hd _ own_ws_r), I.2.2.2.2.2.1.keep Kp (hd _ own_ws_r), I.2.2.2.2.2.2.1.keep Kp (hd _ own_ws_r), I.2.2.2.2.2.2.2.1.keep Kp (hd _ own_ws_r), I.2.2.2.2.2.2.2.2.1.keep Kp (hd _ own_ws_r), own_A.keep I.2.2.2.2.2.2.2.2.2.1 Kp (hd _ (own_ws_A (by decide))), own_A.keep I.2.2.2.2.2.2.2.2.2.2.1 Kp (hd _ (own_ws_A (by decide))), own_A.keep I.2.2.2.2.2.2.2.2.2.2.2.1 Kp (hd _ (own_ws_A (by decide))), own_A.keep I.2.2.2.2.2.2.2.2.2.2.2.2.1 Kp (hd _ (own_ws_A (by decide))), own_A.keep I.2.2.2.2.2.2.2.2.2.2.2.2.2.1 Kp (hd _ (own_ws_A (by decide))), own_A.keep I.2.2.2.2.2.2.2.2.2.2.2.2.2.2.1 Kp (hd _ (own_ws_A (by decide))), fun i hi => ⟨(I.2.2.2.2.2.2.2.2.2.2.2.2.2.2.2 i hi).1.keep Kp (hd _ (own_ws_row hi)), (I.2.2.2.2.2.2.2.2.2.2.2.2.2.2.2 i hi).2.keep Kp⟩⟩

def own_has (f : Nat → Int64) (q : Nat) : Int32 := if f (q / 64) &&& own_B q = 0 then 0 else 1
def own_rcI (rc : Nat → Nat → Int64) (q i : Nat) (j : Nat) : Nat → Int64 := if j < i ∧ j ≠ q then own_clr (rc j) q else rc j
theorem own_rcI_at {rc : Nat → Nat → Int64} {q i : Nat} : own_rcI rc q i i = rc i := if_neg (by omega)
theorem own_rcI_q {rc : Nat → Nat → Int64} {q i : Nat} : own_rcI rc q i q = rc q := if_neg (by omega)
theorem own_rcI_0 {rc : Nat → Nat → Int64} {q : Nat} : own_rcI rc q 0 = rc := funext fun j => if_neg (by omega)
theorem own_rcI_skip {rc : Nat → Nat → Int64} {q i : Nat} (h : i = q) : own_rcI rc q i = own_rcI rc q (i + 1) := by
  funext j; unfold own_rcI
  by_cases a : j < i ∧ j ≠ q
  · rw [if_pos a, if_pos ⟨by omega, a.2⟩]
  · rw [if_neg a, if_neg (by omega)]
theorem own_rcI_none {rc : Nat → Nat → Int64} {q i : Nat} (h : own_has (rc i) q = 0) : own_rcI rc q i = own_rcI rc q (i + 1) := by
  have hz : rc i (q / 64) &&& own_B q = 0 := by
    unfold own_has at h
    by_cases z : rc i (q / 64) &&& own_B q = 0
    · exact z
    · rw [if_neg z] at h; exact absurd h (by decide)
  funext j; unfold own_rcI
  by_cases a : j < i ∧ j ≠ q
  · rw [if_pos a, if_pos ⟨by omega, a.2⟩]
  · rw [if_neg a]
    by_cases b : j < i + 1 ∧ j ≠ q
    · have : j = i := by omega
      subst this
      rw [if_pos b, own_clr_id' hz]
    · rw [if_neg b]
theorem own_clr_eq (f : Nat → Int64) (q : Nat) : own_upd f (q / 64) (f (q / 64) &&& (own_B q ^^^ (-1))) = own_clr f q := by
  funext x; unfold own_upd own_clr
  by_cases e : x = q / 64
  · subst e; rw [if_pos rfl]
  · rw [if_neg e, if_neg e]
theorem own_or_eq (f : Nat → Int64) (q : Nat) : own_upd f (q / 64) (f (q / 64) ||| own_B q) = own_or f q := by
  funext x; unfold own_upd own_or
  by_cases e : x = q / 64
  · subst e; rw [if_pos rfl]
  · rw [if_neg e, if_neg e]
theorem own_rcI_clr {rc : Nat → Nat → Int64} {q i : Nat} (hi : ¬ i = q) : own_upd (own_rcI rc q i) i (own_upd (own_rcI rc q i i) (q / 64) (own_rcI rc q i i (q / 64) &&& (own_B q ^^^ (-1)))) = own_rcI rc q (i + 1) := by
  rw [own_rcI_at, own_clr_eq]
  funext j
  by_cases e : j = i
  · subst e; rw [own_upd_hit]; exact (if_pos ⟨by omega, hi⟩).symm
  · rw [own_upd_miss _ _ e]; unfold own_rcI
    by_cases a : j < i ∧ j ≠ q
    · rw [if_pos a, if_pos ⟨by omega, a.2⟩]
    · rw [if_neg a, if_neg (by omega)]
def own_pj (f g : Nat → Int64) (j x : Nat) : Int64 := if x < j then f x &&& g x else 0
theorem own_pj_0 (f g : Nat → Int64) : own_pj f g 0 = fun _ => 0 := funext fun x => if_neg (Nat.not_lt_zero _)
theorem own_pj_s (f g : Nat → Int64) (j : Nat) : own_upd (own_pj f g j) j (f j &&& g j) = own_pj f g (j + 1) := by
  funext x; unfold own_upd own_pj
  by_cases e : x = j
  · subst e; rw [if_pos rfl, if_pos (by omega)]
  · rw [if_neg e]
    by_cases a : x < j
    · rw [if_pos a, if_pos (by omega)]
    · rw [if_neg a, if_neg (by omega)]

theorem own_L0 {Z : State} {h : Heap} {a : Addr} {k : ClassId} {n : Nat} (F : own_A Z h a k .long (List.replicate n (.long 0))) : own_L Z h a k n (fun _ => 0) := F.eqs (by
  apply List.ext_getElem?
  intro i
  rw [List.getElem?_replicate, List.getElem?_map]
  rcases Nat.lt_or_ge i n with q | q
  · rw [if_pos q, List.getElem?_range q]; rfl
  · rw [if_neg (by omega), List.getElem?_eq_none (by simpa using q)]; rfl)
theorem own_V0 {Z : State} {h : Heap} {a : Addr} {k : ClassId} {ty : FieldType} {n : Nat} (F : own_A Z h a k ty (List.replicate n .null)) : own_V Z h a k ty n (fun _ => .null) := F.eqs (by
  apply List.ext_getElem?
  intro i
  rw [List.getElem?_replicate, List.getElem?_map]
  rcases Nat.lt_or_ge i n with q | q
  · rw [if_pos q, List.getElem?_range q]; rfl
  · rw [if_neg (by omega), List.getElem?_eq_none (by simpa using q)]; rfl)
theorem own_L.eqf {Z : State} {h : Heap} {a : Addr} {k : ClassId} {n : Nat} {f g : Nat → Int64} (F : own_L Z h a k n f) (q : ∀ j, j < n → f j = g j) : own_L Z h a k n g := own_A.eqs F (List.map_congr_left fun j hj => by rw [q j (List.mem_range.mp hj)])
theorem own_zero_and (x : Int64) : (0 : Int64) &&& x = 0 := by apply Int64.toBitVec_inj.mp; simp
theorem own_and_zero (x : Int64) : x &&& (0 : Int64) = 0 := by apply Int64.toBitVec_inj.mp; simp
theorem own_and_ones (x : Int64) : x &&& ((0 : Int64) ^^^ (-1)) = x := own_clr_id (own_and_zero x)
theorem own_zero_or (x : Int64) : (0 : Int64) ||| x = x := by apply Int64.toBitVec_inj.mp; simp
theorem own_or_self (x : Int64) : x ||| x = x := by apply Int64.toBitVec_inj.mp; simp
theorem own_one_hit {q : Nat} : own_one q (q / 64) = own_B q := if_pos rfl
theorem own_one_miss {q j : Nat} (h : ¬ j = q / 64) : own_one q j = 0 := if_neg h
theorem own_bits1 {q j : Nat} {g : Int64} (e : j = q / 64) (hz : g = 0) : own_one q j &&& (g ^^^ (-1)) = own_B q := by subst e hz; rw [own_one_hit, own_and_ones]
theorem own_bits0 {q j : Nat} {g : Int64} (e : ¬ j = q / 64) : own_one q j &&& (g ^^^ (-1)) = 0 := by rw [own_one_miss e, own_zero_and]
theorem own_one_eq {f : Nat → Int64} {q : Nat} (h : ∀ j, f j = 0) : own_upd f (q / 64) (f (q / 64) ||| own_B q) = own_one q := by
  funext x; unfold own_upd own_one
  by_cases e : x = q / 64
  · rw [if_pos e, if_pos e, h, own_zero_or]
  · rw [if_neg e, if_neg e, h]


section OwnMore
theorem own_dup2 {tb : Tables} [Ours tb] {e : Env} {below : List Frame} {T target : State} {m : MethodId} {c : Code} {g : JFrame} (h : At T m c below) (hx : tb.exec = Jvm.exec) (hg : g.method = m) {x y : Value} {rest : List Value} (hd : decode c.code g.pc = .ok (.dup2, 1)) (hs : g.stack = x :: y :: rest) (hc : x.category = 1) (hc' : y.category = 1)
    (hr : Steps tb e below (T.setTop { g with pc := g.pc + 1, stack := x :: y :: x :: y :: rest }) target) : Steps tb e below (T.setTop g) target := by
  subst hg
  jvm_step h [h.top, hx, hd, hs, hc, hc']
  exact hr
variable {p : Program} {l : Launch} {e : Env} {R : Room} {s : State} {m : MethodId} {args : Array Value} {below : List Frame} {meth : Method} {c : Code} {T : State} {locs : List Loc} {cells slots : Nat} {Z : State} {h h' : Heap} {a : Addr} {k : ClassId} {ty : FieldType} {vs : List Value} {a0 : Array Value}
theorem own_specialR (X : Stand p l e R s m args below meth c T locs cells slots) (hexec : p.tables.exec = Jvm.exec) (hZ : Z.Warmed39 s.vm) {own : String} {index : Nat} {y : MethodName} (hy1 : y.name = "<init>") (hown : s.vm.findClass own = some m.cls) (hlink : (Cond.methodRef own index y).before a0 Z = true) (hinst : (Cond.instanceMethod y).before args s = true)
    {bytes : ByteArray} {maxL : Nat} (hcode : (Cond.code y bytes maxL none).before args s = true) (hy : y.cls ≠ "java/lang/invoke/MethodHandle" ∧ y.cls ≠ "java/lang/invoke/VarHandle")
    {W : Nat} {Pre : Pt → Array Value → Prop} {Post : Pt → Array Value → Option Value → Pt → Prop} (hK : Back l R p e below s args y 3 W Pre Post)
    {g : JFrame} (hg : g.method = m) (hsize : g.locals.size = c.maxLocals) {s₀ : State} (hcome : Steps p.tables e below s₀ (T.setTop g)) {a : Addr} {argsL rest : List Value}
    (hlen : ∀ sig, parseMethodDescriptor y.desc = some sig → argsL.length = sig.parameters.length) (hstack : g.stack = argsL.reverse ++ .ref a :: rest) (hW : 2 * g.monitorRoom + (rest.map fun v => v.category).sum ≤ W)
    (hdg : decode c.code g.pc = .ok (.invokespecial index, 3)) (hpre : ∀ vm₁, s.WarmedH vm₁ → Pre ⟨T.setVm vm₁, locs, cells, slots⟩ (.ref a :: argsL).toArray) :
    ∃ (v : Option Value) (vm₁ : Vm) (B : Pt), s.WarmedH vm₁ ∧ Stand p l e R s m args below meth c B.U B.locs B.cells B.slots ∧ Post ⟨T.setVm vm₁, locs, cells, slots⟩ (.ref a :: argsL).toArray v B ∧
      Steps p.tables e below s₀ (B.U.setTop { g with pc := g.pc + 3, stack := v.toList ++ rest }) := by
  refine Jvm.Free.SCall.of_ready hexec hy1 hinst hcode (fun U r hU hn => ?_) X hK hg hsize hcome hlen hstack hW hdg hpre
  have hUZ : Z.Warmed39 U.vm := wtrans hZ hU
  have hns : (Z.setVm s.vm).methodNamed? y = Z.methodNamed? y := State.methodNamed?_setVm hZ.alike y
  have hnZ : Z.methodNamed? y = some r := hns.symm.trans hn
  have w := Cond.methodRef_warmed39 (args := a0) hUZ hnZ hy hlink
  have hc : (Z.setVm U.vm).vm.findClass own = some m.cls := by
    show U.vm.findClass own = _
    rw [hU.alike.findClass]; exact hown
  obtain ⟨mm, c', h1, h2, h3, h4⟩ := Cond.methodRef_named e hc w
  have hnU : (Z.setVm U.vm).methodNamed? y = some r := by rw [State.methodNamed?_setVm hUZ.alike]; exact hnZ
  cases (State.methodFound?_of_named hnU hy).symm.trans h1
  have e1 : c' = r.cls := Option.some.inj (h3.symm.trans (findClass_of_methodNamed hnU))
  subst e1
  exact ⟨h4, h2⟩
theorem own_newPE (X : Stand p l e R s m args below meth c T locs cells slots) (hx : p.tables.exec = Jvm.exec) (hZ : Z.Warmed39 s.vm) {aty : ArrayType} (w : (Cond.arrayClass (newarray.typeOf aty)).before a0 Z = true) (eT : T.heap = h) {g : JFrame} (hg : g.method = m) (hd : decode c.code g.pc = .ok (.newarray aty, 2)) {n : Int32} {rest : List Value} (hs : g.stack = .int n :: rest)
    {i : Nat} (hn : n.toInt = (i : Int)) {cap : Nat} (hcap : i ≤ cap) (hb : cap * 8 ≤ 536870912) (hc : cells + 1 ≤ R.cells) (hl : slots + cap ≤ R.slots) {ad : String} (had : "[" ++ (newarray.typeOf aty).toString = ad) :
    ∃ T' h' cA, Stand p l e R s m args below meth c T' locs (cells + 1) (slots + cap) ∧ T'.heap = h' ∧ Ext h h' ∧ own_A Z h' h.size cA (newarray.typeOf aty) (List.replicate i (defaultValue (newarray.typeOf aty))) ∧ Exa Z h' h.size ad ∧
      ∀ target, Steps p.tables e below (T'.setTop { g with pc := g.pc + 2, stack := .ref h.size :: rest }) target → Steps p.tables e below (T.setTop g) target := by
  have hn' : ¬ n < 0 := by rw [Int32.lt_iff_toInt_lt, hn]; simp
  obtain ⟨T', h', cA, X', e', E, A, EX, st⟩ := newPE X hx hZ w eT hg hd hs hn' (cap := cap) (by show n.toInt.toNat ≤ cap; omega) hb hc hl had
  exact ⟨T', h', cA, X', e', E, own_A.of_new hn (by cases aty <;> rfl) A, EX, st⟩
theorem own_newRA (X : Stand p l e R s m args below meth c T locs cells slots) (hx : p.tables.exec = Jvm.exec) (hZ : Z.Warmed39 s.vm) {own C : String} {ty : FieldType} {index : Nat} (hown : s.vm.findClass own = some m.cls) (hC : (FieldType.array ty).toString = C) (w1 : (Cond.classLink own index C).before a0 Z = true) (w2 : (Cond.arrayOver (.array ty)).before a0 Z = true)
    (eT : T.heap = h) {g : JFrame} (hg : g.method = m) (hd : decode c.code g.pc = .ok (.anewarray index, 3)) {n : Int32} {rest : List Value} (hs : g.stack = .int n :: rest) {i : Nat} (hn : n.toInt = (i : Int)) {cap : Nat} (hcap : i ≤ cap) (hb : cap * 8 ≤ 536870912) (hc : cells + 1 ≤ R.cells) (hl : slots + cap ≤ R.slots) {ad : String} (had : "[" ++ C = ad) :
    ∃ T' h' cA, Stand p l e R s m args below meth c T' locs (cells + 1) (slots + cap) ∧ T'.heap = h' ∧ Ext h h' ∧ own_A Z h' h.size cA (.array ty) (List.replicate i .null) ∧ OvrA Z cA ty C ∧
      ∀ target, Steps p.tables e below (T'.setTop { g with pc := g.pc + 3, stack := .ref h.size :: rest }) target → Steps p.tables e below (T.setTop g) target := by
  have hn' : ¬ n < 0 := by rw [Int32.lt_iff_toInt_lt, hn]; simp
  obtain ⟨T', h', cA, X', e', E, A, -, O, st⟩ := newRA X hx hZ hown hC w1 w2 eT hg hd hs hn' (cap := cap) (by show n.toInt.toNat ≤ cap; omega) hb hc hl had
  exact ⟨T', h', cA, X', e', E, own_A.of_new hn rfl A, O, st⟩
theorem own_stoA {C : String} {t0 : FieldType} {v : Value} (O : OvrA Z k t0 C) (I : v = .null ∨ ∃ y, v = .ref y ∧ Ins Z h y C true) : ∀ cl : Cell, Arr Z h a cl ty → cl.cls = k → Sto Z h a v := fun cl A q => by
  rcases I with rfl | ⟨y, rfl, I⟩
  · exact Or.inl rfl
  · exact Sto.ofVA A q O I
theorem own_clone (X : Stand p l e R s m args below meth c T locs cells slots) (hx : p.tables.exec = Jvm.exec) (hZ : Z.Warmed39 s.vm) {own ad : String} {index : Nat} (hown : s.vm.findClass own = some m.cls)
    (w1 : (Cond.methodLink own index ⟨ad, "clone", "()Ljava/lang/Object;"⟩).before a0 Z = true) (w2 : (Cond.sameMethod ad "java/lang/Object" "clone" "()Ljava/lang/Object;").before a0 Z = true) (w3 : (Cond.native ⟨"java/lang/Object", "clone", "()Ljava/lang/Object;"⟩).before a0 Z = true)
    (w4 : (Cond.instanceMethod ⟨"java/lang/Object", "clone", "()Ljava/lang/Object;"⟩).before a0 Z = true) (w5 : (Cond.selects ad ⟨ad, "clone", "()Ljava/lang/Object;"⟩ ⟨"java/lang/Object", "clone", "()Ljava/lang/Object;"⟩).before a0 Z = true) (w6 : (Cond.castable ad "java/lang/Cloneable").before a0 Z = true)
    (eT : T.heap = h) (F : own_A Z h a k ty vs) (E : Exa Z h a ad) {g : JFrame} (hg : g.method = m) (hsize : g.locals.size = c.maxLocals) {rest : List Value} (hs : g.stack = .ref a :: rest) (hd : decode c.code g.pc = .ok (.invokevirtual index, 3))
    (hf : 1 ≤ R.frames) {W cap : Nat} (hW : 2 * g.monitorRoom + (rest.map fun v => v.category).sum ≤ W) (hl : W + 14 ≤ R.locals) (hcap : vs.length ≤ cap) (hc : cells + 1 ≤ R.cells) (hsl : slots + cap ≤ R.slots) :
    ∃ T' h', Stand p l e R s m args below meth c T' locs (cells + 1) (slots + cap) ∧ T'.heap = h' ∧ Ext h h' ∧ own_A Z h' h.size k ty vs ∧ Exa Z h' h.size ad ∧
      ∀ target, Steps p.tables e below (T'.setTop { g with pc := g.pc + 3, stack := .ref h.size :: rest }) target → Steps p.tables e below (T.setTop g) target := by
  obtain ⟨cl, A, r1, r2, r3, r4⟩ := F
  have hl' : cl.slots.size = vs.length := by rw [← r2]; simp
  obtain ⟨T', h', X', e', E', A', EX, st⟩ := cloneA X hx hZ hown w1 w2 w3 w4 w5 w6 eT A E (fitC_of A fun i hi v hv => r4 v (by rw [← r2]; exact Array.mem_toList_iff.mpr (Array.mem_of_getElem? hv))) hg hsize hs hd hf hW hl (by omega) hc hsl
  exact ⟨T', h', X', e', E', ⟨cloneOf cl, A', r1, r2, r3, r4⟩, EX, st⟩
end OwnMore
theorem own_w64 {x : Int32} {q : Nat} (h : x.toInt = (q : Int)) : (x / (64 : Int32)).toInt = ((q / 64 : Nat) : Int) := by
  have e : (64 : Int32).toInt = 64 := by decide
  rw [Jvm.Kit.i32_div (by rw [e]; omega), h, e, Int.tdiv_eq_ediv_of_nonneg (by omega)]; rfl
theorem own_bitx {x : Int32} {q : Nat} (h : x.toInt = (q : Int)) : (1 : Int64) <<< (x &&& 0x3f).toInt64 = own_B q := by
  have e : (x &&& 0x3f).toInt64 = Int64.ofNat (q % 64) := by
    apply Int64.toInt_inj.mp
    rw [Jvm.Kit.i64_of_i32, Jvm.Kit.i32_mask x 0x3f (k := 6) (by decide) (by decide), h]
    have := own_bm q
    rw [Int64.toInt_ofNat_of_lt (by omega)]; omega
  rw [e]; rfl
theorem own_sub1 {x : Int32} {q N : Nat} (h : x.toInt = (q : Int) + 1) (hq : q < N) (hN : N ≤ 129) : (x - (1 : Int32)).toInt = (q : Int) := by
  have e : (1 : Int32).toInt = 1 := by decide
  rw [Jvm.Kit.i32_sub (by rw [h, e]; omega) (by rw [h, e]; omega), h, e]; omega
theorem own_inc {x : Int32} {i N : Nat} (h : x.toInt = (i : Int)) (hq : i < N) (hN : N ≤ 129) : (x + (1 : Int32)).toInt = ((i + 1 : Nat) : Int) := by
  have e : (1 : Int32).toInt = 1 := by decide
  rw [Jvm.Kit.i32_add (by rw [h, e]; omega) (by rw [h, e]; omega), h, e]; omega
theorem own_ofN {n : Nat} (h : n ≤ 129) : (Int32.ofNat n).toInt = (n : Int) := Int32.toInt_ofNat_small (by omega)
theorem own_ltN {x : Int32} {i n : Nat} (hx : x.toInt = (i : Int)) (hn : n ≤ 129) : x < Int32.ofNat n ↔ i < n := by
  rw [Int32.lt_iff_toInt_lt, hx, own_ofN hn]; omega
theorem own_eqN {x y : Int32} {i q : Nat} (hx : x.toInt = (i : Int)) (hy : y.toInt = (q : Int)) : x = y ↔ i = q := by
  rw [← Int32.toInt_inj, hx, hy]; omega

theorem own_hs {Z : State} {a0 : Array Value} (hw : ∀ d ∈ tables_1, d.before a0 Z = true) : ∀ n d, (n, d) ∈ [("size", "I"), ("follows", "[[J"), ("lastSent", "[Lcom/example/greylag/greylag/sim/RequestOrder$Knowledge;"), ("precedents", "[[J"), ("waiting", "[J"), ("requestedAt", "[J"), ("enteredAt", "[J")] → Jvm.RoadKit.slotOf Z "com/example/greylag/greylag/sim/RequestOrder" n d ≠ Jvm.RoadKit.slotOf Z "com/example/greylag/greylag/sim/RequestOrder" "stamp" "J" := fun n d h => by
  simp only [List.mem_cons, List.not_mem_nil, or_false, Prod.mk.injEq] at h
  rcases h with ⟨rfl, rfl⟩ | ⟨rfl, rfl⟩ | ⟨rfl, rfl⟩ | ⟨rfl, rfl⟩ | ⟨rfl, rfl⟩ | ⟨rfl, rfl⟩ | ⟨rfl, rfl⟩
  · exact slot_ne (Or.inr (own_hw hw 11 rfl)) (Or.inl (own_hw hw 36 rfl)) (by decide) (t := .int) (t' := .long) (by decide) (by decide)
  · exact slot_ne (Or.inr (own_hw hw 16 rfl)) (Or.inl (own_hw hw 36 rfl)) (by decide) (t := (.array (.array .long))) (t' := .long) (by decide) (by decide)
  · exact slot_ne (Or.inr (own_hw hw 20 rfl)) (Or.inl (own_hw hw 36 rfl)) (by decide) (t := (.array (.object own_s0))) (t' := .long) (by decide) (by decide)
  · exact slot_ne (Or.inr (own_hw hw 23 rfl)) (Or.inl (own_hw hw 36 rfl)) (by decide) (t := (.array (.array .long))) (t' := .long) (by decide) (by decide)
  · exact slot_ne (Or.inr (own_hw hw 25 rfl)) (Or.inl (own_hw hw 36 rfl)) (by decide) (t := (.array .long)) (t' := .long) (by decide) (by decide)
  · exact slot_ne (Or.inr (own_hw hw 27 rfl)) (Or.inl (own_hw hw 36 rfl)) (by decide) (t := (.array .long)) (t' := .long) (by decide) (by decide)
  · exact slot_ne (Or.inr (own_hw hw 29 rfl)) (Or.inl (own_hw hw 36 rfl)) (by decide) (t := (.array .long)) (t' := .long) (by decide) (by decide)
theorem ef_own_word (m : MethodId) (x0 : Int32) : entryFrame m #[(.int x0)] 1 = mkF m 0 #[.val (.int x0)] [] := by first | (simp [entryFrame, mkF, argsToLocals, Value.category]; done) | rfl
theorem pf_own_word : plainFor own_m0 = true := plainFor_of_name (by simp [plainName, overriddenIn])
theorem d_prog_67_method_8_code_0 : decode prog_67_method_8_code 0 = .ok (.iload_n 0, 1) := by decide +kernel
theorem d_prog_67_method_8_code_1 : decode prog_67_method_8_code 1 = .ok (.bipush 64, 2) := by decide +kernel
theorem d_prog_67_method_8_code_3 : decode prog_67_method_8_code 3 = .ok (.idiv, 1) := by decide +kernel
theorem d_prog_67_method_8_code_4 : decode prog_67_method_8_code 4 = .ok (.ireturn, 1) := by decide +kernel
def Q_own_word (Z : State) (x : Int32) (h0 : Heap) (v : Option Value) (h : Heap) (L : List Loc) : Prop := v = some (.int (x / (64 : Int32))) ∧ Fr Z.heap.size L ∧ h = h0
set_option maxRecDepth 65536 in
set_option maxHeartbeats 40000000 in
theorem own_word (l : Launch) (Z : State) (a0 : Array Value) (hw : ∀ d ∈ tables_1, d.before a0 Z = true) (ws : List Jvm.Cond) (x : Int32) (h0 : Heap) (O0 : Ext Z.heap h0) :
    MetFree l own_m0 (head1 (Jvm.Cond.code own_m0 prog_67_method_8_code 1 (some .int) :: ws) ({ frames := 0, cells := 0, slots := 0, locals := 0 } : Room)) (fun aa U => aa = #[(.int x)] ∧ Z.Warmed39 U.vm ∧ U.heap = h0) (fun _ _ _ _ _ => True) (fun _ U o U' => ∃ v L, o = .returned v ∧ Q_own_word Z x h0 v U'.heap L ∧ FrameEnd U o U' L ({ frames := 0, cells := 0, slots := 0, locals := 0 } : Room).cells ({ frames := 0, cells := 0, slots := 0, locals := 0 } : Room).slots) := by
  refine MetFree.of_bodySF pf_own_word hisR ?_
  intro p e s m args below meth c s₁ Bd hml0 hP hK
  obtain ⟨rfl, hZ, hh⟩ := hP
  have hx := Bd.exec
  have hby := Bd.bytes
  have hlk := BodyLoose.notSynchronized Bd
  have hml : c.maxLocals = 1 := hml0
  have hown : s.vm.findClass own_s1 = some m.cls := findClass_of_methodNamed Bd.named
  have hnm := (name_of_methodNamed Bd.named Bd.method).1
  have X0 : Stand p l e ({ frames := 0, cells := 0, slots := 0, locals := 0 } : Room) s m #[(.int x)] below meth c s₁ [] 0 0 := Stand.of_body Bd
  have e0 : s₁.heap = h0 := by rw [← hh, Bd.state]; rfl
  have N0 := Fr.nil Z.heap.size
  have K0 : Keep h0 h0 [] := Keep.refl _ _
  refine own_start (Q := Q_own_word Z x h0) (ef_own_word m (x)) ?_
  show own_G p e below (s₁.setTop (mkF m 0 #[.val (.int x)] [])) _
  refine own_go (fun t k => XS.iloadN X0.here hx rfl (hb hby d_prog_67_method_8_code_0) rfl k) ?_
  refine own_go (fun t k => XS.bipush X0.here hx rfl (hb hby d_prog_67_method_8_code_1) k) ?_
  refine own_go (fun t k => XS.idiv X0.here hx rfl (hb hby d_prog_67_method_8_code_3) rfl (by decide) k) ?_
  exact own_ret X0 hx Bd.returns rfl (Or.inl ⟨rfl, Or.inl rfl, _, rfl⟩) (hb hby d_prog_67_method_8_code_4) hlk (Nat.le_of_ble_eq_true rfl) (Nat.le_of_ble_eq_true rfl) (by show Q_own_word Z x h0 _ s₁.heap _; rw [e0]; exact ⟨rfl, N0, rfl⟩)
theorem ef_own_bitM (m : MethodId) (x0 : Int32) : entryFrame m #[(.int x0)] 1 = mkF m 0 #[.val (.int x0)] [] := by first | (simp [entryFrame, mkF, argsToLocals, Value.category]; done) | rfl
theorem pf_own_bitM : plainFor own_m1 = true := plainFor_of_name (by simp [plainName, overriddenIn])
theorem d_prog_67_method_9_code_0 : decode prog_67_method_9_code 0 = .ok (.lconst 1, 1) := by decide +kernel
theorem d_prog_67_method_9_code_1 : decode prog_67_method_9_code 1 = .ok (.iload_n 0, 1) := by decide +kernel
theorem d_prog_67_method_9_code_2 : decode prog_67_method_9_code 2 = .ok (.lshl, 1) := by decide +kernel
theorem d_prog_67_method_9_code_3 : decode prog_67_method_9_code 3 = .ok (.lreturn, 1) := by decide +kernel
def Q_own_bitM (Z : State) (x : Int32) (q : Nat) (h0 : Heap) (v : Option Value) (h : Heap) (L : List Loc) : Prop := v = some (.long (own_B q)) ∧ Fr Z.heap.size L ∧ h = h0
set_option maxRecDepth 65536 in
set_option maxHeartbeats 40000000 in
theorem own_bitM (l : Launch) (Z : State) (a0 : Array Value) (hw : ∀ d ∈ tables_1, d.before a0 Z = true) (ws : List Jvm.Cond) (x : Int32) (q : Nat) (h0 : Heap) (O0 : Ext Z.heap h0) (hq : x.toInt = (q : Int)) :
    MetFree l own_m1 (head1 (Jvm.Cond.code own_m1 prog_67_method_9_code 1 (some .long) :: ws) ({ frames := 0, cells := 0, slots := 0, locals := 0 } : Room)) (fun aa U => aa = #[(.int x)] ∧ Z.Warmed39 U.vm ∧ U.heap = h0) (fun _ _ _ _ _ => True) (fun _ U o U' => ∃ v L, o = .returned v ∧ Q_own_bitM Z x q h0 v U'.heap L ∧ FrameEnd U o U' L ({ frames := 0, cells := 0, slots := 0, locals := 0 } : Room).cells ({ frames := 0, cells := 0, slots := 0, locals := 0 } : Room).slots) := by
  refine MetFree.of_bodySF pf_own_bitM hisR ?_
  intro p e s m args below meth c s₁ Bd hml0 hP hK
  obtain ⟨rfl, hZ, hh⟩ := hP
  have hx := Bd.exec
  have hby := Bd.bytes
  have hlk := BodyLoose.notSynchronized Bd
  have hml : c.maxLocals = 1 := hml0
  have hown : s.vm.findClass own_s1 = some m.cls := findClass_of_methodNamed Bd.named
  have hnm := (name_of_methodNamed Bd.named Bd.method).1
  have X0 : Stand p l e ({ frames := 0, cells := 0, slots := 0, locals := 0 } : Room) s m #[(.int x)] below meth c s₁ [] 0 0 := Stand.of_body Bd
  have e0 : s₁.heap = h0 := by rw [← hh, Bd.state]; rfl
  have N0 := Fr.nil Z.heap.size
  have K0 : Keep h0 h0 [] := Keep.refl _ _
  refine own_start (Q := Q_own_bitM Z x q h0) (ef_own_bitM m (x)) ?_
  show own_G p e below (s₁.setTop (mkF m 0 #[.val (.int x)] [])) _
  refine own_go (fun t k => XS.lconst X0.here hx rfl (hb hby d_prog_67_method_9_code_0) k) ?_
  refine own_go (fun t k => XS.iloadN X0.here hx rfl (hb hby d_prog_67_method_9_code_1) rfl k) ?_
  refine own_go (fun t k => XS.lshl X0.here hx rfl (hb hby d_prog_67_method_9_code_2) rfl k) ?_
  exact own_ret X0 hx Bd.returns rfl (Or.inr (Or.inl ⟨rfl, rfl, _, rfl⟩)) (hb hby d_prog_67_method_9_code_3) hlk (Nat.le_of_ble_eq_true rfl) (Nat.le_of_ble_eq_true rfl) (by show Q_own_bitM Z x q h0 _ s₁.heap _; rw [e0]; exact ⟨(congrArg (fun z => some (Value.long z)) (own_bitx hq)), N0, rfl⟩)
theorem ef_own_hasM (m : MethodId) (x0 : Addr) (x1 : Int32) : entryFrame m #[(.ref x0), (.int x1)] 2 = mkF m 0 #[.val (.ref x0), .val (.int x1)] [] := by first | (simp [entryFrame, mkF, argsToLocals, Value.category]; done) | rfl
theorem pf_own_hasM : plainFor own_m2 = true := plainFor_of_name (by simp [plainName, overriddenIn])
theorem pd_2087992008 : parseMethodDescriptor "(I)I" = some ⟨[.int], some .int⟩ := by decide +kernel
theorem pd_2087992009 : parseMethodDescriptor "(I)J" = some ⟨[.int], some .long⟩ := by decide +kernel
theorem d_prog_67_method_7_code_0 : decode prog_67_method_7_code 0 = .ok (.aload_n 0, 1) := by decide +kernel
theorem d_prog_67_method_7_code_1 : decode prog_67_method_7_code 1 = .ok (.iload_n 1, 1) := by decide +kernel
theorem d_prog_67_method_7_code_10 : decode prog_67_method_7_code 10 = .ok (.land, 1) := by decide +kernel
theorem d_prog_67_method_7_code_11 : decode prog_67_method_7_code 11 = .ok (.lconst 0, 1) := by decide +kernel
theorem d_prog_67_method_7_code_12 : decode prog_67_method_7_code 12 = .ok (.lcmp, 1) := by decide +kernel
theorem d_prog_67_method_7_code_13 : decode prog_67_method_7_code 13 = .ok (.ifCond .eq 7, 3) := by decide +kernel
theorem d_prog_67_method_7_code_16 : decode prog_67_method_7_code 16 = .ok (.iconst 1, 1) := by decide +kernel
theorem d_prog_67_method_7_code_17 : decode prog_67_method_7_code 17 = .ok (.goto 4, 3) := by decide +kernel
theorem d_prog_67_method_7_code_2 : decode prog_67_method_7_code 2 = .ok (.invokestatic 52, 3) := by decide +kernel
theorem d_prog_67_method_7_code_20 : decode prog_67_method_7_code 20 = .ok (.iconst 0, 1) := by decide +kernel
theorem d_prog_67_method_7_code_21 : decode prog_67_method_7_code 21 = .ok (.ireturn, 1) := by decide +kernel
theorem d_prog_67_method_7_code_5 : decode prog_67_method_7_code 5 = .ok (.laload, 1) := by decide +kernel
theorem d_prog_67_method_7_code_6 : decode prog_67_method_7_code 6 = .ok (.iload_n 1, 1) := by decide +kernel
theorem d_prog_67_method_7_code_7 : decode prog_67_method_7_code 7 = .ok (.invokestatic 56, 3) := by decide +kernel
def Q_own_hasM (Z : State) (arr : Addr) (kk : ClassId) (n : Nat) (f : (Nat → Int64)) (x : Int32) (q : Nat) (h0 : Heap) (v : Option Value) (h : Heap) (L : List Loc) : Prop := v = some (.int (own_has f q)) ∧ Fr Z.heap.size L ∧ h = h0
set_option maxRecDepth 65536 in
set_option maxHeartbeats 40000000 in
theorem own_hasM (l : Launch) (Z : State) (a0 : Array Value) (hw : ∀ d ∈ tables_1, d.before a0 Z = true) (ws : List Jvm.Cond) (arr : Addr) (kk : ClassId) (n : Nat) (f : (Nat → Int64)) (x : Int32) (q : Nat) (h0 : Heap) (O0 : Ext Z.heap h0) (q0 : own_A Z h0 arr kk .long ((List.range n).map fun i_z => Value.long (f i_z))) (hq : x.toInt = (q : Int)) (hn : q / 64 < n) :
    MetFree l own_m2 (head1 (Jvm.Cond.code own_m2 prog_67_method_7_code 2 (some .boolean) :: ws) ({ frames := 1, cells := 0, slots := 0, locals := 14 } : Room)) (fun aa U => aa = #[(.ref arr), (.int x)] ∧ Z.Warmed39 U.vm ∧ U.heap = h0) (fun _ _ _ _ _ => True) (fun _ U o U' => ∃ v L, o = .returned v ∧ Q_own_hasM Z arr kk n f x q h0 v U'.heap L ∧ FrameEnd U o U' L ({ frames := 1, cells := 0, slots := 0, locals := 14 } : Room).cells ({ frames := 1, cells := 0, slots := 0, locals := 14 } : Room).slots) := by
  refine MetFree.of_bodySF pf_own_hasM hisR ?_
  intro p e s m args below meth c s₁ Bd hml0 hP hK
  obtain ⟨rfl, hZ, hh⟩ := hP
  have hx := Bd.exec
  have hby := Bd.bytes
  have hlk := BodyLoose.notSynchronized Bd
  have hml : c.maxLocals = 2 := hml0
  have hown : s.vm.findClass own_s1 = some m.cls := findClass_of_methodNamed Bd.named
  have hnm := (name_of_methodNamed Bd.named Bd.method).1
  have X0 : Stand p l e ({ frames := 1, cells := 0, slots := 0, locals := 14 } : Room) s m #[(.ref arr), (.int x)] below meth c s₁ [] 0 0 := Stand.of_body Bd
  have e0 : s₁.heap = h0 := by rw [← hh, Bd.state]; rfl
  have N0 := Fr.nil Z.heap.size
  have K0 : Keep h0 h0 [] := Keep.refl _ _
  refine own_start (Q := Q_own_hasM Z arr kk n f x q h0) (ef_own_hasM m (arr) (x)) ?_
  show own_G p e below (s₁.setTop (mkF m 0 #[.val (.ref arr), .val (.int x)] [])) _
  refine own_go (fun t k => XS.aloadN X0.here hx rfl (hb hby d_prog_67_method_7_code_0) rfl rfl k) ?_
  refine own_go (fun t k => XS.iloadN X0.here hx rfl (hb hby d_prog_67_method_7_code_1) rfl k) ?_
  obtain ⟨_, _, ⟨T1z, L1z, k1z, n1z⟩, -, X1z, ⟨Lc1z, hQ1z, l1z, y1z, z1z⟩, st1z⟩ := Jvm.LawKit.callS X0 hx (y := own_m0) hown (own_mw hZ hw 40 rfl) (own_mw hZ hw 41 rfl) (own_mw hZ hw 3 rfl) (own_mw hZ hw 42 rfl) (by decide) (backOf (W := 1) (own_word l Z a0 hw [] x h0 O0) hZ (own_hw hw 42 rfl) (own_hw hw 3 rfl) (by decide) (by decide)) (g := (mkF m 2 #[.val (.ref arr), .val (.int x)] [(.int x), (.ref arr)])) rfl (by rw [hml]; rfl) (argsL := [(.int x)]) (rest := [(.ref arr)]) (lenOf pd_2087992008 rfl) rfl (by show 2 * 0 + _ ≤ _; exact Nat.le_of_eq rfl) (hb hby d_prog_67_method_7_code_2) (fun _ _ => ⟨rfl, e0, (by decide : 0 + 0 ≤ _), (by decide : 0 + 0 ≤ _)⟩)
  dsimp only [Pt.U, Pt.locs, Pt.cells, Pt.slots] at X1z l1z y1z z1z st1z hQ1z
  subst l1z y1z z1z
  obtain ⟨rfl, NQ1z, K1zq⟩ := hQ1z
  refine own_go st1z ?_
  have N1z := Fr.app N0 NQ1z
  show own_G p e below (T1z.setTop (mkF m 5 #[.val (.ref arr), .val (.int x)] [(.int (x / (64 : Int32))), (.ref arr)])) _
  refine own_go (own_ldJ X1z hx hZ K1zq q0 (i := (q / 64)) (v := (.long (f (q / 64)))) (own_w64 hq) (own_rget _ hn) (g := (mkF m 5 #[.val (.ref arr), .val (.int x)] [(.int (x / (64 : Int32))), (.ref arr)])) rfl rfl (hb hby d_prog_67_method_7_code_5)) ?_
  refine own_go (fun t k => XS.iloadN X1z.here hx rfl (hb hby d_prog_67_method_7_code_6) rfl k) ?_
  obtain ⟨_, _, ⟨T2z, L2z, k2z, n2z⟩, -, X2z, ⟨Lc2z, hQ2z, l2z, y2z, z2z⟩, st2z⟩ := Jvm.LawKit.callS X1z hx (y := own_m1) hown (own_mw hZ hw 43 rfl) (own_mw hZ hw 44 rfl) (own_mw hZ hw 3 rfl) (own_mw hZ hw 45 rfl) (by decide) (backOf (W := 2) (own_bitM l Z a0 hw [] x q h0 O0 hq) hZ (own_hw hw 45 rfl) (own_hw hw 3 rfl) (by decide) (by decide)) (g := (mkF m 7 #[.val (.ref arr), .val (.int x)] [(.int x), (.long (f (q / 64)))])) rfl (by rw [hml]; rfl) (argsL := [(.int x)]) (rest := [(.long (f (q / 64)))]) (lenOf pd_2087992009 rfl) rfl (by show 2 * 0 + _ ≤ _; exact Nat.le_of_eq rfl) (hb hby d_prog_67_method_7_code_7) (fun _ _ => ⟨rfl, K1zq, (by decide : 0 + 0 ≤ _), (by decide : 0 + 0 ≤ _)⟩)
  dsimp only [Pt.U, Pt.locs, Pt.cells, Pt.slots] at X2z l2z y2z z2z st2z hQ2z
  subst l2z y2z z2z
  obtain ⟨rfl, NQ2z, K2zq⟩ := hQ2z
  refine own_go st2z ?_
  have N2z := Fr.app N1z NQ2z
  show own_G p e below (T2z.setTop (mkF m 10 #[.val (.ref arr), .val (.int x)] [(.long (own_B q)), (.long (f (q / 64)))])) _
  refine own_go (fun t k => XS.land X2z.here hx rfl (hb hby d_prog_67_method_7_code_10) rfl k) ?_
  refine own_go (fun t k => XS.lconst X2z.here hx rfl (hb hby d_prog_67_method_7_code_11) k) ?_
  refine own_go (fun t k => XS.lcmp X2z.here hx rfl (hb hby d_prog_67_method_7_code_12) rfl k) ?_
  by_cases hc3z : ((f (q / 64)) &&& (own_B q)) = (0 : Int64)
  · refine own_go (fun t k => XS.ifYes X2z.here hx rfl (pc0 := 13) (pc' := 20) rfl (hb hby d_prog_67_method_7_code_13) rfl ((if0 _ _).trans (teq ((lw_eq ((f (q / 64)) &&& (own_B q)) (0 : Int64)).mpr hc3z)).1) (by decide) (by decide) k) ?_
    show own_G p e below (T2z.setTop (mkF m 20 #[.val (.ref arr), .val (.int x)] [])) _
    refine own_go (fun t k => XS.iconst X2z.here hx rfl (hb hby d_prog_67_method_7_code_20) k) ?_
    exact own_ret X2z hx Bd.returns rfl (Or.inl ⟨rfl, Or.inr (Or.inl rfl), _, rfl⟩) (hb hby d_prog_67_method_7_code_21) hlk (Nat.le_of_ble_eq_true rfl) (Nat.le_of_ble_eq_true rfl) (by show Q_own_hasM Z arr kk n f x q h0 _ T2z.heap _; rw [K2zq]; exact ⟨(congrArg (fun z => some (Value.int z)) (show own_has f q = _ from if_pos hc3z).symm), N2z, rfl⟩)
  · refine own_go (fun t k => XS.ifNo X2z.here hx rfl (hb hby d_prog_67_method_7_code_13) rfl ((if0 _ _).trans (feq (fun q_z => hc3z ((lw_eq ((f (q / 64)) &&& (own_B q)) (0 : Int64)).mp q_z))).1) k) ?_
    show own_G p e below (T2z.setTop (mkF m 16 #[.val (.ref arr), .val (.int x)] [])) _
    refine own_go (fun t k => XS.iconst X2z.here hx rfl (hb hby d_prog_67_method_7_code_16) k) ?_
    refine own_go (fun t k => XS.goto X2z.here hx rfl (pc0 := 17) (pc' := 21) rfl (hb hby d_prog_67_method_7_code_17) (by decide) (by decide) k) ?_
    show own_G p e below (T2z.setTop (mkF m 21 #[.val (.ref arr), .val (.int x)] [(.int (1 : Int32))])) _
    exact own_ret X2z hx Bd.returns rfl (Or.inl ⟨rfl, Or.inr (Or.inl rfl), _, rfl⟩) (hb hby d_prog_67_method_7_code_21) hlk (Nat.le_of_ble_eq_true rfl) (Nat.le_of_ble_eq_true rfl) (by show Q_own_hasM Z arr kk n f x q h0 _ T2z.heap _; rw [K2zq]; exact ⟨(congrArg (fun z => some (Value.int z)) (show own_has f q = _ from if_neg hc3z).symm), N2z, rfl⟩)
theorem ef_own_kn (m : MethodId) (x0 : Addr) (x1 : Addr) (x2 : Int64) : entryFrame m #[(.ref x0), (.ref x1), (.long x2)] 4 = mkF m 0 #[.val (.ref x0), .val (.ref x1), .val (.long x2), .second] [] := by first | (simp [entryFrame, mkF, argsToLocals, Value.category]; done) | rfl
theorem pf_own_kn : plainFor own_m3 = true := plainFor_of_name (by simp [plainName, overriddenIn])
theorem d_prog_68_method_1_code_0 : decode prog_68_method_1_code 0 = .ok (.aload_n 0, 1) := by decide +kernel
theorem d_prog_68_method_1_code_1 : decode prog_68_method_1_code 1 = .ok (.invokespecial 1, 3) := by decide +kernel
theorem d_prog_68_method_1_code_10 : decode prog_68_method_1_code 10 = .ok (.lload_n 2, 1) := by decide +kernel
theorem d_prog_68_method_1_code_11 : decode prog_68_method_1_code 11 = .ok (.putfield 13, 3) := by decide +kernel
theorem d_prog_68_method_1_code_14 : decode prog_68_method_1_code 14 = .ok (.return_, 1) := by decide +kernel
theorem d_prog_68_method_1_code_4 : decode prog_68_method_1_code 4 = .ok (.aload_n 0, 1) := by decide +kernel
theorem d_prog_68_method_1_code_5 : decode prog_68_method_1_code 5 = .ok (.aload_n 1, 1) := by decide +kernel
theorem d_prog_68_method_1_code_6 : decode prog_68_method_1_code 6 = .ok (.putfield 7, 3) := by decide +kernel
theorem d_prog_68_method_1_code_9 : decode prog_68_method_1_code 9 = .ok (.aload_n 0, 1) := by decide +kernel
def Q_own_kn (Z : State) (a : Addr) (arr : Addr) (sv : Int64) (h0 : Heap) (v : Option Value) (h : Heap) (L : List Loc) : Prop := v = none ∧ Fr Z.heap.size L ∧ Keep h0 h [a] ∧ (Exa Z h a own_s0) ∧ (Fld Z h a own_s0 "follows" "[J" (.ref arr)) ∧ (Fld Z h a own_s0 "stamp" "J" (.long sv))
set_option maxRecDepth 65536 in
set_option maxHeartbeats 40000000 in
theorem own_kn (l : Launch) (Z : State) (a0 : Array Value) (hw : ∀ d ∈ tables_1, d.before a0 Z = true) (ws : List Jvm.Cond) (a : Addr) (arr : Addr) (sv : Int64) (h0 : Heap) (O0 : Ext Z.heap h0) (q0 : Exa Z h0 a own_s0) (q1 : Z.heap.size ≤ a) (q2 : Fld Z h0 a own_s0 "follows" "[J" .null) (q3 : Fld Z h0 a own_s0 "stamp" "J" (.long (0 : Int64))) :
    MetFree l own_m3 (head1 (Jvm.Cond.code own_m3 prog_68_method_1_code 4 none :: ws) ({ frames := 1, cells := 0, slots := 0, locals := 12 } : Room)) (fun aa U => aa = #[(.ref a), (.ref arr), (.long sv)] ∧ Z.Warmed39 U.vm ∧ U.heap = h0) (fun _ _ _ _ _ => True) (fun _ U o U' => ∃ v L, o = .returned v ∧ Q_own_kn Z a arr sv h0 v U'.heap L ∧ FrameEnd U o U' L ({ frames := 1, cells := 0, slots := 0, locals := 12 } : Room).cells ({ frames := 1, cells := 0, slots := 0, locals := 12 } : Room).slots) := by
  refine MetFree.of_bodySF pf_own_kn hisR ?_
  intro p e s m args below meth c s₁ Bd hml0 hP hK
  obtain ⟨rfl, hZ, hh⟩ := hP
  have hx := Bd.exec
  have hby := Bd.bytes
  have hlk := BodyLoose.notSynchronized Bd
  have hml : c.maxLocals = 4 := hml0
  have hown : s.vm.findClass own_s0 = some m.cls := findClass_of_methodNamed Bd.named
  have hnm := (name_of_methodNamed Bd.named Bd.method).1
  have X0 : Stand p l e ({ frames := 1, cells := 0, slots := 0, locals := 12 } : Room) s m #[(.ref a), (.ref arr), (.long sv)] below meth c s₁ [] 0 0 := Stand.of_body Bd
  have e0 : s₁.heap = h0 := by rw [← hh, Bd.state]; rfl
  have N0 := Fr.nil Z.heap.size
  have K0 : Keep h0 h0 [a] := Keep.refl _ _
  refine own_start (Q := Q_own_kn Z a arr sv h0) (ef_own_kn m (a) (arr) (sv)) ?_
  show own_G p e below (s₁.setTop (mkF m 0 #[.val (.ref a), .val (.ref arr), .val (.long sv), .second] [])) _
  refine own_go (fun t k => XS.aloadN X0.here hx rfl (hb hby d_prog_68_method_1_code_0) rfl rfl k) ?_
  obtain ⟨T1z, X1z, e1z, st1z⟩ := initO X0 hx hZ hown (own_hw hw 61 rfl) (own_hw hw 8 rfl) (own_hw hw 9 rfl) e0 (g := (mkF m 1 #[.val (.ref a), .val (.ref arr), .val (.long sv), .second] [(.ref a)])) rfl (by rw [hml]; rfl) rfl (hb hby d_prog_68_method_1_code_1) (by decide) (W := 0) (by show 2 * 0 + _ ≤ _; exact Nat.le_of_eq rfl) (by decide)
  refine own_go st1z ?_
  show own_G p e below (T1z.setTop (mkF m 4 #[.val (.ref a), .val (.ref arr), .val (.long sv), .second] [])) _
  refine own_go (fun t k => XS.aloadN X1z.here hx rfl (hb hby d_prog_68_method_1_code_4) rfl rfl k) ?_
  refine own_go (fun t k => XS.aloadN X1z.here hx rfl (hb hby d_prog_68_method_1_code_5) rfl rfl k) ?_
  obtain ⟨T2z, h2z, X2z, e2z, W2z, st2z⟩ := putF X1z hx hZ hown (host := "") (Or.inl (own_hw hw 62 rfl)) Via.refl e1z q2 q0 (Or.inr ⟨(own_hw hw 63 rfl), rfl, hnm⟩) (own_hw hw 56 rfl) (ty := (.array .long)) (by decide) rfl rfl (g := (mkF m 6 #[.val (.ref a), .val (.ref arr), .val (.long sv), .second] [(.ref arr), (.ref a)])) rfl rfl (hb hby d_prog_68_method_1_code_6)
  refine own_go st2z ?_
  have N2z := Fr.snoc X2z N0 q1
  have F2z : Fld Z h2z a own_s0 "follows" "[J" (.ref arr) := q2.same W2z
  have O3z := own_ext_wr O0 W2z q1
  have K3z := K0.wr W2z (Or.inl (List.mem_of_getElem? (i := 0) rfl))
  refine own_go (fun t k => XS.aloadN X2z.here hx rfl (hb hby d_prog_68_method_1_code_9) rfl rfl k) ?_
  show own_G p e below (T2z.setTop (mkF m 10 #[.val (.ref a), .val (.ref arr), .val (.long sv), .second] [(.ref a)])) _
  refine own_go (fun t k => XS.lloadN X2z.here hx rfl (hb hby d_prog_68_method_1_code_10) rfl k) ?_
  have f4z := (q3.other W2z (Or.inr (slot_ne (Or.inr (own_hw hw 65 rfl)) (Or.inr (own_hw hw 63 rfl)) (by decide) (t := .long) (t' := (.array .long)) (by decide) (by decide))))
  obtain ⟨T5z, h5z, X5z, e5z, W5z, st5z⟩ := putF X2z hx hZ hown (host := "") (Or.inl (own_hw hw 64 rfl)) Via.refl e2z f4z (q0.wr W2z) (Or.inr ⟨(own_hw hw 65 rfl), rfl, hnm⟩) (own_hw hw 56 rfl) (ty := .long) (by decide) rfl rfl (g := (mkF m 11 #[.val (.ref a), .val (.ref arr), .val (.long sv), .second] [(.long sv), (.ref a)])) rfl rfl (hb hby d_prog_68_method_1_code_11)
  refine own_go st5z ?_
  have N5z := Fr.snoc X5z N2z q1
  have F5z : Fld Z h5z a own_s0 "stamp" "J" (.long sv) := f4z.same W5z
  have O6z := own_ext_wr O3z W5z q1
  have K6z := K3z.wr W5z (Or.inl (List.mem_of_getElem? (i := 0) rfl))
  have f7z := (F2z.other W5z (Or.inr (slot_ne (Or.inr (own_hw hw 63 rfl)) (Or.inr (own_hw hw 65 rfl)) (by decide) (t := (.array .long)) (t' := .long) (by decide) (by decide))))
  exact own_retV X5z hx Bd.returns (hb hby d_prog_68_method_1_code_14) hlk (Nat.le_of_ble_eq_true rfl) (Nat.le_of_ble_eq_true rfl) (by show Q_own_kn Z a arr sv h0 _ T5z.heap _; rw [e5z]; exact ⟨rfl, N5z, K6z, ((q0.wr W2z).wr W5z), f7z, F5z⟩)
def own_n74 (n i : Int32) : Int32 := n + ((i).toUInt32 >>> ((1 : Int32) &&& 31).toUInt32).toInt32
def own_n62 (n i : Int32) : Int32 := if (4 : Int32) < i then own_n74 (n + (2 : Int32)) (((i).toUInt32 >>> ((2 : Int32) &&& 31).toUInt32).toInt32) else own_n74 n i
def own_n49 (n i : Int32) : Int32 := if (16 : Int32) < i then own_n62 (n + (4 : Int32)) (((i).toUInt32 >>> ((4 : Int32) &&& 31).toUInt32).toInt32) else own_n62 n i
def own_n34 (n i : Int32) : Int32 := if (256 : Int32) < i then own_n49 (n + (8 : Int32)) (((i).toUInt32 >>> ((8 : Int32) &&& 31).toUInt32).toInt32) else own_n49 n i
def own_n19 (n i : Int32) : Int32 := if (65536 : Int32) < i then own_n34 (n + (16 : Int32)) (((i).toUInt32 >>> ((16 : Int32) &&& 31).toUInt32).toInt32) else own_n34 n i
def own_ntzI (x : Int32) : Int32 := if (0 : Int32) < ((x ^^^ (-1 : Int32)) &&& (x - (1 : Int32))) then own_n19 (1 : Int32) ((x ^^^ (-1 : Int32)) &&& (x - (1 : Int32))) else ((x ^^^ (-1 : Int32)) &&& (x - (1 : Int32))) &&& (32 : Int32)
def own_ntzL (x : Int64) : Int32 := if x.toInt32 = (0 : Int32) then (32 : Int32) + own_ntzI (((x).toUInt64 >>> ((32 : Int32) &&& 0x3f).toInt64.toUInt64).toInt64).toInt32 else own_ntzI x.toInt32
theorem own_ntz64 : ∀ i : Fin 64, own_ntzL ((1 : Int64) <<< (Int64.ofNat i.val)) = Int32.ofNat i.val := by decide +kernel
theorem own_ntz (q : Nat) : own_ntzL (own_B q) = Int32.ofNat (q % 64) := own_ntz64 ⟨q % 64, own_bm q⟩
theorem ef_own_nzi (m : MethodId) (x0 : Int32) : entryFrame m #[(.int x0)] 2 = mkF m 0 #[.val (.int x0), .unset] [] := by first | (simp [entryFrame, mkF, argsToLocals, Value.category]; done) | rfl
theorem pf_own_nzi : plainFor own_m4 = true := plainFor_of_name (by simp [plainName, overriddenIn])
theorem d_jdk_33_method_48_code_0 : decode jdk_33_method_48_code 0 = .ok (.iload_n 0, 1) := by decide +kernel
theorem d_jdk_33_method_48_code_1 : decode jdk_33_method_48_code 1 = .ok (.iconst (-1), 1) := by decide +kernel
theorem d_jdk_33_method_48_code_12 : decode jdk_33_method_48_code 12 = .ok (.iload_n 0, 1) := by decide +kernel
theorem d_jdk_33_method_48_code_13 : decode jdk_33_method_48_code 13 = .ok (.bipush 32, 2) := by decide +kernel
theorem d_jdk_33_method_48_code_15 : decode jdk_33_method_48_code 15 = .ok (.iand, 1) := by decide +kernel
theorem d_jdk_33_method_48_code_16 : decode jdk_33_method_48_code 16 = .ok (.ireturn, 1) := by decide +kernel
theorem d_jdk_33_method_48_code_17 : decode jdk_33_method_48_code 17 = .ok (.iconst 1, 1) := by decide +kernel
theorem d_jdk_33_method_48_code_18 : decode jdk_33_method_48_code 18 = .ok (.istore_n 1, 1) := by decide +kernel
theorem d_jdk_33_method_48_code_19 : decode jdk_33_method_48_code 19 = .ok (.iload_n 0, 1) := by decide +kernel
theorem d_jdk_33_method_48_code_2 : decode jdk_33_method_48_code 2 = .ok (.ixor, 1) := by decide +kernel
theorem d_jdk_33_method_48_code_20 : decode jdk_33_method_48_code 20 = .ok (.ldc_w 264, 3) := by decide +kernel
theorem d_jdk_33_method_48_code_23 : decode jdk_33_method_48_code 23 = .ok (.if_icmp .le 11, 3) := by decide +kernel
theorem d_jdk_33_method_48_code_26 : decode jdk_33_method_48_code 26 = .ok (.iinc 1 16, 3) := by decide +kernel
theorem d_jdk_33_method_48_code_29 : decode jdk_33_method_48_code 29 = .ok (.iload_n 0, 1) := by decide +kernel
theorem d_jdk_33_method_48_code_3 : decode jdk_33_method_48_code 3 = .ok (.iload_n 0, 1) := by decide +kernel
theorem d_jdk_33_method_48_code_30 : decode jdk_33_method_48_code 30 = .ok (.bipush 16, 2) := by decide +kernel
theorem d_jdk_33_method_48_code_32 : decode jdk_33_method_48_code 32 = .ok (.iushr, 1) := by decide +kernel
theorem d_jdk_33_method_48_code_33 : decode jdk_33_method_48_code 33 = .ok (.istore_n 0, 1) := by decide +kernel
theorem d_jdk_33_method_48_code_34 : decode jdk_33_method_48_code 34 = .ok (.iload_n 0, 1) := by decide +kernel
theorem d_jdk_33_method_48_code_35 : decode jdk_33_method_48_code 35 = .ok (.sipush 256, 3) := by decide +kernel
theorem d_jdk_33_method_48_code_38 : decode jdk_33_method_48_code 38 = .ok (.if_icmp .le 11, 3) := by decide +kernel
theorem d_jdk_33_method_48_code_4 : decode jdk_33_method_48_code 4 = .ok (.iconst 1, 1) := by decide +kernel
theorem d_jdk_33_method_48_code_41 : decode jdk_33_method_48_code 41 = .ok (.iinc 1 8, 3) := by decide +kernel
theorem d_jdk_33_method_48_code_44 : decode jdk_33_method_48_code 44 = .ok (.iload_n 0, 1) := by decide +kernel
theorem d_jdk_33_method_48_code_45 : decode jdk_33_method_48_code 45 = .ok (.bipush 8, 2) := by decide +kernel
theorem d_jdk_33_method_48_code_47 : decode jdk_33_method_48_code 47 = .ok (.iushr, 1) := by decide +kernel
theorem d_jdk_33_method_48_code_48 : decode jdk_33_method_48_code 48 = .ok (.istore_n 0, 1) := by decide +kernel
theorem d_jdk_33_method_48_code_49 : decode jdk_33_method_48_code 49 = .ok (.iload_n 0, 1) := by decide +kernel
theorem d_jdk_33_method_48_code_5 : decode jdk_33_method_48_code 5 = .ok (.isub, 1) := by decide +kernel
theorem d_jdk_33_method_48_code_50 : decode jdk_33_method_48_code 50 = .ok (.bipush 16, 2) := by decide +kernel
theorem d_jdk_33_method_48_code_52 : decode jdk_33_method_48_code 52 = .ok (.if_icmp .le 10, 3) := by decide +kernel
theorem d_jdk_33_method_48_code_55 : decode jdk_33_method_48_code 55 = .ok (.iinc 1 4, 3) := by decide +kernel
theorem d_jdk_33_method_48_code_58 : decode jdk_33_method_48_code 58 = .ok (.iload_n 0, 1) := by decide +kernel
theorem d_jdk_33_method_48_code_59 : decode jdk_33_method_48_code 59 = .ok (.iconst 4, 1) := by decide +kernel
theorem d_jdk_33_method_48_code_6 : decode jdk_33_method_48_code 6 = .ok (.iand, 1) := by decide +kernel
theorem d_jdk_33_method_48_code_60 : decode jdk_33_method_48_code 60 = .ok (.iushr, 1) := by decide +kernel
theorem d_jdk_33_method_48_code_61 : decode jdk_33_method_48_code 61 = .ok (.istore_n 0, 1) := by decide +kernel
theorem d_jdk_33_method_48_code_62 : decode jdk_33_method_48_code 62 = .ok (.iload_n 0, 1) := by decide +kernel
theorem d_jdk_33_method_48_code_63 : decode jdk_33_method_48_code 63 = .ok (.iconst 4, 1) := by decide +kernel
theorem d_jdk_33_method_48_code_64 : decode jdk_33_method_48_code 64 = .ok (.if_icmp .le 10, 3) := by decide +kernel
theorem d_jdk_33_method_48_code_67 : decode jdk_33_method_48_code 67 = .ok (.iinc 1 2, 3) := by decide +kernel
theorem d_jdk_33_method_48_code_7 : decode jdk_33_method_48_code 7 = .ok (.istore_n 0, 1) := by decide +kernel
theorem d_jdk_33_method_48_code_70 : decode jdk_33_method_48_code 70 = .ok (.iload_n 0, 1) := by decide +kernel
theorem d_jdk_33_method_48_code_71 : decode jdk_33_method_48_code 71 = .ok (.iconst 2, 1) := by decide +kernel
theorem d_jdk_33_method_48_code_72 : decode jdk_33_method_48_code 72 = .ok (.iushr, 1) := by decide +kernel
theorem d_jdk_33_method_48_code_73 : decode jdk_33_method_48_code 73 = .ok (.istore_n 0, 1) := by decide +kernel
theorem d_jdk_33_method_48_code_74 : decode jdk_33_method_48_code 74 = .ok (.iload_n 1, 1) := by decide +kernel
theorem d_jdk_33_method_48_code_75 : decode jdk_33_method_48_code 75 = .ok (.iload_n 0, 1) := by decide +kernel
theorem d_jdk_33_method_48_code_76 : decode jdk_33_method_48_code 76 = .ok (.iconst 1, 1) := by decide +kernel
theorem d_jdk_33_method_48_code_77 : decode jdk_33_method_48_code 77 = .ok (.iushr, 1) := by decide +kernel
theorem d_jdk_33_method_48_code_78 : decode jdk_33_method_48_code 78 = .ok (.iadd, 1) := by decide +kernel
theorem d_jdk_33_method_48_code_79 : decode jdk_33_method_48_code 79 = .ok (.ireturn, 1) := by decide +kernel
theorem d_jdk_33_method_48_code_8 : decode jdk_33_method_48_code 8 = .ok (.iload_n 0, 1) := by decide +kernel
theorem d_jdk_33_method_48_code_9 : decode jdk_33_method_48_code 9 = .ok (.ifCond .gt 8, 3) := by decide +kernel
def Q_own_nzi (Z : State) (x : Int32) (h0 : Heap) (v : Option Value) (h : Heap) (L : List Loc) : Prop := v = some (.int (own_ntzI x)) ∧ Fr Z.heap.size L ∧ h = h0
set_option maxRecDepth 65536 in
set_option maxHeartbeats 40000000 in
theorem own_nzi (l : Launch) (Z : State) (a0 : Array Value) (hw : ∀ d ∈ tables_1, d.before a0 Z = true) (ws : List Jvm.Cond) (x : Int32) (h0 : Heap) (O0 : Ext Z.heap h0) :
    MetFree l own_m4 (head1 (Jvm.Cond.code own_m4 jdk_33_method_48_code 2 (some .int) :: ws) ({ frames := 0, cells := 0, slots := 0, locals := 0 } : Room)) (fun aa U => aa = #[(.int x)] ∧ Z.Warmed39 U.vm ∧ U.heap = h0) (fun _ _ _ _ _ => True) (fun _ U o U' => ∃ v L, o = .returned v ∧ Q_own_nzi Z x h0 v U'.heap L ∧ FrameEnd U o U' L ({ frames := 0, cells := 0, slots := 0, locals := 0 } : Room).cells ({ frames := 0, cells := 0, slots := 0, locals := 0 } : Room).slots) := by
  refine MetFree.of_bodySF pf_own_nzi hisR ?_
  intro p e s m args below meth c s₁ Bd hml0 hP hK
  obtain ⟨rfl, hZ, hh⟩ := hP
  have hx := Bd.exec
  have hby := Bd.bytes
  have hlk := BodyLoose.notSynchronized Bd
  have hml : c.maxLocals = 2 := hml0
  have hown : s.vm.findClass "java/lang/Integer" = some m.cls := findClass_of_methodNamed Bd.named
  have hnm := (name_of_methodNamed Bd.named Bd.method).1
  have X0 : Stand p l e ({ frames := 0, cells := 0, slots := 0, locals := 0 } : Room) s m #[(.int x)] below meth c s₁ [] 0 0 := Stand.of_body Bd
  have e0 : s₁.heap = h0 := by rw [← hh, Bd.state]; rfl
  have N0 := Fr.nil Z.heap.size
  have K0 : Keep h0 h0 [] := Keep.refl _ _
  refine own_start (Q := Q_own_nzi Z x h0) (ef_own_nzi m (x)) ?_
  show own_G p e below (s₁.setTop (mkF m 0 #[.val (.int x), .unset] [])) _
  have go74 : ∀ n i : Int32, own_n74 n i = own_ntzI x → own_G p e below (s₁.setTop (mkF m 74 #[.val (.int i), .val (.int n)] [])) (own_P s below ({ frames := 0, cells := 0, slots := 0, locals := 0 } : Room).cells ({ frames := 0, cells := 0, slots := 0, locals := 0 } : Room).slots (Q_own_nzi Z x h0)) := by
    intro n i hr
    show own_G p e below (s₁.setTop (mkF m 74 #[.val (.int i), .val (.int n)] [])) _
    refine own_go (fun t k => XS.iloadN X0.here hx rfl (hb hby d_jdk_33_method_48_code_74) rfl k) ?_
    refine own_go (fun t k => XS.iloadN X0.here hx rfl (hb hby d_jdk_33_method_48_code_75) rfl k) ?_
    refine own_go (fun t k => XS.iconst X0.here hx rfl (hb hby d_jdk_33_method_48_code_76) k) ?_
    refine own_go (fun t k => XS.iushr X0.here hx rfl (hb hby d_jdk_33_method_48_code_77) rfl k) ?_
    show own_G p e below (s₁.setTop (mkF m 78 #[.val (.int i), .val (.int n)] [(.int ((i).toUInt32 >>> ((1 : Int32) &&& 31).toUInt32).toInt32), (.int n)])) _
    refine own_go (fun t k => XS.iadd X0.here hx rfl (hb hby d_jdk_33_method_48_code_78) rfl k) ?_
    exact own_ret X0 hx Bd.returns rfl (Or.inl ⟨rfl, Or.inl rfl, _, rfl⟩) (hb hby d_jdk_33_method_48_code_79) hlk (Nat.le_of_ble_eq_true rfl) (Nat.le_of_ble_eq_true rfl) (by show Q_own_nzi Z x h0 _ s₁.heap _; rw [e0]; exact ⟨(congrArg (fun z => some (Value.int z)) hr), N0, rfl⟩)
  have go62 : ∀ n i : Int32, own_n62 n i = own_ntzI x → own_G p e below (s₁.setTop (mkF m 62 #[.val (.int i), .val (.int n)] [])) (own_P s below ({ frames := 0, cells := 0, slots := 0, locals := 0 } : Room).cells ({ frames := 0, cells := 0, slots := 0, locals := 0 } : Room).slots (Q_own_nzi Z x h0)) := by
    intro n i hr
    show own_G p e below (s₁.setTop (mkF m 62 #[.val (.int i), .val (.int n)] [])) _
    refine own_go (fun t k => XS.iloadN X0.here hx rfl (hb hby d_jdk_33_method_48_code_62) rfl k) ?_
    refine own_go (fun t k => XS.iconst X0.here hx rfl (hb hby d_jdk_33_method_48_code_63) k) ?_
    by_cases hc1z : (4 : Int32) < i
    · refine own_go (fun t k => XS.icmpNo X0.here hx rfl (hb hby d_jdk_33_method_48_code_64) rfl (tlt hc1z).2.2.2 k) ?_
      show own_G p e below (s₁.setTop (mkF m 67 #[.val (.int i), .val (.int n)] [])) _
      refine own_go (fun t k => XS.iinc X0.here hx rfl (hb hby d_jdk_33_method_48_code_67) rfl (l' := #[.val (.int i), .val (.int (n + (2 : Int32)))]) rfl k) ?_
      refine own_go (fun t k => XS.iloadN X0.here hx rfl (hb hby d_jdk_33_method_48_code_70) rfl k) ?_
      refine own_go (fun t k => XS.iconst X0.here hx rfl (hb hby d_jdk_33_method_48_code_71) k) ?_
      refine own_go (fun t k => XS.iushr X0.here hx rfl (hb hby d_jdk_33_method_48_code_72) rfl k) ?_
      show own_G p e below (s₁.setTop (mkF m 73 #[.val (.int i), .val (.int (n + (2 : Int32)))] [(.int ((i).toUInt32 >>> ((2 : Int32) &&& 31).toUInt32).toInt32)])) _
      refine own_go (fun t k => XS.istoreN X0.here hx rfl (hb hby d_jdk_33_method_48_code_73) rfl (l' := #[.val (.int ((i).toUInt32 >>> ((2 : Int32) &&& 31).toUInt32).toInt32), .val (.int (n + (2 : Int32)))]) rfl k) ?_
      exact go74 _ _ ((show own_n62 n i = _ from if_pos hc1z).symm.trans hr)
    · refine own_go (fun t k => XS.icmpYes X0.here hx rfl (pc0 := 64) (pc' := 74) rfl (hb hby d_jdk_33_method_48_code_64) rfl (flt hc1z).2.2.2 (by decide) (by decide) k) ?_
      show own_G p e below (s₁.setTop (mkF m 74 #[.val (.int i), .val (.int n)] [])) _
      exact go74 _ _ ((show own_n62 n i = _ from if_neg hc1z).symm.trans hr)
  have go49 : ∀ n i : Int32, own_n49 n i = own_ntzI x → own_G p e below (s₁.setTop (mkF m 49 #[.val (.int i), .val (.int n)] [])) (own_P s below ({ frames := 0, cells := 0, slots := 0, locals := 0 } : Room).cells ({ frames := 0, cells := 0, slots := 0, locals := 0 } : Room).slots (Q_own_nzi Z x h0)) := by
    intro n i hr
    show own_G p e below (s₁.setTop (mkF m 49 #[.val (.int i), .val (.int n)] [])) _
    refine own_go (fun t k => XS.iloadN X0.here hx rfl (hb hby d_jdk_33_method_48_code_49) rfl k) ?_
    refine own_go (fun t k => XS.bipush X0.here hx rfl (hb hby d_jdk_33_method_48_code_50) k) ?_
    by_cases hc2z : (16 : Int32) < i
    · refine own_go (fun t k => XS.icmpNo X0.here hx rfl (hb hby d_jdk_33_method_48_code_52) rfl (tlt hc2z).2.2.2 k) ?_
      show own_G p e below (s₁.setTop (mkF m 55 #[.val (.int i), .val (.int n)] [])) _
      refine own_go (fun t k => XS.iinc X0.here hx rfl (hb hby d_jdk_33_method_48_code_55) rfl (l' := #[.val (.int i), .val (.int (n + (4 : Int32)))]) rfl k) ?_
      refine own_go (fun t k => XS.iloadN X0.here hx rfl (hb hby d_jdk_33_method_48_code_58) rfl k) ?_
      refine own_go (fun t k => XS.iconst X0.here hx rfl (hb hby d_jdk_33_method_48_code_59) k) ?_
      refine own_go (fun t k => XS.iushr X0.here hx rfl (hb hby d_jdk_33_method_48_code_60) rfl k) ?_
      show own_G p e below (s₁.setTop (mkF m 61 #[.val (.int i), .val (.int (n + (4 : Int32)))] [(.int ((i).toUInt32 >>> ((4 : Int32) &&& 31).toUInt32).toInt32)])) _
      refine own_go (fun t k => XS.istoreN X0.here hx rfl (hb hby d_jdk_33_method_48_code_61) rfl (l' := #[.val (.int ((i).toUInt32 >>> ((4 : Int32) &&& 31).toUInt32).toInt32), .val (.int (n + (4 : Int32)))]) rfl k) ?_
      exact go62 _ _ ((show own_n49 n i = _ from if_pos hc2z).symm.trans hr)
    · refine own_go (fun t k => XS.icmpYes X0.here hx rfl (pc0 := 52) (pc' := 62) rfl (hb hby d_jdk_33_method_48_code_52) rfl (flt hc2z).2.2.2 (by decide) (by decide) k) ?_
      show own_G p e below (s₁.setTop (mkF m 62 #[.val (.int i), .val (.int n)] [])) _
      exact go62 _ _ ((show own_n49 n i = _ from if_neg hc2z).symm.trans hr)
  have go34 : ∀ n i : Int32, own_n34 n i = own_ntzI x → own_G p e below (s₁.setTop (mkF m 34 #[.val (.int i), .val (.int n)] [])) (own_P s below ({ frames := 0, cells := 0, slots := 0, locals := 0 } : Room).cells ({ frames := 0, cells := 0, slots := 0, locals := 0 } : Room).slots (Q_own_nzi Z x h0)) := by
    intro n i hr
    show own_G p e below (s₁.setTop (mkF m 34 #[.val (.int i), .val (.int n)] [])) _
    refine own_go (fun t k => XS.iloadN X0.here hx rfl (hb hby d_jdk_33_method_48_code_34) rfl k) ?_
    refine own_go (fun t k => XS.sipush X0.here hx rfl (hb hby d_jdk_33_method_48_code_35) k) ?_
    by_cases hc3z : (256 : Int32) < i
    · refine own_go (fun t k => XS.icmpNo X0.here hx rfl (hb hby d_jdk_33_method_48_code_38) rfl (tlt hc3z).2.2.2 k) ?_
      show own_G p e below (s₁.setTop (mkF m 41 #[.val (.int i), .val (.int n)] [])) _
      refine own_go (fun t k => XS.iinc X0.here hx rfl (hb hby d_jdk_33_method_48_code_41) rfl (l' := #[.val (.int i), .val (.int (n + (8 : Int32)))]) rfl k) ?_
      refine own_go (fun t k => XS.iloadN X0.here hx rfl (hb hby d_jdk_33_method_48_code_44) rfl k) ?_
      refine own_go (fun t k => XS.bipush X0.here hx rfl (hb hby d_jdk_33_method_48_code_45) k) ?_
      refine own_go (fun t k => XS.iushr X0.here hx rfl (hb hby d_jdk_33_method_48_code_47) rfl k) ?_
      show own_G p e below (s₁.setTop (mkF m 48 #[.val (.int i), .val (.int (n + (8 : Int32)))] [(.int ((i).toUInt32 >>> ((8 : Int32) &&& 31).toUInt32).toInt32)])) _
      refine own_go (fun t k => XS.istoreN X0.here hx rfl (hb hby d_jdk_33_method_48_code_48) rfl (l' := #[.val (.int ((i).toUInt32 >>> ((8 : Int32) &&& 31).toUInt32).toInt32), .val (.int (n + (8 : Int32)))]) rfl k) ?_
      exact go49 _ _ ((show own_n34 n i = _ from if_pos hc3z).symm.trans hr)
    · refine own_go (fun t k => XS.icmpYes X0.here hx rfl (pc0 := 38) (pc' := 49) rfl (hb hby d_jdk_33_method_48_code_38) rfl (flt hc3z).2.2.2 (by decide) (by decide) k) ?_
      show own_G p e below (s₁.setTop (mkF m 49 #[.val (.int i), .val (.int n)] [])) _
      exact go49 _ _ ((show own_n34 n i = _ from if_neg hc3z).symm.trans hr)
  have go19 : ∀ n i : Int32, own_n19 n i = own_ntzI x → own_G p e below (s₁.setTop (mkF m 19 #[.val (.int i), .val (.int n)] [])) (own_P s below ({ frames := 0, cells := 0, slots := 0, locals := 0 } : Room).cells ({ frames := 0, cells := 0, slots := 0, locals := 0 } : Room).slots (Q_own_nzi Z x h0)) := by
    intro n i hr
    show own_G p e below (s₁.setTop (mkF m 19 #[.val (.int i), .val (.int n)] [])) _
    refine own_go (fun t k => XS.iloadN X0.here hx rfl (hb hby d_jdk_33_method_48_code_19) rfl k) ?_
    refine own_go (fun t k => X0.ldcWI hx hown (mvT hZ (own_hw hw 82 rfl)) rfl (hb hby d_jdk_33_method_48_code_20) k) ?_
    by_cases hc4z : (65536 : Int32) < i
    · refine own_go (fun t k => XS.icmpNo X0.here hx rfl (hb hby d_jdk_33_method_48_code_23) rfl (tlt hc4z).2.2.2 k) ?_
      show own_G p e below (s₁.setTop (mkF m 26 #[.val (.int i), .val (.int n)] [])) _
      refine own_go (fun t k => XS.iinc X0.here hx rfl (hb hby d_jdk_33_method_48_code_26) rfl (l' := #[.val (.int i), .val (.int (n + (16 : Int32)))]) rfl k) ?_
      refine own_go (fun t k => XS.iloadN X0.here hx rfl (hb hby d_jdk_33_method_48_code_29) rfl k) ?_
      refine own_go (fun t k => XS.bipush X0.here hx rfl (hb hby d_jdk_33_method_48_code_30) k) ?_
      refine own_go (fun t k => XS.iushr X0.here hx rfl (hb hby d_jdk_33_method_48_code_32) rfl k) ?_
      show own_G p e below (s₁.setTop (mkF m 33 #[.val (.int i), .val (.int (n + (16 : Int32)))] [(.int ((i).toUInt32 >>> ((16 : Int32) &&& 31).toUInt32).toInt32)])) _
      refine own_go (fun t k => XS.istoreN X0.here hx rfl (hb hby d_jdk_33_method_48_code_33) rfl (l' := #[.val (.int ((i).toUInt32 >>> ((16 : Int32) &&& 31).toUInt32).toInt32), .val (.int (n + (16 : Int32)))]) rfl k) ?_
      exact go34 _ _ ((show own_n19 n i = _ from if_pos hc4z).symm.trans hr)
    · refine own_go (fun t k => XS.icmpYes X0.here hx rfl (pc0 := 23) (pc' := 34) rfl (hb hby d_jdk_33_method_48_code_23) rfl (flt hc4z).2.2.2 (by decide) (by decide) k) ?_
      show own_G p e below (s₁.setTop (mkF m 34 #[.val (.int i), .val (.int n)] [])) _
      exact go34 _ _ ((show own_n19 n i = _ from if_neg hc4z).symm.trans hr)
  refine own_go (fun t k => XS.iloadN X0.here hx rfl (hb hby d_jdk_33_method_48_code_0) rfl k) ?_
  refine own_go (fun t k => XS.iconst X0.here hx rfl (hb hby d_jdk_33_method_48_code_1) k) ?_
  refine own_go (fun t k => XS.ixor X0.here hx rfl (hb hby d_jdk_33_method_48_code_2) rfl k) ?_
  refine own_go (fun t k => XS.iloadN X0.here hx rfl (hb hby d_jdk_33_method_48_code_3) rfl k) ?_
  show own_G p e below (s₁.setTop (mkF m 4 #[.val (.int x), .unset] [(.int x), (.int (x ^^^ (-1 : Int32)))])) _
  refine own_go (fun t k => XS.iconst X0.here hx rfl (hb hby d_jdk_33_method_48_code_4) k) ?_
  refine own_go (fun t k => XS.isub X0.here hx rfl (hb hby d_jdk_33_method_48_code_5) rfl k) ?_
  refine own_go (fun t k => XS.iand X0.here hx rfl (hb hby d_jdk_33_method_48_code_6) rfl k) ?_
  refine own_go (fun t k => XS.istoreN X0.here hx rfl (hb hby d_jdk_33_method_48_code_7) rfl (l' := #[.val (.int ((x ^^^ (-1 : Int32)) &&& (x - (1 : Int32)))), .unset]) rfl k) ?_
  show own_G p e below (s₁.setTop (mkF m 8 #[.val (.int ((x ^^^ (-1 : Int32)) &&& (x - (1 : Int32)))), .unset] [])) _
  refine own_go (fun t k => XS.iloadN X0.here hx rfl (hb hby d_jdk_33_method_48_code_8) rfl k) ?_
  by_cases hc5z : (0 : Int32) < ((x ^^^ (-1 : Int32)) &&& (x - (1 : Int32)))
  · refine own_go (fun t k => XS.ifYes X0.here hx rfl (pc0 := 9) (pc' := 17) rfl (hb hby d_jdk_33_method_48_code_9) rfl ((if0 _ _).trans (tlt hc5z).2.2.1) (by decide) (by decide) k) ?_
    show own_G p e below (s₁.setTop (mkF m 17 #[.val (.int ((x ^^^ (-1 : Int32)) &&& (x - (1 : Int32)))), .unset] [])) _
    refine own_go (fun t k => XS.iconst X0.here hx rfl (hb hby d_jdk_33_method_48_code_17) k) ?_
    refine own_go (fun t k => XS.istoreN X0.here hx rfl (hb hby d_jdk_33_method_48_code_18) rfl (l' := #[.val (.int ((x ^^^ (-1 : Int32)) &&& (x - (1 : Int32)))), .val (.int (1 : Int32))]) rfl k) ?_
    exact go19 _ _ (show own_ntzI x = _ from if_pos hc5z).symm
  · refine own_go (fun t k => XS.ifNo X0.here hx rfl (hb hby d_jdk_33_method_48_code_9) rfl ((if0 _ _).trans (flt hc5z).2.2.1) k) ?_
    show own_G p e below (s₁.setTop (mkF m 12 #[.val (.int ((x ^^^ (-1 : Int32)) &&& (x - (1 : Int32)))), .unset] [])) _
    refine own_go (fun t k => XS.iloadN X0.here hx rfl (hb hby d_jdk_33_method_48_code_12) rfl k) ?_
    refine own_go (fun t k => XS.bipush X0.here hx rfl (hb hby d_jdk_33_method_48_code_13) k) ?_
    refine own_go (fun t k => XS.iand X0.here hx rfl (hb hby d_jdk_33_method_48_code_15) rfl k) ?_
    exact own_ret X0 hx Bd.returns rfl (Or.inl ⟨rfl, Or.inl rfl, _, rfl⟩) (hb hby d_jdk_33_method_48_code_16) hlk (Nat.le_of_ble_eq_true rfl) (Nat.le_of_ble_eq_true rfl) (by show Q_own_nzi Z x h0 _ s₁.heap _; rw [e0]; exact ⟨(congrArg (fun z => some (Value.int z)) (show own_ntzI x = _ from if_neg hc5z).symm), N0, rfl⟩)
theorem ef_own_nzl (m : MethodId) (x0 : Int64) : entryFrame m #[(.long x0)] 3 = mkF m 0 #[.val (.long x0), .second, .unset] [] := by first | (simp [entryFrame, mkF, argsToLocals, Value.category]; done) | rfl
theorem pf_own_nzl : plainFor own_m5 = true := plainFor_of_name (by simp [plainName, overriddenIn])
theorem d_jdk_35_method_49_code_0 : decode jdk_35_method_49_code 0 = .ok (.lload_n 0, 1) := by decide +kernel
theorem d_jdk_35_method_49_code_1 : decode jdk_35_method_49_code 1 = .ok (.l2i, 1) := by decide +kernel
theorem d_jdk_35_method_49_code_10 : decode jdk_35_method_49_code 10 = .ok (.bipush 32, 2) := by decide +kernel
theorem d_jdk_35_method_49_code_12 : decode jdk_35_method_49_code 12 = .ok (.lushr, 1) := by decide +kernel
theorem d_jdk_35_method_49_code_13 : decode jdk_35_method_49_code 13 = .ok (.l2i, 1) := by decide +kernel
theorem d_jdk_35_method_49_code_14 : decode jdk_35_method_49_code 14 = .ok (.invokestatic 311, 3) := by decide +kernel
theorem d_jdk_35_method_49_code_17 : decode jdk_35_method_49_code 17 = .ok (.iadd, 1) := by decide +kernel
theorem d_jdk_35_method_49_code_18 : decode jdk_35_method_49_code 18 = .ok (.goto 7, 3) := by decide +kernel
theorem d_jdk_35_method_49_code_2 : decode jdk_35_method_49_code 2 = .ok (.istore_n 2, 1) := by decide +kernel
theorem d_jdk_35_method_49_code_21 : decode jdk_35_method_49_code 21 = .ok (.iload_n 2, 1) := by decide +kernel
theorem d_jdk_35_method_49_code_22 : decode jdk_35_method_49_code 22 = .ok (.invokestatic 311, 3) := by decide +kernel
theorem d_jdk_35_method_49_code_25 : decode jdk_35_method_49_code 25 = .ok (.ireturn, 1) := by decide +kernel
theorem d_jdk_35_method_49_code_3 : decode jdk_35_method_49_code 3 = .ok (.iload_n 2, 1) := by decide +kernel
theorem d_jdk_35_method_49_code_4 : decode jdk_35_method_49_code 4 = .ok (.ifCond .ne 17, 3) := by decide +kernel
theorem d_jdk_35_method_49_code_7 : decode jdk_35_method_49_code 7 = .ok (.bipush 32, 2) := by decide +kernel
theorem d_jdk_35_method_49_code_9 : decode jdk_35_method_49_code 9 = .ok (.lload_n 0, 1) := by decide +kernel
def Q_own_nzl (Z : State) (x : Int64) (h0 : Heap) (v : Option Value) (h : Heap) (L : List Loc) : Prop := v = some (.int (own_ntzL x)) ∧ Fr Z.heap.size L ∧ h = h0
set_option maxRecDepth 65536 in
set_option maxHeartbeats 40000000 in
theorem own_nzl (l : Launch) (Z : State) (a0 : Array Value) (hw : ∀ d ∈ tables_1, d.before a0 Z = true) (ws : List Jvm.Cond) (x : Int64) (h0 : Heap) (O0 : Ext Z.heap h0) :
    MetFree l own_m5 (head1 (Jvm.Cond.code own_m5 jdk_35_method_49_code 3 (some .int) :: ws) ({ frames := 1, cells := 0, slots := 0, locals := 15 } : Room)) (fun aa U => aa = #[(.long x)] ∧ Z.Warmed39 U.vm ∧ U.heap = h0) (fun _ _ _ _ _ => True) (fun _ U o U' => ∃ v L, o = .returned v ∧ Q_own_nzl Z x h0 v U'.heap L ∧ FrameEnd U o U' L ({ frames := 1, cells := 0, slots := 0, locals := 15 } : Room).cells ({ frames := 1, cells := 0, slots := 0, locals := 15 } : Room).slots) := by
  refine MetFree.of_bodySF pf_own_nzl hisR ?_
  intro p e s m args below meth c s₁ Bd hml0 hP hK
  obtain ⟨rfl, hZ, hh⟩ := hP
  have hx := Bd.exec
  have hby := Bd.bytes
  have hlk := BodyLoose.notSynchronized Bd
  have hml : c.maxLocals = 3 := hml0
  have hown : s.vm.findClass "java/lang/Long" = some m.cls := findClass_of_methodNamed Bd.named
  have hnm := (name_of_methodNamed Bd.named Bd.method).1
  have X0 : Stand p l e ({ frames := 1, cells := 0, slots := 0, locals := 15 } : Room) s m #[(.long x)] below meth c s₁ [] 0 0 := Stand.of_body Bd
  have e0 : s₁.heap = h0 := by rw [← hh, Bd.state]; rfl
  have N0 := Fr.nil Z.heap.size
  have K0 : Keep h0 h0 [] := Keep.refl _ _
  refine own_start (Q := Q_own_nzl Z x h0) (ef_own_nzl m (x)) ?_
  show own_G p e below (s₁.setTop (mkF m 0 #[.val (.long x), .second, .unset] [])) _
  refine own_go (fun t k => XS.lloadN X0.here hx rfl (hb hby d_jdk_35_method_49_code_0) rfl k) ?_
  refine own_go (fun t k => XS.l2i X0.here hx rfl (hb hby d_jdk_35_method_49_code_1) rfl k) ?_
  refine own_go (fun t k => XS.istoreN X0.here hx rfl (hb hby d_jdk_35_method_49_code_2) rfl (l' := #[.val (.long x), .second, .val (.int ((x).toInt32))]) rfl k) ?_
  refine own_go (fun t k => XS.iloadN X0.here hx rfl (hb hby d_jdk_35_method_49_code_3) rfl k) ?_
  show own_G p e below (s₁.setTop (mkF m 4 #[.val (.long x), .second, .val (.int ((x).toInt32))] [(.int ((x).toInt32))])) _
  by_cases hc1z : ((x).toInt32) = (0 : Int32)
  · refine own_go (fun t k => XS.ifNo X0.here hx rfl (hb hby d_jdk_35_method_49_code_4) rfl ((if0 _ _).trans (teq hc1z).2) k) ?_
    show own_G p e below (s₁.setTop (mkF m 7 #[.val (.long x), .second, .val (.int ((x).toInt32))] [])) _
    refine own_go (fun t k => XS.bipush X0.here hx rfl (hb hby d_jdk_35_method_49_code_7) k) ?_
    refine own_go (fun t k => XS.lloadN X0.here hx rfl (hb hby d_jdk_35_method_49_code_9) rfl k) ?_
    refine own_go (fun t k => XS.bipush X0.here hx rfl (hb hby d_jdk_35_method_49_code_10) k) ?_
    refine own_go (fun t k => XS.lushr X0.here hx rfl (hb hby d_jdk_35_method_49_code_12) rfl k) ?_
    show own_G p e below (s₁.setTop (mkF m 13 #[.val (.long x), .second, .val (.int ((x).toInt32))] [(.long ((x).toUInt64 >>> ((32 : Int32) &&& 0x3f).toInt64.toUInt64).toInt64), (.int (32 : Int32))])) _
    refine own_go (fun t k => XS.l2i X0.here hx rfl (hb hby d_jdk_35_method_49_code_13) rfl k) ?_
    obtain ⟨_, _, ⟨T2z, L2z, k2z, n2z⟩, -, X2z, ⟨Lc2z, hQ2z, l2z, y2z, z2z⟩, st2z⟩ := Jvm.LawKit.callS X0 hx (y := own_m4) hown (own_mw hZ hw 78 rfl) (own_mw hZ hw 79 rfl) (own_mw hZ hw 80 rfl) (own_mw hZ hw 81 rfl) (by decide) (backOf (W := 1) (own_nzi l Z a0 hw [] ((((x).toUInt64 >>> ((32 : Int32) &&& 0x3f).toInt64.toUInt64).toInt64).toInt32) h0 O0) hZ (own_hw hw 81 rfl) (own_hw hw 80 rfl) (by decide) (by decide)) (g := (mkF m 14 #[.val (.long x), .second, .val (.int ((x).toInt32))] [(.int ((((x).toUInt64 >>> ((32 : Int32) &&& 0x3f).toInt64.toUInt64).toInt64).toInt32)), (.int (32 : Int32))])) rfl (by rw [hml]; rfl) (argsL := [(.int ((((x).toUInt64 >>> ((32 : Int32) &&& 0x3f).toInt64.toUInt64).toInt64).toInt32))]) (rest := [(.int (32 : Int32))]) (lenOf pd_2087992008 rfl) rfl (by show 2 * 0 + _ ≤ _; exact Nat.le_of_eq rfl) (hb hby d_jdk_35_method_49_code_14) (fun _ _ => ⟨rfl, e0, (by decide : 0 + 0 ≤ _), (by decide : 0 + 0 ≤ _)⟩)
    dsimp only [Pt.U, Pt.locs, Pt.cells, Pt.slots] at X2z l2z y2z z2z st2z hQ2z
    subst l2z y2z z2z
    obtain ⟨rfl, NQ2z, K2zq⟩ := hQ2z
    refine own_go st2z ?_
    have N2z := Fr.app N0 NQ2z
    show own_G p e below (T2z.setTop (mkF m 17 #[.val (.long x), .second, .val (.int ((x).toInt32))] [(.int (own_ntzI ((((x).toUInt64 >>> ((32 : Int32) &&& 0x3f).toInt64.toUInt64).toInt64).toInt32))), (.int (32 : Int32))])) _
    refine own_go (fun t k => XS.iadd X2z.here hx rfl (hb hby d_jdk_35_method_49_code_17) rfl k) ?_
    refine own_go (fun t k => XS.goto X2z.here hx rfl (pc0 := 18) (pc' := 25) rfl (hb hby d_jdk_35_method_49_code_18) (by decide) (by decide) k) ?_
    show own_G p e below (T2z.setTop (mkF m 25 #[.val (.long x), .second, .val (.int ((x).toInt32))] [(.int ((32 : Int32) + (own_ntzI ((((x).toUInt64 >>> ((32 : Int32) &&& 0x3f).toInt64.toUInt64).toInt64).toInt32))))])) _
    exact own_ret X2z hx Bd.returns rfl (Or.inl ⟨rfl, Or.inl rfl, _, rfl⟩) (hb hby d_jdk_35_method_49_code_25) hlk (Nat.le_of_ble_eq_true rfl) (Nat.le_of_ble_eq_true rfl) (by show Q_own_nzl Z x h0 _ T2z.heap _; rw [K2zq]; exact ⟨(congrArg (fun z => some (Value.int z)) (show own_ntzL x = _ from if_pos hc1z).symm), N2z, rfl⟩)
  · refine own_go (fun t k => XS.ifYes X0.here hx rfl (pc0 := 4) (pc' := 21) rfl (hb hby d_jdk_35_method_49_code_4) rfl ((if0 _ _).trans (feq hc1z).2) (by decide) (by decide) k) ?_
    show own_G p e below (s₁.setTop (mkF m 21 #[.val (.long x), .second, .val (.int ((x).toInt32))] [])) _
    refine own_go (fun t k => XS.iloadN X0.here hx rfl (hb hby d_jdk_35_method_49_code_21) rfl k) ?_
    obtain ⟨_, _, ⟨T3z, L3z, k3z, n3z⟩, -, X3z, ⟨Lc3z, hQ3z, l3z, y3z, z3z⟩, st3z⟩ := Jvm.LawKit.callS X0 hx (y := own_m4) hown (own_mw hZ hw 78 rfl) (own_mw hZ hw 79 rfl) (own_mw hZ hw 80 rfl) (own_mw hZ hw 81 rfl) (by decide) (backOf (W := 0) (own_nzi l Z a0 hw [] ((x).toInt32) h0 O0) hZ (own_hw hw 81 rfl) (own_hw hw 80 rfl) (by decide) (by decide)) (g := (mkF m 22 #[.val (.long x), .second, .val (.int ((x).toInt32))] [(.int ((x).toInt32))])) rfl (by rw [hml]; rfl) (argsL := [(.int ((x).toInt32))]) (rest := []) (lenOf pd_2087992008 rfl) rfl (by show 2 * 0 + _ ≤ _; exact Nat.le_of_eq rfl) (hb hby d_jdk_35_method_49_code_22) (fun _ _ => ⟨rfl, e0, (by decide : 0 + 0 ≤ _), (by decide : 0 + 0 ≤ _)⟩)
    dsimp only [Pt.U, Pt.locs, Pt.cells, Pt.slots] at X3z l3z y3z z3z st3z hQ3z
    subst l3z y3z z3z
    obtain ⟨rfl, NQ3z, K3zq⟩ := hQ3z
    refine own_go st3z ?_
    have N3z := Fr.app N0 NQ3z
    show own_G p e below (T3z.setTop (mkF m 25 #[.val (.long x), .second, .val (.int ((x).toInt32))] [(.int (own_ntzI ((x).toInt32)))])) _
    exact own_ret X3z hx Bd.returns rfl (Or.inl ⟨rfl, Or.inl rfl, _, rfl⟩) (hb hby d_jdk_35_method_49_code_25) hlk (Nat.le_of_ble_eq_true rfl) (Nat.le_of_ble_eq_true rfl) (by show Q_own_nzl Z x h0 _ T3z.heap _; rw [K3zq]; exact ⟨(congrArg (fun z => some (Value.int z)) (show own_ntzL x = _ from if_neg hc1z).symm), N3z, rfl⟩)
theorem ef_own_wr0 (m : MethodId) (x0 : Addr) (x1 : Int32) : entryFrame m #[(.ref x0), (.int x1)] 3 = mkF m 0 #[.val (.ref x0), .val (.int x1), .unset] [] := by first | (simp [entryFrame, mkF, argsToLocals, Value.category]; done) | rfl
theorem pf_own_wr0 : plainFor own_m6 = true := plainFor_of_name (by simp [plainName, overriddenIn])
theorem d_prog_67_method_6_code_0 : decode prog_67_method_6_code 0 = .ok (.aload_n 0, 1) := by decide +kernel
theorem d_prog_67_method_6_code_1 : decode prog_67_method_6_code 1 = .ok (.getfield 22, 3) := by decide +kernel
theorem d_prog_67_method_6_code_4 : decode prog_67_method_6_code 4 = .ok (.iload_n 1, 1) := by decide +kernel
theorem d_prog_67_method_6_code_42 : decode prog_67_method_6_code 42 = .ok (.aload_n 0, 1) := by decide +kernel
theorem d_prog_67_method_6_code_43 : decode prog_67_method_6_code 43 = .ok (.getfield 17, 3) := by decide +kernel
theorem d_prog_67_method_6_code_46 : decode prog_67_method_6_code 46 = .ok (.iload_n 1, 1) := by decide +kernel
theorem d_prog_67_method_6_code_47 : decode prog_67_method_6_code 47 = .ok (.aaload, 1) := by decide +kernel
theorem d_prog_67_method_6_code_48 : decode prog_67_method_6_code 48 = .ok (.areturn, 1) := by decide +kernel
theorem d_prog_67_method_6_code_5 : decode prog_67_method_6_code 5 = .ok (.aaload, 1) := by decide +kernel
theorem d_prog_67_method_6_code_6 : decode prog_67_method_6_code 6 = .ok (.astore_n 2, 1) := by decide +kernel
theorem d_prog_67_method_6_code_7 : decode prog_67_method_6_code 7 = .ok (.aload_n 2, 1) := by decide +kernel
theorem d_prog_67_method_6_code_8 : decode prog_67_method_6_code 8 = .ok (.ifnull 34, 3) := by decide +kernel
def Q_own_wr0 (Z : State) (r : Addr) (N : Nat) (wd : Nat) (A : (Nat → Addr)) (K : (Nat → ClassId)) (rows : (Nat → Addr)) (rc : (Nat → Nat → Int64)) (ls : (Nat → Value)) (pr : (Nat → Value)) (wt : (Nat → Int64)) (ra : (Nat → Int64)) (ea : (Nat → Int64)) (st : Int64) (n0 : Nat) (q : Nat) (x : Int32) (h0 : Heap) (v : Option Value) (h : Heap) (L : List Loc) : Prop := v = some (.ref (rows q)) ∧ Fr Z.heap.size L ∧ h = h0
set_option maxRecDepth 65536 in
set_option maxHeartbeats 40000000 in
theorem own_wr0 (l : Launch) (Z : State) (a0 : Array Value) (hw : ∀ d ∈ tables_1, d.before a0 Z = true) (ws : List Jvm.Cond) (r : Addr) (N : Nat) (wd : Nat) (A : (Nat → Addr)) (K : (Nat → ClassId)) (rows : (Nat → Addr)) (rc : (Nat → Nat → Int64)) (ls : (Nat → Value)) (pr : (Nat → Value)) (wt : (Nat → Int64)) (ra : (Nat → Int64)) (ea : (Nat → Int64)) (st : Int64) (n0 : Nat) (q : Nat) (x : Int32) (h0 : Heap) (O0 : Ext Z.heap h0) (II : own_I Z h0 r N wd A K rows rc ls pr wt ra ea st) (DD : own_D n0 r N A rows) (hn0 : Z.heap.size ≤ n0) (hN : N ≤ 129) (hwd : wd ≤ 3) (hNw : ∀ i, i < N → i / 64 < wd) (OA0 : OvrA Z (K 0) .long "[J") (OA1 : Ovr Z (K 1) own_s0) (OA2 : OvrA Z (K 2) .long "[J") (hq : x.toInt = (q : Int)) (hqN : q < N) (hls : ls q = .null) :
    MetFree l own_m6 (head1 (Jvm.Cond.code own_m6 prog_67_method_6_code 3 (some (.array .long)) :: ws) ({ frames := 0, cells := 0, slots := 0, locals := 0 } : Room)) (fun aa U => aa = #[(.ref r), (.int x)] ∧ Z.Warmed39 U.vm ∧ U.heap = h0) (fun _ _ _ _ _ => True) (fun _ U o U' => ∃ v L, o = .returned v ∧ Q_own_wr0 Z r N wd A K rows rc ls pr wt ra ea st n0 q x h0 v U'.heap L ∧ FrameEnd U o U' L ({ frames := 0, cells := 0, slots := 0, locals := 0 } : Room).cells ({ frames := 0, cells := 0, slots := 0, locals := 0 } : Room).slots) := by
  refine MetFree.of_bodySF pf_own_wr0 hisR ?_
  intro p e s m args below meth c s₁ Bd hml0 hP hK
  obtain ⟨rfl, hZ, hh⟩ := hP
  have hx := Bd.exec
  have hby := Bd.bytes
  have hlk := BodyLoose.notSynchronized Bd
  have hml : c.maxLocals = 3 := hml0
  have hown : s.vm.findClass own_s1 = some m.cls := findClass_of_methodNamed Bd.named
  have hnm := (name_of_methodNamed Bd.named Bd.method).1
  have X0 : Stand p l e ({ frames := 0, cells := 0, slots := 0, locals := 0 } : Room) s m #[(.ref r), (.int x)] below meth c s₁ [] 0 0 := Stand.of_body Bd
  have e0 : s₁.heap = h0 := by rw [← hh, Bd.state]; rfl
  have N0 := Fr.nil Z.heap.size
  have K0 : Keep h0 h0 [] := Keep.refl _ _
  refine own_start (Q := Q_own_wr0 Z r N wd A K rows rc ls pr wt ra ea st n0 q x h0) (ef_own_wr0 m (r) (x)) ?_
  show own_G p e below (s₁.setTop (mkF m 0 #[.val (.ref r), .val (.int x), .unset] [])) _
  refine own_go (fun t k => XS.aloadN X0.here hx rfl (hb hby d_prog_67_method_6_code_0) rfl rfl k) ?_
  obtain ⟨T1z, X1z, e1z, st1z⟩ := getF X0 hx hZ hown (host := "") (Or.inl (own_hw hw 19 rfl)) Via.refl e0 II.2.2.2.1 (g := (mkF m 1 #[.val (.ref r), .val (.int x), .unset] [(.ref r)])) rfl rfl (hb hby d_prog_67_method_6_code_1)
  refine own_go st1z ?_
  refine own_go (fun t k => XS.iloadN X1z.here hx rfl (hb hby d_prog_67_method_6_code_4) rfl k) ?_
  refine own_go (own_ldA X1z hx hZ e1z II.2.2.2.2.2.2.2.2.2.2.1 rfl (i := q) (v := .null) hq (by rw [own_rget _ hqN, hls]) (g := (mkF m 5 #[.val (.ref r), .val (.int x), .unset] [(.int x), (.ref (A 1))])) rfl rfl (hb hby d_prog_67_method_6_code_5)) ?_
  show own_G p e below (T1z.setTop (mkF m 6 #[.val (.ref r), .val (.int x), .unset] [.null])) _
  refine own_go (fun t k => XS.astoreN X1z.here hx rfl (hb hby d_prog_67_method_6_code_6) rfl rfl (l' := #[.val (.ref r), .val (.int x), .val .null]) rfl k) ?_
  refine own_go (fun t k => XS.aloadN X1z.here hx rfl (hb hby d_prog_67_method_6_code_7) rfl rfl k) ?_
  refine own_go (fun t k => XS.ifnullYes X1z.here hx rfl (pc0 := 8) (pc' := 42) rfl (hb hby d_prog_67_method_6_code_8) rfl (by decide) (by decide) k) ?_
  show own_G p e below (T1z.setTop (mkF m 42 #[.val (.ref r), .val (.int x), .val .null] [])) _
  refine own_go (fun t k => XS.aloadN X1z.here hx rfl (hb hby d_prog_67_method_6_code_42) rfl rfl k) ?_
  obtain ⟨T2z, X2z, e2z, st2z⟩ := getF X1z hx hZ hown (host := "") (Or.inl (own_hw hw 15 rfl)) Via.refl e1z II.2.2.1 (g := (mkF m 43 #[.val (.ref r), .val (.int x), .val .null] [(.ref r)])) rfl rfl (hb hby d_prog_67_method_6_code_43)
  refine own_go st2z ?_
  refine own_go (fun t k => XS.iloadN X2z.here hx rfl (hb hby d_prog_67_method_6_code_46) rfl k) ?_
  refine own_go (own_ldA X2z hx hZ e2z II.2.2.2.2.2.2.2.2.2.1 rfl (i := q) (v := (.ref (rows q))) hq (own_rget (fun i => Value.ref (rows i)) hqN) (g := (mkF m 47 #[.val (.ref r), .val (.int x), .val .null] [(.int x), (.ref (A 0))])) rfl rfl (hb hby d_prog_67_method_6_code_47)) ?_
  show own_G p e below (T2z.setTop (mkF m 48 #[.val (.ref r), .val (.int x), .val .null] [(.ref (rows q))])) _
  exact own_ret X2z hx Bd.returns rfl (Or.inr (Or.inr (Or.inr (Or.inr ⟨rfl, rfl, rfl⟩)))) (hb hby d_prog_67_method_6_code_48) hlk (Nat.le_of_ble_eq_true rfl) (Nat.le_of_ble_eq_true rfl) (by show Q_own_wr0 Z r N wd A K rows rc ls pr wt ra ea st n0 q x h0 _ T2z.heap _; rw [e2z]; exact ⟨rfl, N0, rfl⟩)
theorem own_V.eqf {Z : State} {h : Heap} {a : Addr} {k : ClassId} {ty : FieldType} {n q : Nat} {rows : Nat → Addr} {nr : Addr} (F : own_V Z h a k ty n (own_upd (fun i => Value.ref (rows i)) q (.ref nr))) : own_V Z h a k ty n (fun i => .ref (own_upd rows q nr i)) := by
  have e : own_upd (fun i => Value.ref (rows i)) q (.ref nr) = fun i => Value.ref (own_upd rows q nr i) := by
    funext i; unfold own_upd; split <;> rfl
  exact e ▸ F
theorem ef_own_wrc (m : MethodId) (x0 : Addr) (x1 : Int32) : entryFrame m #[(.ref x0), (.int x1)] 3 = mkF m 0 #[.val (.ref x0), .val (.int x1), .unset] [] := by first | (simp [entryFrame, mkF, argsToLocals, Value.category]; done) | rfl
theorem pf_own_wrc : plainFor own_m6 = true := plainFor_of_name (by simp [plainName, overriddenIn])
theorem d_prog_67_method_6_code_11 : decode prog_67_method_6_code 11 = .ok (.aload_n 2, 1) := by decide +kernel
theorem d_prog_67_method_6_code_12 : decode prog_67_method_6_code 12 = .ok (.getfield 62, 3) := by decide +kernel
theorem d_prog_67_method_6_code_15 : decode prog_67_method_6_code 15 = .ok (.aload_n 0, 1) := by decide +kernel
theorem d_prog_67_method_6_code_16 : decode prog_67_method_6_code 16 = .ok (.getfield 17, 3) := by decide +kernel
theorem d_prog_67_method_6_code_19 : decode prog_67_method_6_code 19 = .ok (.iload_n 1, 1) := by decide +kernel
theorem d_prog_67_method_6_code_20 : decode prog_67_method_6_code 20 = .ok (.aaload, 1) := by decide +kernel
theorem d_prog_67_method_6_code_21 : decode prog_67_method_6_code 21 = .ok (.if_acmp .ne 21, 3) := by decide +kernel
theorem d_prog_67_method_6_code_24 : decode prog_67_method_6_code 24 = .ok (.aload_n 0, 1) := by decide +kernel
theorem d_prog_67_method_6_code_25 : decode prog_67_method_6_code 25 = .ok (.getfield 17, 3) := by decide +kernel
theorem d_prog_67_method_6_code_28 : decode prog_67_method_6_code 28 = .ok (.iload_n 1, 1) := by decide +kernel
theorem d_prog_67_method_6_code_29 : decode prog_67_method_6_code 29 = .ok (.aload_n 0, 1) := by decide +kernel
theorem d_prog_67_method_6_code_30 : decode prog_67_method_6_code 30 = .ok (.getfield 17, 3) := by decide +kernel
theorem d_prog_67_method_6_code_33 : decode prog_67_method_6_code 33 = .ok (.iload_n 1, 1) := by decide +kernel
theorem d_prog_67_method_6_code_34 : decode prog_67_method_6_code 34 = .ok (.aaload, 1) := by decide +kernel
theorem d_prog_67_method_6_code_35 : decode prog_67_method_6_code 35 = .ok (.invokevirtual 72, 3) := by decide +kernel
theorem d_prog_67_method_6_code_38 : decode prog_67_method_6_code 38 = .ok (.checkcast 26, 3) := by decide +kernel
theorem d_prog_67_method_6_code_41 : decode prog_67_method_6_code 41 = .ok (.aastore, 1) := by decide +kernel
def Q_own_wrc (Z : State) (r : Addr) (N : Nat) (wd : Nat) (A : (Nat → Addr)) (K : (Nat → ClassId)) (rows : (Nat → Addr)) (rc : (Nat → Nat → Int64)) (ls : (Nat → Value)) (pr : (Nat → Value)) (wt : (Nat → Int64)) (ra : (Nat → Int64)) (ea : (Nat → Int64)) (st : Int64) (n0 : Nat) (q : Nat) (x : Int32) (kn : Addr) (h0 : Heap) (v : Option Value) (h : Heap) (L : List Loc) : Prop := ∃ nr : Addr, v = some (.ref nr) ∧ Fr Z.heap.size L ∧ Keep h0 h [(A 0)] ∧ (own_I Z h r N wd A K (own_upd rows q nr) rc ls pr wt ra ea st) ∧ (h0.size ≤ nr) ∧ (nr ∉ own_ws r N A rows)
set_option maxRecDepth 65536 in
set_option maxHeartbeats 40000000 in
theorem own_wrc (l : Launch) (Z : State) (a0 : Array Value) (hw : ∀ d ∈ tables_1, d.before a0 Z = true) (ws : List Jvm.Cond) (r : Addr) (N : Nat) (wd : Nat) (A : (Nat → Addr)) (K : (Nat → ClassId)) (rows : (Nat → Addr)) (rc : (Nat → Nat → Int64)) (ls : (Nat → Value)) (pr : (Nat → Value)) (wt : (Nat → Int64)) (ra : (Nat → Int64)) (ea : (Nat → Int64)) (st : Int64) (n0 : Nat) (q : Nat) (x : Int32) (kn : Addr) (h0 : Heap) (O0 : Ext Z.heap h0) (II : own_I Z h0 r N wd A K rows rc ls pr wt ra ea st) (DD : own_D n0 r N A rows) (hn0 : Z.heap.size ≤ n0) (hN : N ≤ 129) (hwd : wd ≤ 3) (hNw : ∀ i, i < N → i / 64 < wd) (OA0 : OvrA Z (K 0) .long "[J") (OA1 : Ovr Z (K 1) own_s0) (OA2 : OvrA Z (K 2) .long "[J") (hq : x.toInt = (q : Int)) (hqN : q < N) (hls : ls q = .ref kn) (q12 : Fld Z h0 kn own_s0 "follows" "[J" (.ref (rows q))) :
    MetFree l own_m6 (head1 (Jvm.Cond.code own_m6 prog_67_method_6_code 3 (some (.array .long)) :: ws) ({ frames := 1, cells := 1, slots := 3, locals := 16 } : Room)) (fun aa U => aa = #[(.ref r), (.int x)] ∧ Z.Warmed39 U.vm ∧ U.heap = h0) (fun _ _ _ _ _ => True) (fun _ U o U' => ∃ v L, o = .returned v ∧ Q_own_wrc Z r N wd A K rows rc ls pr wt ra ea st n0 q x kn h0 v U'.heap L ∧ FrameEnd U o U' L ({ frames := 1, cells := 1, slots := 3, locals := 16 } : Room).cells ({ frames := 1, cells := 1, slots := 3, locals := 16 } : Room).slots) := by
  refine MetFree.of_bodySF pf_own_wrc hisR ?_
  intro p e s m args below meth c s₁ Bd hml0 hP hK
  obtain ⟨rfl, hZ, hh⟩ := hP
  have hx := Bd.exec
  have hby := Bd.bytes
  have hlk := BodyLoose.notSynchronized Bd
  have hml : c.maxLocals = 3 := hml0
  have hown : s.vm.findClass own_s1 = some m.cls := findClass_of_methodNamed Bd.named
  have hnm := (name_of_methodNamed Bd.named Bd.method).1
  have X0 : Stand p l e ({ frames := 1, cells := 1, slots := 3, locals := 16 } : Room) s m #[(.ref r), (.int x)] below meth c s₁ [] 0 0 := Stand.of_body Bd
  have e0 : s₁.heap = h0 := by rw [← hh, Bd.state]; rfl
  have N0 := Fr.nil Z.heap.size
  have K0 : Keep h0 h0 [(A 0)] := Keep.refl _ _
  refine own_start (Q := Q_own_wrc Z r N wd A K rows rc ls pr wt ra ea st n0 q x kn h0) (ef_own_wrc m (r) (x)) ?_
  show own_G p e below (s₁.setTop (mkF m 0 #[.val (.ref r), .val (.int x), .unset] [])) _
  refine own_go (fun t k => XS.aloadN X0.here hx rfl (hb hby d_prog_67_method_6_code_0) rfl rfl k) ?_
  obtain ⟨T1z, X1z, e1z, st1z⟩ := getF X0 hx hZ hown (host := "") (Or.inl (own_hw hw 19 rfl)) Via.refl e0 II.2.2.2.1 (g := (mkF m 1 #[.val (.ref r), .val (.int x), .unset] [(.ref r)])) rfl rfl (hb hby d_prog_67_method_6_code_1)
  refine own_go st1z ?_
  refine own_go (fun t k => XS.iloadN X1z.here hx rfl (hb hby d_prog_67_method_6_code_4) rfl k) ?_
  refine own_go (own_ldA X1z hx hZ e1z II.2.2.2.2.2.2.2.2.2.2.1 rfl (i := q) (v := (.ref kn)) hq (by rw [own_rget _ hqN, hls]) (g := (mkF m 5 #[.val (.ref r), .val (.int x), .unset] [(.int x), (.ref (A 1))])) rfl rfl (hb hby d_prog_67_method_6_code_5)) ?_
  show own_G p e below (T1z.setTop (mkF m 6 #[.val (.ref r), .val (.int x), .unset] [(.ref kn)])) _
  refine own_go (fun t k => XS.astoreN X1z.here hx rfl (hb hby d_prog_67_method_6_code_6) rfl rfl (l' := #[.val (.ref r), .val (.int x), .val (.ref kn)]) rfl k) ?_
  refine own_go (fun t k => XS.aloadN X1z.here hx rfl (hb hby d_prog_67_method_6_code_7) rfl rfl k) ?_
  refine own_go (fun t k => XS.ifnullNo X1z.here hx rfl (hb hby d_prog_67_method_6_code_8) rfl k) ?_
  show own_G p e below (T1z.setTop (mkF m 11 #[.val (.ref r), .val (.int x), .val (.ref kn)] [])) _
  refine own_go (fun t k => XS.aloadN X1z.here hx rfl (hb hby d_prog_67_method_6_code_11) rfl rfl k) ?_
  refine own_go (own_getR X1z hx hZ hown (own_hw hw 72 rfl) Via.refl e1z q12 (g := (mkF m 12 #[.val (.ref r), .val (.int x), .val (.ref kn)] [(.ref kn)])) rfl rfl (hb hby d_prog_67_method_6_code_12)) ?_
  show own_G p e below (T1z.setTop (mkF m 15 #[.val (.ref r), .val (.int x), .val (.ref kn)] [(.ref (rows q))])) _
  refine own_go (fun t k => XS.aloadN X1z.here hx rfl (hb hby d_prog_67_method_6_code_15) rfl rfl k) ?_
  obtain ⟨T3z, X3z, e3z, st3z⟩ := getF X1z hx hZ hown (host := "") (Or.inl (own_hw hw 15 rfl)) Via.refl e1z II.2.2.1 (g := (mkF m 16 #[.val (.ref r), .val (.int x), .val (.ref kn)] [(.ref r), (.ref (rows q))])) rfl rfl (hb hby d_prog_67_method_6_code_16)
  refine own_go st3z ?_
  refine own_go (fun t k => XS.iloadN X3z.here hx rfl (hb hby d_prog_67_method_6_code_19) rfl k) ?_
  refine own_go (own_ldA X3z hx hZ e3z II.2.2.2.2.2.2.2.2.2.1 rfl (i := q) (v := (.ref (rows q))) hq (own_rget (fun i => Value.ref (rows i)) hqN) (g := (mkF m 20 #[.val (.ref r), .val (.int x), .val (.ref kn)] [(.int x), (.ref (A 0)), (.ref (rows q))])) rfl rfl (hb hby d_prog_67_method_6_code_20)) ?_
  show own_G p e below (T3z.setTop (mkF m 21 #[.val (.ref r), .val (.int x), .val (.ref kn)] [(.ref (rows q)), (.ref (rows q))])) _
  refine own_go (fun t k => Jvm.RoadKit.acmp (g := (mkF m 21 #[.val (.ref r), .val (.int x), .val (.ref kn)] [(.ref (rows q)), (.ref (rows q))])) X3z hx rfl rfl rfl (pc0 := 21) (pc' := 24) (same := true) rfl (hb hby d_prog_67_method_6_code_21) rfl (decide_eq_true (congrArg Value.ref rfl)) (by decide) (by decide) k) ?_
  show own_G p e below (T3z.setTop (mkF m 24 #[.val (.ref r), .val (.int x), .val (.ref kn)] [])) _
  refine own_go (fun t k => XS.aloadN X3z.here hx rfl (hb hby d_prog_67_method_6_code_24) rfl rfl k) ?_
  obtain ⟨T4z, X4z, e4z, st4z⟩ := getF X3z hx hZ hown (host := "") (Or.inl (own_hw hw 15 rfl)) Via.refl e3z II.2.2.1 (g := (mkF m 25 #[.val (.ref r), .val (.int x), .val (.ref kn)] [(.ref r)])) rfl rfl (hb hby d_prog_67_method_6_code_25)
  refine own_go st4z ?_
  refine own_go (fun t k => XS.iloadN X4z.here hx rfl (hb hby d_prog_67_method_6_code_28) rfl k) ?_
  refine own_go (fun t k => XS.aloadN X4z.here hx rfl (hb hby d_prog_67_method_6_code_29) rfl rfl k) ?_
  show own_G p e below (T4z.setTop (mkF m 30 #[.val (.ref r), .val (.int x), .val (.ref kn)] [(.ref r), (.int x), (.ref (A 0))])) _
  obtain ⟨T5z, X5z, e5z, st5z⟩ := getF X4z hx hZ hown (host := "") (Or.inl (own_hw hw 15 rfl)) Via.refl e4z II.2.2.1 (g := (mkF m 30 #[.val (.ref r), .val (.int x), .val (.ref kn)] [(.ref r), (.int x), (.ref (A 0))])) rfl rfl (hb hby d_prog_67_method_6_code_30)
  refine own_go st5z ?_
  refine own_go (fun t k => XS.iloadN X5z.here hx rfl (hb hby d_prog_67_method_6_code_33) rfl k) ?_
  refine own_go (own_ldA X5z hx hZ e5z II.2.2.2.2.2.2.2.2.2.1 rfl (i := q) (v := (.ref (rows q))) hq (own_rget (fun i => Value.ref (rows i)) hqN) (g := (mkF m 34 #[.val (.ref r), .val (.int x), .val (.ref kn)] [(.int x), (.ref (A 0)), (.int x), (.ref (A 0))])) rfl rfl (hb hby d_prog_67_method_6_code_34)) ?_
  obtain ⟨T6z, h6z, X6z, e6z, E6z, V6z, EX6z, st6z⟩ := own_clone X5z hx hZ hown (own_hw hw 89 rfl) (own_hw hw 90 rfl) (own_hw hw 94 rfl) (own_hw hw 92 rfl) (own_hw hw 93 rfl) (own_hw hw 95 rfl) e5z (II.2.2.2.2.2.2.2.2.2.2.2.2.2.2.2 q hqN).1 (II.2.2.2.2.2.2.2.2.2.2.2.2.2.2.2 q hqN).2 (g := (mkF m 35 #[.val (.ref r), .val (.int x), .val (.ref kn)] [(.ref (rows q)), (.int x), (.ref (A 0))])) rfl (by rw [hml]; rfl) rfl (hb hby d_prog_67_method_6_code_35) (by decide) (W := 2) (cap := 3) (by show 2 * 0 + _ ≤ _; exact Nat.le_of_eq rfl) (by decide) (by rw [own_rlen]; exact hwd) (by decide) (by decide)
  have no6z := own_I.out II (Nat.le_refl _)
  obtain ⟨b6z, g6z⟩ : ∃ z, z = h0.size := ⟨_, rfl⟩
  rw [← g6z] at V6z EX6z st6z no6z
  have fr_b6z : Z.heap.size ≤ b6z := g6z ▸ O0.1
  have lz_b6z : h0.size ≤ b6z := g6z ▸ K0.1
  have ne_kn_b6z : kn ≠ b6z := Nat.ne_of_lt (g6z ▸ q12.lt)
  have ne_r_b6z : r ≠ b6z := Nat.ne_of_lt (g6z ▸ II.2.1.lt)
  have O7z := own_ext_trans O0 E6z
  have K7z := K0.ext E6z
  have I8z := own_I.ext E6z II
  have ob6z := own_I.out II (Nat.le_of_eq g6z.symm)
  refine own_go st6z ?_
  show own_G p e below (T6z.setTop (mkF m 38 #[.val (.ref r), .val (.int x), .val (.ref kn)] [(.ref b6z), (.int x), (.ref (A 0))])) _
  obtain ⟨T9z, X9z, e9z, st9z⟩ := castY X6z hx hZ hown (own_hw hw 21 rfl) e6z (Ins.self EX6z) (g := (mkF m 38 #[.val (.ref r), .val (.int x), .val (.ref kn)] [(.ref b6z), (.int x), (.ref (A 0))])) rfl rfl (hb hby d_prog_67_method_6_code_38)
  refine own_go st9z ?_
  obtain ⟨T10z, h10z, X10z, e10z, W10z, V10z, st10z⟩ := own_stR X9z hx hZ e9z I8z.2.2.2.2.2.2.2.2.2.1 rfl (i := q) hq (by rw [own_rlen]; exact hqN) (own_stoA OA0 (Or.inr ⟨_, rfl, (Ins.self EX6z)⟩)) rfl (g := (mkF m 41 #[.val (.ref r), .val (.int x), .val (.ref kn)] [(.ref b6z), (.int x), (.ref (A 0))])) rfl rfl (hb hby d_prog_67_method_6_code_41)
  refine own_go st10z ?_
  have N10z := Fr.snoc X10z N0 (Nat.le_trans hn0 (DD.2.1 0 (by decide)).1)
  have O11z := own_ext_wr O7z W10z (Nat.le_trans hn0 (DD.2.1 0 (by decide)).1)
  have K11z := K7z.wr W10z (Or.inl (List.mem_of_getElem? (i := 0) rfl))
  have I12z := own_I.w0 (q := q) (nr := b6z) I8z DD W10z (own_V.eqf (own_V.set V10z)) ⟨(V6z.other W10z (own_nA no6z (by decide : 0 < 6))), (EX6z.wr W10z)⟩
  have V10z : own_A Z h10z (A 0) (K 0) (.array .long) (((List.range N).map fun i => Value.ref (rows i)).set q (.ref b6z)) := V10z
  refine own_go (fun t k => XS.aloadN X10z.here hx rfl (hb hby d_prog_67_method_6_code_42) rfl rfl k) ?_
  obtain ⟨T13z, X13z, e13z, st13z⟩ := getF X10z hx hZ hown (host := "") (Or.inl (own_hw hw 15 rfl)) Via.refl e10z I12z.2.2.1 (g := (mkF m 43 #[.val (.ref r), .val (.int x), .val (.ref kn)] [(.ref r)])) rfl rfl (hb hby d_prog_67_method_6_code_43)
  refine own_go st13z ?_
  show own_G p e below (T13z.setTop (mkF m 46 #[.val (.ref r), .val (.int x), .val (.ref kn)] [(.ref (A 0))])) _
  refine own_go (fun t k => XS.iloadN X13z.here hx rfl (hb hby d_prog_67_method_6_code_46) rfl k) ?_
  refine own_go (own_ldA X13z hx hZ e13z I12z.2.2.2.2.2.2.2.2.2.1 rfl (i := q) (v := (.ref (own_upd rows q b6z q))) hq (own_rget (fun i => Value.ref ((own_upd rows q b6z) i)) hqN) (g := (mkF m 47 #[.val (.ref r), .val (.int x), .val (.ref kn)] [(.int x), (.ref (A 0))])) rfl rfl (hb hby d_prog_67_method_6_code_47)) ?_
  exact own_ret X13z hx Bd.returns rfl (Or.inr (Or.inr (Or.inr (Or.inr ⟨rfl, rfl, rfl⟩)))) (hb hby d_prog_67_method_6_code_48) hlk (Nat.le_of_ble_eq_true rfl) (Nat.le_of_ble_eq_true rfl) (by show Q_own_wrc Z r N wd A K rows rc ls pr wt ra ea st n0 q x kn h0 _ T13z.heap _; rw [e13z]; exact ⟨b6z, (by rw [own_upd_hit]), N10z, K11z, I12z, lz_b6z, no6z⟩)
theorem ef_own_rq0 (m : MethodId) (x0 : Addr) (x1 : Int32) : entryFrame m #[(.ref x0), (.int x1)] 6 = mkF m 0 #[.val (.ref x0), .val (.int x1), .unset, .unset, .unset, .unset] [] := by first | (simp [entryFrame, mkF, argsToLocals, Value.category]; done) | rfl
theorem pf_own_rq0 : plainFor own_m7 = true := plainFor_of_name (by simp [plainName, overriddenIn])
theorem pd_184260196 : parseMethodDescriptor "(I)[J" = some ⟨[.int], some (.array .long)⟩ := by decide +kernel
theorem pd_1808131070 : parseMethodDescriptor "([JI)Z" = some ⟨[(.array .long), .int], some .boolean⟩ := by decide +kernel
theorem d_prog_67_method_2_code_0 : decode prog_67_method_2_code 0 = .ok (.iload_n 1, 1) := by decide +kernel
theorem d_prog_67_method_2_code_1 : decode prog_67_method_2_code 1 = .ok (.iconst 1, 1) := by decide +kernel
theorem d_prog_67_method_2_code_10 : decode prog_67_method_2_code 10 = .ok (.ladd, 1) := by decide +kernel
theorem d_prog_67_method_2_code_100 : decode prog_67_method_2_code 100 = .ok (.aload_n 0, 1) := by decide +kernel
theorem d_prog_67_method_2_code_101 : decode prog_67_method_2_code 101 = .ok (.getfield 31, 3) := by decide +kernel
theorem d_prog_67_method_2_code_104 : decode prog_67_method_2_code 104 = .ok (.iload 5, 2) := by decide +kernel
theorem d_prog_67_method_2_code_106 : decode prog_67_method_2_code 106 = .ok (.laload, 1) := by decide +kernel
theorem d_prog_67_method_2_code_107 : decode prog_67_method_2_code 107 = .ok (.land, 1) := by decide +kernel
theorem d_prog_67_method_2_code_108 : decode prog_67_method_2_code 108 = .ok (.lastore, 1) := by decide +kernel
theorem d_prog_67_method_2_code_109 : decode prog_67_method_2_code 109 = .ok (.iinc 5 1, 3) := by decide +kernel
theorem d_prog_67_method_2_code_11 : decode prog_67_method_2_code 11 = .ok (.putfield 40, 3) := by decide +kernel
theorem d_prog_67_method_2_code_112 : decode prog_67_method_2_code 112 = .ok (.goto (-27), 3) := by decide +kernel
theorem d_prog_67_method_2_code_115 : decode prog_67_method_2_code 115 = .ok (.aload_n 0, 1) := by decide +kernel
theorem d_prog_67_method_2_code_116 : decode prog_67_method_2_code 116 = .ok (.getfield 28, 3) := by decide +kernel
theorem d_prog_67_method_2_code_119 : decode prog_67_method_2_code 119 = .ok (.iload_n 2, 1) := by decide +kernel
theorem d_prog_67_method_2_code_120 : decode prog_67_method_2_code 120 = .ok (.aload 4, 2) := by decide +kernel
theorem d_prog_67_method_2_code_122 : decode prog_67_method_2_code 122 = .ok (.aastore, 1) := by decide +kernel
theorem d_prog_67_method_2_code_123 : decode prog_67_method_2_code 123 = .ok (.aload_n 0, 1) := by decide +kernel
theorem d_prog_67_method_2_code_124 : decode prog_67_method_2_code 124 = .ok (.iload_n 2, 1) := by decide +kernel
theorem d_prog_67_method_2_code_125 : decode prog_67_method_2_code 125 = .ok (.invokevirtual 48, 3) := by decide +kernel
theorem d_prog_67_method_2_code_128 : decode prog_67_method_2_code 128 = .ok (.iload_n 2, 1) := by decide +kernel
theorem d_prog_67_method_2_code_129 : decode prog_67_method_2_code 129 = .ok (.invokestatic 52, 3) := by decide +kernel
theorem d_prog_67_method_2_code_132 : decode prog_67_method_2_code 132 = .ok (.dup2, 1) := by decide +kernel
theorem d_prog_67_method_2_code_133 : decode prog_67_method_2_code 133 = .ok (.laload, 1) := by decide +kernel
theorem d_prog_67_method_2_code_134 : decode prog_67_method_2_code 134 = .ok (.iload_n 2, 1) := by decide +kernel
theorem d_prog_67_method_2_code_135 : decode prog_67_method_2_code 135 = .ok (.invokestatic 56, 3) := by decide +kernel
theorem d_prog_67_method_2_code_138 : decode prog_67_method_2_code 138 = .ok (.lor, 1) := by decide +kernel
theorem d_prog_67_method_2_code_139 : decode prog_67_method_2_code 139 = .ok (.lastore, 1) := by decide +kernel
theorem d_prog_67_method_2_code_14 : decode prog_67_method_2_code 14 = .ok (.iconst 0, 1) := by decide +kernel
theorem d_prog_67_method_2_code_140 : decode prog_67_method_2_code 140 = .ok (.aload_n 0, 1) := by decide +kernel
theorem d_prog_67_method_2_code_141 : decode prog_67_method_2_code 141 = .ok (.getfield 31, 3) := by decide +kernel
theorem d_prog_67_method_2_code_144 : decode prog_67_method_2_code 144 = .ok (.iload_n 2, 1) := by decide +kernel
theorem d_prog_67_method_2_code_145 : decode prog_67_method_2_code 145 = .ok (.invokestatic 52, 3) := by decide +kernel
theorem d_prog_67_method_2_code_148 : decode prog_67_method_2_code 148 = .ok (.dup2, 1) := by decide +kernel
theorem d_prog_67_method_2_code_149 : decode prog_67_method_2_code 149 = .ok (.laload, 1) := by decide +kernel
theorem d_prog_67_method_2_code_15 : decode prog_67_method_2_code 15 = .ok (.istore_n 3, 1) := by decide +kernel
theorem d_prog_67_method_2_code_150 : decode prog_67_method_2_code 150 = .ok (.iload_n 2, 1) := by decide +kernel
theorem d_prog_67_method_2_code_151 : decode prog_67_method_2_code 151 = .ok (.invokestatic 56, 3) := by decide +kernel
theorem d_prog_67_method_2_code_154 : decode prog_67_method_2_code 154 = .ok (.lor, 1) := by decide +kernel
theorem d_prog_67_method_2_code_155 : decode prog_67_method_2_code 155 = .ok (.lastore, 1) := by decide +kernel
theorem d_prog_67_method_2_code_156 : decode prog_67_method_2_code 156 = .ok (.aload_n 0, 1) := by decide +kernel
theorem d_prog_67_method_2_code_157 : decode prog_67_method_2_code 157 = .ok (.getfield 34, 3) := by decide +kernel
theorem d_prog_67_method_2_code_16 : decode prog_67_method_2_code 16 = .ok (.iload_n 3, 1) := by decide +kernel
theorem d_prog_67_method_2_code_160 : decode prog_67_method_2_code 160 = .ok (.iload_n 2, 1) := by decide +kernel
theorem d_prog_67_method_2_code_161 : decode prog_67_method_2_code 161 = .ok (.aload_n 0, 1) := by decide +kernel
theorem d_prog_67_method_2_code_162 : decode prog_67_method_2_code 162 = .ok (.getfield 40, 3) := by decide +kernel
theorem d_prog_67_method_2_code_165 : decode prog_67_method_2_code 165 = .ok (.lastore, 1) := by decide +kernel
theorem d_prog_67_method_2_code_166 : decode prog_67_method_2_code 166 = .ok (.return_, 1) := by decide +kernel
theorem d_prog_67_method_2_code_17 : decode prog_67_method_2_code 17 = .ok (.aload_n 0, 1) := by decide +kernel
theorem d_prog_67_method_2_code_18 : decode prog_67_method_2_code 18 = .ok (.getfield 7, 3) := by decide +kernel
theorem d_prog_67_method_2_code_2 : decode prog_67_method_2_code 2 = .ok (.isub, 1) := by decide +kernel
theorem d_prog_67_method_2_code_21 : decode prog_67_method_2_code 21 = .ok (.if_icmp .ge 48, 3) := by decide +kernel
theorem d_prog_67_method_2_code_24 : decode prog_67_method_2_code 24 = .ok (.iload_n 3, 1) := by decide +kernel
theorem d_prog_67_method_2_code_25 : decode prog_67_method_2_code 25 = .ok (.iload_n 2, 1) := by decide +kernel
theorem d_prog_67_method_2_code_26 : decode prog_67_method_2_code 26 = .ok (.if_icmp .eq 37, 3) := by decide +kernel
theorem d_prog_67_method_2_code_29 : decode prog_67_method_2_code 29 = .ok (.aload_n 0, 1) := by decide +kernel
theorem d_prog_67_method_2_code_3 : decode prog_67_method_2_code 3 = .ok (.istore_n 2, 1) := by decide +kernel
theorem d_prog_67_method_2_code_30 : decode prog_67_method_2_code 30 = .ok (.getfield 17, 3) := by decide +kernel
theorem d_prog_67_method_2_code_33 : decode prog_67_method_2_code 33 = .ok (.iload_n 3, 1) := by decide +kernel
theorem d_prog_67_method_2_code_34 : decode prog_67_method_2_code 34 = .ok (.aaload, 1) := by decide +kernel
theorem d_prog_67_method_2_code_35 : decode prog_67_method_2_code 35 = .ok (.iload_n 2, 1) := by decide +kernel
theorem d_prog_67_method_2_code_36 : decode prog_67_method_2_code 36 = .ok (.invokestatic 44, 3) := by decide +kernel
theorem d_prog_67_method_2_code_39 : decode prog_67_method_2_code 39 = .ok (.ifCond .eq 24, 3) := by decide +kernel
theorem d_prog_67_method_2_code_4 : decode prog_67_method_2_code 4 = .ok (.aload_n 0, 1) := by decide +kernel
theorem d_prog_67_method_2_code_42 : decode prog_67_method_2_code 42 = .ok (.aload_n 0, 1) := by decide +kernel
theorem d_prog_67_method_2_code_43 : decode prog_67_method_2_code 43 = .ok (.iload_n 3, 1) := by decide +kernel
theorem d_prog_67_method_2_code_44 : decode prog_67_method_2_code 44 = .ok (.invokevirtual 48, 3) := by decide +kernel
theorem d_prog_67_method_2_code_47 : decode prog_67_method_2_code 47 = .ok (.iload_n 2, 1) := by decide +kernel
theorem d_prog_67_method_2_code_48 : decode prog_67_method_2_code 48 = .ok (.invokestatic 52, 3) := by decide +kernel
theorem d_prog_67_method_2_code_5 : decode prog_67_method_2_code 5 = .ok (.dup, 1) := by decide +kernel
theorem d_prog_67_method_2_code_51 : decode prog_67_method_2_code 51 = .ok (.dup2, 1) := by decide +kernel
theorem d_prog_67_method_2_code_52 : decode prog_67_method_2_code 52 = .ok (.laload, 1) := by decide +kernel
theorem d_prog_67_method_2_code_53 : decode prog_67_method_2_code 53 = .ok (.iload_n 2, 1) := by decide +kernel
theorem d_prog_67_method_2_code_54 : decode prog_67_method_2_code 54 = .ok (.invokestatic 56, 3) := by decide +kernel
theorem d_prog_67_method_2_code_57 : decode prog_67_method_2_code 57 = .ok (.ldc2_w 60, 3) := by decide +kernel
theorem d_prog_67_method_2_code_6 : decode prog_67_method_2_code 6 = .ok (.getfield 40, 3) := by decide +kernel
theorem d_prog_67_method_2_code_60 : decode prog_67_method_2_code 60 = .ok (.lxor, 1) := by decide +kernel
theorem d_prog_67_method_2_code_61 : decode prog_67_method_2_code 61 = .ok (.land, 1) := by decide +kernel
theorem d_prog_67_method_2_code_62 : decode prog_67_method_2_code 62 = .ok (.lastore, 1) := by decide +kernel
theorem d_prog_67_method_2_code_63 : decode prog_67_method_2_code 63 = .ok (.iinc 3 1, 3) := by decide +kernel
theorem d_prog_67_method_2_code_66 : decode prog_67_method_2_code 66 = .ok (.goto (-50), 3) := by decide +kernel
theorem d_prog_67_method_2_code_69 : decode prog_67_method_2_code 69 = .ok (.aload_n 0, 1) := by decide +kernel
theorem d_prog_67_method_2_code_70 : decode prog_67_method_2_code 70 = .ok (.getfield 17, 3) := by decide +kernel
theorem d_prog_67_method_2_code_73 : decode prog_67_method_2_code 73 = .ok (.iload_n 2, 1) := by decide +kernel
theorem d_prog_67_method_2_code_74 : decode prog_67_method_2_code 74 = .ok (.aaload, 1) := by decide +kernel
theorem d_prog_67_method_2_code_75 : decode prog_67_method_2_code 75 = .ok (.astore_n 3, 1) := by decide +kernel
theorem d_prog_67_method_2_code_76 : decode prog_67_method_2_code 76 = .ok (.aload_n 3, 1) := by decide +kernel
theorem d_prog_67_method_2_code_77 : decode prog_67_method_2_code 77 = .ok (.arraylength, 1) := by decide +kernel
theorem d_prog_67_method_2_code_78 : decode prog_67_method_2_code 78 = .ok (.newarray .long, 2) := by decide +kernel
theorem d_prog_67_method_2_code_80 : decode prog_67_method_2_code 80 = .ok (.astore 4, 2) := by decide +kernel
theorem d_prog_67_method_2_code_82 : decode prog_67_method_2_code 82 = .ok (.iconst 0, 1) := by decide +kernel
theorem d_prog_67_method_2_code_83 : decode prog_67_method_2_code 83 = .ok (.istore 5, 2) := by decide +kernel
theorem d_prog_67_method_2_code_85 : decode prog_67_method_2_code 85 = .ok (.iload 5, 2) := by decide +kernel
theorem d_prog_67_method_2_code_87 : decode prog_67_method_2_code 87 = .ok (.aload_n 3, 1) := by decide +kernel
theorem d_prog_67_method_2_code_88 : decode prog_67_method_2_code 88 = .ok (.arraylength, 1) := by decide +kernel
theorem d_prog_67_method_2_code_89 : decode prog_67_method_2_code 89 = .ok (.if_icmp .ge 26, 3) := by decide +kernel
theorem d_prog_67_method_2_code_9 : decode prog_67_method_2_code 9 = .ok (.lconst 1, 1) := by decide +kernel
theorem d_prog_67_method_2_code_92 : decode prog_67_method_2_code 92 = .ok (.aload 4, 2) := by decide +kernel
theorem d_prog_67_method_2_code_94 : decode prog_67_method_2_code 94 = .ok (.iload 5, 2) := by decide +kernel
theorem d_prog_67_method_2_code_96 : decode prog_67_method_2_code 96 = .ok (.aload_n 3, 1) := by decide +kernel
theorem d_prog_67_method_2_code_97 : decode prog_67_method_2_code 97 = .ok (.iload 5, 2) := by decide +kernel
theorem d_prog_67_method_2_code_99 : decode prog_67_method_2_code 99 = .ok (.laload, 1) := by decide +kernel
def Q_own_rq0 (Z : State) (r : Addr) (N : Nat) (wd : Nat) (A : (Nat → Addr)) (K : (Nat → ClassId)) (rows : (Nat → Addr)) (rc : (Nat → Nat → Int64)) (ls : (Nat → Value)) (pr : (Nat → Value)) (wt : (Nat → Int64)) (ra : (Nat → Int64)) (ea : (Nat → Int64)) (st : Int64) (n0 : Nat) (q : Nat) (x : Int32) (h0 : Heap) (v : Option Value) (h : Heap) (L : List Loc) : Prop := ∃ np : Addr, ∃ kp : ClassId, v = none ∧ Fr Z.heap.size L ∧ Keep h0 h (own_ws r N A rows) ∧ (own_I Z h r N wd A K rows (own_upd (own_rcI rc q N) q (own_or (rc q) q)) ls (own_upd pr q (.ref np)) (own_or wt q) (own_upd ra q (st + (1 : Int64))) ea (st + (1 : Int64))) ∧ (h0.size ≤ np) ∧ (np ∉ own_ws r N A rows) ∧ (own_A Z h np kp .long ((List.range wd).map fun i_z => Value.long ((fun j => rc q j &&& wt j) i_z)))
set_option maxRecDepth 65536 in
set_option maxHeartbeats 40000000 in
theorem own_rq0 (l : Launch) (Z : State) (a0 : Array Value) (hw : ∀ d ∈ tables_1, d.before a0 Z = true) (ws : List Jvm.Cond) (r : Addr) (N : Nat) (wd : Nat) (A : (Nat → Addr)) (K : (Nat → ClassId)) (rows : (Nat → Addr)) (rc : (Nat → Nat → Int64)) (ls : (Nat → Value)) (pr : (Nat → Value)) (wt : (Nat → Int64)) (ra : (Nat → Int64)) (ea : (Nat → Int64)) (st : Int64) (n0 : Nat) (q : Nat) (x : Int32) (h0 : Heap) (O0 : Ext Z.heap h0) (II : own_I Z h0 r N wd A K rows rc ls pr wt ra ea st) (DD : own_D n0 r N A rows) (hn0 : Z.heap.size ≤ n0) (hN : N ≤ 129) (hwd : wd ≤ 3) (hNw : ∀ i, i < N → i / 64 < wd) (OA0 : OvrA Z (K 0) .long "[J") (OA1 : Ovr Z (K 1) own_s0) (OA2 : OvrA Z (K 2) .long "[J") (hq : x.toInt = (q : Int) + 1) (hqN : q < N) (hrow : ∀ j, j < N → ¬ j = q → ¬ own_has (rc j) q = 0 → ls j = .null) (hls : ls q = .null) :
    MetFree l own_m7 (head1 (Jvm.Cond.code own_m7 prog_67_method_2_code 6 none :: ws) ({ frames := 2, cells := 1, slots := 3, locals := 30 } : Room)) (fun aa U => aa = #[(.ref r), (.int x)] ∧ Z.Warmed39 U.vm ∧ U.heap = h0) (fun _ _ _ _ _ => True) (fun _ U o U' => ∃ v L, o = .returned v ∧ Q_own_rq0 Z r N wd A K rows rc ls pr wt ra ea st n0 q x h0 v U'.heap L ∧ FrameEnd U o U' L ({ frames := 2, cells := 1, slots := 3, locals := 30 } : Room).cells ({ frames := 2, cells := 1, slots := 3, locals := 30 } : Room).slots) := by
  refine MetFree.of_bodySF pf_own_rq0 hisR ?_
  intro p e s m args below meth c s₁ Bd hml0 hP hK
  obtain ⟨rfl, hZ, hh⟩ := hP
  have hx := Bd.exec
  have hby := Bd.bytes
  have hlk := BodyLoose.notSynchronized Bd
  have hml : c.maxLocals = 6 := hml0
  have hown : s.vm.findClass own_s1 = some m.cls := findClass_of_methodNamed Bd.named
  have hnm := (name_of_methodNamed Bd.named Bd.method).1
  have X0 : Stand p l e ({ frames := 2, cells := 1, slots := 3, locals := 30 } : Room) s m #[(.ref r), (.int x)] below meth c s₁ [] 0 0 := Stand.of_body Bd
  have e0 : s₁.heap = h0 := by rw [← hh, Bd.state]; rfl
  have N0 := Fr.nil Z.heap.size
  have K0 : Keep h0 h0 (own_ws r N A rows) := Keep.refl _ _
  refine own_start (Q := Q_own_rq0 Z r N wd A K rows rc ls pr wt ra ea st n0 q x h0) (ef_own_rq0 m (r) (x)) ?_
  show own_G p e below (s₁.setTop (mkF m 0 #[.val (.ref r), .val (.int x), .unset, .unset, .unset, .unset] [])) _
  refine own_go (fun t k => XS.iloadN X0.here hx rfl (hb hby d_prog_67_method_2_code_0) rfl k) ?_
  refine own_go (fun t k => XS.iconst X0.here hx rfl (hb hby d_prog_67_method_2_code_1) k) ?_
  refine own_go (fun t k => XS.isub X0.here hx rfl (hb hby d_prog_67_method_2_code_2) rfl k) ?_
  refine own_go (fun t k => XS.istoreN X0.here hx rfl (hb hby d_prog_67_method_2_code_3) rfl (l' := #[.val (.ref r), .val (.int x), .val (.int (x - (1 : Int32))), .unset, .unset, .unset]) rfl k) ?_
  show own_G p e below (s₁.setTop (mkF m 4 #[.val (.ref r), .val (.int x), .val (.int (x - (1 : Int32))), .unset, .unset, .unset] [])) _
  refine own_go (fun t k => XS.aloadN X0.here hx rfl (hb hby d_prog_67_method_2_code_4) rfl rfl k) ?_
  refine own_go (fun t k => XS.dup X0.here hx rfl (hb hby d_prog_67_method_2_code_5) rfl rfl k) ?_
  obtain ⟨T1z, X1z, e1z, st1z⟩ := getF X0 hx hZ hown (host := "") (Or.inl (own_hw hw 35 rfl)) Via.refl e0 II.2.2.2.2.2.2.2.2.1 (g := (mkF m 6 #[.val (.ref r), .val (.int x), .val (.int (x - (1 : Int32))), .unset, .unset, .unset] [(.ref r), (.ref r)])) rfl rfl (hb hby d_prog_67_method_2_code_6)
  refine own_go st1z ?_
  refine own_go (fun t k => XS.lconst X1z.here hx rfl (hb hby d_prog_67_method_2_code_9) k) ?_
  show own_G p e below (T1z.setTop (mkF m 10 #[.val (.ref r), .val (.int x), .val (.int (x - (1 : Int32))), .unset, .unset, .unset] [(.long (1 : Int64)), (.long st), (.ref r)])) _
  refine own_go (fun t k => XS.ladd X1z.here hx rfl (hb hby d_prog_67_method_2_code_10) rfl k) ?_
  obtain ⟨T2z, h2z, X2z, e2z, W2z, st2z⟩ := putF X1z hx hZ hown (host := "") (Or.inl (own_hw hw 35 rfl)) Via.refl e1z II.2.2.2.2.2.2.2.2.1 II.1 (Or.inl (own_hw hw 36 rfl)) (own_hw hw 2 rfl) (ty := .long) (by decide) rfl rfl (g := (mkF m 11 #[.val (.ref r), .val (.int x), .val (.int (x - (1 : Int32))), .unset, .unset, .unset] [(.long (st + (1 : Int64))), (.ref r)])) rfl rfl (hb hby d_prog_67_method_2_code_11)
  refine own_go st2z ?_
  have N2z := Fr.snoc X2z N0 (Nat.le_trans hn0 DD.1)
  have F2z : Fld Z h2z r own_s1 "stamp" "J" (.long (st + (1 : Int64))) := II.2.2.2.2.2.2.2.2.1.same W2z
  have O3z := own_ext_wr O0 W2z (Nat.le_trans hn0 DD.1)
  have K3z := K0.wr W2z (Or.inl own_ws_r)
  have I4z := own_I.wst (own_hs hw) II DD W2z
  refine own_go (fun t k => XS.iconst X2z.here hx rfl (hb hby d_prog_67_method_2_code_14) k) ?_
  refine own_go (fun t k => XS.istoreN X2z.here hx rfl (hb hby d_prog_67_method_2_code_15) rfl (l' := #[.val (.ref r), .val (.int x), .val (.int (x - (1 : Int32))), .val (.int (0 : Int32)), .unset, .unset]) rfl k) ?_
  show own_G p e below (T2z.setTop (mkF m 16 #[.val (.ref r), .val (.int x), .val (.int (x - (1 : Int32))), .val (.int (0 : Int32)), .unset, .unset] [])) _
  have loop1 : ∀ (n i : Nat) (xi : Int32) (T : State) (h : Heap) (locs : List Loc), i + n = N → xi.toInt = (i : Int) → Stand p l e ({ frames := 2, cells := 1, slots := 3, locals := 30 } : Room) s m #[(.ref r), (.int x)] below meth c T locs 0 0 → T.heap = h → Fr Z.heap.size locs → Ext Z.heap h → Keep h0 h (own_ws r N A rows) → own_I Z h r N wd A K rows (own_rcI rc q i) ls pr wt ra ea (st + (1 : Int64)) → own_G p e below (T.setTop (mkF m 16 #[.val (.ref r), .val (.int x), .val (.int (x - (1 : Int32))), .val (.int xi), .unset, .unset] [])) (own_P s below ({ frames := 2, cells := 1, slots := 3, locals := 30 } : Room).cells ({ frames := 2, cells := 1, slots := 3, locals := 30 } : Room).slots (Q_own_rq0 Z r N wd A K rows rc ls pr wt ra ea st n0 q x h0)) := by
    intro n
    induction n with
    | zero =>
      intro i xi T h locs hi hxi X eL NL OL KL IL
      obtain rfl : N = i := by omega
      show own_G p e below (T.setTop (mkF m 16 #[.val (.ref r), .val (.int x), .val (.int (x - (1 : Int32))), .val (.int xi), .unset, .unset] [])) _
      refine own_go (fun t k => XS.iloadN X.here hx rfl (hb hby d_prog_67_method_2_code_16) rfl k) ?_
      refine own_go (fun t k => XS.aloadN X.here hx rfl (hb hby d_prog_67_method_2_code_17) rfl rfl k) ?_
      obtain ⟨T5z, X5z, e5z, st5z⟩ := getF X hx hZ hown (host := "") (Or.inl (own_hw hw 10 rfl)) Via.refl eL IL.2.1 (g := (mkF m 18 #[.val (.ref r), .val (.int x), .val (.int (x - (1 : Int32))), .val (.int xi), .unset, .unset] [(.ref r), (.int xi)])) rfl rfl (hb hby d_prog_67_method_2_code_18)
      refine own_go st5z ?_
      refine own_go (fun t k => XS.icmpYes X5z.here hx rfl (pc0 := 21) (pc' := 69) rfl (hb hby d_prog_67_method_2_code_21) rfl (flt (fun q => absurd ((own_ltN hxi hN).mp q) (by omega))).2.1 (by decide) (by decide) k) ?_
      show own_G p e below (T5z.setTop (mkF m 69 #[.val (.ref r), .val (.int x), .val (.int (x - (1 : Int32))), .val (.int xi), .unset, .unset] [])) _
      refine own_go (fun t k => XS.aloadN X5z.here hx rfl (hb hby d_prog_67_method_2_code_69) rfl rfl k) ?_
      obtain ⟨T6z, X6z, e6z, st6z⟩ := getF X5z hx hZ hown (host := "") (Or.inl (own_hw hw 15 rfl)) Via.refl e5z IL.2.2.1 (g := (mkF m 70 #[.val (.ref r), .val (.int x), .val (.int (x - (1 : Int32))), .val (.int xi), .unset, .unset] [(.ref r)])) rfl rfl (hb hby d_prog_67_method_2_code_70)
      refine own_go st6z ?_
      refine own_go (fun t k => XS.iloadN X6z.here hx rfl (hb hby d_prog_67_method_2_code_73) rfl k) ?_
      refine own_go (own_ldA X6z hx hZ e6z IL.2.2.2.2.2.2.2.2.2.1 rfl (i := q) (v := (.ref (rows q))) (own_sub1 hq hqN hN) (own_rget (fun i => Value.ref (rows i)) hqN) (g := (mkF m 74 #[.val (.ref r), .val (.int x), .val (.int (x - (1 : Int32))), .val (.int xi), .unset, .unset] [(.int (x - (1 : Int32))), (.ref (A 0))])) rfl rfl (hb hby d_prog_67_method_2_code_74)) ?_
      show own_G p e below (T6z.setTop (mkF m 75 #[.val (.ref r), .val (.int x), .val (.int (x - (1 : Int32))), .val (.int xi), .unset, .unset] [(.ref (rows q))])) _
      refine own_go (fun t k => XS.astoreN X6z.here hx rfl (hb hby d_prog_67_method_2_code_75) rfl rfl (l' := #[.val (.ref r), .val (.int x), .val (.int (x - (1 : Int32))), .val (.ref (rows q)), .unset, .unset]) rfl k) ?_
      refine own_go (fun t k => XS.aloadN X6z.here hx rfl (hb hby d_prog_67_method_2_code_76) rfl rfl k) ?_
      refine own_go (own_len X6z hx hZ e6z (IL.2.2.2.2.2.2.2.2.2.2.2.2.2.2.2 q hqN).1 (z := (Int32.ofNat wd)) (by rw [own_rlen]; exact own_ofN (by omega)) (g := (mkF m 77 #[.val (.ref r), .val (.int x), .val (.int (x - (1 : Int32))), .val (.ref (rows q)), .unset, .unset] [(.ref (rows q))])) rfl rfl (hb hby d_prog_67_method_2_code_77)) ?_
      obtain ⟨T7z, h7z, kc7z, X7z, e7z, E7z, V7z, EX7z, st7z⟩ := own_newPE X6z hx hZ (own_hw hw 14 rfl) e6z (g := (mkF m 78 #[.val (.ref r), .val (.int x), .val (.int (x - (1 : Int32))), .val (.ref (rows q)), .unset, .unset] [(.int (Int32.ofNat wd))])) rfl (hb hby d_prog_67_method_2_code_78) rfl (i := wd) (own_ofN (by omega)) (cap := 3) hwd (by decide) (by decide) (by decide) (ad := "[J") (by decide)
      obtain ⟨b7z, g7z⟩ : ∃ z, z = h.size := ⟨_, rfl⟩
      rw [← g7z] at V7z st7z EX7z
      have fr_b7z : Z.heap.size ≤ b7z := g7z ▸ OL.1
      have lz_b7z : h0.size ≤ b7z := g7z ▸ KL.1
      have ne_r_b7z : r ≠ b7z := Nat.ne_of_lt (g7z ▸ IL.2.1.lt)
      have O8z := own_ext_trans OL E7z
      have K8z := KL.ext E7z
      have I9z := own_I.ext E7z IL
      have ob7z := own_I.out IL (Nat.le_of_eq g7z.symm)
      have V7z : own_A Z h7z b7z kc7z .long (List.replicate wd (.long (0 : Int64))) := V7z
      refine own_go st7z ?_
      show own_G p e below (T7z.setTop (mkF m 80 #[.val (.ref r), .val (.int x), .val (.int (x - (1 : Int32))), .val (.ref (rows q)), .unset, .unset] [(.ref b7z)])) _
      refine own_go (fun t k => XS.astore X7z.here hx rfl (hb hby d_prog_67_method_2_code_80) rfl rfl (l' := #[.val (.ref r), .val (.int x), .val (.int (x - (1 : Int32))), .val (.ref (rows q)), .val (.ref b7z), .unset]) rfl k) ?_
      refine own_go (fun t k => XS.iconst X7z.here hx rfl (hb hby d_prog_67_method_2_code_82) k) ?_
      refine own_go (fun t k => XS.istore X7z.here hx rfl (hb hby d_prog_67_method_2_code_83) rfl (l' := #[.val (.ref r), .val (.int x), .val (.int (x - (1 : Int32))), .val (.ref (rows q)), .val (.ref b7z), .val (.int (0 : Int32))]) rfl k) ?_
      have LB0 : own_L Z h7z b7z kc7z wd (own_pj ((own_rcI rc q N) q) wt 0) := by rw [own_pj_0]; exact own_L0 V7z
      have loop2 : ∀ (n j : Nat) (xj : Int32) (T : State) (h : Heap) (locs : List Loc), j + n = wd → xj.toInt = (j : Int) → Stand p l e ({ frames := 2, cells := 1, slots := 3, locals := 30 } : Room) s m #[(.ref r), (.int x)] below meth c T locs 1 3 → T.heap = h → Fr Z.heap.size locs → Ext Z.heap h → Keep h0 h (own_ws r N A rows) → own_I Z h r N wd A K rows (own_rcI rc q N) ls pr wt ra ea (st + (1 : Int64)) → own_L Z h b7z kc7z wd (own_pj ((own_rcI rc q N) q) wt j) → Exa Z h b7z "[J" → own_G p e below (T.setTop (mkF m 85 #[.val (.ref r), .val (.int x), .val (.int (x - (1 : Int32))), .val (.ref (rows q)), .val (.ref b7z), .val (.int xj)] [])) (own_P s below ({ frames := 2, cells := 1, slots := 3, locals := 30 } : Room).cells ({ frames := 2, cells := 1, slots := 3, locals := 30 } : Room).slots (Q_own_rq0 Z r N wd A K rows rc ls pr wt ra ea st n0 q x h0)) := by
        intro n
        induction n with
        | zero =>
          intro j xj T h locs hi hxi X eL NL OL KL IL LB EB
          obtain rfl : wd = j := by omega
          show own_G p e below (T.setTop (mkF m 85 #[.val (.ref r), .val (.int x), .val (.int (x - (1 : Int32))), .val (.ref (rows q)), .val (.ref b7z), .val (.int xj)] [])) _
          refine own_go (fun t k => XS.iload X.here hx rfl (hb hby d_prog_67_method_2_code_85) rfl k) ?_
          refine own_go (fun t k => XS.aloadN X.here hx rfl (hb hby d_prog_67_method_2_code_87) rfl rfl k) ?_
          refine own_go (own_len X hx hZ eL (IL.2.2.2.2.2.2.2.2.2.2.2.2.2.2.2 q hqN).1 (z := (Int32.ofNat wd)) (by rw [own_rlen]; exact own_ofN (by omega)) (g := (mkF m 88 #[.val (.ref r), .val (.int x), .val (.int (x - (1 : Int32))), .val (.ref (rows q)), .val (.ref b7z), .val (.int xj)] [(.ref (rows q)), (.int xj)])) rfl rfl (hb hby d_prog_67_method_2_code_88)) ?_
          refine own_go (fun t k => XS.icmpYes X.here hx rfl (pc0 := 89) (pc' := 115) rfl (hb hby d_prog_67_method_2_code_89) rfl (flt (fun q => absurd ((own_ltN hxi (by omega)).mp q) (by omega))).2.1 (by decide) (by decide) k) ?_
          show own_G p e below (T.setTop (mkF m 115 #[.val (.ref r), .val (.int x), .val (.int (x - (1 : Int32))), .val (.ref (rows q)), .val (.ref b7z), .val (.int xj)] [])) _
          refine own_go (fun t k => XS.aloadN X.here hx rfl (hb hby d_prog_67_method_2_code_115) rfl rfl k) ?_
          obtain ⟨T10z, X10z, e10z, st10z⟩ := getF X hx hZ hown (host := "") (Or.inl (own_hw hw 22 rfl)) Via.refl eL IL.2.2.2.2.1 (g := (mkF m 116 #[.val (.ref r), .val (.int x), .val (.int (x - (1 : Int32))), .val (.ref (rows q)), .val (.ref b7z), .val (.int xj)] [(.ref r)])) rfl rfl (hb hby d_prog_67_method_2_code_116)
          refine own_go st10z ?_
          refine own_go (fun t k => XS.iloadN X10z.here hx rfl (hb hby d_prog_67_method_2_code_119) rfl k) ?_
          refine own_go (fun t k => XS.aload X10z.here hx rfl (hb hby d_prog_67_method_2_code_120) rfl rfl k) ?_
          show own_G p e below (T10z.setTop (mkF m 122 #[.val (.ref r), .val (.int x), .val (.int (x - (1 : Int32))), .val (.ref (rows q)), .val (.ref b7z), .val (.int xj)] [(.ref b7z), (.int (x - (1 : Int32))), (.ref (A 2))])) _
          obtain ⟨T11z, h11z, X11z, e11z, W11z, V11z, st11z⟩ := own_stR X10z hx hZ e10z IL.2.2.2.2.2.2.2.2.2.2.2.1 rfl (i := q) (own_sub1 hq hqN hN) (by rw [own_rlen]; exact hqN) (own_stoA OA2 (Or.inr ⟨_, rfl, (Ins.self EB)⟩)) rfl (g := (mkF m 122 #[.val (.ref r), .val (.int x), .val (.int (x - (1 : Int32))), .val (.ref (rows q)), .val (.ref b7z), .val (.int xj)] [(.ref b7z), (.int (x - (1 : Int32))), (.ref (A 2))])) rfl rfl (hb hby d_prog_67_method_2_code_122)
          refine own_go st11z ?_
          have N11z := Fr.snoc X11z NL (Nat.le_trans hn0 (DD.2.1 2 (by decide)).1)
          have O12z := own_ext_wr OL W11z (Nat.le_trans hn0 (DD.2.1 2 (by decide)).1)
          have K12z := KL.wr W11z (Or.inl (own_ws_A (by decide : 2 < 6)))
          have I13z := own_I.w2 IL DD W11z (own_V.set V11z)
          have V11z : own_A Z h11z (A 2) (K 2) (.array .long) (((List.range N).map pr).set q (.ref b7z)) := V11z
          refine own_go (fun t k => XS.aloadN X11z.here hx rfl (hb hby d_prog_67_method_2_code_123) rfl rfl k) ?_
          refine own_go (fun t k => XS.iloadN X11z.here hx rfl (hb hby d_prog_67_method_2_code_124) rfl k) ?_
          obtain ⟨cq14z, qa14z, qb14z⟩ := I13z.1.cell
          obtain ⟨_, _, ⟨T14z, L14z, k14z, n14z⟩, -, X14z, ⟨Lc14z, hQ14z, l14z, y14z, z14z⟩, st14z⟩ := X11z.privateBack hx (y := own_m6) hown (own_mw hZ hw 47 rfl) (own_mw hZ hw 48 rfl) (own_selfPriv (mvT (args := #[]) hZ (own_hw hw 2 rfl)) (Cond.privateMethod_at (mvP hZ (own_hw hw 49 rfl) (args := #[]))) (own_mw hZ hw 48 rfl) (by decide)) (Cond.privateMethod_at (mvP hZ (own_hw hw 49 rfl) (args := #[]))) (own_mw hZ hw 50 rfl) (by decide) (backOf (W := 0) (own_wr0 l Z a0 hw [] r N wd A K rows (own_rcI rc q N) ls (own_upd pr q (.ref b7z)) wt ra ea (st + (1 : Int64)) n0 q (x - (1 : Int32)) h11z O12z I13z DD hn0 hN hwd hNw OA0 OA1 OA2 (own_sub1 hq hqN hN) hqN hls) hZ (own_hw hw 50 rfl) (own_hw hw 3 rfl) (by decide) (by decide)) (g := (mkF m 125 #[.val (.ref r), .val (.int x), .val (.int (x - (1 : Int32))), .val (.ref (rows q)), .val (.ref b7z), .val (.int xj)] [(.int (x - (1 : Int32))), (.ref r)])) rfl (by rw [hml]; rfl) (Steps.refl _) (a := r) (by rw [e11z]; exact qa14z) qb14z (argsL := [(.int (x - (1 : Int32)))]) (rest := []) (lenOf pd_184260196 rfl) rfl (by show 2 * 0 + _ ≤ _; exact Nat.le_of_eq rfl) (hb hby d_prog_67_method_2_code_125) (fun _ _ => ⟨rfl, e11z, (by decide : 1 + 0 ≤ _), (by decide : 3 + 0 ≤ _)⟩)
          dsimp only [Pt.U, Pt.locs, Pt.cells, Pt.slots] at X14z l14z y14z z14z st14z hQ14z
          subst l14z y14z z14z
          obtain ⟨rfl, NQ14z, K14zq⟩ := hQ14z
          refine own_tr st14z ?_
          have N14z := Fr.app N11z NQ14z
          show own_G p e below (T14z.setTop (mkF m 128 #[.val (.ref r), .val (.int x), .val (.int (x - (1 : Int32))), .val (.ref (rows q)), .val (.ref b7z), .val (.int xj)] [(.ref (rows q))])) _
          refine own_go (fun t k => XS.iloadN X14z.here hx rfl (hb hby d_prog_67_method_2_code_128) rfl k) ?_
          obtain ⟨_, _, ⟨T15z, L15z, k15z, n15z⟩, -, X15z, ⟨Lc15z, hQ15z, l15z, y15z, z15z⟩, st15z⟩ := Jvm.LawKit.callS X14z hx (y := own_m0) hown (own_mw hZ hw 40 rfl) (own_mw hZ hw 41 rfl) (own_mw hZ hw 3 rfl) (own_mw hZ hw 42 rfl) (by decide) (backOf (W := 1) (own_word l Z a0 hw [] (x - (1 : Int32)) h11z O12z) hZ (own_hw hw 42 rfl) (own_hw hw 3 rfl) (by decide) (by decide)) (g := (mkF m 129 #[.val (.ref r), .val (.int x), .val (.int (x - (1 : Int32))), .val (.ref (rows q)), .val (.ref b7z), .val (.int xj)] [(.int (x - (1 : Int32))), (.ref (rows q))])) rfl (by rw [hml]; rfl) (argsL := [(.int (x - (1 : Int32)))]) (rest := [(.ref (rows q))]) (lenOf pd_2087992008 rfl) rfl (by show 2 * 0 + _ ≤ _; exact Nat.le_of_eq rfl) (hb hby d_prog_67_method_2_code_129) (fun _ _ => ⟨rfl, K14zq, (by decide : 1 + 0 ≤ _), (by decide : 3 + 0 ≤ _)⟩)
          dsimp only [Pt.U, Pt.locs, Pt.cells, Pt.slots] at X15z l15z y15z z15z st15z hQ15z
          subst l15z y15z z15z
          obtain ⟨rfl, NQ15z, K15zq⟩ := hQ15z
          refine own_go st15z ?_
          have N15z := Fr.app N14z NQ15z
          show own_G p e below (T15z.setTop (mkF m 132 #[.val (.ref r), .val (.int x), .val (.int (x - (1 : Int32))), .val (.ref (rows q)), .val (.ref b7z), .val (.int xj)] [(.int ((x - (1 : Int32)) / (64 : Int32))), (.ref (rows q))])) _
          refine own_go (fun t k => own_dup2 X15z.here hx rfl (hb hby d_prog_67_method_2_code_132) rfl rfl rfl k) ?_
          refine own_go (own_ldJ X15z hx hZ K15zq (I13z.2.2.2.2.2.2.2.2.2.2.2.2.2.2.2 q hqN).1 (i := (q / 64)) (v := (.long (((own_rcI rc q N) q) (q / 64)))) (own_w64 (own_sub1 hq hqN hN)) (own_rget _ (hNw q hqN)) (g := (mkF m 133 #[.val (.ref r), .val (.int x), .val (.int (x - (1 : Int32))), .val (.ref (rows q)), .val (.ref b7z), .val (.int xj)] [(.int ((x - (1 : Int32)) / (64 : Int32))), (.ref (rows q)), (.int ((x - (1 : Int32)) / (64 : Int32))), (.ref (rows q))])) rfl rfl (hb hby d_prog_67_method_2_code_133)) ?_
          refine own_go (fun t k => XS.iloadN X15z.here hx rfl (hb hby d_prog_67_method_2_code_134) rfl k) ?_
          obtain ⟨_, _, ⟨T16z, L16z, k16z, n16z⟩, -, X16z, ⟨Lc16z, hQ16z, l16z, y16z, z16z⟩, st16z⟩ := Jvm.LawKit.callS X15z hx (y := own_m1) hown (own_mw hZ hw 43 rfl) (own_mw hZ hw 44 rfl) (own_mw hZ hw 3 rfl) (own_mw hZ hw 45 rfl) (by decide) (backOf (W := 4) (own_bitM l Z a0 hw [] (x - (1 : Int32)) q h11z O12z (own_sub1 hq hqN hN)) hZ (own_hw hw 45 rfl) (own_hw hw 3 rfl) (by decide) (by decide)) (g := (mkF m 135 #[.val (.ref r), .val (.int x), .val (.int (x - (1 : Int32))), .val (.ref (rows q)), .val (.ref b7z), .val (.int xj)] [(.int (x - (1 : Int32))), (.long (((own_rcI rc q N) q) (q / 64))), (.int ((x - (1 : Int32)) / (64 : Int32))), (.ref (rows q))])) rfl (by rw [hml]; rfl) (argsL := [(.int (x - (1 : Int32)))]) (rest := [(.long (((own_rcI rc q N) q) (q / 64))), (.int ((x - (1 : Int32)) / (64 : Int32))), (.ref (rows q))]) (lenOf pd_2087992009 rfl) rfl (by show 2 * 0 + _ ≤ _; exact Nat.le_of_eq rfl) (hb hby d_prog_67_method_2_code_135) (fun _ _ => ⟨rfl, K15zq, (by decide : 1 + 0 ≤ _), (by decide : 3 + 0 ≤ _)⟩)
          dsimp only [Pt.U, Pt.locs, Pt.cells, Pt.slots] at X16z l16z y16z z16z st16z hQ16z
          subst l16z y16z z16z
          obtain ⟨rfl, NQ16z, K16zq⟩ := hQ16z
          refine own_go st16z ?_
          have N16z := Fr.app N15z NQ16z
          show own_G p e below (T16z.setTop (mkF m 138 #[.val (.ref r), .val (.int x), .val (.int (x - (1 : Int32))), .val (.ref (rows q)), .val (.ref b7z), .val (.int xj)] [(.long (own_B q)), (.long (((own_rcI rc q N) q) (q / 64))), (.int ((x - (1 : Int32)) / (64 : Int32))), (.ref (rows q))])) _
          refine own_go (fun t k => XS.lor X16z.here hx rfl (hb hby d_prog_67_method_2_code_138) rfl k) ?_
          obtain ⟨T17z, h17z, X17z, e17z, W17z, V17z, st17z⟩ := own_stJ X16z hx hZ K16zq (I13z.2.2.2.2.2.2.2.2.2.2.2.2.2.2.2 q hqN).1 (i := (q / 64)) (own_w64 (own_sub1 hq hqN hN)) (by rw [own_rlen]; exact hNw q hqN) (g := (mkF m 139 #[.val (.ref r), .val (.int x), .val (.int (x - (1 : Int32))), .val (.ref (rows q)), .val (.ref b7z), .val (.int xj)] [(.long ((((own_rcI rc q N) q) (q / 64)) ||| (own_B q))), (.int ((x - (1 : Int32)) / (64 : Int32))), (.ref (rows q))])) rfl rfl (hb hby d_prog_67_method_2_code_139)
          refine own_go st17z ?_
          have N17z := Fr.snoc X17z N16z (Nat.le_trans hn0 (DD.2.2.2.1 q hqN).1)
          have O18z := own_ext_wr O12z W17z (Nat.le_trans hn0 (DD.2.2.2.1 q hqN).1)
          have K18z := K12z.wr W17z (Or.inl (own_ws_row hqN))
          have I19z := own_I.wr hqN I13z DD W17z (own_L.set V17z)
          have V17z : own_A Z h17z (rows q) (K 6) .long (((List.range wd).map fun i_z => Value.long (((own_rcI rc q N) q) i_z)).set (q / 64) (.long ((((own_rcI rc q N) q) (q / 64)) ||| (own_B q)))) := V17z
          refine own_go (fun t k => XS.aloadN X17z.here hx rfl (hb hby d_prog_67_method_2_code_140) rfl rfl k) ?_
          obtain ⟨T20z, X20z, e20z, st20z⟩ := getF X17z hx hZ hown (host := "") (Or.inl (own_hw hw 24 rfl)) Via.refl e17z I19z.2.2.2.2.2.1 (g := (mkF m 141 #[.val (.ref r), .val (.int x), .val (.int (x - (1 : Int32))), .val (.ref (rows q)), .val (.ref b7z), .val (.int xj)] [(.ref r)])) rfl rfl (hb hby d_prog_67_method_2_code_141)
          refine own_go st20z ?_
          show own_G p e below (T20z.setTop (mkF m 144 #[.val (.ref r), .val (.int x), .val (.int (x - (1 : Int32))), .val (.ref (rows q)), .val (.ref b7z), .val (.int xj)] [(.ref (A 3))])) _
          refine own_go (fun t k => XS.iloadN X20z.here hx rfl (hb hby d_prog_67_method_2_code_144) rfl k) ?_
          obtain ⟨_, _, ⟨T21z, L21z, k21z, n21z⟩, -, X21z, ⟨Lc21z, hQ21z, l21z, y21z, z21z⟩, st21z⟩ := Jvm.LawKit.callS X20z hx (y := own_m0) hown (own_mw hZ hw 40 rfl) (own_mw hZ hw 41 rfl) (own_mw hZ hw 3 rfl) (own_mw hZ hw 42 rfl) (by decide) (backOf (W := 1) (own_word l Z a0 hw [] (x - (1 : Int32)) h17z O18z) hZ (own_hw hw 42 rfl) (own_hw hw 3 rfl) (by decide) (by decide)) (g := (mkF m 145 #[.val (.ref r), .val (.int x), .val (.int (x - (1 : Int32))), .val (.ref (rows q)), .val (.ref b7z), .val (.int xj)] [(.int (x - (1 : Int32))), (.ref (A 3))])) rfl (by rw [hml]; rfl) (argsL := [(.int (x - (1 : Int32)))]) (rest := [(.ref (A 3))]) (lenOf pd_2087992008 rfl) rfl (by show 2 * 0 + _ ≤ _; exact Nat.le_of_eq rfl) (hb hby d_prog_67_method_2_code_145) (fun _ _ => ⟨rfl, e20z, (by decide : 1 + 0 ≤ _), (by decide : 3 + 0 ≤ _)⟩)
          dsimp only [Pt.U, Pt.locs, Pt.cells, Pt.slots] at X21z l21z y21z z21z st21z hQ21z
          subst l21z y21z z21z
          obtain ⟨rfl, NQ21z, K21zq⟩ := hQ21z
          refine own_go st21z ?_
          have N21z := Fr.app N17z NQ21z
          show own_G p e below (T21z.setTop (mkF m 148 #[.val (.ref r), .val (.int x), .val (.int (x - (1 : Int32))), .val (.ref (rows q)), .val (.ref b7z), .val (.int xj)] [(.int ((x - (1 : Int32)) / (64 : Int32))), (.ref (A 3))])) _
          refine own_go (fun t k => own_dup2 X21z.here hx rfl (hb hby d_prog_67_method_2_code_148) rfl rfl rfl k) ?_
          refine own_go (own_ldJ X21z hx hZ K21zq I19z.2.2.2.2.2.2.2.2.2.2.2.2.1 (i := (q / 64)) (v := (.long (wt (q / 64)))) (own_w64 (own_sub1 hq hqN hN)) (own_rget _ (hNw q hqN)) (g := (mkF m 149 #[.val (.ref r), .val (.int x), .val (.int (x - (1 : Int32))), .val (.ref (rows q)), .val (.ref b7z), .val (.int xj)] [(.int ((x - (1 : Int32)) / (64 : Int32))), (.ref (A 3)), (.int ((x - (1 : Int32)) / (64 : Int32))), (.ref (A 3))])) rfl rfl (hb hby d_prog_67_method_2_code_149)) ?_
          refine own_go (fun t k => XS.iloadN X21z.here hx rfl (hb hby d_prog_67_method_2_code_150) rfl k) ?_
          obtain ⟨_, _, ⟨T22z, L22z, k22z, n22z⟩, -, X22z, ⟨Lc22z, hQ22z, l22z, y22z, z22z⟩, st22z⟩ := Jvm.LawKit.callS X21z hx (y := own_m1) hown (own_mw hZ hw 43 rfl) (own_mw hZ hw 44 rfl) (own_mw hZ hw 3 rfl) (own_mw hZ hw 45 rfl) (by decide) (backOf (W := 4) (own_bitM l Z a0 hw [] (x - (1 : Int32)) q h17z O18z (own_sub1 hq hqN hN)) hZ (own_hw hw 45 rfl) (own_hw hw 3 rfl) (by decide) (by decide)) (g := (mkF m 151 #[.val (.ref r), .val (.int x), .val (.int (x - (1 : Int32))), .val (.ref (rows q)), .val (.ref b7z), .val (.int xj)] [(.int (x - (1 : Int32))), (.long (wt (q / 64))), (.int ((x - (1 : Int32)) / (64 : Int32))), (.ref (A 3))])) rfl (by rw [hml]; rfl) (argsL := [(.int (x - (1 : Int32)))]) (rest := [(.long (wt (q / 64))), (.int ((x - (1 : Int32)) / (64 : Int32))), (.ref (A 3))]) (lenOf pd_2087992009 rfl) rfl (by show 2 * 0 + _ ≤ _; exact Nat.le_of_eq rfl) (hb hby d_prog_67_method_2_code_151) (fun _ _ => ⟨rfl, K21zq, (by decide : 1 + 0 ≤ _), (by decide : 3 + 0 ≤ _)⟩)
          dsimp only [Pt.U, Pt.locs, Pt.cells, Pt.slots] at X22z l22z y22z z22z st22z hQ22z
          subst l22z y22z z22z
          obtain ⟨rfl, NQ22z, K22zq⟩ := hQ22z
          refine own_go st22z ?_
          have N22z := Fr.app N21z NQ22z
          show own_G p e below (T22z.setTop (mkF m 154 #[.val (.ref r), .val (.int x), .val (.int (x - (1 : Int32))), .val (.ref (rows q)), .val (.ref b7z), .val (.int xj)] [(.long (own_B q)), (.long (wt (q / 64))), (.int ((x - (1 : Int32)) / (64 : Int32))), (.ref (A 3))])) _
          refine own_go (fun t k => XS.lor X22z.here hx rfl (hb hby d_prog_67_method_2_code_154) rfl k) ?_
          obtain ⟨T23z, h23z, X23z, e23z, W23z, V23z, st23z⟩ := own_stJ X22z hx hZ K22zq I19z.2.2.2.2.2.2.2.2.2.2.2.2.1 (i := (q / 64)) (own_w64 (own_sub1 hq hqN hN)) (by rw [own_rlen]; exact hNw q hqN) (g := (mkF m 155 #[.val (.ref r), .val (.int x), .val (.int (x - (1 : Int32))), .val (.ref (rows q)), .val (.ref b7z), .val (.int xj)] [(.long ((wt (q / 64)) ||| (own_B q))), (.int ((x - (1 : Int32)) / (64 : Int32))), (.ref (A 3))])) rfl rfl (hb hby d_prog_67_method_2_code_155)
          refine own_go st23z ?_
          have N23z := Fr.snoc X23z N22z (Nat.le_trans hn0 (DD.2.1 3 (by decide)).1)
          have O24z := own_ext_wr O18z W23z (Nat.le_trans hn0 (DD.2.1 3 (by decide)).1)
          have K24z := K18z.wr W23z (Or.inl (own_ws_A (by decide : 3 < 6)))
          have I25z := own_I.w3 I19z DD W23z (own_L.set V23z)
          have V23z : own_A Z h23z (A 3) (K 3) .long (((List.range wd).map fun i_z => Value.long (wt i_z)).set (q / 64) (.long ((wt (q / 64)) ||| (own_B q)))) := V23z
          refine own_go (fun t k => XS.aloadN X23z.here hx rfl (hb hby d_prog_67_method_2_code_156) rfl rfl k) ?_
          obtain ⟨T26z, X26z, e26z, st26z⟩ := getF X23z hx hZ hown (host := "") (Or.inl (own_hw hw 26 rfl)) Via.refl e23z I25z.2.2.2.2.2.2.1 (g := (mkF m 157 #[.val (.ref r), .val (.int x), .val (.int (x - (1 : Int32))), .val (.ref (rows q)), .val (.ref b7z), .val (.int xj)] [(.ref r)])) rfl rfl (hb hby d_prog_67_method_2_code_157)
          refine own_go st26z ?_
          show own_G p e below (T26z.setTop (mkF m 160 #[.val (.ref r), .val (.int x), .val (.int (x - (1 : Int32))), .val (.ref (rows q)), .val (.ref b7z), .val (.int xj)] [(.ref (A 4))])) _
          refine own_go (fun t k => XS.iloadN X26z.here hx rfl (hb hby d_prog_67_method_2_code_160) rfl k) ?_
          refine own_go (fun t k => XS.aloadN X26z.here hx rfl (hb hby d_prog_67_method_2_code_161) rfl rfl k) ?_
          obtain ⟨T27z, X27z, e27z, st27z⟩ := getF X26z hx hZ hown (host := "") (Or.inl (own_hw hw 35 rfl)) Via.refl e26z I25z.2.2.2.2.2.2.2.2.1 (g := (mkF m 162 #[.val (.ref r), .val (.int x), .val (.int (x - (1 : Int32))), .val (.ref (rows q)), .val (.ref b7z), .val (.int xj)] [(.ref r), (.int (x - (1 : Int32))), (.ref (A 4))])) rfl rfl (hb hby d_prog_67_method_2_code_162)
          refine own_go st27z ?_
          obtain ⟨T28z, h28z, X28z, e28z, W28z, V28z, st28z⟩ := own_stJ X27z hx hZ e27z I25z.2.2.2.2.2.2.2.2.2.2.2.2.2.1 (i := q) (own_sub1 hq hqN hN) (by rw [own_rlen]; exact hqN) (g := (mkF m 165 #[.val (.ref r), .val (.int x), .val (.int (x - (1 : Int32))), .val (.ref (rows q)), .val (.ref b7z), .val (.int xj)] [(.long (st + (1 : Int64))), (.int (x - (1 : Int32))), (.ref (A 4))])) rfl rfl (hb hby d_prog_67_method_2_code_165)
          refine own_go st28z ?_
          have N28z := Fr.snoc X28z N23z (Nat.le_trans hn0 (DD.2.1 4 (by decide)).1)
          have O29z := own_ext_wr O24z W28z (Nat.le_trans hn0 (DD.2.1 4 (by decide)).1)
          have K29z := K24z.wr W28z (Or.inl (own_ws_A (by decide : 4 < 6)))
          have I30z := own_I.w4 I25z DD W28z (own_L.set V28z)
          have V28z : own_A Z h28z (A 4) (K 4) .long (((List.range N).map fun i_z => Value.long (ra i_z)).set q (.long (st + (1 : Int64)))) := V28z
          show own_G p e below (T28z.setTop (mkF m 166 #[.val (.ref r), .val (.int x), .val (.int (x - (1 : Int32))), .val (.ref (rows q)), .val (.ref b7z), .val (.int xj)] [])) _
          have f31z := ((((LB.other W11z (own_nA ob7z (by decide : 2 < 6))).other W17z (own_nrow ob7z hqN)).other W23z (own_nA ob7z (by decide : 3 < 6))).other W28z (own_nA ob7z (by decide : 4 < 6)))
          exact own_retV X28z hx Bd.returns (hb hby d_prog_67_method_2_code_166) hlk (Nat.le_of_ble_eq_true rfl) (Nat.le_of_ble_eq_true rfl) (by show Q_own_rq0 Z r N wd A K rows rc ls pr wt ra ea st n0 q x h0 _ T28z.heap _; rw [e28z]; exact ⟨b7z, kc7z, rfl, N28z, K29z, (by have t := I30z; rw [own_rcI_q, own_or_eq, own_or_eq] at t; exact t), lz_b7z, ob7z, (own_L.eqf (by have t : own_L Z h28z b7z kc7z wd (own_pj ((own_rcI rc q N) q) wt wd) := f31z; rw [own_rcI_q] at t; exact t) (fun j hj => if_pos hj))⟩)
        | succ n ih =>
          intro j xj T h locs hi hxi X eL NL OL KL IL LB EB
          have hjw : j < wd := by omega
          show own_G p e below (T.setTop (mkF m 85 #[.val (.ref r), .val (.int x), .val (.int (x - (1 : Int32))), .val (.ref (rows q)), .val (.ref b7z), .val (.int xj)] [])) _
          refine own_go (fun t k => XS.iload X.here hx rfl (hb hby d_prog_67_method_2_code_85) rfl k) ?_
          refine own_go (fun t k => XS.aloadN X.here hx rfl (hb hby d_prog_67_method_2_code_87) rfl rfl k) ?_
          refine own_go (own_len X hx hZ eL (IL.2.2.2.2.2.2.2.2.2.2.2.2.2.2.2 q hqN).1 (z := (Int32.ofNat wd)) (by rw [own_rlen]; exact own_ofN (by omega)) (g := (mkF m 88 #[.val (.ref r), .val (.int x), .val (.int (x - (1 : Int32))), .val (.ref (rows q)), .val (.ref b7z), .val (.int xj)] [(.ref (rows q)), (.int xj)])) rfl rfl (hb hby d_prog_67_method_2_code_88)) ?_
          refine own_go (fun t k => XS.icmpNo X.here hx rfl (hb hby d_prog_67_method_2_code_89) rfl (tlt ((own_ltN hxi (by omega)).mpr hjw)).2.1 k) ?_
          show own_G p e below (T.setTop (mkF m 92 #[.val (.ref r), .val (.int x), .val (.int (x - (1 : Int32))), .val (.ref (rows q)), .val (.ref b7z), .val (.int xj)] [])) _
          refine own_go (fun t k => XS.aload X.here hx rfl (hb hby d_prog_67_method_2_code_92) rfl rfl k) ?_
          refine own_go (fun t k => XS.iload X.here hx rfl (hb hby d_prog_67_method_2_code_94) rfl k) ?_
          refine own_go (fun t k => XS.aloadN X.here hx rfl (hb hby d_prog_67_method_2_code_96) rfl rfl k) ?_
          refine own_go (fun t k => XS.iload X.here hx rfl (hb hby d_prog_67_method_2_code_97) rfl k) ?_
          show own_G p e below (T.setTop (mkF m 99 #[.val (.ref r), .val (.int x), .val (.int (x - (1 : Int32))), .val (.ref (rows q)), .val (.ref b7z), .val (.int xj)] [(.int xj), (.ref (rows q)), (.int xj), (.ref b7z)])) _
          refine own_go (own_ldJ X hx hZ eL (IL.2.2.2.2.2.2.2.2.2.2.2.2.2.2.2 q hqN).1 (i := j) (v := (.long (((own_rcI rc q N) q) j))) hxi (own_rget _ hjw) (g := (mkF m 99 #[.val (.ref r), .val (.int x), .val (.int (x - (1 : Int32))), .val (.ref (rows q)), .val (.ref b7z), .val (.int xj)] [(.int xj), (.ref (rows q)), (.int xj), (.ref b7z)])) rfl rfl (hb hby d_prog_67_method_2_code_99)) ?_
          refine own_go (fun t k => XS.aloadN X.here hx rfl (hb hby d_prog_67_method_2_code_100) rfl rfl k) ?_
          obtain ⟨T32z, X32z, e32z, st32z⟩ := getF X hx hZ hown (host := "") (Or.inl (own_hw hw 24 rfl)) Via.refl eL IL.2.2.2.2.2.1 (g := (mkF m 101 #[.val (.ref r), .val (.int x), .val (.int (x - (1 : Int32))), .val (.ref (rows q)), .val (.ref b7z), .val (.int xj)] [(.ref r), (.long (((own_rcI rc q N) q) j)), (.int xj), (.ref b7z)])) rfl rfl (hb hby d_prog_67_method_2_code_101)
          refine own_go st32z ?_
          refine own_go (fun t k => XS.iload X32z.here hx rfl (hb hby d_prog_67_method_2_code_104) rfl k) ?_
          show own_G p e below (T32z.setTop (mkF m 106 #[.val (.ref r), .val (.int x), .val (.int (x - (1 : Int32))), .val (.ref (rows q)), .val (.ref b7z), .val (.int xj)] [(.int xj), (.ref (A 3)), (.long (((own_rcI rc q N) q) j)), (.int xj), (.ref b7z)])) _
          refine own_go (own_ldJ X32z hx hZ e32z IL.2.2.2.2.2.2.2.2.2.2.2.2.1 (i := j) (v := (.long (wt j))) hxi (own_rget _ hjw) (g := (mkF m 106 #[.val (.ref r), .val (.int x), .val (.int (x - (1 : Int32))), .val (.ref (rows q)), .val (.ref b7z), .val (.int xj)] [(.int xj), (.ref (A 3)), (.long (((own_rcI rc q N) q) j)), (.int xj), (.ref b7z)])) rfl rfl (hb hby d_prog_67_method_2_code_106)) ?_
          refine own_go (fun t k => XS.land X32z.here hx rfl (hb hby d_prog_67_method_2_code_107) rfl k) ?_
          obtain ⟨T33z, h33z, X33z, e33z, W33z, V33z, st33z⟩ := own_stJ X32z hx hZ e32z LB (i := j) hxi (by rw [own_rlen]; exact hjw) (g := (mkF m 108 #[.val (.ref r), .val (.int x), .val (.int (x - (1 : Int32))), .val (.ref (rows q)), .val (.ref b7z), .val (.int xj)] [(.long ((((own_rcI rc q N) q) j) &&& (wt j))), (.int xj), (.ref b7z)])) rfl rfl (hb hby d_prog_67_method_2_code_108)
          refine own_go st33z ?_
          have N33z := Fr.snoc X33z NL fr_b7z
          have O34z := own_ext_wr OL W33z fr_b7z
          have K34z := KL.wr W33z (Or.inr lz_b7z)
          have I35z := own_I.wo IL W33z ob7z
          have V33z : own_A Z h33z b7z kc7z .long (((List.range wd).map fun i_z => Value.long ((own_pj ((own_rcI rc q N) q) wt j) i_z)).set j (.long ((((own_rcI rc q N) q) j) &&& (wt j)))) := V33z
          refine own_go (fun t k => XS.iinc X33z.here hx rfl (hb hby d_prog_67_method_2_code_109) rfl (l' := #[.val (.ref r), .val (.int x), .val (.int (x - (1 : Int32))), .val (.ref (rows q)), .val (.ref b7z), .val (.int (xj + (1 : Int32)))]) rfl k) ?_
          show own_G p e below (T33z.setTop (mkF m 112 #[.val (.ref r), .val (.int x), .val (.int (x - (1 : Int32))), .val (.ref (rows q)), .val (.ref b7z), .val (.int (xj + (1 : Int32)))] [])) _
          refine own_go (fun t k => XS.goto X33z.here hx rfl (pc0 := 112) (pc' := 85) rfl (hb hby d_prog_67_method_2_code_112) (by decide) (by decide) k) ?_
          show own_G p e below (T33z.setTop (mkF m 85 #[.val (.ref r), .val (.int x), .val (.int (x - (1 : Int32))), .val (.ref (rows q)), .val (.ref b7z), .val (.int (xj + (1 : Int32)))] [])) _
          exact ih (j + 1) _ _ _ _ (by omega) (own_inc hxi (by omega) (by omega : wd ≤ 129)) X33z e33z N33z O34z K34z I35z (own_pj_s ((own_rcI rc q N) q) wt j ▸ own_L.set V33z) (EB.wr W33z)
      exact loop2 wd 0 _ _ _ _ (by omega) (by decide) X7z e7z NL O8z K8z I9z LB0 EX7z
    | succ n ih =>
      intro i xi T h locs hi hxi X eL NL OL KL IL
      have hiN : i < N := by omega
      show own_G p e below (T.setTop (mkF m 16 #[.val (.ref r), .val (.int x), .val (.int (x - (1 : Int32))), .val (.int xi), .unset, .unset] [])) _
      refine own_go (fun t k => XS.iloadN X.here hx rfl (hb hby d_prog_67_method_2_code_16) rfl k) ?_
      refine own_go (fun t k => XS.aloadN X.here hx rfl (hb hby d_prog_67_method_2_code_17) rfl rfl k) ?_
      obtain ⟨T36z, X36z, e36z, st36z⟩ := getF X hx hZ hown (host := "") (Or.inl (own_hw hw 10 rfl)) Via.refl eL IL.2.1 (g := (mkF m 18 #[.val (.ref r), .val (.int x), .val (.int (x - (1 : Int32))), .val (.int xi), .unset, .unset] [(.ref r), (.int xi)])) rfl rfl (hb hby d_prog_67_method_2_code_18)
      refine own_go st36z ?_
      refine own_go (fun t k => XS.icmpNo X36z.here hx rfl (hb hby d_prog_67_method_2_code_21) rfl (tlt ((own_ltN hxi hN).mpr hiN)).2.1 k) ?_
      show own_G p e below (T36z.setTop (mkF m 24 #[.val (.ref r), .val (.int x), .val (.int (x - (1 : Int32))), .val (.int xi), .unset, .unset] [])) _
      refine own_go (fun t k => XS.iloadN X36z.here hx rfl (hb hby d_prog_67_method_2_code_24) rfl k) ?_
      refine own_go (fun t k => XS.iloadN X36z.here hx rfl (hb hby d_prog_67_method_2_code_25) rfl k) ?_
      by_cases hc37z : xi = (x - (1 : Int32))
      · refine own_go (fun t k => XS.icmpYes X36z.here hx rfl (pc0 := 26) (pc' := 63) rfl (hb hby d_prog_67_method_2_code_26) rfl (teq hc37z).1 (by decide) (by decide) k) ?_
        show own_G p e below (T36z.setTop (mkF m 63 #[.val (.ref r), .val (.int x), .val (.int (x - (1 : Int32))), .val (.int xi), .unset, .unset] [])) _
        refine own_go (fun t k => XS.iinc X36z.here hx rfl (hb hby d_prog_67_method_2_code_63) rfl (l' := #[.val (.ref r), .val (.int x), .val (.int (x - (1 : Int32))), .val (.int (xi + (1 : Int32))), .unset, .unset]) rfl k) ?_
        refine own_go (fun t k => XS.goto X36z.here hx rfl (pc0 := 66) (pc' := 16) rfl (hb hby d_prog_67_method_2_code_66) (by decide) (by decide) k) ?_
        show own_G p e below (T36z.setTop (mkF m 16 #[.val (.ref r), .val (.int x), .val (.int (x - (1 : Int32))), .val (.int (xi + (1 : Int32))), .unset, .unset] [])) _
        exact ih (i + 1) _ _ _ _ (by omega) (own_inc hxi (by omega) hN) X36z e36z NL OL KL (own_rcI_skip ((own_eqN hxi (own_sub1 hq hqN hN)).mp hc37z) ▸ IL)
      · refine own_go (fun t k => XS.icmpNo X36z.here hx rfl (hb hby d_prog_67_method_2_code_26) rfl (feq hc37z).1 k) ?_
        show own_G p e below (T36z.setTop (mkF m 29 #[.val (.ref r), .val (.int x), .val (.int (x - (1 : Int32))), .val (.int xi), .unset, .unset] [])) _
        refine own_go (fun t k => XS.aloadN X36z.here hx rfl (hb hby d_prog_67_method_2_code_29) rfl rfl k) ?_
        obtain ⟨T38z, X38z, e38z, st38z⟩ := getF X36z hx hZ hown (host := "") (Or.inl (own_hw hw 15 rfl)) Via.refl e36z IL.2.2.1 (g := (mkF m 30 #[.val (.ref r), .val (.int x), .val (.int (x - (1 : Int32))), .val (.int xi), .unset, .unset] [(.ref r)])) rfl rfl (hb hby d_prog_67_method_2_code_30)
        refine own_go st38z ?_
        refine own_go (fun t k => XS.iloadN X38z.here hx rfl (hb hby d_prog_67_method_2_code_33) rfl k) ?_
        refine own_go (own_ldA X38z hx hZ e38z IL.2.2.2.2.2.2.2.2.2.1 rfl (i := i) (v := (.ref (rows i))) hxi (own_rget (fun i => Value.ref (rows i)) hiN) (g := (mkF m 34 #[.val (.ref r), .val (.int x), .val (.int (x - (1 : Int32))), .val (.int xi), .unset, .unset] [(.int xi), (.ref (A 0))])) rfl rfl (hb hby d_prog_67_method_2_code_34)) ?_
        show own_G p e below (T38z.setTop (mkF m 35 #[.val (.ref r), .val (.int x), .val (.int (x - (1 : Int32))), .val (.int xi), .unset, .unset] [(.ref (rows i))])) _
        refine own_go (fun t k => XS.iloadN X38z.here hx rfl (hb hby d_prog_67_method_2_code_35) rfl k) ?_
        obtain ⟨_, _, ⟨T39z, L39z, k39z, n39z⟩, -, X39z, ⟨Lc39z, hQ39z, l39z, y39z, z39z⟩, st39z⟩ := Jvm.LawKit.callS X38z hx (y := own_m2) hown (own_mw hZ hw 37 rfl) (own_mw hZ hw 38 rfl) (own_mw hZ hw 3 rfl) (own_mw hZ hw 39 rfl) (by decide) (backOf (W := 0) (own_hasM l Z a0 hw [] (rows i) (K 6) wd ((own_rcI rc q i) i) (x - (1 : Int32)) q h OL ((IL.2.2.2.2.2.2.2.2.2.2.2.2.2.2.2 i hiN).1) (own_sub1 hq hqN hN) (hNw q hqN)) hZ (own_hw hw 39 rfl) (own_hw hw 3 rfl) (by decide) (by decide)) (g := (mkF m 36 #[.val (.ref r), .val (.int x), .val (.int (x - (1 : Int32))), .val (.int xi), .unset, .unset] [(.int (x - (1 : Int32))), (.ref (rows i))])) rfl (by rw [hml]; rfl) (argsL := [(.ref (rows i)), (.int (x - (1 : Int32)))]) (rest := []) (lenOf pd_1808131070 rfl) rfl (by show 2 * 0 + _ ≤ _; exact Nat.le_of_eq rfl) (hb hby d_prog_67_method_2_code_36) (fun _ _ => ⟨rfl, e38z, (by decide : 0 + 0 ≤ _), (by decide : 0 + 0 ≤ _)⟩)
        dsimp only [Pt.U, Pt.locs, Pt.cells, Pt.slots] at X39z l39z y39z z39z st39z hQ39z
        subst l39z y39z z39z
        obtain ⟨rfl, NQ39z, K39zq⟩ := hQ39z
        refine own_go st39z ?_
        have N39z := Fr.app NL NQ39z
        show own_G p e below (T39z.setTop (mkF m 39 #[.val (.ref r), .val (.int x), .val (.int (x - (1 : Int32))), .val (.int xi), .unset, .unset] [(.int (own_has ((own_rcI rc q i) i) q))])) _
        by_cases hc40z : (own_has ((own_rcI rc q i) i) q) = (0 : Int32)
        · refine own_go (fun t k => XS.ifYes X39z.here hx rfl (pc0 := 39) (pc' := 63) rfl (hb hby d_prog_67_method_2_code_39) rfl ((if0 _ _).trans (teq hc40z).1) (by decide) (by decide) k) ?_
          show own_G p e below (T39z.setTop (mkF m 63 #[.val (.ref r), .val (.int x), .val (.int (x - (1 : Int32))), .val (.int xi), .unset, .unset] [])) _
          refine own_go (fun t k => XS.iinc X39z.here hx rfl (hb hby d_prog_67_method_2_code_63) rfl (l' := #[.val (.ref r), .val (.int x), .val (.int (x - (1 : Int32))), .val (.int (xi + (1 : Int32))), .unset, .unset]) rfl k) ?_
          refine own_go (fun t k => XS.goto X39z.here hx rfl (pc0 := 66) (pc' := 16) rfl (hb hby d_prog_67_method_2_code_66) (by decide) (by decide) k) ?_
          show own_G p e below (T39z.setTop (mkF m 16 #[.val (.ref r), .val (.int x), .val (.int (x - (1 : Int32))), .val (.int (xi + (1 : Int32))), .unset, .unset] [])) _
          exact ih (i + 1) _ _ _ _ (by omega) (own_inc hxi (by omega) hN) X39z K39zq N39z OL KL (own_rcI_none (own_rcI_at (rc := rc) (q := q) (i := i) ▸ hc40z) ▸ IL)
        · refine own_go (fun t k => XS.ifNo X39z.here hx rfl (hb hby d_prog_67_method_2_code_39) rfl ((if0 _ _).trans (feq hc40z).1) k) ?_
          show own_G p e below (T39z.setTop (mkF m 42 #[.val (.ref r), .val (.int x), .val (.int (x - (1 : Int32))), .val (.int xi), .unset, .unset] [])) _
          refine own_go (fun t k => XS.aloadN X39z.here hx rfl (hb hby d_prog_67_method_2_code_42) rfl rfl k) ?_
          refine own_go (fun t k => XS.iloadN X39z.here hx rfl (hb hby d_prog_67_method_2_code_43) rfl k) ?_
          obtain ⟨cq41z, qa41z, qb41z⟩ := IL.1.cell
          obtain ⟨_, _, ⟨T41z, L41z, k41z, n41z⟩, -, X41z, ⟨Lc41z, hQ41z, l41z, y41z, z41z⟩, st41z⟩ := X39z.privateBack hx (y := own_m6) hown (own_mw hZ hw 47 rfl) (own_mw hZ hw 48 rfl) (own_selfPriv (mvT (args := #[]) hZ (own_hw hw 2 rfl)) (Cond.privateMethod_at (mvP hZ (own_hw hw 49 rfl) (args := #[]))) (own_mw hZ hw 48 rfl) (by decide)) (Cond.privateMethod_at (mvP hZ (own_hw hw 49 rfl) (args := #[]))) (own_mw hZ hw 50 rfl) (by decide) (backOf (W := 0) (own_wr0 l Z a0 hw [] r N wd A K rows (own_rcI rc q i) ls pr wt ra ea (st + (1 : Int64)) n0 i xi h OL IL DD hn0 hN hwd hNw OA0 OA1 OA2 hxi hiN (hrow i hiN (fun q => hc37z ((own_eqN hxi (own_sub1 hq hqN hN)).mpr q)) (own_rcI_at (rc := rc) (q := q) (i := i) ▸ hc40z))) hZ (own_hw hw 50 rfl) (own_hw hw 3 rfl) (by decide) (by decide)) (g := (mkF m 44 #[.val (.ref r), .val (.int x), .val (.int (x - (1 : Int32))), .val (.int xi), .unset, .unset] [(.int xi), (.ref r)])) rfl (by rw [hml]; rfl) (Steps.refl _) (a := r) (by rw [K39zq]; exact qa41z) qb41z (argsL := [(.int xi)]) (rest := []) (lenOf pd_184260196 rfl) rfl (by show 2 * 0 + _ ≤ _; exact Nat.le_of_eq rfl) (hb hby d_prog_67_method_2_code_44) (fun _ _ => ⟨rfl, K39zq, (by decide : 0 + 0 ≤ _), (by decide : 0 + 0 ≤ _)⟩)
          dsimp only [Pt.U, Pt.locs, Pt.cells, Pt.slots] at X41z l41z y41z z41z st41z hQ41z
          subst l41z y41z z41z
          obtain ⟨rfl, NQ41z, K41zq⟩ := hQ41z
          refine own_tr st41z ?_
          have N41z := Fr.app N39z NQ41z
          show own_G p e below (T41z.setTop (mkF m 47 #[.val (.ref r), .val (.int x), .val (.int (x - (1 : Int32))), .val (.int xi), .unset, .unset] [(.ref (rows i))])) _
          refine own_go (fun t k => XS.iloadN X41z.here hx rfl (hb hby d_prog_67_method_2_code_47) rfl k) ?_
          obtain ⟨_, _, ⟨T42z, L42z, k42z, n42z⟩, -, X42z, ⟨Lc42z, hQ42z, l42z, y42z, z42z⟩, st42z⟩ := Jvm.LawKit.callS X41z hx (y := own_m0) hown (own_mw hZ hw 40 rfl) (own_mw hZ hw 41 rfl) (own_mw hZ hw 3 rfl) (own_mw hZ hw 42 rfl) (by decide) (backOf (W := 1) (own_word l Z a0 hw [] (x - (1 : Int32)) h OL) hZ (own_hw hw 42 rfl) (own_hw hw 3 rfl) (by decide) (by decide)) (g := (mkF m 48 #[.val (.ref r), .val (.int x), .val (.int (x - (1 : Int32))), .val (.int xi), .unset, .unset] [(.int (x - (1 : Int32))), (.ref (rows i))])) rfl (by rw [hml]; rfl) (argsL := [(.int (x - (1 : Int32)))]) (rest := [(.ref (rows i))]) (lenOf pd_2087992008 rfl) rfl (by show 2 * 0 + _ ≤ _; exact Nat.le_of_eq rfl) (hb hby d_prog_67_method_2_code_48) (fun _ _ => ⟨rfl, K41zq, (by decide : 0 + 0 ≤ _), (by decide : 0 + 0 ≤ _)⟩)
          dsimp only [Pt.U, Pt.locs, Pt.cells, Pt.slots] at X42z l42z y42z z42z st42z hQ42z
          subst l42z y42z z42z
          obtain ⟨rfl, NQ42z, K42zq⟩ := hQ42z
          refine own_go st42z ?_
          have N42z := Fr.app N41z NQ42z
          show own_G p e below (T42z.setTop (mkF m 51 #[.val (.ref r), .val (.int x), .val (.int (x - (1 : Int32))), .val (.int xi), .unset, .unset] [(.int ((x - (1 : Int32)) / (64 : Int32))), (.ref (rows i))])) _
          refine own_go (fun t k => own_dup2 X42z.here hx rfl (hb hby d_prog_67_method_2_code_51) rfl rfl rfl k) ?_
          refine own_go (own_ldJ X42z hx hZ K42zq (IL.2.2.2.2.2.2.2.2.2.2.2.2.2.2.2 i hiN).1 (i := (q / 64)) (v := (.long (((own_rcI rc q i) i) (q / 64)))) (own_w64 (own_sub1 hq hqN hN)) (own_rget _ (hNw q hqN)) (g := (mkF m 52 #[.val (.ref r), .val (.int x), .val (.int (x - (1 : Int32))), .val (.int xi), .unset, .unset] [(.int ((x - (1 : Int32)) / (64 : Int32))), (.ref (rows i)), (.int ((x - (1 : Int32)) / (64 : Int32))), (.ref (rows i))])) rfl rfl (hb hby d_prog_67_method_2_code_52)) ?_
          refine own_go (fun t k => XS.iloadN X42z.here hx rfl (hb hby d_prog_67_method_2_code_53) rfl k) ?_
          obtain ⟨_, _, ⟨T43z, L43z, k43z, n43z⟩, -, X43z, ⟨Lc43z, hQ43z, l43z, y43z, z43z⟩, st43z⟩ := Jvm.LawKit.callS X42z hx (y := own_m1) hown (own_mw hZ hw 43 rfl) (own_mw hZ hw 44 rfl) (own_mw hZ hw 3 rfl) (own_mw hZ hw 45 rfl) (by decide) (backOf (W := 4) (own_bitM l Z a0 hw [] (x - (1 : Int32)) q h OL (own_sub1 hq hqN hN)) hZ (own_hw hw 45 rfl) (own_hw hw 3 rfl) (by decide) (by decide)) (g := (mkF m 54 #[.val (.ref r), .val (.int x), .val (.int (x - (1 : Int32))), .val (.int xi), .unset, .unset] [(.int (x - (1 : Int32))), (.long (((own_rcI rc q i) i) (q / 64))), (.int ((x - (1 : Int32)) / (64 : Int32))), (.ref (rows i))])) rfl (by rw [hml]; rfl) (argsL := [(.int (x - (1 : Int32)))]) (rest := [(.long (((own_rcI rc q i) i) (q / 64))), (.int ((x - (1 : Int32)) / (64 : Int32))), (.ref (rows i))]) (lenOf pd_2087992009 rfl) rfl (by show 2 * 0 + _ ≤ _; exact Nat.le_of_eq rfl) (hb hby d_prog_67_method_2_code_54) (fun _ _ => ⟨rfl, K42zq, (by decide : 0 + 0 ≤ _), (by decide : 0 + 0 ≤ _)⟩)
          dsimp only [Pt.U, Pt.locs, Pt.cells, Pt.slots] at X43z l43z y43z z43z st43z hQ43z
          subst l43z y43z z43z
          obtain ⟨rfl, NQ43z, K43zq⟩ := hQ43z
          refine own_go st43z ?_
          have N43z := Fr.app N42z NQ43z
          show own_G p e below (T43z.setTop (mkF m 57 #[.val (.ref r), .val (.int x), .val (.int (x - (1 : Int32))), .val (.int xi), .unset, .unset] [(.long (own_B q)), (.long (((own_rcI rc q i) i) (q / 64))), (.int ((x - (1 : Int32)) / (64 : Int32))), (.ref (rows i))])) _
          refine own_go (fun t k => X43z.ldc2J hx hown (mvT hZ (own_hw hw 73 rfl)) rfl (hb hby d_prog_67_method_2_code_57) k) ?_
          refine own_go (fun t k => XS.lxor X43z.here hx rfl (hb hby d_prog_67_method_2_code_60) rfl k) ?_
          refine own_go (fun t k => XS.land X43z.here hx rfl (hb hby d_prog_67_method_2_code_61) rfl k) ?_
          obtain ⟨T44z, h44z, X44z, e44z, W44z, V44z, st44z⟩ := own_stJ X43z hx hZ K43zq (IL.2.2.2.2.2.2.2.2.2.2.2.2.2.2.2 i hiN).1 (i := (q / 64)) (own_w64 (own_sub1 hq hqN hN)) (by rw [own_rlen]; exact hNw q hqN) (g := (mkF m 62 #[.val (.ref r), .val (.int x), .val (.int (x - (1 : Int32))), .val (.int xi), .unset, .unset] [(.long ((((own_rcI rc q i) i) (q / 64)) &&& ((own_B q) ^^^ (-1 : Int64)))), (.int ((x - (1 : Int32)) / (64 : Int32))), (.ref (rows i))])) rfl rfl (hb hby d_prog_67_method_2_code_62)
          refine own_go st44z ?_
          have N44z := Fr.snoc X44z N43z (Nat.le_trans hn0 (DD.2.2.2.1 i hiN).1)
          have O45z := own_ext_wr OL W44z (Nat.le_trans hn0 (DD.2.2.2.1 i hiN).1)
          have K45z := KL.wr W44z (Or.inl (own_ws_row hiN))
          have I46z := own_I.wr hiN IL DD W44z (own_L.set V44z)
          have V44z : own_A Z h44z (rows i) (K 6) .long (((List.range wd).map fun i_z => Value.long (((own_rcI rc q i) i) i_z)).set (q / 64) (.long ((((own_rcI rc q i) i) (q / 64)) &&& ((own_B q) ^^^ (-1 : Int64))))) := V44z
          show own_G p e below (T44z.setTop (mkF m 63 #[.val (.ref r), .val (.int x), .val (.int (x - (1 : Int32))), .val (.int xi), .unset, .unset] [])) _
          refine own_go (fun t k => XS.iinc X44z.here hx rfl (hb hby d_prog_67_method_2_code_63) rfl (l' := #[.val (.ref r), .val (.int x), .val (.int (x - (1 : Int32))), .val (.int (xi + (1 : Int32))), .unset, .unset]) rfl k) ?_
          refine own_go (fun t k => XS.goto X44z.here hx rfl (pc0 := 66) (pc' := 16) rfl (hb hby d_prog_67_method_2_code_66) (by decide) (by decide) k) ?_
          show own_G p e below (T44z.setTop (mkF m 16 #[.val (.ref r), .val (.int x), .val (.int (x - (1 : Int32))), .val (.int (xi + (1 : Int32))), .unset, .unset] [])) _
          exact ih (i + 1) _ _ _ _ (by omega) (own_inc hxi (by omega) hN) X44z e44z N44z O45z K45z (own_rcI_clr (fun q => hc37z ((own_eqN hxi (own_sub1 hq hqN hN)).mpr q)) ▸ I46z)
  exact loop1 N 0 _ _ _ _ (by omega) (by decide) X2z e2z N2z O3z K3z (own_rcI_0.symm ▸ I4z)
theorem ef_own_rqc (m : MethodId) (x0 : Addr) (x1 : Int32) : entryFrame m #[(.ref x0), (.int x1)] 6 = mkF m 0 #[.val (.ref x0), .val (.int x1), .unset, .unset, .unset, .unset] [] := by first | (simp [entryFrame, mkF, argsToLocals, Value.category]; done) | rfl
theorem pf_own_rqc : plainFor own_m7 = true := plainFor_of_name (by simp [plainName, overriddenIn])
def Q_own_rqc (Z : State) (r : Addr) (N : Nat) (wd : Nat) (A : (Nat → Addr)) (K : (Nat → ClassId)) (rows : (Nat → Addr)) (rc : (Nat → Nat → Int64)) (ls : (Nat → Value)) (pr : (Nat → Value)) (wt : (Nat → Int64)) (ra : (Nat → Int64)) (ea : (Nat → Int64)) (st : Int64) (n0 : Nat) (q : Nat) (x : Int32) (kn : Addr) (h0 : Heap) (v : Option Value) (h : Heap) (L : List Loc) : Prop := ∃ np : Addr, ∃ kp : ClassId, ∃ nr : Addr, v = none ∧ Fr Z.heap.size L ∧ Keep h0 h (own_ws r N A rows) ∧ (own_I Z h r N wd A K (own_upd rows q nr) (own_upd (own_rcI rc q N) q (own_or (rc q) q)) ls (own_upd pr q (.ref np)) (own_or wt q) (own_upd ra q (st + (1 : Int64))) ea (st + (1 : Int64))) ∧ (h0.size ≤ np) ∧ (np ∉ own_ws r N A (own_upd rows q nr)) ∧ (own_A Z h np kp .long ((List.range wd).map fun i_z => Value.long ((fun j => rc q j &&& wt j) i_z))) ∧ (h0.size ≤ nr) ∧ (nr ∉ own_ws r N A rows) ∧ (own_D n0 r N A (own_upd rows q nr)) ∧ (own_A Z h (rows q) (K 6) .long ((List.range wd).map fun i_z => Value.long ((rc q) i_z)))
set_option maxRecDepth 65536 in
set_option maxHeartbeats 40000000 in
theorem own_rqc (l : Launch) (Z : State) (a0 : Array Value) (hw : ∀ d ∈ tables_1, d.before a0 Z = true) (ws : List Jvm.Cond) (r : Addr) (N : Nat) (wd : Nat) (A : (Nat → Addr)) (K : (Nat → ClassId)) (rows : (Nat → Addr)) (rc : (Nat → Nat → Int64)) (ls : (Nat → Value)) (pr : (Nat → Value)) (wt : (Nat → Int64)) (ra : (Nat → Int64)) (ea : (Nat → Int64)) (st : Int64) (n0 : Nat) (q : Nat) (x : Int32) (kn : Addr) (h0 : Heap) (O0 : Ext Z.heap h0) (II : own_I Z h0 r N wd A K rows rc ls pr wt ra ea st) (DD : own_D n0 r N A rows) (hn0 : Z.heap.size ≤ n0) (hN : N ≤ 129) (hwd : wd ≤ 3) (hNw : ∀ i, i < N → i / 64 < wd) (OA0 : OvrA Z (K 0) .long "[J") (OA1 : Ovr Z (K 1) own_s0) (OA2 : OvrA Z (K 2) .long "[J") (hq : x.toInt = (q : Int) + 1) (hqN : q < N) (hrow : ∀ j, j < N → ¬ j = q → ¬ own_has (rc j) q = 0 → ls j = .null) (hls : ls q = .ref kn) (q13 : Fld Z h0 kn own_s0 "follows" "[J" (.ref (rows q))) (kno : kn ∉ own_ws r N A rows) :
    MetFree l own_m7 (head1 (Jvm.Cond.code own_m7 prog_67_method_2_code 6 none :: ws) ({ frames := 2, cells := 2, slots := 6, locals := 30 } : Room)) (fun aa U => aa = #[(.ref r), (.int x)] ∧ Z.Warmed39 U.vm ∧ U.heap = h0) (fun _ _ _ _ _ => True) (fun _ U o U' => ∃ v L, o = .returned v ∧ Q_own_rqc Z r N wd A K rows rc ls pr wt ra ea st n0 q x kn h0 v U'.heap L ∧ FrameEnd U o U' L ({ frames := 2, cells := 2, slots := 6, locals := 30 } : Room).cells ({ frames := 2, cells := 2, slots := 6, locals := 30 } : Room).slots) := by
  refine MetFree.of_bodySF pf_own_rqc hisR ?_
  intro p e s m args below meth c s₁ Bd hml0 hP hK
  obtain ⟨rfl, hZ, hh⟩ := hP
  have hx := Bd.exec
  have hby := Bd.bytes
  have hlk := BodyLoose.notSynchronized Bd
  have hml : c.maxLocals = 6 := hml0
  have hown : s.vm.findClass own_s1 = some m.cls := findClass_of_methodNamed Bd.named
  have hnm := (name_of_methodNamed Bd.named Bd.method).1
  have X0 : Stand p l e ({ frames := 2, cells := 2, slots := 6, locals := 30 } : Room) s m #[(.ref r), (.int x)] below meth c s₁ [] 0 0 := Stand.of_body Bd
  have e0 : s₁.heap = h0 := by rw [← hh, Bd.state]; rfl
  have N0 := Fr.nil Z.heap.size
  have K0 : Keep h0 h0 (own_ws r N A rows) := Keep.refl _ _
  refine own_start (Q := Q_own_rqc Z r N wd A K rows rc ls pr wt ra ea st n0 q x kn h0) (ef_own_rqc m (r) (x)) ?_
  show own_G p e below (s₁.setTop (mkF m 0 #[.val (.ref r), .val (.int x), .unset, .unset, .unset, .unset] [])) _
  refine own_go (fun t k => XS.iloadN X0.here hx rfl (hb hby d_prog_67_method_2_code_0) rfl k) ?_
  refine own_go (fun t k => XS.iconst X0.here hx rfl (hb hby d_prog_67_method_2_code_1) k) ?_
  refine own_go (fun t k => XS.isub X0.here hx rfl (hb hby d_prog_67_method_2_code_2) rfl k) ?_
  refine own_go (fun t k => XS.istoreN X0.here hx rfl (hb hby d_prog_67_method_2_code_3) rfl (l' := #[.val (.ref r), .val (.int x), .val (.int (x - (1 : Int32))), .unset, .unset, .unset]) rfl k) ?_
  show own_G p e below (s₁.setTop (mkF m 4 #[.val (.ref r), .val (.int x), .val (.int (x - (1 : Int32))), .unset, .unset, .unset] [])) _
  refine own_go (fun t k => XS.aloadN X0.here hx rfl (hb hby d_prog_67_method_2_code_4) rfl rfl k) ?_
  refine own_go (fun t k => XS.dup X0.here hx rfl (hb hby d_prog_67_method_2_code_5) rfl rfl k) ?_
  obtain ⟨T1z, X1z, e1z, st1z⟩ := getF X0 hx hZ hown (host := "") (Or.inl (own_hw hw 35 rfl)) Via.refl e0 II.2.2.2.2.2.2.2.2.1 (g := (mkF m 6 #[.val (.ref r), .val (.int x), .val (.int (x - (1 : Int32))), .unset, .unset, .unset] [(.ref r), (.ref r)])) rfl rfl (hb hby d_prog_67_method_2_code_6)
  refine own_go st1z ?_
  refine own_go (fun t k => XS.lconst X1z.here hx rfl (hb hby d_prog_67_method_2_code_9) k) ?_
  show own_G p e below (T1z.setTop (mkF m 10 #[.val (.ref r), .val (.int x), .val (.int (x - (1 : Int32))), .unset, .unset, .unset] [(.long (1 : Int64)), (.long st), (.ref r)])) _
  refine own_go (fun t k => XS.ladd X1z.here hx rfl (hb hby d_prog_67_method_2_code_10) rfl k) ?_
  obtain ⟨T2z, h2z, X2z, e2z, W2z, st2z⟩ := putF X1z hx hZ hown (host := "") (Or.inl (own_hw hw 35 rfl)) Via.refl e1z II.2.2.2.2.2.2.2.2.1 II.1 (Or.inl (own_hw hw 36 rfl)) (own_hw hw 2 rfl) (ty := .long) (by decide) rfl rfl (g := (mkF m 11 #[.val (.ref r), .val (.int x), .val (.int (x - (1 : Int32))), .unset, .unset, .unset] [(.long (st + (1 : Int64))), (.ref r)])) rfl rfl (hb hby d_prog_67_method_2_code_11)
  refine own_go st2z ?_
  have N2z := Fr.snoc X2z N0 (Nat.le_trans hn0 DD.1)
  have F2z : Fld Z h2z r own_s1 "stamp" "J" (.long (st + (1 : Int64))) := II.2.2.2.2.2.2.2.2.1.same W2z
  have O3z := own_ext_wr O0 W2z (Nat.le_trans hn0 DD.1)
  have K3z := K0.wr W2z (Or.inl own_ws_r)
  have I4z := own_I.wst (own_hs hw) II DD W2z
  refine own_go (fun t k => XS.iconst X2z.here hx rfl (hb hby d_prog_67_method_2_code_14) k) ?_
  refine own_go (fun t k => XS.istoreN X2z.here hx rfl (hb hby d_prog_67_method_2_code_15) rfl (l' := #[.val (.ref r), .val (.int x), .val (.int (x - (1 : Int32))), .val (.int (0 : Int32)), .unset, .unset]) rfl k) ?_
  show own_G p e below (T2z.setTop (mkF m 16 #[.val (.ref r), .val (.int x), .val (.int (x - (1 : Int32))), .val (.int (0 : Int32)), .unset, .unset] [])) _
  have loop1 : ∀ (n i : Nat) (xi : Int32) (T : State) (h : Heap) (locs : List Loc), i + n = N → xi.toInt = (i : Int) → Stand p l e ({ frames := 2, cells := 2, slots := 6, locals := 30 } : Room) s m #[(.ref r), (.int x)] below meth c T locs 0 0 → T.heap = h → Fr Z.heap.size locs → Ext Z.heap h → Keep h0 h (own_ws r N A rows) → own_I Z h r N wd A K rows (own_rcI rc q i) ls pr wt ra ea (st + (1 : Int64)) → own_G p e below (T.setTop (mkF m 16 #[.val (.ref r), .val (.int x), .val (.int (x - (1 : Int32))), .val (.int xi), .unset, .unset] [])) (own_P s below ({ frames := 2, cells := 2, slots := 6, locals := 30 } : Room).cells ({ frames := 2, cells := 2, slots := 6, locals := 30 } : Room).slots (Q_own_rqc Z r N wd A K rows rc ls pr wt ra ea st n0 q x kn h0)) := by
    intro n
    induction n with
    | zero =>
      intro i xi T h locs hi hxi X eL NL OL KL IL
      obtain rfl : N = i := by omega
      show own_G p e below (T.setTop (mkF m 16 #[.val (.ref r), .val (.int x), .val (.int (x - (1 : Int32))), .val (.int xi), .unset, .unset] [])) _
      refine own_go (fun t k => XS.iloadN X.here hx rfl (hb hby d_prog_67_method_2_code_16) rfl k) ?_
      refine own_go (fun t k => XS.aloadN X.here hx rfl (hb hby d_prog_67_method_2_code_17) rfl rfl k) ?_
      obtain ⟨T5z, X5z, e5z, st5z⟩ := getF X hx hZ hown (host := "") (Or.inl (own_hw hw 10 rfl)) Via.refl eL IL.2.1 (g := (mkF m 18 #[.val (.ref r), .val (.int x), .val (.int (x - (1 : Int32))), .val (.int xi), .unset, .unset] [(.ref r), (.int xi)])) rfl rfl (hb hby d_prog_67_method_2_code_18)
      refine own_go st5z ?_
      refine own_go (fun t k => XS.icmpYes X5z.here hx rfl (pc0 := 21) (pc' := 69) rfl (hb hby d_prog_67_method_2_code_21) rfl (flt (fun q => absurd ((own_ltN hxi hN).mp q) (by omega))).2.1 (by decide) (by decide) k) ?_
      show own_G p e below (T5z.setTop (mkF m 69 #[.val (.ref r), .val (.int x), .val (.int (x - (1 : Int32))), .val (.int xi), .unset, .unset] [])) _
      refine own_go (fun t k => XS.aloadN X5z.here hx rfl (hb hby d_prog_67_method_2_code_69) rfl rfl k) ?_
      obtain ⟨T6z, X6z, e6z, st6z⟩ := getF X5z hx hZ hown (host := "") (Or.inl (own_hw hw 15 rfl)) Via.refl e5z IL.2.2.1 (g := (mkF m 70 #[.val (.ref r), .val (.int x), .val (.int (x - (1 : Int32))), .val (.int xi), .unset, .unset] [(.ref r)])) rfl rfl (hb hby d_prog_67_method_2_code_70)
      refine own_go st6z ?_
      refine own_go (fun t k => XS.iloadN X6z.here hx rfl (hb hby d_prog_67_method_2_code_73) rfl k) ?_
      refine own_go (own_ldA X6z hx hZ e6z IL.2.2.2.2.2.2.2.2.2.1 rfl (i := q) (v := (.ref (rows q))) (own_sub1 hq hqN hN) (own_rget (fun i => Value.ref (rows i)) hqN) (g := (mkF m 74 #[.val (.ref r), .val (.int x), .val (.int (x - (1 : Int32))), .val (.int xi), .unset, .unset] [(.int (x - (1 : Int32))), (.ref (A 0))])) rfl rfl (hb hby d_prog_67_method_2_code_74)) ?_
      show own_G p e below (T6z.setTop (mkF m 75 #[.val (.ref r), .val (.int x), .val (.int (x - (1 : Int32))), .val (.int xi), .unset, .unset] [(.ref (rows q))])) _
      refine own_go (fun t k => XS.astoreN X6z.here hx rfl (hb hby d_prog_67_method_2_code_75) rfl rfl (l' := #[.val (.ref r), .val (.int x), .val (.int (x - (1 : Int32))), .val (.ref (rows q)), .unset, .unset]) rfl k) ?_
      refine own_go (fun t k => XS.aloadN X6z.here hx rfl (hb hby d_prog_67_method_2_code_76) rfl rfl k) ?_
      refine own_go (own_len X6z hx hZ e6z (IL.2.2.2.2.2.2.2.2.2.2.2.2.2.2.2 q hqN).1 (z := (Int32.ofNat wd)) (by rw [own_rlen]; exact own_ofN (by omega)) (g := (mkF m 77 #[.val (.ref r), .val (.int x), .val (.int (x - (1 : Int32))), .val (.ref (rows q)), .unset, .unset] [(.ref (rows q))])) rfl rfl (hb hby d_prog_67_method_2_code_77)) ?_
      obtain ⟨T7z, h7z, kc7z, X7z, e7z, E7z, V7z, EX7z, st7z⟩ := own_newPE X6z hx hZ (own_hw hw 14 rfl) e6z (g := (mkF m 78 #[.val (.ref r), .val (.int x), .val (.int (x - (1 : Int32))), .val (.ref (rows q)), .unset, .unset] [(.int (Int32.ofNat wd))])) rfl (hb hby d_prog_67_method_2_code_78) rfl (i := wd) (own_ofN (by omega)) (cap := 3) hwd (by decide) (by decide) (by decide) (ad := "[J") (by decide)
      obtain ⟨b7z, g7z⟩ : ∃ z, z = h.size := ⟨_, rfl⟩
      rw [← g7z] at V7z st7z EX7z
      have fr_b7z : Z.heap.size ≤ b7z := g7z ▸ OL.1
      have lz_b7z : h0.size ≤ b7z := g7z ▸ KL.1
      have ne_kn_b7z : kn ≠ b7z := Nat.ne_of_lt (g7z ▸ (q13.keep KL kno).lt)
      have ne_r_b7z : r ≠ b7z := Nat.ne_of_lt (g7z ▸ IL.2.1.lt)
      have O8z := own_ext_trans OL E7z
      have K8z := KL.ext E7z
      have I9z := own_I.ext E7z IL
      have ob7z := own_I.out IL (Nat.le_of_eq g7z.symm)
      have V7z : own_A Z h7z b7z kc7z .long (List.replicate wd (.long (0 : Int64))) := V7z
      refine own_go st7z ?_
      show own_G p e below (T7z.setTop (mkF m 80 #[.val (.ref r), .val (.int x), .val (.int (x - (1 : Int32))), .val (.ref (rows q)), .unset, .unset] [(.ref b7z)])) _
      refine own_go (fun t k => XS.astore X7z.here hx rfl (hb hby d_prog_67_method_2_code_80) rfl rfl (l' := #[.val (.ref r), .val (.int x), .val (.int (x - (1 : Int32))), .val (.ref (rows q)), .val (.ref b7z), .unset]) rfl k) ?_
      refine own_go (fun t k => XS.iconst X7z.here hx rfl (hb hby d_prog_67_method_2_code_82) k) ?_
      refine own_go (fun t k => XS.istore X7z.here hx rfl (hb hby d_prog_67_method_2_code_83) rfl (l' := #[.val (.ref r), .val (.int x), .val (.int (x - (1 : Int32))), .val (.ref (rows q)), .val (.ref b7z), .val (.int (0 : Int32))]) rfl k) ?_
      have LB0 : own_L Z h7z b7z kc7z wd (own_pj ((own_rcI rc q N) q) wt 0) := by rw [own_pj_0]; exact own_L0 V7z
      have loop2 : ∀ (n j : Nat) (xj : Int32) (T : State) (h : Heap) (locs : List Loc), j + n = wd → xj.toInt = (j : Int) → Stand p l e ({ frames := 2, cells := 2, slots := 6, locals := 30 } : Room) s m #[(.ref r), (.int x)] below meth c T locs 1 3 → T.heap = h → Fr Z.heap.size locs → Ext Z.heap h → Keep h0 h (own_ws r N A rows) → own_I Z h r N wd A K rows (own_rcI rc q N) ls pr wt ra ea (st + (1 : Int64)) → own_L Z h b7z kc7z wd (own_pj ((own_rcI rc q N) q) wt j) → Exa Z h b7z "[J" → own_G p e below (T.setTop (mkF m 85 #[.val (.ref r), .val (.int x), .val (.int (x - (1 : Int32))), .val (.ref (rows q)), .val (.ref b7z), .val (.int xj)] [])) (own_P s below ({ frames := 2, cells := 2, slots := 6, locals := 30 } : Room).cells ({ frames := 2, cells := 2, slots := 6, locals := 30 } : Room).slots (Q_own_rqc Z r N wd A K rows rc ls pr wt ra ea st n0 q x kn h0)) := by
        intro n
        induction n with
        | zero =>
          intro j xj T h locs hi hxi X eL NL OL KL IL LB EB
          obtain rfl : wd = j := by omega
          show own_G p e below (T.setTop (mkF m 85 #[.val (.ref r), .val (.int x), .val (.int (x - (1 : Int32))), .val (.ref (rows q)), .val (.ref b7z), .val (.int xj)] [])) _
          refine own_go (fun t k => XS.iload X.here hx rfl (hb hby d_prog_67_method_2_code_85) rfl k) ?_
          refine own_go (fun t k => XS.aloadN X.here hx rfl (hb hby d_prog_67_method_2_code_87) rfl rfl k) ?_
          refine own_go (own_len X hx hZ eL (IL.2.2.2.2.2.2.2.2.2.2.2.2.2.2.2 q hqN).1 (z := (Int32.ofNat wd)) (by rw [own_rlen]; exact own_ofN (by omega)) (g := (mkF m 88 #[.val (.ref r), .val (.int x), .val (.int (x - (1 : Int32))), .val (.ref (rows q)), .val (.ref b7z), .val (.int xj)] [(.ref (rows q)), (.int xj)])) rfl rfl (hb hby d_prog_67_method_2_code_88)) ?_
          refine own_go (fun t k => XS.icmpYes X.here hx rfl (pc0 := 89) (pc' := 115) rfl (hb hby d_prog_67_method_2_code_89) rfl (flt (fun q => absurd ((own_ltN hxi (by omega)).mp q) (by omega))).2.1 (by decide) (by decide) k) ?_
          show own_G p e below (T.setTop (mkF m 115 #[.val (.ref r), .val (.int x), .val (.int (x - (1 : Int32))), .val (.ref (rows q)), .val (.ref b7z), .val (.int xj)] [])) _
          refine own_go (fun t k => XS.aloadN X.here hx rfl (hb hby d_prog_67_method_2_code_115) rfl rfl k) ?_
          obtain ⟨T10z, X10z, e10z, st10z⟩ := getF X hx hZ hown (host := "") (Or.inl (own_hw hw 22 rfl)) Via.refl eL IL.2.2.2.2.1 (g := (mkF m 116 #[.val (.ref r), .val (.int x), .val (.int (x - (1 : Int32))), .val (.ref (rows q)), .val (.ref b7z), .val (.int xj)] [(.ref r)])) rfl rfl (hb hby d_prog_67_method_2_code_116)
          refine own_go st10z ?_
          refine own_go (fun t k => XS.iloadN X10z.here hx rfl (hb hby d_prog_67_method_2_code_119) rfl k) ?_
          refine own_go (fun t k => XS.aload X10z.here hx rfl (hb hby d_prog_67_method_2_code_120) rfl rfl k) ?_
          show own_G p e below (T10z.setTop (mkF m 122 #[.val (.ref r), .val (.int x), .val (.int (x - (1 : Int32))), .val (.ref (rows q)), .val (.ref b7z), .val (.int xj)] [(.ref b7z), (.int (x - (1 : Int32))), (.ref (A 2))])) _
          obtain ⟨T11z, h11z, X11z, e11z, W11z, V11z, st11z⟩ := own_stR X10z hx hZ e10z IL.2.2.2.2.2.2.2.2.2.2.2.1 rfl (i := q) (own_sub1 hq hqN hN) (by rw [own_rlen]; exact hqN) (own_stoA OA2 (Or.inr ⟨_, rfl, (Ins.self EB)⟩)) rfl (g := (mkF m 122 #[.val (.ref r), .val (.int x), .val (.int (x - (1 : Int32))), .val (.ref (rows q)), .val (.ref b7z), .val (.int xj)] [(.ref b7z), (.int (x - (1 : Int32))), (.ref (A 2))])) rfl rfl (hb hby d_prog_67_method_2_code_122)
          refine own_go st11z ?_
          have N11z := Fr.snoc X11z NL (Nat.le_trans hn0 (DD.2.1 2 (by decide)).1)
          have O12z := own_ext_wr OL W11z (Nat.le_trans hn0 (DD.2.1 2 (by decide)).1)
          have K12z := KL.wr W11z (Or.inl (own_ws_A (by decide : 2 < 6)))
          have I13z := own_I.w2 IL DD W11z (own_V.set V11z)
          have V11z : own_A Z h11z (A 2) (K 2) (.array .long) (((List.range N).map pr).set q (.ref b7z)) := V11z
          refine own_go (fun t k => XS.aloadN X11z.here hx rfl (hb hby d_prog_67_method_2_code_123) rfl rfl k) ?_
          refine own_go (fun t k => XS.iloadN X11z.here hx rfl (hb hby d_prog_67_method_2_code_124) rfl k) ?_
          have f14z := ((q13.keep KL kno).other W11z (Or.inl (own_nA kno (by decide : 2 < 6))))
          obtain ⟨cq15z, qa15z, qb15z⟩ := I13z.1.cell
          obtain ⟨_, _, ⟨T15z, L15z, k15z, n15z⟩, -, X15z, ⟨Lc15z, hQ15z, l15z, y15z, z15z⟩, st15z⟩ := X11z.privateBack hx (y := own_m6) hown (own_mw hZ hw 47 rfl) (own_mw hZ hw 48 rfl) (own_selfPriv (mvT (args := #[]) hZ (own_hw hw 2 rfl)) (Cond.privateMethod_at (mvP hZ (own_hw hw 49 rfl) (args := #[]))) (own_mw hZ hw 48 rfl) (by decide)) (Cond.privateMethod_at (mvP hZ (own_hw hw 49 rfl) (args := #[]))) (own_mw hZ hw 50 rfl) (by decide) (backOf (W := 0) (own_wrc l Z a0 hw [] r N wd A K rows (own_rcI rc q N) ls (own_upd pr q (.ref b7z)) wt ra ea (st + (1 : Int64)) n0 q (x - (1 : Int32)) kn h11z O12z I13z DD hn0 hN hwd hNw OA0 OA1 OA2 (own_sub1 hq hqN hN) hqN hls f14z) hZ (own_hw hw 50 rfl) (own_hw hw 3 rfl) (by decide) (by decide)) (g := (mkF m 125 #[.val (.ref r), .val (.int x), .val (.int (x - (1 : Int32))), .val (.ref (rows q)), .val (.ref b7z), .val (.int xj)] [(.int (x - (1 : Int32))), (.ref r)])) rfl (by rw [hml]; rfl) (Steps.refl _) (a := r) (by rw [e11z]; exact qa15z) qb15z (argsL := [(.int (x - (1 : Int32)))]) (rest := []) (lenOf pd_184260196 rfl) rfl (by show 2 * 0 + _ ≤ _; exact Nat.le_of_eq rfl) (hb hby d_prog_67_method_2_code_125) (fun _ _ => ⟨rfl, e11z, (by decide : 1 + 1 ≤ _), (by decide : 3 + 3 ≤ _)⟩)
          dsimp only [Pt.U, Pt.locs, Pt.cells, Pt.slots] at X15z l15z y15z z15z st15z hQ15z
          subst l15z y15z z15z
          obtain ⟨nr_15z, rfl, NQ15z, K15zq, r15z_0, r15z_1, r15z_2⟩ := hQ15z
          refine own_tr st15z ?_
          have N15z := Fr.app N11z NQ15z
          have O16z := own_ext_keep O12z K15zq (allS (Nat.le_trans hn0 (DD.2.1 0 (by decide)).1) all0)
          have K16z := K12z.trans K15zq (allS (Or.inl (own_ws_A (by decide : 0 < 6))) all0)
          have lz_nr_15z : h0.size ≤ nr_15z := Nat.le_trans K12z.1 r15z_1
          have ne_kn_nr_15z : kn ≠ nr_15z := Nat.ne_of_lt (Nat.lt_of_lt_of_le f14z.lt r15z_1)
          have ne_r_nr_15z : r ≠ nr_15z := Nat.ne_of_lt (Nat.lt_of_lt_of_le I13z.2.1.lt r15z_1)
          have ne_b7z_nr_15z : b7z ≠ nr_15z := Nat.ne_of_lt (Nat.lt_of_lt_of_le (LB.other W11z (own_nA ob7z (by decide : 2 < 6))).lt r15z_1)
          show own_G p e below (T15z.setTop (mkF m 128 #[.val (.ref r), .val (.int x), .val (.int (x - (1 : Int32))), .val (.ref (rows q)), .val (.ref b7z), .val (.int xj)] [(.ref nr_15z)])) _
          have n0r : n0 ≤ nr_15z := Nat.le_trans DD.1 (Nat.le_trans (Nat.le_of_lt (II.1.lt)) lz_nr_15z)
          have D2 := own_D.upd (q := q) DD n0r r15z_2
          have neRow : rows q ≠ nr_15z := Ne.symm (own_nrow r15z_2 hqN)
          obtain ⟨VR18z, ER18z⟩ := r15z_0.2.2.2.2.2.2.2.2.2.2.2.2.2.2.2 q hqN
          rw [own_upd_hit] at VR18z ER18z
          refine own_go (fun t k => XS.iloadN X15z.here hx rfl (hb hby d_prog_67_method_2_code_128) rfl k) ?_
          obtain ⟨_, _, ⟨T19z, L19z, k19z, n19z⟩, -, X19z, ⟨Lc19z, hQ19z, l19z, y19z, z19z⟩, st19z⟩ := Jvm.LawKit.callS X15z hx (y := own_m0) hown (own_mw hZ hw 40 rfl) (own_mw hZ hw 41 rfl) (own_mw hZ hw 3 rfl) (own_mw hZ hw 42 rfl) (by decide) (backOf (W := 1) (own_word l Z a0 hw [] (x - (1 : Int32)) T15z.heap O16z) hZ (own_hw hw 42 rfl) (own_hw hw 3 rfl) (by decide) (by decide)) (g := (mkF m 129 #[.val (.ref r), .val (.int x), .val (.int (x - (1 : Int32))), .val (.ref (rows q)), .val (.ref b7z), .val (.int xj)] [(.int (x - (1 : Int32))), (.ref nr_15z)])) rfl (by rw [hml]; rfl) (argsL := [(.int (x - (1 : Int32)))]) (rest := [(.ref nr_15z)]) (lenOf pd_2087992008 rfl) rfl (by show 2 * 0 + _ ≤ _; exact Nat.le_of_eq rfl) (hb hby d_prog_67_method_2_code_129) (fun _ _ => ⟨rfl, rfl, (by decide : 2 + 0 ≤ _), (by decide : 6 + 0 ≤ _)⟩)
          dsimp only [Pt.U, Pt.locs, Pt.cells, Pt.slots] at X19z l19z y19z z19z st19z hQ19z
          subst l19z y19z z19z
          obtain ⟨rfl, NQ19z, K19zq⟩ := hQ19z
          refine own_go st19z ?_
          have N19z := Fr.app N15z NQ19z
          show own_G p e below (T19z.setTop (mkF m 132 #[.val (.ref r), .val (.int x), .val (.int (x - (1 : Int32))), .val (.ref (rows q)), .val (.ref b7z), .val (.int xj)] [(.int ((x - (1 : Int32)) / (64 : Int32))), (.ref nr_15z)])) _
          refine own_go (fun t k => own_dup2 X19z.here hx rfl (hb hby d_prog_67_method_2_code_132) rfl rfl rfl k) ?_
          refine own_go (own_ldJ X19z hx hZ K19zq VR18z (i := (q / 64)) (v := (.long (((own_rcI rc q N) q) (q / 64)))) (own_w64 (own_sub1 hq hqN hN)) (own_rget _ (hNw q hqN)) (g := (mkF m 133 #[.val (.ref r), .val (.int x), .val (.int (x - (1 : Int32))), .val (.ref (rows q)), .val (.ref b7z), .val (.int xj)] [(.int ((x - (1 : Int32)) / (64 : Int32))), (.ref nr_15z), (.int ((x - (1 : Int32)) / (64 : Int32))), (.ref nr_15z)])) rfl rfl (hb hby d_prog_67_method_2_code_133)) ?_
          refine own_go (fun t k => XS.iloadN X19z.here hx rfl (hb hby d_prog_67_method_2_code_134) rfl k) ?_
          obtain ⟨_, _, ⟨T20z, L20z, k20z, n20z⟩, -, X20z, ⟨Lc20z, hQ20z, l20z, y20z, z20z⟩, st20z⟩ := Jvm.LawKit.callS X19z hx (y := own_m1) hown (own_mw hZ hw 43 rfl) (own_mw hZ hw 44 rfl) (own_mw hZ hw 3 rfl) (own_mw hZ hw 45 rfl) (by decide) (backOf (W := 4) (own_bitM l Z a0 hw [] (x - (1 : Int32)) q T15z.heap O16z (own_sub1 hq hqN hN)) hZ (own_hw hw 45 rfl) (own_hw hw 3 rfl) (by decide) (by decide)) (g := (mkF m 135 #[.val (.ref r), .val (.int x), .val (.int (x - (1 : Int32))), .val (.ref (rows q)), .val (.ref b7z), .val (.int xj)] [(.int (x - (1 : Int32))), (.long (((own_rcI rc q N) q) (q / 64))), (.int ((x - (1 : Int32)) / (64 : Int32))), (.ref nr_15z)])) rfl (by rw [hml]; rfl) (argsL := [(.int (x - (1 : Int32)))]) (rest := [(.long (((own_rcI rc q N) q) (q / 64))), (.int ((x - (1 : Int32)) / (64 : Int32))), (.ref nr_15z)]) (lenOf pd_2087992009 rfl) rfl (by show 2 * 0 + _ ≤ _; exact Nat.le_of_eq rfl) (hb hby d_prog_67_method_2_code_135) (fun _ _ => ⟨rfl, K19zq, (by decide : 2 + 0 ≤ _), (by decide : 6 + 0 ≤ _)⟩)
          dsimp only [Pt.U, Pt.locs, Pt.cells, Pt.slots] at X20z l20z y20z z20z st20z hQ20z
          subst l20z y20z z20z
          obtain ⟨rfl, NQ20z, K20zq⟩ := hQ20z
          refine own_go st20z ?_
          have N20z := Fr.app N19z NQ20z
          show own_G p e below (T20z.setTop (mkF m 138 #[.val (.ref r), .val (.int x), .val (.int (x - (1 : Int32))), .val (.ref (rows q)), .val (.ref b7z), .val (.int xj)] [(.long (own_B q)), (.long (((own_rcI rc q N) q) (q / 64))), (.int ((x - (1 : Int32)) / (64 : Int32))), (.ref nr_15z)])) _
          refine own_go (fun t k => XS.lor X20z.here hx rfl (hb hby d_prog_67_method_2_code_138) rfl k) ?_
          obtain ⟨T21z, h21z, X21z, e21z, W21z, V21z, st21z⟩ := own_stJ X20z hx hZ K20zq VR18z (i := (q / 64)) (own_w64 (own_sub1 hq hqN hN)) (by rw [own_rlen]; exact hNw q hqN) (g := (mkF m 139 #[.val (.ref r), .val (.int x), .val (.int (x - (1 : Int32))), .val (.ref (rows q)), .val (.ref b7z), .val (.int xj)] [(.long ((((own_rcI rc q N) q) (q / 64)) ||| (own_B q))), (.int ((x - (1 : Int32)) / (64 : Int32))), (.ref nr_15z)])) rfl rfl (hb hby d_prog_67_method_2_code_139)
          refine own_go st21z ?_
          have N21z := Fr.snoc X21z N20z (Nat.le_trans hn0 n0r)
          have O22z := own_ext_wr O16z W21z (Nat.le_trans hn0 n0r)
          have K22z := K16z.wr W21z (Or.inr lz_nr_15z)
          have I23z := own_I.wrC hqN r15z_0 D2 W21z (own_L.set V21z)
          obtain ⟨VR24z, ER24z⟩ := I23z.2.2.2.2.2.2.2.2.2.2.2.2.2.2.2 q hqN
          rw [own_upd_hit] at VR24z ER24z
          have V21z : own_A Z h21z nr_15z (K 6) .long (((List.range wd).map fun i_z => Value.long (((own_rcI rc q N) q) i_z)).set (q / 64) (.long ((((own_rcI rc q N) q) (q / 64)) ||| (own_B q)))) := V21z
          obtain ⟨VR25z, ER25z⟩ := I23z.2.2.2.2.2.2.2.2.2.2.2.2.2.2.2 q hqN
          rw [own_upd_hit] at VR25z ER25z
          refine own_go (fun t k => XS.aloadN X21z.here hx rfl (hb hby d_prog_67_method_2_code_140) rfl rfl k) ?_
          obtain ⟨T26z, X26z, e26z, st26z⟩ := getF X21z hx hZ hown (host := "") (Or.inl (own_hw hw 24 rfl)) Via.refl e21z I23z.2.2.2.2.2.1 (g := (mkF m 141 #[.val (.ref r), .val (.int x), .val (.int (x - (1 : Int32))), .val (.ref (rows q)), .val (.ref b7z), .val (.int xj)] [(.ref r)])) rfl rfl (hb hby d_prog_67_method_2_code_141)
          refine own_go st26z ?_
          show own_G p e below (T26z.setTop (mkF m 144 #[.val (.ref r), .val (.int x), .val (.int (x - (1 : Int32))), .val (.ref (rows q)), .val (.ref b7z), .val (.int xj)] [(.ref (A 3))])) _
          refine own_go (fun t k => XS.iloadN X26z.here hx rfl (hb hby d_prog_67_method_2_code_144) rfl k) ?_
          obtain ⟨_, _, ⟨T27z, L27z, k27z, n27z⟩, -, X27z, ⟨Lc27z, hQ27z, l27z, y27z, z27z⟩, st27z⟩ := Jvm.LawKit.callS X26z hx (y := own_m0) hown (own_mw hZ hw 40 rfl) (own_mw hZ hw 41 rfl) (own_mw hZ hw 3 rfl) (own_mw hZ hw 42 rfl) (by decide) (backOf (W := 1) (own_word l Z a0 hw [] (x - (1 : Int32)) h21z O22z) hZ (own_hw hw 42 rfl) (own_hw hw 3 rfl) (by decide) (by decide)) (g := (mkF m 145 #[.val (.ref r), .val (.int x), .val (.int (x - (1 : Int32))), .val (.ref (rows q)), .val (.ref b7z), .val (.int xj)] [(.int (x - (1 : Int32))), (.ref (A 3))])) rfl (by rw [hml]; rfl) (argsL := [(.int (x - (1 : Int32)))]) (rest := [(.ref (A 3))]) (lenOf pd_2087992008 rfl) rfl (by show 2 * 0 + _ ≤ _; exact Nat.le_of_eq rfl) (hb hby d_prog_67_method_2_code_145) (fun _ _ => ⟨rfl, e26z, (by decide : 2 + 0 ≤ _), (by decide : 6 + 0 ≤ _)⟩)
          dsimp only [Pt.U, Pt.locs, Pt.cells, Pt.slots] at X27z l27z y27z z27z st27z hQ27z
          subst l27z y27z z27z
          obtain ⟨rfl, NQ27z, K27zq⟩ := hQ27z
          refine own_go st27z ?_
          have N27z := Fr.app N21z NQ27z
          show own_G p e below (T27z.setTop (mkF m 148 #[.val (.ref r), .val (.int x), .val (.int (x - (1 : Int32))), .val (.ref (rows q)), .val (.ref b7z), .val (.int xj)] [(.int ((x - (1 : Int32)) / (64 : Int32))), (.ref (A 3))])) _
          refine own_go (fun t k => own_dup2 X27z.here hx rfl (hb hby d_prog_67_method_2_code_148) rfl rfl rfl k) ?_
          refine own_go (own_ldJ X27z hx hZ K27zq I23z.2.2.2.2.2.2.2.2.2.2.2.2.1 (i := (q / 64)) (v := (.long (wt (q / 64)))) (own_w64 (own_sub1 hq hqN hN)) (own_rget _ (hNw q hqN)) (g := (mkF m 149 #[.val (.ref r), .val (.int x), .val (.int (x - (1 : Int32))), .val (.ref (rows q)), .val (.ref b7z), .val (.int xj)] [(.int ((x - (1 : Int32)) / (64 : Int32))), (.ref (A 3)), (.int ((x - (1 : Int32)) / (64 : Int32))), (.ref (A 3))])) rfl rfl (hb hby d_prog_67_method_2_code_149)) ?_
          refine own_go (fun t k => XS.iloadN X27z.here hx rfl (hb hby d_prog_67_method_2_code_150) rfl k) ?_
          obtain ⟨_, _, ⟨T28z, L28z, k28z, n28z⟩, -, X28z, ⟨Lc28z, hQ28z, l28z, y28z, z28z⟩, st28z⟩ := Jvm.LawKit.callS X27z hx (y := own_m1) hown (own_mw hZ hw 43 rfl) (own_mw hZ hw 44 rfl) (own_mw hZ hw 3 rfl) (own_mw hZ hw 45 rfl) (by decide) (backOf (W := 4) (own_bitM l Z a0 hw [] (x - (1 : Int32)) q h21z O22z (own_sub1 hq hqN hN)) hZ (own_hw hw 45 rfl) (own_hw hw 3 rfl) (by decide) (by decide)) (g := (mkF m 151 #[.val (.ref r), .val (.int x), .val (.int (x - (1 : Int32))), .val (.ref (rows q)), .val (.ref b7z), .val (.int xj)] [(.int (x - (1 : Int32))), (.long (wt (q / 64))), (.int ((x - (1 : Int32)) / (64 : Int32))), (.ref (A 3))])) rfl (by rw [hml]; rfl) (argsL := [(.int (x - (1 : Int32)))]) (rest := [(.long (wt (q / 64))), (.int ((x - (1 : Int32)) / (64 : Int32))), (.ref (A 3))]) (lenOf pd_2087992009 rfl) rfl (by show 2 * 0 + _ ≤ _; exact Nat.le_of_eq rfl) (hb hby d_prog_67_method_2_code_151) (fun _ _ => ⟨rfl, K27zq, (by decide : 2 + 0 ≤ _), (by decide : 6 + 0 ≤ _)⟩)
          dsimp only [Pt.U, Pt.locs, Pt.cells, Pt.slots] at X28z l28z y28z z28z st28z hQ28z
          subst l28z y28z z28z
          obtain ⟨rfl, NQ28z, K28zq⟩ := hQ28z
          refine own_go st28z ?_
          have N28z := Fr.app N27z NQ28z
          show own_G p e below (T28z.setTop (mkF m 154 #[.val (.ref r), .val (.int x), .val (.int (x - (1 : Int32))), .val (.ref (rows q)), .val (.ref b7z), .val (.int xj)] [(.long (own_B q)), (.long (wt (q / 64))), (.int ((x - (1 : Int32)) / (64 : Int32))), (.ref (A 3))])) _
          refine own_go (fun t k => XS.lor X28z.here hx rfl (hb hby d_prog_67_method_2_code_154) rfl k) ?_
          obtain ⟨T29z, h29z, X29z, e29z, W29z, V29z, st29z⟩ := own_stJ X28z hx hZ K28zq I23z.2.2.2.2.2.2.2.2.2.2.2.2.1 (i := (q / 64)) (own_w64 (own_sub1 hq hqN hN)) (by rw [own_rlen]; exact hNw q hqN) (g := (mkF m 155 #[.val (.ref r), .val (.int x), .val (.int (x - (1 : Int32))), .val (.ref (rows q)), .val (.ref b7z), .val (.int xj)] [(.long ((wt (q / 64)) ||| (own_B q))), (.int ((x - (1 : Int32)) / (64 : Int32))), (.ref (A 3))])) rfl rfl (hb hby d_prog_67_method_2_code_155)
          refine own_go st29z ?_
          have N29z := Fr.snoc X29z N28z (Nat.le_trans hn0 (DD.2.1 3 (by decide)).1)
          have O30z := own_ext_wr O22z W29z (Nat.le_trans hn0 (DD.2.1 3 (by decide)).1)
          have K30z := K22z.wr W29z (Or.inl (own_ws_A (by decide : 3 < 6)))
          have I31z := own_I.w3 I23z D2 W29z (own_L.set V29z)
          obtain ⟨VR32z, ER32z⟩ := I31z.2.2.2.2.2.2.2.2.2.2.2.2.2.2.2 q hqN
          rw [own_upd_hit] at VR32z ER32z
          have V29z : own_A Z h29z (A 3) (K 3) .long (((List.range wd).map fun i_z => Value.long (wt i_z)).set (q / 64) (.long ((wt (q / 64)) ||| (own_B q)))) := V29z
          obtain ⟨VR33z, ER33z⟩ := I31z.2.2.2.2.2.2.2.2.2.2.2.2.2.2.2 q hqN
          rw [own_upd_hit] at VR33z ER33z
          refine own_go (fun t k => XS.aloadN X29z.here hx rfl (hb hby d_prog_67_method_2_code_156) rfl rfl k) ?_
          obtain ⟨T34z, X34z, e34z, st34z⟩ := getF X29z hx hZ hown (host := "") (Or.inl (own_hw hw 26 rfl)) Via.refl e29z I31z.2.2.2.2.2.2.1 (g := (mkF m 157 #[.val (.ref r), .val (.int x), .val (.int (x - (1 : Int32))), .val (.ref (rows q)), .val (.ref b7z), .val (.int xj)] [(.ref r)])) rfl rfl (hb hby d_prog_67_method_2_code_157)
          refine own_go st34z ?_
          show own_G p e below (T34z.setTop (mkF m 160 #[.val (.ref r), .val (.int x), .val (.int (x - (1 : Int32))), .val (.ref (rows q)), .val (.ref b7z), .val (.int xj)] [(.ref (A 4))])) _
          refine own_go (fun t k => XS.iloadN X34z.here hx rfl (hb hby d_prog_67_method_2_code_160) rfl k) ?_
          refine own_go (fun t k => XS.aloadN X34z.here hx rfl (hb hby d_prog_67_method_2_code_161) rfl rfl k) ?_
          obtain ⟨T35z, X35z, e35z, st35z⟩ := getF X34z hx hZ hown (host := "") (Or.inl (own_hw hw 35 rfl)) Via.refl e34z I31z.2.2.2.2.2.2.2.2.1 (g := (mkF m 162 #[.val (.ref r), .val (.int x), .val (.int (x - (1 : Int32))), .val (.ref (rows q)), .val (.ref b7z), .val (.int xj)] [(.ref r), (.int (x - (1 : Int32))), (.ref (A 4))])) rfl rfl (hb hby d_prog_67_method_2_code_162)
          refine own_go st35z ?_
          obtain ⟨T36z, h36z, X36z, e36z, W36z, V36z, st36z⟩ := own_stJ X35z hx hZ e35z I31z.2.2.2.2.2.2.2.2.2.2.2.2.2.1 (i := q) (own_sub1 hq hqN hN) (by rw [own_rlen]; exact hqN) (g := (mkF m 165 #[.val (.ref r), .val (.int x), .val (.int (x - (1 : Int32))), .val (.ref (rows q)), .val (.ref b7z), .val (.int xj)] [(.long (st + (1 : Int64))), (.int (x - (1 : Int32))), (.ref (A 4))])) rfl rfl (hb hby d_prog_67_method_2_code_165)
          refine own_go st36z ?_
          have N36z := Fr.snoc X36z N29z (Nat.le_trans hn0 (DD.2.1 4 (by decide)).1)
          have O37z := own_ext_wr O30z W36z (Nat.le_trans hn0 (DD.2.1 4 (by decide)).1)
          have K37z := K30z.wr W36z (Or.inl (own_ws_A (by decide : 4 < 6)))
          have I38z := own_I.w4 I31z D2 W36z (own_L.set V36z)
          obtain ⟨VR39z, ER39z⟩ := I38z.2.2.2.2.2.2.2.2.2.2.2.2.2.2.2 q hqN
          rw [own_upd_hit] at VR39z ER39z
          have V36z : own_A Z h36z (A 4) (K 4) .long (((List.range N).map fun i_z => Value.long (ra i_z)).set q (.long (st + (1 : Int64)))) := V36z
          obtain ⟨VR40z, ER40z⟩ := I38z.2.2.2.2.2.2.2.2.2.2.2.2.2.2.2 q hqN
          rw [own_upd_hit] at VR40z ER40z
          show own_G p e below (T36z.setTop (mkF m 166 #[.val (.ref r), .val (.int x), .val (.int (x - (1 : Int32))), .val (.ref (rows q)), .val (.ref b7z), .val (.int xj)] [])) _
          have f41z := (((((LB.other W11z (own_nA ob7z (by decide : 2 < 6))).keep K15zq (by simp only [List.mem_cons, List.not_mem_nil, or_false, not_or]; exact (own_nA ob7z (by decide : 0 < 6)))).other W21z ne_b7z_nr_15z).other W29z (own_nA ob7z (by decide : 3 < 6))).other W36z (own_nA ob7z (by decide : 4 < 6)))
          have f42z := (((((I13z.2.2.2.2.2.2.2.2.2.2.2.2.2.2.2 q hqN).1.keep K15zq (by simp only [List.mem_cons, List.not_mem_nil, or_false, not_or]; exact ((DD.2.2.2.1 q hqN).2.2 0 (by decide)))).other W21z neRow).other W29z ((DD.2.2.2.1 q hqN).2.2 3 (by decide))).other W36z ((DD.2.2.2.1 q hqN).2.2 4 (by decide)))
          exact own_retV X36z hx Bd.returns (hb hby d_prog_67_method_2_code_166) hlk (Nat.le_of_ble_eq_true rfl) (Nat.le_of_ble_eq_true rfl) (by show Q_own_rqc Z r N wd A K rows rc ls pr wt ra ea st n0 q x kn h0 _ T36z.heap _; rw [e36z]; exact ⟨b7z, kc7z, nr_15z, rfl, N36z, K37z, (by have t := I38z; rw [own_rcI_q, own_or_eq, own_or_eq] at t; exact t), lz_b7z, (own_ws_upd ob7z ne_b7z_nr_15z), (own_L.eqf (by have t : own_L Z h36z b7z kc7z wd (own_pj ((own_rcI rc q N) q) wt wd) := f41z; rw [own_rcI_q] at t; exact t) (fun j hj => if_pos hj)), lz_nr_15z, r15z_2, D2, (by have t : own_L Z h36z (rows q) (K 6) wd ((own_rcI rc q N) q) := f42z; rw [own_rcI_q] at t; exact t)⟩)
        | succ n ih =>
          intro j xj T h locs hi hxi X eL NL OL KL IL LB EB
          have hjw : j < wd := by omega
          show own_G p e below (T.setTop (mkF m 85 #[.val (.ref r), .val (.int x), .val (.int (x - (1 : Int32))), .val (.ref (rows q)), .val (.ref b7z), .val (.int xj)] [])) _
          refine own_go (fun t k => XS.iload X.here hx rfl (hb hby d_prog_67_method_2_code_85) rfl k) ?_
          refine own_go (fun t k => XS.aloadN X.here hx rfl (hb hby d_prog_67_method_2_code_87) rfl rfl k) ?_
          refine own_go (own_len X hx hZ eL (IL.2.2.2.2.2.2.2.2.2.2.2.2.2.2.2 q hqN).1 (z := (Int32.ofNat wd)) (by rw [own_rlen]; exact own_ofN (by omega)) (g := (mkF m 88 #[.val (.ref r), .val (.int x), .val (.int (x - (1 : Int32))), .val (.ref (rows q)), .val (.ref b7z), .val (.int xj)] [(.ref (rows q)), (.int xj)])) rfl rfl (hb hby d_prog_67_method_2_code_88)) ?_
          refine own_go (fun t k => XS.icmpNo X.here hx rfl (hb hby d_prog_67_method_2_code_89) rfl (tlt ((own_ltN hxi (by omega)).mpr hjw)).2.1 k) ?_
          show own_G p e below (T.setTop (mkF m 92 #[.val (.ref r), .val (.int x), .val (.int (x - (1 : Int32))), .val (.ref (rows q)), .val (.ref b7z), .val (.int xj)] [])) _
          refine own_go (fun t k => XS.aload X.here hx rfl (hb hby d_prog_67_method_2_code_92) rfl rfl k) ?_
          refine own_go (fun t k => XS.iload X.here hx rfl (hb hby d_prog_67_method_2_code_94) rfl k) ?_
          refine own_go (fun t k => XS.aloadN X.here hx rfl (hb hby d_prog_67_method_2_code_96) rfl rfl k) ?_
          refine own_go (fun t k => XS.iload X.here hx rfl (hb hby d_prog_67_method_2_code_97) rfl k) ?_
          show own_G p e below (T.setTop (mkF m 99 #[.val (.ref r), .val (.int x), .val (.int (x - (1 : Int32))), .val (.ref (rows q)), .val (.ref b7z), .val (.int xj)] [(.int xj), (.ref (rows q)), (.int xj), (.ref b7z)])) _
          refine own_go (own_ldJ X hx hZ eL (IL.2.2.2.2.2.2.2.2.2.2.2.2.2.2.2 q hqN).1 (i := j) (v := (.long (((own_rcI rc q N) q) j))) hxi (own_rget _ hjw) (g := (mkF m 99 #[.val (.ref r), .val (.int x), .val (.int (x - (1 : Int32))), .val (.ref (rows q)), .val (.ref b7z), .val (.int xj)] [(.int xj), (.ref (rows q)), (.int xj), (.ref b7z)])) rfl rfl (hb hby d_prog_67_method_2_code_99)) ?_
          refine own_go (fun t k => XS.aloadN X.here hx rfl (hb hby d_prog_67_method_2_code_100) rfl rfl k) ?_
          obtain ⟨T43z, X43z, e43z, st43z⟩ := getF X hx hZ hown (host := "") (Or.inl (own_hw hw 24 rfl)) Via.refl eL IL.2.2.2.2.2.1 (g := (mkF m 101 #[.val (.ref r), .val (.int x), .val (.int (x - (1 : Int32))), .val (.ref (rows q)), .val (.ref b7z), .val (.int xj)] [(.ref r), (.long (((own_rcI rc q N) q) j)), (.int xj), (.ref b7z)])) rfl rfl (hb hby d_prog_67_method_2_code_101)
          refine own_go st43z ?_
          refine own_go (fun t k => XS.iload X43z.here hx rfl (hb hby d_prog_67_method_2_code_104) rfl k) ?_
          show own_G p e below (T43z.setTop (mkF m 106 #[.val (.ref r), .val (.int x), .val (.int (x - (1 : Int32))), .val (.ref (rows q)), .val (.ref b7z), .val (.int xj)] [(.int xj), (.ref (A 3)), (.long (((own_rcI rc q N) q) j)), (.int xj), (.ref b7z)])) _
          refine own_go (own_ldJ X43z hx hZ e43z IL.2.2.2.2.2.2.2.2.2.2.2.2.1 (i := j) (v := (.long (wt j))) hxi (own_rget _ hjw) (g := (mkF m 106 #[.val (.ref r), .val (.int x), .val (.int (x - (1 : Int32))), .val (.ref (rows q)), .val (.ref b7z), .val (.int xj)] [(.int xj), (.ref (A 3)), (.long (((own_rcI rc q N) q) j)), (.int xj), (.ref b7z)])) rfl rfl (hb hby d_prog_67_method_2_code_106)) ?_
          refine own_go (fun t k => XS.land X43z.here hx rfl (hb hby d_prog_67_method_2_code_107) rfl k) ?_
          obtain ⟨T44z, h44z, X44z, e44z, W44z, V44z, st44z⟩ := own_stJ X43z hx hZ e43z LB (i := j) hxi (by rw [own_rlen]; exact hjw) (g := (mkF m 108 #[.val (.ref r), .val (.int x), .val (.int (x - (1 : Int32))), .val (.ref (rows q)), .val (.ref b7z), .val (.int xj)] [(.long ((((own_rcI rc q N) q) j) &&& (wt j))), (.int xj), (.ref b7z)])) rfl rfl (hb hby d_prog_67_method_2_code_108)
          refine own_go st44z ?_
          have N44z := Fr.snoc X44z NL fr_b7z
          have O45z := own_ext_wr OL W44z fr_b7z
          have K45z := KL.wr W44z (Or.inr lz_b7z)
          have I46z := own_I.wo IL W44z ob7z
          have V44z : own_A Z h44z b7z kc7z .long (((List.range wd).map fun i_z => Value.long ((own_pj ((own_rcI rc q N) q) wt j) i_z)).set j (.long ((((own_rcI rc q N) q) j) &&& (wt j)))) := V44z
          refine own_go (fun t k => XS.iinc X44z.here hx rfl (hb hby d_prog_67_method_2_code_109) rfl (l' := #[.val (.ref r), .val (.int x), .val (.int (x - (1 : Int32))), .val (.ref (rows q)), .val (.ref b7z), .val (.int (xj + (1 : Int32)))]) rfl k) ?_
          show own_G p e below (T44z.setTop (mkF m 112 #[.val (.ref r), .val (.int x), .val (.int (x - (1 : Int32))), .val (.ref (rows q)), .val (.ref b7z), .val (.int (xj + (1 : Int32)))] [])) _
          refine own_go (fun t k => XS.goto X44z.here hx rfl (pc0 := 112) (pc' := 85) rfl (hb hby d_prog_67_method_2_code_112) (by decide) (by decide) k) ?_
          show own_G p e below (T44z.setTop (mkF m 85 #[.val (.ref r), .val (.int x), .val (.int (x - (1 : Int32))), .val (.ref (rows q)), .val (.ref b7z), .val (.int (xj + (1 : Int32)))] [])) _
          exact ih (j + 1) _ _ _ _ (by omega) (own_inc hxi (by omega) (by omega : wd ≤ 129)) X44z e44z N44z O45z K45z I46z (own_pj_s ((own_rcI rc q N) q) wt j ▸ own_L.set V44z) (EB.wr W44z)
      exact loop2 wd 0 _ _ _ _ (by omega) (by decide) X7z e7z NL O8z K8z I9z LB0 EX7z
    | succ n ih =>
      intro i xi T h locs hi hxi X eL NL OL KL IL
      have hiN : i < N := by omega
      show own_G p e below (T.setTop (mkF m 16 #[.val (.ref r), .val (.int x), .val (.int (x - (1 : Int32))), .val (.int xi), .unset, .unset] [])) _
      refine own_go (fun t k => XS.iloadN X.here hx rfl (hb hby d_prog_67_method_2_code_16) rfl k) ?_
      refine own_go (fun t k => XS.aloadN X.here hx rfl (hb hby d_prog_67_method_2_code_17) rfl rfl k) ?_
      obtain ⟨T47z, X47z, e47z, st47z⟩ := getF X hx hZ hown (host := "") (Or.inl (own_hw hw 10 rfl)) Via.refl eL IL.2.1 (g := (mkF m 18 #[.val (.ref r), .val (.int x), .val (.int (x - (1 : Int32))), .val (.int xi), .unset, .unset] [(.ref r), (.int xi)])) rfl rfl (hb hby d_prog_67_method_2_code_18)
      refine own_go st47z ?_
      refine own_go (fun t k => XS.icmpNo X47z.here hx rfl (hb hby d_prog_67_method_2_code_21) rfl (tlt ((own_ltN hxi hN).mpr hiN)).2.1 k) ?_
      show own_G p e below (T47z.setTop (mkF m 24 #[.val (.ref r), .val (.int x), .val (.int (x - (1 : Int32))), .val (.int xi), .unset, .unset] [])) _
      refine own_go (fun t k => XS.iloadN X47z.here hx rfl (hb hby d_prog_67_method_2_code_24) rfl k) ?_
      refine own_go (fun t k => XS.iloadN X47z.here hx rfl (hb hby d_prog_67_method_2_code_25) rfl k) ?_
      by_cases hc48z : xi = (x - (1 : Int32))
      · refine own_go (fun t k => XS.icmpYes X47z.here hx rfl (pc0 := 26) (pc' := 63) rfl (hb hby d_prog_67_method_2_code_26) rfl (teq hc48z).1 (by decide) (by decide) k) ?_
        show own_G p e below (T47z.setTop (mkF m 63 #[.val (.ref r), .val (.int x), .val (.int (x - (1 : Int32))), .val (.int xi), .unset, .unset] [])) _
        refine own_go (fun t k => XS.iinc X47z.here hx rfl (hb hby d_prog_67_method_2_code_63) rfl (l' := #[.val (.ref r), .val (.int x), .val (.int (x - (1 : Int32))), .val (.int (xi + (1 : Int32))), .unset, .unset]) rfl k) ?_
        refine own_go (fun t k => XS.goto X47z.here hx rfl (pc0 := 66) (pc' := 16) rfl (hb hby d_prog_67_method_2_code_66) (by decide) (by decide) k) ?_
        show own_G p e below (T47z.setTop (mkF m 16 #[.val (.ref r), .val (.int x), .val (.int (x - (1 : Int32))), .val (.int (xi + (1 : Int32))), .unset, .unset] [])) _
        exact ih (i + 1) _ _ _ _ (by omega) (own_inc hxi (by omega) hN) X47z e47z NL OL KL (own_rcI_skip ((own_eqN hxi (own_sub1 hq hqN hN)).mp hc48z) ▸ IL)
      · refine own_go (fun t k => XS.icmpNo X47z.here hx rfl (hb hby d_prog_67_method_2_code_26) rfl (feq hc48z).1 k) ?_
        show own_G p e below (T47z.setTop (mkF m 29 #[.val (.ref r), .val (.int x), .val (.int (x - (1 : Int32))), .val (.int xi), .unset, .unset] [])) _
        refine own_go (fun t k => XS.aloadN X47z.here hx rfl (hb hby d_prog_67_method_2_code_29) rfl rfl k) ?_
        obtain ⟨T49z, X49z, e49z, st49z⟩ := getF X47z hx hZ hown (host := "") (Or.inl (own_hw hw 15 rfl)) Via.refl e47z IL.2.2.1 (g := (mkF m 30 #[.val (.ref r), .val (.int x), .val (.int (x - (1 : Int32))), .val (.int xi), .unset, .unset] [(.ref r)])) rfl rfl (hb hby d_prog_67_method_2_code_30)
        refine own_go st49z ?_
        refine own_go (fun t k => XS.iloadN X49z.here hx rfl (hb hby d_prog_67_method_2_code_33) rfl k) ?_
        refine own_go (own_ldA X49z hx hZ e49z IL.2.2.2.2.2.2.2.2.2.1 rfl (i := i) (v := (.ref (rows i))) hxi (own_rget (fun i => Value.ref (rows i)) hiN) (g := (mkF m 34 #[.val (.ref r), .val (.int x), .val (.int (x - (1 : Int32))), .val (.int xi), .unset, .unset] [(.int xi), (.ref (A 0))])) rfl rfl (hb hby d_prog_67_method_2_code_34)) ?_
        show own_G p e below (T49z.setTop (mkF m 35 #[.val (.ref r), .val (.int x), .val (.int (x - (1 : Int32))), .val (.int xi), .unset, .unset] [(.ref (rows i))])) _
        refine own_go (fun t k => XS.iloadN X49z.here hx rfl (hb hby d_prog_67_method_2_code_35) rfl k) ?_
        obtain ⟨_, _, ⟨T50z, L50z, k50z, n50z⟩, -, X50z, ⟨Lc50z, hQ50z, l50z, y50z, z50z⟩, st50z⟩ := Jvm.LawKit.callS X49z hx (y := own_m2) hown (own_mw hZ hw 37 rfl) (own_mw hZ hw 38 rfl) (own_mw hZ hw 3 rfl) (own_mw hZ hw 39 rfl) (by decide) (backOf (W := 0) (own_hasM l Z a0 hw [] (rows i) (K 6) wd ((own_rcI rc q i) i) (x - (1 : Int32)) q h OL ((IL.2.2.2.2.2.2.2.2.2.2.2.2.2.2.2 i hiN).1) (own_sub1 hq hqN hN) (hNw q hqN)) hZ (own_hw hw 39 rfl) (own_hw hw 3 rfl) (by decide) (by decide)) (g := (mkF m 36 #[.val (.ref r), .val (.int x), .val (.int (x - (1 : Int32))), .val (.int xi), .unset, .unset] [(.int (x - (1 : Int32))), (.ref (rows i))])) rfl (by rw [hml]; rfl) (argsL := [(.ref (rows i)), (.int (x - (1 : Int32)))]) (rest := []) (lenOf pd_1808131070 rfl) rfl (by show 2 * 0 + _ ≤ _; exact Nat.le_of_eq rfl) (hb hby d_prog_67_method_2_code_36) (fun _ _ => ⟨rfl, e49z, (by decide : 0 + 0 ≤ _), (by decide : 0 + 0 ≤ _)⟩)
        dsimp only [Pt.U, Pt.locs, Pt.cells, Pt.slots] at X50z l50z y50z z50z st50z hQ50z
        subst l50z y50z z50z
        obtain ⟨rfl, NQ50z, K50zq⟩ := hQ50z
        refine own_go st50z ?_
        have N50z := Fr.app NL NQ50z
        show own_G p e below (T50z.setTop (mkF m 39 #[.val (.ref r), .val (.int x), .val (.int (x - (1 : Int32))), .val (.int xi), .unset, .unset] [(.int (own_has ((own_rcI rc q i) i) q))])) _
        by_cases hc51z : (own_has ((own_rcI rc q i) i) q) = (0 : Int32)
        · refine own_go (fun t k => XS.ifYes X50z.here hx rfl (pc0 := 39) (pc' := 63) rfl (hb hby d_prog_67_method_2_code_39) rfl ((if0 _ _).trans (teq hc51z).1) (by decide) (by decide) k) ?_
          show own_G p e below (T50z.setTop (mkF m 63 #[.val (.ref r), .val (.int x), .val (.int (x - (1 : Int32))), .val (.int xi), .unset, .unset] [])) _
          refine own_go (fun t k => XS.iinc X50z.here hx rfl (hb hby d_prog_67_method_2_code_63) rfl (l' := #[.val (.ref r), .val (.int x), .val (.int (x - (1 : Int32))), .val (.int (xi + (1 : Int32))), .unset, .unset]) rfl k) ?_
          refine own_go (fun t k => XS.goto X50z.here hx rfl (pc0 := 66) (pc' := 16) rfl (hb hby d_prog_67_method_2_code_66) (by decide) (by decide) k) ?_
          show own_G p e below (T50z.setTop (mkF m 16 #[.val (.ref r), .val (.int x), .val (.int (x - (1 : Int32))), .val (.int (xi + (1 : Int32))), .unset, .unset] [])) _
          exact ih (i + 1) _ _ _ _ (by omega) (own_inc hxi (by omega) hN) X50z K50zq N50z OL KL (own_rcI_none (own_rcI_at (rc := rc) (q := q) (i := i) ▸ hc51z) ▸ IL)
        · refine own_go (fun t k => XS.ifNo X50z.here hx rfl (hb hby d_prog_67_method_2_code_39) rfl ((if0 _ _).trans (feq hc51z).1) k) ?_
          show own_G p e below (T50z.setTop (mkF m 42 #[.val (.ref r), .val (.int x), .val (.int (x - (1 : Int32))), .val (.int xi), .unset, .unset] [])) _
          refine own_go (fun t k => XS.aloadN X50z.here hx rfl (hb hby d_prog_67_method_2_code_42) rfl rfl k) ?_
          refine own_go (fun t k => XS.iloadN X50z.here hx rfl (hb hby d_prog_67_method_2_code_43) rfl k) ?_
          obtain ⟨cq52z, qa52z, qb52z⟩ := IL.1.cell
          obtain ⟨_, _, ⟨T52z, L52z, k52z, n52z⟩, -, X52z, ⟨Lc52z, hQ52z, l52z, y52z, z52z⟩, st52z⟩ := X50z.privateBack hx (y := own_m6) hown (own_mw hZ hw 47 rfl) (own_mw hZ hw 48 rfl) (own_selfPriv (mvT (args := #[]) hZ (own_hw hw 2 rfl)) (Cond.privateMethod_at (mvP hZ (own_hw hw 49 rfl) (args := #[]))) (own_mw hZ hw 48 rfl) (by decide)) (Cond.privateMethod_at (mvP hZ (own_hw hw 49 rfl) (args := #[]))) (own_mw hZ hw 50 rfl) (by decide) (backOf (W := 0) (own_wr0 l Z a0 hw [] r N wd A K rows (own_rcI rc q i) ls pr wt ra ea (st + (1 : Int64)) n0 i xi h OL IL DD hn0 hN hwd hNw OA0 OA1 OA2 hxi hiN (hrow i hiN (fun q => hc48z ((own_eqN hxi (own_sub1 hq hqN hN)).mpr q)) (own_rcI_at (rc := rc) (q := q) (i := i) ▸ hc51z))) hZ (own_hw hw 50 rfl) (own_hw hw 3 rfl) (by decide) (by decide)) (g := (mkF m 44 #[.val (.ref r), .val (.int x), .val (.int (x - (1 : Int32))), .val (.int xi), .unset, .unset] [(.int xi), (.ref r)])) rfl (by rw [hml]; rfl) (Steps.refl _) (a := r) (by rw [K50zq]; exact qa52z) qb52z (argsL := [(.int xi)]) (rest := []) (lenOf pd_184260196 rfl) rfl (by show 2 * 0 + _ ≤ _; exact Nat.le_of_eq rfl) (hb hby d_prog_67_method_2_code_44) (fun _ _ => ⟨rfl, K50zq, (by decide : 0 + 0 ≤ _), (by decide : 0 + 0 ≤ _)⟩)
          dsimp only [Pt.U, Pt.locs, Pt.cells, Pt.slots] at X52z l52z y52z z52z st52z hQ52z
          subst l52z y52z z52z
          obtain ⟨rfl, NQ52z, K52zq⟩ := hQ52z
          refine own_tr st52z ?_
          have N52z := Fr.app N50z NQ52z
          show own_G p e below (T52z.setTop (mkF m 47 #[.val (.ref r), .val (.int x), .val (.int (x - (1 : Int32))), .val (.int xi), .unset, .unset] [(.ref (rows i))])) _
          refine own_go (fun t k => XS.iloadN X52z.here hx rfl (hb hby d_prog_67_method_2_code_47) rfl k) ?_
          obtain ⟨_, _, ⟨T53z, L53z, k53z, n53z⟩, -, X53z, ⟨Lc53z, hQ53z, l53z, y53z, z53z⟩, st53z⟩ := Jvm.LawKit.callS X52z hx (y := own_m0) hown (own_mw hZ hw 40 rfl) (own_mw hZ hw 41 rfl) (own_mw hZ hw 3 rfl) (own_mw hZ hw 42 rfl) (by decide) (backOf (W := 1) (own_word l Z a0 hw [] (x - (1 : Int32)) h OL) hZ (own_hw hw 42 rfl) (own_hw hw 3 rfl) (by decide) (by decide)) (g := (mkF m 48 #[.val (.ref r), .val (.int x), .val (.int (x - (1 : Int32))), .val (.int xi), .unset, .unset] [(.int (x - (1 : Int32))), (.ref (rows i))])) rfl (by rw [hml]; rfl) (argsL := [(.int (x - (1 : Int32)))]) (rest := [(.ref (rows i))]) (lenOf pd_2087992008 rfl) rfl (by show 2 * 0 + _ ≤ _; exact Nat.le_of_eq rfl) (hb hby d_prog_67_method_2_code_48) (fun _ _ => ⟨rfl, K52zq, (by decide : 0 + 0 ≤ _), (by decide : 0 + 0 ≤ _)⟩)
          dsimp only [Pt.U, Pt.locs, Pt.cells, Pt.slots] at X53z l53z y53z z53z st53z hQ53z
          subst l53z y53z z53z
          obtain ⟨rfl, NQ53z, K53zq⟩ := hQ53z
          refine own_go st53z ?_
          have N53z := Fr.app N52z NQ53z
          show own_G p e below (T53z.setTop (mkF m 51 #[.val (.ref r), .val (.int x), .val (.int (x - (1 : Int32))), .val (.int xi), .unset, .unset] [(.int ((x - (1 : Int32)) / (64 : Int32))), (.ref (rows i))])) _
          refine own_go (fun t k => own_dup2 X53z.here hx rfl (hb hby d_prog_67_method_2_code_51) rfl rfl rfl k) ?_
          refine own_go (own_ldJ X53z hx hZ K53zq (IL.2.2.2.2.2.2.2.2.2.2.2.2.2.2.2 i hiN).1 (i := (q / 64)) (v := (.long (((own_rcI rc q i) i) (q / 64)))) (own_w64 (own_sub1 hq hqN hN)) (own_rget _ (hNw q hqN)) (g := (mkF m 52 #[.val (.ref r), .val (.int x), .val (.int (x - (1 : Int32))), .val (.int xi), .unset, .unset] [(.int ((x - (1 : Int32)) / (64 : Int32))), (.ref (rows i)), (.int ((x - (1 : Int32)) / (64 : Int32))), (.ref (rows i))])) rfl rfl (hb hby d_prog_67_method_2_code_52)) ?_
          refine own_go (fun t k => XS.iloadN X53z.here hx rfl (hb hby d_prog_67_method_2_code_53) rfl k) ?_
          obtain ⟨_, _, ⟨T54z, L54z, k54z, n54z⟩, -, X54z, ⟨Lc54z, hQ54z, l54z, y54z, z54z⟩, st54z⟩ := Jvm.LawKit.callS X53z hx (y := own_m1) hown (own_mw hZ hw 43 rfl) (own_mw hZ hw 44 rfl) (own_mw hZ hw 3 rfl) (own_mw hZ hw 45 rfl) (by decide) (backOf (W := 4) (own_bitM l Z a0 hw [] (x - (1 : Int32)) q h OL (own_sub1 hq hqN hN)) hZ (own_hw hw 45 rfl) (own_hw hw 3 rfl) (by decide) (by decide)) (g := (mkF m 54 #[.val (.ref r), .val (.int x), .val (.int (x - (1 : Int32))), .val (.int xi), .unset, .unset] [(.int (x - (1 : Int32))), (.long (((own_rcI rc q i) i) (q / 64))), (.int ((x - (1 : Int32)) / (64 : Int32))), (.ref (rows i))])) rfl (by rw [hml]; rfl) (argsL := [(.int (x - (1 : Int32)))]) (rest := [(.long (((own_rcI rc q i) i) (q / 64))), (.int ((x - (1 : Int32)) / (64 : Int32))), (.ref (rows i))]) (lenOf pd_2087992009 rfl) rfl (by show 2 * 0 + _ ≤ _; exact Nat.le_of_eq rfl) (hb hby d_prog_67_method_2_code_54) (fun _ _ => ⟨rfl, K53zq, (by decide : 0 + 0 ≤ _), (by decide : 0 + 0 ≤ _)⟩)
          dsimp only [Pt.U, Pt.locs, Pt.cells, Pt.slots] at X54z l54z y54z z54z st54z hQ54z
          subst l54z y54z z54z
          obtain ⟨rfl, NQ54z, K54zq⟩ := hQ54z
          refine own_go st54z ?_
          have N54z := Fr.app N53z NQ54z
          show own_G p e below (T54z.setTop (mkF m 57 #[.val (.ref r), .val (.int x), .val (.int (x - (1 : Int32))), .val (.int xi), .unset, .unset] [(.long (own_B q)), (.long (((own_rcI rc q i) i) (q / 64))), (.int ((x - (1 : Int32)) / (64 : Int32))), (.ref (rows i))])) _
          refine own_go (fun t k => X54z.ldc2J hx hown (mvT hZ (own_hw hw 73 rfl)) rfl (hb hby d_prog_67_method_2_code_57) k) ?_
          refine own_go (fun t k => XS.lxor X54z.here hx rfl (hb hby d_prog_67_method_2_code_60) rfl k) ?_
          refine own_go (fun t k => XS.land X54z.here hx rfl (hb hby d_prog_67_method_2_code_61) rfl k) ?_
          obtain ⟨T55z, h55z, X55z, e55z, W55z, V55z, st55z⟩ := own_stJ X54z hx hZ K54zq (IL.2.2.2.2.2.2.2.2.2.2.2.2.2.2.2 i hiN).1 (i := (q / 64)) (own_w64 (own_sub1 hq hqN hN)) (by rw [own_rlen]; exact hNw q hqN) (g := (mkF m 62 #[.val (.ref r), .val (.int x), .val (.int (x - (1 : Int32))), .val (.int xi), .unset, .unset] [(.long ((((own_rcI rc q i) i) (q / 64)) &&& ((own_B q) ^^^ (-1 : Int64)))), (.int ((x - (1 : Int32)) / (64 : Int32))), (.ref (rows i))])) rfl rfl (hb hby d_prog_67_method_2_code_62)
          refine own_go st55z ?_
          have N55z := Fr.snoc X55z N54z (Nat.le_trans hn0 (DD.2.2.2.1 i hiN).1)
          have O56z := own_ext_wr OL W55z (Nat.le_trans hn0 (DD.2.2.2.1 i hiN).1)
          have K56z := KL.wr W55z (Or.inl (own_ws_row hiN))
          have I57z := own_I.wr hiN IL DD W55z (own_L.set V55z)
          have V55z : own_A Z h55z (rows i) (K 6) .long (((List.range wd).map fun i_z => Value.long (((own_rcI rc q i) i) i_z)).set (q / 64) (.long ((((own_rcI rc q i) i) (q / 64)) &&& ((own_B q) ^^^ (-1 : Int64))))) := V55z
          show own_G p e below (T55z.setTop (mkF m 63 #[.val (.ref r), .val (.int x), .val (.int (x - (1 : Int32))), .val (.int xi), .unset, .unset] [])) _
          refine own_go (fun t k => XS.iinc X55z.here hx rfl (hb hby d_prog_67_method_2_code_63) rfl (l' := #[.val (.ref r), .val (.int x), .val (.int (x - (1 : Int32))), .val (.int (xi + (1 : Int32))), .unset, .unset]) rfl k) ?_
          refine own_go (fun t k => XS.goto X55z.here hx rfl (pc0 := 66) (pc' := 16) rfl (hb hby d_prog_67_method_2_code_66) (by decide) (by decide) k) ?_
          show own_G p e below (T55z.setTop (mkF m 16 #[.val (.ref r), .val (.int x), .val (.int (x - (1 : Int32))), .val (.int (xi + (1 : Int32))), .unset, .unset] [])) _
          exact ih (i + 1) _ _ _ _ (by omega) (own_inc hxi (by omega) hN) X55z e55z N55z O56z K56z (own_rcI_clr (fun q => hc48z ((own_eqN hxi (own_sub1 hq hqN hN)).mpr q)) ▸ I57z)
  exact loop1 N 0 _ _ _ _ (by omega) (by decide) X2z e2z N2z O3z K3z (own_rcI_0.symm ▸ I4z)
theorem ef_own_sent (m : MethodId) (x0 : Addr) (x1 : Int32) : entryFrame m #[(.ref x0), (.int x1)] 5 = mkF m 0 #[.val (.ref x0), .val (.int x1), .unset, .unset, .unset] [] := by first | (simp [entryFrame, mkF, argsToLocals, Value.category]; done) | rfl
theorem pf_own_sent : plainFor own_m8 = true := plainFor_of_name (by simp [plainName, overriddenIn])
theorem pd_1808132155 : parseMethodDescriptor "([JJ)V" = some ⟨[(.array .long), .long], none⟩ := by decide +kernel
theorem d_prog_67_method_3_code_0 : decode prog_67_method_3_code 0 = .ok (.iload_n 1, 1) := by decide +kernel
theorem d_prog_67_method_3_code_1 : decode prog_67_method_3_code 1 = .ok (.iconst 1, 1) := by decide +kernel
theorem d_prog_67_method_3_code_10 : decode prog_67_method_3_code 10 = .ok (.astore_n 3, 1) := by decide +kernel
theorem d_prog_67_method_3_code_11 : decode prog_67_method_3_code 11 = .ok (.aload_n 3, 1) := by decide +kernel
theorem d_prog_67_method_3_code_12 : decode prog_67_method_3_code 12 = .ok (.ifnull 18, 3) := by decide +kernel
theorem d_prog_67_method_3_code_2 : decode prog_67_method_3_code 2 = .ok (.isub, 1) := by decide +kernel
theorem d_prog_67_method_3_code_3 : decode prog_67_method_3_code 3 = .ok (.istore_n 2, 1) := by decide +kernel
theorem d_prog_67_method_3_code_30 : decode prog_67_method_3_code 30 = .ok (.new 20, 3) := by decide +kernel
theorem d_prog_67_method_3_code_33 : decode prog_67_method_3_code 33 = .ok (.dup, 1) := by decide +kernel
theorem d_prog_67_method_3_code_34 : decode prog_67_method_3_code 34 = .ok (.aload_n 0, 1) := by decide +kernel
theorem d_prog_67_method_3_code_35 : decode prog_67_method_3_code 35 = .ok (.getfield 17, 3) := by decide +kernel
theorem d_prog_67_method_3_code_38 : decode prog_67_method_3_code 38 = .ok (.iload_n 2, 1) := by decide +kernel
theorem d_prog_67_method_3_code_39 : decode prog_67_method_3_code 39 = .ok (.aaload, 1) := by decide +kernel
theorem d_prog_67_method_3_code_4 : decode prog_67_method_3_code 4 = .ok (.aload_n 0, 1) := by decide +kernel
theorem d_prog_67_method_3_code_40 : decode prog_67_method_3_code 40 = .ok (.aload_n 0, 1) := by decide +kernel
theorem d_prog_67_method_3_code_41 : decode prog_67_method_3_code 41 = .ok (.getfield 40, 3) := by decide +kernel
theorem d_prog_67_method_3_code_44 : decode prog_67_method_3_code 44 = .ok (.invokespecial 64, 3) := by decide +kernel
theorem d_prog_67_method_3_code_47 : decode prog_67_method_3_code 47 = .ok (.astore 4, 2) := by decide +kernel
theorem d_prog_67_method_3_code_49 : decode prog_67_method_3_code 49 = .ok (.aload_n 0, 1) := by decide +kernel
theorem d_prog_67_method_3_code_5 : decode prog_67_method_3_code 5 = .ok (.getfield 22, 3) := by decide +kernel
theorem d_prog_67_method_3_code_50 : decode prog_67_method_3_code 50 = .ok (.getfield 22, 3) := by decide +kernel
theorem d_prog_67_method_3_code_53 : decode prog_67_method_3_code 53 = .ok (.iload_n 2, 1) := by decide +kernel
theorem d_prog_67_method_3_code_54 : decode prog_67_method_3_code 54 = .ok (.aload 4, 2) := by decide +kernel
theorem d_prog_67_method_3_code_56 : decode prog_67_method_3_code 56 = .ok (.aastore, 1) := by decide +kernel
theorem d_prog_67_method_3_code_57 : decode prog_67_method_3_code 57 = .ok (.aload 4, 2) := by decide +kernel
theorem d_prog_67_method_3_code_59 : decode prog_67_method_3_code 59 = .ok (.areturn, 1) := by decide +kernel
theorem d_prog_67_method_3_code_8 : decode prog_67_method_3_code 8 = .ok (.iload_n 2, 1) := by decide +kernel
theorem d_prog_67_method_3_code_9 : decode prog_67_method_3_code 9 = .ok (.aaload, 1) := by decide +kernel
def Q_own_sent (Z : State) (r : Addr) (N : Nat) (wd : Nat) (A : (Nat → Addr)) (K : (Nat → ClassId)) (rows : (Nat → Addr)) (rc : (Nat → Nat → Int64)) (ls : (Nat → Value)) (pr : (Nat → Value)) (wt : (Nat → Int64)) (ra : (Nat → Int64)) (ea : (Nat → Int64)) (st : Int64) (n0 : Nat) (q : Nat) (x : Int32) (h0 : Heap) (v : Option Value) (h : Heap) (L : List Loc) : Prop := ∃ kn : Addr, v = some (.ref kn) ∧ Fr Z.heap.size L ∧ Keep h0 h (own_ws r N A rows) ∧ (own_I Z h r N wd A K rows rc (own_upd ls q (.ref kn)) pr wt ra ea st) ∧ (h0.size ≤ kn) ∧ (kn ∉ own_ws r N A rows) ∧ (Exa Z h kn own_s0) ∧ (Fld Z h kn own_s0 "follows" "[J" (.ref (rows q))) ∧ (Fld Z h kn own_s0 "stamp" "J" (.long st))
set_option maxRecDepth 65536 in
set_option maxHeartbeats 40000000 in
theorem own_sent (l : Launch) (Z : State) (a0 : Array Value) (hw : ∀ d ∈ tables_1, d.before a0 Z = true) (ws : List Jvm.Cond) (r : Addr) (N : Nat) (wd : Nat) (A : (Nat → Addr)) (K : (Nat → ClassId)) (rows : (Nat → Addr)) (rc : (Nat → Nat → Int64)) (ls : (Nat → Value)) (pr : (Nat → Value)) (wt : (Nat → Int64)) (ra : (Nat → Int64)) (ea : (Nat → Int64)) (st : Int64) (n0 : Nat) (q : Nat) (x : Int32) (h0 : Heap) (O0 : Ext Z.heap h0) (II : own_I Z h0 r N wd A K rows rc ls pr wt ra ea st) (DD : own_D n0 r N A rows) (hn0 : Z.heap.size ≤ n0) (hN : N ≤ 129) (hwd : wd ≤ 3) (hNw : ∀ i, i < N → i / 64 < wd) (OA0 : OvrA Z (K 0) .long "[J") (OA1 : Ovr Z (K 1) own_s0) (OA2 : OvrA Z (K 2) .long "[J") (hq : x.toInt = (q : Int) + 1) (hqN : q < N) (hls : ls q = .null) :
    MetFree l own_m8 (head1 (Jvm.Cond.code own_m8 prog_67_method_3_code 5 (some (.object own_s0)) :: ws) ({ frames := 2, cells := 1, slots := 2, locals := 30 } : Room)) (fun aa U => aa = #[(.ref r), (.int x)] ∧ Z.Warmed39 U.vm ∧ U.heap = h0) (fun _ _ _ _ _ => True) (fun _ U o U' => ∃ v L, o = .returned v ∧ Q_own_sent Z r N wd A K rows rc ls pr wt ra ea st n0 q x h0 v U'.heap L ∧ FrameEnd U o U' L ({ frames := 2, cells := 1, slots := 2, locals := 30 } : Room).cells ({ frames := 2, cells := 1, slots := 2, locals := 30 } : Room).slots) := by
  refine MetFree.of_bodySF pf_own_sent hisR ?_
  intro p e s m args below meth c s₁ Bd hml0 hP hK
  obtain ⟨rfl, hZ, hh⟩ := hP
  have hx := Bd.exec
  have hby := Bd.bytes
  have hlk := BodyLoose.notSynchronized Bd
  have hml : c.maxLocals = 5 := hml0
  have hown : s.vm.findClass own_s1 = some m.cls := findClass_of_methodNamed Bd.named
  have hnm := (name_of_methodNamed Bd.named Bd.method).1
  have X0 : Stand p l e ({ frames := 2, cells := 1, slots := 2, locals := 30 } : Room) s m #[(.ref r), (.int x)] below meth c s₁ [] 0 0 := Stand.of_body Bd
  have e0 : s₁.heap = h0 := by rw [← hh, Bd.state]; rfl
  have N0 := Fr.nil Z.heap.size
  have K0 : Keep h0 h0 (own_ws r N A rows) := Keep.refl _ _
  refine own_start (Q := Q_own_sent Z r N wd A K rows rc ls pr wt ra ea st n0 q x h0) (ef_own_sent m (r) (x)) ?_
  show own_G p e below (s₁.setTop (mkF m 0 #[.val (.ref r), .val (.int x), .unset, .unset, .unset] [])) _
  refine own_go (fun t k => XS.iloadN X0.here hx rfl (hb hby d_prog_67_method_3_code_0) rfl k) ?_
  refine own_go (fun t k => XS.iconst X0.here hx rfl (hb hby d_prog_67_method_3_code_1) k) ?_
  refine own_go (fun t k => XS.isub X0.here hx rfl (hb hby d_prog_67_method_3_code_2) rfl k) ?_
  refine own_go (fun t k => XS.istoreN X0.here hx rfl (hb hby d_prog_67_method_3_code_3) rfl (l' := #[.val (.ref r), .val (.int x), .val (.int (x - (1 : Int32))), .unset, .unset]) rfl k) ?_
  show own_G p e below (s₁.setTop (mkF m 4 #[.val (.ref r), .val (.int x), .val (.int (x - (1 : Int32))), .unset, .unset] [])) _
  refine own_go (fun t k => XS.aloadN X0.here hx rfl (hb hby d_prog_67_method_3_code_4) rfl rfl k) ?_
  obtain ⟨T1z, X1z, e1z, st1z⟩ := getF X0 hx hZ hown (host := "") (Or.inl (own_hw hw 19 rfl)) Via.refl e0 II.2.2.2.1 (g := (mkF m 5 #[.val (.ref r), .val (.int x), .val (.int (x - (1 : Int32))), .unset, .unset] [(.ref r)])) rfl rfl (hb hby d_prog_67_method_3_code_5)
  refine own_go st1z ?_
  refine own_go (fun t k => XS.iloadN X1z.here hx rfl (hb hby d_prog_67_method_3_code_8) rfl k) ?_
  refine own_go (own_ldA X1z hx hZ e1z II.2.2.2.2.2.2.2.2.2.2.1 rfl (i := q) (v := .null) (own_sub1 hq hqN hN) (by rw [own_rget _ hqN, hls]) (g := (mkF m 9 #[.val (.ref r), .val (.int x), .val (.int (x - (1 : Int32))), .unset, .unset] [(.int (x - (1 : Int32))), (.ref (A 1))])) rfl rfl (hb hby d_prog_67_method_3_code_9)) ?_
  show own_G p e below (T1z.setTop (mkF m 10 #[.val (.ref r), .val (.int x), .val (.int (x - (1 : Int32))), .unset, .unset] [.null])) _
  refine own_go (fun t k => XS.astoreN X1z.here hx rfl (hb hby d_prog_67_method_3_code_10) rfl rfl (l' := #[.val (.ref r), .val (.int x), .val (.int (x - (1 : Int32))), .val .null, .unset]) rfl k) ?_
  refine own_go (fun t k => XS.aloadN X1z.here hx rfl (hb hby d_prog_67_method_3_code_11) rfl rfl k) ?_
  refine own_go (fun t k => XS.ifnullYes X1z.here hx rfl (pc0 := 12) (pc' := 30) rfl (hb hby d_prog_67_method_3_code_12) rfl (by decide) (by decide) k) ?_
  show own_G p e below (T1z.setTop (mkF m 30 #[.val (.ref r), .val (.int x), .val (.int (x - (1 : Int32))), .val .null, .unset] [])) _
  obtain ⟨T2z, h2z, X2z, e2z, E2z, A2z, D2z, -, st2z⟩ := newO X1z hx hZ hown (own_hw hw 17 rfl) (own_hw hw 56 rfl) (own_hw hw 57 rfl) e1z (g := (mkF m 30 #[.val (.ref r), .val (.int x), .val (.int (x - (1 : Int32))), .val .null, .unset] [])) rfl (hb hby d_prog_67_method_3_code_30) (by decide) (by decide)
  obtain ⟨b2z, g2z⟩ : ∃ z, z = h0.size := ⟨_, rfl⟩
  rw [← g2z] at A2z D2z st2z
  have fr_b2z : Z.heap.size ≤ b2z := g2z ▸ O0.1
  have lz_b2z : h0.size ≤ b2z := g2z ▸ K0.1
  have ne_r_b2z : r ≠ b2z := Nat.ne_of_lt (g2z ▸ II.2.1.lt)
  have O3z := own_ext_trans O0 E2z
  have K3z := K0.ext E2z
  have I4z := own_I.ext E2z II
  have ob2z := own_I.out II (Nat.le_of_eq g2z.symm)
  have F2z_follows : Fld Z h2z b2z own_s0 "follows" "[J" .null := D2z (Or.inr (own_hw hw 63 rfl)) (ty := (.array .long)) (by decide)
  have F2z_stamp : Fld Z h2z b2z own_s0 "stamp" "J" (.long (0 : Int64)) := D2z (Or.inr (own_hw hw 65 rfl)) (ty := .long) (by decide)
  refine own_go st2z ?_
  refine own_go (fun t k => XS.dup X2z.here hx rfl (hb hby d_prog_67_method_3_code_33) rfl rfl k) ?_
  refine own_go (fun t k => XS.aloadN X2z.here hx rfl (hb hby d_prog_67_method_3_code_34) rfl rfl k) ?_
  obtain ⟨T5z, X5z, e5z, st5z⟩ := getF X2z hx hZ hown (host := "") (Or.inl (own_hw hw 15 rfl)) Via.refl e2z I4z.2.2.1 (g := (mkF m 35 #[.val (.ref r), .val (.int x), .val (.int (x - (1 : Int32))), .val .null, .unset] [(.ref r), (.ref b2z), (.ref b2z)])) rfl rfl (hb hby d_prog_67_method_3_code_35)
  refine own_go st5z ?_
  show own_G p e below (T5z.setTop (mkF m 38 #[.val (.ref r), .val (.int x), .val (.int (x - (1 : Int32))), .val .null, .unset] [(.ref (A 0)), (.ref b2z), (.ref b2z)])) _
  refine own_go (fun t k => XS.iloadN X5z.here hx rfl (hb hby d_prog_67_method_3_code_38) rfl k) ?_
  refine own_go (own_ldA X5z hx hZ e5z I4z.2.2.2.2.2.2.2.2.2.1 rfl (i := q) (v := (.ref (rows q))) (own_sub1 hq hqN hN) (own_rget (fun i => Value.ref (rows i)) hqN) (g := (mkF m 39 #[.val (.ref r), .val (.int x), .val (.int (x - (1 : Int32))), .val .null, .unset] [(.int (x - (1 : Int32))), (.ref (A 0)), (.ref b2z), (.ref b2z)])) rfl rfl (hb hby d_prog_67_method_3_code_39)) ?_
  refine own_go (fun t k => XS.aloadN X5z.here hx rfl (hb hby d_prog_67_method_3_code_40) rfl rfl k) ?_
  obtain ⟨T6z, X6z, e6z, st6z⟩ := getF X5z hx hZ hown (host := "") (Or.inl (own_hw hw 35 rfl)) Via.refl e5z I4z.2.2.2.2.2.2.2.2.1 (g := (mkF m 41 #[.val (.ref r), .val (.int x), .val (.int (x - (1 : Int32))), .val .null, .unset] [(.ref r), (.ref (rows q)), (.ref b2z), (.ref b2z)])) rfl rfl (hb hby d_prog_67_method_3_code_41)
  refine own_go st6z ?_
  show own_G p e below (T6z.setTop (mkF m 44 #[.val (.ref r), .val (.int x), .val (.int (x - (1 : Int32))), .val .null, .unset] [(.long st), (.ref (rows q)), (.ref b2z), (.ref b2z)])) _
  obtain ⟨_, _, ⟨T7z, L7z, k7z, n7z⟩, -, X7z, ⟨Lc7z, hQ7z, l7z, y7z, z7z⟩, st7z⟩ := own_specialR X6z hx hZ (y := own_m3) rfl hown (own_hw hw 58 rfl) (own_mw hZ hw 59 rfl) (own_mw hZ hw 60 rfl) (by decide) (backOf (W := 1) (own_kn l Z a0 hw [] b2z (rows q) st h2z O3z A2z fr_b2z F2z_follows F2z_stamp) hZ (own_hw hw 60 rfl) (own_hw hw 57 rfl) (by decide) (by decide)) (g := (mkF m 44 #[.val (.ref r), .val (.int x), .val (.int (x - (1 : Int32))), .val .null, .unset] [(.long st), (.ref (rows q)), (.ref b2z), (.ref b2z)])) rfl (by rw [hml]; rfl) (Steps.refl _) (a := b2z) (argsL := [(.ref (rows q)), (.long st)]) (rest := [(.ref b2z)]) (lenOf pd_1808132155 rfl) rfl (by show 2 * 0 + _ ≤ _; exact Nat.le_of_eq rfl) (hb hby d_prog_67_method_3_code_44) (fun _ _ => ⟨rfl, e6z, (by decide : 1 + 0 ≤ _), (by decide : 2 + 0 ≤ _)⟩)
  dsimp only [Pt.U, Pt.locs, Pt.cells, Pt.slots] at X7z l7z y7z z7z st7z hQ7z
  subst l7z y7z z7z
  obtain ⟨rfl, NQ7z, K7zq, r7z_0, r7z_1, r7z_2⟩ := hQ7z
  refine own_tr st7z ?_
  have N7z := Fr.app N0 NQ7z
  have O8z := own_ext_keep O3z K7zq (allS fr_b2z all0)
  have K8z := K3z.trans K7zq (allS (Or.inr lz_b2z) all0)
  have I9z := own_I.kp I4z K7zq (fun y hy => by simp only [List.mem_singleton]; exact fun e => ob2z (e ▸ hy))
  show own_G p e below (T7z.setTop (mkF m 47 #[.val (.ref r), .val (.int x), .val (.int (x - (1 : Int32))), .val .null, .unset] [(.ref b2z)])) _
  refine own_go (fun t k => XS.astore X7z.here hx rfl (hb hby d_prog_67_method_3_code_47) rfl rfl (l' := #[.val (.ref r), .val (.int x), .val (.int (x - (1 : Int32))), .val .null, .val (.ref b2z)]) rfl k) ?_
  refine own_go (fun t k => XS.aloadN X7z.here hx rfl (hb hby d_prog_67_method_3_code_49) rfl rfl k) ?_
  obtain ⟨T10z, X10z, e10z, st10z⟩ := getF X7z hx hZ hown (host := "") (Or.inl (own_hw hw 19 rfl)) Via.refl rfl I9z.2.2.2.1 (g := (mkF m 50 #[.val (.ref r), .val (.int x), .val (.int (x - (1 : Int32))), .val .null, .val (.ref b2z)] [(.ref r)])) rfl rfl (hb hby d_prog_67_method_3_code_50)
  refine own_go st10z ?_
  refine own_go (fun t k => XS.iloadN X10z.here hx rfl (hb hby d_prog_67_method_3_code_53) rfl k) ?_
  show own_G p e below (T10z.setTop (mkF m 54 #[.val (.ref r), .val (.int x), .val (.int (x - (1 : Int32))), .val .null, .val (.ref b2z)] [(.int (x - (1 : Int32))), (.ref (A 1))])) _
  refine own_go (fun t k => XS.aload X10z.here hx rfl (hb hby d_prog_67_method_3_code_54) rfl rfl k) ?_
  obtain ⟨T11z, h11z, X11z, e11z, W11z, V11z, st11z⟩ := own_stR X10z hx hZ e10z I9z.2.2.2.2.2.2.2.2.2.2.1 rfl (i := q) (own_sub1 hq hqN hN) (by rw [own_rlen]; exact hqN) (own_sto OA1 (Or.inr ⟨_, rfl, (Ins.self r7z_0)⟩)) rfl (g := (mkF m 56 #[.val (.ref r), .val (.int x), .val (.int (x - (1 : Int32))), .val .null, .val (.ref b2z)] [(.ref b2z), (.int (x - (1 : Int32))), (.ref (A 1))])) rfl rfl (hb hby d_prog_67_method_3_code_56)
  refine own_go st11z ?_
  have N11z := Fr.snoc X11z N7z (Nat.le_trans hn0 (DD.2.1 1 (by decide)).1)
  have O12z := own_ext_wr O8z W11z (Nat.le_trans hn0 (DD.2.1 1 (by decide)).1)
  have K12z := K8z.wr W11z (Or.inl (own_ws_A (by decide : 1 < 6)))
  have I13z := own_I.w1 I9z DD W11z (own_V.set V11z)
  have V11z : own_A Z h11z (A 1) (K 1) (.object own_s0) (((List.range N).map ls).set q (.ref b2z)) := V11z
  refine own_go (fun t k => XS.aload X11z.here hx rfl (hb hby d_prog_67_method_3_code_57) rfl rfl k) ?_
  have f14z := (r7z_1.other W11z (Or.inl (own_nA ob2z (by decide : 1 < 6))))
  have f15z := (r7z_2.other W11z (Or.inl (own_nA ob2z (by decide : 1 < 6))))
  exact own_ret X11z hx Bd.returns rfl (Or.inr (Or.inr (Or.inr (Or.inr ⟨rfl, rfl, rfl⟩)))) (hb hby d_prog_67_method_3_code_59) hlk (Nat.le_of_ble_eq_true rfl) (Nat.le_of_ble_eq_true rfl) (by show Q_own_sent Z r N wd A K rows rc ls pr wt ra ea st n0 q x h0 _ T11z.heap _; rw [e11z]; exact ⟨b2z, rfl, N11z, K12z, I13z, lz_b2z, ob2z, (r7z_0.wr W11z), f14z, f15z⟩)
theorem own_other {x : Int32} {j q : Nat} (hx : x.toInt = (j : Int)) (hj : j = q / 64) (hq : q ≤ 129) : ((x * (64 : Int32)) + (own_ntzL (own_B q))).toInt = (q : Int) := by
  have e : (64 : Int32).toInt = 64 := by decide
  have m := own_bm q
  have n : (own_ntzL (own_B q)).toInt = ((q % 64 : Nat) : Int) := by rw [own_ntz]; exact Int32.toInt_ofNat_small (by omega)
  have s : (x * (64 : Int32)).toInt = ((q / 64 * 64 : Nat) : Int) := by
    rw [Jvm.Kit.i32_mul (by rw [hx, e]; omega) (by rw [hx, e]; omega), hx, e]; omega
  rw [Jvm.Kit.i32_add (by rw [s, n]; omega) (by rw [s, n]; omega), s, n]; omega
def own_ce (x y : Int64) : Int32 := if x < y then 1 else 0
theorem own_rz {rc g : Nat → Nat → Int64} {q aq j : Nat} (hz : ∀ j, rc q j = 0) (hg : g = (if aq / 64 < j then own_upd rc q (own_one aq) else rc)) (e : j = aq / 64) : g q j = 0 := by rw [hg, if_neg (by omega)]; exact hz j
theorem own_rcu0 {rc g : Nat → Nat → Int64} {q aq j : Nat} (hg : g = (if aq / 64 < j then own_upd rc q (own_one aq) else rc)) (e : ¬ j = aq / 64) : g = (if aq / 64 < j + 1 then own_upd rc q (own_one aq) else rc) := by
  rw [hg]
  by_cases a : aq / 64 < j
  · rw [if_pos a, if_pos (by omega)]
  · rw [if_neg a, if_neg (by omega)]
theorem own_rcu1 {rc g : Nat → Nat → Int64} {q aq j : Nat} (hg : g = (if aq / 64 < j then own_upd rc q (own_one aq) else rc)) (hz : ∀ j, rc q j = 0) (e : j = aq / 64) : own_upd g q (own_upd (g q) j ((g q) j ||| own_B aq)) = (if aq / 64 < j + 1 then own_upd rc q (own_one aq) else rc) := by
  have eg : g = rc := by rw [hg, if_neg (by omega)]
  subst eg e
  rw [if_pos (by omega), own_one_eq hz]
theorem ef_own_rc1 (m : MethodId) (x0 : Addr) (x1 : Int32) (x2 : Addr) : entryFrame m #[(.ref x0), (.int x1), (.ref x2)] 8 = mkF m 0 #[.val (.ref x0), .val (.int x1), .val (.ref x2), .unset, .unset, .unset, .unset, .unset] [] := by first | (simp [entryFrame, mkF, argsToLocals, Value.category]; done) | rfl
theorem pf_own_rc1 : plainFor own_m9 = true := plainFor_of_name (by simp [plainName, overriddenIn])
theorem pd_2087993097 : parseMethodDescriptor "(J)I" = some ⟨[.long], some .int⟩ := by decide +kernel
theorem d_prog_67_method_4_code_0 : decode prog_67_method_4_code 0 = .ok (.iload_n 1, 1) := by decide +kernel
theorem d_prog_67_method_4_code_1 : decode prog_67_method_4_code 1 = .ok (.iconst 1, 1) := by decide +kernel
theorem d_prog_67_method_4_code_10 : decode prog_67_method_4_code 10 = .ok (.getfield 62, 3) := by decide +kernel
theorem d_prog_67_method_4_code_100 : decode prog_67_method_4_code 100 = .ok (.goto (-60), 3) := by decide +kernel
theorem d_prog_67_method_4_code_103 : decode prog_67_method_4_code 103 = .ok (.iinc 4 1, 3) := by decide +kernel
theorem d_prog_67_method_4_code_106 : decode prog_67_method_4_code 106 = .ok (.goto (-99), 3) := by decide +kernel
theorem d_prog_67_method_4_code_109 : decode prog_67_method_4_code 109 = .ok (.return_, 1) := by decide +kernel
theorem d_prog_67_method_4_code_13 : decode prog_67_method_4_code 13 = .ok (.arraylength, 1) := by decide +kernel
theorem d_prog_67_method_4_code_14 : decode prog_67_method_4_code 14 = .ok (.if_icmp .ge 95, 3) := by decide +kernel
theorem d_prog_67_method_4_code_17 : decode prog_67_method_4_code 17 = .ok (.aload_n 2, 1) := by decide +kernel
theorem d_prog_67_method_4_code_18 : decode prog_67_method_4_code 18 = .ok (.getfield 62, 3) := by decide +kernel
theorem d_prog_67_method_4_code_2 : decode prog_67_method_4_code 2 = .ok (.isub, 1) := by decide +kernel
theorem d_prog_67_method_4_code_21 : decode prog_67_method_4_code 21 = .ok (.iload 4, 2) := by decide +kernel
theorem d_prog_67_method_4_code_23 : decode prog_67_method_4_code 23 = .ok (.laload, 1) := by decide +kernel
theorem d_prog_67_method_4_code_24 : decode prog_67_method_4_code 24 = .ok (.aload_n 0, 1) := by decide +kernel
theorem d_prog_67_method_4_code_25 : decode prog_67_method_4_code 25 = .ok (.getfield 17, 3) := by decide +kernel
theorem d_prog_67_method_4_code_28 : decode prog_67_method_4_code 28 = .ok (.iload_n 3, 1) := by decide +kernel
theorem d_prog_67_method_4_code_29 : decode prog_67_method_4_code 29 = .ok (.aaload, 1) := by decide +kernel
theorem d_prog_67_method_4_code_3 : decode prog_67_method_4_code 3 = .ok (.istore_n 3, 1) := by decide +kernel
theorem d_prog_67_method_4_code_30 : decode prog_67_method_4_code 30 = .ok (.iload 4, 2) := by decide +kernel
theorem d_prog_67_method_4_code_32 : decode prog_67_method_4_code 32 = .ok (.laload, 1) := by decide +kernel
theorem d_prog_67_method_4_code_33 : decode prog_67_method_4_code 33 = .ok (.ldc2_w 60, 3) := by decide +kernel
theorem d_prog_67_method_4_code_36 : decode prog_67_method_4_code 36 = .ok (.lxor, 1) := by decide +kernel
theorem d_prog_67_method_4_code_37 : decode prog_67_method_4_code 37 = .ok (.land, 1) := by decide +kernel
theorem d_prog_67_method_4_code_38 : decode prog_67_method_4_code 38 = .ok (.lstore 5, 2) := by decide +kernel
theorem d_prog_67_method_4_code_4 : decode prog_67_method_4_code 4 = .ok (.iconst 0, 1) := by decide +kernel
theorem d_prog_67_method_4_code_40 : decode prog_67_method_4_code 40 = .ok (.lload 5, 2) := by decide +kernel
theorem d_prog_67_method_4_code_42 : decode prog_67_method_4_code 42 = .ok (.lconst 0, 1) := by decide +kernel
theorem d_prog_67_method_4_code_43 : decode prog_67_method_4_code 43 = .ok (.lcmp, 1) := by decide +kernel
theorem d_prog_67_method_4_code_44 : decode prog_67_method_4_code 44 = .ok (.ifCond .eq 59, 3) := by decide +kernel
theorem d_prog_67_method_4_code_47 : decode prog_67_method_4_code 47 = .ok (.iload 4, 2) := by decide +kernel
theorem d_prog_67_method_4_code_49 : decode prog_67_method_4_code 49 = .ok (.bipush 64, 2) := by decide +kernel
theorem d_prog_67_method_4_code_5 : decode prog_67_method_4_code 5 = .ok (.istore 4, 2) := by decide +kernel
theorem d_prog_67_method_4_code_51 : decode prog_67_method_4_code 51 = .ok (.imul, 1) := by decide +kernel
theorem d_prog_67_method_4_code_52 : decode prog_67_method_4_code 52 = .ok (.lload 5, 2) := by decide +kernel
theorem d_prog_67_method_4_code_54 : decode prog_67_method_4_code 54 = .ok (.invokestatic 67, 3) := by decide +kernel
theorem d_prog_67_method_4_code_57 : decode prog_67_method_4_code 57 = .ok (.iadd, 1) := by decide +kernel
theorem d_prog_67_method_4_code_58 : decode prog_67_method_4_code 58 = .ok (.istore 7, 2) := by decide +kernel
theorem d_prog_67_method_4_code_60 : decode prog_67_method_4_code 60 = .ok (.lload 5, 2) := by decide +kernel
theorem d_prog_67_method_4_code_62 : decode prog_67_method_4_code 62 = .ok (.lload 5, 2) := by decide +kernel
theorem d_prog_67_method_4_code_64 : decode prog_67_method_4_code 64 = .ok (.lconst 1, 1) := by decide +kernel
theorem d_prog_67_method_4_code_65 : decode prog_67_method_4_code 65 = .ok (.lsub, 1) := by decide +kernel
theorem d_prog_67_method_4_code_66 : decode prog_67_method_4_code 66 = .ok (.land, 1) := by decide +kernel
theorem d_prog_67_method_4_code_67 : decode prog_67_method_4_code 67 = .ok (.lstore 5, 2) := by decide +kernel
theorem d_prog_67_method_4_code_69 : decode prog_67_method_4_code 69 = .ok (.aload_n 0, 1) := by decide +kernel
theorem d_prog_67_method_4_code_7 : decode prog_67_method_4_code 7 = .ok (.iload 4, 2) := by decide +kernel
theorem d_prog_67_method_4_code_70 : decode prog_67_method_4_code 70 = .ok (.getfield 34, 3) := by decide +kernel
theorem d_prog_67_method_4_code_73 : decode prog_67_method_4_code 73 = .ok (.iload 7, 2) := by decide +kernel
theorem d_prog_67_method_4_code_75 : decode prog_67_method_4_code 75 = .ok (.laload, 1) := by decide +kernel
theorem d_prog_67_method_4_code_76 : decode prog_67_method_4_code 76 = .ok (.aload_n 2, 1) := by decide +kernel
theorem d_prog_67_method_4_code_77 : decode prog_67_method_4_code 77 = .ok (.getfield 71, 3) := by decide +kernel
theorem d_prog_67_method_4_code_80 : decode prog_67_method_4_code 80 = .ok (.lcmp, 1) := by decide +kernel
theorem d_prog_67_method_4_code_81 : decode prog_67_method_4_code 81 = .ok (.ifCond .gt 19, 3) := by decide +kernel
theorem d_prog_67_method_4_code_84 : decode prog_67_method_4_code 84 = .ok (.aload_n 0, 1) := by decide +kernel
theorem d_prog_67_method_4_code_85 : decode prog_67_method_4_code 85 = .ok (.iload_n 3, 1) := by decide +kernel
theorem d_prog_67_method_4_code_86 : decode prog_67_method_4_code 86 = .ok (.invokevirtual 48, 3) := by decide +kernel
theorem d_prog_67_method_4_code_89 : decode prog_67_method_4_code 89 = .ok (.iload 4, 2) := by decide +kernel
theorem d_prog_67_method_4_code_9 : decode prog_67_method_4_code 9 = .ok (.aload_n 2, 1) := by decide +kernel
theorem d_prog_67_method_4_code_91 : decode prog_67_method_4_code 91 = .ok (.dup2, 1) := by decide +kernel
theorem d_prog_67_method_4_code_92 : decode prog_67_method_4_code 92 = .ok (.laload, 1) := by decide +kernel
theorem d_prog_67_method_4_code_93 : decode prog_67_method_4_code 93 = .ok (.iload 7, 2) := by decide +kernel
theorem d_prog_67_method_4_code_95 : decode prog_67_method_4_code 95 = .ok (.invokestatic 56, 3) := by decide +kernel
theorem d_prog_67_method_4_code_98 : decode prog_67_method_4_code 98 = .ok (.lor, 1) := by decide +kernel
theorem d_prog_67_method_4_code_99 : decode prog_67_method_4_code 99 = .ok (.lastore, 1) := by decide +kernel
def Q_own_rc1 (Z : State) (r : Addr) (N : Nat) (wd : Nat) (A : (Nat → Addr)) (K : (Nat → ClassId)) (rows : (Nat → Addr)) (rc : (Nat → Nat → Int64)) (ls : (Nat → Value)) (pr : (Nat → Value)) (wt : (Nat → Int64)) (ra : (Nat → Int64)) (ea : (Nat → Int64)) (st : Int64) (n0 : Nat) (q : Nat) (x : Int32) (kn : Addr) (aq : Nat) (kp : Addr) (kkp : ClassId) (sv : Int64) (h0 : Heap) (v : Option Value) (h : Heap) (L : List Loc) : Prop := v = none ∧ Fr Z.heap.size L ∧ Keep h0 h (own_ws r N A rows) ∧ (own_I Z h r N wd A K rows (own_upd rc q (own_one aq)) ls pr wt ra ea st)
set_option maxRecDepth 65536 in
set_option maxHeartbeats 40000000 in
theorem own_rc1 (l : Launch) (Z : State) (a0 : Array Value) (hw : ∀ d ∈ tables_1, d.before a0 Z = true) (ws : List Jvm.Cond) (r : Addr) (N : Nat) (wd : Nat) (A : (Nat → Addr)) (K : (Nat → ClassId)) (rows : (Nat → Addr)) (rc : (Nat → Nat → Int64)) (ls : (Nat → Value)) (pr : (Nat → Value)) (wt : (Nat → Int64)) (ra : (Nat → Int64)) (ea : (Nat → Int64)) (st : Int64) (n0 : Nat) (q : Nat) (x : Int32) (kn : Addr) (aq : Nat) (kp : Addr) (kkp : ClassId) (sv : Int64) (h0 : Heap) (O0 : Ext Z.heap h0) (II : own_I Z h0 r N wd A K rows rc ls pr wt ra ea st) (DD : own_D n0 r N A rows) (hn0 : Z.heap.size ≤ n0) (hN : N ≤ 129) (hwd : wd ≤ 3) (hNw : ∀ i, i < N → i / 64 < wd) (OA0 : OvrA Z (K 0) .long "[J") (OA1 : Ovr Z (K 1) own_s0) (OA2 : OvrA Z (K 2) .long "[J") (hq : x.toInt = (q : Int) + 1) (hqN : q < N) (haN : aq < N) (q12 : Fld Z h0 kn own_s0 "follows" "[J" (.ref kp)) (q13 : Fld Z h0 kn own_s0 "stamp" "J" (.long sv)) (q14 : own_A Z h0 kp kkp .long ((List.range wd).map fun i_z => Value.long ((own_one aq) i_z))) (hz : ∀ j, rc q j = 0) (hls : ls q = .null) (kno : kn ∉ own_ws r N A rows) (nkp : kp ≠ rows q) (hsv : ¬ (sv < (ra aq))) :
    MetFree l own_m9 (head1 (Jvm.Cond.code own_m9 prog_67_method_4_code 8 none :: ws) ({ frames := 2, cells := 0, slots := 0, locals := 30 } : Room)) (fun aa U => aa = #[(.ref r), (.int x), (.ref kn)] ∧ Z.Warmed39 U.vm ∧ U.heap = h0) (fun _ _ _ _ _ => True) (fun _ U o U' => ∃ v L, o = .returned v ∧ Q_own_rc1 Z r N wd A K rows rc ls pr wt ra ea st n0 q x kn aq kp kkp sv h0 v U'.heap L ∧ FrameEnd U o U' L ({ frames := 2, cells := 0, slots := 0, locals := 30 } : Room).cells ({ frames := 2, cells := 0, slots := 0, locals := 30 } : Room).slots) := by
  refine MetFree.of_bodySF pf_own_rc1 hisR ?_
  intro p e s m args below meth c s₁ Bd hml0 hP hK
  obtain ⟨rfl, hZ, hh⟩ := hP
  have hx := Bd.exec
  have hby := Bd.bytes
  have hlk := BodyLoose.notSynchronized Bd
  have hml : c.maxLocals = 8 := hml0
  have hown : s.vm.findClass own_s1 = some m.cls := findClass_of_methodNamed Bd.named
  have hnm := (name_of_methodNamed Bd.named Bd.method).1
  have X0 : Stand p l e ({ frames := 2, cells := 0, slots := 0, locals := 30 } : Room) s m #[(.ref r), (.int x), (.ref kn)] below meth c s₁ [] 0 0 := Stand.of_body Bd
  have e0 : s₁.heap = h0 := by rw [← hh, Bd.state]; rfl
  have N0 := Fr.nil Z.heap.size
  have K0 : Keep h0 h0 (own_ws r N A rows) := Keep.refl _ _
  refine own_start (Q := Q_own_rc1 Z r N wd A K rows rc ls pr wt ra ea st n0 q x kn aq kp kkp sv h0) (ef_own_rc1 m (r) (x) (kn)) ?_
  show own_G p e below (s₁.setTop (mkF m 0 #[.val (.ref r), .val (.int x), .val (.ref kn), .unset, .unset, .unset, .unset, .unset] [])) _
  refine own_go (fun t k => XS.iloadN X0.here hx rfl (hb hby d_prog_67_method_4_code_0) rfl k) ?_
  refine own_go (fun t k => XS.iconst X0.here hx rfl (hb hby d_prog_67_method_4_code_1) k) ?_
  refine own_go (fun t k => XS.isub X0.here hx rfl (hb hby d_prog_67_method_4_code_2) rfl k) ?_
  refine own_go (fun t k => XS.istoreN X0.here hx rfl (hb hby d_prog_67_method_4_code_3) rfl (l' := #[.val (.ref r), .val (.int x), .val (.ref kn), .val (.int (x - (1 : Int32))), .unset, .unset, .unset, .unset]) rfl k) ?_
  show own_G p e below (s₁.setTop (mkF m 4 #[.val (.ref r), .val (.int x), .val (.ref kn), .val (.int (x - (1 : Int32))), .unset, .unset, .unset, .unset] [])) _
  refine own_go (fun t k => XS.iconst X0.here hx rfl (hb hby d_prog_67_method_4_code_4) k) ?_
  refine own_go (fun t k => XS.istore X0.here hx rfl (hb hby d_prog_67_method_4_code_5) rfl (l' := #[.val (.ref r), .val (.int x), .val (.ref kn), .val (.int (x - (1 : Int32))), .val (.int (0 : Int32)), .unset, .unset, .unset]) rfl k) ?_
  have LK0 : own_L Z h0 kp kkp wd (own_one aq) := q14
  have loop1 : ∀ (n j : Nat) (xj : Int32) (T : State) (h : Heap) (locs : List Loc) (g : Nat → Nat → Int64) (bw : Int64) (u7 : Slot), j + n = wd → xj.toInt = (j : Int) → Stand p l e ({ frames := 2, cells := 0, slots := 0, locals := 30 } : Room) s m #[(.ref r), (.int x), (.ref kn)] below meth c T locs 0 0 → T.heap = h → Fr Z.heap.size locs → Ext Z.heap h → Keep h0 h (own_ws r N A rows) → own_I Z h r N wd A K rows g ls pr wt ra ea st → g = (if aq / 64 < j then own_upd rc q (own_one aq) else rc) → (j ≤ aq / 64 → u7 = .unset) → own_L Z h kp kkp wd (own_one aq) → own_G p e below (T.setTop (mkF m 7 #[.val (.ref r), .val (.int x), .val (.ref kn), .val (.int (x - (1 : Int32))), .val (.int xj), .val (.long bw), .second, u7] [])) (own_P s below ({ frames := 2, cells := 0, slots := 0, locals := 30 } : Room).cells ({ frames := 2, cells := 0, slots := 0, locals := 30 } : Room).slots (Q_own_rc1 Z r N wd A K rows rc ls pr wt ra ea st n0 q x kn aq kp kkp sv h0)) := by
    intro n
    induction n with
    | zero =>
      intro j xj T h locs g bw u7 hi hxi X eL NL OL KL IL hg hu LK
      obtain rfl : wd = j := by omega
      show own_G p e below (T.setTop (mkF m 7 #[.val (.ref r), .val (.int x), .val (.ref kn), .val (.int (x - (1 : Int32))), .val (.int xj), .val (.long bw), .second, u7] [])) _
      refine own_go (fun t k => XS.iload X.here hx rfl (hb hby d_prog_67_method_4_code_7) rfl k) ?_
      refine own_go (fun t k => XS.aloadN X.here hx rfl (hb hby d_prog_67_method_4_code_9) rfl rfl k) ?_
      refine own_go (own_getR X hx hZ hown (own_hw hw 72 rfl) Via.refl eL (q12.keep KL kno) (g := (mkF m 10 #[.val (.ref r), .val (.int x), .val (.ref kn), .val (.int (x - (1 : Int32))), .val (.int xj), .val (.long bw), .second, u7] [(.ref kn), (.int xj)])) rfl rfl (hb hby d_prog_67_method_4_code_10)) ?_
      show own_G p e below (T.setTop (mkF m 13 #[.val (.ref r), .val (.int x), .val (.ref kn), .val (.int (x - (1 : Int32))), .val (.int xj), .val (.long bw), .second, u7] [(.ref kp), (.int xj)])) _
      refine own_go (own_len X hx hZ eL LK (z := (Int32.ofNat wd)) (by rw [own_rlen]; exact own_ofN (by omega)) (g := (mkF m 13 #[.val (.ref r), .val (.int x), .val (.ref kn), .val (.int (x - (1 : Int32))), .val (.int xj), .val (.long bw), .second, u7] [(.ref kp), (.int xj)])) rfl rfl (hb hby d_prog_67_method_4_code_13)) ?_
      refine own_go (fun t k => XS.icmpYes X.here hx rfl (pc0 := 14) (pc' := 109) rfl (hb hby d_prog_67_method_4_code_14) rfl (flt (fun q => absurd ((own_ltN hxi (by omega)).mp q) (by omega))).2.1 (by decide) (by decide) k) ?_
      show own_G p e below (T.setTop (mkF m 109 #[.val (.ref r), .val (.int x), .val (.ref kn), .val (.int (x - (1 : Int32))), .val (.int xj), .val (.long bw), .second, u7] [])) _
      exact own_retV X hx Bd.returns (hb hby d_prog_67_method_4_code_109) hlk (Nat.le_of_ble_eq_true rfl) (Nat.le_of_ble_eq_true rfl) (by show Q_own_rc1 Z r N wd A K rows rc ls pr wt ra ea st n0 q x kn aq kp kkp sv h0 _ T.heap _; rw [eL]; exact ⟨rfl, NL, KL, (by have t := IL; rw [hg, if_pos (hNw aq haN)] at t; exact t)⟩)
    | succ n ih =>
      intro j xj T h locs g bw u7 hi hxi X eL NL OL KL IL hg hu LK
      have hjw : j < wd := by omega
      show own_G p e below (T.setTop (mkF m 7 #[.val (.ref r), .val (.int x), .val (.ref kn), .val (.int (x - (1 : Int32))), .val (.int xj), .val (.long bw), .second, u7] [])) _
      refine own_go (fun t k => XS.iload X.here hx rfl (hb hby d_prog_67_method_4_code_7) rfl k) ?_
      refine own_go (fun t k => XS.aloadN X.here hx rfl (hb hby d_prog_67_method_4_code_9) rfl rfl k) ?_
      refine own_go (own_getR X hx hZ hown (own_hw hw 72 rfl) Via.refl eL (q12.keep KL kno) (g := (mkF m 10 #[.val (.ref r), .val (.int x), .val (.ref kn), .val (.int (x - (1 : Int32))), .val (.int xj), .val (.long bw), .second, u7] [(.ref kn), (.int xj)])) rfl rfl (hb hby d_prog_67_method_4_code_10)) ?_
      show own_G p e below (T.setTop (mkF m 13 #[.val (.ref r), .val (.int x), .val (.ref kn), .val (.int (x - (1 : Int32))), .val (.int xj), .val (.long bw), .second, u7] [(.ref kp), (.int xj)])) _
      refine own_go (own_len X hx hZ eL LK (z := (Int32.ofNat wd)) (by rw [own_rlen]; exact own_ofN (by omega)) (g := (mkF m 13 #[.val (.ref r), .val (.int x), .val (.ref kn), .val (.int (x - (1 : Int32))), .val (.int xj), .val (.long bw), .second, u7] [(.ref kp), (.int xj)])) rfl rfl (hb hby d_prog_67_method_4_code_13)) ?_
      refine own_go (fun t k => XS.icmpNo X.here hx rfl (hb hby d_prog_67_method_4_code_14) rfl (tlt ((own_ltN hxi (by omega)).mpr hjw)).2.1 k) ?_
      show own_G p e below (T.setTop (mkF m 17 #[.val (.ref r), .val (.int x), .val (.ref kn), .val (.int (x - (1 : Int32))), .val (.int xj), .val (.long bw), .second, u7] [])) _
      refine own_go (fun t k => XS.aloadN X.here hx rfl (hb hby d_prog_67_method_4_code_17) rfl rfl k) ?_
      refine own_go (own_getR X hx hZ hown (own_hw hw 72 rfl) Via.refl eL (q12.keep KL kno) (g := (mkF m 18 #[.val (.ref r), .val (.int x), .val (.ref kn), .val (.int (x - (1 : Int32))), .val (.int xj), .val (.long bw), .second, u7] [(.ref kn)])) rfl rfl (hb hby d_prog_67_method_4_code_18)) ?_
      show own_G p e below (T.setTop (mkF m 21 #[.val (.ref r), .val (.int x), .val (.ref kn), .val (.int (x - (1 : Int32))), .val (.int xj), .val (.long bw), .second, u7] [(.ref kp)])) _
      refine own_go (fun t k => XS.iload X.here hx rfl (hb hby d_prog_67_method_4_code_21) rfl k) ?_
      refine own_go (own_ldJ X hx hZ eL LK (i := j) (v := (.long ((own_one aq) j))) hxi (own_rget _ hjw) (g := (mkF m 23 #[.val (.ref r), .val (.int x), .val (.ref kn), .val (.int (x - (1 : Int32))), .val (.int xj), .val (.long bw), .second, u7] [(.int xj), (.ref kp)])) rfl rfl (hb hby d_prog_67_method_4_code_23)) ?_
      refine own_go (fun t k => XS.aloadN X.here hx rfl (hb hby d_prog_67_method_4_code_24) rfl rfl k) ?_
      obtain ⟨T4z, X4z, e4z, st4z⟩ := getF X hx hZ hown (host := "") (Or.inl (own_hw hw 15 rfl)) Via.refl eL IL.2.2.1 (g := (mkF m 25 #[.val (.ref r), .val (.int x), .val (.ref kn), .val (.int (x - (1 : Int32))), .val (.int xj), .val (.long bw), .second, u7] [(.ref r), (.long ((own_one aq) j))])) rfl rfl (hb hby d_prog_67_method_4_code_25)
      refine own_go st4z ?_
      show own_G p e below (T4z.setTop (mkF m 28 #[.val (.ref r), .val (.int x), .val (.ref kn), .val (.int (x - (1 : Int32))), .val (.int xj), .val (.long bw), .second, u7] [(.ref (A 0)), (.long ((own_one aq) j))])) _
      refine own_go (fun t k => XS.iloadN X4z.here hx rfl (hb hby d_prog_67_method_4_code_28) rfl k) ?_
      refine own_go (own_ldA X4z hx hZ e4z IL.2.2.2.2.2.2.2.2.2.1 rfl (i := q) (v := (.ref (rows q))) (own_sub1 hq hqN hN) (own_rget (fun i => Value.ref (rows i)) hqN) (g := (mkF m 29 #[.val (.ref r), .val (.int x), .val (.ref kn), .val (.int (x - (1 : Int32))), .val (.int xj), .val (.long bw), .second, u7] [(.int (x - (1 : Int32))), (.ref (A 0)), (.long ((own_one aq) j))])) rfl rfl (hb hby d_prog_67_method_4_code_29)) ?_
      refine own_go (fun t k => XS.iload X4z.here hx rfl (hb hby d_prog_67_method_4_code_30) rfl k) ?_
      refine own_go (own_ldJ X4z hx hZ e4z (IL.2.2.2.2.2.2.2.2.2.2.2.2.2.2.2 q hqN).1 (i := j) (v := (.long ((g q) j))) hxi (own_rget _ hjw) (g := (mkF m 32 #[.val (.ref r), .val (.int x), .val (.ref kn), .val (.int (x - (1 : Int32))), .val (.int xj), .val (.long bw), .second, u7] [(.int xj), (.ref (rows q)), (.long ((own_one aq) j))])) rfl rfl (hb hby d_prog_67_method_4_code_32)) ?_
      show own_G p e below (T4z.setTop (mkF m 33 #[.val (.ref r), .val (.int x), .val (.ref kn), .val (.int (x - (1 : Int32))), .val (.int xj), .val (.long bw), .second, u7] [(.long ((g q) j)), (.long ((own_one aq) j))])) _
      refine own_go (fun t k => X4z.ldc2J hx hown (mvT hZ (own_hw hw 73 rfl)) rfl (hb hby d_prog_67_method_4_code_33) k) ?_
      refine own_go (fun t k => XS.lxor X4z.here hx rfl (hb hby d_prog_67_method_4_code_36) rfl k) ?_
      refine own_go (fun t k => XS.land X4z.here hx rfl (hb hby d_prog_67_method_4_code_37) rfl k) ?_
      show own_G p e below (T4z.setTop (mkF m 38 #[.val (.ref r), .val (.int x), .val (.ref kn), .val (.int (x - (1 : Int32))), .val (.int xj), .val (.long bw), .second, u7] [(.long (((own_one aq) j) &&& (((g q) j) ^^^ (-1 : Int64))))])) _
      by_cases ej5z : j = aq / 64
      · rw [own_bits1 ej5z (own_rz hz hg ej5z)]
        obtain rfl := hu (by omega)
        show own_G p e below (T4z.setTop (mkF m 38 #[.val (.ref r), .val (.int x), .val (.ref kn), .val (.int (x - (1 : Int32))), .val (.int xj), .val (.long bw), .second, .unset] [(.long (own_B aq))])) _
        refine own_go (fun t k => XS.lstore X4z.here hx rfl (hb hby d_prog_67_method_4_code_38) rfl (l' := #[.val (.ref r), .val (.int x), .val (.ref kn), .val (.int (x - (1 : Int32))), .val (.int xj), .val (.long (own_B aq)), .second, .unset]) rfl k) ?_
        refine own_go (fun t k => XS.lload X4z.here hx rfl (hb hby d_prog_67_method_4_code_40) rfl k) ?_
        refine own_go (fun t k => XS.lconst X4z.here hx rfl (hb hby d_prog_67_method_4_code_42) k) ?_
        refine own_go (fun t k => XS.lcmp X4z.here hx rfl (hb hby d_prog_67_method_4_code_43) rfl k) ?_
        show own_G p e below (T4z.setTop (mkF m 44 #[.val (.ref r), .val (.int x), .val (.ref kn), .val (.int (x - (1 : Int32))), .val (.int xj), .val (.long (own_B aq)), .second, .unset] [(.int (lcmpW (own_B aq) (0 : Int64)))])) _
        refine own_go (fun t k => XS.ifNo X4z.here hx rfl (hb hby d_prog_67_method_4_code_44) rfl ((if0 _ _).trans (feq (fun q_z => (own_B_ne aq) ((lw_eq (own_B aq) (0 : Int64)).mp q_z))).1) k) ?_
        show own_G p e below (T4z.setTop (mkF m 47 #[.val (.ref r), .val (.int x), .val (.ref kn), .val (.int (x - (1 : Int32))), .val (.int xj), .val (.long (own_B aq)), .second, .unset] [])) _
        refine own_go (fun t k => XS.iload X4z.here hx rfl (hb hby d_prog_67_method_4_code_47) rfl k) ?_
        refine own_go (fun t k => XS.bipush X4z.here hx rfl (hb hby d_prog_67_method_4_code_49) k) ?_
        refine own_go (fun t k => XS.imul X4z.here hx rfl (hb hby d_prog_67_method_4_code_51) rfl k) ?_
        refine own_go (fun t k => XS.lload X4z.here hx rfl (hb hby d_prog_67_method_4_code_52) rfl k) ?_
        show own_G p e below (T4z.setTop (mkF m 54 #[.val (.ref r), .val (.int x), .val (.ref kn), .val (.int (x - (1 : Int32))), .val (.int xj), .val (.long (own_B aq)), .second, .unset] [(.long (own_B aq)), (.int (xj * (64 : Int32)))])) _
        obtain ⟨_, _, ⟨T6z, L6z, k6z, n6z⟩, -, X6z, ⟨Lc6z, hQ6z, l6z, y6z, z6z⟩, st6z⟩ := Jvm.LawKit.callS X4z hx (y := own_m5) hown (own_mw hZ hw 74 rfl) (own_mw hZ hw 75 rfl) (own_mw hZ hw 76 rfl) (own_mw hZ hw 77 rfl) (by decide) (backOf (W := 1) (own_nzl l Z a0 hw [] (own_B aq) h OL) hZ (own_hw hw 77 rfl) (own_hw hw 76 rfl) (by decide) (by decide)) (g := (mkF m 54 #[.val (.ref r), .val (.int x), .val (.ref kn), .val (.int (x - (1 : Int32))), .val (.int xj), .val (.long (own_B aq)), .second, .unset] [(.long (own_B aq)), (.int (xj * (64 : Int32)))])) rfl (by rw [hml]; rfl) (argsL := [(.long (own_B aq))]) (rest := [(.int (xj * (64 : Int32)))]) (lenOf pd_2087993097 rfl) rfl (by show 2 * 0 + _ ≤ _; exact Nat.le_of_eq rfl) (hb hby d_prog_67_method_4_code_54) (fun _ _ => ⟨rfl, e4z, (by decide : 0 + 0 ≤ _), (by decide : 0 + 0 ≤ _)⟩)
        dsimp only [Pt.U, Pt.locs, Pt.cells, Pt.slots] at X6z l6z y6z z6z st6z hQ6z
        subst l6z y6z z6z
        obtain ⟨rfl, NQ6z, K6zq⟩ := hQ6z
        refine own_go st6z ?_
        have N6z := Fr.app NL NQ6z
        show own_G p e below (T6z.setTop (mkF m 57 #[.val (.ref r), .val (.int x), .val (.ref kn), .val (.int (x - (1 : Int32))), .val (.int xj), .val (.long (own_B aq)), .second, .unset] [(.int (own_ntzL (own_B aq))), (.int (xj * (64 : Int32)))])) _
        refine own_go (fun t k => XS.iadd X6z.here hx rfl (hb hby d_prog_67_method_4_code_57) rfl k) ?_
        refine own_go (fun t k => XS.istore X6z.here hx rfl (hb hby d_prog_67_method_4_code_58) rfl (l' := #[.val (.ref r), .val (.int x), .val (.ref kn), .val (.int (x - (1 : Int32))), .val (.int xj), .val (.long (own_B aq)), .second, .val (.int ((xj * (64 : Int32)) + (own_ntzL (own_B aq))))]) rfl k) ?_
        refine own_go (fun t k => XS.lload X6z.here hx rfl (hb hby d_prog_67_method_4_code_60) rfl k) ?_
        refine own_go (fun t k => XS.lload X6z.here hx rfl (hb hby d_prog_67_method_4_code_62) rfl k) ?_
        show own_G p e below (T6z.setTop (mkF m 64 #[.val (.ref r), .val (.int x), .val (.ref kn), .val (.int (x - (1 : Int32))), .val (.int xj), .val (.long (own_B aq)), .second, .val (.int ((xj * (64 : Int32)) + (own_ntzL (own_B aq))))] [(.long (own_B aq)), (.long (own_B aq))])) _
        refine own_go (fun t k => XS.lconst X6z.here hx rfl (hb hby d_prog_67_method_4_code_64) k) ?_
        refine own_go (fun t k => XS.lsub X6z.here hx rfl (hb hby d_prog_67_method_4_code_65) rfl k) ?_
        refine own_go (fun t k => XS.land X6z.here hx rfl (hb hby d_prog_67_method_4_code_66) rfl k) ?_
        refine own_go (fun t k => XS.lstore X6z.here hx rfl (hb hby d_prog_67_method_4_code_67) rfl (l' := #[.val (.ref r), .val (.int x), .val (.ref kn), .val (.int (x - (1 : Int32))), .val (.int xj), .val (.long ((own_B aq) &&& ((own_B aq) - (1 : Int64)))), .second, .val (.int ((xj * (64 : Int32)) + (own_ntzL (own_B aq))))]) rfl k) ?_
        show own_G p e below (T6z.setTop (mkF m 69 #[.val (.ref r), .val (.int x), .val (.ref kn), .val (.int (x - (1 : Int32))), .val (.int xj), .val (.long ((own_B aq) &&& ((own_B aq) - (1 : Int64)))), .second, .val (.int ((xj * (64 : Int32)) + (own_ntzL (own_B aq))))] [])) _
        refine own_go (fun t k => XS.aloadN X6z.here hx rfl (hb hby d_prog_67_method_4_code_69) rfl rfl k) ?_
        obtain ⟨T7z, X7z, e7z, st7z⟩ := getF X6z hx hZ hown (host := "") (Or.inl (own_hw hw 26 rfl)) Via.refl K6zq IL.2.2.2.2.2.2.1 (g := (mkF m 70 #[.val (.ref r), .val (.int x), .val (.ref kn), .val (.int (x - (1 : Int32))), .val (.int xj), .val (.long ((own_B aq) &&& ((own_B aq) - (1 : Int64)))), .second, .val (.int ((xj * (64 : Int32)) + (own_ntzL (own_B aq))))] [(.ref r)])) rfl rfl (hb hby d_prog_67_method_4_code_70)
        refine own_go st7z ?_
        refine own_go (fun t k => XS.iload X7z.here hx rfl (hb hby d_prog_67_method_4_code_73) rfl k) ?_
        refine own_go (own_ldJ X7z hx hZ e7z IL.2.2.2.2.2.2.2.2.2.2.2.2.2.1 (i := aq) (v := (.long (ra aq))) (own_other hxi ej5z (by omega)) (own_rget _ haN) (g := (mkF m 75 #[.val (.ref r), .val (.int x), .val (.ref kn), .val (.int (x - (1 : Int32))), .val (.int xj), .val (.long ((own_B aq) &&& ((own_B aq) - (1 : Int64)))), .second, .val (.int ((xj * (64 : Int32)) + (own_ntzL (own_B aq))))] [(.int ((xj * (64 : Int32)) + (own_ntzL (own_B aq)))), (.ref (A 4))])) rfl rfl (hb hby d_prog_67_method_4_code_75)) ?_
        show own_G p e below (T7z.setTop (mkF m 76 #[.val (.ref r), .val (.int x), .val (.ref kn), .val (.int (x - (1 : Int32))), .val (.int xj), .val (.long ((own_B aq) &&& ((own_B aq) - (1 : Int64)))), .second, .val (.int ((xj * (64 : Int32)) + (own_ntzL (own_B aq))))] [(.long (ra aq))])) _
        refine own_go (fun t k => XS.aloadN X7z.here hx rfl (hb hby d_prog_67_method_4_code_76) rfl rfl k) ?_
        refine own_go (own_getR X7z hx hZ hown (own_hw hw 83 rfl) Via.refl e7z (q13.keep KL kno) (g := (mkF m 77 #[.val (.ref r), .val (.int x), .val (.ref kn), .val (.int (x - (1 : Int32))), .val (.int xj), .val (.long ((own_B aq) &&& ((own_B aq) - (1 : Int64)))), .second, .val (.int ((xj * (64 : Int32)) + (own_ntzL (own_B aq))))] [(.ref kn), (.long (ra aq))])) rfl rfl (hb hby d_prog_67_method_4_code_77)) ?_
        show own_G p e below (T7z.setTop (mkF m 80 #[.val (.ref r), .val (.int x), .val (.ref kn), .val (.int (x - (1 : Int32))), .val (.int xj), .val (.long ((own_B aq) &&& ((own_B aq) - (1 : Int64)))), .second, .val (.int ((xj * (64 : Int32)) + (own_ntzL (own_B aq))))] [(.long sv), (.long (ra aq))])) _
        refine own_go (fun t k => XS.lcmp X7z.here hx rfl (hb hby d_prog_67_method_4_code_80) rfl k) ?_
        refine own_go (fun t k => XS.ifNo X7z.here hx rfl (hb hby d_prog_67_method_4_code_81) rfl ((if0 _ _).trans (flt (fun q_z => hsv ((lw_gt (ra aq) sv).mp q_z))).2.2.1) k) ?_
        show own_G p e below (T7z.setTop (mkF m 84 #[.val (.ref r), .val (.int x), .val (.ref kn), .val (.int (x - (1 : Int32))), .val (.int xj), .val (.long ((own_B aq) &&& ((own_B aq) - (1 : Int64)))), .second, .val (.int ((xj * (64 : Int32)) + (own_ntzL (own_B aq))))] [])) _
        refine own_go (fun t k => XS.aloadN X7z.here hx rfl (hb hby d_prog_67_method_4_code_84) rfl rfl k) ?_
        refine own_go (fun t k => XS.iloadN X7z.here hx rfl (hb hby d_prog_67_method_4_code_85) rfl k) ?_
        obtain ⟨cq9z, qa9z, qb9z⟩ := IL.1.cell
        obtain ⟨_, _, ⟨T9z, L9z, k9z, n9z⟩, -, X9z, ⟨Lc9z, hQ9z, l9z, y9z, z9z⟩, st9z⟩ := X7z.privateBack hx (y := own_m6) hown (own_mw hZ hw 47 rfl) (own_mw hZ hw 48 rfl) (own_selfPriv (mvT (args := #[]) hZ (own_hw hw 2 rfl)) (Cond.privateMethod_at (mvP hZ (own_hw hw 49 rfl) (args := #[]))) (own_mw hZ hw 48 rfl) (by decide)) (Cond.privateMethod_at (mvP hZ (own_hw hw 49 rfl) (args := #[]))) (own_mw hZ hw 50 rfl) (by decide) (backOf (W := 0) (own_wr0 l Z a0 hw [] r N wd A K rows g ls pr wt ra ea st n0 q (x - (1 : Int32)) h OL IL DD hn0 hN hwd hNw OA0 OA1 OA2 (own_sub1 hq hqN hN) hqN hls) hZ (own_hw hw 50 rfl) (own_hw hw 3 rfl) (by decide) (by decide)) (g := (mkF m 86 #[.val (.ref r), .val (.int x), .val (.ref kn), .val (.int (x - (1 : Int32))), .val (.int xj), .val (.long ((own_B aq) &&& ((own_B aq) - (1 : Int64)))), .second, .val (.int ((xj * (64 : Int32)) + (own_ntzL (own_B aq))))] [(.int (x - (1 : Int32))), (.ref r)])) rfl (by rw [hml]; rfl) (Steps.refl _) (a := r) (by rw [e7z]; exact qa9z) qb9z (argsL := [(.int (x - (1 : Int32)))]) (rest := []) (lenOf pd_184260196 rfl) rfl (by show 2 * 0 + _ ≤ _; exact Nat.le_of_eq rfl) (hb hby d_prog_67_method_4_code_86) (fun _ _ => ⟨rfl, e7z, (by decide : 0 + 0 ≤ _), (by decide : 0 + 0 ≤ _)⟩)
        dsimp only [Pt.U, Pt.locs, Pt.cells, Pt.slots] at X9z l9z y9z z9z st9z hQ9z
        subst l9z y9z z9z
        obtain ⟨rfl, NQ9z, K9zq⟩ := hQ9z
        refine own_tr st9z ?_
        have N9z := Fr.app N6z NQ9z
        show own_G p e below (T9z.setTop (mkF m 89 #[.val (.ref r), .val (.int x), .val (.ref kn), .val (.int (x - (1 : Int32))), .val (.int xj), .val (.long ((own_B aq) &&& ((own_B aq) - (1 : Int64)))), .second, .val (.int ((xj * (64 : Int32)) + (own_ntzL (own_B aq))))] [(.ref (rows q))])) _
        refine own_go (fun t k => XS.iload X9z.here hx rfl (hb hby d_prog_67_method_4_code_89) rfl k) ?_
        refine own_go (fun t k => own_dup2 X9z.here hx rfl (hb hby d_prog_67_method_4_code_91) rfl rfl rfl k) ?_
        refine own_go (own_ldJ X9z hx hZ K9zq (IL.2.2.2.2.2.2.2.2.2.2.2.2.2.2.2 q hqN).1 (i := j) (v := (.long ((g q) j))) hxi (own_rget _ hjw) (g := (mkF m 92 #[.val (.ref r), .val (.int x), .val (.ref kn), .val (.int (x - (1 : Int32))), .val (.int xj), .val (.long ((own_B aq) &&& ((own_B aq) - (1 : Int64)))), .second, .val (.int ((xj * (64 : Int32)) + (own_ntzL (own_B aq))))] [(.int xj), (.ref (rows q)), (.int xj), (.ref (rows q))])) rfl rfl (hb hby d_prog_67_method_4_code_92)) ?_
        refine own_go (fun t k => XS.iload X9z.here hx rfl (hb hby d_prog_67_method_4_code_93) rfl k) ?_
        show own_G p e below (T9z.setTop (mkF m 95 #[.val (.ref r), .val (.int x), .val (.ref kn), .val (.int (x - (1 : Int32))), .val (.int xj), .val (.long ((own_B aq) &&& ((own_B aq) - (1 : Int64)))), .second, .val (.int ((xj * (64 : Int32)) + (own_ntzL (own_B aq))))] [(.int ((xj * (64 : Int32)) + (own_ntzL (own_B aq)))), (.long ((g q) j)), (.int xj), (.ref (rows q))])) _
        obtain ⟨_, _, ⟨T10z, L10z, k10z, n10z⟩, -, X10z, ⟨Lc10z, hQ10z, l10z, y10z, z10z⟩, st10z⟩ := Jvm.LawKit.callS X9z hx (y := own_m1) hown (own_mw hZ hw 43 rfl) (own_mw hZ hw 44 rfl) (own_mw hZ hw 3 rfl) (own_mw hZ hw 45 rfl) (by decide) (backOf (W := 4) (own_bitM l Z a0 hw [] ((xj * (64 : Int32)) + (own_ntzL (own_B aq))) aq h OL (own_other hxi ej5z (by omega))) hZ (own_hw hw 45 rfl) (own_hw hw 3 rfl) (by decide) (by decide)) (g := (mkF m 95 #[.val (.ref r), .val (.int x), .val (.ref kn), .val (.int (x - (1 : Int32))), .val (.int xj), .val (.long ((own_B aq) &&& ((own_B aq) - (1 : Int64)))), .second, .val (.int ((xj * (64 : Int32)) + (own_ntzL (own_B aq))))] [(.int ((xj * (64 : Int32)) + (own_ntzL (own_B aq)))), (.long ((g q) j)), (.int xj), (.ref (rows q))])) rfl (by rw [hml]; rfl) (argsL := [(.int ((xj * (64 : Int32)) + (own_ntzL (own_B aq))))]) (rest := [(.long ((g q) j)), (.int xj), (.ref (rows q))]) (lenOf pd_2087992009 rfl) rfl (by show 2 * 0 + _ ≤ _; exact Nat.le_of_eq rfl) (hb hby d_prog_67_method_4_code_95) (fun _ _ => ⟨rfl, K9zq, (by decide : 0 + 0 ≤ _), (by decide : 0 + 0 ≤ _)⟩)
        dsimp only [Pt.U, Pt.locs, Pt.cells, Pt.slots] at X10z l10z y10z z10z st10z hQ10z
        subst l10z y10z z10z
        obtain ⟨rfl, NQ10z, K10zq⟩ := hQ10z
        refine own_go st10z ?_
        have N10z := Fr.app N9z NQ10z
        show own_G p e below (T10z.setTop (mkF m 98 #[.val (.ref r), .val (.int x), .val (.ref kn), .val (.int (x - (1 : Int32))), .val (.int xj), .val (.long ((own_B aq) &&& ((own_B aq) - (1 : Int64)))), .second, .val (.int ((xj * (64 : Int32)) + (own_ntzL (own_B aq))))] [(.long (own_B aq)), (.long ((g q) j)), (.int xj), (.ref (rows q))])) _
        refine own_go (fun t k => XS.lor X10z.here hx rfl (hb hby d_prog_67_method_4_code_98) rfl k) ?_
        obtain ⟨T11z, h11z, X11z, e11z, W11z, V11z, st11z⟩ := own_stJ X10z hx hZ K10zq (IL.2.2.2.2.2.2.2.2.2.2.2.2.2.2.2 q hqN).1 (i := j) hxi (by rw [own_rlen]; exact hjw) (g := (mkF m 99 #[.val (.ref r), .val (.int x), .val (.ref kn), .val (.int (x - (1 : Int32))), .val (.int xj), .val (.long ((own_B aq) &&& ((own_B aq) - (1 : Int64)))), .second, .val (.int ((xj * (64 : Int32)) + (own_ntzL (own_B aq))))] [(.long (((g q) j) ||| (own_B aq))), (.int xj), (.ref (rows q))])) rfl rfl (hb hby d_prog_67_method_4_code_99)
        refine own_go st11z ?_
        have N11z := Fr.snoc X11z N10z (Nat.le_trans hn0 (DD.2.2.2.1 q hqN).1)
        have O12z := own_ext_wr OL W11z (Nat.le_trans hn0 (DD.2.2.2.1 q hqN).1)
        have K12z := KL.wr W11z (Or.inl (own_ws_row hqN))
        have I13z := own_I.wr hqN IL DD W11z (own_L.set V11z)
        have V11z : own_A Z h11z (rows q) (K 6) .long (((List.range wd).map fun i_z => Value.long ((g q) i_z)).set j (.long (((g q) j) ||| (own_B aq)))) := V11z
        refine own_go (fun t k => XS.goto X11z.here hx rfl (pc0 := 100) (pc' := 40) rfl (hb hby d_prog_67_method_4_code_100) (by decide) (by decide) k) ?_
        show own_G p e below (T11z.setTop (mkF m 40 #[.val (.ref r), .val (.int x), .val (.ref kn), .val (.int (x - (1 : Int32))), .val (.int xj), .val (.long ((own_B aq) &&& ((own_B aq) - (1 : Int64)))), .second, .val (.int ((xj * (64 : Int32)) + (own_ntzL (own_B aq))))] [])) _
        refine own_go (fun t k => XS.lload X11z.here hx rfl (hb hby d_prog_67_method_4_code_40) rfl k) ?_
        refine own_go (fun t k => XS.lconst X11z.here hx rfl (hb hby d_prog_67_method_4_code_42) k) ?_
        refine own_go (fun t k => XS.lcmp X11z.here hx rfl (hb hby d_prog_67_method_4_code_43) rfl k) ?_
        refine own_go (fun t k => XS.ifYes X11z.here hx rfl (pc0 := 44) (pc' := 103) rfl (hb hby d_prog_67_method_4_code_44) rfl ((if0 _ _).trans (teq ((lw_eq ((own_B aq) &&& ((own_B aq) - (1 : Int64))) (0 : Int64)).mpr (own_B_pred aq))).1) (by decide) (by decide) k) ?_
        show own_G p e below (T11z.setTop (mkF m 103 #[.val (.ref r), .val (.int x), .val (.ref kn), .val (.int (x - (1 : Int32))), .val (.int xj), .val (.long ((own_B aq) &&& ((own_B aq) - (1 : Int64)))), .second, .val (.int ((xj * (64 : Int32)) + (own_ntzL (own_B aq))))] [])) _
        refine own_go (fun t k => XS.iinc X11z.here hx rfl (hb hby d_prog_67_method_4_code_103) rfl (l' := #[.val (.ref r), .val (.int x), .val (.ref kn), .val (.int (x - (1 : Int32))), .val (.int (xj + (1 : Int32))), .val (.long ((own_B aq) &&& ((own_B aq) - (1 : Int64)))), .second, .val (.int ((xj * (64 : Int32)) + (own_ntzL (own_B aq))))]) rfl k) ?_
        refine own_go (fun t k => XS.goto X11z.here hx rfl (pc0 := 106) (pc' := 7) rfl (hb hby d_prog_67_method_4_code_106) (by decide) (by decide) k) ?_
        show own_G p e below (T11z.setTop (mkF m 7 #[.val (.ref r), .val (.int x), .val (.ref kn), .val (.int (x - (1 : Int32))), .val (.int (xj + (1 : Int32))), .val (.long ((own_B aq) &&& ((own_B aq) - (1 : Int64)))), .second, .val (.int ((xj * (64 : Int32)) + (own_ntzL (own_B aq))))] [])) _
        exact ih (j + 1) _ _ _ _ _ _ _ (by omega) (own_inc hxi hjw (by omega : wd ≤ 129)) X11z e11z N11z O12z K12z I13z (own_rcu1 (rc := rc) (g := g) hg hz ej5z) (fun q => absurd q (by omega)) (LK.other W11z nkp)
      · rw [own_bits0 ej5z]
        show own_G p e below (T4z.setTop (mkF m 38 #[.val (.ref r), .val (.int x), .val (.ref kn), .val (.int (x - (1 : Int32))), .val (.int xj), .val (.long bw), .second, u7] [(.long (0 : Int64))])) _
        refine own_go (fun t k => XS.lstore X4z.here hx rfl (hb hby d_prog_67_method_4_code_38) rfl (l' := #[.val (.ref r), .val (.int x), .val (.ref kn), .val (.int (x - (1 : Int32))), .val (.int xj), .val (.long (0 : Int64)), .second, u7]) rfl k) ?_
        refine own_go (fun t k => XS.lload X4z.here hx rfl (hb hby d_prog_67_method_4_code_40) rfl k) ?_
        refine own_go (fun t k => XS.lconst X4z.here hx rfl (hb hby d_prog_67_method_4_code_42) k) ?_
        refine own_go (fun t k => XS.lcmp X4z.here hx rfl (hb hby d_prog_67_method_4_code_43) rfl k) ?_
        show own_G p e below (T4z.setTop (mkF m 44 #[.val (.ref r), .val (.int x), .val (.ref kn), .val (.int (x - (1 : Int32))), .val (.int xj), .val (.long (0 : Int64)), .second, u7] [(.int (lcmpW (0 : Int64) (0 : Int64)))])) _
        refine own_go (fun t k => XS.ifYes X4z.here hx rfl (pc0 := 44) (pc' := 103) rfl (hb hby d_prog_67_method_4_code_44) rfl ((if0 _ _).trans (teq ((lw_eq (0 : Int64) (0 : Int64)).mpr (by decide : (0 : Int64) = (0 : Int64)))).1) (by decide) (by decide) k) ?_
        show own_G p e below (T4z.setTop (mkF m 103 #[.val (.ref r), .val (.int x), .val (.ref kn), .val (.int (x - (1 : Int32))), .val (.int xj), .val (.long (0 : Int64)), .second, u7] [])) _
        refine own_go (fun t k => XS.iinc X4z.here hx rfl (hb hby d_prog_67_method_4_code_103) rfl (l' := #[.val (.ref r), .val (.int x), .val (.ref kn), .val (.int (x - (1 : Int32))), .val (.int (xj + (1 : Int32))), .val (.long (0 : Int64)), .second, u7]) rfl k) ?_
        refine own_go (fun t k => XS.goto X4z.here hx rfl (pc0 := 106) (pc' := 7) rfl (hb hby d_prog_67_method_4_code_106) (by decide) (by decide) k) ?_
        show own_G p e below (T4z.setTop (mkF m 7 #[.val (.ref r), .val (.int x), .val (.ref kn), .val (.int (x - (1 : Int32))), .val (.int (xj + (1 : Int32))), .val (.long (0 : Int64)), .second, u7] [])) _
        exact ih (j + 1) _ _ _ _ _ _ _ (by omega) (own_inc hxi hjw (by omega : wd ≤ 129)) X4z e4z NL OL KL IL (own_rcu0 (rc := rc) (q := q) hg ej5z) (fun q => hu (by omega)) LK
  have hw0 : 0 < wd := Nat.lt_of_le_of_lt (Nat.zero_le _) (hNw q hqN)
  refine own_go (fun t k => XS.iload X0.here hx rfl (hb hby d_prog_67_method_4_code_7) rfl k) ?_
  refine own_go (fun t k => XS.aloadN X0.here hx rfl (hb hby d_prog_67_method_4_code_9) rfl rfl k) ?_
  show own_G p e below (s₁.setTop (mkF m 10 #[.val (.ref r), .val (.int x), .val (.ref kn), .val (.int (x - (1 : Int32))), .val (.int (0 : Int32)), .unset, .unset, .unset] [(.ref kn), (.int (0 : Int32))])) _
  refine own_go (own_getR X0 hx hZ hown (own_hw hw 72 rfl) Via.refl e0 q12 (g := (mkF m 10 #[.val (.ref r), .val (.int x), .val (.ref kn), .val (.int (x - (1 : Int32))), .val (.int (0 : Int32)), .unset, .unset, .unset] [(.ref kn), (.int (0 : Int32))])) rfl rfl (hb hby d_prog_67_method_4_code_10)) ?_
  show own_G p e below (s₁.setTop (mkF m 13 #[.val (.ref r), .val (.int x), .val (.ref kn), .val (.int (x - (1 : Int32))), .val (.int (0 : Int32)), .unset, .unset, .unset] [(.ref kp), (.int (0 : Int32))])) _
  refine own_go (own_len X0 hx hZ e0 q14 (z := (Int32.ofNat wd)) (by rw [own_rlen]; exact own_ofN (by omega)) (g := (mkF m 13 #[.val (.ref r), .val (.int x), .val (.ref kn), .val (.int (x - (1 : Int32))), .val (.int (0 : Int32)), .unset, .unset, .unset] [(.ref kp), (.int (0 : Int32))])) rfl rfl (hb hby d_prog_67_method_4_code_13)) ?_
  refine own_go (fun t k => XS.icmpNo X0.here hx rfl (hb hby d_prog_67_method_4_code_14) rfl (tlt ((own_ltN (by decide : ((0 : Int32)).toInt = ((0 : Nat) : Int)) (by omega)).mpr hw0)).2.1 k) ?_
  show own_G p e below (s₁.setTop (mkF m 17 #[.val (.ref r), .val (.int x), .val (.ref kn), .val (.int (x - (1 : Int32))), .val (.int (0 : Int32)), .unset, .unset, .unset] [])) _
  refine own_go (fun t k => XS.aloadN X0.here hx rfl (hb hby d_prog_67_method_4_code_17) rfl rfl k) ?_
  refine own_go (own_getR X0 hx hZ hown (own_hw hw 72 rfl) Via.refl e0 q12 (g := (mkF m 18 #[.val (.ref r), .val (.int x), .val (.ref kn), .val (.int (x - (1 : Int32))), .val (.int (0 : Int32)), .unset, .unset, .unset] [(.ref kn)])) rfl rfl (hb hby d_prog_67_method_4_code_18)) ?_
  show own_G p e below (s₁.setTop (mkF m 21 #[.val (.ref r), .val (.int x), .val (.ref kn), .val (.int (x - (1 : Int32))), .val (.int (0 : Int32)), .unset, .unset, .unset] [(.ref kp)])) _
  refine own_go (fun t k => XS.iload X0.here hx rfl (hb hby d_prog_67_method_4_code_21) rfl k) ?_
  refine own_go (own_ldJ X0 hx hZ e0 q14 (i := 0) (v := (.long ((own_one aq) 0))) (by decide : ((0 : Int32)).toInt = ((0 : Nat) : Int)) (own_rget _ hw0) (g := (mkF m 23 #[.val (.ref r), .val (.int x), .val (.ref kn), .val (.int (x - (1 : Int32))), .val (.int (0 : Int32)), .unset, .unset, .unset] [(.int (0 : Int32)), (.ref kp)])) rfl rfl (hb hby d_prog_67_method_4_code_23)) ?_
  refine own_go (fun t k => XS.aloadN X0.here hx rfl (hb hby d_prog_67_method_4_code_24) rfl rfl k) ?_
  obtain ⟨T16z, X16z, e16z, st16z⟩ := getF X0 hx hZ hown (host := "") (Or.inl (own_hw hw 15 rfl)) Via.refl e0 II.2.2.1 (g := (mkF m 25 #[.val (.ref r), .val (.int x), .val (.ref kn), .val (.int (x - (1 : Int32))), .val (.int (0 : Int32)), .unset, .unset, .unset] [(.ref r), (.long ((own_one aq) 0))])) rfl rfl (hb hby d_prog_67_method_4_code_25)
  refine own_go st16z ?_
  show own_G p e below (T16z.setTop (mkF m 28 #[.val (.ref r), .val (.int x), .val (.ref kn), .val (.int (x - (1 : Int32))), .val (.int (0 : Int32)), .unset, .unset, .unset] [(.ref (A 0)), (.long ((own_one aq) 0))])) _
  refine own_go (fun t k => XS.iloadN X16z.here hx rfl (hb hby d_prog_67_method_4_code_28) rfl k) ?_
  refine own_go (own_ldA X16z hx hZ e16z II.2.2.2.2.2.2.2.2.2.1 rfl (i := q) (v := (.ref (rows q))) (own_sub1 hq hqN hN) (own_rget (fun i => Value.ref (rows i)) hqN) (g := (mkF m 29 #[.val (.ref r), .val (.int x), .val (.ref kn), .val (.int (x - (1 : Int32))), .val (.int (0 : Int32)), .unset, .unset, .unset] [(.int (x - (1 : Int32))), (.ref (A 0)), (.long ((own_one aq) 0))])) rfl rfl (hb hby d_prog_67_method_4_code_29)) ?_
  refine own_go (fun t k => XS.iload X16z.here hx rfl (hb hby d_prog_67_method_4_code_30) rfl k) ?_
  refine own_go (own_ldJ X16z hx hZ e16z (II.2.2.2.2.2.2.2.2.2.2.2.2.2.2.2 q hqN).1 (i := 0) (v := (.long ((rc q) 0))) (by decide : ((0 : Int32)).toInt = ((0 : Nat) : Int)) (own_rget _ hw0) (g := (mkF m 32 #[.val (.ref r), .val (.int x), .val (.ref kn), .val (.int (x - (1 : Int32))), .val (.int (0 : Int32)), .unset, .unset, .unset] [(.int (0 : Int32)), (.ref (rows q)), (.long ((own_one aq) 0))])) rfl rfl (hb hby d_prog_67_method_4_code_32)) ?_
  show own_G p e below (T16z.setTop (mkF m 33 #[.val (.ref r), .val (.int x), .val (.ref kn), .val (.int (x - (1 : Int32))), .val (.int (0 : Int32)), .unset, .unset, .unset] [(.long ((rc q) 0)), (.long ((own_one aq) 0))])) _
  refine own_go (fun t k => X16z.ldc2J hx hown (mvT hZ (own_hw hw 73 rfl)) rfl (hb hby d_prog_67_method_4_code_33) k) ?_
  refine own_go (fun t k => XS.lxor X16z.here hx rfl (hb hby d_prog_67_method_4_code_36) rfl k) ?_
  refine own_go (fun t k => XS.land X16z.here hx rfl (hb hby d_prog_67_method_4_code_37) rfl k) ?_
  show own_G p e below (T16z.setTop (mkF m 38 #[.val (.ref r), .val (.int x), .val (.ref kn), .val (.int (x - (1 : Int32))), .val (.int (0 : Int32)), .unset, .unset, .unset] [(.long (((own_one aq) 0) &&& (((rc q) 0) ^^^ (-1 : Int64))))])) _
  by_cases ej17z : 0 = aq / 64
  · rw [own_bits1 ej17z ((fun _ => hz 0) ej17z)]
    show own_G p e below (T16z.setTop (mkF m 38 #[.val (.ref r), .val (.int x), .val (.ref kn), .val (.int (x - (1 : Int32))), .val (.int (0 : Int32)), .unset, .unset, .unset] [(.long (own_B aq))])) _
    refine own_go (fun t k => XS.lstore X16z.here hx rfl (hb hby d_prog_67_method_4_code_38) rfl (l' := #[.val (.ref r), .val (.int x), .val (.ref kn), .val (.int (x - (1 : Int32))), .val (.int (0 : Int32)), .val (.long (own_B aq)), .second, .unset]) rfl k) ?_
    refine own_go (fun t k => XS.lload X16z.here hx rfl (hb hby d_prog_67_method_4_code_40) rfl k) ?_
    refine own_go (fun t k => XS.lconst X16z.here hx rfl (hb hby d_prog_67_method_4_code_42) k) ?_
    refine own_go (fun t k => XS.lcmp X16z.here hx rfl (hb hby d_prog_67_method_4_code_43) rfl k) ?_
    show own_G p e below (T16z.setTop (mkF m 44 #[.val (.ref r), .val (.int x), .val (.ref kn), .val (.int (x - (1 : Int32))), .val (.int (0 : Int32)), .val (.long (own_B aq)), .second, .unset] [(.int (lcmpW (own_B aq) (0 : Int64)))])) _
    refine own_go (fun t k => XS.ifNo X16z.here hx rfl (hb hby d_prog_67_method_4_code_44) rfl ((if0 _ _).trans (feq (fun q_z => (own_B_ne aq) ((lw_eq (own_B aq) (0 : Int64)).mp q_z))).1) k) ?_
    show own_G p e below (T16z.setTop (mkF m 47 #[.val (.ref r), .val (.int x), .val (.ref kn), .val (.int (x - (1 : Int32))), .val (.int (0 : Int32)), .val (.long (own_B aq)), .second, .unset] [])) _
    refine own_go (fun t k => XS.iload X16z.here hx rfl (hb hby d_prog_67_method_4_code_47) rfl k) ?_
    refine own_go (fun t k => XS.bipush X16z.here hx rfl (hb hby d_prog_67_method_4_code_49) k) ?_
    refine own_go (fun t k => XS.imul X16z.here hx rfl (hb hby d_prog_67_method_4_code_51) rfl k) ?_
    refine own_go (fun t k => XS.lload X16z.here hx rfl (hb hby d_prog_67_method_4_code_52) rfl k) ?_
    show own_G p e below (T16z.setTop (mkF m 54 #[.val (.ref r), .val (.int x), .val (.ref kn), .val (.int (x - (1 : Int32))), .val (.int (0 : Int32)), .val (.long (own_B aq)), .second, .unset] [(.long (own_B aq)), (.int ((0 : Int32) * (64 : Int32)))])) _
    obtain ⟨_, _, ⟨T18z, L18z, k18z, n18z⟩, -, X18z, ⟨Lc18z, hQ18z, l18z, y18z, z18z⟩, st18z⟩ := Jvm.LawKit.callS X16z hx (y := own_m5) hown (own_mw hZ hw 74 rfl) (own_mw hZ hw 75 rfl) (own_mw hZ hw 76 rfl) (own_mw hZ hw 77 rfl) (by decide) (backOf (W := 1) (own_nzl l Z a0 hw [] (own_B aq) h0 O0) hZ (own_hw hw 77 rfl) (own_hw hw 76 rfl) (by decide) (by decide)) (g := (mkF m 54 #[.val (.ref r), .val (.int x), .val (.ref kn), .val (.int (x - (1 : Int32))), .val (.int (0 : Int32)), .val (.long (own_B aq)), .second, .unset] [(.long (own_B aq)), (.int ((0 : Int32) * (64 : Int32)))])) rfl (by rw [hml]; rfl) (argsL := [(.long (own_B aq))]) (rest := [(.int ((0 : Int32) * (64 : Int32)))]) (lenOf pd_2087993097 rfl) rfl (by show 2 * 0 + _ ≤ _; exact Nat.le_of_eq rfl) (hb hby d_prog_67_method_4_code_54) (fun _ _ => ⟨rfl, e16z, (by decide : 0 + 0 ≤ _), (by decide : 0 + 0 ≤ _)⟩)
    dsimp only [Pt.U, Pt.locs, Pt.cells, Pt.slots] at X18z l18z y18z z18z st18z hQ18z
    subst l18z y18z z18z
    obtain ⟨rfl, NQ18z, K18zq⟩ := hQ18z
    refine own_go st18z ?_
    have N18z := Fr.app N0 NQ18z
    show own_G p e below (T18z.setTop (mkF m 57 #[.val (.ref r), .val (.int x), .val (.ref kn), .val (.int (x - (1 : Int32))), .val (.int (0 : Int32)), .val (.long (own_B aq)), .second, .unset] [(.int (own_ntzL (own_B aq))), (.int ((0 : Int32) * (64 : Int32)))])) _
    refine own_go (fun t k => XS.iadd X18z.here hx rfl (hb hby d_prog_67_method_4_code_57) rfl k) ?_
    refine own_go (fun t k => XS.istore X18z.here hx rfl (hb hby d_prog_67_method_4_code_58) rfl (l' := #[.val (.ref r), .val (.int x), .val (.ref kn), .val (.int (x - (1 : Int32))), .val (.int (0 : Int32)), .val (.long (own_B aq)), .second, .val (.int (((0 : Int32) * (64 : Int32)) + (own_ntzL (own_B aq))))]) rfl k) ?_
    refine own_go (fun t k => XS.lload X18z.here hx rfl (hb hby d_prog_67_method_4_code_60) rfl k) ?_
    refine own_go (fun t k => XS.lload X18z.here hx rfl (hb hby d_prog_67_method_4_code_62) rfl k) ?_
    show own_G p e below (T18z.setTop (mkF m 64 #[.val (.ref r), .val (.int x), .val (.ref kn), .val (.int (x - (1 : Int32))), .val (.int (0 : Int32)), .val (.long (own_B aq)), .second, .val (.int (((0 : Int32) * (64 : Int32)) + (own_ntzL (own_B aq))))] [(.long (own_B aq)), (.long (own_B aq))])) _
    refine own_go (fun t k => XS.lconst X18z.here hx rfl (hb hby d_prog_67_method_4_code_64) k) ?_
    refine own_go (fun t k => XS.lsub X18z.here hx rfl (hb hby d_prog_67_method_4_code_65) rfl k) ?_
    refine own_go (fun t k => XS.land X18z.here hx rfl (hb hby d_prog_67_method_4_code_66) rfl k) ?_
    refine own_go (fun t k => XS.lstore X18z.here hx rfl (hb hby d_prog_67_method_4_code_67) rfl (l' := #[.val (.ref r), .val (.int x), .val (.ref kn), .val (.int (x - (1 : Int32))), .val (.int (0 : Int32)), .val (.long ((own_B aq) &&& ((own_B aq) - (1 : Int64)))), .second, .val (.int (((0 : Int32) * (64 : Int32)) + (own_ntzL (own_B aq))))]) rfl k) ?_
    show own_G p e below (T18z.setTop (mkF m 69 #[.val (.ref r), .val (.int x), .val (.ref kn), .val (.int (x - (1 : Int32))), .val (.int (0 : Int32)), .val (.long ((own_B aq) &&& ((own_B aq) - (1 : Int64)))), .second, .val (.int (((0 : Int32) * (64 : Int32)) + (own_ntzL (own_B aq))))] [])) _
    refine own_go (fun t k => XS.aloadN X18z.here hx rfl (hb hby d_prog_67_method_4_code_69) rfl rfl k) ?_
    obtain ⟨T19z, X19z, e19z, st19z⟩ := getF X18z hx hZ hown (host := "") (Or.inl (own_hw hw 26 rfl)) Via.refl K18zq II.2.2.2.2.2.2.1 (g := (mkF m 70 #[.val (.ref r), .val (.int x), .val (.ref kn), .val (.int (x - (1 : Int32))), .val (.int (0 : Int32)), .val (.long ((own_B aq) &&& ((own_B aq) - (1 : Int64)))), .second, .val (.int (((0 : Int32) * (64 : Int32)) + (own_ntzL (own_B aq))))] [(.ref r)])) rfl rfl (hb hby d_prog_67_method_4_code_70)
    refine own_go st19z ?_
    refine own_go (fun t k => XS.iload X19z.here hx rfl (hb hby d_prog_67_method_4_code_73) rfl k) ?_
    refine own_go (own_ldJ X19z hx hZ e19z II.2.2.2.2.2.2.2.2.2.2.2.2.2.1 (i := aq) (v := (.long (ra aq))) (own_other (by decide : ((0 : Int32)).toInt = ((0 : Nat) : Int)) ej17z (by omega)) (own_rget _ haN) (g := (mkF m 75 #[.val (.ref r), .val (.int x), .val (.ref kn), .val (.int (x - (1 : Int32))), .val (.int (0 : Int32)), .val (.long ((own_B aq) &&& ((own_B aq) - (1 : Int64)))), .second, .val (.int (((0 : Int32) * (64 : Int32)) + (own_ntzL (own_B aq))))] [(.int (((0 : Int32) * (64 : Int32)) + (own_ntzL (own_B aq)))), (.ref (A 4))])) rfl rfl (hb hby d_prog_67_method_4_code_75)) ?_
    show own_G p e below (T19z.setTop (mkF m 76 #[.val (.ref r), .val (.int x), .val (.ref kn), .val (.int (x - (1 : Int32))), .val (.int (0 : Int32)), .val (.long ((own_B aq) &&& ((own_B aq) - (1 : Int64)))), .second, .val (.int (((0 : Int32) * (64 : Int32)) + (own_ntzL (own_B aq))))] [(.long (ra aq))])) _
    refine own_go (fun t k => XS.aloadN X19z.here hx rfl (hb hby d_prog_67_method_4_code_76) rfl rfl k) ?_
    refine own_go (own_getR X19z hx hZ hown (own_hw hw 83 rfl) Via.refl e19z q13 (g := (mkF m 77 #[.val (.ref r), .val (.int x), .val (.ref kn), .val (.int (x - (1 : Int32))), .val (.int (0 : Int32)), .val (.long ((own_B aq) &&& ((own_B aq) - (1 : Int64)))), .second, .val (.int (((0 : Int32) * (64 : Int32)) + (own_ntzL (own_B aq))))] [(.ref kn), (.long (ra aq))])) rfl rfl (hb hby d_prog_67_method_4_code_77)) ?_
    show own_G p e below (T19z.setTop (mkF m 80 #[.val (.ref r), .val (.int x), .val (.ref kn), .val (.int (x - (1 : Int32))), .val (.int (0 : Int32)), .val (.long ((own_B aq) &&& ((own_B aq) - (1 : Int64)))), .second, .val (.int (((0 : Int32) * (64 : Int32)) + (own_ntzL (own_B aq))))] [(.long sv), (.long (ra aq))])) _
    refine own_go (fun t k => XS.lcmp X19z.here hx rfl (hb hby d_prog_67_method_4_code_80) rfl k) ?_
    refine own_go (fun t k => XS.ifNo X19z.here hx rfl (hb hby d_prog_67_method_4_code_81) rfl ((if0 _ _).trans (flt (fun q_z => hsv ((lw_gt (ra aq) sv).mp q_z))).2.2.1) k) ?_
    show own_G p e below (T19z.setTop (mkF m 84 #[.val (.ref r), .val (.int x), .val (.ref kn), .val (.int (x - (1 : Int32))), .val (.int (0 : Int32)), .val (.long ((own_B aq) &&& ((own_B aq) - (1 : Int64)))), .second, .val (.int (((0 : Int32) * (64 : Int32)) + (own_ntzL (own_B aq))))] [])) _
    refine own_go (fun t k => XS.aloadN X19z.here hx rfl (hb hby d_prog_67_method_4_code_84) rfl rfl k) ?_
    refine own_go (fun t k => XS.iloadN X19z.here hx rfl (hb hby d_prog_67_method_4_code_85) rfl k) ?_
    obtain ⟨cq21z, qa21z, qb21z⟩ := II.1.cell
    obtain ⟨_, _, ⟨T21z, L21z, k21z, n21z⟩, -, X21z, ⟨Lc21z, hQ21z, l21z, y21z, z21z⟩, st21z⟩ := X19z.privateBack hx (y := own_m6) hown (own_mw hZ hw 47 rfl) (own_mw hZ hw 48 rfl) (own_selfPriv (mvT (args := #[]) hZ (own_hw hw 2 rfl)) (Cond.privateMethod_at (mvP hZ (own_hw hw 49 rfl) (args := #[]))) (own_mw hZ hw 48 rfl) (by decide)) (Cond.privateMethod_at (mvP hZ (own_hw hw 49 rfl) (args := #[]))) (own_mw hZ hw 50 rfl) (by decide) (backOf (W := 0) (own_wr0 l Z a0 hw [] r N wd A K rows rc ls pr wt ra ea st n0 q (x - (1 : Int32)) h0 O0 II DD hn0 hN hwd hNw OA0 OA1 OA2 (own_sub1 hq hqN hN) hqN hls) hZ (own_hw hw 50 rfl) (own_hw hw 3 rfl) (by decide) (by decide)) (g := (mkF m 86 #[.val (.ref r), .val (.int x), .val (.ref kn), .val (.int (x - (1 : Int32))), .val (.int (0 : Int32)), .val (.long ((own_B aq) &&& ((own_B aq) - (1 : Int64)))), .second, .val (.int (((0 : Int32) * (64 : Int32)) + (own_ntzL (own_B aq))))] [(.int (x - (1 : Int32))), (.ref r)])) rfl (by rw [hml]; rfl) (Steps.refl _) (a := r) (by rw [e19z]; exact qa21z) qb21z (argsL := [(.int (x - (1 : Int32)))]) (rest := []) (lenOf pd_184260196 rfl) rfl (by show 2 * 0 + _ ≤ _; exact Nat.le_of_eq rfl) (hb hby d_prog_67_method_4_code_86) (fun _ _ => ⟨rfl, e19z, (by decide : 0 + 0 ≤ _), (by decide : 0 + 0 ≤ _)⟩)
    dsimp only [Pt.U, Pt.locs, Pt.cells, Pt.slots] at X21z l21z y21z z21z st21z hQ21z
    subst l21z y21z z21z
    obtain ⟨rfl, NQ21z, K21zq⟩ := hQ21z
    refine own_tr st21z ?_
    have N21z := Fr.app N18z NQ21z
    show own_G p e below (T21z.setTop (mkF m 89 #[.val (.ref r), .val (.int x), .val (.ref kn), .val (.int (x - (1 : Int32))), .val (.int (0 : Int32)), .val (.long ((own_B aq) &&& ((own_B aq) - (1 : Int64)))), .second, .val (.int (((0 : Int32) * (64 : Int32)) + (own_ntzL (own_B aq))))] [(.ref (rows q))])) _
    refine own_go (fun t k => XS.iload X21z.here hx rfl (hb hby d_prog_67_method_4_code_89) rfl k) ?_
    refine own_go (fun t k => own_dup2 X21z.here hx rfl (hb hby d_prog_67_method_4_code_91) rfl rfl rfl k) ?_
    refine own_go (own_ldJ X21z hx hZ K21zq (II.2.2.2.2.2.2.2.2.2.2.2.2.2.2.2 q hqN).1 (i := 0) (v := (.long ((rc q) 0))) (by decide : ((0 : Int32)).toInt = ((0 : Nat) : Int)) (own_rget _ hw0) (g := (mkF m 92 #[.val (.ref r), .val (.int x), .val (.ref kn), .val (.int (x - (1 : Int32))), .val (.int (0 : Int32)), .val (.long ((own_B aq) &&& ((own_B aq) - (1 : Int64)))), .second, .val (.int (((0 : Int32) * (64 : Int32)) + (own_ntzL (own_B aq))))] [(.int (0 : Int32)), (.ref (rows q)), (.int (0 : Int32)), (.ref (rows q))])) rfl rfl (hb hby d_prog_67_method_4_code_92)) ?_
    refine own_go (fun t k => XS.iload X21z.here hx rfl (hb hby d_prog_67_method_4_code_93) rfl k) ?_
    show own_G p e below (T21z.setTop (mkF m 95 #[.val (.ref r), .val (.int x), .val (.ref kn), .val (.int (x - (1 : Int32))), .val (.int (0 : Int32)), .val (.long ((own_B aq) &&& ((own_B aq) - (1 : Int64)))), .second, .val (.int (((0 : Int32) * (64 : Int32)) + (own_ntzL (own_B aq))))] [(.int (((0 : Int32) * (64 : Int32)) + (own_ntzL (own_B aq)))), (.long ((rc q) 0)), (.int (0 : Int32)), (.ref (rows q))])) _
    obtain ⟨_, _, ⟨T22z, L22z, k22z, n22z⟩, -, X22z, ⟨Lc22z, hQ22z, l22z, y22z, z22z⟩, st22z⟩ := Jvm.LawKit.callS X21z hx (y := own_m1) hown (own_mw hZ hw 43 rfl) (own_mw hZ hw 44 rfl) (own_mw hZ hw 3 rfl) (own_mw hZ hw 45 rfl) (by decide) (backOf (W := 4) (own_bitM l Z a0 hw [] (((0 : Int32) * (64 : Int32)) + (own_ntzL (own_B aq))) aq h0 O0 (own_other (by decide : ((0 : Int32)).toInt = ((0 : Nat) : Int)) ej17z (by omega))) hZ (own_hw hw 45 rfl) (own_hw hw 3 rfl) (by decide) (by decide)) (g := (mkF m 95 #[.val (.ref r), .val (.int x), .val (.ref kn), .val (.int (x - (1 : Int32))), .val (.int (0 : Int32)), .val (.long ((own_B aq) &&& ((own_B aq) - (1 : Int64)))), .second, .val (.int (((0 : Int32) * (64 : Int32)) + (own_ntzL (own_B aq))))] [(.int (((0 : Int32) * (64 : Int32)) + (own_ntzL (own_B aq)))), (.long ((rc q) 0)), (.int (0 : Int32)), (.ref (rows q))])) rfl (by rw [hml]; rfl) (argsL := [(.int (((0 : Int32) * (64 : Int32)) + (own_ntzL (own_B aq))))]) (rest := [(.long ((rc q) 0)), (.int (0 : Int32)), (.ref (rows q))]) (lenOf pd_2087992009 rfl) rfl (by show 2 * 0 + _ ≤ _; exact Nat.le_of_eq rfl) (hb hby d_prog_67_method_4_code_95) (fun _ _ => ⟨rfl, K21zq, (by decide : 0 + 0 ≤ _), (by decide : 0 + 0 ≤ _)⟩)
    dsimp only [Pt.U, Pt.locs, Pt.cells, Pt.slots] at X22z l22z y22z z22z st22z hQ22z
    subst l22z y22z z22z
    obtain ⟨rfl, NQ22z, K22zq⟩ := hQ22z
    refine own_go st22z ?_
    have N22z := Fr.app N21z NQ22z
    show own_G p e below (T22z.setTop (mkF m 98 #[.val (.ref r), .val (.int x), .val (.ref kn), .val (.int (x - (1 : Int32))), .val (.int (0 : Int32)), .val (.long ((own_B aq) &&& ((own_B aq) - (1 : Int64)))), .second, .val (.int (((0 : Int32) * (64 : Int32)) + (own_ntzL (own_B aq))))] [(.long (own_B aq)), (.long ((rc q) 0)), (.int (0 : Int32)), (.ref (rows q))])) _
    refine own_go (fun t k => XS.lor X22z.here hx rfl (hb hby d_prog_67_method_4_code_98) rfl k) ?_
    obtain ⟨T23z, h23z, X23z, e23z, W23z, V23z, st23z⟩ := own_stJ X22z hx hZ K22zq (II.2.2.2.2.2.2.2.2.2.2.2.2.2.2.2 q hqN).1 (i := 0) (by decide : ((0 : Int32)).toInt = ((0 : Nat) : Int)) (by rw [own_rlen]; exact hw0) (g := (mkF m 99 #[.val (.ref r), .val (.int x), .val (.ref kn), .val (.int (x - (1 : Int32))), .val (.int (0 : Int32)), .val (.long ((own_B aq) &&& ((own_B aq) - (1 : Int64)))), .second, .val (.int (((0 : Int32) * (64 : Int32)) + (own_ntzL (own_B aq))))] [(.long (((rc q) 0) ||| (own_B aq))), (.int (0 : Int32)), (.ref (rows q))])) rfl rfl (hb hby d_prog_67_method_4_code_99)
    refine own_go st23z ?_
    have N23z := Fr.snoc X23z N22z (Nat.le_trans hn0 (DD.2.2.2.1 q hqN).1)
    have O24z := own_ext_wr O0 W23z (Nat.le_trans hn0 (DD.2.2.2.1 q hqN).1)
    have K24z := K0.wr W23z (Or.inl (own_ws_row hqN))
    have I25z := own_I.wr hqN II DD W23z (own_L.set V23z)
    have V23z : own_A Z h23z (rows q) (K 6) .long (((List.range wd).map fun i_z => Value.long ((rc q) i_z)).set 0 (.long (((rc q) 0) ||| (own_B aq)))) := V23z
    refine own_go (fun t k => XS.goto X23z.here hx rfl (pc0 := 100) (pc' := 40) rfl (hb hby d_prog_67_method_4_code_100) (by decide) (by decide) k) ?_
    show own_G p e below (T23z.setTop (mkF m 40 #[.val (.ref r), .val (.int x), .val (.ref kn), .val (.int (x - (1 : Int32))), .val (.int (0 : Int32)), .val (.long ((own_B aq) &&& ((own_B aq) - (1 : Int64)))), .second, .val (.int (((0 : Int32) * (64 : Int32)) + (own_ntzL (own_B aq))))] [])) _
    refine own_go (fun t k => XS.lload X23z.here hx rfl (hb hby d_prog_67_method_4_code_40) rfl k) ?_
    refine own_go (fun t k => XS.lconst X23z.here hx rfl (hb hby d_prog_67_method_4_code_42) k) ?_
    refine own_go (fun t k => XS.lcmp X23z.here hx rfl (hb hby d_prog_67_method_4_code_43) rfl k) ?_
    refine own_go (fun t k => XS.ifYes X23z.here hx rfl (pc0 := 44) (pc' := 103) rfl (hb hby d_prog_67_method_4_code_44) rfl ((if0 _ _).trans (teq ((lw_eq ((own_B aq) &&& ((own_B aq) - (1 : Int64))) (0 : Int64)).mpr (own_B_pred aq))).1) (by decide) (by decide) k) ?_
    show own_G p e below (T23z.setTop (mkF m 103 #[.val (.ref r), .val (.int x), .val (.ref kn), .val (.int (x - (1 : Int32))), .val (.int (0 : Int32)), .val (.long ((own_B aq) &&& ((own_B aq) - (1 : Int64)))), .second, .val (.int (((0 : Int32) * (64 : Int32)) + (own_ntzL (own_B aq))))] [])) _
    refine own_go (fun t k => XS.iinc X23z.here hx rfl (hb hby d_prog_67_method_4_code_103) rfl (l' := #[.val (.ref r), .val (.int x), .val (.ref kn), .val (.int (x - (1 : Int32))), .val (.int (1 : Int32)), .val (.long ((own_B aq) &&& ((own_B aq) - (1 : Int64)))), .second, .val (.int (((0 : Int32) * (64 : Int32)) + (own_ntzL (own_B aq))))]) rfl k) ?_
    refine own_go (fun t k => XS.goto X23z.here hx rfl (pc0 := 106) (pc' := 7) rfl (hb hby d_prog_67_method_4_code_106) (by decide) (by decide) k) ?_
    show own_G p e below (T23z.setTop (mkF m 7 #[.val (.ref r), .val (.int x), .val (.ref kn), .val (.int (x - (1 : Int32))), .val (.int (1 : Int32)), .val (.long ((own_B aq) &&& ((own_B aq) - (1 : Int64)))), .second, .val (.int (((0 : Int32) * (64 : Int32)) + (own_ntzL (own_B aq))))] [])) _
    exact loop1 (wd - 1) (0 + 1) _ _ _ _ _ _ _ (by omega) (own_inc (by decide : ((0 : Int32)).toInt = ((0 : Nat) : Int)) hw0 (by omega : wd ≤ 129)) X23z e23z N23z O24z K24z I25z (own_rcu1 (rc := rc) (g := rc) (if_neg (by omega)).symm hz ej17z) (fun q => absurd q (by omega)) (q14.other W23z nkp)
  · rw [own_bits0 ej17z]
    show own_G p e below (T16z.setTop (mkF m 38 #[.val (.ref r), .val (.int x), .val (.ref kn), .val (.int (x - (1 : Int32))), .val (.int (0 : Int32)), .unset, .unset, .unset] [(.long (0 : Int64))])) _
    refine own_go (fun t k => XS.lstore X16z.here hx rfl (hb hby d_prog_67_method_4_code_38) rfl (l' := #[.val (.ref r), .val (.int x), .val (.ref kn), .val (.int (x - (1 : Int32))), .val (.int (0 : Int32)), .val (.long (0 : Int64)), .second, .unset]) rfl k) ?_
    refine own_go (fun t k => XS.lload X16z.here hx rfl (hb hby d_prog_67_method_4_code_40) rfl k) ?_
    refine own_go (fun t k => XS.lconst X16z.here hx rfl (hb hby d_prog_67_method_4_code_42) k) ?_
    refine own_go (fun t k => XS.lcmp X16z.here hx rfl (hb hby d_prog_67_method_4_code_43) rfl k) ?_
    show own_G p e below (T16z.setTop (mkF m 44 #[.val (.ref r), .val (.int x), .val (.ref kn), .val (.int (x - (1 : Int32))), .val (.int (0 : Int32)), .val (.long (0 : Int64)), .second, .unset] [(.int (lcmpW (0 : Int64) (0 : Int64)))])) _
    refine own_go (fun t k => XS.ifYes X16z.here hx rfl (pc0 := 44) (pc' := 103) rfl (hb hby d_prog_67_method_4_code_44) rfl ((if0 _ _).trans (teq ((lw_eq (0 : Int64) (0 : Int64)).mpr (by decide : (0 : Int64) = (0 : Int64)))).1) (by decide) (by decide) k) ?_
    show own_G p e below (T16z.setTop (mkF m 103 #[.val (.ref r), .val (.int x), .val (.ref kn), .val (.int (x - (1 : Int32))), .val (.int (0 : Int32)), .val (.long (0 : Int64)), .second, .unset] [])) _
    refine own_go (fun t k => XS.iinc X16z.here hx rfl (hb hby d_prog_67_method_4_code_103) rfl (l' := #[.val (.ref r), .val (.int x), .val (.ref kn), .val (.int (x - (1 : Int32))), .val (.int (1 : Int32)), .val (.long (0 : Int64)), .second, .unset]) rfl k) ?_
    refine own_go (fun t k => XS.goto X16z.here hx rfl (pc0 := 106) (pc' := 7) rfl (hb hby d_prog_67_method_4_code_106) (by decide) (by decide) k) ?_
    show own_G p e below (T16z.setTop (mkF m 7 #[.val (.ref r), .val (.int x), .val (.ref kn), .val (.int (x - (1 : Int32))), .val (.int (1 : Int32)), .val (.long (0 : Int64)), .second, .unset] [])) _
    exact loop1 (wd - 1) (0 + 1) _ _ _ _ _ _ _ (by omega) (own_inc (by decide : ((0 : Int32)).toInt = ((0 : Nat) : Int)) hw0 (by omega : wd ≤ 129)) X16z e16z N0 O0 K0 II (own_rcu0 (rc := rc) (q := q) (if_neg (by omega)).symm ej17z) (fun _ => rfl) q14
theorem ef_own_rc0 (m : MethodId) (x0 : Addr) (x1 : Int32) (x2 : Addr) : entryFrame m #[(.ref x0), (.int x1), (.ref x2)] 8 = mkF m 0 #[.val (.ref x0), .val (.int x1), .val (.ref x2), .unset, .unset, .unset, .unset, .unset] [] := by first | (simp [entryFrame, mkF, argsToLocals, Value.category]; done) | rfl
theorem pf_own_rc0 : plainFor own_m9 = true := plainFor_of_name (by simp [plainName, overriddenIn])
def Q_own_rc0 (Z : State) (r : Addr) (N : Nat) (wd : Nat) (A : (Nat → Addr)) (K : (Nat → ClassId)) (rows : (Nat → Addr)) (rc : (Nat → Nat → Int64)) (ls : (Nat → Value)) (pr : (Nat → Value)) (wt : (Nat → Int64)) (ra : (Nat → Int64)) (ea : (Nat → Int64)) (st : Int64) (n0 : Nat) (q : Nat) (x : Int32) (kn : Addr) (aq : Nat) (kp : Addr) (kkp : ClassId) (sv : Int64) (h0 : Heap) (v : Option Value) (h : Heap) (L : List Loc) : Prop := v = none ∧ Fr Z.heap.size L ∧ Keep h0 h (own_ws r N A rows) ∧ (own_I Z h r N wd A K rows rc ls pr wt ra ea st)
set_option maxRecDepth 65536 in
set_option maxHeartbeats 40000000 in
theorem own_rc0 (l : Launch) (Z : State) (a0 : Array Value) (hw : ∀ d ∈ tables_1, d.before a0 Z = true) (ws : List Jvm.Cond) (r : Addr) (N : Nat) (wd : Nat) (A : (Nat → Addr)) (K : (Nat → ClassId)) (rows : (Nat → Addr)) (rc : (Nat → Nat → Int64)) (ls : (Nat → Value)) (pr : (Nat → Value)) (wt : (Nat → Int64)) (ra : (Nat → Int64)) (ea : (Nat → Int64)) (st : Int64) (n0 : Nat) (q : Nat) (x : Int32) (kn : Addr) (aq : Nat) (kp : Addr) (kkp : ClassId) (sv : Int64) (h0 : Heap) (O0 : Ext Z.heap h0) (II : own_I Z h0 r N wd A K rows rc ls pr wt ra ea st) (DD : own_D n0 r N A rows) (hn0 : Z.heap.size ≤ n0) (hN : N ≤ 129) (hwd : wd ≤ 3) (hNw : ∀ i, i < N → i / 64 < wd) (OA0 : OvrA Z (K 0) .long "[J") (OA1 : Ovr Z (K 1) own_s0) (OA2 : OvrA Z (K 2) .long "[J") (hq : x.toInt = (q : Int) + 1) (hqN : q < N) (haN : aq < N) (q12 : Fld Z h0 kn own_s0 "follows" "[J" (.ref kp)) (q13 : Fld Z h0 kn own_s0 "stamp" "J" (.long sv)) (q14 : own_A Z h0 kp kkp .long ((List.range wd).map fun i_z => Value.long ((own_one aq) i_z))) (hz : ∀ j, rc q j = 0) (hls : ls q = .null) (kno : kn ∉ own_ws r N A rows) (nkp : kp ≠ rows q) (hsv : sv < (ra aq)) :
    MetFree l own_m9 (head1 (Jvm.Cond.code own_m9 prog_67_method_4_code 8 none :: ws) ({ frames := 2, cells := 0, slots := 0, locals := 30 } : Room)) (fun aa U => aa = #[(.ref r), (.int x), (.ref kn)] ∧ Z.Warmed39 U.vm ∧ U.heap = h0) (fun _ _ _ _ _ => True) (fun _ U o U' => ∃ v L, o = .returned v ∧ Q_own_rc0 Z r N wd A K rows rc ls pr wt ra ea st n0 q x kn aq kp kkp sv h0 v U'.heap L ∧ FrameEnd U o U' L ({ frames := 2, cells := 0, slots := 0, locals := 30 } : Room).cells ({ frames := 2, cells := 0, slots := 0, locals := 30 } : Room).slots) := by
  refine MetFree.of_bodySF pf_own_rc0 hisR ?_
  intro p e s m args below meth c s₁ Bd hml0 hP hK
  obtain ⟨rfl, hZ, hh⟩ := hP
  have hx := Bd.exec
  have hby := Bd.bytes
  have hlk := BodyLoose.notSynchronized Bd
  have hml : c.maxLocals = 8 := hml0
  have hown : s.vm.findClass own_s1 = some m.cls := findClass_of_methodNamed Bd.named
  have hnm := (name_of_methodNamed Bd.named Bd.method).1
  have X0 : Stand p l e ({ frames := 2, cells := 0, slots := 0, locals := 30 } : Room) s m #[(.ref r), (.int x), (.ref kn)] below meth c s₁ [] 0 0 := Stand.of_body Bd
  have e0 : s₁.heap = h0 := by rw [← hh, Bd.state]; rfl
  have N0 := Fr.nil Z.heap.size
  have K0 : Keep h0 h0 (own_ws r N A rows) := Keep.refl _ _
  refine own_start (Q := Q_own_rc0 Z r N wd A K rows rc ls pr wt ra ea st n0 q x kn aq kp kkp sv h0) (ef_own_rc0 m (r) (x) (kn)) ?_
  show own_G p e below (s₁.setTop (mkF m 0 #[.val (.ref r), .val (.int x), .val (.ref kn), .unset, .unset, .unset, .unset, .unset] [])) _
  refine own_go (fun t k => XS.iloadN X0.here hx rfl (hb hby d_prog_67_method_4_code_0) rfl k) ?_
  refine own_go (fun t k => XS.iconst X0.here hx rfl (hb hby d_prog_67_method_4_code_1) k) ?_
  refine own_go (fun t k => XS.isub X0.here hx rfl (hb hby d_prog_67_method_4_code_2) rfl k) ?_
  refine own_go (fun t k => XS.istoreN X0.here hx rfl (hb hby d_prog_67_method_4_code_3) rfl (l' := #[.val (.ref r), .val (.int x), .val (.ref kn), .val (.int (x - (1 : Int32))), .unset, .unset, .unset, .unset]) rfl k) ?_
  show own_G p e below (s₁.setTop (mkF m 4 #[.val (.ref r), .val (.int x), .val (.ref kn), .val (.int (x - (1 : Int32))), .unset, .unset, .unset, .unset] [])) _
  refine own_go (fun t k => XS.iconst X0.here hx rfl (hb hby d_prog_67_method_4_code_4) k) ?_
  refine own_go (fun t k => XS.istore X0.here hx rfl (hb hby d_prog_67_method_4_code_5) rfl (l' := #[.val (.ref r), .val (.int x), .val (.ref kn), .val (.int (x - (1 : Int32))), .val (.int (0 : Int32)), .unset, .unset, .unset]) rfl k) ?_
  have LK0 : own_L Z h0 kp kkp wd (own_one aq) := q14
  have loop1 : ∀ (n j : Nat) (xj : Int32) (T : State) (h : Heap) (locs : List Loc) (bw : Int64) (u7 : Slot), j + n = wd → xj.toInt = (j : Int) → Stand p l e ({ frames := 2, cells := 0, slots := 0, locals := 30 } : Room) s m #[(.ref r), (.int x), (.ref kn)] below meth c T locs 0 0 → T.heap = h → Fr Z.heap.size locs → Ext Z.heap h → Keep h0 h (own_ws r N A rows) → own_I Z h r N wd A K rows rc ls pr wt ra ea st → (j ≤ aq / 64 → u7 = .unset) → own_L Z h kp kkp wd (own_one aq) → own_G p e below (T.setTop (mkF m 7 #[.val (.ref r), .val (.int x), .val (.ref kn), .val (.int (x - (1 : Int32))), .val (.int xj), .val (.long bw), .second, u7] [])) (own_P s below ({ frames := 2, cells := 0, slots := 0, locals := 30 } : Room).cells ({ frames := 2, cells := 0, slots := 0, locals := 30 } : Room).slots (Q_own_rc0 Z r N wd A K rows rc ls pr wt ra ea st n0 q x kn aq kp kkp sv h0)) := by
    intro n
    induction n with
    | zero =>
      intro j xj T h locs bw u7 hi hxi X eL NL OL KL IL hu LK
      obtain rfl : wd = j := by omega
      show own_G p e below (T.setTop (mkF m 7 #[.val (.ref r), .val (.int x), .val (.ref kn), .val (.int (x - (1 : Int32))), .val (.int xj), .val (.long bw), .second, u7] [])) _
      refine own_go (fun t k => XS.iload X.here hx rfl (hb hby d_prog_67_method_4_code_7) rfl k) ?_
      refine own_go (fun t k => XS.aloadN X.here hx rfl (hb hby d_prog_67_method_4_code_9) rfl rfl k) ?_
      refine own_go (own_getR X hx hZ hown (own_hw hw 72 rfl) Via.refl eL (q12.keep KL kno) (g := (mkF m 10 #[.val (.ref r), .val (.int x), .val (.ref kn), .val (.int (x - (1 : Int32))), .val (.int xj), .val (.long bw), .second, u7] [(.ref kn), (.int xj)])) rfl rfl (hb hby d_prog_67_method_4_code_10)) ?_
      show own_G p e below (T.setTop (mkF m 13 #[.val (.ref r), .val (.int x), .val (.ref kn), .val (.int (x - (1 : Int32))), .val (.int xj), .val (.long bw), .second, u7] [(.ref kp), (.int xj)])) _
      refine own_go (own_len X hx hZ eL LK (z := (Int32.ofNat wd)) (by rw [own_rlen]; exact own_ofN (by omega)) (g := (mkF m 13 #[.val (.ref r), .val (.int x), .val (.ref kn), .val (.int (x - (1 : Int32))), .val (.int xj), .val (.long bw), .second, u7] [(.ref kp), (.int xj)])) rfl rfl (hb hby d_prog_67_method_4_code_13)) ?_
      refine own_go (fun t k => XS.icmpYes X.here hx rfl (pc0 := 14) (pc' := 109) rfl (hb hby d_prog_67_method_4_code_14) rfl (flt (fun q => absurd ((own_ltN hxi (by omega)).mp q) (by omega))).2.1 (by decide) (by decide) k) ?_
      show own_G p e below (T.setTop (mkF m 109 #[.val (.ref r), .val (.int x), .val (.ref kn), .val (.int (x - (1 : Int32))), .val (.int xj), .val (.long bw), .second, u7] [])) _
      exact own_retV X hx Bd.returns (hb hby d_prog_67_method_4_code_109) hlk (Nat.le_of_ble_eq_true rfl) (Nat.le_of_ble_eq_true rfl) (by show Q_own_rc0 Z r N wd A K rows rc ls pr wt ra ea st n0 q x kn aq kp kkp sv h0 _ T.heap _; rw [eL]; exact ⟨rfl, NL, KL, IL⟩)
    | succ n ih =>
      intro j xj T h locs bw u7 hi hxi X eL NL OL KL IL hu LK
      have hjw : j < wd := by omega
      show own_G p e below (T.setTop (mkF m 7 #[.val (.ref r), .val (.int x), .val (.ref kn), .val (.int (x - (1 : Int32))), .val (.int xj), .val (.long bw), .second, u7] [])) _
      refine own_go (fun t k => XS.iload X.here hx rfl (hb hby d_prog_67_method_4_code_7) rfl k) ?_
      refine own_go (fun t k => XS.aloadN X.here hx rfl (hb hby d_prog_67_method_4_code_9) rfl rfl k) ?_
      refine own_go (own_getR X hx hZ hown (own_hw hw 72 rfl) Via.refl eL (q12.keep KL kno) (g := (mkF m 10 #[.val (.ref r), .val (.int x), .val (.ref kn), .val (.int (x - (1 : Int32))), .val (.int xj), .val (.long bw), .second, u7] [(.ref kn), (.int xj)])) rfl rfl (hb hby d_prog_67_method_4_code_10)) ?_
      show own_G p e below (T.setTop (mkF m 13 #[.val (.ref r), .val (.int x), .val (.ref kn), .val (.int (x - (1 : Int32))), .val (.int xj), .val (.long bw), .second, u7] [(.ref kp), (.int xj)])) _
      refine own_go (own_len X hx hZ eL LK (z := (Int32.ofNat wd)) (by rw [own_rlen]; exact own_ofN (by omega)) (g := (mkF m 13 #[.val (.ref r), .val (.int x), .val (.ref kn), .val (.int (x - (1 : Int32))), .val (.int xj), .val (.long bw), .second, u7] [(.ref kp), (.int xj)])) rfl rfl (hb hby d_prog_67_method_4_code_13)) ?_
      refine own_go (fun t k => XS.icmpNo X.here hx rfl (hb hby d_prog_67_method_4_code_14) rfl (tlt ((own_ltN hxi (by omega)).mpr hjw)).2.1 k) ?_
      show own_G p e below (T.setTop (mkF m 17 #[.val (.ref r), .val (.int x), .val (.ref kn), .val (.int (x - (1 : Int32))), .val (.int xj), .val (.long bw), .second, u7] [])) _
      refine own_go (fun t k => XS.aloadN X.here hx rfl (hb hby d_prog_67_method_4_code_17) rfl rfl k) ?_
      refine own_go (own_getR X hx hZ hown (own_hw hw 72 rfl) Via.refl eL (q12.keep KL kno) (g := (mkF m 18 #[.val (.ref r), .val (.int x), .val (.ref kn), .val (.int (x - (1 : Int32))), .val (.int xj), .val (.long bw), .second, u7] [(.ref kn)])) rfl rfl (hb hby d_prog_67_method_4_code_18)) ?_
      show own_G p e below (T.setTop (mkF m 21 #[.val (.ref r), .val (.int x), .val (.ref kn), .val (.int (x - (1 : Int32))), .val (.int xj), .val (.long bw), .second, u7] [(.ref kp)])) _
      refine own_go (fun t k => XS.iload X.here hx rfl (hb hby d_prog_67_method_4_code_21) rfl k) ?_
      refine own_go (own_ldJ X hx hZ eL LK (i := j) (v := (.long ((own_one aq) j))) hxi (own_rget _ hjw) (g := (mkF m 23 #[.val (.ref r), .val (.int x), .val (.ref kn), .val (.int (x - (1 : Int32))), .val (.int xj), .val (.long bw), .second, u7] [(.int xj), (.ref kp)])) rfl rfl (hb hby d_prog_67_method_4_code_23)) ?_
      refine own_go (fun t k => XS.aloadN X.here hx rfl (hb hby d_prog_67_method_4_code_24) rfl rfl k) ?_
      obtain ⟨T4z, X4z, e4z, st4z⟩ := getF X hx hZ hown (host := "") (Or.inl (own_hw hw 15 rfl)) Via.refl eL IL.2.2.1 (g := (mkF m 25 #[.val (.ref r), .val (.int x), .val (.ref kn), .val (.int (x - (1 : Int32))), .val (.int xj), .val (.long bw), .second, u7] [(.ref r), (.long ((own_one aq) j))])) rfl rfl (hb hby d_prog_67_method_4_code_25)
      refine own_go st4z ?_
      show own_G p e below (T4z.setTop (mkF m 28 #[.val (.ref r), .val (.int x), .val (.ref kn), .val (.int (x - (1 : Int32))), .val (.int xj), .val (.long bw), .second, u7] [(.ref (A 0)), (.long ((own_one aq) j))])) _
      refine own_go (fun t k => XS.iloadN X4z.here hx rfl (hb hby d_prog_67_method_4_code_28) rfl k) ?_
      refine own_go (own_ldA X4z hx hZ e4z IL.2.2.2.2.2.2.2.2.2.1 rfl (i := q) (v := (.ref (rows q))) (own_sub1 hq hqN hN) (own_rget (fun i => Value.ref (rows i)) hqN) (g := (mkF m 29 #[.val (.ref r), .val (.int x), .val (.ref kn), .val (.int (x - (1 : Int32))), .val (.int xj), .val (.long bw), .second, u7] [(.int (x - (1 : Int32))), (.ref (A 0)), (.long ((own_one aq) j))])) rfl rfl (hb hby d_prog_67_method_4_code_29)) ?_
      refine own_go (fun t k => XS.iload X4z.here hx rfl (hb hby d_prog_67_method_4_code_30) rfl k) ?_
      refine own_go (own_ldJ X4z hx hZ e4z (IL.2.2.2.2.2.2.2.2.2.2.2.2.2.2.2 q hqN).1 (i := j) (v := (.long ((rc q) j))) hxi (own_rget _ hjw) (g := (mkF m 32 #[.val (.ref r), .val (.int x), .val (.ref kn), .val (.int (x - (1 : Int32))), .val (.int xj), .val (.long bw), .second, u7] [(.int xj), (.ref (rows q)), (.long ((own_one aq) j))])) rfl rfl (hb hby d_prog_67_method_4_code_32)) ?_
      show own_G p e below (T4z.setTop (mkF m 33 #[.val (.ref r), .val (.int x), .val (.ref kn), .val (.int (x - (1 : Int32))), .val (.int xj), .val (.long bw), .second, u7] [(.long ((rc q) j)), (.long ((own_one aq) j))])) _
      refine own_go (fun t k => X4z.ldc2J hx hown (mvT hZ (own_hw hw 73 rfl)) rfl (hb hby d_prog_67_method_4_code_33) k) ?_
      refine own_go (fun t k => XS.lxor X4z.here hx rfl (hb hby d_prog_67_method_4_code_36) rfl k) ?_
      refine own_go (fun t k => XS.land X4z.here hx rfl (hb hby d_prog_67_method_4_code_37) rfl k) ?_
      show own_G p e below (T4z.setTop (mkF m 38 #[.val (.ref r), .val (.int x), .val (.ref kn), .val (.int (x - (1 : Int32))), .val (.int xj), .val (.long bw), .second, u7] [(.long (((own_one aq) j) &&& (((rc q) j) ^^^ (-1 : Int64))))])) _
      by_cases ej5z : j = aq / 64
      · rw [own_bits1 ej5z ((fun _ => hz j) ej5z)]
        obtain rfl := hu (by omega)
        show own_G p e below (T4z.setTop (mkF m 38 #[.val (.ref r), .val (.int x), .val (.ref kn), .val (.int (x - (1 : Int32))), .val (.int xj), .val (.long bw), .second, .unset] [(.long (own_B aq))])) _
        refine own_go (fun t k => XS.lstore X4z.here hx rfl (hb hby d_prog_67_method_4_code_38) rfl (l' := #[.val (.ref r), .val (.int x), .val (.ref kn), .val (.int (x - (1 : Int32))), .val (.int xj), .val (.long (own_B aq)), .second, .unset]) rfl k) ?_
        refine own_go (fun t k => XS.lload X4z.here hx rfl (hb hby d_prog_67_method_4_code_40) rfl k) ?_
        refine own_go (fun t k => XS.lconst X4z.here hx rfl (hb hby d_prog_67_method_4_code_42) k) ?_
        refine own_go (fun t k => XS.lcmp X4z.here hx rfl (hb hby d_prog_67_method_4_code_43) rfl k) ?_
        show own_G p e below (T4z.setTop (mkF m 44 #[.val (.ref r), .val (.int x), .val (.ref kn), .val (.int (x - (1 : Int32))), .val (.int xj), .val (.long (own_B aq)), .second, .unset] [(.int (lcmpW (own_B aq) (0 : Int64)))])) _
        refine own_go (fun t k => XS.ifNo X4z.here hx rfl (hb hby d_prog_67_method_4_code_44) rfl ((if0 _ _).trans (feq (fun q_z => (own_B_ne aq) ((lw_eq (own_B aq) (0 : Int64)).mp q_z))).1) k) ?_
        show own_G p e below (T4z.setTop (mkF m 47 #[.val (.ref r), .val (.int x), .val (.ref kn), .val (.int (x - (1 : Int32))), .val (.int xj), .val (.long (own_B aq)), .second, .unset] [])) _
        refine own_go (fun t k => XS.iload X4z.here hx rfl (hb hby d_prog_67_method_4_code_47) rfl k) ?_
        refine own_go (fun t k => XS.bipush X4z.here hx rfl (hb hby d_prog_67_method_4_code_49) k) ?_
        refine own_go (fun t k => XS.imul X4z.here hx rfl (hb hby d_prog_67_method_4_code_51) rfl k) ?_
        refine own_go (fun t k => XS.lload X4z.here hx rfl (hb hby d_prog_67_method_4_code_52) rfl k) ?_
        show own_G p e below (T4z.setTop (mkF m 54 #[.val (.ref r), .val (.int x), .val (.ref kn), .val (.int (x - (1 : Int32))), .val (.int xj), .val (.long (own_B aq)), .second, .unset] [(.long (own_B aq)), (.int (xj * (64 : Int32)))])) _
        obtain ⟨_, _, ⟨T6z, L6z, k6z, n6z⟩, -, X6z, ⟨Lc6z, hQ6z, l6z, y6z, z6z⟩, st6z⟩ := Jvm.LawKit.callS X4z hx (y := own_m5) hown (own_mw hZ hw 74 rfl) (own_mw hZ hw 75 rfl) (own_mw hZ hw 76 rfl) (own_mw hZ hw 77 rfl) (by decide) (backOf (W := 1) (own_nzl l Z a0 hw [] (own_B aq) h OL) hZ (own_hw hw 77 rfl) (own_hw hw 76 rfl) (by decide) (by decide)) (g := (mkF m 54 #[.val (.ref r), .val (.int x), .val (.ref kn), .val (.int (x - (1 : Int32))), .val (.int xj), .val (.long (own_B aq)), .second, .unset] [(.long (own_B aq)), (.int (xj * (64 : Int32)))])) rfl (by rw [hml]; rfl) (argsL := [(.long (own_B aq))]) (rest := [(.int (xj * (64 : Int32)))]) (lenOf pd_2087993097 rfl) rfl (by show 2 * 0 + _ ≤ _; exact Nat.le_of_eq rfl) (hb hby d_prog_67_method_4_code_54) (fun _ _ => ⟨rfl, e4z, (by decide : 0 + 0 ≤ _), (by decide : 0 + 0 ≤ _)⟩)
        dsimp only [Pt.U, Pt.locs, Pt.cells, Pt.slots] at X6z l6z y6z z6z st6z hQ6z
        subst l6z y6z z6z
        obtain ⟨rfl, NQ6z, K6zq⟩ := hQ6z
        refine own_go st6z ?_
        have N6z := Fr.app NL NQ6z
        show own_G p e below (T6z.setTop (mkF m 57 #[.val (.ref r), .val (.int x), .val (.ref kn), .val (.int (x - (1 : Int32))), .val (.int xj), .val (.long (own_B aq)), .second, .unset] [(.int (own_ntzL (own_B aq))), (.int (xj * (64 : Int32)))])) _
        refine own_go (fun t k => XS.iadd X6z.here hx rfl (hb hby d_prog_67_method_4_code_57) rfl k) ?_
        refine own_go (fun t k => XS.istore X6z.here hx rfl (hb hby d_prog_67_method_4_code_58) rfl (l' := #[.val (.ref r), .val (.int x), .val (.ref kn), .val (.int (x - (1 : Int32))), .val (.int xj), .val (.long (own_B aq)), .second, .val (.int ((xj * (64 : Int32)) + (own_ntzL (own_B aq))))]) rfl k) ?_
        refine own_go (fun t k => XS.lload X6z.here hx rfl (hb hby d_prog_67_method_4_code_60) rfl k) ?_
        refine own_go (fun t k => XS.lload X6z.here hx rfl (hb hby d_prog_67_method_4_code_62) rfl k) ?_
        show own_G p e below (T6z.setTop (mkF m 64 #[.val (.ref r), .val (.int x), .val (.ref kn), .val (.int (x - (1 : Int32))), .val (.int xj), .val (.long (own_B aq)), .second, .val (.int ((xj * (64 : Int32)) + (own_ntzL (own_B aq))))] [(.long (own_B aq)), (.long (own_B aq))])) _
        refine own_go (fun t k => XS.lconst X6z.here hx rfl (hb hby d_prog_67_method_4_code_64) k) ?_
        refine own_go (fun t k => XS.lsub X6z.here hx rfl (hb hby d_prog_67_method_4_code_65) rfl k) ?_
        refine own_go (fun t k => XS.land X6z.here hx rfl (hb hby d_prog_67_method_4_code_66) rfl k) ?_
        refine own_go (fun t k => XS.lstore X6z.here hx rfl (hb hby d_prog_67_method_4_code_67) rfl (l' := #[.val (.ref r), .val (.int x), .val (.ref kn), .val (.int (x - (1 : Int32))), .val (.int xj), .val (.long ((own_B aq) &&& ((own_B aq) - (1 : Int64)))), .second, .val (.int ((xj * (64 : Int32)) + (own_ntzL (own_B aq))))]) rfl k) ?_
        show own_G p e below (T6z.setTop (mkF m 69 #[.val (.ref r), .val (.int x), .val (.ref kn), .val (.int (x - (1 : Int32))), .val (.int xj), .val (.long ((own_B aq) &&& ((own_B aq) - (1 : Int64)))), .second, .val (.int ((xj * (64 : Int32)) + (own_ntzL (own_B aq))))] [])) _
        refine own_go (fun t k => XS.aloadN X6z.here hx rfl (hb hby d_prog_67_method_4_code_69) rfl rfl k) ?_
        obtain ⟨T7z, X7z, e7z, st7z⟩ := getF X6z hx hZ hown (host := "") (Or.inl (own_hw hw 26 rfl)) Via.refl K6zq IL.2.2.2.2.2.2.1 (g := (mkF m 70 #[.val (.ref r), .val (.int x), .val (.ref kn), .val (.int (x - (1 : Int32))), .val (.int xj), .val (.long ((own_B aq) &&& ((own_B aq) - (1 : Int64)))), .second, .val (.int ((xj * (64 : Int32)) + (own_ntzL (own_B aq))))] [(.ref r)])) rfl rfl (hb hby d_prog_67_method_4_code_70)
        refine own_go st7z ?_
        refine own_go (fun t k => XS.iload X7z.here hx rfl (hb hby d_prog_67_method_4_code_73) rfl k) ?_
        refine own_go (own_ldJ X7z hx hZ e7z IL.2.2.2.2.2.2.2.2.2.2.2.2.2.1 (i := aq) (v := (.long (ra aq))) (own_other hxi ej5z (by omega)) (own_rget _ haN) (g := (mkF m 75 #[.val (.ref r), .val (.int x), .val (.ref kn), .val (.int (x - (1 : Int32))), .val (.int xj), .val (.long ((own_B aq) &&& ((own_B aq) - (1 : Int64)))), .second, .val (.int ((xj * (64 : Int32)) + (own_ntzL (own_B aq))))] [(.int ((xj * (64 : Int32)) + (own_ntzL (own_B aq)))), (.ref (A 4))])) rfl rfl (hb hby d_prog_67_method_4_code_75)) ?_
        show own_G p e below (T7z.setTop (mkF m 76 #[.val (.ref r), .val (.int x), .val (.ref kn), .val (.int (x - (1 : Int32))), .val (.int xj), .val (.long ((own_B aq) &&& ((own_B aq) - (1 : Int64)))), .second, .val (.int ((xj * (64 : Int32)) + (own_ntzL (own_B aq))))] [(.long (ra aq))])) _
        refine own_go (fun t k => XS.aloadN X7z.here hx rfl (hb hby d_prog_67_method_4_code_76) rfl rfl k) ?_
        refine own_go (own_getR X7z hx hZ hown (own_hw hw 83 rfl) Via.refl e7z (q13.keep KL kno) (g := (mkF m 77 #[.val (.ref r), .val (.int x), .val (.ref kn), .val (.int (x - (1 : Int32))), .val (.int xj), .val (.long ((own_B aq) &&& ((own_B aq) - (1 : Int64)))), .second, .val (.int ((xj * (64 : Int32)) + (own_ntzL (own_B aq))))] [(.ref kn), (.long (ra aq))])) rfl rfl (hb hby d_prog_67_method_4_code_77)) ?_
        show own_G p e below (T7z.setTop (mkF m 80 #[.val (.ref r), .val (.int x), .val (.ref kn), .val (.int (x - (1 : Int32))), .val (.int xj), .val (.long ((own_B aq) &&& ((own_B aq) - (1 : Int64)))), .second, .val (.int ((xj * (64 : Int32)) + (own_ntzL (own_B aq))))] [(.long sv), (.long (ra aq))])) _
        refine own_go (fun t k => XS.lcmp X7z.here hx rfl (hb hby d_prog_67_method_4_code_80) rfl k) ?_
        refine own_go (fun t k => XS.ifYes X7z.here hx rfl (pc0 := 81) (pc' := 100) rfl (hb hby d_prog_67_method_4_code_81) rfl ((if0 _ _).trans (tlt ((lw_gt (ra aq) sv).mpr hsv)).2.2.1) (by decide) (by decide) k) ?_
        show own_G p e below (T7z.setTop (mkF m 100 #[.val (.ref r), .val (.int x), .val (.ref kn), .val (.int (x - (1 : Int32))), .val (.int xj), .val (.long ((own_B aq) &&& ((own_B aq) - (1 : Int64)))), .second, .val (.int ((xj * (64 : Int32)) + (own_ntzL (own_B aq))))] [])) _
        refine own_go (fun t k => XS.goto X7z.here hx rfl (pc0 := 100) (pc' := 40) rfl (hb hby d_prog_67_method_4_code_100) (by decide) (by decide) k) ?_
        show own_G p e below (T7z.setTop (mkF m 40 #[.val (.ref r), .val (.int x), .val (.ref kn), .val (.int (x - (1 : Int32))), .val (.int xj), .val (.long ((own_B aq) &&& ((own_B aq) - (1 : Int64)))), .second, .val (.int ((xj * (64 : Int32)) + (own_ntzL (own_B aq))))] [])) _
        refine own_go (fun t k => XS.lload X7z.here hx rfl (hb hby d_prog_67_method_4_code_40) rfl k) ?_
        refine own_go (fun t k => XS.lconst X7z.here hx rfl (hb hby d_prog_67_method_4_code_42) k) ?_
        refine own_go (fun t k => XS.lcmp X7z.here hx rfl (hb hby d_prog_67_method_4_code_43) rfl k) ?_
        refine own_go (fun t k => XS.ifYes X7z.here hx rfl (pc0 := 44) (pc' := 103) rfl (hb hby d_prog_67_method_4_code_44) rfl ((if0 _ _).trans (teq ((lw_eq ((own_B aq) &&& ((own_B aq) - (1 : Int64))) (0 : Int64)).mpr (own_B_pred aq))).1) (by decide) (by decide) k) ?_
        show own_G p e below (T7z.setTop (mkF m 103 #[.val (.ref r), .val (.int x), .val (.ref kn), .val (.int (x - (1 : Int32))), .val (.int xj), .val (.long ((own_B aq) &&& ((own_B aq) - (1 : Int64)))), .second, .val (.int ((xj * (64 : Int32)) + (own_ntzL (own_B aq))))] [])) _
        refine own_go (fun t k => XS.iinc X7z.here hx rfl (hb hby d_prog_67_method_4_code_103) rfl (l' := #[.val (.ref r), .val (.int x), .val (.ref kn), .val (.int (x - (1 : Int32))), .val (.int (xj + (1 : Int32))), .val (.long ((own_B aq) &&& ((own_B aq) - (1 : Int64)))), .second, .val (.int ((xj * (64 : Int32)) + (own_ntzL (own_B aq))))]) rfl k) ?_
        refine own_go (fun t k => XS.goto X7z.here hx rfl (pc0 := 106) (pc' := 7) rfl (hb hby d_prog_67_method_4_code_106) (by decide) (by decide) k) ?_
        show own_G p e below (T7z.setTop (mkF m 7 #[.val (.ref r), .val (.int x), .val (.ref kn), .val (.int (x - (1 : Int32))), .val (.int (xj + (1 : Int32))), .val (.long ((own_B aq) &&& ((own_B aq) - (1 : Int64)))), .second, .val (.int ((xj * (64 : Int32)) + (own_ntzL (own_B aq))))] [])) _
        exact ih (j + 1) _ _ _ _ _ _ (by omega) (own_inc hxi hjw (by omega : wd ≤ 129)) X7z e7z N6z OL KL IL (fun q => absurd q (by omega)) LK
      · rw [own_bits0 ej5z]
        show own_G p e below (T4z.setTop (mkF m 38 #[.val (.ref r), .val (.int x), .val (.ref kn), .val (.int (x - (1 : Int32))), .val (.int xj), .val (.long bw), .second, u7] [(.long (0 : Int64))])) _
        refine own_go (fun t k => XS.lstore X4z.here hx rfl (hb hby d_prog_67_method_4_code_38) rfl (l' := #[.val (.ref r), .val (.int x), .val (.ref kn), .val (.int (x - (1 : Int32))), .val (.int xj), .val (.long (0 : Int64)), .second, u7]) rfl k) ?_
        refine own_go (fun t k => XS.lload X4z.here hx rfl (hb hby d_prog_67_method_4_code_40) rfl k) ?_
        refine own_go (fun t k => XS.lconst X4z.here hx rfl (hb hby d_prog_67_method_4_code_42) k) ?_
        refine own_go (fun t k => XS.lcmp X4z.here hx rfl (hb hby d_prog_67_method_4_code_43) rfl k) ?_
        show own_G p e below (T4z.setTop (mkF m 44 #[.val (.ref r), .val (.int x), .val (.ref kn), .val (.int (x - (1 : Int32))), .val (.int xj), .val (.long (0 : Int64)), .second, u7] [(.int (lcmpW (0 : Int64) (0 : Int64)))])) _
        refine own_go (fun t k => XS.ifYes X4z.here hx rfl (pc0 := 44) (pc' := 103) rfl (hb hby d_prog_67_method_4_code_44) rfl ((if0 _ _).trans (teq ((lw_eq (0 : Int64) (0 : Int64)).mpr (by decide : (0 : Int64) = (0 : Int64)))).1) (by decide) (by decide) k) ?_
        show own_G p e below (T4z.setTop (mkF m 103 #[.val (.ref r), .val (.int x), .val (.ref kn), .val (.int (x - (1 : Int32))), .val (.int xj), .val (.long (0 : Int64)), .second, u7] [])) _
        refine own_go (fun t k => XS.iinc X4z.here hx rfl (hb hby d_prog_67_method_4_code_103) rfl (l' := #[.val (.ref r), .val (.int x), .val (.ref kn), .val (.int (x - (1 : Int32))), .val (.int (xj + (1 : Int32))), .val (.long (0 : Int64)), .second, u7]) rfl k) ?_
        refine own_go (fun t k => XS.goto X4z.here hx rfl (pc0 := 106) (pc' := 7) rfl (hb hby d_prog_67_method_4_code_106) (by decide) (by decide) k) ?_
        show own_G p e below (T4z.setTop (mkF m 7 #[.val (.ref r), .val (.int x), .val (.ref kn), .val (.int (x - (1 : Int32))), .val (.int (xj + (1 : Int32))), .val (.long (0 : Int64)), .second, u7] [])) _
        exact ih (j + 1) _ _ _ _ _ _ (by omega) (own_inc hxi hjw (by omega : wd ≤ 129)) X4z e4z NL OL KL IL (fun q => hu (by omega)) LK
  have hw0 : 0 < wd := Nat.lt_of_le_of_lt (Nat.zero_le _) (hNw q hqN)
  refine own_go (fun t k => XS.iload X0.here hx rfl (hb hby d_prog_67_method_4_code_7) rfl k) ?_
  refine own_go (fun t k => XS.aloadN X0.here hx rfl (hb hby d_prog_67_method_4_code_9) rfl rfl k) ?_
  show own_G p e below (s₁.setTop (mkF m 10 #[.val (.ref r), .val (.int x), .val (.ref kn), .val (.int (x - (1 : Int32))), .val (.int (0 : Int32)), .unset, .unset, .unset] [(.ref kn), (.int (0 : Int32))])) _
  refine own_go (own_getR X0 hx hZ hown (own_hw hw 72 rfl) Via.refl e0 q12 (g := (mkF m 10 #[.val (.ref r), .val (.int x), .val (.ref kn), .val (.int (x - (1 : Int32))), .val (.int (0 : Int32)), .unset, .unset, .unset] [(.ref kn), (.int (0 : Int32))])) rfl rfl (hb hby d_prog_67_method_4_code_10)) ?_
  show own_G p e below (s₁.setTop (mkF m 13 #[.val (.ref r), .val (.int x), .val (.ref kn), .val (.int (x - (1 : Int32))), .val (.int (0 : Int32)), .unset, .unset, .unset] [(.ref kp), (.int (0 : Int32))])) _
  refine own_go (own_len X0 hx hZ e0 q14 (z := (Int32.ofNat wd)) (by rw [own_rlen]; exact own_ofN (by omega)) (g := (mkF m 13 #[.val (.ref r), .val (.int x), .val (.ref kn), .val (.int (x - (1 : Int32))), .val (.int (0 : Int32)), .unset, .unset, .unset] [(.ref kp), (.int (0 : Int32))])) rfl rfl (hb hby d_prog_67_method_4_code_13)) ?_
  refine own_go (fun t k => XS.icmpNo X0.here hx rfl (hb hby d_prog_67_method_4_code_14) rfl (tlt ((own_ltN (by decide : ((0 : Int32)).toInt = ((0 : Nat) : Int)) (by omega)).mpr hw0)).2.1 k) ?_
  show own_G p e below (s₁.setTop (mkF m 17 #[.val (.ref r), .val (.int x), .val (.ref kn), .val (.int (x - (1 : Int32))), .val (.int (0 : Int32)), .unset, .unset, .unset] [])) _
  refine own_go (fun t k => XS.aloadN X0.here hx rfl (hb hby d_prog_67_method_4_code_17) rfl rfl k) ?_
  refine own_go (own_getR X0 hx hZ hown (own_hw hw 72 rfl) Via.refl e0 q12 (g := (mkF m 18 #[.val (.ref r), .val (.int x), .val (.ref kn), .val (.int (x - (1 : Int32))), .val (.int (0 : Int32)), .unset, .unset, .unset] [(.ref kn)])) rfl rfl (hb hby d_prog_67_method_4_code_18)) ?_
  show own_G p e below (s₁.setTop (mkF m 21 #[.val (.ref r), .val (.int x), .val (.ref kn), .val (.int (x - (1 : Int32))), .val (.int (0 : Int32)), .unset, .unset, .unset] [(.ref kp)])) _
  refine own_go (fun t k => XS.iload X0.here hx rfl (hb hby d_prog_67_method_4_code_21) rfl k) ?_
  refine own_go (own_ldJ X0 hx hZ e0 q14 (i := 0) (v := (.long ((own_one aq) 0))) (by decide : ((0 : Int32)).toInt = ((0 : Nat) : Int)) (own_rget _ hw0) (g := (mkF m 23 #[.val (.ref r), .val (.int x), .val (.ref kn), .val (.int (x - (1 : Int32))), .val (.int (0 : Int32)), .unset, .unset, .unset] [(.int (0 : Int32)), (.ref kp)])) rfl rfl (hb hby d_prog_67_method_4_code_23)) ?_
  refine own_go (fun t k => XS.aloadN X0.here hx rfl (hb hby d_prog_67_method_4_code_24) rfl rfl k) ?_
  obtain ⟨T11z, X11z, e11z, st11z⟩ := getF X0 hx hZ hown (host := "") (Or.inl (own_hw hw 15 rfl)) Via.refl e0 II.2.2.1 (g := (mkF m 25 #[.val (.ref r), .val (.int x), .val (.ref kn), .val (.int (x - (1 : Int32))), .val (.int (0 : Int32)), .unset, .unset, .unset] [(.ref r), (.long ((own_one aq) 0))])) rfl rfl (hb hby d_prog_67_method_4_code_25)
  refine own_go st11z ?_
  show own_G p e below (T11z.setTop (mkF m 28 #[.val (.ref r), .val (.int x), .val (.ref kn), .val (.int (x - (1 : Int32))), .val (.int (0 : Int32)), .unset, .unset, .unset] [(.ref (A 0)), (.long ((own_one aq) 0))])) _
  refine own_go (fun t k => XS.iloadN X11z.here hx rfl (hb hby d_prog_67_method_4_code_28) rfl k) ?_
  refine own_go (own_ldA X11z hx hZ e11z II.2.2.2.2.2.2.2.2.2.1 rfl (i := q) (v := (.ref (rows q))) (own_sub1 hq hqN hN) (own_rget (fun i => Value.ref (rows i)) hqN) (g := (mkF m 29 #[.val (.ref r), .val (.int x), .val (.ref kn), .val (.int (x - (1 : Int32))), .val (.int (0 : Int32)), .unset, .unset, .unset] [(.int (x - (1 : Int32))), (.ref (A 0)), (.long ((own_one aq) 0))])) rfl rfl (hb hby d_prog_67_method_4_code_29)) ?_
  refine own_go (fun t k => XS.iload X11z.here hx rfl (hb hby d_prog_67_method_4_code_30) rfl k) ?_
  refine own_go (own_ldJ X11z hx hZ e11z (II.2.2.2.2.2.2.2.2.2.2.2.2.2.2.2 q hqN).1 (i := 0) (v := (.long ((rc q) 0))) (by decide : ((0 : Int32)).toInt = ((0 : Nat) : Int)) (own_rget _ hw0) (g := (mkF m 32 #[.val (.ref r), .val (.int x), .val (.ref kn), .val (.int (x - (1 : Int32))), .val (.int (0 : Int32)), .unset, .unset, .unset] [(.int (0 : Int32)), (.ref (rows q)), (.long ((own_one aq) 0))])) rfl rfl (hb hby d_prog_67_method_4_code_32)) ?_
  show own_G p e below (T11z.setTop (mkF m 33 #[.val (.ref r), .val (.int x), .val (.ref kn), .val (.int (x - (1 : Int32))), .val (.int (0 : Int32)), .unset, .unset, .unset] [(.long ((rc q) 0)), (.long ((own_one aq) 0))])) _
  refine own_go (fun t k => X11z.ldc2J hx hown (mvT hZ (own_hw hw 73 rfl)) rfl (hb hby d_prog_67_method_4_code_33) k) ?_
  refine own_go (fun t k => XS.lxor X11z.here hx rfl (hb hby d_prog_67_method_4_code_36) rfl k) ?_
  refine own_go (fun t k => XS.land X11z.here hx rfl (hb hby d_prog_67_method_4_code_37) rfl k) ?_
  show own_G p e below (T11z.setTop (mkF m 38 #[.val (.ref r), .val (.int x), .val (.ref kn), .val (.int (x - (1 : Int32))), .val (.int (0 : Int32)), .unset, .unset, .unset] [(.long (((own_one aq) 0) &&& (((rc q) 0) ^^^ (-1 : Int64))))])) _
  by_cases ej12z : 0 = aq / 64
  · rw [own_bits1 ej12z ((fun _ => hz 0) ej12z)]
    show own_G p e below (T11z.setTop (mkF m 38 #[.val (.ref r), .val (.int x), .val (.ref kn), .val (.int (x - (1 : Int32))), .val (.int (0 : Int32)), .unset, .unset, .unset] [(.long (own_B aq))])) _
    refine own_go (fun t k => XS.lstore X11z.here hx rfl (hb hby d_prog_67_method_4_code_38) rfl (l' := #[.val (.ref r), .val (.int x), .val (.ref kn), .val (.int (x - (1 : Int32))), .val (.int (0 : Int32)), .val (.long (own_B aq)), .second, .unset]) rfl k) ?_
    refine own_go (fun t k => XS.lload X11z.here hx rfl (hb hby d_prog_67_method_4_code_40) rfl k) ?_
    refine own_go (fun t k => XS.lconst X11z.here hx rfl (hb hby d_prog_67_method_4_code_42) k) ?_
    refine own_go (fun t k => XS.lcmp X11z.here hx rfl (hb hby d_prog_67_method_4_code_43) rfl k) ?_
    show own_G p e below (T11z.setTop (mkF m 44 #[.val (.ref r), .val (.int x), .val (.ref kn), .val (.int (x - (1 : Int32))), .val (.int (0 : Int32)), .val (.long (own_B aq)), .second, .unset] [(.int (lcmpW (own_B aq) (0 : Int64)))])) _
    refine own_go (fun t k => XS.ifNo X11z.here hx rfl (hb hby d_prog_67_method_4_code_44) rfl ((if0 _ _).trans (feq (fun q_z => (own_B_ne aq) ((lw_eq (own_B aq) (0 : Int64)).mp q_z))).1) k) ?_
    show own_G p e below (T11z.setTop (mkF m 47 #[.val (.ref r), .val (.int x), .val (.ref kn), .val (.int (x - (1 : Int32))), .val (.int (0 : Int32)), .val (.long (own_B aq)), .second, .unset] [])) _
    refine own_go (fun t k => XS.iload X11z.here hx rfl (hb hby d_prog_67_method_4_code_47) rfl k) ?_
    refine own_go (fun t k => XS.bipush X11z.here hx rfl (hb hby d_prog_67_method_4_code_49) k) ?_
    refine own_go (fun t k => XS.imul X11z.here hx rfl (hb hby d_prog_67_method_4_code_51) rfl k) ?_
    refine own_go (fun t k => XS.lload X11z.here hx rfl (hb hby d_prog_67_method_4_code_52) rfl k) ?_
    show own_G p e below (T11z.setTop (mkF m 54 #[.val (.ref r), .val (.int x), .val (.ref kn), .val (.int (x - (1 : Int32))), .val (.int (0 : Int32)), .val (.long (own_B aq)), .second, .unset] [(.long (own_B aq)), (.int ((0 : Int32) * (64 : Int32)))])) _
    obtain ⟨_, _, ⟨T13z, L13z, k13z, n13z⟩, -, X13z, ⟨Lc13z, hQ13z, l13z, y13z, z13z⟩, st13z⟩ := Jvm.LawKit.callS X11z hx (y := own_m5) hown (own_mw hZ hw 74 rfl) (own_mw hZ hw 75 rfl) (own_mw hZ hw 76 rfl) (own_mw hZ hw 77 rfl) (by decide) (backOf (W := 1) (own_nzl l Z a0 hw [] (own_B aq) h0 O0) hZ (own_hw hw 77 rfl) (own_hw hw 76 rfl) (by decide) (by decide)) (g := (mkF m 54 #[.val (.ref r), .val (.int x), .val (.ref kn), .val (.int (x - (1 : Int32))), .val (.int (0 : Int32)), .val (.long (own_B aq)), .second, .unset] [(.long (own_B aq)), (.int ((0 : Int32) * (64 : Int32)))])) rfl (by rw [hml]; rfl) (argsL := [(.long (own_B aq))]) (rest := [(.int ((0 : Int32) * (64 : Int32)))]) (lenOf pd_2087993097 rfl) rfl (by show 2 * 0 + _ ≤ _; exact Nat.le_of_eq rfl) (hb hby d_prog_67_method_4_code_54) (fun _ _ => ⟨rfl, e11z, (by decide : 0 + 0 ≤ _), (by decide : 0 + 0 ≤ _)⟩)
    dsimp only [Pt.U, Pt.locs, Pt.cells, Pt.slots] at X13z l13z y13z z13z st13z hQ13z
    subst l13z y13z z13z
    obtain ⟨rfl, NQ13z, K13zq⟩ := hQ13z
    refine own_go st13z ?_
    have N13z := Fr.app N0 NQ13z
    show own_G p e below (T13z.setTop (mkF m 57 #[.val (.ref r), .val (.int x), .val (.ref kn), .val (.int (x - (1 : Int32))), .val (.int (0 : Int32)), .val (.long (own_B aq)), .second, .unset] [(.int (own_ntzL (own_B aq))), (.int ((0 : Int32) * (64 : Int32)))])) _
    refine own_go (fun t k => XS.iadd X13z.here hx rfl (hb hby d_prog_67_method_4_code_57) rfl k) ?_
    refine own_go (fun t k => XS.istore X13z.here hx rfl (hb hby d_prog_67_method_4_code_58) rfl (l' := #[.val (.ref r), .val (.int x), .val (.ref kn), .val (.int (x - (1 : Int32))), .val (.int (0 : Int32)), .val (.long (own_B aq)), .second, .val (.int (((0 : Int32) * (64 : Int32)) + (own_ntzL (own_B aq))))]) rfl k) ?_
    refine own_go (fun t k => XS.lload X13z.here hx rfl (hb hby d_prog_67_method_4_code_60) rfl k) ?_
    refine own_go (fun t k => XS.lload X13z.here hx rfl (hb hby d_prog_67_method_4_code_62) rfl k) ?_
    show own_G p e below (T13z.setTop (mkF m 64 #[.val (.ref r), .val (.int x), .val (.ref kn), .val (.int (x - (1 : Int32))), .val (.int (0 : Int32)), .val (.long (own_B aq)), .second, .val (.int (((0 : Int32) * (64 : Int32)) + (own_ntzL (own_B aq))))] [(.long (own_B aq)), (.long (own_B aq))])) _
    refine own_go (fun t k => XS.lconst X13z.here hx rfl (hb hby d_prog_67_method_4_code_64) k) ?_
    refine own_go (fun t k => XS.lsub X13z.here hx rfl (hb hby d_prog_67_method_4_code_65) rfl k) ?_
    refine own_go (fun t k => XS.land X13z.here hx rfl (hb hby d_prog_67_method_4_code_66) rfl k) ?_
    refine own_go (fun t k => XS.lstore X13z.here hx rfl (hb hby d_prog_67_method_4_code_67) rfl (l' := #[.val (.ref r), .val (.int x), .val (.ref kn), .val (.int (x - (1 : Int32))), .val (.int (0 : Int32)), .val (.long ((own_B aq) &&& ((own_B aq) - (1 : Int64)))), .second, .val (.int (((0 : Int32) * (64 : Int32)) + (own_ntzL (own_B aq))))]) rfl k) ?_
    show own_G p e below (T13z.setTop (mkF m 69 #[.val (.ref r), .val (.int x), .val (.ref kn), .val (.int (x - (1 : Int32))), .val (.int (0 : Int32)), .val (.long ((own_B aq) &&& ((own_B aq) - (1 : Int64)))), .second, .val (.int (((0 : Int32) * (64 : Int32)) + (own_ntzL (own_B aq))))] [])) _
    refine own_go (fun t k => XS.aloadN X13z.here hx rfl (hb hby d_prog_67_method_4_code_69) rfl rfl k) ?_
    obtain ⟨T14z, X14z, e14z, st14z⟩ := getF X13z hx hZ hown (host := "") (Or.inl (own_hw hw 26 rfl)) Via.refl K13zq II.2.2.2.2.2.2.1 (g := (mkF m 70 #[.val (.ref r), .val (.int x), .val (.ref kn), .val (.int (x - (1 : Int32))), .val (.int (0 : Int32)), .val (.long ((own_B aq) &&& ((own_B aq) - (1 : Int64)))), .second, .val (.int (((0 : Int32) * (64 : Int32)) + (own_ntzL (own_B aq))))] [(.ref r)])) rfl rfl (hb hby d_prog_67_method_4_code_70)
    refine own_go st14z ?_
    refine own_go (fun t k => XS.iload X14z.here hx rfl (hb hby d_prog_67_method_4_code_73) rfl k) ?_
    refine own_go (own_ldJ X14z hx hZ e14z II.2.2.2.2.2.2.2.2.2.2.2.2.2.1 (i := aq) (v := (.long (ra aq))) (own_other (by decide : ((0 : Int32)).toInt = ((0 : Nat) : Int)) ej12z (by omega)) (own_rget _ haN) (g := (mkF m 75 #[.val (.ref r), .val (.int x), .val (.ref kn), .val (.int (x - (1 : Int32))), .val (.int (0 : Int32)), .val (.long ((own_B aq) &&& ((own_B aq) - (1 : Int64)))), .second, .val (.int (((0 : Int32) * (64 : Int32)) + (own_ntzL (own_B aq))))] [(.int (((0 : Int32) * (64 : Int32)) + (own_ntzL (own_B aq)))), (.ref (A 4))])) rfl rfl (hb hby d_prog_67_method_4_code_75)) ?_
    show own_G p e below (T14z.setTop (mkF m 76 #[.val (.ref r), .val (.int x), .val (.ref kn), .val (.int (x - (1 : Int32))), .val (.int (0 : Int32)), .val (.long ((own_B aq) &&& ((own_B aq) - (1 : Int64)))), .second, .val (.int (((0 : Int32) * (64 : Int32)) + (own_ntzL (own_B aq))))] [(.long (ra aq))])) _
    refine own_go (fun t k => XS.aloadN X14z.here hx rfl (hb hby d_prog_67_method_4_code_76) rfl rfl k) ?_
    refine own_go (own_getR X14z hx hZ hown (own_hw hw 83 rfl) Via.refl e14z q13 (g := (mkF m 77 #[.val (.ref r), .val (.int x), .val (.ref kn), .val (.int (x - (1 : Int32))), .val (.int (0 : Int32)), .val (.long ((own_B aq) &&& ((own_B aq) - (1 : Int64)))), .second, .val (.int (((0 : Int32) * (64 : Int32)) + (own_ntzL (own_B aq))))] [(.ref kn), (.long (ra aq))])) rfl rfl (hb hby d_prog_67_method_4_code_77)) ?_
    show own_G p e below (T14z.setTop (mkF m 80 #[.val (.ref r), .val (.int x), .val (.ref kn), .val (.int (x - (1 : Int32))), .val (.int (0 : Int32)), .val (.long ((own_B aq) &&& ((own_B aq) - (1 : Int64)))), .second, .val (.int (((0 : Int32) * (64 : Int32)) + (own_ntzL (own_B aq))))] [(.long sv), (.long (ra aq))])) _
    refine own_go (fun t k => XS.lcmp X14z.here hx rfl (hb hby d_prog_67_method_4_code_80) rfl k) ?_
    refine own_go (fun t k => XS.ifYes X14z.here hx rfl (pc0 := 81) (pc' := 100) rfl (hb hby d_prog_67_method_4_code_81) rfl ((if0 _ _).trans (tlt ((lw_gt (ra aq) sv).mpr hsv)).2.2.1) (by decide) (by decide) k) ?_
    show own_G p e below (T14z.setTop (mkF m 100 #[.val (.ref r), .val (.int x), .val (.ref kn), .val (.int (x - (1 : Int32))), .val (.int (0 : Int32)), .val (.long ((own_B aq) &&& ((own_B aq) - (1 : Int64)))), .second, .val (.int (((0 : Int32) * (64 : Int32)) + (own_ntzL (own_B aq))))] [])) _
    refine own_go (fun t k => XS.goto X14z.here hx rfl (pc0 := 100) (pc' := 40) rfl (hb hby d_prog_67_method_4_code_100) (by decide) (by decide) k) ?_
    show own_G p e below (T14z.setTop (mkF m 40 #[.val (.ref r), .val (.int x), .val (.ref kn), .val (.int (x - (1 : Int32))), .val (.int (0 : Int32)), .val (.long ((own_B aq) &&& ((own_B aq) - (1 : Int64)))), .second, .val (.int (((0 : Int32) * (64 : Int32)) + (own_ntzL (own_B aq))))] [])) _
    refine own_go (fun t k => XS.lload X14z.here hx rfl (hb hby d_prog_67_method_4_code_40) rfl k) ?_
    refine own_go (fun t k => XS.lconst X14z.here hx rfl (hb hby d_prog_67_method_4_code_42) k) ?_
    refine own_go (fun t k => XS.lcmp X14z.here hx rfl (hb hby d_prog_67_method_4_code_43) rfl k) ?_
    refine own_go (fun t k => XS.ifYes X14z.here hx rfl (pc0 := 44) (pc' := 103) rfl (hb hby d_prog_67_method_4_code_44) rfl ((if0 _ _).trans (teq ((lw_eq ((own_B aq) &&& ((own_B aq) - (1 : Int64))) (0 : Int64)).mpr (own_B_pred aq))).1) (by decide) (by decide) k) ?_
    show own_G p e below (T14z.setTop (mkF m 103 #[.val (.ref r), .val (.int x), .val (.ref kn), .val (.int (x - (1 : Int32))), .val (.int (0 : Int32)), .val (.long ((own_B aq) &&& ((own_B aq) - (1 : Int64)))), .second, .val (.int (((0 : Int32) * (64 : Int32)) + (own_ntzL (own_B aq))))] [])) _
    refine own_go (fun t k => XS.iinc X14z.here hx rfl (hb hby d_prog_67_method_4_code_103) rfl (l' := #[.val (.ref r), .val (.int x), .val (.ref kn), .val (.int (x - (1 : Int32))), .val (.int (1 : Int32)), .val (.long ((own_B aq) &&& ((own_B aq) - (1 : Int64)))), .second, .val (.int (((0 : Int32) * (64 : Int32)) + (own_ntzL (own_B aq))))]) rfl k) ?_
    refine own_go (fun t k => XS.goto X14z.here hx rfl (pc0 := 106) (pc' := 7) rfl (hb hby d_prog_67_method_4_code_106) (by decide) (by decide) k) ?_
    show own_G p e below (T14z.setTop (mkF m 7 #[.val (.ref r), .val (.int x), .val (.ref kn), .val (.int (x - (1 : Int32))), .val (.int (1 : Int32)), .val (.long ((own_B aq) &&& ((own_B aq) - (1 : Int64)))), .second, .val (.int (((0 : Int32) * (64 : Int32)) + (own_ntzL (own_B aq))))] [])) _
    exact loop1 (wd - 1) (0 + 1) _ _ _ _ _ _ (by omega) (own_inc (by decide : ((0 : Int32)).toInt = ((0 : Nat) : Int)) hw0 (by omega : wd ≤ 129)) X14z e14z N13z O0 K0 II (fun q => absurd q (by omega)) q14
  · rw [own_bits0 ej12z]
    show own_G p e below (T11z.setTop (mkF m 38 #[.val (.ref r), .val (.int x), .val (.ref kn), .val (.int (x - (1 : Int32))), .val (.int (0 : Int32)), .unset, .unset, .unset] [(.long (0 : Int64))])) _
    refine own_go (fun t k => XS.lstore X11z.here hx rfl (hb hby d_prog_67_method_4_code_38) rfl (l' := #[.val (.ref r), .val (.int x), .val (.ref kn), .val (.int (x - (1 : Int32))), .val (.int (0 : Int32)), .val (.long (0 : Int64)), .second, .unset]) rfl k) ?_
    refine own_go (fun t k => XS.lload X11z.here hx rfl (hb hby d_prog_67_method_4_code_40) rfl k) ?_
    refine own_go (fun t k => XS.lconst X11z.here hx rfl (hb hby d_prog_67_method_4_code_42) k) ?_
    refine own_go (fun t k => XS.lcmp X11z.here hx rfl (hb hby d_prog_67_method_4_code_43) rfl k) ?_
    show own_G p e below (T11z.setTop (mkF m 44 #[.val (.ref r), .val (.int x), .val (.ref kn), .val (.int (x - (1 : Int32))), .val (.int (0 : Int32)), .val (.long (0 : Int64)), .second, .unset] [(.int (lcmpW (0 : Int64) (0 : Int64)))])) _
    refine own_go (fun t k => XS.ifYes X11z.here hx rfl (pc0 := 44) (pc' := 103) rfl (hb hby d_prog_67_method_4_code_44) rfl ((if0 _ _).trans (teq ((lw_eq (0 : Int64) (0 : Int64)).mpr (by decide : (0 : Int64) = (0 : Int64)))).1) (by decide) (by decide) k) ?_
    show own_G p e below (T11z.setTop (mkF m 103 #[.val (.ref r), .val (.int x), .val (.ref kn), .val (.int (x - (1 : Int32))), .val (.int (0 : Int32)), .val (.long (0 : Int64)), .second, .unset] [])) _
    refine own_go (fun t k => XS.iinc X11z.here hx rfl (hb hby d_prog_67_method_4_code_103) rfl (l' := #[.val (.ref r), .val (.int x), .val (.ref kn), .val (.int (x - (1 : Int32))), .val (.int (1 : Int32)), .val (.long (0 : Int64)), .second, .unset]) rfl k) ?_
    refine own_go (fun t k => XS.goto X11z.here hx rfl (pc0 := 106) (pc' := 7) rfl (hb hby d_prog_67_method_4_code_106) (by decide) (by decide) k) ?_
    show own_G p e below (T11z.setTop (mkF m 7 #[.val (.ref r), .val (.int x), .val (.ref kn), .val (.int (x - (1 : Int32))), .val (.int (1 : Int32)), .val (.long (0 : Int64)), .second, .unset] [])) _
    exact loop1 (wd - 1) (0 + 1) _ _ _ _ _ _ (by omega) (own_inc (by decide : ((0 : Int32)).toInt = ((0 : Nat) : Int)) hw0 (by omega : wd ≤ 129)) X11z e11z N0 O0 K0 II (fun _ => rfl) q14
theorem own_c3 {c d : Int32} {aq j : Nat} (h : c = (if aq / 64 < j then d else 0)) (e : ¬ j = aq / 64) : c = (if aq / 64 < j + 1 then d else 0) := by
  rw [h]
  by_cases a : aq / 64 < j
  · rw [if_pos a, if_pos (by omega)]
  · rw [if_neg a, if_neg (by omega)]
theorem ef_own_en1 (m : MethodId) (x0 : Addr) (x1 : Int32) : entryFrame m #[(.ref x0), (.int x1)] 9 = mkF m 0 #[.val (.ref x0), .val (.int x1), .unset, .unset, .unset, .unset, .unset, .unset, .unset] [] := by first | (simp [entryFrame, mkF, argsToLocals, Value.category]; done) | rfl
theorem pf_own_en1 : plainFor own_m10 = true := plainFor_of_name (by simp [plainName, overriddenIn])
theorem d_prog_67_method_5_code_0 : decode prog_67_method_5_code 0 = .ok (.iload_n 1, 1) := by decide +kernel
theorem d_prog_67_method_5_code_1 : decode prog_67_method_5_code 1 = .ok (.iconst 1, 1) := by decide +kernel
theorem d_prog_67_method_5_code_10 : decode prog_67_method_5_code 10 = .ok (.ladd, 1) := by decide +kernel
theorem d_prog_67_method_5_code_101 : decode prog_67_method_5_code 101 = .ok (.aload_n 0, 1) := by decide +kernel
theorem d_prog_67_method_5_code_102 : decode prog_67_method_5_code 102 = .ok (.getfield 37, 3) := by decide +kernel
theorem d_prog_67_method_5_code_105 : decode prog_67_method_5_code 105 = .ok (.iload 8, 2) := by decide +kernel
theorem d_prog_67_method_5_code_107 : decode prog_67_method_5_code 107 = .ok (.laload, 1) := by decide +kernel
theorem d_prog_67_method_5_code_108 : decode prog_67_method_5_code 108 = .ok (.aload_n 0, 1) := by decide +kernel
theorem d_prog_67_method_5_code_109 : decode prog_67_method_5_code 109 = .ok (.getfield 34, 3) := by decide +kernel
theorem d_prog_67_method_5_code_11 : decode prog_67_method_5_code 11 = .ok (.putfield 40, 3) := by decide +kernel
theorem d_prog_67_method_5_code_112 : decode prog_67_method_5_code 112 = .ok (.iload_n 2, 1) := by decide +kernel
theorem d_prog_67_method_5_code_113 : decode prog_67_method_5_code 113 = .ok (.laload, 1) := by decide +kernel
theorem d_prog_67_method_5_code_114 : decode prog_67_method_5_code 114 = .ok (.lcmp, 1) := by decide +kernel
theorem d_prog_67_method_5_code_115 : decode prog_67_method_5_code 115 = .ok (.ifCond .ge 6, 3) := by decide +kernel
theorem d_prog_67_method_5_code_118 : decode prog_67_method_5_code 118 = .ok (.iinc 3 1, 3) := by decide +kernel
theorem d_prog_67_method_5_code_121 : decode prog_67_method_5_code 121 = .ok (.goto (-49), 3) := by decide +kernel
theorem d_prog_67_method_5_code_124 : decode prog_67_method_5_code 124 = .ok (.iinc 5 1, 3) := by decide +kernel
theorem d_prog_67_method_5_code_127 : decode prog_67_method_5_code 127 = .ok (.goto (-70), 3) := by decide +kernel
theorem d_prog_67_method_5_code_130 : decode prog_67_method_5_code 130 = .ok (.aload_n 0, 1) := by decide +kernel
theorem d_prog_67_method_5_code_131 : decode prog_67_method_5_code 131 = .ok (.getfield 28, 3) := by decide +kernel
theorem d_prog_67_method_5_code_134 : decode prog_67_method_5_code 134 = .ok (.iload_n 2, 1) := by decide +kernel
theorem d_prog_67_method_5_code_135 : decode prog_67_method_5_code 135 = .ok (.aconst_null, 1) := by decide +kernel
theorem d_prog_67_method_5_code_136 : decode prog_67_method_5_code 136 = .ok (.aastore, 1) := by decide +kernel
theorem d_prog_67_method_5_code_137 : decode prog_67_method_5_code 137 = .ok (.iload_n 3, 1) := by decide +kernel
theorem d_prog_67_method_5_code_138 : decode prog_67_method_5_code 138 = .ok (.ireturn, 1) := by decide +kernel
theorem d_prog_67_method_5_code_14 : decode prog_67_method_5_code 14 = .ok (.aload_n 0, 1) := by decide +kernel
theorem d_prog_67_method_5_code_15 : decode prog_67_method_5_code 15 = .ok (.getfield 31, 3) := by decide +kernel
theorem d_prog_67_method_5_code_18 : decode prog_67_method_5_code 18 = .ok (.iload_n 2, 1) := by decide +kernel
theorem d_prog_67_method_5_code_19 : decode prog_67_method_5_code 19 = .ok (.invokestatic 52, 3) := by decide +kernel
theorem d_prog_67_method_5_code_2 : decode prog_67_method_5_code 2 = .ok (.isub, 1) := by decide +kernel
theorem d_prog_67_method_5_code_22 : decode prog_67_method_5_code 22 = .ok (.dup2, 1) := by decide +kernel
theorem d_prog_67_method_5_code_23 : decode prog_67_method_5_code 23 = .ok (.laload, 1) := by decide +kernel
theorem d_prog_67_method_5_code_24 : decode prog_67_method_5_code 24 = .ok (.iload_n 2, 1) := by decide +kernel
theorem d_prog_67_method_5_code_25 : decode prog_67_method_5_code 25 = .ok (.invokestatic 56, 3) := by decide +kernel
theorem d_prog_67_method_5_code_28 : decode prog_67_method_5_code 28 = .ok (.ldc2_w 60, 3) := by decide +kernel
theorem d_prog_67_method_5_code_3 : decode prog_67_method_5_code 3 = .ok (.istore_n 2, 1) := by decide +kernel
theorem d_prog_67_method_5_code_31 : decode prog_67_method_5_code 31 = .ok (.lxor, 1) := by decide +kernel
theorem d_prog_67_method_5_code_32 : decode prog_67_method_5_code 32 = .ok (.land, 1) := by decide +kernel
theorem d_prog_67_method_5_code_33 : decode prog_67_method_5_code 33 = .ok (.lastore, 1) := by decide +kernel
theorem d_prog_67_method_5_code_34 : decode prog_67_method_5_code 34 = .ok (.aload_n 0, 1) := by decide +kernel
theorem d_prog_67_method_5_code_35 : decode prog_67_method_5_code 35 = .ok (.getfield 37, 3) := by decide +kernel
theorem d_prog_67_method_5_code_38 : decode prog_67_method_5_code 38 = .ok (.iload_n 2, 1) := by decide +kernel
theorem d_prog_67_method_5_code_39 : decode prog_67_method_5_code 39 = .ok (.aload_n 0, 1) := by decide +kernel
theorem d_prog_67_method_5_code_4 : decode prog_67_method_5_code 4 = .ok (.aload_n 0, 1) := by decide +kernel
theorem d_prog_67_method_5_code_40 : decode prog_67_method_5_code 40 = .ok (.getfield 40, 3) := by decide +kernel
theorem d_prog_67_method_5_code_43 : decode prog_67_method_5_code 43 = .ok (.lastore, 1) := by decide +kernel
theorem d_prog_67_method_5_code_44 : decode prog_67_method_5_code 44 = .ok (.iconst 0, 1) := by decide +kernel
theorem d_prog_67_method_5_code_45 : decode prog_67_method_5_code 45 = .ok (.istore_n 3, 1) := by decide +kernel
theorem d_prog_67_method_5_code_46 : decode prog_67_method_5_code 46 = .ok (.aload_n 0, 1) := by decide +kernel
theorem d_prog_67_method_5_code_47 : decode prog_67_method_5_code 47 = .ok (.getfield 28, 3) := by decide +kernel
theorem d_prog_67_method_5_code_5 : decode prog_67_method_5_code 5 = .ok (.dup, 1) := by decide +kernel
theorem d_prog_67_method_5_code_50 : decode prog_67_method_5_code 50 = .ok (.iload_n 2, 1) := by decide +kernel
theorem d_prog_67_method_5_code_51 : decode prog_67_method_5_code 51 = .ok (.aaload, 1) := by decide +kernel
theorem d_prog_67_method_5_code_52 : decode prog_67_method_5_code 52 = .ok (.astore 4, 2) := by decide +kernel
theorem d_prog_67_method_5_code_54 : decode prog_67_method_5_code 54 = .ok (.iconst 0, 1) := by decide +kernel
theorem d_prog_67_method_5_code_55 : decode prog_67_method_5_code 55 = .ok (.istore 5, 2) := by decide +kernel
theorem d_prog_67_method_5_code_57 : decode prog_67_method_5_code 57 = .ok (.iload 5, 2) := by decide +kernel
theorem d_prog_67_method_5_code_59 : decode prog_67_method_5_code 59 = .ok (.aload 4, 2) := by decide +kernel
theorem d_prog_67_method_5_code_6 : decode prog_67_method_5_code 6 = .ok (.getfield 40, 3) := by decide +kernel
theorem d_prog_67_method_5_code_61 : decode prog_67_method_5_code 61 = .ok (.arraylength, 1) := by decide +kernel
theorem d_prog_67_method_5_code_62 : decode prog_67_method_5_code 62 = .ok (.if_icmp .ge 68, 3) := by decide +kernel
theorem d_prog_67_method_5_code_65 : decode prog_67_method_5_code 65 = .ok (.aload 4, 2) := by decide +kernel
theorem d_prog_67_method_5_code_67 : decode prog_67_method_5_code 67 = .ok (.iload 5, 2) := by decide +kernel
theorem d_prog_67_method_5_code_69 : decode prog_67_method_5_code 69 = .ok (.laload, 1) := by decide +kernel
theorem d_prog_67_method_5_code_70 : decode prog_67_method_5_code 70 = .ok (.lstore 6, 2) := by decide +kernel
theorem d_prog_67_method_5_code_72 : decode prog_67_method_5_code 72 = .ok (.lload 6, 2) := by decide +kernel
theorem d_prog_67_method_5_code_74 : decode prog_67_method_5_code 74 = .ok (.lconst 0, 1) := by decide +kernel
theorem d_prog_67_method_5_code_75 : decode prog_67_method_5_code 75 = .ok (.lcmp, 1) := by decide +kernel
theorem d_prog_67_method_5_code_76 : decode prog_67_method_5_code 76 = .ok (.ifCond .eq 48, 3) := by decide +kernel
theorem d_prog_67_method_5_code_79 : decode prog_67_method_5_code 79 = .ok (.iload 5, 2) := by decide +kernel
theorem d_prog_67_method_5_code_81 : decode prog_67_method_5_code 81 = .ok (.bipush 64, 2) := by decide +kernel
theorem d_prog_67_method_5_code_83 : decode prog_67_method_5_code 83 = .ok (.imul, 1) := by decide +kernel
theorem d_prog_67_method_5_code_84 : decode prog_67_method_5_code 84 = .ok (.lload 6, 2) := by decide +kernel
theorem d_prog_67_method_5_code_86 : decode prog_67_method_5_code 86 = .ok (.invokestatic 67, 3) := by decide +kernel
theorem d_prog_67_method_5_code_89 : decode prog_67_method_5_code 89 = .ok (.iadd, 1) := by decide +kernel
theorem d_prog_67_method_5_code_9 : decode prog_67_method_5_code 9 = .ok (.lconst 1, 1) := by decide +kernel
theorem d_prog_67_method_5_code_90 : decode prog_67_method_5_code 90 = .ok (.istore 8, 2) := by decide +kernel
theorem d_prog_67_method_5_code_92 : decode prog_67_method_5_code 92 = .ok (.lload 6, 2) := by decide +kernel
theorem d_prog_67_method_5_code_94 : decode prog_67_method_5_code 94 = .ok (.lload 6, 2) := by decide +kernel
theorem d_prog_67_method_5_code_96 : decode prog_67_method_5_code 96 = .ok (.lconst 1, 1) := by decide +kernel
theorem d_prog_67_method_5_code_97 : decode prog_67_method_5_code 97 = .ok (.lsub, 1) := by decide +kernel
theorem d_prog_67_method_5_code_98 : decode prog_67_method_5_code 98 = .ok (.land, 1) := by decide +kernel
theorem d_prog_67_method_5_code_99 : decode prog_67_method_5_code 99 = .ok (.lstore 6, 2) := by decide +kernel
def Q_own_en1 (Z : State) (r : Addr) (N : Nat) (wd : Nat) (A : (Nat → Addr)) (K : (Nat → ClassId)) (rows : (Nat → Addr)) (rc : (Nat → Nat → Int64)) (ls : (Nat → Value)) (pr : (Nat → Value)) (wt : (Nat → Int64)) (ra : (Nat → Int64)) (ea : (Nat → Int64)) (st : Int64) (n0 : Nat) (q : Nat) (x : Int32) (np : Addr) (kp : ClassId) (aq : Nat) (h0 : Heap) (v : Option Value) (h : Heap) (L : List Loc) : Prop := v = some (.int (own_ce ((own_upd ea q (st + (1 : Int64))) aq) (ra q))) ∧ Fr Z.heap.size L ∧ Keep h0 h (own_ws r N A rows) ∧ (own_I Z h r N wd A K rows rc ls (own_upd pr q .null) (own_clr wt q) ra (own_upd ea q (st + (1 : Int64))) (st + (1 : Int64)))
set_option maxRecDepth 65536 in
set_option maxHeartbeats 40000000 in
theorem own_en1 (l : Launch) (Z : State) (a0 : Array Value) (hw : ∀ d ∈ tables_1, d.before a0 Z = true) (ws : List Jvm.Cond) (r : Addr) (N : Nat) (wd : Nat) (A : (Nat → Addr)) (K : (Nat → ClassId)) (rows : (Nat → Addr)) (rc : (Nat → Nat → Int64)) (ls : (Nat → Value)) (pr : (Nat → Value)) (wt : (Nat → Int64)) (ra : (Nat → Int64)) (ea : (Nat → Int64)) (st : Int64) (n0 : Nat) (q : Nat) (x : Int32) (np : Addr) (kp : ClassId) (aq : Nat) (h0 : Heap) (O0 : Ext Z.heap h0) (II : own_I Z h0 r N wd A K rows rc ls pr wt ra ea st) (DD : own_D n0 r N A rows) (hn0 : Z.heap.size ≤ n0) (hN : N ≤ 129) (hwd : wd ≤ 3) (hNw : ∀ i, i < N → i / 64 < wd) (OA0 : OvrA Z (K 0) .long "[J") (OA1 : Ovr Z (K 1) own_s0) (OA2 : OvrA Z (K 2) .long "[J") (hq : x.toInt = (q : Int) + 1) (hqN : q < N) (haN : aq < N) (hpr : pr q = .ref np) (q13 : own_A Z h0 np kp .long ((List.range wd).map fun i_z => Value.long ((own_one aq) i_z))) (no : np ∉ own_ws r N A rows) :
    MetFree l own_m10 (head1 (Jvm.Cond.code own_m10 prog_67_method_5_code 9 (some .int) :: ws) ({ frames := 2, cells := 0, slots := 0, locals := 30 } : Room)) (fun aa U => aa = #[(.ref r), (.int x)] ∧ Z.Warmed39 U.vm ∧ U.heap = h0) (fun _ _ _ _ _ => True) (fun _ U o U' => ∃ v L, o = .returned v ∧ Q_own_en1 Z r N wd A K rows rc ls pr wt ra ea st n0 q x np kp aq h0 v U'.heap L ∧ FrameEnd U o U' L ({ frames := 2, cells := 0, slots := 0, locals := 30 } : Room).cells ({ frames := 2, cells := 0, slots := 0, locals := 30 } : Room).slots) := by
  refine MetFree.of_bodySF pf_own_en1 hisR ?_
  intro p e s m args below meth c s₁ Bd hml0 hP hK
  obtain ⟨rfl, hZ, hh⟩ := hP
  have hx := Bd.exec
  have hby := Bd.bytes
  have hlk := BodyLoose.notSynchronized Bd
  have hml : c.maxLocals = 9 := hml0
  have hown : s.vm.findClass own_s1 = some m.cls := findClass_of_methodNamed Bd.named
  have hnm := (name_of_methodNamed Bd.named Bd.method).1
  have X0 : Stand p l e ({ frames := 2, cells := 0, slots := 0, locals := 30 } : Room) s m #[(.ref r), (.int x)] below meth c s₁ [] 0 0 := Stand.of_body Bd
  have e0 : s₁.heap = h0 := by rw [← hh, Bd.state]; rfl
  have N0 := Fr.nil Z.heap.size
  have K0 : Keep h0 h0 (own_ws r N A rows) := Keep.refl _ _
  refine own_start (Q := Q_own_en1 Z r N wd A K rows rc ls pr wt ra ea st n0 q x np kp aq h0) (ef_own_en1 m (r) (x)) ?_
  show own_G p e below (s₁.setTop (mkF m 0 #[.val (.ref r), .val (.int x), .unset, .unset, .unset, .unset, .unset, .unset, .unset] [])) _
  refine own_go (fun t k => XS.iloadN X0.here hx rfl (hb hby d_prog_67_method_5_code_0) rfl k) ?_
  refine own_go (fun t k => XS.iconst X0.here hx rfl (hb hby d_prog_67_method_5_code_1) k) ?_
  refine own_go (fun t k => XS.isub X0.here hx rfl (hb hby d_prog_67_method_5_code_2) rfl k) ?_
  refine own_go (fun t k => XS.istoreN X0.here hx rfl (hb hby d_prog_67_method_5_code_3) rfl (l' := #[.val (.ref r), .val (.int x), .val (.int (x - (1 : Int32))), .unset, .unset, .unset, .unset, .unset, .unset]) rfl k) ?_
  show own_G p e below (s₁.setTop (mkF m 4 #[.val (.ref r), .val (.int x), .val (.int (x - (1 : Int32))), .unset, .unset, .unset, .unset, .unset, .unset] [])) _
  refine own_go (fun t k => XS.aloadN X0.here hx rfl (hb hby d_prog_67_method_5_code_4) rfl rfl k) ?_
  refine own_go (fun t k => XS.dup X0.here hx rfl (hb hby d_prog_67_method_5_code_5) rfl rfl k) ?_
  obtain ⟨T1z, X1z, e1z, st1z⟩ := getF X0 hx hZ hown (host := "") (Or.inl (own_hw hw 35 rfl)) Via.refl e0 II.2.2.2.2.2.2.2.2.1 (g := (mkF m 6 #[.val (.ref r), .val (.int x), .val (.int (x - (1 : Int32))), .unset, .unset, .unset, .unset, .unset, .unset] [(.ref r), (.ref r)])) rfl rfl (hb hby d_prog_67_method_5_code_6)
  refine own_go st1z ?_
  refine own_go (fun t k => XS.lconst X1z.here hx rfl (hb hby d_prog_67_method_5_code_9) k) ?_
  show own_G p e below (T1z.setTop (mkF m 10 #[.val (.ref r), .val (.int x), .val (.int (x - (1 : Int32))), .unset, .unset, .unset, .unset, .unset, .unset] [(.long (1 : Int64)), (.long st), (.ref r)])) _
  refine own_go (fun t k => XS.ladd X1z.here hx rfl (hb hby d_prog_67_method_5_code_10) rfl k) ?_
  obtain ⟨T2z, h2z, X2z, e2z, W2z, st2z⟩ := putF X1z hx hZ hown (host := "") (Or.inl (own_hw hw 35 rfl)) Via.refl e1z II.2.2.2.2.2.2.2.2.1 II.1 (Or.inl (own_hw hw 36 rfl)) (own_hw hw 2 rfl) (ty := .long) (by decide) rfl rfl (g := (mkF m 11 #[.val (.ref r), .val (.int x), .val (.int (x - (1 : Int32))), .unset, .unset, .unset, .unset, .unset, .unset] [(.long (st + (1 : Int64))), (.ref r)])) rfl rfl (hb hby d_prog_67_method_5_code_11)
  refine own_go st2z ?_
  have N2z := Fr.snoc X2z N0 (Nat.le_trans hn0 DD.1)
  have F2z : Fld Z h2z r own_s1 "stamp" "J" (.long (st + (1 : Int64))) := II.2.2.2.2.2.2.2.2.1.same W2z
  have O3z := own_ext_wr O0 W2z (Nat.le_trans hn0 DD.1)
  have K3z := K0.wr W2z (Or.inl own_ws_r)
  have I4z := own_I.wst (own_hs hw) II DD W2z
  refine own_go (fun t k => XS.aloadN X2z.here hx rfl (hb hby d_prog_67_method_5_code_14) rfl rfl k) ?_
  obtain ⟨T5z, X5z, e5z, st5z⟩ := getF X2z hx hZ hown (host := "") (Or.inl (own_hw hw 24 rfl)) Via.refl e2z I4z.2.2.2.2.2.1 (g := (mkF m 15 #[.val (.ref r), .val (.int x), .val (.int (x - (1 : Int32))), .unset, .unset, .unset, .unset, .unset, .unset] [(.ref r)])) rfl rfl (hb hby d_prog_67_method_5_code_15)
  refine own_go st5z ?_
  show own_G p e below (T5z.setTop (mkF m 18 #[.val (.ref r), .val (.int x), .val (.int (x - (1 : Int32))), .unset, .unset, .unset, .unset, .unset, .unset] [(.ref (A 3))])) _
  refine own_go (fun t k => XS.iloadN X5z.here hx rfl (hb hby d_prog_67_method_5_code_18) rfl k) ?_
  obtain ⟨_, _, ⟨T6z, L6z, k6z, n6z⟩, -, X6z, ⟨Lc6z, hQ6z, l6z, y6z, z6z⟩, st6z⟩ := Jvm.LawKit.callS X5z hx (y := own_m0) hown (own_mw hZ hw 40 rfl) (own_mw hZ hw 41 rfl) (own_mw hZ hw 3 rfl) (own_mw hZ hw 42 rfl) (by decide) (backOf (W := 1) (own_word l Z a0 hw [] (x - (1 : Int32)) h2z O3z) hZ (own_hw hw 42 rfl) (own_hw hw 3 rfl) (by decide) (by decide)) (g := (mkF m 19 #[.val (.ref r), .val (.int x), .val (.int (x - (1 : Int32))), .unset, .unset, .unset, .unset, .unset, .unset] [(.int (x - (1 : Int32))), (.ref (A 3))])) rfl (by rw [hml]; rfl) (argsL := [(.int (x - (1 : Int32)))]) (rest := [(.ref (A 3))]) (lenOf pd_2087992008 rfl) rfl (by show 2 * 0 + _ ≤ _; exact Nat.le_of_eq rfl) (hb hby d_prog_67_method_5_code_19) (fun _ _ => ⟨rfl, e5z, (by decide : 0 + 0 ≤ _), (by decide : 0 + 0 ≤ _)⟩)
  dsimp only [Pt.U, Pt.locs, Pt.cells, Pt.slots] at X6z l6z y6z z6z st6z hQ6z
  subst l6z y6z z6z
  obtain ⟨rfl, NQ6z, K6zq⟩ := hQ6z
  refine own_go st6z ?_
  have N6z := Fr.app N2z NQ6z
  show own_G p e below (T6z.setTop (mkF m 22 #[.val (.ref r), .val (.int x), .val (.int (x - (1 : Int32))), .unset, .unset, .unset, .unset, .unset, .unset] [(.int ((x - (1 : Int32)) / (64 : Int32))), (.ref (A 3))])) _
  refine own_go (fun t k => own_dup2 X6z.here hx rfl (hb hby d_prog_67_method_5_code_22) rfl rfl rfl k) ?_
  refine own_go (own_ldJ X6z hx hZ K6zq I4z.2.2.2.2.2.2.2.2.2.2.2.2.1 (i := (q / 64)) (v := (.long (wt (q / 64)))) (own_w64 (own_sub1 hq hqN hN)) (own_rget _ (hNw q hqN)) (g := (mkF m 23 #[.val (.ref r), .val (.int x), .val (.int (x - (1 : Int32))), .unset, .unset, .unset, .unset, .unset, .unset] [(.int ((x - (1 : Int32)) / (64 : Int32))), (.ref (A 3)), (.int ((x - (1 : Int32)) / (64 : Int32))), (.ref (A 3))])) rfl rfl (hb hby d_prog_67_method_5_code_23)) ?_
  refine own_go (fun t k => XS.iloadN X6z.here hx rfl (hb hby d_prog_67_method_5_code_24) rfl k) ?_
  obtain ⟨_, _, ⟨T7z, L7z, k7z, n7z⟩, -, X7z, ⟨Lc7z, hQ7z, l7z, y7z, z7z⟩, st7z⟩ := Jvm.LawKit.callS X6z hx (y := own_m1) hown (own_mw hZ hw 43 rfl) (own_mw hZ hw 44 rfl) (own_mw hZ hw 3 rfl) (own_mw hZ hw 45 rfl) (by decide) (backOf (W := 4) (own_bitM l Z a0 hw [] (x - (1 : Int32)) q h2z O3z (own_sub1 hq hqN hN)) hZ (own_hw hw 45 rfl) (own_hw hw 3 rfl) (by decide) (by decide)) (g := (mkF m 25 #[.val (.ref r), .val (.int x), .val (.int (x - (1 : Int32))), .unset, .unset, .unset, .unset, .unset, .unset] [(.int (x - (1 : Int32))), (.long (wt (q / 64))), (.int ((x - (1 : Int32)) / (64 : Int32))), (.ref (A 3))])) rfl (by rw [hml]; rfl) (argsL := [(.int (x - (1 : Int32)))]) (rest := [(.long (wt (q / 64))), (.int ((x - (1 : Int32)) / (64 : Int32))), (.ref (A 3))]) (lenOf pd_2087992009 rfl) rfl (by show 2 * 0 + _ ≤ _; exact Nat.le_of_eq rfl) (hb hby d_prog_67_method_5_code_25) (fun _ _ => ⟨rfl, K6zq, (by decide : 0 + 0 ≤ _), (by decide : 0 + 0 ≤ _)⟩)
  dsimp only [Pt.U, Pt.locs, Pt.cells, Pt.slots] at X7z l7z y7z z7z st7z hQ7z
  subst l7z y7z z7z
  obtain ⟨rfl, NQ7z, K7zq⟩ := hQ7z
  refine own_go st7z ?_
  have N7z := Fr.app N6z NQ7z
  show own_G p e below (T7z.setTop (mkF m 28 #[.val (.ref r), .val (.int x), .val (.int (x - (1 : Int32))), .unset, .unset, .unset, .unset, .unset, .unset] [(.long (own_B q)), (.long (wt (q / 64))), (.int ((x - (1 : Int32)) / (64 : Int32))), (.ref (A 3))])) _
  refine own_go (fun t k => X7z.ldc2J hx hown (mvT hZ (own_hw hw 73 rfl)) rfl (hb hby d_prog_67_method_5_code_28) k) ?_
  refine own_go (fun t k => XS.lxor X7z.here hx rfl (hb hby d_prog_67_method_5_code_31) rfl k) ?_
  refine own_go (fun t k => XS.land X7z.here hx rfl (hb hby d_prog_67_method_5_code_32) rfl k) ?_
  obtain ⟨T8z, h8z, X8z, e8z, W8z, V8z, st8z⟩ := own_stJ X7z hx hZ K7zq I4z.2.2.2.2.2.2.2.2.2.2.2.2.1 (i := (q / 64)) (own_w64 (own_sub1 hq hqN hN)) (by rw [own_rlen]; exact hNw q hqN) (g := (mkF m 33 #[.val (.ref r), .val (.int x), .val (.int (x - (1 : Int32))), .unset, .unset, .unset, .unset, .unset, .unset] [(.long ((wt (q / 64)) &&& ((own_B q) ^^^ (-1 : Int64)))), (.int ((x - (1 : Int32)) / (64 : Int32))), (.ref (A 3))])) rfl rfl (hb hby d_prog_67_method_5_code_33)
  refine own_go st8z ?_
  have N8z := Fr.snoc X8z N7z (Nat.le_trans hn0 (DD.2.1 3 (by decide)).1)
  have O9z := own_ext_wr O3z W8z (Nat.le_trans hn0 (DD.2.1 3 (by decide)).1)
  have K9z := K3z.wr W8z (Or.inl (own_ws_A (by decide : 3 < 6)))
  have I10z := own_I.w3 I4z DD W8z (own_L.set V8z)
  have V8z : own_A Z h8z (A 3) (K 3) .long (((List.range wd).map fun i_z => Value.long (wt i_z)).set (q / 64) (.long ((wt (q / 64)) &&& ((own_B q) ^^^ (-1 : Int64))))) := V8z
  show own_G p e below (T8z.setTop (mkF m 34 #[.val (.ref r), .val (.int x), .val (.int (x - (1 : Int32))), .unset, .unset, .unset, .unset, .unset, .unset] [])) _
  refine own_go (fun t k => XS.aloadN X8z.here hx rfl (hb hby d_prog_67_method_5_code_34) rfl rfl k) ?_
  obtain ⟨T11z, X11z, e11z, st11z⟩ := getF X8z hx hZ hown (host := "") (Or.inl (own_hw hw 28 rfl)) Via.refl e8z I10z.2.2.2.2.2.2.2.1 (g := (mkF m 35 #[.val (.ref r), .val (.int x), .val (.int (x - (1 : Int32))), .unset, .unset, .unset, .unset, .unset, .unset] [(.ref r)])) rfl rfl (hb hby d_prog_67_method_5_code_35)
  refine own_go st11z ?_
  refine own_go (fun t k => XS.iloadN X11z.here hx rfl (hb hby d_prog_67_method_5_code_38) rfl k) ?_
  refine own_go (fun t k => XS.aloadN X11z.here hx rfl (hb hby d_prog_67_method_5_code_39) rfl rfl k) ?_
  show own_G p e below (T11z.setTop (mkF m 40 #[.val (.ref r), .val (.int x), .val (.int (x - (1 : Int32))), .unset, .unset, .unset, .unset, .unset, .unset] [(.ref r), (.int (x - (1 : Int32))), (.ref (A 5))])) _
  obtain ⟨T12z, X12z, e12z, st12z⟩ := getF X11z hx hZ hown (host := "") (Or.inl (own_hw hw 35 rfl)) Via.refl e11z I10z.2.2.2.2.2.2.2.2.1 (g := (mkF m 40 #[.val (.ref r), .val (.int x), .val (.int (x - (1 : Int32))), .unset, .unset, .unset, .unset, .unset, .unset] [(.ref r), (.int (x - (1 : Int32))), (.ref (A 5))])) rfl rfl (hb hby d_prog_67_method_5_code_40)
  refine own_go st12z ?_
  obtain ⟨T13z, h13z, X13z, e13z, W13z, V13z, st13z⟩ := own_stJ X12z hx hZ e12z I10z.2.2.2.2.2.2.2.2.2.2.2.2.2.2.1 (i := q) (own_sub1 hq hqN hN) (by rw [own_rlen]; exact hqN) (g := (mkF m 43 #[.val (.ref r), .val (.int x), .val (.int (x - (1 : Int32))), .unset, .unset, .unset, .unset, .unset, .unset] [(.long (st + (1 : Int64))), (.int (x - (1 : Int32))), (.ref (A 5))])) rfl rfl (hb hby d_prog_67_method_5_code_43)
  refine own_go st13z ?_
  have N13z := Fr.snoc X13z N8z (Nat.le_trans hn0 (DD.2.1 5 (by decide)).1)
  have O14z := own_ext_wr O9z W13z (Nat.le_trans hn0 (DD.2.1 5 (by decide)).1)
  have K14z := K9z.wr W13z (Or.inl (own_ws_A (by decide : 5 < 6)))
  have I15z := own_I.w5 I10z DD W13z (own_L.set V13z)
  have V13z : own_A Z h13z (A 5) (K 5) .long (((List.range N).map fun i_z => Value.long (ea i_z)).set q (.long (st + (1 : Int64)))) := V13z
  refine own_go (fun t k => XS.iconst X13z.here hx rfl (hb hby d_prog_67_method_5_code_44) k) ?_
  refine own_go (fun t k => XS.istoreN X13z.here hx rfl (hb hby d_prog_67_method_5_code_45) rfl (l' := #[.val (.ref r), .val (.int x), .val (.int (x - (1 : Int32))), .val (.int (0 : Int32)), .unset, .unset, .unset, .unset, .unset]) rfl k) ?_
  show own_G p e below (T13z.setTop (mkF m 46 #[.val (.ref r), .val (.int x), .val (.int (x - (1 : Int32))), .val (.int (0 : Int32)), .unset, .unset, .unset, .unset, .unset] [])) _
  refine own_go (fun t k => XS.aloadN X13z.here hx rfl (hb hby d_prog_67_method_5_code_46) rfl rfl k) ?_
  obtain ⟨T16z, X16z, e16z, st16z⟩ := getF X13z hx hZ hown (host := "") (Or.inl (own_hw hw 22 rfl)) Via.refl e13z I15z.2.2.2.2.1 (g := (mkF m 47 #[.val (.ref r), .val (.int x), .val (.int (x - (1 : Int32))), .val (.int (0 : Int32)), .unset, .unset, .unset, .unset, .unset] [(.ref r)])) rfl rfl (hb hby d_prog_67_method_5_code_47)
  refine own_go st16z ?_
  refine own_go (fun t k => XS.iloadN X16z.here hx rfl (hb hby d_prog_67_method_5_code_50) rfl k) ?_
  refine own_go (own_ldA X16z hx hZ e16z I15z.2.2.2.2.2.2.2.2.2.2.2.1 rfl (i := q) (v := (.ref np)) (own_sub1 hq hqN hN) (by rw [own_rget _ hqN, hpr]) (g := (mkF m 51 #[.val (.ref r), .val (.int x), .val (.int (x - (1 : Int32))), .val (.int (0 : Int32)), .unset, .unset, .unset, .unset, .unset] [(.int (x - (1 : Int32))), (.ref (A 2))])) rfl rfl (hb hby d_prog_67_method_5_code_51)) ?_
  show own_G p e below (T16z.setTop (mkF m 52 #[.val (.ref r), .val (.int x), .val (.int (x - (1 : Int32))), .val (.int (0 : Int32)), .unset, .unset, .unset, .unset, .unset] [(.ref np)])) _
  refine own_go (fun t k => XS.astore X16z.here hx rfl (hb hby d_prog_67_method_5_code_52) rfl rfl (l' := #[.val (.ref r), .val (.int x), .val (.int (x - (1 : Int32))), .val (.int (0 : Int32)), .val (.ref np), .unset, .unset, .unset, .unset]) rfl k) ?_
  refine own_go (fun t k => XS.iconst X16z.here hx rfl (hb hby d_prog_67_method_5_code_54) k) ?_
  refine own_go (fun t k => XS.istore X16z.here hx rfl (hb hby d_prog_67_method_5_code_55) rfl (l' := #[.val (.ref r), .val (.int x), .val (.int (x - (1 : Int32))), .val (.int (0 : Int32)), .val (.ref np), .val (.int (0 : Int32)), .unset, .unset, .unset]) rfl k) ?_
  have f17z := (((q13.other W2z (own_nr no)).other W8z (own_nA no (by decide : 3 < 6))).other W13z (own_nA no (by decide : 5 < 6)))
  have loop1 : ∀ (n j : Nat) (xj : Int32) (T : State) (h : Heap) (locs : List Loc) (bw : Int64) (c3 : Int32) (u8 : Slot), j + n = wd → xj.toInt = (j : Int) → Stand p l e ({ frames := 2, cells := 0, slots := 0, locals := 30 } : Room) s m #[(.ref r), (.int x)] below meth c T locs 0 0 → T.heap = h → Fr Z.heap.size locs → Ext Z.heap h → Keep h0 h (own_ws r N A rows) → own_I Z h r N wd A K rows rc ls pr (own_upd wt (q / 64) ((wt (q / 64)) &&& ((own_B q) ^^^ (-1 : Int64)))) ra (own_upd ea q (st + (1 : Int64))) (st + (1 : Int64)) → c3 = (if aq / 64 < j then (own_ce ((own_upd ea q (st + (1 : Int64))) aq) (ra q)) else 0) → (j ≤ aq / 64 → u8 = .unset) → own_L Z h np kp wd (own_one aq) → own_G p e below (T.setTop (mkF m 57 #[.val (.ref r), .val (.int x), .val (.int (x - (1 : Int32))), .val (.int c3), .val (.ref np), .val (.int xj), .val (.long bw), .second, u8] [])) (own_P s below ({ frames := 2, cells := 0, slots := 0, locals := 30 } : Room).cells ({ frames := 2, cells := 0, slots := 0, locals := 30 } : Room).slots (Q_own_en1 Z r N wd A K rows rc ls pr wt ra ea st n0 q x np kp aq h0)) := by
    intro n
    induction n with
    | zero =>
      intro j xj T h locs bw c3 u8 hi hxi X eL NL OL KL IL hc3 hu LP
      obtain rfl : wd = j := by omega
      show own_G p e below (T.setTop (mkF m 57 #[.val (.ref r), .val (.int x), .val (.int (x - (1 : Int32))), .val (.int c3), .val (.ref np), .val (.int xj), .val (.long bw), .second, u8] [])) _
      refine own_go (fun t k => XS.iload X.here hx rfl (hb hby d_prog_67_method_5_code_57) rfl k) ?_
      refine own_go (fun t k => XS.aload X.here hx rfl (hb hby d_prog_67_method_5_code_59) rfl rfl k) ?_
      refine own_go (own_len X hx hZ eL LP (z := (Int32.ofNat wd)) (by rw [own_rlen]; exact own_ofN (by omega)) (g := (mkF m 61 #[.val (.ref r), .val (.int x), .val (.int (x - (1 : Int32))), .val (.int c3), .val (.ref np), .val (.int xj), .val (.long bw), .second, u8] [(.ref np), (.int xj)])) rfl rfl (hb hby d_prog_67_method_5_code_61)) ?_
      refine own_go (fun t k => XS.icmpYes X.here hx rfl (pc0 := 62) (pc' := 130) rfl (hb hby d_prog_67_method_5_code_62) rfl (flt (fun q => absurd ((own_ltN hxi (by omega)).mp q) (by omega))).2.1 (by decide) (by decide) k) ?_
      show own_G p e below (T.setTop (mkF m 130 #[.val (.ref r), .val (.int x), .val (.int (x - (1 : Int32))), .val (.int c3), .val (.ref np), .val (.int xj), .val (.long bw), .second, u8] [])) _
      refine own_go (fun t k => XS.aloadN X.here hx rfl (hb hby d_prog_67_method_5_code_130) rfl rfl k) ?_
      obtain ⟨T18z, X18z, e18z, st18z⟩ := getF X hx hZ hown (host := "") (Or.inl (own_hw hw 22 rfl)) Via.refl eL IL.2.2.2.2.1 (g := (mkF m 131 #[.val (.ref r), .val (.int x), .val (.int (x - (1 : Int32))), .val (.int c3), .val (.ref np), .val (.int xj), .val (.long bw), .second, u8] [(.ref r)])) rfl rfl (hb hby d_prog_67_method_5_code_131)
      refine own_go st18z ?_
      refine own_go (fun t k => XS.iloadN X18z.here hx rfl (hb hby d_prog_67_method_5_code_134) rfl k) ?_
      refine own_go (fun t k => XS.aconstNull X18z.here hx rfl (hb hby d_prog_67_method_5_code_135) k) ?_
      show own_G p e below (T18z.setTop (mkF m 136 #[.val (.ref r), .val (.int x), .val (.int (x - (1 : Int32))), .val (.int c3), .val (.ref np), .val (.int xj), .val (.long bw), .second, u8] [.null, (.int (x - (1 : Int32))), (.ref (A 2))])) _
      obtain ⟨T19z, h19z, X19z, e19z, W19z, V19z, st19z⟩ := own_stR X18z hx hZ e18z IL.2.2.2.2.2.2.2.2.2.2.2.1 rfl (i := q) (own_sub1 hq hqN hN) (by rw [own_rlen]; exact hqN) (own_stoA OA2 (Or.inl rfl)) rfl (g := (mkF m 136 #[.val (.ref r), .val (.int x), .val (.int (x - (1 : Int32))), .val (.int c3), .val (.ref np), .val (.int xj), .val (.long bw), .second, u8] [.null, (.int (x - (1 : Int32))), (.ref (A 2))])) rfl rfl (hb hby d_prog_67_method_5_code_136)
      refine own_go st19z ?_
      have N19z := Fr.snoc X19z NL (Nat.le_trans hn0 (DD.2.1 2 (by decide)).1)
      have O20z := own_ext_wr OL W19z (Nat.le_trans hn0 (DD.2.1 2 (by decide)).1)
      have K20z := KL.wr W19z (Or.inl (own_ws_A (by decide : 2 < 6)))
      have I21z := own_I.w2 IL DD W19z (own_V.set V19z)
      have V19z : own_A Z h19z (A 2) (K 2) (.array .long) (((List.range N).map pr).set q .null) := V19z
      refine own_go (fun t k => XS.iloadN X19z.here hx rfl (hb hby d_prog_67_method_5_code_137) rfl k) ?_
      exact own_ret X19z hx Bd.returns rfl (Or.inl ⟨rfl, Or.inl rfl, _, rfl⟩) (hb hby d_prog_67_method_5_code_138) hlk (Nat.le_of_ble_eq_true rfl) (Nat.le_of_ble_eq_true rfl) (by show Q_own_en1 Z r N wd A K rows rc ls pr wt ra ea st n0 q x np kp aq h0 _ T19z.heap _; rw [e19z]; exact ⟨(congrArg (fun z => some (Value.int z)) (hc3.trans (if_pos (hNw aq haN)))), N19z, K20z, (by have t := I21z; rw [own_clr_eq] at t; exact t)⟩)
    | succ n ih =>
      intro j xj T h locs bw c3 u8 hi hxi X eL NL OL KL IL hc3 hu LP
      have hjw : j < wd := by omega
      show own_G p e below (T.setTop (mkF m 57 #[.val (.ref r), .val (.int x), .val (.int (x - (1 : Int32))), .val (.int c3), .val (.ref np), .val (.int xj), .val (.long bw), .second, u8] [])) _
      refine own_go (fun t k => XS.iload X.here hx rfl (hb hby d_prog_67_method_5_code_57) rfl k) ?_
      refine own_go (fun t k => XS.aload X.here hx rfl (hb hby d_prog_67_method_5_code_59) rfl rfl k) ?_
      refine own_go (own_len X hx hZ eL LP (z := (Int32.ofNat wd)) (by rw [own_rlen]; exact own_ofN (by omega)) (g := (mkF m 61 #[.val (.ref r), .val (.int x), .val (.int (x - (1 : Int32))), .val (.int c3), .val (.ref np), .val (.int xj), .val (.long bw), .second, u8] [(.ref np), (.int xj)])) rfl rfl (hb hby d_prog_67_method_5_code_61)) ?_
      refine own_go (fun t k => XS.icmpNo X.here hx rfl (hb hby d_prog_67_method_5_code_62) rfl (tlt ((own_ltN hxi (by omega)).mpr hjw)).2.1 k) ?_
      show own_G p e below (T.setTop (mkF m 65 #[.val (.ref r), .val (.int x), .val (.int (x - (1 : Int32))), .val (.int c3), .val (.ref np), .val (.int xj), .val (.long bw), .second, u8] [])) _
      refine own_go (fun t k => XS.aload X.here hx rfl (hb hby d_prog_67_method_5_code_65) rfl rfl k) ?_
      refine own_go (fun t k => XS.iload X.here hx rfl (hb hby d_prog_67_method_5_code_67) rfl k) ?_
      refine own_go (own_ldJ X hx hZ eL LP (i := j) (v := (.long ((own_one aq) j))) hxi (own_rget _ hjw) (g := (mkF m 69 #[.val (.ref r), .val (.int x), .val (.int (x - (1 : Int32))), .val (.int c3), .val (.ref np), .val (.int xj), .val (.long bw), .second, u8] [(.int xj), (.ref np)])) rfl rfl (hb hby d_prog_67_method_5_code_69)) ?_
      show own_G p e below (T.setTop (mkF m 70 #[.val (.ref r), .val (.int x), .val (.int (x - (1 : Int32))), .val (.int c3), .val (.ref np), .val (.int xj), .val (.long bw), .second, u8] [(.long ((own_one aq) j))])) _
      by_cases ej22z : j = aq / 64
      · rw [show own_one aq j = own_B aq from by rw [ej22z]; exact own_one_hit]
        obtain rfl := hu (by omega)
        obtain rfl : c3 = 0 := hc3.trans (if_neg (by omega))
        show own_G p e below (T.setTop (mkF m 70 #[.val (.ref r), .val (.int x), .val (.int (x - (1 : Int32))), .val (.int (0 : Int32)), .val (.ref np), .val (.int xj), .val (.long bw), .second, .unset] [(.long (own_B aq))])) _
        refine own_go (fun t k => XS.lstore X.here hx rfl (hb hby d_prog_67_method_5_code_70) rfl (l' := #[.val (.ref r), .val (.int x), .val (.int (x - (1 : Int32))), .val (.int (0 : Int32)), .val (.ref np), .val (.int xj), .val (.long (own_B aq)), .second, .unset]) rfl k) ?_
        refine own_go (fun t k => XS.lload X.here hx rfl (hb hby d_prog_67_method_5_code_72) rfl k) ?_
        refine own_go (fun t k => XS.lconst X.here hx rfl (hb hby d_prog_67_method_5_code_74) k) ?_
        refine own_go (fun t k => XS.lcmp X.here hx rfl (hb hby d_prog_67_method_5_code_75) rfl k) ?_
        show own_G p e below (T.setTop (mkF m 76 #[.val (.ref r), .val (.int x), .val (.int (x - (1 : Int32))), .val (.int (0 : Int32)), .val (.ref np), .val (.int xj), .val (.long (own_B aq)), .second, .unset] [(.int (lcmpW (own_B aq) (0 : Int64)))])) _
        refine own_go (fun t k => XS.ifNo X.here hx rfl (hb hby d_prog_67_method_5_code_76) rfl ((if0 _ _).trans (feq (fun q_z => (own_B_ne aq) ((lw_eq (own_B aq) (0 : Int64)).mp q_z))).1) k) ?_
        show own_G p e below (T.setTop (mkF m 79 #[.val (.ref r), .val (.int x), .val (.int (x - (1 : Int32))), .val (.int (0 : Int32)), .val (.ref np), .val (.int xj), .val (.long (own_B aq)), .second, .unset] [])) _
        refine own_go (fun t k => XS.iload X.here hx rfl (hb hby d_prog_67_method_5_code_79) rfl k) ?_
        refine own_go (fun t k => XS.bipush X.here hx rfl (hb hby d_prog_67_method_5_code_81) k) ?_
        refine own_go (fun t k => XS.imul X.here hx rfl (hb hby d_prog_67_method_5_code_83) rfl k) ?_
        refine own_go (fun t k => XS.lload X.here hx rfl (hb hby d_prog_67_method_5_code_84) rfl k) ?_
        show own_G p e below (T.setTop (mkF m 86 #[.val (.ref r), .val (.int x), .val (.int (x - (1 : Int32))), .val (.int (0 : Int32)), .val (.ref np), .val (.int xj), .val (.long (own_B aq)), .second, .unset] [(.long (own_B aq)), (.int (xj * (64 : Int32)))])) _
        obtain ⟨_, _, ⟨T23z, L23z, k23z, n23z⟩, -, X23z, ⟨Lc23z, hQ23z, l23z, y23z, z23z⟩, st23z⟩ := Jvm.LawKit.callS X hx (y := own_m5) hown (own_mw hZ hw 74 rfl) (own_mw hZ hw 75 rfl) (own_mw hZ hw 76 rfl) (own_mw hZ hw 77 rfl) (by decide) (backOf (W := 1) (own_nzl l Z a0 hw [] (own_B aq) h OL) hZ (own_hw hw 77 rfl) (own_hw hw 76 rfl) (by decide) (by decide)) (g := (mkF m 86 #[.val (.ref r), .val (.int x), .val (.int (x - (1 : Int32))), .val (.int (0 : Int32)), .val (.ref np), .val (.int xj), .val (.long (own_B aq)), .second, .unset] [(.long (own_B aq)), (.int (xj * (64 : Int32)))])) rfl (by rw [hml]; rfl) (argsL := [(.long (own_B aq))]) (rest := [(.int (xj * (64 : Int32)))]) (lenOf pd_2087993097 rfl) rfl (by show 2 * 0 + _ ≤ _; exact Nat.le_of_eq rfl) (hb hby d_prog_67_method_5_code_86) (fun _ _ => ⟨rfl, eL, (by decide : 0 + 0 ≤ _), (by decide : 0 + 0 ≤ _)⟩)
        dsimp only [Pt.U, Pt.locs, Pt.cells, Pt.slots] at X23z l23z y23z z23z st23z hQ23z
        subst l23z y23z z23z
        obtain ⟨rfl, NQ23z, K23zq⟩ := hQ23z
        refine own_go st23z ?_
        have N23z := Fr.app NL NQ23z
        show own_G p e below (T23z.setTop (mkF m 89 #[.val (.ref r), .val (.int x), .val (.int (x - (1 : Int32))), .val (.int (0 : Int32)), .val (.ref np), .val (.int xj), .val (.long (own_B aq)), .second, .unset] [(.int (own_ntzL (own_B aq))), (.int (xj * (64 : Int32)))])) _
        refine own_go (fun t k => XS.iadd X23z.here hx rfl (hb hby d_prog_67_method_5_code_89) rfl k) ?_
        refine own_go (fun t k => XS.istore X23z.here hx rfl (hb hby d_prog_67_method_5_code_90) rfl (l' := #[.val (.ref r), .val (.int x), .val (.int (x - (1 : Int32))), .val (.int (0 : Int32)), .val (.ref np), .val (.int xj), .val (.long (own_B aq)), .second, .val (.int ((xj * (64 : Int32)) + (own_ntzL (own_B aq))))]) rfl k) ?_
        refine own_go (fun t k => XS.lload X23z.here hx rfl (hb hby d_prog_67_method_5_code_92) rfl k) ?_
        refine own_go (fun t k => XS.lload X23z.here hx rfl (hb hby d_prog_67_method_5_code_94) rfl k) ?_
        show own_G p e below (T23z.setTop (mkF m 96 #[.val (.ref r), .val (.int x), .val (.int (x - (1 : Int32))), .val (.int (0 : Int32)), .val (.ref np), .val (.int xj), .val (.long (own_B aq)), .second, .val (.int ((xj * (64 : Int32)) + (own_ntzL (own_B aq))))] [(.long (own_B aq)), (.long (own_B aq))])) _
        refine own_go (fun t k => XS.lconst X23z.here hx rfl (hb hby d_prog_67_method_5_code_96) k) ?_
        refine own_go (fun t k => XS.lsub X23z.here hx rfl (hb hby d_prog_67_method_5_code_97) rfl k) ?_
        refine own_go (fun t k => XS.land X23z.here hx rfl (hb hby d_prog_67_method_5_code_98) rfl k) ?_
        refine own_go (fun t k => XS.lstore X23z.here hx rfl (hb hby d_prog_67_method_5_code_99) rfl (l' := #[.val (.ref r), .val (.int x), .val (.int (x - (1 : Int32))), .val (.int (0 : Int32)), .val (.ref np), .val (.int xj), .val (.long ((own_B aq) &&& ((own_B aq) - (1 : Int64)))), .second, .val (.int ((xj * (64 : Int32)) + (own_ntzL (own_B aq))))]) rfl k) ?_
        show own_G p e below (T23z.setTop (mkF m 101 #[.val (.ref r), .val (.int x), .val (.int (x - (1 : Int32))), .val (.int (0 : Int32)), .val (.ref np), .val (.int xj), .val (.long ((own_B aq) &&& ((own_B aq) - (1 : Int64)))), .second, .val (.int ((xj * (64 : Int32)) + (own_ntzL (own_B aq))))] [])) _
        refine own_go (fun t k => XS.aloadN X23z.here hx rfl (hb hby d_prog_67_method_5_code_101) rfl rfl k) ?_
        obtain ⟨T24z, X24z, e24z, st24z⟩ := getF X23z hx hZ hown (host := "") (Or.inl (own_hw hw 28 rfl)) Via.refl K23zq IL.2.2.2.2.2.2.2.1 (g := (mkF m 102 #[.val (.ref r), .val (.int x), .val (.int (x - (1 : Int32))), .val (.int (0 : Int32)), .val (.ref np), .val (.int xj), .val (.long ((own_B aq) &&& ((own_B aq) - (1 : Int64)))), .second, .val (.int ((xj * (64 : Int32)) + (own_ntzL (own_B aq))))] [(.ref r)])) rfl rfl (hb hby d_prog_67_method_5_code_102)
        refine own_go st24z ?_
        refine own_go (fun t k => XS.iload X24z.here hx rfl (hb hby d_prog_67_method_5_code_105) rfl k) ?_
        refine own_go (own_ldJ X24z hx hZ e24z IL.2.2.2.2.2.2.2.2.2.2.2.2.2.2.1 (i := aq) (v := (.long ((own_upd ea q (st + (1 : Int64))) aq))) (own_other hxi ej22z (by omega)) (own_rget _ haN) (g := (mkF m 107 #[.val (.ref r), .val (.int x), .val (.int (x - (1 : Int32))), .val (.int (0 : Int32)), .val (.ref np), .val (.int xj), .val (.long ((own_B aq) &&& ((own_B aq) - (1 : Int64)))), .second, .val (.int ((xj * (64 : Int32)) + (own_ntzL (own_B aq))))] [(.int ((xj * (64 : Int32)) + (own_ntzL (own_B aq)))), (.ref (A 5))])) rfl rfl (hb hby d_prog_67_method_5_code_107)) ?_
        show own_G p e below (T24z.setTop (mkF m 108 #[.val (.ref r), .val (.int x), .val (.int (x - (1 : Int32))), .val (.int (0 : Int32)), .val (.ref np), .val (.int xj), .val (.long ((own_B aq) &&& ((own_B aq) - (1 : Int64)))), .second, .val (.int ((xj * (64 : Int32)) + (own_ntzL (own_B aq))))] [(.long ((own_upd ea q (st + (1 : Int64))) aq))])) _
        refine own_go (fun t k => XS.aloadN X24z.here hx rfl (hb hby d_prog_67_method_5_code_108) rfl rfl k) ?_
        obtain ⟨T25z, X25z, e25z, st25z⟩ := getF X24z hx hZ hown (host := "") (Or.inl (own_hw hw 26 rfl)) Via.refl e24z IL.2.2.2.2.2.2.1 (g := (mkF m 109 #[.val (.ref r), .val (.int x), .val (.int (x - (1 : Int32))), .val (.int (0 : Int32)), .val (.ref np), .val (.int xj), .val (.long ((own_B aq) &&& ((own_B aq) - (1 : Int64)))), .second, .val (.int ((xj * (64 : Int32)) + (own_ntzL (own_B aq))))] [(.ref r), (.long ((own_upd ea q (st + (1 : Int64))) aq))])) rfl rfl (hb hby d_prog_67_method_5_code_109)
        refine own_go st25z ?_
        refine own_go (fun t k => XS.iloadN X25z.here hx rfl (hb hby d_prog_67_method_5_code_112) rfl k) ?_
        refine own_go (own_ldJ X25z hx hZ e25z IL.2.2.2.2.2.2.2.2.2.2.2.2.2.1 (i := q) (v := (.long (ra q))) (own_sub1 hq hqN hN) (own_rget _ hqN) (g := (mkF m 113 #[.val (.ref r), .val (.int x), .val (.int (x - (1 : Int32))), .val (.int (0 : Int32)), .val (.ref np), .val (.int xj), .val (.long ((own_B aq) &&& ((own_B aq) - (1 : Int64)))), .second, .val (.int ((xj * (64 : Int32)) + (own_ntzL (own_B aq))))] [(.int (x - (1 : Int32))), (.ref (A 4)), (.long ((own_upd ea q (st + (1 : Int64))) aq))])) rfl rfl (hb hby d_prog_67_method_5_code_113)) ?_
        show own_G p e below (T25z.setTop (mkF m 114 #[.val (.ref r), .val (.int x), .val (.int (x - (1 : Int32))), .val (.int (0 : Int32)), .val (.ref np), .val (.int xj), .val (.long ((own_B aq) &&& ((own_B aq) - (1 : Int64)))), .second, .val (.int ((xj * (64 : Int32)) + (own_ntzL (own_B aq))))] [(.long (ra q)), (.long ((own_upd ea q (st + (1 : Int64))) aq))])) _
        refine own_go (fun t k => XS.lcmp X25z.here hx rfl (hb hby d_prog_67_method_5_code_114) rfl k) ?_
        by_cases hc26z : ((own_upd ea q (st + (1 : Int64))) aq) < (ra q)
        · refine own_go (fun t k => XS.ifNo X25z.here hx rfl (hb hby d_prog_67_method_5_code_115) rfl ((if0 _ _).trans (tlt ((lw_lt ((own_upd ea q (st + (1 : Int64))) aq) (ra q)).mpr hc26z)).2.1) k) ?_
          show own_G p e below (T25z.setTop (mkF m 118 #[.val (.ref r), .val (.int x), .val (.int (x - (1 : Int32))), .val (.int (0 : Int32)), .val (.ref np), .val (.int xj), .val (.long ((own_B aq) &&& ((own_B aq) - (1 : Int64)))), .second, .val (.int ((xj * (64 : Int32)) + (own_ntzL (own_B aq))))] [])) _
          refine own_go (fun t k => XS.iinc X25z.here hx rfl (hb hby d_prog_67_method_5_code_118) rfl (l' := #[.val (.ref r), .val (.int x), .val (.int (x - (1 : Int32))), .val (.int (1 : Int32)), .val (.ref np), .val (.int xj), .val (.long ((own_B aq) &&& ((own_B aq) - (1 : Int64)))), .second, .val (.int ((xj * (64 : Int32)) + (own_ntzL (own_B aq))))]) rfl k) ?_
          refine own_go (fun t k => XS.goto X25z.here hx rfl (pc0 := 121) (pc' := 72) rfl (hb hby d_prog_67_method_5_code_121) (by decide) (by decide) k) ?_
          show own_G p e below (T25z.setTop (mkF m 72 #[.val (.ref r), .val (.int x), .val (.int (x - (1 : Int32))), .val (.int (1 : Int32)), .val (.ref np), .val (.int xj), .val (.long ((own_B aq) &&& ((own_B aq) - (1 : Int64)))), .second, .val (.int ((xj * (64 : Int32)) + (own_ntzL (own_B aq))))] [])) _
          refine own_go (fun t k => XS.lload X25z.here hx rfl (hb hby d_prog_67_method_5_code_72) rfl k) ?_
          refine own_go (fun t k => XS.lconst X25z.here hx rfl (hb hby d_prog_67_method_5_code_74) k) ?_
          refine own_go (fun t k => XS.lcmp X25z.here hx rfl (hb hby d_prog_67_method_5_code_75) rfl k) ?_
          refine own_go (fun t k => XS.ifYes X25z.here hx rfl (pc0 := 76) (pc' := 124) rfl (hb hby d_prog_67_method_5_code_76) rfl ((if0 _ _).trans (teq ((lw_eq ((own_B aq) &&& ((own_B aq) - (1 : Int64))) (0 : Int64)).mpr (own_B_pred aq))).1) (by decide) (by decide) k) ?_
          show own_G p e below (T25z.setTop (mkF m 124 #[.val (.ref r), .val (.int x), .val (.int (x - (1 : Int32))), .val (.int (1 : Int32)), .val (.ref np), .val (.int xj), .val (.long ((own_B aq) &&& ((own_B aq) - (1 : Int64)))), .second, .val (.int ((xj * (64 : Int32)) + (own_ntzL (own_B aq))))] [])) _
          refine own_go (fun t k => XS.iinc X25z.here hx rfl (hb hby d_prog_67_method_5_code_124) rfl (l' := #[.val (.ref r), .val (.int x), .val (.int (x - (1 : Int32))), .val (.int (1 : Int32)), .val (.ref np), .val (.int (xj + (1 : Int32))), .val (.long ((own_B aq) &&& ((own_B aq) - (1 : Int64)))), .second, .val (.int ((xj * (64 : Int32)) + (own_ntzL (own_B aq))))]) rfl k) ?_
          refine own_go (fun t k => XS.goto X25z.here hx rfl (pc0 := 127) (pc' := 57) rfl (hb hby d_prog_67_method_5_code_127) (by decide) (by decide) k) ?_
          show own_G p e below (T25z.setTop (mkF m 57 #[.val (.ref r), .val (.int x), .val (.int (x - (1 : Int32))), .val (.int (1 : Int32)), .val (.ref np), .val (.int (xj + (1 : Int32))), .val (.long ((own_B aq) &&& ((own_B aq) - (1 : Int64)))), .second, .val (.int ((xj * (64 : Int32)) + (own_ntzL (own_B aq))))] [])) _
          exact ih (j + 1) _ _ _ _ _ _ _ (by omega) (own_inc hxi hjw (by omega : wd ≤ 129)) X25z e25z N23z OL KL IL (by rw [if_pos (by omega)]; exact (if_pos hc26z).symm) (fun q => absurd q (by omega)) LP
        · refine own_go (fun t k => XS.ifYes X25z.here hx rfl (pc0 := 115) (pc' := 121) rfl (hb hby d_prog_67_method_5_code_115) rfl ((if0 _ _).trans (flt (fun q_z => hc26z ((lw_lt ((own_upd ea q (st + (1 : Int64))) aq) (ra q)).mp q_z))).2.1) (by decide) (by decide) k) ?_
          show own_G p e below (T25z.setTop (mkF m 121 #[.val (.ref r), .val (.int x), .val (.int (x - (1 : Int32))), .val (.int (0 : Int32)), .val (.ref np), .val (.int xj), .val (.long ((own_B aq) &&& ((own_B aq) - (1 : Int64)))), .second, .val (.int ((xj * (64 : Int32)) + (own_ntzL (own_B aq))))] [])) _
          refine own_go (fun t k => XS.goto X25z.here hx rfl (pc0 := 121) (pc' := 72) rfl (hb hby d_prog_67_method_5_code_121) (by decide) (by decide) k) ?_
          show own_G p e below (T25z.setTop (mkF m 72 #[.val (.ref r), .val (.int x), .val (.int (x - (1 : Int32))), .val (.int (0 : Int32)), .val (.ref np), .val (.int xj), .val (.long ((own_B aq) &&& ((own_B aq) - (1 : Int64)))), .second, .val (.int ((xj * (64 : Int32)) + (own_ntzL (own_B aq))))] [])) _
          refine own_go (fun t k => XS.lload X25z.here hx rfl (hb hby d_prog_67_method_5_code_72) rfl k) ?_
          refine own_go (fun t k => XS.lconst X25z.here hx rfl (hb hby d_prog_67_method_5_code_74) k) ?_
          refine own_go (fun t k => XS.lcmp X25z.here hx rfl (hb hby d_prog_67_method_5_code_75) rfl k) ?_
          refine own_go (fun t k => XS.ifYes X25z.here hx rfl (pc0 := 76) (pc' := 124) rfl (hb hby d_prog_67_method_5_code_76) rfl ((if0 _ _).trans (teq ((lw_eq ((own_B aq) &&& ((own_B aq) - (1 : Int64))) (0 : Int64)).mpr (own_B_pred aq))).1) (by decide) (by decide) k) ?_
          show own_G p e below (T25z.setTop (mkF m 124 #[.val (.ref r), .val (.int x), .val (.int (x - (1 : Int32))), .val (.int (0 : Int32)), .val (.ref np), .val (.int xj), .val (.long ((own_B aq) &&& ((own_B aq) - (1 : Int64)))), .second, .val (.int ((xj * (64 : Int32)) + (own_ntzL (own_B aq))))] [])) _
          refine own_go (fun t k => XS.iinc X25z.here hx rfl (hb hby d_prog_67_method_5_code_124) rfl (l' := #[.val (.ref r), .val (.int x), .val (.int (x - (1 : Int32))), .val (.int (0 : Int32)), .val (.ref np), .val (.int (xj + (1 : Int32))), .val (.long ((own_B aq) &&& ((own_B aq) - (1 : Int64)))), .second, .val (.int ((xj * (64 : Int32)) + (own_ntzL (own_B aq))))]) rfl k) ?_
          refine own_go (fun t k => XS.goto X25z.here hx rfl (pc0 := 127) (pc' := 57) rfl (hb hby d_prog_67_method_5_code_127) (by decide) (by decide) k) ?_
          show own_G p e below (T25z.setTop (mkF m 57 #[.val (.ref r), .val (.int x), .val (.int (x - (1 : Int32))), .val (.int (0 : Int32)), .val (.ref np), .val (.int (xj + (1 : Int32))), .val (.long ((own_B aq) &&& ((own_B aq) - (1 : Int64)))), .second, .val (.int ((xj * (64 : Int32)) + (own_ntzL (own_B aq))))] [])) _
          exact ih (j + 1) _ _ _ _ _ _ _ (by omega) (own_inc hxi hjw (by omega : wd ≤ 129)) X25z e25z N23z OL KL IL (by rw [if_pos (by omega)]; exact (if_neg hc26z).symm) (fun q => absurd q (by omega)) LP
      · rw [show own_one aq j = 0 from own_one_miss ej22z]
        show own_G p e below (T.setTop (mkF m 70 #[.val (.ref r), .val (.int x), .val (.int (x - (1 : Int32))), .val (.int c3), .val (.ref np), .val (.int xj), .val (.long bw), .second, u8] [(.long (0 : Int64))])) _
        refine own_go (fun t k => XS.lstore X.here hx rfl (hb hby d_prog_67_method_5_code_70) rfl (l' := #[.val (.ref r), .val (.int x), .val (.int (x - (1 : Int32))), .val (.int c3), .val (.ref np), .val (.int xj), .val (.long (0 : Int64)), .second, u8]) rfl k) ?_
        refine own_go (fun t k => XS.lload X.here hx rfl (hb hby d_prog_67_method_5_code_72) rfl k) ?_
        refine own_go (fun t k => XS.lconst X.here hx rfl (hb hby d_prog_67_method_5_code_74) k) ?_
        refine own_go (fun t k => XS.lcmp X.here hx rfl (hb hby d_prog_67_method_5_code_75) rfl k) ?_
        show own_G p e below (T.setTop (mkF m 76 #[.val (.ref r), .val (.int x), .val (.int (x - (1 : Int32))), .val (.int c3), .val (.ref np), .val (.int xj), .val (.long (0 : Int64)), .second, u8] [(.int (lcmpW (0 : Int64) (0 : Int64)))])) _
        refine own_go (fun t k => XS.ifYes X.here hx rfl (pc0 := 76) (pc' := 124) rfl (hb hby d_prog_67_method_5_code_76) rfl ((if0 _ _).trans (teq ((lw_eq (0 : Int64) (0 : Int64)).mpr (by decide : (0 : Int64) = (0 : Int64)))).1) (by decide) (by decide) k) ?_
        show own_G p e below (T.setTop (mkF m 124 #[.val (.ref r), .val (.int x), .val (.int (x - (1 : Int32))), .val (.int c3), .val (.ref np), .val (.int xj), .val (.long (0 : Int64)), .second, u8] [])) _
        refine own_go (fun t k => XS.iinc X.here hx rfl (hb hby d_prog_67_method_5_code_124) rfl (l' := #[.val (.ref r), .val (.int x), .val (.int (x - (1 : Int32))), .val (.int c3), .val (.ref np), .val (.int (xj + (1 : Int32))), .val (.long (0 : Int64)), .second, u8]) rfl k) ?_
        refine own_go (fun t k => XS.goto X.here hx rfl (pc0 := 127) (pc' := 57) rfl (hb hby d_prog_67_method_5_code_127) (by decide) (by decide) k) ?_
        show own_G p e below (T.setTop (mkF m 57 #[.val (.ref r), .val (.int x), .val (.int (x - (1 : Int32))), .val (.int c3), .val (.ref np), .val (.int (xj + (1 : Int32))), .val (.long (0 : Int64)), .second, u8] [])) _
        exact ih (j + 1) _ _ _ _ _ _ _ (by omega) (own_inc hxi hjw (by omega : wd ≤ 129)) X eL NL OL KL IL (own_c3 hc3 ej22z) (fun q => hu (by omega)) LP
  have hw0 : 0 < wd := Nat.lt_of_le_of_lt (Nat.zero_le _) (hNw q hqN)
  refine own_go (fun t k => XS.iload X16z.here hx rfl (hb hby d_prog_67_method_5_code_57) rfl k) ?_
  show own_G p e below (T16z.setTop (mkF m 59 #[.val (.ref r), .val (.int x), .val (.int (x - (1 : Int32))), .val (.int (0 : Int32)), .val (.ref np), .val (.int (0 : Int32)), .unset, .unset, .unset] [(.int (0 : Int32))])) _
  refine own_go (fun t k => XS.aload X16z.here hx rfl (hb hby d_prog_67_method_5_code_59) rfl rfl k) ?_
  refine own_go (own_len X16z hx hZ e16z f17z (z := (Int32.ofNat wd)) (by rw [own_rlen]; exact own_ofN (by omega)) (g := (mkF m 61 #[.val (.ref r), .val (.int x), .val (.int (x - (1 : Int32))), .val (.int (0 : Int32)), .val (.ref np), .val (.int (0 : Int32)), .unset, .unset, .unset] [(.ref np), (.int (0 : Int32))])) rfl rfl (hb hby d_prog_67_method_5_code_61)) ?_
  refine own_go (fun t k => XS.icmpNo X16z.here hx rfl (hb hby d_prog_67_method_5_code_62) rfl (tlt ((own_ltN (by decide : ((0 : Int32)).toInt = ((0 : Nat) : Int)) (by omega)).mpr hw0)).2.1 k) ?_
  show own_G p e below (T16z.setTop (mkF m 65 #[.val (.ref r), .val (.int x), .val (.int (x - (1 : Int32))), .val (.int (0 : Int32)), .val (.ref np), .val (.int (0 : Int32)), .unset, .unset, .unset] [])) _
  refine own_go (fun t k => XS.aload X16z.here hx rfl (hb hby d_prog_67_method_5_code_65) rfl rfl k) ?_
  refine own_go (fun t k => XS.iload X16z.here hx rfl (hb hby d_prog_67_method_5_code_67) rfl k) ?_
  refine own_go (own_ldJ X16z hx hZ e16z f17z (i := 0) (v := (.long ((own_one aq) 0))) (by decide : ((0 : Int32)).toInt = ((0 : Nat) : Int)) (own_rget _ hw0) (g := (mkF m 69 #[.val (.ref r), .val (.int x), .val (.int (x - (1 : Int32))), .val (.int (0 : Int32)), .val (.ref np), .val (.int (0 : Int32)), .unset, .unset, .unset] [(.int (0 : Int32)), (.ref np)])) rfl rfl (hb hby d_prog_67_method_5_code_69)) ?_
  show own_G p e below (T16z.setTop (mkF m 70 #[.val (.ref r), .val (.int x), .val (.int (x - (1 : Int32))), .val (.int (0 : Int32)), .val (.ref np), .val (.int (0 : Int32)), .unset, .unset, .unset] [(.long ((own_one aq) 0))])) _
  by_cases ej27z : 0 = aq / 64
  · rw [show own_one aq 0 = own_B aq from by rw [ej27z]; exact own_one_hit]
    show own_G p e below (T16z.setTop (mkF m 70 #[.val (.ref r), .val (.int x), .val (.int (x - (1 : Int32))), .val (.int (0 : Int32)), .val (.ref np), .val (.int (0 : Int32)), .unset, .unset, .unset] [(.long (own_B aq))])) _
    refine own_go (fun t k => XS.lstore X16z.here hx rfl (hb hby d_prog_67_method_5_code_70) rfl (l' := #[.val (.ref r), .val (.int x), .val (.int (x - (1 : Int32))), .val (.int (0 : Int32)), .val (.ref np), .val (.int (0 : Int32)), .val (.long (own_B aq)), .second, .unset]) rfl k) ?_
    refine own_go (fun t k => XS.lload X16z.here hx rfl (hb hby d_prog_67_method_5_code_72) rfl k) ?_
    refine own_go (fun t k => XS.lconst X16z.here hx rfl (hb hby d_prog_67_method_5_code_74) k) ?_
    refine own_go (fun t k => XS.lcmp X16z.here hx rfl (hb hby d_prog_67_method_5_code_75) rfl k) ?_
    show own_G p e below (T16z.setTop (mkF m 76 #[.val (.ref r), .val (.int x), .val (.int (x - (1 : Int32))), .val (.int (0 : Int32)), .val (.ref np), .val (.int (0 : Int32)), .val (.long (own_B aq)), .second, .unset] [(.int (lcmpW (own_B aq) (0 : Int64)))])) _
    refine own_go (fun t k => XS.ifNo X16z.here hx rfl (hb hby d_prog_67_method_5_code_76) rfl ((if0 _ _).trans (feq (fun q_z => (own_B_ne aq) ((lw_eq (own_B aq) (0 : Int64)).mp q_z))).1) k) ?_
    show own_G p e below (T16z.setTop (mkF m 79 #[.val (.ref r), .val (.int x), .val (.int (x - (1 : Int32))), .val (.int (0 : Int32)), .val (.ref np), .val (.int (0 : Int32)), .val (.long (own_B aq)), .second, .unset] [])) _
    refine own_go (fun t k => XS.iload X16z.here hx rfl (hb hby d_prog_67_method_5_code_79) rfl k) ?_
    refine own_go (fun t k => XS.bipush X16z.here hx rfl (hb hby d_prog_67_method_5_code_81) k) ?_
    refine own_go (fun t k => XS.imul X16z.here hx rfl (hb hby d_prog_67_method_5_code_83) rfl k) ?_
    refine own_go (fun t k => XS.lload X16z.here hx rfl (hb hby d_prog_67_method_5_code_84) rfl k) ?_
    show own_G p e below (T16z.setTop (mkF m 86 #[.val (.ref r), .val (.int x), .val (.int (x - (1 : Int32))), .val (.int (0 : Int32)), .val (.ref np), .val (.int (0 : Int32)), .val (.long (own_B aq)), .second, .unset] [(.long (own_B aq)), (.int ((0 : Int32) * (64 : Int32)))])) _
    obtain ⟨_, _, ⟨T28z, L28z, k28z, n28z⟩, -, X28z, ⟨Lc28z, hQ28z, l28z, y28z, z28z⟩, st28z⟩ := Jvm.LawKit.callS X16z hx (y := own_m5) hown (own_mw hZ hw 74 rfl) (own_mw hZ hw 75 rfl) (own_mw hZ hw 76 rfl) (own_mw hZ hw 77 rfl) (by decide) (backOf (W := 1) (own_nzl l Z a0 hw [] (own_B aq) h13z O14z) hZ (own_hw hw 77 rfl) (own_hw hw 76 rfl) (by decide) (by decide)) (g := (mkF m 86 #[.val (.ref r), .val (.int x), .val (.int (x - (1 : Int32))), .val (.int (0 : Int32)), .val (.ref np), .val (.int (0 : Int32)), .val (.long (own_B aq)), .second, .unset] [(.long (own_B aq)), (.int ((0 : Int32) * (64 : Int32)))])) rfl (by rw [hml]; rfl) (argsL := [(.long (own_B aq))]) (rest := [(.int ((0 : Int32) * (64 : Int32)))]) (lenOf pd_2087993097 rfl) rfl (by show 2 * 0 + _ ≤ _; exact Nat.le_of_eq rfl) (hb hby d_prog_67_method_5_code_86) (fun _ _ => ⟨rfl, e16z, (by decide : 0 + 0 ≤ _), (by decide : 0 + 0 ≤ _)⟩)
    dsimp only [Pt.U, Pt.locs, Pt.cells, Pt.slots] at X28z l28z y28z z28z st28z hQ28z
    subst l28z y28z z28z
    obtain ⟨rfl, NQ28z, K28zq⟩ := hQ28z
    refine own_go st28z ?_
    have N28z := Fr.app N13z NQ28z
    show own_G p e below (T28z.setTop (mkF m 89 #[.val (.ref r), .val (.int x), .val (.int (x - (1 : Int32))), .val (.int (0 : Int32)), .val (.ref np), .val (.int (0 : Int32)), .val (.long (own_B aq)), .second, .unset] [(.int (own_ntzL (own_B aq))), (.int ((0 : Int32) * (64 : Int32)))])) _
    refine own_go (fun t k => XS.iadd X28z.here hx rfl (hb hby d_prog_67_method_5_code_89) rfl k) ?_
    refine own_go (fun t k => XS.istore X28z.here hx rfl (hb hby d_prog_67_method_5_code_90) rfl (l' := #[.val (.ref r), .val (.int x), .val (.int (x - (1 : Int32))), .val (.int (0 : Int32)), .val (.ref np), .val (.int (0 : Int32)), .val (.long (own_B aq)), .second, .val (.int (((0 : Int32) * (64 : Int32)) + (own_ntzL (own_B aq))))]) rfl k) ?_
    refine own_go (fun t k => XS.lload X28z.here hx rfl (hb hby d_prog_67_method_5_code_92) rfl k) ?_
    refine own_go (fun t k => XS.lload X28z.here hx rfl (hb hby d_prog_67_method_5_code_94) rfl k) ?_
    show own_G p e below (T28z.setTop (mkF m 96 #[.val (.ref r), .val (.int x), .val (.int (x - (1 : Int32))), .val (.int (0 : Int32)), .val (.ref np), .val (.int (0 : Int32)), .val (.long (own_B aq)), .second, .val (.int (((0 : Int32) * (64 : Int32)) + (own_ntzL (own_B aq))))] [(.long (own_B aq)), (.long (own_B aq))])) _
    refine own_go (fun t k => XS.lconst X28z.here hx rfl (hb hby d_prog_67_method_5_code_96) k) ?_
    refine own_go (fun t k => XS.lsub X28z.here hx rfl (hb hby d_prog_67_method_5_code_97) rfl k) ?_
    refine own_go (fun t k => XS.land X28z.here hx rfl (hb hby d_prog_67_method_5_code_98) rfl k) ?_
    refine own_go (fun t k => XS.lstore X28z.here hx rfl (hb hby d_prog_67_method_5_code_99) rfl (l' := #[.val (.ref r), .val (.int x), .val (.int (x - (1 : Int32))), .val (.int (0 : Int32)), .val (.ref np), .val (.int (0 : Int32)), .val (.long ((own_B aq) &&& ((own_B aq) - (1 : Int64)))), .second, .val (.int (((0 : Int32) * (64 : Int32)) + (own_ntzL (own_B aq))))]) rfl k) ?_
    show own_G p e below (T28z.setTop (mkF m 101 #[.val (.ref r), .val (.int x), .val (.int (x - (1 : Int32))), .val (.int (0 : Int32)), .val (.ref np), .val (.int (0 : Int32)), .val (.long ((own_B aq) &&& ((own_B aq) - (1 : Int64)))), .second, .val (.int (((0 : Int32) * (64 : Int32)) + (own_ntzL (own_B aq))))] [])) _
    refine own_go (fun t k => XS.aloadN X28z.here hx rfl (hb hby d_prog_67_method_5_code_101) rfl rfl k) ?_
    obtain ⟨T29z, X29z, e29z, st29z⟩ := getF X28z hx hZ hown (host := "") (Or.inl (own_hw hw 28 rfl)) Via.refl K28zq I15z.2.2.2.2.2.2.2.1 (g := (mkF m 102 #[.val (.ref r), .val (.int x), .val (.int (x - (1 : Int32))), .val (.int (0 : Int32)), .val (.ref np), .val (.int (0 : Int32)), .val (.long ((own_B aq) &&& ((own_B aq) - (1 : Int64)))), .second, .val (.int (((0 : Int32) * (64 : Int32)) + (own_ntzL (own_B aq))))] [(.ref r)])) rfl rfl (hb hby d_prog_67_method_5_code_102)
    refine own_go st29z ?_
    refine own_go (fun t k => XS.iload X29z.here hx rfl (hb hby d_prog_67_method_5_code_105) rfl k) ?_
    refine own_go (own_ldJ X29z hx hZ e29z I15z.2.2.2.2.2.2.2.2.2.2.2.2.2.2.1 (i := aq) (v := (.long ((own_upd ea q (st + (1 : Int64))) aq))) (own_other (by decide : ((0 : Int32)).toInt = ((0 : Nat) : Int)) ej27z (by omega)) (own_rget _ haN) (g := (mkF m 107 #[.val (.ref r), .val (.int x), .val (.int (x - (1 : Int32))), .val (.int (0 : Int32)), .val (.ref np), .val (.int (0 : Int32)), .val (.long ((own_B aq) &&& ((own_B aq) - (1 : Int64)))), .second, .val (.int (((0 : Int32) * (64 : Int32)) + (own_ntzL (own_B aq))))] [(.int (((0 : Int32) * (64 : Int32)) + (own_ntzL (own_B aq)))), (.ref (A 5))])) rfl rfl (hb hby d_prog_67_method_5_code_107)) ?_
    show own_G p e below (T29z.setTop (mkF m 108 #[.val (.ref r), .val (.int x), .val (.int (x - (1 : Int32))), .val (.int (0 : Int32)), .val (.ref np), .val (.int (0 : Int32)), .val (.long ((own_B aq) &&& ((own_B aq) - (1 : Int64)))), .second, .val (.int (((0 : Int32) * (64 : Int32)) + (own_ntzL (own_B aq))))] [(.long ((own_upd ea q (st + (1 : Int64))) aq))])) _
    refine own_go (fun t k => XS.aloadN X29z.here hx rfl (hb hby d_prog_67_method_5_code_108) rfl rfl k) ?_
    obtain ⟨T30z, X30z, e30z, st30z⟩ := getF X29z hx hZ hown (host := "") (Or.inl (own_hw hw 26 rfl)) Via.refl e29z I15z.2.2.2.2.2.2.1 (g := (mkF m 109 #[.val (.ref r), .val (.int x), .val (.int (x - (1 : Int32))), .val (.int (0 : Int32)), .val (.ref np), .val (.int (0 : Int32)), .val (.long ((own_B aq) &&& ((own_B aq) - (1 : Int64)))), .second, .val (.int (((0 : Int32) * (64 : Int32)) + (own_ntzL (own_B aq))))] [(.ref r), (.long ((own_upd ea q (st + (1 : Int64))) aq))])) rfl rfl (hb hby d_prog_67_method_5_code_109)
    refine own_go st30z ?_
    refine own_go (fun t k => XS.iloadN X30z.here hx rfl (hb hby d_prog_67_method_5_code_112) rfl k) ?_
    refine own_go (own_ldJ X30z hx hZ e30z I15z.2.2.2.2.2.2.2.2.2.2.2.2.2.1 (i := q) (v := (.long (ra q))) (own_sub1 hq hqN hN) (own_rget _ hqN) (g := (mkF m 113 #[.val (.ref r), .val (.int x), .val (.int (x - (1 : Int32))), .val (.int (0 : Int32)), .val (.ref np), .val (.int (0 : Int32)), .val (.long ((own_B aq) &&& ((own_B aq) - (1 : Int64)))), .second, .val (.int (((0 : Int32) * (64 : Int32)) + (own_ntzL (own_B aq))))] [(.int (x - (1 : Int32))), (.ref (A 4)), (.long ((own_upd ea q (st + (1 : Int64))) aq))])) rfl rfl (hb hby d_prog_67_method_5_code_113)) ?_
    show own_G p e below (T30z.setTop (mkF m 114 #[.val (.ref r), .val (.int x), .val (.int (x - (1 : Int32))), .val (.int (0 : Int32)), .val (.ref np), .val (.int (0 : Int32)), .val (.long ((own_B aq) &&& ((own_B aq) - (1 : Int64)))), .second, .val (.int (((0 : Int32) * (64 : Int32)) + (own_ntzL (own_B aq))))] [(.long (ra q)), (.long ((own_upd ea q (st + (1 : Int64))) aq))])) _
    refine own_go (fun t k => XS.lcmp X30z.here hx rfl (hb hby d_prog_67_method_5_code_114) rfl k) ?_
    by_cases hc31z : ((own_upd ea q (st + (1 : Int64))) aq) < (ra q)
    · refine own_go (fun t k => XS.ifNo X30z.here hx rfl (hb hby d_prog_67_method_5_code_115) rfl ((if0 _ _).trans (tlt ((lw_lt ((own_upd ea q (st + (1 : Int64))) aq) (ra q)).mpr hc31z)).2.1) k) ?_
      show own_G p e below (T30z.setTop (mkF m 118 #[.val (.ref r), .val (.int x), .val (.int (x - (1 : Int32))), .val (.int (0 : Int32)), .val (.ref np), .val (.int (0 : Int32)), .val (.long ((own_B aq) &&& ((own_B aq) - (1 : Int64)))), .second, .val (.int (((0 : Int32) * (64 : Int32)) + (own_ntzL (own_B aq))))] [])) _
      refine own_go (fun t k => XS.iinc X30z.here hx rfl (hb hby d_prog_67_method_5_code_118) rfl (l' := #[.val (.ref r), .val (.int x), .val (.int (x - (1 : Int32))), .val (.int (1 : Int32)), .val (.ref np), .val (.int (0 : Int32)), .val (.long ((own_B aq) &&& ((own_B aq) - (1 : Int64)))), .second, .val (.int (((0 : Int32) * (64 : Int32)) + (own_ntzL (own_B aq))))]) rfl k) ?_
      refine own_go (fun t k => XS.goto X30z.here hx rfl (pc0 := 121) (pc' := 72) rfl (hb hby d_prog_67_method_5_code_121) (by decide) (by decide) k) ?_
      show own_G p e below (T30z.setTop (mkF m 72 #[.val (.ref r), .val (.int x), .val (.int (x - (1 : Int32))), .val (.int (1 : Int32)), .val (.ref np), .val (.int (0 : Int32)), .val (.long ((own_B aq) &&& ((own_B aq) - (1 : Int64)))), .second, .val (.int (((0 : Int32) * (64 : Int32)) + (own_ntzL (own_B aq))))] [])) _
      refine own_go (fun t k => XS.lload X30z.here hx rfl (hb hby d_prog_67_method_5_code_72) rfl k) ?_
      refine own_go (fun t k => XS.lconst X30z.here hx rfl (hb hby d_prog_67_method_5_code_74) k) ?_
      refine own_go (fun t k => XS.lcmp X30z.here hx rfl (hb hby d_prog_67_method_5_code_75) rfl k) ?_
      refine own_go (fun t k => XS.ifYes X30z.here hx rfl (pc0 := 76) (pc' := 124) rfl (hb hby d_prog_67_method_5_code_76) rfl ((if0 _ _).trans (teq ((lw_eq ((own_B aq) &&& ((own_B aq) - (1 : Int64))) (0 : Int64)).mpr (own_B_pred aq))).1) (by decide) (by decide) k) ?_
      show own_G p e below (T30z.setTop (mkF m 124 #[.val (.ref r), .val (.int x), .val (.int (x - (1 : Int32))), .val (.int (1 : Int32)), .val (.ref np), .val (.int (0 : Int32)), .val (.long ((own_B aq) &&& ((own_B aq) - (1 : Int64)))), .second, .val (.int (((0 : Int32) * (64 : Int32)) + (own_ntzL (own_B aq))))] [])) _
      refine own_go (fun t k => XS.iinc X30z.here hx rfl (hb hby d_prog_67_method_5_code_124) rfl (l' := #[.val (.ref r), .val (.int x), .val (.int (x - (1 : Int32))), .val (.int (1 : Int32)), .val (.ref np), .val (.int (1 : Int32)), .val (.long ((own_B aq) &&& ((own_B aq) - (1 : Int64)))), .second, .val (.int (((0 : Int32) * (64 : Int32)) + (own_ntzL (own_B aq))))]) rfl k) ?_
      refine own_go (fun t k => XS.goto X30z.here hx rfl (pc0 := 127) (pc' := 57) rfl (hb hby d_prog_67_method_5_code_127) (by decide) (by decide) k) ?_
      show own_G p e below (T30z.setTop (mkF m 57 #[.val (.ref r), .val (.int x), .val (.int (x - (1 : Int32))), .val (.int (1 : Int32)), .val (.ref np), .val (.int (1 : Int32)), .val (.long ((own_B aq) &&& ((own_B aq) - (1 : Int64)))), .second, .val (.int (((0 : Int32) * (64 : Int32)) + (own_ntzL (own_B aq))))] [])) _
      exact loop1 (wd - 1) (0 + 1) _ _ _ _ _ _ _ (by omega) (own_inc (by decide : ((0 : Int32)).toInt = ((0 : Nat) : Int)) hw0 (by omega : wd ≤ 129)) X30z e30z N28z O14z K14z I15z (by rw [if_pos (by omega)]; exact (if_pos hc31z).symm) (fun q => absurd q (by omega)) f17z
    · refine own_go (fun t k => XS.ifYes X30z.here hx rfl (pc0 := 115) (pc' := 121) rfl (hb hby d_prog_67_method_5_code_115) rfl ((if0 _ _).trans (flt (fun q_z => hc31z ((lw_lt ((own_upd ea q (st + (1 : Int64))) aq) (ra q)).mp q_z))).2.1) (by decide) (by decide) k) ?_
      show own_G p e below (T30z.setTop (mkF m 121 #[.val (.ref r), .val (.int x), .val (.int (x - (1 : Int32))), .val (.int (0 : Int32)), .val (.ref np), .val (.int (0 : Int32)), .val (.long ((own_B aq) &&& ((own_B aq) - (1 : Int64)))), .second, .val (.int (((0 : Int32) * (64 : Int32)) + (own_ntzL (own_B aq))))] [])) _
      refine own_go (fun t k => XS.goto X30z.here hx rfl (pc0 := 121) (pc' := 72) rfl (hb hby d_prog_67_method_5_code_121) (by decide) (by decide) k) ?_
      show own_G p e below (T30z.setTop (mkF m 72 #[.val (.ref r), .val (.int x), .val (.int (x - (1 : Int32))), .val (.int (0 : Int32)), .val (.ref np), .val (.int (0 : Int32)), .val (.long ((own_B aq) &&& ((own_B aq) - (1 : Int64)))), .second, .val (.int (((0 : Int32) * (64 : Int32)) + (own_ntzL (own_B aq))))] [])) _
      refine own_go (fun t k => XS.lload X30z.here hx rfl (hb hby d_prog_67_method_5_code_72) rfl k) ?_
      refine own_go (fun t k => XS.lconst X30z.here hx rfl (hb hby d_prog_67_method_5_code_74) k) ?_
      refine own_go (fun t k => XS.lcmp X30z.here hx rfl (hb hby d_prog_67_method_5_code_75) rfl k) ?_
      refine own_go (fun t k => XS.ifYes X30z.here hx rfl (pc0 := 76) (pc' := 124) rfl (hb hby d_prog_67_method_5_code_76) rfl ((if0 _ _).trans (teq ((lw_eq ((own_B aq) &&& ((own_B aq) - (1 : Int64))) (0 : Int64)).mpr (own_B_pred aq))).1) (by decide) (by decide) k) ?_
      show own_G p e below (T30z.setTop (mkF m 124 #[.val (.ref r), .val (.int x), .val (.int (x - (1 : Int32))), .val (.int (0 : Int32)), .val (.ref np), .val (.int (0 : Int32)), .val (.long ((own_B aq) &&& ((own_B aq) - (1 : Int64)))), .second, .val (.int (((0 : Int32) * (64 : Int32)) + (own_ntzL (own_B aq))))] [])) _
      refine own_go (fun t k => XS.iinc X30z.here hx rfl (hb hby d_prog_67_method_5_code_124) rfl (l' := #[.val (.ref r), .val (.int x), .val (.int (x - (1 : Int32))), .val (.int (0 : Int32)), .val (.ref np), .val (.int (1 : Int32)), .val (.long ((own_B aq) &&& ((own_B aq) - (1 : Int64)))), .second, .val (.int (((0 : Int32) * (64 : Int32)) + (own_ntzL (own_B aq))))]) rfl k) ?_
      refine own_go (fun t k => XS.goto X30z.here hx rfl (pc0 := 127) (pc' := 57) rfl (hb hby d_prog_67_method_5_code_127) (by decide) (by decide) k) ?_
      show own_G p e below (T30z.setTop (mkF m 57 #[.val (.ref r), .val (.int x), .val (.int (x - (1 : Int32))), .val (.int (0 : Int32)), .val (.ref np), .val (.int (1 : Int32)), .val (.long ((own_B aq) &&& ((own_B aq) - (1 : Int64)))), .second, .val (.int (((0 : Int32) * (64 : Int32)) + (own_ntzL (own_B aq))))] [])) _
      exact loop1 (wd - 1) (0 + 1) _ _ _ _ _ _ _ (by omega) (own_inc (by decide : ((0 : Int32)).toInt = ((0 : Nat) : Int)) hw0 (by omega : wd ≤ 129)) X30z e30z N28z O14z K14z I15z (by rw [if_pos (by omega)]; exact (if_neg hc31z).symm) (fun q => absurd q (by omega)) f17z
  · rw [show own_one aq 0 = 0 from own_one_miss ej27z]
    show own_G p e below (T16z.setTop (mkF m 70 #[.val (.ref r), .val (.int x), .val (.int (x - (1 : Int32))), .val (.int (0 : Int32)), .val (.ref np), .val (.int (0 : Int32)), .unset, .unset, .unset] [(.long (0 : Int64))])) _
    refine own_go (fun t k => XS.lstore X16z.here hx rfl (hb hby d_prog_67_method_5_code_70) rfl (l' := #[.val (.ref r), .val (.int x), .val (.int (x - (1 : Int32))), .val (.int (0 : Int32)), .val (.ref np), .val (.int (0 : Int32)), .val (.long (0 : Int64)), .second, .unset]) rfl k) ?_
    refine own_go (fun t k => XS.lload X16z.here hx rfl (hb hby d_prog_67_method_5_code_72) rfl k) ?_
    refine own_go (fun t k => XS.lconst X16z.here hx rfl (hb hby d_prog_67_method_5_code_74) k) ?_
    refine own_go (fun t k => XS.lcmp X16z.here hx rfl (hb hby d_prog_67_method_5_code_75) rfl k) ?_
    show own_G p e below (T16z.setTop (mkF m 76 #[.val (.ref r), .val (.int x), .val (.int (x - (1 : Int32))), .val (.int (0 : Int32)), .val (.ref np), .val (.int (0 : Int32)), .val (.long (0 : Int64)), .second, .unset] [(.int (lcmpW (0 : Int64) (0 : Int64)))])) _
    refine own_go (fun t k => XS.ifYes X16z.here hx rfl (pc0 := 76) (pc' := 124) rfl (hb hby d_prog_67_method_5_code_76) rfl ((if0 _ _).trans (teq ((lw_eq (0 : Int64) (0 : Int64)).mpr (by decide : (0 : Int64) = (0 : Int64)))).1) (by decide) (by decide) k) ?_
    show own_G p e below (T16z.setTop (mkF m 124 #[.val (.ref r), .val (.int x), .val (.int (x - (1 : Int32))), .val (.int (0 : Int32)), .val (.ref np), .val (.int (0 : Int32)), .val (.long (0 : Int64)), .second, .unset] [])) _
    refine own_go (fun t k => XS.iinc X16z.here hx rfl (hb hby d_prog_67_method_5_code_124) rfl (l' := #[.val (.ref r), .val (.int x), .val (.int (x - (1 : Int32))), .val (.int (0 : Int32)), .val (.ref np), .val (.int (1 : Int32)), .val (.long (0 : Int64)), .second, .unset]) rfl k) ?_
    refine own_go (fun t k => XS.goto X16z.here hx rfl (pc0 := 127) (pc' := 57) rfl (hb hby d_prog_67_method_5_code_127) (by decide) (by decide) k) ?_
    show own_G p e below (T16z.setTop (mkF m 57 #[.val (.ref r), .val (.int x), .val (.int (x - (1 : Int32))), .val (.int (0 : Int32)), .val (.ref np), .val (.int (1 : Int32)), .val (.long (0 : Int64)), .second, .unset] [])) _
    exact loop1 (wd - 1) (0 + 1) _ _ _ _ _ _ _ (by omega) (own_inc (by decide : ((0 : Int32)).toInt = ((0 : Nat) : Int)) hw0 (by omega : wd ≤ 129)) X16z e16z N13z O14z K14z I15z (own_c3 (show (0 : Int32) = (if aq / 64 < 0 then (own_ce ((own_upd ea q (st + (1 : Int64))) aq) (ra q)) else 0) from (if_neg (by omega)).symm) ej27z) (fun _ => rfl) f17z
theorem ef_own_en0 (m : MethodId) (x0 : Addr) (x1 : Int32) : entryFrame m #[(.ref x0), (.int x1)] 9 = mkF m 0 #[.val (.ref x0), .val (.int x1), .unset, .unset, .unset, .unset, .unset, .unset, .unset] [] := by first | (simp [entryFrame, mkF, argsToLocals, Value.category]; done) | rfl
theorem pf_own_en0 : plainFor own_m10 = true := plainFor_of_name (by simp [plainName, overriddenIn])
def Q_own_en0 (Z : State) (r : Addr) (N : Nat) (wd : Nat) (A : (Nat → Addr)) (K : (Nat → ClassId)) (rows : (Nat → Addr)) (rc : (Nat → Nat → Int64)) (ls : (Nat → Value)) (pr : (Nat → Value)) (wt : (Nat → Int64)) (ra : (Nat → Int64)) (ea : (Nat → Int64)) (st : Int64) (n0 : Nat) (q : Nat) (x : Int32) (np : Addr) (kp : ClassId) (h0 : Heap) (v : Option Value) (h : Heap) (L : List Loc) : Prop := v = some (.int (0 : Int32)) ∧ Fr Z.heap.size L ∧ Keep h0 h (own_ws r N A rows) ∧ (own_I Z h r N wd A K rows rc ls (own_upd pr q .null) (own_clr wt q) ra (own_upd ea q (st + (1 : Int64))) (st + (1 : Int64)))
set_option maxRecDepth 65536 in
set_option maxHeartbeats 40000000 in
theorem own_en0 (l : Launch) (Z : State) (a0 : Array Value) (hw : ∀ d ∈ tables_1, d.before a0 Z = true) (ws : List Jvm.Cond) (r : Addr) (N : Nat) (wd : Nat) (A : (Nat → Addr)) (K : (Nat → ClassId)) (rows : (Nat → Addr)) (rc : (Nat → Nat → Int64)) (ls : (Nat → Value)) (pr : (Nat → Value)) (wt : (Nat → Int64)) (ra : (Nat → Int64)) (ea : (Nat → Int64)) (st : Int64) (n0 : Nat) (q : Nat) (x : Int32) (np : Addr) (kp : ClassId) (h0 : Heap) (O0 : Ext Z.heap h0) (II : own_I Z h0 r N wd A K rows rc ls pr wt ra ea st) (DD : own_D n0 r N A rows) (hn0 : Z.heap.size ≤ n0) (hN : N ≤ 129) (hwd : wd ≤ 3) (hNw : ∀ i, i < N → i / 64 < wd) (OA0 : OvrA Z (K 0) .long "[J") (OA1 : Ovr Z (K 1) own_s0) (OA2 : OvrA Z (K 2) .long "[J") (hq : x.toInt = (q : Int) + 1) (hqN : q < N) (hpr : pr q = .ref np) (q12 : own_A Z h0 np kp .long ((List.range wd).map fun i_z => Value.long ((fun _ => 0) i_z))) (no : np ∉ own_ws r N A rows) :
    MetFree l own_m10 (head1 (Jvm.Cond.code own_m10 prog_67_method_5_code 9 (some .int) :: ws) ({ frames := 2, cells := 0, slots := 0, locals := 30 } : Room)) (fun aa U => aa = #[(.ref r), (.int x)] ∧ Z.Warmed39 U.vm ∧ U.heap = h0) (fun _ _ _ _ _ => True) (fun _ U o U' => ∃ v L, o = .returned v ∧ Q_own_en0 Z r N wd A K rows rc ls pr wt ra ea st n0 q x np kp h0 v U'.heap L ∧ FrameEnd U o U' L ({ frames := 2, cells := 0, slots := 0, locals := 30 } : Room).cells ({ frames := 2, cells := 0, slots := 0, locals := 30 } : Room).slots) := by
  refine MetFree.of_bodySF pf_own_en0 hisR ?_
  intro p e s m args below meth c s₁ Bd hml0 hP hK
  obtain ⟨rfl, hZ, hh⟩ := hP
  have hx := Bd.exec
  have hby := Bd.bytes
  have hlk := BodyLoose.notSynchronized Bd
  have hml : c.maxLocals = 9 := hml0
  have hown : s.vm.findClass own_s1 = some m.cls := findClass_of_methodNamed Bd.named
  have hnm := (name_of_methodNamed Bd.named Bd.method).1
  have X0 : Stand p l e ({ frames := 2, cells := 0, slots := 0, locals := 30 } : Room) s m #[(.ref r), (.int x)] below meth c s₁ [] 0 0 := Stand.of_body Bd
  have e0 : s₁.heap = h0 := by rw [← hh, Bd.state]; rfl
  have N0 := Fr.nil Z.heap.size
  have K0 : Keep h0 h0 (own_ws r N A rows) := Keep.refl _ _
  refine own_start (Q := Q_own_en0 Z r N wd A K rows rc ls pr wt ra ea st n0 q x np kp h0) (ef_own_en0 m (r) (x)) ?_
  show own_G p e below (s₁.setTop (mkF m 0 #[.val (.ref r), .val (.int x), .unset, .unset, .unset, .unset, .unset, .unset, .unset] [])) _
  refine own_go (fun t k => XS.iloadN X0.here hx rfl (hb hby d_prog_67_method_5_code_0) rfl k) ?_
  refine own_go (fun t k => XS.iconst X0.here hx rfl (hb hby d_prog_67_method_5_code_1) k) ?_
  refine own_go (fun t k => XS.isub X0.here hx rfl (hb hby d_prog_67_method_5_code_2) rfl k) ?_
  refine own_go (fun t k => XS.istoreN X0.here hx rfl (hb hby d_prog_67_method_5_code_3) rfl (l' := #[.val (.ref r), .val (.int x), .val (.int (x - (1 : Int32))), .unset, .unset, .unset, .unset, .unset, .unset]) rfl k) ?_
  show own_G p e below (s₁.setTop (mkF m 4 #[.val (.ref r), .val (.int x), .val (.int (x - (1 : Int32))), .unset, .unset, .unset, .unset, .unset, .unset] [])) _
  refine own_go (fun t k => XS.aloadN X0.here hx rfl (hb hby d_prog_67_method_5_code_4) rfl rfl k) ?_
  refine own_go (fun t k => XS.dup X0.here hx rfl (hb hby d_prog_67_method_5_code_5) rfl rfl k) ?_
  obtain ⟨T1z, X1z, e1z, st1z⟩ := getF X0 hx hZ hown (host := "") (Or.inl (own_hw hw 35 rfl)) Via.refl e0 II.2.2.2.2.2.2.2.2.1 (g := (mkF m 6 #[.val (.ref r), .val (.int x), .val (.int (x - (1 : Int32))), .unset, .unset, .unset, .unset, .unset, .unset] [(.ref r), (.ref r)])) rfl rfl (hb hby d_prog_67_method_5_code_6)
  refine own_go st1z ?_
  refine own_go (fun t k => XS.lconst X1z.here hx rfl (hb hby d_prog_67_method_5_code_9) k) ?_
  show own_G p e below (T1z.setTop (mkF m 10 #[.val (.ref r), .val (.int x), .val (.int (x - (1 : Int32))), .unset, .unset, .unset, .unset, .unset, .unset] [(.long (1 : Int64)), (.long st), (.ref r)])) _
  refine own_go (fun t k => XS.ladd X1z.here hx rfl (hb hby d_prog_67_method_5_code_10) rfl k) ?_
  obtain ⟨T2z, h2z, X2z, e2z, W2z, st2z⟩ := putF X1z hx hZ hown (host := "") (Or.inl (own_hw hw 35 rfl)) Via.refl e1z II.2.2.2.2.2.2.2.2.1 II.1 (Or.inl (own_hw hw 36 rfl)) (own_hw hw 2 rfl) (ty := .long) (by decide) rfl rfl (g := (mkF m 11 #[.val (.ref r), .val (.int x), .val (.int (x - (1 : Int32))), .unset, .unset, .unset, .unset, .unset, .unset] [(.long (st + (1 : Int64))), (.ref r)])) rfl rfl (hb hby d_prog_67_method_5_code_11)
  refine own_go st2z ?_
  have N2z := Fr.snoc X2z N0 (Nat.le_trans hn0 DD.1)
  have F2z : Fld Z h2z r own_s1 "stamp" "J" (.long (st + (1 : Int64))) := II.2.2.2.2.2.2.2.2.1.same W2z
  have O3z := own_ext_wr O0 W2z (Nat.le_trans hn0 DD.1)
  have K3z := K0.wr W2z (Or.inl own_ws_r)
  have I4z := own_I.wst (own_hs hw) II DD W2z
  refine own_go (fun t k => XS.aloadN X2z.here hx rfl (hb hby d_prog_67_method_5_code_14) rfl rfl k) ?_
  obtain ⟨T5z, X5z, e5z, st5z⟩ := getF X2z hx hZ hown (host := "") (Or.inl (own_hw hw 24 rfl)) Via.refl e2z I4z.2.2.2.2.2.1 (g := (mkF m 15 #[.val (.ref r), .val (.int x), .val (.int (x - (1 : Int32))), .unset, .unset, .unset, .unset, .unset, .unset] [(.ref r)])) rfl rfl (hb hby d_prog_67_method_5_code_15)
  refine own_go st5z ?_
  show own_G p e below (T5z.setTop (mkF m 18 #[.val (.ref r), .val (.int x), .val (.int (x - (1 : Int32))), .unset, .unset, .unset, .unset, .unset, .unset] [(.ref (A 3))])) _
  refine own_go (fun t k => XS.iloadN X5z.here hx rfl (hb hby d_prog_67_method_5_code_18) rfl k) ?_
  obtain ⟨_, _, ⟨T6z, L6z, k6z, n6z⟩, -, X6z, ⟨Lc6z, hQ6z, l6z, y6z, z6z⟩, st6z⟩ := Jvm.LawKit.callS X5z hx (y := own_m0) hown (own_mw hZ hw 40 rfl) (own_mw hZ hw 41 rfl) (own_mw hZ hw 3 rfl) (own_mw hZ hw 42 rfl) (by decide) (backOf (W := 1) (own_word l Z a0 hw [] (x - (1 : Int32)) h2z O3z) hZ (own_hw hw 42 rfl) (own_hw hw 3 rfl) (by decide) (by decide)) (g := (mkF m 19 #[.val (.ref r), .val (.int x), .val (.int (x - (1 : Int32))), .unset, .unset, .unset, .unset, .unset, .unset] [(.int (x - (1 : Int32))), (.ref (A 3))])) rfl (by rw [hml]; rfl) (argsL := [(.int (x - (1 : Int32)))]) (rest := [(.ref (A 3))]) (lenOf pd_2087992008 rfl) rfl (by show 2 * 0 + _ ≤ _; exact Nat.le_of_eq rfl) (hb hby d_prog_67_method_5_code_19) (fun _ _ => ⟨rfl, e5z, (by decide : 0 + 0 ≤ _), (by decide : 0 + 0 ≤ _)⟩)
  dsimp only [Pt.U, Pt.locs, Pt.cells, Pt.slots] at X6z l6z y6z z6z st6z hQ6z
  subst l6z y6z z6z
  obtain ⟨rfl, NQ6z, K6zq⟩ := hQ6z
  refine own_go st6z ?_
  have N6z := Fr.app N2z NQ6z
  show own_G p e below (T6z.setTop (mkF m 22 #[.val (.ref r), .val (.int x), .val (.int (x - (1 : Int32))), .unset, .unset, .unset, .unset, .unset, .unset] [(.int ((x - (1 : Int32)) / (64 : Int32))), (.ref (A 3))])) _
  refine own_go (fun t k => own_dup2 X6z.here hx rfl (hb hby d_prog_67_method_5_code_22) rfl rfl rfl k) ?_
  refine own_go (own_ldJ X6z hx hZ K6zq I4z.2.2.2.2.2.2.2.2.2.2.2.2.1 (i := (q / 64)) (v := (.long (wt (q / 64)))) (own_w64 (own_sub1 hq hqN hN)) (own_rget _ (hNw q hqN)) (g := (mkF m 23 #[.val (.ref r), .val (.int x), .val (.int (x - (1 : Int32))), .unset, .unset, .unset, .unset, .unset, .unset] [(.int ((x - (1 : Int32)) / (64 : Int32))), (.ref (A 3)), (.int ((x - (1 : Int32)) / (64 : Int32))), (.ref (A 3))])) rfl rfl (hb hby d_prog_67_method_5_code_23)) ?_
  refine own_go (fun t k => XS.iloadN X6z.here hx rfl (hb hby d_prog_67_method_5_code_24) rfl k) ?_
  obtain ⟨_, _, ⟨T7z, L7z, k7z, n7z⟩, -, X7z, ⟨Lc7z, hQ7z, l7z, y7z, z7z⟩, st7z⟩ := Jvm.LawKit.callS X6z hx (y := own_m1) hown (own_mw hZ hw 43 rfl) (own_mw hZ hw 44 rfl) (own_mw hZ hw 3 rfl) (own_mw hZ hw 45 rfl) (by decide) (backOf (W := 4) (own_bitM l Z a0 hw [] (x - (1 : Int32)) q h2z O3z (own_sub1 hq hqN hN)) hZ (own_hw hw 45 rfl) (own_hw hw 3 rfl) (by decide) (by decide)) (g := (mkF m 25 #[.val (.ref r), .val (.int x), .val (.int (x - (1 : Int32))), .unset, .unset, .unset, .unset, .unset, .unset] [(.int (x - (1 : Int32))), (.long (wt (q / 64))), (.int ((x - (1 : Int32)) / (64 : Int32))), (.ref (A 3))])) rfl (by rw [hml]; rfl) (argsL := [(.int (x - (1 : Int32)))]) (rest := [(.long (wt (q / 64))), (.int ((x - (1 : Int32)) / (64 : Int32))), (.ref (A 3))]) (lenOf pd_2087992009 rfl) rfl (by show 2 * 0 + _ ≤ _; exact Nat.le_of_eq rfl) (hb hby d_prog_67_method_5_code_25) (fun _ _ => ⟨rfl, K6zq, (by decide : 0 + 0 ≤ _), (by decide : 0 + 0 ≤ _)⟩)
  dsimp only [Pt.U, Pt.locs, Pt.cells, Pt.slots] at X7z l7z y7z z7z st7z hQ7z
  subst l7z y7z z7z
  obtain ⟨rfl, NQ7z, K7zq⟩ := hQ7z
  refine own_go st7z ?_
  have N7z := Fr.app N6z NQ7z
  show own_G p e below (T7z.setTop (mkF m 28 #[.val (.ref r), .val (.int x), .val (.int (x - (1 : Int32))), .unset, .unset, .unset, .unset, .unset, .unset] [(.long (own_B q)), (.long (wt (q / 64))), (.int ((x - (1 : Int32)) / (64 : Int32))), (.ref (A 3))])) _
  refine own_go (fun t k => X7z.ldc2J hx hown (mvT hZ (own_hw hw 73 rfl)) rfl (hb hby d_prog_67_method_5_code_28) k) ?_
  refine own_go (fun t k => XS.lxor X7z.here hx rfl (hb hby d_prog_67_method_5_code_31) rfl k) ?_
  refine own_go (fun t k => XS.land X7z.here hx rfl (hb hby d_prog_67_method_5_code_32) rfl k) ?_
  obtain ⟨T8z, h8z, X8z, e8z, W8z, V8z, st8z⟩ := own_stJ X7z hx hZ K7zq I4z.2.2.2.2.2.2.2.2.2.2.2.2.1 (i := (q / 64)) (own_w64 (own_sub1 hq hqN hN)) (by rw [own_rlen]; exact hNw q hqN) (g := (mkF m 33 #[.val (.ref r), .val (.int x), .val (.int (x - (1 : Int32))), .unset, .unset, .unset, .unset, .unset, .unset] [(.long ((wt (q / 64)) &&& ((own_B q) ^^^ (-1 : Int64)))), (.int ((x - (1 : Int32)) / (64 : Int32))), (.ref (A 3))])) rfl rfl (hb hby d_prog_67_method_5_code_33)
  refine own_go st8z ?_
  have N8z := Fr.snoc X8z N7z (Nat.le_trans hn0 (DD.2.1 3 (by decide)).1)
  have O9z := own_ext_wr O3z W8z (Nat.le_trans hn0 (DD.2.1 3 (by decide)).1)
  have K9z := K3z.wr W8z (Or.inl (own_ws_A (by decide : 3 < 6)))
  have I10z := own_I.w3 I4z DD W8z (own_L.set V8z)
  have V8z : own_A Z h8z (A 3) (K 3) .long (((List.range wd).map fun i_z => Value.long (wt i_z)).set (q / 64) (.long ((wt (q / 64)) &&& ((own_B q) ^^^ (-1 : Int64))))) := V8z
  show own_G p e below (T8z.setTop (mkF m 34 #[.val (.ref r), .val (.int x), .val (.int (x - (1 : Int32))), .unset, .unset, .unset, .unset, .unset, .unset] [])) _
  refine own_go (fun t k => XS.aloadN X8z.here hx rfl (hb hby d_prog_67_method_5_code_34) rfl rfl k) ?_
  obtain ⟨T11z, X11z, e11z, st11z⟩ := getF X8z hx hZ hown (host := "") (Or.inl (own_hw hw 28 rfl)) Via.refl e8z I10z.2.2.2.2.2.2.2.1 (g := (mkF m 35 #[.val (.ref r), .val (.int x), .val (.int (x - (1 : Int32))), .unset, .unset, .unset, .unset, .unset, .unset] [(.ref r)])) rfl rfl (hb hby d_prog_67_method_5_code_35)
  refine own_go st11z ?_
  refine own_go (fun t k => XS.iloadN X11z.here hx rfl (hb hby d_prog_67_method_5_code_38) rfl k) ?_
  refine own_go (fun t k => XS.aloadN X11z.here hx rfl (hb hby d_prog_67_method_5_code_39) rfl rfl k) ?_
  show own_G p e below (T11z.setTop (mkF m 40 #[.val (.ref r), .val (.int x), .val (.int (x - (1 : Int32))), .unset, .unset, .unset, .unset, .unset, .unset] [(.ref r), (.int (x - (1 : Int32))), (.ref (A 5))])) _
  obtain ⟨T12z, X12z, e12z, st12z⟩ := getF X11z hx hZ hown (host := "") (Or.inl (own_hw hw 35 rfl)) Via.refl e11z I10z.2.2.2.2.2.2.2.2.1 (g := (mkF m 40 #[.val (.ref r), .val (.int x), .val (.int (x - (1 : Int32))), .unset, .unset, .unset, .unset, .unset, .unset] [(.ref r), (.int (x - (1 : Int32))), (.ref (A 5))])) rfl rfl (hb hby d_prog_67_method_5_code_40)
  refine own_go st12z ?_
  obtain ⟨T13z, h13z, X13z, e13z, W13z, V13z, st13z⟩ := own_stJ X12z hx hZ e12z I10z.2.2.2.2.2.2.2.2.2.2.2.2.2.2.1 (i := q) (own_sub1 hq hqN hN) (by rw [own_rlen]; exact hqN) (g := (mkF m 43 #[.val (.ref r), .val (.int x), .val (.int (x - (1 : Int32))), .unset, .unset, .unset, .unset, .unset, .unset] [(.long (st + (1 : Int64))), (.int (x - (1 : Int32))), (.ref (A 5))])) rfl rfl (hb hby d_prog_67_method_5_code_43)
  refine own_go st13z ?_
  have N13z := Fr.snoc X13z N8z (Nat.le_trans hn0 (DD.2.1 5 (by decide)).1)
  have O14z := own_ext_wr O9z W13z (Nat.le_trans hn0 (DD.2.1 5 (by decide)).1)
  have K14z := K9z.wr W13z (Or.inl (own_ws_A (by decide : 5 < 6)))
  have I15z := own_I.w5 I10z DD W13z (own_L.set V13z)
  have V13z : own_A Z h13z (A 5) (K 5) .long (((List.range N).map fun i_z => Value.long (ea i_z)).set q (.long (st + (1 : Int64)))) := V13z
  refine own_go (fun t k => XS.iconst X13z.here hx rfl (hb hby d_prog_67_method_5_code_44) k) ?_
  refine own_go (fun t k => XS.istoreN X13z.here hx rfl (hb hby d_prog_67_method_5_code_45) rfl (l' := #[.val (.ref r), .val (.int x), .val (.int (x - (1 : Int32))), .val (.int (0 : Int32)), .unset, .unset, .unset, .unset, .unset]) rfl k) ?_
  show own_G p e below (T13z.setTop (mkF m 46 #[.val (.ref r), .val (.int x), .val (.int (x - (1 : Int32))), .val (.int (0 : Int32)), .unset, .unset, .unset, .unset, .unset] [])) _
  refine own_go (fun t k => XS.aloadN X13z.here hx rfl (hb hby d_prog_67_method_5_code_46) rfl rfl k) ?_
  obtain ⟨T16z, X16z, e16z, st16z⟩ := getF X13z hx hZ hown (host := "") (Or.inl (own_hw hw 22 rfl)) Via.refl e13z I15z.2.2.2.2.1 (g := (mkF m 47 #[.val (.ref r), .val (.int x), .val (.int (x - (1 : Int32))), .val (.int (0 : Int32)), .unset, .unset, .unset, .unset, .unset] [(.ref r)])) rfl rfl (hb hby d_prog_67_method_5_code_47)
  refine own_go st16z ?_
  refine own_go (fun t k => XS.iloadN X16z.here hx rfl (hb hby d_prog_67_method_5_code_50) rfl k) ?_
  refine own_go (own_ldA X16z hx hZ e16z I15z.2.2.2.2.2.2.2.2.2.2.2.1 rfl (i := q) (v := (.ref np)) (own_sub1 hq hqN hN) (by rw [own_rget _ hqN, hpr]) (g := (mkF m 51 #[.val (.ref r), .val (.int x), .val (.int (x - (1 : Int32))), .val (.int (0 : Int32)), .unset, .unset, .unset, .unset, .unset] [(.int (x - (1 : Int32))), (.ref (A 2))])) rfl rfl (hb hby d_prog_67_method_5_code_51)) ?_
  show own_G p e below (T16z.setTop (mkF m 52 #[.val (.ref r), .val (.int x), .val (.int (x - (1 : Int32))), .val (.int (0 : Int32)), .unset, .unset, .unset, .unset, .unset] [(.ref np)])) _
  refine own_go (fun t k => XS.astore X16z.here hx rfl (hb hby d_prog_67_method_5_code_52) rfl rfl (l' := #[.val (.ref r), .val (.int x), .val (.int (x - (1 : Int32))), .val (.int (0 : Int32)), .val (.ref np), .unset, .unset, .unset, .unset]) rfl k) ?_
  refine own_go (fun t k => XS.iconst X16z.here hx rfl (hb hby d_prog_67_method_5_code_54) k) ?_
  refine own_go (fun t k => XS.istore X16z.here hx rfl (hb hby d_prog_67_method_5_code_55) rfl (l' := #[.val (.ref r), .val (.int x), .val (.int (x - (1 : Int32))), .val (.int (0 : Int32)), .val (.ref np), .val (.int (0 : Int32)), .unset, .unset, .unset]) rfl k) ?_
  have f17z := (((q12.other W2z (own_nr no)).other W8z (own_nA no (by decide : 3 < 6))).other W13z (own_nA no (by decide : 5 < 6)))
  have loop1 : ∀ (n j : Nat) (xj : Int32) (T : State) (h : Heap) (locs : List Loc) (bw : Int64), j + n = wd → xj.toInt = (j : Int) → Stand p l e ({ frames := 2, cells := 0, slots := 0, locals := 30 } : Room) s m #[(.ref r), (.int x)] below meth c T locs 0 0 → T.heap = h → Fr Z.heap.size locs → Ext Z.heap h → Keep h0 h (own_ws r N A rows) → own_I Z h r N wd A K rows rc ls pr (own_upd wt (q / 64) ((wt (q / 64)) &&& ((own_B q) ^^^ (-1 : Int64)))) ra (own_upd ea q (st + (1 : Int64))) (st + (1 : Int64)) → own_L Z h np kp wd (fun _ => 0) → own_G p e below (T.setTop (mkF m 57 #[.val (.ref r), .val (.int x), .val (.int (x - (1 : Int32))), .val (.int (0 : Int32)), .val (.ref np), .val (.int xj), .val (.long bw), .second, .unset] [])) (own_P s below ({ frames := 2, cells := 0, slots := 0, locals := 30 } : Room).cells ({ frames := 2, cells := 0, slots := 0, locals := 30 } : Room).slots (Q_own_en0 Z r N wd A K rows rc ls pr wt ra ea st n0 q x np kp h0)) := by
    intro n
    induction n with
    | zero =>
      intro j xj T h locs bw hi hxi X eL NL OL KL IL LP
      obtain rfl : wd = j := by omega
      show own_G p e below (T.setTop (mkF m 57 #[.val (.ref r), .val (.int x), .val (.int (x - (1 : Int32))), .val (.int (0 : Int32)), .val (.ref np), .val (.int xj), .val (.long bw), .second, .unset] [])) _
      refine own_go (fun t k => XS.iload X.here hx rfl (hb hby d_prog_67_method_5_code_57) rfl k) ?_
      refine own_go (fun t k => XS.aload X.here hx rfl (hb hby d_prog_67_method_5_code_59) rfl rfl k) ?_
      refine own_go (own_len X hx hZ eL LP (z := (Int32.ofNat wd)) (by rw [own_rlen]; exact own_ofN (by omega)) (g := (mkF m 61 #[.val (.ref r), .val (.int x), .val (.int (x - (1 : Int32))), .val (.int (0 : Int32)), .val (.ref np), .val (.int xj), .val (.long bw), .second, .unset] [(.ref np), (.int xj)])) rfl rfl (hb hby d_prog_67_method_5_code_61)) ?_
      refine own_go (fun t k => XS.icmpYes X.here hx rfl (pc0 := 62) (pc' := 130) rfl (hb hby d_prog_67_method_5_code_62) rfl (flt (fun q => absurd ((own_ltN hxi (by omega)).mp q) (by omega))).2.1 (by decide) (by decide) k) ?_
      show own_G p e below (T.setTop (mkF m 130 #[.val (.ref r), .val (.int x), .val (.int (x - (1 : Int32))), .val (.int (0 : Int32)), .val (.ref np), .val (.int xj), .val (.long bw), .second, .unset] [])) _
      refine own_go (fun t k => XS.aloadN X.here hx rfl (hb hby d_prog_67_method_5_code_130) rfl rfl k) ?_
      obtain ⟨T18z, X18z, e18z, st18z⟩ := getF X hx hZ hown (host := "") (Or.inl (own_hw hw 22 rfl)) Via.refl eL IL.2.2.2.2.1 (g := (mkF m 131 #[.val (.ref r), .val (.int x), .val (.int (x - (1 : Int32))), .val (.int (0 : Int32)), .val (.ref np), .val (.int xj), .val (.long bw), .second, .unset] [(.ref r)])) rfl rfl (hb hby d_prog_67_method_5_code_131)
      refine own_go st18z ?_
      refine own_go (fun t k => XS.iloadN X18z.here hx rfl (hb hby d_prog_67_method_5_code_134) rfl k) ?_
      refine own_go (fun t k => XS.aconstNull X18z.here hx rfl (hb hby d_prog_67_method_5_code_135) k) ?_
      show own_G p e below (T18z.setTop (mkF m 136 #[.val (.ref r), .val (.int x), .val (.int (x - (1 : Int32))), .val (.int (0 : Int32)), .val (.ref np), .val (.int xj), .val (.long bw), .second, .unset] [.null, (.int (x - (1 : Int32))), (.ref (A 2))])) _
      obtain ⟨T19z, h19z, X19z, e19z, W19z, V19z, st19z⟩ := own_stR X18z hx hZ e18z IL.2.2.2.2.2.2.2.2.2.2.2.1 rfl (i := q) (own_sub1 hq hqN hN) (by rw [own_rlen]; exact hqN) (own_stoA OA2 (Or.inl rfl)) rfl (g := (mkF m 136 #[.val (.ref r), .val (.int x), .val (.int (x - (1 : Int32))), .val (.int (0 : Int32)), .val (.ref np), .val (.int xj), .val (.long bw), .second, .unset] [.null, (.int (x - (1 : Int32))), (.ref (A 2))])) rfl rfl (hb hby d_prog_67_method_5_code_136)
      refine own_go st19z ?_
      have N19z := Fr.snoc X19z NL (Nat.le_trans hn0 (DD.2.1 2 (by decide)).1)
      have O20z := own_ext_wr OL W19z (Nat.le_trans hn0 (DD.2.1 2 (by decide)).1)
      have K20z := KL.wr W19z (Or.inl (own_ws_A (by decide : 2 < 6)))
      have I21z := own_I.w2 IL DD W19z (own_V.set V19z)
      have V19z : own_A Z h19z (A 2) (K 2) (.array .long) (((List.range N).map pr).set q .null) := V19z
      refine own_go (fun t k => XS.iloadN X19z.here hx rfl (hb hby d_prog_67_method_5_code_137) rfl k) ?_
      exact own_ret X19z hx Bd.returns rfl (Or.inl ⟨rfl, Or.inl rfl, _, rfl⟩) (hb hby d_prog_67_method_5_code_138) hlk (Nat.le_of_ble_eq_true rfl) (Nat.le_of_ble_eq_true rfl) (by show Q_own_en0 Z r N wd A K rows rc ls pr wt ra ea st n0 q x np kp h0 _ T19z.heap _; rw [e19z]; exact ⟨rfl, N19z, K20z, (by have t := I21z; rw [own_clr_eq] at t; exact t)⟩)
    | succ n ih =>
      intro j xj T h locs bw hi hxi X eL NL OL KL IL LP
      have hjw : j < wd := by omega
      show own_G p e below (T.setTop (mkF m 57 #[.val (.ref r), .val (.int x), .val (.int (x - (1 : Int32))), .val (.int (0 : Int32)), .val (.ref np), .val (.int xj), .val (.long bw), .second, .unset] [])) _
      refine own_go (fun t k => XS.iload X.here hx rfl (hb hby d_prog_67_method_5_code_57) rfl k) ?_
      refine own_go (fun t k => XS.aload X.here hx rfl (hb hby d_prog_67_method_5_code_59) rfl rfl k) ?_
      refine own_go (own_len X hx hZ eL LP (z := (Int32.ofNat wd)) (by rw [own_rlen]; exact own_ofN (by omega)) (g := (mkF m 61 #[.val (.ref r), .val (.int x), .val (.int (x - (1 : Int32))), .val (.int (0 : Int32)), .val (.ref np), .val (.int xj), .val (.long bw), .second, .unset] [(.ref np), (.int xj)])) rfl rfl (hb hby d_prog_67_method_5_code_61)) ?_
      refine own_go (fun t k => XS.icmpNo X.here hx rfl (hb hby d_prog_67_method_5_code_62) rfl (tlt ((own_ltN hxi (by omega)).mpr hjw)).2.1 k) ?_
      show own_G p e below (T.setTop (mkF m 65 #[.val (.ref r), .val (.int x), .val (.int (x - (1 : Int32))), .val (.int (0 : Int32)), .val (.ref np), .val (.int xj), .val (.long bw), .second, .unset] [])) _
      refine own_go (fun t k => XS.aload X.here hx rfl (hb hby d_prog_67_method_5_code_65) rfl rfl k) ?_
      refine own_go (fun t k => XS.iload X.here hx rfl (hb hby d_prog_67_method_5_code_67) rfl k) ?_
      refine own_go (own_ldJ X hx hZ eL LP (i := j) (v := (.long (0 : Int64))) hxi (own_rget _ hjw) (g := (mkF m 69 #[.val (.ref r), .val (.int x), .val (.int (x - (1 : Int32))), .val (.int (0 : Int32)), .val (.ref np), .val (.int xj), .val (.long bw), .second, .unset] [(.int xj), (.ref np)])) rfl rfl (hb hby d_prog_67_method_5_code_69)) ?_
      refine own_go (fun t k => XS.lstore X.here hx rfl (hb hby d_prog_67_method_5_code_70) rfl (l' := #[.val (.ref r), .val (.int x), .val (.int (x - (1 : Int32))), .val (.int (0 : Int32)), .val (.ref np), .val (.int xj), .val (.long (0 : Int64)), .second, .unset]) rfl k) ?_
      show own_G p e below (T.setTop (mkF m 72 #[.val (.ref r), .val (.int x), .val (.int (x - (1 : Int32))), .val (.int (0 : Int32)), .val (.ref np), .val (.int xj), .val (.long (0 : Int64)), .second, .unset] [])) _
      refine own_go (fun t k => XS.lload X.here hx rfl (hb hby d_prog_67_method_5_code_72) rfl k) ?_
      refine own_go (fun t k => XS.lconst X.here hx rfl (hb hby d_prog_67_method_5_code_74) k) ?_
      refine own_go (fun t k => XS.lcmp X.here hx rfl (hb hby d_prog_67_method_5_code_75) rfl k) ?_
      refine own_go (fun t k => XS.ifYes X.here hx rfl (pc0 := 76) (pc' := 124) rfl (hb hby d_prog_67_method_5_code_76) rfl ((if0 _ _).trans (teq ((lw_eq (0 : Int64) (0 : Int64)).mpr (by decide : (0 : Int64) = (0 : Int64)))).1) (by decide) (by decide) k) ?_
      show own_G p e below (T.setTop (mkF m 124 #[.val (.ref r), .val (.int x), .val (.int (x - (1 : Int32))), .val (.int (0 : Int32)), .val (.ref np), .val (.int xj), .val (.long (0 : Int64)), .second, .unset] [])) _
      refine own_go (fun t k => XS.iinc X.here hx rfl (hb hby d_prog_67_method_5_code_124) rfl (l' := #[.val (.ref r), .val (.int x), .val (.int (x - (1 : Int32))), .val (.int (0 : Int32)), .val (.ref np), .val (.int (xj + (1 : Int32))), .val (.long (0 : Int64)), .second, .unset]) rfl k) ?_
      refine own_go (fun t k => XS.goto X.here hx rfl (pc0 := 127) (pc' := 57) rfl (hb hby d_prog_67_method_5_code_127) (by decide) (by decide) k) ?_
      show own_G p e below (T.setTop (mkF m 57 #[.val (.ref r), .val (.int x), .val (.int (x - (1 : Int32))), .val (.int (0 : Int32)), .val (.ref np), .val (.int (xj + (1 : Int32))), .val (.long (0 : Int64)), .second, .unset] [])) _
      exact ih (j + 1) _ _ _ _ _ (by omega) (own_inc hxi hjw (by omega : wd ≤ 129)) X eL NL OL KL IL  LP
  have hw0 : 0 < wd := Nat.lt_of_le_of_lt (Nat.zero_le _) (hNw q hqN)
  refine own_go (fun t k => XS.iload X16z.here hx rfl (hb hby d_prog_67_method_5_code_57) rfl k) ?_
  show own_G p e below (T16z.setTop (mkF m 59 #[.val (.ref r), .val (.int x), .val (.int (x - (1 : Int32))), .val (.int (0 : Int32)), .val (.ref np), .val (.int (0 : Int32)), .unset, .unset, .unset] [(.int (0 : Int32))])) _
  refine own_go (fun t k => XS.aload X16z.here hx rfl (hb hby d_prog_67_method_5_code_59) rfl rfl k) ?_
  refine own_go (own_len X16z hx hZ e16z f17z (z := (Int32.ofNat wd)) (by rw [own_rlen]; exact own_ofN (by omega)) (g := (mkF m 61 #[.val (.ref r), .val (.int x), .val (.int (x - (1 : Int32))), .val (.int (0 : Int32)), .val (.ref np), .val (.int (0 : Int32)), .unset, .unset, .unset] [(.ref np), (.int (0 : Int32))])) rfl rfl (hb hby d_prog_67_method_5_code_61)) ?_
  refine own_go (fun t k => XS.icmpNo X16z.here hx rfl (hb hby d_prog_67_method_5_code_62) rfl (tlt ((own_ltN (by decide : ((0 : Int32)).toInt = ((0 : Nat) : Int)) (by omega)).mpr hw0)).2.1 k) ?_
  show own_G p e below (T16z.setTop (mkF m 65 #[.val (.ref r), .val (.int x), .val (.int (x - (1 : Int32))), .val (.int (0 : Int32)), .val (.ref np), .val (.int (0 : Int32)), .unset, .unset, .unset] [])) _
  refine own_go (fun t k => XS.aload X16z.here hx rfl (hb hby d_prog_67_method_5_code_65) rfl rfl k) ?_
  refine own_go (fun t k => XS.iload X16z.here hx rfl (hb hby d_prog_67_method_5_code_67) rfl k) ?_
  refine own_go (own_ldJ X16z hx hZ e16z f17z (i := 0) (v := (.long (0 : Int64))) (by decide : ((0 : Int32)).toInt = ((0 : Nat) : Int)) (own_rget _ hw0) (g := (mkF m 69 #[.val (.ref r), .val (.int x), .val (.int (x - (1 : Int32))), .val (.int (0 : Int32)), .val (.ref np), .val (.int (0 : Int32)), .unset, .unset, .unset] [(.int (0 : Int32)), (.ref np)])) rfl rfl (hb hby d_prog_67_method_5_code_69)) ?_
  refine own_go (fun t k => XS.lstore X16z.here hx rfl (hb hby d_prog_67_method_5_code_70) rfl (l' := #[.val (.ref r), .val (.int x), .val (.int (x - (1 : Int32))), .val (.int (0 : Int32)), .val (.ref np), .val (.int (0 : Int32)), .val (.long (0 : Int64)), .second, .unset]) rfl k) ?_
  show own_G p e below (T16z.setTop (mkF m 72 #[.val (.ref r), .val (.int x), .val (.int (x - (1 : Int32))), .val (.int (0 : Int32)), .val (.ref np), .val (.int (0 : Int32)), .val (.long (0 : Int64)), .second, .unset] [])) _
  refine own_go (fun t k => XS.lload X16z.here hx rfl (hb hby d_prog_67_method_5_code_72) rfl k) ?_
  refine own_go (fun t k => XS.lconst X16z.here hx rfl (hb hby d_prog_67_method_5_code_74) k) ?_
  refine own_go (fun t k => XS.lcmp X16z.here hx rfl (hb hby d_prog_67_method_5_code_75) rfl k) ?_
  refine own_go (fun t k => XS.ifYes X16z.here hx rfl (pc0 := 76) (pc' := 124) rfl (hb hby d_prog_67_method_5_code_76) rfl ((if0 _ _).trans (teq ((lw_eq (0 : Int64) (0 : Int64)).mpr (by decide : (0 : Int64) = (0 : Int64)))).1) (by decide) (by decide) k) ?_
  show own_G p e below (T16z.setTop (mkF m 124 #[.val (.ref r), .val (.int x), .val (.int (x - (1 : Int32))), .val (.int (0 : Int32)), .val (.ref np), .val (.int (0 : Int32)), .val (.long (0 : Int64)), .second, .unset] [])) _
  refine own_go (fun t k => XS.iinc X16z.here hx rfl (hb hby d_prog_67_method_5_code_124) rfl (l' := #[.val (.ref r), .val (.int x), .val (.int (x - (1 : Int32))), .val (.int (0 : Int32)), .val (.ref np), .val (.int (1 : Int32)), .val (.long (0 : Int64)), .second, .unset]) rfl k) ?_
  refine own_go (fun t k => XS.goto X16z.here hx rfl (pc0 := 127) (pc' := 57) rfl (hb hby d_prog_67_method_5_code_127) (by decide) (by decide) k) ?_
  show own_G p e below (T16z.setTop (mkF m 57 #[.val (.ref r), .val (.int x), .val (.int (x - (1 : Int32))), .val (.int (0 : Int32)), .val (.ref np), .val (.int (1 : Int32)), .val (.long (0 : Int64)), .second, .unset] [])) _
  exact loop1 (wd - 1) (0 + 1) _ _ _ _ _ (by omega) (own_inc (by decide : ((0 : Int32)).toInt = ((0 : Nat) : Int)) hw0 (by omega : wd ≤ 129)) X16z e16z N13z O14z K14z I15z  f17z
def own_6 {α : Type} (b0 b1 b2 b3 b4 b5 b6 : α) : Nat → α
  | 0 => b0
  | 1 => b1
  | 2 => b2
  | 3 => b3
  | 4 => b4
  | 5 => b5
  | _ => b6
theorem own_D6 {n0 N r b0 b1 b2 b3 b4 b5 : Nat} (h0 : n0 ≤ r) (h1 : r < b0) (h2 : ∀ i, i < N → b0 + 1 + i < b1) (h01 : b0 < b1) (h3 : b1 < b2) (h4 : b2 < b3) (h5 : b3 < b4) (h6 : b4 < b5) : own_D n0 r N (own_6 b0 b1 b2 b3 b4 b5 b5) (fun i => b0 + 1 + i) := by
  refine ⟨h0, fun j hj => ?_, fun j j' hj hj' ne => ?_, fun i hi => ⟨?_, ?_, fun j hj => ?_⟩, fun i i' _ _ ne => ?_⟩
  · match j, hj with
    | 0, _ => exact ⟨by show n0 ≤ b0; omega, by show b0 ≠ r; omega⟩
    | 1, _ => exact ⟨by show n0 ≤ b1; omega, by show b1 ≠ r; omega⟩
    | 2, _ => exact ⟨by show n0 ≤ b2; omega, by show b2 ≠ r; omega⟩
    | 3, _ => exact ⟨by show n0 ≤ b3; omega, by show b3 ≠ r; omega⟩
    | 4, _ => exact ⟨by show n0 ≤ b4; omega, by show b4 ≠ r; omega⟩
    | 5, _ => exact ⟨by show n0 ≤ b5; omega, by show b5 ≠ r; omega⟩
  · match j, j', hj, hj' with
    | 0, 0, _, _ => exact absurd rfl ne
    | 0, 1, _, _ => show b0 ≠ b1; omega
    | 0, 2, _, _ => show b0 ≠ b2; omega
    | 0, 3, _, _ => show b0 ≠ b3; omega
    | 0, 4, _, _ => show b0 ≠ b4; omega
    | 0, 5, _, _ => show b0 ≠ b5; omega
    | 1, 0, _, _ => show b1 ≠ b0; omega
    | 1, 1, _, _ => exact absurd rfl ne
    | 1, 2, _, _ => show b1 ≠ b2; omega
    | 1, 3, _, _ => show b1 ≠ b3; omega
    | 1, 4, _, _ => show b1 ≠ b4; omega
    | 1, 5, _, _ => show b1 ≠ b5; omega
    | 2, 0, _, _ => show b2 ≠ b0; omega
    | 2, 1, _, _ => show b2 ≠ b1; omega
    | 2, 2, _, _ => exact absurd rfl ne
    | 2, 3, _, _ => show b2 ≠ b3; omega
    | 2, 4, _, _ => show b2 ≠ b4; omega
    | 2, 5, _, _ => show b2 ≠ b5; omega
    | 3, 0, _, _ => show b3 ≠ b0; omega
    | 3, 1, _, _ => show b3 ≠ b1; omega
    | 3, 2, _, _ => show b3 ≠ b2; omega
    | 3, 3, _, _ => exact absurd rfl ne
    | 3, 4, _, _ => show b3 ≠ b4; omega
    | 3, 5, _, _ => show b3 ≠ b5; omega
    | 4, 0, _, _ => show b4 ≠ b0; omega
    | 4, 1, _, _ => show b4 ≠ b1; omega
    | 4, 2, _, _ => show b4 ≠ b2; omega
    | 4, 3, _, _ => show b4 ≠ b3; omega
    | 4, 4, _, _ => exact absurd rfl ne
    | 4, 5, _, _ => show b4 ≠ b5; omega
    | 5, 0, _, _ => show b5 ≠ b0; omega
    | 5, 1, _, _ => show b5 ≠ b1; omega
    | 5, 2, _, _ => show b5 ≠ b2; omega
    | 5, 3, _, _ => show b5 ≠ b3; omega
    | 5, 4, _, _ => show b5 ≠ b4; omega
    | 5, 5, _, _ => exact absurd rfl ne
  · show n0 ≤ b0 + 1 + i; omega
  · show b0 + 1 + i ≠ r; omega
  · have := h2 i hi
    match j, hj with
    | 0, _ => show b0 + 1 + i ≠ b0; omega
    | 1, _ => show b0 + 1 + i ≠ b1; omega
    | 2, _ => show b0 + 1 + i ≠ b2; omega
    | 3, _ => show b0 + 1 + i ≠ b3; omega
    | 4, _ => show b0 + 1 + i ≠ b4; omega
    | 5, _ => show b0 + 1 + i ≠ b5; omega
  · show b0 + 1 + i ≠ b0 + 1 + i'; omega
theorem own_wdI {N : Nat} (h : N ≤ 129) : ((((Int32.ofNat N) + (64 : Int32)) - (1 : Int32)) / (64 : Int32)) = Int32.ofNat ((N + 63) / 64) := by
  have e64 : (64 : Int32).toInt = 64 := by decide
  have e1 : (1 : Int32).toInt = 1 := by decide
  have eN := own_ofN h
  have s1 : ((Int32.ofNat N) + (64 : Int32)).toInt = (N : Int) + 64 := by rw [Jvm.Kit.i32_add (by rw [eN, e64]; omega) (by rw [eN, e64]; omega), eN, e64]
  have s2 : (((Int32.ofNat N) + (64 : Int32)) - (1 : Int32)).toInt = (N : Int) + 63 := by rw [Jvm.Kit.i32_sub (by rw [s1, e1]; omega) (by rw [s1, e1]; omega), s1, e1]; omega
  apply Int32.toInt_inj.mp
  rw [Jvm.Kit.i32_div (by rw [e64]; omega), s2, e64, own_ofN (by omega), Int.tdiv_eq_ediv_of_nonneg (by omega)]; omega
theorem own_rows0 {Z : State} {h : Heap} {x : Addr} {k : ClassId} {n : Int32} {w : Nat} (hn : n.toInt = (w : Int)) (A : Arr Z h x (newA k .long n) .long) : own_L Z h x k w (fun _ => 0) := own_L0 (own_A.of_new hn rfl A)
theorem own_grid {Z : State} {h : Heap} {b : Addr} {k : ClassId} {N : Nat} {d : Value} (hN : N ≤ 129) (F : Arv Z h b k (.array .long) (Int32.ofNat N) (((List.range N).map fun j => b + 1 + j).map Value.ref) d) : own_V Z h b k (.array .long) N (fun i => .ref (b + 1 + i)) := by
  have q := own_A.of_arv F (by rw [List.length_map, List.length_map, List.length_range]; exact own_ofN hN)
  rw [List.map_map] at q
  exact q
theorem own_ncl {n : Nat} (h : n ≤ 129) : (Int32.ofNat n).toNatClampNeg = n := by show (Int32.ofNat n).toInt.toNat = n; rw [own_ofN h]; rfl
theorem own_nn0 {n : Nat} (h : n ≤ 129) : ¬ Int32.ofNat n < 0 := by
  rw [Int32.lt_iff_toInt_lt, own_ofN h]
  have e : (0 : Int32).toInt = 0 := by decide
  omega
theorem ef_own_init (m : MethodId) (x0 : Addr) (x1 : Int32) : entryFrame m #[(.ref x0), (.int x1)] 3 = mkF m 0 #[.val (.ref x0), .val (.int x1), .unset] [] := by first | (simp [entryFrame, mkF, argsToLocals, Value.category]; done) | rfl
theorem pf_own_init : plainFor own_m11 = true := plainFor_of_name (by simp [plainName, overriddenIn])
theorem d_prog_67_method_1_code_0 : decode prog_67_method_1_code 0 = .ok (.aload_n 0, 1) := by decide +kernel
theorem d_prog_67_method_1_code_1 : decode prog_67_method_1_code 1 = .ok (.invokespecial 1, 3) := by decide +kernel
theorem d_prog_67_method_1_code_10 : decode prog_67_method_1_code 10 = .ok (.bipush 64, 2) := by decide +kernel
theorem d_prog_67_method_1_code_12 : decode prog_67_method_1_code 12 = .ok (.iadd, 1) := by decide +kernel
theorem d_prog_67_method_1_code_13 : decode prog_67_method_1_code 13 = .ok (.iconst 1, 1) := by decide +kernel
theorem d_prog_67_method_1_code_14 : decode prog_67_method_1_code 14 = .ok (.isub, 1) := by decide +kernel
theorem d_prog_67_method_1_code_15 : decode prog_67_method_1_code 15 = .ok (.bipush 64, 2) := by decide +kernel
theorem d_prog_67_method_1_code_17 : decode prog_67_method_1_code 17 = .ok (.idiv, 1) := by decide +kernel
theorem d_prog_67_method_1_code_18 : decode prog_67_method_1_code 18 = .ok (.istore_n 2, 1) := by decide +kernel
theorem d_prog_67_method_1_code_19 : decode prog_67_method_1_code 19 = .ok (.aload_n 0, 1) := by decide +kernel
theorem d_prog_67_method_1_code_20 : decode prog_67_method_1_code 20 = .ok (.iload_n 1, 1) := by decide +kernel
theorem d_prog_67_method_1_code_21 : decode prog_67_method_1_code 21 = .ok (.iload_n 2, 1) := by decide +kernel
theorem d_prog_67_method_1_code_22 : decode prog_67_method_1_code 22 = .ok (.multianewarray 15 2, 4) := by decide +kernel
theorem d_prog_67_method_1_code_26 : decode prog_67_method_1_code 26 = .ok (.putfield 17, 3) := by decide +kernel
theorem d_prog_67_method_1_code_29 : decode prog_67_method_1_code 29 = .ok (.aload_n 0, 1) := by decide +kernel
theorem d_prog_67_method_1_code_30 : decode prog_67_method_1_code 30 = .ok (.iload_n 1, 1) := by decide +kernel
theorem d_prog_67_method_1_code_31 : decode prog_67_method_1_code 31 = .ok (.anewarray 20, 3) := by decide +kernel
theorem d_prog_67_method_1_code_34 : decode prog_67_method_1_code 34 = .ok (.putfield 22, 3) := by decide +kernel
theorem d_prog_67_method_1_code_37 : decode prog_67_method_1_code 37 = .ok (.aload_n 0, 1) := by decide +kernel
theorem d_prog_67_method_1_code_38 : decode prog_67_method_1_code 38 = .ok (.iload_n 1, 1) := by decide +kernel
theorem d_prog_67_method_1_code_39 : decode prog_67_method_1_code 39 = .ok (.anewarray 26, 3) := by decide +kernel
theorem d_prog_67_method_1_code_4 : decode prog_67_method_1_code 4 = .ok (.aload_n 0, 1) := by decide +kernel
theorem d_prog_67_method_1_code_42 : decode prog_67_method_1_code 42 = .ok (.putfield 28, 3) := by decide +kernel
theorem d_prog_67_method_1_code_45 : decode prog_67_method_1_code 45 = .ok (.aload_n 0, 1) := by decide +kernel
theorem d_prog_67_method_1_code_46 : decode prog_67_method_1_code 46 = .ok (.iload_n 2, 1) := by decide +kernel
theorem d_prog_67_method_1_code_47 : decode prog_67_method_1_code 47 = .ok (.newarray .long, 2) := by decide +kernel
theorem d_prog_67_method_1_code_49 : decode prog_67_method_1_code 49 = .ok (.putfield 31, 3) := by decide +kernel
theorem d_prog_67_method_1_code_5 : decode prog_67_method_1_code 5 = .ok (.iload_n 1, 1) := by decide +kernel
theorem d_prog_67_method_1_code_52 : decode prog_67_method_1_code 52 = .ok (.aload_n 0, 1) := by decide +kernel
theorem d_prog_67_method_1_code_53 : decode prog_67_method_1_code 53 = .ok (.iload_n 1, 1) := by decide +kernel
theorem d_prog_67_method_1_code_54 : decode prog_67_method_1_code 54 = .ok (.newarray .long, 2) := by decide +kernel
theorem d_prog_67_method_1_code_56 : decode prog_67_method_1_code 56 = .ok (.putfield 34, 3) := by decide +kernel
theorem d_prog_67_method_1_code_59 : decode prog_67_method_1_code 59 = .ok (.aload_n 0, 1) := by decide +kernel
theorem d_prog_67_method_1_code_6 : decode prog_67_method_1_code 6 = .ok (.putfield 7, 3) := by decide +kernel
theorem d_prog_67_method_1_code_60 : decode prog_67_method_1_code 60 = .ok (.iload_n 1, 1) := by decide +kernel
theorem d_prog_67_method_1_code_61 : decode prog_67_method_1_code 61 = .ok (.newarray .long, 2) := by decide +kernel
theorem d_prog_67_method_1_code_63 : decode prog_67_method_1_code 63 = .ok (.putfield 37, 3) := by decide +kernel
theorem d_prog_67_method_1_code_66 : decode prog_67_method_1_code 66 = .ok (.return_, 1) := by decide +kernel
theorem d_prog_67_method_1_code_9 : decode prog_67_method_1_code 9 = .ok (.iload_n 1, 1) := by decide +kernel
def Q_own_init (Z : State) (r : Addr) (N : Nat) (n0 : Nat) (h0 : Heap) (v : Option Value) (h : Heap) (L : List Loc) : Prop := ∃ A : (Nat → Addr), ∃ K : (Nat → ClassId), ∃ rows : (Nat → Addr), v = none ∧ Fr Z.heap.size L ∧ Keep h0 h [r] ∧ (own_I Z h r N ((N + 63) / 64) A K rows (fun _ _ => 0) (fun _ => .null) (fun _ => .null) (fun _ => 0) (fun _ => 0) (fun _ => 0) 0) ∧ (own_D n0 r N A rows) ∧ (OvrA Z (K 0) .long "[J") ∧ (Ovr Z (K 1) own_s0) ∧ (OvrA Z (K 2) .long "[J")
set_option maxRecDepth 65536 in
set_option maxHeartbeats 40000000 in
theorem own_init (l : Launch) (Z : State) (a0 : Array Value) (hw : ∀ d ∈ tables_1, d.before a0 Z = true) (ws : List Jvm.Cond) (r : Addr) (N : Nat) (n0 : Nat) (h0 : Heap) (O0 : Ext Z.heap h0) (q0 : Exa Z h0 r own_s1) (q1 : Z.heap.size ≤ r) (q2 : Fld Z h0 r own_s1 "size" "I" (.int (0 : Int32))) (q3 : Fld Z h0 r own_s1 "follows" "[[J" .null) (q4 : Fld Z h0 r own_s1 "lastSent" "[Lcom/example/greylag/greylag/sim/RequestOrder$Knowledge;" .null) (q5 : Fld Z h0 r own_s1 "precedents" "[[J" .null) (q6 : Fld Z h0 r own_s1 "waiting" "[J" .null) (q7 : Fld Z h0 r own_s1 "requestedAt" "[J" .null) (q8 : Fld Z h0 r own_s1 "enteredAt" "[J" .null) (q9 : Fld Z h0 r own_s1 "stamp" "J" (.long (0 : Int64))) (hN : N ≤ 129) (hnr : n0 ≤ r) :
    MetFree l own_m11 (head1 (Jvm.Cond.code own_m11 prog_67_method_1_code 3 none :: ws) ({ frames := 1, cells := 135, slots := 1035, locals := 12 } : Room)) (fun aa U => aa = #[(.ref r), (.int (Int32.ofNat N))] ∧ Z.Warmed39 U.vm ∧ U.heap = h0) (fun _ _ _ _ _ => True) (fun _ U o U' => ∃ v L, o = .returned v ∧ Q_own_init Z r N n0 h0 v U'.heap L ∧ FrameEnd U o U' L ({ frames := 1, cells := 135, slots := 1035, locals := 12 } : Room).cells ({ frames := 1, cells := 135, slots := 1035, locals := 12 } : Room).slots) := by
  refine MetFree.of_bodySF pf_own_init hisR ?_
  intro p e s m args below meth c s₁ Bd hml0 hP hK
  obtain ⟨rfl, hZ, hh⟩ := hP
  have hx := Bd.exec
  have hby := Bd.bytes
  have hlk := BodyLoose.notSynchronized Bd
  have hml : c.maxLocals = 3 := hml0
  have hown : s.vm.findClass own_s1 = some m.cls := findClass_of_methodNamed Bd.named
  have hnm := (name_of_methodNamed Bd.named Bd.method).1
  have X0 : Stand p l e ({ frames := 1, cells := 135, slots := 1035, locals := 12 } : Room) s m #[(.ref r), (.int (Int32.ofNat N))] below meth c s₁ [] 0 0 := Stand.of_body Bd
  have e0 : s₁.heap = h0 := by rw [← hh, Bd.state]; rfl
  have N0 := Fr.nil Z.heap.size
  have K0 : Keep h0 h0 [r] := Keep.refl _ _
  refine own_start (Q := Q_own_init Z r N n0 h0) (ef_own_init m (r) ((Int32.ofNat N))) ?_
  show own_G p e below (s₁.setTop (mkF m 0 #[.val (.ref r), .val (.int (Int32.ofNat N)), .unset] [])) _
  refine own_go (fun t k => XS.aloadN X0.here hx rfl (hb hby d_prog_67_method_1_code_0) rfl rfl k) ?_
  obtain ⟨T1z, X1z, e1z, st1z⟩ := initO X0 hx hZ hown (own_hw hw 7 rfl) (own_hw hw 8 rfl) (own_hw hw 9 rfl) e0 (g := (mkF m 1 #[.val (.ref r), .val (.int (Int32.ofNat N)), .unset] [(.ref r)])) rfl (by rw [hml]; rfl) rfl (hb hby d_prog_67_method_1_code_1) (by decide) (W := 0) (by show 2 * 0 + _ ≤ _; exact Nat.le_of_eq rfl) (by decide)
  refine own_go st1z ?_
  show own_G p e below (T1z.setTop (mkF m 4 #[.val (.ref r), .val (.int (Int32.ofNat N)), .unset] [])) _
  refine own_go (fun t k => XS.aloadN X1z.here hx rfl (hb hby d_prog_67_method_1_code_4) rfl rfl k) ?_
  refine own_go (fun t k => XS.iloadN X1z.here hx rfl (hb hby d_prog_67_method_1_code_5) rfl k) ?_
  obtain ⟨T2z, h2z, X2z, e2z, W2z, st2z⟩ := putF X1z hx hZ hown (host := "") (Or.inl (own_hw hw 10 rfl)) Via.refl e1z q2 q0 (Or.inr ⟨(own_hw hw 11 rfl), rfl, hnm⟩) (own_hw hw 2 rfl) (ty := .int) (by decide) rfl rfl (g := (mkF m 6 #[.val (.ref r), .val (.int (Int32.ofNat N)), .unset] [(.int (Int32.ofNat N)), (.ref r)])) rfl rfl (hb hby d_prog_67_method_1_code_6)
  refine own_go st2z ?_
  have N2z := Fr.snoc X2z N0 q1
  have F2z : Fld Z h2z r own_s1 "size" "I" (.int (Int32.ofNat N)) := q2.same W2z
  have O3z := own_ext_wr O0 W2z q1
  have K3z := K0.wr W2z (Or.inl (List.mem_of_getElem? (i := 0) rfl))
  refine own_go (fun t k => XS.iloadN X2z.here hx rfl (hb hby d_prog_67_method_1_code_9) rfl k) ?_
  show own_G p e below (T2z.setTop (mkF m 10 #[.val (.ref r), .val (.int (Int32.ofNat N)), .unset] [(.int (Int32.ofNat N))])) _
  refine own_go (fun t k => XS.bipush X2z.here hx rfl (hb hby d_prog_67_method_1_code_10) k) ?_
  refine own_go (fun t k => XS.iadd X2z.here hx rfl (hb hby d_prog_67_method_1_code_12) rfl k) ?_
  refine own_go (fun t k => XS.iconst X2z.here hx rfl (hb hby d_prog_67_method_1_code_13) k) ?_
  refine own_go (fun t k => XS.isub X2z.here hx rfl (hb hby d_prog_67_method_1_code_14) rfl k) ?_
  show own_G p e below (T2z.setTop (mkF m 15 #[.val (.ref r), .val (.int (Int32.ofNat N)), .unset] [(.int (((Int32.ofNat N) + (64 : Int32)) - (1 : Int32)))])) _
  refine own_go (fun t k => XS.bipush X2z.here hx rfl (hb hby d_prog_67_method_1_code_15) k) ?_
  refine own_go (fun t k => XS.idiv X2z.here hx rfl (hb hby d_prog_67_method_1_code_17) rfl (by decide) k) ?_
  show own_G p e below (T2z.setTop (mkF m 18 #[.val (.ref r), .val (.int (Int32.ofNat N)), .unset] [(.int ((((Int32.ofNat N) + (64 : Int32)) - (1 : Int32)) / (64 : Int32)))])) _
  rw [own_wdI hN]
  show own_G p e below (T2z.setTop (mkF m 18 #[.val (.ref r), .val (.int (Int32.ofNat N)), .unset] [(.int (Int32.ofNat ((N + 63) / 64)))])) _
  refine own_go (fun t k => XS.istoreN X2z.here hx rfl (hb hby d_prog_67_method_1_code_18) rfl (l' := #[.val (.ref r), .val (.int (Int32.ofNat N)), .val (.int (Int32.ofNat ((N + 63) / 64)))]) rfl k) ?_
  refine own_go (fun t k => XS.aloadN X2z.here hx rfl (hb hby d_prog_67_method_1_code_19) rfl rfl k) ?_
  refine own_go (fun t k => XS.iloadN X2z.here hx rfl (hb hby d_prog_67_method_1_code_20) rfl k) ?_
  refine own_go (fun t k => XS.iloadN X2z.here hx rfl (hb hby d_prog_67_method_1_code_21) rfl k) ?_
  show own_G p e below (T2z.setTop (mkF m 22 #[.val (.ref r), .val (.int (Int32.ofNat N)), .val (.int (Int32.ofNat ((N + 63) / 64)))] [(.int (Int32.ofNat ((N + 63) / 64))), (.int (Int32.ofNat N)), (.ref r)])) _
  obtain ⟨T4z, h4z, kc4z, km4z, X4z, e4z, E4z, V4z, O4z_, -, HR4z, st4z⟩ := gridM X2z hx hZ hown (C := "[J") (ad := "[[J") (ty := .long) (by decide) (by decide) (own_hw hw 12 rfl) (own_hw hw 13 rfl) (own_hw hw 14 rfl) e2z (g := (mkF m 22 #[.val (.ref r), .val (.int (Int32.ofNat N)), .val (.int (Int32.ofNat ((N + 63) / 64)))] [(.int (Int32.ofNat ((N + 63) / 64))), (.int (Int32.ofNat N)), (.ref r)])) rfl (hb hby d_prog_67_method_1_code_22) rfl (own_nn0 hN) (own_nn0 (by omega : ((N + 63) / 64) ≤ 129)) (xs := (List.range N).map fun j => h2z.size + 1 + j) (N := N) (own_ncl hN) rfl (cap := 3) (by rw [own_ncl (by omega : ((N + 63) / 64) ≤ 129)]; omega) (by decide) (by omega) rfl rfl (by show _ ≤ 135; omega) (by show _ ≤ 1035; omega)
  have hr4z : r < h2z.size := (q0.wr W2z).lt
  have X4z := X4z.more (cells' := 130) (slots' := 516) (by omega) (by omega)
  obtain ⟨b4z, g4z⟩ : ∃ z, z = h2z.size := ⟨_, rfl⟩
  rw [← g4z] at V4z HR4z st4z hr4z
  have fr_b4z : Z.heap.size ≤ b4z := g4z ▸ O3z.1
  have lz_b4z : h0.size ≤ b4z := g4z ▸ K3z.1
  have ne_r_b4z : r ≠ b4z := Nat.ne_of_lt (g4z ▸ (q0.wr W2z).lt)
  have O5z := own_ext_trans O3z E4z
  have K5z := K3z.ext E4z
  have VG : own_V Z h4z b4z kc4z (.array .long) N (fun i => .ref (b4z + 1 + i)) := own_grid hN V4z
  have hrr : ∀ i, b4z + 1 + i ≠ r := fun i => Nat.ne_of_gt (Nat.lt_of_lt_of_le hr4z (Nat.le_trans (Nat.le_add_right _ 1) (Nat.le_add_right _ i)))
  have RW0 : ∀ i, i < N → own_L Z h4z (b4z + 1 + i) km4z ((N + 63) / 64) (fun _ => 0) ∧ Exa Z h4z (b4z + 1 + i) "[J" := fun i hi => ⟨own_rows0 (own_ofN (by omega)) (HR4z i _ (own_rget _ hi)).1, (HR4z i _ (own_rget _ hi)).2⟩
  refine own_go st4z ?_
  show own_G p e below (T4z.setTop (mkF m 26 #[.val (.ref r), .val (.int (Int32.ofNat N)), .val (.int (Int32.ofNat ((N + 63) / 64)))] [(.ref b4z), (.ref r)])) _
  have f6z := ((q3.other W2z (Or.inr (slot_ne (Or.inr (own_hw hw 16 rfl)) (Or.inr (own_hw hw 11 rfl)) (by decide) (t := (.array (.array .long))) (t' := .int) (by decide) (by decide)))).ext E4z)
  obtain ⟨T7z, h7z, X7z, e7z, W7z, st7z⟩ := putF X4z hx hZ hown (host := "") (Or.inl (own_hw hw 15 rfl)) Via.refl e4z f6z ((q0.wr W2z).ext E4z) (Or.inr ⟨(own_hw hw 16 rfl), rfl, hnm⟩) (own_hw hw 2 rfl) (ty := (.array (.array .long))) (by decide) rfl rfl (g := (mkF m 26 #[.val (.ref r), .val (.int (Int32.ofNat N)), .val (.int (Int32.ofNat ((N + 63) / 64)))] [(.ref b4z), (.ref r)])) rfl rfl (hb hby d_prog_67_method_1_code_26)
  refine own_go st7z ?_
  have N7z := Fr.snoc X7z N2z q1
  have F7z : Fld Z h7z r own_s1 "follows" "[[J" (.ref b4z) := f6z.same W7z
  have O8z := own_ext_wr O5z W7z q1
  have K8z := K5z.wr W7z (Or.inl (List.mem_of_getElem? (i := 0) rfl))
  have RW9z := fun (i : Nat) (hi : i < N) => (And.intro ((RW0 i hi).1.other W7z (hrr i)) ((RW0 i hi).2.wr W7z))
  refine own_go (fun t k => XS.aloadN X7z.here hx rfl (hb hby d_prog_67_method_1_code_29) rfl rfl k) ?_
  refine own_go (fun t k => XS.iloadN X7z.here hx rfl (hb hby d_prog_67_method_1_code_30) rfl k) ?_
  obtain ⟨T10z, h10z, kc10z, X10z, e10z, E10z, V10z, O10z_, st10z⟩ := own_newR X7z hx hZ hown (own_hw hw 17 rfl) (own_hw hw 18 rfl) e7z (g := (mkF m 31 #[.val (.ref r), .val (.int (Int32.ofNat N)), .val (.int (Int32.ofNat ((N + 63) / 64)))] [(.int (Int32.ofNat N)), (.ref r)])) rfl (hb hby d_prog_67_method_1_code_31) rfl (i := N) (own_ofN hN) (cap := 129) hN (by decide) (by decide) (by decide)
  obtain ⟨b10z, g10z⟩ : ∃ z, z = h7z.size := ⟨_, rfl⟩
  rw [← g10z] at V10z st10z
  have fr_b10z : Z.heap.size ≤ b10z := g10z ▸ O8z.1
  have lz_b10z : h0.size ≤ b10z := g10z ▸ K8z.1
  have ne_r_b10z : r ≠ b10z := Nat.ne_of_lt (g10z ▸ (((q0.wr W2z).ext E4z).wr W7z).lt)
  have ne_b4z_b10z : b4z ≠ b10z := Nat.ne_of_lt (g10z ▸ (VG.other W7z (Ne.symm ne_r_b4z)).lt)
  have O11z := own_ext_trans O8z E10z
  have K11z := K8z.ext E10z
  have RW12z := fun (i : Nat) (hi : i < N) => (And.intro ((RW9z i hi).1.ext E10z) ((RW9z i hi).2.ext E10z))
  have lt10z : b4z < b10z := g10z ▸ (VG.other W7z (Ne.symm ne_r_b4z)).lt
  have rlA : ∀ i, i < N → b4z + 1 + i < b10z := fun i hi => g10z ▸ (RW9z i hi).1.lt
  have V10z : own_A Z h10z b10z kc10z (.object own_s0) (List.replicate N .null) := V10z
  refine own_go st10z ?_
  show own_G p e below (T10z.setTop (mkF m 34 #[.val (.ref r), .val (.int (Int32.ofNat N)), .val (.int (Int32.ofNat ((N + 63) / 64)))] [(.ref b10z), (.ref r)])) _
  have f13z := ((((q4.other W2z (Or.inr (slot_ne (Or.inr (own_hw hw 20 rfl)) (Or.inr (own_hw hw 11 rfl)) (by decide) (t := (.array (.object own_s0))) (t' := .int) (by decide) (by decide)))).ext E4z).other W7z (Or.inr (slot_ne (Or.inr (own_hw hw 20 rfl)) (Or.inr (own_hw hw 16 rfl)) (by decide) (t := (.array (.object own_s0))) (t' := (.array (.array .long))) (by decide) (by decide)))).ext E10z)
  obtain ⟨T14z, h14z, X14z, e14z, W14z, st14z⟩ := putF X10z hx hZ hown (host := "") (Or.inl (own_hw hw 19 rfl)) Via.refl e10z f13z ((((q0.wr W2z).ext E4z).wr W7z).ext E10z) (Or.inr ⟨(own_hw hw 20 rfl), rfl, hnm⟩) (own_hw hw 2 rfl) (ty := (.array (.object own_s0))) (by decide) rfl rfl (g := (mkF m 34 #[.val (.ref r), .val (.int (Int32.ofNat N)), .val (.int (Int32.ofNat ((N + 63) / 64)))] [(.ref b10z), (.ref r)])) rfl rfl (hb hby d_prog_67_method_1_code_34)
  refine own_go st14z ?_
  have N14z := Fr.snoc X14z N7z q1
  have F14z : Fld Z h14z r own_s1 "lastSent" "[Lcom/example/greylag/greylag/sim/RequestOrder$Knowledge;" (.ref b10z) := f13z.same W14z
  have O15z := own_ext_wr O11z W14z q1
  have K15z := K11z.wr W14z (Or.inl (List.mem_of_getElem? (i := 0) rfl))
  have RW16z := fun (i : Nat) (hi : i < N) => (And.intro ((RW12z i hi).1.other W14z (hrr i)) ((RW12z i hi).2.wr W14z))
  refine own_go (fun t k => XS.aloadN X14z.here hx rfl (hb hby d_prog_67_method_1_code_37) rfl rfl k) ?_
  refine own_go (fun t k => XS.iloadN X14z.here hx rfl (hb hby d_prog_67_method_1_code_38) rfl k) ?_
  obtain ⟨T17z, h17z, kc17z, X17z, e17z, E17z, V17z, O17z_, st17z⟩ := own_newRA X14z hx hZ hown (C := "[J") (ty := .long) (by decide) (own_hw hw 21 rfl) (own_hw hw 13 rfl) e14z (g := (mkF m 39 #[.val (.ref r), .val (.int (Int32.ofNat N)), .val (.int (Int32.ofNat ((N + 63) / 64)))] [(.int (Int32.ofNat N)), (.ref r)])) rfl (hb hby d_prog_67_method_1_code_39) rfl (i := N) (own_ofN hN) (cap := 129) hN (by decide) (by decide) (by decide) (ad := "[[J") (by decide)
  obtain ⟨b17z, g17z⟩ : ∃ z, z = h14z.size := ⟨_, rfl⟩
  rw [← g17z] at V17z st17z
  have fr_b17z : Z.heap.size ≤ b17z := g17z ▸ O15z.1
  have lz_b17z : h0.size ≤ b17z := g17z ▸ K15z.1
  have ne_r_b17z : r ≠ b17z := Nat.ne_of_lt (g17z ▸ (((((q0.wr W2z).ext E4z).wr W7z).ext E10z).wr W14z).lt)
  have f18z := (((VG.other W7z (Ne.symm ne_r_b4z)).ext E10z).other W14z (Ne.symm ne_r_b4z))
  have ne_b4z_b17z : b4z ≠ b17z := Nat.ne_of_lt (g17z ▸ f18z.lt)
  have ne_b10z_b17z : b10z ≠ b17z := Nat.ne_of_lt (g17z ▸ (V10z.other W14z (Ne.symm ne_r_b10z)).lt)
  have O19z := own_ext_trans O15z E17z
  have K19z := K15z.ext E17z
  have RW20z := fun (i : Nat) (hi : i < N) => (And.intro ((RW16z i hi).1.ext E17z) ((RW16z i hi).2.ext E17z))
  have lt17z : b10z < b17z := g17z ▸ (V10z.other W14z (Ne.symm ne_r_b10z)).lt
  refine own_go st17z ?_
  show own_G p e below (T17z.setTop (mkF m 42 #[.val (.ref r), .val (.int (Int32.ofNat N)), .val (.int (Int32.ofNat ((N + 63) / 64)))] [(.ref b17z), (.ref r)])) _
  have f21z := ((((((q5.other W2z (Or.inr (slot_ne (Or.inr (own_hw hw 23 rfl)) (Or.inr (own_hw hw 11 rfl)) (by decide) (t := (.array (.array .long))) (t' := .int) (by decide) (by decide)))).ext E4z).other W7z (Or.inr (slot_ne (Or.inr (own_hw hw 23 rfl)) (Or.inr (own_hw hw 16 rfl)) (by decide) (t := (.array (.array .long))) (t' := (.array (.array .long))) (by decide) (by decide)))).ext E10z).other W14z (Or.inr (slot_ne (Or.inr (own_hw hw 23 rfl)) (Or.inr (own_hw hw 20 rfl)) (by decide) (t := (.array (.array .long))) (t' := (.array (.object own_s0))) (by decide) (by decide)))).ext E17z)
  have f22z := ((((((q0.wr W2z).ext E4z).wr W7z).ext E10z).wr W14z).ext E17z)
  obtain ⟨T23z, h23z, X23z, e23z, W23z, st23z⟩ := putF X17z hx hZ hown (host := "") (Or.inl (own_hw hw 22 rfl)) Via.refl e17z f21z f22z (Or.inr ⟨(own_hw hw 23 rfl), rfl, hnm⟩) (own_hw hw 2 rfl) (ty := (.array (.array .long))) (by decide) rfl rfl (g := (mkF m 42 #[.val (.ref r), .val (.int (Int32.ofNat N)), .val (.int (Int32.ofNat ((N + 63) / 64)))] [(.ref b17z), (.ref r)])) rfl rfl (hb hby d_prog_67_method_1_code_42)
  refine own_go st23z ?_
  have N23z := Fr.snoc X23z N14z q1
  have F23z : Fld Z h23z r own_s1 "precedents" "[[J" (.ref b17z) := f21z.same W23z
  have O24z := own_ext_wr O19z W23z q1
  have K24z := K19z.wr W23z (Or.inl (List.mem_of_getElem? (i := 0) rfl))
  have RW25z := fun (i : Nat) (hi : i < N) => (And.intro ((RW20z i hi).1.other W23z (hrr i)) ((RW20z i hi).2.wr W23z))
  refine own_go (fun t k => XS.aloadN X23z.here hx rfl (hb hby d_prog_67_method_1_code_45) rfl rfl k) ?_
  refine own_go (fun t k => XS.iloadN X23z.here hx rfl (hb hby d_prog_67_method_1_code_46) rfl k) ?_
  obtain ⟨T26z, h26z, kc26z, X26z, e26z, E26z, V26z, st26z⟩ := own_newP X23z hx hZ (own_hw hw 14 rfl) e23z (g := (mkF m 47 #[.val (.ref r), .val (.int (Int32.ofNat N)), .val (.int (Int32.ofNat ((N + 63) / 64)))] [(.int (Int32.ofNat ((N + 63) / 64))), (.ref r)])) rfl (hb hby d_prog_67_method_1_code_47) rfl (i := ((N + 63) / 64)) (own_ofN (by omega)) (cap := 3) (by omega) (by decide) (by decide) (by decide)
  obtain ⟨b26z, g26z⟩ : ∃ z, z = h23z.size := ⟨_, rfl⟩
  rw [← g26z] at V26z st26z
  have fr_b26z : Z.heap.size ≤ b26z := g26z ▸ O24z.1
  have lz_b26z : h0.size ≤ b26z := g26z ▸ K24z.1
  have ne_r_b26z : r ≠ b26z := Nat.ne_of_lt (g26z ▸ (f22z.wr W23z).lt)
  have ne_b4z_b26z : b4z ≠ b26z := Nat.ne_of_lt (g26z ▸ ((f18z.ext E17z).other W23z (Ne.symm ne_r_b4z)).lt)
  have f27z := (((V10z.other W14z (Ne.symm ne_r_b10z)).ext E17z).other W23z (Ne.symm ne_r_b10z))
  have ne_b10z_b26z : b10z ≠ b26z := Nat.ne_of_lt (g26z ▸ f27z.lt)
  have ne_b17z_b26z : b17z ≠ b26z := Nat.ne_of_lt (g26z ▸ (V17z.other W23z (Ne.symm ne_r_b17z)).lt)
  have O28z := own_ext_trans O24z E26z
  have K28z := K24z.ext E26z
  have RW29z := fun (i : Nat) (hi : i < N) => (And.intro ((RW25z i hi).1.ext E26z) ((RW25z i hi).2.ext E26z))
  have lt26z : b17z < b26z := g26z ▸ (V17z.other W23z (Ne.symm ne_r_b17z)).lt
  have V26z : own_A Z h26z b26z kc26z .long (List.replicate ((N + 63) / 64) (.long (0 : Int64))) := V26z
  refine own_go st26z ?_
  show own_G p e below (T26z.setTop (mkF m 49 #[.val (.ref r), .val (.int (Int32.ofNat N)), .val (.int (Int32.ofNat ((N + 63) / 64)))] [(.ref b26z), (.ref r)])) _
  have f30z := ((((((((q6.other W2z (Or.inr (slot_ne (Or.inr (own_hw hw 25 rfl)) (Or.inr (own_hw hw 11 rfl)) (by decide) (t := (.array .long)) (t' := .int) (by decide) (by decide)))).ext E4z).other W7z (Or.inr (slot_ne (Or.inr (own_hw hw 25 rfl)) (Or.inr (own_hw hw 16 rfl)) (by decide) (t := (.array .long)) (t' := (.array (.array .long))) (by decide) (by decide)))).ext E10z).other W14z (Or.inr (slot_ne (Or.inr (own_hw hw 25 rfl)) (Or.inr (own_hw hw 20 rfl)) (by decide) (t := (.array .long)) (t' := (.array (.object own_s0))) (by decide) (by decide)))).ext E17z).other W23z (Or.inr (slot_ne (Or.inr (own_hw hw 25 rfl)) (Or.inr (own_hw hw 23 rfl)) (by decide) (t := (.array .long)) (t' := (.array (.array .long))) (by decide) (by decide)))).ext E26z)
  obtain ⟨T31z, h31z, X31z, e31z, W31z, st31z⟩ := putF X26z hx hZ hown (host := "") (Or.inl (own_hw hw 24 rfl)) Via.refl e26z f30z ((f22z.wr W23z).ext E26z) (Or.inr ⟨(own_hw hw 25 rfl), rfl, hnm⟩) (own_hw hw 2 rfl) (ty := (.array .long)) (by decide) rfl rfl (g := (mkF m 49 #[.val (.ref r), .val (.int (Int32.ofNat N)), .val (.int (Int32.ofNat ((N + 63) / 64)))] [(.ref b26z), (.ref r)])) rfl rfl (hb hby d_prog_67_method_1_code_49)
  refine own_go st31z ?_
  have N31z := Fr.snoc X31z N23z q1
  have F31z : Fld Z h31z r own_s1 "waiting" "[J" (.ref b26z) := f30z.same W31z
  have O32z := own_ext_wr O28z W31z q1
  have K32z := K28z.wr W31z (Or.inl (List.mem_of_getElem? (i := 0) rfl))
  have RW33z := fun (i : Nat) (hi : i < N) => (And.intro ((RW29z i hi).1.other W31z (hrr i)) ((RW29z i hi).2.wr W31z))
  refine own_go (fun t k => XS.aloadN X31z.here hx rfl (hb hby d_prog_67_method_1_code_52) rfl rfl k) ?_
  refine own_go (fun t k => XS.iloadN X31z.here hx rfl (hb hby d_prog_67_method_1_code_53) rfl k) ?_
  obtain ⟨T34z, h34z, kc34z, X34z, e34z, E34z, V34z, st34z⟩ := own_newP X31z hx hZ (own_hw hw 14 rfl) e31z (g := (mkF m 54 #[.val (.ref r), .val (.int (Int32.ofNat N)), .val (.int (Int32.ofNat ((N + 63) / 64)))] [(.int (Int32.ofNat N)), (.ref r)])) rfl (hb hby d_prog_67_method_1_code_54) rfl (i := N) (own_ofN hN) (cap := 129) hN (by decide) (by decide) (by decide)
  obtain ⟨b34z, g34z⟩ : ∃ z, z = h31z.size := ⟨_, rfl⟩
  rw [← g34z] at V34z st34z
  have fr_b34z : Z.heap.size ≤ b34z := g34z ▸ O32z.1
  have lz_b34z : h0.size ≤ b34z := g34z ▸ K32z.1
  have ne_r_b34z : r ≠ b34z := Nat.ne_of_lt (g34z ▸ (((f22z.wr W23z).ext E26z).wr W31z).lt)
  have f35z := ((((f18z.ext E17z).other W23z (Ne.symm ne_r_b4z)).ext E26z).other W31z (Ne.symm ne_r_b4z))
  have ne_b4z_b34z : b4z ≠ b34z := Nat.ne_of_lt (g34z ▸ f35z.lt)
  have ne_b10z_b34z : b10z ≠ b34z := Nat.ne_of_lt (g34z ▸ ((f27z.ext E26z).other W31z (Ne.symm ne_r_b10z)).lt)
  have f36z := (((V17z.other W23z (Ne.symm ne_r_b17z)).ext E26z).other W31z (Ne.symm ne_r_b17z))
  have ne_b17z_b34z : b17z ≠ b34z := Nat.ne_of_lt (g34z ▸ f36z.lt)
  have ne_b26z_b34z : b26z ≠ b34z := Nat.ne_of_lt (g34z ▸ (V26z.other W31z (Ne.symm ne_r_b26z)).lt)
  have O37z := own_ext_trans O32z E34z
  have K37z := K32z.ext E34z
  have RW38z := fun (i : Nat) (hi : i < N) => (And.intro ((RW33z i hi).1.ext E34z) ((RW33z i hi).2.ext E34z))
  have lt34z : b26z < b34z := g34z ▸ (V26z.other W31z (Ne.symm ne_r_b26z)).lt
  have V34z : own_A Z h34z b34z kc34z .long (List.replicate N (.long (0 : Int64))) := V34z
  refine own_go st34z ?_
  show own_G p e below (T34z.setTop (mkF m 56 #[.val (.ref r), .val (.int (Int32.ofNat N)), .val (.int (Int32.ofNat ((N + 63) / 64)))] [(.ref b34z), (.ref r)])) _
  have f39z := ((((((((((q7.other W2z (Or.inr (slot_ne (Or.inr (own_hw hw 27 rfl)) (Or.inr (own_hw hw 11 rfl)) (by decide) (t := (.array .long)) (t' := .int) (by decide) (by decide)))).ext E4z).other W7z (Or.inr (slot_ne (Or.inr (own_hw hw 27 rfl)) (Or.inr (own_hw hw 16 rfl)) (by decide) (t := (.array .long)) (t' := (.array (.array .long))) (by decide) (by decide)))).ext E10z).other W14z (Or.inr (slot_ne (Or.inr (own_hw hw 27 rfl)) (Or.inr (own_hw hw 20 rfl)) (by decide) (t := (.array .long)) (t' := (.array (.object own_s0))) (by decide) (by decide)))).ext E17z).other W23z (Or.inr (slot_ne (Or.inr (own_hw hw 27 rfl)) (Or.inr (own_hw hw 23 rfl)) (by decide) (t := (.array .long)) (t' := (.array (.array .long))) (by decide) (by decide)))).ext E26z).other W31z (Or.inr (slot_ne (Or.inr (own_hw hw 27 rfl)) (Or.inr (own_hw hw 25 rfl)) (by decide) (t := (.array .long)) (t' := (.array .long)) (by decide) (by decide)))).ext E34z)
  obtain ⟨T40z, h40z, X40z, e40z, W40z, st40z⟩ := putF X34z hx hZ hown (host := "") (Or.inl (own_hw hw 26 rfl)) Via.refl e34z f39z ((((f22z.wr W23z).ext E26z).wr W31z).ext E34z) (Or.inr ⟨(own_hw hw 27 rfl), rfl, hnm⟩) (own_hw hw 2 rfl) (ty := (.array .long)) (by decide) rfl rfl (g := (mkF m 56 #[.val (.ref r), .val (.int (Int32.ofNat N)), .val (.int (Int32.ofNat ((N + 63) / 64)))] [(.ref b34z), (.ref r)])) rfl rfl (hb hby d_prog_67_method_1_code_56)
  refine own_go st40z ?_
  have N40z := Fr.snoc X40z N31z q1
  have F40z : Fld Z h40z r own_s1 "requestedAt" "[J" (.ref b34z) := f39z.same W40z
  have O41z := own_ext_wr O37z W40z q1
  have K41z := K37z.wr W40z (Or.inl (List.mem_of_getElem? (i := 0) rfl))
  have RW42z := fun (i : Nat) (hi : i < N) => (And.intro ((RW38z i hi).1.other W40z (hrr i)) ((RW38z i hi).2.wr W40z))
  refine own_go (fun t k => XS.aloadN X40z.here hx rfl (hb hby d_prog_67_method_1_code_59) rfl rfl k) ?_
  refine own_go (fun t k => XS.iloadN X40z.here hx rfl (hb hby d_prog_67_method_1_code_60) rfl k) ?_
  obtain ⟨T43z, h43z, kc43z, X43z, e43z, E43z, V43z, st43z⟩ := own_newP X40z hx hZ (own_hw hw 14 rfl) e40z (g := (mkF m 61 #[.val (.ref r), .val (.int (Int32.ofNat N)), .val (.int (Int32.ofNat ((N + 63) / 64)))] [(.int (Int32.ofNat N)), (.ref r)])) rfl (hb hby d_prog_67_method_1_code_61) rfl (i := N) (own_ofN hN) (cap := 129) hN (by decide) (by decide) (by decide)
  obtain ⟨b43z, g43z⟩ : ∃ z, z = h40z.size := ⟨_, rfl⟩
  rw [← g43z] at V43z st43z
  have fr_b43z : Z.heap.size ≤ b43z := g43z ▸ O41z.1
  have lz_b43z : h0.size ≤ b43z := g43z ▸ K41z.1
  have ne_r_b43z : r ≠ b43z := Nat.ne_of_lt (g43z ▸ (((((f22z.wr W23z).ext E26z).wr W31z).ext E34z).wr W40z).lt)
  have ne_b4z_b43z : b4z ≠ b43z := Nat.ne_of_lt (g43z ▸ ((f35z.ext E34z).other W40z (Ne.symm ne_r_b4z)).lt)
  have f44z := ((((f27z.ext E26z).other W31z (Ne.symm ne_r_b10z)).ext E34z).other W40z (Ne.symm ne_r_b10z))
  have ne_b10z_b43z : b10z ≠ b43z := Nat.ne_of_lt (g43z ▸ f44z.lt)
  have ne_b17z_b43z : b17z ≠ b43z := Nat.ne_of_lt (g43z ▸ ((f36z.ext E34z).other W40z (Ne.symm ne_r_b17z)).lt)
  have f45z := (((V26z.other W31z (Ne.symm ne_r_b26z)).ext E34z).other W40z (Ne.symm ne_r_b26z))
  have ne_b26z_b43z : b26z ≠ b43z := Nat.ne_of_lt (g43z ▸ f45z.lt)
  have ne_b34z_b43z : b34z ≠ b43z := Nat.ne_of_lt (g43z ▸ (V34z.other W40z (Ne.symm ne_r_b34z)).lt)
  have O46z := own_ext_trans O41z E43z
  have K46z := K41z.ext E43z
  have RW47z := fun (i : Nat) (hi : i < N) => (And.intro ((RW42z i hi).1.ext E43z) ((RW42z i hi).2.ext E43z))
  have lt43z : b34z < b43z := g43z ▸ (V34z.other W40z (Ne.symm ne_r_b34z)).lt
  have V43z : own_A Z h43z b43z kc43z .long (List.replicate N (.long (0 : Int64))) := V43z
  refine own_go st43z ?_
  show own_G p e below (T43z.setTop (mkF m 63 #[.val (.ref r), .val (.int (Int32.ofNat N)), .val (.int (Int32.ofNat ((N + 63) / 64)))] [(.ref b43z), (.ref r)])) _
  have f48z := ((((((((((((q8.other W2z (Or.inr (slot_ne (Or.inr (own_hw hw 29 rfl)) (Or.inr (own_hw hw 11 rfl)) (by decide) (t := (.array .long)) (t' := .int) (by decide) (by decide)))).ext E4z).other W7z (Or.inr (slot_ne (Or.inr (own_hw hw 29 rfl)) (Or.inr (own_hw hw 16 rfl)) (by decide) (t := (.array .long)) (t' := (.array (.array .long))) (by decide) (by decide)))).ext E10z).other W14z (Or.inr (slot_ne (Or.inr (own_hw hw 29 rfl)) (Or.inr (own_hw hw 20 rfl)) (by decide) (t := (.array .long)) (t' := (.array (.object own_s0))) (by decide) (by decide)))).ext E17z).other W23z (Or.inr (slot_ne (Or.inr (own_hw hw 29 rfl)) (Or.inr (own_hw hw 23 rfl)) (by decide) (t := (.array .long)) (t' := (.array (.array .long))) (by decide) (by decide)))).ext E26z).other W31z (Or.inr (slot_ne (Or.inr (own_hw hw 29 rfl)) (Or.inr (own_hw hw 25 rfl)) (by decide) (t := (.array .long)) (t' := (.array .long)) (by decide) (by decide)))).ext E34z).other W40z (Or.inr (slot_ne (Or.inr (own_hw hw 29 rfl)) (Or.inr (own_hw hw 27 rfl)) (by decide) (t := (.array .long)) (t' := (.array .long)) (by decide) (by decide)))).ext E43z)
  have f49z := ((((((f22z.wr W23z).ext E26z).wr W31z).ext E34z).wr W40z).ext E43z)
  obtain ⟨T50z, h50z, X50z, e50z, W50z, st50z⟩ := putF X43z hx hZ hown (host := "") (Or.inl (own_hw hw 28 rfl)) Via.refl e43z f48z f49z (Or.inr ⟨(own_hw hw 29 rfl), rfl, hnm⟩) (own_hw hw 2 rfl) (ty := (.array .long)) (by decide) rfl rfl (g := (mkF m 63 #[.val (.ref r), .val (.int (Int32.ofNat N)), .val (.int (Int32.ofNat ((N + 63) / 64)))] [(.ref b43z), (.ref r)])) rfl rfl (hb hby d_prog_67_method_1_code_63)
  refine own_go st50z ?_
  have N50z := Fr.snoc X50z N40z q1
  have F50z : Fld Z h50z r own_s1 "enteredAt" "[J" (.ref b43z) := f48z.same W50z
  have O51z := own_ext_wr O46z W50z q1
  have K51z := K46z.wr W50z (Or.inl (List.mem_of_getElem? (i := 0) rfl))
  have RW52z := fun (i : Nat) (hi : i < N) => (And.intro ((RW47z i hi).1.other W50z (hrr i)) ((RW47z i hi).2.wr W50z))
  have f53z := ((((f35z.ext E34z).other W40z (Ne.symm ne_r_b4z)).ext E43z).other W50z (Ne.symm ne_r_b4z))
  have f54z := ((((f36z.ext E34z).other W40z (Ne.symm ne_r_b17z)).ext E43z).other W50z (Ne.symm ne_r_b17z))
  have f55z := (((V34z.other W40z (Ne.symm ne_r_b34z)).ext E43z).other W50z (Ne.symm ne_r_b34z))
  have f56z := ((((((((((((F2z.ext E4z).other W7z (Or.inr (slot_ne (Or.inr (own_hw hw 11 rfl)) (Or.inr (own_hw hw 16 rfl)) (by decide) (t := .int) (t' := (.array (.array .long))) (by decide) (by decide)))).ext E10z).other W14z (Or.inr (slot_ne (Or.inr (own_hw hw 11 rfl)) (Or.inr (own_hw hw 20 rfl)) (by decide) (t := .int) (t' := (.array (.object own_s0))) (by decide) (by decide)))).ext E17z).other W23z (Or.inr (slot_ne (Or.inr (own_hw hw 11 rfl)) (Or.inr (own_hw hw 23 rfl)) (by decide) (t := .int) (t' := (.array (.array .long))) (by decide) (by decide)))).ext E26z).other W31z (Or.inr (slot_ne (Or.inr (own_hw hw 11 rfl)) (Or.inr (own_hw hw 25 rfl)) (by decide) (t := .int) (t' := (.array .long)) (by decide) (by decide)))).ext E34z).other W40z (Or.inr (slot_ne (Or.inr (own_hw hw 11 rfl)) (Or.inr (own_hw hw 27 rfl)) (by decide) (t := .int) (t' := (.array .long)) (by decide) (by decide)))).ext E43z).other W50z (Or.inr (slot_ne (Or.inr (own_hw hw 11 rfl)) (Or.inr (own_hw hw 29 rfl)) (by decide) (t := .int) (t' := (.array .long)) (by decide) (by decide))))
  have f57z := ((((((((((F7z.ext E10z).other W14z (Or.inr (slot_ne (Or.inr (own_hw hw 16 rfl)) (Or.inr (own_hw hw 20 rfl)) (by decide) (t := (.array (.array .long))) (t' := (.array (.object own_s0))) (by decide) (by decide)))).ext E17z).other W23z (Or.inr (slot_ne (Or.inr (own_hw hw 16 rfl)) (Or.inr (own_hw hw 23 rfl)) (by decide) (t := (.array (.array .long))) (t' := (.array (.array .long))) (by decide) (by decide)))).ext E26z).other W31z (Or.inr (slot_ne (Or.inr (own_hw hw 16 rfl)) (Or.inr (own_hw hw 25 rfl)) (by decide) (t := (.array (.array .long))) (t' := (.array .long)) (by decide) (by decide)))).ext E34z).other W40z (Or.inr (slot_ne (Or.inr (own_hw hw 16 rfl)) (Or.inr (own_hw hw 27 rfl)) (by decide) (t := (.array (.array .long))) (t' := (.array .long)) (by decide) (by decide)))).ext E43z).other W50z (Or.inr (slot_ne (Or.inr (own_hw hw 16 rfl)) (Or.inr (own_hw hw 29 rfl)) (by decide) (t := (.array (.array .long))) (t' := (.array .long)) (by decide) (by decide))))
  have f58z := ((((((((F14z.ext E17z).other W23z (Or.inr (slot_ne (Or.inr (own_hw hw 20 rfl)) (Or.inr (own_hw hw 23 rfl)) (by decide) (t := (.array (.object own_s0))) (t' := (.array (.array .long))) (by decide) (by decide)))).ext E26z).other W31z (Or.inr (slot_ne (Or.inr (own_hw hw 20 rfl)) (Or.inr (own_hw hw 25 rfl)) (by decide) (t := (.array (.object own_s0))) (t' := (.array .long)) (by decide) (by decide)))).ext E34z).other W40z (Or.inr (slot_ne (Or.inr (own_hw hw 20 rfl)) (Or.inr (own_hw hw 27 rfl)) (by decide) (t := (.array (.object own_s0))) (t' := (.array .long)) (by decide) (by decide)))).ext E43z).other W50z (Or.inr (slot_ne (Or.inr (own_hw hw 20 rfl)) (Or.inr (own_hw hw 29 rfl)) (by decide) (t := (.array (.object own_s0))) (t' := (.array .long)) (by decide) (by decide))))
  have f59z := ((((((F23z.ext E26z).other W31z (Or.inr (slot_ne (Or.inr (own_hw hw 23 rfl)) (Or.inr (own_hw hw 25 rfl)) (by decide) (t := (.array (.array .long))) (t' := (.array .long)) (by decide) (by decide)))).ext E34z).other W40z (Or.inr (slot_ne (Or.inr (own_hw hw 23 rfl)) (Or.inr (own_hw hw 27 rfl)) (by decide) (t := (.array (.array .long))) (t' := (.array .long)) (by decide) (by decide)))).ext E43z).other W50z (Or.inr (slot_ne (Or.inr (own_hw hw 23 rfl)) (Or.inr (own_hw hw 29 rfl)) (by decide) (t := (.array (.array .long))) (t' := (.array .long)) (by decide) (by decide))))
  have f60z := ((((F31z.ext E34z).other W40z (Or.inr (slot_ne (Or.inr (own_hw hw 25 rfl)) (Or.inr (own_hw hw 27 rfl)) (by decide) (t := (.array .long)) (t' := (.array .long)) (by decide) (by decide)))).ext E43z).other W50z (Or.inr (slot_ne (Or.inr (own_hw hw 25 rfl)) (Or.inr (own_hw hw 29 rfl)) (by decide) (t := (.array .long)) (t' := (.array .long)) (by decide) (by decide))))
  have f61z := ((F40z.ext E43z).other W50z (Or.inr (slot_ne (Or.inr (own_hw hw 27 rfl)) (Or.inr (own_hw hw 29 rfl)) (by decide) (t := (.array .long)) (t' := (.array .long)) (by decide) (by decide))))
  have f62z := (((((((((((((q9.other W2z (Or.inr (slot_ne (Or.inl (own_hw hw 36 rfl)) (Or.inr (own_hw hw 11 rfl)) (by decide) (t := .long) (t' := .int) (by decide) (by decide)))).ext E4z).other W7z (Or.inr (slot_ne (Or.inl (own_hw hw 36 rfl)) (Or.inr (own_hw hw 16 rfl)) (by decide) (t := .long) (t' := (.array (.array .long))) (by decide) (by decide)))).ext E10z).other W14z (Or.inr (slot_ne (Or.inl (own_hw hw 36 rfl)) (Or.inr (own_hw hw 20 rfl)) (by decide) (t := .long) (t' := (.array (.object own_s0))) (by decide) (by decide)))).ext E17z).other W23z (Or.inr (slot_ne (Or.inl (own_hw hw 36 rfl)) (Or.inr (own_hw hw 23 rfl)) (by decide) (t := .long) (t' := (.array (.array .long))) (by decide) (by decide)))).ext E26z).other W31z (Or.inr (slot_ne (Or.inl (own_hw hw 36 rfl)) (Or.inr (own_hw hw 25 rfl)) (by decide) (t := .long) (t' := (.array .long)) (by decide) (by decide)))).ext E34z).other W40z (Or.inr (slot_ne (Or.inl (own_hw hw 36 rfl)) (Or.inr (own_hw hw 27 rfl)) (by decide) (t := .long) (t' := (.array .long)) (by decide) (by decide)))).ext E43z).other W50z (Or.inr (slot_ne (Or.inl (own_hw hw 36 rfl)) (Or.inr (own_hw hw 29 rfl)) (by decide) (t := .long) (t' := (.array .long)) (by decide) (by decide))))
  exact own_retV X50z hx Bd.returns (hb hby d_prog_67_method_1_code_66) hlk (Nat.le_of_ble_eq_true rfl) (Nat.le_of_ble_eq_true rfl) (by show Q_own_init Z r N n0 h0 _ T50z.heap _; rw [e50z]; exact ⟨(own_6 b4z b10z b17z b26z b34z b43z b43z), (own_6 kc4z kc10z kc17z kc26z kc34z kc43z km4z), (fun i => b4z + 1 + i), rfl, N50z, K51z, ⟨(f49z.wr W50z), f56z, f57z, f58z, f59z, f60z, f61z, F50z, f62z, f53z, own_V0 ((f44z.ext E43z).other W50z (Ne.symm ne_r_b10z)), own_V0 f54z, own_L0 ((f45z.ext E43z).other W50z (Ne.symm ne_r_b26z)), own_L0 f55z, own_L0 (V43z.other W50z (Ne.symm ne_r_b43z)), RW52z⟩, (own_D6 hnr hr4z rlA lt10z lt17z lt26z lt34z lt43z), O4z_, O10z_, O17z_⟩)
theorem own_size (x : Int32) : ∃ N : Nat, 2 ≤ N ∧ N ≤ 129 ∧ ((2 : Int32) + (x &&& (127 : Int32))) = Int32.ofNat N := by
  have e := Jvm.Kit.i32_mask x 127 (k := 7) (by decide) (by decide)
  have e2 : (2 : Int32).toInt = 2 := by decide
  refine ⟨2 + (x.toInt % 128).toNat, by omega, by omega, ?_⟩
  apply Int32.toInt_inj.mp
  rw [Jvm.Kit.i32_add (by rw [e2, e]; omega) (by rw [e2, e]; omega), e2, e, own_ofN (by omega)]; omega
theorem own_Nnz {N : Nat} (h2 : 2 ≤ N) (hN : N ≤ 129) : Int32.ofNat N ≠ 0 := fun q => by
  have e := congrArg Int32.toInt q
  rw [own_ofN hN] at e
  have e0 : (0 : Int32).toInt = 0 := by decide
  omega
theorem own_max (x : Int32) : 0 ≤ (x &&& (2147483647 : Int32)).toInt := by
  rw [Jvm.Kit.i32_mask x 2147483647 (k := 31) (by decide) (by decide)]; omega
theorem own_modN (x : Int32) {N : Nat} (h2 : 2 ≤ N) (hN : N ≤ 129) : ∃ a : Nat, a < N ∧ ((x &&& (2147483647 : Int32)) % (Int32.ofNat N)) = Int32.ofNat a := by
  have h := own_max x
  have e := Jvm.Kit.i32_rem_nonneg (y := Int32.ofNat N) h
  rw [own_ofN hN] at e
  have b1 := Int.emod_nonneg (x &&& (2147483647 : Int32)).toInt (b := (N : Int)) (by omega)
  have b2 := Int.emod_lt_of_pos (x &&& (2147483647 : Int32)).toInt (b := (N : Int)) (by omega)
  refine ⟨((x &&& (2147483647 : Int32)).toInt % N).toNat, by omega, ?_⟩
  apply Int32.toInt_inj.mp
  rw [e, own_ofN (by omega)]; omega
theorem own_N1 {N : Nat} (h2 : 2 ≤ N) (hN : N ≤ 129) : ((Int32.ofNat N) - (1 : Int32)) = Int32.ofNat (N - 1) := by
  have e1 : (1 : Int32).toInt = 1 := by decide
  apply Int32.toInt_inj.mp
  rw [Jvm.Kit.i32_sub (by rw [own_ofN hN, e1]; omega) (by rw [own_ofN hN, e1]; omega), own_ofN hN, e1, own_ofN (by omega)]; omega
theorem own_N1nz {N : Nat} (h2 : 2 ≤ N) (hN : N ≤ 129) : ((Int32.ofNat N) - (1 : Int32)) ≠ 0 := fun q => by
  rw [own_N1 h2 hN] at q
  have e := congrArg Int32.toInt q
  rw [own_ofN (by omega)] at e
  have e0 : (0 : Int32).toInt = 0 := by decide
  omega
theorem own_dN (x : Int32) {N : Nat} (h2 : 2 ≤ N) (hN : N ≤ 129) : ∃ d : Nat, 1 ≤ d ∧ d < N ∧ ((1 : Int32) + ((x &&& (2147483647 : Int32)) % ((Int32.ofNat N) - (1 : Int32)))) = Int32.ofNat d := by
  have h := own_max x
  rw [own_N1 h2 hN]
  have e := Jvm.Kit.i32_rem_nonneg (y := Int32.ofNat (N - 1)) h
  rw [own_ofN (by omega)] at e
  have b1 := Int.emod_nonneg (x &&& (2147483647 : Int32)).toInt (b := ((N - 1 : Nat) : Int)) (by omega)
  have b2 := Int.emod_lt_of_pos (x &&& (2147483647 : Int32)).toInt (b := ((N - 1 : Nat) : Int)) (by omega)
  have e1 : (1 : Int32).toInt = 1 := by decide
  refine ⟨1 + ((x &&& (2147483647 : Int32)).toInt % ((N - 1 : Nat) : Int)).toNat, by omega, by omega, ?_⟩
  apply Int32.toInt_inj.mp
  rw [Jvm.Kit.i32_add (by rw [e1, e]; omega) (by rw [e1, e]; omega), e1, e, own_ofN (by omega)]; omega
theorem own_bN {a d N : Nat} (ha : a < N) (h1 : 1 ≤ d) (hd : d < N) (hN : N ≤ 129) : ∃ b : Nat, b < N ∧ ¬ a = b ∧ (((Int32.ofNat a) + (Int32.ofNat d)) % (Int32.ofNat N)) = Int32.ofNat b := by
  have ea := own_ofN (n := a) (by omega)
  have ed := own_ofN (n := d) (by omega)
  have s : ((Int32.ofNat a) + (Int32.ofNat d)).toInt = (a : Int) + d := by rw [Jvm.Kit.i32_add (by rw [ea, ed]; omega) (by rw [ea, ed]; omega), ea, ed]
  have e := Jvm.Kit.i32_rem_nonneg (x := (Int32.ofNat a) + (Int32.ofNat d)) (y := Int32.ofNat N) (by rw [s]; omega)
  rw [s, own_ofN hN] at e
  rcases Nat.lt_or_ge (a + d) N with q | q
  · refine ⟨a + d, q, by omega, ?_⟩
    apply Int32.toInt_inj.mp
    rw [e, own_ofN (by omega), Int.emod_eq_of_lt (by omega) (by omega)]; omega
  · refine ⟨a + d - N, by omega, by omega, ?_⟩
    apply Int32.toInt_inj.mp
    rw [e, own_ofN (by omega), ← Int.sub_emod_right, Int.emod_eq_of_lt (by omega) (by omega)]; omega
theorem own_p1 {a N : Nat} (ha : a < N) (hN : N ≤ 129) : ((Int32.ofNat a) + (1 : Int32)).toInt = (a : Int) + 1 := by
  have e1 : (1 : Int32).toInt = 1 := by decide
  have ea := own_ofN (n := a) (by omega)
  rw [Jvm.Kit.i32_add (by rw [ea, e1]; omega) (by rw [ea, e1]; omega), ea, e1]
def own_R1 (a : Nat) : Nat → Nat → Int64 := own_upd (fun _ _ => 0) a (own_one a)
def own_R2 (a b : Nat) : Nat → Nat → Int64 := own_upd (own_R1 a) b (own_one a)
theorem own_or0 (q : Nat) : own_or (fun _ => 0) q = own_one q := by
  funext x; unfold own_or own_one
  by_cases e : x = q / 64
  · rw [if_pos e, if_pos e, own_zero_or]
  · rw [if_neg e, if_neg e]
theorem own_or1 (q : Nat) : own_or (own_one q) q = own_one q := by
  funext x; unfold own_or
  by_cases e : x = q / 64
  · rw [if_pos e]; subst e; rw [own_one_hit, own_or_self]
  · rw [if_neg e]
theorem own_clr1 (q : Nat) : own_clr (own_one q) q = fun _ => 0 := by
  funext x; unfold own_clr
  by_cases e : x = q / 64
  · rw [if_pos e]; subst e; rw [own_one_hit, own_B_not]
  · rw [if_neg e, own_one_miss e]
theorem own_clr0 (q : Nat) : own_clr (fun _ => 0) q = fun _ => 0 := own_clr_id' (own_zero_and _)
theorem own_R1a {a : Nat} : own_R1 a a = own_one a := own_upd_hit _ _ _
theorem own_R1o {a j : Nat} (h : ¬ j = a) : own_R1 a j = fun _ => 0 := own_upd_miss _ _ h
theorem own_R2a {a b : Nat} (h : ¬ a = b) : own_R2 a b a = own_one a := (own_upd_miss _ _ h).trans own_R1a
theorem own_R2b {a b : Nat} : own_R2 a b b = own_one a := own_upd_hit _ _ _
theorem own_R2o {a b j : Nat} (h : ¬ j = a) (h' : ¬ j = b) : own_R2 a b j = fun _ => 0 := (own_upd_miss _ _ h').trans (own_R1o h)
theorem own_rq1 (a N : Nat) : own_upd (own_rcI (fun _ _ => 0) a N) a (own_or ((fun _ _ => 0) a) a) = own_R1 a := by
  funext j; unfold own_R1
  by_cases e : j = a
  · subst e; rw [own_upd_hit, own_upd_hit]; exact own_or0 j
  · rw [own_upd_miss _ _ e, own_upd_miss _ _ e]; unfold own_rcI
    by_cases q : j < N ∧ j ≠ a
    · rw [if_pos q]; exact own_clr0 a
    · rw [if_neg q]
theorem own_rq2 (a N : Nat) : own_upd (own_rcI (own_R1 a) a N) a (own_or (own_R1 a a) a) = own_R1 a := by
  funext j
  by_cases e : j = a
  · subst e; rw [own_upd_hit, own_R1a, own_or1]
  · rw [own_upd_miss _ _ e, own_R1o e]; unfold own_rcI
    by_cases q : j < N ∧ j ≠ a
    · rw [if_pos q, own_R1o e, own_clr0]
    · rw [if_neg q, own_R1o e]
theorem own_rq3 {a b N : Nat} (h : ¬ a = b) (hb : b < N) : own_upd (own_rcI (own_R2 a b) a N) a (own_or (own_R2 a b a) a) = own_R1 a := by
  funext j
  by_cases e : j = a
  · subst e; rw [own_upd_hit, own_R2a h, own_or1, own_R1a]
  · rw [own_upd_miss _ _ e, own_R1o e]; unfold own_rcI
    by_cases eb : j = b
    · subst eb; rw [if_pos ⟨hb, e⟩, own_R2b, own_clr1]
    · by_cases q : j < N ∧ j ≠ a
      · rw [if_pos q, own_R2o e eb, own_clr0]
      · rw [if_neg q, own_R2o e eb]
theorem own_has0 (q : Nat) : own_has (fun _ => 0) q = 0 := if_pos (own_zero_and _)
theorem own_has1 {a b : Nat} (h : ¬ a = b) : own_has (own_one a) b = 0 := by
  unfold own_has
  by_cases e : b / 64 = a / 64
  · rw [e, own_one_hit, own_B_two h e.symm, if_pos rfl]
  · rw [own_one_miss e, own_zero_and, if_pos rfl]
theorem own_hasR1 {a b : Nat} (h : ¬ a = b) (j : Nat) : own_has (own_R1 a j) b = 0 := by
  by_cases e : j = a
  · subst e; rw [own_R1a]; exact own_has1 h
  · rw [own_R1o e]; exact own_has0 b
theorem own_hasR2 {a b : Nat} (h : ¬ a = b) (j : Nat) : own_has (own_R2 a b j) b = 0 := by
  by_cases e : j = b
  · subst e; rw [own_R2b]; exact own_has1 h
  · by_cases e' : j = a
    · subst e'; rw [own_R2a h]; exact own_has1 h
    · rw [own_R2o e' e]; exact own_has0 b
theorem own_and1 (a : Nat) : (fun j => own_one a j &&& own_one a j) = own_one a := funext fun j => own_and_self _
theorem own_I.cast {Z : State} {h : Heap} {r : Addr} {N w : Nat} {A : Nat → Addr} {K : Nat → ClassId} {rows : Nat → Addr} {rc : Nat → Nat → Int64} {ls pr : Nat → Value} {wt ra ea : Nat → Int64} {st : Int64} {rc' : Nat → Nat → Int64} {wt' : Nat → Int64} (I : own_I Z h r N w A K rows rc ls pr wt ra ea st) (e1 : rc = rc') (e2 : wt = wt') : own_I Z h r N w A K rows rc' ls pr wt' ra ea st := by subst e1 e2; exact I
theorem ef_own_law (m : MethodId) (x0 : Int32) (x1 : Int32) (x2 : Int32) (x3 : Int32) : entryFrame m #[(.int x0), (.int x1), (.int x2), (.int x3)] maxLocals = mkF m 0 #[.val (.int x0), .val (.int x1), .val (.int x2), .val (.int x3), .unset, .unset, .unset, .unset, .unset, .unset, .unset, .unset, .unset, .unset, .unset, .unset, .unset, .unset, .unset] [] := by first | (simp [entryFrame, mkF, argsToLocals, Value.category, maxLocals]; done) | rfl
theorem pf_own_law : plainFor x = true := plainFor_of_name (by simp [plainName, overriddenIn, x])
theorem pd_2087992021 : parseMethodDescriptor "(I)V" = some ⟨[.int], none⟩ := by decide +kernel
theorem pd_3387817828 : parseMethodDescriptor "(I)Lcom/example/greylag/greylag/sim/RequestOrder$Knowledge;" = some ⟨[.int], some (.object "com/example/greylag/greylag/sim/RequestOrder$Knowledge")⟩ := by decide +kernel
theorem pd_1040280026 : parseMethodDescriptor "(ILcom/example/greylag/greylag/sim/RequestOrder$Knowledge;)V" = some ⟨[.int, (.object "com/example/greylag/greylag/sim/RequestOrder$Knowledge")], none⟩ := by decide +kernel
def Q_own_law (Z : State) (p0 : Int32) (p1 : Int32) (p2 : Int32) (p3 : Int32) (h0 : Heap) (v : Option Value) (h : Heap) (L : List Loc) : Prop := v = some (.int (1 : Int32)) ∧ Fr Z.heap.size L ∧ Keep h0 h []
set_option maxRecDepth 65536 in
set_option maxHeartbeats 40000000 in
theorem own_law (l : Launch) (Z : State) (a0 : Array Value) (hw : ∀ d ∈ tables_1, d.before a0 Z = true) (ws : List Jvm.Cond) (p0 : Int32) (p1 : Int32) (p2 : Int32) (p3 : Int32) (h0 : Heap) (O0 : Ext Z.heap h0) :
    MetFree l x (head1 (Jvm.Cond.code x code maxLocals ret :: ws) room_1) (fun aa U => aa = #[(.int p0), (.int p1), (.int p2), (.int p3)] ∧ Z.Warmed39 U.vm ∧ U.heap = h0) (fun _ _ _ _ _ => True) (fun _ U o U' => ∃ v L, o = .returned v ∧ Q_own_law Z p0 p1 p2 p3 h0 v U'.heap L ∧ FrameEnd U o U' L room_1.cells room_1.slots) := by
  refine MetFree.of_bodySF pf_own_law hisR ?_
  intro p e s m args below meth c s₁ Bd hml0 hP hK
  obtain ⟨rfl, hZ, hh⟩ := hP
  have hx := Bd.exec
  have hby := Bd.bytes
  have hlk := BodyLoose.notSynchronized Bd
  have hml : c.maxLocals = 19 := hml0
  have hown : s.vm.findClass "com/example/greylag/greylag/sim/RequestOrderRequestedPinLaw" = some m.cls := findClass_of_methodNamed Bd.named
  have hnm := (name_of_methodNamed Bd.named Bd.method).1
  have X0 : Stand p l e room_1 s m #[(.int p0), (.int p1), (.int p2), (.int p3)] below meth c s₁ [] 0 0 := Stand.of_body Bd
  have e0 : s₁.heap = h0 := by rw [← hh, Bd.state]; rfl
  have N0 := Fr.nil Z.heap.size
  have K0 : Keep h0 h0 [] := Keep.refl _ _
  refine own_start (Q := Q_own_law Z p0 p1 p2 p3 h0) (ef_own_law m (p0) (p1) (p2) (p3)) ?_
  show own_G p e below (s₁.setTop (mkF m 0 #[.val (.int p0), .val (.int p1), .val (.int p2), .val (.int p3), .unset, .unset, .unset, .unset, .unset, .unset, .unset, .unset, .unset, .unset, .unset, .unset, .unset, .unset, .unset] [])) _
  refine own_go (fun t k => XS.iconst X0.here hx rfl (hb hby at_0) k) ?_
  refine own_go (fun t k => XS.iloadN X0.here hx rfl (hb hby at_1) rfl k) ?_
  refine own_go (fun t k => XS.bipush X0.here hx rfl (hb hby at_2) k) ?_
  refine own_go (fun t k => XS.iand X0.here hx rfl (hb hby at_4) rfl k) ?_
  show own_G p e below (s₁.setTop (mkF m 5 #[.val (.int p0), .val (.int p1), .val (.int p2), .val (.int p3), .unset, .unset, .unset, .unset, .unset, .unset, .unset, .unset, .unset, .unset, .unset, .unset, .unset, .unset, .unset] [(.int (p0 &&& (127 : Int32))), (.int (2 : Int32))])) _
  refine own_go (fun t k => XS.iadd X0.here hx rfl (hb hby at_5) rfl k) ?_
  show own_G p e below (s₁.setTop (mkF m 6 #[.val (.int p0), .val (.int p1), .val (.int p2), .val (.int p3), .unset, .unset, .unset, .unset, .unset, .unset, .unset, .unset, .unset, .unset, .unset, .unset, .unset, .unset, .unset] [(.int ((2 : Int32) + (p0 &&& (127 : Int32))))])) _
  obtain ⟨N, hN2, hN, eN⟩ := own_size p0
  rw [eN]
  show own_G p e below (s₁.setTop (mkF m 6 #[.val (.int p0), .val (.int p1), .val (.int p2), .val (.int p3), .unset, .unset, .unset, .unset, .unset, .unset, .unset, .unset, .unset, .unset, .unset, .unset, .unset, .unset, .unset] [(.int (Int32.ofNat N))])) _
  refine own_go (fun t k => XS.istore X0.here hx rfl (hb hby at_6) rfl (l' := #[.val (.int p0), .val (.int p1), .val (.int p2), .val (.int p3), .val (.int (Int32.ofNat N)), .unset, .unset, .unset, .unset, .unset, .unset, .unset, .unset, .unset, .unset, .unset, .unset, .unset, .unset]) rfl k) ?_
  refine own_go (fun t k => XS.iloadN X0.here hx rfl (hb hby at_8) rfl k) ?_
  refine own_go (fun t k => X0.ldcI hx hown (mvT hZ (own_hw hw 0 rfl)) rfl (hb hby at_9) k) ?_
  refine own_go (fun t k => XS.iand X0.here hx rfl (hb hby at_11) rfl k) ?_
  show own_G p e below (s₁.setTop (mkF m 12 #[.val (.int p0), .val (.int p1), .val (.int p2), .val (.int p3), .val (.int (Int32.ofNat N)), .unset, .unset, .unset, .unset, .unset, .unset, .unset, .unset, .unset, .unset, .unset, .unset, .unset, .unset] [(.int (p1 &&& (2147483647 : Int32)))])) _
  refine own_go (fun t k => XS.iload X0.here hx rfl (hb hby at_12) rfl k) ?_
  refine own_go (fun t k => iremM X0 hx rfl (hb hby at_14) rfl (own_Nnz hN2 hN) k) ?_
  show own_G p e below (s₁.setTop (mkF m 15 #[.val (.int p0), .val (.int p1), .val (.int p2), .val (.int p3), .val (.int (Int32.ofNat N)), .unset, .unset, .unset, .unset, .unset, .unset, .unset, .unset, .unset, .unset, .unset, .unset, .unset, .unset] [(.int ((p1 &&& (2147483647 : Int32)) % (Int32.ofNat N)))])) _
  obtain ⟨a, haN, ea⟩ := own_modN p1 hN2 hN
  rw [ea]
  show own_G p e below (s₁.setTop (mkF m 15 #[.val (.int p0), .val (.int p1), .val (.int p2), .val (.int p3), .val (.int (Int32.ofNat N)), .unset, .unset, .unset, .unset, .unset, .unset, .unset, .unset, .unset, .unset, .unset, .unset, .unset, .unset] [(.int (Int32.ofNat a))])) _
  refine own_go (fun t k => XS.istore X0.here hx rfl (hb hby at_15) rfl (l' := #[.val (.int p0), .val (.int p1), .val (.int p2), .val (.int p3), .val (.int (Int32.ofNat N)), .val (.int (Int32.ofNat a)), .unset, .unset, .unset, .unset, .unset, .unset, .unset, .unset, .unset, .unset, .unset, .unset, .unset]) rfl k) ?_
  refine own_go (fun t k => XS.iconst X0.here hx rfl (hb hby at_17) k) ?_
  refine own_go (fun t k => XS.iloadN X0.here hx rfl (hb hby at_18) rfl k) ?_
  refine own_go (fun t k => X0.ldcI hx hown (mvT hZ (own_hw hw 0 rfl)) rfl (hb hby at_19) k) ?_
  show own_G p e below (s₁.setTop (mkF m 21 #[.val (.int p0), .val (.int p1), .val (.int p2), .val (.int p3), .val (.int (Int32.ofNat N)), .val (.int (Int32.ofNat a)), .unset, .unset, .unset, .unset, .unset, .unset, .unset, .unset, .unset, .unset, .unset, .unset, .unset] [(.int (2147483647 : Int32)), (.int p2), (.int (1 : Int32))])) _
  refine own_go (fun t k => XS.iand X0.here hx rfl (hb hby at_21) rfl k) ?_
  refine own_go (fun t k => XS.iload X0.here hx rfl (hb hby at_22) rfl k) ?_
  refine own_go (fun t k => XS.iconst X0.here hx rfl (hb hby at_24) k) ?_
  refine own_go (fun t k => XS.isub X0.here hx rfl (hb hby at_25) rfl k) ?_
  show own_G p e below (s₁.setTop (mkF m 26 #[.val (.int p0), .val (.int p1), .val (.int p2), .val (.int p3), .val (.int (Int32.ofNat N)), .val (.int (Int32.ofNat a)), .unset, .unset, .unset, .unset, .unset, .unset, .unset, .unset, .unset, .unset, .unset, .unset, .unset] [(.int ((Int32.ofNat N) - (1 : Int32))), (.int (p2 &&& (2147483647 : Int32))), (.int (1 : Int32))])) _
  refine own_go (fun t k => iremM X0 hx rfl (hb hby at_26) rfl (own_N1nz hN2 hN) k) ?_
  refine own_go (fun t k => XS.iadd X0.here hx rfl (hb hby at_27) rfl k) ?_
  show own_G p e below (s₁.setTop (mkF m 28 #[.val (.int p0), .val (.int p1), .val (.int p2), .val (.int p3), .val (.int (Int32.ofNat N)), .val (.int (Int32.ofNat a)), .unset, .unset, .unset, .unset, .unset, .unset, .unset, .unset, .unset, .unset, .unset, .unset, .unset] [(.int ((1 : Int32) + ((p2 &&& (2147483647 : Int32)) % ((Int32.ofNat N) - (1 : Int32)))))])) _
  obtain ⟨d, hd1, hdN, ed⟩ := own_dN p2 hN2 hN
  rw [ed]
  show own_G p e below (s₁.setTop (mkF m 28 #[.val (.int p0), .val (.int p1), .val (.int p2), .val (.int p3), .val (.int (Int32.ofNat N)), .val (.int (Int32.ofNat a)), .unset, .unset, .unset, .unset, .unset, .unset, .unset, .unset, .unset, .unset, .unset, .unset, .unset] [(.int (Int32.ofNat d))])) _
  refine own_go (fun t k => XS.istore X0.here hx rfl (hb hby at_28) rfl (l' := #[.val (.int p0), .val (.int p1), .val (.int p2), .val (.int p3), .val (.int (Int32.ofNat N)), .val (.int (Int32.ofNat a)), .val (.int (Int32.ofNat d)), .unset, .unset, .unset, .unset, .unset, .unset, .unset, .unset, .unset, .unset, .unset, .unset]) rfl k) ?_
  refine own_go (fun t k => XS.iload X0.here hx rfl (hb hby at_30) rfl k) ?_
  refine own_go (fun t k => XS.iload X0.here hx rfl (hb hby at_32) rfl k) ?_
  refine own_go (fun t k => XS.iadd X0.here hx rfl (hb hby at_34) rfl k) ?_
  show own_G p e below (s₁.setTop (mkF m 35 #[.val (.int p0), .val (.int p1), .val (.int p2), .val (.int p3), .val (.int (Int32.ofNat N)), .val (.int (Int32.ofNat a)), .val (.int (Int32.ofNat d)), .unset, .unset, .unset, .unset, .unset, .unset, .unset, .unset, .unset, .unset, .unset, .unset] [(.int ((Int32.ofNat a) + (Int32.ofNat d)))])) _
  refine own_go (fun t k => XS.iload X0.here hx rfl (hb hby at_35) rfl k) ?_
  refine own_go (fun t k => iremM X0 hx rfl (hb hby at_37) rfl (own_Nnz hN2 hN) k) ?_
  show own_G p e below (s₁.setTop (mkF m 38 #[.val (.int p0), .val (.int p1), .val (.int p2), .val (.int p3), .val (.int (Int32.ofNat N)), .val (.int (Int32.ofNat a)), .val (.int (Int32.ofNat d)), .unset, .unset, .unset, .unset, .unset, .unset, .unset, .unset, .unset, .unset, .unset, .unset] [(.int (((Int32.ofNat a) + (Int32.ofNat d)) % (Int32.ofNat N)))])) _
  obtain ⟨b, hbN, hab, eb⟩ := own_bN haN hd1 hdN hN
  rw [eb]
  show own_G p e below (s₁.setTop (mkF m 38 #[.val (.int p0), .val (.int p1), .val (.int p2), .val (.int p3), .val (.int (Int32.ofNat N)), .val (.int (Int32.ofNat a)), .val (.int (Int32.ofNat d)), .unset, .unset, .unset, .unset, .unset, .unset, .unset, .unset, .unset, .unset, .unset, .unset] [(.int (Int32.ofNat b))])) _
  refine own_go (fun t k => XS.istore X0.here hx rfl (hb hby at_38) rfl (l' := #[.val (.int p0), .val (.int p1), .val (.int p2), .val (.int p3), .val (.int (Int32.ofNat N)), .val (.int (Int32.ofNat a)), .val (.int (Int32.ofNat d)), .val (.int (Int32.ofNat b)), .unset, .unset, .unset, .unset, .unset, .unset, .unset, .unset, .unset, .unset, .unset]) rfl k) ?_
  refine own_go (fun t k => XS.iload X0.here hx rfl (hb hby at_40) rfl k) ?_
  refine own_go (fun t k => XS.iconst X0.here hx rfl (hb hby at_42) k) ?_
  refine own_go (fun t k => XS.iadd X0.here hx rfl (hb hby at_43) rfl k) ?_
  show own_G p e below (s₁.setTop (mkF m 44 #[.val (.int p0), .val (.int p1), .val (.int p2), .val (.int p3), .val (.int (Int32.ofNat N)), .val (.int (Int32.ofNat a)), .val (.int (Int32.ofNat d)), .val (.int (Int32.ofNat b)), .unset, .unset, .unset, .unset, .unset, .unset, .unset, .unset, .unset, .unset, .unset] [(.int ((Int32.ofNat a) + (1 : Int32)))])) _
  refine own_go (fun t k => XS.istore X0.here hx rfl (hb hby at_44) rfl (l' := #[.val (.int p0), .val (.int p1), .val (.int p2), .val (.int p3), .val (.int (Int32.ofNat N)), .val (.int (Int32.ofNat a)), .val (.int (Int32.ofNat d)), .val (.int (Int32.ofNat b)), .val (.int ((Int32.ofNat a) + (1 : Int32))), .unset, .unset, .unset, .unset, .unset, .unset, .unset, .unset, .unset, .unset]) rfl k) ?_
  refine own_go (fun t k => XS.iload X0.here hx rfl (hb hby at_46) rfl k) ?_
  refine own_go (fun t k => XS.iconst X0.here hx rfl (hb hby at_48) k) ?_
  refine own_go (fun t k => XS.iadd X0.here hx rfl (hb hby at_49) rfl k) ?_
  show own_G p e below (s₁.setTop (mkF m 50 #[.val (.int p0), .val (.int p1), .val (.int p2), .val (.int p3), .val (.int (Int32.ofNat N)), .val (.int (Int32.ofNat a)), .val (.int (Int32.ofNat d)), .val (.int (Int32.ofNat b)), .val (.int ((Int32.ofNat a) + (1 : Int32))), .unset, .unset, .unset, .unset, .unset, .unset, .unset, .unset, .unset, .unset] [(.int ((Int32.ofNat b) + (1 : Int32)))])) _
  refine own_go (fun t k => XS.istore X0.here hx rfl (hb hby at_50) rfl (l' := #[.val (.int p0), .val (.int p1), .val (.int p2), .val (.int p3), .val (.int (Int32.ofNat N)), .val (.int (Int32.ofNat a)), .val (.int (Int32.ofNat d)), .val (.int (Int32.ofNat b)), .val (.int ((Int32.ofNat a) + (1 : Int32))), .val (.int ((Int32.ofNat b) + (1 : Int32))), .unset, .unset, .unset, .unset, .unset, .unset, .unset, .unset, .unset]) rfl k) ?_
  have hba : ¬ b = a := fun q => hab q.symm
  have go134 : ∀ f10 f11 f12 f13 f14 : Int32, (f11 = (0 : Int32) → f12 = (0 : Int32)) → (¬ (f10 = (0 : Int32)) → f13 = (0 : Int32)) → (¬ (f11 = (0 : Int32)) → f14 = (0 : Int32)) → own_G p e below (s₁.setTop (mkF m 134 #[.val (.int p0), .val (.int p1), .val (.int p2), .val (.int p3), .val (.int (Int32.ofNat N)), .val (.int (Int32.ofNat a)), .val (.int (Int32.ofNat d)), .val (.int (Int32.ofNat b)), .val (.int ((Int32.ofNat a) + (1 : Int32))), .val (.int ((Int32.ofNat b) + (1 : Int32))), .val (.int f10), .val (.int f11), .val (.int f12), .val (.int f13), .val (.int f14), .unset, .unset, .unset, .unset] [])) (own_P s below room_1.cells room_1.slots (Q_own_law Z p0 p1 p2 p3 h0)) := by
    intro f10 f11 f12 f13 f14 g12 g13 g14
    show own_G p e below (s₁.setTop (mkF m 134 #[.val (.int p0), .val (.int p1), .val (.int p2), .val (.int p3), .val (.int (Int32.ofNat N)), .val (.int (Int32.ofNat a)), .val (.int (Int32.ofNat d)), .val (.int (Int32.ofNat b)), .val (.int ((Int32.ofNat a) + (1 : Int32))), .val (.int ((Int32.ofNat b) + (1 : Int32))), .val (.int f10), .val (.int f11), .val (.int f12), .val (.int f13), .val (.int f14), .unset, .unset, .unset, .unset] [])) _
    obtain ⟨T1z, h1z, X1z, e1z, E1z, A1z, D1z, -, st1z⟩ := newO X0 hx hZ hown (own_hw hw 1 rfl) (own_hw hw 2 rfl) (own_hw hw 3 rfl) e0 (g := (mkF m 134 #[.val (.int p0), .val (.int p1), .val (.int p2), .val (.int p3), .val (.int (Int32.ofNat N)), .val (.int (Int32.ofNat a)), .val (.int (Int32.ofNat d)), .val (.int (Int32.ofNat b)), .val (.int ((Int32.ofNat a) + (1 : Int32))), .val (.int ((Int32.ofNat b) + (1 : Int32))), .val (.int f10), .val (.int f11), .val (.int f12), .val (.int f13), .val (.int f14), .unset, .unset, .unset, .unset] [])) rfl (hb hby at_134) (by decide) (by decide)
    obtain ⟨b1z, g1z⟩ : ∃ z, z = h0.size := ⟨_, rfl⟩
    rw [← g1z] at A1z D1z st1z
    have fr_b1z : Z.heap.size ≤ b1z := g1z ▸ O0.1
    have lz_b1z : h0.size ≤ b1z := g1z ▸ K0.1
    have O2z := own_ext_trans O0 E1z
    have K2z := K0.ext E1z
    have F1z_size : Fld Z h1z b1z own_s1 "size" "I" (.int (0 : Int32)) := D1z (Or.inr (own_hw hw 11 rfl)) (ty := .int) (by decide)
    have F1z_follows : Fld Z h1z b1z own_s1 "follows" "[[J" .null := D1z (Or.inr (own_hw hw 16 rfl)) (ty := (.array (.array .long))) (by decide)
    have F1z_lastSent : Fld Z h1z b1z own_s1 "lastSent" "[Lcom/example/greylag/greylag/sim/RequestOrder$Knowledge;" .null := D1z (Or.inr (own_hw hw 20 rfl)) (ty := (.array (.object own_s0))) (by decide)
    have F1z_precedents : Fld Z h1z b1z own_s1 "precedents" "[[J" .null := D1z (Or.inr (own_hw hw 23 rfl)) (ty := (.array (.array .long))) (by decide)
    have F1z_waiting : Fld Z h1z b1z own_s1 "waiting" "[J" .null := D1z (Or.inr (own_hw hw 25 rfl)) (ty := (.array .long)) (by decide)
    have F1z_requestedAt : Fld Z h1z b1z own_s1 "requestedAt" "[J" .null := D1z (Or.inr (own_hw hw 27 rfl)) (ty := (.array .long)) (by decide)
    have F1z_enteredAt : Fld Z h1z b1z own_s1 "enteredAt" "[J" .null := D1z (Or.inr (own_hw hw 29 rfl)) (ty := (.array .long)) (by decide)
    have F1z_stamp : Fld Z h1z b1z own_s1 "stamp" "J" (.long (0 : Int64)) := D1z (Or.inl (own_hw hw 36 rfl)) (ty := .long) (by decide)
    refine own_go st1z ?_
    refine own_go (fun t k => XS.dup X1z.here hx rfl (hb hby at_137) rfl rfl k) ?_
    refine own_go (fun t k => XS.iload X1z.here hx rfl (hb hby at_138) rfl k) ?_
    obtain ⟨_, _, ⟨T3z, L3z, k3z, n3z⟩, -, X3z, ⟨Lc3z, hQ3z, l3z, y3z, z3z⟩, st3z⟩ := X1z.specialBack hx (y := own_m11) rfl hown (own_mw hZ hw 4 rfl) (own_mw hZ hw 5 rfl) (own_mw hZ hw 6 rfl) (by decide) (backOf (W := 1) (own_init l Z a0 hw [] b1z N b1z h1z O2z A1z fr_b1z F1z_size F1z_follows F1z_lastSent F1z_precedents F1z_waiting F1z_requestedAt F1z_enteredAt F1z_stamp hN (Nat.le_refl _)) hZ (own_hw hw 6 rfl) (own_hw hw 3 rfl) (by decide) (by decide)) (g := (mkF m 140 #[.val (.int p0), .val (.int p1), .val (.int p2), .val (.int p3), .val (.int (Int32.ofNat N)), .val (.int (Int32.ofNat a)), .val (.int (Int32.ofNat d)), .val (.int (Int32.ofNat b)), .val (.int ((Int32.ofNat a) + (1 : Int32))), .val (.int ((Int32.ofNat b) + (1 : Int32))), .val (.int f10), .val (.int f11), .val (.int f12), .val (.int f13), .val (.int f14), .unset, .unset, .unset, .unset] [(.int (Int32.ofNat N)), (.ref b1z), (.ref b1z)])) rfl (by rw [hml]; rfl) (Steps.refl _) (a := b1z) (argsL := [(.int (Int32.ofNat N))]) (rest := [(.ref b1z)]) (lenOf pd_2087992021 rfl) rfl (by show 2 * 0 + _ ≤ _; exact Nat.le_of_eq rfl) (hb hby at_140) (fun _ _ => ⟨rfl, e1z, (by decide : 1 + 135 ≤ _), (by decide : 8 + 1035 ≤ _)⟩)
    dsimp only [Pt.U, Pt.locs, Pt.cells, Pt.slots] at X3z l3z y3z z3z st3z hQ3z
    subst l3z y3z z3z
    obtain ⟨A_3z, K_3z, rows_3z, rfl, NQ3z, K3zq, r3z_0, r3z_1, r3z_2, r3z_3, r3z_4⟩ := hQ3z
    refine own_tr st3z ?_
    have N3z := Fr.app N0 NQ3z
    have O4z := own_ext_keep O2z K3zq (allS fr_b1z all0)
    have K4z := K2z.trans K3zq (allS (Or.inr lz_b1z) all0)
    show own_G p e below (T3z.setTop (mkF m 143 #[.val (.int p0), .val (.int p1), .val (.int p2), .val (.int p3), .val (.int (Int32.ofNat N)), .val (.int (Int32.ofNat a)), .val (.int (Int32.ofNat d)), .val (.int (Int32.ofNat b)), .val (.int ((Int32.ofNat a) + (1 : Int32))), .val (.int ((Int32.ofNat b) + (1 : Int32))), .val (.int f10), .val (.int f11), .val (.int f12), .val (.int f13), .val (.int f14), .unset, .unset, .unset, .unset] [(.ref b1z)])) _
    refine own_go (fun t k => XS.astore X3z.here hx rfl (hb hby at_143) rfl rfl (l' := #[.val (.int p0), .val (.int p1), .val (.int p2), .val (.int p3), .val (.int (Int32.ofNat N)), .val (.int (Int32.ofNat a)), .val (.int (Int32.ofNat d)), .val (.int (Int32.ofNat b)), .val (.int ((Int32.ofNat a) + (1 : Int32))), .val (.int ((Int32.ofNat b) + (1 : Int32))), .val (.int f10), .val (.int f11), .val (.int f12), .val (.int f13), .val (.int f14), .val (.ref b1z), .unset, .unset, .unset]) rfl k) ?_
    refine own_go (fun t k => XS.aload X3z.here hx rfl (hb hby at_145) rfl rfl k) ?_
    refine own_go (fun t k => XS.iload X3z.here hx rfl (hb hby at_147) rfl k) ?_
    obtain ⟨cq5z, kq5z, qa5z, qb5z, qc5z⟩ := isOf hZ (rfl : T3z.heap = _) (A1z.keep K3zq)
    obtain ⟨_, _, ⟨T5z, L5z, k5z, n5z⟩, -, X5z, ⟨Lc5z, hQ5z, l5z, y5z, z5z⟩, st5z⟩ := X3z.virtualBack hx (y := own_m7) (z := own_m7) hown (own_mw hZ hw 30 rfl) (own_mw hZ hw 31 rfl) (notFace_of_selects (args := #[]) (own_mw hZ hw 33 rfl)) (own_mw hZ hw 33 rfl) (own_mw hZ hw 32 rfl) (by decide) (backOf (W := 0) (own_rq0 l Z a0 hw [] b1z N ((N + 63) / 64) A_3z K_3z rows_3z (fun _ _ => 0) (fun _ => .null) (fun _ => .null) (fun _ => 0) (fun _ => 0) (fun _ => 0) (0 : Int64) b1z a ((Int32.ofNat a) + (1 : Int32)) T3z.heap O4z r3z_0 r3z_1 fr_b1z hN (by omega) (fun i hi => by omega) r3z_2 r3z_3 r3z_4 (own_p1 haN hN) haN (fun j _ _ q => absurd (own_has0 _) q) rfl) hZ (own_hw hw 34 rfl) (own_hw hw 3 rfl) (by decide) (by decide)) qa5z qc5z (g := (mkF m 149 #[.val (.int p0), .val (.int p1), .val (.int p2), .val (.int p3), .val (.int (Int32.ofNat N)), .val (.int (Int32.ofNat a)), .val (.int (Int32.ofNat d)), .val (.int (Int32.ofNat b)), .val (.int ((Int32.ofNat a) + (1 : Int32))), .val (.int ((Int32.ofNat b) + (1 : Int32))), .val (.int f10), .val (.int f11), .val (.int f12), .val (.int f13), .val (.int f14), .val (.ref b1z), .unset, .unset, .unset] [(.int ((Int32.ofNat a) + (1 : Int32))), (.ref b1z)])) rfl (by rw [hml]; rfl) (Steps.refl _) (argsL := [(.int ((Int32.ofNat a) + (1 : Int32)))]) (rest := []) (lenOf pd_2087992021 rfl) rfl (by show 2 * 0 + _ ≤ _; exact Nat.le_of_eq rfl) (hb hby at_149) (fun _ _ => ⟨rfl, rfl, (by decide : 136 + 1 ≤ _), (by decide : 1043 + 3 ≤ _)⟩)
    dsimp only [Pt.U, Pt.locs, Pt.cells, Pt.slots] at X5z l5z y5z z5z st5z hQ5z
    subst l5z y5z z5z
    obtain ⟨np_5z, kp_5z, rfl, NQ5z, K5zq, r5z_0, r5z_1, r5z_2, r5z_3⟩ := hQ5z
    refine own_tr st5z ?_
    have N5z := Fr.app N3z NQ5z
    have O6z := own_ext_keep O4z K5zq (fun y hy => Nat.le_trans fr_b1z (own_D.all r3z_1 y hy))
    have K6z := K4z.trans K5zq (fun y hy => Or.inr (Nat.le_trans lz_b1z (own_D.all r3z_1 y hy)))
    have lz_np_5z : h0.size ≤ np_5z := Nat.le_trans K4z.1 r5z_1
    have ne_b1z_np_5z : b1z ≠ np_5z := Nat.ne_of_lt (Nat.lt_of_lt_of_le (A1z.keep K3zq).lt r5z_1)
    show own_G p e below (T5z.setTop (mkF m 152 #[.val (.int p0), .val (.int p1), .val (.int p2), .val (.int p3), .val (.int (Int32.ofNat N)), .val (.int (Int32.ofNat a)), .val (.int (Int32.ofNat d)), .val (.int (Int32.ofNat b)), .val (.int ((Int32.ofNat a) + (1 : Int32))), .val (.int ((Int32.ofNat b) + (1 : Int32))), .val (.int f10), .val (.int f11), .val (.int f12), .val (.int f13), .val (.int f14), .val (.ref b1z), .unset, .unset, .unset] [])) _
    have I7z : own_I Z T5z.heap b1z N ((N + 63) / 64) A_3z K_3z rows_3z (own_R1 a) (fun _ => .null) (own_upd (fun _ => .null) a (.ref np_5z)) (own_one a) (own_upd (fun _ => 0) a ((0 : Int64) + (1 : Int64))) (fun _ => 0) ((0 : Int64) + (1 : Int64)) := own_I.cast r5z_0 (own_rq1 a N) (own_or0 a)
    have V8z : own_L Z T5z.heap np_5z kp_5z ((N + 63) / 64) (fun _ => 0) := own_L.eqf r5z_3 (fun j _ => own_zero_and _)
    refine own_go (fun t k => XS.aload X5z.here hx rfl (hb hby at_152) rfl rfl k) ?_
    refine own_go (fun t k => XS.iload X5z.here hx rfl (hb hby at_154) rfl k) ?_
    obtain ⟨cq9z, kq9z, qa9z, qb9z, qc9z⟩ := isOf hZ (rfl : T5z.heap = _) ((A1z.keep K3zq).keep K5zq)
    obtain ⟨_, _, ⟨T9z, L9z, k9z, n9z⟩, -, X9z, ⟨Lc9z, hQ9z, l9z, y9z, z9z⟩, st9z⟩ := X5z.virtualBack hx (y := own_m8) (z := own_m8) hown (own_mw hZ hw 51 rfl) (own_mw hZ hw 52 rfl) (notFace_of_selects (args := #[]) (own_mw hZ hw 54 rfl)) (own_mw hZ hw 54 rfl) (own_mw hZ hw 53 rfl) (by decide) (backOf (W := 0) (own_sent l Z a0 hw [] b1z N ((N + 63) / 64) A_3z K_3z rows_3z (own_R1 a) (fun _ => .null) (own_upd (fun _ => .null) a (.ref np_5z)) (own_one a) (own_upd (fun _ => 0) a ((0 : Int64) + (1 : Int64))) (fun _ => 0) ((0 : Int64) + (1 : Int64)) b1z a ((Int32.ofNat a) + (1 : Int32)) T5z.heap O6z I7z r3z_1 fr_b1z hN (by omega) (fun i hi => by omega) r3z_2 r3z_3 r3z_4 (own_p1 haN hN) haN rfl) hZ (own_hw hw 55 rfl) (own_hw hw 3 rfl) (by decide) (by decide)) qa9z qc9z (g := (mkF m 156 #[.val (.int p0), .val (.int p1), .val (.int p2), .val (.int p3), .val (.int (Int32.ofNat N)), .val (.int (Int32.ofNat a)), .val (.int (Int32.ofNat d)), .val (.int (Int32.ofNat b)), .val (.int ((Int32.ofNat a) + (1 : Int32))), .val (.int ((Int32.ofNat b) + (1 : Int32))), .val (.int f10), .val (.int f11), .val (.int f12), .val (.int f13), .val (.int f14), .val (.ref b1z), .unset, .unset, .unset] [(.int ((Int32.ofNat a) + (1 : Int32))), (.ref b1z)])) rfl (by rw [hml]; rfl) (Steps.refl _) (argsL := [(.int ((Int32.ofNat a) + (1 : Int32)))]) (rest := []) (lenOf pd_3387817828 rfl) rfl (by show 2 * 0 + _ ≤ _; exact Nat.le_of_eq rfl) (hb hby at_156) (fun _ _ => ⟨rfl, rfl, (by decide : 137 + 1 ≤ _), (by decide : 1046 + 2 ≤ _)⟩)
    dsimp only [Pt.U, Pt.locs, Pt.cells, Pt.slots] at X9z l9z y9z z9z st9z hQ9z
    subst l9z y9z z9z
    obtain ⟨kn_9z, rfl, NQ9z, K9zq, r9z_0, r9z_1, r9z_2, r9z_3, r9z_4, r9z_5⟩ := hQ9z
    refine own_tr st9z ?_
    have N9z := Fr.app N5z NQ9z
    have O10z := own_ext_keep O6z K9zq (fun y hy => Nat.le_trans fr_b1z (own_D.all r3z_1 y hy))
    have K10z := K6z.trans K9zq (fun y hy => Or.inr (Nat.le_trans lz_b1z (own_D.all r3z_1 y hy)))
    have lz_kn_9z : h0.size ≤ kn_9z := Nat.le_trans K6z.1 r9z_1
    have ne_b1z_kn_9z : b1z ≠ kn_9z := Nat.ne_of_lt (Nat.lt_of_lt_of_le ((A1z.keep K3zq).keep K5zq).lt r9z_1)
    have ne_np_5z_kn_9z : np_5z ≠ kn_9z := Nat.ne_of_lt (Nat.lt_of_lt_of_le V8z.lt r9z_1)
    show own_G p e below (T9z.setTop (mkF m 159 #[.val (.int p0), .val (.int p1), .val (.int p2), .val (.int p3), .val (.int (Int32.ofNat N)), .val (.int (Int32.ofNat a)), .val (.int (Int32.ofNat d)), .val (.int (Int32.ofNat b)), .val (.int ((Int32.ofNat a) + (1 : Int32))), .val (.int ((Int32.ofNat b) + (1 : Int32))), .val (.int f10), .val (.int f11), .val (.int f12), .val (.int f13), .val (.int f14), .val (.ref b1z), .unset, .unset, .unset] [(.ref kn_9z)])) _
    have f11z := (((A1z.keep K3zq).keep K5zq).keep K9zq)
    have f12z := (V8z.keep K9zq r5z_2)
    refine own_go (fun t k => XS.astore X9z.here hx rfl (hb hby at_159) rfl rfl (l' := #[.val (.int p0), .val (.int p1), .val (.int p2), .val (.int p3), .val (.int (Int32.ofNat N)), .val (.int (Int32.ofNat a)), .val (.int (Int32.ofNat d)), .val (.int (Int32.ofNat b)), .val (.int ((Int32.ofNat a) + (1 : Int32))), .val (.int ((Int32.ofNat b) + (1 : Int32))), .val (.int f10), .val (.int f11), .val (.int f12), .val (.int f13), .val (.int f14), .val (.ref b1z), .val (.ref kn_9z), .unset, .unset]) rfl k) ?_
    refine own_go (fun t k => XS.iload X9z.here hx rfl (hb hby at_161) rfl k) ?_
    by_cases hc13z : f10 = (0 : Int32)
    · refine own_go (fun t k => XS.ifYes X9z.here hx rfl (pc0 := 163) (pc' := 175) rfl (hb hby at_163) rfl ((if0 _ _).trans (teq hc13z).1) (by decide) (by decide) k) ?_
      show own_G p e below (T9z.setTop (mkF m 175 #[.val (.int p0), .val (.int p1), .val (.int p2), .val (.int p3), .val (.int (Int32.ofNat N)), .val (.int (Int32.ofNat a)), .val (.int (Int32.ofNat d)), .val (.int (Int32.ofNat b)), .val (.int ((Int32.ofNat a) + (1 : Int32))), .val (.int ((Int32.ofNat b) + (1 : Int32))), .val (.int f10), .val (.int f11), .val (.int f12), .val (.int f13), .val (.int f14), .val (.ref b1z), .val (.ref kn_9z), .unset, .unset] [])) _
      refine own_go (fun t k => XS.iload X9z.here hx rfl (hb hby at_175) rfl k) ?_
      by_cases hc14z : f11 = (0 : Int32)
      · refine own_go (fun t k => XS.ifYes X9z.here hx rfl (pc0 := 177) (pc' := 188) rfl (hb hby at_177) rfl ((if0 _ _).trans (teq hc14z).1) (by decide) (by decide) k) ?_
        show own_G p e below (T9z.setTop (mkF m 188 #[.val (.int p0), .val (.int p1), .val (.int p2), .val (.int p3), .val (.int (Int32.ofNat N)), .val (.int (Int32.ofNat a)), .val (.int (Int32.ofNat d)), .val (.int (Int32.ofNat b)), .val (.int ((Int32.ofNat a) + (1 : Int32))), .val (.int ((Int32.ofNat b) + (1 : Int32))), .val (.int f10), .val (.int f11), .val (.int f12), .val (.int f13), .val (.int f14), .val (.ref b1z), .val (.ref kn_9z), .unset, .unset] [])) _
        refine own_go (fun t k => XS.iload X9z.here hx rfl (hb hby at_188) rfl k) ?_
        refine own_go (fun t k => XS.ifYes X9z.here hx rfl (pc0 := 190) (pc' := 200) rfl (hb hby at_190) rfl ((if0 _ _).trans (teq (g12 hc14z)).1) (by decide) (by decide) k) ?_
        show own_G p e below (T9z.setTop (mkF m 200 #[.val (.int p0), .val (.int p1), .val (.int p2), .val (.int p3), .val (.int (Int32.ofNat N)), .val (.int (Int32.ofNat a)), .val (.int (Int32.ofNat d)), .val (.int (Int32.ofNat b)), .val (.int ((Int32.ofNat a) + (1 : Int32))), .val (.int ((Int32.ofNat b) + (1 : Int32))), .val (.int f10), .val (.int f11), .val (.int f12), .val (.int f13), .val (.int f14), .val (.ref b1z), .val (.ref kn_9z), .unset, .unset] [])) _
        refine own_go (fun t k => XS.iload X9z.here hx rfl (hb hby at_200) rfl k) ?_
        by_cases hc15z : f13 = (0 : Int32)
        · refine own_go (fun t k => XS.ifYes X9z.here hx rfl (pc0 := 202) (pc' := 214) rfl (hb hby at_202) rfl ((if0 _ _).trans (teq hc15z).1) (by decide) (by decide) k) ?_
          show own_G p e below (T9z.setTop (mkF m 214 #[.val (.int p0), .val (.int p1), .val (.int p2), .val (.int p3), .val (.int (Int32.ofNat N)), .val (.int (Int32.ofNat a)), .val (.int (Int32.ofNat d)), .val (.int (Int32.ofNat b)), .val (.int ((Int32.ofNat a) + (1 : Int32))), .val (.int ((Int32.ofNat b) + (1 : Int32))), .val (.int f10), .val (.int f11), .val (.int f12), .val (.int f13), .val (.int f14), .val (.ref b1z), .val (.ref kn_9z), .unset, .unset] [])) _
          refine own_go (fun t k => XS.aload X9z.here hx rfl (hb hby at_214) rfl rfl k) ?_
          refine own_go (fun t k => XS.iload X9z.here hx rfl (hb hby at_216) rfl k) ?_
          obtain ⟨cq16z, kq16z, qa16z, qb16z, qc16z⟩ := isOf hZ (rfl : T9z.heap = _) f11z
          obtain ⟨_, _, ⟨T16z, L16z, k16z, n16z⟩, -, X16z, ⟨Lc16z, hQ16z, l16z, y16z, z16z⟩, st16z⟩ := X9z.virtualBack hx (y := own_m7) (z := own_m7) hown (own_mw hZ hw 30 rfl) (own_mw hZ hw 31 rfl) (notFace_of_selects (args := #[]) (own_mw hZ hw 33 rfl)) (own_mw hZ hw 33 rfl) (own_mw hZ hw 32 rfl) (by decide) (backOf (W := 0) (own_rq0 l Z a0 hw [] b1z N ((N + 63) / 64) A_3z K_3z rows_3z (own_R1 a) (own_upd (fun _ => .null) a (.ref kn_9z)) (own_upd (fun _ => .null) a (.ref np_5z)) (own_one a) (own_upd (fun _ => 0) a ((0 : Int64) + (1 : Int64))) (fun _ => 0) ((0 : Int64) + (1 : Int64)) b1z b ((Int32.ofNat b) + (1 : Int32)) T9z.heap O10z r9z_0 r3z_1 fr_b1z hN (by omega) (fun i hi => by omega) r3z_2 r3z_3 r3z_4 (own_p1 hbN hN) hbN (fun j _ _ q => absurd (own_hasR1 hab j) q) (own_upd_miss _ _ hba)) hZ (own_hw hw 34 rfl) (own_hw hw 3 rfl) (by decide) (by decide)) qa16z qc16z (g := (mkF m 218 #[.val (.int p0), .val (.int p1), .val (.int p2), .val (.int p3), .val (.int (Int32.ofNat N)), .val (.int (Int32.ofNat a)), .val (.int (Int32.ofNat d)), .val (.int (Int32.ofNat b)), .val (.int ((Int32.ofNat a) + (1 : Int32))), .val (.int ((Int32.ofNat b) + (1 : Int32))), .val (.int f10), .val (.int f11), .val (.int f12), .val (.int f13), .val (.int f14), .val (.ref b1z), .val (.ref kn_9z), .unset, .unset] [(.int ((Int32.ofNat b) + (1 : Int32))), (.ref b1z)])) rfl (by rw [hml]; rfl) (Steps.refl _) (argsL := [(.int ((Int32.ofNat b) + (1 : Int32)))]) (rest := []) (lenOf pd_2087992021 rfl) rfl (by show 2 * 0 + _ ≤ _; exact Nat.le_of_eq rfl) (hb hby at_218) (fun _ _ => ⟨rfl, rfl, (by decide : 138 + 1 ≤ _), (by decide : 1048 + 3 ≤ _)⟩)
          dsimp only [Pt.U, Pt.locs, Pt.cells, Pt.slots] at X16z l16z y16z z16z st16z hQ16z
          subst l16z y16z z16z
          obtain ⟨np_16z, kp_16z, rfl, NQ16z, K16zq, r16z_0, r16z_1, r16z_2, r16z_3⟩ := hQ16z
          refine own_tr st16z ?_
          have N16z := Fr.app N9z NQ16z
          have O17z := own_ext_keep O10z K16zq (fun y hy => Nat.le_trans fr_b1z (own_D.all r3z_1 y hy))
          have K17z := K10z.trans K16zq (fun y hy => Or.inr (Nat.le_trans lz_b1z (own_D.all r3z_1 y hy)))
          have lz_np_16z : h0.size ≤ np_16z := Nat.le_trans K10z.1 r16z_1
          have ne_b1z_np_16z : b1z ≠ np_16z := Nat.ne_of_lt (Nat.lt_of_lt_of_le f11z.lt r16z_1)
          have ne_np_5z_np_16z : np_5z ≠ np_16z := Nat.ne_of_lt (Nat.lt_of_lt_of_le f12z.lt r16z_1)
          have ne_kn_9z_np_16z : kn_9z ≠ np_16z := Nat.ne_of_lt (Nat.lt_of_lt_of_le r9z_3.lt r16z_1)
          show own_G p e below (T16z.setTop (mkF m 221 #[.val (.int p0), .val (.int p1), .val (.int p2), .val (.int p3), .val (.int (Int32.ofNat N)), .val (.int (Int32.ofNat a)), .val (.int (Int32.ofNat d)), .val (.int (Int32.ofNat b)), .val (.int ((Int32.ofNat a) + (1 : Int32))), .val (.int ((Int32.ofNat b) + (1 : Int32))), .val (.int f10), .val (.int f11), .val (.int f12), .val (.int f13), .val (.int f14), .val (.ref b1z), .val (.ref kn_9z), .unset, .unset] [])) _
          have f18z := (f11z.keep K16zq)
          have f19z := (f12z.keep K16zq r5z_2)
          have f20z := (r9z_3.keep K16zq)
          have f21z := (r9z_4.keep K16zq r9z_2)
          have f22z := (r9z_5.keep K16zq r9z_2)
          have V23z : own_L Z T16z.heap np_16z kp_16z ((N + 63) / 64) (fun _ => 0) := own_L.eqf r16z_3 (fun j _ => by rw [own_R1o hba]; exact own_zero_and _)
          refine own_go (fun t k => XS.iload X16z.here hx rfl (hb hby at_221) rfl k) ?_
          by_cases hc24z : f14 = (0 : Int32)
          · refine own_go (fun t k => XS.ifYes X16z.here hx rfl (pc0 := 223) (pc' := 234) rfl (hb hby at_223) rfl ((if0 _ _).trans (teq hc24z).1) (by decide) (by decide) k) ?_
            show own_G p e below (T16z.setTop (mkF m 234 #[.val (.int p0), .val (.int p1), .val (.int p2), .val (.int p3), .val (.int (Int32.ofNat N)), .val (.int (Int32.ofNat a)), .val (.int (Int32.ofNat d)), .val (.int (Int32.ofNat b)), .val (.int ((Int32.ofNat a) + (1 : Int32))), .val (.int ((Int32.ofNat b) + (1 : Int32))), .val (.int f10), .val (.int f11), .val (.int f12), .val (.int f13), .val (.int f14), .val (.ref b1z), .val (.ref kn_9z), .unset, .unset] [])) _
            refine own_go (fun t k => XS.aload X16z.here hx rfl (hb hby at_234) rfl rfl k) ?_
            refine own_go (fun t k => XS.iload X16z.here hx rfl (hb hby at_236) rfl k) ?_
            obtain ⟨cq25z, kq25z, qa25z, qb25z, qc25z⟩ := isOf hZ (rfl : T16z.heap = _) f18z
            obtain ⟨_, _, ⟨T25z, L25z, k25z, n25z⟩, -, X25z, ⟨Lc25z, hQ25z, l25z, y25z, z25z⟩, st25z⟩ := X16z.virtualBack hx (y := own_m10) (z := own_m10) hown (own_mw hZ hw 84 rfl) (own_mw hZ hw 85 rfl) (notFace_of_selects (args := #[]) (own_mw hZ hw 87 rfl)) (own_mw hZ hw 87 rfl) (own_mw hZ hw 86 rfl) (by decide) (backOf (W := 0) (own_en0 l Z a0 hw [] b1z N ((N + 63) / 64) A_3z K_3z rows_3z (own_upd (own_rcI (own_R1 a) b N) b (own_or ((own_R1 a) b) b)) (own_upd (fun _ => .null) a (.ref kn_9z)) (own_upd (own_upd (fun _ => .null) a (.ref np_5z)) b (.ref np_16z)) (own_or (own_one a) b) (own_upd (own_upd (fun _ => 0) a ((0 : Int64) + (1 : Int64))) b (((0 : Int64) + (1 : Int64)) + (1 : Int64))) (fun _ => 0) (((0 : Int64) + (1 : Int64)) + (1 : Int64)) b1z b ((Int32.ofNat b) + (1 : Int32)) np_16z kp_16z T16z.heap O17z r16z_0 r3z_1 fr_b1z hN (by omega) (fun i hi => by omega) r3z_2 r3z_3 r3z_4 (own_p1 hbN hN) hbN (own_upd_hit _ _ _) V23z r16z_2) hZ (own_hw hw 88 rfl) (own_hw hw 3 rfl) (by decide) (by decide)) qa25z qc25z (g := (mkF m 238 #[.val (.int p0), .val (.int p1), .val (.int p2), .val (.int p3), .val (.int (Int32.ofNat N)), .val (.int (Int32.ofNat a)), .val (.int (Int32.ofNat d)), .val (.int (Int32.ofNat b)), .val (.int ((Int32.ofNat a) + (1 : Int32))), .val (.int ((Int32.ofNat b) + (1 : Int32))), .val (.int f10), .val (.int f11), .val (.int f12), .val (.int f13), .val (.int f14), .val (.ref b1z), .val (.ref kn_9z), .unset, .unset] [(.int ((Int32.ofNat b) + (1 : Int32))), (.ref b1z)])) rfl (by rw [hml]; rfl) (Steps.refl _) (argsL := [(.int ((Int32.ofNat b) + (1 : Int32)))]) (rest := []) (lenOf pd_2087992008 rfl) rfl (by show 2 * 0 + _ ≤ _; exact Nat.le_of_eq rfl) (hb hby at_238) (fun _ _ => ⟨rfl, rfl, (by decide : 139 + 0 ≤ _), (by decide : 1051 + 0 ≤ _)⟩)
            dsimp only [Pt.U, Pt.locs, Pt.cells, Pt.slots] at X25z l25z y25z z25z st25z hQ25z
            subst l25z y25z z25z
            obtain ⟨rfl, NQ25z, K25zq, r25z_0⟩ := hQ25z
            refine own_tr st25z ?_
            have N25z := Fr.app N16z NQ25z
            have O26z := own_ext_keep O17z K25zq (fun y hy => Nat.le_trans fr_b1z (own_D.all r3z_1 y hy))
            have K26z := K17z.trans K25zq (fun y hy => Or.inr (Nat.le_trans lz_b1z (own_D.all r3z_1 y hy)))
            show own_G p e below (T25z.setTop (mkF m 241 #[.val (.int p0), .val (.int p1), .val (.int p2), .val (.int p3), .val (.int (Int32.ofNat N)), .val (.int (Int32.ofNat a)), .val (.int (Int32.ofNat d)), .val (.int (Int32.ofNat b)), .val (.int ((Int32.ofNat a) + (1 : Int32))), .val (.int ((Int32.ofNat b) + (1 : Int32))), .val (.int f10), .val (.int f11), .val (.int f12), .val (.int f13), .val (.int f14), .val (.ref b1z), .val (.ref kn_9z), .unset, .unset] [(.int (0 : Int32))])) _
            refine own_go (fun t k => XS.istore X25z.here hx rfl (hb hby at_241) rfl (l' := #[.val (.int p0), .val (.int p1), .val (.int p2), .val (.int p3), .val (.int (Int32.ofNat N)), .val (.int (Int32.ofNat a)), .val (.int (Int32.ofNat d)), .val (.int (Int32.ofNat b)), .val (.int ((Int32.ofNat a) + (1 : Int32))), .val (.int ((Int32.ofNat b) + (1 : Int32))), .val (.int f10), .val (.int f11), .val (.int f12), .val (.int f13), .val (.int f14), .val (.ref b1z), .val (.ref kn_9z), .val (.int (0 : Int32)), .unset]) rfl k) ?_
            refine own_go (fun t k => XS.iload X25z.here hx rfl (hb hby at_243) rfl k) ?_
            refine own_go (fun t k => XS.ifNo X25z.here hx rfl (hb hby at_245) rfl ((if0 _ _).trans (teq hc13z).2) k) ?_
            show own_G p e below (T25z.setTop (mkF m 248 #[.val (.int p0), .val (.int p1), .val (.int p2), .val (.int p3), .val (.int (Int32.ofNat N)), .val (.int (Int32.ofNat a)), .val (.int (Int32.ofNat d)), .val (.int (Int32.ofNat b)), .val (.int ((Int32.ofNat a) + (1 : Int32))), .val (.int ((Int32.ofNat b) + (1 : Int32))), .val (.int f10), .val (.int f11), .val (.int f12), .val (.int f13), .val (.int f14), .val (.ref b1z), .val (.ref kn_9z), .val (.int (0 : Int32)), .unset] [])) _
            refine own_go (fun t k => XS.iload X25z.here hx rfl (hb hby at_248) rfl k) ?_
            refine own_go (fun t k => XS.ifYes X25z.here hx rfl (pc0 := 250) (pc' := 267) rfl (hb hby at_250) rfl ((if0 _ _).trans (teq hc15z).1) (by decide) (by decide) k) ?_
            show own_G p e below (T25z.setTop (mkF m 267 #[.val (.int p0), .val (.int p1), .val (.int p2), .val (.int p3), .val (.int (Int32.ofNat N)), .val (.int (Int32.ofNat a)), .val (.int (Int32.ofNat d)), .val (.int (Int32.ofNat b)), .val (.int ((Int32.ofNat a) + (1 : Int32))), .val (.int ((Int32.ofNat b) + (1 : Int32))), .val (.int f10), .val (.int f11), .val (.int f12), .val (.int f13), .val (.int f14), .val (.ref b1z), .val (.ref kn_9z), .val (.int (0 : Int32)), .unset] [])) _
            refine own_go (fun t k => XS.iconst X25z.here hx rfl (hb hby at_267) k) ?_
            refine own_go (fun t k => XS.istore X25z.here hx rfl (hb hby at_268) rfl (l' := #[.val (.int p0), .val (.int p1), .val (.int p2), .val (.int p3), .val (.int (Int32.ofNat N)), .val (.int (Int32.ofNat a)), .val (.int (Int32.ofNat d)), .val (.int (Int32.ofNat b)), .val (.int ((Int32.ofNat a) + (1 : Int32))), .val (.int ((Int32.ofNat b) + (1 : Int32))), .val (.int f10), .val (.int f11), .val (.int f12), .val (.int f13), .val (.int f14), .val (.ref b1z), .val (.ref kn_9z), .val (.int (0 : Int32)), .val (.int (0 : Int32))]) rfl k) ?_
            refine own_go (fun t k => XS.iload X25z.here hx rfl (hb hby at_270) rfl k) ?_
            refine own_go (fun t k => XS.iload X25z.here hx rfl (hb hby at_272) rfl k) ?_
            show own_G p e below (T25z.setTop (mkF m 274 #[.val (.int p0), .val (.int p1), .val (.int p2), .val (.int p3), .val (.int (Int32.ofNat N)), .val (.int (Int32.ofNat a)), .val (.int (Int32.ofNat d)), .val (.int (Int32.ofNat b)), .val (.int ((Int32.ofNat a) + (1 : Int32))), .val (.int ((Int32.ofNat b) + (1 : Int32))), .val (.int f10), .val (.int f11), .val (.int f12), .val (.int f13), .val (.int f14), .val (.ref b1z), .val (.ref kn_9z), .val (.int (0 : Int32)), .val (.int (0 : Int32))] [(.int (0 : Int32)), (.int (0 : Int32))])) _
            refine own_go (fun t k => XS.icmpNo X25z.here hx rfl (hb hby at_274) rfl (teq (by decide : (0 : Int32) = (0 : Int32))).2 k) ?_
            show own_G p e below (T25z.setTop (mkF m 277 #[.val (.int p0), .val (.int p1), .val (.int p2), .val (.int p3), .val (.int (Int32.ofNat N)), .val (.int (Int32.ofNat a)), .val (.int (Int32.ofNat d)), .val (.int (Int32.ofNat b)), .val (.int ((Int32.ofNat a) + (1 : Int32))), .val (.int ((Int32.ofNat b) + (1 : Int32))), .val (.int f10), .val (.int f11), .val (.int f12), .val (.int f13), .val (.int f14), .val (.ref b1z), .val (.ref kn_9z), .val (.int (0 : Int32)), .val (.int (0 : Int32))] [])) _
            refine own_go (fun t k => XS.iconst X25z.here hx rfl (hb hby at_277) k) ?_
            refine own_go (fun t k => XS.goto X25z.here hx rfl (pc0 := 278) (pc' := 282) rfl (hb hby at_278) (by decide) (by decide) k) ?_
            show own_G p e below (T25z.setTop (mkF m 282 #[.val (.int p0), .val (.int p1), .val (.int p2), .val (.int p3), .val (.int (Int32.ofNat N)), .val (.int (Int32.ofNat a)), .val (.int (Int32.ofNat d)), .val (.int (Int32.ofNat b)), .val (.int ((Int32.ofNat a) + (1 : Int32))), .val (.int ((Int32.ofNat b) + (1 : Int32))), .val (.int f10), .val (.int f11), .val (.int f12), .val (.int f13), .val (.int f14), .val (.ref b1z), .val (.ref kn_9z), .val (.int (0 : Int32)), .val (.int (0 : Int32))] [(.int (1 : Int32))])) _
            exact own_ret X25z hx Bd.returns rfl (Or.inl ⟨rfl, Or.inr (Or.inl rfl), _, rfl⟩) (hb hby at_282) hlk (Nat.le_of_ble_eq_true rfl) (Nat.le_of_ble_eq_true rfl) (by show Q_own_law Z p0 p1 p2 p3 h0 _ T25z.heap _; exact ⟨rfl, N25z, K26z⟩)
          · refine own_go (fun t k => XS.ifNo X16z.here hx rfl (hb hby at_223) rfl ((if0 _ _).trans (feq hc24z).1) k) ?_
            show own_G p e below (T16z.setTop (mkF m 226 #[.val (.int p0), .val (.int p1), .val (.int p2), .val (.int p3), .val (.int (Int32.ofNat N)), .val (.int (Int32.ofNat a)), .val (.int (Int32.ofNat d)), .val (.int (Int32.ofNat b)), .val (.int ((Int32.ofNat a) + (1 : Int32))), .val (.int ((Int32.ofNat b) + (1 : Int32))), .val (.int f10), .val (.int f11), .val (.int f12), .val (.int f13), .val (.int f14), .val (.ref b1z), .val (.ref kn_9z), .unset, .unset] [])) _
            refine own_go (fun t k => XS.aload X16z.here hx rfl (hb hby at_226) rfl rfl k) ?_
            refine own_go (fun t k => XS.iload X16z.here hx rfl (hb hby at_228) rfl k) ?_
            obtain ⟨cq27z, kq27z, qa27z, qb27z, qc27z⟩ := isOf hZ (rfl : T16z.heap = _) f18z
            obtain ⟨_, _, ⟨T27z, L27z, k27z, n27z⟩, -, X27z, ⟨Lc27z, hQ27z, l27z, y27z, z27z⟩, st27z⟩ := X16z.virtualBack hx (y := own_m10) (z := own_m10) hown (own_mw hZ hw 84 rfl) (own_mw hZ hw 85 rfl) (notFace_of_selects (args := #[]) (own_mw hZ hw 87 rfl)) (own_mw hZ hw 87 rfl) (own_mw hZ hw 86 rfl) (by decide) (backOf (W := 0) (own_en0 l Z a0 hw [] b1z N ((N + 63) / 64) A_3z K_3z rows_3z (own_upd (own_rcI (own_R1 a) b N) b (own_or ((own_R1 a) b) b)) (own_upd (fun _ => .null) a (.ref kn_9z)) (own_upd (own_upd (fun _ => .null) a (.ref np_5z)) b (.ref np_16z)) (own_or (own_one a) b) (own_upd (own_upd (fun _ => 0) a ((0 : Int64) + (1 : Int64))) b (((0 : Int64) + (1 : Int64)) + (1 : Int64))) (fun _ => 0) (((0 : Int64) + (1 : Int64)) + (1 : Int64)) b1z a ((Int32.ofNat a) + (1 : Int32)) np_5z kp_5z T16z.heap O17z r16z_0 r3z_1 fr_b1z hN (by omega) (fun i hi => by omega) r3z_2 r3z_3 r3z_4 (own_p1 haN hN) haN ((own_upd_miss _ _ hab).trans (own_upd_hit _ _ _)) f19z r5z_2) hZ (own_hw hw 88 rfl) (own_hw hw 3 rfl) (by decide) (by decide)) qa27z qc27z (g := (mkF m 230 #[.val (.int p0), .val (.int p1), .val (.int p2), .val (.int p3), .val (.int (Int32.ofNat N)), .val (.int (Int32.ofNat a)), .val (.int (Int32.ofNat d)), .val (.int (Int32.ofNat b)), .val (.int ((Int32.ofNat a) + (1 : Int32))), .val (.int ((Int32.ofNat b) + (1 : Int32))), .val (.int f10), .val (.int f11), .val (.int f12), .val (.int f13), .val (.int f14), .val (.ref b1z), .val (.ref kn_9z), .unset, .unset] [(.int ((Int32.ofNat a) + (1 : Int32))), (.ref b1z)])) rfl (by rw [hml]; rfl) (Steps.refl _) (argsL := [(.int ((Int32.ofNat a) + (1 : Int32)))]) (rest := []) (lenOf pd_2087992008 rfl) rfl (by show 2 * 0 + _ ≤ _; exact Nat.le_of_eq rfl) (hb hby at_230) (fun _ _ => ⟨rfl, rfl, (by decide : 139 + 0 ≤ _), (by decide : 1051 + 0 ≤ _)⟩)
            dsimp only [Pt.U, Pt.locs, Pt.cells, Pt.slots] at X27z l27z y27z z27z st27z hQ27z
            subst l27z y27z z27z
            obtain ⟨rfl, NQ27z, K27zq, r27z_0⟩ := hQ27z
            refine own_tr st27z ?_
            have N27z := Fr.app N16z NQ27z
            have O28z := own_ext_keep O17z K27zq (fun y hy => Nat.le_trans fr_b1z (own_D.all r3z_1 y hy))
            have K28z := K17z.trans K27zq (fun y hy => Or.inr (Nat.le_trans lz_b1z (own_D.all r3z_1 y hy)))
            show own_G p e below (T27z.setTop (mkF m 233 #[.val (.int p0), .val (.int p1), .val (.int p2), .val (.int p3), .val (.int (Int32.ofNat N)), .val (.int (Int32.ofNat a)), .val (.int (Int32.ofNat d)), .val (.int (Int32.ofNat b)), .val (.int ((Int32.ofNat a) + (1 : Int32))), .val (.int ((Int32.ofNat b) + (1 : Int32))), .val (.int f10), .val (.int f11), .val (.int f12), .val (.int f13), .val (.int f14), .val (.ref b1z), .val (.ref kn_9z), .unset, .unset] [(.int (0 : Int32))])) _
            have f29z := (f18z.keep K27zq)
            have f30z := (f19z.keep K27zq r5z_2)
            have f31z := (f20z.keep K27zq)
            have f32z := (f21z.keep K27zq r9z_2)
            have f33z := (f22z.keep K27zq r9z_2)
            have f34z := (V23z.keep K27zq r16z_2)
            refine own_go (fun t k => XS.pop X27z.here hx rfl (hb hby at_233) rfl rfl k) ?_
            refine own_go (fun t k => XS.aload X27z.here hx rfl (hb hby at_234) rfl rfl k) ?_
            refine own_go (fun t k => XS.iload X27z.here hx rfl (hb hby at_236) rfl k) ?_
            obtain ⟨cq35z, kq35z, qa35z, qb35z, qc35z⟩ := isOf hZ (rfl : T27z.heap = _) f29z
            obtain ⟨_, _, ⟨T35z, L35z, k35z, n35z⟩, -, X35z, ⟨Lc35z, hQ35z, l35z, y35z, z35z⟩, st35z⟩ := X27z.virtualBack hx (y := own_m10) (z := own_m10) hown (own_mw hZ hw 84 rfl) (own_mw hZ hw 85 rfl) (notFace_of_selects (args := #[]) (own_mw hZ hw 87 rfl)) (own_mw hZ hw 87 rfl) (own_mw hZ hw 86 rfl) (by decide) (backOf (W := 0) (own_en0 l Z a0 hw [] b1z N ((N + 63) / 64) A_3z K_3z rows_3z (own_upd (own_rcI (own_R1 a) b N) b (own_or ((own_R1 a) b) b)) (own_upd (fun _ => .null) a (.ref kn_9z)) (own_upd (own_upd (own_upd (fun _ => .null) a (.ref np_5z)) b (.ref np_16z)) a .null) (own_clr (own_or (own_one a) b) a) (own_upd (own_upd (fun _ => 0) a ((0 : Int64) + (1 : Int64))) b (((0 : Int64) + (1 : Int64)) + (1 : Int64))) (own_upd (fun _ => 0) a ((((0 : Int64) + (1 : Int64)) + (1 : Int64)) + (1 : Int64))) ((((0 : Int64) + (1 : Int64)) + (1 : Int64)) + (1 : Int64)) b1z b ((Int32.ofNat b) + (1 : Int32)) np_16z kp_16z T27z.heap O28z r27z_0 r3z_1 fr_b1z hN (by omega) (fun i hi => by omega) r3z_2 r3z_3 r3z_4 (own_p1 hbN hN) hbN ((own_upd_miss _ _ hba).trans (own_upd_hit _ _ _)) f34z r16z_2) hZ (own_hw hw 88 rfl) (own_hw hw 3 rfl) (by decide) (by decide)) qa35z qc35z (g := (mkF m 238 #[.val (.int p0), .val (.int p1), .val (.int p2), .val (.int p3), .val (.int (Int32.ofNat N)), .val (.int (Int32.ofNat a)), .val (.int (Int32.ofNat d)), .val (.int (Int32.ofNat b)), .val (.int ((Int32.ofNat a) + (1 : Int32))), .val (.int ((Int32.ofNat b) + (1 : Int32))), .val (.int f10), .val (.int f11), .val (.int f12), .val (.int f13), .val (.int f14), .val (.ref b1z), .val (.ref kn_9z), .unset, .unset] [(.int ((Int32.ofNat b) + (1 : Int32))), (.ref b1z)])) rfl (by rw [hml]; rfl) (Steps.refl _) (argsL := [(.int ((Int32.ofNat b) + (1 : Int32)))]) (rest := []) (lenOf pd_2087992008 rfl) rfl (by show 2 * 0 + _ ≤ _; exact Nat.le_of_eq rfl) (hb hby at_238) (fun _ _ => ⟨rfl, rfl, (by decide : 139 + 0 ≤ _), (by decide : 1051 + 0 ≤ _)⟩)
            dsimp only [Pt.U, Pt.locs, Pt.cells, Pt.slots] at X35z l35z y35z z35z st35z hQ35z
            subst l35z y35z z35z
            obtain ⟨rfl, NQ35z, K35zq, r35z_0⟩ := hQ35z
            refine own_tr st35z ?_
            have N35z := Fr.app N27z NQ35z
            have O36z := own_ext_keep O28z K35zq (fun y hy => Nat.le_trans fr_b1z (own_D.all r3z_1 y hy))
            have K36z := K28z.trans K35zq (fun y hy => Or.inr (Nat.le_trans lz_b1z (own_D.all r3z_1 y hy)))
            show own_G p e below (T35z.setTop (mkF m 241 #[.val (.int p0), .val (.int p1), .val (.int p2), .val (.int p3), .val (.int (Int32.ofNat N)), .val (.int (Int32.ofNat a)), .val (.int (Int32.ofNat d)), .val (.int (Int32.ofNat b)), .val (.int ((Int32.ofNat a) + (1 : Int32))), .val (.int ((Int32.ofNat b) + (1 : Int32))), .val (.int f10), .val (.int f11), .val (.int f12), .val (.int f13), .val (.int f14), .val (.ref b1z), .val (.ref kn_9z), .unset, .unset] [(.int (0 : Int32))])) _
            refine own_go (fun t k => XS.istore X35z.here hx rfl (hb hby at_241) rfl (l' := #[.val (.int p0), .val (.int p1), .val (.int p2), .val (.int p3), .val (.int (Int32.ofNat N)), .val (.int (Int32.ofNat a)), .val (.int (Int32.ofNat d)), .val (.int (Int32.ofNat b)), .val (.int ((Int32.ofNat a) + (1 : Int32))), .val (.int ((Int32.ofNat b) + (1 : Int32))), .val (.int f10), .val (.int f11), .val (.int f12), .val (.int f13), .val (.int f14), .val (.ref b1z), .val (.ref kn_9z), .val (.int (0 : Int32)), .unset]) rfl k) ?_
            refine own_go (fun t k => XS.iload X35z.here hx rfl (hb hby at_243) rfl k) ?_
            refine own_go (fun t k => XS.ifNo X35z.here hx rfl (hb hby at_245) rfl ((if0 _ _).trans (teq hc13z).2) k) ?_
            show own_G p e below (T35z.setTop (mkF m 248 #[.val (.int p0), .val (.int p1), .val (.int p2), .val (.int p3), .val (.int (Int32.ofNat N)), .val (.int (Int32.ofNat a)), .val (.int (Int32.ofNat d)), .val (.int (Int32.ofNat b)), .val (.int ((Int32.ofNat a) + (1 : Int32))), .val (.int ((Int32.ofNat b) + (1 : Int32))), .val (.int f10), .val (.int f11), .val (.int f12), .val (.int f13), .val (.int f14), .val (.ref b1z), .val (.ref kn_9z), .val (.int (0 : Int32)), .unset] [])) _
            refine own_go (fun t k => XS.iload X35z.here hx rfl (hb hby at_248) rfl k) ?_
            refine own_go (fun t k => XS.ifYes X35z.here hx rfl (pc0 := 250) (pc' := 267) rfl (hb hby at_250) rfl ((if0 _ _).trans (teq hc15z).1) (by decide) (by decide) k) ?_
            show own_G p e below (T35z.setTop (mkF m 267 #[.val (.int p0), .val (.int p1), .val (.int p2), .val (.int p3), .val (.int (Int32.ofNat N)), .val (.int (Int32.ofNat a)), .val (.int (Int32.ofNat d)), .val (.int (Int32.ofNat b)), .val (.int ((Int32.ofNat a) + (1 : Int32))), .val (.int ((Int32.ofNat b) + (1 : Int32))), .val (.int f10), .val (.int f11), .val (.int f12), .val (.int f13), .val (.int f14), .val (.ref b1z), .val (.ref kn_9z), .val (.int (0 : Int32)), .unset] [])) _
            refine own_go (fun t k => XS.iconst X35z.here hx rfl (hb hby at_267) k) ?_
            refine own_go (fun t k => XS.istore X35z.here hx rfl (hb hby at_268) rfl (l' := #[.val (.int p0), .val (.int p1), .val (.int p2), .val (.int p3), .val (.int (Int32.ofNat N)), .val (.int (Int32.ofNat a)), .val (.int (Int32.ofNat d)), .val (.int (Int32.ofNat b)), .val (.int ((Int32.ofNat a) + (1 : Int32))), .val (.int ((Int32.ofNat b) + (1 : Int32))), .val (.int f10), .val (.int f11), .val (.int f12), .val (.int f13), .val (.int f14), .val (.ref b1z), .val (.ref kn_9z), .val (.int (0 : Int32)), .val (.int (0 : Int32))]) rfl k) ?_
            refine own_go (fun t k => XS.iload X35z.here hx rfl (hb hby at_270) rfl k) ?_
            refine own_go (fun t k => XS.iload X35z.here hx rfl (hb hby at_272) rfl k) ?_
            show own_G p e below (T35z.setTop (mkF m 274 #[.val (.int p0), .val (.int p1), .val (.int p2), .val (.int p3), .val (.int (Int32.ofNat N)), .val (.int (Int32.ofNat a)), .val (.int (Int32.ofNat d)), .val (.int (Int32.ofNat b)), .val (.int ((Int32.ofNat a) + (1 : Int32))), .val (.int ((Int32.ofNat b) + (1 : Int32))), .val (.int f10), .val (.int f11), .val (.int f12), .val (.int f13), .val (.int f14), .val (.ref b1z), .val (.ref kn_9z), .val (.int (0 : Int32)), .val (.int (0 : Int32))] [(.int (0 : Int32)), (.int (0 : Int32))])) _
            refine own_go (fun t k => XS.icmpNo X35z.here hx rfl (hb hby at_274) rfl (teq (by decide : (0 : Int32) = (0 : Int32))).2 k) ?_
            show own_G p e below (T35z.setTop (mkF m 277 #[.val (.int p0), .val (.int p1), .val (.int p2), .val (.int p3), .val (.int (Int32.ofNat N)), .val (.int (Int32.ofNat a)), .val (.int (Int32.ofNat d)), .val (.int (Int32.ofNat b)), .val (.int ((Int32.ofNat a) + (1 : Int32))), .val (.int ((Int32.ofNat b) + (1 : Int32))), .val (.int f10), .val (.int f11), .val (.int f12), .val (.int f13), .val (.int f14), .val (.ref b1z), .val (.ref kn_9z), .val (.int (0 : Int32)), .val (.int (0 : Int32))] [])) _
            refine own_go (fun t k => XS.iconst X35z.here hx rfl (hb hby at_277) k) ?_
            refine own_go (fun t k => XS.goto X35z.here hx rfl (pc0 := 278) (pc' := 282) rfl (hb hby at_278) (by decide) (by decide) k) ?_
            show own_G p e below (T35z.setTop (mkF m 282 #[.val (.int p0), .val (.int p1), .val (.int p2), .val (.int p3), .val (.int (Int32.ofNat N)), .val (.int (Int32.ofNat a)), .val (.int (Int32.ofNat d)), .val (.int (Int32.ofNat b)), .val (.int ((Int32.ofNat a) + (1 : Int32))), .val (.int ((Int32.ofNat b) + (1 : Int32))), .val (.int f10), .val (.int f11), .val (.int f12), .val (.int f13), .val (.int f14), .val (.ref b1z), .val (.ref kn_9z), .val (.int (0 : Int32)), .val (.int (0 : Int32))] [(.int (1 : Int32))])) _
            exact own_ret X35z hx Bd.returns rfl (Or.inl ⟨rfl, Or.inr (Or.inl rfl), _, rfl⟩) (hb hby at_282) hlk (Nat.le_of_ble_eq_true rfl) (Nat.le_of_ble_eq_true rfl) (by show Q_own_law Z p0 p1 p2 p3 h0 _ T35z.heap _; exact ⟨rfl, N35z, K36z⟩)
        · refine own_go (fun t k => XS.ifNo X9z.here hx rfl (hb hby at_202) rfl ((if0 _ _).trans (feq hc15z).1) k) ?_
          show own_G p e below (T9z.setTop (mkF m 205 #[.val (.int p0), .val (.int p1), .val (.int p2), .val (.int p3), .val (.int (Int32.ofNat N)), .val (.int (Int32.ofNat a)), .val (.int (Int32.ofNat d)), .val (.int (Int32.ofNat b)), .val (.int ((Int32.ofNat a) + (1 : Int32))), .val (.int ((Int32.ofNat b) + (1 : Int32))), .val (.int f10), .val (.int f11), .val (.int f12), .val (.int f13), .val (.int f14), .val (.ref b1z), .val (.ref kn_9z), .unset, .unset] [])) _
          refine own_go (fun t k => XS.aload X9z.here hx rfl (hb hby at_205) rfl rfl k) ?_
          refine own_go (fun t k => XS.iload X9z.here hx rfl (hb hby at_207) rfl k) ?_
          refine own_go (fun t k => XS.aload X9z.here hx rfl (hb hby at_209) rfl rfl k) ?_
          have V37z : own_L Z T9z.heap (rows_3z a) (K_3z 6) ((N + 63) / 64) (own_one a) := by have t := (r9z_0.2.2.2.2.2.2.2.2.2.2.2.2.2.2.2 a haN).1; rw [own_R1a] at t; exact t
          obtain ⟨cq38z, kq38z, qa38z, qb38z, qc38z⟩ := isOf hZ (rfl : T9z.heap = _) f11z
          obtain ⟨_, _, ⟨T38z, L38z, k38z, n38z⟩, -, X38z, ⟨Lc38z, hQ38z, l38z, y38z, z38z⟩, st38z⟩ := X9z.virtualBack hx (y := own_m9) (z := own_m9) hown (own_mw hZ hw 67 rfl) (own_mw hZ hw 68 rfl) (notFace_of_selects (args := #[]) (own_mw hZ hw 70 rfl)) (own_mw hZ hw 70 rfl) (own_mw hZ hw 69 rfl) (by decide) (backOf (W := 0) (own_rc1 l Z a0 hw [] b1z N ((N + 63) / 64) A_3z K_3z rows_3z (own_R1 a) (own_upd (fun _ => .null) a (.ref kn_9z)) (own_upd (fun _ => .null) a (.ref np_5z)) (own_one a) (own_upd (fun _ => 0) a ((0 : Int64) + (1 : Int64))) (fun _ => 0) ((0 : Int64) + (1 : Int64)) b1z b ((Int32.ofNat b) + (1 : Int32)) kn_9z a (rows_3z a) (K_3z 6) ((0 : Int64) + (1 : Int64)) T9z.heap O10z r9z_0 r3z_1 fr_b1z hN (by omega) (fun i hi => by omega) r3z_2 r3z_3 r3z_4 (own_p1 hbN hN) hbN haN r9z_4 r9z_5 V37z (fun j => congrFun (own_R1o hba) j) (own_upd_miss _ _ hba) r9z_2 (r3z_1.2.2.2.2 a b haN hbN hab) (by rw [own_upd_hit]; decide)) hZ (own_hw hw 71 rfl) (own_hw hw 3 rfl) (by decide) (by decide)) qa38z qc38z (g := (mkF m 211 #[.val (.int p0), .val (.int p1), .val (.int p2), .val (.int p3), .val (.int (Int32.ofNat N)), .val (.int (Int32.ofNat a)), .val (.int (Int32.ofNat d)), .val (.int (Int32.ofNat b)), .val (.int ((Int32.ofNat a) + (1 : Int32))), .val (.int ((Int32.ofNat b) + (1 : Int32))), .val (.int f10), .val (.int f11), .val (.int f12), .val (.int f13), .val (.int f14), .val (.ref b1z), .val (.ref kn_9z), .unset, .unset] [(.ref kn_9z), (.int ((Int32.ofNat b) + (1 : Int32))), (.ref b1z)])) rfl (by rw [hml]; rfl) (Steps.refl _) (argsL := [(.int ((Int32.ofNat b) + (1 : Int32))), (.ref kn_9z)]) (rest := []) (lenOf pd_1040280026 rfl) rfl (by show 2 * 0 + _ ≤ _; exact Nat.le_of_eq rfl) (hb hby at_211) (fun _ _ => ⟨rfl, rfl, (by decide : 138 + 0 ≤ _), (by decide : 1048 + 0 ≤ _)⟩)
          dsimp only [Pt.U, Pt.locs, Pt.cells, Pt.slots] at X38z l38z y38z z38z st38z hQ38z
          subst l38z y38z z38z
          obtain ⟨rfl, NQ38z, K38zq, r38z_0⟩ := hQ38z
          refine own_tr st38z ?_
          have N38z := Fr.app N9z NQ38z
          have O39z := own_ext_keep O10z K38zq (fun y hy => Nat.le_trans fr_b1z (own_D.all r3z_1 y hy))
          have K39z := K10z.trans K38zq (fun y hy => Or.inr (Nat.le_trans lz_b1z (own_D.all r3z_1 y hy)))
          show own_G p e below (T38z.setTop (mkF m 214 #[.val (.int p0), .val (.int p1), .val (.int p2), .val (.int p3), .val (.int (Int32.ofNat N)), .val (.int (Int32.ofNat a)), .val (.int (Int32.ofNat d)), .val (.int (Int32.ofNat b)), .val (.int ((Int32.ofNat a) + (1 : Int32))), .val (.int ((Int32.ofNat b) + (1 : Int32))), .val (.int f10), .val (.int f11), .val (.int f12), .val (.int f13), .val (.int f14), .val (.ref b1z), .val (.ref kn_9z), .unset, .unset] [])) _
          have f40z := (f11z.keep K38zq)
          have f41z := (f12z.keep K38zq r5z_2)
          have f42z := (r9z_3.keep K38zq)
          have f43z := (r9z_4.keep K38zq r9z_2)
          have f44z := (r9z_5.keep K38zq r9z_2)
          have I45z : own_I Z T38z.heap b1z N ((N + 63) / 64) A_3z K_3z rows_3z (own_R2 a b) (own_upd (fun _ => .null) a (.ref kn_9z)) (own_upd (fun _ => .null) a (.ref np_5z)) (own_one a) (own_upd (fun _ => 0) a ((0 : Int64) + (1 : Int64))) (fun _ => 0) ((0 : Int64) + (1 : Int64)) := own_I.cast r38z_0 rfl rfl
          refine own_go (fun t k => XS.aload X38z.here hx rfl (hb hby at_214) rfl rfl k) ?_
          refine own_go (fun t k => XS.iload X38z.here hx rfl (hb hby at_216) rfl k) ?_
          obtain ⟨cq46z, kq46z, qa46z, qb46z, qc46z⟩ := isOf hZ (rfl : T38z.heap = _) f40z
          obtain ⟨_, _, ⟨T46z, L46z, k46z, n46z⟩, -, X46z, ⟨Lc46z, hQ46z, l46z, y46z, z46z⟩, st46z⟩ := X38z.virtualBack hx (y := own_m7) (z := own_m7) hown (own_mw hZ hw 30 rfl) (own_mw hZ hw 31 rfl) (notFace_of_selects (args := #[]) (own_mw hZ hw 33 rfl)) (own_mw hZ hw 33 rfl) (own_mw hZ hw 32 rfl) (by decide) (backOf (W := 0) (own_rq0 l Z a0 hw [] b1z N ((N + 63) / 64) A_3z K_3z rows_3z (own_R2 a b) (own_upd (fun _ => .null) a (.ref kn_9z)) (own_upd (fun _ => .null) a (.ref np_5z)) (own_one a) (own_upd (fun _ => 0) a ((0 : Int64) + (1 : Int64))) (fun _ => 0) ((0 : Int64) + (1 : Int64)) b1z b ((Int32.ofNat b) + (1 : Int32)) T38z.heap O39z I45z r3z_1 fr_b1z hN (by omega) (fun i hi => by omega) r3z_2 r3z_3 r3z_4 (own_p1 hbN hN) hbN (fun j _ _ q => absurd (own_hasR2 hab j) q) (own_upd_miss _ _ hba)) hZ (own_hw hw 34 rfl) (own_hw hw 3 rfl) (by decide) (by decide)) qa46z qc46z (g := (mkF m 218 #[.val (.int p0), .val (.int p1), .val (.int p2), .val (.int p3), .val (.int (Int32.ofNat N)), .val (.int (Int32.ofNat a)), .val (.int (Int32.ofNat d)), .val (.int (Int32.ofNat b)), .val (.int ((Int32.ofNat a) + (1 : Int32))), .val (.int ((Int32.ofNat b) + (1 : Int32))), .val (.int f10), .val (.int f11), .val (.int f12), .val (.int f13), .val (.int f14), .val (.ref b1z), .val (.ref kn_9z), .unset, .unset] [(.int ((Int32.ofNat b) + (1 : Int32))), (.ref b1z)])) rfl (by rw [hml]; rfl) (Steps.refl _) (argsL := [(.int ((Int32.ofNat b) + (1 : Int32)))]) (rest := []) (lenOf pd_2087992021 rfl) rfl (by show 2 * 0 + _ ≤ _; exact Nat.le_of_eq rfl) (hb hby at_218) (fun _ _ => ⟨rfl, rfl, (by decide : 138 + 1 ≤ _), (by decide : 1048 + 3 ≤ _)⟩)
          dsimp only [Pt.U, Pt.locs, Pt.cells, Pt.slots] at X46z l46z y46z z46z st46z hQ46z
          subst l46z y46z z46z
          obtain ⟨np_46z, kp_46z, rfl, NQ46z, K46zq, r46z_0, r46z_1, r46z_2, r46z_3⟩ := hQ46z
          refine own_tr st46z ?_
          have N46z := Fr.app N38z NQ46z
          have O47z := own_ext_keep O39z K46zq (fun y hy => Nat.le_trans fr_b1z (own_D.all r3z_1 y hy))
          have K47z := K39z.trans K46zq (fun y hy => Or.inr (Nat.le_trans lz_b1z (own_D.all r3z_1 y hy)))
          have lz_np_46z : h0.size ≤ np_46z := Nat.le_trans K39z.1 r46z_1
          have ne_b1z_np_46z : b1z ≠ np_46z := Nat.ne_of_lt (Nat.lt_of_lt_of_le f40z.lt r46z_1)
          have ne_np_5z_np_46z : np_5z ≠ np_46z := Nat.ne_of_lt (Nat.lt_of_lt_of_le f41z.lt r46z_1)
          have ne_kn_9z_np_46z : kn_9z ≠ np_46z := Nat.ne_of_lt (Nat.lt_of_lt_of_le f42z.lt r46z_1)
          show own_G p e below (T46z.setTop (mkF m 221 #[.val (.int p0), .val (.int p1), .val (.int p2), .val (.int p3), .val (.int (Int32.ofNat N)), .val (.int (Int32.ofNat a)), .val (.int (Int32.ofNat d)), .val (.int (Int32.ofNat b)), .val (.int ((Int32.ofNat a) + (1 : Int32))), .val (.int ((Int32.ofNat b) + (1 : Int32))), .val (.int f10), .val (.int f11), .val (.int f12), .val (.int f13), .val (.int f14), .val (.ref b1z), .val (.ref kn_9z), .unset, .unset] [])) _
          have f48z := (f40z.keep K46zq)
          have f49z := (f41z.keep K46zq r5z_2)
          have f50z := (f42z.keep K46zq)
          have f51z := (f43z.keep K46zq r9z_2)
          have f52z := (f44z.keep K46zq r9z_2)
          have V53z : own_L Z T46z.heap np_46z kp_46z ((N + 63) / 64) (own_one a) := own_L.eqf r46z_3 (fun j _ => by rw [own_R2b]; exact own_and_self _)
          refine own_go (fun t k => XS.iload X46z.here hx rfl (hb hby at_221) rfl k) ?_
          by_cases hc54z : f14 = (0 : Int32)
          · refine own_go (fun t k => XS.ifYes X46z.here hx rfl (pc0 := 223) (pc' := 234) rfl (hb hby at_223) rfl ((if0 _ _).trans (teq hc54z).1) (by decide) (by decide) k) ?_
            show own_G p e below (T46z.setTop (mkF m 234 #[.val (.int p0), .val (.int p1), .val (.int p2), .val (.int p3), .val (.int (Int32.ofNat N)), .val (.int (Int32.ofNat a)), .val (.int (Int32.ofNat d)), .val (.int (Int32.ofNat b)), .val (.int ((Int32.ofNat a) + (1 : Int32))), .val (.int ((Int32.ofNat b) + (1 : Int32))), .val (.int f10), .val (.int f11), .val (.int f12), .val (.int f13), .val (.int f14), .val (.ref b1z), .val (.ref kn_9z), .unset, .unset] [])) _
            refine own_go (fun t k => XS.aload X46z.here hx rfl (hb hby at_234) rfl rfl k) ?_
            refine own_go (fun t k => XS.iload X46z.here hx rfl (hb hby at_236) rfl k) ?_
            obtain ⟨cq55z, kq55z, qa55z, qb55z, qc55z⟩ := isOf hZ (rfl : T46z.heap = _) f48z
            obtain ⟨_, _, ⟨T55z, L55z, k55z, n55z⟩, -, X55z, ⟨Lc55z, hQ55z, l55z, y55z, z55z⟩, st55z⟩ := X46z.virtualBack hx (y := own_m10) (z := own_m10) hown (own_mw hZ hw 84 rfl) (own_mw hZ hw 85 rfl) (notFace_of_selects (args := #[]) (own_mw hZ hw 87 rfl)) (own_mw hZ hw 87 rfl) (own_mw hZ hw 86 rfl) (by decide) (backOf (W := 0) (own_en1 l Z a0 hw [] b1z N ((N + 63) / 64) A_3z K_3z rows_3z (own_upd (own_rcI (own_R2 a b) b N) b (own_or ((own_R2 a b) b) b)) (own_upd (fun _ => .null) a (.ref kn_9z)) (own_upd (own_upd (fun _ => .null) a (.ref np_5z)) b (.ref np_46z)) (own_or (own_one a) b) (own_upd (own_upd (fun _ => 0) a ((0 : Int64) + (1 : Int64))) b (((0 : Int64) + (1 : Int64)) + (1 : Int64))) (fun _ => 0) (((0 : Int64) + (1 : Int64)) + (1 : Int64)) b1z b ((Int32.ofNat b) + (1 : Int32)) np_46z kp_46z a T46z.heap O47z r46z_0 r3z_1 fr_b1z hN (by omega) (fun i hi => by omega) r3z_2 r3z_3 r3z_4 (own_p1 hbN hN) hbN haN (own_upd_hit _ _ _) V53z r46z_2) hZ (own_hw hw 88 rfl) (own_hw hw 3 rfl) (by decide) (by decide)) qa55z qc55z (g := (mkF m 238 #[.val (.int p0), .val (.int p1), .val (.int p2), .val (.int p3), .val (.int (Int32.ofNat N)), .val (.int (Int32.ofNat a)), .val (.int (Int32.ofNat d)), .val (.int (Int32.ofNat b)), .val (.int ((Int32.ofNat a) + (1 : Int32))), .val (.int ((Int32.ofNat b) + (1 : Int32))), .val (.int f10), .val (.int f11), .val (.int f12), .val (.int f13), .val (.int f14), .val (.ref b1z), .val (.ref kn_9z), .unset, .unset] [(.int ((Int32.ofNat b) + (1 : Int32))), (.ref b1z)])) rfl (by rw [hml]; rfl) (Steps.refl _) (argsL := [(.int ((Int32.ofNat b) + (1 : Int32)))]) (rest := []) (lenOf pd_2087992008 rfl) rfl (by show 2 * 0 + _ ≤ _; exact Nat.le_of_eq rfl) (hb hby at_238) (fun _ _ => ⟨rfl, rfl, (by decide : 139 + 0 ≤ _), (by decide : 1051 + 0 ≤ _)⟩)
            dsimp only [Pt.U, Pt.locs, Pt.cells, Pt.slots] at X55z l55z y55z z55z st55z hQ55z
            subst l55z y55z z55z
            obtain ⟨rfl, NQ55z, K55zq, r55z_0⟩ := hQ55z
            refine own_tr st55z ?_
            have N55z := Fr.app N46z NQ55z
            have O56z := own_ext_keep O47z K55zq (fun y hy => Nat.le_trans fr_b1z (own_D.all r3z_1 y hy))
            have K56z := K47z.trans K55zq (fun y hy => Or.inr (Nat.le_trans lz_b1z (own_D.all r3z_1 y hy)))
            show own_G p e below (T55z.setTop (mkF m 241 #[.val (.int p0), .val (.int p1), .val (.int p2), .val (.int p3), .val (.int (Int32.ofNat N)), .val (.int (Int32.ofNat a)), .val (.int (Int32.ofNat d)), .val (.int (Int32.ofNat b)), .val (.int ((Int32.ofNat a) + (1 : Int32))), .val (.int ((Int32.ofNat b) + (1 : Int32))), .val (.int f10), .val (.int f11), .val (.int f12), .val (.int f13), .val (.int f14), .val (.ref b1z), .val (.ref kn_9z), .unset, .unset] [(.int (own_ce ((own_upd (fun _ => 0) b ((((0 : Int64) + (1 : Int64)) + (1 : Int64)) + (1 : Int64))) a) ((own_upd (own_upd (fun _ => 0) a ((0 : Int64) + (1 : Int64))) b (((0 : Int64) + (1 : Int64)) + (1 : Int64))) b)))])) _
            refine own_go (fun t k => XS.istore X55z.here hx rfl (hb hby at_241) rfl (l' := #[.val (.int p0), .val (.int p1), .val (.int p2), .val (.int p3), .val (.int (Int32.ofNat N)), .val (.int (Int32.ofNat a)), .val (.int (Int32.ofNat d)), .val (.int (Int32.ofNat b)), .val (.int ((Int32.ofNat a) + (1 : Int32))), .val (.int ((Int32.ofNat b) + (1 : Int32))), .val (.int f10), .val (.int f11), .val (.int f12), .val (.int f13), .val (.int f14), .val (.ref b1z), .val (.ref kn_9z), .val (.int (own_ce ((own_upd (fun _ => 0) b ((((0 : Int64) + (1 : Int64)) + (1 : Int64)) + (1 : Int64))) a) ((own_upd (own_upd (fun _ => 0) a ((0 : Int64) + (1 : Int64))) b (((0 : Int64) + (1 : Int64)) + (1 : Int64))) b))), .unset]) rfl k) ?_
            refine own_go (fun t k => XS.iload X55z.here hx rfl (hb hby at_243) rfl k) ?_
            refine own_go (fun t k => XS.ifNo X55z.here hx rfl (hb hby at_245) rfl ((if0 _ _).trans (teq hc13z).2) k) ?_
            show own_G p e below (T55z.setTop (mkF m 248 #[.val (.int p0), .val (.int p1), .val (.int p2), .val (.int p3), .val (.int (Int32.ofNat N)), .val (.int (Int32.ofNat a)), .val (.int (Int32.ofNat d)), .val (.int (Int32.ofNat b)), .val (.int ((Int32.ofNat a) + (1 : Int32))), .val (.int ((Int32.ofNat b) + (1 : Int32))), .val (.int f10), .val (.int f11), .val (.int f12), .val (.int f13), .val (.int f14), .val (.ref b1z), .val (.ref kn_9z), .val (.int (own_ce ((own_upd (fun _ => 0) b ((((0 : Int64) + (1 : Int64)) + (1 : Int64)) + (1 : Int64))) a) ((own_upd (own_upd (fun _ => 0) a ((0 : Int64) + (1 : Int64))) b (((0 : Int64) + (1 : Int64)) + (1 : Int64))) b))), .unset] [])) _
            refine own_go (fun t k => XS.iload X55z.here hx rfl (hb hby at_248) rfl k) ?_
            refine own_go (fun t k => XS.ifNo X55z.here hx rfl (hb hby at_250) rfl ((if0 _ _).trans (feq hc15z).1) k) ?_
            show own_G p e below (T55z.setTop (mkF m 253 #[.val (.int p0), .val (.int p1), .val (.int p2), .val (.int p3), .val (.int (Int32.ofNat N)), .val (.int (Int32.ofNat a)), .val (.int (Int32.ofNat d)), .val (.int (Int32.ofNat b)), .val (.int ((Int32.ofNat a) + (1 : Int32))), .val (.int ((Int32.ofNat b) + (1 : Int32))), .val (.int f10), .val (.int f11), .val (.int f12), .val (.int f13), .val (.int f14), .val (.ref b1z), .val (.ref kn_9z), .val (.int (own_ce ((own_upd (fun _ => 0) b ((((0 : Int64) + (1 : Int64)) + (1 : Int64)) + (1 : Int64))) a) ((own_upd (own_upd (fun _ => 0) a ((0 : Int64) + (1 : Int64))) b (((0 : Int64) + (1 : Int64)) + (1 : Int64))) b))), .unset] [])) _
            refine own_go (fun t k => XS.iload X55z.here hx rfl (hb hby at_253) rfl k) ?_
            refine own_go (fun t k => XS.ifNo X55z.here hx rfl (hb hby at_255) rfl ((if0 _ _).trans (teq hc14z).2) k) ?_
            show own_G p e below (T55z.setTop (mkF m 258 #[.val (.int p0), .val (.int p1), .val (.int p2), .val (.int p3), .val (.int (Int32.ofNat N)), .val (.int (Int32.ofNat a)), .val (.int (Int32.ofNat d)), .val (.int (Int32.ofNat b)), .val (.int ((Int32.ofNat a) + (1 : Int32))), .val (.int ((Int32.ofNat b) + (1 : Int32))), .val (.int f10), .val (.int f11), .val (.int f12), .val (.int f13), .val (.int f14), .val (.ref b1z), .val (.ref kn_9z), .val (.int (own_ce ((own_upd (fun _ => 0) b ((((0 : Int64) + (1 : Int64)) + (1 : Int64)) + (1 : Int64))) a) ((own_upd (own_upd (fun _ => 0) a ((0 : Int64) + (1 : Int64))) b (((0 : Int64) + (1 : Int64)) + (1 : Int64))) b))), .unset] [])) _
            refine own_go (fun t k => XS.iload X55z.here hx rfl (hb hby at_258) rfl k) ?_
            refine own_go (fun t k => XS.ifNo X55z.here hx rfl (hb hby at_260) rfl ((if0 _ _).trans (teq hc54z).2) k) ?_
            show own_G p e below (T55z.setTop (mkF m 263 #[.val (.int p0), .val (.int p1), .val (.int p2), .val (.int p3), .val (.int (Int32.ofNat N)), .val (.int (Int32.ofNat a)), .val (.int (Int32.ofNat d)), .val (.int (Int32.ofNat b)), .val (.int ((Int32.ofNat a) + (1 : Int32))), .val (.int ((Int32.ofNat b) + (1 : Int32))), .val (.int f10), .val (.int f11), .val (.int f12), .val (.int f13), .val (.int f14), .val (.ref b1z), .val (.ref kn_9z), .val (.int (own_ce ((own_upd (fun _ => 0) b ((((0 : Int64) + (1 : Int64)) + (1 : Int64)) + (1 : Int64))) a) ((own_upd (own_upd (fun _ => 0) a ((0 : Int64) + (1 : Int64))) b (((0 : Int64) + (1 : Int64)) + (1 : Int64))) b))), .unset] [])) _
            refine own_go (fun t k => XS.iconst X55z.here hx rfl (hb hby at_263) k) ?_
            refine own_go (fun t k => XS.goto X55z.here hx rfl (pc0 := 264) (pc' := 268) rfl (hb hby at_264) (by decide) (by decide) k) ?_
            show own_G p e below (T55z.setTop (mkF m 268 #[.val (.int p0), .val (.int p1), .val (.int p2), .val (.int p3), .val (.int (Int32.ofNat N)), .val (.int (Int32.ofNat a)), .val (.int (Int32.ofNat d)), .val (.int (Int32.ofNat b)), .val (.int ((Int32.ofNat a) + (1 : Int32))), .val (.int ((Int32.ofNat b) + (1 : Int32))), .val (.int f10), .val (.int f11), .val (.int f12), .val (.int f13), .val (.int f14), .val (.ref b1z), .val (.ref kn_9z), .val (.int (own_ce ((own_upd (fun _ => 0) b ((((0 : Int64) + (1 : Int64)) + (1 : Int64)) + (1 : Int64))) a) ((own_upd (own_upd (fun _ => 0) a ((0 : Int64) + (1 : Int64))) b (((0 : Int64) + (1 : Int64)) + (1 : Int64))) b))), .unset] [(.int (1 : Int32))])) _
            refine own_go (fun t k => XS.istore X55z.here hx rfl (hb hby at_268) rfl (l' := #[.val (.int p0), .val (.int p1), .val (.int p2), .val (.int p3), .val (.int (Int32.ofNat N)), .val (.int (Int32.ofNat a)), .val (.int (Int32.ofNat d)), .val (.int (Int32.ofNat b)), .val (.int ((Int32.ofNat a) + (1 : Int32))), .val (.int ((Int32.ofNat b) + (1 : Int32))), .val (.int f10), .val (.int f11), .val (.int f12), .val (.int f13), .val (.int f14), .val (.ref b1z), .val (.ref kn_9z), .val (.int (own_ce ((own_upd (fun _ => 0) b ((((0 : Int64) + (1 : Int64)) + (1 : Int64)) + (1 : Int64))) a) ((own_upd (own_upd (fun _ => 0) a ((0 : Int64) + (1 : Int64))) b (((0 : Int64) + (1 : Int64)) + (1 : Int64))) b))), .val (.int (1 : Int32))]) rfl k) ?_
            refine own_go (fun t k => XS.iload X55z.here hx rfl (hb hby at_270) rfl k) ?_
            refine own_go (fun t k => XS.iload X55z.here hx rfl (hb hby at_272) rfl k) ?_
            refine own_go (fun t k => XS.icmpNo X55z.here hx rfl (hb hby at_274) rfl (teq (by rw [own_upd_miss _ _ hab, own_upd_hit]; show own_ce 0 _ = 1; decide)).2 k) ?_
            show own_G p e below (T55z.setTop (mkF m 277 #[.val (.int p0), .val (.int p1), .val (.int p2), .val (.int p3), .val (.int (Int32.ofNat N)), .val (.int (Int32.ofNat a)), .val (.int (Int32.ofNat d)), .val (.int (Int32.ofNat b)), .val (.int ((Int32.ofNat a) + (1 : Int32))), .val (.int ((Int32.ofNat b) + (1 : Int32))), .val (.int f10), .val (.int f11), .val (.int f12), .val (.int f13), .val (.int f14), .val (.ref b1z), .val (.ref kn_9z), .val (.int (own_ce ((own_upd (fun _ => 0) b ((((0 : Int64) + (1 : Int64)) + (1 : Int64)) + (1 : Int64))) a) ((own_upd (own_upd (fun _ => 0) a ((0 : Int64) + (1 : Int64))) b (((0 : Int64) + (1 : Int64)) + (1 : Int64))) b))), .val (.int (1 : Int32))] [])) _
            refine own_go (fun t k => XS.iconst X55z.here hx rfl (hb hby at_277) k) ?_
            refine own_go (fun t k => XS.goto X55z.here hx rfl (pc0 := 278) (pc' := 282) rfl (hb hby at_278) (by decide) (by decide) k) ?_
            show own_G p e below (T55z.setTop (mkF m 282 #[.val (.int p0), .val (.int p1), .val (.int p2), .val (.int p3), .val (.int (Int32.ofNat N)), .val (.int (Int32.ofNat a)), .val (.int (Int32.ofNat d)), .val (.int (Int32.ofNat b)), .val (.int ((Int32.ofNat a) + (1 : Int32))), .val (.int ((Int32.ofNat b) + (1 : Int32))), .val (.int f10), .val (.int f11), .val (.int f12), .val (.int f13), .val (.int f14), .val (.ref b1z), .val (.ref kn_9z), .val (.int (own_ce ((own_upd (fun _ => 0) b ((((0 : Int64) + (1 : Int64)) + (1 : Int64)) + (1 : Int64))) a) ((own_upd (own_upd (fun _ => 0) a ((0 : Int64) + (1 : Int64))) b (((0 : Int64) + (1 : Int64)) + (1 : Int64))) b))), .val (.int (1 : Int32))] [(.int (1 : Int32))])) _
            exact own_ret X55z hx Bd.returns rfl (Or.inl ⟨rfl, Or.inr (Or.inl rfl), _, rfl⟩) (hb hby at_282) hlk (Nat.le_of_ble_eq_true rfl) (Nat.le_of_ble_eq_true rfl) (by show Q_own_law Z p0 p1 p2 p3 h0 _ T55z.heap _; exact ⟨rfl, N55z, K56z⟩)
          · refine own_go (fun t k => XS.ifNo X46z.here hx rfl (hb hby at_223) rfl ((if0 _ _).trans (feq hc54z).1) k) ?_
            show own_G p e below (T46z.setTop (mkF m 226 #[.val (.int p0), .val (.int p1), .val (.int p2), .val (.int p3), .val (.int (Int32.ofNat N)), .val (.int (Int32.ofNat a)), .val (.int (Int32.ofNat d)), .val (.int (Int32.ofNat b)), .val (.int ((Int32.ofNat a) + (1 : Int32))), .val (.int ((Int32.ofNat b) + (1 : Int32))), .val (.int f10), .val (.int f11), .val (.int f12), .val (.int f13), .val (.int f14), .val (.ref b1z), .val (.ref kn_9z), .unset, .unset] [])) _
            refine own_go (fun t k => XS.aload X46z.here hx rfl (hb hby at_226) rfl rfl k) ?_
            refine own_go (fun t k => XS.iload X46z.here hx rfl (hb hby at_228) rfl k) ?_
            obtain ⟨cq57z, kq57z, qa57z, qb57z, qc57z⟩ := isOf hZ (rfl : T46z.heap = _) f48z
            obtain ⟨_, _, ⟨T57z, L57z, k57z, n57z⟩, -, X57z, ⟨Lc57z, hQ57z, l57z, y57z, z57z⟩, st57z⟩ := X46z.virtualBack hx (y := own_m10) (z := own_m10) hown (own_mw hZ hw 84 rfl) (own_mw hZ hw 85 rfl) (notFace_of_selects (args := #[]) (own_mw hZ hw 87 rfl)) (own_mw hZ hw 87 rfl) (own_mw hZ hw 86 rfl) (by decide) (backOf (W := 0) (own_en0 l Z a0 hw [] b1z N ((N + 63) / 64) A_3z K_3z rows_3z (own_upd (own_rcI (own_R2 a b) b N) b (own_or ((own_R2 a b) b) b)) (own_upd (fun _ => .null) a (.ref kn_9z)) (own_upd (own_upd (fun _ => .null) a (.ref np_5z)) b (.ref np_46z)) (own_or (own_one a) b) (own_upd (own_upd (fun _ => 0) a ((0 : Int64) + (1 : Int64))) b (((0 : Int64) + (1 : Int64)) + (1 : Int64))) (fun _ => 0) (((0 : Int64) + (1 : Int64)) + (1 : Int64)) b1z a ((Int32.ofNat a) + (1 : Int32)) np_5z kp_5z T46z.heap O47z r46z_0 r3z_1 fr_b1z hN (by omega) (fun i hi => by omega) r3z_2 r3z_3 r3z_4 (own_p1 haN hN) haN ((own_upd_miss _ _ hab).trans (own_upd_hit _ _ _)) f49z r5z_2) hZ (own_hw hw 88 rfl) (own_hw hw 3 rfl) (by decide) (by decide)) qa57z qc57z (g := (mkF m 230 #[.val (.int p0), .val (.int p1), .val (.int p2), .val (.int p3), .val (.int (Int32.ofNat N)), .val (.int (Int32.ofNat a)), .val (.int (Int32.ofNat d)), .val (.int (Int32.ofNat b)), .val (.int ((Int32.ofNat a) + (1 : Int32))), .val (.int ((Int32.ofNat b) + (1 : Int32))), .val (.int f10), .val (.int f11), .val (.int f12), .val (.int f13), .val (.int f14), .val (.ref b1z), .val (.ref kn_9z), .unset, .unset] [(.int ((Int32.ofNat a) + (1 : Int32))), (.ref b1z)])) rfl (by rw [hml]; rfl) (Steps.refl _) (argsL := [(.int ((Int32.ofNat a) + (1 : Int32)))]) (rest := []) (lenOf pd_2087992008 rfl) rfl (by show 2 * 0 + _ ≤ _; exact Nat.le_of_eq rfl) (hb hby at_230) (fun _ _ => ⟨rfl, rfl, (by decide : 139 + 0 ≤ _), (by decide : 1051 + 0 ≤ _)⟩)
            dsimp only [Pt.U, Pt.locs, Pt.cells, Pt.slots] at X57z l57z y57z z57z st57z hQ57z
            subst l57z y57z z57z
            obtain ⟨rfl, NQ57z, K57zq, r57z_0⟩ := hQ57z
            refine own_tr st57z ?_
            have N57z := Fr.app N46z NQ57z
            have O58z := own_ext_keep O47z K57zq (fun y hy => Nat.le_trans fr_b1z (own_D.all r3z_1 y hy))
            have K58z := K47z.trans K57zq (fun y hy => Or.inr (Nat.le_trans lz_b1z (own_D.all r3z_1 y hy)))
            show own_G p e below (T57z.setTop (mkF m 233 #[.val (.int p0), .val (.int p1), .val (.int p2), .val (.int p3), .val (.int (Int32.ofNat N)), .val (.int (Int32.ofNat a)), .val (.int (Int32.ofNat d)), .val (.int (Int32.ofNat b)), .val (.int ((Int32.ofNat a) + (1 : Int32))), .val (.int ((Int32.ofNat b) + (1 : Int32))), .val (.int f10), .val (.int f11), .val (.int f12), .val (.int f13), .val (.int f14), .val (.ref b1z), .val (.ref kn_9z), .unset, .unset] [(.int (0 : Int32))])) _
            have f59z := (f48z.keep K57zq)
            have f60z := (f49z.keep K57zq r5z_2)
            have f61z := (f50z.keep K57zq)
            have f62z := (f51z.keep K57zq r9z_2)
            have f63z := (f52z.keep K57zq r9z_2)
            have f64z := (V53z.keep K57zq r46z_2)
            refine own_go (fun t k => XS.pop X57z.here hx rfl (hb hby at_233) rfl rfl k) ?_
            refine own_go (fun t k => XS.aload X57z.here hx rfl (hb hby at_234) rfl rfl k) ?_
            refine own_go (fun t k => XS.iload X57z.here hx rfl (hb hby at_236) rfl k) ?_
            obtain ⟨cq65z, kq65z, qa65z, qb65z, qc65z⟩ := isOf hZ (rfl : T57z.heap = _) f59z
            obtain ⟨_, _, ⟨T65z, L65z, k65z, n65z⟩, -, X65z, ⟨Lc65z, hQ65z, l65z, y65z, z65z⟩, st65z⟩ := X57z.virtualBack hx (y := own_m10) (z := own_m10) hown (own_mw hZ hw 84 rfl) (own_mw hZ hw 85 rfl) (notFace_of_selects (args := #[]) (own_mw hZ hw 87 rfl)) (own_mw hZ hw 87 rfl) (own_mw hZ hw 86 rfl) (by decide) (backOf (W := 0) (own_en1 l Z a0 hw [] b1z N ((N + 63) / 64) A_3z K_3z rows_3z (own_upd (own_rcI (own_R2 a b) b N) b (own_or ((own_R2 a b) b) b)) (own_upd (fun _ => .null) a (.ref kn_9z)) (own_upd (own_upd (own_upd (fun _ => .null) a (.ref np_5z)) b (.ref np_46z)) a .null) (own_clr (own_or (own_one a) b) a) (own_upd (own_upd (fun _ => 0) a ((0 : Int64) + (1 : Int64))) b (((0 : Int64) + (1 : Int64)) + (1 : Int64))) (own_upd (fun _ => 0) a ((((0 : Int64) + (1 : Int64)) + (1 : Int64)) + (1 : Int64))) ((((0 : Int64) + (1 : Int64)) + (1 : Int64)) + (1 : Int64)) b1z b ((Int32.ofNat b) + (1 : Int32)) np_46z kp_46z a T57z.heap O58z r57z_0 r3z_1 fr_b1z hN (by omega) (fun i hi => by omega) r3z_2 r3z_3 r3z_4 (own_p1 hbN hN) hbN haN ((own_upd_miss _ _ hba).trans (own_upd_hit _ _ _)) f64z r46z_2) hZ (own_hw hw 88 rfl) (own_hw hw 3 rfl) (by decide) (by decide)) qa65z qc65z (g := (mkF m 238 #[.val (.int p0), .val (.int p1), .val (.int p2), .val (.int p3), .val (.int (Int32.ofNat N)), .val (.int (Int32.ofNat a)), .val (.int (Int32.ofNat d)), .val (.int (Int32.ofNat b)), .val (.int ((Int32.ofNat a) + (1 : Int32))), .val (.int ((Int32.ofNat b) + (1 : Int32))), .val (.int f10), .val (.int f11), .val (.int f12), .val (.int f13), .val (.int f14), .val (.ref b1z), .val (.ref kn_9z), .unset, .unset] [(.int ((Int32.ofNat b) + (1 : Int32))), (.ref b1z)])) rfl (by rw [hml]; rfl) (Steps.refl _) (argsL := [(.int ((Int32.ofNat b) + (1 : Int32)))]) (rest := []) (lenOf pd_2087992008 rfl) rfl (by show 2 * 0 + _ ≤ _; exact Nat.le_of_eq rfl) (hb hby at_238) (fun _ _ => ⟨rfl, rfl, (by decide : 139 + 0 ≤ _), (by decide : 1051 + 0 ≤ _)⟩)
            dsimp only [Pt.U, Pt.locs, Pt.cells, Pt.slots] at X65z l65z y65z z65z st65z hQ65z
            subst l65z y65z z65z
            obtain ⟨rfl, NQ65z, K65zq, r65z_0⟩ := hQ65z
            refine own_tr st65z ?_
            have N65z := Fr.app N57z NQ65z
            have O66z := own_ext_keep O58z K65zq (fun y hy => Nat.le_trans fr_b1z (own_D.all r3z_1 y hy))
            have K66z := K58z.trans K65zq (fun y hy => Or.inr (Nat.le_trans lz_b1z (own_D.all r3z_1 y hy)))
            show own_G p e below (T65z.setTop (mkF m 241 #[.val (.int p0), .val (.int p1), .val (.int p2), .val (.int p3), .val (.int (Int32.ofNat N)), .val (.int (Int32.ofNat a)), .val (.int (Int32.ofNat d)), .val (.int (Int32.ofNat b)), .val (.int ((Int32.ofNat a) + (1 : Int32))), .val (.int ((Int32.ofNat b) + (1 : Int32))), .val (.int f10), .val (.int f11), .val (.int f12), .val (.int f13), .val (.int f14), .val (.ref b1z), .val (.ref kn_9z), .unset, .unset] [(.int (own_ce ((own_upd (own_upd (fun _ => 0) a ((((0 : Int64) + (1 : Int64)) + (1 : Int64)) + (1 : Int64))) b (((((0 : Int64) + (1 : Int64)) + (1 : Int64)) + (1 : Int64)) + (1 : Int64))) a) ((own_upd (own_upd (fun _ => 0) a ((0 : Int64) + (1 : Int64))) b (((0 : Int64) + (1 : Int64)) + (1 : Int64))) b)))])) _
            refine own_go (fun t k => XS.istore X65z.here hx rfl (hb hby at_241) rfl (l' := #[.val (.int p0), .val (.int p1), .val (.int p2), .val (.int p3), .val (.int (Int32.ofNat N)), .val (.int (Int32.ofNat a)), .val (.int (Int32.ofNat d)), .val (.int (Int32.ofNat b)), .val (.int ((Int32.ofNat a) + (1 : Int32))), .val (.int ((Int32.ofNat b) + (1 : Int32))), .val (.int f10), .val (.int f11), .val (.int f12), .val (.int f13), .val (.int f14), .val (.ref b1z), .val (.ref kn_9z), .val (.int (own_ce ((own_upd (own_upd (fun _ => 0) a ((((0 : Int64) + (1 : Int64)) + (1 : Int64)) + (1 : Int64))) b (((((0 : Int64) + (1 : Int64)) + (1 : Int64)) + (1 : Int64)) + (1 : Int64))) a) ((own_upd (own_upd (fun _ => 0) a ((0 : Int64) + (1 : Int64))) b (((0 : Int64) + (1 : Int64)) + (1 : Int64))) b))), .unset]) rfl k) ?_
            refine own_go (fun t k => XS.iload X65z.here hx rfl (hb hby at_243) rfl k) ?_
            refine own_go (fun t k => XS.ifNo X65z.here hx rfl (hb hby at_245) rfl ((if0 _ _).trans (teq hc13z).2) k) ?_
            show own_G p e below (T65z.setTop (mkF m 248 #[.val (.int p0), .val (.int p1), .val (.int p2), .val (.int p3), .val (.int (Int32.ofNat N)), .val (.int (Int32.ofNat a)), .val (.int (Int32.ofNat d)), .val (.int (Int32.ofNat b)), .val (.int ((Int32.ofNat a) + (1 : Int32))), .val (.int ((Int32.ofNat b) + (1 : Int32))), .val (.int f10), .val (.int f11), .val (.int f12), .val (.int f13), .val (.int f14), .val (.ref b1z), .val (.ref kn_9z), .val (.int (own_ce ((own_upd (own_upd (fun _ => 0) a ((((0 : Int64) + (1 : Int64)) + (1 : Int64)) + (1 : Int64))) b (((((0 : Int64) + (1 : Int64)) + (1 : Int64)) + (1 : Int64)) + (1 : Int64))) a) ((own_upd (own_upd (fun _ => 0) a ((0 : Int64) + (1 : Int64))) b (((0 : Int64) + (1 : Int64)) + (1 : Int64))) b))), .unset] [])) _
            refine own_go (fun t k => XS.iload X65z.here hx rfl (hb hby at_248) rfl k) ?_
            refine own_go (fun t k => XS.ifNo X65z.here hx rfl (hb hby at_250) rfl ((if0 _ _).trans (feq hc15z).1) k) ?_
            show own_G p e below (T65z.setTop (mkF m 253 #[.val (.int p0), .val (.int p1), .val (.int p2), .val (.int p3), .val (.int (Int32.ofNat N)), .val (.int (Int32.ofNat a)), .val (.int (Int32.ofNat d)), .val (.int (Int32.ofNat b)), .val (.int ((Int32.ofNat a) + (1 : Int32))), .val (.int ((Int32.ofNat b) + (1 : Int32))), .val (.int f10), .val (.int f11), .val (.int f12), .val (.int f13), .val (.int f14), .val (.ref b1z), .val (.ref kn_9z), .val (.int (own_ce ((own_upd (own_upd (fun _ => 0) a ((((0 : Int64) + (1 : Int64)) + (1 : Int64)) + (1 : Int64))) b (((((0 : Int64) + (1 : Int64)) + (1 : Int64)) + (1 : Int64)) + (1 : Int64))) a) ((own_upd (own_upd (fun _ => 0) a ((0 : Int64) + (1 : Int64))) b (((0 : Int64) + (1 : Int64)) + (1 : Int64))) b))), .unset] [])) _
            refine own_go (fun t k => XS.iload X65z.here hx rfl (hb hby at_253) rfl k) ?_
            refine own_go (fun t k => XS.ifNo X65z.here hx rfl (hb hby at_255) rfl ((if0 _ _).trans (teq hc14z).2) k) ?_
            show own_G p e below (T65z.setTop (mkF m 258 #[.val (.int p0), .val (.int p1), .val (.int p2), .val (.int p3), .val (.int (Int32.ofNat N)), .val (.int (Int32.ofNat a)), .val (.int (Int32.ofNat d)), .val (.int (Int32.ofNat b)), .val (.int ((Int32.ofNat a) + (1 : Int32))), .val (.int ((Int32.ofNat b) + (1 : Int32))), .val (.int f10), .val (.int f11), .val (.int f12), .val (.int f13), .val (.int f14), .val (.ref b1z), .val (.ref kn_9z), .val (.int (own_ce ((own_upd (own_upd (fun _ => 0) a ((((0 : Int64) + (1 : Int64)) + (1 : Int64)) + (1 : Int64))) b (((((0 : Int64) + (1 : Int64)) + (1 : Int64)) + (1 : Int64)) + (1 : Int64))) a) ((own_upd (own_upd (fun _ => 0) a ((0 : Int64) + (1 : Int64))) b (((0 : Int64) + (1 : Int64)) + (1 : Int64))) b))), .unset] [])) _
            refine own_go (fun t k => XS.iload X65z.here hx rfl (hb hby at_258) rfl k) ?_
            refine own_go (fun t k => XS.ifYes X65z.here hx rfl (pc0 := 260) (pc' := 267) rfl (hb hby at_260) rfl ((if0 _ _).trans (feq hc54z).2) (by decide) (by decide) k) ?_
            show own_G p e below (T65z.setTop (mkF m 267 #[.val (.int p0), .val (.int p1), .val (.int p2), .val (.int p3), .val (.int (Int32.ofNat N)), .val (.int (Int32.ofNat a)), .val (.int (Int32.ofNat d)), .val (.int (Int32.ofNat b)), .val (.int ((Int32.ofNat a) + (1 : Int32))), .val (.int ((Int32.ofNat b) + (1 : Int32))), .val (.int f10), .val (.int f11), .val (.int f12), .val (.int f13), .val (.int f14), .val (.ref b1z), .val (.ref kn_9z), .val (.int (own_ce ((own_upd (own_upd (fun _ => 0) a ((((0 : Int64) + (1 : Int64)) + (1 : Int64)) + (1 : Int64))) b (((((0 : Int64) + (1 : Int64)) + (1 : Int64)) + (1 : Int64)) + (1 : Int64))) a) ((own_upd (own_upd (fun _ => 0) a ((0 : Int64) + (1 : Int64))) b (((0 : Int64) + (1 : Int64)) + (1 : Int64))) b))), .unset] [])) _
            refine own_go (fun t k => XS.iconst X65z.here hx rfl (hb hby at_267) k) ?_
            refine own_go (fun t k => XS.istore X65z.here hx rfl (hb hby at_268) rfl (l' := #[.val (.int p0), .val (.int p1), .val (.int p2), .val (.int p3), .val (.int (Int32.ofNat N)), .val (.int (Int32.ofNat a)), .val (.int (Int32.ofNat d)), .val (.int (Int32.ofNat b)), .val (.int ((Int32.ofNat a) + (1 : Int32))), .val (.int ((Int32.ofNat b) + (1 : Int32))), .val (.int f10), .val (.int f11), .val (.int f12), .val (.int f13), .val (.int f14), .val (.ref b1z), .val (.ref kn_9z), .val (.int (own_ce ((own_upd (own_upd (fun _ => 0) a ((((0 : Int64) + (1 : Int64)) + (1 : Int64)) + (1 : Int64))) b (((((0 : Int64) + (1 : Int64)) + (1 : Int64)) + (1 : Int64)) + (1 : Int64))) a) ((own_upd (own_upd (fun _ => 0) a ((0 : Int64) + (1 : Int64))) b (((0 : Int64) + (1 : Int64)) + (1 : Int64))) b))), .val (.int (0 : Int32))]) rfl k) ?_
            refine own_go (fun t k => XS.iload X65z.here hx rfl (hb hby at_270) rfl k) ?_
            refine own_go (fun t k => XS.iload X65z.here hx rfl (hb hby at_272) rfl k) ?_
            show own_G p e below (T65z.setTop (mkF m 274 #[.val (.int p0), .val (.int p1), .val (.int p2), .val (.int p3), .val (.int (Int32.ofNat N)), .val (.int (Int32.ofNat a)), .val (.int (Int32.ofNat d)), .val (.int (Int32.ofNat b)), .val (.int ((Int32.ofNat a) + (1 : Int32))), .val (.int ((Int32.ofNat b) + (1 : Int32))), .val (.int f10), .val (.int f11), .val (.int f12), .val (.int f13), .val (.int f14), .val (.ref b1z), .val (.ref kn_9z), .val (.int (own_ce ((own_upd (own_upd (fun _ => 0) a ((((0 : Int64) + (1 : Int64)) + (1 : Int64)) + (1 : Int64))) b (((((0 : Int64) + (1 : Int64)) + (1 : Int64)) + (1 : Int64)) + (1 : Int64))) a) ((own_upd (own_upd (fun _ => 0) a ((0 : Int64) + (1 : Int64))) b (((0 : Int64) + (1 : Int64)) + (1 : Int64))) b))), .val (.int (0 : Int32))] [(.int (0 : Int32)), (.int (own_ce ((own_upd (own_upd (fun _ => 0) a ((((0 : Int64) + (1 : Int64)) + (1 : Int64)) + (1 : Int64))) b (((((0 : Int64) + (1 : Int64)) + (1 : Int64)) + (1 : Int64)) + (1 : Int64))) a) ((own_upd (own_upd (fun _ => 0) a ((0 : Int64) + (1 : Int64))) b (((0 : Int64) + (1 : Int64)) + (1 : Int64))) b)))])) _
            refine own_go (fun t k => XS.icmpNo X65z.here hx rfl (hb hby at_274) rfl (teq (by rw [own_upd_miss _ _ hab, own_upd_hit, own_upd_hit]; decide)).2 k) ?_
            show own_G p e below (T65z.setTop (mkF m 277 #[.val (.int p0), .val (.int p1), .val (.int p2), .val (.int p3), .val (.int (Int32.ofNat N)), .val (.int (Int32.ofNat a)), .val (.int (Int32.ofNat d)), .val (.int (Int32.ofNat b)), .val (.int ((Int32.ofNat a) + (1 : Int32))), .val (.int ((Int32.ofNat b) + (1 : Int32))), .val (.int f10), .val (.int f11), .val (.int f12), .val (.int f13), .val (.int f14), .val (.ref b1z), .val (.ref kn_9z), .val (.int (own_ce ((own_upd (own_upd (fun _ => 0) a ((((0 : Int64) + (1 : Int64)) + (1 : Int64)) + (1 : Int64))) b (((((0 : Int64) + (1 : Int64)) + (1 : Int64)) + (1 : Int64)) + (1 : Int64))) a) ((own_upd (own_upd (fun _ => 0) a ((0 : Int64) + (1 : Int64))) b (((0 : Int64) + (1 : Int64)) + (1 : Int64))) b))), .val (.int (0 : Int32))] [])) _
            refine own_go (fun t k => XS.iconst X65z.here hx rfl (hb hby at_277) k) ?_
            refine own_go (fun t k => XS.goto X65z.here hx rfl (pc0 := 278) (pc' := 282) rfl (hb hby at_278) (by decide) (by decide) k) ?_
            show own_G p e below (T65z.setTop (mkF m 282 #[.val (.int p0), .val (.int p1), .val (.int p2), .val (.int p3), .val (.int (Int32.ofNat N)), .val (.int (Int32.ofNat a)), .val (.int (Int32.ofNat d)), .val (.int (Int32.ofNat b)), .val (.int ((Int32.ofNat a) + (1 : Int32))), .val (.int ((Int32.ofNat b) + (1 : Int32))), .val (.int f10), .val (.int f11), .val (.int f12), .val (.int f13), .val (.int f14), .val (.ref b1z), .val (.ref kn_9z), .val (.int (own_ce ((own_upd (own_upd (fun _ => 0) a ((((0 : Int64) + (1 : Int64)) + (1 : Int64)) + (1 : Int64))) b (((((0 : Int64) + (1 : Int64)) + (1 : Int64)) + (1 : Int64)) + (1 : Int64))) a) ((own_upd (own_upd (fun _ => 0) a ((0 : Int64) + (1 : Int64))) b (((0 : Int64) + (1 : Int64)) + (1 : Int64))) b))), .val (.int (0 : Int32))] [(.int (1 : Int32))])) _
            exact own_ret X65z hx Bd.returns rfl (Or.inl ⟨rfl, Or.inr (Or.inl rfl), _, rfl⟩) (hb hby at_282) hlk (Nat.le_of_ble_eq_true rfl) (Nat.le_of_ble_eq_true rfl) (by show Q_own_law Z p0 p1 p2 p3 h0 _ T65z.heap _; exact ⟨rfl, N65z, K66z⟩)
      · refine own_go (fun t k => XS.ifNo X9z.here hx rfl (hb hby at_177) rfl ((if0 _ _).trans (feq hc14z).1) k) ?_
        show own_G p e below (T9z.setTop (mkF m 180 #[.val (.int p0), .val (.int p1), .val (.int p2), .val (.int p3), .val (.int (Int32.ofNat N)), .val (.int (Int32.ofNat a)), .val (.int (Int32.ofNat d)), .val (.int (Int32.ofNat b)), .val (.int ((Int32.ofNat a) + (1 : Int32))), .val (.int ((Int32.ofNat b) + (1 : Int32))), .val (.int f10), .val (.int f11), .val (.int f12), .val (.int f13), .val (.int f14), .val (.ref b1z), .val (.ref kn_9z), .unset, .unset] [])) _
        refine own_go (fun t k => XS.aload X9z.here hx rfl (hb hby at_180) rfl rfl k) ?_
        refine own_go (fun t k => XS.iload X9z.here hx rfl (hb hby at_182) rfl k) ?_
        obtain ⟨cq67z, kq67z, qa67z, qb67z, qc67z⟩ := isOf hZ (rfl : T9z.heap = _) f11z
        obtain ⟨_, _, ⟨T67z, L67z, k67z, n67z⟩, -, X67z, ⟨Lc67z, hQ67z, l67z, y67z, z67z⟩, st67z⟩ := X9z.virtualBack hx (y := own_m10) (z := own_m10) hown (own_mw hZ hw 84 rfl) (own_mw hZ hw 85 rfl) (notFace_of_selects (args := #[]) (own_mw hZ hw 87 rfl)) (own_mw hZ hw 87 rfl) (own_mw hZ hw 86 rfl) (by decide) (backOf (W := 0) (own_en0 l Z a0 hw [] b1z N ((N + 63) / 64) A_3z K_3z rows_3z (own_R1 a) (own_upd (fun _ => .null) a (.ref kn_9z)) (own_upd (fun _ => .null) a (.ref np_5z)) (own_one a) (own_upd (fun _ => 0) a ((0 : Int64) + (1 : Int64))) (fun _ => 0) ((0 : Int64) + (1 : Int64)) b1z a ((Int32.ofNat a) + (1 : Int32)) np_5z kp_5z T9z.heap O10z r9z_0 r3z_1 fr_b1z hN (by omega) (fun i hi => by omega) r3z_2 r3z_3 r3z_4 (own_p1 haN hN) haN (own_upd_hit _ _ _) f12z r5z_2) hZ (own_hw hw 88 rfl) (own_hw hw 3 rfl) (by decide) (by decide)) qa67z qc67z (g := (mkF m 184 #[.val (.int p0), .val (.int p1), .val (.int p2), .val (.int p3), .val (.int (Int32.ofNat N)), .val (.int (Int32.ofNat a)), .val (.int (Int32.ofNat d)), .val (.int (Int32.ofNat b)), .val (.int ((Int32.ofNat a) + (1 : Int32))), .val (.int ((Int32.ofNat b) + (1 : Int32))), .val (.int f10), .val (.int f11), .val (.int f12), .val (.int f13), .val (.int f14), .val (.ref b1z), .val (.ref kn_9z), .unset, .unset] [(.int ((Int32.ofNat a) + (1 : Int32))), (.ref b1z)])) rfl (by rw [hml]; rfl) (Steps.refl _) (argsL := [(.int ((Int32.ofNat a) + (1 : Int32)))]) (rest := []) (lenOf pd_2087992008 rfl) rfl (by show 2 * 0 + _ ≤ _; exact Nat.le_of_eq rfl) (hb hby at_184) (fun _ _ => ⟨rfl, rfl, (by decide : 138 + 0 ≤ _), (by decide : 1048 + 0 ≤ _)⟩)
        dsimp only [Pt.U, Pt.locs, Pt.cells, Pt.slots] at X67z l67z y67z z67z st67z hQ67z
        subst l67z y67z z67z
        obtain ⟨rfl, NQ67z, K67zq, r67z_0⟩ := hQ67z
        refine own_tr st67z ?_
        have N67z := Fr.app N9z NQ67z
        have O68z := own_ext_keep O10z K67zq (fun y hy => Nat.le_trans fr_b1z (own_D.all r3z_1 y hy))
        have K68z := K10z.trans K67zq (fun y hy => Or.inr (Nat.le_trans lz_b1z (own_D.all r3z_1 y hy)))
        show own_G p e below (T67z.setTop (mkF m 187 #[.val (.int p0), .val (.int p1), .val (.int p2), .val (.int p3), .val (.int (Int32.ofNat N)), .val (.int (Int32.ofNat a)), .val (.int (Int32.ofNat d)), .val (.int (Int32.ofNat b)), .val (.int ((Int32.ofNat a) + (1 : Int32))), .val (.int ((Int32.ofNat b) + (1 : Int32))), .val (.int f10), .val (.int f11), .val (.int f12), .val (.int f13), .val (.int f14), .val (.ref b1z), .val (.ref kn_9z), .unset, .unset] [(.int (0 : Int32))])) _
        have I69z : own_I Z T67z.heap b1z N ((N + 63) / 64) A_3z K_3z rows_3z (own_R1 a) (own_upd (fun _ => .null) a (.ref kn_9z)) (own_upd (own_upd (fun _ => .null) a (.ref np_5z)) a .null) (fun _ => 0) (own_upd (fun _ => 0) a ((0 : Int64) + (1 : Int64))) (own_upd (fun _ => 0) a (((0 : Int64) + (1 : Int64)) + (1 : Int64))) (((0 : Int64) + (1 : Int64)) + (1 : Int64)) := own_I.cast r67z_0 rfl (own_clr1 a)
        have f70z := (f11z.keep K67zq)
        have f71z := (f12z.keep K67zq r5z_2)
        have f72z := (r9z_3.keep K67zq)
        have f73z := (r9z_4.keep K67zq r9z_2)
        have f74z := (r9z_5.keep K67zq r9z_2)
        refine own_go (fun t k => XS.pop X67z.here hx rfl (hb hby at_187) rfl rfl k) ?_
        refine own_go (fun t k => XS.iload X67z.here hx rfl (hb hby at_188) rfl k) ?_
        by_cases hc75z : f12 = (0 : Int32)
        · refine own_go (fun t k => XS.ifYes X67z.here hx rfl (pc0 := 190) (pc' := 200) rfl (hb hby at_190) rfl ((if0 _ _).trans (teq hc75z).1) (by decide) (by decide) k) ?_
          show own_G p e below (T67z.setTop (mkF m 200 #[.val (.int p0), .val (.int p1), .val (.int p2), .val (.int p3), .val (.int (Int32.ofNat N)), .val (.int (Int32.ofNat a)), .val (.int (Int32.ofNat d)), .val (.int (Int32.ofNat b)), .val (.int ((Int32.ofNat a) + (1 : Int32))), .val (.int ((Int32.ofNat b) + (1 : Int32))), .val (.int f10), .val (.int f11), .val (.int f12), .val (.int f13), .val (.int f14), .val (.ref b1z), .val (.ref kn_9z), .unset, .unset] [])) _
          refine own_go (fun t k => XS.iload X67z.here hx rfl (hb hby at_200) rfl k) ?_
          by_cases hc76z : f13 = (0 : Int32)
          · refine own_go (fun t k => XS.ifYes X67z.here hx rfl (pc0 := 202) (pc' := 214) rfl (hb hby at_202) rfl ((if0 _ _).trans (teq hc76z).1) (by decide) (by decide) k) ?_
            show own_G p e below (T67z.setTop (mkF m 214 #[.val (.int p0), .val (.int p1), .val (.int p2), .val (.int p3), .val (.int (Int32.ofNat N)), .val (.int (Int32.ofNat a)), .val (.int (Int32.ofNat d)), .val (.int (Int32.ofNat b)), .val (.int ((Int32.ofNat a) + (1 : Int32))), .val (.int ((Int32.ofNat b) + (1 : Int32))), .val (.int f10), .val (.int f11), .val (.int f12), .val (.int f13), .val (.int f14), .val (.ref b1z), .val (.ref kn_9z), .unset, .unset] [])) _
            refine own_go (fun t k => XS.aload X67z.here hx rfl (hb hby at_214) rfl rfl k) ?_
            refine own_go (fun t k => XS.iload X67z.here hx rfl (hb hby at_216) rfl k) ?_
            obtain ⟨cq77z, kq77z, qa77z, qb77z, qc77z⟩ := isOf hZ (rfl : T67z.heap = _) f70z
            obtain ⟨_, _, ⟨T77z, L77z, k77z, n77z⟩, -, X77z, ⟨Lc77z, hQ77z, l77z, y77z, z77z⟩, st77z⟩ := X67z.virtualBack hx (y := own_m7) (z := own_m7) hown (own_mw hZ hw 30 rfl) (own_mw hZ hw 31 rfl) (notFace_of_selects (args := #[]) (own_mw hZ hw 33 rfl)) (own_mw hZ hw 33 rfl) (own_mw hZ hw 32 rfl) (by decide) (backOf (W := 0) (own_rq0 l Z a0 hw [] b1z N ((N + 63) / 64) A_3z K_3z rows_3z (own_R1 a) (own_upd (fun _ => .null) a (.ref kn_9z)) (own_upd (own_upd (fun _ => .null) a (.ref np_5z)) a .null) (fun _ => 0) (own_upd (fun _ => 0) a ((0 : Int64) + (1 : Int64))) (own_upd (fun _ => 0) a (((0 : Int64) + (1 : Int64)) + (1 : Int64))) (((0 : Int64) + (1 : Int64)) + (1 : Int64)) b1z b ((Int32.ofNat b) + (1 : Int32)) T67z.heap O68z I69z r3z_1 fr_b1z hN (by omega) (fun i hi => by omega) r3z_2 r3z_3 r3z_4 (own_p1 hbN hN) hbN (fun j _ _ q => absurd (own_hasR1 hab j) q) (own_upd_miss _ _ hba)) hZ (own_hw hw 34 rfl) (own_hw hw 3 rfl) (by decide) (by decide)) qa77z qc77z (g := (mkF m 218 #[.val (.int p0), .val (.int p1), .val (.int p2), .val (.int p3), .val (.int (Int32.ofNat N)), .val (.int (Int32.ofNat a)), .val (.int (Int32.ofNat d)), .val (.int (Int32.ofNat b)), .val (.int ((Int32.ofNat a) + (1 : Int32))), .val (.int ((Int32.ofNat b) + (1 : Int32))), .val (.int f10), .val (.int f11), .val (.int f12), .val (.int f13), .val (.int f14), .val (.ref b1z), .val (.ref kn_9z), .unset, .unset] [(.int ((Int32.ofNat b) + (1 : Int32))), (.ref b1z)])) rfl (by rw [hml]; rfl) (Steps.refl _) (argsL := [(.int ((Int32.ofNat b) + (1 : Int32)))]) (rest := []) (lenOf pd_2087992021 rfl) rfl (by show 2 * 0 + _ ≤ _; exact Nat.le_of_eq rfl) (hb hby at_218) (fun _ _ => ⟨rfl, rfl, (by decide : 138 + 1 ≤ _), (by decide : 1048 + 3 ≤ _)⟩)
            dsimp only [Pt.U, Pt.locs, Pt.cells, Pt.slots] at X77z l77z y77z z77z st77z hQ77z
            subst l77z y77z z77z
            obtain ⟨np_77z, kp_77z, rfl, NQ77z, K77zq, r77z_0, r77z_1, r77z_2, r77z_3⟩ := hQ77z
            refine own_tr st77z ?_
            have N77z := Fr.app N67z NQ77z
            have O78z := own_ext_keep O68z K77zq (fun y hy => Nat.le_trans fr_b1z (own_D.all r3z_1 y hy))
            have K78z := K68z.trans K77zq (fun y hy => Or.inr (Nat.le_trans lz_b1z (own_D.all r3z_1 y hy)))
            have lz_np_77z : h0.size ≤ np_77z := Nat.le_trans K68z.1 r77z_1
            have ne_b1z_np_77z : b1z ≠ np_77z := Nat.ne_of_lt (Nat.lt_of_lt_of_le f70z.lt r77z_1)
            have ne_np_5z_np_77z : np_5z ≠ np_77z := Nat.ne_of_lt (Nat.lt_of_lt_of_le f71z.lt r77z_1)
            have ne_kn_9z_np_77z : kn_9z ≠ np_77z := Nat.ne_of_lt (Nat.lt_of_lt_of_le f72z.lt r77z_1)
            show own_G p e below (T77z.setTop (mkF m 221 #[.val (.int p0), .val (.int p1), .val (.int p2), .val (.int p3), .val (.int (Int32.ofNat N)), .val (.int (Int32.ofNat a)), .val (.int (Int32.ofNat d)), .val (.int (Int32.ofNat b)), .val (.int ((Int32.ofNat a) + (1 : Int32))), .val (.int ((Int32.ofNat b) + (1 : Int32))), .val (.int f10), .val (.int f11), .val (.int f12), .val (.int f13), .val (.int f14), .val (.ref b1z), .val (.ref kn_9z), .unset, .unset] [])) _
            have f79z := (f70z.keep K77zq)
            have f80z := (f71z.keep K77zq r5z_2)
            have f81z := (f72z.keep K77zq)
            have f82z := (f73z.keep K77zq r9z_2)
            have f83z := (f74z.keep K77zq r9z_2)
            have V84z : own_L Z T77z.heap np_77z kp_77z ((N + 63) / 64) (fun _ => 0) := own_L.eqf r77z_3 (fun j _ => by rw [own_R1o hba]; exact own_zero_and _)
            refine own_go (fun t k => XS.iload X77z.here hx rfl (hb hby at_221) rfl k) ?_
            refine own_go (fun t k => XS.ifYes X77z.here hx rfl (pc0 := 223) (pc' := 234) rfl (hb hby at_223) rfl ((if0 _ _).trans (teq (g14 hc14z)).1) (by decide) (by decide) k) ?_
            show own_G p e below (T77z.setTop (mkF m 234 #[.val (.int p0), .val (.int p1), .val (.int p2), .val (.int p3), .val (.int (Int32.ofNat N)), .val (.int (Int32.ofNat a)), .val (.int (Int32.ofNat d)), .val (.int (Int32.ofNat b)), .val (.int ((Int32.ofNat a) + (1 : Int32))), .val (.int ((Int32.ofNat b) + (1 : Int32))), .val (.int f10), .val (.int f11), .val (.int f12), .val (.int f13), .val (.int f14), .val (.ref b1z), .val (.ref kn_9z), .unset, .unset] [])) _
            refine own_go (fun t k => XS.aload X77z.here hx rfl (hb hby at_234) rfl rfl k) ?_
            refine own_go (fun t k => XS.iload X77z.here hx rfl (hb hby at_236) rfl k) ?_
            obtain ⟨cq85z, kq85z, qa85z, qb85z, qc85z⟩ := isOf hZ (rfl : T77z.heap = _) f79z
            obtain ⟨_, _, ⟨T85z, L85z, k85z, n85z⟩, -, X85z, ⟨Lc85z, hQ85z, l85z, y85z, z85z⟩, st85z⟩ := X77z.virtualBack hx (y := own_m10) (z := own_m10) hown (own_mw hZ hw 84 rfl) (own_mw hZ hw 85 rfl) (notFace_of_selects (args := #[]) (own_mw hZ hw 87 rfl)) (own_mw hZ hw 87 rfl) (own_mw hZ hw 86 rfl) (by decide) (backOf (W := 0) (own_en0 l Z a0 hw [] b1z N ((N + 63) / 64) A_3z K_3z rows_3z (own_upd (own_rcI (own_R1 a) b N) b (own_or ((own_R1 a) b) b)) (own_upd (fun _ => .null) a (.ref kn_9z)) (own_upd (own_upd (own_upd (fun _ => .null) a (.ref np_5z)) a .null) b (.ref np_77z)) (own_or (fun _ => 0) b) (own_upd (own_upd (fun _ => 0) a ((0 : Int64) + (1 : Int64))) b ((((0 : Int64) + (1 : Int64)) + (1 : Int64)) + (1 : Int64))) (own_upd (fun _ => 0) a (((0 : Int64) + (1 : Int64)) + (1 : Int64))) ((((0 : Int64) + (1 : Int64)) + (1 : Int64)) + (1 : Int64)) b1z b ((Int32.ofNat b) + (1 : Int32)) np_77z kp_77z T77z.heap O78z r77z_0 r3z_1 fr_b1z hN (by omega) (fun i hi => by omega) r3z_2 r3z_3 r3z_4 (own_p1 hbN hN) hbN (own_upd_hit _ _ _) V84z r77z_2) hZ (own_hw hw 88 rfl) (own_hw hw 3 rfl) (by decide) (by decide)) qa85z qc85z (g := (mkF m 238 #[.val (.int p0), .val (.int p1), .val (.int p2), .val (.int p3), .val (.int (Int32.ofNat N)), .val (.int (Int32.ofNat a)), .val (.int (Int32.ofNat d)), .val (.int (Int32.ofNat b)), .val (.int ((Int32.ofNat a) + (1 : Int32))), .val (.int ((Int32.ofNat b) + (1 : Int32))), .val (.int f10), .val (.int f11), .val (.int f12), .val (.int f13), .val (.int f14), .val (.ref b1z), .val (.ref kn_9z), .unset, .unset] [(.int ((Int32.ofNat b) + (1 : Int32))), (.ref b1z)])) rfl (by rw [hml]; rfl) (Steps.refl _) (argsL := [(.int ((Int32.ofNat b) + (1 : Int32)))]) (rest := []) (lenOf pd_2087992008 rfl) rfl (by show 2 * 0 + _ ≤ _; exact Nat.le_of_eq rfl) (hb hby at_238) (fun _ _ => ⟨rfl, rfl, (by decide : 139 + 0 ≤ _), (by decide : 1051 + 0 ≤ _)⟩)
            dsimp only [Pt.U, Pt.locs, Pt.cells, Pt.slots] at X85z l85z y85z z85z st85z hQ85z
            subst l85z y85z z85z
            obtain ⟨rfl, NQ85z, K85zq, r85z_0⟩ := hQ85z
            refine own_tr st85z ?_
            have N85z := Fr.app N77z NQ85z
            have O86z := own_ext_keep O78z K85zq (fun y hy => Nat.le_trans fr_b1z (own_D.all r3z_1 y hy))
            have K86z := K78z.trans K85zq (fun y hy => Or.inr (Nat.le_trans lz_b1z (own_D.all r3z_1 y hy)))
            show own_G p e below (T85z.setTop (mkF m 241 #[.val (.int p0), .val (.int p1), .val (.int p2), .val (.int p3), .val (.int (Int32.ofNat N)), .val (.int (Int32.ofNat a)), .val (.int (Int32.ofNat d)), .val (.int (Int32.ofNat b)), .val (.int ((Int32.ofNat a) + (1 : Int32))), .val (.int ((Int32.ofNat b) + (1 : Int32))), .val (.int f10), .val (.int f11), .val (.int f12), .val (.int f13), .val (.int f14), .val (.ref b1z), .val (.ref kn_9z), .unset, .unset] [(.int (0 : Int32))])) _
            refine own_go (fun t k => XS.istore X85z.here hx rfl (hb hby at_241) rfl (l' := #[.val (.int p0), .val (.int p1), .val (.int p2), .val (.int p3), .val (.int (Int32.ofNat N)), .val (.int (Int32.ofNat a)), .val (.int (Int32.ofNat d)), .val (.int (Int32.ofNat b)), .val (.int ((Int32.ofNat a) + (1 : Int32))), .val (.int ((Int32.ofNat b) + (1 : Int32))), .val (.int f10), .val (.int f11), .val (.int f12), .val (.int f13), .val (.int f14), .val (.ref b1z), .val (.ref kn_9z), .val (.int (0 : Int32)), .unset]) rfl k) ?_
            refine own_go (fun t k => XS.iload X85z.here hx rfl (hb hby at_243) rfl k) ?_
            refine own_go (fun t k => XS.ifNo X85z.here hx rfl (hb hby at_245) rfl ((if0 _ _).trans (teq hc13z).2) k) ?_
            show own_G p e below (T85z.setTop (mkF m 248 #[.val (.int p0), .val (.int p1), .val (.int p2), .val (.int p3), .val (.int (Int32.ofNat N)), .val (.int (Int32.ofNat a)), .val (.int (Int32.ofNat d)), .val (.int (Int32.ofNat b)), .val (.int ((Int32.ofNat a) + (1 : Int32))), .val (.int ((Int32.ofNat b) + (1 : Int32))), .val (.int f10), .val (.int f11), .val (.int f12), .val (.int f13), .val (.int f14), .val (.ref b1z), .val (.ref kn_9z), .val (.int (0 : Int32)), .unset] [])) _
            refine own_go (fun t k => XS.iload X85z.here hx rfl (hb hby at_248) rfl k) ?_
            refine own_go (fun t k => XS.ifYes X85z.here hx rfl (pc0 := 250) (pc' := 267) rfl (hb hby at_250) rfl ((if0 _ _).trans (teq hc76z).1) (by decide) (by decide) k) ?_
            show own_G p e below (T85z.setTop (mkF m 267 #[.val (.int p0), .val (.int p1), .val (.int p2), .val (.int p3), .val (.int (Int32.ofNat N)), .val (.int (Int32.ofNat a)), .val (.int (Int32.ofNat d)), .val (.int (Int32.ofNat b)), .val (.int ((Int32.ofNat a) + (1 : Int32))), .val (.int ((Int32.ofNat b) + (1 : Int32))), .val (.int f10), .val (.int f11), .val (.int f12), .val (.int f13), .val (.int f14), .val (.ref b1z), .val (.ref kn_9z), .val (.int (0 : Int32)), .unset] [])) _
            refine own_go (fun t k => XS.iconst X85z.here hx rfl (hb hby at_267) k) ?_
            refine own_go (fun t k => XS.istore X85z.here hx rfl (hb hby at_268) rfl (l' := #[.val (.int p0), .val (.int p1), .val (.int p2), .val (.int p3), .val (.int (Int32.ofNat N)), .val (.int (Int32.ofNat a)), .val (.int (Int32.ofNat d)), .val (.int (Int32.ofNat b)), .val (.int ((Int32.ofNat a) + (1 : Int32))), .val (.int ((Int32.ofNat b) + (1 : Int32))), .val (.int f10), .val (.int f11), .val (.int f12), .val (.int f13), .val (.int f14), .val (.ref b1z), .val (.ref kn_9z), .val (.int (0 : Int32)), .val (.int (0 : Int32))]) rfl k) ?_
            refine own_go (fun t k => XS.iload X85z.here hx rfl (hb hby at_270) rfl k) ?_
            refine own_go (fun t k => XS.iload X85z.here hx rfl (hb hby at_272) rfl k) ?_
            show own_G p e below (T85z.setTop (mkF m 274 #[.val (.int p0), .val (.int p1), .val (.int p2), .val (.int p3), .val (.int (Int32.ofNat N)), .val (.int (Int32.ofNat a)), .val (.int (Int32.ofNat d)), .val (.int (Int32.ofNat b)), .val (.int ((Int32.ofNat a) + (1 : Int32))), .val (.int ((Int32.ofNat b) + (1 : Int32))), .val (.int f10), .val (.int f11), .val (.int f12), .val (.int f13), .val (.int f14), .val (.ref b1z), .val (.ref kn_9z), .val (.int (0 : Int32)), .val (.int (0 : Int32))] [(.int (0 : Int32)), (.int (0 : Int32))])) _
            refine own_go (fun t k => XS.icmpNo X85z.here hx rfl (hb hby at_274) rfl (teq (by decide : (0 : Int32) = (0 : Int32))).2 k) ?_
            show own_G p e below (T85z.setTop (mkF m 277 #[.val (.int p0), .val (.int p1), .val (.int p2), .val (.int p3), .val (.int (Int32.ofNat N)), .val (.int (Int32.ofNat a)), .val (.int (Int32.ofNat d)), .val (.int (Int32.ofNat b)), .val (.int ((Int32.ofNat a) + (1 : Int32))), .val (.int ((Int32.ofNat b) + (1 : Int32))), .val (.int f10), .val (.int f11), .val (.int f12), .val (.int f13), .val (.int f14), .val (.ref b1z), .val (.ref kn_9z), .val (.int (0 : Int32)), .val (.int (0 : Int32))] [])) _
            refine own_go (fun t k => XS.iconst X85z.here hx rfl (hb hby at_277) k) ?_
            refine own_go (fun t k => XS.goto X85z.here hx rfl (pc0 := 278) (pc' := 282) rfl (hb hby at_278) (by decide) (by decide) k) ?_
            show own_G p e below (T85z.setTop (mkF m 282 #[.val (.int p0), .val (.int p1), .val (.int p2), .val (.int p3), .val (.int (Int32.ofNat N)), .val (.int (Int32.ofNat a)), .val (.int (Int32.ofNat d)), .val (.int (Int32.ofNat b)), .val (.int ((Int32.ofNat a) + (1 : Int32))), .val (.int ((Int32.ofNat b) + (1 : Int32))), .val (.int f10), .val (.int f11), .val (.int f12), .val (.int f13), .val (.int f14), .val (.ref b1z), .val (.ref kn_9z), .val (.int (0 : Int32)), .val (.int (0 : Int32))] [(.int (1 : Int32))])) _
            exact own_ret X85z hx Bd.returns rfl (Or.inl ⟨rfl, Or.inr (Or.inl rfl), _, rfl⟩) (hb hby at_282) hlk (Nat.le_of_ble_eq_true rfl) (Nat.le_of_ble_eq_true rfl) (by show Q_own_law Z p0 p1 p2 p3 h0 _ T85z.heap _; exact ⟨rfl, N85z, K86z⟩)
          · refine own_go (fun t k => XS.ifNo X67z.here hx rfl (hb hby at_202) rfl ((if0 _ _).trans (feq hc76z).1) k) ?_
            show own_G p e below (T67z.setTop (mkF m 205 #[.val (.int p0), .val (.int p1), .val (.int p2), .val (.int p3), .val (.int (Int32.ofNat N)), .val (.int (Int32.ofNat a)), .val (.int (Int32.ofNat d)), .val (.int (Int32.ofNat b)), .val (.int ((Int32.ofNat a) + (1 : Int32))), .val (.int ((Int32.ofNat b) + (1 : Int32))), .val (.int f10), .val (.int f11), .val (.int f12), .val (.int f13), .val (.int f14), .val (.ref b1z), .val (.ref kn_9z), .unset, .unset] [])) _
            refine own_go (fun t k => XS.aload X67z.here hx rfl (hb hby at_205) rfl rfl k) ?_
            refine own_go (fun t k => XS.iload X67z.here hx rfl (hb hby at_207) rfl k) ?_
            refine own_go (fun t k => XS.aload X67z.here hx rfl (hb hby at_209) rfl rfl k) ?_
            have V87z : own_L Z T67z.heap (rows_3z a) (K_3z 6) ((N + 63) / 64) (own_one a) := by have t := (I69z.2.2.2.2.2.2.2.2.2.2.2.2.2.2.2 a haN).1; rw [own_R1a] at t; exact t
            obtain ⟨cq88z, kq88z, qa88z, qb88z, qc88z⟩ := isOf hZ (rfl : T67z.heap = _) f70z
            obtain ⟨_, _, ⟨T88z, L88z, k88z, n88z⟩, -, X88z, ⟨Lc88z, hQ88z, l88z, y88z, z88z⟩, st88z⟩ := X67z.virtualBack hx (y := own_m9) (z := own_m9) hown (own_mw hZ hw 67 rfl) (own_mw hZ hw 68 rfl) (notFace_of_selects (args := #[]) (own_mw hZ hw 70 rfl)) (own_mw hZ hw 70 rfl) (own_mw hZ hw 69 rfl) (by decide) (backOf (W := 0) (own_rc1 l Z a0 hw [] b1z N ((N + 63) / 64) A_3z K_3z rows_3z (own_R1 a) (own_upd (fun _ => .null) a (.ref kn_9z)) (own_upd (own_upd (fun _ => .null) a (.ref np_5z)) a .null) (fun _ => 0) (own_upd (fun _ => 0) a ((0 : Int64) + (1 : Int64))) (own_upd (fun _ => 0) a (((0 : Int64) + (1 : Int64)) + (1 : Int64))) (((0 : Int64) + (1 : Int64)) + (1 : Int64)) b1z b ((Int32.ofNat b) + (1 : Int32)) kn_9z a (rows_3z a) (K_3z 6) ((0 : Int64) + (1 : Int64)) T67z.heap O68z I69z r3z_1 fr_b1z hN (by omega) (fun i hi => by omega) r3z_2 r3z_3 r3z_4 (own_p1 hbN hN) hbN haN f73z f74z V87z (fun j => congrFun (own_R1o hba) j) (own_upd_miss _ _ hba) r9z_2 (r3z_1.2.2.2.2 a b haN hbN hab) (by rw [own_upd_hit]; decide)) hZ (own_hw hw 71 rfl) (own_hw hw 3 rfl) (by decide) (by decide)) qa88z qc88z (g := (mkF m 211 #[.val (.int p0), .val (.int p1), .val (.int p2), .val (.int p3), .val (.int (Int32.ofNat N)), .val (.int (Int32.ofNat a)), .val (.int (Int32.ofNat d)), .val (.int (Int32.ofNat b)), .val (.int ((Int32.ofNat a) + (1 : Int32))), .val (.int ((Int32.ofNat b) + (1 : Int32))), .val (.int f10), .val (.int f11), .val (.int f12), .val (.int f13), .val (.int f14), .val (.ref b1z), .val (.ref kn_9z), .unset, .unset] [(.ref kn_9z), (.int ((Int32.ofNat b) + (1 : Int32))), (.ref b1z)])) rfl (by rw [hml]; rfl) (Steps.refl _) (argsL := [(.int ((Int32.ofNat b) + (1 : Int32))), (.ref kn_9z)]) (rest := []) (lenOf pd_1040280026 rfl) rfl (by show 2 * 0 + _ ≤ _; exact Nat.le_of_eq rfl) (hb hby at_211) (fun _ _ => ⟨rfl, rfl, (by decide : 138 + 0 ≤ _), (by decide : 1048 + 0 ≤ _)⟩)
            dsimp only [Pt.U, Pt.locs, Pt.cells, Pt.slots] at X88z l88z y88z z88z st88z hQ88z
            subst l88z y88z z88z
            obtain ⟨rfl, NQ88z, K88zq, r88z_0⟩ := hQ88z
            refine own_tr st88z ?_
            have N88z := Fr.app N67z NQ88z
            have O89z := own_ext_keep O68z K88zq (fun y hy => Nat.le_trans fr_b1z (own_D.all r3z_1 y hy))
            have K89z := K68z.trans K88zq (fun y hy => Or.inr (Nat.le_trans lz_b1z (own_D.all r3z_1 y hy)))
            show own_G p e below (T88z.setTop (mkF m 214 #[.val (.int p0), .val (.int p1), .val (.int p2), .val (.int p3), .val (.int (Int32.ofNat N)), .val (.int (Int32.ofNat a)), .val (.int (Int32.ofNat d)), .val (.int (Int32.ofNat b)), .val (.int ((Int32.ofNat a) + (1 : Int32))), .val (.int ((Int32.ofNat b) + (1 : Int32))), .val (.int f10), .val (.int f11), .val (.int f12), .val (.int f13), .val (.int f14), .val (.ref b1z), .val (.ref kn_9z), .unset, .unset] [])) _
            have f90z := (f70z.keep K88zq)
            have f91z := (f71z.keep K88zq r5z_2)
            have f92z := (f72z.keep K88zq)
            have f93z := (f73z.keep K88zq r9z_2)
            have f94z := (f74z.keep K88zq r9z_2)
            have I95z : own_I Z T88z.heap b1z N ((N + 63) / 64) A_3z K_3z rows_3z (own_R2 a b) (own_upd (fun _ => .null) a (.ref kn_9z)) (own_upd (own_upd (fun _ => .null) a (.ref np_5z)) a .null) (fun _ => 0) (own_upd (fun _ => 0) a ((0 : Int64) + (1 : Int64))) (own_upd (fun _ => 0) a (((0 : Int64) + (1 : Int64)) + (1 : Int64))) (((0 : Int64) + (1 : Int64)) + (1 : Int64)) := own_I.cast r88z_0 rfl rfl
            refine own_go (fun t k => XS.aload X88z.here hx rfl (hb hby at_214) rfl rfl k) ?_
            refine own_go (fun t k => XS.iload X88z.here hx rfl (hb hby at_216) rfl k) ?_
            obtain ⟨cq96z, kq96z, qa96z, qb96z, qc96z⟩ := isOf hZ (rfl : T88z.heap = _) f90z
            obtain ⟨_, _, ⟨T96z, L96z, k96z, n96z⟩, -, X96z, ⟨Lc96z, hQ96z, l96z, y96z, z96z⟩, st96z⟩ := X88z.virtualBack hx (y := own_m7) (z := own_m7) hown (own_mw hZ hw 30 rfl) (own_mw hZ hw 31 rfl) (notFace_of_selects (args := #[]) (own_mw hZ hw 33 rfl)) (own_mw hZ hw 33 rfl) (own_mw hZ hw 32 rfl) (by decide) (backOf (W := 0) (own_rq0 l Z a0 hw [] b1z N ((N + 63) / 64) A_3z K_3z rows_3z (own_R2 a b) (own_upd (fun _ => .null) a (.ref kn_9z)) (own_upd (own_upd (fun _ => .null) a (.ref np_5z)) a .null) (fun _ => 0) (own_upd (fun _ => 0) a ((0 : Int64) + (1 : Int64))) (own_upd (fun _ => 0) a (((0 : Int64) + (1 : Int64)) + (1 : Int64))) (((0 : Int64) + (1 : Int64)) + (1 : Int64)) b1z b ((Int32.ofNat b) + (1 : Int32)) T88z.heap O89z I95z r3z_1 fr_b1z hN (by omega) (fun i hi => by omega) r3z_2 r3z_3 r3z_4 (own_p1 hbN hN) hbN (fun j _ _ q => absurd (own_hasR2 hab j) q) (own_upd_miss _ _ hba)) hZ (own_hw hw 34 rfl) (own_hw hw 3 rfl) (by decide) (by decide)) qa96z qc96z (g := (mkF m 218 #[.val (.int p0), .val (.int p1), .val (.int p2), .val (.int p3), .val (.int (Int32.ofNat N)), .val (.int (Int32.ofNat a)), .val (.int (Int32.ofNat d)), .val (.int (Int32.ofNat b)), .val (.int ((Int32.ofNat a) + (1 : Int32))), .val (.int ((Int32.ofNat b) + (1 : Int32))), .val (.int f10), .val (.int f11), .val (.int f12), .val (.int f13), .val (.int f14), .val (.ref b1z), .val (.ref kn_9z), .unset, .unset] [(.int ((Int32.ofNat b) + (1 : Int32))), (.ref b1z)])) rfl (by rw [hml]; rfl) (Steps.refl _) (argsL := [(.int ((Int32.ofNat b) + (1 : Int32)))]) (rest := []) (lenOf pd_2087992021 rfl) rfl (by show 2 * 0 + _ ≤ _; exact Nat.le_of_eq rfl) (hb hby at_218) (fun _ _ => ⟨rfl, rfl, (by decide : 138 + 1 ≤ _), (by decide : 1048 + 3 ≤ _)⟩)
            dsimp only [Pt.U, Pt.locs, Pt.cells, Pt.slots] at X96z l96z y96z z96z st96z hQ96z
            subst l96z y96z z96z
            obtain ⟨np_96z, kp_96z, rfl, NQ96z, K96zq, r96z_0, r96z_1, r96z_2, r96z_3⟩ := hQ96z
            refine own_tr st96z ?_
            have N96z := Fr.app N88z NQ96z
            have O97z := own_ext_keep O89z K96zq (fun y hy => Nat.le_trans fr_b1z (own_D.all r3z_1 y hy))
            have K97z := K89z.trans K96zq (fun y hy => Or.inr (Nat.le_trans lz_b1z (own_D.all r3z_1 y hy)))
            have lz_np_96z : h0.size ≤ np_96z := Nat.le_trans K89z.1 r96z_1
            have ne_b1z_np_96z : b1z ≠ np_96z := Nat.ne_of_lt (Nat.lt_of_lt_of_le f90z.lt r96z_1)
            have ne_np_5z_np_96z : np_5z ≠ np_96z := Nat.ne_of_lt (Nat.lt_of_lt_of_le f91z.lt r96z_1)
            have ne_kn_9z_np_96z : kn_9z ≠ np_96z := Nat.ne_of_lt (Nat.lt_of_lt_of_le f92z.lt r96z_1)
            show own_G p e below (T96z.setTop (mkF m 221 #[.val (.int p0), .val (.int p1), .val (.int p2), .val (.int p3), .val (.int (Int32.ofNat N)), .val (.int (Int32.ofNat a)), .val (.int (Int32.ofNat d)), .val (.int (Int32.ofNat b)), .val (.int ((Int32.ofNat a) + (1 : Int32))), .val (.int ((Int32.ofNat b) + (1 : Int32))), .val (.int f10), .val (.int f11), .val (.int f12), .val (.int f13), .val (.int f14), .val (.ref b1z), .val (.ref kn_9z), .unset, .unset] [])) _
            have f98z := (f90z.keep K96zq)
            have f99z := (f91z.keep K96zq r5z_2)
            have f100z := (f92z.keep K96zq)
            have f101z := (f93z.keep K96zq r9z_2)
            have f102z := (f94z.keep K96zq r9z_2)
            have V103z : own_L Z T96z.heap np_96z kp_96z ((N + 63) / 64) (fun _ => 0) := own_L.eqf r96z_3 (fun j _ => by rw [own_R2b]; exact own_and_zero _)
            refine own_go (fun t k => XS.iload X96z.here hx rfl (hb hby at_221) rfl k) ?_
            refine own_go (fun t k => XS.ifYes X96z.here hx rfl (pc0 := 223) (pc' := 234) rfl (hb hby at_223) rfl ((if0 _ _).trans (teq (g14 hc14z)).1) (by decide) (by decide) k) ?_
            show own_G p e below (T96z.setTop (mkF m 234 #[.val (.int p0), .val (.int p1), .val (.int p2), .val (.int p3), .val (.int (Int32.ofNat N)), .val (.int (Int32.ofNat a)), .val (.int (Int32.ofNat d)), .val (.int (Int32.ofNat b)), .val (.int ((Int32.ofNat a) + (1 : Int32))), .val (.int ((Int32.ofNat b) + (1 : Int32))), .val (.int f10), .val (.int f11), .val (.int f12), .val (.int f13), .val (.int f14), .val (.ref b1z), .val (.ref kn_9z), .unset, .unset] [])) _
            refine own_go (fun t k => XS.aload X96z.here hx rfl (hb hby at_234) rfl rfl k) ?_
            refine own_go (fun t k => XS.iload X96z.here hx rfl (hb hby at_236) rfl k) ?_
            obtain ⟨cq104z, kq104z, qa104z, qb104z, qc104z⟩ := isOf hZ (rfl : T96z.heap = _) f98z
            obtain ⟨_, _, ⟨T104z, L104z, k104z, n104z⟩, -, X104z, ⟨Lc104z, hQ104z, l104z, y104z, z104z⟩, st104z⟩ := X96z.virtualBack hx (y := own_m10) (z := own_m10) hown (own_mw hZ hw 84 rfl) (own_mw hZ hw 85 rfl) (notFace_of_selects (args := #[]) (own_mw hZ hw 87 rfl)) (own_mw hZ hw 87 rfl) (own_mw hZ hw 86 rfl) (by decide) (backOf (W := 0) (own_en0 l Z a0 hw [] b1z N ((N + 63) / 64) A_3z K_3z rows_3z (own_upd (own_rcI (own_R2 a b) b N) b (own_or ((own_R2 a b) b) b)) (own_upd (fun _ => .null) a (.ref kn_9z)) (own_upd (own_upd (own_upd (fun _ => .null) a (.ref np_5z)) a .null) b (.ref np_96z)) (own_or (fun _ => 0) b) (own_upd (own_upd (fun _ => 0) a ((0 : Int64) + (1 : Int64))) b ((((0 : Int64) + (1 : Int64)) + (1 : Int64)) + (1 : Int64))) (own_upd (fun _ => 0) a (((0 : Int64) + (1 : Int64)) + (1 : Int64))) ((((0 : Int64) + (1 : Int64)) + (1 : Int64)) + (1 : Int64)) b1z b ((Int32.ofNat b) + (1 : Int32)) np_96z kp_96z T96z.heap O97z r96z_0 r3z_1 fr_b1z hN (by omega) (fun i hi => by omega) r3z_2 r3z_3 r3z_4 (own_p1 hbN hN) hbN (own_upd_hit _ _ _) V103z r96z_2) hZ (own_hw hw 88 rfl) (own_hw hw 3 rfl) (by decide) (by decide)) qa104z qc104z (g := (mkF m 238 #[.val (.int p0), .val (.int p1), .val (.int p2), .val (.int p3), .val (.int (Int32.ofNat N)), .val (.int (Int32.ofNat a)), .val (.int (Int32.ofNat d)), .val (.int (Int32.ofNat b)), .val (.int ((Int32.ofNat a) + (1 : Int32))), .val (.int ((Int32.ofNat b) + (1 : Int32))), .val (.int f10), .val (.int f11), .val (.int f12), .val (.int f13), .val (.int f14), .val (.ref b1z), .val (.ref kn_9z), .unset, .unset] [(.int ((Int32.ofNat b) + (1 : Int32))), (.ref b1z)])) rfl (by rw [hml]; rfl) (Steps.refl _) (argsL := [(.int ((Int32.ofNat b) + (1 : Int32)))]) (rest := []) (lenOf pd_2087992008 rfl) rfl (by show 2 * 0 + _ ≤ _; exact Nat.le_of_eq rfl) (hb hby at_238) (fun _ _ => ⟨rfl, rfl, (by decide : 139 + 0 ≤ _), (by decide : 1051 + 0 ≤ _)⟩)
            dsimp only [Pt.U, Pt.locs, Pt.cells, Pt.slots] at X104z l104z y104z z104z st104z hQ104z
            subst l104z y104z z104z
            obtain ⟨rfl, NQ104z, K104zq, r104z_0⟩ := hQ104z
            refine own_tr st104z ?_
            have N104z := Fr.app N96z NQ104z
            have O105z := own_ext_keep O97z K104zq (fun y hy => Nat.le_trans fr_b1z (own_D.all r3z_1 y hy))
            have K105z := K97z.trans K104zq (fun y hy => Or.inr (Nat.le_trans lz_b1z (own_D.all r3z_1 y hy)))
            show own_G p e below (T104z.setTop (mkF m 241 #[.val (.int p0), .val (.int p1), .val (.int p2), .val (.int p3), .val (.int (Int32.ofNat N)), .val (.int (Int32.ofNat a)), .val (.int (Int32.ofNat d)), .val (.int (Int32.ofNat b)), .val (.int ((Int32.ofNat a) + (1 : Int32))), .val (.int ((Int32.ofNat b) + (1 : Int32))), .val (.int f10), .val (.int f11), .val (.int f12), .val (.int f13), .val (.int f14), .val (.ref b1z), .val (.ref kn_9z), .unset, .unset] [(.int (0 : Int32))])) _
            refine own_go (fun t k => XS.istore X104z.here hx rfl (hb hby at_241) rfl (l' := #[.val (.int p0), .val (.int p1), .val (.int p2), .val (.int p3), .val (.int (Int32.ofNat N)), .val (.int (Int32.ofNat a)), .val (.int (Int32.ofNat d)), .val (.int (Int32.ofNat b)), .val (.int ((Int32.ofNat a) + (1 : Int32))), .val (.int ((Int32.ofNat b) + (1 : Int32))), .val (.int f10), .val (.int f11), .val (.int f12), .val (.int f13), .val (.int f14), .val (.ref b1z), .val (.ref kn_9z), .val (.int (0 : Int32)), .unset]) rfl k) ?_
            refine own_go (fun t k => XS.iload X104z.here hx rfl (hb hby at_243) rfl k) ?_
            refine own_go (fun t k => XS.ifNo X104z.here hx rfl (hb hby at_245) rfl ((if0 _ _).trans (teq hc13z).2) k) ?_
            show own_G p e below (T104z.setTop (mkF m 248 #[.val (.int p0), .val (.int p1), .val (.int p2), .val (.int p3), .val (.int (Int32.ofNat N)), .val (.int (Int32.ofNat a)), .val (.int (Int32.ofNat d)), .val (.int (Int32.ofNat b)), .val (.int ((Int32.ofNat a) + (1 : Int32))), .val (.int ((Int32.ofNat b) + (1 : Int32))), .val (.int f10), .val (.int f11), .val (.int f12), .val (.int f13), .val (.int f14), .val (.ref b1z), .val (.ref kn_9z), .val (.int (0 : Int32)), .unset] [])) _
            refine own_go (fun t k => XS.iload X104z.here hx rfl (hb hby at_248) rfl k) ?_
            refine own_go (fun t k => XS.ifNo X104z.here hx rfl (hb hby at_250) rfl ((if0 _ _).trans (feq hc76z).1) k) ?_
            show own_G p e below (T104z.setTop (mkF m 253 #[.val (.int p0), .val (.int p1), .val (.int p2), .val (.int p3), .val (.int (Int32.ofNat N)), .val (.int (Int32.ofNat a)), .val (.int (Int32.ofNat d)), .val (.int (Int32.ofNat b)), .val (.int ((Int32.ofNat a) + (1 : Int32))), .val (.int ((Int32.ofNat b) + (1 : Int32))), .val (.int f10), .val (.int f11), .val (.int f12), .val (.int f13), .val (.int f14), .val (.ref b1z), .val (.ref kn_9z), .val (.int (0 : Int32)), .unset] [])) _
            refine own_go (fun t k => XS.iload X104z.here hx rfl (hb hby at_253) rfl k) ?_
            refine own_go (fun t k => XS.ifYes X104z.here hx rfl (pc0 := 255) (pc' := 267) rfl (hb hby at_255) rfl ((if0 _ _).trans (feq hc14z).2) (by decide) (by decide) k) ?_
            show own_G p e below (T104z.setTop (mkF m 267 #[.val (.int p0), .val (.int p1), .val (.int p2), .val (.int p3), .val (.int (Int32.ofNat N)), .val (.int (Int32.ofNat a)), .val (.int (Int32.ofNat d)), .val (.int (Int32.ofNat b)), .val (.int ((Int32.ofNat a) + (1 : Int32))), .val (.int ((Int32.ofNat b) + (1 : Int32))), .val (.int f10), .val (.int f11), .val (.int f12), .val (.int f13), .val (.int f14), .val (.ref b1z), .val (.ref kn_9z), .val (.int (0 : Int32)), .unset] [])) _
            refine own_go (fun t k => XS.iconst X104z.here hx rfl (hb hby at_267) k) ?_
            refine own_go (fun t k => XS.istore X104z.here hx rfl (hb hby at_268) rfl (l' := #[.val (.int p0), .val (.int p1), .val (.int p2), .val (.int p3), .val (.int (Int32.ofNat N)), .val (.int (Int32.ofNat a)), .val (.int (Int32.ofNat d)), .val (.int (Int32.ofNat b)), .val (.int ((Int32.ofNat a) + (1 : Int32))), .val (.int ((Int32.ofNat b) + (1 : Int32))), .val (.int f10), .val (.int f11), .val (.int f12), .val (.int f13), .val (.int f14), .val (.ref b1z), .val (.ref kn_9z), .val (.int (0 : Int32)), .val (.int (0 : Int32))]) rfl k) ?_
            refine own_go (fun t k => XS.iload X104z.here hx rfl (hb hby at_270) rfl k) ?_
            refine own_go (fun t k => XS.iload X104z.here hx rfl (hb hby at_272) rfl k) ?_
            show own_G p e below (T104z.setTop (mkF m 274 #[.val (.int p0), .val (.int p1), .val (.int p2), .val (.int p3), .val (.int (Int32.ofNat N)), .val (.int (Int32.ofNat a)), .val (.int (Int32.ofNat d)), .val (.int (Int32.ofNat b)), .val (.int ((Int32.ofNat a) + (1 : Int32))), .val (.int ((Int32.ofNat b) + (1 : Int32))), .val (.int f10), .val (.int f11), .val (.int f12), .val (.int f13), .val (.int f14), .val (.ref b1z), .val (.ref kn_9z), .val (.int (0 : Int32)), .val (.int (0 : Int32))] [(.int (0 : Int32)), (.int (0 : Int32))])) _
            refine own_go (fun t k => XS.icmpNo X104z.here hx rfl (hb hby at_274) rfl (teq (by decide : (0 : Int32) = (0 : Int32))).2 k) ?_
            show own_G p e below (T104z.setTop (mkF m 277 #[.val (.int p0), .val (.int p1), .val (.int p2), .val (.int p3), .val (.int (Int32.ofNat N)), .val (.int (Int32.ofNat a)), .val (.int (Int32.ofNat d)), .val (.int (Int32.ofNat b)), .val (.int ((Int32.ofNat a) + (1 : Int32))), .val (.int ((Int32.ofNat b) + (1 : Int32))), .val (.int f10), .val (.int f11), .val (.int f12), .val (.int f13), .val (.int f14), .val (.ref b1z), .val (.ref kn_9z), .val (.int (0 : Int32)), .val (.int (0 : Int32))] [])) _
            refine own_go (fun t k => XS.iconst X104z.here hx rfl (hb hby at_277) k) ?_
            refine own_go (fun t k => XS.goto X104z.here hx rfl (pc0 := 278) (pc' := 282) rfl (hb hby at_278) (by decide) (by decide) k) ?_
            show own_G p e below (T104z.setTop (mkF m 282 #[.val (.int p0), .val (.int p1), .val (.int p2), .val (.int p3), .val (.int (Int32.ofNat N)), .val (.int (Int32.ofNat a)), .val (.int (Int32.ofNat d)), .val (.int (Int32.ofNat b)), .val (.int ((Int32.ofNat a) + (1 : Int32))), .val (.int ((Int32.ofNat b) + (1 : Int32))), .val (.int f10), .val (.int f11), .val (.int f12), .val (.int f13), .val (.int f14), .val (.ref b1z), .val (.ref kn_9z), .val (.int (0 : Int32)), .val (.int (0 : Int32))] [(.int (1 : Int32))])) _
            exact own_ret X104z hx Bd.returns rfl (Or.inl ⟨rfl, Or.inr (Or.inl rfl), _, rfl⟩) (hb hby at_282) hlk (Nat.le_of_ble_eq_true rfl) (Nat.le_of_ble_eq_true rfl) (by show Q_own_law Z p0 p1 p2 p3 h0 _ T104z.heap _; exact ⟨rfl, N104z, K105z⟩)
        · refine own_go (fun t k => XS.ifNo X67z.here hx rfl (hb hby at_190) rfl ((if0 _ _).trans (feq hc75z).1) k) ?_
          show own_G p e below (T67z.setTop (mkF m 193 #[.val (.int p0), .val (.int p1), .val (.int p2), .val (.int p3), .val (.int (Int32.ofNat N)), .val (.int (Int32.ofNat a)), .val (.int (Int32.ofNat d)), .val (.int (Int32.ofNat b)), .val (.int ((Int32.ofNat a) + (1 : Int32))), .val (.int ((Int32.ofNat b) + (1 : Int32))), .val (.int f10), .val (.int f11), .val (.int f12), .val (.int f13), .val (.int f14), .val (.ref b1z), .val (.ref kn_9z), .unset, .unset] [])) _
          refine own_go (fun t k => XS.aload X67z.here hx rfl (hb hby at_193) rfl rfl k) ?_
          refine own_go (fun t k => XS.iload X67z.here hx rfl (hb hby at_195) rfl k) ?_
          obtain ⟨cq106z, kq106z, qa106z, qb106z, qc106z⟩ := isOf hZ (rfl : T67z.heap = _) f70z
          obtain ⟨_, _, ⟨T106z, L106z, k106z, n106z⟩, -, X106z, ⟨Lc106z, hQ106z, l106z, y106z, z106z⟩, st106z⟩ := X67z.virtualBack hx (y := own_m7) (z := own_m7) hown (own_mw hZ hw 30 rfl) (own_mw hZ hw 31 rfl) (notFace_of_selects (args := #[]) (own_mw hZ hw 33 rfl)) (own_mw hZ hw 33 rfl) (own_mw hZ hw 32 rfl) (by decide) (backOf (W := 0) (own_rqc l Z a0 hw [] b1z N ((N + 63) / 64) A_3z K_3z rows_3z (own_R1 a) (own_upd (fun _ => .null) a (.ref kn_9z)) (own_upd (own_upd (fun _ => .null) a (.ref np_5z)) a .null) (fun _ => 0) (own_upd (fun _ => 0) a ((0 : Int64) + (1 : Int64))) (own_upd (fun _ => 0) a (((0 : Int64) + (1 : Int64)) + (1 : Int64))) (((0 : Int64) + (1 : Int64)) + (1 : Int64)) b1z a ((Int32.ofNat a) + (1 : Int32)) kn_9z T67z.heap O68z I69z r3z_1 fr_b1z hN (by omega) (fun i hi => by omega) r3z_2 r3z_3 r3z_4 (own_p1 haN hN) haN (fun j _ ne _ => own_upd_miss _ _ ne) (own_upd_hit _ _ _) f73z r9z_2) hZ (own_hw hw 34 rfl) (own_hw hw 3 rfl) (by decide) (by decide)) qa106z qc106z (g := (mkF m 197 #[.val (.int p0), .val (.int p1), .val (.int p2), .val (.int p3), .val (.int (Int32.ofNat N)), .val (.int (Int32.ofNat a)), .val (.int (Int32.ofNat d)), .val (.int (Int32.ofNat b)), .val (.int ((Int32.ofNat a) + (1 : Int32))), .val (.int ((Int32.ofNat b) + (1 : Int32))), .val (.int f10), .val (.int f11), .val (.int f12), .val (.int f13), .val (.int f14), .val (.ref b1z), .val (.ref kn_9z), .unset, .unset] [(.int ((Int32.ofNat a) + (1 : Int32))), (.ref b1z)])) rfl (by rw [hml]; rfl) (Steps.refl _) (argsL := [(.int ((Int32.ofNat a) + (1 : Int32)))]) (rest := []) (lenOf pd_2087992021 rfl) rfl (by show 2 * 0 + _ ≤ _; exact Nat.le_of_eq rfl) (hb hby at_197) (fun _ _ => ⟨rfl, rfl, (by decide : 138 + 2 ≤ _), (by decide : 1048 + 6 ≤ _)⟩)
          dsimp only [Pt.U, Pt.locs, Pt.cells, Pt.slots] at X106z l106z y106z z106z st106z hQ106z
          subst l106z y106z z106z
          obtain ⟨np_106z, kp_106z, nr_106z, rfl, NQ106z, K106zq, r106z_0, r106z_1, r106z_2, r106z_3, r106z_4, r106z_5, r106z_6, r106z_7⟩ := hQ106z
          refine own_tr st106z ?_
          have N106z := Fr.app N67z NQ106z
          have O107z := own_ext_keep O68z K106zq (fun y hy => Nat.le_trans fr_b1z (own_D.all r3z_1 y hy))
          have K107z := K68z.trans K106zq (fun y hy => Or.inr (Nat.le_trans lz_b1z (own_D.all r3z_1 y hy)))
          have lz_np_106z : h0.size ≤ np_106z := Nat.le_trans K68z.1 r106z_1
          have ne_b1z_np_106z : b1z ≠ np_106z := Nat.ne_of_lt (Nat.lt_of_lt_of_le f70z.lt r106z_1)
          have ne_np_5z_np_106z : np_5z ≠ np_106z := Nat.ne_of_lt (Nat.lt_of_lt_of_le f71z.lt r106z_1)
          have ne_kn_9z_np_106z : kn_9z ≠ np_106z := Nat.ne_of_lt (Nat.lt_of_lt_of_le f72z.lt r106z_1)
          have lz_nr_106z : h0.size ≤ nr_106z := Nat.le_trans K68z.1 r106z_4
          have ne_b1z_nr_106z : b1z ≠ nr_106z := Nat.ne_of_lt (Nat.lt_of_lt_of_le f70z.lt r106z_4)
          have ne_np_5z_nr_106z : np_5z ≠ nr_106z := Nat.ne_of_lt (Nat.lt_of_lt_of_le f71z.lt r106z_4)
          have ne_kn_9z_nr_106z : kn_9z ≠ nr_106z := Nat.ne_of_lt (Nat.lt_of_lt_of_le f72z.lt r106z_4)
          show own_G p e below (T106z.setTop (mkF m 200 #[.val (.int p0), .val (.int p1), .val (.int p2), .val (.int p3), .val (.int (Int32.ofNat N)), .val (.int (Int32.ofNat a)), .val (.int (Int32.ofNat d)), .val (.int (Int32.ofNat b)), .val (.int ((Int32.ofNat a) + (1 : Int32))), .val (.int ((Int32.ofNat b) + (1 : Int32))), .val (.int f10), .val (.int f11), .val (.int f12), .val (.int f13), .val (.int f14), .val (.ref b1z), .val (.ref kn_9z), .unset, .unset] [])) _
          have f108z := (f70z.keep K106zq)
          have f109z := (f72z.keep K106zq)
          have f110z := (f73z.keep K106zq r9z_2)
          have f111z := (f74z.keep K106zq r9z_2)
          have I112z : own_I Z T106z.heap b1z N ((N + 63) / 64) A_3z K_3z (own_upd rows_3z a nr_106z) (own_R1 a) (own_upd (fun _ => .null) a (.ref kn_9z)) (own_upd (own_upd (own_upd (fun _ => .null) a (.ref np_5z)) a .null) a (.ref np_106z)) (own_one a) (own_upd (own_upd (fun _ => 0) a ((0 : Int64) + (1 : Int64))) a ((((0 : Int64) + (1 : Int64)) + (1 : Int64)) + (1 : Int64))) (own_upd (fun _ => 0) a (((0 : Int64) + (1 : Int64)) + (1 : Int64))) ((((0 : Int64) + (1 : Int64)) + (1 : Int64)) + (1 : Int64)) := own_I.cast r106z_0 (own_rq2 a N) (own_or0 a)
          have kno113z := own_ws_upd (q := a) r9z_2 ne_kn_9z_nr_106z
          have V114z : own_L Z T106z.heap (rows_3z a) (K_3z 6) ((N + 63) / 64) (own_one a) := own_L.eqf r106z_7 (fun j _ => congrFun (own_R1a) j)
          refine own_go (fun t k => XS.iload X106z.here hx rfl (hb hby at_200) rfl k) ?_
          by_cases hc115z : f13 = (0 : Int32)
          · refine own_go (fun t k => XS.ifYes X106z.here hx rfl (pc0 := 202) (pc' := 214) rfl (hb hby at_202) rfl ((if0 _ _).trans (teq hc115z).1) (by decide) (by decide) k) ?_
            show own_G p e below (T106z.setTop (mkF m 214 #[.val (.int p0), .val (.int p1), .val (.int p2), .val (.int p3), .val (.int (Int32.ofNat N)), .val (.int (Int32.ofNat a)), .val (.int (Int32.ofNat d)), .val (.int (Int32.ofNat b)), .val (.int ((Int32.ofNat a) + (1 : Int32))), .val (.int ((Int32.ofNat b) + (1 : Int32))), .val (.int f10), .val (.int f11), .val (.int f12), .val (.int f13), .val (.int f14), .val (.ref b1z), .val (.ref kn_9z), .unset, .unset] [])) _
            refine own_go (fun t k => XS.aload X106z.here hx rfl (hb hby at_214) rfl rfl k) ?_
            refine own_go (fun t k => XS.iload X106z.here hx rfl (hb hby at_216) rfl k) ?_
            obtain ⟨cq116z, kq116z, qa116z, qb116z, qc116z⟩ := isOf hZ (rfl : T106z.heap = _) f108z
            obtain ⟨_, _, ⟨T116z, L116z, k116z, n116z⟩, -, X116z, ⟨Lc116z, hQ116z, l116z, y116z, z116z⟩, st116z⟩ := X106z.virtualBack hx (y := own_m7) (z := own_m7) hown (own_mw hZ hw 30 rfl) (own_mw hZ hw 31 rfl) (notFace_of_selects (args := #[]) (own_mw hZ hw 33 rfl)) (own_mw hZ hw 33 rfl) (own_mw hZ hw 32 rfl) (by decide) (backOf (W := 0) (own_rq0 l Z a0 hw [] b1z N ((N + 63) / 64) A_3z K_3z (own_upd rows_3z a nr_106z) (own_R1 a) (own_upd (fun _ => .null) a (.ref kn_9z)) (own_upd (own_upd (own_upd (fun _ => .null) a (.ref np_5z)) a .null) a (.ref np_106z)) (own_one a) (own_upd (own_upd (fun _ => 0) a ((0 : Int64) + (1 : Int64))) a ((((0 : Int64) + (1 : Int64)) + (1 : Int64)) + (1 : Int64))) (own_upd (fun _ => 0) a (((0 : Int64) + (1 : Int64)) + (1 : Int64))) ((((0 : Int64) + (1 : Int64)) + (1 : Int64)) + (1 : Int64)) b1z b ((Int32.ofNat b) + (1 : Int32)) T106z.heap O107z I112z r106z_6 fr_b1z hN (by omega) (fun i hi => by omega) r3z_2 r3z_3 r3z_4 (own_p1 hbN hN) hbN (fun j _ _ q => absurd (own_hasR1 hab j) q) (own_upd_miss _ _ hba)) hZ (own_hw hw 34 rfl) (own_hw hw 3 rfl) (by decide) (by decide)) qa116z qc116z (g := (mkF m 218 #[.val (.int p0), .val (.int p1), .val (.int p2), .val (.int p3), .val (.int (Int32.ofNat N)), .val (.int (Int32.ofNat a)), .val (.int (Int32.ofNat d)), .val (.int (Int32.ofNat b)), .val (.int ((Int32.ofNat a) + (1 : Int32))), .val (.int ((Int32.ofNat b) + (1 : Int32))), .val (.int f10), .val (.int f11), .val (.int f12), .val (.int f13), .val (.int f14), .val (.ref b1z), .val (.ref kn_9z), .unset, .unset] [(.int ((Int32.ofNat b) + (1 : Int32))), (.ref b1z)])) rfl (by rw [hml]; rfl) (Steps.refl _) (argsL := [(.int ((Int32.ofNat b) + (1 : Int32)))]) (rest := []) (lenOf pd_2087992021 rfl) rfl (by show 2 * 0 + _ ≤ _; exact Nat.le_of_eq rfl) (hb hby at_218) (fun _ _ => ⟨rfl, rfl, (by decide : 140 + 1 ≤ _), (by decide : 1054 + 3 ≤ _)⟩)
            dsimp only [Pt.U, Pt.locs, Pt.cells, Pt.slots] at X116z l116z y116z z116z st116z hQ116z
            subst l116z y116z z116z
            obtain ⟨np_116z, kp_116z, rfl, NQ116z, K116zq, r116z_0, r116z_1, r116z_2, r116z_3⟩ := hQ116z
            refine own_tr st116z ?_
            have N116z := Fr.app N106z NQ116z
            have O117z := own_ext_keep O107z K116zq (fun y hy => Nat.le_trans fr_b1z (own_D.all r106z_6 y hy))
            have K117z := K107z.trans K116zq (fun y hy => Or.inr (Nat.le_trans lz_b1z (own_D.all r106z_6 y hy)))
            have lz_np_116z : h0.size ≤ np_116z := Nat.le_trans K107z.1 r116z_1
            have ne_b1z_np_116z : b1z ≠ np_116z := Nat.ne_of_lt (Nat.lt_of_lt_of_le f108z.lt r116z_1)
            have ne_kn_9z_np_116z : kn_9z ≠ np_116z := Nat.ne_of_lt (Nat.lt_of_lt_of_le f109z.lt r116z_1)
            show own_G p e below (T116z.setTop (mkF m 221 #[.val (.int p0), .val (.int p1), .val (.int p2), .val (.int p3), .val (.int (Int32.ofNat N)), .val (.int (Int32.ofNat a)), .val (.int (Int32.ofNat d)), .val (.int (Int32.ofNat b)), .val (.int ((Int32.ofNat a) + (1 : Int32))), .val (.int ((Int32.ofNat b) + (1 : Int32))), .val (.int f10), .val (.int f11), .val (.int f12), .val (.int f13), .val (.int f14), .val (.ref b1z), .val (.ref kn_9z), .unset, .unset] [])) _
            have f118z := (f108z.keep K116zq)
            have f119z := (f109z.keep K116zq)
            have f120z := (f110z.keep K116zq kno113z)
            have f121z := (f111z.keep K116zq kno113z)
            have V122z : own_L Z T116z.heap np_116z kp_116z ((N + 63) / 64) (fun _ => 0) := own_L.eqf r116z_3 (fun j _ => by rw [own_R1o hba]; exact own_zero_and _)
            refine own_go (fun t k => XS.iload X116z.here hx rfl (hb hby at_221) rfl k) ?_
            refine own_go (fun t k => XS.ifYes X116z.here hx rfl (pc0 := 223) (pc' := 234) rfl (hb hby at_223) rfl ((if0 _ _).trans (teq (g14 hc14z)).1) (by decide) (by decide) k) ?_
            show own_G p e below (T116z.setTop (mkF m 234 #[.val (.int p0), .val (.int p1), .val (.int p2), .val (.int p3), .val (.int (Int32.ofNat N)), .val (.int (Int32.ofNat a)), .val (.int (Int32.ofNat d)), .val (.int (Int32.ofNat b)), .val (.int ((Int32.ofNat a) + (1 : Int32))), .val (.int ((Int32.ofNat b) + (1 : Int32))), .val (.int f10), .val (.int f11), .val (.int f12), .val (.int f13), .val (.int f14), .val (.ref b1z), .val (.ref kn_9z), .unset, .unset] [])) _
            refine own_go (fun t k => XS.aload X116z.here hx rfl (hb hby at_234) rfl rfl k) ?_
            refine own_go (fun t k => XS.iload X116z.here hx rfl (hb hby at_236) rfl k) ?_
            obtain ⟨cq123z, kq123z, qa123z, qb123z, qc123z⟩ := isOf hZ (rfl : T116z.heap = _) f118z
            obtain ⟨_, _, ⟨T123z, L123z, k123z, n123z⟩, -, X123z, ⟨Lc123z, hQ123z, l123z, y123z, z123z⟩, st123z⟩ := X116z.virtualBack hx (y := own_m10) (z := own_m10) hown (own_mw hZ hw 84 rfl) (own_mw hZ hw 85 rfl) (notFace_of_selects (args := #[]) (own_mw hZ hw 87 rfl)) (own_mw hZ hw 87 rfl) (own_mw hZ hw 86 rfl) (by decide) (backOf (W := 0) (own_en0 l Z a0 hw [] b1z N ((N + 63) / 64) A_3z K_3z (own_upd rows_3z a nr_106z) (own_upd (own_rcI (own_R1 a) b N) b (own_or ((own_R1 a) b) b)) (own_upd (fun _ => .null) a (.ref kn_9z)) (own_upd (own_upd (own_upd (own_upd (fun _ => .null) a (.ref np_5z)) a .null) a (.ref np_106z)) b (.ref np_116z)) (own_or (own_one a) b) (own_upd (own_upd (own_upd (fun _ => 0) a ((0 : Int64) + (1 : Int64))) a ((((0 : Int64) + (1 : Int64)) + (1 : Int64)) + (1 : Int64))) b (((((0 : Int64) + (1 : Int64)) + (1 : Int64)) + (1 : Int64)) + (1 : Int64))) (own_upd (fun _ => 0) a (((0 : Int64) + (1 : Int64)) + (1 : Int64))) (((((0 : Int64) + (1 : Int64)) + (1 : Int64)) + (1 : Int64)) + (1 : Int64)) b1z b ((Int32.ofNat b) + (1 : Int32)) np_116z kp_116z T116z.heap O117z r116z_0 r106z_6 fr_b1z hN (by omega) (fun i hi => by omega) r3z_2 r3z_3 r3z_4 (own_p1 hbN hN) hbN (own_upd_hit _ _ _) V122z r116z_2) hZ (own_hw hw 88 rfl) (own_hw hw 3 rfl) (by decide) (by decide)) qa123z qc123z (g := (mkF m 238 #[.val (.int p0), .val (.int p1), .val (.int p2), .val (.int p3), .val (.int (Int32.ofNat N)), .val (.int (Int32.ofNat a)), .val (.int (Int32.ofNat d)), .val (.int (Int32.ofNat b)), .val (.int ((Int32.ofNat a) + (1 : Int32))), .val (.int ((Int32.ofNat b) + (1 : Int32))), .val (.int f10), .val (.int f11), .val (.int f12), .val (.int f13), .val (.int f14), .val (.ref b1z), .val (.ref kn_9z), .unset, .unset] [(.int ((Int32.ofNat b) + (1 : Int32))), (.ref b1z)])) rfl (by rw [hml]; rfl) (Steps.refl _) (argsL := [(.int ((Int32.ofNat b) + (1 : Int32)))]) (rest := []) (lenOf pd_2087992008 rfl) rfl (by show 2 * 0 + _ ≤ _; exact Nat.le_of_eq rfl) (hb hby at_238) (fun _ _ => ⟨rfl, rfl, (by decide : 141 + 0 ≤ _), (by decide : 1057 + 0 ≤ _)⟩)
            dsimp only [Pt.U, Pt.locs, Pt.cells, Pt.slots] at X123z l123z y123z z123z st123z hQ123z
            subst l123z y123z z123z
            obtain ⟨rfl, NQ123z, K123zq, r123z_0⟩ := hQ123z
            refine own_tr st123z ?_
            have N123z := Fr.app N116z NQ123z
            have O124z := own_ext_keep O117z K123zq (fun y hy => Nat.le_trans fr_b1z (own_D.all r106z_6 y hy))
            have K124z := K117z.trans K123zq (fun y hy => Or.inr (Nat.le_trans lz_b1z (own_D.all r106z_6 y hy)))
            show own_G p e below (T123z.setTop (mkF m 241 #[.val (.int p0), .val (.int p1), .val (.int p2), .val (.int p3), .val (.int (Int32.ofNat N)), .val (.int (Int32.ofNat a)), .val (.int (Int32.ofNat d)), .val (.int (Int32.ofNat b)), .val (.int ((Int32.ofNat a) + (1 : Int32))), .val (.int ((Int32.ofNat b) + (1 : Int32))), .val (.int f10), .val (.int f11), .val (.int f12), .val (.int f13), .val (.int f14), .val (.ref b1z), .val (.ref kn_9z), .unset, .unset] [(.int (0 : Int32))])) _
            refine own_go (fun t k => XS.istore X123z.here hx rfl (hb hby at_241) rfl (l' := #[.val (.int p0), .val (.int p1), .val (.int p2), .val (.int p3), .val (.int (Int32.ofNat N)), .val (.int (Int32.ofNat a)), .val (.int (Int32.ofNat d)), .val (.int (Int32.ofNat b)), .val (.int ((Int32.ofNat a) + (1 : Int32))), .val (.int ((Int32.ofNat b) + (1 : Int32))), .val (.int f10), .val (.int f11), .val (.int f12), .val (.int f13), .val (.int f14), .val (.ref b1z), .val (.ref kn_9z), .val (.int (0 : Int32)), .unset]) rfl k) ?_
            refine own_go (fun t k => XS.iload X123z.here hx rfl (hb hby at_243) rfl k) ?_
            refine own_go (fun t k => XS.ifNo X123z.here hx rfl (hb hby at_245) rfl ((if0 _ _).trans (teq hc13z).2) k) ?_
            show own_G p e below (T123z.setTop (mkF m 248 #[.val (.int p0), .val (.int p1), .val (.int p2), .val (.int p3), .val (.int (Int32.ofNat N)), .val (.int (Int32.ofNat a)), .val (.int (Int32.ofNat d)), .val (.int (Int32.ofNat b)), .val (.int ((Int32.ofNat a) + (1 : Int32))), .val (.int ((Int32.ofNat b) + (1 : Int32))), .val (.int f10), .val (.int f11), .val (.int f12), .val (.int f13), .val (.int f14), .val (.ref b1z), .val (.ref kn_9z), .val (.int (0 : Int32)), .unset] [])) _
            refine own_go (fun t k => XS.iload X123z.here hx rfl (hb hby at_248) rfl k) ?_
            refine own_go (fun t k => XS.ifYes X123z.here hx rfl (pc0 := 250) (pc' := 267) rfl (hb hby at_250) rfl ((if0 _ _).trans (teq hc115z).1) (by decide) (by decide) k) ?_
            show own_G p e below (T123z.setTop (mkF m 267 #[.val (.int p0), .val (.int p1), .val (.int p2), .val (.int p3), .val (.int (Int32.ofNat N)), .val (.int (Int32.ofNat a)), .val (.int (Int32.ofNat d)), .val (.int (Int32.ofNat b)), .val (.int ((Int32.ofNat a) + (1 : Int32))), .val (.int ((Int32.ofNat b) + (1 : Int32))), .val (.int f10), .val (.int f11), .val (.int f12), .val (.int f13), .val (.int f14), .val (.ref b1z), .val (.ref kn_9z), .val (.int (0 : Int32)), .unset] [])) _
            refine own_go (fun t k => XS.iconst X123z.here hx rfl (hb hby at_267) k) ?_
            refine own_go (fun t k => XS.istore X123z.here hx rfl (hb hby at_268) rfl (l' := #[.val (.int p0), .val (.int p1), .val (.int p2), .val (.int p3), .val (.int (Int32.ofNat N)), .val (.int (Int32.ofNat a)), .val (.int (Int32.ofNat d)), .val (.int (Int32.ofNat b)), .val (.int ((Int32.ofNat a) + (1 : Int32))), .val (.int ((Int32.ofNat b) + (1 : Int32))), .val (.int f10), .val (.int f11), .val (.int f12), .val (.int f13), .val (.int f14), .val (.ref b1z), .val (.ref kn_9z), .val (.int (0 : Int32)), .val (.int (0 : Int32))]) rfl k) ?_
            refine own_go (fun t k => XS.iload X123z.here hx rfl (hb hby at_270) rfl k) ?_
            refine own_go (fun t k => XS.iload X123z.here hx rfl (hb hby at_272) rfl k) ?_
            show own_G p e below (T123z.setTop (mkF m 274 #[.val (.int p0), .val (.int p1), .val (.int p2), .val (.int p3), .val (.int (Int32.ofNat N)), .val (.int (Int32.ofNat a)), .val (.int (Int32.ofNat d)), .val (.int (Int32.ofNat b)), .val (.int ((Int32.ofNat a) + (1 : Int32))), .val (.int ((Int32.ofNat b) + (1 : Int32))), .val (.int f10), .val (.int f11), .val (.int f12), .val (.int f13), .val (.int f14), .val (.ref b1z), .val (.ref kn_9z), .val (.int (0 : Int32)), .val (.int (0 : Int32))] [(.int (0 : Int32)), (.int (0 : Int32))])) _
            refine own_go (fun t k => XS.icmpNo X123z.here hx rfl (hb hby at_274) rfl (teq (by decide : (0 : Int32) = (0 : Int32))).2 k) ?_
            show own_G p e below (T123z.setTop (mkF m 277 #[.val (.int p0), .val (.int p1), .val (.int p2), .val (.int p3), .val (.int (Int32.ofNat N)), .val (.int (Int32.ofNat a)), .val (.int (Int32.ofNat d)), .val (.int (Int32.ofNat b)), .val (.int ((Int32.ofNat a) + (1 : Int32))), .val (.int ((Int32.ofNat b) + (1 : Int32))), .val (.int f10), .val (.int f11), .val (.int f12), .val (.int f13), .val (.int f14), .val (.ref b1z), .val (.ref kn_9z), .val (.int (0 : Int32)), .val (.int (0 : Int32))] [])) _
            refine own_go (fun t k => XS.iconst X123z.here hx rfl (hb hby at_277) k) ?_
            refine own_go (fun t k => XS.goto X123z.here hx rfl (pc0 := 278) (pc' := 282) rfl (hb hby at_278) (by decide) (by decide) k) ?_
            show own_G p e below (T123z.setTop (mkF m 282 #[.val (.int p0), .val (.int p1), .val (.int p2), .val (.int p3), .val (.int (Int32.ofNat N)), .val (.int (Int32.ofNat a)), .val (.int (Int32.ofNat d)), .val (.int (Int32.ofNat b)), .val (.int ((Int32.ofNat a) + (1 : Int32))), .val (.int ((Int32.ofNat b) + (1 : Int32))), .val (.int f10), .val (.int f11), .val (.int f12), .val (.int f13), .val (.int f14), .val (.ref b1z), .val (.ref kn_9z), .val (.int (0 : Int32)), .val (.int (0 : Int32))] [(.int (1 : Int32))])) _
            exact own_ret X123z hx Bd.returns rfl (Or.inl ⟨rfl, Or.inr (Or.inl rfl), _, rfl⟩) (hb hby at_282) hlk (Nat.le_of_ble_eq_true rfl) (Nat.le_of_ble_eq_true rfl) (by show Q_own_law Z p0 p1 p2 p3 h0 _ T123z.heap _; exact ⟨rfl, N123z, K124z⟩)
          · refine own_go (fun t k => XS.ifNo X106z.here hx rfl (hb hby at_202) rfl ((if0 _ _).trans (feq hc115z).1) k) ?_
            show own_G p e below (T106z.setTop (mkF m 205 #[.val (.int p0), .val (.int p1), .val (.int p2), .val (.int p3), .val (.int (Int32.ofNat N)), .val (.int (Int32.ofNat a)), .val (.int (Int32.ofNat d)), .val (.int (Int32.ofNat b)), .val (.int ((Int32.ofNat a) + (1 : Int32))), .val (.int ((Int32.ofNat b) + (1 : Int32))), .val (.int f10), .val (.int f11), .val (.int f12), .val (.int f13), .val (.int f14), .val (.ref b1z), .val (.ref kn_9z), .unset, .unset] [])) _
            refine own_go (fun t k => XS.aload X106z.here hx rfl (hb hby at_205) rfl rfl k) ?_
            refine own_go (fun t k => XS.iload X106z.here hx rfl (hb hby at_207) rfl k) ?_
            refine own_go (fun t k => XS.aload X106z.here hx rfl (hb hby at_209) rfl rfl k) ?_
            obtain ⟨cq125z, kq125z, qa125z, qb125z, qc125z⟩ := isOf hZ (rfl : T106z.heap = _) f108z
            obtain ⟨_, _, ⟨T125z, L125z, k125z, n125z⟩, -, X125z, ⟨Lc125z, hQ125z, l125z, y125z, z125z⟩, st125z⟩ := X106z.virtualBack hx (y := own_m9) (z := own_m9) hown (own_mw hZ hw 67 rfl) (own_mw hZ hw 68 rfl) (notFace_of_selects (args := #[]) (own_mw hZ hw 70 rfl)) (own_mw hZ hw 70 rfl) (own_mw hZ hw 69 rfl) (by decide) (backOf (W := 0) (own_rc0 l Z a0 hw [] b1z N ((N + 63) / 64) A_3z K_3z (own_upd rows_3z a nr_106z) (own_R1 a) (own_upd (fun _ => .null) a (.ref kn_9z)) (own_upd (own_upd (own_upd (fun _ => .null) a (.ref np_5z)) a .null) a (.ref np_106z)) (own_one a) (own_upd (own_upd (fun _ => 0) a ((0 : Int64) + (1 : Int64))) a ((((0 : Int64) + (1 : Int64)) + (1 : Int64)) + (1 : Int64))) (own_upd (fun _ => 0) a (((0 : Int64) + (1 : Int64)) + (1 : Int64))) ((((0 : Int64) + (1 : Int64)) + (1 : Int64)) + (1 : Int64)) b1z b ((Int32.ofNat b) + (1 : Int32)) kn_9z a (rows_3z a) (K_3z 6) ((0 : Int64) + (1 : Int64)) T106z.heap O107z I112z r106z_6 fr_b1z hN (by omega) (fun i hi => by omega) r3z_2 r3z_3 r3z_4 (own_p1 hbN hN) hbN haN f110z f111z V114z (fun j => congrFun (own_R1o hba) j) (own_upd_miss _ _ hba) kno113z (by rw [own_upd_miss _ _ hba]; exact r3z_1.2.2.2.2 a b haN hbN hab) (by rw [own_upd_hit]; decide)) hZ (own_hw hw 71 rfl) (own_hw hw 3 rfl) (by decide) (by decide)) qa125z qc125z (g := (mkF m 211 #[.val (.int p0), .val (.int p1), .val (.int p2), .val (.int p3), .val (.int (Int32.ofNat N)), .val (.int (Int32.ofNat a)), .val (.int (Int32.ofNat d)), .val (.int (Int32.ofNat b)), .val (.int ((Int32.ofNat a) + (1 : Int32))), .val (.int ((Int32.ofNat b) + (1 : Int32))), .val (.int f10), .val (.int f11), .val (.int f12), .val (.int f13), .val (.int f14), .val (.ref b1z), .val (.ref kn_9z), .unset, .unset] [(.ref kn_9z), (.int ((Int32.ofNat b) + (1 : Int32))), (.ref b1z)])) rfl (by rw [hml]; rfl) (Steps.refl _) (argsL := [(.int ((Int32.ofNat b) + (1 : Int32))), (.ref kn_9z)]) (rest := []) (lenOf pd_1040280026 rfl) rfl (by show 2 * 0 + _ ≤ _; exact Nat.le_of_eq rfl) (hb hby at_211) (fun _ _ => ⟨rfl, rfl, (by decide : 140 + 0 ≤ _), (by decide : 1054 + 0 ≤ _)⟩)
            dsimp only [Pt.U, Pt.locs, Pt.cells, Pt.slots] at X125z l125z y125z z125z st125z hQ125z
            subst l125z y125z z125z
            obtain ⟨rfl, NQ125z, K125zq, r125z_0⟩ := hQ125z
            refine own_tr st125z ?_
            have N125z := Fr.app N106z NQ125z
            have O126z := own_ext_keep O107z K125zq (fun y hy => Nat.le_trans fr_b1z (own_D.all r106z_6 y hy))
            have K126z := K107z.trans K125zq (fun y hy => Or.inr (Nat.le_trans lz_b1z (own_D.all r106z_6 y hy)))
            show own_G p e below (T125z.setTop (mkF m 214 #[.val (.int p0), .val (.int p1), .val (.int p2), .val (.int p3), .val (.int (Int32.ofNat N)), .val (.int (Int32.ofNat a)), .val (.int (Int32.ofNat d)), .val (.int (Int32.ofNat b)), .val (.int ((Int32.ofNat a) + (1 : Int32))), .val (.int ((Int32.ofNat b) + (1 : Int32))), .val (.int f10), .val (.int f11), .val (.int f12), .val (.int f13), .val (.int f14), .val (.ref b1z), .val (.ref kn_9z), .unset, .unset] [])) _
            have f127z := (f108z.keep K125zq)
            have f128z := (f109z.keep K125zq)
            have f129z := (f110z.keep K125zq kno113z)
            have f130z := (f111z.keep K125zq kno113z)
            refine own_go (fun t k => XS.aload X125z.here hx rfl (hb hby at_214) rfl rfl k) ?_
            refine own_go (fun t k => XS.iload X125z.here hx rfl (hb hby at_216) rfl k) ?_
            obtain ⟨cq131z, kq131z, qa131z, qb131z, qc131z⟩ := isOf hZ (rfl : T125z.heap = _) f127z
            obtain ⟨_, _, ⟨T131z, L131z, k131z, n131z⟩, -, X131z, ⟨Lc131z, hQ131z, l131z, y131z, z131z⟩, st131z⟩ := X125z.virtualBack hx (y := own_m7) (z := own_m7) hown (own_mw hZ hw 30 rfl) (own_mw hZ hw 31 rfl) (notFace_of_selects (args := #[]) (own_mw hZ hw 33 rfl)) (own_mw hZ hw 33 rfl) (own_mw hZ hw 32 rfl) (by decide) (backOf (W := 0) (own_rq0 l Z a0 hw [] b1z N ((N + 63) / 64) A_3z K_3z (own_upd rows_3z a nr_106z) (own_R1 a) (own_upd (fun _ => .null) a (.ref kn_9z)) (own_upd (own_upd (own_upd (fun _ => .null) a (.ref np_5z)) a .null) a (.ref np_106z)) (own_one a) (own_upd (own_upd (fun _ => 0) a ((0 : Int64) + (1 : Int64))) a ((((0 : Int64) + (1 : Int64)) + (1 : Int64)) + (1 : Int64))) (own_upd (fun _ => 0) a (((0 : Int64) + (1 : Int64)) + (1 : Int64))) ((((0 : Int64) + (1 : Int64)) + (1 : Int64)) + (1 : Int64)) b1z b ((Int32.ofNat b) + (1 : Int32)) T125z.heap O126z r125z_0 r106z_6 fr_b1z hN (by omega) (fun i hi => by omega) r3z_2 r3z_3 r3z_4 (own_p1 hbN hN) hbN (fun j _ _ q => absurd (own_hasR1 hab j) q) (own_upd_miss _ _ hba)) hZ (own_hw hw 34 rfl) (own_hw hw 3 rfl) (by decide) (by decide)) qa131z qc131z (g := (mkF m 218 #[.val (.int p0), .val (.int p1), .val (.int p2), .val (.int p3), .val (.int (Int32.ofNat N)), .val (.int (Int32.ofNat a)), .val (.int (Int32.ofNat d)), .val (.int (Int32.ofNat b)), .val (.int ((Int32.ofNat a) + (1 : Int32))), .val (.int ((Int32.ofNat b) + (1 : Int32))), .val (.int f10), .val (.int f11), .val (.int f12), .val (.int f13), .val (.int f14), .val (.ref b1z), .val (.ref kn_9z), .unset, .unset] [(.int ((Int32.ofNat b) + (1 : Int32))), (.ref b1z)])) rfl (by rw [hml]; rfl) (Steps.refl _) (argsL := [(.int ((Int32.ofNat b) + (1 : Int32)))]) (rest := []) (lenOf pd_2087992021 rfl) rfl (by show 2 * 0 + _ ≤ _; exact Nat.le_of_eq rfl) (hb hby at_218) (fun _ _ => ⟨rfl, rfl, (by decide : 140 + 1 ≤ _), (by decide : 1054 + 3 ≤ _)⟩)
            dsimp only [Pt.U, Pt.locs, Pt.cells, Pt.slots] at X131z l131z y131z z131z st131z hQ131z
            subst l131z y131z z131z
            obtain ⟨np_131z, kp_131z, rfl, NQ131z, K131zq, r131z_0, r131z_1, r131z_2, r131z_3⟩ := hQ131z
            refine own_tr st131z ?_
            have N131z := Fr.app N125z NQ131z
            have O132z := own_ext_keep O126z K131zq (fun y hy => Nat.le_trans fr_b1z (own_D.all r106z_6 y hy))
            have K132z := K126z.trans K131zq (fun y hy => Or.inr (Nat.le_trans lz_b1z (own_D.all r106z_6 y hy)))
            have lz_np_131z : h0.size ≤ np_131z := Nat.le_trans K126z.1 r131z_1
            have ne_b1z_np_131z : b1z ≠ np_131z := Nat.ne_of_lt (Nat.lt_of_lt_of_le f127z.lt r131z_1)
            have ne_kn_9z_np_131z : kn_9z ≠ np_131z := Nat.ne_of_lt (Nat.lt_of_lt_of_le f128z.lt r131z_1)
            show own_G p e below (T131z.setTop (mkF m 221 #[.val (.int p0), .val (.int p1), .val (.int p2), .val (.int p3), .val (.int (Int32.ofNat N)), .val (.int (Int32.ofNat a)), .val (.int (Int32.ofNat d)), .val (.int (Int32.ofNat b)), .val (.int ((Int32.ofNat a) + (1 : Int32))), .val (.int ((Int32.ofNat b) + (1 : Int32))), .val (.int f10), .val (.int f11), .val (.int f12), .val (.int f13), .val (.int f14), .val (.ref b1z), .val (.ref kn_9z), .unset, .unset] [])) _
            have f133z := (f127z.keep K131zq)
            have f134z := (f128z.keep K131zq)
            have f135z := (f129z.keep K131zq kno113z)
            have f136z := (f130z.keep K131zq kno113z)
            have V137z : own_L Z T131z.heap np_131z kp_131z ((N + 63) / 64) (fun _ => 0) := own_L.eqf r131z_3 (fun j _ => by rw [own_R1o hba]; exact own_zero_and _)
            refine own_go (fun t k => XS.iload X131z.here hx rfl (hb hby at_221) rfl k) ?_
            refine own_go (fun t k => XS.ifYes X131z.here hx rfl (pc0 := 223) (pc' := 234) rfl (hb hby at_223) rfl ((if0 _ _).trans (teq (g14 hc14z)).1) (by decide) (by decide) k) ?_
            show own_G p e below (T131z.setTop (mkF m 234 #[.val (.int p0), .val (.int p1), .val (.int p2), .val (.int p3), .val (.int (Int32.ofNat N)), .val (.int (Int32.ofNat a)), .val (.int (Int32.ofNat d)), .val (.int (Int32.ofNat b)), .val (.int ((Int32.ofNat a) + (1 : Int32))), .val (.int ((Int32.ofNat b) + (1 : Int32))), .val (.int f10), .val (.int f11), .val (.int f12), .val (.int f13), .val (.int f14), .val (.ref b1z), .val (.ref kn_9z), .unset, .unset] [])) _
            refine own_go (fun t k => XS.aload X131z.here hx rfl (hb hby at_234) rfl rfl k) ?_
            refine own_go (fun t k => XS.iload X131z.here hx rfl (hb hby at_236) rfl k) ?_
            obtain ⟨cq138z, kq138z, qa138z, qb138z, qc138z⟩ := isOf hZ (rfl : T131z.heap = _) f133z
            obtain ⟨_, _, ⟨T138z, L138z, k138z, n138z⟩, -, X138z, ⟨Lc138z, hQ138z, l138z, y138z, z138z⟩, st138z⟩ := X131z.virtualBack hx (y := own_m10) (z := own_m10) hown (own_mw hZ hw 84 rfl) (own_mw hZ hw 85 rfl) (notFace_of_selects (args := #[]) (own_mw hZ hw 87 rfl)) (own_mw hZ hw 87 rfl) (own_mw hZ hw 86 rfl) (by decide) (backOf (W := 0) (own_en0 l Z a0 hw [] b1z N ((N + 63) / 64) A_3z K_3z (own_upd rows_3z a nr_106z) (own_upd (own_rcI (own_R1 a) b N) b (own_or ((own_R1 a) b) b)) (own_upd (fun _ => .null) a (.ref kn_9z)) (own_upd (own_upd (own_upd (own_upd (fun _ => .null) a (.ref np_5z)) a .null) a (.ref np_106z)) b (.ref np_131z)) (own_or (own_one a) b) (own_upd (own_upd (own_upd (fun _ => 0) a ((0 : Int64) + (1 : Int64))) a ((((0 : Int64) + (1 : Int64)) + (1 : Int64)) + (1 : Int64))) b (((((0 : Int64) + (1 : Int64)) + (1 : Int64)) + (1 : Int64)) + (1 : Int64))) (own_upd (fun _ => 0) a (((0 : Int64) + (1 : Int64)) + (1 : Int64))) (((((0 : Int64) + (1 : Int64)) + (1 : Int64)) + (1 : Int64)) + (1 : Int64)) b1z b ((Int32.ofNat b) + (1 : Int32)) np_131z kp_131z T131z.heap O132z r131z_0 r106z_6 fr_b1z hN (by omega) (fun i hi => by omega) r3z_2 r3z_3 r3z_4 (own_p1 hbN hN) hbN (own_upd_hit _ _ _) V137z r131z_2) hZ (own_hw hw 88 rfl) (own_hw hw 3 rfl) (by decide) (by decide)) qa138z qc138z (g := (mkF m 238 #[.val (.int p0), .val (.int p1), .val (.int p2), .val (.int p3), .val (.int (Int32.ofNat N)), .val (.int (Int32.ofNat a)), .val (.int (Int32.ofNat d)), .val (.int (Int32.ofNat b)), .val (.int ((Int32.ofNat a) + (1 : Int32))), .val (.int ((Int32.ofNat b) + (1 : Int32))), .val (.int f10), .val (.int f11), .val (.int f12), .val (.int f13), .val (.int f14), .val (.ref b1z), .val (.ref kn_9z), .unset, .unset] [(.int ((Int32.ofNat b) + (1 : Int32))), (.ref b1z)])) rfl (by rw [hml]; rfl) (Steps.refl _) (argsL := [(.int ((Int32.ofNat b) + (1 : Int32)))]) (rest := []) (lenOf pd_2087992008 rfl) rfl (by show 2 * 0 + _ ≤ _; exact Nat.le_of_eq rfl) (hb hby at_238) (fun _ _ => ⟨rfl, rfl, (by decide : 141 + 0 ≤ _), (by decide : 1057 + 0 ≤ _)⟩)
            dsimp only [Pt.U, Pt.locs, Pt.cells, Pt.slots] at X138z l138z y138z z138z st138z hQ138z
            subst l138z y138z z138z
            obtain ⟨rfl, NQ138z, K138zq, r138z_0⟩ := hQ138z
            refine own_tr st138z ?_
            have N138z := Fr.app N131z NQ138z
            have O139z := own_ext_keep O132z K138zq (fun y hy => Nat.le_trans fr_b1z (own_D.all r106z_6 y hy))
            have K139z := K132z.trans K138zq (fun y hy => Or.inr (Nat.le_trans lz_b1z (own_D.all r106z_6 y hy)))
            show own_G p e below (T138z.setTop (mkF m 241 #[.val (.int p0), .val (.int p1), .val (.int p2), .val (.int p3), .val (.int (Int32.ofNat N)), .val (.int (Int32.ofNat a)), .val (.int (Int32.ofNat d)), .val (.int (Int32.ofNat b)), .val (.int ((Int32.ofNat a) + (1 : Int32))), .val (.int ((Int32.ofNat b) + (1 : Int32))), .val (.int f10), .val (.int f11), .val (.int f12), .val (.int f13), .val (.int f14), .val (.ref b1z), .val (.ref kn_9z), .unset, .unset] [(.int (0 : Int32))])) _
            refine own_go (fun t k => XS.istore X138z.here hx rfl (hb hby at_241) rfl (l' := #[.val (.int p0), .val (.int p1), .val (.int p2), .val (.int p3), .val (.int (Int32.ofNat N)), .val (.int (Int32.ofNat a)), .val (.int (Int32.ofNat d)), .val (.int (Int32.ofNat b)), .val (.int ((Int32.ofNat a) + (1 : Int32))), .val (.int ((Int32.ofNat b) + (1 : Int32))), .val (.int f10), .val (.int f11), .val (.int f12), .val (.int f13), .val (.int f14), .val (.ref b1z), .val (.ref kn_9z), .val (.int (0 : Int32)), .unset]) rfl k) ?_
            refine own_go (fun t k => XS.iload X138z.here hx rfl (hb hby at_243) rfl k) ?_
            refine own_go (fun t k => XS.ifNo X138z.here hx rfl (hb hby at_245) rfl ((if0 _ _).trans (teq hc13z).2) k) ?_
            show own_G p e below (T138z.setTop (mkF m 248 #[.val (.int p0), .val (.int p1), .val (.int p2), .val (.int p3), .val (.int (Int32.ofNat N)), .val (.int (Int32.ofNat a)), .val (.int (Int32.ofNat d)), .val (.int (Int32.ofNat b)), .val (.int ((Int32.ofNat a) + (1 : Int32))), .val (.int ((Int32.ofNat b) + (1 : Int32))), .val (.int f10), .val (.int f11), .val (.int f12), .val (.int f13), .val (.int f14), .val (.ref b1z), .val (.ref kn_9z), .val (.int (0 : Int32)), .unset] [])) _
            refine own_go (fun t k => XS.iload X138z.here hx rfl (hb hby at_248) rfl k) ?_
            refine own_go (fun t k => XS.ifNo X138z.here hx rfl (hb hby at_250) rfl ((if0 _ _).trans (feq hc115z).1) k) ?_
            show own_G p e below (T138z.setTop (mkF m 253 #[.val (.int p0), .val (.int p1), .val (.int p2), .val (.int p3), .val (.int (Int32.ofNat N)), .val (.int (Int32.ofNat a)), .val (.int (Int32.ofNat d)), .val (.int (Int32.ofNat b)), .val (.int ((Int32.ofNat a) + (1 : Int32))), .val (.int ((Int32.ofNat b) + (1 : Int32))), .val (.int f10), .val (.int f11), .val (.int f12), .val (.int f13), .val (.int f14), .val (.ref b1z), .val (.ref kn_9z), .val (.int (0 : Int32)), .unset] [])) _
            refine own_go (fun t k => XS.iload X138z.here hx rfl (hb hby at_253) rfl k) ?_
            refine own_go (fun t k => XS.ifYes X138z.here hx rfl (pc0 := 255) (pc' := 267) rfl (hb hby at_255) rfl ((if0 _ _).trans (feq hc14z).2) (by decide) (by decide) k) ?_
            show own_G p e below (T138z.setTop (mkF m 267 #[.val (.int p0), .val (.int p1), .val (.int p2), .val (.int p3), .val (.int (Int32.ofNat N)), .val (.int (Int32.ofNat a)), .val (.int (Int32.ofNat d)), .val (.int (Int32.ofNat b)), .val (.int ((Int32.ofNat a) + (1 : Int32))), .val (.int ((Int32.ofNat b) + (1 : Int32))), .val (.int f10), .val (.int f11), .val (.int f12), .val (.int f13), .val (.int f14), .val (.ref b1z), .val (.ref kn_9z), .val (.int (0 : Int32)), .unset] [])) _
            refine own_go (fun t k => XS.iconst X138z.here hx rfl (hb hby at_267) k) ?_
            refine own_go (fun t k => XS.istore X138z.here hx rfl (hb hby at_268) rfl (l' := #[.val (.int p0), .val (.int p1), .val (.int p2), .val (.int p3), .val (.int (Int32.ofNat N)), .val (.int (Int32.ofNat a)), .val (.int (Int32.ofNat d)), .val (.int (Int32.ofNat b)), .val (.int ((Int32.ofNat a) + (1 : Int32))), .val (.int ((Int32.ofNat b) + (1 : Int32))), .val (.int f10), .val (.int f11), .val (.int f12), .val (.int f13), .val (.int f14), .val (.ref b1z), .val (.ref kn_9z), .val (.int (0 : Int32)), .val (.int (0 : Int32))]) rfl k) ?_
            refine own_go (fun t k => XS.iload X138z.here hx rfl (hb hby at_270) rfl k) ?_
            refine own_go (fun t k => XS.iload X138z.here hx rfl (hb hby at_272) rfl k) ?_
            show own_G p e below (T138z.setTop (mkF m 274 #[.val (.int p0), .val (.int p1), .val (.int p2), .val (.int p3), .val (.int (Int32.ofNat N)), .val (.int (Int32.ofNat a)), .val (.int (Int32.ofNat d)), .val (.int (Int32.ofNat b)), .val (.int ((Int32.ofNat a) + (1 : Int32))), .val (.int ((Int32.ofNat b) + (1 : Int32))), .val (.int f10), .val (.int f11), .val (.int f12), .val (.int f13), .val (.int f14), .val (.ref b1z), .val (.ref kn_9z), .val (.int (0 : Int32)), .val (.int (0 : Int32))] [(.int (0 : Int32)), (.int (0 : Int32))])) _
            refine own_go (fun t k => XS.icmpNo X138z.here hx rfl (hb hby at_274) rfl (teq (by decide : (0 : Int32) = (0 : Int32))).2 k) ?_
            show own_G p e below (T138z.setTop (mkF m 277 #[.val (.int p0), .val (.int p1), .val (.int p2), .val (.int p3), .val (.int (Int32.ofNat N)), .val (.int (Int32.ofNat a)), .val (.int (Int32.ofNat d)), .val (.int (Int32.ofNat b)), .val (.int ((Int32.ofNat a) + (1 : Int32))), .val (.int ((Int32.ofNat b) + (1 : Int32))), .val (.int f10), .val (.int f11), .val (.int f12), .val (.int f13), .val (.int f14), .val (.ref b1z), .val (.ref kn_9z), .val (.int (0 : Int32)), .val (.int (0 : Int32))] [])) _
            refine own_go (fun t k => XS.iconst X138z.here hx rfl (hb hby at_277) k) ?_
            refine own_go (fun t k => XS.goto X138z.here hx rfl (pc0 := 278) (pc' := 282) rfl (hb hby at_278) (by decide) (by decide) k) ?_
            show own_G p e below (T138z.setTop (mkF m 282 #[.val (.int p0), .val (.int p1), .val (.int p2), .val (.int p3), .val (.int (Int32.ofNat N)), .val (.int (Int32.ofNat a)), .val (.int (Int32.ofNat d)), .val (.int (Int32.ofNat b)), .val (.int ((Int32.ofNat a) + (1 : Int32))), .val (.int ((Int32.ofNat b) + (1 : Int32))), .val (.int f10), .val (.int f11), .val (.int f12), .val (.int f13), .val (.int f14), .val (.ref b1z), .val (.ref kn_9z), .val (.int (0 : Int32)), .val (.int (0 : Int32))] [(.int (1 : Int32))])) _
            exact own_ret X138z hx Bd.returns rfl (Or.inl ⟨rfl, Or.inr (Or.inl rfl), _, rfl⟩) (hb hby at_282) hlk (Nat.le_of_ble_eq_true rfl) (Nat.le_of_ble_eq_true rfl) (by show Q_own_law Z p0 p1 p2 p3 h0 _ T138z.heap _; exact ⟨rfl, N138z, K139z⟩)
    · refine own_go (fun t k => XS.ifNo X9z.here hx rfl (hb hby at_163) rfl ((if0 _ _).trans (feq hc13z).1) k) ?_
      show own_G p e below (T9z.setTop (mkF m 166 #[.val (.int p0), .val (.int p1), .val (.int p2), .val (.int p3), .val (.int (Int32.ofNat N)), .val (.int (Int32.ofNat a)), .val (.int (Int32.ofNat d)), .val (.int (Int32.ofNat b)), .val (.int ((Int32.ofNat a) + (1 : Int32))), .val (.int ((Int32.ofNat b) + (1 : Int32))), .val (.int f10), .val (.int f11), .val (.int f12), .val (.int f13), .val (.int f14), .val (.ref b1z), .val (.ref kn_9z), .unset, .unset] [])) _
      refine own_go (fun t k => XS.aload X9z.here hx rfl (hb hby at_166) rfl rfl k) ?_
      refine own_go (fun t k => XS.iload X9z.here hx rfl (hb hby at_168) rfl k) ?_
      refine own_go (fun t k => XS.aload X9z.here hx rfl (hb hby at_170) rfl rfl k) ?_
      have V140z : own_L Z T9z.heap (rows_3z a) (K_3z 6) ((N + 63) / 64) (own_one a) := by have t := (r9z_0.2.2.2.2.2.2.2.2.2.2.2.2.2.2.2 a haN).1; rw [own_R1a] at t; exact t
      obtain ⟨cq141z, kq141z, qa141z, qb141z, qc141z⟩ := isOf hZ (rfl : T9z.heap = _) f11z
      obtain ⟨_, _, ⟨T141z, L141z, k141z, n141z⟩, -, X141z, ⟨Lc141z, hQ141z, l141z, y141z, z141z⟩, st141z⟩ := X9z.virtualBack hx (y := own_m9) (z := own_m9) hown (own_mw hZ hw 67 rfl) (own_mw hZ hw 68 rfl) (notFace_of_selects (args := #[]) (own_mw hZ hw 70 rfl)) (own_mw hZ hw 70 rfl) (own_mw hZ hw 69 rfl) (by decide) (backOf (W := 0) (own_rc1 l Z a0 hw [] b1z N ((N + 63) / 64) A_3z K_3z rows_3z (own_R1 a) (own_upd (fun _ => .null) a (.ref kn_9z)) (own_upd (fun _ => .null) a (.ref np_5z)) (own_one a) (own_upd (fun _ => 0) a ((0 : Int64) + (1 : Int64))) (fun _ => 0) ((0 : Int64) + (1 : Int64)) b1z b ((Int32.ofNat b) + (1 : Int32)) kn_9z a (rows_3z a) (K_3z 6) ((0 : Int64) + (1 : Int64)) T9z.heap O10z r9z_0 r3z_1 fr_b1z hN (by omega) (fun i hi => by omega) r3z_2 r3z_3 r3z_4 (own_p1 hbN hN) hbN haN r9z_4 r9z_5 V140z (fun j => congrFun (own_R1o hba) j) (own_upd_miss _ _ hba) r9z_2 (r3z_1.2.2.2.2 a b haN hbN hab) (by rw [own_upd_hit]; decide)) hZ (own_hw hw 71 rfl) (own_hw hw 3 rfl) (by decide) (by decide)) qa141z qc141z (g := (mkF m 172 #[.val (.int p0), .val (.int p1), .val (.int p2), .val (.int p3), .val (.int (Int32.ofNat N)), .val (.int (Int32.ofNat a)), .val (.int (Int32.ofNat d)), .val (.int (Int32.ofNat b)), .val (.int ((Int32.ofNat a) + (1 : Int32))), .val (.int ((Int32.ofNat b) + (1 : Int32))), .val (.int f10), .val (.int f11), .val (.int f12), .val (.int f13), .val (.int f14), .val (.ref b1z), .val (.ref kn_9z), .unset, .unset] [(.ref kn_9z), (.int ((Int32.ofNat b) + (1 : Int32))), (.ref b1z)])) rfl (by rw [hml]; rfl) (Steps.refl _) (argsL := [(.int ((Int32.ofNat b) + (1 : Int32))), (.ref kn_9z)]) (rest := []) (lenOf pd_1040280026 rfl) rfl (by show 2 * 0 + _ ≤ _; exact Nat.le_of_eq rfl) (hb hby at_172) (fun _ _ => ⟨rfl, rfl, (by decide : 138 + 0 ≤ _), (by decide : 1048 + 0 ≤ _)⟩)
      dsimp only [Pt.U, Pt.locs, Pt.cells, Pt.slots] at X141z l141z y141z z141z st141z hQ141z
      subst l141z y141z z141z
      obtain ⟨rfl, NQ141z, K141zq, r141z_0⟩ := hQ141z
      refine own_tr st141z ?_
      have N141z := Fr.app N9z NQ141z
      have O142z := own_ext_keep O10z K141zq (fun y hy => Nat.le_trans fr_b1z (own_D.all r3z_1 y hy))
      have K142z := K10z.trans K141zq (fun y hy => Or.inr (Nat.le_trans lz_b1z (own_D.all r3z_1 y hy)))
      show own_G p e below (T141z.setTop (mkF m 175 #[.val (.int p0), .val (.int p1), .val (.int p2), .val (.int p3), .val (.int (Int32.ofNat N)), .val (.int (Int32.ofNat a)), .val (.int (Int32.ofNat d)), .val (.int (Int32.ofNat b)), .val (.int ((Int32.ofNat a) + (1 : Int32))), .val (.int ((Int32.ofNat b) + (1 : Int32))), .val (.int f10), .val (.int f11), .val (.int f12), .val (.int f13), .val (.int f14), .val (.ref b1z), .val (.ref kn_9z), .unset, .unset] [])) _
      have f143z := (f11z.keep K141zq)
      have f144z := (f12z.keep K141zq r5z_2)
      have f145z := (r9z_3.keep K141zq)
      have f146z := (r9z_4.keep K141zq r9z_2)
      have f147z := (r9z_5.keep K141zq r9z_2)
      have I148z : own_I Z T141z.heap b1z N ((N + 63) / 64) A_3z K_3z rows_3z (own_R2 a b) (own_upd (fun _ => .null) a (.ref kn_9z)) (own_upd (fun _ => .null) a (.ref np_5z)) (own_one a) (own_upd (fun _ => 0) a ((0 : Int64) + (1 : Int64))) (fun _ => 0) ((0 : Int64) + (1 : Int64)) := own_I.cast r141z_0 rfl rfl
      refine own_go (fun t k => XS.iload X141z.here hx rfl (hb hby at_175) rfl k) ?_
      by_cases hc149z : f11 = (0 : Int32)
      · refine own_go (fun t k => XS.ifYes X141z.here hx rfl (pc0 := 177) (pc' := 188) rfl (hb hby at_177) rfl ((if0 _ _).trans (teq hc149z).1) (by decide) (by decide) k) ?_
        show own_G p e below (T141z.setTop (mkF m 188 #[.val (.int p0), .val (.int p1), .val (.int p2), .val (.int p3), .val (.int (Int32.ofNat N)), .val (.int (Int32.ofNat a)), .val (.int (Int32.ofNat d)), .val (.int (Int32.ofNat b)), .val (.int ((Int32.ofNat a) + (1 : Int32))), .val (.int ((Int32.ofNat b) + (1 : Int32))), .val (.int f10), .val (.int f11), .val (.int f12), .val (.int f13), .val (.int f14), .val (.ref b1z), .val (.ref kn_9z), .unset, .unset] [])) _
        refine own_go (fun t k => XS.iload X141z.here hx rfl (hb hby at_188) rfl k) ?_
        refine own_go (fun t k => XS.ifYes X141z.here hx rfl (pc0 := 190) (pc' := 200) rfl (hb hby at_190) rfl ((if0 _ _).trans (teq (g12 hc149z)).1) (by decide) (by decide) k) ?_
        show own_G p e below (T141z.setTop (mkF m 200 #[.val (.int p0), .val (.int p1), .val (.int p2), .val (.int p3), .val (.int (Int32.ofNat N)), .val (.int (Int32.ofNat a)), .val (.int (Int32.ofNat d)), .val (.int (Int32.ofNat b)), .val (.int ((Int32.ofNat a) + (1 : Int32))), .val (.int ((Int32.ofNat b) + (1 : Int32))), .val (.int f10), .val (.int f11), .val (.int f12), .val (.int f13), .val (.int f14), .val (.ref b1z), .val (.ref kn_9z), .unset, .unset] [])) _
        refine own_go (fun t k => XS.iload X141z.here hx rfl (hb hby at_200) rfl k) ?_
        refine own_go (fun t k => XS.ifYes X141z.here hx rfl (pc0 := 202) (pc' := 214) rfl (hb hby at_202) rfl ((if0 _ _).trans (teq (g13 hc13z)).1) (by decide) (by decide) k) ?_
        show own_G p e below (T141z.setTop (mkF m 214 #[.val (.int p0), .val (.int p1), .val (.int p2), .val (.int p3), .val (.int (Int32.ofNat N)), .val (.int (Int32.ofNat a)), .val (.int (Int32.ofNat d)), .val (.int (Int32.ofNat b)), .val (.int ((Int32.ofNat a) + (1 : Int32))), .val (.int ((Int32.ofNat b) + (1 : Int32))), .val (.int f10), .val (.int f11), .val (.int f12), .val (.int f13), .val (.int f14), .val (.ref b1z), .val (.ref kn_9z), .unset, .unset] [])) _
        refine own_go (fun t k => XS.aload X141z.here hx rfl (hb hby at_214) rfl rfl k) ?_
        refine own_go (fun t k => XS.iload X141z.here hx rfl (hb hby at_216) rfl k) ?_
        obtain ⟨cq150z, kq150z, qa150z, qb150z, qc150z⟩ := isOf hZ (rfl : T141z.heap = _) f143z
        obtain ⟨_, _, ⟨T150z, L150z, k150z, n150z⟩, -, X150z, ⟨Lc150z, hQ150z, l150z, y150z, z150z⟩, st150z⟩ := X141z.virtualBack hx (y := own_m7) (z := own_m7) hown (own_mw hZ hw 30 rfl) (own_mw hZ hw 31 rfl) (notFace_of_selects (args := #[]) (own_mw hZ hw 33 rfl)) (own_mw hZ hw 33 rfl) (own_mw hZ hw 32 rfl) (by decide) (backOf (W := 0) (own_rq0 l Z a0 hw [] b1z N ((N + 63) / 64) A_3z K_3z rows_3z (own_R2 a b) (own_upd (fun _ => .null) a (.ref kn_9z)) (own_upd (fun _ => .null) a (.ref np_5z)) (own_one a) (own_upd (fun _ => 0) a ((0 : Int64) + (1 : Int64))) (fun _ => 0) ((0 : Int64) + (1 : Int64)) b1z b ((Int32.ofNat b) + (1 : Int32)) T141z.heap O142z I148z r3z_1 fr_b1z hN (by omega) (fun i hi => by omega) r3z_2 r3z_3 r3z_4 (own_p1 hbN hN) hbN (fun j _ _ q => absurd (own_hasR2 hab j) q) (own_upd_miss _ _ hba)) hZ (own_hw hw 34 rfl) (own_hw hw 3 rfl) (by decide) (by decide)) qa150z qc150z (g := (mkF m 218 #[.val (.int p0), .val (.int p1), .val (.int p2), .val (.int p3), .val (.int (Int32.ofNat N)), .val (.int (Int32.ofNat a)), .val (.int (Int32.ofNat d)), .val (.int (Int32.ofNat b)), .val (.int ((Int32.ofNat a) + (1 : Int32))), .val (.int ((Int32.ofNat b) + (1 : Int32))), .val (.int f10), .val (.int f11), .val (.int f12), .val (.int f13), .val (.int f14), .val (.ref b1z), .val (.ref kn_9z), .unset, .unset] [(.int ((Int32.ofNat b) + (1 : Int32))), (.ref b1z)])) rfl (by rw [hml]; rfl) (Steps.refl _) (argsL := [(.int ((Int32.ofNat b) + (1 : Int32)))]) (rest := []) (lenOf pd_2087992021 rfl) rfl (by show 2 * 0 + _ ≤ _; exact Nat.le_of_eq rfl) (hb hby at_218) (fun _ _ => ⟨rfl, rfl, (by decide : 138 + 1 ≤ _), (by decide : 1048 + 3 ≤ _)⟩)
        dsimp only [Pt.U, Pt.locs, Pt.cells, Pt.slots] at X150z l150z y150z z150z st150z hQ150z
        subst l150z y150z z150z
        obtain ⟨np_150z, kp_150z, rfl, NQ150z, K150zq, r150z_0, r150z_1, r150z_2, r150z_3⟩ := hQ150z
        refine own_tr st150z ?_
        have N150z := Fr.app N141z NQ150z
        have O151z := own_ext_keep O142z K150zq (fun y hy => Nat.le_trans fr_b1z (own_D.all r3z_1 y hy))
        have K151z := K142z.trans K150zq (fun y hy => Or.inr (Nat.le_trans lz_b1z (own_D.all r3z_1 y hy)))
        have lz_np_150z : h0.size ≤ np_150z := Nat.le_trans K142z.1 r150z_1
        have ne_b1z_np_150z : b1z ≠ np_150z := Nat.ne_of_lt (Nat.lt_of_lt_of_le f143z.lt r150z_1)
        have ne_np_5z_np_150z : np_5z ≠ np_150z := Nat.ne_of_lt (Nat.lt_of_lt_of_le f144z.lt r150z_1)
        have ne_kn_9z_np_150z : kn_9z ≠ np_150z := Nat.ne_of_lt (Nat.lt_of_lt_of_le f145z.lt r150z_1)
        show own_G p e below (T150z.setTop (mkF m 221 #[.val (.int p0), .val (.int p1), .val (.int p2), .val (.int p3), .val (.int (Int32.ofNat N)), .val (.int (Int32.ofNat a)), .val (.int (Int32.ofNat d)), .val (.int (Int32.ofNat b)), .val (.int ((Int32.ofNat a) + (1 : Int32))), .val (.int ((Int32.ofNat b) + (1 : Int32))), .val (.int f10), .val (.int f11), .val (.int f12), .val (.int f13), .val (.int f14), .val (.ref b1z), .val (.ref kn_9z), .unset, .unset] [])) _
        have f152z := (f143z.keep K150zq)
        have f153z := (f144z.keep K150zq r5z_2)
        have f154z := (f145z.keep K150zq)
        have f155z := (f146z.keep K150zq r9z_2)
        have f156z := (f147z.keep K150zq r9z_2)
        have V157z : own_L Z T150z.heap np_150z kp_150z ((N + 63) / 64) (own_one a) := own_L.eqf r150z_3 (fun j _ => by rw [own_R2b]; exact own_and_self _)
        refine own_go (fun t k => XS.iload X150z.here hx rfl (hb hby at_221) rfl k) ?_
        by_cases hc158z : f14 = (0 : Int32)
        · refine own_go (fun t k => XS.ifYes X150z.here hx rfl (pc0 := 223) (pc' := 234) rfl (hb hby at_223) rfl ((if0 _ _).trans (teq hc158z).1) (by decide) (by decide) k) ?_
          show own_G p e below (T150z.setTop (mkF m 234 #[.val (.int p0), .val (.int p1), .val (.int p2), .val (.int p3), .val (.int (Int32.ofNat N)), .val (.int (Int32.ofNat a)), .val (.int (Int32.ofNat d)), .val (.int (Int32.ofNat b)), .val (.int ((Int32.ofNat a) + (1 : Int32))), .val (.int ((Int32.ofNat b) + (1 : Int32))), .val (.int f10), .val (.int f11), .val (.int f12), .val (.int f13), .val (.int f14), .val (.ref b1z), .val (.ref kn_9z), .unset, .unset] [])) _
          refine own_go (fun t k => XS.aload X150z.here hx rfl (hb hby at_234) rfl rfl k) ?_
          refine own_go (fun t k => XS.iload X150z.here hx rfl (hb hby at_236) rfl k) ?_
          obtain ⟨cq159z, kq159z, qa159z, qb159z, qc159z⟩ := isOf hZ (rfl : T150z.heap = _) f152z
          obtain ⟨_, _, ⟨T159z, L159z, k159z, n159z⟩, -, X159z, ⟨Lc159z, hQ159z, l159z, y159z, z159z⟩, st159z⟩ := X150z.virtualBack hx (y := own_m10) (z := own_m10) hown (own_mw hZ hw 84 rfl) (own_mw hZ hw 85 rfl) (notFace_of_selects (args := #[]) (own_mw hZ hw 87 rfl)) (own_mw hZ hw 87 rfl) (own_mw hZ hw 86 rfl) (by decide) (backOf (W := 0) (own_en1 l Z a0 hw [] b1z N ((N + 63) / 64) A_3z K_3z rows_3z (own_upd (own_rcI (own_R2 a b) b N) b (own_or ((own_R2 a b) b) b)) (own_upd (fun _ => .null) a (.ref kn_9z)) (own_upd (own_upd (fun _ => .null) a (.ref np_5z)) b (.ref np_150z)) (own_or (own_one a) b) (own_upd (own_upd (fun _ => 0) a ((0 : Int64) + (1 : Int64))) b (((0 : Int64) + (1 : Int64)) + (1 : Int64))) (fun _ => 0) (((0 : Int64) + (1 : Int64)) + (1 : Int64)) b1z b ((Int32.ofNat b) + (1 : Int32)) np_150z kp_150z a T150z.heap O151z r150z_0 r3z_1 fr_b1z hN (by omega) (fun i hi => by omega) r3z_2 r3z_3 r3z_4 (own_p1 hbN hN) hbN haN (own_upd_hit _ _ _) V157z r150z_2) hZ (own_hw hw 88 rfl) (own_hw hw 3 rfl) (by decide) (by decide)) qa159z qc159z (g := (mkF m 238 #[.val (.int p0), .val (.int p1), .val (.int p2), .val (.int p3), .val (.int (Int32.ofNat N)), .val (.int (Int32.ofNat a)), .val (.int (Int32.ofNat d)), .val (.int (Int32.ofNat b)), .val (.int ((Int32.ofNat a) + (1 : Int32))), .val (.int ((Int32.ofNat b) + (1 : Int32))), .val (.int f10), .val (.int f11), .val (.int f12), .val (.int f13), .val (.int f14), .val (.ref b1z), .val (.ref kn_9z), .unset, .unset] [(.int ((Int32.ofNat b) + (1 : Int32))), (.ref b1z)])) rfl (by rw [hml]; rfl) (Steps.refl _) (argsL := [(.int ((Int32.ofNat b) + (1 : Int32)))]) (rest := []) (lenOf pd_2087992008 rfl) rfl (by show 2 * 0 + _ ≤ _; exact Nat.le_of_eq rfl) (hb hby at_238) (fun _ _ => ⟨rfl, rfl, (by decide : 139 + 0 ≤ _), (by decide : 1051 + 0 ≤ _)⟩)
          dsimp only [Pt.U, Pt.locs, Pt.cells, Pt.slots] at X159z l159z y159z z159z st159z hQ159z
          subst l159z y159z z159z
          obtain ⟨rfl, NQ159z, K159zq, r159z_0⟩ := hQ159z
          refine own_tr st159z ?_
          have N159z := Fr.app N150z NQ159z
          have O160z := own_ext_keep O151z K159zq (fun y hy => Nat.le_trans fr_b1z (own_D.all r3z_1 y hy))
          have K160z := K151z.trans K159zq (fun y hy => Or.inr (Nat.le_trans lz_b1z (own_D.all r3z_1 y hy)))
          show own_G p e below (T159z.setTop (mkF m 241 #[.val (.int p0), .val (.int p1), .val (.int p2), .val (.int p3), .val (.int (Int32.ofNat N)), .val (.int (Int32.ofNat a)), .val (.int (Int32.ofNat d)), .val (.int (Int32.ofNat b)), .val (.int ((Int32.ofNat a) + (1 : Int32))), .val (.int ((Int32.ofNat b) + (1 : Int32))), .val (.int f10), .val (.int f11), .val (.int f12), .val (.int f13), .val (.int f14), .val (.ref b1z), .val (.ref kn_9z), .unset, .unset] [(.int (own_ce ((own_upd (fun _ => 0) b ((((0 : Int64) + (1 : Int64)) + (1 : Int64)) + (1 : Int64))) a) ((own_upd (own_upd (fun _ => 0) a ((0 : Int64) + (1 : Int64))) b (((0 : Int64) + (1 : Int64)) + (1 : Int64))) b)))])) _
          refine own_go (fun t k => XS.istore X159z.here hx rfl (hb hby at_241) rfl (l' := #[.val (.int p0), .val (.int p1), .val (.int p2), .val (.int p3), .val (.int (Int32.ofNat N)), .val (.int (Int32.ofNat a)), .val (.int (Int32.ofNat d)), .val (.int (Int32.ofNat b)), .val (.int ((Int32.ofNat a) + (1 : Int32))), .val (.int ((Int32.ofNat b) + (1 : Int32))), .val (.int f10), .val (.int f11), .val (.int f12), .val (.int f13), .val (.int f14), .val (.ref b1z), .val (.ref kn_9z), .val (.int (own_ce ((own_upd (fun _ => 0) b ((((0 : Int64) + (1 : Int64)) + (1 : Int64)) + (1 : Int64))) a) ((own_upd (own_upd (fun _ => 0) a ((0 : Int64) + (1 : Int64))) b (((0 : Int64) + (1 : Int64)) + (1 : Int64))) b))), .unset]) rfl k) ?_
          refine own_go (fun t k => XS.iload X159z.here hx rfl (hb hby at_243) rfl k) ?_
          refine own_go (fun t k => XS.ifYes X159z.here hx rfl (pc0 := 245) (pc' := 253) rfl (hb hby at_245) rfl ((if0 _ _).trans (feq hc13z).2) (by decide) (by decide) k) ?_
          show own_G p e below (T159z.setTop (mkF m 253 #[.val (.int p0), .val (.int p1), .val (.int p2), .val (.int p3), .val (.int (Int32.ofNat N)), .val (.int (Int32.ofNat a)), .val (.int (Int32.ofNat d)), .val (.int (Int32.ofNat b)), .val (.int ((Int32.ofNat a) + (1 : Int32))), .val (.int ((Int32.ofNat b) + (1 : Int32))), .val (.int f10), .val (.int f11), .val (.int f12), .val (.int f13), .val (.int f14), .val (.ref b1z), .val (.ref kn_9z), .val (.int (own_ce ((own_upd (fun _ => 0) b ((((0 : Int64) + (1 : Int64)) + (1 : Int64)) + (1 : Int64))) a) ((own_upd (own_upd (fun _ => 0) a ((0 : Int64) + (1 : Int64))) b (((0 : Int64) + (1 : Int64)) + (1 : Int64))) b))), .unset] [])) _
          refine own_go (fun t k => XS.iload X159z.here hx rfl (hb hby at_253) rfl k) ?_
          refine own_go (fun t k => XS.ifNo X159z.here hx rfl (hb hby at_255) rfl ((if0 _ _).trans (teq hc149z).2) k) ?_
          show own_G p e below (T159z.setTop (mkF m 258 #[.val (.int p0), .val (.int p1), .val (.int p2), .val (.int p3), .val (.int (Int32.ofNat N)), .val (.int (Int32.ofNat a)), .val (.int (Int32.ofNat d)), .val (.int (Int32.ofNat b)), .val (.int ((Int32.ofNat a) + (1 : Int32))), .val (.int ((Int32.ofNat b) + (1 : Int32))), .val (.int f10), .val (.int f11), .val (.int f12), .val (.int f13), .val (.int f14), .val (.ref b1z), .val (.ref kn_9z), .val (.int (own_ce ((own_upd (fun _ => 0) b ((((0 : Int64) + (1 : Int64)) + (1 : Int64)) + (1 : Int64))) a) ((own_upd (own_upd (fun _ => 0) a ((0 : Int64) + (1 : Int64))) b (((0 : Int64) + (1 : Int64)) + (1 : Int64))) b))), .unset] [])) _
          refine own_go (fun t k => XS.iload X159z.here hx rfl (hb hby at_258) rfl k) ?_
          refine own_go (fun t k => XS.ifNo X159z.here hx rfl (hb hby at_260) rfl ((if0 _ _).trans (teq hc158z).2) k) ?_
          show own_G p e below (T159z.setTop (mkF m 263 #[.val (.int p0), .val (.int p1), .val (.int p2), .val (.int p3), .val (.int (Int32.ofNat N)), .val (.int (Int32.ofNat a)), .val (.int (Int32.ofNat d)), .val (.int (Int32.ofNat b)), .val (.int ((Int32.ofNat a) + (1 : Int32))), .val (.int ((Int32.ofNat b) + (1 : Int32))), .val (.int f10), .val (.int f11), .val (.int f12), .val (.int f13), .val (.int f14), .val (.ref b1z), .val (.ref kn_9z), .val (.int (own_ce ((own_upd (fun _ => 0) b ((((0 : Int64) + (1 : Int64)) + (1 : Int64)) + (1 : Int64))) a) ((own_upd (own_upd (fun _ => 0) a ((0 : Int64) + (1 : Int64))) b (((0 : Int64) + (1 : Int64)) + (1 : Int64))) b))), .unset] [])) _
          refine own_go (fun t k => XS.iconst X159z.here hx rfl (hb hby at_263) k) ?_
          refine own_go (fun t k => XS.goto X159z.here hx rfl (pc0 := 264) (pc' := 268) rfl (hb hby at_264) (by decide) (by decide) k) ?_
          show own_G p e below (T159z.setTop (mkF m 268 #[.val (.int p0), .val (.int p1), .val (.int p2), .val (.int p3), .val (.int (Int32.ofNat N)), .val (.int (Int32.ofNat a)), .val (.int (Int32.ofNat d)), .val (.int (Int32.ofNat b)), .val (.int ((Int32.ofNat a) + (1 : Int32))), .val (.int ((Int32.ofNat b) + (1 : Int32))), .val (.int f10), .val (.int f11), .val (.int f12), .val (.int f13), .val (.int f14), .val (.ref b1z), .val (.ref kn_9z), .val (.int (own_ce ((own_upd (fun _ => 0) b ((((0 : Int64) + (1 : Int64)) + (1 : Int64)) + (1 : Int64))) a) ((own_upd (own_upd (fun _ => 0) a ((0 : Int64) + (1 : Int64))) b (((0 : Int64) + (1 : Int64)) + (1 : Int64))) b))), .unset] [(.int (1 : Int32))])) _
          refine own_go (fun t k => XS.istore X159z.here hx rfl (hb hby at_268) rfl (l' := #[.val (.int p0), .val (.int p1), .val (.int p2), .val (.int p3), .val (.int (Int32.ofNat N)), .val (.int (Int32.ofNat a)), .val (.int (Int32.ofNat d)), .val (.int (Int32.ofNat b)), .val (.int ((Int32.ofNat a) + (1 : Int32))), .val (.int ((Int32.ofNat b) + (1 : Int32))), .val (.int f10), .val (.int f11), .val (.int f12), .val (.int f13), .val (.int f14), .val (.ref b1z), .val (.ref kn_9z), .val (.int (own_ce ((own_upd (fun _ => 0) b ((((0 : Int64) + (1 : Int64)) + (1 : Int64)) + (1 : Int64))) a) ((own_upd (own_upd (fun _ => 0) a ((0 : Int64) + (1 : Int64))) b (((0 : Int64) + (1 : Int64)) + (1 : Int64))) b))), .val (.int (1 : Int32))]) rfl k) ?_
          refine own_go (fun t k => XS.iload X159z.here hx rfl (hb hby at_270) rfl k) ?_
          refine own_go (fun t k => XS.iload X159z.here hx rfl (hb hby at_272) rfl k) ?_
          refine own_go (fun t k => XS.icmpNo X159z.here hx rfl (hb hby at_274) rfl (teq (by rw [own_upd_miss _ _ hab, own_upd_hit]; show own_ce 0 _ = 1; decide)).2 k) ?_
          show own_G p e below (T159z.setTop (mkF m 277 #[.val (.int p0), .val (.int p1), .val (.int p2), .val (.int p3), .val (.int (Int32.ofNat N)), .val (.int (Int32.ofNat a)), .val (.int (Int32.ofNat d)), .val (.int (Int32.ofNat b)), .val (.int ((Int32.ofNat a) + (1 : Int32))), .val (.int ((Int32.ofNat b) + (1 : Int32))), .val (.int f10), .val (.int f11), .val (.int f12), .val (.int f13), .val (.int f14), .val (.ref b1z), .val (.ref kn_9z), .val (.int (own_ce ((own_upd (fun _ => 0) b ((((0 : Int64) + (1 : Int64)) + (1 : Int64)) + (1 : Int64))) a) ((own_upd (own_upd (fun _ => 0) a ((0 : Int64) + (1 : Int64))) b (((0 : Int64) + (1 : Int64)) + (1 : Int64))) b))), .val (.int (1 : Int32))] [])) _
          refine own_go (fun t k => XS.iconst X159z.here hx rfl (hb hby at_277) k) ?_
          refine own_go (fun t k => XS.goto X159z.here hx rfl (pc0 := 278) (pc' := 282) rfl (hb hby at_278) (by decide) (by decide) k) ?_
          show own_G p e below (T159z.setTop (mkF m 282 #[.val (.int p0), .val (.int p1), .val (.int p2), .val (.int p3), .val (.int (Int32.ofNat N)), .val (.int (Int32.ofNat a)), .val (.int (Int32.ofNat d)), .val (.int (Int32.ofNat b)), .val (.int ((Int32.ofNat a) + (1 : Int32))), .val (.int ((Int32.ofNat b) + (1 : Int32))), .val (.int f10), .val (.int f11), .val (.int f12), .val (.int f13), .val (.int f14), .val (.ref b1z), .val (.ref kn_9z), .val (.int (own_ce ((own_upd (fun _ => 0) b ((((0 : Int64) + (1 : Int64)) + (1 : Int64)) + (1 : Int64))) a) ((own_upd (own_upd (fun _ => 0) a ((0 : Int64) + (1 : Int64))) b (((0 : Int64) + (1 : Int64)) + (1 : Int64))) b))), .val (.int (1 : Int32))] [(.int (1 : Int32))])) _
          exact own_ret X159z hx Bd.returns rfl (Or.inl ⟨rfl, Or.inr (Or.inl rfl), _, rfl⟩) (hb hby at_282) hlk (Nat.le_of_ble_eq_true rfl) (Nat.le_of_ble_eq_true rfl) (by show Q_own_law Z p0 p1 p2 p3 h0 _ T159z.heap _; exact ⟨rfl, N159z, K160z⟩)
        · refine own_go (fun t k => XS.ifNo X150z.here hx rfl (hb hby at_223) rfl ((if0 _ _).trans (feq hc158z).1) k) ?_
          show own_G p e below (T150z.setTop (mkF m 226 #[.val (.int p0), .val (.int p1), .val (.int p2), .val (.int p3), .val (.int (Int32.ofNat N)), .val (.int (Int32.ofNat a)), .val (.int (Int32.ofNat d)), .val (.int (Int32.ofNat b)), .val (.int ((Int32.ofNat a) + (1 : Int32))), .val (.int ((Int32.ofNat b) + (1 : Int32))), .val (.int f10), .val (.int f11), .val (.int f12), .val (.int f13), .val (.int f14), .val (.ref b1z), .val (.ref kn_9z), .unset, .unset] [])) _
          refine own_go (fun t k => XS.aload X150z.here hx rfl (hb hby at_226) rfl rfl k) ?_
          refine own_go (fun t k => XS.iload X150z.here hx rfl (hb hby at_228) rfl k) ?_
          obtain ⟨cq161z, kq161z, qa161z, qb161z, qc161z⟩ := isOf hZ (rfl : T150z.heap = _) f152z
          obtain ⟨_, _, ⟨T161z, L161z, k161z, n161z⟩, -, X161z, ⟨Lc161z, hQ161z, l161z, y161z, z161z⟩, st161z⟩ := X150z.virtualBack hx (y := own_m10) (z := own_m10) hown (own_mw hZ hw 84 rfl) (own_mw hZ hw 85 rfl) (notFace_of_selects (args := #[]) (own_mw hZ hw 87 rfl)) (own_mw hZ hw 87 rfl) (own_mw hZ hw 86 rfl) (by decide) (backOf (W := 0) (own_en0 l Z a0 hw [] b1z N ((N + 63) / 64) A_3z K_3z rows_3z (own_upd (own_rcI (own_R2 a b) b N) b (own_or ((own_R2 a b) b) b)) (own_upd (fun _ => .null) a (.ref kn_9z)) (own_upd (own_upd (fun _ => .null) a (.ref np_5z)) b (.ref np_150z)) (own_or (own_one a) b) (own_upd (own_upd (fun _ => 0) a ((0 : Int64) + (1 : Int64))) b (((0 : Int64) + (1 : Int64)) + (1 : Int64))) (fun _ => 0) (((0 : Int64) + (1 : Int64)) + (1 : Int64)) b1z a ((Int32.ofNat a) + (1 : Int32)) np_5z kp_5z T150z.heap O151z r150z_0 r3z_1 fr_b1z hN (by omega) (fun i hi => by omega) r3z_2 r3z_3 r3z_4 (own_p1 haN hN) haN ((own_upd_miss _ _ hab).trans (own_upd_hit _ _ _)) f153z r5z_2) hZ (own_hw hw 88 rfl) (own_hw hw 3 rfl) (by decide) (by decide)) qa161z qc161z (g := (mkF m 230 #[.val (.int p0), .val (.int p1), .val (.int p2), .val (.int p3), .val (.int (Int32.ofNat N)), .val (.int (Int32.ofNat a)), .val (.int (Int32.ofNat d)), .val (.int (Int32.ofNat b)), .val (.int ((Int32.ofNat a) + (1 : Int32))), .val (.int ((Int32.ofNat b) + (1 : Int32))), .val (.int f10), .val (.int f11), .val (.int f12), .val (.int f13), .val (.int f14), .val (.ref b1z), .val (.ref kn_9z), .unset, .unset] [(.int ((Int32.ofNat a) + (1 : Int32))), (.ref b1z)])) rfl (by rw [hml]; rfl) (Steps.refl _) (argsL := [(.int ((Int32.ofNat a) + (1 : Int32)))]) (rest := []) (lenOf pd_2087992008 rfl) rfl (by show 2 * 0 + _ ≤ _; exact Nat.le_of_eq rfl) (hb hby at_230) (fun _ _ => ⟨rfl, rfl, (by decide : 139 + 0 ≤ _), (by decide : 1051 + 0 ≤ _)⟩)
          dsimp only [Pt.U, Pt.locs, Pt.cells, Pt.slots] at X161z l161z y161z z161z st161z hQ161z
          subst l161z y161z z161z
          obtain ⟨rfl, NQ161z, K161zq, r161z_0⟩ := hQ161z
          refine own_tr st161z ?_
          have N161z := Fr.app N150z NQ161z
          have O162z := own_ext_keep O151z K161zq (fun y hy => Nat.le_trans fr_b1z (own_D.all r3z_1 y hy))
          have K162z := K151z.trans K161zq (fun y hy => Or.inr (Nat.le_trans lz_b1z (own_D.all r3z_1 y hy)))
          show own_G p e below (T161z.setTop (mkF m 233 #[.val (.int p0), .val (.int p1), .val (.int p2), .val (.int p3), .val (.int (Int32.ofNat N)), .val (.int (Int32.ofNat a)), .val (.int (Int32.ofNat d)), .val (.int (Int32.ofNat b)), .val (.int ((Int32.ofNat a) + (1 : Int32))), .val (.int ((Int32.ofNat b) + (1 : Int32))), .val (.int f10), .val (.int f11), .val (.int f12), .val (.int f13), .val (.int f14), .val (.ref b1z), .val (.ref kn_9z), .unset, .unset] [(.int (0 : Int32))])) _
          have f163z := (f152z.keep K161zq)
          have f164z := (f153z.keep K161zq r5z_2)
          have f165z := (f154z.keep K161zq)
          have f166z := (f155z.keep K161zq r9z_2)
          have f167z := (f156z.keep K161zq r9z_2)
          have f168z := (V157z.keep K161zq r150z_2)
          refine own_go (fun t k => XS.pop X161z.here hx rfl (hb hby at_233) rfl rfl k) ?_
          refine own_go (fun t k => XS.aload X161z.here hx rfl (hb hby at_234) rfl rfl k) ?_
          refine own_go (fun t k => XS.iload X161z.here hx rfl (hb hby at_236) rfl k) ?_
          obtain ⟨cq169z, kq169z, qa169z, qb169z, qc169z⟩ := isOf hZ (rfl : T161z.heap = _) f163z
          obtain ⟨_, _, ⟨T169z, L169z, k169z, n169z⟩, -, X169z, ⟨Lc169z, hQ169z, l169z, y169z, z169z⟩, st169z⟩ := X161z.virtualBack hx (y := own_m10) (z := own_m10) hown (own_mw hZ hw 84 rfl) (own_mw hZ hw 85 rfl) (notFace_of_selects (args := #[]) (own_mw hZ hw 87 rfl)) (own_mw hZ hw 87 rfl) (own_mw hZ hw 86 rfl) (by decide) (backOf (W := 0) (own_en1 l Z a0 hw [] b1z N ((N + 63) / 64) A_3z K_3z rows_3z (own_upd (own_rcI (own_R2 a b) b N) b (own_or ((own_R2 a b) b) b)) (own_upd (fun _ => .null) a (.ref kn_9z)) (own_upd (own_upd (own_upd (fun _ => .null) a (.ref np_5z)) b (.ref np_150z)) a .null) (own_clr (own_or (own_one a) b) a) (own_upd (own_upd (fun _ => 0) a ((0 : Int64) + (1 : Int64))) b (((0 : Int64) + (1 : Int64)) + (1 : Int64))) (own_upd (fun _ => 0) a ((((0 : Int64) + (1 : Int64)) + (1 : Int64)) + (1 : Int64))) ((((0 : Int64) + (1 : Int64)) + (1 : Int64)) + (1 : Int64)) b1z b ((Int32.ofNat b) + (1 : Int32)) np_150z kp_150z a T161z.heap O162z r161z_0 r3z_1 fr_b1z hN (by omega) (fun i hi => by omega) r3z_2 r3z_3 r3z_4 (own_p1 hbN hN) hbN haN ((own_upd_miss _ _ hba).trans (own_upd_hit _ _ _)) f168z r150z_2) hZ (own_hw hw 88 rfl) (own_hw hw 3 rfl) (by decide) (by decide)) qa169z qc169z (g := (mkF m 238 #[.val (.int p0), .val (.int p1), .val (.int p2), .val (.int p3), .val (.int (Int32.ofNat N)), .val (.int (Int32.ofNat a)), .val (.int (Int32.ofNat d)), .val (.int (Int32.ofNat b)), .val (.int ((Int32.ofNat a) + (1 : Int32))), .val (.int ((Int32.ofNat b) + (1 : Int32))), .val (.int f10), .val (.int f11), .val (.int f12), .val (.int f13), .val (.int f14), .val (.ref b1z), .val (.ref kn_9z), .unset, .unset] [(.int ((Int32.ofNat b) + (1 : Int32))), (.ref b1z)])) rfl (by rw [hml]; rfl) (Steps.refl _) (argsL := [(.int ((Int32.ofNat b) + (1 : Int32)))]) (rest := []) (lenOf pd_2087992008 rfl) rfl (by show 2 * 0 + _ ≤ _; exact Nat.le_of_eq rfl) (hb hby at_238) (fun _ _ => ⟨rfl, rfl, (by decide : 139 + 0 ≤ _), (by decide : 1051 + 0 ≤ _)⟩)
          dsimp only [Pt.U, Pt.locs, Pt.cells, Pt.slots] at X169z l169z y169z z169z st169z hQ169z
          subst l169z y169z z169z
          obtain ⟨rfl, NQ169z, K169zq, r169z_0⟩ := hQ169z
          refine own_tr st169z ?_
          have N169z := Fr.app N161z NQ169z
          have O170z := own_ext_keep O162z K169zq (fun y hy => Nat.le_trans fr_b1z (own_D.all r3z_1 y hy))
          have K170z := K162z.trans K169zq (fun y hy => Or.inr (Nat.le_trans lz_b1z (own_D.all r3z_1 y hy)))
          show own_G p e below (T169z.setTop (mkF m 241 #[.val (.int p0), .val (.int p1), .val (.int p2), .val (.int p3), .val (.int (Int32.ofNat N)), .val (.int (Int32.ofNat a)), .val (.int (Int32.ofNat d)), .val (.int (Int32.ofNat b)), .val (.int ((Int32.ofNat a) + (1 : Int32))), .val (.int ((Int32.ofNat b) + (1 : Int32))), .val (.int f10), .val (.int f11), .val (.int f12), .val (.int f13), .val (.int f14), .val (.ref b1z), .val (.ref kn_9z), .unset, .unset] [(.int (own_ce ((own_upd (own_upd (fun _ => 0) a ((((0 : Int64) + (1 : Int64)) + (1 : Int64)) + (1 : Int64))) b (((((0 : Int64) + (1 : Int64)) + (1 : Int64)) + (1 : Int64)) + (1 : Int64))) a) ((own_upd (own_upd (fun _ => 0) a ((0 : Int64) + (1 : Int64))) b (((0 : Int64) + (1 : Int64)) + (1 : Int64))) b)))])) _
          refine own_go (fun t k => XS.istore X169z.here hx rfl (hb hby at_241) rfl (l' := #[.val (.int p0), .val (.int p1), .val (.int p2), .val (.int p3), .val (.int (Int32.ofNat N)), .val (.int (Int32.ofNat a)), .val (.int (Int32.ofNat d)), .val (.int (Int32.ofNat b)), .val (.int ((Int32.ofNat a) + (1 : Int32))), .val (.int ((Int32.ofNat b) + (1 : Int32))), .val (.int f10), .val (.int f11), .val (.int f12), .val (.int f13), .val (.int f14), .val (.ref b1z), .val (.ref kn_9z), .val (.int (own_ce ((own_upd (own_upd (fun _ => 0) a ((((0 : Int64) + (1 : Int64)) + (1 : Int64)) + (1 : Int64))) b (((((0 : Int64) + (1 : Int64)) + (1 : Int64)) + (1 : Int64)) + (1 : Int64))) a) ((own_upd (own_upd (fun _ => 0) a ((0 : Int64) + (1 : Int64))) b (((0 : Int64) + (1 : Int64)) + (1 : Int64))) b))), .unset]) rfl k) ?_
          refine own_go (fun t k => XS.iload X169z.here hx rfl (hb hby at_243) rfl k) ?_
          refine own_go (fun t k => XS.ifYes X169z.here hx rfl (pc0 := 245) (pc' := 253) rfl (hb hby at_245) rfl ((if0 _ _).trans (feq hc13z).2) (by decide) (by decide) k) ?_
          show own_G p e below (T169z.setTop (mkF m 253 #[.val (.int p0), .val (.int p1), .val (.int p2), .val (.int p3), .val (.int (Int32.ofNat N)), .val (.int (Int32.ofNat a)), .val (.int (Int32.ofNat d)), .val (.int (Int32.ofNat b)), .val (.int ((Int32.ofNat a) + (1 : Int32))), .val (.int ((Int32.ofNat b) + (1 : Int32))), .val (.int f10), .val (.int f11), .val (.int f12), .val (.int f13), .val (.int f14), .val (.ref b1z), .val (.ref kn_9z), .val (.int (own_ce ((own_upd (own_upd (fun _ => 0) a ((((0 : Int64) + (1 : Int64)) + (1 : Int64)) + (1 : Int64))) b (((((0 : Int64) + (1 : Int64)) + (1 : Int64)) + (1 : Int64)) + (1 : Int64))) a) ((own_upd (own_upd (fun _ => 0) a ((0 : Int64) + (1 : Int64))) b (((0 : Int64) + (1 : Int64)) + (1 : Int64))) b))), .unset] [])) _
          refine own_go (fun t k => XS.iload X169z.here hx rfl (hb hby at_253) rfl k) ?_
          refine own_go (fun t k => XS.ifNo X169z.here hx rfl (hb hby at_255) rfl ((if0 _ _).trans (teq hc149z).2) k) ?_
          show own_G p e below (T169z.setTop (mkF m 258 #[.val (.int p0), .val (.int p1), .val (.int p2), .val (.int p3), .val (.int (Int32.ofNat N)), .val (.int (Int32.ofNat a)), .val (.int (Int32.ofNat d)), .val (.int (Int32.ofNat b)), .val (.int ((Int32.ofNat a) + (1 : Int32))), .val (.int ((Int32.ofNat b) + (1 : Int32))), .val (.int f10), .val (.int f11), .val (.int f12), .val (.int f13), .val (.int f14), .val (.ref b1z), .val (.ref kn_9z), .val (.int (own_ce ((own_upd (own_upd (fun _ => 0) a ((((0 : Int64) + (1 : Int64)) + (1 : Int64)) + (1 : Int64))) b (((((0 : Int64) + (1 : Int64)) + (1 : Int64)) + (1 : Int64)) + (1 : Int64))) a) ((own_upd (own_upd (fun _ => 0) a ((0 : Int64) + (1 : Int64))) b (((0 : Int64) + (1 : Int64)) + (1 : Int64))) b))), .unset] [])) _
          refine own_go (fun t k => XS.iload X169z.here hx rfl (hb hby at_258) rfl k) ?_
          refine own_go (fun t k => XS.ifYes X169z.here hx rfl (pc0 := 260) (pc' := 267) rfl (hb hby at_260) rfl ((if0 _ _).trans (feq hc158z).2) (by decide) (by decide) k) ?_
          show own_G p e below (T169z.setTop (mkF m 267 #[.val (.int p0), .val (.int p1), .val (.int p2), .val (.int p3), .val (.int (Int32.ofNat N)), .val (.int (Int32.ofNat a)), .val (.int (Int32.ofNat d)), .val (.int (Int32.ofNat b)), .val (.int ((Int32.ofNat a) + (1 : Int32))), .val (.int ((Int32.ofNat b) + (1 : Int32))), .val (.int f10), .val (.int f11), .val (.int f12), .val (.int f13), .val (.int f14), .val (.ref b1z), .val (.ref kn_9z), .val (.int (own_ce ((own_upd (own_upd (fun _ => 0) a ((((0 : Int64) + (1 : Int64)) + (1 : Int64)) + (1 : Int64))) b (((((0 : Int64) + (1 : Int64)) + (1 : Int64)) + (1 : Int64)) + (1 : Int64))) a) ((own_upd (own_upd (fun _ => 0) a ((0 : Int64) + (1 : Int64))) b (((0 : Int64) + (1 : Int64)) + (1 : Int64))) b))), .unset] [])) _
          refine own_go (fun t k => XS.iconst X169z.here hx rfl (hb hby at_267) k) ?_
          refine own_go (fun t k => XS.istore X169z.here hx rfl (hb hby at_268) rfl (l' := #[.val (.int p0), .val (.int p1), .val (.int p2), .val (.int p3), .val (.int (Int32.ofNat N)), .val (.int (Int32.ofNat a)), .val (.int (Int32.ofNat d)), .val (.int (Int32.ofNat b)), .val (.int ((Int32.ofNat a) + (1 : Int32))), .val (.int ((Int32.ofNat b) + (1 : Int32))), .val (.int f10), .val (.int f11), .val (.int f12), .val (.int f13), .val (.int f14), .val (.ref b1z), .val (.ref kn_9z), .val (.int (own_ce ((own_upd (own_upd (fun _ => 0) a ((((0 : Int64) + (1 : Int64)) + (1 : Int64)) + (1 : Int64))) b (((((0 : Int64) + (1 : Int64)) + (1 : Int64)) + (1 : Int64)) + (1 : Int64))) a) ((own_upd (own_upd (fun _ => 0) a ((0 : Int64) + (1 : Int64))) b (((0 : Int64) + (1 : Int64)) + (1 : Int64))) b))), .val (.int (0 : Int32))]) rfl k) ?_
          refine own_go (fun t k => XS.iload X169z.here hx rfl (hb hby at_270) rfl k) ?_
          refine own_go (fun t k => XS.iload X169z.here hx rfl (hb hby at_272) rfl k) ?_
          show own_G p e below (T169z.setTop (mkF m 274 #[.val (.int p0), .val (.int p1), .val (.int p2), .val (.int p3), .val (.int (Int32.ofNat N)), .val (.int (Int32.ofNat a)), .val (.int (Int32.ofNat d)), .val (.int (Int32.ofNat b)), .val (.int ((Int32.ofNat a) + (1 : Int32))), .val (.int ((Int32.ofNat b) + (1 : Int32))), .val (.int f10), .val (.int f11), .val (.int f12), .val (.int f13), .val (.int f14), .val (.ref b1z), .val (.ref kn_9z), .val (.int (own_ce ((own_upd (own_upd (fun _ => 0) a ((((0 : Int64) + (1 : Int64)) + (1 : Int64)) + (1 : Int64))) b (((((0 : Int64) + (1 : Int64)) + (1 : Int64)) + (1 : Int64)) + (1 : Int64))) a) ((own_upd (own_upd (fun _ => 0) a ((0 : Int64) + (1 : Int64))) b (((0 : Int64) + (1 : Int64)) + (1 : Int64))) b))), .val (.int (0 : Int32))] [(.int (0 : Int32)), (.int (own_ce ((own_upd (own_upd (fun _ => 0) a ((((0 : Int64) + (1 : Int64)) + (1 : Int64)) + (1 : Int64))) b (((((0 : Int64) + (1 : Int64)) + (1 : Int64)) + (1 : Int64)) + (1 : Int64))) a) ((own_upd (own_upd (fun _ => 0) a ((0 : Int64) + (1 : Int64))) b (((0 : Int64) + (1 : Int64)) + (1 : Int64))) b)))])) _
          refine own_go (fun t k => XS.icmpNo X169z.here hx rfl (hb hby at_274) rfl (teq (by rw [own_upd_miss _ _ hab, own_upd_hit, own_upd_hit]; decide)).2 k) ?_
          show own_G p e below (T169z.setTop (mkF m 277 #[.val (.int p0), .val (.int p1), .val (.int p2), .val (.int p3), .val (.int (Int32.ofNat N)), .val (.int (Int32.ofNat a)), .val (.int (Int32.ofNat d)), .val (.int (Int32.ofNat b)), .val (.int ((Int32.ofNat a) + (1 : Int32))), .val (.int ((Int32.ofNat b) + (1 : Int32))), .val (.int f10), .val (.int f11), .val (.int f12), .val (.int f13), .val (.int f14), .val (.ref b1z), .val (.ref kn_9z), .val (.int (own_ce ((own_upd (own_upd (fun _ => 0) a ((((0 : Int64) + (1 : Int64)) + (1 : Int64)) + (1 : Int64))) b (((((0 : Int64) + (1 : Int64)) + (1 : Int64)) + (1 : Int64)) + (1 : Int64))) a) ((own_upd (own_upd (fun _ => 0) a ((0 : Int64) + (1 : Int64))) b (((0 : Int64) + (1 : Int64)) + (1 : Int64))) b))), .val (.int (0 : Int32))] [])) _
          refine own_go (fun t k => XS.iconst X169z.here hx rfl (hb hby at_277) k) ?_
          refine own_go (fun t k => XS.goto X169z.here hx rfl (pc0 := 278) (pc' := 282) rfl (hb hby at_278) (by decide) (by decide) k) ?_
          show own_G p e below (T169z.setTop (mkF m 282 #[.val (.int p0), .val (.int p1), .val (.int p2), .val (.int p3), .val (.int (Int32.ofNat N)), .val (.int (Int32.ofNat a)), .val (.int (Int32.ofNat d)), .val (.int (Int32.ofNat b)), .val (.int ((Int32.ofNat a) + (1 : Int32))), .val (.int ((Int32.ofNat b) + (1 : Int32))), .val (.int f10), .val (.int f11), .val (.int f12), .val (.int f13), .val (.int f14), .val (.ref b1z), .val (.ref kn_9z), .val (.int (own_ce ((own_upd (own_upd (fun _ => 0) a ((((0 : Int64) + (1 : Int64)) + (1 : Int64)) + (1 : Int64))) b (((((0 : Int64) + (1 : Int64)) + (1 : Int64)) + (1 : Int64)) + (1 : Int64))) a) ((own_upd (own_upd (fun _ => 0) a ((0 : Int64) + (1 : Int64))) b (((0 : Int64) + (1 : Int64)) + (1 : Int64))) b))), .val (.int (0 : Int32))] [(.int (1 : Int32))])) _
          exact own_ret X169z hx Bd.returns rfl (Or.inl ⟨rfl, Or.inr (Or.inl rfl), _, rfl⟩) (hb hby at_282) hlk (Nat.le_of_ble_eq_true rfl) (Nat.le_of_ble_eq_true rfl) (by show Q_own_law Z p0 p1 p2 p3 h0 _ T169z.heap _; exact ⟨rfl, N169z, K170z⟩)
      · refine own_go (fun t k => XS.ifNo X141z.here hx rfl (hb hby at_177) rfl ((if0 _ _).trans (feq hc149z).1) k) ?_
        show own_G p e below (T141z.setTop (mkF m 180 #[.val (.int p0), .val (.int p1), .val (.int p2), .val (.int p3), .val (.int (Int32.ofNat N)), .val (.int (Int32.ofNat a)), .val (.int (Int32.ofNat d)), .val (.int (Int32.ofNat b)), .val (.int ((Int32.ofNat a) + (1 : Int32))), .val (.int ((Int32.ofNat b) + (1 : Int32))), .val (.int f10), .val (.int f11), .val (.int f12), .val (.int f13), .val (.int f14), .val (.ref b1z), .val (.ref kn_9z), .unset, .unset] [])) _
        refine own_go (fun t k => XS.aload X141z.here hx rfl (hb hby at_180) rfl rfl k) ?_
        refine own_go (fun t k => XS.iload X141z.here hx rfl (hb hby at_182) rfl k) ?_
        obtain ⟨cq171z, kq171z, qa171z, qb171z, qc171z⟩ := isOf hZ (rfl : T141z.heap = _) f143z
        obtain ⟨_, _, ⟨T171z, L171z, k171z, n171z⟩, -, X171z, ⟨Lc171z, hQ171z, l171z, y171z, z171z⟩, st171z⟩ := X141z.virtualBack hx (y := own_m10) (z := own_m10) hown (own_mw hZ hw 84 rfl) (own_mw hZ hw 85 rfl) (notFace_of_selects (args := #[]) (own_mw hZ hw 87 rfl)) (own_mw hZ hw 87 rfl) (own_mw hZ hw 86 rfl) (by decide) (backOf (W := 0) (own_en0 l Z a0 hw [] b1z N ((N + 63) / 64) A_3z K_3z rows_3z (own_R2 a b) (own_upd (fun _ => .null) a (.ref kn_9z)) (own_upd (fun _ => .null) a (.ref np_5z)) (own_one a) (own_upd (fun _ => 0) a ((0 : Int64) + (1 : Int64))) (fun _ => 0) ((0 : Int64) + (1 : Int64)) b1z a ((Int32.ofNat a) + (1 : Int32)) np_5z kp_5z T141z.heap O142z I148z r3z_1 fr_b1z hN (by omega) (fun i hi => by omega) r3z_2 r3z_3 r3z_4 (own_p1 haN hN) haN (own_upd_hit _ _ _) f144z r5z_2) hZ (own_hw hw 88 rfl) (own_hw hw 3 rfl) (by decide) (by decide)) qa171z qc171z (g := (mkF m 184 #[.val (.int p0), .val (.int p1), .val (.int p2), .val (.int p3), .val (.int (Int32.ofNat N)), .val (.int (Int32.ofNat a)), .val (.int (Int32.ofNat d)), .val (.int (Int32.ofNat b)), .val (.int ((Int32.ofNat a) + (1 : Int32))), .val (.int ((Int32.ofNat b) + (1 : Int32))), .val (.int f10), .val (.int f11), .val (.int f12), .val (.int f13), .val (.int f14), .val (.ref b1z), .val (.ref kn_9z), .unset, .unset] [(.int ((Int32.ofNat a) + (1 : Int32))), (.ref b1z)])) rfl (by rw [hml]; rfl) (Steps.refl _) (argsL := [(.int ((Int32.ofNat a) + (1 : Int32)))]) (rest := []) (lenOf pd_2087992008 rfl) rfl (by show 2 * 0 + _ ≤ _; exact Nat.le_of_eq rfl) (hb hby at_184) (fun _ _ => ⟨rfl, rfl, (by decide : 138 + 0 ≤ _), (by decide : 1048 + 0 ≤ _)⟩)
        dsimp only [Pt.U, Pt.locs, Pt.cells, Pt.slots] at X171z l171z y171z z171z st171z hQ171z
        subst l171z y171z z171z
        obtain ⟨rfl, NQ171z, K171zq, r171z_0⟩ := hQ171z
        refine own_tr st171z ?_
        have N171z := Fr.app N141z NQ171z
        have O172z := own_ext_keep O142z K171zq (fun y hy => Nat.le_trans fr_b1z (own_D.all r3z_1 y hy))
        have K172z := K142z.trans K171zq (fun y hy => Or.inr (Nat.le_trans lz_b1z (own_D.all r3z_1 y hy)))
        show own_G p e below (T171z.setTop (mkF m 187 #[.val (.int p0), .val (.int p1), .val (.int p2), .val (.int p3), .val (.int (Int32.ofNat N)), .val (.int (Int32.ofNat a)), .val (.int (Int32.ofNat d)), .val (.int (Int32.ofNat b)), .val (.int ((Int32.ofNat a) + (1 : Int32))), .val (.int ((Int32.ofNat b) + (1 : Int32))), .val (.int f10), .val (.int f11), .val (.int f12), .val (.int f13), .val (.int f14), .val (.ref b1z), .val (.ref kn_9z), .unset, .unset] [(.int (0 : Int32))])) _
        have I173z : own_I Z T171z.heap b1z N ((N + 63) / 64) A_3z K_3z rows_3z (own_R2 a b) (own_upd (fun _ => .null) a (.ref kn_9z)) (own_upd (own_upd (fun _ => .null) a (.ref np_5z)) a .null) (fun _ => 0) (own_upd (fun _ => 0) a ((0 : Int64) + (1 : Int64))) (own_upd (fun _ => 0) a (((0 : Int64) + (1 : Int64)) + (1 : Int64))) (((0 : Int64) + (1 : Int64)) + (1 : Int64)) := own_I.cast r171z_0 rfl (own_clr1 a)
        have f174z := (f143z.keep K171zq)
        have f175z := (f144z.keep K171zq r5z_2)
        have f176z := (f145z.keep K171zq)
        have f177z := (f146z.keep K171zq r9z_2)
        have f178z := (f147z.keep K171zq r9z_2)
        refine own_go (fun t k => XS.pop X171z.here hx rfl (hb hby at_187) rfl rfl k) ?_
        refine own_go (fun t k => XS.iload X171z.here hx rfl (hb hby at_188) rfl k) ?_
        by_cases hc179z : f12 = (0 : Int32)
        · refine own_go (fun t k => XS.ifYes X171z.here hx rfl (pc0 := 190) (pc' := 200) rfl (hb hby at_190) rfl ((if0 _ _).trans (teq hc179z).1) (by decide) (by decide) k) ?_
          show own_G p e below (T171z.setTop (mkF m 200 #[.val (.int p0), .val (.int p1), .val (.int p2), .val (.int p3), .val (.int (Int32.ofNat N)), .val (.int (Int32.ofNat a)), .val (.int (Int32.ofNat d)), .val (.int (Int32.ofNat b)), .val (.int ((Int32.ofNat a) + (1 : Int32))), .val (.int ((Int32.ofNat b) + (1 : Int32))), .val (.int f10), .val (.int f11), .val (.int f12), .val (.int f13), .val (.int f14), .val (.ref b1z), .val (.ref kn_9z), .unset, .unset] [])) _
          refine own_go (fun t k => XS.iload X171z.here hx rfl (hb hby at_200) rfl k) ?_
          refine own_go (fun t k => XS.ifYes X171z.here hx rfl (pc0 := 202) (pc' := 214) rfl (hb hby at_202) rfl ((if0 _ _).trans (teq (g13 hc13z)).1) (by decide) (by decide) k) ?_
          show own_G p e below (T171z.setTop (mkF m 214 #[.val (.int p0), .val (.int p1), .val (.int p2), .val (.int p3), .val (.int (Int32.ofNat N)), .val (.int (Int32.ofNat a)), .val (.int (Int32.ofNat d)), .val (.int (Int32.ofNat b)), .val (.int ((Int32.ofNat a) + (1 : Int32))), .val (.int ((Int32.ofNat b) + (1 : Int32))), .val (.int f10), .val (.int f11), .val (.int f12), .val (.int f13), .val (.int f14), .val (.ref b1z), .val (.ref kn_9z), .unset, .unset] [])) _
          refine own_go (fun t k => XS.aload X171z.here hx rfl (hb hby at_214) rfl rfl k) ?_
          refine own_go (fun t k => XS.iload X171z.here hx rfl (hb hby at_216) rfl k) ?_
          obtain ⟨cq180z, kq180z, qa180z, qb180z, qc180z⟩ := isOf hZ (rfl : T171z.heap = _) f174z
          obtain ⟨_, _, ⟨T180z, L180z, k180z, n180z⟩, -, X180z, ⟨Lc180z, hQ180z, l180z, y180z, z180z⟩, st180z⟩ := X171z.virtualBack hx (y := own_m7) (z := own_m7) hown (own_mw hZ hw 30 rfl) (own_mw hZ hw 31 rfl) (notFace_of_selects (args := #[]) (own_mw hZ hw 33 rfl)) (own_mw hZ hw 33 rfl) (own_mw hZ hw 32 rfl) (by decide) (backOf (W := 0) (own_rq0 l Z a0 hw [] b1z N ((N + 63) / 64) A_3z K_3z rows_3z (own_R2 a b) (own_upd (fun _ => .null) a (.ref kn_9z)) (own_upd (own_upd (fun _ => .null) a (.ref np_5z)) a .null) (fun _ => 0) (own_upd (fun _ => 0) a ((0 : Int64) + (1 : Int64))) (own_upd (fun _ => 0) a (((0 : Int64) + (1 : Int64)) + (1 : Int64))) (((0 : Int64) + (1 : Int64)) + (1 : Int64)) b1z b ((Int32.ofNat b) + (1 : Int32)) T171z.heap O172z I173z r3z_1 fr_b1z hN (by omega) (fun i hi => by omega) r3z_2 r3z_3 r3z_4 (own_p1 hbN hN) hbN (fun j _ _ q => absurd (own_hasR2 hab j) q) (own_upd_miss _ _ hba)) hZ (own_hw hw 34 rfl) (own_hw hw 3 rfl) (by decide) (by decide)) qa180z qc180z (g := (mkF m 218 #[.val (.int p0), .val (.int p1), .val (.int p2), .val (.int p3), .val (.int (Int32.ofNat N)), .val (.int (Int32.ofNat a)), .val (.int (Int32.ofNat d)), .val (.int (Int32.ofNat b)), .val (.int ((Int32.ofNat a) + (1 : Int32))), .val (.int ((Int32.ofNat b) + (1 : Int32))), .val (.int f10), .val (.int f11), .val (.int f12), .val (.int f13), .val (.int f14), .val (.ref b1z), .val (.ref kn_9z), .unset, .unset] [(.int ((Int32.ofNat b) + (1 : Int32))), (.ref b1z)])) rfl (by rw [hml]; rfl) (Steps.refl _) (argsL := [(.int ((Int32.ofNat b) + (1 : Int32)))]) (rest := []) (lenOf pd_2087992021 rfl) rfl (by show 2 * 0 + _ ≤ _; exact Nat.le_of_eq rfl) (hb hby at_218) (fun _ _ => ⟨rfl, rfl, (by decide : 138 + 1 ≤ _), (by decide : 1048 + 3 ≤ _)⟩)
          dsimp only [Pt.U, Pt.locs, Pt.cells, Pt.slots] at X180z l180z y180z z180z st180z hQ180z
          subst l180z y180z z180z
          obtain ⟨np_180z, kp_180z, rfl, NQ180z, K180zq, r180z_0, r180z_1, r180z_2, r180z_3⟩ := hQ180z
          refine own_tr st180z ?_
          have N180z := Fr.app N171z NQ180z
          have O181z := own_ext_keep O172z K180zq (fun y hy => Nat.le_trans fr_b1z (own_D.all r3z_1 y hy))
          have K181z := K172z.trans K180zq (fun y hy => Or.inr (Nat.le_trans lz_b1z (own_D.all r3z_1 y hy)))
          have lz_np_180z : h0.size ≤ np_180z := Nat.le_trans K172z.1 r180z_1
          have ne_b1z_np_180z : b1z ≠ np_180z := Nat.ne_of_lt (Nat.lt_of_lt_of_le f174z.lt r180z_1)
          have ne_np_5z_np_180z : np_5z ≠ np_180z := Nat.ne_of_lt (Nat.lt_of_lt_of_le f175z.lt r180z_1)
          have ne_kn_9z_np_180z : kn_9z ≠ np_180z := Nat.ne_of_lt (Nat.lt_of_lt_of_le f176z.lt r180z_1)
          show own_G p e below (T180z.setTop (mkF m 221 #[.val (.int p0), .val (.int p1), .val (.int p2), .val (.int p3), .val (.int (Int32.ofNat N)), .val (.int (Int32.ofNat a)), .val (.int (Int32.ofNat d)), .val (.int (Int32.ofNat b)), .val (.int ((Int32.ofNat a) + (1 : Int32))), .val (.int ((Int32.ofNat b) + (1 : Int32))), .val (.int f10), .val (.int f11), .val (.int f12), .val (.int f13), .val (.int f14), .val (.ref b1z), .val (.ref kn_9z), .unset, .unset] [])) _
          have f182z := (f174z.keep K180zq)
          have f183z := (f175z.keep K180zq r5z_2)
          have f184z := (f176z.keep K180zq)
          have f185z := (f177z.keep K180zq r9z_2)
          have f186z := (f178z.keep K180zq r9z_2)
          have V187z : own_L Z T180z.heap np_180z kp_180z ((N + 63) / 64) (fun _ => 0) := own_L.eqf r180z_3 (fun j _ => by rw [own_R2b]; exact own_and_zero _)
          refine own_go (fun t k => XS.iload X180z.here hx rfl (hb hby at_221) rfl k) ?_
          refine own_go (fun t k => XS.ifYes X180z.here hx rfl (pc0 := 223) (pc' := 234) rfl (hb hby at_223) rfl ((if0 _ _).trans (teq (g14 hc149z)).1) (by decide) (by decide) k) ?_
          show own_G p e below (T180z.setTop (mkF m 234 #[.val (.int p0), .val (.int p1), .val (.int p2), .val (.int p3), .val (.int (Int32.ofNat N)), .val (.int (Int32.ofNat a)), .val (.int (Int32.ofNat d)), .val (.int (Int32.ofNat b)), .val (.int ((Int32.ofNat a) + (1 : Int32))), .val (.int ((Int32.ofNat b) + (1 : Int32))), .val (.int f10), .val (.int f11), .val (.int f12), .val (.int f13), .val (.int f14), .val (.ref b1z), .val (.ref kn_9z), .unset, .unset] [])) _
          refine own_go (fun t k => XS.aload X180z.here hx rfl (hb hby at_234) rfl rfl k) ?_
          refine own_go (fun t k => XS.iload X180z.here hx rfl (hb hby at_236) rfl k) ?_
          obtain ⟨cq188z, kq188z, qa188z, qb188z, qc188z⟩ := isOf hZ (rfl : T180z.heap = _) f182z
          obtain ⟨_, _, ⟨T188z, L188z, k188z, n188z⟩, -, X188z, ⟨Lc188z, hQ188z, l188z, y188z, z188z⟩, st188z⟩ := X180z.virtualBack hx (y := own_m10) (z := own_m10) hown (own_mw hZ hw 84 rfl) (own_mw hZ hw 85 rfl) (notFace_of_selects (args := #[]) (own_mw hZ hw 87 rfl)) (own_mw hZ hw 87 rfl) (own_mw hZ hw 86 rfl) (by decide) (backOf (W := 0) (own_en0 l Z a0 hw [] b1z N ((N + 63) / 64) A_3z K_3z rows_3z (own_upd (own_rcI (own_R2 a b) b N) b (own_or ((own_R2 a b) b) b)) (own_upd (fun _ => .null) a (.ref kn_9z)) (own_upd (own_upd (own_upd (fun _ => .null) a (.ref np_5z)) a .null) b (.ref np_180z)) (own_or (fun _ => 0) b) (own_upd (own_upd (fun _ => 0) a ((0 : Int64) + (1 : Int64))) b ((((0 : Int64) + (1 : Int64)) + (1 : Int64)) + (1 : Int64))) (own_upd (fun _ => 0) a (((0 : Int64) + (1 : Int64)) + (1 : Int64))) ((((0 : Int64) + (1 : Int64)) + (1 : Int64)) + (1 : Int64)) b1z b ((Int32.ofNat b) + (1 : Int32)) np_180z kp_180z T180z.heap O181z r180z_0 r3z_1 fr_b1z hN (by omega) (fun i hi => by omega) r3z_2 r3z_3 r3z_4 (own_p1 hbN hN) hbN (own_upd_hit _ _ _) V187z r180z_2) hZ (own_hw hw 88 rfl) (own_hw hw 3 rfl) (by decide) (by decide)) qa188z qc188z (g := (mkF m 238 #[.val (.int p0), .val (.int p1), .val (.int p2), .val (.int p3), .val (.int (Int32.ofNat N)), .val (.int (Int32.ofNat a)), .val (.int (Int32.ofNat d)), .val (.int (Int32.ofNat b)), .val (.int ((Int32.ofNat a) + (1 : Int32))), .val (.int ((Int32.ofNat b) + (1 : Int32))), .val (.int f10), .val (.int f11), .val (.int f12), .val (.int f13), .val (.int f14), .val (.ref b1z), .val (.ref kn_9z), .unset, .unset] [(.int ((Int32.ofNat b) + (1 : Int32))), (.ref b1z)])) rfl (by rw [hml]; rfl) (Steps.refl _) (argsL := [(.int ((Int32.ofNat b) + (1 : Int32)))]) (rest := []) (lenOf pd_2087992008 rfl) rfl (by show 2 * 0 + _ ≤ _; exact Nat.le_of_eq rfl) (hb hby at_238) (fun _ _ => ⟨rfl, rfl, (by decide : 139 + 0 ≤ _), (by decide : 1051 + 0 ≤ _)⟩)
          dsimp only [Pt.U, Pt.locs, Pt.cells, Pt.slots] at X188z l188z y188z z188z st188z hQ188z
          subst l188z y188z z188z
          obtain ⟨rfl, NQ188z, K188zq, r188z_0⟩ := hQ188z
          refine own_tr st188z ?_
          have N188z := Fr.app N180z NQ188z
          have O189z := own_ext_keep O181z K188zq (fun y hy => Nat.le_trans fr_b1z (own_D.all r3z_1 y hy))
          have K189z := K181z.trans K188zq (fun y hy => Or.inr (Nat.le_trans lz_b1z (own_D.all r3z_1 y hy)))
          show own_G p e below (T188z.setTop (mkF m 241 #[.val (.int p0), .val (.int p1), .val (.int p2), .val (.int p3), .val (.int (Int32.ofNat N)), .val (.int (Int32.ofNat a)), .val (.int (Int32.ofNat d)), .val (.int (Int32.ofNat b)), .val (.int ((Int32.ofNat a) + (1 : Int32))), .val (.int ((Int32.ofNat b) + (1 : Int32))), .val (.int f10), .val (.int f11), .val (.int f12), .val (.int f13), .val (.int f14), .val (.ref b1z), .val (.ref kn_9z), .unset, .unset] [(.int (0 : Int32))])) _
          refine own_go (fun t k => XS.istore X188z.here hx rfl (hb hby at_241) rfl (l' := #[.val (.int p0), .val (.int p1), .val (.int p2), .val (.int p3), .val (.int (Int32.ofNat N)), .val (.int (Int32.ofNat a)), .val (.int (Int32.ofNat d)), .val (.int (Int32.ofNat b)), .val (.int ((Int32.ofNat a) + (1 : Int32))), .val (.int ((Int32.ofNat b) + (1 : Int32))), .val (.int f10), .val (.int f11), .val (.int f12), .val (.int f13), .val (.int f14), .val (.ref b1z), .val (.ref kn_9z), .val (.int (0 : Int32)), .unset]) rfl k) ?_
          refine own_go (fun t k => XS.iload X188z.here hx rfl (hb hby at_243) rfl k) ?_
          refine own_go (fun t k => XS.ifYes X188z.here hx rfl (pc0 := 245) (pc' := 253) rfl (hb hby at_245) rfl ((if0 _ _).trans (feq hc13z).2) (by decide) (by decide) k) ?_
          show own_G p e below (T188z.setTop (mkF m 253 #[.val (.int p0), .val (.int p1), .val (.int p2), .val (.int p3), .val (.int (Int32.ofNat N)), .val (.int (Int32.ofNat a)), .val (.int (Int32.ofNat d)), .val (.int (Int32.ofNat b)), .val (.int ((Int32.ofNat a) + (1 : Int32))), .val (.int ((Int32.ofNat b) + (1 : Int32))), .val (.int f10), .val (.int f11), .val (.int f12), .val (.int f13), .val (.int f14), .val (.ref b1z), .val (.ref kn_9z), .val (.int (0 : Int32)), .unset] [])) _
          refine own_go (fun t k => XS.iload X188z.here hx rfl (hb hby at_253) rfl k) ?_
          refine own_go (fun t k => XS.ifYes X188z.here hx rfl (pc0 := 255) (pc' := 267) rfl (hb hby at_255) rfl ((if0 _ _).trans (feq hc149z).2) (by decide) (by decide) k) ?_
          show own_G p e below (T188z.setTop (mkF m 267 #[.val (.int p0), .val (.int p1), .val (.int p2), .val (.int p3), .val (.int (Int32.ofNat N)), .val (.int (Int32.ofNat a)), .val (.int (Int32.ofNat d)), .val (.int (Int32.ofNat b)), .val (.int ((Int32.ofNat a) + (1 : Int32))), .val (.int ((Int32.ofNat b) + (1 : Int32))), .val (.int f10), .val (.int f11), .val (.int f12), .val (.int f13), .val (.int f14), .val (.ref b1z), .val (.ref kn_9z), .val (.int (0 : Int32)), .unset] [])) _
          refine own_go (fun t k => XS.iconst X188z.here hx rfl (hb hby at_267) k) ?_
          refine own_go (fun t k => XS.istore X188z.here hx rfl (hb hby at_268) rfl (l' := #[.val (.int p0), .val (.int p1), .val (.int p2), .val (.int p3), .val (.int (Int32.ofNat N)), .val (.int (Int32.ofNat a)), .val (.int (Int32.ofNat d)), .val (.int (Int32.ofNat b)), .val (.int ((Int32.ofNat a) + (1 : Int32))), .val (.int ((Int32.ofNat b) + (1 : Int32))), .val (.int f10), .val (.int f11), .val (.int f12), .val (.int f13), .val (.int f14), .val (.ref b1z), .val (.ref kn_9z), .val (.int (0 : Int32)), .val (.int (0 : Int32))]) rfl k) ?_
          refine own_go (fun t k => XS.iload X188z.here hx rfl (hb hby at_270) rfl k) ?_
          refine own_go (fun t k => XS.iload X188z.here hx rfl (hb hby at_272) rfl k) ?_
          show own_G p e below (T188z.setTop (mkF m 274 #[.val (.int p0), .val (.int p1), .val (.int p2), .val (.int p3), .val (.int (Int32.ofNat N)), .val (.int (Int32.ofNat a)), .val (.int (Int32.ofNat d)), .val (.int (Int32.ofNat b)), .val (.int ((Int32.ofNat a) + (1 : Int32))), .val (.int ((Int32.ofNat b) + (1 : Int32))), .val (.int f10), .val (.int f11), .val (.int f12), .val (.int f13), .val (.int f14), .val (.ref b1z), .val (.ref kn_9z), .val (.int (0 : Int32)), .val (.int (0 : Int32))] [(.int (0 : Int32)), (.int (0 : Int32))])) _
          refine own_go (fun t k => XS.icmpNo X188z.here hx rfl (hb hby at_274) rfl (teq (by decide : (0 : Int32) = (0 : Int32))).2 k) ?_
          show own_G p e below (T188z.setTop (mkF m 277 #[.val (.int p0), .val (.int p1), .val (.int p2), .val (.int p3), .val (.int (Int32.ofNat N)), .val (.int (Int32.ofNat a)), .val (.int (Int32.ofNat d)), .val (.int (Int32.ofNat b)), .val (.int ((Int32.ofNat a) + (1 : Int32))), .val (.int ((Int32.ofNat b) + (1 : Int32))), .val (.int f10), .val (.int f11), .val (.int f12), .val (.int f13), .val (.int f14), .val (.ref b1z), .val (.ref kn_9z), .val (.int (0 : Int32)), .val (.int (0 : Int32))] [])) _
          refine own_go (fun t k => XS.iconst X188z.here hx rfl (hb hby at_277) k) ?_
          refine own_go (fun t k => XS.goto X188z.here hx rfl (pc0 := 278) (pc' := 282) rfl (hb hby at_278) (by decide) (by decide) k) ?_
          show own_G p e below (T188z.setTop (mkF m 282 #[.val (.int p0), .val (.int p1), .val (.int p2), .val (.int p3), .val (.int (Int32.ofNat N)), .val (.int (Int32.ofNat a)), .val (.int (Int32.ofNat d)), .val (.int (Int32.ofNat b)), .val (.int ((Int32.ofNat a) + (1 : Int32))), .val (.int ((Int32.ofNat b) + (1 : Int32))), .val (.int f10), .val (.int f11), .val (.int f12), .val (.int f13), .val (.int f14), .val (.ref b1z), .val (.ref kn_9z), .val (.int (0 : Int32)), .val (.int (0 : Int32))] [(.int (1 : Int32))])) _
          exact own_ret X188z hx Bd.returns rfl (Or.inl ⟨rfl, Or.inr (Or.inl rfl), _, rfl⟩) (hb hby at_282) hlk (Nat.le_of_ble_eq_true rfl) (Nat.le_of_ble_eq_true rfl) (by show Q_own_law Z p0 p1 p2 p3 h0 _ T188z.heap _; exact ⟨rfl, N188z, K189z⟩)
        · refine own_go (fun t k => XS.ifNo X171z.here hx rfl (hb hby at_190) rfl ((if0 _ _).trans (feq hc179z).1) k) ?_
          show own_G p e below (T171z.setTop (mkF m 193 #[.val (.int p0), .val (.int p1), .val (.int p2), .val (.int p3), .val (.int (Int32.ofNat N)), .val (.int (Int32.ofNat a)), .val (.int (Int32.ofNat d)), .val (.int (Int32.ofNat b)), .val (.int ((Int32.ofNat a) + (1 : Int32))), .val (.int ((Int32.ofNat b) + (1 : Int32))), .val (.int f10), .val (.int f11), .val (.int f12), .val (.int f13), .val (.int f14), .val (.ref b1z), .val (.ref kn_9z), .unset, .unset] [])) _
          refine own_go (fun t k => XS.aload X171z.here hx rfl (hb hby at_193) rfl rfl k) ?_
          refine own_go (fun t k => XS.iload X171z.here hx rfl (hb hby at_195) rfl k) ?_
          obtain ⟨cq190z, kq190z, qa190z, qb190z, qc190z⟩ := isOf hZ (rfl : T171z.heap = _) f174z
          obtain ⟨_, _, ⟨T190z, L190z, k190z, n190z⟩, -, X190z, ⟨Lc190z, hQ190z, l190z, y190z, z190z⟩, st190z⟩ := X171z.virtualBack hx (y := own_m7) (z := own_m7) hown (own_mw hZ hw 30 rfl) (own_mw hZ hw 31 rfl) (notFace_of_selects (args := #[]) (own_mw hZ hw 33 rfl)) (own_mw hZ hw 33 rfl) (own_mw hZ hw 32 rfl) (by decide) (backOf (W := 0) (own_rqc l Z a0 hw [] b1z N ((N + 63) / 64) A_3z K_3z rows_3z (own_R2 a b) (own_upd (fun _ => .null) a (.ref kn_9z)) (own_upd (own_upd (fun _ => .null) a (.ref np_5z)) a .null) (fun _ => 0) (own_upd (fun _ => 0) a ((0 : Int64) + (1 : Int64))) (own_upd (fun _ => 0) a (((0 : Int64) + (1 : Int64)) + (1 : Int64))) (((0 : Int64) + (1 : Int64)) + (1 : Int64)) b1z a ((Int32.ofNat a) + (1 : Int32)) kn_9z T171z.heap O172z I173z r3z_1 fr_b1z hN (by omega) (fun i hi => by omega) r3z_2 r3z_3 r3z_4 (own_p1 haN hN) haN (fun j _ ne _ => own_upd_miss _ _ ne) (own_upd_hit _ _ _) f177z r9z_2) hZ (own_hw hw 34 rfl) (own_hw hw 3 rfl) (by decide) (by decide)) qa190z qc190z (g := (mkF m 197 #[.val (.int p0), .val (.int p1), .val (.int p2), .val (.int p3), .val (.int (Int32.ofNat N)), .val (.int (Int32.ofNat a)), .val (.int (Int32.ofNat d)), .val (.int (Int32.ofNat b)), .val (.int ((Int32.ofNat a) + (1 : Int32))), .val (.int ((Int32.ofNat b) + (1 : Int32))), .val (.int f10), .val (.int f11), .val (.int f12), .val (.int f13), .val (.int f14), .val (.ref b1z), .val (.ref kn_9z), .unset, .unset] [(.int ((Int32.ofNat a) + (1 : Int32))), (.ref b1z)])) rfl (by rw [hml]; rfl) (Steps.refl _) (argsL := [(.int ((Int32.ofNat a) + (1 : Int32)))]) (rest := []) (lenOf pd_2087992021 rfl) rfl (by show 2 * 0 + _ ≤ _; exact Nat.le_of_eq rfl) (hb hby at_197) (fun _ _ => ⟨rfl, rfl, (by decide : 138 + 2 ≤ _), (by decide : 1048 + 6 ≤ _)⟩)
          dsimp only [Pt.U, Pt.locs, Pt.cells, Pt.slots] at X190z l190z y190z z190z st190z hQ190z
          subst l190z y190z z190z
          obtain ⟨np_190z, kp_190z, nr_190z, rfl, NQ190z, K190zq, r190z_0, r190z_1, r190z_2, r190z_3, r190z_4, r190z_5, r190z_6, r190z_7⟩ := hQ190z
          refine own_tr st190z ?_
          have N190z := Fr.app N171z NQ190z
          have O191z := own_ext_keep O172z K190zq (fun y hy => Nat.le_trans fr_b1z (own_D.all r3z_1 y hy))
          have K191z := K172z.trans K190zq (fun y hy => Or.inr (Nat.le_trans lz_b1z (own_D.all r3z_1 y hy)))
          have lz_np_190z : h0.size ≤ np_190z := Nat.le_trans K172z.1 r190z_1
          have ne_b1z_np_190z : b1z ≠ np_190z := Nat.ne_of_lt (Nat.lt_of_lt_of_le f174z.lt r190z_1)
          have ne_np_5z_np_190z : np_5z ≠ np_190z := Nat.ne_of_lt (Nat.lt_of_lt_of_le f175z.lt r190z_1)
          have ne_kn_9z_np_190z : kn_9z ≠ np_190z := Nat.ne_of_lt (Nat.lt_of_lt_of_le f176z.lt r190z_1)
          have lz_nr_190z : h0.size ≤ nr_190z := Nat.le_trans K172z.1 r190z_4
          have ne_b1z_nr_190z : b1z ≠ nr_190z := Nat.ne_of_lt (Nat.lt_of_lt_of_le f174z.lt r190z_4)
          have ne_np_5z_nr_190z : np_5z ≠ nr_190z := Nat.ne_of_lt (Nat.lt_of_lt_of_le f175z.lt r190z_4)
          have ne_kn_9z_nr_190z : kn_9z ≠ nr_190z := Nat.ne_of_lt (Nat.lt_of_lt_of_le f176z.lt r190z_4)
          show own_G p e below (T190z.setTop (mkF m 200 #[.val (.int p0), .val (.int p1), .val (.int p2), .val (.int p3), .val (.int (Int32.ofNat N)), .val (.int (Int32.ofNat a)), .val (.int (Int32.ofNat d)), .val (.int (Int32.ofNat b)), .val (.int ((Int32.ofNat a) + (1 : Int32))), .val (.int ((Int32.ofNat b) + (1 : Int32))), .val (.int f10), .val (.int f11), .val (.int f12), .val (.int f13), .val (.int f14), .val (.ref b1z), .val (.ref kn_9z), .unset, .unset] [])) _
          have f192z := (f174z.keep K190zq)
          have f193z := (f176z.keep K190zq)
          have f194z := (f177z.keep K190zq r9z_2)
          have f195z := (f178z.keep K190zq r9z_2)
          have I196z : own_I Z T190z.heap b1z N ((N + 63) / 64) A_3z K_3z (own_upd rows_3z a nr_190z) (own_R1 a) (own_upd (fun _ => .null) a (.ref kn_9z)) (own_upd (own_upd (own_upd (fun _ => .null) a (.ref np_5z)) a .null) a (.ref np_190z)) (own_one a) (own_upd (own_upd (fun _ => 0) a ((0 : Int64) + (1 : Int64))) a ((((0 : Int64) + (1 : Int64)) + (1 : Int64)) + (1 : Int64))) (own_upd (fun _ => 0) a (((0 : Int64) + (1 : Int64)) + (1 : Int64))) ((((0 : Int64) + (1 : Int64)) + (1 : Int64)) + (1 : Int64)) := own_I.cast r190z_0 (own_rq3 hab hbN) (own_or0 a)
          have kno197z := own_ws_upd (q := a) r9z_2 ne_kn_9z_nr_190z
          have V198z : own_L Z T190z.heap (rows_3z a) (K_3z 6) ((N + 63) / 64) (own_one a) := own_L.eqf r190z_7 (fun j _ => congrFun (own_R2a hab) j)
          refine own_go (fun t k => XS.iload X190z.here hx rfl (hb hby at_200) rfl k) ?_
          refine own_go (fun t k => XS.ifYes X190z.here hx rfl (pc0 := 202) (pc' := 214) rfl (hb hby at_202) rfl ((if0 _ _).trans (teq (g13 hc13z)).1) (by decide) (by decide) k) ?_
          show own_G p e below (T190z.setTop (mkF m 214 #[.val (.int p0), .val (.int p1), .val (.int p2), .val (.int p3), .val (.int (Int32.ofNat N)), .val (.int (Int32.ofNat a)), .val (.int (Int32.ofNat d)), .val (.int (Int32.ofNat b)), .val (.int ((Int32.ofNat a) + (1 : Int32))), .val (.int ((Int32.ofNat b) + (1 : Int32))), .val (.int f10), .val (.int f11), .val (.int f12), .val (.int f13), .val (.int f14), .val (.ref b1z), .val (.ref kn_9z), .unset, .unset] [])) _
          refine own_go (fun t k => XS.aload X190z.here hx rfl (hb hby at_214) rfl rfl k) ?_
          refine own_go (fun t k => XS.iload X190z.here hx rfl (hb hby at_216) rfl k) ?_
          obtain ⟨cq199z, kq199z, qa199z, qb199z, qc199z⟩ := isOf hZ (rfl : T190z.heap = _) f192z
          obtain ⟨_, _, ⟨T199z, L199z, k199z, n199z⟩, -, X199z, ⟨Lc199z, hQ199z, l199z, y199z, z199z⟩, st199z⟩ := X190z.virtualBack hx (y := own_m7) (z := own_m7) hown (own_mw hZ hw 30 rfl) (own_mw hZ hw 31 rfl) (notFace_of_selects (args := #[]) (own_mw hZ hw 33 rfl)) (own_mw hZ hw 33 rfl) (own_mw hZ hw 32 rfl) (by decide) (backOf (W := 0) (own_rq0 l Z a0 hw [] b1z N ((N + 63) / 64) A_3z K_3z (own_upd rows_3z a nr_190z) (own_R1 a) (own_upd (fun _ => .null) a (.ref kn_9z)) (own_upd (own_upd (own_upd (fun _ => .null) a (.ref np_5z)) a .null) a (.ref np_190z)) (own_one a) (own_upd (own_upd (fun _ => 0) a ((0 : Int64) + (1 : Int64))) a ((((0 : Int64) + (1 : Int64)) + (1 : Int64)) + (1 : Int64))) (own_upd (fun _ => 0) a (((0 : Int64) + (1 : Int64)) + (1 : Int64))) ((((0 : Int64) + (1 : Int64)) + (1 : Int64)) + (1 : Int64)) b1z b ((Int32.ofNat b) + (1 : Int32)) T190z.heap O191z I196z r190z_6 fr_b1z hN (by omega) (fun i hi => by omega) r3z_2 r3z_3 r3z_4 (own_p1 hbN hN) hbN (fun j _ _ q => absurd (own_hasR1 hab j) q) (own_upd_miss _ _ hba)) hZ (own_hw hw 34 rfl) (own_hw hw 3 rfl) (by decide) (by decide)) qa199z qc199z (g := (mkF m 218 #[.val (.int p0), .val (.int p1), .val (.int p2), .val (.int p3), .val (.int (Int32.ofNat N)), .val (.int (Int32.ofNat a)), .val (.int (Int32.ofNat d)), .val (.int (Int32.ofNat b)), .val (.int ((Int32.ofNat a) + (1 : Int32))), .val (.int ((Int32.ofNat b) + (1 : Int32))), .val (.int f10), .val (.int f11), .val (.int f12), .val (.int f13), .val (.int f14), .val (.ref b1z), .val (.ref kn_9z), .unset, .unset] [(.int ((Int32.ofNat b) + (1 : Int32))), (.ref b1z)])) rfl (by rw [hml]; rfl) (Steps.refl _) (argsL := [(.int ((Int32.ofNat b) + (1 : Int32)))]) (rest := []) (lenOf pd_2087992021 rfl) rfl (by show 2 * 0 + _ ≤ _; exact Nat.le_of_eq rfl) (hb hby at_218) (fun _ _ => ⟨rfl, rfl, (by decide : 140 + 1 ≤ _), (by decide : 1054 + 3 ≤ _)⟩)
          dsimp only [Pt.U, Pt.locs, Pt.cells, Pt.slots] at X199z l199z y199z z199z st199z hQ199z
          subst l199z y199z z199z
          obtain ⟨np_199z, kp_199z, rfl, NQ199z, K199zq, r199z_0, r199z_1, r199z_2, r199z_3⟩ := hQ199z
          refine own_tr st199z ?_
          have N199z := Fr.app N190z NQ199z
          have O200z := own_ext_keep O191z K199zq (fun y hy => Nat.le_trans fr_b1z (own_D.all r190z_6 y hy))
          have K200z := K191z.trans K199zq (fun y hy => Or.inr (Nat.le_trans lz_b1z (own_D.all r190z_6 y hy)))
          have lz_np_199z : h0.size ≤ np_199z := Nat.le_trans K191z.1 r199z_1
          have ne_b1z_np_199z : b1z ≠ np_199z := Nat.ne_of_lt (Nat.lt_of_lt_of_le f192z.lt r199z_1)
          have ne_kn_9z_np_199z : kn_9z ≠ np_199z := Nat.ne_of_lt (Nat.lt_of_lt_of_le f193z.lt r199z_1)
          show own_G p e below (T199z.setTop (mkF m 221 #[.val (.int p0), .val (.int p1), .val (.int p2), .val (.int p3), .val (.int (Int32.ofNat N)), .val (.int (Int32.ofNat a)), .val (.int (Int32.ofNat d)), .val (.int (Int32.ofNat b)), .val (.int ((Int32.ofNat a) + (1 : Int32))), .val (.int ((Int32.ofNat b) + (1 : Int32))), .val (.int f10), .val (.int f11), .val (.int f12), .val (.int f13), .val (.int f14), .val (.ref b1z), .val (.ref kn_9z), .unset, .unset] [])) _
          have f201z := (f192z.keep K199zq)
          have f202z := (f193z.keep K199zq)
          have f203z := (f194z.keep K199zq kno197z)
          have f204z := (f195z.keep K199zq kno197z)
          have V205z : own_L Z T199z.heap np_199z kp_199z ((N + 63) / 64) (fun _ => 0) := own_L.eqf r199z_3 (fun j _ => by rw [own_R1o hba]; exact own_zero_and _)
          refine own_go (fun t k => XS.iload X199z.here hx rfl (hb hby at_221) rfl k) ?_
          refine own_go (fun t k => XS.ifYes X199z.here hx rfl (pc0 := 223) (pc' := 234) rfl (hb hby at_223) rfl ((if0 _ _).trans (teq (g14 hc149z)).1) (by decide) (by decide) k) ?_
          show own_G p e below (T199z.setTop (mkF m 234 #[.val (.int p0), .val (.int p1), .val (.int p2), .val (.int p3), .val (.int (Int32.ofNat N)), .val (.int (Int32.ofNat a)), .val (.int (Int32.ofNat d)), .val (.int (Int32.ofNat b)), .val (.int ((Int32.ofNat a) + (1 : Int32))), .val (.int ((Int32.ofNat b) + (1 : Int32))), .val (.int f10), .val (.int f11), .val (.int f12), .val (.int f13), .val (.int f14), .val (.ref b1z), .val (.ref kn_9z), .unset, .unset] [])) _
          refine own_go (fun t k => XS.aload X199z.here hx rfl (hb hby at_234) rfl rfl k) ?_
          refine own_go (fun t k => XS.iload X199z.here hx rfl (hb hby at_236) rfl k) ?_
          obtain ⟨cq206z, kq206z, qa206z, qb206z, qc206z⟩ := isOf hZ (rfl : T199z.heap = _) f201z
          obtain ⟨_, _, ⟨T206z, L206z, k206z, n206z⟩, -, X206z, ⟨Lc206z, hQ206z, l206z, y206z, z206z⟩, st206z⟩ := X199z.virtualBack hx (y := own_m10) (z := own_m10) hown (own_mw hZ hw 84 rfl) (own_mw hZ hw 85 rfl) (notFace_of_selects (args := #[]) (own_mw hZ hw 87 rfl)) (own_mw hZ hw 87 rfl) (own_mw hZ hw 86 rfl) (by decide) (backOf (W := 0) (own_en0 l Z a0 hw [] b1z N ((N + 63) / 64) A_3z K_3z (own_upd rows_3z a nr_190z) (own_upd (own_rcI (own_R1 a) b N) b (own_or ((own_R1 a) b) b)) (own_upd (fun _ => .null) a (.ref kn_9z)) (own_upd (own_upd (own_upd (own_upd (fun _ => .null) a (.ref np_5z)) a .null) a (.ref np_190z)) b (.ref np_199z)) (own_or (own_one a) b) (own_upd (own_upd (own_upd (fun _ => 0) a ((0 : Int64) + (1 : Int64))) a ((((0 : Int64) + (1 : Int64)) + (1 : Int64)) + (1 : Int64))) b (((((0 : Int64) + (1 : Int64)) + (1 : Int64)) + (1 : Int64)) + (1 : Int64))) (own_upd (fun _ => 0) a (((0 : Int64) + (1 : Int64)) + (1 : Int64))) (((((0 : Int64) + (1 : Int64)) + (1 : Int64)) + (1 : Int64)) + (1 : Int64)) b1z b ((Int32.ofNat b) + (1 : Int32)) np_199z kp_199z T199z.heap O200z r199z_0 r190z_6 fr_b1z hN (by omega) (fun i hi => by omega) r3z_2 r3z_3 r3z_4 (own_p1 hbN hN) hbN (own_upd_hit _ _ _) V205z r199z_2) hZ (own_hw hw 88 rfl) (own_hw hw 3 rfl) (by decide) (by decide)) qa206z qc206z (g := (mkF m 238 #[.val (.int p0), .val (.int p1), .val (.int p2), .val (.int p3), .val (.int (Int32.ofNat N)), .val (.int (Int32.ofNat a)), .val (.int (Int32.ofNat d)), .val (.int (Int32.ofNat b)), .val (.int ((Int32.ofNat a) + (1 : Int32))), .val (.int ((Int32.ofNat b) + (1 : Int32))), .val (.int f10), .val (.int f11), .val (.int f12), .val (.int f13), .val (.int f14), .val (.ref b1z), .val (.ref kn_9z), .unset, .unset] [(.int ((Int32.ofNat b) + (1 : Int32))), (.ref b1z)])) rfl (by rw [hml]; rfl) (Steps.refl _) (argsL := [(.int ((Int32.ofNat b) + (1 : Int32)))]) (rest := []) (lenOf pd_2087992008 rfl) rfl (by show 2 * 0 + _ ≤ _; exact Nat.le_of_eq rfl) (hb hby at_238) (fun _ _ => ⟨rfl, rfl, (by decide : 141 + 0 ≤ _), (by decide : 1057 + 0 ≤ _)⟩)
          dsimp only [Pt.U, Pt.locs, Pt.cells, Pt.slots] at X206z l206z y206z z206z st206z hQ206z
          subst l206z y206z z206z
          obtain ⟨rfl, NQ206z, K206zq, r206z_0⟩ := hQ206z
          refine own_tr st206z ?_
          have N206z := Fr.app N199z NQ206z
          have O207z := own_ext_keep O200z K206zq (fun y hy => Nat.le_trans fr_b1z (own_D.all r190z_6 y hy))
          have K207z := K200z.trans K206zq (fun y hy => Or.inr (Nat.le_trans lz_b1z (own_D.all r190z_6 y hy)))
          show own_G p e below (T206z.setTop (mkF m 241 #[.val (.int p0), .val (.int p1), .val (.int p2), .val (.int p3), .val (.int (Int32.ofNat N)), .val (.int (Int32.ofNat a)), .val (.int (Int32.ofNat d)), .val (.int (Int32.ofNat b)), .val (.int ((Int32.ofNat a) + (1 : Int32))), .val (.int ((Int32.ofNat b) + (1 : Int32))), .val (.int f10), .val (.int f11), .val (.int f12), .val (.int f13), .val (.int f14), .val (.ref b1z), .val (.ref kn_9z), .unset, .unset] [(.int (0 : Int32))])) _
          refine own_go (fun t k => XS.istore X206z.here hx rfl (hb hby at_241) rfl (l' := #[.val (.int p0), .val (.int p1), .val (.int p2), .val (.int p3), .val (.int (Int32.ofNat N)), .val (.int (Int32.ofNat a)), .val (.int (Int32.ofNat d)), .val (.int (Int32.ofNat b)), .val (.int ((Int32.ofNat a) + (1 : Int32))), .val (.int ((Int32.ofNat b) + (1 : Int32))), .val (.int f10), .val (.int f11), .val (.int f12), .val (.int f13), .val (.int f14), .val (.ref b1z), .val (.ref kn_9z), .val (.int (0 : Int32)), .unset]) rfl k) ?_
          refine own_go (fun t k => XS.iload X206z.here hx rfl (hb hby at_243) rfl k) ?_
          refine own_go (fun t k => XS.ifYes X206z.here hx rfl (pc0 := 245) (pc' := 253) rfl (hb hby at_245) rfl ((if0 _ _).trans (feq hc13z).2) (by decide) (by decide) k) ?_
          show own_G p e below (T206z.setTop (mkF m 253 #[.val (.int p0), .val (.int p1), .val (.int p2), .val (.int p3), .val (.int (Int32.ofNat N)), .val (.int (Int32.ofNat a)), .val (.int (Int32.ofNat d)), .val (.int (Int32.ofNat b)), .val (.int ((Int32.ofNat a) + (1 : Int32))), .val (.int ((Int32.ofNat b) + (1 : Int32))), .val (.int f10), .val (.int f11), .val (.int f12), .val (.int f13), .val (.int f14), .val (.ref b1z), .val (.ref kn_9z), .val (.int (0 : Int32)), .unset] [])) _
          refine own_go (fun t k => XS.iload X206z.here hx rfl (hb hby at_253) rfl k) ?_
          refine own_go (fun t k => XS.ifYes X206z.here hx rfl (pc0 := 255) (pc' := 267) rfl (hb hby at_255) rfl ((if0 _ _).trans (feq hc149z).2) (by decide) (by decide) k) ?_
          show own_G p e below (T206z.setTop (mkF m 267 #[.val (.int p0), .val (.int p1), .val (.int p2), .val (.int p3), .val (.int (Int32.ofNat N)), .val (.int (Int32.ofNat a)), .val (.int (Int32.ofNat d)), .val (.int (Int32.ofNat b)), .val (.int ((Int32.ofNat a) + (1 : Int32))), .val (.int ((Int32.ofNat b) + (1 : Int32))), .val (.int f10), .val (.int f11), .val (.int f12), .val (.int f13), .val (.int f14), .val (.ref b1z), .val (.ref kn_9z), .val (.int (0 : Int32)), .unset] [])) _
          refine own_go (fun t k => XS.iconst X206z.here hx rfl (hb hby at_267) k) ?_
          refine own_go (fun t k => XS.istore X206z.here hx rfl (hb hby at_268) rfl (l' := #[.val (.int p0), .val (.int p1), .val (.int p2), .val (.int p3), .val (.int (Int32.ofNat N)), .val (.int (Int32.ofNat a)), .val (.int (Int32.ofNat d)), .val (.int (Int32.ofNat b)), .val (.int ((Int32.ofNat a) + (1 : Int32))), .val (.int ((Int32.ofNat b) + (1 : Int32))), .val (.int f10), .val (.int f11), .val (.int f12), .val (.int f13), .val (.int f14), .val (.ref b1z), .val (.ref kn_9z), .val (.int (0 : Int32)), .val (.int (0 : Int32))]) rfl k) ?_
          refine own_go (fun t k => XS.iload X206z.here hx rfl (hb hby at_270) rfl k) ?_
          refine own_go (fun t k => XS.iload X206z.here hx rfl (hb hby at_272) rfl k) ?_
          show own_G p e below (T206z.setTop (mkF m 274 #[.val (.int p0), .val (.int p1), .val (.int p2), .val (.int p3), .val (.int (Int32.ofNat N)), .val (.int (Int32.ofNat a)), .val (.int (Int32.ofNat d)), .val (.int (Int32.ofNat b)), .val (.int ((Int32.ofNat a) + (1 : Int32))), .val (.int ((Int32.ofNat b) + (1 : Int32))), .val (.int f10), .val (.int f11), .val (.int f12), .val (.int f13), .val (.int f14), .val (.ref b1z), .val (.ref kn_9z), .val (.int (0 : Int32)), .val (.int (0 : Int32))] [(.int (0 : Int32)), (.int (0 : Int32))])) _
          refine own_go (fun t k => XS.icmpNo X206z.here hx rfl (hb hby at_274) rfl (teq (by decide : (0 : Int32) = (0 : Int32))).2 k) ?_
          show own_G p e below (T206z.setTop (mkF m 277 #[.val (.int p0), .val (.int p1), .val (.int p2), .val (.int p3), .val (.int (Int32.ofNat N)), .val (.int (Int32.ofNat a)), .val (.int (Int32.ofNat d)), .val (.int (Int32.ofNat b)), .val (.int ((Int32.ofNat a) + (1 : Int32))), .val (.int ((Int32.ofNat b) + (1 : Int32))), .val (.int f10), .val (.int f11), .val (.int f12), .val (.int f13), .val (.int f14), .val (.ref b1z), .val (.ref kn_9z), .val (.int (0 : Int32)), .val (.int (0 : Int32))] [])) _
          refine own_go (fun t k => XS.iconst X206z.here hx rfl (hb hby at_277) k) ?_
          refine own_go (fun t k => XS.goto X206z.here hx rfl (pc0 := 278) (pc' := 282) rfl (hb hby at_278) (by decide) (by decide) k) ?_
          show own_G p e below (T206z.setTop (mkF m 282 #[.val (.int p0), .val (.int p1), .val (.int p2), .val (.int p3), .val (.int (Int32.ofNat N)), .val (.int (Int32.ofNat a)), .val (.int (Int32.ofNat d)), .val (.int (Int32.ofNat b)), .val (.int ((Int32.ofNat a) + (1 : Int32))), .val (.int ((Int32.ofNat b) + (1 : Int32))), .val (.int f10), .val (.int f11), .val (.int f12), .val (.int f13), .val (.int f14), .val (.ref b1z), .val (.ref kn_9z), .val (.int (0 : Int32)), .val (.int (0 : Int32))] [(.int (1 : Int32))])) _
          exact own_ret X206z hx Bd.returns rfl (Or.inl ⟨rfl, Or.inr (Or.inl rfl), _, rfl⟩) (hb hby at_282) hlk (Nat.le_of_ble_eq_true rfl) (Nat.le_of_ble_eq_true rfl) (by show Q_own_law Z p0 p1 p2 p3 h0 _ T206z.heap _; exact ⟨rfl, N206z, K207z⟩)
  refine own_go (fun t k => XS.iloadN X0.here hx rfl (hb hby at_52) rfl k) ?_
  refine own_go (fun t k => XS.iconst X0.here hx rfl (hb hby at_53) k) ?_
  refine own_go (fun t k => XS.iand X0.here hx rfl (hb hby at_54) rfl k) ?_
  show own_G p e below (s₁.setTop (mkF m 55 #[.val (.int p0), .val (.int p1), .val (.int p2), .val (.int p3), .val (.int (Int32.ofNat N)), .val (.int (Int32.ofNat a)), .val (.int (Int32.ofNat d)), .val (.int (Int32.ofNat b)), .val (.int ((Int32.ofNat a) + (1 : Int32))), .val (.int ((Int32.ofNat b) + (1 : Int32))), .unset, .unset, .unset, .unset, .unset, .unset, .unset, .unset, .unset] [(.int (p3 &&& (1 : Int32)))])) _
  by_cases hc208z : (p3 &&& (1 : Int32)) = (0 : Int32)
  · refine own_go (fun t k => XS.ifYes X0.here hx rfl (pc0 := 55) (pc' := 62) rfl (hb hby at_55) rfl ((if0 _ _).trans (teq hc208z).1) (by decide) (by decide) k) ?_
    show own_G p e below (s₁.setTop (mkF m 62 #[.val (.int p0), .val (.int p1), .val (.int p2), .val (.int p3), .val (.int (Int32.ofNat N)), .val (.int (Int32.ofNat a)), .val (.int (Int32.ofNat d)), .val (.int (Int32.ofNat b)), .val (.int ((Int32.ofNat a) + (1 : Int32))), .val (.int ((Int32.ofNat b) + (1 : Int32))), .unset, .unset, .unset, .unset, .unset, .unset, .unset, .unset, .unset] [])) _
    refine own_go (fun t k => XS.iconst X0.here hx rfl (hb hby at_62) k) ?_
    refine own_go (fun t k => XS.istore X0.here hx rfl (hb hby at_63) rfl (l' := #[.val (.int p0), .val (.int p1), .val (.int p2), .val (.int p3), .val (.int (Int32.ofNat N)), .val (.int (Int32.ofNat a)), .val (.int (Int32.ofNat d)), .val (.int (Int32.ofNat b)), .val (.int ((Int32.ofNat a) + (1 : Int32))), .val (.int ((Int32.ofNat b) + (1 : Int32))), .val (.int (0 : Int32)), .unset, .unset, .unset, .unset, .unset, .unset, .unset, .unset]) rfl k) ?_
    refine own_go (fun t k => XS.iloadN X0.here hx rfl (hb hby at_65) rfl k) ?_
    refine own_go (fun t k => XS.iconst X0.here hx rfl (hb hby at_66) k) ?_
    show own_G p e below (s₁.setTop (mkF m 67 #[.val (.int p0), .val (.int p1), .val (.int p2), .val (.int p3), .val (.int (Int32.ofNat N)), .val (.int (Int32.ofNat a)), .val (.int (Int32.ofNat d)), .val (.int (Int32.ofNat b)), .val (.int ((Int32.ofNat a) + (1 : Int32))), .val (.int ((Int32.ofNat b) + (1 : Int32))), .val (.int (0 : Int32)), .unset, .unset, .unset, .unset, .unset, .unset, .unset, .unset] [(.int (2 : Int32)), (.int p3)])) _
    refine own_go (fun t k => XS.iand X0.here hx rfl (hb hby at_67) rfl k) ?_
    by_cases hc209z : (p3 &&& (2 : Int32)) = (0 : Int32)
    · refine own_go (fun t k => XS.ifYes X0.here hx rfl (pc0 := 68) (pc' := 75) rfl (hb hby at_68) rfl ((if0 _ _).trans (teq hc209z).1) (by decide) (by decide) k) ?_
      show own_G p e below (s₁.setTop (mkF m 75 #[.val (.int p0), .val (.int p1), .val (.int p2), .val (.int p3), .val (.int (Int32.ofNat N)), .val (.int (Int32.ofNat a)), .val (.int (Int32.ofNat d)), .val (.int (Int32.ofNat b)), .val (.int ((Int32.ofNat a) + (1 : Int32))), .val (.int ((Int32.ofNat b) + (1 : Int32))), .val (.int (0 : Int32)), .unset, .unset, .unset, .unset, .unset, .unset, .unset, .unset] [])) _
      refine own_go (fun t k => XS.iconst X0.here hx rfl (hb hby at_75) k) ?_
      refine own_go (fun t k => XS.istore X0.here hx rfl (hb hby at_76) rfl (l' := #[.val (.int p0), .val (.int p1), .val (.int p2), .val (.int p3), .val (.int (Int32.ofNat N)), .val (.int (Int32.ofNat a)), .val (.int (Int32.ofNat d)), .val (.int (Int32.ofNat b)), .val (.int ((Int32.ofNat a) + (1 : Int32))), .val (.int ((Int32.ofNat b) + (1 : Int32))), .val (.int (0 : Int32)), .val (.int (0 : Int32)), .unset, .unset, .unset, .unset, .unset, .unset, .unset]) rfl k) ?_
      refine own_go (fun t k => XS.iload X0.here hx rfl (hb hby at_78) rfl k) ?_
      refine own_go (fun t k => XS.ifYes X0.here hx rfl (pc0 := 80) (pc' := 93) rfl (hb hby at_80) rfl ((if0 _ _).trans (teq (by decide : (0 : Int32) = (0 : Int32))).1) (by decide) (by decide) k) ?_
      show own_G p e below (s₁.setTop (mkF m 93 #[.val (.int p0), .val (.int p1), .val (.int p2), .val (.int p3), .val (.int (Int32.ofNat N)), .val (.int (Int32.ofNat a)), .val (.int (Int32.ofNat d)), .val (.int (Int32.ofNat b)), .val (.int ((Int32.ofNat a) + (1 : Int32))), .val (.int ((Int32.ofNat b) + (1 : Int32))), .val (.int (0 : Int32)), .val (.int (0 : Int32)), .unset, .unset, .unset, .unset, .unset, .unset, .unset] [])) _
      refine own_go (fun t k => XS.iconst X0.here hx rfl (hb hby at_93) k) ?_
      refine own_go (fun t k => XS.istore X0.here hx rfl (hb hby at_94) rfl (l' := #[.val (.int p0), .val (.int p1), .val (.int p2), .val (.int p3), .val (.int (Int32.ofNat N)), .val (.int (Int32.ofNat a)), .val (.int (Int32.ofNat d)), .val (.int (Int32.ofNat b)), .val (.int ((Int32.ofNat a) + (1 : Int32))), .val (.int ((Int32.ofNat b) + (1 : Int32))), .val (.int (0 : Int32)), .val (.int (0 : Int32)), .val (.int (0 : Int32)), .unset, .unset, .unset, .unset, .unset, .unset]) rfl k) ?_
      refine own_go (fun t k => XS.iload X0.here hx rfl (hb hby at_96) rfl k) ?_
      refine own_go (fun t k => XS.ifNo X0.here hx rfl (hb hby at_98) rfl ((if0 _ _).trans (teq (by decide : (0 : Int32) = (0 : Int32))).2) k) ?_
      show own_G p e below (s₁.setTop (mkF m 101 #[.val (.int p0), .val (.int p1), .val (.int p2), .val (.int p3), .val (.int (Int32.ofNat N)), .val (.int (Int32.ofNat a)), .val (.int (Int32.ofNat d)), .val (.int (Int32.ofNat b)), .val (.int ((Int32.ofNat a) + (1 : Int32))), .val (.int ((Int32.ofNat b) + (1 : Int32))), .val (.int (0 : Int32)), .val (.int (0 : Int32)), .val (.int (0 : Int32)), .unset, .unset, .unset, .unset, .unset, .unset] [])) _
      refine own_go (fun t k => XS.iloadN X0.here hx rfl (hb hby at_101) rfl k) ?_
      refine own_go (fun t k => XS.bipush X0.here hx rfl (hb hby at_102) k) ?_
      refine own_go (fun t k => XS.iand X0.here hx rfl (hb hby at_104) rfl k) ?_
      by_cases hc210z : (p3 &&& (8 : Int32)) = (0 : Int32)
      · refine own_go (fun t k => XS.ifYes X0.here hx rfl (pc0 := 105) (pc' := 112) rfl (hb hby at_105) rfl ((if0 _ _).trans (teq hc210z).1) (by decide) (by decide) k) ?_
        show own_G p e below (s₁.setTop (mkF m 112 #[.val (.int p0), .val (.int p1), .val (.int p2), .val (.int p3), .val (.int (Int32.ofNat N)), .val (.int (Int32.ofNat a)), .val (.int (Int32.ofNat d)), .val (.int (Int32.ofNat b)), .val (.int ((Int32.ofNat a) + (1 : Int32))), .val (.int ((Int32.ofNat b) + (1 : Int32))), .val (.int (0 : Int32)), .val (.int (0 : Int32)), .val (.int (0 : Int32)), .unset, .unset, .unset, .unset, .unset, .unset] [])) _
        refine own_go (fun t k => XS.iconst X0.here hx rfl (hb hby at_112) k) ?_
        refine own_go (fun t k => XS.istore X0.here hx rfl (hb hby at_113) rfl (l' := #[.val (.int p0), .val (.int p1), .val (.int p2), .val (.int p3), .val (.int (Int32.ofNat N)), .val (.int (Int32.ofNat a)), .val (.int (Int32.ofNat d)), .val (.int (Int32.ofNat b)), .val (.int ((Int32.ofNat a) + (1 : Int32))), .val (.int ((Int32.ofNat b) + (1 : Int32))), .val (.int (0 : Int32)), .val (.int (0 : Int32)), .val (.int (0 : Int32)), .val (.int (0 : Int32)), .unset, .unset, .unset, .unset, .unset]) rfl k) ?_
        refine own_go (fun t k => XS.iload X0.here hx rfl (hb hby at_115) rfl k) ?_
        refine own_go (fun t k => XS.ifNo X0.here hx rfl (hb hby at_117) rfl ((if0 _ _).trans (teq (by decide : (0 : Int32) = (0 : Int32))).2) k) ?_
        show own_G p e below (s₁.setTop (mkF m 120 #[.val (.int p0), .val (.int p1), .val (.int p2), .val (.int p3), .val (.int (Int32.ofNat N)), .val (.int (Int32.ofNat a)), .val (.int (Int32.ofNat d)), .val (.int (Int32.ofNat b)), .val (.int ((Int32.ofNat a) + (1 : Int32))), .val (.int ((Int32.ofNat b) + (1 : Int32))), .val (.int (0 : Int32)), .val (.int (0 : Int32)), .val (.int (0 : Int32)), .val (.int (0 : Int32)), .unset, .unset, .unset, .unset, .unset] [])) _
        refine own_go (fun t k => XS.iloadN X0.here hx rfl (hb hby at_120) rfl k) ?_
        refine own_go (fun t k => XS.bipush X0.here hx rfl (hb hby at_121) k) ?_
        refine own_go (fun t k => XS.iand X0.here hx rfl (hb hby at_123) rfl k) ?_
        by_cases hc211z : (p3 &&& (16 : Int32)) = (0 : Int32)
        · refine own_go (fun t k => XS.ifYes X0.here hx rfl (pc0 := 124) (pc' := 131) rfl (hb hby at_124) rfl ((if0 _ _).trans (teq hc211z).1) (by decide) (by decide) k) ?_
          show own_G p e below (s₁.setTop (mkF m 131 #[.val (.int p0), .val (.int p1), .val (.int p2), .val (.int p3), .val (.int (Int32.ofNat N)), .val (.int (Int32.ofNat a)), .val (.int (Int32.ofNat d)), .val (.int (Int32.ofNat b)), .val (.int ((Int32.ofNat a) + (1 : Int32))), .val (.int ((Int32.ofNat b) + (1 : Int32))), .val (.int (0 : Int32)), .val (.int (0 : Int32)), .val (.int (0 : Int32)), .val (.int (0 : Int32)), .unset, .unset, .unset, .unset, .unset] [])) _
          refine own_go (fun t k => XS.iconst X0.here hx rfl (hb hby at_131) k) ?_
          refine own_go (fun t k => XS.istore X0.here hx rfl (hb hby at_132) rfl (l' := #[.val (.int p0), .val (.int p1), .val (.int p2), .val (.int p3), .val (.int (Int32.ofNat N)), .val (.int (Int32.ofNat a)), .val (.int (Int32.ofNat d)), .val (.int (Int32.ofNat b)), .val (.int ((Int32.ofNat a) + (1 : Int32))), .val (.int ((Int32.ofNat b) + (1 : Int32))), .val (.int (0 : Int32)), .val (.int (0 : Int32)), .val (.int (0 : Int32)), .val (.int (0 : Int32)), .val (.int (0 : Int32)), .unset, .unset, .unset, .unset]) rfl k) ?_
          exact go134 (0 : Int32) (0 : Int32) (0 : Int32) (0 : Int32) (0 : Int32) (by decide) (by decide) (by decide)
        · refine own_go (fun t k => XS.ifNo X0.here hx rfl (hb hby at_124) rfl ((if0 _ _).trans (feq hc211z).1) k) ?_
          show own_G p e below (s₁.setTop (mkF m 127 #[.val (.int p0), .val (.int p1), .val (.int p2), .val (.int p3), .val (.int (Int32.ofNat N)), .val (.int (Int32.ofNat a)), .val (.int (Int32.ofNat d)), .val (.int (Int32.ofNat b)), .val (.int ((Int32.ofNat a) + (1 : Int32))), .val (.int ((Int32.ofNat b) + (1 : Int32))), .val (.int (0 : Int32)), .val (.int (0 : Int32)), .val (.int (0 : Int32)), .val (.int (0 : Int32)), .unset, .unset, .unset, .unset, .unset] [])) _
          refine own_go (fun t k => XS.iconst X0.here hx rfl (hb hby at_127) k) ?_
          refine own_go (fun t k => XS.goto X0.here hx rfl (pc0 := 128) (pc' := 132) rfl (hb hby at_128) (by decide) (by decide) k) ?_
          show own_G p e below (s₁.setTop (mkF m 132 #[.val (.int p0), .val (.int p1), .val (.int p2), .val (.int p3), .val (.int (Int32.ofNat N)), .val (.int (Int32.ofNat a)), .val (.int (Int32.ofNat d)), .val (.int (Int32.ofNat b)), .val (.int ((Int32.ofNat a) + (1 : Int32))), .val (.int ((Int32.ofNat b) + (1 : Int32))), .val (.int (0 : Int32)), .val (.int (0 : Int32)), .val (.int (0 : Int32)), .val (.int (0 : Int32)), .unset, .unset, .unset, .unset, .unset] [(.int (1 : Int32))])) _
          refine own_go (fun t k => XS.istore X0.here hx rfl (hb hby at_132) rfl (l' := #[.val (.int p0), .val (.int p1), .val (.int p2), .val (.int p3), .val (.int (Int32.ofNat N)), .val (.int (Int32.ofNat a)), .val (.int (Int32.ofNat d)), .val (.int (Int32.ofNat b)), .val (.int ((Int32.ofNat a) + (1 : Int32))), .val (.int ((Int32.ofNat b) + (1 : Int32))), .val (.int (0 : Int32)), .val (.int (0 : Int32)), .val (.int (0 : Int32)), .val (.int (0 : Int32)), .val (.int (1 : Int32)), .unset, .unset, .unset, .unset]) rfl k) ?_
          exact go134 (0 : Int32) (0 : Int32) (0 : Int32) (0 : Int32) (1 : Int32) (by decide) (by decide) (by decide)
      · refine own_go (fun t k => XS.ifNo X0.here hx rfl (hb hby at_105) rfl ((if0 _ _).trans (feq hc210z).1) k) ?_
        show own_G p e below (s₁.setTop (mkF m 108 #[.val (.int p0), .val (.int p1), .val (.int p2), .val (.int p3), .val (.int (Int32.ofNat N)), .val (.int (Int32.ofNat a)), .val (.int (Int32.ofNat d)), .val (.int (Int32.ofNat b)), .val (.int ((Int32.ofNat a) + (1 : Int32))), .val (.int ((Int32.ofNat b) + (1 : Int32))), .val (.int (0 : Int32)), .val (.int (0 : Int32)), .val (.int (0 : Int32)), .unset, .unset, .unset, .unset, .unset, .unset] [])) _
        refine own_go (fun t k => XS.iconst X0.here hx rfl (hb hby at_108) k) ?_
        refine own_go (fun t k => XS.goto X0.here hx rfl (pc0 := 109) (pc' := 113) rfl (hb hby at_109) (by decide) (by decide) k) ?_
        show own_G p e below (s₁.setTop (mkF m 113 #[.val (.int p0), .val (.int p1), .val (.int p2), .val (.int p3), .val (.int (Int32.ofNat N)), .val (.int (Int32.ofNat a)), .val (.int (Int32.ofNat d)), .val (.int (Int32.ofNat b)), .val (.int ((Int32.ofNat a) + (1 : Int32))), .val (.int ((Int32.ofNat b) + (1 : Int32))), .val (.int (0 : Int32)), .val (.int (0 : Int32)), .val (.int (0 : Int32)), .unset, .unset, .unset, .unset, .unset, .unset] [(.int (1 : Int32))])) _
        refine own_go (fun t k => XS.istore X0.here hx rfl (hb hby at_113) rfl (l' := #[.val (.int p0), .val (.int p1), .val (.int p2), .val (.int p3), .val (.int (Int32.ofNat N)), .val (.int (Int32.ofNat a)), .val (.int (Int32.ofNat d)), .val (.int (Int32.ofNat b)), .val (.int ((Int32.ofNat a) + (1 : Int32))), .val (.int ((Int32.ofNat b) + (1 : Int32))), .val (.int (0 : Int32)), .val (.int (0 : Int32)), .val (.int (0 : Int32)), .val (.int (1 : Int32)), .unset, .unset, .unset, .unset, .unset]) rfl k) ?_
        refine own_go (fun t k => XS.iload X0.here hx rfl (hb hby at_115) rfl k) ?_
        refine own_go (fun t k => XS.ifNo X0.here hx rfl (hb hby at_117) rfl ((if0 _ _).trans (teq (by decide : (0 : Int32) = (0 : Int32))).2) k) ?_
        show own_G p e below (s₁.setTop (mkF m 120 #[.val (.int p0), .val (.int p1), .val (.int p2), .val (.int p3), .val (.int (Int32.ofNat N)), .val (.int (Int32.ofNat a)), .val (.int (Int32.ofNat d)), .val (.int (Int32.ofNat b)), .val (.int ((Int32.ofNat a) + (1 : Int32))), .val (.int ((Int32.ofNat b) + (1 : Int32))), .val (.int (0 : Int32)), .val (.int (0 : Int32)), .val (.int (0 : Int32)), .val (.int (1 : Int32)), .unset, .unset, .unset, .unset, .unset] [])) _
        refine own_go (fun t k => XS.iloadN X0.here hx rfl (hb hby at_120) rfl k) ?_
        refine own_go (fun t k => XS.bipush X0.here hx rfl (hb hby at_121) k) ?_
        refine own_go (fun t k => XS.iand X0.here hx rfl (hb hby at_123) rfl k) ?_
        by_cases hc212z : (p3 &&& (16 : Int32)) = (0 : Int32)
        · refine own_go (fun t k => XS.ifYes X0.here hx rfl (pc0 := 124) (pc' := 131) rfl (hb hby at_124) rfl ((if0 _ _).trans (teq hc212z).1) (by decide) (by decide) k) ?_
          show own_G p e below (s₁.setTop (mkF m 131 #[.val (.int p0), .val (.int p1), .val (.int p2), .val (.int p3), .val (.int (Int32.ofNat N)), .val (.int (Int32.ofNat a)), .val (.int (Int32.ofNat d)), .val (.int (Int32.ofNat b)), .val (.int ((Int32.ofNat a) + (1 : Int32))), .val (.int ((Int32.ofNat b) + (1 : Int32))), .val (.int (0 : Int32)), .val (.int (0 : Int32)), .val (.int (0 : Int32)), .val (.int (1 : Int32)), .unset, .unset, .unset, .unset, .unset] [])) _
          refine own_go (fun t k => XS.iconst X0.here hx rfl (hb hby at_131) k) ?_
          refine own_go (fun t k => XS.istore X0.here hx rfl (hb hby at_132) rfl (l' := #[.val (.int p0), .val (.int p1), .val (.int p2), .val (.int p3), .val (.int (Int32.ofNat N)), .val (.int (Int32.ofNat a)), .val (.int (Int32.ofNat d)), .val (.int (Int32.ofNat b)), .val (.int ((Int32.ofNat a) + (1 : Int32))), .val (.int ((Int32.ofNat b) + (1 : Int32))), .val (.int (0 : Int32)), .val (.int (0 : Int32)), .val (.int (0 : Int32)), .val (.int (1 : Int32)), .val (.int (0 : Int32)), .unset, .unset, .unset, .unset]) rfl k) ?_
          exact go134 (0 : Int32) (0 : Int32) (0 : Int32) (1 : Int32) (0 : Int32) (by decide) (by decide) (by decide)
        · refine own_go (fun t k => XS.ifNo X0.here hx rfl (hb hby at_124) rfl ((if0 _ _).trans (feq hc212z).1) k) ?_
          show own_G p e below (s₁.setTop (mkF m 127 #[.val (.int p0), .val (.int p1), .val (.int p2), .val (.int p3), .val (.int (Int32.ofNat N)), .val (.int (Int32.ofNat a)), .val (.int (Int32.ofNat d)), .val (.int (Int32.ofNat b)), .val (.int ((Int32.ofNat a) + (1 : Int32))), .val (.int ((Int32.ofNat b) + (1 : Int32))), .val (.int (0 : Int32)), .val (.int (0 : Int32)), .val (.int (0 : Int32)), .val (.int (1 : Int32)), .unset, .unset, .unset, .unset, .unset] [])) _
          refine own_go (fun t k => XS.iconst X0.here hx rfl (hb hby at_127) k) ?_
          refine own_go (fun t k => XS.goto X0.here hx rfl (pc0 := 128) (pc' := 132) rfl (hb hby at_128) (by decide) (by decide) k) ?_
          show own_G p e below (s₁.setTop (mkF m 132 #[.val (.int p0), .val (.int p1), .val (.int p2), .val (.int p3), .val (.int (Int32.ofNat N)), .val (.int (Int32.ofNat a)), .val (.int (Int32.ofNat d)), .val (.int (Int32.ofNat b)), .val (.int ((Int32.ofNat a) + (1 : Int32))), .val (.int ((Int32.ofNat b) + (1 : Int32))), .val (.int (0 : Int32)), .val (.int (0 : Int32)), .val (.int (0 : Int32)), .val (.int (1 : Int32)), .unset, .unset, .unset, .unset, .unset] [(.int (1 : Int32))])) _
          refine own_go (fun t k => XS.istore X0.here hx rfl (hb hby at_132) rfl (l' := #[.val (.int p0), .val (.int p1), .val (.int p2), .val (.int p3), .val (.int (Int32.ofNat N)), .val (.int (Int32.ofNat a)), .val (.int (Int32.ofNat d)), .val (.int (Int32.ofNat b)), .val (.int ((Int32.ofNat a) + (1 : Int32))), .val (.int ((Int32.ofNat b) + (1 : Int32))), .val (.int (0 : Int32)), .val (.int (0 : Int32)), .val (.int (0 : Int32)), .val (.int (1 : Int32)), .val (.int (1 : Int32)), .unset, .unset, .unset, .unset]) rfl k) ?_
          exact go134 (0 : Int32) (0 : Int32) (0 : Int32) (1 : Int32) (1 : Int32) (by decide) (by decide) (by decide)
    · refine own_go (fun t k => XS.ifNo X0.here hx rfl (hb hby at_68) rfl ((if0 _ _).trans (feq hc209z).1) k) ?_
      show own_G p e below (s₁.setTop (mkF m 71 #[.val (.int p0), .val (.int p1), .val (.int p2), .val (.int p3), .val (.int (Int32.ofNat N)), .val (.int (Int32.ofNat a)), .val (.int (Int32.ofNat d)), .val (.int (Int32.ofNat b)), .val (.int ((Int32.ofNat a) + (1 : Int32))), .val (.int ((Int32.ofNat b) + (1 : Int32))), .val (.int (0 : Int32)), .unset, .unset, .unset, .unset, .unset, .unset, .unset, .unset] [])) _
      refine own_go (fun t k => XS.iconst X0.here hx rfl (hb hby at_71) k) ?_
      refine own_go (fun t k => XS.goto X0.here hx rfl (pc0 := 72) (pc' := 76) rfl (hb hby at_72) (by decide) (by decide) k) ?_
      show own_G p e below (s₁.setTop (mkF m 76 #[.val (.int p0), .val (.int p1), .val (.int p2), .val (.int p3), .val (.int (Int32.ofNat N)), .val (.int (Int32.ofNat a)), .val (.int (Int32.ofNat d)), .val (.int (Int32.ofNat b)), .val (.int ((Int32.ofNat a) + (1 : Int32))), .val (.int ((Int32.ofNat b) + (1 : Int32))), .val (.int (0 : Int32)), .unset, .unset, .unset, .unset, .unset, .unset, .unset, .unset] [(.int (1 : Int32))])) _
      refine own_go (fun t k => XS.istore X0.here hx rfl (hb hby at_76) rfl (l' := #[.val (.int p0), .val (.int p1), .val (.int p2), .val (.int p3), .val (.int (Int32.ofNat N)), .val (.int (Int32.ofNat a)), .val (.int (Int32.ofNat d)), .val (.int (Int32.ofNat b)), .val (.int ((Int32.ofNat a) + (1 : Int32))), .val (.int ((Int32.ofNat b) + (1 : Int32))), .val (.int (0 : Int32)), .val (.int (1 : Int32)), .unset, .unset, .unset, .unset, .unset, .unset, .unset]) rfl k) ?_
      refine own_go (fun t k => XS.iload X0.here hx rfl (hb hby at_78) rfl k) ?_
      refine own_go (fun t k => XS.ifNo X0.here hx rfl (hb hby at_80) rfl ((if0 _ _).trans (feq (by decide : ¬ ((1 : Int32) = (0 : Int32)))).1) k) ?_
      show own_G p e below (s₁.setTop (mkF m 83 #[.val (.int p0), .val (.int p1), .val (.int p2), .val (.int p3), .val (.int (Int32.ofNat N)), .val (.int (Int32.ofNat a)), .val (.int (Int32.ofNat d)), .val (.int (Int32.ofNat b)), .val (.int ((Int32.ofNat a) + (1 : Int32))), .val (.int ((Int32.ofNat b) + (1 : Int32))), .val (.int (0 : Int32)), .val (.int (1 : Int32)), .unset, .unset, .unset, .unset, .unset, .unset, .unset] [])) _
      refine own_go (fun t k => XS.iloadN X0.here hx rfl (hb hby at_83) rfl k) ?_
      refine own_go (fun t k => XS.iconst X0.here hx rfl (hb hby at_84) k) ?_
      refine own_go (fun t k => XS.iand X0.here hx rfl (hb hby at_85) rfl k) ?_
      by_cases hc213z : (p3 &&& (4 : Int32)) = (0 : Int32)
      · refine own_go (fun t k => XS.ifYes X0.here hx rfl (pc0 := 86) (pc' := 93) rfl (hb hby at_86) rfl ((if0 _ _).trans (teq hc213z).1) (by decide) (by decide) k) ?_
        show own_G p e below (s₁.setTop (mkF m 93 #[.val (.int p0), .val (.int p1), .val (.int p2), .val (.int p3), .val (.int (Int32.ofNat N)), .val (.int (Int32.ofNat a)), .val (.int (Int32.ofNat d)), .val (.int (Int32.ofNat b)), .val (.int ((Int32.ofNat a) + (1 : Int32))), .val (.int ((Int32.ofNat b) + (1 : Int32))), .val (.int (0 : Int32)), .val (.int (1 : Int32)), .unset, .unset, .unset, .unset, .unset, .unset, .unset] [])) _
        refine own_go (fun t k => XS.iconst X0.here hx rfl (hb hby at_93) k) ?_
        refine own_go (fun t k => XS.istore X0.here hx rfl (hb hby at_94) rfl (l' := #[.val (.int p0), .val (.int p1), .val (.int p2), .val (.int p3), .val (.int (Int32.ofNat N)), .val (.int (Int32.ofNat a)), .val (.int (Int32.ofNat d)), .val (.int (Int32.ofNat b)), .val (.int ((Int32.ofNat a) + (1 : Int32))), .val (.int ((Int32.ofNat b) + (1 : Int32))), .val (.int (0 : Int32)), .val (.int (1 : Int32)), .val (.int (0 : Int32)), .unset, .unset, .unset, .unset, .unset, .unset]) rfl k) ?_
        refine own_go (fun t k => XS.iload X0.here hx rfl (hb hby at_96) rfl k) ?_
        refine own_go (fun t k => XS.ifNo X0.here hx rfl (hb hby at_98) rfl ((if0 _ _).trans (teq (by decide : (0 : Int32) = (0 : Int32))).2) k) ?_
        show own_G p e below (s₁.setTop (mkF m 101 #[.val (.int p0), .val (.int p1), .val (.int p2), .val (.int p3), .val (.int (Int32.ofNat N)), .val (.int (Int32.ofNat a)), .val (.int (Int32.ofNat d)), .val (.int (Int32.ofNat b)), .val (.int ((Int32.ofNat a) + (1 : Int32))), .val (.int ((Int32.ofNat b) + (1 : Int32))), .val (.int (0 : Int32)), .val (.int (1 : Int32)), .val (.int (0 : Int32)), .unset, .unset, .unset, .unset, .unset, .unset] [])) _
        refine own_go (fun t k => XS.iloadN X0.here hx rfl (hb hby at_101) rfl k) ?_
        refine own_go (fun t k => XS.bipush X0.here hx rfl (hb hby at_102) k) ?_
        refine own_go (fun t k => XS.iand X0.here hx rfl (hb hby at_104) rfl k) ?_
        by_cases hc214z : (p3 &&& (8 : Int32)) = (0 : Int32)
        · refine own_go (fun t k => XS.ifYes X0.here hx rfl (pc0 := 105) (pc' := 112) rfl (hb hby at_105) rfl ((if0 _ _).trans (teq hc214z).1) (by decide) (by decide) k) ?_
          show own_G p e below (s₁.setTop (mkF m 112 #[.val (.int p0), .val (.int p1), .val (.int p2), .val (.int p3), .val (.int (Int32.ofNat N)), .val (.int (Int32.ofNat a)), .val (.int (Int32.ofNat d)), .val (.int (Int32.ofNat b)), .val (.int ((Int32.ofNat a) + (1 : Int32))), .val (.int ((Int32.ofNat b) + (1 : Int32))), .val (.int (0 : Int32)), .val (.int (1 : Int32)), .val (.int (0 : Int32)), .unset, .unset, .unset, .unset, .unset, .unset] [])) _
          refine own_go (fun t k => XS.iconst X0.here hx rfl (hb hby at_112) k) ?_
          refine own_go (fun t k => XS.istore X0.here hx rfl (hb hby at_113) rfl (l' := #[.val (.int p0), .val (.int p1), .val (.int p2), .val (.int p3), .val (.int (Int32.ofNat N)), .val (.int (Int32.ofNat a)), .val (.int (Int32.ofNat d)), .val (.int (Int32.ofNat b)), .val (.int ((Int32.ofNat a) + (1 : Int32))), .val (.int ((Int32.ofNat b) + (1 : Int32))), .val (.int (0 : Int32)), .val (.int (1 : Int32)), .val (.int (0 : Int32)), .val (.int (0 : Int32)), .unset, .unset, .unset, .unset, .unset]) rfl k) ?_
          refine own_go (fun t k => XS.iload X0.here hx rfl (hb hby at_115) rfl k) ?_
          refine own_go (fun t k => XS.ifYes X0.here hx rfl (pc0 := 117) (pc' := 131) rfl (hb hby at_117) rfl ((if0 _ _).trans (feq (by decide : ¬ ((1 : Int32) = (0 : Int32)))).2) (by decide) (by decide) k) ?_
          show own_G p e below (s₁.setTop (mkF m 131 #[.val (.int p0), .val (.int p1), .val (.int p2), .val (.int p3), .val (.int (Int32.ofNat N)), .val (.int (Int32.ofNat a)), .val (.int (Int32.ofNat d)), .val (.int (Int32.ofNat b)), .val (.int ((Int32.ofNat a) + (1 : Int32))), .val (.int ((Int32.ofNat b) + (1 : Int32))), .val (.int (0 : Int32)), .val (.int (1 : Int32)), .val (.int (0 : Int32)), .val (.int (0 : Int32)), .unset, .unset, .unset, .unset, .unset] [])) _
          refine own_go (fun t k => XS.iconst X0.here hx rfl (hb hby at_131) k) ?_
          refine own_go (fun t k => XS.istore X0.here hx rfl (hb hby at_132) rfl (l' := #[.val (.int p0), .val (.int p1), .val (.int p2), .val (.int p3), .val (.int (Int32.ofNat N)), .val (.int (Int32.ofNat a)), .val (.int (Int32.ofNat d)), .val (.int (Int32.ofNat b)), .val (.int ((Int32.ofNat a) + (1 : Int32))), .val (.int ((Int32.ofNat b) + (1 : Int32))), .val (.int (0 : Int32)), .val (.int (1 : Int32)), .val (.int (0 : Int32)), .val (.int (0 : Int32)), .val (.int (0 : Int32)), .unset, .unset, .unset, .unset]) rfl k) ?_
          exact go134 (0 : Int32) (1 : Int32) (0 : Int32) (0 : Int32) (0 : Int32) (by decide) (by decide) (by decide)
        · refine own_go (fun t k => XS.ifNo X0.here hx rfl (hb hby at_105) rfl ((if0 _ _).trans (feq hc214z).1) k) ?_
          show own_G p e below (s₁.setTop (mkF m 108 #[.val (.int p0), .val (.int p1), .val (.int p2), .val (.int p3), .val (.int (Int32.ofNat N)), .val (.int (Int32.ofNat a)), .val (.int (Int32.ofNat d)), .val (.int (Int32.ofNat b)), .val (.int ((Int32.ofNat a) + (1 : Int32))), .val (.int ((Int32.ofNat b) + (1 : Int32))), .val (.int (0 : Int32)), .val (.int (1 : Int32)), .val (.int (0 : Int32)), .unset, .unset, .unset, .unset, .unset, .unset] [])) _
          refine own_go (fun t k => XS.iconst X0.here hx rfl (hb hby at_108) k) ?_
          refine own_go (fun t k => XS.goto X0.here hx rfl (pc0 := 109) (pc' := 113) rfl (hb hby at_109) (by decide) (by decide) k) ?_
          show own_G p e below (s₁.setTop (mkF m 113 #[.val (.int p0), .val (.int p1), .val (.int p2), .val (.int p3), .val (.int (Int32.ofNat N)), .val (.int (Int32.ofNat a)), .val (.int (Int32.ofNat d)), .val (.int (Int32.ofNat b)), .val (.int ((Int32.ofNat a) + (1 : Int32))), .val (.int ((Int32.ofNat b) + (1 : Int32))), .val (.int (0 : Int32)), .val (.int (1 : Int32)), .val (.int (0 : Int32)), .unset, .unset, .unset, .unset, .unset, .unset] [(.int (1 : Int32))])) _
          refine own_go (fun t k => XS.istore X0.here hx rfl (hb hby at_113) rfl (l' := #[.val (.int p0), .val (.int p1), .val (.int p2), .val (.int p3), .val (.int (Int32.ofNat N)), .val (.int (Int32.ofNat a)), .val (.int (Int32.ofNat d)), .val (.int (Int32.ofNat b)), .val (.int ((Int32.ofNat a) + (1 : Int32))), .val (.int ((Int32.ofNat b) + (1 : Int32))), .val (.int (0 : Int32)), .val (.int (1 : Int32)), .val (.int (0 : Int32)), .val (.int (1 : Int32)), .unset, .unset, .unset, .unset, .unset]) rfl k) ?_
          refine own_go (fun t k => XS.iload X0.here hx rfl (hb hby at_115) rfl k) ?_
          refine own_go (fun t k => XS.ifYes X0.here hx rfl (pc0 := 117) (pc' := 131) rfl (hb hby at_117) rfl ((if0 _ _).trans (feq (by decide : ¬ ((1 : Int32) = (0 : Int32)))).2) (by decide) (by decide) k) ?_
          show own_G p e below (s₁.setTop (mkF m 131 #[.val (.int p0), .val (.int p1), .val (.int p2), .val (.int p3), .val (.int (Int32.ofNat N)), .val (.int (Int32.ofNat a)), .val (.int (Int32.ofNat d)), .val (.int (Int32.ofNat b)), .val (.int ((Int32.ofNat a) + (1 : Int32))), .val (.int ((Int32.ofNat b) + (1 : Int32))), .val (.int (0 : Int32)), .val (.int (1 : Int32)), .val (.int (0 : Int32)), .val (.int (1 : Int32)), .unset, .unset, .unset, .unset, .unset] [])) _
          refine own_go (fun t k => XS.iconst X0.here hx rfl (hb hby at_131) k) ?_
          refine own_go (fun t k => XS.istore X0.here hx rfl (hb hby at_132) rfl (l' := #[.val (.int p0), .val (.int p1), .val (.int p2), .val (.int p3), .val (.int (Int32.ofNat N)), .val (.int (Int32.ofNat a)), .val (.int (Int32.ofNat d)), .val (.int (Int32.ofNat b)), .val (.int ((Int32.ofNat a) + (1 : Int32))), .val (.int ((Int32.ofNat b) + (1 : Int32))), .val (.int (0 : Int32)), .val (.int (1 : Int32)), .val (.int (0 : Int32)), .val (.int (1 : Int32)), .val (.int (0 : Int32)), .unset, .unset, .unset, .unset]) rfl k) ?_
          exact go134 (0 : Int32) (1 : Int32) (0 : Int32) (1 : Int32) (0 : Int32) (by decide) (by decide) (by decide)
      · refine own_go (fun t k => XS.ifNo X0.here hx rfl (hb hby at_86) rfl ((if0 _ _).trans (feq hc213z).1) k) ?_
        show own_G p e below (s₁.setTop (mkF m 89 #[.val (.int p0), .val (.int p1), .val (.int p2), .val (.int p3), .val (.int (Int32.ofNat N)), .val (.int (Int32.ofNat a)), .val (.int (Int32.ofNat d)), .val (.int (Int32.ofNat b)), .val (.int ((Int32.ofNat a) + (1 : Int32))), .val (.int ((Int32.ofNat b) + (1 : Int32))), .val (.int (0 : Int32)), .val (.int (1 : Int32)), .unset, .unset, .unset, .unset, .unset, .unset, .unset] [])) _
        refine own_go (fun t k => XS.iconst X0.here hx rfl (hb hby at_89) k) ?_
        refine own_go (fun t k => XS.goto X0.here hx rfl (pc0 := 90) (pc' := 94) rfl (hb hby at_90) (by decide) (by decide) k) ?_
        show own_G p e below (s₁.setTop (mkF m 94 #[.val (.int p0), .val (.int p1), .val (.int p2), .val (.int p3), .val (.int (Int32.ofNat N)), .val (.int (Int32.ofNat a)), .val (.int (Int32.ofNat d)), .val (.int (Int32.ofNat b)), .val (.int ((Int32.ofNat a) + (1 : Int32))), .val (.int ((Int32.ofNat b) + (1 : Int32))), .val (.int (0 : Int32)), .val (.int (1 : Int32)), .unset, .unset, .unset, .unset, .unset, .unset, .unset] [(.int (1 : Int32))])) _
        refine own_go (fun t k => XS.istore X0.here hx rfl (hb hby at_94) rfl (l' := #[.val (.int p0), .val (.int p1), .val (.int p2), .val (.int p3), .val (.int (Int32.ofNat N)), .val (.int (Int32.ofNat a)), .val (.int (Int32.ofNat d)), .val (.int (Int32.ofNat b)), .val (.int ((Int32.ofNat a) + (1 : Int32))), .val (.int ((Int32.ofNat b) + (1 : Int32))), .val (.int (0 : Int32)), .val (.int (1 : Int32)), .val (.int (1 : Int32)), .unset, .unset, .unset, .unset, .unset, .unset]) rfl k) ?_
        refine own_go (fun t k => XS.iload X0.here hx rfl (hb hby at_96) rfl k) ?_
        refine own_go (fun t k => XS.ifNo X0.here hx rfl (hb hby at_98) rfl ((if0 _ _).trans (teq (by decide : (0 : Int32) = (0 : Int32))).2) k) ?_
        show own_G p e below (s₁.setTop (mkF m 101 #[.val (.int p0), .val (.int p1), .val (.int p2), .val (.int p3), .val (.int (Int32.ofNat N)), .val (.int (Int32.ofNat a)), .val (.int (Int32.ofNat d)), .val (.int (Int32.ofNat b)), .val (.int ((Int32.ofNat a) + (1 : Int32))), .val (.int ((Int32.ofNat b) + (1 : Int32))), .val (.int (0 : Int32)), .val (.int (1 : Int32)), .val (.int (1 : Int32)), .unset, .unset, .unset, .unset, .unset, .unset] [])) _
        refine own_go (fun t k => XS.iloadN X0.here hx rfl (hb hby at_101) rfl k) ?_
        refine own_go (fun t k => XS.bipush X0.here hx rfl (hb hby at_102) k) ?_
        refine own_go (fun t k => XS.iand X0.here hx rfl (hb hby at_104) rfl k) ?_
        by_cases hc215z : (p3 &&& (8 : Int32)) = (0 : Int32)
        · refine own_go (fun t k => XS.ifYes X0.here hx rfl (pc0 := 105) (pc' := 112) rfl (hb hby at_105) rfl ((if0 _ _).trans (teq hc215z).1) (by decide) (by decide) k) ?_
          show own_G p e below (s₁.setTop (mkF m 112 #[.val (.int p0), .val (.int p1), .val (.int p2), .val (.int p3), .val (.int (Int32.ofNat N)), .val (.int (Int32.ofNat a)), .val (.int (Int32.ofNat d)), .val (.int (Int32.ofNat b)), .val (.int ((Int32.ofNat a) + (1 : Int32))), .val (.int ((Int32.ofNat b) + (1 : Int32))), .val (.int (0 : Int32)), .val (.int (1 : Int32)), .val (.int (1 : Int32)), .unset, .unset, .unset, .unset, .unset, .unset] [])) _
          refine own_go (fun t k => XS.iconst X0.here hx rfl (hb hby at_112) k) ?_
          refine own_go (fun t k => XS.istore X0.here hx rfl (hb hby at_113) rfl (l' := #[.val (.int p0), .val (.int p1), .val (.int p2), .val (.int p3), .val (.int (Int32.ofNat N)), .val (.int (Int32.ofNat a)), .val (.int (Int32.ofNat d)), .val (.int (Int32.ofNat b)), .val (.int ((Int32.ofNat a) + (1 : Int32))), .val (.int ((Int32.ofNat b) + (1 : Int32))), .val (.int (0 : Int32)), .val (.int (1 : Int32)), .val (.int (1 : Int32)), .val (.int (0 : Int32)), .unset, .unset, .unset, .unset, .unset]) rfl k) ?_
          refine own_go (fun t k => XS.iload X0.here hx rfl (hb hby at_115) rfl k) ?_
          refine own_go (fun t k => XS.ifYes X0.here hx rfl (pc0 := 117) (pc' := 131) rfl (hb hby at_117) rfl ((if0 _ _).trans (feq (by decide : ¬ ((1 : Int32) = (0 : Int32)))).2) (by decide) (by decide) k) ?_
          show own_G p e below (s₁.setTop (mkF m 131 #[.val (.int p0), .val (.int p1), .val (.int p2), .val (.int p3), .val (.int (Int32.ofNat N)), .val (.int (Int32.ofNat a)), .val (.int (Int32.ofNat d)), .val (.int (Int32.ofNat b)), .val (.int ((Int32.ofNat a) + (1 : Int32))), .val (.int ((Int32.ofNat b) + (1 : Int32))), .val (.int (0 : Int32)), .val (.int (1 : Int32)), .val (.int (1 : Int32)), .val (.int (0 : Int32)), .unset, .unset, .unset, .unset, .unset] [])) _
          refine own_go (fun t k => XS.iconst X0.here hx rfl (hb hby at_131) k) ?_
          refine own_go (fun t k => XS.istore X0.here hx rfl (hb hby at_132) rfl (l' := #[.val (.int p0), .val (.int p1), .val (.int p2), .val (.int p3), .val (.int (Int32.ofNat N)), .val (.int (Int32.ofNat a)), .val (.int (Int32.ofNat d)), .val (.int (Int32.ofNat b)), .val (.int ((Int32.ofNat a) + (1 : Int32))), .val (.int ((Int32.ofNat b) + (1 : Int32))), .val (.int (0 : Int32)), .val (.int (1 : Int32)), .val (.int (1 : Int32)), .val (.int (0 : Int32)), .val (.int (0 : Int32)), .unset, .unset, .unset, .unset]) rfl k) ?_
          exact go134 (0 : Int32) (1 : Int32) (1 : Int32) (0 : Int32) (0 : Int32) (by decide) (by decide) (by decide)
        · refine own_go (fun t k => XS.ifNo X0.here hx rfl (hb hby at_105) rfl ((if0 _ _).trans (feq hc215z).1) k) ?_
          show own_G p e below (s₁.setTop (mkF m 108 #[.val (.int p0), .val (.int p1), .val (.int p2), .val (.int p3), .val (.int (Int32.ofNat N)), .val (.int (Int32.ofNat a)), .val (.int (Int32.ofNat d)), .val (.int (Int32.ofNat b)), .val (.int ((Int32.ofNat a) + (1 : Int32))), .val (.int ((Int32.ofNat b) + (1 : Int32))), .val (.int (0 : Int32)), .val (.int (1 : Int32)), .val (.int (1 : Int32)), .unset, .unset, .unset, .unset, .unset, .unset] [])) _
          refine own_go (fun t k => XS.iconst X0.here hx rfl (hb hby at_108) k) ?_
          refine own_go (fun t k => XS.goto X0.here hx rfl (pc0 := 109) (pc' := 113) rfl (hb hby at_109) (by decide) (by decide) k) ?_
          show own_G p e below (s₁.setTop (mkF m 113 #[.val (.int p0), .val (.int p1), .val (.int p2), .val (.int p3), .val (.int (Int32.ofNat N)), .val (.int (Int32.ofNat a)), .val (.int (Int32.ofNat d)), .val (.int (Int32.ofNat b)), .val (.int ((Int32.ofNat a) + (1 : Int32))), .val (.int ((Int32.ofNat b) + (1 : Int32))), .val (.int (0 : Int32)), .val (.int (1 : Int32)), .val (.int (1 : Int32)), .unset, .unset, .unset, .unset, .unset, .unset] [(.int (1 : Int32))])) _
          refine own_go (fun t k => XS.istore X0.here hx rfl (hb hby at_113) rfl (l' := #[.val (.int p0), .val (.int p1), .val (.int p2), .val (.int p3), .val (.int (Int32.ofNat N)), .val (.int (Int32.ofNat a)), .val (.int (Int32.ofNat d)), .val (.int (Int32.ofNat b)), .val (.int ((Int32.ofNat a) + (1 : Int32))), .val (.int ((Int32.ofNat b) + (1 : Int32))), .val (.int (0 : Int32)), .val (.int (1 : Int32)), .val (.int (1 : Int32)), .val (.int (1 : Int32)), .unset, .unset, .unset, .unset, .unset]) rfl k) ?_
          refine own_go (fun t k => XS.iload X0.here hx rfl (hb hby at_115) rfl k) ?_
          refine own_go (fun t k => XS.ifYes X0.here hx rfl (pc0 := 117) (pc' := 131) rfl (hb hby at_117) rfl ((if0 _ _).trans (feq (by decide : ¬ ((1 : Int32) = (0 : Int32)))).2) (by decide) (by decide) k) ?_
          show own_G p e below (s₁.setTop (mkF m 131 #[.val (.int p0), .val (.int p1), .val (.int p2), .val (.int p3), .val (.int (Int32.ofNat N)), .val (.int (Int32.ofNat a)), .val (.int (Int32.ofNat d)), .val (.int (Int32.ofNat b)), .val (.int ((Int32.ofNat a) + (1 : Int32))), .val (.int ((Int32.ofNat b) + (1 : Int32))), .val (.int (0 : Int32)), .val (.int (1 : Int32)), .val (.int (1 : Int32)), .val (.int (1 : Int32)), .unset, .unset, .unset, .unset, .unset] [])) _
          refine own_go (fun t k => XS.iconst X0.here hx rfl (hb hby at_131) k) ?_
          refine own_go (fun t k => XS.istore X0.here hx rfl (hb hby at_132) rfl (l' := #[.val (.int p0), .val (.int p1), .val (.int p2), .val (.int p3), .val (.int (Int32.ofNat N)), .val (.int (Int32.ofNat a)), .val (.int (Int32.ofNat d)), .val (.int (Int32.ofNat b)), .val (.int ((Int32.ofNat a) + (1 : Int32))), .val (.int ((Int32.ofNat b) + (1 : Int32))), .val (.int (0 : Int32)), .val (.int (1 : Int32)), .val (.int (1 : Int32)), .val (.int (1 : Int32)), .val (.int (0 : Int32)), .unset, .unset, .unset, .unset]) rfl k) ?_
          exact go134 (0 : Int32) (1 : Int32) (1 : Int32) (1 : Int32) (0 : Int32) (by decide) (by decide) (by decide)
  · refine own_go (fun t k => XS.ifNo X0.here hx rfl (hb hby at_55) rfl ((if0 _ _).trans (feq hc208z).1) k) ?_
    show own_G p e below (s₁.setTop (mkF m 58 #[.val (.int p0), .val (.int p1), .val (.int p2), .val (.int p3), .val (.int (Int32.ofNat N)), .val (.int (Int32.ofNat a)), .val (.int (Int32.ofNat d)), .val (.int (Int32.ofNat b)), .val (.int ((Int32.ofNat a) + (1 : Int32))), .val (.int ((Int32.ofNat b) + (1 : Int32))), .unset, .unset, .unset, .unset, .unset, .unset, .unset, .unset, .unset] [])) _
    refine own_go (fun t k => XS.iconst X0.here hx rfl (hb hby at_58) k) ?_
    refine own_go (fun t k => XS.goto X0.here hx rfl (pc0 := 59) (pc' := 63) rfl (hb hby at_59) (by decide) (by decide) k) ?_
    show own_G p e below (s₁.setTop (mkF m 63 #[.val (.int p0), .val (.int p1), .val (.int p2), .val (.int p3), .val (.int (Int32.ofNat N)), .val (.int (Int32.ofNat a)), .val (.int (Int32.ofNat d)), .val (.int (Int32.ofNat b)), .val (.int ((Int32.ofNat a) + (1 : Int32))), .val (.int ((Int32.ofNat b) + (1 : Int32))), .unset, .unset, .unset, .unset, .unset, .unset, .unset, .unset, .unset] [(.int (1 : Int32))])) _
    refine own_go (fun t k => XS.istore X0.here hx rfl (hb hby at_63) rfl (l' := #[.val (.int p0), .val (.int p1), .val (.int p2), .val (.int p3), .val (.int (Int32.ofNat N)), .val (.int (Int32.ofNat a)), .val (.int (Int32.ofNat d)), .val (.int (Int32.ofNat b)), .val (.int ((Int32.ofNat a) + (1 : Int32))), .val (.int ((Int32.ofNat b) + (1 : Int32))), .val (.int (1 : Int32)), .unset, .unset, .unset, .unset, .unset, .unset, .unset, .unset]) rfl k) ?_
    refine own_go (fun t k => XS.iloadN X0.here hx rfl (hb hby at_65) rfl k) ?_
    refine own_go (fun t k => XS.iconst X0.here hx rfl (hb hby at_66) k) ?_
    refine own_go (fun t k => XS.iand X0.here hx rfl (hb hby at_67) rfl k) ?_
    show own_G p e below (s₁.setTop (mkF m 68 #[.val (.int p0), .val (.int p1), .val (.int p2), .val (.int p3), .val (.int (Int32.ofNat N)), .val (.int (Int32.ofNat a)), .val (.int (Int32.ofNat d)), .val (.int (Int32.ofNat b)), .val (.int ((Int32.ofNat a) + (1 : Int32))), .val (.int ((Int32.ofNat b) + (1 : Int32))), .val (.int (1 : Int32)), .unset, .unset, .unset, .unset, .unset, .unset, .unset, .unset] [(.int (p3 &&& (2 : Int32)))])) _
    by_cases hc216z : (p3 &&& (2 : Int32)) = (0 : Int32)
    · refine own_go (fun t k => XS.ifYes X0.here hx rfl (pc0 := 68) (pc' := 75) rfl (hb hby at_68) rfl ((if0 _ _).trans (teq hc216z).1) (by decide) (by decide) k) ?_
      show own_G p e below (s₁.setTop (mkF m 75 #[.val (.int p0), .val (.int p1), .val (.int p2), .val (.int p3), .val (.int (Int32.ofNat N)), .val (.int (Int32.ofNat a)), .val (.int (Int32.ofNat d)), .val (.int (Int32.ofNat b)), .val (.int ((Int32.ofNat a) + (1 : Int32))), .val (.int ((Int32.ofNat b) + (1 : Int32))), .val (.int (1 : Int32)), .unset, .unset, .unset, .unset, .unset, .unset, .unset, .unset] [])) _
      refine own_go (fun t k => XS.iconst X0.here hx rfl (hb hby at_75) k) ?_
      refine own_go (fun t k => XS.istore X0.here hx rfl (hb hby at_76) rfl (l' := #[.val (.int p0), .val (.int p1), .val (.int p2), .val (.int p3), .val (.int (Int32.ofNat N)), .val (.int (Int32.ofNat a)), .val (.int (Int32.ofNat d)), .val (.int (Int32.ofNat b)), .val (.int ((Int32.ofNat a) + (1 : Int32))), .val (.int ((Int32.ofNat b) + (1 : Int32))), .val (.int (1 : Int32)), .val (.int (0 : Int32)), .unset, .unset, .unset, .unset, .unset, .unset, .unset]) rfl k) ?_
      refine own_go (fun t k => XS.iload X0.here hx rfl (hb hby at_78) rfl k) ?_
      refine own_go (fun t k => XS.ifYes X0.here hx rfl (pc0 := 80) (pc' := 93) rfl (hb hby at_80) rfl ((if0 _ _).trans (teq (by decide : (0 : Int32) = (0 : Int32))).1) (by decide) (by decide) k) ?_
      show own_G p e below (s₁.setTop (mkF m 93 #[.val (.int p0), .val (.int p1), .val (.int p2), .val (.int p3), .val (.int (Int32.ofNat N)), .val (.int (Int32.ofNat a)), .val (.int (Int32.ofNat d)), .val (.int (Int32.ofNat b)), .val (.int ((Int32.ofNat a) + (1 : Int32))), .val (.int ((Int32.ofNat b) + (1 : Int32))), .val (.int (1 : Int32)), .val (.int (0 : Int32)), .unset, .unset, .unset, .unset, .unset, .unset, .unset] [])) _
      refine own_go (fun t k => XS.iconst X0.here hx rfl (hb hby at_93) k) ?_
      refine own_go (fun t k => XS.istore X0.here hx rfl (hb hby at_94) rfl (l' := #[.val (.int p0), .val (.int p1), .val (.int p2), .val (.int p3), .val (.int (Int32.ofNat N)), .val (.int (Int32.ofNat a)), .val (.int (Int32.ofNat d)), .val (.int (Int32.ofNat b)), .val (.int ((Int32.ofNat a) + (1 : Int32))), .val (.int ((Int32.ofNat b) + (1 : Int32))), .val (.int (1 : Int32)), .val (.int (0 : Int32)), .val (.int (0 : Int32)), .unset, .unset, .unset, .unset, .unset, .unset]) rfl k) ?_
      refine own_go (fun t k => XS.iload X0.here hx rfl (hb hby at_96) rfl k) ?_
      refine own_go (fun t k => XS.ifYes X0.here hx rfl (pc0 := 98) (pc' := 112) rfl (hb hby at_98) rfl ((if0 _ _).trans (feq (by decide : ¬ ((1 : Int32) = (0 : Int32)))).2) (by decide) (by decide) k) ?_
      show own_G p e below (s₁.setTop (mkF m 112 #[.val (.int p0), .val (.int p1), .val (.int p2), .val (.int p3), .val (.int (Int32.ofNat N)), .val (.int (Int32.ofNat a)), .val (.int (Int32.ofNat d)), .val (.int (Int32.ofNat b)), .val (.int ((Int32.ofNat a) + (1 : Int32))), .val (.int ((Int32.ofNat b) + (1 : Int32))), .val (.int (1 : Int32)), .val (.int (0 : Int32)), .val (.int (0 : Int32)), .unset, .unset, .unset, .unset, .unset, .unset] [])) _
      refine own_go (fun t k => XS.iconst X0.here hx rfl (hb hby at_112) k) ?_
      refine own_go (fun t k => XS.istore X0.here hx rfl (hb hby at_113) rfl (l' := #[.val (.int p0), .val (.int p1), .val (.int p2), .val (.int p3), .val (.int (Int32.ofNat N)), .val (.int (Int32.ofNat a)), .val (.int (Int32.ofNat d)), .val (.int (Int32.ofNat b)), .val (.int ((Int32.ofNat a) + (1 : Int32))), .val (.int ((Int32.ofNat b) + (1 : Int32))), .val (.int (1 : Int32)), .val (.int (0 : Int32)), .val (.int (0 : Int32)), .val (.int (0 : Int32)), .unset, .unset, .unset, .unset, .unset]) rfl k) ?_
      refine own_go (fun t k => XS.iload X0.here hx rfl (hb hby at_115) rfl k) ?_
      refine own_go (fun t k => XS.ifNo X0.here hx rfl (hb hby at_117) rfl ((if0 _ _).trans (teq (by decide : (0 : Int32) = (0 : Int32))).2) k) ?_
      show own_G p e below (s₁.setTop (mkF m 120 #[.val (.int p0), .val (.int p1), .val (.int p2), .val (.int p3), .val (.int (Int32.ofNat N)), .val (.int (Int32.ofNat a)), .val (.int (Int32.ofNat d)), .val (.int (Int32.ofNat b)), .val (.int ((Int32.ofNat a) + (1 : Int32))), .val (.int ((Int32.ofNat b) + (1 : Int32))), .val (.int (1 : Int32)), .val (.int (0 : Int32)), .val (.int (0 : Int32)), .val (.int (0 : Int32)), .unset, .unset, .unset, .unset, .unset] [])) _
      refine own_go (fun t k => XS.iloadN X0.here hx rfl (hb hby at_120) rfl k) ?_
      refine own_go (fun t k => XS.bipush X0.here hx rfl (hb hby at_121) k) ?_
      refine own_go (fun t k => XS.iand X0.here hx rfl (hb hby at_123) rfl k) ?_
      by_cases hc217z : (p3 &&& (16 : Int32)) = (0 : Int32)
      · refine own_go (fun t k => XS.ifYes X0.here hx rfl (pc0 := 124) (pc' := 131) rfl (hb hby at_124) rfl ((if0 _ _).trans (teq hc217z).1) (by decide) (by decide) k) ?_
        show own_G p e below (s₁.setTop (mkF m 131 #[.val (.int p0), .val (.int p1), .val (.int p2), .val (.int p3), .val (.int (Int32.ofNat N)), .val (.int (Int32.ofNat a)), .val (.int (Int32.ofNat d)), .val (.int (Int32.ofNat b)), .val (.int ((Int32.ofNat a) + (1 : Int32))), .val (.int ((Int32.ofNat b) + (1 : Int32))), .val (.int (1 : Int32)), .val (.int (0 : Int32)), .val (.int (0 : Int32)), .val (.int (0 : Int32)), .unset, .unset, .unset, .unset, .unset] [])) _
        refine own_go (fun t k => XS.iconst X0.here hx rfl (hb hby at_131) k) ?_
        refine own_go (fun t k => XS.istore X0.here hx rfl (hb hby at_132) rfl (l' := #[.val (.int p0), .val (.int p1), .val (.int p2), .val (.int p3), .val (.int (Int32.ofNat N)), .val (.int (Int32.ofNat a)), .val (.int (Int32.ofNat d)), .val (.int (Int32.ofNat b)), .val (.int ((Int32.ofNat a) + (1 : Int32))), .val (.int ((Int32.ofNat b) + (1 : Int32))), .val (.int (1 : Int32)), .val (.int (0 : Int32)), .val (.int (0 : Int32)), .val (.int (0 : Int32)), .val (.int (0 : Int32)), .unset, .unset, .unset, .unset]) rfl k) ?_
        exact go134 (1 : Int32) (0 : Int32) (0 : Int32) (0 : Int32) (0 : Int32) (by decide) (by decide) (by decide)
      · refine own_go (fun t k => XS.ifNo X0.here hx rfl (hb hby at_124) rfl ((if0 _ _).trans (feq hc217z).1) k) ?_
        show own_G p e below (s₁.setTop (mkF m 127 #[.val (.int p0), .val (.int p1), .val (.int p2), .val (.int p3), .val (.int (Int32.ofNat N)), .val (.int (Int32.ofNat a)), .val (.int (Int32.ofNat d)), .val (.int (Int32.ofNat b)), .val (.int ((Int32.ofNat a) + (1 : Int32))), .val (.int ((Int32.ofNat b) + (1 : Int32))), .val (.int (1 : Int32)), .val (.int (0 : Int32)), .val (.int (0 : Int32)), .val (.int (0 : Int32)), .unset, .unset, .unset, .unset, .unset] [])) _
        refine own_go (fun t k => XS.iconst X0.here hx rfl (hb hby at_127) k) ?_
        refine own_go (fun t k => XS.goto X0.here hx rfl (pc0 := 128) (pc' := 132) rfl (hb hby at_128) (by decide) (by decide) k) ?_
        show own_G p e below (s₁.setTop (mkF m 132 #[.val (.int p0), .val (.int p1), .val (.int p2), .val (.int p3), .val (.int (Int32.ofNat N)), .val (.int (Int32.ofNat a)), .val (.int (Int32.ofNat d)), .val (.int (Int32.ofNat b)), .val (.int ((Int32.ofNat a) + (1 : Int32))), .val (.int ((Int32.ofNat b) + (1 : Int32))), .val (.int (1 : Int32)), .val (.int (0 : Int32)), .val (.int (0 : Int32)), .val (.int (0 : Int32)), .unset, .unset, .unset, .unset, .unset] [(.int (1 : Int32))])) _
        refine own_go (fun t k => XS.istore X0.here hx rfl (hb hby at_132) rfl (l' := #[.val (.int p0), .val (.int p1), .val (.int p2), .val (.int p3), .val (.int (Int32.ofNat N)), .val (.int (Int32.ofNat a)), .val (.int (Int32.ofNat d)), .val (.int (Int32.ofNat b)), .val (.int ((Int32.ofNat a) + (1 : Int32))), .val (.int ((Int32.ofNat b) + (1 : Int32))), .val (.int (1 : Int32)), .val (.int (0 : Int32)), .val (.int (0 : Int32)), .val (.int (0 : Int32)), .val (.int (1 : Int32)), .unset, .unset, .unset, .unset]) rfl k) ?_
        exact go134 (1 : Int32) (0 : Int32) (0 : Int32) (0 : Int32) (1 : Int32) (by decide) (by decide) (by decide)
    · refine own_go (fun t k => XS.ifNo X0.here hx rfl (hb hby at_68) rfl ((if0 _ _).trans (feq hc216z).1) k) ?_
      show own_G p e below (s₁.setTop (mkF m 71 #[.val (.int p0), .val (.int p1), .val (.int p2), .val (.int p3), .val (.int (Int32.ofNat N)), .val (.int (Int32.ofNat a)), .val (.int (Int32.ofNat d)), .val (.int (Int32.ofNat b)), .val (.int ((Int32.ofNat a) + (1 : Int32))), .val (.int ((Int32.ofNat b) + (1 : Int32))), .val (.int (1 : Int32)), .unset, .unset, .unset, .unset, .unset, .unset, .unset, .unset] [])) _
      refine own_go (fun t k => XS.iconst X0.here hx rfl (hb hby at_71) k) ?_
      refine own_go (fun t k => XS.goto X0.here hx rfl (pc0 := 72) (pc' := 76) rfl (hb hby at_72) (by decide) (by decide) k) ?_
      show own_G p e below (s₁.setTop (mkF m 76 #[.val (.int p0), .val (.int p1), .val (.int p2), .val (.int p3), .val (.int (Int32.ofNat N)), .val (.int (Int32.ofNat a)), .val (.int (Int32.ofNat d)), .val (.int (Int32.ofNat b)), .val (.int ((Int32.ofNat a) + (1 : Int32))), .val (.int ((Int32.ofNat b) + (1 : Int32))), .val (.int (1 : Int32)), .unset, .unset, .unset, .unset, .unset, .unset, .unset, .unset] [(.int (1 : Int32))])) _
      refine own_go (fun t k => XS.istore X0.here hx rfl (hb hby at_76) rfl (l' := #[.val (.int p0), .val (.int p1), .val (.int p2), .val (.int p3), .val (.int (Int32.ofNat N)), .val (.int (Int32.ofNat a)), .val (.int (Int32.ofNat d)), .val (.int (Int32.ofNat b)), .val (.int ((Int32.ofNat a) + (1 : Int32))), .val (.int ((Int32.ofNat b) + (1 : Int32))), .val (.int (1 : Int32)), .val (.int (1 : Int32)), .unset, .unset, .unset, .unset, .unset, .unset, .unset]) rfl k) ?_
      refine own_go (fun t k => XS.iload X0.here hx rfl (hb hby at_78) rfl k) ?_
      refine own_go (fun t k => XS.ifNo X0.here hx rfl (hb hby at_80) rfl ((if0 _ _).trans (feq (by decide : ¬ ((1 : Int32) = (0 : Int32)))).1) k) ?_
      show own_G p e below (s₁.setTop (mkF m 83 #[.val (.int p0), .val (.int p1), .val (.int p2), .val (.int p3), .val (.int (Int32.ofNat N)), .val (.int (Int32.ofNat a)), .val (.int (Int32.ofNat d)), .val (.int (Int32.ofNat b)), .val (.int ((Int32.ofNat a) + (1 : Int32))), .val (.int ((Int32.ofNat b) + (1 : Int32))), .val (.int (1 : Int32)), .val (.int (1 : Int32)), .unset, .unset, .unset, .unset, .unset, .unset, .unset] [])) _
      refine own_go (fun t k => XS.iloadN X0.here hx rfl (hb hby at_83) rfl k) ?_
      refine own_go (fun t k => XS.iconst X0.here hx rfl (hb hby at_84) k) ?_
      refine own_go (fun t k => XS.iand X0.here hx rfl (hb hby at_85) rfl k) ?_
      by_cases hc218z : (p3 &&& (4 : Int32)) = (0 : Int32)
      · refine own_go (fun t k => XS.ifYes X0.here hx rfl (pc0 := 86) (pc' := 93) rfl (hb hby at_86) rfl ((if0 _ _).trans (teq hc218z).1) (by decide) (by decide) k) ?_
        show own_G p e below (s₁.setTop (mkF m 93 #[.val (.int p0), .val (.int p1), .val (.int p2), .val (.int p3), .val (.int (Int32.ofNat N)), .val (.int (Int32.ofNat a)), .val (.int (Int32.ofNat d)), .val (.int (Int32.ofNat b)), .val (.int ((Int32.ofNat a) + (1 : Int32))), .val (.int ((Int32.ofNat b) + (1 : Int32))), .val (.int (1 : Int32)), .val (.int (1 : Int32)), .unset, .unset, .unset, .unset, .unset, .unset, .unset] [])) _
        refine own_go (fun t k => XS.iconst X0.here hx rfl (hb hby at_93) k) ?_
        refine own_go (fun t k => XS.istore X0.here hx rfl (hb hby at_94) rfl (l' := #[.val (.int p0), .val (.int p1), .val (.int p2), .val (.int p3), .val (.int (Int32.ofNat N)), .val (.int (Int32.ofNat a)), .val (.int (Int32.ofNat d)), .val (.int (Int32.ofNat b)), .val (.int ((Int32.ofNat a) + (1 : Int32))), .val (.int ((Int32.ofNat b) + (1 : Int32))), .val (.int (1 : Int32)), .val (.int (1 : Int32)), .val (.int (0 : Int32)), .unset, .unset, .unset, .unset, .unset, .unset]) rfl k) ?_
        refine own_go (fun t k => XS.iload X0.here hx rfl (hb hby at_96) rfl k) ?_
        refine own_go (fun t k => XS.ifYes X0.here hx rfl (pc0 := 98) (pc' := 112) rfl (hb hby at_98) rfl ((if0 _ _).trans (feq (by decide : ¬ ((1 : Int32) = (0 : Int32)))).2) (by decide) (by decide) k) ?_
        show own_G p e below (s₁.setTop (mkF m 112 #[.val (.int p0), .val (.int p1), .val (.int p2), .val (.int p3), .val (.int (Int32.ofNat N)), .val (.int (Int32.ofNat a)), .val (.int (Int32.ofNat d)), .val (.int (Int32.ofNat b)), .val (.int ((Int32.ofNat a) + (1 : Int32))), .val (.int ((Int32.ofNat b) + (1 : Int32))), .val (.int (1 : Int32)), .val (.int (1 : Int32)), .val (.int (0 : Int32)), .unset, .unset, .unset, .unset, .unset, .unset] [])) _
        refine own_go (fun t k => XS.iconst X0.here hx rfl (hb hby at_112) k) ?_
        refine own_go (fun t k => XS.istore X0.here hx rfl (hb hby at_113) rfl (l' := #[.val (.int p0), .val (.int p1), .val (.int p2), .val (.int p3), .val (.int (Int32.ofNat N)), .val (.int (Int32.ofNat a)), .val (.int (Int32.ofNat d)), .val (.int (Int32.ofNat b)), .val (.int ((Int32.ofNat a) + (1 : Int32))), .val (.int ((Int32.ofNat b) + (1 : Int32))), .val (.int (1 : Int32)), .val (.int (1 : Int32)), .val (.int (0 : Int32)), .val (.int (0 : Int32)), .unset, .unset, .unset, .unset, .unset]) rfl k) ?_
        refine own_go (fun t k => XS.iload X0.here hx rfl (hb hby at_115) rfl k) ?_
        refine own_go (fun t k => XS.ifYes X0.here hx rfl (pc0 := 117) (pc' := 131) rfl (hb hby at_117) rfl ((if0 _ _).trans (feq (by decide : ¬ ((1 : Int32) = (0 : Int32)))).2) (by decide) (by decide) k) ?_
        show own_G p e below (s₁.setTop (mkF m 131 #[.val (.int p0), .val (.int p1), .val (.int p2), .val (.int p3), .val (.int (Int32.ofNat N)), .val (.int (Int32.ofNat a)), .val (.int (Int32.ofNat d)), .val (.int (Int32.ofNat b)), .val (.int ((Int32.ofNat a) + (1 : Int32))), .val (.int ((Int32.ofNat b) + (1 : Int32))), .val (.int (1 : Int32)), .val (.int (1 : Int32)), .val (.int (0 : Int32)), .val (.int (0 : Int32)), .unset, .unset, .unset, .unset, .unset] [])) _
        refine own_go (fun t k => XS.iconst X0.here hx rfl (hb hby at_131) k) ?_
        refine own_go (fun t k => XS.istore X0.here hx rfl (hb hby at_132) rfl (l' := #[.val (.int p0), .val (.int p1), .val (.int p2), .val (.int p3), .val (.int (Int32.ofNat N)), .val (.int (Int32.ofNat a)), .val (.int (Int32.ofNat d)), .val (.int (Int32.ofNat b)), .val (.int ((Int32.ofNat a) + (1 : Int32))), .val (.int ((Int32.ofNat b) + (1 : Int32))), .val (.int (1 : Int32)), .val (.int (1 : Int32)), .val (.int (0 : Int32)), .val (.int (0 : Int32)), .val (.int (0 : Int32)), .unset, .unset, .unset, .unset]) rfl k) ?_
        exact go134 (1 : Int32) (1 : Int32) (0 : Int32) (0 : Int32) (0 : Int32) (by decide) (by decide) (by decide)
      · refine own_go (fun t k => XS.ifNo X0.here hx rfl (hb hby at_86) rfl ((if0 _ _).trans (feq hc218z).1) k) ?_
        show own_G p e below (s₁.setTop (mkF m 89 #[.val (.int p0), .val (.int p1), .val (.int p2), .val (.int p3), .val (.int (Int32.ofNat N)), .val (.int (Int32.ofNat a)), .val (.int (Int32.ofNat d)), .val (.int (Int32.ofNat b)), .val (.int ((Int32.ofNat a) + (1 : Int32))), .val (.int ((Int32.ofNat b) + (1 : Int32))), .val (.int (1 : Int32)), .val (.int (1 : Int32)), .unset, .unset, .unset, .unset, .unset, .unset, .unset] [])) _
        refine own_go (fun t k => XS.iconst X0.here hx rfl (hb hby at_89) k) ?_
        refine own_go (fun t k => XS.goto X0.here hx rfl (pc0 := 90) (pc' := 94) rfl (hb hby at_90) (by decide) (by decide) k) ?_
        show own_G p e below (s₁.setTop (mkF m 94 #[.val (.int p0), .val (.int p1), .val (.int p2), .val (.int p3), .val (.int (Int32.ofNat N)), .val (.int (Int32.ofNat a)), .val (.int (Int32.ofNat d)), .val (.int (Int32.ofNat b)), .val (.int ((Int32.ofNat a) + (1 : Int32))), .val (.int ((Int32.ofNat b) + (1 : Int32))), .val (.int (1 : Int32)), .val (.int (1 : Int32)), .unset, .unset, .unset, .unset, .unset, .unset, .unset] [(.int (1 : Int32))])) _
        refine own_go (fun t k => XS.istore X0.here hx rfl (hb hby at_94) rfl (l' := #[.val (.int p0), .val (.int p1), .val (.int p2), .val (.int p3), .val (.int (Int32.ofNat N)), .val (.int (Int32.ofNat a)), .val (.int (Int32.ofNat d)), .val (.int (Int32.ofNat b)), .val (.int ((Int32.ofNat a) + (1 : Int32))), .val (.int ((Int32.ofNat b) + (1 : Int32))), .val (.int (1 : Int32)), .val (.int (1 : Int32)), .val (.int (1 : Int32)), .unset, .unset, .unset, .unset, .unset, .unset]) rfl k) ?_
        refine own_go (fun t k => XS.iload X0.here hx rfl (hb hby at_96) rfl k) ?_
        refine own_go (fun t k => XS.ifYes X0.here hx rfl (pc0 := 98) (pc' := 112) rfl (hb hby at_98) rfl ((if0 _ _).trans (feq (by decide : ¬ ((1 : Int32) = (0 : Int32)))).2) (by decide) (by decide) k) ?_
        show own_G p e below (s₁.setTop (mkF m 112 #[.val (.int p0), .val (.int p1), .val (.int p2), .val (.int p3), .val (.int (Int32.ofNat N)), .val (.int (Int32.ofNat a)), .val (.int (Int32.ofNat d)), .val (.int (Int32.ofNat b)), .val (.int ((Int32.ofNat a) + (1 : Int32))), .val (.int ((Int32.ofNat b) + (1 : Int32))), .val (.int (1 : Int32)), .val (.int (1 : Int32)), .val (.int (1 : Int32)), .unset, .unset, .unset, .unset, .unset, .unset] [])) _
        refine own_go (fun t k => XS.iconst X0.here hx rfl (hb hby at_112) k) ?_
        refine own_go (fun t k => XS.istore X0.here hx rfl (hb hby at_113) rfl (l' := #[.val (.int p0), .val (.int p1), .val (.int p2), .val (.int p3), .val (.int (Int32.ofNat N)), .val (.int (Int32.ofNat a)), .val (.int (Int32.ofNat d)), .val (.int (Int32.ofNat b)), .val (.int ((Int32.ofNat a) + (1 : Int32))), .val (.int ((Int32.ofNat b) + (1 : Int32))), .val (.int (1 : Int32)), .val (.int (1 : Int32)), .val (.int (1 : Int32)), .val (.int (0 : Int32)), .unset, .unset, .unset, .unset, .unset]) rfl k) ?_
        refine own_go (fun t k => XS.iload X0.here hx rfl (hb hby at_115) rfl k) ?_
        refine own_go (fun t k => XS.ifYes X0.here hx rfl (pc0 := 117) (pc' := 131) rfl (hb hby at_117) rfl ((if0 _ _).trans (feq (by decide : ¬ ((1 : Int32) = (0 : Int32)))).2) (by decide) (by decide) k) ?_
        show own_G p e below (s₁.setTop (mkF m 131 #[.val (.int p0), .val (.int p1), .val (.int p2), .val (.int p3), .val (.int (Int32.ofNat N)), .val (.int (Int32.ofNat a)), .val (.int (Int32.ofNat d)), .val (.int (Int32.ofNat b)), .val (.int ((Int32.ofNat a) + (1 : Int32))), .val (.int ((Int32.ofNat b) + (1 : Int32))), .val (.int (1 : Int32)), .val (.int (1 : Int32)), .val (.int (1 : Int32)), .val (.int (0 : Int32)), .unset, .unset, .unset, .unset, .unset] [])) _
        refine own_go (fun t k => XS.iconst X0.here hx rfl (hb hby at_131) k) ?_
        refine own_go (fun t k => XS.istore X0.here hx rfl (hb hby at_132) rfl (l' := #[.val (.int p0), .val (.int p1), .val (.int p2), .val (.int p3), .val (.int (Int32.ofNat N)), .val (.int (Int32.ofNat a)), .val (.int (Int32.ofNat d)), .val (.int (Int32.ofNat b)), .val (.int ((Int32.ofNat a) + (1 : Int32))), .val (.int ((Int32.ofNat b) + (1 : Int32))), .val (.int (1 : Int32)), .val (.int (1 : Int32)), .val (.int (1 : Int32)), .val (.int (0 : Int32)), .val (.int (0 : Int32)), .unset, .unset, .unset, .unset]) rfl k) ?_
        exact go134 (1 : Int32) (1 : Int32) (1 : Int32) (0 : Int32) (0 : Int32) (by decide) (by decide) (by decide)
set_option maxRecDepth 65536 in
set_option maxHeartbeats 40000000 in
theorem comes_1 {Post : Tables → Env → Array Value → State → Outcome → State → Prop} (hpost : ∀ tb e args s v u, (limb_1_1.after args s (.returned v) u = true ∧ limb_1_2.after args s (.returned v) u = true ∧ True) → FrameEnd s (.returned v) u (Jvm.fieldLocs frame_1_writes args s ++ Jvm.arrayLocs frame_1_arrays args s ++ Jvm.staticLocs frame_1_statics s) 296 2240 → Post tb e args s (.returned v) u) :
    ArmFor flags0 classFile x code maxLocals ret World_1 tables_1 room_1 Calls_1 rest_1 Pre_1 Post := by
  intro l hfl _ _ p e ha hc hk s m args below hf hA hF happ hP
  obtain ⟨hcalls, hrest, hpre⟩ := hP
  obtain ⟨-, -, -, hnamed, -, -, -, hat⟩ := (Spec.applies_iff hf).mp happ
  obtain ⟨hg, hn⟩ := and_e (Cond.before_iff.mp (show (Jvm.Cond.and given_1 narrow_1).before args s = true from hpre))
  obtain ⟨hg0, hg1⟩ := and_e hg
  obtain ⟨hy0, hz0⟩ := and_e hg1
  obtain ⟨hy1, hz1⟩ := and_e hz0
  obtain ⟨hy2, hz2⟩ := and_e hz1
  obtain ⟨w0, w1, w2, w3, rfl⟩ : ∃ w0 w1 w2 w3 : Value, args = #[w0, w1, w2, w3] := by
    have hs : args.size = 4 := by simpa [Cond.value, given_1] using hg0
    obtain ⟨L⟩ := args
    match L, hs with
    | [w0, w1, w2, w3], _ => exact ⟨w0, w1, w2, w3, rfl⟩
  have hw := fun d (hd : d ∈ tables_1) => atoms_spec (ws := Jvm.Cond.code x code maxLocals ret :: tables_1) hat d (List.mem_cons_of_mem _ hd)
  have hfit : Fit s := fun {y c} hc i hi => by
    obtain ⟨ha, rfl⟩ := Array.getElem?_eq_some_iff.mp hc
    have q := List.all_eq_true.mp ((Array.all_eq_true_iff_forall_mem.mp hF) _ (Array.getElem_mem ha)) i (List.mem_range.mpr hi)
    simpa [Array.getElem?_eq_getElem hi] using q
  obtain ⟨i0, ea0⟩ := is_v hy0
  obtain rfl : w0 = (.int i0) := Option.some.inj ea0
  obtain ⟨i1, ea1⟩ := is_v hy1
  obtain rfl : w1 = (.int i1) := Option.some.inj ea1
  obtain ⟨i2, ea2⟩ := is_v hy2
  obtain rfl : w2 = (.int i2) := Option.some.inj ea2
  obtain ⟨i3, ea3⟩ := is_v hz2
  obtain rfl : w3 = (.int i3) := Option.some.inj ea3
  obtain ⟨n, o, h1, h2, h3, _, L, rfl, hQ, hq⟩ := own_law l s _ hw tables_1 i0 i1 i2 i3 s.heap (own_ext_refl _) p e ha hc hk s m _ below hf ((Spec.applies_iff_loose hf).mp happ).1 ⟨rfl, State.Warmed39.refl s, rfl⟩ trivial
  obtain ⟨rfl, N, -⟩ := hQ
  exact ⟨n, _, h1, h2, h3, hpost _ _ _ _ _ _ ⟨Cond.after_iff.mpr rfl, Cond.after_iff.mpr (eq_i res_at (Term.int_eval (1)) rfl), trivial⟩ ⟨hq.1, hq.2.1, (hq.2.2.sift fun y hy => Or.inr (N y hy)).mono (by decide) (by decide)⟩⟩
theorem main_1_1 : Claimed_1_1 := comes_1 fun _ _ _ _ _ _ h hF => ⟨h.1, hF⟩
theorem main_1_2 : Claimed_1_2 := comes_1 fun _ _ _ _ _ _ h hF => ⟨h.2.1, hF⟩
end Jvm.Pilot.@@N@@
namespace Jvm.Pilot.@@N@@
open Jvm Jvm.ClassFile Sem Op Lib Jvm.Free Jvm.Stand Jvm.Pilot.@@N@@.Jvm.D
/-! MADE BY PROGRAM (witnessworld.py) out of the Statement's table words and the real class files: 19 classes; the members and pool entries that the words name. The judged class is class 1, her method 1. -/
namespace start1
open Jvm.ClassFile
def u (s : String) : CpInfo := .utf8 (stringToUtf16 s)
/-- a pool by its gaps: so many unusable entries, then the entry; so many at the end -/
def gap : Nat → List CpInfo → List CpInfo
  | 0, r => r
  | n + 1, r => .unusable :: gap n r
def poolList (es : List (Nat × CpInfo)) (last : Nat) : List CpInfo := es.foldr (fun e r => gap e.1 (e.2 :: r)) (gap last [])
def pool (es : List (Nat × CpInfo)) (last : Nat) : Array CpInfo := ⟨poolList es last⟩
def fileOf (pool : Array CpInfo) (this : Nat) (attrs : Array Attribute := #[]) (ms : Array MethodInfo := #[]) (fl : Nat := 33) (sup : Nat := 0) (ifs : Array Nat := #[]) (fds : Array FieldInfo := #[]) : ClassFile where
  minorVersion := 0
  majorVersion := 65
  constantPool := pool
  accessFlags := fl
  thisClass := this
  superClass := sup
  interfaces := ifs
  fields := fds
  methods := ms
  attributes := attrs
def plain (name : String) (sup : Option ClassId) : Class where
  name := name
  kind := .ordinary
  loader := none
  accessFlags := 33
  super := sup
  interfaces := #[]
  cf := none
  fields := #[]
  methods := #[]
  instanceTypes := #[]
  staticTypes := #[]
  resolved := #[]
  callSites := []
  init := .initialized
  statics := none
  mirror := none

def pool0 : Array CpInfo := pool [(5, u "<init>"), (0, u "()V"), (1, .class_ 10), (1, u "java/lang/Object"), (85, u "clone"), (0, u "()Ljava/lang/Object;")] 26

def k0c0 : Code := { maxStack := 0, maxLocals := 1, code := object_method_1_code, exceptionTable := #[], attributes := #[] }
def k0m0 : Method := { name := "<init>", desc := "()V", sig := { parameters := [], returnType := none }, accessFlags := 1, code := some k0c0 }
def k0m1 : Method := { name := "clone", desc := "()Ljava/lang/Object;", sig := { parameters := [], returnType := some (.object "java/lang/Object") }, accessFlags := 260, code := none }
/-- java/lang/Object -/
def k0 : Class := { plain "java/lang/Object" none with
  accessFlags := 33
  interfaces := #[]
  cf := some (fileOf pool0 8 #[] #[{ accessFlags := 1, nameIndex := 5, descriptorIndex := 6, attributes := #[] }, { accessFlags := 260, nameIndex := 96, descriptorIndex := 97, attributes := #[] }] 33 0 #[] #[])
  fields := #[]
  methods := #[k0m0, k0m1]
  instanceTypes := #[]
  staticTypes := #[]
  resolved := Array.replicate 124 none
  statics := none }

def pool1 : Array CpInfo := pool [(2, .class_ 4), (1, u "java/lang/Object"), (0, u "<init>"), (0, u "()V"), (0, .integer 2147483647), (0, .class_ 9), (0, u "com/example/greylag/greylag/sim/RequestOrder"), (0, .methodref 8 11), (0, .nameAndType 5 12), (0, u "(I)V"), (0, .methodref 8 14), (0, .nameAndType 15 12), (0, u "requested"), (0, .methodref 8 17), (0, .nameAndType 18 19), (0, u "sent"), (0, u "(I)Lcom/example/greylag/greylag/sim/RequestOrder$Knowledge;"), (0, .methodref 8 21), (0, .nameAndType 22 23), (0, u "received"), (0, u "(ILcom/example/greylag/greylag/sim/RequestOrder$Knowledge;)V"), (0, .methodref 8 25), (0, .nameAndType 26 27), (0, u "entered"), (0, u "(I)I"), (0, .class_ 29), (0, u "com/example/greylag/greylag/sim/RequestOrderRequestedPinLaw"), (2, u "law"), (0, u "(IIII)Z")] 7

def k1m0 : Method := { name := "<init>", desc := "()V", sig := { parameters := [], returnType := none }, accessFlags := 1, code := none }
def k1c1 : Code := { maxStack := 4, maxLocals := 19, code := code, exceptionTable := #[], attributes := #[] }
def k1m1 : Method := { name := "law", desc := "(IIII)Z", sig := { parameters := [.int, .int, .int, .int], returnType := some .boolean }, accessFlags := 9, code := some k1c1 }
/-- com/example/greylag/greylag/sim/RequestOrderRequestedPinLaw -/
def k1 : Class := { plain "com/example/greylag/greylag/sim/RequestOrderRequestedPinLaw" (some 0) with
  accessFlags := 49
  interfaces := #[]
  cf := some (fileOf pool1 28 #[] #[{ accessFlags := 1, nameIndex := 5, descriptorIndex := 6, attributes := #[] }, { accessFlags := 9, nameIndex := 32, descriptorIndex := 33, attributes := #[] }] 49 2 #[] #[])
  fields := #[]
  methods := #[k1m0, k1m1]
  instanceTypes := #[]
  staticTypes := #[]
  resolved := Array.replicate 41 none
  statics := none }

def pool2 : Array CpInfo := pool [(1, .methodref 2 3), (0, .class_ 4), (0, .nameAndType 5 6), (0, u "java/lang/Object"), (0, u "<init>"), (0, u "()V"), (0, .fieldref 8 9), (0, .class_ 10), (0, .nameAndType 11 12), (0, u "com/example/greylag/greylag/sim/RequestOrder"), (0, u "size"), (0, u "I"), (0, .class_ 14), (0, u "java/lang/Long"), (0, .class_ 16), (0, u "[[J"), (0, .fieldref 8 18), (0, .nameAndType 19 16), (0, u "follows"), (0, .class_ 21), (0, u "com/example/greylag/greylag/sim/RequestOrder$Knowledge"), (0, .fieldref 8 23), (0, .nameAndType 24 25), (0, u "lastSent"), (0, u "[Lcom/example/greylag/greylag/sim/RequestOrder$Knowledge;"), (0, .class_ 27), (0, u "[J"), (0, .fieldref 8 29), (0, .nameAndType 30 16), (0, u "precedents"), (0, .fieldref 8 32), (0, .nameAndType 33 27), (0, u "waiting"), (0, .fieldref 8 35), (0, .nameAndType 36 27), (0, u "requestedAt"), (0, .fieldref 8 38), (0, .nameAndType 39 27), (0, u "enteredAt"), (0, .fieldref 8 41), (0, .nameAndType 42 43), (0, u "stamp"), (0, u "J"), (0, .methodref 8 45), (0, .nameAndType 46 47), (0, u "has"), (0, u "([JI)Z"), (0, .methodref 8 49), (0, .nameAndType 50 51), (0, u "writable"), (0, u "(I)[J"), (0, .methodref 8 53), (0, .nameAndType 54 55), (0, u "word"), (0, u "(I)I"), (0, .methodref 8 57), (0, .nameAndType 58 59), (0, u "bit"), (0, u "(I)J"), (0, .long 18446744073709551615), (1, .fieldref 20 63), (0, .nameAndType 19 27), (0, .methodref 20 65), (0, .nameAndType 5 66), (0, u "([JJ)V"), (0, .methodref 13 68), (0, .nameAndType 69 70), (0, u "numberOfTrailingZeros"), (0, u "(J)I"), (0, .fieldref 20 41), (0, .methodref 26 73), (0, .nameAndType 74 75), (0, u "clone"), (0, u "()Ljava/lang/Object;"), (0, u "(I)V"), (2, u "requested"), (1, u "sent"), (0, u "(I)Lcom/example/greylag/greylag/sim/RequestOrder$Knowledge;"), (0, u "received"), (0, u "(ILcom/example/greylag/greylag/sim/RequestOrder$Knowledge;)V"), (0, u "entered")] 5

def k2c0 : Code := { maxStack := 3, maxLocals := 3, code := prog_67_method_1_code, exceptionTable := #[], attributes := #[] }
def k2m0 : Method := { name := "<init>", desc := "(I)V", sig := { parameters := [.int], returnType := none }, accessFlags := 0, code := some k2c0 }
def k2c1 : Code := { maxStack := 8, maxLocals := 6, code := prog_67_method_2_code, exceptionTable := #[], attributes := #[] }
def k2m1 : Method := { name := "requested", desc := "(I)V", sig := { parameters := [.int], returnType := none }, accessFlags := 0, code := some k2c1 }
def k2c2 : Code := { maxStack := 5, maxLocals := 5, code := prog_67_method_3_code, exceptionTable := #[], attributes := #[] }
def k2m2 : Method := { name := "sent", desc := "(I)Lcom/example/greylag/greylag/sim/RequestOrder$Knowledge;", sig := { parameters := [.int], returnType := some (.object "com/example/greylag/greylag/sim/RequestOrder$Knowledge") }, accessFlags := 0, code := some k2c2 }
def k2c3 : Code := { maxStack := 6, maxLocals := 8, code := prog_67_method_4_code, exceptionTable := #[], attributes := #[] }
def k2m3 : Method := { name := "received", desc := "(ILcom/example/greylag/greylag/sim/RequestOrder$Knowledge;)V", sig := { parameters := [.int, (.object "com/example/greylag/greylag/sim/RequestOrder$Knowledge")], returnType := none }, accessFlags := 0, code := some k2c3 }
def k2c4 : Code := { maxStack := 8, maxLocals := 9, code := prog_67_method_5_code, exceptionTable := #[], attributes := #[] }
def k2m4 : Method := { name := "entered", desc := "(I)I", sig := { parameters := [.int], returnType := some .int }, accessFlags := 0, code := some k2c4 }
def k2c5 : Code := { maxStack := 4, maxLocals := 3, code := prog_67_method_6_code, exceptionTable := #[], attributes := #[] }
def k2m5 : Method := { name := "writable", desc := "(I)[J", sig := { parameters := [.int], returnType := some (.array .long) }, accessFlags := 2, code := some k2c5 }
def k2c6 : Code := { maxStack := 4, maxLocals := 2, code := prog_67_method_7_code, exceptionTable := #[], attributes := #[] }
def k2m6 : Method := { name := "has", desc := "([JI)Z", sig := { parameters := [(.array .long), .int], returnType := some .boolean }, accessFlags := 10, code := some k2c6 }
def k2c7 : Code := { maxStack := 2, maxLocals := 1, code := prog_67_method_8_code, exceptionTable := #[], attributes := #[] }
def k2m7 : Method := { name := "word", desc := "(I)I", sig := { parameters := [.int], returnType := some .int }, accessFlags := 10, code := some k2c7 }
def k2c8 : Code := { maxStack := 3, maxLocals := 1, code := prog_67_method_9_code, exceptionTable := #[], attributes := #[] }
def k2m8 : Method := { name := "bit", desc := "(I)J", sig := { parameters := [.int], returnType := some .long }, accessFlags := 10, code := some k2c8 }
/-- com/example/greylag/greylag/sim/RequestOrder -/
def k2 : Class := { plain "com/example/greylag/greylag/sim/RequestOrder" (some 0) with
  accessFlags := 48
  interfaces := #[]
  cf := some (fileOf pool2 8 #[.nestMembers #[20]] #[{ accessFlags := 0, nameIndex := 5, descriptorIndex := 76, attributes := #[] }, { accessFlags := 0, nameIndex := 79, descriptorIndex := 76, attributes := #[] }, { accessFlags := 0, nameIndex := 81, descriptorIndex := 82, attributes := #[] }, { accessFlags := 0, nameIndex := 83, descriptorIndex := 84, attributes := #[] }, { accessFlags := 0, nameIndex := 85, descriptorIndex := 55, attributes := #[] }, { accessFlags := 2, nameIndex := 50, descriptorIndex := 51, attributes := #[] }, { accessFlags := 10, nameIndex := 46, descriptorIndex := 47, attributes := #[] }, { accessFlags := 10, nameIndex := 54, descriptorIndex := 55, attributes := #[] }, { accessFlags := 10, nameIndex := 58, descriptorIndex := 59, attributes := #[] }] 48 2 #[] #[{ accessFlags := 18, nameIndex := 11, descriptorIndex := 12, attributes := #[] }, { accessFlags := 18, nameIndex := 19, descriptorIndex := 16, attributes := #[] }, { accessFlags := 18, nameIndex := 24, descriptorIndex := 25, attributes := #[] }, { accessFlags := 18, nameIndex := 30, descriptorIndex := 16, attributes := #[] }, { accessFlags := 18, nameIndex := 33, descriptorIndex := 27, attributes := #[] }, { accessFlags := 18, nameIndex := 36, descriptorIndex := 27, attributes := #[] }, { accessFlags := 18, nameIndex := 39, descriptorIndex := 27, attributes := #[] }, { accessFlags := 2, nameIndex := 42, descriptorIndex := 43, attributes := #[] }])
  fields := #[{ name := "size", type := .int, accessFlags := 18, slot := 0, constantValue := 0 }, { name := "follows", type := (.array (.array .long)), accessFlags := 18, slot := 1, constantValue := 0 }, { name := "lastSent", type := (.array (.object "com/example/greylag/greylag/sim/RequestOrder$Knowledge")), accessFlags := 18, slot := 2, constantValue := 0 }, { name := "precedents", type := (.array (.array .long)), accessFlags := 18, slot := 3, constantValue := 0 }, { name := "waiting", type := (.array .long), accessFlags := 18, slot := 4, constantValue := 0 }, { name := "requestedAt", type := (.array .long), accessFlags := 18, slot := 5, constantValue := 0 }, { name := "enteredAt", type := (.array .long), accessFlags := 18, slot := 6, constantValue := 0 }, { name := "stamp", type := .long, accessFlags := 2, slot := 7, constantValue := 0 }]
  methods := #[k2m0, k2m1, k2m2, k2m3, k2m4, k2m5, k2m6, k2m7, k2m8]
  instanceTypes := #[.int, (.array (.array .long)), (.array (.object "com/example/greylag/greylag/sim/RequestOrder$Knowledge")), (.array (.array .long)), (.array .long), (.array .long), (.array .long), .long]
  staticTypes := #[]
  resolved := (((((Array.replicate 91 none).setIfInBounds 20 (some (.cls 3))).setIfInBounds 62 (some (.field 3 0))).setIfInBounds 64 (some (.method ⟨3, 0⟩))).setIfInBounds 71 (some (.field 3 1)))
  statics := none }

def pool3 : Array CpInfo := pool [(1, .methodref 2 3), (0, .class_ 4), (0, .nameAndType 5 6), (0, u "java/lang/Object"), (0, u "<init>"), (0, u "()V"), (0, .fieldref 8 9), (0, .class_ 10), (0, .nameAndType 11 12), (0, u "com/example/greylag/greylag/sim/RequestOrder$Knowledge"), (0, u "follows"), (0, u "[J"), (0, .fieldref 8 14), (0, .nameAndType 15 16), (0, u "stamp"), (0, u "J"), (0, u "([JJ)V"), (5, .class_ 24), (0, u "com/example/greylag/greylag/sim/RequestOrder")] 2

def k3c0 : Code := { maxStack := 3, maxLocals := 4, code := prog_68_method_1_code, exceptionTable := #[], attributes := #[] }
def k3m0 : Method := { name := "<init>", desc := "([JJ)V", sig := { parameters := [(.array .long), .long], returnType := none }, accessFlags := 2, code := some k3c0 }
/-- com/example/greylag/greylag/sim/RequestOrder$Knowledge -/
def k3 : Class := { plain "com/example/greylag/greylag/sim/RequestOrder$Knowledge" (some 0) with
  accessFlags := 48
  interfaces := #[]
  cf := some (fileOf pool3 8 #[.nestHost 23] #[{ accessFlags := 2, nameIndex := 5, descriptorIndex := 17, attributes := #[] }] 48 2 #[] #[{ accessFlags := 18, nameIndex := 11, descriptorIndex := 12, attributes := #[] }, { accessFlags := 18, nameIndex := 15, descriptorIndex := 16, attributes := #[] }])
  fields := #[{ name := "follows", type := (.array .long), accessFlags := 18, slot := 0, constantValue := 0 }, { name := "stamp", type := .long, accessFlags := 18, slot := 1, constantValue := 0 }]
  methods := #[k3m0]
  instanceTypes := #[(.array .long), .long]
  staticTypes := #[]
  resolved := Array.replicate 27 none
  statics := none }

def pool4 : Array CpInfo := pool [(1, .class_ 2), (0, u "java/io/Serializable"), (0, .class_ 4), (0, u "java/lang/Object")] 2

/-- java/io/Serializable -/
def k4 : Class := { plain "java/io/Serializable" (some 0) with
  accessFlags := 1537
  interfaces := #[]
  cf := some (fileOf pool4 1 #[] #[] 1537 3 #[] #[])
  fields := #[]
  methods := #[]
  instanceTypes := #[]
  staticTypes := #[]
  resolved := Array.replicate 7 none
  statics := none }

def pool5 : Array CpInfo := pool [(2, .class_ 4), (1, u "java/lang/Object"), (0, u "<init>"), (0, u "()V"), (1, .class_ 10), (1, u "java/lang/Number"), (2, .class_ 14), (0, u "java/io/Serializable"), (0, u "serialVersionUID"), (0, u "J")] 20

def k5m0 : Method := { name := "<init>", desc := "()V", sig := { parameters := [], returnType := none }, accessFlags := 1, code := none }
/-- java/lang/Number -/
def k5 : Class := { plain "java/lang/Number" (some 0) with
  accessFlags := 1057
  interfaces := #[4]
  cf := some (fileOf pool5 8 #[] #[{ accessFlags := 1, nameIndex := 5, descriptorIndex := 6, attributes := #[] }] 1057 2 #[13] #[{ accessFlags := 26, nameIndex := 15, descriptorIndex := 16, attributes := #[] }])
  fields := #[{ name := "serialVersionUID", type := .long, accessFlags := 26, slot := 0, constantValue := 0 }]
  methods := #[k5m0]
  instanceTypes := #[]
  staticTypes := #[.long]
  resolved := Array.replicate 37 none
  statics := none }

def pool6 : Array CpInfo := pool [(1, .class_ 2), (0, u "java/lang/Comparable"), (0, .class_ 4), (0, u "java/lang/Object")] 7

/-- java/lang/Comparable -/
def k6 : Class := { plain "java/lang/Comparable" (some 0) with
  accessFlags := 1537
  interfaces := #[]
  cf := some (fileOf pool6 1 #[] #[] 1537 3 #[] #[])
  fields := #[]
  methods := #[]
  instanceTypes := #[]
  staticTypes := #[]
  resolved := Array.replicate 12 none
  statics := none }

def pool7 : Array CpInfo := pool [(1, .class_ 2), (0, u "java/lang/constant/Constable"), (0, .class_ 4), (0, u "java/lang/Object")] 6

/-- java/lang/constant/Constable -/
def k7 : Class := { plain "java/lang/constant/Constable" (some 0) with
  accessFlags := 1537
  interfaces := #[]
  cf := some (fileOf pool7 1 #[] #[] 1537 3 #[] #[])
  fields := #[]
  methods := #[]
  instanceTypes := #[]
  staticTypes := #[]
  resolved := Array.replicate 11 none
  statics := none }

def pool8 : Array CpInfo := pool [(1, .class_ 2), (0, u "java/lang/constant/ConstantDesc"), (0, .class_ 4), (0, u "java/lang/Object")] 32

/-- java/lang/constant/ConstantDesc -/
def k8 : Class := { plain "java/lang/constant/ConstantDesc" (some 0) with
  accessFlags := 1537
  interfaces := #[]
  cf := some (fileOf pool8 1 #[] #[] 1537 3 #[] #[])
  fields := #[]
  methods := #[]
  instanceTypes := #[]
  staticTypes := #[]
  resolved := Array.replicate 37 none
  statics := none }

def pool9 : Array CpInfo := pool [(1, .class_ 2), (0, u "java/lang/Long"), (15, .class_ 20), (1, u "java/lang/Integer"), (80, u "(J)I"), (133, .class_ 237), (1, u "java/lang/Long$LongCache"), (33, .class_ 272), (0, u "java/lang/Number"), (2, u "value"), (0, u "J"), (33, u "(I)I"), (0, .methodref 18 312), (0, .nameAndType 313 310), (0, u "numberOfTrailingZeros"), (47, u "TYPE"), (0, u "Ljava/lang/Class;"), (0, .class_ 364), (0, u "java/lang/Comparable"), (0, .class_ 366), (0, u "java/lang/constant/Constable"), (0, .class_ 368), (0, u "java/lang/constant/ConstantDesc"), (0, u "MIN_VALUE"), (1, u "MAX_VALUE"), (4, u "SIZE"), (0, u "I"), (1, u "BYTES"), (1, u "serialVersionUID")] 142

def k9c0 : Code := { maxStack := 4, maxLocals := 3, code := jdk_35_method_49_code, exceptionTable := #[], attributes := #[] }
def k9m0 : Method := { name := "numberOfTrailingZeros", desc := "(J)I", sig := { parameters := [.long], returnType := some .int }, accessFlags := 9, code := some k9c0 }
/-- java/lang/Long -/
def k9 : Class := { plain "java/lang/Long" (some 5) with
  accessFlags := 49
  interfaces := #[6, 7, 8]
  cf := some (fileOf pool9 1 #[.nestMembers #[235]] #[{ accessFlags := 9, nameIndex := 313, descriptorIndex := 101, attributes := #[] }] 49 271 #[363, 365, 367] #[{ accessFlags := 25, nameIndex := 369, descriptorIndex := 276, attributes := #[] }, { accessFlags := 25, nameIndex := 371, descriptorIndex := 276, attributes := #[] }, { accessFlags := 25, nameIndex := 361, descriptorIndex := 362, attributes := #[] }, { accessFlags := 18, nameIndex := 275, descriptorIndex := 276, attributes := #[] }, { accessFlags := 25, nameIndex := 376, descriptorIndex := 377, attributes := #[] }, { accessFlags := 25, nameIndex := 379, descriptorIndex := 377, attributes := #[] }, { accessFlags := 26, nameIndex := 381, descriptorIndex := 276, attributes := #[] }])
  fields := #[{ name := "MIN_VALUE", type := .long, accessFlags := 25, slot := 0, constantValue := 0 }, { name := "MAX_VALUE", type := .long, accessFlags := 25, slot := 1, constantValue := 0 }, { name := "TYPE", type := (.object "java/lang/Class"), accessFlags := 25, slot := 2, constantValue := 0 }, { name := "value", type := .long, accessFlags := 18, slot := 0, constantValue := 0 }, { name := "SIZE", type := .int, accessFlags := 25, slot := 3, constantValue := 0 }, { name := "BYTES", type := .int, accessFlags := 25, slot := 4, constantValue := 0 }, { name := "serialVersionUID", type := .long, accessFlags := 26, slot := 5, constantValue := 0 }]
  methods := #[k9m0]
  instanceTypes := #[.long]
  staticTypes := #[.long, .long, (.object "java/lang/Class"), .int, .int, .long]
  resolved := Array.replicate 524 none
  statics := none }

def pool10 : Array CpInfo := pool [(1, .class_ 2), (0, u "java/lang/Integer"), (16, u "digits"), (0, u "[C"), (33, u "(I)I"), (30, u "DigitOnes"), (0, u "[B"), (2, u "DigitTens"), (99, .class_ 190), (0, u "java/lang/Integer$IntegerCache"), (3, u "I"), (8, .class_ 204), (0, u "java/lang/Number"), (2, u "value"), (56, .integer 65536), (37, u "TYPE"), (0, u "Ljava/lang/Class;"), (0, .class_ 305), (0, u "java/lang/Comparable"), (0, .class_ 307), (0, u "java/lang/constant/Constable"), (0, .class_ 309), (0, u "java/lang/constant/ConstantDesc"), (0, u "MIN_VALUE"), (1, u "MAX_VALUE"), (3, u "SIZE"), (1, u "BYTES"), (1, u "serialVersionUID"), (0, u "J"), (84, u "numberOfTrailingZeros")] 46

def k10c0 : Code := { maxStack := 3, maxLocals := 2, code := jdk_33_method_48_code, exceptionTable := #[], attributes := #[] }
def k10m0 : Method := { name := "numberOfTrailingZeros", desc := "(I)I", sig := { parameters := [.int], returnType := some .int }, accessFlags := 9, code := some k10c0 }
/-- java/lang/Integer -/
def k10 : Class := { plain "java/lang/Integer" (some 5) with
  accessFlags := 49
  interfaces := #[6, 7, 8]
  cf := some (fileOf pool10 1 #[.nestMembers #[189]] #[{ accessFlags := 9, nameIndex := 406, descriptorIndex := 54, attributes := #[] }] 49 203 #[304, 306, 308] #[{ accessFlags := 25, nameIndex := 310, descriptorIndex := 194, attributes := #[] }, { accessFlags := 25, nameIndex := 312, descriptorIndex := 194, attributes := #[] }, { accessFlags := 25, nameIndex := 302, descriptorIndex := 303, attributes := #[] }, { accessFlags := 24, nameIndex := 19, descriptorIndex := 20, attributes := #[] }, { accessFlags := 24, nameIndex := 89, descriptorIndex := 86, attributes := #[] }, { accessFlags := 24, nameIndex := 85, descriptorIndex := 86, attributes := #[] }, { accessFlags := 18, nameIndex := 207, descriptorIndex := 194, attributes := #[] }, { accessFlags := 25, nameIndex := 316, descriptorIndex := 194, attributes := #[] }, { accessFlags := 25, nameIndex := 318, descriptorIndex := 194, attributes := #[] }, { accessFlags := 26, nameIndex := 320, descriptorIndex := 321, attributes := #[] }])
  fields := #[{ name := "MIN_VALUE", type := .int, accessFlags := 25, slot := 0, constantValue := 0 }, { name := "MAX_VALUE", type := .int, accessFlags := 25, slot := 1, constantValue := 0 }, { name := "TYPE", type := (.object "java/lang/Class"), accessFlags := 25, slot := 2, constantValue := 0 }, { name := "digits", type := (.array .char), accessFlags := 24, slot := 3, constantValue := 0 }, { name := "DigitTens", type := (.array .byte), accessFlags := 24, slot := 4, constantValue := 0 }, { name := "DigitOnes", type := (.array .byte), accessFlags := 24, slot := 5, constantValue := 0 }, { name := "value", type := .int, accessFlags := 18, slot := 0, constantValue := 0 }, { name := "SIZE", type := .int, accessFlags := 25, slot := 6, constantValue := 0 }, { name := "BYTES", type := .int, accessFlags := 25, slot := 7, constantValue := 0 }, { name := "serialVersionUID", type := .long, accessFlags := 26, slot := 8, constantValue := 0 }]
  methods := #[k10m0]
  instanceTypes := #[.int]
  staticTypes := #[.int, .int, (.object "java/lang/Class"), (.array .char), (.array .byte), (.array .byte), .int, .int, .long]
  resolved := Array.replicate 453 none
  statics := none }

def pool11 : Array CpInfo := pool [(1, .class_ 2), (0, u "java/lang/Cloneable"), (0, .class_ 4), (0, u "java/lang/Object")] 2

/-- java/lang/Cloneable -/
def k11 : Class := { plain "java/lang/Cloneable" (some 0) with
  accessFlags := 1537
  interfaces := #[]
  cf := some (fileOf pool11 1 #[] #[] 1537 3 #[] #[])
  fields := #[]
  methods := #[]
  instanceTypes := #[]
  staticTypes := #[]
  resolved := Array.replicate 7 none
  statics := none }

/-- the primitive byte -/
def k12 : Class := { plain "byte" none with kind := .primitive 'B', accessFlags := 0x411 }
/-- [B -/
def k13 : Class := { plain "[B" (some 0) with kind := .array 12 .byte, interfaces := #[11, 4], accessFlags := 1041 }

/-- the primitive int -/
def k14 : Class := { plain "int" none with kind := .primitive 'I', accessFlags := 0x411 }
/-- [I -/
def k15 : Class := { plain "[I" (some 0) with kind := .array 14 .int, interfaces := #[11, 4], accessFlags := 1041 }

/-- the primitive long -/
def k16 : Class := { plain "long" none with kind := .primitive 'J', accessFlags := 0x411 }
/-- [J -/
def k17 : Class := { plain "[J" (some 0) with kind := .array 16 .long, interfaces := #[11, 4], accessFlags := 1041 }

/-- [Lcom/example/greylag/greylag/sim/RequestOrder$Knowledge; -/
def k18 : Class := { plain "[Lcom/example/greylag/greylag/sim/RequestOrder$Knowledge;" (some 0) with kind := .array 3 (.object "com/example/greylag/greylag/sim/RequestOrder$Knowledge"), interfaces := #[11, 4], accessFlags := 1041 }

/-- [[J -/
def k19 : Class := { plain "[[J" (some 0) with kind := .array 17 (.array .long), interfaces := #[11, 4], accessFlags := 1041 }
def heap : Heap := #[]
def classes : Array Class := #[k0, k1, k2, k3, k4, k5, k6, k7, k8, k9, k10, k11, k12, k13, k14, k15, k16, k17, k18, k19]
def interned : List (Array UInt16 × Addr) := []
def slotsUsed : Nat := 0
def theMethod : MethodId := ⟨1, 1⟩
def args0 : Array Value := #[.int 5, .int 1, .int 2, .int 3]
def aboutOver (below : List Frame) : State where
  vm := { classes := classes, interned := interned.toArray }
  heap := heap
  slotsUsed := slotsUsed
  threads := #[{ frames := .invoking theMethod args0 :: below }]
def below0 : List Frame := [.native { method := ⟨0, 0⟩, args := #[] }]
def about1 : State := aboutOver below0
def p0 : Program := .bare "" "" ""
def e0 : Env := launch0.env 0 0 0
theorem w_frames : about1.frames = Frame.invoking theMethod args0 :: below0 := rfl
set_option maxRecDepth 65536 in
theorem w_args : argsFit about1.vm theMethod args0 = true := by decide +kernel
set_option maxRecDepth 65536 in
theorem w_heap : heapFits about1 = true := by decide +kernel
set_option maxRecDepth 65536 in
theorem w_runnable : about1.curStatus? = some .runnable := by decide +kernel
set_option maxRecDepth 65536 in
theorem w_alone : about1.alone = true := by decide +kernel
set_option maxRecDepth 65536 in
theorem w_named : about1.methodNamed? x = some theMethod := by decide +kernel
set_option maxRecDepth 65536 in
theorem w_hears : about1.hears theMethod below0 = true := by decide +kernel
set_option maxRecDepth 65536 in
theorem w_ripe : about1.ripe theMethod args0 below0 = true := by decide +kernel
theorem w_running : about1.status = .running := rfl
set_option maxRecDepth 65536 in
theorem w_room : about1.hasRoom e0.platform room_1 = true :=
  launch0.hasRoom_least _ room_1 (by decide +kernel) (by decide +kernel) (by decide +kernel) (by decide +kernel) (by decide +kernel) (by decide +kernel)
theorem allAtoms_all (ts : List Jvm.Cond) (a : Array Jvm.Value) (st : Jvm.State) : (allAtoms ts).before a st = ts.all (fun c => c.before a st) := by
  induction ts with
  | nil => rfl
  | cons c t ih =>
    show (Jvm.Cond.and c (allAtoms t)).before a st = _
    rw [Jvm.Cond.before_and, ih, List.all_cons]
def words1 : List Jvm.Cond := Jvm.Cond.code x code maxLocals ret :: tables_1
/-- a 'code' word, met by the world's own term for the bytes: nothing is compared byte by byte -/
theorem code_word {y : MethodName} {bytes : ByteArray} {mx : Nat} {rt : Option FieldType} {a : Array Value} {s : State} {m : MethodId} {meth : Method} {c : Code} (h1 : s.methodNamed? y = some m) (h2 : s.vm.method? m = some meth) (h3 : meth.code = some c) (h4 : c.code = bytes)
    (h5 : (c.maxLocals == mx && c.exceptionTable.isEmpty && decide (c.maxStack ≤ mostOperands) && decide (meth.sig.returnType = rt) && !meth.locks && decide (parseMethodDescriptor y.desc = some meth.sig)) = true) : (Jvm.Cond.code y bytes mx rt).before a s = true := by
  simp only [Bool.and_eq_true, beq_iff_eq, Bool.not_eq_true', decide_eq_true_eq] at h5
  obtain ⟨⟨⟨⟨⟨g1, g2⟩, g3⟩, g4⟩, g5⟩, g6⟩ := h5
  simp [Cond.before, Cond.holds, Cond.value, h1, h2, h3, h4, g1, g2, g3, g4, g5, g6]
def isCode : Jvm.Cond → Bool
  | .code _ _ _ _ => true
  | _ => false
theorem all_split {L : List Jvm.Cond} {P : Jvm.Cond → Bool} (h1 : L.all (fun c => isCode c || P c) = true) (h2 : ∀ c ∈ L.filter isCode, P c = true) : L.all P = true := by
  refine List.all_eq_true.mpr fun c hc => ?_
  have h := List.all_eq_true.mp h1 c hc
  rcases Bool.eq_false_or_eq_true (isCode c) with hi | hi
  · exact h2 c (List.mem_filter.mpr ⟨hc, hi⟩)
  · simpa [hi] using h
set_option maxRecDepth 65536 in
theorem w_c0 : (Jvm.Cond.code x code maxLocals ret).before args0 about1 = true := code_word (m := ⟨1, 1⟩) (meth := k1m1) (c := k1c1) (by decide +kernel) rfl rfl rfl (by decide +kernel)
set_option maxRecDepth 65536 in
theorem w_c1 : (Jvm.Cond.code ({ cls := "com/example/greylag/greylag/sim/RequestOrder", name := "<init>", desc := "(I)V" } : Jvm.MethodName) prog_67_method_1_code (3 : Nat) (Option.none : Option Jvm.ClassFile.FieldType)).before args0 about1 = true := code_word (m := ⟨2, 0⟩) (meth := k2m0) (c := k2c0) (by decide +kernel) rfl rfl rfl (by decide +kernel)
set_option maxRecDepth 65536 in
theorem w_c2 : (Jvm.Cond.code ({ cls := "java/lang/Object", name := "<init>", desc := "()V" } : Jvm.MethodName) object_method_1_code (1 : Nat) (Option.none : Option Jvm.ClassFile.FieldType)).before args0 about1 = true := code_word (m := ⟨0, 0⟩) (meth := k0m0) (c := k0c0) (by decide +kernel) rfl rfl rfl (by decide +kernel)
set_option maxRecDepth 65536 in
theorem w_c3 : (Jvm.Cond.code ({ cls := "com/example/greylag/greylag/sim/RequestOrder", name := "requested", desc := "(I)V" } : Jvm.MethodName) prog_67_method_2_code (6 : Nat) (Option.none : Option Jvm.ClassFile.FieldType)).before args0 about1 = true := code_word (m := ⟨2, 1⟩) (meth := k2m1) (c := k2c1) (by decide +kernel) rfl rfl rfl (by decide +kernel)
set_option maxRecDepth 65536 in
theorem w_c4 : (Jvm.Cond.code ({ cls := "com/example/greylag/greylag/sim/RequestOrder", name := "has", desc := "([JI)Z" } : Jvm.MethodName) prog_67_method_7_code (2 : Nat) (Option.some Jvm.ClassFile.FieldType.boolean)).before args0 about1 = true := code_word (m := ⟨2, 6⟩) (meth := k2m6) (c := k2c6) (by decide +kernel) rfl rfl rfl (by decide +kernel)
set_option maxRecDepth 65536 in
theorem w_c5 : (Jvm.Cond.code ({ cls := "com/example/greylag/greylag/sim/RequestOrder", name := "word", desc := "(I)I" } : Jvm.MethodName) prog_67_method_8_code (1 : Nat) (Option.some Jvm.ClassFile.FieldType.int)).before args0 about1 = true := code_word (m := ⟨2, 7⟩) (meth := k2m7) (c := k2c7) (by decide +kernel) rfl rfl rfl (by decide +kernel)
set_option maxRecDepth 65536 in
theorem w_c6 : (Jvm.Cond.code ({ cls := "com/example/greylag/greylag/sim/RequestOrder", name := "bit", desc := "(I)J" } : Jvm.MethodName) prog_67_method_9_code (1 : Nat) (Option.some Jvm.ClassFile.FieldType.long)).before args0 about1 = true := code_word (m := ⟨2, 8⟩) (meth := k2m8) (c := k2c8) (by decide +kernel) rfl rfl rfl (by decide +kernel)
set_option maxRecDepth 65536 in
theorem w_c7 : (Jvm.Cond.code ({ cls := "com/example/greylag/greylag/sim/RequestOrder", name := "writable", desc := "(I)[J" } : Jvm.MethodName) prog_67_method_6_code (3 : Nat) (Option.some (Jvm.ClassFile.FieldType.array Jvm.ClassFile.FieldType.long))).before args0 about1 = true := code_word (m := ⟨2, 5⟩) (meth := k2m5) (c := k2c5) (by decide +kernel) rfl rfl rfl (by decide +kernel)
set_option maxRecDepth 65536 in
theorem w_c8 : (Jvm.Cond.code ({ cls := "com/example/greylag/greylag/sim/RequestOrder", name := "sent", desc := "(I)Lcom/example/greylag/greylag/sim/RequestOrder$Knowledge;" } : Jvm.MethodName) prog_67_method_3_code (5 : Nat) (Option.some (Jvm.ClassFile.FieldType.object "com/example/greylag/greylag/sim/RequestOrder$Knowledge"))).before args0 about1 = true := code_word (m := ⟨2, 2⟩) (meth := k2m2) (c := k2c2) (by decide +kernel) rfl rfl rfl (by decide +kernel)
set_option maxRecDepth 65536 in
theorem w_c9 : (Jvm.Cond.code ({ cls := "com/example/greylag/greylag/sim/RequestOrder$Knowledge", name := "<init>", desc := "([JJ)V" } : Jvm.MethodName) prog_68_method_1_code (4 : Nat) (Option.none : Option Jvm.ClassFile.FieldType)).before args0 about1 = true := code_word (m := ⟨3, 0⟩) (meth := k3m0) (c := k3c0) (by decide +kernel) rfl rfl rfl (by decide +kernel)
set_option maxRecDepth 65536 in
theorem w_c10 : (Jvm.Cond.code ({ cls := "com/example/greylag/greylag/sim/RequestOrder", name := "received", desc := "(ILcom/example/greylag/greylag/sim/RequestOrder$Knowledge;)V" } : Jvm.MethodName) prog_67_method_4_code (8 : Nat) (Option.none : Option Jvm.ClassFile.FieldType)).before args0 about1 = true := code_word (m := ⟨2, 3⟩) (meth := k2m3) (c := k2c3) (by decide +kernel) rfl rfl rfl (by decide +kernel)
set_option maxRecDepth 65536 in
theorem w_c11 : (Jvm.Cond.code ({ cls := "java/lang/Long", name := "numberOfTrailingZeros", desc := "(J)I" } : Jvm.MethodName) jdk_35_method_49_code (3 : Nat) (Option.some Jvm.ClassFile.FieldType.int)).before args0 about1 = true := code_word (m := ⟨9, 0⟩) (meth := k9m0) (c := k9c0) (by decide +kernel) rfl rfl rfl (by decide +kernel)
set_option maxRecDepth 65536 in
theorem w_c12 : (Jvm.Cond.code ({ cls := "java/lang/Integer", name := "numberOfTrailingZeros", desc := "(I)I" } : Jvm.MethodName) jdk_33_method_48_code (2 : Nat) (Option.some Jvm.ClassFile.FieldType.int)).before args0 about1 = true := code_word (m := ⟨10, 0⟩) (meth := k10m0) (c := k10c0) (by decide +kernel) rfl rfl rfl (by decide +kernel)
set_option maxRecDepth 65536 in
theorem w_c13 : (Jvm.Cond.code ({ cls := "com/example/greylag/greylag/sim/RequestOrder", name := "entered", desc := "(I)I" } : Jvm.MethodName) prog_67_method_5_code (9 : Nat) (Option.some Jvm.ClassFile.FieldType.int)).before args0 about1 = true := code_word (m := ⟨2, 4⟩) (meth := k2m4) (c := k2c4) (by decide +kernel) rfl rfl rfl (by decide +kernel)
def codes1 : List Jvm.Cond := [Jvm.Cond.code x code maxLocals ret, Jvm.Cond.code ({ cls := "com/example/greylag/greylag/sim/RequestOrder", name := "<init>", desc := "(I)V" } : Jvm.MethodName) prog_67_method_1_code (3 : Nat) (Option.none : Option Jvm.ClassFile.FieldType), Jvm.Cond.code ({ cls := "java/lang/Object", name := "<init>", desc := "()V" } : Jvm.MethodName) object_method_1_code (1 : Nat) (Option.none : Option Jvm.ClassFile.FieldType), Jvm.Cond.code ({ cls := "com/example/greylag/greylag/sim/RequestOrder", name := "requested", desc := "(I)V" } : Jvm.MethodName) prog_67_method_2_code (6 : Nat) (Option.none : Option Jvm.ClassFile.FieldType), Jvm.Cond.code ({ cls := "com/example/greylag/greylag/sim/RequestOrder", name := "has", desc := "([JI)Z" } : Jvm.MethodName) prog_67_method_7_code (2 : Nat) (Option.some Jvm.ClassFile.FieldType.boolean), Jvm.Cond.code ({ cls := "com/example/greylag/greylag/sim/RequestOrder", name := "word", desc := "(I)I" } : Jvm.MethodName) prog_67_method_8_code (1 : Nat) (Option.some Jvm.ClassFile.FieldType.int), Jvm.Cond.code ({ cls := "com/example/greylag/greylag/sim/RequestOrder", name := "bit", desc := "(I)J" } : Jvm.MethodName) prog_67_method_9_code (1 : Nat) (Option.some Jvm.ClassFile.FieldType.long), Jvm.Cond.code ({ cls := "com/example/greylag/greylag/sim/RequestOrder", name := "writable", desc := "(I)[J" } : Jvm.MethodName) prog_67_method_6_code (3 : Nat) (Option.some (Jvm.ClassFile.FieldType.array Jvm.ClassFile.FieldType.long)), Jvm.Cond.code ({ cls := "com/example/greylag/greylag/sim/RequestOrder", name := "sent", desc := "(I)Lcom/example/greylag/greylag/sim/RequestOrder$Knowledge;" } : Jvm.MethodName) prog_67_method_3_code (5 : Nat) (Option.some (Jvm.ClassFile.FieldType.object "com/example/greylag/greylag/sim/RequestOrder$Knowledge")), Jvm.Cond.code ({ cls := "com/example/greylag/greylag/sim/RequestOrder$Knowledge", name := "<init>", desc := "([JJ)V" } : Jvm.MethodName) prog_68_method_1_code (4 : Nat) (Option.none : Option Jvm.ClassFile.FieldType), Jvm.Cond.code ({ cls := "com/example/greylag/greylag/sim/RequestOrder", name := "received", desc := "(ILcom/example/greylag/greylag/sim/RequestOrder$Knowledge;)V" } : Jvm.MethodName) prog_67_method_4_code (8 : Nat) (Option.none : Option Jvm.ClassFile.FieldType), Jvm.Cond.code ({ cls := "java/lang/Long", name := "numberOfTrailingZeros", desc := "(J)I" } : Jvm.MethodName) jdk_35_method_49_code (3 : Nat) (Option.some Jvm.ClassFile.FieldType.int), Jvm.Cond.code ({ cls := "java/lang/Integer", name := "numberOfTrailingZeros", desc := "(I)I" } : Jvm.MethodName) jdk_33_method_48_code (2 : Nat) (Option.some Jvm.ClassFile.FieldType.int), Jvm.Cond.code ({ cls := "com/example/greylag/greylag/sim/RequestOrder", name := "entered", desc := "(I)I" } : Jvm.MethodName) prog_67_method_5_code (9 : Nat) (Option.some Jvm.ClassFile.FieldType.int)]
set_option maxRecDepth 65536 in
theorem codes_eq : words1.filter isCode = codes1 := rfl
theorem w_codes : ∀ c ∈ words1.filter isCode, c.before args0 about1 = true := by
  rw [codes_eq]
  intro c hc
  simp only [codes1, List.mem_cons, List.not_mem_nil, or_false] at hc
  rcases hc with rfl | rfl | rfl | rfl | rfl | rfl | rfl | rfl | rfl | rfl | rfl | rfl | rfl | rfl
  · exact w_c0
  · exact w_c1
  · exact w_c2
  · exact w_c3
  · exact w_c4
  · exact w_c5
  · exact w_c6
  · exact w_c7
  · exact w_c8
  · exact w_c9
  · exact w_c10
  · exact w_c11
  · exact w_c12
  · exact w_c13
set_option maxRecDepth 65536 in
theorem w_t1 : (words1.take 24).all (fun c => isCode c || c.before args0 about1) = true := by decide +kernel
set_option maxRecDepth 65536 in
theorem w_t2 : ((words1.drop 24).take 24).all (fun c => isCode c || c.before args0 about1) = true := by decide +kernel
set_option maxRecDepth 65536 in
theorem w_t3 : (((words1.drop 24).drop 24).take 24).all (fun c => isCode c || c.before args0 about1) = true := by decide +kernel
set_option maxRecDepth 65536 in
theorem w_t4 : ((((words1.drop 24).drop 24).drop 24).take 24).all (fun c => isCode c || c.before args0 about1) = true := by decide +kernel
set_option maxRecDepth 65536 in
theorem w_t5 : ((((words1.drop 24).drop 24).drop 24).drop 24).all (fun c => isCode c || c.before args0 about1) = true := by decide +kernel
theorem w_tables : (allAtoms (Jvm.Cond.code x code maxLocals ret :: tables_1)).before args0 about1 = true := by
  rw [allAtoms_all]
  show words1.all (fun c => c.before args0 about1) = true
  refine all_split ?_ w_codes
  rw [← List.take_append_drop 24 words1, List.all_append, w_t1, ← List.take_append_drop 24 (words1.drop 24), List.all_append, w_t2, ← List.take_append_drop 24 ((words1.drop 24).drop 24), List.all_append, w_t3, ← List.take_append_drop 24 (((words1.drop 24).drop 24).drop 24), List.all_append, w_t4, w_t5]
  rfl
set_option maxRecDepth 65536 in
theorem w_case : (Jvm.Cond.and given_1 narrow_1).before args0 about1 = true := by decide +kernel
theorem w_applies : (headSpec (Jvm.Cond.code x code maxLocals ret :: tables_1) room_1).applies x e0.platform about1 = true :=
  (Spec.applies_iff w_frames).mpr ⟨w_running, w_runnable, w_alone, w_named, w_hears, w_ripe, w_room, w_tables⟩
theorem atStart : AtStart classFile x code maxLocals ret World_1 tables_1 room_1 Calls_1 rest_1 Pre_1 launch0 p0 e0 about1 theMethod args0 below0 :=
  ⟨lists_1, trivial, launch0.admits_env _ _ _, launch0.least_env, fairChoices_fair.cas, fairChoices_fair.clock, w_frames, w_args, w_heap, w_applies, trivial, trivial, w_case⟩
end start1
theorem witness_1 : WitnessClaimed_1 := ⟨start1.p0, start1.e0, start1.about1, start1.theMethod, start1.args0, start1.below0, start1.atStart⟩
end Jvm.Pilot.@@N@@
