import JvmDerived
import JvmDerived.Pilot.@@N@@Statement
import JvmDerived.Pilot.@@N@@Code
@@BLOCK:NumsL.lean.txt@@
set_option linter.unusedVariables false
set_option linter.unusedSimpArgs false
namespace Jvm.Pilot.@@N@@
open Jvm Jvm.ClassFile Sem Op Lib Jvm.Free Jvm.Stand Jvm.LawKit Jvm.RoadKit Bundle Jvm.Pilot.@@N@@.Jvm.D
abbrev own_m0 : MethodName := ⟨"com/example/fledger/fledger/EventStateCanMoveToPinLaw", "pick", "(I)Lcom/example/fledger/fledger/EventState;"⟩
abbrev own_m1 : MethodName := ⟨"java/util/Objects", "requireNonNull", "(Ljava/lang/Object;Ljava/lang/String;)Ljava/lang/Object;"⟩
abbrev own_m2 : MethodName := ⟨"java/lang/Enum", "ordinal", "()I"⟩
abbrev own_m3 : MethodName := ⟨"com/example/fledger/fledger/EventState", "canMoveTo", "(Lcom/example/fledger/fledger/EventState;)Z"⟩
abbrev own_m4 : MethodName := ⟨"com/example/fledger/fledger/EventState", "ordinal", "()I"⟩
section OwnPre
variable {p : Program} {l : Launch} {e : Env} {R : Room} {s : State} {m : MethodId} {args : Array Value} {below : List Frame} {meth : Method} {c : Code} {T : State} {locs : List Loc} {cells slots : Nat} {Z : State} {h h' : Heap}
/-- from A the run comes to an end of which P holds -/
def own_G (p : Program) (e : Env) (below : List Frame) (A : State) (P : State → Outcome → Prop) : Prop := ∃ s₂ o, Steps p.tables e below A s₂ ∧ P s₂ o
def own_P (s : State) (below : List Frame) (C S : Nat) (Q : Option Value → Heap → List Loc → Prop) (s₂ : State) (o : Outcome) : Prop := s₂.status = .running ∧ Ended s₂ below o ∧ ∃ v L, o = .returned v ∧ Q v s₂.heap L ∧ FrameEnd s o s₂ L C S
def own_PW (s : State) (below : List Frame) (C S : Nat) (Q : Option Value → Heap → List Loc → Prop) (s₂ : State) (o : Outcome) : Prop := s₂.status = .running ∧ Ended s₂ below o ∧ ∃ v L, o = .returned v ∧ Q v s₂.heap L ∧ ReturnedEndW s o s₂ L C S
theorem own_go {A B : State} {P : State → Outcome → Prop} (k : ∀ t, Steps p.tables e below B t → Steps p.tables e below A t) (g : own_G p e below B P) : own_G p e below A P := by
  obtain ⟨s, o, h, r⟩ := g; exact ⟨s, o, k _ h, r⟩
theorem own_tr {A B : State} {P : State → Outcome → Prop} (k : Steps p.tables e below A B) (g : own_G p e below B P) : own_G p e below A P := own_go (fun _ h => k.trans h) g
theorem own_start {C S : Nat} {Q : Option Value → Heap → List Loc → Prop} {g g' : JFrame} (q : g = g') (k : own_G p e below (T.setTop g') (own_P s below C S Q)) :
    ∃ s₂ o, Steps p.tables e below (T.setTop g) s₂ ∧ s₂.status = .running ∧ Ended s₂ below o ∧ ∃ v L, o = .returned v ∧ Q v s₂.heap L ∧ FrameEnd s o s₂ L C S := q ▸ k
theorem own_startW {C S : Nat} {Q : Option Value → Heap → List Loc → Prop} {g g' : JFrame} (q : g = g') (k : own_G p e below (T.setTop g') (own_PW s below C S Q)) :
    ∃ s₂ o, Steps p.tables e below (T.setTop g) s₂ ∧ s₂.status = .running ∧ Ended s₂ below o ∧ ∃ v L, o = .returned v ∧ Q v s₂.heap L ∧ ReturnedEndW s o s₂ L C S := q ▸ k
theorem own_ret (X : Stand p l e R s m args below meth c T locs cells slots) (hx : p.tables.exec = Jvm.exec) {pc : Nat} {Ls : Array Slot} {w : Value} {t : FieldType} {i : Instr} {rest : List Value} (hret : meth.sig.returnType = some t) (hn : narrow t w = w)
    (hi : (i = .ireturn ∧ (t = .int ∨ t = .boolean ∨ t = .byte ∨ t = .char ∨ t = .short) ∧ ∃ z, w = .int z) ∨ (i = .lreturn ∧ t = .long ∧ ∃ z, w = .long z) ∨ (i = .dreturn ∧ t = .double ∧ ∃ z, w = .double z) ∨ (i = .freturn ∧ t = .float ∧ ∃ z, w = .float z) ∨ (i = .areturn ∧ t.isReference = true ∧ w.isRef = true))
    (hd : decode c.code pc = .ok (i, 1)) (hlocks : meth.locks = false) {C S : Nat} {Q : Option Value → Heap → List Loc → Prop} (hC : cells ≤ C) (hS : slots ≤ S) (hQ : Q (some w) T.heap locs) :
    own_G p e below (T.setTop (mkF m pc Ls (w :: rest))) (own_P s below C S Q) := by
  obtain ⟨fs, hr, hrun, hended, hW, hsame⟩ := X.leave (v := some w) (fun h => by rw [hret] at h; cases h) hlocks
  exact ⟨_, _, retOut X hx hret hn hi hd hr, hrun, hended, _, _, rfl, hQ, ⟨_, rfl⟩, hW, hsame.mono hC hS⟩
theorem own_retV (X : Stand p l e R s m args below meth c T locs cells slots) (hx : p.tables.exec = Jvm.exec) {pc : Nat} {Ls : Array Slot} (hret : meth.sig.returnType = none) (hd : decode c.code pc = .ok (.return_, 1)) (hlocks : meth.locks = false)
    {C S : Nat} {Q : Option Value → Heap → List Loc → Prop} (hC : cells ≤ C) (hS : slots ≤ S) (hQ : Q none T.heap locs) : own_G p e below (T.setTop (mkF m pc Ls [])) (own_P s below C S Q) := by
  obtain ⟨fs, hr, hrun, hended, hW, hsame⟩ := X.leave (v := none) (fun _ => rfl) hlocks
  exact ⟨_, _, X.returnOut hx hret hd hr, hrun, hended, _, _, rfl, hQ, ⟨_, rfl⟩, hW, hsame.mono hC hS⟩
theorem own_retW {vm₁ : Vm} (X : Stand p l e R (s.setVm vm₁) m args below meth c T locs cells slots) {n : Nat} (hSi : s.Since vm₁ n) (hn' : n ≤ T.heap.size) (hx : p.tables.exec = Jvm.exec) {pc : Nat} {Ls : Array Slot} {w : Value} {t : FieldType} {i : Instr} {rest : List Value} (hret : meth.sig.returnType = some t) (hn : narrow t w = w)
    (hi : (i = .ireturn ∧ (t = .int ∨ t = .boolean ∨ t = .byte ∨ t = .char ∨ t = .short) ∧ ∃ z, w = .int z) ∨ (i = .lreturn ∧ t = .long ∧ ∃ z, w = .long z) ∨ (i = .dreturn ∧ t = .double ∧ ∃ z, w = .double z) ∨ (i = .freturn ∧ t = .float ∧ ∃ z, w = .float z) ∨ (i = .areturn ∧ t.isReference = true ∧ w.isRef = true))
    (hd : decode c.code pc = .ok (i, 1)) (hlocks : meth.locks = false) {C S : Nat} {Q : Option Value → Heap → List Loc → Prop} (hC : cells ≤ C) (hS : slots ≤ S) (hQ : Q (some w) T.heap locs) :
    own_G p e below (T.setTop (mkF m pc Ls (w :: rest))) (own_PW s below C S Q) := by
  obtain ⟨fs, hr, hrun, hended, hW⟩ := (X.mono hC hS).leaveW hSi hn' (v := some w) (fun h => by rw [hret] at h; cases h) hlocks
  exact ⟨_, _, retOut X hx hret hn hi hd hr, hrun, hended, _, _, rfl, hQ, hW⟩
theorem own_retVW {vm₁ : Vm} (X : Stand p l e R (s.setVm vm₁) m args below meth c T locs cells slots) {n : Nat} (hSi : s.Since vm₁ n) (hn' : n ≤ T.heap.size) (hx : p.tables.exec = Jvm.exec) {pc : Nat} {Ls : Array Slot} (hret : meth.sig.returnType = none) (hd : decode c.code pc = .ok (.return_, 1)) (hlocks : meth.locks = false)
    {C S : Nat} {Q : Option Value → Heap → List Loc → Prop} (hC : cells ≤ C) (hS : slots ≤ S) (hQ : Q none T.heap locs) : own_G p e below (T.setTop (mkF m pc Ls [])) (own_PW s below C S Q) := by
  obtain ⟨fs, hr, hrun, hended, hW⟩ := (X.mono hC hS).leaveW hSi hn' (v := none) (fun _ => rfl) hlocks
  exact ⟨_, _, X.returnOut hx hret hd hr, hrun, hended, _, _, rfl, hQ, hW⟩
theorem own_ext_refl (h : Heap) : Ext h h := ⟨Nat.le_refl _, fun _ _ q => q⟩
theorem own_ext_trans {h1 h2 h3 : Heap} (A : Ext h1 h2) (B : Ext h2 h3) : Ext h1 h3 := ⟨Nat.le_trans A.1 B.1, fun a c q => B.2 a c (A.2 a c q)⟩
theorem own_ext_keep {h0 : Heap} {ws : List Addr} (O : Ext h0 h) (K : Keep h h' ws) (q : ∀ x ∈ ws, h0.size ≤ x) : Ext h0 h' := ⟨Nat.le_trans O.1 K.1, fun x c r => K.2.1 x c (O.2 x c r) fun z => absurd (Array.getElem?_eq_some_iff.mp r).1 (Nat.not_lt.mpr (q x z))⟩
theorem own_ext_wr {h0 : Heap} {a : Addr} {sl : Nat} {v : Value} (O : Ext h0 h) (W : Wr h h' a sl v) (q : h0.size ≤ a) : Ext h0 h' := own_ext_keep O (Keep.of_wr W) (allS q all0)
theorem own_fld_ne {a b : Addr} {C n d : String} {v w : Value} (F : Fld Z h a C n d v) (G : Fld Z h b C n d w) (q : v ≠ w) : a ≠ b := fun e => by
  subst e
  obtain ⟨c1, cf, k, i, f, h1, h2, -, -, -, -, h7⟩ := F
  obtain ⟨c2, cf', k', i', f', g1, g2, -, -, -, -, g7⟩ := G
  cases h1.symm.trans g1
  cases h2.symm.trans g2
  exact q (Option.some.inj (h7.symm.trans g7))
theorem own_getR (X : Stand p l e R s m args below meth c T locs cells slots) (hx : p.tables.exec = Jvm.exec) (hZ : Z.Warmed39 s.vm) {a0 : Array Value} {own R0 O n d : String} {index : Nat} (hown : s.vm.findClass own = some m.cls) (w : (Cond.fieldRef own index R0 n d).before a0 Z = true) (via : Via Z R0 O n d)
    (eT : T.heap = h) {a : Addr} {v : Value} (F : Fld Z h a O n d v) {g : JFrame} (hg : g.method = m) {rest : List Value} (hs : g.stack = .ref a :: rest) (hd : decode c.code g.pc = .ok (.getfield index, 3)) :
    ∀ target, Steps p.tables e below (T.setTop { g with pc := g.pc + 3, stack := v :: rest }) target → Steps p.tables e below (T.setTop g) target := by
  obtain ⟨cell, cf, k, i, f, h1, h2, h3, h4, -, -, h7⟩ := F
  have hi := via _ h2
  have hT : Z.Warmed39 T.vm := wtrans hZ X.warmed
  have hownZ : Z.vm.findClass own = some m.cls := by rw [← hZ.alike.findClass]; exact hown
  have hr : Z.resolvedAt? own index = some (.field cf i) := by
    simp only [Cond.before, Cond.holds, Cond.value, hownZ, hi, beq_iff_eq, Option.some.injEq, Bool.and_eq_true] at w
    obtain ⟨-, w⟩ := w
    split at w
    · rename_i c' i' hr; simp only [Bool.and_eq_true, beq_iff_eq] at w; obtain ⟨rfl, rfl⟩ := w; exact hr
    · cases w
  have hr' := State.resolvedAt?_warmed39 hT hr
  have hownT : T.vm.findClass own = some m.cls := by rw [hT.alike.findClass]; exact hownZ
  obtain ⟨k', hi', -⟩ := State.fieldFound?_setVm (s := Z) hT.alike hi
  obtain ⟨hk, hf⟩ := State.fieldFound?_spec hi'
  have hready : T.vm.fieldReady m.cls index cf f := by
    simp only [State.resolvedAt?, State.vm_setVm, hownT, Option.bind_eq_bind, Option.bind_some, Option.bind_eq_some_iff] at hr'
    obtain ⟨kc, hkc, hr'⟩ := hr'
    refine ⟨kc, i, k', hkc, ?_, hk, hf⟩
    cases hx : kc.resolved[index]? with
    | none => simp [hx] at hr'
    | some y => simp only [hx, Option.join_some] at hr'; rw [hr']
  intro target hrest
  subst hg
  jvm_step X.here [hx, hd, getfield.wp_ready (e := e) (s := T) (f := g) X.here.top hready h3 hs (show T.heap[a]? = some cell by rw [eT]; exact h1) h4 h7]
  exact hrest
theorem own_selfPriv {s : State} {args args' : Array Value} {y : MethodName} {n : Nat} (wi : (Cond.instantiable y.cls n).before args' s = true) (hp : s.PrivateAt y) (hi : (Cond.instanceMethod y).before args s = true) (hy : y.cls ≠ "java/lang/invoke/MethodHandle" ∧ y.cls ≠ "java/lang/invoke/VarHandle") : (Cond.selects y.cls y y).before args s = true := by
  obtain ⟨c, k, h1, h2, -, h4, -⟩ := Cond.instantiable_spec wi
  exact Jvm.Stand.selects_self_of_private h1 h2 (by simp only [Bool.or_eq_false_iff] at h4; exact h4.1) hp hi hy
theorem own_bool (z : Int32) (h : z = 0 ∨ z = 1) : narrow .boolean (.int z) = .int z := by rcases h with rfl | rfl <;> rfl
theorem own_hw {Z : State} {a0 : Array Value} {ws : List Jvm.Cond} (hw : ∀ d ∈ ws, d.before a0 Z = true) (i : Nat) {d : Jvm.Cond} (h : ws[i]? = some d) : d.before a0 Z = true := hw d (List.mem_of_getElem? h)
end OwnPre

theorem own_wS {Z : State} {a0 : Array Value} (hw : ∀ d ∈ tables_1, d.before a0 Z = true) : ∀ a ∈ Bundle.stringAtoms, a.before a0 Z = true := fun d hd => by
  simp only [Bundle.stringAtoms, List.mem_cons, List.not_mem_nil, or_false] at hd
  rcases hd with rfl | rfl | rfl | rfl | rfl | rfl | rfl
  · exact (own_hw hw 15 rfl)
  · exact (own_hw hw 16 rfl)
  · exact (own_hw hw 17 rfl)
  · exact (own_hw hw 18 rfl)
  · exact (own_hw hw 19 rfl)
  · exact (own_hw hw 20 rfl)
  · exact (own_hw hw 21 rfl)
def own_pick (k : Int32) (a b c d : Addr) : Addr := if k = 0 then a else if k = 1 then b else if k = 2 then c else d
theorem own_pick_P {P : Int32 → Addr → Prop} {k : Int32} {a b c d : Addr} (hk : k = 0 ∨ k = 1 ∨ k = 2 ∨ k = 3) (ha : P 0 a) (hb : P 1 b) (hc : P 2 c) (hd : P 3 d) : P k (own_pick k a b c d) := by rcases hk with rfl | rfl | rfl | rfl <;> first | exact ha | exact hb | exact hc | exact hd
def own_can (n : Int32) (x a b c d : Addr) : Int32 := if n = 0 then (if x = b then 1 else 0) else if n = 1 then (if x = c ∨ x = a ∨ x = d then 1 else 0) else (if x = a then 1 else 0)
theorem own_and3 (x : Int32) : x &&& 3 = 0 ∨ x &&& 3 = 1 ∨ x &&& 3 = 2 ∨ x &&& 3 = 3 := by
  have h := Jvm.Kit.i32_mask x 3 (k := 2) (by decide) (by decide)
  have h0 : (0 : Int32).toInt = 0 := by decide
  have h1 : (1 : Int32).toInt = 1 := by decide
  have h2 : (2 : Int32).toInt = 2 := by decide
  have h3 : (3 : Int32).toInt = 3 := by decide
  simp only [← Int32.toInt_inj, h0, h1, h2, h3]
  omega
theorem own_law0 {i j : Int32} {a b c d : Addr} (hi : i = 0 ∨ i = 1 ∨ i = 2 ∨ i = 3) (hj : j = 0 ∨ j = 1 ∨ j = 2 ∨ j = 3) (ab : a ≠ b) (ac : a ≠ c) (ad : a ≠ d) (bc : b ≠ c) (bd : b ≠ d) (cd : c ≠ d) :
    own_can i (own_pick j a b c d) a b c d = if ((4562 : Int32) >>> (((i * (4 : Int32)) + j) &&& 31)) &&& (1 : Int32) = 0 then 0 else 1 := by
  have e1 : (1 : Int32) ≠ 0 := by decide
  have e2 : (2 : Int32) ≠ 0 := by decide
  have e3 : (3 : Int32) ≠ 0 := by decide
  have e4 : (2 : Int32) ≠ 1 := by decide
  have e5 : (3 : Int32) ≠ 1 := by decide
  have e6 : (3 : Int32) ≠ 2 := by decide
  have ba := ab.symm; have ca := ac.symm; have da := ad.symm; have cb := bc.symm; have db := bd.symm; have dc := cd.symm
  rcases hi with rfl | rfl | rfl | rfl <;> rcases hj with rfl | rfl | rfl | rfl <;>
    first
    | (rw [if_pos (by decide)]; simp [own_pick, own_can, *]; done)
    | (rw [if_neg (by decide)]; simp [own_pick, own_can, *]; done)
theorem ef_own_pickM (m : MethodId) (x0 : Int32) : entryFrame m #[(.int x0)] 1 = mkF m 0 #[.val (.int x0)] [] := by first | (simp [entryFrame, mkF, argsToLocals, Value.category]; done) | rfl
theorem pf_own_pickM : plainFor own_m0 = true := plainFor_of_name (by simp [plainName, overriddenIn])
theorem d_method_2_code_0 : decode method_2_code 0 = .ok (.iload_n 0, 1) := by decide +kernel
theorem d_method_2_code_1 : decode method_2_code 1 = .ok (.ifCond .ne 7, 3) := by decide +kernel
theorem d_method_2_code_10 : decode method_2_code 10 = .ok (.if_icmp .ne 7, 3) := by decide +kernel
theorem d_method_2_code_13 : decode method_2_code 13 = .ok (.getstatic 13, 3) := by decide +kernel
theorem d_method_2_code_16 : decode method_2_code 16 = .ok (.areturn, 1) := by decide +kernel
theorem d_method_2_code_17 : decode method_2_code 17 = .ok (.iload_n 0, 1) := by decide +kernel
theorem d_method_2_code_18 : decode method_2_code 18 = .ok (.iconst 2, 1) := by decide +kernel
theorem d_method_2_code_19 : decode method_2_code 19 = .ok (.if_icmp .ne 7, 3) := by decide +kernel
theorem d_method_2_code_22 : decode method_2_code 22 = .ok (.getstatic 16, 3) := by decide +kernel
theorem d_method_2_code_25 : decode method_2_code 25 = .ok (.areturn, 1) := by decide +kernel
theorem d_method_2_code_26 : decode method_2_code 26 = .ok (.getstatic 19, 3) := by decide +kernel
theorem d_method_2_code_29 : decode method_2_code 29 = .ok (.areturn, 1) := by decide +kernel
theorem d_method_2_code_4 : decode method_2_code 4 = .ok (.getstatic 7, 3) := by decide +kernel
theorem d_method_2_code_7 : decode method_2_code 7 = .ok (.areturn, 1) := by decide +kernel
theorem d_method_2_code_8 : decode method_2_code 8 = .ok (.iload_n 0, 1) := by decide +kernel
theorem d_method_2_code_9 : decode method_2_code 9 = .ok (.iconst 1, 1) := by decide +kernel
def Q_own_pickM (Z : State) (k : Int32) (aP : Addr) (aC : Addr) (aU : Addr) (aD : Addr) (h0 : Heap) (v : Option Value) (h : Heap) (L : List Loc) : Prop := v = some (.ref (own_pick k aP aC aU aD)) ∧ Fr Z.heap.size L ∧ h = h0
set_option maxRecDepth 65536 in
set_option maxHeartbeats 40000000 in
theorem own_pickM (l : Launch) (Z : State) (a0 : Array Value) (hw : ∀ d ∈ tables_1, d.before a0 Z = true) (ws : List Jvm.Cond) (k : Int32) (aP : Addr) (aC : Addr) (aU : Addr) (aD : Addr) (h0 : Heap) (O0 : Ext Z.heap h0) (S_PENDING : Sta Z Z.heap "com/example/fledger/fledger/EventState" "PENDING" "Lcom/example/fledger/fledger/EventState;" (.ref aP)) (S_CLAIMED : Sta Z Z.heap "com/example/fledger/fledger/EventState" "CLAIMED" "Lcom/example/fledger/fledger/EventState;" (.ref aC)) (S_PUBLISHED : Sta Z Z.heap "com/example/fledger/fledger/EventState" "PUBLISHED" "Lcom/example/fledger/fledger/EventState;" (.ref aU)) (S_DEAD : Sta Z Z.heap "com/example/fledger/fledger/EventState" "DEAD" "Lcom/example/fledger/fledger/EventState;" (.ref aD)) :
    MetFree l own_m0 (head1 (Jvm.Cond.code own_m0 method_2_code 1 (some (.object "com/example/fledger/fledger/EventState")) :: ws) ({ frames := 0, cells := 0, slots := 0, locals := 0 } : Room)) (fun aa U => aa = #[(.int k)] ∧ Z.Warmed39 U.vm ∧ U.heap = h0) (fun _ _ _ _ _ => True) (fun _ U o U' => ∃ v L, o = .returned v ∧ Q_own_pickM Z k aP aC aU aD h0 v U'.heap L ∧ FrameEnd U o U' L ({ frames := 0, cells := 0, slots := 0, locals := 0 } : Room).cells ({ frames := 0, cells := 0, slots := 0, locals := 0 } : Room).slots) := by
  refine MetFree.of_bodySF pf_own_pickM hisR ?_
  intro p e s m args below meth c s₁ Bd hml0 hP hK
  obtain ⟨rfl, hZ, hh⟩ := hP
  have hx := Bd.exec
  have hby := Bd.bytes
  have hlk := BodyLoose.notSynchronized Bd
  have hml : c.maxLocals = 1 := hml0
  have hown : s.vm.findClass "com/example/fledger/fledger/EventStateCanMoveToPinLaw" = some m.cls := findClass_of_methodNamed Bd.named
  have hnm := (name_of_methodNamed Bd.named Bd.method).1
  have X0 : Stand p l e ({ frames := 0, cells := 0, slots := 0, locals := 0 } : Room) s m #[(.int k)] below meth c s₁ [] 0 0 := Stand.of_body Bd
  have e0 : s₁.heap = h0 := by rw [← hh, Bd.state]; rfl
  have N0 := Fr.nil Z.heap.size
  have K0 : Keep h0 h0 [] := Keep.refl _ _
  refine own_start (Q := Q_own_pickM Z k aP aC aU aD h0) (ef_own_pickM m (k)) ?_
  show own_G p e below (s₁.setTop (mkF m 0 #[.val (.int k)] [])) _
  refine own_go (fun t k => XS.iloadN X0.here hx rfl (hb hby d_method_2_code_0) rfl k) ?_
  show own_G p e below (s₁.setTop (mkF m 1 #[.val (.int k)] [(.int k)])) _
  by_cases hc1z : k = (0 : Int32)
  · refine own_go (fun t k => XS.ifNo X0.here hx rfl (hb hby d_method_2_code_1) rfl ((if0 _ _).trans (teq hc1z).2) k) ?_
    show own_G p e below (s₁.setTop (mkF m 4 #[.val (.int k)] [])) _
    obtain ⟨T2z, X2z, e2z, st2z⟩ := getS2 X0 hx hZ hown (host := "") (Or.inl (own_hw hw 4 rfl)) Via.refl e0 (S_PENDING.ext O0) (g := (mkF m 4 #[.val (.int k)] [])) rfl (hb hby d_method_2_code_4)
    refine own_go st2z ?_
    show own_G p e below (T2z.setTop (mkF m 7 #[.val (.int k)] [(.ref aP)])) _
    exact own_ret X2z hx Bd.returns rfl (Or.inr (Or.inr (Or.inr (Or.inr ⟨rfl, rfl, rfl⟩)))) (hb hby d_method_2_code_7) hlk (Nat.le_of_ble_eq_true rfl) (Nat.le_of_ble_eq_true rfl) (by show Q_own_pickM Z k aP aC aU aD h0 _ T2z.heap _; rw [e2z]; exact ⟨(by simp [own_pick, hc1z]), N0, rfl⟩)
  · refine own_go (fun t k => XS.ifYes X0.here hx rfl (pc0 := 1) (pc' := 8) rfl (hb hby d_method_2_code_1) rfl ((if0 _ _).trans (feq hc1z).2) (by decide) (by decide) k) ?_
    show own_G p e below (s₁.setTop (mkF m 8 #[.val (.int k)] [])) _
    refine own_go (fun t k => XS.iloadN X0.here hx rfl (hb hby d_method_2_code_8) rfl k) ?_
    show own_G p e below (s₁.setTop (mkF m 9 #[.val (.int k)] [(.int k)])) _
    refine own_go (fun t k => XS.iconst X0.here hx rfl (hb hby d_method_2_code_9) k) ?_
    show own_G p e below (s₁.setTop (mkF m 10 #[.val (.int k)] [(.int (1 : Int32)), (.int k)])) _
    by_cases hc3z : k = (1 : Int32)
    · refine own_go (fun t k => XS.icmpNo X0.here hx rfl (hb hby d_method_2_code_10) rfl (teq hc3z).2 k) ?_
      show own_G p e below (s₁.setTop (mkF m 13 #[.val (.int k)] [])) _
      obtain ⟨T4z, X4z, e4z, st4z⟩ := getS2 X0 hx hZ hown (host := "") (Or.inl (own_hw hw 39 rfl)) Via.refl e0 (S_CLAIMED.ext O0) (g := (mkF m 13 #[.val (.int k)] [])) rfl (hb hby d_method_2_code_13)
      refine own_go st4z ?_
      show own_G p e below (T4z.setTop (mkF m 16 #[.val (.int k)] [(.ref aC)])) _
      exact own_ret X4z hx Bd.returns rfl (Or.inr (Or.inr (Or.inr (Or.inr ⟨rfl, rfl, rfl⟩)))) (hb hby d_method_2_code_16) hlk (Nat.le_of_ble_eq_true rfl) (Nat.le_of_ble_eq_true rfl) (by show Q_own_pickM Z k aP aC aU aD h0 _ T4z.heap _; rw [e4z]; exact ⟨(by simp [own_pick, hc1z, hc3z]), N0, rfl⟩)
    · refine own_go (fun t k => XS.icmpYes X0.here hx rfl (pc0 := 10) (pc' := 17) rfl (hb hby d_method_2_code_10) rfl (feq hc3z).2 (by decide) (by decide) k) ?_
      show own_G p e below (s₁.setTop (mkF m 17 #[.val (.int k)] [])) _
      refine own_go (fun t k => XS.iloadN X0.here hx rfl (hb hby d_method_2_code_17) rfl k) ?_
      show own_G p e below (s₁.setTop (mkF m 18 #[.val (.int k)] [(.int k)])) _
      refine own_go (fun t k => XS.iconst X0.here hx rfl (hb hby d_method_2_code_18) k) ?_
      show own_G p e below (s₁.setTop (mkF m 19 #[.val (.int k)] [(.int (2 : Int32)), (.int k)])) _
      by_cases hc5z : k = (2 : Int32)
      · refine own_go (fun t k => XS.icmpNo X0.here hx rfl (hb hby d_method_2_code_19) rfl (teq hc5z).2 k) ?_
        show own_G p e below (s₁.setTop (mkF m 22 #[.val (.int k)] [])) _
        obtain ⟨T6z, X6z, e6z, st6z⟩ := getS2 X0 hx hZ hown (host := "") (Or.inl (own_hw hw 37 rfl)) Via.refl e0 (S_PUBLISHED.ext O0) (g := (mkF m 22 #[.val (.int k)] [])) rfl (hb hby d_method_2_code_22)
        refine own_go st6z ?_
        show own_G p e below (T6z.setTop (mkF m 25 #[.val (.int k)] [(.ref aU)])) _
        exact own_ret X6z hx Bd.returns rfl (Or.inr (Or.inr (Or.inr (Or.inr ⟨rfl, rfl, rfl⟩)))) (hb hby d_method_2_code_25) hlk (Nat.le_of_ble_eq_true rfl) (Nat.le_of_ble_eq_true rfl) (by show Q_own_pickM Z k aP aC aU aD h0 _ T6z.heap _; rw [e6z]; exact ⟨(by simp [own_pick, hc1z, hc3z, hc5z]), N0, rfl⟩)
      · refine own_go (fun t k => XS.icmpYes X0.here hx rfl (pc0 := 19) (pc' := 26) rfl (hb hby d_method_2_code_19) rfl (feq hc5z).2 (by decide) (by decide) k) ?_
        show own_G p e below (s₁.setTop (mkF m 26 #[.val (.int k)] [])) _
        obtain ⟨T7z, X7z, e7z, st7z⟩ := getS2 X0 hx hZ hown (host := "") (Or.inl (own_hw hw 7 rfl)) Via.refl e0 (S_DEAD.ext O0) (g := (mkF m 26 #[.val (.int k)] [])) rfl (hb hby d_method_2_code_26)
        refine own_go st7z ?_
        show own_G p e below (T7z.setTop (mkF m 29 #[.val (.int k)] [(.ref aD)])) _
        exact own_ret X7z hx Bd.returns rfl (Or.inr (Or.inr (Or.inr (Or.inr ⟨rfl, rfl, rfl⟩)))) (hb hby d_method_2_code_29) hlk (Nat.le_of_ble_eq_true rfl) (Nat.le_of_ble_eq_true rfl) (by show Q_own_pickM Z k aP aC aU aD h0 _ T7z.heap _; rw [e7z]; exact ⟨(by simp [own_pick, hc1z, hc3z, hc5z]), N0, rfl⟩)
theorem ef_own_rnn (m : MethodId) (x0 : Addr) (x1 : Addr) : entryFrame m #[(.ref x0), (.ref x1)] 2 = mkF m 0 #[.val (.ref x0), .val (.ref x1)] [] := by first | (simp [entryFrame, mkF, argsToLocals, Value.category]; done) | rfl
theorem pf_own_rnn : plainFor own_m1 = true := plainFor_of_name (by simp [plainName, overriddenIn])
theorem d_jdk_31_method_11_code_0 : decode jdk_31_method_11_code 0 = .ok (.aload_n 0, 1) := by decide +kernel
theorem d_jdk_31_method_11_code_1 : decode jdk_31_method_11_code 1 = .ok (.ifnonnull 12, 3) := by decide +kernel
theorem d_jdk_31_method_11_code_13 : decode jdk_31_method_11_code 13 = .ok (.aload_n 0, 1) := by decide +kernel
theorem d_jdk_31_method_11_code_14 : decode jdk_31_method_11_code 14 = .ok (.areturn, 1) := by decide +kernel
def Q_own_rnn (Z : State) (a : Addr) (b : Addr) (h0 : Heap) (v : Option Value) (h : Heap) (L : List Loc) : Prop := v = some (.ref a) ∧ Fr Z.heap.size L ∧ h = h0
set_option maxRecDepth 65536 in
set_option maxHeartbeats 40000000 in
theorem own_rnn (l : Launch) (Z : State) (a0 : Array Value) (hw : ∀ d ∈ tables_1, d.before a0 Z = true) (ws : List Jvm.Cond) (a : Addr) (b : Addr) (h0 : Heap) (O0 : Ext Z.heap h0) :
    MetFree l own_m1 (head1 (Jvm.Cond.code own_m1 jdk_31_method_11_code 2 (some (.object "java/lang/Object")) :: ws) ({ frames := 0, cells := 0, slots := 0, locals := 0 } : Room)) (fun aa U => aa = #[(.ref a), (.ref b)] ∧ Z.Warmed39 U.vm ∧ U.heap = h0) (fun _ _ _ _ _ => True) (fun _ U o U' => ∃ v L, o = .returned v ∧ Q_own_rnn Z a b h0 v U'.heap L ∧ FrameEnd U o U' L ({ frames := 0, cells := 0, slots := 0, locals := 0 } : Room).cells ({ frames := 0, cells := 0, slots := 0, locals := 0 } : Room).slots) := by
  refine MetFree.of_bodySF pf_own_rnn hisR ?_
  intro p e s m args below meth c s₁ Bd hml0 hP hK
  obtain ⟨rfl, hZ, hh⟩ := hP
  have hx := Bd.exec
  have hby := Bd.bytes
  have hlk := BodyLoose.notSynchronized Bd
  have hml : c.maxLocals = 2 := hml0
  have hown : s.vm.findClass "java/util/Objects" = some m.cls := findClass_of_methodNamed Bd.named
  have hnm := (name_of_methodNamed Bd.named Bd.method).1
  have X0 : Stand p l e ({ frames := 0, cells := 0, slots := 0, locals := 0 } : Room) s m #[(.ref a), (.ref b)] below meth c s₁ [] 0 0 := Stand.of_body Bd
  have e0 : s₁.heap = h0 := by rw [← hh, Bd.state]; rfl
  have N0 := Fr.nil Z.heap.size
  have K0 : Keep h0 h0 [] := Keep.refl _ _
  refine own_start (Q := Q_own_rnn Z a b h0) (ef_own_rnn m (a) (b)) ?_
  show own_G p e below (s₁.setTop (mkF m 0 #[.val (.ref a), .val (.ref b)] [])) _
  refine own_go (fun t k => XS.aloadN X0.here hx rfl (hb hby d_jdk_31_method_11_code_0) rfl rfl k) ?_
  show own_G p e below (s₁.setTop (mkF m 1 #[.val (.ref a), .val (.ref b)] [(.ref a)])) _
  refine own_go (fun t k => XS.ifnonnullYes X0.here hx rfl (pc0 := 1) (pc' := 13) rfl (hb hby d_jdk_31_method_11_code_1) rfl (by decide) (by decide) k) ?_
  show own_G p e below (s₁.setTop (mkF m 13 #[.val (.ref a), .val (.ref b)] [])) _
  refine own_go (fun t k => XS.aloadN X0.here hx rfl (hb hby d_jdk_31_method_11_code_13) rfl rfl k) ?_
  show own_G p e below (s₁.setTop (mkF m 14 #[.val (.ref a), .val (.ref b)] [(.ref a)])) _
  exact own_ret X0 hx Bd.returns rfl (Or.inr (Or.inr (Or.inr (Or.inr ⟨rfl, rfl, rfl⟩)))) (hb hby d_jdk_31_method_11_code_14) hlk (Nat.le_of_ble_eq_true rfl) (Nat.le_of_ble_eq_true rfl) (by show Q_own_rnn Z a b h0 _ s₁.heap _; rw [e0]; exact ⟨rfl, N0, rfl⟩)
theorem ef_own_ord (m : MethodId) (x0 : Addr) : entryFrame m #[(.ref x0)] 1 = mkF m 0 #[.val (.ref x0)] [] := by first | (simp [entryFrame, mkF, argsToLocals, Value.category]; done) | rfl
theorem pf_own_ord : plainFor own_m2 = true := plainFor_of_name (by simp [plainName, overriddenIn])
theorem d_jdk_37_method_2_code_0 : decode jdk_37_method_2_code 0 = .ok (.aload_n 0, 1) := by decide +kernel
theorem d_jdk_37_method_2_code_1 : decode jdk_37_method_2_code 1 = .ok (.getfield 7, 3) := by decide +kernel
theorem d_jdk_37_method_2_code_4 : decode jdk_37_method_2_code 4 = .ok (.ireturn, 1) := by decide +kernel
def Q_own_ord (Z : State) (a : Addr) (n : Int32) (h0 : Heap) (v : Option Value) (h : Heap) (L : List Loc) : Prop := v = some (.int n) ∧ Fr Z.heap.size L ∧ h = h0
set_option maxRecDepth 65536 in
set_option maxHeartbeats 40000000 in
theorem own_ord (l : Launch) (Z : State) (a0 : Array Value) (hw : ∀ d ∈ tables_1, d.before a0 Z = true) (ws : List Jvm.Cond) (a : Addr) (n : Int32) (h0 : Heap) (O0 : Ext Z.heap h0) (FO : Fld Z Z.heap a "java/lang/Enum" "ordinal" "I" (.int n)) :
    MetFree l own_m2 (head1 (Jvm.Cond.code own_m2 jdk_37_method_2_code 1 (some .int) :: ws) ({ frames := 0, cells := 0, slots := 0, locals := 0 } : Room)) (fun aa U => aa = #[(.ref a)] ∧ Z.Warmed39 U.vm ∧ U.heap = h0) (fun _ _ _ _ _ => True) (fun _ U o U' => ∃ v L, o = .returned v ∧ Q_own_ord Z a n h0 v U'.heap L ∧ FrameEnd U o U' L ({ frames := 0, cells := 0, slots := 0, locals := 0 } : Room).cells ({ frames := 0, cells := 0, slots := 0, locals := 0 } : Room).slots) := by
  refine MetFree.of_bodySF pf_own_ord hisR ?_
  intro p e s m args below meth c s₁ Bd hml0 hP hK
  obtain ⟨rfl, hZ, hh⟩ := hP
  have hx := Bd.exec
  have hby := Bd.bytes
  have hlk := BodyLoose.notSynchronized Bd
  have hml : c.maxLocals = 1 := hml0
  have hown : s.vm.findClass "java/lang/Enum" = some m.cls := findClass_of_methodNamed Bd.named
  have hnm := (name_of_methodNamed Bd.named Bd.method).1
  have X0 : Stand p l e ({ frames := 0, cells := 0, slots := 0, locals := 0 } : Room) s m #[(.ref a)] below meth c s₁ [] 0 0 := Stand.of_body Bd
  have e0 : s₁.heap = h0 := by rw [← hh, Bd.state]; rfl
  have N0 := Fr.nil Z.heap.size
  have K0 : Keep h0 h0 [] := Keep.refl _ _
  refine own_start (Q := Q_own_ord Z a n h0) (ef_own_ord m (a)) ?_
  show own_G p e below (s₁.setTop (mkF m 0 #[.val (.ref a)] [])) _
  refine own_go (fun t k => XS.aloadN X0.here hx rfl (hb hby d_jdk_37_method_2_code_0) rfl rfl k) ?_
  show own_G p e below (s₁.setTop (mkF m 1 #[.val (.ref a)] [(.ref a)])) _
  obtain ⟨T1z, X1z, e1z, st1z⟩ := getF X0 hx hZ hown (host := "") (Or.inl (own_hw hw 33 rfl)) Via.refl e0 (FO.ext O0) (g := (mkF m 1 #[.val (.ref a)] [(.ref a)])) rfl rfl (hb hby d_jdk_37_method_2_code_1)
  refine own_go st1z ?_
  show own_G p e below (T1z.setTop (mkF m 4 #[.val (.ref a)] [(.int n)])) _
  exact own_ret X1z hx Bd.returns rfl (Or.inl ⟨rfl, Or.inl rfl, _, rfl⟩) (hb hby d_jdk_37_method_2_code_4) hlk (Nat.le_of_ble_eq_true rfl) (Nat.le_of_ble_eq_true rfl) (by show Q_own_ord Z a n h0 _ T1z.heap _; rw [e1z]; exact ⟨rfl, N0, rfl⟩)
theorem ef_own_canM (m : MethodId) (x0 : Addr) (x1 : Addr) : entryFrame m #[(.ref x0), (.ref x1)] 2 = mkF m 0 #[.val (.ref x0), .val (.ref x1)] [] := by first | (simp [entryFrame, mkF, argsToLocals, Value.category]; done) | rfl
theorem pf_own_canM : plainFor own_m3 = true := plainFor_of_name (by simp [plainName, overriddenIn])
theorem pd_3946442454 : parseMethodDescriptor "(Ljava/lang/Object;Ljava/lang/String;)Ljava/lang/Object;" = some ⟨[(.object "java/lang/Object"), (.object "java/lang/String")], some (.object "java/lang/Object")⟩ := by decide +kernel
theorem pd_193421983 : parseMethodDescriptor "()I" = some ⟨[], some .int⟩ := by decide +kernel
theorem d_prog_6_method_4_code_0 : decode prog_6_method_4_code 0 = .ok (.aload_n 1, 1) := by decide +kernel
theorem d_prog_6_method_4_code_1 : decode prog_6_method_4_code 1 = .ok (.ldc 35, 2) := by decide +kernel
theorem d_prog_6_method_4_code_101 : decode prog_6_method_4_code 101 = .ok (.iconst 1, 1) := by decide +kernel
theorem d_prog_6_method_4_code_102 : decode prog_6_method_4_code 102 = .ok (.goto 4, 3) := by decide +kernel
theorem d_prog_6_method_4_code_105 : decode prog_6_method_4_code 105 = .ok (.iconst 0, 1) := by decide +kernel
theorem d_prog_6_method_4_code_106 : decode prog_6_method_4_code 106 = .ok (.ireturn, 1) := by decide +kernel
theorem d_prog_6_method_4_code_11 : decode prog_6_method_4_code 11 = .ok (.tableswitch 29 0 3 #[39, 54, 83, 83], 29) := by decide +kernel
theorem d_prog_6_method_4_code_3 : decode prog_6_method_4_code 3 = .ok (.invokestatic 37, 3) := by decide +kernel
theorem d_prog_6_method_4_code_50 : decode prog_6_method_4_code 50 = .ok (.aload_n 1, 1) := by decide +kernel
theorem d_prog_6_method_4_code_51 : decode prog_6_method_4_code 51 = .ok (.getstatic 7, 3) := by decide +kernel
theorem d_prog_6_method_4_code_54 : decode prog_6_method_4_code 54 = .ok (.if_acmp .ne 7, 3) := by decide +kernel
theorem d_prog_6_method_4_code_57 : decode prog_6_method_4_code 57 = .ok (.iconst 1, 1) := by decide +kernel
theorem d_prog_6_method_4_code_58 : decode prog_6_method_4_code 58 = .ok (.goto 48, 3) := by decide +kernel
theorem d_prog_6_method_4_code_6 : decode prog_6_method_4_code 6 = .ok (.pop, 1) := by decide +kernel
theorem d_prog_6_method_4_code_61 : decode prog_6_method_4_code 61 = .ok (.iconst 0, 1) := by decide +kernel
theorem d_prog_6_method_4_code_62 : decode prog_6_method_4_code 62 = .ok (.goto 44, 3) := by decide +kernel
theorem d_prog_6_method_4_code_65 : decode prog_6_method_4_code 65 = .ok (.aload_n 1, 1) := by decide +kernel
theorem d_prog_6_method_4_code_66 : decode prog_6_method_4_code 66 = .ok (.getstatic 10, 3) := by decide +kernel
theorem d_prog_6_method_4_code_69 : decode prog_6_method_4_code 69 = .ok (.if_acmp .eq 17, 3) := by decide +kernel
theorem d_prog_6_method_4_code_7 : decode prog_6_method_4_code 7 = .ok (.aload_n 0, 1) := by decide +kernel
theorem d_prog_6_method_4_code_72 : decode prog_6_method_4_code 72 = .ok (.aload_n 1, 1) := by decide +kernel
theorem d_prog_6_method_4_code_73 : decode prog_6_method_4_code 73 = .ok (.getstatic 3, 3) := by decide +kernel
theorem d_prog_6_method_4_code_76 : decode prog_6_method_4_code 76 = .ok (.if_acmp .eq 10, 3) := by decide +kernel
theorem d_prog_6_method_4_code_79 : decode prog_6_method_4_code 79 = .ok (.aload_n 1, 1) := by decide +kernel
theorem d_prog_6_method_4_code_8 : decode prog_6_method_4_code 8 = .ok (.invokevirtual 43, 3) := by decide +kernel
theorem d_prog_6_method_4_code_80 : decode prog_6_method_4_code 80 = .ok (.getstatic 13, 3) := by decide +kernel
theorem d_prog_6_method_4_code_83 : decode prog_6_method_4_code 83 = .ok (.if_acmp .ne 7, 3) := by decide +kernel
theorem d_prog_6_method_4_code_86 : decode prog_6_method_4_code 86 = .ok (.iconst 1, 1) := by decide +kernel
theorem d_prog_6_method_4_code_87 : decode prog_6_method_4_code 87 = .ok (.goto 19, 3) := by decide +kernel
theorem d_prog_6_method_4_code_90 : decode prog_6_method_4_code 90 = .ok (.iconst 0, 1) := by decide +kernel
theorem d_prog_6_method_4_code_91 : decode prog_6_method_4_code 91 = .ok (.goto 15, 3) := by decide +kernel
theorem d_prog_6_method_4_code_94 : decode prog_6_method_4_code 94 = .ok (.aload_n 1, 1) := by decide +kernel
theorem d_prog_6_method_4_code_95 : decode prog_6_method_4_code 95 = .ok (.getstatic 3, 3) := by decide +kernel
theorem d_prog_6_method_4_code_98 : decode prog_6_method_4_code 98 = .ok (.if_acmp .ne 7, 3) := by decide +kernel
def Q_own_canM (Z : State) (a1 : Addr) (a2 : Addr) (n1 : Int32) (aP : Addr) (aC : Addr) (aU : Addr) (aD : Addr) (h0 : Heap) (v : Option Value) (h : Heap) (L : List Loc) : Prop := v = some (.int (own_can n1 a2 aP aC aU aD)) ∧ Fr Z.heap.size L ∧ Keep h0 h []
set_option maxRecDepth 65536 in
set_option maxHeartbeats 40000000 in
theorem own_canM (l : Launch) (Z : State) (a0 : Array Value) (hw : ∀ d ∈ tables_1, d.before a0 Z = true) (ws : List Jvm.Cond) (a1 : Addr) (a2 : Addr) (n1 : Int32) (aP : Addr) (aC : Addr) (aU : Addr) (aD : Addr) (h0 : Heap) (O0 : Ext Z.heap h0) (S_PENDING : Sta Z Z.heap "com/example/fledger/fledger/EventState" "PENDING" "Lcom/example/fledger/fledger/EventState;" (.ref aP)) (S_CLAIMED : Sta Z Z.heap "com/example/fledger/fledger/EventState" "CLAIMED" "Lcom/example/fledger/fledger/EventState;" (.ref aC)) (S_PUBLISHED : Sta Z Z.heap "com/example/fledger/fledger/EventState" "PUBLISHED" "Lcom/example/fledger/fledger/EventState;" (.ref aU)) (S_DEAD : Sta Z Z.heap "com/example/fledger/fledger/EventState" "DEAD" "Lcom/example/fledger/fledger/EventState;" (.ref aD)) (E1 : Exa Z Z.heap a1 "com/example/fledger/fledger/EventState") (FO : Fld Z Z.heap a1 "java/lang/Enum" "ordinal" "I" (.int n1)) (hn : n1 = 0 ∨ n1 = 1 ∨ n1 = 2 ∨ n1 = 3) :
    MetFree l own_m3 (head1 (Jvm.Cond.code own_m3 prog_6_method_4_code 2 (some .boolean) :: ws) ({ frames := 1, cells := 2, slots := 112, locals := 13 } : Room)) (fun aa U => aa = #[(.ref a1), (.ref a2)] ∧ Z.Warmed39 U.vm ∧ U.heap = h0) (fun _ _ _ _ _ => True) (fun _ U o U' => ∃ v L, o = .returned v ∧ Q_own_canM Z a1 a2 n1 aP aC aU aD h0 v U'.heap L ∧ ReturnedEndW U o U' L ({ frames := 1, cells := 2, slots := 112, locals := 13 } : Room).cells ({ frames := 1, cells := 2, slots := 112, locals := 13 } : Room).slots) := by
  refine MetFree.of_bodySF pf_own_canM hisR ?_
  intro p e s m args below meth c s₁ Bd hml0 hP hK
  obtain ⟨rfl, hZ, hh⟩ := hP
  have hx := Bd.exec
  have hby := Bd.bytes
  have hlk := BodyLoose.notSynchronized Bd
  have hml : c.maxLocals = 2 := hml0
  have hown : s.vm.findClass "com/example/fledger/fledger/EventState" = some m.cls := findClass_of_methodNamed Bd.named
  have hnm := (name_of_methodNamed Bd.named Bd.method).1
  have X0 : Stand p l e ({ frames := 1, cells := 2, slots := 112, locals := 13 } : Room) s m #[(.ref a1), (.ref a2)] below meth c s₁ [] 0 0 := Stand.of_body Bd
  have e0 : s₁.heap = h0 := by rw [← hh, Bd.state]; rfl
  have N0 := Fr.nil Z.heap.size
  have K0 : Keep h0 h0 [] := Keep.refl _ _
  have Si0 : s.Since s.vm h0.size := (State.WarmedH.refl s).since h0.size
  have Sn0 : h0.size ≤ h0.size := Nat.le_refl _
  have hZ : Z.Warmed39 (s.setVm s.vm).vm := hZ
  have hown : (s.setVm s.vm).vm.findClass "com/example/fledger/fledger/EventState" = some m.cls := hown
  have X0 := (show Stand _ _ _ _ (s.setVm s.vm) _ _ _ _ _ _ _ _ _ from X0)
  refine own_startW (Q := Q_own_canM Z a1 a2 n1 aP aC aU aD h0) (ef_own_canM m (a1) (a2)) ?_
  show own_G p e below (s₁.setTop (mkF m 0 #[.val (.ref a1), .val (.ref a2)] [])) _
  refine own_go (fun t k => XS.aloadN X0.here hx rfl (hb hby d_prog_6_method_4_code_0) rfl rfl k) ?_
  show own_G p e below (s₁.setTop (mkF m 1 #[.val (.ref a1), .val (.ref a2)] [(.ref a2)])) _
  obtain ⟨a1z, T1z, h1z, k1z, X1z, e1z, E1z, Si1z, Sn1z, hZ1z, hown1z, st1z⟩ := ldcS X0 hx hZ hown (own_hw hw 14 rfl) (own_wS hw) e0 Si0 Sn0 (g := (mkF m 1 #[.val (.ref a1), .val (.ref a2)] [(.ref a2)])) rfl (hb hby d_prog_6_method_4_code_1) (n := 108) (by decide) (by decide) (by decide) (by decide)
  refine own_go st1z ?_
  have O2z : Ext Z.heap h1z := own_ext_trans O0 E1z
  have K2z : Keep h0 h1z [] := K0.ext E1z
  show own_G p e below (T1z.setTop (mkF m 3 #[.val (.ref a1), .val (.ref a2)] [(.ref a1z), (.ref a2)])) _
  obtain ⟨_, _, ⟨T3z, L3z, k3z, n3z⟩, -, X3z, ⟨Lc3z, hQ3z, l3z, y3z, z3z⟩, st3z⟩ := Jvm.LawKit.callS X1z hx (y := own_m1) hown1z (mvT hZ1z (own_hw hw 22 rfl)) (mvT hZ1z (own_hw hw 23 rfl)) (mvT hZ1z (own_hw hw 24 rfl)) (mvT hZ1z (own_hw hw 25 rfl)) (by decide) (backOf (W := 0) (own_rnn l Z a0 hw [] a2 a1z h1z O2z) hZ1z (own_hw hw 25 rfl) (own_hw hw 24 rfl) (by decide) (by decide)) (g := (mkF m 3 #[.val (.ref a1), .val (.ref a2)] [(.ref a1z), (.ref a2)])) rfl (by rw [hml]; rfl) (argsL := [(.ref a2), (.ref a1z)]) (rest := []) (lenOf pd_3946442454 rfl) rfl (by show 2 * 0 + _ ≤ _; exact Nat.le_of_eq rfl) (hb hby d_prog_6_method_4_code_3) (fun _ _ => ⟨rfl, e1z, (by decide : 2 + 0 ≤ _), (by decide : 112 + 0 ≤ _)⟩)
  dsimp only [Pt.U, Pt.locs, Pt.cells, Pt.slots] at X3z l3z y3z z3z st3z hQ3z
  subst l3z y3z z3z
  obtain ⟨rfl, NQ3z, K3zq⟩ := hQ3z
  refine own_go st3z ?_
  have N3z := Fr.app N0 NQ3z
  show own_G p e below (T3z.setTop (mkF m 6 #[.val (.ref a1), .val (.ref a2)] [(.ref a2)])) _
  refine own_go (fun t k => XS.pop X3z.here hx rfl (hb hby d_prog_6_method_4_code_6) rfl rfl k) ?_
  show own_G p e below (T3z.setTop (mkF m 7 #[.val (.ref a1), .val (.ref a2)] [])) _
  refine own_go (fun t k => XS.aloadN X3z.here hx rfl (hb hby d_prog_6_method_4_code_7) rfl rfl k) ?_
  show own_G p e below (T3z.setTop (mkF m 8 #[.val (.ref a1), .val (.ref a2)] [(.ref a1)])) _
  obtain ⟨cq4z, kq4z, qa4z, qb4z, qc4z⟩ := isOf hZ1z K3zq (E1.ext O2z)
  obtain ⟨_, _, ⟨T4z, L4z, k4z, n4z⟩, -, X4z, ⟨Lc4z, hQ4z, l4z, y4z, z4z⟩, st4z⟩ := X3z.virtualBackUp hx (owner := "java/lang/Enum") (x := own_m4) (y := own_m2) hown1z (mvT hZ1z (own_hw hw 26 rfl)) (mvT hZ1z (own_hw hw 27 rfl)) (mvT hZ1z (own_hw hw 28 rfl)) (by decide) (mvT hZ1z (own_hw hw 30 rfl)) (mvT hZ1z (own_hw hw 29 rfl)) (backOf (W := 0) (own_ord l Z a0 hw [] a1 n1 h1z O2z FO) hZ1z (own_hw hw 32 rfl) (own_hw hw 31 rfl) (by decide) (by decide)) qa4z qc4z (g := (mkF m 8 #[.val (.ref a1), .val (.ref a2)] [(.ref a1)])) rfl (by rw [hml]; rfl) (Steps.refl _) (argsL := []) (rest := []) (lenOf pd_193421983 rfl) rfl (by show 2 * 0 + _ ≤ _; exact Nat.le_of_eq rfl) (hb hby d_prog_6_method_4_code_8) (fun _ _ => ⟨rfl, K3zq, (by decide : 2 + 0 ≤ _), (by decide : 112 + 0 ≤ _)⟩)
  dsimp only [Pt.U, Pt.locs, Pt.cells, Pt.slots] at X4z l4z y4z z4z st4z hQ4z
  subst l4z y4z z4z
  obtain ⟨rfl, NQ4z, K4zq⟩ := hQ4z
  refine own_tr st4z ?_
  have N4z := Fr.app N3z NQ4z
  show own_G p e below (T4z.setTop (mkF m 11 #[.val (.ref a1), .val (.ref a2)] [(.int n1)])) _
  rcases hn with hn | hn | hn | hn
  · refine own_go (fun t k => XS.tswIn X4z.here hx rfl (pc0 := 11) (pc' := 50) (o := 39) rfl (hb hby d_prog_6_method_4_code_11) rfl (by rw [hn]; decide) (by rw [hn]; decide) (by decide) (by decide) k) ?_
    show own_G p e below (T4z.setTop (mkF m 50 #[.val (.ref a1), .val (.ref a2)] [])) _
    refine own_go (fun t k => XS.aloadN X4z.here hx rfl (hb hby d_prog_6_method_4_code_50) rfl rfl k) ?_
    show own_G p e below (T4z.setTop (mkF m 51 #[.val (.ref a1), .val (.ref a2)] [(.ref a2)])) _
    obtain ⟨T5z, X5z, e5z, st5z⟩ := getS2 X4z hx hZ1z hown1z (host := "") (Or.inl (own_hw hw 35 rfl)) Via.refl K4zq (S_CLAIMED.ext O2z) (g := (mkF m 51 #[.val (.ref a1), .val (.ref a2)] [(.ref a2)])) rfl (hb hby d_prog_6_method_4_code_51)
    refine own_go st5z ?_
    show own_G p e below (T5z.setTop (mkF m 54 #[.val (.ref a1), .val (.ref a2)] [(.ref aC), (.ref a2)])) _
    by_cases hc6z : a2 = aC
    · refine own_go (fun t k => Jvm.RoadKit.acmp (g := (mkF m 54 #[.val (.ref a1), .val (.ref a2)] [(.ref aC), (.ref a2)])) X5z hx rfl rfl rfl (pc0 := 54) (pc' := 57) (same := true) rfl (hb hby d_prog_6_method_4_code_54) rfl (decide_eq_true (congrArg Value.ref hc6z)) (by decide) (by decide) k) ?_
      show own_G p e below (T5z.setTop (mkF m 57 #[.val (.ref a1), .val (.ref a2)] [])) _
      refine own_go (fun t k => XS.iconst X5z.here hx rfl (hb hby d_prog_6_method_4_code_57) k) ?_
      show own_G p e below (T5z.setTop (mkF m 58 #[.val (.ref a1), .val (.ref a2)] [(.int (1 : Int32))])) _
      refine own_go (fun t k => XS.goto X5z.here hx rfl (pc0 := 58) (pc' := 106) rfl (hb hby d_prog_6_method_4_code_58) (by decide) (by decide) k) ?_
      show own_G p e below (T5z.setTop (mkF m 106 #[.val (.ref a1), .val (.ref a2)] [(.int (1 : Int32))])) _
      exact own_retW X5z Si1z (by rw [e5z]; exact Sn1z) hx Bd.returns rfl (Or.inl ⟨rfl, Or.inr (Or.inl rfl), _, rfl⟩) (hb hby d_prog_6_method_4_code_106) hlk (Nat.le_of_ble_eq_true rfl) (Nat.le_of_ble_eq_true rfl) (by show Q_own_canM Z a1 a2 n1 aP aC aU aD h0 _ T5z.heap _; rw [e5z]; exact ⟨(by simp [own_can, hn, hc6z]), N4z, K2z⟩)
    · refine own_go (fun t k => Jvm.RoadKit.acmp (g := (mkF m 54 #[.val (.ref a1), .val (.ref a2)] [(.ref aC), (.ref a2)])) X5z hx rfl rfl rfl (pc0 := 54) (pc' := 61) (same := false) rfl (hb hby d_prog_6_method_4_code_54) rfl (decide_eq_false fun q => hc6z (Value.ref.inj q)) (by decide) (by decide) k) ?_
      show own_G p e below (T5z.setTop (mkF m 61 #[.val (.ref a1), .val (.ref a2)] [])) _
      refine own_go (fun t k => XS.iconst X5z.here hx rfl (hb hby d_prog_6_method_4_code_61) k) ?_
      show own_G p e below (T5z.setTop (mkF m 62 #[.val (.ref a1), .val (.ref a2)] [(.int (0 : Int32))])) _
      refine own_go (fun t k => XS.goto X5z.here hx rfl (pc0 := 62) (pc' := 106) rfl (hb hby d_prog_6_method_4_code_62) (by decide) (by decide) k) ?_
      show own_G p e below (T5z.setTop (mkF m 106 #[.val (.ref a1), .val (.ref a2)] [(.int (0 : Int32))])) _
      exact own_retW X5z Si1z (by rw [e5z]; exact Sn1z) hx Bd.returns rfl (Or.inl ⟨rfl, Or.inr (Or.inl rfl), _, rfl⟩) (hb hby d_prog_6_method_4_code_106) hlk (Nat.le_of_ble_eq_true rfl) (Nat.le_of_ble_eq_true rfl) (by show Q_own_canM Z a1 a2 n1 aP aC aU aD h0 _ T5z.heap _; rw [e5z]; exact ⟨(by simp [own_can, hn, hc6z]), N4z, K2z⟩)
  · refine own_go (fun t k => XS.tswIn X4z.here hx rfl (pc0 := 11) (pc' := 65) (o := 54) rfl (hb hby d_prog_6_method_4_code_11) rfl (by rw [hn]; decide) (by rw [hn]; decide) (by decide) (by decide) k) ?_
    show own_G p e below (T4z.setTop (mkF m 65 #[.val (.ref a1), .val (.ref a2)] [])) _
    refine own_go (fun t k => XS.aloadN X4z.here hx rfl (hb hby d_prog_6_method_4_code_65) rfl rfl k) ?_
    show own_G p e below (T4z.setTop (mkF m 66 #[.val (.ref a1), .val (.ref a2)] [(.ref a2)])) _
    obtain ⟨T7z, X7z, e7z, st7z⟩ := getS2 X4z hx hZ1z hown1z (host := "") (Or.inl (own_hw hw 41 rfl)) Via.refl K4zq (S_PUBLISHED.ext O2z) (g := (mkF m 66 #[.val (.ref a1), .val (.ref a2)] [(.ref a2)])) rfl (hb hby d_prog_6_method_4_code_66)
    refine own_go st7z ?_
    show own_G p e below (T7z.setTop (mkF m 69 #[.val (.ref a1), .val (.ref a2)] [(.ref aU), (.ref a2)])) _
    by_cases hc8z : a2 = aU
    · refine own_go (fun t k => Jvm.RoadKit.acmp (g := (mkF m 69 #[.val (.ref a1), .val (.ref a2)] [(.ref aU), (.ref a2)])) X7z hx rfl rfl rfl (pc0 := 69) (pc' := 86) (same := true) rfl (hb hby d_prog_6_method_4_code_69) rfl (decide_eq_true (congrArg Value.ref hc8z)) (by decide) (by decide) k) ?_
      show own_G p e below (T7z.setTop (mkF m 86 #[.val (.ref a1), .val (.ref a2)] [])) _
      refine own_go (fun t k => XS.iconst X7z.here hx rfl (hb hby d_prog_6_method_4_code_86) k) ?_
      show own_G p e below (T7z.setTop (mkF m 87 #[.val (.ref a1), .val (.ref a2)] [(.int (1 : Int32))])) _
      refine own_go (fun t k => XS.goto X7z.here hx rfl (pc0 := 87) (pc' := 106) rfl (hb hby d_prog_6_method_4_code_87) (by decide) (by decide) k) ?_
      show own_G p e below (T7z.setTop (mkF m 106 #[.val (.ref a1), .val (.ref a2)] [(.int (1 : Int32))])) _
      exact own_retW X7z Si1z (by rw [e7z]; exact Sn1z) hx Bd.returns rfl (Or.inl ⟨rfl, Or.inr (Or.inl rfl), _, rfl⟩) (hb hby d_prog_6_method_4_code_106) hlk (Nat.le_of_ble_eq_true rfl) (Nat.le_of_ble_eq_true rfl) (by show Q_own_canM Z a1 a2 n1 aP aC aU aD h0 _ T7z.heap _; rw [e7z]; exact ⟨(by simp [own_can, hn, hc8z]), N4z, K2z⟩)
    · refine own_go (fun t k => Jvm.RoadKit.acmp (g := (mkF m 69 #[.val (.ref a1), .val (.ref a2)] [(.ref aU), (.ref a2)])) X7z hx rfl rfl rfl (pc0 := 69) (pc' := 72) (same := false) rfl (hb hby d_prog_6_method_4_code_69) rfl (decide_eq_false fun q => hc8z (Value.ref.inj q)) (by decide) (by decide) k) ?_
      show own_G p e below (T7z.setTop (mkF m 72 #[.val (.ref a1), .val (.ref a2)] [])) _
      refine own_go (fun t k => XS.aloadN X7z.here hx rfl (hb hby d_prog_6_method_4_code_72) rfl rfl k) ?_
      show own_G p e below (T7z.setTop (mkF m 73 #[.val (.ref a1), .val (.ref a2)] [(.ref a2)])) _
      obtain ⟨T9z, X9z, e9z, st9z⟩ := getS2 X7z hx hZ1z hown1z (host := "") (Or.inl (own_hw hw 40 rfl)) Via.refl e7z (S_PENDING.ext O2z) (g := (mkF m 73 #[.val (.ref a1), .val (.ref a2)] [(.ref a2)])) rfl (hb hby d_prog_6_method_4_code_73)
      refine own_go st9z ?_
      show own_G p e below (T9z.setTop (mkF m 76 #[.val (.ref a1), .val (.ref a2)] [(.ref aP), (.ref a2)])) _
      by_cases hc10z : a2 = aP
      · refine own_go (fun t k => Jvm.RoadKit.acmp (g := (mkF m 76 #[.val (.ref a1), .val (.ref a2)] [(.ref aP), (.ref a2)])) X9z hx rfl rfl rfl (pc0 := 76) (pc' := 86) (same := true) rfl (hb hby d_prog_6_method_4_code_76) rfl (decide_eq_true (congrArg Value.ref hc10z)) (by decide) (by decide) k) ?_
        show own_G p e below (T9z.setTop (mkF m 86 #[.val (.ref a1), .val (.ref a2)] [])) _
        refine own_go (fun t k => XS.iconst X9z.here hx rfl (hb hby d_prog_6_method_4_code_86) k) ?_
        show own_G p e below (T9z.setTop (mkF m 87 #[.val (.ref a1), .val (.ref a2)] [(.int (1 : Int32))])) _
        refine own_go (fun t k => XS.goto X9z.here hx rfl (pc0 := 87) (pc' := 106) rfl (hb hby d_prog_6_method_4_code_87) (by decide) (by decide) k) ?_
        show own_G p e below (T9z.setTop (mkF m 106 #[.val (.ref a1), .val (.ref a2)] [(.int (1 : Int32))])) _
        exact own_retW X9z Si1z (by rw [e9z]; exact Sn1z) hx Bd.returns rfl (Or.inl ⟨rfl, Or.inr (Or.inl rfl), _, rfl⟩) (hb hby d_prog_6_method_4_code_106) hlk (Nat.le_of_ble_eq_true rfl) (Nat.le_of_ble_eq_true rfl) (by show Q_own_canM Z a1 a2 n1 aP aC aU aD h0 _ T9z.heap _; rw [e9z]; exact ⟨(by simp [own_can, hn, hc8z, hc10z]), N4z, K2z⟩)
      · refine own_go (fun t k => Jvm.RoadKit.acmp (g := (mkF m 76 #[.val (.ref a1), .val (.ref a2)] [(.ref aP), (.ref a2)])) X9z hx rfl rfl rfl (pc0 := 76) (pc' := 79) (same := false) rfl (hb hby d_prog_6_method_4_code_76) rfl (decide_eq_false fun q => hc10z (Value.ref.inj q)) (by decide) (by decide) k) ?_
        show own_G p e below (T9z.setTop (mkF m 79 #[.val (.ref a1), .val (.ref a2)] [])) _
        refine own_go (fun t k => XS.aloadN X9z.here hx rfl (hb hby d_prog_6_method_4_code_79) rfl rfl k) ?_
        show own_G p e below (T9z.setTop (mkF m 80 #[.val (.ref a1), .val (.ref a2)] [(.ref a2)])) _
        obtain ⟨T11z, X11z, e11z, st11z⟩ := getS2 X9z hx hZ1z hown1z (host := "") (Or.inl (own_hw hw 42 rfl)) Via.refl e9z (S_DEAD.ext O2z) (g := (mkF m 80 #[.val (.ref a1), .val (.ref a2)] [(.ref a2)])) rfl (hb hby d_prog_6_method_4_code_80)
        refine own_go st11z ?_
        show own_G p e below (T11z.setTop (mkF m 83 #[.val (.ref a1), .val (.ref a2)] [(.ref aD), (.ref a2)])) _
        by_cases hc12z : a2 = aD
        · refine own_go (fun t k => Jvm.RoadKit.acmp (g := (mkF m 83 #[.val (.ref a1), .val (.ref a2)] [(.ref aD), (.ref a2)])) X11z hx rfl rfl rfl (pc0 := 83) (pc' := 86) (same := true) rfl (hb hby d_prog_6_method_4_code_83) rfl (decide_eq_true (congrArg Value.ref hc12z)) (by decide) (by decide) k) ?_
          show own_G p e below (T11z.setTop (mkF m 86 #[.val (.ref a1), .val (.ref a2)] [])) _
          refine own_go (fun t k => XS.iconst X11z.here hx rfl (hb hby d_prog_6_method_4_code_86) k) ?_
          show own_G p e below (T11z.setTop (mkF m 87 #[.val (.ref a1), .val (.ref a2)] [(.int (1 : Int32))])) _
          refine own_go (fun t k => XS.goto X11z.here hx rfl (pc0 := 87) (pc' := 106) rfl (hb hby d_prog_6_method_4_code_87) (by decide) (by decide) k) ?_
          show own_G p e below (T11z.setTop (mkF m 106 #[.val (.ref a1), .val (.ref a2)] [(.int (1 : Int32))])) _
          exact own_retW X11z Si1z (by rw [e11z]; exact Sn1z) hx Bd.returns rfl (Or.inl ⟨rfl, Or.inr (Or.inl rfl), _, rfl⟩) (hb hby d_prog_6_method_4_code_106) hlk (Nat.le_of_ble_eq_true rfl) (Nat.le_of_ble_eq_true rfl) (by show Q_own_canM Z a1 a2 n1 aP aC aU aD h0 _ T11z.heap _; rw [e11z]; exact ⟨(by simp [own_can, hn, hc8z, hc10z, hc12z]), N4z, K2z⟩)
        · refine own_go (fun t k => Jvm.RoadKit.acmp (g := (mkF m 83 #[.val (.ref a1), .val (.ref a2)] [(.ref aD), (.ref a2)])) X11z hx rfl rfl rfl (pc0 := 83) (pc' := 90) (same := false) rfl (hb hby d_prog_6_method_4_code_83) rfl (decide_eq_false fun q => hc12z (Value.ref.inj q)) (by decide) (by decide) k) ?_
          show own_G p e below (T11z.setTop (mkF m 90 #[.val (.ref a1), .val (.ref a2)] [])) _
          refine own_go (fun t k => XS.iconst X11z.here hx rfl (hb hby d_prog_6_method_4_code_90) k) ?_
          show own_G p e below (T11z.setTop (mkF m 91 #[.val (.ref a1), .val (.ref a2)] [(.int (0 : Int32))])) _
          refine own_go (fun t k => XS.goto X11z.here hx rfl (pc0 := 91) (pc' := 106) rfl (hb hby d_prog_6_method_4_code_91) (by decide) (by decide) k) ?_
          show own_G p e below (T11z.setTop (mkF m 106 #[.val (.ref a1), .val (.ref a2)] [(.int (0 : Int32))])) _
          exact own_retW X11z Si1z (by rw [e11z]; exact Sn1z) hx Bd.returns rfl (Or.inl ⟨rfl, Or.inr (Or.inl rfl), _, rfl⟩) (hb hby d_prog_6_method_4_code_106) hlk (Nat.le_of_ble_eq_true rfl) (Nat.le_of_ble_eq_true rfl) (by show Q_own_canM Z a1 a2 n1 aP aC aU aD h0 _ T11z.heap _; rw [e11z]; exact ⟨(by simp [own_can, hn, hc8z, hc10z, hc12z]), N4z, K2z⟩)
  · refine own_go (fun t k => XS.tswIn X4z.here hx rfl (pc0 := 11) (pc' := 94) (o := 83) rfl (hb hby d_prog_6_method_4_code_11) rfl (by rw [hn]; decide) (by rw [hn]; decide) (by decide) (by decide) k) ?_
    show own_G p e below (T4z.setTop (mkF m 94 #[.val (.ref a1), .val (.ref a2)] [])) _
    refine own_go (fun t k => XS.aloadN X4z.here hx rfl (hb hby d_prog_6_method_4_code_94) rfl rfl k) ?_
    show own_G p e below (T4z.setTop (mkF m 95 #[.val (.ref a1), .val (.ref a2)] [(.ref a2)])) _
    obtain ⟨T13z, X13z, e13z, st13z⟩ := getS2 X4z hx hZ1z hown1z (host := "") (Or.inl (own_hw hw 40 rfl)) Via.refl K4zq (S_PENDING.ext O2z) (g := (mkF m 95 #[.val (.ref a1), .val (.ref a2)] [(.ref a2)])) rfl (hb hby d_prog_6_method_4_code_95)
    refine own_go st13z ?_
    show own_G p e below (T13z.setTop (mkF m 98 #[.val (.ref a1), .val (.ref a2)] [(.ref aP), (.ref a2)])) _
    by_cases hc14z : a2 = aP
    · refine own_go (fun t k => Jvm.RoadKit.acmp (g := (mkF m 98 #[.val (.ref a1), .val (.ref a2)] [(.ref aP), (.ref a2)])) X13z hx rfl rfl rfl (pc0 := 98) (pc' := 101) (same := true) rfl (hb hby d_prog_6_method_4_code_98) rfl (decide_eq_true (congrArg Value.ref hc14z)) (by decide) (by decide) k) ?_
      show own_G p e below (T13z.setTop (mkF m 101 #[.val (.ref a1), .val (.ref a2)] [])) _
      refine own_go (fun t k => XS.iconst X13z.here hx rfl (hb hby d_prog_6_method_4_code_101) k) ?_
      show own_G p e below (T13z.setTop (mkF m 102 #[.val (.ref a1), .val (.ref a2)] [(.int (1 : Int32))])) _
      refine own_go (fun t k => XS.goto X13z.here hx rfl (pc0 := 102) (pc' := 106) rfl (hb hby d_prog_6_method_4_code_102) (by decide) (by decide) k) ?_
      show own_G p e below (T13z.setTop (mkF m 106 #[.val (.ref a1), .val (.ref a2)] [(.int (1 : Int32))])) _
      exact own_retW X13z Si1z (by rw [e13z]; exact Sn1z) hx Bd.returns rfl (Or.inl ⟨rfl, Or.inr (Or.inl rfl), _, rfl⟩) (hb hby d_prog_6_method_4_code_106) hlk (Nat.le_of_ble_eq_true rfl) (Nat.le_of_ble_eq_true rfl) (by show Q_own_canM Z a1 a2 n1 aP aC aU aD h0 _ T13z.heap _; rw [e13z]; exact ⟨(by simp [own_can, hn, hc14z]), N4z, K2z⟩)
    · refine own_go (fun t k => Jvm.RoadKit.acmp (g := (mkF m 98 #[.val (.ref a1), .val (.ref a2)] [(.ref aP), (.ref a2)])) X13z hx rfl rfl rfl (pc0 := 98) (pc' := 105) (same := false) rfl (hb hby d_prog_6_method_4_code_98) rfl (decide_eq_false fun q => hc14z (Value.ref.inj q)) (by decide) (by decide) k) ?_
      show own_G p e below (T13z.setTop (mkF m 105 #[.val (.ref a1), .val (.ref a2)] [])) _
      refine own_go (fun t k => XS.iconst X13z.here hx rfl (hb hby d_prog_6_method_4_code_105) k) ?_
      show own_G p e below (T13z.setTop (mkF m 106 #[.val (.ref a1), .val (.ref a2)] [(.int (0 : Int32))])) _
      exact own_retW X13z Si1z (by rw [e13z]; exact Sn1z) hx Bd.returns rfl (Or.inl ⟨rfl, Or.inr (Or.inl rfl), _, rfl⟩) (hb hby d_prog_6_method_4_code_106) hlk (Nat.le_of_ble_eq_true rfl) (Nat.le_of_ble_eq_true rfl) (by show Q_own_canM Z a1 a2 n1 aP aC aU aD h0 _ T13z.heap _; rw [e13z]; exact ⟨(by simp [own_can, hn, hc14z]), N4z, K2z⟩)
  · refine own_go (fun t k => XS.tswIn X4z.here hx rfl (pc0 := 11) (pc' := 94) (o := 83) rfl (hb hby d_prog_6_method_4_code_11) rfl (by rw [hn]; decide) (by rw [hn]; decide) (by decide) (by decide) k) ?_
    show own_G p e below (T4z.setTop (mkF m 94 #[.val (.ref a1), .val (.ref a2)] [])) _
    refine own_go (fun t k => XS.aloadN X4z.here hx rfl (hb hby d_prog_6_method_4_code_94) rfl rfl k) ?_
    show own_G p e below (T4z.setTop (mkF m 95 #[.val (.ref a1), .val (.ref a2)] [(.ref a2)])) _
    obtain ⟨T15z, X15z, e15z, st15z⟩ := getS2 X4z hx hZ1z hown1z (host := "") (Or.inl (own_hw hw 40 rfl)) Via.refl K4zq (S_PENDING.ext O2z) (g := (mkF m 95 #[.val (.ref a1), .val (.ref a2)] [(.ref a2)])) rfl (hb hby d_prog_6_method_4_code_95)
    refine own_go st15z ?_
    show own_G p e below (T15z.setTop (mkF m 98 #[.val (.ref a1), .val (.ref a2)] [(.ref aP), (.ref a2)])) _
    by_cases hc16z : a2 = aP
    · refine own_go (fun t k => Jvm.RoadKit.acmp (g := (mkF m 98 #[.val (.ref a1), .val (.ref a2)] [(.ref aP), (.ref a2)])) X15z hx rfl rfl rfl (pc0 := 98) (pc' := 101) (same := true) rfl (hb hby d_prog_6_method_4_code_98) rfl (decide_eq_true (congrArg Value.ref hc16z)) (by decide) (by decide) k) ?_
      show own_G p e below (T15z.setTop (mkF m 101 #[.val (.ref a1), .val (.ref a2)] [])) _
      refine own_go (fun t k => XS.iconst X15z.here hx rfl (hb hby d_prog_6_method_4_code_101) k) ?_
      show own_G p e below (T15z.setTop (mkF m 102 #[.val (.ref a1), .val (.ref a2)] [(.int (1 : Int32))])) _
      refine own_go (fun t k => XS.goto X15z.here hx rfl (pc0 := 102) (pc' := 106) rfl (hb hby d_prog_6_method_4_code_102) (by decide) (by decide) k) ?_
      show own_G p e below (T15z.setTop (mkF m 106 #[.val (.ref a1), .val (.ref a2)] [(.int (1 : Int32))])) _
      exact own_retW X15z Si1z (by rw [e15z]; exact Sn1z) hx Bd.returns rfl (Or.inl ⟨rfl, Or.inr (Or.inl rfl), _, rfl⟩) (hb hby d_prog_6_method_4_code_106) hlk (Nat.le_of_ble_eq_true rfl) (Nat.le_of_ble_eq_true rfl) (by show Q_own_canM Z a1 a2 n1 aP aC aU aD h0 _ T15z.heap _; rw [e15z]; exact ⟨(by simp [own_can, hn, hc16z]), N4z, K2z⟩)
    · refine own_go (fun t k => Jvm.RoadKit.acmp (g := (mkF m 98 #[.val (.ref a1), .val (.ref a2)] [(.ref aP), (.ref a2)])) X15z hx rfl rfl rfl (pc0 := 98) (pc' := 105) (same := false) rfl (hb hby d_prog_6_method_4_code_98) rfl (decide_eq_false fun q => hc16z (Value.ref.inj q)) (by decide) (by decide) k) ?_
      show own_G p e below (T15z.setTop (mkF m 105 #[.val (.ref a1), .val (.ref a2)] [])) _
      refine own_go (fun t k => XS.iconst X15z.here hx rfl (hb hby d_prog_6_method_4_code_105) k) ?_
      show own_G p e below (T15z.setTop (mkF m 106 #[.val (.ref a1), .val (.ref a2)] [(.int (0 : Int32))])) _
      exact own_retW X15z Si1z (by rw [e15z]; exact Sn1z) hx Bd.returns rfl (Or.inl ⟨rfl, Or.inr (Or.inl rfl), _, rfl⟩) (hb hby d_prog_6_method_4_code_106) hlk (Nat.le_of_ble_eq_true rfl) (Nat.le_of_ble_eq_true rfl) (by show Q_own_canM Z a1 a2 n1 aP aC aU aD h0 _ T15z.heap _; rw [e15z]; exact ⟨(by simp [own_can, hn, hc16z]), N4z, K2z⟩)
theorem ef_own_law (m : MethodId) (x0 : Int32) (x1 : Int32) : entryFrame m #[(.int x0), (.int x1)] maxLocals = mkF m 0 #[.val (.int x0), .val (.int x1), .unset, .unset, .unset, .unset] [] := by first | (simp [entryFrame, mkF, argsToLocals, Value.category, maxLocals]; done) | rfl
theorem pf_own_law : plainFor x = true := plainFor_of_name (by simp [plainName, overriddenIn, x])
theorem pd_693597538 : parseMethodDescriptor "(I)Lcom/example/fledger/fledger/EventState;" = some ⟨[.int], some (.object "com/example/fledger/fledger/EventState")⟩ := by decide +kernel
theorem pd_3494130739 : parseMethodDescriptor "(Lcom/example/fledger/fledger/EventState;)Z" = some ⟨[(.object "com/example/fledger/fledger/EventState")], some .boolean⟩ := by decide +kernel
def Q_own_law (Z : State) (p1 : Int32) (p2 : Int32) (aP : Addr) (aC : Addr) (aU : Addr) (aD : Addr) (h0 : Heap) (v : Option Value) (h : Heap) (L : List Loc) : Prop := v = some (.int (1 : Int32)) ∧ Fr Z.heap.size L ∧ Keep h0 h []
set_option maxRecDepth 65536 in
set_option maxHeartbeats 40000000 in
theorem own_law (l : Launch) (Z : State) (a0 : Array Value) (hw : ∀ d ∈ tables_1, d.before a0 Z = true) (ws : List Jvm.Cond) (p1 : Int32) (p2 : Int32) (aP : Addr) (aC : Addr) (aU : Addr) (aD : Addr) (h0 : Heap) (O0 : Ext Z.heap h0) (S_PENDING : Sta Z Z.heap "com/example/fledger/fledger/EventState" "PENDING" "Lcom/example/fledger/fledger/EventState;" (.ref aP)) (S_CLAIMED : Sta Z Z.heap "com/example/fledger/fledger/EventState" "CLAIMED" "Lcom/example/fledger/fledger/EventState;" (.ref aC)) (S_PUBLISHED : Sta Z Z.heap "com/example/fledger/fledger/EventState" "PUBLISHED" "Lcom/example/fledger/fledger/EventState;" (.ref aU)) (S_DEAD : Sta Z Z.heap "com/example/fledger/fledger/EventState" "DEAD" "Lcom/example/fledger/fledger/EventState;" (.ref aD)) (E_PENDING : Exa Z Z.heap aP "com/example/fledger/fledger/EventState") (E_CLAIMED : Exa Z Z.heap aC "com/example/fledger/fledger/EventState") (E_PUBLISHED : Exa Z Z.heap aU "com/example/fledger/fledger/EventState") (E_DEAD : Exa Z Z.heap aD "com/example/fledger/fledger/EventState") (F_PENDING : Fld Z Z.heap aP "java/lang/Enum" "ordinal" "I" (.int (0 : Int32))) (F_CLAIMED : Fld Z Z.heap aC "java/lang/Enum" "ordinal" "I" (.int (1 : Int32))) (F_PUBLISHED : Fld Z Z.heap aU "java/lang/Enum" "ordinal" "I" (.int (2 : Int32))) (F_DEAD : Fld Z Z.heap aD "java/lang/Enum" "ordinal" "I" (.int (3 : Int32))) (ne_aPaC : aP ≠ aC) (ne_aPaU : aP ≠ aU) (ne_aPaD : aP ≠ aD) (ne_aCaU : aC ≠ aU) (ne_aCaD : aC ≠ aD) (ne_aUaD : aU ≠ aD) :
    MetFree l x (head1 (Jvm.Cond.code x code maxLocals ret :: ws) room_1) (fun aa U => aa = #[(.int p1), (.int p2)] ∧ Z.Warmed39 U.vm ∧ U.heap = h0) (fun _ _ _ _ _ => True) (fun _ U o U' => ∃ v L, o = .returned v ∧ Q_own_law Z p1 p2 aP aC aU aD h0 v U'.heap L ∧ ReturnedEndW U o U' L room_1.cells room_1.slots) := by
  refine MetFree.of_bodySF pf_own_law hisR ?_
  intro p e s m args below meth c s₁ Bd hml0 hP hK
  obtain ⟨rfl, hZ, hh⟩ := hP
  have hx := Bd.exec
  have hby := Bd.bytes
  have hlk := BodyLoose.notSynchronized Bd
  have hml : c.maxLocals = 6 := hml0
  have hown : s.vm.findClass "com/example/fledger/fledger/EventStateCanMoveToPinLaw" = some m.cls := findClass_of_methodNamed Bd.named
  have hnm := (name_of_methodNamed Bd.named Bd.method).1
  have X0 : Stand p l e room_1 s m #[(.int p1), (.int p2)] below meth c s₁ [] 0 0 := Stand.of_body Bd
  have e0 : s₁.heap = h0 := by rw [← hh, Bd.state]; rfl
  have N0 := Fr.nil Z.heap.size
  have K0 : Keep h0 h0 [] := Keep.refl _ _
  have Si0 : s.Since s.vm h0.size := (State.WarmedH.refl s).since h0.size
  have Sn0 : h0.size ≤ h0.size := Nat.le_refl _
  have hZ : Z.Warmed39 (s.setVm s.vm).vm := hZ
  have hown : (s.setVm s.vm).vm.findClass "com/example/fledger/fledger/EventStateCanMoveToPinLaw" = some m.cls := hown
  have X0 := (show Stand _ _ _ _ (s.setVm s.vm) _ _ _ _ _ _ _ _ _ from X0)
  refine own_startW (Q := Q_own_law Z p1 p2 aP aC aU aD h0) (ef_own_law m (p1) (p2)) ?_
  show own_G p e below (s₁.setTop (mkF m 0 #[.val (.int p1), .val (.int p2), .unset, .unset, .unset, .unset] [])) _
  refine own_go (fun t k => XS.iloadN X0.here hx rfl (hb hby at_0) rfl k) ?_
  show own_G p e below (s₁.setTop (mkF m 1 #[.val (.int p1), .val (.int p2), .unset, .unset, .unset, .unset] [(.int p1)])) _
  refine own_go (fun t k => XS.iconst X0.here hx rfl (hb hby at_1) k) ?_
  show own_G p e below (s₁.setTop (mkF m 2 #[.val (.int p1), .val (.int p2), .unset, .unset, .unset, .unset] [(.int (3 : Int32)), (.int p1)])) _
  refine own_go (fun t k => XS.iand X0.here hx rfl (hb hby at_2) rfl k) ?_
  show own_G p e below (s₁.setTop (mkF m 3 #[.val (.int p1), .val (.int p2), .unset, .unset, .unset, .unset] [(.int (p1 &&& (3 : Int32)))])) _
  refine own_go (fun t k => XS.istoreN X0.here hx rfl (hb hby at_3) rfl (l' := #[.val (.int p1), .val (.int p2), .val (.int (p1 &&& (3 : Int32))), .unset, .unset, .unset]) rfl k) ?_
  show own_G p e below (s₁.setTop (mkF m 4 #[.val (.int p1), .val (.int p2), .val (.int (p1 &&& (3 : Int32))), .unset, .unset, .unset] [])) _
  refine own_go (fun t k => XS.iloadN X0.here hx rfl (hb hby at_4) rfl k) ?_
  show own_G p e below (s₁.setTop (mkF m 5 #[.val (.int p1), .val (.int p2), .val (.int (p1 &&& (3 : Int32))), .unset, .unset, .unset] [(.int p2)])) _
  refine own_go (fun t k => XS.iconst X0.here hx rfl (hb hby at_5) k) ?_
  show own_G p e below (s₁.setTop (mkF m 6 #[.val (.int p1), .val (.int p2), .val (.int (p1 &&& (3 : Int32))), .unset, .unset, .unset] [(.int (3 : Int32)), (.int p2)])) _
  refine own_go (fun t k => XS.iand X0.here hx rfl (hb hby at_6) rfl k) ?_
  show own_G p e below (s₁.setTop (mkF m 7 #[.val (.int p1), .val (.int p2), .val (.int (p1 &&& (3 : Int32))), .unset, .unset, .unset] [(.int (p2 &&& (3 : Int32)))])) _
  refine own_go (fun t k => XS.istoreN X0.here hx rfl (hb hby at_7) rfl (l' := #[.val (.int p1), .val (.int p2), .val (.int (p1 &&& (3 : Int32))), .val (.int (p2 &&& (3 : Int32))), .unset, .unset]) rfl k) ?_
  show own_G p e below (s₁.setTop (mkF m 8 #[.val (.int p1), .val (.int p2), .val (.int (p1 &&& (3 : Int32))), .val (.int (p2 &&& (3 : Int32))), .unset, .unset] [])) _
  refine own_go (fun t k => XS.sipush X0.here hx rfl (hb hby at_8) k) ?_
  show own_G p e below (s₁.setTop (mkF m 11 #[.val (.int p1), .val (.int p2), .val (.int (p1 &&& (3 : Int32))), .val (.int (p2 &&& (3 : Int32))), .unset, .unset] [(.int (4562 : Int32))])) _
  refine own_go (fun t k => XS.iloadN X0.here hx rfl (hb hby at_11) rfl k) ?_
  show own_G p e below (s₁.setTop (mkF m 12 #[.val (.int p1), .val (.int p2), .val (.int (p1 &&& (3 : Int32))), .val (.int (p2 &&& (3 : Int32))), .unset, .unset] [(.int (p1 &&& (3 : Int32))), (.int (4562 : Int32))])) _
  refine own_go (fun t k => XS.iconst X0.here hx rfl (hb hby at_12) k) ?_
  show own_G p e below (s₁.setTop (mkF m 13 #[.val (.int p1), .val (.int p2), .val (.int (p1 &&& (3 : Int32))), .val (.int (p2 &&& (3 : Int32))), .unset, .unset] [(.int (4 : Int32)), (.int (p1 &&& (3 : Int32))), (.int (4562 : Int32))])) _
  refine own_go (fun t k => XS.imul X0.here hx rfl (hb hby at_13) rfl k) ?_
  show own_G p e below (s₁.setTop (mkF m 14 #[.val (.int p1), .val (.int p2), .val (.int (p1 &&& (3 : Int32))), .val (.int (p2 &&& (3 : Int32))), .unset, .unset] [(.int ((p1 &&& (3 : Int32)) * (4 : Int32))), (.int (4562 : Int32))])) _
  refine own_go (fun t k => XS.iloadN X0.here hx rfl (hb hby at_14) rfl k) ?_
  show own_G p e below (s₁.setTop (mkF m 15 #[.val (.int p1), .val (.int p2), .val (.int (p1 &&& (3 : Int32))), .val (.int (p2 &&& (3 : Int32))), .unset, .unset] [(.int (p2 &&& (3 : Int32))), (.int ((p1 &&& (3 : Int32)) * (4 : Int32))), (.int (4562 : Int32))])) _
  refine own_go (fun t k => XS.iadd X0.here hx rfl (hb hby at_15) rfl k) ?_
  show own_G p e below (s₁.setTop (mkF m 16 #[.val (.int p1), .val (.int p2), .val (.int (p1 &&& (3 : Int32))), .val (.int (p2 &&& (3 : Int32))), .unset, .unset] [(.int (((p1 &&& (3 : Int32)) * (4 : Int32)) + (p2 &&& (3 : Int32)))), (.int (4562 : Int32))])) _
  refine own_go (fun t k => XS.ishr X0.here hx rfl (hb hby at_16) rfl k) ?_
  show own_G p e below (s₁.setTop (mkF m 17 #[.val (.int p1), .val (.int p2), .val (.int (p1 &&& (3 : Int32))), .val (.int (p2 &&& (3 : Int32))), .unset, .unset] [(.int ((4562 : Int32) >>> ((((p1 &&& (3 : Int32)) * (4 : Int32)) + (p2 &&& (3 : Int32))) &&& 31)))])) _
  refine own_go (fun t k => XS.iconst X0.here hx rfl (hb hby at_17) k) ?_
  show own_G p e below (s₁.setTop (mkF m 18 #[.val (.int p1), .val (.int p2), .val (.int (p1 &&& (3 : Int32))), .val (.int (p2 &&& (3 : Int32))), .unset, .unset] [(.int (1 : Int32)), (.int ((4562 : Int32) >>> ((((p1 &&& (3 : Int32)) * (4 : Int32)) + (p2 &&& (3 : Int32))) &&& 31)))])) _
  refine own_go (fun t k => XS.iand X0.here hx rfl (hb hby at_18) rfl k) ?_
  show own_G p e below (s₁.setTop (mkF m 19 #[.val (.int p1), .val (.int p2), .val (.int (p1 &&& (3 : Int32))), .val (.int (p2 &&& (3 : Int32))), .unset, .unset] [(.int (((4562 : Int32) >>> ((((p1 &&& (3 : Int32)) * (4 : Int32)) + (p2 &&& (3 : Int32))) &&& 31)) &&& (1 : Int32)))])) _
  by_cases hc1z : (((4562 : Int32) >>> ((((p1 &&& (3 : Int32)) * (4 : Int32)) + (p2 &&& (3 : Int32))) &&& 31)) &&& (1 : Int32)) = (0 : Int32)
  · refine own_go (fun t k => XS.ifYes X0.here hx rfl (pc0 := 19) (pc' := 26) rfl (hb hby at_19) rfl ((if0 _ _).trans (teq hc1z).1) (by decide) (by decide) k) ?_
    show own_G p e below (s₁.setTop (mkF m 26 #[.val (.int p1), .val (.int p2), .val (.int (p1 &&& (3 : Int32))), .val (.int (p2 &&& (3 : Int32))), .unset, .unset] [])) _
    refine own_go (fun t k => XS.iconst X0.here hx rfl (hb hby at_26) k) ?_
    show own_G p e below (s₁.setTop (mkF m 27 #[.val (.int p1), .val (.int p2), .val (.int (p1 &&& (3 : Int32))), .val (.int (p2 &&& (3 : Int32))), .unset, .unset] [(.int (0 : Int32))])) _
    refine own_go (fun t k => XS.istore X0.here hx rfl (hb hby at_27) rfl (l' := #[.val (.int p1), .val (.int p2), .val (.int (p1 &&& (3 : Int32))), .val (.int (p2 &&& (3 : Int32))), .val (.int (0 : Int32)), .unset]) rfl k) ?_
    show own_G p e below (s₁.setTop (mkF m 29 #[.val (.int p1), .val (.int p2), .val (.int (p1 &&& (3 : Int32))), .val (.int (p2 &&& (3 : Int32))), .val (.int (0 : Int32)), .unset] [])) _
    refine own_go (fun t k => XS.iloadN X0.here hx rfl (hb hby at_29) rfl k) ?_
    show own_G p e below (s₁.setTop (mkF m 30 #[.val (.int p1), .val (.int p2), .val (.int (p1 &&& (3 : Int32))), .val (.int (p2 &&& (3 : Int32))), .val (.int (0 : Int32)), .unset] [(.int (p1 &&& (3 : Int32)))])) _
    obtain ⟨_, _, ⟨T2z, L2z, k2z, n2z⟩, -, X2z, ⟨Lc2z, hQ2z, l2z, y2z, z2z⟩, st2z⟩ := Jvm.LawKit.callS X0 hx (y := own_m0) hown (mvT hZ (own_hw hw 0 rfl)) (mvT hZ (own_hw hw 1 rfl)) (mvT hZ (own_hw hw 2 rfl)) (mvT hZ (own_hw hw 3 rfl)) (by decide) (backOf (W := 0) (own_pickM l Z a0 hw [] (p1 &&& (3 : Int32)) aP aC aU aD h0 O0 S_PENDING S_CLAIMED S_PUBLISHED S_DEAD) hZ (own_hw hw 3 rfl) (own_hw hw 2 rfl) (by decide) (by decide)) (g := (mkF m 30 #[.val (.int p1), .val (.int p2), .val (.int (p1 &&& (3 : Int32))), .val (.int (p2 &&& (3 : Int32))), .val (.int (0 : Int32)), .unset] [(.int (p1 &&& (3 : Int32)))])) rfl (by rw [hml]; rfl) (argsL := [(.int (p1 &&& (3 : Int32)))]) (rest := []) (lenOf pd_693597538 rfl) rfl (by show 2 * 0 + _ ≤ _; exact Nat.le_of_eq rfl) (hb hby at_30) (fun _ _ => ⟨rfl, e0, (by decide : 0 + 0 ≤ _), (by decide : 0 + 0 ≤ _)⟩)
    dsimp only [Pt.U, Pt.locs, Pt.cells, Pt.slots] at X2z l2z y2z z2z st2z hQ2z
    subst l2z y2z z2z
    obtain ⟨rfl, NQ2z, K2zq⟩ := hQ2z
    refine own_go st2z ?_
    have N2z := Fr.app N0 NQ2z
    show own_G p e below (T2z.setTop (mkF m 33 #[.val (.int p1), .val (.int p2), .val (.int (p1 &&& (3 : Int32))), .val (.int (p2 &&& (3 : Int32))), .val (.int (0 : Int32)), .unset] [(.ref (own_pick (p1 &&& (3 : Int32)) aP aC aU aD))])) _
    refine own_go (fun t k => XS.iloadN X2z.here hx rfl (hb hby at_33) rfl k) ?_
    show own_G p e below (T2z.setTop (mkF m 34 #[.val (.int p1), .val (.int p2), .val (.int (p1 &&& (3 : Int32))), .val (.int (p2 &&& (3 : Int32))), .val (.int (0 : Int32)), .unset] [(.int (p2 &&& (3 : Int32))), (.ref (own_pick (p1 &&& (3 : Int32)) aP aC aU aD))])) _
    obtain ⟨_, _, ⟨T3z, L3z, k3z, n3z⟩, -, X3z, ⟨Lc3z, hQ3z, l3z, y3z, z3z⟩, st3z⟩ := Jvm.LawKit.callS X2z hx (y := own_m0) hown (mvT hZ (own_hw hw 0 rfl)) (mvT hZ (own_hw hw 1 rfl)) (mvT hZ (own_hw hw 2 rfl)) (mvT hZ (own_hw hw 3 rfl)) (by decide) (backOf (W := 1) (own_pickM l Z a0 hw [] (p2 &&& (3 : Int32)) aP aC aU aD h0 O0 S_PENDING S_CLAIMED S_PUBLISHED S_DEAD) hZ (own_hw hw 3 rfl) (own_hw hw 2 rfl) (by decide) (by decide)) (g := (mkF m 34 #[.val (.int p1), .val (.int p2), .val (.int (p1 &&& (3 : Int32))), .val (.int (p2 &&& (3 : Int32))), .val (.int (0 : Int32)), .unset] [(.int (p2 &&& (3 : Int32))), (.ref (own_pick (p1 &&& (3 : Int32)) aP aC aU aD))])) rfl (by rw [hml]; rfl) (argsL := [(.int (p2 &&& (3 : Int32)))]) (rest := [(.ref (own_pick (p1 &&& (3 : Int32)) aP aC aU aD))]) (lenOf pd_693597538 rfl) rfl (by show 2 * 0 + _ ≤ _; exact Nat.le_of_eq rfl) (hb hby at_34) (fun _ _ => ⟨rfl, K2zq, (by decide : 0 + 0 ≤ _), (by decide : 0 + 0 ≤ _)⟩)
    dsimp only [Pt.U, Pt.locs, Pt.cells, Pt.slots] at X3z l3z y3z z3z st3z hQ3z
    subst l3z y3z z3z
    obtain ⟨rfl, NQ3z, K3zq⟩ := hQ3z
    refine own_go st3z ?_
    have N3z := Fr.app N2z NQ3z
    show own_G p e below (T3z.setTop (mkF m 37 #[.val (.int p1), .val (.int p2), .val (.int (p1 &&& (3 : Int32))), .val (.int (p2 &&& (3 : Int32))), .val (.int (0 : Int32)), .unset] [(.ref (own_pick (p2 &&& (3 : Int32)) aP aC aU aD)), (.ref (own_pick (p1 &&& (3 : Int32)) aP aC aU aD))])) _
    obtain ⟨cq4z, kq4z, qa4z, qb4z, qc4z⟩ := isOf hZ K3zq ((own_pick_P (P := fun _ a => Exa Z Z.heap a "com/example/fledger/fledger/EventState") (own_and3 p1) E_PENDING E_CLAIMED E_PUBLISHED E_DEAD).ext O0)
    obtain ⟨_, _, ⟨T4z, L4z, k4z, n4z⟩, -, X4z, Si4z, gr4z, ⟨Lc4z, hQ4z, l4z, y4z, z4z⟩, st4z⟩ := X3z.virtualBackS hx (y := own_m3) (z := own_m3) hown (mvT hZ (own_hw hw 9 rfl)) (mvT hZ (own_hw hw 10 rfl)) (notFace_of_selects (args := #[]) (mvT hZ (own_hw hw 12 rfl))) (mvT hZ (own_hw hw 12 rfl)) (mvT hZ (own_hw hw 11 rfl)) (by decide) (backOfS (W := 0) (own_canM l Z a0 hw [] (own_pick (p1 &&& (3 : Int32)) aP aC aU aD) (own_pick (p2 &&& (3 : Int32)) aP aC aU aD) (p1 &&& (3 : Int32)) aP aC aU aD h0 O0 S_PENDING S_CLAIMED S_PUBLISHED S_DEAD (own_pick_P (P := fun _ a => Exa Z Z.heap a "com/example/fledger/fledger/EventState") (own_and3 p1) E_PENDING E_CLAIMED E_PUBLISHED E_DEAD) (own_pick_P (P := fun k a => Fld Z Z.heap a "java/lang/Enum" "ordinal" "I" (.int k)) (own_and3 p1) F_PENDING F_CLAIMED F_PUBLISHED F_DEAD) (own_and3 p1)) hZ (own_hw hw 13 rfl) (own_hw hw 5 rfl) (by decide) (by decide)) qa4z qc4z (g := (mkF m 37 #[.val (.int p1), .val (.int p2), .val (.int (p1 &&& (3 : Int32))), .val (.int (p2 &&& (3 : Int32))), .val (.int (0 : Int32)), .unset] [(.ref (own_pick (p2 &&& (3 : Int32)) aP aC aU aD)), (.ref (own_pick (p1 &&& (3 : Int32)) aP aC aU aD))])) rfl (by rw [hml]; rfl) (Steps.refl _) (argsL := [(.ref (own_pick (p2 &&& (3 : Int32)) aP aC aU aD))]) (rest := []) (lenOf pd_3494130739 rfl) rfl (by show 2 * 0 + _ ≤ _; exact Nat.le_of_eq rfl) (hb hby at_37) (fun _ _ => ⟨rfl, K3zq, (by decide : 0 + 2 ≤ _), (by decide : 0 + 112 ≤ _)⟩)
    dsimp only [Pt.U, Pt.locs, Pt.cells, Pt.slots] at X4z l4z y4z z4z st4z hQ4z Si4z gr4z
    subst l4z y4z z4z
    obtain ⟨rfl, NQ4z, K4zq⟩ := hQ4z
    refine own_tr st4z ?_
    have N4z := Fr.app N3z NQ4z
    have Sx4z : s.Since T4z.vm T4z.heap.size := foldS Si0 (by first | exact Sn0 | (rw [K3zq]; exact Sn0)) Si4z gr4z
    have hZ4z : Z.Warmed39 (s.setVm T4z.vm).vm := State.Warmed39.trans (t := s.setVm s.vm) hZ Si4z.1
    have hown4z : (s.setVm T4z.vm).vm.findClass "com/example/fledger/fledger/EventStateCanMoveToPinLaw" = some m.cls := by rw [show (s.setVm T4z.vm).vm = T4z.vm from rfl, Si4z.1.alike.findClass]; exact hown
    have X4z := (show Stand _ _ _ _ (s.setVm T4z.vm) _ _ _ _ _ _ _ _ _ from X4z)
    have Sn4z : T4z.heap.size ≤ T4z.heap.size := Nat.le_refl _
    have O5z : Ext Z.heap T4z.heap := own_ext_keep O0 K4zq all0
    have K5z : Keep h0 T4z.heap [] := K0.trans K4zq all0
    show own_G p e below (T4z.setTop (mkF m 40 #[.val (.int p1), .val (.int p2), .val (.int (p1 &&& (3 : Int32))), .val (.int (p2 &&& (3 : Int32))), .val (.int (0 : Int32)), .unset] [(.int (own_can (p1 &&& (3 : Int32)) (own_pick (p2 &&& (3 : Int32)) aP aC aU aD) aP aC aU aD))])) _
    refine own_go (fun t k => XS.istore X4z.here hx rfl (hb hby at_40) rfl (l' := #[.val (.int p1), .val (.int p2), .val (.int (p1 &&& (3 : Int32))), .val (.int (p2 &&& (3 : Int32))), .val (.int (0 : Int32)), .val (.int (own_can (p1 &&& (3 : Int32)) (own_pick (p2 &&& (3 : Int32)) aP aC aU aD) aP aC aU aD))]) rfl k) ?_
    show own_G p e below (T4z.setTop (mkF m 42 #[.val (.int p1), .val (.int p2), .val (.int (p1 &&& (3 : Int32))), .val (.int (p2 &&& (3 : Int32))), .val (.int (0 : Int32)), .val (.int (own_can (p1 &&& (3 : Int32)) (own_pick (p2 &&& (3 : Int32)) aP aC aU aD) aP aC aU aD))] [])) _
    refine own_go (fun t k => XS.iload X4z.here hx rfl (hb hby at_42) rfl k) ?_
    show own_G p e below (T4z.setTop (mkF m 44 #[.val (.int p1), .val (.int p2), .val (.int (p1 &&& (3 : Int32))), .val (.int (p2 &&& (3 : Int32))), .val (.int (0 : Int32)), .val (.int (own_can (p1 &&& (3 : Int32)) (own_pick (p2 &&& (3 : Int32)) aP aC aU aD) aP aC aU aD))] [(.int (own_can (p1 &&& (3 : Int32)) (own_pick (p2 &&& (3 : Int32)) aP aC aU aD) aP aC aU aD))])) _
    refine own_go (fun t k => XS.iload X4z.here hx rfl (hb hby at_44) rfl k) ?_
    show own_G p e below (T4z.setTop (mkF m 46 #[.val (.int p1), .val (.int p2), .val (.int (p1 &&& (3 : Int32))), .val (.int (p2 &&& (3 : Int32))), .val (.int (0 : Int32)), .val (.int (own_can (p1 &&& (3 : Int32)) (own_pick (p2 &&& (3 : Int32)) aP aC aU aD) aP aC aU aD))] [(.int (0 : Int32)), (.int (own_can (p1 &&& (3 : Int32)) (own_pick (p2 &&& (3 : Int32)) aP aC aU aD) aP aC aU aD))])) _
    refine own_go (fun t k => XS.icmpNo X4z.here hx rfl (hb hby at_46) rfl (teq (by rw [own_law0 (own_and3 p1) (own_and3 p2) ne_aPaC ne_aPaU ne_aPaD ne_aCaU ne_aCaD ne_aUaD, if_pos hc1z])).2 k) ?_
    show own_G p e below (T4z.setTop (mkF m 49 #[.val (.int p1), .val (.int p2), .val (.int (p1 &&& (3 : Int32))), .val (.int (p2 &&& (3 : Int32))), .val (.int (0 : Int32)), .val (.int (own_can (p1 &&& (3 : Int32)) (own_pick (p2 &&& (3 : Int32)) aP aC aU aD) aP aC aU aD))] [])) _
    refine own_go (fun t k => XS.iconst X4z.here hx rfl (hb hby at_49) k) ?_
    show own_G p e below (T4z.setTop (mkF m 50 #[.val (.int p1), .val (.int p2), .val (.int (p1 &&& (3 : Int32))), .val (.int (p2 &&& (3 : Int32))), .val (.int (0 : Int32)), .val (.int (own_can (p1 &&& (3 : Int32)) (own_pick (p2 &&& (3 : Int32)) aP aC aU aD) aP aC aU aD))] [(.int (1 : Int32))])) _
    refine own_go (fun t k => XS.goto X4z.here hx rfl (pc0 := 50) (pc' := 54) rfl (hb hby at_50) (by decide) (by decide) k) ?_
    show own_G p e below (T4z.setTop (mkF m 54 #[.val (.int p1), .val (.int p2), .val (.int (p1 &&& (3 : Int32))), .val (.int (p2 &&& (3 : Int32))), .val (.int (0 : Int32)), .val (.int (own_can (p1 &&& (3 : Int32)) (own_pick (p2 &&& (3 : Int32)) aP aC aU aD) aP aC aU aD))] [(.int (1 : Int32))])) _
    exact own_retW X4z Sx4z Sn4z hx Bd.returns rfl (Or.inl ⟨rfl, Or.inr (Or.inl rfl), _, rfl⟩) (hb hby at_54) hlk (Nat.le_of_ble_eq_true rfl) (Nat.le_of_ble_eq_true rfl) (by show Q_own_law Z p1 p2 aP aC aU aD h0 _ T4z.heap _; exact ⟨rfl, N4z, K5z⟩)
  · refine own_go (fun t k => XS.ifNo X0.here hx rfl (hb hby at_19) rfl ((if0 _ _).trans (feq hc1z).1) k) ?_
    show own_G p e below (s₁.setTop (mkF m 22 #[.val (.int p1), .val (.int p2), .val (.int (p1 &&& (3 : Int32))), .val (.int (p2 &&& (3 : Int32))), .unset, .unset] [])) _
    refine own_go (fun t k => XS.iconst X0.here hx rfl (hb hby at_22) k) ?_
    show own_G p e below (s₁.setTop (mkF m 23 #[.val (.int p1), .val (.int p2), .val (.int (p1 &&& (3 : Int32))), .val (.int (p2 &&& (3 : Int32))), .unset, .unset] [(.int (1 : Int32))])) _
    refine own_go (fun t k => XS.goto X0.here hx rfl (pc0 := 23) (pc' := 27) rfl (hb hby at_23) (by decide) (by decide) k) ?_
    show own_G p e below (s₁.setTop (mkF m 27 #[.val (.int p1), .val (.int p2), .val (.int (p1 &&& (3 : Int32))), .val (.int (p2 &&& (3 : Int32))), .unset, .unset] [(.int (1 : Int32))])) _
    refine own_go (fun t k => XS.istore X0.here hx rfl (hb hby at_27) rfl (l' := #[.val (.int p1), .val (.int p2), .val (.int (p1 &&& (3 : Int32))), .val (.int (p2 &&& (3 : Int32))), .val (.int (1 : Int32)), .unset]) rfl k) ?_
    show own_G p e below (s₁.setTop (mkF m 29 #[.val (.int p1), .val (.int p2), .val (.int (p1 &&& (3 : Int32))), .val (.int (p2 &&& (3 : Int32))), .val (.int (1 : Int32)), .unset] [])) _
    refine own_go (fun t k => XS.iloadN X0.here hx rfl (hb hby at_29) rfl k) ?_
    show own_G p e below (s₁.setTop (mkF m 30 #[.val (.int p1), .val (.int p2), .val (.int (p1 &&& (3 : Int32))), .val (.int (p2 &&& (3 : Int32))), .val (.int (1 : Int32)), .unset] [(.int (p1 &&& (3 : Int32)))])) _
    obtain ⟨_, _, ⟨T6z, L6z, k6z, n6z⟩, -, X6z, ⟨Lc6z, hQ6z, l6z, y6z, z6z⟩, st6z⟩ := Jvm.LawKit.callS X0 hx (y := own_m0) hown (mvT hZ (own_hw hw 0 rfl)) (mvT hZ (own_hw hw 1 rfl)) (mvT hZ (own_hw hw 2 rfl)) (mvT hZ (own_hw hw 3 rfl)) (by decide) (backOf (W := 0) (own_pickM l Z a0 hw [] (p1 &&& (3 : Int32)) aP aC aU aD h0 O0 S_PENDING S_CLAIMED S_PUBLISHED S_DEAD) hZ (own_hw hw 3 rfl) (own_hw hw 2 rfl) (by decide) (by decide)) (g := (mkF m 30 #[.val (.int p1), .val (.int p2), .val (.int (p1 &&& (3 : Int32))), .val (.int (p2 &&& (3 : Int32))), .val (.int (1 : Int32)), .unset] [(.int (p1 &&& (3 : Int32)))])) rfl (by rw [hml]; rfl) (argsL := [(.int (p1 &&& (3 : Int32)))]) (rest := []) (lenOf pd_693597538 rfl) rfl (by show 2 * 0 + _ ≤ _; exact Nat.le_of_eq rfl) (hb hby at_30) (fun _ _ => ⟨rfl, e0, (by decide : 0 + 0 ≤ _), (by decide : 0 + 0 ≤ _)⟩)
    dsimp only [Pt.U, Pt.locs, Pt.cells, Pt.slots] at X6z l6z y6z z6z st6z hQ6z
    subst l6z y6z z6z
    obtain ⟨rfl, NQ6z, K6zq⟩ := hQ6z
    refine own_go st6z ?_
    have N6z := Fr.app N0 NQ6z
    show own_G p e below (T6z.setTop (mkF m 33 #[.val (.int p1), .val (.int p2), .val (.int (p1 &&& (3 : Int32))), .val (.int (p2 &&& (3 : Int32))), .val (.int (1 : Int32)), .unset] [(.ref (own_pick (p1 &&& (3 : Int32)) aP aC aU aD))])) _
    refine own_go (fun t k => XS.iloadN X6z.here hx rfl (hb hby at_33) rfl k) ?_
    show own_G p e below (T6z.setTop (mkF m 34 #[.val (.int p1), .val (.int p2), .val (.int (p1 &&& (3 : Int32))), .val (.int (p2 &&& (3 : Int32))), .val (.int (1 : Int32)), .unset] [(.int (p2 &&& (3 : Int32))), (.ref (own_pick (p1 &&& (3 : Int32)) aP aC aU aD))])) _
    obtain ⟨_, _, ⟨T7z, L7z, k7z, n7z⟩, -, X7z, ⟨Lc7z, hQ7z, l7z, y7z, z7z⟩, st7z⟩ := Jvm.LawKit.callS X6z hx (y := own_m0) hown (mvT hZ (own_hw hw 0 rfl)) (mvT hZ (own_hw hw 1 rfl)) (mvT hZ (own_hw hw 2 rfl)) (mvT hZ (own_hw hw 3 rfl)) (by decide) (backOf (W := 1) (own_pickM l Z a0 hw [] (p2 &&& (3 : Int32)) aP aC aU aD h0 O0 S_PENDING S_CLAIMED S_PUBLISHED S_DEAD) hZ (own_hw hw 3 rfl) (own_hw hw 2 rfl) (by decide) (by decide)) (g := (mkF m 34 #[.val (.int p1), .val (.int p2), .val (.int (p1 &&& (3 : Int32))), .val (.int (p2 &&& (3 : Int32))), .val (.int (1 : Int32)), .unset] [(.int (p2 &&& (3 : Int32))), (.ref (own_pick (p1 &&& (3 : Int32)) aP aC aU aD))])) rfl (by rw [hml]; rfl) (argsL := [(.int (p2 &&& (3 : Int32)))]) (rest := [(.ref (own_pick (p1 &&& (3 : Int32)) aP aC aU aD))]) (lenOf pd_693597538 rfl) rfl (by show 2 * 0 + _ ≤ _; exact Nat.le_of_eq rfl) (hb hby at_34) (fun _ _ => ⟨rfl, K6zq, (by decide : 0 + 0 ≤ _), (by decide : 0 + 0 ≤ _)⟩)
    dsimp only [Pt.U, Pt.locs, Pt.cells, Pt.slots] at X7z l7z y7z z7z st7z hQ7z
    subst l7z y7z z7z
    obtain ⟨rfl, NQ7z, K7zq⟩ := hQ7z
    refine own_go st7z ?_
    have N7z := Fr.app N6z NQ7z
    show own_G p e below (T7z.setTop (mkF m 37 #[.val (.int p1), .val (.int p2), .val (.int (p1 &&& (3 : Int32))), .val (.int (p2 &&& (3 : Int32))), .val (.int (1 : Int32)), .unset] [(.ref (own_pick (p2 &&& (3 : Int32)) aP aC aU aD)), (.ref (own_pick (p1 &&& (3 : Int32)) aP aC aU aD))])) _
    obtain ⟨cq8z, kq8z, qa8z, qb8z, qc8z⟩ := isOf hZ K7zq ((own_pick_P (P := fun _ a => Exa Z Z.heap a "com/example/fledger/fledger/EventState") (own_and3 p1) E_PENDING E_CLAIMED E_PUBLISHED E_DEAD).ext O0)
    obtain ⟨_, _, ⟨T8z, L8z, k8z, n8z⟩, -, X8z, Si8z, gr8z, ⟨Lc8z, hQ8z, l8z, y8z, z8z⟩, st8z⟩ := X7z.virtualBackS hx (y := own_m3) (z := own_m3) hown (mvT hZ (own_hw hw 9 rfl)) (mvT hZ (own_hw hw 10 rfl)) (notFace_of_selects (args := #[]) (mvT hZ (own_hw hw 12 rfl))) (mvT hZ (own_hw hw 12 rfl)) (mvT hZ (own_hw hw 11 rfl)) (by decide) (backOfS (W := 0) (own_canM l Z a0 hw [] (own_pick (p1 &&& (3 : Int32)) aP aC aU aD) (own_pick (p2 &&& (3 : Int32)) aP aC aU aD) (p1 &&& (3 : Int32)) aP aC aU aD h0 O0 S_PENDING S_CLAIMED S_PUBLISHED S_DEAD (own_pick_P (P := fun _ a => Exa Z Z.heap a "com/example/fledger/fledger/EventState") (own_and3 p1) E_PENDING E_CLAIMED E_PUBLISHED E_DEAD) (own_pick_P (P := fun k a => Fld Z Z.heap a "java/lang/Enum" "ordinal" "I" (.int k)) (own_and3 p1) F_PENDING F_CLAIMED F_PUBLISHED F_DEAD) (own_and3 p1)) hZ (own_hw hw 13 rfl) (own_hw hw 5 rfl) (by decide) (by decide)) qa8z qc8z (g := (mkF m 37 #[.val (.int p1), .val (.int p2), .val (.int (p1 &&& (3 : Int32))), .val (.int (p2 &&& (3 : Int32))), .val (.int (1 : Int32)), .unset] [(.ref (own_pick (p2 &&& (3 : Int32)) aP aC aU aD)), (.ref (own_pick (p1 &&& (3 : Int32)) aP aC aU aD))])) rfl (by rw [hml]; rfl) (Steps.refl _) (argsL := [(.ref (own_pick (p2 &&& (3 : Int32)) aP aC aU aD))]) (rest := []) (lenOf pd_3494130739 rfl) rfl (by show 2 * 0 + _ ≤ _; exact Nat.le_of_eq rfl) (hb hby at_37) (fun _ _ => ⟨rfl, K7zq, (by decide : 0 + 2 ≤ _), (by decide : 0 + 112 ≤ _)⟩)
    dsimp only [Pt.U, Pt.locs, Pt.cells, Pt.slots] at X8z l8z y8z z8z st8z hQ8z Si8z gr8z
    subst l8z y8z z8z
    obtain ⟨rfl, NQ8z, K8zq⟩ := hQ8z
    refine own_tr st8z ?_
    have N8z := Fr.app N7z NQ8z
    have Sx8z : s.Since T8z.vm T8z.heap.size := foldS Si0 (by first | exact Sn0 | (rw [K7zq]; exact Sn0)) Si8z gr8z
    have hZ8z : Z.Warmed39 (s.setVm T8z.vm).vm := State.Warmed39.trans (t := s.setVm s.vm) hZ Si8z.1
    have hown8z : (s.setVm T8z.vm).vm.findClass "com/example/fledger/fledger/EventStateCanMoveToPinLaw" = some m.cls := by rw [show (s.setVm T8z.vm).vm = T8z.vm from rfl, Si8z.1.alike.findClass]; exact hown
    have X8z := (show Stand _ _ _ _ (s.setVm T8z.vm) _ _ _ _ _ _ _ _ _ from X8z)
    have Sn8z : T8z.heap.size ≤ T8z.heap.size := Nat.le_refl _
    have O9z : Ext Z.heap T8z.heap := own_ext_keep O0 K8zq all0
    have K9z : Keep h0 T8z.heap [] := K0.trans K8zq all0
    show own_G p e below (T8z.setTop (mkF m 40 #[.val (.int p1), .val (.int p2), .val (.int (p1 &&& (3 : Int32))), .val (.int (p2 &&& (3 : Int32))), .val (.int (1 : Int32)), .unset] [(.int (own_can (p1 &&& (3 : Int32)) (own_pick (p2 &&& (3 : Int32)) aP aC aU aD) aP aC aU aD))])) _
    refine own_go (fun t k => XS.istore X8z.here hx rfl (hb hby at_40) rfl (l' := #[.val (.int p1), .val (.int p2), .val (.int (p1 &&& (3 : Int32))), .val (.int (p2 &&& (3 : Int32))), .val (.int (1 : Int32)), .val (.int (own_can (p1 &&& (3 : Int32)) (own_pick (p2 &&& (3 : Int32)) aP aC aU aD) aP aC aU aD))]) rfl k) ?_
    show own_G p e below (T8z.setTop (mkF m 42 #[.val (.int p1), .val (.int p2), .val (.int (p1 &&& (3 : Int32))), .val (.int (p2 &&& (3 : Int32))), .val (.int (1 : Int32)), .val (.int (own_can (p1 &&& (3 : Int32)) (own_pick (p2 &&& (3 : Int32)) aP aC aU aD) aP aC aU aD))] [])) _
    refine own_go (fun t k => XS.iload X8z.here hx rfl (hb hby at_42) rfl k) ?_
    show own_G p e below (T8z.setTop (mkF m 44 #[.val (.int p1), .val (.int p2), .val (.int (p1 &&& (3 : Int32))), .val (.int (p2 &&& (3 : Int32))), .val (.int (1 : Int32)), .val (.int (own_can (p1 &&& (3 : Int32)) (own_pick (p2 &&& (3 : Int32)) aP aC aU aD) aP aC aU aD))] [(.int (own_can (p1 &&& (3 : Int32)) (own_pick (p2 &&& (3 : Int32)) aP aC aU aD) aP aC aU aD))])) _
    refine own_go (fun t k => XS.iload X8z.here hx rfl (hb hby at_44) rfl k) ?_
    show own_G p e below (T8z.setTop (mkF m 46 #[.val (.int p1), .val (.int p2), .val (.int (p1 &&& (3 : Int32))), .val (.int (p2 &&& (3 : Int32))), .val (.int (1 : Int32)), .val (.int (own_can (p1 &&& (3 : Int32)) (own_pick (p2 &&& (3 : Int32)) aP aC aU aD) aP aC aU aD))] [(.int (1 : Int32)), (.int (own_can (p1 &&& (3 : Int32)) (own_pick (p2 &&& (3 : Int32)) aP aC aU aD) aP aC aU aD))])) _
    refine own_go (fun t k => XS.icmpNo X8z.here hx rfl (hb hby at_46) rfl (teq (by rw [own_law0 (own_and3 p1) (own_and3 p2) ne_aPaC ne_aPaU ne_aPaD ne_aCaU ne_aCaD ne_aUaD, if_neg hc1z])).2 k) ?_
    show own_G p e below (T8z.setTop (mkF m 49 #[.val (.int p1), .val (.int p2), .val (.int (p1 &&& (3 : Int32))), .val (.int (p2 &&& (3 : Int32))), .val (.int (1 : Int32)), .val (.int (own_can (p1 &&& (3 : Int32)) (own_pick (p2 &&& (3 : Int32)) aP aC aU aD) aP aC aU aD))] [])) _
    refine own_go (fun t k => XS.iconst X8z.here hx rfl (hb hby at_49) k) ?_
    show own_G p e below (T8z.setTop (mkF m 50 #[.val (.int p1), .val (.int p2), .val (.int (p1 &&& (3 : Int32))), .val (.int (p2 &&& (3 : Int32))), .val (.int (1 : Int32)), .val (.int (own_can (p1 &&& (3 : Int32)) (own_pick (p2 &&& (3 : Int32)) aP aC aU aD) aP aC aU aD))] [(.int (1 : Int32))])) _
    refine own_go (fun t k => XS.goto X8z.here hx rfl (pc0 := 50) (pc' := 54) rfl (hb hby at_50) (by decide) (by decide) k) ?_
    show own_G p e below (T8z.setTop (mkF m 54 #[.val (.int p1), .val (.int p2), .val (.int (p1 &&& (3 : Int32))), .val (.int (p2 &&& (3 : Int32))), .val (.int (1 : Int32)), .val (.int (own_can (p1 &&& (3 : Int32)) (own_pick (p2 &&& (3 : Int32)) aP aC aU aD) aP aC aU aD))] [(.int (1 : Int32))])) _
    exact own_retW X8z Sx8z Sn8z hx Bd.returns rfl (Or.inl ⟨rfl, Or.inr (Or.inl rfl), _, rfl⟩) (hb hby at_54) hlk (Nat.le_of_ble_eq_true rfl) (Nat.le_of_ble_eq_true rfl) (by show Q_own_law Z p1 p2 aP aC aU aD h0 _ T8z.heap _; exact ⟨rfl, N8z, K9z⟩)
set_option maxRecDepth 65536 in
set_option maxHeartbeats 40000000 in
theorem comes_1 {Post : Tables → Env → Array Value → State → Outcome → State → Prop} (hpost : ∀ tb e args s v u, (limb_1_1.after args s (.returned v) u = true ∧ limb_1_2.after args s (.returned v) u = true ∧ True) → ReturnedEndW s (.returned v) u (Jvm.fieldLocs frame_1_writes args s ++ Jvm.arrayLocs frame_1_arrays args s ++ Jvm.staticLocs frame_1_statics s) 8 1088 → Post tb e args s (.returned v) u) :
    ArmFor flags0 classFile x code maxLocals ret World_1 tables_1 room_1 Calls_1 rest_1 Pre_1 Post := by
  intro l hfl _ _ p e ha hc hk s m args below hf hA hF happ hP
  obtain ⟨hcalls, hrest, hpre⟩ := hP
  obtain ⟨-, -, -, hnamed, -, -, -, hat⟩ := (Spec.applies_iff hf).mp happ
  obtain ⟨hg, hn⟩ := and_e (Cond.before_iff.mp (show (Jvm.Cond.and given_1 narrow_1).before args s = true from hpre))
  obtain ⟨hg0, hg1⟩ := and_e hg
  obtain ⟨hy0, hz0⟩ := and_e hg1
  obtain ⟨w0, w1, rfl⟩ : ∃ w0 w1 : Value, args = #[w0, w1] := by
    have hs : args.size = 2 := by simpa [Cond.value, given_1] using hg0
    obtain ⟨L⟩ := args
    match L, hs with
    | [w0, w1], _ => exact ⟨w0, w1, rfl⟩
  have hw := fun d (hd : d ∈ tables_1) => atoms_spec (ws := Jvm.Cond.code x code maxLocals ret :: tables_1) hat d (List.mem_cons_of_mem _ hd)
  have hfit : Fit s := fun {y c} hc i hi => by
    obtain ⟨ha, rfl⟩ := Array.getElem?_eq_some_iff.mp hc
    have q := List.all_eq_true.mp ((Array.all_eq_true_iff_forall_mem.mp hF) _ (Array.getElem_mem ha)) i (List.mem_range.mpr hi)
    simpa [Array.getElem?_eq_getElem hi] using q
  obtain ⟨i0, ea0⟩ := is_v hy0
  obtain rfl : w0 = (.int i0) := Option.some.inj ea0
  obtain ⟨i1, ea1⟩ := is_v hz0
  obtain rfl : w1 = (.int i1) := Option.some.inj ea1
  obtain ⟨c0, hn0⟩ := and_e hn
  obtain ⟨c1, hn1⟩ := and_e hn0
  obtain ⟨c2, hn2⟩ := and_e hn1
  obtain ⟨c3, hn3⟩ := and_e hn2
  obtain ⟨c4, hn4⟩ := and_e hn3
  obtain ⟨c5, hn5⟩ := and_e hn4
  obtain ⟨c6, hn6⟩ := and_e hn5
  obtain ⟨a_PENDING, ev_PENDING⟩ := exa_v c0
  have E_PENDING : Exa s s.heap a_PENDING "com/example/fledger/fledger/EventState" := Exa.start ev_PENDING c0
  have S_PENDING : Sta s s.heap "com/example/fledger/fledger/EventState" "PENDING" "Lcom/example/fledger/fledger/EventState;" (.ref a_PENDING) := Sta.start ev_PENDING (Or.inr ⟨(own_hw hw 5 rfl), (own_hw hw 6 rfl)⟩)
  obtain ⟨a_DEAD, ev_DEAD⟩ := exa_v c1
  have E_DEAD : Exa s s.heap a_DEAD "com/example/fledger/fledger/EventState" := Exa.start ev_DEAD c1
  have S_DEAD : Sta s s.heap "com/example/fledger/fledger/EventState" "DEAD" "Lcom/example/fledger/fledger/EventState;" (.ref a_DEAD) := Sta.start ev_DEAD (Or.inr ⟨(own_hw hw 5 rfl), (own_hw hw 8 rfl)⟩)
  obtain ⟨a_CLAIMED, ev_CLAIMED⟩ := exa_v c3
  have E_CLAIMED : Exa s s.heap a_CLAIMED "com/example/fledger/fledger/EventState" := Exa.start ev_CLAIMED c3
  have S_CLAIMED : Sta s s.heap "com/example/fledger/fledger/EventState" "CLAIMED" "Lcom/example/fledger/fledger/EventState;" (.ref a_CLAIMED) := Sta.start ev_CLAIMED (Or.inr ⟨(own_hw hw 5 rfl), (own_hw hw 36 rfl)⟩)
  obtain ⟨a_PUBLISHED, ev_PUBLISHED⟩ := exa_v c6
  have E_PUBLISHED : Exa s s.heap a_PUBLISHED "com/example/fledger/fledger/EventState" := Exa.start ev_PUBLISHED c6
  have S_PUBLISHED : Sta s s.heap "com/example/fledger/fledger/EventState" "PUBLISHED" "Lcom/example/fledger/fledger/EventState;" (.ref a_PUBLISHED) := Sta.start ev_PUBLISHED (Or.inr ⟨(own_hw hw 5 rfl), (own_hw hw 38 rfl)⟩)
  have F_PENDING_ordinal : Fld s s.heap a_PENDING "java/lang/Enum" "ordinal" "I" (.int (0 : Int32)) := Fld.start ((fld_at ev_PENDING).symm.trans (eqv_i (Term.int_eval (0 : Int32)) c2))
  have F_DEAD_ordinal : Fld s s.heap a_DEAD "java/lang/Enum" "ordinal" "I" (.int (3 : Int32)) := Fld.start ((fld_at ev_DEAD).symm.trans (eqv_i (Term.int_eval (3 : Int32)) c4))
  have F_CLAIMED_ordinal : Fld s s.heap a_CLAIMED "java/lang/Enum" "ordinal" "I" (.int (1 : Int32)) := Fld.start ((fld_at ev_CLAIMED).symm.trans (eqv_i (Term.int_eval (1 : Int32)) c5))
  have F_PUBLISHED_ordinal : Fld s s.heap a_PUBLISHED "java/lang/Enum" "ordinal" "I" (.int (2 : Int32)) := Fld.start ((fld_at ev_PUBLISHED).symm.trans (eqv_i (Term.int_eval (2 : Int32)) hn6))
  obtain ⟨n, o, h1, h2, h3, _, L, rfl, hQ, hq⟩ := own_law l s _ hw tables_1 i0 i1 a_PENDING a_CLAIMED a_PUBLISHED a_DEAD s.heap (own_ext_refl _) S_PENDING S_CLAIMED S_PUBLISHED S_DEAD E_PENDING E_CLAIMED E_PUBLISHED E_DEAD F_PENDING_ordinal F_CLAIMED_ordinal F_PUBLISHED_ordinal F_DEAD_ordinal (own_fld_ne F_PENDING_ordinal F_CLAIMED_ordinal (by decide)) (own_fld_ne F_PENDING_ordinal F_PUBLISHED_ordinal (by decide)) (own_fld_ne F_PENDING_ordinal F_DEAD_ordinal (by decide)) (own_fld_ne F_CLAIMED_ordinal F_PUBLISHED_ordinal (by decide)) (own_fld_ne F_CLAIMED_ordinal F_DEAD_ordinal (by decide)) (own_fld_ne F_PUBLISHED_ordinal F_DEAD_ordinal (by decide)) p e ha hc hk s m _ below hf ((Spec.applies_iff_loose hf).mp happ).1 ⟨rfl, State.Warmed39.refl s, rfl⟩ trivial
  obtain ⟨rfl, N, -⟩ := hQ
  exact ⟨n, _, h1, h2, h3, hpost _ _ _ _ _ _ ⟨Cond.after_iff.mpr rfl, Cond.after_iff.mpr (eq_i res_at (Term.int_eval (1)) rfl), trivial⟩ ⟨hq.1, hq.2.1, hq.2.2.1, (hq.2.2.2.sift fun y hy => Or.inr (N y hy)).mono (by decide) (by decide)⟩⟩
theorem main_1_1 : Claimed_1_1 := comes_1 fun _ _ _ _ _ _ h hF => ⟨h.1, hF⟩
theorem main_1_2 : Claimed_1_2 := comes_1 fun _ _ _ _ _ _ h hF => ⟨h.2.1, hF⟩
end Jvm.Pilot.@@N@@
namespace Jvm.Pilot.@@N@@
open Jvm Jvm.ClassFile Sem Op Lib Jvm.Free Jvm.Stand Jvm.Pilot.@@N@@.Jvm.D
/-! MADE BY PROGRAM (witnessworld.py) out of the Statement's table words and the real class files: 16 classes; the members and pool entries that the words name. The judged class is class 1, her method 2. -/
namespace start1
open Jvm.ClassFile
def u (s : String) : CpInfo := .utf8 (stringToUtf16 s)
/-- a pool by its gaps: so many unusable entries, then the entry; so many at the end -/
def gap : Nat → List CpInfo → List CpInfo
  | 0, r => r
  | n + 1, r => .unusable :: gap n r
def poolList (es : List (Nat × CpInfo)) (last : Nat) : List CpInfo := es.foldr (fun e r => gap e.1 (e.2 :: r)) (gap last [])
def pool (es : List (Nat × CpInfo)) (last : Nat) : Array CpInfo := ⟨poolList es last⟩
def fileOf (pool : Array CpInfo) (this : Nat) (attrs : Array Attribute := #[]) (ms : Array MethodInfo := #[]) (fl : Nat := 33) (sup : Nat := 0) (ifs : Array Nat := #[]) (fds : Array FieldInfo := #[]) : ClassFile where
  minorVersion := 0
  majorVersion := 65
  constantPool := pool
  accessFlags := fl
  thisClass := this
  superClass := sup
  interfaces := ifs
  fields := fds
  methods := ms
  attributes := attrs
def plain (name : String) (sup : Option ClassId) : Class where
  name := name
  kind := .ordinary
  loader := none
  accessFlags := 33
  super := sup
  interfaces := #[]
  cf := none
  fields := #[]
  methods := #[]
  instanceTypes := #[]
  staticTypes := #[]
  resolved := #[]
  callSites := []
  init := .initialized
  statics := none
  mirror := none

def pool0 : Array CpInfo := pool [(5, u "<init>"), (0, u "()V"), (1, .class_ 10), (1, u "java/lang/Object")] 113

def k0m0 : Method := { name := "<init>", desc := "()V", sig := { parameters := [], returnType := none }, accessFlags := 1, code := none }
/-- java/lang/Object -/
def k0 : Class := { plain "java/lang/Object" none with
  accessFlags := 33
  interfaces := #[]
  cf := some (fileOf pool0 8 #[] #[{ accessFlags := 1, nameIndex := 5, descriptorIndex := 6, attributes := #[] }] 33 0 #[] #[])
  fields := #[]
  methods := #[k0m0]
  instanceTypes := #[]
  staticTypes := #[]
  resolved := Array.replicate 124 none
  statics := none }

def pool1 : Array CpInfo := pool [(2, .class_ 4), (1, u "java/lang/Object"), (0, u "<init>"), (0, u "()V"), (0, .fieldref 8 9), (0, .class_ 10), (0, .nameAndType 11 12), (0, u "com/example/fledger/fledger/EventState"), (0, u "PENDING"), (0, u "Lcom/example/fledger/fledger/EventState;"), (0, .fieldref 8 14), (0, .nameAndType 15 12), (0, u "CLAIMED"), (0, .fieldref 8 17), (0, .nameAndType 18 12), (0, u "PUBLISHED"), (0, .fieldref 8 20), (0, .nameAndType 21 12), (0, u "DEAD"), (0, .class_ 23), (0, u "com/example/fledger/fledger/EventStateCanMoveToPinLaw"), (0, .methodref 22 25), (0, .nameAndType 26 27), (0, u "pick"), (0, u "(I)Lcom/example/fledger/fledger/EventState;"), (0, .methodref 8 29), (0, .nameAndType 30 31), (0, u "canMoveTo"), (0, u "(Lcom/example/fledger/fledger/EventState;)Z"), (0, u "ALLOWED"), (0, u "I"), (5, u "law"), (0, u "(II)Z")] 2

def k1m0 : Method := { name := "<init>", desc := "()V", sig := { parameters := [], returnType := none }, accessFlags := 1, code := none }
def k1c1 : Code := { maxStack := 2, maxLocals := 1, code := method_2_code, exceptionTable := #[], attributes := #[] }
def k1m1 : Method := { name := "pick", desc := "(I)Lcom/example/fledger/fledger/EventState;", sig := { parameters := [.int], returnType := some (.object "com/example/fledger/fledger/EventState") }, accessFlags := 10, code := some k1c1 }
def k1c2 : Code := { maxStack := 3, maxLocals := 6, code := code, exceptionTable := #[], attributes := #[] }
def k1m2 : Method := { name := "law", desc := "(II)Z", sig := { parameters := [.int, .int], returnType := some .boolean }, accessFlags := 9, code := some k1c2 }
/-- com/example/fledger/fledger/EventStateCanMoveToPinLaw -/
def k1 : Class := { plain "com/example/fledger/fledger/EventStateCanMoveToPinLaw" (some 0) with
  accessFlags := 49
  interfaces := #[]
  cf := some (fileOf pool1 22 #[] #[{ accessFlags := 1, nameIndex := 5, descriptorIndex := 6, attributes := #[] }, { accessFlags := 10, nameIndex := 26, descriptorIndex := 27, attributes := #[] }, { accessFlags := 9, nameIndex := 39, descriptorIndex := 40, attributes := #[] }] 49 2 #[] #[{ accessFlags := 26, nameIndex := 32, descriptorIndex := 33, attributes := #[] }])
  fields := #[{ name := "ALLOWED", type := .int, accessFlags := 26, slot := 0, constantValue := 0 }]
  methods := #[k1m0, k1m1, k1m2]
  instanceTypes := #[]
  staticTypes := #[.int]
  resolved := Array.replicate 43 none
  statics := none }

def pool2 : Array CpInfo := pool [(1, .class_ 2), (0, u "java/lang/constant/Constable"), (0, .class_ 4), (0, u "java/lang/Object")] 6

/-- java/lang/constant/Constable -/
def k2 : Class := { plain "java/lang/constant/Constable" (some 0) with
  accessFlags := 1537
  interfaces := #[]
  cf := some (fileOf pool2 1 #[] #[] 1537 3 #[] #[])
  fields := #[]
  methods := #[]
  instanceTypes := #[]
  staticTypes := #[]
  resolved := Array.replicate 11 none
  statics := none }

def pool3 : Array CpInfo := pool [(1, .class_ 2), (0, u "java/lang/Comparable"), (0, .class_ 4), (0, u "java/lang/Object")] 7

/-- java/lang/Comparable -/
def k3 : Class := { plain "java/lang/Comparable" (some 0) with
  accessFlags := 1537
  interfaces := #[]
  cf := some (fileOf pool3 1 #[] #[] 1537 3 #[] #[])
  fields := #[]
  methods := #[]
  instanceTypes := #[]
  staticTypes := #[]
  resolved := Array.replicate 12 none
  statics := none }

def pool4 : Array CpInfo := pool [(1, .class_ 2), (0, u "java/io/Serializable"), (0, .class_ 4), (0, u "java/lang/Object")] 2

/-- java/io/Serializable -/
def k4 : Class := { plain "java/io/Serializable" (some 0) with
  accessFlags := 1537
  interfaces := #[]
  cf := some (fileOf pool4 1 #[] #[] 1537 3 #[] #[])
  fields := #[]
  methods := #[]
  instanceTypes := #[]
  staticTypes := #[]
  resolved := Array.replicate 7 none
  statics := none }

def pool5 : Array CpInfo := pool [(2, .class_ 4), (1, u "java/lang/Enum"), (0, u "name"), (0, u "Ljava/lang/String;"), (0, .fieldref 2 8), (0, .nameAndType 9 10), (0, u "ordinal"), (0, u "I"), (1, .class_ 14), (1, u "java/lang/Object"), (4, u "hash"), (86, .class_ 108), (1, u "java/lang/Enum$EnumDesc"), (2, .class_ 112), (0, u "java/lang/constant/Constable"), (0, .class_ 114), (0, u "java/lang/Comparable"), (0, .class_ 116), (0, u "java/io/Serializable"), (9, u "()I")] 77

def k5c0 : Code := { maxStack := 1, maxLocals := 1, code := jdk_37_method_2_code, exceptionTable := #[], attributes := #[] }
def k5m0 : Method := { name := "ordinal", desc := "()I", sig := { parameters := [], returnType := some .int }, accessFlags := 17, code := some k5c0 }
/-- java/lang/Enum -/
def k5 : Class := { plain "java/lang/Enum" (some 0) with
  accessFlags := 1057
  interfaces := #[2, 3, 4]
  cf := some (fileOf pool5 2 #[.nestMembers #[106]] #[{ accessFlags := 17, nameIndex := 9, descriptorIndex := 126, attributes := #[] }] 1057 12 #[111, 113, 115] #[{ accessFlags := 18, nameIndex := 5, descriptorIndex := 6, attributes := #[] }, { accessFlags := 18, nameIndex := 9, descriptorIndex := 10, attributes := #[] }, { accessFlags := 2, nameIndex := 19, descriptorIndex := 10, attributes := #[] }])
  fields := #[{ name := "name", type := (.object "java/lang/String"), accessFlags := 18, slot := 0, constantValue := 0 }, { name := "ordinal", type := .int, accessFlags := 18, slot := 1, constantValue := 0 }, { name := "hash", type := .int, accessFlags := 2, slot := 2, constantValue := 0 }]
  methods := #[k5m0]
  instanceTypes := #[(.object "java/lang/String"), .int, .int]
  staticTypes := #[]
  resolved := Array.replicate 204 none
  statics := none }

def pool6 : Array CpInfo := pool [(1, .class_ 2), (0, u "com/example/fledger/fledger/EventState"), (0, .fieldref 1 4), (0, .nameAndType 5 6), (0, u "PENDING"), (0, u "Lcom/example/fledger/fledger/EventState;"), (0, .fieldref 1 8), (0, .nameAndType 9 6), (0, u "CLAIMED"), (0, .fieldref 1 11), (0, .nameAndType 12 6), (0, u "PUBLISHED"), (0, .fieldref 1 14), (0, .nameAndType 15 6), (0, u "DEAD"), (2, u "$VALUES"), (0, u "[Lcom/example/fledger/fledger/EventState;"), (6, .class_ 28), (1, u "java/lang/Enum"), (6, .string 36), (0, u "Next state may not be null!"), (0, .methodref 38 39), (0, .class_ 40), (0, .nameAndType 41 42), (0, u "java/util/Objects"), (0, u "requireNonNull"), (0, u "(Ljava/lang/Object;Ljava/lang/String;)Ljava/lang/Object;"), (0, .methodref 1 44), (0, .nameAndType 45 46), (0, u "ordinal"), (0, u "()I"), (21, u "canMoveTo"), (0, u "(Lcom/example/fledger/fledger/EventState;)Z")] 5

def k6c0 : Code := { maxStack := 4, maxLocals := 2, code := prog_6_method_4_code, exceptionTable := #[], attributes := #[] }
def k6m0 : Method := { name := "canMoveTo", desc := "(Lcom/example/fledger/fledger/EventState;)Z", sig := { parameters := [(.object "com/example/fledger/fledger/EventState")], returnType := some .boolean }, accessFlags := 1, code := some k6c0 }
/-- com/example/fledger/fledger/EventState -/
def k6 : Class := { plain "com/example/fledger/fledger/EventState" (some 5) with
  accessFlags := 16433
  interfaces := #[]
  cf := some (fileOf pool6 1 #[] #[{ accessFlags := 1, nameIndex := 68, descriptorIndex := 69, attributes := #[] }] 16433 26 #[] #[{ accessFlags := 16409, nameIndex := 5, descriptorIndex := 6, attributes := #[] }, { accessFlags := 16409, nameIndex := 9, descriptorIndex := 6, attributes := #[] }, { accessFlags := 16409, nameIndex := 12, descriptorIndex := 6, attributes := #[] }, { accessFlags := 16409, nameIndex := 15, descriptorIndex := 6, attributes := #[] }, { accessFlags := 4122, nameIndex := 18, descriptorIndex := 19, attributes := #[] }])
  fields := #[{ name := "PENDING", type := (.object "com/example/fledger/fledger/EventState"), accessFlags := 16409, slot := 0, constantValue := 0 }, { name := "CLAIMED", type := (.object "com/example/fledger/fledger/EventState"), accessFlags := 16409, slot := 1, constantValue := 0 }, { name := "PUBLISHED", type := (.object "com/example/fledger/fledger/EventState"), accessFlags := 16409, slot := 2, constantValue := 0 }, { name := "DEAD", type := (.object "com/example/fledger/fledger/EventState"), accessFlags := 16409, slot := 3, constantValue := 0 }, { name := "$VALUES", type := (.array (.object "com/example/fledger/fledger/EventState")), accessFlags := 4122, slot := 4, constantValue := 0 }]
  methods := #[k6m0]
  instanceTypes := #[(.object "java/lang/String"), .int, .int]
  staticTypes := #[(.object "com/example/fledger/fledger/EventState"), (.object "com/example/fledger/fledger/EventState"), (.object "com/example/fledger/fledger/EventState"), (.object "com/example/fledger/fledger/EventState"), (.array (.object "com/example/fledger/fledger/EventState"))]
  resolved := Array.replicate 75 none
  statics := some 0 }

def pool7 : Array CpInfo := pool [(2, .class_ 4), (1, u "java/lang/CharSequence"), (42, .class_ 48), (0, u "java/lang/CharSequence$1CodePointIterator"), (10, .class_ 60), (0, u "java/lang/CharSequence$1CharIterator"), (5, .class_ 67), (0, u "java/lang/Object")] 63

/-- java/lang/CharSequence -/
def k7 : Class := { plain "java/lang/CharSequence" (some 0) with
  accessFlags := 1537
  interfaces := #[]
  cf := some (fileOf pool7 2 #[.nestMembers #[47, 59]] #[] 1537 66 #[] #[])
  fields := #[]
  methods := #[]
  instanceTypes := #[]
  staticTypes := #[]
  resolved := Array.replicate 131 none
  statics := none }

def pool8 : Array CpInfo := pool [(1, .class_ 2), (0, u "java/lang/constant/ConstantDesc"), (0, .class_ 4), (0, u "java/lang/Object")] 32

/-- java/lang/constant/ConstantDesc -/
def k8 : Class := { plain "java/lang/constant/ConstantDesc" (some 0) with
  accessFlags := 1537
  interfaces := #[]
  cf := some (fileOf pool8 1 #[] #[] 1537 3 #[] #[])
  fields := #[]
  methods := #[]
  instanceTypes := #[]
  staticTypes := #[]
  resolved := Array.replicate 37 none
  statics := none }

def pool9 : Array CpInfo := pool [(2, .class_ 4), (1, u "java/lang/Object"), (0, u "<init>"), (0, u "()V"), (3, .class_ 12), (1, u "java/lang/String"), (0, u "value"), (0, u "[B"), (2, u "coder"), (0, u "B"), (2, u "hash"), (0, u "I"), (2, u "hashIsZero"), (0, u "Z"), (13, u "COMPACT_STRINGS"), (534, .class_ 576), (0, u "java/lang/CharSequence"), (22, u "CASE_INSENSITIVE_ORDER"), (0, u "Ljava/util/Comparator;"), (500, u "serialPersistentFields"), (0, u "[Ljava/io/ObjectStreamField;"), (0, .class_ 1104), (0, u "java/lang/String$CaseInsensitiveComparator"), (1, .class_ 1107), (0, u "java/io/Serializable"), (0, .class_ 1109), (0, u "java/lang/Comparable"), (0, .class_ 1111), (0, u "java/lang/constant/Constable"), (0, .class_ 1113), (0, u "java/lang/constant/ConstantDesc"), (2, u "serialVersionUID"), (0, u "J"), (3, u "REPL"), (0, u "C"), (2, u "LATIN1"), (1, u "UTF16")] 323

def k9m0 : Method := { name := "<init>", desc := "()V", sig := { parameters := [], returnType := none }, accessFlags := 1, code := none }
/-- java/lang/String -/
def k9 : Class := { plain "java/lang/String" (some 0) with
  accessFlags := 49
  interfaces := #[4, 3, 7, 2, 8]
  cf := some (fileOf pool9 10 #[.nestMembers #[1103]] #[{ accessFlags := 1, nameIndex := 5, descriptorIndex := 6, attributes := #[] }] 49 2 #[1106, 1108, 575, 1110, 1112] #[{ accessFlags := 18, nameIndex := 13, descriptorIndex := 14, attributes := #[] }, { accessFlags := 18, nameIndex := 17, descriptorIndex := 18, attributes := #[] }, { accessFlags := 2, nameIndex := 21, descriptorIndex := 22, attributes := #[] }, { accessFlags := 2, nameIndex := 25, descriptorIndex := 26, attributes := #[] }, { accessFlags := 26, nameIndex := 1116, descriptorIndex := 1117, attributes := #[] }, { accessFlags := 24, nameIndex := 40, descriptorIndex := 26, attributes := #[] }, { accessFlags := 26, nameIndex := 1101, descriptorIndex := 1102, attributes := #[] }, { accessFlags := 26, nameIndex := 1121, descriptorIndex := 1122, attributes := #[] }, { accessFlags := 25, nameIndex := 599, descriptorIndex := 600, attributes := #[] }, { accessFlags := 24, nameIndex := 1125, descriptorIndex := 18, attributes := #[] }, { accessFlags := 24, nameIndex := 1127, descriptorIndex := 18, attributes := #[] }])
  fields := #[{ name := "value", type := (.array .byte), accessFlags := 18, slot := 0, constantValue := 0 }, { name := "coder", type := .byte, accessFlags := 18, slot := 1, constantValue := 0 }, { name := "hash", type := .int, accessFlags := 2, slot := 2, constantValue := 0 }, { name := "hashIsZero", type := .boolean, accessFlags := 2, slot := 3, constantValue := 0 }, { name := "serialVersionUID", type := .long, accessFlags := 26, slot := 0, constantValue := 0 }, { name := "COMPACT_STRINGS", type := .boolean, accessFlags := 24, slot := 1, constantValue := 0 }, { name := "serialPersistentFields", type := (.array (.object "java/io/ObjectStreamField")), accessFlags := 26, slot := 2, constantValue := 0 }, { name := "REPL", type := .char, accessFlags := 26, slot := 3, constantValue := 0 }, { name := "CASE_INSENSITIVE_ORDER", type := (.object "java/util/Comparator"), accessFlags := 25, slot := 4, constantValue := 0 }, { name := "LATIN1", type := .byte, accessFlags := 24, slot := 5, constantValue := 0 }, { name := "UTF16", type := .byte, accessFlags := 24, slot := 6, constantValue := 0 }]
  methods := #[k9m0]
  instanceTypes := #[(.array .byte), .byte, .int, .boolean]
  staticTypes := #[.long, .boolean, (.array (.object "java/io/ObjectStreamField")), .char, (.object "java/util/Comparator"), .byte, .byte]
  resolved := Array.replicate 1451 none
  statics := none }

def pool10 : Array CpInfo := pool [(2, .class_ 4), (1, u "java/lang/Object"), (0, u "<init>"), (0, u "()V"), (35, .class_ 44), (1, u "java/util/Objects"), (0, u "requireNonNull"), (48, u "(Ljava/lang/Object;Ljava/lang/String;)Ljava/lang/Object;")] 89

def k10m0 : Method := { name := "<init>", desc := "()V", sig := { parameters := [], returnType := none }, accessFlags := 2, code := none }
def k10c1 : Code := { maxStack := 3, maxLocals := 2, code := jdk_31_method_11_code, exceptionTable := #[], attributes := #[] }
def k10m1 : Method := { name := "requireNonNull", desc := "(Ljava/lang/Object;Ljava/lang/String;)Ljava/lang/Object;", sig := { parameters := [(.object "java/lang/Object"), (.object "java/lang/String")], returnType := some (.object "java/lang/Object") }, accessFlags := 9, code := some k10c1 }
/-- java/util/Objects -/
def k10 : Class := { plain "java/util/Objects" (some 0) with
  accessFlags := 49
  interfaces := #[]
  cf := some (fileOf pool10 42 #[] #[{ accessFlags := 2, nameIndex := 5, descriptorIndex := 6, attributes := #[] }, { accessFlags := 9, nameIndex := 45, descriptorIndex := 94, attributes := #[] }] 49 2 #[] #[])
  fields := #[]
  methods := #[k10m0, k10m1]
  instanceTypes := #[]
  staticTypes := #[]
  resolved := Array.replicate 184 none
  statics := none }

def pool11 : Array CpInfo := pool [(1, u "java/lang/Cloneable"), (0, .class_ 1), (0, u "java/lang/Object"), (0, .class_ 3)] 3

/-- java/lang/Cloneable -/
def k11 : Class := { plain "java/lang/Cloneable" (some 0) with
  accessFlags := 1537
  interfaces := #[]
  cf := some (fileOf pool11 2 #[] #[] 1537 4 #[] #[])
  fields := #[]
  methods := #[]
  instanceTypes := #[]
  staticTypes := #[]
  resolved := Array.replicate 8 none
  statics := none }

/-- the primitive byte -/
def k12 : Class := { plain "byte" none with kind := .primitive 'B', accessFlags := 0x411 }
/-- [B -/
def k13 : Class := { plain "[B" (some 0) with kind := .array 12 .byte, interfaces := #[11, 4], accessFlags := 1041 }

/-- the primitive int -/
def k14 : Class := { plain "int" none with kind := .primitive 'I', accessFlags := 0x411 }
/-- [I -/
def k15 : Class := { plain "[I" (some 0) with kind := .array 14 .int, interfaces := #[11, 4], accessFlags := 1041 }

def heap : Heap := #[{ cls := 6, slots := #[.ref 1, .ref 2, .ref 3, .ref 4, .null], vm := .statics 6 },
  { cls := 6, slots := #[.null, .int 0, .int 0], vm := .none },
  { cls := 6, slots := #[.null, .int 1, .int 0], vm := .none },
  { cls := 6, slots := #[.null, .int 2, .int 0], vm := .none },
  { cls := 6, slots := #[.null, .int 3, .int 0], vm := .none }]
def classes : Array Class := #[k0, k1, k2, k3, k4, k5, k6, k7, k8, k9, k10, k11, k12, k13, k14, k15]
def interned : List (Array UInt16 × Addr) := []
def slotsUsed : Nat := 17
def theMethod : MethodId := ⟨1, 2⟩
def args0 : Array Value := #[.int 1, .int 2]
def aboutOver (below : List Frame) : State where
  vm := { classes := classes, interned := interned.toArray }
  heap := heap
  slotsUsed := slotsUsed
  threads := #[{ frames := .invoking theMethod args0 :: below }]
def below0 : List Frame := [.native { method := ⟨0, 0⟩, args := #[] }]
def about1 : State := aboutOver below0
def p0 : Program := .bare "" "" ""
def e0 : Env := launch0.env 0 0 0
theorem w_frames : about1.frames = Frame.invoking theMethod args0 :: below0 := rfl
set_option maxRecDepth 65536 in
theorem w_args : argsFit about1.vm theMethod args0 = true := by decide +kernel
set_option maxRecDepth 65536 in
theorem w_heap : heapFits about1 = true := by decide +kernel
set_option maxRecDepth 65536 in
theorem w_runnable : about1.curStatus? = some .runnable := by decide +kernel
set_option maxRecDepth 65536 in
theorem w_alone : about1.alone = true := by decide +kernel
set_option maxRecDepth 65536 in
theorem w_named : about1.methodNamed? x = some theMethod := by decide +kernel
set_option maxRecDepth 65536 in
theorem w_hears : about1.hears theMethod below0 = true := by decide +kernel
set_option maxRecDepth 65536 in
theorem w_ripe : about1.ripe theMethod args0 below0 = true := by decide +kernel
theorem w_running : about1.status = .running := rfl
set_option maxRecDepth 65536 in
theorem w_room : about1.hasRoom e0.platform room_1 = true :=
  launch0.hasRoom_least _ room_1 (by decide +kernel) (by decide +kernel) (by decide +kernel) (by decide +kernel) (by decide +kernel) (by decide +kernel)
theorem allAtoms_all (ts : List Jvm.Cond) (a : Array Jvm.Value) (st : Jvm.State) : (allAtoms ts).before a st = ts.all (fun c => c.before a st) := by
  induction ts with
  | nil => rfl
  | cons c t ih =>
    show (Jvm.Cond.and c (allAtoms t)).before a st = _
    rw [Jvm.Cond.before_and, ih, List.all_cons]
def words1 : List Jvm.Cond := Jvm.Cond.code x code maxLocals ret :: tables_1
/-- a 'code' word, met by the world's own term for the bytes: nothing is compared byte by byte -/
theorem code_word {y : MethodName} {bytes : ByteArray} {mx : Nat} {rt : Option FieldType} {a : Array Value} {s : State} {m : MethodId} {meth : Method} {c : Code} (h1 : s.methodNamed? y = some m) (h2 : s.vm.method? m = some meth) (h3 : meth.code = some c) (h4 : c.code = bytes)
    (h5 : (c.maxLocals == mx && c.exceptionTable.isEmpty && decide (c.maxStack ≤ mostOperands) && decide (meth.sig.returnType = rt) && !meth.locks && decide (parseMethodDescriptor y.desc = some meth.sig)) = true) : (Jvm.Cond.code y bytes mx rt).before a s = true := by
  simp only [Bool.and_eq_true, beq_iff_eq, Bool.not_eq_true', decide_eq_true_eq] at h5
  obtain ⟨⟨⟨⟨⟨g1, g2⟩, g3⟩, g4⟩, g5⟩, g6⟩ := h5
  simp [Cond.before, Cond.holds, Cond.value, h1, h2, h3, h4, g1, g2, g3, g4, g5, g6]
def isCode : Jvm.Cond → Bool
  | .code _ _ _ _ => true
  | _ => false
theorem all_split {L : List Jvm.Cond} {P : Jvm.Cond → Bool} (h1 : L.all (fun c => isCode c || P c) = true) (h2 : ∀ c ∈ L.filter isCode, P c = true) : L.all P = true := by
  refine List.all_eq_true.mpr fun c hc => ?_
  have h := List.all_eq_true.mp h1 c hc
  rcases Bool.eq_false_or_eq_true (isCode c) with hi | hi
  · exact h2 c (List.mem_filter.mpr ⟨hc, hi⟩)
  · simpa [hi] using h
set_option maxRecDepth 65536 in
theorem w_c0 : (Jvm.Cond.code x code maxLocals ret).before args0 about1 = true := code_word (m := ⟨1, 2⟩) (meth := k1m2) (c := k1c2) (by decide +kernel) rfl rfl rfl (by decide +kernel)
set_option maxRecDepth 65536 in
theorem w_c1 : (Jvm.Cond.code ({ cls := "com/example/fledger/fledger/EventStateCanMoveToPinLaw", name := "pick", desc := "(I)Lcom/example/fledger/fledger/EventState;" } : Jvm.MethodName) method_2_code (1 : Nat) (Option.some (Jvm.ClassFile.FieldType.object "com/example/fledger/fledger/EventState"))).before args0 about1 = true := code_word (m := ⟨1, 1⟩) (meth := k1m1) (c := k1c1) (by decide +kernel) rfl rfl rfl (by decide +kernel)
set_option maxRecDepth 65536 in
theorem w_c2 : (Jvm.Cond.code ({ cls := "com/example/fledger/fledger/EventState", name := "canMoveTo", desc := "(Lcom/example/fledger/fledger/EventState;)Z" } : Jvm.MethodName) prog_6_method_4_code (2 : Nat) (Option.some Jvm.ClassFile.FieldType.boolean)).before args0 about1 = true := code_word (m := ⟨6, 0⟩) (meth := k6m0) (c := k6c0) (by decide +kernel) rfl rfl rfl (by decide +kernel)
set_option maxRecDepth 65536 in
theorem w_c3 : (Jvm.Cond.code ({ cls := "java/util/Objects", name := "requireNonNull", desc := "(Ljava/lang/Object;Ljava/lang/String;)Ljava/lang/Object;" } : Jvm.MethodName) jdk_31_method_11_code (2 : Nat) (Option.some (Jvm.ClassFile.FieldType.object "java/lang/Object"))).before args0 about1 = true := code_word (m := ⟨10, 1⟩) (meth := k10m1) (c := k10c1) (by decide +kernel) rfl rfl rfl (by decide +kernel)
set_option maxRecDepth 65536 in
theorem w_c4 : (Jvm.Cond.code ({ cls := "java/lang/Enum", name := "ordinal", desc := "()I" } : Jvm.MethodName) jdk_37_method_2_code (1 : Nat) (Option.some Jvm.ClassFile.FieldType.int)).before args0 about1 = true := code_word (m := ⟨5, 0⟩) (meth := k5m0) (c := k5c0) (by decide +kernel) rfl rfl rfl (by decide +kernel)
def codes1 : List Jvm.Cond := [Jvm.Cond.code x code maxLocals ret, Jvm.Cond.code ({ cls := "com/example/fledger/fledger/EventStateCanMoveToPinLaw", name := "pick", desc := "(I)Lcom/example/fledger/fledger/EventState;" } : Jvm.MethodName) method_2_code (1 : Nat) (Option.some (Jvm.ClassFile.FieldType.object "com/example/fledger/fledger/EventState")), Jvm.Cond.code ({ cls := "com/example/fledger/fledger/EventState", name := "canMoveTo", desc := "(Lcom/example/fledger/fledger/EventState;)Z" } : Jvm.MethodName) prog_6_method_4_code (2 : Nat) (Option.some Jvm.ClassFile.FieldType.boolean), Jvm.Cond.code ({ cls := "java/util/Objects", name := "requireNonNull", desc := "(Ljava/lang/Object;Ljava/lang/String;)Ljava/lang/Object;" } : Jvm.MethodName) jdk_31_method_11_code (2 : Nat) (Option.some (Jvm.ClassFile.FieldType.object "java/lang/Object")), Jvm.Cond.code ({ cls := "java/lang/Enum", name := "ordinal", desc := "()I" } : Jvm.MethodName) jdk_37_method_2_code (1 : Nat) (Option.some Jvm.ClassFile.FieldType.int)]
set_option maxRecDepth 65536 in
theorem codes_eq : words1.filter isCode = codes1 := rfl
theorem w_codes : ∀ c ∈ words1.filter isCode, c.before args0 about1 = true := by
  rw [codes_eq]
  intro c hc
  simp only [codes1, List.mem_cons, List.not_mem_nil, or_false] at hc
  rcases hc with rfl | rfl | rfl | rfl | rfl
  · exact w_c0
  · exact w_c1
  · exact w_c2
  · exact w_c3
  · exact w_c4
set_option maxRecDepth 65536 in
theorem w_t1 : (words1.take 24).all (fun c => isCode c || c.before args0 about1) = true := by decide +kernel
set_option maxRecDepth 65536 in
theorem w_t2 : (words1.drop 24).all (fun c => isCode c || c.before args0 about1) = true := by decide +kernel
theorem w_tables : (allAtoms (Jvm.Cond.code x code maxLocals ret :: tables_1)).before args0 about1 = true := by
  rw [allAtoms_all]
  show words1.all (fun c => c.before args0 about1) = true
  refine all_split ?_ w_codes
  rw [← List.take_append_drop 24 words1, List.all_append, w_t1, w_t2]
  rfl
set_option maxRecDepth 65536 in
theorem w_case : (Jvm.Cond.and given_1 narrow_1).before args0 about1 = true := by decide +kernel
theorem w_applies : (headSpec (Jvm.Cond.code x code maxLocals ret :: tables_1) room_1).applies x e0.platform about1 = true :=
  (Spec.applies_iff w_frames).mpr ⟨w_running, w_runnable, w_alone, w_named, w_hears, w_ripe, w_room, w_tables⟩
theorem atStart : AtStart classFile x code maxLocals ret World_1 tables_1 room_1 Calls_1 rest_1 Pre_1 launch0 p0 e0 about1 theMethod args0 below0 :=
  ⟨lists_1, trivial, launch0.admits_env _ _ _, launch0.least_env, fairChoices_fair.cas, fairChoices_fair.clock, w_frames, w_args, w_heap, w_applies, trivial, trivial, w_case⟩
end start1
theorem witness_1 : WitnessClaimed_1 := ⟨start1.p0, start1.e0, start1.about1, start1.theMethod, start1.args0, start1.below0, start1.atStart⟩
end Jvm.Pilot.@@N@@
