import JvmDerived
import JvmDerived.Pilot.@@N@@Statement
import JvmDerived.Pilot.@@N@@Code
@@BLOCK:NumsL.lean.txt@@
set_option linter.unusedVariables false
set_option linter.unusedSimpArgs false
namespace Jvm.Pilot.@@N@@
open Jvm Jvm.ClassFile Sem Op Lib Jvm.Free Jvm.Stand Jvm.LawKit Jvm.RoadKit Bundle Jvm.Pilot.@@N@@.Jvm.D
abbrev own_m0 : MethodName := ⟨"com/example/retrying_transactions/retryingtransactions/boundary/BoundaryOfPinLaw", "pick", "(I)Lcom/example/retrying_transactions/retryingtransactions/boundary/Propagation;"⟩
abbrev own_m1 : MethodName := ⟨"java/util/Objects", "requireNonNull", "(Ljava/lang/Object;Ljava/lang/String;)Ljava/lang/Object;"⟩
abbrev own_m2 : MethodName := ⟨"com/example/retrying_transactions/retryingtransactions/rollback/RollbackRule", "standard", "()Lcom/example/retrying_transactions/retryingtransactions/rollback/RollbackRule;"⟩
abbrev own_m3 : MethodName := ⟨"com/example/retrying_transactions/retryingtransactions/boundary/Boundary$Draft", "<init>", "(Lcom/example/retrying_transactions/retryingtransactions/boundary/Propagation;)V"⟩
abbrev own_m4 : MethodName := ⟨"com/example/retrying_transactions/retryingtransactions/boundary/Boundary", "<init>", "(Lcom/example/retrying_transactions/retryingtransactions/boundary/Boundary$Draft;)V"⟩
abbrev own_m5 : MethodName := ⟨"com/example/retrying_transactions/retryingtransactions/boundary/Boundary", "of", "(Lcom/example/retrying_transactions/retryingtransactions/boundary/Propagation;)Lcom/example/retrying_transactions/retryingtransactions/boundary/Boundary;"⟩
abbrev own_m6 : MethodName := ⟨"com/example/retrying_transactions/retryingtransactions/boundary/Boundary", "propagation", "()Lcom/example/retrying_transactions/retryingtransactions/boundary/Propagation;"⟩
abbrev own_m7 : MethodName := ⟨"com/example/retrying_transactions/retryingtransactions/boundary/Boundary", "isolation", "()Lcom/example/retrying_transactions/retryingtransactions/boundary/Isolation;"⟩
abbrev own_m8 : MethodName := ⟨"com/example/retrying_transactions/retryingtransactions/boundary/Boundary", "isReadOnly", "()Z"⟩
section OwnPre
variable {p : Program} {l : Launch} {e : Env} {R : Room} {s : State} {m : MethodId} {args : Array Value} {below : List Frame} {meth : Method} {c : Code} {T : State} {locs : List Loc} {cells slots : Nat} {Z : State} {h h' : Heap}
/-- from A the run comes to an end of which P holds -/
def own_G (p : Program) (e : Env) (below : List Frame) (A : State) (P : State → Outcome → Prop) : Prop := ∃ s₂ o, Steps p.tables e below A s₂ ∧ P s₂ o
def own_P (s : State) (below : List Frame) (C S : Nat) (Q : Option Value → Heap → List Loc → Prop) (s₂ : State) (o : Outcome) : Prop := s₂.status = .running ∧ Ended s₂ below o ∧ ∃ v L, o = .returned v ∧ Q v s₂.heap L ∧ FrameEnd s o s₂ L C S
def own_PW (s : State) (below : List Frame) (C S : Nat) (Q : Option Value → Heap → List Loc → Prop) (s₂ : State) (o : Outcome) : Prop := s₂.status = .running ∧ Ended s₂ below o ∧ ∃ v L, o = .returned v ∧ Q v s₂.heap L ∧ ReturnedEndW s o s₂ L C S
theorem own_go {A B : State} {P : State → Outcome → Prop} (k : ∀ t, Steps p.tables e below B t → Steps p.tables e below A t) (g : own_G p e below B P) : own_G p e below A P := by
  obtain ⟨s, o, h, r⟩ := g; exact ⟨s, o, k _ h, r⟩
theorem own_tr {A B : State} {P : State → Outcome → Prop} (k : Steps p.tables e below A B) (g : own_G p e below B P) : own_G p e below A P := own_go (fun _ h => k.trans h) g
theorem own_start {C S : Nat} {Q : Option Value → Heap → List Loc → Prop} {g g' : JFrame} (q : g = g') (k : own_G p e below (T.setTop g') (own_P s below C S Q)) :
    ∃ s₂ o, Steps p.tables e below (T.setTop g) s₂ ∧ s₂.status = .running ∧ Ended s₂ below o ∧ ∃ v L, o = .returned v ∧ Q v s₂.heap L ∧ FrameEnd s o s₂ L C S := q ▸ k
theorem own_startW {C S : Nat} {Q : Option Value → Heap → List Loc → Prop} {g g' : JFrame} (q : g = g') (k : own_G p e below (T.setTop g') (own_PW s below C S Q)) :
    ∃ s₂ o, Steps p.tables e below (T.setTop g) s₂ ∧ s₂.status = .running ∧ Ended s₂ below o ∧ ∃ v L, o = .returned v ∧ Q v s₂.heap L ∧ ReturnedEndW s o s₂ L C S := q ▸ k
theorem own_ret (X : Stand p l e R s m args below meth c T locs cells slots) (hx : p.tables.exec = Jvm.exec) {pc : Nat} {Ls : Array Slot} {w : Value} {t : FieldType} {i : Instr} {rest : List Value} (hret : meth.sig.returnType = some t) (hn : narrow t w = w)
    (hi : (i = .ireturn ∧ (t = .int ∨ t = .boolean ∨ t = .byte ∨ t = .char ∨ t = .short) ∧ ∃ z, w = .int z) ∨ (i = .lreturn ∧ t = .long ∧ ∃ z, w = .long z) ∨ (i = .dreturn ∧ t = .double ∧ ∃ z, w = .double z) ∨ (i = .freturn ∧ t = .float ∧ ∃ z, w = .float z) ∨ (i = .areturn ∧ t.isReference = true ∧ w.isRef = true))
    (hd : decode c.code pc = .ok (i, 1)) (hlocks : meth.locks = false) {C S : Nat} {Q : Option Value → Heap → List Loc → Prop} (hC : cells ≤ C) (hS : slots ≤ S) (hQ : Q (some w) T.heap locs) :
    own_G p e below (T.setTop (mkF m pc Ls (w :: rest))) (own_P s below C S Q) := by
  obtain ⟨fs, hr, hrun, hended, hW, hsame⟩ := X.leave (v := some w) (fun h => by rw [hret] at h; cases h) hlocks
  exact ⟨_, _, retOut X hx hret hn hi hd hr, hrun, hended, _, _, rfl, hQ, ⟨_, rfl⟩, hW, hsame.mono hC hS⟩
theorem own_retV (X : Stand p l e R s m args below meth c T locs cells slots) (hx : p.tables.exec = Jvm.exec) {pc : Nat} {Ls : Array Slot} (hret : meth.sig.returnType = none) (hd : decode c.code pc = .ok (.return_, 1)) (hlocks : meth.locks = false)
    {C S : Nat} {Q : Option Value → Heap → List Loc → Prop} (hC : cells ≤ C) (hS : slots ≤ S) (hQ : Q none T.heap locs) : own_G p e below (T.setTop (mkF m pc Ls [])) (own_P s below C S Q) := by
  obtain ⟨fs, hr, hrun, hended, hW, hsame⟩ := X.leave (v := none) (fun _ => rfl) hlocks
  exact ⟨_, _, X.returnOut hx hret hd hr, hrun, hended, _, _, rfl, hQ, ⟨_, rfl⟩, hW, hsame.mono hC hS⟩
theorem own_retW {vm₁ : Vm} (X : Stand p l e R (s.setVm vm₁) m args below meth c T locs cells slots) {n : Nat} (hSi : s.Since vm₁ n) (hn' : n ≤ T.heap.size) (hx : p.tables.exec = Jvm.exec) {pc : Nat} {Ls : Array Slot} {w : Value} {t : FieldType} {i : Instr} {rest : List Value} (hret : meth.sig.returnType = some t) (hn : narrow t w = w)
    (hi : (i = .ireturn ∧ (t = .int ∨ t = .boolean ∨ t = .byte ∨ t = .char ∨ t = .short) ∧ ∃ z, w = .int z) ∨ (i = .lreturn ∧ t = .long ∧ ∃ z, w = .long z) ∨ (i = .dreturn ∧ t = .double ∧ ∃ z, w = .double z) ∨ (i = .freturn ∧ t = .float ∧ ∃ z, w = .float z) ∨ (i = .areturn ∧ t.isReference = true ∧ w.isRef = true))
    (hd : decode c.code pc = .ok (i, 1)) (hlocks : meth.locks = false) {C S : Nat} {Q : Option Value → Heap → List Loc → Prop} (hC : cells ≤ C) (hS : slots ≤ S) (hQ : Q (some w) T.heap locs) :
    own_G p e below (T.setTop (mkF m pc Ls (w :: rest))) (own_PW s below C S Q) := by
  obtain ⟨fs, hr, hrun, hended, hW⟩ := (X.mono hC hS).leaveW hSi hn' (v := some w) (fun h => by rw [hret] at h; cases h) hlocks
  exact ⟨_, _, retOut X hx hret hn hi hd hr, hrun, hended, _, _, rfl, hQ, hW⟩
theorem own_retVW {vm₁ : Vm} (X : Stand p l e R (s.setVm vm₁) m args below meth c T locs cells slots) {n : Nat} (hSi : s.Since vm₁ n) (hn' : n ≤ T.heap.size) (hx : p.tables.exec = Jvm.exec) {pc : Nat} {Ls : Array Slot} (hret : meth.sig.returnType = none) (hd : decode c.code pc = .ok (.return_, 1)) (hlocks : meth.locks = false)
    {C S : Nat} {Q : Option Value → Heap → List Loc → Prop} (hC : cells ≤ C) (hS : slots ≤ S) (hQ : Q none T.heap locs) : own_G p e below (T.setTop (mkF m pc Ls [])) (own_PW s below C S Q) := by
  obtain ⟨fs, hr, hrun, hended, hW⟩ := (X.mono hC hS).leaveW hSi hn' (v := none) (fun _ => rfl) hlocks
  exact ⟨_, _, X.returnOut hx hret hd hr, hrun, hended, _, _, rfl, hQ, hW⟩
theorem own_ext_refl (h : Heap) : Ext h h := ⟨Nat.le_refl _, fun _ _ q => q⟩
theorem own_ext_trans {h1 h2 h3 : Heap} (A : Ext h1 h2) (B : Ext h2 h3) : Ext h1 h3 := ⟨Nat.le_trans A.1 B.1, fun a c q => B.2 a c (A.2 a c q)⟩
theorem own_ext_keep {h0 : Heap} {ws : List Addr} (O : Ext h0 h) (K : Keep h h' ws) (q : ∀ x ∈ ws, h0.size ≤ x) : Ext h0 h' := ⟨Nat.le_trans O.1 K.1, fun x c r => K.2.1 x c (O.2 x c r) fun z => absurd (Array.getElem?_eq_some_iff.mp r).1 (Nat.not_lt.mpr (q x z))⟩
theorem own_ext_wr {h0 : Heap} {a : Addr} {sl : Nat} {v : Value} (O : Ext h0 h) (W : Wr h h' a sl v) (q : h0.size ≤ a) : Ext h0 h' := own_ext_keep O (Keep.of_wr W) (allS q all0)
theorem own_fld_ne {a b : Addr} {C n d : String} {v w : Value} (F : Fld Z h a C n d v) (G : Fld Z h b C n d w) (q : v ≠ w) : a ≠ b := fun e => by
  subst e
  obtain ⟨c1, cf, k, i, f, h1, h2, -, -, -, -, h7⟩ := F
  obtain ⟨c2, cf', k', i', f', g1, g2, -, -, -, -, g7⟩ := G
  cases h1.symm.trans g1
  cases h2.symm.trans g2
  exact q (Option.some.inj (h7.symm.trans g7))
theorem own_getR (X : Stand p l e R s m args below meth c T locs cells slots) (hx : p.tables.exec = Jvm.exec) (hZ : Z.Warmed39 s.vm) {a0 : Array Value} {own R0 O n d : String} {index : Nat} (hown : s.vm.findClass own = some m.cls) (w : (Cond.fieldRef own index R0 n d).before a0 Z = true) (via : Via Z R0 O n d)
    (eT : T.heap = h) {a : Addr} {v : Value} (F : Fld Z h a O n d v) {g : JFrame} (hg : g.method = m) {rest : List Value} (hs : g.stack = .ref a :: rest) (hd : decode c.code g.pc = .ok (.getfield index, 3)) :
    ∀ target, Steps p.tables e below (T.setTop { g with pc := g.pc + 3, stack := v :: rest }) target → Steps p.tables e below (T.setTop g) target := by
  obtain ⟨cell, cf, k, i, f, h1, h2, h3, h4, -, -, h7⟩ := F
  have hi := via _ h2
  have hT : Z.Warmed39 T.vm := wtrans hZ X.warmed
  have hownZ : Z.vm.findClass own = some m.cls := by rw [← hZ.alike.findClass]; exact hown
  have hr : Z.resolvedAt? own index = some (.field cf i) := by
    simp only [Cond.before, Cond.holds, Cond.value, hownZ, hi, beq_iff_eq, Option.some.injEq, Bool.and_eq_true] at w
    obtain ⟨-, w⟩ := w
    split at w
    · rename_i c' i' hr; simp only [Bool.and_eq_true, beq_iff_eq] at w; obtain ⟨rfl, rfl⟩ := w; exact hr
    · cases w
  have hr' := State.resolvedAt?_warmed39 hT hr
  have hownT : T.vm.findClass own = some m.cls := by rw [hT.alike.findClass]; exact hownZ
  obtain ⟨k', hi', -⟩ := State.fieldFound?_setVm (s := Z) hT.alike hi
  obtain ⟨hk, hf⟩ := State.fieldFound?_spec hi'
  have hready : T.vm.fieldReady m.cls index cf f := by
    simp only [State.resolvedAt?, State.vm_setVm, hownT, Option.bind_eq_bind, Option.bind_some, Option.bind_eq_some_iff] at hr'
    obtain ⟨kc, hkc, hr'⟩ := hr'
    refine ⟨kc, i, k', hkc, ?_, hk, hf⟩
    cases hx : kc.resolved[index]? with
    | none => simp [hx] at hr'
    | some y => simp only [hx, Option.join_some] at hr'; rw [hr']
  intro target hrest
  subst hg
  jvm_step X.here [hx, hd, getfield.wp_ready (e := e) (s := T) (f := g) X.here.top hready h3 hs (show T.heap[a]? = some cell by rw [eT]; exact h1) h4 h7]
  exact hrest
theorem own_selfPriv {s : State} {args args' : Array Value} {y : MethodName} {n : Nat} (wi : (Cond.instantiable y.cls n).before args' s = true) (hp : s.PrivateAt y) (hi : (Cond.instanceMethod y).before args s = true) (hy : y.cls ≠ "java/lang/invoke/MethodHandle" ∧ y.cls ≠ "java/lang/invoke/VarHandle") : (Cond.selects y.cls y y).before args s = true := by
  obtain ⟨c, k, h1, h2, -, h4, -⟩ := Cond.instantiable_spec wi
  exact Jvm.Stand.selects_self_of_private h1 h2 (by simp only [Bool.or_eq_false_iff] at h4; exact h4.1) hp hi hy
theorem own_bool (z : Int32) (h : z = 0 ∨ z = 1) : narrow .boolean (.int z) = .int z := by rcases h with rfl | rfl <;> rfl
theorem own_hw {Z : State} {a0 : Array Value} {ws : List Jvm.Cond} (hw : ∀ d ∈ ws, d.before a0 Z = true) (i : Nat) {d : Jvm.Cond} (h : ws[i]? = some d) : d.before a0 Z = true := hw d (List.mem_of_getElem? h)
end OwnPre

theorem own_wS {Z : State} {a0 : Array Value} (hw : ∀ d ∈ tables_1, d.before a0 Z = true) : ∀ a ∈ Bundle.stringAtoms, a.before a0 Z = true := fun d hd => by
  simp only [Bundle.stringAtoms, List.mem_cons, List.not_mem_nil, or_false] at hd
  rcases hd with rfl | rfl | rfl | rfl | rfl | rfl | rfl
  · exact (own_hw hw 18 rfl)
  · exact (own_hw hw 19 rfl)
  · exact (own_hw hw 20 rfl)
  · exact (own_hw hw 21 rfl)
  · exact (own_hw hw 22 rfl)
  · exact (own_hw hw 23 rfl)
  · exact (own_hw hw 24 rfl)
def own_pick (k : Int32) (a b c d e f g : Addr) : Addr := if k = 0 then a else if k = 1 then b else if k = 2 then c else if k = 3 then d else if k = 4 then e else if k = 5 then f else g
theorem own_pick_P {P : Addr → Prop} {k : Int32} {a b c d e f g : Addr} (ha : P a) (hb : P b) (hc : P c) (hd : P d) (he : P e) (hf : P f) (hg : P g) : P (own_pick k a b c d e f g) := by
  unfold own_pick; split; exact ha; split; exact hb; split; exact hc; split; exact hd; split; exact he; split; exact hf; exact hg
theorem ef_own_pickM (m : MethodId) (x0 : Int32) : entryFrame m #[(.int x0)] 1 = mkF m 0 #[.val (.int x0)] [] := by first | (simp [entryFrame, mkF, argsToLocals, Value.category]; done) | rfl
theorem pf_own_pickM : plainFor own_m0 = true := plainFor_of_name (by simp [plainName, overriddenIn])
theorem d_method_3_code_0 : decode method_3_code 0 = .ok (.iload_n 0, 1) := by decide +kernel
theorem d_method_3_code_1 : decode method_3_code 1 = .ok (.ifCond .ne 7, 3) := by decide +kernel
theorem d_method_3_code_10 : decode method_3_code 10 = .ok (.if_icmp .ne 7, 3) := by decide +kernel
theorem d_method_3_code_13 : decode method_3_code 13 = .ok (.getstatic 44, 3) := by decide +kernel
theorem d_method_3_code_16 : decode method_3_code 16 = .ok (.areturn, 1) := by decide +kernel
theorem d_method_3_code_17 : decode method_3_code 17 = .ok (.iload_n 0, 1) := by decide +kernel
theorem d_method_3_code_18 : decode method_3_code 18 = .ok (.iconst 2, 1) := by decide +kernel
theorem d_method_3_code_19 : decode method_3_code 19 = .ok (.if_icmp .ne 7, 3) := by decide +kernel
theorem d_method_3_code_22 : decode method_3_code 22 = .ok (.getstatic 47, 3) := by decide +kernel
theorem d_method_3_code_25 : decode method_3_code 25 = .ok (.areturn, 1) := by decide +kernel
theorem d_method_3_code_26 : decode method_3_code 26 = .ok (.iload_n 0, 1) := by decide +kernel
theorem d_method_3_code_27 : decode method_3_code 27 = .ok (.iconst 3, 1) := by decide +kernel
theorem d_method_3_code_28 : decode method_3_code 28 = .ok (.if_icmp .ne 7, 3) := by decide +kernel
theorem d_method_3_code_31 : decode method_3_code 31 = .ok (.getstatic 50, 3) := by decide +kernel
theorem d_method_3_code_34 : decode method_3_code 34 = .ok (.areturn, 1) := by decide +kernel
theorem d_method_3_code_35 : decode method_3_code 35 = .ok (.iload_n 0, 1) := by decide +kernel
theorem d_method_3_code_36 : decode method_3_code 36 = .ok (.iconst 4, 1) := by decide +kernel
theorem d_method_3_code_37 : decode method_3_code 37 = .ok (.if_icmp .ne 7, 3) := by decide +kernel
theorem d_method_3_code_4 : decode method_3_code 4 = .ok (.getstatic 38, 3) := by decide +kernel
theorem d_method_3_code_40 : decode method_3_code 40 = .ok (.getstatic 53, 3) := by decide +kernel
theorem d_method_3_code_43 : decode method_3_code 43 = .ok (.areturn, 1) := by decide +kernel
theorem d_method_3_code_44 : decode method_3_code 44 = .ok (.iload_n 0, 1) := by decide +kernel
theorem d_method_3_code_45 : decode method_3_code 45 = .ok (.iconst 5, 1) := by decide +kernel
theorem d_method_3_code_46 : decode method_3_code 46 = .ok (.if_icmp .ne 7, 3) := by decide +kernel
theorem d_method_3_code_49 : decode method_3_code 49 = .ok (.getstatic 56, 3) := by decide +kernel
theorem d_method_3_code_52 : decode method_3_code 52 = .ok (.areturn, 1) := by decide +kernel
theorem d_method_3_code_53 : decode method_3_code 53 = .ok (.getstatic 59, 3) := by decide +kernel
theorem d_method_3_code_56 : decode method_3_code 56 = .ok (.areturn, 1) := by decide +kernel
theorem d_method_3_code_7 : decode method_3_code 7 = .ok (.areturn, 1) := by decide +kernel
theorem d_method_3_code_8 : decode method_3_code 8 = .ok (.iload_n 0, 1) := by decide +kernel
theorem d_method_3_code_9 : decode method_3_code 9 = .ok (.iconst 1, 1) := by decide +kernel
def Q_own_pickM (Z : State) (k : Int32) (a0p : Addr) (a1p : Addr) (a2p : Addr) (a3p : Addr) (a4p : Addr) (a5p : Addr) (a6p : Addr) (h0 : Heap) (v : Option Value) (h : Heap) (L : List Loc) : Prop := v = some (.ref (own_pick k a0p a1p a2p a3p a4p a5p a6p)) ∧ Fr Z.heap.size L ∧ h = h0
set_option maxRecDepth 65536 in
set_option maxHeartbeats 40000000 in
theorem own_pickM (l : Launch) (Z : State) (a0 : Array Value) (hw : ∀ d ∈ tables_1, d.before a0 Z = true) (ws : List Jvm.Cond) (k : Int32) (a0p : Addr) (a1p : Addr) (a2p : Addr) (a3p : Addr) (a4p : Addr) (a5p : Addr) (a6p : Addr) (h0 : Heap) (O0 : Ext Z.heap h0) (S_REQUIRED : Sta Z Z.heap "com/example/retrying_transactions/retryingtransactions/boundary/Propagation" "REQUIRED" "Lcom/example/retrying_transactions/retryingtransactions/boundary/Propagation;" (.ref a0p)) (S_REQUIRES_NEW : Sta Z Z.heap "com/example/retrying_transactions/retryingtransactions/boundary/Propagation" "REQUIRES_NEW" "Lcom/example/retrying_transactions/retryingtransactions/boundary/Propagation;" (.ref a1p)) (S_NESTED : Sta Z Z.heap "com/example/retrying_transactions/retryingtransactions/boundary/Propagation" "NESTED" "Lcom/example/retrying_transactions/retryingtransactions/boundary/Propagation;" (.ref a2p)) (S_SUPPORTS : Sta Z Z.heap "com/example/retrying_transactions/retryingtransactions/boundary/Propagation" "SUPPORTS" "Lcom/example/retrying_transactions/retryingtransactions/boundary/Propagation;" (.ref a3p)) (S_NOT_SUPPORTED : Sta Z Z.heap "com/example/retrying_transactions/retryingtransactions/boundary/Propagation" "NOT_SUPPORTED" "Lcom/example/retrying_transactions/retryingtransactions/boundary/Propagation;" (.ref a4p)) (S_MANDATORY : Sta Z Z.heap "com/example/retrying_transactions/retryingtransactions/boundary/Propagation" "MANDATORY" "Lcom/example/retrying_transactions/retryingtransactions/boundary/Propagation;" (.ref a5p)) (S_NEVER : Sta Z Z.heap "com/example/retrying_transactions/retryingtransactions/boundary/Propagation" "NEVER" "Lcom/example/retrying_transactions/retryingtransactions/boundary/Propagation;" (.ref a6p)) :
    MetFree l own_m0 (head1 (Jvm.Cond.code own_m0 method_3_code 1 (some (.object "com/example/retrying_transactions/retryingtransactions/boundary/Propagation")) :: ws) ({ frames := 0, cells := 0, slots := 0, locals := 0 } : Room)) (fun aa U => aa = #[(.int k)] ∧ Z.Warmed39 U.vm ∧ U.heap = h0) (fun _ _ _ _ _ => True) (fun _ U o U' => ∃ v L, o = .returned v ∧ Q_own_pickM Z k a0p a1p a2p a3p a4p a5p a6p h0 v U'.heap L ∧ FrameEnd U o U' L ({ frames := 0, cells := 0, slots := 0, locals := 0 } : Room).cells ({ frames := 0, cells := 0, slots := 0, locals := 0 } : Room).slots) := by
  refine MetFree.of_bodySF pf_own_pickM hisR ?_
  intro p e s m args below meth c s₁ Bd hml0 hP hK
  obtain ⟨rfl, hZ, hh⟩ := hP
  have hx := Bd.exec
  have hby := Bd.bytes
  have hlk := BodyLoose.notSynchronized Bd
  have hml : c.maxLocals = 1 := hml0
  have hown : s.vm.findClass "com/example/retrying_transactions/retryingtransactions/boundary/BoundaryOfPinLaw" = some m.cls := findClass_of_methodNamed Bd.named
  have hnm := (name_of_methodNamed Bd.named Bd.method).1
  have X0 : Stand p l e ({ frames := 0, cells := 0, slots := 0, locals := 0 } : Room) s m #[(.int k)] below meth c s₁ [] 0 0 := Stand.of_body Bd
  have e0 : s₁.heap = h0 := by rw [← hh, Bd.state]; rfl
  have N0 := Fr.nil Z.heap.size
  have K0 : Keep h0 h0 [] := Keep.refl _ _
  refine own_start (Q := Q_own_pickM Z k a0p a1p a2p a3p a4p a5p a6p h0) (ef_own_pickM m (k)) ?_
  show own_G p e below (s₁.setTop (mkF m 0 #[.val (.int k)] [])) _
  refine own_go (fun t k => XS.iloadN X0.here hx rfl (hb hby d_method_3_code_0) rfl k) ?_
  show own_G p e below (s₁.setTop (mkF m 1 #[.val (.int k)] [(.int k)])) _
  by_cases hc1z : k = (0 : Int32)
  · refine own_go (fun t k => XS.ifNo X0.here hx rfl (hb hby d_method_3_code_1) rfl ((if0 _ _).trans (teq hc1z).2) k) ?_
    show own_G p e below (s₁.setTop (mkF m 4 #[.val (.int k)] [])) _
    obtain ⟨T2z, X2z, e2z, st2z⟩ := getS2 X0 hx hZ hown (host := "") (Or.inl (own_hw hw 5 rfl)) Via.refl e0 (S_REQUIRED.ext O0) (g := (mkF m 4 #[.val (.int k)] [])) rfl (hb hby d_method_3_code_4)
    refine own_go st2z ?_
    show own_G p e below (T2z.setTop (mkF m 7 #[.val (.int k)] [(.ref a0p)])) _
    exact own_ret X2z hx Bd.returns rfl (Or.inr (Or.inr (Or.inr (Or.inr ⟨rfl, rfl, rfl⟩)))) (hb hby d_method_3_code_7) hlk (Nat.le_of_ble_eq_true rfl) (Nat.le_of_ble_eq_true rfl) (by show Q_own_pickM Z k a0p a1p a2p a3p a4p a5p a6p h0 _ T2z.heap _; rw [e2z]; exact ⟨(by simp [own_pick, hc1z]), N0, rfl⟩)
  · refine own_go (fun t k => XS.ifYes X0.here hx rfl (pc0 := 1) (pc' := 8) rfl (hb hby d_method_3_code_1) rfl ((if0 _ _).trans (feq hc1z).2) (by decide) (by decide) k) ?_
    show own_G p e below (s₁.setTop (mkF m 8 #[.val (.int k)] [])) _
    refine own_go (fun t k => XS.iloadN X0.here hx rfl (hb hby d_method_3_code_8) rfl k) ?_
    show own_G p e below (s₁.setTop (mkF m 9 #[.val (.int k)] [(.int k)])) _
    refine own_go (fun t k => XS.iconst X0.here hx rfl (hb hby d_method_3_code_9) k) ?_
    show own_G p e below (s₁.setTop (mkF m 10 #[.val (.int k)] [(.int (1 : Int32)), (.int k)])) _
    by_cases hc3z : k = (1 : Int32)
    · refine own_go (fun t k => XS.icmpNo X0.here hx rfl (hb hby d_method_3_code_10) rfl (teq hc3z).2 k) ?_
      show own_G p e below (s₁.setTop (mkF m 13 #[.val (.int k)] [])) _
      obtain ⟨T4z, X4z, e4z, st4z⟩ := getS2 X0 hx hZ hown (host := "") (Or.inl (own_hw hw 99 rfl)) Via.refl e0 (S_REQUIRES_NEW.ext O0) (g := (mkF m 13 #[.val (.int k)] [])) rfl (hb hby d_method_3_code_13)
      refine own_go st4z ?_
      show own_G p e below (T4z.setTop (mkF m 16 #[.val (.int k)] [(.ref a1p)])) _
      exact own_ret X4z hx Bd.returns rfl (Or.inr (Or.inr (Or.inr (Or.inr ⟨rfl, rfl, rfl⟩)))) (hb hby d_method_3_code_16) hlk (Nat.le_of_ble_eq_true rfl) (Nat.le_of_ble_eq_true rfl) (by show Q_own_pickM Z k a0p a1p a2p a3p a4p a5p a6p h0 _ T4z.heap _; rw [e4z]; exact ⟨(by simp [own_pick, hc1z, hc3z]), N0, rfl⟩)
    · refine own_go (fun t k => XS.icmpYes X0.here hx rfl (pc0 := 10) (pc' := 17) rfl (hb hby d_method_3_code_10) rfl (feq hc3z).2 (by decide) (by decide) k) ?_
      show own_G p e below (s₁.setTop (mkF m 17 #[.val (.int k)] [])) _
      refine own_go (fun t k => XS.iloadN X0.here hx rfl (hb hby d_method_3_code_17) rfl k) ?_
      show own_G p e below (s₁.setTop (mkF m 18 #[.val (.int k)] [(.int k)])) _
      refine own_go (fun t k => XS.iconst X0.here hx rfl (hb hby d_method_3_code_18) k) ?_
      show own_G p e below (s₁.setTop (mkF m 19 #[.val (.int k)] [(.int (2 : Int32)), (.int k)])) _
      by_cases hc5z : k = (2 : Int32)
      · refine own_go (fun t k => XS.icmpNo X0.here hx rfl (hb hby d_method_3_code_19) rfl (teq hc5z).2 k) ?_
        show own_G p e below (s₁.setTop (mkF m 22 #[.val (.int k)] [])) _
        obtain ⟨T6z, X6z, e6z, st6z⟩ := getS2 X0 hx hZ hown (host := "") (Or.inl (own_hw hw 97 rfl)) Via.refl e0 (S_NESTED.ext O0) (g := (mkF m 22 #[.val (.int k)] [])) rfl (hb hby d_method_3_code_22)
        refine own_go st6z ?_
        show own_G p e below (T6z.setTop (mkF m 25 #[.val (.int k)] [(.ref a2p)])) _
        exact own_ret X6z hx Bd.returns rfl (Or.inr (Or.inr (Or.inr (Or.inr ⟨rfl, rfl, rfl⟩)))) (hb hby d_method_3_code_25) hlk (Nat.le_of_ble_eq_true rfl) (Nat.le_of_ble_eq_true rfl) (by show Q_own_pickM Z k a0p a1p a2p a3p a4p a5p a6p h0 _ T6z.heap _; rw [e6z]; exact ⟨(by simp [own_pick, hc1z, hc3z, hc5z]), N0, rfl⟩)
      · refine own_go (fun t k => XS.icmpYes X0.here hx rfl (pc0 := 19) (pc' := 26) rfl (hb hby d_method_3_code_19) rfl (feq hc5z).2 (by decide) (by decide) k) ?_
        show own_G p e below (s₁.setTop (mkF m 26 #[.val (.int k)] [])) _
        refine own_go (fun t k => XS.iloadN X0.here hx rfl (hb hby d_method_3_code_26) rfl k) ?_
        show own_G p e below (s₁.setTop (mkF m 27 #[.val (.int k)] [(.int k)])) _
        refine own_go (fun t k => XS.iconst X0.here hx rfl (hb hby d_method_3_code_27) k) ?_
        show own_G p e below (s₁.setTop (mkF m 28 #[.val (.int k)] [(.int (3 : Int32)), (.int k)])) _
        by_cases hc7z : k = (3 : Int32)
        · refine own_go (fun t k => XS.icmpNo X0.here hx rfl (hb hby d_method_3_code_28) rfl (teq hc7z).2 k) ?_
          show own_G p e below (s₁.setTop (mkF m 31 #[.val (.int k)] [])) _
          obtain ⟨T8z, X8z, e8z, st8z⟩ := getS2 X0 hx hZ hown (host := "") (Or.inl (own_hw hw 89 rfl)) Via.refl e0 (S_SUPPORTS.ext O0) (g := (mkF m 31 #[.val (.int k)] [])) rfl (hb hby d_method_3_code_31)
          refine own_go st8z ?_
          show own_G p e below (T8z.setTop (mkF m 34 #[.val (.int k)] [(.ref a3p)])) _
          exact own_ret X8z hx Bd.returns rfl (Or.inr (Or.inr (Or.inr (Or.inr ⟨rfl, rfl, rfl⟩)))) (hb hby d_method_3_code_34) hlk (Nat.le_of_ble_eq_true rfl) (Nat.le_of_ble_eq_true rfl) (by show Q_own_pickM Z k a0p a1p a2p a3p a4p a5p a6p h0 _ T8z.heap _; rw [e8z]; exact ⟨(by simp [own_pick, hc1z, hc3z, hc5z, hc7z]), N0, rfl⟩)
        · refine own_go (fun t k => XS.icmpYes X0.here hx rfl (pc0 := 28) (pc' := 35) rfl (hb hby d_method_3_code_28) rfl (feq hc7z).2 (by decide) (by decide) k) ?_
          show own_G p e below (s₁.setTop (mkF m 35 #[.val (.int k)] [])) _
          refine own_go (fun t k => XS.iloadN X0.here hx rfl (hb hby d_method_3_code_35) rfl k) ?_
          show own_G p e below (s₁.setTop (mkF m 36 #[.val (.int k)] [(.int k)])) _
          refine own_go (fun t k => XS.iconst X0.here hx rfl (hb hby d_method_3_code_36) k) ?_
          show own_G p e below (s₁.setTop (mkF m 37 #[.val (.int k)] [(.int (4 : Int32)), (.int k)])) _
          by_cases hc9z : k = (4 : Int32)
          · refine own_go (fun t k => XS.icmpNo X0.here hx rfl (hb hby d_method_3_code_37) rfl (teq hc9z).2 k) ?_
            show own_G p e below (s₁.setTop (mkF m 40 #[.val (.int k)] [])) _
            obtain ⟨T10z, X10z, e10z, st10z⟩ := getS2 X0 hx hZ hown (host := "") (Or.inl (own_hw hw 95 rfl)) Via.refl e0 (S_NOT_SUPPORTED.ext O0) (g := (mkF m 40 #[.val (.int k)] [])) rfl (hb hby d_method_3_code_40)
            refine own_go st10z ?_
            show own_G p e below (T10z.setTop (mkF m 43 #[.val (.int k)] [(.ref a4p)])) _
            exact own_ret X10z hx Bd.returns rfl (Or.inr (Or.inr (Or.inr (Or.inr ⟨rfl, rfl, rfl⟩)))) (hb hby d_method_3_code_43) hlk (Nat.le_of_ble_eq_true rfl) (Nat.le_of_ble_eq_true rfl) (by show Q_own_pickM Z k a0p a1p a2p a3p a4p a5p a6p h0 _ T10z.heap _; rw [e10z]; exact ⟨(by simp [own_pick, hc1z, hc3z, hc5z, hc7z, hc9z]), N0, rfl⟩)
          · refine own_go (fun t k => XS.icmpYes X0.here hx rfl (pc0 := 37) (pc' := 44) rfl (hb hby d_method_3_code_37) rfl (feq hc9z).2 (by decide) (by decide) k) ?_
            show own_G p e below (s₁.setTop (mkF m 44 #[.val (.int k)] [])) _
            refine own_go (fun t k => XS.iloadN X0.here hx rfl (hb hby d_method_3_code_44) rfl k) ?_
            show own_G p e below (s₁.setTop (mkF m 45 #[.val (.int k)] [(.int k)])) _
            refine own_go (fun t k => XS.iconst X0.here hx rfl (hb hby d_method_3_code_45) k) ?_
            show own_G p e below (s₁.setTop (mkF m 46 #[.val (.int k)] [(.int (5 : Int32)), (.int k)])) _
            by_cases hc11z : k = (5 : Int32)
            · refine own_go (fun t k => XS.icmpNo X0.here hx rfl (hb hby d_method_3_code_46) rfl (teq hc11z).2 k) ?_
              show own_G p e below (s₁.setTop (mkF m 49 #[.val (.int k)] [])) _
              obtain ⟨T12z, X12z, e12z, st12z⟩ := getS2 X0 hx hZ hown (host := "") (Or.inl (own_hw hw 91 rfl)) Via.refl e0 (S_MANDATORY.ext O0) (g := (mkF m 49 #[.val (.int k)] [])) rfl (hb hby d_method_3_code_49)
              refine own_go st12z ?_
              show own_G p e below (T12z.setTop (mkF m 52 #[.val (.int k)] [(.ref a5p)])) _
              exact own_ret X12z hx Bd.returns rfl (Or.inr (Or.inr (Or.inr (Or.inr ⟨rfl, rfl, rfl⟩)))) (hb hby d_method_3_code_52) hlk (Nat.le_of_ble_eq_true rfl) (Nat.le_of_ble_eq_true rfl) (by show Q_own_pickM Z k a0p a1p a2p a3p a4p a5p a6p h0 _ T12z.heap _; rw [e12z]; exact ⟨(by simp [own_pick, hc1z, hc3z, hc5z, hc7z, hc9z, hc11z]), N0, rfl⟩)
            · refine own_go (fun t k => XS.icmpYes X0.here hx rfl (pc0 := 46) (pc' := 53) rfl (hb hby d_method_3_code_46) rfl (feq hc11z).2 (by decide) (by decide) k) ?_
              show own_G p e below (s₁.setTop (mkF m 53 #[.val (.int k)] [])) _
              obtain ⟨T13z, X13z, e13z, st13z⟩ := getS2 X0 hx hZ hown (host := "") (Or.inl (own_hw hw 93 rfl)) Via.refl e0 (S_NEVER.ext O0) (g := (mkF m 53 #[.val (.int k)] [])) rfl (hb hby d_method_3_code_53)
              refine own_go st13z ?_
              show own_G p e below (T13z.setTop (mkF m 56 #[.val (.int k)] [(.ref a6p)])) _
              exact own_ret X13z hx Bd.returns rfl (Or.inr (Or.inr (Or.inr (Or.inr ⟨rfl, rfl, rfl⟩)))) (hb hby d_method_3_code_56) hlk (Nat.le_of_ble_eq_true rfl) (Nat.le_of_ble_eq_true rfl) (by show Q_own_pickM Z k a0p a1p a2p a3p a4p a5p a6p h0 _ T13z.heap _; rw [e13z]; exact ⟨(by simp [own_pick, hc1z, hc3z, hc5z, hc7z, hc9z, hc11z]), N0, rfl⟩)
theorem ef_own_rnn (m : MethodId) (x0 : Addr) (x1 : Addr) : entryFrame m #[(.ref x0), (.ref x1)] 2 = mkF m 0 #[.val (.ref x0), .val (.ref x1)] [] := by first | (simp [entryFrame, mkF, argsToLocals, Value.category]; done) | rfl
theorem pf_own_rnn : plainFor own_m1 = true := plainFor_of_name (by simp [plainName, overriddenIn])
theorem d_jdk_31_method_11_code_0 : decode jdk_31_method_11_code 0 = .ok (.aload_n 0, 1) := by decide +kernel
theorem d_jdk_31_method_11_code_1 : decode jdk_31_method_11_code 1 = .ok (.ifnonnull 12, 3) := by decide +kernel
theorem d_jdk_31_method_11_code_13 : decode jdk_31_method_11_code 13 = .ok (.aload_n 0, 1) := by decide +kernel
theorem d_jdk_31_method_11_code_14 : decode jdk_31_method_11_code 14 = .ok (.areturn, 1) := by decide +kernel
def Q_own_rnn (Z : State) (a : Addr) (b : Addr) (h0 : Heap) (v : Option Value) (h : Heap) (L : List Loc) : Prop := v = some (.ref a) ∧ Fr Z.heap.size L ∧ h = h0
set_option maxRecDepth 65536 in
set_option maxHeartbeats 40000000 in
theorem own_rnn (l : Launch) (Z : State) (a0 : Array Value) (hw : ∀ d ∈ tables_1, d.before a0 Z = true) (ws : List Jvm.Cond) (a : Addr) (b : Addr) (h0 : Heap) (O0 : Ext Z.heap h0) :
    MetFree l own_m1 (head1 (Jvm.Cond.code own_m1 jdk_31_method_11_code 2 (some (.object "java/lang/Object")) :: ws) ({ frames := 0, cells := 0, slots := 0, locals := 0 } : Room)) (fun aa U => aa = #[(.ref a), (.ref b)] ∧ Z.Warmed39 U.vm ∧ U.heap = h0) (fun _ _ _ _ _ => True) (fun _ U o U' => ∃ v L, o = .returned v ∧ Q_own_rnn Z a b h0 v U'.heap L ∧ FrameEnd U o U' L ({ frames := 0, cells := 0, slots := 0, locals := 0 } : Room).cells ({ frames := 0, cells := 0, slots := 0, locals := 0 } : Room).slots) := by
  refine MetFree.of_bodySF pf_own_rnn hisR ?_
  intro p e s m args below meth c s₁ Bd hml0 hP hK
  obtain ⟨rfl, hZ, hh⟩ := hP
  have hx := Bd.exec
  have hby := Bd.bytes
  have hlk := BodyLoose.notSynchronized Bd
  have hml : c.maxLocals = 2 := hml0
  have hown : s.vm.findClass "java/util/Objects" = some m.cls := findClass_of_methodNamed Bd.named
  have hnm := (name_of_methodNamed Bd.named Bd.method).1
  have X0 : Stand p l e ({ frames := 0, cells := 0, slots := 0, locals := 0 } : Room) s m #[(.ref a), (.ref b)] below meth c s₁ [] 0 0 := Stand.of_body Bd
  have e0 : s₁.heap = h0 := by rw [← hh, Bd.state]; rfl
  have N0 := Fr.nil Z.heap.size
  have K0 : Keep h0 h0 [] := Keep.refl _ _
  refine own_start (Q := Q_own_rnn Z a b h0) (ef_own_rnn m (a) (b)) ?_
  show own_G p e below (s₁.setTop (mkF m 0 #[.val (.ref a), .val (.ref b)] [])) _
  refine own_go (fun t k => XS.aloadN X0.here hx rfl (hb hby d_jdk_31_method_11_code_0) rfl rfl k) ?_
  show own_G p e below (s₁.setTop (mkF m 1 #[.val (.ref a), .val (.ref b)] [(.ref a)])) _
  refine own_go (fun t k => XS.ifnonnullYes X0.here hx rfl (pc0 := 1) (pc' := 13) rfl (hb hby d_jdk_31_method_11_code_1) rfl (by decide) (by decide) k) ?_
  show own_G p e below (s₁.setTop (mkF m 13 #[.val (.ref a), .val (.ref b)] [])) _
  refine own_go (fun t k => XS.aloadN X0.here hx rfl (hb hby d_jdk_31_method_11_code_13) rfl rfl k) ?_
  show own_G p e below (s₁.setTop (mkF m 14 #[.val (.ref a), .val (.ref b)] [(.ref a)])) _
  exact own_ret X0 hx Bd.returns rfl (Or.inr (Or.inr (Or.inr (Or.inr ⟨rfl, rfl, rfl⟩)))) (hb hby d_jdk_31_method_11_code_14) hlk (Nat.le_of_ble_eq_true rfl) (Nat.le_of_ble_eq_true rfl) (by show Q_own_rnn Z a b h0 _ s₁.heap _; rw [e0]; exact ⟨rfl, N0, rfl⟩)
theorem ef_own_std (m : MethodId) : entryFrame m #[] 0 = mkF m 0 #[] [] := by first | (simp [entryFrame, mkF, argsToLocals, Value.category]; done) | rfl
theorem pf_own_std : plainFor own_m2 = true := plainFor_of_name (by simp [plainName, overriddenIn])
theorem d_prog_33_method_2_code_0 : decode prog_33_method_2_code 0 = .ok (.getstatic 16, 3) := by decide +kernel
theorem d_prog_33_method_2_code_3 : decode prog_33_method_2_code 3 = .ok (.areturn, 1) := by decide +kernel
def Q_own_std (Z : State) (aR : Addr) (h0 : Heap) (v : Option Value) (h : Heap) (L : List Loc) : Prop := v = some (.ref aR) ∧ Fr Z.heap.size L ∧ h = h0
set_option maxRecDepth 65536 in
set_option maxHeartbeats 40000000 in
theorem own_std (l : Launch) (Z : State) (a0 : Array Value) (hw : ∀ d ∈ tables_1, d.before a0 Z = true) (ws : List Jvm.Cond) (aR : Addr) (h0 : Heap) (O0 : Ext Z.heap h0) (S_STANDARD : Sta Z Z.heap "com/example/retrying_transactions/retryingtransactions/rollback/RollbackRule" "STANDARD" "Lcom/example/retrying_transactions/retryingtransactions/rollback/RollbackRule;" (.ref aR)) :
    MetFree l own_m2 (head1 (Jvm.Cond.code own_m2 prog_33_method_2_code 0 (some (.object "com/example/retrying_transactions/retryingtransactions/rollback/RollbackRule")) :: ws) ({ frames := 0, cells := 0, slots := 0, locals := 0 } : Room)) (fun aa U => aa = #[] ∧ Z.Warmed39 U.vm ∧ U.heap = h0) (fun _ _ _ _ _ => True) (fun _ U o U' => ∃ v L, o = .returned v ∧ Q_own_std Z aR h0 v U'.heap L ∧ FrameEnd U o U' L ({ frames := 0, cells := 0, slots := 0, locals := 0 } : Room).cells ({ frames := 0, cells := 0, slots := 0, locals := 0 } : Room).slots) := by
  refine MetFree.of_bodySF pf_own_std hisR ?_
  intro p e s m args below meth c s₁ Bd hml0 hP hK
  obtain ⟨rfl, hZ, hh⟩ := hP
  have hx := Bd.exec
  have hby := Bd.bytes
  have hlk := BodyLoose.notSynchronized Bd
  have hml : c.maxLocals = 0 := hml0
  have hown : s.vm.findClass "com/example/retrying_transactions/retryingtransactions/rollback/RollbackRule" = some m.cls := findClass_of_methodNamed Bd.named
  have hnm := (name_of_methodNamed Bd.named Bd.method).1
  have X0 : Stand p l e ({ frames := 0, cells := 0, slots := 0, locals := 0 } : Room) s m #[] below meth c s₁ [] 0 0 := Stand.of_body Bd
  have e0 : s₁.heap = h0 := by rw [← hh, Bd.state]; rfl
  have N0 := Fr.nil Z.heap.size
  have K0 : Keep h0 h0 [] := Keep.refl _ _
  refine own_start (Q := Q_own_std Z aR h0) (ef_own_std m) ?_
  show own_G p e below (s₁.setTop (mkF m 0 #[] [])) _
  obtain ⟨T1z, X1z, e1z, st1z⟩ := getS2 X0 hx hZ hown (host := "") (Or.inl (own_hw hw 46 rfl)) Via.refl e0 (S_STANDARD.ext O0) (g := (mkF m 0 #[] [])) rfl (hb hby d_prog_33_method_2_code_0)
  refine own_go st1z ?_
  show own_G p e below (T1z.setTop (mkF m 3 #[] [(.ref aR)])) _
  exact own_ret X1z hx Bd.returns rfl (Or.inr (Or.inr (Or.inr (Or.inr ⟨rfl, rfl, rfl⟩)))) (hb hby d_prog_33_method_2_code_3) hlk (Nat.le_of_ble_eq_true rfl) (Nat.le_of_ble_eq_true rfl) (by show Q_own_std Z aR h0 _ T1z.heap _; rw [e1z]; exact ⟨rfl, N0, rfl⟩)
theorem ef_own_draft (m : MethodId) (x0 : Addr) (x1 : Addr) : entryFrame m #[(.ref x0), (.ref x1)] 2 = mkF m 0 #[.val (.ref x0), .val (.ref x1)] [] := by first | (simp [entryFrame, mkF, argsToLocals, Value.category]; done) | rfl
theorem pf_own_draft : plainFor own_m3 = true := plainFor_of_name (by simp [plainName, overriddenIn])
theorem pd_500819800 : parseMethodDescriptor "()Lcom/example/retrying_transactions/retryingtransactions/rollback/RollbackRule;" = some ⟨[], some (.object "com/example/retrying_transactions/retryingtransactions/rollback/RollbackRule")⟩ := by decide +kernel
theorem d_prog_8_method_1_code_0 : decode prog_8_method_1_code 0 = .ok (.aload_n 0, 1) := by decide +kernel
theorem d_prog_8_method_1_code_1 : decode prog_8_method_1_code 1 = .ok (.invokespecial 1, 3) := by decide +kernel
theorem d_prog_8_method_1_code_11 : decode prog_8_method_1_code 11 = .ok (.aload_n 0, 1) := by decide +kernel
theorem d_prog_8_method_1_code_12 : decode prog_8_method_1_code 12 = .ok (.invokestatic 18, 3) := by decide +kernel
theorem d_prog_8_method_1_code_15 : decode prog_8_method_1_code 15 = .ok (.putfield 24, 3) := by decide +kernel
theorem d_prog_8_method_1_code_18 : decode prog_8_method_1_code 18 = .ok (.aload_n 0, 1) := by decide +kernel
theorem d_prog_8_method_1_code_19 : decode prog_8_method_1_code 19 = .ok (.aload_n 1, 1) := by decide +kernel
theorem d_prog_8_method_1_code_20 : decode prog_8_method_1_code 20 = .ok (.putfield 28, 3) := by decide +kernel
theorem d_prog_8_method_1_code_23 : decode prog_8_method_1_code 23 = .ok (.return_, 1) := by decide +kernel
theorem d_prog_8_method_1_code_4 : decode prog_8_method_1_code 4 = .ok (.aload_n 0, 1) := by decide +kernel
theorem d_prog_8_method_1_code_5 : decode prog_8_method_1_code 5 = .ok (.getstatic 7, 3) := by decide +kernel
theorem d_prog_8_method_1_code_8 : decode prog_8_method_1_code 8 = .ok (.putfield 13, 3) := by decide +kernel
def Q_own_draft (Z : State) (a : Addr) (pp : Addr) (aI : Addr) (aR : Addr) (h0 : Heap) (v : Option Value) (h : Heap) (L : List Loc) : Prop := v = none ∧ Fr Z.heap.size L ∧ Keep h0 h [a] ∧ (Exa Z h a "com/example/retrying_transactions/retryingtransactions/boundary/Boundary$Draft") ∧ (Fld Z h a "com/example/retrying_transactions/retryingtransactions/boundary/Boundary$Draft" "isolation" "Lcom/example/retrying_transactions/retryingtransactions/boundary/Isolation;" (.ref aI)) ∧ (Fld Z h a "com/example/retrying_transactions/retryingtransactions/boundary/Boundary$Draft" "rollbackRule" "Lcom/example/retrying_transactions/retryingtransactions/rollback/RollbackRule;" (.ref aR)) ∧ (Fld Z h a "com/example/retrying_transactions/retryingtransactions/boundary/Boundary$Draft" "propagation" "Lcom/example/retrying_transactions/retryingtransactions/boundary/Propagation;" (.ref pp)) ∧ (Fld Z h a "com/example/retrying_transactions/retryingtransactions/boundary/Boundary$Draft" "readOnly" "Z" (.int (0 : Int32))) ∧ (Fld Z h a "com/example/retrying_transactions/retryingtransactions/boundary/Boundary$Draft" "timeout" "Ljava/time/Duration;" .null)
set_option maxRecDepth 65536 in
set_option maxHeartbeats 40000000 in
theorem own_draft (l : Launch) (Z : State) (a0 : Array Value) (hw : ∀ d ∈ tables_1, d.before a0 Z = true) (ws : List Jvm.Cond) (a : Addr) (pp : Addr) (aI : Addr) (aR : Addr) (h0 : Heap) (O0 : Ext Z.heap h0) (S_DEFAULT : Sta Z Z.heap "com/example/retrying_transactions/retryingtransactions/boundary/Isolation" "DEFAULT" "Lcom/example/retrying_transactions/retryingtransactions/boundary/Isolation;" (.ref aI)) (S_STANDARD : Sta Z Z.heap "com/example/retrying_transactions/retryingtransactions/rollback/RollbackRule" "STANDARD" "Lcom/example/retrying_transactions/retryingtransactions/rollback/RollbackRule;" (.ref aR)) (q2 : Exa Z h0 a "com/example/retrying_transactions/retryingtransactions/boundary/Boundary$Draft") (q3 : Z.heap.size ≤ a) (q4 : Fld Z h0 a "com/example/retrying_transactions/retryingtransactions/boundary/Boundary$Draft" "isolation" "Lcom/example/retrying_transactions/retryingtransactions/boundary/Isolation;" .null) (q5 : Fld Z h0 a "com/example/retrying_transactions/retryingtransactions/boundary/Boundary$Draft" "rollbackRule" "Lcom/example/retrying_transactions/retryingtransactions/rollback/RollbackRule;" .null) (q6 : Fld Z h0 a "com/example/retrying_transactions/retryingtransactions/boundary/Boundary$Draft" "propagation" "Lcom/example/retrying_transactions/retryingtransactions/boundary/Propagation;" .null) (q7 : Fld Z h0 a "com/example/retrying_transactions/retryingtransactions/boundary/Boundary$Draft" "readOnly" "Z" (.int (0 : Int32))) (q8 : Fld Z h0 a "com/example/retrying_transactions/retryingtransactions/boundary/Boundary$Draft" "timeout" "Ljava/time/Duration;" .null) :
    MetFree l own_m3 (head1 (Jvm.Cond.code own_m3 prog_8_method_1_code 2 none :: ws) ({ frames := 1, cells := 0, slots := 0, locals := 13 } : Room)) (fun aa U => aa = #[(.ref a), (.ref pp)] ∧ Z.Warmed39 U.vm ∧ U.heap = h0) (fun _ _ _ _ _ => True) (fun _ U o U' => ∃ v L, o = .returned v ∧ Q_own_draft Z a pp aI aR h0 v U'.heap L ∧ FrameEnd U o U' L ({ frames := 1, cells := 0, slots := 0, locals := 13 } : Room).cells ({ frames := 1, cells := 0, slots := 0, locals := 13 } : Room).slots) := by
  refine MetFree.of_bodySF pf_own_draft hisR ?_
  intro p e s m args below meth c s₁ Bd hml0 hP hK
  obtain ⟨rfl, hZ, hh⟩ := hP
  have hx := Bd.exec
  have hby := Bd.bytes
  have hlk := BodyLoose.notSynchronized Bd
  have hml : c.maxLocals = 2 := hml0
  have hown : s.vm.findClass "com/example/retrying_transactions/retryingtransactions/boundary/Boundary$Draft" = some m.cls := findClass_of_methodNamed Bd.named
  have hnm := (name_of_methodNamed Bd.named Bd.method).1
  have X0 : Stand p l e ({ frames := 1, cells := 0, slots := 0, locals := 13 } : Room) s m #[(.ref a), (.ref pp)] below meth c s₁ [] 0 0 := Stand.of_body Bd
  have e0 : s₁.heap = h0 := by rw [← hh, Bd.state]; rfl
  have N0 := Fr.nil Z.heap.size
  have K0 : Keep h0 h0 [a] := Keep.refl _ _
  refine own_start (Q := Q_own_draft Z a pp aI aR h0) (ef_own_draft m (a) (pp)) ?_
  show own_G p e below (s₁.setTop (mkF m 0 #[.val (.ref a), .val (.ref pp)] [])) _
  refine own_go (fun t k => XS.aloadN X0.here hx rfl (hb hby d_prog_8_method_1_code_0) rfl rfl k) ?_
  show own_G p e below (s₁.setTop (mkF m 1 #[.val (.ref a), .val (.ref pp)] [(.ref a)])) _
  obtain ⟨T1z, X1z, e1z, st1z⟩ := initO X0 hx hZ hown (own_hw hw 34 rfl) (own_hw hw 35 rfl) (own_hw hw 36 rfl) e0 (g := (mkF m 1 #[.val (.ref a), .val (.ref pp)] [(.ref a)])) rfl (by rw [hml]; rfl) rfl (hb hby d_prog_8_method_1_code_1) (by decide) (W := 0) (by show 2 * 0 + _ ≤ _; exact Nat.le_of_eq rfl) (by decide)
  refine own_go st1z ?_
  show own_G p e below (T1z.setTop (mkF m 4 #[.val (.ref a), .val (.ref pp)] [])) _
  refine own_go (fun t k => XS.aloadN X1z.here hx rfl (hb hby d_prog_8_method_1_code_4) rfl rfl k) ?_
  show own_G p e below (T1z.setTop (mkF m 5 #[.val (.ref a), .val (.ref pp)] [(.ref a)])) _
  obtain ⟨T2z, X2z, e2z, st2z⟩ := getS2 X1z hx hZ hown (host := "") (Or.inl (own_hw hw 37 rfl)) Via.refl e1z (S_DEFAULT.ext O0) (g := (mkF m 5 #[.val (.ref a), .val (.ref pp)] [(.ref a)])) rfl (hb hby d_prog_8_method_1_code_5)
  refine own_go st2z ?_
  show own_G p e below (T2z.setTop (mkF m 8 #[.val (.ref a), .val (.ref pp)] [(.ref aI), (.ref a)])) _
  obtain ⟨T3z, h3z, X3z, e3z, W3z, st3z⟩ := putF X2z hx hZ hown (host := "") (Or.inl (own_hw hw 40 rfl)) Via.refl e2z q4 q2 (Or.inl (own_hw hw 41 rfl)) (own_hw hw 15 rfl) (ty := (.object "com/example/retrying_transactions/retryingtransactions/boundary/Isolation")) (by decide) rfl rfl (g := (mkF m 8 #[.val (.ref a), .val (.ref pp)] [(.ref aI), (.ref a)])) rfl rfl (hb hby d_prog_8_method_1_code_8)
  refine own_go st3z ?_
  have N3z := Fr.snoc X3z N0 q3
  have F3z : Fld Z h3z a "com/example/retrying_transactions/retryingtransactions/boundary/Boundary$Draft" "isolation" "Lcom/example/retrying_transactions/retryingtransactions/boundary/Isolation;" (.ref aI) := q4.same W3z
  have O4z : Ext Z.heap h3z := own_ext_wr O0 W3z q3
  have K4z : Keep h0 h3z [a] := K0.wr W3z (Or.inl (List.mem_of_getElem? (i := 0) rfl))
  show own_G p e below (T3z.setTop (mkF m 11 #[.val (.ref a), .val (.ref pp)] [])) _
  refine own_go (fun t k => XS.aloadN X3z.here hx rfl (hb hby d_prog_8_method_1_code_11) rfl rfl k) ?_
  show own_G p e below (T3z.setTop (mkF m 12 #[.val (.ref a), .val (.ref pp)] [(.ref a)])) _
  obtain ⟨_, _, ⟨T5z, L5z, k5z, n5z⟩, -, X5z, ⟨Lc5z, hQ5z, l5z, y5z, z5z⟩, st5z⟩ := Jvm.LawKit.callS X3z hx (y := own_m2) hown (mvT hZ (own_hw hw 42 rfl)) (mvT hZ (own_hw hw 43 rfl)) (mvT hZ (own_hw hw 44 rfl)) (mvT hZ (own_hw hw 45 rfl)) (by decide) (backOf (W := 1) (own_std l Z a0 hw [] aR h3z O4z S_STANDARD) hZ (own_hw hw 45 rfl) (own_hw hw 44 rfl) (by decide) (by decide)) (g := (mkF m 12 #[.val (.ref a), .val (.ref pp)] [(.ref a)])) rfl (by rw [hml]; rfl) (argsL := []) (rest := [(.ref a)]) (lenOf pd_500819800 rfl) rfl (by show 2 * 0 + _ ≤ _; exact Nat.le_of_eq rfl) (hb hby d_prog_8_method_1_code_12) (fun _ _ => ⟨rfl, e3z, (by decide : 0 + 0 ≤ _), (by decide : 0 + 0 ≤ _)⟩)
  dsimp only [Pt.U, Pt.locs, Pt.cells, Pt.slots] at X5z l5z y5z z5z st5z hQ5z
  subst l5z y5z z5z
  obtain ⟨rfl, NQ5z, K5zq⟩ := hQ5z
  refine own_go st5z ?_
  have N5z := Fr.app N3z NQ5z
  show own_G p e below (T5z.setTop (mkF m 15 #[.val (.ref a), .val (.ref pp)] [(.ref aR), (.ref a)])) _
  have f6z := (q5.other W3z (Or.inr (slot_ne (Or.inl (own_hw hw 49 rfl)) (Or.inl (own_hw hw 41 rfl)) (by decide) (t := (.object "com/example/retrying_transactions/retryingtransactions/rollback/RollbackRule")) (t' := (.object "com/example/retrying_transactions/retryingtransactions/boundary/Isolation")) (by decide) (by decide))))
  obtain ⟨T7z, h7z, X7z, e7z, W7z, st7z⟩ := putF X5z hx hZ hown (host := "") (Or.inl (own_hw hw 48 rfl)) Via.refl K5zq f6z (q2.wr W3z) (Or.inl (own_hw hw 49 rfl)) (own_hw hw 15 rfl) (ty := (.object "com/example/retrying_transactions/retryingtransactions/rollback/RollbackRule")) (by decide) rfl rfl (g := (mkF m 15 #[.val (.ref a), .val (.ref pp)] [(.ref aR), (.ref a)])) rfl rfl (hb hby d_prog_8_method_1_code_15)
  refine own_go st7z ?_
  have N7z := Fr.snoc X7z N5z q3
  have F7z : Fld Z h7z a "com/example/retrying_transactions/retryingtransactions/boundary/Boundary$Draft" "rollbackRule" "Lcom/example/retrying_transactions/retryingtransactions/rollback/RollbackRule;" (.ref aR) := f6z.same W7z
  have O8z : Ext Z.heap h7z := own_ext_wr O4z W7z q3
  have K8z : Keep h0 h7z [a] := K4z.wr W7z (Or.inl (List.mem_of_getElem? (i := 0) rfl))
  show own_G p e below (T7z.setTop (mkF m 18 #[.val (.ref a), .val (.ref pp)] [])) _
  refine own_go (fun t k => XS.aloadN X7z.here hx rfl (hb hby d_prog_8_method_1_code_18) rfl rfl k) ?_
  show own_G p e below (T7z.setTop (mkF m 19 #[.val (.ref a), .val (.ref pp)] [(.ref a)])) _
  refine own_go (fun t k => XS.aloadN X7z.here hx rfl (hb hby d_prog_8_method_1_code_19) rfl rfl k) ?_
  show own_G p e below (T7z.setTop (mkF m 20 #[.val (.ref a), .val (.ref pp)] [(.ref pp), (.ref a)])) _
  have f9z := ((q6.other W3z (Or.inr (slot_ne (Or.inl (own_hw hw 51 rfl)) (Or.inl (own_hw hw 41 rfl)) (by decide) (t := (.object "com/example/retrying_transactions/retryingtransactions/boundary/Propagation")) (t' := (.object "com/example/retrying_transactions/retryingtransactions/boundary/Isolation")) (by decide) (by decide)))).other W7z (Or.inr (slot_ne (Or.inl (own_hw hw 51 rfl)) (Or.inl (own_hw hw 49 rfl)) (by decide) (t := (.object "com/example/retrying_transactions/retryingtransactions/boundary/Propagation")) (t' := (.object "com/example/retrying_transactions/retryingtransactions/rollback/RollbackRule")) (by decide) (by decide))))
  obtain ⟨T10z, h10z, X10z, e10z, W10z, st10z⟩ := putF X7z hx hZ hown (host := "") (Or.inl (own_hw hw 50 rfl)) Via.refl e7z f9z ((q2.wr W3z).wr W7z) (Or.inl (own_hw hw 51 rfl)) (own_hw hw 15 rfl) (ty := (.object "com/example/retrying_transactions/retryingtransactions/boundary/Propagation")) (by decide) rfl rfl (g := (mkF m 20 #[.val (.ref a), .val (.ref pp)] [(.ref pp), (.ref a)])) rfl rfl (hb hby d_prog_8_method_1_code_20)
  refine own_go st10z ?_
  have N10z := Fr.snoc X10z N7z q3
  have F10z : Fld Z h10z a "com/example/retrying_transactions/retryingtransactions/boundary/Boundary$Draft" "propagation" "Lcom/example/retrying_transactions/retryingtransactions/boundary/Propagation;" (.ref pp) := f9z.same W10z
  have O11z : Ext Z.heap h10z := own_ext_wr O8z W10z q3
  have K11z : Keep h0 h10z [a] := K8z.wr W10z (Or.inl (List.mem_of_getElem? (i := 0) rfl))
  show own_G p e below (T10z.setTop (mkF m 23 #[.val (.ref a), .val (.ref pp)] [])) _
  have f12z := ((F3z.other W7z (Or.inr (slot_ne (Or.inl (own_hw hw 41 rfl)) (Or.inl (own_hw hw 49 rfl)) (by decide) (t := (.object "com/example/retrying_transactions/retryingtransactions/boundary/Isolation")) (t' := (.object "com/example/retrying_transactions/retryingtransactions/rollback/RollbackRule")) (by decide) (by decide)))).other W10z (Or.inr (slot_ne (Or.inl (own_hw hw 41 rfl)) (Or.inl (own_hw hw 51 rfl)) (by decide) (t := (.object "com/example/retrying_transactions/retryingtransactions/boundary/Isolation")) (t' := (.object "com/example/retrying_transactions/retryingtransactions/boundary/Propagation")) (by decide) (by decide))))
  have f13z := (F7z.other W10z (Or.inr (slot_ne (Or.inl (own_hw hw 49 rfl)) (Or.inl (own_hw hw 51 rfl)) (by decide) (t := (.object "com/example/retrying_transactions/retryingtransactions/rollback/RollbackRule")) (t' := (.object "com/example/retrying_transactions/retryingtransactions/boundary/Propagation")) (by decide) (by decide))))
  have f14z := (((q7.other W3z (Or.inr (slot_ne (Or.inl (own_hw hw 63 rfl)) (Or.inl (own_hw hw 41 rfl)) (by decide) (t := .boolean) (t' := (.object "com/example/retrying_transactions/retryingtransactions/boundary/Isolation")) (by decide) (by decide)))).other W7z (Or.inr (slot_ne (Or.inl (own_hw hw 63 rfl)) (Or.inl (own_hw hw 49 rfl)) (by decide) (t := .boolean) (t' := (.object "com/example/retrying_transactions/retryingtransactions/rollback/RollbackRule")) (by decide) (by decide)))).other W10z (Or.inr (slot_ne (Or.inl (own_hw hw 63 rfl)) (Or.inl (own_hw hw 51 rfl)) (by decide) (t := .boolean) (t' := (.object "com/example/retrying_transactions/retryingtransactions/boundary/Propagation")) (by decide) (by decide))))
  have f15z := (((q8.other W3z (Or.inr (slot_ne (Or.inl (own_hw hw 67 rfl)) (Or.inl (own_hw hw 41 rfl)) (by decide) (t := (.object "java/time/Duration")) (t' := (.object "com/example/retrying_transactions/retryingtransactions/boundary/Isolation")) (by decide) (by decide)))).other W7z (Or.inr (slot_ne (Or.inl (own_hw hw 67 rfl)) (Or.inl (own_hw hw 49 rfl)) (by decide) (t := (.object "java/time/Duration")) (t' := (.object "com/example/retrying_transactions/retryingtransactions/rollback/RollbackRule")) (by decide) (by decide)))).other W10z (Or.inr (slot_ne (Or.inl (own_hw hw 67 rfl)) (Or.inl (own_hw hw 51 rfl)) (by decide) (t := (.object "java/time/Duration")) (t' := (.object "com/example/retrying_transactions/retryingtransactions/boundary/Propagation")) (by decide) (by decide))))
  exact own_retV X10z hx Bd.returns (hb hby d_prog_8_method_1_code_23) hlk (Nat.le_of_ble_eq_true rfl) (Nat.le_of_ble_eq_true rfl) (by show Q_own_draft Z a pp aI aR h0 _ T10z.heap _; rw [e10z]; exact ⟨rfl, N10z, K11z, (((q2.wr W3z).wr W7z).wr W10z), f12z, f13z, F10z, f14z, f15z⟩)
theorem ef_own_bound (m : MethodId) (x0 : Addr) (x1 : Addr) : entryFrame m #[(.ref x0), (.ref x1)] 2 = mkF m 0 #[.val (.ref x0), .val (.ref x1)] [] := by first | (simp [entryFrame, mkF, argsToLocals, Value.category]; done) | rfl
theorem pf_own_bound : plainFor own_m4 = true := plainFor_of_name (by simp [plainName, overriddenIn])
theorem d_prog_7_method_1_code_0 : decode prog_7_method_1_code 0 = .ok (.aload_n 0, 1) := by decide +kernel
theorem d_prog_7_method_1_code_1 : decode prog_7_method_1_code 1 = .ok (.invokespecial 1, 3) := by decide +kernel
theorem d_prog_7_method_1_code_12 : decode prog_7_method_1_code 12 = .ok (.aload_n 0, 1) := by decide +kernel
theorem d_prog_7_method_1_code_13 : decode prog_7_method_1_code 13 = .ok (.aload_n 1, 1) := by decide +kernel
theorem d_prog_7_method_1_code_14 : decode prog_7_method_1_code 14 = .ok (.getfield 16, 3) := by decide +kernel
theorem d_prog_7_method_1_code_17 : decode prog_7_method_1_code 17 = .ok (.putfield 20, 3) := by decide +kernel
theorem d_prog_7_method_1_code_20 : decode prog_7_method_1_code 20 = .ok (.aload_n 0, 1) := by decide +kernel
theorem d_prog_7_method_1_code_21 : decode prog_7_method_1_code 21 = .ok (.aload_n 1, 1) := by decide +kernel
theorem d_prog_7_method_1_code_22 : decode prog_7_method_1_code 22 = .ok (.getfield 21, 3) := by decide +kernel
theorem d_prog_7_method_1_code_25 : decode prog_7_method_1_code 25 = .ok (.putfield 25, 3) := by decide +kernel
theorem d_prog_7_method_1_code_28 : decode prog_7_method_1_code 28 = .ok (.aload_n 0, 1) := by decide +kernel
theorem d_prog_7_method_1_code_29 : decode prog_7_method_1_code 29 = .ok (.aload_n 1, 1) := by decide +kernel
theorem d_prog_7_method_1_code_30 : decode prog_7_method_1_code 30 = .ok (.getfield 26, 3) := by decide +kernel
theorem d_prog_7_method_1_code_33 : decode prog_7_method_1_code 33 = .ok (.putfield 30, 3) := by decide +kernel
theorem d_prog_7_method_1_code_36 : decode prog_7_method_1_code 36 = .ok (.aload_n 0, 1) := by decide +kernel
theorem d_prog_7_method_1_code_37 : decode prog_7_method_1_code 37 = .ok (.aload_n 1, 1) := by decide +kernel
theorem d_prog_7_method_1_code_38 : decode prog_7_method_1_code 38 = .ok (.getfield 31, 3) := by decide +kernel
theorem d_prog_7_method_1_code_4 : decode prog_7_method_1_code 4 = .ok (.aload_n 0, 1) := by decide +kernel
theorem d_prog_7_method_1_code_41 : decode prog_7_method_1_code 41 = .ok (.putfield 35, 3) := by decide +kernel
theorem d_prog_7_method_1_code_44 : decode prog_7_method_1_code 44 = .ok (.return_, 1) := by decide +kernel
theorem d_prog_7_method_1_code_5 : decode prog_7_method_1_code 5 = .ok (.aload_n 1, 1) := by decide +kernel
theorem d_prog_7_method_1_code_6 : decode prog_7_method_1_code 6 = .ok (.getfield 7, 3) := by decide +kernel
theorem d_prog_7_method_1_code_9 : decode prog_7_method_1_code 9 = .ok (.putfield 13, 3) := by decide +kernel
def Q_own_bound (Z : State) (a : Addr) (b : Addr) (pp : Addr) (aI : Addr) (aR : Addr) (h0 : Heap) (v : Option Value) (h : Heap) (L : List Loc) : Prop := v = none ∧ Fr Z.heap.size L ∧ Keep h0 h [a] ∧ (Exa Z h a "com/example/retrying_transactions/retryingtransactions/boundary/Boundary") ∧ (Fld Z h a "com/example/retrying_transactions/retryingtransactions/boundary/Boundary" "isolation" "Lcom/example/retrying_transactions/retryingtransactions/boundary/Isolation;" (.ref aI)) ∧ (Fld Z h a "com/example/retrying_transactions/retryingtransactions/boundary/Boundary" "rollbackRule" "Lcom/example/retrying_transactions/retryingtransactions/rollback/RollbackRule;" (.ref aR)) ∧ (Fld Z h a "com/example/retrying_transactions/retryingtransactions/boundary/Boundary" "propagation" "Lcom/example/retrying_transactions/retryingtransactions/boundary/Propagation;" (.ref pp)) ∧ (Fld Z h a "com/example/retrying_transactions/retryingtransactions/boundary/Boundary" "readOnly" "Z" (.int (0 : Int32))) ∧ (Fld Z h a "com/example/retrying_transactions/retryingtransactions/boundary/Boundary" "timeout" "Ljava/time/Duration;" .null)
set_option maxRecDepth 65536 in
set_option maxHeartbeats 40000000 in
theorem own_bound (l : Launch) (Z : State) (a0 : Array Value) (hw : ∀ d ∈ tables_1, d.before a0 Z = true) (ws : List Jvm.Cond) (a : Addr) (b : Addr) (pp : Addr) (aI : Addr) (aR : Addr) (h0 : Heap) (O0 : Ext Z.heap h0) (q0 : Exa Z h0 a "com/example/retrying_transactions/retryingtransactions/boundary/Boundary") (q1 : Z.heap.size ≤ a) (nab : b ≠ a) (q3 : Fld Z h0 a "com/example/retrying_transactions/retryingtransactions/boundary/Boundary" "isolation" "Lcom/example/retrying_transactions/retryingtransactions/boundary/Isolation;" .null) (q4 : Fld Z h0 a "com/example/retrying_transactions/retryingtransactions/boundary/Boundary" "rollbackRule" "Lcom/example/retrying_transactions/retryingtransactions/rollback/RollbackRule;" .null) (q5 : Fld Z h0 a "com/example/retrying_transactions/retryingtransactions/boundary/Boundary" "propagation" "Lcom/example/retrying_transactions/retryingtransactions/boundary/Propagation;" .null) (q6 : Fld Z h0 a "com/example/retrying_transactions/retryingtransactions/boundary/Boundary" "readOnly" "Z" (.int (0 : Int32))) (q7 : Fld Z h0 a "com/example/retrying_transactions/retryingtransactions/boundary/Boundary" "timeout" "Ljava/time/Duration;" .null) (q8 : Fld Z h0 b "com/example/retrying_transactions/retryingtransactions/boundary/Boundary$Draft" "isolation" "Lcom/example/retrying_transactions/retryingtransactions/boundary/Isolation;" (.ref aI)) (q9 : Fld Z h0 b "com/example/retrying_transactions/retryingtransactions/boundary/Boundary$Draft" "rollbackRule" "Lcom/example/retrying_transactions/retryingtransactions/rollback/RollbackRule;" (.ref aR)) (q10 : Fld Z h0 b "com/example/retrying_transactions/retryingtransactions/boundary/Boundary$Draft" "propagation" "Lcom/example/retrying_transactions/retryingtransactions/boundary/Propagation;" (.ref pp)) (q11 : Fld Z h0 b "com/example/retrying_transactions/retryingtransactions/boundary/Boundary$Draft" "readOnly" "Z" (.int (0 : Int32))) (q12 : Fld Z h0 b "com/example/retrying_transactions/retryingtransactions/boundary/Boundary$Draft" "timeout" "Ljava/time/Duration;" .null) :
    MetFree l own_m4 (head1 (Jvm.Cond.code own_m4 prog_7_method_1_code 2 none :: ws) ({ frames := 1, cells := 0, slots := 0, locals := 13 } : Room)) (fun aa U => aa = #[(.ref a), (.ref b)] ∧ Z.Warmed39 U.vm ∧ U.heap = h0) (fun _ _ _ _ _ => True) (fun _ U o U' => ∃ v L, o = .returned v ∧ Q_own_bound Z a b pp aI aR h0 v U'.heap L ∧ FrameEnd U o U' L ({ frames := 1, cells := 0, slots := 0, locals := 13 } : Room).cells ({ frames := 1, cells := 0, slots := 0, locals := 13 } : Room).slots) := by
  refine MetFree.of_bodySF pf_own_bound hisR ?_
  intro p e s m args below meth c s₁ Bd hml0 hP hK
  obtain ⟨rfl, hZ, hh⟩ := hP
  have hx := Bd.exec
  have hby := Bd.bytes
  have hlk := BodyLoose.notSynchronized Bd
  have hml : c.maxLocals = 2 := hml0
  have hown : s.vm.findClass "com/example/retrying_transactions/retryingtransactions/boundary/Boundary" = some m.cls := findClass_of_methodNamed Bd.named
  have hnm := (name_of_methodNamed Bd.named Bd.method).1
  have X0 : Stand p l e ({ frames := 1, cells := 0, slots := 0, locals := 13 } : Room) s m #[(.ref a), (.ref b)] below meth c s₁ [] 0 0 := Stand.of_body Bd
  have e0 : s₁.heap = h0 := by rw [← hh, Bd.state]; rfl
  have N0 := Fr.nil Z.heap.size
  have K0 : Keep h0 h0 [a] := Keep.refl _ _
  refine own_start (Q := Q_own_bound Z a b pp aI aR h0) (ef_own_bound m (a) (b)) ?_
  show own_G p e below (s₁.setTop (mkF m 0 #[.val (.ref a), .val (.ref b)] [])) _
  refine own_go (fun t k => XS.aloadN X0.here hx rfl (hb hby d_prog_7_method_1_code_0) rfl rfl k) ?_
  show own_G p e below (s₁.setTop (mkF m 1 #[.val (.ref a), .val (.ref b)] [(.ref a)])) _
  obtain ⟨T1z, X1z, e1z, st1z⟩ := initO X0 hx hZ hown (own_hw hw 55 rfl) (own_hw hw 35 rfl) (own_hw hw 36 rfl) e0 (g := (mkF m 1 #[.val (.ref a), .val (.ref b)] [(.ref a)])) rfl (by rw [hml]; rfl) rfl (hb hby d_prog_7_method_1_code_1) (by decide) (W := 0) (by show 2 * 0 + _ ≤ _; exact Nat.le_of_eq rfl) (by decide)
  refine own_go st1z ?_
  show own_G p e below (T1z.setTop (mkF m 4 #[.val (.ref a), .val (.ref b)] [])) _
  refine own_go (fun t k => XS.aloadN X1z.here hx rfl (hb hby d_prog_7_method_1_code_4) rfl rfl k) ?_
  show own_G p e below (T1z.setTop (mkF m 5 #[.val (.ref a), .val (.ref b)] [(.ref a)])) _
  refine own_go (fun t k => XS.aloadN X1z.here hx rfl (hb hby d_prog_7_method_1_code_5) rfl rfl k) ?_
  show own_G p e below (T1z.setTop (mkF m 6 #[.val (.ref a), .val (.ref b)] [(.ref b), (.ref a)])) _
  obtain ⟨T2z, X2z, e2z, st2z⟩ := getF X1z hx hZ hown (host := "") (Or.inl (own_hw hw 56 rfl)) Via.refl e1z q10 (g := (mkF m 6 #[.val (.ref a), .val (.ref b)] [(.ref b), (.ref a)])) rfl rfl (hb hby d_prog_7_method_1_code_6)
  refine own_go st2z ?_
  show own_G p e below (T2z.setTop (mkF m 9 #[.val (.ref a), .val (.ref b)] [(.ref pp), (.ref a)])) _
  obtain ⟨T3z, h3z, X3z, e3z, W3z, st3z⟩ := putF X2z hx hZ hown (host := "") (Or.inl (own_hw hw 57 rfl)) Via.refl e2z q5 q0 (Or.inr ⟨(own_hw hw 58 rfl), rfl, hnm⟩) (own_hw hw 13 rfl) (ty := (.object "com/example/retrying_transactions/retryingtransactions/boundary/Propagation")) (by decide) rfl rfl (g := (mkF m 9 #[.val (.ref a), .val (.ref b)] [(.ref pp), (.ref a)])) rfl rfl (hb hby d_prog_7_method_1_code_9)
  refine own_go st3z ?_
  have N3z := Fr.snoc X3z N0 q1
  have F3z : Fld Z h3z a "com/example/retrying_transactions/retryingtransactions/boundary/Boundary" "propagation" "Lcom/example/retrying_transactions/retryingtransactions/boundary/Propagation;" (.ref pp) := q5.same W3z
  have O4z : Ext Z.heap h3z := own_ext_wr O0 W3z q1
  have K4z : Keep h0 h3z [a] := K0.wr W3z (Or.inl (List.mem_of_getElem? (i := 0) rfl))
  show own_G p e below (T3z.setTop (mkF m 12 #[.val (.ref a), .val (.ref b)] [])) _
  refine own_go (fun t k => XS.aloadN X3z.here hx rfl (hb hby d_prog_7_method_1_code_12) rfl rfl k) ?_
  show own_G p e below (T3z.setTop (mkF m 13 #[.val (.ref a), .val (.ref b)] [(.ref a)])) _
  refine own_go (fun t k => XS.aloadN X3z.here hx rfl (hb hby d_prog_7_method_1_code_13) rfl rfl k) ?_
  show own_G p e below (T3z.setTop (mkF m 14 #[.val (.ref a), .val (.ref b)] [(.ref b), (.ref a)])) _
  obtain ⟨T5z, X5z, e5z, st5z⟩ := getF X3z hx hZ hown (host := "") (Or.inl (own_hw hw 59 rfl)) Via.refl e3z (q8.other W3z (Or.inl nab)) (g := (mkF m 14 #[.val (.ref a), .val (.ref b)] [(.ref b), (.ref a)])) rfl rfl (hb hby d_prog_7_method_1_code_14)
  refine own_go st5z ?_
  show own_G p e below (T5z.setTop (mkF m 17 #[.val (.ref a), .val (.ref b)] [(.ref aI), (.ref a)])) _
  have f6z := (q3.other W3z (Or.inr (slot_ne (Or.inr (own_hw hw 61 rfl)) (Or.inr (own_hw hw 58 rfl)) (by decide) (t := (.object "com/example/retrying_transactions/retryingtransactions/boundary/Isolation")) (t' := (.object "com/example/retrying_transactions/retryingtransactions/boundary/Propagation")) (by decide) (by decide))))
  obtain ⟨T7z, h7z, X7z, e7z, W7z, st7z⟩ := putF X5z hx hZ hown (host := "") (Or.inl (own_hw hw 60 rfl)) Via.refl e5z f6z (q0.wr W3z) (Or.inr ⟨(own_hw hw 61 rfl), rfl, hnm⟩) (own_hw hw 13 rfl) (ty := (.object "com/example/retrying_transactions/retryingtransactions/boundary/Isolation")) (by decide) rfl rfl (g := (mkF m 17 #[.val (.ref a), .val (.ref b)] [(.ref aI), (.ref a)])) rfl rfl (hb hby d_prog_7_method_1_code_17)
  refine own_go st7z ?_
  have N7z := Fr.snoc X7z N3z q1
  have F7z : Fld Z h7z a "com/example/retrying_transactions/retryingtransactions/boundary/Boundary" "isolation" "Lcom/example/retrying_transactions/retryingtransactions/boundary/Isolation;" (.ref aI) := f6z.same W7z
  have O8z : Ext Z.heap h7z := own_ext_wr O4z W7z q1
  have K8z : Keep h0 h7z [a] := K4z.wr W7z (Or.inl (List.mem_of_getElem? (i := 0) rfl))
  show own_G p e below (T7z.setTop (mkF m 20 #[.val (.ref a), .val (.ref b)] [])) _
  refine own_go (fun t k => XS.aloadN X7z.here hx rfl (hb hby d_prog_7_method_1_code_20) rfl rfl k) ?_
  show own_G p e below (T7z.setTop (mkF m 21 #[.val (.ref a), .val (.ref b)] [(.ref a)])) _
  refine own_go (fun t k => XS.aloadN X7z.here hx rfl (hb hby d_prog_7_method_1_code_21) rfl rfl k) ?_
  show own_G p e below (T7z.setTop (mkF m 22 #[.val (.ref a), .val (.ref b)] [(.ref b), (.ref a)])) _
  obtain ⟨T9z, X9z, e9z, st9z⟩ := getF X7z hx hZ hown (host := "") (Or.inl (own_hw hw 62 rfl)) Via.refl e7z ((q11.other W3z (Or.inl nab)).other W7z (Or.inl nab)) (g := (mkF m 22 #[.val (.ref a), .val (.ref b)] [(.ref b), (.ref a)])) rfl rfl (hb hby d_prog_7_method_1_code_22)
  refine own_go st9z ?_
  show own_G p e below (T9z.setTop (mkF m 25 #[.val (.ref a), .val (.ref b)] [(.int (0 : Int32)), (.ref a)])) _
  have f10z := ((q6.other W3z (Or.inr (slot_ne (Or.inr (own_hw hw 65 rfl)) (Or.inr (own_hw hw 58 rfl)) (by decide) (t := .boolean) (t' := (.object "com/example/retrying_transactions/retryingtransactions/boundary/Propagation")) (by decide) (by decide)))).other W7z (Or.inr (slot_ne (Or.inr (own_hw hw 65 rfl)) (Or.inr (own_hw hw 61 rfl)) (by decide) (t := .boolean) (t' := (.object "com/example/retrying_transactions/retryingtransactions/boundary/Isolation")) (by decide) (by decide))))
  obtain ⟨T11z, h11z, X11z, e11z, W11z, st11z⟩ := putF X9z hx hZ hown (host := "") (Or.inl (own_hw hw 64 rfl)) Via.refl e9z f10z ((q0.wr W3z).wr W7z) (Or.inr ⟨(own_hw hw 65 rfl), rfl, hnm⟩) (own_hw hw 13 rfl) (ty := .boolean) (by decide) rfl rfl (g := (mkF m 25 #[.val (.ref a), .val (.ref b)] [(.int (0 : Int32)), (.ref a)])) rfl rfl (hb hby d_prog_7_method_1_code_25)
  refine own_go st11z ?_
  have N11z := Fr.snoc X11z N7z q1
  have F11z : Fld Z h11z a "com/example/retrying_transactions/retryingtransactions/boundary/Boundary" "readOnly" "Z" (.int (0 : Int32)) := f10z.same W11z
  have O12z : Ext Z.heap h11z := own_ext_wr O8z W11z q1
  have K12z : Keep h0 h11z [a] := K8z.wr W11z (Or.inl (List.mem_of_getElem? (i := 0) rfl))
  show own_G p e below (T11z.setTop (mkF m 28 #[.val (.ref a), .val (.ref b)] [])) _
  refine own_go (fun t k => XS.aloadN X11z.here hx rfl (hb hby d_prog_7_method_1_code_28) rfl rfl k) ?_
  show own_G p e below (T11z.setTop (mkF m 29 #[.val (.ref a), .val (.ref b)] [(.ref a)])) _
  refine own_go (fun t k => XS.aloadN X11z.here hx rfl (hb hby d_prog_7_method_1_code_29) rfl rfl k) ?_
  show own_G p e below (T11z.setTop (mkF m 30 #[.val (.ref a), .val (.ref b)] [(.ref b), (.ref a)])) _
  have f13z := (((q12.other W3z (Or.inl nab)).other W7z (Or.inl nab)).other W11z (Or.inl nab))
  obtain ⟨T14z, X14z, e14z, st14z⟩ := getF X11z hx hZ hown (host := "") (Or.inl (own_hw hw 66 rfl)) Via.refl e11z f13z (g := (mkF m 30 #[.val (.ref a), .val (.ref b)] [(.ref b), (.ref a)])) rfl rfl (hb hby d_prog_7_method_1_code_30)
  refine own_go st14z ?_
  show own_G p e below (T14z.setTop (mkF m 33 #[.val (.ref a), .val (.ref b)] [.null, (.ref a)])) _
  have f15z := (((q7.other W3z (Or.inr (slot_ne (Or.inr (own_hw hw 69 rfl)) (Or.inr (own_hw hw 58 rfl)) (by decide) (t := (.object "java/time/Duration")) (t' := (.object "com/example/retrying_transactions/retryingtransactions/boundary/Propagation")) (by decide) (by decide)))).other W7z (Or.inr (slot_ne (Or.inr (own_hw hw 69 rfl)) (Or.inr (own_hw hw 61 rfl)) (by decide) (t := (.object "java/time/Duration")) (t' := (.object "com/example/retrying_transactions/retryingtransactions/boundary/Isolation")) (by decide) (by decide)))).other W11z (Or.inr (slot_ne (Or.inr (own_hw hw 69 rfl)) (Or.inr (own_hw hw 65 rfl)) (by decide) (t := (.object "java/time/Duration")) (t' := .boolean) (by decide) (by decide))))
  obtain ⟨T16z, h16z, X16z, e16z, W16z, st16z⟩ := putF X14z hx hZ hown (host := "") (Or.inl (own_hw hw 68 rfl)) Via.refl e14z f15z (((q0.wr W3z).wr W7z).wr W11z) (Or.inr ⟨(own_hw hw 69 rfl), rfl, hnm⟩) (own_hw hw 13 rfl) (ty := (.object "java/time/Duration")) (by decide) rfl rfl (g := (mkF m 33 #[.val (.ref a), .val (.ref b)] [.null, (.ref a)])) rfl rfl (hb hby d_prog_7_method_1_code_33)
  refine own_go st16z ?_
  have N16z := Fr.snoc X16z N11z q1
  have F16z : Fld Z h16z a "com/example/retrying_transactions/retryingtransactions/boundary/Boundary" "timeout" "Ljava/time/Duration;" .null := f15z.same W16z
  have O17z : Ext Z.heap h16z := own_ext_wr O12z W16z q1
  have K17z : Keep h0 h16z [a] := K12z.wr W16z (Or.inl (List.mem_of_getElem? (i := 0) rfl))
  show own_G p e below (T16z.setTop (mkF m 36 #[.val (.ref a), .val (.ref b)] [])) _
  refine own_go (fun t k => XS.aloadN X16z.here hx rfl (hb hby d_prog_7_method_1_code_36) rfl rfl k) ?_
  show own_G p e below (T16z.setTop (mkF m 37 #[.val (.ref a), .val (.ref b)] [(.ref a)])) _
  refine own_go (fun t k => XS.aloadN X16z.here hx rfl (hb hby d_prog_7_method_1_code_37) rfl rfl k) ?_
  show own_G p e below (T16z.setTop (mkF m 38 #[.val (.ref a), .val (.ref b)] [(.ref b), (.ref a)])) _
  have f18z := ((((q9.other W3z (Or.inl nab)).other W7z (Or.inl nab)).other W11z (Or.inl nab)).other W16z (Or.inl nab))
  obtain ⟨T19z, X19z, e19z, st19z⟩ := getF X16z hx hZ hown (host := "") (Or.inl (own_hw hw 70 rfl)) Via.refl e16z f18z (g := (mkF m 38 #[.val (.ref a), .val (.ref b)] [(.ref b), (.ref a)])) rfl rfl (hb hby d_prog_7_method_1_code_38)
  refine own_go st19z ?_
  show own_G p e below (T19z.setTop (mkF m 41 #[.val (.ref a), .val (.ref b)] [(.ref aR), (.ref a)])) _
  have f20z := ((((q4.other W3z (Or.inr (slot_ne (Or.inr (own_hw hw 72 rfl)) (Or.inr (own_hw hw 58 rfl)) (by decide) (t := (.object "com/example/retrying_transactions/retryingtransactions/rollback/RollbackRule")) (t' := (.object "com/example/retrying_transactions/retryingtransactions/boundary/Propagation")) (by decide) (by decide)))).other W7z (Or.inr (slot_ne (Or.inr (own_hw hw 72 rfl)) (Or.inr (own_hw hw 61 rfl)) (by decide) (t := (.object "com/example/retrying_transactions/retryingtransactions/rollback/RollbackRule")) (t' := (.object "com/example/retrying_transactions/retryingtransactions/boundary/Isolation")) (by decide) (by decide)))).other W11z (Or.inr (slot_ne (Or.inr (own_hw hw 72 rfl)) (Or.inr (own_hw hw 65 rfl)) (by decide) (t := (.object "com/example/retrying_transactions/retryingtransactions/rollback/RollbackRule")) (t' := .boolean) (by decide) (by decide)))).other W16z (Or.inr (slot_ne (Or.inr (own_hw hw 72 rfl)) (Or.inr (own_hw hw 69 rfl)) (by decide) (t := (.object "com/example/retrying_transactions/retryingtransactions/rollback/RollbackRule")) (t' := (.object "java/time/Duration")) (by decide) (by decide))))
  obtain ⟨T21z, h21z, X21z, e21z, W21z, st21z⟩ := putF X19z hx hZ hown (host := "") (Or.inl (own_hw hw 71 rfl)) Via.refl e19z f20z ((((q0.wr W3z).wr W7z).wr W11z).wr W16z) (Or.inr ⟨(own_hw hw 72 rfl), rfl, hnm⟩) (own_hw hw 13 rfl) (ty := (.object "com/example/retrying_transactions/retryingtransactions/rollback/RollbackRule")) (by decide) rfl rfl (g := (mkF m 41 #[.val (.ref a), .val (.ref b)] [(.ref aR), (.ref a)])) rfl rfl (hb hby d_prog_7_method_1_code_41)
  refine own_go st21z ?_
  have N21z := Fr.snoc X21z N16z q1
  have F21z : Fld Z h21z a "com/example/retrying_transactions/retryingtransactions/boundary/Boundary" "rollbackRule" "Lcom/example/retrying_transactions/retryingtransactions/rollback/RollbackRule;" (.ref aR) := f20z.same W21z
  have O22z : Ext Z.heap h21z := own_ext_wr O17z W21z q1
  have K22z : Keep h0 h21z [a] := K17z.wr W21z (Or.inl (List.mem_of_getElem? (i := 0) rfl))
  show own_G p e below (T21z.setTop (mkF m 44 #[.val (.ref a), .val (.ref b)] [])) _
  have f23z := (((F7z.other W11z (Or.inr (slot_ne (Or.inr (own_hw hw 61 rfl)) (Or.inr (own_hw hw 65 rfl)) (by decide) (t := (.object "com/example/retrying_transactions/retryingtransactions/boundary/Isolation")) (t' := .boolean) (by decide) (by decide)))).other W16z (Or.inr (slot_ne (Or.inr (own_hw hw 61 rfl)) (Or.inr (own_hw hw 69 rfl)) (by decide) (t := (.object "com/example/retrying_transactions/retryingtransactions/boundary/Isolation")) (t' := (.object "java/time/Duration")) (by decide) (by decide)))).other W21z (Or.inr (slot_ne (Or.inr (own_hw hw 61 rfl)) (Or.inr (own_hw hw 72 rfl)) (by decide) (t := (.object "com/example/retrying_transactions/retryingtransactions/boundary/Isolation")) (t' := (.object "com/example/retrying_transactions/retryingtransactions/rollback/RollbackRule")) (by decide) (by decide))))
  have f24z := ((((F3z.other W7z (Or.inr (slot_ne (Or.inr (own_hw hw 58 rfl)) (Or.inr (own_hw hw 61 rfl)) (by decide) (t := (.object "com/example/retrying_transactions/retryingtransactions/boundary/Propagation")) (t' := (.object "com/example/retrying_transactions/retryingtransactions/boundary/Isolation")) (by decide) (by decide)))).other W11z (Or.inr (slot_ne (Or.inr (own_hw hw 58 rfl)) (Or.inr (own_hw hw 65 rfl)) (by decide) (t := (.object "com/example/retrying_transactions/retryingtransactions/boundary/Propagation")) (t' := .boolean) (by decide) (by decide)))).other W16z (Or.inr (slot_ne (Or.inr (own_hw hw 58 rfl)) (Or.inr (own_hw hw 69 rfl)) (by decide) (t := (.object "com/example/retrying_transactions/retryingtransactions/boundary/Propagation")) (t' := (.object "java/time/Duration")) (by decide) (by decide)))).other W21z (Or.inr (slot_ne (Or.inr (own_hw hw 58 rfl)) (Or.inr (own_hw hw 72 rfl)) (by decide) (t := (.object "com/example/retrying_transactions/retryingtransactions/boundary/Propagation")) (t' := (.object "com/example/retrying_transactions/retryingtransactions/rollback/RollbackRule")) (by decide) (by decide))))
  have f25z := ((F11z.other W16z (Or.inr (slot_ne (Or.inr (own_hw hw 65 rfl)) (Or.inr (own_hw hw 69 rfl)) (by decide) (t := .boolean) (t' := (.object "java/time/Duration")) (by decide) (by decide)))).other W21z (Or.inr (slot_ne (Or.inr (own_hw hw 65 rfl)) (Or.inr (own_hw hw 72 rfl)) (by decide) (t := .boolean) (t' := (.object "com/example/retrying_transactions/retryingtransactions/rollback/RollbackRule")) (by decide) (by decide))))
  have f26z := (F16z.other W21z (Or.inr (slot_ne (Or.inr (own_hw hw 69 rfl)) (Or.inr (own_hw hw 72 rfl)) (by decide) (t := (.object "java/time/Duration")) (t' := (.object "com/example/retrying_transactions/retryingtransactions/rollback/RollbackRule")) (by decide) (by decide))))
  exact own_retV X21z hx Bd.returns (hb hby d_prog_7_method_1_code_44) hlk (Nat.le_of_ble_eq_true rfl) (Nat.le_of_ble_eq_true rfl) (by show Q_own_bound Z a b pp aI aR h0 _ T21z.heap _; rw [e21z]; exact ⟨rfl, N21z, K22z, (((((q0.wr W3z).wr W7z).wr W11z).wr W16z).wr W21z), f23z, F21z, f24z, f25z, f26z⟩)
theorem ef_own_of (m : MethodId) (x0 : Addr) : entryFrame m #[(.ref x0)] 1 = mkF m 0 #[.val (.ref x0)] [] := by first | (simp [entryFrame, mkF, argsToLocals, Value.category]; done) | rfl
theorem pf_own_of : plainFor own_m5 = true := plainFor_of_name (by simp [plainName, overriddenIn])
theorem pd_3946442454 : parseMethodDescriptor "(Ljava/lang/Object;Ljava/lang/String;)Ljava/lang/Object;" = some ⟨[(.object "java/lang/Object"), (.object "java/lang/String")], some (.object "java/lang/Object")⟩ := by decide +kernel
theorem pd_2208082858 : parseMethodDescriptor "(Lcom/example/retrying_transactions/retryingtransactions/boundary/Propagation;)V" = some ⟨[(.object "com/example/retrying_transactions/retryingtransactions/boundary/Propagation")], none⟩ := by decide +kernel
theorem pd_4042993343 : parseMethodDescriptor "(Lcom/example/retrying_transactions/retryingtransactions/boundary/Boundary$Draft;)V" = some ⟨[(.object "com/example/retrying_transactions/retryingtransactions/boundary/Boundary$Draft")], none⟩ := by decide +kernel
theorem d_prog_7_method_3_code_0 : decode prog_7_method_3_code 0 = .ok (.new 14, 3) := by decide +kernel
theorem d_prog_7_method_3_code_11 : decode prog_7_method_3_code 11 = .ok (.invokestatic 41, 3) := by decide +kernel
theorem d_prog_7_method_3_code_14 : decode prog_7_method_3_code 14 = .ok (.checkcast 47, 3) := by decide +kernel
theorem d_prog_7_method_3_code_17 : decode prog_7_method_3_code 17 = .ok (.invokespecial 49, 3) := by decide +kernel
theorem d_prog_7_method_3_code_20 : decode prog_7_method_3_code 20 = .ok (.invokespecial 52, 3) := by decide +kernel
theorem d_prog_7_method_3_code_23 : decode prog_7_method_3_code 23 = .ok (.areturn, 1) := by decide +kernel
theorem d_prog_7_method_3_code_3 : decode prog_7_method_3_code 3 = .ok (.dup, 1) := by decide +kernel
theorem d_prog_7_method_3_code_4 : decode prog_7_method_3_code 4 = .ok (.new 8, 3) := by decide +kernel
theorem d_prog_7_method_3_code_7 : decode prog_7_method_3_code 7 = .ok (.dup, 1) := by decide +kernel
theorem d_prog_7_method_3_code_8 : decode prog_7_method_3_code 8 = .ok (.aload_n 0, 1) := by decide +kernel
theorem d_prog_7_method_3_code_9 : decode prog_7_method_3_code 9 = .ok (.ldc 40, 2) := by decide +kernel
def Q_own_of (Z : State) (pp : Addr) (aI : Addr) (aR : Addr) (h0 : Heap) (v : Option Value) (h : Heap) (L : List Loc) : Prop := ∃ r : Addr, v = some (.ref r) ∧ Fr Z.heap.size L ∧ Keep h0 h [] ∧ (Z.heap.size ≤ r) ∧ (Exa Z h r "com/example/retrying_transactions/retryingtransactions/boundary/Boundary") ∧ (Fld Z h r "com/example/retrying_transactions/retryingtransactions/boundary/Boundary" "isolation" "Lcom/example/retrying_transactions/retryingtransactions/boundary/Isolation;" (.ref aI)) ∧ (Fld Z h r "com/example/retrying_transactions/retryingtransactions/boundary/Boundary" "rollbackRule" "Lcom/example/retrying_transactions/retryingtransactions/rollback/RollbackRule;" (.ref aR)) ∧ (Fld Z h r "com/example/retrying_transactions/retryingtransactions/boundary/Boundary" "propagation" "Lcom/example/retrying_transactions/retryingtransactions/boundary/Propagation;" (.ref pp)) ∧ (Fld Z h r "com/example/retrying_transactions/retryingtransactions/boundary/Boundary" "readOnly" "Z" (.int (0 : Int32))) ∧ (Fld Z h r "com/example/retrying_transactions/retryingtransactions/boundary/Boundary" "timeout" "Ljava/time/Duration;" .null)
set_option maxRecDepth 65536 in
set_option maxHeartbeats 40000000 in
theorem own_of (l : Launch) (Z : State) (a0 : Array Value) (hw : ∀ d ∈ tables_1, d.before a0 Z = true) (ws : List Jvm.Cond) (pp : Addr) (aI : Addr) (aR : Addr) (h0 : Heap) (O0 : Ext Z.heap h0) (S_DEFAULT : Sta Z Z.heap "com/example/retrying_transactions/retryingtransactions/boundary/Isolation" "DEFAULT" "Lcom/example/retrying_transactions/retryingtransactions/boundary/Isolation;" (.ref aI)) (S_STANDARD : Sta Z Z.heap "com/example/retrying_transactions/retryingtransactions/rollback/RollbackRule" "STANDARD" "Lcom/example/retrying_transactions/retryingtransactions/rollback/RollbackRule;" (.ref aR)) (E1 : Exa Z Z.heap pp "com/example/retrying_transactions/retryingtransactions/boundary/Propagation") :
    MetFree l own_m5 (head1 (Jvm.Cond.code own_m5 prog_7_method_3_code 1 (some (.object "com/example/retrying_transactions/retryingtransactions/boundary/Boundary")) :: ws) ({ frames := 2, cells := 4, slots := 60, locals := 33 } : Room)) (fun aa U => aa = #[(.ref pp)] ∧ Z.Warmed39 U.vm ∧ U.heap = h0) (fun _ _ _ _ _ => True) (fun _ U o U' => ∃ v L, o = .returned v ∧ Q_own_of Z pp aI aR h0 v U'.heap L ∧ ReturnedEndW U o U' L ({ frames := 2, cells := 4, slots := 60, locals := 33 } : Room).cells ({ frames := 2, cells := 4, slots := 60, locals := 33 } : Room).slots) := by
  refine MetFree.of_bodySF pf_own_of hisR ?_
  intro p e s m args below meth c s₁ Bd hml0 hP hK
  obtain ⟨rfl, hZ, hh⟩ := hP
  have hx := Bd.exec
  have hby := Bd.bytes
  have hlk := BodyLoose.notSynchronized Bd
  have hml : c.maxLocals = 1 := hml0
  have hown : s.vm.findClass "com/example/retrying_transactions/retryingtransactions/boundary/Boundary" = some m.cls := findClass_of_methodNamed Bd.named
  have hnm := (name_of_methodNamed Bd.named Bd.method).1
  have X0 : Stand p l e ({ frames := 2, cells := 4, slots := 60, locals := 33 } : Room) s m #[(.ref pp)] below meth c s₁ [] 0 0 := Stand.of_body Bd
  have e0 : s₁.heap = h0 := by rw [← hh, Bd.state]; rfl
  have N0 := Fr.nil Z.heap.size
  have K0 : Keep h0 h0 [] := Keep.refl _ _
  have Si0 : s.Since s.vm h0.size := (State.WarmedH.refl s).since h0.size
  have Sn0 : h0.size ≤ h0.size := Nat.le_refl _
  have hZ : Z.Warmed39 (s.setVm s.vm).vm := hZ
  have hown : (s.setVm s.vm).vm.findClass "com/example/retrying_transactions/retryingtransactions/boundary/Boundary" = some m.cls := hown
  have X0 := (show Stand _ _ _ _ (s.setVm s.vm) _ _ _ _ _ _ _ _ _ from X0)
  refine own_startW (Q := Q_own_of Z pp aI aR h0) (ef_own_of m (pp)) ?_
  show own_G p e below (s₁.setTop (mkF m 0 #[.val (.ref pp)] [])) _
  obtain ⟨T1z, h1z, X1z, e1z, E1z, A1z, D1z, -, st1z⟩ := newO X0 hx hZ hown (own_hw hw 12 rfl) (own_hw hw 13 rfl) (own_hw hw 10 rfl) e0 (g := (mkF m 0 #[.val (.ref pp)] [])) rfl (hb hby d_prog_7_method_3_code_0) (by decide) (by decide)
  obtain ⟨b1z, g1z⟩ : ∃ z, z = h0.size := ⟨_, rfl⟩
  rw [← g1z] at A1z D1z st1z
  have fr_b1z : Z.heap.size ≤ b1z := g1z ▸ O0.1
  have lz_b1z : h0.size ≤ b1z := g1z ▸ K0.1
  have O2z : Ext Z.heap h1z := own_ext_trans O0 E1z
  have K2z : Keep h0 h1z [] := K0.ext E1z
  have Sn2z := Nat.le_trans Sn0 E1z.1
  have F1z_propagation : Fld Z h1z b1z "com/example/retrying_transactions/retryingtransactions/boundary/Boundary" "propagation" "Lcom/example/retrying_transactions/retryingtransactions/boundary/Propagation;" .null := D1z (Or.inr (own_hw hw 58 rfl)) (ty := (.object "com/example/retrying_transactions/retryingtransactions/boundary/Propagation")) (by decide)
  have F1z_isolation : Fld Z h1z b1z "com/example/retrying_transactions/retryingtransactions/boundary/Boundary" "isolation" "Lcom/example/retrying_transactions/retryingtransactions/boundary/Isolation;" .null := D1z (Or.inr (own_hw hw 61 rfl)) (ty := (.object "com/example/retrying_transactions/retryingtransactions/boundary/Isolation")) (by decide)
  have F1z_readOnly : Fld Z h1z b1z "com/example/retrying_transactions/retryingtransactions/boundary/Boundary" "readOnly" "Z" (.int (0 : Int32)) := D1z (Or.inr (own_hw hw 65 rfl)) (ty := .boolean) (by decide)
  have F1z_timeout : Fld Z h1z b1z "com/example/retrying_transactions/retryingtransactions/boundary/Boundary" "timeout" "Ljava/time/Duration;" .null := D1z (Or.inr (own_hw hw 69 rfl)) (ty := (.object "java/time/Duration")) (by decide)
  have F1z_rollbackRule : Fld Z h1z b1z "com/example/retrying_transactions/retryingtransactions/boundary/Boundary" "rollbackRule" "Lcom/example/retrying_transactions/retryingtransactions/rollback/RollbackRule;" .null := D1z (Or.inr (own_hw hw 72 rfl)) (ty := (.object "com/example/retrying_transactions/retryingtransactions/rollback/RollbackRule")) (by decide)
  refine own_go st1z ?_
  show own_G p e below (T1z.setTop (mkF m 3 #[.val (.ref pp)] [(.ref b1z)])) _
  refine own_go (fun t k => XS.dup X1z.here hx rfl (hb hby d_prog_7_method_3_code_3) rfl rfl k) ?_
  show own_G p e below (T1z.setTop (mkF m 4 #[.val (.ref pp)] [(.ref b1z), (.ref b1z)])) _
  obtain ⟨T3z, h3z, X3z, e3z, E3z, A3z, D3z, -, st3z⟩ := newO X1z hx hZ hown (own_hw hw 14 rfl) (own_hw hw 15 rfl) (own_hw hw 16 rfl) e1z (g := (mkF m 4 #[.val (.ref pp)] [(.ref b1z), (.ref b1z)])) rfl (hb hby d_prog_7_method_3_code_4) (by decide) (by decide)
  obtain ⟨b3z, g3z⟩ : ∃ z, z = h1z.size := ⟨_, rfl⟩
  rw [← g3z] at A3z D3z st3z
  have fr_b3z : Z.heap.size ≤ b3z := g3z ▸ O2z.1
  have lz_b3z : h0.size ≤ b3z := g3z ▸ K2z.1
  have ne_b1z_b3z : b1z ≠ b3z := Nat.ne_of_lt (g3z ▸ A1z.lt)
  have O4z : Ext Z.heap h3z := own_ext_trans O2z E3z
  have K4z : Keep h0 h3z [] := K2z.ext E3z
  have Sn4z := Nat.le_trans Sn2z E3z.1
  have F3z_isolation : Fld Z h3z b3z "com/example/retrying_transactions/retryingtransactions/boundary/Boundary$Draft" "isolation" "Lcom/example/retrying_transactions/retryingtransactions/boundary/Isolation;" .null := D3z (Or.inl (own_hw hw 41 rfl)) (ty := (.object "com/example/retrying_transactions/retryingtransactions/boundary/Isolation")) (by decide)
  have F3z_rollbackRule : Fld Z h3z b3z "com/example/retrying_transactions/retryingtransactions/boundary/Boundary$Draft" "rollbackRule" "Lcom/example/retrying_transactions/retryingtransactions/rollback/RollbackRule;" .null := D3z (Or.inl (own_hw hw 49 rfl)) (ty := (.object "com/example/retrying_transactions/retryingtransactions/rollback/RollbackRule")) (by decide)
  have F3z_propagation : Fld Z h3z b3z "com/example/retrying_transactions/retryingtransactions/boundary/Boundary$Draft" "propagation" "Lcom/example/retrying_transactions/retryingtransactions/boundary/Propagation;" .null := D3z (Or.inl (own_hw hw 51 rfl)) (ty := (.object "com/example/retrying_transactions/retryingtransactions/boundary/Propagation")) (by decide)
  have F3z_readOnly : Fld Z h3z b3z "com/example/retrying_transactions/retryingtransactions/boundary/Boundary$Draft" "readOnly" "Z" (.int (0 : Int32)) := D3z (Or.inl (own_hw hw 63 rfl)) (ty := .boolean) (by decide)
  have F3z_timeout : Fld Z h3z b3z "com/example/retrying_transactions/retryingtransactions/boundary/Boundary$Draft" "timeout" "Ljava/time/Duration;" .null := D3z (Or.inl (own_hw hw 67 rfl)) (ty := (.object "java/time/Duration")) (by decide)
  refine own_go st3z ?_
  show own_G p e below (T3z.setTop (mkF m 7 #[.val (.ref pp)] [(.ref b3z), (.ref b1z), (.ref b1z)])) _
  refine own_go (fun t k => XS.dup X3z.here hx rfl (hb hby d_prog_7_method_3_code_7) rfl rfl k) ?_
  show own_G p e below (T3z.setTop (mkF m 8 #[.val (.ref pp)] [(.ref b3z), (.ref b3z), (.ref b1z), (.ref b1z)])) _
  refine own_go (fun t k => XS.aloadN X3z.here hx rfl (hb hby d_prog_7_method_3_code_8) rfl rfl k) ?_
  show own_G p e below (T3z.setTop (mkF m 9 #[.val (.ref pp)] [(.ref pp), (.ref b3z), (.ref b3z), (.ref b1z), (.ref b1z)])) _
  obtain ⟨a5z, T5z, h5z, k5z, X5z, e5z, E5z, Si5z, Sn5z, hZ5z, hown5z, st5z⟩ := ldcS X3z hx hZ hown (own_hw hw 17 rfl) (own_wS hw) e3z Si0 Sn4z (g := (mkF m 9 #[.val (.ref pp)] [(.ref pp), (.ref b3z), (.ref b3z), (.ref b1z), (.ref b1z)])) rfl (hb hby d_prog_7_method_3_code_9) (n := 44) (by decide) (by decide) (by decide) (by decide)
  refine own_go st5z ?_
  have O6z : Ext Z.heap h5z := own_ext_trans O4z E5z
  have K6z : Keep h0 h5z [] := K4z.ext E5z
  show own_G p e below (T5z.setTop (mkF m 11 #[.val (.ref pp)] [(.ref a5z), (.ref pp), (.ref b3z), (.ref b3z), (.ref b1z), (.ref b1z)])) _
  obtain ⟨_, _, ⟨T7z, L7z, k7z, n7z⟩, -, X7z, ⟨Lc7z, hQ7z, l7z, y7z, z7z⟩, st7z⟩ := Jvm.LawKit.callS X5z hx (y := own_m1) hown5z (mvT hZ5z (own_hw hw 25 rfl)) (mvT hZ5z (own_hw hw 26 rfl)) (mvT hZ5z (own_hw hw 27 rfl)) (mvT hZ5z (own_hw hw 28 rfl)) (by decide) (backOf (W := 4) (own_rnn l Z a0 hw [] pp a5z h5z O6z) hZ5z (own_hw hw 28 rfl) (own_hw hw 27 rfl) (by decide) (by decide)) (g := (mkF m 11 #[.val (.ref pp)] [(.ref a5z), (.ref pp), (.ref b3z), (.ref b3z), (.ref b1z), (.ref b1z)])) rfl (by rw [hml]; rfl) (argsL := [(.ref pp), (.ref a5z)]) (rest := [(.ref b3z), (.ref b3z), (.ref b1z), (.ref b1z)]) (lenOf pd_3946442454 rfl) rfl (by show 2 * 0 + _ ≤ _; exact Nat.le_of_eq rfl) (hb hby d_prog_7_method_3_code_11) (fun _ _ => ⟨rfl, e5z, (by decide : 4 + 0 ≤ _), (by decide : 58 + 0 ≤ _)⟩)
  dsimp only [Pt.U, Pt.locs, Pt.cells, Pt.slots] at X7z l7z y7z z7z st7z hQ7z
  subst l7z y7z z7z
  obtain ⟨rfl, NQ7z, K7zq⟩ := hQ7z
  refine own_go st7z ?_
  have N7z := Fr.app N0 NQ7z
  show own_G p e below (T7z.setTop (mkF m 14 #[.val (.ref pp)] [(.ref pp), (.ref b3z), (.ref b3z), (.ref b1z), (.ref b1z)])) _
  obtain ⟨T8z, X8z, e8z, st8z⟩ := castY X7z hx hZ5z hown5z (own_hw hw 29 rfl) K7zq (Ins.self (E1.ext O6z)) (g := (mkF m 14 #[.val (.ref pp)] [(.ref pp), (.ref b3z), (.ref b3z), (.ref b1z), (.ref b1z)])) rfl rfl (hb hby d_prog_7_method_3_code_14)
  refine own_go st8z ?_
  show own_G p e below (T8z.setTop (mkF m 17 #[.val (.ref pp)] [(.ref pp), (.ref b3z), (.ref b3z), (.ref b1z), (.ref b1z)])) _
  obtain ⟨_, _, ⟨T9z, L9z, k9z, n9z⟩, -, X9z, ⟨Lc9z, hQ9z, l9z, y9z, z9z⟩, st9z⟩ := X8z.specialBack hx (y := own_m3) rfl hown5z (mvT hZ5z (own_hw hw 31 rfl)) (mvT hZ5z (own_hw hw 32 rfl)) (mvT hZ5z (own_hw hw 33 rfl)) (by decide) (backOf (W := 3) (own_draft l Z a0 hw [] b3z pp aI aR h5z O6z S_DEFAULT S_STANDARD (A3z.ext E5z) fr_b3z (F3z_isolation.ext E5z) (F3z_rollbackRule.ext E5z) (F3z_propagation.ext E5z) (F3z_readOnly.ext E5z) (F3z_timeout.ext E5z)) hZ5z (own_hw hw 33 rfl) (own_hw hw 16 rfl) (by decide) (by decide)) (g := (mkF m 17 #[.val (.ref pp)] [(.ref pp), (.ref b3z), (.ref b3z), (.ref b1z), (.ref b1z)])) rfl (by rw [hml]; rfl) (Steps.refl _) (a := b3z) (argsL := [(.ref pp)]) (rest := [(.ref b3z), (.ref b1z), (.ref b1z)]) (lenOf pd_2208082858 rfl) rfl (by show 2 * 0 + _ ≤ _; exact Nat.le_of_eq rfl) (hb hby d_prog_7_method_3_code_17) (fun _ _ => ⟨rfl, e8z, (by decide : 4 + 0 ≤ _), (by decide : 58 + 0 ≤ _)⟩)
  dsimp only [Pt.U, Pt.locs, Pt.cells, Pt.slots] at X9z l9z y9z z9z st9z hQ9z
  subst l9z y9z z9z
  obtain ⟨rfl, NQ9z, K9zq, r9z_0, r9z_1, r9z_2, r9z_3, r9z_4, r9z_5⟩ := hQ9z
  refine own_tr st9z ?_
  have N9z := Fr.app N7z NQ9z
  have O10z : Ext Z.heap T9z.heap := own_ext_keep O6z K9zq (allS fr_b3z all0)
  have K10z : Keep h0 T9z.heap [] := K6z.trans K9zq (allS (Or.inr lz_b3z) all0)
  have Sn10z := Nat.le_trans Sn5z K9zq.1
  show own_G p e below (T9z.setTop (mkF m 20 #[.val (.ref pp)] [(.ref b3z), (.ref b1z), (.ref b1z)])) _
  have f11z := (((F1z_isolation.ext E3z).ext E5z).keep K9zq (by simp only [List.mem_cons, List.not_mem_nil, or_false, not_or]; exact ne_b1z_b3z))
  have f12z := (((F1z_rollbackRule.ext E3z).ext E5z).keep K9zq (by simp only [List.mem_cons, List.not_mem_nil, or_false, not_or]; exact ne_b1z_b3z))
  have f13z := (((F1z_propagation.ext E3z).ext E5z).keep K9zq (by simp only [List.mem_cons, List.not_mem_nil, or_false, not_or]; exact ne_b1z_b3z))
  have f14z := (((F1z_readOnly.ext E3z).ext E5z).keep K9zq (by simp only [List.mem_cons, List.not_mem_nil, or_false, not_or]; exact ne_b1z_b3z))
  have f15z := (((F1z_timeout.ext E3z).ext E5z).keep K9zq (by simp only [List.mem_cons, List.not_mem_nil, or_false, not_or]; exact ne_b1z_b3z))
  obtain ⟨_, _, ⟨T16z, L16z, k16z, n16z⟩, -, X16z, ⟨Lc16z, hQ16z, l16z, y16z, z16z⟩, st16z⟩ := X9z.specialBack hx (y := own_m4) rfl hown5z (mvT hZ5z (own_hw hw 52 rfl)) (mvT hZ5z (own_hw hw 53 rfl)) (mvT hZ5z (own_hw hw 54 rfl)) (by decide) (backOf (W := 1) (own_bound l Z a0 hw [] b1z b3z pp aI aR T9z.heap O10z (((A1z.ext E3z).ext E5z).keep K9zq) fr_b1z (Ne.symm ne_b1z_b3z) f11z f12z f13z f14z f15z r9z_1 r9z_2 r9z_3 r9z_4 r9z_5) hZ5z (own_hw hw 54 rfl) (own_hw hw 10 rfl) (by decide) (by decide)) (g := (mkF m 20 #[.val (.ref pp)] [(.ref b3z), (.ref b1z), (.ref b1z)])) rfl (by rw [hml]; rfl) (Steps.refl _) (a := b1z) (argsL := [(.ref b3z)]) (rest := [(.ref b1z)]) (lenOf pd_4042993343 rfl) rfl (by show 2 * 0 + _ ≤ _; exact Nat.le_of_eq rfl) (hb hby d_prog_7_method_3_code_20) (fun _ _ => ⟨rfl, rfl, (by decide : 4 + 0 ≤ _), (by decide : 58 + 0 ≤ _)⟩)
  dsimp only [Pt.U, Pt.locs, Pt.cells, Pt.slots] at X16z l16z y16z z16z st16z hQ16z
  subst l16z y16z z16z
  obtain ⟨rfl, NQ16z, K16zq, r16z_0, r16z_1, r16z_2, r16z_3, r16z_4, r16z_5⟩ := hQ16z
  refine own_tr st16z ?_
  have N16z := Fr.app N9z NQ16z
  have O17z : Ext Z.heap T16z.heap := own_ext_keep O10z K16zq (allS fr_b1z all0)
  have K17z : Keep h0 T16z.heap [] := K10z.trans K16zq (allS (Or.inr lz_b1z) all0)
  have Sn17z := Nat.le_trans Sn10z K16zq.1
  show own_G p e below (T16z.setTop (mkF m 23 #[.val (.ref pp)] [(.ref b1z)])) _
  exact own_retW X16z Si5z Sn17z hx Bd.returns rfl (Or.inr (Or.inr (Or.inr (Or.inr ⟨rfl, rfl, rfl⟩)))) (hb hby d_prog_7_method_3_code_23) hlk (Nat.le_of_ble_eq_true rfl) (Nat.le_of_ble_eq_true rfl) (by show Q_own_of Z pp aI aR h0 _ T16z.heap _; exact ⟨b1z, rfl, N16z, K17z, fr_b1z, r16z_0, r16z_1, r16z_2, r16z_3, r16z_4, r16z_5⟩)
theorem ef_own_get0 (m : MethodId) (x0 : Addr) : entryFrame m #[(.ref x0)] 1 = mkF m 0 #[.val (.ref x0)] [] := by first | (simp [entryFrame, mkF, argsToLocals, Value.category]; done) | rfl
theorem pf_own_get0 : plainFor own_m6 = true := plainFor_of_name (by simp [plainName, overriddenIn])
theorem d_prog_7_method_10_code_0 : decode prog_7_method_10_code 0 = .ok (.aload_n 0, 1) := by decide +kernel
theorem d_prog_7_method_10_code_1 : decode prog_7_method_10_code 1 = .ok (.getfield 13, 3) := by decide +kernel
theorem d_prog_7_method_10_code_4 : decode prog_7_method_10_code 4 = .ok (.areturn, 1) := by decide +kernel
def Q_own_get0 (Z : State) (a : Addr) (pp : Addr) (h0 : Heap) (v : Option Value) (h : Heap) (L : List Loc) : Prop := v = some (.ref pp) ∧ Fr Z.heap.size L ∧ h = h0
set_option maxRecDepth 65536 in
set_option maxHeartbeats 40000000 in
theorem own_get0 (l : Launch) (Z : State) (a0 : Array Value) (hw : ∀ d ∈ tables_1, d.before a0 Z = true) (ws : List Jvm.Cond) (a : Addr) (pp : Addr) (h0 : Heap) (O0 : Ext Z.heap h0) (q0 : Fld Z h0 a "com/example/retrying_transactions/retryingtransactions/boundary/Boundary" "propagation" "Lcom/example/retrying_transactions/retryingtransactions/boundary/Propagation;" (.ref pp)) :
    MetFree l own_m6 (head1 (Jvm.Cond.code own_m6 prog_7_method_10_code 1 (some (.object "com/example/retrying_transactions/retryingtransactions/boundary/Propagation")) :: ws) ({ frames := 0, cells := 0, slots := 0, locals := 0 } : Room)) (fun aa U => aa = #[(.ref a)] ∧ Z.Warmed39 U.vm ∧ U.heap = h0) (fun _ _ _ _ _ => True) (fun _ U o U' => ∃ v L, o = .returned v ∧ Q_own_get0 Z a pp h0 v U'.heap L ∧ FrameEnd U o U' L ({ frames := 0, cells := 0, slots := 0, locals := 0 } : Room).cells ({ frames := 0, cells := 0, slots := 0, locals := 0 } : Room).slots) := by
  refine MetFree.of_bodySF pf_own_get0 hisR ?_
  intro p e s m args below meth c s₁ Bd hml0 hP hK
  obtain ⟨rfl, hZ, hh⟩ := hP
  have hx := Bd.exec
  have hby := Bd.bytes
  have hlk := BodyLoose.notSynchronized Bd
  have hml : c.maxLocals = 1 := hml0
  have hown : s.vm.findClass "com/example/retrying_transactions/retryingtransactions/boundary/Boundary" = some m.cls := findClass_of_methodNamed Bd.named
  have hnm := (name_of_methodNamed Bd.named Bd.method).1
  have X0 : Stand p l e ({ frames := 0, cells := 0, slots := 0, locals := 0 } : Room) s m #[(.ref a)] below meth c s₁ [] 0 0 := Stand.of_body Bd
  have e0 : s₁.heap = h0 := by rw [← hh, Bd.state]; rfl
  have N0 := Fr.nil Z.heap.size
  have K0 : Keep h0 h0 [] := Keep.refl _ _
  refine own_start (Q := Q_own_get0 Z a pp h0) (ef_own_get0 m (a)) ?_
  show own_G p e below (s₁.setTop (mkF m 0 #[.val (.ref a)] [])) _
  refine own_go (fun t k => XS.aloadN X0.here hx rfl (hb hby d_prog_7_method_10_code_0) rfl rfl k) ?_
  show own_G p e below (s₁.setTop (mkF m 1 #[.val (.ref a)] [(.ref a)])) _
  obtain ⟨T1z, X1z, e1z, st1z⟩ := getF X0 hx hZ hown (host := "") (Or.inl (own_hw hw 57 rfl)) Via.refl e0 q0 (g := (mkF m 1 #[.val (.ref a)] [(.ref a)])) rfl rfl (hb hby d_prog_7_method_10_code_1)
  refine own_go st1z ?_
  show own_G p e below (T1z.setTop (mkF m 4 #[.val (.ref a)] [(.ref pp)])) _
  exact own_ret X1z hx Bd.returns rfl (Or.inr (Or.inr (Or.inr (Or.inr ⟨rfl, rfl, rfl⟩)))) (hb hby d_prog_7_method_10_code_4) hlk (Nat.le_of_ble_eq_true rfl) (Nat.le_of_ble_eq_true rfl) (by show Q_own_get0 Z a pp h0 _ T1z.heap _; rw [e1z]; exact ⟨rfl, N0, rfl⟩)
theorem ef_own_get1 (m : MethodId) (x0 : Addr) : entryFrame m #[(.ref x0)] 1 = mkF m 0 #[.val (.ref x0)] [] := by first | (simp [entryFrame, mkF, argsToLocals, Value.category]; done) | rfl
theorem pf_own_get1 : plainFor own_m7 = true := plainFor_of_name (by simp [plainName, overriddenIn])
theorem d_prog_7_method_11_code_0 : decode prog_7_method_11_code 0 = .ok (.aload_n 0, 1) := by decide +kernel
theorem d_prog_7_method_11_code_1 : decode prog_7_method_11_code 1 = .ok (.getfield 20, 3) := by decide +kernel
theorem d_prog_7_method_11_code_4 : decode prog_7_method_11_code 4 = .ok (.areturn, 1) := by decide +kernel
def Q_own_get1 (Z : State) (a : Addr) (pp : Addr) (h0 : Heap) (v : Option Value) (h : Heap) (L : List Loc) : Prop := v = some (.ref pp) ∧ Fr Z.heap.size L ∧ h = h0
set_option maxRecDepth 65536 in
set_option maxHeartbeats 40000000 in
theorem own_get1 (l : Launch) (Z : State) (a0 : Array Value) (hw : ∀ d ∈ tables_1, d.before a0 Z = true) (ws : List Jvm.Cond) (a : Addr) (pp : Addr) (h0 : Heap) (O0 : Ext Z.heap h0) (q0 : Fld Z h0 a "com/example/retrying_transactions/retryingtransactions/boundary/Boundary" "isolation" "Lcom/example/retrying_transactions/retryingtransactions/boundary/Isolation;" (.ref pp)) :
    MetFree l own_m7 (head1 (Jvm.Cond.code own_m7 prog_7_method_11_code 1 (some (.object "com/example/retrying_transactions/retryingtransactions/boundary/Isolation")) :: ws) ({ frames := 0, cells := 0, slots := 0, locals := 0 } : Room)) (fun aa U => aa = #[(.ref a)] ∧ Z.Warmed39 U.vm ∧ U.heap = h0) (fun _ _ _ _ _ => True) (fun _ U o U' => ∃ v L, o = .returned v ∧ Q_own_get1 Z a pp h0 v U'.heap L ∧ FrameEnd U o U' L ({ frames := 0, cells := 0, slots := 0, locals := 0 } : Room).cells ({ frames := 0, cells := 0, slots := 0, locals := 0 } : Room).slots) := by
  refine MetFree.of_bodySF pf_own_get1 hisR ?_
  intro p e s m args below meth c s₁ Bd hml0 hP hK
  obtain ⟨rfl, hZ, hh⟩ := hP
  have hx := Bd.exec
  have hby := Bd.bytes
  have hlk := BodyLoose.notSynchronized Bd
  have hml : c.maxLocals = 1 := hml0
  have hown : s.vm.findClass "com/example/retrying_transactions/retryingtransactions/boundary/Boundary" = some m.cls := findClass_of_methodNamed Bd.named
  have hnm := (name_of_methodNamed Bd.named Bd.method).1
  have X0 : Stand p l e ({ frames := 0, cells := 0, slots := 0, locals := 0 } : Room) s m #[(.ref a)] below meth c s₁ [] 0 0 := Stand.of_body Bd
  have e0 : s₁.heap = h0 := by rw [← hh, Bd.state]; rfl
  have N0 := Fr.nil Z.heap.size
  have K0 : Keep h0 h0 [] := Keep.refl _ _
  refine own_start (Q := Q_own_get1 Z a pp h0) (ef_own_get1 m (a)) ?_
  show own_G p e below (s₁.setTop (mkF m 0 #[.val (.ref a)] [])) _
  refine own_go (fun t k => XS.aloadN X0.here hx rfl (hb hby d_prog_7_method_11_code_0) rfl rfl k) ?_
  show own_G p e below (s₁.setTop (mkF m 1 #[.val (.ref a)] [(.ref a)])) _
  obtain ⟨T1z, X1z, e1z, st1z⟩ := getF X0 hx hZ hown (host := "") (Or.inl (own_hw hw 60 rfl)) Via.refl e0 q0 (g := (mkF m 1 #[.val (.ref a)] [(.ref a)])) rfl rfl (hb hby d_prog_7_method_11_code_1)
  refine own_go st1z ?_
  show own_G p e below (T1z.setTop (mkF m 4 #[.val (.ref a)] [(.ref pp)])) _
  exact own_ret X1z hx Bd.returns rfl (Or.inr (Or.inr (Or.inr (Or.inr ⟨rfl, rfl, rfl⟩)))) (hb hby d_prog_7_method_11_code_4) hlk (Nat.le_of_ble_eq_true rfl) (Nat.le_of_ble_eq_true rfl) (by show Q_own_get1 Z a pp h0 _ T1z.heap _; rw [e1z]; exact ⟨rfl, N0, rfl⟩)
theorem ef_own_ro (m : MethodId) (x0 : Addr) : entryFrame m #[(.ref x0)] 1 = mkF m 0 #[.val (.ref x0)] [] := by first | (simp [entryFrame, mkF, argsToLocals, Value.category]; done) | rfl
theorem pf_own_ro : plainFor own_m8 = true := plainFor_of_name (by simp [plainName, overriddenIn])
theorem d_prog_7_method_12_code_0 : decode prog_7_method_12_code 0 = .ok (.aload_n 0, 1) := by decide +kernel
theorem d_prog_7_method_12_code_1 : decode prog_7_method_12_code 1 = .ok (.getfield 25, 3) := by decide +kernel
theorem d_prog_7_method_12_code_4 : decode prog_7_method_12_code 4 = .ok (.ireturn, 1) := by decide +kernel
def Q_own_ro (Z : State) (a : Addr) (h0 : Heap) (v : Option Value) (h : Heap) (L : List Loc) : Prop := v = some (.int (0 : Int32)) ∧ Fr Z.heap.size L ∧ h = h0
set_option maxRecDepth 65536 in
set_option maxHeartbeats 40000000 in
theorem own_ro (l : Launch) (Z : State) (a0 : Array Value) (hw : ∀ d ∈ tables_1, d.before a0 Z = true) (ws : List Jvm.Cond) (a : Addr) (h0 : Heap) (O0 : Ext Z.heap h0) (q0 : Fld Z h0 a "com/example/retrying_transactions/retryingtransactions/boundary/Boundary" "readOnly" "Z" (.int (0 : Int32))) :
    MetFree l own_m8 (head1 (Jvm.Cond.code own_m8 prog_7_method_12_code 1 (some .boolean) :: ws) ({ frames := 0, cells := 0, slots := 0, locals := 0 } : Room)) (fun aa U => aa = #[(.ref a)] ∧ Z.Warmed39 U.vm ∧ U.heap = h0) (fun _ _ _ _ _ => True) (fun _ U o U' => ∃ v L, o = .returned v ∧ Q_own_ro Z a h0 v U'.heap L ∧ FrameEnd U o U' L ({ frames := 0, cells := 0, slots := 0, locals := 0 } : Room).cells ({ frames := 0, cells := 0, slots := 0, locals := 0 } : Room).slots) := by
  refine MetFree.of_bodySF pf_own_ro hisR ?_
  intro p e s m args below meth c s₁ Bd hml0 hP hK
  obtain ⟨rfl, hZ, hh⟩ := hP
  have hx := Bd.exec
  have hby := Bd.bytes
  have hlk := BodyLoose.notSynchronized Bd
  have hml : c.maxLocals = 1 := hml0
  have hown : s.vm.findClass "com/example/retrying_transactions/retryingtransactions/boundary/Boundary" = some m.cls := findClass_of_methodNamed Bd.named
  have hnm := (name_of_methodNamed Bd.named Bd.method).1
  have X0 : Stand p l e ({ frames := 0, cells := 0, slots := 0, locals := 0 } : Room) s m #[(.ref a)] below meth c s₁ [] 0 0 := Stand.of_body Bd
  have e0 : s₁.heap = h0 := by rw [← hh, Bd.state]; rfl
  have N0 := Fr.nil Z.heap.size
  have K0 : Keep h0 h0 [] := Keep.refl _ _
  refine own_start (Q := Q_own_ro Z a h0) (ef_own_ro m (a)) ?_
  show own_G p e below (s₁.setTop (mkF m 0 #[.val (.ref a)] [])) _
  refine own_go (fun t k => XS.aloadN X0.here hx rfl (hb hby d_prog_7_method_12_code_0) rfl rfl k) ?_
  show own_G p e below (s₁.setTop (mkF m 1 #[.val (.ref a)] [(.ref a)])) _
  obtain ⟨T1z, X1z, e1z, st1z⟩ := getF X0 hx hZ hown (host := "") (Or.inl (own_hw hw 64 rfl)) Via.refl e0 q0 (g := (mkF m 1 #[.val (.ref a)] [(.ref a)])) rfl rfl (hb hby d_prog_7_method_12_code_1)
  refine own_go st1z ?_
  show own_G p e below (T1z.setTop (mkF m 4 #[.val (.ref a)] [(.int (0 : Int32))])) _
  exact own_ret X1z hx Bd.returns rfl (Or.inl ⟨rfl, Or.inr (Or.inl rfl), _, rfl⟩) (hb hby d_prog_7_method_12_code_4) hlk (Nat.le_of_ble_eq_true rfl) (Nat.le_of_ble_eq_true rfl) (by show Q_own_ro Z a h0 _ T1z.heap _; rw [e1z]; exact ⟨rfl, N0, rfl⟩)
theorem ef_own_law (m : MethodId) (x0 : Int32) : entryFrame m #[(.int x0)] maxLocals = mkF m 0 #[.val (.int x0), .unset, .unset, .unset] [] := by first | (simp [entryFrame, mkF, argsToLocals, Value.category, maxLocals]; done) | rfl
theorem pf_own_law : plainFor x = true := plainFor_of_name (by simp [plainName, overriddenIn, x])
theorem pd_697249117 : parseMethodDescriptor "(I)Lcom/example/retrying_transactions/retryingtransactions/boundary/Propagation;" = some ⟨[.int], some (.object "com/example/retrying_transactions/retryingtransactions/boundary/Propagation")⟩ := by decide +kernel
theorem pd_2316911602 : parseMethodDescriptor "(Lcom/example/retrying_transactions/retryingtransactions/boundary/Propagation;)Lcom/example/retrying_transactions/retryingtransactions/boundary/Boundary;" = some ⟨[(.object "com/example/retrying_transactions/retryingtransactions/boundary/Propagation")], some (.object "com/example/retrying_transactions/retryingtransactions/boundary/Boundary")⟩ := by decide +kernel
theorem pd_801966004 : parseMethodDescriptor "()Lcom/example/retrying_transactions/retryingtransactions/boundary/Propagation;" = some ⟨[], some (.object "com/example/retrying_transactions/retryingtransactions/boundary/Propagation")⟩ := by decide +kernel
theorem pd_2924559714 : parseMethodDescriptor "()Lcom/example/retrying_transactions/retryingtransactions/boundary/Isolation;" = some ⟨[], some (.object "com/example/retrying_transactions/retryingtransactions/boundary/Isolation")⟩ := by decide +kernel
theorem pd_193422000 : parseMethodDescriptor "()Z" = some ⟨[], some .boolean⟩ := by decide +kernel
def Q_own_law (Z : State) (p1 : Int32) (a0p : Addr) (a1p : Addr) (a2p : Addr) (a3p : Addr) (a4p : Addr) (a5p : Addr) (a6p : Addr) (aI : Addr) (aR : Addr) (h0 : Heap) (v : Option Value) (h : Heap) (L : List Loc) : Prop := v = some (.int (1 : Int32)) ∧ Fr Z.heap.size L ∧ Keep h0 h []
set_option maxRecDepth 65536 in
set_option maxHeartbeats 40000000 in
theorem own_law (l : Launch) (Z : State) (a0 : Array Value) (hw : ∀ d ∈ tables_1, d.before a0 Z = true) (ws : List Jvm.Cond) (p1 : Int32) (a0p : Addr) (a1p : Addr) (a2p : Addr) (a3p : Addr) (a4p : Addr) (a5p : Addr) (a6p : Addr) (aI : Addr) (aR : Addr) (h0 : Heap) (O0 : Ext Z.heap h0) (S_REQUIRED : Sta Z Z.heap "com/example/retrying_transactions/retryingtransactions/boundary/Propagation" "REQUIRED" "Lcom/example/retrying_transactions/retryingtransactions/boundary/Propagation;" (.ref a0p)) (S_REQUIRES_NEW : Sta Z Z.heap "com/example/retrying_transactions/retryingtransactions/boundary/Propagation" "REQUIRES_NEW" "Lcom/example/retrying_transactions/retryingtransactions/boundary/Propagation;" (.ref a1p)) (S_NESTED : Sta Z Z.heap "com/example/retrying_transactions/retryingtransactions/boundary/Propagation" "NESTED" "Lcom/example/retrying_transactions/retryingtransactions/boundary/Propagation;" (.ref a2p)) (S_SUPPORTS : Sta Z Z.heap "com/example/retrying_transactions/retryingtransactions/boundary/Propagation" "SUPPORTS" "Lcom/example/retrying_transactions/retryingtransactions/boundary/Propagation;" (.ref a3p)) (S_NOT_SUPPORTED : Sta Z Z.heap "com/example/retrying_transactions/retryingtransactions/boundary/Propagation" "NOT_SUPPORTED" "Lcom/example/retrying_transactions/retryingtransactions/boundary/Propagation;" (.ref a4p)) (S_MANDATORY : Sta Z Z.heap "com/example/retrying_transactions/retryingtransactions/boundary/Propagation" "MANDATORY" "Lcom/example/retrying_transactions/retryingtransactions/boundary/Propagation;" (.ref a5p)) (S_NEVER : Sta Z Z.heap "com/example/retrying_transactions/retryingtransactions/boundary/Propagation" "NEVER" "Lcom/example/retrying_transactions/retryingtransactions/boundary/Propagation;" (.ref a6p)) (E_REQUIRED : Exa Z Z.heap a0p "com/example/retrying_transactions/retryingtransactions/boundary/Propagation") (E_REQUIRES_NEW : Exa Z Z.heap a1p "com/example/retrying_transactions/retryingtransactions/boundary/Propagation") (E_NESTED : Exa Z Z.heap a2p "com/example/retrying_transactions/retryingtransactions/boundary/Propagation") (E_SUPPORTS : Exa Z Z.heap a3p "com/example/retrying_transactions/retryingtransactions/boundary/Propagation") (E_NOT_SUPPORTED : Exa Z Z.heap a4p "com/example/retrying_transactions/retryingtransactions/boundary/Propagation") (E_MANDATORY : Exa Z Z.heap a5p "com/example/retrying_transactions/retryingtransactions/boundary/Propagation") (E_NEVER : Exa Z Z.heap a6p "com/example/retrying_transactions/retryingtransactions/boundary/Propagation") (S_DEFAULT : Sta Z Z.heap "com/example/retrying_transactions/retryingtransactions/boundary/Isolation" "DEFAULT" "Lcom/example/retrying_transactions/retryingtransactions/boundary/Isolation;" (.ref aI)) (S_STANDARD : Sta Z Z.heap "com/example/retrying_transactions/retryingtransactions/rollback/RollbackRule" "STANDARD" "Lcom/example/retrying_transactions/retryingtransactions/rollback/RollbackRule;" (.ref aR)) :
    MetFree l x (head1 (Jvm.Cond.code x code maxLocals ret :: ws) room_1) (fun aa U => aa = #[(.int p1)] ∧ Z.Warmed39 U.vm ∧ U.heap = h0) (fun _ _ _ _ _ => True) (fun _ U o U' => ∃ v L, o = .returned v ∧ Q_own_law Z p1 a0p a1p a2p a3p a4p a5p a6p aI aR h0 v U'.heap L ∧ ReturnedEndW U o U' L room_1.cells room_1.slots) := by
  refine MetFree.of_bodySF pf_own_law hisR ?_
  intro p e s m args below meth c s₁ Bd hml0 hP hK
  obtain ⟨rfl, hZ, hh⟩ := hP
  have hx := Bd.exec
  have hby := Bd.bytes
  have hlk := BodyLoose.notSynchronized Bd
  have hml : c.maxLocals = 4 := hml0
  have hown : s.vm.findClass "com/example/retrying_transactions/retryingtransactions/boundary/BoundaryOfPinLaw" = some m.cls := findClass_of_methodNamed Bd.named
  have hnm := (name_of_methodNamed Bd.named Bd.method).1
  have X0 : Stand p l e room_1 s m #[(.int p1)] below meth c s₁ [] 0 0 := Stand.of_body Bd
  have e0 : s₁.heap = h0 := by rw [← hh, Bd.state]; rfl
  have N0 := Fr.nil Z.heap.size
  have K0 : Keep h0 h0 [] := Keep.refl _ _
  have Si0 : s.Since s.vm h0.size := (State.WarmedH.refl s).since h0.size
  have Sn0 : h0.size ≤ h0.size := Nat.le_refl _
  have hZ : Z.Warmed39 (s.setVm s.vm).vm := hZ
  have hown : (s.setVm s.vm).vm.findClass "com/example/retrying_transactions/retryingtransactions/boundary/BoundaryOfPinLaw" = some m.cls := hown
  have X0 := (show Stand _ _ _ _ (s.setVm s.vm) _ _ _ _ _ _ _ _ _ from X0)
  refine own_startW (Q := Q_own_law Z p1 a0p a1p a2p a3p a4p a5p a6p aI aR h0) (ef_own_law m (p1)) ?_
  show own_G p e below (s₁.setTop (mkF m 0 #[.val (.int p1), .unset, .unset, .unset] [])) _
  refine own_go (fun t k => XS.iloadN X0.here hx rfl (hb hby at_0) rfl k) ?_
  show own_G p e below (s₁.setTop (mkF m 1 #[.val (.int p1), .unset, .unset, .unset] [(.int p1)])) _
  refine own_go (fun t k => X0.ldcI hx hown (mvT hZ (own_hw hw 0 rfl)) rfl (hb hby at_1) k) ?_
  show own_G p e below (s₁.setTop (mkF m 3 #[.val (.int p1), .unset, .unset, .unset] [(.int (2147483647 : Int32)), (.int p1)])) _
  refine own_go (fun t k => XS.iand X0.here hx rfl (hb hby at_3) rfl k) ?_
  show own_G p e below (s₁.setTop (mkF m 4 #[.val (.int p1), .unset, .unset, .unset] [(.int (p1 &&& (2147483647 : Int32)))])) _
  refine own_go (fun t k => XS.bipush X0.here hx rfl (hb hby at_4) k) ?_
  show own_G p e below (s₁.setTop (mkF m 6 #[.val (.int p1), .unset, .unset, .unset] [(.int (7 : Int32)), (.int (p1 &&& (2147483647 : Int32)))])) _
  refine own_go (fun t k => iremM X0 hx rfl (hb hby at_6) rfl (by decide) k) ?_
  show own_G p e below (s₁.setTop (mkF m 7 #[.val (.int p1), .unset, .unset, .unset] [(.int ((p1 &&& (2147483647 : Int32)) % (7 : Int32)))])) _
  refine own_go (fun t k => XS.istoreN X0.here hx rfl (hb hby at_7) rfl (l' := #[.val (.int p1), .val (.int ((p1 &&& (2147483647 : Int32)) % (7 : Int32))), .unset, .unset]) rfl k) ?_
  show own_G p e below (s₁.setTop (mkF m 8 #[.val (.int p1), .val (.int ((p1 &&& (2147483647 : Int32)) % (7 : Int32))), .unset, .unset] [])) _
  refine own_go (fun t k => XS.iloadN X0.here hx rfl (hb hby at_8) rfl k) ?_
  show own_G p e below (s₁.setTop (mkF m 9 #[.val (.int p1), .val (.int ((p1 &&& (2147483647 : Int32)) % (7 : Int32))), .unset, .unset] [(.int ((p1 &&& (2147483647 : Int32)) % (7 : Int32)))])) _
  obtain ⟨_, _, ⟨T1z, L1z, k1z, n1z⟩, -, X1z, ⟨Lc1z, hQ1z, l1z, y1z, z1z⟩, st1z⟩ := Jvm.LawKit.callS X0 hx (y := own_m0) hown (mvT hZ (own_hw hw 1 rfl)) (mvT hZ (own_hw hw 2 rfl)) (mvT hZ (own_hw hw 3 rfl)) (mvT hZ (own_hw hw 4 rfl)) (by decide) (backOf (W := 0) (own_pickM l Z a0 hw [] ((p1 &&& (2147483647 : Int32)) % (7 : Int32)) a0p a1p a2p a3p a4p a5p a6p h0 O0 S_REQUIRED S_REQUIRES_NEW S_NESTED S_SUPPORTS S_NOT_SUPPORTED S_MANDATORY S_NEVER) hZ (own_hw hw 4 rfl) (own_hw hw 3 rfl) (by decide) (by decide)) (g := (mkF m 9 #[.val (.int p1), .val (.int ((p1 &&& (2147483647 : Int32)) % (7 : Int32))), .unset, .unset] [(.int ((p1 &&& (2147483647 : Int32)) % (7 : Int32)))])) rfl (by rw [hml]; rfl) (argsL := [(.int ((p1 &&& (2147483647 : Int32)) % (7 : Int32)))]) (rest := []) (lenOf pd_697249117 rfl) rfl (by show 2 * 0 + _ ≤ _; exact Nat.le_of_eq rfl) (hb hby at_9) (fun _ _ => ⟨rfl, e0, (by decide : 0 + 0 ≤ _), (by decide : 0 + 0 ≤ _)⟩)
  dsimp only [Pt.U, Pt.locs, Pt.cells, Pt.slots] at X1z l1z y1z z1z st1z hQ1z
  subst l1z y1z z1z
  obtain ⟨rfl, NQ1z, K1zq⟩ := hQ1z
  refine own_go st1z ?_
  have N1z := Fr.app N0 NQ1z
  show own_G p e below (T1z.setTop (mkF m 12 #[.val (.int p1), .val (.int ((p1 &&& (2147483647 : Int32)) % (7 : Int32))), .unset, .unset] [(.ref (own_pick ((p1 &&& (2147483647 : Int32)) % (7 : Int32)) a0p a1p a2p a3p a4p a5p a6p))])) _
  refine own_go (fun t k => XS.astoreN X1z.here hx rfl (hb hby at_12) rfl rfl (l' := #[.val (.int p1), .val (.int ((p1 &&& (2147483647 : Int32)) % (7 : Int32))), .val (.ref (own_pick ((p1 &&& (2147483647 : Int32)) % (7 : Int32)) a0p a1p a2p a3p a4p a5p a6p)), .unset]) rfl k) ?_
  show own_G p e below (T1z.setTop (mkF m 13 #[.val (.int p1), .val (.int ((p1 &&& (2147483647 : Int32)) % (7 : Int32))), .val (.ref (own_pick ((p1 &&& (2147483647 : Int32)) % (7 : Int32)) a0p a1p a2p a3p a4p a5p a6p)), .unset] [])) _
  refine own_go (fun t k => XS.aloadN X1z.here hx rfl (hb hby at_13) rfl rfl k) ?_
  show own_G p e below (T1z.setTop (mkF m 14 #[.val (.int p1), .val (.int ((p1 &&& (2147483647 : Int32)) % (7 : Int32))), .val (.ref (own_pick ((p1 &&& (2147483647 : Int32)) % (7 : Int32)) a0p a1p a2p a3p a4p a5p a6p)), .unset] [(.ref (own_pick ((p1 &&& (2147483647 : Int32)) % (7 : Int32)) a0p a1p a2p a3p a4p a5p a6p))])) _
  obtain ⟨_, _, ⟨T2z, L2z, k2z, n2z⟩, -, X2z, Si2z, gr2z, ⟨Lc2z, hQ2z, l2z, y2z, z2z⟩, st2z⟩ := callSS X1z hx (y := own_m5) hown (mvT hZ (own_hw hw 8 rfl)) (mvT hZ (own_hw hw 9 rfl)) (mvT hZ (own_hw hw 10 rfl)) (mvT hZ (own_hw hw 11 rfl)) (by decide) (backOfS (W := 0) (own_of l Z a0 hw [] (own_pick ((p1 &&& (2147483647 : Int32)) % (7 : Int32)) a0p a1p a2p a3p a4p a5p a6p) aI aR h0 O0 S_DEFAULT S_STANDARD (own_pick_P (P := fun a => Exa Z Z.heap a "com/example/retrying_transactions/retryingtransactions/boundary/Propagation") E_REQUIRED E_REQUIRES_NEW E_NESTED E_SUPPORTS E_NOT_SUPPORTED E_MANDATORY E_NEVER)) hZ (own_hw hw 11 rfl) (own_hw hw 10 rfl) (by decide) (by decide)) (g := (mkF m 14 #[.val (.int p1), .val (.int ((p1 &&& (2147483647 : Int32)) % (7 : Int32))), .val (.ref (own_pick ((p1 &&& (2147483647 : Int32)) % (7 : Int32)) a0p a1p a2p a3p a4p a5p a6p)), .unset] [(.ref (own_pick ((p1 &&& (2147483647 : Int32)) % (7 : Int32)) a0p a1p a2p a3p a4p a5p a6p))])) rfl (by rw [hml]; rfl) (argsL := [(.ref (own_pick ((p1 &&& (2147483647 : Int32)) % (7 : Int32)) a0p a1p a2p a3p a4p a5p a6p))]) (rest := []) (lenOf pd_2316911602 rfl) rfl (by show 2 * 0 + _ ≤ _; exact Nat.le_of_eq rfl) (hb hby at_14) (fun _ _ => ⟨rfl, K1zq, (by decide : 0 + 4 ≤ _), (by decide : 0 + 60 ≤ _)⟩)
  dsimp only [Pt.U, Pt.locs, Pt.cells, Pt.slots] at X2z l2z y2z z2z st2z hQ2z Si2z gr2z
  subst l2z y2z z2z
  obtain ⟨r_2z, rfl, NQ2z, K2zq, r2z_0, r2z_1, r2z_2, r2z_3, r2z_4, r2z_5, r2z_6⟩ := hQ2z
  refine own_tr st2z ?_
  have N2z := Fr.app N1z NQ2z
  have Sx2z : s.Since T2z.vm T2z.heap.size := foldS Si0 (by first | exact Sn0 | (rw [K1zq]; exact Sn0)) Si2z gr2z
  have hZ2z : Z.Warmed39 (s.setVm T2z.vm).vm := State.Warmed39.trans (t := s.setVm s.vm) hZ Si2z.1
  have hown2z : (s.setVm T2z.vm).vm.findClass "com/example/retrying_transactions/retryingtransactions/boundary/BoundaryOfPinLaw" = some m.cls := by rw [show (s.setVm T2z.vm).vm = T2z.vm from rfl, Si2z.1.alike.findClass]; exact hown
  have X2z := (show Stand _ _ _ _ (s.setVm T2z.vm) _ _ _ _ _ _ _ _ _ from X2z)
  have Sn2z : T2z.heap.size ≤ T2z.heap.size := Nat.le_refl _
  have O3z : Ext Z.heap T2z.heap := own_ext_keep O0 K2zq all0
  have K3z : Keep h0 T2z.heap [] := K0.trans K2zq all0
  show own_G p e below (T2z.setTop (mkF m 17 #[.val (.int p1), .val (.int ((p1 &&& (2147483647 : Int32)) % (7 : Int32))), .val (.ref (own_pick ((p1 &&& (2147483647 : Int32)) % (7 : Int32)) a0p a1p a2p a3p a4p a5p a6p)), .unset] [(.ref r_2z)])) _
  refine own_go (fun t k => XS.astoreN X2z.here hx rfl (hb hby at_17) rfl rfl (l' := #[.val (.int p1), .val (.int ((p1 &&& (2147483647 : Int32)) % (7 : Int32))), .val (.ref (own_pick ((p1 &&& (2147483647 : Int32)) % (7 : Int32)) a0p a1p a2p a3p a4p a5p a6p)), .val (.ref r_2z)]) rfl k) ?_
  show own_G p e below (T2z.setTop (mkF m 18 #[.val (.int p1), .val (.int ((p1 &&& (2147483647 : Int32)) % (7 : Int32))), .val (.ref (own_pick ((p1 &&& (2147483647 : Int32)) % (7 : Int32)) a0p a1p a2p a3p a4p a5p a6p)), .val (.ref r_2z)] [])) _
  refine own_go (fun t k => XS.aloadN X2z.here hx rfl (hb hby at_18) rfl rfl k) ?_
  show own_G p e below (T2z.setTop (mkF m 19 #[.val (.int p1), .val (.int ((p1 &&& (2147483647 : Int32)) % (7 : Int32))), .val (.ref (own_pick ((p1 &&& (2147483647 : Int32)) % (7 : Int32)) a0p a1p a2p a3p a4p a5p a6p)), .val (.ref r_2z)] [(.ref r_2z)])) _
  obtain ⟨cq4z, kq4z, qa4z, qb4z, qc4z⟩ := isOf hZ2z (rfl : T2z.heap = _) r2z_1
  obtain ⟨_, _, ⟨T4z, L4z, k4z, n4z⟩, -, X4z, ⟨Lc4z, hQ4z, l4z, y4z, z4z⟩, st4z⟩ := X2z.virtualBack hx (y := own_m6) (z := own_m6) hown2z (mvT hZ2z (own_hw hw 73 rfl)) (mvT hZ2z (own_hw hw 74 rfl)) (notFace_of_selects (args := #[]) (mvT hZ2z (own_hw hw 76 rfl))) (mvT hZ2z (own_hw hw 76 rfl)) (mvT hZ2z (own_hw hw 75 rfl)) (by decide) (backOf (W := 0) (own_get0 l Z a0 hw [] r_2z (own_pick ((p1 &&& (2147483647 : Int32)) % (7 : Int32)) a0p a1p a2p a3p a4p a5p a6p) T2z.heap O3z r2z_4) hZ2z (own_hw hw 77 rfl) (own_hw hw 10 rfl) (by decide) (by decide)) qa4z qc4z (g := (mkF m 19 #[.val (.int p1), .val (.int ((p1 &&& (2147483647 : Int32)) % (7 : Int32))), .val (.ref (own_pick ((p1 &&& (2147483647 : Int32)) % (7 : Int32)) a0p a1p a2p a3p a4p a5p a6p)), .val (.ref r_2z)] [(.ref r_2z)])) rfl (by rw [hml]; rfl) (Steps.refl _) (argsL := []) (rest := []) (lenOf pd_801966004 rfl) rfl (by show 2 * 0 + _ ≤ _; exact Nat.le_of_eq rfl) (hb hby at_19) (fun _ _ => ⟨rfl, rfl, (by decide : 4 + 0 ≤ _), (by decide : 60 + 0 ≤ _)⟩)
  dsimp only [Pt.U, Pt.locs, Pt.cells, Pt.slots] at X4z l4z y4z z4z st4z hQ4z
  subst l4z y4z z4z
  obtain ⟨rfl, NQ4z, K4zq⟩ := hQ4z
  refine own_tr st4z ?_
  have N4z := Fr.app N2z NQ4z
  show own_G p e below (T4z.setTop (mkF m 22 #[.val (.int p1), .val (.int ((p1 &&& (2147483647 : Int32)) % (7 : Int32))), .val (.ref (own_pick ((p1 &&& (2147483647 : Int32)) % (7 : Int32)) a0p a1p a2p a3p a4p a5p a6p)), .val (.ref r_2z)] [(.ref (own_pick ((p1 &&& (2147483647 : Int32)) % (7 : Int32)) a0p a1p a2p a3p a4p a5p a6p))])) _
  refine own_go (fun t k => XS.aloadN X4z.here hx rfl (hb hby at_22) rfl rfl k) ?_
  show own_G p e below (T4z.setTop (mkF m 23 #[.val (.int p1), .val (.int ((p1 &&& (2147483647 : Int32)) % (7 : Int32))), .val (.ref (own_pick ((p1 &&& (2147483647 : Int32)) % (7 : Int32)) a0p a1p a2p a3p a4p a5p a6p)), .val (.ref r_2z)] [(.ref (own_pick ((p1 &&& (2147483647 : Int32)) % (7 : Int32)) a0p a1p a2p a3p a4p a5p a6p)), (.ref (own_pick ((p1 &&& (2147483647 : Int32)) % (7 : Int32)) a0p a1p a2p a3p a4p a5p a6p))])) _
  refine own_go (fun t k => Jvm.RoadKit.acmp (g := (mkF m 23 #[.val (.int p1), .val (.int ((p1 &&& (2147483647 : Int32)) % (7 : Int32))), .val (.ref (own_pick ((p1 &&& (2147483647 : Int32)) % (7 : Int32)) a0p a1p a2p a3p a4p a5p a6p)), .val (.ref r_2z)] [(.ref (own_pick ((p1 &&& (2147483647 : Int32)) % (7 : Int32)) a0p a1p a2p a3p a4p a5p a6p)), (.ref (own_pick ((p1 &&& (2147483647 : Int32)) % (7 : Int32)) a0p a1p a2p a3p a4p a5p a6p))])) X4z hx rfl rfl rfl (pc0 := 23) (pc' := 26) (same := true) rfl (hb hby at_23) rfl (decide_eq_true (congrArg Value.ref rfl)) (by decide) (by decide) k) ?_
  show own_G p e below (T4z.setTop (mkF m 26 #[.val (.int p1), .val (.int ((p1 &&& (2147483647 : Int32)) % (7 : Int32))), .val (.ref (own_pick ((p1 &&& (2147483647 : Int32)) % (7 : Int32)) a0p a1p a2p a3p a4p a5p a6p)), .val (.ref r_2z)] [])) _
  refine own_go (fun t k => XS.aloadN X4z.here hx rfl (hb hby at_26) rfl rfl k) ?_
  show own_G p e below (T4z.setTop (mkF m 27 #[.val (.int p1), .val (.int ((p1 &&& (2147483647 : Int32)) % (7 : Int32))), .val (.ref (own_pick ((p1 &&& (2147483647 : Int32)) % (7 : Int32)) a0p a1p a2p a3p a4p a5p a6p)), .val (.ref r_2z)] [(.ref r_2z)])) _
  obtain ⟨cq5z, kq5z, qa5z, qb5z, qc5z⟩ := isOf hZ2z K4zq r2z_1
  obtain ⟨_, _, ⟨T5z, L5z, k5z, n5z⟩, -, X5z, ⟨Lc5z, hQ5z, l5z, y5z, z5z⟩, st5z⟩ := X4z.virtualBack hx (y := own_m7) (z := own_m7) hown2z (mvT hZ2z (own_hw hw 78 rfl)) (mvT hZ2z (own_hw hw 79 rfl)) (notFace_of_selects (args := #[]) (mvT hZ2z (own_hw hw 81 rfl))) (mvT hZ2z (own_hw hw 81 rfl)) (mvT hZ2z (own_hw hw 80 rfl)) (by decide) (backOf (W := 0) (own_get1 l Z a0 hw [] r_2z aI T2z.heap O3z r2z_2) hZ2z (own_hw hw 82 rfl) (own_hw hw 10 rfl) (by decide) (by decide)) qa5z qc5z (g := (mkF m 27 #[.val (.int p1), .val (.int ((p1 &&& (2147483647 : Int32)) % (7 : Int32))), .val (.ref (own_pick ((p1 &&& (2147483647 : Int32)) % (7 : Int32)) a0p a1p a2p a3p a4p a5p a6p)), .val (.ref r_2z)] [(.ref r_2z)])) rfl (by rw [hml]; rfl) (Steps.refl _) (argsL := []) (rest := []) (lenOf pd_2924559714 rfl) rfl (by show 2 * 0 + _ ≤ _; exact Nat.le_of_eq rfl) (hb hby at_27) (fun _ _ => ⟨rfl, K4zq, (by decide : 4 + 0 ≤ _), (by decide : 60 + 0 ≤ _)⟩)
  dsimp only [Pt.U, Pt.locs, Pt.cells, Pt.slots] at X5z l5z y5z z5z st5z hQ5z
  subst l5z y5z z5z
  obtain ⟨rfl, NQ5z, K5zq⟩ := hQ5z
  refine own_tr st5z ?_
  have N5z := Fr.app N4z NQ5z
  show own_G p e below (T5z.setTop (mkF m 30 #[.val (.int p1), .val (.int ((p1 &&& (2147483647 : Int32)) % (7 : Int32))), .val (.ref (own_pick ((p1 &&& (2147483647 : Int32)) % (7 : Int32)) a0p a1p a2p a3p a4p a5p a6p)), .val (.ref r_2z)] [(.ref aI)])) _
  obtain ⟨T6z, X6z, e6z, st6z⟩ := getS2 X5z hx hZ2z hown2z (host := "") (Or.inl (own_hw hw 83 rfl)) Via.refl K5zq (S_DEFAULT.ext O3z) (g := (mkF m 30 #[.val (.int p1), .val (.int ((p1 &&& (2147483647 : Int32)) % (7 : Int32))), .val (.ref (own_pick ((p1 &&& (2147483647 : Int32)) % (7 : Int32)) a0p a1p a2p a3p a4p a5p a6p)), .val (.ref r_2z)] [(.ref aI)])) rfl (hb hby at_30)
  refine own_go st6z ?_
  show own_G p e below (T6z.setTop (mkF m 33 #[.val (.int p1), .val (.int ((p1 &&& (2147483647 : Int32)) % (7 : Int32))), .val (.ref (own_pick ((p1 &&& (2147483647 : Int32)) % (7 : Int32)) a0p a1p a2p a3p a4p a5p a6p)), .val (.ref r_2z)] [(.ref aI), (.ref aI)])) _
  refine own_go (fun t k => Jvm.RoadKit.acmp (g := (mkF m 33 #[.val (.int p1), .val (.int ((p1 &&& (2147483647 : Int32)) % (7 : Int32))), .val (.ref (own_pick ((p1 &&& (2147483647 : Int32)) % (7 : Int32)) a0p a1p a2p a3p a4p a5p a6p)), .val (.ref r_2z)] [(.ref aI), (.ref aI)])) X6z hx rfl rfl rfl (pc0 := 33) (pc' := 36) (same := true) rfl (hb hby at_33) rfl (decide_eq_true (congrArg Value.ref rfl)) (by decide) (by decide) k) ?_
  show own_G p e below (T6z.setTop (mkF m 36 #[.val (.int p1), .val (.int ((p1 &&& (2147483647 : Int32)) % (7 : Int32))), .val (.ref (own_pick ((p1 &&& (2147483647 : Int32)) % (7 : Int32)) a0p a1p a2p a3p a4p a5p a6p)), .val (.ref r_2z)] [])) _
  refine own_go (fun t k => XS.aloadN X6z.here hx rfl (hb hby at_36) rfl rfl k) ?_
  show own_G p e below (T6z.setTop (mkF m 37 #[.val (.int p1), .val (.int ((p1 &&& (2147483647 : Int32)) % (7 : Int32))), .val (.ref (own_pick ((p1 &&& (2147483647 : Int32)) % (7 : Int32)) a0p a1p a2p a3p a4p a5p a6p)), .val (.ref r_2z)] [(.ref r_2z)])) _
  obtain ⟨cq7z, kq7z, qa7z, qb7z, qc7z⟩ := isOf hZ2z e6z r2z_1
  obtain ⟨_, _, ⟨T7z, L7z, k7z, n7z⟩, -, X7z, ⟨Lc7z, hQ7z, l7z, y7z, z7z⟩, st7z⟩ := X6z.virtualBack hx (y := own_m8) (z := own_m8) hown2z (mvT hZ2z (own_hw hw 84 rfl)) (mvT hZ2z (own_hw hw 85 rfl)) (notFace_of_selects (args := #[]) (mvT hZ2z (own_hw hw 87 rfl))) (mvT hZ2z (own_hw hw 87 rfl)) (mvT hZ2z (own_hw hw 86 rfl)) (by decide) (backOf (W := 0) (own_ro l Z a0 hw [] r_2z T2z.heap O3z r2z_5) hZ2z (own_hw hw 88 rfl) (own_hw hw 10 rfl) (by decide) (by decide)) qa7z qc7z (g := (mkF m 37 #[.val (.int p1), .val (.int ((p1 &&& (2147483647 : Int32)) % (7 : Int32))), .val (.ref (own_pick ((p1 &&& (2147483647 : Int32)) % (7 : Int32)) a0p a1p a2p a3p a4p a5p a6p)), .val (.ref r_2z)] [(.ref r_2z)])) rfl (by rw [hml]; rfl) (Steps.refl _) (argsL := []) (rest := []) (lenOf pd_193422000 rfl) rfl (by show 2 * 0 + _ ≤ _; exact Nat.le_of_eq rfl) (hb hby at_37) (fun _ _ => ⟨rfl, e6z, (by decide : 4 + 0 ≤ _), (by decide : 60 + 0 ≤ _)⟩)
  dsimp only [Pt.U, Pt.locs, Pt.cells, Pt.slots] at X7z l7z y7z z7z st7z hQ7z
  subst l7z y7z z7z
  obtain ⟨rfl, NQ7z, K7zq⟩ := hQ7z
  refine own_tr st7z ?_
  have N7z := Fr.app N5z NQ7z
  show own_G p e below (T7z.setTop (mkF m 40 #[.val (.int p1), .val (.int ((p1 &&& (2147483647 : Int32)) % (7 : Int32))), .val (.ref (own_pick ((p1 &&& (2147483647 : Int32)) % (7 : Int32)) a0p a1p a2p a3p a4p a5p a6p)), .val (.ref r_2z)] [(.int (0 : Int32))])) _
  refine own_go (fun t k => XS.ifNo X7z.here hx rfl (hb hby at_40) rfl ((if0 _ _).trans (teq (by decide : (0 : Int32) = (0 : Int32))).2) k) ?_
  show own_G p e below (T7z.setTop (mkF m 43 #[.val (.int p1), .val (.int ((p1 &&& (2147483647 : Int32)) % (7 : Int32))), .val (.ref (own_pick ((p1 &&& (2147483647 : Int32)) % (7 : Int32)) a0p a1p a2p a3p a4p a5p a6p)), .val (.ref r_2z)] [])) _
  refine own_go (fun t k => XS.iconst X7z.here hx rfl (hb hby at_43) k) ?_
  show own_G p e below (T7z.setTop (mkF m 44 #[.val (.int p1), .val (.int ((p1 &&& (2147483647 : Int32)) % (7 : Int32))), .val (.ref (own_pick ((p1 &&& (2147483647 : Int32)) % (7 : Int32)) a0p a1p a2p a3p a4p a5p a6p)), .val (.ref r_2z)] [(.int (1 : Int32))])) _
  refine own_go (fun t k => XS.goto X7z.here hx rfl (pc0 := 44) (pc' := 48) rfl (hb hby at_44) (by decide) (by decide) k) ?_
  show own_G p e below (T7z.setTop (mkF m 48 #[.val (.int p1), .val (.int ((p1 &&& (2147483647 : Int32)) % (7 : Int32))), .val (.ref (own_pick ((p1 &&& (2147483647 : Int32)) % (7 : Int32)) a0p a1p a2p a3p a4p a5p a6p)), .val (.ref r_2z)] [(.int (1 : Int32))])) _
  exact own_retW X7z Sx2z (by rw [K7zq]; exact Sn2z) hx Bd.returns rfl (Or.inl ⟨rfl, Or.inr (Or.inl rfl), _, rfl⟩) (hb hby at_48) hlk (Nat.le_of_ble_eq_true rfl) (Nat.le_of_ble_eq_true rfl) (by show Q_own_law Z p1 a0p a1p a2p a3p a4p a5p a6p aI aR h0 _ T7z.heap _; rw [K7zq]; exact ⟨rfl, N7z, K3z⟩)
set_option maxRecDepth 65536 in
set_option maxHeartbeats 40000000 in
theorem comes_1 {Post : Tables → Env → Array Value → State → Outcome → State → Prop} (hpost : ∀ tb e args s v u, (limb_1_1.after args s (.returned v) u = true ∧ limb_1_2.after args s (.returned v) u = true ∧ True) → ReturnedEndW s (.returned v) u (Jvm.fieldLocs frame_1_writes args s ++ Jvm.arrayLocs frame_1_arrays args s ++ Jvm.staticLocs frame_1_statics s) 16 1152 → Post tb e args s (.returned v) u) :
    ArmFor flags0 classFile x code maxLocals ret World_1 tables_1 room_1 Calls_1 rest_1 Pre_1 Post := by
  intro l hfl _ _ p e ha hc hk s m args below hf hA hF happ hP
  obtain ⟨hcalls, hrest, hpre⟩ := hP
  obtain ⟨-, -, -, hnamed, -, -, -, hat⟩ := (Spec.applies_iff hf).mp happ
  obtain ⟨hg, hn⟩ := and_e (Cond.before_iff.mp (show (Jvm.Cond.and given_1 narrow_1).before args s = true from hpre))
  obtain ⟨hg0, hg1⟩ := and_e hg
  obtain ⟨w0, rfl⟩ : ∃ w0 : Value, args = #[w0] := by
    have hs : args.size = 1 := by simpa [Cond.value, given_1] using hg0
    obtain ⟨L⟩ := args
    match L, hs with
    | [w0], _ => exact ⟨w0, rfl⟩
  have hw := fun d (hd : d ∈ tables_1) => atoms_spec (ws := Jvm.Cond.code x code maxLocals ret :: tables_1) hat d (List.mem_cons_of_mem _ hd)
  have hfit : Fit s := fun {y c} hc i hi => by
    obtain ⟨ha, rfl⟩ := Array.getElem?_eq_some_iff.mp hc
    have q := List.all_eq_true.mp ((Array.all_eq_true_iff_forall_mem.mp hF) _ (Array.getElem_mem ha)) i (List.mem_range.mpr hi)
    simpa [Array.getElem?_eq_getElem hi] using q
  obtain ⟨i0, ea0⟩ := is_v hg1
  obtain rfl : w0 = (.int i0) := Option.some.inj ea0
  obtain ⟨c0, hn0⟩ := and_e hn
  obtain ⟨c1, hn1⟩ := and_e hn0
  obtain ⟨c2, hn2⟩ := and_e hn1
  obtain ⟨c3, hn3⟩ := and_e hn2
  obtain ⟨c4, hn4⟩ := and_e hn3
  obtain ⟨c5, hn5⟩ := and_e hn4
  obtain ⟨c6, hn6⟩ := and_e hn5
  obtain ⟨c7, hn7⟩ := and_e hn6
  obtain ⟨a_REQUIRED, ev_REQUIRED⟩ := exa_v c0
  have E_REQUIRED : Exa s s.heap a_REQUIRED "com/example/retrying_transactions/retryingtransactions/boundary/Propagation" := Exa.start ev_REQUIRED c0
  have S_REQUIRED : Sta s s.heap "com/example/retrying_transactions/retryingtransactions/boundary/Propagation" "REQUIRED" "Lcom/example/retrying_transactions/retryingtransactions/boundary/Propagation;" (.ref a_REQUIRED) := Sta.start ev_REQUIRED (Or.inr ⟨(own_hw hw 6 rfl), (own_hw hw 7 rfl)⟩)
  obtain ⟨a_DEFAULT, ev_DEFAULT⟩ := exa_v c1
  have E_DEFAULT : Exa s s.heap a_DEFAULT "com/example/retrying_transactions/retryingtransactions/boundary/Isolation" := Exa.start ev_DEFAULT c1
  have S_DEFAULT : Sta s s.heap "com/example/retrying_transactions/retryingtransactions/boundary/Isolation" "DEFAULT" "Lcom/example/retrying_transactions/retryingtransactions/boundary/Isolation;" (.ref a_DEFAULT) := Sta.start ev_DEFAULT (Or.inr ⟨(own_hw hw 38 rfl), (own_hw hw 39 rfl)⟩)
  obtain ⟨a_STANDARD, ev_STANDARD⟩ := exa_v c2
  have E_STANDARD : Exa s s.heap a_STANDARD "com/example/retrying_transactions/retryingtransactions/rollback/RollbackRule" := Exa.start ev_STANDARD c2
  have S_STANDARD : Sta s s.heap "com/example/retrying_transactions/retryingtransactions/rollback/RollbackRule" "STANDARD" "Lcom/example/retrying_transactions/retryingtransactions/rollback/RollbackRule;" (.ref a_STANDARD) := Sta.start ev_STANDARD (Or.inr ⟨(own_hw hw 44 rfl), (own_hw hw 47 rfl)⟩)
  obtain ⟨a_SUPPORTS, ev_SUPPORTS⟩ := exa_v c3
  have E_SUPPORTS : Exa s s.heap a_SUPPORTS "com/example/retrying_transactions/retryingtransactions/boundary/Propagation" := Exa.start ev_SUPPORTS c3
  have S_SUPPORTS : Sta s s.heap "com/example/retrying_transactions/retryingtransactions/boundary/Propagation" "SUPPORTS" "Lcom/example/retrying_transactions/retryingtransactions/boundary/Propagation;" (.ref a_SUPPORTS) := Sta.start ev_SUPPORTS (Or.inr ⟨(own_hw hw 6 rfl), (own_hw hw 90 rfl)⟩)
  obtain ⟨a_MANDATORY, ev_MANDATORY⟩ := exa_v c4
  have E_MANDATORY : Exa s s.heap a_MANDATORY "com/example/retrying_transactions/retryingtransactions/boundary/Propagation" := Exa.start ev_MANDATORY c4
  have S_MANDATORY : Sta s s.heap "com/example/retrying_transactions/retryingtransactions/boundary/Propagation" "MANDATORY" "Lcom/example/retrying_transactions/retryingtransactions/boundary/Propagation;" (.ref a_MANDATORY) := Sta.start ev_MANDATORY (Or.inr ⟨(own_hw hw 6 rfl), (own_hw hw 92 rfl)⟩)
  obtain ⟨a_NEVER, ev_NEVER⟩ := exa_v c5
  have E_NEVER : Exa s s.heap a_NEVER "com/example/retrying_transactions/retryingtransactions/boundary/Propagation" := Exa.start ev_NEVER c5
  have S_NEVER : Sta s s.heap "com/example/retrying_transactions/retryingtransactions/boundary/Propagation" "NEVER" "Lcom/example/retrying_transactions/retryingtransactions/boundary/Propagation;" (.ref a_NEVER) := Sta.start ev_NEVER (Or.inr ⟨(own_hw hw 6 rfl), (own_hw hw 94 rfl)⟩)
  obtain ⟨a_NOT_SUPPORTED, ev_NOT_SUPPORTED⟩ := exa_v c6
  have E_NOT_SUPPORTED : Exa s s.heap a_NOT_SUPPORTED "com/example/retrying_transactions/retryingtransactions/boundary/Propagation" := Exa.start ev_NOT_SUPPORTED c6
  have S_NOT_SUPPORTED : Sta s s.heap "com/example/retrying_transactions/retryingtransactions/boundary/Propagation" "NOT_SUPPORTED" "Lcom/example/retrying_transactions/retryingtransactions/boundary/Propagation;" (.ref a_NOT_SUPPORTED) := Sta.start ev_NOT_SUPPORTED (Or.inr ⟨(own_hw hw 6 rfl), (own_hw hw 96 rfl)⟩)
  obtain ⟨a_NESTED, ev_NESTED⟩ := exa_v c7
  have E_NESTED : Exa s s.heap a_NESTED "com/example/retrying_transactions/retryingtransactions/boundary/Propagation" := Exa.start ev_NESTED c7
  have S_NESTED : Sta s s.heap "com/example/retrying_transactions/retryingtransactions/boundary/Propagation" "NESTED" "Lcom/example/retrying_transactions/retryingtransactions/boundary/Propagation;" (.ref a_NESTED) := Sta.start ev_NESTED (Or.inr ⟨(own_hw hw 6 rfl), (own_hw hw 98 rfl)⟩)
  obtain ⟨a_REQUIRES_NEW, ev_REQUIRES_NEW⟩ := exa_v hn7
  have E_REQUIRES_NEW : Exa s s.heap a_REQUIRES_NEW "com/example/retrying_transactions/retryingtransactions/boundary/Propagation" := Exa.start ev_REQUIRES_NEW hn7
  have S_REQUIRES_NEW : Sta s s.heap "com/example/retrying_transactions/retryingtransactions/boundary/Propagation" "REQUIRES_NEW" "Lcom/example/retrying_transactions/retryingtransactions/boundary/Propagation;" (.ref a_REQUIRES_NEW) := Sta.start ev_REQUIRES_NEW (Or.inr ⟨(own_hw hw 6 rfl), (own_hw hw 100 rfl)⟩)
  obtain ⟨n, o, h1, h2, h3, _, L, rfl, hQ, hq⟩ := own_law l s _ hw tables_1 i0 a_REQUIRED a_REQUIRES_NEW a_NESTED a_SUPPORTS a_NOT_SUPPORTED a_MANDATORY a_NEVER a_DEFAULT a_STANDARD s.heap (own_ext_refl _) S_REQUIRED S_REQUIRES_NEW S_NESTED S_SUPPORTS S_NOT_SUPPORTED S_MANDATORY S_NEVER E_REQUIRED E_REQUIRES_NEW E_NESTED E_SUPPORTS E_NOT_SUPPORTED E_MANDATORY E_NEVER S_DEFAULT S_STANDARD p e ha hc hk s m _ below hf ((Spec.applies_iff_loose hf).mp happ).1 ⟨rfl, State.Warmed39.refl s, rfl⟩ trivial
  obtain ⟨rfl, N, -⟩ := hQ
  exact ⟨n, _, h1, h2, h3, hpost _ _ _ _ _ _ ⟨Cond.after_iff.mpr rfl, Cond.after_iff.mpr (eq_i res_at (Term.int_eval (1)) rfl), trivial⟩ ⟨hq.1, hq.2.1, hq.2.2.1, (hq.2.2.2.sift fun y hy => Or.inr (N y hy)).mono (by decide) (by decide)⟩⟩
theorem main_1_1 : Claimed_1_1 := comes_1 fun _ _ _ _ _ _ h hF => ⟨h.1, hF⟩
theorem main_1_2 : Claimed_1_2 := comes_1 fun _ _ _ _ _ _ h hF => ⟨h.2.1, hF⟩
end Jvm.Pilot.@@N@@
namespace Jvm.Pilot.@@N@@
open Jvm Jvm.ClassFile Sem Op Lib Jvm.Free Jvm.Stand Jvm.Pilot.@@N@@.Jvm.D
/-! MADE BY PROGRAM (witnessworld.py) out of the Statement's table words and the real class files: 20 classes; the members and pool entries that the words name. The judged class is class 1, her method 1. -/
namespace start1
open Jvm.ClassFile
def u (s : String) : CpInfo := .utf8 (stringToUtf16 s)
/-- a pool by its gaps: so many unusable entries, then the entry; so many at the end -/
def gap : Nat → List CpInfo → List CpInfo
  | 0, r => r
  | n + 1, r => .unusable :: gap n r
def poolList (es : List (Nat × CpInfo)) (last : Nat) : List CpInfo := es.foldr (fun e r => gap e.1 (e.2 :: r)) (gap last [])
def pool (es : List (Nat × CpInfo)) (last : Nat) : Array CpInfo := ⟨poolList es last⟩
def fileOf (pool : Array CpInfo) (this : Nat) (attrs : Array Attribute := #[]) (ms : Array MethodInfo := #[]) (fl : Nat := 33) (sup : Nat := 0) (ifs : Array Nat := #[]) (fds : Array FieldInfo := #[]) : ClassFile where
  minorVersion := 0
  majorVersion := 65
  constantPool := pool
  accessFlags := fl
  thisClass := this
  superClass := sup
  interfaces := ifs
  fields := fds
  methods := ms
  attributes := attrs
def plain (name : String) (sup : Option ClassId) : Class where
  name := name
  kind := .ordinary
  loader := none
  accessFlags := 33
  super := sup
  interfaces := #[]
  cf := none
  fields := #[]
  methods := #[]
  instanceTypes := #[]
  staticTypes := #[]
  resolved := #[]
  callSites := []
  init := .initialized
  statics := none
  mirror := none

def pool0 : Array CpInfo := pool [(5, u "<init>"), (0, u "()V"), (1, .class_ 10), (1, u "java/lang/Object")] 113

def k0c0 : Code := { maxStack := 0, maxLocals := 1, code := object_method_1_code, exceptionTable := #[], attributes := #[] }
def k0m0 : Method := { name := "<init>", desc := "()V", sig := { parameters := [], returnType := none }, accessFlags := 1, code := some k0c0 }
/-- java/lang/Object -/
def k0 : Class := { plain "java/lang/Object" none with
  accessFlags := 33
  interfaces := #[]
  cf := some (fileOf pool0 8 #[] #[{ accessFlags := 1, nameIndex := 5, descriptorIndex := 6, attributes := #[] }] 33 0 #[] #[])
  fields := #[]
  methods := #[k0m0]
  instanceTypes := #[]
  staticTypes := #[]
  resolved := Array.replicate 124 none
  statics := none }

def pool1 : Array CpInfo := pool [(2, .class_ 4), (1, u "java/lang/Object"), (0, u "<init>"), (0, u "()V"), (0, .integer 2147483647), (0, .methodref 9 10), (0, .class_ 11), (0, .nameAndType 12 13), (0, u "com/example/retrying_transactions/retryingtransactions/boundary/BoundaryOfPinLaw"), (0, u "pick"), (0, u "(I)Lcom/example/retrying_transactions/retryingtransactions/boundary/Propagation;"), (0, .methodref 15 16), (0, .class_ 17), (0, .nameAndType 18 19), (0, u "com/example/retrying_transactions/retryingtransactions/boundary/Boundary"), (0, u "of"), (0, u "(Lcom/example/retrying_transactions/retryingtransactions/boundary/Propagation;)Lcom/example/retrying_transactions/retryingtransactions/boundary/Boundary;"), (0, .methodref 15 21), (0, .nameAndType 22 23), (0, u "propagation"), (0, u "()Lcom/example/retrying_transactions/retryingtransactions/boundary/Propagation;"), (0, .methodref 15 25), (0, .nameAndType 26 27), (0, u "isolation"), (0, u "()Lcom/example/retrying_transactions/retryingtransactions/boundary/Isolation;"), (0, .fieldref 29 30), (0, .class_ 31), (0, .nameAndType 32 33), (0, u "com/example/retrying_transactions/retryingtransactions/boundary/Isolation"), (0, u "DEFAULT"), (0, u "Lcom/example/retrying_transactions/retryingtransactions/boundary/Isolation;"), (0, .methodref 15 35), (0, .nameAndType 36 37), (0, u "isReadOnly"), (0, u "()Z"), (0, .fieldref 39 40), (0, .class_ 41), (0, .nameAndType 42 43), (0, u "com/example/retrying_transactions/retryingtransactions/boundary/Propagation"), (0, u "REQUIRED"), (0, u "Lcom/example/retrying_transactions/retryingtransactions/boundary/Propagation;"), (0, .fieldref 39 45), (0, .nameAndType 46 43), (0, u "REQUIRES_NEW"), (0, .fieldref 39 48), (0, .nameAndType 49 43), (0, u "NESTED"), (0, .fieldref 39 51), (0, .nameAndType 52 43), (0, u "SUPPORTS"), (0, .fieldref 39 54), (0, .nameAndType 55 43), (0, u "NOT_SUPPORTED"), (0, .fieldref 39 57), (0, .nameAndType 58 43), (0, u "MANDATORY"), (0, .fieldref 39 60), (0, .nameAndType 61 43), (0, u "NEVER"), (2, u "law"), (0, u "(I)Z")] 3

def k1m0 : Method := { name := "<init>", desc := "()V", sig := { parameters := [], returnType := none }, accessFlags := 1, code := none }
def k1c1 : Code := { maxStack := 2, maxLocals := 4, code := code, exceptionTable := #[], attributes := #[] }
def k1m1 : Method := { name := "law", desc := "(I)Z", sig := { parameters := [.int], returnType := some .boolean }, accessFlags := 9, code := some k1c1 }
def k1c2 : Code := { maxStack := 2, maxLocals := 1, code := method_3_code, exceptionTable := #[], attributes := #[] }
def k1m2 : Method := { name := "pick", desc := "(I)Lcom/example/retrying_transactions/retryingtransactions/boundary/Propagation;", sig := { parameters := [.int], returnType := some (.object "com/example/retrying_transactions/retryingtransactions/boundary/Propagation") }, accessFlags := 10, code := some k1c2 }
/-- com/example/retrying_transactions/retryingtransactions/boundary/BoundaryOfPinLaw -/
def k1 : Class := { plain "com/example/retrying_transactions/retryingtransactions/boundary/BoundaryOfPinLaw" (some 0) with
  accessFlags := 49
  interfaces := #[]
  cf := some (fileOf pool1 9 #[] #[{ accessFlags := 1, nameIndex := 5, descriptorIndex := 6, attributes := #[] }, { accessFlags := 9, nameIndex := 64, descriptorIndex := 65, attributes := #[] }, { accessFlags := 10, nameIndex := 12, descriptorIndex := 13, attributes := #[] }] 49 2 #[] #[])
  fields := #[]
  methods := #[k1m0, k1m1, k1m2]
  instanceTypes := #[]
  staticTypes := #[]
  resolved := Array.replicate 69 none
  statics := none }

def pool2 : Array CpInfo := pool [(1, .class_ 2), (0, u "java/lang/constant/Constable"), (0, .class_ 4), (0, u "java/lang/Object")] 6

/-- java/lang/constant/Constable -/
def k2 : Class := { plain "java/lang/constant/Constable" (some 0) with
  accessFlags := 1537
  interfaces := #[]
  cf := some (fileOf pool2 1 #[] #[] 1537 3 #[] #[])
  fields := #[]
  methods := #[]
  instanceTypes := #[]
  staticTypes := #[]
  resolved := Array.replicate 11 none
  statics := none }

def pool3 : Array CpInfo := pool [(1, .class_ 2), (0, u "java/lang/Comparable"), (0, .class_ 4), (0, u "java/lang/Object")] 7

/-- java/lang/Comparable -/
def k3 : Class := { plain "java/lang/Comparable" (some 0) with
  accessFlags := 1537
  interfaces := #[]
  cf := some (fileOf pool3 1 #[] #[] 1537 3 #[] #[])
  fields := #[]
  methods := #[]
  instanceTypes := #[]
  staticTypes := #[]
  resolved := Array.replicate 12 none
  statics := none }

def pool4 : Array CpInfo := pool [(1, .class_ 2), (0, u "java/io/Serializable"), (0, .class_ 4), (0, u "java/lang/Object")] 2

/-- java/io/Serializable -/
def k4 : Class := { plain "java/io/Serializable" (some 0) with
  accessFlags := 1537
  interfaces := #[]
  cf := some (fileOf pool4 1 #[] #[] 1537 3 #[] #[])
  fields := #[]
  methods := #[]
  instanceTypes := #[]
  staticTypes := #[]
  resolved := Array.replicate 7 none
  statics := none }

def pool5 : Array CpInfo := pool [(2, .class_ 4), (1, u "java/lang/Enum"), (0, u "name"), (0, u "Ljava/lang/String;"), (2, u "ordinal"), (0, u "I"), (1, .class_ 14), (1, u "java/lang/Object"), (4, u "hash"), (86, .class_ 108), (1, u "java/lang/Enum$EnumDesc"), (2, .class_ 112), (0, u "java/lang/constant/Constable"), (0, .class_ 114), (0, u "java/lang/Comparable"), (0, .class_ 116), (0, u "java/io/Serializable")] 87

/-- java/lang/Enum -/
def k5 : Class := { plain "java/lang/Enum" (some 0) with
  accessFlags := 1057
  interfaces := #[2, 3, 4]
  cf := some (fileOf pool5 2 #[.nestMembers #[106]] #[] 1057 12 #[111, 113, 115] #[{ accessFlags := 18, nameIndex := 5, descriptorIndex := 6, attributes := #[] }, { accessFlags := 18, nameIndex := 9, descriptorIndex := 10, attributes := #[] }, { accessFlags := 2, nameIndex := 19, descriptorIndex := 10, attributes := #[] }])
  fields := #[{ name := "name", type := (.object "java/lang/String"), accessFlags := 18, slot := 0, constantValue := 0 }, { name := "ordinal", type := .int, accessFlags := 18, slot := 1, constantValue := 0 }, { name := "hash", type := .int, accessFlags := 2, slot := 2, constantValue := 0 }]
  methods := #[]
  instanceTypes := #[(.object "java/lang/String"), .int, .int]
  staticTypes := #[]
  resolved := Array.replicate 204 none
  statics := none }

def pool6 : Array CpInfo := pool [(1, .class_ 2), (0, u "com/example/retrying_transactions/retryingtransactions/boundary/Propagation"), (2, u "REQUIRED"), (0, u "Lcom/example/retrying_transactions/retryingtransactions/boundary/Propagation;"), (2, u "REQUIRES_NEW"), (2, u "NESTED"), (2, u "SUPPORTS"), (2, u "NOT_SUPPORTED"), (2, u "MANDATORY"), (2, u "NEVER"), (2, u "$VALUES"), (0, u "[Lcom/example/retrying_transactions/retryingtransactions/boundary/Propagation;"), (6, .class_ 37), (1, u "java/lang/Enum")] 29

/-- com/example/retrying_transactions/retryingtransactions/boundary/Propagation -/
def k6 : Class := { plain "com/example/retrying_transactions/retryingtransactions/boundary/Propagation" (some 5) with
  accessFlags := 16433
  interfaces := #[]
  cf := some (fileOf pool6 1 #[] #[] 16433 35 #[] #[{ accessFlags := 16409, nameIndex := 5, descriptorIndex := 6, attributes := #[] }, { accessFlags := 16409, nameIndex := 9, descriptorIndex := 6, attributes := #[] }, { accessFlags := 16409, nameIndex := 12, descriptorIndex := 6, attributes := #[] }, { accessFlags := 16409, nameIndex := 15, descriptorIndex := 6, attributes := #[] }, { accessFlags := 16409, nameIndex := 18, descriptorIndex := 6, attributes := #[] }, { accessFlags := 16409, nameIndex := 21, descriptorIndex := 6, attributes := #[] }, { accessFlags := 16409, nameIndex := 24, descriptorIndex := 6, attributes := #[] }, { accessFlags := 4122, nameIndex := 27, descriptorIndex := 28, attributes := #[] }])
  fields := #[{ name := "REQUIRED", type := (.object "com/example/retrying_transactions/retryingtransactions/boundary/Propagation"), accessFlags := 16409, slot := 0, constantValue := 0 }, { name := "REQUIRES_NEW", type := (.object "com/example/retrying_transactions/retryingtransactions/boundary/Propagation"), accessFlags := 16409, slot := 1, constantValue := 0 }, { name := "NESTED", type := (.object "com/example/retrying_transactions/retryingtransactions/boundary/Propagation"), accessFlags := 16409, slot := 2, constantValue := 0 }, { name := "SUPPORTS", type := (.object "com/example/retrying_transactions/retryingtransactions/boundary/Propagation"), accessFlags := 16409, slot := 3, constantValue := 0 }, { name := "NOT_SUPPORTED", type := (.object "com/example/retrying_transactions/retryingtransactions/boundary/Propagation"), accessFlags := 16409, slot := 4, constantValue := 0 }, { name := "MANDATORY", type := (.object "com/example/retrying_transactions/retryingtransactions/boundary/Propagation"), accessFlags := 16409, slot := 5, constantValue := 0 }, { name := "NEVER", type := (.object "com/example/retrying_transactions/retryingtransactions/boundary/Propagation"), accessFlags := 16409, slot := 6, constantValue := 0 }, { name := "$VALUES", type := (.array (.object "com/example/retrying_transactions/retryingtransactions/boundary/Propagation")), accessFlags := 4122, slot := 7, constantValue := 0 }]
  methods := #[]
  instanceTypes := #[(.object "java/lang/String"), .int, .int]
  staticTypes := #[(.object "com/example/retrying_transactions/retryingtransactions/boundary/Propagation"), (.object "com/example/retrying_transactions/retryingtransactions/boundary/Propagation"), (.object "com/example/retrying_transactions/retryingtransactions/boundary/Propagation"), (.object "com/example/retrying_transactions/retryingtransactions/boundary/Propagation"), (.object "com/example/retrying_transactions/retryingtransactions/boundary/Propagation"), (.object "com/example/retrying_transactions/retryingtransactions/boundary/Propagation"), (.object "com/example/retrying_transactions/retryingtransactions/boundary/Propagation"), (.array (.object "com/example/retrying_transactions/retryingtransactions/boundary/Propagation"))]
  resolved := Array.replicate 67 none
  statics := some 0 }

def pool7 : Array CpInfo := pool [(1, .methodref 2 3), (0, .class_ 4), (0, .nameAndType 5 6), (0, u "java/lang/Object"), (0, u "<init>"), (0, u "()V"), (0, .fieldref 8 9), (0, .class_ 10), (0, .nameAndType 11 12), (0, u "com/example/retrying_transactions/retryingtransactions/boundary/Boundary$Draft"), (0, u "propagation"), (0, u "Lcom/example/retrying_transactions/retryingtransactions/boundary/Propagation;"), (0, .fieldref 14 9), (0, .class_ 15), (0, u "com/example/retrying_transactions/retryingtransactions/boundary/Boundary"), (0, .fieldref 8 17), (0, .nameAndType 18 19), (0, u "isolation"), (0, u "Lcom/example/retrying_transactions/retryingtransactions/boundary/Isolation;"), (0, .fieldref 14 17), (0, .fieldref 8 22), (0, .nameAndType 23 24), (0, u "readOnly"), (0, u "Z"), (0, .fieldref 14 22), (0, .fieldref 8 27), (0, .nameAndType 28 29), (0, u "timeout"), (0, u "Ljava/time/Duration;"), (0, .fieldref 14 27), (0, .fieldref 8 32), (0, .nameAndType 33 34), (0, u "rollbackRule"), (0, u "Lcom/example/retrying_transactions/retryingtransactions/rollback/RollbackRule;"), (0, .fieldref 14 32), (2, u "REQUIRED"), (0, u "Lcom/example/retrying_transactions/retryingtransactions/boundary/Boundary;"), (0, .string 11), (0, .methodref 42 43), (0, .class_ 44), (0, .nameAndType 45 46), (0, u "java/util/Objects"), (0, u "requireNonNull"), (0, u "(Ljava/lang/Object;Ljava/lang/String;)Ljava/lang/Object;"), (0, .class_ 48), (0, u "com/example/retrying_transactions/retryingtransactions/boundary/Propagation"), (0, .methodref 8 50), (0, .nameAndType 5 51), (0, u "(Lcom/example/retrying_transactions/retryingtransactions/boundary/Propagation;)V"), (0, .methodref 14 53), (0, .nameAndType 5 54), (0, u "(Lcom/example/retrying_transactions/retryingtransactions/boundary/Boundary$Draft;)V"), (18, u "()Z"), (52, u "of"), (0, u "(Lcom/example/retrying_transactions/retryingtransactions/boundary/Propagation;)Lcom/example/retrying_transactions/retryingtransactions/boundary/Boundary;"), (17, u "()Lcom/example/retrying_transactions/retryingtransactions/boundary/Propagation;"), (0, u "()Lcom/example/retrying_transactions/retryingtransactions/boundary/Isolation;"), (0, u "isReadOnly")] 56

def k7c0 : Code := { maxStack := 2, maxLocals := 2, code := prog_7_method_1_code, exceptionTable := #[], attributes := #[] }
def k7m0 : Method := { name := "<init>", desc := "(Lcom/example/retrying_transactions/retryingtransactions/boundary/Boundary$Draft;)V", sig := { parameters := [(.object "com/example/retrying_transactions/retryingtransactions/boundary/Boundary$Draft")], returnType := none }, accessFlags := 2, code := some k7c0 }
def k7c1 : Code := { maxStack := 6, maxLocals := 1, code := prog_7_method_3_code, exceptionTable := #[], attributes := #[] }
def k7m1 : Method := { name := "of", desc := "(Lcom/example/retrying_transactions/retryingtransactions/boundary/Propagation;)Lcom/example/retrying_transactions/retryingtransactions/boundary/Boundary;", sig := { parameters := [(.object "com/example/retrying_transactions/retryingtransactions/boundary/Propagation")], returnType := some (.object "com/example/retrying_transactions/retryingtransactions/boundary/Boundary") }, accessFlags := 9, code := some k7c1 }
def k7c2 : Code := { maxStack := 1, maxLocals := 1, code := prog_7_method_10_code, exceptionTable := #[], attributes := #[] }
def k7m2 : Method := { name := "propagation", desc := "()Lcom/example/retrying_transactions/retryingtransactions/boundary/Propagation;", sig := { parameters := [], returnType := some (.object "com/example/retrying_transactions/retryingtransactions/boundary/Propagation") }, accessFlags := 1, code := some k7c2 }
def k7c3 : Code := { maxStack := 1, maxLocals := 1, code := prog_7_method_11_code, exceptionTable := #[], attributes := #[] }
def k7m3 : Method := { name := "isolation", desc := "()Lcom/example/retrying_transactions/retryingtransactions/boundary/Isolation;", sig := { parameters := [], returnType := some (.object "com/example/retrying_transactions/retryingtransactions/boundary/Isolation") }, accessFlags := 1, code := some k7c3 }
def k7c4 : Code := { maxStack := 1, maxLocals := 1, code := prog_7_method_12_code, exceptionTable := #[], attributes := #[] }
def k7m4 : Method := { name := "isReadOnly", desc := "()Z", sig := { parameters := [], returnType := some .boolean }, accessFlags := 1, code := some k7c4 }
/-- com/example/retrying_transactions/retryingtransactions/boundary/Boundary -/
def k7 : Class := { plain "com/example/retrying_transactions/retryingtransactions/boundary/Boundary" (some 0) with
  accessFlags := 33
  interfaces := #[]
  cf := some (fileOf pool7 14 #[.nestMembers #[8]] #[{ accessFlags := 2, nameIndex := 5, descriptorIndex := 54, attributes := #[] }, { accessFlags := 9, nameIndex := 126, descriptorIndex := 127, attributes := #[] }, { accessFlags := 1, nameIndex := 11, descriptorIndex := 145, attributes := #[] }, { accessFlags := 1, nameIndex := 18, descriptorIndex := 146, attributes := #[] }, { accessFlags := 1, nameIndex := 147, descriptorIndex := 73, attributes := #[] }] 33 2 #[] #[{ accessFlags := 26, nameIndex := 38, descriptorIndex := 39, attributes := #[] }, { accessFlags := 18, nameIndex := 11, descriptorIndex := 12, attributes := #[] }, { accessFlags := 18, nameIndex := 18, descriptorIndex := 19, attributes := #[] }, { accessFlags := 18, nameIndex := 23, descriptorIndex := 24, attributes := #[] }, { accessFlags := 18, nameIndex := 28, descriptorIndex := 29, attributes := #[] }, { accessFlags := 18, nameIndex := 33, descriptorIndex := 34, attributes := #[] }])
  fields := #[{ name := "REQUIRED", type := (.object "com/example/retrying_transactions/retryingtransactions/boundary/Boundary"), accessFlags := 26, slot := 0, constantValue := 0 }, { name := "propagation", type := (.object "com/example/retrying_transactions/retryingtransactions/boundary/Propagation"), accessFlags := 18, slot := 0, constantValue := 0 }, { name := "isolation", type := (.object "com/example/retrying_transactions/retryingtransactions/boundary/Isolation"), accessFlags := 18, slot := 1, constantValue := 0 }, { name := "readOnly", type := .boolean, accessFlags := 18, slot := 2, constantValue := 0 }, { name := "timeout", type := (.object "java/time/Duration"), accessFlags := 18, slot := 3, constantValue := 0 }, { name := "rollbackRule", type := (.object "com/example/retrying_transactions/retryingtransactions/rollback/RollbackRule"), accessFlags := 18, slot := 4, constantValue := 0 }]
  methods := #[k7m0, k7m1, k7m2, k7m3, k7m4]
  instanceTypes := #[(.object "com/example/retrying_transactions/retryingtransactions/boundary/Propagation"), (.object "com/example/retrying_transactions/retryingtransactions/boundary/Isolation"), .boolean, (.object "java/time/Duration"), (.object "com/example/retrying_transactions/retryingtransactions/rollback/RollbackRule")]
  staticTypes := #[(.object "com/example/retrying_transactions/retryingtransactions/boundary/Boundary")]
  resolved := Array.replicate 204 none
  statics := none }

def pool8 : Array CpInfo := pool [(1, .methodref 2 3), (0, .class_ 4), (0, .nameAndType 5 6), (0, u "java/lang/Object"), (0, u "<init>"), (0, u "()V"), (0, .fieldref 8 9), (0, .class_ 10), (0, .nameAndType 11 12), (0, u "com/example/retrying_transactions/retryingtransactions/boundary/Isolation"), (0, u "DEFAULT"), (0, u "Lcom/example/retrying_transactions/retryingtransactions/boundary/Isolation;"), (0, .fieldref 14 15), (0, .class_ 16), (0, .nameAndType 17 12), (0, u "com/example/retrying_transactions/retryingtransactions/boundary/Boundary$Draft"), (0, u "isolation"), (0, .methodref 19 20), (0, .class_ 21), (0, .nameAndType 22 23), (0, u "com/example/retrying_transactions/retryingtransactions/rollback/RollbackRule"), (0, u "standard"), (0, u "()Lcom/example/retrying_transactions/retryingtransactions/rollback/RollbackRule;"), (0, .fieldref 14 25), (0, .nameAndType 26 27), (0, u "rollbackRule"), (0, u "Lcom/example/retrying_transactions/retryingtransactions/rollback/RollbackRule;"), (0, .fieldref 14 29), (0, .nameAndType 30 31), (0, u "propagation"), (0, u "Lcom/example/retrying_transactions/retryingtransactions/boundary/Propagation;"), (1, .class_ 34), (0, u "com/example/retrying_transactions/retryingtransactions/boundary/Boundary"), (3, u "readOnly"), (0, u "Z"), (3, u "timeout"), (0, u "Ljava/time/Duration;"), (2, u "(Lcom/example/retrying_transactions/retryingtransactions/boundary/Propagation;)V")] 8

def k8c0 : Code := { maxStack := 2, maxLocals := 2, code := prog_8_method_1_code, exceptionTable := #[], attributes := #[] }
def k8m0 : Method := { name := "<init>", desc := "(Lcom/example/retrying_transactions/retryingtransactions/boundary/Propagation;)V", sig := { parameters := [(.object "com/example/retrying_transactions/retryingtransactions/boundary/Propagation")], returnType := none }, accessFlags := 0, code := some k8c0 }
/-- com/example/retrying_transactions/retryingtransactions/boundary/Boundary$Draft -/
def k8 : Class := { plain "com/example/retrying_transactions/retryingtransactions/boundary/Boundary$Draft" (some 0) with
  accessFlags := 32
  interfaces := #[]
  cf := some (fileOf pool8 14 #[.nestHost 33] #[{ accessFlags := 0, nameIndex := 5, descriptorIndex := 47, attributes := #[] }] 32 2 #[] #[{ accessFlags := 0, nameIndex := 30, descriptorIndex := 31, attributes := #[] }, { accessFlags := 0, nameIndex := 17, descriptorIndex := 12, attributes := #[] }, { accessFlags := 0, nameIndex := 38, descriptorIndex := 39, attributes := #[] }, { accessFlags := 0, nameIndex := 43, descriptorIndex := 44, attributes := #[] }, { accessFlags := 0, nameIndex := 26, descriptorIndex := 27, attributes := #[] }])
  fields := #[{ name := "propagation", type := (.object "com/example/retrying_transactions/retryingtransactions/boundary/Propagation"), accessFlags := 0, slot := 0, constantValue := 0 }, { name := "isolation", type := (.object "com/example/retrying_transactions/retryingtransactions/boundary/Isolation"), accessFlags := 0, slot := 1, constantValue := 0 }, { name := "readOnly", type := .boolean, accessFlags := 0, slot := 2, constantValue := 0 }, { name := "timeout", type := (.object "java/time/Duration"), accessFlags := 0, slot := 3, constantValue := 0 }, { name := "rollbackRule", type := (.object "com/example/retrying_transactions/retryingtransactions/rollback/RollbackRule"), accessFlags := 0, slot := 4, constantValue := 0 }]
  methods := #[k8m0]
  instanceTypes := #[(.object "com/example/retrying_transactions/retryingtransactions/boundary/Propagation"), (.object "com/example/retrying_transactions/retryingtransactions/boundary/Isolation"), .boolean, (.object "java/time/Duration"), (.object "com/example/retrying_transactions/retryingtransactions/rollback/RollbackRule")]
  staticTypes := #[]
  resolved := Array.replicate 56 none
  statics := none }

def pool9 : Array CpInfo := pool [(2, .class_ 4), (1, u "java/lang/CharSequence"), (42, .class_ 48), (0, u "java/lang/CharSequence$1CodePointIterator"), (10, .class_ 60), (0, u "java/lang/CharSequence$1CharIterator"), (5, .class_ 67), (0, u "java/lang/Object")] 63

/-- java/lang/CharSequence -/
def k9 : Class := { plain "java/lang/CharSequence" (some 0) with
  accessFlags := 1537
  interfaces := #[]
  cf := some (fileOf pool9 2 #[.nestMembers #[47, 59]] #[] 1537 66 #[] #[])
  fields := #[]
  methods := #[]
  instanceTypes := #[]
  staticTypes := #[]
  resolved := Array.replicate 131 none
  statics := none }

def pool10 : Array CpInfo := pool [(1, .class_ 2), (0, u "java/lang/constant/ConstantDesc"), (0, .class_ 4), (0, u "java/lang/Object")] 32

/-- java/lang/constant/ConstantDesc -/
def k10 : Class := { plain "java/lang/constant/ConstantDesc" (some 0) with
  accessFlags := 1537
  interfaces := #[]
  cf := some (fileOf pool10 1 #[] #[] 1537 3 #[] #[])
  fields := #[]
  methods := #[]
  instanceTypes := #[]
  staticTypes := #[]
  resolved := Array.replicate 37 none
  statics := none }

def pool11 : Array CpInfo := pool [(2, .class_ 4), (1, u "java/lang/Object"), (0, u "<init>"), (0, u "()V"), (3, .class_ 12), (1, u "java/lang/String"), (0, u "value"), (0, u "[B"), (2, u "coder"), (0, u "B"), (2, u "hash"), (0, u "I"), (2, u "hashIsZero"), (0, u "Z"), (13, u "COMPACT_STRINGS"), (534, .class_ 576), (0, u "java/lang/CharSequence"), (22, u "CASE_INSENSITIVE_ORDER"), (0, u "Ljava/util/Comparator;"), (500, u "serialPersistentFields"), (0, u "[Ljava/io/ObjectStreamField;"), (0, .class_ 1104), (0, u "java/lang/String$CaseInsensitiveComparator"), (1, .class_ 1107), (0, u "java/io/Serializable"), (0, .class_ 1109), (0, u "java/lang/Comparable"), (0, .class_ 1111), (0, u "java/lang/constant/Constable"), (0, .class_ 1113), (0, u "java/lang/constant/ConstantDesc"), (2, u "serialVersionUID"), (0, u "J"), (3, u "REPL"), (0, u "C"), (2, u "LATIN1"), (1, u "UTF16")] 323

def k11m0 : Method := { name := "<init>", desc := "()V", sig := { parameters := [], returnType := none }, accessFlags := 1, code := none }
/-- java/lang/String -/
def k11 : Class := { plain "java/lang/String" (some 0) with
  accessFlags := 49
  interfaces := #[4, 3, 9, 2, 10]
  cf := some (fileOf pool11 10 #[.nestMembers #[1103]] #[{ accessFlags := 1, nameIndex := 5, descriptorIndex := 6, attributes := #[] }] 49 2 #[1106, 1108, 575, 1110, 1112] #[{ accessFlags := 18, nameIndex := 13, descriptorIndex := 14, attributes := #[] }, { accessFlags := 18, nameIndex := 17, descriptorIndex := 18, attributes := #[] }, { accessFlags := 2, nameIndex := 21, descriptorIndex := 22, attributes := #[] }, { accessFlags := 2, nameIndex := 25, descriptorIndex := 26, attributes := #[] }, { accessFlags := 26, nameIndex := 1116, descriptorIndex := 1117, attributes := #[] }, { accessFlags := 24, nameIndex := 40, descriptorIndex := 26, attributes := #[] }, { accessFlags := 26, nameIndex := 1101, descriptorIndex := 1102, attributes := #[] }, { accessFlags := 26, nameIndex := 1121, descriptorIndex := 1122, attributes := #[] }, { accessFlags := 25, nameIndex := 599, descriptorIndex := 600, attributes := #[] }, { accessFlags := 24, nameIndex := 1125, descriptorIndex := 18, attributes := #[] }, { accessFlags := 24, nameIndex := 1127, descriptorIndex := 18, attributes := #[] }])
  fields := #[{ name := "value", type := (.array .byte), accessFlags := 18, slot := 0, constantValue := 0 }, { name := "coder", type := .byte, accessFlags := 18, slot := 1, constantValue := 0 }, { name := "hash", type := .int, accessFlags := 2, slot := 2, constantValue := 0 }, { name := "hashIsZero", type := .boolean, accessFlags := 2, slot := 3, constantValue := 0 }, { name := "serialVersionUID", type := .long, accessFlags := 26, slot := 0, constantValue := 0 }, { name := "COMPACT_STRINGS", type := .boolean, accessFlags := 24, slot := 1, constantValue := 0 }, { name := "serialPersistentFields", type := (.array (.object "java/io/ObjectStreamField")), accessFlags := 26, slot := 2, constantValue := 0 }, { name := "REPL", type := .char, accessFlags := 26, slot := 3, constantValue := 0 }, { name := "CASE_INSENSITIVE_ORDER", type := (.object "java/util/Comparator"), accessFlags := 25, slot := 4, constantValue := 0 }, { name := "LATIN1", type := .byte, accessFlags := 24, slot := 5, constantValue := 0 }, { name := "UTF16", type := .byte, accessFlags := 24, slot := 6, constantValue := 0 }]
  methods := #[k11m0]
  instanceTypes := #[(.array .byte), .byte, .int, .boolean]
  staticTypes := #[.long, .boolean, (.array (.object "java/io/ObjectStreamField")), .char, (.object "java/util/Comparator"), .byte, .byte]
  resolved := Array.replicate 1451 none
  statics := none }

def pool12 : Array CpInfo := pool [(2, .class_ 4), (1, u "java/lang/Object"), (0, u "<init>"), (0, u "()V"), (35, .class_ 44), (1, u "java/util/Objects"), (0, u "requireNonNull"), (48, u "(Ljava/lang/Object;Ljava/lang/String;)Ljava/lang/Object;")] 89

def k12m0 : Method := { name := "<init>", desc := "()V", sig := { parameters := [], returnType := none }, accessFlags := 2, code := none }
def k12c1 : Code := { maxStack := 3, maxLocals := 2, code := jdk_31_method_11_code, exceptionTable := #[], attributes := #[] }
def k12m1 : Method := { name := "requireNonNull", desc := "(Ljava/lang/Object;Ljava/lang/String;)Ljava/lang/Object;", sig := { parameters := [(.object "java/lang/Object"), (.object "java/lang/String")], returnType := some (.object "java/lang/Object") }, accessFlags := 9, code := some k12c1 }
/-- java/util/Objects -/
def k12 : Class := { plain "java/util/Objects" (some 0) with
  accessFlags := 49
  interfaces := #[]
  cf := some (fileOf pool12 42 #[] #[{ accessFlags := 2, nameIndex := 5, descriptorIndex := 6, attributes := #[] }, { accessFlags := 9, nameIndex := 45, descriptorIndex := 94, attributes := #[] }] 49 2 #[] #[])
  fields := #[]
  methods := #[k12m0, k12m1]
  instanceTypes := #[]
  staticTypes := #[]
  resolved := Array.replicate 184 none
  statics := none }

def pool13 : Array CpInfo := pool [(1, .class_ 2), (0, u "com/example/retrying_transactions/retryingtransactions/boundary/Isolation"), (2, u "DEFAULT"), (0, u "Lcom/example/retrying_transactions/retryingtransactions/boundary/Isolation;"), (2, u "READ_UNCOMMITTED"), (2, u "READ_COMMITTED"), (2, u "REPEATABLE_READ"), (2, u "SERIALIZABLE"), (2, u "$VALUES"), (0, u "[Lcom/example/retrying_transactions/retryingtransactions/boundary/Isolation;"), (6, .class_ 31), (1, u "java/lang/Enum"), (8, u "jdbcLevel"), (0, u "Ljava/util/OptionalInt;")] 87

/-- com/example/retrying_transactions/retryingtransactions/boundary/Isolation -/
def k13 : Class := { plain "com/example/retrying_transactions/retryingtransactions/boundary/Isolation" (some 5) with
  accessFlags := 16433
  interfaces := #[]
  cf := some (fileOf pool13 1 #[] #[] 16433 29 #[] #[{ accessFlags := 16409, nameIndex := 5, descriptorIndex := 6, attributes := #[] }, { accessFlags := 16409, nameIndex := 9, descriptorIndex := 6, attributes := #[] }, { accessFlags := 16409, nameIndex := 12, descriptorIndex := 6, attributes := #[] }, { accessFlags := 16409, nameIndex := 15, descriptorIndex := 6, attributes := #[] }, { accessFlags := 16409, nameIndex := 18, descriptorIndex := 6, attributes := #[] }, { accessFlags := 18, nameIndex := 40, descriptorIndex := 41, attributes := #[] }, { accessFlags := 4122, nameIndex := 21, descriptorIndex := 22, attributes := #[] }])
  fields := #[{ name := "DEFAULT", type := (.object "com/example/retrying_transactions/retryingtransactions/boundary/Isolation"), accessFlags := 16409, slot := 0, constantValue := 0 }, { name := "READ_UNCOMMITTED", type := (.object "com/example/retrying_transactions/retryingtransactions/boundary/Isolation"), accessFlags := 16409, slot := 1, constantValue := 0 }, { name := "READ_COMMITTED", type := (.object "com/example/retrying_transactions/retryingtransactions/boundary/Isolation"), accessFlags := 16409, slot := 2, constantValue := 0 }, { name := "REPEATABLE_READ", type := (.object "com/example/retrying_transactions/retryingtransactions/boundary/Isolation"), accessFlags := 16409, slot := 3, constantValue := 0 }, { name := "SERIALIZABLE", type := (.object "com/example/retrying_transactions/retryingtransactions/boundary/Isolation"), accessFlags := 16409, slot := 4, constantValue := 0 }, { name := "jdbcLevel", type := (.object "java/util/OptionalInt"), accessFlags := 18, slot := 3, constantValue := 0 }, { name := "$VALUES", type := (.array (.object "com/example/retrying_transactions/retryingtransactions/boundary/Isolation")), accessFlags := 4122, slot := 5, constantValue := 0 }]
  methods := #[]
  instanceTypes := #[(.object "java/lang/String"), .int, .int, (.object "java/util/OptionalInt")]
  staticTypes := #[(.object "com/example/retrying_transactions/retryingtransactions/boundary/Isolation"), (.object "com/example/retrying_transactions/retryingtransactions/boundary/Isolation"), (.object "com/example/retrying_transactions/retryingtransactions/boundary/Isolation"), (.object "com/example/retrying_transactions/retryingtransactions/boundary/Isolation"), (.object "com/example/retrying_transactions/retryingtransactions/boundary/Isolation"), (.array (.object "com/example/retrying_transactions/retryingtransactions/boundary/Isolation"))]
  resolved := Array.replicate 129 none
  statics := some 1 }

def pool14 : Array CpInfo := pool [(2, .class_ 4), (1, u "java/lang/Object"), (3, .class_ 10), (1, u "com/example/retrying_transactions/retryingtransactions/rollback/RollbackRule"), (0, u "rollbackOn"), (0, u "Ljava/util/List;"), (2, u "dontRollbackOn"), (0, .fieldref 8 17), (0, .nameAndType 18 19), (0, u "STANDARD"), (0, u "Lcom/example/retrying_transactions/retryingtransactions/rollback/RollbackRule;"), (70, u "standard"), (0, u "()Lcom/example/retrying_transactions/retryingtransactions/rollback/RollbackRule;")] 36

def k14c0 : Code := { maxStack := 1, maxLocals := 0, code := prog_33_method_2_code, exceptionTable := #[], attributes := #[] }
def k14m0 : Method := { name := "standard", desc := "()Lcom/example/retrying_transactions/retryingtransactions/rollback/RollbackRule;", sig := { parameters := [], returnType := some (.object "com/example/retrying_transactions/retryingtransactions/rollback/RollbackRule") }, accessFlags := 9, code := some k14c0 }
/-- com/example/retrying_transactions/retryingtransactions/rollback/RollbackRule -/
def k14 : Class := { plain "com/example/retrying_transactions/retryingtransactions/rollback/RollbackRule" (some 0) with
  accessFlags := 33
  interfaces := #[]
  cf := some (fileOf pool14 8 #[] #[{ accessFlags := 9, nameIndex := 90, descriptorIndex := 91, attributes := #[] }] 33 2 #[] #[{ accessFlags := 26, nameIndex := 18, descriptorIndex := 19, attributes := #[] }, { accessFlags := 18, nameIndex := 11, descriptorIndex := 12, attributes := #[] }, { accessFlags := 18, nameIndex := 15, descriptorIndex := 12, attributes := #[] }])
  fields := #[{ name := "STANDARD", type := (.object "com/example/retrying_transactions/retryingtransactions/rollback/RollbackRule"), accessFlags := 26, slot := 0, constantValue := 0 }, { name := "rollbackOn", type := (.object "java/util/List"), accessFlags := 18, slot := 0, constantValue := 0 }, { name := "dontRollbackOn", type := (.object "java/util/List"), accessFlags := 18, slot := 1, constantValue := 0 }]
  methods := #[k14m0]
  instanceTypes := #[(.object "java/util/List"), (.object "java/util/List")]
  staticTypes := #[(.object "com/example/retrying_transactions/retryingtransactions/rollback/RollbackRule")]
  resolved := Array.replicate 128 none
  statics := some 2 }

def pool15 : Array CpInfo := pool [(1, u "java/lang/Cloneable"), (0, .class_ 1), (0, u "java/lang/Object"), (0, .class_ 3)] 3

/-- java/lang/Cloneable -/
def k15 : Class := { plain "java/lang/Cloneable" (some 0) with
  accessFlags := 1537
  interfaces := #[]
  cf := some (fileOf pool15 2 #[] #[] 1537 4 #[] #[])
  fields := #[]
  methods := #[]
  instanceTypes := #[]
  staticTypes := #[]
  resolved := Array.replicate 8 none
  statics := none }

/-- the primitive byte -/
def k16 : Class := { plain "byte" none with kind := .primitive 'B', accessFlags := 0x411 }
/-- [B -/
def k17 : Class := { plain "[B" (some 0) with kind := .array 16 .byte, interfaces := #[15, 4], accessFlags := 1041 }

/-- the primitive int -/
def k18 : Class := { plain "int" none with kind := .primitive 'I', accessFlags := 0x411 }
/-- [I -/
def k19 : Class := { plain "[I" (some 0) with kind := .array 18 .int, interfaces := #[15, 4], accessFlags := 1041 }

def heap : Heap := #[{ cls := 6, slots := #[.ref 3, .ref 4, .ref 5, .ref 6, .ref 7, .ref 8, .ref 9, .null], vm := .statics 6 },
  { cls := 13, slots := #[.ref 10, .null, .null, .null, .null, .null], vm := .statics 13 },
  { cls := 14, slots := #[.ref 11], vm := .statics 14 },
  { cls := 6, slots := #[.null, .int 0, .int 0], vm := .none },
  { cls := 6, slots := #[.null, .int 1, .int 0], vm := .none },
  { cls := 6, slots := #[.null, .int 2, .int 0], vm := .none },
  { cls := 6, slots := #[.null, .int 3, .int 0], vm := .none },
  { cls := 6, slots := #[.null, .int 4, .int 0], vm := .none },
  { cls := 6, slots := #[.null, .int 5, .int 0], vm := .none },
  { cls := 6, slots := #[.null, .int 6, .int 0], vm := .none },
  { cls := 13, slots := #[.null, .int 0, .int 0, .null], vm := .none },
  { cls := 14, slots := #[.null, .null], vm := .none }]
def classes : Array Class := #[k0, k1, k2, k3, k4, k5, k6, k7, k8, k9, k10, k11, k12, k13, k14, k15, k16, k17, k18, k19]
def interned : List (Array UInt16 × Addr) := []
def slotsUsed : Nat := 42
def theMethod : MethodId := ⟨1, 1⟩
def args0 : Array Value := #[.int 3]
def aboutOver (below : List Frame) : State where
  vm := { classes := classes, interned := interned.toArray }
  heap := heap
  slotsUsed := slotsUsed
  threads := #[{ frames := .invoking theMethod args0 :: below }]
def below0 : List Frame := [.native { method := ⟨0, 0⟩, args := #[] }]
def about1 : State := aboutOver below0
def p0 : Program := .bare "" "" ""
def e0 : Env := launch0.env 0 0 0
theorem w_frames : about1.frames = Frame.invoking theMethod args0 :: below0 := rfl
set_option maxRecDepth 65536 in
theorem w_args : argsFit about1.vm theMethod args0 = true := by decide +kernel
set_option maxRecDepth 65536 in
theorem w_heap : heapFits about1 = true := by decide +kernel
set_option maxRecDepth 65536 in
theorem w_runnable : about1.curStatus? = some .runnable := by decide +kernel
set_option maxRecDepth 65536 in
theorem w_alone : about1.alone = true := by decide +kernel
set_option maxRecDepth 65536 in
theorem w_named : about1.methodNamed? x = some theMethod := by decide +kernel
set_option maxRecDepth 65536 in
theorem w_hears : about1.hears theMethod below0 = true := by decide +kernel
set_option maxRecDepth 65536 in
theorem w_ripe : about1.ripe theMethod args0 below0 = true := by decide +kernel
theorem w_running : about1.status = .running := rfl
set_option maxRecDepth 65536 in
theorem w_room : about1.hasRoom e0.platform room_1 = true :=
  launch0.hasRoom_least _ room_1 (by decide +kernel) (by decide +kernel) (by decide +kernel) (by decide +kernel) (by decide +kernel) (by decide +kernel)
theorem allAtoms_all (ts : List Jvm.Cond) (a : Array Jvm.Value) (st : Jvm.State) : (allAtoms ts).before a st = ts.all (fun c => c.before a st) := by
  induction ts with
  | nil => rfl
  | cons c t ih =>
    show (Jvm.Cond.and c (allAtoms t)).before a st = _
    rw [Jvm.Cond.before_and, ih, List.all_cons]
def words1 : List Jvm.Cond := Jvm.Cond.code x code maxLocals ret :: tables_1
/-- a 'code' word, met by the world's own term for the bytes: nothing is compared byte by byte -/
theorem code_word {y : MethodName} {bytes : ByteArray} {mx : Nat} {rt : Option FieldType} {a : Array Value} {s : State} {m : MethodId} {meth : Method} {c : Code} (h1 : s.methodNamed? y = some m) (h2 : s.vm.method? m = some meth) (h3 : meth.code = some c) (h4 : c.code = bytes)
    (h5 : (c.maxLocals == mx && c.exceptionTable.isEmpty && decide (c.maxStack ≤ mostOperands) && decide (meth.sig.returnType = rt) && !meth.locks && decide (parseMethodDescriptor y.desc = some meth.sig)) = true) : (Jvm.Cond.code y bytes mx rt).before a s = true := by
  simp only [Bool.and_eq_true, beq_iff_eq, Bool.not_eq_true', decide_eq_true_eq] at h5
  obtain ⟨⟨⟨⟨⟨g1, g2⟩, g3⟩, g4⟩, g5⟩, g6⟩ := h5
  simp [Cond.before, Cond.holds, Cond.value, h1, h2, h3, h4, g1, g2, g3, g4, g5, g6]
def isCode : Jvm.Cond → Bool
  | .code _ _ _ _ => true
  | _ => false
theorem all_split {L : List Jvm.Cond} {P : Jvm.Cond → Bool} (h1 : L.all (fun c => isCode c || P c) = true) (h2 : ∀ c ∈ L.filter isCode, P c = true) : L.all P = true := by
  refine List.all_eq_true.mpr fun c hc => ?_
  have h := List.all_eq_true.mp h1 c hc
  rcases Bool.eq_false_or_eq_true (isCode c) with hi | hi
  · exact h2 c (List.mem_filter.mpr ⟨hc, hi⟩)
  · simpa [hi] using h
set_option maxRecDepth 65536 in
theorem w_c0 : (Jvm.Cond.code x code maxLocals ret).before args0 about1 = true := code_word (m := ⟨1, 1⟩) (meth := k1m1) (c := k1c1) (by decide +kernel) rfl rfl rfl (by decide +kernel)
set_option maxRecDepth 65536 in
theorem w_c1 : (Jvm.Cond.code ({ cls := "com/example/retrying_transactions/retryingtransactions/boundary/BoundaryOfPinLaw", name := "pick", desc := "(I)Lcom/example/retrying_transactions/retryingtransactions/boundary/Propagation;" } : Jvm.MethodName) method_3_code (1 : Nat) (Option.some (Jvm.ClassFile.FieldType.object "com/example/retrying_transactions/retryingtransactions/boundary/Propagation"))).before args0 about1 = true := code_word (m := ⟨1, 2⟩) (meth := k1m2) (c := k1c2) (by decide +kernel) rfl rfl rfl (by decide +kernel)
set_option maxRecDepth 65536 in
theorem w_c2 : (Jvm.Cond.code ({ cls := "com/example/retrying_transactions/retryingtransactions/boundary/Boundary", name := "of", desc := "(Lcom/example/retrying_transactions/retryingtransactions/boundary/Propagation;)Lcom/example/retrying_transactions/retryingtransactions/boundary/Boundary;" } : Jvm.MethodName) prog_7_method_3_code (1 : Nat) (Option.some (Jvm.ClassFile.FieldType.object "com/example/retrying_transactions/retryingtransactions/boundary/Boundary"))).before args0 about1 = true := code_word (m := ⟨7, 1⟩) (meth := k7m1) (c := k7c1) (by decide +kernel) rfl rfl rfl (by decide +kernel)
set_option maxRecDepth 65536 in
theorem w_c3 : (Jvm.Cond.code ({ cls := "java/util/Objects", name := "requireNonNull", desc := "(Ljava/lang/Object;Ljava/lang/String;)Ljava/lang/Object;" } : Jvm.MethodName) jdk_31_method_11_code (2 : Nat) (Option.some (Jvm.ClassFile.FieldType.object "java/lang/Object"))).before args0 about1 = true := code_word (m := ⟨12, 1⟩) (meth := k12m1) (c := k12c1) (by decide +kernel) rfl rfl rfl (by decide +kernel)
set_option maxRecDepth 65536 in
theorem w_c4 : (Jvm.Cond.code ({ cls := "com/example/retrying_transactions/retryingtransactions/boundary/Boundary$Draft", name := "<init>", desc := "(Lcom/example/retrying_transactions/retryingtransactions/boundary/Propagation;)V" } : Jvm.MethodName) prog_8_method_1_code (2 : Nat) (Option.none : Option Jvm.ClassFile.FieldType)).before args0 about1 = true := code_word (m := ⟨8, 0⟩) (meth := k8m0) (c := k8c0) (by decide +kernel) rfl rfl rfl (by decide +kernel)
set_option maxRecDepth 65536 in
theorem w_c5 : (Jvm.Cond.code ({ cls := "java/lang/Object", name := "<init>", desc := "()V" } : Jvm.MethodName) object_method_1_code (1 : Nat) (Option.none : Option Jvm.ClassFile.FieldType)).before args0 about1 = true := code_word (m := ⟨0, 0⟩) (meth := k0m0) (c := k0c0) (by decide +kernel) rfl rfl rfl (by decide +kernel)
set_option maxRecDepth 65536 in
theorem w_c6 : (Jvm.Cond.code ({ cls := "com/example/retrying_transactions/retryingtransactions/rollback/RollbackRule", name := "standard", desc := "()Lcom/example/retrying_transactions/retryingtransactions/rollback/RollbackRule;" } : Jvm.MethodName) prog_33_method_2_code (0 : Nat) (Option.some (Jvm.ClassFile.FieldType.object "com/example/retrying_transactions/retryingtransactions/rollback/RollbackRule"))).before args0 about1 = true := code_word (m := ⟨14, 0⟩) (meth := k14m0) (c := k14c0) (by decide +kernel) rfl rfl rfl (by decide +kernel)
set_option maxRecDepth 65536 in
theorem w_c7 : (Jvm.Cond.code ({ cls := "com/example/retrying_transactions/retryingtransactions/boundary/Boundary", name := "<init>", desc := "(Lcom/example/retrying_transactions/retryingtransactions/boundary/Boundary$Draft;)V" } : Jvm.MethodName) prog_7_method_1_code (2 : Nat) (Option.none : Option Jvm.ClassFile.FieldType)).before args0 about1 = true := code_word (m := ⟨7, 0⟩) (meth := k7m0) (c := k7c0) (by decide +kernel) rfl rfl rfl (by decide +kernel)
set_option maxRecDepth 65536 in
theorem w_c8 : (Jvm.Cond.code ({ cls := "com/example/retrying_transactions/retryingtransactions/boundary/Boundary", name := "propagation", desc := "()Lcom/example/retrying_transactions/retryingtransactions/boundary/Propagation;" } : Jvm.MethodName) prog_7_method_10_code (1 : Nat) (Option.some (Jvm.ClassFile.FieldType.object "com/example/retrying_transactions/retryingtransactions/boundary/Propagation"))).before args0 about1 = true := code_word (m := ⟨7, 2⟩) (meth := k7m2) (c := k7c2) (by decide +kernel) rfl rfl rfl (by decide +kernel)
set_option maxRecDepth 65536 in
theorem w_c9 : (Jvm.Cond.code ({ cls := "com/example/retrying_transactions/retryingtransactions/boundary/Boundary", name := "isolation", desc := "()Lcom/example/retrying_transactions/retryingtransactions/boundary/Isolation;" } : Jvm.MethodName) prog_7_method_11_code (1 : Nat) (Option.some (Jvm.ClassFile.FieldType.object "com/example/retrying_transactions/retryingtransactions/boundary/Isolation"))).before args0 about1 = true := code_word (m := ⟨7, 3⟩) (meth := k7m3) (c := k7c3) (by decide +kernel) rfl rfl rfl (by decide +kernel)
set_option maxRecDepth 65536 in
theorem w_c10 : (Jvm.Cond.code ({ cls := "com/example/retrying_transactions/retryingtransactions/boundary/Boundary", name := "isReadOnly", desc := "()Z" } : Jvm.MethodName) prog_7_method_12_code (1 : Nat) (Option.some Jvm.ClassFile.FieldType.boolean)).before args0 about1 = true := code_word (m := ⟨7, 4⟩) (meth := k7m4) (c := k7c4) (by decide +kernel) rfl rfl rfl (by decide +kernel)
def codes1 : List Jvm.Cond := [Jvm.Cond.code x code maxLocals ret, Jvm.Cond.code ({ cls := "com/example/retrying_transactions/retryingtransactions/boundary/BoundaryOfPinLaw", name := "pick", desc := "(I)Lcom/example/retrying_transactions/retryingtransactions/boundary/Propagation;" } : Jvm.MethodName) method_3_code (1 : Nat) (Option.some (Jvm.ClassFile.FieldType.object "com/example/retrying_transactions/retryingtransactions/boundary/Propagation")), Jvm.Cond.code ({ cls := "com/example/retrying_transactions/retryingtransactions/boundary/Boundary", name := "of", desc := "(Lcom/example/retrying_transactions/retryingtransactions/boundary/Propagation;)Lcom/example/retrying_transactions/retryingtransactions/boundary/Boundary;" } : Jvm.MethodName) prog_7_method_3_code (1 : Nat) (Option.some (Jvm.ClassFile.FieldType.object "com/example/retrying_transactions/retryingtransactions/boundary/Boundary")), Jvm.Cond.code ({ cls := "java/util/Objects", name := "requireNonNull", desc := "(Ljava/lang/Object;Ljava/lang/String;)Ljava/lang/Object;" } : Jvm.MethodName) jdk_31_method_11_code (2 : Nat) (Option.some (Jvm.ClassFile.FieldType.object "java/lang/Object")), Jvm.Cond.code ({ cls := "com/example/retrying_transactions/retryingtransactions/boundary/Boundary$Draft", name := "<init>", desc := "(Lcom/example/retrying_transactions/retryingtransactions/boundary/Propagation;)V" } : Jvm.MethodName) prog_8_method_1_code (2 : Nat) (Option.none : Option Jvm.ClassFile.FieldType), Jvm.Cond.code ({ cls := "java/lang/Object", name := "<init>", desc := "()V" } : Jvm.MethodName) object_method_1_code (1 : Nat) (Option.none : Option Jvm.ClassFile.FieldType), Jvm.Cond.code ({ cls := "com/example/retrying_transactions/retryingtransactions/rollback/RollbackRule", name := "standard", desc := "()Lcom/example/retrying_transactions/retryingtransactions/rollback/RollbackRule;" } : Jvm.MethodName) prog_33_method_2_code (0 : Nat) (Option.some (Jvm.ClassFile.FieldType.object "com/example/retrying_transactions/retryingtransactions/rollback/RollbackRule")), Jvm.Cond.code ({ cls := "com/example/retrying_transactions/retryingtransactions/boundary/Boundary", name := "<init>", desc := "(Lcom/example/retrying_transactions/retryingtransactions/boundary/Boundary$Draft;)V" } : Jvm.MethodName) prog_7_method_1_code (2 : Nat) (Option.none : Option Jvm.ClassFile.FieldType), Jvm.Cond.code ({ cls := "com/example/retrying_transactions/retryingtransactions/boundary/Boundary", name := "propagation", desc := "()Lcom/example/retrying_transactions/retryingtransactions/boundary/Propagation;" } : Jvm.MethodName) prog_7_method_10_code (1 : Nat) (Option.some (Jvm.ClassFile.FieldType.object "com/example/retrying_transactions/retryingtransactions/boundary/Propagation")), Jvm.Cond.code ({ cls := "com/example/retrying_transactions/retryingtransactions/boundary/Boundary", name := "isolation", desc := "()Lcom/example/retrying_transactions/retryingtransactions/boundary/Isolation;" } : Jvm.MethodName) prog_7_method_11_code (1 : Nat) (Option.some (Jvm.ClassFile.FieldType.object "com/example/retrying_transactions/retryingtransactions/boundary/Isolation")), Jvm.Cond.code ({ cls := "com/example/retrying_transactions/retryingtransactions/boundary/Boundary", name := "isReadOnly", desc := "()Z" } : Jvm.MethodName) prog_7_method_12_code (1 : Nat) (Option.some Jvm.ClassFile.FieldType.boolean)]
set_option maxRecDepth 65536 in
theorem codes_eq : words1.filter isCode = codes1 := rfl
theorem w_codes : ∀ c ∈ words1.filter isCode, c.before args0 about1 = true := by
  rw [codes_eq]
  intro c hc
  simp only [codes1, List.mem_cons, List.not_mem_nil, or_false] at hc
  rcases hc with rfl | rfl | rfl | rfl | rfl | rfl | rfl | rfl | rfl | rfl | rfl
  · exact w_c0
  · exact w_c1
  · exact w_c2
  · exact w_c3
  · exact w_c4
  · exact w_c5
  · exact w_c6
  · exact w_c7
  · exact w_c8
  · exact w_c9
  · exact w_c10
set_option maxRecDepth 65536 in
theorem w_t1 : (words1.take 24).all (fun c => isCode c || c.before args0 about1) = true := by decide +kernel
set_option maxRecDepth 65536 in
theorem w_t2 : ((words1.drop 24).take 24).all (fun c => isCode c || c.before args0 about1) = true := by decide +kernel
set_option maxRecDepth 65536 in
theorem w_t3 : (((words1.drop 24).drop 24).take 24).all (fun c => isCode c || c.before args0 about1) = true := by decide +kernel
set_option maxRecDepth 65536 in
theorem w_t4 : ((((words1.drop 24).drop 24).drop 24).take 24).all (fun c => isCode c || c.before args0 about1) = true := by decide +kernel
set_option maxRecDepth 65536 in
theorem w_t5 : ((((words1.drop 24).drop 24).drop 24).drop 24).all (fun c => isCode c || c.before args0 about1) = true := by decide +kernel
theorem w_tables : (allAtoms (Jvm.Cond.code x code maxLocals ret :: tables_1)).before args0 about1 = true := by
  rw [allAtoms_all]
  show words1.all (fun c => c.before args0 about1) = true
  refine all_split ?_ w_codes
  rw [← List.take_append_drop 24 words1, List.all_append, w_t1, ← List.take_append_drop 24 (words1.drop 24), List.all_append, w_t2, ← List.take_append_drop 24 ((words1.drop 24).drop 24), List.all_append, w_t3, ← List.take_append_drop 24 (((words1.drop 24).drop 24).drop 24), List.all_append, w_t4, w_t5]
  rfl
set_option maxRecDepth 65536 in
theorem w_case : (Jvm.Cond.and given_1 narrow_1).before args0 about1 = true := by decide +kernel
theorem w_applies : (headSpec (Jvm.Cond.code x code maxLocals ret :: tables_1) room_1).applies x e0.platform about1 = true :=
  (Spec.applies_iff w_frames).mpr ⟨w_running, w_runnable, w_alone, w_named, w_hears, w_ripe, w_room, w_tables⟩
theorem atStart : AtStart classFile x code maxLocals ret World_1 tables_1 room_1 Calls_1 rest_1 Pre_1 launch0 p0 e0 about1 theMethod args0 below0 :=
  ⟨lists_1, trivial, launch0.admits_env _ _ _, launch0.least_env, fairChoices_fair.cas, fairChoices_fair.clock, w_frames, w_args, w_heap, w_applies, trivial, trivial, w_case⟩
end start1
theorem witness_1 : WitnessClaimed_1 := ⟨start1.p0, start1.e0, start1.about1, start1.theMethod, start1.args0, start1.below0, start1.atStart⟩
end Jvm.Pilot.@@N@@
