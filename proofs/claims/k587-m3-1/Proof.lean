import JvmDerived
import JvmDerived.Pilot.@@N@@Statement
import JvmDerived.Pilot.@@N@@Code
@@BLOCK:NumsL.lean.txt@@
set_option linter.unusedVariables false
set_option linter.unusedSimpArgs false
namespace Jvm.Pilot.@@N@@
open Jvm Jvm.ClassFile Sem Op Lib Jvm.Free Jvm.Stand Jvm.LawKit Jvm.RoadKit Bundle Jvm.Pilot.@@N@@.Jvm.D
abbrev own_m0 : MethodName := ⟨"java/lang/Math", "max", "(II)I"⟩
abbrev own_m1 : MethodName := ⟨"com/example/sams/sams/Slicing", "<init>", "(Lcom/example/sams/sams/Slicing$Span;I)V"⟩
abbrev own_m2 : MethodName := ⟨"com/example/sams/sams/Slicing", "oldestKept", "(J)J"⟩
section OwnPre
variable {p : Program} {l : Launch} {e : Env} {R : Room} {s : State} {m : MethodId} {args : Array Value} {below : List Frame} {meth : Method} {c : Code} {T : State} {locs : List Loc} {cells slots : Nat} {Z : State} {h h' : Heap}
/-- from A the run comes to an end of which P holds -/
def own_G (p : Program) (e : Env) (below : List Frame) (A : State) (P : State → Outcome → Prop) : Prop := ∃ s₂ o, Steps p.tables e below A s₂ ∧ P s₂ o
def own_P (s : State) (below : List Frame) (C S : Nat) (Q : Option Value → Heap → List Loc → Prop) (s₂ : State) (o : Outcome) : Prop := s₂.status = .running ∧ Ended s₂ below o ∧ ∃ v L, o = .returned v ∧ Q v s₂.heap L ∧ FrameEnd s o s₂ L C S
def own_PW (s : State) (below : List Frame) (C S : Nat) (Q : Option Value → Heap → List Loc → Prop) (s₂ : State) (o : Outcome) : Prop := s₂.status = .running ∧ Ended s₂ below o ∧ ∃ v L, o = .returned v ∧ Q v s₂.heap L ∧ ReturnedEndW s o s₂ L C S
theorem own_go {A B : State} {P : State → Outcome → Prop} (k : ∀ t, Steps p.tables e below B t → Steps p.tables e below A t) (g : own_G p e below B P) : own_G p e below A P := by
  obtain ⟨s, o, h, r⟩ := g; exact ⟨s, o, k _ h, r⟩
theorem own_tr {A B : State} {P : State → Outcome → Prop} (k : Steps p.tables e below A B) (g : own_G p e below B P) : own_G p e below A P := own_go (fun _ h => k.trans h) g
theorem own_start {C S : Nat} {Q : Option Value → Heap → List Loc → Prop} {g g' : JFrame} (q : g = g') (k : own_G p e below (T.setTop g') (own_P s below C S Q)) :
    ∃ s₂ o, Steps p.tables e below (T.setTop g) s₂ ∧ s₂.status = .running ∧ Ended s₂ below o ∧ ∃ v L, o = .returned v ∧ Q v s₂.heap L ∧ FrameEnd s o s₂ L C S := q ▸ k
theorem own_startW {C S : Nat} {Q : Option Value → Heap → List Loc → Prop} {g g' : JFrame} (q : g = g') (k : own_G p e below (T.setTop g') (own_PW s below C S Q)) :
    ∃ s₂ o, Steps p.tables e below (T.setTop g) s₂ ∧ s₂.status = .running ∧ Ended s₂ below o ∧ ∃ v L, o = .returned v ∧ Q v s₂.heap L ∧ ReturnedEndW s o s₂ L C S := q ▸ k
theorem own_ret (X : Stand p l e R s m args below meth c T locs cells slots) (hx : p.tables.exec = Jvm.exec) {pc : Nat} {Ls : Array Slot} {w : Value} {t : FieldType} {i : Instr} {rest : List Value} (hret : meth.sig.returnType = some t) (hn : narrow t w = w)
    (hi : (i = .ireturn ∧ (t = .int ∨ t = .boolean ∨ t = .byte ∨ t = .char ∨ t = .short) ∧ ∃ z, w = .int z) ∨ (i = .lreturn ∧ t = .long ∧ ∃ z, w = .long z) ∨ (i = .dreturn ∧ t = .double ∧ ∃ z, w = .double z) ∨ (i = .freturn ∧ t = .float ∧ ∃ z, w = .float z) ∨ (i = .areturn ∧ t.isReference = true ∧ w.isRef = true))
    (hd : decode c.code pc = .ok (i, 1)) (hlocks : meth.locks = false) {C S : Nat} {Q : Option Value → Heap → List Loc → Prop} (hC : cells ≤ C) (hS : slots ≤ S) (hQ : Q (some w) T.heap locs) :
    own_G p e below (T.setTop (mkF m pc Ls (w :: rest))) (own_P s below C S Q) := by
  obtain ⟨fs, hr, hrun, hended, hW, hsame⟩ := X.leave (v := some w) (fun h => by rw [hret] at h; cases h) hlocks
  exact ⟨_, _, retOut X hx hret hn hi hd hr, hrun, hended, _, _, rfl, hQ, ⟨_, rfl⟩, hW, hsame.mono hC hS⟩
theorem own_retV (X : Stand p l e R s m args below meth c T locs cells slots) (hx : p.tables.exec = Jvm.exec) {pc : Nat} {Ls : Array Slot} (hret : meth.sig.returnType = none) (hd : decode c.code pc = .ok (.return_, 1)) (hlocks : meth.locks = false)
    {C S : Nat} {Q : Option Value → Heap → List Loc → Prop} (hC : cells ≤ C) (hS : slots ≤ S) (hQ : Q none T.heap locs) : own_G p e below (T.setTop (mkF m pc Ls [])) (own_P s below C S Q) := by
  obtain ⟨fs, hr, hrun, hended, hW, hsame⟩ := X.leave (v := none) (fun _ => rfl) hlocks
  exact ⟨_, _, X.returnOut hx hret hd hr, hrun, hended, _, _, rfl, hQ, ⟨_, rfl⟩, hW, hsame.mono hC hS⟩
theorem own_retW {vm₁ : Vm} (X : Stand p l e R (s.setVm vm₁) m args below meth c T locs cells slots) {n : Nat} (hSi : s.Since vm₁ n) (hn' : n ≤ T.heap.size) (hx : p.tables.exec = Jvm.exec) {pc : Nat} {Ls : Array Slot} {w : Value} {t : FieldType} {i : Instr} {rest : List Value} (hret : meth.sig.returnType = some t) (hn : narrow t w = w)
    (hi : (i = .ireturn ∧ (t = .int ∨ t = .boolean ∨ t = .byte ∨ t = .char ∨ t = .short) ∧ ∃ z, w = .int z) ∨ (i = .lreturn ∧ t = .long ∧ ∃ z, w = .long z) ∨ (i = .dreturn ∧ t = .double ∧ ∃ z, w = .double z) ∨ (i = .freturn ∧ t = .float ∧ ∃ z, w = .float z) ∨ (i = .areturn ∧ t.isReference = true ∧ w.isRef = true))
    (hd : decode c.code pc = .ok (i, 1)) (hlocks : meth.locks = false) {C S : Nat} {Q : Option Value → Heap → List Loc → Prop} (hC : cells ≤ C) (hS : slots ≤ S) (hQ : Q (some w) T.heap locs) :
    own_G p e below (T.setTop (mkF m pc Ls (w :: rest))) (own_PW s below C S Q) := by
  obtain ⟨fs, hr, hrun, hended, hW⟩ := (X.mono hC hS).leaveW hSi hn' (v := some w) (fun h => by rw [hret] at h; cases h) hlocks
  exact ⟨_, _, retOut X hx hret hn hi hd hr, hrun, hended, _, _, rfl, hQ, hW⟩
theorem own_retVW {vm₁ : Vm} (X : Stand p l e R (s.setVm vm₁) m args below meth c T locs cells slots) {n : Nat} (hSi : s.Since vm₁ n) (hn' : n ≤ T.heap.size) (hx : p.tables.exec = Jvm.exec) {pc : Nat} {Ls : Array Slot} (hret : meth.sig.returnType = none) (hd : decode c.code pc = .ok (.return_, 1)) (hlocks : meth.locks = false)
    {C S : Nat} {Q : Option Value → Heap → List Loc → Prop} (hC : cells ≤ C) (hS : slots ≤ S) (hQ : Q none T.heap locs) : own_G p e below (T.setTop (mkF m pc Ls [])) (own_PW s below C S Q) := by
  obtain ⟨fs, hr, hrun, hended, hW⟩ := (X.mono hC hS).leaveW hSi hn' (v := none) (fun _ => rfl) hlocks
  exact ⟨_, _, X.returnOut hx hret hd hr, hrun, hended, _, _, rfl, hQ, hW⟩
theorem own_ext_refl (h : Heap) : Ext h h := ⟨Nat.le_refl _, fun _ _ q => q⟩
theorem own_ext_trans {h1 h2 h3 : Heap} (A : Ext h1 h2) (B : Ext h2 h3) : Ext h1 h3 := ⟨Nat.le_trans A.1 B.1, fun a c q => B.2 a c (A.2 a c q)⟩
theorem own_ext_keep {h0 : Heap} {ws : List Addr} (O : Ext h0 h) (K : Keep h h' ws) (q : ∀ x ∈ ws, h0.size ≤ x) : Ext h0 h' := ⟨Nat.le_trans O.1 K.1, fun x c r => K.2.1 x c (O.2 x c r) fun z => absurd (Array.getElem?_eq_some_iff.mp r).1 (Nat.not_lt.mpr (q x z))⟩
theorem own_ext_wr {h0 : Heap} {a : Addr} {sl : Nat} {v : Value} (O : Ext h0 h) (W : Wr h h' a sl v) (q : h0.size ≤ a) : Ext h0 h' := own_ext_keep O (Keep.of_wr W) (allS q all0)
theorem own_fld_ne {a b : Addr} {C n d : String} {v w : Value} (F : Fld Z h a C n d v) (G : Fld Z h b C n d w) (q : v ≠ w) : a ≠ b := fun e => by
  subst e
  obtain ⟨c1, cf, k, i, f, h1, h2, -, -, -, -, h7⟩ := F
  obtain ⟨c2, cf', k', i', f', g1, g2, -, -, -, -, g7⟩ := G
  cases h1.symm.trans g1
  cases h2.symm.trans g2
  exact q (Option.some.inj (h7.symm.trans g7))
theorem own_getR (X : Stand p l e R s m args below meth c T locs cells slots) (hx : p.tables.exec = Jvm.exec) (hZ : Z.Warmed39 s.vm) {a0 : Array Value} {own R0 O n d : String} {index : Nat} (hown : s.vm.findClass own = some m.cls) (w : (Cond.fieldRef own index R0 n d).before a0 Z = true) (via : Via Z R0 O n d)
    (eT : T.heap = h) {a : Addr} {v : Value} (F : Fld Z h a O n d v) {g : JFrame} (hg : g.method = m) {rest : List Value} (hs : g.stack = .ref a :: rest) (hd : decode c.code g.pc = .ok (.getfield index, 3)) :
    ∀ target, Steps p.tables e below (T.setTop { g with pc := g.pc + 3, stack := v :: rest }) target → Steps p.tables e below (T.setTop g) target := by
  obtain ⟨cell, cf, k, i, f, h1, h2, h3, h4, -, -, h7⟩ := F
  have hi := via _ h2
  have hT : Z.Warmed39 T.vm := wtrans hZ X.warmed
  have hownZ : Z.vm.findClass own = some m.cls := by rw [← hZ.alike.findClass]; exact hown
  have hr : Z.resolvedAt? own index = some (.field cf i) := by
    simp only [Cond.before, Cond.holds, Cond.value, hownZ, hi, beq_iff_eq, Option.some.injEq, Bool.and_eq_true] at w
    obtain ⟨-, w⟩ := w
    split at w
    · rename_i c' i' hr; simp only [Bool.and_eq_true, beq_iff_eq] at w; obtain ⟨rfl, rfl⟩ := w; exact hr
    · cases w
  have hr' := State.resolvedAt?_warmed39 hT hr
  have hownT : T.vm.findClass own = some m.cls := by rw [hT.alike.findClass]; exact hownZ
  obtain ⟨k', hi', -⟩ := State.fieldFound?_setVm (s := Z) hT.alike hi
  obtain ⟨hk, hf⟩ := State.fieldFound?_spec hi'
  have hready : T.vm.fieldReady m.cls index cf f := by
    simp only [State.resolvedAt?, State.vm_setVm, hownT, Option.bind_eq_bind, Option.bind_some, Option.bind_eq_some_iff] at hr'
    obtain ⟨kc, hkc, hr'⟩ := hr'
    refine ⟨kc, i, k', hkc, ?_, hk, hf⟩
    cases hx : kc.resolved[index]? with
    | none => simp [hx] at hr'
    | some y => simp only [hx, Option.join_some] at hr'; rw [hr']
  intro target hrest
  subst hg
  jvm_step X.here [hx, hd, getfield.wp_ready (e := e) (s := T) (f := g) X.here.top hready h3 hs (show T.heap[a]? = some cell by rw [eT]; exact h1) h4 h7]
  exact hrest
theorem own_selfPriv {s : State} {args args' : Array Value} {y : MethodName} {n : Nat} (wi : (Cond.instantiable y.cls n).before args' s = true) (hp : s.PrivateAt y) (hi : (Cond.instanceMethod y).before args s = true) (hy : y.cls ≠ "java/lang/invoke/MethodHandle" ∧ y.cls ≠ "java/lang/invoke/VarHandle") : (Cond.selects y.cls y y).before args s = true := by
  obtain ⟨c, k, h1, h2, -, h4, -⟩ := Cond.instantiable_spec wi
  exact Jvm.Stand.selects_self_of_private h1 h2 (by simp only [Bool.or_eq_false_iff] at h4; exact h4.1) hp hi hy
theorem own_bool (z : Int32) (h : z = 0 ∨ z = 1) : narrow .boolean (.int z) = .int z := by rcases h with rfl | rfl <;> rfl
theorem own_hw {Z : State} {a0 : Array Value} {ws : List Jvm.Cond} (hw : ∀ d ∈ ws, d.before a0 Z = true) (i : Nat) {d : Jvm.Cond} (h : ws[i]? = some d) : d.before a0 Z = true := hw d (List.mem_of_getElem? h)
end OwnPre

def own_max (x y : Int32) : Int32 := if x < y then y else x
theorem own_R (p : Int32) : 1 ≤ (own_max (1 : Int32) (p &&& (2147483647 : Int32))).toInt := by
  have h1 : (1 : Int32).toInt = 1 := by decide
  unfold own_max
  split
  · rename_i h; rw [Int32.lt_iff_toInt_lt, h1] at h; omega
  · omega
theorem own_R1 (p : Int32) : ¬ (own_max (1 : Int32) (p &&& (2147483647 : Int32)) < (1 : Int32)) := by
  have h1 : (1 : Int32).toInt = 1 := by decide
  have := own_R p
  rw [Int32.lt_iff_toInt_lt, h1]; omega
theorem own_back {R : Int32} (h : 1 ≤ R.toInt) : (R - (1 : Int32)).toInt64 = R.toInt64 - (1 : Int64) := by
  have h1 : (1 : Int32).toInt = 1 := by decide
  have h2 : (1 : Int64).toInt = 1 := by decide
  have h3 := R.toInt_lt
  apply Int64.toInt_inj.mp
  rw [Jvm.Kit.i64_of_i32, Jvm.Kit.i32_sub (by omega) (by omega), Jvm.Kit.i64_sub (by rw [Jvm.Kit.i64_of_i32]; omega) (by rw [Jvm.Kit.i64_of_i32]; omega), Jvm.Kit.i64_of_i32, h1, h2]
theorem own_le {N s : Int64} {R : Int32} (hN : 0 ≤ N.toInt) (h : 1 ≤ R.toInt) (s0 : 0 ≤ s.toInt) (s1 : s.toInt ≤ 86400) : ¬ (N < N - (R.toInt64 - (1 : Int64)) * s) := by
  have h2 : (1 : Int64).toInt = 1 := by decide
  have h3 := R.toInt_lt
  have h4 := N.toInt_lt
  have e1 : (R.toInt64 - (1 : Int64)).toInt = R.toInt - 1 := by rw [Jvm.Kit.i64_sub (by rw [Jvm.Kit.i64_of_i32]; omega) (by rw [Jvm.Kit.i64_of_i32]; omega), Jvm.Kit.i64_of_i32, h2]
  have e2 : 0 ≤ (R.toInt - 1) * s.toInt := Int.mul_nonneg (by omega) s0
  have e3 : (R.toInt - 1) * s.toInt ≤ 2147483647 * 86400 := Int.mul_le_mul (by omega) s1 s0 (by omega)
  have e4 : ((R.toInt64 - (1 : Int64)) * s).toInt = (R.toInt - 1) * s.toInt := by rw [Jvm.Kit.i64_mul (by rw [e1]; omega) (by rw [e1]; omega), e1]
  rw [Int64.lt_iff_toInt_lt, Jvm.Kit.i64_sub (by rw [e4]; omega) (by rw [e4]; omega), e4]
  omega
theorem own_eq {N s : Int64} {R : Int32} (h : 1 ≤ R.toInt) : N - (R.toInt64 - (1 : Int64)) * s + (R - (1 : Int32)).toInt64 * s = N := by
  rw [own_back h]; exact Int64.sub_add_cancel ..
theorem own_one {N s : Int64} : N - ((1 : Int32).toInt64 - (1 : Int64)) * s = N := by
  have : (1 : Int32).toInt64 - (1 : Int64) = 0 := by decide
  rw [this, Int64.zero_mul, Int64.sub_zero]
theorem own_N (p : Int64) : 0 ≤ (p &&& (9223372036854775807 : Int64)).toInt := by
  rw [Jvm.Kit.i64_mask p 9223372036854775807 (k := 63) (by decide) (by decide)]; omega
theorem ef_own_maxM (m : MethodId) (x0 : Int32) (x1 : Int32) : entryFrame m #[(.int x0), (.int x1)] 2 = mkF m 0 #[.val (.int x0), .val (.int x1)] [] := by first | (simp [entryFrame, mkF, argsToLocals, Value.category]; done) | rfl
theorem pf_own_maxM : plainFor own_m0 = true := by decide +kernel
theorem d_jdk_29_method_65_code_0 : decode jdk_29_method_65_code 0 = .ok (.iload_n 0, 1) := by decide +kernel
theorem d_jdk_29_method_65_code_1 : decode jdk_29_method_65_code 1 = .ok (.iload_n 1, 1) := by decide +kernel
theorem d_jdk_29_method_65_code_10 : decode jdk_29_method_65_code 10 = .ok (.ireturn, 1) := by decide +kernel
theorem d_jdk_29_method_65_code_2 : decode jdk_29_method_65_code 2 = .ok (.if_icmp .lt 7, 3) := by decide +kernel
theorem d_jdk_29_method_65_code_5 : decode jdk_29_method_65_code 5 = .ok (.iload_n 0, 1) := by decide +kernel
theorem d_jdk_29_method_65_code_6 : decode jdk_29_method_65_code 6 = .ok (.goto 4, 3) := by decide +kernel
theorem d_jdk_29_method_65_code_9 : decode jdk_29_method_65_code 9 = .ok (.iload_n 1, 1) := by decide +kernel
def Q_own_maxM (Z : State) (x : Int32) (y : Int32) (h0 : Heap) (v : Option Value) (h : Heap) (L : List Loc) : Prop := v = some (.int (own_max x y)) ∧ Fr Z.heap.size L ∧ h = h0
set_option maxRecDepth 65536 in
set_option maxHeartbeats 40000000 in
theorem own_maxM (l : Launch) (Z : State) (a0 : Array Value) (hw : ∀ d ∈ tables_1, d.before a0 Z = true) (ws : List Jvm.Cond) (x : Int32) (y : Int32) (h0 : Heap) (O0 : Ext Z.heap h0) :
    MetFree l own_m0 (head1 (Jvm.Cond.code own_m0 jdk_29_method_65_code 2 (some .int) :: ws) ({ frames := 0, cells := 0, slots := 0, locals := 0 } : Room)) (fun aa U => aa = #[(.int x), (.int y)] ∧ Z.Warmed39 U.vm ∧ U.heap = h0) (fun _ _ _ _ _ => True) (fun _ U o U' => ∃ v L, o = .returned v ∧ Q_own_maxM Z x y h0 v U'.heap L ∧ FrameEnd U o U' L ({ frames := 0, cells := 0, slots := 0, locals := 0 } : Room).cells ({ frames := 0, cells := 0, slots := 0, locals := 0 } : Room).slots) := by
  refine MetFree.of_bodySF pf_own_maxM hisR ?_
  intro p e s m args below meth c s₁ Bd hml0 hP hK
  obtain ⟨rfl, hZ, hh⟩ := hP
  have hx := Bd.exec
  have hby := Bd.bytes
  have hlk := BodyLoose.notSynchronized Bd
  have hml : c.maxLocals = 2 := hml0
  have hown : s.vm.findClass "java/lang/Math" = some m.cls := findClass_of_methodNamed Bd.named
  have hnm := (name_of_methodNamed Bd.named Bd.method).1
  have X0 : Stand p l e ({ frames := 0, cells := 0, slots := 0, locals := 0 } : Room) s m #[(.int x), (.int y)] below meth c s₁ [] 0 0 := Stand.of_body Bd
  have e0 : s₁.heap = h0 := by rw [← hh, Bd.state]; rfl
  have N0 := Fr.nil Z.heap.size
  have K0 : Keep h0 h0 [] := Keep.refl _ _
  refine own_start (Q := Q_own_maxM Z x y h0) (ef_own_maxM m (x) (y)) ?_
  show own_G p e below (s₁.setTop (mkF m 0 #[.val (.int x), .val (.int y)] [])) _
  refine own_go (fun t k => XS.iloadN X0.here hx rfl (hb hby d_jdk_29_method_65_code_0) rfl k) ?_
  show own_G p e below (s₁.setTop (mkF m 1 #[.val (.int x), .val (.int y)] [(.int x)])) _
  refine own_go (fun t k => XS.iloadN X0.here hx rfl (hb hby d_jdk_29_method_65_code_1) rfl k) ?_
  show own_G p e below (s₁.setTop (mkF m 2 #[.val (.int x), .val (.int y)] [(.int y), (.int x)])) _
  by_cases hc1z : x < y
  · refine own_go (fun t k => XS.icmpYes X0.here hx rfl (pc0 := 2) (pc' := 9) rfl (hb hby d_jdk_29_method_65_code_2) rfl (tlt hc1z).1 (by decide) (by decide) k) ?_
    show own_G p e below (s₁.setTop (mkF m 9 #[.val (.int x), .val (.int y)] [])) _
    refine own_go (fun t k => XS.iloadN X0.here hx rfl (hb hby d_jdk_29_method_65_code_9) rfl k) ?_
    show own_G p e below (s₁.setTop (mkF m 10 #[.val (.int x), .val (.int y)] [(.int y)])) _
    exact own_ret X0 hx Bd.returns rfl (Or.inl ⟨rfl, Or.inl rfl, _, rfl⟩) (hb hby d_jdk_29_method_65_code_10) hlk (Nat.le_of_ble_eq_true rfl) (Nat.le_of_ble_eq_true rfl) (by show Q_own_maxM Z x y h0 _ s₁.heap _; rw [e0]; exact ⟨(by simp [own_max, hc1z]), N0, rfl⟩)
  · refine own_go (fun t k => XS.icmpNo X0.here hx rfl (hb hby d_jdk_29_method_65_code_2) rfl (flt hc1z).1 k) ?_
    show own_G p e below (s₁.setTop (mkF m 5 #[.val (.int x), .val (.int y)] [])) _
    refine own_go (fun t k => XS.iloadN X0.here hx rfl (hb hby d_jdk_29_method_65_code_5) rfl k) ?_
    show own_G p e below (s₁.setTop (mkF m 6 #[.val (.int x), .val (.int y)] [(.int x)])) _
    refine own_go (fun t k => XS.goto X0.here hx rfl (pc0 := 6) (pc' := 10) rfl (hb hby d_jdk_29_method_65_code_6) (by decide) (by decide) k) ?_
    show own_G p e below (s₁.setTop (mkF m 10 #[.val (.int x), .val (.int y)] [(.int x)])) _
    exact own_ret X0 hx Bd.returns rfl (Or.inl ⟨rfl, Or.inl rfl, _, rfl⟩) (hb hby d_jdk_29_method_65_code_10) hlk (Nat.le_of_ble_eq_true rfl) (Nat.le_of_ble_eq_true rfl) (by show Q_own_maxM Z x y h0 _ s₁.heap _; rw [e0]; exact ⟨(by simp [own_max, hc1z]), N0, rfl⟩)
theorem ef_own_init (m : MethodId) (x0 : Addr) (x1 : Addr) (x2 : Int32) : entryFrame m #[(.ref x0), (.ref x1), (.int x2)] 3 = mkF m 0 #[.val (.ref x0), .val (.ref x1), .val (.int x2)] [] := by first | (simp [entryFrame, mkF, argsToLocals, Value.category]; done) | rfl
theorem pf_own_init : plainFor own_m1 = true := plainFor_of_name (by simp [plainName, overriddenIn])
theorem d_prog_14_method_1_code_0 : decode prog_14_method_1_code 0 = .ok (.aload_n 0, 1) := by decide +kernel
theorem d_prog_14_method_1_code_1 : decode prog_14_method_1_code 1 = .ok (.invokespecial 1, 3) := by decide +kernel
theorem d_prog_14_method_1_code_33 : decode prog_14_method_1_code 33 = .ok (.aload_n 0, 1) := by decide +kernel
theorem d_prog_14_method_1_code_34 : decode prog_14_method_1_code 34 = .ok (.aload_n 1, 1) := by decide +kernel
theorem d_prog_14_method_1_code_35 : decode prog_14_method_1_code 35 = .ok (.putfield 26, 3) := by decide +kernel
theorem d_prog_14_method_1_code_38 : decode prog_14_method_1_code 38 = .ok (.aload_n 0, 1) := by decide +kernel
theorem d_prog_14_method_1_code_39 : decode prog_14_method_1_code 39 = .ok (.iload_n 2, 1) := by decide +kernel
theorem d_prog_14_method_1_code_4 : decode prog_14_method_1_code 4 = .ok (.iload_n 2, 1) := by decide +kernel
theorem d_prog_14_method_1_code_40 : decode prog_14_method_1_code 40 = .ok (.putfield 32, 3) := by decide +kernel
theorem d_prog_14_method_1_code_43 : decode prog_14_method_1_code 43 = .ok (.return_, 1) := by decide +kernel
theorem d_prog_14_method_1_code_5 : decode prog_14_method_1_code 5 = .ok (.iconst 1, 1) := by decide +kernel
theorem d_prog_14_method_1_code_6 : decode prog_14_method_1_code 6 = .ok (.if_icmp .ge 27, 3) := by decide +kernel
def Q_own_init (Z : State) (a : Addr) (sp : Addr) (r : Int32) (h0 : Heap) (v : Option Value) (h : Heap) (L : List Loc) : Prop := v = none ∧ Fr Z.heap.size L ∧ Keep h0 h [a] ∧ (Exa Z h a "com/example/sams/sams/Slicing") ∧ (Fld Z h a "com/example/sams/sams/Slicing" "span" "Lcom/example/sams/sams/Slicing$Span;" (.ref sp)) ∧ (Fld Z h a "com/example/sams/sams/Slicing" "retain" "I" (.int r))
set_option maxRecDepth 65536 in
set_option maxHeartbeats 40000000 in
theorem own_init (l : Launch) (Z : State) (a0 : Array Value) (hw : ∀ d ∈ tables_1, d.before a0 Z = true) (ws : List Jvm.Cond) (a : Addr) (sp : Addr) (r : Int32) (h0 : Heap) (O0 : Ext Z.heap h0) (q0 : Exa Z h0 a "com/example/sams/sams/Slicing") (q1 : Fld Z h0 a "com/example/sams/sams/Slicing" "span" "Lcom/example/sams/sams/Slicing$Span;" .null) (q2 : Fld Z h0 a "com/example/sams/sams/Slicing" "retain" "I" (.int (0 : Int32))) (q3 : Z.heap.size ≤ a) (hr : ¬ (r < (1 : Int32))) :
    MetFree l own_m1 (head1 (Jvm.Cond.code own_m1 prog_14_method_1_code 3 none :: ws) ({ frames := 1, cells := 0, slots := 0, locals := 12 } : Room)) (fun aa U => aa = #[(.ref a), (.ref sp), (.int r)] ∧ Z.Warmed39 U.vm ∧ U.heap = h0) (fun _ _ _ _ _ => True) (fun _ U o U' => ∃ v L, o = .returned v ∧ Q_own_init Z a sp r h0 v U'.heap L ∧ FrameEnd U o U' L ({ frames := 1, cells := 0, slots := 0, locals := 12 } : Room).cells ({ frames := 1, cells := 0, slots := 0, locals := 12 } : Room).slots) := by
  refine MetFree.of_bodySF pf_own_init hisR ?_
  intro p e s m args below meth c s₁ Bd hml0 hP hK
  obtain ⟨rfl, hZ, hh⟩ := hP
  have hx := Bd.exec
  have hby := Bd.bytes
  have hlk := BodyLoose.notSynchronized Bd
  have hml : c.maxLocals = 3 := hml0
  have hown : s.vm.findClass "com/example/sams/sams/Slicing" = some m.cls := findClass_of_methodNamed Bd.named
  have hnm := (name_of_methodNamed Bd.named Bd.method).1
  have X0 : Stand p l e ({ frames := 1, cells := 0, slots := 0, locals := 12 } : Room) s m #[(.ref a), (.ref sp), (.int r)] below meth c s₁ [] 0 0 := Stand.of_body Bd
  have e0 : s₁.heap = h0 := by rw [← hh, Bd.state]; rfl
  have N0 := Fr.nil Z.heap.size
  have K0 : Keep h0 h0 [a] := Keep.refl _ _
  refine own_start (Q := Q_own_init Z a sp r h0) (ef_own_init m (a) (sp) (r)) ?_
  show own_G p e below (s₁.setTop (mkF m 0 #[.val (.ref a), .val (.ref sp), .val (.int r)] [])) _
  refine own_go (fun t k => XS.aloadN X0.here hx rfl (hb hby d_prog_14_method_1_code_0) rfl rfl k) ?_
  show own_G p e below (s₁.setTop (mkF m 1 #[.val (.ref a), .val (.ref sp), .val (.int r)] [(.ref a)])) _
  obtain ⟨T1z, X1z, e1z, st1z⟩ := initO X0 hx hZ hown (own_hw hw 16 rfl) (own_hw hw 17 rfl) (own_hw hw 18 rfl) e0 (g := (mkF m 1 #[.val (.ref a), .val (.ref sp), .val (.int r)] [(.ref a)])) rfl (by rw [hml]; rfl) rfl (hb hby d_prog_14_method_1_code_1) (by decide) (W := 0) (by show 2 * 0 + _ ≤ _; exact Nat.le_of_eq rfl) (by decide)
  refine own_go st1z ?_
  show own_G p e below (T1z.setTop (mkF m 4 #[.val (.ref a), .val (.ref sp), .val (.int r)] [])) _
  refine own_go (fun t k => XS.iloadN X1z.here hx rfl (hb hby d_prog_14_method_1_code_4) rfl k) ?_
  show own_G p e below (T1z.setTop (mkF m 5 #[.val (.ref a), .val (.ref sp), .val (.int r)] [(.int r)])) _
  refine own_go (fun t k => XS.iconst X1z.here hx rfl (hb hby d_prog_14_method_1_code_5) k) ?_
  show own_G p e below (T1z.setTop (mkF m 6 #[.val (.ref a), .val (.ref sp), .val (.int r)] [(.int (1 : Int32)), (.int r)])) _
  refine own_go (fun t k => XS.icmpYes X1z.here hx rfl (pc0 := 6) (pc' := 33) rfl (hb hby d_prog_14_method_1_code_6) rfl (flt hr).2.1 (by decide) (by decide) k) ?_
  show own_G p e below (T1z.setTop (mkF m 33 #[.val (.ref a), .val (.ref sp), .val (.int r)] [])) _
  refine own_go (fun t k => XS.aloadN X1z.here hx rfl (hb hby d_prog_14_method_1_code_33) rfl rfl k) ?_
  show own_G p e below (T1z.setTop (mkF m 34 #[.val (.ref a), .val (.ref sp), .val (.int r)] [(.ref a)])) _
  refine own_go (fun t k => XS.aloadN X1z.here hx rfl (hb hby d_prog_14_method_1_code_34) rfl rfl k) ?_
  show own_G p e below (T1z.setTop (mkF m 35 #[.val (.ref a), .val (.ref sp), .val (.int r)] [(.ref sp), (.ref a)])) _
  obtain ⟨T2z, h2z, X2z, e2z, W2z, st2z⟩ := putF X1z hx hZ hown (host := "") (Or.inl (own_hw hw 19 rfl)) Via.refl e1z q1 q0 (Or.inr ⟨(own_hw hw 20 rfl), rfl, hnm⟩) (own_hw hw 11 rfl) (ty := (.object "com/example/sams/sams/Slicing$Span")) (by decide) rfl rfl (g := (mkF m 35 #[.val (.ref a), .val (.ref sp), .val (.int r)] [(.ref sp), (.ref a)])) rfl rfl (hb hby d_prog_14_method_1_code_35)
  refine own_go st2z ?_
  have N2z := Fr.snoc X2z N0 q3
  have F2z : Fld Z h2z a "com/example/sams/sams/Slicing" "span" "Lcom/example/sams/sams/Slicing$Span;" (.ref sp) := q1.same W2z
  have O3z : Ext Z.heap h2z := own_ext_wr O0 W2z q3
  have K3z : Keep h0 h2z [a] := K0.wr W2z (Or.inl (List.mem_of_getElem? (i := 0) rfl))
  show own_G p e below (T2z.setTop (mkF m 38 #[.val (.ref a), .val (.ref sp), .val (.int r)] [])) _
  refine own_go (fun t k => XS.aloadN X2z.here hx rfl (hb hby d_prog_14_method_1_code_38) rfl rfl k) ?_
  show own_G p e below (T2z.setTop (mkF m 39 #[.val (.ref a), .val (.ref sp), .val (.int r)] [(.ref a)])) _
  refine own_go (fun t k => XS.iloadN X2z.here hx rfl (hb hby d_prog_14_method_1_code_39) rfl k) ?_
  show own_G p e below (T2z.setTop (mkF m 40 #[.val (.ref a), .val (.ref sp), .val (.int r)] [(.int r), (.ref a)])) _
  have f4z := (q2.other W2z (Or.inr (slot_ne (Or.inr (own_hw hw 22 rfl)) (Or.inr (own_hw hw 20 rfl)) (by decide) (t := .int) (t' := (.object "com/example/sams/sams/Slicing$Span")) (by decide) (by decide))))
  obtain ⟨T5z, h5z, X5z, e5z, W5z, st5z⟩ := putF X2z hx hZ hown (host := "") (Or.inl (own_hw hw 21 rfl)) Via.refl e2z f4z (q0.wr W2z) (Or.inr ⟨(own_hw hw 22 rfl), rfl, hnm⟩) (own_hw hw 11 rfl) (ty := .int) (by decide) rfl rfl (g := (mkF m 40 #[.val (.ref a), .val (.ref sp), .val (.int r)] [(.int r), (.ref a)])) rfl rfl (hb hby d_prog_14_method_1_code_40)
  refine own_go st5z ?_
  have N5z := Fr.snoc X5z N2z q3
  have F5z : Fld Z h5z a "com/example/sams/sams/Slicing" "retain" "I" (.int r) := f4z.same W5z
  have O6z : Ext Z.heap h5z := own_ext_wr O3z W5z q3
  have K6z : Keep h0 h5z [a] := K3z.wr W5z (Or.inl (List.mem_of_getElem? (i := 0) rfl))
  show own_G p e below (T5z.setTop (mkF m 43 #[.val (.ref a), .val (.ref sp), .val (.int r)] [])) _
  have f7z := (F2z.other W5z (Or.inr (slot_ne (Or.inr (own_hw hw 20 rfl)) (Or.inr (own_hw hw 22 rfl)) (by decide) (t := (.object "com/example/sams/sams/Slicing$Span")) (t' := .int) (by decide) (by decide))))
  exact own_retV X5z hx Bd.returns (hb hby d_prog_14_method_1_code_43) hlk (Nat.le_of_ble_eq_true rfl) (Nat.le_of_ble_eq_true rfl) (by show Q_own_init Z a sp r h0 _ T5z.heap _; rw [e5z]; exact ⟨rfl, N5z, K6z, ((q0.wr W2z).wr W5z), f7z, F5z⟩)
theorem ef_own_old (m : MethodId) (x0 : Addr) (x1 : Int64) : entryFrame m #[(.ref x0), (.long x1)] 3 = mkF m 0 #[.val (.ref x0), .val (.long x1), .second] [] := by first | (simp [entryFrame, mkF, argsToLocals, Value.category]; done) | rfl
theorem pf_own_old : plainFor own_m2 = true := plainFor_of_name (by simp [plainName, overriddenIn])
theorem d_prog_14_method_5_code_0 : decode prog_14_method_5_code 0 = .ok (.lload_n 1, 1) := by decide +kernel
theorem d_prog_14_method_5_code_1 : decode prog_14_method_5_code 1 = .ok (.aload_n 0, 1) := by decide +kernel
theorem d_prog_14_method_5_code_12 : decode prog_14_method_5_code 12 = .ok (.getfield 43, 3) := by decide +kernel
theorem d_prog_14_method_5_code_15 : decode prog_14_method_5_code 15 = .ok (.lmul, 1) := by decide +kernel
theorem d_prog_14_method_5_code_16 : decode prog_14_method_5_code 16 = .ok (.lsub, 1) := by decide +kernel
theorem d_prog_14_method_5_code_17 : decode prog_14_method_5_code 17 = .ok (.lreturn, 1) := by decide +kernel
theorem d_prog_14_method_5_code_2 : decode prog_14_method_5_code 2 = .ok (.getfield 32, 3) := by decide +kernel
theorem d_prog_14_method_5_code_5 : decode prog_14_method_5_code 5 = .ok (.i2l, 1) := by decide +kernel
theorem d_prog_14_method_5_code_6 : decode prog_14_method_5_code 6 = .ok (.lconst 1, 1) := by decide +kernel
theorem d_prog_14_method_5_code_7 : decode prog_14_method_5_code 7 = .ok (.lsub, 1) := by decide +kernel
theorem d_prog_14_method_5_code_8 : decode prog_14_method_5_code 8 = .ok (.aload_n 0, 1) := by decide +kernel
theorem d_prog_14_method_5_code_9 : decode prog_14_method_5_code 9 = .ok (.getfield 26, 3) := by decide +kernel
def Q_own_old (Z : State) (a : Addr) (n : Int64) (r : Int32) (sp : Addr) (sec : Int64) (h0 : Heap) (v : Option Value) (h : Heap) (L : List Loc) : Prop := v = some (.long (n - ((r.toInt64 - (1 : Int64)) * sec))) ∧ Fr Z.heap.size L ∧ h = h0
set_option maxRecDepth 65536 in
set_option maxHeartbeats 40000000 in
theorem own_old (l : Launch) (Z : State) (a0 : Array Value) (hw : ∀ d ∈ tables_1, d.before a0 Z = true) (ws : List Jvm.Cond) (a : Addr) (n : Int64) (r : Int32) (sp : Addr) (sec : Int64) (h0 : Heap) (O0 : Ext Z.heap h0) (q0 : Fld Z h0 a "com/example/sams/sams/Slicing" "retain" "I" (.int r)) (q1 : Fld Z h0 a "com/example/sams/sams/Slicing" "span" "Lcom/example/sams/sams/Slicing$Span;" (.ref sp)) (FS : Fld Z Z.heap sp "com/example/sams/sams/Slicing$Span" "seconds" "J" (.long sec)) :
    MetFree l own_m2 (head1 (Jvm.Cond.code own_m2 prog_14_method_5_code 3 (some .long) :: ws) ({ frames := 0, cells := 0, slots := 0, locals := 0 } : Room)) (fun aa U => aa = #[(.ref a), (.long n)] ∧ Z.Warmed39 U.vm ∧ U.heap = h0) (fun _ _ _ _ _ => True) (fun _ U o U' => ∃ v L, o = .returned v ∧ Q_own_old Z a n r sp sec h0 v U'.heap L ∧ FrameEnd U o U' L ({ frames := 0, cells := 0, slots := 0, locals := 0 } : Room).cells ({ frames := 0, cells := 0, slots := 0, locals := 0 } : Room).slots) := by
  refine MetFree.of_bodySF pf_own_old hisR ?_
  intro p e s m args below meth c s₁ Bd hml0 hP hK
  obtain ⟨rfl, hZ, hh⟩ := hP
  have hx := Bd.exec
  have hby := Bd.bytes
  have hlk := BodyLoose.notSynchronized Bd
  have hml : c.maxLocals = 3 := hml0
  have hown : s.vm.findClass "com/example/sams/sams/Slicing" = some m.cls := findClass_of_methodNamed Bd.named
  have hnm := (name_of_methodNamed Bd.named Bd.method).1
  have X0 : Stand p l e ({ frames := 0, cells := 0, slots := 0, locals := 0 } : Room) s m #[(.ref a), (.long n)] below meth c s₁ [] 0 0 := Stand.of_body Bd
  have e0 : s₁.heap = h0 := by rw [← hh, Bd.state]; rfl
  have N0 := Fr.nil Z.heap.size
  have K0 : Keep h0 h0 [] := Keep.refl _ _
  refine own_start (Q := Q_own_old Z a n r sp sec h0) (ef_own_old m (a) (n)) ?_
  show own_G p e below (s₁.setTop (mkF m 0 #[.val (.ref a), .val (.long n), .second] [])) _
  refine own_go (fun t k => XS.lloadN X0.here hx rfl (hb hby d_prog_14_method_5_code_0) rfl k) ?_
  show own_G p e below (s₁.setTop (mkF m 1 #[.val (.ref a), .val (.long n), .second] [(.long n)])) _
  refine own_go (fun t k => XS.aloadN X0.here hx rfl (hb hby d_prog_14_method_5_code_1) rfl rfl k) ?_
  show own_G p e below (s₁.setTop (mkF m 2 #[.val (.ref a), .val (.long n), .second] [(.ref a), (.long n)])) _
  obtain ⟨T1z, X1z, e1z, st1z⟩ := getF X0 hx hZ hown (host := "") (Or.inl (own_hw hw 21 rfl)) Via.refl e0 q0 (g := (mkF m 2 #[.val (.ref a), .val (.long n), .second] [(.ref a), (.long n)])) rfl rfl (hb hby d_prog_14_method_5_code_2)
  refine own_go st1z ?_
  show own_G p e below (T1z.setTop (mkF m 5 #[.val (.ref a), .val (.long n), .second] [(.int r), (.long n)])) _
  refine own_go (fun t k => XS.i2l X1z.here hx rfl (hb hby d_prog_14_method_5_code_5) rfl k) ?_
  show own_G p e below (T1z.setTop (mkF m 6 #[.val (.ref a), .val (.long n), .second] [(.long ((r).toInt64)), (.long n)])) _
  refine own_go (fun t k => XS.lconst X1z.here hx rfl (hb hby d_prog_14_method_5_code_6) k) ?_
  show own_G p e below (T1z.setTop (mkF m 7 #[.val (.ref a), .val (.long n), .second] [(.long (1 : Int64)), (.long ((r).toInt64)), (.long n)])) _
  refine own_go (fun t k => XS.lsub X1z.here hx rfl (hb hby d_prog_14_method_5_code_7) rfl k) ?_
  show own_G p e below (T1z.setTop (mkF m 8 #[.val (.ref a), .val (.long n), .second] [(.long (((r).toInt64) - (1 : Int64))), (.long n)])) _
  refine own_go (fun t k => XS.aloadN X1z.here hx rfl (hb hby d_prog_14_method_5_code_8) rfl rfl k) ?_
  show own_G p e below (T1z.setTop (mkF m 9 #[.val (.ref a), .val (.long n), .second] [(.ref a), (.long (((r).toInt64) - (1 : Int64))), (.long n)])) _
  obtain ⟨T2z, X2z, e2z, st2z⟩ := getF X1z hx hZ hown (host := "") (Or.inl (own_hw hw 19 rfl)) Via.refl e1z q1 (g := (mkF m 9 #[.val (.ref a), .val (.long n), .second] [(.ref a), (.long (((r).toInt64) - (1 : Int64))), (.long n)])) rfl rfl (hb hby d_prog_14_method_5_code_9)
  refine own_go st2z ?_
  show own_G p e below (T2z.setTop (mkF m 12 #[.val (.ref a), .val (.long n), .second] [(.ref sp), (.long (((r).toInt64) - (1 : Int64))), (.long n)])) _
  refine own_go (own_getR X2z hx hZ hown (own_hw hw 28 rfl) Via.refl e2z (FS.ext O0) (g := (mkF m 12 #[.val (.ref a), .val (.long n), .second] [(.ref sp), (.long (((r).toInt64) - (1 : Int64))), (.long n)])) rfl rfl (hb hby d_prog_14_method_5_code_12)) ?_
  show own_G p e below (T2z.setTop (mkF m 15 #[.val (.ref a), .val (.long n), .second] [(.long sec), (.long (((r).toInt64) - (1 : Int64))), (.long n)])) _
  refine own_go (fun t k => XS.lmul X2z.here hx rfl (hb hby d_prog_14_method_5_code_15) rfl k) ?_
  show own_G p e below (T2z.setTop (mkF m 16 #[.val (.ref a), .val (.long n), .second] [(.long ((((r).toInt64) - (1 : Int64)) * sec)), (.long n)])) _
  refine own_go (fun t k => XS.lsub X2z.here hx rfl (hb hby d_prog_14_method_5_code_16) rfl k) ?_
  show own_G p e below (T2z.setTop (mkF m 17 #[.val (.ref a), .val (.long n), .second] [(.long (n - ((((r).toInt64) - (1 : Int64)) * sec)))])) _
  exact own_ret X2z hx Bd.returns rfl (Or.inr (Or.inl ⟨rfl, rfl, _, rfl⟩)) (hb hby d_prog_14_method_5_code_17) hlk (Nat.le_of_ble_eq_true rfl) (Nat.le_of_ble_eq_true rfl) (by show Q_own_old Z a n r sp sec h0 _ T2z.heap _; rw [e2z]; exact ⟨rfl, N0, rfl⟩)
theorem ef_own_law (m : MethodId) (x0 : Int64) (x1 : Int32) (x2 : Int32) : entryFrame m #[(.long x0), (.int x1), (.int x2)] maxLocals = mkF m 0 #[.val (.long x0), .second, .val (.int x1), .val (.int x2), .unset, .unset, .unset, .unset, .unset, .unset, .unset, .unset, .unset, .unset, .unset, .unset, .unset, .unset] [] := by first | (simp [entryFrame, mkF, argsToLocals, Value.category, maxLocals]; done) | rfl
theorem pf_own_law : plainFor x = true := plainFor_of_name (by simp [plainName, overriddenIn, x])
theorem pd_184293393 : parseMethodDescriptor "(II)I" = some ⟨[.int, .int], some .int⟩ := by decide +kernel
theorem pd_305282378 : parseMethodDescriptor "(Lcom/example/sams/sams/Slicing$Span;I)V" = some ⟨[(.object "com/example/sams/sams/Slicing$Span"), .int], none⟩ := by decide +kernel
theorem pd_2087993098 : parseMethodDescriptor "(J)J" = some ⟨[.long], some .long⟩ := by decide +kernel
def Q_own_law (Z : State) (p1 : Int64) (p2 : Int32) (p3 : Int32) (aD : Addr) (aH : Addr) (h0 : Heap) (v : Option Value) (h : Heap) (L : List Loc) : Prop := v = some (.int (1 : Int32)) ∧ Fr Z.heap.size L ∧ Keep h0 h []
set_option maxRecDepth 65536 in
set_option maxHeartbeats 40000000 in
theorem own_law (l : Launch) (Z : State) (a0 : Array Value) (hw : ∀ d ∈ tables_1, d.before a0 Z = true) (ws : List Jvm.Cond) (p1 : Int64) (p2 : Int32) (p3 : Int32) (aD : Addr) (aH : Addr) (h0 : Heap) (O0 : Ext Z.heap h0) (S_DAY : Sta Z Z.heap "com/example/sams/sams/Slicing$Span" "DAY" "Lcom/example/sams/sams/Slicing$Span;" (.ref aD)) (S_HOUR : Sta Z Z.heap "com/example/sams/sams/Slicing$Span" "HOUR" "Lcom/example/sams/sams/Slicing$Span;" (.ref aH)) (FD : Fld Z Z.heap aD "com/example/sams/sams/Slicing$Span" "seconds" "J" (.long (86400 : Int64))) (FH : Fld Z Z.heap aH "com/example/sams/sams/Slicing$Span" "seconds" "J" (.long (3600 : Int64))) :
    MetFree l x (head1 (Jvm.Cond.code x code maxLocals ret :: ws) room_1) (fun aa U => aa = #[(.long p1), (.int p2), (.int p3)] ∧ Z.Warmed39 U.vm ∧ U.heap = h0) (fun _ _ _ _ _ => True) (fun _ U o U' => ∃ v L, o = .returned v ∧ Q_own_law Z p1 p2 p3 aD aH h0 v U'.heap L ∧ FrameEnd U o U' L room_1.cells room_1.slots) := by
  refine MetFree.of_bodySF pf_own_law hisR ?_
  intro p e s m args below meth c s₁ Bd hml0 hP hK
  obtain ⟨rfl, hZ, hh⟩ := hP
  have hx := Bd.exec
  have hby := Bd.bytes
  have hlk := BodyLoose.notSynchronized Bd
  have hml : c.maxLocals = 18 := hml0
  have hown : s.vm.findClass "com/example/sams/sams/SlicingOldestKeptPinLaw" = some m.cls := findClass_of_methodNamed Bd.named
  have hnm := (name_of_methodNamed Bd.named Bd.method).1
  have X0 : Stand p l e room_1 s m #[(.long p1), (.int p2), (.int p3)] below meth c s₁ [] 0 0 := Stand.of_body Bd
  have e0 : s₁.heap = h0 := by rw [← hh, Bd.state]; rfl
  have N0 := Fr.nil Z.heap.size
  have K0 : Keep h0 h0 [] := Keep.refl _ _
  refine own_start (Q := Q_own_law Z p1 p2 p3 aD aH h0) (ef_own_law m (p1) (p2) (p3)) ?_
  show own_G p e below (s₁.setTop (mkF m 0 #[.val (.long p1), .second, .val (.int p2), .val (.int p3), .unset, .unset, .unset, .unset, .unset, .unset, .unset, .unset, .unset, .unset, .unset, .unset, .unset, .unset] [])) _
  refine own_go (fun t k => XS.lloadN X0.here hx rfl (hb hby at_0) rfl k) ?_
  show own_G p e below (s₁.setTop (mkF m 1 #[.val (.long p1), .second, .val (.int p2), .val (.int p3), .unset, .unset, .unset, .unset, .unset, .unset, .unset, .unset, .unset, .unset, .unset, .unset, .unset, .unset] [(.long p1)])) _
  refine own_go (fun t k => X0.ldc2J hx hown (mvT hZ (own_hw hw 0 rfl)) rfl (hb hby at_1) k) ?_
  show own_G p e below (s₁.setTop (mkF m 4 #[.val (.long p1), .second, .val (.int p2), .val (.int p3), .unset, .unset, .unset, .unset, .unset, .unset, .unset, .unset, .unset, .unset, .unset, .unset, .unset, .unset] [(.long (9223372036854775807 : Int64)), (.long p1)])) _
  refine own_go (fun t k => XS.land X0.here hx rfl (hb hby at_4) rfl k) ?_
  show own_G p e below (s₁.setTop (mkF m 5 #[.val (.long p1), .second, .val (.int p2), .val (.int p3), .unset, .unset, .unset, .unset, .unset, .unset, .unset, .unset, .unset, .unset, .unset, .unset, .unset, .unset] [(.long (p1 &&& (9223372036854775807 : Int64)))])) _
  refine own_go (fun t k => XS.lstore X0.here hx rfl (hb hby at_5) rfl (l' := #[.val (.long p1), .second, .val (.int p2), .val (.int p3), .val (.long (p1 &&& (9223372036854775807 : Int64))), .second, .unset, .unset, .unset, .unset, .unset, .unset, .unset, .unset, .unset, .unset, .unset, .unset]) rfl k) ?_
  show own_G p e below (s₁.setTop (mkF m 7 #[.val (.long p1), .second, .val (.int p2), .val (.int p3), .val (.long (p1 &&& (9223372036854775807 : Int64))), .second, .unset, .unset, .unset, .unset, .unset, .unset, .unset, .unset, .unset, .unset, .unset, .unset] [])) _
  refine own_go (fun t k => XS.iconst X0.here hx rfl (hb hby at_7) k) ?_
  show own_G p e below (s₁.setTop (mkF m 8 #[.val (.long p1), .second, .val (.int p2), .val (.int p3), .val (.long (p1 &&& (9223372036854775807 : Int64))), .second, .unset, .unset, .unset, .unset, .unset, .unset, .unset, .unset, .unset, .unset, .unset, .unset] [(.int (1 : Int32))])) _
  refine own_go (fun t k => XS.iloadN X0.here hx rfl (hb hby at_8) rfl k) ?_
  show own_G p e below (s₁.setTop (mkF m 9 #[.val (.long p1), .second, .val (.int p2), .val (.int p3), .val (.long (p1 &&& (9223372036854775807 : Int64))), .second, .unset, .unset, .unset, .unset, .unset, .unset, .unset, .unset, .unset, .unset, .unset, .unset] [(.int p2), (.int (1 : Int32))])) _
  refine own_go (fun t k => X0.ldcI hx hown (mvT hZ (own_hw hw 1 rfl)) rfl (hb hby at_9) k) ?_
  show own_G p e below (s₁.setTop (mkF m 11 #[.val (.long p1), .second, .val (.int p2), .val (.int p3), .val (.long (p1 &&& (9223372036854775807 : Int64))), .second, .unset, .unset, .unset, .unset, .unset, .unset, .unset, .unset, .unset, .unset, .unset, .unset] [(.int (2147483647 : Int32)), (.int p2), (.int (1 : Int32))])) _
  refine own_go (fun t k => XS.iand X0.here hx rfl (hb hby at_11) rfl k) ?_
  show own_G p e below (s₁.setTop (mkF m 12 #[.val (.long p1), .second, .val (.int p2), .val (.int p3), .val (.long (p1 &&& (9223372036854775807 : Int64))), .second, .unset, .unset, .unset, .unset, .unset, .unset, .unset, .unset, .unset, .unset, .unset, .unset] [(.int (p2 &&& (2147483647 : Int32))), (.int (1 : Int32))])) _
  obtain ⟨_, _, ⟨T1z, L1z, k1z, n1z⟩, -, X1z, ⟨Lc1z, hQ1z, l1z, y1z, z1z⟩, st1z⟩ := Jvm.LawKit.callS X0 hx (y := own_m0) hown (mvT hZ (own_hw hw 2 rfl)) (mvT hZ (own_hw hw 3 rfl)) (mvT hZ (own_hw hw 4 rfl)) (mvT hZ (own_hw hw 5 rfl)) (by decide) (backOf (W := 0) (own_maxM l Z a0 hw [] (1 : Int32) (p2 &&& (2147483647 : Int32)) h0 O0) hZ (own_hw hw 5 rfl) (own_hw hw 4 rfl) (by decide) (by decide)) (g := (mkF m 12 #[.val (.long p1), .second, .val (.int p2), .val (.int p3), .val (.long (p1 &&& (9223372036854775807 : Int64))), .second, .unset, .unset, .unset, .unset, .unset, .unset, .unset, .unset, .unset, .unset, .unset, .unset] [(.int (p2 &&& (2147483647 : Int32))), (.int (1 : Int32))])) rfl (by rw [hml]; rfl) (argsL := [(.int (1 : Int32)), (.int (p2 &&& (2147483647 : Int32)))]) (rest := []) (lenOf pd_184293393 rfl) rfl (by show 2 * 0 + _ ≤ _; exact Nat.le_of_eq rfl) (hb hby at_12) (fun _ _ => ⟨rfl, e0, (by decide : 0 + 0 ≤ _), (by decide : 0 + 0 ≤ _)⟩)
  dsimp only [Pt.U, Pt.locs, Pt.cells, Pt.slots] at X1z l1z y1z z1z st1z hQ1z
  subst l1z y1z z1z
  obtain ⟨rfl, NQ1z, K1zq⟩ := hQ1z
  refine own_go st1z ?_
  have N1z := Fr.app N0 NQ1z
  show own_G p e below (T1z.setTop (mkF m 15 #[.val (.long p1), .second, .val (.int p2), .val (.int p3), .val (.long (p1 &&& (9223372036854775807 : Int64))), .second, .unset, .unset, .unset, .unset, .unset, .unset, .unset, .unset, .unset, .unset, .unset, .unset] [(.int (own_max (1 : Int32) (p2 &&& (2147483647 : Int32))))])) _
  refine own_go (fun t k => XS.istore X1z.here hx rfl (hb hby at_15) rfl (l' := #[.val (.long p1), .second, .val (.int p2), .val (.int p3), .val (.long (p1 &&& (9223372036854775807 : Int64))), .second, .val (.int (own_max (1 : Int32) (p2 &&& (2147483647 : Int32)))), .unset, .unset, .unset, .unset, .unset, .unset, .unset, .unset, .unset, .unset, .unset]) rfl k) ?_
  show own_G p e below (T1z.setTop (mkF m 17 #[.val (.long p1), .second, .val (.int p2), .val (.int p3), .val (.long (p1 &&& (9223372036854775807 : Int64))), .second, .val (.int (own_max (1 : Int32) (p2 &&& (2147483647 : Int32)))), .unset, .unset, .unset, .unset, .unset, .unset, .unset, .unset, .unset, .unset, .unset] [])) _
  refine own_go (fun t k => XS.iloadN X1z.here hx rfl (hb hby at_17) rfl k) ?_
  show own_G p e below (T1z.setTop (mkF m 18 #[.val (.long p1), .second, .val (.int p2), .val (.int p3), .val (.long (p1 &&& (9223372036854775807 : Int64))), .second, .val (.int (own_max (1 : Int32) (p2 &&& (2147483647 : Int32)))), .unset, .unset, .unset, .unset, .unset, .unset, .unset, .unset, .unset, .unset, .unset] [(.int p3)])) _
  refine own_go (fun t k => XS.iconst X1z.here hx rfl (hb hby at_18) k) ?_
  show own_G p e below (T1z.setTop (mkF m 19 #[.val (.long p1), .second, .val (.int p2), .val (.int p3), .val (.long (p1 &&& (9223372036854775807 : Int64))), .second, .val (.int (own_max (1 : Int32) (p2 &&& (2147483647 : Int32)))), .unset, .unset, .unset, .unset, .unset, .unset, .unset, .unset, .unset, .unset, .unset] [(.int (1 : Int32)), (.int p3)])) _
  refine own_go (fun t k => XS.iand X1z.here hx rfl (hb hby at_19) rfl k) ?_
  show own_G p e below (T1z.setTop (mkF m 20 #[.val (.long p1), .second, .val (.int p2), .val (.int p3), .val (.long (p1 &&& (9223372036854775807 : Int64))), .second, .val (.int (own_max (1 : Int32) (p2 &&& (2147483647 : Int32)))), .unset, .unset, .unset, .unset, .unset, .unset, .unset, .unset, .unset, .unset, .unset] [(.int (p3 &&& (1 : Int32)))])) _
  by_cases hc2z : (p3 &&& (1 : Int32)) = (0 : Int32)
  · refine own_go (fun t k => XS.ifYes X1z.here hx rfl (pc0 := 20) (pc' := 27) rfl (hb hby at_20) rfl ((if0 _ _).trans (teq hc2z).1) (by decide) (by decide) k) ?_
    show own_G p e below (T1z.setTop (mkF m 27 #[.val (.long p1), .second, .val (.int p2), .val (.int p3), .val (.long (p1 &&& (9223372036854775807 : Int64))), .second, .val (.int (own_max (1 : Int32) (p2 &&& (2147483647 : Int32)))), .unset, .unset, .unset, .unset, .unset, .unset, .unset, .unset, .unset, .unset, .unset] [])) _
    refine own_go (fun t k => XS.iconst X1z.here hx rfl (hb hby at_27) k) ?_
    show own_G p e below (T1z.setTop (mkF m 28 #[.val (.long p1), .second, .val (.int p2), .val (.int p3), .val (.long (p1 &&& (9223372036854775807 : Int64))), .second, .val (.int (own_max (1 : Int32) (p2 &&& (2147483647 : Int32)))), .unset, .unset, .unset, .unset, .unset, .unset, .unset, .unset, .unset, .unset, .unset] [(.int (0 : Int32))])) _
    refine own_go (fun t k => XS.istore X1z.here hx rfl (hb hby at_28) rfl (l' := #[.val (.long p1), .second, .val (.int p2), .val (.int p3), .val (.long (p1 &&& (9223372036854775807 : Int64))), .second, .val (.int (own_max (1 : Int32) (p2 &&& (2147483647 : Int32)))), .val (.int (0 : Int32)), .unset, .unset, .unset, .unset, .unset, .unset, .unset, .unset, .unset, .unset]) rfl k) ?_
    show own_G p e below (T1z.setTop (mkF m 30 #[.val (.long p1), .second, .val (.int p2), .val (.int p3), .val (.long (p1 &&& (9223372036854775807 : Int64))), .second, .val (.int (own_max (1 : Int32) (p2 &&& (2147483647 : Int32)))), .val (.int (0 : Int32)), .unset, .unset, .unset, .unset, .unset, .unset, .unset, .unset, .unset, .unset] [])) _
    refine own_go (fun t k => XS.iload X1z.here hx rfl (hb hby at_30) rfl k) ?_
    show own_G p e below (T1z.setTop (mkF m 32 #[.val (.long p1), .second, .val (.int p2), .val (.int p3), .val (.long (p1 &&& (9223372036854775807 : Int64))), .second, .val (.int (own_max (1 : Int32) (p2 &&& (2147483647 : Int32)))), .val (.int (0 : Int32)), .unset, .unset, .unset, .unset, .unset, .unset, .unset, .unset, .unset, .unset] [(.int (0 : Int32))])) _
    refine own_go (fun t k => XS.ifYes X1z.here hx rfl (pc0 := 32) (pc' := 41) rfl (hb hby at_32) rfl ((if0 _ _).trans (teq (by decide : (0 : Int32) = (0 : Int32))).1) (by decide) (by decide) k) ?_
    show own_G p e below (T1z.setTop (mkF m 41 #[.val (.long p1), .second, .val (.int p2), .val (.int p3), .val (.long (p1 &&& (9223372036854775807 : Int64))), .second, .val (.int (own_max (1 : Int32) (p2 &&& (2147483647 : Int32)))), .val (.int (0 : Int32)), .unset, .unset, .unset, .unset, .unset, .unset, .unset, .unset, .unset, .unset] [])) _
    obtain ⟨T3z, X3z, e3z, st3z⟩ := getS2 X1z hx hZ hown (host := "") (Or.inl (own_hw hw 30 rfl)) Via.refl K1zq (S_HOUR.ext O0) (g := (mkF m 41 #[.val (.long p1), .second, .val (.int p2), .val (.int p3), .val (.long (p1 &&& (9223372036854775807 : Int64))), .second, .val (.int (own_max (1 : Int32) (p2 &&& (2147483647 : Int32)))), .val (.int (0 : Int32)), .unset, .unset, .unset, .unset, .unset, .unset, .unset, .unset, .unset, .unset] [])) rfl (hb hby at_41)
    refine own_go st3z ?_
    show own_G p e below (T3z.setTop (mkF m 44 #[.val (.long p1), .second, .val (.int p2), .val (.int p3), .val (.long (p1 &&& (9223372036854775807 : Int64))), .second, .val (.int (own_max (1 : Int32) (p2 &&& (2147483647 : Int32)))), .val (.int (0 : Int32)), .unset, .unset, .unset, .unset, .unset, .unset, .unset, .unset, .unset, .unset] [(.ref aH)])) _
    refine own_go (fun t k => XS.astore X3z.here hx rfl (hb hby at_44) rfl rfl (l' := #[.val (.long p1), .second, .val (.int p2), .val (.int p3), .val (.long (p1 &&& (9223372036854775807 : Int64))), .second, .val (.int (own_max (1 : Int32) (p2 &&& (2147483647 : Int32)))), .val (.int (0 : Int32)), .val (.ref aH), .unset, .unset, .unset, .unset, .unset, .unset, .unset, .unset, .unset]) rfl k) ?_
    show own_G p e below (T3z.setTop (mkF m 46 #[.val (.long p1), .second, .val (.int p2), .val (.int p3), .val (.long (p1 &&& (9223372036854775807 : Int64))), .second, .val (.int (own_max (1 : Int32) (p2 &&& (2147483647 : Int32)))), .val (.int (0 : Int32)), .val (.ref aH), .unset, .unset, .unset, .unset, .unset, .unset, .unset, .unset, .unset] [])) _
    refine own_go (fun t k => XS.iload X3z.here hx rfl (hb hby at_46) rfl k) ?_
    show own_G p e below (T3z.setTop (mkF m 48 #[.val (.long p1), .second, .val (.int p2), .val (.int p3), .val (.long (p1 &&& (9223372036854775807 : Int64))), .second, .val (.int (own_max (1 : Int32) (p2 &&& (2147483647 : Int32)))), .val (.int (0 : Int32)), .val (.ref aH), .unset, .unset, .unset, .unset, .unset, .unset, .unset, .unset, .unset] [(.int (0 : Int32))])) _
    refine own_go (fun t k => XS.ifYes X3z.here hx rfl (pc0 := 48) (pc' := 57) rfl (hb hby at_48) rfl ((if0 _ _).trans (teq (by decide : (0 : Int32) = (0 : Int32))).1) (by decide) (by decide) k) ?_
    show own_G p e below (T3z.setTop (mkF m 57 #[.val (.long p1), .second, .val (.int p2), .val (.int p3), .val (.long (p1 &&& (9223372036854775807 : Int64))), .second, .val (.int (own_max (1 : Int32) (p2 &&& (2147483647 : Int32)))), .val (.int (0 : Int32)), .val (.ref aH), .unset, .unset, .unset, .unset, .unset, .unset, .unset, .unset, .unset] [])) _
    refine own_go (fun t k => X3z.ldc2J hx hown (mvT hZ (own_hw hw 32 rfl)) rfl (hb hby at_57) k) ?_
    show own_G p e below (T3z.setTop (mkF m 60 #[.val (.long p1), .second, .val (.int p2), .val (.int p3), .val (.long (p1 &&& (9223372036854775807 : Int64))), .second, .val (.int (own_max (1 : Int32) (p2 &&& (2147483647 : Int32)))), .val (.int (0 : Int32)), .val (.ref aH), .unset, .unset, .unset, .unset, .unset, .unset, .unset, .unset, .unset] [(.long (3600 : Int64))])) _
    refine own_go (fun t k => XS.lstore X3z.here hx rfl (hb hby at_60) rfl (l' := #[.val (.long p1), .second, .val (.int p2), .val (.int p3), .val (.long (p1 &&& (9223372036854775807 : Int64))), .second, .val (.int (own_max (1 : Int32) (p2 &&& (2147483647 : Int32)))), .val (.int (0 : Int32)), .val (.ref aH), .val (.long (3600 : Int64)), .second, .unset, .unset, .unset, .unset, .unset, .unset, .unset]) rfl k) ?_
    show own_G p e below (T3z.setTop (mkF m 62 #[.val (.long p1), .second, .val (.int p2), .val (.int p3), .val (.long (p1 &&& (9223372036854775807 : Int64))), .second, .val (.int (own_max (1 : Int32) (p2 &&& (2147483647 : Int32)))), .val (.int (0 : Int32)), .val (.ref aH), .val (.long (3600 : Int64)), .second, .unset, .unset, .unset, .unset, .unset, .unset, .unset] [])) _
    obtain ⟨T4z, h4z, X4z, e4z, E4z, A4z, D4z, -, st4z⟩ := newO X3z hx hZ hown (own_hw hw 10 rfl) (own_hw hw 11 rfl) (own_hw hw 12 rfl) e3z (g := (mkF m 62 #[.val (.long p1), .second, .val (.int p2), .val (.int p3), .val (.long (p1 &&& (9223372036854775807 : Int64))), .second, .val (.int (own_max (1 : Int32) (p2 &&& (2147483647 : Int32)))), .val (.int (0 : Int32)), .val (.ref aH), .val (.long (3600 : Int64)), .second, .unset, .unset, .unset, .unset, .unset, .unset, .unset] [])) rfl (hb hby at_62) (by decide) (by decide)
    obtain ⟨b4z, g4z⟩ : ∃ z, z = h0.size := ⟨_, rfl⟩
    rw [← g4z] at A4z D4z st4z
    have fr_b4z : Z.heap.size ≤ b4z := g4z ▸ O0.1
    have lz_b4z : h0.size ≤ b4z := g4z ▸ K0.1
    have O5z : Ext Z.heap h4z := own_ext_trans O0 E4z
    have K5z : Keep h0 h4z [] := K0.ext E4z
    have F4z_span : Fld Z h4z b4z "com/example/sams/sams/Slicing" "span" "Lcom/example/sams/sams/Slicing$Span;" .null := D4z (Or.inr (own_hw hw 20 rfl)) (ty := (.object "com/example/sams/sams/Slicing$Span")) (by decide)
    have F4z_retain : Fld Z h4z b4z "com/example/sams/sams/Slicing" "retain" "I" (.int (0 : Int32)) := D4z (Or.inr (own_hw hw 22 rfl)) (ty := .int) (by decide)
    refine own_go st4z ?_
    show own_G p e below (T4z.setTop (mkF m 65 #[.val (.long p1), .second, .val (.int p2), .val (.int p3), .val (.long (p1 &&& (9223372036854775807 : Int64))), .second, .val (.int (own_max (1 : Int32) (p2 &&& (2147483647 : Int32)))), .val (.int (0 : Int32)), .val (.ref aH), .val (.long (3600 : Int64)), .second, .unset, .unset, .unset, .unset, .unset, .unset, .unset] [(.ref b4z)])) _
    refine own_go (fun t k => XS.dup X4z.here hx rfl (hb hby at_65) rfl rfl k) ?_
    show own_G p e below (T4z.setTop (mkF m 66 #[.val (.long p1), .second, .val (.int p2), .val (.int p3), .val (.long (p1 &&& (9223372036854775807 : Int64))), .second, .val (.int (own_max (1 : Int32) (p2 &&& (2147483647 : Int32)))), .val (.int (0 : Int32)), .val (.ref aH), .val (.long (3600 : Int64)), .second, .unset, .unset, .unset, .unset, .unset, .unset, .unset] [(.ref b4z), (.ref b4z)])) _
    refine own_go (fun t k => XS.aload X4z.here hx rfl (hb hby at_66) rfl rfl k) ?_
    show own_G p e below (T4z.setTop (mkF m 68 #[.val (.long p1), .second, .val (.int p2), .val (.int p3), .val (.long (p1 &&& (9223372036854775807 : Int64))), .second, .val (.int (own_max (1 : Int32) (p2 &&& (2147483647 : Int32)))), .val (.int (0 : Int32)), .val (.ref aH), .val (.long (3600 : Int64)), .second, .unset, .unset, .unset, .unset, .unset, .unset, .unset] [(.ref aH), (.ref b4z), (.ref b4z)])) _
    refine own_go (fun t k => XS.iload X4z.here hx rfl (hb hby at_68) rfl k) ?_
    show own_G p e below (T4z.setTop (mkF m 70 #[.val (.long p1), .second, .val (.int p2), .val (.int p3), .val (.long (p1 &&& (9223372036854775807 : Int64))), .second, .val (.int (own_max (1 : Int32) (p2 &&& (2147483647 : Int32)))), .val (.int (0 : Int32)), .val (.ref aH), .val (.long (3600 : Int64)), .second, .unset, .unset, .unset, .unset, .unset, .unset, .unset] [(.int (own_max (1 : Int32) (p2 &&& (2147483647 : Int32)))), (.ref aH), (.ref b4z), (.ref b4z)])) _
    obtain ⟨_, _, ⟨T6z, L6z, k6z, n6z⟩, -, X6z, ⟨Lc6z, hQ6z, l6z, y6z, z6z⟩, st6z⟩ := X4z.specialBack hx (y := own_m1) rfl hown (mvT hZ (own_hw hw 13 rfl)) (mvT hZ (own_hw hw 14 rfl)) (mvT hZ (own_hw hw 15 rfl)) (by decide) (backOf (W := 1) (own_init l Z a0 hw [] b4z aH (own_max (1 : Int32) (p2 &&& (2147483647 : Int32))) h4z O5z A4z F4z_span F4z_retain fr_b4z (own_R1 p2)) hZ (own_hw hw 15 rfl) (own_hw hw 12 rfl) (by decide) (by decide)) (g := (mkF m 70 #[.val (.long p1), .second, .val (.int p2), .val (.int p3), .val (.long (p1 &&& (9223372036854775807 : Int64))), .second, .val (.int (own_max (1 : Int32) (p2 &&& (2147483647 : Int32)))), .val (.int (0 : Int32)), .val (.ref aH), .val (.long (3600 : Int64)), .second, .unset, .unset, .unset, .unset, .unset, .unset, .unset] [(.int (own_max (1 : Int32) (p2 &&& (2147483647 : Int32)))), (.ref aH), (.ref b4z), (.ref b4z)])) rfl (by rw [hml]; rfl) (Steps.refl _) (a := b4z) (argsL := [(.ref aH), (.int (own_max (1 : Int32) (p2 &&& (2147483647 : Int32))))]) (rest := [(.ref b4z)]) (lenOf pd_305282378 rfl) rfl (by show 2 * 0 + _ ≤ _; exact Nat.le_of_eq rfl) (hb hby at_70) (fun _ _ => ⟨rfl, e4z, (by decide : 1 + 0 ≤ _), (by decide : 2 + 0 ≤ _)⟩)
    dsimp only [Pt.U, Pt.locs, Pt.cells, Pt.slots] at X6z l6z y6z z6z st6z hQ6z
    subst l6z y6z z6z
    obtain ⟨rfl, NQ6z, K6zq, r6z_0, r6z_1, r6z_2⟩ := hQ6z
    refine own_tr st6z ?_
    have N6z := Fr.app N1z NQ6z
    have O7z : Ext Z.heap T6z.heap := own_ext_keep O5z K6zq (allS fr_b4z all0)
    have K7z : Keep h0 T6z.heap [] := K5z.trans K6zq (allS (Or.inr lz_b4z) all0)
    show own_G p e below (T6z.setTop (mkF m 73 #[.val (.long p1), .second, .val (.int p2), .val (.int p3), .val (.long (p1 &&& (9223372036854775807 : Int64))), .second, .val (.int (own_max (1 : Int32) (p2 &&& (2147483647 : Int32)))), .val (.int (0 : Int32)), .val (.ref aH), .val (.long (3600 : Int64)), .second, .unset, .unset, .unset, .unset, .unset, .unset, .unset] [(.ref b4z)])) _
    refine own_go (fun t k => XS.astore X6z.here hx rfl (hb hby at_73) rfl rfl (l' := #[.val (.long p1), .second, .val (.int p2), .val (.int p3), .val (.long (p1 &&& (9223372036854775807 : Int64))), .second, .val (.int (own_max (1 : Int32) (p2 &&& (2147483647 : Int32)))), .val (.int (0 : Int32)), .val (.ref aH), .val (.long (3600 : Int64)), .second, .val (.ref b4z), .unset, .unset, .unset, .unset, .unset, .unset]) rfl k) ?_
    show own_G p e below (T6z.setTop (mkF m 75 #[.val (.long p1), .second, .val (.int p2), .val (.int p3), .val (.long (p1 &&& (9223372036854775807 : Int64))), .second, .val (.int (own_max (1 : Int32) (p2 &&& (2147483647 : Int32)))), .val (.int (0 : Int32)), .val (.ref aH), .val (.long (3600 : Int64)), .second, .val (.ref b4z), .unset, .unset, .unset, .unset, .unset, .unset] [])) _
    refine own_go (fun t k => XS.aload X6z.here hx rfl (hb hby at_75) rfl rfl k) ?_
    show own_G p e below (T6z.setTop (mkF m 77 #[.val (.long p1), .second, .val (.int p2), .val (.int p3), .val (.long (p1 &&& (9223372036854775807 : Int64))), .second, .val (.int (own_max (1 : Int32) (p2 &&& (2147483647 : Int32)))), .val (.int (0 : Int32)), .val (.ref aH), .val (.long (3600 : Int64)), .second, .val (.ref b4z), .unset, .unset, .unset, .unset, .unset, .unset] [(.ref b4z)])) _
    refine own_go (fun t k => XS.lload X6z.here hx rfl (hb hby at_77) rfl k) ?_
    show own_G p e below (T6z.setTop (mkF m 79 #[.val (.long p1), .second, .val (.int p2), .val (.int p3), .val (.long (p1 &&& (9223372036854775807 : Int64))), .second, .val (.int (own_max (1 : Int32) (p2 &&& (2147483647 : Int32)))), .val (.int (0 : Int32)), .val (.ref aH), .val (.long (3600 : Int64)), .second, .val (.ref b4z), .unset, .unset, .unset, .unset, .unset, .unset] [(.long (p1 &&& (9223372036854775807 : Int64))), (.ref b4z)])) _
    obtain ⟨cq8z, kq8z, qa8z, qb8z, qc8z⟩ := isOf hZ (rfl : T6z.heap = _) r6z_0
    obtain ⟨_, _, ⟨T8z, L8z, k8z, n8z⟩, -, X8z, ⟨Lc8z, hQ8z, l8z, y8z, z8z⟩, st8z⟩ := X6z.virtualBack hx (y := own_m2) (z := own_m2) hown (mvT hZ (own_hw hw 23 rfl)) (mvT hZ (own_hw hw 24 rfl)) (notFace_of_selects (args := #[]) (mvT hZ (own_hw hw 26 rfl))) (mvT hZ (own_hw hw 26 rfl)) (mvT hZ (own_hw hw 25 rfl)) (by decide) (backOf (W := 0) (own_old l Z a0 hw [] b4z (p1 &&& (9223372036854775807 : Int64)) (own_max (1 : Int32) (p2 &&& (2147483647 : Int32))) aH (3600 : Int64) T6z.heap O7z r6z_2 r6z_1 FH) hZ (own_hw hw 27 rfl) (own_hw hw 12 rfl) (by decide) (by decide)) qa8z qc8z (g := (mkF m 79 #[.val (.long p1), .second, .val (.int p2), .val (.int p3), .val (.long (p1 &&& (9223372036854775807 : Int64))), .second, .val (.int (own_max (1 : Int32) (p2 &&& (2147483647 : Int32)))), .val (.int (0 : Int32)), .val (.ref aH), .val (.long (3600 : Int64)), .second, .val (.ref b4z), .unset, .unset, .unset, .unset, .unset, .unset] [(.long (p1 &&& (9223372036854775807 : Int64))), (.ref b4z)])) rfl (by rw [hml]; rfl) (Steps.refl _) (argsL := [(.long (p1 &&& (9223372036854775807 : Int64)))]) (rest := []) (lenOf pd_2087993098 rfl) rfl (by show 2 * 0 + _ ≤ _; exact Nat.le_of_eq rfl) (hb hby at_79) (fun _ _ => ⟨rfl, rfl, (by decide : 1 + 0 ≤ _), (by decide : 2 + 0 ≤ _)⟩)
    dsimp only [Pt.U, Pt.locs, Pt.cells, Pt.slots] at X8z l8z y8z z8z st8z hQ8z
    subst l8z y8z z8z
    obtain ⟨rfl, NQ8z, K8zq⟩ := hQ8z
    refine own_tr st8z ?_
    have N8z := Fr.app N6z NQ8z
    show own_G p e below (T8z.setTop (mkF m 82 #[.val (.long p1), .second, .val (.int p2), .val (.int p3), .val (.long (p1 &&& (9223372036854775807 : Int64))), .second, .val (.int (own_max (1 : Int32) (p2 &&& (2147483647 : Int32)))), .val (.int (0 : Int32)), .val (.ref aH), .val (.long (3600 : Int64)), .second, .val (.ref b4z), .unset, .unset, .unset, .unset, .unset, .unset] [(.long ((p1 &&& (9223372036854775807 : Int64)) - (((own_max (1 : Int32) (p2 &&& (2147483647 : Int32))).toInt64 - (1 : Int64)) * (3600 : Int64))))])) _
    refine own_go (fun t k => XS.lstore X8z.here hx rfl (hb hby at_82) rfl (l' := #[.val (.long p1), .second, .val (.int p2), .val (.int p3), .val (.long (p1 &&& (9223372036854775807 : Int64))), .second, .val (.int (own_max (1 : Int32) (p2 &&& (2147483647 : Int32)))), .val (.int (0 : Int32)), .val (.ref aH), .val (.long (3600 : Int64)), .second, .val (.ref b4z), .val (.long ((p1 &&& (9223372036854775807 : Int64)) - (((own_max (1 : Int32) (p2 &&& (2147483647 : Int32))).toInt64 - (1 : Int64)) * (3600 : Int64)))), .second, .unset, .unset, .unset, .unset]) rfl k) ?_
    show own_G p e below (T8z.setTop (mkF m 84 #[.val (.long p1), .second, .val (.int p2), .val (.int p3), .val (.long (p1 &&& (9223372036854775807 : Int64))), .second, .val (.int (own_max (1 : Int32) (p2 &&& (2147483647 : Int32)))), .val (.int (0 : Int32)), .val (.ref aH), .val (.long (3600 : Int64)), .second, .val (.ref b4z), .val (.long ((p1 &&& (9223372036854775807 : Int64)) - (((own_max (1 : Int32) (p2 &&& (2147483647 : Int32))).toInt64 - (1 : Int64)) * (3600 : Int64)))), .second, .unset, .unset, .unset, .unset] [])) _
    refine own_go (fun t k => XS.iload X8z.here hx rfl (hb hby at_84) rfl k) ?_
    show own_G p e below (T8z.setTop (mkF m 86 #[.val (.long p1), .second, .val (.int p2), .val (.int p3), .val (.long (p1 &&& (9223372036854775807 : Int64))), .second, .val (.int (own_max (1 : Int32) (p2 &&& (2147483647 : Int32)))), .val (.int (0 : Int32)), .val (.ref aH), .val (.long (3600 : Int64)), .second, .val (.ref b4z), .val (.long ((p1 &&& (9223372036854775807 : Int64)) - (((own_max (1 : Int32) (p2 &&& (2147483647 : Int32))).toInt64 - (1 : Int64)) * (3600 : Int64)))), .second, .unset, .unset, .unset, .unset] [(.int (own_max (1 : Int32) (p2 &&& (2147483647 : Int32))))])) _
    refine own_go (fun t k => XS.iconst X8z.here hx rfl (hb hby at_86) k) ?_
    show own_G p e below (T8z.setTop (mkF m 87 #[.val (.long p1), .second, .val (.int p2), .val (.int p3), .val (.long (p1 &&& (9223372036854775807 : Int64))), .second, .val (.int (own_max (1 : Int32) (p2 &&& (2147483647 : Int32)))), .val (.int (0 : Int32)), .val (.ref aH), .val (.long (3600 : Int64)), .second, .val (.ref b4z), .val (.long ((p1 &&& (9223372036854775807 : Int64)) - (((own_max (1 : Int32) (p2 &&& (2147483647 : Int32))).toInt64 - (1 : Int64)) * (3600 : Int64)))), .second, .unset, .unset, .unset, .unset] [(.int (1 : Int32)), (.int (own_max (1 : Int32) (p2 &&& (2147483647 : Int32))))])) _
    refine own_go (fun t k => XS.isub X8z.here hx rfl (hb hby at_87) rfl k) ?_
    show own_G p e below (T8z.setTop (mkF m 88 #[.val (.long p1), .second, .val (.int p2), .val (.int p3), .val (.long (p1 &&& (9223372036854775807 : Int64))), .second, .val (.int (own_max (1 : Int32) (p2 &&& (2147483647 : Int32)))), .val (.int (0 : Int32)), .val (.ref aH), .val (.long (3600 : Int64)), .second, .val (.ref b4z), .val (.long ((p1 &&& (9223372036854775807 : Int64)) - (((own_max (1 : Int32) (p2 &&& (2147483647 : Int32))).toInt64 - (1 : Int64)) * (3600 : Int64)))), .second, .unset, .unset, .unset, .unset] [(.int ((own_max (1 : Int32) (p2 &&& (2147483647 : Int32))) - (1 : Int32)))])) _
    refine own_go (fun t k => XS.i2l X8z.here hx rfl (hb hby at_88) rfl k) ?_
    show own_G p e below (T8z.setTop (mkF m 89 #[.val (.long p1), .second, .val (.int p2), .val (.int p3), .val (.long (p1 &&& (9223372036854775807 : Int64))), .second, .val (.int (own_max (1 : Int32) (p2 &&& (2147483647 : Int32)))), .val (.int (0 : Int32)), .val (.ref aH), .val (.long (3600 : Int64)), .second, .val (.ref b4z), .val (.long ((p1 &&& (9223372036854775807 : Int64)) - (((own_max (1 : Int32) (p2 &&& (2147483647 : Int32))).toInt64 - (1 : Int64)) * (3600 : Int64)))), .second, .unset, .unset, .unset, .unset] [(.long ((((own_max (1 : Int32) (p2 &&& (2147483647 : Int32))) - (1 : Int32))).toInt64))])) _
    refine own_go (fun t k => XS.lload X8z.here hx rfl (hb hby at_89) rfl k) ?_
    show own_G p e below (T8z.setTop (mkF m 91 #[.val (.long p1), .second, .val (.int p2), .val (.int p3), .val (.long (p1 &&& (9223372036854775807 : Int64))), .second, .val (.int (own_max (1 : Int32) (p2 &&& (2147483647 : Int32)))), .val (.int (0 : Int32)), .val (.ref aH), .val (.long (3600 : Int64)), .second, .val (.ref b4z), .val (.long ((p1 &&& (9223372036854775807 : Int64)) - (((own_max (1 : Int32) (p2 &&& (2147483647 : Int32))).toInt64 - (1 : Int64)) * (3600 : Int64)))), .second, .unset, .unset, .unset, .unset] [(.long (3600 : Int64)), (.long ((((own_max (1 : Int32) (p2 &&& (2147483647 : Int32))) - (1 : Int32))).toInt64))])) _
    refine own_go (fun t k => XS.lmul X8z.here hx rfl (hb hby at_91) rfl k) ?_
    show own_G p e below (T8z.setTop (mkF m 92 #[.val (.long p1), .second, .val (.int p2), .val (.int p3), .val (.long (p1 &&& (9223372036854775807 : Int64))), .second, .val (.int (own_max (1 : Int32) (p2 &&& (2147483647 : Int32)))), .val (.int (0 : Int32)), .val (.ref aH), .val (.long (3600 : Int64)), .second, .val (.ref b4z), .val (.long ((p1 &&& (9223372036854775807 : Int64)) - (((own_max (1 : Int32) (p2 &&& (2147483647 : Int32))).toInt64 - (1 : Int64)) * (3600 : Int64)))), .second, .unset, .unset, .unset, .unset] [(.long (((((own_max (1 : Int32) (p2 &&& (2147483647 : Int32))) - (1 : Int32))).toInt64) * (3600 : Int64)))])) _
    refine own_go (fun t k => XS.lstore X8z.here hx rfl (hb hby at_92) rfl (l' := #[.val (.long p1), .second, .val (.int p2), .val (.int p3), .val (.long (p1 &&& (9223372036854775807 : Int64))), .second, .val (.int (own_max (1 : Int32) (p2 &&& (2147483647 : Int32)))), .val (.int (0 : Int32)), .val (.ref aH), .val (.long (3600 : Int64)), .second, .val (.ref b4z), .val (.long ((p1 &&& (9223372036854775807 : Int64)) - (((own_max (1 : Int32) (p2 &&& (2147483647 : Int32))).toInt64 - (1 : Int64)) * (3600 : Int64)))), .second, .val (.long (((((own_max (1 : Int32) (p2 &&& (2147483647 : Int32))) - (1 : Int32))).toInt64) * (3600 : Int64))), .second, .unset, .unset]) rfl k) ?_
    show own_G p e below (T8z.setTop (mkF m 94 #[.val (.long p1), .second, .val (.int p2), .val (.int p3), .val (.long (p1 &&& (9223372036854775807 : Int64))), .second, .val (.int (own_max (1 : Int32) (p2 &&& (2147483647 : Int32)))), .val (.int (0 : Int32)), .val (.ref aH), .val (.long (3600 : Int64)), .second, .val (.ref b4z), .val (.long ((p1 &&& (9223372036854775807 : Int64)) - (((own_max (1 : Int32) (p2 &&& (2147483647 : Int32))).toInt64 - (1 : Int64)) * (3600 : Int64)))), .second, .val (.long (((((own_max (1 : Int32) (p2 &&& (2147483647 : Int32))) - (1 : Int32))).toInt64) * (3600 : Int64))), .second, .unset, .unset] [])) _
    refine own_go (fun t k => XS.lload X8z.here hx rfl (hb hby at_94) rfl k) ?_
    show own_G p e below (T8z.setTop (mkF m 96 #[.val (.long p1), .second, .val (.int p2), .val (.int p3), .val (.long (p1 &&& (9223372036854775807 : Int64))), .second, .val (.int (own_max (1 : Int32) (p2 &&& (2147483647 : Int32)))), .val (.int (0 : Int32)), .val (.ref aH), .val (.long (3600 : Int64)), .second, .val (.ref b4z), .val (.long ((p1 &&& (9223372036854775807 : Int64)) - (((own_max (1 : Int32) (p2 &&& (2147483647 : Int32))).toInt64 - (1 : Int64)) * (3600 : Int64)))), .second, .val (.long (((((own_max (1 : Int32) (p2 &&& (2147483647 : Int32))) - (1 : Int32))).toInt64) * (3600 : Int64))), .second, .unset, .unset] [(.long ((p1 &&& (9223372036854775807 : Int64)) - (((own_max (1 : Int32) (p2 &&& (2147483647 : Int32))).toInt64 - (1 : Int64)) * (3600 : Int64))))])) _
    refine own_go (fun t k => XS.lload X8z.here hx rfl (hb hby at_96) rfl k) ?_
    show own_G p e below (T8z.setTop (mkF m 98 #[.val (.long p1), .second, .val (.int p2), .val (.int p3), .val (.long (p1 &&& (9223372036854775807 : Int64))), .second, .val (.int (own_max (1 : Int32) (p2 &&& (2147483647 : Int32)))), .val (.int (0 : Int32)), .val (.ref aH), .val (.long (3600 : Int64)), .second, .val (.ref b4z), .val (.long ((p1 &&& (9223372036854775807 : Int64)) - (((own_max (1 : Int32) (p2 &&& (2147483647 : Int32))).toInt64 - (1 : Int64)) * (3600 : Int64)))), .second, .val (.long (((((own_max (1 : Int32) (p2 &&& (2147483647 : Int32))) - (1 : Int32))).toInt64) * (3600 : Int64))), .second, .unset, .unset] [(.long (p1 &&& (9223372036854775807 : Int64))), (.long ((p1 &&& (9223372036854775807 : Int64)) - (((own_max (1 : Int32) (p2 &&& (2147483647 : Int32))).toInt64 - (1 : Int64)) * (3600 : Int64))))])) _
    refine own_go (fun t k => XS.lcmp X8z.here hx rfl (hb hby at_98) rfl k) ?_
    show own_G p e below (T8z.setTop (mkF m 99 #[.val (.long p1), .second, .val (.int p2), .val (.int p3), .val (.long (p1 &&& (9223372036854775807 : Int64))), .second, .val (.int (own_max (1 : Int32) (p2 &&& (2147483647 : Int32)))), .val (.int (0 : Int32)), .val (.ref aH), .val (.long (3600 : Int64)), .second, .val (.ref b4z), .val (.long ((p1 &&& (9223372036854775807 : Int64)) - (((own_max (1 : Int32) (p2 &&& (2147483647 : Int32))).toInt64 - (1 : Int64)) * (3600 : Int64)))), .second, .val (.long (((((own_max (1 : Int32) (p2 &&& (2147483647 : Int32))) - (1 : Int32))).toInt64) * (3600 : Int64))), .second, .unset, .unset] [(.int (lcmpW ((p1 &&& (9223372036854775807 : Int64)) - (((own_max (1 : Int32) (p2 &&& (2147483647 : Int32))).toInt64 - (1 : Int64)) * (3600 : Int64))) (p1 &&& (9223372036854775807 : Int64))))])) _
    refine own_go (fun t k => XS.ifNo X8z.here hx rfl (hb hby at_99) rfl ((if0 _ _).trans (flt (fun q => (own_le (own_N p1) (own_R p2) (by decide) (by decide)) ((lw_gt ((p1 &&& (9223372036854775807 : Int64)) - (((own_max (1 : Int32) (p2 &&& (2147483647 : Int32))).toInt64 - (1 : Int64)) * (3600 : Int64))) (p1 &&& (9223372036854775807 : Int64))).mp q))).2.2.1) k) ?_
    show own_G p e below (T8z.setTop (mkF m 102 #[.val (.long p1), .second, .val (.int p2), .val (.int p3), .val (.long (p1 &&& (9223372036854775807 : Int64))), .second, .val (.int (own_max (1 : Int32) (p2 &&& (2147483647 : Int32)))), .val (.int (0 : Int32)), .val (.ref aH), .val (.long (3600 : Int64)), .second, .val (.ref b4z), .val (.long ((p1 &&& (9223372036854775807 : Int64)) - (((own_max (1 : Int32) (p2 &&& (2147483647 : Int32))).toInt64 - (1 : Int64)) * (3600 : Int64)))), .second, .val (.long (((((own_max (1 : Int32) (p2 &&& (2147483647 : Int32))) - (1 : Int32))).toInt64) * (3600 : Int64))), .second, .unset, .unset] [])) _
    refine own_go (fun t k => XS.lload X8z.here hx rfl (hb hby at_102) rfl k) ?_
    show own_G p e below (T8z.setTop (mkF m 104 #[.val (.long p1), .second, .val (.int p2), .val (.int p3), .val (.long (p1 &&& (9223372036854775807 : Int64))), .second, .val (.int (own_max (1 : Int32) (p2 &&& (2147483647 : Int32)))), .val (.int (0 : Int32)), .val (.ref aH), .val (.long (3600 : Int64)), .second, .val (.ref b4z), .val (.long ((p1 &&& (9223372036854775807 : Int64)) - (((own_max (1 : Int32) (p2 &&& (2147483647 : Int32))).toInt64 - (1 : Int64)) * (3600 : Int64)))), .second, .val (.long (((((own_max (1 : Int32) (p2 &&& (2147483647 : Int32))) - (1 : Int32))).toInt64) * (3600 : Int64))), .second, .unset, .unset] [(.long ((p1 &&& (9223372036854775807 : Int64)) - (((own_max (1 : Int32) (p2 &&& (2147483647 : Int32))).toInt64 - (1 : Int64)) * (3600 : Int64))))])) _
    refine own_go (fun t k => XS.lload X8z.here hx rfl (hb hby at_104) rfl k) ?_
    show own_G p e below (T8z.setTop (mkF m 106 #[.val (.long p1), .second, .val (.int p2), .val (.int p3), .val (.long (p1 &&& (9223372036854775807 : Int64))), .second, .val (.int (own_max (1 : Int32) (p2 &&& (2147483647 : Int32)))), .val (.int (0 : Int32)), .val (.ref aH), .val (.long (3600 : Int64)), .second, .val (.ref b4z), .val (.long ((p1 &&& (9223372036854775807 : Int64)) - (((own_max (1 : Int32) (p2 &&& (2147483647 : Int32))).toInt64 - (1 : Int64)) * (3600 : Int64)))), .second, .val (.long (((((own_max (1 : Int32) (p2 &&& (2147483647 : Int32))) - (1 : Int32))).toInt64) * (3600 : Int64))), .second, .unset, .unset] [(.long (((((own_max (1 : Int32) (p2 &&& (2147483647 : Int32))) - (1 : Int32))).toInt64) * (3600 : Int64))), (.long ((p1 &&& (9223372036854775807 : Int64)) - (((own_max (1 : Int32) (p2 &&& (2147483647 : Int32))).toInt64 - (1 : Int64)) * (3600 : Int64))))])) _
    refine own_go (fun t k => XS.ladd X8z.here hx rfl (hb hby at_106) rfl k) ?_
    show own_G p e below (T8z.setTop (mkF m 107 #[.val (.long p1), .second, .val (.int p2), .val (.int p3), .val (.long (p1 &&& (9223372036854775807 : Int64))), .second, .val (.int (own_max (1 : Int32) (p2 &&& (2147483647 : Int32)))), .val (.int (0 : Int32)), .val (.ref aH), .val (.long (3600 : Int64)), .second, .val (.ref b4z), .val (.long ((p1 &&& (9223372036854775807 : Int64)) - (((own_max (1 : Int32) (p2 &&& (2147483647 : Int32))).toInt64 - (1 : Int64)) * (3600 : Int64)))), .second, .val (.long (((((own_max (1 : Int32) (p2 &&& (2147483647 : Int32))) - (1 : Int32))).toInt64) * (3600 : Int64))), .second, .unset, .unset] [(.long (((p1 &&& (9223372036854775807 : Int64)) - (((own_max (1 : Int32) (p2 &&& (2147483647 : Int32))).toInt64 - (1 : Int64)) * (3600 : Int64))) + (((((own_max (1 : Int32) (p2 &&& (2147483647 : Int32))) - (1 : Int32))).toInt64) * (3600 : Int64))))])) _
    refine own_go (fun t k => XS.lload X8z.here hx rfl (hb hby at_107) rfl k) ?_
    show own_G p e below (T8z.setTop (mkF m 109 #[.val (.long p1), .second, .val (.int p2), .val (.int p3), .val (.long (p1 &&& (9223372036854775807 : Int64))), .second, .val (.int (own_max (1 : Int32) (p2 &&& (2147483647 : Int32)))), .val (.int (0 : Int32)), .val (.ref aH), .val (.long (3600 : Int64)), .second, .val (.ref b4z), .val (.long ((p1 &&& (9223372036854775807 : Int64)) - (((own_max (1 : Int32) (p2 &&& (2147483647 : Int32))).toInt64 - (1 : Int64)) * (3600 : Int64)))), .second, .val (.long (((((own_max (1 : Int32) (p2 &&& (2147483647 : Int32))) - (1 : Int32))).toInt64) * (3600 : Int64))), .second, .unset, .unset] [(.long (p1 &&& (9223372036854775807 : Int64))), (.long (((p1 &&& (9223372036854775807 : Int64)) - (((own_max (1 : Int32) (p2 &&& (2147483647 : Int32))).toInt64 - (1 : Int64)) * (3600 : Int64))) + (((((own_max (1 : Int32) (p2 &&& (2147483647 : Int32))) - (1 : Int32))).toInt64) * (3600 : Int64))))])) _
    refine own_go (fun t k => XS.lcmp X8z.here hx rfl (hb hby at_109) rfl k) ?_
    show own_G p e below (T8z.setTop (mkF m 110 #[.val (.long p1), .second, .val (.int p2), .val (.int p3), .val (.long (p1 &&& (9223372036854775807 : Int64))), .second, .val (.int (own_max (1 : Int32) (p2 &&& (2147483647 : Int32)))), .val (.int (0 : Int32)), .val (.ref aH), .val (.long (3600 : Int64)), .second, .val (.ref b4z), .val (.long ((p1 &&& (9223372036854775807 : Int64)) - (((own_max (1 : Int32) (p2 &&& (2147483647 : Int32))).toInt64 - (1 : Int64)) * (3600 : Int64)))), .second, .val (.long (((((own_max (1 : Int32) (p2 &&& (2147483647 : Int32))) - (1 : Int32))).toInt64) * (3600 : Int64))), .second, .unset, .unset] [(.int (lcmpW (((p1 &&& (9223372036854775807 : Int64)) - (((own_max (1 : Int32) (p2 &&& (2147483647 : Int32))).toInt64 - (1 : Int64)) * (3600 : Int64))) + (((((own_max (1 : Int32) (p2 &&& (2147483647 : Int32))) - (1 : Int32))).toInt64) * (3600 : Int64))) (p1 &&& (9223372036854775807 : Int64))))])) _
    refine own_go (fun t k => XS.ifNo X8z.here hx rfl (hb hby at_110) rfl ((if0 _ _).trans (teq ((lw_eq (((p1 &&& (9223372036854775807 : Int64)) - (((own_max (1 : Int32) (p2 &&& (2147483647 : Int32))).toInt64 - (1 : Int64)) * (3600 : Int64))) + (((((own_max (1 : Int32) (p2 &&& (2147483647 : Int32))) - (1 : Int32))).toInt64) * (3600 : Int64))) (p1 &&& (9223372036854775807 : Int64))).mpr (own_eq (own_R p2)))).2) k) ?_
    show own_G p e below (T8z.setTop (mkF m 113 #[.val (.long p1), .second, .val (.int p2), .val (.int p3), .val (.long (p1 &&& (9223372036854775807 : Int64))), .second, .val (.int (own_max (1 : Int32) (p2 &&& (2147483647 : Int32)))), .val (.int (0 : Int32)), .val (.ref aH), .val (.long (3600 : Int64)), .second, .val (.ref b4z), .val (.long ((p1 &&& (9223372036854775807 : Int64)) - (((own_max (1 : Int32) (p2 &&& (2147483647 : Int32))).toInt64 - (1 : Int64)) * (3600 : Int64)))), .second, .val (.long (((((own_max (1 : Int32) (p2 &&& (2147483647 : Int32))) - (1 : Int32))).toInt64) * (3600 : Int64))), .second, .unset, .unset] [])) _
    refine own_go (fun t k => XS.iconst X8z.here hx rfl (hb hby at_113) k) ?_
    show own_G p e below (T8z.setTop (mkF m 114 #[.val (.long p1), .second, .val (.int p2), .val (.int p3), .val (.long (p1 &&& (9223372036854775807 : Int64))), .second, .val (.int (own_max (1 : Int32) (p2 &&& (2147483647 : Int32)))), .val (.int (0 : Int32)), .val (.ref aH), .val (.long (3600 : Int64)), .second, .val (.ref b4z), .val (.long ((p1 &&& (9223372036854775807 : Int64)) - (((own_max (1 : Int32) (p2 &&& (2147483647 : Int32))).toInt64 - (1 : Int64)) * (3600 : Int64)))), .second, .val (.long (((((own_max (1 : Int32) (p2 &&& (2147483647 : Int32))) - (1 : Int32))).toInt64) * (3600 : Int64))), .second, .unset, .unset] [(.int (1 : Int32))])) _
    refine own_go (fun t k => XS.goto X8z.here hx rfl (pc0 := 114) (pc' := 118) rfl (hb hby at_114) (by decide) (by decide) k) ?_
    show own_G p e below (T8z.setTop (mkF m 118 #[.val (.long p1), .second, .val (.int p2), .val (.int p3), .val (.long (p1 &&& (9223372036854775807 : Int64))), .second, .val (.int (own_max (1 : Int32) (p2 &&& (2147483647 : Int32)))), .val (.int (0 : Int32)), .val (.ref aH), .val (.long (3600 : Int64)), .second, .val (.ref b4z), .val (.long ((p1 &&& (9223372036854775807 : Int64)) - (((own_max (1 : Int32) (p2 &&& (2147483647 : Int32))).toInt64 - (1 : Int64)) * (3600 : Int64)))), .second, .val (.long (((((own_max (1 : Int32) (p2 &&& (2147483647 : Int32))) - (1 : Int32))).toInt64) * (3600 : Int64))), .second, .unset, .unset] [(.int (1 : Int32))])) _
    refine own_go (fun t k => XS.istore X8z.here hx rfl (hb hby at_118) rfl (l' := #[.val (.long p1), .second, .val (.int p2), .val (.int p3), .val (.long (p1 &&& (9223372036854775807 : Int64))), .second, .val (.int (own_max (1 : Int32) (p2 &&& (2147483647 : Int32)))), .val (.int (0 : Int32)), .val (.ref aH), .val (.long (3600 : Int64)), .second, .val (.ref b4z), .val (.long ((p1 &&& (9223372036854775807 : Int64)) - (((own_max (1 : Int32) (p2 &&& (2147483647 : Int32))).toInt64 - (1 : Int64)) * (3600 : Int64)))), .second, .val (.long (((((own_max (1 : Int32) (p2 &&& (2147483647 : Int32))) - (1 : Int32))).toInt64) * (3600 : Int64))), .second, .val (.int (1 : Int32)), .unset]) rfl k) ?_
    show own_G p e below (T8z.setTop (mkF m 120 #[.val (.long p1), .second, .val (.int p2), .val (.int p3), .val (.long (p1 &&& (9223372036854775807 : Int64))), .second, .val (.int (own_max (1 : Int32) (p2 &&& (2147483647 : Int32)))), .val (.int (0 : Int32)), .val (.ref aH), .val (.long (3600 : Int64)), .second, .val (.ref b4z), .val (.long ((p1 &&& (9223372036854775807 : Int64)) - (((own_max (1 : Int32) (p2 &&& (2147483647 : Int32))).toInt64 - (1 : Int64)) * (3600 : Int64)))), .second, .val (.long (((((own_max (1 : Int32) (p2 &&& (2147483647 : Int32))) - (1 : Int32))).toInt64) * (3600 : Int64))), .second, .val (.int (1 : Int32)), .unset] [])) _
    obtain ⟨T9z, h9z, X9z, e9z, E9z, A9z, D9z, -, st9z⟩ := newO X8z hx hZ hown (own_hw hw 10 rfl) (own_hw hw 11 rfl) (own_hw hw 12 rfl) K8zq (g := (mkF m 120 #[.val (.long p1), .second, .val (.int p2), .val (.int p3), .val (.long (p1 &&& (9223372036854775807 : Int64))), .second, .val (.int (own_max (1 : Int32) (p2 &&& (2147483647 : Int32)))), .val (.int (0 : Int32)), .val (.ref aH), .val (.long (3600 : Int64)), .second, .val (.ref b4z), .val (.long ((p1 &&& (9223372036854775807 : Int64)) - (((own_max (1 : Int32) (p2 &&& (2147483647 : Int32))).toInt64 - (1 : Int64)) * (3600 : Int64)))), .second, .val (.long (((((own_max (1 : Int32) (p2 &&& (2147483647 : Int32))) - (1 : Int32))).toInt64) * (3600 : Int64))), .second, .val (.int (1 : Int32)), .unset] [])) rfl (hb hby at_120) (by decide) (by decide)
    obtain ⟨b9z, g9z⟩ : ∃ z, z = T6z.heap.size := ⟨_, rfl⟩
    rw [← g9z] at A9z D9z st9z
    have fr_b9z : Z.heap.size ≤ b9z := g9z ▸ O7z.1
    have lz_b9z : h0.size ≤ b9z := g9z ▸ K7z.1
    have ne_b4z_b9z : b4z ≠ b9z := Nat.ne_of_lt (g9z ▸ r6z_0.lt)
    have O10z : Ext Z.heap h9z := own_ext_trans O7z E9z
    have K10z : Keep h0 h9z [] := K7z.ext E9z
    have F9z_span : Fld Z h9z b9z "com/example/sams/sams/Slicing" "span" "Lcom/example/sams/sams/Slicing$Span;" .null := D9z (Or.inr (own_hw hw 20 rfl)) (ty := (.object "com/example/sams/sams/Slicing$Span")) (by decide)
    have F9z_retain : Fld Z h9z b9z "com/example/sams/sams/Slicing" "retain" "I" (.int (0 : Int32)) := D9z (Or.inr (own_hw hw 22 rfl)) (ty := .int) (by decide)
    refine own_go st9z ?_
    show own_G p e below (T9z.setTop (mkF m 123 #[.val (.long p1), .second, .val (.int p2), .val (.int p3), .val (.long (p1 &&& (9223372036854775807 : Int64))), .second, .val (.int (own_max (1 : Int32) (p2 &&& (2147483647 : Int32)))), .val (.int (0 : Int32)), .val (.ref aH), .val (.long (3600 : Int64)), .second, .val (.ref b4z), .val (.long ((p1 &&& (9223372036854775807 : Int64)) - (((own_max (1 : Int32) (p2 &&& (2147483647 : Int32))).toInt64 - (1 : Int64)) * (3600 : Int64)))), .second, .val (.long (((((own_max (1 : Int32) (p2 &&& (2147483647 : Int32))) - (1 : Int32))).toInt64) * (3600 : Int64))), .second, .val (.int (1 : Int32)), .unset] [(.ref b9z)])) _
    refine own_go (fun t k => XS.dup X9z.here hx rfl (hb hby at_123) rfl rfl k) ?_
    show own_G p e below (T9z.setTop (mkF m 124 #[.val (.long p1), .second, .val (.int p2), .val (.int p3), .val (.long (p1 &&& (9223372036854775807 : Int64))), .second, .val (.int (own_max (1 : Int32) (p2 &&& (2147483647 : Int32)))), .val (.int (0 : Int32)), .val (.ref aH), .val (.long (3600 : Int64)), .second, .val (.ref b4z), .val (.long ((p1 &&& (9223372036854775807 : Int64)) - (((own_max (1 : Int32) (p2 &&& (2147483647 : Int32))).toInt64 - (1 : Int64)) * (3600 : Int64)))), .second, .val (.long (((((own_max (1 : Int32) (p2 &&& (2147483647 : Int32))) - (1 : Int32))).toInt64) * (3600 : Int64))), .second, .val (.int (1 : Int32)), .unset] [(.ref b9z), (.ref b9z)])) _
    refine own_go (fun t k => XS.aload X9z.here hx rfl (hb hby at_124) rfl rfl k) ?_
    show own_G p e below (T9z.setTop (mkF m 126 #[.val (.long p1), .second, .val (.int p2), .val (.int p3), .val (.long (p1 &&& (9223372036854775807 : Int64))), .second, .val (.int (own_max (1 : Int32) (p2 &&& (2147483647 : Int32)))), .val (.int (0 : Int32)), .val (.ref aH), .val (.long (3600 : Int64)), .second, .val (.ref b4z), .val (.long ((p1 &&& (9223372036854775807 : Int64)) - (((own_max (1 : Int32) (p2 &&& (2147483647 : Int32))).toInt64 - (1 : Int64)) * (3600 : Int64)))), .second, .val (.long (((((own_max (1 : Int32) (p2 &&& (2147483647 : Int32))) - (1 : Int32))).toInt64) * (3600 : Int64))), .second, .val (.int (1 : Int32)), .unset] [(.ref aH), (.ref b9z), (.ref b9z)])) _
    refine own_go (fun t k => XS.iconst X9z.here hx rfl (hb hby at_126) k) ?_
    show own_G p e below (T9z.setTop (mkF m 127 #[.val (.long p1), .second, .val (.int p2), .val (.int p3), .val (.long (p1 &&& (9223372036854775807 : Int64))), .second, .val (.int (own_max (1 : Int32) (p2 &&& (2147483647 : Int32)))), .val (.int (0 : Int32)), .val (.ref aH), .val (.long (3600 : Int64)), .second, .val (.ref b4z), .val (.long ((p1 &&& (9223372036854775807 : Int64)) - (((own_max (1 : Int32) (p2 &&& (2147483647 : Int32))).toInt64 - (1 : Int64)) * (3600 : Int64)))), .second, .val (.long (((((own_max (1 : Int32) (p2 &&& (2147483647 : Int32))) - (1 : Int32))).toInt64) * (3600 : Int64))), .second, .val (.int (1 : Int32)), .unset] [(.int (1 : Int32)), (.ref aH), (.ref b9z), (.ref b9z)])) _
    obtain ⟨_, _, ⟨T11z, L11z, k11z, n11z⟩, -, X11z, ⟨Lc11z, hQ11z, l11z, y11z, z11z⟩, st11z⟩ := X9z.specialBack hx (y := own_m1) rfl hown (mvT hZ (own_hw hw 13 rfl)) (mvT hZ (own_hw hw 14 rfl)) (mvT hZ (own_hw hw 15 rfl)) (by decide) (backOf (W := 1) (own_init l Z a0 hw [] b9z aH (1 : Int32) h9z O10z A9z F9z_span F9z_retain fr_b9z (by decide)) hZ (own_hw hw 15 rfl) (own_hw hw 12 rfl) (by decide) (by decide)) (g := (mkF m 127 #[.val (.long p1), .second, .val (.int p2), .val (.int p3), .val (.long (p1 &&& (9223372036854775807 : Int64))), .second, .val (.int (own_max (1 : Int32) (p2 &&& (2147483647 : Int32)))), .val (.int (0 : Int32)), .val (.ref aH), .val (.long (3600 : Int64)), .second, .val (.ref b4z), .val (.long ((p1 &&& (9223372036854775807 : Int64)) - (((own_max (1 : Int32) (p2 &&& (2147483647 : Int32))).toInt64 - (1 : Int64)) * (3600 : Int64)))), .second, .val (.long (((((own_max (1 : Int32) (p2 &&& (2147483647 : Int32))) - (1 : Int32))).toInt64) * (3600 : Int64))), .second, .val (.int (1 : Int32)), .unset] [(.int (1 : Int32)), (.ref aH), (.ref b9z), (.ref b9z)])) rfl (by rw [hml]; rfl) (Steps.refl _) (a := b9z) (argsL := [(.ref aH), (.int (1 : Int32))]) (rest := [(.ref b9z)]) (lenOf pd_305282378 rfl) rfl (by show 2 * 0 + _ ≤ _; exact Nat.le_of_eq rfl) (hb hby at_127) (fun _ _ => ⟨rfl, e9z, (by decide : 2 + 0 ≤ _), (by decide : 4 + 0 ≤ _)⟩)
    dsimp only [Pt.U, Pt.locs, Pt.cells, Pt.slots] at X11z l11z y11z z11z st11z hQ11z
    subst l11z y11z z11z
    obtain ⟨rfl, NQ11z, K11zq, r11z_0, r11z_1, r11z_2⟩ := hQ11z
    refine own_tr st11z ?_
    have N11z := Fr.app N8z NQ11z
    have O12z : Ext Z.heap T11z.heap := own_ext_keep O10z K11zq (allS fr_b9z all0)
    have K12z : Keep h0 T11z.heap [] := K10z.trans K11zq (allS (Or.inr lz_b9z) all0)
    show own_G p e below (T11z.setTop (mkF m 130 #[.val (.long p1), .second, .val (.int p2), .val (.int p3), .val (.long (p1 &&& (9223372036854775807 : Int64))), .second, .val (.int (own_max (1 : Int32) (p2 &&& (2147483647 : Int32)))), .val (.int (0 : Int32)), .val (.ref aH), .val (.long (3600 : Int64)), .second, .val (.ref b4z), .val (.long ((p1 &&& (9223372036854775807 : Int64)) - (((own_max (1 : Int32) (p2 &&& (2147483647 : Int32))).toInt64 - (1 : Int64)) * (3600 : Int64)))), .second, .val (.long (((((own_max (1 : Int32) (p2 &&& (2147483647 : Int32))) - (1 : Int32))).toInt64) * (3600 : Int64))), .second, .val (.int (1 : Int32)), .unset] [(.ref b9z)])) _
    refine own_go (fun t k => XS.astore X11z.here hx rfl (hb hby at_130) rfl rfl (l' := #[.val (.long p1), .second, .val (.int p2), .val (.int p3), .val (.long (p1 &&& (9223372036854775807 : Int64))), .second, .val (.int (own_max (1 : Int32) (p2 &&& (2147483647 : Int32)))), .val (.int (0 : Int32)), .val (.ref aH), .val (.long (3600 : Int64)), .second, .val (.ref b4z), .val (.long ((p1 &&& (9223372036854775807 : Int64)) - (((own_max (1 : Int32) (p2 &&& (2147483647 : Int32))).toInt64 - (1 : Int64)) * (3600 : Int64)))), .second, .val (.long (((((own_max (1 : Int32) (p2 &&& (2147483647 : Int32))) - (1 : Int32))).toInt64) * (3600 : Int64))), .second, .val (.int (1 : Int32)), .val (.ref b9z)]) rfl k) ?_
    show own_G p e below (T11z.setTop (mkF m 132 #[.val (.long p1), .second, .val (.int p2), .val (.int p3), .val (.long (p1 &&& (9223372036854775807 : Int64))), .second, .val (.int (own_max (1 : Int32) (p2 &&& (2147483647 : Int32)))), .val (.int (0 : Int32)), .val (.ref aH), .val (.long (3600 : Int64)), .second, .val (.ref b4z), .val (.long ((p1 &&& (9223372036854775807 : Int64)) - (((own_max (1 : Int32) (p2 &&& (2147483647 : Int32))).toInt64 - (1 : Int64)) * (3600 : Int64)))), .second, .val (.long (((((own_max (1 : Int32) (p2 &&& (2147483647 : Int32))) - (1 : Int32))).toInt64) * (3600 : Int64))), .second, .val (.int (1 : Int32)), .val (.ref b9z)] [])) _
    refine own_go (fun t k => XS.iload X11z.here hx rfl (hb hby at_132) rfl k) ?_
    show own_G p e below (T11z.setTop (mkF m 134 #[.val (.long p1), .second, .val (.int p2), .val (.int p3), .val (.long (p1 &&& (9223372036854775807 : Int64))), .second, .val (.int (own_max (1 : Int32) (p2 &&& (2147483647 : Int32)))), .val (.int (0 : Int32)), .val (.ref aH), .val (.long (3600 : Int64)), .second, .val (.ref b4z), .val (.long ((p1 &&& (9223372036854775807 : Int64)) - (((own_max (1 : Int32) (p2 &&& (2147483647 : Int32))).toInt64 - (1 : Int64)) * (3600 : Int64)))), .second, .val (.long (((((own_max (1 : Int32) (p2 &&& (2147483647 : Int32))) - (1 : Int32))).toInt64) * (3600 : Int64))), .second, .val (.int (1 : Int32)), .val (.ref b9z)] [(.int (1 : Int32))])) _
    refine own_go (fun t k => XS.ifNo X11z.here hx rfl (hb hby at_134) rfl ((if0 _ _).trans (feq (by decide : ¬ ((1 : Int32) = (0 : Int32)))).1) k) ?_
    show own_G p e below (T11z.setTop (mkF m 137 #[.val (.long p1), .second, .val (.int p2), .val (.int p3), .val (.long (p1 &&& (9223372036854775807 : Int64))), .second, .val (.int (own_max (1 : Int32) (p2 &&& (2147483647 : Int32)))), .val (.int (0 : Int32)), .val (.ref aH), .val (.long (3600 : Int64)), .second, .val (.ref b4z), .val (.long ((p1 &&& (9223372036854775807 : Int64)) - (((own_max (1 : Int32) (p2 &&& (2147483647 : Int32))).toInt64 - (1 : Int64)) * (3600 : Int64)))), .second, .val (.long (((((own_max (1 : Int32) (p2 &&& (2147483647 : Int32))) - (1 : Int32))).toInt64) * (3600 : Int64))), .second, .val (.int (1 : Int32)), .val (.ref b9z)] [])) _
    refine own_go (fun t k => XS.aload X11z.here hx rfl (hb hby at_137) rfl rfl k) ?_
    show own_G p e below (T11z.setTop (mkF m 139 #[.val (.long p1), .second, .val (.int p2), .val (.int p3), .val (.long (p1 &&& (9223372036854775807 : Int64))), .second, .val (.int (own_max (1 : Int32) (p2 &&& (2147483647 : Int32)))), .val (.int (0 : Int32)), .val (.ref aH), .val (.long (3600 : Int64)), .second, .val (.ref b4z), .val (.long ((p1 &&& (9223372036854775807 : Int64)) - (((own_max (1 : Int32) (p2 &&& (2147483647 : Int32))).toInt64 - (1 : Int64)) * (3600 : Int64)))), .second, .val (.long (((((own_max (1 : Int32) (p2 &&& (2147483647 : Int32))) - (1 : Int32))).toInt64) * (3600 : Int64))), .second, .val (.int (1 : Int32)), .val (.ref b9z)] [(.ref b9z)])) _
    refine own_go (fun t k => XS.lload X11z.here hx rfl (hb hby at_139) rfl k) ?_
    show own_G p e below (T11z.setTop (mkF m 141 #[.val (.long p1), .second, .val (.int p2), .val (.int p3), .val (.long (p1 &&& (9223372036854775807 : Int64))), .second, .val (.int (own_max (1 : Int32) (p2 &&& (2147483647 : Int32)))), .val (.int (0 : Int32)), .val (.ref aH), .val (.long (3600 : Int64)), .second, .val (.ref b4z), .val (.long ((p1 &&& (9223372036854775807 : Int64)) - (((own_max (1 : Int32) (p2 &&& (2147483647 : Int32))).toInt64 - (1 : Int64)) * (3600 : Int64)))), .second, .val (.long (((((own_max (1 : Int32) (p2 &&& (2147483647 : Int32))) - (1 : Int32))).toInt64) * (3600 : Int64))), .second, .val (.int (1 : Int32)), .val (.ref b9z)] [(.long (p1 &&& (9223372036854775807 : Int64))), (.ref b9z)])) _
    obtain ⟨cq13z, kq13z, qa13z, qb13z, qc13z⟩ := isOf hZ (rfl : T11z.heap = _) r11z_0
    obtain ⟨_, _, ⟨T13z, L13z, k13z, n13z⟩, -, X13z, ⟨Lc13z, hQ13z, l13z, y13z, z13z⟩, st13z⟩ := X11z.virtualBack hx (y := own_m2) (z := own_m2) hown (mvT hZ (own_hw hw 23 rfl)) (mvT hZ (own_hw hw 24 rfl)) (notFace_of_selects (args := #[]) (mvT hZ (own_hw hw 26 rfl))) (mvT hZ (own_hw hw 26 rfl)) (mvT hZ (own_hw hw 25 rfl)) (by decide) (backOf (W := 0) (own_old l Z a0 hw [] b9z (p1 &&& (9223372036854775807 : Int64)) (1 : Int32) aH (3600 : Int64) T11z.heap O12z r11z_2 r11z_1 FH) hZ (own_hw hw 27 rfl) (own_hw hw 12 rfl) (by decide) (by decide)) qa13z qc13z (g := (mkF m 141 #[.val (.long p1), .second, .val (.int p2), .val (.int p3), .val (.long (p1 &&& (9223372036854775807 : Int64))), .second, .val (.int (own_max (1 : Int32) (p2 &&& (2147483647 : Int32)))), .val (.int (0 : Int32)), .val (.ref aH), .val (.long (3600 : Int64)), .second, .val (.ref b4z), .val (.long ((p1 &&& (9223372036854775807 : Int64)) - (((own_max (1 : Int32) (p2 &&& (2147483647 : Int32))).toInt64 - (1 : Int64)) * (3600 : Int64)))), .second, .val (.long (((((own_max (1 : Int32) (p2 &&& (2147483647 : Int32))) - (1 : Int32))).toInt64) * (3600 : Int64))), .second, .val (.int (1 : Int32)), .val (.ref b9z)] [(.long (p1 &&& (9223372036854775807 : Int64))), (.ref b9z)])) rfl (by rw [hml]; rfl) (Steps.refl _) (argsL := [(.long (p1 &&& (9223372036854775807 : Int64)))]) (rest := []) (lenOf pd_2087993098 rfl) rfl (by show 2 * 0 + _ ≤ _; exact Nat.le_of_eq rfl) (hb hby at_141) (fun _ _ => ⟨rfl, rfl, (by decide : 2 + 0 ≤ _), (by decide : 4 + 0 ≤ _)⟩)
    dsimp only [Pt.U, Pt.locs, Pt.cells, Pt.slots] at X13z l13z y13z z13z st13z hQ13z
    subst l13z y13z z13z
    obtain ⟨rfl, NQ13z, K13zq⟩ := hQ13z
    refine own_tr st13z ?_
    have N13z := Fr.app N11z NQ13z
    show own_G p e below (T13z.setTop (mkF m 144 #[.val (.long p1), .second, .val (.int p2), .val (.int p3), .val (.long (p1 &&& (9223372036854775807 : Int64))), .second, .val (.int (own_max (1 : Int32) (p2 &&& (2147483647 : Int32)))), .val (.int (0 : Int32)), .val (.ref aH), .val (.long (3600 : Int64)), .second, .val (.ref b4z), .val (.long ((p1 &&& (9223372036854775807 : Int64)) - (((own_max (1 : Int32) (p2 &&& (2147483647 : Int32))).toInt64 - (1 : Int64)) * (3600 : Int64)))), .second, .val (.long (((((own_max (1 : Int32) (p2 &&& (2147483647 : Int32))) - (1 : Int32))).toInt64) * (3600 : Int64))), .second, .val (.int (1 : Int32)), .val (.ref b9z)] [(.long ((p1 &&& (9223372036854775807 : Int64)) - (((1 : Int32).toInt64 - (1 : Int64)) * (3600 : Int64))))])) _
    refine own_go (fun t k => XS.lload X13z.here hx rfl (hb hby at_144) rfl k) ?_
    show own_G p e below (T13z.setTop (mkF m 146 #[.val (.long p1), .second, .val (.int p2), .val (.int p3), .val (.long (p1 &&& (9223372036854775807 : Int64))), .second, .val (.int (own_max (1 : Int32) (p2 &&& (2147483647 : Int32)))), .val (.int (0 : Int32)), .val (.ref aH), .val (.long (3600 : Int64)), .second, .val (.ref b4z), .val (.long ((p1 &&& (9223372036854775807 : Int64)) - (((own_max (1 : Int32) (p2 &&& (2147483647 : Int32))).toInt64 - (1 : Int64)) * (3600 : Int64)))), .second, .val (.long (((((own_max (1 : Int32) (p2 &&& (2147483647 : Int32))) - (1 : Int32))).toInt64) * (3600 : Int64))), .second, .val (.int (1 : Int32)), .val (.ref b9z)] [(.long (p1 &&& (9223372036854775807 : Int64))), (.long ((p1 &&& (9223372036854775807 : Int64)) - (((1 : Int32).toInt64 - (1 : Int64)) * (3600 : Int64))))])) _
    refine own_go (fun t k => XS.lcmp X13z.here hx rfl (hb hby at_146) rfl k) ?_
    show own_G p e below (T13z.setTop (mkF m 147 #[.val (.long p1), .second, .val (.int p2), .val (.int p3), .val (.long (p1 &&& (9223372036854775807 : Int64))), .second, .val (.int (own_max (1 : Int32) (p2 &&& (2147483647 : Int32)))), .val (.int (0 : Int32)), .val (.ref aH), .val (.long (3600 : Int64)), .second, .val (.ref b4z), .val (.long ((p1 &&& (9223372036854775807 : Int64)) - (((own_max (1 : Int32) (p2 &&& (2147483647 : Int32))).toInt64 - (1 : Int64)) * (3600 : Int64)))), .second, .val (.long (((((own_max (1 : Int32) (p2 &&& (2147483647 : Int32))) - (1 : Int32))).toInt64) * (3600 : Int64))), .second, .val (.int (1 : Int32)), .val (.ref b9z)] [(.int (lcmpW ((p1 &&& (9223372036854775807 : Int64)) - (((1 : Int32).toInt64 - (1 : Int64)) * (3600 : Int64))) (p1 &&& (9223372036854775807 : Int64))))])) _
    refine own_go (fun t k => XS.ifNo X13z.here hx rfl (hb hby at_147) rfl ((if0 _ _).trans (teq ((lw_eq ((p1 &&& (9223372036854775807 : Int64)) - (((1 : Int32).toInt64 - (1 : Int64)) * (3600 : Int64))) (p1 &&& (9223372036854775807 : Int64))).mpr own_one)).2) k) ?_
    show own_G p e below (T13z.setTop (mkF m 150 #[.val (.long p1), .second, .val (.int p2), .val (.int p3), .val (.long (p1 &&& (9223372036854775807 : Int64))), .second, .val (.int (own_max (1 : Int32) (p2 &&& (2147483647 : Int32)))), .val (.int (0 : Int32)), .val (.ref aH), .val (.long (3600 : Int64)), .second, .val (.ref b4z), .val (.long ((p1 &&& (9223372036854775807 : Int64)) - (((own_max (1 : Int32) (p2 &&& (2147483647 : Int32))).toInt64 - (1 : Int64)) * (3600 : Int64)))), .second, .val (.long (((((own_max (1 : Int32) (p2 &&& (2147483647 : Int32))) - (1 : Int32))).toInt64) * (3600 : Int64))), .second, .val (.int (1 : Int32)), .val (.ref b9z)] [])) _
    refine own_go (fun t k => XS.iconst X13z.here hx rfl (hb hby at_150) k) ?_
    show own_G p e below (T13z.setTop (mkF m 151 #[.val (.long p1), .second, .val (.int p2), .val (.int p3), .val (.long (p1 &&& (9223372036854775807 : Int64))), .second, .val (.int (own_max (1 : Int32) (p2 &&& (2147483647 : Int32)))), .val (.int (0 : Int32)), .val (.ref aH), .val (.long (3600 : Int64)), .second, .val (.ref b4z), .val (.long ((p1 &&& (9223372036854775807 : Int64)) - (((own_max (1 : Int32) (p2 &&& (2147483647 : Int32))).toInt64 - (1 : Int64)) * (3600 : Int64)))), .second, .val (.long (((((own_max (1 : Int32) (p2 &&& (2147483647 : Int32))) - (1 : Int32))).toInt64) * (3600 : Int64))), .second, .val (.int (1 : Int32)), .val (.ref b9z)] [(.int (1 : Int32))])) _
    refine own_go (fun t k => XS.goto X13z.here hx rfl (pc0 := 151) (pc' := 155) rfl (hb hby at_151) (by decide) (by decide) k) ?_
    show own_G p e below (T13z.setTop (mkF m 155 #[.val (.long p1), .second, .val (.int p2), .val (.int p3), .val (.long (p1 &&& (9223372036854775807 : Int64))), .second, .val (.int (own_max (1 : Int32) (p2 &&& (2147483647 : Int32)))), .val (.int (0 : Int32)), .val (.ref aH), .val (.long (3600 : Int64)), .second, .val (.ref b4z), .val (.long ((p1 &&& (9223372036854775807 : Int64)) - (((own_max (1 : Int32) (p2 &&& (2147483647 : Int32))).toInt64 - (1 : Int64)) * (3600 : Int64)))), .second, .val (.long (((((own_max (1 : Int32) (p2 &&& (2147483647 : Int32))) - (1 : Int32))).toInt64) * (3600 : Int64))), .second, .val (.int (1 : Int32)), .val (.ref b9z)] [(.int (1 : Int32))])) _
    refine own_go (fun t k => XS.istore X13z.here hx rfl (hb hby at_155) rfl (l' := #[.val (.long p1), .second, .val (.int p2), .val (.int p3), .val (.long (p1 &&& (9223372036854775807 : Int64))), .second, .val (.int (own_max (1 : Int32) (p2 &&& (2147483647 : Int32)))), .val (.int (0 : Int32)), .val (.ref aH), .val (.long (3600 : Int64)), .second, .val (.ref b4z), .val (.long ((p1 &&& (9223372036854775807 : Int64)) - (((own_max (1 : Int32) (p2 &&& (2147483647 : Int32))).toInt64 - (1 : Int64)) * (3600 : Int64)))), .second, .val (.long (((((own_max (1 : Int32) (p2 &&& (2147483647 : Int32))) - (1 : Int32))).toInt64) * (3600 : Int64))), .second, .val (.int (1 : Int32)), .val (.ref b9z)]) rfl k) ?_
    show own_G p e below (T13z.setTop (mkF m 157 #[.val (.long p1), .second, .val (.int p2), .val (.int p3), .val (.long (p1 &&& (9223372036854775807 : Int64))), .second, .val (.int (own_max (1 : Int32) (p2 &&& (2147483647 : Int32)))), .val (.int (0 : Int32)), .val (.ref aH), .val (.long (3600 : Int64)), .second, .val (.ref b4z), .val (.long ((p1 &&& (9223372036854775807 : Int64)) - (((own_max (1 : Int32) (p2 &&& (2147483647 : Int32))).toInt64 - (1 : Int64)) * (3600 : Int64)))), .second, .val (.long (((((own_max (1 : Int32) (p2 &&& (2147483647 : Int32))) - (1 : Int32))).toInt64) * (3600 : Int64))), .second, .val (.int (1 : Int32)), .val (.ref b9z)] [])) _
    refine own_go (fun t k => XS.iload X13z.here hx rfl (hb hby at_157) rfl k) ?_
    show own_G p e below (T13z.setTop (mkF m 159 #[.val (.long p1), .second, .val (.int p2), .val (.int p3), .val (.long (p1 &&& (9223372036854775807 : Int64))), .second, .val (.int (own_max (1 : Int32) (p2 &&& (2147483647 : Int32)))), .val (.int (0 : Int32)), .val (.ref aH), .val (.long (3600 : Int64)), .second, .val (.ref b4z), .val (.long ((p1 &&& (9223372036854775807 : Int64)) - (((own_max (1 : Int32) (p2 &&& (2147483647 : Int32))).toInt64 - (1 : Int64)) * (3600 : Int64)))), .second, .val (.long (((((own_max (1 : Int32) (p2 &&& (2147483647 : Int32))) - (1 : Int32))).toInt64) * (3600 : Int64))), .second, .val (.int (1 : Int32)), .val (.ref b9z)] [(.int (1 : Int32))])) _
    exact own_ret X13z hx Bd.returns rfl (Or.inl ⟨rfl, Or.inr (Or.inl rfl), _, rfl⟩) (hb hby at_159) hlk (Nat.le_of_ble_eq_true rfl) (Nat.le_of_ble_eq_true rfl) (by show Q_own_law Z p1 p2 p3 aD aH h0 _ T13z.heap _; rw [K13zq]; exact ⟨rfl, N13z, K12z⟩)
  · refine own_go (fun t k => XS.ifNo X1z.here hx rfl (hb hby at_20) rfl ((if0 _ _).trans (feq hc2z).1) k) ?_
    show own_G p e below (T1z.setTop (mkF m 23 #[.val (.long p1), .second, .val (.int p2), .val (.int p3), .val (.long (p1 &&& (9223372036854775807 : Int64))), .second, .val (.int (own_max (1 : Int32) (p2 &&& (2147483647 : Int32)))), .unset, .unset, .unset, .unset, .unset, .unset, .unset, .unset, .unset, .unset, .unset] [])) _
    refine own_go (fun t k => XS.iconst X1z.here hx rfl (hb hby at_23) k) ?_
    show own_G p e below (T1z.setTop (mkF m 24 #[.val (.long p1), .second, .val (.int p2), .val (.int p3), .val (.long (p1 &&& (9223372036854775807 : Int64))), .second, .val (.int (own_max (1 : Int32) (p2 &&& (2147483647 : Int32)))), .unset, .unset, .unset, .unset, .unset, .unset, .unset, .unset, .unset, .unset, .unset] [(.int (1 : Int32))])) _
    refine own_go (fun t k => XS.goto X1z.here hx rfl (pc0 := 24) (pc' := 28) rfl (hb hby at_24) (by decide) (by decide) k) ?_
    show own_G p e below (T1z.setTop (mkF m 28 #[.val (.long p1), .second, .val (.int p2), .val (.int p3), .val (.long (p1 &&& (9223372036854775807 : Int64))), .second, .val (.int (own_max (1 : Int32) (p2 &&& (2147483647 : Int32)))), .unset, .unset, .unset, .unset, .unset, .unset, .unset, .unset, .unset, .unset, .unset] [(.int (1 : Int32))])) _
    refine own_go (fun t k => XS.istore X1z.here hx rfl (hb hby at_28) rfl (l' := #[.val (.long p1), .second, .val (.int p2), .val (.int p3), .val (.long (p1 &&& (9223372036854775807 : Int64))), .second, .val (.int (own_max (1 : Int32) (p2 &&& (2147483647 : Int32)))), .val (.int (1 : Int32)), .unset, .unset, .unset, .unset, .unset, .unset, .unset, .unset, .unset, .unset]) rfl k) ?_
    show own_G p e below (T1z.setTop (mkF m 30 #[.val (.long p1), .second, .val (.int p2), .val (.int p3), .val (.long (p1 &&& (9223372036854775807 : Int64))), .second, .val (.int (own_max (1 : Int32) (p2 &&& (2147483647 : Int32)))), .val (.int (1 : Int32)), .unset, .unset, .unset, .unset, .unset, .unset, .unset, .unset, .unset, .unset] [])) _
    refine own_go (fun t k => XS.iload X1z.here hx rfl (hb hby at_30) rfl k) ?_
    show own_G p e below (T1z.setTop (mkF m 32 #[.val (.long p1), .second, .val (.int p2), .val (.int p3), .val (.long (p1 &&& (9223372036854775807 : Int64))), .second, .val (.int (own_max (1 : Int32) (p2 &&& (2147483647 : Int32)))), .val (.int (1 : Int32)), .unset, .unset, .unset, .unset, .unset, .unset, .unset, .unset, .unset, .unset] [(.int (1 : Int32))])) _
    refine own_go (fun t k => XS.ifNo X1z.here hx rfl (hb hby at_32) rfl ((if0 _ _).trans (feq (by decide : ¬ ((1 : Int32) = (0 : Int32)))).1) k) ?_
    show own_G p e below (T1z.setTop (mkF m 35 #[.val (.long p1), .second, .val (.int p2), .val (.int p3), .val (.long (p1 &&& (9223372036854775807 : Int64))), .second, .val (.int (own_max (1 : Int32) (p2 &&& (2147483647 : Int32)))), .val (.int (1 : Int32)), .unset, .unset, .unset, .unset, .unset, .unset, .unset, .unset, .unset, .unset] [])) _
    obtain ⟨T14z, X14z, e14z, st14z⟩ := getS2 X1z hx hZ hown (host := "") (Or.inl (own_hw hw 6 rfl)) Via.refl K1zq (S_DAY.ext O0) (g := (mkF m 35 #[.val (.long p1), .second, .val (.int p2), .val (.int p3), .val (.long (p1 &&& (9223372036854775807 : Int64))), .second, .val (.int (own_max (1 : Int32) (p2 &&& (2147483647 : Int32)))), .val (.int (1 : Int32)), .unset, .unset, .unset, .unset, .unset, .unset, .unset, .unset, .unset, .unset] [])) rfl (hb hby at_35)
    refine own_go st14z ?_
    show own_G p e below (T14z.setTop (mkF m 38 #[.val (.long p1), .second, .val (.int p2), .val (.int p3), .val (.long (p1 &&& (9223372036854775807 : Int64))), .second, .val (.int (own_max (1 : Int32) (p2 &&& (2147483647 : Int32)))), .val (.int (1 : Int32)), .unset, .unset, .unset, .unset, .unset, .unset, .unset, .unset, .unset, .unset] [(.ref aD)])) _
    refine own_go (fun t k => XS.goto X14z.here hx rfl (pc0 := 38) (pc' := 44) rfl (hb hby at_38) (by decide) (by decide) k) ?_
    show own_G p e below (T14z.setTop (mkF m 44 #[.val (.long p1), .second, .val (.int p2), .val (.int p3), .val (.long (p1 &&& (9223372036854775807 : Int64))), .second, .val (.int (own_max (1 : Int32) (p2 &&& (2147483647 : Int32)))), .val (.int (1 : Int32)), .unset, .unset, .unset, .unset, .unset, .unset, .unset, .unset, .unset, .unset] [(.ref aD)])) _
    refine own_go (fun t k => XS.astore X14z.here hx rfl (hb hby at_44) rfl rfl (l' := #[.val (.long p1), .second, .val (.int p2), .val (.int p3), .val (.long (p1 &&& (9223372036854775807 : Int64))), .second, .val (.int (own_max (1 : Int32) (p2 &&& (2147483647 : Int32)))), .val (.int (1 : Int32)), .val (.ref aD), .unset, .unset, .unset, .unset, .unset, .unset, .unset, .unset, .unset]) rfl k) ?_
    show own_G p e below (T14z.setTop (mkF m 46 #[.val (.long p1), .second, .val (.int p2), .val (.int p3), .val (.long (p1 &&& (9223372036854775807 : Int64))), .second, .val (.int (own_max (1 : Int32) (p2 &&& (2147483647 : Int32)))), .val (.int (1 : Int32)), .val (.ref aD), .unset, .unset, .unset, .unset, .unset, .unset, .unset, .unset, .unset] [])) _
    refine own_go (fun t k => XS.iload X14z.here hx rfl (hb hby at_46) rfl k) ?_
    show own_G p e below (T14z.setTop (mkF m 48 #[.val (.long p1), .second, .val (.int p2), .val (.int p3), .val (.long (p1 &&& (9223372036854775807 : Int64))), .second, .val (.int (own_max (1 : Int32) (p2 &&& (2147483647 : Int32)))), .val (.int (1 : Int32)), .val (.ref aD), .unset, .unset, .unset, .unset, .unset, .unset, .unset, .unset, .unset] [(.int (1 : Int32))])) _
    refine own_go (fun t k => XS.ifNo X14z.here hx rfl (hb hby at_48) rfl ((if0 _ _).trans (feq (by decide : ¬ ((1 : Int32) = (0 : Int32)))).1) k) ?_
    show own_G p e below (T14z.setTop (mkF m 51 #[.val (.long p1), .second, .val (.int p2), .val (.int p3), .val (.long (p1 &&& (9223372036854775807 : Int64))), .second, .val (.int (own_max (1 : Int32) (p2 &&& (2147483647 : Int32)))), .val (.int (1 : Int32)), .val (.ref aD), .unset, .unset, .unset, .unset, .unset, .unset, .unset, .unset, .unset] [])) _
    refine own_go (fun t k => X14z.ldc2J hx hown (mvT hZ (own_hw hw 9 rfl)) rfl (hb hby at_51) k) ?_
    show own_G p e below (T14z.setTop (mkF m 54 #[.val (.long p1), .second, .val (.int p2), .val (.int p3), .val (.long (p1 &&& (9223372036854775807 : Int64))), .second, .val (.int (own_max (1 : Int32) (p2 &&& (2147483647 : Int32)))), .val (.int (1 : Int32)), .val (.ref aD), .unset, .unset, .unset, .unset, .unset, .unset, .unset, .unset, .unset] [(.long (86400 : Int64))])) _
    refine own_go (fun t k => XS.goto X14z.here hx rfl (pc0 := 54) (pc' := 60) rfl (hb hby at_54) (by decide) (by decide) k) ?_
    show own_G p e below (T14z.setTop (mkF m 60 #[.val (.long p1), .second, .val (.int p2), .val (.int p3), .val (.long (p1 &&& (9223372036854775807 : Int64))), .second, .val (.int (own_max (1 : Int32) (p2 &&& (2147483647 : Int32)))), .val (.int (1 : Int32)), .val (.ref aD), .unset, .unset, .unset, .unset, .unset, .unset, .unset, .unset, .unset] [(.long (86400 : Int64))])) _
    refine own_go (fun t k => XS.lstore X14z.here hx rfl (hb hby at_60) rfl (l' := #[.val (.long p1), .second, .val (.int p2), .val (.int p3), .val (.long (p1 &&& (9223372036854775807 : Int64))), .second, .val (.int (own_max (1 : Int32) (p2 &&& (2147483647 : Int32)))), .val (.int (1 : Int32)), .val (.ref aD), .val (.long (86400 : Int64)), .second, .unset, .unset, .unset, .unset, .unset, .unset, .unset]) rfl k) ?_
    show own_G p e below (T14z.setTop (mkF m 62 #[.val (.long p1), .second, .val (.int p2), .val (.int p3), .val (.long (p1 &&& (9223372036854775807 : Int64))), .second, .val (.int (own_max (1 : Int32) (p2 &&& (2147483647 : Int32)))), .val (.int (1 : Int32)), .val (.ref aD), .val (.long (86400 : Int64)), .second, .unset, .unset, .unset, .unset, .unset, .unset, .unset] [])) _
    obtain ⟨T15z, h15z, X15z, e15z, E15z, A15z, D15z, -, st15z⟩ := newO X14z hx hZ hown (own_hw hw 10 rfl) (own_hw hw 11 rfl) (own_hw hw 12 rfl) e14z (g := (mkF m 62 #[.val (.long p1), .second, .val (.int p2), .val (.int p3), .val (.long (p1 &&& (9223372036854775807 : Int64))), .second, .val (.int (own_max (1 : Int32) (p2 &&& (2147483647 : Int32)))), .val (.int (1 : Int32)), .val (.ref aD), .val (.long (86400 : Int64)), .second, .unset, .unset, .unset, .unset, .unset, .unset, .unset] [])) rfl (hb hby at_62) (by decide) (by decide)
    obtain ⟨b15z, g15z⟩ : ∃ z, z = h0.size := ⟨_, rfl⟩
    rw [← g15z] at A15z D15z st15z
    have fr_b15z : Z.heap.size ≤ b15z := g15z ▸ O0.1
    have lz_b15z : h0.size ≤ b15z := g15z ▸ K0.1
    have O16z : Ext Z.heap h15z := own_ext_trans O0 E15z
    have K16z : Keep h0 h15z [] := K0.ext E15z
    have F15z_span : Fld Z h15z b15z "com/example/sams/sams/Slicing" "span" "Lcom/example/sams/sams/Slicing$Span;" .null := D15z (Or.inr (own_hw hw 20 rfl)) (ty := (.object "com/example/sams/sams/Slicing$Span")) (by decide)
    have F15z_retain : Fld Z h15z b15z "com/example/sams/sams/Slicing" "retain" "I" (.int (0 : Int32)) := D15z (Or.inr (own_hw hw 22 rfl)) (ty := .int) (by decide)
    refine own_go st15z ?_
    show own_G p e below (T15z.setTop (mkF m 65 #[.val (.long p1), .second, .val (.int p2), .val (.int p3), .val (.long (p1 &&& (9223372036854775807 : Int64))), .second, .val (.int (own_max (1 : Int32) (p2 &&& (2147483647 : Int32)))), .val (.int (1 : Int32)), .val (.ref aD), .val (.long (86400 : Int64)), .second, .unset, .unset, .unset, .unset, .unset, .unset, .unset] [(.ref b15z)])) _
    refine own_go (fun t k => XS.dup X15z.here hx rfl (hb hby at_65) rfl rfl k) ?_
    show own_G p e below (T15z.setTop (mkF m 66 #[.val (.long p1), .second, .val (.int p2), .val (.int p3), .val (.long (p1 &&& (9223372036854775807 : Int64))), .second, .val (.int (own_max (1 : Int32) (p2 &&& (2147483647 : Int32)))), .val (.int (1 : Int32)), .val (.ref aD), .val (.long (86400 : Int64)), .second, .unset, .unset, .unset, .unset, .unset, .unset, .unset] [(.ref b15z), (.ref b15z)])) _
    refine own_go (fun t k => XS.aload X15z.here hx rfl (hb hby at_66) rfl rfl k) ?_
    show own_G p e below (T15z.setTop (mkF m 68 #[.val (.long p1), .second, .val (.int p2), .val (.int p3), .val (.long (p1 &&& (9223372036854775807 : Int64))), .second, .val (.int (own_max (1 : Int32) (p2 &&& (2147483647 : Int32)))), .val (.int (1 : Int32)), .val (.ref aD), .val (.long (86400 : Int64)), .second, .unset, .unset, .unset, .unset, .unset, .unset, .unset] [(.ref aD), (.ref b15z), (.ref b15z)])) _
    refine own_go (fun t k => XS.iload X15z.here hx rfl (hb hby at_68) rfl k) ?_
    show own_G p e below (T15z.setTop (mkF m 70 #[.val (.long p1), .second, .val (.int p2), .val (.int p3), .val (.long (p1 &&& (9223372036854775807 : Int64))), .second, .val (.int (own_max (1 : Int32) (p2 &&& (2147483647 : Int32)))), .val (.int (1 : Int32)), .val (.ref aD), .val (.long (86400 : Int64)), .second, .unset, .unset, .unset, .unset, .unset, .unset, .unset] [(.int (own_max (1 : Int32) (p2 &&& (2147483647 : Int32)))), (.ref aD), (.ref b15z), (.ref b15z)])) _
    obtain ⟨_, _, ⟨T17z, L17z, k17z, n17z⟩, -, X17z, ⟨Lc17z, hQ17z, l17z, y17z, z17z⟩, st17z⟩ := X15z.specialBack hx (y := own_m1) rfl hown (mvT hZ (own_hw hw 13 rfl)) (mvT hZ (own_hw hw 14 rfl)) (mvT hZ (own_hw hw 15 rfl)) (by decide) (backOf (W := 1) (own_init l Z a0 hw [] b15z aD (own_max (1 : Int32) (p2 &&& (2147483647 : Int32))) h15z O16z A15z F15z_span F15z_retain fr_b15z (own_R1 p2)) hZ (own_hw hw 15 rfl) (own_hw hw 12 rfl) (by decide) (by decide)) (g := (mkF m 70 #[.val (.long p1), .second, .val (.int p2), .val (.int p3), .val (.long (p1 &&& (9223372036854775807 : Int64))), .second, .val (.int (own_max (1 : Int32) (p2 &&& (2147483647 : Int32)))), .val (.int (1 : Int32)), .val (.ref aD), .val (.long (86400 : Int64)), .second, .unset, .unset, .unset, .unset, .unset, .unset, .unset] [(.int (own_max (1 : Int32) (p2 &&& (2147483647 : Int32)))), (.ref aD), (.ref b15z), (.ref b15z)])) rfl (by rw [hml]; rfl) (Steps.refl _) (a := b15z) (argsL := [(.ref aD), (.int (own_max (1 : Int32) (p2 &&& (2147483647 : Int32))))]) (rest := [(.ref b15z)]) (lenOf pd_305282378 rfl) rfl (by show 2 * 0 + _ ≤ _; exact Nat.le_of_eq rfl) (hb hby at_70) (fun _ _ => ⟨rfl, e15z, (by decide : 1 + 0 ≤ _), (by decide : 2 + 0 ≤ _)⟩)
    dsimp only [Pt.U, Pt.locs, Pt.cells, Pt.slots] at X17z l17z y17z z17z st17z hQ17z
    subst l17z y17z z17z
    obtain ⟨rfl, NQ17z, K17zq, r17z_0, r17z_1, r17z_2⟩ := hQ17z
    refine own_tr st17z ?_
    have N17z := Fr.app N1z NQ17z
    have O18z : Ext Z.heap T17z.heap := own_ext_keep O16z K17zq (allS fr_b15z all0)
    have K18z : Keep h0 T17z.heap [] := K16z.trans K17zq (allS (Or.inr lz_b15z) all0)
    show own_G p e below (T17z.setTop (mkF m 73 #[.val (.long p1), .second, .val (.int p2), .val (.int p3), .val (.long (p1 &&& (9223372036854775807 : Int64))), .second, .val (.int (own_max (1 : Int32) (p2 &&& (2147483647 : Int32)))), .val (.int (1 : Int32)), .val (.ref aD), .val (.long (86400 : Int64)), .second, .unset, .unset, .unset, .unset, .unset, .unset, .unset] [(.ref b15z)])) _
    refine own_go (fun t k => XS.astore X17z.here hx rfl (hb hby at_73) rfl rfl (l' := #[.val (.long p1), .second, .val (.int p2), .val (.int p3), .val (.long (p1 &&& (9223372036854775807 : Int64))), .second, .val (.int (own_max (1 : Int32) (p2 &&& (2147483647 : Int32)))), .val (.int (1 : Int32)), .val (.ref aD), .val (.long (86400 : Int64)), .second, .val (.ref b15z), .unset, .unset, .unset, .unset, .unset, .unset]) rfl k) ?_
    show own_G p e below (T17z.setTop (mkF m 75 #[.val (.long p1), .second, .val (.int p2), .val (.int p3), .val (.long (p1 &&& (9223372036854775807 : Int64))), .second, .val (.int (own_max (1 : Int32) (p2 &&& (2147483647 : Int32)))), .val (.int (1 : Int32)), .val (.ref aD), .val (.long (86400 : Int64)), .second, .val (.ref b15z), .unset, .unset, .unset, .unset, .unset, .unset] [])) _
    refine own_go (fun t k => XS.aload X17z.here hx rfl (hb hby at_75) rfl rfl k) ?_
    show own_G p e below (T17z.setTop (mkF m 77 #[.val (.long p1), .second, .val (.int p2), .val (.int p3), .val (.long (p1 &&& (9223372036854775807 : Int64))), .second, .val (.int (own_max (1 : Int32) (p2 &&& (2147483647 : Int32)))), .val (.int (1 : Int32)), .val (.ref aD), .val (.long (86400 : Int64)), .second, .val (.ref b15z), .unset, .unset, .unset, .unset, .unset, .unset] [(.ref b15z)])) _
    refine own_go (fun t k => XS.lload X17z.here hx rfl (hb hby at_77) rfl k) ?_
    show own_G p e below (T17z.setTop (mkF m 79 #[.val (.long p1), .second, .val (.int p2), .val (.int p3), .val (.long (p1 &&& (9223372036854775807 : Int64))), .second, .val (.int (own_max (1 : Int32) (p2 &&& (2147483647 : Int32)))), .val (.int (1 : Int32)), .val (.ref aD), .val (.long (86400 : Int64)), .second, .val (.ref b15z), .unset, .unset, .unset, .unset, .unset, .unset] [(.long (p1 &&& (9223372036854775807 : Int64))), (.ref b15z)])) _
    obtain ⟨cq19z, kq19z, qa19z, qb19z, qc19z⟩ := isOf hZ (rfl : T17z.heap = _) r17z_0
    obtain ⟨_, _, ⟨T19z, L19z, k19z, n19z⟩, -, X19z, ⟨Lc19z, hQ19z, l19z, y19z, z19z⟩, st19z⟩ := X17z.virtualBack hx (y := own_m2) (z := own_m2) hown (mvT hZ (own_hw hw 23 rfl)) (mvT hZ (own_hw hw 24 rfl)) (notFace_of_selects (args := #[]) (mvT hZ (own_hw hw 26 rfl))) (mvT hZ (own_hw hw 26 rfl)) (mvT hZ (own_hw hw 25 rfl)) (by decide) (backOf (W := 0) (own_old l Z a0 hw [] b15z (p1 &&& (9223372036854775807 : Int64)) (own_max (1 : Int32) (p2 &&& (2147483647 : Int32))) aD (86400 : Int64) T17z.heap O18z r17z_2 r17z_1 FD) hZ (own_hw hw 27 rfl) (own_hw hw 12 rfl) (by decide) (by decide)) qa19z qc19z (g := (mkF m 79 #[.val (.long p1), .second, .val (.int p2), .val (.int p3), .val (.long (p1 &&& (9223372036854775807 : Int64))), .second, .val (.int (own_max (1 : Int32) (p2 &&& (2147483647 : Int32)))), .val (.int (1 : Int32)), .val (.ref aD), .val (.long (86400 : Int64)), .second, .val (.ref b15z), .unset, .unset, .unset, .unset, .unset, .unset] [(.long (p1 &&& (9223372036854775807 : Int64))), (.ref b15z)])) rfl (by rw [hml]; rfl) (Steps.refl _) (argsL := [(.long (p1 &&& (9223372036854775807 : Int64)))]) (rest := []) (lenOf pd_2087993098 rfl) rfl (by show 2 * 0 + _ ≤ _; exact Nat.le_of_eq rfl) (hb hby at_79) (fun _ _ => ⟨rfl, rfl, (by decide : 1 + 0 ≤ _), (by decide : 2 + 0 ≤ _)⟩)
    dsimp only [Pt.U, Pt.locs, Pt.cells, Pt.slots] at X19z l19z y19z z19z st19z hQ19z
    subst l19z y19z z19z
    obtain ⟨rfl, NQ19z, K19zq⟩ := hQ19z
    refine own_tr st19z ?_
    have N19z := Fr.app N17z NQ19z
    show own_G p e below (T19z.setTop (mkF m 82 #[.val (.long p1), .second, .val (.int p2), .val (.int p3), .val (.long (p1 &&& (9223372036854775807 : Int64))), .second, .val (.int (own_max (1 : Int32) (p2 &&& (2147483647 : Int32)))), .val (.int (1 : Int32)), .val (.ref aD), .val (.long (86400 : Int64)), .second, .val (.ref b15z), .unset, .unset, .unset, .unset, .unset, .unset] [(.long ((p1 &&& (9223372036854775807 : Int64)) - (((own_max (1 : Int32) (p2 &&& (2147483647 : Int32))).toInt64 - (1 : Int64)) * (86400 : Int64))))])) _
    refine own_go (fun t k => XS.lstore X19z.here hx rfl (hb hby at_82) rfl (l' := #[.val (.long p1), .second, .val (.int p2), .val (.int p3), .val (.long (p1 &&& (9223372036854775807 : Int64))), .second, .val (.int (own_max (1 : Int32) (p2 &&& (2147483647 : Int32)))), .val (.int (1 : Int32)), .val (.ref aD), .val (.long (86400 : Int64)), .second, .val (.ref b15z), .val (.long ((p1 &&& (9223372036854775807 : Int64)) - (((own_max (1 : Int32) (p2 &&& (2147483647 : Int32))).toInt64 - (1 : Int64)) * (86400 : Int64)))), .second, .unset, .unset, .unset, .unset]) rfl k) ?_
    show own_G p e below (T19z.setTop (mkF m 84 #[.val (.long p1), .second, .val (.int p2), .val (.int p3), .val (.long (p1 &&& (9223372036854775807 : Int64))), .second, .val (.int (own_max (1 : Int32) (p2 &&& (2147483647 : Int32)))), .val (.int (1 : Int32)), .val (.ref aD), .val (.long (86400 : Int64)), .second, .val (.ref b15z), .val (.long ((p1 &&& (9223372036854775807 : Int64)) - (((own_max (1 : Int32) (p2 &&& (2147483647 : Int32))).toInt64 - (1 : Int64)) * (86400 : Int64)))), .second, .unset, .unset, .unset, .unset] [])) _
    refine own_go (fun t k => XS.iload X19z.here hx rfl (hb hby at_84) rfl k) ?_
    show own_G p e below (T19z.setTop (mkF m 86 #[.val (.long p1), .second, .val (.int p2), .val (.int p3), .val (.long (p1 &&& (9223372036854775807 : Int64))), .second, .val (.int (own_max (1 : Int32) (p2 &&& (2147483647 : Int32)))), .val (.int (1 : Int32)), .val (.ref aD), .val (.long (86400 : Int64)), .second, .val (.ref b15z), .val (.long ((p1 &&& (9223372036854775807 : Int64)) - (((own_max (1 : Int32) (p2 &&& (2147483647 : Int32))).toInt64 - (1 : Int64)) * (86400 : Int64)))), .second, .unset, .unset, .unset, .unset] [(.int (own_max (1 : Int32) (p2 &&& (2147483647 : Int32))))])) _
    refine own_go (fun t k => XS.iconst X19z.here hx rfl (hb hby at_86) k) ?_
    show own_G p e below (T19z.setTop (mkF m 87 #[.val (.long p1), .second, .val (.int p2), .val (.int p3), .val (.long (p1 &&& (9223372036854775807 : Int64))), .second, .val (.int (own_max (1 : Int32) (p2 &&& (2147483647 : Int32)))), .val (.int (1 : Int32)), .val (.ref aD), .val (.long (86400 : Int64)), .second, .val (.ref b15z), .val (.long ((p1 &&& (9223372036854775807 : Int64)) - (((own_max (1 : Int32) (p2 &&& (2147483647 : Int32))).toInt64 - (1 : Int64)) * (86400 : Int64)))), .second, .unset, .unset, .unset, .unset] [(.int (1 : Int32)), (.int (own_max (1 : Int32) (p2 &&& (2147483647 : Int32))))])) _
    refine own_go (fun t k => XS.isub X19z.here hx rfl (hb hby at_87) rfl k) ?_
    show own_G p e below (T19z.setTop (mkF m 88 #[.val (.long p1), .second, .val (.int p2), .val (.int p3), .val (.long (p1 &&& (9223372036854775807 : Int64))), .second, .val (.int (own_max (1 : Int32) (p2 &&& (2147483647 : Int32)))), .val (.int (1 : Int32)), .val (.ref aD), .val (.long (86400 : Int64)), .second, .val (.ref b15z), .val (.long ((p1 &&& (9223372036854775807 : Int64)) - (((own_max (1 : Int32) (p2 &&& (2147483647 : Int32))).toInt64 - (1 : Int64)) * (86400 : Int64)))), .second, .unset, .unset, .unset, .unset] [(.int ((own_max (1 : Int32) (p2 &&& (2147483647 : Int32))) - (1 : Int32)))])) _
    refine own_go (fun t k => XS.i2l X19z.here hx rfl (hb hby at_88) rfl k) ?_
    show own_G p e below (T19z.setTop (mkF m 89 #[.val (.long p1), .second, .val (.int p2), .val (.int p3), .val (.long (p1 &&& (9223372036854775807 : Int64))), .second, .val (.int (own_max (1 : Int32) (p2 &&& (2147483647 : Int32)))), .val (.int (1 : Int32)), .val (.ref aD), .val (.long (86400 : Int64)), .second, .val (.ref b15z), .val (.long ((p1 &&& (9223372036854775807 : Int64)) - (((own_max (1 : Int32) (p2 &&& (2147483647 : Int32))).toInt64 - (1 : Int64)) * (86400 : Int64)))), .second, .unset, .unset, .unset, .unset] [(.long ((((own_max (1 : Int32) (p2 &&& (2147483647 : Int32))) - (1 : Int32))).toInt64))])) _
    refine own_go (fun t k => XS.lload X19z.here hx rfl (hb hby at_89) rfl k) ?_
    show own_G p e below (T19z.setTop (mkF m 91 #[.val (.long p1), .second, .val (.int p2), .val (.int p3), .val (.long (p1 &&& (9223372036854775807 : Int64))), .second, .val (.int (own_max (1 : Int32) (p2 &&& (2147483647 : Int32)))), .val (.int (1 : Int32)), .val (.ref aD), .val (.long (86400 : Int64)), .second, .val (.ref b15z), .val (.long ((p1 &&& (9223372036854775807 : Int64)) - (((own_max (1 : Int32) (p2 &&& (2147483647 : Int32))).toInt64 - (1 : Int64)) * (86400 : Int64)))), .second, .unset, .unset, .unset, .unset] [(.long (86400 : Int64)), (.long ((((own_max (1 : Int32) (p2 &&& (2147483647 : Int32))) - (1 : Int32))).toInt64))])) _
    refine own_go (fun t k => XS.lmul X19z.here hx rfl (hb hby at_91) rfl k) ?_
    show own_G p e below (T19z.setTop (mkF m 92 #[.val (.long p1), .second, .val (.int p2), .val (.int p3), .val (.long (p1 &&& (9223372036854775807 : Int64))), .second, .val (.int (own_max (1 : Int32) (p2 &&& (2147483647 : Int32)))), .val (.int (1 : Int32)), .val (.ref aD), .val (.long (86400 : Int64)), .second, .val (.ref b15z), .val (.long ((p1 &&& (9223372036854775807 : Int64)) - (((own_max (1 : Int32) (p2 &&& (2147483647 : Int32))).toInt64 - (1 : Int64)) * (86400 : Int64)))), .second, .unset, .unset, .unset, .unset] [(.long (((((own_max (1 : Int32) (p2 &&& (2147483647 : Int32))) - (1 : Int32))).toInt64) * (86400 : Int64)))])) _
    refine own_go (fun t k => XS.lstore X19z.here hx rfl (hb hby at_92) rfl (l' := #[.val (.long p1), .second, .val (.int p2), .val (.int p3), .val (.long (p1 &&& (9223372036854775807 : Int64))), .second, .val (.int (own_max (1 : Int32) (p2 &&& (2147483647 : Int32)))), .val (.int (1 : Int32)), .val (.ref aD), .val (.long (86400 : Int64)), .second, .val (.ref b15z), .val (.long ((p1 &&& (9223372036854775807 : Int64)) - (((own_max (1 : Int32) (p2 &&& (2147483647 : Int32))).toInt64 - (1 : Int64)) * (86400 : Int64)))), .second, .val (.long (((((own_max (1 : Int32) (p2 &&& (2147483647 : Int32))) - (1 : Int32))).toInt64) * (86400 : Int64))), .second, .unset, .unset]) rfl k) ?_
    show own_G p e below (T19z.setTop (mkF m 94 #[.val (.long p1), .second, .val (.int p2), .val (.int p3), .val (.long (p1 &&& (9223372036854775807 : Int64))), .second, .val (.int (own_max (1 : Int32) (p2 &&& (2147483647 : Int32)))), .val (.int (1 : Int32)), .val (.ref aD), .val (.long (86400 : Int64)), .second, .val (.ref b15z), .val (.long ((p1 &&& (9223372036854775807 : Int64)) - (((own_max (1 : Int32) (p2 &&& (2147483647 : Int32))).toInt64 - (1 : Int64)) * (86400 : Int64)))), .second, .val (.long (((((own_max (1 : Int32) (p2 &&& (2147483647 : Int32))) - (1 : Int32))).toInt64) * (86400 : Int64))), .second, .unset, .unset] [])) _
    refine own_go (fun t k => XS.lload X19z.here hx rfl (hb hby at_94) rfl k) ?_
    show own_G p e below (T19z.setTop (mkF m 96 #[.val (.long p1), .second, .val (.int p2), .val (.int p3), .val (.long (p1 &&& (9223372036854775807 : Int64))), .second, .val (.int (own_max (1 : Int32) (p2 &&& (2147483647 : Int32)))), .val (.int (1 : Int32)), .val (.ref aD), .val (.long (86400 : Int64)), .second, .val (.ref b15z), .val (.long ((p1 &&& (9223372036854775807 : Int64)) - (((own_max (1 : Int32) (p2 &&& (2147483647 : Int32))).toInt64 - (1 : Int64)) * (86400 : Int64)))), .second, .val (.long (((((own_max (1 : Int32) (p2 &&& (2147483647 : Int32))) - (1 : Int32))).toInt64) * (86400 : Int64))), .second, .unset, .unset] [(.long ((p1 &&& (9223372036854775807 : Int64)) - (((own_max (1 : Int32) (p2 &&& (2147483647 : Int32))).toInt64 - (1 : Int64)) * (86400 : Int64))))])) _
    refine own_go (fun t k => XS.lload X19z.here hx rfl (hb hby at_96) rfl k) ?_
    show own_G p e below (T19z.setTop (mkF m 98 #[.val (.long p1), .second, .val (.int p2), .val (.int p3), .val (.long (p1 &&& (9223372036854775807 : Int64))), .second, .val (.int (own_max (1 : Int32) (p2 &&& (2147483647 : Int32)))), .val (.int (1 : Int32)), .val (.ref aD), .val (.long (86400 : Int64)), .second, .val (.ref b15z), .val (.long ((p1 &&& (9223372036854775807 : Int64)) - (((own_max (1 : Int32) (p2 &&& (2147483647 : Int32))).toInt64 - (1 : Int64)) * (86400 : Int64)))), .second, .val (.long (((((own_max (1 : Int32) (p2 &&& (2147483647 : Int32))) - (1 : Int32))).toInt64) * (86400 : Int64))), .second, .unset, .unset] [(.long (p1 &&& (9223372036854775807 : Int64))), (.long ((p1 &&& (9223372036854775807 : Int64)) - (((own_max (1 : Int32) (p2 &&& (2147483647 : Int32))).toInt64 - (1 : Int64)) * (86400 : Int64))))])) _
    refine own_go (fun t k => XS.lcmp X19z.here hx rfl (hb hby at_98) rfl k) ?_
    show own_G p e below (T19z.setTop (mkF m 99 #[.val (.long p1), .second, .val (.int p2), .val (.int p3), .val (.long (p1 &&& (9223372036854775807 : Int64))), .second, .val (.int (own_max (1 : Int32) (p2 &&& (2147483647 : Int32)))), .val (.int (1 : Int32)), .val (.ref aD), .val (.long (86400 : Int64)), .second, .val (.ref b15z), .val (.long ((p1 &&& (9223372036854775807 : Int64)) - (((own_max (1 : Int32) (p2 &&& (2147483647 : Int32))).toInt64 - (1 : Int64)) * (86400 : Int64)))), .second, .val (.long (((((own_max (1 : Int32) (p2 &&& (2147483647 : Int32))) - (1 : Int32))).toInt64) * (86400 : Int64))), .second, .unset, .unset] [(.int (lcmpW ((p1 &&& (9223372036854775807 : Int64)) - (((own_max (1 : Int32) (p2 &&& (2147483647 : Int32))).toInt64 - (1 : Int64)) * (86400 : Int64))) (p1 &&& (9223372036854775807 : Int64))))])) _
    refine own_go (fun t k => XS.ifNo X19z.here hx rfl (hb hby at_99) rfl ((if0 _ _).trans (flt (fun q => (own_le (own_N p1) (own_R p2) (by decide) (by decide)) ((lw_gt ((p1 &&& (9223372036854775807 : Int64)) - (((own_max (1 : Int32) (p2 &&& (2147483647 : Int32))).toInt64 - (1 : Int64)) * (86400 : Int64))) (p1 &&& (9223372036854775807 : Int64))).mp q))).2.2.1) k) ?_
    show own_G p e below (T19z.setTop (mkF m 102 #[.val (.long p1), .second, .val (.int p2), .val (.int p3), .val (.long (p1 &&& (9223372036854775807 : Int64))), .second, .val (.int (own_max (1 : Int32) (p2 &&& (2147483647 : Int32)))), .val (.int (1 : Int32)), .val (.ref aD), .val (.long (86400 : Int64)), .second, .val (.ref b15z), .val (.long ((p1 &&& (9223372036854775807 : Int64)) - (((own_max (1 : Int32) (p2 &&& (2147483647 : Int32))).toInt64 - (1 : Int64)) * (86400 : Int64)))), .second, .val (.long (((((own_max (1 : Int32) (p2 &&& (2147483647 : Int32))) - (1 : Int32))).toInt64) * (86400 : Int64))), .second, .unset, .unset] [])) _
    refine own_go (fun t k => XS.lload X19z.here hx rfl (hb hby at_102) rfl k) ?_
    show own_G p e below (T19z.setTop (mkF m 104 #[.val (.long p1), .second, .val (.int p2), .val (.int p3), .val (.long (p1 &&& (9223372036854775807 : Int64))), .second, .val (.int (own_max (1 : Int32) (p2 &&& (2147483647 : Int32)))), .val (.int (1 : Int32)), .val (.ref aD), .val (.long (86400 : Int64)), .second, .val (.ref b15z), .val (.long ((p1 &&& (9223372036854775807 : Int64)) - (((own_max (1 : Int32) (p2 &&& (2147483647 : Int32))).toInt64 - (1 : Int64)) * (86400 : Int64)))), .second, .val (.long (((((own_max (1 : Int32) (p2 &&& (2147483647 : Int32))) - (1 : Int32))).toInt64) * (86400 : Int64))), .second, .unset, .unset] [(.long ((p1 &&& (9223372036854775807 : Int64)) - (((own_max (1 : Int32) (p2 &&& (2147483647 : Int32))).toInt64 - (1 : Int64)) * (86400 : Int64))))])) _
    refine own_go (fun t k => XS.lload X19z.here hx rfl (hb hby at_104) rfl k) ?_
    show own_G p e below (T19z.setTop (mkF m 106 #[.val (.long p1), .second, .val (.int p2), .val (.int p3), .val (.long (p1 &&& (9223372036854775807 : Int64))), .second, .val (.int (own_max (1 : Int32) (p2 &&& (2147483647 : Int32)))), .val (.int (1 : Int32)), .val (.ref aD), .val (.long (86400 : Int64)), .second, .val (.ref b15z), .val (.long ((p1 &&& (9223372036854775807 : Int64)) - (((own_max (1 : Int32) (p2 &&& (2147483647 : Int32))).toInt64 - (1 : Int64)) * (86400 : Int64)))), .second, .val (.long (((((own_max (1 : Int32) (p2 &&& (2147483647 : Int32))) - (1 : Int32))).toInt64) * (86400 : Int64))), .second, .unset, .unset] [(.long (((((own_max (1 : Int32) (p2 &&& (2147483647 : Int32))) - (1 : Int32))).toInt64) * (86400 : Int64))), (.long ((p1 &&& (9223372036854775807 : Int64)) - (((own_max (1 : Int32) (p2 &&& (2147483647 : Int32))).toInt64 - (1 : Int64)) * (86400 : Int64))))])) _
    refine own_go (fun t k => XS.ladd X19z.here hx rfl (hb hby at_106) rfl k) ?_
    show own_G p e below (T19z.setTop (mkF m 107 #[.val (.long p1), .second, .val (.int p2), .val (.int p3), .val (.long (p1 &&& (9223372036854775807 : Int64))), .second, .val (.int (own_max (1 : Int32) (p2 &&& (2147483647 : Int32)))), .val (.int (1 : Int32)), .val (.ref aD), .val (.long (86400 : Int64)), .second, .val (.ref b15z), .val (.long ((p1 &&& (9223372036854775807 : Int64)) - (((own_max (1 : Int32) (p2 &&& (2147483647 : Int32))).toInt64 - (1 : Int64)) * (86400 : Int64)))), .second, .val (.long (((((own_max (1 : Int32) (p2 &&& (2147483647 : Int32))) - (1 : Int32))).toInt64) * (86400 : Int64))), .second, .unset, .unset] [(.long (((p1 &&& (9223372036854775807 : Int64)) - (((own_max (1 : Int32) (p2 &&& (2147483647 : Int32))).toInt64 - (1 : Int64)) * (86400 : Int64))) + (((((own_max (1 : Int32) (p2 &&& (2147483647 : Int32))) - (1 : Int32))).toInt64) * (86400 : Int64))))])) _
    refine own_go (fun t k => XS.lload X19z.here hx rfl (hb hby at_107) rfl k) ?_
    show own_G p e below (T19z.setTop (mkF m 109 #[.val (.long p1), .second, .val (.int p2), .val (.int p3), .val (.long (p1 &&& (9223372036854775807 : Int64))), .second, .val (.int (own_max (1 : Int32) (p2 &&& (2147483647 : Int32)))), .val (.int (1 : Int32)), .val (.ref aD), .val (.long (86400 : Int64)), .second, .val (.ref b15z), .val (.long ((p1 &&& (9223372036854775807 : Int64)) - (((own_max (1 : Int32) (p2 &&& (2147483647 : Int32))).toInt64 - (1 : Int64)) * (86400 : Int64)))), .second, .val (.long (((((own_max (1 : Int32) (p2 &&& (2147483647 : Int32))) - (1 : Int32))).toInt64) * (86400 : Int64))), .second, .unset, .unset] [(.long (p1 &&& (9223372036854775807 : Int64))), (.long (((p1 &&& (9223372036854775807 : Int64)) - (((own_max (1 : Int32) (p2 &&& (2147483647 : Int32))).toInt64 - (1 : Int64)) * (86400 : Int64))) + (((((own_max (1 : Int32) (p2 &&& (2147483647 : Int32))) - (1 : Int32))).toInt64) * (86400 : Int64))))])) _
    refine own_go (fun t k => XS.lcmp X19z.here hx rfl (hb hby at_109) rfl k) ?_
    show own_G p e below (T19z.setTop (mkF m 110 #[.val (.long p1), .second, .val (.int p2), .val (.int p3), .val (.long (p1 &&& (9223372036854775807 : Int64))), .second, .val (.int (own_max (1 : Int32) (p2 &&& (2147483647 : Int32)))), .val (.int (1 : Int32)), .val (.ref aD), .val (.long (86400 : Int64)), .second, .val (.ref b15z), .val (.long ((p1 &&& (9223372036854775807 : Int64)) - (((own_max (1 : Int32) (p2 &&& (2147483647 : Int32))).toInt64 - (1 : Int64)) * (86400 : Int64)))), .second, .val (.long (((((own_max (1 : Int32) (p2 &&& (2147483647 : Int32))) - (1 : Int32))).toInt64) * (86400 : Int64))), .second, .unset, .unset] [(.int (lcmpW (((p1 &&& (9223372036854775807 : Int64)) - (((own_max (1 : Int32) (p2 &&& (2147483647 : Int32))).toInt64 - (1 : Int64)) * (86400 : Int64))) + (((((own_max (1 : Int32) (p2 &&& (2147483647 : Int32))) - (1 : Int32))).toInt64) * (86400 : Int64))) (p1 &&& (9223372036854775807 : Int64))))])) _
    refine own_go (fun t k => XS.ifNo X19z.here hx rfl (hb hby at_110) rfl ((if0 _ _).trans (teq ((lw_eq (((p1 &&& (9223372036854775807 : Int64)) - (((own_max (1 : Int32) (p2 &&& (2147483647 : Int32))).toInt64 - (1 : Int64)) * (86400 : Int64))) + (((((own_max (1 : Int32) (p2 &&& (2147483647 : Int32))) - (1 : Int32))).toInt64) * (86400 : Int64))) (p1 &&& (9223372036854775807 : Int64))).mpr (own_eq (own_R p2)))).2) k) ?_
    show own_G p e below (T19z.setTop (mkF m 113 #[.val (.long p1), .second, .val (.int p2), .val (.int p3), .val (.long (p1 &&& (9223372036854775807 : Int64))), .second, .val (.int (own_max (1 : Int32) (p2 &&& (2147483647 : Int32)))), .val (.int (1 : Int32)), .val (.ref aD), .val (.long (86400 : Int64)), .second, .val (.ref b15z), .val (.long ((p1 &&& (9223372036854775807 : Int64)) - (((own_max (1 : Int32) (p2 &&& (2147483647 : Int32))).toInt64 - (1 : Int64)) * (86400 : Int64)))), .second, .val (.long (((((own_max (1 : Int32) (p2 &&& (2147483647 : Int32))) - (1 : Int32))).toInt64) * (86400 : Int64))), .second, .unset, .unset] [])) _
    refine own_go (fun t k => XS.iconst X19z.here hx rfl (hb hby at_113) k) ?_
    show own_G p e below (T19z.setTop (mkF m 114 #[.val (.long p1), .second, .val (.int p2), .val (.int p3), .val (.long (p1 &&& (9223372036854775807 : Int64))), .second, .val (.int (own_max (1 : Int32) (p2 &&& (2147483647 : Int32)))), .val (.int (1 : Int32)), .val (.ref aD), .val (.long (86400 : Int64)), .second, .val (.ref b15z), .val (.long ((p1 &&& (9223372036854775807 : Int64)) - (((own_max (1 : Int32) (p2 &&& (2147483647 : Int32))).toInt64 - (1 : Int64)) * (86400 : Int64)))), .second, .val (.long (((((own_max (1 : Int32) (p2 &&& (2147483647 : Int32))) - (1 : Int32))).toInt64) * (86400 : Int64))), .second, .unset, .unset] [(.int (1 : Int32))])) _
    refine own_go (fun t k => XS.goto X19z.here hx rfl (pc0 := 114) (pc' := 118) rfl (hb hby at_114) (by decide) (by decide) k) ?_
    show own_G p e below (T19z.setTop (mkF m 118 #[.val (.long p1), .second, .val (.int p2), .val (.int p3), .val (.long (p1 &&& (9223372036854775807 : Int64))), .second, .val (.int (own_max (1 : Int32) (p2 &&& (2147483647 : Int32)))), .val (.int (1 : Int32)), .val (.ref aD), .val (.long (86400 : Int64)), .second, .val (.ref b15z), .val (.long ((p1 &&& (9223372036854775807 : Int64)) - (((own_max (1 : Int32) (p2 &&& (2147483647 : Int32))).toInt64 - (1 : Int64)) * (86400 : Int64)))), .second, .val (.long (((((own_max (1 : Int32) (p2 &&& (2147483647 : Int32))) - (1 : Int32))).toInt64) * (86400 : Int64))), .second, .unset, .unset] [(.int (1 : Int32))])) _
    refine own_go (fun t k => XS.istore X19z.here hx rfl (hb hby at_118) rfl (l' := #[.val (.long p1), .second, .val (.int p2), .val (.int p3), .val (.long (p1 &&& (9223372036854775807 : Int64))), .second, .val (.int (own_max (1 : Int32) (p2 &&& (2147483647 : Int32)))), .val (.int (1 : Int32)), .val (.ref aD), .val (.long (86400 : Int64)), .second, .val (.ref b15z), .val (.long ((p1 &&& (9223372036854775807 : Int64)) - (((own_max (1 : Int32) (p2 &&& (2147483647 : Int32))).toInt64 - (1 : Int64)) * (86400 : Int64)))), .second, .val (.long (((((own_max (1 : Int32) (p2 &&& (2147483647 : Int32))) - (1 : Int32))).toInt64) * (86400 : Int64))), .second, .val (.int (1 : Int32)), .unset]) rfl k) ?_
    show own_G p e below (T19z.setTop (mkF m 120 #[.val (.long p1), .second, .val (.int p2), .val (.int p3), .val (.long (p1 &&& (9223372036854775807 : Int64))), .second, .val (.int (own_max (1 : Int32) (p2 &&& (2147483647 : Int32)))), .val (.int (1 : Int32)), .val (.ref aD), .val (.long (86400 : Int64)), .second, .val (.ref b15z), .val (.long ((p1 &&& (9223372036854775807 : Int64)) - (((own_max (1 : Int32) (p2 &&& (2147483647 : Int32))).toInt64 - (1 : Int64)) * (86400 : Int64)))), .second, .val (.long (((((own_max (1 : Int32) (p2 &&& (2147483647 : Int32))) - (1 : Int32))).toInt64) * (86400 : Int64))), .second, .val (.int (1 : Int32)), .unset] [])) _
    obtain ⟨T20z, h20z, X20z, e20z, E20z, A20z, D20z, -, st20z⟩ := newO X19z hx hZ hown (own_hw hw 10 rfl) (own_hw hw 11 rfl) (own_hw hw 12 rfl) K19zq (g := (mkF m 120 #[.val (.long p1), .second, .val (.int p2), .val (.int p3), .val (.long (p1 &&& (9223372036854775807 : Int64))), .second, .val (.int (own_max (1 : Int32) (p2 &&& (2147483647 : Int32)))), .val (.int (1 : Int32)), .val (.ref aD), .val (.long (86400 : Int64)), .second, .val (.ref b15z), .val (.long ((p1 &&& (9223372036854775807 : Int64)) - (((own_max (1 : Int32) (p2 &&& (2147483647 : Int32))).toInt64 - (1 : Int64)) * (86400 : Int64)))), .second, .val (.long (((((own_max (1 : Int32) (p2 &&& (2147483647 : Int32))) - (1 : Int32))).toInt64) * (86400 : Int64))), .second, .val (.int (1 : Int32)), .unset] [])) rfl (hb hby at_120) (by decide) (by decide)
    obtain ⟨b20z, g20z⟩ : ∃ z, z = T17z.heap.size := ⟨_, rfl⟩
    rw [← g20z] at A20z D20z st20z
    have fr_b20z : Z.heap.size ≤ b20z := g20z ▸ O18z.1
    have lz_b20z : h0.size ≤ b20z := g20z ▸ K18z.1
    have ne_b15z_b20z : b15z ≠ b20z := Nat.ne_of_lt (g20z ▸ r17z_0.lt)
    have O21z : Ext Z.heap h20z := own_ext_trans O18z E20z
    have K21z : Keep h0 h20z [] := K18z.ext E20z
    have F20z_span : Fld Z h20z b20z "com/example/sams/sams/Slicing" "span" "Lcom/example/sams/sams/Slicing$Span;" .null := D20z (Or.inr (own_hw hw 20 rfl)) (ty := (.object "com/example/sams/sams/Slicing$Span")) (by decide)
    have F20z_retain : Fld Z h20z b20z "com/example/sams/sams/Slicing" "retain" "I" (.int (0 : Int32)) := D20z (Or.inr (own_hw hw 22 rfl)) (ty := .int) (by decide)
    refine own_go st20z ?_
    show own_G p e below (T20z.setTop (mkF m 123 #[.val (.long p1), .second, .val (.int p2), .val (.int p3), .val (.long (p1 &&& (9223372036854775807 : Int64))), .second, .val (.int (own_max (1 : Int32) (p2 &&& (2147483647 : Int32)))), .val (.int (1 : Int32)), .val (.ref aD), .val (.long (86400 : Int64)), .second, .val (.ref b15z), .val (.long ((p1 &&& (9223372036854775807 : Int64)) - (((own_max (1 : Int32) (p2 &&& (2147483647 : Int32))).toInt64 - (1 : Int64)) * (86400 : Int64)))), .second, .val (.long (((((own_max (1 : Int32) (p2 &&& (2147483647 : Int32))) - (1 : Int32))).toInt64) * (86400 : Int64))), .second, .val (.int (1 : Int32)), .unset] [(.ref b20z)])) _
    refine own_go (fun t k => XS.dup X20z.here hx rfl (hb hby at_123) rfl rfl k) ?_
    show own_G p e below (T20z.setTop (mkF m 124 #[.val (.long p1), .second, .val (.int p2), .val (.int p3), .val (.long (p1 &&& (9223372036854775807 : Int64))), .second, .val (.int (own_max (1 : Int32) (p2 &&& (2147483647 : Int32)))), .val (.int (1 : Int32)), .val (.ref aD), .val (.long (86400 : Int64)), .second, .val (.ref b15z), .val (.long ((p1 &&& (9223372036854775807 : Int64)) - (((own_max (1 : Int32) (p2 &&& (2147483647 : Int32))).toInt64 - (1 : Int64)) * (86400 : Int64)))), .second, .val (.long (((((own_max (1 : Int32) (p2 &&& (2147483647 : Int32))) - (1 : Int32))).toInt64) * (86400 : Int64))), .second, .val (.int (1 : Int32)), .unset] [(.ref b20z), (.ref b20z)])) _
    refine own_go (fun t k => XS.aload X20z.here hx rfl (hb hby at_124) rfl rfl k) ?_
    show own_G p e below (T20z.setTop (mkF m 126 #[.val (.long p1), .second, .val (.int p2), .val (.int p3), .val (.long (p1 &&& (9223372036854775807 : Int64))), .second, .val (.int (own_max (1 : Int32) (p2 &&& (2147483647 : Int32)))), .val (.int (1 : Int32)), .val (.ref aD), .val (.long (86400 : Int64)), .second, .val (.ref b15z), .val (.long ((p1 &&& (9223372036854775807 : Int64)) - (((own_max (1 : Int32) (p2 &&& (2147483647 : Int32))).toInt64 - (1 : Int64)) * (86400 : Int64)))), .second, .val (.long (((((own_max (1 : Int32) (p2 &&& (2147483647 : Int32))) - (1 : Int32))).toInt64) * (86400 : Int64))), .second, .val (.int (1 : Int32)), .unset] [(.ref aD), (.ref b20z), (.ref b20z)])) _
    refine own_go (fun t k => XS.iconst X20z.here hx rfl (hb hby at_126) k) ?_
    show own_G p e below (T20z.setTop (mkF m 127 #[.val (.long p1), .second, .val (.int p2), .val (.int p3), .val (.long (p1 &&& (9223372036854775807 : Int64))), .second, .val (.int (own_max (1 : Int32) (p2 &&& (2147483647 : Int32)))), .val (.int (1 : Int32)), .val (.ref aD), .val (.long (86400 : Int64)), .second, .val (.ref b15z), .val (.long ((p1 &&& (9223372036854775807 : Int64)) - (((own_max (1 : Int32) (p2 &&& (2147483647 : Int32))).toInt64 - (1 : Int64)) * (86400 : Int64)))), .second, .val (.long (((((own_max (1 : Int32) (p2 &&& (2147483647 : Int32))) - (1 : Int32))).toInt64) * (86400 : Int64))), .second, .val (.int (1 : Int32)), .unset] [(.int (1 : Int32)), (.ref aD), (.ref b20z), (.ref b20z)])) _
    obtain ⟨_, _, ⟨T22z, L22z, k22z, n22z⟩, -, X22z, ⟨Lc22z, hQ22z, l22z, y22z, z22z⟩, st22z⟩ := X20z.specialBack hx (y := own_m1) rfl hown (mvT hZ (own_hw hw 13 rfl)) (mvT hZ (own_hw hw 14 rfl)) (mvT hZ (own_hw hw 15 rfl)) (by decide) (backOf (W := 1) (own_init l Z a0 hw [] b20z aD (1 : Int32) h20z O21z A20z F20z_span F20z_retain fr_b20z (by decide)) hZ (own_hw hw 15 rfl) (own_hw hw 12 rfl) (by decide) (by decide)) (g := (mkF m 127 #[.val (.long p1), .second, .val (.int p2), .val (.int p3), .val (.long (p1 &&& (9223372036854775807 : Int64))), .second, .val (.int (own_max (1 : Int32) (p2 &&& (2147483647 : Int32)))), .val (.int (1 : Int32)), .val (.ref aD), .val (.long (86400 : Int64)), .second, .val (.ref b15z), .val (.long ((p1 &&& (9223372036854775807 : Int64)) - (((own_max (1 : Int32) (p2 &&& (2147483647 : Int32))).toInt64 - (1 : Int64)) * (86400 : Int64)))), .second, .val (.long (((((own_max (1 : Int32) (p2 &&& (2147483647 : Int32))) - (1 : Int32))).toInt64) * (86400 : Int64))), .second, .val (.int (1 : Int32)), .unset] [(.int (1 : Int32)), (.ref aD), (.ref b20z), (.ref b20z)])) rfl (by rw [hml]; rfl) (Steps.refl _) (a := b20z) (argsL := [(.ref aD), (.int (1 : Int32))]) (rest := [(.ref b20z)]) (lenOf pd_305282378 rfl) rfl (by show 2 * 0 + _ ≤ _; exact Nat.le_of_eq rfl) (hb hby at_127) (fun _ _ => ⟨rfl, e20z, (by decide : 2 + 0 ≤ _), (by decide : 4 + 0 ≤ _)⟩)
    dsimp only [Pt.U, Pt.locs, Pt.cells, Pt.slots] at X22z l22z y22z z22z st22z hQ22z
    subst l22z y22z z22z
    obtain ⟨rfl, NQ22z, K22zq, r22z_0, r22z_1, r22z_2⟩ := hQ22z
    refine own_tr st22z ?_
    have N22z := Fr.app N19z NQ22z
    have O23z : Ext Z.heap T22z.heap := own_ext_keep O21z K22zq (allS fr_b20z all0)
    have K23z : Keep h0 T22z.heap [] := K21z.trans K22zq (allS (Or.inr lz_b20z) all0)
    show own_G p e below (T22z.setTop (mkF m 130 #[.val (.long p1), .second, .val (.int p2), .val (.int p3), .val (.long (p1 &&& (9223372036854775807 : Int64))), .second, .val (.int (own_max (1 : Int32) (p2 &&& (2147483647 : Int32)))), .val (.int (1 : Int32)), .val (.ref aD), .val (.long (86400 : Int64)), .second, .val (.ref b15z), .val (.long ((p1 &&& (9223372036854775807 : Int64)) - (((own_max (1 : Int32) (p2 &&& (2147483647 : Int32))).toInt64 - (1 : Int64)) * (86400 : Int64)))), .second, .val (.long (((((own_max (1 : Int32) (p2 &&& (2147483647 : Int32))) - (1 : Int32))).toInt64) * (86400 : Int64))), .second, .val (.int (1 : Int32)), .unset] [(.ref b20z)])) _
    refine own_go (fun t k => XS.astore X22z.here hx rfl (hb hby at_130) rfl rfl (l' := #[.val (.long p1), .second, .val (.int p2), .val (.int p3), .val (.long (p1 &&& (9223372036854775807 : Int64))), .second, .val (.int (own_max (1 : Int32) (p2 &&& (2147483647 : Int32)))), .val (.int (1 : Int32)), .val (.ref aD), .val (.long (86400 : Int64)), .second, .val (.ref b15z), .val (.long ((p1 &&& (9223372036854775807 : Int64)) - (((own_max (1 : Int32) (p2 &&& (2147483647 : Int32))).toInt64 - (1 : Int64)) * (86400 : Int64)))), .second, .val (.long (((((own_max (1 : Int32) (p2 &&& (2147483647 : Int32))) - (1 : Int32))).toInt64) * (86400 : Int64))), .second, .val (.int (1 : Int32)), .val (.ref b20z)]) rfl k) ?_
    show own_G p e below (T22z.setTop (mkF m 132 #[.val (.long p1), .second, .val (.int p2), .val (.int p3), .val (.long (p1 &&& (9223372036854775807 : Int64))), .second, .val (.int (own_max (1 : Int32) (p2 &&& (2147483647 : Int32)))), .val (.int (1 : Int32)), .val (.ref aD), .val (.long (86400 : Int64)), .second, .val (.ref b15z), .val (.long ((p1 &&& (9223372036854775807 : Int64)) - (((own_max (1 : Int32) (p2 &&& (2147483647 : Int32))).toInt64 - (1 : Int64)) * (86400 : Int64)))), .second, .val (.long (((((own_max (1 : Int32) (p2 &&& (2147483647 : Int32))) - (1 : Int32))).toInt64) * (86400 : Int64))), .second, .val (.int (1 : Int32)), .val (.ref b20z)] [])) _
    refine own_go (fun t k => XS.iload X22z.here hx rfl (hb hby at_132) rfl k) ?_
    show own_G p e below (T22z.setTop (mkF m 134 #[.val (.long p1), .second, .val (.int p2), .val (.int p3), .val (.long (p1 &&& (9223372036854775807 : Int64))), .second, .val (.int (own_max (1 : Int32) (p2 &&& (2147483647 : Int32)))), .val (.int (1 : Int32)), .val (.ref aD), .val (.long (86400 : Int64)), .second, .val (.ref b15z), .val (.long ((p1 &&& (9223372036854775807 : Int64)) - (((own_max (1 : Int32) (p2 &&& (2147483647 : Int32))).toInt64 - (1 : Int64)) * (86400 : Int64)))), .second, .val (.long (((((own_max (1 : Int32) (p2 &&& (2147483647 : Int32))) - (1 : Int32))).toInt64) * (86400 : Int64))), .second, .val (.int (1 : Int32)), .val (.ref b20z)] [(.int (1 : Int32))])) _
    refine own_go (fun t k => XS.ifNo X22z.here hx rfl (hb hby at_134) rfl ((if0 _ _).trans (feq (by decide : ¬ ((1 : Int32) = (0 : Int32)))).1) k) ?_
    show own_G p e below (T22z.setTop (mkF m 137 #[.val (.long p1), .second, .val (.int p2), .val (.int p3), .val (.long (p1 &&& (9223372036854775807 : Int64))), .second, .val (.int (own_max (1 : Int32) (p2 &&& (2147483647 : Int32)))), .val (.int (1 : Int32)), .val (.ref aD), .val (.long (86400 : Int64)), .second, .val (.ref b15z), .val (.long ((p1 &&& (9223372036854775807 : Int64)) - (((own_max (1 : Int32) (p2 &&& (2147483647 : Int32))).toInt64 - (1 : Int64)) * (86400 : Int64)))), .second, .val (.long (((((own_max (1 : Int32) (p2 &&& (2147483647 : Int32))) - (1 : Int32))).toInt64) * (86400 : Int64))), .second, .val (.int (1 : Int32)), .val (.ref b20z)] [])) _
    refine own_go (fun t k => XS.aload X22z.here hx rfl (hb hby at_137) rfl rfl k) ?_
    show own_G p e below (T22z.setTop (mkF m 139 #[.val (.long p1), .second, .val (.int p2), .val (.int p3), .val (.long (p1 &&& (9223372036854775807 : Int64))), .second, .val (.int (own_max (1 : Int32) (p2 &&& (2147483647 : Int32)))), .val (.int (1 : Int32)), .val (.ref aD), .val (.long (86400 : Int64)), .second, .val (.ref b15z), .val (.long ((p1 &&& (9223372036854775807 : Int64)) - (((own_max (1 : Int32) (p2 &&& (2147483647 : Int32))).toInt64 - (1 : Int64)) * (86400 : Int64)))), .second, .val (.long (((((own_max (1 : Int32) (p2 &&& (2147483647 : Int32))) - (1 : Int32))).toInt64) * (86400 : Int64))), .second, .val (.int (1 : Int32)), .val (.ref b20z)] [(.ref b20z)])) _
    refine own_go (fun t k => XS.lload X22z.here hx rfl (hb hby at_139) rfl k) ?_
    show own_G p e below (T22z.setTop (mkF m 141 #[.val (.long p1), .second, .val (.int p2), .val (.int p3), .val (.long (p1 &&& (9223372036854775807 : Int64))), .second, .val (.int (own_max (1 : Int32) (p2 &&& (2147483647 : Int32)))), .val (.int (1 : Int32)), .val (.ref aD), .val (.long (86400 : Int64)), .second, .val (.ref b15z), .val (.long ((p1 &&& (9223372036854775807 : Int64)) - (((own_max (1 : Int32) (p2 &&& (2147483647 : Int32))).toInt64 - (1 : Int64)) * (86400 : Int64)))), .second, .val (.long (((((own_max (1 : Int32) (p2 &&& (2147483647 : Int32))) - (1 : Int32))).toInt64) * (86400 : Int64))), .second, .val (.int (1 : Int32)), .val (.ref b20z)] [(.long (p1 &&& (9223372036854775807 : Int64))), (.ref b20z)])) _
    obtain ⟨cq24z, kq24z, qa24z, qb24z, qc24z⟩ := isOf hZ (rfl : T22z.heap = _) r22z_0
    obtain ⟨_, _, ⟨T24z, L24z, k24z, n24z⟩, -, X24z, ⟨Lc24z, hQ24z, l24z, y24z, z24z⟩, st24z⟩ := X22z.virtualBack hx (y := own_m2) (z := own_m2) hown (mvT hZ (own_hw hw 23 rfl)) (mvT hZ (own_hw hw 24 rfl)) (notFace_of_selects (args := #[]) (mvT hZ (own_hw hw 26 rfl))) (mvT hZ (own_hw hw 26 rfl)) (mvT hZ (own_hw hw 25 rfl)) (by decide) (backOf (W := 0) (own_old l Z a0 hw [] b20z (p1 &&& (9223372036854775807 : Int64)) (1 : Int32) aD (86400 : Int64) T22z.heap O23z r22z_2 r22z_1 FD) hZ (own_hw hw 27 rfl) (own_hw hw 12 rfl) (by decide) (by decide)) qa24z qc24z (g := (mkF m 141 #[.val (.long p1), .second, .val (.int p2), .val (.int p3), .val (.long (p1 &&& (9223372036854775807 : Int64))), .second, .val (.int (own_max (1 : Int32) (p2 &&& (2147483647 : Int32)))), .val (.int (1 : Int32)), .val (.ref aD), .val (.long (86400 : Int64)), .second, .val (.ref b15z), .val (.long ((p1 &&& (9223372036854775807 : Int64)) - (((own_max (1 : Int32) (p2 &&& (2147483647 : Int32))).toInt64 - (1 : Int64)) * (86400 : Int64)))), .second, .val (.long (((((own_max (1 : Int32) (p2 &&& (2147483647 : Int32))) - (1 : Int32))).toInt64) * (86400 : Int64))), .second, .val (.int (1 : Int32)), .val (.ref b20z)] [(.long (p1 &&& (9223372036854775807 : Int64))), (.ref b20z)])) rfl (by rw [hml]; rfl) (Steps.refl _) (argsL := [(.long (p1 &&& (9223372036854775807 : Int64)))]) (rest := []) (lenOf pd_2087993098 rfl) rfl (by show 2 * 0 + _ ≤ _; exact Nat.le_of_eq rfl) (hb hby at_141) (fun _ _ => ⟨rfl, rfl, (by decide : 2 + 0 ≤ _), (by decide : 4 + 0 ≤ _)⟩)
    dsimp only [Pt.U, Pt.locs, Pt.cells, Pt.slots] at X24z l24z y24z z24z st24z hQ24z
    subst l24z y24z z24z
    obtain ⟨rfl, NQ24z, K24zq⟩ := hQ24z
    refine own_tr st24z ?_
    have N24z := Fr.app N22z NQ24z
    show own_G p e below (T24z.setTop (mkF m 144 #[.val (.long p1), .second, .val (.int p2), .val (.int p3), .val (.long (p1 &&& (9223372036854775807 : Int64))), .second, .val (.int (own_max (1 : Int32) (p2 &&& (2147483647 : Int32)))), .val (.int (1 : Int32)), .val (.ref aD), .val (.long (86400 : Int64)), .second, .val (.ref b15z), .val (.long ((p1 &&& (9223372036854775807 : Int64)) - (((own_max (1 : Int32) (p2 &&& (2147483647 : Int32))).toInt64 - (1 : Int64)) * (86400 : Int64)))), .second, .val (.long (((((own_max (1 : Int32) (p2 &&& (2147483647 : Int32))) - (1 : Int32))).toInt64) * (86400 : Int64))), .second, .val (.int (1 : Int32)), .val (.ref b20z)] [(.long ((p1 &&& (9223372036854775807 : Int64)) - (((1 : Int32).toInt64 - (1 : Int64)) * (86400 : Int64))))])) _
    refine own_go (fun t k => XS.lload X24z.here hx rfl (hb hby at_144) rfl k) ?_
    show own_G p e below (T24z.setTop (mkF m 146 #[.val (.long p1), .second, .val (.int p2), .val (.int p3), .val (.long (p1 &&& (9223372036854775807 : Int64))), .second, .val (.int (own_max (1 : Int32) (p2 &&& (2147483647 : Int32)))), .val (.int (1 : Int32)), .val (.ref aD), .val (.long (86400 : Int64)), .second, .val (.ref b15z), .val (.long ((p1 &&& (9223372036854775807 : Int64)) - (((own_max (1 : Int32) (p2 &&& (2147483647 : Int32))).toInt64 - (1 : Int64)) * (86400 : Int64)))), .second, .val (.long (((((own_max (1 : Int32) (p2 &&& (2147483647 : Int32))) - (1 : Int32))).toInt64) * (86400 : Int64))), .second, .val (.int (1 : Int32)), .val (.ref b20z)] [(.long (p1 &&& (9223372036854775807 : Int64))), (.long ((p1 &&& (9223372036854775807 : Int64)) - (((1 : Int32).toInt64 - (1 : Int64)) * (86400 : Int64))))])) _
    refine own_go (fun t k => XS.lcmp X24z.here hx rfl (hb hby at_146) rfl k) ?_
    show own_G p e below (T24z.setTop (mkF m 147 #[.val (.long p1), .second, .val (.int p2), .val (.int p3), .val (.long (p1 &&& (9223372036854775807 : Int64))), .second, .val (.int (own_max (1 : Int32) (p2 &&& (2147483647 : Int32)))), .val (.int (1 : Int32)), .val (.ref aD), .val (.long (86400 : Int64)), .second, .val (.ref b15z), .val (.long ((p1 &&& (9223372036854775807 : Int64)) - (((own_max (1 : Int32) (p2 &&& (2147483647 : Int32))).toInt64 - (1 : Int64)) * (86400 : Int64)))), .second, .val (.long (((((own_max (1 : Int32) (p2 &&& (2147483647 : Int32))) - (1 : Int32))).toInt64) * (86400 : Int64))), .second, .val (.int (1 : Int32)), .val (.ref b20z)] [(.int (lcmpW ((p1 &&& (9223372036854775807 : Int64)) - (((1 : Int32).toInt64 - (1 : Int64)) * (86400 : Int64))) (p1 &&& (9223372036854775807 : Int64))))])) _
    refine own_go (fun t k => XS.ifNo X24z.here hx rfl (hb hby at_147) rfl ((if0 _ _).trans (teq ((lw_eq ((p1 &&& (9223372036854775807 : Int64)) - (((1 : Int32).toInt64 - (1 : Int64)) * (86400 : Int64))) (p1 &&& (9223372036854775807 : Int64))).mpr own_one)).2) k) ?_
    show own_G p e below (T24z.setTop (mkF m 150 #[.val (.long p1), .second, .val (.int p2), .val (.int p3), .val (.long (p1 &&& (9223372036854775807 : Int64))), .second, .val (.int (own_max (1 : Int32) (p2 &&& (2147483647 : Int32)))), .val (.int (1 : Int32)), .val (.ref aD), .val (.long (86400 : Int64)), .second, .val (.ref b15z), .val (.long ((p1 &&& (9223372036854775807 : Int64)) - (((own_max (1 : Int32) (p2 &&& (2147483647 : Int32))).toInt64 - (1 : Int64)) * (86400 : Int64)))), .second, .val (.long (((((own_max (1 : Int32) (p2 &&& (2147483647 : Int32))) - (1 : Int32))).toInt64) * (86400 : Int64))), .second, .val (.int (1 : Int32)), .val (.ref b20z)] [])) _
    refine own_go (fun t k => XS.iconst X24z.here hx rfl (hb hby at_150) k) ?_
    show own_G p e below (T24z.setTop (mkF m 151 #[.val (.long p1), .second, .val (.int p2), .val (.int p3), .val (.long (p1 &&& (9223372036854775807 : Int64))), .second, .val (.int (own_max (1 : Int32) (p2 &&& (2147483647 : Int32)))), .val (.int (1 : Int32)), .val (.ref aD), .val (.long (86400 : Int64)), .second, .val (.ref b15z), .val (.long ((p1 &&& (9223372036854775807 : Int64)) - (((own_max (1 : Int32) (p2 &&& (2147483647 : Int32))).toInt64 - (1 : Int64)) * (86400 : Int64)))), .second, .val (.long (((((own_max (1 : Int32) (p2 &&& (2147483647 : Int32))) - (1 : Int32))).toInt64) * (86400 : Int64))), .second, .val (.int (1 : Int32)), .val (.ref b20z)] [(.int (1 : Int32))])) _
    refine own_go (fun t k => XS.goto X24z.here hx rfl (pc0 := 151) (pc' := 155) rfl (hb hby at_151) (by decide) (by decide) k) ?_
    show own_G p e below (T24z.setTop (mkF m 155 #[.val (.long p1), .second, .val (.int p2), .val (.int p3), .val (.long (p1 &&& (9223372036854775807 : Int64))), .second, .val (.int (own_max (1 : Int32) (p2 &&& (2147483647 : Int32)))), .val (.int (1 : Int32)), .val (.ref aD), .val (.long (86400 : Int64)), .second, .val (.ref b15z), .val (.long ((p1 &&& (9223372036854775807 : Int64)) - (((own_max (1 : Int32) (p2 &&& (2147483647 : Int32))).toInt64 - (1 : Int64)) * (86400 : Int64)))), .second, .val (.long (((((own_max (1 : Int32) (p2 &&& (2147483647 : Int32))) - (1 : Int32))).toInt64) * (86400 : Int64))), .second, .val (.int (1 : Int32)), .val (.ref b20z)] [(.int (1 : Int32))])) _
    refine own_go (fun t k => XS.istore X24z.here hx rfl (hb hby at_155) rfl (l' := #[.val (.long p1), .second, .val (.int p2), .val (.int p3), .val (.long (p1 &&& (9223372036854775807 : Int64))), .second, .val (.int (own_max (1 : Int32) (p2 &&& (2147483647 : Int32)))), .val (.int (1 : Int32)), .val (.ref aD), .val (.long (86400 : Int64)), .second, .val (.ref b15z), .val (.long ((p1 &&& (9223372036854775807 : Int64)) - (((own_max (1 : Int32) (p2 &&& (2147483647 : Int32))).toInt64 - (1 : Int64)) * (86400 : Int64)))), .second, .val (.long (((((own_max (1 : Int32) (p2 &&& (2147483647 : Int32))) - (1 : Int32))).toInt64) * (86400 : Int64))), .second, .val (.int (1 : Int32)), .val (.ref b20z)]) rfl k) ?_
    show own_G p e below (T24z.setTop (mkF m 157 #[.val (.long p1), .second, .val (.int p2), .val (.int p3), .val (.long (p1 &&& (9223372036854775807 : Int64))), .second, .val (.int (own_max (1 : Int32) (p2 &&& (2147483647 : Int32)))), .val (.int (1 : Int32)), .val (.ref aD), .val (.long (86400 : Int64)), .second, .val (.ref b15z), .val (.long ((p1 &&& (9223372036854775807 : Int64)) - (((own_max (1 : Int32) (p2 &&& (2147483647 : Int32))).toInt64 - (1 : Int64)) * (86400 : Int64)))), .second, .val (.long (((((own_max (1 : Int32) (p2 &&& (2147483647 : Int32))) - (1 : Int32))).toInt64) * (86400 : Int64))), .second, .val (.int (1 : Int32)), .val (.ref b20z)] [])) _
    refine own_go (fun t k => XS.iload X24z.here hx rfl (hb hby at_157) rfl k) ?_
    show own_G p e below (T24z.setTop (mkF m 159 #[.val (.long p1), .second, .val (.int p2), .val (.int p3), .val (.long (p1 &&& (9223372036854775807 : Int64))), .second, .val (.int (own_max (1 : Int32) (p2 &&& (2147483647 : Int32)))), .val (.int (1 : Int32)), .val (.ref aD), .val (.long (86400 : Int64)), .second, .val (.ref b15z), .val (.long ((p1 &&& (9223372036854775807 : Int64)) - (((own_max (1 : Int32) (p2 &&& (2147483647 : Int32))).toInt64 - (1 : Int64)) * (86400 : Int64)))), .second, .val (.long (((((own_max (1 : Int32) (p2 &&& (2147483647 : Int32))) - (1 : Int32))).toInt64) * (86400 : Int64))), .second, .val (.int (1 : Int32)), .val (.ref b20z)] [(.int (1 : Int32))])) _
    exact own_ret X24z hx Bd.returns rfl (Or.inl ⟨rfl, Or.inr (Or.inl rfl), _, rfl⟩) (hb hby at_159) hlk (Nat.le_of_ble_eq_true rfl) (Nat.le_of_ble_eq_true rfl) (by show Q_own_law Z p1 p2 p3 aD aH h0 _ T24z.heap _; rw [K24zq]; exact ⟨rfl, N24z, K23z⟩)
set_option maxRecDepth 65536 in
set_option maxHeartbeats 40000000 in
theorem comes_1 {Post : Tables → Env → Array Value → State → Outcome → State → Prop} (hpost : ∀ tb e args s v u, (limb_1_1.after args s (.returned v) u = true ∧ limb_1_2.after args s (.returned v) u = true ∧ True) → FrameEnd s (.returned v) u (Jvm.fieldLocs frame_1_writes args s ++ Jvm.arrayLocs frame_1_arrays args s ++ Jvm.staticLocs frame_1_statics s) 16 128 → Post tb e args s (.returned v) u) :
    ArmFor flags0 classFile x code maxLocals ret World_1 tables_1 room_1 Calls_1 rest_1 Pre_1 Post := by
  intro l hfl _ _ p e ha hc hk s m args below hf hA hF happ hP
  obtain ⟨hcalls, hrest, hpre⟩ := hP
  obtain ⟨-, -, -, hnamed, -, -, -, hat⟩ := (Spec.applies_iff hf).mp happ
  obtain ⟨hg, hn⟩ := and_e (Cond.before_iff.mp (show (Jvm.Cond.and given_1 narrow_1).before args s = true from hpre))
  obtain ⟨hg0, hg1⟩ := and_e hg
  obtain ⟨hy0, hz0⟩ := and_e hg1
  obtain ⟨hy1, hz1⟩ := and_e hz0
  obtain ⟨w0, w1, w2, rfl⟩ : ∃ w0 w1 w2 : Value, args = #[w0, w1, w2] := by
    have hs : args.size = 3 := by simpa [Cond.value, given_1] using hg0
    obtain ⟨L⟩ := args
    match L, hs with
    | [w0, w1, w2], _ => exact ⟨w0, w1, w2, rfl⟩
  have hw := fun d (hd : d ∈ tables_1) => atoms_spec (ws := Jvm.Cond.code x code maxLocals ret :: tables_1) hat d (List.mem_cons_of_mem _ hd)
  have hfit : Fit s := fun {y c} hc i hi => by
    obtain ⟨ha, rfl⟩ := Array.getElem?_eq_some_iff.mp hc
    have q := List.all_eq_true.mp ((Array.all_eq_true_iff_forall_mem.mp hF) _ (Array.getElem_mem ha)) i (List.mem_range.mpr hi)
    simpa [Array.getElem?_eq_getElem hi] using q
  obtain ⟨i0, ea0⟩ := isL_v hy0
  obtain rfl : w0 = (.long i0) := Option.some.inj ea0
  obtain ⟨i1, ea1⟩ := is_v hy1
  obtain rfl : w1 = (.int i1) := Option.some.inj ea1
  obtain ⟨i2, ea2⟩ := is_v hz1
  obtain rfl : w2 = (.int i2) := Option.some.inj ea2
  obtain ⟨c0, hn0⟩ := and_e hn
  obtain ⟨c1, hn1⟩ := and_e hn0
  obtain ⟨c2, hn2⟩ := and_e hn1
  obtain ⟨a_DAY, ev_DAY⟩ := exa_v c0
  have E_DAY : Exa s s.heap a_DAY "com/example/sams/sams/Slicing$Span" := Exa.start ev_DAY c0
  have S_DAY : Sta s s.heap "com/example/sams/sams/Slicing$Span" "DAY" "Lcom/example/sams/sams/Slicing$Span;" (.ref a_DAY) := Sta.start ev_DAY (Or.inr ⟨(own_hw hw 7 rfl), (own_hw hw 8 rfl)⟩)
  obtain ⟨a_HOUR, ev_HOUR⟩ := exa_v c2
  have E_HOUR : Exa s s.heap a_HOUR "com/example/sams/sams/Slicing$Span" := Exa.start ev_HOUR c2
  have S_HOUR : Sta s s.heap "com/example/sams/sams/Slicing$Span" "HOUR" "Lcom/example/sams/sams/Slicing$Span;" (.ref a_HOUR) := Sta.start ev_HOUR (Or.inr ⟨(own_hw hw 7 rfl), (own_hw hw 31 rfl)⟩)
  have F_DAY_seconds : Fld s s.heap a_DAY "com/example/sams/sams/Slicing$Span" "seconds" "J" (.long (86400 : Int64)) := Fld.start ((fld_at ev_DAY).symm.trans (eqv_l (long_at (86400 : Int64)) c1))
  have F_HOUR_seconds : Fld s s.heap a_HOUR "com/example/sams/sams/Slicing$Span" "seconds" "J" (.long (3600 : Int64)) := Fld.start ((fld_at ev_HOUR).symm.trans (eqv_l (long_at (3600 : Int64)) hn2))
  obtain ⟨n, o, h1, h2, h3, _, L, rfl, hQ, hq⟩ := own_law l s _ hw tables_1 i0 i1 i2 a_DAY a_HOUR s.heap (own_ext_refl _) S_DAY S_HOUR F_DAY_seconds F_HOUR_seconds p e ha hc hk s m _ below hf ((Spec.applies_iff_loose hf).mp happ).1 ⟨rfl, State.Warmed39.refl s, rfl⟩ trivial
  obtain ⟨rfl, N, -⟩ := hQ
  exact ⟨n, _, h1, h2, h3, hpost _ _ _ _ _ _ ⟨Cond.after_iff.mpr rfl, Cond.after_iff.mpr (eq_i res_at (Term.int_eval (1)) rfl), trivial⟩ ⟨hq.1, hq.2.1, (hq.2.2.sift fun y hy => Or.inr (N y hy)).mono (by decide) (by decide)⟩⟩
theorem main_1_1 : Claimed_1_1 := comes_1 fun _ _ _ _ _ _ h hF => ⟨h.1, hF⟩
theorem main_1_2 : Claimed_1_2 := comes_1 fun _ _ _ _ _ _ h hF => ⟨h.2.1, hF⟩
end Jvm.Pilot.@@N@@
namespace Jvm.Pilot.@@N@@
open Jvm Jvm.ClassFile Sem Op Lib Jvm.Free Jvm.Stand Jvm.Pilot.@@N@@.Jvm.D
/-! MADE BY PROGRAM (witnessworld.py) out of the Statement's table words and the real class files: 14 classes; the members and pool entries that the words name. The judged class is class 1, her method 1. -/
namespace start1
open Jvm.ClassFile
def u (s : String) : CpInfo := .utf8 (stringToUtf16 s)
/-- a pool by its gaps: so many unusable entries, then the entry; so many at the end -/
def gap : Nat → List CpInfo → List CpInfo
  | 0, r => r
  | n + 1, r => .unusable :: gap n r
def poolList (es : List (Nat × CpInfo)) (last : Nat) : List CpInfo := es.foldr (fun e r => gap e.1 (e.2 :: r)) (gap last [])
def pool (es : List (Nat × CpInfo)) (last : Nat) : Array CpInfo := ⟨poolList es last⟩
def fileOf (pool : Array CpInfo) (this : Nat) (attrs : Array Attribute := #[]) (ms : Array MethodInfo := #[]) (fl : Nat := 33) (sup : Nat := 0) (ifs : Array Nat := #[]) (fds : Array FieldInfo := #[]) : ClassFile where
  minorVersion := 0
  majorVersion := 65
  constantPool := pool
  accessFlags := fl
  thisClass := this
  superClass := sup
  interfaces := ifs
  fields := fds
  methods := ms
  attributes := attrs
def plain (name : String) (sup : Option ClassId) : Class where
  name := name
  kind := .ordinary
  loader := none
  accessFlags := 33
  super := sup
  interfaces := #[]
  cf := none
  fields := #[]
  methods := #[]
  instanceTypes := #[]
  staticTypes := #[]
  resolved := #[]
  callSites := []
  init := .initialized
  statics := none
  mirror := none

def pool0 : Array CpInfo := pool [(5, u "<init>"), (0, u "()V"), (1, .class_ 10), (1, u "java/lang/Object")] 113

def k0c0 : Code := { maxStack := 0, maxLocals := 1, code := object_method_1_code, exceptionTable := #[], attributes := #[] }
def k0m0 : Method := { name := "<init>", desc := "()V", sig := { parameters := [], returnType := none }, accessFlags := 1, code := some k0c0 }
/-- java/lang/Object -/
def k0 : Class := { plain "java/lang/Object" none with
  accessFlags := 33
  interfaces := #[]
  cf := some (fileOf pool0 8 #[] #[{ accessFlags := 1, nameIndex := 5, descriptorIndex := 6, attributes := #[] }] 33 0 #[] #[])
  fields := #[]
  methods := #[k0m0]
  instanceTypes := #[]
  staticTypes := #[]
  resolved := Array.replicate 124 none
  statics := none }

def pool1 : Array CpInfo := pool [(2, .class_ 4), (1, u "java/lang/Object"), (0, u "<init>"), (0, u "()V"), (2, .long 9223372036854775807), (1, .integer 2147483647), (0, .methodref 13 14), (0, .class_ 15), (0, .nameAndType 16 17), (0, u "java/lang/Math"), (0, u "max"), (0, u "(II)I"), (0, .fieldref 19 20), (0, .class_ 21), (0, .nameAndType 22 23), (0, u "com/example/sams/sams/Slicing$Span"), (0, u "DAY"), (0, u "Lcom/example/sams/sams/Slicing$Span;"), (0, .fieldref 19 25), (0, .nameAndType 26 23), (0, u "HOUR"), (0, .long 86400), (1, .long 3600), (1, .class_ 32), (0, u "com/example/sams/sams/Slicing"), (0, .methodref 31 34), (0, .nameAndType 5 35), (0, u "(Lcom/example/sams/sams/Slicing$Span;I)V"), (0, .methodref 31 37), (0, .nameAndType 38 39), (0, u "oldestKept"), (0, u "(J)J"), (0, .class_ 41), (0, u "com/example/sams/sams/SlicingOldestKeptPinLaw"), (2, u "law"), (0, u "(JII)Z")] 5

def k1m0 : Method := { name := "<init>", desc := "()V", sig := { parameters := [], returnType := none }, accessFlags := 1, code := none }
def k1c1 : Code := { maxStack := 4, maxLocals := 18, code := code, exceptionTable := #[], attributes := #[] }
def k1m1 : Method := { name := "law", desc := "(JII)Z", sig := { parameters := [.long, .int, .int], returnType := some .boolean }, accessFlags := 9, code := some k1c1 }
/-- com/example/sams/sams/SlicingOldestKeptPinLaw -/
def k1 : Class := { plain "com/example/sams/sams/SlicingOldestKeptPinLaw" (some 0) with
  accessFlags := 49
  interfaces := #[]
  cf := some (fileOf pool1 40 #[] #[{ accessFlags := 1, nameIndex := 5, descriptorIndex := 6, attributes := #[] }, { accessFlags := 9, nameIndex := 44, descriptorIndex := 45, attributes := #[] }] 49 2 #[] #[])
  fields := #[]
  methods := #[k1m0, k1m1]
  instanceTypes := #[]
  staticTypes := #[]
  resolved := Array.replicate 51 none
  statics := none }

def pool2 : Array CpInfo := pool [(1, .class_ 2), (0, u "java/lang/Math"), (1, .class_ 6), (1, u "java/lang/Object"), (0, u "<init>"), (0, u "()V"), (89, .class_ 100), (1, u "java/lang/Math$RandomNumberGeneratorHolder"), (71, u "negativeZeroFloatBits"), (0, u "J"), (2, u "negativeZeroDoubleBits"), (21, u "max"), (46, u "$assertionsDisabled"), (0, u "Z"), (88, u "(II)I"), (2, u "twoToTheDoubleScaleDown"), (0, u "D"), (4, u "twoToTheDoubleScaleUp"), (9, u "E"), (3, u "PI"), (2, u "TAU"), (2, u "DEGREES_TO_RADIANS"), (0, u "RADIANS_TO_DEGREES")] 94

def k2m0 : Method := { name := "<init>", desc := "()V", sig := { parameters := [], returnType := none }, accessFlags := 2, code := none }
def k2c1 : Code := { maxStack := 2, maxLocals := 2, code := jdk_29_method_65_code, exceptionTable := #[], attributes := #[] }
def k2m1 : Method := { name := "max", desc := "(II)I", sig := { parameters := [.int, .int], returnType := some .int }, accessFlags := 9, code := some k2c1 }
/-- java/lang/Math -/
def k2 : Class := { plain "java/lang/Math" (some 0) with
  accessFlags := 49
  interfaces := #[]
  cf := some (fileOf pool2 1 #[.nestMembers #[98]] #[{ accessFlags := 2, nameIndex := 7, descriptorIndex := 8, attributes := #[] }, { accessFlags := 9, nameIndex := 198, descriptorIndex := 335, attributes := #[] }] 49 4 #[] #[{ accessFlags := 25, nameIndex := 354, descriptorIndex := 339, attributes := #[] }, { accessFlags := 25, nameIndex := 358, descriptorIndex := 339, attributes := #[] }, { accessFlags := 25, nameIndex := 361, descriptorIndex := 339, attributes := #[] }, { accessFlags := 26, nameIndex := 364, descriptorIndex := 339, attributes := #[] }, { accessFlags := 26, nameIndex := 365, descriptorIndex := 339, attributes := #[] }, { accessFlags := 26, nameIndex := 172, descriptorIndex := 173, attributes := #[] }, { accessFlags := 26, nameIndex := 176, descriptorIndex := 173, attributes := #[] }, { accessFlags := 8, nameIndex := 344, descriptorIndex := 339, attributes := #[] }, { accessFlags := 8, nameIndex := 338, descriptorIndex := 339, attributes := #[] }, { accessFlags := 4120, nameIndex := 245, descriptorIndex := 246, attributes := #[] }])
  fields := #[{ name := "E", type := .double, accessFlags := 25, slot := 0, constantValue := 0 }, { name := "PI", type := .double, accessFlags := 25, slot := 1, constantValue := 0 }, { name := "TAU", type := .double, accessFlags := 25, slot := 2, constantValue := 0 }, { name := "DEGREES_TO_RADIANS", type := .double, accessFlags := 26, slot := 3, constantValue := 0 }, { name := "RADIANS_TO_DEGREES", type := .double, accessFlags := 26, slot := 4, constantValue := 0 }, { name := "negativeZeroFloatBits", type := .long, accessFlags := 26, slot := 5, constantValue := 0 }, { name := "negativeZeroDoubleBits", type := .long, accessFlags := 26, slot := 6, constantValue := 0 }, { name := "twoToTheDoubleScaleUp", type := .double, accessFlags := 8, slot := 7, constantValue := 0 }, { name := "twoToTheDoubleScaleDown", type := .double, accessFlags := 8, slot := 8, constantValue := 0 }, { name := "$assertionsDisabled", type := .boolean, accessFlags := 4120, slot := 9, constantValue := 0 }]
  methods := #[k2m0, k2m1]
  instanceTypes := #[]
  staticTypes := #[.double, .double, .double, .double, .double, .long, .long, .double, .double, .boolean]
  resolved := Array.replicate 460 none
  statics := none }

def pool3 : Array CpInfo := pool [(1, .class_ 2), (0, u "java/lang/constant/Constable"), (0, .class_ 4), (0, u "java/lang/Object")] 6

/-- java/lang/constant/Constable -/
def k3 : Class := { plain "java/lang/constant/Constable" (some 0) with
  accessFlags := 1537
  interfaces := #[]
  cf := some (fileOf pool3 1 #[] #[] 1537 3 #[] #[])
  fields := #[]
  methods := #[]
  instanceTypes := #[]
  staticTypes := #[]
  resolved := Array.replicate 11 none
  statics := none }

def pool4 : Array CpInfo := pool [(1, .class_ 2), (0, u "java/lang/Comparable"), (0, .class_ 4), (0, u "java/lang/Object")] 7

/-- java/lang/Comparable -/
def k4 : Class := { plain "java/lang/Comparable" (some 0) with
  accessFlags := 1537
  interfaces := #[]
  cf := some (fileOf pool4 1 #[] #[] 1537 3 #[] #[])
  fields := #[]
  methods := #[]
  instanceTypes := #[]
  staticTypes := #[]
  resolved := Array.replicate 12 none
  statics := none }

def pool5 : Array CpInfo := pool [(1, .class_ 2), (0, u "java/io/Serializable"), (0, .class_ 4), (0, u "java/lang/Object")] 2

/-- java/io/Serializable -/
def k5 : Class := { plain "java/io/Serializable" (some 0) with
  accessFlags := 1537
  interfaces := #[]
  cf := some (fileOf pool5 1 #[] #[] 1537 3 #[] #[])
  fields := #[]
  methods := #[]
  instanceTypes := #[]
  staticTypes := #[]
  resolved := Array.replicate 7 none
  statics := none }

def pool6 : Array CpInfo := pool [(2, .class_ 4), (1, u "java/lang/Enum"), (0, u "name"), (0, u "Ljava/lang/String;"), (2, u "ordinal"), (0, u "I"), (1, .class_ 14), (1, u "java/lang/Object"), (4, u "hash"), (86, .class_ 108), (1, u "java/lang/Enum$EnumDesc"), (2, .class_ 112), (0, u "java/lang/constant/Constable"), (0, .class_ 114), (0, u "java/lang/Comparable"), (0, .class_ 116), (0, u "java/io/Serializable")] 87

/-- java/lang/Enum -/
def k6 : Class := { plain "java/lang/Enum" (some 0) with
  accessFlags := 1057
  interfaces := #[3, 4, 5]
  cf := some (fileOf pool6 2 #[.nestMembers #[106]] #[] 1057 12 #[111, 113, 115] #[{ accessFlags := 18, nameIndex := 5, descriptorIndex := 6, attributes := #[] }, { accessFlags := 18, nameIndex := 9, descriptorIndex := 10, attributes := #[] }, { accessFlags := 2, nameIndex := 19, descriptorIndex := 10, attributes := #[] }])
  fields := #[{ name := "name", type := (.object "java/lang/String"), accessFlags := 18, slot := 0, constantValue := 0 }, { name := "ordinal", type := .int, accessFlags := 18, slot := 1, constantValue := 0 }, { name := "hash", type := .int, accessFlags := 2, slot := 2, constantValue := 0 }]
  methods := #[]
  instanceTypes := #[(.object "java/lang/String"), .int, .int]
  staticTypes := #[]
  resolved := Array.replicate 204 none
  statics := none }

def pool7 : Array CpInfo := pool [(1, .class_ 2), (0, u "com/example/sams/sams/Slicing$Span"), (2, u "HOUR"), (0, u "Lcom/example/sams/sams/Slicing$Span;"), (2, u "DAY"), (2, u "$VALUES"), (0, u "[Lcom/example/sams/sams/Slicing$Span;"), (6, .class_ 22), (1, u "java/lang/Enum"), (8, u "code"), (0, u "B"), (2, u "seconds"), (0, u "J"), (55, .class_ 93), (0, u "com/example/sams/sams/Slicing")] 2

/-- com/example/sams/sams/Slicing$Span -/
def k7 : Class := { plain "com/example/sams/sams/Slicing$Span" (some 6) with
  accessFlags := 16433
  interfaces := #[]
  cf := some (fileOf pool7 1 #[.nestHost 92] #[] 16433 20 #[] #[{ accessFlags := 16409, nameIndex := 5, descriptorIndex := 6, attributes := #[] }, { accessFlags := 16409, nameIndex := 9, descriptorIndex := 6, attributes := #[] }, { accessFlags := 18, nameIndex := 31, descriptorIndex := 32, attributes := #[] }, { accessFlags := 18, nameIndex := 35, descriptorIndex := 36, attributes := #[] }, { accessFlags := 4122, nameIndex := 12, descriptorIndex := 13, attributes := #[] }])
  fields := #[{ name := "HOUR", type := (.object "com/example/sams/sams/Slicing$Span"), accessFlags := 16409, slot := 0, constantValue := 0 }, { name := "DAY", type := (.object "com/example/sams/sams/Slicing$Span"), accessFlags := 16409, slot := 1, constantValue := 0 }, { name := "code", type := .byte, accessFlags := 18, slot := 3, constantValue := 0 }, { name := "seconds", type := .long, accessFlags := 18, slot := 4, constantValue := 0 }, { name := "$VALUES", type := (.array (.object "com/example/sams/sams/Slicing$Span")), accessFlags := 4122, slot := 2, constantValue := 0 }]
  methods := #[]
  instanceTypes := #[(.object "java/lang/String"), .int, .int, .byte, .long]
  staticTypes := #[(.object "com/example/sams/sams/Slicing$Span"), (.object "com/example/sams/sams/Slicing$Span"), (.array (.object "com/example/sams/sams/Slicing$Span"))]
  resolved := Array.replicate 96 none
  statics := some 0 }

def pool8 : Array CpInfo := pool [(1, .methodref 2 3), (0, .class_ 4), (0, .nameAndType 5 6), (0, u "java/lang/Object"), (0, u "<init>"), (0, u "()V"), (19, .fieldref 27 28), (0, .class_ 29), (0, .nameAndType 30 31), (0, u "com/example/sams/sams/Slicing"), (0, u "span"), (0, u "Lcom/example/sams/sams/Slicing$Span;"), (0, .fieldref 27 33), (0, .nameAndType 34 35), (0, u "retain"), (0, u "I"), (7, .fieldref 44 45), (0, .class_ 46), (0, .nameAndType 47 48), (0, u "com/example/sams/sams/Slicing$Span"), (0, u "seconds"), (0, u "J"), (0, u "(Lcom/example/sams/sams/Slicing$Span;I)V"), (8, u "(J)J"), (0, u "oldestKept")] 5

def k8c0 : Code := { maxStack := 7, maxLocals := 3, code := prog_14_method_1_code, exceptionTable := #[], attributes := #[] }
def k8m0 : Method := { name := "<init>", desc := "(Lcom/example/sams/sams/Slicing$Span;I)V", sig := { parameters := [(.object "com/example/sams/sams/Slicing$Span"), .int], returnType := none }, accessFlags := 1, code := some k8c0 }
def k8c1 : Code := { maxStack := 6, maxLocals := 3, code := prog_14_method_5_code, exceptionTable := #[], attributes := #[] }
def k8m1 : Method := { name := "oldestKept", desc := "(J)J", sig := { parameters := [.long], returnType := some .long }, accessFlags := 0, code := some k8c1 }
/-- com/example/sams/sams/Slicing -/
def k8 : Class := { plain "com/example/sams/sams/Slicing" (some 0) with
  accessFlags := 33
  interfaces := #[]
  cf := some (fileOf pool8 27 #[.nestMembers #[44]] #[{ accessFlags := 1, nameIndex := 5, descriptorIndex := 49, attributes := #[] }, { accessFlags := 0, nameIndex := 59, descriptorIndex := 58, attributes := #[] }] 33 2 #[] #[{ accessFlags := 18, nameIndex := 30, descriptorIndex := 31, attributes := #[] }, { accessFlags := 18, nameIndex := 34, descriptorIndex := 35, attributes := #[] }])
  fields := #[{ name := "span", type := (.object "com/example/sams/sams/Slicing$Span"), accessFlags := 18, slot := 0, constantValue := 0 }, { name := "retain", type := .int, accessFlags := 18, slot := 1, constantValue := 0 }]
  methods := #[k8m0, k8m1]
  instanceTypes := #[(.object "com/example/sams/sams/Slicing$Span"), .int]
  staticTypes := #[]
  resolved := ((Array.replicate 65 none).setIfInBounds 43 (some (.field 7 3)))
  statics := none }

def pool9 : Array CpInfo := pool [(1, u "java/lang/Cloneable"), (0, .class_ 1), (0, u "java/lang/Object"), (0, .class_ 3)] 3

/-- java/lang/Cloneable -/
def k9 : Class := { plain "java/lang/Cloneable" (some 0) with
  accessFlags := 1537
  interfaces := #[]
  cf := some (fileOf pool9 2 #[] #[] 1537 4 #[] #[])
  fields := #[]
  methods := #[]
  instanceTypes := #[]
  staticTypes := #[]
  resolved := Array.replicate 8 none
  statics := none }

/-- the primitive byte -/
def k10 : Class := { plain "byte" none with kind := .primitive 'B', accessFlags := 0x411 }
/-- [B -/
def k11 : Class := { plain "[B" (some 0) with kind := .array 10 .byte, interfaces := #[9, 5], accessFlags := 1041 }

/-- the primitive int -/
def k12 : Class := { plain "int" none with kind := .primitive 'I', accessFlags := 0x411 }
/-- [I -/
def k13 : Class := { plain "[I" (some 0) with kind := .array 12 .int, interfaces := #[9, 5], accessFlags := 1041 }

def heap : Heap := #[{ cls := 7, slots := #[.ref 1, .ref 2, .null], vm := .statics 7 },
  { cls := 7, slots := #[.null, .int 0, .int 0, .int 0, .long 3600], vm := .none },
  { cls := 7, slots := #[.null, .int 1, .int 0, .int 0, .long 86400], vm := .none }]
def classes : Array Class := #[k0, k1, k2, k3, k4, k5, k6, k7, k8, k9, k10, k11, k12, k13]
def interned : List (Array UInt16 × Addr) := []
def slotsUsed : Nat := 13
def theMethod : MethodId := ⟨1, 1⟩
def args0 : Array Value := #[.long 5, .int 2, .int 1]
def aboutOver (below : List Frame) : State where
  vm := { classes := classes, interned := interned.toArray }
  heap := heap
  slotsUsed := slotsUsed
  threads := #[{ frames := .invoking theMethod args0 :: below }]
def below0 : List Frame := [.native { method := ⟨0, 0⟩, args := #[] }]
def about1 : State := aboutOver below0
def p0 : Program := .bare "" "" ""
def e0 : Env := launch0.env 0 0 0
theorem w_frames : about1.frames = Frame.invoking theMethod args0 :: below0 := rfl
set_option maxRecDepth 65536 in
theorem w_args : argsFit about1.vm theMethod args0 = true := by decide +kernel
set_option maxRecDepth 65536 in
theorem w_heap : heapFits about1 = true := by decide +kernel
set_option maxRecDepth 65536 in
theorem w_runnable : about1.curStatus? = some .runnable := by decide +kernel
set_option maxRecDepth 65536 in
theorem w_alone : about1.alone = true := by decide +kernel
set_option maxRecDepth 65536 in
theorem w_named : about1.methodNamed? x = some theMethod := by decide +kernel
set_option maxRecDepth 65536 in
theorem w_hears : about1.hears theMethod below0 = true := by decide +kernel
set_option maxRecDepth 65536 in
theorem w_ripe : about1.ripe theMethod args0 below0 = true := by decide +kernel
theorem w_running : about1.status = .running := rfl
set_option maxRecDepth 65536 in
theorem w_room : about1.hasRoom e0.platform room_1 = true :=
  launch0.hasRoom_least _ room_1 (by decide +kernel) (by decide +kernel) (by decide +kernel) (by decide +kernel) (by decide +kernel) (by decide +kernel)
theorem allAtoms_all (ts : List Jvm.Cond) (a : Array Jvm.Value) (st : Jvm.State) : (allAtoms ts).before a st = ts.all (fun c => c.before a st) := by
  induction ts with
  | nil => rfl
  | cons c t ih =>
    show (Jvm.Cond.and c (allAtoms t)).before a st = _
    rw [Jvm.Cond.before_and, ih, List.all_cons]
def words1 : List Jvm.Cond := Jvm.Cond.code x code maxLocals ret :: tables_1
/-- a 'code' word, met by the world's own term for the bytes: nothing is compared byte by byte -/
theorem code_word {y : MethodName} {bytes : ByteArray} {mx : Nat} {rt : Option FieldType} {a : Array Value} {s : State} {m : MethodId} {meth : Method} {c : Code} (h1 : s.methodNamed? y = some m) (h2 : s.vm.method? m = some meth) (h3 : meth.code = some c) (h4 : c.code = bytes)
    (h5 : (c.maxLocals == mx && c.exceptionTable.isEmpty && decide (c.maxStack ≤ mostOperands) && decide (meth.sig.returnType = rt) && !meth.locks && decide (parseMethodDescriptor y.desc = some meth.sig)) = true) : (Jvm.Cond.code y bytes mx rt).before a s = true := by
  simp only [Bool.and_eq_true, beq_iff_eq, Bool.not_eq_true', decide_eq_true_eq] at h5
  obtain ⟨⟨⟨⟨⟨g1, g2⟩, g3⟩, g4⟩, g5⟩, g6⟩ := h5
  simp [Cond.before, Cond.holds, Cond.value, h1, h2, h3, h4, g1, g2, g3, g4, g5, g6]
def isCode : Jvm.Cond → Bool
  | .code _ _ _ _ => true
  | _ => false
theorem all_split {L : List Jvm.Cond} {P : Jvm.Cond → Bool} (h1 : L.all (fun c => isCode c || P c) = true) (h2 : ∀ c ∈ L.filter isCode, P c = true) : L.all P = true := by
  refine List.all_eq_true.mpr fun c hc => ?_
  have h := List.all_eq_true.mp h1 c hc
  rcases Bool.eq_false_or_eq_true (isCode c) with hi | hi
  · exact h2 c (List.mem_filter.mpr ⟨hc, hi⟩)
  · simpa [hi] using h
set_option maxRecDepth 65536 in
theorem w_c0 : (Jvm.Cond.code x code maxLocals ret).before args0 about1 = true := code_word (m := ⟨1, 1⟩) (meth := k1m1) (c := k1c1) (by decide +kernel) rfl rfl rfl (by decide +kernel)
set_option maxRecDepth 65536 in
theorem w_c1 : (Jvm.Cond.code ({ cls := "java/lang/Math", name := "max", desc := "(II)I" } : Jvm.MethodName) jdk_29_method_65_code (2 : Nat) (Option.some Jvm.ClassFile.FieldType.int)).before args0 about1 = true := code_word (m := ⟨2, 1⟩) (meth := k2m1) (c := k2c1) (by decide +kernel) rfl rfl rfl (by decide +kernel)
set_option maxRecDepth 65536 in
theorem w_c2 : (Jvm.Cond.code ({ cls := "com/example/sams/sams/Slicing", name := "<init>", desc := "(Lcom/example/sams/sams/Slicing$Span;I)V" } : Jvm.MethodName) prog_14_method_1_code (3 : Nat) (Option.none : Option Jvm.ClassFile.FieldType)).before args0 about1 = true := code_word (m := ⟨8, 0⟩) (meth := k8m0) (c := k8c0) (by decide +kernel) rfl rfl rfl (by decide +kernel)
set_option maxRecDepth 65536 in
theorem w_c3 : (Jvm.Cond.code ({ cls := "java/lang/Object", name := "<init>", desc := "()V" } : Jvm.MethodName) object_method_1_code (1 : Nat) (Option.none : Option Jvm.ClassFile.FieldType)).before args0 about1 = true := code_word (m := ⟨0, 0⟩) (meth := k0m0) (c := k0c0) (by decide +kernel) rfl rfl rfl (by decide +kernel)
set_option maxRecDepth 65536 in
theorem w_c4 : (Jvm.Cond.code ({ cls := "com/example/sams/sams/Slicing", name := "oldestKept", desc := "(J)J" } : Jvm.MethodName) prog_14_method_5_code (3 : Nat) (Option.some Jvm.ClassFile.FieldType.long)).before args0 about1 = true := code_word (m := ⟨8, 1⟩) (meth := k8m1) (c := k8c1) (by decide +kernel) rfl rfl rfl (by decide +kernel)
def codes1 : List Jvm.Cond := [Jvm.Cond.code x code maxLocals ret, Jvm.Cond.code ({ cls := "java/lang/Math", name := "max", desc := "(II)I" } : Jvm.MethodName) jdk_29_method_65_code (2 : Nat) (Option.some Jvm.ClassFile.FieldType.int), Jvm.Cond.code ({ cls := "com/example/sams/sams/Slicing", name := "<init>", desc := "(Lcom/example/sams/sams/Slicing$Span;I)V" } : Jvm.MethodName) prog_14_method_1_code (3 : Nat) (Option.none : Option Jvm.ClassFile.FieldType), Jvm.Cond.code ({ cls := "java/lang/Object", name := "<init>", desc := "()V" } : Jvm.MethodName) object_method_1_code (1 : Nat) (Option.none : Option Jvm.ClassFile.FieldType), Jvm.Cond.code ({ cls := "com/example/sams/sams/Slicing", name := "oldestKept", desc := "(J)J" } : Jvm.MethodName) prog_14_method_5_code (3 : Nat) (Option.some Jvm.ClassFile.FieldType.long)]
set_option maxRecDepth 65536 in
theorem codes_eq : words1.filter isCode = codes1 := rfl
theorem w_codes : ∀ c ∈ words1.filter isCode, c.before args0 about1 = true := by
  rw [codes_eq]
  intro c hc
  simp only [codes1, List.mem_cons, List.not_mem_nil, or_false] at hc
  rcases hc with rfl | rfl | rfl | rfl | rfl
  · exact w_c0
  · exact w_c1
  · exact w_c2
  · exact w_c3
  · exact w_c4
set_option maxRecDepth 65536 in
theorem w_t1 : (words1.take 24).all (fun c => isCode c || c.before args0 about1) = true := by decide +kernel
set_option maxRecDepth 65536 in
theorem w_t2 : (words1.drop 24).all (fun c => isCode c || c.before args0 about1) = true := by decide +kernel
theorem w_tables : (allAtoms (Jvm.Cond.code x code maxLocals ret :: tables_1)).before args0 about1 = true := by
  rw [allAtoms_all]
  show words1.all (fun c => c.before args0 about1) = true
  refine all_split ?_ w_codes
  rw [← List.take_append_drop 24 words1, List.all_append, w_t1, w_t2]
  rfl
set_option maxRecDepth 65536 in
theorem w_case : (Jvm.Cond.and given_1 narrow_1).before args0 about1 = true := by decide +kernel
theorem w_applies : (headSpec (Jvm.Cond.code x code maxLocals ret :: tables_1) room_1).applies x e0.platform about1 = true :=
  (Spec.applies_iff w_frames).mpr ⟨w_running, w_runnable, w_alone, w_named, w_hears, w_ripe, w_room, w_tables⟩
theorem atStart : AtStart classFile x code maxLocals ret World_1 tables_1 room_1 Calls_1 rest_1 Pre_1 launch0 p0 e0 about1 theMethod args0 below0 :=
  ⟨lists_1, trivial, launch0.admits_env _ _ _, launch0.least_env, fairChoices_fair.cas, fairChoices_fair.clock, w_frames, w_args, w_heap, w_applies, trivial, trivial, w_case⟩
end start1
theorem witness_1 : WitnessClaimed_1 := ⟨start1.p0, start1.e0, start1.about1, start1.theMethod, start1.args0, start1.below0, start1.atStart⟩
end Jvm.Pilot.@@N@@
