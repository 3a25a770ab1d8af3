import JvmDerived
import JvmDerived.Pilot.@@N@@Statement
import JvmDerived.Pilot.@@N@@Code
@@BLOCK:NumsL.lean.txt@@
set_option linter.unusedVariables false
set_option linter.unusedSimpArgs false
namespace Jvm.Pilot.@@N@@
open Jvm Jvm.ClassFile Sem Op Lib Jvm.Free Jvm.Stand Jvm.LawKit Jvm.RoadKit Bundle Jvm.Pilot.@@N@@.Jvm.D
abbrev own_m0 : MethodName := ⟨"com/example/feeds_to_views/feedstoviews/sql/TypeFitsPinLaw", "type", "(I)Lcom/example/feeds_to_views/feedstoviews/sql/Type;"⟩
abbrev own_m1 : MethodName := ⟨"com/example/feeds_to_views/feedstoviews/sql/Type", "fits", "(Lcom/example/feeds_to_views/feedstoviews/sql/Type;)Z"⟩
section OwnPre
variable {p : Program} {l : Launch} {e : Env} {R : Room} {s : State} {m : MethodId} {args : Array Value} {below : List Frame} {meth : Method} {c : Code} {T : State} {locs : List Loc} {cells slots : Nat} {Z : State} {h h' : Heap}
/-- from A the run comes to an end of which P holds -/
def own_G (p : Program) (e : Env) (below : List Frame) (A : State) (P : State → Outcome → Prop) : Prop := ∃ s₂ o, Steps p.tables e below A s₂ ∧ P s₂ o
def own_P (s : State) (below : List Frame) (C S : Nat) (Q : Option Value → Heap → List Loc → Prop) (s₂ : State) (o : Outcome) : Prop := s₂.status = .running ∧ Ended s₂ below o ∧ ∃ v L, o = .returned v ∧ Q v s₂.heap L ∧ FrameEnd s o s₂ L C S
def own_PW (s : State) (below : List Frame) (C S : Nat) (Q : Option Value → Heap → List Loc → Prop) (s₂ : State) (o : Outcome) : Prop := s₂.status = .running ∧ Ended s₂ below o ∧ ∃ v L, o = .returned v ∧ Q v s₂.heap L ∧ ReturnedEndW s o s₂ L C S
theorem own_go {A B : State} {P : State → Outcome → Prop} (k : ∀ t, Steps p.tables e below B t → Steps p.tables e below A t) (g : own_G p e below B P) : own_G p e below A P := by
  obtain ⟨s, o, h, r⟩ := g; exact ⟨s, o, k _ h, r⟩
theorem own_tr {A B : State} {P : State → Outcome → Prop} (k : Steps p.tables e below A B) (g : own_G p e below B P) : own_G p e below A P := own_go (fun _ h => k.trans h) g
theorem own_start {C S : Nat} {Q : Option Value → Heap → List Loc → Prop} {g g' : JFrame} (q : g = g') (k : own_G p e below (T.setTop g') (own_P s below C S Q)) :
    ∃ s₂ o, Steps p.tables e below (T.setTop g) s₂ ∧ s₂.status = .running ∧ Ended s₂ below o ∧ ∃ v L, o = .returned v ∧ Q v s₂.heap L ∧ FrameEnd s o s₂ L C S := q ▸ k
theorem own_startW {C S : Nat} {Q : Option Value → Heap → List Loc → Prop} {g g' : JFrame} (q : g = g') (k : own_G p e below (T.setTop g') (own_PW s below C S Q)) :
    ∃ s₂ o, Steps p.tables e below (T.setTop g) s₂ ∧ s₂.status = .running ∧ Ended s₂ below o ∧ ∃ v L, o = .returned v ∧ Q v s₂.heap L ∧ ReturnedEndW s o s₂ L C S := q ▸ k
theorem own_ret (X : Stand p l e R s m args below meth c T locs cells slots) (hx : p.tables.exec = Jvm.exec) {pc : Nat} {Ls : Array Slot} {w : Value} {t : FieldType} {i : Instr} {rest : List Value} (hret : meth.sig.returnType = some t) (hn : narrow t w = w)
    (hi : (i = .ireturn ∧ (t = .int ∨ t = .boolean ∨ t = .byte ∨ t = .char ∨ t = .short) ∧ ∃ z, w = .int z) ∨ (i = .lreturn ∧ t = .long ∧ ∃ z, w = .long z) ∨ (i = .dreturn ∧ t = .double ∧ ∃ z, w = .double z) ∨ (i = .freturn ∧ t = .float ∧ ∃ z, w = .float z) ∨ (i = .areturn ∧ t.isReference = true ∧ w.isRef = true))
    (hd : decode c.code pc = .ok (i, 1)) (hlocks : meth.locks = false) {C S : Nat} {Q : Option Value → Heap → List Loc → Prop} (hC : cells ≤ C) (hS : slots ≤ S) (hQ : Q (some w) T.heap locs) :
    own_G p e below (T.setTop (mkF m pc Ls (w :: rest))) (own_P s below C S Q) := by
  obtain ⟨fs, hr, hrun, hended, hW, hsame⟩ := X.leave (v := some w) (fun h => by rw [hret] at h; cases h) hlocks
  exact ⟨_, _, retOut X hx hret hn hi hd hr, hrun, hended, _, _, rfl, hQ, ⟨_, rfl⟩, hW, hsame.mono hC hS⟩
theorem own_retV (X : Stand p l e R s m args below meth c T locs cells slots) (hx : p.tables.exec = Jvm.exec) {pc : Nat} {Ls : Array Slot} (hret : meth.sig.returnType = none) (hd : decode c.code pc = .ok (.return_, 1)) (hlocks : meth.locks = false)
    {C S : Nat} {Q : Option Value → Heap → List Loc → Prop} (hC : cells ≤ C) (hS : slots ≤ S) (hQ : Q none T.heap locs) : own_G p e below (T.setTop (mkF m pc Ls [])) (own_P s below C S Q) := by
  obtain ⟨fs, hr, hrun, hended, hW, hsame⟩ := X.leave (v := none) (fun _ => rfl) hlocks
  exact ⟨_, _, X.returnOut hx hret hd hr, hrun, hended, _, _, rfl, hQ, ⟨_, rfl⟩, hW, hsame.mono hC hS⟩
theorem own_retW {vm₁ : Vm} (X : Stand p l e R (s.setVm vm₁) m args below meth c T locs cells slots) {n : Nat} (hSi : s.Since vm₁ n) (hn' : n ≤ T.heap.size) (hx : p.tables.exec = Jvm.exec) {pc : Nat} {Ls : Array Slot} {w : Value} {t : FieldType} {i : Instr} {rest : List Value} (hret : meth.sig.returnType = some t) (hn : narrow t w = w)
    (hi : (i = .ireturn ∧ (t = .int ∨ t = .boolean ∨ t = .byte ∨ t = .char ∨ t = .short) ∧ ∃ z, w = .int z) ∨ (i = .lreturn ∧ t = .long ∧ ∃ z, w = .long z) ∨ (i = .dreturn ∧ t = .double ∧ ∃ z, w = .double z) ∨ (i = .freturn ∧ t = .float ∧ ∃ z, w = .float z) ∨ (i = .areturn ∧ t.isReference = true ∧ w.isRef = true))
    (hd : decode c.code pc = .ok (i, 1)) (hlocks : meth.locks = false) {C S : Nat} {Q : Option Value → Heap → List Loc → Prop} (hC : cells ≤ C) (hS : slots ≤ S) (hQ : Q (some w) T.heap locs) :
    own_G p e below (T.setTop (mkF m pc Ls (w :: rest))) (own_PW s below C S Q) := by
  obtain ⟨fs, hr, hrun, hended, hW⟩ := (X.mono hC hS).leaveW hSi hn' (v := some w) (fun h => by rw [hret] at h; cases h) hlocks
  exact ⟨_, _, retOut X hx hret hn hi hd hr, hrun, hended, _, _, rfl, hQ, hW⟩
theorem own_retVW {vm₁ : Vm} (X : Stand p l e R (s.setVm vm₁) m args below meth c T locs cells slots) {n : Nat} (hSi : s.Since vm₁ n) (hn' : n ≤ T.heap.size) (hx : p.tables.exec = Jvm.exec) {pc : Nat} {Ls : Array Slot} (hret : meth.sig.returnType = none) (hd : decode c.code pc = .ok (.return_, 1)) (hlocks : meth.locks = false)
    {C S : Nat} {Q : Option Value → Heap → List Loc → Prop} (hC : cells ≤ C) (hS : slots ≤ S) (hQ : Q none T.heap locs) : own_G p e below (T.setTop (mkF m pc Ls [])) (own_PW s below C S Q) := by
  obtain ⟨fs, hr, hrun, hended, hW⟩ := (X.mono hC hS).leaveW hSi hn' (v := none) (fun _ => rfl) hlocks
  exact ⟨_, _, X.returnOut hx hret hd hr, hrun, hended, _, _, rfl, hQ, hW⟩
theorem own_ext_refl (h : Heap) : Ext h h := ⟨Nat.le_refl _, fun _ _ q => q⟩
theorem own_ext_trans {h1 h2 h3 : Heap} (A : Ext h1 h2) (B : Ext h2 h3) : Ext h1 h3 := ⟨Nat.le_trans A.1 B.1, fun a c q => B.2 a c (A.2 a c q)⟩
theorem own_ext_keep {h0 : Heap} {ws : List Addr} (O : Ext h0 h) (K : Keep h h' ws) (q : ∀ x ∈ ws, h0.size ≤ x) : Ext h0 h' := ⟨Nat.le_trans O.1 K.1, fun x c r => K.2.1 x c (O.2 x c r) fun z => absurd (Array.getElem?_eq_some_iff.mp r).1 (Nat.not_lt.mpr (q x z))⟩
theorem own_ext_wr {h0 : Heap} {a : Addr} {sl : Nat} {v : Value} (O : Ext h0 h) (W : Wr h h' a sl v) (q : h0.size ≤ a) : Ext h0 h' := own_ext_keep O (Keep.of_wr W) (allS q all0)
theorem own_fld_ne {a b : Addr} {C n d : String} {v w : Value} (F : Fld Z h a C n d v) (G : Fld Z h b C n d w) (q : v ≠ w) : a ≠ b := fun e => by
  subst e
  obtain ⟨c1, cf, k, i, f, h1, h2, -, -, -, -, h7⟩ := F
  obtain ⟨c2, cf', k', i', f', g1, g2, -, -, -, -, g7⟩ := G
  cases h1.symm.trans g1
  cases h2.symm.trans g2
  exact q (Option.some.inj (h7.symm.trans g7))
theorem own_getR (X : Stand p l e R s m args below meth c T locs cells slots) (hx : p.tables.exec = Jvm.exec) (hZ : Z.Warmed39 s.vm) {a0 : Array Value} {own R0 O n d : String} {index : Nat} (hown : s.vm.findClass own = some m.cls) (w : (Cond.fieldRef own index R0 n d).before a0 Z = true) (via : Via Z R0 O n d)
    (eT : T.heap = h) {a : Addr} {v : Value} (F : Fld Z h a O n d v) {g : JFrame} (hg : g.method = m) {rest : List Value} (hs : g.stack = .ref a :: rest) (hd : decode c.code g.pc = .ok (.getfield index, 3)) :
    ∀ target, Steps p.tables e below (T.setTop { g with pc := g.pc + 3, stack := v :: rest }) target → Steps p.tables e below (T.setTop g) target := by
  obtain ⟨cell, cf, k, i, f, h1, h2, h3, h4, -, -, h7⟩ := F
  have hi := via _ h2
  have hT : Z.Warmed39 T.vm := wtrans hZ X.warmed
  have hownZ : Z.vm.findClass own = some m.cls := by rw [← hZ.alike.findClass]; exact hown
  have hr : Z.resolvedAt? own index = some (.field cf i) := by
    simp only [Cond.before, Cond.holds, Cond.value, hownZ, hi, beq_iff_eq, Option.some.injEq, Bool.and_eq_true] at w
    obtain ⟨-, w⟩ := w
    split at w
    · rename_i c' i' hr; simp only [Bool.and_eq_true, beq_iff_eq] at w; obtain ⟨rfl, rfl⟩ := w; exact hr
    · cases w
  have hr' := State.resolvedAt?_warmed39 hT hr
  have hownT : T.vm.findClass own = some m.cls := by rw [hT.alike.findClass]; exact hownZ
  obtain ⟨k', hi', -⟩ := State.fieldFound?_setVm (s := Z) hT.alike hi
  obtain ⟨hk, hf⟩ := State.fieldFound?_spec hi'
  have hready : T.vm.fieldReady m.cls index cf f := by
    simp only [State.resolvedAt?, State.vm_setVm, hownT, Option.bind_eq_bind, Option.bind_some, Option.bind_eq_some_iff] at hr'
    obtain ⟨kc, hkc, hr'⟩ := hr'
    refine ⟨kc, i, k', hkc, ?_, hk, hf⟩
    cases hx : kc.resolved[index]? with
    | none => simp [hx] at hr'
    | some y => simp only [hx, Option.join_some] at hr'; rw [hr']
  intro target hrest
  subst hg
  jvm_step X.here [hx, hd, getfield.wp_ready (e := e) (s := T) (f := g) X.here.top hready h3 hs (show T.heap[a]? = some cell by rw [eT]; exact h1) h4 h7]
  exact hrest
theorem own_selfPriv {s : State} {args args' : Array Value} {y : MethodName} {n : Nat} (wi : (Cond.instantiable y.cls n).before args' s = true) (hp : s.PrivateAt y) (hi : (Cond.instanceMethod y).before args s = true) (hy : y.cls ≠ "java/lang/invoke/MethodHandle" ∧ y.cls ≠ "java/lang/invoke/VarHandle") : (Cond.selects y.cls y y).before args s = true := by
  obtain ⟨c, k, h1, h2, -, h4, -⟩ := Cond.instantiable_spec wi
  exact Jvm.Stand.selects_self_of_private h1 h2 (by simp only [Bool.or_eq_false_iff] at h4; exact h4.1) hp hi hy
theorem own_bool (z : Int32) (h : z = 0 ∨ z = 1) : narrow .boolean (.int z) = .int z := by rcases h with rfl | rfl <;> rfl
theorem own_hw {Z : State} {a0 : Array Value} {ws : List Jvm.Cond} (hw : ∀ d ∈ ws, d.before a0 Z = true) (i : Nat) {d : Jvm.Cond} (h : ws[i]? = some d) : d.before a0 Z = true := hw d (List.mem_of_getElem? h)
end OwnPre

def own_pick (k : Int32) (a b c d : Addr) : Addr := if k = 0 then a else if k = 1 then b else if k = 2 then c else d
def own_fits (x y n : Addr) : Int32 := if x = y ∨ x = n then 1 else 0
theorem own_pick_P {P : Addr → Prop} {k : Int32} {a b c d : Addr} (ha : P a) (hb : P b) (hc : P c) (hd : P d) : P (own_pick k a b c d) := by unfold own_pick; split; exact ha; split; exact hb; split; exact hc; exact hd
theorem own_and3 (x : Int32) : x &&& 3 = 0 ∨ x &&& 3 = 1 ∨ x &&& 3 = 2 ∨ x &&& 3 = 3 := by
  have h := Jvm.Kit.i32_mask x 3 (k := 2) (by decide) (by decide)
  have h0 : (0 : Int32).toInt = 0 := by decide
  have h1 : (1 : Int32).toInt = 1 := by decide
  have h2 : (2 : Int32).toInt = 2 := by decide
  have h3 : (3 : Int32).toInt = 3 := by decide
  simp only [← Int32.toInt_inj, h0, h1, h2, h3]
  omega
theorem own_law0 {i j : Int32} {a b c d : Addr} (hi : i = 0 ∨ i = 1 ∨ i = 2 ∨ i = 3) (hj : j = 0 ∨ j = 1 ∨ j = 2 ∨ j = 3) (ab : a ≠ b) (ac : a ≠ c) (ad : a ≠ d) (bc : b ≠ c) (bd : b ≠ d) (cd : c ≠ d) :
    own_fits (own_pick i a b c d) (own_pick j a b c d) d = if ((62497 : Int32) >>> ((((4 : Int32) * i) + j) &&& 31)) &&& (1 : Int32) = 0 then 0 else 1 := by
  have e1 : (1 : Int32) ≠ 0 := by decide
  have e2 : (2 : Int32) ≠ 0 := by decide
  have e3 : (3 : Int32) ≠ 0 := by decide
  have e4 : (2 : Int32) ≠ 1 := by decide
  have e5 : (3 : Int32) ≠ 1 := by decide
  have e6 : (3 : Int32) ≠ 2 := by decide
  have ba := ab.symm; have ca := ac.symm; have da := ad.symm; have cb := bc.symm; have db := bd.symm; have dc := cd.symm
  rcases hi with rfl | rfl | rfl | rfl <;> rcases hj with rfl | rfl | rfl | rfl <;>
    first
    | (rw [if_pos (by decide)]; simp [own_pick, own_fits, *]; done)
    | (rw [if_neg (by decide)]; simp [own_pick, own_fits, *]; done)
theorem ef_own_type (m : MethodId) (x0 : Int32) : entryFrame m #[(.int x0)] 1 = mkF m 0 #[.val (.int x0)] [] := by first | (simp [entryFrame, mkF, argsToLocals, Value.category]; done) | rfl
theorem pf_own_type : plainFor own_m0 = true := by first | exact plainFor_of_name (by simp [plainName, overriddenIn, x]; done) | decide +kernel
theorem d_method_2_code_0 : decode method_2_code 0 = .ok (.iload_n 0, 1) := by decide +kernel
theorem d_method_2_code_1 : decode method_2_code 1 = .ok (.ifCond .ne 7, 3) := by decide +kernel
theorem d_method_2_code_10 : decode method_2_code 10 = .ok (.if_icmp .ne 7, 3) := by decide +kernel
theorem d_method_2_code_13 : decode method_2_code 13 = .ok (.getstatic 13, 3) := by decide +kernel
theorem d_method_2_code_16 : decode method_2_code 16 = .ok (.areturn, 1) := by decide +kernel
theorem d_method_2_code_17 : decode method_2_code 17 = .ok (.iload_n 0, 1) := by decide +kernel
theorem d_method_2_code_18 : decode method_2_code 18 = .ok (.iconst 2, 1) := by decide +kernel
theorem d_method_2_code_19 : decode method_2_code 19 = .ok (.if_icmp .ne 7, 3) := by decide +kernel
theorem d_method_2_code_22 : decode method_2_code 22 = .ok (.getstatic 16, 3) := by decide +kernel
theorem d_method_2_code_25 : decode method_2_code 25 = .ok (.areturn, 1) := by decide +kernel
theorem d_method_2_code_26 : decode method_2_code 26 = .ok (.getstatic 19, 3) := by decide +kernel
theorem d_method_2_code_29 : decode method_2_code 29 = .ok (.areturn, 1) := by decide +kernel
theorem d_method_2_code_4 : decode method_2_code 4 = .ok (.getstatic 7, 3) := by decide +kernel
theorem d_method_2_code_7 : decode method_2_code 7 = .ok (.areturn, 1) := by decide +kernel
theorem d_method_2_code_8 : decode method_2_code 8 = .ok (.iload_n 0, 1) := by decide +kernel
theorem d_method_2_code_9 : decode method_2_code 9 = .ok (.iconst 1, 1) := by decide +kernel
def Q_own_type (Z : State) (k : Int32) (aB : Addr) (aT : Addr) (aO : Addr) (aN : Addr) (h0 : Heap) (v : Option Value) (h : Heap) (L : List Loc) : Prop := v = some (.ref (own_pick k aB aT aO aN)) ∧ Fr Z.heap.size L ∧ h = h0
set_option maxRecDepth 65536 in
set_option maxHeartbeats 40000000 in
theorem own_type (l : Launch) (Z : State) (a0 : Array Value) (hw : ∀ d ∈ tables_1, d.before a0 Z = true) (ws : List Jvm.Cond) (k : Int32) (aB : Addr) (aT : Addr) (aO : Addr) (aN : Addr) (h0 : Heap) (O0 : Ext Z.heap h0) (S_BIGINT : Sta Z Z.heap "com/example/feeds_to_views/feedstoviews/sql/Type" "BIGINT" "Lcom/example/feeds_to_views/feedstoviews/sql/Type;" (.ref aB)) (S_TEXT : Sta Z Z.heap "com/example/feeds_to_views/feedstoviews/sql/Type" "TEXT" "Lcom/example/feeds_to_views/feedstoviews/sql/Type;" (.ref aT)) (S_BOOLEAN : Sta Z Z.heap "com/example/feeds_to_views/feedstoviews/sql/Type" "BOOLEAN" "Lcom/example/feeds_to_views/feedstoviews/sql/Type;" (.ref aO)) (S_NULL : Sta Z Z.heap "com/example/feeds_to_views/feedstoviews/sql/Type" "NULL" "Lcom/example/feeds_to_views/feedstoviews/sql/Type;" (.ref aN)) :
    MetFree l own_m0 (head1 (Jvm.Cond.code own_m0 method_2_code 1 (some (.object "com/example/feeds_to_views/feedstoviews/sql/Type")) :: ws) ({ frames := 0, cells := 0, slots := 0, locals := 0 } : Room)) (fun a U => a = #[(.int k)] ∧ Z.Warmed39 U.vm ∧ U.heap = h0) (fun _ _ _ _ _ => True) (fun _ U o U' => ∃ v L, o = .returned v ∧ Q_own_type Z k aB aT aO aN h0 v U'.heap L ∧ FrameEnd U o U' L ({ frames := 0, cells := 0, slots := 0, locals := 0 } : Room).cells ({ frames := 0, cells := 0, slots := 0, locals := 0 } : Room).slots) := by
  refine MetFree.of_bodySF pf_own_type hisR ?_
  intro p e s m args below meth c s₁ Bd hml0 hP hK
  obtain ⟨rfl, hZ, hh⟩ := hP
  have hx := Bd.exec
  have hby := Bd.bytes
  have hlk := BodyLoose.notSynchronized Bd
  have hml : c.maxLocals = 1 := hml0
  have hown : s.vm.findClass "com/example/feeds_to_views/feedstoviews/sql/TypeFitsPinLaw" = some m.cls := findClass_of_methodNamed Bd.named
  have hnm := (name_of_methodNamed Bd.named Bd.method).1
  have X0 : Stand p l e ({ frames := 0, cells := 0, slots := 0, locals := 0 } : Room) s m #[(.int k)] below meth c s₁ [] 0 0 := Stand.of_body Bd
  have e0 : s₁.heap = h0 := by rw [← hh, Bd.state]; rfl
  have N0 := Fr.nil Z.heap.size
  have K0 : Keep h0 h0 [] := Keep.refl _ _
  refine own_start (Q := Q_own_type Z k aB aT aO aN h0) (ef_own_type m (k)) ?_
  show own_G p e below (s₁.setTop (mkF m 0 #[.val (.int k)] [])) _
  refine own_go (fun t k => XS.iloadN X0.here hx rfl (hb hby d_method_2_code_0) rfl k) ?_
  show own_G p e below (s₁.setTop (mkF m 1 #[.val (.int k)] [(.int k)])) _
  by_cases hc1 : k = (0 : Int32)
  · refine own_go (fun t k => XS.ifNo X0.here hx rfl (hb hby d_method_2_code_1) rfl ((if0 _ _).trans (teq hc1).2) k) ?_
    show own_G p e below (s₁.setTop (mkF m 4 #[.val (.int k)] [])) _
    obtain ⟨T2, X2, e2, st2⟩ := getS2 X0 hx hZ hown (host := "") (Or.inl (own_hw hw 5 rfl)) Via.refl e0 (S_BIGINT.ext O0) (g := (mkF m 4 #[.val (.int k)] [])) rfl (hb hby d_method_2_code_4)
    refine own_go st2 ?_
    show own_G p e below (T2.setTop (mkF m 7 #[.val (.int k)] [(.ref aB)])) _
    exact own_ret X2 hx Bd.returns rfl (Or.inr (Or.inr (Or.inr (Or.inr ⟨rfl, rfl, rfl⟩)))) (hb hby d_method_2_code_7) hlk (Nat.le_of_ble_eq_true rfl) (Nat.le_of_ble_eq_true rfl) (by show Q_own_type Z k aB aT aO aN h0 _ T2.heap _; rw [e2]; exact ⟨(by simp [own_pick, hc1]), N0, rfl⟩)
  · refine own_go (fun t k => XS.ifYes X0.here hx rfl (pc0 := 1) (pc' := 8) rfl (hb hby d_method_2_code_1) rfl ((if0 _ _).trans (feq hc1).2) (by decide) (by decide) k) ?_
    show own_G p e below (s₁.setTop (mkF m 8 #[.val (.int k)] [])) _
    refine own_go (fun t k => XS.iloadN X0.here hx rfl (hb hby d_method_2_code_8) rfl k) ?_
    show own_G p e below (s₁.setTop (mkF m 9 #[.val (.int k)] [(.int k)])) _
    refine own_go (fun t k => XS.iconst X0.here hx rfl (hb hby d_method_2_code_9) k) ?_
    show own_G p e below (s₁.setTop (mkF m 10 #[.val (.int k)] [(.int (1 : Int32)), (.int k)])) _
    by_cases hc3 : k = (1 : Int32)
    · refine own_go (fun t k => XS.icmpNo X0.here hx rfl (hb hby d_method_2_code_10) rfl (teq hc3).2 k) ?_
      show own_G p e below (s₁.setTop (mkF m 13 #[.val (.int k)] [])) _
      obtain ⟨T4, X4, e4, st4⟩ := getS2 X0 hx hZ hown (host := "") (Or.inl (own_hw hw 18 rfl)) Via.refl e0 (S_TEXT.ext O0) (g := (mkF m 13 #[.val (.int k)] [])) rfl (hb hby d_method_2_code_13)
      refine own_go st4 ?_
      show own_G p e below (T4.setTop (mkF m 16 #[.val (.int k)] [(.ref aT)])) _
      exact own_ret X4 hx Bd.returns rfl (Or.inr (Or.inr (Or.inr (Or.inr ⟨rfl, rfl, rfl⟩)))) (hb hby d_method_2_code_16) hlk (Nat.le_of_ble_eq_true rfl) (Nat.le_of_ble_eq_true rfl) (by show Q_own_type Z k aB aT aO aN h0 _ T4.heap _; rw [e4]; exact ⟨(by simp [own_pick, hc1, hc3]), N0, rfl⟩)
    · refine own_go (fun t k => XS.icmpYes X0.here hx rfl (pc0 := 10) (pc' := 17) rfl (hb hby d_method_2_code_10) rfl (feq hc3).2 (by decide) (by decide) k) ?_
      show own_G p e below (s₁.setTop (mkF m 17 #[.val (.int k)] [])) _
      refine own_go (fun t k => XS.iloadN X0.here hx rfl (hb hby d_method_2_code_17) rfl k) ?_
      show own_G p e below (s₁.setTop (mkF m 18 #[.val (.int k)] [(.int k)])) _
      refine own_go (fun t k => XS.iconst X0.here hx rfl (hb hby d_method_2_code_18) k) ?_
      show own_G p e below (s₁.setTop (mkF m 19 #[.val (.int k)] [(.int (2 : Int32)), (.int k)])) _
      by_cases hc5 : k = (2 : Int32)
      · refine own_go (fun t k => XS.icmpNo X0.here hx rfl (hb hby d_method_2_code_19) rfl (teq hc5).2 k) ?_
        show own_G p e below (s₁.setTop (mkF m 22 #[.val (.int k)] [])) _
        obtain ⟨T6, X6, e6, st6⟩ := getS2 X0 hx hZ hown (host := "") (Or.inl (own_hw hw 16 rfl)) Via.refl e0 (S_BOOLEAN.ext O0) (g := (mkF m 22 #[.val (.int k)] [])) rfl (hb hby d_method_2_code_22)
        refine own_go st6 ?_
        show own_G p e below (T6.setTop (mkF m 25 #[.val (.int k)] [(.ref aO)])) _
        exact own_ret X6 hx Bd.returns rfl (Or.inr (Or.inr (Or.inr (Or.inr ⟨rfl, rfl, rfl⟩)))) (hb hby d_method_2_code_25) hlk (Nat.le_of_ble_eq_true rfl) (Nat.le_of_ble_eq_true rfl) (by show Q_own_type Z k aB aT aO aN h0 _ T6.heap _; rw [e6]; exact ⟨(by simp [own_pick, hc1, hc3, hc5]), N0, rfl⟩)
      · refine own_go (fun t k => XS.icmpYes X0.here hx rfl (pc0 := 19) (pc' := 26) rfl (hb hby d_method_2_code_19) rfl (feq hc5).2 (by decide) (by decide) k) ?_
        show own_G p e below (s₁.setTop (mkF m 26 #[.val (.int k)] [])) _
        obtain ⟨T7, X7, e7, st7⟩ := getS2 X0 hx hZ hown (host := "") (Or.inl (own_hw hw 8 rfl)) Via.refl e0 (S_NULL.ext O0) (g := (mkF m 26 #[.val (.int k)] [])) rfl (hb hby d_method_2_code_26)
        refine own_go st7 ?_
        show own_G p e below (T7.setTop (mkF m 29 #[.val (.int k)] [(.ref aN)])) _
        exact own_ret X7 hx Bd.returns rfl (Or.inr (Or.inr (Or.inr (Or.inr ⟨rfl, rfl, rfl⟩)))) (hb hby d_method_2_code_29) hlk (Nat.le_of_ble_eq_true rfl) (Nat.le_of_ble_eq_true rfl) (by show Q_own_type Z k aB aT aO aN h0 _ T7.heap _; rw [e7]; exact ⟨(by simp [own_pick, hc1, hc3, hc5]), N0, rfl⟩)
theorem ef_own_fitsM (m : MethodId) (x0 : Addr) (x1 : Addr) : entryFrame m #[(.ref x0), (.ref x1)] 2 = mkF m 0 #[.val (.ref x0), .val (.ref x1)] [] := by first | (simp [entryFrame, mkF, argsToLocals, Value.category]; done) | rfl
theorem pf_own_fitsM : plainFor own_m1 = true := by first | exact plainFor_of_name (by simp [plainName, overriddenIn, x]; done) | decide +kernel
theorem d_prog_123_method_4_code_0 : decode prog_123_method_4_code 0 = .ok (.aload_n 0, 1) := by decide +kernel
theorem d_prog_123_method_4_code_1 : decode prog_123_method_4_code 1 = .ok (.aload_n 1, 1) := by decide +kernel
theorem d_prog_123_method_4_code_12 : decode prog_123_method_4_code 12 = .ok (.iconst 1, 1) := by decide +kernel
theorem d_prog_123_method_4_code_13 : decode prog_123_method_4_code 13 = .ok (.goto 4, 3) := by decide +kernel
theorem d_prog_123_method_4_code_16 : decode prog_123_method_4_code 16 = .ok (.iconst 0, 1) := by decide +kernel
theorem d_prog_123_method_4_code_17 : decode prog_123_method_4_code 17 = .ok (.ireturn, 1) := by decide +kernel
theorem d_prog_123_method_4_code_2 : decode prog_123_method_4_code 2 = .ok (.if_acmp .eq 10, 3) := by decide +kernel
theorem d_prog_123_method_4_code_5 : decode prog_123_method_4_code 5 = .ok (.aload_n 0, 1) := by decide +kernel
theorem d_prog_123_method_4_code_6 : decode prog_123_method_4_code 6 = .ok (.getstatic 13, 3) := by decide +kernel
theorem d_prog_123_method_4_code_9 : decode prog_123_method_4_code 9 = .ok (.if_acmp .ne 7, 3) := by decide +kernel
def Q_own_fitsM (Z : State) (a1 : Addr) (a2 : Addr) (aN : Addr) (h0 : Heap) (v : Option Value) (h : Heap) (L : List Loc) : Prop := v = some (.int (own_fits a1 a2 aN)) ∧ Fr Z.heap.size L ∧ h = h0
set_option maxRecDepth 65536 in
set_option maxHeartbeats 40000000 in
theorem own_fitsM (l : Launch) (Z : State) (a0 : Array Value) (hw : ∀ d ∈ tables_1, d.before a0 Z = true) (ws : List Jvm.Cond) (a1 : Addr) (a2 : Addr) (aN : Addr) (h0 : Heap) (O0 : Ext Z.heap h0) (S_NULL : Sta Z Z.heap "com/example/feeds_to_views/feedstoviews/sql/Type" "NULL" "Lcom/example/feeds_to_views/feedstoviews/sql/Type;" (.ref aN)) :
    MetFree l own_m1 (head1 (Jvm.Cond.code own_m1 prog_123_method_4_code 2 (some .boolean) :: ws) ({ frames := 0, cells := 0, slots := 0, locals := 0 } : Room)) (fun a U => a = #[(.ref a1), (.ref a2)] ∧ Z.Warmed39 U.vm ∧ U.heap = h0) (fun _ _ _ _ _ => True) (fun _ U o U' => ∃ v L, o = .returned v ∧ Q_own_fitsM Z a1 a2 aN h0 v U'.heap L ∧ FrameEnd U o U' L ({ frames := 0, cells := 0, slots := 0, locals := 0 } : Room).cells ({ frames := 0, cells := 0, slots := 0, locals := 0 } : Room).slots) := by
  refine MetFree.of_bodySF pf_own_fitsM hisR ?_
  intro p e s m args below meth c s₁ Bd hml0 hP hK
  obtain ⟨rfl, hZ, hh⟩ := hP
  have hx := Bd.exec
  have hby := Bd.bytes
  have hlk := BodyLoose.notSynchronized Bd
  have hml : c.maxLocals = 2 := hml0
  have hown : s.vm.findClass "com/example/feeds_to_views/feedstoviews/sql/Type" = some m.cls := findClass_of_methodNamed Bd.named
  have hnm := (name_of_methodNamed Bd.named Bd.method).1
  have X0 : Stand p l e ({ frames := 0, cells := 0, slots := 0, locals := 0 } : Room) s m #[(.ref a1), (.ref a2)] below meth c s₁ [] 0 0 := Stand.of_body Bd
  have e0 : s₁.heap = h0 := by rw [← hh, Bd.state]; rfl
  have N0 := Fr.nil Z.heap.size
  have K0 : Keep h0 h0 [] := Keep.refl _ _
  refine own_start (Q := Q_own_fitsM Z a1 a2 aN h0) (ef_own_fitsM m (a1) (a2)) ?_
  show own_G p e below (s₁.setTop (mkF m 0 #[.val (.ref a1), .val (.ref a2)] [])) _
  refine own_go (fun t k => XS.aloadN X0.here hx rfl (hb hby d_prog_123_method_4_code_0) rfl rfl k) ?_
  show own_G p e below (s₁.setTop (mkF m 1 #[.val (.ref a1), .val (.ref a2)] [(.ref a1)])) _
  refine own_go (fun t k => XS.aloadN X0.here hx rfl (hb hby d_prog_123_method_4_code_1) rfl rfl k) ?_
  show own_G p e below (s₁.setTop (mkF m 2 #[.val (.ref a1), .val (.ref a2)] [(.ref a2), (.ref a1)])) _
  by_cases hc1 : a1 = a2
  · refine own_go (fun t k => Jvm.RoadKit.acmp (g := (mkF m 2 #[.val (.ref a1), .val (.ref a2)] [(.ref a2), (.ref a1)])) X0 hx rfl rfl rfl (pc0 := 2) (pc' := 12) (same := true) rfl (hb hby d_prog_123_method_4_code_2) rfl (decide_eq_true (congrArg Value.ref hc1)) (by decide) (by decide) k) ?_
    show own_G p e below (s₁.setTop (mkF m 12 #[.val (.ref a1), .val (.ref a2)] [])) _
    refine own_go (fun t k => XS.iconst X0.here hx rfl (hb hby d_prog_123_method_4_code_12) k) ?_
    show own_G p e below (s₁.setTop (mkF m 13 #[.val (.ref a1), .val (.ref a2)] [(.int (1 : Int32))])) _
    refine own_go (fun t k => XS.goto X0.here hx rfl (pc0 := 13) (pc' := 17) rfl (hb hby d_prog_123_method_4_code_13) (by decide) (by decide) k) ?_
    show own_G p e below (s₁.setTop (mkF m 17 #[.val (.ref a1), .val (.ref a2)] [(.int (1 : Int32))])) _
    exact own_ret X0 hx Bd.returns rfl (Or.inl ⟨rfl, Or.inr (Or.inl rfl), _, rfl⟩) (hb hby d_prog_123_method_4_code_17) hlk (Nat.le_of_ble_eq_true rfl) (Nat.le_of_ble_eq_true rfl) (by show Q_own_fitsM Z a1 a2 aN h0 _ s₁.heap _; rw [e0]; exact ⟨(by simp [own_fits, hc1]), N0, rfl⟩)
  · refine own_go (fun t k => Jvm.RoadKit.acmp (g := (mkF m 2 #[.val (.ref a1), .val (.ref a2)] [(.ref a2), (.ref a1)])) X0 hx rfl rfl rfl (pc0 := 2) (pc' := 5) (same := false) rfl (hb hby d_prog_123_method_4_code_2) rfl (decide_eq_false fun q => hc1 (Value.ref.inj q)) (by decide) (by decide) k) ?_
    show own_G p e below (s₁.setTop (mkF m 5 #[.val (.ref a1), .val (.ref a2)] [])) _
    refine own_go (fun t k => XS.aloadN X0.here hx rfl (hb hby d_prog_123_method_4_code_5) rfl rfl k) ?_
    show own_G p e below (s₁.setTop (mkF m 6 #[.val (.ref a1), .val (.ref a2)] [(.ref a1)])) _
    obtain ⟨T2, X2, e2, st2⟩ := getS2 X0 hx hZ hown (host := "") (Or.inl (own_hw hw 15 rfl)) Via.refl e0 (S_NULL.ext O0) (g := (mkF m 6 #[.val (.ref a1), .val (.ref a2)] [(.ref a1)])) rfl (hb hby d_prog_123_method_4_code_6)
    refine own_go st2 ?_
    show own_G p e below (T2.setTop (mkF m 9 #[.val (.ref a1), .val (.ref a2)] [(.ref aN), (.ref a1)])) _
    by_cases hc3 : a1 = aN
    · refine own_go (fun t k => Jvm.RoadKit.acmp (g := (mkF m 9 #[.val (.ref a1), .val (.ref a2)] [(.ref aN), (.ref a1)])) X2 hx rfl rfl rfl (pc0 := 9) (pc' := 12) (same := true) rfl (hb hby d_prog_123_method_4_code_9) rfl (decide_eq_true (congrArg Value.ref hc3)) (by decide) (by decide) k) ?_
      show own_G p e below (T2.setTop (mkF m 12 #[.val (.ref a1), .val (.ref a2)] [])) _
      refine own_go (fun t k => XS.iconst X2.here hx rfl (hb hby d_prog_123_method_4_code_12) k) ?_
      show own_G p e below (T2.setTop (mkF m 13 #[.val (.ref a1), .val (.ref a2)] [(.int (1 : Int32))])) _
      refine own_go (fun t k => XS.goto X2.here hx rfl (pc0 := 13) (pc' := 17) rfl (hb hby d_prog_123_method_4_code_13) (by decide) (by decide) k) ?_
      show own_G p e below (T2.setTop (mkF m 17 #[.val (.ref a1), .val (.ref a2)] [(.int (1 : Int32))])) _
      exact own_ret X2 hx Bd.returns rfl (Or.inl ⟨rfl, Or.inr (Or.inl rfl), _, rfl⟩) (hb hby d_prog_123_method_4_code_17) hlk (Nat.le_of_ble_eq_true rfl) (Nat.le_of_ble_eq_true rfl) (by show Q_own_fitsM Z a1 a2 aN h0 _ T2.heap _; rw [e2]; exact ⟨(by simp [own_fits, hc1, hc3]), N0, rfl⟩)
    · refine own_go (fun t k => Jvm.RoadKit.acmp (g := (mkF m 9 #[.val (.ref a1), .val (.ref a2)] [(.ref aN), (.ref a1)])) X2 hx rfl rfl rfl (pc0 := 9) (pc' := 16) (same := false) rfl (hb hby d_prog_123_method_4_code_9) rfl (decide_eq_false fun q => hc3 (Value.ref.inj q)) (by decide) (by decide) k) ?_
      show own_G p e below (T2.setTop (mkF m 16 #[.val (.ref a1), .val (.ref a2)] [])) _
      refine own_go (fun t k => XS.iconst X2.here hx rfl (hb hby d_prog_123_method_4_code_16) k) ?_
      show own_G p e below (T2.setTop (mkF m 17 #[.val (.ref a1), .val (.ref a2)] [(.int (0 : Int32))])) _
      exact own_ret X2 hx Bd.returns rfl (Or.inl ⟨rfl, Or.inr (Or.inl rfl), _, rfl⟩) (hb hby d_prog_123_method_4_code_17) hlk (Nat.le_of_ble_eq_true rfl) (Nat.le_of_ble_eq_true rfl) (by show Q_own_fitsM Z a1 a2 aN h0 _ T2.heap _; rw [e2]; exact ⟨(by simp [own_fits, hc1, hc3]), N0, rfl⟩)
theorem ef_own_law (m : MethodId) (x0 : Int32) (x1 : Int32) : entryFrame m #[(.int x0), (.int x1)] maxLocals = mkF m 0 #[.val (.int x0), .val (.int x1), .unset, .unset, .unset, .unset] [] := by first | (simp [entryFrame, mkF, argsToLocals, Value.category, maxLocals]; done) | rfl
theorem pf_own_law : plainFor x = true := by first | exact plainFor_of_name (by simp [plainName, overriddenIn, x]; done) | decide +kernel
theorem pd_19918332 : parseMethodDescriptor "(I)Lcom/example/feeds_to_views/feedstoviews/sql/Type;" = some ⟨[.int], some (.object "com/example/feeds_to_views/feedstoviews/sql/Type")⟩ := by decide +kernel
theorem pd_4182666445 : parseMethodDescriptor "(Lcom/example/feeds_to_views/feedstoviews/sql/Type;)Z" = some ⟨[(.object "com/example/feeds_to_views/feedstoviews/sql/Type")], some .boolean⟩ := by decide +kernel
def Q_own_law (Z : State) (p1 : Int32) (p2 : Int32) (aB : Addr) (aT : Addr) (aO : Addr) (aN : Addr) (h0 : Heap) (v : Option Value) (h : Heap) (L : List Loc) : Prop := v = some (.int (1 : Int32)) ∧ Fr Z.heap.size L ∧ h = h0
set_option maxRecDepth 65536 in
set_option maxHeartbeats 40000000 in
theorem own_law (l : Launch) (Z : State) (a0 : Array Value) (hw : ∀ d ∈ tables_1, d.before a0 Z = true) (ws : List Jvm.Cond) (p1 : Int32) (p2 : Int32) (aB : Addr) (aT : Addr) (aO : Addr) (aN : Addr) (h0 : Heap) (O0 : Ext Z.heap h0) (S_BIGINT : Sta Z Z.heap "com/example/feeds_to_views/feedstoviews/sql/Type" "BIGINT" "Lcom/example/feeds_to_views/feedstoviews/sql/Type;" (.ref aB)) (S_TEXT : Sta Z Z.heap "com/example/feeds_to_views/feedstoviews/sql/Type" "TEXT" "Lcom/example/feeds_to_views/feedstoviews/sql/Type;" (.ref aT)) (S_BOOLEAN : Sta Z Z.heap "com/example/feeds_to_views/feedstoviews/sql/Type" "BOOLEAN" "Lcom/example/feeds_to_views/feedstoviews/sql/Type;" (.ref aO)) (S_NULL : Sta Z Z.heap "com/example/feeds_to_views/feedstoviews/sql/Type" "NULL" "Lcom/example/feeds_to_views/feedstoviews/sql/Type;" (.ref aN)) (E_BIGINT : Exa Z Z.heap aB "com/example/feeds_to_views/feedstoviews/sql/Type") (E_TEXT : Exa Z Z.heap aT "com/example/feeds_to_views/feedstoviews/sql/Type") (E_BOOLEAN : Exa Z Z.heap aO "com/example/feeds_to_views/feedstoviews/sql/Type") (E_NULL : Exa Z Z.heap aN "com/example/feeds_to_views/feedstoviews/sql/Type") (ne_aBaT : aB ≠ aT) (ne_aBaO : aB ≠ aO) (ne_aBaN : aB ≠ aN) (ne_aTaO : aT ≠ aO) (ne_aTaN : aT ≠ aN) (ne_aOaN : aO ≠ aN) :
    MetFree l x (head1 (Jvm.Cond.code x code maxLocals ret :: ws) room_1) (fun a U => a = #[(.int p1), (.int p2)] ∧ Z.Warmed39 U.vm ∧ U.heap = h0) (fun _ _ _ _ _ => True) (fun _ U o U' => ∃ v L, o = .returned v ∧ Q_own_law Z p1 p2 aB aT aO aN h0 v U'.heap L ∧ FrameEnd U o U' L room_1.cells room_1.slots) := by
  refine MetFree.of_bodySF pf_own_law hisR ?_
  intro p e s m args below meth c s₁ Bd hml0 hP hK
  obtain ⟨rfl, hZ, hh⟩ := hP
  have hx := Bd.exec
  have hby := Bd.bytes
  have hlk := BodyLoose.notSynchronized Bd
  have hml : c.maxLocals = 6 := hml0
  have hown : s.vm.findClass "com/example/feeds_to_views/feedstoviews/sql/TypeFitsPinLaw" = some m.cls := findClass_of_methodNamed Bd.named
  have hnm := (name_of_methodNamed Bd.named Bd.method).1
  have X0 : Stand p l e room_1 s m #[(.int p1), (.int p2)] below meth c s₁ [] 0 0 := Stand.of_body Bd
  have e0 : s₁.heap = h0 := by rw [← hh, Bd.state]; rfl
  have N0 := Fr.nil Z.heap.size
  have K0 : Keep h0 h0 [] := Keep.refl _ _
  refine own_start (Q := Q_own_law Z p1 p2 aB aT aO aN h0) (ef_own_law m (p1) (p2)) ?_
  show own_G p e below (s₁.setTop (mkF m 0 #[.val (.int p1), .val (.int p2), .unset, .unset, .unset, .unset] [])) _
  refine own_go (fun t k => XS.iloadN X0.here hx rfl (hb hby at_0) rfl k) ?_
  show own_G p e below (s₁.setTop (mkF m 1 #[.val (.int p1), .val (.int p2), .unset, .unset, .unset, .unset] [(.int p1)])) _
  refine own_go (fun t k => XS.iconst X0.here hx rfl (hb hby at_1) k) ?_
  show own_G p e below (s₁.setTop (mkF m 2 #[.val (.int p1), .val (.int p2), .unset, .unset, .unset, .unset] [(.int (3 : Int32)), (.int p1)])) _
  refine own_go (fun t k => XS.iand X0.here hx rfl (hb hby at_2) rfl k) ?_
  show own_G p e below (s₁.setTop (mkF m 3 #[.val (.int p1), .val (.int p2), .unset, .unset, .unset, .unset] [(.int (p1 &&& (3 : Int32)))])) _
  refine own_go (fun t k => XS.istoreN X0.here hx rfl (hb hby at_3) rfl (l' := #[.val (.int p1), .val (.int p2), .val (.int (p1 &&& (3 : Int32))), .unset, .unset, .unset]) rfl k) ?_
  show own_G p e below (s₁.setTop (mkF m 4 #[.val (.int p1), .val (.int p2), .val (.int (p1 &&& (3 : Int32))), .unset, .unset, .unset] [])) _
  refine own_go (fun t k => XS.iloadN X0.here hx rfl (hb hby at_4) rfl k) ?_
  show own_G p e below (s₁.setTop (mkF m 5 #[.val (.int p1), .val (.int p2), .val (.int (p1 &&& (3 : Int32))), .unset, .unset, .unset] [(.int p2)])) _
  refine own_go (fun t k => XS.iconst X0.here hx rfl (hb hby at_5) k) ?_
  show own_G p e below (s₁.setTop (mkF m 6 #[.val (.int p1), .val (.int p2), .val (.int (p1 &&& (3 : Int32))), .unset, .unset, .unset] [(.int (3 : Int32)), (.int p2)])) _
  refine own_go (fun t k => XS.iand X0.here hx rfl (hb hby at_6) rfl k) ?_
  show own_G p e below (s₁.setTop (mkF m 7 #[.val (.int p1), .val (.int p2), .val (.int (p1 &&& (3 : Int32))), .unset, .unset, .unset] [(.int (p2 &&& (3 : Int32)))])) _
  refine own_go (fun t k => XS.istoreN X0.here hx rfl (hb hby at_7) rfl (l' := #[.val (.int p1), .val (.int p2), .val (.int (p1 &&& (3 : Int32))), .val (.int (p2 &&& (3 : Int32))), .unset, .unset]) rfl k) ?_
  show own_G p e below (s₁.setTop (mkF m 8 #[.val (.int p1), .val (.int p2), .val (.int (p1 &&& (3 : Int32))), .val (.int (p2 &&& (3 : Int32))), .unset, .unset] [])) _
  refine own_go (fun t k => X0.ldcI hx hown (mvT hZ (own_hw hw 0 rfl)) rfl (hb hby at_8) k) ?_
  show own_G p e below (s₁.setTop (mkF m 10 #[.val (.int p1), .val (.int p2), .val (.int (p1 &&& (3 : Int32))), .val (.int (p2 &&& (3 : Int32))), .unset, .unset] [(.int (62497 : Int32))])) _
  refine own_go (fun t k => XS.istore X0.here hx rfl (hb hby at_10) rfl (l' := #[.val (.int p1), .val (.int p2), .val (.int (p1 &&& (3 : Int32))), .val (.int (p2 &&& (3 : Int32))), .val (.int (62497 : Int32)), .unset]) rfl k) ?_
  show own_G p e below (s₁.setTop (mkF m 12 #[.val (.int p1), .val (.int p2), .val (.int (p1 &&& (3 : Int32))), .val (.int (p2 &&& (3 : Int32))), .val (.int (62497 : Int32)), .unset] [])) _
  refine own_go (fun t k => XS.iload X0.here hx rfl (hb hby at_12) rfl k) ?_
  show own_G p e below (s₁.setTop (mkF m 14 #[.val (.int p1), .val (.int p2), .val (.int (p1 &&& (3 : Int32))), .val (.int (p2 &&& (3 : Int32))), .val (.int (62497 : Int32)), .unset] [(.int (62497 : Int32))])) _
  refine own_go (fun t k => XS.iconst X0.here hx rfl (hb hby at_14) k) ?_
  show own_G p e below (s₁.setTop (mkF m 15 #[.val (.int p1), .val (.int p2), .val (.int (p1 &&& (3 : Int32))), .val (.int (p2 &&& (3 : Int32))), .val (.int (62497 : Int32)), .unset] [(.int (4 : Int32)), (.int (62497 : Int32))])) _
  refine own_go (fun t k => XS.iloadN X0.here hx rfl (hb hby at_15) rfl k) ?_
  show own_G p e below (s₁.setTop (mkF m 16 #[.val (.int p1), .val (.int p2), .val (.int (p1 &&& (3 : Int32))), .val (.int (p2 &&& (3 : Int32))), .val (.int (62497 : Int32)), .unset] [(.int (p1 &&& (3 : Int32))), (.int (4 : Int32)), (.int (62497 : Int32))])) _
  refine own_go (fun t k => XS.imul X0.here hx rfl (hb hby at_16) rfl k) ?_
  show own_G p e below (s₁.setTop (mkF m 17 #[.val (.int p1), .val (.int p2), .val (.int (p1 &&& (3 : Int32))), .val (.int (p2 &&& (3 : Int32))), .val (.int (62497 : Int32)), .unset] [(.int ((4 : Int32) * (p1 &&& (3 : Int32)))), (.int (62497 : Int32))])) _
  refine own_go (fun t k => XS.iloadN X0.here hx rfl (hb hby at_17) rfl k) ?_
  show own_G p e below (s₁.setTop (mkF m 18 #[.val (.int p1), .val (.int p2), .val (.int (p1 &&& (3 : Int32))), .val (.int (p2 &&& (3 : Int32))), .val (.int (62497 : Int32)), .unset] [(.int (p2 &&& (3 : Int32))), (.int ((4 : Int32) * (p1 &&& (3 : Int32)))), (.int (62497 : Int32))])) _
  refine own_go (fun t k => XS.iadd X0.here hx rfl (hb hby at_18) rfl k) ?_
  show own_G p e below (s₁.setTop (mkF m 19 #[.val (.int p1), .val (.int p2), .val (.int (p1 &&& (3 : Int32))), .val (.int (p2 &&& (3 : Int32))), .val (.int (62497 : Int32)), .unset] [(.int (((4 : Int32) * (p1 &&& (3 : Int32))) + (p2 &&& (3 : Int32)))), (.int (62497 : Int32))])) _
  refine own_go (fun t k => XS.ishr X0.here hx rfl (hb hby at_19) rfl k) ?_
  show own_G p e below (s₁.setTop (mkF m 20 #[.val (.int p1), .val (.int p2), .val (.int (p1 &&& (3 : Int32))), .val (.int (p2 &&& (3 : Int32))), .val (.int (62497 : Int32)), .unset] [(.int ((62497 : Int32) >>> ((((4 : Int32) * (p1 &&& (3 : Int32))) + (p2 &&& (3 : Int32))) &&& 31)))])) _
  refine own_go (fun t k => XS.iconst X0.here hx rfl (hb hby at_20) k) ?_
  show own_G p e below (s₁.setTop (mkF m 21 #[.val (.int p1), .val (.int p2), .val (.int (p1 &&& (3 : Int32))), .val (.int (p2 &&& (3 : Int32))), .val (.int (62497 : Int32)), .unset] [(.int (1 : Int32)), (.int ((62497 : Int32) >>> ((((4 : Int32) * (p1 &&& (3 : Int32))) + (p2 &&& (3 : Int32))) &&& 31)))])) _
  refine own_go (fun t k => XS.iand X0.here hx rfl (hb hby at_21) rfl k) ?_
  show own_G p e below (s₁.setTop (mkF m 22 #[.val (.int p1), .val (.int p2), .val (.int (p1 &&& (3 : Int32))), .val (.int (p2 &&& (3 : Int32))), .val (.int (62497 : Int32)), .unset] [(.int (((62497 : Int32) >>> ((((4 : Int32) * (p1 &&& (3 : Int32))) + (p2 &&& (3 : Int32))) &&& 31)) &&& (1 : Int32)))])) _
  by_cases hc1 : (((62497 : Int32) >>> ((((4 : Int32) * (p1 &&& (3 : Int32))) + (p2 &&& (3 : Int32))) &&& 31)) &&& (1 : Int32)) = (0 : Int32)
  · refine own_go (fun t k => XS.ifYes X0.here hx rfl (pc0 := 22) (pc' := 29) rfl (hb hby at_22) rfl ((if0 _ _).trans (teq hc1).1) (by decide) (by decide) k) ?_
    show own_G p e below (s₁.setTop (mkF m 29 #[.val (.int p1), .val (.int p2), .val (.int (p1 &&& (3 : Int32))), .val (.int (p2 &&& (3 : Int32))), .val (.int (62497 : Int32)), .unset] [])) _
    refine own_go (fun t k => XS.iconst X0.here hx rfl (hb hby at_29) k) ?_
    show own_G p e below (s₁.setTop (mkF m 30 #[.val (.int p1), .val (.int p2), .val (.int (p1 &&& (3 : Int32))), .val (.int (p2 &&& (3 : Int32))), .val (.int (62497 : Int32)), .unset] [(.int (0 : Int32))])) _
    refine own_go (fun t k => XS.istore X0.here hx rfl (hb hby at_30) rfl (l' := #[.val (.int p1), .val (.int p2), .val (.int (p1 &&& (3 : Int32))), .val (.int (p2 &&& (3 : Int32))), .val (.int (62497 : Int32)), .val (.int (0 : Int32))]) rfl k) ?_
    show own_G p e below (s₁.setTop (mkF m 32 #[.val (.int p1), .val (.int p2), .val (.int (p1 &&& (3 : Int32))), .val (.int (p2 &&& (3 : Int32))), .val (.int (62497 : Int32)), .val (.int (0 : Int32))] [])) _
    refine own_go (fun t k => XS.iloadN X0.here hx rfl (hb hby at_32) rfl k) ?_
    show own_G p e below (s₁.setTop (mkF m 33 #[.val (.int p1), .val (.int p2), .val (.int (p1 &&& (3 : Int32))), .val (.int (p2 &&& (3 : Int32))), .val (.int (62497 : Int32)), .val (.int (0 : Int32))] [(.int (p1 &&& (3 : Int32)))])) _
    obtain ⟨_, _, ⟨T2, L2, k2, n2⟩, -, X2, ⟨Lc2, hQ2, l2, y2, z2⟩, st2⟩ := Jvm.LawKit.callS X0 hx (y := own_m0) hown (mvT hZ (own_hw hw 1 rfl)) (mvT hZ (own_hw hw 2 rfl)) (mvT hZ (own_hw hw 3 rfl)) (mvT hZ (own_hw hw 4 rfl)) (by decide) (backOf (W := 0) (own_type l Z a0 hw [] (p1 &&& (3 : Int32)) aB aT aO aN h0 O0 S_BIGINT S_TEXT S_BOOLEAN S_NULL) hZ (own_hw hw 4 rfl) (own_hw hw 3 rfl) (by decide) (by decide)) (g := (mkF m 33 #[.val (.int p1), .val (.int p2), .val (.int (p1 &&& (3 : Int32))), .val (.int (p2 &&& (3 : Int32))), .val (.int (62497 : Int32)), .val (.int (0 : Int32))] [(.int (p1 &&& (3 : Int32)))])) rfl (by rw [hml]; rfl) (argsL := [(.int (p1 &&& (3 : Int32)))]) (rest := []) (lenOf pd_19918332 rfl) rfl (by show 2 * 0 + _ ≤ _; exact Nat.le_of_eq rfl) (hb hby at_33) (fun _ _ => ⟨rfl, e0, (by decide : 0 + 0 ≤ _), (by decide : 0 + 0 ≤ _)⟩)
    dsimp only [Pt.U, Pt.locs, Pt.cells, Pt.slots] at X2 l2 y2 z2 st2 hQ2
    subst l2 y2 z2
    obtain ⟨rfl, NQ2, K2q⟩ := hQ2
    refine own_go st2 ?_
    have N2 := Fr.app N0 NQ2
    show own_G p e below (T2.setTop (mkF m 36 #[.val (.int p1), .val (.int p2), .val (.int (p1 &&& (3 : Int32))), .val (.int (p2 &&& (3 : Int32))), .val (.int (62497 : Int32)), .val (.int (0 : Int32))] [(.ref (own_pick (p1 &&& (3 : Int32)) aB aT aO aN))])) _
    refine own_go (fun t k => XS.iloadN X2.here hx rfl (hb hby at_36) rfl k) ?_
    show own_G p e below (T2.setTop (mkF m 37 #[.val (.int p1), .val (.int p2), .val (.int (p1 &&& (3 : Int32))), .val (.int (p2 &&& (3 : Int32))), .val (.int (62497 : Int32)), .val (.int (0 : Int32))] [(.int (p2 &&& (3 : Int32))), (.ref (own_pick (p1 &&& (3 : Int32)) aB aT aO aN))])) _
    obtain ⟨_, _, ⟨T3, L3, k3, n3⟩, -, X3, ⟨Lc3, hQ3, l3, y3, z3⟩, st3⟩ := Jvm.LawKit.callS X2 hx (y := own_m0) hown (mvT hZ (own_hw hw 1 rfl)) (mvT hZ (own_hw hw 2 rfl)) (mvT hZ (own_hw hw 3 rfl)) (mvT hZ (own_hw hw 4 rfl)) (by decide) (backOf (W := 1) (own_type l Z a0 hw [] (p2 &&& (3 : Int32)) aB aT aO aN h0 O0 S_BIGINT S_TEXT S_BOOLEAN S_NULL) hZ (own_hw hw 4 rfl) (own_hw hw 3 rfl) (by decide) (by decide)) (g := (mkF m 37 #[.val (.int p1), .val (.int p2), .val (.int (p1 &&& (3 : Int32))), .val (.int (p2 &&& (3 : Int32))), .val (.int (62497 : Int32)), .val (.int (0 : Int32))] [(.int (p2 &&& (3 : Int32))), (.ref (own_pick (p1 &&& (3 : Int32)) aB aT aO aN))])) rfl (by rw [hml]; rfl) (argsL := [(.int (p2 &&& (3 : Int32)))]) (rest := [(.ref (own_pick (p1 &&& (3 : Int32)) aB aT aO aN))]) (lenOf pd_19918332 rfl) rfl (by show 2 * 0 + _ ≤ _; exact Nat.le_of_eq rfl) (hb hby at_37) (fun _ _ => ⟨rfl, K2q, (by decide : 0 + 0 ≤ _), (by decide : 0 + 0 ≤ _)⟩)
    dsimp only [Pt.U, Pt.locs, Pt.cells, Pt.slots] at X3 l3 y3 z3 st3 hQ3
    subst l3 y3 z3
    obtain ⟨rfl, NQ3, K3q⟩ := hQ3
    refine own_go st3 ?_
    have N3 := Fr.app N2 NQ3
    show own_G p e below (T3.setTop (mkF m 40 #[.val (.int p1), .val (.int p2), .val (.int (p1 &&& (3 : Int32))), .val (.int (p2 &&& (3 : Int32))), .val (.int (62497 : Int32)), .val (.int (0 : Int32))] [(.ref (own_pick (p2 &&& (3 : Int32)) aB aT aO aN)), (.ref (own_pick (p1 &&& (3 : Int32)) aB aT aO aN))])) _
    obtain ⟨cq4, kq4, qa4, qb4, qc4⟩ := isOf hZ K3q ((own_pick_P (P := fun a => Exa Z Z.heap a "com/example/feeds_to_views/feedstoviews/sql/Type") E_BIGINT E_TEXT E_BOOLEAN E_NULL).ext O0)
    obtain ⟨_, _, ⟨T4, L4, k4, n4⟩, -, X4, ⟨Lc4, hQ4, l4, y4, z4⟩, st4⟩ := X3.virtualBack hx (y := own_m1) (z := own_m1) hown (mvT hZ (own_hw hw 10 rfl)) (mvT hZ (own_hw hw 11 rfl)) (notFace_of_selects (args := #[]) (mvT hZ (own_hw hw 13 rfl))) (mvT hZ (own_hw hw 13 rfl)) (mvT hZ (own_hw hw 12 rfl)) (by decide) (backOf (W := 0) (own_fitsM l Z a0 hw [] (own_pick (p1 &&& (3 : Int32)) aB aT aO aN) (own_pick (p2 &&& (3 : Int32)) aB aT aO aN) aN h0 O0 S_NULL) hZ (own_hw hw 14 rfl) (own_hw hw 6 rfl) (by decide) (by decide)) qa4 qc4 (g := (mkF m 40 #[.val (.int p1), .val (.int p2), .val (.int (p1 &&& (3 : Int32))), .val (.int (p2 &&& (3 : Int32))), .val (.int (62497 : Int32)), .val (.int (0 : Int32))] [(.ref (own_pick (p2 &&& (3 : Int32)) aB aT aO aN)), (.ref (own_pick (p1 &&& (3 : Int32)) aB aT aO aN))])) rfl (by rw [hml]; rfl) (Steps.refl _) (argsL := [(.ref (own_pick (p2 &&& (3 : Int32)) aB aT aO aN))]) (rest := []) (lenOf pd_4182666445 rfl) rfl (by show 2 * 0 + _ ≤ _; exact Nat.le_of_eq rfl) (hb hby at_40) (fun _ _ => ⟨rfl, K3q, (by decide : 0 + 0 ≤ _), (by decide : 0 + 0 ≤ _)⟩)
    dsimp only [Pt.U, Pt.locs, Pt.cells, Pt.slots] at X4 l4 y4 z4 st4 hQ4
    subst l4 y4 z4
    obtain ⟨rfl, NQ4, K4q⟩ := hQ4
    refine own_tr st4 ?_
    have N4 := Fr.app N3 NQ4
    show own_G p e below (T4.setTop (mkF m 43 #[.val (.int p1), .val (.int p2), .val (.int (p1 &&& (3 : Int32))), .val (.int (p2 &&& (3 : Int32))), .val (.int (62497 : Int32)), .val (.int (0 : Int32))] [(.int (own_fits (own_pick (p1 &&& (3 : Int32)) aB aT aO aN) (own_pick (p2 &&& (3 : Int32)) aB aT aO aN) aN))])) _
    refine own_go (fun t k => XS.iload X4.here hx rfl (hb hby at_43) rfl k) ?_
    show own_G p e below (T4.setTop (mkF m 45 #[.val (.int p1), .val (.int p2), .val (.int (p1 &&& (3 : Int32))), .val (.int (p2 &&& (3 : Int32))), .val (.int (62497 : Int32)), .val (.int (0 : Int32))] [(.int (0 : Int32)), (.int (own_fits (own_pick (p1 &&& (3 : Int32)) aB aT aO aN) (own_pick (p2 &&& (3 : Int32)) aB aT aO aN) aN))])) _
    refine own_go (fun t k => XS.icmpNo X4.here hx rfl (hb hby at_45) rfl (teq (by rw [own_law0 (own_and3 p1) (own_and3 p2) ne_aBaT ne_aBaO ne_aBaN ne_aTaO ne_aTaN ne_aOaN, if_pos hc1])).2 k) ?_
    show own_G p e below (T4.setTop (mkF m 48 #[.val (.int p1), .val (.int p2), .val (.int (p1 &&& (3 : Int32))), .val (.int (p2 &&& (3 : Int32))), .val (.int (62497 : Int32)), .val (.int (0 : Int32))] [])) _
    refine own_go (fun t k => XS.iconst X4.here hx rfl (hb hby at_48) k) ?_
    show own_G p e below (T4.setTop (mkF m 49 #[.val (.int p1), .val (.int p2), .val (.int (p1 &&& (3 : Int32))), .val (.int (p2 &&& (3 : Int32))), .val (.int (62497 : Int32)), .val (.int (0 : Int32))] [(.int (1 : Int32))])) _
    refine own_go (fun t k => XS.goto X4.here hx rfl (pc0 := 49) (pc' := 53) rfl (hb hby at_49) (by decide) (by decide) k) ?_
    show own_G p e below (T4.setTop (mkF m 53 #[.val (.int p1), .val (.int p2), .val (.int (p1 &&& (3 : Int32))), .val (.int (p2 &&& (3 : Int32))), .val (.int (62497 : Int32)), .val (.int (0 : Int32))] [(.int (1 : Int32))])) _
    exact own_ret X4 hx Bd.returns rfl (Or.inl ⟨rfl, Or.inr (Or.inl rfl), _, rfl⟩) (hb hby at_53) hlk (Nat.le_of_ble_eq_true rfl) (Nat.le_of_ble_eq_true rfl) (by show Q_own_law Z p1 p2 aB aT aO aN h0 _ T4.heap _; rw [K4q]; exact ⟨rfl, N4, rfl⟩)
  · refine own_go (fun t k => XS.ifNo X0.here hx rfl (hb hby at_22) rfl ((if0 _ _).trans (feq hc1).1) k) ?_
    show own_G p e below (s₁.setTop (mkF m 25 #[.val (.int p1), .val (.int p2), .val (.int (p1 &&& (3 : Int32))), .val (.int (p2 &&& (3 : Int32))), .val (.int (62497 : Int32)), .unset] [])) _
    refine own_go (fun t k => XS.iconst X0.here hx rfl (hb hby at_25) k) ?_
    show own_G p e below (s₁.setTop (mkF m 26 #[.val (.int p1), .val (.int p2), .val (.int (p1 &&& (3 : Int32))), .val (.int (p2 &&& (3 : Int32))), .val (.int (62497 : Int32)), .unset] [(.int (1 : Int32))])) _
    refine own_go (fun t k => XS.goto X0.here hx rfl (pc0 := 26) (pc' := 30) rfl (hb hby at_26) (by decide) (by decide) k) ?_
    show own_G p e below (s₁.setTop (mkF m 30 #[.val (.int p1), .val (.int p2), .val (.int (p1 &&& (3 : Int32))), .val (.int (p2 &&& (3 : Int32))), .val (.int (62497 : Int32)), .unset] [(.int (1 : Int32))])) _
    refine own_go (fun t k => XS.istore X0.here hx rfl (hb hby at_30) rfl (l' := #[.val (.int p1), .val (.int p2), .val (.int (p1 &&& (3 : Int32))), .val (.int (p2 &&& (3 : Int32))), .val (.int (62497 : Int32)), .val (.int (1 : Int32))]) rfl k) ?_
    show own_G p e below (s₁.setTop (mkF m 32 #[.val (.int p1), .val (.int p2), .val (.int (p1 &&& (3 : Int32))), .val (.int (p2 &&& (3 : Int32))), .val (.int (62497 : Int32)), .val (.int (1 : Int32))] [])) _
    refine own_go (fun t k => XS.iloadN X0.here hx rfl (hb hby at_32) rfl k) ?_
    show own_G p e below (s₁.setTop (mkF m 33 #[.val (.int p1), .val (.int p2), .val (.int (p1 &&& (3 : Int32))), .val (.int (p2 &&& (3 : Int32))), .val (.int (62497 : Int32)), .val (.int (1 : Int32))] [(.int (p1 &&& (3 : Int32)))])) _
    obtain ⟨_, _, ⟨T5, L5, k5, n5⟩, -, X5, ⟨Lc5, hQ5, l5, y5, z5⟩, st5⟩ := Jvm.LawKit.callS X0 hx (y := own_m0) hown (mvT hZ (own_hw hw 1 rfl)) (mvT hZ (own_hw hw 2 rfl)) (mvT hZ (own_hw hw 3 rfl)) (mvT hZ (own_hw hw 4 rfl)) (by decide) (backOf (W := 0) (own_type l Z a0 hw [] (p1 &&& (3 : Int32)) aB aT aO aN h0 O0 S_BIGINT S_TEXT S_BOOLEAN S_NULL) hZ (own_hw hw 4 rfl) (own_hw hw 3 rfl) (by decide) (by decide)) (g := (mkF m 33 #[.val (.int p1), .val (.int p2), .val (.int (p1 &&& (3 : Int32))), .val (.int (p2 &&& (3 : Int32))), .val (.int (62497 : Int32)), .val (.int (1 : Int32))] [(.int (p1 &&& (3 : Int32)))])) rfl (by rw [hml]; rfl) (argsL := [(.int (p1 &&& (3 : Int32)))]) (rest := []) (lenOf pd_19918332 rfl) rfl (by show 2 * 0 + _ ≤ _; exact Nat.le_of_eq rfl) (hb hby at_33) (fun _ _ => ⟨rfl, e0, (by decide : 0 + 0 ≤ _), (by decide : 0 + 0 ≤ _)⟩)
    dsimp only [Pt.U, Pt.locs, Pt.cells, Pt.slots] at X5 l5 y5 z5 st5 hQ5
    subst l5 y5 z5
    obtain ⟨rfl, NQ5, K5q⟩ := hQ5
    refine own_go st5 ?_
    have N5 := Fr.app N0 NQ5
    show own_G p e below (T5.setTop (mkF m 36 #[.val (.int p1), .val (.int p2), .val (.int (p1 &&& (3 : Int32))), .val (.int (p2 &&& (3 : Int32))), .val (.int (62497 : Int32)), .val (.int (1 : Int32))] [(.ref (own_pick (p1 &&& (3 : Int32)) aB aT aO aN))])) _
    refine own_go (fun t k => XS.iloadN X5.here hx rfl (hb hby at_36) rfl k) ?_
    show own_G p e below (T5.setTop (mkF m 37 #[.val (.int p1), .val (.int p2), .val (.int (p1 &&& (3 : Int32))), .val (.int (p2 &&& (3 : Int32))), .val (.int (62497 : Int32)), .val (.int (1 : Int32))] [(.int (p2 &&& (3 : Int32))), (.ref (own_pick (p1 &&& (3 : Int32)) aB aT aO aN))])) _
    obtain ⟨_, _, ⟨T6, L6, k6, n6⟩, -, X6, ⟨Lc6, hQ6, l6, y6, z6⟩, st6⟩ := Jvm.LawKit.callS X5 hx (y := own_m0) hown (mvT hZ (own_hw hw 1 rfl)) (mvT hZ (own_hw hw 2 rfl)) (mvT hZ (own_hw hw 3 rfl)) (mvT hZ (own_hw hw 4 rfl)) (by decide) (backOf (W := 1) (own_type l Z a0 hw [] (p2 &&& (3 : Int32)) aB aT aO aN h0 O0 S_BIGINT S_TEXT S_BOOLEAN S_NULL) hZ (own_hw hw 4 rfl) (own_hw hw 3 rfl) (by decide) (by decide)) (g := (mkF m 37 #[.val (.int p1), .val (.int p2), .val (.int (p1 &&& (3 : Int32))), .val (.int (p2 &&& (3 : Int32))), .val (.int (62497 : Int32)), .val (.int (1 : Int32))] [(.int (p2 &&& (3 : Int32))), (.ref (own_pick (p1 &&& (3 : Int32)) aB aT aO aN))])) rfl (by rw [hml]; rfl) (argsL := [(.int (p2 &&& (3 : Int32)))]) (rest := [(.ref (own_pick (p1 &&& (3 : Int32)) aB aT aO aN))]) (lenOf pd_19918332 rfl) rfl (by show 2 * 0 + _ ≤ _; exact Nat.le_of_eq rfl) (hb hby at_37) (fun _ _ => ⟨rfl, K5q, (by decide : 0 + 0 ≤ _), (by decide : 0 + 0 ≤ _)⟩)
    dsimp only [Pt.U, Pt.locs, Pt.cells, Pt.slots] at X6 l6 y6 z6 st6 hQ6
    subst l6 y6 z6
    obtain ⟨rfl, NQ6, K6q⟩ := hQ6
    refine own_go st6 ?_
    have N6 := Fr.app N5 NQ6
    show own_G p e below (T6.setTop (mkF m 40 #[.val (.int p1), .val (.int p2), .val (.int (p1 &&& (3 : Int32))), .val (.int (p2 &&& (3 : Int32))), .val (.int (62497 : Int32)), .val (.int (1 : Int32))] [(.ref (own_pick (p2 &&& (3 : Int32)) aB aT aO aN)), (.ref (own_pick (p1 &&& (3 : Int32)) aB aT aO aN))])) _
    obtain ⟨cq7, kq7, qa7, qb7, qc7⟩ := isOf hZ K6q ((own_pick_P (P := fun a => Exa Z Z.heap a "com/example/feeds_to_views/feedstoviews/sql/Type") E_BIGINT E_TEXT E_BOOLEAN E_NULL).ext O0)
    obtain ⟨_, _, ⟨T7, L7, k7, n7⟩, -, X7, ⟨Lc7, hQ7, l7, y7, z7⟩, st7⟩ := X6.virtualBack hx (y := own_m1) (z := own_m1) hown (mvT hZ (own_hw hw 10 rfl)) (mvT hZ (own_hw hw 11 rfl)) (notFace_of_selects (args := #[]) (mvT hZ (own_hw hw 13 rfl))) (mvT hZ (own_hw hw 13 rfl)) (mvT hZ (own_hw hw 12 rfl)) (by decide) (backOf (W := 0) (own_fitsM l Z a0 hw [] (own_pick (p1 &&& (3 : Int32)) aB aT aO aN) (own_pick (p2 &&& (3 : Int32)) aB aT aO aN) aN h0 O0 S_NULL) hZ (own_hw hw 14 rfl) (own_hw hw 6 rfl) (by decide) (by decide)) qa7 qc7 (g := (mkF m 40 #[.val (.int p1), .val (.int p2), .val (.int (p1 &&& (3 : Int32))), .val (.int (p2 &&& (3 : Int32))), .val (.int (62497 : Int32)), .val (.int (1 : Int32))] [(.ref (own_pick (p2 &&& (3 : Int32)) aB aT aO aN)), (.ref (own_pick (p1 &&& (3 : Int32)) aB aT aO aN))])) rfl (by rw [hml]; rfl) (Steps.refl _) (argsL := [(.ref (own_pick (p2 &&& (3 : Int32)) aB aT aO aN))]) (rest := []) (lenOf pd_4182666445 rfl) rfl (by show 2 * 0 + _ ≤ _; exact Nat.le_of_eq rfl) (hb hby at_40) (fun _ _ => ⟨rfl, K6q, (by decide : 0 + 0 ≤ _), (by decide : 0 + 0 ≤ _)⟩)
    dsimp only [Pt.U, Pt.locs, Pt.cells, Pt.slots] at X7 l7 y7 z7 st7 hQ7
    subst l7 y7 z7
    obtain ⟨rfl, NQ7, K7q⟩ := hQ7
    refine own_tr st7 ?_
    have N7 := Fr.app N6 NQ7
    show own_G p e below (T7.setTop (mkF m 43 #[.val (.int p1), .val (.int p2), .val (.int (p1 &&& (3 : Int32))), .val (.int (p2 &&& (3 : Int32))), .val (.int (62497 : Int32)), .val (.int (1 : Int32))] [(.int (own_fits (own_pick (p1 &&& (3 : Int32)) aB aT aO aN) (own_pick (p2 &&& (3 : Int32)) aB aT aO aN) aN))])) _
    refine own_go (fun t k => XS.iload X7.here hx rfl (hb hby at_43) rfl k) ?_
    show own_G p e below (T7.setTop (mkF m 45 #[.val (.int p1), .val (.int p2), .val (.int (p1 &&& (3 : Int32))), .val (.int (p2 &&& (3 : Int32))), .val (.int (62497 : Int32)), .val (.int (1 : Int32))] [(.int (1 : Int32)), (.int (own_fits (own_pick (p1 &&& (3 : Int32)) aB aT aO aN) (own_pick (p2 &&& (3 : Int32)) aB aT aO aN) aN))])) _
    refine own_go (fun t k => XS.icmpNo X7.here hx rfl (hb hby at_45) rfl (teq (by rw [own_law0 (own_and3 p1) (own_and3 p2) ne_aBaT ne_aBaO ne_aBaN ne_aTaO ne_aTaN ne_aOaN, if_neg hc1])).2 k) ?_
    show own_G p e below (T7.setTop (mkF m 48 #[.val (.int p1), .val (.int p2), .val (.int (p1 &&& (3 : Int32))), .val (.int (p2 &&& (3 : Int32))), .val (.int (62497 : Int32)), .val (.int (1 : Int32))] [])) _
    refine own_go (fun t k => XS.iconst X7.here hx rfl (hb hby at_48) k) ?_
    show own_G p e below (T7.setTop (mkF m 49 #[.val (.int p1), .val (.int p2), .val (.int (p1 &&& (3 : Int32))), .val (.int (p2 &&& (3 : Int32))), .val (.int (62497 : Int32)), .val (.int (1 : Int32))] [(.int (1 : Int32))])) _
    refine own_go (fun t k => XS.goto X7.here hx rfl (pc0 := 49) (pc' := 53) rfl (hb hby at_49) (by decide) (by decide) k) ?_
    show own_G p e below (T7.setTop (mkF m 53 #[.val (.int p1), .val (.int p2), .val (.int (p1 &&& (3 : Int32))), .val (.int (p2 &&& (3 : Int32))), .val (.int (62497 : Int32)), .val (.int (1 : Int32))] [(.int (1 : Int32))])) _
    exact own_ret X7 hx Bd.returns rfl (Or.inl ⟨rfl, Or.inr (Or.inl rfl), _, rfl⟩) (hb hby at_53) hlk (Nat.le_of_ble_eq_true rfl) (Nat.le_of_ble_eq_true rfl) (by show Q_own_law Z p1 p2 aB aT aO aN h0 _ T7.heap _; rw [K7q]; exact ⟨rfl, N7, rfl⟩)
set_option maxRecDepth 65536 in
set_option maxHeartbeats 40000000 in
theorem comes_1 {Post : Tables → Env → Array Value → State → Outcome → State → Prop} (hpost : ∀ tb e args s v u, (limb_1_1.after args s (.returned v) u = true ∧ limb_1_2.after args s (.returned v) u = true ∧ True) → FrameEnd s (.returned v) u (Jvm.fieldLocs frame_1_writes args s ++ Jvm.arrayLocs frame_1_arrays args s ++ Jvm.staticLocs frame_1_statics s) 0 0 → Post tb e args s (.returned v) u) :
    ArmFor flags0 classFile x code maxLocals ret World_1 tables_1 room_1 Calls_1 rest_1 Pre_1 Post := by
  intro l hfl _ _ p e ha hc hk s m args below hf hA hF happ hP
  obtain ⟨hcalls, hrest, hpre⟩ := hP
  obtain ⟨-, -, -, hnamed, -, -, -, hat⟩ := (Spec.applies_iff hf).mp happ
  obtain ⟨hg, hn⟩ := and_e (Cond.before_iff.mp (show (Jvm.Cond.and given_1 narrow_1).before args s = true from hpre))
  obtain ⟨hg0, hg1⟩ := and_e hg
  obtain ⟨hy0, hz0⟩ := and_e hg1
  obtain ⟨w0, w1, rfl⟩ : ∃ w0 w1 : Value, args = #[w0, w1] := by
    have hs : args.size = 2 := by simpa [Cond.value, given_1] using hg0
    obtain ⟨L⟩ := args
    match L, hs with
    | [w0, w1], _ => exact ⟨w0, w1, rfl⟩
  have hw := fun d (hd : d ∈ tables_1) => atoms_spec (ws := Jvm.Cond.code x code maxLocals ret :: tables_1) hat d (List.mem_cons_of_mem _ hd)
  have hfit : Fit s := fun {y c} hc i hi => by
    obtain ⟨ha, rfl⟩ := Array.getElem?_eq_some_iff.mp hc
    have q := List.all_eq_true.mp ((Array.all_eq_true_iff_forall_mem.mp hF) _ (Array.getElem_mem ha)) i (List.mem_range.mpr hi)
    simpa [Array.getElem?_eq_getElem hi] using q
  obtain ⟨i0, ea0⟩ := is_v hy0
  obtain rfl : w0 = (.int i0) := Option.some.inj ea0
  obtain ⟨i1, ea1⟩ := is_v hz0
  obtain rfl : w1 = (.int i1) := Option.some.inj ea1
  obtain ⟨c0, hn0⟩ := and_e hn
  obtain ⟨c1, hn1⟩ := and_e hn0
  obtain ⟨c2, hn2⟩ := and_e hn1
  obtain ⟨c3, hn3⟩ := and_e hn2
  obtain ⟨c4, hn4⟩ := and_e hn3
  obtain ⟨c5, hn5⟩ := and_e hn4
  obtain ⟨c6, hn6⟩ := and_e hn5
  obtain ⟨a_BIGINT, ev_BIGINT⟩ := exa_v c0
  have E_BIGINT : Exa s s.heap a_BIGINT "com/example/feeds_to_views/feedstoviews/sql/Type" := Exa.start ev_BIGINT c0
  have S_BIGINT : Sta s s.heap "com/example/feeds_to_views/feedstoviews/sql/Type" "BIGINT" "Lcom/example/feeds_to_views/feedstoviews/sql/Type;" (.ref a_BIGINT) := Sta.start ev_BIGINT (Or.inr ⟨(own_hw hw 6 rfl), (own_hw hw 7 rfl)⟩)
  obtain ⟨a_NULL, ev_NULL⟩ := exa_v c1
  have E_NULL : Exa s s.heap a_NULL "com/example/feeds_to_views/feedstoviews/sql/Type" := Exa.start ev_NULL c1
  have S_NULL : Sta s s.heap "com/example/feeds_to_views/feedstoviews/sql/Type" "NULL" "Lcom/example/feeds_to_views/feedstoviews/sql/Type;" (.ref a_NULL) := Sta.start ev_NULL (Or.inr ⟨(own_hw hw 6 rfl), (own_hw hw 9 rfl)⟩)
  obtain ⟨a_BOOLEAN, ev_BOOLEAN⟩ := exa_v c4
  have E_BOOLEAN : Exa s s.heap a_BOOLEAN "com/example/feeds_to_views/feedstoviews/sql/Type" := Exa.start ev_BOOLEAN c4
  have S_BOOLEAN : Sta s s.heap "com/example/feeds_to_views/feedstoviews/sql/Type" "BOOLEAN" "Lcom/example/feeds_to_views/feedstoviews/sql/Type;" (.ref a_BOOLEAN) := Sta.start ev_BOOLEAN (Or.inr ⟨(own_hw hw 6 rfl), (own_hw hw 17 rfl)⟩)
  obtain ⟨a_TEXT, ev_TEXT⟩ := exa_v c5
  have E_TEXT : Exa s s.heap a_TEXT "com/example/feeds_to_views/feedstoviews/sql/Type" := Exa.start ev_TEXT c5
  have S_TEXT : Sta s s.heap "com/example/feeds_to_views/feedstoviews/sql/Type" "TEXT" "Lcom/example/feeds_to_views/feedstoviews/sql/Type;" (.ref a_TEXT) := Sta.start ev_TEXT (Or.inr ⟨(own_hw hw 6 rfl), (own_hw hw 19 rfl)⟩)
  have F_BIGINT_ordinal : Fld s s.heap a_BIGINT "java/lang/Enum" "ordinal" "I" (.int (0 : Int32)) := Fld.start ((fld_at ev_BIGINT).symm.trans (eqv_i (Term.int_eval (0 : Int32)) c2))
  have F_NULL_ordinal : Fld s s.heap a_NULL "java/lang/Enum" "ordinal" "I" (.int (3 : Int32)) := Fld.start ((fld_at ev_NULL).symm.trans (eqv_i (Term.int_eval (3 : Int32)) c3))
  have F_BOOLEAN_ordinal : Fld s s.heap a_BOOLEAN "java/lang/Enum" "ordinal" "I" (.int (2 : Int32)) := Fld.start ((fld_at ev_BOOLEAN).symm.trans (eqv_i (Term.int_eval (2 : Int32)) c6))
  have F_TEXT_ordinal : Fld s s.heap a_TEXT "java/lang/Enum" "ordinal" "I" (.int (1 : Int32)) := Fld.start ((fld_at ev_TEXT).symm.trans (eqv_i (Term.int_eval (1 : Int32)) hn6))
  obtain ⟨n, o, h1, h2, h3, _, L, rfl, hQ, hq⟩ := own_law l s _ hw tables_1 i0 i1 a_BIGINT a_TEXT a_BOOLEAN a_NULL s.heap (own_ext_refl _) S_BIGINT S_TEXT S_BOOLEAN S_NULL E_BIGINT E_TEXT E_BOOLEAN E_NULL (own_fld_ne F_BIGINT_ordinal F_TEXT_ordinal (by decide)) (own_fld_ne F_BIGINT_ordinal F_BOOLEAN_ordinal (by decide)) (own_fld_ne F_BIGINT_ordinal F_NULL_ordinal (by decide)) (own_fld_ne F_TEXT_ordinal F_BOOLEAN_ordinal (by decide)) (own_fld_ne F_TEXT_ordinal F_NULL_ordinal (by decide)) (own_fld_ne F_BOOLEAN_ordinal F_NULL_ordinal (by decide)) p e ha hc hk s m _ below hf ((Spec.applies_iff_loose hf).mp happ).1 ⟨rfl, State.Warmed39.refl s, rfl⟩ trivial
  obtain ⟨rfl, N, -⟩ := hQ
  exact ⟨n, _, h1, h2, h3, hpost _ _ _ _ _ _ ⟨Cond.after_iff.mpr rfl, Cond.after_iff.mpr (eq_i res_at (Term.int_eval (1)) rfl), trivial⟩ ⟨hq.1, hq.2.1, (hq.2.2.sift fun y hy => Or.inr (N y hy)).mono (by decide) (by decide)⟩⟩
theorem main_1_1 : Claimed_1_1 := comes_1 fun _ _ _ _ _ _ h hF => ⟨h.1, hF⟩
theorem main_1_2 : Claimed_1_2 := comes_1 fun _ _ _ _ _ _ h hF => ⟨h.2.1, hF⟩
end Jvm.Pilot.@@N@@
namespace Jvm.Pilot.@@N@@
open Jvm Jvm.ClassFile Sem Op Lib Jvm.Free Jvm.Stand Jvm.Pilot.@@N@@.Jvm.D
/-! MADE BY PROGRAM (witnessworld.py) out of the Statement's table words and the real class files: 12 classes; the members and pool entries that the words name. The judged class is class 1, her method 2. -/
namespace start1
open Jvm.ClassFile
def u (s : String) : CpInfo := .utf8 (stringToUtf16 s)
/-- a pool by its gaps: so many unusable entries, then the entry; so many at the end -/
def gap : Nat → List CpInfo → List CpInfo
  | 0, r => r
  | n + 1, r => .unusable :: gap n r
def poolList (es : List (Nat × CpInfo)) (last : Nat) : List CpInfo := es.foldr (fun e r => gap e.1 (e.2 :: r)) (gap last [])
def pool (es : List (Nat × CpInfo)) (last : Nat) : Array CpInfo := ⟨poolList es last⟩
def fileOf (pool : Array CpInfo) (this : Nat) (attrs : Array Attribute := #[]) (ms : Array MethodInfo := #[]) (fl : Nat := 33) (sup : Nat := 0) (ifs : Array Nat := #[]) (fds : Array FieldInfo := #[]) : ClassFile where
  minorVersion := 0
  majorVersion := 65
  constantPool := pool
  accessFlags := fl
  thisClass := this
  superClass := sup
  interfaces := ifs
  fields := fds
  methods := ms
  attributes := attrs
def plain (name : String) (sup : Option ClassId) : Class where
  name := name
  kind := .ordinary
  loader := none
  accessFlags := 33
  super := sup
  interfaces := #[]
  cf := none
  fields := #[]
  methods := #[]
  instanceTypes := #[]
  staticTypes := #[]
  resolved := #[]
  callSites := []
  init := .initialized
  statics := none
  mirror := none

def pool0 : Array CpInfo := pool [(5, u "<init>"), (0, u "()V"), (1, .class_ 10), (1, u "java/lang/Object")] 113

def k0m0 : Method := { name := "<init>", desc := "()V", sig := { parameters := [], returnType := none }, accessFlags := 1, code := none }
/-- java/lang/Object -/
def k0 : Class := { plain "java/lang/Object" none with
  accessFlags := 33
  interfaces := #[]
  cf := some (fileOf pool0 8 #[] #[{ accessFlags := 1, nameIndex := 5, descriptorIndex := 6, attributes := #[] }] 33 0 #[] #[])
  fields := #[]
  methods := #[k0m0]
  instanceTypes := #[]
  staticTypes := #[]
  resolved := Array.replicate 124 none
  statics := none }

def pool1 : Array CpInfo := pool [(2, .class_ 4), (1, u "java/lang/Object"), (0, u "<init>"), (0, u "()V"), (0, .fieldref 8 9), (0, .class_ 10), (0, .nameAndType 11 12), (0, u "com/example/feeds_to_views/feedstoviews/sql/Type"), (0, u "BIGINT"), (0, u "Lcom/example/feeds_to_views/feedstoviews/sql/Type;"), (0, .fieldref 8 14), (0, .nameAndType 15 12), (0, u "TEXT"), (0, .fieldref 8 17), (0, .nameAndType 18 12), (0, u "BOOLEAN"), (0, .fieldref 8 20), (0, .nameAndType 21 12), (0, u "NULL"), (0, .integer 62497), (0, .methodref 24 25), (0, .class_ 26), (0, .nameAndType 27 28), (0, u "com/example/feeds_to_views/feedstoviews/sql/TypeFitsPinLaw"), (0, u "type"), (0, u "(I)Lcom/example/feeds_to_views/feedstoviews/sql/Type;"), (0, .methodref 8 30), (0, .nameAndType 31 32), (0, u "fits"), (0, u "(Lcom/example/feeds_to_views/feedstoviews/sql/Type;)Z"), (3, u "law"), (0, u "(II)Z")] 2

def k1m0 : Method := { name := "<init>", desc := "()V", sig := { parameters := [], returnType := none }, accessFlags := 1, code := none }
def k1c1 : Code := { maxStack := 2, maxLocals := 1, code := method_2_code, exceptionTable := #[], attributes := #[] }
def k1m1 : Method := { name := "type", desc := "(I)Lcom/example/feeds_to_views/feedstoviews/sql/Type;", sig := { parameters := [.int], returnType := some (.object "com/example/feeds_to_views/feedstoviews/sql/Type") }, accessFlags := 10, code := some k1c1 }
def k1c2 : Code := { maxStack := 3, maxLocals := 6, code := code, exceptionTable := #[], attributes := #[] }
def k1m2 : Method := { name := "law", desc := "(II)Z", sig := { parameters := [.int, .int], returnType := some .boolean }, accessFlags := 9, code := some k1c2 }
/-- com/example/feeds_to_views/feedstoviews/sql/TypeFitsPinLaw -/
def k1 : Class := { plain "com/example/feeds_to_views/feedstoviews/sql/TypeFitsPinLaw" (some 0) with
  accessFlags := 49
  interfaces := #[]
  cf := some (fileOf pool1 24 #[] #[{ accessFlags := 1, nameIndex := 5, descriptorIndex := 6, attributes := #[] }, { accessFlags := 10, nameIndex := 27, descriptorIndex := 28, attributes := #[] }, { accessFlags := 9, nameIndex := 36, descriptorIndex := 37, attributes := #[] }] 49 2 #[] #[])
  fields := #[]
  methods := #[k1m0, k1m1, k1m2]
  instanceTypes := #[]
  staticTypes := #[]
  resolved := Array.replicate 40 none
  statics := none }

def pool2 : Array CpInfo := pool [(1, .class_ 2), (0, u "java/lang/constant/Constable"), (0, .class_ 4), (0, u "java/lang/Object")] 6

/-- java/lang/constant/Constable -/
def k2 : Class := { plain "java/lang/constant/Constable" (some 0) with
  accessFlags := 1537
  interfaces := #[]
  cf := some (fileOf pool2 1 #[] #[] 1537 3 #[] #[])
  fields := #[]
  methods := #[]
  instanceTypes := #[]
  staticTypes := #[]
  resolved := Array.replicate 11 none
  statics := none }

def pool3 : Array CpInfo := pool [(1, .class_ 2), (0, u "java/lang/Comparable"), (0, .class_ 4), (0, u "java/lang/Object")] 7

/-- java/lang/Comparable -/
def k3 : Class := { plain "java/lang/Comparable" (some 0) with
  accessFlags := 1537
  interfaces := #[]
  cf := some (fileOf pool3 1 #[] #[] 1537 3 #[] #[])
  fields := #[]
  methods := #[]
  instanceTypes := #[]
  staticTypes := #[]
  resolved := Array.replicate 12 none
  statics := none }

def pool4 : Array CpInfo := pool [(1, .class_ 2), (0, u "java/io/Serializable"), (0, .class_ 4), (0, u "java/lang/Object")] 2

/-- java/io/Serializable -/
def k4 : Class := { plain "java/io/Serializable" (some 0) with
  accessFlags := 1537
  interfaces := #[]
  cf := some (fileOf pool4 1 #[] #[] 1537 3 #[] #[])
  fields := #[]
  methods := #[]
  instanceTypes := #[]
  staticTypes := #[]
  resolved := Array.replicate 7 none
  statics := none }

def pool5 : Array CpInfo := pool [(2, .class_ 4), (1, u "java/lang/Enum"), (0, u "name"), (0, u "Ljava/lang/String;"), (2, u "ordinal"), (0, u "I"), (1, .class_ 14), (1, u "java/lang/Object"), (4, u "hash"), (86, .class_ 108), (1, u "java/lang/Enum$EnumDesc"), (2, .class_ 112), (0, u "java/lang/constant/Constable"), (0, .class_ 114), (0, u "java/lang/Comparable"), (0, .class_ 116), (0, u "java/io/Serializable")] 87

/-- java/lang/Enum -/
def k5 : Class := { plain "java/lang/Enum" (some 0) with
  accessFlags := 1057
  interfaces := #[2, 3, 4]
  cf := some (fileOf pool5 2 #[.nestMembers #[106]] #[] 1057 12 #[111, 113, 115] #[{ accessFlags := 18, nameIndex := 5, descriptorIndex := 6, attributes := #[] }, { accessFlags := 18, nameIndex := 9, descriptorIndex := 10, attributes := #[] }, { accessFlags := 2, nameIndex := 19, descriptorIndex := 10, attributes := #[] }])
  fields := #[{ name := "name", type := (.object "java/lang/String"), accessFlags := 18, slot := 0, constantValue := 0 }, { name := "ordinal", type := .int, accessFlags := 18, slot := 1, constantValue := 0 }, { name := "hash", type := .int, accessFlags := 2, slot := 2, constantValue := 0 }]
  methods := #[]
  instanceTypes := #[(.object "java/lang/String"), .int, .int]
  staticTypes := #[]
  resolved := Array.replicate 204 none
  statics := none }

def pool6 : Array CpInfo := pool [(1, .class_ 2), (0, u "com/example/feeds_to_views/feedstoviews/sql/Type"), (2, u "BIGINT"), (0, u "Lcom/example/feeds_to_views/feedstoviews/sql/Type;"), (2, u "TEXT"), (2, u "BOOLEAN"), (0, .fieldref 1 14), (0, .nameAndType 15 6), (0, u "NULL"), (2, u "$VALUES"), (0, u "[Lcom/example/feeds_to_views/feedstoviews/sql/Type;"), (6, .class_ 28), (1, u "java/lang/Enum"), (22, u "fits"), (0, u "(Lcom/example/feeds_to_views/feedstoviews/sql/Type;)Z")] 5

def k6c0 : Code := { maxStack := 2, maxLocals := 2, code := prog_123_method_4_code, exceptionTable := #[], attributes := #[] }
def k6m0 : Method := { name := "fits", desc := "(Lcom/example/feeds_to_views/feedstoviews/sql/Type;)Z", sig := { parameters := [(.object "com/example/feeds_to_views/feedstoviews/sql/Type")], returnType := some .boolean }, accessFlags := 1, code := some k6c0 }
/-- com/example/feeds_to_views/feedstoviews/sql/Type -/
def k6 : Class := { plain "com/example/feeds_to_views/feedstoviews/sql/Type" (some 5) with
  accessFlags := 16433
  interfaces := #[]
  cf := some (fileOf pool6 1 #[] #[{ accessFlags := 1, nameIndex := 51, descriptorIndex := 52, attributes := #[] }] 16433 26 #[] #[{ accessFlags := 16409, nameIndex := 5, descriptorIndex := 6, attributes := #[] }, { accessFlags := 16409, nameIndex := 9, descriptorIndex := 6, attributes := #[] }, { accessFlags := 16409, nameIndex := 12, descriptorIndex := 6, attributes := #[] }, { accessFlags := 16409, nameIndex := 15, descriptorIndex := 6, attributes := #[] }, { accessFlags := 4122, nameIndex := 18, descriptorIndex := 19, attributes := #[] }])
  fields := #[{ name := "BIGINT", type := (.object "com/example/feeds_to_views/feedstoviews/sql/Type"), accessFlags := 16409, slot := 0, constantValue := 0 }, { name := "TEXT", type := (.object "com/example/feeds_to_views/feedstoviews/sql/Type"), accessFlags := 16409, slot := 1, constantValue := 0 }, { name := "BOOLEAN", type := (.object "com/example/feeds_to_views/feedstoviews/sql/Type"), accessFlags := 16409, slot := 2, constantValue := 0 }, { name := "NULL", type := (.object "com/example/feeds_to_views/feedstoviews/sql/Type"), accessFlags := 16409, slot := 3, constantValue := 0 }, { name := "$VALUES", type := (.array (.object "com/example/feeds_to_views/feedstoviews/sql/Type")), accessFlags := 4122, slot := 4, constantValue := 0 }]
  methods := #[k6m0]
  instanceTypes := #[(.object "java/lang/String"), .int, .int]
  staticTypes := #[(.object "com/example/feeds_to_views/feedstoviews/sql/Type"), (.object "com/example/feeds_to_views/feedstoviews/sql/Type"), (.object "com/example/feeds_to_views/feedstoviews/sql/Type"), (.object "com/example/feeds_to_views/feedstoviews/sql/Type"), (.array (.object "com/example/feeds_to_views/feedstoviews/sql/Type"))]
  resolved := Array.replicate 58 none
  statics := some 0 }

def pool7 : Array CpInfo := pool [(1, u "java/lang/Cloneable"), (0, .class_ 1), (0, u "java/lang/Object"), (0, .class_ 3)] 3

/-- java/lang/Cloneable -/
def k7 : Class := { plain "java/lang/Cloneable" (some 0) with
  accessFlags := 1537
  interfaces := #[]
  cf := some (fileOf pool7 2 #[] #[] 1537 4 #[] #[])
  fields := #[]
  methods := #[]
  instanceTypes := #[]
  staticTypes := #[]
  resolved := Array.replicate 8 none
  statics := none }

/-- the primitive byte -/
def k8 : Class := { plain "byte" none with kind := .primitive 'B', accessFlags := 0x411 }
/-- [B -/
def k9 : Class := { plain "[B" (some 0) with kind := .array 8 .byte, interfaces := #[7, 4], accessFlags := 1041 }

/-- the primitive int -/
def k10 : Class := { plain "int" none with kind := .primitive 'I', accessFlags := 0x411 }
/-- [I -/
def k11 : Class := { plain "[I" (some 0) with kind := .array 10 .int, interfaces := #[7, 4], accessFlags := 1041 }

def heap : Heap := #[{ cls := 6, slots := #[.ref 1, .ref 2, .ref 3, .ref 4, .null], vm := .statics 6 },
  { cls := 6, slots := #[.null, .int 0, .int 0], vm := .none },
  { cls := 6, slots := #[.null, .int 1, .int 0], vm := .none },
  { cls := 6, slots := #[.null, .int 2, .int 0], vm := .none },
  { cls := 6, slots := #[.null, .int 3, .int 0], vm := .none }]
def classes : Array Class := #[k0, k1, k2, k3, k4, k5, k6, k7, k8, k9, k10, k11]
def interned : List (Array UInt16 × Addr) := []
def slotsUsed : Nat := 17
def theMethod : MethodId := ⟨1, 2⟩
def args0 : Array Value := #[.int 1, .int 2]
def aboutOver (below : List Frame) : State where
  vm := { classes := classes, interned := interned.toArray }
  heap := heap
  slotsUsed := slotsUsed
  threads := #[{ frames := .invoking theMethod args0 :: below }]
def below0 : List Frame := [.native { method := ⟨0, 0⟩, args := #[] }]
def about1 : State := aboutOver below0
def p0 : Program := .bare "" "" ""
def e0 : Env := launch0.env 0 0 0
theorem w_frames : about1.frames = Frame.invoking theMethod args0 :: below0 := rfl
set_option maxRecDepth 65536 in
theorem w_args : argsFit about1.vm theMethod args0 = true := by decide +kernel
set_option maxRecDepth 65536 in
theorem w_heap : heapFits about1 = true := by decide +kernel
set_option maxRecDepth 65536 in
theorem w_runnable : about1.curStatus? = some .runnable := by decide +kernel
set_option maxRecDepth 65536 in
theorem w_alone : about1.alone = true := by decide +kernel
set_option maxRecDepth 65536 in
theorem w_named : about1.methodNamed? x = some theMethod := by decide +kernel
set_option maxRecDepth 65536 in
theorem w_hears : about1.hears theMethod below0 = true := by decide +kernel
set_option maxRecDepth 65536 in
theorem w_ripe : about1.ripe theMethod args0 below0 = true := by decide +kernel
theorem w_running : about1.status = .running := rfl
set_option maxRecDepth 65536 in
theorem w_room : about1.hasRoom e0.platform room_1 = true :=
  launch0.hasRoom_least _ room_1 (by decide +kernel) (by decide +kernel) (by decide +kernel) (by decide +kernel) (by decide +kernel) (by decide +kernel)
theorem allAtoms_all (ts : List Jvm.Cond) (a : Array Jvm.Value) (st : Jvm.State) : (allAtoms ts).before a st = ts.all (fun c => c.before a st) := by
  induction ts with
  | nil => rfl
  | cons c t ih =>
    show (Jvm.Cond.and c (allAtoms t)).before a st = _
    rw [Jvm.Cond.before_and, ih, List.all_cons]
def words1 : List Jvm.Cond := Jvm.Cond.code x code maxLocals ret :: tables_1
/-- a 'code' word, met by the world's own term for the bytes: nothing is compared byte by byte -/
theorem code_word {y : MethodName} {bytes : ByteArray} {mx : Nat} {rt : Option FieldType} {a : Array Value} {s : State} {m : MethodId} {meth : Method} {c : Code} (h1 : s.methodNamed? y = some m) (h2 : s.vm.method? m = some meth) (h3 : meth.code = some c) (h4 : c.code = bytes)
    (h5 : (c.maxLocals == mx && c.exceptionTable.isEmpty && decide (c.maxStack ≤ mostOperands) && decide (meth.sig.returnType = rt) && !meth.locks && decide (parseMethodDescriptor y.desc = some meth.sig)) = true) : (Jvm.Cond.code y bytes mx rt).before a s = true := by
  simp only [Bool.and_eq_true, beq_iff_eq, Bool.not_eq_true', decide_eq_true_eq] at h5
  obtain ⟨⟨⟨⟨⟨g1, g2⟩, g3⟩, g4⟩, g5⟩, g6⟩ := h5
  simp [Cond.before, Cond.holds, Cond.value, h1, h2, h3, h4, g1, g2, g3, g4, g5, g6]
def isCode : Jvm.Cond → Bool
  | .code _ _ _ _ => true
  | _ => false
theorem all_split {L : List Jvm.Cond} {P : Jvm.Cond → Bool} (h1 : L.all (fun c => isCode c || P c) = true) (h2 : ∀ c ∈ L.filter isCode, P c = true) : L.all P = true := by
  refine List.all_eq_true.mpr fun c hc => ?_
  have h := List.all_eq_true.mp h1 c hc
  rcases Bool.eq_false_or_eq_true (isCode c) with hi | hi
  · exact h2 c (List.mem_filter.mpr ⟨hc, hi⟩)
  · simpa [hi] using h
set_option maxRecDepth 65536 in
theorem w_c0 : (Jvm.Cond.code x code maxLocals ret).before args0 about1 = true := code_word (m := ⟨1, 2⟩) (meth := k1m2) (c := k1c2) (by decide +kernel) rfl rfl rfl (by decide +kernel)
set_option maxRecDepth 65536 in
theorem w_c1 : (Jvm.Cond.code ({ cls := "com/example/feeds_to_views/feedstoviews/sql/TypeFitsPinLaw", name := "type", desc := "(I)Lcom/example/feeds_to_views/feedstoviews/sql/Type;" } : Jvm.MethodName) method_2_code (1 : Nat) (Option.some (Jvm.ClassFile.FieldType.object "com/example/feeds_to_views/feedstoviews/sql/Type"))).before args0 about1 = true := code_word (m := ⟨1, 1⟩) (meth := k1m1) (c := k1c1) (by decide +kernel) rfl rfl rfl (by decide +kernel)
set_option maxRecDepth 65536 in
theorem w_c2 : (Jvm.Cond.code ({ cls := "com/example/feeds_to_views/feedstoviews/sql/Type", name := "fits", desc := "(Lcom/example/feeds_to_views/feedstoviews/sql/Type;)Z" } : Jvm.MethodName) prog_123_method_4_code (2 : Nat) (Option.some Jvm.ClassFile.FieldType.boolean)).before args0 about1 = true := code_word (m := ⟨6, 0⟩) (meth := k6m0) (c := k6c0) (by decide +kernel) rfl rfl rfl (by decide +kernel)
def codes1 : List Jvm.Cond := [Jvm.Cond.code x code maxLocals ret, Jvm.Cond.code ({ cls := "com/example/feeds_to_views/feedstoviews/sql/TypeFitsPinLaw", name := "type", desc := "(I)Lcom/example/feeds_to_views/feedstoviews/sql/Type;" } : Jvm.MethodName) method_2_code (1 : Nat) (Option.some (Jvm.ClassFile.FieldType.object "com/example/feeds_to_views/feedstoviews/sql/Type")), Jvm.Cond.code ({ cls := "com/example/feeds_to_views/feedstoviews/sql/Type", name := "fits", desc := "(Lcom/example/feeds_to_views/feedstoviews/sql/Type;)Z" } : Jvm.MethodName) prog_123_method_4_code (2 : Nat) (Option.some Jvm.ClassFile.FieldType.boolean)]
set_option maxRecDepth 65536 in
theorem codes_eq : words1.filter isCode = codes1 := rfl
theorem w_codes : ∀ c ∈ words1.filter isCode, c.before args0 about1 = true := by
  rw [codes_eq]
  intro c hc
  simp only [codes1, List.mem_cons, List.not_mem_nil, or_false] at hc
  rcases hc with rfl | rfl | rfl
  · exact w_c0
  · exact w_c1
  · exact w_c2
set_option maxRecDepth 65536 in
theorem w_t1 : words1.all (fun c => isCode c || c.before args0 about1) = true := by decide +kernel
theorem w_tables : (allAtoms (Jvm.Cond.code x code maxLocals ret :: tables_1)).before args0 about1 = true := by
  rw [allAtoms_all]
  show words1.all (fun c => c.before args0 about1) = true
  refine all_split ?_ w_codes
  rw [w_t1]
set_option maxRecDepth 65536 in
theorem w_case : (Jvm.Cond.and given_1 narrow_1).before args0 about1 = true := by decide +kernel
theorem w_applies : (headSpec (Jvm.Cond.code x code maxLocals ret :: tables_1) room_1).applies x e0.platform about1 = true :=
  (Spec.applies_iff w_frames).mpr ⟨w_running, w_runnable, w_alone, w_named, w_hears, w_ripe, w_room, w_tables⟩
theorem atStart : AtStart classFile x code maxLocals ret World_1 tables_1 room_1 Calls_1 rest_1 Pre_1 launch0 p0 e0 about1 theMethod args0 below0 :=
  ⟨lists_1, trivial, launch0.admits_env _ _ _, launch0.least_env, fairChoices_fair.cas, fairChoices_fair.clock, w_frames, w_args, w_heap, w_applies, trivial, trivial, w_case⟩
end start1
theorem witness_1 : WitnessClaimed_1 := ⟨start1.p0, start1.e0, start1.about1, start1.theMethod, start1.args0, start1.below0, start1.atStart⟩
end Jvm.Pilot.@@N@@
