import JvmDerived
import JvmDerived.Pilot.@@N@@Statement
import JvmDerived.Pilot.@@N@@Code
set_option linter.unusedVariables false
set_option linter.unusedSimpArgs false
namespace Jvm.RoadKit
open Sem ClassFile Op Lib Jvm.Stand Jvm.Free Jvm.LawKit
section New
variable {p : Program} {l : Launch} {e : Env} {R : Room} {s : State} {m : MethodId} {args : Array Value} {below : List Frame} {meth : Method} {c : Code} {T : State} {locs : List Loc} {cells slots : Nat}
theorem retI (X : Stand p l e R s m args below meth c T locs cells slots) (hx : p.tables.exec = Jvm.exec) {pc : Nat} {Ls : Array Slot} {z : Int32} {rest : List Value} (hret : meth.sig.returnType = some .int) (hd : decode c.code pc = .ok (.ireturn, 1)) {fs : List Frame}
    (hl : ∀ (f : JFrame) (acts : List Action), f.method = m → f.locked = none → f.entered = [] → (doReturn e (T.setTop f) acts (some (.int z))).1 = T.setFrames fs) : Steps p.tables e below (T.setTop (mkF m pc Ls (.int z :: rest))) (T.setFrames fs) := by
  have hm' : T.vm.method? m = some meth := X.method'
  have hn : narrow .int (.int z) = .int z := rfl
  show Steps p.tables e below (T.setTop { method := m, pc := pc, locals := Ls, stack := _ :: rest, locked := none }) _
  jvm_step X.here [X.here.top, hx, hd, hm', hret, hn]
  first | (intro acts; rw [hl _ acts rfl rfl rfl]) | rw [hl _ _ rfl rfl rfl]
  exact Steps.refl _
end New
end Jvm.RoadKit
namespace Jvm.Pilot.@@N@@
open Jvm Jvm.ClassFile Sem Op Lib Jvm.Free Jvm.Stand Jvm.LawKit Jvm.RoadKit Bundle Jvm.Pilot.@@N@@.Jvm.D
def Gl (p : Program) (e : Env) (below : List Frame) (Q : Outcome → State → Prop) (A : State) : Prop := ∃ t o, Steps p.tables e below A t ∧ t.status = .running ∧ Ended t below o ∧ Q o t
theorem Gl.st {p : Program} {e : Env} {below : List Frame} {Q : Outcome → State → Prop} {A B : State} (k : ∀ t, Steps p.tables e below B t → Steps p.tables e below A t) (h : Gl p e below Q B) : Gl p e below Q A := by
  obtain ⟨t, o, h1, r⟩ := h
  exact ⟨t, o, k t h1, r⟩
theorem Gl.cast {p : Program} {e : Env} {below : List Frame} {Q : Outcome → State → Prop} {A B : State} (k : A = B) (h : Gl p e below Q B) : Gl p e below Q A := k ▸ h
theorem Gl.join {p : Program} {e : Env} {below : List Frame} {Q : Outcome → State → Prop} {A B : State} (k : Gl p e below Q A → Gl p e below Q B) (h : Gl p e below Q A) : Gl p e below Q B := k h
theorem Gl.fin {p : Program} {e : Env} {below : List Frame} {Q : Outcome → State → Prop} {A t : State} {o : Outcome} (h1 : Steps p.tables e below A t) (h2 : t.status = .running) (h3 : Ended t below o) (h4 : Q o t) : Gl p e below Q A := ⟨t, o, h1, h2, h3, h4⟩
theorem tw {a0 : Array Value} {Z : State} (hw : ∀ d ∈ tables_1, d.before a0 Z = true) (i : Nat) {d : Jvm.Cond} (h : tables_1[i]? = some d) : d.before a0 Z = true := hw _ (List.mem_of_getElem? h)
theorem ldAt {L M : Array Slot} (h : L = M) {k : Nat} {v : Slot} (q : M[k]? = some v) : L[k]? = some v := h ▸ q
theorem stAt {L M L' M' : Array Slot} {k : Nat} {v w : Value} (h : L = M) (h' : L' = M') (e : w = v) (q : storeLocals M k v = some M') : storeLocals L k w = some L' := by subst h h' e; exact q
theorem stAt' {L M L' M' : Array Slot} {k : Nat} {v w : Value} (h : L = M) (h' : L' = M') (e : w = v) (q : storeLocals M k v = some M') : storeLocals L k w = some L' := by subst h h' e; exact q
theorem szAt {L M : Array Slot} {k n : Nat} (h : k = n) (h' : L = M) (q : M.size = n) : L.size = k := by subst h h'; exact q
theorem efAt {m : MethodId} {L M : Array Slot} {f : JFrame} (h : L = M) (q : f = mkF m 0 M []) : f = mkF m 0 L [] := h ▸ q
theorem own_nb {c : Prop} [Decidable c] {a b : Int32} (ha : nar .boolean a = a) (hb : nar .boolean b = b) : nar .boolean (if c then a else b) = if c then a else b := by split <;> assumption
theorem own_arr_keep {Z : State} {h h' : Heap} {a : Addr} {c : Cell} {ty : FieldType} {ws : List Addr} (F : Arr Z h a c ty) (K : Keep h h' ws) (q : a ∉ ws) : Arr Z h' a c ty := ⟨K.2.1 a c F.1 q, F.2⟩
theorem own_eqL {args : Array Value} {s : State} {t : Term} {z : Int64} (h : (Jvm.Cond.eq t (.long z)).value args s none s [] = some true) : t.eval args s none [] s = some (.long z) := by
  obtain ⟨x, y, ha, hb, k1, k2⟩ := cmp_v (Or.inl h)
  obtain rfl : y = .long z := Option.some.inj (hb.symm.trans (long_at z))
  obtain ⟨w, rfl⟩ : ∃ w, x = .long w := k2
  rw [ha, gotT (eq_L ha hb) h]
theorem own_eqI {args : Array Value} {s : State} {t : Term} {z : Int32} (h : (Jvm.Cond.eq t (.int z)).value args s none s [] = some true) : t.eval args s none [] s = some (.int z) := by
  obtain ⟨x, y, ha, hb, k1, k2⟩ := cmp_v (Or.inl h)
  obtain rfl : y = .int z := Option.some.inj (hb.symm.trans (Term.int_eval z))
  obtain ⟨w, rfl⟩ : ∃ w, x = .int w := k2
  rw [ha, gotT (Cond.eq_ints ha hb) h]
theorem own_sta_keep {Z : State} {h h' : Heap} {C n d : String} {v : Value} {ws : List Addr} (F : Sta Z h C n d v) (K : Keep h h' ws) (q : ∀ x ∈ ws, ∀ cell : Cell, h[x]? = some cell → cell.vm.isStatics = false) : Sta Z h' C n d v := by
  obtain ⟨cf, i, k, f, a, cell, h1, h2, h3, h4, h5, h6, r⟩ := F
  exact ⟨cf, i, k, f, a, cell, h1, h2, h3, h4, K.2.1 a cell h5 (fun y => by have := q a y cell h5; rw [h6] at this; cases this), h6, r⟩
theorem own_exa_plain {Z : State} {h : Heap} {a : Addr} {C : String} (F : Exa Z h a C) : ∀ cell : Cell, h[a]? = some cell → cell.vm.isStatics = false := fun cell hc => by
  obtain ⟨c', k, h1, -, -, h4, -⟩ := F
  rw [h1] at hc; cases hc; exact h4
theorem own_arv_plain {Z : State} {h : Heap} {a : Addr} {k : ClassId} {ty : FieldType} {z : Int32} {vs : List Value} {dv : Value} (F : Arv Z h a k ty z vs dv) : ∀ cell : Cell, h[a]? = some cell → cell.vm.isStatics = false := fun cell hc => by
  obtain ⟨c', A, -⟩ := F
  have := A.1; rw [this] at hc; cases hc; exact A.plain
theorem own_strAtoms {Z : State} {a0 : Array Value} (hw : ∀ d ∈ tables_1, d.before a0 Z = true) : ∀ a ∈ Bundle.stringAtoms, a.before a0 Z = true := by
  intro d hd
  simp only [Bundle.stringAtoms, List.mem_cons, List.not_mem_nil, or_false] at hd
  rcases hd with rfl | rfl | rfl | rfl | rfl | rfl | rfl
  · exact tw hw 20 rfl
  · exact tw hw 21 rfl
  · exact tw hw 0 rfl
  · exact tw hw 22 rfl
  · exact tw hw 23 rfl
  · exact tw hw 24 rfl
  · exact tw hw 25 rfl
theorem d2_0 : decode jdk_30_method_1_code 0 = .ok (.aload_n 0, 1) := by decide +kernel
theorem d2_1 : decode jdk_30_method_1_code 1 = .ok (.invokespecial 1, 3) := by decide +kernel
theorem d2_4 : decode jdk_30_method_1_code 4 = .ok (.return_, 1) := by decide +kernel
theorem pn_2 : plainName "java/lang/Record" = true := by first | (simp [plainName, overriddenIn]; done) | decide +kernel
theorem ef_2 (m : MethodId) (a1 : Addr) : entryFrame m #[(.ref a1)] 1 = mkF m 0 #[.val (.ref a1)] [] := by first | (simp [entryFrame, mkF, argsToLocals, Value.category]; done) | rfl
def Q2 (Z : State) (a1 : Addr) (h0 : Heap) (n0 : Nat) (v : Option Value) (h : Heap) (L : List Loc) : Prop := v = none ∧ Fr n0 L ∧ h = h0
set_option maxRecDepth 65536 in
set_option maxHeartbeats 40000000 in
theorem rm2 (l : Launch) (Z : State) (a0 : Array Value) (hw : ∀ d ∈ tables_1, d.before a0 Z = true) (ws : List Jvm.Cond) (a1 : Addr) (h0 : Heap) (n0 : Nat) (Z0 : n0 ≤ h0.size) :
    MetFree l (⟨"java/lang/Record", "<init>", "()V"⟩ : MethodName) (head1 (Jvm.Cond.code (⟨"java/lang/Record", "<init>", "()V"⟩ : MethodName) jdk_30_method_1_code 1 none :: ws) ({ frames := 1, cells := 0, slots := 0, locals := 12 } : Room)) (fun a U => a = #[(.ref a1)] ∧ Z.Warmed39 U.vm ∧ U.heap = h0) (fun _ _ _ _ _ => True) (fun _ U o U' => ∃ v L, o = .returned v ∧ Q2 Z a1 h0 n0 v U'.heap L ∧ FrameEnd U o U' L ({ frames := 1, cells := 0, slots := 0, locals := 12 } : Room).cells ({ frames := 1, cells := 0, slots := 0, locals := 12 } : Room).slots) := by
  refine MetFree.of_bodySF (plainFor_of_name pn_2) hisR ?_
  intro p e s m args below meth c s₁ Bd hml0 hP hK
  obtain ⟨rfl, hZ, hh⟩ := hP
  have hx := Bd.exec
  have hby := Bd.bytes
  have hml : c.maxLocals = 1 := hml0
  have hown : s.vm.findClass "java/lang/Record" = some m.cls := findClass_of_methodNamed Bd.named
  have hnm := (name_of_methodNamed Bd.named Bd.method).1
  have X0 : Stand p l e ({ frames := 1, cells := 0, slots := 0, locals := 12 } : Room) s m #[(.ref a1)] below meth c s₁ [] 0 0 := Stand.of_body Bd
  have e0 : s₁.heap = h0 := by rw [← hh, Bd.state]; rfl
  have N0 := Fr.nil n0
  have K0 : Keep h0 h0 [] := Keep.refl h0 _
  refine (show Gl p e below (fun o U' => ∃ v L, o = .returned v ∧ Q2 Z a1 h0 n0 v U'.heap L ∧ FrameEnd s o U' L ({ frames := 1, cells := 0, slots := 0, locals := 12 } : Room).cells ({ frames := 1, cells := 0, slots := 0, locals := 12 } : Room).slots) (s₁.setTop (entryFrame m #[(.ref a1)] 1)) from ?_)
  obtain ⟨L0, hL0⟩ : ∃ z : Array Slot, z = #[.val (.ref a1)] := ⟨_, rfl⟩
  refine Gl.st (B := (s₁.setTop (mkF m 0 L0 []))) (fun t k => castTop (efAt hL0 (ef_2 m a1)) k) ?_
  refine Gl.st (B := (s₁.setTop (mkF m 1 L0 [(.ref a1)]))) (fun t k => XS.aloadN X0.here hx rfl (hb hby d2_0) (ldAt hL0 rfl) rfl k) ?_
  obtain ⟨T1, X1, e1, st1⟩ := initO X0 hx hZ hown (tw hw 12 rfl) (tw hw 13 rfl) (tw hw 14 rfl) e0 (g := (mkF m 1 L0 [(.ref a1)])) rfl (szAt hml hL0 rfl) rfl (hb hby d2_1) (by decide) (W := 0) (by show 2 * 0 + _ ≤ _; exact Nat.le_of_eq rfl) (by decide)
  refine Gl.st (B := (T1.setTop (mkF m 4 L0 []))) st1 ?_
  obtain ⟨fs, hr, hrun, hended, hW, hsame⟩ := X1.leave (v := none) (fun _ => rfl)
  refine Gl.fin (X1.returnOut hx Bd.returns (hb hby d2_4) hr) hrun hended ⟨_, _, rfl, ?_, ⟨_, rfl⟩, hW, hsame.mono (by decide) (by decide)⟩
  show Q2 Z a1 h0 n0 _ T1.heap _
  rw [e1]
  exact ⟨rfl, N0, rfl⟩
theorem d6_0 : decode jdk_31_method_11_code 0 = .ok (.aload_n 0, 1) := by decide +kernel
theorem d6_1 : decode jdk_31_method_11_code 1 = .ok (.ifnonnull 12, 3) := by decide +kernel
theorem d6_13 : decode jdk_31_method_11_code 13 = .ok (.aload_n 0, 1) := by decide +kernel
theorem d6_14 : decode jdk_31_method_11_code 14 = .ok (.areturn, 1) := by decide +kernel
theorem pn_6 : plainName "java/util/Objects" = true := by first | (simp [plainName, overriddenIn]; done) | decide +kernel
theorem ef_6 (m : MethodId) (a1 : Addr) (a2 : Addr) : entryFrame m #[(.ref a1), (.ref a2)] 2 = mkF m 0 #[.val (.ref a1), .val (.ref a2)] [] := by first | (simp [entryFrame, mkF, argsToLocals, Value.category]; done) | rfl
def Q6 (Z : State) (a1 : Addr) (a2 : Addr) (h0 : Heap) (n0 : Nat) (v : Option Value) (h : Heap) (L : List Loc) : Prop := v = some (.ref a1) ∧ Fr n0 L ∧ h = h0
set_option maxRecDepth 65536 in
set_option maxHeartbeats 40000000 in
theorem rm6 (l : Launch) (Z : State) (a0 : Array Value) (hw : ∀ d ∈ tables_1, d.before a0 Z = true) (ws : List Jvm.Cond) (a1 : Addr) (a2 : Addr) (h0 : Heap) (n0 : Nat) (Z0 : n0 ≤ h0.size) :
    MetFree l (⟨"java/util/Objects", "requireNonNull", "(Ljava/lang/Object;Ljava/lang/String;)Ljava/lang/Object;"⟩ : MethodName) (head1 (Jvm.Cond.code (⟨"java/util/Objects", "requireNonNull", "(Ljava/lang/Object;Ljava/lang/String;)Ljava/lang/Object;"⟩ : MethodName) jdk_31_method_11_code 2 (some (.object "java/lang/Object")) :: ws) ({ frames := 0, cells := 0, slots := 0, locals := 0 } : Room)) (fun a U => a = #[(.ref a1), (.ref a2)] ∧ Z.Warmed39 U.vm ∧ U.heap = h0) (fun _ _ _ _ _ => True) (fun _ U o U' => ∃ v L, o = .returned v ∧ Q6 Z a1 a2 h0 n0 v U'.heap L ∧ FrameEnd U o U' L ({ frames := 0, cells := 0, slots := 0, locals := 0 } : Room).cells ({ frames := 0, cells := 0, slots := 0, locals := 0 } : Room).slots) := by
  refine MetFree.of_bodySF (plainFor_of_name pn_6) hisR ?_
  intro p e s m args below meth c s₁ Bd hml0 hP hK
  obtain ⟨rfl, hZ, hh⟩ := hP
  have hx := Bd.exec
  have hby := Bd.bytes
  have hml : c.maxLocals = 2 := hml0
  have hown : s.vm.findClass "java/util/Objects" = some m.cls := findClass_of_methodNamed Bd.named
  have hnm := (name_of_methodNamed Bd.named Bd.method).1
  have X0 : Stand p l e ({ frames := 0, cells := 0, slots := 0, locals := 0 } : Room) s m #[(.ref a1), (.ref a2)] below meth c s₁ [] 0 0 := Stand.of_body Bd
  have e0 : s₁.heap = h0 := by rw [← hh, Bd.state]; rfl
  have N0 := Fr.nil n0
  have K0 : Keep h0 h0 [] := Keep.refl h0 _
  refine (show Gl p e below (fun o U' => ∃ v L, o = .returned v ∧ Q6 Z a1 a2 h0 n0 v U'.heap L ∧ FrameEnd s o U' L ({ frames := 0, cells := 0, slots := 0, locals := 0 } : Room).cells ({ frames := 0, cells := 0, slots := 0, locals := 0 } : Room).slots) (s₁.setTop (entryFrame m #[(.ref a1), (.ref a2)] 2)) from ?_)
  obtain ⟨L0, hL0⟩ : ∃ z : Array Slot, z = #[.val (.ref a1), .val (.ref a2)] := ⟨_, rfl⟩
  refine Gl.st (B := (s₁.setTop (mkF m 0 L0 []))) (fun t k => castTop (efAt hL0 (ef_6 m a1 a2)) k) ?_
  refine Gl.st (B := (s₁.setTop (mkF m 1 L0 [(.ref a1)]))) (fun t k => XS.aloadN X0.here hx rfl (hb hby d6_0) (ldAt hL0 rfl) rfl k) ?_
  refine Gl.st (B := (s₁.setTop (mkF m 13 L0 []))) (fun t k => XS.ifnonnullYes X0.here hx rfl (pc0 := 1) (pc' := 13) rfl (hb hby d6_1) rfl (by decide) (by decide) k) ?_
  refine Gl.st (B := (s₁.setTop (mkF m 14 L0 [(.ref a1)]))) (fun t k => XS.aloadN X0.here hx rfl (hb hby d6_13) (ldAt hL0 rfl) rfl k) ?_
  obtain ⟨fs, hr, hrun, hended, hW, hsame⟩ := X0.leave (v := some (.ref a1)) (fun h => by rw [Bd.returns] at h; cases h)
  refine Gl.fin (X0.areturnOut hx rfl Bd.returns rfl (hb hby d6_14) hr) hrun hended ⟨_, _, rfl, ?_, ⟨_, rfl⟩, hW, hsame.mono (by decide) (by decide)⟩
  show Q6 Z a1 a2 h0 n0 _ s₁.heap _
  rw [e0]
  exact ⟨rfl, N0, rfl⟩
theorem d5_0 : decode prog_75_method_2_code 0 = .ok (.aload_n 1, 1) := by decide +kernel
theorem d5_1 : decode prog_75_method_2_code 1 = .ok (.aload_n 0, 1) := by decide +kernel
theorem d5_2 : decode prog_75_method_2_code 2 = .ok (.invokestatic 7, 3) := by decide +kernel
theorem d5_5 : decode prog_75_method_2_code 5 = .ok (.pop, 1) := by decide +kernel
theorem d5_6 : decode prog_75_method_2_code 6 = .ok (.aload_n 1, 1) := by decide +kernel
theorem d5_7 : decode prog_75_method_2_code 7 = .ok (.arraylength, 1) := by decide +kernel
theorem d5_8 : decode prog_75_method_2_code 8 = .ok (.iload_n 2, 1) := by decide +kernel
theorem d5_9 : decode prog_75_method_2_code 9 = .ok (.if_icmp .le 20, 3) := by decide +kernel
theorem d5_29 : decode prog_75_method_2_code 29 = .ok (.aload_n 1, 1) := by decide +kernel
theorem d5_30 : decode prog_75_method_2_code 30 = .ok (.areturn, 1) := by decide +kernel
theorem pn_5 : plainName "com/example/tidemark/tidemark/core/Sizes" = true := by first | (simp [plainName, overriddenIn]; done) | decide +kernel
theorem pd_5_0 : parseMethodDescriptor "(Ljava/lang/Object;Ljava/lang/String;)Ljava/lang/Object;" = some ⟨[(.object "java/lang/Object"), (.object "java/lang/String")], some (.object "java/lang/Object")⟩ := by decide +kernel
theorem ef_5 (m : MethodId) (a1 : Addr) (a2 : Addr) (p3 : Int32) : entryFrame m #[(.ref a1), (.ref a2), (.int p3)] 3 = mkF m 0 #[.val (.ref a1), .val (.ref a2), .val (.int p3)] [] := by first | (simp [entryFrame, mkF, argsToLocals, Value.category]; done) | rfl
def Q5 (Z : State) (a1 : Addr) (a2 : Addr) (p3 : Int32) (cl_a2 : Cell) (nl : Int32) (h0 : Heap) (n0 : Nat) (v : Option Value) (h : Heap) (L : List Loc) : Prop := v = some (.ref a2) ∧ Fr n0 L ∧ h = h0
set_option maxRecDepth 65536 in
set_option maxHeartbeats 40000000 in
theorem rm5 (l : Launch) (Z : State) (a0 : Array Value) (hw : ∀ d ∈ tables_1, d.before a0 Z = true) (ws : List Jvm.Cond) (a1 : Addr) (a2 : Addr) (p3 : Int32) (cl_a2 : Cell) (nl : Int32) (h0 : Heap) (n0 : Nat) (Z0 : n0 ≤ h0.size) (Ar_a2 : Arr Z h0 a2 cl_a2 .byte) (S_a2 : cl_a2.slots.size = (nl).toNatClampNeg) (P_a2 : ¬ nl < 0) (hq9 : ¬ (p3 < nl)) :
    MetFree l (⟨"com/example/tidemark/tidemark/core/Sizes", "checkAtMost", "(Ljava/lang/String;[BI)[B"⟩ : MethodName) (head1 (Jvm.Cond.code (⟨"com/example/tidemark/tidemark/core/Sizes", "checkAtMost", "(Ljava/lang/String;[BI)[B"⟩ : MethodName) prog_75_method_2_code 3 (some (.array .byte)) :: ws) ({ frames := 1, cells := 0, slots := 0, locals := 13 } : Room)) (fun a U => a = #[(.ref a1), (.ref a2), (.int p3)] ∧ Z.Warmed39 U.vm ∧ U.heap = h0) (fun _ _ _ _ _ => True) (fun _ U o U' => ∃ v L, o = .returned v ∧ Q5 Z a1 a2 p3 cl_a2 nl h0 n0 v U'.heap L ∧ FrameEnd U o U' L ({ frames := 1, cells := 0, slots := 0, locals := 13 } : Room).cells ({ frames := 1, cells := 0, slots := 0, locals := 13 } : Room).slots) := by
  refine MetFree.of_bodySF (plainFor_of_name pn_5) hisR ?_
  intro p e s m args below meth c s₁ Bd hml0 hP hK
  obtain ⟨rfl, hZ, hh⟩ := hP
  have hx := Bd.exec
  have hby := Bd.bytes
  have hml : c.maxLocals = 3 := hml0
  have hown : s.vm.findClass "com/example/tidemark/tidemark/core/Sizes" = some m.cls := findClass_of_methodNamed Bd.named
  have hnm := (name_of_methodNamed Bd.named Bd.method).1
  have X0 : Stand p l e ({ frames := 1, cells := 0, slots := 0, locals := 13 } : Room) s m #[(.ref a1), (.ref a2), (.int p3)] below meth c s₁ [] 0 0 := Stand.of_body Bd
  have e0 : s₁.heap = h0 := by rw [← hh, Bd.state]; rfl
  have N0 := Fr.nil n0
  have K0 : Keep h0 h0 [] := Keep.refl h0 _
  refine (show Gl p e below (fun o U' => ∃ v L, o = .returned v ∧ Q5 Z a1 a2 p3 cl_a2 nl h0 n0 v U'.heap L ∧ FrameEnd s o U' L ({ frames := 1, cells := 0, slots := 0, locals := 13 } : Room).cells ({ frames := 1, cells := 0, slots := 0, locals := 13 } : Room).slots) (s₁.setTop (entryFrame m #[(.ref a1), (.ref a2), (.int p3)] 3)) from ?_)
  obtain ⟨L0, hL0⟩ : ∃ z : Array Slot, z = #[.val (.ref a1), .val (.ref a2), .val (.int p3)] := ⟨_, rfl⟩
  refine Gl.st (B := (s₁.setTop (mkF m 0 L0 []))) (fun t k => castTop (efAt hL0 (ef_5 m a1 a2 p3)) k) ?_
  refine Gl.st (B := (s₁.setTop (mkF m 1 L0 [(.ref a2)]))) (fun t k => XS.aloadN X0.here hx rfl (hb hby d5_0) (ldAt hL0 rfl) rfl k) ?_
  refine Gl.st (B := (s₁.setTop (mkF m 2 L0 [(.ref a1), (.ref a2)]))) (fun t k => XS.aloadN X0.here hx rfl (hb hby d5_1) (ldAt hL0 rfl) rfl k) ?_
  obtain ⟨_, _, ⟨T1, L1q, k1, n1⟩, -, X1, ⟨Lc1, hQ1, l1, y1, z1⟩, st1⟩ := Jvm.LawKit.callS X0 hx (y := (⟨"java/util/Objects", "requireNonNull", "(Ljava/lang/Object;Ljava/lang/String;)Ljava/lang/Object;"⟩ : MethodName)) hown (mvT hZ (tw hw 30 rfl)) (mvT hZ (tw hw 31 rfl)) (mvT hZ (tw hw 32 rfl)) (mvT hZ (tw hw 33 rfl)) (by decide) (backOf (W := 0) (rm6 l Z a0 hw [] a2 a1 h0 n0 Z0) hZ (tw hw 33 rfl) (tw hw 32 rfl) (by decide) (by decide)) (g := (mkF m 2 L0 [(.ref a1), (.ref a2)])) rfl (szAt hml hL0 rfl) (argsL := [(.ref a2), (.ref a1)]) (rest := []) (lenOf pd_5_0 rfl) rfl (by show 2 * 0 + _ ≤ _; exact Nat.le_of_eq rfl) (hb hby d5_2) (fun _ _ => ⟨rfl, e0, (by decide : 0 + 0 ≤ _), (by decide : 0 + 0 ≤ _)⟩)
  dsimp only [Pt.U, Pt.locs, Pt.cells, Pt.slots] at X1 l1 y1 z1 st1 hQ1
  subst l1 y1 z1
  obtain ⟨rfl, N1q, eh1⟩ := hQ1
  have N1 := Fr.app N0 N1q
  refine Gl.st (B := (T1.setTop (mkF m 5 L0 [(.ref a2)]))) (fun t k => st1 t k) ?_
  refine Gl.st (B := (T1.setTop (mkF m 6 L0 []))) (fun t k => XS.pop X1.here hx rfl (hb hby d5_5) rfl rfl k) ?_
  refine Gl.st (B := (T1.setTop (mkF m 7 L0 [(.ref a2)]))) (fun t k => XS.aloadN X1.here hx rfl (hb hby d5_6) (ldAt hL0 rfl) rfl k) ?_
  refine Gl.st (B := (T1.setTop (mkF m 8 L0 [(.int cl_a2.slots.size.toInt32)]))) (fun t k => X1.arraylength hx (by rw [eh1]; exact Ar_a2.1) (State.isArrayOf_alike hZ.alike Ar_a2.2.1) (g := (mkF m 7 L0 [(.ref a2)])) rfl rfl (hb hby d5_7) _ k) ?_
  refine Gl.cast (B := (T1.setTop (mkF m 8 L0 [(.int nl)]))) (by rw [len_of S_a2 P_a2]) ?_
  refine Gl.st (B := (T1.setTop (mkF m 9 L0 [(.int p3), (.int nl)]))) (fun t k => XS.iloadN X1.here hx rfl (hb hby d5_8) (ldAt hL0 rfl) k) ?_
  refine Gl.st (B := (T1.setTop (mkF m 29 L0 []))) (fun t k => XS.icmpYes X1.here hx rfl (pc0 := 9) (pc' := 29) rfl (hb hby d5_9) rfl (flt hq9).2.2.2 (by decide) (by decide) k) ?_
  refine Gl.st (B := (T1.setTop (mkF m 30 L0 [(.ref a2)]))) (fun t k => XS.aloadN X1.here hx rfl (hb hby d5_29) (ldAt hL0 rfl) rfl k) ?_
  obtain ⟨fs, hr, hrun, hended, hW, hsame⟩ := X1.leave (v := some (.ref a2)) (fun h => by rw [Bd.returns] at h; cases h)
  refine Gl.fin (X1.areturnOut hx rfl Bd.returns rfl (hb hby d5_30) hr) hrun hended ⟨_, _, rfl, ?_, ⟨_, rfl⟩, hW, hsame.mono (by decide) (by decide)⟩
  show Q5 Z a1 a2 p3 cl_a2 nl h0 n0 _ T1.heap _
  rw [eh1]
  exact ⟨rfl, N1, rfl⟩
theorem d4_0 : decode prog_62_method_2_code 0 = .ok (.ldc 7, 2) := by decide +kernel
theorem d4_2 : decode prog_62_method_2_code 2 = .ok (.aload_n 0, 1) := by decide +kernel
theorem d4_3 : decode prog_62_method_2_code 3 = .ok (.sipush 4096, 3) := by decide +kernel
theorem d4_6 : decode prog_62_method_2_code 6 = .ok (.invokestatic 11, 3) := by decide +kernel
theorem d4_9 : decode prog_62_method_2_code 9 = .ok (.pop, 1) := by decide +kernel
theorem d4_10 : decode prog_62_method_2_code 10 = .ok (.aload_n 0, 1) := by decide +kernel
theorem d4_11 : decode prog_62_method_2_code 11 = .ok (.arraylength, 1) := by decide +kernel
theorem d4_12 : decode prog_62_method_2_code 12 = .ok (.ifCond .ne 13, 3) := by decide +kernel
theorem d4_25 : decode prog_62_method_2_code 25 = .ok (.aload_n 0, 1) := by decide +kernel
theorem d4_26 : decode prog_62_method_2_code 26 = .ok (.areturn, 1) := by decide +kernel
theorem pn_4 : plainName "com/example/tidemark/tidemark/core/Keys" = true := by first | (simp [plainName, overriddenIn]; done) | decide +kernel
theorem pd_4_0 : parseMethodDescriptor "(Ljava/lang/String;[BI)[B" = some ⟨[(.object "java/lang/String"), (.array .byte), .int], some (.array .byte)⟩ := by decide +kernel
theorem ef_4 (m : MethodId) (a1 : Addr) : entryFrame m #[(.ref a1)] 1 = mkF m 0 #[.val (.ref a1)] [] := by first | (simp [entryFrame, mkF, argsToLocals, Value.category]; done) | rfl
def Q4 (Z : State) (a1 : Addr) (cl_a1 : Cell) (nl : Int32) (h0 : Heap) (n0 : Nat) (v : Option Value) (h : Heap) (L : List Loc) : Prop := v = some (.ref a1) ∧ Fr n0 L ∧ Keep h0 h []
set_option maxRecDepth 65536 in
set_option maxHeartbeats 40000000 in
theorem rm4 (l : Launch) (Z : State) (a0 : Array Value) (hw : ∀ d ∈ tables_1, d.before a0 Z = true) (ws : List Jvm.Cond) (a1 : Addr) (cl_a1 : Cell) (nl : Int32) (h0 : Heap) (n0 : Nat) (Z0 : n0 ≤ h0.size) (Ar_a1 : Arr Z h0 a1 cl_a1 .byte) (S_a1 : cl_a1.slots.size = (nl).toNatClampNeg) (P_a1 : ¬ nl < 0) (hr6_hq9 : ¬ ((4096 : Int32) < nl)) (hq12 : ¬ (nl = (0 : Int32))) :
    MetFree l (⟨"com/example/tidemark/tidemark/core/Keys", "check", "([B)[B"⟩ : MethodName) (head1 (Jvm.Cond.code (⟨"com/example/tidemark/tidemark/core/Keys", "check", "([B)[B"⟩ : MethodName) prog_62_method_2_code 1 (some (.array .byte)) :: ws) ({ frames := 2, cells := 2, slots := 16, locals := 27 } : Room)) (fun a U => a = #[(.ref a1)] ∧ Z.Warmed39 U.vm ∧ U.heap = h0) (fun _ _ _ _ _ => True) (fun _ U o U' => ∃ v L, o = .returned v ∧ Q4 Z a1 cl_a1 nl h0 n0 v U'.heap L ∧ ReturnedEndW U o U' L ({ frames := 2, cells := 2, slots := 16, locals := 27 } : Room).cells ({ frames := 2, cells := 2, slots := 16, locals := 27 } : Room).slots) := by
  refine MetFree.of_bodySF (plainFor_of_name pn_4) hisR ?_
  intro p e s m args below meth c s₁ Bd hml0 hP hK
  obtain ⟨rfl, hZ, hh⟩ := hP
  have hx := Bd.exec
  have hby := Bd.bytes
  have hml : c.maxLocals = 1 := hml0
  have hown : s.vm.findClass "com/example/tidemark/tidemark/core/Keys" = some m.cls := findClass_of_methodNamed Bd.named
  have hnm := (name_of_methodNamed Bd.named Bd.method).1
  have X0 : Stand p l e ({ frames := 2, cells := 2, slots := 16, locals := 27 } : Room) (s.setVm s.vm) m #[(.ref a1)] below meth c s₁ [] 0 0 := Stand.of_body Bd
  have e0 : s₁.heap = h0 := by rw [← hh, Bd.state]; rfl
  have N0 := Fr.nil n0
  have hZ : Z.Warmed39 (s.setVm s.vm).vm := hZ
  have hown : (s.setVm s.vm).vm.findClass "com/example/tidemark/tidemark/core/Keys" = some m.cls := hown
  have hS0 : s.Since s.vm 0 := (State.WarmedH.refl s).since 0
  have K0 : Keep h0 h0 [] := Keep.refl h0 _
  refine (show Gl p e below (fun o U' => ∃ v L, o = .returned v ∧ Q4 Z a1 cl_a1 nl h0 n0 v U'.heap L ∧ ReturnedEndW s o U' L ({ frames := 2, cells := 2, slots := 16, locals := 27 } : Room).cells ({ frames := 2, cells := 2, slots := 16, locals := 27 } : Room).slots) (s₁.setTop (entryFrame m #[(.ref a1)] 1)) from ?_)
  obtain ⟨L0, hL0⟩ : ∃ z : Array Slot, z = #[.val (.ref a1)] := ⟨_, rfl⟩
  refine Gl.st (B := (s₁.setTop (mkF m 0 L0 []))) (fun t k => castTop (efAt hL0 (ef_4 m a1)) k) ?_
  obtain ⟨b1, T1, h1, k1, X1, e1, E1, hS1, hk1, hZ, hown, st1⟩ := ldcS X0 hx hZ hown (tw hw 19 rfl) (own_strAtoms hw) e0 hS0 (Nat.zero_le _) (g := (mkF m 0 L0 [])) rfl (hb hby d4_0) (n := 12) (by decide) (by decide) (by decide) (by decide)
  have Zc2 : n0 ≤ h1.size := Nat.le_trans Z0 E1.1
  have K3 : Keep h0 h1 [] := K0.ext E1
  refine Gl.st (B := (T1.setTop (mkF m 2 L0 [(.ref b1)]))) st1 ?_
  refine Gl.st (B := (T1.setTop (mkF m 3 L0 [(.ref a1), (.ref b1)]))) (fun t k => XS.aloadN X1.here hx rfl (hb hby d4_2) (ldAt hL0 rfl) rfl k) ?_
  refine Gl.st (B := (T1.setTop (mkF m 6 L0 [(.int (4096 : Int32)), (.ref a1), (.ref b1)]))) (fun t k => XS.sipush X1.here hx rfl (hb hby d4_3) k) ?_
  have c5 := (Ar_a1.ext E1)
  obtain ⟨_, _, ⟨T4, L4q, k4, n4⟩, -, X4, ⟨Lc4, hQ4, l4, y4, z4⟩, st4⟩ := Jvm.LawKit.callS X1 hx (y := (⟨"com/example/tidemark/tidemark/core/Sizes", "checkAtMost", "(Ljava/lang/String;[BI)[B"⟩ : MethodName)) hown (mvT hZ (tw hw 26 rfl)) (mvT hZ (tw hw 27 rfl)) (mvT hZ (tw hw 28 rfl)) (mvT hZ (tw hw 29 rfl)) (by decide) (backOf (W := 0) (rm5 l Z a0 hw [] b1 a1 (4096 : Int32) cl_a1 nl h1 n0 Zc2 c5 S_a1 P_a1 hr6_hq9) hZ (tw hw 29 rfl) (tw hw 28 rfl) (by decide) (by decide)) (g := (mkF m 6 L0 [(.int (4096 : Int32)), (.ref a1), (.ref b1)])) rfl (szAt hml hL0 rfl) (argsL := [(.ref b1), (.ref a1), (.int (4096 : Int32))]) (rest := []) (lenOf pd_4_0 rfl) rfl (by show 2 * 0 + _ ≤ _; exact Nat.le_of_eq rfl) (hb hby d4_6) (fun _ _ => ⟨rfl, e1, (by decide : 2 + 0 ≤ _), (by decide : 16 + 0 ≤ _)⟩)
  dsimp only [Pt.U, Pt.locs, Pt.cells, Pt.slots] at X4 l4 y4 z4 st4 hQ4
  subst l4 y4 z4
  obtain ⟨rfl, N4q, eh4⟩ := hQ4
  have N4 := Fr.app N0 N4q
  refine Gl.st (B := (T4.setTop (mkF m 9 L0 [(.ref a1)]))) (fun t k => st4 t k) ?_
  refine Gl.st (B := (T4.setTop (mkF m 10 L0 []))) (fun t k => XS.pop X4.here hx rfl (hb hby d4_9) rfl rfl k) ?_
  refine Gl.st (B := (T4.setTop (mkF m 11 L0 [(.ref a1)]))) (fun t k => XS.aloadN X4.here hx rfl (hb hby d4_10) (ldAt hL0 rfl) rfl k) ?_
  refine Gl.st (B := (T4.setTop (mkF m 12 L0 [(.int cl_a1.slots.size.toInt32)]))) (fun t k => X4.arraylength hx (by rw [eh4]; exact c5.1) (State.isArrayOf_alike hZ.alike c5.2.1) (g := (mkF m 11 L0 [(.ref a1)])) rfl rfl (hb hby d4_11) _ k) ?_
  refine Gl.cast (B := (T4.setTop (mkF m 12 L0 [(.int nl)]))) (by rw [len_of S_a1 P_a1]) ?_
  refine Gl.st (B := (T4.setTop (mkF m 25 L0 []))) (fun t k => XS.ifYes X4.here hx rfl (pc0 := 12) (pc' := 25) rfl (hb hby d4_12) rfl ((if0 _ _).trans (feq hq12).2) (by decide) (by decide) k) ?_
  refine Gl.st (B := (T4.setTop (mkF m 26 L0 [(.ref a1)]))) (fun t k => XS.aloadN X4.here hx rfl (hb hby d4_25) (ldAt hL0 rfl) rfl k) ?_
  obtain ⟨fs, hr, hrun, hended, hRW⟩ := X4.leaveW hS1 (by rw [eh4]; exact hk1) (v := some (.ref a1)) (fun h => by rw [Bd.returns] at h; cases h)
  refine Gl.fin (X4.areturnOut hx rfl Bd.returns rfl (hb hby d4_26) hr) hrun hended ⟨_, _, rfl, ?_, hRW.1, hRW.2.1, hRW.2.2.1, hRW.2.2.2.mono (by decide) (by decide)⟩
  show Q4 Z a1 cl_a1 nl h0 n0 _ T4.heap _
  rw [eh4]
  exact ⟨rfl, N4, K3⟩
theorem d7_0 : decode prog_76_method_2_code 0 = .ok (.ldc 7, 2) := by decide +kernel
theorem d7_2 : decode prog_76_method_2_code 2 = .ok (.aload_n 0, 1) := by decide +kernel
theorem d7_3 : decode prog_76_method_2_code 3 = .ok (.ldc 11, 2) := by decide +kernel
theorem d7_5 : decode prog_76_method_2_code 5 = .ok (.invokestatic 12, 3) := by decide +kernel
theorem d7_8 : decode prog_76_method_2_code 8 = .ok (.areturn, 1) := by decide +kernel
theorem pn_7 : plainName "com/example/tidemark/tidemark/core/Values" = true := by first | (simp [plainName, overriddenIn]; done) | decide +kernel
theorem pd_7_0 : parseMethodDescriptor "(Ljava/lang/String;[BI)[B" = some ⟨[(.object "java/lang/String"), (.array .byte), .int], some (.array .byte)⟩ := by decide +kernel
theorem ef_7 (m : MethodId) (a1 : Addr) : entryFrame m #[(.ref a1)] 1 = mkF m 0 #[.val (.ref a1)] [] := by first | (simp [entryFrame, mkF, argsToLocals, Value.category]; done) | rfl
def Q7 (Z : State) (a1 : Addr) (cl_a1 : Cell) (nl : Int32) (h0 : Heap) (n0 : Nat) (v : Option Value) (h : Heap) (L : List Loc) : Prop := v = some (.ref a1) ∧ Fr n0 L ∧ Keep h0 h []
set_option maxRecDepth 65536 in
set_option maxHeartbeats 40000000 in
theorem rm7 (l : Launch) (Z : State) (a0 : Array Value) (hw : ∀ d ∈ tables_1, d.before a0 Z = true) (ws : List Jvm.Cond) (a1 : Addr) (cl_a1 : Cell) (nl : Int32) (h0 : Heap) (n0 : Nat) (Z0 : n0 ≤ h0.size) (Ar_a1 : Arr Z h0 a1 cl_a1 .byte) (S_a1 : cl_a1.slots.size = (nl).toNatClampNeg) (P_a1 : ¬ nl < 0) (hr5_hq9 : ¬ ((1048576 : Int32) < nl)) :
    MetFree l (⟨"com/example/tidemark/tidemark/core/Values", "check", "([B)[B"⟩ : MethodName) (head1 (Jvm.Cond.code (⟨"com/example/tidemark/tidemark/core/Values", "check", "([B)[B"⟩ : MethodName) prog_76_method_2_code 1 (some (.array .byte)) :: ws) ({ frames := 2, cells := 2, slots := 24, locals := 27 } : Room)) (fun a U => a = #[(.ref a1)] ∧ Z.Warmed39 U.vm ∧ U.heap = h0) (fun _ _ _ _ _ => True) (fun _ U o U' => ∃ v L, o = .returned v ∧ Q7 Z a1 cl_a1 nl h0 n0 v U'.heap L ∧ ReturnedEndW U o U' L ({ frames := 2, cells := 2, slots := 24, locals := 27 } : Room).cells ({ frames := 2, cells := 2, slots := 24, locals := 27 } : Room).slots) := by
  refine MetFree.of_bodySF (plainFor_of_name pn_7) hisR ?_
  intro p e s m args below meth c s₁ Bd hml0 hP hK
  obtain ⟨rfl, hZ, hh⟩ := hP
  have hx := Bd.exec
  have hby := Bd.bytes
  have hml : c.maxLocals = 1 := hml0
  have hown : s.vm.findClass "com/example/tidemark/tidemark/core/Values" = some m.cls := findClass_of_methodNamed Bd.named
  have hnm := (name_of_methodNamed Bd.named Bd.method).1
  have X0 : Stand p l e ({ frames := 2, cells := 2, slots := 24, locals := 27 } : Room) (s.setVm s.vm) m #[(.ref a1)] below meth c s₁ [] 0 0 := Stand.of_body Bd
  have e0 : s₁.heap = h0 := by rw [← hh, Bd.state]; rfl
  have N0 := Fr.nil n0
  have hZ : Z.Warmed39 (s.setVm s.vm).vm := hZ
  have hown : (s.setVm s.vm).vm.findClass "com/example/tidemark/tidemark/core/Values" = some m.cls := hown
  have hS0 : s.Since s.vm 0 := (State.WarmedH.refl s).since 0
  have K0 : Keep h0 h0 [] := Keep.refl h0 _
  refine (show Gl p e below (fun o U' => ∃ v L, o = .returned v ∧ Q7 Z a1 cl_a1 nl h0 n0 v U'.heap L ∧ ReturnedEndW s o U' L ({ frames := 2, cells := 2, slots := 24, locals := 27 } : Room).cells ({ frames := 2, cells := 2, slots := 24, locals := 27 } : Room).slots) (s₁.setTop (entryFrame m #[(.ref a1)] 1)) from ?_)
  obtain ⟨L0, hL0⟩ : ∃ z : Array Slot, z = #[.val (.ref a1)] := ⟨_, rfl⟩
  refine Gl.st (B := (s₁.setTop (mkF m 0 L0 []))) (fun t k => castTop (efAt hL0 (ef_7 m a1)) k) ?_
  obtain ⟨b1, T1, h1, k1, X1, e1, E1, hS1, hk1, hZ, hown, st1⟩ := ldcS X0 hx hZ hown (tw hw 38 rfl) (own_strAtoms hw) e0 hS0 (Nat.zero_le _) (g := (mkF m 0 L0 [])) rfl (hb hby d7_0) (n := 20) (by decide) (by decide) (by decide) (by decide)
  have Zc2 : n0 ≤ h1.size := Nat.le_trans Z0 E1.1
  have K3 : Keep h0 h1 [] := K0.ext E1
  refine Gl.st (B := (T1.setTop (mkF m 2 L0 [(.ref b1)]))) st1 ?_
  refine Gl.st (B := (T1.setTop (mkF m 3 L0 [(.ref a1), (.ref b1)]))) (fun t k => XS.aloadN X1.here hx rfl (hb hby d7_2) (ldAt hL0 rfl) rfl k) ?_
  refine Gl.st (B := (T1.setTop (mkF m 5 L0 [(.int (1048576 : Int32)), (.ref a1), (.ref b1)]))) (fun t k => X1.ldcInt hx hown (mvT hZ (tw hw 39 rfl)) (g := (mkF m 3 L0 [(.ref a1), (.ref b1)])) rfl (hb hby d7_3) _ k) ?_
  have c5 := (Ar_a1.ext E1)
  obtain ⟨_, _, ⟨T4, L4q, k4, n4⟩, -, X4, ⟨Lc4, hQ4, l4, y4, z4⟩, st4⟩ := Jvm.LawKit.callS X1 hx (y := (⟨"com/example/tidemark/tidemark/core/Sizes", "checkAtMost", "(Ljava/lang/String;[BI)[B"⟩ : MethodName)) hown (mvT hZ (tw hw 40 rfl)) (mvT hZ (tw hw 27 rfl)) (mvT hZ (tw hw 28 rfl)) (mvT hZ (tw hw 29 rfl)) (by decide) (backOf (W := 0) (rm5 l Z a0 hw [] b1 a1 (1048576 : Int32) cl_a1 nl h1 n0 Zc2 c5 S_a1 P_a1 hr5_hq9) hZ (tw hw 29 rfl) (tw hw 28 rfl) (by decide) (by decide)) (g := (mkF m 5 L0 [(.int (1048576 : Int32)), (.ref a1), (.ref b1)])) rfl (szAt hml hL0 rfl) (argsL := [(.ref b1), (.ref a1), (.int (1048576 : Int32))]) (rest := []) (lenOf pd_7_0 rfl) rfl (by show 2 * 0 + _ ≤ _; exact Nat.le_of_eq rfl) (hb hby d7_5) (fun _ _ => ⟨rfl, e1, (by decide : 2 + 0 ≤ _), (by decide : 24 + 0 ≤ _)⟩)
  dsimp only [Pt.U, Pt.locs, Pt.cells, Pt.slots] at X4 l4 y4 z4 st4 hQ4
  subst l4 y4 z4
  obtain ⟨rfl, N4q, eh4⟩ := hQ4
  have N4 := Fr.app N0 N4q
  refine Gl.st (B := (T4.setTop (mkF m 8 L0 [(.ref a1)]))) (fun t k => st4 t k) ?_
  obtain ⟨fs, hr, hrun, hended, hRW⟩ := X4.leaveW hS1 (by rw [eh4]; exact hk1) (v := some (.ref a1)) (fun h => by rw [Bd.returns] at h; cases h)
  refine Gl.fin (X4.areturnOut hx rfl Bd.returns rfl (hb hby d7_8) hr) hrun hended ⟨_, _, rfl, ?_, hRW.1, hRW.2.1, hRW.2.2.1, hRW.2.2.2.mono (by decide) (by decide)⟩
  show Q7 Z a1 cl_a1 nl h0 n0 _ T4.heap _
  rw [eh4]
  exact ⟨rfl, N4, K3⟩
theorem sn0 {Z : State} {a0 : Array Value} (hw : ∀ d ∈ tables_1, d.before a0 Z = true) : Jvm.RoadKit.slotOf Z "com/example/tidemark/tidemark/core/Write" "value" "[B" ≠ Jvm.RoadKit.slotOf Z "com/example/tidemark/tidemark/core/Write" "key" "[B" := slot_ne (Or.inr (tw hw 44 rfl)) (Or.inr (tw hw 42 rfl)) (by decide) (t := (.array .byte)) (t' := (.array .byte)) (by decide) (by decide)
theorem sn1 {Z : State} {a0 : Array Value} (hw : ∀ d ∈ tables_1, d.before a0 Z = true) : Jvm.RoadKit.slotOf Z "com/example/tidemark/tidemark/core/Write" "key" "[B" ≠ Jvm.RoadKit.slotOf Z "com/example/tidemark/tidemark/core/Write" "value" "[B" := slot_ne (Or.inr (tw hw 42 rfl)) (Or.inr (tw hw 44 rfl)) (by decide) (t := (.array .byte)) (t' := (.array .byte)) (by decide) (by decide)
theorem d1_0 : decode prog_78_method_1_code 0 = .ok (.aload_n 0, 1) := by decide +kernel
theorem d1_1 : decode prog_78_method_1_code 1 = .ok (.invokespecial 3, 3) := by decide +kernel
theorem d1_4 : decode prog_78_method_1_code 4 = .ok (.aload_n 1, 1) := by decide +kernel
theorem d1_5 : decode prog_78_method_1_code 5 = .ok (.invokestatic 9, 3) := by decide +kernel
theorem d1_8 : decode prog_78_method_1_code 8 = .ok (.pop, 1) := by decide +kernel
theorem d1_9 : decode prog_78_method_1_code 9 = .ok (.aload_n 2, 1) := by decide +kernel
theorem d1_10 : decode prog_78_method_1_code 10 = .ok (.ifnull 8, 3) := by decide +kernel
theorem d1_13 : decode prog_78_method_1_code 13 = .ok (.aload_n 2, 1) := by decide +kernel
theorem d1_14 : decode prog_78_method_1_code 14 = .ok (.invokestatic 15, 3) := by decide +kernel
theorem d1_17 : decode prog_78_method_1_code 17 = .ok (.pop, 1) := by decide +kernel
theorem d1_18 : decode prog_78_method_1_code 18 = .ok (.aload_n 0, 1) := by decide +kernel
theorem d1_19 : decode prog_78_method_1_code 19 = .ok (.aload_n 1, 1) := by decide +kernel
theorem d1_20 : decode prog_78_method_1_code 20 = .ok (.putfield 18, 3) := by decide +kernel
theorem d1_23 : decode prog_78_method_1_code 23 = .ok (.aload_n 0, 1) := by decide +kernel
theorem d1_24 : decode prog_78_method_1_code 24 = .ok (.aload_n 2, 1) := by decide +kernel
theorem d1_25 : decode prog_78_method_1_code 25 = .ok (.putfield 24, 3) := by decide +kernel
theorem d1_28 : decode prog_78_method_1_code 28 = .ok (.return_, 1) := by decide +kernel
theorem pn_1 : plainName "com/example/tidemark/tidemark/core/Write" = true := by first | (simp [plainName, overriddenIn]; done) | decide +kernel
theorem pd_1_0 : parseMethodDescriptor "()V" = some ⟨[], none⟩ := by decide +kernel
theorem pd_1_1 : parseMethodDescriptor "([B)[B" = some ⟨[(.array .byte)], some (.array .byte)⟩ := by decide +kernel
theorem ef_1 (m : MethodId) (a1 : Addr) (a2 : Addr) (a3 : Addr) : entryFrame m #[(.ref a1), (.ref a2), (.ref a3)] 3 = mkF m 0 #[.val (.ref a1), .val (.ref a2), .val (.ref a3)] [] := by first | (simp [entryFrame, mkF, argsToLocals, Value.category]; done) | rfl
def Q1 (Z : State) (a1 : Addr) (a2 : Addr) (a3 : Addr) (u_key_a1 : Value) (u_value_a1 : Value) (cl_a2 : Cell) (nl : Int32) (cl_a3 : Cell) (nm : Int32) (h0 : Heap) (n0 : Nat) (v : Option Value) (h : Heap) (L : List Loc) : Prop := v = none ∧ Fr n0 L ∧ Keep h0 h [a1] ∧ Exa Z h a1 "com/example/tidemark/tidemark/core/Write" ∧ Fld Z h a1 "com/example/tidemark/tidemark/core/Write" "key" "[B" (.ref a2) ∧ Fld Z h a1 "com/example/tidemark/tidemark/core/Write" "value" "[B" (.ref a3)
set_option maxRecDepth 65536 in
set_option maxHeartbeats 40000000 in
theorem rm1 (l : Launch) (Z : State) (a0 : Array Value) (hw : ∀ d ∈ tables_1, d.before a0 Z = true) (ws : List Jvm.Cond) (a1 : Addr) (a2 : Addr) (a3 : Addr) (u_key_a1 : Value) (u_value_a1 : Value) (cl_a2 : Cell) (nl : Int32) (cl_a3 : Cell) (nm : Int32) (h0 : Heap) (n0 : Nat) (Z0 : n0 ≤ h0.size) (F_key_a1 : Fld Z h0 a1 "com/example/tidemark/tidemark/core/Write" "key" "[B" u_key_a1) (F_value_a1 : Fld Z h0 a1 "com/example/tidemark/tidemark/core/Write" "value" "[B" u_value_a1) (Ar_a2 : Arr Z h0 a2 cl_a2 .byte) (S_a2 : cl_a2.slots.size = (nl).toNatClampNeg) (P_a2 : ¬ nl < 0) (Ar_a3 : Arr Z h0 a3 cl_a3 .byte) (S_a3 : cl_a3.slots.size = (nm).toNatClampNeg) (P_a3 : ¬ nm < 0) (hr5_hr6_hq9 : ¬ ((4096 : Int32) < nl)) (hr5_hq12 : ¬ (nl = (0 : Int32))) (hr14_hr5_hq9 : ¬ ((1048576 : Int32) < nm)) (E_a1 : Exa Z h0 a1 "com/example/tidemark/tidemark/core/Write") (g_a1 : n0 ≤ a1) :
    MetFree l (⟨"com/example/tidemark/tidemark/core/Write", "<init>", "([B[B)V"⟩ : MethodName) (head1 (Jvm.Cond.code (⟨"com/example/tidemark/tidemark/core/Write", "<init>", "([B[B)V"⟩ : MethodName) prog_78_method_1_code 3 none :: ws) ({ frames := 3, cells := 4, slots := 40, locals := 39 } : Room)) (fun a U => a = #[(.ref a1), (.ref a2), (.ref a3)] ∧ Z.Warmed39 U.vm ∧ U.heap = h0) (fun _ _ _ _ _ => True) (fun _ U o U' => ∃ v L, o = .returned v ∧ Q1 Z a1 a2 a3 u_key_a1 u_value_a1 cl_a2 nl cl_a3 nm h0 n0 v U'.heap L ∧ ReturnedEndW U o U' L ({ frames := 3, cells := 4, slots := 40, locals := 39 } : Room).cells ({ frames := 3, cells := 4, slots := 40, locals := 39 } : Room).slots) := by
  refine MetFree.of_bodySF (plainFor_of_name pn_1) hisR ?_
  intro p e s m args below meth c s₁ Bd hml0 hP hK
  obtain ⟨rfl, hZ, hh⟩ := hP
  have hx := Bd.exec
  have hby := Bd.bytes
  have hml : c.maxLocals = 3 := hml0
  have hown : s.vm.findClass "com/example/tidemark/tidemark/core/Write" = some m.cls := findClass_of_methodNamed Bd.named
  have hnm := (name_of_methodNamed Bd.named Bd.method).1
  have X0 : Stand p l e ({ frames := 3, cells := 4, slots := 40, locals := 39 } : Room) (s.setVm s.vm) m #[(.ref a1), (.ref a2), (.ref a3)] below meth c s₁ [] 0 0 := Stand.of_body Bd
  have e0 : s₁.heap = h0 := by rw [← hh, Bd.state]; rfl
  have N0 := Fr.nil n0
  have hZ : Z.Warmed39 (s.setVm s.vm).vm := hZ
  have hown : (s.setVm s.vm).vm.findClass "com/example/tidemark/tidemark/core/Write" = some m.cls := hown
  have hS0 : s.Since s.vm 0 := (State.WarmedH.refl s).since 0
  have K0 : Keep h0 h0 [a1] := Keep.refl h0 _
  refine (show Gl p e below (fun o U' => ∃ v L, o = .returned v ∧ Q1 Z a1 a2 a3 u_key_a1 u_value_a1 cl_a2 nl cl_a3 nm h0 n0 v U'.heap L ∧ ReturnedEndW s o U' L ({ frames := 3, cells := 4, slots := 40, locals := 39 } : Room).cells ({ frames := 3, cells := 4, slots := 40, locals := 39 } : Room).slots) (s₁.setTop (entryFrame m #[(.ref a1), (.ref a2), (.ref a3)] 3)) from ?_)
  obtain ⟨L0, hL0⟩ : ∃ z : Array Slot, z = #[.val (.ref a1), .val (.ref a2), .val (.ref a3)] := ⟨_, rfl⟩
  refine Gl.st (B := (s₁.setTop (mkF m 0 L0 []))) (fun t k => castTop (efAt hL0 (ef_1 m a1 a2 a3)) k) ?_
  refine Gl.st (B := (s₁.setTop (mkF m 1 L0 [(.ref a1)]))) (fun t k => XS.aloadN X0.here hx rfl (hb hby d1_0) (ldAt hL0 rfl) rfl k) ?_
  obtain ⟨_, _, ⟨T1, L1q, k1, n1⟩, -, X1, ⟨Lc1, hQ1, l1, y1, z1⟩, st1⟩ := X0.specialBack hx (y := (⟨"java/lang/Record", "<init>", "()V"⟩ : MethodName)) rfl hown (mvT hZ (tw hw 7 rfl)) (mvT hZ (tw hw 8 rfl)) (mvT hZ (tw hw 11 rfl)) (by decide) (backOf (W := 0) (rm2 l Z a0 hw [] a1 h0 n0 Z0) hZ (tw hw 11 rfl) (tw hw 10 rfl) (by decide) (by decide)) (g := (mkF m 1 L0 [(.ref a1)])) rfl (szAt hml hL0 rfl) (Steps.refl _) (a := a1) (argsL := []) (rest := []) (lenOf pd_1_0 rfl) rfl (by show 2 * 0 + _ ≤ _; exact Nat.le_of_eq rfl) (hb hby d1_1) (fun _ _ => ⟨rfl, e0, (by decide : 0 + 0 ≤ _), (by decide : 0 + 0 ≤ _)⟩)
  dsimp only [Pt.U, Pt.locs, Pt.cells, Pt.slots] at X1 l1 y1 z1 st1 hQ1
  subst l1 y1 z1
  obtain ⟨rfl, N1q, eh1⟩ := hQ1
  have N1 := Fr.app N0 N1q
  refine Gl.st (B := (T1.setTop (mkF m 4 L0 []))) (fun t k => st1.trans k) ?_
  refine Gl.st (B := (T1.setTop (mkF m 5 L0 [(.ref a2)]))) (fun t k => XS.aloadN X1.here hx rfl (hb hby d1_4) (ldAt hL0 rfl) rfl k) ?_
  obtain ⟨_, _, ⟨T2, L2q, k2, n2⟩, -, X2, hs2, gr2, ⟨Lc2, hQ2, l2, y2, z2⟩, st2⟩ := callSS X1 hx (y := (⟨"com/example/tidemark/tidemark/core/Keys", "check", "([B)[B"⟩ : MethodName)) hown (mvT hZ (tw hw 15 rfl)) (mvT hZ (tw hw 16 rfl)) (mvT hZ (tw hw 17 rfl)) (mvT hZ (tw hw 18 rfl)) (by decide) (backOfS (W := 0) (rm4 l Z a0 hw [] a2 cl_a2 nl h0 n0 Z0 Ar_a2 S_a2 P_a2 hr5_hr6_hq9 hr5_hq12) hZ (tw hw 18 rfl) (tw hw 17 rfl) (by decide) (by decide)) (g := (mkF m 5 L0 [(.ref a2)])) rfl (szAt hml hL0 rfl) (argsL := [(.ref a2)]) (rest := []) (lenOf pd_1_1 rfl) rfl (by show 2 * 0 + _ ≤ _; exact Nat.le_of_eq rfl) (hb hby d1_5) (fun _ _ => ⟨rfl, eh1, (by decide : 0 + 2 ≤ _), (by decide : 0 + 16 ≤ _)⟩)
  dsimp only [Pt.U, Pt.locs, Pt.cells, Pt.slots] at X2 l2 y2 z2 st2 hQ2 hs2 gr2
  subst l2 y2 z2
  obtain ⟨X2, hS2, hZ, hown⟩ := rebS hS0 (n1 := T1.heap.size) (by rw [eh1]; exact (Nat.zero_le _)) X2 hs2 gr2 hZ hown
  obtain ⟨rfl, N2q, Kc2⟩ := hQ2
  have Zc3 : n0 ≤ T2.heap.size := Nat.le_trans Z0 Kc2.1
  have K4 : Keep h0 T2.heap [a1] := K0.trans Kc2 all0
  have N2 := Fr.app N1 N2q
  refine Gl.st (B := (T2.setTop (mkF m 8 L0 [(.ref a2)]))) (fun t k => st2.trans k) ?_
  refine Gl.st (B := (T2.setTop (mkF m 9 L0 []))) (fun t k => XS.pop X2.here hx rfl (hb hby d1_8) rfl rfl k) ?_
  refine Gl.st (B := (T2.setTop (mkF m 10 L0 [(.ref a3)]))) (fun t k => XS.aloadN X2.here hx rfl (hb hby d1_9) (ldAt hL0 rfl) rfl k) ?_
  refine Gl.st (B := (T2.setTop (mkF m 13 L0 []))) (fun t k => XS.ifnullNo X2.here hx rfl (hb hby d1_10) rfl k) ?_
  refine Gl.st (B := (T2.setTop (mkF m 14 L0 [(.ref a3)]))) (fun t k => XS.aloadN X2.here hx rfl (hb hby d1_13) (ldAt hL0 rfl) rfl k) ?_
  have c6 := (own_arr_keep Ar_a3 Kc2 nin0)
  obtain ⟨_, _, ⟨T5, L5q, k5, n5⟩, -, X5, hs5, gr5, ⟨Lc5, hQ5, l5, y5, z5⟩, st5⟩ := callSS X2 hx (y := (⟨"com/example/tidemark/tidemark/core/Values", "check", "([B)[B"⟩ : MethodName)) hown (mvT hZ (tw hw 34 rfl)) (mvT hZ (tw hw 35 rfl)) (mvT hZ (tw hw 36 rfl)) (mvT hZ (tw hw 37 rfl)) (by decide) (backOfS (W := 0) (rm7 l Z a0 hw [] a3 cl_a3 nm T2.heap n0 Zc3 c6 S_a3 P_a3 hr14_hr5_hq9) hZ (tw hw 37 rfl) (tw hw 36 rfl) (by decide) (by decide)) (g := (mkF m 14 L0 [(.ref a3)])) rfl (szAt hml hL0 rfl) (argsL := [(.ref a3)]) (rest := []) (lenOf pd_1_1 rfl) rfl (by show 2 * 0 + _ ≤ _; exact Nat.le_of_eq rfl) (hb hby d1_14) (fun _ _ => ⟨rfl, rfl, (by decide : 2 + 2 ≤ _), (by decide : 16 + 24 ≤ _)⟩)
  dsimp only [Pt.U, Pt.locs, Pt.cells, Pt.slots] at X5 l5 y5 z5 st5 hQ5 hs5 gr5
  subst l5 y5 z5
  obtain ⟨X5, hS5, hZ, hown⟩ := rebS hS2 (n1 := T2.heap.size) (Nat.le_refl _) X5 hs5 gr5 hZ hown
  obtain ⟨rfl, N5q, Kc5⟩ := hQ5
  have Zc7 : n0 ≤ T5.heap.size := Nat.le_trans Zc3 Kc5.1
  have K8 : Keep h0 T5.heap [a1] := K4.trans Kc5 all0
  have N5 := Fr.app N2 N5q
  refine Gl.st (B := (T5.setTop (mkF m 17 L0 [(.ref a3)]))) (fun t k => st5.trans k) ?_
  refine Gl.st (B := (T5.setTop (mkF m 18 L0 []))) (fun t k => XS.pop X5.here hx rfl (hb hby d1_17) rfl rfl k) ?_
  refine Gl.st (B := (T5.setTop (mkF m 19 L0 [(.ref a1)]))) (fun t k => XS.aloadN X5.here hx rfl (hb hby d1_18) (ldAt hL0 rfl) rfl k) ?_
  refine Gl.st (B := (T5.setTop (mkF m 20 L0 [(.ref a2), (.ref a1)]))) (fun t k => XS.aloadN X5.here hx rfl (hb hby d1_19) (ldAt hL0 rfl) rfl k) ?_
  have c9 := ((E_a1.keep Kc2).keep Kc5)
  have c10 := ((F_key_a1.keep Kc2 nin0).keep Kc5 nin0)
  obtain ⟨T11, h11, X11, e11, W11, st11⟩ := putF X5 hx hZ hown (host := "") (Or.inl (tw hw 41 rfl)) Via.refl rfl c10 c9 (Or.inr ⟨(tw hw 42 rfl), rfl, hnm⟩) (tw hw 2 rfl) (ty := (.array .byte)) (by decide) rfl rfl (g := (mkF m 20 L0 [(.ref a2), (.ref a1)])) rfl rfl (hb hby d1_20)
  have Fw11 := c10.same W11
  have Zc12 : n0 ≤ h11.size := Nat.le_trans Zc7 (Nat.le_of_eq W11.size.symm)
  have K13 : Keep h0 h11 [a1] := K8.wr W11 (Or.inl (List.mem_of_getElem? (i := 0) rfl))
  have N11 := Fr.snoc X11 N5 g_a1
  refine Gl.st (B := (T11.setTop (mkF m 23 L0 []))) st11 ?_
  refine Gl.st (B := (T11.setTop (mkF m 24 L0 [(.ref a1)]))) (fun t k => XS.aloadN X11.here hx rfl (hb hby d1_23) (ldAt hL0 rfl) rfl k) ?_
  refine Gl.st (B := (T11.setTop (mkF m 25 L0 [(.ref a3), (.ref a1)]))) (fun t k => XS.aloadN X11.here hx rfl (hb hby d1_24) (ldAt hL0 rfl) rfl k) ?_
  have c14 := (c9.wr W11)
  have c15 := (((F_value_a1.keep Kc2 nin0).keep Kc5 nin0).other W11 (Or.inr (sn0 hw)))
  obtain ⟨T16, h16, X16, e16, W16, st16⟩ := putF X11 hx hZ hown (host := "") (Or.inl (tw hw 43 rfl)) Via.refl e11 c15 c14 (Or.inr ⟨(tw hw 44 rfl), rfl, hnm⟩) (tw hw 2 rfl) (ty := (.array .byte)) (by decide) rfl rfl (g := (mkF m 25 L0 [(.ref a3), (.ref a1)])) rfl rfl (hb hby d1_25)
  have Fw16 := c15.same W16
  have Zc17 : n0 ≤ h16.size := Nat.le_trans Zc12 (Nat.le_of_eq W16.size.symm)
  have K18 : Keep h0 h16 [a1] := K13.wr W16 (Or.inl (List.mem_of_getElem? (i := 0) rfl))
  have N16 := Fr.snoc X16 N11 g_a1
  refine Gl.st (B := (T16.setTop (mkF m 28 L0 []))) st16 ?_
  obtain ⟨fs, hr, hrun, hended, hRW⟩ := X16.leaveW hS5 (by rw [e16]; exact (Nat.le_trans (Nat.le_trans (Nat.le_refl _) (Nat.le_of_eq W11.size.symm)) (Nat.le_of_eq W16.size.symm))) (v := none) (fun _ => rfl)
  refine Gl.fin (X16.returnOut hx Bd.returns (hb hby d1_28) hr) hrun hended ⟨_, _, rfl, ?_, hRW.1, hRW.2.1, hRW.2.2.1, hRW.2.2.2.mono (by decide) (by decide)⟩
  show Q1 Z a1 a2 a3 u_key_a1 u_value_a1 cl_a2 nl cl_a3 nm h0 n0 _ T16.heap _
  rw [e16]
  have c19 := (c14.wr W16)
  have c20 := (Fw11.other W16 (Or.inr (sn1 hw)))
  exact ⟨rfl, N16, K18, c19, c20, Fw16⟩
theorem pd_1n_0 : parseMethodDescriptor "()V" = some ⟨[], none⟩ := by decide +kernel
theorem pd_1n_1 : parseMethodDescriptor "([B)[B" = some ⟨[(.array .byte)], some (.array .byte)⟩ := by decide +kernel
theorem ef_1n (m : MethodId) (a1 : Addr) (a2 : Addr) : entryFrame m #[(.ref a1), (.ref a2), .null] 3 = mkF m 0 #[.val (.ref a1), .val (.ref a2), .val .null] [] := by first | (simp [entryFrame, mkF, argsToLocals, Value.category]; done) | rfl
def Q1n (Z : State) (a1 : Addr) (a2 : Addr) (u_key_a1 : Value) (u_value_a1 : Value) (cl_a2 : Cell) (nl : Int32) (h0 : Heap) (n0 : Nat) (v : Option Value) (h : Heap) (L : List Loc) : Prop := v = none ∧ Fr n0 L ∧ Keep h0 h [a1] ∧ Exa Z h a1 "com/example/tidemark/tidemark/core/Write" ∧ Fld Z h a1 "com/example/tidemark/tidemark/core/Write" "key" "[B" (.ref a2) ∧ Fld Z h a1 "com/example/tidemark/tidemark/core/Write" "value" "[B" .null
set_option maxRecDepth 65536 in
set_option maxHeartbeats 40000000 in
theorem rm1n (l : Launch) (Z : State) (a0 : Array Value) (hw : ∀ d ∈ tables_1, d.before a0 Z = true) (ws : List Jvm.Cond) (a1 : Addr) (a2 : Addr) (u_key_a1 : Value) (u_value_a1 : Value) (cl_a2 : Cell) (nl : Int32) (h0 : Heap) (n0 : Nat) (Z0 : n0 ≤ h0.size) (F_key_a1 : Fld Z h0 a1 "com/example/tidemark/tidemark/core/Write" "key" "[B" u_key_a1) (F_value_a1 : Fld Z h0 a1 "com/example/tidemark/tidemark/core/Write" "value" "[B" u_value_a1) (Ar_a2 : Arr Z h0 a2 cl_a2 .byte) (S_a2 : cl_a2.slots.size = (nl).toNatClampNeg) (P_a2 : ¬ nl < 0) (hr5_hr6_hq9 : ¬ ((4096 : Int32) < nl)) (hr5_hq12 : ¬ (nl = (0 : Int32))) (E_a1 : Exa Z h0 a1 "com/example/tidemark/tidemark/core/Write") (g_a1 : n0 ≤ a1) :
    MetFree l (⟨"com/example/tidemark/tidemark/core/Write", "<init>", "([B[B)V"⟩ : MethodName) (head1 (Jvm.Cond.code (⟨"com/example/tidemark/tidemark/core/Write", "<init>", "([B[B)V"⟩ : MethodName) prog_78_method_1_code 3 none :: ws) ({ frames := 3, cells := 2, slots := 16, locals := 39 } : Room)) (fun a U => a = #[(.ref a1), (.ref a2), .null] ∧ Z.Warmed39 U.vm ∧ U.heap = h0) (fun _ _ _ _ _ => True) (fun _ U o U' => ∃ v L, o = .returned v ∧ Q1n Z a1 a2 u_key_a1 u_value_a1 cl_a2 nl h0 n0 v U'.heap L ∧ ReturnedEndW U o U' L ({ frames := 3, cells := 2, slots := 16, locals := 39 } : Room).cells ({ frames := 3, cells := 2, slots := 16, locals := 39 } : Room).slots) := by
  refine MetFree.of_bodySF (plainFor_of_name pn_1) hisR ?_
  intro p e s m args below meth c s₁ Bd hml0 hP hK
  obtain ⟨rfl, hZ, hh⟩ := hP
  have hx := Bd.exec
  have hby := Bd.bytes
  have hml : c.maxLocals = 3 := hml0
  have hown : s.vm.findClass "com/example/tidemark/tidemark/core/Write" = some m.cls := findClass_of_methodNamed Bd.named
  have hnm := (name_of_methodNamed Bd.named Bd.method).1
  have X0 : Stand p l e ({ frames := 3, cells := 2, slots := 16, locals := 39 } : Room) (s.setVm s.vm) m #[(.ref a1), (.ref a2), .null] below meth c s₁ [] 0 0 := Stand.of_body Bd
  have e0 : s₁.heap = h0 := by rw [← hh, Bd.state]; rfl
  have N0 := Fr.nil n0
  have hZ : Z.Warmed39 (s.setVm s.vm).vm := hZ
  have hown : (s.setVm s.vm).vm.findClass "com/example/tidemark/tidemark/core/Write" = some m.cls := hown
  have hS0 : s.Since s.vm 0 := (State.WarmedH.refl s).since 0
  have K0 : Keep h0 h0 [a1] := Keep.refl h0 _
  refine (show Gl p e below (fun o U' => ∃ v L, o = .returned v ∧ Q1n Z a1 a2 u_key_a1 u_value_a1 cl_a2 nl h0 n0 v U'.heap L ∧ ReturnedEndW s o U' L ({ frames := 3, cells := 2, slots := 16, locals := 39 } : Room).cells ({ frames := 3, cells := 2, slots := 16, locals := 39 } : Room).slots) (s₁.setTop (entryFrame m #[(.ref a1), (.ref a2), .null] 3)) from ?_)
  obtain ⟨L0, hL0⟩ : ∃ z : Array Slot, z = #[.val (.ref a1), .val (.ref a2), .val .null] := ⟨_, rfl⟩
  refine Gl.st (B := (s₁.setTop (mkF m 0 L0 []))) (fun t k => castTop (efAt hL0 (ef_1n m a1 a2)) k) ?_
  refine Gl.st (B := (s₁.setTop (mkF m 1 L0 [(.ref a1)]))) (fun t k => XS.aloadN X0.here hx rfl (hb hby d1_0) (ldAt hL0 rfl) rfl k) ?_
  obtain ⟨_, _, ⟨T1, L1q, k1, n1⟩, -, X1, ⟨Lc1, hQ1, l1, y1, z1⟩, st1⟩ := X0.specialBack hx (y := (⟨"java/lang/Record", "<init>", "()V"⟩ : MethodName)) rfl hown (mvT hZ (tw hw 7 rfl)) (mvT hZ (tw hw 8 rfl)) (mvT hZ (tw hw 11 rfl)) (by decide) (backOf (W := 0) (rm2 l Z a0 hw [] a1 h0 n0 Z0) hZ (tw hw 11 rfl) (tw hw 10 rfl) (by decide) (by decide)) (g := (mkF m 1 L0 [(.ref a1)])) rfl (szAt hml hL0 rfl) (Steps.refl _) (a := a1) (argsL := []) (rest := []) (lenOf pd_1n_0 rfl) rfl (by show 2 * 0 + _ ≤ _; exact Nat.le_of_eq rfl) (hb hby d1_1) (fun _ _ => ⟨rfl, e0, (by decide : 0 + 0 ≤ _), (by decide : 0 + 0 ≤ _)⟩)
  dsimp only [Pt.U, Pt.locs, Pt.cells, Pt.slots] at X1 l1 y1 z1 st1 hQ1
  subst l1 y1 z1
  obtain ⟨rfl, N1q, eh1⟩ := hQ1
  have N1 := Fr.app N0 N1q
  refine Gl.st (B := (T1.setTop (mkF m 4 L0 []))) (fun t k => st1.trans k) ?_
  refine Gl.st (B := (T1.setTop (mkF m 5 L0 [(.ref a2)]))) (fun t k => XS.aloadN X1.here hx rfl (hb hby d1_4) (ldAt hL0 rfl) rfl k) ?_
  obtain ⟨_, _, ⟨T2, L2q, k2, n2⟩, -, X2, hs2, gr2, ⟨Lc2, hQ2, l2, y2, z2⟩, st2⟩ := callSS X1 hx (y := (⟨"com/example/tidemark/tidemark/core/Keys", "check", "([B)[B"⟩ : MethodName)) hown (mvT hZ (tw hw 15 rfl)) (mvT hZ (tw hw 16 rfl)) (mvT hZ (tw hw 17 rfl)) (mvT hZ (tw hw 18 rfl)) (by decide) (backOfS (W := 0) (rm4 l Z a0 hw [] a2 cl_a2 nl h0 n0 Z0 Ar_a2 S_a2 P_a2 hr5_hr6_hq9 hr5_hq12) hZ (tw hw 18 rfl) (tw hw 17 rfl) (by decide) (by decide)) (g := (mkF m 5 L0 [(.ref a2)])) rfl (szAt hml hL0 rfl) (argsL := [(.ref a2)]) (rest := []) (lenOf pd_1n_1 rfl) rfl (by show 2 * 0 + _ ≤ _; exact Nat.le_of_eq rfl) (hb hby d1_5) (fun _ _ => ⟨rfl, eh1, (by decide : 0 + 2 ≤ _), (by decide : 0 + 16 ≤ _)⟩)
  dsimp only [Pt.U, Pt.locs, Pt.cells, Pt.slots] at X2 l2 y2 z2 st2 hQ2 hs2 gr2
  subst l2 y2 z2
  obtain ⟨X2, hS2, hZ, hown⟩ := rebS hS0 (n1 := T1.heap.size) (by rw [eh1]; exact (Nat.zero_le _)) X2 hs2 gr2 hZ hown
  obtain ⟨rfl, N2q, Kc2⟩ := hQ2
  have Zc3 : n0 ≤ T2.heap.size := Nat.le_trans Z0 Kc2.1
  have K4 : Keep h0 T2.heap [a1] := K0.trans Kc2 all0
  have N2 := Fr.app N1 N2q
  refine Gl.st (B := (T2.setTop (mkF m 8 L0 [(.ref a2)]))) (fun t k => st2.trans k) ?_
  refine Gl.st (B := (T2.setTop (mkF m 9 L0 []))) (fun t k => XS.pop X2.here hx rfl (hb hby d1_8) rfl rfl k) ?_
  refine Gl.st (B := (T2.setTop (mkF m 10 L0 [.null]))) (fun t k => XS.aloadN X2.here hx rfl (hb hby d1_9) (ldAt hL0 rfl) rfl k) ?_
  refine Gl.st (B := (T2.setTop (mkF m 18 L0 []))) (fun t k => XS.ifnullYes X2.here hx rfl (pc0 := 10) (pc' := 18) rfl (hb hby d1_10) rfl (by decide) (by decide) k) ?_
  refine Gl.st (B := (T2.setTop (mkF m 19 L0 [(.ref a1)]))) (fun t k => XS.aloadN X2.here hx rfl (hb hby d1_18) (ldAt hL0 rfl) rfl k) ?_
  refine Gl.st (B := (T2.setTop (mkF m 20 L0 [(.ref a2), (.ref a1)]))) (fun t k => XS.aloadN X2.here hx rfl (hb hby d1_19) (ldAt hL0 rfl) rfl k) ?_
  have c5 := (E_a1.keep Kc2)
  have c6 := (F_key_a1.keep Kc2 nin0)
  obtain ⟨T7, h7, X7, e7, W7, st7⟩ := putF X2 hx hZ hown (host := "") (Or.inl (tw hw 41 rfl)) Via.refl rfl c6 c5 (Or.inr ⟨(tw hw 42 rfl), rfl, hnm⟩) (tw hw 2 rfl) (ty := (.array .byte)) (by decide) rfl rfl (g := (mkF m 20 L0 [(.ref a2), (.ref a1)])) rfl rfl (hb hby d1_20)
  have Fw7 := c6.same W7
  have Zc8 : n0 ≤ h7.size := Nat.le_trans Zc3 (Nat.le_of_eq W7.size.symm)
  have K9 : Keep h0 h7 [a1] := K4.wr W7 (Or.inl (List.mem_of_getElem? (i := 0) rfl))
  have N7 := Fr.snoc X7 N2 g_a1
  refine Gl.st (B := (T7.setTop (mkF m 23 L0 []))) st7 ?_
  refine Gl.st (B := (T7.setTop (mkF m 24 L0 [(.ref a1)]))) (fun t k => XS.aloadN X7.here hx rfl (hb hby d1_23) (ldAt hL0 rfl) rfl k) ?_
  refine Gl.st (B := (T7.setTop (mkF m 25 L0 [.null, (.ref a1)]))) (fun t k => XS.aloadN X7.here hx rfl (hb hby d1_24) (ldAt hL0 rfl) rfl k) ?_
  have c10 := (c5.wr W7)
  have c11 := ((F_value_a1.keep Kc2 nin0).other W7 (Or.inr (sn0 hw)))
  obtain ⟨T12, h12, X12, e12, W12, st12⟩ := putF X7 hx hZ hown (host := "") (Or.inl (tw hw 43 rfl)) Via.refl e7 c11 c10 (Or.inr ⟨(tw hw 44 rfl), rfl, hnm⟩) (tw hw 2 rfl) (ty := (.array .byte)) (by decide) rfl rfl (g := (mkF m 25 L0 [.null, (.ref a1)])) rfl rfl (hb hby d1_25)
  have Fw12 := c11.same W12
  have Zc13 : n0 ≤ h12.size := Nat.le_trans Zc8 (Nat.le_of_eq W12.size.symm)
  have K14 : Keep h0 h12 [a1] := K9.wr W12 (Or.inl (List.mem_of_getElem? (i := 0) rfl))
  have N12 := Fr.snoc X12 N7 g_a1
  refine Gl.st (B := (T12.setTop (mkF m 28 L0 []))) st12 ?_
  obtain ⟨fs, hr, hrun, hended, hRW⟩ := X12.leaveW hS2 (by rw [e12]; exact (Nat.le_trans (Nat.le_trans (Nat.le_refl _) (Nat.le_of_eq W7.size.symm)) (Nat.le_of_eq W12.size.symm))) (v := none) (fun _ => rfl)
  refine Gl.fin (X12.returnOut hx Bd.returns (hb hby d1_28) hr) hrun hended ⟨_, _, rfl, ?_, hRW.1, hRW.2.1, hRW.2.2.1, hRW.2.2.2.mono (by decide) (by decide)⟩
  show Q1n Z a1 a2 u_key_a1 u_value_a1 cl_a2 nl h0 n0 _ T12.heap _
  rw [e12]
  have c15 := (c10.wr W12)
  have c16 := (Fw7.other W12 (Or.inr (sn1 hw)))
  exact ⟨rfl, N12, K14, c15, c16, Fw12⟩
theorem d8_0 : decode prog_78_method_2_code 0 = .ok (.aload_n 0, 1) := by decide +kernel
theorem d8_1 : decode prog_78_method_2_code 1 = .ok (.getfield 24, 3) := by decide +kernel
theorem d8_4 : decode prog_78_method_2_code 4 = .ok (.ifnonnull 7, 3) := by decide +kernel
theorem d8_11 : decode prog_78_method_2_code 11 = .ok (.iconst 0, 1) := by decide +kernel
theorem d8_12 : decode prog_78_method_2_code 12 = .ok (.ireturn, 1) := by decide +kernel
theorem pn_8 : plainName "com/example/tidemark/tidemark/core/Write" = true := by first | (simp [plainName, overriddenIn]; done) | decide +kernel
theorem ef_8 (m : MethodId) (a1 : Addr) : entryFrame m #[(.ref a1)] 1 = mkF m 0 #[.val (.ref a1)] [] := by first | (simp [entryFrame, mkF, argsToLocals, Value.category]; done) | rfl
def Q8 (Z : State) (a1 : Addr) (w_value_a1 : Addr) (h0 : Heap) (n0 : Nat) (v : Option Value) (h : Heap) (L : List Loc) : Prop := v = some (.int (0 : Int32)) ∧ Fr n0 L ∧ h = h0
set_option maxRecDepth 65536 in
set_option maxHeartbeats 40000000 in
theorem rm8 (l : Launch) (Z : State) (a0 : Array Value) (hw : ∀ d ∈ tables_1, d.before a0 Z = true) (ws : List Jvm.Cond) (a1 : Addr) (w_value_a1 : Addr) (h0 : Heap) (n0 : Nat) (Z0 : n0 ≤ h0.size) (F_value_a1 : Fld Z h0 a1 "com/example/tidemark/tidemark/core/Write" "value" "[B" (.ref w_value_a1)) :
    MetFree l (⟨"com/example/tidemark/tidemark/core/Write", "isDelete", "()Z"⟩ : MethodName) (head1 (Jvm.Cond.code (⟨"com/example/tidemark/tidemark/core/Write", "isDelete", "()Z"⟩ : MethodName) prog_78_method_2_code 1 (some .boolean) :: ws) ({ frames := 0, cells := 0, slots := 0, locals := 0 } : Room)) (fun a U => a = #[(.ref a1)] ∧ Z.Warmed39 U.vm ∧ U.heap = h0) (fun _ _ _ _ _ => True) (fun _ U o U' => ∃ v L, o = .returned v ∧ Q8 Z a1 w_value_a1 h0 n0 v U'.heap L ∧ FrameEnd U o U' L ({ frames := 0, cells := 0, slots := 0, locals := 0 } : Room).cells ({ frames := 0, cells := 0, slots := 0, locals := 0 } : Room).slots) := by
  refine MetFree.of_bodySF (plainFor_of_name pn_8) hisR ?_
  intro p e s m args below meth c s₁ Bd hml0 hP hK
  obtain ⟨rfl, hZ, hh⟩ := hP
  have hx := Bd.exec
  have hby := Bd.bytes
  have hml : c.maxLocals = 1 := hml0
  have hown : s.vm.findClass "com/example/tidemark/tidemark/core/Write" = some m.cls := findClass_of_methodNamed Bd.named
  have hnm := (name_of_methodNamed Bd.named Bd.method).1
  have X0 : Stand p l e ({ frames := 0, cells := 0, slots := 0, locals := 0 } : Room) s m #[(.ref a1)] below meth c s₁ [] 0 0 := Stand.of_body Bd
  have e0 : s₁.heap = h0 := by rw [← hh, Bd.state]; rfl
  have N0 := Fr.nil n0
  have K0 : Keep h0 h0 [] := Keep.refl h0 _
  refine (show Gl p e below (fun o U' => ∃ v L, o = .returned v ∧ Q8 Z a1 w_value_a1 h0 n0 v U'.heap L ∧ FrameEnd s o U' L ({ frames := 0, cells := 0, slots := 0, locals := 0 } : Room).cells ({ frames := 0, cells := 0, slots := 0, locals := 0 } : Room).slots) (s₁.setTop (entryFrame m #[(.ref a1)] 1)) from ?_)
  obtain ⟨L0, hL0⟩ : ∃ z : Array Slot, z = #[.val (.ref a1)] := ⟨_, rfl⟩
  refine Gl.st (B := (s₁.setTop (mkF m 0 L0 []))) (fun t k => castTop (efAt hL0 (ef_8 m a1)) k) ?_
  refine Gl.st (B := (s₁.setTop (mkF m 1 L0 [(.ref a1)]))) (fun t k => XS.aloadN X0.here hx rfl (hb hby d8_0) (ldAt hL0 rfl) rfl k) ?_
  obtain ⟨T1, X1, e1, st1⟩ := getF X0 hx hZ hown (host := "") (Or.inl (tw hw 43 rfl)) Via.refl e0 F_value_a1 (g := (mkF m 1 L0 [(.ref a1)])) rfl rfl (hb hby d8_1)
  refine Gl.st (B := (T1.setTop (mkF m 4 L0 [(.ref w_value_a1)]))) st1 ?_
  refine Gl.st (B := (T1.setTop (mkF m 11 L0 []))) (fun t k => XS.ifnonnullYes X1.here hx rfl (pc0 := 4) (pc' := 11) rfl (hb hby d8_4) rfl (by decide) (by decide) k) ?_
  refine Gl.st (B := (T1.setTop (mkF m 12 L0 [(.int (0 : Int32))]))) (fun t k => XS.iconst X1.here hx rfl (hb hby d8_11) k) ?_
  obtain ⟨fs, hr, hrun, hended, hW, hsame⟩ := X1.leave (v := some (.int (nar .boolean (0 : Int32)))) (fun h => by rw [Bd.returns] at h; cases h)
  refine Gl.fin (retN X1 hx (t := .boolean) Bd.returns (by simp) (hb hby d8_12) hr) hrun hended ⟨_, _, rfl, ?_, ⟨_, rfl⟩, hW, hsame.mono (by decide) (by decide)⟩
  show Q8 Z a1 w_value_a1 h0 n0 _ T1.heap _
  rw [e1]
  exact ⟨rfl, N0, rfl⟩
theorem d8_7 : decode prog_78_method_2_code 7 = .ok (.iconst 1, 1) := by decide +kernel
theorem d8_8 : decode prog_78_method_2_code 8 = .ok (.goto 4, 3) := by decide +kernel
theorem ef_8n (m : MethodId) (a1 : Addr) : entryFrame m #[(.ref a1)] 1 = mkF m 0 #[.val (.ref a1)] [] := by first | (simp [entryFrame, mkF, argsToLocals, Value.category]; done) | rfl
def Q8n (Z : State) (a1 : Addr) (h0 : Heap) (n0 : Nat) (v : Option Value) (h : Heap) (L : List Loc) : Prop := v = some (.int (1 : Int32)) ∧ Fr n0 L ∧ h = h0
set_option maxRecDepth 65536 in
set_option maxHeartbeats 40000000 in
theorem rm8n (l : Launch) (Z : State) (a0 : Array Value) (hw : ∀ d ∈ tables_1, d.before a0 Z = true) (ws : List Jvm.Cond) (a1 : Addr) (h0 : Heap) (n0 : Nat) (Z0 : n0 ≤ h0.size) (F_value_a1 : Fld Z h0 a1 "com/example/tidemark/tidemark/core/Write" "value" "[B" .null) :
    MetFree l (⟨"com/example/tidemark/tidemark/core/Write", "isDelete", "()Z"⟩ : MethodName) (head1 (Jvm.Cond.code (⟨"com/example/tidemark/tidemark/core/Write", "isDelete", "()Z"⟩ : MethodName) prog_78_method_2_code 1 (some .boolean) :: ws) ({ frames := 0, cells := 0, slots := 0, locals := 0 } : Room)) (fun a U => a = #[(.ref a1)] ∧ Z.Warmed39 U.vm ∧ U.heap = h0) (fun _ _ _ _ _ => True) (fun _ U o U' => ∃ v L, o = .returned v ∧ Q8n Z a1 h0 n0 v U'.heap L ∧ FrameEnd U o U' L ({ frames := 0, cells := 0, slots := 0, locals := 0 } : Room).cells ({ frames := 0, cells := 0, slots := 0, locals := 0 } : Room).slots) := by
  refine MetFree.of_bodySF (plainFor_of_name pn_8) hisR ?_
  intro p e s m args below meth c s₁ Bd hml0 hP hK
  obtain ⟨rfl, hZ, hh⟩ := hP
  have hx := Bd.exec
  have hby := Bd.bytes
  have hml : c.maxLocals = 1 := hml0
  have hown : s.vm.findClass "com/example/tidemark/tidemark/core/Write" = some m.cls := findClass_of_methodNamed Bd.named
  have hnm := (name_of_methodNamed Bd.named Bd.method).1
  have X0 : Stand p l e ({ frames := 0, cells := 0, slots := 0, locals := 0 } : Room) s m #[(.ref a1)] below meth c s₁ [] 0 0 := Stand.of_body Bd
  have e0 : s₁.heap = h0 := by rw [← hh, Bd.state]; rfl
  have N0 := Fr.nil n0
  have K0 : Keep h0 h0 [] := Keep.refl h0 _
  refine (show Gl p e below (fun o U' => ∃ v L, o = .returned v ∧ Q8n Z a1 h0 n0 v U'.heap L ∧ FrameEnd s o U' L ({ frames := 0, cells := 0, slots := 0, locals := 0 } : Room).cells ({ frames := 0, cells := 0, slots := 0, locals := 0 } : Room).slots) (s₁.setTop (entryFrame m #[(.ref a1)] 1)) from ?_)
  obtain ⟨L0, hL0⟩ : ∃ z : Array Slot, z = #[.val (.ref a1)] := ⟨_, rfl⟩
  refine Gl.st (B := (s₁.setTop (mkF m 0 L0 []))) (fun t k => castTop (efAt hL0 (ef_8n m a1)) k) ?_
  refine Gl.st (B := (s₁.setTop (mkF m 1 L0 [(.ref a1)]))) (fun t k => XS.aloadN X0.here hx rfl (hb hby d8_0) (ldAt hL0 rfl) rfl k) ?_
  obtain ⟨T1, X1, e1, st1⟩ := getF X0 hx hZ hown (host := "") (Or.inl (tw hw 43 rfl)) Via.refl e0 F_value_a1 (g := (mkF m 1 L0 [(.ref a1)])) rfl rfl (hb hby d8_1)
  refine Gl.st (B := (T1.setTop (mkF m 4 L0 [.null]))) st1 ?_
  refine Gl.st (B := (T1.setTop (mkF m 7 L0 []))) (fun t k => XS.ifnonnullNo X1.here hx rfl (hb hby d8_4) rfl k) ?_
  refine Gl.st (B := (T1.setTop (mkF m 8 L0 [(.int (1 : Int32))]))) (fun t k => XS.iconst X1.here hx rfl (hb hby d8_7) k) ?_
  refine Gl.st (B := (T1.setTop (mkF m 12 L0 [(.int (1 : Int32))]))) (fun t k => XS.goto X1.here hx rfl (pc0 := 8) (pc' := 12) rfl (hb hby d8_8) (by decide) (by decide) k) ?_
  obtain ⟨fs, hr, hrun, hended, hW, hsame⟩ := X1.leave (v := some (.int (nar .boolean (1 : Int32)))) (fun h => by rw [Bd.returns] at h; cases h)
  refine Gl.fin (retN X1 hx (t := .boolean) Bd.returns (by simp) (hb hby d8_12) hr) hrun hended ⟨_, _, rfl, ?_, ⟨_, rfl⟩, hW, hsame.mono (by decide) (by decide)⟩
  show Q8n Z a1 h0 n0 _ T1.heap _
  rw [e1]
  exact ⟨rfl, N0, rfl⟩
theorem pn_0 : plainName "com/example/tidemark/tidemark/core/WriteIsDeletePinLaw" = true := by first | (simp [plainName, overriddenIn]; done) | decide +kernel
theorem pd_0_0 : parseMethodDescriptor "([B[B)V" = some ⟨[(.array .byte), (.array .byte)], none⟩ := by decide +kernel
theorem pd_0_1 : parseMethodDescriptor "()Z" = some ⟨[], some .boolean⟩ := by decide +kernel
theorem ef_0 (m : MethodId) (p1 : Int32) (p2 : Int32) (p3 : Int32) : entryFrame m #[(.int p1), (.int p2), (.int p3)] maxLocals = mkF m 0 #[.val (.int p1), .val (.int p2), .val (.int p3), .unset, .unset, .unset, .unset, .unset, .unset] [] := by first | (simp [entryFrame, mkF, argsToLocals, Value.category, maxLocals]; done) | rfl
def Q0 (Z : State) (p1 : Int32) (p2 : Int32) (p3 : Int32) (h0 : Heap) (n0 : Nat) (v : Option Value) (h : Heap) (L : List Loc) : Prop := v = some (.int (1 : Int32)) ∧ Fr n0 L
set_option maxRecDepth 65536 in
set_option maxHeartbeats 40000000 in
theorem rm0 (l : Launch) (Z : State) (a0 : Array Value) (hw : ∀ d ∈ tables_1, d.before a0 Z = true) (ws : List Jvm.Cond) (p1 : Int32) (p2 : Int32) (p3 : Int32) (h0 : Heap) (n0 : Nat) (Z0 : n0 ≤ h0.size) :
    MetFree l x (head1 (Jvm.Cond.code x code maxLocals ret :: ws) room_1) (fun a U => a = #[(.int p1), (.int p2), (.int p3)] ∧ Z.Warmed39 U.vm ∧ U.heap = h0) (fun _ _ _ _ _ => True) (fun _ U o U' => ∃ v L, o = .returned v ∧ Q0 Z p1 p2 p3 h0 n0 v U'.heap L ∧ ReturnedEndW U o U' L room_1.cells room_1.slots) := by
  refine MetFree.of_bodySF (plainFor_of_name pn_0) hisR ?_
  intro p e s m args below meth c s₁ Bd hml0 hP hK
  obtain ⟨rfl, hZ, hh⟩ := hP
  have hx := Bd.exec
  have hby := Bd.bytes
  have hml : c.maxLocals = 9 := hml0
  have hown : s.vm.findClass "com/example/tidemark/tidemark/core/WriteIsDeletePinLaw" = some m.cls := findClass_of_methodNamed Bd.named
  have hnm := (name_of_methodNamed Bd.named Bd.method).1
  have X0 : Stand p l e room_1 (s.setVm s.vm) m #[(.int p1), (.int p2), (.int p3)] below meth c s₁ [] 0 0 := Stand.of_body Bd
  have e0 : s₁.heap = h0 := by rw [← hh, Bd.state]; rfl
  have N0 := Fr.nil n0
  have hZ : Z.Warmed39 (s.setVm s.vm).vm := hZ
  have hown : (s.setVm s.vm).vm.findClass "com/example/tidemark/tidemark/core/WriteIsDeletePinLaw" = some m.cls := hown
  have hS0 : s.Since s.vm 0 := (State.WarmedH.refl s).since 0
  refine (show Gl p e below (fun o U' => ∃ v L, o = .returned v ∧ Q0 Z p1 p2 p3 h0 n0 v U'.heap L ∧ ReturnedEndW s o U' L room_1.cells room_1.slots) (s₁.setTop (entryFrame m #[(.int p1), (.int p2), (.int p3)] maxLocals)) from ?_)
  obtain ⟨L0, hL0⟩ : ∃ z : Array Slot, z = #[.val (.int p1), .val (.int p2), .val (.int p3), .unset, .unset, .unset, .unset, .unset, .unset] := ⟨_, rfl⟩
  refine Gl.st (B := (s₁.setTop (mkF m 0 L0 []))) (fun t k => castTop (efAt hL0 (ef_0 m p1 p2 p3)) k) ?_
  refine Gl.st (B := (s₁.setTop (mkF m 1 L0 [(.int p1)]))) (fun t k => XS.iloadN X0.here hx rfl (hb hby at_0) (ldAt hL0 rfl) k) ?_
  refine Gl.st (B := (s₁.setTop (mkF m 2 L0 [(.int (1 : Int32)), (.int p1)]))) (fun t k => XS.iconst X0.here hx rfl (hb hby at_1) k) ?_
  refine Gl.st (B := (s₁.setTop (mkF m 3 L0 [(.int (p1 &&& (1 : Int32)))]))) (fun t k => XS.iand X0.here hx rfl (hb hby at_2) rfl k) ?_
  obtain ⟨v11_s0_2, hv11_s0_2⟩ : ∃ z : Int32, z = (if (p1 &&& (1 : Int32)) = (0 : Int32) then (0 : Int32) else (1 : Int32)) := ⟨_, rfl⟩
  refine Gl.join (A := (s₁.setTop (mkF m 11 L0 [(.int v11_s0_2)]))) (fun J3_2 => ?_) ?_
  · by_cases hc3_1 : (p1 &&& (1 : Int32)) = (0 : Int32)
    · skip
      refine Gl.st (B := (s₁.setTop (mkF m 10 L0 []))) (fun t k => XS.ifYes X0.here hx rfl (pc0 := 3) (pc' := 10) rfl (hb hby at_3) rfl ((if0 _ _).trans (teq hc3_1).1) (by decide) (by decide) k) ?_
      refine Gl.st (B := (s₁.setTop (mkF m 11 L0 [(.int (0 : Int32))]))) (fun t k => XS.iconst X0.here hx rfl (hb hby at_10) k) ?_
      have ev11_s0_2 : v11_s0_2 = (0 : Int32) := by rw [hv11_s0_2, if_pos hc3_1]
      rw [ev11_s0_2] at J3_2
      exact J3_2
    · skip
      refine Gl.st (B := (s₁.setTop (mkF m 6 L0 []))) (fun t k => XS.ifNo X0.here hx rfl (hb hby at_3) rfl ((if0 _ _).trans (feq hc3_1).1) k) ?_
      refine Gl.st (B := (s₁.setTop (mkF m 7 L0 [(.int (1 : Int32))]))) (fun t k => XS.iconst X0.here hx rfl (hb hby at_6) k) ?_
      refine Gl.st (B := (s₁.setTop (mkF m 11 L0 [(.int (1 : Int32))]))) (fun t k => XS.goto X0.here hx rfl (pc0 := 7) (pc' := 11) rfl (hb hby at_7) (by decide) (by decide) k) ?_
      have ev11_s0_2 : v11_s0_2 = (1 : Int32) := by rw [hv11_s0_2, if_neg hc3_1]
      rw [ev11_s0_2] at J3_2
      exact J3_2
  obtain ⟨L3, hL3⟩ : ∃ z : Array Slot, z = #[.val (.int p1), .val (.int p2), .val (.int p3), .val (.int v11_s0_2), .unset, .unset, .unset, .unset, .unset] := ⟨_, rfl⟩
  refine Gl.st (B := (s₁.setTop (mkF m 12 L3 []))) (fun t k => XS.istoreN X0.here hx rfl (hb hby at_11) rfl (l' := L3) (stAt hL0 hL3 rfl rfl) k) ?_
  refine Gl.st (B := (s₁.setTop (mkF m 13 L3 [(.int p1)]))) (fun t k => XS.iloadN X0.here hx rfl (hb hby at_12) (ldAt hL3 rfl) k) ?_
  refine Gl.st (B := (s₁.setTop (mkF m 14 L3 [(.int (2 : Int32)), (.int p1)]))) (fun t k => XS.iconst X0.here hx rfl (hb hby at_13) k) ?_
  refine Gl.st (B := (s₁.setTop (mkF m 15 L3 [(.int (p1 &&& (2 : Int32)))]))) (fun t k => XS.iand X0.here hx rfl (hb hby at_14) rfl k) ?_
  obtain ⟨v23_s0_5, hv23_s0_5⟩ : ∃ z : Int32, z = (if (p1 &&& (2 : Int32)) = (0 : Int32) then (0 : Int32) else (1 : Int32)) := ⟨_, rfl⟩
  refine Gl.join (A := (s₁.setTop (mkF m 23 L3 [(.int v23_s0_5)]))) (fun J15_5 => ?_) ?_
  · by_cases hc15_4 : (p1 &&& (2 : Int32)) = (0 : Int32)
    · skip
      refine Gl.st (B := (s₁.setTop (mkF m 22 L3 []))) (fun t k => XS.ifYes X0.here hx rfl (pc0 := 15) (pc' := 22) rfl (hb hby at_15) rfl ((if0 _ _).trans (teq hc15_4).1) (by decide) (by decide) k) ?_
      refine Gl.st (B := (s₁.setTop (mkF m 23 L3 [(.int (0 : Int32))]))) (fun t k => XS.iconst X0.here hx rfl (hb hby at_22) k) ?_
      have ev23_s0_5 : v23_s0_5 = (0 : Int32) := by rw [hv23_s0_5, if_pos hc15_4]
      rw [ev23_s0_5] at J15_5
      exact J15_5
    · skip
      refine Gl.st (B := (s₁.setTop (mkF m 18 L3 []))) (fun t k => XS.ifNo X0.here hx rfl (hb hby at_15) rfl ((if0 _ _).trans (feq hc15_4).1) k) ?_
      refine Gl.st (B := (s₁.setTop (mkF m 19 L3 [(.int (1 : Int32))]))) (fun t k => XS.iconst X0.here hx rfl (hb hby at_18) k) ?_
      refine Gl.st (B := (s₁.setTop (mkF m 23 L3 [(.int (1 : Int32))]))) (fun t k => XS.goto X0.here hx rfl (pc0 := 19) (pc' := 23) rfl (hb hby at_19) (by decide) (by decide) k) ?_
      have ev23_s0_5 : v23_s0_5 = (1 : Int32) := by rw [hv23_s0_5, if_neg hc15_4]
      rw [ev23_s0_5] at J15_5
      exact J15_5
  obtain ⟨L6, hL6⟩ : ∃ z : Array Slot, z = #[.val (.int p1), .val (.int p2), .val (.int p3), .val (.int v11_s0_2), .val (.int v23_s0_5), .unset, .unset, .unset, .unset] := ⟨_, rfl⟩
  refine Gl.st (B := (s₁.setTop (mkF m 25 L6 []))) (fun t k => XS.istore X0.here hx rfl (hb hby at_23) rfl (l' := L6) (stAt hL3 hL6 rfl rfl) k) ?_
  refine Gl.st (B := (s₁.setTop (mkF m 26 L6 [(.int (2 : Int32))]))) (fun t k => XS.iconst X0.here hx rfl (hb hby at_25) k) ?_
  obtain ⟨T7, h7, k7, X7, e7, E7, A7, Ex7, st7⟩ := newPE X0 hx hZ (tw hw 0 rfl) e0 (g := (mkF m 26 L6 [(.int (2 : Int32))])) rfl (hb hby at_26) rfl (by decide) (cap := 2) (by decide) (by decide) (by decide) (by decide) (ad := "[B") rfl
  obtain ⟨b7, gq7⟩ : ∃ z, z = h0.size := ⟨_, rfl⟩
  rw [← gq7] at A7 Ex7 st7
  have V7 : Arv Z h7 b7 k7 .byte (2 : Int32) [(.int (0 : Int32)), (.int (0 : Int32))] (.int (0 : Int32)) := (Arv.new A7 (by decide)).pad (pad_rep [] (.int (0 : Int32)) 2)
  have g_b7 : n0 ≤ b7 := Nat.le_trans Z0 (Nat.le_of_eq gq7.symm)
  have lt_b7 := V7.lt
  have Zc8 : n0 ≤ h7.size := Nat.le_trans Z0 E7.1
  refine Gl.st (B := (T7.setTop (mkF m 28 L6 [(.ref b7)]))) st7 ?_
  obtain ⟨L9, hL9⟩ : ∃ z : Array Slot, z = #[.val (.int p1), .val (.int p2), .val (.int p3), .val (.int v11_s0_2), .val (.int v23_s0_5), .val (.ref b7), .unset, .unset, .unset] := ⟨_, rfl⟩
  refine Gl.st (B := (T7.setTop (mkF m 30 L9 []))) (fun t k => XS.astore X7.here hx rfl (hb hby at_28) rfl rfl (l' := L9) (stAt hL6 hL9 rfl rfl) k) ?_
  refine Gl.st (B := (T7.setTop (mkF m 32 L9 [(.ref b7)]))) (fun t k => XS.aload X7.here hx rfl (hb hby at_30) (ldAt hL9 rfl) rfl k) ?_
  refine Gl.st (B := (T7.setTop (mkF m 33 L9 [(.int (0 : Int32)), (.ref b7)]))) (fun t k => XS.iconst X7.here hx rfl (hb hby at_32) k) ?_
  refine Gl.st (B := (T7.setTop (mkF m 34 L9 [(.int p2), (.int (0 : Int32)), (.ref b7)]))) (fun t k => XS.iloadN X7.here hx rfl (hb hby at_33) (ldAt hL9 rfl) k) ?_
  refine Gl.st (B := (T7.setTop (mkF m 35 L9 [(.int (p2.toInt8.toInt32)), (.int (0 : Int32)), (.ref b7)]))) (fun t k => XS.i2b X7.here hx rfl (hb hby at_34) rfl k) ?_
  obtain ⟨x35_10, hx35_10⟩ : ∃ z : Int32, z = (p2.toInt8.toInt32) := ⟨_, rfl⟩
  refine Gl.cast (B := (T7.setTop (mkF m 35 L9 [(.int x35_10), (.int (0 : Int32)), (.ref b7)]))) (by rw [hx35_10]) ?_
  obtain ⟨cl11, Ar11, q11, S11, P11, H11, G11⟩ := (id V7)
  have hin35_11 : ¬ ((0 : Int32) < 0 ∨ cl11.slots.size ≤ ((0 : Int32)).toNatClampNeg) := inb_of S11 ⟨by decide, by decide⟩
  obtain ⟨T11, h11, X11, e11, W11, st11⟩ := stB X7 hx hZ e7 Ar11 (j := (0 : Int32)) hin35_11 (g := (mkF m 35 L9 [(.int x35_10), (.int (0 : Int32)), (.ref b7)])) rfl rfl (hb hby at_35)
  have V11 : Arv Z h11 b7 k7 .byte (2 : Int32) [(.int (nar .byte x35_10)), (.int (0 : Int32))] (.int (0 : Int32)) := Arv.set Ar11 q11 S11 P11 H11 G11 (fits_nar_byte _) W11 0 rfl (Nat.le_of_ble_eq_true rfl)
  have Zc12 : n0 ≤ h11.size := Nat.le_trans Zc8 (Nat.le_of_eq W11.size.symm)
  have N11 := Fr.snoc X11 N0 g_b7
  refine Gl.st (B := (T11.setTop (mkF m 36 L9 []))) st11 ?_
  refine Gl.st (B := (T11.setTop (mkF m 38 L9 [(.ref b7)]))) (fun t k => XS.aload X11.here hx rfl (hb hby at_36) (ldAt hL9 rfl) rfl k) ?_
  refine Gl.st (B := (T11.setTop (mkF m 39 L9 [(.int (1 : Int32)), (.ref b7)]))) (fun t k => XS.iconst X11.here hx rfl (hb hby at_38) k) ?_
  refine Gl.st (B := (T11.setTop (mkF m 40 L9 [(.int p2), (.int (1 : Int32)), (.ref b7)]))) (fun t k => XS.iloadN X11.here hx rfl (hb hby at_39) (ldAt hL9 rfl) k) ?_
  refine Gl.st (B := (T11.setTop (mkF m 42 L9 [(.int (8 : Int32)), (.int p2), (.int (1 : Int32)), (.ref b7)]))) (fun t k => XS.bipush X11.here hx rfl (hb hby at_40) k) ?_
  refine Gl.st (B := (T11.setTop (mkF m 43 L9 [(.int (p2 >>> ((8 : Int32) &&& 31))), (.int (1 : Int32)), (.ref b7)]))) (fun t k => XS.ishr X11.here hx rfl (hb hby at_42) rfl k) ?_
  refine Gl.st (B := (T11.setTop (mkF m 44 L9 [(.int ((p2 >>> ((8 : Int32) &&& 31)).toInt8.toInt32)), (.int (1 : Int32)), (.ref b7)]))) (fun t k => XS.i2b X11.here hx rfl (hb hby at_43) rfl k) ?_
  obtain ⟨x44_13, hx44_13⟩ : ∃ z : Int32, z = ((p2 >>> ((8 : Int32) &&& 31)).toInt8.toInt32) := ⟨_, rfl⟩
  refine Gl.cast (B := (T11.setTop (mkF m 44 L9 [(.int x44_13), (.int (1 : Int32)), (.ref b7)]))) (by rw [hx44_13]) ?_
  obtain ⟨cl14, Ar14, q14, S14, P14, H14, G14⟩ := (id V11)
  have hin44_14 : ¬ ((1 : Int32) < 0 ∨ cl14.slots.size ≤ ((1 : Int32)).toNatClampNeg) := inb_of S14 ⟨by decide, by decide⟩
  obtain ⟨T14, h14, X14, e14, W14, st14⟩ := stB X11 hx hZ e11 Ar14 (j := (1 : Int32)) hin44_14 (g := (mkF m 44 L9 [(.int x44_13), (.int (1 : Int32)), (.ref b7)])) rfl rfl (hb hby at_44)
  have V14 : Arv Z h14 b7 k7 .byte (2 : Int32) [(.int (nar .byte x35_10)), (.int (nar .byte x44_13))] (.int (0 : Int32)) := Arv.set Ar14 q14 S14 P14 H14 G14 (fits_nar_byte _) W14 1 rfl (Nat.le_of_ble_eq_true rfl)
  have Zc15 : n0 ≤ h14.size := Nat.le_trans Zc12 (Nat.le_of_eq W14.size.symm)
  have N14 := Fr.snoc X14 N11 g_b7
  refine Gl.st (B := (T14.setTop (mkF m 45 L9 []))) st14 ?_
  refine Gl.st (B := (T14.setTop (mkF m 46 L9 [.null]))) (fun t k => XS.aconstNull X14.here hx rfl (hb hby at_45) k) ?_
  obtain ⟨L16, hL16⟩ : ∃ z : Array Slot, z = #[.val (.int p1), .val (.int p2), .val (.int p3), .val (.int v11_s0_2), .val (.int v23_s0_5), .val (.ref b7), .val .null, .unset, .unset] := ⟨_, rfl⟩
  refine Gl.st (B := (T14.setTop (mkF m 48 L16 []))) (fun t k => XS.astore X14.here hx rfl (hb hby at_46) rfl rfl (l' := L16) (stAt hL9 hL16 rfl rfl) k) ?_
  have hs17 : v11_s0_2 = (0 : Int32) ∨ v11_s0_2 = (1 : Int32) := by
    rw [hv11_s0_2]; split <;> simp
  rcases hs17 with hk | hk
  · skip
    subst hk
    refine Gl.st (B := (T14.setTop (mkF m 49 L16 [(.int (0 : Int32))]))) (fun t k => XS.iloadN X14.here hx rfl (hb hby at_48) (ldAt hL16 rfl) k) ?_
    refine Gl.st (B := (T14.setTop (mkF m 52 L16 []))) (fun t k => XS.ifNo X14.here hx rfl (hb hby at_49) rfl (by decide) k) ?_
    have hs18 : v23_s0_5 = (0 : Int32) ∨ v23_s0_5 = (1 : Int32) := by
      rw [hv23_s0_5]; split <;> simp
    rcases hs18 with hk | hk
    · skip
      subst hk
      refine Gl.st (B := (T14.setTop (mkF m 54 L16 [(.int (0 : Int32))]))) (fun t k => XS.iload X14.here hx rfl (hb hby at_52) (ldAt hL16 rfl) k) ?_
      refine Gl.st (B := (T14.setTop (mkF m 65 L16 []))) (fun t k => XS.ifYes X14.here hx rfl (pc0 := 54) (pc' := 65) rfl (hb hby at_54) rfl (by decide) (by decide) (by decide) k) ?_
      refine Gl.st (B := (T14.setTop (mkF m 66 L16 [(.int (1 : Int32))]))) (fun t k => XS.iconst X14.here hx rfl (hb hby at_65) k) ?_
      obtain ⟨T19, h19, k19, X19, e19, E19, A19, Ex19, st19⟩ := newPE X14 hx hZ (tw hw 0 rfl) e14 (g := (mkF m 66 L16 [(.int (1 : Int32))])) rfl (hb hby at_66) rfl (by decide) (cap := 1) (by decide) (by decide) (by decide) (by decide) (ad := "[B") rfl
      obtain ⟨b19, gq19⟩ : ∃ z, z = h14.size := ⟨_, rfl⟩
      rw [← gq19] at A19 Ex19 st19
      have V19 : Arv Z h19 b19 k19 .byte (1 : Int32) [(.int (0 : Int32))] (.int (0 : Int32)) := (Arv.new A19 (by decide)).pad (pad_rep [] (.int (0 : Int32)) 1)
      have g_b19 : n0 ≤ b19 := Nat.le_trans Zc15 (Nat.le_of_eq gq19.symm)
      have lt_b19 := V19.lt
      have Zc20 : n0 ≤ h19.size := Nat.le_trans Zc15 E19.1
      refine Gl.st (B := (T19.setTop (mkF m 68 L16 [(.ref b19)]))) st19 ?_
      obtain ⟨L21, hL21⟩ : ∃ z : Array Slot, z = #[.val (.int p1), .val (.int p2), .val (.int p3), .val (.int (0 : Int32)), .val (.int (0 : Int32)), .val (.ref b7), .val (.ref b19), .unset, .unset] := ⟨_, rfl⟩
      refine Gl.st (B := (T19.setTop (mkF m 70 L21 []))) (fun t k => XS.astore X19.here hx rfl (hb hby at_68) rfl rfl (l' := L21) (stAt hL16 hL21 rfl rfl) k) ?_
      refine Gl.st (B := (T19.setTop (mkF m 72 L21 [(.ref b19)]))) (fun t k => XS.aload X19.here hx rfl (hb hby at_70) (ldAt hL21 rfl) rfl k) ?_
      refine Gl.st (B := (T19.setTop (mkF m 73 L21 [(.int (0 : Int32)), (.ref b19)]))) (fun t k => XS.iconst X19.here hx rfl (hb hby at_72) k) ?_
      refine Gl.st (B := (T19.setTop (mkF m 74 L21 [(.int p3), (.int (0 : Int32)), (.ref b19)]))) (fun t k => XS.iloadN X19.here hx rfl (hb hby at_73) (ldAt hL21 rfl) k) ?_
      refine Gl.st (B := (T19.setTop (mkF m 75 L21 [(.int (p3.toInt8.toInt32)), (.int (0 : Int32)), (.ref b19)]))) (fun t k => XS.i2b X19.here hx rfl (hb hby at_74) rfl k) ?_
      obtain ⟨x75_22, hx75_22⟩ : ∃ z : Int32, z = (p3.toInt8.toInt32) := ⟨_, rfl⟩
      refine Gl.cast (B := (T19.setTop (mkF m 75 L21 [(.int x75_22), (.int (0 : Int32)), (.ref b19)]))) (by rw [hx75_22]) ?_
      obtain ⟨cl23, Ar23, q23, S23, P23, H23, G23⟩ := (id V19)
      have hin75_23 : ¬ ((0 : Int32) < 0 ∨ cl23.slots.size ≤ ((0 : Int32)).toNatClampNeg) := inb_of S23 ⟨by decide, by decide⟩
      obtain ⟨T23, h23, X23, e23, W23, st23⟩ := stB X19 hx hZ e19 Ar23 (j := (0 : Int32)) hin75_23 (g := (mkF m 75 L21 [(.int x75_22), (.int (0 : Int32)), (.ref b19)])) rfl rfl (hb hby at_75)
      have V23 : Arv Z h23 b19 k19 .byte (1 : Int32) [(.int (nar .byte x75_22))] (.int (0 : Int32)) := Arv.set Ar23 q23 S23 P23 H23 G23 (fits_nar_byte _) W23 0 rfl (Nat.le_of_ble_eq_true rfl)
      have Zc24 : n0 ≤ h23.size := Nat.le_trans Zc20 (Nat.le_of_eq W23.size.symm)
      have N23 := Fr.snoc X23 N14 g_b19
      refine Gl.st (B := (T23.setTop (mkF m 76 L21 []))) st23 ?_
      obtain ⟨T25, h25, X25, e25, E25, A25, D25, -, st25⟩ := newO X23 hx hZ hown (tw hw 1 rfl) (tw hw 2 rfl) (tw hw 3 rfl) e23 (g := (mkF m 76 L21 [])) rfl (hb hby at_76) (by decide) (by decide)
      obtain ⟨b25, gq25⟩ : ∃ z, z = h23.size := ⟨_, rfl⟩
      rw [← gq25] at A25 D25 st25
      have g_b25 : n0 ≤ b25 := Nat.le_trans Zc24 (Nat.le_of_eq gq25.symm)
      have lt_b25 := A25.lt
      have Zc26 : n0 ≤ h25.size := Nat.le_trans Zc24 E25.1
      have F25_key : Fld Z h25 b25 "com/example/tidemark/tidemark/core/Write" "key" "[B" .null := D25 (Or.inr (tw hw 42 rfl)) (ty := (.array .byte)) (by decide)
      have F25_value : Fld Z h25 b25 "com/example/tidemark/tidemark/core/Write" "value" "[B" .null := D25 (Or.inr (tw hw 44 rfl)) (ty := (.array .byte)) (by decide)
      refine Gl.st (B := (T25.setTop (mkF m 79 L21 [(.ref b25)]))) st25 ?_
      refine Gl.st (B := (T25.setTop (mkF m 80 L21 [(.ref b25), (.ref b25)]))) (fun t k => XS.dup X25.here hx rfl (hb hby at_79) rfl rfl k) ?_
      refine Gl.st (B := (T25.setTop (mkF m 82 L21 [(.ref b7), (.ref b25), (.ref b25)]))) (fun t k => XS.aload X25.here hx rfl (hb hby at_80) (ldAt hL21 rfl) rfl k) ?_
      refine Gl.st (B := (T25.setTop (mkF m 84 L21 [(.ref b19), (.ref b7), (.ref b25), (.ref b25)]))) (fun t k => XS.aload X25.here hx rfl (hb hby at_82) (ldAt hL21 rfl) rfl k) ?_
      have ne_b7_b19_28 : b7 ≠ b19 := Nat.ne_of_lt (Nat.lt_of_lt_of_le lt_b7 (Nat.le_trans (Nat.le_of_eq W11.size.symm) (Nat.le_trans (Nat.le_of_eq W14.size.symm) (Nat.le_of_eq gq19.symm))))
      have c29 := (((V14.ext E19).other W23 ne_b7_b19_28).ext E25)
      obtain ⟨cl30, Ar30, q30, S30, P30, H30, G30⟩ := (id c29)
      have c31 := (V23.ext E25)
      obtain ⟨cl32, Ar32, q32, S32, P32, H32, G32⟩ := (id c31)
      have hp84_33 : ¬ ((4096 : Int32) < (2 : Int32)) := by
        first | assumption | decide | omega
      have hp84_34 : ¬ ((2 : Int32) = (0 : Int32)) := by
        first | assumption | decide | omega
      have hp84_35 : ¬ ((1048576 : Int32) < (1 : Int32)) := by
        first | assumption | decide | omega
      obtain ⟨_, _, ⟨T27, L27q, k27, n27⟩, -, X27, hs27, gr27, ⟨Lc27, hQ27, l27, y27, z27⟩, st27⟩ := X25.specialBackS hx (y := (⟨"com/example/tidemark/tidemark/core/Write", "<init>", "([B[B)V"⟩ : MethodName)) rfl hown (mvT hZ (tw hw 4 rfl)) (mvT hZ (tw hw 5 rfl)) (mvT hZ (tw hw 6 rfl)) (by decide) (backOfS (W := 1) (rm1 l Z a0 hw [] b25 b7 b19 .null .null cl30 (2 : Int32) cl32 (1 : Int32) h25 n0 Zc26 F25_key F25_value Ar30 S30 P30 Ar32 S32 P32 hp84_33 hp84_34 hp84_35 A25 g_b25) hZ (tw hw 6 rfl) (tw hw 3 rfl) (by decide) (by decide)) (g := (mkF m 84 L21 [(.ref b19), (.ref b7), (.ref b25), (.ref b25)])) rfl (szAt hml hL21 rfl) (Steps.refl _) (a := b25) (argsL := [(.ref b7), (.ref b19)]) (rest := [(.ref b25)]) (lenOf pd_0_0 rfl) rfl (by show 2 * 0 + _ ≤ _; exact Nat.le_of_eq rfl) (hb hby at_84) (fun _ _ => ⟨rfl, e25, (by decide : 3 + 4 ≤ _), (by decide : 5 + 40 ≤ _)⟩)
      dsimp only [Pt.U, Pt.locs, Pt.cells, Pt.slots] at X27 l27 y27 z27 st27 hQ27 hs27 gr27
      subst l27 y27 z27
      obtain ⟨X27, hS27, hZ, hown⟩ := rebS hS0 (n1 := T25.heap.size) (by rw [e25]; exact (Nat.le_trans (Nat.le_trans (Nat.le_trans (Nat.le_trans (Nat.le_trans (Nat.le_trans (Nat.zero_le _) E7.1) (Nat.le_of_eq W11.size.symm)) (Nat.le_of_eq W14.size.symm)) E19.1) (Nat.le_of_eq W23.size.symm)) E25.1)) X27 hs27 gr27 hZ hown
      obtain ⟨rfl, N27q, Kc27, fq27_0, fq27_1, fq27_2⟩ := hQ27
      have Zc36 : n0 ≤ T27.heap.size := Nat.le_trans Zc26 Kc27.1
      have N27 := Fr.app N23 N27q
      refine Gl.st (B := (T27.setTop (mkF m 87 L21 [(.ref b25)]))) (fun t k => st27.trans k) ?_
      obtain ⟨L37, hL37⟩ : ∃ z : Array Slot, z = #[.val (.int p1), .val (.int p2), .val (.int p3), .val (.int (0 : Int32)), .val (.int (0 : Int32)), .val (.ref b7), .val (.ref b19), .val (.ref b25), .unset] := ⟨_, rfl⟩
      refine Gl.st (B := (T27.setTop (mkF m 89 L37 []))) (fun t k => XS.astore X27.here hx rfl (hb hby at_87) rfl rfl (l' := L37) (stAt hL21 hL37 rfl rfl) k) ?_
      refine Gl.st (B := (T27.setTop (mkF m 91 L37 [(.ref b25)]))) (fun t k => XS.aload X27.here hx rfl (hb hby at_89) (ldAt hL37 rfl) rfl k) ?_
      obtain ⟨cq38, kq38, q38a, q38b, q38c⟩ := isOf hZ rfl fq27_0
      obtain ⟨_, _, ⟨T38, L38q, k38, n38⟩, -, X38, ⟨Lc38, hQ38, l38, y38, z38⟩, st38⟩ := X27.virtualBack hx (y := (⟨"com/example/tidemark/tidemark/core/Write", "isDelete", "()Z"⟩ : MethodName)) (z := (⟨"com/example/tidemark/tidemark/core/Write", "isDelete", "()Z"⟩ : MethodName)) hown (mvT hZ (tw hw 45 rfl)) (mvT hZ (tw hw 46 rfl)) (notFace_of_selects (args := #[]) (mvT hZ (tw hw 48 rfl))) (mvT hZ (tw hw 48 rfl)) (mvT hZ (tw hw 47 rfl)) (by decide) (backOf (W := 0) (rm8 l Z a0 hw [] b25 b19 T27.heap n0 Zc36 fq27_2) hZ (tw hw 49 rfl) (tw hw 3 rfl) (by decide) (by decide)) q38a q38c (g := (mkF m 91 L37 [(.ref b25)])) rfl (szAt hml hL37 rfl) (Steps.refl _) (argsL := []) (rest := []) (lenOf pd_0_1 rfl) rfl (by show 2 * 0 + _ ≤ _; exact Nat.le_of_eq rfl) (hb hby at_91) (fun _ _ => ⟨rfl, rfl, (by decide : 7 + 0 ≤ _), (by decide : 45 + 0 ≤ _)⟩)
      dsimp only [Pt.U, Pt.locs, Pt.cells, Pt.slots] at X38 l38 y38 z38 st38 hQ38
      subst l38 y38 z38
      obtain ⟨rfl, N38q, eh38⟩ := hQ38
      have N38 := Fr.app N27 N38q
      refine Gl.st (B := (T38.setTop (mkF m 94 L37 [(.int (0 : Int32))]))) (fun t k => st38.trans k) ?_
      obtain ⟨L39, hL39⟩ : ∃ z : Array Slot, z = #[.val (.int p1), .val (.int p2), .val (.int p3), .val (.int (0 : Int32)), .val (.int (0 : Int32)), .val (.ref b7), .val (.ref b19), .val (.ref b25), .val (.int (0 : Int32))] := ⟨_, rfl⟩
      refine Gl.st (B := (T38.setTop (mkF m 96 L39 []))) (fun t k => XS.istore X38.here hx rfl (hb hby at_94) rfl (l' := L39) (stAt hL37 hL39 rfl rfl) k) ?_
      refine Gl.st (B := (T38.setTop (mkF m 98 L39 [(.int (0 : Int32))]))) (fun t k => XS.iload X38.here hx rfl (hb hby at_96) (ldAt hL39 rfl) k) ?_
      refine Gl.st (B := (T38.setTop (mkF m 99 L39 [(.int (0 : Int32)), (.int (0 : Int32))]))) (fun t k => XS.iloadN X38.here hx rfl (hb hby at_98) (ldAt hL39 rfl) k) ?_
      refine Gl.st (B := (T38.setTop (mkF m 102 L39 []))) (fun t k => XS.icmpNo X38.here hx rfl (hb hby at_99) rfl (by decide) k) ?_
      refine Gl.st (B := (T38.setTop (mkF m 103 L39 [(.int (1 : Int32))]))) (fun t k => XS.iconst X38.here hx rfl (hb hby at_102) k) ?_
      refine Gl.st (B := (T38.setTop (mkF m 107 L39 [(.int (1 : Int32))]))) (fun t k => XS.goto X38.here hx rfl (pc0 := 103) (pc' := 107) rfl (hb hby at_103) (by decide) (by decide) k) ?_
      obtain ⟨fs, hr, hrun, hended, hRW⟩ := X38.leaveW hS27 (by rw [eh38]; exact (Nat.le_refl _)) (v := some (.int (nar .boolean (1 : Int32)))) (fun h => by rw [Bd.returns] at h; cases h)
      refine Gl.fin (retN X38 hx (t := .boolean) Bd.returns (by simp) (hb hby at_107) hr) hrun hended ⟨_, _, rfl, ?_, hRW.1, hRW.2.1, hRW.2.2.1, hRW.2.2.2.mono (by decide) (by decide)⟩
      show Q0 Z p1 p2 p3 h0 n0 _ T38.heap _
      rw [eh38]
      exact ⟨rfl, N38⟩
    · skip
      subst hk
      refine Gl.st (B := (T14.setTop (mkF m 54 L16 [(.int (1 : Int32))]))) (fun t k => XS.iload X14.here hx rfl (hb hby at_52) (ldAt hL16 rfl) k) ?_
      refine Gl.st (B := (T14.setTop (mkF m 57 L16 []))) (fun t k => XS.ifNo X14.here hx rfl (hb hby at_54) rfl (by decide) k) ?_
      refine Gl.st (B := (T14.setTop (mkF m 58 L16 [(.int (0 : Int32))]))) (fun t k => XS.iconst X14.here hx rfl (hb hby at_57) k) ?_
      obtain ⟨T40, h40, k40, X40, e40, E40, A40, Ex40, st40⟩ := newPE X14 hx hZ (tw hw 0 rfl) e14 (g := (mkF m 58 L16 [(.int (0 : Int32))])) rfl (hb hby at_58) rfl (by decide) (cap := 0) (by decide) (by decide) (by decide) (by decide) (ad := "[B") rfl
      obtain ⟨b40, gq40⟩ : ∃ z, z = h14.size := ⟨_, rfl⟩
      rw [← gq40] at A40 Ex40 st40
      have V40 : Arv Z h40 b40 k40 .byte (0 : Int32) [] (.int (0 : Int32)) := Arv.new A40 (by decide)
      have g_b40 : n0 ≤ b40 := Nat.le_trans Zc15 (Nat.le_of_eq gq40.symm)
      have lt_b40 := V40.lt
      have Zc41 : n0 ≤ h40.size := Nat.le_trans Zc15 E40.1
      refine Gl.st (B := (T40.setTop (mkF m 60 L16 [(.ref b40)]))) st40 ?_
      obtain ⟨L42, hL42⟩ : ∃ z : Array Slot, z = #[.val (.int p1), .val (.int p2), .val (.int p3), .val (.int (0 : Int32)), .val (.int (1 : Int32)), .val (.ref b7), .val (.ref b40), .unset, .unset] := ⟨_, rfl⟩
      refine Gl.st (B := (T40.setTop (mkF m 62 L42 []))) (fun t k => XS.astore X40.here hx rfl (hb hby at_60) rfl rfl (l' := L42) (stAt hL16 hL42 rfl rfl) k) ?_
      refine Gl.st (B := (T40.setTop (mkF m 76 L42 []))) (fun t k => XS.goto X40.here hx rfl (pc0 := 62) (pc' := 76) rfl (hb hby at_62) (by decide) (by decide) k) ?_
      obtain ⟨T43, h43, X43, e43, E43, A43, D43, -, st43⟩ := newO X40 hx hZ hown (tw hw 1 rfl) (tw hw 2 rfl) (tw hw 3 rfl) e40 (g := (mkF m 76 L42 [])) rfl (hb hby at_76) (by decide) (by decide)
      obtain ⟨b43, gq43⟩ : ∃ z, z = h40.size := ⟨_, rfl⟩
      rw [← gq43] at A43 D43 st43
      have g_b43 : n0 ≤ b43 := Nat.le_trans Zc41 (Nat.le_of_eq gq43.symm)
      have lt_b43 := A43.lt
      have Zc44 : n0 ≤ h43.size := Nat.le_trans Zc41 E43.1
      have F43_key : Fld Z h43 b43 "com/example/tidemark/tidemark/core/Write" "key" "[B" .null := D43 (Or.inr (tw hw 42 rfl)) (ty := (.array .byte)) (by decide)
      have F43_value : Fld Z h43 b43 "com/example/tidemark/tidemark/core/Write" "value" "[B" .null := D43 (Or.inr (tw hw 44 rfl)) (ty := (.array .byte)) (by decide)
      refine Gl.st (B := (T43.setTop (mkF m 79 L42 [(.ref b43)]))) st43 ?_
      refine Gl.st (B := (T43.setTop (mkF m 80 L42 [(.ref b43), (.ref b43)]))) (fun t k => XS.dup X43.here hx rfl (hb hby at_79) rfl rfl k) ?_
      refine Gl.st (B := (T43.setTop (mkF m 82 L42 [(.ref b7), (.ref b43), (.ref b43)]))) (fun t k => XS.aload X43.here hx rfl (hb hby at_80) (ldAt hL42 rfl) rfl k) ?_
      refine Gl.st (B := (T43.setTop (mkF m 84 L42 [(.ref b40), (.ref b7), (.ref b43), (.ref b43)]))) (fun t k => XS.aload X43.here hx rfl (hb hby at_82) (ldAt hL42 rfl) rfl k) ?_
      have c46 := ((V14.ext E40).ext E43)
      obtain ⟨cl47, Ar47, q47, S47, P47, H47, G47⟩ := (id c46)
      have c48 := (V40.ext E43)
      obtain ⟨cl49, Ar49, q49, S49, P49, H49, G49⟩ := (id c48)
      have hp84_50 : ¬ ((4096 : Int32) < (2 : Int32)) := by
        first | assumption | decide | omega
      have hp84_51 : ¬ ((2 : Int32) = (0 : Int32)) := by
        first | assumption | decide | omega
      have hp84_52 : ¬ ((1048576 : Int32) < (0 : Int32)) := by
        first | assumption | decide | omega
      obtain ⟨_, _, ⟨T45, L45q, k45, n45⟩, -, X45, hs45, gr45, ⟨Lc45, hQ45, l45, y45, z45⟩, st45⟩ := X43.specialBackS hx (y := (⟨"com/example/tidemark/tidemark/core/Write", "<init>", "([B[B)V"⟩ : MethodName)) rfl hown (mvT hZ (tw hw 4 rfl)) (mvT hZ (tw hw 5 rfl)) (mvT hZ (tw hw 6 rfl)) (by decide) (backOfS (W := 1) (rm1 l Z a0 hw [] b43 b7 b40 .null .null cl47 (2 : Int32) cl49 (0 : Int32) h43 n0 Zc44 F43_key F43_value Ar47 S47 P47 Ar49 S49 P49 hp84_50 hp84_51 hp84_52 A43 g_b43) hZ (tw hw 6 rfl) (tw hw 3 rfl) (by decide) (by decide)) (g := (mkF m 84 L42 [(.ref b40), (.ref b7), (.ref b43), (.ref b43)])) rfl (szAt hml hL42 rfl) (Steps.refl _) (a := b43) (argsL := [(.ref b7), (.ref b40)]) (rest := [(.ref b43)]) (lenOf pd_0_0 rfl) rfl (by show 2 * 0 + _ ≤ _; exact Nat.le_of_eq rfl) (hb hby at_84) (fun _ _ => ⟨rfl, e43, (by decide : 3 + 4 ≤ _), (by decide : 4 + 40 ≤ _)⟩)
      dsimp only [Pt.U, Pt.locs, Pt.cells, Pt.slots] at X45 l45 y45 z45 st45 hQ45 hs45 gr45
      subst l45 y45 z45
      obtain ⟨X45, hS45, hZ, hown⟩ := rebS hS0 (n1 := T43.heap.size) (by rw [e43]; exact (Nat.le_trans (Nat.le_trans (Nat.le_trans (Nat.le_trans (Nat.le_trans (Nat.zero_le _) E7.1) (Nat.le_of_eq W11.size.symm)) (Nat.le_of_eq W14.size.symm)) E40.1) E43.1)) X45 hs45 gr45 hZ hown
      obtain ⟨rfl, N45q, Kc45, fq45_0, fq45_1, fq45_2⟩ := hQ45
      have Zc53 : n0 ≤ T45.heap.size := Nat.le_trans Zc44 Kc45.1
      have N45 := Fr.app N14 N45q
      refine Gl.st (B := (T45.setTop (mkF m 87 L42 [(.ref b43)]))) (fun t k => st45.trans k) ?_
      obtain ⟨L54, hL54⟩ : ∃ z : Array Slot, z = #[.val (.int p1), .val (.int p2), .val (.int p3), .val (.int (0 : Int32)), .val (.int (1 : Int32)), .val (.ref b7), .val (.ref b40), .val (.ref b43), .unset] := ⟨_, rfl⟩
      refine Gl.st (B := (T45.setTop (mkF m 89 L54 []))) (fun t k => XS.astore X45.here hx rfl (hb hby at_87) rfl rfl (l' := L54) (stAt hL42 hL54 rfl rfl) k) ?_
      refine Gl.st (B := (T45.setTop (mkF m 91 L54 [(.ref b43)]))) (fun t k => XS.aload X45.here hx rfl (hb hby at_89) (ldAt hL54 rfl) rfl k) ?_
      obtain ⟨cq55, kq55, q55a, q55b, q55c⟩ := isOf hZ rfl fq45_0
      obtain ⟨_, _, ⟨T55, L55q, k55, n55⟩, -, X55, ⟨Lc55, hQ55, l55, y55, z55⟩, st55⟩ := X45.virtualBack hx (y := (⟨"com/example/tidemark/tidemark/core/Write", "isDelete", "()Z"⟩ : MethodName)) (z := (⟨"com/example/tidemark/tidemark/core/Write", "isDelete", "()Z"⟩ : MethodName)) hown (mvT hZ (tw hw 45 rfl)) (mvT hZ (tw hw 46 rfl)) (notFace_of_selects (args := #[]) (mvT hZ (tw hw 48 rfl))) (mvT hZ (tw hw 48 rfl)) (mvT hZ (tw hw 47 rfl)) (by decide) (backOf (W := 0) (rm8 l Z a0 hw [] b43 b40 T45.heap n0 Zc53 fq45_2) hZ (tw hw 49 rfl) (tw hw 3 rfl) (by decide) (by decide)) q55a q55c (g := (mkF m 91 L54 [(.ref b43)])) rfl (szAt hml hL54 rfl) (Steps.refl _) (argsL := []) (rest := []) (lenOf pd_0_1 rfl) rfl (by show 2 * 0 + _ ≤ _; exact Nat.le_of_eq rfl) (hb hby at_91) (fun _ _ => ⟨rfl, rfl, (by decide : 7 + 0 ≤ _), (by decide : 44 + 0 ≤ _)⟩)
      dsimp only [Pt.U, Pt.locs, Pt.cells, Pt.slots] at X55 l55 y55 z55 st55 hQ55
      subst l55 y55 z55
      obtain ⟨rfl, N55q, eh55⟩ := hQ55
      have N55 := Fr.app N45 N55q
      refine Gl.st (B := (T55.setTop (mkF m 94 L54 [(.int (0 : Int32))]))) (fun t k => st55.trans k) ?_
      obtain ⟨L56, hL56⟩ : ∃ z : Array Slot, z = #[.val (.int p1), .val (.int p2), .val (.int p3), .val (.int (0 : Int32)), .val (.int (1 : Int32)), .val (.ref b7), .val (.ref b40), .val (.ref b43), .val (.int (0 : Int32))] := ⟨_, rfl⟩
      refine Gl.st (B := (T55.setTop (mkF m 96 L56 []))) (fun t k => XS.istore X55.here hx rfl (hb hby at_94) rfl (l' := L56) (stAt hL54 hL56 rfl rfl) k) ?_
      refine Gl.st (B := (T55.setTop (mkF m 98 L56 [(.int (0 : Int32))]))) (fun t k => XS.iload X55.here hx rfl (hb hby at_96) (ldAt hL56 rfl) k) ?_
      refine Gl.st (B := (T55.setTop (mkF m 99 L56 [(.int (0 : Int32)), (.int (0 : Int32))]))) (fun t k => XS.iloadN X55.here hx rfl (hb hby at_98) (ldAt hL56 rfl) k) ?_
      refine Gl.st (B := (T55.setTop (mkF m 102 L56 []))) (fun t k => XS.icmpNo X55.here hx rfl (hb hby at_99) rfl (by decide) k) ?_
      refine Gl.st (B := (T55.setTop (mkF m 103 L56 [(.int (1 : Int32))]))) (fun t k => XS.iconst X55.here hx rfl (hb hby at_102) k) ?_
      refine Gl.st (B := (T55.setTop (mkF m 107 L56 [(.int (1 : Int32))]))) (fun t k => XS.goto X55.here hx rfl (pc0 := 103) (pc' := 107) rfl (hb hby at_103) (by decide) (by decide) k) ?_
      obtain ⟨fs, hr, hrun, hended, hRW⟩ := X55.leaveW hS45 (by rw [eh55]; exact (Nat.le_refl _)) (v := some (.int (nar .boolean (1 : Int32)))) (fun h => by rw [Bd.returns] at h; cases h)
      refine Gl.fin (retN X55 hx (t := .boolean) Bd.returns (by simp) (hb hby at_107) hr) hrun hended ⟨_, _, rfl, ?_, hRW.1, hRW.2.1, hRW.2.2.1, hRW.2.2.2.mono (by decide) (by decide)⟩
      show Q0 Z p1 p2 p3 h0 n0 _ T55.heap _
      rw [eh55]
      exact ⟨rfl, N55⟩
  · skip
    subst hk
    refine Gl.st (B := (T14.setTop (mkF m 49 L16 [(.int (1 : Int32))]))) (fun t k => XS.iloadN X14.here hx rfl (hb hby at_48) (ldAt hL16 rfl) k) ?_
    refine Gl.st (B := (T14.setTop (mkF m 76 L16 []))) (fun t k => XS.ifYes X14.here hx rfl (pc0 := 49) (pc' := 76) rfl (hb hby at_49) rfl (by decide) (by decide) (by decide) k) ?_
    obtain ⟨T57, h57, X57, e57, E57, A57, D57, -, st57⟩ := newO X14 hx hZ hown (tw hw 1 rfl) (tw hw 2 rfl) (tw hw 3 rfl) e14 (g := (mkF m 76 L16 [])) rfl (hb hby at_76) (by decide) (by decide)
    obtain ⟨b57, gq57⟩ : ∃ z, z = h14.size := ⟨_, rfl⟩
    rw [← gq57] at A57 D57 st57
    have g_b57 : n0 ≤ b57 := Nat.le_trans Zc15 (Nat.le_of_eq gq57.symm)
    have lt_b57 := A57.lt
    have Zc58 : n0 ≤ h57.size := Nat.le_trans Zc15 E57.1
    have F57_key : Fld Z h57 b57 "com/example/tidemark/tidemark/core/Write" "key" "[B" .null := D57 (Or.inr (tw hw 42 rfl)) (ty := (.array .byte)) (by decide)
    have F57_value : Fld Z h57 b57 "com/example/tidemark/tidemark/core/Write" "value" "[B" .null := D57 (Or.inr (tw hw 44 rfl)) (ty := (.array .byte)) (by decide)
    refine Gl.st (B := (T57.setTop (mkF m 79 L16 [(.ref b57)]))) st57 ?_
    refine Gl.st (B := (T57.setTop (mkF m 80 L16 [(.ref b57), (.ref b57)]))) (fun t k => XS.dup X57.here hx rfl (hb hby at_79) rfl rfl k) ?_
    refine Gl.st (B := (T57.setTop (mkF m 82 L16 [(.ref b7), (.ref b57), (.ref b57)]))) (fun t k => XS.aload X57.here hx rfl (hb hby at_80) (ldAt hL16 rfl) rfl k) ?_
    refine Gl.st (B := (T57.setTop (mkF m 84 L16 [.null, (.ref b7), (.ref b57), (.ref b57)]))) (fun t k => XS.aload X57.here hx rfl (hb hby at_82) (ldAt hL16 rfl) rfl k) ?_
    have c60 := (V14.ext E57)
    obtain ⟨cl61, Ar61, q61, S61, P61, H61, G61⟩ := (id c60)
    have hp84_62 : ¬ ((4096 : Int32) < (2 : Int32)) := by
      first | assumption | decide | omega
    have hp84_63 : ¬ ((2 : Int32) = (0 : Int32)) := by
      first | assumption | decide | omega
    obtain ⟨_, _, ⟨T59, L59q, k59, n59⟩, -, X59, hs59, gr59, ⟨Lc59, hQ59, l59, y59, z59⟩, st59⟩ := X57.specialBackS hx (y := (⟨"com/example/tidemark/tidemark/core/Write", "<init>", "([B[B)V"⟩ : MethodName)) rfl hown (mvT hZ (tw hw 4 rfl)) (mvT hZ (tw hw 5 rfl)) (mvT hZ (tw hw 6 rfl)) (by decide) (backOfS (W := 1) (rm1n l Z a0 hw [] b57 b7 .null .null cl61 (2 : Int32) h57 n0 Zc58 F57_key F57_value Ar61 S61 P61 hp84_62 hp84_63 A57 g_b57) hZ (tw hw 6 rfl) (tw hw 3 rfl) (by decide) (by decide)) (g := (mkF m 84 L16 [.null, (.ref b7), (.ref b57), (.ref b57)])) rfl (szAt hml hL16 rfl) (Steps.refl _) (a := b57) (argsL := [(.ref b7), .null]) (rest := [(.ref b57)]) (lenOf pd_0_0 rfl) rfl (by show 2 * 0 + _ ≤ _; exact Nat.le_of_eq rfl) (hb hby at_84) (fun _ _ => ⟨rfl, e57, (by decide : 2 + 2 ≤ _), (by decide : 4 + 16 ≤ _)⟩)
    dsimp only [Pt.U, Pt.locs, Pt.cells, Pt.slots] at X59 l59 y59 z59 st59 hQ59 hs59 gr59
    subst l59 y59 z59
    obtain ⟨X59, hS59, hZ, hown⟩ := rebS hS0 (n1 := T57.heap.size) (by rw [e57]; exact (Nat.le_trans (Nat.le_trans (Nat.le_trans (Nat.le_trans (Nat.zero_le _) E7.1) (Nat.le_of_eq W11.size.symm)) (Nat.le_of_eq W14.size.symm)) E57.1)) X59 hs59 gr59 hZ hown
    obtain ⟨rfl, N59q, Kc59, fq59_0, fq59_1, fq59_2⟩ := hQ59
    have Zc64 : n0 ≤ T59.heap.size := Nat.le_trans Zc58 Kc59.1
    have N59 := Fr.app N14 N59q
    refine Gl.st (B := (T59.setTop (mkF m 87 L16 [(.ref b57)]))) (fun t k => st59.trans k) ?_
    obtain ⟨L65, hL65⟩ : ∃ z : Array Slot, z = #[.val (.int p1), .val (.int p2), .val (.int p3), .val (.int (1 : Int32)), .val (.int v23_s0_5), .val (.ref b7), .val .null, .val (.ref b57), .unset] := ⟨_, rfl⟩
    refine Gl.st (B := (T59.setTop (mkF m 89 L65 []))) (fun t k => XS.astore X59.here hx rfl (hb hby at_87) rfl rfl (l' := L65) (stAt hL16 hL65 rfl rfl) k) ?_
    refine Gl.st (B := (T59.setTop (mkF m 91 L65 [(.ref b57)]))) (fun t k => XS.aload X59.here hx rfl (hb hby at_89) (ldAt hL65 rfl) rfl k) ?_
    obtain ⟨cq66, kq66, q66a, q66b, q66c⟩ := isOf hZ rfl fq59_0
    obtain ⟨_, _, ⟨T66, L66q, k66, n66⟩, -, X66, ⟨Lc66, hQ66, l66, y66, z66⟩, st66⟩ := X59.virtualBack hx (y := (⟨"com/example/tidemark/tidemark/core/Write", "isDelete", "()Z"⟩ : MethodName)) (z := (⟨"com/example/tidemark/tidemark/core/Write", "isDelete", "()Z"⟩ : MethodName)) hown (mvT hZ (tw hw 45 rfl)) (mvT hZ (tw hw 46 rfl)) (notFace_of_selects (args := #[]) (mvT hZ (tw hw 48 rfl))) (mvT hZ (tw hw 48 rfl)) (mvT hZ (tw hw 47 rfl)) (by decide) (backOf (W := 0) (rm8n l Z a0 hw [] b57 T59.heap n0 Zc64 fq59_2) hZ (tw hw 49 rfl) (tw hw 3 rfl) (by decide) (by decide)) q66a q66c (g := (mkF m 91 L65 [(.ref b57)])) rfl (szAt hml hL65 rfl) (Steps.refl _) (argsL := []) (rest := []) (lenOf pd_0_1 rfl) rfl (by show 2 * 0 + _ ≤ _; exact Nat.le_of_eq rfl) (hb hby at_91) (fun _ _ => ⟨rfl, rfl, (by decide : 4 + 0 ≤ _), (by decide : 20 + 0 ≤ _)⟩)
    dsimp only [Pt.U, Pt.locs, Pt.cells, Pt.slots] at X66 l66 y66 z66 st66 hQ66
    subst l66 y66 z66
    obtain ⟨rfl, N66q, eh66⟩ := hQ66
    have N66 := Fr.app N59 N66q
    refine Gl.st (B := (T66.setTop (mkF m 94 L65 [(.int (1 : Int32))]))) (fun t k => st66.trans k) ?_
    obtain ⟨L67, hL67⟩ : ∃ z : Array Slot, z = #[.val (.int p1), .val (.int p2), .val (.int p3), .val (.int (1 : Int32)), .val (.int v23_s0_5), .val (.ref b7), .val .null, .val (.ref b57), .val (.int (1 : Int32))] := ⟨_, rfl⟩
    refine Gl.st (B := (T66.setTop (mkF m 96 L67 []))) (fun t k => XS.istore X66.here hx rfl (hb hby at_94) rfl (l' := L67) (stAt hL65 hL67 rfl rfl) k) ?_
    refine Gl.st (B := (T66.setTop (mkF m 98 L67 [(.int (1 : Int32))]))) (fun t k => XS.iload X66.here hx rfl (hb hby at_96) (ldAt hL67 rfl) k) ?_
    refine Gl.st (B := (T66.setTop (mkF m 99 L67 [(.int (1 : Int32)), (.int (1 : Int32))]))) (fun t k => XS.iloadN X66.here hx rfl (hb hby at_98) (ldAt hL67 rfl) k) ?_
    refine Gl.st (B := (T66.setTop (mkF m 102 L67 []))) (fun t k => XS.icmpNo X66.here hx rfl (hb hby at_99) rfl (by decide) k) ?_
    refine Gl.st (B := (T66.setTop (mkF m 103 L67 [(.int (1 : Int32))]))) (fun t k => XS.iconst X66.here hx rfl (hb hby at_102) k) ?_
    refine Gl.st (B := (T66.setTop (mkF m 107 L67 [(.int (1 : Int32))]))) (fun t k => XS.goto X66.here hx rfl (pc0 := 103) (pc' := 107) rfl (hb hby at_103) (by decide) (by decide) k) ?_
    obtain ⟨fs, hr, hrun, hended, hRW⟩ := X66.leaveW hS59 (by rw [eh66]; exact (Nat.le_refl _)) (v := some (.int (nar .boolean (1 : Int32)))) (fun h => by rw [Bd.returns] at h; cases h)
    refine Gl.fin (retN X66 hx (t := .boolean) Bd.returns (by simp) (hb hby at_107) hr) hrun hended ⟨_, _, rfl, ?_, hRW.1, hRW.2.1, hRW.2.2.1, hRW.2.2.2.mono (by decide) (by decide)⟩
    show Q0 Z p1 p2 p3 h0 n0 _ T66.heap _
    rw [eh66]
    exact ⟨rfl, N66⟩
set_option maxRecDepth 65536 in
set_option maxHeartbeats 40000000 in
theorem comes_1 {Post : Tables → Env → Array Value → State → Outcome → State → Prop} (hpost : ∀ tb e args s v u, (limb_1_1.after args s (.returned v) u = true ∧ limb_1_2.after args s (.returned v) u = true ∧ True) → ReturnedEndW s (.returned v) u (Jvm.fieldLocs frame_1_writes args s ++ Jvm.arrayLocs frame_1_arrays args s ++ Jvm.staticLocs frame_1_statics s) 24 2176 → Post tb e args s (.returned v) u) :
    ArmFor flags0 classFile x code maxLocals ret World_1 tables_1 room_1 Calls_1 rest_1 Pre_1 Post := by
  intro l hfl _ _ p e ha hc hk s m args below hf hA hF happ hP
  obtain ⟨hcalls, hrest, hpre⟩ := hP
  obtain ⟨-, -, -, hnamed, -, -, -, hat⟩ := (Spec.applies_iff hf).mp happ
  obtain ⟨hg, hn⟩ := and_e (Cond.before_iff.mp (show (Jvm.Cond.and given_1 narrow_1).before args s = true from hpre))
  obtain ⟨g1, g2⟩ := and_e hg
  obtain ⟨g3, g4⟩ := and_e g2
  obtain ⟨g5, g6⟩ := and_e g4
  obtain ⟨w0, w1, w2, rfl⟩ : ∃ w0 w1 w2 : Value, args = #[w0, w1, w2] := by
    have hs : args.size = 3 := by simpa [Cond.value, given_1] using g1
    obtain ⟨L⟩ := args
    match L, hs with
    | [w0, w1, w2], _ => exact ⟨w0, w1, w2, rfl⟩
  have hw := fun d (hd : d ∈ tables_1) => atoms_spec (ws := Jvm.Cond.code x code maxLocals ret :: tables_1) hat d (List.mem_cons_of_mem _ hd)
  have hfit : Fit s := fun {y c} hc i hi => by
    obtain ⟨ha, rfl⟩ := Array.getElem?_eq_some_iff.mp hc
    have q := List.all_eq_true.mp ((Array.all_eq_true_iff_forall_mem.mp hF) _ (Array.getElem_mem ha)) i (List.mem_range.mpr hi)
    simpa [Array.getElem?_eq_getElem hi] using q
  obtain ⟨i0, ei0⟩ := is_v g3
  obtain rfl : w0 = (.int i0) := Option.some.inj ei0
  obtain ⟨i1, ei1⟩ := is_v g5
  obtain rfl : w1 = (.int i1) := Option.some.inj ei1
  obtain ⟨i2, ei2⟩ := is_v g6
  obtain rfl : w2 = (.int i2) := Option.some.inj ei2
  obtain ⟨n, o, h1, h2, h3, _, L, rfl, ⟨rfl, N⟩, hq⟩ := rm0 l s _ hw tables_1 i0 i1 i2 s.heap s.heap.size (Nat.le_refl _) p e ha hc hk s m _ below hf ((Spec.applies_iff_loose hf).mp happ).1 ⟨rfl, State.Warmed39.refl s, rfl⟩ trivial
  refine ⟨n, _, h1, h2, h3, hpost _ _ _ _ _ _ ⟨Cond.after_iff.mpr rfl, Cond.after_iff.mpr (eq_i res_at (Term.int_eval (1)) rfl), trivial⟩ ⟨hq.1, hq.2.1, hq.2.2.1, (hq.2.2.2.sift fun y hy => Or.inr (N y hy)).mono (by decide) (by decide)⟩⟩
theorem main_1_1 : Claimed_1_1 := comes_1 fun _ _ _ _ _ _ h hF => ⟨h.1, hF⟩
theorem main_1_2 : Claimed_1_2 := comes_1 fun _ _ _ _ _ _ h hF => ⟨h.2.1, hF⟩
end Jvm.Pilot.@@N@@
namespace Jvm.Pilot.@@N@@
open Jvm Jvm.ClassFile Sem Op Lib Jvm.Free Jvm.Stand Jvm.Pilot.@@N@@.Jvm.D
/-! MADE BY PROGRAM (witnessworld.py) out of the Statement's table words and the real class files: 19 classes; the members and pool entries that the words name. The judged class is class 1, her method 1. -/
namespace start1
open Jvm.ClassFile
def u (s : String) : CpInfo := .utf8 (stringToUtf16 s)
/-- a pool by its gaps: so many unusable entries, then the entry; so many at the end -/
def gap : Nat → List CpInfo → List CpInfo
  | 0, r => r
  | n + 1, r => .unusable :: gap n r
def poolList (es : List (Nat × CpInfo)) (last : Nat) : List CpInfo := es.foldr (fun e r => gap e.1 (e.2 :: r)) (gap last [])
def pool (es : List (Nat × CpInfo)) (last : Nat) : Array CpInfo := ⟨poolList es last⟩
def fileOf (pool : Array CpInfo) (this : Nat) (attrs : Array Attribute := #[]) (ms : Array MethodInfo := #[]) (fl : Nat := 33) (sup : Nat := 0) (ifs : Array Nat := #[]) (fds : Array FieldInfo := #[]) : ClassFile where
  minorVersion := 0
  majorVersion := 65
  constantPool := pool
  accessFlags := fl
  thisClass := this
  superClass := sup
  interfaces := ifs
  fields := fds
  methods := ms
  attributes := attrs
def plain (name : String) (sup : Option ClassId) : Class where
  name := name
  kind := .ordinary
  loader := none
  accessFlags := 33
  super := sup
  interfaces := #[]
  cf := none
  fields := #[]
  methods := #[]
  instanceTypes := #[]
  staticTypes := #[]
  resolved := #[]
  callSites := []
  init := .initialized
  statics := none
  mirror := none

def pool0 : Array CpInfo := pool [(5, u "<init>"), (0, u "()V"), (1, .class_ 10), (1, u "java/lang/Object")] 113

def k0c0 : Code := { maxStack := 0, maxLocals := 1, code := object_method_1_code, exceptionTable := #[], attributes := #[] }
def k0m0 : Method := { name := "<init>", desc := "()V", sig := { parameters := [], returnType := none }, accessFlags := 1, code := some k0c0 }
/-- java/lang/Object -/
def k0 : Class := { plain "java/lang/Object" none with
  accessFlags := 33
  interfaces := #[]
  cf := some (fileOf pool0 8 #[] #[{ accessFlags := 1, nameIndex := 5, descriptorIndex := 6, attributes := #[] }] 33 0 #[] #[])
  fields := #[]
  methods := #[k0m0]
  instanceTypes := #[]
  staticTypes := #[]
  resolved := Array.replicate 124 none
  statics := none }

def pool1 : Array CpInfo := pool [(2, .class_ 4), (1, u "java/lang/Object"), (0, u "<init>"), (0, u "()V"), (0, .class_ 8), (0, u "com/example/tidemark/tidemark/core/Write"), (0, .methodref 7 10), (0, .nameAndType 5 11), (0, u "([B[B)V"), (0, .methodref 7 13), (0, .nameAndType 14 15), (0, u "isDelete"), (0, u "()Z"), (0, .class_ 17), (0, u "com/example/tidemark/tidemark/core/WriteIsDeletePinLaw"), (2, u "law"), (0, u "(III)Z")] 5

def k1m0 : Method := { name := "<init>", desc := "()V", sig := { parameters := [], returnType := none }, accessFlags := 1, code := none }
def k1c1 : Code := { maxStack := 4, maxLocals := 9, code := code, exceptionTable := #[], attributes := #[] }
def k1m1 : Method := { name := "law", desc := "(III)Z", sig := { parameters := [.int, .int, .int], returnType := some .boolean }, accessFlags := 9, code := some k1c1 }
/-- com/example/tidemark/tidemark/core/WriteIsDeletePinLaw -/
def k1 : Class := { plain "com/example/tidemark/tidemark/core/WriteIsDeletePinLaw" (some 0) with
  accessFlags := 49
  interfaces := #[]
  cf := some (fileOf pool1 16 #[] #[{ accessFlags := 1, nameIndex := 5, descriptorIndex := 6, attributes := #[] }, { accessFlags := 9, nameIndex := 20, descriptorIndex := 21, attributes := #[] }] 49 2 #[] #[])
  fields := #[]
  methods := #[k1m0, k1m1]
  instanceTypes := #[]
  staticTypes := #[]
  resolved := Array.replicate 27 none
  statics := none }

def pool2 : Array CpInfo := pool [(1, .methodref 2 3), (0, .class_ 4), (0, .nameAndType 5 6), (0, u "java/lang/Object"), (0, u "<init>"), (0, u "()V"), (0, .class_ 8), (0, u "java/lang/Record")] 13

def k2c0 : Code := { maxStack := 1, maxLocals := 1, code := jdk_30_method_1_code, exceptionTable := #[], attributes := #[] }
def k2m0 : Method := { name := "<init>", desc := "()V", sig := { parameters := [], returnType := none }, accessFlags := 4, code := some k2c0 }
/-- java/lang/Record -/
def k2 : Class := { plain "java/lang/Record" (some 0) with
  accessFlags := 1057
  interfaces := #[]
  cf := some (fileOf pool2 7 #[] #[{ accessFlags := 4, nameIndex := 5, descriptorIndex := 6, attributes := #[] }] 1057 2 #[] #[])
  fields := #[]
  methods := #[k2m0]
  instanceTypes := #[]
  staticTypes := #[]
  resolved := Array.replicate 22 none
  statics := none }

def pool3 : Array CpInfo := pool [(3, .methodref 4 5), (0, .class_ 6), (0, .nameAndType 7 8), (0, u "java/lang/Record"), (0, u "<init>"), (0, u "()V"), (0, .methodref 10 11), (0, .class_ 12), (0, .nameAndType 13 14), (0, u "com/example/tidemark/tidemark/core/Keys"), (0, u "check"), (0, u "([B)[B"), (0, .methodref 16 11), (0, .class_ 17), (0, u "com/example/tidemark/tidemark/core/Values"), (0, .fieldref 19 20), (0, .class_ 21), (0, .nameAndType 22 23), (0, u "com/example/tidemark/tidemark/core/Write"), (0, u "key"), (0, u "[B"), (0, .fieldref 19 25), (0, .nameAndType 26 23), (0, u "value"), (12, u "OVERHEAD_BYTES"), (0, u "I"), (2, u "([B[B)V"), (5, u "isDelete"), (0, u "()Z")] 26

def k3c0 : Code := { maxStack := 2, maxLocals := 3, code := prog_78_method_1_code, exceptionTable := #[], attributes := #[] }
def k3m0 : Method := { name := "<init>", desc := "([B[B)V", sig := { parameters := [(.array .byte), (.array .byte)], returnType := none }, accessFlags := 1, code := some k3c0 }
def k3c1 : Code := { maxStack := 1, maxLocals := 1, code := prog_78_method_2_code, exceptionTable := #[], attributes := #[] }
def k3m1 : Method := { name := "isDelete", desc := "()Z", sig := { parameters := [], returnType := some .boolean }, accessFlags := 1, code := some k3c1 }
/-- com/example/tidemark/tidemark/core/Write -/
def k3 : Class := { plain "com/example/tidemark/tidemark/core/Write" (some 2) with
  accessFlags := 49
  interfaces := #[]
  cf := some (fileOf pool3 19 #[] #[{ accessFlags := 1, nameIndex := 7, descriptorIndex := 43, attributes := #[] }, { accessFlags := 1, nameIndex := 49, descriptorIndex := 50, attributes := #[] }] 49 4 #[] #[{ accessFlags := 18, nameIndex := 22, descriptorIndex := 23, attributes := #[] }, { accessFlags := 18, nameIndex := 26, descriptorIndex := 23, attributes := #[] }, { accessFlags := 24, nameIndex := 39, descriptorIndex := 40, attributes := #[] }])
  fields := #[{ name := "key", type := (.array .byte), accessFlags := 18, slot := 0, constantValue := 0 }, { name := "value", type := (.array .byte), accessFlags := 18, slot := 1, constantValue := 0 }, { name := "OVERHEAD_BYTES", type := .int, accessFlags := 24, slot := 0, constantValue := 0 }]
  methods := #[k3m0, k3m1]
  instanceTypes := #[(.array .byte), (.array .byte)]
  staticTypes := #[.int]
  resolved := Array.replicate 77 none
  statics := none }

def pool4 : Array CpInfo := pool [(2, .class_ 4), (1, u "java/lang/Object"), (0, u "<init>"), (0, u "()V"), (0, .string 8), (0, u "key"), (0, .class_ 10), (0, u "com/example/tidemark/tidemark/core/Keys"), (0, .methodref 12 13), (0, .class_ 14), (0, .nameAndType 15 16), (0, u "com/example/tidemark/tidemark/core/Sizes"), (0, u "checkAtMost"), (0, u "(Ljava/lang/String;[BI)[B"), (13, u "ORDER"), (0, u "Ljava/util/Comparator;"), (0, u "MAX_BYTES"), (0, u "I"), (6, u "check"), (0, u "([B)[B")] 28

def k4m0 : Method := { name := "<init>", desc := "()V", sig := { parameters := [], returnType := none }, accessFlags := 2, code := none }
def k4c1 : Code := { maxStack := 3, maxLocals := 1, code := prog_62_method_2_code, exceptionTable := #[], attributes := #[] }
def k4m1 : Method := { name := "check", desc := "([B)[B", sig := { parameters := [(.array .byte)], returnType := some (.array .byte) }, accessFlags := 9, code := some k4c1 }
/-- com/example/tidemark/tidemark/core/Keys -/
def k4 : Class := { plain "com/example/tidemark/tidemark/core/Keys" (some 0) with
  accessFlags := 49
  interfaces := #[]
  cf := some (fileOf pool4 9 #[] #[{ accessFlags := 2, nameIndex := 5, descriptorIndex := 6, attributes := #[] }, { accessFlags := 9, nameIndex := 40, descriptorIndex := 41, attributes := #[] }] 49 2 #[] #[{ accessFlags := 25, nameIndex := 32, descriptorIndex := 33, attributes := #[] }, { accessFlags := 25, nameIndex := 30, descriptorIndex := 31, attributes := #[] }])
  fields := #[{ name := "MAX_BYTES", type := .int, accessFlags := 25, slot := 0, constantValue := 0 }, { name := "ORDER", type := (.object "java/util/Comparator"), accessFlags := 25, slot := 1, constantValue := 0 }]
  methods := #[k4m0, k4m1]
  instanceTypes := #[]
  staticTypes := #[.int, (.object "java/util/Comparator")]
  resolved := Array.replicate 70 none
  statics := none }

def pool5 : Array CpInfo := pool [(1, .class_ 2), (0, u "java/io/Serializable"), (0, .class_ 4), (0, u "java/lang/Object")] 2

/-- java/io/Serializable -/
def k5 : Class := { plain "java/io/Serializable" (some 0) with
  accessFlags := 1537
  interfaces := #[]
  cf := some (fileOf pool5 1 #[] #[] 1537 3 #[] #[])
  fields := #[]
  methods := #[]
  instanceTypes := #[]
  staticTypes := #[]
  resolved := Array.replicate 7 none
  statics := none }

def pool6 : Array CpInfo := pool [(1, .class_ 2), (0, u "java/lang/Comparable"), (0, .class_ 4), (0, u "java/lang/Object")] 7

/-- java/lang/Comparable -/
def k6 : Class := { plain "java/lang/Comparable" (some 0) with
  accessFlags := 1537
  interfaces := #[]
  cf := some (fileOf pool6 1 #[] #[] 1537 3 #[] #[])
  fields := #[]
  methods := #[]
  instanceTypes := #[]
  staticTypes := #[]
  resolved := Array.replicate 12 none
  statics := none }

def pool7 : Array CpInfo := pool [(2, .class_ 4), (1, u "java/lang/CharSequence"), (42, .class_ 48), (0, u "java/lang/CharSequence$1CodePointIterator"), (10, .class_ 60), (0, u "java/lang/CharSequence$1CharIterator"), (5, .class_ 67), (0, u "java/lang/Object")] 63

/-- java/lang/CharSequence -/
def k7 : Class := { plain "java/lang/CharSequence" (some 0) with
  accessFlags := 1537
  interfaces := #[]
  cf := some (fileOf pool7 2 #[.nestMembers #[47, 59]] #[] 1537 66 #[] #[])
  fields := #[]
  methods := #[]
  instanceTypes := #[]
  staticTypes := #[]
  resolved := Array.replicate 131 none
  statics := none }

def pool8 : Array CpInfo := pool [(1, .class_ 2), (0, u "java/lang/constant/Constable"), (0, .class_ 4), (0, u "java/lang/Object")] 6

/-- java/lang/constant/Constable -/
def k8 : Class := { plain "java/lang/constant/Constable" (some 0) with
  accessFlags := 1537
  interfaces := #[]
  cf := some (fileOf pool8 1 #[] #[] 1537 3 #[] #[])
  fields := #[]
  methods := #[]
  instanceTypes := #[]
  staticTypes := #[]
  resolved := Array.replicate 11 none
  statics := none }

def pool9 : Array CpInfo := pool [(1, .class_ 2), (0, u "java/lang/constant/ConstantDesc"), (0, .class_ 4), (0, u "java/lang/Object")] 32

/-- java/lang/constant/ConstantDesc -/
def k9 : Class := { plain "java/lang/constant/ConstantDesc" (some 0) with
  accessFlags := 1537
  interfaces := #[]
  cf := some (fileOf pool9 1 #[] #[] 1537 3 #[] #[])
  fields := #[]
  methods := #[]
  instanceTypes := #[]
  staticTypes := #[]
  resolved := Array.replicate 37 none
  statics := none }

def pool10 : Array CpInfo := pool [(2, .class_ 4), (1, u "java/lang/Object"), (0, u "<init>"), (0, u "()V"), (3, .class_ 12), (1, u "java/lang/String"), (0, u "value"), (0, u "[B"), (2, u "coder"), (0, u "B"), (2, u "hash"), (0, u "I"), (2, u "hashIsZero"), (0, u "Z"), (13, u "COMPACT_STRINGS"), (534, .class_ 576), (0, u "java/lang/CharSequence"), (22, u "CASE_INSENSITIVE_ORDER"), (0, u "Ljava/util/Comparator;"), (500, u "serialPersistentFields"), (0, u "[Ljava/io/ObjectStreamField;"), (0, .class_ 1104), (0, u "java/lang/String$CaseInsensitiveComparator"), (1, .class_ 1107), (0, u "java/io/Serializable"), (0, .class_ 1109), (0, u "java/lang/Comparable"), (0, .class_ 1111), (0, u "java/lang/constant/Constable"), (0, .class_ 1113), (0, u "java/lang/constant/ConstantDesc"), (2, u "serialVersionUID"), (0, u "J"), (3, u "REPL"), (0, u "C"), (2, u "LATIN1"), (1, u "UTF16")] 323

def k10m0 : Method := { name := "<init>", desc := "()V", sig := { parameters := [], returnType := none }, accessFlags := 1, code := none }
/-- java/lang/String -/
def k10 : Class := { plain "java/lang/String" (some 0) with
  accessFlags := 49
  interfaces := #[5, 6, 7, 8, 9]
  cf := some (fileOf pool10 10 #[.nestMembers #[1103]] #[{ accessFlags := 1, nameIndex := 5, descriptorIndex := 6, attributes := #[] }] 49 2 #[1106, 1108, 575, 1110, 1112] #[{ accessFlags := 18, nameIndex := 13, descriptorIndex := 14, attributes := #[] }, { accessFlags := 18, nameIndex := 17, descriptorIndex := 18, attributes := #[] }, { accessFlags := 2, nameIndex := 21, descriptorIndex := 22, attributes := #[] }, { accessFlags := 2, nameIndex := 25, descriptorIndex := 26, attributes := #[] }, { accessFlags := 26, nameIndex := 1116, descriptorIndex := 1117, attributes := #[] }, { accessFlags := 24, nameIndex := 40, descriptorIndex := 26, attributes := #[] }, { accessFlags := 26, nameIndex := 1101, descriptorIndex := 1102, attributes := #[] }, { accessFlags := 26, nameIndex := 1121, descriptorIndex := 1122, attributes := #[] }, { accessFlags := 25, nameIndex := 599, descriptorIndex := 600, attributes := #[] }, { accessFlags := 24, nameIndex := 1125, descriptorIndex := 18, attributes := #[] }, { accessFlags := 24, nameIndex := 1127, descriptorIndex := 18, attributes := #[] }])
  fields := #[{ name := "value", type := (.array .byte), accessFlags := 18, slot := 0, constantValue := 0 }, { name := "coder", type := .byte, accessFlags := 18, slot := 1, constantValue := 0 }, { name := "hash", type := .int, accessFlags := 2, slot := 2, constantValue := 0 }, { name := "hashIsZero", type := .boolean, accessFlags := 2, slot := 3, constantValue := 0 }, { name := "serialVersionUID", type := .long, accessFlags := 26, slot := 0, constantValue := 0 }, { name := "COMPACT_STRINGS", type := .boolean, accessFlags := 24, slot := 1, constantValue := 0 }, { name := "serialPersistentFields", type := (.array (.object "java/io/ObjectStreamField")), accessFlags := 26, slot := 2, constantValue := 0 }, { name := "REPL", type := .char, accessFlags := 26, slot := 3, constantValue := 0 }, { name := "CASE_INSENSITIVE_ORDER", type := (.object "java/util/Comparator"), accessFlags := 25, slot := 4, constantValue := 0 }, { name := "LATIN1", type := .byte, accessFlags := 24, slot := 5, constantValue := 0 }, { name := "UTF16", type := .byte, accessFlags := 24, slot := 6, constantValue := 0 }]
  methods := #[k10m0]
  instanceTypes := #[(.array .byte), .byte, .int, .boolean]
  staticTypes := #[.long, .boolean, (.array (.object "java/io/ObjectStreamField")), .char, (.object "java/util/Comparator"), .byte, .byte]
  resolved := Array.replicate 1451 none
  statics := none }

def pool11 : Array CpInfo := pool [(2, .class_ 4), (1, u "java/lang/Object"), (0, u "<init>"), (0, u "()V"), (0, .methodref 8 9), (0, .class_ 10), (0, .nameAndType 11 12), (0, u "java/util/Objects"), (0, u "requireNonNull"), (0, u "(Ljava/lang/Object;Ljava/lang/String;)Ljava/lang/Object;"), (9, .class_ 23), (0, u "com/example/tidemark/tidemark/core/Sizes"), (2, u "checkAtMost"), (0, u "(Ljava/lang/String;[BI)[B")] 18

def k11m0 : Method := { name := "<init>", desc := "()V", sig := { parameters := [], returnType := none }, accessFlags := 2, code := none }
def k11c1 : Code := { maxStack := 5, maxLocals := 3, code := prog_75_method_2_code, exceptionTable := #[], attributes := #[] }
def k11m1 : Method := { name := "checkAtMost", desc := "(Ljava/lang/String;[BI)[B", sig := { parameters := [(.object "java/lang/String"), (.array .byte), .int], returnType := some (.array .byte) }, accessFlags := 8, code := some k11c1 }
/-- com/example/tidemark/tidemark/core/Sizes -/
def k11 : Class := { plain "com/example/tidemark/tidemark/core/Sizes" (some 0) with
  accessFlags := 48
  interfaces := #[]
  cf := some (fileOf pool11 22 #[] #[{ accessFlags := 2, nameIndex := 5, descriptorIndex := 6, attributes := #[] }, { accessFlags := 8, nameIndex := 26, descriptorIndex := 27, attributes := #[] }] 48 2 #[] #[])
  fields := #[]
  methods := #[k11m0, k11m1]
  instanceTypes := #[]
  staticTypes := #[]
  resolved := Array.replicate 46 none
  statics := none }

def pool12 : Array CpInfo := pool [(2, .class_ 4), (1, u "java/lang/Object"), (0, u "<init>"), (0, u "()V"), (35, .class_ 44), (1, u "java/util/Objects"), (0, u "requireNonNull"), (48, u "(Ljava/lang/Object;Ljava/lang/String;)Ljava/lang/Object;")] 89

def k12m0 : Method := { name := "<init>", desc := "()V", sig := { parameters := [], returnType := none }, accessFlags := 2, code := none }
def k12c1 : Code := { maxStack := 3, maxLocals := 2, code := jdk_31_method_11_code, exceptionTable := #[], attributes := #[] }
def k12m1 : Method := { name := "requireNonNull", desc := "(Ljava/lang/Object;Ljava/lang/String;)Ljava/lang/Object;", sig := { parameters := [(.object "java/lang/Object"), (.object "java/lang/String")], returnType := some (.object "java/lang/Object") }, accessFlags := 9, code := some k12c1 }
/-- java/util/Objects -/
def k12 : Class := { plain "java/util/Objects" (some 0) with
  accessFlags := 49
  interfaces := #[]
  cf := some (fileOf pool12 42 #[] #[{ accessFlags := 2, nameIndex := 5, descriptorIndex := 6, attributes := #[] }, { accessFlags := 9, nameIndex := 45, descriptorIndex := 94, attributes := #[] }] 49 2 #[] #[])
  fields := #[]
  methods := #[k12m0, k12m1]
  instanceTypes := #[]
  staticTypes := #[]
  resolved := Array.replicate 184 none
  statics := none }

def pool13 : Array CpInfo := pool [(2, .class_ 4), (1, u "java/lang/Object"), (0, u "<init>"), (0, u "()V"), (0, .string 8), (0, u "value"), (0, .class_ 10), (0, u "com/example/tidemark/tidemark/core/Values"), (0, .integer 1048576), (0, .methodref 13 14), (0, .class_ 15), (0, .nameAndType 16 17), (0, u "com/example/tidemark/tidemark/core/Sizes"), (0, u "checkAtMost"), (0, u "(Ljava/lang/String;[BI)[B"), (0, u "MAX_BYTES"), (0, u "I"), (3, u "check"), (0, u "([B)[B")] 2

def k13m0 : Method := { name := "<init>", desc := "()V", sig := { parameters := [], returnType := none }, accessFlags := 2, code := none }
def k13c1 : Code := { maxStack := 3, maxLocals := 1, code := prog_76_method_2_code, exceptionTable := #[], attributes := #[] }
def k13m1 : Method := { name := "check", desc := "([B)[B", sig := { parameters := [(.array .byte)], returnType := some (.array .byte) }, accessFlags := 9, code := some k13c1 }
/-- com/example/tidemark/tidemark/core/Values -/
def k13 : Class := { plain "com/example/tidemark/tidemark/core/Values" (some 0) with
  accessFlags := 49
  interfaces := #[]
  cf := some (fileOf pool13 9 #[] #[{ accessFlags := 2, nameIndex := 5, descriptorIndex := 6, attributes := #[] }, { accessFlags := 9, nameIndex := 23, descriptorIndex := 24, attributes := #[] }] 49 2 #[] #[{ accessFlags := 25, nameIndex := 18, descriptorIndex := 19, attributes := #[] }])
  fields := #[{ name := "MAX_BYTES", type := .int, accessFlags := 25, slot := 0, constantValue := 0 }]
  methods := #[k13m0, k13m1]
  instanceTypes := #[]
  staticTypes := #[.int]
  resolved := Array.replicate 27 none
  statics := none }

def pool14 : Array CpInfo := pool [(1, u "java/lang/Cloneable"), (0, .class_ 1), (0, u "java/lang/Object"), (0, .class_ 3)] 3

/-- java/lang/Cloneable -/
def k14 : Class := { plain "java/lang/Cloneable" (some 0) with
  accessFlags := 1537
  interfaces := #[]
  cf := some (fileOf pool14 2 #[] #[] 1537 4 #[] #[])
  fields := #[]
  methods := #[]
  instanceTypes := #[]
  staticTypes := #[]
  resolved := Array.replicate 8 none
  statics := none }

/-- the primitive byte -/
def k15 : Class := { plain "byte" none with kind := .primitive 'B', accessFlags := 0x411 }
/-- [B -/
def k16 : Class := { plain "[B" (some 0) with kind := .array 15 .byte, interfaces := #[14, 5], accessFlags := 1041 }

/-- the primitive int -/
def k17 : Class := { plain "int" none with kind := .primitive 'I', accessFlags := 0x411 }
/-- [I -/
def k18 : Class := { plain "[I" (some 0) with kind := .array 17 .int, interfaces := #[14, 5], accessFlags := 1041 }

def heap : Heap := #[]
def classes : Array Class := #[k0, k1, k2, k3, k4, k5, k6, k7, k8, k9, k10, k11, k12, k13, k14, k15, k16, k17, k18]
def interned : List (Array UInt16 × Addr) := []
def slotsUsed : Nat := 0
def theMethod : MethodId := ⟨1, 1⟩
def args0 : Array Value := #[.int 5, .int 5, .int 5]
def aboutOver (below : List Frame) : State where
  vm := { classes := classes, interned := interned.toArray }
  heap := heap
  slotsUsed := slotsUsed
  threads := #[{ frames := .invoking theMethod args0 :: below }]
def below0 : List Frame := [.native { method := ⟨0, 0⟩, args := #[] }]
def about1 : State := aboutOver below0
def p0 : Program := .bare "" "" ""
def e0 : Env := launch0.env 0 0 0
theorem w_frames : about1.frames = Frame.invoking theMethod args0 :: below0 := rfl
set_option maxRecDepth 65536 in
theorem w_args : argsFit about1.vm theMethod args0 = true := by decide +kernel
set_option maxRecDepth 65536 in
theorem w_heap : heapFits about1 = true := by decide +kernel
set_option maxRecDepth 65536 in
theorem w_runnable : about1.curStatus? = some .runnable := by decide +kernel
set_option maxRecDepth 65536 in
theorem w_alone : about1.alone = true := by decide +kernel
set_option maxRecDepth 65536 in
theorem w_named : about1.methodNamed? x = some theMethod := by decide +kernel
set_option maxRecDepth 65536 in
theorem w_hears : about1.hears theMethod below0 = true := by decide +kernel
set_option maxRecDepth 65536 in
theorem w_ripe : about1.ripe theMethod args0 below0 = true := by decide +kernel
theorem w_running : about1.status = .running := rfl
set_option maxRecDepth 65536 in
theorem w_room : about1.hasRoom e0.platform room_1 = true :=
  launch0.hasRoom_least _ room_1 (by decide +kernel) (by decide +kernel) (by decide +kernel) (by decide +kernel) (by decide +kernel) (by decide +kernel)
theorem allAtoms_all (ts : List Jvm.Cond) (a : Array Jvm.Value) (st : Jvm.State) : (allAtoms ts).before a st = ts.all (fun c => c.before a st) := by
  induction ts with
  | nil => rfl
  | cons c t ih =>
    show (Jvm.Cond.and c (allAtoms t)).before a st = _
    rw [Jvm.Cond.before_and, ih, List.all_cons]
def words1 : List Jvm.Cond := Jvm.Cond.code x code maxLocals ret :: tables_1
/-- a 'code' word, met by the world's own term for the bytes: nothing is compared byte by byte -/
theorem code_word {y : MethodName} {bytes : ByteArray} {mx : Nat} {rt : Option FieldType} {a : Array Value} {s : State} {m : MethodId} {meth : Method} {c : Code} (h1 : s.methodNamed? y = some m) (h2 : s.vm.method? m = some meth) (h3 : meth.code = some c) (h4 : c.code = bytes)
    (h5 : (c.maxLocals == mx && c.exceptionTable.isEmpty && decide (c.maxStack ≤ mostOperands) && decide (meth.sig.returnType = rt) && !meth.locks && decide (parseMethodDescriptor y.desc = some meth.sig)) = true) : (Jvm.Cond.code y bytes mx rt).before a s = true := by
  simp only [Bool.and_eq_true, beq_iff_eq, Bool.not_eq_true', decide_eq_true_eq] at h5
  obtain ⟨⟨⟨⟨⟨g1, g2⟩, g3⟩, g4⟩, g5⟩, g6⟩ := h5
  simp [Cond.before, Cond.holds, Cond.value, h1, h2, h3, h4, g1, g2, g3, g4, g5, g6]
def isCode : Jvm.Cond → Bool
  | .code _ _ _ _ => true
  | _ => false
theorem all_split {L : List Jvm.Cond} {P : Jvm.Cond → Bool} (h1 : L.all (fun c => isCode c || P c) = true) (h2 : ∀ c ∈ L.filter isCode, P c = true) : L.all P = true := by
  refine List.all_eq_true.mpr fun c hc => ?_
  have h := List.all_eq_true.mp h1 c hc
  rcases Bool.eq_false_or_eq_true (isCode c) with hi | hi
  · exact h2 c (List.mem_filter.mpr ⟨hc, hi⟩)
  · simpa [hi] using h
set_option maxRecDepth 65536 in
theorem w_c0 : (Jvm.Cond.code x code maxLocals ret).before args0 about1 = true := code_word (m := ⟨1, 1⟩) (meth := k1m1) (c := k1c1) (by decide +kernel) rfl rfl rfl (by decide +kernel)
set_option maxRecDepth 65536 in
theorem w_c1 : (Jvm.Cond.code ({ cls := "com/example/tidemark/tidemark/core/Write", name := "<init>", desc := "([B[B)V" } : Jvm.MethodName) prog_78_method_1_code (3 : Nat) (Option.none : Option Jvm.ClassFile.FieldType)).before args0 about1 = true := code_word (m := ⟨3, 0⟩) (meth := k3m0) (c := k3c0) (by decide +kernel) rfl rfl rfl (by decide +kernel)
set_option maxRecDepth 65536 in
theorem w_c2 : (Jvm.Cond.code ({ cls := "java/lang/Record", name := "<init>", desc := "()V" } : Jvm.MethodName) jdk_30_method_1_code (1 : Nat) (Option.none : Option Jvm.ClassFile.FieldType)).before args0 about1 = true := code_word (m := ⟨2, 0⟩) (meth := k2m0) (c := k2c0) (by decide +kernel) rfl rfl rfl (by decide +kernel)
set_option maxRecDepth 65536 in
theorem w_c3 : (Jvm.Cond.code ({ cls := "java/lang/Object", name := "<init>", desc := "()V" } : Jvm.MethodName) object_method_1_code (1 : Nat) (Option.none : Option Jvm.ClassFile.FieldType)).before args0 about1 = true := code_word (m := ⟨0, 0⟩) (meth := k0m0) (c := k0c0) (by decide +kernel) rfl rfl rfl (by decide +kernel)
set_option maxRecDepth 65536 in
theorem w_c4 : (Jvm.Cond.code ({ cls := "com/example/tidemark/tidemark/core/Keys", name := "check", desc := "([B)[B" } : Jvm.MethodName) prog_62_method_2_code (1 : Nat) (Option.some (Jvm.ClassFile.FieldType.array Jvm.ClassFile.FieldType.byte))).before args0 about1 = true := code_word (m := ⟨4, 1⟩) (meth := k4m1) (c := k4c1) (by decide +kernel) rfl rfl rfl (by decide +kernel)
set_option maxRecDepth 65536 in
theorem w_c5 : (Jvm.Cond.code ({ cls := "com/example/tidemark/tidemark/core/Sizes", name := "checkAtMost", desc := "(Ljava/lang/String;[BI)[B" } : Jvm.MethodName) prog_75_method_2_code (3 : Nat) (Option.some (Jvm.ClassFile.FieldType.array Jvm.ClassFile.FieldType.byte))).before args0 about1 = true := code_word (m := ⟨11, 1⟩) (meth := k11m1) (c := k11c1) (by decide +kernel) rfl rfl rfl (by decide +kernel)
set_option maxRecDepth 65536 in
theorem w_c6 : (Jvm.Cond.code ({ cls := "java/util/Objects", name := "requireNonNull", desc := "(Ljava/lang/Object;Ljava/lang/String;)Ljava/lang/Object;" } : Jvm.MethodName) jdk_31_method_11_code (2 : Nat) (Option.some (Jvm.ClassFile.FieldType.object "java/lang/Object"))).before args0 about1 = true := code_word (m := ⟨12, 1⟩) (meth := k12m1) (c := k12c1) (by decide +kernel) rfl rfl rfl (by decide +kernel)
set_option maxRecDepth 65536 in
theorem w_c7 : (Jvm.Cond.code ({ cls := "com/example/tidemark/tidemark/core/Values", name := "check", desc := "([B)[B" } : Jvm.MethodName) prog_76_method_2_code (1 : Nat) (Option.some (Jvm.ClassFile.FieldType.array Jvm.ClassFile.FieldType.byte))).before args0 about1 = true := code_word (m := ⟨13, 1⟩) (meth := k13m1) (c := k13c1) (by decide +kernel) rfl rfl rfl (by decide +kernel)
set_option maxRecDepth 65536 in
theorem w_c8 : (Jvm.Cond.code ({ cls := "com/example/tidemark/tidemark/core/Write", name := "isDelete", desc := "()Z" } : Jvm.MethodName) prog_78_method_2_code (1 : Nat) (Option.some Jvm.ClassFile.FieldType.boolean)).before args0 about1 = true := code_word (m := ⟨3, 1⟩) (meth := k3m1) (c := k3c1) (by decide +kernel) rfl rfl rfl (by decide +kernel)
def codes1 : List Jvm.Cond := [Jvm.Cond.code x code maxLocals ret, Jvm.Cond.code ({ cls := "com/example/tidemark/tidemark/core/Write", name := "<init>", desc := "([B[B)V" } : Jvm.MethodName) prog_78_method_1_code (3 : Nat) (Option.none : Option Jvm.ClassFile.FieldType), Jvm.Cond.code ({ cls := "java/lang/Record", name := "<init>", desc := "()V" } : Jvm.MethodName) jdk_30_method_1_code (1 : Nat) (Option.none : Option Jvm.ClassFile.FieldType), Jvm.Cond.code ({ cls := "java/lang/Object", name := "<init>", desc := "()V" } : Jvm.MethodName) object_method_1_code (1 : Nat) (Option.none : Option Jvm.ClassFile.FieldType), Jvm.Cond.code ({ cls := "com/example/tidemark/tidemark/core/Keys", name := "check", desc := "([B)[B" } : Jvm.MethodName) prog_62_method_2_code (1 : Nat) (Option.some (Jvm.ClassFile.FieldType.array Jvm.ClassFile.FieldType.byte)), Jvm.Cond.code ({ cls := "com/example/tidemark/tidemark/core/Sizes", name := "checkAtMost", desc := "(Ljava/lang/String;[BI)[B" } : Jvm.MethodName) prog_75_method_2_code (3 : Nat) (Option.some (Jvm.ClassFile.FieldType.array Jvm.ClassFile.FieldType.byte)), Jvm.Cond.code ({ cls := "java/util/Objects", name := "requireNonNull", desc := "(Ljava/lang/Object;Ljava/lang/String;)Ljava/lang/Object;" } : Jvm.MethodName) jdk_31_method_11_code (2 : Nat) (Option.some (Jvm.ClassFile.FieldType.object "java/lang/Object")), Jvm.Cond.code ({ cls := "com/example/tidemark/tidemark/core/Values", name := "check", desc := "([B)[B" } : Jvm.MethodName) prog_76_method_2_code (1 : Nat) (Option.some (Jvm.ClassFile.FieldType.array Jvm.ClassFile.FieldType.byte)), Jvm.Cond.code ({ cls := "com/example/tidemark/tidemark/core/Write", name := "isDelete", desc := "()Z" } : Jvm.MethodName) prog_78_method_2_code (1 : Nat) (Option.some Jvm.ClassFile.FieldType.boolean)]
set_option maxRecDepth 65536 in
theorem codes_eq : words1.filter isCode = codes1 := rfl
theorem w_codes : ∀ c ∈ words1.filter isCode, c.before args0 about1 = true := by
  rw [codes_eq]
  intro c hc
  simp only [codes1, List.mem_cons, List.not_mem_nil, or_false] at hc
  rcases hc with rfl | rfl | rfl | rfl | rfl | rfl | rfl | rfl | rfl
  · exact w_c0
  · exact w_c1
  · exact w_c2
  · exact w_c3
  · exact w_c4
  · exact w_c5
  · exact w_c6
  · exact w_c7
  · exact w_c8
set_option maxRecDepth 65536 in
theorem w_t1 : (words1.take 24).all (fun c => isCode c || c.before args0 about1) = true := by decide +kernel
set_option maxRecDepth 65536 in
theorem w_t2 : ((words1.drop 24).take 24).all (fun c => isCode c || c.before args0 about1) = true := by decide +kernel
set_option maxRecDepth 65536 in
theorem w_t3 : ((words1.drop 24).drop 24).all (fun c => isCode c || c.before args0 about1) = true := by decide +kernel
theorem w_tables : (allAtoms (Jvm.Cond.code x code maxLocals ret :: tables_1)).before args0 about1 = true := by
  rw [allAtoms_all]
  show words1.all (fun c => c.before args0 about1) = true
  refine all_split ?_ w_codes
  rw [← List.take_append_drop 24 words1, List.all_append, w_t1, ← List.take_append_drop 24 (words1.drop 24), List.all_append, w_t2, w_t3]
  rfl
set_option maxRecDepth 65536 in
theorem w_case : (Jvm.Cond.and given_1 narrow_1).before args0 about1 = true := by decide +kernel
theorem w_applies : (headSpec (Jvm.Cond.code x code maxLocals ret :: tables_1) room_1).applies x e0.platform about1 = true :=
  (Spec.applies_iff w_frames).mpr ⟨w_running, w_runnable, w_alone, w_named, w_hears, w_ripe, w_room, w_tables⟩
theorem atStart : AtStart classFile x code maxLocals ret World_1 tables_1 room_1 Calls_1 rest_1 Pre_1 launch0 p0 e0 about1 theMethod args0 below0 :=
  ⟨lists_1, trivial, launch0.admits_env _ _ _, launch0.least_env, fairChoices_fair.cas, fairChoices_fair.clock, w_frames, w_args, w_heap, w_applies, trivial, trivial, w_case⟩
end start1
theorem witness_1 : WitnessClaimed_1 := ⟨start1.p0, start1.e0, start1.about1, start1.theMethod, start1.args0, start1.below0, start1.atStart⟩
end Jvm.Pilot.@@N@@
