import JvmDerived
import JvmDerived.Pilot.@@N@@Statement
import JvmDerived.Pilot.@@N@@Code
set_option linter.unusedVariables false
set_option linter.unusedSimpArgs false
namespace Jvm.RoadKit
open Sem ClassFile Op Lib Jvm.Stand Jvm.Free Jvm.LawKit
section New
variable {p : Program} {l : Launch} {e : Env} {R : Room} {s : State} {m : MethodId} {args : Array Value} {below : List Frame} {meth : Method} {c : Code} {T : State} {locs : List Loc} {cells slots : Nat}
theorem retI (X : Stand p l e R s m args below meth c T locs cells slots) (hx : p.tables.exec = Jvm.exec) {pc : Nat} {Ls : Array Slot} {z : Int32} {rest : List Value} (hret : meth.sig.returnType = some .int) (hd : decode c.code pc = .ok (.ireturn, 1)) {fs : List Frame}
    (hl : ∀ (f : JFrame) (acts : List Action), f.method = m → f.locked = none → f.entered = [] → (doReturn e (T.setTop f) acts (some (.int z))).1 = T.setFrames fs) : Steps p.tables e below (T.setTop (mkF m pc Ls (.int z :: rest))) (T.setFrames fs) := by
  have hm' : T.vm.method? m = some meth := X.method'
  have hn : narrow .int (.int z) = .int z := rfl
  show Steps p.tables e below (T.setTop { method := m, pc := pc, locals := Ls, stack := _ :: rest, locked := none }) _
  jvm_step X.here [X.here.top, hx, hd, hm', hret, hn]
  first | (intro acts; rw [hl _ acts rfl rfl rfl]) | rw [hl _ _ rfl rfl rfl]
  exact Steps.refl _
end New
end Jvm.RoadKit
namespace Jvm.Pilot.@@N@@
open Jvm Jvm.ClassFile Sem Op Lib Jvm.Free Jvm.Stand Jvm.LawKit Jvm.RoadKit Bundle Jvm.Pilot.@@N@@.Jvm.D
def Gl (p : Program) (e : Env) (below : List Frame) (Q : Outcome → State → Prop) (A : State) : Prop := ∃ t o, Steps p.tables e below A t ∧ t.status = .running ∧ Ended t below o ∧ Q o t
theorem Gl.st {p : Program} {e : Env} {below : List Frame} {Q : Outcome → State → Prop} {A B : State} (k : ∀ t, Steps p.tables e below B t → Steps p.tables e below A t) (h : Gl p e below Q B) : Gl p e below Q A := by
  obtain ⟨t, o, h1, r⟩ := h
  exact ⟨t, o, k t h1, r⟩
theorem Gl.cast {p : Program} {e : Env} {below : List Frame} {Q : Outcome → State → Prop} {A B : State} (k : A = B) (h : Gl p e below Q B) : Gl p e below Q A := k ▸ h
theorem Gl.join {p : Program} {e : Env} {below : List Frame} {Q : Outcome → State → Prop} {A B : State} (k : Gl p e below Q A → Gl p e below Q B) (h : Gl p e below Q A) : Gl p e below Q B := k h
theorem Gl.fin {p : Program} {e : Env} {below : List Frame} {Q : Outcome → State → Prop} {A t : State} {o : Outcome} (h1 : Steps p.tables e below A t) (h2 : t.status = .running) (h3 : Ended t below o) (h4 : Q o t) : Gl p e below Q A := ⟨t, o, h1, h2, h3, h4⟩
theorem tw {a0 : Array Value} {Z : State} (hw : ∀ d ∈ tables_1, d.before a0 Z = true) (i : Nat) {d : Jvm.Cond} (h : tables_1[i]? = some d) : d.before a0 Z = true := hw _ (List.mem_of_getElem? h)
theorem ldAt {L M : Array Slot} (h : L = M) {k : Nat} {v : Slot} (q : M[k]? = some v) : L[k]? = some v := h ▸ q
theorem stAt {L M L' M' : Array Slot} {k : Nat} {v w : Value} (h : L = M) (h' : L' = M') (e : w = v) (q : storeLocals M k v = some M') : storeLocals L k w = some L' := by subst h h' e; exact q
theorem stAt' {L M L' M' : Array Slot} {k : Nat} {v w : Value} (h : L = M) (h' : L' = M') (e : w = v) (q : storeLocals M k v = some M') : storeLocals L k w = some L' := by subst h h' e; exact q
theorem szAt {L M : Array Slot} {k n : Nat} (h : k = n) (h' : L = M) (q : M.size = n) : L.size = k := by subst h h'; exact q
theorem efAt {m : MethodId} {L M : Array Slot} {f : JFrame} (h : L = M) (q : f = mkF m 0 M []) : f = mkF m 0 L [] := h ▸ q
theorem own_nb {c : Prop} [Decidable c] {a b : Int32} (ha : nar .boolean a = a) (hb : nar .boolean b = b) : nar .boolean (if c then a else b) = if c then a else b := by split <;> assumption
theorem own_arr_keep {Z : State} {h h' : Heap} {a : Addr} {c : Cell} {ty : FieldType} {ws : List Addr} (F : Arr Z h a c ty) (K : Keep h h' ws) (q : a ∉ ws) : Arr Z h' a c ty := ⟨K.2.1 a c F.1 q, F.2⟩
theorem own_eqL {args : Array Value} {s : State} {t : Term} {z : Int64} (h : (Jvm.Cond.eq t (.long z)).value args s none s [] = some true) : t.eval args s none [] s = some (.long z) := by
  obtain ⟨x, y, ha, hb, k1, k2⟩ := cmp_v (Or.inl h)
  obtain rfl : y = .long z := Option.some.inj (hb.symm.trans (long_at z))
  obtain ⟨w, rfl⟩ : ∃ w, x = .long w := k2
  rw [ha, gotT (eq_L ha hb) h]
theorem own_eqI {args : Array Value} {s : State} {t : Term} {z : Int32} (h : (Jvm.Cond.eq t (.int z)).value args s none s [] = some true) : t.eval args s none [] s = some (.int z) := by
  obtain ⟨x, y, ha, hb, k1, k2⟩ := cmp_v (Or.inl h)
  obtain rfl : y = .int z := Option.some.inj (hb.symm.trans (Term.int_eval z))
  obtain ⟨w, rfl⟩ : ∃ w, x = .int w := k2
  rw [ha, gotT (Cond.eq_ints ha hb) h]
theorem own_sta_keep {Z : State} {h h' : Heap} {C n d : String} {v : Value} {ws : List Addr} (F : Sta Z h C n d v) (K : Keep h h' ws) (q : ∀ x ∈ ws, ∀ cell : Cell, h[x]? = some cell → cell.vm.isStatics = false) : Sta Z h' C n d v := by
  obtain ⟨cf, i, k, f, a, cell, h1, h2, h3, h4, h5, h6, r⟩ := F
  exact ⟨cf, i, k, f, a, cell, h1, h2, h3, h4, K.2.1 a cell h5 (fun y => by have := q a y cell h5; rw [h6] at this; cases this), h6, r⟩
theorem own_exa_plain {Z : State} {h : Heap} {a : Addr} {C : String} (F : Exa Z h a C) : ∀ cell : Cell, h[a]? = some cell → cell.vm.isStatics = false := fun cell hc => by
  obtain ⟨c', k, h1, -, -, h4, -⟩ := F
  rw [h1] at hc; cases hc; exact h4
theorem own_arv_plain {Z : State} {h : Heap} {a : Addr} {k : ClassId} {ty : FieldType} {z : Int32} {vs : List Value} {dv : Value} (F : Arv Z h a k ty z vs dv) : ∀ cell : Cell, h[a]? = some cell → cell.vm.isStatics = false := fun cell hc => by
  obtain ⟨c', A, -⟩ := F
  have := A.1; rw [this] at hc; cases hc; exact A.plain
theorem own_strAtoms {Z : State} {a0 : Array Value} (hw : ∀ d ∈ tables_1, d.before a0 Z = true) : ∀ a ∈ Bundle.stringAtoms, a.before a0 Z = true := by
  intro d hd
  simp only [Bundle.stringAtoms, List.mem_cons, List.not_mem_nil, or_false] at hd
  rcases hd with rfl | rfl | rfl | rfl | rfl | rfl | rfl
  · exact tw hw 45 rfl
  · exact tw hw 44 rfl
  · exact tw hw 59 rfl
  · exact tw hw 69 rfl
  · exact tw hw 67 rfl
  · exact tw hw 71 rfl
  · exact tw hw 72 rfl
theorem own_ch (q x : Int32) (h : x = ((q &&& (255 : Int32)).toUInt32.toUInt16.toUInt32.toInt32)) : ¬ ((255 : Int32) < x) := by
  rw [h, i2c_mask, Int32.lt_iff_toInt_lt]
  have a : (q &&& (255 : Int32)).toInt = q.toInt % 256 := c_mask q (255 : Int32) 8 (by decide) (by decide)
  simp only [Int32.reduceToInt]
  omega
theorem own_ch2 (q x : Int32) (h : x = ((q &&& (255 : Int32)).toUInt32.toUInt16.toUInt32.toInt32)) : ¬ ((255 : Int32) < nar .char x) := by
  rw [h, i2c_mask]
  exact own_ch q _ rfl
theorem own_and3 (x y : Int32) (h : y = x &&& (3 : Int32)) : y = 0 ∨ y = 1 ∨ y = 2 ∨ y = 3 := by
  have a : y.toInt = x.toInt % 4 := by rw [h]; exact c_mask x (3 : Int32) 2 (by decide) (by decide)
  clear h
  simp only [← Int32.toInt_inj, Int32.reduceToInt]
  omega
theorem d2_0 : decode jdk_30_method_1_code 0 = .ok (.aload_n 0, 1) := by decide +kernel
theorem d2_1 : decode jdk_30_method_1_code 1 = .ok (.invokespecial 1, 3) := by decide +kernel
theorem d2_4 : decode jdk_30_method_1_code 4 = .ok (.return_, 1) := by decide +kernel
theorem pn_2 : plainName "java/lang/Record" = true := by first | (simp [plainName, overriddenIn]; done) | decide +kernel
theorem ef_2 (m : MethodId) (a1 : Addr) : entryFrame m #[(.ref a1)] 1 = mkF m 0 #[.val (.ref a1)] [] := by first | (simp [entryFrame, mkF, argsToLocals, Value.category]; done) | rfl
def Q2 (Z : State) (a1 : Addr) (h0 : Heap) (n0 : Nat) (v : Option Value) (h : Heap) (L : List Loc) : Prop := v = none ∧ Fr n0 L ∧ h = h0
set_option maxRecDepth 65536 in
set_option maxHeartbeats 40000000 in
theorem rm2 (l : Launch) (Z : State) (a0 : Array Value) (hw : ∀ d ∈ tables_1, d.before a0 Z = true) (ws : List Jvm.Cond) (a1 : Addr) (h0 : Heap) (n0 : Nat) (Z0 : n0 ≤ h0.size) :
    MetFree l (⟨"java/lang/Record", "<init>", "()V"⟩ : MethodName) (head1 (Jvm.Cond.code (⟨"java/lang/Record", "<init>", "()V"⟩ : MethodName) jdk_30_method_1_code 1 none :: ws) ({ frames := 1, cells := 0, slots := 0, locals := 12 } : Room)) (fun a U => a = #[(.ref a1)] ∧ Z.Warmed39 U.vm ∧ U.heap = h0) (fun _ _ _ _ _ => True) (fun _ U o U' => ∃ v L, o = .returned v ∧ Q2 Z a1 h0 n0 v U'.heap L ∧ FrameEnd U o U' L ({ frames := 1, cells := 0, slots := 0, locals := 12 } : Room).cells ({ frames := 1, cells := 0, slots := 0, locals := 12 } : Room).slots) := by
  refine MetFree.of_bodySF (plainFor_of_name pn_2) hisR ?_
  intro p e s m args below meth c s₁ Bd hml0 hP hK
  obtain ⟨rfl, hZ, hh⟩ := hP
  have hx := Bd.exec
  have hby := Bd.bytes
  have hml : c.maxLocals = 1 := hml0
  have hown : s.vm.findClass "java/lang/Record" = some m.cls := findClass_of_methodNamed Bd.named
  have hnm := (name_of_methodNamed Bd.named Bd.method).1
  have X0 : Stand p l e ({ frames := 1, cells := 0, slots := 0, locals := 12 } : Room) s m #[(.ref a1)] below meth c s₁ [] 0 0 := Stand.of_body Bd
  have e0 : s₁.heap = h0 := by rw [← hh, Bd.state]; rfl
  have N0 := Fr.nil n0
  have K0 : Keep h0 h0 [] := Keep.refl h0 _
  refine (show Gl p e below (fun o U' => ∃ v L, o = .returned v ∧ Q2 Z a1 h0 n0 v U'.heap L ∧ FrameEnd s o U' L ({ frames := 1, cells := 0, slots := 0, locals := 12 } : Room).cells ({ frames := 1, cells := 0, slots := 0, locals := 12 } : Room).slots) (s₁.setTop (entryFrame m #[(.ref a1)] 1)) from ?_)
  obtain ⟨L0, hL0⟩ : ∃ z : Array Slot, z = #[.val (.ref a1)] := ⟨_, rfl⟩
  refine Gl.st (B := (s₁.setTop (mkF m 0 L0 []))) (fun t k => castTop (efAt hL0 (ef_2 m a1)) k) ?_
  refine Gl.st (B := (s₁.setTop (mkF m 1 L0 [(.ref a1)]))) (fun t k => XS.aloadN X0.here hx rfl (hb hby d2_0) (ldAt hL0 rfl) rfl k) ?_
  obtain ⟨T1, X1, e1, st1⟩ := initO X0 hx hZ hown (tw hw 14 rfl) (tw hw 15 rfl) (tw hw 16 rfl) e0 (g := (mkF m 1 L0 [(.ref a1)])) rfl (szAt hml hL0 rfl) rfl (hb hby d2_1) (by decide) (W := 0) (by show 2 * 0 + _ ≤ _; exact Nat.le_of_eq rfl) (by decide)
  refine Gl.st (B := (T1.setTop (mkF m 4 L0 []))) st1 ?_
  obtain ⟨fs, hr, hrun, hended, hW, hsame⟩ := X1.leave (v := none) (fun _ => rfl)
  refine Gl.fin (X1.returnOut hx Bd.returns (hb hby d2_4) hr) hrun hended ⟨_, _, rfl, ?_, ⟨_, rfl⟩, hW, hsame.mono (by decide) (by decide)⟩
  show Q2 Z a1 h0 n0 _ T1.heap _
  rw [e1]
  exact ⟨rfl, N0, rfl⟩
theorem d14_0 : decode jdk_43_method_3_code 0 = .ok (.iload_n 0, 1) := by decide +kernel
theorem d14_1 : decode jdk_43_method_3_code 1 = .ok (.sipush 255, 3) := by decide +kernel
theorem d14_4 : decode jdk_43_method_3_code 4 = .ok (.if_icmp .gt 7, 3) := by decide +kernel
theorem d14_7 : decode jdk_43_method_3_code 7 = .ok (.iconst 1, 1) := by decide +kernel
theorem d14_8 : decode jdk_43_method_3_code 8 = .ok (.goto 4, 3) := by decide +kernel
theorem d14_12 : decode jdk_43_method_3_code 12 = .ok (.ireturn, 1) := by decide +kernel
theorem pn_14 : plainName "java/lang/StringLatin1" = true := by first | (simp [plainName, overriddenIn]; done) | decide +kernel
theorem ef_14 (m : MethodId) (p1 : Int32) : entryFrame m #[(.int p1)] 1 = mkF m 0 #[.val (.int p1)] [] := by first | (simp [entryFrame, mkF, argsToLocals, Value.category]; done) | rfl
def Q14 (Z : State) (p1 : Int32) (h0 : Heap) (n0 : Nat) (v : Option Value) (h : Heap) (L : List Loc) : Prop := v = some (.int (1 : Int32)) ∧ Fr n0 L ∧ h = h0
set_option maxRecDepth 65536 in
set_option maxHeartbeats 40000000 in
theorem rm14 (l : Launch) (Z : State) (a0 : Array Value) (hw : ∀ d ∈ tables_1, d.before a0 Z = true) (ws : List Jvm.Cond) (p1 : Int32) (h0 : Heap) (n0 : Nat) (Z0 : n0 ≤ h0.size) (hq4 : ¬ ((255 : Int32) < p1)) :
    MetFree l (⟨"java/lang/StringLatin1", "canEncode", "(C)Z"⟩ : MethodName) (head1 (Jvm.Cond.code (⟨"java/lang/StringLatin1", "canEncode", "(C)Z"⟩ : MethodName) jdk_43_method_3_code 1 (some .boolean) :: ws) ({ frames := 0, cells := 0, slots := 0, locals := 0 } : Room)) (fun a U => a = #[(.int p1)] ∧ Z.Warmed39 U.vm ∧ U.heap = h0) (fun _ _ _ _ _ => True) (fun _ U o U' => ∃ v L, o = .returned v ∧ Q14 Z p1 h0 n0 v U'.heap L ∧ FrameEnd U o U' L ({ frames := 0, cells := 0, slots := 0, locals := 0 } : Room).cells ({ frames := 0, cells := 0, slots := 0, locals := 0 } : Room).slots) := by
  refine MetFree.of_bodySF (plainFor_of_name pn_14) hisR ?_
  intro p e s m args below meth c s₁ Bd hml0 hP hK
  obtain ⟨rfl, hZ, hh⟩ := hP
  have hx := Bd.exec
  have hby := Bd.bytes
  have hml : c.maxLocals = 1 := hml0
  have hown : s.vm.findClass "java/lang/StringLatin1" = some m.cls := findClass_of_methodNamed Bd.named
  have hnm := (name_of_methodNamed Bd.named Bd.method).1
  have X0 : Stand p l e ({ frames := 0, cells := 0, slots := 0, locals := 0 } : Room) s m #[(.int p1)] below meth c s₁ [] 0 0 := Stand.of_body Bd
  have e0 : s₁.heap = h0 := by rw [← hh, Bd.state]; rfl
  have N0 := Fr.nil n0
  have K0 : Keep h0 h0 [] := Keep.refl h0 _
  refine (show Gl p e below (fun o U' => ∃ v L, o = .returned v ∧ Q14 Z p1 h0 n0 v U'.heap L ∧ FrameEnd s o U' L ({ frames := 0, cells := 0, slots := 0, locals := 0 } : Room).cells ({ frames := 0, cells := 0, slots := 0, locals := 0 } : Room).slots) (s₁.setTop (entryFrame m #[(.int p1)] 1)) from ?_)
  obtain ⟨L0, hL0⟩ : ∃ z : Array Slot, z = #[.val (.int p1)] := ⟨_, rfl⟩
  refine Gl.st (B := (s₁.setTop (mkF m 0 L0 []))) (fun t k => castTop (efAt hL0 (ef_14 m p1)) k) ?_
  refine Gl.st (B := (s₁.setTop (mkF m 1 L0 [(.int p1)]))) (fun t k => XS.iloadN X0.here hx rfl (hb hby d14_0) (ldAt hL0 rfl) k) ?_
  refine Gl.st (B := (s₁.setTop (mkF m 4 L0 [(.int (255 : Int32)), (.int p1)]))) (fun t k => XS.sipush X0.here hx rfl (hb hby d14_1) k) ?_
  refine Gl.st (B := (s₁.setTop (mkF m 7 L0 []))) (fun t k => XS.icmpNo X0.here hx rfl (hb hby d14_4) rfl (flt hq4).2.2.1 k) ?_
  refine Gl.st (B := (s₁.setTop (mkF m 8 L0 [(.int (1 : Int32))]))) (fun t k => XS.iconst X0.here hx rfl (hb hby d14_7) k) ?_
  refine Gl.st (B := (s₁.setTop (mkF m 12 L0 [(.int (1 : Int32))]))) (fun t k => XS.goto X0.here hx rfl (pc0 := 8) (pc' := 12) rfl (hb hby d14_8) (by decide) (by decide) k) ?_
  obtain ⟨fs, hr, hrun, hended, hW, hsame⟩ := X0.leave (v := some (.int (nar .boolean (1 : Int32)))) (fun h => by rw [Bd.returns] at h; cases h)
  refine Gl.fin (retN X0 hx (t := .boolean) Bd.returns (by simp) (hb hby d14_12) hr) hrun hended ⟨_, _, rfl, ?_, ⟨_, rfl⟩, hW, hsame.mono (by decide) (by decide)⟩
  show Q14 Z p1 h0 n0 _ s₁.heap _
  rw [e0]
  exact ⟨rfl, N0, rfl⟩
theorem d15_0 : decode jdk_43_method_46_code 0 = .ok (.iconst 1, 1) := by decide +kernel
theorem d15_1 : decode jdk_43_method_46_code 1 = .ok (.newarray .byte, 2) := by decide +kernel
theorem d15_3 : decode jdk_43_method_46_code 3 = .ok (.dup, 1) := by decide +kernel
theorem d15_4 : decode jdk_43_method_46_code 4 = .ok (.iconst 0, 1) := by decide +kernel
theorem d15_5 : decode jdk_43_method_46_code 5 = .ok (.iload_n 0, 1) := by decide +kernel
theorem d15_6 : decode jdk_43_method_46_code 6 = .ok (.i2b, 1) := by decide +kernel
theorem d15_7 : decode jdk_43_method_46_code 7 = .ok (.bastore, 1) := by decide +kernel
theorem d15_8 : decode jdk_43_method_46_code 8 = .ok (.areturn, 1) := by decide +kernel
theorem pn_15 : plainName "java/lang/StringLatin1" = true := by first | (simp [plainName, overriddenIn]; done) | decide +kernel
theorem ef_15 (m : MethodId) (p1 : Int32) : entryFrame m #[(.int p1)] 1 = mkF m 0 #[.val (.int p1)] [] := by first | (simp [entryFrame, mkF, argsToLocals, Value.category]; done) | rfl
def Q15 (Z : State) (p1 : Int32) (h0 : Heap) (n0 : Nat) (v : Option Value) (h : Heap) (L : List Loc) : Prop := ∃ (t0 : Addr) (kx_t0 : ClassId), v = some (.ref t0) ∧ Fr n0 L ∧ Keep h0 h [] ∧ h0.size ≤ t0 ∧ Exa Z h t0 "[B" ∧ Arv Z h t0 kx_t0 .byte (1 : Int32) [(.int (nar .byte ((p1.toInt8.toInt32))))] (.int (0 : Int32))
set_option maxRecDepth 65536 in
set_option maxHeartbeats 40000000 in
theorem rm15 (l : Launch) (Z : State) (a0 : Array Value) (hw : ∀ d ∈ tables_1, d.before a0 Z = true) (ws : List Jvm.Cond) (p1 : Int32) (h0 : Heap) (n0 : Nat) (Z0 : n0 ≤ h0.size) :
    MetFree l (⟨"java/lang/StringLatin1", "toBytes", "(C)[B"⟩ : MethodName) (head1 (Jvm.Cond.code (⟨"java/lang/StringLatin1", "toBytes", "(C)[B"⟩ : MethodName) jdk_43_method_46_code 1 (some (.array .byte)) :: ws) ({ frames := 0, cells := 1, slots := 1, locals := 0 } : Room)) (fun a U => a = #[(.int p1)] ∧ Z.Warmed39 U.vm ∧ U.heap = h0) (fun _ _ _ _ _ => True) (fun _ U o U' => ∃ v L, o = .returned v ∧ Q15 Z p1 h0 n0 v U'.heap L ∧ FrameEnd U o U' L ({ frames := 0, cells := 1, slots := 1, locals := 0 } : Room).cells ({ frames := 0, cells := 1, slots := 1, locals := 0 } : Room).slots) := by
  refine MetFree.of_bodySF (plainFor_of_name pn_15) hisR ?_
  intro p e s m args below meth c s₁ Bd hml0 hP hK
  obtain ⟨rfl, hZ, hh⟩ := hP
  have hx := Bd.exec
  have hby := Bd.bytes
  have hml : c.maxLocals = 1 := hml0
  have hown : s.vm.findClass "java/lang/StringLatin1" = some m.cls := findClass_of_methodNamed Bd.named
  have hnm := (name_of_methodNamed Bd.named Bd.method).1
  have X0 : Stand p l e ({ frames := 0, cells := 1, slots := 1, locals := 0 } : Room) s m #[(.int p1)] below meth c s₁ [] 0 0 := Stand.of_body Bd
  have e0 : s₁.heap = h0 := by rw [← hh, Bd.state]; rfl
  have N0 := Fr.nil n0
  have K0 : Keep h0 h0 [] := Keep.refl h0 _
  refine (show Gl p e below (fun o U' => ∃ v L, o = .returned v ∧ Q15 Z p1 h0 n0 v U'.heap L ∧ FrameEnd s o U' L ({ frames := 0, cells := 1, slots := 1, locals := 0 } : Room).cells ({ frames := 0, cells := 1, slots := 1, locals := 0 } : Room).slots) (s₁.setTop (entryFrame m #[(.int p1)] 1)) from ?_)
  obtain ⟨L0, hL0⟩ : ∃ z : Array Slot, z = #[.val (.int p1)] := ⟨_, rfl⟩
  refine Gl.st (B := (s₁.setTop (mkF m 0 L0 []))) (fun t k => castTop (efAt hL0 (ef_15 m p1)) k) ?_
  refine Gl.st (B := (s₁.setTop (mkF m 1 L0 [(.int (1 : Int32))]))) (fun t k => XS.iconst X0.here hx rfl (hb hby d15_0) k) ?_
  obtain ⟨T1, h1, k1, X1, e1, E1, A1, Ex1, st1⟩ := newPE X0 hx hZ (tw hw 59 rfl) e0 (g := (mkF m 1 L0 [(.int (1 : Int32))])) rfl (hb hby d15_1) rfl (by decide) (cap := 1) (by decide) (by decide) (by decide) (by decide) (ad := "[B") rfl
  obtain ⟨b1, gq1⟩ : ∃ z, z = h0.size := ⟨_, rfl⟩
  rw [← gq1] at A1 Ex1 st1
  have V1 : Arv Z h1 b1 k1 .byte (1 : Int32) [(.int (0 : Int32))] (.int (0 : Int32)) := (Arv.new A1 (by decide)).pad (pad_rep [] (.int (0 : Int32)) 1)
  have g_b1 : n0 ≤ b1 := Nat.le_trans Z0 (Nat.le_of_eq gq1.symm)
  have sz_b1 : h0.size ≤ b1 := Nat.le_trans K0.1 (Nat.le_of_eq gq1.symm)
  have lt_b1 := V1.lt
  have Zc2 : n0 ≤ h1.size := Nat.le_trans Z0 E1.1
  have K3 : Keep h0 h1 [] := K0.ext E1
  refine Gl.st (B := (T1.setTop (mkF m 3 L0 [(.ref b1)]))) st1 ?_
  refine Gl.st (B := (T1.setTop (mkF m 4 L0 [(.ref b1), (.ref b1)]))) (fun t k => XS.dup X1.here hx rfl (hb hby d15_3) rfl rfl k) ?_
  refine Gl.st (B := (T1.setTop (mkF m 5 L0 [(.int (0 : Int32)), (.ref b1), (.ref b1)]))) (fun t k => XS.iconst X1.here hx rfl (hb hby d15_4) k) ?_
  refine Gl.st (B := (T1.setTop (mkF m 6 L0 [(.int p1), (.int (0 : Int32)), (.ref b1), (.ref b1)]))) (fun t k => XS.iloadN X1.here hx rfl (hb hby d15_5) (ldAt hL0 rfl) k) ?_
  refine Gl.st (B := (T1.setTop (mkF m 7 L0 [(.int (p1.toInt8.toInt32)), (.int (0 : Int32)), (.ref b1), (.ref b1)]))) (fun t k => XS.i2b X1.here hx rfl (hb hby d15_6) rfl k) ?_
  obtain ⟨x7_4, hx7_4⟩ : ∃ z : Int32, z = (p1.toInt8.toInt32) := ⟨_, rfl⟩
  refine Gl.cast (B := (T1.setTop (mkF m 7 L0 [(.int x7_4), (.int (0 : Int32)), (.ref b1), (.ref b1)]))) (by rw [hx7_4]) ?_
  obtain ⟨cl5, Ar5, q5, S5, P5, H5, G5⟩ := (id V1)
  have hin7_5 : ¬ ((0 : Int32) < 0 ∨ cl5.slots.size ≤ ((0 : Int32)).toNatClampNeg) := inb_of S5 ⟨by decide, by decide⟩
  obtain ⟨T5, h5, X5, e5, W5, st5⟩ := stB X1 hx hZ e1 Ar5 (j := (0 : Int32)) hin7_5 (g := (mkF m 7 L0 [(.int x7_4), (.int (0 : Int32)), (.ref b1), (.ref b1)])) rfl rfl (hb hby d15_7)
  have V5 : Arv Z h5 b1 k1 .byte (1 : Int32) [(.int (nar .byte x7_4))] (.int (0 : Int32)) := Arv.set Ar5 q5 S5 P5 H5 G5 (fits_nar_byte _) W5 0 rfl (Nat.le_of_ble_eq_true rfl)
  have Zc6 : n0 ≤ h5.size := Nat.le_trans Zc2 (Nat.le_of_eq W5.size.symm)
  have K7 : Keep h0 h5 [] := K3.wr W5 (Or.inr sz_b1)
  have N5 := Fr.snoc X5 N0 g_b1
  refine Gl.st (B := (T5.setTop (mkF m 8 L0 [(.ref b1)]))) st5 ?_
  obtain ⟨fs, hr, hrun, hended, hW, hsame⟩ := X5.leave (v := some (.ref b1)) (fun h => by rw [Bd.returns] at h; cases h)
  refine Gl.fin (X5.areturnOut hx rfl Bd.returns rfl (hb hby d15_8) hr) hrun hended ⟨_, _, rfl, ?_, ⟨_, rfl⟩, hW, hsame.mono (by decide) (by decide)⟩
  show Q15 Z p1 h0 n0 _ T5.heap _
  rw [e5]
  have c8 := (Ex1.wr W5)
  exact ⟨b1, k1, rfl, N5, K7, sz_b1, c8, (by subst hx7_4; exact V5)⟩
theorem sn0 {Z : State} {a0 : Array Value} (hw : ∀ d ∈ tables_1, d.before a0 Z = true) : Jvm.RoadKit.slotOf Z "java/lang/String" "coder" "B" ≠ Jvm.RoadKit.slotOf Z "java/lang/String" "value" "[B" := slot_ne (Or.inr (tw hw 67 rfl)) (Or.inr (tw hw 69 rfl)) (by decide) (t := .byte) (t' := (.array .byte)) (by decide) (by decide)
theorem sn1 {Z : State} {a0 : Array Value} (hw : ∀ d ∈ tables_1, d.before a0 Z = true) : Jvm.RoadKit.slotOf Z "java/lang/String" "value" "[B" ≠ Jvm.RoadKit.slotOf Z "java/lang/String" "coder" "B" := slot_ne (Or.inr (tw hw 69 rfl)) (Or.inr (tw hw 67 rfl)) (by decide) (t := (.array .byte)) (t' := .byte) (by decide) (by decide)
theorem d16_0 : decode jdk_42_method_151_code 0 = .ok (.aload_n 0, 1) := by decide +kernel
theorem d16_1 : decode jdk_42_method_151_code 1 = .ok (.invokespecial 1, 3) := by decide +kernel
theorem d16_4 : decode jdk_42_method_151_code 4 = .ok (.aload_n 0, 1) := by decide +kernel
theorem d16_5 : decode jdk_42_method_151_code 5 = .ok (.aload_n 1, 1) := by decide +kernel
theorem d16_6 : decode jdk_42_method_151_code 6 = .ok (.putfield 9, 3) := by decide +kernel
theorem d16_9 : decode jdk_42_method_151_code 9 = .ok (.aload_n 0, 1) := by decide +kernel
theorem d16_10 : decode jdk_42_method_151_code 10 = .ok (.iload_n 2, 1) := by decide +kernel
theorem d16_11 : decode jdk_42_method_151_code 11 = .ok (.putfield 15, 3) := by decide +kernel
theorem d16_14 : decode jdk_42_method_151_code 14 = .ok (.return_, 1) := by decide +kernel
theorem pn_16 : plainName "java/lang/String" = true := by first | (simp [plainName, overriddenIn]; done) | decide +kernel
theorem ef_16 (m : MethodId) (a1 : Addr) (a2 : Addr) (p3 : Int32) : entryFrame m #[(.ref a1), (.ref a2), (.int p3)] 3 = mkF m 0 #[.val (.ref a1), .val (.ref a2), .val (.int p3)] [] := by first | (simp [entryFrame, mkF, argsToLocals, Value.category]; done) | rfl
def Q16 (Z : State) (a1 : Addr) (a2 : Addr) (p3 : Int32) (u_coder_a1 : Value) (u_value_a1 : Value) (h0 : Heap) (n0 : Nat) (v : Option Value) (h : Heap) (L : List Loc) : Prop := v = none ∧ Fr n0 L ∧ Keep h0 h [a1] ∧ Exa Z h a1 "java/lang/String" ∧ Fld Z h a1 "java/lang/String" "value" "[B" (.ref a2) ∧ Fld Z h a1 "java/lang/String" "coder" "B" (.int (nar .byte p3))
set_option maxRecDepth 65536 in
set_option maxHeartbeats 40000000 in
theorem rm16 (l : Launch) (Z : State) (a0 : Array Value) (hw : ∀ d ∈ tables_1, d.before a0 Z = true) (ws : List Jvm.Cond) (a1 : Addr) (a2 : Addr) (p3 : Int32) (u_coder_a1 : Value) (u_value_a1 : Value) (h0 : Heap) (n0 : Nat) (Z0 : n0 ≤ h0.size) (F_coder_a1 : Fld Z h0 a1 "java/lang/String" "coder" "B" u_coder_a1) (F_value_a1 : Fld Z h0 a1 "java/lang/String" "value" "[B" u_value_a1) (E_a1 : Exa Z h0 a1 "java/lang/String") (g_a1 : n0 ≤ a1) :
    MetFree l (⟨"java/lang/String", "<init>", "([BB)V"⟩ : MethodName) (head1 (Jvm.Cond.code (⟨"java/lang/String", "<init>", "([BB)V"⟩ : MethodName) jdk_42_method_151_code 3 none :: ws) ({ frames := 1, cells := 0, slots := 0, locals := 12 } : Room)) (fun a U => a = #[(.ref a1), (.ref a2), (.int p3)] ∧ Z.Warmed39 U.vm ∧ U.heap = h0) (fun _ _ _ _ _ => True) (fun _ U o U' => ∃ v L, o = .returned v ∧ Q16 Z a1 a2 p3 u_coder_a1 u_value_a1 h0 n0 v U'.heap L ∧ FrameEnd U o U' L ({ frames := 1, cells := 0, slots := 0, locals := 12 } : Room).cells ({ frames := 1, cells := 0, slots := 0, locals := 12 } : Room).slots) := by
  refine MetFree.of_bodySF (plainFor_of_name pn_16) hisR ?_
  intro p e s m args below meth c s₁ Bd hml0 hP hK
  obtain ⟨rfl, hZ, hh⟩ := hP
  have hx := Bd.exec
  have hby := Bd.bytes
  have hml : c.maxLocals = 3 := hml0
  have hown : s.vm.findClass "java/lang/String" = some m.cls := findClass_of_methodNamed Bd.named
  have hnm := (name_of_methodNamed Bd.named Bd.method).1
  have X0 : Stand p l e ({ frames := 1, cells := 0, slots := 0, locals := 12 } : Room) s m #[(.ref a1), (.ref a2), (.int p3)] below meth c s₁ [] 0 0 := Stand.of_body Bd
  have e0 : s₁.heap = h0 := by rw [← hh, Bd.state]; rfl
  have N0 := Fr.nil n0
  have K0 : Keep h0 h0 [a1] := Keep.refl h0 _
  refine (show Gl p e below (fun o U' => ∃ v L, o = .returned v ∧ Q16 Z a1 a2 p3 u_coder_a1 u_value_a1 h0 n0 v U'.heap L ∧ FrameEnd s o U' L ({ frames := 1, cells := 0, slots := 0, locals := 12 } : Room).cells ({ frames := 1, cells := 0, slots := 0, locals := 12 } : Room).slots) (s₁.setTop (entryFrame m #[(.ref a1), (.ref a2), (.int p3)] 3)) from ?_)
  obtain ⟨L0, hL0⟩ : ∃ z : Array Slot, z = #[.val (.ref a1), .val (.ref a2), .val (.int p3)] := ⟨_, rfl⟩
  refine Gl.st (B := (s₁.setTop (mkF m 0 L0 []))) (fun t k => castTop (efAt hL0 (ef_16 m a1 a2 p3)) k) ?_
  refine Gl.st (B := (s₁.setTop (mkF m 1 L0 [(.ref a1)]))) (fun t k => XS.aloadN X0.here hx rfl (hb hby d16_0) (ldAt hL0 rfl) rfl k) ?_
  obtain ⟨T1, X1, e1, st1⟩ := initO X0 hx hZ hown (tw hw 53 rfl) (tw hw 15 rfl) (tw hw 16 rfl) e0 (g := (mkF m 1 L0 [(.ref a1)])) rfl (szAt hml hL0 rfl) rfl (hb hby d16_1) (by decide) (W := 0) (by show 2 * 0 + _ ≤ _; exact Nat.le_of_eq rfl) (by decide)
  refine Gl.st (B := (T1.setTop (mkF m 4 L0 []))) st1 ?_
  refine Gl.st (B := (T1.setTop (mkF m 5 L0 [(.ref a1)]))) (fun t k => XS.aloadN X1.here hx rfl (hb hby d16_4) (ldAt hL0 rfl) rfl k) ?_
  refine Gl.st (B := (T1.setTop (mkF m 6 L0 [(.ref a2), (.ref a1)]))) (fun t k => XS.aloadN X1.here hx rfl (hb hby d16_5) (ldAt hL0 rfl) rfl k) ?_
  obtain ⟨T2, h2, X2, e2, W2, st2⟩ := putF X1 hx hZ hown (host := "") (Or.inl (tw hw 68 rfl)) Via.refl e1 F_value_a1 E_a1 (Or.inr ⟨(tw hw 69 rfl), rfl, hnm⟩) (tw hw 44 rfl) (ty := (.array .byte)) (by decide) rfl rfl (g := (mkF m 6 L0 [(.ref a2), (.ref a1)])) rfl rfl (hb hby d16_6)
  have Fw2 := F_value_a1.same W2
  have Zc3 : n0 ≤ h2.size := Nat.le_trans Z0 (Nat.le_of_eq W2.size.symm)
  have K4 : Keep h0 h2 [a1] := K0.wr W2 (Or.inl (List.mem_of_getElem? (i := 0) rfl))
  have N2 := Fr.snoc X2 N0 g_a1
  refine Gl.st (B := (T2.setTop (mkF m 9 L0 []))) st2 ?_
  refine Gl.st (B := (T2.setTop (mkF m 10 L0 [(.ref a1)]))) (fun t k => XS.aloadN X2.here hx rfl (hb hby d16_9) (ldAt hL0 rfl) rfl k) ?_
  refine Gl.st (B := (T2.setTop (mkF m 11 L0 [(.int p3), (.ref a1)]))) (fun t k => XS.iloadN X2.here hx rfl (hb hby d16_10) (ldAt hL0 rfl) k) ?_
  have c5 := (E_a1.wr W2)
  have c6 := (F_coder_a1.other W2 (Or.inr (sn0 hw)))
  obtain ⟨T7, h7, X7, e7, W7, st7⟩ := putFN X2 hx hZ hown (tw hw 66 rfl) Via.refl e2 c6 c5 (Or.inr ⟨(tw hw 67 rfl), rfl, hnm⟩) (tw hw 44 rfl) (ty := .byte) (v' := (.int (nar .byte p3))) (by decide) rfl (fits_nar_byte _) (g := (mkF m 11 L0 [(.int p3), (.ref a1)])) rfl rfl (hb hby d16_11)
  have Fw7 := c6.same W7
  have Zc8 : n0 ≤ h7.size := Nat.le_trans Zc3 (Nat.le_of_eq W7.size.symm)
  have K9 : Keep h0 h7 [a1] := K4.wr W7 (Or.inl (List.mem_of_getElem? (i := 0) rfl))
  have N7 := Fr.snoc X7 N2 g_a1
  refine Gl.st (B := (T7.setTop (mkF m 14 L0 []))) st7 ?_
  obtain ⟨fs, hr, hrun, hended, hW, hsame⟩ := X7.leave (v := none) (fun _ => rfl)
  refine Gl.fin (X7.returnOut hx Bd.returns (hb hby d16_14) hr) hrun hended ⟨_, _, rfl, ?_, ⟨_, rfl⟩, hW, hsame.mono (by decide) (by decide)⟩
  show Q16 Z a1 a2 p3 u_coder_a1 u_value_a1 h0 n0 _ T7.heap _
  rw [e7]
  have c10 := (c5.wr W7)
  have c11 := (Fw2.other W7 (Or.inr (sn1 hw)))
  exact ⟨rfl, N7, K9, c10, c11, Fw7⟩
theorem d13_0 : decode jdk_42_method_139_code 0 = .ok (.getstatic 38, 3) := by decide +kernel
theorem d13_3 : decode jdk_42_method_139_code 3 = .ok (.ifCond .eq 23, 3) := by decide +kernel
theorem d13_6 : decode jdk_42_method_139_code 6 = .ok (.iload_n 0, 1) := by decide +kernel
theorem d13_7 : decode jdk_42_method_139_code 7 = .ok (.invokestatic 1015, 3) := by decide +kernel
theorem d13_10 : decode jdk_42_method_139_code 10 = .ok (.ifCond .eq 16, 3) := by decide +kernel
theorem d13_13 : decode jdk_42_method_139_code 13 = .ok (.new 10, 3) := by decide +kernel
theorem d13_16 : decode jdk_42_method_139_code 16 = .ok (.dup, 1) := by decide +kernel
theorem d13_17 : decode jdk_42_method_139_code 17 = .ok (.iload_n 0, 1) := by decide +kernel
theorem d13_18 : decode jdk_42_method_139_code 18 = .ok (.invokestatic 1018, 3) := by decide +kernel
theorem d13_21 : decode jdk_42_method_139_code 21 = .ok (.iconst 0, 1) := by decide +kernel
theorem d13_22 : decode jdk_42_method_139_code 22 = .ok (.invokespecial 209, 3) := by decide +kernel
theorem d13_25 : decode jdk_42_method_139_code 25 = .ok (.areturn, 1) := by decide +kernel
theorem pn_13 : plainName "java/lang/String" = true := by first | (simp [plainName, overriddenIn]; done) | decide +kernel
theorem pd_13_0 : parseMethodDescriptor "(C)Z" = some ⟨[.char], some .boolean⟩ := by decide +kernel
theorem pd_13_1 : parseMethodDescriptor "(C)[B" = some ⟨[.char], some (.array .byte)⟩ := by decide +kernel
theorem pd_13_2 : parseMethodDescriptor "([BB)V" = some ⟨[(.array .byte), .byte], none⟩ := by decide +kernel
theorem ef_13 (m : MethodId) (p1 : Int32) : entryFrame m #[(.int p1)] 1 = mkF m 0 #[.val (.int p1)] [] := by first | (simp [entryFrame, mkF, argsToLocals, Value.category]; done) | rfl
def Q13 (Z : State) (p1 : Int32) (z_COMP0 : Int32) (h0 : Heap) (n0 : Nat) (v : Option Value) (h : Heap) (L : List Loc) : Prop := ∃ (t0 : Addr) (t1 : Addr) (kx_t1 : ClassId), v = some (.ref t0) ∧ Fr n0 L ∧ Keep h0 h [] ∧ h0.size ≤ t0 ∧ h0.size ≤ t1 ∧ Exa Z h t0 "java/lang/String" ∧ Fld Z h t0 "java/lang/String" "coder" "B" (.int (nar .byte (0 : Int32))) ∧ Fld Z h t0 "java/lang/String" "value" "[B" (.ref t1) ∧ Exa Z h t1 "[B" ∧ Arv Z h t1 kx_t1 .byte (1 : Int32) [(.int (nar .byte ((p1.toInt8.toInt32))))] (.int (0 : Int32))
set_option maxRecDepth 65536 in
set_option maxHeartbeats 40000000 in
theorem rm13 (l : Launch) (Z : State) (a0 : Array Value) (hw : ∀ d ∈ tables_1, d.before a0 Z = true) (ws : List Jvm.Cond) (p1 : Int32) (z_COMP0 : Int32) (h0 : Heap) (n0 : Nat) (Z0 : n0 ≤ h0.size) (S_COMP0 : Sta Z h0 "java/lang/String" "COMPACT_STRINGS" "Z" (.int z_COMP0)) (hq3 : ¬ (z_COMP0 = (0 : Int32))) (hr7_hq4 : ¬ ((255 : Int32) < p1)) :
    MetFree l (⟨"java/lang/String", "valueOf", "(C)Ljava/lang/String;"⟩ : MethodName) (head1 (Jvm.Cond.code (⟨"java/lang/String", "valueOf", "(C)Ljava/lang/String;"⟩ : MethodName) jdk_42_method_139_code 1 (some (.object "java/lang/String")) :: ws) ({ frames := 2, cells := 2, slots := 5, locals := 27 } : Room)) (fun a U => a = #[(.int p1)] ∧ Z.Warmed39 U.vm ∧ U.heap = h0) (fun _ _ _ _ _ => True) (fun _ U o U' => ∃ v L, o = .returned v ∧ Q13 Z p1 z_COMP0 h0 n0 v U'.heap L ∧ FrameEnd U o U' L ({ frames := 2, cells := 2, slots := 5, locals := 27 } : Room).cells ({ frames := 2, cells := 2, slots := 5, locals := 27 } : Room).slots) := by
  refine MetFree.of_bodySF (plainFor_of_name pn_13) hisR ?_
  intro p e s m args below meth c s₁ Bd hml0 hP hK
  obtain ⟨rfl, hZ, hh⟩ := hP
  have hx := Bd.exec
  have hby := Bd.bytes
  have hml : c.maxLocals = 1 := hml0
  have hown : s.vm.findClass "java/lang/String" = some m.cls := findClass_of_methodNamed Bd.named
  have hnm := (name_of_methodNamed Bd.named Bd.method).1
  have X0 : Stand p l e ({ frames := 2, cells := 2, slots := 5, locals := 27 } : Room) s m #[(.int p1)] below meth c s₁ [] 0 0 := Stand.of_body Bd
  have e0 : s₁.heap = h0 := by rw [← hh, Bd.state]; rfl
  have N0 := Fr.nil n0
  have K0 : Keep h0 h0 [] := Keep.refl h0 _
  refine (show Gl p e below (fun o U' => ∃ v L, o = .returned v ∧ Q13 Z p1 z_COMP0 h0 n0 v U'.heap L ∧ FrameEnd s o U' L ({ frames := 2, cells := 2, slots := 5, locals := 27 } : Room).cells ({ frames := 2, cells := 2, slots := 5, locals := 27 } : Room).slots) (s₁.setTop (entryFrame m #[(.int p1)] 1)) from ?_)
  obtain ⟨L0, hL0⟩ : ∃ z : Array Slot, z = #[.val (.int p1)] := ⟨_, rfl⟩
  refine Gl.st (B := (s₁.setTop (mkF m 0 L0 []))) (fun t k => castTop (efAt hL0 (ef_13 m p1)) k) ?_
  obtain ⟨T1, X1, e1, st1⟩ := getS2 X0 hx hZ hown (host := "") (Or.inl (tw hw 54 rfl)) Via.refl e0 S_COMP0 (g := (mkF m 0 L0 [])) rfl (hb hby d13_0)
  refine Gl.st (B := (T1.setTop (mkF m 3 L0 [(.int z_COMP0)]))) st1 ?_
  refine Gl.st (B := (T1.setTop (mkF m 6 L0 []))) (fun t k => XS.ifNo X1.here hx rfl (hb hby d13_3) rfl ((if0 _ _).trans (feq hq3).1) k) ?_
  refine Gl.st (B := (T1.setTop (mkF m 7 L0 [(.int p1)]))) (fun t k => XS.iloadN X1.here hx rfl (hb hby d13_6) (ldAt hL0 rfl) k) ?_
  obtain ⟨_, _, ⟨T3, L3q, k3, n3⟩, -, X3, ⟨Lc3, hQ3, l3, y3, z3⟩, st3⟩ := Jvm.LawKit.callS X1 hx (y := (⟨"java/lang/StringLatin1", "canEncode", "(C)Z"⟩ : MethodName)) hown (mvT hZ (tw hw 78 rfl)) (mvT hZ (tw hw 79 rfl)) (mvT hZ (tw hw 80 rfl)) (mvT hZ (tw hw 81 rfl)) (by decide) (backOf (W := 0) (rm14 l Z a0 hw [] p1 h0 n0 Z0 hr7_hq4) hZ (tw hw 81 rfl) (tw hw 80 rfl) (by decide) (by decide)) (g := (mkF m 7 L0 [(.int p1)])) rfl (szAt hml hL0 rfl) (argsL := [(.int p1)]) (rest := []) (lenOf pd_13_0 rfl) rfl (by show 2 * 0 + _ ≤ _; exact Nat.le_of_eq rfl) (hb hby d13_7) (fun _ _ => ⟨rfl, e1, (by decide : 0 + 0 ≤ _), (by decide : 0 + 0 ≤ _)⟩)
  dsimp only [Pt.U, Pt.locs, Pt.cells, Pt.slots] at X3 l3 y3 z3 st3 hQ3
  subst l3 y3 z3
  obtain ⟨rfl, N3q, eh3⟩ := hQ3
  have N3 := Fr.app N0 N3q
  refine Gl.st (B := (T3.setTop (mkF m 10 L0 [(.int (1 : Int32))]))) (fun t k => st3 t k) ?_
  refine Gl.st (B := (T3.setTop (mkF m 13 L0 []))) (fun t k => XS.ifNo X3.here hx rfl (hb hby d13_10) rfl (by decide) k) ?_
  obtain ⟨T4, h4, X4, e4, E4, A4, D4, -, st4⟩ := newO X3 hx hZ hown (tw hw 82 rfl) (tw hw 44 rfl) (tw hw 45 rfl) eh3 (g := (mkF m 13 L0 [])) rfl (hb hby d13_13) (by decide) (by decide)
  obtain ⟨b4, gq4⟩ : ∃ z, z = h0.size := ⟨_, rfl⟩
  rw [← gq4] at A4 D4 st4
  have g_b4 : n0 ≤ b4 := Nat.le_trans Z0 (Nat.le_of_eq gq4.symm)
  have sz_b4 : h0.size ≤ b4 := Nat.le_trans K0.1 (Nat.le_of_eq gq4.symm)
  have lt_b4 := A4.lt
  have Zc5 : n0 ≤ h4.size := Nat.le_trans Z0 E4.1
  have K6 : Keep h0 h4 [] := K0.ext E4
  have F4_coder : Fld Z h4 b4 "java/lang/String" "coder" "B" (.int (0 : Int32)) := D4 (Or.inr (tw hw 67 rfl)) (ty := .byte) (by decide)
  have F4_value : Fld Z h4 b4 "java/lang/String" "value" "[B" .null := D4 (Or.inr (tw hw 69 rfl)) (ty := (.array .byte)) (by decide)
  refine Gl.st (B := (T4.setTop (mkF m 16 L0 [(.ref b4)]))) st4 ?_
  refine Gl.st (B := (T4.setTop (mkF m 17 L0 [(.ref b4), (.ref b4)]))) (fun t k => XS.dup X4.here hx rfl (hb hby d13_16) rfl rfl k) ?_
  refine Gl.st (B := (T4.setTop (mkF m 18 L0 [(.int p1), (.ref b4), (.ref b4)]))) (fun t k => XS.iloadN X4.here hx rfl (hb hby d13_17) (ldAt hL0 rfl) k) ?_
  obtain ⟨_, _, ⟨T7, L7q, k7, n7⟩, -, X7, ⟨Lc7, hQ7, l7, y7, z7⟩, st7⟩ := Jvm.LawKit.callS X4 hx (y := (⟨"java/lang/StringLatin1", "toBytes", "(C)[B"⟩ : MethodName)) hown (mvT hZ (tw hw 83 rfl)) (mvT hZ (tw hw 84 rfl)) (mvT hZ (tw hw 80 rfl)) (mvT hZ (tw hw 85 rfl)) (by decide) (backOf (W := 2) (rm15 l Z a0 hw [] p1 h4 n0 Zc5) hZ (tw hw 85 rfl) (tw hw 80 rfl) (by decide) (by decide)) (g := (mkF m 18 L0 [(.int p1), (.ref b4), (.ref b4)])) rfl (szAt hml hL0 rfl) (argsL := [(.int p1)]) (rest := [(.ref b4), (.ref b4)]) (lenOf pd_13_1 rfl) rfl (by show 2 * 0 + _ ≤ _; exact Nat.le_of_eq rfl) (hb hby d13_18) (fun _ _ => ⟨rfl, e4, (by decide : 1 + 1 ≤ _), (by decide : 4 + 1 ≤ _)⟩)
  dsimp only [Pt.U, Pt.locs, Pt.cells, Pt.slots] at X7 l7 y7 z7 st7 hQ7
  subst l7 y7 z7
  obtain ⟨b7_t0, k7_kx_t0, rfl, N7q, Kc7, fq7_0, fq7_1, fq7_2⟩ := hQ7
  have g_b7_t0 : n0 ≤ b7_t0 := Nat.le_trans Zc5 fq7_0
  have sz_b7_t0 : h0.size ≤ b7_t0 := Nat.le_trans K6.1 fq7_0
  have lt_b7_t0 := fq7_1.lt
  have Zc8 : n0 ≤ T7.heap.size := Nat.le_trans Zc5 Kc7.1
  have K9 : Keep h0 T7.heap [] := K6.trans Kc7 all0
  have N7 := Fr.app N3 N7q
  refine Gl.st (B := (T7.setTop (mkF m 21 L0 [(.ref b7_t0), (.ref b4), (.ref b4)]))) (fun t k => st7 t k) ?_
  refine Gl.st (B := (T7.setTop (mkF m 22 L0 [(.int (0 : Int32)), (.ref b7_t0), (.ref b4), (.ref b4)]))) (fun t k => XS.iconst X7.here hx rfl (hb hby d13_21) k) ?_
  have c11 := (F4_coder.keep Kc7 nin0)
  have c12 := (F4_value.keep Kc7 nin0)
  have c13 := (A4.keep Kc7)
  obtain ⟨_, _, ⟨T10, L10q, k10, n10⟩, -, X10, ⟨Lc10, hQ10, l10, y10, z10⟩, st10⟩ := X7.specialBack hx (y := (⟨"java/lang/String", "<init>", "([BB)V"⟩ : MethodName)) rfl hown (mvT hZ (tw hw 86 rfl)) (mvT hZ (tw hw 87 rfl)) (mvT hZ (tw hw 88 rfl)) (by decide) (backOf (W := 1) (rm16 l Z a0 hw [] b4 b7_t0 (0 : Int32) ((.int (0 : Int32))) .null T7.heap n0 Zc8 c11 c12 c13 g_b4) hZ (tw hw 88 rfl) (tw hw 45 rfl) (by decide) (by decide)) (g := (mkF m 22 L0 [(.int (0 : Int32)), (.ref b7_t0), (.ref b4), (.ref b4)])) rfl (szAt hml hL0 rfl) (Steps.refl _) (a := b4) (argsL := [(.ref b7_t0), (.int (0 : Int32))]) (rest := [(.ref b4)]) (lenOf pd_13_2 rfl) rfl (by show 2 * 0 + _ ≤ _; exact Nat.le_of_eq rfl) (hb hby d13_22) (fun _ _ => ⟨rfl, rfl, (by decide : 2 + 0 ≤ _), (by decide : 5 + 0 ≤ _)⟩)
  dsimp only [Pt.U, Pt.locs, Pt.cells, Pt.slots] at X10 l10 y10 z10 st10 hQ10
  subst l10 y10 z10
  obtain ⟨rfl, N10q, Kc10, fq10_0, fq10_1, fq10_2⟩ := hQ10
  have Zc14 : n0 ≤ T10.heap.size := Nat.le_trans Zc8 Kc10.1
  have K15 : Keep h0 T10.heap [] := K9.trans Kc10 (allS (Or.inr sz_b4) all0)
  have N10 := Fr.app N7 N10q
  refine Gl.st (B := (T10.setTop (mkF m 25 L0 [(.ref b4)]))) (fun t k => st10.trans k) ?_
  obtain ⟨fs, hr, hrun, hended, hW, hsame⟩ := X10.leave (v := some (.ref b4)) (fun h => by rw [Bd.returns] at h; cases h)
  refine Gl.fin (X10.areturnOut hx rfl Bd.returns rfl (hb hby d13_25) hr) hrun hended ⟨_, _, rfl, ?_, ⟨_, rfl⟩, hW, hsame.mono (by decide) (by decide)⟩
  show Q13 Z p1 z_COMP0 h0 n0 _ T10.heap _
  have c16 := (fq7_1.keep Kc10)
  have ne_b4_b7_t0_17 : b4 ≠ b7_t0 := Nat.ne_of_lt (Nat.lt_of_lt_of_le lt_b4 fq7_0)
  have c18 := (fq7_2.keep Kc10 (ninS (Ne.symm ne_b4_b7_t0_17) nin0))
  exact ⟨b4, b7_t0, k7_kx_t0, rfl, N10, K15, sz_b4, sz_b7_t0, fq10_0, fq10_2, fq10_1, c16, c18⟩
theorem d12_0 : decode jdk_52_method_15_code 0 = .ok (.iload_n 1, 1) := by decide +kernel
theorem d12_1 : decode jdk_52_method_15_code 1 = .ok (.aload_n 0, 1) := by decide +kernel
theorem d12_2 : decode jdk_52_method_15_code 2 = .ok (.arraylength, 1) := by decide +kernel
theorem d12_3 : decode jdk_52_method_15_code 3 = .ok (.isub, 1) := by decide +kernel
theorem d12_4 : decode jdk_52_method_15_code 4 = .ok (.bipush 31, 2) := by decide +kernel
theorem d12_6 : decode jdk_52_method_15_code 6 = .ok (.iushr, 1) := by decide +kernel
theorem d12_7 : decode jdk_52_method_15_code 7 = .ok (.i2b, 1) := by decide +kernel
theorem d12_8 : decode jdk_52_method_15_code 8 = .ok (.ireturn, 1) := by decide +kernel
theorem pn_12 : plainName "java/lang/StringUTF16" = true := by first | (simp [plainName, overriddenIn]; done) | decide +kernel
theorem ef_12 (m : MethodId) (a1 : Addr) : entryFrame m #[(.ref a1), (.int (2 : Int32))] 2 = mkF m 0 #[.val (.ref a1), .val (.int (2 : Int32))] [] := by first | (simp [entryFrame, mkF, argsToLocals, Value.category]; done) | rfl
def Q12 (Z : State) (a1 : Addr) (kx_a1 : ClassId) (c0 : Int32) (c1 : Int32) (h0 : Heap) (n0 : Nat) (v : Option Value) (h : Heap) (L : List Loc) : Prop := v = some (.int (nar .byte ((((0 : Int32).toUInt32 >>> ((31 : Int32) &&& 31).toUInt32).toInt32).toInt8.toInt32))) ∧ Fr n0 L ∧ h = h0
set_option maxRecDepth 65536 in
set_option maxHeartbeats 40000000 in
theorem rm12 (l : Launch) (Z : State) (a0 : Array Value) (hw : ∀ d ∈ tables_1, d.before a0 Z = true) (ws : List Jvm.Cond) (a1 : Addr) (kx_a1 : ClassId) (c0 : Int32) (c1 : Int32) (h0 : Heap) (n0 : Nat) (Z0 : n0 ≤ h0.size) (V_a1 : Arv Z h0 a1 kx_a1 .byte (2 : Int32) [(.int c0), (.int c1)] (.int (0 : Int32))) :
    MetFree l (⟨"java/lang/StringUTF16", "coderFromArrayLen", "([BI)B"⟩ : MethodName) (head1 (Jvm.Cond.code (⟨"java/lang/StringUTF16", "coderFromArrayLen", "([BI)B"⟩ : MethodName) jdk_52_method_15_code 2 (some .byte) :: ws) ({ frames := 0, cells := 0, slots := 0, locals := 0 } : Room)) (fun a U => a = #[(.ref a1), (.int (2 : Int32))] ∧ Z.Warmed39 U.vm ∧ U.heap = h0) (fun _ _ _ _ _ => True) (fun _ U o U' => ∃ v L, o = .returned v ∧ Q12 Z a1 kx_a1 c0 c1 h0 n0 v U'.heap L ∧ FrameEnd U o U' L ({ frames := 0, cells := 0, slots := 0, locals := 0 } : Room).cells ({ frames := 0, cells := 0, slots := 0, locals := 0 } : Room).slots) := by
  refine MetFree.of_bodySF (plainFor_of_name pn_12) hisR ?_
  intro p e s m args below meth c s₁ Bd hml0 hP hK
  obtain ⟨rfl, hZ, hh⟩ := hP
  have hx := Bd.exec
  have hby := Bd.bytes
  have hml : c.maxLocals = 2 := hml0
  have hown : s.vm.findClass "java/lang/StringUTF16" = some m.cls := findClass_of_methodNamed Bd.named
  have hnm := (name_of_methodNamed Bd.named Bd.method).1
  have X0 : Stand p l e ({ frames := 0, cells := 0, slots := 0, locals := 0 } : Room) s m #[(.ref a1), (.int (2 : Int32))] below meth c s₁ [] 0 0 := Stand.of_body Bd
  have e0 : s₁.heap = h0 := by rw [← hh, Bd.state]; rfl
  have N0 := Fr.nil n0
  have K0 : Keep h0 h0 [] := Keep.refl h0 _
  refine (show Gl p e below (fun o U' => ∃ v L, o = .returned v ∧ Q12 Z a1 kx_a1 c0 c1 h0 n0 v U'.heap L ∧ FrameEnd s o U' L ({ frames := 0, cells := 0, slots := 0, locals := 0 } : Room).cells ({ frames := 0, cells := 0, slots := 0, locals := 0 } : Room).slots) (s₁.setTop (entryFrame m #[(.ref a1), (.int (2 : Int32))] 2)) from ?_)
  obtain ⟨L0, hL0⟩ : ∃ z : Array Slot, z = #[.val (.ref a1), .val (.int (2 : Int32))] := ⟨_, rfl⟩
  refine Gl.st (B := (s₁.setTop (mkF m 0 L0 []))) (fun t k => castTop (efAt hL0 (ef_12 m a1)) k) ?_
  refine Gl.st (B := (s₁.setTop (mkF m 1 L0 [(.int (2 : Int32))]))) (fun t k => XS.iloadN X0.here hx rfl (hb hby d12_0) (ldAt hL0 rfl) k) ?_
  refine Gl.st (B := (s₁.setTop (mkF m 2 L0 [(.ref a1), (.int (2 : Int32))]))) (fun t k => XS.aloadN X0.here hx rfl (hb hby d12_1) (ldAt hL0 rfl) rfl k) ?_
  obtain ⟨cl1, Ar1, q1, S1, P1, H1, G1⟩ := (id V_a1)
  refine Gl.st (B := (s₁.setTop (mkF m 3 L0 [(.int cl1.slots.size.toInt32), (.int (2 : Int32))]))) (fun t k => X0.arraylength hx (by rw [e0]; exact Ar1.1) (State.isArrayOf_alike hZ.alike Ar1.2.1) (g := (mkF m 2 L0 [(.ref a1), (.int (2 : Int32))])) rfl rfl (hb hby d12_2) _ k) ?_
  refine Gl.cast (B := (s₁.setTop (mkF m 3 L0 [(.int (2 : Int32)), (.int (2 : Int32))]))) (by rw [len_of S1 P1]) ?_
  refine Gl.st (B := (s₁.setTop (mkF m 4 L0 [(.int (0 : Int32))]))) (fun t k => XS.isub X0.here hx rfl (hb hby d12_3) rfl k) ?_
  refine Gl.st (B := (s₁.setTop (mkF m 6 L0 [(.int (31 : Int32)), (.int (0 : Int32))]))) (fun t k => XS.bipush X0.here hx rfl (hb hby d12_4) k) ?_
  refine Gl.st (B := (s₁.setTop (mkF m 7 L0 [(.int (((0 : Int32).toUInt32 >>> ((31 : Int32) &&& 31).toUInt32).toInt32))]))) (fun t k => XS.iushr X0.here hx rfl (hb hby d12_6) rfl k) ?_
  refine Gl.st (B := (s₁.setTop (mkF m 8 L0 [(.int ((((0 : Int32).toUInt32 >>> ((31 : Int32) &&& 31).toUInt32).toInt32).toInt8.toInt32))]))) (fun t k => XS.i2b X0.here hx rfl (hb hby d12_7) rfl k) ?_
  obtain ⟨fs, hr, hrun, hended, hW, hsame⟩ := X0.leave (v := some (.int (nar .byte ((((0 : Int32).toUInt32 >>> ((31 : Int32) &&& 31).toUInt32).toInt32).toInt8.toInt32)))) (fun h => by rw [Bd.returns] at h; cases h)
  refine Gl.fin (retN X0 hx (t := .byte) Bd.returns (by simp) (hb hby d12_8) hr) hrun hended ⟨_, _, rfl, ?_, ⟨_, rfl⟩, hW, hsame.mono (by decide) (by decide)⟩
  show Q12 Z a1 kx_a1 c0 c1 h0 n0 _ s₁.heap _
  rw [e0]
  exact ⟨rfl, N0, rfl⟩
theorem d11_0 : decode jdk_52_method_21_code 0 = .ok (.iconst 0, 1) := by decide +kernel
theorem d11_1 : decode jdk_52_method_21_code 1 = .ok (.istore 5, 2) := by decide +kernel
theorem d11_3 : decode jdk_52_method_21_code 3 = .ok (.iload 5, 2) := by decide +kernel
theorem d11_5 : decode jdk_52_method_21_code 5 = .ok (.iload 4, 2) := by decide +kernel
theorem d11_7 : decode jdk_52_method_21_code 7 = .ok (.if_icmp .ge 37, 3) := by decide +kernel
theorem d11_10 : decode jdk_52_method_21_code 10 = .ok (.aload_n 0, 1) := by decide +kernel
theorem d11_11 : decode jdk_52_method_21_code 11 = .ok (.iload_n 1, 1) := by decide +kernel
theorem d11_12 : decode jdk_52_method_21_code 12 = .ok (.caload, 1) := by decide +kernel
theorem d11_13 : decode jdk_52_method_21_code 13 = .ok (.istore 6, 2) := by decide +kernel
theorem d11_15 : decode jdk_52_method_21_code 15 = .ok (.iload 6, 2) := by decide +kernel
theorem d11_17 : decode jdk_52_method_21_code 17 = .ok (.sipush 255, 3) := by decide +kernel
theorem d11_20 : decode jdk_52_method_21_code 20 = .ok (.if_icmp .le 6, 3) := by decide +kernel
theorem d11_26 : decode jdk_52_method_21_code 26 = .ok (.aload_n 2, 1) := by decide +kernel
theorem d11_27 : decode jdk_52_method_21_code 27 = .ok (.iload_n 3, 1) := by decide +kernel
theorem d11_28 : decode jdk_52_method_21_code 28 = .ok (.iload 6, 2) := by decide +kernel
theorem d11_30 : decode jdk_52_method_21_code 30 = .ok (.i2b, 1) := by decide +kernel
theorem d11_31 : decode jdk_52_method_21_code 31 = .ok (.bastore, 1) := by decide +kernel
theorem d11_32 : decode jdk_52_method_21_code 32 = .ok (.iinc 1 1, 3) := by decide +kernel
theorem d11_35 : decode jdk_52_method_21_code 35 = .ok (.iinc 3 1, 3) := by decide +kernel
theorem d11_38 : decode jdk_52_method_21_code 38 = .ok (.iinc 5 1, 3) := by decide +kernel
theorem d11_41 : decode jdk_52_method_21_code 41 = .ok (.goto (-38), 3) := by decide +kernel
theorem d11_44 : decode jdk_52_method_21_code 44 = .ok (.iload 4, 2) := by decide +kernel
theorem d11_46 : decode jdk_52_method_21_code 46 = .ok (.ireturn, 1) := by decide +kernel
theorem pn_11 : plainName "java/lang/StringUTF16" = true := by first | (simp [plainName, overriddenIn]; done) | decide +kernel
theorem ef_11 (m : MethodId) (a1 : Addr) (a3 : Addr) : entryFrame m #[(.ref a1), (.int (0 : Int32)), (.ref a3), (.int (0 : Int32)), (.int (2 : Int32))] 7 = mkF m 0 #[.val (.ref a1), .val (.int (0 : Int32)), .val (.ref a3), .val (.int (0 : Int32)), .val (.int (2 : Int32)), .unset, .unset] [] := by first | (simp [entryFrame, mkF, argsToLocals, Value.category]; done) | rfl
def Q11 (Z : State) (a1 : Addr) (a3 : Addr) (kx_a1 : ClassId) (c0 : Int32) (c1 : Int32) (kx_a3 : ClassId) (h0 : Heap) (n0 : Nat) (v : Option Value) (h : Heap) (L : List Loc) : Prop := v = some (.int (2 : Int32)) ∧ Fr n0 L ∧ Keep h0 h [a3] ∧ Arv Z h a3 kx_a3 .byte (2 : Int32) [(.int (nar .byte ((c0.toInt8.toInt32)))), (.int (nar .byte ((c1.toInt8.toInt32))))] (.int (0 : Int32))
set_option maxRecDepth 65536 in
set_option maxHeartbeats 40000000 in
theorem rm11 (l : Launch) (Z : State) (a0 : Array Value) (hw : ∀ d ∈ tables_1, d.before a0 Z = true) (ws : List Jvm.Cond) (a1 : Addr) (a3 : Addr) (kx_a1 : ClassId) (c0 : Int32) (c1 : Int32) (kx_a3 : ClassId) (h0 : Heap) (n0 : Nat) (Z0 : n0 ≤ h0.size) (V_a1 : Arv Z h0 a1 kx_a1 .char (2 : Int32) [(.int c0), (.int c1)] (.int (0 : Int32))) (V_a3 : Arv Z h0 a3 kx_a3 .byte (2 : Int32) [(.int (0 : Int32)), (.int (0 : Int32))] (.int (0 : Int32))) (hq20 : ¬ ((255 : Int32) < c0)) (g_a3 : n0 ≤ a3) (ne_a1_a3 : a1 ≠ a3) (hq20_2 : ¬ ((255 : Int32) < c1)) :
    MetFree l (⟨"java/lang/StringUTF16", "compress", "([CI[BII)I"⟩ : MethodName) (head1 (Jvm.Cond.code (⟨"java/lang/StringUTF16", "compress", "([CI[BII)I"⟩ : MethodName) jdk_52_method_21_code 7 (some .int) :: ws) ({ frames := 0, cells := 0, slots := 0, locals := 0 } : Room)) (fun a U => a = #[(.ref a1), (.int (0 : Int32)), (.ref a3), (.int (0 : Int32)), (.int (2 : Int32))] ∧ Z.Warmed39 U.vm ∧ U.heap = h0) (fun _ _ _ _ _ => True) (fun _ U o U' => ∃ v L, o = .returned v ∧ Q11 Z a1 a3 kx_a1 c0 c1 kx_a3 h0 n0 v U'.heap L ∧ FrameEnd U o U' L ({ frames := 0, cells := 0, slots := 0, locals := 0 } : Room).cells ({ frames := 0, cells := 0, slots := 0, locals := 0 } : Room).slots) := by
  refine MetFree.of_bodySF (plainFor_of_name pn_11) hisR ?_
  intro p e s m args below meth c s₁ Bd hml0 hP hK
  obtain ⟨rfl, hZ, hh⟩ := hP
  have hx := Bd.exec
  have hby := Bd.bytes
  have hml : c.maxLocals = 7 := hml0
  have hown : s.vm.findClass "java/lang/StringUTF16" = some m.cls := findClass_of_methodNamed Bd.named
  have hnm := (name_of_methodNamed Bd.named Bd.method).1
  have X0 : Stand p l e ({ frames := 0, cells := 0, slots := 0, locals := 0 } : Room) s m #[(.ref a1), (.int (0 : Int32)), (.ref a3), (.int (0 : Int32)), (.int (2 : Int32))] below meth c s₁ [] 0 0 := Stand.of_body Bd
  have e0 : s₁.heap = h0 := by rw [← hh, Bd.state]; rfl
  have N0 := Fr.nil n0
  have K0 : Keep h0 h0 [a3] := Keep.refl h0 _
  refine (show Gl p e below (fun o U' => ∃ v L, o = .returned v ∧ Q11 Z a1 a3 kx_a1 c0 c1 kx_a3 h0 n0 v U'.heap L ∧ FrameEnd s o U' L ({ frames := 0, cells := 0, slots := 0, locals := 0 } : Room).cells ({ frames := 0, cells := 0, slots := 0, locals := 0 } : Room).slots) (s₁.setTop (entryFrame m #[(.ref a1), (.int (0 : Int32)), (.ref a3), (.int (0 : Int32)), (.int (2 : Int32))] 7)) from ?_)
  obtain ⟨L0, hL0⟩ : ∃ z : Array Slot, z = #[.val (.ref a1), .val (.int (0 : Int32)), .val (.ref a3), .val (.int (0 : Int32)), .val (.int (2 : Int32)), .unset, .unset] := ⟨_, rfl⟩
  refine Gl.st (B := (s₁.setTop (mkF m 0 L0 []))) (fun t k => castTop (efAt hL0 (ef_11 m a1 a3)) k) ?_
  refine Gl.st (B := (s₁.setTop (mkF m 1 L0 [(.int (0 : Int32))]))) (fun t k => XS.iconst X0.here hx rfl (hb hby d11_0) k) ?_
  obtain ⟨L1, hL1⟩ : ∃ z : Array Slot, z = #[.val (.ref a1), .val (.int (0 : Int32)), .val (.ref a3), .val (.int (0 : Int32)), .val (.int (2 : Int32)), .val (.int (0 : Int32)), .unset] := ⟨_, rfl⟩
  refine Gl.st (B := (s₁.setTop (mkF m 3 L1 []))) (fun t k => XS.istore X0.here hx rfl (hb hby d11_1) rfl (l' := L1) (stAt hL0 hL1 rfl rfl) k) ?_
  refine Gl.st (B := (s₁.setTop (mkF m 5 L1 [(.int (0 : Int32))]))) (fun t k => XS.iload X0.here hx rfl (hb hby d11_3) (ldAt hL1 rfl) k) ?_
  refine Gl.st (B := (s₁.setTop (mkF m 7 L1 [(.int (2 : Int32)), (.int (0 : Int32))]))) (fun t k => XS.iload X0.here hx rfl (hb hby d11_5) (ldAt hL1 rfl) k) ?_
  refine Gl.st (B := (s₁.setTop (mkF m 10 L1 []))) (fun t k => XS.icmpNo X0.here hx rfl (hb hby d11_7) rfl (by decide) k) ?_
  refine Gl.st (B := (s₁.setTop (mkF m 11 L1 [(.ref a1)]))) (fun t k => XS.aloadN X0.here hx rfl (hb hby d11_10) (ldAt hL1 rfl) rfl k) ?_
  refine Gl.st (B := (s₁.setTop (mkF m 12 L1 [(.int (0 : Int32)), (.ref a1)]))) (fun t k => XS.iloadN X0.here hx rfl (hb hby d11_11) (ldAt hL1 rfl) k) ?_
  obtain ⟨cl2, Ar2, q2, S2, P2, H2, G2⟩ := (id V_a1)
  have hin12_2 : ¬ ((0 : Int32) < 0 ∨ cl2.slots.size ≤ ((0 : Int32)).toNatClampNeg) := inb_of S2 ⟨by decide, by decide⟩
  have hat2 := Has.at H2 hin12_2 (v := (.int c0)) rfl
  refine Gl.st (B := (s₁.setTop (mkF m 13 L1 [(.int c0)]))) (fun t k => X0.caload hx (j := (0 : Int32)) (v := (.int c0)) (by rw [e0]; exact Ar2.1) (State.isArrayOf_alike hZ.alike Ar2.2.1) Ar2.2.2 hin12_2 hat2 (g := (mkF m 12 L1 [(.int (0 : Int32)), (.ref a1)])) rfl rfl (hb hby d11_12) _ k) ?_
  obtain ⟨L3, hL3⟩ : ∃ z : Array Slot, z = #[.val (.ref a1), .val (.int (0 : Int32)), .val (.ref a3), .val (.int (0 : Int32)), .val (.int (2 : Int32)), .val (.int (0 : Int32)), .val (.int c0)] := ⟨_, rfl⟩
  refine Gl.st (B := (s₁.setTop (mkF m 15 L3 []))) (fun t k => XS.istore X0.here hx rfl (hb hby d11_13) rfl (l' := L3) (stAt hL1 hL3 rfl rfl) k) ?_
  refine Gl.st (B := (s₁.setTop (mkF m 17 L3 [(.int c0)]))) (fun t k => XS.iload X0.here hx rfl (hb hby d11_15) (ldAt hL3 rfl) k) ?_
  refine Gl.st (B := (s₁.setTop (mkF m 20 L3 [(.int (255 : Int32)), (.int c0)]))) (fun t k => XS.sipush X0.here hx rfl (hb hby d11_17) k) ?_
  refine Gl.st (B := (s₁.setTop (mkF m 26 L3 []))) (fun t k => XS.icmpYes X0.here hx rfl (pc0 := 20) (pc' := 26) rfl (hb hby d11_20) rfl (flt hq20).2.2.2 (by decide) (by decide) k) ?_
  refine Gl.st (B := (s₁.setTop (mkF m 27 L3 [(.ref a3)]))) (fun t k => XS.aloadN X0.here hx rfl (hb hby d11_26) (ldAt hL3 rfl) rfl k) ?_
  refine Gl.st (B := (s₁.setTop (mkF m 28 L3 [(.int (0 : Int32)), (.ref a3)]))) (fun t k => XS.iloadN X0.here hx rfl (hb hby d11_27) (ldAt hL3 rfl) k) ?_
  refine Gl.st (B := (s₁.setTop (mkF m 30 L3 [(.int c0), (.int (0 : Int32)), (.ref a3)]))) (fun t k => XS.iload X0.here hx rfl (hb hby d11_28) (ldAt hL3 rfl) k) ?_
  refine Gl.st (B := (s₁.setTop (mkF m 31 L3 [(.int (c0.toInt8.toInt32)), (.int (0 : Int32)), (.ref a3)]))) (fun t k => XS.i2b X0.here hx rfl (hb hby d11_30) rfl k) ?_
  obtain ⟨x31_5, hx31_5⟩ : ∃ z : Int32, z = (c0.toInt8.toInt32) := ⟨_, rfl⟩
  refine Gl.cast (B := (s₁.setTop (mkF m 31 L3 [(.int x31_5), (.int (0 : Int32)), (.ref a3)]))) (by rw [hx31_5]) ?_
  obtain ⟨cl6, Ar6, q6, S6, P6, H6, G6⟩ := (id V_a3)
  have hin31_6 : ¬ ((0 : Int32) < 0 ∨ cl6.slots.size ≤ ((0 : Int32)).toNatClampNeg) := inb_of S6 ⟨by decide, by decide⟩
  obtain ⟨T6, h6, X6, e6, W6, st6⟩ := stB X0 hx hZ e0 Ar6 (j := (0 : Int32)) hin31_6 (g := (mkF m 31 L3 [(.int x31_5), (.int (0 : Int32)), (.ref a3)])) rfl rfl (hb hby d11_31)
  have V6 : Arv Z h6 a3 kx_a3 .byte (2 : Int32) [(.int (nar .byte x31_5)), (.int (0 : Int32))] (.int (0 : Int32)) := Arv.set Ar6 q6 S6 P6 H6 G6 (fits_nar_byte _) W6 0 rfl (Nat.le_of_ble_eq_true rfl)
  have Zc7 : n0 ≤ h6.size := Nat.le_trans Z0 (Nat.le_of_eq W6.size.symm)
  have K8 : Keep h0 h6 [a3] := K0.wr W6 (Or.inl (List.mem_of_getElem? (i := 0) rfl))
  have N6 := Fr.snoc X6 N0 g_a3
  refine Gl.st (B := (T6.setTop (mkF m 32 L3 []))) st6 ?_
  obtain ⟨L9, hL9⟩ : ∃ z : Array Slot, z = #[.val (.ref a1), .val (.int (1 : Int32)), .val (.ref a3), .val (.int (0 : Int32)), .val (.int (2 : Int32)), .val (.int (0 : Int32)), .val (.int c0)] := ⟨_, rfl⟩
  refine Gl.st (B := (T6.setTop (mkF m 35 L9 []))) (fun t k => XS.iinc X6.here hx rfl (hb hby d11_32) (ldAt hL3 rfl) (l' := L9) (stAt' hL3 hL9 rfl rfl) k) ?_
  obtain ⟨L10, hL10⟩ : ∃ z : Array Slot, z = #[.val (.ref a1), .val (.int (1 : Int32)), .val (.ref a3), .val (.int (1 : Int32)), .val (.int (2 : Int32)), .val (.int (0 : Int32)), .val (.int c0)] := ⟨_, rfl⟩
  refine Gl.st (B := (T6.setTop (mkF m 38 L10 []))) (fun t k => XS.iinc X6.here hx rfl (hb hby d11_35) (ldAt hL9 rfl) (l' := L10) (stAt' hL9 hL10 rfl rfl) k) ?_
  obtain ⟨L11, hL11⟩ : ∃ z : Array Slot, z = #[.val (.ref a1), .val (.int (1 : Int32)), .val (.ref a3), .val (.int (1 : Int32)), .val (.int (2 : Int32)), .val (.int (1 : Int32)), .val (.int c0)] := ⟨_, rfl⟩
  refine Gl.st (B := (T6.setTop (mkF m 41 L11 []))) (fun t k => XS.iinc X6.here hx rfl (hb hby d11_38) (ldAt hL10 rfl) (l' := L11) (stAt' hL10 hL11 rfl rfl) k) ?_
  refine Gl.st (B := (T6.setTop (mkF m 3 L11 []))) (fun t k => XS.goto X6.here hx rfl (pc0 := 41) (pc' := 3) rfl (hb hby d11_41) (by decide) (by decide) k) ?_
  refine Gl.st (B := (T6.setTop (mkF m 5 L11 [(.int (1 : Int32))]))) (fun t k => XS.iload X6.here hx rfl (hb hby d11_3) (ldAt hL11 rfl) k) ?_
  refine Gl.st (B := (T6.setTop (mkF m 7 L11 [(.int (2 : Int32)), (.int (1 : Int32))]))) (fun t k => XS.iload X6.here hx rfl (hb hby d11_5) (ldAt hL11 rfl) k) ?_
  refine Gl.st (B := (T6.setTop (mkF m 10 L11 []))) (fun t k => XS.icmpNo X6.here hx rfl (hb hby d11_7) rfl (by decide) k) ?_
  refine Gl.st (B := (T6.setTop (mkF m 11 L11 [(.ref a1)]))) (fun t k => XS.aloadN X6.here hx rfl (hb hby d11_10) (ldAt hL11 rfl) rfl k) ?_
  refine Gl.st (B := (T6.setTop (mkF m 12 L11 [(.int (1 : Int32)), (.ref a1)]))) (fun t k => XS.iloadN X6.here hx rfl (hb hby d11_11) (ldAt hL11 rfl) k) ?_
  have c12 := (V_a1.other W6 ne_a1_a3)
  obtain ⟨cl13, Ar13, q13, S13, P13, H13, G13⟩ := (id c12)
  have hin12_13 : ¬ ((1 : Int32) < 0 ∨ cl13.slots.size ≤ ((1 : Int32)).toNatClampNeg) := inb_of S13 ⟨by decide, by decide⟩
  have hat13 := Has.at H13 hin12_13 (v := (.int c1)) rfl
  refine Gl.st (B := (T6.setTop (mkF m 13 L11 [(.int c1)]))) (fun t k => X6.caload hx (j := (1 : Int32)) (v := (.int c1)) (by rw [e6]; exact Ar13.1) (State.isArrayOf_alike hZ.alike Ar13.2.1) Ar13.2.2 hin12_13 hat13 (g := (mkF m 12 L11 [(.int (1 : Int32)), (.ref a1)])) rfl rfl (hb hby d11_12) _ k) ?_
  obtain ⟨L14, hL14⟩ : ∃ z : Array Slot, z = #[.val (.ref a1), .val (.int (1 : Int32)), .val (.ref a3), .val (.int (1 : Int32)), .val (.int (2 : Int32)), .val (.int (1 : Int32)), .val (.int c1)] := ⟨_, rfl⟩
  refine Gl.st (B := (T6.setTop (mkF m 15 L14 []))) (fun t k => XS.istore X6.here hx rfl (hb hby d11_13) rfl (l' := L14) (stAt hL11 hL14 rfl rfl) k) ?_
  refine Gl.st (B := (T6.setTop (mkF m 17 L14 [(.int c1)]))) (fun t k => XS.iload X6.here hx rfl (hb hby d11_15) (ldAt hL14 rfl) k) ?_
  refine Gl.st (B := (T6.setTop (mkF m 20 L14 [(.int (255 : Int32)), (.int c1)]))) (fun t k => XS.sipush X6.here hx rfl (hb hby d11_17) k) ?_
  refine Gl.st (B := (T6.setTop (mkF m 26 L14 []))) (fun t k => XS.icmpYes X6.here hx rfl (pc0 := 20) (pc' := 26) rfl (hb hby d11_20) rfl (flt hq20_2).2.2.2 (by decide) (by decide) k) ?_
  refine Gl.st (B := (T6.setTop (mkF m 27 L14 [(.ref a3)]))) (fun t k => XS.aloadN X6.here hx rfl (hb hby d11_26) (ldAt hL14 rfl) rfl k) ?_
  refine Gl.st (B := (T6.setTop (mkF m 28 L14 [(.int (1 : Int32)), (.ref a3)]))) (fun t k => XS.iloadN X6.here hx rfl (hb hby d11_27) (ldAt hL14 rfl) k) ?_
  refine Gl.st (B := (T6.setTop (mkF m 30 L14 [(.int c1), (.int (1 : Int32)), (.ref a3)]))) (fun t k => XS.iload X6.here hx rfl (hb hby d11_28) (ldAt hL14 rfl) k) ?_
  refine Gl.st (B := (T6.setTop (mkF m 31 L14 [(.int (c1.toInt8.toInt32)), (.int (1 : Int32)), (.ref a3)]))) (fun t k => XS.i2b X6.here hx rfl (hb hby d11_30) rfl k) ?_
  obtain ⟨x31_16, hx31_16⟩ : ∃ z : Int32, z = (c1.toInt8.toInt32) := ⟨_, rfl⟩
  refine Gl.cast (B := (T6.setTop (mkF m 31 L14 [(.int x31_16), (.int (1 : Int32)), (.ref a3)]))) (by rw [hx31_16]) ?_
  obtain ⟨cl17, Ar17, q17, S17, P17, H17, G17⟩ := (id V6)
  have hin31_17 : ¬ ((1 : Int32) < 0 ∨ cl17.slots.size ≤ ((1 : Int32)).toNatClampNeg) := inb_of S17 ⟨by decide, by decide⟩
  obtain ⟨T17, h17, X17, e17, W17, st17⟩ := stB X6 hx hZ e6 Ar17 (j := (1 : Int32)) hin31_17 (g := (mkF m 31 L14 [(.int x31_16), (.int (1 : Int32)), (.ref a3)])) rfl rfl (hb hby d11_31)
  have V17 : Arv Z h17 a3 kx_a3 .byte (2 : Int32) [(.int (nar .byte x31_5)), (.int (nar .byte x31_16))] (.int (0 : Int32)) := Arv.set Ar17 q17 S17 P17 H17 G17 (fits_nar_byte _) W17 1 rfl (Nat.le_of_ble_eq_true rfl)
  have Zc18 : n0 ≤ h17.size := Nat.le_trans Zc7 (Nat.le_of_eq W17.size.symm)
  have K19 : Keep h0 h17 [a3] := K8.wr W17 (Or.inl (List.mem_of_getElem? (i := 0) rfl))
  have N17 := Fr.snoc X17 N6 g_a3
  refine Gl.st (B := (T17.setTop (mkF m 32 L14 []))) st17 ?_
  obtain ⟨L20, hL20⟩ : ∃ z : Array Slot, z = #[.val (.ref a1), .val (.int (2 : Int32)), .val (.ref a3), .val (.int (1 : Int32)), .val (.int (2 : Int32)), .val (.int (1 : Int32)), .val (.int c1)] := ⟨_, rfl⟩
  refine Gl.st (B := (T17.setTop (mkF m 35 L20 []))) (fun t k => XS.iinc X17.here hx rfl (hb hby d11_32) (ldAt hL14 rfl) (l' := L20) (stAt' hL14 hL20 rfl rfl) k) ?_
  obtain ⟨L21, hL21⟩ : ∃ z : Array Slot, z = #[.val (.ref a1), .val (.int (2 : Int32)), .val (.ref a3), .val (.int (2 : Int32)), .val (.int (2 : Int32)), .val (.int (1 : Int32)), .val (.int c1)] := ⟨_, rfl⟩
  refine Gl.st (B := (T17.setTop (mkF m 38 L21 []))) (fun t k => XS.iinc X17.here hx rfl (hb hby d11_35) (ldAt hL20 rfl) (l' := L21) (stAt' hL20 hL21 rfl rfl) k) ?_
  obtain ⟨L22, hL22⟩ : ∃ z : Array Slot, z = #[.val (.ref a1), .val (.int (2 : Int32)), .val (.ref a3), .val (.int (2 : Int32)), .val (.int (2 : Int32)), .val (.int (2 : Int32)), .val (.int c1)] := ⟨_, rfl⟩
  refine Gl.st (B := (T17.setTop (mkF m 41 L22 []))) (fun t k => XS.iinc X17.here hx rfl (hb hby d11_38) (ldAt hL21 rfl) (l' := L22) (stAt' hL21 hL22 rfl rfl) k) ?_
  refine Gl.st (B := (T17.setTop (mkF m 3 L22 []))) (fun t k => XS.goto X17.here hx rfl (pc0 := 41) (pc' := 3) rfl (hb hby d11_41) (by decide) (by decide) k) ?_
  refine Gl.st (B := (T17.setTop (mkF m 5 L22 [(.int (2 : Int32))]))) (fun t k => XS.iload X17.here hx rfl (hb hby d11_3) (ldAt hL22 rfl) k) ?_
  refine Gl.st (B := (T17.setTop (mkF m 7 L22 [(.int (2 : Int32)), (.int (2 : Int32))]))) (fun t k => XS.iload X17.here hx rfl (hb hby d11_5) (ldAt hL22 rfl) k) ?_
  refine Gl.st (B := (T17.setTop (mkF m 44 L22 []))) (fun t k => XS.icmpYes X17.here hx rfl (pc0 := 7) (pc' := 44) rfl (hb hby d11_7) rfl (by decide) (by decide) (by decide) k) ?_
  refine Gl.st (B := (T17.setTop (mkF m 46 L22 [(.int (2 : Int32))]))) (fun t k => XS.iload X17.here hx rfl (hb hby d11_44) (ldAt hL22 rfl) k) ?_
  obtain ⟨fs, hr, hrun, hended, hW, hsame⟩ := X17.leave (v := some (.int (2 : Int32))) (fun h => by rw [Bd.returns] at h; cases h)
  refine Gl.fin (retI X17 hx Bd.returns (hb hby d11_46) hr) hrun hended ⟨_, _, rfl, ?_, ⟨_, rfl⟩, hW, hsame.mono (by decide) (by decide)⟩
  show Q11 Z a1 a3 kx_a1 c0 c1 kx_a3 h0 n0 _ T17.heap _
  rw [e17]
  exact ⟨rfl, N17, K19, (by subst hx31_5; subst hx31_16; exact V17)⟩
theorem d10_0 : decode jdk_52_method_16_code 0 = .ok (.iload_n 2, 1) := by decide +kernel
theorem d10_1 : decode jdk_52_method_16_code 1 = .ok (.newarray .byte, 2) := by decide +kernel
theorem d10_3 : decode jdk_52_method_16_code 3 = .ok (.astore_n 3, 1) := by decide +kernel
theorem d10_4 : decode jdk_52_method_16_code 4 = .ok (.aload_n 0, 1) := by decide +kernel
theorem d10_5 : decode jdk_52_method_16_code 5 = .ok (.iload_n 1, 1) := by decide +kernel
theorem d10_6 : decode jdk_52_method_16_code 6 = .ok (.aload_n 3, 1) := by decide +kernel
theorem d10_7 : decode jdk_52_method_16_code 7 = .ok (.iconst 0, 1) := by decide +kernel
theorem d10_8 : decode jdk_52_method_16_code 8 = .ok (.iload_n 2, 1) := by decide +kernel
theorem d10_9 : decode jdk_52_method_16_code 9 = .ok (.invokestatic 115, 3) := by decide +kernel
theorem d10_12 : decode jdk_52_method_16_code 12 = .ok (.istore 4, 2) := by decide +kernel
theorem d10_14 : decode jdk_52_method_16_code 14 = .ok (.iload 4, 2) := by decide +kernel
theorem d10_16 : decode jdk_52_method_16_code 16 = .ok (.iload_n 2, 1) := by decide +kernel
theorem d10_17 : decode jdk_52_method_16_code 17 = .ok (.if_icmp .eq 40, 3) := by decide +kernel
theorem d10_57 : decode jdk_52_method_16_code 57 = .ok (.aload_n 3, 1) := by decide +kernel
theorem d10_58 : decode jdk_52_method_16_code 58 = .ok (.areturn, 1) := by decide +kernel
theorem pn_10 : plainName "java/lang/StringUTF16" = true := by first | (simp [plainName, overriddenIn]; done) | decide +kernel
theorem pd_10_0 : parseMethodDescriptor "([CI[BII)I" = some ⟨[(.array .char), .int, (.array .byte), .int, .int], some .int⟩ := by decide +kernel
theorem ef_10 (m : MethodId) (a1 : Addr) : entryFrame m #[(.ref a1), (.int (0 : Int32)), (.int (2 : Int32))] 6 = mkF m 0 #[.val (.ref a1), .val (.int (0 : Int32)), .val (.int (2 : Int32)), .unset, .unset, .unset] [] := by first | (simp [entryFrame, mkF, argsToLocals, Value.category]; done) | rfl
def Q10 (Z : State) (a1 : Addr) (kx_a1 : ClassId) (c0 : Int32) (c1 : Int32) (h0 : Heap) (n0 : Nat) (v : Option Value) (h : Heap) (L : List Loc) : Prop := ∃ (t0 : Addr) (kx_t0 : ClassId), v = some (.ref t0) ∧ Fr n0 L ∧ Keep h0 h [] ∧ h0.size ≤ t0 ∧ Exa Z h t0 "[B" ∧ Arv Z h t0 kx_t0 .byte (2 : Int32) [(.int (nar .byte ((c0.toInt8.toInt32)))), (.int (nar .byte ((c1.toInt8.toInt32))))] (.int (0 : Int32))
set_option maxRecDepth 65536 in
set_option maxHeartbeats 40000000 in
theorem rm10 (l : Launch) (Z : State) (a0 : Array Value) (hw : ∀ d ∈ tables_1, d.before a0 Z = true) (ws : List Jvm.Cond) (a1 : Addr) (kx_a1 : ClassId) (c0 : Int32) (c1 : Int32) (h0 : Heap) (n0 : Nat) (Z0 : n0 ≤ h0.size) (V_a1 : Arv Z h0 a1 kx_a1 .char (2 : Int32) [(.int c0), (.int c1)] (.int (0 : Int32))) (hr9_hq20 : ¬ ((255 : Int32) < c0)) (hr9_hq20_2 : ¬ ((255 : Int32) < c1)) :
    MetFree l (⟨"java/lang/StringUTF16", "compress", "([CII)[B"⟩ : MethodName) (head1 (Jvm.Cond.code (⟨"java/lang/StringUTF16", "compress", "([CII)[B"⟩ : MethodName) jdk_52_method_16_code 6 (some (.array .byte)) :: ws) ({ frames := 1, cells := 1, slots := 2, locals := 18 } : Room)) (fun a U => a = #[(.ref a1), (.int (0 : Int32)), (.int (2 : Int32))] ∧ Z.Warmed39 U.vm ∧ U.heap = h0) (fun _ _ _ _ _ => True) (fun _ U o U' => ∃ v L, o = .returned v ∧ Q10 Z a1 kx_a1 c0 c1 h0 n0 v U'.heap L ∧ FrameEnd U o U' L ({ frames := 1, cells := 1, slots := 2, locals := 18 } : Room).cells ({ frames := 1, cells := 1, slots := 2, locals := 18 } : Room).slots) := by
  refine MetFree.of_bodySF (plainFor_of_name pn_10) hisR ?_
  intro p e s m args below meth c s₁ Bd hml0 hP hK
  obtain ⟨rfl, hZ, hh⟩ := hP
  have hx := Bd.exec
  have hby := Bd.bytes
  have hml : c.maxLocals = 6 := hml0
  have hown : s.vm.findClass "java/lang/StringUTF16" = some m.cls := findClass_of_methodNamed Bd.named
  have hnm := (name_of_methodNamed Bd.named Bd.method).1
  have X0 : Stand p l e ({ frames := 1, cells := 1, slots := 2, locals := 18 } : Room) s m #[(.ref a1), (.int (0 : Int32)), (.int (2 : Int32))] below meth c s₁ [] 0 0 := Stand.of_body Bd
  have e0 : s₁.heap = h0 := by rw [← hh, Bd.state]; rfl
  have N0 := Fr.nil n0
  have K0 : Keep h0 h0 [] := Keep.refl h0 _
  refine (show Gl p e below (fun o U' => ∃ v L, o = .returned v ∧ Q10 Z a1 kx_a1 c0 c1 h0 n0 v U'.heap L ∧ FrameEnd s o U' L ({ frames := 1, cells := 1, slots := 2, locals := 18 } : Room).cells ({ frames := 1, cells := 1, slots := 2, locals := 18 } : Room).slots) (s₁.setTop (entryFrame m #[(.ref a1), (.int (0 : Int32)), (.int (2 : Int32))] 6)) from ?_)
  obtain ⟨L0, hL0⟩ : ∃ z : Array Slot, z = #[.val (.ref a1), .val (.int (0 : Int32)), .val (.int (2 : Int32)), .unset, .unset, .unset] := ⟨_, rfl⟩
  refine Gl.st (B := (s₁.setTop (mkF m 0 L0 []))) (fun t k => castTop (efAt hL0 (ef_10 m a1)) k) ?_
  refine Gl.st (B := (s₁.setTop (mkF m 1 L0 [(.int (2 : Int32))]))) (fun t k => XS.iloadN X0.here hx rfl (hb hby d10_0) (ldAt hL0 rfl) k) ?_
  obtain ⟨T1, h1, k1, X1, e1, E1, A1, Ex1, st1⟩ := newPE X0 hx hZ (tw hw 59 rfl) e0 (g := (mkF m 1 L0 [(.int (2 : Int32))])) rfl (hb hby d10_1) rfl (by decide) (cap := 2) (by decide) (by decide) (by decide) (by decide) (ad := "[B") rfl
  obtain ⟨b1, gq1⟩ : ∃ z, z = h0.size := ⟨_, rfl⟩
  rw [← gq1] at A1 Ex1 st1
  have V1 : Arv Z h1 b1 k1 .byte (2 : Int32) [(.int (0 : Int32)), (.int (0 : Int32))] (.int (0 : Int32)) := (Arv.new A1 (by decide)).pad (pad_rep [] (.int (0 : Int32)) 2)
  have g_b1 : n0 ≤ b1 := Nat.le_trans Z0 (Nat.le_of_eq gq1.symm)
  have sz_b1 : h0.size ≤ b1 := Nat.le_trans K0.1 (Nat.le_of_eq gq1.symm)
  have lt_b1 := V1.lt
  have Zc2 : n0 ≤ h1.size := Nat.le_trans Z0 E1.1
  have K3 : Keep h0 h1 [] := K0.ext E1
  refine Gl.st (B := (T1.setTop (mkF m 3 L0 [(.ref b1)]))) st1 ?_
  obtain ⟨L4, hL4⟩ : ∃ z : Array Slot, z = #[.val (.ref a1), .val (.int (0 : Int32)), .val (.int (2 : Int32)), .val (.ref b1), .unset, .unset] := ⟨_, rfl⟩
  refine Gl.st (B := (T1.setTop (mkF m 4 L4 []))) (fun t k => XS.astoreN X1.here hx rfl (hb hby d10_3) rfl rfl (l' := L4) (stAt hL0 hL4 rfl rfl) k) ?_
  refine Gl.st (B := (T1.setTop (mkF m 5 L4 [(.ref a1)]))) (fun t k => XS.aloadN X1.here hx rfl (hb hby d10_4) (ldAt hL4 rfl) rfl k) ?_
  refine Gl.st (B := (T1.setTop (mkF m 6 L4 [(.int (0 : Int32)), (.ref a1)]))) (fun t k => XS.iloadN X1.here hx rfl (hb hby d10_5) (ldAt hL4 rfl) k) ?_
  refine Gl.st (B := (T1.setTop (mkF m 7 L4 [(.ref b1), (.int (0 : Int32)), (.ref a1)]))) (fun t k => XS.aloadN X1.here hx rfl (hb hby d10_6) (ldAt hL4 rfl) rfl k) ?_
  refine Gl.st (B := (T1.setTop (mkF m 8 L4 [(.int (0 : Int32)), (.ref b1), (.int (0 : Int32)), (.ref a1)]))) (fun t k => XS.iconst X1.here hx rfl (hb hby d10_7) k) ?_
  refine Gl.st (B := (T1.setTop (mkF m 9 L4 [(.int (2 : Int32)), (.int (0 : Int32)), (.ref b1), (.int (0 : Int32)), (.ref a1)]))) (fun t k => XS.iloadN X1.here hx rfl (hb hby d10_8) (ldAt hL4 rfl) k) ?_
  have c6 := (V_a1.ext E1)
  have ne_a1_b1_7 : a1 ≠ b1 := Nat.ne_of_lt (Nat.lt_of_lt_of_le V_a1.lt (Nat.le_of_eq gq1.symm))
  obtain ⟨_, _, ⟨T5, L5q, k5, n5⟩, -, X5, ⟨Lc5, hQ5, l5, y5, z5⟩, st5⟩ := Jvm.LawKit.callS X1 hx (y := (⟨"java/lang/StringUTF16", "compress", "([CI[BII)I"⟩ : MethodName)) hown (mvT hZ (tw hw 60 rfl)) (mvT hZ (tw hw 61 rfl)) (mvT hZ (tw hw 57 rfl)) (mvT hZ (tw hw 62 rfl)) (by decide) (backOf (W := 0) (rm11 l Z a0 hw [] a1 b1 kx_a1 c0 c1 k1 h1 n0 Zc2 c6 V1 hr9_hq20 g_b1 ne_a1_b1_7 hr9_hq20_2) hZ (tw hw 62 rfl) (tw hw 57 rfl) (by decide) (by decide)) (g := (mkF m 9 L4 [(.int (2 : Int32)), (.int (0 : Int32)), (.ref b1), (.int (0 : Int32)), (.ref a1)])) rfl (szAt hml hL4 rfl) (argsL := [(.ref a1), (.int (0 : Int32)), (.ref b1), (.int (0 : Int32)), (.int (2 : Int32))]) (rest := []) (lenOf pd_10_0 rfl) rfl (by show 2 * 0 + _ ≤ _; exact Nat.le_of_eq rfl) (hb hby d10_9) (fun _ _ => ⟨rfl, e1, (by decide : 1 + 0 ≤ _), (by decide : 2 + 0 ≤ _)⟩)
  dsimp only [Pt.U, Pt.locs, Pt.cells, Pt.slots] at X5 l5 y5 z5 st5 hQ5
  subst l5 y5 z5
  obtain ⟨rfl, N5q, Kc5, fq5_0⟩ := hQ5
  have Zc8 : n0 ≤ T5.heap.size := Nat.le_trans Zc2 Kc5.1
  have K9 : Keep h0 T5.heap [] := K3.trans Kc5 (allS (Or.inr sz_b1) all0)
  have N5 := Fr.app N0 N5q
  refine Gl.st (B := (T5.setTop (mkF m 12 L4 [(.int (2 : Int32))]))) (fun t k => st5 t k) ?_
  obtain ⟨L10, hL10⟩ : ∃ z : Array Slot, z = #[.val (.ref a1), .val (.int (0 : Int32)), .val (.int (2 : Int32)), .val (.ref b1), .val (.int (2 : Int32)), .unset] := ⟨_, rfl⟩
  refine Gl.st (B := (T5.setTop (mkF m 14 L10 []))) (fun t k => XS.istore X5.here hx rfl (hb hby d10_12) rfl (l' := L10) (stAt hL4 hL10 rfl rfl) k) ?_
  refine Gl.st (B := (T5.setTop (mkF m 16 L10 [(.int (2 : Int32))]))) (fun t k => XS.iload X5.here hx rfl (hb hby d10_14) (ldAt hL10 rfl) k) ?_
  refine Gl.st (B := (T5.setTop (mkF m 17 L10 [(.int (2 : Int32)), (.int (2 : Int32))]))) (fun t k => XS.iloadN X5.here hx rfl (hb hby d10_16) (ldAt hL10 rfl) k) ?_
  refine Gl.st (B := (T5.setTop (mkF m 57 L10 []))) (fun t k => XS.icmpYes X5.here hx rfl (pc0 := 17) (pc' := 57) rfl (hb hby d10_17) rfl (by decide) (by decide) (by decide) k) ?_
  refine Gl.st (B := (T5.setTop (mkF m 58 L10 [(.ref b1)]))) (fun t k => XS.aloadN X5.here hx rfl (hb hby d10_57) (ldAt hL10 rfl) rfl k) ?_
  obtain ⟨fs, hr, hrun, hended, hW, hsame⟩ := X5.leave (v := some (.ref b1)) (fun h => by rw [Bd.returns] at h; cases h)
  refine Gl.fin (X5.areturnOut hx rfl Bd.returns rfl (hb hby d10_58) hr) hrun hended ⟨_, _, rfl, ?_, ⟨_, rfl⟩, hW, hsame.mono (by decide) (by decide)⟩
  show Q10 Z a1 kx_a1 c0 c1 h0 n0 _ T5.heap _
  have c11 := (Ex1.keep Kc5)
  exact ⟨b1, k1, rfl, N5, K9, sz_b1, c11, fq5_0⟩
theorem d9_0 : decode jdk_42_method_149_code 0 = .ok (.aload_n 0, 1) := by decide +kernel
theorem d9_1 : decode jdk_42_method_149_code 1 = .ok (.invokespecial 1, 3) := by decide +kernel
theorem d9_4 : decode jdk_42_method_149_code 4 = .ok (.iload_n 3, 1) := by decide +kernel
theorem d9_5 : decode jdk_42_method_149_code 5 = .ok (.ifCond .ne 22, 3) := by decide +kernel
theorem d9_27 : decode jdk_42_method_149_code 27 = .ok (.getstatic 38, 3) := by decide +kernel
theorem d9_30 : decode jdk_42_method_149_code 30 = .ok (.ifCond .eq 28, 3) := by decide +kernel
theorem d9_33 : decode jdk_42_method_149_code 33 = .ok (.aload_n 1, 1) := by decide +kernel
theorem d9_34 : decode jdk_42_method_149_code 34 = .ok (.iload_n 2, 1) := by decide +kernel
theorem d9_35 : decode jdk_42_method_149_code 35 = .ok (.iload_n 3, 1) := by decide +kernel
theorem d9_36 : decode jdk_42_method_149_code 36 = .ok (.invokestatic 177, 3) := by decide +kernel
theorem d9_39 : decode jdk_42_method_149_code 39 = .ok (.astore 5, 2) := by decide +kernel
theorem d9_41 : decode jdk_42_method_149_code 41 = .ok (.aload_n 0, 1) := by decide +kernel
theorem d9_42 : decode jdk_42_method_149_code 42 = .ok (.aload 5, 2) := by decide +kernel
theorem d9_44 : decode jdk_42_method_149_code 44 = .ok (.iload_n 3, 1) := by decide +kernel
theorem d9_45 : decode jdk_42_method_149_code 45 = .ok (.invokestatic 47, 3) := by decide +kernel
theorem d9_48 : decode jdk_42_method_149_code 48 = .ok (.putfield 15, 3) := by decide +kernel
theorem d9_51 : decode jdk_42_method_149_code 51 = .ok (.aload_n 0, 1) := by decide +kernel
theorem d9_52 : decode jdk_42_method_149_code 52 = .ok (.aload 5, 2) := by decide +kernel
theorem d9_54 : decode jdk_42_method_149_code 54 = .ok (.putfield 9, 3) := by decide +kernel
theorem d9_57 : decode jdk_42_method_149_code 57 = .ok (.return_, 1) := by decide +kernel
theorem pn_9 : plainName "java/lang/String" = true := by first | (simp [plainName, overriddenIn]; done) | decide +kernel
theorem pd_9_0 : parseMethodDescriptor "([CII)[B" = some ⟨[(.array .char), .int, .int], some (.array .byte)⟩ := by decide +kernel
theorem pd_9_1 : parseMethodDescriptor "([BI)B" = some ⟨[(.array .byte), .int], some .byte⟩ := by decide +kernel
theorem ef_9 (m : MethodId) (a1 : Addr) (a2 : Addr) : entryFrame m #[(.ref a1), (.ref a2), (.int (0 : Int32)), (.int (2 : Int32)), .null] 6 = mkF m 0 #[.val (.ref a1), .val (.ref a2), .val (.int (0 : Int32)), .val (.int (2 : Int32)), .val .null, .unset] [] := by first | (simp [entryFrame, mkF, argsToLocals, Value.category]; done) | rfl
def Q9 (Z : State) (a1 : Addr) (a2 : Addr) (kx_a2 : ClassId) (c0 : Int32) (c1 : Int32) (u_coder_a1 : Value) (u_value_a1 : Value) (z_COMP0 : Int32) (h0 : Heap) (n0 : Nat) (v : Option Value) (h : Heap) (L : List Loc) : Prop := ∃ (t0 : Addr) (kx_t0 : ClassId), v = none ∧ Fr n0 L ∧ Keep h0 h [a1] ∧ h0.size ≤ t0 ∧ Exa Z h a1 "java/lang/String" ∧ Fld Z h a1 "java/lang/String" "coder" "B" (.int (nar .byte ((nar .byte ((((0 : Int32).toUInt32 >>> ((31 : Int32) &&& 31).toUInt32).toInt32).toInt8.toInt32))))) ∧ Fld Z h a1 "java/lang/String" "value" "[B" (.ref t0) ∧ Exa Z h t0 "[B" ∧ Arv Z h t0 kx_t0 .byte (2 : Int32) [(.int (nar .byte ((c0.toInt8.toInt32)))), (.int (nar .byte ((c1.toInt8.toInt32))))] (.int (0 : Int32))
set_option maxRecDepth 65536 in
set_option maxHeartbeats 40000000 in
theorem rm9 (l : Launch) (Z : State) (a0 : Array Value) (hw : ∀ d ∈ tables_1, d.before a0 Z = true) (ws : List Jvm.Cond) (a1 : Addr) (a2 : Addr) (kx_a2 : ClassId) (c0 : Int32) (c1 : Int32) (u_coder_a1 : Value) (u_value_a1 : Value) (z_COMP0 : Int32) (h0 : Heap) (n0 : Nat) (Z0 : n0 ≤ h0.size) (V_a2 : Arv Z h0 a2 kx_a2 .char (2 : Int32) [(.int c0), (.int c1)] (.int (0 : Int32))) (F_coder_a1 : Fld Z h0 a1 "java/lang/String" "coder" "B" u_coder_a1) (F_value_a1 : Fld Z h0 a1 "java/lang/String" "value" "[B" u_value_a1) (S_COMP0 : Sta Z h0 "java/lang/String" "COMPACT_STRINGS" "Z" (.int z_COMP0)) (hq30 : ¬ (z_COMP0 = (0 : Int32))) (hr36_hr9_hq20 : ¬ ((255 : Int32) < c0)) (hr36_hr9_hq20_2 : ¬ ((255 : Int32) < c1)) (E_a1 : Exa Z h0 a1 "java/lang/String") (g_a1 : n0 ≤ a1) :
    MetFree l (⟨"java/lang/String", "<init>", "([CIILjava/lang/Void;)V"⟩ : MethodName) (head1 (Jvm.Cond.code (⟨"java/lang/String", "<init>", "([CIILjava/lang/Void;)V"⟩ : MethodName) jdk_42_method_149_code 6 none :: ws) ({ frames := 2, cells := 1, slots := 2, locals := 35 } : Room)) (fun a U => a = #[(.ref a1), (.ref a2), (.int (0 : Int32)), (.int (2 : Int32)), .null] ∧ Z.Warmed39 U.vm ∧ U.heap = h0) (fun _ _ _ _ _ => True) (fun _ U o U' => ∃ v L, o = .returned v ∧ Q9 Z a1 a2 kx_a2 c0 c1 u_coder_a1 u_value_a1 z_COMP0 h0 n0 v U'.heap L ∧ FrameEnd U o U' L ({ frames := 2, cells := 1, slots := 2, locals := 35 } : Room).cells ({ frames := 2, cells := 1, slots := 2, locals := 35 } : Room).slots) := by
  refine MetFree.of_bodySF (plainFor_of_name pn_9) hisR ?_
  intro p e s m args below meth c s₁ Bd hml0 hP hK
  obtain ⟨rfl, hZ, hh⟩ := hP
  have hx := Bd.exec
  have hby := Bd.bytes
  have hml : c.maxLocals = 6 := hml0
  have hown : s.vm.findClass "java/lang/String" = some m.cls := findClass_of_methodNamed Bd.named
  have hnm := (name_of_methodNamed Bd.named Bd.method).1
  have X0 : Stand p l e ({ frames := 2, cells := 1, slots := 2, locals := 35 } : Room) s m #[(.ref a1), (.ref a2), (.int (0 : Int32)), (.int (2 : Int32)), .null] below meth c s₁ [] 0 0 := Stand.of_body Bd
  have e0 : s₁.heap = h0 := by rw [← hh, Bd.state]; rfl
  have N0 := Fr.nil n0
  have K0 : Keep h0 h0 [a1] := Keep.refl h0 _
  refine (show Gl p e below (fun o U' => ∃ v L, o = .returned v ∧ Q9 Z a1 a2 kx_a2 c0 c1 u_coder_a1 u_value_a1 z_COMP0 h0 n0 v U'.heap L ∧ FrameEnd s o U' L ({ frames := 2, cells := 1, slots := 2, locals := 35 } : Room).cells ({ frames := 2, cells := 1, slots := 2, locals := 35 } : Room).slots) (s₁.setTop (entryFrame m #[(.ref a1), (.ref a2), (.int (0 : Int32)), (.int (2 : Int32)), .null] 6)) from ?_)
  obtain ⟨L0, hL0⟩ : ∃ z : Array Slot, z = #[.val (.ref a1), .val (.ref a2), .val (.int (0 : Int32)), .val (.int (2 : Int32)), .val .null, .unset] := ⟨_, rfl⟩
  refine Gl.st (B := (s₁.setTop (mkF m 0 L0 []))) (fun t k => castTop (efAt hL0 (ef_9 m a1 a2)) k) ?_
  refine Gl.st (B := (s₁.setTop (mkF m 1 L0 [(.ref a1)]))) (fun t k => XS.aloadN X0.here hx rfl (hb hby d9_0) (ldAt hL0 rfl) rfl k) ?_
  obtain ⟨T1, X1, e1, st1⟩ := initO X0 hx hZ hown (tw hw 53 rfl) (tw hw 15 rfl) (tw hw 16 rfl) e0 (g := (mkF m 1 L0 [(.ref a1)])) rfl (szAt hml hL0 rfl) rfl (hb hby d9_1) (by decide) (W := 0) (by show 2 * 0 + _ ≤ _; exact Nat.le_of_eq rfl) (by decide)
  refine Gl.st (B := (T1.setTop (mkF m 4 L0 []))) st1 ?_
  refine Gl.st (B := (T1.setTop (mkF m 5 L0 [(.int (2 : Int32))]))) (fun t k => XS.iloadN X1.here hx rfl (hb hby d9_4) (ldAt hL0 rfl) k) ?_
  refine Gl.st (B := (T1.setTop (mkF m 27 L0 []))) (fun t k => XS.ifYes X1.here hx rfl (pc0 := 5) (pc' := 27) rfl (hb hby d9_5) rfl (by decide) (by decide) (by decide) k) ?_
  obtain ⟨T2, X2, e2, st2⟩ := getS2 X1 hx hZ hown (host := "") (Or.inl (tw hw 54 rfl)) Via.refl e1 S_COMP0 (g := (mkF m 27 L0 [])) rfl (hb hby d9_27)
  refine Gl.st (B := (T2.setTop (mkF m 30 L0 [(.int z_COMP0)]))) st2 ?_
  refine Gl.st (B := (T2.setTop (mkF m 33 L0 []))) (fun t k => XS.ifNo X2.here hx rfl (hb hby d9_30) rfl ((if0 _ _).trans (feq hq30).1) k) ?_
  refine Gl.st (B := (T2.setTop (mkF m 34 L0 [(.ref a2)]))) (fun t k => XS.aloadN X2.here hx rfl (hb hby d9_33) (ldAt hL0 rfl) rfl k) ?_
  refine Gl.st (B := (T2.setTop (mkF m 35 L0 [(.int (0 : Int32)), (.ref a2)]))) (fun t k => XS.iloadN X2.here hx rfl (hb hby d9_34) (ldAt hL0 rfl) k) ?_
  refine Gl.st (B := (T2.setTop (mkF m 36 L0 [(.int (2 : Int32)), (.int (0 : Int32)), (.ref a2)]))) (fun t k => XS.iloadN X2.here hx rfl (hb hby d9_35) (ldAt hL0 rfl) k) ?_
  obtain ⟨_, _, ⟨T4, L4q, k4, n4⟩, -, X4, ⟨Lc4, hQ4, l4, y4, z4⟩, st4⟩ := Jvm.LawKit.callS X2 hx (y := (⟨"java/lang/StringUTF16", "compress", "([CII)[B"⟩ : MethodName)) hown (mvT hZ (tw hw 55 rfl)) (mvT hZ (tw hw 56 rfl)) (mvT hZ (tw hw 57 rfl)) (mvT hZ (tw hw 58 rfl)) (by decide) (backOf (W := 0) (rm10 l Z a0 hw [] a2 kx_a2 c0 c1 h0 n0 Z0 V_a2 hr36_hr9_hq20 hr36_hr9_hq20_2) hZ (tw hw 58 rfl) (tw hw 57 rfl) (by decide) (by decide)) (g := (mkF m 36 L0 [(.int (2 : Int32)), (.int (0 : Int32)), (.ref a2)])) rfl (szAt hml hL0 rfl) (argsL := [(.ref a2), (.int (0 : Int32)), (.int (2 : Int32))]) (rest := []) (lenOf pd_9_0 rfl) rfl (by show 2 * 0 + _ ≤ _; exact Nat.le_of_eq rfl) (hb hby d9_36) (fun _ _ => ⟨rfl, e2, (by decide : 0 + 1 ≤ _), (by decide : 0 + 2 ≤ _)⟩)
  dsimp only [Pt.U, Pt.locs, Pt.cells, Pt.slots] at X4 l4 y4 z4 st4 hQ4
  subst l4 y4 z4
  obtain ⟨b4_t0, k4_kx_t0, rfl, N4q, Kc4, fq4_0, fq4_1, fq4_2⟩ := hQ4
  have g_b4_t0 : n0 ≤ b4_t0 := Nat.le_trans Z0 fq4_0
  have sz_b4_t0 : h0.size ≤ b4_t0 := Nat.le_trans K0.1 fq4_0
  have lt_b4_t0 := fq4_1.lt
  have Zc5 : n0 ≤ T4.heap.size := Nat.le_trans Z0 Kc4.1
  have K6 : Keep h0 T4.heap [a1] := K0.trans Kc4 all0
  have N4 := Fr.app N0 N4q
  refine Gl.st (B := (T4.setTop (mkF m 39 L0 [(.ref b4_t0)]))) (fun t k => st4 t k) ?_
  obtain ⟨L7, hL7⟩ : ∃ z : Array Slot, z = #[.val (.ref a1), .val (.ref a2), .val (.int (0 : Int32)), .val (.int (2 : Int32)), .val .null, .val (.ref b4_t0)] := ⟨_, rfl⟩
  refine Gl.st (B := (T4.setTop (mkF m 41 L7 []))) (fun t k => XS.astore X4.here hx rfl (hb hby d9_39) rfl rfl (l' := L7) (stAt hL0 hL7 rfl rfl) k) ?_
  refine Gl.st (B := (T4.setTop (mkF m 42 L7 [(.ref a1)]))) (fun t k => XS.aloadN X4.here hx rfl (hb hby d9_41) (ldAt hL7 rfl) rfl k) ?_
  refine Gl.st (B := (T4.setTop (mkF m 44 L7 [(.ref b4_t0), (.ref a1)]))) (fun t k => XS.aload X4.here hx rfl (hb hby d9_42) (ldAt hL7 rfl) rfl k) ?_
  refine Gl.st (B := (T4.setTop (mkF m 45 L7 [(.int (2 : Int32)), (.ref b4_t0), (.ref a1)]))) (fun t k => XS.iloadN X4.here hx rfl (hb hby d9_44) (ldAt hL7 rfl) k) ?_
  obtain ⟨_, _, ⟨T8, L8q, k8, n8⟩, -, X8, ⟨Lc8, hQ8, l8, y8, z8⟩, st8⟩ := Jvm.LawKit.callS X4 hx (y := (⟨"java/lang/StringUTF16", "coderFromArrayLen", "([BI)B"⟩ : MethodName)) hown (mvT hZ (tw hw 63 rfl)) (mvT hZ (tw hw 64 rfl)) (mvT hZ (tw hw 57 rfl)) (mvT hZ (tw hw 65 rfl)) (by decide) (backOf (W := 1) (rm12 l Z a0 hw [] b4_t0 k4_kx_t0 (nar .byte ((c0.toInt8.toInt32))) (nar .byte ((c1.toInt8.toInt32))) T4.heap n0 Zc5 fq4_2) hZ (tw hw 65 rfl) (tw hw 57 rfl) (by decide) (by decide)) (g := (mkF m 45 L7 [(.int (2 : Int32)), (.ref b4_t0), (.ref a1)])) rfl (szAt hml hL7 rfl) (argsL := [(.ref b4_t0), (.int (2 : Int32))]) (rest := [(.ref a1)]) (lenOf pd_9_1 rfl) rfl (by show 2 * 0 + _ ≤ _; exact Nat.le_of_eq rfl) (hb hby d9_45) (fun _ _ => ⟨rfl, rfl, (by decide : 1 + 0 ≤ _), (by decide : 2 + 0 ≤ _)⟩)
  dsimp only [Pt.U, Pt.locs, Pt.cells, Pt.slots] at X8 l8 y8 z8 st8 hQ8
  subst l8 y8 z8
  obtain ⟨rfl, N8q, eh8⟩ := hQ8
  have N8 := Fr.app N4 N8q
  refine Gl.st (B := (T8.setTop (mkF m 48 L7 [(.int (nar .byte ((((0 : Int32).toUInt32 >>> ((31 : Int32) &&& 31).toUInt32).toInt32).toInt8.toInt32))), (.ref a1)]))) (fun t k => st8 t k) ?_
  obtain ⟨r45_9, hr45_9⟩ : ∃ z : Int32, z = (nar .byte ((((0 : Int32).toUInt32 >>> ((31 : Int32) &&& 31).toUInt32).toInt32).toInt8.toInt32)) := ⟨_, rfl⟩
  refine Gl.cast (B := (T8.setTop (mkF m 48 L7 [(.int r45_9), (.ref a1)]))) (by rw [hr45_9]) ?_
  have c10 := (E_a1.keep Kc4)
  have c11 := (F_coder_a1.keep Kc4 nin0)
  obtain ⟨T12, h12, X12, e12, W12, st12⟩ := putFN X8 hx hZ hown (tw hw 66 rfl) Via.refl eh8 c11 c10 (Or.inr ⟨(tw hw 67 rfl), rfl, hnm⟩) (tw hw 44 rfl) (ty := .byte) (v' := (.int (nar .byte r45_9))) (by decide) rfl (fits_nar_byte _) (g := (mkF m 48 L7 [(.int r45_9), (.ref a1)])) rfl rfl (hb hby d9_48)
  have Fw12 := c11.same W12
  have Zc13 : n0 ≤ h12.size := Nat.le_trans Zc5 (Nat.le_of_eq W12.size.symm)
  have K14 : Keep h0 h12 [a1] := K6.wr W12 (Or.inl (List.mem_of_getElem? (i := 0) rfl))
  have N12 := Fr.snoc X12 N8 g_a1
  refine Gl.st (B := (T12.setTop (mkF m 51 L7 []))) st12 ?_
  refine Gl.st (B := (T12.setTop (mkF m 52 L7 [(.ref a1)]))) (fun t k => XS.aloadN X12.here hx rfl (hb hby d9_51) (ldAt hL7 rfl) rfl k) ?_
  refine Gl.st (B := (T12.setTop (mkF m 54 L7 [(.ref b4_t0), (.ref a1)]))) (fun t k => XS.aload X12.here hx rfl (hb hby d9_52) (ldAt hL7 rfl) rfl k) ?_
  have c15 := (c10.wr W12)
  have c16 := ((F_value_a1.keep Kc4 nin0).other W12 (Or.inr (sn1 hw)))
  obtain ⟨T17, h17, X17, e17, W17, st17⟩ := putF X12 hx hZ hown (host := "") (Or.inl (tw hw 68 rfl)) Via.refl e12 c16 c15 (Or.inr ⟨(tw hw 69 rfl), rfl, hnm⟩) (tw hw 44 rfl) (ty := (.array .byte)) (by decide) rfl rfl (g := (mkF m 54 L7 [(.ref b4_t0), (.ref a1)])) rfl rfl (hb hby d9_54)
  have Fw17 := c16.same W17
  have Zc18 : n0 ≤ h17.size := Nat.le_trans Zc13 (Nat.le_of_eq W17.size.symm)
  have K19 : Keep h0 h17 [a1] := K14.wr W17 (Or.inl (List.mem_of_getElem? (i := 0) rfl))
  have N17 := Fr.snoc X17 N12 g_a1
  refine Gl.st (B := (T17.setTop (mkF m 57 L7 []))) st17 ?_
  obtain ⟨fs, hr, hrun, hended, hW, hsame⟩ := X17.leave (v := none) (fun _ => rfl)
  refine Gl.fin (X17.returnOut hx Bd.returns (hb hby d9_57) hr) hrun hended ⟨_, _, rfl, ?_, ⟨_, rfl⟩, hW, hsame.mono (by decide) (by decide)⟩
  show Q9 Z a1 a2 kx_a2 c0 c1 u_coder_a1 u_value_a1 z_COMP0 h0 n0 _ T17.heap _
  rw [e17]
  have c20 := (c15.wr W17)
  have c21 := (Fw12.other W17 (Or.inr (sn0 hw)))
  have c22 := ((fq4_1.wr W12).wr W17)
  have ne_a1_b4_t0_23 : a1 ≠ b4_t0 := Nat.ne_of_lt (Nat.lt_of_lt_of_le F_coder_a1.lt fq4_0)
  have c24 := ((fq4_2.other W12 (Ne.symm ne_a1_b4_t0_23)).other W17 (Ne.symm ne_a1_b4_t0_23))
  exact ⟨b4_t0, k4_kx_t0, rfl, N17, K19, sz_b4_t0, c20, (by subst hr45_9; exact c21), Fw17, c22, c24⟩
theorem d8_0 : decode jdk_42_method_3_code 0 = .ok (.aload_n 0, 1) := by decide +kernel
theorem d8_1 : decode jdk_42_method_3_code 1 = .ok (.aload_n 1, 1) := by decide +kernel
theorem d8_2 : decode jdk_42_method_3_code 2 = .ok (.iconst 0, 1) := by decide +kernel
theorem d8_3 : decode jdk_42_method_3_code 3 = .ok (.aload_n 1, 1) := by decide +kernel
theorem d8_4 : decode jdk_42_method_3_code 4 = .ok (.arraylength, 1) := by decide +kernel
theorem d8_5 : decode jdk_42_method_3_code 5 = .ok (.aconst_null, 1) := by decide +kernel
theorem d8_6 : decode jdk_42_method_3_code 6 = .ok (.invokespecial 27, 3) := by decide +kernel
theorem d8_9 : decode jdk_42_method_3_code 9 = .ok (.return_, 1) := by decide +kernel
theorem pn_8 : plainName "java/lang/String" = true := by first | (simp [plainName, overriddenIn]; done) | decide +kernel
theorem pd_8_0 : parseMethodDescriptor "([CIILjava/lang/Void;)V" = some ⟨[(.array .char), .int, .int, (.object "java/lang/Void")], none⟩ := by decide +kernel
theorem ef_8 (m : MethodId) (a1 : Addr) (a2 : Addr) : entryFrame m #[(.ref a1), (.ref a2)] 2 = mkF m 0 #[.val (.ref a1), .val (.ref a2)] [] := by first | (simp [entryFrame, mkF, argsToLocals, Value.category]; done) | rfl
def Q8 (Z : State) (a1 : Addr) (a2 : Addr) (kx_a2 : ClassId) (c0 : Int32) (c1 : Int32) (u_coder_a1 : Value) (u_value_a1 : Value) (z_COMP0 : Int32) (h0 : Heap) (n0 : Nat) (v : Option Value) (h : Heap) (L : List Loc) : Prop := ∃ (t0 : Addr) (kx_t0 : ClassId), v = none ∧ Fr n0 L ∧ Keep h0 h [a1] ∧ h0.size ≤ t0 ∧ Exa Z h a1 "java/lang/String" ∧ Fld Z h a1 "java/lang/String" "coder" "B" (.int (nar .byte ((nar .byte ((((0 : Int32).toUInt32 >>> ((31 : Int32) &&& 31).toUInt32).toInt32).toInt8.toInt32))))) ∧ Fld Z h a1 "java/lang/String" "value" "[B" (.ref t0) ∧ Exa Z h t0 "[B" ∧ Arv Z h t0 kx_t0 .byte (2 : Int32) [(.int (nar .byte ((c0.toInt8.toInt32)))), (.int (nar .byte ((c1.toInt8.toInt32))))] (.int (0 : Int32))
set_option maxRecDepth 65536 in
set_option maxHeartbeats 40000000 in
theorem rm8 (l : Launch) (Z : State) (a0 : Array Value) (hw : ∀ d ∈ tables_1, d.before a0 Z = true) (ws : List Jvm.Cond) (a1 : Addr) (a2 : Addr) (kx_a2 : ClassId) (c0 : Int32) (c1 : Int32) (u_coder_a1 : Value) (u_value_a1 : Value) (z_COMP0 : Int32) (h0 : Heap) (n0 : Nat) (Z0 : n0 ≤ h0.size) (V_a2 : Arv Z h0 a2 kx_a2 .char (2 : Int32) [(.int c0), (.int c1)] (.int (0 : Int32))) (F_coder_a1 : Fld Z h0 a1 "java/lang/String" "coder" "B" u_coder_a1) (F_value_a1 : Fld Z h0 a1 "java/lang/String" "value" "[B" u_value_a1) (S_COMP0 : Sta Z h0 "java/lang/String" "COMPACT_STRINGS" "Z" (.int z_COMP0)) (hr6_hq30 : ¬ (z_COMP0 = (0 : Int32))) (hr6_hr36_hr9_hq20 : ¬ ((255 : Int32) < c0)) (hr6_hr36_hr9_hq20_2 : ¬ ((255 : Int32) < c1)) (E_a1 : Exa Z h0 a1 "java/lang/String") (g_a1 : n0 ≤ a1) :
    MetFree l (⟨"java/lang/String", "<init>", "([C)V"⟩ : MethodName) (head1 (Jvm.Cond.code (⟨"java/lang/String", "<init>", "([C)V"⟩ : MethodName) jdk_42_method_3_code 2 none :: ws) ({ frames := 3, cells := 1, slots := 2, locals := 52 } : Room)) (fun a U => a = #[(.ref a1), (.ref a2)] ∧ Z.Warmed39 U.vm ∧ U.heap = h0) (fun _ _ _ _ _ => True) (fun _ U o U' => ∃ v L, o = .returned v ∧ Q8 Z a1 a2 kx_a2 c0 c1 u_coder_a1 u_value_a1 z_COMP0 h0 n0 v U'.heap L ∧ FrameEnd U o U' L ({ frames := 3, cells := 1, slots := 2, locals := 52 } : Room).cells ({ frames := 3, cells := 1, slots := 2, locals := 52 } : Room).slots) := by
  refine MetFree.of_bodySF (plainFor_of_name pn_8) hisR ?_
  intro p e s m args below meth c s₁ Bd hml0 hP hK
  obtain ⟨rfl, hZ, hh⟩ := hP
  have hx := Bd.exec
  have hby := Bd.bytes
  have hml : c.maxLocals = 2 := hml0
  have hown : s.vm.findClass "java/lang/String" = some m.cls := findClass_of_methodNamed Bd.named
  have hnm := (name_of_methodNamed Bd.named Bd.method).1
  have X0 : Stand p l e ({ frames := 3, cells := 1, slots := 2, locals := 52 } : Room) s m #[(.ref a1), (.ref a2)] below meth c s₁ [] 0 0 := Stand.of_body Bd
  have e0 : s₁.heap = h0 := by rw [← hh, Bd.state]; rfl
  have N0 := Fr.nil n0
  have K0 : Keep h0 h0 [a1] := Keep.refl h0 _
  refine (show Gl p e below (fun o U' => ∃ v L, o = .returned v ∧ Q8 Z a1 a2 kx_a2 c0 c1 u_coder_a1 u_value_a1 z_COMP0 h0 n0 v U'.heap L ∧ FrameEnd s o U' L ({ frames := 3, cells := 1, slots := 2, locals := 52 } : Room).cells ({ frames := 3, cells := 1, slots := 2, locals := 52 } : Room).slots) (s₁.setTop (entryFrame m #[(.ref a1), (.ref a2)] 2)) from ?_)
  obtain ⟨L0, hL0⟩ : ∃ z : Array Slot, z = #[.val (.ref a1), .val (.ref a2)] := ⟨_, rfl⟩
  refine Gl.st (B := (s₁.setTop (mkF m 0 L0 []))) (fun t k => castTop (efAt hL0 (ef_8 m a1 a2)) k) ?_
  refine Gl.st (B := (s₁.setTop (mkF m 1 L0 [(.ref a1)]))) (fun t k => XS.aloadN X0.here hx rfl (hb hby d8_0) (ldAt hL0 rfl) rfl k) ?_
  refine Gl.st (B := (s₁.setTop (mkF m 2 L0 [(.ref a2), (.ref a1)]))) (fun t k => XS.aloadN X0.here hx rfl (hb hby d8_1) (ldAt hL0 rfl) rfl k) ?_
  refine Gl.st (B := (s₁.setTop (mkF m 3 L0 [(.int (0 : Int32)), (.ref a2), (.ref a1)]))) (fun t k => XS.iconst X0.here hx rfl (hb hby d8_2) k) ?_
  refine Gl.st (B := (s₁.setTop (mkF m 4 L0 [(.ref a2), (.int (0 : Int32)), (.ref a2), (.ref a1)]))) (fun t k => XS.aloadN X0.here hx rfl (hb hby d8_3) (ldAt hL0 rfl) rfl k) ?_
  obtain ⟨cl1, Ar1, q1, S1, P1, H1, G1⟩ := (id V_a2)
  refine Gl.st (B := (s₁.setTop (mkF m 5 L0 [(.int cl1.slots.size.toInt32), (.int (0 : Int32)), (.ref a2), (.ref a1)]))) (fun t k => X0.arraylength hx (by rw [e0]; exact Ar1.1) (State.isArrayOf_alike hZ.alike Ar1.2.1) (g := (mkF m 4 L0 [(.ref a2), (.int (0 : Int32)), (.ref a2), (.ref a1)])) rfl rfl (hb hby d8_4) _ k) ?_
  refine Gl.cast (B := (s₁.setTop (mkF m 5 L0 [(.int (2 : Int32)), (.int (0 : Int32)), (.ref a2), (.ref a1)]))) (by rw [len_of S1 P1]) ?_
  refine Gl.st (B := (s₁.setTop (mkF m 6 L0 [.null, (.int (2 : Int32)), (.int (0 : Int32)), (.ref a2), (.ref a1)]))) (fun t k => XS.aconstNull X0.here hx rfl (hb hby d8_5) k) ?_
  obtain ⟨_, _, ⟨T2, L2q, k2, n2⟩, -, X2, ⟨Lc2, hQ2, l2, y2, z2⟩, st2⟩ := X0.specialBack hx (y := (⟨"java/lang/String", "<init>", "([CIILjava/lang/Void;)V"⟩ : MethodName)) rfl hown (mvT hZ (tw hw 49 rfl)) (mvT hZ (tw hw 50 rfl)) (mvT hZ (tw hw 52 rfl)) (by decide) (backOf (W := 0) (rm9 l Z a0 hw [] a1 a2 kx_a2 c0 c1 u_coder_a1 u_value_a1 z_COMP0 h0 n0 Z0 V_a2 F_coder_a1 F_value_a1 S_COMP0 hr6_hq30 hr6_hr36_hr9_hq20 hr6_hr36_hr9_hq20_2 E_a1 g_a1) hZ (tw hw 52 rfl) (tw hw 45 rfl) (by decide) (by decide)) (g := (mkF m 6 L0 [.null, (.int (2 : Int32)), (.int (0 : Int32)), (.ref a2), (.ref a1)])) rfl (szAt hml hL0 rfl) (Steps.refl _) (a := a1) (argsL := [(.ref a2), (.int (0 : Int32)), (.int (2 : Int32)), .null]) (rest := []) (lenOf pd_8_0 rfl) rfl (by show 2 * 0 + _ ≤ _; exact Nat.le_of_eq rfl) (hb hby d8_6) (fun _ _ => ⟨rfl, e0, (by decide : 0 + 1 ≤ _), (by decide : 0 + 2 ≤ _)⟩)
  dsimp only [Pt.U, Pt.locs, Pt.cells, Pt.slots] at X2 l2 y2 z2 st2 hQ2
  subst l2 y2 z2
  obtain ⟨b2_t0, k2_kx_t0, rfl, N2q, Kc2, fq2_0, fq2_1, fq2_2, fq2_3, fq2_4, fq2_5⟩ := hQ2
  have g_b2_t0 : n0 ≤ b2_t0 := Nat.le_trans Z0 fq2_0
  have sz_b2_t0 : h0.size ≤ b2_t0 := Nat.le_trans K0.1 fq2_0
  have lt_b2_t0 := fq2_4.lt
  have Zc3 : n0 ≤ T2.heap.size := Nat.le_trans Z0 Kc2.1
  have K4 : Keep h0 T2.heap [a1] := K0.trans Kc2 (allS (Or.inl (List.mem_of_getElem? (i := 0) rfl)) all0)
  have N2 := Fr.app N0 N2q
  refine Gl.st (B := (T2.setTop (mkF m 9 L0 []))) (fun t k => st2.trans k) ?_
  obtain ⟨fs, hr, hrun, hended, hW, hsame⟩ := X2.leave (v := none) (fun _ => rfl)
  refine Gl.fin (X2.returnOut hx Bd.returns (hb hby d8_9) hr) hrun hended ⟨_, _, rfl, ?_, ⟨_, rfl⟩, hW, hsame.mono (by decide) (by decide)⟩
  show Q8 Z a1 a2 kx_a2 c0 c1 u_coder_a1 u_value_a1 z_COMP0 h0 n0 _ T2.heap _
  exact ⟨b2_t0, k2_kx_t0, rfl, N2, K4, sz_b2_t0, fq2_1, fq2_2, fq2_3, fq2_4, fq2_5⟩
theorem d7_0 : decode method_2_code 0 = .ok (.iload_n 0, 1) := by decide +kernel
theorem d7_1 : decode method_2_code 1 = .ok (.iconst 3, 1) := by decide +kernel
theorem d7_2 : decode method_2_code 2 = .ok (.iand, 1) := by decide +kernel
theorem d7_3 : decode method_2_code 3 = .ok (.istore_n 3, 1) := by decide +kernel
theorem d7_4 : decode method_2_code 4 = .ok (.iload_n 3, 1) := by decide +kernel
theorem d7_5 : decode method_2_code 5 = .ok (.ifCond .ne 6, 3) := by decide +kernel
theorem d7_8 : decode method_2_code 8 = .ok (.ldc 7, 2) := by decide +kernel
theorem d7_10 : decode method_2_code 10 = .ok (.areturn, 1) := by decide +kernel
theorem pn_7 : plainName "com/example/idem1/idem1/LineIsValidPinLaw" = true := by first | (simp [plainName, overriddenIn]; done) | decide +kernel
theorem ef_7k0 (m : MethodId) (p1 : Int32) (p2 : Int32) (p3 : Int32) : entryFrame m #[(.int p1), (.int p2), (.int p3)] 5 = mkF m 0 #[.val (.int p1), .val (.int p2), .val (.int p3), .unset, .unset] [] := by first | (simp [entryFrame, mkF, argsToLocals, Value.category]; done) | rfl
def Q7k0 (Z : State) (p1 : Int32) (p2 : Int32) (p3 : Int32) (h0 : Heap) (n0 : Nat) (v : Option Value) (h : Heap) (L : List Loc) : Prop := ∃ (tr : Addr), v = some (.ref tr) ∧ Fr n0 L ∧ Keep h0 h []
set_option maxRecDepth 65536 in
set_option maxHeartbeats 40000000 in
theorem rm7k0 (l : Launch) (Z : State) (a0 : Array Value) (hw : ∀ d ∈ tables_1, d.before a0 Z = true) (ws : List Jvm.Cond) (p1 : Int32) (p2 : Int32) (p3 : Int32) (h0 : Heap) (n0 : Nat) (Z0 : n0 ≤ h0.size) (hq5 : ((p1 &&& (3 : Int32))) = (0 : Int32)) :
    MetFree l (⟨"com/example/idem1/idem1/LineIsValidPinLaw", "drawText", "(III)Ljava/lang/String;"⟩ : MethodName) (head1 (Jvm.Cond.code (⟨"com/example/idem1/idem1/LineIsValidPinLaw", "drawText", "(III)Ljava/lang/String;"⟩ : MethodName) method_2_code 5 (some (.object "java/lang/String")) :: ws) ({ frames := 0, cells := 2, slots := 4, locals := 0 } : Room)) (fun a U => a = #[(.int p1), (.int p2), (.int p3)] ∧ Z.Warmed39 U.vm ∧ U.heap = h0) (fun _ _ _ _ _ => True) (fun _ U o U' => ∃ v L, o = .returned v ∧ Q7k0 Z p1 p2 p3 h0 n0 v U'.heap L ∧ ReturnedEndW U o U' L ({ frames := 0, cells := 2, slots := 4, locals := 0 } : Room).cells ({ frames := 0, cells := 2, slots := 4, locals := 0 } : Room).slots) := by
  refine MetFree.of_bodySF (plainFor_of_name pn_7) hisR ?_
  intro p e s m args below meth c s₁ Bd hml0 hP hK
  obtain ⟨rfl, hZ, hh⟩ := hP
  have hx := Bd.exec
  have hby := Bd.bytes
  have hml : c.maxLocals = 5 := hml0
  have hown : s.vm.findClass "com/example/idem1/idem1/LineIsValidPinLaw" = some m.cls := findClass_of_methodNamed Bd.named
  have hnm := (name_of_methodNamed Bd.named Bd.method).1
  have X0 : Stand p l e ({ frames := 0, cells := 2, slots := 4, locals := 0 } : Room) (s.setVm s.vm) m #[(.int p1), (.int p2), (.int p3)] below meth c s₁ [] 0 0 := Stand.of_body Bd
  have e0 : s₁.heap = h0 := by rw [← hh, Bd.state]; rfl
  have N0 := Fr.nil n0
  have hZ : Z.Warmed39 (s.setVm s.vm).vm := hZ
  have hown : (s.setVm s.vm).vm.findClass "com/example/idem1/idem1/LineIsValidPinLaw" = some m.cls := hown
  have hS0 : s.Since s.vm 0 := (State.WarmedH.refl s).since 0
  have K0 : Keep h0 h0 [] := Keep.refl h0 _
  refine (show Gl p e below (fun o U' => ∃ v L, o = .returned v ∧ Q7k0 Z p1 p2 p3 h0 n0 v U'.heap L ∧ ReturnedEndW s o U' L ({ frames := 0, cells := 2, slots := 4, locals := 0 } : Room).cells ({ frames := 0, cells := 2, slots := 4, locals := 0 } : Room).slots) (s₁.setTop (entryFrame m #[(.int p1), (.int p2), (.int p3)] 5)) from ?_)
  obtain ⟨L0, hL0⟩ : ∃ z : Array Slot, z = #[.val (.int p1), .val (.int p2), .val (.int p3), .unset, .unset] := ⟨_, rfl⟩
  refine Gl.st (B := (s₁.setTop (mkF m 0 L0 []))) (fun t k => castTop (efAt hL0 (ef_7k0 m p1 p2 p3)) k) ?_
  refine Gl.st (B := (s₁.setTop (mkF m 1 L0 [(.int p1)]))) (fun t k => XS.iloadN X0.here hx rfl (hb hby d7_0) (ldAt hL0 rfl) k) ?_
  refine Gl.st (B := (s₁.setTop (mkF m 2 L0 [(.int (3 : Int32)), (.int p1)]))) (fun t k => XS.iconst X0.here hx rfl (hb hby d7_1) k) ?_
  refine Gl.st (B := (s₁.setTop (mkF m 3 L0 [(.int (p1 &&& (3 : Int32)))]))) (fun t k => XS.iand X0.here hx rfl (hb hby d7_2) rfl k) ?_
  obtain ⟨y3_3_1, hy3_3_1⟩ : ∃ z : Int32, z = (p1 &&& (3 : Int32)) := ⟨_, rfl⟩
  refine Gl.cast (B := (s₁.setTop (mkF m 3 L0 [(.int y3_3_1)]))) (by rw [hy3_3_1]) ?_
  obtain ⟨L2, hL2⟩ : ∃ z : Array Slot, z = #[.val (.int p1), .val (.int p2), .val (.int p3), .val (.int y3_3_1), .unset] := ⟨_, rfl⟩
  refine Gl.st (B := (s₁.setTop (mkF m 4 L2 []))) (fun t k => XS.istoreN X0.here hx rfl (hb hby d7_3) rfl (l' := L2) (stAt hL0 hL2 rfl rfl) k) ?_
  refine Gl.st (B := (s₁.setTop (mkF m 5 L2 [(.int y3_3_1)]))) (fun t k => XS.iloadN X0.here hx rfl (hb hby d7_4) (ldAt hL2 rfl) k) ?_
  have hc5_4 : y3_3_1 = (0 : Int32) := by subst hy3_3_1; exact hq5
  refine Gl.st (B := (s₁.setTop (mkF m 8 L2 []))) (fun t k => XS.ifNo X0.here hx rfl (hb hby d7_5) rfl ((if0 _ _).trans (teq hc5_4).2) k) ?_
  obtain ⟨b5, T5, h5, k5, X5, e5, E5, hS5, hk5, hZ, hown, st5⟩ := ldcS X0 hx hZ hown (tw hw 70 rfl) (own_strAtoms hw) e0 hS0 (Nat.zero_le _) (g := (mkF m 8 L2 [])) rfl (hb hby d7_8) (n := 0) (by decide) (by decide) (by decide) (by decide)
  have Zc6 : n0 ≤ h5.size := Nat.le_trans Z0 E5.1
  have K7 : Keep h0 h5 [] := K0.ext E5
  refine Gl.st (B := (T5.setTop (mkF m 10 L2 [(.ref b5)]))) st5 ?_
  obtain ⟨fs, hr, hrun, hended, hRW⟩ := X5.leaveW hS5 (by rw [e5]; exact hk5) (v := some (.ref b5)) (fun h => by rw [Bd.returns] at h; cases h)
  refine Gl.fin (X5.areturnOut hx rfl Bd.returns rfl (hb hby d7_10) hr) hrun hended ⟨_, _, rfl, ?_, hRW.1, hRW.2.1, hRW.2.2.1, hRW.2.2.2.mono (by decide) (by decide)⟩
  show Q7k0 Z p1 p2 p3 h0 n0 _ T5.heap _
  rw [e5]
  exact ⟨b5, rfl, N0, K7⟩
theorem d7_11 : decode method_2_code 11 = .ok (.iload_n 3, 1) := by decide +kernel
theorem d7_12 : decode method_2_code 12 = .ok (.iconst 1, 1) := by decide +kernel
theorem d7_13 : decode method_2_code 13 = .ok (.if_icmp .ne 13, 3) := by decide +kernel
theorem d7_16 : decode method_2_code 16 = .ok (.iload_n 1, 1) := by decide +kernel
theorem d7_17 : decode method_2_code 17 = .ok (.sipush 255, 3) := by decide +kernel
theorem d7_20 : decode method_2_code 20 = .ok (.iand, 1) := by decide +kernel
theorem d7_21 : decode method_2_code 21 = .ok (.i2c, 1) := by decide +kernel
theorem d7_22 : decode method_2_code 22 = .ok (.invokestatic 9, 3) := by decide +kernel
theorem d7_25 : decode method_2_code 25 = .ok (.areturn, 1) := by decide +kernel
theorem pd_7k1_0 : parseMethodDescriptor "(C)Ljava/lang/String;" = some ⟨[.char], some (.object "java/lang/String")⟩ := by decide +kernel
theorem ef_7k1 (m : MethodId) (p1 : Int32) (p2 : Int32) (p3 : Int32) : entryFrame m #[(.int p1), (.int p2), (.int p3)] 5 = mkF m 0 #[.val (.int p1), .val (.int p2), .val (.int p3), .unset, .unset] [] := by first | (simp [entryFrame, mkF, argsToLocals, Value.category]; done) | rfl
theorem own_7k1_hp22_9 (p2 : Int32) (x22_7 : Int32) (hx22_7 : x22_7 = ((p2 &&& (255 : Int32)).toUInt32.toUInt16.toUInt32.toInt32))  : ¬ ((255 : Int32) < x22_7) := by
  exact own_ch _ _ hx22_7
def Q7k1 (Z : State) (p1 : Int32) (p2 : Int32) (p3 : Int32) (z_COMP0 : Int32) (h0 : Heap) (n0 : Nat) (v : Option Value) (h : Heap) (L : List Loc) : Prop := ∃ (t0 : Addr) (t1 : Addr) (kx_t1 : ClassId), v = some (.ref t0) ∧ Fr n0 L ∧ Keep h0 h [] ∧ h0.size ≤ t0 ∧ h0.size ≤ t1 ∧ Exa Z h t0 "java/lang/String" ∧ Fld Z h t0 "java/lang/String" "coder" "B" (.int (nar .byte (0 : Int32))) ∧ Fld Z h t0 "java/lang/String" "value" "[B" (.ref t1) ∧ Exa Z h t1 "[B" ∧ Arv Z h t1 kx_t1 .byte (1 : Int32) [(.int (nar .byte (((((p2 &&& (255 : Int32)).toUInt32.toUInt16.toUInt32.toInt32)).toInt8.toInt32))))] (.int (0 : Int32))
set_option maxRecDepth 65536 in
set_option maxHeartbeats 40000000 in
theorem rm7k1 (l : Launch) (Z : State) (a0 : Array Value) (hw : ∀ d ∈ tables_1, d.before a0 Z = true) (ws : List Jvm.Cond) (p1 : Int32) (p2 : Int32) (p3 : Int32) (z_COMP0 : Int32) (h0 : Heap) (n0 : Nat) (Z0 : n0 ≤ h0.size) (hq5 : ¬ (((p1 &&& (3 : Int32))) = (0 : Int32))) (hq13 : ((p1 &&& (3 : Int32))) = (1 : Int32)) (S_COMP0 : Sta Z h0 "java/lang/String" "COMPACT_STRINGS" "Z" (.int z_COMP0)) (hr22_hq3 : ¬ (z_COMP0 = (0 : Int32))) :
    MetFree l (⟨"com/example/idem1/idem1/LineIsValidPinLaw", "drawText", "(III)Ljava/lang/String;"⟩ : MethodName) (head1 (Jvm.Cond.code (⟨"com/example/idem1/idem1/LineIsValidPinLaw", "drawText", "(III)Ljava/lang/String;"⟩ : MethodName) method_2_code 5 (some (.object "java/lang/String")) :: ws) ({ frames := 3, cells := 2, slots := 5, locals := 39 } : Room)) (fun a U => a = #[(.int p1), (.int p2), (.int p3)] ∧ Z.Warmed39 U.vm ∧ U.heap = h0) (fun _ _ _ _ _ => True) (fun _ U o U' => ∃ v L, o = .returned v ∧ Q7k1 Z p1 p2 p3 z_COMP0 h0 n0 v U'.heap L ∧ FrameEnd U o U' L ({ frames := 3, cells := 2, slots := 5, locals := 39 } : Room).cells ({ frames := 3, cells := 2, slots := 5, locals := 39 } : Room).slots) := by
  refine MetFree.of_bodySF (plainFor_of_name pn_7) hisR ?_
  intro p e s m args below meth c s₁ Bd hml0 hP hK
  obtain ⟨rfl, hZ, hh⟩ := hP
  have hx := Bd.exec
  have hby := Bd.bytes
  have hml : c.maxLocals = 5 := hml0
  have hown : s.vm.findClass "com/example/idem1/idem1/LineIsValidPinLaw" = some m.cls := findClass_of_methodNamed Bd.named
  have hnm := (name_of_methodNamed Bd.named Bd.method).1
  have X0 : Stand p l e ({ frames := 3, cells := 2, slots := 5, locals := 39 } : Room) s m #[(.int p1), (.int p2), (.int p3)] below meth c s₁ [] 0 0 := Stand.of_body Bd
  have e0 : s₁.heap = h0 := by rw [← hh, Bd.state]; rfl
  have N0 := Fr.nil n0
  have K0 : Keep h0 h0 [] := Keep.refl h0 _
  refine (show Gl p e below (fun o U' => ∃ v L, o = .returned v ∧ Q7k1 Z p1 p2 p3 z_COMP0 h0 n0 v U'.heap L ∧ FrameEnd s o U' L ({ frames := 3, cells := 2, slots := 5, locals := 39 } : Room).cells ({ frames := 3, cells := 2, slots := 5, locals := 39 } : Room).slots) (s₁.setTop (entryFrame m #[(.int p1), (.int p2), (.int p3)] 5)) from ?_)
  obtain ⟨L0, hL0⟩ : ∃ z : Array Slot, z = #[.val (.int p1), .val (.int p2), .val (.int p3), .unset, .unset] := ⟨_, rfl⟩
  refine Gl.st (B := (s₁.setTop (mkF m 0 L0 []))) (fun t k => castTop (efAt hL0 (ef_7k1 m p1 p2 p3)) k) ?_
  refine Gl.st (B := (s₁.setTop (mkF m 1 L0 [(.int p1)]))) (fun t k => XS.iloadN X0.here hx rfl (hb hby d7_0) (ldAt hL0 rfl) k) ?_
  refine Gl.st (B := (s₁.setTop (mkF m 2 L0 [(.int (3 : Int32)), (.int p1)]))) (fun t k => XS.iconst X0.here hx rfl (hb hby d7_1) k) ?_
  refine Gl.st (B := (s₁.setTop (mkF m 3 L0 [(.int (p1 &&& (3 : Int32)))]))) (fun t k => XS.iand X0.here hx rfl (hb hby d7_2) rfl k) ?_
  obtain ⟨y3_3_1, hy3_3_1⟩ : ∃ z : Int32, z = (p1 &&& (3 : Int32)) := ⟨_, rfl⟩
  refine Gl.cast (B := (s₁.setTop (mkF m 3 L0 [(.int y3_3_1)]))) (by rw [hy3_3_1]) ?_
  obtain ⟨L2, hL2⟩ : ∃ z : Array Slot, z = #[.val (.int p1), .val (.int p2), .val (.int p3), .val (.int y3_3_1), .unset] := ⟨_, rfl⟩
  refine Gl.st (B := (s₁.setTop (mkF m 4 L2 []))) (fun t k => XS.istoreN X0.here hx rfl (hb hby d7_3) rfl (l' := L2) (stAt hL0 hL2 rfl rfl) k) ?_
  refine Gl.st (B := (s₁.setTop (mkF m 5 L2 [(.int y3_3_1)]))) (fun t k => XS.iloadN X0.here hx rfl (hb hby d7_4) (ldAt hL2 rfl) k) ?_
  have hc5_4 : ¬ (y3_3_1 = (0 : Int32)) := by subst hy3_3_1; exact hq5
  refine Gl.st (B := (s₁.setTop (mkF m 11 L2 []))) (fun t k => XS.ifYes X0.here hx rfl (pc0 := 5) (pc' := 11) rfl (hb hby d7_5) rfl ((if0 _ _).trans (feq hc5_4).2) (by decide) (by decide) k) ?_
  refine Gl.st (B := (s₁.setTop (mkF m 12 L2 [(.int y3_3_1)]))) (fun t k => XS.iloadN X0.here hx rfl (hb hby d7_11) (ldAt hL2 rfl) k) ?_
  refine Gl.st (B := (s₁.setTop (mkF m 13 L2 [(.int (1 : Int32)), (.int y3_3_1)]))) (fun t k => XS.iconst X0.here hx rfl (hb hby d7_12) k) ?_
  have hc13_6 : y3_3_1 = (1 : Int32) := by subst hy3_3_1; exact hq13
  refine Gl.st (B := (s₁.setTop (mkF m 16 L2 []))) (fun t k => XS.icmpNo X0.here hx rfl (hb hby d7_13) rfl (teq hc13_6).2 k) ?_
  refine Gl.st (B := (s₁.setTop (mkF m 17 L2 [(.int p2)]))) (fun t k => XS.iloadN X0.here hx rfl (hb hby d7_16) (ldAt hL2 rfl) k) ?_
  refine Gl.st (B := (s₁.setTop (mkF m 20 L2 [(.int (255 : Int32)), (.int p2)]))) (fun t k => XS.sipush X0.here hx rfl (hb hby d7_17) k) ?_
  refine Gl.st (B := (s₁.setTop (mkF m 21 L2 [(.int (p2 &&& (255 : Int32)))]))) (fun t k => XS.iand X0.here hx rfl (hb hby d7_20) rfl k) ?_
  refine Gl.st (B := (s₁.setTop (mkF m 22 L2 [(.int ((p2 &&& (255 : Int32)).toUInt32.toUInt16.toUInt32.toInt32))]))) (fun t k => XS.i2c X0.here hx rfl (hb hby d7_21) rfl k) ?_
  obtain ⟨x22_7, hx22_7⟩ : ∃ z : Int32, z = ((p2 &&& (255 : Int32)).toUInt32.toUInt16.toUInt32.toInt32) := ⟨_, rfl⟩
  refine Gl.cast (B := (s₁.setTop (mkF m 22 L2 [(.int x22_7)]))) (by rw [hx22_7]) ?_
  have hp22_9 : ¬ ((255 : Int32) < x22_7) := own_7k1_hp22_9 p2 x22_7 hx22_7 
  obtain ⟨_, _, ⟨T8, L8q, k8, n8⟩, -, X8, ⟨Lc8, hQ8, l8, y8, z8⟩, st8⟩ := Jvm.LawKit.callS X0 hx (y := (⟨"java/lang/String", "valueOf", "(C)Ljava/lang/String;"⟩ : MethodName)) hown (mvT hZ (tw hw 75 rfl)) (mvT hZ (tw hw 76 rfl)) (mvT hZ (tw hw 45 rfl)) (mvT hZ (tw hw 77 rfl)) (by decide) (backOf (W := 0) (rm13 l Z a0 hw [] x22_7 z_COMP0 h0 n0 Z0 S_COMP0 hr22_hq3 hp22_9) hZ (tw hw 77 rfl) (tw hw 45 rfl) (by decide) (by decide)) (g := (mkF m 22 L2 [(.int x22_7)])) rfl (szAt hml hL2 rfl) (argsL := [(.int x22_7)]) (rest := []) (lenOf pd_7k1_0 rfl) rfl (by show 2 * 0 + _ ≤ _; exact Nat.le_of_eq rfl) (hb hby d7_22) (fun _ _ => ⟨rfl, e0, (by decide : 0 + 2 ≤ _), (by decide : 0 + 5 ≤ _)⟩)
  dsimp only [Pt.U, Pt.locs, Pt.cells, Pt.slots] at X8 l8 y8 z8 st8 hQ8
  subst l8 y8 z8
  obtain ⟨b8_t0, b8_t1, k8_kx_t1, rfl, N8q, Kc8, fq8_0, fq8_1, fq8_2, fq8_3, fq8_4, fq8_5, fq8_6⟩ := hQ8
  have g_b8_t0 : n0 ≤ b8_t0 := Nat.le_trans Z0 fq8_0
  have sz_b8_t0 : h0.size ≤ b8_t0 := Nat.le_trans K0.1 fq8_0
  have lt_b8_t0 := fq8_2.lt
  have g_b8_t1 : n0 ≤ b8_t1 := Nat.le_trans Z0 fq8_1
  have sz_b8_t1 : h0.size ≤ b8_t1 := Nat.le_trans K0.1 fq8_1
  have lt_b8_t1 := fq8_5.lt
  have Zc10 : n0 ≤ T8.heap.size := Nat.le_trans Z0 Kc8.1
  have K11 : Keep h0 T8.heap [] := K0.trans Kc8 all0
  have N8 := Fr.app N0 N8q
  refine Gl.st (B := (T8.setTop (mkF m 25 L2 [(.ref b8_t0)]))) (fun t k => st8 t k) ?_
  obtain ⟨fs, hr, hrun, hended, hW, hsame⟩ := X8.leave (v := some (.ref b8_t0)) (fun h => by rw [Bd.returns] at h; cases h)
  refine Gl.fin (X8.areturnOut hx rfl Bd.returns rfl (hb hby d7_25) hr) hrun hended ⟨_, _, rfl, ?_, ⟨_, rfl⟩, hW, hsame.mono (by decide) (by decide)⟩
  show Q7k1 Z p1 p2 p3 z_COMP0 h0 n0 _ T8.heap _
  exact ⟨b8_t0, b8_t1, k8_kx_t1, rfl, N8, K11, sz_b8_t0, sz_b8_t1, fq8_2, fq8_3, fq8_4, fq8_5, (by subst hx22_7; exact fq8_6)⟩
theorem d7_26 : decode method_2_code 26 = .ok (.iconst 2, 1) := by decide +kernel
theorem d7_27 : decode method_2_code 27 = .ok (.newarray .char, 2) := by decide +kernel
theorem d7_29 : decode method_2_code 29 = .ok (.astore 4, 2) := by decide +kernel
theorem d7_31 : decode method_2_code 31 = .ok (.aload 4, 2) := by decide +kernel
theorem d7_33 : decode method_2_code 33 = .ok (.iconst 0, 1) := by decide +kernel
theorem d7_34 : decode method_2_code 34 = .ok (.iload_n 1, 1) := by decide +kernel
theorem d7_35 : decode method_2_code 35 = .ok (.sipush 255, 3) := by decide +kernel
theorem d7_38 : decode method_2_code 38 = .ok (.iand, 1) := by decide +kernel
theorem d7_39 : decode method_2_code 39 = .ok (.i2c, 1) := by decide +kernel
theorem d7_40 : decode method_2_code 40 = .ok (.castore, 1) := by decide +kernel
theorem d7_41 : decode method_2_code 41 = .ok (.aload 4, 2) := by decide +kernel
theorem d7_43 : decode method_2_code 43 = .ok (.iconst 1, 1) := by decide +kernel
theorem d7_44 : decode method_2_code 44 = .ok (.iload_n 2, 1) := by decide +kernel
theorem d7_45 : decode method_2_code 45 = .ok (.sipush 255, 3) := by decide +kernel
theorem d7_48 : decode method_2_code 48 = .ok (.iand, 1) := by decide +kernel
theorem d7_49 : decode method_2_code 49 = .ok (.i2c, 1) := by decide +kernel
theorem d7_50 : decode method_2_code 50 = .ok (.castore, 1) := by decide +kernel
theorem d7_51 : decode method_2_code 51 = .ok (.new 10, 3) := by decide +kernel
theorem d7_54 : decode method_2_code 54 = .ok (.dup, 1) := by decide +kernel
theorem d7_55 : decode method_2_code 55 = .ok (.aload 4, 2) := by decide +kernel
theorem d7_57 : decode method_2_code 57 = .ok (.invokespecial 15, 3) := by decide +kernel
theorem d7_60 : decode method_2_code 60 = .ok (.areturn, 1) := by decide +kernel
theorem pd_7k2_0 : parseMethodDescriptor "([C)V" = some ⟨[(.array .char)], none⟩ := by decide +kernel
theorem ef_7k2 (m : MethodId) (p1 : Int32) (p2 : Int32) (p3 : Int32) : entryFrame m #[(.int p1), (.int p2), (.int p3)] 5 = mkF m 0 #[.val (.int p1), .val (.int p2), .val (.int p3), .unset, .unset] [] := by first | (simp [entryFrame, mkF, argsToLocals, Value.category]; done) | rfl
theorem own_7k2_hp57_25 (p2 : Int32) (x40_11 : Int32) (hx40_11 : x40_11 = ((p2 &&& (255 : Int32)).toUInt32.toUInt16.toUInt32.toInt32))  : ¬ ((255 : Int32) < (nar .char x40_11)) := by
  exact own_ch2 _ _ hx40_11
theorem own_7k2_hp57_26 (p3 : Int32) (x50_15 : Int32) (hx50_15 : x50_15 = ((p3 &&& (255 : Int32)).toUInt32.toUInt16.toUInt32.toInt32))  : ¬ ((255 : Int32) < (nar .char x50_15)) := by
  exact own_ch2 _ _ hx50_15
def Q7k2 (Z : State) (p1 : Int32) (p2 : Int32) (p3 : Int32) (z_COMP0 : Int32) (h0 : Heap) (n0 : Nat) (v : Option Value) (h : Heap) (L : List Loc) : Prop := ∃ (t0 : Addr) (t1 : Addr) (kx_t1 : ClassId), v = some (.ref t0) ∧ Fr n0 L ∧ Keep h0 h [] ∧ h0.size ≤ t0 ∧ h0.size ≤ t1 ∧ Exa Z h t0 "java/lang/String" ∧ Fld Z h t0 "java/lang/String" "coder" "B" (.int (nar .byte ((nar .byte ((((0 : Int32).toUInt32 >>> ((31 : Int32) &&& 31).toUInt32).toInt32).toInt8.toInt32))))) ∧ Fld Z h t0 "java/lang/String" "value" "[B" (.ref t1) ∧ Exa Z h t1 "[B" ∧ Arv Z h t1 kx_t1 .byte (2 : Int32) [(.int (nar .byte (((nar .char (((p2 &&& (255 : Int32)).toUInt32.toUInt16.toUInt32.toInt32))).toInt8.toInt32)))), (.int (nar .byte (((nar .char (((p3 &&& (255 : Int32)).toUInt32.toUInt16.toUInt32.toInt32))).toInt8.toInt32))))] (.int (0 : Int32))
set_option maxRecDepth 65536 in
set_option maxHeartbeats 40000000 in
theorem rm7k2 (l : Launch) (Z : State) (a0 : Array Value) (hw : ∀ d ∈ tables_1, d.before a0 Z = true) (ws : List Jvm.Cond) (p1 : Int32) (p2 : Int32) (p3 : Int32) (z_COMP0 : Int32) (h0 : Heap) (n0 : Nat) (Z0 : n0 ≤ h0.size) (hq5 : ¬ (((p1 &&& (3 : Int32))) = (0 : Int32))) (hq13 : ¬ (((p1 &&& (3 : Int32))) = (1 : Int32))) (S_COMP0 : Sta Z h0 "java/lang/String" "COMPACT_STRINGS" "Z" (.int z_COMP0)) (hr57_hr6_hq30 : ¬ (z_COMP0 = (0 : Int32))) :
    MetFree l (⟨"com/example/idem1/idem1/LineIsValidPinLaw", "drawText", "(III)Ljava/lang/String;"⟩ : MethodName) (head1 (Jvm.Cond.code (⟨"com/example/idem1/idem1/LineIsValidPinLaw", "drawText", "(III)Ljava/lang/String;"⟩ : MethodName) method_2_code 5 (some (.object "java/lang/String")) :: ws) ({ frames := 4, cells := 3, slots := 8, locals := 66 } : Room)) (fun a U => a = #[(.int p1), (.int p2), (.int p3)] ∧ Z.Warmed39 U.vm ∧ U.heap = h0) (fun _ _ _ _ _ => True) (fun _ U o U' => ∃ v L, o = .returned v ∧ Q7k2 Z p1 p2 p3 z_COMP0 h0 n0 v U'.heap L ∧ FrameEnd U o U' L ({ frames := 4, cells := 3, slots := 8, locals := 66 } : Room).cells ({ frames := 4, cells := 3, slots := 8, locals := 66 } : Room).slots) := by
  refine MetFree.of_bodySF (plainFor_of_name pn_7) hisR ?_
  intro p e s m args below meth c s₁ Bd hml0 hP hK
  obtain ⟨rfl, hZ, hh⟩ := hP
  have hx := Bd.exec
  have hby := Bd.bytes
  have hml : c.maxLocals = 5 := hml0
  have hown : s.vm.findClass "com/example/idem1/idem1/LineIsValidPinLaw" = some m.cls := findClass_of_methodNamed Bd.named
  have hnm := (name_of_methodNamed Bd.named Bd.method).1
  have X0 : Stand p l e ({ frames := 4, cells := 3, slots := 8, locals := 66 } : Room) s m #[(.int p1), (.int p2), (.int p3)] below meth c s₁ [] 0 0 := Stand.of_body Bd
  have e0 : s₁.heap = h0 := by rw [← hh, Bd.state]; rfl
  have N0 := Fr.nil n0
  have K0 : Keep h0 h0 [] := Keep.refl h0 _
  refine (show Gl p e below (fun o U' => ∃ v L, o = .returned v ∧ Q7k2 Z p1 p2 p3 z_COMP0 h0 n0 v U'.heap L ∧ FrameEnd s o U' L ({ frames := 4, cells := 3, slots := 8, locals := 66 } : Room).cells ({ frames := 4, cells := 3, slots := 8, locals := 66 } : Room).slots) (s₁.setTop (entryFrame m #[(.int p1), (.int p2), (.int p3)] 5)) from ?_)
  obtain ⟨L0, hL0⟩ : ∃ z : Array Slot, z = #[.val (.int p1), .val (.int p2), .val (.int p3), .unset, .unset] := ⟨_, rfl⟩
  refine Gl.st (B := (s₁.setTop (mkF m 0 L0 []))) (fun t k => castTop (efAt hL0 (ef_7k2 m p1 p2 p3)) k) ?_
  refine Gl.st (B := (s₁.setTop (mkF m 1 L0 [(.int p1)]))) (fun t k => XS.iloadN X0.here hx rfl (hb hby d7_0) (ldAt hL0 rfl) k) ?_
  refine Gl.st (B := (s₁.setTop (mkF m 2 L0 [(.int (3 : Int32)), (.int p1)]))) (fun t k => XS.iconst X0.here hx rfl (hb hby d7_1) k) ?_
  refine Gl.st (B := (s₁.setTop (mkF m 3 L0 [(.int (p1 &&& (3 : Int32)))]))) (fun t k => XS.iand X0.here hx rfl (hb hby d7_2) rfl k) ?_
  obtain ⟨y3_3_1, hy3_3_1⟩ : ∃ z : Int32, z = (p1 &&& (3 : Int32)) := ⟨_, rfl⟩
  refine Gl.cast (B := (s₁.setTop (mkF m 3 L0 [(.int y3_3_1)]))) (by rw [hy3_3_1]) ?_
  obtain ⟨L2, hL2⟩ : ∃ z : Array Slot, z = #[.val (.int p1), .val (.int p2), .val (.int p3), .val (.int y3_3_1), .unset] := ⟨_, rfl⟩
  refine Gl.st (B := (s₁.setTop (mkF m 4 L2 []))) (fun t k => XS.istoreN X0.here hx rfl (hb hby d7_3) rfl (l' := L2) (stAt hL0 hL2 rfl rfl) k) ?_
  refine Gl.st (B := (s₁.setTop (mkF m 5 L2 [(.int y3_3_1)]))) (fun t k => XS.iloadN X0.here hx rfl (hb hby d7_4) (ldAt hL2 rfl) k) ?_
  have hc5_4 : ¬ (y3_3_1 = (0 : Int32)) := by subst hy3_3_1; exact hq5
  refine Gl.st (B := (s₁.setTop (mkF m 11 L2 []))) (fun t k => XS.ifYes X0.here hx rfl (pc0 := 5) (pc' := 11) rfl (hb hby d7_5) rfl ((if0 _ _).trans (feq hc5_4).2) (by decide) (by decide) k) ?_
  refine Gl.st (B := (s₁.setTop (mkF m 12 L2 [(.int y3_3_1)]))) (fun t k => XS.iloadN X0.here hx rfl (hb hby d7_11) (ldAt hL2 rfl) k) ?_
  refine Gl.st (B := (s₁.setTop (mkF m 13 L2 [(.int (1 : Int32)), (.int y3_3_1)]))) (fun t k => XS.iconst X0.here hx rfl (hb hby d7_12) k) ?_
  have hc13_6 : ¬ (y3_3_1 = (1 : Int32)) := by subst hy3_3_1; exact hq13
  refine Gl.st (B := (s₁.setTop (mkF m 26 L2 []))) (fun t k => XS.icmpYes X0.here hx rfl (pc0 := 13) (pc' := 26) rfl (hb hby d7_13) rfl (feq hc13_6).2 (by decide) (by decide) k) ?_
  refine Gl.st (B := (s₁.setTop (mkF m 27 L2 [(.int (2 : Int32))]))) (fun t k => XS.iconst X0.here hx rfl (hb hby d7_26) k) ?_
  obtain ⟨T7, h7, k7, X7, e7, E7, A7, Ex7, st7⟩ := newPE X0 hx hZ (tw hw 42 rfl) e0 (g := (mkF m 27 L2 [(.int (2 : Int32))])) rfl (hb hby d7_27) rfl (by decide) (cap := 2) (by decide) (by decide) (by decide) (by decide) (ad := "[C") rfl
  obtain ⟨b7, gq7⟩ : ∃ z, z = h0.size := ⟨_, rfl⟩
  rw [← gq7] at A7 Ex7 st7
  have V7 : Arv Z h7 b7 k7 .char (2 : Int32) [(.int (0 : Int32)), (.int (0 : Int32))] (.int (0 : Int32)) := (Arv.new A7 (by decide)).pad (pad_rep [] (.int (0 : Int32)) 2)
  have g_b7 : n0 ≤ b7 := Nat.le_trans Z0 (Nat.le_of_eq gq7.symm)
  have sz_b7 : h0.size ≤ b7 := Nat.le_trans K0.1 (Nat.le_of_eq gq7.symm)
  have lt_b7 := V7.lt
  have Zc8 : n0 ≤ h7.size := Nat.le_trans Z0 E7.1
  have K9 : Keep h0 h7 [] := K0.ext E7
  refine Gl.st (B := (T7.setTop (mkF m 29 L2 [(.ref b7)]))) st7 ?_
  obtain ⟨L10, hL10⟩ : ∃ z : Array Slot, z = #[.val (.int p1), .val (.int p2), .val (.int p3), .val (.int y3_3_1), .val (.ref b7)] := ⟨_, rfl⟩
  refine Gl.st (B := (T7.setTop (mkF m 31 L10 []))) (fun t k => XS.astore X7.here hx rfl (hb hby d7_29) rfl rfl (l' := L10) (stAt hL2 hL10 rfl rfl) k) ?_
  refine Gl.st (B := (T7.setTop (mkF m 33 L10 [(.ref b7)]))) (fun t k => XS.aload X7.here hx rfl (hb hby d7_31) (ldAt hL10 rfl) rfl k) ?_
  refine Gl.st (B := (T7.setTop (mkF m 34 L10 [(.int (0 : Int32)), (.ref b7)]))) (fun t k => XS.iconst X7.here hx rfl (hb hby d7_33) k) ?_
  refine Gl.st (B := (T7.setTop (mkF m 35 L10 [(.int p2), (.int (0 : Int32)), (.ref b7)]))) (fun t k => XS.iloadN X7.here hx rfl (hb hby d7_34) (ldAt hL10 rfl) k) ?_
  refine Gl.st (B := (T7.setTop (mkF m 38 L10 [(.int (255 : Int32)), (.int p2), (.int (0 : Int32)), (.ref b7)]))) (fun t k => XS.sipush X7.here hx rfl (hb hby d7_35) k) ?_
  refine Gl.st (B := (T7.setTop (mkF m 39 L10 [(.int (p2 &&& (255 : Int32))), (.int (0 : Int32)), (.ref b7)]))) (fun t k => XS.iand X7.here hx rfl (hb hby d7_38) rfl k) ?_
  refine Gl.st (B := (T7.setTop (mkF m 40 L10 [(.int ((p2 &&& (255 : Int32)).toUInt32.toUInt16.toUInt32.toInt32)), (.int (0 : Int32)), (.ref b7)]))) (fun t k => XS.i2c X7.here hx rfl (hb hby d7_39) rfl k) ?_
  obtain ⟨x40_11, hx40_11⟩ : ∃ z : Int32, z = ((p2 &&& (255 : Int32)).toUInt32.toUInt16.toUInt32.toInt32) := ⟨_, rfl⟩
  refine Gl.cast (B := (T7.setTop (mkF m 40 L10 [(.int x40_11), (.int (0 : Int32)), (.ref b7)]))) (by rw [hx40_11]) ?_
  obtain ⟨cl12, Ar12, q12, S12, P12, H12, G12⟩ := (id V7)
  have hin40_12 : ¬ ((0 : Int32) < 0 ∨ cl12.slots.size ≤ ((0 : Int32)).toNatClampNeg) := inb_of S12 ⟨by decide, by decide⟩
  obtain ⟨T12, h12, X12, e12, W12, st12⟩ := stC X7 hx hZ e7 Ar12 (j := (0 : Int32)) hin40_12 (g := (mkF m 40 L10 [(.int x40_11), (.int (0 : Int32)), (.ref b7)])) rfl rfl (hb hby d7_40)
  have V12 : Arv Z h12 b7 k7 .char (2 : Int32) [(.int (nar .char x40_11)), (.int (0 : Int32))] (.int (0 : Int32)) := Arv.set Ar12 q12 S12 P12 H12 G12 (fits_nar_char _) W12 0 rfl (Nat.le_of_ble_eq_true rfl)
  have Zc13 : n0 ≤ h12.size := Nat.le_trans Zc8 (Nat.le_of_eq W12.size.symm)
  have K14 : Keep h0 h12 [] := K9.wr W12 (Or.inr sz_b7)
  have N12 := Fr.snoc X12 N0 g_b7
  refine Gl.st (B := (T12.setTop (mkF m 41 L10 []))) st12 ?_
  refine Gl.st (B := (T12.setTop (mkF m 43 L10 [(.ref b7)]))) (fun t k => XS.aload X12.here hx rfl (hb hby d7_41) (ldAt hL10 rfl) rfl k) ?_
  refine Gl.st (B := (T12.setTop (mkF m 44 L10 [(.int (1 : Int32)), (.ref b7)]))) (fun t k => XS.iconst X12.here hx rfl (hb hby d7_43) k) ?_
  refine Gl.st (B := (T12.setTop (mkF m 45 L10 [(.int p3), (.int (1 : Int32)), (.ref b7)]))) (fun t k => XS.iloadN X12.here hx rfl (hb hby d7_44) (ldAt hL10 rfl) k) ?_
  refine Gl.st (B := (T12.setTop (mkF m 48 L10 [(.int (255 : Int32)), (.int p3), (.int (1 : Int32)), (.ref b7)]))) (fun t k => XS.sipush X12.here hx rfl (hb hby d7_45) k) ?_
  refine Gl.st (B := (T12.setTop (mkF m 49 L10 [(.int (p3 &&& (255 : Int32))), (.int (1 : Int32)), (.ref b7)]))) (fun t k => XS.iand X12.here hx rfl (hb hby d7_48) rfl k) ?_
  refine Gl.st (B := (T12.setTop (mkF m 50 L10 [(.int ((p3 &&& (255 : Int32)).toUInt32.toUInt16.toUInt32.toInt32)), (.int (1 : Int32)), (.ref b7)]))) (fun t k => XS.i2c X12.here hx rfl (hb hby d7_49) rfl k) ?_
  obtain ⟨x50_15, hx50_15⟩ : ∃ z : Int32, z = ((p3 &&& (255 : Int32)).toUInt32.toUInt16.toUInt32.toInt32) := ⟨_, rfl⟩
  refine Gl.cast (B := (T12.setTop (mkF m 50 L10 [(.int x50_15), (.int (1 : Int32)), (.ref b7)]))) (by rw [hx50_15]) ?_
  obtain ⟨cl16, Ar16, q16, S16, P16, H16, G16⟩ := (id V12)
  have hin50_16 : ¬ ((1 : Int32) < 0 ∨ cl16.slots.size ≤ ((1 : Int32)).toNatClampNeg) := inb_of S16 ⟨by decide, by decide⟩
  obtain ⟨T16, h16, X16, e16, W16, st16⟩ := stC X12 hx hZ e12 Ar16 (j := (1 : Int32)) hin50_16 (g := (mkF m 50 L10 [(.int x50_15), (.int (1 : Int32)), (.ref b7)])) rfl rfl (hb hby d7_50)
  have V16 : Arv Z h16 b7 k7 .char (2 : Int32) [(.int (nar .char x40_11)), (.int (nar .char x50_15))] (.int (0 : Int32)) := Arv.set Ar16 q16 S16 P16 H16 G16 (fits_nar_char _) W16 1 rfl (Nat.le_of_ble_eq_true rfl)
  have Zc17 : n0 ≤ h16.size := Nat.le_trans Zc13 (Nat.le_of_eq W16.size.symm)
  have K18 : Keep h0 h16 [] := K14.wr W16 (Or.inr sz_b7)
  have N16 := Fr.snoc X16 N12 g_b7
  refine Gl.st (B := (T16.setTop (mkF m 51 L10 []))) st16 ?_
  obtain ⟨T19, h19, X19, e19, E19, A19, D19, -, st19⟩ := newO X16 hx hZ hown (tw hw 43 rfl) (tw hw 44 rfl) (tw hw 45 rfl) e16 (g := (mkF m 51 L10 [])) rfl (hb hby d7_51) (by decide) (by decide)
  obtain ⟨b19, gq19⟩ : ∃ z, z = h16.size := ⟨_, rfl⟩
  rw [← gq19] at A19 D19 st19
  have g_b19 : n0 ≤ b19 := Nat.le_trans Zc17 (Nat.le_of_eq gq19.symm)
  have sz_b19 : h0.size ≤ b19 := Nat.le_trans K18.1 (Nat.le_of_eq gq19.symm)
  have lt_b19 := A19.lt
  have Zc20 : n0 ≤ h19.size := Nat.le_trans Zc17 E19.1
  have K21 : Keep h0 h19 [] := K18.ext E19
  have F19_coder : Fld Z h19 b19 "java/lang/String" "coder" "B" (.int (0 : Int32)) := D19 (Or.inr (tw hw 67 rfl)) (ty := .byte) (by decide)
  have F19_value : Fld Z h19 b19 "java/lang/String" "value" "[B" .null := D19 (Or.inr (tw hw 69 rfl)) (ty := (.array .byte)) (by decide)
  refine Gl.st (B := (T19.setTop (mkF m 54 L10 [(.ref b19)]))) st19 ?_
  refine Gl.st (B := (T19.setTop (mkF m 55 L10 [(.ref b19), (.ref b19)]))) (fun t k => XS.dup X19.here hx rfl (hb hby d7_54) rfl rfl k) ?_
  refine Gl.st (B := (T19.setTop (mkF m 57 L10 [(.ref b7), (.ref b19), (.ref b19)]))) (fun t k => XS.aload X19.here hx rfl (hb hby d7_55) (ldAt hL10 rfl) rfl k) ?_
  have c23 := ((((S_COMP0.ext E7).wr W12).wr W16).ext E19)
  have c24 := (V16.ext E19)
  have hp57_25 : ¬ ((255 : Int32) < (nar .char x40_11)) := own_7k2_hp57_25 p2 x40_11 hx40_11 
  have hp57_26 : ¬ ((255 : Int32) < (nar .char x50_15)) := own_7k2_hp57_26 p3 x50_15 hx50_15 
  obtain ⟨_, _, ⟨T22, L22q, k22, n22⟩, -, X22, ⟨Lc22, hQ22, l22, y22, z22⟩, st22⟩ := X19.specialBack hx (y := (⟨"java/lang/String", "<init>", "([C)V"⟩ : MethodName)) rfl hown (mvT hZ (tw hw 46 rfl)) (mvT hZ (tw hw 47 rfl)) (mvT hZ (tw hw 48 rfl)) (by decide) (backOf (W := 1) (rm8 l Z a0 hw [] b19 b7 k7 (nar .char x40_11) (nar .char x50_15) ((.int (0 : Int32))) .null z_COMP0 h19 n0 Zc20 c24 F19_coder F19_value c23 hr57_hr6_hq30 hp57_25 hp57_26 A19 g_b19) hZ (tw hw 48 rfl) (tw hw 45 rfl) (by decide) (by decide)) (g := (mkF m 57 L10 [(.ref b7), (.ref b19), (.ref b19)])) rfl (szAt hml hL10 rfl) (Steps.refl _) (a := b19) (argsL := [(.ref b7)]) (rest := [(.ref b19)]) (lenOf pd_7k2_0 rfl) rfl (by show 2 * 0 + _ ≤ _; exact Nat.le_of_eq rfl) (hb hby d7_57) (fun _ _ => ⟨rfl, e19, (by decide : 2 + 1 ≤ _), (by decide : 6 + 2 ≤ _)⟩)
  dsimp only [Pt.U, Pt.locs, Pt.cells, Pt.slots] at X22 l22 y22 z22 st22 hQ22
  subst l22 y22 z22
  obtain ⟨b22_t0, k22_kx_t0, rfl, N22q, Kc22, fq22_0, fq22_1, fq22_2, fq22_3, fq22_4, fq22_5⟩ := hQ22
  have g_b22_t0 : n0 ≤ b22_t0 := Nat.le_trans Zc20 fq22_0
  have sz_b22_t0 : h0.size ≤ b22_t0 := Nat.le_trans K21.1 fq22_0
  have lt_b22_t0 := fq22_4.lt
  have Zc27 : n0 ≤ T22.heap.size := Nat.le_trans Zc20 Kc22.1
  have K28 : Keep h0 T22.heap [] := K21.trans Kc22 (allS (Or.inr sz_b19) all0)
  have N22 := Fr.app N16 N22q
  refine Gl.st (B := (T22.setTop (mkF m 60 L10 [(.ref b19)]))) (fun t k => st22.trans k) ?_
  obtain ⟨fs, hr, hrun, hended, hW, hsame⟩ := X22.leave (v := some (.ref b19)) (fun h => by rw [Bd.returns] at h; cases h)
  refine Gl.fin (X22.areturnOut hx rfl Bd.returns rfl (hb hby d7_60) hr) hrun hended ⟨_, _, rfl, ?_, ⟨_, rfl⟩, hW, hsame.mono (by decide) (by decide)⟩
  show Q7k2 Z p1 p2 p3 z_COMP0 h0 n0 _ T22.heap _
  exact ⟨b19, b22_t0, k22_kx_t0, rfl, N22, K28, sz_b19, sz_b22_t0, fq22_1, fq22_2, fq22_3, fq22_4, (by subst hx40_11; subst hx50_15; exact fq22_5)⟩
theorem sn2 {Z : State} {a0 : Array Value} (hw : ∀ d ∈ tables_1, d.before a0 Z = true) : Jvm.RoadKit.slotOf Z "com/example/idem1/idem1/Line" "text" "Ljava/lang/String;" ≠ Jvm.RoadKit.slotOf Z "com/example/idem1/idem1/Line" "number" "J" := slot_ne (Or.inr (tw hw 20 rfl)) (Or.inr (tw hw 18 rfl)) (by decide) (t := (.object "java/lang/String")) (t' := .long) (by decide) (by decide)
theorem sn3 {Z : State} {a0 : Array Value} (hw : ∀ d ∈ tables_1, d.before a0 Z = true) : Jvm.RoadKit.slotOf Z "com/example/idem1/idem1/Line" "problem" "Lcom/example/idem1/idem1/Line$Problem;" ≠ Jvm.RoadKit.slotOf Z "com/example/idem1/idem1/Line" "number" "J" := slot_ne (Or.inr (tw hw 22 rfl)) (Or.inr (tw hw 18 rfl)) (by decide) (t := (.object "com/example/idem1/idem1/Line$Problem")) (t' := .long) (by decide) (by decide)
theorem sn4 {Z : State} {a0 : Array Value} (hw : ∀ d ∈ tables_1, d.before a0 Z = true) : Jvm.RoadKit.slotOf Z "com/example/idem1/idem1/Line" "problem" "Lcom/example/idem1/idem1/Line$Problem;" ≠ Jvm.RoadKit.slotOf Z "com/example/idem1/idem1/Line" "text" "Ljava/lang/String;" := slot_ne (Or.inr (tw hw 22 rfl)) (Or.inr (tw hw 20 rfl)) (by decide) (t := (.object "com/example/idem1/idem1/Line$Problem")) (t' := (.object "java/lang/String")) (by decide) (by decide)
theorem sn5 {Z : State} {a0 : Array Value} (hw : ∀ d ∈ tables_1, d.before a0 Z = true) : Jvm.RoadKit.slotOf Z "com/example/idem1/idem1/Line" "number" "J" ≠ Jvm.RoadKit.slotOf Z "com/example/idem1/idem1/Line" "text" "Ljava/lang/String;" := slot_ne (Or.inr (tw hw 18 rfl)) (Or.inr (tw hw 20 rfl)) (by decide) (t := .long) (t' := (.object "java/lang/String")) (by decide) (by decide)
theorem sn6 {Z : State} {a0 : Array Value} (hw : ∀ d ∈ tables_1, d.before a0 Z = true) : Jvm.RoadKit.slotOf Z "com/example/idem1/idem1/Line" "number" "J" ≠ Jvm.RoadKit.slotOf Z "com/example/idem1/idem1/Line" "problem" "Lcom/example/idem1/idem1/Line$Problem;" := slot_ne (Or.inr (tw hw 18 rfl)) (Or.inr (tw hw 22 rfl)) (by decide) (t := .long) (t' := (.object "com/example/idem1/idem1/Line$Problem")) (by decide) (by decide)
theorem sn7 {Z : State} {a0 : Array Value} (hw : ∀ d ∈ tables_1, d.before a0 Z = true) : Jvm.RoadKit.slotOf Z "com/example/idem1/idem1/Line" "text" "Ljava/lang/String;" ≠ Jvm.RoadKit.slotOf Z "com/example/idem1/idem1/Line" "problem" "Lcom/example/idem1/idem1/Line$Problem;" := slot_ne (Or.inr (tw hw 20 rfl)) (Or.inr (tw hw 22 rfl)) (by decide) (t := (.object "java/lang/String")) (t' := (.object "com/example/idem1/idem1/Line$Problem")) (by decide) (by decide)
theorem d1_0 : decode prog_17_method_1_code 0 = .ok (.aload_n 0, 1) := by decide +kernel
theorem d1_1 : decode prog_17_method_1_code 1 = .ok (.invokespecial 1, 3) := by decide +kernel
theorem d1_4 : decode prog_17_method_1_code 4 = .ok (.aload_n 3, 1) := by decide +kernel
theorem d1_5 : decode prog_17_method_1_code 5 = .ok (.ifnonnull 7, 3) := by decide +kernel
theorem d1_12 : decode prog_17_method_1_code 12 = .ok (.iconst 0, 1) := by decide +kernel
theorem d1_13 : decode prog_17_method_1_code 13 = .ok (.aload 4, 2) := by decide +kernel
theorem d1_15 : decode prog_17_method_1_code 15 = .ok (.ifnonnull 7, 3) := by decide +kernel
theorem d1_18 : decode prog_17_method_1_code 18 = .ok (.iconst 1, 1) := by decide +kernel
theorem d1_19 : decode prog_17_method_1_code 19 = .ok (.goto 4, 3) := by decide +kernel
theorem d1_23 : decode prog_17_method_1_code 23 = .ok (.if_icmp .ne 13, 3) := by decide +kernel
theorem d1_36 : decode prog_17_method_1_code 36 = .ok (.aload_n 0, 1) := by decide +kernel
theorem d1_37 : decode prog_17_method_1_code 37 = .ok (.lload_n 1, 1) := by decide +kernel
theorem d1_38 : decode prog_17_method_1_code 38 = .ok (.putfield 14, 3) := by decide +kernel
theorem d1_41 : decode prog_17_method_1_code 41 = .ok (.aload_n 0, 1) := by decide +kernel
theorem d1_42 : decode prog_17_method_1_code 42 = .ok (.aload_n 3, 1) := by decide +kernel
theorem d1_43 : decode prog_17_method_1_code 43 = .ok (.putfield 20, 3) := by decide +kernel
theorem d1_46 : decode prog_17_method_1_code 46 = .ok (.aload_n 0, 1) := by decide +kernel
theorem d1_47 : decode prog_17_method_1_code 47 = .ok (.aload 4, 2) := by decide +kernel
theorem d1_49 : decode prog_17_method_1_code 49 = .ok (.putfield 24, 3) := by decide +kernel
theorem d1_52 : decode prog_17_method_1_code 52 = .ok (.return_, 1) := by decide +kernel
theorem pn_1 : plainName "com/example/idem1/idem1/Line" = true := by first | (simp [plainName, overriddenIn]; done) | decide +kernel
theorem pd_1v_0 : parseMethodDescriptor "()V" = some ⟨[], none⟩ := by decide +kernel
theorem ef_1v (m : MethodId) (a1 : Addr) (q2 : Int64) (a3 : Addr) : entryFrame m #[(.ref a1), (.long q2), (.ref a3), .null] 5 = mkF m 0 #[.val (.ref a1), .val (.long q2), .second, .val (.ref a3), .val .null] [] := by first | (simp [entryFrame, mkF, argsToLocals, Value.category]; done) | rfl
def Q1v (Z : State) (a1 : Addr) (q2 : Int64) (a3 : Addr) (u_number_a1 : Value) (u_text_a1 : Value) (u_problem_a1 : Value) (h0 : Heap) (n0 : Nat) (v : Option Value) (h : Heap) (L : List Loc) : Prop := v = none ∧ Fr n0 L ∧ Keep h0 h [a1] ∧ Exa Z h a1 "com/example/idem1/idem1/Line" ∧ Fld Z h a1 "com/example/idem1/idem1/Line" "number" "J" (.long q2) ∧ Fld Z h a1 "com/example/idem1/idem1/Line" "text" "Ljava/lang/String;" (.ref a3) ∧ Fld Z h a1 "com/example/idem1/idem1/Line" "problem" "Lcom/example/idem1/idem1/Line$Problem;" .null
set_option maxRecDepth 65536 in
set_option maxHeartbeats 40000000 in
theorem rm1v (l : Launch) (Z : State) (a0 : Array Value) (hw : ∀ d ∈ tables_1, d.before a0 Z = true) (ws : List Jvm.Cond) (a1 : Addr) (q2 : Int64) (a3 : Addr) (u_number_a1 : Value) (u_text_a1 : Value) (u_problem_a1 : Value) (h0 : Heap) (n0 : Nat) (Z0 : n0 ≤ h0.size) (F_number_a1 : Fld Z h0 a1 "com/example/idem1/idem1/Line" "number" "J" u_number_a1) (F_text_a1 : Fld Z h0 a1 "com/example/idem1/idem1/Line" "text" "Ljava/lang/String;" u_text_a1) (F_problem_a1 : Fld Z h0 a1 "com/example/idem1/idem1/Line" "problem" "Lcom/example/idem1/idem1/Line$Problem;" u_problem_a1) (E_a1 : Exa Z h0 a1 "com/example/idem1/idem1/Line") (g_a1 : n0 ≤ a1) :
    MetFree l (⟨"com/example/idem1/idem1/Line", "<init>", "(JLjava/lang/String;Lcom/example/idem1/idem1/Line$Problem;)V"⟩ : MethodName) (head1 (Jvm.Cond.code (⟨"com/example/idem1/idem1/Line", "<init>", "(JLjava/lang/String;Lcom/example/idem1/idem1/Line$Problem;)V"⟩ : MethodName) prog_17_method_1_code 5 none :: ws) ({ frames := 2, cells := 0, slots := 0, locals := 24 } : Room)) (fun a U => a = #[(.ref a1), (.long q2), (.ref a3), .null] ∧ Z.Warmed39 U.vm ∧ U.heap = h0) (fun _ _ _ _ _ => True) (fun _ U o U' => ∃ v L, o = .returned v ∧ Q1v Z a1 q2 a3 u_number_a1 u_text_a1 u_problem_a1 h0 n0 v U'.heap L ∧ FrameEnd U o U' L ({ frames := 2, cells := 0, slots := 0, locals := 24 } : Room).cells ({ frames := 2, cells := 0, slots := 0, locals := 24 } : Room).slots) := by
  refine MetFree.of_bodySF (plainFor_of_name pn_1) hisR ?_
  intro p e s m args below meth c s₁ Bd hml0 hP hK
  obtain ⟨rfl, hZ, hh⟩ := hP
  have hx := Bd.exec
  have hby := Bd.bytes
  have hml : c.maxLocals = 5 := hml0
  have hown : s.vm.findClass "com/example/idem1/idem1/Line" = some m.cls := findClass_of_methodNamed Bd.named
  have hnm := (name_of_methodNamed Bd.named Bd.method).1
  have X0 : Stand p l e ({ frames := 2, cells := 0, slots := 0, locals := 24 } : Room) s m #[(.ref a1), (.long q2), (.ref a3), .null] below meth c s₁ [] 0 0 := Stand.of_body Bd
  have e0 : s₁.heap = h0 := by rw [← hh, Bd.state]; rfl
  have N0 := Fr.nil n0
  have K0 : Keep h0 h0 [a1] := Keep.refl h0 _
  refine (show Gl p e below (fun o U' => ∃ v L, o = .returned v ∧ Q1v Z a1 q2 a3 u_number_a1 u_text_a1 u_problem_a1 h0 n0 v U'.heap L ∧ FrameEnd s o U' L ({ frames := 2, cells := 0, slots := 0, locals := 24 } : Room).cells ({ frames := 2, cells := 0, slots := 0, locals := 24 } : Room).slots) (s₁.setTop (entryFrame m #[(.ref a1), (.long q2), (.ref a3), .null] 5)) from ?_)
  obtain ⟨L0, hL0⟩ : ∃ z : Array Slot, z = #[.val (.ref a1), .val (.long q2), .second, .val (.ref a3), .val .null] := ⟨_, rfl⟩
  refine Gl.st (B := (s₁.setTop (mkF m 0 L0 []))) (fun t k => castTop (efAt hL0 (ef_1v m a1 q2 a3)) k) ?_
  refine Gl.st (B := (s₁.setTop (mkF m 1 L0 [(.ref a1)]))) (fun t k => XS.aloadN X0.here hx rfl (hb hby d1_0) (ldAt hL0 rfl) rfl k) ?_
  obtain ⟨_, _, ⟨T1, L1q, k1, n1⟩, -, X1, ⟨Lc1, hQ1, l1, y1, z1⟩, st1⟩ := X0.specialBack hx (y := (⟨"java/lang/Record", "<init>", "()V"⟩ : MethodName)) rfl hown (mvT hZ (tw hw 9 rfl)) (mvT hZ (tw hw 10 rfl)) (mvT hZ (tw hw 13 rfl)) (by decide) (backOf (W := 0) (rm2 l Z a0 hw [] a1 h0 n0 Z0) hZ (tw hw 13 rfl) (tw hw 12 rfl) (by decide) (by decide)) (g := (mkF m 1 L0 [(.ref a1)])) rfl (szAt hml hL0 rfl) (Steps.refl _) (a := a1) (argsL := []) (rest := []) (lenOf pd_1v_0 rfl) rfl (by show 2 * 0 + _ ≤ _; exact Nat.le_of_eq rfl) (hb hby d1_1) (fun _ _ => ⟨rfl, e0, (by decide : 0 + 0 ≤ _), (by decide : 0 + 0 ≤ _)⟩)
  dsimp only [Pt.U, Pt.locs, Pt.cells, Pt.slots] at X1 l1 y1 z1 st1 hQ1
  subst l1 y1 z1
  obtain ⟨rfl, N1q, eh1⟩ := hQ1
  have N1 := Fr.app N0 N1q
  refine Gl.st (B := (T1.setTop (mkF m 4 L0 []))) (fun t k => st1.trans k) ?_
  refine Gl.st (B := (T1.setTop (mkF m 5 L0 [(.ref a3)]))) (fun t k => XS.aloadN X1.here hx rfl (hb hby d1_4) (ldAt hL0 rfl) rfl k) ?_
  refine Gl.st (B := (T1.setTop (mkF m 12 L0 []))) (fun t k => XS.ifnonnullYes X1.here hx rfl (pc0 := 5) (pc' := 12) rfl (hb hby d1_5) rfl (by decide) (by decide) k) ?_
  refine Gl.st (B := (T1.setTop (mkF m 13 L0 [(.int (0 : Int32))]))) (fun t k => XS.iconst X1.here hx rfl (hb hby d1_12) k) ?_
  refine Gl.st (B := (T1.setTop (mkF m 15 L0 [.null, (.int (0 : Int32))]))) (fun t k => XS.aload X1.here hx rfl (hb hby d1_13) (ldAt hL0 rfl) rfl k) ?_
  refine Gl.st (B := (T1.setTop (mkF m 18 L0 [(.int (0 : Int32))]))) (fun t k => XS.ifnonnullNo X1.here hx rfl (hb hby d1_15) rfl k) ?_
  refine Gl.st (B := (T1.setTop (mkF m 19 L0 [(.int (1 : Int32)), (.int (0 : Int32))]))) (fun t k => XS.iconst X1.here hx rfl (hb hby d1_18) k) ?_
  refine Gl.st (B := (T1.setTop (mkF m 23 L0 [(.int (1 : Int32)), (.int (0 : Int32))]))) (fun t k => XS.goto X1.here hx rfl (pc0 := 19) (pc' := 23) rfl (hb hby d1_19) (by decide) (by decide) k) ?_
  refine Gl.st (B := (T1.setTop (mkF m 36 L0 []))) (fun t k => XS.icmpYes X1.here hx rfl (pc0 := 23) (pc' := 36) rfl (hb hby d1_23) rfl (by decide) (by decide) (by decide) k) ?_
  refine Gl.st (B := (T1.setTop (mkF m 37 L0 [(.ref a1)]))) (fun t k => XS.aloadN X1.here hx rfl (hb hby d1_36) (ldAt hL0 rfl) rfl k) ?_
  refine Gl.st (B := (T1.setTop (mkF m 38 L0 [(.long q2), (.ref a1)]))) (fun t k => XS.lloadN X1.here hx rfl (hb hby d1_37) (ldAt hL0 rfl) k) ?_
  obtain ⟨T2, h2, X2, e2, W2, st2⟩ := putF X1 hx hZ hown (host := "") (Or.inl (tw hw 17 rfl)) Via.refl eh1 F_number_a1 E_a1 (Or.inr ⟨(tw hw 18 rfl), rfl, hnm⟩) (tw hw 4 rfl) (ty := .long) (by decide) rfl rfl (g := (mkF m 38 L0 [(.long q2), (.ref a1)])) rfl rfl (hb hby d1_38)
  have Fw2 := F_number_a1.same W2
  have Zc3 : n0 ≤ h2.size := Nat.le_trans Z0 (Nat.le_of_eq W2.size.symm)
  have K4 : Keep h0 h2 [a1] := K0.wr W2 (Or.inl (List.mem_of_getElem? (i := 0) rfl))
  have N2 := Fr.snoc X2 N1 g_a1
  refine Gl.st (B := (T2.setTop (mkF m 41 L0 []))) st2 ?_
  refine Gl.st (B := (T2.setTop (mkF m 42 L0 [(.ref a1)]))) (fun t k => XS.aloadN X2.here hx rfl (hb hby d1_41) (ldAt hL0 rfl) rfl k) ?_
  refine Gl.st (B := (T2.setTop (mkF m 43 L0 [(.ref a3), (.ref a1)]))) (fun t k => XS.aloadN X2.here hx rfl (hb hby d1_42) (ldAt hL0 rfl) rfl k) ?_
  have c5 := (E_a1.wr W2)
  have c6 := (F_text_a1.other W2 (Or.inr (sn2 hw)))
  obtain ⟨T7, h7, X7, e7, W7, st7⟩ := putF X2 hx hZ hown (host := "") (Or.inl (tw hw 19 rfl)) Via.refl e2 c6 c5 (Or.inr ⟨(tw hw 20 rfl), rfl, hnm⟩) (tw hw 4 rfl) (ty := (.object "java/lang/String")) (by decide) rfl rfl (g := (mkF m 43 L0 [(.ref a3), (.ref a1)])) rfl rfl (hb hby d1_43)
  have Fw7 := c6.same W7
  have Zc8 : n0 ≤ h7.size := Nat.le_trans Zc3 (Nat.le_of_eq W7.size.symm)
  have K9 : Keep h0 h7 [a1] := K4.wr W7 (Or.inl (List.mem_of_getElem? (i := 0) rfl))
  have N7 := Fr.snoc X7 N2 g_a1
  refine Gl.st (B := (T7.setTop (mkF m 46 L0 []))) st7 ?_
  refine Gl.st (B := (T7.setTop (mkF m 47 L0 [(.ref a1)]))) (fun t k => XS.aloadN X7.here hx rfl (hb hby d1_46) (ldAt hL0 rfl) rfl k) ?_
  refine Gl.st (B := (T7.setTop (mkF m 49 L0 [.null, (.ref a1)]))) (fun t k => XS.aload X7.here hx rfl (hb hby d1_47) (ldAt hL0 rfl) rfl k) ?_
  have c10 := (c5.wr W7)
  have c11 := ((F_problem_a1.other W2 (Or.inr (sn3 hw))).other W7 (Or.inr (sn4 hw)))
  obtain ⟨T12, h12, X12, e12, W12, st12⟩ := putF X7 hx hZ hown (host := "") (Or.inl (tw hw 21 rfl)) Via.refl e7 c11 c10 (Or.inr ⟨(tw hw 22 rfl), rfl, hnm⟩) (tw hw 4 rfl) (ty := (.object "com/example/idem1/idem1/Line$Problem")) (by decide) rfl rfl (g := (mkF m 49 L0 [.null, (.ref a1)])) rfl rfl (hb hby d1_49)
  have Fw12 := c11.same W12
  have Zc13 : n0 ≤ h12.size := Nat.le_trans Zc8 (Nat.le_of_eq W12.size.symm)
  have K14 : Keep h0 h12 [a1] := K9.wr W12 (Or.inl (List.mem_of_getElem? (i := 0) rfl))
  have N12 := Fr.snoc X12 N7 g_a1
  refine Gl.st (B := (T12.setTop (mkF m 52 L0 []))) st12 ?_
  obtain ⟨fs, hr, hrun, hended, hW, hsame⟩ := X12.leave (v := none) (fun _ => rfl)
  refine Gl.fin (X12.returnOut hx Bd.returns (hb hby d1_52) hr) hrun hended ⟨_, _, rfl, ?_, ⟨_, rfl⟩, hW, hsame.mono (by decide) (by decide)⟩
  show Q1v Z a1 q2 a3 u_number_a1 u_text_a1 u_problem_a1 h0 n0 _ T12.heap _
  rw [e12]
  have c15 := (c10.wr W12)
  have c16 := ((Fw2.other W7 (Or.inr (sn5 hw))).other W12 (Or.inr (sn6 hw)))
  have c17 := (Fw7.other W12 (Or.inr (sn7 hw)))
  exact ⟨rfl, N12, K14, c15, c16, c17, Fw12⟩
theorem d1_8 : decode prog_17_method_1_code 8 = .ok (.iconst 1, 1) := by decide +kernel
theorem d1_9 : decode prog_17_method_1_code 9 = .ok (.goto 4, 3) := by decide +kernel
theorem d1_22 : decode prog_17_method_1_code 22 = .ok (.iconst 0, 1) := by decide +kernel
theorem pd_1p_0 : parseMethodDescriptor "()V" = some ⟨[], none⟩ := by decide +kernel
theorem ef_1p (m : MethodId) (a1 : Addr) (q2 : Int64) (a4 : Addr) : entryFrame m #[(.ref a1), (.long q2), .null, (.ref a4)] 5 = mkF m 0 #[.val (.ref a1), .val (.long q2), .second, .val .null, .val (.ref a4)] [] := by first | (simp [entryFrame, mkF, argsToLocals, Value.category]; done) | rfl
def Q1p (Z : State) (a1 : Addr) (q2 : Int64) (a4 : Addr) (u_number_a1 : Value) (u_text_a1 : Value) (u_problem_a1 : Value) (h0 : Heap) (n0 : Nat) (v : Option Value) (h : Heap) (L : List Loc) : Prop := v = none ∧ Fr n0 L ∧ Keep h0 h [a1] ∧ Exa Z h a1 "com/example/idem1/idem1/Line" ∧ Fld Z h a1 "com/example/idem1/idem1/Line" "number" "J" (.long q2) ∧ Fld Z h a1 "com/example/idem1/idem1/Line" "text" "Ljava/lang/String;" .null ∧ Fld Z h a1 "com/example/idem1/idem1/Line" "problem" "Lcom/example/idem1/idem1/Line$Problem;" (.ref a4)
set_option maxRecDepth 65536 in
set_option maxHeartbeats 40000000 in
theorem rm1p (l : Launch) (Z : State) (a0 : Array Value) (hw : ∀ d ∈ tables_1, d.before a0 Z = true) (ws : List Jvm.Cond) (a1 : Addr) (q2 : Int64) (a4 : Addr) (u_number_a1 : Value) (u_text_a1 : Value) (u_problem_a1 : Value) (h0 : Heap) (n0 : Nat) (Z0 : n0 ≤ h0.size) (F_number_a1 : Fld Z h0 a1 "com/example/idem1/idem1/Line" "number" "J" u_number_a1) (F_text_a1 : Fld Z h0 a1 "com/example/idem1/idem1/Line" "text" "Ljava/lang/String;" u_text_a1) (F_problem_a1 : Fld Z h0 a1 "com/example/idem1/idem1/Line" "problem" "Lcom/example/idem1/idem1/Line$Problem;" u_problem_a1) (E_a1 : Exa Z h0 a1 "com/example/idem1/idem1/Line") (g_a1 : n0 ≤ a1) :
    MetFree l (⟨"com/example/idem1/idem1/Line", "<init>", "(JLjava/lang/String;Lcom/example/idem1/idem1/Line$Problem;)V"⟩ : MethodName) (head1 (Jvm.Cond.code (⟨"com/example/idem1/idem1/Line", "<init>", "(JLjava/lang/String;Lcom/example/idem1/idem1/Line$Problem;)V"⟩ : MethodName) prog_17_method_1_code 5 none :: ws) ({ frames := 2, cells := 0, slots := 0, locals := 24 } : Room)) (fun a U => a = #[(.ref a1), (.long q2), .null, (.ref a4)] ∧ Z.Warmed39 U.vm ∧ U.heap = h0) (fun _ _ _ _ _ => True) (fun _ U o U' => ∃ v L, o = .returned v ∧ Q1p Z a1 q2 a4 u_number_a1 u_text_a1 u_problem_a1 h0 n0 v U'.heap L ∧ FrameEnd U o U' L ({ frames := 2, cells := 0, slots := 0, locals := 24 } : Room).cells ({ frames := 2, cells := 0, slots := 0, locals := 24 } : Room).slots) := by
  refine MetFree.of_bodySF (plainFor_of_name pn_1) hisR ?_
  intro p e s m args below meth c s₁ Bd hml0 hP hK
  obtain ⟨rfl, hZ, hh⟩ := hP
  have hx := Bd.exec
  have hby := Bd.bytes
  have hml : c.maxLocals = 5 := hml0
  have hown : s.vm.findClass "com/example/idem1/idem1/Line" = some m.cls := findClass_of_methodNamed Bd.named
  have hnm := (name_of_methodNamed Bd.named Bd.method).1
  have X0 : Stand p l e ({ frames := 2, cells := 0, slots := 0, locals := 24 } : Room) s m #[(.ref a1), (.long q2), .null, (.ref a4)] below meth c s₁ [] 0 0 := Stand.of_body Bd
  have e0 : s₁.heap = h0 := by rw [← hh, Bd.state]; rfl
  have N0 := Fr.nil n0
  have K0 : Keep h0 h0 [a1] := Keep.refl h0 _
  refine (show Gl p e below (fun o U' => ∃ v L, o = .returned v ∧ Q1p Z a1 q2 a4 u_number_a1 u_text_a1 u_problem_a1 h0 n0 v U'.heap L ∧ FrameEnd s o U' L ({ frames := 2, cells := 0, slots := 0, locals := 24 } : Room).cells ({ frames := 2, cells := 0, slots := 0, locals := 24 } : Room).slots) (s₁.setTop (entryFrame m #[(.ref a1), (.long q2), .null, (.ref a4)] 5)) from ?_)
  obtain ⟨L0, hL0⟩ : ∃ z : Array Slot, z = #[.val (.ref a1), .val (.long q2), .second, .val .null, .val (.ref a4)] := ⟨_, rfl⟩
  refine Gl.st (B := (s₁.setTop (mkF m 0 L0 []))) (fun t k => castTop (efAt hL0 (ef_1p m a1 q2 a4)) k) ?_
  refine Gl.st (B := (s₁.setTop (mkF m 1 L0 [(.ref a1)]))) (fun t k => XS.aloadN X0.here hx rfl (hb hby d1_0) (ldAt hL0 rfl) rfl k) ?_
  obtain ⟨_, _, ⟨T1, L1q, k1, n1⟩, -, X1, ⟨Lc1, hQ1, l1, y1, z1⟩, st1⟩ := X0.specialBack hx (y := (⟨"java/lang/Record", "<init>", "()V"⟩ : MethodName)) rfl hown (mvT hZ (tw hw 9 rfl)) (mvT hZ (tw hw 10 rfl)) (mvT hZ (tw hw 13 rfl)) (by decide) (backOf (W := 0) (rm2 l Z a0 hw [] a1 h0 n0 Z0) hZ (tw hw 13 rfl) (tw hw 12 rfl) (by decide) (by decide)) (g := (mkF m 1 L0 [(.ref a1)])) rfl (szAt hml hL0 rfl) (Steps.refl _) (a := a1) (argsL := []) (rest := []) (lenOf pd_1p_0 rfl) rfl (by show 2 * 0 + _ ≤ _; exact Nat.le_of_eq rfl) (hb hby d1_1) (fun _ _ => ⟨rfl, e0, (by decide : 0 + 0 ≤ _), (by decide : 0 + 0 ≤ _)⟩)
  dsimp only [Pt.U, Pt.locs, Pt.cells, Pt.slots] at X1 l1 y1 z1 st1 hQ1
  subst l1 y1 z1
  obtain ⟨rfl, N1q, eh1⟩ := hQ1
  have N1 := Fr.app N0 N1q
  refine Gl.st (B := (T1.setTop (mkF m 4 L0 []))) (fun t k => st1.trans k) ?_
  refine Gl.st (B := (T1.setTop (mkF m 5 L0 [.null]))) (fun t k => XS.aloadN X1.here hx rfl (hb hby d1_4) (ldAt hL0 rfl) rfl k) ?_
  refine Gl.st (B := (T1.setTop (mkF m 8 L0 []))) (fun t k => XS.ifnonnullNo X1.here hx rfl (hb hby d1_5) rfl k) ?_
  refine Gl.st (B := (T1.setTop (mkF m 9 L0 [(.int (1 : Int32))]))) (fun t k => XS.iconst X1.here hx rfl (hb hby d1_8) k) ?_
  refine Gl.st (B := (T1.setTop (mkF m 13 L0 [(.int (1 : Int32))]))) (fun t k => XS.goto X1.here hx rfl (pc0 := 9) (pc' := 13) rfl (hb hby d1_9) (by decide) (by decide) k) ?_
  refine Gl.st (B := (T1.setTop (mkF m 15 L0 [(.ref a4), (.int (1 : Int32))]))) (fun t k => XS.aload X1.here hx rfl (hb hby d1_13) (ldAt hL0 rfl) rfl k) ?_
  refine Gl.st (B := (T1.setTop (mkF m 22 L0 [(.int (1 : Int32))]))) (fun t k => XS.ifnonnullYes X1.here hx rfl (pc0 := 15) (pc' := 22) rfl (hb hby d1_15) rfl (by decide) (by decide) k) ?_
  refine Gl.st (B := (T1.setTop (mkF m 23 L0 [(.int (0 : Int32)), (.int (1 : Int32))]))) (fun t k => XS.iconst X1.here hx rfl (hb hby d1_22) k) ?_
  refine Gl.st (B := (T1.setTop (mkF m 36 L0 []))) (fun t k => XS.icmpYes X1.here hx rfl (pc0 := 23) (pc' := 36) rfl (hb hby d1_23) rfl (by decide) (by decide) (by decide) k) ?_
  refine Gl.st (B := (T1.setTop (mkF m 37 L0 [(.ref a1)]))) (fun t k => XS.aloadN X1.here hx rfl (hb hby d1_36) (ldAt hL0 rfl) rfl k) ?_
  refine Gl.st (B := (T1.setTop (mkF m 38 L0 [(.long q2), (.ref a1)]))) (fun t k => XS.lloadN X1.here hx rfl (hb hby d1_37) (ldAt hL0 rfl) k) ?_
  obtain ⟨T2, h2, X2, e2, W2, st2⟩ := putF X1 hx hZ hown (host := "") (Or.inl (tw hw 17 rfl)) Via.refl eh1 F_number_a1 E_a1 (Or.inr ⟨(tw hw 18 rfl), rfl, hnm⟩) (tw hw 4 rfl) (ty := .long) (by decide) rfl rfl (g := (mkF m 38 L0 [(.long q2), (.ref a1)])) rfl rfl (hb hby d1_38)
  have Fw2 := F_number_a1.same W2
  have Zc3 : n0 ≤ h2.size := Nat.le_trans Z0 (Nat.le_of_eq W2.size.symm)
  have K4 : Keep h0 h2 [a1] := K0.wr W2 (Or.inl (List.mem_of_getElem? (i := 0) rfl))
  have N2 := Fr.snoc X2 N1 g_a1
  refine Gl.st (B := (T2.setTop (mkF m 41 L0 []))) st2 ?_
  refine Gl.st (B := (T2.setTop (mkF m 42 L0 [(.ref a1)]))) (fun t k => XS.aloadN X2.here hx rfl (hb hby d1_41) (ldAt hL0 rfl) rfl k) ?_
  refine Gl.st (B := (T2.setTop (mkF m 43 L0 [.null, (.ref a1)]))) (fun t k => XS.aloadN X2.here hx rfl (hb hby d1_42) (ldAt hL0 rfl) rfl k) ?_
  have c5 := (E_a1.wr W2)
  have c6 := (F_text_a1.other W2 (Or.inr (sn2 hw)))
  obtain ⟨T7, h7, X7, e7, W7, st7⟩ := putF X2 hx hZ hown (host := "") (Or.inl (tw hw 19 rfl)) Via.refl e2 c6 c5 (Or.inr ⟨(tw hw 20 rfl), rfl, hnm⟩) (tw hw 4 rfl) (ty := (.object "java/lang/String")) (by decide) rfl rfl (g := (mkF m 43 L0 [.null, (.ref a1)])) rfl rfl (hb hby d1_43)
  have Fw7 := c6.same W7
  have Zc8 : n0 ≤ h7.size := Nat.le_trans Zc3 (Nat.le_of_eq W7.size.symm)
  have K9 : Keep h0 h7 [a1] := K4.wr W7 (Or.inl (List.mem_of_getElem? (i := 0) rfl))
  have N7 := Fr.snoc X7 N2 g_a1
  refine Gl.st (B := (T7.setTop (mkF m 46 L0 []))) st7 ?_
  refine Gl.st (B := (T7.setTop (mkF m 47 L0 [(.ref a1)]))) (fun t k => XS.aloadN X7.here hx rfl (hb hby d1_46) (ldAt hL0 rfl) rfl k) ?_
  refine Gl.st (B := (T7.setTop (mkF m 49 L0 [(.ref a4), (.ref a1)]))) (fun t k => XS.aload X7.here hx rfl (hb hby d1_47) (ldAt hL0 rfl) rfl k) ?_
  have c10 := (c5.wr W7)
  have c11 := ((F_problem_a1.other W2 (Or.inr (sn3 hw))).other W7 (Or.inr (sn4 hw)))
  obtain ⟨T12, h12, X12, e12, W12, st12⟩ := putF X7 hx hZ hown (host := "") (Or.inl (tw hw 21 rfl)) Via.refl e7 c11 c10 (Or.inr ⟨(tw hw 22 rfl), rfl, hnm⟩) (tw hw 4 rfl) (ty := (.object "com/example/idem1/idem1/Line$Problem")) (by decide) rfl rfl (g := (mkF m 49 L0 [(.ref a4), (.ref a1)])) rfl rfl (hb hby d1_49)
  have Fw12 := c11.same W12
  have Zc13 : n0 ≤ h12.size := Nat.le_trans Zc8 (Nat.le_of_eq W12.size.symm)
  have K14 : Keep h0 h12 [a1] := K9.wr W12 (Or.inl (List.mem_of_getElem? (i := 0) rfl))
  have N12 := Fr.snoc X12 N7 g_a1
  refine Gl.st (B := (T12.setTop (mkF m 52 L0 []))) st12 ?_
  obtain ⟨fs, hr, hrun, hended, hW, hsame⟩ := X12.leave (v := none) (fun _ => rfl)
  refine Gl.fin (X12.returnOut hx Bd.returns (hb hby d1_52) hr) hrun hended ⟨_, _, rfl, ?_, ⟨_, rfl⟩, hW, hsame.mono (by decide) (by decide)⟩
  show Q1p Z a1 q2 a4 u_number_a1 u_text_a1 u_problem_a1 h0 n0 _ T12.heap _
  rw [e12]
  have c15 := (c10.wr W12)
  have c16 := ((Fw2.other W7 (Or.inr (sn5 hw))).other W12 (Or.inr (sn6 hw)))
  have c17 := (Fw7.other W12 (Or.inr (sn7 hw)))
  exact ⟨rfl, N12, K14, c15, c16, c17, Fw12⟩
theorem d4_0 : decode prog_17_method_4_code 0 = .ok (.aload_n 0, 1) := by decide +kernel
theorem d4_1 : decode prog_17_method_4_code 1 = .ok (.getfield 24, 3) := by decide +kernel
theorem d4_4 : decode prog_17_method_4_code 4 = .ok (.ifnonnull 7, 3) := by decide +kernel
theorem d4_7 : decode prog_17_method_4_code 7 = .ok (.iconst 1, 1) := by decide +kernel
theorem d4_8 : decode prog_17_method_4_code 8 = .ok (.goto 4, 3) := by decide +kernel
theorem d4_12 : decode prog_17_method_4_code 12 = .ok (.ireturn, 1) := by decide +kernel
theorem pn_4 : plainName "com/example/idem1/idem1/Line" = true := by first | (simp [plainName, overriddenIn]; done) | decide +kernel
theorem ef_4v (m : MethodId) (a1 : Addr) : entryFrame m #[(.ref a1)] 1 = mkF m 0 #[.val (.ref a1)] [] := by first | (simp [entryFrame, mkF, argsToLocals, Value.category]; done) | rfl
def Q4v (Z : State) (a1 : Addr) (h0 : Heap) (n0 : Nat) (v : Option Value) (h : Heap) (L : List Loc) : Prop := v = some (.int (1 : Int32)) ∧ Fr n0 L ∧ h = h0
set_option maxRecDepth 65536 in
set_option maxHeartbeats 40000000 in
theorem rm4v (l : Launch) (Z : State) (a0 : Array Value) (hw : ∀ d ∈ tables_1, d.before a0 Z = true) (ws : List Jvm.Cond) (a1 : Addr) (h0 : Heap) (n0 : Nat) (Z0 : n0 ≤ h0.size) (F_problem_a1 : Fld Z h0 a1 "com/example/idem1/idem1/Line" "problem" "Lcom/example/idem1/idem1/Line$Problem;" .null) :
    MetFree l (⟨"com/example/idem1/idem1/Line", "isValid", "()Z"⟩ : MethodName) (head1 (Jvm.Cond.code (⟨"com/example/idem1/idem1/Line", "isValid", "()Z"⟩ : MethodName) prog_17_method_4_code 1 (some .boolean) :: ws) ({ frames := 0, cells := 0, slots := 0, locals := 0 } : Room)) (fun a U => a = #[(.ref a1)] ∧ Z.Warmed39 U.vm ∧ U.heap = h0) (fun _ _ _ _ _ => True) (fun _ U o U' => ∃ v L, o = .returned v ∧ Q4v Z a1 h0 n0 v U'.heap L ∧ FrameEnd U o U' L ({ frames := 0, cells := 0, slots := 0, locals := 0 } : Room).cells ({ frames := 0, cells := 0, slots := 0, locals := 0 } : Room).slots) := by
  refine MetFree.of_bodySF (plainFor_of_name pn_4) hisR ?_
  intro p e s m args below meth c s₁ Bd hml0 hP hK
  obtain ⟨rfl, hZ, hh⟩ := hP
  have hx := Bd.exec
  have hby := Bd.bytes
  have hml : c.maxLocals = 1 := hml0
  have hown : s.vm.findClass "com/example/idem1/idem1/Line" = some m.cls := findClass_of_methodNamed Bd.named
  have hnm := (name_of_methodNamed Bd.named Bd.method).1
  have X0 : Stand p l e ({ frames := 0, cells := 0, slots := 0, locals := 0 } : Room) s m #[(.ref a1)] below meth c s₁ [] 0 0 := Stand.of_body Bd
  have e0 : s₁.heap = h0 := by rw [← hh, Bd.state]; rfl
  have N0 := Fr.nil n0
  have K0 : Keep h0 h0 [] := Keep.refl h0 _
  refine (show Gl p e below (fun o U' => ∃ v L, o = .returned v ∧ Q4v Z a1 h0 n0 v U'.heap L ∧ FrameEnd s o U' L ({ frames := 0, cells := 0, slots := 0, locals := 0 } : Room).cells ({ frames := 0, cells := 0, slots := 0, locals := 0 } : Room).slots) (s₁.setTop (entryFrame m #[(.ref a1)] 1)) from ?_)
  obtain ⟨L0, hL0⟩ : ∃ z : Array Slot, z = #[.val (.ref a1)] := ⟨_, rfl⟩
  refine Gl.st (B := (s₁.setTop (mkF m 0 L0 []))) (fun t k => castTop (efAt hL0 (ef_4v m a1)) k) ?_
  refine Gl.st (B := (s₁.setTop (mkF m 1 L0 [(.ref a1)]))) (fun t k => XS.aloadN X0.here hx rfl (hb hby d4_0) (ldAt hL0 rfl) rfl k) ?_
  obtain ⟨T1, X1, e1, st1⟩ := getF X0 hx hZ hown (host := "") (Or.inl (tw hw 21 rfl)) Via.refl e0 F_problem_a1 (g := (mkF m 1 L0 [(.ref a1)])) rfl rfl (hb hby d4_1)
  refine Gl.st (B := (T1.setTop (mkF m 4 L0 [.null]))) st1 ?_
  refine Gl.st (B := (T1.setTop (mkF m 7 L0 []))) (fun t k => XS.ifnonnullNo X1.here hx rfl (hb hby d4_4) rfl k) ?_
  refine Gl.st (B := (T1.setTop (mkF m 8 L0 [(.int (1 : Int32))]))) (fun t k => XS.iconst X1.here hx rfl (hb hby d4_7) k) ?_
  refine Gl.st (B := (T1.setTop (mkF m 12 L0 [(.int (1 : Int32))]))) (fun t k => XS.goto X1.here hx rfl (pc0 := 8) (pc' := 12) rfl (hb hby d4_8) (by decide) (by decide) k) ?_
  obtain ⟨fs, hr, hrun, hended, hW, hsame⟩ := X1.leave (v := some (.int (nar .boolean (1 : Int32)))) (fun h => by rw [Bd.returns] at h; cases h)
  refine Gl.fin (retN X1 hx (t := .boolean) Bd.returns (by simp) (hb hby d4_12) hr) hrun hended ⟨_, _, rfl, ?_, ⟨_, rfl⟩, hW, hsame.mono (by decide) (by decide)⟩
  show Q4v Z a1 h0 n0 _ T1.heap _
  rw [e1]
  exact ⟨rfl, N0, rfl⟩
theorem d4_11 : decode prog_17_method_4_code 11 = .ok (.iconst 0, 1) := by decide +kernel
theorem ef_4p (m : MethodId) (a1 : Addr) : entryFrame m #[(.ref a1)] 1 = mkF m 0 #[.val (.ref a1)] [] := by first | (simp [entryFrame, mkF, argsToLocals, Value.category]; done) | rfl
def Q4p (Z : State) (a1 : Addr) (w_problem_a1 : Addr) (h0 : Heap) (n0 : Nat) (v : Option Value) (h : Heap) (L : List Loc) : Prop := v = some (.int (0 : Int32)) ∧ Fr n0 L ∧ h = h0
set_option maxRecDepth 65536 in
set_option maxHeartbeats 40000000 in
theorem rm4p (l : Launch) (Z : State) (a0 : Array Value) (hw : ∀ d ∈ tables_1, d.before a0 Z = true) (ws : List Jvm.Cond) (a1 : Addr) (w_problem_a1 : Addr) (h0 : Heap) (n0 : Nat) (Z0 : n0 ≤ h0.size) (F_problem_a1 : Fld Z h0 a1 "com/example/idem1/idem1/Line" "problem" "Lcom/example/idem1/idem1/Line$Problem;" (.ref w_problem_a1)) :
    MetFree l (⟨"com/example/idem1/idem1/Line", "isValid", "()Z"⟩ : MethodName) (head1 (Jvm.Cond.code (⟨"com/example/idem1/idem1/Line", "isValid", "()Z"⟩ : MethodName) prog_17_method_4_code 1 (some .boolean) :: ws) ({ frames := 0, cells := 0, slots := 0, locals := 0 } : Room)) (fun a U => a = #[(.ref a1)] ∧ Z.Warmed39 U.vm ∧ U.heap = h0) (fun _ _ _ _ _ => True) (fun _ U o U' => ∃ v L, o = .returned v ∧ Q4p Z a1 w_problem_a1 h0 n0 v U'.heap L ∧ FrameEnd U o U' L ({ frames := 0, cells := 0, slots := 0, locals := 0 } : Room).cells ({ frames := 0, cells := 0, slots := 0, locals := 0 } : Room).slots) := by
  refine MetFree.of_bodySF (plainFor_of_name pn_4) hisR ?_
  intro p e s m args below meth c s₁ Bd hml0 hP hK
  obtain ⟨rfl, hZ, hh⟩ := hP
  have hx := Bd.exec
  have hby := Bd.bytes
  have hml : c.maxLocals = 1 := hml0
  have hown : s.vm.findClass "com/example/idem1/idem1/Line" = some m.cls := findClass_of_methodNamed Bd.named
  have hnm := (name_of_methodNamed Bd.named Bd.method).1
  have X0 : Stand p l e ({ frames := 0, cells := 0, slots := 0, locals := 0 } : Room) s m #[(.ref a1)] below meth c s₁ [] 0 0 := Stand.of_body Bd
  have e0 : s₁.heap = h0 := by rw [← hh, Bd.state]; rfl
  have N0 := Fr.nil n0
  have K0 : Keep h0 h0 [] := Keep.refl h0 _
  refine (show Gl p e below (fun o U' => ∃ v L, o = .returned v ∧ Q4p Z a1 w_problem_a1 h0 n0 v U'.heap L ∧ FrameEnd s o U' L ({ frames := 0, cells := 0, slots := 0, locals := 0 } : Room).cells ({ frames := 0, cells := 0, slots := 0, locals := 0 } : Room).slots) (s₁.setTop (entryFrame m #[(.ref a1)] 1)) from ?_)
  obtain ⟨L0, hL0⟩ : ∃ z : Array Slot, z = #[.val (.ref a1)] := ⟨_, rfl⟩
  refine Gl.st (B := (s₁.setTop (mkF m 0 L0 []))) (fun t k => castTop (efAt hL0 (ef_4p m a1)) k) ?_
  refine Gl.st (B := (s₁.setTop (mkF m 1 L0 [(.ref a1)]))) (fun t k => XS.aloadN X0.here hx rfl (hb hby d4_0) (ldAt hL0 rfl) rfl k) ?_
  obtain ⟨T1, X1, e1, st1⟩ := getF X0 hx hZ hown (host := "") (Or.inl (tw hw 21 rfl)) Via.refl e0 F_problem_a1 (g := (mkF m 1 L0 [(.ref a1)])) rfl rfl (hb hby d4_1)
  refine Gl.st (B := (T1.setTop (mkF m 4 L0 [(.ref w_problem_a1)]))) st1 ?_
  refine Gl.st (B := (T1.setTop (mkF m 11 L0 []))) (fun t k => XS.ifnonnullYes X1.here hx rfl (pc0 := 4) (pc' := 11) rfl (hb hby d4_4) rfl (by decide) (by decide) k) ?_
  refine Gl.st (B := (T1.setTop (mkF m 12 L0 [(.int (0 : Int32))]))) (fun t k => XS.iconst X1.here hx rfl (hb hby d4_11) k) ?_
  obtain ⟨fs, hr, hrun, hended, hW, hsame⟩ := X1.leave (v := some (.int (nar .boolean (0 : Int32)))) (fun h => by rw [Bd.returns] at h; cases h)
  refine Gl.fin (retN X1 hx (t := .boolean) Bd.returns (by simp) (hb hby d4_12) hr) hrun hended ⟨_, _, rfl, ?_, ⟨_, rfl⟩, hW, hsame.mono (by decide) (by decide)⟩
  show Q4p Z a1 w_problem_a1 h0 n0 _ T1.heap _
  rw [e1]
  exact ⟨rfl, N0, rfl⟩
theorem d5_0 : decode prog_17_method_9_code 0 = .ok (.aload_n 0, 1) := by decide +kernel
theorem d5_1 : decode prog_17_method_9_code 1 = .ok (.getfield 20, 3) := by decide +kernel
theorem d5_4 : decode prog_17_method_9_code 4 = .ok (.areturn, 1) := by decide +kernel
theorem pn_5 : plainName "com/example/idem1/idem1/Line" = true := by first | (simp [plainName, overriddenIn]; done) | decide +kernel
theorem ef_5v (m : MethodId) (a1 : Addr) : entryFrame m #[(.ref a1)] 1 = mkF m 0 #[.val (.ref a1)] [] := by first | (simp [entryFrame, mkF, argsToLocals, Value.category]; done) | rfl
def Q5v (Z : State) (a1 : Addr) (w_text_a1 : Addr) (h0 : Heap) (n0 : Nat) (v : Option Value) (h : Heap) (L : List Loc) : Prop := v = some (.ref w_text_a1) ∧ Fr n0 L ∧ h = h0
set_option maxRecDepth 65536 in
set_option maxHeartbeats 40000000 in
theorem rm5v (l : Launch) (Z : State) (a0 : Array Value) (hw : ∀ d ∈ tables_1, d.before a0 Z = true) (ws : List Jvm.Cond) (a1 : Addr) (w_text_a1 : Addr) (h0 : Heap) (n0 : Nat) (Z0 : n0 ≤ h0.size) (F_text_a1 : Fld Z h0 a1 "com/example/idem1/idem1/Line" "text" "Ljava/lang/String;" (.ref w_text_a1)) :
    MetFree l (⟨"com/example/idem1/idem1/Line", "text", "()Ljava/lang/String;"⟩ : MethodName) (head1 (Jvm.Cond.code (⟨"com/example/idem1/idem1/Line", "text", "()Ljava/lang/String;"⟩ : MethodName) prog_17_method_9_code 1 (some (.object "java/lang/String")) :: ws) ({ frames := 0, cells := 0, slots := 0, locals := 0 } : Room)) (fun a U => a = #[(.ref a1)] ∧ Z.Warmed39 U.vm ∧ U.heap = h0) (fun _ _ _ _ _ => True) (fun _ U o U' => ∃ v L, o = .returned v ∧ Q5v Z a1 w_text_a1 h0 n0 v U'.heap L ∧ FrameEnd U o U' L ({ frames := 0, cells := 0, slots := 0, locals := 0 } : Room).cells ({ frames := 0, cells := 0, slots := 0, locals := 0 } : Room).slots) := by
  refine MetFree.of_bodySF (plainFor_of_name pn_5) hisR ?_
  intro p e s m args below meth c s₁ Bd hml0 hP hK
  obtain ⟨rfl, hZ, hh⟩ := hP
  have hx := Bd.exec
  have hby := Bd.bytes
  have hml : c.maxLocals = 1 := hml0
  have hown : s.vm.findClass "com/example/idem1/idem1/Line" = some m.cls := findClass_of_methodNamed Bd.named
  have hnm := (name_of_methodNamed Bd.named Bd.method).1
  have X0 : Stand p l e ({ frames := 0, cells := 0, slots := 0, locals := 0 } : Room) s m #[(.ref a1)] below meth c s₁ [] 0 0 := Stand.of_body Bd
  have e0 : s₁.heap = h0 := by rw [← hh, Bd.state]; rfl
  have N0 := Fr.nil n0
  have K0 : Keep h0 h0 [] := Keep.refl h0 _
  refine (show Gl p e below (fun o U' => ∃ v L, o = .returned v ∧ Q5v Z a1 w_text_a1 h0 n0 v U'.heap L ∧ FrameEnd s o U' L ({ frames := 0, cells := 0, slots := 0, locals := 0 } : Room).cells ({ frames := 0, cells := 0, slots := 0, locals := 0 } : Room).slots) (s₁.setTop (entryFrame m #[(.ref a1)] 1)) from ?_)
  obtain ⟨L0, hL0⟩ : ∃ z : Array Slot, z = #[.val (.ref a1)] := ⟨_, rfl⟩
  refine Gl.st (B := (s₁.setTop (mkF m 0 L0 []))) (fun t k => castTop (efAt hL0 (ef_5v m a1)) k) ?_
  refine Gl.st (B := (s₁.setTop (mkF m 1 L0 [(.ref a1)]))) (fun t k => XS.aloadN X0.here hx rfl (hb hby d5_0) (ldAt hL0 rfl) rfl k) ?_
  obtain ⟨T1, X1, e1, st1⟩ := getF X0 hx hZ hown (host := "") (Or.inl (tw hw 19 rfl)) Via.refl e0 F_text_a1 (g := (mkF m 1 L0 [(.ref a1)])) rfl rfl (hb hby d5_1)
  refine Gl.st (B := (T1.setTop (mkF m 4 L0 [(.ref w_text_a1)]))) st1 ?_
  obtain ⟨fs, hr, hrun, hended, hW, hsame⟩ := X1.leave (v := some (.ref w_text_a1)) (fun h => by rw [Bd.returns] at h; cases h)
  refine Gl.fin (X1.areturnOut hx rfl Bd.returns rfl (hb hby d5_4) hr) hrun hended ⟨_, _, rfl, ?_, ⟨_, rfl⟩, hW, hsame.mono (by decide) (by decide)⟩
  show Q5v Z a1 w_text_a1 h0 n0 _ T1.heap _
  rw [e1]
  exact ⟨rfl, N0, rfl⟩
theorem ef_5p (m : MethodId) (a1 : Addr) : entryFrame m #[(.ref a1)] 1 = mkF m 0 #[.val (.ref a1)] [] := by first | (simp [entryFrame, mkF, argsToLocals, Value.category]; done) | rfl
def Q5p (Z : State) (a1 : Addr) (h0 : Heap) (n0 : Nat) (v : Option Value) (h : Heap) (L : List Loc) : Prop := v = some .null ∧ Fr n0 L ∧ h = h0
set_option maxRecDepth 65536 in
set_option maxHeartbeats 40000000 in
theorem rm5p (l : Launch) (Z : State) (a0 : Array Value) (hw : ∀ d ∈ tables_1, d.before a0 Z = true) (ws : List Jvm.Cond) (a1 : Addr) (h0 : Heap) (n0 : Nat) (Z0 : n0 ≤ h0.size) (F_text_a1 : Fld Z h0 a1 "com/example/idem1/idem1/Line" "text" "Ljava/lang/String;" .null) :
    MetFree l (⟨"com/example/idem1/idem1/Line", "text", "()Ljava/lang/String;"⟩ : MethodName) (head1 (Jvm.Cond.code (⟨"com/example/idem1/idem1/Line", "text", "()Ljava/lang/String;"⟩ : MethodName) prog_17_method_9_code 1 (some (.object "java/lang/String")) :: ws) ({ frames := 0, cells := 0, slots := 0, locals := 0 } : Room)) (fun a U => a = #[(.ref a1)] ∧ Z.Warmed39 U.vm ∧ U.heap = h0) (fun _ _ _ _ _ => True) (fun _ U o U' => ∃ v L, o = .returned v ∧ Q5p Z a1 h0 n0 v U'.heap L ∧ FrameEnd U o U' L ({ frames := 0, cells := 0, slots := 0, locals := 0 } : Room).cells ({ frames := 0, cells := 0, slots := 0, locals := 0 } : Room).slots) := by
  refine MetFree.of_bodySF (plainFor_of_name pn_5) hisR ?_
  intro p e s m args below meth c s₁ Bd hml0 hP hK
  obtain ⟨rfl, hZ, hh⟩ := hP
  have hx := Bd.exec
  have hby := Bd.bytes
  have hml : c.maxLocals = 1 := hml0
  have hown : s.vm.findClass "com/example/idem1/idem1/Line" = some m.cls := findClass_of_methodNamed Bd.named
  have hnm := (name_of_methodNamed Bd.named Bd.method).1
  have X0 : Stand p l e ({ frames := 0, cells := 0, slots := 0, locals := 0 } : Room) s m #[(.ref a1)] below meth c s₁ [] 0 0 := Stand.of_body Bd
  have e0 : s₁.heap = h0 := by rw [← hh, Bd.state]; rfl
  have N0 := Fr.nil n0
  have K0 : Keep h0 h0 [] := Keep.refl h0 _
  refine (show Gl p e below (fun o U' => ∃ v L, o = .returned v ∧ Q5p Z a1 h0 n0 v U'.heap L ∧ FrameEnd s o U' L ({ frames := 0, cells := 0, slots := 0, locals := 0 } : Room).cells ({ frames := 0, cells := 0, slots := 0, locals := 0 } : Room).slots) (s₁.setTop (entryFrame m #[(.ref a1)] 1)) from ?_)
  obtain ⟨L0, hL0⟩ : ∃ z : Array Slot, z = #[.val (.ref a1)] := ⟨_, rfl⟩
  refine Gl.st (B := (s₁.setTop (mkF m 0 L0 []))) (fun t k => castTop (efAt hL0 (ef_5p m a1)) k) ?_
  refine Gl.st (B := (s₁.setTop (mkF m 1 L0 [(.ref a1)]))) (fun t k => XS.aloadN X0.here hx rfl (hb hby d5_0) (ldAt hL0 rfl) rfl k) ?_
  obtain ⟨T1, X1, e1, st1⟩ := getF X0 hx hZ hown (host := "") (Or.inl (tw hw 19 rfl)) Via.refl e0 F_text_a1 (g := (mkF m 1 L0 [(.ref a1)])) rfl rfl (hb hby d5_1)
  refine Gl.st (B := (T1.setTop (mkF m 4 L0 [.null]))) st1 ?_
  obtain ⟨fs, hr, hrun, hended, hW, hsame⟩ := X1.leave (v := some .null) (fun h => by rw [Bd.returns] at h; cases h)
  refine Gl.fin (X1.areturnOut hx rfl Bd.returns rfl (hb hby d5_4) hr) hrun hended ⟨_, _, rfl, ?_, ⟨_, rfl⟩, hW, hsame.mono (by decide) (by decide)⟩
  show Q5p Z a1 h0 n0 _ T1.heap _
  rw [e1]
  exact ⟨rfl, N0, rfl⟩
theorem d6_0 : decode prog_17_method_10_code 0 = .ok (.aload_n 0, 1) := by decide +kernel
theorem d6_1 : decode prog_17_method_10_code 1 = .ok (.getfield 24, 3) := by decide +kernel
theorem d6_4 : decode prog_17_method_10_code 4 = .ok (.areturn, 1) := by decide +kernel
theorem pn_6 : plainName "com/example/idem1/idem1/Line" = true := by first | (simp [plainName, overriddenIn]; done) | decide +kernel
theorem ef_6v (m : MethodId) (a1 : Addr) : entryFrame m #[(.ref a1)] 1 = mkF m 0 #[.val (.ref a1)] [] := by first | (simp [entryFrame, mkF, argsToLocals, Value.category]; done) | rfl
def Q6v (Z : State) (a1 : Addr) (h0 : Heap) (n0 : Nat) (v : Option Value) (h : Heap) (L : List Loc) : Prop := v = some .null ∧ Fr n0 L ∧ h = h0
set_option maxRecDepth 65536 in
set_option maxHeartbeats 40000000 in
theorem rm6v (l : Launch) (Z : State) (a0 : Array Value) (hw : ∀ d ∈ tables_1, d.before a0 Z = true) (ws : List Jvm.Cond) (a1 : Addr) (h0 : Heap) (n0 : Nat) (Z0 : n0 ≤ h0.size) (F_problem_a1 : Fld Z h0 a1 "com/example/idem1/idem1/Line" "problem" "Lcom/example/idem1/idem1/Line$Problem;" .null) :
    MetFree l (⟨"com/example/idem1/idem1/Line", "problem", "()Lcom/example/idem1/idem1/Line$Problem;"⟩ : MethodName) (head1 (Jvm.Cond.code (⟨"com/example/idem1/idem1/Line", "problem", "()Lcom/example/idem1/idem1/Line$Problem;"⟩ : MethodName) prog_17_method_10_code 1 (some (.object "com/example/idem1/idem1/Line$Problem")) :: ws) ({ frames := 0, cells := 0, slots := 0, locals := 0 } : Room)) (fun a U => a = #[(.ref a1)] ∧ Z.Warmed39 U.vm ∧ U.heap = h0) (fun _ _ _ _ _ => True) (fun _ U o U' => ∃ v L, o = .returned v ∧ Q6v Z a1 h0 n0 v U'.heap L ∧ FrameEnd U o U' L ({ frames := 0, cells := 0, slots := 0, locals := 0 } : Room).cells ({ frames := 0, cells := 0, slots := 0, locals := 0 } : Room).slots) := by
  refine MetFree.of_bodySF (plainFor_of_name pn_6) hisR ?_
  intro p e s m args below meth c s₁ Bd hml0 hP hK
  obtain ⟨rfl, hZ, hh⟩ := hP
  have hx := Bd.exec
  have hby := Bd.bytes
  have hml : c.maxLocals = 1 := hml0
  have hown : s.vm.findClass "com/example/idem1/idem1/Line" = some m.cls := findClass_of_methodNamed Bd.named
  have hnm := (name_of_methodNamed Bd.named Bd.method).1
  have X0 : Stand p l e ({ frames := 0, cells := 0, slots := 0, locals := 0 } : Room) s m #[(.ref a1)] below meth c s₁ [] 0 0 := Stand.of_body Bd
  have e0 : s₁.heap = h0 := by rw [← hh, Bd.state]; rfl
  have N0 := Fr.nil n0
  have K0 : Keep h0 h0 [] := Keep.refl h0 _
  refine (show Gl p e below (fun o U' => ∃ v L, o = .returned v ∧ Q6v Z a1 h0 n0 v U'.heap L ∧ FrameEnd s o U' L ({ frames := 0, cells := 0, slots := 0, locals := 0 } : Room).cells ({ frames := 0, cells := 0, slots := 0, locals := 0 } : Room).slots) (s₁.setTop (entryFrame m #[(.ref a1)] 1)) from ?_)
  obtain ⟨L0, hL0⟩ : ∃ z : Array Slot, z = #[.val (.ref a1)] := ⟨_, rfl⟩
  refine Gl.st (B := (s₁.setTop (mkF m 0 L0 []))) (fun t k => castTop (efAt hL0 (ef_6v m a1)) k) ?_
  refine Gl.st (B := (s₁.setTop (mkF m 1 L0 [(.ref a1)]))) (fun t k => XS.aloadN X0.here hx rfl (hb hby d6_0) (ldAt hL0 rfl) rfl k) ?_
  obtain ⟨T1, X1, e1, st1⟩ := getF X0 hx hZ hown (host := "") (Or.inl (tw hw 21 rfl)) Via.refl e0 F_problem_a1 (g := (mkF m 1 L0 [(.ref a1)])) rfl rfl (hb hby d6_1)
  refine Gl.st (B := (T1.setTop (mkF m 4 L0 [.null]))) st1 ?_
  obtain ⟨fs, hr, hrun, hended, hW, hsame⟩ := X1.leave (v := some .null) (fun h => by rw [Bd.returns] at h; cases h)
  refine Gl.fin (X1.areturnOut hx rfl Bd.returns rfl (hb hby d6_4) hr) hrun hended ⟨_, _, rfl, ?_, ⟨_, rfl⟩, hW, hsame.mono (by decide) (by decide)⟩
  show Q6v Z a1 h0 n0 _ T1.heap _
  rw [e1]
  exact ⟨rfl, N0, rfl⟩
theorem ef_6p (m : MethodId) (a1 : Addr) : entryFrame m #[(.ref a1)] 1 = mkF m 0 #[.val (.ref a1)] [] := by first | (simp [entryFrame, mkF, argsToLocals, Value.category]; done) | rfl
def Q6p (Z : State) (a1 : Addr) (w_problem_a1 : Addr) (h0 : Heap) (n0 : Nat) (v : Option Value) (h : Heap) (L : List Loc) : Prop := v = some (.ref w_problem_a1) ∧ Fr n0 L ∧ h = h0
set_option maxRecDepth 65536 in
set_option maxHeartbeats 40000000 in
theorem rm6p (l : Launch) (Z : State) (a0 : Array Value) (hw : ∀ d ∈ tables_1, d.before a0 Z = true) (ws : List Jvm.Cond) (a1 : Addr) (w_problem_a1 : Addr) (h0 : Heap) (n0 : Nat) (Z0 : n0 ≤ h0.size) (F_problem_a1 : Fld Z h0 a1 "com/example/idem1/idem1/Line" "problem" "Lcom/example/idem1/idem1/Line$Problem;" (.ref w_problem_a1)) :
    MetFree l (⟨"com/example/idem1/idem1/Line", "problem", "()Lcom/example/idem1/idem1/Line$Problem;"⟩ : MethodName) (head1 (Jvm.Cond.code (⟨"com/example/idem1/idem1/Line", "problem", "()Lcom/example/idem1/idem1/Line$Problem;"⟩ : MethodName) prog_17_method_10_code 1 (some (.object "com/example/idem1/idem1/Line$Problem")) :: ws) ({ frames := 0, cells := 0, slots := 0, locals := 0 } : Room)) (fun a U => a = #[(.ref a1)] ∧ Z.Warmed39 U.vm ∧ U.heap = h0) (fun _ _ _ _ _ => True) (fun _ U o U' => ∃ v L, o = .returned v ∧ Q6p Z a1 w_problem_a1 h0 n0 v U'.heap L ∧ FrameEnd U o U' L ({ frames := 0, cells := 0, slots := 0, locals := 0 } : Room).cells ({ frames := 0, cells := 0, slots := 0, locals := 0 } : Room).slots) := by
  refine MetFree.of_bodySF (plainFor_of_name pn_6) hisR ?_
  intro p e s m args below meth c s₁ Bd hml0 hP hK
  obtain ⟨rfl, hZ, hh⟩ := hP
  have hx := Bd.exec
  have hby := Bd.bytes
  have hml : c.maxLocals = 1 := hml0
  have hown : s.vm.findClass "com/example/idem1/idem1/Line" = some m.cls := findClass_of_methodNamed Bd.named
  have hnm := (name_of_methodNamed Bd.named Bd.method).1
  have X0 : Stand p l e ({ frames := 0, cells := 0, slots := 0, locals := 0 } : Room) s m #[(.ref a1)] below meth c s₁ [] 0 0 := Stand.of_body Bd
  have e0 : s₁.heap = h0 := by rw [← hh, Bd.state]; rfl
  have N0 := Fr.nil n0
  have K0 : Keep h0 h0 [] := Keep.refl h0 _
  refine (show Gl p e below (fun o U' => ∃ v L, o = .returned v ∧ Q6p Z a1 w_problem_a1 h0 n0 v U'.heap L ∧ FrameEnd s o U' L ({ frames := 0, cells := 0, slots := 0, locals := 0 } : Room).cells ({ frames := 0, cells := 0, slots := 0, locals := 0 } : Room).slots) (s₁.setTop (entryFrame m #[(.ref a1)] 1)) from ?_)
  obtain ⟨L0, hL0⟩ : ∃ z : Array Slot, z = #[.val (.ref a1)] := ⟨_, rfl⟩
  refine Gl.st (B := (s₁.setTop (mkF m 0 L0 []))) (fun t k => castTop (efAt hL0 (ef_6p m a1)) k) ?_
  refine Gl.st (B := (s₁.setTop (mkF m 1 L0 [(.ref a1)]))) (fun t k => XS.aloadN X0.here hx rfl (hb hby d6_0) (ldAt hL0 rfl) rfl k) ?_
  obtain ⟨T1, X1, e1, st1⟩ := getF X0 hx hZ hown (host := "") (Or.inl (tw hw 21 rfl)) Via.refl e0 F_problem_a1 (g := (mkF m 1 L0 [(.ref a1)])) rfl rfl (hb hby d6_1)
  refine Gl.st (B := (T1.setTop (mkF m 4 L0 [(.ref w_problem_a1)]))) st1 ?_
  obtain ⟨fs, hr, hrun, hended, hW, hsame⟩ := X1.leave (v := some (.ref w_problem_a1)) (fun h => by rw [Bd.returns] at h; cases h)
  refine Gl.fin (X1.areturnOut hx rfl Bd.returns rfl (hb hby d6_4) hr) hrun hended ⟨_, _, rfl, ?_, ⟨_, rfl⟩, hW, hsame.mono (by decide) (by decide)⟩
  show Q6p Z a1 w_problem_a1 h0 n0 _ T1.heap _
  rw [e1]
  exact ⟨rfl, N0, rfl⟩
theorem pn_0 : plainName "com/example/idem1/idem1/LineIsValidPinLaw" = true := by first | (simp [plainName, overriddenIn]; done) | decide +kernel
theorem pd_0_0 : parseMethodDescriptor "(JLjava/lang/String;Lcom/example/idem1/idem1/Line$Problem;)V" = some ⟨[.long, (.object "java/lang/String"), (.object "com/example/idem1/idem1/Line$Problem")], none⟩ := by decide +kernel
theorem pd_0_1 : parseMethodDescriptor "()Z" = some ⟨[], some .boolean⟩ := by decide +kernel
theorem pd_0_2 : parseMethodDescriptor "()Ljava/lang/String;" = some ⟨[], some (.object "java/lang/String")⟩ := by decide +kernel
theorem pd_0_3 : parseMethodDescriptor "()Lcom/example/idem1/idem1/Line$Problem;" = some ⟨[], some (.object "com/example/idem1/idem1/Line$Problem")⟩ := by decide +kernel
theorem pd_0_4 : parseMethodDescriptor "(III)Ljava/lang/String;" = some ⟨[.int, .int, .int], some (.object "java/lang/String")⟩ := by decide +kernel
theorem ef_0 (m : MethodId) (q1 : Int64) (p2 : Int32) (p3 : Int32) (p4 : Int32) (p5 : Int32) : entryFrame m #[(.long q1), (.int p2), (.int p3), (.int p4), (.int p5)] maxLocals = mkF m 0 #[.val (.long q1), .second, .val (.int p2), .val (.int p3), .val (.int p4), .val (.int p5), .unset, .unset, .unset, .unset] [] := by first | (simp [entryFrame, mkF, argsToLocals, Value.category, maxLocals]; done) | rfl
def Q0 (Z : State) (q1 : Int64) (p2 : Int32) (p3 : Int32) (p4 : Int32) (p5 : Int32) (z_NOT_UTF8 : Addr) (z_TOO_LONG : Addr) (z_COMP0 : Int32) (h0 : Heap) (n0 : Nat) (v : Option Value) (h : Heap) (L : List Loc) : Prop := v = some (.int (1 : Int32)) ∧ Fr n0 L
set_option maxRecDepth 65536 in
set_option maxHeartbeats 40000000 in
theorem rm0 (l : Launch) (Z : State) (a0 : Array Value) (hw : ∀ d ∈ tables_1, d.before a0 Z = true) (ws : List Jvm.Cond) (q1 : Int64) (p2 : Int32) (p3 : Int32) (p4 : Int32) (p5 : Int32) (z_NOT_UTF8 : Addr) (z_TOO_LONG : Addr) (z_COMP0 : Int32) (h0 : Heap) (n0 : Nat) (Z0 : n0 ≤ h0.size) (S_NOT_UTF8 : Sta Z h0 "com/example/idem1/idem1/Line$Problem" "NOT_UTF8" "Lcom/example/idem1/idem1/Line$Problem;" (.ref z_NOT_UTF8)) (S_TOO_LONG : Sta Z h0 "com/example/idem1/idem1/Line$Problem" "TOO_LONG" "Lcom/example/idem1/idem1/Line$Problem;" (.ref z_TOO_LONG)) (S_COMP0 : Sta Z h0 "java/lang/String" "COMPACT_STRINGS" "Z" (.int z_COMP0)) (hr23_hr22_hq3 : ¬ (z_COMP0 = (0 : Int32))) (hr23_hr57_hr6_hq30 : ¬ (z_COMP0 = (0 : Int32))) :
    MetFree l x (head1 (Jvm.Cond.code x code maxLocals ret :: ws) room_1) (fun a U => a = #[(.long q1), (.int p2), (.int p3), (.int p4), (.int p5)] ∧ Z.Warmed39 U.vm ∧ U.heap = h0) (fun _ _ _ _ _ => True) (fun _ U o U' => ∃ v L, o = .returned v ∧ Q0 Z q1 p2 p3 p4 p5 z_NOT_UTF8 z_TOO_LONG z_COMP0 h0 n0 v U'.heap L ∧ ReturnedEndW U o U' L room_1.cells room_1.slots) := by
  refine MetFree.of_bodySF (plainFor_of_name pn_0) hisR ?_
  intro p e s m args below meth c s₁ Bd hml0 hP hK
  obtain ⟨rfl, hZ, hh⟩ := hP
  have hx := Bd.exec
  have hby := Bd.bytes
  have hml : c.maxLocals = 10 := hml0
  have hown : s.vm.findClass "com/example/idem1/idem1/LineIsValidPinLaw" = some m.cls := findClass_of_methodNamed Bd.named
  have hnm := (name_of_methodNamed Bd.named Bd.method).1
  have X0 : Stand p l e room_1 (s.setVm s.vm) m #[(.long q1), (.int p2), (.int p3), (.int p4), (.int p5)] below meth c s₁ [] 0 0 := Stand.of_body Bd
  have e0 : s₁.heap = h0 := by rw [← hh, Bd.state]; rfl
  have N0 := Fr.nil n0
  have hZ : Z.Warmed39 (s.setVm s.vm).vm := hZ
  have hown : (s.setVm s.vm).vm.findClass "com/example/idem1/idem1/LineIsValidPinLaw" = some m.cls := hown
  have hS0 : s.Since s.vm 0 := (State.WarmedH.refl s).since 0
  refine (show Gl p e below (fun o U' => ∃ v L, o = .returned v ∧ Q0 Z q1 p2 p3 p4 p5 z_NOT_UTF8 z_TOO_LONG z_COMP0 h0 n0 v U'.heap L ∧ ReturnedEndW s o U' L room_1.cells room_1.slots) (s₁.setTop (entryFrame m #[(.long q1), (.int p2), (.int p3), (.int p4), (.int p5)] maxLocals)) from ?_)
  obtain ⟨L0, hL0⟩ : ∃ z : Array Slot, z = #[.val (.long q1), .second, .val (.int p2), .val (.int p3), .val (.int p4), .val (.int p5), .unset, .unset, .unset, .unset] := ⟨_, rfl⟩
  refine Gl.st (B := (s₁.setTop (mkF m 0 L0 []))) (fun t k => castTop (efAt hL0 (ef_0 m q1 p2 p3 p4 p5)) k) ?_
  refine Gl.st (B := (s₁.setTop (mkF m 1 L0 [(.int p2)]))) (fun t k => XS.iloadN X0.here hx rfl (hb hby at_0) (ldAt hL0 rfl) k) ?_
  refine Gl.st (B := (s₁.setTop (mkF m 2 L0 [(.int (1 : Int32)), (.int p2)]))) (fun t k => XS.iconst X0.here hx rfl (hb hby at_1) k) ?_
  refine Gl.st (B := (s₁.setTop (mkF m 3 L0 [(.int (p2 &&& (1 : Int32)))]))) (fun t k => XS.iand X0.here hx rfl (hb hby at_2) rfl k) ?_
  obtain ⟨v11_s0_2, hv11_s0_2⟩ : ∃ z : Int32, z = (if (p2 &&& (1 : Int32)) = (0 : Int32) then (0 : Int32) else (1 : Int32)) := ⟨_, rfl⟩
  refine Gl.join (A := (s₁.setTop (mkF m 11 L0 [(.int v11_s0_2)]))) (fun J3_2 => ?_) ?_
  · by_cases hc3_1 : (p2 &&& (1 : Int32)) = (0 : Int32)
    · skip
      refine Gl.st (B := (s₁.setTop (mkF m 10 L0 []))) (fun t k => XS.ifYes X0.here hx rfl (pc0 := 3) (pc' := 10) rfl (hb hby at_3) rfl ((if0 _ _).trans (teq hc3_1).1) (by decide) (by decide) k) ?_
      refine Gl.st (B := (s₁.setTop (mkF m 11 L0 [(.int (0 : Int32))]))) (fun t k => XS.iconst X0.here hx rfl (hb hby at_10) k) ?_
      have ev11_s0_2 : v11_s0_2 = (0 : Int32) := by rw [hv11_s0_2, if_pos hc3_1]
      rw [ev11_s0_2] at J3_2
      exact J3_2
    · skip
      refine Gl.st (B := (s₁.setTop (mkF m 6 L0 []))) (fun t k => XS.ifNo X0.here hx rfl (hb hby at_3) rfl ((if0 _ _).trans (feq hc3_1).1) k) ?_
      refine Gl.st (B := (s₁.setTop (mkF m 7 L0 [(.int (1 : Int32))]))) (fun t k => XS.iconst X0.here hx rfl (hb hby at_6) k) ?_
      refine Gl.st (B := (s₁.setTop (mkF m 11 L0 [(.int (1 : Int32))]))) (fun t k => XS.goto X0.here hx rfl (pc0 := 7) (pc' := 11) rfl (hb hby at_7) (by decide) (by decide) k) ?_
      have ev11_s0_2 : v11_s0_2 = (1 : Int32) := by rw [hv11_s0_2, if_neg hc3_1]
      rw [ev11_s0_2] at J3_2
      exact J3_2
  obtain ⟨L3, hL3⟩ : ∃ z : Array Slot, z = #[.val (.long q1), .second, .val (.int p2), .val (.int p3), .val (.int p4), .val (.int p5), .val (.int v11_s0_2), .unset, .unset, .unset] := ⟨_, rfl⟩
  refine Gl.st (B := (s₁.setTop (mkF m 13 L3 []))) (fun t k => XS.istore X0.here hx rfl (hb hby at_11) rfl (l' := L3) (stAt hL0 hL3 rfl rfl) k) ?_
  have hs4 : v11_s0_2 = (0 : Int32) ∨ v11_s0_2 = (1 : Int32) := by
    rw [hv11_s0_2]; split <;> simp
  rcases hs4 with hk | hk
  · skip
    subst hk
    refine Gl.st (B := (s₁.setTop (mkF m 15 L3 [(.int (0 : Int32))]))) (fun t k => XS.iload X0.here hx rfl (hb hby at_13) (ldAt hL3 rfl) k) ?_
    refine Gl.st (B := (s₁.setTop (mkF m 75 L3 []))) (fun t k => XS.ifYes X0.here hx rfl (pc0 := 15) (pc' := 75) rfl (hb hby at_15) rfl (by decide) (by decide) (by decide) k) ?_
    refine Gl.st (B := (s₁.setTop (mkF m 76 L3 [(.int p2)]))) (fun t k => XS.iloadN X0.here hx rfl (hb hby at_75) (ldAt hL3 rfl) k) ?_
    refine Gl.st (B := (s₁.setTop (mkF m 77 L3 [(.int (2 : Int32)), (.int p2)]))) (fun t k => XS.iconst X0.here hx rfl (hb hby at_76) k) ?_
    refine Gl.st (B := (s₁.setTop (mkF m 78 L3 [(.int (p2 &&& (2 : Int32)))]))) (fun t k => XS.iand X0.here hx rfl (hb hby at_77) rfl k) ?_
    by_cases hc78_5 : (p2 &&& (2 : Int32)) = (0 : Int32)
    · skip
      refine Gl.st (B := (s₁.setTop (mkF m 87 L3 []))) (fun t k => XS.ifYes X0.here hx rfl (pc0 := 78) (pc' := 87) rfl (hb hby at_78) rfl ((if0 _ _).trans (teq hc78_5).1) (by decide) (by decide) k) ?_
      obtain ⟨T6, X6, e6, st6⟩ := getS2 X0 hx hZ hown (host := "") (Or.inl (tw hw 73 rfl)) Via.refl e0 S_NOT_UTF8 (g := (mkF m 87 L3 [])) rfl (hb hby at_87)
      refine Gl.st (B := (T6.setTop (mkF m 90 L3 [(.ref z_NOT_UTF8)]))) st6 ?_
      obtain ⟨L7, hL7⟩ : ∃ z : Array Slot, z = #[.val (.long q1), .second, .val (.int p2), .val (.int p3), .val (.int p4), .val (.int p5), .val (.int (0 : Int32)), .val (.ref z_NOT_UTF8), .unset, .unset] := ⟨_, rfl⟩
      refine Gl.st (B := (T6.setTop (mkF m 92 L7 []))) (fun t k => XS.astore X6.here hx rfl (hb hby at_90) rfl rfl (l' := L7) (stAt hL3 hL7 rfl rfl) k) ?_
      obtain ⟨T8, h8, X8, e8, E8, A8, D8, -, st8⟩ := newO X6 hx hZ hown (tw hw 3 rfl) (tw hw 4 rfl) (tw hw 5 rfl) e6 (g := (mkF m 92 L7 [])) rfl (hb hby at_92) (by decide) (by decide)
      obtain ⟨b8, gq8⟩ : ∃ z, z = h0.size := ⟨_, rfl⟩
      rw [← gq8] at A8 D8 st8
      have g_b8 : n0 ≤ b8 := Nat.le_trans Z0 (Nat.le_of_eq gq8.symm)
      have lt_b8 := A8.lt
      have Zc9 : n0 ≤ h8.size := Nat.le_trans Z0 E8.1
      have F8_number : Fld Z h8 b8 "com/example/idem1/idem1/Line" "number" "J" (.long (0 : Int64)) := D8 (Or.inr (tw hw 18 rfl)) (ty := .long) (by decide)
      have F8_text : Fld Z h8 b8 "com/example/idem1/idem1/Line" "text" "Ljava/lang/String;" .null := D8 (Or.inr (tw hw 20 rfl)) (ty := (.object "java/lang/String")) (by decide)
      have F8_problem : Fld Z h8 b8 "com/example/idem1/idem1/Line" "problem" "Lcom/example/idem1/idem1/Line$Problem;" .null := D8 (Or.inr (tw hw 22 rfl)) (ty := (.object "com/example/idem1/idem1/Line$Problem")) (by decide)
      refine Gl.st (B := (T8.setTop (mkF m 95 L7 [(.ref b8)]))) st8 ?_
      refine Gl.st (B := (T8.setTop (mkF m 96 L7 [(.ref b8), (.ref b8)]))) (fun t k => XS.dup X8.here hx rfl (hb hby at_95) rfl rfl k) ?_
      refine Gl.st (B := (T8.setTop (mkF m 97 L7 [(.long q1), (.ref b8), (.ref b8)]))) (fun t k => XS.lloadN X8.here hx rfl (hb hby at_96) (ldAt hL7 rfl) k) ?_
      refine Gl.st (B := (T8.setTop (mkF m 98 L7 [.null, (.long q1), (.ref b8), (.ref b8)]))) (fun t k => XS.aconstNull X8.here hx rfl (hb hby at_97) k) ?_
      refine Gl.st (B := (T8.setTop (mkF m 100 L7 [(.ref z_NOT_UTF8), .null, (.long q1), (.ref b8), (.ref b8)]))) (fun t k => XS.aload X8.here hx rfl (hb hby at_98) (ldAt hL7 rfl) rfl k) ?_
      obtain ⟨_, _, ⟨T10, L10q, k10, n10⟩, -, X10, ⟨Lc10, hQ10, l10, y10, z10⟩, st10⟩ := X8.specialBack hx (y := (⟨"com/example/idem1/idem1/Line", "<init>", "(JLjava/lang/String;Lcom/example/idem1/idem1/Line$Problem;)V"⟩ : MethodName)) rfl hown (mvT hZ (tw hw 6 rfl)) (mvT hZ (tw hw 7 rfl)) (mvT hZ (tw hw 8 rfl)) (by decide) (backOf (W := 1) (rm1p l Z a0 hw [] b8 q1 z_NOT_UTF8 ((.long (0 : Int64))) .null .null h8 n0 Zc9 F8_number F8_text F8_problem A8 g_b8) hZ (tw hw 8 rfl) (tw hw 5 rfl) (by decide) (by decide)) (g := (mkF m 100 L7 [(.ref z_NOT_UTF8), .null, (.long q1), (.ref b8), (.ref b8)])) rfl (szAt hml hL7 rfl) (Steps.refl _) (a := b8) (argsL := [(.long q1), .null, (.ref z_NOT_UTF8)]) (rest := [(.ref b8)]) (lenOf pd_0_0 rfl) rfl (by show 2 * 0 + _ ≤ _; exact Nat.le_of_eq rfl) (hb hby at_100) (fun _ _ => ⟨rfl, e8, (by decide : 1 + 0 ≤ _), (by decide : 3 + 0 ≤ _)⟩)
      dsimp only [Pt.U, Pt.locs, Pt.cells, Pt.slots] at X10 l10 y10 z10 st10 hQ10
      subst l10 y10 z10
      obtain ⟨rfl, N10q, Kc10, fq10_0, fq10_1, fq10_2, fq10_3⟩ := hQ10
      have Zc11 : n0 ≤ T10.heap.size := Nat.le_trans Zc9 Kc10.1
      have N10 := Fr.app N0 N10q
      refine Gl.st (B := (T10.setTop (mkF m 103 L7 [(.ref b8)]))) (fun t k => st10.trans k) ?_
      obtain ⟨L12, hL12⟩ : ∃ z : Array Slot, z = #[.val (.long q1), .second, .val (.int p2), .val (.int p3), .val (.int p4), .val (.int p5), .val (.int (0 : Int32)), .val (.ref z_NOT_UTF8), .val (.ref b8), .unset] := ⟨_, rfl⟩
      refine Gl.st (B := (T10.setTop (mkF m 105 L12 []))) (fun t k => XS.astore X10.here hx rfl (hb hby at_103) rfl rfl (l' := L12) (stAt hL7 hL12 rfl rfl) k) ?_
      refine Gl.st (B := (T10.setTop (mkF m 107 L12 [(.ref b8)]))) (fun t k => XS.aload X10.here hx rfl (hb hby at_105) (ldAt hL12 rfl) rfl k) ?_
      obtain ⟨cq13, kq13, q13a, q13b, q13c⟩ := isOf hZ rfl fq10_0
      obtain ⟨_, _, ⟨T13, L13q, k13, n13⟩, -, X13, ⟨Lc13, hQ13, l13, y13, z13⟩, st13⟩ := X10.virtualBack hx (y := (⟨"com/example/idem1/idem1/Line", "isValid", "()Z"⟩ : MethodName)) (z := (⟨"com/example/idem1/idem1/Line", "isValid", "()Z"⟩ : MethodName)) hown (mvT hZ (tw hw 23 rfl)) (mvT hZ (tw hw 24 rfl)) (notFace_of_selects (args := #[]) (mvT hZ (tw hw 26 rfl))) (mvT hZ (tw hw 26 rfl)) (mvT hZ (tw hw 25 rfl)) (by decide) (backOf (W := 0) (rm4p l Z a0 hw [] b8 z_NOT_UTF8 T10.heap n0 Zc11 fq10_3) hZ (tw hw 27 rfl) (tw hw 5 rfl) (by decide) (by decide)) q13a q13c (g := (mkF m 107 L12 [(.ref b8)])) rfl (szAt hml hL12 rfl) (Steps.refl _) (argsL := []) (rest := []) (lenOf pd_0_1 rfl) rfl (by show 2 * 0 + _ ≤ _; exact Nat.le_of_eq rfl) (hb hby at_107) (fun _ _ => ⟨rfl, rfl, (by decide : 1 + 0 ≤ _), (by decide : 3 + 0 ≤ _)⟩)
      dsimp only [Pt.U, Pt.locs, Pt.cells, Pt.slots] at X13 l13 y13 z13 st13 hQ13
      subst l13 y13 z13
      obtain ⟨rfl, N13q, eh13⟩ := hQ13
      have N13 := Fr.app N10 N13q
      refine Gl.st (B := (T13.setTop (mkF m 110 L12 [(.int (0 : Int32))]))) (fun t k => st13.trans k) ?_
      obtain ⟨L14, hL14⟩ : ∃ z : Array Slot, z = #[.val (.long q1), .second, .val (.int p2), .val (.int p3), .val (.int p4), .val (.int p5), .val (.int (0 : Int32)), .val (.ref z_NOT_UTF8), .val (.ref b8), .val (.int (0 : Int32))] := ⟨_, rfl⟩
      refine Gl.st (B := (T13.setTop (mkF m 112 L14 []))) (fun t k => XS.istore X13.here hx rfl (hb hby at_110) rfl (l' := L14) (stAt hL12 hL14 rfl rfl) k) ?_
      refine Gl.st (B := (T13.setTop (mkF m 114 L14 [(.int (0 : Int32))]))) (fun t k => XS.iload X13.here hx rfl (hb hby at_112) (ldAt hL14 rfl) k) ?_
      refine Gl.st (B := (T13.setTop (mkF m 117 L14 []))) (fun t k => XS.ifNo X13.here hx rfl (hb hby at_114) rfl (by decide) k) ?_
      refine Gl.st (B := (T13.setTop (mkF m 119 L14 [(.ref b8)]))) (fun t k => XS.aload X13.here hx rfl (hb hby at_117) (ldAt hL14 rfl) rfl k) ?_
      obtain ⟨cq15, kq15, q15a, q15b, q15c⟩ := isOf hZ eh13 fq10_0
      obtain ⟨_, _, ⟨T15, L15q, k15, n15⟩, -, X15, ⟨Lc15, hQ15, l15, y15, z15⟩, st15⟩ := X13.virtualBack hx (y := (⟨"com/example/idem1/idem1/Line", "text", "()Ljava/lang/String;"⟩ : MethodName)) (z := (⟨"com/example/idem1/idem1/Line", "text", "()Ljava/lang/String;"⟩ : MethodName)) hown (mvT hZ (tw hw 28 rfl)) (mvT hZ (tw hw 29 rfl)) (notFace_of_selects (args := #[]) (mvT hZ (tw hw 31 rfl))) (mvT hZ (tw hw 31 rfl)) (mvT hZ (tw hw 30 rfl)) (by decide) (backOf (W := 0) (rm5p l Z a0 hw [] b8 T10.heap n0 Zc11 fq10_2) hZ (tw hw 32 rfl) (tw hw 5 rfl) (by decide) (by decide)) q15a q15c (g := (mkF m 119 L14 [(.ref b8)])) rfl (szAt hml hL14 rfl) (Steps.refl _) (argsL := []) (rest := []) (lenOf pd_0_2 rfl) rfl (by show 2 * 0 + _ ≤ _; exact Nat.le_of_eq rfl) (hb hby at_119) (fun _ _ => ⟨rfl, eh13, (by decide : 1 + 0 ≤ _), (by decide : 3 + 0 ≤ _)⟩)
      dsimp only [Pt.U, Pt.locs, Pt.cells, Pt.slots] at X15 l15 y15 z15 st15 hQ15
      subst l15 y15 z15
      obtain ⟨rfl, N15q, eh15⟩ := hQ15
      have N15 := Fr.app N13 N15q
      refine Gl.st (B := (T15.setTop (mkF m 122 L14 [.null]))) (fun t k => st15.trans k) ?_
      refine Gl.st (B := (T15.setTop (mkF m 125 L14 []))) (fun t k => XS.ifnonnullNo X15.here hx rfl (hb hby at_122) rfl k) ?_
      refine Gl.st (B := (T15.setTop (mkF m 127 L14 [(.ref b8)]))) (fun t k => XS.aload X15.here hx rfl (hb hby at_125) (ldAt hL14 rfl) rfl k) ?_
      obtain ⟨cq16, kq16, q16a, q16b, q16c⟩ := isOf hZ eh15 fq10_0
      obtain ⟨_, _, ⟨T16, L16q, k16, n16⟩, -, X16, ⟨Lc16, hQ16, l16, y16, z16⟩, st16⟩ := X15.virtualBack hx (y := (⟨"com/example/idem1/idem1/Line", "problem", "()Lcom/example/idem1/idem1/Line$Problem;"⟩ : MethodName)) (z := (⟨"com/example/idem1/idem1/Line", "problem", "()Lcom/example/idem1/idem1/Line$Problem;"⟩ : MethodName)) hown (mvT hZ (tw hw 33 rfl)) (mvT hZ (tw hw 34 rfl)) (notFace_of_selects (args := #[]) (mvT hZ (tw hw 36 rfl))) (mvT hZ (tw hw 36 rfl)) (mvT hZ (tw hw 35 rfl)) (by decide) (backOf (W := 0) (rm6p l Z a0 hw [] b8 z_NOT_UTF8 T10.heap n0 Zc11 fq10_3) hZ (tw hw 37 rfl) (tw hw 5 rfl) (by decide) (by decide)) q16a q16c (g := (mkF m 127 L14 [(.ref b8)])) rfl (szAt hml hL14 rfl) (Steps.refl _) (argsL := []) (rest := []) (lenOf pd_0_3 rfl) rfl (by show 2 * 0 + _ ≤ _; exact Nat.le_of_eq rfl) (hb hby at_127) (fun _ _ => ⟨rfl, eh15, (by decide : 1 + 0 ≤ _), (by decide : 3 + 0 ≤ _)⟩)
      dsimp only [Pt.U, Pt.locs, Pt.cells, Pt.slots] at X16 l16 y16 z16 st16 hQ16
      subst l16 y16 z16
      obtain ⟨rfl, N16q, eh16⟩ := hQ16
      have N16 := Fr.app N15 N16q
      refine Gl.st (B := (T16.setTop (mkF m 130 L14 [(.ref z_NOT_UTF8)]))) (fun t k => st16.trans k) ?_
      refine Gl.st (B := (T16.setTop (mkF m 132 L14 [(.ref z_NOT_UTF8), (.ref z_NOT_UTF8)]))) (fun t k => XS.aload X16.here hx rfl (hb hby at_130) (ldAt hL14 rfl) rfl k) ?_
      refine Gl.st (B := (T16.setTop (mkF m 135 L14 []))) (fun t k => Jvm.RoadKit.acmp (g := (mkF m 132 L14 [(.ref z_NOT_UTF8), (.ref z_NOT_UTF8)])) X16 hx rfl rfl rfl (pc0 := 132) (pc' := 135) (same := true) rfl (hb hby at_132) rfl (decide_eq_true rfl) (by decide) (by decide) k) ?_
      refine Gl.st (B := (T16.setTop (mkF m 136 L14 [(.int (1 : Int32))]))) (fun t k => XS.iconst X16.here hx rfl (hb hby at_135) k) ?_
      refine Gl.st (B := (T16.setTop (mkF m 140 L14 [(.int (1 : Int32))]))) (fun t k => XS.goto X16.here hx rfl (pc0 := 136) (pc' := 140) rfl (hb hby at_136) (by decide) (by decide) k) ?_
      obtain ⟨fs, hr, hrun, hended, hRW⟩ := X16.leaveW hS0 (by rw [eh16]; exact (Nat.le_trans (Nat.le_trans (Nat.zero_le _) E8.1) Kc10.1)) (v := some (.int (nar .boolean (1 : Int32)))) (fun h => by rw [Bd.returns] at h; cases h)
      refine Gl.fin (retN X16 hx (t := .boolean) Bd.returns (by simp) (hb hby at_140) hr) hrun hended ⟨_, _, rfl, ?_, hRW.1, hRW.2.1, hRW.2.2.1, hRW.2.2.2.mono (by decide) (by decide)⟩
      show Q0 Z q1 p2 p3 p4 p5 z_NOT_UTF8 z_TOO_LONG z_COMP0 h0 n0 _ T16.heap _
      rw [eh16]
      exact ⟨rfl, N16⟩
    · skip
      refine Gl.st (B := (s₁.setTop (mkF m 81 L3 []))) (fun t k => XS.ifNo X0.here hx rfl (hb hby at_78) rfl ((if0 _ _).trans (feq hc78_5).1) k) ?_
      obtain ⟨T17, X17, e17, st17⟩ := getS2 X0 hx hZ hown (host := "") (Or.inl (tw hw 0 rfl)) Via.refl e0 S_TOO_LONG (g := (mkF m 81 L3 [])) rfl (hb hby at_81)
      refine Gl.st (B := (T17.setTop (mkF m 84 L3 [(.ref z_TOO_LONG)]))) st17 ?_
      refine Gl.st (B := (T17.setTop (mkF m 90 L3 [(.ref z_TOO_LONG)]))) (fun t k => XS.goto X17.here hx rfl (pc0 := 84) (pc' := 90) rfl (hb hby at_84) (by decide) (by decide) k) ?_
      obtain ⟨L18, hL18⟩ : ∃ z : Array Slot, z = #[.val (.long q1), .second, .val (.int p2), .val (.int p3), .val (.int p4), .val (.int p5), .val (.int (0 : Int32)), .val (.ref z_TOO_LONG), .unset, .unset] := ⟨_, rfl⟩
      refine Gl.st (B := (T17.setTop (mkF m 92 L18 []))) (fun t k => XS.astore X17.here hx rfl (hb hby at_90) rfl rfl (l' := L18) (stAt hL3 hL18 rfl rfl) k) ?_
      obtain ⟨T19, h19, X19, e19, E19, A19, D19, -, st19⟩ := newO X17 hx hZ hown (tw hw 3 rfl) (tw hw 4 rfl) (tw hw 5 rfl) e17 (g := (mkF m 92 L18 [])) rfl (hb hby at_92) (by decide) (by decide)
      obtain ⟨b19, gq19⟩ : ∃ z, z = h0.size := ⟨_, rfl⟩
      rw [← gq19] at A19 D19 st19
      have g_b19 : n0 ≤ b19 := Nat.le_trans Z0 (Nat.le_of_eq gq19.symm)
      have lt_b19 := A19.lt
      have Zc20 : n0 ≤ h19.size := Nat.le_trans Z0 E19.1
      have F19_number : Fld Z h19 b19 "com/example/idem1/idem1/Line" "number" "J" (.long (0 : Int64)) := D19 (Or.inr (tw hw 18 rfl)) (ty := .long) (by decide)
      have F19_text : Fld Z h19 b19 "com/example/idem1/idem1/Line" "text" "Ljava/lang/String;" .null := D19 (Or.inr (tw hw 20 rfl)) (ty := (.object "java/lang/String")) (by decide)
      have F19_problem : Fld Z h19 b19 "com/example/idem1/idem1/Line" "problem" "Lcom/example/idem1/idem1/Line$Problem;" .null := D19 (Or.inr (tw hw 22 rfl)) (ty := (.object "com/example/idem1/idem1/Line$Problem")) (by decide)
      refine Gl.st (B := (T19.setTop (mkF m 95 L18 [(.ref b19)]))) st19 ?_
      refine Gl.st (B := (T19.setTop (mkF m 96 L18 [(.ref b19), (.ref b19)]))) (fun t k => XS.dup X19.here hx rfl (hb hby at_95) rfl rfl k) ?_
      refine Gl.st (B := (T19.setTop (mkF m 97 L18 [(.long q1), (.ref b19), (.ref b19)]))) (fun t k => XS.lloadN X19.here hx rfl (hb hby at_96) (ldAt hL18 rfl) k) ?_
      refine Gl.st (B := (T19.setTop (mkF m 98 L18 [.null, (.long q1), (.ref b19), (.ref b19)]))) (fun t k => XS.aconstNull X19.here hx rfl (hb hby at_97) k) ?_
      refine Gl.st (B := (T19.setTop (mkF m 100 L18 [(.ref z_TOO_LONG), .null, (.long q1), (.ref b19), (.ref b19)]))) (fun t k => XS.aload X19.here hx rfl (hb hby at_98) (ldAt hL18 rfl) rfl k) ?_
      obtain ⟨_, _, ⟨T21, L21q, k21, n21⟩, -, X21, ⟨Lc21, hQ21, l21, y21, z21⟩, st21⟩ := X19.specialBack hx (y := (⟨"com/example/idem1/idem1/Line", "<init>", "(JLjava/lang/String;Lcom/example/idem1/idem1/Line$Problem;)V"⟩ : MethodName)) rfl hown (mvT hZ (tw hw 6 rfl)) (mvT hZ (tw hw 7 rfl)) (mvT hZ (tw hw 8 rfl)) (by decide) (backOf (W := 1) (rm1p l Z a0 hw [] b19 q1 z_TOO_LONG ((.long (0 : Int64))) .null .null h19 n0 Zc20 F19_number F19_text F19_problem A19 g_b19) hZ (tw hw 8 rfl) (tw hw 5 rfl) (by decide) (by decide)) (g := (mkF m 100 L18 [(.ref z_TOO_LONG), .null, (.long q1), (.ref b19), (.ref b19)])) rfl (szAt hml hL18 rfl) (Steps.refl _) (a := b19) (argsL := [(.long q1), .null, (.ref z_TOO_LONG)]) (rest := [(.ref b19)]) (lenOf pd_0_0 rfl) rfl (by show 2 * 0 + _ ≤ _; exact Nat.le_of_eq rfl) (hb hby at_100) (fun _ _ => ⟨rfl, e19, (by decide : 1 + 0 ≤ _), (by decide : 3 + 0 ≤ _)⟩)
      dsimp only [Pt.U, Pt.locs, Pt.cells, Pt.slots] at X21 l21 y21 z21 st21 hQ21
      subst l21 y21 z21
      obtain ⟨rfl, N21q, Kc21, fq21_0, fq21_1, fq21_2, fq21_3⟩ := hQ21
      have Zc22 : n0 ≤ T21.heap.size := Nat.le_trans Zc20 Kc21.1
      have N21 := Fr.app N0 N21q
      refine Gl.st (B := (T21.setTop (mkF m 103 L18 [(.ref b19)]))) (fun t k => st21.trans k) ?_
      obtain ⟨L23, hL23⟩ : ∃ z : Array Slot, z = #[.val (.long q1), .second, .val (.int p2), .val (.int p3), .val (.int p4), .val (.int p5), .val (.int (0 : Int32)), .val (.ref z_TOO_LONG), .val (.ref b19), .unset] := ⟨_, rfl⟩
      refine Gl.st (B := (T21.setTop (mkF m 105 L23 []))) (fun t k => XS.astore X21.here hx rfl (hb hby at_103) rfl rfl (l' := L23) (stAt hL18 hL23 rfl rfl) k) ?_
      refine Gl.st (B := (T21.setTop (mkF m 107 L23 [(.ref b19)]))) (fun t k => XS.aload X21.here hx rfl (hb hby at_105) (ldAt hL23 rfl) rfl k) ?_
      obtain ⟨cq24, kq24, q24a, q24b, q24c⟩ := isOf hZ rfl fq21_0
      obtain ⟨_, _, ⟨T24, L24q, k24, n24⟩, -, X24, ⟨Lc24, hQ24, l24, y24, z24⟩, st24⟩ := X21.virtualBack hx (y := (⟨"com/example/idem1/idem1/Line", "isValid", "()Z"⟩ : MethodName)) (z := (⟨"com/example/idem1/idem1/Line", "isValid", "()Z"⟩ : MethodName)) hown (mvT hZ (tw hw 23 rfl)) (mvT hZ (tw hw 24 rfl)) (notFace_of_selects (args := #[]) (mvT hZ (tw hw 26 rfl))) (mvT hZ (tw hw 26 rfl)) (mvT hZ (tw hw 25 rfl)) (by decide) (backOf (W := 0) (rm4p l Z a0 hw [] b19 z_TOO_LONG T21.heap n0 Zc22 fq21_3) hZ (tw hw 27 rfl) (tw hw 5 rfl) (by decide) (by decide)) q24a q24c (g := (mkF m 107 L23 [(.ref b19)])) rfl (szAt hml hL23 rfl) (Steps.refl _) (argsL := []) (rest := []) (lenOf pd_0_1 rfl) rfl (by show 2 * 0 + _ ≤ _; exact Nat.le_of_eq rfl) (hb hby at_107) (fun _ _ => ⟨rfl, rfl, (by decide : 1 + 0 ≤ _), (by decide : 3 + 0 ≤ _)⟩)
      dsimp only [Pt.U, Pt.locs, Pt.cells, Pt.slots] at X24 l24 y24 z24 st24 hQ24
      subst l24 y24 z24
      obtain ⟨rfl, N24q, eh24⟩ := hQ24
      have N24 := Fr.app N21 N24q
      refine Gl.st (B := (T24.setTop (mkF m 110 L23 [(.int (0 : Int32))]))) (fun t k => st24.trans k) ?_
      obtain ⟨L25, hL25⟩ : ∃ z : Array Slot, z = #[.val (.long q1), .second, .val (.int p2), .val (.int p3), .val (.int p4), .val (.int p5), .val (.int (0 : Int32)), .val (.ref z_TOO_LONG), .val (.ref b19), .val (.int (0 : Int32))] := ⟨_, rfl⟩
      refine Gl.st (B := (T24.setTop (mkF m 112 L25 []))) (fun t k => XS.istore X24.here hx rfl (hb hby at_110) rfl (l' := L25) (stAt hL23 hL25 rfl rfl) k) ?_
      refine Gl.st (B := (T24.setTop (mkF m 114 L25 [(.int (0 : Int32))]))) (fun t k => XS.iload X24.here hx rfl (hb hby at_112) (ldAt hL25 rfl) k) ?_
      refine Gl.st (B := (T24.setTop (mkF m 117 L25 []))) (fun t k => XS.ifNo X24.here hx rfl (hb hby at_114) rfl (by decide) k) ?_
      refine Gl.st (B := (T24.setTop (mkF m 119 L25 [(.ref b19)]))) (fun t k => XS.aload X24.here hx rfl (hb hby at_117) (ldAt hL25 rfl) rfl k) ?_
      obtain ⟨cq26, kq26, q26a, q26b, q26c⟩ := isOf hZ eh24 fq21_0
      obtain ⟨_, _, ⟨T26, L26q, k26, n26⟩, -, X26, ⟨Lc26, hQ26, l26, y26, z26⟩, st26⟩ := X24.virtualBack hx (y := (⟨"com/example/idem1/idem1/Line", "text", "()Ljava/lang/String;"⟩ : MethodName)) (z := (⟨"com/example/idem1/idem1/Line", "text", "()Ljava/lang/String;"⟩ : MethodName)) hown (mvT hZ (tw hw 28 rfl)) (mvT hZ (tw hw 29 rfl)) (notFace_of_selects (args := #[]) (mvT hZ (tw hw 31 rfl))) (mvT hZ (tw hw 31 rfl)) (mvT hZ (tw hw 30 rfl)) (by decide) (backOf (W := 0) (rm5p l Z a0 hw [] b19 T21.heap n0 Zc22 fq21_2) hZ (tw hw 32 rfl) (tw hw 5 rfl) (by decide) (by decide)) q26a q26c (g := (mkF m 119 L25 [(.ref b19)])) rfl (szAt hml hL25 rfl) (Steps.refl _) (argsL := []) (rest := []) (lenOf pd_0_2 rfl) rfl (by show 2 * 0 + _ ≤ _; exact Nat.le_of_eq rfl) (hb hby at_119) (fun _ _ => ⟨rfl, eh24, (by decide : 1 + 0 ≤ _), (by decide : 3 + 0 ≤ _)⟩)
      dsimp only [Pt.U, Pt.locs, Pt.cells, Pt.slots] at X26 l26 y26 z26 st26 hQ26
      subst l26 y26 z26
      obtain ⟨rfl, N26q, eh26⟩ := hQ26
      have N26 := Fr.app N24 N26q
      refine Gl.st (B := (T26.setTop (mkF m 122 L25 [.null]))) (fun t k => st26.trans k) ?_
      refine Gl.st (B := (T26.setTop (mkF m 125 L25 []))) (fun t k => XS.ifnonnullNo X26.here hx rfl (hb hby at_122) rfl k) ?_
      refine Gl.st (B := (T26.setTop (mkF m 127 L25 [(.ref b19)]))) (fun t k => XS.aload X26.here hx rfl (hb hby at_125) (ldAt hL25 rfl) rfl k) ?_
      obtain ⟨cq27, kq27, q27a, q27b, q27c⟩ := isOf hZ eh26 fq21_0
      obtain ⟨_, _, ⟨T27, L27q, k27, n27⟩, -, X27, ⟨Lc27, hQ27, l27, y27, z27⟩, st27⟩ := X26.virtualBack hx (y := (⟨"com/example/idem1/idem1/Line", "problem", "()Lcom/example/idem1/idem1/Line$Problem;"⟩ : MethodName)) (z := (⟨"com/example/idem1/idem1/Line", "problem", "()Lcom/example/idem1/idem1/Line$Problem;"⟩ : MethodName)) hown (mvT hZ (tw hw 33 rfl)) (mvT hZ (tw hw 34 rfl)) (notFace_of_selects (args := #[]) (mvT hZ (tw hw 36 rfl))) (mvT hZ (tw hw 36 rfl)) (mvT hZ (tw hw 35 rfl)) (by decide) (backOf (W := 0) (rm6p l Z a0 hw [] b19 z_TOO_LONG T21.heap n0 Zc22 fq21_3) hZ (tw hw 37 rfl) (tw hw 5 rfl) (by decide) (by decide)) q27a q27c (g := (mkF m 127 L25 [(.ref b19)])) rfl (szAt hml hL25 rfl) (Steps.refl _) (argsL := []) (rest := []) (lenOf pd_0_3 rfl) rfl (by show 2 * 0 + _ ≤ _; exact Nat.le_of_eq rfl) (hb hby at_127) (fun _ _ => ⟨rfl, eh26, (by decide : 1 + 0 ≤ _), (by decide : 3 + 0 ≤ _)⟩)
      dsimp only [Pt.U, Pt.locs, Pt.cells, Pt.slots] at X27 l27 y27 z27 st27 hQ27
      subst l27 y27 z27
      obtain ⟨rfl, N27q, eh27⟩ := hQ27
      have N27 := Fr.app N26 N27q
      refine Gl.st (B := (T27.setTop (mkF m 130 L25 [(.ref z_TOO_LONG)]))) (fun t k => st27.trans k) ?_
      refine Gl.st (B := (T27.setTop (mkF m 132 L25 [(.ref z_TOO_LONG), (.ref z_TOO_LONG)]))) (fun t k => XS.aload X27.here hx rfl (hb hby at_130) (ldAt hL25 rfl) rfl k) ?_
      refine Gl.st (B := (T27.setTop (mkF m 135 L25 []))) (fun t k => Jvm.RoadKit.acmp (g := (mkF m 132 L25 [(.ref z_TOO_LONG), (.ref z_TOO_LONG)])) X27 hx rfl rfl rfl (pc0 := 132) (pc' := 135) (same := true) rfl (hb hby at_132) rfl (decide_eq_true rfl) (by decide) (by decide) k) ?_
      refine Gl.st (B := (T27.setTop (mkF m 136 L25 [(.int (1 : Int32))]))) (fun t k => XS.iconst X27.here hx rfl (hb hby at_135) k) ?_
      refine Gl.st (B := (T27.setTop (mkF m 140 L25 [(.int (1 : Int32))]))) (fun t k => XS.goto X27.here hx rfl (pc0 := 136) (pc' := 140) rfl (hb hby at_136) (by decide) (by decide) k) ?_
      obtain ⟨fs, hr, hrun, hended, hRW⟩ := X27.leaveW hS0 (by rw [eh27]; exact (Nat.le_trans (Nat.le_trans (Nat.zero_le _) E19.1) Kc21.1)) (v := some (.int (nar .boolean (1 : Int32)))) (fun h => by rw [Bd.returns] at h; cases h)
      refine Gl.fin (retN X27 hx (t := .boolean) Bd.returns (by simp) (hb hby at_140) hr) hrun hended ⟨_, _, rfl, ?_, hRW.1, hRW.2.1, hRW.2.2.1, hRW.2.2.2.mono (by decide) (by decide)⟩
      show Q0 Z q1 p2 p3 p4 p5 z_NOT_UTF8 z_TOO_LONG z_COMP0 h0 n0 _ T27.heap _
      rw [eh27]
      exact ⟨rfl, N27⟩
  · skip
    subst hk
    refine Gl.st (B := (s₁.setTop (mkF m 15 L3 [(.int (1 : Int32))]))) (fun t k => XS.iload X0.here hx rfl (hb hby at_13) (ldAt hL3 rfl) k) ?_
    refine Gl.st (B := (s₁.setTop (mkF m 18 L3 []))) (fun t k => XS.ifNo X0.here hx rfl (hb hby at_15) rfl (by decide) k) ?_
    have hks := own_and3 p3 _ rfl
    rcases hks with hks | hks | hks | hks
    · skip
      refine Gl.st (B := (s₁.setTop (mkF m 19 L3 [(.int p3)]))) (fun t k => XS.iloadN X0.here hx rfl (hb hby at_18) (ldAt hL3 rfl) k) ?_
      refine Gl.st (B := (s₁.setTop (mkF m 21 L3 [(.int p4), (.int p3)]))) (fun t k => XS.iload X0.here hx rfl (hb hby at_19) (ldAt hL3 rfl) k) ?_
      refine Gl.st (B := (s₁.setTop (mkF m 23 L3 [(.int p5), (.int p4), (.int p3)]))) (fun t k => XS.iload X0.here hx rfl (hb hby at_21) (ldAt hL3 rfl) k) ?_
      have hp23_29 : ((p3 &&& (3 : Int32))) = (0 : Int32) := by
        first | exact hks | (rw [hks]; decide)
      obtain ⟨_, _, ⟨T28, L28q, k28, n28⟩, -, X28, hs28, gr28, ⟨Lc28, hQ28, l28, y28, z28⟩, st28⟩ := callSS X0 hx (y := (⟨"com/example/idem1/idem1/LineIsValidPinLaw", "drawText", "(III)Ljava/lang/String;"⟩ : MethodName)) hown (mvT hZ (tw hw 38 rfl)) (mvT hZ (tw hw 39 rfl)) (mvT hZ (tw hw 40 rfl)) (mvT hZ (tw hw 41 rfl)) (by decide) (backOfS (W := 0) (rm7k0 l Z a0 hw [] p3 p4 p5 h0 n0 Z0 hp23_29) hZ (tw hw 41 rfl) (tw hw 40 rfl) (by decide) (by decide)) (g := (mkF m 23 L3 [(.int p5), (.int p4), (.int p3)])) rfl (szAt hml hL3 rfl) (argsL := [(.int p3), (.int p4), (.int p5)]) (rest := []) (lenOf pd_0_4 rfl) rfl (by show 2 * 0 + _ ≤ _; exact Nat.le_of_eq rfl) (hb hby at_23) (fun _ _ => ⟨rfl, e0, (by decide : 0 + 2 ≤ _), (by decide : 0 + 4 ≤ _)⟩)
      dsimp only [Pt.U, Pt.locs, Pt.cells, Pt.slots] at X28 l28 y28 z28 st28 hQ28 hs28 gr28
      subst l28 y28 z28
      obtain ⟨X28, hS28, hZ, hown⟩ := rebS hS0 (n1 := s₁.heap.size) (by rw [e0]; exact (Nat.zero_le _)) X28 hs28 gr28 hZ hown
      obtain ⟨b28_tr, rfl, N28q, Kc28⟩ := hQ28
      have Zc30 : n0 ≤ T28.heap.size := Nat.le_trans Z0 Kc28.1
      have N28 := Fr.app N0 N28q
      refine Gl.st (B := (T28.setTop (mkF m 26 L3 [(.ref b28_tr)]))) (fun t k => st28.trans k) ?_
      obtain ⟨L31, hL31⟩ : ∃ z : Array Slot, z = #[.val (.long q1), .second, .val (.int p2), .val (.int p3), .val (.int p4), .val (.int p5), .val (.int (1 : Int32)), .val (.ref b28_tr), .unset, .unset] := ⟨_, rfl⟩
      refine Gl.st (B := (T28.setTop (mkF m 28 L31 []))) (fun t k => XS.astore X28.here hx rfl (hb hby at_26) rfl rfl (l' := L31) (stAt hL3 hL31 rfl rfl) k) ?_
      obtain ⟨T32, h32, X32, e32, E32, A32, D32, -, st32⟩ := newO X28 hx hZ hown (tw hw 3 rfl) (tw hw 4 rfl) (tw hw 5 rfl) rfl (g := (mkF m 28 L31 [])) rfl (hb hby at_28) (by decide) (by decide)
      obtain ⟨b32, gq32⟩ : ∃ z, z = T28.heap.size := ⟨_, rfl⟩
      rw [← gq32] at A32 D32 st32
      have g_b32 : n0 ≤ b32 := Nat.le_trans Zc30 (Nat.le_of_eq gq32.symm)
      have lt_b32 := A32.lt
      have Zc33 : n0 ≤ h32.size := Nat.le_trans Zc30 E32.1
      have F32_number : Fld Z h32 b32 "com/example/idem1/idem1/Line" "number" "J" (.long (0 : Int64)) := D32 (Or.inr (tw hw 18 rfl)) (ty := .long) (by decide)
      have F32_text : Fld Z h32 b32 "com/example/idem1/idem1/Line" "text" "Ljava/lang/String;" .null := D32 (Or.inr (tw hw 20 rfl)) (ty := (.object "java/lang/String")) (by decide)
      have F32_problem : Fld Z h32 b32 "com/example/idem1/idem1/Line" "problem" "Lcom/example/idem1/idem1/Line$Problem;" .null := D32 (Or.inr (tw hw 22 rfl)) (ty := (.object "com/example/idem1/idem1/Line$Problem")) (by decide)
      refine Gl.st (B := (T32.setTop (mkF m 31 L31 [(.ref b32)]))) st32 ?_
      refine Gl.st (B := (T32.setTop (mkF m 32 L31 [(.ref b32), (.ref b32)]))) (fun t k => XS.dup X32.here hx rfl (hb hby at_31) rfl rfl k) ?_
      refine Gl.st (B := (T32.setTop (mkF m 33 L31 [(.long q1), (.ref b32), (.ref b32)]))) (fun t k => XS.lloadN X32.here hx rfl (hb hby at_32) (ldAt hL31 rfl) k) ?_
      refine Gl.st (B := (T32.setTop (mkF m 35 L31 [(.ref b28_tr), (.long q1), (.ref b32), (.ref b32)]))) (fun t k => XS.aload X32.here hx rfl (hb hby at_33) (ldAt hL31 rfl) rfl k) ?_
      refine Gl.st (B := (T32.setTop (mkF m 36 L31 [.null, (.ref b28_tr), (.long q1), (.ref b32), (.ref b32)]))) (fun t k => XS.aconstNull X32.here hx rfl (hb hby at_35) k) ?_
      obtain ⟨_, _, ⟨T34, L34q, k34, n34⟩, -, X34, ⟨Lc34, hQ34, l34, y34, z34⟩, st34⟩ := X32.specialBack hx (y := (⟨"com/example/idem1/idem1/Line", "<init>", "(JLjava/lang/String;Lcom/example/idem1/idem1/Line$Problem;)V"⟩ : MethodName)) rfl hown (mvT hZ (tw hw 6 rfl)) (mvT hZ (tw hw 7 rfl)) (mvT hZ (tw hw 8 rfl)) (by decide) (backOf (W := 1) (rm1v l Z a0 hw [] b32 q1 b28_tr ((.long (0 : Int64))) .null .null h32 n0 Zc33 F32_number F32_text F32_problem A32 g_b32) hZ (tw hw 8 rfl) (tw hw 5 rfl) (by decide) (by decide)) (g := (mkF m 36 L31 [.null, (.ref b28_tr), (.long q1), (.ref b32), (.ref b32)])) rfl (szAt hml hL31 rfl) (Steps.refl _) (a := b32) (argsL := [(.long q1), (.ref b28_tr), .null]) (rest := [(.ref b32)]) (lenOf pd_0_0 rfl) rfl (by show 2 * 0 + _ ≤ _; exact Nat.le_of_eq rfl) (hb hby at_36) (fun _ _ => ⟨rfl, e32, (by decide : 3 + 0 ≤ _), (by decide : 7 + 0 ≤ _)⟩)
      dsimp only [Pt.U, Pt.locs, Pt.cells, Pt.slots] at X34 l34 y34 z34 st34 hQ34
      subst l34 y34 z34
      obtain ⟨rfl, N34q, Kc34, fq34_0, fq34_1, fq34_2, fq34_3⟩ := hQ34
      have Zc35 : n0 ≤ T34.heap.size := Nat.le_trans Zc33 Kc34.1
      have N34 := Fr.app N28 N34q
      refine Gl.st (B := (T34.setTop (mkF m 39 L31 [(.ref b32)]))) (fun t k => st34.trans k) ?_
      obtain ⟨L36, hL36⟩ : ∃ z : Array Slot, z = #[.val (.long q1), .second, .val (.int p2), .val (.int p3), .val (.int p4), .val (.int p5), .val (.int (1 : Int32)), .val (.ref b28_tr), .val (.ref b32), .unset] := ⟨_, rfl⟩
      refine Gl.st (B := (T34.setTop (mkF m 41 L36 []))) (fun t k => XS.astore X34.here hx rfl (hb hby at_39) rfl rfl (l' := L36) (stAt hL31 hL36 rfl rfl) k) ?_
      refine Gl.st (B := (T34.setTop (mkF m 43 L36 [(.ref b32)]))) (fun t k => XS.aload X34.here hx rfl (hb hby at_41) (ldAt hL36 rfl) rfl k) ?_
      obtain ⟨cq37, kq37, q37a, q37b, q37c⟩ := isOf hZ rfl fq34_0
      obtain ⟨_, _, ⟨T37, L37q, k37, n37⟩, -, X37, ⟨Lc37, hQ37, l37, y37, z37⟩, st37⟩ := X34.virtualBack hx (y := (⟨"com/example/idem1/idem1/Line", "isValid", "()Z"⟩ : MethodName)) (z := (⟨"com/example/idem1/idem1/Line", "isValid", "()Z"⟩ : MethodName)) hown (mvT hZ (tw hw 23 rfl)) (mvT hZ (tw hw 24 rfl)) (notFace_of_selects (args := #[]) (mvT hZ (tw hw 26 rfl))) (mvT hZ (tw hw 26 rfl)) (mvT hZ (tw hw 25 rfl)) (by decide) (backOf (W := 0) (rm4v l Z a0 hw [] b32 T34.heap n0 Zc35 fq34_3) hZ (tw hw 27 rfl) (tw hw 5 rfl) (by decide) (by decide)) q37a q37c (g := (mkF m 43 L36 [(.ref b32)])) rfl (szAt hml hL36 rfl) (Steps.refl _) (argsL := []) (rest := []) (lenOf pd_0_1 rfl) rfl (by show 2 * 0 + _ ≤ _; exact Nat.le_of_eq rfl) (hb hby at_43) (fun _ _ => ⟨rfl, rfl, (by decide : 3 + 0 ≤ _), (by decide : 7 + 0 ≤ _)⟩)
      dsimp only [Pt.U, Pt.locs, Pt.cells, Pt.slots] at X37 l37 y37 z37 st37 hQ37
      subst l37 y37 z37
      obtain ⟨rfl, N37q, eh37⟩ := hQ37
      have N37 := Fr.app N34 N37q
      refine Gl.st (B := (T37.setTop (mkF m 46 L36 [(.int (1 : Int32))]))) (fun t k => st37.trans k) ?_
      obtain ⟨L38, hL38⟩ : ∃ z : Array Slot, z = #[.val (.long q1), .second, .val (.int p2), .val (.int p3), .val (.int p4), .val (.int p5), .val (.int (1 : Int32)), .val (.ref b28_tr), .val (.ref b32), .val (.int (1 : Int32))] := ⟨_, rfl⟩
      refine Gl.st (B := (T37.setTop (mkF m 48 L38 []))) (fun t k => XS.istore X37.here hx rfl (hb hby at_46) rfl (l' := L38) (stAt hL36 hL38 rfl rfl) k) ?_
      refine Gl.st (B := (T37.setTop (mkF m 50 L38 [(.int (1 : Int32))]))) (fun t k => XS.iload X37.here hx rfl (hb hby at_48) (ldAt hL38 rfl) k) ?_
      refine Gl.st (B := (T37.setTop (mkF m 53 L38 []))) (fun t k => XS.ifNo X37.here hx rfl (hb hby at_50) rfl (by decide) k) ?_
      refine Gl.st (B := (T37.setTop (mkF m 55 L38 [(.ref b32)]))) (fun t k => XS.aload X37.here hx rfl (hb hby at_53) (ldAt hL38 rfl) rfl k) ?_
      obtain ⟨cq39, kq39, q39a, q39b, q39c⟩ := isOf hZ eh37 fq34_0
      obtain ⟨_, _, ⟨T39, L39q, k39, n39⟩, -, X39, ⟨Lc39, hQ39, l39, y39, z39⟩, st39⟩ := X37.virtualBack hx (y := (⟨"com/example/idem1/idem1/Line", "text", "()Ljava/lang/String;"⟩ : MethodName)) (z := (⟨"com/example/idem1/idem1/Line", "text", "()Ljava/lang/String;"⟩ : MethodName)) hown (mvT hZ (tw hw 28 rfl)) (mvT hZ (tw hw 29 rfl)) (notFace_of_selects (args := #[]) (mvT hZ (tw hw 31 rfl))) (mvT hZ (tw hw 31 rfl)) (mvT hZ (tw hw 30 rfl)) (by decide) (backOf (W := 0) (rm5v l Z a0 hw [] b32 b28_tr T34.heap n0 Zc35 fq34_2) hZ (tw hw 32 rfl) (tw hw 5 rfl) (by decide) (by decide)) q39a q39c (g := (mkF m 55 L38 [(.ref b32)])) rfl (szAt hml hL38 rfl) (Steps.refl _) (argsL := []) (rest := []) (lenOf pd_0_2 rfl) rfl (by show 2 * 0 + _ ≤ _; exact Nat.le_of_eq rfl) (hb hby at_55) (fun _ _ => ⟨rfl, eh37, (by decide : 3 + 0 ≤ _), (by decide : 7 + 0 ≤ _)⟩)
      dsimp only [Pt.U, Pt.locs, Pt.cells, Pt.slots] at X39 l39 y39 z39 st39 hQ39
      subst l39 y39 z39
      obtain ⟨rfl, N39q, eh39⟩ := hQ39
      have N39 := Fr.app N37 N39q
      refine Gl.st (B := (T39.setTop (mkF m 58 L38 [(.ref b28_tr)]))) (fun t k => st39.trans k) ?_
      refine Gl.st (B := (T39.setTop (mkF m 61 L38 []))) (fun t k => XS.ifnullNo X39.here hx rfl (hb hby at_58) rfl k) ?_
      refine Gl.st (B := (T39.setTop (mkF m 63 L38 [(.ref b32)]))) (fun t k => XS.aload X39.here hx rfl (hb hby at_61) (ldAt hL38 rfl) rfl k) ?_
      obtain ⟨cq40, kq40, q40a, q40b, q40c⟩ := isOf hZ eh39 fq34_0
      obtain ⟨_, _, ⟨T40, L40q, k40, n40⟩, -, X40, ⟨Lc40, hQ40, l40, y40, z40⟩, st40⟩ := X39.virtualBack hx (y := (⟨"com/example/idem1/idem1/Line", "problem", "()Lcom/example/idem1/idem1/Line$Problem;"⟩ : MethodName)) (z := (⟨"com/example/idem1/idem1/Line", "problem", "()Lcom/example/idem1/idem1/Line$Problem;"⟩ : MethodName)) hown (mvT hZ (tw hw 33 rfl)) (mvT hZ (tw hw 34 rfl)) (notFace_of_selects (args := #[]) (mvT hZ (tw hw 36 rfl))) (mvT hZ (tw hw 36 rfl)) (mvT hZ (tw hw 35 rfl)) (by decide) (backOf (W := 0) (rm6v l Z a0 hw [] b32 T34.heap n0 Zc35 fq34_3) hZ (tw hw 37 rfl) (tw hw 5 rfl) (by decide) (by decide)) q40a q40c (g := (mkF m 63 L38 [(.ref b32)])) rfl (szAt hml hL38 rfl) (Steps.refl _) (argsL := []) (rest := []) (lenOf pd_0_3 rfl) rfl (by show 2 * 0 + _ ≤ _; exact Nat.le_of_eq rfl) (hb hby at_63) (fun _ _ => ⟨rfl, eh39, (by decide : 3 + 0 ≤ _), (by decide : 7 + 0 ≤ _)⟩)
      dsimp only [Pt.U, Pt.locs, Pt.cells, Pt.slots] at X40 l40 y40 z40 st40 hQ40
      subst l40 y40 z40
      obtain ⟨rfl, N40q, eh40⟩ := hQ40
      have N40 := Fr.app N39 N40q
      refine Gl.st (B := (T40.setTop (mkF m 66 L38 [.null]))) (fun t k => st40.trans k) ?_
      refine Gl.st (B := (T40.setTop (mkF m 69 L38 []))) (fun t k => XS.ifnonnullNo X40.here hx rfl (hb hby at_66) rfl k) ?_
      refine Gl.st (B := (T40.setTop (mkF m 70 L38 [(.int (1 : Int32))]))) (fun t k => XS.iconst X40.here hx rfl (hb hby at_69) k) ?_
      refine Gl.st (B := (T40.setTop (mkF m 74 L38 [(.int (1 : Int32))]))) (fun t k => XS.goto X40.here hx rfl (pc0 := 70) (pc' := 74) rfl (hb hby at_70) (by decide) (by decide) k) ?_
      obtain ⟨fs, hr, hrun, hended, hRW⟩ := X40.leaveW hS28 (by rw [eh40]; exact (Nat.le_trans (Nat.le_trans (Nat.le_refl _) E32.1) Kc34.1)) (v := some (.int (nar .boolean (1 : Int32)))) (fun h => by rw [Bd.returns] at h; cases h)
      refine Gl.fin (retN X40 hx (t := .boolean) Bd.returns (by simp) (hb hby at_74) hr) hrun hended ⟨_, _, rfl, ?_, hRW.1, hRW.2.1, hRW.2.2.1, hRW.2.2.2.mono (by decide) (by decide)⟩
      show Q0 Z q1 p2 p3 p4 p5 z_NOT_UTF8 z_TOO_LONG z_COMP0 h0 n0 _ T40.heap _
      rw [eh40]
      exact ⟨rfl, N40⟩
    · skip
      refine Gl.st (B := (s₁.setTop (mkF m 19 L3 [(.int p3)]))) (fun t k => XS.iloadN X0.here hx rfl (hb hby at_18) (ldAt hL3 rfl) k) ?_
      refine Gl.st (B := (s₁.setTop (mkF m 21 L3 [(.int p4), (.int p3)]))) (fun t k => XS.iload X0.here hx rfl (hb hby at_19) (ldAt hL3 rfl) k) ?_
      refine Gl.st (B := (s₁.setTop (mkF m 23 L3 [(.int p5), (.int p4), (.int p3)]))) (fun t k => XS.iload X0.here hx rfl (hb hby at_21) (ldAt hL3 rfl) k) ?_
      have hp23_42 : ¬ (((p3 &&& (3 : Int32))) = (0 : Int32)) := by
        first | exact hks | (rw [hks]; decide)
      have hp23_43 : ((p3 &&& (3 : Int32))) = (1 : Int32) := by
        first | exact hks | (rw [hks]; decide)
      obtain ⟨_, _, ⟨T41, L41q, k41, n41⟩, -, X41, ⟨Lc41, hQ41, l41, y41, z41⟩, st41⟩ := Jvm.LawKit.callS X0 hx (y := (⟨"com/example/idem1/idem1/LineIsValidPinLaw", "drawText", "(III)Ljava/lang/String;"⟩ : MethodName)) hown (mvT hZ (tw hw 38 rfl)) (mvT hZ (tw hw 39 rfl)) (mvT hZ (tw hw 40 rfl)) (mvT hZ (tw hw 41 rfl)) (by decide) (backOf (W := 0) (rm7k1 l Z a0 hw [] p3 p4 p5 z_COMP0 h0 n0 Z0 hp23_42 hp23_43 S_COMP0 hr23_hr22_hq3) hZ (tw hw 41 rfl) (tw hw 40 rfl) (by decide) (by decide)) (g := (mkF m 23 L3 [(.int p5), (.int p4), (.int p3)])) rfl (szAt hml hL3 rfl) (argsL := [(.int p3), (.int p4), (.int p5)]) (rest := []) (lenOf pd_0_4 rfl) rfl (by show 2 * 0 + _ ≤ _; exact Nat.le_of_eq rfl) (hb hby at_23) (fun _ _ => ⟨rfl, e0, (by decide : 0 + 2 ≤ _), (by decide : 0 + 5 ≤ _)⟩)
      dsimp only [Pt.U, Pt.locs, Pt.cells, Pt.slots] at X41 l41 y41 z41 st41 hQ41
      subst l41 y41 z41
      obtain ⟨b41_t0, b41_t1, k41_kx_t1, rfl, N41q, Kc41, fq41_0, fq41_1, fq41_2, fq41_3, fq41_4, fq41_5, fq41_6⟩ := hQ41
      have g_b41_t0 : n0 ≤ b41_t0 := Nat.le_trans Z0 fq41_0
      have lt_b41_t0 := fq41_2.lt
      have g_b41_t1 : n0 ≤ b41_t1 := Nat.le_trans Z0 fq41_1
      have lt_b41_t1 := fq41_5.lt
      have Zc44 : n0 ≤ T41.heap.size := Nat.le_trans Z0 Kc41.1
      have N41 := Fr.app N0 N41q
      refine Gl.st (B := (T41.setTop (mkF m 26 L3 [(.ref b41_t0)]))) (fun t k => st41 t k) ?_
      obtain ⟨L45, hL45⟩ : ∃ z : Array Slot, z = #[.val (.long q1), .second, .val (.int p2), .val (.int p3), .val (.int p4), .val (.int p5), .val (.int (1 : Int32)), .val (.ref b41_t0), .unset, .unset] := ⟨_, rfl⟩
      refine Gl.st (B := (T41.setTop (mkF m 28 L45 []))) (fun t k => XS.astore X41.here hx rfl (hb hby at_26) rfl rfl (l' := L45) (stAt hL3 hL45 rfl rfl) k) ?_
      obtain ⟨T46, h46, X46, e46, E46, A46, D46, -, st46⟩ := newO X41 hx hZ hown (tw hw 3 rfl) (tw hw 4 rfl) (tw hw 5 rfl) rfl (g := (mkF m 28 L45 [])) rfl (hb hby at_28) (by decide) (by decide)
      obtain ⟨b46, gq46⟩ : ∃ z, z = T41.heap.size := ⟨_, rfl⟩
      rw [← gq46] at A46 D46 st46
      have g_b46 : n0 ≤ b46 := Nat.le_trans Zc44 (Nat.le_of_eq gq46.symm)
      have lt_b46 := A46.lt
      have Zc47 : n0 ≤ h46.size := Nat.le_trans Zc44 E46.1
      have F46_number : Fld Z h46 b46 "com/example/idem1/idem1/Line" "number" "J" (.long (0 : Int64)) := D46 (Or.inr (tw hw 18 rfl)) (ty := .long) (by decide)
      have F46_text : Fld Z h46 b46 "com/example/idem1/idem1/Line" "text" "Ljava/lang/String;" .null := D46 (Or.inr (tw hw 20 rfl)) (ty := (.object "java/lang/String")) (by decide)
      have F46_problem : Fld Z h46 b46 "com/example/idem1/idem1/Line" "problem" "Lcom/example/idem1/idem1/Line$Problem;" .null := D46 (Or.inr (tw hw 22 rfl)) (ty := (.object "com/example/idem1/idem1/Line$Problem")) (by decide)
      refine Gl.st (B := (T46.setTop (mkF m 31 L45 [(.ref b46)]))) st46 ?_
      refine Gl.st (B := (T46.setTop (mkF m 32 L45 [(.ref b46), (.ref b46)]))) (fun t k => XS.dup X46.here hx rfl (hb hby at_31) rfl rfl k) ?_
      refine Gl.st (B := (T46.setTop (mkF m 33 L45 [(.long q1), (.ref b46), (.ref b46)]))) (fun t k => XS.lloadN X46.here hx rfl (hb hby at_32) (ldAt hL45 rfl) k) ?_
      refine Gl.st (B := (T46.setTop (mkF m 35 L45 [(.ref b41_t0), (.long q1), (.ref b46), (.ref b46)]))) (fun t k => XS.aload X46.here hx rfl (hb hby at_33) (ldAt hL45 rfl) rfl k) ?_
      refine Gl.st (B := (T46.setTop (mkF m 36 L45 [.null, (.ref b41_t0), (.long q1), (.ref b46), (.ref b46)]))) (fun t k => XS.aconstNull X46.here hx rfl (hb hby at_35) k) ?_
      obtain ⟨_, _, ⟨T48, L48q, k48, n48⟩, -, X48, ⟨Lc48, hQ48, l48, y48, z48⟩, st48⟩ := X46.specialBack hx (y := (⟨"com/example/idem1/idem1/Line", "<init>", "(JLjava/lang/String;Lcom/example/idem1/idem1/Line$Problem;)V"⟩ : MethodName)) rfl hown (mvT hZ (tw hw 6 rfl)) (mvT hZ (tw hw 7 rfl)) (mvT hZ (tw hw 8 rfl)) (by decide) (backOf (W := 1) (rm1v l Z a0 hw [] b46 q1 b41_t0 ((.long (0 : Int64))) .null .null h46 n0 Zc47 F46_number F46_text F46_problem A46 g_b46) hZ (tw hw 8 rfl) (tw hw 5 rfl) (by decide) (by decide)) (g := (mkF m 36 L45 [.null, (.ref b41_t0), (.long q1), (.ref b46), (.ref b46)])) rfl (szAt hml hL45 rfl) (Steps.refl _) (a := b46) (argsL := [(.long q1), (.ref b41_t0), .null]) (rest := [(.ref b46)]) (lenOf pd_0_0 rfl) rfl (by show 2 * 0 + _ ≤ _; exact Nat.le_of_eq rfl) (hb hby at_36) (fun _ _ => ⟨rfl, e46, (by decide : 3 + 0 ≤ _), (by decide : 8 + 0 ≤ _)⟩)
      dsimp only [Pt.U, Pt.locs, Pt.cells, Pt.slots] at X48 l48 y48 z48 st48 hQ48
      subst l48 y48 z48
      obtain ⟨rfl, N48q, Kc48, fq48_0, fq48_1, fq48_2, fq48_3⟩ := hQ48
      have Zc49 : n0 ≤ T48.heap.size := Nat.le_trans Zc47 Kc48.1
      have N48 := Fr.app N41 N48q
      refine Gl.st (B := (T48.setTop (mkF m 39 L45 [(.ref b46)]))) (fun t k => st48.trans k) ?_
      obtain ⟨L50, hL50⟩ : ∃ z : Array Slot, z = #[.val (.long q1), .second, .val (.int p2), .val (.int p3), .val (.int p4), .val (.int p5), .val (.int (1 : Int32)), .val (.ref b41_t0), .val (.ref b46), .unset] := ⟨_, rfl⟩
      refine Gl.st (B := (T48.setTop (mkF m 41 L50 []))) (fun t k => XS.astore X48.here hx rfl (hb hby at_39) rfl rfl (l' := L50) (stAt hL45 hL50 rfl rfl) k) ?_
      refine Gl.st (B := (T48.setTop (mkF m 43 L50 [(.ref b46)]))) (fun t k => XS.aload X48.here hx rfl (hb hby at_41) (ldAt hL50 rfl) rfl k) ?_
      obtain ⟨cq51, kq51, q51a, q51b, q51c⟩ := isOf hZ rfl fq48_0
      obtain ⟨_, _, ⟨T51, L51q, k51, n51⟩, -, X51, ⟨Lc51, hQ51, l51, y51, z51⟩, st51⟩ := X48.virtualBack hx (y := (⟨"com/example/idem1/idem1/Line", "isValid", "()Z"⟩ : MethodName)) (z := (⟨"com/example/idem1/idem1/Line", "isValid", "()Z"⟩ : MethodName)) hown (mvT hZ (tw hw 23 rfl)) (mvT hZ (tw hw 24 rfl)) (notFace_of_selects (args := #[]) (mvT hZ (tw hw 26 rfl))) (mvT hZ (tw hw 26 rfl)) (mvT hZ (tw hw 25 rfl)) (by decide) (backOf (W := 0) (rm4v l Z a0 hw [] b46 T48.heap n0 Zc49 fq48_3) hZ (tw hw 27 rfl) (tw hw 5 rfl) (by decide) (by decide)) q51a q51c (g := (mkF m 43 L50 [(.ref b46)])) rfl (szAt hml hL50 rfl) (Steps.refl _) (argsL := []) (rest := []) (lenOf pd_0_1 rfl) rfl (by show 2 * 0 + _ ≤ _; exact Nat.le_of_eq rfl) (hb hby at_43) (fun _ _ => ⟨rfl, rfl, (by decide : 3 + 0 ≤ _), (by decide : 8 + 0 ≤ _)⟩)
      dsimp only [Pt.U, Pt.locs, Pt.cells, Pt.slots] at X51 l51 y51 z51 st51 hQ51
      subst l51 y51 z51
      obtain ⟨rfl, N51q, eh51⟩ := hQ51
      have N51 := Fr.app N48 N51q
      refine Gl.st (B := (T51.setTop (mkF m 46 L50 [(.int (1 : Int32))]))) (fun t k => st51.trans k) ?_
      obtain ⟨L52, hL52⟩ : ∃ z : Array Slot, z = #[.val (.long q1), .second, .val (.int p2), .val (.int p3), .val (.int p4), .val (.int p5), .val (.int (1 : Int32)), .val (.ref b41_t0), .val (.ref b46), .val (.int (1 : Int32))] := ⟨_, rfl⟩
      refine Gl.st (B := (T51.setTop (mkF m 48 L52 []))) (fun t k => XS.istore X51.here hx rfl (hb hby at_46) rfl (l' := L52) (stAt hL50 hL52 rfl rfl) k) ?_
      refine Gl.st (B := (T51.setTop (mkF m 50 L52 [(.int (1 : Int32))]))) (fun t k => XS.iload X51.here hx rfl (hb hby at_48) (ldAt hL52 rfl) k) ?_
      refine Gl.st (B := (T51.setTop (mkF m 53 L52 []))) (fun t k => XS.ifNo X51.here hx rfl (hb hby at_50) rfl (by decide) k) ?_
      refine Gl.st (B := (T51.setTop (mkF m 55 L52 [(.ref b46)]))) (fun t k => XS.aload X51.here hx rfl (hb hby at_53) (ldAt hL52 rfl) rfl k) ?_
      obtain ⟨cq53, kq53, q53a, q53b, q53c⟩ := isOf hZ eh51 fq48_0
      obtain ⟨_, _, ⟨T53, L53q, k53, n53⟩, -, X53, ⟨Lc53, hQ53, l53, y53, z53⟩, st53⟩ := X51.virtualBack hx (y := (⟨"com/example/idem1/idem1/Line", "text", "()Ljava/lang/String;"⟩ : MethodName)) (z := (⟨"com/example/idem1/idem1/Line", "text", "()Ljava/lang/String;"⟩ : MethodName)) hown (mvT hZ (tw hw 28 rfl)) (mvT hZ (tw hw 29 rfl)) (notFace_of_selects (args := #[]) (mvT hZ (tw hw 31 rfl))) (mvT hZ (tw hw 31 rfl)) (mvT hZ (tw hw 30 rfl)) (by decide) (backOf (W := 0) (rm5v l Z a0 hw [] b46 b41_t0 T48.heap n0 Zc49 fq48_2) hZ (tw hw 32 rfl) (tw hw 5 rfl) (by decide) (by decide)) q53a q53c (g := (mkF m 55 L52 [(.ref b46)])) rfl (szAt hml hL52 rfl) (Steps.refl _) (argsL := []) (rest := []) (lenOf pd_0_2 rfl) rfl (by show 2 * 0 + _ ≤ _; exact Nat.le_of_eq rfl) (hb hby at_55) (fun _ _ => ⟨rfl, eh51, (by decide : 3 + 0 ≤ _), (by decide : 8 + 0 ≤ _)⟩)
      dsimp only [Pt.U, Pt.locs, Pt.cells, Pt.slots] at X53 l53 y53 z53 st53 hQ53
      subst l53 y53 z53
      obtain ⟨rfl, N53q, eh53⟩ := hQ53
      have N53 := Fr.app N51 N53q
      refine Gl.st (B := (T53.setTop (mkF m 58 L52 [(.ref b41_t0)]))) (fun t k => st53.trans k) ?_
      refine Gl.st (B := (T53.setTop (mkF m 61 L52 []))) (fun t k => XS.ifnullNo X53.here hx rfl (hb hby at_58) rfl k) ?_
      refine Gl.st (B := (T53.setTop (mkF m 63 L52 [(.ref b46)]))) (fun t k => XS.aload X53.here hx rfl (hb hby at_61) (ldAt hL52 rfl) rfl k) ?_
      obtain ⟨cq54, kq54, q54a, q54b, q54c⟩ := isOf hZ eh53 fq48_0
      obtain ⟨_, _, ⟨T54, L54q, k54, n54⟩, -, X54, ⟨Lc54, hQ54, l54, y54, z54⟩, st54⟩ := X53.virtualBack hx (y := (⟨"com/example/idem1/idem1/Line", "problem", "()Lcom/example/idem1/idem1/Line$Problem;"⟩ : MethodName)) (z := (⟨"com/example/idem1/idem1/Line", "problem", "()Lcom/example/idem1/idem1/Line$Problem;"⟩ : MethodName)) hown (mvT hZ (tw hw 33 rfl)) (mvT hZ (tw hw 34 rfl)) (notFace_of_selects (args := #[]) (mvT hZ (tw hw 36 rfl))) (mvT hZ (tw hw 36 rfl)) (mvT hZ (tw hw 35 rfl)) (by decide) (backOf (W := 0) (rm6v l Z a0 hw [] b46 T48.heap n0 Zc49 fq48_3) hZ (tw hw 37 rfl) (tw hw 5 rfl) (by decide) (by decide)) q54a q54c (g := (mkF m 63 L52 [(.ref b46)])) rfl (szAt hml hL52 rfl) (Steps.refl _) (argsL := []) (rest := []) (lenOf pd_0_3 rfl) rfl (by show 2 * 0 + _ ≤ _; exact Nat.le_of_eq rfl) (hb hby at_63) (fun _ _ => ⟨rfl, eh53, (by decide : 3 + 0 ≤ _), (by decide : 8 + 0 ≤ _)⟩)
      dsimp only [Pt.U, Pt.locs, Pt.cells, Pt.slots] at X54 l54 y54 z54 st54 hQ54
      subst l54 y54 z54
      obtain ⟨rfl, N54q, eh54⟩ := hQ54
      have N54 := Fr.app N53 N54q
      refine Gl.st (B := (T54.setTop (mkF m 66 L52 [.null]))) (fun t k => st54.trans k) ?_
      refine Gl.st (B := (T54.setTop (mkF m 69 L52 []))) (fun t k => XS.ifnonnullNo X54.here hx rfl (hb hby at_66) rfl k) ?_
      refine Gl.st (B := (T54.setTop (mkF m 70 L52 [(.int (1 : Int32))]))) (fun t k => XS.iconst X54.here hx rfl (hb hby at_69) k) ?_
      refine Gl.st (B := (T54.setTop (mkF m 74 L52 [(.int (1 : Int32))]))) (fun t k => XS.goto X54.here hx rfl (pc0 := 70) (pc' := 74) rfl (hb hby at_70) (by decide) (by decide) k) ?_
      obtain ⟨fs, hr, hrun, hended, hRW⟩ := X54.leaveW hS0 (by rw [eh54]; exact (Nat.le_trans (Nat.le_trans (Nat.le_trans (Nat.zero_le _) Kc41.1) E46.1) Kc48.1)) (v := some (.int (nar .boolean (1 : Int32)))) (fun h => by rw [Bd.returns] at h; cases h)
      refine Gl.fin (retN X54 hx (t := .boolean) Bd.returns (by simp) (hb hby at_74) hr) hrun hended ⟨_, _, rfl, ?_, hRW.1, hRW.2.1, hRW.2.2.1, hRW.2.2.2.mono (by decide) (by decide)⟩
      show Q0 Z q1 p2 p3 p4 p5 z_NOT_UTF8 z_TOO_LONG z_COMP0 h0 n0 _ T54.heap _
      rw [eh54]
      exact ⟨rfl, N54⟩
    · skip
      refine Gl.st (B := (s₁.setTop (mkF m 19 L3 [(.int p3)]))) (fun t k => XS.iloadN X0.here hx rfl (hb hby at_18) (ldAt hL3 rfl) k) ?_
      refine Gl.st (B := (s₁.setTop (mkF m 21 L3 [(.int p4), (.int p3)]))) (fun t k => XS.iload X0.here hx rfl (hb hby at_19) (ldAt hL3 rfl) k) ?_
      refine Gl.st (B := (s₁.setTop (mkF m 23 L3 [(.int p5), (.int p4), (.int p3)]))) (fun t k => XS.iload X0.here hx rfl (hb hby at_21) (ldAt hL3 rfl) k) ?_
      have hp23_56 : ¬ (((p3 &&& (3 : Int32))) = (0 : Int32)) := by
        first | exact hks | (rw [hks]; decide)
      have hp23_57 : ¬ (((p3 &&& (3 : Int32))) = (1 : Int32)) := by
        first | exact hks | (rw [hks]; decide)
      obtain ⟨_, _, ⟨T55, L55q, k55, n55⟩, -, X55, ⟨Lc55, hQ55, l55, y55, z55⟩, st55⟩ := Jvm.LawKit.callS X0 hx (y := (⟨"com/example/idem1/idem1/LineIsValidPinLaw", "drawText", "(III)Ljava/lang/String;"⟩ : MethodName)) hown (mvT hZ (tw hw 38 rfl)) (mvT hZ (tw hw 39 rfl)) (mvT hZ (tw hw 40 rfl)) (mvT hZ (tw hw 41 rfl)) (by decide) (backOf (W := 0) (rm7k2 l Z a0 hw [] p3 p4 p5 z_COMP0 h0 n0 Z0 hp23_56 hp23_57 S_COMP0 hr23_hr57_hr6_hq30) hZ (tw hw 41 rfl) (tw hw 40 rfl) (by decide) (by decide)) (g := (mkF m 23 L3 [(.int p5), (.int p4), (.int p3)])) rfl (szAt hml hL3 rfl) (argsL := [(.int p3), (.int p4), (.int p5)]) (rest := []) (lenOf pd_0_4 rfl) rfl (by show 2 * 0 + _ ≤ _; exact Nat.le_of_eq rfl) (hb hby at_23) (fun _ _ => ⟨rfl, e0, (by decide : 0 + 3 ≤ _), (by decide : 0 + 8 ≤ _)⟩)
      dsimp only [Pt.U, Pt.locs, Pt.cells, Pt.slots] at X55 l55 y55 z55 st55 hQ55
      subst l55 y55 z55
      obtain ⟨b55_t0, b55_t1, k55_kx_t1, rfl, N55q, Kc55, fq55_0, fq55_1, fq55_2, fq55_3, fq55_4, fq55_5, fq55_6⟩ := hQ55
      have g_b55_t0 : n0 ≤ b55_t0 := Nat.le_trans Z0 fq55_0
      have lt_b55_t0 := fq55_2.lt
      have g_b55_t1 : n0 ≤ b55_t1 := Nat.le_trans Z0 fq55_1
      have lt_b55_t1 := fq55_5.lt
      have Zc58 : n0 ≤ T55.heap.size := Nat.le_trans Z0 Kc55.1
      have N55 := Fr.app N0 N55q
      refine Gl.st (B := (T55.setTop (mkF m 26 L3 [(.ref b55_t0)]))) (fun t k => st55 t k) ?_
      obtain ⟨L59, hL59⟩ : ∃ z : Array Slot, z = #[.val (.long q1), .second, .val (.int p2), .val (.int p3), .val (.int p4), .val (.int p5), .val (.int (1 : Int32)), .val (.ref b55_t0), .unset, .unset] := ⟨_, rfl⟩
      refine Gl.st (B := (T55.setTop (mkF m 28 L59 []))) (fun t k => XS.astore X55.here hx rfl (hb hby at_26) rfl rfl (l' := L59) (stAt hL3 hL59 rfl rfl) k) ?_
      obtain ⟨T60, h60, X60, e60, E60, A60, D60, -, st60⟩ := newO X55 hx hZ hown (tw hw 3 rfl) (tw hw 4 rfl) (tw hw 5 rfl) rfl (g := (mkF m 28 L59 [])) rfl (hb hby at_28) (by decide) (by decide)
      obtain ⟨b60, gq60⟩ : ∃ z, z = T55.heap.size := ⟨_, rfl⟩
      rw [← gq60] at A60 D60 st60
      have g_b60 : n0 ≤ b60 := Nat.le_trans Zc58 (Nat.le_of_eq gq60.symm)
      have lt_b60 := A60.lt
      have Zc61 : n0 ≤ h60.size := Nat.le_trans Zc58 E60.1
      have F60_number : Fld Z h60 b60 "com/example/idem1/idem1/Line" "number" "J" (.long (0 : Int64)) := D60 (Or.inr (tw hw 18 rfl)) (ty := .long) (by decide)
      have F60_text : Fld Z h60 b60 "com/example/idem1/idem1/Line" "text" "Ljava/lang/String;" .null := D60 (Or.inr (tw hw 20 rfl)) (ty := (.object "java/lang/String")) (by decide)
      have F60_problem : Fld Z h60 b60 "com/example/idem1/idem1/Line" "problem" "Lcom/example/idem1/idem1/Line$Problem;" .null := D60 (Or.inr (tw hw 22 rfl)) (ty := (.object "com/example/idem1/idem1/Line$Problem")) (by decide)
      refine Gl.st (B := (T60.setTop (mkF m 31 L59 [(.ref b60)]))) st60 ?_
      refine Gl.st (B := (T60.setTop (mkF m 32 L59 [(.ref b60), (.ref b60)]))) (fun t k => XS.dup X60.here hx rfl (hb hby at_31) rfl rfl k) ?_
      refine Gl.st (B := (T60.setTop (mkF m 33 L59 [(.long q1), (.ref b60), (.ref b60)]))) (fun t k => XS.lloadN X60.here hx rfl (hb hby at_32) (ldAt hL59 rfl) k) ?_
      refine Gl.st (B := (T60.setTop (mkF m 35 L59 [(.ref b55_t0), (.long q1), (.ref b60), (.ref b60)]))) (fun t k => XS.aload X60.here hx rfl (hb hby at_33) (ldAt hL59 rfl) rfl k) ?_
      refine Gl.st (B := (T60.setTop (mkF m 36 L59 [.null, (.ref b55_t0), (.long q1), (.ref b60), (.ref b60)]))) (fun t k => XS.aconstNull X60.here hx rfl (hb hby at_35) k) ?_
      obtain ⟨_, _, ⟨T62, L62q, k62, n62⟩, -, X62, ⟨Lc62, hQ62, l62, y62, z62⟩, st62⟩ := X60.specialBack hx (y := (⟨"com/example/idem1/idem1/Line", "<init>", "(JLjava/lang/String;Lcom/example/idem1/idem1/Line$Problem;)V"⟩ : MethodName)) rfl hown (mvT hZ (tw hw 6 rfl)) (mvT hZ (tw hw 7 rfl)) (mvT hZ (tw hw 8 rfl)) (by decide) (backOf (W := 1) (rm1v l Z a0 hw [] b60 q1 b55_t0 ((.long (0 : Int64))) .null .null h60 n0 Zc61 F60_number F60_text F60_problem A60 g_b60) hZ (tw hw 8 rfl) (tw hw 5 rfl) (by decide) (by decide)) (g := (mkF m 36 L59 [.null, (.ref b55_t0), (.long q1), (.ref b60), (.ref b60)])) rfl (szAt hml hL59 rfl) (Steps.refl _) (a := b60) (argsL := [(.long q1), (.ref b55_t0), .null]) (rest := [(.ref b60)]) (lenOf pd_0_0 rfl) rfl (by show 2 * 0 + _ ≤ _; exact Nat.le_of_eq rfl) (hb hby at_36) (fun _ _ => ⟨rfl, e60, (by decide : 4 + 0 ≤ _), (by decide : 11 + 0 ≤ _)⟩)
      dsimp only [Pt.U, Pt.locs, Pt.cells, Pt.slots] at X62 l62 y62 z62 st62 hQ62
      subst l62 y62 z62
      obtain ⟨rfl, N62q, Kc62, fq62_0, fq62_1, fq62_2, fq62_3⟩ := hQ62
      have Zc63 : n0 ≤ T62.heap.size := Nat.le_trans Zc61 Kc62.1
      have N62 := Fr.app N55 N62q
      refine Gl.st (B := (T62.setTop (mkF m 39 L59 [(.ref b60)]))) (fun t k => st62.trans k) ?_
      obtain ⟨L64, hL64⟩ : ∃ z : Array Slot, z = #[.val (.long q1), .second, .val (.int p2), .val (.int p3), .val (.int p4), .val (.int p5), .val (.int (1 : Int32)), .val (.ref b55_t0), .val (.ref b60), .unset] := ⟨_, rfl⟩
      refine Gl.st (B := (T62.setTop (mkF m 41 L64 []))) (fun t k => XS.astore X62.here hx rfl (hb hby at_39) rfl rfl (l' := L64) (stAt hL59 hL64 rfl rfl) k) ?_
      refine Gl.st (B := (T62.setTop (mkF m 43 L64 [(.ref b60)]))) (fun t k => XS.aload X62.here hx rfl (hb hby at_41) (ldAt hL64 rfl) rfl k) ?_
      obtain ⟨cq65, kq65, q65a, q65b, q65c⟩ := isOf hZ rfl fq62_0
      obtain ⟨_, _, ⟨T65, L65q, k65, n65⟩, -, X65, ⟨Lc65, hQ65, l65, y65, z65⟩, st65⟩ := X62.virtualBack hx (y := (⟨"com/example/idem1/idem1/Line", "isValid", "()Z"⟩ : MethodName)) (z := (⟨"com/example/idem1/idem1/Line", "isValid", "()Z"⟩ : MethodName)) hown (mvT hZ (tw hw 23 rfl)) (mvT hZ (tw hw 24 rfl)) (notFace_of_selects (args := #[]) (mvT hZ (tw hw 26 rfl))) (mvT hZ (tw hw 26 rfl)) (mvT hZ (tw hw 25 rfl)) (by decide) (backOf (W := 0) (rm4v l Z a0 hw [] b60 T62.heap n0 Zc63 fq62_3) hZ (tw hw 27 rfl) (tw hw 5 rfl) (by decide) (by decide)) q65a q65c (g := (mkF m 43 L64 [(.ref b60)])) rfl (szAt hml hL64 rfl) (Steps.refl _) (argsL := []) (rest := []) (lenOf pd_0_1 rfl) rfl (by show 2 * 0 + _ ≤ _; exact Nat.le_of_eq rfl) (hb hby at_43) (fun _ _ => ⟨rfl, rfl, (by decide : 4 + 0 ≤ _), (by decide : 11 + 0 ≤ _)⟩)
      dsimp only [Pt.U, Pt.locs, Pt.cells, Pt.slots] at X65 l65 y65 z65 st65 hQ65
      subst l65 y65 z65
      obtain ⟨rfl, N65q, eh65⟩ := hQ65
      have N65 := Fr.app N62 N65q
      refine Gl.st (B := (T65.setTop (mkF m 46 L64 [(.int (1 : Int32))]))) (fun t k => st65.trans k) ?_
      obtain ⟨L66, hL66⟩ : ∃ z : Array Slot, z = #[.val (.long q1), .second, .val (.int p2), .val (.int p3), .val (.int p4), .val (.int p5), .val (.int (1 : Int32)), .val (.ref b55_t0), .val (.ref b60), .val (.int (1 : Int32))] := ⟨_, rfl⟩
      refine Gl.st (B := (T65.setTop (mkF m 48 L66 []))) (fun t k => XS.istore X65.here hx rfl (hb hby at_46) rfl (l' := L66) (stAt hL64 hL66 rfl rfl) k) ?_
      refine Gl.st (B := (T65.setTop (mkF m 50 L66 [(.int (1 : Int32))]))) (fun t k => XS.iload X65.here hx rfl (hb hby at_48) (ldAt hL66 rfl) k) ?_
      refine Gl.st (B := (T65.setTop (mkF m 53 L66 []))) (fun t k => XS.ifNo X65.here hx rfl (hb hby at_50) rfl (by decide) k) ?_
      refine Gl.st (B := (T65.setTop (mkF m 55 L66 [(.ref b60)]))) (fun t k => XS.aload X65.here hx rfl (hb hby at_53) (ldAt hL66 rfl) rfl k) ?_
      obtain ⟨cq67, kq67, q67a, q67b, q67c⟩ := isOf hZ eh65 fq62_0
      obtain ⟨_, _, ⟨T67, L67q, k67, n67⟩, -, X67, ⟨Lc67, hQ67, l67, y67, z67⟩, st67⟩ := X65.virtualBack hx (y := (⟨"com/example/idem1/idem1/Line", "text", "()Ljava/lang/String;"⟩ : MethodName)) (z := (⟨"com/example/idem1/idem1/Line", "text", "()Ljava/lang/String;"⟩ : MethodName)) hown (mvT hZ (tw hw 28 rfl)) (mvT hZ (tw hw 29 rfl)) (notFace_of_selects (args := #[]) (mvT hZ (tw hw 31 rfl))) (mvT hZ (tw hw 31 rfl)) (mvT hZ (tw hw 30 rfl)) (by decide) (backOf (W := 0) (rm5v l Z a0 hw [] b60 b55_t0 T62.heap n0 Zc63 fq62_2) hZ (tw hw 32 rfl) (tw hw 5 rfl) (by decide) (by decide)) q67a q67c (g := (mkF m 55 L66 [(.ref b60)])) rfl (szAt hml hL66 rfl) (Steps.refl _) (argsL := []) (rest := []) (lenOf pd_0_2 rfl) rfl (by show 2 * 0 + _ ≤ _; exact Nat.le_of_eq rfl) (hb hby at_55) (fun _ _ => ⟨rfl, eh65, (by decide : 4 + 0 ≤ _), (by decide : 11 + 0 ≤ _)⟩)
      dsimp only [Pt.U, Pt.locs, Pt.cells, Pt.slots] at X67 l67 y67 z67 st67 hQ67
      subst l67 y67 z67
      obtain ⟨rfl, N67q, eh67⟩ := hQ67
      have N67 := Fr.app N65 N67q
      refine Gl.st (B := (T67.setTop (mkF m 58 L66 [(.ref b55_t0)]))) (fun t k => st67.trans k) ?_
      refine Gl.st (B := (T67.setTop (mkF m 61 L66 []))) (fun t k => XS.ifnullNo X67.here hx rfl (hb hby at_58) rfl k) ?_
      refine Gl.st (B := (T67.setTop (mkF m 63 L66 [(.ref b60)]))) (fun t k => XS.aload X67.here hx rfl (hb hby at_61) (ldAt hL66 rfl) rfl k) ?_
      obtain ⟨cq68, kq68, q68a, q68b, q68c⟩ := isOf hZ eh67 fq62_0
      obtain ⟨_, _, ⟨T68, L68q, k68, n68⟩, -, X68, ⟨Lc68, hQ68, l68, y68, z68⟩, st68⟩ := X67.virtualBack hx (y := (⟨"com/example/idem1/idem1/Line", "problem", "()Lcom/example/idem1/idem1/Line$Problem;"⟩ : MethodName)) (z := (⟨"com/example/idem1/idem1/Line", "problem", "()Lcom/example/idem1/idem1/Line$Problem;"⟩ : MethodName)) hown (mvT hZ (tw hw 33 rfl)) (mvT hZ (tw hw 34 rfl)) (notFace_of_selects (args := #[]) (mvT hZ (tw hw 36 rfl))) (mvT hZ (tw hw 36 rfl)) (mvT hZ (tw hw 35 rfl)) (by decide) (backOf (W := 0) (rm6v l Z a0 hw [] b60 T62.heap n0 Zc63 fq62_3) hZ (tw hw 37 rfl) (tw hw 5 rfl) (by decide) (by decide)) q68a q68c (g := (mkF m 63 L66 [(.ref b60)])) rfl (szAt hml hL66 rfl) (Steps.refl _) (argsL := []) (rest := []) (lenOf pd_0_3 rfl) rfl (by show 2 * 0 + _ ≤ _; exact Nat.le_of_eq rfl) (hb hby at_63) (fun _ _ => ⟨rfl, eh67, (by decide : 4 + 0 ≤ _), (by decide : 11 + 0 ≤ _)⟩)
      dsimp only [Pt.U, Pt.locs, Pt.cells, Pt.slots] at X68 l68 y68 z68 st68 hQ68
      subst l68 y68 z68
      obtain ⟨rfl, N68q, eh68⟩ := hQ68
      have N68 := Fr.app N67 N68q
      refine Gl.st (B := (T68.setTop (mkF m 66 L66 [.null]))) (fun t k => st68.trans k) ?_
      refine Gl.st (B := (T68.setTop (mkF m 69 L66 []))) (fun t k => XS.ifnonnullNo X68.here hx rfl (hb hby at_66) rfl k) ?_
      refine Gl.st (B := (T68.setTop (mkF m 70 L66 [(.int (1 : Int32))]))) (fun t k => XS.iconst X68.here hx rfl (hb hby at_69) k) ?_
      refine Gl.st (B := (T68.setTop (mkF m 74 L66 [(.int (1 : Int32))]))) (fun t k => XS.goto X68.here hx rfl (pc0 := 70) (pc' := 74) rfl (hb hby at_70) (by decide) (by decide) k) ?_
      obtain ⟨fs, hr, hrun, hended, hRW⟩ := X68.leaveW hS0 (by rw [eh68]; exact (Nat.le_trans (Nat.le_trans (Nat.le_trans (Nat.zero_le _) Kc55.1) E60.1) Kc62.1)) (v := some (.int (nar .boolean (1 : Int32)))) (fun h => by rw [Bd.returns] at h; cases h)
      refine Gl.fin (retN X68 hx (t := .boolean) Bd.returns (by simp) (hb hby at_74) hr) hrun hended ⟨_, _, rfl, ?_, hRW.1, hRW.2.1, hRW.2.2.1, hRW.2.2.2.mono (by decide) (by decide)⟩
      show Q0 Z q1 p2 p3 p4 p5 z_NOT_UTF8 z_TOO_LONG z_COMP0 h0 n0 _ T68.heap _
      rw [eh68]
      exact ⟨rfl, N68⟩
    · skip
      refine Gl.st (B := (s₁.setTop (mkF m 19 L3 [(.int p3)]))) (fun t k => XS.iloadN X0.here hx rfl (hb hby at_18) (ldAt hL3 rfl) k) ?_
      refine Gl.st (B := (s₁.setTop (mkF m 21 L3 [(.int p4), (.int p3)]))) (fun t k => XS.iload X0.here hx rfl (hb hby at_19) (ldAt hL3 rfl) k) ?_
      refine Gl.st (B := (s₁.setTop (mkF m 23 L3 [(.int p5), (.int p4), (.int p3)]))) (fun t k => XS.iload X0.here hx rfl (hb hby at_21) (ldAt hL3 rfl) k) ?_
      have hp23_70 : ¬ (((p3 &&& (3 : Int32))) = (0 : Int32)) := by
        first | exact hks | (rw [hks]; decide)
      have hp23_71 : ¬ (((p3 &&& (3 : Int32))) = (1 : Int32)) := by
        first | exact hks | (rw [hks]; decide)
      obtain ⟨_, _, ⟨T69, L69q, k69, n69⟩, -, X69, ⟨Lc69, hQ69, l69, y69, z69⟩, st69⟩ := Jvm.LawKit.callS X0 hx (y := (⟨"com/example/idem1/idem1/LineIsValidPinLaw", "drawText", "(III)Ljava/lang/String;"⟩ : MethodName)) hown (mvT hZ (tw hw 38 rfl)) (mvT hZ (tw hw 39 rfl)) (mvT hZ (tw hw 40 rfl)) (mvT hZ (tw hw 41 rfl)) (by decide) (backOf (W := 0) (rm7k2 l Z a0 hw [] p3 p4 p5 z_COMP0 h0 n0 Z0 hp23_70 hp23_71 S_COMP0 hr23_hr57_hr6_hq30) hZ (tw hw 41 rfl) (tw hw 40 rfl) (by decide) (by decide)) (g := (mkF m 23 L3 [(.int p5), (.int p4), (.int p3)])) rfl (szAt hml hL3 rfl) (argsL := [(.int p3), (.int p4), (.int p5)]) (rest := []) (lenOf pd_0_4 rfl) rfl (by show 2 * 0 + _ ≤ _; exact Nat.le_of_eq rfl) (hb hby at_23) (fun _ _ => ⟨rfl, e0, (by decide : 0 + 3 ≤ _), (by decide : 0 + 8 ≤ _)⟩)
      dsimp only [Pt.U, Pt.locs, Pt.cells, Pt.slots] at X69 l69 y69 z69 st69 hQ69
      subst l69 y69 z69
      obtain ⟨b69_t0, b69_t1, k69_kx_t1, rfl, N69q, Kc69, fq69_0, fq69_1, fq69_2, fq69_3, fq69_4, fq69_5, fq69_6⟩ := hQ69
      have g_b69_t0 : n0 ≤ b69_t0 := Nat.le_trans Z0 fq69_0
      have lt_b69_t0 := fq69_2.lt
      have g_b69_t1 : n0 ≤ b69_t1 := Nat.le_trans Z0 fq69_1
      have lt_b69_t1 := fq69_5.lt
      have Zc72 : n0 ≤ T69.heap.size := Nat.le_trans Z0 Kc69.1
      have N69 := Fr.app N0 N69q
      refine Gl.st (B := (T69.setTop (mkF m 26 L3 [(.ref b69_t0)]))) (fun t k => st69 t k) ?_
      obtain ⟨L73, hL73⟩ : ∃ z : Array Slot, z = #[.val (.long q1), .second, .val (.int p2), .val (.int p3), .val (.int p4), .val (.int p5), .val (.int (1 : Int32)), .val (.ref b69_t0), .unset, .unset] := ⟨_, rfl⟩
      refine Gl.st (B := (T69.setTop (mkF m 28 L73 []))) (fun t k => XS.astore X69.here hx rfl (hb hby at_26) rfl rfl (l' := L73) (stAt hL3 hL73 rfl rfl) k) ?_
      obtain ⟨T74, h74, X74, e74, E74, A74, D74, -, st74⟩ := newO X69 hx hZ hown (tw hw 3 rfl) (tw hw 4 rfl) (tw hw 5 rfl) rfl (g := (mkF m 28 L73 [])) rfl (hb hby at_28) (by decide) (by decide)
      obtain ⟨b74, gq74⟩ : ∃ z, z = T69.heap.size := ⟨_, rfl⟩
      rw [← gq74] at A74 D74 st74
      have g_b74 : n0 ≤ b74 := Nat.le_trans Zc72 (Nat.le_of_eq gq74.symm)
      have lt_b74 := A74.lt
      have Zc75 : n0 ≤ h74.size := Nat.le_trans Zc72 E74.1
      have F74_number : Fld Z h74 b74 "com/example/idem1/idem1/Line" "number" "J" (.long (0 : Int64)) := D74 (Or.inr (tw hw 18 rfl)) (ty := .long) (by decide)
      have F74_text : Fld Z h74 b74 "com/example/idem1/idem1/Line" "text" "Ljava/lang/String;" .null := D74 (Or.inr (tw hw 20 rfl)) (ty := (.object "java/lang/String")) (by decide)
      have F74_problem : Fld Z h74 b74 "com/example/idem1/idem1/Line" "problem" "Lcom/example/idem1/idem1/Line$Problem;" .null := D74 (Or.inr (tw hw 22 rfl)) (ty := (.object "com/example/idem1/idem1/Line$Problem")) (by decide)
      refine Gl.st (B := (T74.setTop (mkF m 31 L73 [(.ref b74)]))) st74 ?_
      refine Gl.st (B := (T74.setTop (mkF m 32 L73 [(.ref b74), (.ref b74)]))) (fun t k => XS.dup X74.here hx rfl (hb hby at_31) rfl rfl k) ?_
      refine Gl.st (B := (T74.setTop (mkF m 33 L73 [(.long q1), (.ref b74), (.ref b74)]))) (fun t k => XS.lloadN X74.here hx rfl (hb hby at_32) (ldAt hL73 rfl) k) ?_
      refine Gl.st (B := (T74.setTop (mkF m 35 L73 [(.ref b69_t0), (.long q1), (.ref b74), (.ref b74)]))) (fun t k => XS.aload X74.here hx rfl (hb hby at_33) (ldAt hL73 rfl) rfl k) ?_
      refine Gl.st (B := (T74.setTop (mkF m 36 L73 [.null, (.ref b69_t0), (.long q1), (.ref b74), (.ref b74)]))) (fun t k => XS.aconstNull X74.here hx rfl (hb hby at_35) k) ?_
      obtain ⟨_, _, ⟨T76, L76q, k76, n76⟩, -, X76, ⟨Lc76, hQ76, l76, y76, z76⟩, st76⟩ := X74.specialBack hx (y := (⟨"com/example/idem1/idem1/Line", "<init>", "(JLjava/lang/String;Lcom/example/idem1/idem1/Line$Problem;)V"⟩ : MethodName)) rfl hown (mvT hZ (tw hw 6 rfl)) (mvT hZ (tw hw 7 rfl)) (mvT hZ (tw hw 8 rfl)) (by decide) (backOf (W := 1) (rm1v l Z a0 hw [] b74 q1 b69_t0 ((.long (0 : Int64))) .null .null h74 n0 Zc75 F74_number F74_text F74_problem A74 g_b74) hZ (tw hw 8 rfl) (tw hw 5 rfl) (by decide) (by decide)) (g := (mkF m 36 L73 [.null, (.ref b69_t0), (.long q1), (.ref b74), (.ref b74)])) rfl (szAt hml hL73 rfl) (Steps.refl _) (a := b74) (argsL := [(.long q1), (.ref b69_t0), .null]) (rest := [(.ref b74)]) (lenOf pd_0_0 rfl) rfl (by show 2 * 0 + _ ≤ _; exact Nat.le_of_eq rfl) (hb hby at_36) (fun _ _ => ⟨rfl, e74, (by decide : 4 + 0 ≤ _), (by decide : 11 + 0 ≤ _)⟩)
      dsimp only [Pt.U, Pt.locs, Pt.cells, Pt.slots] at X76 l76 y76 z76 st76 hQ76
      subst l76 y76 z76
      obtain ⟨rfl, N76q, Kc76, fq76_0, fq76_1, fq76_2, fq76_3⟩ := hQ76
      have Zc77 : n0 ≤ T76.heap.size := Nat.le_trans Zc75 Kc76.1
      have N76 := Fr.app N69 N76q
      refine Gl.st (B := (T76.setTop (mkF m 39 L73 [(.ref b74)]))) (fun t k => st76.trans k) ?_
      obtain ⟨L78, hL78⟩ : ∃ z : Array Slot, z = #[.val (.long q1), .second, .val (.int p2), .val (.int p3), .val (.int p4), .val (.int p5), .val (.int (1 : Int32)), .val (.ref b69_t0), .val (.ref b74), .unset] := ⟨_, rfl⟩
      refine Gl.st (B := (T76.setTop (mkF m 41 L78 []))) (fun t k => XS.astore X76.here hx rfl (hb hby at_39) rfl rfl (l' := L78) (stAt hL73 hL78 rfl rfl) k) ?_
      refine Gl.st (B := (T76.setTop (mkF m 43 L78 [(.ref b74)]))) (fun t k => XS.aload X76.here hx rfl (hb hby at_41) (ldAt hL78 rfl) rfl k) ?_
      obtain ⟨cq79, kq79, q79a, q79b, q79c⟩ := isOf hZ rfl fq76_0
      obtain ⟨_, _, ⟨T79, L79q, k79, n79⟩, -, X79, ⟨Lc79, hQ79, l79, y79, z79⟩, st79⟩ := X76.virtualBack hx (y := (⟨"com/example/idem1/idem1/Line", "isValid", "()Z"⟩ : MethodName)) (z := (⟨"com/example/idem1/idem1/Line", "isValid", "()Z"⟩ : MethodName)) hown (mvT hZ (tw hw 23 rfl)) (mvT hZ (tw hw 24 rfl)) (notFace_of_selects (args := #[]) (mvT hZ (tw hw 26 rfl))) (mvT hZ (tw hw 26 rfl)) (mvT hZ (tw hw 25 rfl)) (by decide) (backOf (W := 0) (rm4v l Z a0 hw [] b74 T76.heap n0 Zc77 fq76_3) hZ (tw hw 27 rfl) (tw hw 5 rfl) (by decide) (by decide)) q79a q79c (g := (mkF m 43 L78 [(.ref b74)])) rfl (szAt hml hL78 rfl) (Steps.refl _) (argsL := []) (rest := []) (lenOf pd_0_1 rfl) rfl (by show 2 * 0 + _ ≤ _; exact Nat.le_of_eq rfl) (hb hby at_43) (fun _ _ => ⟨rfl, rfl, (by decide : 4 + 0 ≤ _), (by decide : 11 + 0 ≤ _)⟩)
      dsimp only [Pt.U, Pt.locs, Pt.cells, Pt.slots] at X79 l79 y79 z79 st79 hQ79
      subst l79 y79 z79
      obtain ⟨rfl, N79q, eh79⟩ := hQ79
      have N79 := Fr.app N76 N79q
      refine Gl.st (B := (T79.setTop (mkF m 46 L78 [(.int (1 : Int32))]))) (fun t k => st79.trans k) ?_
      obtain ⟨L80, hL80⟩ : ∃ z : Array Slot, z = #[.val (.long q1), .second, .val (.int p2), .val (.int p3), .val (.int p4), .val (.int p5), .val (.int (1 : Int32)), .val (.ref b69_t0), .val (.ref b74), .val (.int (1 : Int32))] := ⟨_, rfl⟩
      refine Gl.st (B := (T79.setTop (mkF m 48 L80 []))) (fun t k => XS.istore X79.here hx rfl (hb hby at_46) rfl (l' := L80) (stAt hL78 hL80 rfl rfl) k) ?_
      refine Gl.st (B := (T79.setTop (mkF m 50 L80 [(.int (1 : Int32))]))) (fun t k => XS.iload X79.here hx rfl (hb hby at_48) (ldAt hL80 rfl) k) ?_
      refine Gl.st (B := (T79.setTop (mkF m 53 L80 []))) (fun t k => XS.ifNo X79.here hx rfl (hb hby at_50) rfl (by decide) k) ?_
      refine Gl.st (B := (T79.setTop (mkF m 55 L80 [(.ref b74)]))) (fun t k => XS.aload X79.here hx rfl (hb hby at_53) (ldAt hL80 rfl) rfl k) ?_
      obtain ⟨cq81, kq81, q81a, q81b, q81c⟩ := isOf hZ eh79 fq76_0
      obtain ⟨_, _, ⟨T81, L81q, k81, n81⟩, -, X81, ⟨Lc81, hQ81, l81, y81, z81⟩, st81⟩ := X79.virtualBack hx (y := (⟨"com/example/idem1/idem1/Line", "text", "()Ljava/lang/String;"⟩ : MethodName)) (z := (⟨"com/example/idem1/idem1/Line", "text", "()Ljava/lang/String;"⟩ : MethodName)) hown (mvT hZ (tw hw 28 rfl)) (mvT hZ (tw hw 29 rfl)) (notFace_of_selects (args := #[]) (mvT hZ (tw hw 31 rfl))) (mvT hZ (tw hw 31 rfl)) (mvT hZ (tw hw 30 rfl)) (by decide) (backOf (W := 0) (rm5v l Z a0 hw [] b74 b69_t0 T76.heap n0 Zc77 fq76_2) hZ (tw hw 32 rfl) (tw hw 5 rfl) (by decide) (by decide)) q81a q81c (g := (mkF m 55 L80 [(.ref b74)])) rfl (szAt hml hL80 rfl) (Steps.refl _) (argsL := []) (rest := []) (lenOf pd_0_2 rfl) rfl (by show 2 * 0 + _ ≤ _; exact Nat.le_of_eq rfl) (hb hby at_55) (fun _ _ => ⟨rfl, eh79, (by decide : 4 + 0 ≤ _), (by decide : 11 + 0 ≤ _)⟩)
      dsimp only [Pt.U, Pt.locs, Pt.cells, Pt.slots] at X81 l81 y81 z81 st81 hQ81
      subst l81 y81 z81
      obtain ⟨rfl, N81q, eh81⟩ := hQ81
      have N81 := Fr.app N79 N81q
      refine Gl.st (B := (T81.setTop (mkF m 58 L80 [(.ref b69_t0)]))) (fun t k => st81.trans k) ?_
      refine Gl.st (B := (T81.setTop (mkF m 61 L80 []))) (fun t k => XS.ifnullNo X81.here hx rfl (hb hby at_58) rfl k) ?_
      refine Gl.st (B := (T81.setTop (mkF m 63 L80 [(.ref b74)]))) (fun t k => XS.aload X81.here hx rfl (hb hby at_61) (ldAt hL80 rfl) rfl k) ?_
      obtain ⟨cq82, kq82, q82a, q82b, q82c⟩ := isOf hZ eh81 fq76_0
      obtain ⟨_, _, ⟨T82, L82q, k82, n82⟩, -, X82, ⟨Lc82, hQ82, l82, y82, z82⟩, st82⟩ := X81.virtualBack hx (y := (⟨"com/example/idem1/idem1/Line", "problem", "()Lcom/example/idem1/idem1/Line$Problem;"⟩ : MethodName)) (z := (⟨"com/example/idem1/idem1/Line", "problem", "()Lcom/example/idem1/idem1/Line$Problem;"⟩ : MethodName)) hown (mvT hZ (tw hw 33 rfl)) (mvT hZ (tw hw 34 rfl)) (notFace_of_selects (args := #[]) (mvT hZ (tw hw 36 rfl))) (mvT hZ (tw hw 36 rfl)) (mvT hZ (tw hw 35 rfl)) (by decide) (backOf (W := 0) (rm6v l Z a0 hw [] b74 T76.heap n0 Zc77 fq76_3) hZ (tw hw 37 rfl) (tw hw 5 rfl) (by decide) (by decide)) q82a q82c (g := (mkF m 63 L80 [(.ref b74)])) rfl (szAt hml hL80 rfl) (Steps.refl _) (argsL := []) (rest := []) (lenOf pd_0_3 rfl) rfl (by show 2 * 0 + _ ≤ _; exact Nat.le_of_eq rfl) (hb hby at_63) (fun _ _ => ⟨rfl, eh81, (by decide : 4 + 0 ≤ _), (by decide : 11 + 0 ≤ _)⟩)
      dsimp only [Pt.U, Pt.locs, Pt.cells, Pt.slots] at X82 l82 y82 z82 st82 hQ82
      subst l82 y82 z82
      obtain ⟨rfl, N82q, eh82⟩ := hQ82
      have N82 := Fr.app N81 N82q
      refine Gl.st (B := (T82.setTop (mkF m 66 L80 [.null]))) (fun t k => st82.trans k) ?_
      refine Gl.st (B := (T82.setTop (mkF m 69 L80 []))) (fun t k => XS.ifnonnullNo X82.here hx rfl (hb hby at_66) rfl k) ?_
      refine Gl.st (B := (T82.setTop (mkF m 70 L80 [(.int (1 : Int32))]))) (fun t k => XS.iconst X82.here hx rfl (hb hby at_69) k) ?_
      refine Gl.st (B := (T82.setTop (mkF m 74 L80 [(.int (1 : Int32))]))) (fun t k => XS.goto X82.here hx rfl (pc0 := 70) (pc' := 74) rfl (hb hby at_70) (by decide) (by decide) k) ?_
      obtain ⟨fs, hr, hrun, hended, hRW⟩ := X82.leaveW hS0 (by rw [eh82]; exact (Nat.le_trans (Nat.le_trans (Nat.le_trans (Nat.zero_le _) Kc69.1) E74.1) Kc76.1)) (v := some (.int (nar .boolean (1 : Int32)))) (fun h => by rw [Bd.returns] at h; cases h)
      refine Gl.fin (retN X82 hx (t := .boolean) Bd.returns (by simp) (hb hby at_74) hr) hrun hended ⟨_, _, rfl, ?_, hRW.1, hRW.2.1, hRW.2.2.1, hRW.2.2.2.mono (by decide) (by decide)⟩
      show Q0 Z q1 p2 p3 p4 p5 z_NOT_UTF8 z_TOO_LONG z_COMP0 h0 n0 _ T82.heap _
      rw [eh82]
      exact ⟨rfl, N82⟩
set_option maxRecDepth 65536 in
set_option maxHeartbeats 40000000 in
theorem comes_1 {Post : Tables → Env → Array Value → State → Outcome → State → Prop} (hpost : ∀ tb e args s v u, (limb_1_1.after args s (.returned v) u = true ∧ limb_1_2.after args s (.returned v) u = true ∧ True) → ReturnedEndW s (.returned v) u (Jvm.fieldLocs frame_1_writes args s ++ Jvm.arrayLocs frame_1_arrays args s ++ Jvm.staticLocs frame_1_statics s) 24 1152 → Post tb e args s (.returned v) u) :
    ArmFor flags0 classFile x code maxLocals ret World_1 tables_1 room_1 Calls_1 rest_1 Pre_1 Post := by
  intro l hfl _ _ p e ha hc hk s m args below hf hA hF happ hP
  obtain ⟨hcalls, hrest, hpre⟩ := hP
  obtain ⟨-, -, -, hnamed, -, -, -, hat⟩ := (Spec.applies_iff hf).mp happ
  obtain ⟨hg, hn⟩ := and_e (Cond.before_iff.mp (show (Jvm.Cond.and given_1 narrow_1).before args s = true from hpre))
  obtain ⟨g1, g2⟩ := and_e hg
  obtain ⟨g3, g4⟩ := and_e g2
  obtain ⟨g5, g6⟩ := and_e g4
  obtain ⟨g7, g8⟩ := and_e g6
  obtain ⟨g9, g10⟩ := and_e g8
  obtain ⟨w0, w1, w2, w3, w4, rfl⟩ : ∃ w0 w1 w2 w3 w4 : Value, args = #[w0, w1, w2, w3, w4] := by
    have hs : args.size = 5 := by simpa [Cond.value, given_1] using g1
    obtain ⟨L⟩ := args
    match L, hs with
    | [w0, w1, w2, w3, w4], _ => exact ⟨w0, w1, w2, w3, w4, rfl⟩
  have hw := fun d (hd : d ∈ tables_1) => atoms_spec (ws := Jvm.Cond.code x code maxLocals ret :: tables_1) hat d (List.mem_cons_of_mem _ hd)
  have hfit : Fit s := fun {y c} hc i hi => by
    obtain ⟨ha, rfl⟩ := Array.getElem?_eq_some_iff.mp hc
    have q := List.all_eq_true.mp ((Array.all_eq_true_iff_forall_mem.mp hF) _ (Array.getElem_mem ha)) i (List.mem_range.mpr hi)
    simpa [Array.getElem?_eq_getElem hi] using q
  obtain ⟨hsets, hown0⟩ := atoms_of _ (rest_1_c_eq ▸ (show rest_1_c.before _ s = true from hrest))
  have hr0 := Cond.before_iff.mp hown0
  obtain ⟨i0, ei0⟩ := isL_v g3
  obtain rfl : w0 = (.long i0) := Option.some.inj ei0
  obtain ⟨i1, ei1⟩ := is_v g5
  obtain rfl : w1 = (.int i1) := Option.some.inj ei1
  obtain ⟨i2, ei2⟩ := is_v g7
  obtain rfl : w2 = (.int i2) := Option.some.inj ei2
  obtain ⟨i3, ei3⟩ := is_v g9
  obtain rfl : w3 = (.int i3) := Option.some.inj ei3
  obtain ⟨i4, ei4⟩ := is_v g10
  obtain rfl : w4 = (.int i4) := Option.some.inj ei4
  obtain ⟨g11, g12⟩ := and_e hn
  obtain ⟨z_TOO_LONG, ez_TOO_LONG⟩ := exa_v g11
  have Sz_TOO_LONG : Sta s s.heap "com/example/idem1/idem1/Line$Problem" "TOO_LONG" "Lcom/example/idem1/idem1/Line$Problem;" (.ref z_TOO_LONG) := Sta.start ez_TOO_LONG (Or.inr ⟨(tw hw 1 rfl), (tw hw 2 rfl)⟩)
  have Ez_TOO_LONG : Exa s s.heap z_TOO_LONG "com/example/idem1/idem1/Line$Problem" := Exa.start ez_TOO_LONG g11
  obtain ⟨z_NOT_UTF8, ez_NOT_UTF8⟩ := exa_v g12
  have Sz_NOT_UTF8 : Sta s s.heap "com/example/idem1/idem1/Line$Problem" "NOT_UTF8" "Lcom/example/idem1/idem1/Line$Problem;" (.ref z_NOT_UTF8) := Sta.start ez_NOT_UTF8 (Or.inr ⟨(tw hw 1 rfl), (tw hw 74 rfl)⟩)
  have Ez_NOT_UTF8 : Exa s s.heap z_NOT_UTF8 "com/example/idem1/idem1/Line$Problem" := Exa.start ez_NOT_UTF8 g12
  have nzc := not_v (Cond.before_iff.mp (hsets _ (List.mem_of_getElem? (i := 2) rfl)))
  obtain ⟨zc, ezc⟩ := is_v (Cond.before_iff.mp (hsets _ (List.mem_of_getElem? (i := 1) rfl)))
  have Szc : Sta s s.heap "java/lang/String" "COMPACT_STRINGS" "Z" (.int zc) := Sta.start ezc (Or.inl (hsets _ (List.mem_of_getElem? (i := 0) rfl)))
  have czc : ¬ (zc = (0 : Int32)) := gotF (Cond.eq_ints ezc (Term.int_eval (0))) nzc
  obtain ⟨n, o, h1, h2, h3, _, L, rfl, ⟨rfl, N⟩, hq⟩ := rm0 l s _ hw tables_1 i0 i1 i2 i3 i4 z_NOT_UTF8 z_TOO_LONG zc s.heap s.heap.size (Nat.le_refl _) Sz_NOT_UTF8 Sz_TOO_LONG Szc czc czc p e ha hc hk s m _ below hf ((Spec.applies_iff_loose hf).mp happ).1 ⟨rfl, State.Warmed39.refl s, rfl⟩ trivial
  refine ⟨n, _, h1, h2, h3, hpost _ _ _ _ _ _ ⟨Cond.after_iff.mpr rfl, Cond.after_iff.mpr (eq_i res_at (Term.int_eval (1)) rfl), trivial⟩ ⟨hq.1, hq.2.1, hq.2.2.1, (hq.2.2.2.sift fun y hy => Or.inr (N y hy)).mono (by decide) (by decide)⟩⟩
theorem main_1_1 : Claimed_1_1 := comes_1 fun _ _ _ _ _ _ h hF => ⟨h.1, hF⟩
theorem main_1_2 : Claimed_1_2 := comes_1 fun _ _ _ _ _ _ h hF => ⟨h.2.1, hF⟩
end Jvm.Pilot.@@N@@
namespace Jvm.Pilot.@@N@@
open Jvm Jvm.ClassFile Sem Op Lib Jvm.Free Jvm.Stand Jvm.Pilot.@@N@@.Jvm.D
/-! MADE BY PROGRAM (witnessworld.py) out of the Statement's table words and the real class files: 23 classes; the members and pool entries that the words name. The judged class is class 1, her method 2. -/
namespace start1
open Jvm.ClassFile
def u (s : String) : CpInfo := .utf8 (stringToUtf16 s)
/-- a pool by its gaps: so many unusable entries, then the entry; so many at the end -/
def gap : Nat → List CpInfo → List CpInfo
  | 0, r => r
  | n + 1, r => .unusable :: gap n r
def poolList (es : List (Nat × CpInfo)) (last : Nat) : List CpInfo := es.foldr (fun e r => gap e.1 (e.2 :: r)) (gap last [])
def pool (es : List (Nat × CpInfo)) (last : Nat) : Array CpInfo := ⟨poolList es last⟩
def fileOf (pool : Array CpInfo) (this : Nat) (attrs : Array Attribute := #[]) (ms : Array MethodInfo := #[]) (fl : Nat := 33) (sup : Nat := 0) (ifs : Array Nat := #[]) (fds : Array FieldInfo := #[]) : ClassFile where
  minorVersion := 0
  majorVersion := 65
  constantPool := pool
  accessFlags := fl
  thisClass := this
  superClass := sup
  interfaces := ifs
  fields := fds
  methods := ms
  attributes := attrs
def plain (name : String) (sup : Option ClassId) : Class where
  name := name
  kind := .ordinary
  loader := none
  accessFlags := 33
  super := sup
  interfaces := #[]
  cf := none
  fields := #[]
  methods := #[]
  instanceTypes := #[]
  staticTypes := #[]
  resolved := #[]
  callSites := []
  init := .initialized
  statics := none
  mirror := none

def pool0 : Array CpInfo := pool [(5, u "<init>"), (0, u "()V"), (1, .class_ 10), (1, u "java/lang/Object")] 113

def k0c0 : Code := { maxStack := 0, maxLocals := 1, code := object_method_1_code, exceptionTable := #[], attributes := #[] }
def k0m0 : Method := { name := "<init>", desc := "()V", sig := { parameters := [], returnType := none }, accessFlags := 1, code := some k0c0 }
/-- java/lang/Object -/
def k0 : Class := { plain "java/lang/Object" none with
  accessFlags := 33
  interfaces := #[]
  cf := some (fileOf pool0 8 #[] #[{ accessFlags := 1, nameIndex := 5, descriptorIndex := 6, attributes := #[] }] 33 0 #[] #[])
  fields := #[]
  methods := #[k0m0]
  instanceTypes := #[]
  staticTypes := #[]
  resolved := Array.replicate 124 none
  statics := none }

def pool1 : Array CpInfo := pool [(2, .class_ 4), (1, u "java/lang/Object"), (0, u "<init>"), (0, u "()V"), (0, .string 8), (0, u ""), (0, .methodref 10 11), (0, .class_ 12), (0, .nameAndType 13 14), (0, u "java/lang/String"), (0, u "valueOf"), (0, u "(C)Ljava/lang/String;"), (0, .methodref 10 16), (0, .nameAndType 5 17), (0, u "([C)V"), (0, .methodref 19 20), (0, .class_ 21), (0, .nameAndType 22 23), (0, u "com/example/idem1/idem1/LineIsValidPinLaw"), (0, u "drawText"), (0, u "(III)Ljava/lang/String;"), (0, .class_ 25), (0, u "com/example/idem1/idem1/Line"), (0, .methodref 24 27), (0, .nameAndType 5 28), (0, u "(JLjava/lang/String;Lcom/example/idem1/idem1/Line$Problem;)V"), (0, .methodref 24 30), (0, .nameAndType 31 32), (0, u "isValid"), (0, u "()Z"), (0, .methodref 24 34), (0, .nameAndType 35 36), (0, u "text"), (0, u "()Ljava/lang/String;"), (0, .methodref 24 38), (0, .nameAndType 39 40), (0, u "problem"), (0, u "()Lcom/example/idem1/idem1/Line$Problem;"), (0, .fieldref 42 43), (0, .class_ 44), (0, .nameAndType 45 46), (0, u "com/example/idem1/idem1/Line$Problem"), (0, u "TOO_LONG"), (0, u "Lcom/example/idem1/idem1/Line$Problem;"), (0, .fieldref 42 48), (0, .nameAndType 49 46), (0, u "NOT_UTF8"), (3, u "law"), (0, u "(JIIII)Z")] 4

def k1m0 : Method := { name := "<init>", desc := "()V", sig := { parameters := [], returnType := none }, accessFlags := 2, code := none }
def k1c1 : Code := { maxStack := 4, maxLocals := 5, code := method_2_code, exceptionTable := #[], attributes := #[] }
def k1m1 : Method := { name := "drawText", desc := "(III)Ljava/lang/String;", sig := { parameters := [.int, .int, .int], returnType := some (.object "java/lang/String") }, accessFlags := 10, code := some k1c1 }
def k1c2 : Code := { maxStack := 6, maxLocals := 10, code := code, exceptionTable := #[], attributes := #[] }
def k1m2 : Method := { name := "law", desc := "(JIIII)Z", sig := { parameters := [.long, .int, .int, .int, .int], returnType := some .boolean }, accessFlags := 9, code := some k1c2 }
/-- com/example/idem1/idem1/LineIsValidPinLaw -/
def k1 : Class := { plain "com/example/idem1/idem1/LineIsValidPinLaw" (some 0) with
  accessFlags := 49
  interfaces := #[]
  cf := some (fileOf pool1 19 #[] #[{ accessFlags := 2, nameIndex := 5, descriptorIndex := 6, attributes := #[] }, { accessFlags := 10, nameIndex := 22, descriptorIndex := 23, attributes := #[] }, { accessFlags := 9, nameIndex := 53, descriptorIndex := 54, attributes := #[] }] 49 2 #[] #[])
  fields := #[]
  methods := #[k1m0, k1m1, k1m2]
  instanceTypes := #[]
  staticTypes := #[]
  resolved := Array.replicate 59 none
  statics := none }

def pool2 : Array CpInfo := pool [(1, .class_ 2), (0, u "java/lang/constant/Constable"), (0, .class_ 4), (0, u "java/lang/Object")] 6

/-- java/lang/constant/Constable -/
def k2 : Class := { plain "java/lang/constant/Constable" (some 0) with
  accessFlags := 1537
  interfaces := #[]
  cf := some (fileOf pool2 1 #[] #[] 1537 3 #[] #[])
  fields := #[]
  methods := #[]
  instanceTypes := #[]
  staticTypes := #[]
  resolved := Array.replicate 11 none
  statics := none }

def pool3 : Array CpInfo := pool [(1, .class_ 2), (0, u "java/lang/Comparable"), (0, .class_ 4), (0, u "java/lang/Object")] 7

/-- java/lang/Comparable -/
def k3 : Class := { plain "java/lang/Comparable" (some 0) with
  accessFlags := 1537
  interfaces := #[]
  cf := some (fileOf pool3 1 #[] #[] 1537 3 #[] #[])
  fields := #[]
  methods := #[]
  instanceTypes := #[]
  staticTypes := #[]
  resolved := Array.replicate 12 none
  statics := none }

def pool4 : Array CpInfo := pool [(1, .class_ 2), (0, u "java/io/Serializable"), (0, .class_ 4), (0, u "java/lang/Object")] 2

/-- java/io/Serializable -/
def k4 : Class := { plain "java/io/Serializable" (some 0) with
  accessFlags := 1537
  interfaces := #[]
  cf := some (fileOf pool4 1 #[] #[] 1537 3 #[] #[])
  fields := #[]
  methods := #[]
  instanceTypes := #[]
  staticTypes := #[]
  resolved := Array.replicate 7 none
  statics := none }

def pool5 : Array CpInfo := pool [(2, .class_ 4), (1, u "java/lang/Enum"), (0, u "name"), (0, u "Ljava/lang/String;"), (2, u "ordinal"), (0, u "I"), (1, .class_ 14), (1, u "java/lang/Object"), (4, u "hash"), (86, .class_ 108), (1, u "java/lang/Enum$EnumDesc"), (2, .class_ 112), (0, u "java/lang/constant/Constable"), (0, .class_ 114), (0, u "java/lang/Comparable"), (0, .class_ 116), (0, u "java/io/Serializable")] 87

/-- java/lang/Enum -/
def k5 : Class := { plain "java/lang/Enum" (some 0) with
  accessFlags := 1057
  interfaces := #[2, 3, 4]
  cf := some (fileOf pool5 2 #[.nestMembers #[106]] #[] 1057 12 #[111, 113, 115] #[{ accessFlags := 18, nameIndex := 5, descriptorIndex := 6, attributes := #[] }, { accessFlags := 18, nameIndex := 9, descriptorIndex := 10, attributes := #[] }, { accessFlags := 2, nameIndex := 19, descriptorIndex := 10, attributes := #[] }])
  fields := #[{ name := "name", type := (.object "java/lang/String"), accessFlags := 18, slot := 0, constantValue := 0 }, { name := "ordinal", type := .int, accessFlags := 18, slot := 1, constantValue := 0 }, { name := "hash", type := .int, accessFlags := 2, slot := 2, constantValue := 0 }]
  methods := #[]
  instanceTypes := #[(.object "java/lang/String"), .int, .int]
  staticTypes := #[]
  resolved := Array.replicate 204 none
  statics := none }

def pool6 : Array CpInfo := pool [(1, .class_ 2), (0, u "com/example/idem1/idem1/Line"), (0, .class_ 4), (0, u "com/example/idem1/idem1/Line$Problem"), (2, u "TOO_LONG"), (0, u "Lcom/example/idem1/idem1/Line$Problem;"), (2, u "NOT_UTF8"), (2, u "$VALUES"), (0, u "[Lcom/example/idem1/idem1/Line$Problem;"), (6, .class_ 24), (1, u "java/lang/Enum"), (8, u "description"), (0, u "Ljava/lang/String;")] 29

/-- com/example/idem1/idem1/Line$Problem -/
def k6 : Class := { plain "com/example/idem1/idem1/Line$Problem" (some 5) with
  accessFlags := 16433
  interfaces := #[]
  cf := some (fileOf pool6 3 #[.nestHost 1] #[] 16433 22 #[] #[{ accessFlags := 16409, nameIndex := 7, descriptorIndex := 8, attributes := #[] }, { accessFlags := 16409, nameIndex := 11, descriptorIndex := 8, attributes := #[] }, { accessFlags := 18, nameIndex := 33, descriptorIndex := 34, attributes := #[] }, { accessFlags := 4122, nameIndex := 14, descriptorIndex := 15, attributes := #[] }])
  fields := #[{ name := "TOO_LONG", type := (.object "com/example/idem1/idem1/Line$Problem"), accessFlags := 16409, slot := 0, constantValue := 0 }, { name := "NOT_UTF8", type := (.object "com/example/idem1/idem1/Line$Problem"), accessFlags := 16409, slot := 1, constantValue := 0 }, { name := "description", type := (.object "java/lang/String"), accessFlags := 18, slot := 3, constantValue := 0 }, { name := "$VALUES", type := (.array (.object "com/example/idem1/idem1/Line$Problem")), accessFlags := 4122, slot := 2, constantValue := 0 }]
  methods := #[]
  instanceTypes := #[(.object "java/lang/String"), .int, .int, (.object "java/lang/String")]
  staticTypes := #[(.object "com/example/idem1/idem1/Line$Problem"), (.object "com/example/idem1/idem1/Line$Problem"), (.array (.object "com/example/idem1/idem1/Line$Problem"))]
  resolved := Array.replicate 64 none
  statics := some 0 }

def pool7 : Array CpInfo := pool [(1, .methodref 2 3), (0, .class_ 4), (0, .nameAndType 5 6), (0, u "java/lang/Object"), (0, u "<init>"), (0, u "()V"), (0, .class_ 8), (0, u "java/lang/Record")] 13

def k7c0 : Code := { maxStack := 1, maxLocals := 1, code := jdk_30_method_1_code, exceptionTable := #[], attributes := #[] }
def k7m0 : Method := { name := "<init>", desc := "()V", sig := { parameters := [], returnType := none }, accessFlags := 4, code := some k7c0 }
/-- java/lang/Record -/
def k7 : Class := { plain "java/lang/Record" (some 0) with
  accessFlags := 1057
  interfaces := #[]
  cf := some (fileOf pool7 7 #[] #[{ accessFlags := 4, nameIndex := 5, descriptorIndex := 6, attributes := #[] }] 1057 2 #[] #[])
  fields := #[]
  methods := #[k7m0]
  instanceTypes := #[]
  staticTypes := #[]
  resolved := Array.replicate 22 none
  statics := none }

def pool8 : Array CpInfo := pool [(1, .methodref 2 3), (0, .class_ 4), (0, .nameAndType 5 6), (0, u "java/lang/Record"), (0, u "<init>"), (0, u "()V"), (7, .fieldref 15 16), (0, .class_ 17), (0, .nameAndType 18 19), (0, u "com/example/idem1/idem1/Line"), (0, u "number"), (0, u "J"), (0, .fieldref 15 21), (0, .nameAndType 22 23), (0, u "text"), (0, u "Ljava/lang/String;"), (0, .fieldref 15 25), (0, .nameAndType 26 27), (0, u "problem"), (0, u "Lcom/example/idem1/idem1/Line$Problem;"), (2, u "(JLjava/lang/String;Lcom/example/idem1/idem1/Line$Problem;)V"), (12, u "MAX_BYTES"), (0, u "I"), (7, .class_ 53), (0, u "com/example/idem1/idem1/Line$Problem"), (5, u "isValid"), (0, u "()Z"), (0, u "()Ljava/lang/String;"), (3, u "()Lcom/example/idem1/idem1/Line$Problem;")] 24

def k8c0 : Code := { maxStack := 3, maxLocals := 5, code := prog_17_method_1_code, exceptionTable := #[], attributes := #[] }
def k8m0 : Method := { name := "<init>", desc := "(JLjava/lang/String;Lcom/example/idem1/idem1/Line$Problem;)V", sig := { parameters := [.long, (.object "java/lang/String"), (.object "com/example/idem1/idem1/Line$Problem")], returnType := none }, accessFlags := 1, code := some k8c0 }
def k8c1 : Code := { maxStack := 1, maxLocals := 1, code := prog_17_method_4_code, exceptionTable := #[], attributes := #[] }
def k8m1 : Method := { name := "isValid", desc := "()Z", sig := { parameters := [], returnType := some .boolean }, accessFlags := 1, code := some k8c1 }
def k8c2 : Code := { maxStack := 1, maxLocals := 1, code := prog_17_method_9_code, exceptionTable := #[], attributes := #[] }
def k8m2 : Method := { name := "text", desc := "()Ljava/lang/String;", sig := { parameters := [], returnType := some (.object "java/lang/String") }, accessFlags := 1, code := some k8c2 }
def k8c3 : Code := { maxStack := 1, maxLocals := 1, code := prog_17_method_10_code, exceptionTable := #[], attributes := #[] }
def k8m3 : Method := { name := "problem", desc := "()Lcom/example/idem1/idem1/Line$Problem;", sig := { parameters := [], returnType := some (.object "com/example/idem1/idem1/Line$Problem") }, accessFlags := 1, code := some k8c3 }
/-- com/example/idem1/idem1/Line -/
def k8 : Class := { plain "com/example/idem1/idem1/Line" (some 7) with
  accessFlags := 49
  interfaces := #[]
  cf := some (fileOf pool8 15 #[.nestMembers #[52]] #[{ accessFlags := 1, nameIndex := 5, descriptorIndex := 30, attributes := #[] }, { accessFlags := 1, nameIndex := 59, descriptorIndex := 60, attributes := #[] }, { accessFlags := 1, nameIndex := 22, descriptorIndex := 61, attributes := #[] }, { accessFlags := 1, nameIndex := 26, descriptorIndex := 65, attributes := #[] }] 49 2 #[] #[{ accessFlags := 18, nameIndex := 18, descriptorIndex := 19, attributes := #[] }, { accessFlags := 18, nameIndex := 22, descriptorIndex := 23, attributes := #[] }, { accessFlags := 18, nameIndex := 26, descriptorIndex := 27, attributes := #[] }, { accessFlags := 25, nameIndex := 43, descriptorIndex := 44, attributes := #[] }])
  fields := #[{ name := "number", type := .long, accessFlags := 18, slot := 0, constantValue := 0 }, { name := "text", type := (.object "java/lang/String"), accessFlags := 18, slot := 1, constantValue := 0 }, { name := "problem", type := (.object "com/example/idem1/idem1/Line$Problem"), accessFlags := 18, slot := 2, constantValue := 0 }, { name := "MAX_BYTES", type := .int, accessFlags := 25, slot := 0, constantValue := 0 }]
  methods := #[k8m0, k8m1, k8m2, k8m3]
  instanceTypes := #[.long, (.object "java/lang/String"), (.object "com/example/idem1/idem1/Line$Problem")]
  staticTypes := #[.int]
  resolved := Array.replicate 90 none
  statics := none }

def pool9 : Array CpInfo := pool [(2, .class_ 4), (1, u "java/lang/CharSequence"), (42, .class_ 48), (0, u "java/lang/CharSequence$1CodePointIterator"), (10, .class_ 60), (0, u "java/lang/CharSequence$1CharIterator"), (5, .class_ 67), (0, u "java/lang/Object")] 63

/-- java/lang/CharSequence -/
def k9 : Class := { plain "java/lang/CharSequence" (some 0) with
  accessFlags := 1537
  interfaces := #[]
  cf := some (fileOf pool9 2 #[.nestMembers #[47, 59]] #[] 1537 66 #[] #[])
  fields := #[]
  methods := #[]
  instanceTypes := #[]
  staticTypes := #[]
  resolved := Array.replicate 131 none
  statics := none }

def pool10 : Array CpInfo := pool [(1, .class_ 2), (0, u "java/lang/constant/ConstantDesc"), (0, .class_ 4), (0, u "java/lang/Object")] 32

/-- java/lang/constant/ConstantDesc -/
def k10 : Class := { plain "java/lang/constant/ConstantDesc" (some 0) with
  accessFlags := 1537
  interfaces := #[]
  cf := some (fileOf pool10 1 #[] #[] 1537 3 #[] #[])
  fields := #[]
  methods := #[]
  instanceTypes := #[]
  staticTypes := #[]
  resolved := Array.replicate 37 none
  statics := none }

def pool11 : Array CpInfo := pool [(1, .methodref 2 3), (0, .class_ 4), (0, .nameAndType 5 6), (0, u "java/lang/Object"), (0, u "<init>"), (0, u "()V"), (2, .fieldref 10 11), (0, .class_ 12), (0, .nameAndType 13 14), (0, u "java/lang/String"), (0, u "value"), (0, u "[B"), (0, .fieldref 10 16), (0, .nameAndType 17 18), (0, u "coder"), (0, u "B"), (2, u "hash"), (0, u "I"), (2, u "hashIsZero"), (0, u "Z"), (0, .methodref 10 28), (0, .nameAndType 5 29), (0, u "([CIILjava/lang/Void;)V"), (8, .fieldref 10 39), (0, .nameAndType 40 26), (0, u "COMPACT_STRINGS"), (1, .class_ 44), (1, u "java/lang/StringUTF16"), (0, u "compress"), (1, .methodref 42 48), (0, .nameAndType 49 50), (0, u "coderFromArrayLen"), (0, u "([BI)B"), (2, u "toBytes"), (53, .class_ 109), (1, u "java/lang/StringLatin1"), (67, .methodref 42 178), (0, .nameAndType 45 179), (0, u "([CII)[B"), (29, .methodref 10 210), (0, .nameAndType 5 211), (0, u "([BB)V"), (157, u "(C)Z"), (205, .class_ 576), (0, u "java/lang/CharSequence"), (22, u "CASE_INSENSITIVE_ORDER"), (0, u "Ljava/util/Comparator;"), (181, u "valueOf"), (0, u "(C)Ljava/lang/String;"), (226, u "([C)V"), (4, .methodref 107 1016), (0, .nameAndType 1017 369), (0, u "canEncode"), (0, .methodref 107 1019), (0, .nameAndType 53 1020), (0, u "(C)[B"), (80, u "serialPersistentFields"), (0, u "[Ljava/io/ObjectStreamField;"), (0, .class_ 1104), (0, u "java/lang/String$CaseInsensitiveComparator"), (1, .class_ 1107), (0, u "java/io/Serializable"), (0, .class_ 1109), (0, u "java/lang/Comparable"), (0, .class_ 1111), (0, u "java/lang/constant/Constable"), (0, .class_ 1113), (0, u "java/lang/constant/ConstantDesc"), (2, u "serialVersionUID"), (0, u "J"), (3, u "REPL"), (0, u "C"), (2, u "LATIN1"), (1, u "UTF16")] 323

def k11m0 : Method := { name := "<init>", desc := "()V", sig := { parameters := [], returnType := none }, accessFlags := 1, code := none }
def k11c1 : Code := { maxStack := 5, maxLocals := 2, code := jdk_42_method_3_code, exceptionTable := #[], attributes := #[] }
def k11m1 : Method := { name := "<init>", desc := "([C)V", sig := { parameters := [(.array .char)], returnType := none }, accessFlags := 1, code := some k11c1 }
def k11c2 : Code := { maxStack := 4, maxLocals := 1, code := jdk_42_method_139_code, exceptionTable := #[], attributes := #[] }
def k11m2 : Method := { name := "valueOf", desc := "(C)Ljava/lang/String;", sig := { parameters := [.char], returnType := some (.object "java/lang/String") }, accessFlags := 9, code := some k11c2 }
def k11c3 : Code := { maxStack := 4, maxLocals := 6, code := jdk_42_method_149_code, exceptionTable := #[], attributes := #[] }
def k11m3 : Method := { name := "<init>", desc := "([CIILjava/lang/Void;)V", sig := { parameters := [(.array .char), .int, .int, (.object "java/lang/Void")], returnType := none }, accessFlags := 2, code := some k11c3 }
def k11c4 : Code := { maxStack := 2, maxLocals := 3, code := jdk_42_method_151_code, exceptionTable := #[], attributes := #[] }
def k11m4 : Method := { name := "<init>", desc := "([BB)V", sig := { parameters := [(.array .byte), .byte], returnType := none }, accessFlags := 0, code := some k11c4 }
/-- java/lang/String -/
def k11 : Class := { plain "java/lang/String" (some 0) with
  accessFlags := 49
  interfaces := #[4, 3, 9, 2, 10]
  cf := some (fileOf pool11 10 #[.nestMembers #[1103]] #[{ accessFlags := 1, nameIndex := 5, descriptorIndex := 6, attributes := #[] }, { accessFlags := 1, nameIndex := 5, descriptorIndex := 1010, attributes := #[] }, { accessFlags := 9, nameIndex := 782, descriptorIndex := 783, attributes := #[] }, { accessFlags := 2, nameIndex := 5, descriptorIndex := 29, attributes := #[] }, { accessFlags := 0, nameIndex := 5, descriptorIndex := 211, attributes := #[] }] 49 2 #[1106, 1108, 575, 1110, 1112] #[{ accessFlags := 18, nameIndex := 13, descriptorIndex := 14, attributes := #[] }, { accessFlags := 18, nameIndex := 17, descriptorIndex := 18, attributes := #[] }, { accessFlags := 2, nameIndex := 21, descriptorIndex := 22, attributes := #[] }, { accessFlags := 2, nameIndex := 25, descriptorIndex := 26, attributes := #[] }, { accessFlags := 26, nameIndex := 1116, descriptorIndex := 1117, attributes := #[] }, { accessFlags := 24, nameIndex := 40, descriptorIndex := 26, attributes := #[] }, { accessFlags := 26, nameIndex := 1101, descriptorIndex := 1102, attributes := #[] }, { accessFlags := 26, nameIndex := 1121, descriptorIndex := 1122, attributes := #[] }, { accessFlags := 25, nameIndex := 599, descriptorIndex := 600, attributes := #[] }, { accessFlags := 24, nameIndex := 1125, descriptorIndex := 18, attributes := #[] }, { accessFlags := 24, nameIndex := 1127, descriptorIndex := 18, attributes := #[] }])
  fields := #[{ name := "value", type := (.array .byte), accessFlags := 18, slot := 0, constantValue := 0 }, { name := "coder", type := .byte, accessFlags := 18, slot := 1, constantValue := 0 }, { name := "hash", type := .int, accessFlags := 2, slot := 2, constantValue := 0 }, { name := "hashIsZero", type := .boolean, accessFlags := 2, slot := 3, constantValue := 0 }, { name := "serialVersionUID", type := .long, accessFlags := 26, slot := 0, constantValue := 0 }, { name := "COMPACT_STRINGS", type := .boolean, accessFlags := 24, slot := 1, constantValue := 0 }, { name := "serialPersistentFields", type := (.array (.object "java/io/ObjectStreamField")), accessFlags := 26, slot := 2, constantValue := 0 }, { name := "REPL", type := .char, accessFlags := 26, slot := 3, constantValue := 0 }, { name := "CASE_INSENSITIVE_ORDER", type := (.object "java/util/Comparator"), accessFlags := 25, slot := 4, constantValue := 0 }, { name := "LATIN1", type := .byte, accessFlags := 24, slot := 5, constantValue := 0 }, { name := "UTF16", type := .byte, accessFlags := 24, slot := 6, constantValue := 0 }]
  methods := #[k11m0, k11m1, k11m2, k11m3, k11m4]
  instanceTypes := #[(.array .byte), .byte, .int, .boolean]
  staticTypes := #[.long, .boolean, (.array (.object "java/io/ObjectStreamField")), .char, (.object "java/util/Comparator"), .byte, .byte]
  resolved := Array.replicate 1451 none
  statics := some 1 }

def pool12 : Array CpInfo := pool [(6, .class_ 8), (1, u "java/lang/Object"), (0, u "<init>"), (0, u "()V"), (1, .class_ 14), (1, u "java/lang/StringUTF16"), (31, u "$assertionsDisabled"), (0, u "Z"), (13, u "HI_BYTE_SHIFT"), (0, u "I"), (2, u "LO_BYTE_SHIFT"), (49, .methodref 12 116), (0, .nameAndType 117 118), (0, u "compress"), (0, u "([CI[BII)I"), (3, u "([CII)[B"), (138, u "coderFromArrayLen"), (0, u "([BI)B"), (106, .class_ 371), (1, u "java/lang/StringUTF16$LinesSpliterator"), (58, u "MAX_LENGTH"), (196, .class_ 628), (0, u "java/lang/StringUTF16$CodePointsSpliterator"), (0, .class_ 630), (0, u "java/lang/StringUTF16$CharsSpliterator")] 4

def k12m0 : Method := { name := "<init>", desc := "()V", sig := { parameters := [], returnType := none }, accessFlags := 0, code := none }
def k12c1 : Code := { maxStack := 2, maxLocals := 2, code := jdk_52_method_15_code, exceptionTable := #[], attributes := #[] }
def k12m1 : Method := { name := "coderFromArrayLen", desc := "([BI)B", sig := { parameters := [(.array .byte), .int], returnType := some .byte }, accessFlags := 8, code := some k12c1 }
def k12c2 : Code := { maxStack := 5, maxLocals := 6, code := jdk_52_method_16_code, exceptionTable := #[], attributes := #[] }
def k12m2 : Method := { name := "compress", desc := "([CII)[B", sig := { parameters := [(.array .char), .int, .int], returnType := some (.array .byte) }, accessFlags := 9, code := some k12c2 }
def k12c3 : Code := { maxStack := 3, maxLocals := 7, code := jdk_52_method_21_code, exceptionTable := #[], attributes := #[] }
def k12m3 : Method := { name := "compress", desc := "([CI[BII)I", sig := { parameters := [(.array .char), .int, (.array .byte), .int, .int], returnType := some .int }, accessFlags := 9, code := some k12c3 }
/-- java/lang/StringUTF16 -/
def k12 : Class := { plain "java/lang/StringUTF16" (some 0) with
  accessFlags := 48
  interfaces := #[]
  cf := some (fileOf pool12 12 #[.nestMembers #[627, 629, 369]] #[{ accessFlags := 0, nameIndex := 9, descriptorIndex := 10, attributes := #[] }, { accessFlags := 8, nameIndex := 261, descriptorIndex := 262, attributes := #[] }, { accessFlags := 9, nameIndex := 117, descriptorIndex := 122, attributes := #[] }, { accessFlags := 9, nameIndex := 117, descriptorIndex := 118, attributes := #[] }] 48 6 #[] #[{ accessFlags := 26, nameIndex := 61, descriptorIndex := 62, attributes := #[] }, { accessFlags := 26, nameIndex := 65, descriptorIndex := 62, attributes := #[] }, { accessFlags := 24, nameIndex := 430, descriptorIndex := 62, attributes := #[] }, { accessFlags := 4120, nameIndex := 46, descriptorIndex := 47, attributes := #[] }])
  fields := #[{ name := "HI_BYTE_SHIFT", type := .int, accessFlags := 26, slot := 0, constantValue := 0 }, { name := "LO_BYTE_SHIFT", type := .int, accessFlags := 26, slot := 1, constantValue := 0 }, { name := "MAX_LENGTH", type := .int, accessFlags := 24, slot := 2, constantValue := 0 }, { name := "$assertionsDisabled", type := .boolean, accessFlags := 4120, slot := 3, constantValue := 0 }]
  methods := #[k12m0, k12m1, k12m2, k12m3]
  instanceTypes := #[]
  staticTypes := #[.int, .int, .int, .boolean]
  resolved := Array.replicate 635 none
  statics := none }

def pool13 : Array CpInfo := pool [(4, .class_ 6), (1, u "java/lang/Object"), (0, u "<init>"), (0, u "()V"), (5, .class_ 16), (1, u "java/lang/StringLatin1"), (73, u "canEncode"), (14, u "(C)Z"), (15, u "$assertionsDisabled"), (0, u "Z"), (98, .class_ 223), (1, u "java/lang/StringLatin1$LinesSpliterator"), (156, u "toBytes"), (1, u "(C)[B"), (7, .class_ 391), (0, u "java/lang/StringLatin1$CharsSpliterator")] 3

def k13m0 : Method := { name := "<init>", desc := "()V", sig := { parameters := [], returnType := none }, accessFlags := 0, code := none }
def k13c1 : Code := { maxStack := 2, maxLocals := 1, code := jdk_43_method_3_code, exceptionTable := #[], attributes := #[] }
def k13m1 : Method := { name := "canEncode", desc := "(C)Z", sig := { parameters := [.char], returnType := some .boolean }, accessFlags := 9, code := some k13c1 }
def k13c2 : Code := { maxStack := 4, maxLocals := 1, code := jdk_43_method_46_code, exceptionTable := #[], attributes := #[] }
def k13m2 : Method := { name := "toBytes", desc := "(C)[B", sig := { parameters := [.char], returnType := some (.array .byte) }, accessFlags := 9, code := some k13c2 }
/-- java/lang/StringLatin1 -/
def k13 : Class := { plain "java/lang/StringLatin1" (some 0) with
  accessFlags := 48
  interfaces := #[]
  cf := some (fileOf pool13 14 #[.nestMembers #[390, 221]] #[{ accessFlags := 0, nameIndex := 7, descriptorIndex := 8, attributes := #[] }, { accessFlags := 9, nameIndex := 90, descriptorIndex := 105, attributes := #[] }, { accessFlags := 9, nameIndex := 380, descriptorIndex := 382, attributes := #[] }] 48 4 #[] #[{ accessFlags := 4120, nameIndex := 121, descriptorIndex := 122, attributes := #[] }])
  fields := #[{ name := "$assertionsDisabled", type := .boolean, accessFlags := 4120, slot := 0, constantValue := 0 }]
  methods := #[k13m0, k13m1, k13m2]
  instanceTypes := #[]
  staticTypes := #[.boolean]
  resolved := Array.replicate 395 none
  statics := none }

def pool14 : Array CpInfo := pool [(2, .class_ 4), (1, u "java/lang/Object"), (0, u "<init>"), (0, u "()V"), (17, .class_ 26), (1, u "jdk/internal/util/Preconditions"), (28, .class_ 56), (0, u "jdk/internal/util/Preconditions$4"), (57, .class_ 115), (0, u "jdk/internal/util/Preconditions$1"), (7, u "SIOOBE_FORMATTER"), (0, u "Ljava/util/function/BiFunction;"), (0, .class_ 126), (0, u "jdk/internal/util/Preconditions$2"), (3, u "AIOOBE_FORMATTER"), (0, .class_ 132), (0, u "jdk/internal/util/Preconditions$3"), (3, u "IOOBE_FORMATTER")] 57

def k14m0 : Method := { name := "<init>", desc := "()V", sig := { parameters := [], returnType := none }, accessFlags := 1, code := none }
/-- jdk/internal/util/Preconditions -/
def k14 : Class := { plain "jdk/internal/util/Preconditions" (some 0) with
  accessFlags := 33
  interfaces := #[]
  cf := some (fileOf pool14 24 #[.nestMembers #[55, 131, 125, 114]] #[{ accessFlags := 1, nameIndex := 5, descriptorIndex := 6, attributes := #[] }] 33 2 #[] #[{ accessFlags := 25, nameIndex := 123, descriptorIndex := 124, attributes := #[] }, { accessFlags := 25, nameIndex := 130, descriptorIndex := 124, attributes := #[] }, { accessFlags := 25, nameIndex := 136, descriptorIndex := 124, attributes := #[] }])
  fields := #[{ name := "SIOOBE_FORMATTER", type := (.object "java/util/function/BiFunction"), accessFlags := 25, slot := 0, constantValue := 0 }, { name := "AIOOBE_FORMATTER", type := (.object "java/util/function/BiFunction"), accessFlags := 25, slot := 1, constantValue := 0 }, { name := "IOOBE_FORMATTER", type := (.object "java/util/function/BiFunction"), accessFlags := 25, slot := 2, constantValue := 0 }]
  methods := #[k14m0]
  instanceTypes := #[]
  staticTypes := #[(.object "java/util/function/BiFunction"), (.object "java/util/function/BiFunction"), (.object "java/util/function/BiFunction")]
  resolved := Array.replicate 194 none
  statics := some 2 }

def pool15 : Array CpInfo := pool [(9, u "<init>"), (6, .class_ 18), (1, u "java/lang/Object"), (0, u "()V"), (1, .class_ 23), (1, u "jdk/internal/util/ArraysSupport"), (0, u "LOG2_ARRAY_LONG_INDEX_SCALE"), (0, u "I"), (2, u "U"), (0, u "Ljdk/internal/misc/Unsafe;"), (8, u "BIG_ENDIAN"), (0, u "Z"), (8, u "LOG2_BYTE_BIT_SIZE"), (4, u "LOG2_ARRAY_INT_INDEX_SCALE"), (54, u "JLA"), (0, u "Ljdk/internal/access/JavaLangAccess;"), (11, u "LOG2_ARRAY_BOOLEAN_INDEX_SCALE"), (9, u "LOG2_ARRAY_BYTE_INDEX_SCALE"), (5, u "LOG2_ARRAY_CHAR_INDEX_SCALE"), (5, u "LOG2_ARRAY_SHORT_INDEX_SCALE"), (18, u "LOG2_ARRAY_FLOAT_INDEX_SCALE"), (24, u "LOG2_ARRAY_DOUBLE_INDEX_SCALE"), (89, u "T_BOOLEAN"), (2, u "T_CHAR"), (1, u "T_FLOAT"), (1, u "T_DOUBLE"), (1, u "T_BYTE"), (1, u "T_SHORT"), (1, u "T_INT"), (1, u "T_LONG"), (1, u "SOFT_MAX_ARRAY_LENGTH")] 83

def k15m0 : Method := { name := "<init>", desc := "()V", sig := { parameters := [], returnType := none }, accessFlags := 2, code := none }
/-- jdk/internal/util/ArraysSupport -/
def k15 : Class := { plain "jdk/internal/util/ArraysSupport" (some 0) with
  accessFlags := 33
  interfaces := #[]
  cf := some (fileOf pool15 21 #[] #[{ accessFlags := 2, nameIndex := 9, descriptorIndex := 19, attributes := #[] }] 33 16 #[] #[{ accessFlags := 24, nameIndex := 28, descriptorIndex := 29, attributes := #[] }, { accessFlags := 26, nameIndex := 38, descriptorIndex := 39, attributes := #[] }, { accessFlags := 25, nameIndex := 121, descriptorIndex := 25, attributes := #[] }, { accessFlags := 25, nameIndex := 131, descriptorIndex := 25, attributes := #[] }, { accessFlags := 25, nameIndex := 137, descriptorIndex := 25, attributes := #[] }, { accessFlags := 25, nameIndex := 143, descriptorIndex := 25, attributes := #[] }, { accessFlags := 25, nameIndex := 53, descriptorIndex := 25, attributes := #[] }, { accessFlags := 25, nameIndex := 24, descriptorIndex := 25, attributes := #[] }, { accessFlags := 25, nameIndex := 162, descriptorIndex := 25, attributes := #[] }, { accessFlags := 25, nameIndex := 187, descriptorIndex := 25, attributes := #[] }, { accessFlags := 26, nameIndex := 48, descriptorIndex := 25, attributes := #[] }, { accessFlags := 25, nameIndex := 277, descriptorIndex := 25, attributes := #[] }, { accessFlags := 25, nameIndex := 280, descriptorIndex := 25, attributes := #[] }, { accessFlags := 25, nameIndex := 282, descriptorIndex := 25, attributes := #[] }, { accessFlags := 25, nameIndex := 284, descriptorIndex := 25, attributes := #[] }, { accessFlags := 25, nameIndex := 286, descriptorIndex := 25, attributes := #[] }, { accessFlags := 25, nameIndex := 288, descriptorIndex := 25, attributes := #[] }, { accessFlags := 25, nameIndex := 290, descriptorIndex := 25, attributes := #[] }, { accessFlags := 25, nameIndex := 292, descriptorIndex := 25, attributes := #[] }, { accessFlags := 26, nameIndex := 108, descriptorIndex := 109, attributes := #[] }, { accessFlags := 25, nameIndex := 294, descriptorIndex := 25, attributes := #[] }])
  fields := #[{ name := "U", type := (.object "jdk/internal/misc/Unsafe"), accessFlags := 24, slot := 0, constantValue := 0 }, { name := "BIG_ENDIAN", type := .boolean, accessFlags := 26, slot := 1, constantValue := 0 }, { name := "LOG2_ARRAY_BOOLEAN_INDEX_SCALE", type := .int, accessFlags := 25, slot := 2, constantValue := 0 }, { name := "LOG2_ARRAY_BYTE_INDEX_SCALE", type := .int, accessFlags := 25, slot := 3, constantValue := 0 }, { name := "LOG2_ARRAY_CHAR_INDEX_SCALE", type := .int, accessFlags := 25, slot := 4, constantValue := 0 }, { name := "LOG2_ARRAY_SHORT_INDEX_SCALE", type := .int, accessFlags := 25, slot := 5, constantValue := 0 }, { name := "LOG2_ARRAY_INT_INDEX_SCALE", type := .int, accessFlags := 25, slot := 6, constantValue := 0 }, { name := "LOG2_ARRAY_LONG_INDEX_SCALE", type := .int, accessFlags := 25, slot := 7, constantValue := 0 }, { name := "LOG2_ARRAY_FLOAT_INDEX_SCALE", type := .int, accessFlags := 25, slot := 8, constantValue := 0 }, { name := "LOG2_ARRAY_DOUBLE_INDEX_SCALE", type := .int, accessFlags := 25, slot := 9, constantValue := 0 }, { name := "LOG2_BYTE_BIT_SIZE", type := .int, accessFlags := 26, slot := 10, constantValue := 0 }, { name := "T_BOOLEAN", type := .int, accessFlags := 25, slot := 11, constantValue := 0 }, { name := "T_CHAR", type := .int, accessFlags := 25, slot := 12, constantValue := 0 }, { name := "T_FLOAT", type := .int, accessFlags := 25, slot := 13, constantValue := 0 }, { name := "T_DOUBLE", type := .int, accessFlags := 25, slot := 14, constantValue := 0 }, { name := "T_BYTE", type := .int, accessFlags := 25, slot := 15, constantValue := 0 }, { name := "T_SHORT", type := .int, accessFlags := 25, slot := 16, constantValue := 0 }, { name := "T_INT", type := .int, accessFlags := 25, slot := 17, constantValue := 0 }, { name := "T_LONG", type := .int, accessFlags := 25, slot := 18, constantValue := 0 }, { name := "JLA", type := (.object "jdk/internal/access/JavaLangAccess"), accessFlags := 26, slot := 19, constantValue := 0 }, { name := "SOFT_MAX_ARRAY_LENGTH", type := .int, accessFlags := 25, slot := 20, constantValue := 0 }]
  methods := #[k15m0]
  instanceTypes := #[]
  staticTypes := #[(.object "jdk/internal/misc/Unsafe"), .boolean, .int, .int, .int, .int, .int, .int, .int, .int, .int, .int, .int, .int, .int, .int, .int, .int, .int, (.object "jdk/internal/access/JavaLangAccess"), .int]
  resolved := Array.replicate 378 none
  statics := none }

def pool16 : Array CpInfo := pool [(1, u "java/lang/Cloneable"), (0, .class_ 1), (0, u "java/lang/Object"), (0, .class_ 3)] 3

/-- java/lang/Cloneable -/
def k16 : Class := { plain "java/lang/Cloneable" (some 0) with
  accessFlags := 1537
  interfaces := #[]
  cf := some (fileOf pool16 2 #[] #[] 1537 4 #[] #[])
  fields := #[]
  methods := #[]
  instanceTypes := #[]
  staticTypes := #[]
  resolved := Array.replicate 8 none
  statics := none }

/-- the primitive byte -/
def k17 : Class := { plain "byte" none with kind := .primitive 'B', accessFlags := 0x411 }
/-- [B -/
def k18 : Class := { plain "[B" (some 0) with kind := .array 17 .byte, interfaces := #[16, 4], accessFlags := 1041 }

/-- the primitive char -/
def k19 : Class := { plain "char" none with kind := .primitive 'C', accessFlags := 0x411 }
/-- [C -/
def k20 : Class := { plain "[C" (some 0) with kind := .array 19 .char, interfaces := #[16, 4], accessFlags := 1041 }

/-- the primitive int -/
def k21 : Class := { plain "int" none with kind := .primitive 'I', accessFlags := 0x411 }
/-- [I -/
def k22 : Class := { plain "[I" (some 0) with kind := .array 21 .int, interfaces := #[16, 4], accessFlags := 1041 }

def heap : Heap := #[{ cls := 6, slots := #[.ref 3, .ref 4, .null], vm := .statics 6 },
  { cls := 11, slots := #[.long 0, .int 1, .null, .int 0, .null, .int 0, .int 0], vm := .statics 11 },
  { cls := 14, slots := #[.null, .null, .null], vm := .statics 14 },
  { cls := 6, slots := #[.null, .int 0, .int 0, .null], vm := .none },
  { cls := 6, slots := #[.null, .int 1, .int 0, .null], vm := .none }]
def classes : Array Class := #[k0, k1, k2, k3, k4, k5, k6, k7, k8, k9, k10, k11, k12, k13, k14, k15, k16, k17, k18, k19, k20, k21, k22]
def interned : List (Array UInt16 × Addr) := []
def slotsUsed : Nat := 21
def theMethod : MethodId := ⟨1, 2⟩
def args0 : Array Value := #[.long 5, .int 5, .int 5, .int 5, .int 5]
def aboutOver (below : List Frame) : State where
  vm := { classes := classes, interned := interned.toArray }
  heap := heap
  slotsUsed := slotsUsed
  threads := #[{ frames := .invoking theMethod args0 :: below }]
def below0 : List Frame := [.native { method := ⟨0, 0⟩, args := #[] }]
def about1 : State := aboutOver below0
def p0 : Program := .bare "" "" ""
def e0 : Env := launch0.env 0 0 0
theorem w_frames : about1.frames = Frame.invoking theMethod args0 :: below0 := rfl
set_option maxRecDepth 65536 in
theorem w_args : argsFit about1.vm theMethod args0 = true := by decide +kernel
set_option maxRecDepth 65536 in
theorem w_heap : heapFits about1 = true := by decide +kernel
set_option maxRecDepth 65536 in
theorem w_runnable : about1.curStatus? = some .runnable := by decide +kernel
set_option maxRecDepth 65536 in
theorem w_alone : about1.alone = true := by decide +kernel
set_option maxRecDepth 65536 in
theorem w_named : about1.methodNamed? x = some theMethod := by decide +kernel
set_option maxRecDepth 65536 in
theorem w_hears : about1.hears theMethod below0 = true := by decide +kernel
set_option maxRecDepth 65536 in
theorem w_ripe : about1.ripe theMethod args0 below0 = true := by decide +kernel
theorem w_running : about1.status = .running := rfl
set_option maxRecDepth 65536 in
theorem w_room : about1.hasRoom e0.platform room_1 = true :=
  launch0.hasRoom_least _ room_1 (by decide +kernel) (by decide +kernel) (by decide +kernel) (by decide +kernel) (by decide +kernel) (by decide +kernel)
theorem allAtoms_all (ts : List Jvm.Cond) (a : Array Jvm.Value) (st : Jvm.State) : (allAtoms ts).before a st = ts.all (fun c => c.before a st) := by
  induction ts with
  | nil => rfl
  | cons c t ih =>
    show (Jvm.Cond.and c (allAtoms t)).before a st = _
    rw [Jvm.Cond.before_and, ih, List.all_cons]
def words1 : List Jvm.Cond := Jvm.Cond.code x code maxLocals ret :: tables_1
/-- a 'code' word, met by the world's own term for the bytes: nothing is compared byte by byte -/
theorem code_word {y : MethodName} {bytes : ByteArray} {mx : Nat} {rt : Option FieldType} {a : Array Value} {s : State} {m : MethodId} {meth : Method} {c : Code} (h1 : s.methodNamed? y = some m) (h2 : s.vm.method? m = some meth) (h3 : meth.code = some c) (h4 : c.code = bytes)
    (h5 : (c.maxLocals == mx && c.exceptionTable.isEmpty && decide (c.maxStack ≤ mostOperands) && decide (meth.sig.returnType = rt) && !meth.locks && decide (parseMethodDescriptor y.desc = some meth.sig)) = true) : (Jvm.Cond.code y bytes mx rt).before a s = true := by
  simp only [Bool.and_eq_true, beq_iff_eq, Bool.not_eq_true', decide_eq_true_eq] at h5
  obtain ⟨⟨⟨⟨⟨g1, g2⟩, g3⟩, g4⟩, g5⟩, g6⟩ := h5
  simp [Cond.before, Cond.holds, Cond.value, h1, h2, h3, h4, g1, g2, g3, g4, g5, g6]
def isCode : Jvm.Cond → Bool
  | .code _ _ _ _ => true
  | _ => false
theorem all_split {L : List Jvm.Cond} {P : Jvm.Cond → Bool} (h1 : L.all (fun c => isCode c || P c) = true) (h2 : ∀ c ∈ L.filter isCode, P c = true) : L.all P = true := by
  refine List.all_eq_true.mpr fun c hc => ?_
  have h := List.all_eq_true.mp h1 c hc
  rcases Bool.eq_false_or_eq_true (isCode c) with hi | hi
  · exact h2 c (List.mem_filter.mpr ⟨hc, hi⟩)
  · simpa [hi] using h
set_option maxRecDepth 65536 in
theorem w_c0 : (Jvm.Cond.code x code maxLocals ret).before args0 about1 = true := code_word (m := ⟨1, 2⟩) (meth := k1m2) (c := k1c2) (by decide +kernel) rfl rfl rfl (by decide +kernel)
set_option maxRecDepth 65536 in
theorem w_c1 : (Jvm.Cond.code ({ cls := "com/example/idem1/idem1/Line", name := "<init>", desc := "(JLjava/lang/String;Lcom/example/idem1/idem1/Line$Problem;)V" } : Jvm.MethodName) prog_17_method_1_code (5 : Nat) (Option.none : Option Jvm.ClassFile.FieldType)).before args0 about1 = true := code_word (m := ⟨8, 0⟩) (meth := k8m0) (c := k8c0) (by decide +kernel) rfl rfl rfl (by decide +kernel)
set_option maxRecDepth 65536 in
theorem w_c2 : (Jvm.Cond.code ({ cls := "java/lang/Record", name := "<init>", desc := "()V" } : Jvm.MethodName) jdk_30_method_1_code (1 : Nat) (Option.none : Option Jvm.ClassFile.FieldType)).before args0 about1 = true := code_word (m := ⟨7, 0⟩) (meth := k7m0) (c := k7c0) (by decide +kernel) rfl rfl rfl (by decide +kernel)
set_option maxRecDepth 65536 in
theorem w_c3 : (Jvm.Cond.code ({ cls := "java/lang/Object", name := "<init>", desc := "()V" } : Jvm.MethodName) object_method_1_code (1 : Nat) (Option.none : Option Jvm.ClassFile.FieldType)).before args0 about1 = true := code_word (m := ⟨0, 0⟩) (meth := k0m0) (c := k0c0) (by decide +kernel) rfl rfl rfl (by decide +kernel)
set_option maxRecDepth 65536 in
theorem w_c4 : (Jvm.Cond.code ({ cls := "com/example/idem1/idem1/Line", name := "isValid", desc := "()Z" } : Jvm.MethodName) prog_17_method_4_code (1 : Nat) (Option.some Jvm.ClassFile.FieldType.boolean)).before args0 about1 = true := code_word (m := ⟨8, 1⟩) (meth := k8m1) (c := k8c1) (by decide +kernel) rfl rfl rfl (by decide +kernel)
set_option maxRecDepth 65536 in
theorem w_c5 : (Jvm.Cond.code ({ cls := "com/example/idem1/idem1/Line", name := "text", desc := "()Ljava/lang/String;" } : Jvm.MethodName) prog_17_method_9_code (1 : Nat) (Option.some (Jvm.ClassFile.FieldType.object "java/lang/String"))).before args0 about1 = true := code_word (m := ⟨8, 2⟩) (meth := k8m2) (c := k8c2) (by decide +kernel) rfl rfl rfl (by decide +kernel)
set_option maxRecDepth 65536 in
theorem w_c6 : (Jvm.Cond.code ({ cls := "com/example/idem1/idem1/Line", name := "problem", desc := "()Lcom/example/idem1/idem1/Line$Problem;" } : Jvm.MethodName) prog_17_method_10_code (1 : Nat) (Option.some (Jvm.ClassFile.FieldType.object "com/example/idem1/idem1/Line$Problem"))).before args0 about1 = true := code_word (m := ⟨8, 3⟩) (meth := k8m3) (c := k8c3) (by decide +kernel) rfl rfl rfl (by decide +kernel)
set_option maxRecDepth 65536 in
theorem w_c7 : (Jvm.Cond.code ({ cls := "com/example/idem1/idem1/LineIsValidPinLaw", name := "drawText", desc := "(III)Ljava/lang/String;" } : Jvm.MethodName) method_2_code (5 : Nat) (Option.some (Jvm.ClassFile.FieldType.object "java/lang/String"))).before args0 about1 = true := code_word (m := ⟨1, 1⟩) (meth := k1m1) (c := k1c1) (by decide +kernel) rfl rfl rfl (by decide +kernel)
set_option maxRecDepth 65536 in
theorem w_c8 : (Jvm.Cond.code ({ cls := "java/lang/String", name := "<init>", desc := "([C)V" } : Jvm.MethodName) jdk_42_method_3_code (2 : Nat) (Option.none : Option Jvm.ClassFile.FieldType)).before args0 about1 = true := code_word (m := ⟨11, 1⟩) (meth := k11m1) (c := k11c1) (by decide +kernel) rfl rfl rfl (by decide +kernel)
set_option maxRecDepth 65536 in
theorem w_c9 : (Jvm.Cond.code ({ cls := "java/lang/String", name := "<init>", desc := "([CIILjava/lang/Void;)V" } : Jvm.MethodName) jdk_42_method_149_code (6 : Nat) (Option.none : Option Jvm.ClassFile.FieldType)).before args0 about1 = true := code_word (m := ⟨11, 3⟩) (meth := k11m3) (c := k11c3) (by decide +kernel) rfl rfl rfl (by decide +kernel)
set_option maxRecDepth 65536 in
theorem w_c10 : (Jvm.Cond.code ({ cls := "java/lang/StringUTF16", name := "compress", desc := "([CII)[B" } : Jvm.MethodName) jdk_52_method_16_code (6 : Nat) (Option.some (Jvm.ClassFile.FieldType.array Jvm.ClassFile.FieldType.byte))).before args0 about1 = true := code_word (m := ⟨12, 2⟩) (meth := k12m2) (c := k12c2) (by decide +kernel) rfl rfl rfl (by decide +kernel)
set_option maxRecDepth 65536 in
theorem w_c11 : (Jvm.Cond.code ({ cls := "java/lang/StringUTF16", name := "compress", desc := "([CI[BII)I" } : Jvm.MethodName) jdk_52_method_21_code (7 : Nat) (Option.some Jvm.ClassFile.FieldType.int)).before args0 about1 = true := code_word (m := ⟨12, 3⟩) (meth := k12m3) (c := k12c3) (by decide +kernel) rfl rfl rfl (by decide +kernel)
set_option maxRecDepth 65536 in
theorem w_c12 : (Jvm.Cond.code ({ cls := "java/lang/StringUTF16", name := "coderFromArrayLen", desc := "([BI)B" } : Jvm.MethodName) jdk_52_method_15_code (2 : Nat) (Option.some Jvm.ClassFile.FieldType.byte)).before args0 about1 = true := code_word (m := ⟨12, 1⟩) (meth := k12m1) (c := k12c1) (by decide +kernel) rfl rfl rfl (by decide +kernel)
set_option maxRecDepth 65536 in
theorem w_c13 : (Jvm.Cond.code ({ cls := "java/lang/String", name := "valueOf", desc := "(C)Ljava/lang/String;" } : Jvm.MethodName) jdk_42_method_139_code (1 : Nat) (Option.some (Jvm.ClassFile.FieldType.object "java/lang/String"))).before args0 about1 = true := code_word (m := ⟨11, 2⟩) (meth := k11m2) (c := k11c2) (by decide +kernel) rfl rfl rfl (by decide +kernel)
set_option maxRecDepth 65536 in
theorem w_c14 : (Jvm.Cond.code ({ cls := "java/lang/StringLatin1", name := "canEncode", desc := "(C)Z" } : Jvm.MethodName) jdk_43_method_3_code (1 : Nat) (Option.some Jvm.ClassFile.FieldType.boolean)).before args0 about1 = true := code_word (m := ⟨13, 1⟩) (meth := k13m1) (c := k13c1) (by decide +kernel) rfl rfl rfl (by decide +kernel)
set_option maxRecDepth 65536 in
theorem w_c15 : (Jvm.Cond.code ({ cls := "java/lang/StringLatin1", name := "toBytes", desc := "(C)[B" } : Jvm.MethodName) jdk_43_method_46_code (1 : Nat) (Option.some (Jvm.ClassFile.FieldType.array Jvm.ClassFile.FieldType.byte))).before args0 about1 = true := code_word (m := ⟨13, 2⟩) (meth := k13m2) (c := k13c2) (by decide +kernel) rfl rfl rfl (by decide +kernel)
set_option maxRecDepth 65536 in
theorem w_c16 : (Jvm.Cond.code ({ cls := "java/lang/String", name := "<init>", desc := "([BB)V" } : Jvm.MethodName) jdk_42_method_151_code (3 : Nat) (Option.none : Option Jvm.ClassFile.FieldType)).before args0 about1 = true := code_word (m := ⟨11, 4⟩) (meth := k11m4) (c := k11c4) (by decide +kernel) rfl rfl rfl (by decide +kernel)
def codes1 : List Jvm.Cond := [Jvm.Cond.code x code maxLocals ret, Jvm.Cond.code ({ cls := "com/example/idem1/idem1/Line", name := "<init>", desc := "(JLjava/lang/String;Lcom/example/idem1/idem1/Line$Problem;)V" } : Jvm.MethodName) prog_17_method_1_code (5 : Nat) (Option.none : Option Jvm.ClassFile.FieldType), Jvm.Cond.code ({ cls := "java/lang/Record", name := "<init>", desc := "()V" } : Jvm.MethodName) jdk_30_method_1_code (1 : Nat) (Option.none : Option Jvm.ClassFile.FieldType), Jvm.Cond.code ({ cls := "java/lang/Object", name := "<init>", desc := "()V" } : Jvm.MethodName) object_method_1_code (1 : Nat) (Option.none : Option Jvm.ClassFile.FieldType), Jvm.Cond.code ({ cls := "com/example/idem1/idem1/Line", name := "isValid", desc := "()Z" } : Jvm.MethodName) prog_17_method_4_code (1 : Nat) (Option.some Jvm.ClassFile.FieldType.boolean), Jvm.Cond.code ({ cls := "com/example/idem1/idem1/Line", name := "text", desc := "()Ljava/lang/String;" } : Jvm.MethodName) prog_17_method_9_code (1 : Nat) (Option.some (Jvm.ClassFile.FieldType.object "java/lang/String")), Jvm.Cond.code ({ cls := "com/example/idem1/idem1/Line", name := "problem", desc := "()Lcom/example/idem1/idem1/Line$Problem;" } : Jvm.MethodName) prog_17_method_10_code (1 : Nat) (Option.some (Jvm.ClassFile.FieldType.object "com/example/idem1/idem1/Line$Problem")), Jvm.Cond.code ({ cls := "com/example/idem1/idem1/LineIsValidPinLaw", name := "drawText", desc := "(III)Ljava/lang/String;" } : Jvm.MethodName) method_2_code (5 : Nat) (Option.some (Jvm.ClassFile.FieldType.object "java/lang/String")), Jvm.Cond.code ({ cls := "java/lang/String", name := "<init>", desc := "([C)V" } : Jvm.MethodName) jdk_42_method_3_code (2 : Nat) (Option.none : Option Jvm.ClassFile.FieldType), Jvm.Cond.code ({ cls := "java/lang/String", name := "<init>", desc := "([CIILjava/lang/Void;)V" } : Jvm.MethodName) jdk_42_method_149_code (6 : Nat) (Option.none : Option Jvm.ClassFile.FieldType), Jvm.Cond.code ({ cls := "java/lang/StringUTF16", name := "compress", desc := "([CII)[B" } : Jvm.MethodName) jdk_52_method_16_code (6 : Nat) (Option.some (Jvm.ClassFile.FieldType.array Jvm.ClassFile.FieldType.byte)), Jvm.Cond.code ({ cls := "java/lang/StringUTF16", name := "compress", desc := "([CI[BII)I" } : Jvm.MethodName) jdk_52_method_21_code (7 : Nat) (Option.some Jvm.ClassFile.FieldType.int), Jvm.Cond.code ({ cls := "java/lang/StringUTF16", name := "coderFromArrayLen", desc := "([BI)B" } : Jvm.MethodName) jdk_52_method_15_code (2 : Nat) (Option.some Jvm.ClassFile.FieldType.byte), Jvm.Cond.code ({ cls := "java/lang/String", name := "valueOf", desc := "(C)Ljava/lang/String;" } : Jvm.MethodName) jdk_42_method_139_code (1 : Nat) (Option.some (Jvm.ClassFile.FieldType.object "java/lang/String")), Jvm.Cond.code ({ cls := "java/lang/StringLatin1", name := "canEncode", desc := "(C)Z" } : Jvm.MethodName) jdk_43_method_3_code (1 : Nat) (Option.some Jvm.ClassFile.FieldType.boolean), Jvm.Cond.code ({ cls := "java/lang/StringLatin1", name := "toBytes", desc := "(C)[B" } : Jvm.MethodName) jdk_43_method_46_code (1 : Nat) (Option.some (Jvm.ClassFile.FieldType.array Jvm.ClassFile.FieldType.byte)), Jvm.Cond.code ({ cls := "java/lang/String", name := "<init>", desc := "([BB)V" } : Jvm.MethodName) jdk_42_method_151_code (3 : Nat) (Option.none : Option Jvm.ClassFile.FieldType)]
set_option maxRecDepth 65536 in
theorem codes_eq : words1.filter isCode = codes1 := rfl
theorem w_codes : ∀ c ∈ words1.filter isCode, c.before args0 about1 = true := by
  rw [codes_eq]
  intro c hc
  simp only [codes1, List.mem_cons, List.not_mem_nil, or_false] at hc
  rcases hc with rfl | rfl | rfl | rfl | rfl | rfl | rfl | rfl | rfl | rfl | rfl | rfl | rfl | rfl | rfl | rfl | rfl
  · exact w_c0
  · exact w_c1
  · exact w_c2
  · exact w_c3
  · exact w_c4
  · exact w_c5
  · exact w_c6
  · exact w_c7
  · exact w_c8
  · exact w_c9
  · exact w_c10
  · exact w_c11
  · exact w_c12
  · exact w_c13
  · exact w_c14
  · exact w_c15
  · exact w_c16
set_option maxRecDepth 65536 in
theorem w_t1 : (words1.take 24).all (fun c => isCode c || c.before args0 about1) = true := by decide +kernel
set_option maxRecDepth 65536 in
theorem w_t2 : ((words1.drop 24).take 24).all (fun c => isCode c || c.before args0 about1) = true := by decide +kernel
set_option maxRecDepth 65536 in
theorem w_t3 : (((words1.drop 24).drop 24).take 24).all (fun c => isCode c || c.before args0 about1) = true := by decide +kernel
set_option maxRecDepth 65536 in
theorem w_t4 : (((words1.drop 24).drop 24).drop 24).all (fun c => isCode c || c.before args0 about1) = true := by decide +kernel
theorem w_tables : (allAtoms (Jvm.Cond.code x code maxLocals ret :: tables_1)).before args0 about1 = true := by
  rw [allAtoms_all]
  show words1.all (fun c => c.before args0 about1) = true
  refine all_split ?_ w_codes
  rw [← List.take_append_drop 24 words1, List.all_append, w_t1, ← List.take_append_drop 24 (words1.drop 24), List.all_append, w_t2, ← List.take_append_drop 24 ((words1.drop 24).drop 24), List.all_append, w_t3, w_t4]
  rfl
set_option maxRecDepth 65536 in
theorem w_rest : rest_1_c.before args0 about1 = true := by decide +kernel
set_option maxRecDepth 65536 in
theorem w_case : (Jvm.Cond.and given_1 narrow_1).before args0 about1 = true := by decide +kernel
theorem w_applies : (headSpec (Jvm.Cond.code x code maxLocals ret :: tables_1) room_1).applies x e0.platform about1 = true :=
  (Spec.applies_iff w_frames).mpr ⟨w_running, w_runnable, w_alone, w_named, w_hears, w_ripe, w_room, w_tables⟩
theorem atStart : AtStart classFile x code maxLocals ret World_1 tables_1 room_1 Calls_1 rest_1 Pre_1 launch0 p0 e0 about1 theMethod args0 below0 :=
  ⟨lists_1, trivial, launch0.admits_env _ _ _, launch0.least_env, fairChoices_fair.cas, fairChoices_fair.clock, w_frames, w_args, w_heap, w_applies, trivial, w_rest, w_case⟩
end start1
theorem witness_1 : WitnessClaimed_1 := ⟨start1.p0, start1.e0, start1.about1, start1.theMethod, start1.args0, start1.below0, start1.atStart⟩
end Jvm.Pilot.@@N@@
