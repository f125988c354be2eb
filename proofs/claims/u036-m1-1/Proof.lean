import JvmDerived
import JvmDerived.Pilot.@@N@@Statement
import JvmDerived.Pilot.@@N@@Code
set_option linter.unusedVariables false
set_option linter.unusedSimpArgs false
namespace Jvm.RoadKit
open Sem ClassFile Op Lib Jvm.Stand Jvm.Free Jvm.LawKit
section New
variable {p : Program} {l : Launch} {e : Env} {R : Room} {s : State} {m : MethodId} {args : Array Value} {below : List Frame} {meth : Method} {c : Code} {T : State} {locs : List Loc} {cells slots : Nat}
theorem retI (X : Stand p l e R s m args below meth c T locs cells slots) (hx : p.tables.exec = Jvm.exec) {pc : Nat} {Ls : Array Slot} {z : Int32} {rest : List Value} (hret : meth.sig.returnType = some .int) (hd : decode c.code pc = .ok (.ireturn, 1)) {fs : List Frame}
    (hl : ∀ (f : JFrame) (acts : List Action), f.method = m → f.locked = none → f.entered = [] → (doReturn e (T.setTop f) acts (some (.int z))).1 = T.setFrames fs) : Steps p.tables e below (T.setTop (mkF m pc Ls (.int z :: rest))) (T.setFrames fs) := by
  have hm' : T.vm.method? m = some meth := X.method'
  have hn : narrow .int (.int z) = .int z := rfl
  show Steps p.tables e below (T.setTop { method := m, pc := pc, locals := Ls, stack := _ :: rest, locked := none }) _
  jvm_step X.here [X.here.top, hx, hd, hm', hret, hn]
  first | (intro acts; rw [hl _ acts rfl rfl rfl]) | rw [hl _ _ rfl rfl rfl]
  exact Steps.refl _
end New
end Jvm.RoadKit
namespace Jvm.Pilot.@@N@@
open Jvm Jvm.ClassFile Sem Op Lib Jvm.Free Jvm.Stand Jvm.LawKit Jvm.RoadKit Bundle Jvm.Pilot.@@N@@.Jvm.D
def Gl (p : Program) (e : Env) (below : List Frame) (Q : Outcome → State → Prop) (A : State) : Prop := ∃ t o, Steps p.tables e below A t ∧ t.status = .running ∧ Ended t below o ∧ Q o t
theorem Gl.st {p : Program} {e : Env} {below : List Frame} {Q : Outcome → State → Prop} {A B : State} (k : ∀ t, Steps p.tables e below B t → Steps p.tables e below A t) (h : Gl p e below Q B) : Gl p e below Q A := by
  obtain ⟨t, o, h1, r⟩ := h
  exact ⟨t, o, k t h1, r⟩
theorem Gl.cast {p : Program} {e : Env} {below : List Frame} {Q : Outcome → State → Prop} {A B : State} (k : A = B) (h : Gl p e below Q B) : Gl p e below Q A := k ▸ h
theorem Gl.join {p : Program} {e : Env} {below : List Frame} {Q : Outcome → State → Prop} {A B : State} (k : Gl p e below Q A → Gl p e below Q B) (h : Gl p e below Q A) : Gl p e below Q B := k h
theorem Gl.fin {p : Program} {e : Env} {below : List Frame} {Q : Outcome → State → Prop} {A t : State} {o : Outcome} (h1 : Steps p.tables e below A t) (h2 : t.status = .running) (h3 : Ended t below o) (h4 : Q o t) : Gl p e below Q A := ⟨t, o, h1, h2, h3, h4⟩
theorem tw {a0 : Array Value} {Z : State} (hw : ∀ d ∈ tables_1, d.before a0 Z = true) (i : Nat) {d : Jvm.Cond} (h : tables_1[i]? = some d) : d.before a0 Z = true := hw _ (List.mem_of_getElem? h)
theorem ldAt {L M : Array Slot} (h : L = M) {k : Nat} {v : Slot} (q : M[k]? = some v) : L[k]? = some v := h ▸ q
theorem stAt {L M L' M' : Array Slot} {k : Nat} {v w : Value} (h : L = M) (h' : L' = M') (e : w = v) (q : storeLocals M k v = some M') : storeLocals L k w = some L' := by subst h h' e; exact q
theorem stAt' {L M L' M' : Array Slot} {k : Nat} {v w : Value} (h : L = M) (h' : L' = M') (e : w = v) (q : storeLocals M k v = some M') : storeLocals L k w = some L' := by subst h h' e; exact q
theorem szAt {L M : Array Slot} {k n : Nat} (h : k = n) (h' : L = M) (q : M.size = n) : L.size = k := by subst h h'; exact q
theorem efAt {m : MethodId} {L M : Array Slot} {f : JFrame} (h : L = M) (q : f = mkF m 0 M []) : f = mkF m 0 L [] := h ▸ q
theorem own_nb {c : Prop} [Decidable c] {a b : Int32} (ha : nar .boolean a = a) (hb : nar .boolean b = b) : nar .boolean (if c then a else b) = if c then a else b := by split <;> assumption
theorem own_arr_keep {Z : State} {h h' : Heap} {a : Addr} {c : Cell} {ty : FieldType} {ws : List Addr} (F : Arr Z h a c ty) (K : Keep h h' ws) (q : a ∉ ws) : Arr Z h' a c ty := ⟨K.2.1 a c F.1 q, F.2⟩
theorem own_eqL {args : Array Value} {s : State} {t : Term} {z : Int64} (h : (Jvm.Cond.eq t (.long z)).value args s none s [] = some true) : t.eval args s none [] s = some (.long z) := by
  obtain ⟨x, y, ha, hb, k1, k2⟩ := cmp_v (Or.inl h)
  obtain rfl : y = .long z := Option.some.inj (hb.symm.trans (long_at z))
  obtain ⟨w, rfl⟩ : ∃ w, x = .long w := k2
  rw [ha, gotT (eq_L ha hb) h]
theorem own_eqI {args : Array Value} {s : State} {t : Term} {z : Int32} (h : (Jvm.Cond.eq t (.int z)).value args s none s [] = some true) : t.eval args s none [] s = some (.int z) := by
  obtain ⟨x, y, ha, hb, k1, k2⟩ := cmp_v (Or.inl h)
  obtain rfl : y = .int z := Option.some.inj (hb.symm.trans (Term.int_eval z))
  obtain ⟨w, rfl⟩ : ∃ w, x = .int w := k2
  rw [ha, gotT (Cond.eq_ints ha hb) h]
theorem own_sta_keep {Z : State} {h h' : Heap} {C n d : String} {v : Value} {ws : List Addr} (F : Sta Z h C n d v) (K : Keep h h' ws) (q : ∀ x ∈ ws, ∀ cell : Cell, h[x]? = some cell → cell.vm.isStatics = false) : Sta Z h' C n d v := by
  obtain ⟨cf, i, k, f, a, cell, h1, h2, h3, h4, h5, h6, r⟩ := F
  exact ⟨cf, i, k, f, a, cell, h1, h2, h3, h4, K.2.1 a cell h5 (fun y => by have := q a y cell h5; rw [h6] at this; cases this), h6, r⟩
theorem own_exa_plain {Z : State} {h : Heap} {a : Addr} {C : String} (F : Exa Z h a C) : ∀ cell : Cell, h[a]? = some cell → cell.vm.isStatics = false := fun cell hc => by
  obtain ⟨c', k, h1, -, -, h4, -⟩ := F
  rw [h1] at hc; cases hc; exact h4
theorem own_arv_plain {Z : State} {h : Heap} {a : Addr} {k : ClassId} {ty : FieldType} {z : Int32} {vs : List Value} {dv : Value} (F : Arv Z h a k ty z vs dv) : ∀ cell : Cell, h[a]? = some cell → cell.vm.isStatics = false := fun cell hc => by
  obtain ⟨c', A, -⟩ := F
  have := A.1; rw [this] at hc; cases hc; exact A.plain
theorem own_strAtoms {Z : State} {a0 : Array Value} (hw : ∀ d ∈ tables_1, d.before a0 Z = true) : ∀ a ∈ Bundle.stringAtoms, a.before a0 Z = true := by
  intro d hd
  simp only [Bundle.stringAtoms, List.mem_cons, List.not_mem_nil, or_false] at hd
  rcases hd with rfl | rfl | rfl | rfl | rfl | rfl | rfl
  · exact tw hw 21 rfl
  · exact tw hw 29 rfl
  · exact tw hw 33 rfl
  · exact tw hw 40 rfl
  · exact tw hw 42 rfl
  · exact tw hw 48 rfl
  · exact tw hw 49 rfl
theorem own_ch (q x : Int32) (h : x = ((q &&& (255 : Int32)).toUInt32.toUInt16.toUInt32.toInt32)) : ¬ ((255 : Int32) < x) := by
  rw [h, i2c_mask, Int32.lt_iff_toInt_lt]
  have a : (q &&& (255 : Int32)).toInt = q.toInt % 256 := c_mask q (255 : Int32) 8 (by decide) (by decide)
  simp only [Int32.reduceToInt]
  omega
theorem own_and3 (x y : Int32) (h : y = x &&& (3 : Int32)) : y = 0 ∨ y = 1 ∨ y = 2 ∨ y = 3 := by
  have a : y.toInt = x.toInt % 4 := by rw [h]; exact c_mask x (3 : Int32) 2 (by decide) (by decide)
  clear h
  simp only [← Int32.toInt_inj, Int32.reduceToInt]
  omega
theorem own_ns0 {Z : State} {a0 : Array Value} {O K : String} {n : Nat} (w : (Jvm.Cond.noSuperclass O).before a0 Z = true) (wk : (Jvm.Cond.instantiable K n).before a0 Z = true) (hn : O ≠ K) : NS Z O K := by
  obtain ⟨c, k, h1, h2, h3, -, -⟩ := Cond.noSuperclass_spec w
  obtain ⟨t, k', g1, -⟩ := Cond.instantiable_spec wk
  have ne := ids_ne h1 g1 hn
  refine ⟨c, t, h1, g1, fun fuel => ?_⟩
  cases fuel with
  | zero => rfl
  | succ f => simp [Vm.isSubclassAux, ne, h2, h3]
theorem own_nsno {Z : State} {a0 : Array Value} {C S K : String} {m : Nat} (w : (Jvm.Cond.superclass C S).before a0 Z = true) (wk : (Jvm.Cond.instantiable K m).before a0 Z = true) (n : NS Z C K) (hn : C ≠ K) : ∃ c t, Z.vm.findClass C = some c ∧ Z.vm.findClass K = some t ∧ Z.vm.assignable c t = false := by
  obtain ⟨c, t, h0, g0, n3⟩ := n
  obtain ⟨q, k, kp, h1, h2, h3, h4, h5, -, h7⟩ := Cond.superclass_spec h0 w
  obtain ⟨t', k', g1, g2, g5, g6, -⟩ := Cond.instantiable_spec wk
  cases g0.symm.trans g1
  have g7 : k'.isInterface = false := by
    cases hi : k'.isInterface with
    | false => rfl
    | true => rw [hi] at g6; cases g6
  have ne := ids_ne h0 g0 hn
  refine ⟨c, t, h0, g0, ?_⟩
  show Z.vm.assignableAux (255 + 1) c t = false
  simp [Vm.assignableAux, ne, h2, g2, h5, g5, g7, Vm.isSubclass, n3]
theorem d2_0 : decode jdk_30_method_1_code 0 = .ok (.aload_n 0, 1) := by decide +kernel
theorem d2_1 : decode jdk_30_method_1_code 1 = .ok (.invokespecial 1, 3) := by decide +kernel
theorem d2_4 : decode jdk_30_method_1_code 4 = .ok (.return_, 1) := by decide +kernel
theorem pn_2 : plainName "java/lang/Record" = true := by first | (simp [plainName, overriddenIn]; done) | decide +kernel
theorem ef_2 (m : MethodId) (a1 : Addr) : entryFrame m #[(.ref a1)] 1 = mkF m 0 #[.val (.ref a1)] [] := by first | (simp [entryFrame, mkF, argsToLocals, Value.category]; done) | rfl
def Q2 (Z : State) (a1 : Addr) (h0 : Heap) (n0 : Nat) (v : Option Value) (h : Heap) (L : List Loc) : Prop := v = none ∧ Fr n0 L ∧ h = h0
set_option maxRecDepth 65536 in
set_option maxHeartbeats 40000000 in
theorem rm2 (l : Launch) (Z : State) (a0 : Array Value) (hw : ∀ d ∈ tables_1, d.before a0 Z = true) (ws : List Jvm.Cond) (a1 : Addr) (h0 : Heap) (n0 : Nat) (Z0 : n0 ≤ h0.size) :
    MetFree l (⟨"java/lang/Record", "<init>", "()V"⟩ : MethodName) (head1 (Jvm.Cond.code (⟨"java/lang/Record", "<init>", "()V"⟩ : MethodName) jdk_30_method_1_code 1 none :: ws) ({ frames := 1, cells := 0, slots := 0, locals := 12 } : Room)) (fun a U => a = #[(.ref a1)] ∧ Z.Warmed39 U.vm ∧ U.heap = h0) (fun _ _ _ _ _ => True) (fun _ U o U' => ∃ v L, o = .returned v ∧ Q2 Z a1 h0 n0 v U'.heap L ∧ FrameEnd U o U' L ({ frames := 1, cells := 0, slots := 0, locals := 12 } : Room).cells ({ frames := 1, cells := 0, slots := 0, locals := 12 } : Room).slots) := by
  refine MetFree.of_bodySF (plainFor_of_name pn_2) hisR ?_
  intro p e s m args below meth c s₁ Bd hml0 hP hK
  obtain ⟨rfl, hZ, hh⟩ := hP
  have hx := Bd.exec
  have hby := Bd.bytes
  have hml : c.maxLocals = 1 := hml0
  have hown : s.vm.findClass "java/lang/Record" = some m.cls := findClass_of_methodNamed Bd.named
  have hnm := (name_of_methodNamed Bd.named Bd.method).1
  have X0 : Stand p l e ({ frames := 1, cells := 0, slots := 0, locals := 12 } : Room) s m #[(.ref a1)] below meth c s₁ [] 0 0 := Stand.of_body Bd
  have e0 : s₁.heap = h0 := by rw [← hh, Bd.state]; rfl
  have N0 := Fr.nil n0
  have K0 : Keep h0 h0 [] := Keep.refl h0 _
  refine (show Gl p e below (fun o U' => ∃ v L, o = .returned v ∧ Q2 Z a1 h0 n0 v U'.heap L ∧ FrameEnd s o U' L ({ frames := 1, cells := 0, slots := 0, locals := 12 } : Room).cells ({ frames := 1, cells := 0, slots := 0, locals := 12 } : Room).slots) (s₁.setTop (entryFrame m #[(.ref a1)] 1)) from ?_)
  obtain ⟨L0, hL0⟩ : ∃ z : Array Slot, z = #[.val (.ref a1)] := ⟨_, rfl⟩
  refine Gl.st (B := (s₁.setTop (mkF m 0 L0 []))) (fun t k => castTop (efAt hL0 (ef_2 m a1)) k) ?_
  refine Gl.st (B := (s₁.setTop (mkF m 1 L0 [(.ref a1)]))) (fun t k => XS.aloadN X0.here hx rfl (hb hby d2_0) (ldAt hL0 rfl) rfl k) ?_
  obtain ⟨T1, X1, e1, st1⟩ := initO X0 hx hZ hown (tw hw 11 rfl) (tw hw 12 rfl) (tw hw 13 rfl) e0 (g := (mkF m 1 L0 [(.ref a1)])) rfl (szAt hml hL0 rfl) rfl (hb hby d2_1) (by decide) (W := 0) (by show 2 * 0 + _ ≤ _; exact Nat.le_of_eq rfl) (by decide)
  refine Gl.st (B := (T1.setTop (mkF m 4 L0 []))) st1 ?_
  obtain ⟨fs, hr, hrun, hended, hW, hsame⟩ := X1.leave (v := none) (fun _ => rfl)
  refine Gl.fin (X1.returnOut hx Bd.returns (hb hby d2_4) hr) hrun hended ⟨_, _, rfl, ?_, ⟨_, rfl⟩, hW, hsame.mono (by decide) (by decide)⟩
  show Q2 Z a1 h0 n0 _ T1.heap _
  rw [e1]
  exact ⟨rfl, N0, rfl⟩
theorem d1_0 : decode prog_25_method_1_code 0 = .ok (.aload_n 0, 1) := by decide +kernel
theorem d1_1 : decode prog_25_method_1_code 1 = .ok (.invokespecial 1, 3) := by decide +kernel
theorem d1_4 : decode prog_25_method_1_code 4 = .ok (.aload_n 0, 1) := by decide +kernel
theorem d1_5 : decode prog_25_method_1_code 5 = .ok (.iload_n 1, 1) := by decide +kernel
theorem d1_6 : decode prog_25_method_1_code 6 = .ok (.putfield 7, 3) := by decide +kernel
theorem d1_9 : decode prog_25_method_1_code 9 = .ok (.return_, 1) := by decide +kernel
theorem pn_1 : plainName "com/example/stale_to_safe/staletosafe/policy/Atom$Bool" = true := by first | (simp [plainName, overriddenIn]; done) | decide +kernel
theorem pd_1_0 : parseMethodDescriptor "()V" = some ⟨[], none⟩ := by decide +kernel
theorem ef_1 (m : MethodId) (a1 : Addr) (p2 : Int32) : entryFrame m #[(.ref a1), (.int p2)] 2 = mkF m 0 #[.val (.ref a1), .val (.int p2)] [] := by first | (simp [entryFrame, mkF, argsToLocals, Value.category]; done) | rfl
def Q1 (Z : State) (a1 : Addr) (p2 : Int32) (u_value_a1 : Value) (h0 : Heap) (n0 : Nat) (v : Option Value) (h : Heap) (L : List Loc) : Prop := v = none ∧ Fr n0 L ∧ Keep h0 h [a1] ∧ Exa Z h a1 "com/example/stale_to_safe/staletosafe/policy/Atom$Bool" ∧ Fld Z h a1 "com/example/stale_to_safe/staletosafe/policy/Atom$Bool" "value" "Z" (.int (nar .boolean p2))
set_option maxRecDepth 65536 in
set_option maxHeartbeats 40000000 in
theorem rm1 (l : Launch) (Z : State) (a0 : Array Value) (hw : ∀ d ∈ tables_1, d.before a0 Z = true) (ws : List Jvm.Cond) (a1 : Addr) (p2 : Int32) (u_value_a1 : Value) (h0 : Heap) (n0 : Nat) (Z0 : n0 ≤ h0.size) (F_value_a1 : Fld Z h0 a1 "com/example/stale_to_safe/staletosafe/policy/Atom$Bool" "value" "Z" u_value_a1) (E_a1 : Exa Z h0 a1 "com/example/stale_to_safe/staletosafe/policy/Atom$Bool") (g_a1 : n0 ≤ a1) :
    MetFree l (⟨"com/example/stale_to_safe/staletosafe/policy/Atom$Bool", "<init>", "(Z)V"⟩ : MethodName) (head1 (Jvm.Cond.code (⟨"com/example/stale_to_safe/staletosafe/policy/Atom$Bool", "<init>", "(Z)V"⟩ : MethodName) prog_25_method_1_code 2 none :: ws) ({ frames := 2, cells := 0, slots := 0, locals := 24 } : Room)) (fun a U => a = #[(.ref a1), (.int p2)] ∧ Z.Warmed39 U.vm ∧ U.heap = h0) (fun _ _ _ _ _ => True) (fun _ U o U' => ∃ v L, o = .returned v ∧ Q1 Z a1 p2 u_value_a1 h0 n0 v U'.heap L ∧ FrameEnd U o U' L ({ frames := 2, cells := 0, slots := 0, locals := 24 } : Room).cells ({ frames := 2, cells := 0, slots := 0, locals := 24 } : Room).slots) := by
  refine MetFree.of_bodySF (plainFor_of_name pn_1) hisR ?_
  intro p e s m args below meth c s₁ Bd hml0 hP hK
  obtain ⟨rfl, hZ, hh⟩ := hP
  have hx := Bd.exec
  have hby := Bd.bytes
  have hml : c.maxLocals = 2 := hml0
  have hown : s.vm.findClass "com/example/stale_to_safe/staletosafe/policy/Atom$Bool" = some m.cls := findClass_of_methodNamed Bd.named
  have hnm := (name_of_methodNamed Bd.named Bd.method).1
  have X0 : Stand p l e ({ frames := 2, cells := 0, slots := 0, locals := 24 } : Room) s m #[(.ref a1), (.int p2)] below meth c s₁ [] 0 0 := Stand.of_body Bd
  have e0 : s₁.heap = h0 := by rw [← hh, Bd.state]; rfl
  have N0 := Fr.nil n0
  have K0 : Keep h0 h0 [a1] := Keep.refl h0 _
  refine (show Gl p e below (fun o U' => ∃ v L, o = .returned v ∧ Q1 Z a1 p2 u_value_a1 h0 n0 v U'.heap L ∧ FrameEnd s o U' L ({ frames := 2, cells := 0, slots := 0, locals := 24 } : Room).cells ({ frames := 2, cells := 0, slots := 0, locals := 24 } : Room).slots) (s₁.setTop (entryFrame m #[(.ref a1), (.int p2)] 2)) from ?_)
  obtain ⟨L0, hL0⟩ : ∃ z : Array Slot, z = #[.val (.ref a1), .val (.int p2)] := ⟨_, rfl⟩
  refine Gl.st (B := (s₁.setTop (mkF m 0 L0 []))) (fun t k => castTop (efAt hL0 (ef_1 m a1 p2)) k) ?_
  refine Gl.st (B := (s₁.setTop (mkF m 1 L0 [(.ref a1)]))) (fun t k => XS.aloadN X0.here hx rfl (hb hby d1_0) (ldAt hL0 rfl) rfl k) ?_
  obtain ⟨_, _, ⟨T1, L1q, k1, n1⟩, -, X1, ⟨Lc1, hQ1, l1, y1, z1⟩, st1⟩ := X0.specialBack hx (y := (⟨"java/lang/Record", "<init>", "()V"⟩ : MethodName)) rfl hown (mvT hZ (tw hw 6 rfl)) (mvT hZ (tw hw 7 rfl)) (mvT hZ (tw hw 10 rfl)) (by decide) (backOf (W := 0) (rm2 l Z a0 hw [] a1 h0 n0 Z0) hZ (tw hw 10 rfl) (tw hw 9 rfl) (by decide) (by decide)) (g := (mkF m 1 L0 [(.ref a1)])) rfl (szAt hml hL0 rfl) (Steps.refl _) (a := a1) (argsL := []) (rest := []) (lenOf pd_1_0 rfl) rfl (by show 2 * 0 + _ ≤ _; exact Nat.le_of_eq rfl) (hb hby d1_1) (fun _ _ => ⟨rfl, e0, (by decide : 0 + 0 ≤ _), (by decide : 0 + 0 ≤ _)⟩)
  dsimp only [Pt.U, Pt.locs, Pt.cells, Pt.slots] at X1 l1 y1 z1 st1 hQ1
  subst l1 y1 z1
  obtain ⟨rfl, N1q, eh1⟩ := hQ1
  have N1 := Fr.app N0 N1q
  refine Gl.st (B := (T1.setTop (mkF m 4 L0 []))) (fun t k => st1.trans k) ?_
  refine Gl.st (B := (T1.setTop (mkF m 5 L0 [(.ref a1)]))) (fun t k => XS.aloadN X1.here hx rfl (hb hby d1_4) (ldAt hL0 rfl) rfl k) ?_
  refine Gl.st (B := (T1.setTop (mkF m 6 L0 [(.int p2), (.ref a1)]))) (fun t k => XS.iloadN X1.here hx rfl (hb hby d1_5) (ldAt hL0 rfl) k) ?_
  obtain ⟨T2, h2, X2, e2, W2, st2⟩ := putFN X1 hx hZ hown (tw hw 14 rfl) Via.refl eh1 F_value_a1 E_a1 (Or.inr ⟨(tw hw 15 rfl), rfl, hnm⟩) (tw hw 1 rfl) (ty := .boolean) (v' := (.int (nar .boolean p2))) (by decide) rfl (fits_nar_bool _) (g := (mkF m 6 L0 [(.int p2), (.ref a1)])) rfl rfl (hb hby d1_6)
  have Fw2 := F_value_a1.same W2
  have Zc3 : n0 ≤ h2.size := Nat.le_trans Z0 (Nat.le_of_eq W2.size.symm)
  have K4 : Keep h0 h2 [a1] := K0.wr W2 (Or.inl (List.mem_of_getElem? (i := 0) rfl))
  have N2 := Fr.snoc X2 N1 g_a1
  refine Gl.st (B := (T2.setTop (mkF m 9 L0 []))) st2 ?_
  obtain ⟨fs, hr, hrun, hended, hW, hsame⟩ := X2.leave (v := none) (fun _ => rfl)
  refine Gl.fin (X2.returnOut hx Bd.returns (hb hby d1_9) hr) hrun hended ⟨_, _, rfl, ?_, ⟨_, rfl⟩, hW, hsame.mono (by decide) (by decide)⟩
  show Q1 Z a1 p2 u_value_a1 h0 n0 _ T2.heap _
  rw [e2]
  have c5 := (E_a1.wr W2)
  exact ⟨rfl, N2, K4, c5, Fw2⟩
theorem d5_0 : decode jdk_43_method_3_code 0 = .ok (.iload_n 0, 1) := by decide +kernel
theorem d5_1 : decode jdk_43_method_3_code 1 = .ok (.sipush 255, 3) := by decide +kernel
theorem d5_4 : decode jdk_43_method_3_code 4 = .ok (.if_icmp .gt 7, 3) := by decide +kernel
theorem d5_7 : decode jdk_43_method_3_code 7 = .ok (.iconst 1, 1) := by decide +kernel
theorem d5_8 : decode jdk_43_method_3_code 8 = .ok (.goto 4, 3) := by decide +kernel
theorem d5_12 : decode jdk_43_method_3_code 12 = .ok (.ireturn, 1) := by decide +kernel
theorem pn_5 : plainName "java/lang/StringLatin1" = true := by first | (simp [plainName, overriddenIn]; done) | decide +kernel
theorem ef_5 (m : MethodId) (p1 : Int32) : entryFrame m #[(.int p1)] 1 = mkF m 0 #[.val (.int p1)] [] := by first | (simp [entryFrame, mkF, argsToLocals, Value.category]; done) | rfl
def Q5 (Z : State) (p1 : Int32) (h0 : Heap) (n0 : Nat) (v : Option Value) (h : Heap) (L : List Loc) : Prop := v = some (.int (1 : Int32)) ∧ Fr n0 L ∧ h = h0
set_option maxRecDepth 65536 in
set_option maxHeartbeats 40000000 in
theorem rm5 (l : Launch) (Z : State) (a0 : Array Value) (hw : ∀ d ∈ tables_1, d.before a0 Z = true) (ws : List Jvm.Cond) (p1 : Int32) (h0 : Heap) (n0 : Nat) (Z0 : n0 ≤ h0.size) (hq4 : ¬ ((255 : Int32) < p1)) :
    MetFree l (⟨"java/lang/StringLatin1", "canEncode", "(C)Z"⟩ : MethodName) (head1 (Jvm.Cond.code (⟨"java/lang/StringLatin1", "canEncode", "(C)Z"⟩ : MethodName) jdk_43_method_3_code 1 (some .boolean) :: ws) ({ frames := 0, cells := 0, slots := 0, locals := 0 } : Room)) (fun a U => a = #[(.int p1)] ∧ Z.Warmed39 U.vm ∧ U.heap = h0) (fun _ _ _ _ _ => True) (fun _ U o U' => ∃ v L, o = .returned v ∧ Q5 Z p1 h0 n0 v U'.heap L ∧ FrameEnd U o U' L ({ frames := 0, cells := 0, slots := 0, locals := 0 } : Room).cells ({ frames := 0, cells := 0, slots := 0, locals := 0 } : Room).slots) := by
  refine MetFree.of_bodySF (plainFor_of_name pn_5) hisR ?_
  intro p e s m args below meth c s₁ Bd hml0 hP hK
  obtain ⟨rfl, hZ, hh⟩ := hP
  have hx := Bd.exec
  have hby := Bd.bytes
  have hml : c.maxLocals = 1 := hml0
  have hown : s.vm.findClass "java/lang/StringLatin1" = some m.cls := findClass_of_methodNamed Bd.named
  have hnm := (name_of_methodNamed Bd.named Bd.method).1
  have X0 : Stand p l e ({ frames := 0, cells := 0, slots := 0, locals := 0 } : Room) s m #[(.int p1)] below meth c s₁ [] 0 0 := Stand.of_body Bd
  have e0 : s₁.heap = h0 := by rw [← hh, Bd.state]; rfl
  have N0 := Fr.nil n0
  have K0 : Keep h0 h0 [] := Keep.refl h0 _
  refine (show Gl p e below (fun o U' => ∃ v L, o = .returned v ∧ Q5 Z p1 h0 n0 v U'.heap L ∧ FrameEnd s o U' L ({ frames := 0, cells := 0, slots := 0, locals := 0 } : Room).cells ({ frames := 0, cells := 0, slots := 0, locals := 0 } : Room).slots) (s₁.setTop (entryFrame m #[(.int p1)] 1)) from ?_)
  obtain ⟨L0, hL0⟩ : ∃ z : Array Slot, z = #[.val (.int p1)] := ⟨_, rfl⟩
  refine Gl.st (B := (s₁.setTop (mkF m 0 L0 []))) (fun t k => castTop (efAt hL0 (ef_5 m p1)) k) ?_
  refine Gl.st (B := (s₁.setTop (mkF m 1 L0 [(.int p1)]))) (fun t k => XS.iloadN X0.here hx rfl (hb hby d5_0) (ldAt hL0 rfl) k) ?_
  refine Gl.st (B := (s₁.setTop (mkF m 4 L0 [(.int (255 : Int32)), (.int p1)]))) (fun t k => XS.sipush X0.here hx rfl (hb hby d5_1) k) ?_
  refine Gl.st (B := (s₁.setTop (mkF m 7 L0 []))) (fun t k => XS.icmpNo X0.here hx rfl (hb hby d5_4) rfl (flt hq4).2.2.1 k) ?_
  refine Gl.st (B := (s₁.setTop (mkF m 8 L0 [(.int (1 : Int32))]))) (fun t k => XS.iconst X0.here hx rfl (hb hby d5_7) k) ?_
  refine Gl.st (B := (s₁.setTop (mkF m 12 L0 [(.int (1 : Int32))]))) (fun t k => XS.goto X0.here hx rfl (pc0 := 8) (pc' := 12) rfl (hb hby d5_8) (by decide) (by decide) k) ?_
  obtain ⟨fs, hr, hrun, hended, hW, hsame⟩ := X0.leave (v := some (.int (nar .boolean (1 : Int32)))) (fun h => by rw [Bd.returns] at h; cases h)
  refine Gl.fin (retN X0 hx (t := .boolean) Bd.returns (by simp) (hb hby d5_12) hr) hrun hended ⟨_, _, rfl, ?_, ⟨_, rfl⟩, hW, hsame.mono (by decide) (by decide)⟩
  show Q5 Z p1 h0 n0 _ s₁.heap _
  rw [e0]
  exact ⟨rfl, N0, rfl⟩
theorem d6_0 : decode jdk_43_method_46_code 0 = .ok (.iconst 1, 1) := by decide +kernel
theorem d6_1 : decode jdk_43_method_46_code 1 = .ok (.newarray .byte, 2) := by decide +kernel
theorem d6_3 : decode jdk_43_method_46_code 3 = .ok (.dup, 1) := by decide +kernel
theorem d6_4 : decode jdk_43_method_46_code 4 = .ok (.iconst 0, 1) := by decide +kernel
theorem d6_5 : decode jdk_43_method_46_code 5 = .ok (.iload_n 0, 1) := by decide +kernel
theorem d6_6 : decode jdk_43_method_46_code 6 = .ok (.i2b, 1) := by decide +kernel
theorem d6_7 : decode jdk_43_method_46_code 7 = .ok (.bastore, 1) := by decide +kernel
theorem d6_8 : decode jdk_43_method_46_code 8 = .ok (.areturn, 1) := by decide +kernel
theorem pn_6 : plainName "java/lang/StringLatin1" = true := by first | (simp [plainName, overriddenIn]; done) | decide +kernel
theorem ef_6 (m : MethodId) (p1 : Int32) : entryFrame m #[(.int p1)] 1 = mkF m 0 #[.val (.int p1)] [] := by first | (simp [entryFrame, mkF, argsToLocals, Value.category]; done) | rfl
def Q6 (Z : State) (p1 : Int32) (h0 : Heap) (n0 : Nat) (v : Option Value) (h : Heap) (L : List Loc) : Prop := ∃ (t0 : Addr) (kx_t0 : ClassId), v = some (.ref t0) ∧ Fr n0 L ∧ Keep h0 h [] ∧ h0.size ≤ t0 ∧ Exa Z h t0 "[B" ∧ Arv Z h t0 kx_t0 .byte (1 : Int32) [(.int (nar .byte ((p1.toInt8.toInt32))))] (.int (0 : Int32))
set_option maxRecDepth 65536 in
set_option maxHeartbeats 40000000 in
theorem rm6 (l : Launch) (Z : State) (a0 : Array Value) (hw : ∀ d ∈ tables_1, d.before a0 Z = true) (ws : List Jvm.Cond) (p1 : Int32) (h0 : Heap) (n0 : Nat) (Z0 : n0 ≤ h0.size) :
    MetFree l (⟨"java/lang/StringLatin1", "toBytes", "(C)[B"⟩ : MethodName) (head1 (Jvm.Cond.code (⟨"java/lang/StringLatin1", "toBytes", "(C)[B"⟩ : MethodName) jdk_43_method_46_code 1 (some (.array .byte)) :: ws) ({ frames := 0, cells := 1, slots := 1, locals := 0 } : Room)) (fun a U => a = #[(.int p1)] ∧ Z.Warmed39 U.vm ∧ U.heap = h0) (fun _ _ _ _ _ => True) (fun _ U o U' => ∃ v L, o = .returned v ∧ Q6 Z p1 h0 n0 v U'.heap L ∧ FrameEnd U o U' L ({ frames := 0, cells := 1, slots := 1, locals := 0 } : Room).cells ({ frames := 0, cells := 1, slots := 1, locals := 0 } : Room).slots) := by
  refine MetFree.of_bodySF (plainFor_of_name pn_6) hisR ?_
  intro p e s m args below meth c s₁ Bd hml0 hP hK
  obtain ⟨rfl, hZ, hh⟩ := hP
  have hx := Bd.exec
  have hby := Bd.bytes
  have hml : c.maxLocals = 1 := hml0
  have hown : s.vm.findClass "java/lang/StringLatin1" = some m.cls := findClass_of_methodNamed Bd.named
  have hnm := (name_of_methodNamed Bd.named Bd.method).1
  have X0 : Stand p l e ({ frames := 0, cells := 1, slots := 1, locals := 0 } : Room) s m #[(.int p1)] below meth c s₁ [] 0 0 := Stand.of_body Bd
  have e0 : s₁.heap = h0 := by rw [← hh, Bd.state]; rfl
  have N0 := Fr.nil n0
  have K0 : Keep h0 h0 [] := Keep.refl h0 _
  refine (show Gl p e below (fun o U' => ∃ v L, o = .returned v ∧ Q6 Z p1 h0 n0 v U'.heap L ∧ FrameEnd s o U' L ({ frames := 0, cells := 1, slots := 1, locals := 0 } : Room).cells ({ frames := 0, cells := 1, slots := 1, locals := 0 } : Room).slots) (s₁.setTop (entryFrame m #[(.int p1)] 1)) from ?_)
  obtain ⟨L0, hL0⟩ : ∃ z : Array Slot, z = #[.val (.int p1)] := ⟨_, rfl⟩
  refine Gl.st (B := (s₁.setTop (mkF m 0 L0 []))) (fun t k => castTop (efAt hL0 (ef_6 m p1)) k) ?_
  refine Gl.st (B := (s₁.setTop (mkF m 1 L0 [(.int (1 : Int32))]))) (fun t k => XS.iconst X0.here hx rfl (hb hby d6_0) k) ?_
  obtain ⟨T1, h1, k1, X1, e1, E1, A1, Ex1, st1⟩ := newPE X0 hx hZ (tw hw 33 rfl) e0 (g := (mkF m 1 L0 [(.int (1 : Int32))])) rfl (hb hby d6_1) rfl (by decide) (cap := 1) (by decide) (by decide) (by decide) (by decide) (ad := "[B") rfl
  obtain ⟨b1, gq1⟩ : ∃ z, z = h0.size := ⟨_, rfl⟩
  rw [← gq1] at A1 Ex1 st1
  have V1 : Arv Z h1 b1 k1 .byte (1 : Int32) [(.int (0 : Int32))] (.int (0 : Int32)) := (Arv.new A1 (by decide)).pad (pad_rep [] (.int (0 : Int32)) 1)
  have g_b1 : n0 ≤ b1 := Nat.le_trans Z0 (Nat.le_of_eq gq1.symm)
  have sz_b1 : h0.size ≤ b1 := Nat.le_trans K0.1 (Nat.le_of_eq gq1.symm)
  have lt_b1 := V1.lt
  have Zc2 : n0 ≤ h1.size := Nat.le_trans Z0 E1.1
  have K3 : Keep h0 h1 [] := K0.ext E1
  refine Gl.st (B := (T1.setTop (mkF m 3 L0 [(.ref b1)]))) st1 ?_
  refine Gl.st (B := (T1.setTop (mkF m 4 L0 [(.ref b1), (.ref b1)]))) (fun t k => XS.dup X1.here hx rfl (hb hby d6_3) rfl rfl k) ?_
  refine Gl.st (B := (T1.setTop (mkF m 5 L0 [(.int (0 : Int32)), (.ref b1), (.ref b1)]))) (fun t k => XS.iconst X1.here hx rfl (hb hby d6_4) k) ?_
  refine Gl.st (B := (T1.setTop (mkF m 6 L0 [(.int p1), (.int (0 : Int32)), (.ref b1), (.ref b1)]))) (fun t k => XS.iloadN X1.here hx rfl (hb hby d6_5) (ldAt hL0 rfl) k) ?_
  refine Gl.st (B := (T1.setTop (mkF m 7 L0 [(.int (p1.toInt8.toInt32)), (.int (0 : Int32)), (.ref b1), (.ref b1)]))) (fun t k => XS.i2b X1.here hx rfl (hb hby d6_6) rfl k) ?_
  obtain ⟨x7_4, hx7_4⟩ : ∃ z : Int32, z = (p1.toInt8.toInt32) := ⟨_, rfl⟩
  refine Gl.cast (B := (T1.setTop (mkF m 7 L0 [(.int x7_4), (.int (0 : Int32)), (.ref b1), (.ref b1)]))) (by rw [hx7_4]) ?_
  obtain ⟨cl5, Ar5, q5, S5, P5, H5, G5⟩ := (id V1)
  have hin7_5 : ¬ ((0 : Int32) < 0 ∨ cl5.slots.size ≤ ((0 : Int32)).toNatClampNeg) := inb_of S5 ⟨by decide, by decide⟩
  obtain ⟨T5, h5, X5, e5, W5, st5⟩ := stB X1 hx hZ e1 Ar5 (j := (0 : Int32)) hin7_5 (g := (mkF m 7 L0 [(.int x7_4), (.int (0 : Int32)), (.ref b1), (.ref b1)])) rfl rfl (hb hby d6_7)
  have V5 : Arv Z h5 b1 k1 .byte (1 : Int32) [(.int (nar .byte x7_4))] (.int (0 : Int32)) := Arv.set Ar5 q5 S5 P5 H5 G5 (fits_nar_byte _) W5 0 rfl (Nat.le_of_ble_eq_true rfl)
  have Zc6 : n0 ≤ h5.size := Nat.le_trans Zc2 (Nat.le_of_eq W5.size.symm)
  have K7 : Keep h0 h5 [] := K3.wr W5 (Or.inr sz_b1)
  have N5 := Fr.snoc X5 N0 g_b1
  refine Gl.st (B := (T5.setTop (mkF m 8 L0 [(.ref b1)]))) st5 ?_
  obtain ⟨fs, hr, hrun, hended, hW, hsame⟩ := X5.leave (v := some (.ref b1)) (fun h => by rw [Bd.returns] at h; cases h)
  refine Gl.fin (X5.areturnOut hx rfl Bd.returns rfl (hb hby d6_8) hr) hrun hended ⟨_, _, rfl, ?_, ⟨_, rfl⟩, hW, hsame.mono (by decide) (by decide)⟩
  show Q6 Z p1 h0 n0 _ T5.heap _
  rw [e5]
  have c8 := (Ex1.wr W5)
  exact ⟨b1, k1, rfl, N5, K7, sz_b1, c8, (by subst hx7_4; exact V5)⟩
theorem sn0 {Z : State} {a0 : Array Value} (hw : ∀ d ∈ tables_1, d.before a0 Z = true) : Jvm.RoadKit.slotOf Z "java/lang/String" "coder" "B" ≠ Jvm.RoadKit.slotOf Z "java/lang/String" "value" "[B" := slot_ne (Or.inr (tw hw 42 rfl)) (Or.inr (tw hw 40 rfl)) (by decide) (t := .byte) (t' := (.array .byte)) (by decide) (by decide)
theorem sn1 {Z : State} {a0 : Array Value} (hw : ∀ d ∈ tables_1, d.before a0 Z = true) : Jvm.RoadKit.slotOf Z "java/lang/String" "value" "[B" ≠ Jvm.RoadKit.slotOf Z "java/lang/String" "coder" "B" := slot_ne (Or.inr (tw hw 40 rfl)) (Or.inr (tw hw 42 rfl)) (by decide) (t := (.array .byte)) (t' := .byte) (by decide) (by decide)
theorem d7_0 : decode jdk_42_method_151_code 0 = .ok (.aload_n 0, 1) := by decide +kernel
theorem d7_1 : decode jdk_42_method_151_code 1 = .ok (.invokespecial 1, 3) := by decide +kernel
theorem d7_4 : decode jdk_42_method_151_code 4 = .ok (.aload_n 0, 1) := by decide +kernel
theorem d7_5 : decode jdk_42_method_151_code 5 = .ok (.aload_n 1, 1) := by decide +kernel
theorem d7_6 : decode jdk_42_method_151_code 6 = .ok (.putfield 9, 3) := by decide +kernel
theorem d7_9 : decode jdk_42_method_151_code 9 = .ok (.aload_n 0, 1) := by decide +kernel
theorem d7_10 : decode jdk_42_method_151_code 10 = .ok (.iload_n 2, 1) := by decide +kernel
theorem d7_11 : decode jdk_42_method_151_code 11 = .ok (.putfield 15, 3) := by decide +kernel
theorem d7_14 : decode jdk_42_method_151_code 14 = .ok (.return_, 1) := by decide +kernel
theorem pn_7 : plainName "java/lang/String" = true := by first | (simp [plainName, overriddenIn]; done) | decide +kernel
theorem ef_7 (m : MethodId) (a1 : Addr) (a2 : Addr) (p3 : Int32) : entryFrame m #[(.ref a1), (.ref a2), (.int p3)] 3 = mkF m 0 #[.val (.ref a1), .val (.ref a2), .val (.int p3)] [] := by first | (simp [entryFrame, mkF, argsToLocals, Value.category]; done) | rfl
def Q7 (Z : State) (a1 : Addr) (a2 : Addr) (p3 : Int32) (u_value_a1 : Value) (u_coder_a1 : Value) (h0 : Heap) (n0 : Nat) (v : Option Value) (h : Heap) (L : List Loc) : Prop := v = none ∧ Fr n0 L ∧ Keep h0 h [a1] ∧ Exa Z h a1 "java/lang/String" ∧ Fld Z h a1 "java/lang/String" "value" "[B" (.ref a2) ∧ Fld Z h a1 "java/lang/String" "coder" "B" (.int (nar .byte p3))
set_option maxRecDepth 65536 in
set_option maxHeartbeats 40000000 in
theorem rm7 (l : Launch) (Z : State) (a0 : Array Value) (hw : ∀ d ∈ tables_1, d.before a0 Z = true) (ws : List Jvm.Cond) (a1 : Addr) (a2 : Addr) (p3 : Int32) (u_value_a1 : Value) (u_coder_a1 : Value) (h0 : Heap) (n0 : Nat) (Z0 : n0 ≤ h0.size) (F_value_a1 : Fld Z h0 a1 "java/lang/String" "value" "[B" u_value_a1) (F_coder_a1 : Fld Z h0 a1 "java/lang/String" "coder" "B" u_coder_a1) (E_a1 : Exa Z h0 a1 "java/lang/String") (g_a1 : n0 ≤ a1) :
    MetFree l (⟨"java/lang/String", "<init>", "([BB)V"⟩ : MethodName) (head1 (Jvm.Cond.code (⟨"java/lang/String", "<init>", "([BB)V"⟩ : MethodName) jdk_42_method_151_code 3 none :: ws) ({ frames := 1, cells := 0, slots := 0, locals := 12 } : Room)) (fun a U => a = #[(.ref a1), (.ref a2), (.int p3)] ∧ Z.Warmed39 U.vm ∧ U.heap = h0) (fun _ _ _ _ _ => True) (fun _ U o U' => ∃ v L, o = .returned v ∧ Q7 Z a1 a2 p3 u_value_a1 u_coder_a1 h0 n0 v U'.heap L ∧ FrameEnd U o U' L ({ frames := 1, cells := 0, slots := 0, locals := 12 } : Room).cells ({ frames := 1, cells := 0, slots := 0, locals := 12 } : Room).slots) := by
  refine MetFree.of_bodySF (plainFor_of_name pn_7) hisR ?_
  intro p e s m args below meth c s₁ Bd hml0 hP hK
  obtain ⟨rfl, hZ, hh⟩ := hP
  have hx := Bd.exec
  have hby := Bd.bytes
  have hml : c.maxLocals = 3 := hml0
  have hown : s.vm.findClass "java/lang/String" = some m.cls := findClass_of_methodNamed Bd.named
  have hnm := (name_of_methodNamed Bd.named Bd.method).1
  have X0 : Stand p l e ({ frames := 1, cells := 0, slots := 0, locals := 12 } : Room) s m #[(.ref a1), (.ref a2), (.int p3)] below meth c s₁ [] 0 0 := Stand.of_body Bd
  have e0 : s₁.heap = h0 := by rw [← hh, Bd.state]; rfl
  have N0 := Fr.nil n0
  have K0 : Keep h0 h0 [a1] := Keep.refl h0 _
  refine (show Gl p e below (fun o U' => ∃ v L, o = .returned v ∧ Q7 Z a1 a2 p3 u_value_a1 u_coder_a1 h0 n0 v U'.heap L ∧ FrameEnd s o U' L ({ frames := 1, cells := 0, slots := 0, locals := 12 } : Room).cells ({ frames := 1, cells := 0, slots := 0, locals := 12 } : Room).slots) (s₁.setTop (entryFrame m #[(.ref a1), (.ref a2), (.int p3)] 3)) from ?_)
  obtain ⟨L0, hL0⟩ : ∃ z : Array Slot, z = #[.val (.ref a1), .val (.ref a2), .val (.int p3)] := ⟨_, rfl⟩
  refine Gl.st (B := (s₁.setTop (mkF m 0 L0 []))) (fun t k => castTop (efAt hL0 (ef_7 m a1 a2 p3)) k) ?_
  refine Gl.st (B := (s₁.setTop (mkF m 1 L0 [(.ref a1)]))) (fun t k => XS.aloadN X0.here hx rfl (hb hby d7_0) (ldAt hL0 rfl) rfl k) ?_
  obtain ⟨T1, X1, e1, st1⟩ := initO X0 hx hZ hown (tw hw 38 rfl) (tw hw 12 rfl) (tw hw 13 rfl) e0 (g := (mkF m 1 L0 [(.ref a1)])) rfl (szAt hml hL0 rfl) rfl (hb hby d7_1) (by decide) (W := 0) (by show 2 * 0 + _ ≤ _; exact Nat.le_of_eq rfl) (by decide)
  refine Gl.st (B := (T1.setTop (mkF m 4 L0 []))) st1 ?_
  refine Gl.st (B := (T1.setTop (mkF m 5 L0 [(.ref a1)]))) (fun t k => XS.aloadN X1.here hx rfl (hb hby d7_4) (ldAt hL0 rfl) rfl k) ?_
  refine Gl.st (B := (T1.setTop (mkF m 6 L0 [(.ref a2), (.ref a1)]))) (fun t k => XS.aloadN X1.here hx rfl (hb hby d7_5) (ldAt hL0 rfl) rfl k) ?_
  obtain ⟨T2, h2, X2, e2, W2, st2⟩ := putF X1 hx hZ hown (host := "") (Or.inl (tw hw 39 rfl)) Via.refl e1 F_value_a1 E_a1 (Or.inr ⟨(tw hw 40 rfl), rfl, hnm⟩) (tw hw 29 rfl) (ty := (.array .byte)) (by decide) rfl rfl (g := (mkF m 6 L0 [(.ref a2), (.ref a1)])) rfl rfl (hb hby d7_6)
  have Fw2 := F_value_a1.same W2
  have Zc3 : n0 ≤ h2.size := Nat.le_trans Z0 (Nat.le_of_eq W2.size.symm)
  have K4 : Keep h0 h2 [a1] := K0.wr W2 (Or.inl (List.mem_of_getElem? (i := 0) rfl))
  have N2 := Fr.snoc X2 N0 g_a1
  refine Gl.st (B := (T2.setTop (mkF m 9 L0 []))) st2 ?_
  refine Gl.st (B := (T2.setTop (mkF m 10 L0 [(.ref a1)]))) (fun t k => XS.aloadN X2.here hx rfl (hb hby d7_9) (ldAt hL0 rfl) rfl k) ?_
  refine Gl.st (B := (T2.setTop (mkF m 11 L0 [(.int p3), (.ref a1)]))) (fun t k => XS.iloadN X2.here hx rfl (hb hby d7_10) (ldAt hL0 rfl) k) ?_
  have c5 := (E_a1.wr W2)
  have c6 := (F_coder_a1.other W2 (Or.inr (sn0 hw)))
  obtain ⟨T7, h7, X7, e7, W7, st7⟩ := putFN X2 hx hZ hown (tw hw 41 rfl) Via.refl e2 c6 c5 (Or.inr ⟨(tw hw 42 rfl), rfl, hnm⟩) (tw hw 29 rfl) (ty := .byte) (v' := (.int (nar .byte p3))) (by decide) rfl (fits_nar_byte _) (g := (mkF m 11 L0 [(.int p3), (.ref a1)])) rfl rfl (hb hby d7_11)
  have Fw7 := c6.same W7
  have Zc8 : n0 ≤ h7.size := Nat.le_trans Zc3 (Nat.le_of_eq W7.size.symm)
  have K9 : Keep h0 h7 [a1] := K4.wr W7 (Or.inl (List.mem_of_getElem? (i := 0) rfl))
  have N7 := Fr.snoc X7 N2 g_a1
  refine Gl.st (B := (T7.setTop (mkF m 14 L0 []))) st7 ?_
  obtain ⟨fs, hr, hrun, hended, hW, hsame⟩ := X7.leave (v := none) (fun _ => rfl)
  refine Gl.fin (X7.returnOut hx Bd.returns (hb hby d7_14) hr) hrun hended ⟨_, _, rfl, ?_, ⟨_, rfl⟩, hW, hsame.mono (by decide) (by decide)⟩
  show Q7 Z a1 a2 p3 u_value_a1 u_coder_a1 h0 n0 _ T7.heap _
  rw [e7]
  have c10 := (c5.wr W7)
  have c11 := (Fw2.other W7 (Or.inr (sn1 hw)))
  exact ⟨rfl, N7, K9, c10, c11, Fw7⟩
theorem d4_0 : decode jdk_42_method_139_code 0 = .ok (.getstatic 38, 3) := by decide +kernel
theorem d4_3 : decode jdk_42_method_139_code 3 = .ok (.ifCond .eq 23, 3) := by decide +kernel
theorem d4_6 : decode jdk_42_method_139_code 6 = .ok (.iload_n 0, 1) := by decide +kernel
theorem d4_7 : decode jdk_42_method_139_code 7 = .ok (.invokestatic 1015, 3) := by decide +kernel
theorem d4_10 : decode jdk_42_method_139_code 10 = .ok (.ifCond .eq 16, 3) := by decide +kernel
theorem d4_13 : decode jdk_42_method_139_code 13 = .ok (.new 10, 3) := by decide +kernel
theorem d4_16 : decode jdk_42_method_139_code 16 = .ok (.dup, 1) := by decide +kernel
theorem d4_17 : decode jdk_42_method_139_code 17 = .ok (.iload_n 0, 1) := by decide +kernel
theorem d4_18 : decode jdk_42_method_139_code 18 = .ok (.invokestatic 1018, 3) := by decide +kernel
theorem d4_21 : decode jdk_42_method_139_code 21 = .ok (.iconst 0, 1) := by decide +kernel
theorem d4_22 : decode jdk_42_method_139_code 22 = .ok (.invokespecial 209, 3) := by decide +kernel
theorem d4_25 : decode jdk_42_method_139_code 25 = .ok (.areturn, 1) := by decide +kernel
theorem pn_4 : plainName "java/lang/String" = true := by first | (simp [plainName, overriddenIn]; done) | decide +kernel
theorem pd_4_0 : parseMethodDescriptor "(C)Z" = some ⟨[.char], some .boolean⟩ := by decide +kernel
theorem pd_4_1 : parseMethodDescriptor "(C)[B" = some ⟨[.char], some (.array .byte)⟩ := by decide +kernel
theorem pd_4_2 : parseMethodDescriptor "([BB)V" = some ⟨[(.array .byte), .byte], none⟩ := by decide +kernel
theorem ef_4 (m : MethodId) (p1 : Int32) : entryFrame m #[(.int p1)] 1 = mkF m 0 #[.val (.int p1)] [] := by first | (simp [entryFrame, mkF, argsToLocals, Value.category]; done) | rfl
def Q4 (Z : State) (p1 : Int32) (z_COMP0 : Int32) (h0 : Heap) (n0 : Nat) (v : Option Value) (h : Heap) (L : List Loc) : Prop := ∃ (t0 : Addr) (t1 : Addr) (kx_t1 : ClassId), v = some (.ref t0) ∧ Fr n0 L ∧ Keep h0 h [] ∧ h0.size ≤ t0 ∧ h0.size ≤ t1 ∧ Exa Z h t0 "java/lang/String" ∧ Fld Z h t0 "java/lang/String" "value" "[B" (.ref t1) ∧ Fld Z h t0 "java/lang/String" "coder" "B" (.int (nar .byte (0 : Int32))) ∧ Exa Z h t1 "[B" ∧ Arv Z h t1 kx_t1 .byte (1 : Int32) [(.int (nar .byte ((p1.toInt8.toInt32))))] (.int (0 : Int32))
set_option maxRecDepth 65536 in
set_option maxHeartbeats 40000000 in
theorem rm4 (l : Launch) (Z : State) (a0 : Array Value) (hw : ∀ d ∈ tables_1, d.before a0 Z = true) (ws : List Jvm.Cond) (p1 : Int32) (z_COMP0 : Int32) (h0 : Heap) (n0 : Nat) (Z0 : n0 ≤ h0.size) (S_COMP0 : Sta Z h0 "java/lang/String" "COMPACT_STRINGS" "Z" (.int z_COMP0)) (hq3 : ¬ (z_COMP0 = (0 : Int32))) (hr7_hq4 : ¬ ((255 : Int32) < p1)) :
    MetFree l (⟨"java/lang/String", "valueOf", "(C)Ljava/lang/String;"⟩ : MethodName) (head1 (Jvm.Cond.code (⟨"java/lang/String", "valueOf", "(C)Ljava/lang/String;"⟩ : MethodName) jdk_42_method_139_code 1 (some (.object "java/lang/String")) :: ws) ({ frames := 2, cells := 2, slots := 5, locals := 27 } : Room)) (fun a U => a = #[(.int p1)] ∧ Z.Warmed39 U.vm ∧ U.heap = h0) (fun _ _ _ _ _ => True) (fun _ U o U' => ∃ v L, o = .returned v ∧ Q4 Z p1 z_COMP0 h0 n0 v U'.heap L ∧ FrameEnd U o U' L ({ frames := 2, cells := 2, slots := 5, locals := 27 } : Room).cells ({ frames := 2, cells := 2, slots := 5, locals := 27 } : Room).slots) := by
  refine MetFree.of_bodySF (plainFor_of_name pn_4) hisR ?_
  intro p e s m args below meth c s₁ Bd hml0 hP hK
  obtain ⟨rfl, hZ, hh⟩ := hP
  have hx := Bd.exec
  have hby := Bd.bytes
  have hml : c.maxLocals = 1 := hml0
  have hown : s.vm.findClass "java/lang/String" = some m.cls := findClass_of_methodNamed Bd.named
  have hnm := (name_of_methodNamed Bd.named Bd.method).1
  have X0 : Stand p l e ({ frames := 2, cells := 2, slots := 5, locals := 27 } : Room) s m #[(.int p1)] below meth c s₁ [] 0 0 := Stand.of_body Bd
  have e0 : s₁.heap = h0 := by rw [← hh, Bd.state]; rfl
  have N0 := Fr.nil n0
  have K0 : Keep h0 h0 [] := Keep.refl h0 _
  refine (show Gl p e below (fun o U' => ∃ v L, o = .returned v ∧ Q4 Z p1 z_COMP0 h0 n0 v U'.heap L ∧ FrameEnd s o U' L ({ frames := 2, cells := 2, slots := 5, locals := 27 } : Room).cells ({ frames := 2, cells := 2, slots := 5, locals := 27 } : Room).slots) (s₁.setTop (entryFrame m #[(.int p1)] 1)) from ?_)
  obtain ⟨L0, hL0⟩ : ∃ z : Array Slot, z = #[.val (.int p1)] := ⟨_, rfl⟩
  refine Gl.st (B := (s₁.setTop (mkF m 0 L0 []))) (fun t k => castTop (efAt hL0 (ef_4 m p1)) k) ?_
  obtain ⟨T1, X1, e1, st1⟩ := getS2 X0 hx hZ hown (host := "") (Or.inl (tw hw 23 rfl)) Via.refl e0 S_COMP0 (g := (mkF m 0 L0 [])) rfl (hb hby d4_0)
  refine Gl.st (B := (T1.setTop (mkF m 3 L0 [(.int z_COMP0)]))) st1 ?_
  refine Gl.st (B := (T1.setTop (mkF m 6 L0 []))) (fun t k => XS.ifNo X1.here hx rfl (hb hby d4_3) rfl ((if0 _ _).trans (feq hq3).1) k) ?_
  refine Gl.st (B := (T1.setTop (mkF m 7 L0 [(.int p1)]))) (fun t k => XS.iloadN X1.here hx rfl (hb hby d4_6) (ldAt hL0 rfl) k) ?_
  obtain ⟨_, _, ⟨T3, L3q, k3, n3⟩, -, X3, ⟨Lc3, hQ3, l3, y3, z3⟩, st3⟩ := Jvm.LawKit.callS X1 hx (y := (⟨"java/lang/StringLatin1", "canEncode", "(C)Z"⟩ : MethodName)) hown (mvT hZ (tw hw 24 rfl)) (mvT hZ (tw hw 25 rfl)) (mvT hZ (tw hw 26 rfl)) (mvT hZ (tw hw 27 rfl)) (by decide) (backOf (W := 0) (rm5 l Z a0 hw [] p1 h0 n0 Z0 hr7_hq4) hZ (tw hw 27 rfl) (tw hw 26 rfl) (by decide) (by decide)) (g := (mkF m 7 L0 [(.int p1)])) rfl (szAt hml hL0 rfl) (argsL := [(.int p1)]) (rest := []) (lenOf pd_4_0 rfl) rfl (by show 2 * 0 + _ ≤ _; exact Nat.le_of_eq rfl) (hb hby d4_7) (fun _ _ => ⟨rfl, e1, (by decide : 0 + 0 ≤ _), (by decide : 0 + 0 ≤ _)⟩)
  dsimp only [Pt.U, Pt.locs, Pt.cells, Pt.slots] at X3 l3 y3 z3 st3 hQ3
  subst l3 y3 z3
  obtain ⟨rfl, N3q, eh3⟩ := hQ3
  have N3 := Fr.app N0 N3q
  refine Gl.st (B := (T3.setTop (mkF m 10 L0 [(.int (1 : Int32))]))) (fun t k => st3 t k) ?_
  refine Gl.st (B := (T3.setTop (mkF m 13 L0 []))) (fun t k => XS.ifNo X3.here hx rfl (hb hby d4_10) rfl (by decide) k) ?_
  obtain ⟨T4, h4, X4, e4, E4, A4, D4, -, st4⟩ := newO X3 hx hZ hown (tw hw 28 rfl) (tw hw 29 rfl) (tw hw 21 rfl) eh3 (g := (mkF m 13 L0 [])) rfl (hb hby d4_13) (by decide) (by decide)
  obtain ⟨b4, gq4⟩ : ∃ z, z = h0.size := ⟨_, rfl⟩
  rw [← gq4] at A4 D4 st4
  have g_b4 : n0 ≤ b4 := Nat.le_trans Z0 (Nat.le_of_eq gq4.symm)
  have sz_b4 : h0.size ≤ b4 := Nat.le_trans K0.1 (Nat.le_of_eq gq4.symm)
  have lt_b4 := A4.lt
  have Zc5 : n0 ≤ h4.size := Nat.le_trans Z0 E4.1
  have K6 : Keep h0 h4 [] := K0.ext E4
  have F4_value : Fld Z h4 b4 "java/lang/String" "value" "[B" .null := D4 (Or.inr (tw hw 40 rfl)) (ty := (.array .byte)) (by decide)
  have F4_coder : Fld Z h4 b4 "java/lang/String" "coder" "B" (.int (0 : Int32)) := D4 (Or.inr (tw hw 42 rfl)) (ty := .byte) (by decide)
  refine Gl.st (B := (T4.setTop (mkF m 16 L0 [(.ref b4)]))) st4 ?_
  refine Gl.st (B := (T4.setTop (mkF m 17 L0 [(.ref b4), (.ref b4)]))) (fun t k => XS.dup X4.here hx rfl (hb hby d4_16) rfl rfl k) ?_
  refine Gl.st (B := (T4.setTop (mkF m 18 L0 [(.int p1), (.ref b4), (.ref b4)]))) (fun t k => XS.iloadN X4.here hx rfl (hb hby d4_17) (ldAt hL0 rfl) k) ?_
  obtain ⟨_, _, ⟨T7, L7q, k7, n7⟩, -, X7, ⟨Lc7, hQ7, l7, y7, z7⟩, st7⟩ := Jvm.LawKit.callS X4 hx (y := (⟨"java/lang/StringLatin1", "toBytes", "(C)[B"⟩ : MethodName)) hown (mvT hZ (tw hw 30 rfl)) (mvT hZ (tw hw 31 rfl)) (mvT hZ (tw hw 26 rfl)) (mvT hZ (tw hw 32 rfl)) (by decide) (backOf (W := 2) (rm6 l Z a0 hw [] p1 h4 n0 Zc5) hZ (tw hw 32 rfl) (tw hw 26 rfl) (by decide) (by decide)) (g := (mkF m 18 L0 [(.int p1), (.ref b4), (.ref b4)])) rfl (szAt hml hL0 rfl) (argsL := [(.int p1)]) (rest := [(.ref b4), (.ref b4)]) (lenOf pd_4_1 rfl) rfl (by show 2 * 0 + _ ≤ _; exact Nat.le_of_eq rfl) (hb hby d4_18) (fun _ _ => ⟨rfl, e4, (by decide : 1 + 1 ≤ _), (by decide : 4 + 1 ≤ _)⟩)
  dsimp only [Pt.U, Pt.locs, Pt.cells, Pt.slots] at X7 l7 y7 z7 st7 hQ7
  subst l7 y7 z7
  obtain ⟨b7_t0, k7_kx_t0, rfl, N7q, Kc7, fq7_0, fq7_1, fq7_2⟩ := hQ7
  have g_b7_t0 : n0 ≤ b7_t0 := Nat.le_trans Zc5 fq7_0
  have sz_b7_t0 : h0.size ≤ b7_t0 := Nat.le_trans K6.1 fq7_0
  have lt_b7_t0 := fq7_1.lt
  have Zc8 : n0 ≤ T7.heap.size := Nat.le_trans Zc5 Kc7.1
  have K9 : Keep h0 T7.heap [] := K6.trans Kc7 all0
  have N7 := Fr.app N3 N7q
  refine Gl.st (B := (T7.setTop (mkF m 21 L0 [(.ref b7_t0), (.ref b4), (.ref b4)]))) (fun t k => st7 t k) ?_
  refine Gl.st (B := (T7.setTop (mkF m 22 L0 [(.int (0 : Int32)), (.ref b7_t0), (.ref b4), (.ref b4)]))) (fun t k => XS.iconst X7.here hx rfl (hb hby d4_21) k) ?_
  have c11 := (F4_value.keep Kc7 nin0)
  have c12 := (F4_coder.keep Kc7 nin0)
  have c13 := (A4.keep Kc7)
  obtain ⟨_, _, ⟨T10, L10q, k10, n10⟩, -, X10, ⟨Lc10, hQ10, l10, y10, z10⟩, st10⟩ := X7.specialBack hx (y := (⟨"java/lang/String", "<init>", "([BB)V"⟩ : MethodName)) rfl hown (mvT hZ (tw hw 34 rfl)) (mvT hZ (tw hw 35 rfl)) (mvT hZ (tw hw 37 rfl)) (by decide) (backOf (W := 1) (rm7 l Z a0 hw [] b4 b7_t0 (0 : Int32) .null ((.int (0 : Int32))) T7.heap n0 Zc8 c11 c12 c13 g_b4) hZ (tw hw 37 rfl) (tw hw 21 rfl) (by decide) (by decide)) (g := (mkF m 22 L0 [(.int (0 : Int32)), (.ref b7_t0), (.ref b4), (.ref b4)])) rfl (szAt hml hL0 rfl) (Steps.refl _) (a := b4) (argsL := [(.ref b7_t0), (.int (0 : Int32))]) (rest := [(.ref b4)]) (lenOf pd_4_2 rfl) rfl (by show 2 * 0 + _ ≤ _; exact Nat.le_of_eq rfl) (hb hby d4_22) (fun _ _ => ⟨rfl, rfl, (by decide : 2 + 0 ≤ _), (by decide : 5 + 0 ≤ _)⟩)
  dsimp only [Pt.U, Pt.locs, Pt.cells, Pt.slots] at X10 l10 y10 z10 st10 hQ10
  subst l10 y10 z10
  obtain ⟨rfl, N10q, Kc10, fq10_0, fq10_1, fq10_2⟩ := hQ10
  have Zc14 : n0 ≤ T10.heap.size := Nat.le_trans Zc8 Kc10.1
  have K15 : Keep h0 T10.heap [] := K9.trans Kc10 (allS (Or.inr sz_b4) all0)
  have N10 := Fr.app N7 N10q
  refine Gl.st (B := (T10.setTop (mkF m 25 L0 [(.ref b4)]))) (fun t k => st10.trans k) ?_
  obtain ⟨fs, hr, hrun, hended, hW, hsame⟩ := X10.leave (v := some (.ref b4)) (fun h => by rw [Bd.returns] at h; cases h)
  refine Gl.fin (X10.areturnOut hx rfl Bd.returns rfl (hb hby d4_25) hr) hrun hended ⟨_, _, rfl, ?_, ⟨_, rfl⟩, hW, hsame.mono (by decide) (by decide)⟩
  show Q4 Z p1 z_COMP0 h0 n0 _ T10.heap _
  have c16 := (fq7_1.keep Kc10)
  have ne_b4_b7_t0_17 : b4 ≠ b7_t0 := Nat.ne_of_lt (Nat.lt_of_lt_of_le lt_b4 fq7_0)
  have c18 := (fq7_2.keep Kc10 (ninS (Ne.symm ne_b4_b7_t0_17) nin0))
  exact ⟨b4, b7_t0, k7_kx_t0, rfl, N10, K15, sz_b4, sz_b7_t0, fq10_0, fq10_1, fq10_2, c16, c18⟩
theorem d9_0 : decode jdk_31_method_11_code 0 = .ok (.aload_n 0, 1) := by decide +kernel
theorem d9_1 : decode jdk_31_method_11_code 1 = .ok (.ifnonnull 12, 3) := by decide +kernel
theorem d9_13 : decode jdk_31_method_11_code 13 = .ok (.aload_n 0, 1) := by decide +kernel
theorem d9_14 : decode jdk_31_method_11_code 14 = .ok (.areturn, 1) := by decide +kernel
theorem pn_9 : plainName "java/util/Objects" = true := by first | (simp [plainName, overriddenIn]; done) | decide +kernel
theorem ef_9 (m : MethodId) (a1 : Addr) (a2 : Addr) : entryFrame m #[(.ref a1), (.ref a2)] 2 = mkF m 0 #[.val (.ref a1), .val (.ref a2)] [] := by first | (simp [entryFrame, mkF, argsToLocals, Value.category]; done) | rfl
def Q9 (Z : State) (a1 : Addr) (a2 : Addr) (h0 : Heap) (n0 : Nat) (v : Option Value) (h : Heap) (L : List Loc) : Prop := v = some (.ref a1) ∧ Fr n0 L ∧ h = h0
set_option maxRecDepth 65536 in
set_option maxHeartbeats 40000000 in
theorem rm9 (l : Launch) (Z : State) (a0 : Array Value) (hw : ∀ d ∈ tables_1, d.before a0 Z = true) (ws : List Jvm.Cond) (a1 : Addr) (a2 : Addr) (h0 : Heap) (n0 : Nat) (Z0 : n0 ≤ h0.size) :
    MetFree l (⟨"java/util/Objects", "requireNonNull", "(Ljava/lang/Object;Ljava/lang/String;)Ljava/lang/Object;"⟩ : MethodName) (head1 (Jvm.Cond.code (⟨"java/util/Objects", "requireNonNull", "(Ljava/lang/Object;Ljava/lang/String;)Ljava/lang/Object;"⟩ : MethodName) jdk_31_method_11_code 2 (some (.object "java/lang/Object")) :: ws) ({ frames := 0, cells := 0, slots := 0, locals := 0 } : Room)) (fun a U => a = #[(.ref a1), (.ref a2)] ∧ Z.Warmed39 U.vm ∧ U.heap = h0) (fun _ _ _ _ _ => True) (fun _ U o U' => ∃ v L, o = .returned v ∧ Q9 Z a1 a2 h0 n0 v U'.heap L ∧ FrameEnd U o U' L ({ frames := 0, cells := 0, slots := 0, locals := 0 } : Room).cells ({ frames := 0, cells := 0, slots := 0, locals := 0 } : Room).slots) := by
  refine MetFree.of_bodySF (plainFor_of_name pn_9) hisR ?_
  intro p e s m args below meth c s₁ Bd hml0 hP hK
  obtain ⟨rfl, hZ, hh⟩ := hP
  have hx := Bd.exec
  have hby := Bd.bytes
  have hml : c.maxLocals = 2 := hml0
  have hown : s.vm.findClass "java/util/Objects" = some m.cls := findClass_of_methodNamed Bd.named
  have hnm := (name_of_methodNamed Bd.named Bd.method).1
  have X0 : Stand p l e ({ frames := 0, cells := 0, slots := 0, locals := 0 } : Room) s m #[(.ref a1), (.ref a2)] below meth c s₁ [] 0 0 := Stand.of_body Bd
  have e0 : s₁.heap = h0 := by rw [← hh, Bd.state]; rfl
  have N0 := Fr.nil n0
  have K0 : Keep h0 h0 [] := Keep.refl h0 _
  refine (show Gl p e below (fun o U' => ∃ v L, o = .returned v ∧ Q9 Z a1 a2 h0 n0 v U'.heap L ∧ FrameEnd s o U' L ({ frames := 0, cells := 0, slots := 0, locals := 0 } : Room).cells ({ frames := 0, cells := 0, slots := 0, locals := 0 } : Room).slots) (s₁.setTop (entryFrame m #[(.ref a1), (.ref a2)] 2)) from ?_)
  obtain ⟨L0, hL0⟩ : ∃ z : Array Slot, z = #[.val (.ref a1), .val (.ref a2)] := ⟨_, rfl⟩
  refine Gl.st (B := (s₁.setTop (mkF m 0 L0 []))) (fun t k => castTop (efAt hL0 (ef_9 m a1 a2)) k) ?_
  refine Gl.st (B := (s₁.setTop (mkF m 1 L0 [(.ref a1)]))) (fun t k => XS.aloadN X0.here hx rfl (hb hby d9_0) (ldAt hL0 rfl) rfl k) ?_
  refine Gl.st (B := (s₁.setTop (mkF m 13 L0 []))) (fun t k => XS.ifnonnullYes X0.here hx rfl (pc0 := 1) (pc' := 13) rfl (hb hby d9_1) rfl (by decide) (by decide) k) ?_
  refine Gl.st (B := (s₁.setTop (mkF m 14 L0 [(.ref a1)]))) (fun t k => XS.aloadN X0.here hx rfl (hb hby d9_13) (ldAt hL0 rfl) rfl k) ?_
  obtain ⟨fs, hr, hrun, hended, hW, hsame⟩ := X0.leave (v := some (.ref a1)) (fun h => by rw [Bd.returns] at h; cases h)
  refine Gl.fin (X0.areturnOut hx rfl Bd.returns rfl (hb hby d9_14) hr) hrun hended ⟨_, _, rfl, ?_, ⟨_, rfl⟩, hW, hsame.mono (by decide) (by decide)⟩
  show Q9 Z a1 a2 h0 n0 _ s₁.heap _
  rw [e0]
  exact ⟨rfl, N0, rfl⟩
theorem d8_0 : decode prog_27_method_1_code 0 = .ok (.aload_n 0, 1) := by decide +kernel
theorem d8_1 : decode prog_27_method_1_code 1 = .ok (.invokespecial 1, 3) := by decide +kernel
theorem d8_4 : decode prog_27_method_1_code 4 = .ok (.aload_n 1, 1) := by decide +kernel
theorem d8_5 : decode prog_27_method_1_code 5 = .ok (.ldc 7, 2) := by decide +kernel
theorem d8_7 : decode prog_27_method_1_code 7 = .ok (.invokestatic 9, 3) := by decide +kernel
theorem d8_10 : decode prog_27_method_1_code 10 = .ok (.pop, 1) := by decide +kernel
theorem d8_11 : decode prog_27_method_1_code 11 = .ok (.aload_n 0, 1) := by decide +kernel
theorem d8_12 : decode prog_27_method_1_code 12 = .ok (.aload_n 1, 1) := by decide +kernel
theorem d8_13 : decode prog_27_method_1_code 13 = .ok (.putfield 15, 3) := by decide +kernel
theorem d8_16 : decode prog_27_method_1_code 16 = .ok (.return_, 1) := by decide +kernel
theorem pn_8 : plainName "com/example/stale_to_safe/staletosafe/policy/Atom$Text" = true := by first | (simp [plainName, overriddenIn]; done) | decide +kernel
theorem pd_8_0 : parseMethodDescriptor "()V" = some ⟨[], none⟩ := by decide +kernel
theorem pd_8_1 : parseMethodDescriptor "(Ljava/lang/Object;Ljava/lang/String;)Ljava/lang/Object;" = some ⟨[(.object "java/lang/Object"), (.object "java/lang/String")], some (.object "java/lang/Object")⟩ := by decide +kernel
theorem ef_8 (m : MethodId) (a1 : Addr) (a2 : Addr) : entryFrame m #[(.ref a1), (.ref a2)] 2 = mkF m 0 #[.val (.ref a1), .val (.ref a2)] [] := by first | (simp [entryFrame, mkF, argsToLocals, Value.category]; done) | rfl
def Q8 (Z : State) (a1 : Addr) (a2 : Addr) (u_text_a1 : Value) (h0 : Heap) (n0 : Nat) (v : Option Value) (h : Heap) (L : List Loc) : Prop := v = none ∧ Fr n0 L ∧ Keep h0 h [a1] ∧ Exa Z h a1 "com/example/stale_to_safe/staletosafe/policy/Atom$Text" ∧ Fld Z h a1 "com/example/stale_to_safe/staletosafe/policy/Atom$Text" "text" "Ljava/lang/String;" (.ref a2)
set_option maxRecDepth 65536 in
set_option maxHeartbeats 40000000 in
theorem rm8 (l : Launch) (Z : State) (a0 : Array Value) (hw : ∀ d ∈ tables_1, d.before a0 Z = true) (ws : List Jvm.Cond) (a1 : Addr) (a2 : Addr) (u_text_a1 : Value) (h0 : Heap) (n0 : Nat) (Z0 : n0 ≤ h0.size) (F_text_a1 : Fld Z h0 a1 "com/example/stale_to_safe/staletosafe/policy/Atom$Text" "text" "Ljava/lang/String;" u_text_a1) (E_a1 : Exa Z h0 a1 "com/example/stale_to_safe/staletosafe/policy/Atom$Text") (g_a1 : n0 ≤ a1) :
    MetFree l (⟨"com/example/stale_to_safe/staletosafe/policy/Atom$Text", "<init>", "(Ljava/lang/String;)V"⟩ : MethodName) (head1 (Jvm.Cond.code (⟨"com/example/stale_to_safe/staletosafe/policy/Atom$Text", "<init>", "(Ljava/lang/String;)V"⟩ : MethodName) prog_27_method_1_code 2 none :: ws) ({ frames := 2, cells := 2, slots := 20, locals := 24 } : Room)) (fun a U => a = #[(.ref a1), (.ref a2)] ∧ Z.Warmed39 U.vm ∧ U.heap = h0) (fun _ _ _ _ _ => True) (fun _ U o U' => ∃ v L, o = .returned v ∧ Q8 Z a1 a2 u_text_a1 h0 n0 v U'.heap L ∧ ReturnedEndW U o U' L ({ frames := 2, cells := 2, slots := 20, locals := 24 } : Room).cells ({ frames := 2, cells := 2, slots := 20, locals := 24 } : Room).slots) := by
  refine MetFree.of_bodySF (plainFor_of_name pn_8) hisR ?_
  intro p e s m args below meth c s₁ Bd hml0 hP hK
  obtain ⟨rfl, hZ, hh⟩ := hP
  have hx := Bd.exec
  have hby := Bd.bytes
  have hml : c.maxLocals = 2 := hml0
  have hown : s.vm.findClass "com/example/stale_to_safe/staletosafe/policy/Atom$Text" = some m.cls := findClass_of_methodNamed Bd.named
  have hnm := (name_of_methodNamed Bd.named Bd.method).1
  have X0 : Stand p l e ({ frames := 2, cells := 2, slots := 20, locals := 24 } : Room) (s.setVm s.vm) m #[(.ref a1), (.ref a2)] below meth c s₁ [] 0 0 := Stand.of_body Bd
  have e0 : s₁.heap = h0 := by rw [← hh, Bd.state]; rfl
  have N0 := Fr.nil n0
  have hZ : Z.Warmed39 (s.setVm s.vm).vm := hZ
  have hown : (s.setVm s.vm).vm.findClass "com/example/stale_to_safe/staletosafe/policy/Atom$Text" = some m.cls := hown
  have hS0 : s.Since s.vm 0 := (State.WarmedH.refl s).since 0
  have K0 : Keep h0 h0 [a1] := Keep.refl h0 _
  refine (show Gl p e below (fun o U' => ∃ v L, o = .returned v ∧ Q8 Z a1 a2 u_text_a1 h0 n0 v U'.heap L ∧ ReturnedEndW s o U' L ({ frames := 2, cells := 2, slots := 20, locals := 24 } : Room).cells ({ frames := 2, cells := 2, slots := 20, locals := 24 } : Room).slots) (s₁.setTop (entryFrame m #[(.ref a1), (.ref a2)] 2)) from ?_)
  obtain ⟨L0, hL0⟩ : ∃ z : Array Slot, z = #[.val (.ref a1), .val (.ref a2)] := ⟨_, rfl⟩
  refine Gl.st (B := (s₁.setTop (mkF m 0 L0 []))) (fun t k => castTop (efAt hL0 (ef_8 m a1 a2)) k) ?_
  refine Gl.st (B := (s₁.setTop (mkF m 1 L0 [(.ref a1)]))) (fun t k => XS.aloadN X0.here hx rfl (hb hby d8_0) (ldAt hL0 rfl) rfl k) ?_
  obtain ⟨_, _, ⟨T1, L1q, k1, n1⟩, -, X1, ⟨Lc1, hQ1, l1, y1, z1⟩, st1⟩ := X0.specialBack hx (y := (⟨"java/lang/Record", "<init>", "()V"⟩ : MethodName)) rfl hown (mvT hZ (tw hw 46 rfl)) (mvT hZ (tw hw 7 rfl)) (mvT hZ (tw hw 10 rfl)) (by decide) (backOf (W := 0) (rm2 l Z a0 hw [] a1 h0 n0 Z0) hZ (tw hw 10 rfl) (tw hw 9 rfl) (by decide) (by decide)) (g := (mkF m 1 L0 [(.ref a1)])) rfl (szAt hml hL0 rfl) (Steps.refl _) (a := a1) (argsL := []) (rest := []) (lenOf pd_8_0 rfl) rfl (by show 2 * 0 + _ ≤ _; exact Nat.le_of_eq rfl) (hb hby d8_1) (fun _ _ => ⟨rfl, e0, (by decide : 0 + 0 ≤ _), (by decide : 0 + 0 ≤ _)⟩)
  dsimp only [Pt.U, Pt.locs, Pt.cells, Pt.slots] at X1 l1 y1 z1 st1 hQ1
  subst l1 y1 z1
  obtain ⟨rfl, N1q, eh1⟩ := hQ1
  have N1 := Fr.app N0 N1q
  refine Gl.st (B := (T1.setTop (mkF m 4 L0 []))) (fun t k => st1.trans k) ?_
  refine Gl.st (B := (T1.setTop (mkF m 5 L0 [(.ref a2)]))) (fun t k => XS.aloadN X1.here hx rfl (hb hby d8_4) (ldAt hL0 rfl) rfl k) ?_
  obtain ⟨b2, T2, h2, k2, X2, e2, E2, hS2, hk2, hZ, hown, st2⟩ := ldcS X1 hx hZ hown (tw hw 47 rfl) (own_strAtoms hw) eh1 hS0 (Nat.zero_le _) (g := (mkF m 5 L0 [(.ref a2)])) rfl (hb hby d8_5) (n := 16) (by decide) (by decide) (by decide) (by decide)
  have Zc3 : n0 ≤ h2.size := Nat.le_trans Z0 E2.1
  have K4 : Keep h0 h2 [a1] := K0.ext E2
  refine Gl.st (B := (T2.setTop (mkF m 7 L0 [(.ref b2), (.ref a2)]))) st2 ?_
  obtain ⟨_, _, ⟨T5, L5q, k5, n5⟩, -, X5, ⟨Lc5, hQ5, l5, y5, z5⟩, st5⟩ := Jvm.LawKit.callS X2 hx (y := (⟨"java/util/Objects", "requireNonNull", "(Ljava/lang/Object;Ljava/lang/String;)Ljava/lang/Object;"⟩ : MethodName)) hown (mvT hZ (tw hw 50 rfl)) (mvT hZ (tw hw 51 rfl)) (mvT hZ (tw hw 52 rfl)) (mvT hZ (tw hw 53 rfl)) (by decide) (backOf (W := 0) (rm9 l Z a0 hw [] a2 b2 h2 n0 Zc3) hZ (tw hw 53 rfl) (tw hw 52 rfl) (by decide) (by decide)) (g := (mkF m 7 L0 [(.ref b2), (.ref a2)])) rfl (szAt hml hL0 rfl) (argsL := [(.ref a2), (.ref b2)]) (rest := []) (lenOf pd_8_1 rfl) rfl (by show 2 * 0 + _ ≤ _; exact Nat.le_of_eq rfl) (hb hby d8_7) (fun _ _ => ⟨rfl, e2, (by decide : 2 + 0 ≤ _), (by decide : 20 + 0 ≤ _)⟩)
  dsimp only [Pt.U, Pt.locs, Pt.cells, Pt.slots] at X5 l5 y5 z5 st5 hQ5
  subst l5 y5 z5
  obtain ⟨rfl, N5q, eh5⟩ := hQ5
  have N5 := Fr.app N1 N5q
  refine Gl.st (B := (T5.setTop (mkF m 10 L0 [(.ref a2)]))) (fun t k => st5 t k) ?_
  refine Gl.st (B := (T5.setTop (mkF m 11 L0 []))) (fun t k => XS.pop X5.here hx rfl (hb hby d8_10) rfl rfl k) ?_
  refine Gl.st (B := (T5.setTop (mkF m 12 L0 [(.ref a1)]))) (fun t k => XS.aloadN X5.here hx rfl (hb hby d8_11) (ldAt hL0 rfl) rfl k) ?_
  refine Gl.st (B := (T5.setTop (mkF m 13 L0 [(.ref a2), (.ref a1)]))) (fun t k => XS.aloadN X5.here hx rfl (hb hby d8_12) (ldAt hL0 rfl) rfl k) ?_
  have c6 := (E_a1.ext E2)
  have c7 := (F_text_a1.ext E2)
  obtain ⟨T8, h8, X8, e8, W8, st8⟩ := putF X5 hx hZ hown (host := "") (Or.inl (tw hw 54 rfl)) Via.refl eh5 c7 c6 (Or.inr ⟨(tw hw 55 rfl), rfl, hnm⟩) (tw hw 17 rfl) (ty := (.object "java/lang/String")) (by decide) rfl rfl (g := (mkF m 13 L0 [(.ref a2), (.ref a1)])) rfl rfl (hb hby d8_13)
  have Fw8 := c7.same W8
  have Zc9 : n0 ≤ h8.size := Nat.le_trans Zc3 (Nat.le_of_eq W8.size.symm)
  have K10 : Keep h0 h8 [a1] := K4.wr W8 (Or.inl (List.mem_of_getElem? (i := 0) rfl))
  have N8 := Fr.snoc X8 N5 g_a1
  refine Gl.st (B := (T8.setTop (mkF m 16 L0 []))) st8 ?_
  obtain ⟨fs, hr, hrun, hended, hRW⟩ := X8.leaveW hS2 (by rw [e8]; exact (Nat.le_trans hk2 (Nat.le_of_eq W8.size.symm))) (v := none) (fun _ => rfl)
  refine Gl.fin (X8.returnOut hx Bd.returns (hb hby d8_16) hr) hrun hended ⟨_, _, rfl, ?_, hRW.1, hRW.2.1, hRW.2.2.1, hRW.2.2.2.mono (by decide) (by decide)⟩
  show Q8 Z a1 a2 u_text_a1 h0 n0 _ T8.heap _
  rw [e8]
  have c11 := (c6.wr W8)
  exact ⟨rfl, N8, K10, c11, Fw8⟩
theorem d10_0 : decode prog_25_method_2_code 0 = .ok (.aload_n 1, 1) := by decide +kernel
theorem d10_1 : decode prog_25_method_2_code 1 = .ok (.instanceof 8, 3) := by decide +kernel
theorem d10_4 : decode prog_25_method_2_code 4 = .ok (.ifCond .eq 23, 3) := by decide +kernel
theorem d10_7 : decode prog_25_method_2_code 7 = .ok (.aload_n 1, 1) := by decide +kernel
theorem d10_8 : decode prog_25_method_2_code 8 = .ok (.checkcast 8, 3) := by decide +kernel
theorem d10_11 : decode prog_25_method_2_code 11 = .ok (.astore_n 2, 1) := by decide +kernel
theorem d10_12 : decode prog_25_method_2_code 12 = .ok (.aload_n 0, 1) := by decide +kernel
theorem d10_13 : decode prog_25_method_2_code 13 = .ok (.getfield 7, 3) := by decide +kernel
theorem d10_16 : decode prog_25_method_2_code 16 = .ok (.aload_n 2, 1) := by decide +kernel
theorem d10_17 : decode prog_25_method_2_code 17 = .ok (.getfield 7, 3) := by decide +kernel
theorem d10_20 : decode prog_25_method_2_code 20 = .ok (.if_icmp .ne 7, 3) := by decide +kernel
theorem d10_23 : decode prog_25_method_2_code 23 = .ok (.iconst 1, 1) := by decide +kernel
theorem d10_24 : decode prog_25_method_2_code 24 = .ok (.goto 4, 3) := by decide +kernel
theorem d10_27 : decode prog_25_method_2_code 27 = .ok (.iconst 0, 1) := by decide +kernel
theorem d10_28 : decode prog_25_method_2_code 28 = .ok (.ireturn, 1) := by decide +kernel
theorem pn_10 : plainName "com/example/stale_to_safe/staletosafe/policy/Atom$Bool" = true := by first | (simp [plainName, overriddenIn]; done) | decide +kernel
theorem ef_10 (m : MethodId) (a1 : Addr) (a2 : Addr) : entryFrame m #[(.ref a1), (.ref a2)] 3 = mkF m 0 #[.val (.ref a1), .val (.ref a2), .unset] [] := by first | (simp [entryFrame, mkF, argsToLocals, Value.category]; done) | rfl
def Q10 (Z : State) (a1 : Addr) (a2 : Addr) (w_value_a1 : Int32) (w_value_a2 : Int32) (h0 : Heap) (n0 : Nat) (v : Option Value) (h : Heap) (L : List Loc) : Prop := v = some (.int ((if w_value_a1 = w_value_a2 then (1 : Int32) else (0 : Int32)))) ∧ Fr n0 L ∧ h = h0
set_option maxRecDepth 65536 in
set_option maxHeartbeats 40000000 in
theorem rm10 (l : Launch) (Z : State) (a0 : Array Value) (hw : ∀ d ∈ tables_1, d.before a0 Z = true) (ws : List Jvm.Cond) (a1 : Addr) (a2 : Addr) (w_value_a1 : Int32) (w_value_a2 : Int32) (h0 : Heap) (n0 : Nat) (Z0 : n0 ≤ h0.size) (E_a2 : Exa Z h0 a2 "com/example/stale_to_safe/staletosafe/policy/Atom$Bool") (F_value_a1 : Fld Z h0 a1 "com/example/stale_to_safe/staletosafe/policy/Atom$Bool" "value" "Z" (.int w_value_a1)) (F_value_a2 : Fld Z h0 a2 "com/example/stale_to_safe/staletosafe/policy/Atom$Bool" "value" "Z" (.int w_value_a2)) :
    MetFree l (⟨"com/example/stale_to_safe/staletosafe/policy/Atom$Bool", "equals", "(Ljava/lang/Object;)Z"⟩ : MethodName) (head1 (Jvm.Cond.code (⟨"com/example/stale_to_safe/staletosafe/policy/Atom$Bool", "equals", "(Ljava/lang/Object;)Z"⟩ : MethodName) prog_25_method_2_code 3 (some .boolean) :: ws) ({ frames := 0, cells := 0, slots := 0, locals := 0 } : Room)) (fun a U => a = #[(.ref a1), (.ref a2)] ∧ Z.Warmed39 U.vm ∧ U.heap = h0) (fun _ _ _ _ _ => True) (fun _ U o U' => ∃ v L, o = .returned v ∧ Q10 Z a1 a2 w_value_a1 w_value_a2 h0 n0 v U'.heap L ∧ FrameEnd U o U' L ({ frames := 0, cells := 0, slots := 0, locals := 0 } : Room).cells ({ frames := 0, cells := 0, slots := 0, locals := 0 } : Room).slots) := by
  refine MetFree.of_bodySF (plainFor_of_name pn_10) hisR ?_
  intro p e s m args below meth c s₁ Bd hml0 hP hK
  obtain ⟨rfl, hZ, hh⟩ := hP
  have hx := Bd.exec
  have hby := Bd.bytes
  have hml : c.maxLocals = 3 := hml0
  have hown : s.vm.findClass "com/example/stale_to_safe/staletosafe/policy/Atom$Bool" = some m.cls := findClass_of_methodNamed Bd.named
  have hnm := (name_of_methodNamed Bd.named Bd.method).1
  have X0 : Stand p l e ({ frames := 0, cells := 0, slots := 0, locals := 0 } : Room) s m #[(.ref a1), (.ref a2)] below meth c s₁ [] 0 0 := Stand.of_body Bd
  have e0 : s₁.heap = h0 := by rw [← hh, Bd.state]; rfl
  have N0 := Fr.nil n0
  have K0 : Keep h0 h0 [] := Keep.refl h0 _
  refine (show Gl p e below (fun o U' => ∃ v L, o = .returned v ∧ Q10 Z a1 a2 w_value_a1 w_value_a2 h0 n0 v U'.heap L ∧ FrameEnd s o U' L ({ frames := 0, cells := 0, slots := 0, locals := 0 } : Room).cells ({ frames := 0, cells := 0, slots := 0, locals := 0 } : Room).slots) (s₁.setTop (entryFrame m #[(.ref a1), (.ref a2)] 3)) from ?_)
  obtain ⟨L0, hL0⟩ : ∃ z : Array Slot, z = #[.val (.ref a1), .val (.ref a2), .unset] := ⟨_, rfl⟩
  refine Gl.st (B := (s₁.setTop (mkF m 0 L0 []))) (fun t k => castTop (efAt hL0 (ef_10 m a1 a2)) k) ?_
  refine Gl.st (B := (s₁.setTop (mkF m 1 L0 [(.ref a2)]))) (fun t k => XS.aloadN X0.here hx rfl (hb hby d10_0) (ldAt hL0 rfl) rfl k) ?_
  obtain ⟨T1, X1, e1, st1⟩ := instY X0 hx hZ hown (tw hw 61 rfl) e0 (Ins.self E_a2) (g := (mkF m 1 L0 [(.ref a2)])) rfl rfl (hb hby d10_1)
  refine Gl.st (B := (T1.setTop (mkF m 4 L0 [(.int (1 : Int32))]))) st1 ?_
  refine Gl.st (B := (T1.setTop (mkF m 7 L0 []))) (fun t k => XS.ifNo X1.here hx rfl (hb hby d10_4) rfl (by decide) k) ?_
  refine Gl.st (B := (T1.setTop (mkF m 8 L0 [(.ref a2)]))) (fun t k => XS.aloadN X1.here hx rfl (hb hby d10_7) (ldAt hL0 rfl) rfl k) ?_
  obtain ⟨T2, X2, e2, st2⟩ := castY X1 hx hZ hown (tw hw 61 rfl) e1 (Ins.self E_a2) (g := (mkF m 8 L0 [(.ref a2)])) rfl rfl (hb hby d10_8)
  refine Gl.st (B := (T2.setTop (mkF m 11 L0 [(.ref a2)]))) st2 ?_
  obtain ⟨L3, hL3⟩ : ∃ z : Array Slot, z = #[.val (.ref a1), .val (.ref a2), .val (.ref a2)] := ⟨_, rfl⟩
  refine Gl.st (B := (T2.setTop (mkF m 12 L3 []))) (fun t k => XS.astoreN X2.here hx rfl (hb hby d10_11) rfl rfl (l' := L3) (stAt hL0 hL3 rfl rfl) k) ?_
  refine Gl.st (B := (T2.setTop (mkF m 13 L3 [(.ref a1)]))) (fun t k => XS.aloadN X2.here hx rfl (hb hby d10_12) (ldAt hL3 rfl) rfl k) ?_
  obtain ⟨T4, X4, e4, st4⟩ := getF X2 hx hZ hown (host := "") (Or.inl (tw hw 14 rfl)) Via.refl e2 F_value_a1 (g := (mkF m 13 L3 [(.ref a1)])) rfl rfl (hb hby d10_13)
  refine Gl.st (B := (T4.setTop (mkF m 16 L3 [(.int w_value_a1)]))) st4 ?_
  refine Gl.st (B := (T4.setTop (mkF m 17 L3 [(.ref a2), (.int w_value_a1)]))) (fun t k => XS.aloadN X4.here hx rfl (hb hby d10_16) (ldAt hL3 rfl) rfl k) ?_
  obtain ⟨T5, X5, e5, st5⟩ := getF X4 hx hZ hown (host := "") (Or.inl (tw hw 14 rfl)) Via.refl e4 F_value_a2 (g := (mkF m 17 L3 [(.ref a2), (.int w_value_a1)])) rfl rfl (hb hby d10_17)
  refine Gl.st (B := (T5.setTop (mkF m 20 L3 [(.int w_value_a2), (.int w_value_a1)]))) st5 ?_
  obtain ⟨v28_s0_7, hv28_s0_7⟩ : ∃ z : Int32, z = (if w_value_a1 = w_value_a2 then (1 : Int32) else (0 : Int32)) := ⟨_, rfl⟩
  refine Gl.join (A := (T5.setTop (mkF m 28 L3 [(.int v28_s0_7)]))) (fun J20_7 => ?_) ?_
  · by_cases hc20_6 : w_value_a1 = w_value_a2
    · skip
      refine Gl.st (B := (T5.setTop (mkF m 23 L3 []))) (fun t k => XS.icmpNo X5.here hx rfl (hb hby d10_20) rfl (teq hc20_6).2 k) ?_
      refine Gl.st (B := (T5.setTop (mkF m 24 L3 [(.int (1 : Int32))]))) (fun t k => XS.iconst X5.here hx rfl (hb hby d10_23) k) ?_
      refine Gl.st (B := (T5.setTop (mkF m 28 L3 [(.int (1 : Int32))]))) (fun t k => XS.goto X5.here hx rfl (pc0 := 24) (pc' := 28) rfl (hb hby d10_24) (by decide) (by decide) k) ?_
      have ev28_s0_7 : v28_s0_7 = (1 : Int32) := by rw [hv28_s0_7, if_pos hc20_6]
      rw [ev28_s0_7] at J20_7
      exact J20_7
    · skip
      refine Gl.st (B := (T5.setTop (mkF m 27 L3 []))) (fun t k => XS.icmpYes X5.here hx rfl (pc0 := 20) (pc' := 27) rfl (hb hby d10_20) rfl (feq hc20_6).2 (by decide) (by decide) k) ?_
      refine Gl.st (B := (T5.setTop (mkF m 28 L3 [(.int (0 : Int32))]))) (fun t k => XS.iconst X5.here hx rfl (hb hby d10_27) k) ?_
      have ev28_s0_7 : v28_s0_7 = (0 : Int32) := by rw [hv28_s0_7, if_neg hc20_6]
      rw [ev28_s0_7] at J20_7
      exact J20_7
  obtain ⟨fs, hr, hrun, hended, hW, hsame⟩ := X5.leave (v := some (.int (nar .boolean v28_s0_7))) (fun h => by rw [Bd.returns] at h; cases h)
  refine Gl.fin (retN X5 hx (t := .boolean) Bd.returns (by simp) (hb hby d10_28) hr) hrun hended ⟨_, _, rfl, ?_, ⟨_, rfl⟩, hW, hsame.mono (by decide) (by decide)⟩
  show Q10 Z a1 a2 w_value_a1 w_value_a2 h0 n0 _ T5.heap _
  rw [e5]
  exact ⟨(by subst hv28_s0_7; exact congrArg (fun z => some (Value.int z)) (own_nb rfl rfl)), N0, rfl⟩
theorem ef_10n (m : MethodId) (a1 : Addr) : entryFrame m #[(.ref a1), .null] 3 = mkF m 0 #[.val (.ref a1), .val .null, .unset] [] := by first | (simp [entryFrame, mkF, argsToLocals, Value.category]; done) | rfl
def Q10n (Z : State) (a1 : Addr) (h0 : Heap) (n0 : Nat) (v : Option Value) (h : Heap) (L : List Loc) : Prop := v = some (.int (0 : Int32)) ∧ Fr n0 L ∧ h = h0
set_option maxRecDepth 65536 in
set_option maxHeartbeats 40000000 in
theorem rm10n (l : Launch) (Z : State) (a0 : Array Value) (hw : ∀ d ∈ tables_1, d.before a0 Z = true) (ws : List Jvm.Cond) (a1 : Addr) (h0 : Heap) (n0 : Nat) (Z0 : n0 ≤ h0.size) :
    MetFree l (⟨"com/example/stale_to_safe/staletosafe/policy/Atom$Bool", "equals", "(Ljava/lang/Object;)Z"⟩ : MethodName) (head1 (Jvm.Cond.code (⟨"com/example/stale_to_safe/staletosafe/policy/Atom$Bool", "equals", "(Ljava/lang/Object;)Z"⟩ : MethodName) prog_25_method_2_code 3 (some .boolean) :: ws) ({ frames := 0, cells := 0, slots := 0, locals := 0 } : Room)) (fun a U => a = #[(.ref a1), .null] ∧ Z.Warmed39 U.vm ∧ U.heap = h0) (fun _ _ _ _ _ => True) (fun _ U o U' => ∃ v L, o = .returned v ∧ Q10n Z a1 h0 n0 v U'.heap L ∧ FrameEnd U o U' L ({ frames := 0, cells := 0, slots := 0, locals := 0 } : Room).cells ({ frames := 0, cells := 0, slots := 0, locals := 0 } : Room).slots) := by
  refine MetFree.of_bodySF (plainFor_of_name pn_10) hisR ?_
  intro p e s m args below meth c s₁ Bd hml0 hP hK
  obtain ⟨rfl, hZ, hh⟩ := hP
  have hx := Bd.exec
  have hby := Bd.bytes
  have hml : c.maxLocals = 3 := hml0
  have hown : s.vm.findClass "com/example/stale_to_safe/staletosafe/policy/Atom$Bool" = some m.cls := findClass_of_methodNamed Bd.named
  have hnm := (name_of_methodNamed Bd.named Bd.method).1
  have X0 : Stand p l e ({ frames := 0, cells := 0, slots := 0, locals := 0 } : Room) s m #[(.ref a1), .null] below meth c s₁ [] 0 0 := Stand.of_body Bd
  have e0 : s₁.heap = h0 := by rw [← hh, Bd.state]; rfl
  have N0 := Fr.nil n0
  have K0 : Keep h0 h0 [] := Keep.refl h0 _
  refine (show Gl p e below (fun o U' => ∃ v L, o = .returned v ∧ Q10n Z a1 h0 n0 v U'.heap L ∧ FrameEnd s o U' L ({ frames := 0, cells := 0, slots := 0, locals := 0 } : Room).cells ({ frames := 0, cells := 0, slots := 0, locals := 0 } : Room).slots) (s₁.setTop (entryFrame m #[(.ref a1), .null] 3)) from ?_)
  obtain ⟨L0, hL0⟩ : ∃ z : Array Slot, z = #[.val (.ref a1), .val .null, .unset] := ⟨_, rfl⟩
  refine Gl.st (B := (s₁.setTop (mkF m 0 L0 []))) (fun t k => castTop (efAt hL0 (ef_10n m a1)) k) ?_
  refine Gl.st (B := (s₁.setTop (mkF m 1 L0 [.null]))) (fun t k => XS.aloadN X0.here hx rfl (hb hby d10_0) (ldAt hL0 rfl) rfl k) ?_
  refine Gl.st (B := (s₁.setTop (mkF m 4 L0 [(.int (0 : Int32))]))) (fun t k => X0.instanceofNull hx (g := (mkF m 1 L0 [.null])) rfl rfl (hb hby d10_1) _ k) ?_
  refine Gl.st (B := (s₁.setTop (mkF m 27 L0 []))) (fun t k => XS.ifYes X0.here hx rfl (pc0 := 4) (pc' := 27) rfl (hb hby d10_4) rfl (by decide) (by decide) (by decide) k) ?_
  refine Gl.st (B := (s₁.setTop (mkF m 28 L0 [(.int (0 : Int32))]))) (fun t k => XS.iconst X0.here hx rfl (hb hby d10_27) k) ?_
  obtain ⟨fs, hr, hrun, hended, hW, hsame⟩ := X0.leave (v := some (.int (nar .boolean (0 : Int32)))) (fun h => by rw [Bd.returns] at h; cases h)
  refine Gl.fin (retN X0 hx (t := .boolean) Bd.returns (by simp) (hb hby d10_28) hr) hrun hended ⟨_, _, rfl, ?_, ⟨_, rfl⟩, hW, hsame.mono (by decide) (by decide)⟩
  show Q10n Z a1 h0 n0 _ s₁.heap _
  rw [e0]
  exact ⟨rfl, N0, rfl⟩
theorem ef_10t (m : MethodId) (a1 : Addr) (a2 : Addr) : entryFrame m #[(.ref a1), (.ref a2)] 3 = mkF m 0 #[.val (.ref a1), .val (.ref a2), .unset] [] := by first | (simp [entryFrame, mkF, argsToLocals, Value.category]; done) | rfl
def Q10t (Z : State) (a1 : Addr) (a2 : Addr) (h0 : Heap) (n0 : Nat) (v : Option Value) (h : Heap) (L : List Loc) : Prop := v = some (.int (0 : Int32)) ∧ Fr n0 L ∧ h = h0
set_option maxRecDepth 65536 in
set_option maxHeartbeats 40000000 in
theorem rm10t (l : Launch) (Z : State) (a0 : Array Value) (hw : ∀ d ∈ tables_1, d.before a0 Z = true) (ws : List Jvm.Cond) (a1 : Addr) (a2 : Addr) (h0 : Heap) (n0 : Nat) (Z0 : n0 ≤ h0.size) (E_a2 : Exa Z h0 a2 "com/example/stale_to_safe/staletosafe/policy/Atom$Text") :
    MetFree l (⟨"com/example/stale_to_safe/staletosafe/policy/Atom$Bool", "equals", "(Ljava/lang/Object;)Z"⟩ : MethodName) (head1 (Jvm.Cond.code (⟨"com/example/stale_to_safe/staletosafe/policy/Atom$Bool", "equals", "(Ljava/lang/Object;)Z"⟩ : MethodName) prog_25_method_2_code 3 (some .boolean) :: ws) ({ frames := 0, cells := 0, slots := 0, locals := 0 } : Room)) (fun a U => a = #[(.ref a1), (.ref a2)] ∧ Z.Warmed39 U.vm ∧ U.heap = h0) (fun _ _ _ _ _ => True) (fun _ U o U' => ∃ v L, o = .returned v ∧ Q10t Z a1 a2 h0 n0 v U'.heap L ∧ FrameEnd U o U' L ({ frames := 0, cells := 0, slots := 0, locals := 0 } : Room).cells ({ frames := 0, cells := 0, slots := 0, locals := 0 } : Room).slots) := by
  refine MetFree.of_bodySF (plainFor_of_name pn_10) hisR ?_
  intro p e s m args below meth c s₁ Bd hml0 hP hK
  obtain ⟨rfl, hZ, hh⟩ := hP
  have hx := Bd.exec
  have hby := Bd.bytes
  have hml : c.maxLocals = 3 := hml0
  have hown : s.vm.findClass "com/example/stale_to_safe/staletosafe/policy/Atom$Bool" = some m.cls := findClass_of_methodNamed Bd.named
  have hnm := (name_of_methodNamed Bd.named Bd.method).1
  have X0 : Stand p l e ({ frames := 0, cells := 0, slots := 0, locals := 0 } : Room) s m #[(.ref a1), (.ref a2)] below meth c s₁ [] 0 0 := Stand.of_body Bd
  have e0 : s₁.heap = h0 := by rw [← hh, Bd.state]; rfl
  have N0 := Fr.nil n0
  have K0 : Keep h0 h0 [] := Keep.refl h0 _
  refine (show Gl p e below (fun o U' => ∃ v L, o = .returned v ∧ Q10t Z a1 a2 h0 n0 v U'.heap L ∧ FrameEnd s o U' L ({ frames := 0, cells := 0, slots := 0, locals := 0 } : Room).cells ({ frames := 0, cells := 0, slots := 0, locals := 0 } : Room).slots) (s₁.setTop (entryFrame m #[(.ref a1), (.ref a2)] 3)) from ?_)
  obtain ⟨L0, hL0⟩ : ∃ z : Array Slot, z = #[.val (.ref a1), .val (.ref a2), .unset] := ⟨_, rfl⟩
  refine Gl.st (B := (s₁.setTop (mkF m 0 L0 []))) (fun t k => castTop (efAt hL0 (ef_10t m a1 a2)) k) ?_
  refine Gl.st (B := (s₁.setTop (mkF m 1 L0 [(.ref a2)]))) (fun t k => XS.aloadN X0.here hx rfl (hb hby d10_0) (ldAt hL0 rfl) rfl k) ?_
  obtain ⟨T1, X1, e1, st1⟩ := instNo X0 hx hZ hown (tw hw 61 rfl) e0 E_a2 (own_nsno (tw hw 62 rfl) (tw hw 1 rfl) (NS.step (tw hw 62 rfl) (NS.step (tw hw 63 rfl) (own_ns0 (tw hw 64 rfl) (tw hw 1 rfl) (by decide)) (by decide)) (by decide)) (by decide)) (g := (mkF m 1 L0 [(.ref a2)])) rfl rfl (hb hby d10_1)
  refine Gl.st (B := (T1.setTop (mkF m 4 L0 [(.int (0 : Int32))]))) st1 ?_
  refine Gl.st (B := (T1.setTop (mkF m 27 L0 []))) (fun t k => XS.ifYes X1.here hx rfl (pc0 := 4) (pc' := 27) rfl (hb hby d10_4) rfl (by decide) (by decide) (by decide) k) ?_
  refine Gl.st (B := (T1.setTop (mkF m 28 L0 [(.int (0 : Int32))]))) (fun t k => XS.iconst X1.here hx rfl (hb hby d10_27) k) ?_
  obtain ⟨fs, hr, hrun, hended, hW, hsame⟩ := X1.leave (v := some (.int (nar .boolean (0 : Int32)))) (fun h => by rw [Bd.returns] at h; cases h)
  refine Gl.fin (retN X1 hx (t := .boolean) Bd.returns (by simp) (hb hby d10_28) hr) hrun hended ⟨_, _, rfl, ?_, ⟨_, rfl⟩, hW, hsame.mono (by decide) (by decide)⟩
  show Q10t Z a1 a2 h0 n0 _ T1.heap _
  rw [e1]
  exact ⟨rfl, N0, rfl⟩
theorem pn_0 : plainName "com/example/stale_to_safe/staletosafe/policy/BoolEqualsPinLaw" = true := by first | (simp [plainName, overriddenIn]; done) | decide +kernel
theorem pd_0_0 : parseMethodDescriptor "(Z)V" = some ⟨[.boolean], none⟩ := by decide +kernel
theorem pd_0_1 : parseMethodDescriptor "(Ljava/lang/Object;)Z" = some ⟨[(.object "java/lang/Object")], some .boolean⟩ := by decide +kernel
theorem pd_0_2 : parseMethodDescriptor "(C)Ljava/lang/String;" = some ⟨[.char], some (.object "java/lang/String")⟩ := by decide +kernel
theorem pd_0_3 : parseMethodDescriptor "(Ljava/lang/String;)V" = some ⟨[(.object "java/lang/String")], none⟩ := by decide +kernel
theorem ef_0 (m : MethodId) (p1 : Int32) (p2 : Int32) (p3 : Int32) (p4 : Int32) : entryFrame m #[(.int p1), (.int p2), (.int p3), (.int p4)] maxLocals = mkF m 0 #[.val (.int p1), .val (.int p2), .val (.int p3), .val (.int p4), .unset, .unset, .unset, .unset, .unset, .unset] [] := by first | (simp [entryFrame, mkF, argsToLocals, Value.category, maxLocals]; done) | rfl
theorem own_0_hc94_32 (p1 : Int32) (v11_s0_2 : Int32) (p2 : Int32) (v24_s0_5 : Int32) (r89_31 : Int32) (v83_s0_23 : Int32) (hv11_s0_2 : v11_s0_2 = (if (p1 &&& (1 : Int32)) = (0 : Int32) then (0 : Int32) else (1 : Int32))) (hv24_s0_5 : v24_s0_5 = (if (p2 &&& (1 : Int32)) = (0 : Int32) then (0 : Int32) else (1 : Int32))) (hr89_31 : r89_31 = ((if (nar .boolean v11_s0_2) = (nar .boolean v24_s0_5) then (1 : Int32) else (0 : Int32)))) (hv83_s0_23 : v83_s0_23 = (if v11_s0_2 = (0 : Int32) then (if v24_s0_5 = (0 : Int32) then (1 : Int32) else (0 : Int32)) else (if v24_s0_5 = (0 : Int32) then (0 : Int32) else (1 : Int32))))  : r89_31 = v83_s0_23 := by
  rw [hr89_31, hv83_s0_23]
  split at hv11_s0_2 <;> split at hv24_s0_5 <;> subst hv11_s0_2 hv24_s0_5 <;> decide
theorem own_0_hc106_35 (p2 : Int32) (v24_s0_5 : Int32) (p1 : Int32) (v11_s0_2 : Int32) (r101_34 : Int32) (v83_s0_23 : Int32) (hv24_s0_5 : v24_s0_5 = (if (p2 &&& (1 : Int32)) = (0 : Int32) then (0 : Int32) else (1 : Int32))) (hv11_s0_2 : v11_s0_2 = (if (p1 &&& (1 : Int32)) = (0 : Int32) then (0 : Int32) else (1 : Int32))) (hr101_34 : r101_34 = ((if (nar .boolean v24_s0_5) = (nar .boolean v11_s0_2) then (1 : Int32) else (0 : Int32)))) (hv83_s0_23 : v83_s0_23 = (if v11_s0_2 = (0 : Int32) then (if v24_s0_5 = (0 : Int32) then (1 : Int32) else (0 : Int32)) else (if v24_s0_5 = (0 : Int32) then (0 : Int32) else (1 : Int32))))  : r101_34 = v83_s0_23 := by
  rw [hr101_34, hv83_s0_23]
  split at hv11_s0_2 <;> split at hv24_s0_5 <;> subst hv11_s0_2 hv24_s0_5 <;> decide
theorem own_0_hp152_42 (p4 : Int32) (x152_39 : Int32) (hx152_39 : x152_39 = ((p4 &&& (255 : Int32)).toUInt32.toUInt16.toUInt32.toInt32))  : ¬ ((255 : Int32) < x152_39) := by
  exact own_ch _ _ hx152_39
def Q0 (Z : State) (p1 : Int32) (p2 : Int32) (p3 : Int32) (p4 : Int32) (z_COMP0 : Int32) (h0 : Heap) (n0 : Nat) (v : Option Value) (h : Heap) (L : List Loc) : Prop := v = some (.int (1 : Int32)) ∧ Fr n0 L
set_option maxRecDepth 65536 in
set_option maxHeartbeats 40000000 in
theorem rm0 (l : Launch) (Z : State) (a0 : Array Value) (hw : ∀ d ∈ tables_1, d.before a0 Z = true) (ws : List Jvm.Cond) (p1 : Int32) (p2 : Int32) (p3 : Int32) (p4 : Int32) (z_COMP0 : Int32) (h0 : Heap) (n0 : Nat) (Z0 : n0 ≤ h0.size) (S_COMP0 : Sta Z h0 "java/lang/String" "COMPACT_STRINGS" "Z" (.int z_COMP0)) (hr152_hq3 : ¬ (z_COMP0 = (0 : Int32))) :
    MetFree l x (head1 (Jvm.Cond.code x code maxLocals ret :: ws) room_1) (fun a U => a = #[(.int p1), (.int p2), (.int p3), (.int p4)] ∧ Z.Warmed39 U.vm ∧ U.heap = h0) (fun _ _ _ _ _ => True) (fun _ U o U' => ∃ v L, o = .returned v ∧ Q0 Z p1 p2 p3 p4 z_COMP0 h0 n0 v U'.heap L ∧ ReturnedEndW U o U' L room_1.cells room_1.slots) := by
  refine MetFree.of_bodySF (plainFor_of_name pn_0) hisR ?_
  intro p e s m args below meth c s₁ Bd hml0 hP hK
  obtain ⟨rfl, hZ, hh⟩ := hP
  have hx := Bd.exec
  have hby := Bd.bytes
  have hml : c.maxLocals = 10 := hml0
  have hown : s.vm.findClass "com/example/stale_to_safe/staletosafe/policy/BoolEqualsPinLaw" = some m.cls := findClass_of_methodNamed Bd.named
  have hnm := (name_of_methodNamed Bd.named Bd.method).1
  have X0 : Stand p l e room_1 (s.setVm s.vm) m #[(.int p1), (.int p2), (.int p3), (.int p4)] below meth c s₁ [] 0 0 := Stand.of_body Bd
  have e0 : s₁.heap = h0 := by rw [← hh, Bd.state]; rfl
  have N0 := Fr.nil n0
  have hZ : Z.Warmed39 (s.setVm s.vm).vm := hZ
  have hown : (s.setVm s.vm).vm.findClass "com/example/stale_to_safe/staletosafe/policy/BoolEqualsPinLaw" = some m.cls := hown
  have hS0 : s.Since s.vm 0 := (State.WarmedH.refl s).since 0
  refine (show Gl p e below (fun o U' => ∃ v L, o = .returned v ∧ Q0 Z p1 p2 p3 p4 z_COMP0 h0 n0 v U'.heap L ∧ ReturnedEndW s o U' L room_1.cells room_1.slots) (s₁.setTop (entryFrame m #[(.int p1), (.int p2), (.int p3), (.int p4)] maxLocals)) from ?_)
  obtain ⟨L0, hL0⟩ : ∃ z : Array Slot, z = #[.val (.int p1), .val (.int p2), .val (.int p3), .val (.int p4), .unset, .unset, .unset, .unset, .unset, .unset] := ⟨_, rfl⟩
  refine Gl.st (B := (s₁.setTop (mkF m 0 L0 []))) (fun t k => castTop (efAt hL0 (ef_0 m p1 p2 p3 p4)) k) ?_
  refine Gl.st (B := (s₁.setTop (mkF m 1 L0 [(.int p1)]))) (fun t k => XS.iloadN X0.here hx rfl (hb hby at_0) (ldAt hL0 rfl) k) ?_
  refine Gl.st (B := (s₁.setTop (mkF m 2 L0 [(.int (1 : Int32)), (.int p1)]))) (fun t k => XS.iconst X0.here hx rfl (hb hby at_1) k) ?_
  refine Gl.st (B := (s₁.setTop (mkF m 3 L0 [(.int (p1 &&& (1 : Int32)))]))) (fun t k => XS.iand X0.here hx rfl (hb hby at_2) rfl k) ?_
  obtain ⟨v11_s0_2, hv11_s0_2⟩ : ∃ z : Int32, z = (if (p1 &&& (1 : Int32)) = (0 : Int32) then (0 : Int32) else (1 : Int32)) := ⟨_, rfl⟩
  refine Gl.join (A := (s₁.setTop (mkF m 11 L0 [(.int v11_s0_2)]))) (fun J3_2 => ?_) ?_
  · by_cases hc3_1 : (p1 &&& (1 : Int32)) = (0 : Int32)
    · skip
      refine Gl.st (B := (s₁.setTop (mkF m 10 L0 []))) (fun t k => XS.ifYes X0.here hx rfl (pc0 := 3) (pc' := 10) rfl (hb hby at_3) rfl ((if0 _ _).trans (teq hc3_1).1) (by decide) (by decide) k) ?_
      refine Gl.st (B := (s₁.setTop (mkF m 11 L0 [(.int (0 : Int32))]))) (fun t k => XS.iconst X0.here hx rfl (hb hby at_10) k) ?_
      have ev11_s0_2 : v11_s0_2 = (0 : Int32) := by rw [hv11_s0_2, if_pos hc3_1]
      rw [ev11_s0_2] at J3_2
      exact J3_2
    · skip
      refine Gl.st (B := (s₁.setTop (mkF m 6 L0 []))) (fun t k => XS.ifNo X0.here hx rfl (hb hby at_3) rfl ((if0 _ _).trans (feq hc3_1).1) k) ?_
      refine Gl.st (B := (s₁.setTop (mkF m 7 L0 [(.int (1 : Int32))]))) (fun t k => XS.iconst X0.here hx rfl (hb hby at_6) k) ?_
      refine Gl.st (B := (s₁.setTop (mkF m 11 L0 [(.int (1 : Int32))]))) (fun t k => XS.goto X0.here hx rfl (pc0 := 7) (pc' := 11) rfl (hb hby at_7) (by decide) (by decide) k) ?_
      have ev11_s0_2 : v11_s0_2 = (1 : Int32) := by rw [hv11_s0_2, if_neg hc3_1]
      rw [ev11_s0_2] at J3_2
      exact J3_2
  obtain ⟨L3, hL3⟩ : ∃ z : Array Slot, z = #[.val (.int p1), .val (.int p2), .val (.int p3), .val (.int p4), .val (.int v11_s0_2), .unset, .unset, .unset, .unset, .unset] := ⟨_, rfl⟩
  refine Gl.st (B := (s₁.setTop (mkF m 13 L3 []))) (fun t k => XS.istore X0.here hx rfl (hb hby at_11) rfl (l' := L3) (stAt hL0 hL3 rfl rfl) k) ?_
  refine Gl.st (B := (s₁.setTop (mkF m 14 L3 [(.int p2)]))) (fun t k => XS.iloadN X0.here hx rfl (hb hby at_13) (ldAt hL3 rfl) k) ?_
  refine Gl.st (B := (s₁.setTop (mkF m 15 L3 [(.int (1 : Int32)), (.int p2)]))) (fun t k => XS.iconst X0.here hx rfl (hb hby at_14) k) ?_
  refine Gl.st (B := (s₁.setTop (mkF m 16 L3 [(.int (p2 &&& (1 : Int32)))]))) (fun t k => XS.iand X0.here hx rfl (hb hby at_15) rfl k) ?_
  obtain ⟨v24_s0_5, hv24_s0_5⟩ : ∃ z : Int32, z = (if (p2 &&& (1 : Int32)) = (0 : Int32) then (0 : Int32) else (1 : Int32)) := ⟨_, rfl⟩
  refine Gl.join (A := (s₁.setTop (mkF m 24 L3 [(.int v24_s0_5)]))) (fun J16_5 => ?_) ?_
  · by_cases hc16_4 : (p2 &&& (1 : Int32)) = (0 : Int32)
    · skip
      refine Gl.st (B := (s₁.setTop (mkF m 23 L3 []))) (fun t k => XS.ifYes X0.here hx rfl (pc0 := 16) (pc' := 23) rfl (hb hby at_16) rfl ((if0 _ _).trans (teq hc16_4).1) (by decide) (by decide) k) ?_
      refine Gl.st (B := (s₁.setTop (mkF m 24 L3 [(.int (0 : Int32))]))) (fun t k => XS.iconst X0.here hx rfl (hb hby at_23) k) ?_
      have ev24_s0_5 : v24_s0_5 = (0 : Int32) := by rw [hv24_s0_5, if_pos hc16_4]
      rw [ev24_s0_5] at J16_5
      exact J16_5
    · skip
      refine Gl.st (B := (s₁.setTop (mkF m 19 L3 []))) (fun t k => XS.ifNo X0.here hx rfl (hb hby at_16) rfl ((if0 _ _).trans (feq hc16_4).1) k) ?_
      refine Gl.st (B := (s₁.setTop (mkF m 20 L3 [(.int (1 : Int32))]))) (fun t k => XS.iconst X0.here hx rfl (hb hby at_19) k) ?_
      refine Gl.st (B := (s₁.setTop (mkF m 24 L3 [(.int (1 : Int32))]))) (fun t k => XS.goto X0.here hx rfl (pc0 := 20) (pc' := 24) rfl (hb hby at_20) (by decide) (by decide) k) ?_
      have ev24_s0_5 : v24_s0_5 = (1 : Int32) := by rw [hv24_s0_5, if_neg hc16_4]
      rw [ev24_s0_5] at J16_5
      exact J16_5
  obtain ⟨L6, hL6⟩ : ∃ z : Array Slot, z = #[.val (.int p1), .val (.int p2), .val (.int p3), .val (.int p4), .val (.int v11_s0_2), .val (.int v24_s0_5), .unset, .unset, .unset, .unset] := ⟨_, rfl⟩
  refine Gl.st (B := (s₁.setTop (mkF m 26 L6 []))) (fun t k => XS.istore X0.here hx rfl (hb hby at_24) rfl (l' := L6) (stAt hL3 hL6 rfl rfl) k) ?_
  refine Gl.st (B := (s₁.setTop (mkF m 27 L6 [(.int p3)]))) (fun t k => XS.iloadN X0.here hx rfl (hb hby at_26) (ldAt hL6 rfl) k) ?_
  refine Gl.st (B := (s₁.setTop (mkF m 28 L6 [(.int (3 : Int32)), (.int p3)]))) (fun t k => XS.iconst X0.here hx rfl (hb hby at_27) k) ?_
  refine Gl.st (B := (s₁.setTop (mkF m 29 L6 [(.int (p3 &&& (3 : Int32)))]))) (fun t k => XS.iand X0.here hx rfl (hb hby at_28) rfl k) ?_
  obtain ⟨y6_29_7, hy6_29_7⟩ : ∃ z : Int32, z = (p3 &&& (3 : Int32)) := ⟨_, rfl⟩
  refine Gl.cast (B := (s₁.setTop (mkF m 29 L6 [(.int y6_29_7)]))) (by rw [hy6_29_7]) ?_
  obtain ⟨L8, hL8⟩ : ∃ z : Array Slot, z = #[.val (.int p1), .val (.int p2), .val (.int p3), .val (.int p4), .val (.int v11_s0_2), .val (.int v24_s0_5), .val (.int y6_29_7), .unset, .unset, .unset] := ⟨_, rfl⟩
  refine Gl.st (B := (s₁.setTop (mkF m 31 L8 []))) (fun t k => XS.istore X0.here hx rfl (hb hby at_29) rfl (l' := L8) (stAt hL6 hL8 rfl rfl) k) ?_
  obtain ⟨T9, h9, X9, e9, E9, A9, D9, -, st9⟩ := newO X0 hx hZ hown (tw hw 0 rfl) (tw hw 1 rfl) (tw hw 2 rfl) e0 (g := (mkF m 31 L8 [])) rfl (hb hby at_31) (by decide) (by decide)
  obtain ⟨b9, gq9⟩ : ∃ z, z = h0.size := ⟨_, rfl⟩
  rw [← gq9] at A9 D9 st9
  have g_b9 : n0 ≤ b9 := Nat.le_trans Z0 (Nat.le_of_eq gq9.symm)
  have lt_b9 := A9.lt
  have Zc10 : n0 ≤ h9.size := Nat.le_trans Z0 E9.1
  have F9_value : Fld Z h9 b9 "com/example/stale_to_safe/staletosafe/policy/Atom$Bool" "value" "Z" (.int (0 : Int32)) := D9 (Or.inr (tw hw 15 rfl)) (ty := .boolean) (by decide)
  refine Gl.st (B := (T9.setTop (mkF m 34 L8 [(.ref b9)]))) st9 ?_
  refine Gl.st (B := (T9.setTop (mkF m 35 L8 [(.ref b9), (.ref b9)]))) (fun t k => XS.dup X9.here hx rfl (hb hby at_34) rfl rfl k) ?_
  refine Gl.st (B := (T9.setTop (mkF m 37 L8 [(.int v11_s0_2), (.ref b9), (.ref b9)]))) (fun t k => XS.iload X9.here hx rfl (hb hby at_35) (ldAt hL8 rfl) k) ?_
  obtain ⟨_, _, ⟨T11, L11q, k11, n11⟩, -, X11, ⟨Lc11, hQ11, l11, y11, z11⟩, st11⟩ := X9.specialBack hx (y := (⟨"com/example/stale_to_safe/staletosafe/policy/Atom$Bool", "<init>", "(Z)V"⟩ : MethodName)) rfl hown (mvT hZ (tw hw 3 rfl)) (mvT hZ (tw hw 4 rfl)) (mvT hZ (tw hw 5 rfl)) (by decide) (backOf (W := 1) (rm1 l Z a0 hw [] b9 v11_s0_2 ((.int (0 : Int32))) h9 n0 Zc10 F9_value A9 g_b9) hZ (tw hw 5 rfl) (tw hw 2 rfl) (by decide) (by decide)) (g := (mkF m 37 L8 [(.int v11_s0_2), (.ref b9), (.ref b9)])) rfl (szAt hml hL8 rfl) (Steps.refl _) (a := b9) (argsL := [(.int v11_s0_2)]) (rest := [(.ref b9)]) (lenOf pd_0_0 rfl) rfl (by show 2 * 0 + _ ≤ _; exact Nat.le_of_eq rfl) (hb hby at_37) (fun _ _ => ⟨rfl, e9, (by decide : 1 + 0 ≤ _), (by decide : 1 + 0 ≤ _)⟩)
  dsimp only [Pt.U, Pt.locs, Pt.cells, Pt.slots] at X11 l11 y11 z11 st11 hQ11
  subst l11 y11 z11
  obtain ⟨rfl, N11q, Kc11, fq11_0, fq11_1⟩ := hQ11
  have Zc12 : n0 ≤ T11.heap.size := Nat.le_trans Zc10 Kc11.1
  have N11 := Fr.app N0 N11q
  refine Gl.st (B := (T11.setTop (mkF m 40 L8 [(.ref b9)]))) (fun t k => st11.trans k) ?_
  obtain ⟨L13, hL13⟩ : ∃ z : Array Slot, z = #[.val (.int p1), .val (.int p2), .val (.int p3), .val (.int p4), .val (.int v11_s0_2), .val (.int v24_s0_5), .val (.int y6_29_7), .val (.ref b9), .unset, .unset] := ⟨_, rfl⟩
  refine Gl.st (B := (T11.setTop (mkF m 42 L13 []))) (fun t k => XS.astore X11.here hx rfl (hb hby at_40) rfl rfl (l' := L13) (stAt hL8 hL13 rfl rfl) k) ?_
  have hs14 : y6_29_7 = (0 : Int32) ∨ y6_29_7 = (1 : Int32) ∨ y6_29_7 = (2 : Int32) ∨ y6_29_7 = (3 : Int32) := by
    exact own_and3 _ _ hy6_29_7
  rcases hs14 with hk | hk | hk | hk
  · skip
    subst hk
    refine Gl.st (B := (T11.setTop (mkF m 44 L13 [(.int (0 : Int32))]))) (fun t k => XS.iload X11.here hx rfl (hb hby at_42) (ldAt hL13 rfl) k) ?_
    refine Gl.st (B := (T11.setTop (mkF m 47 L13 []))) (fun t k => XS.ifNo X11.here hx rfl (hb hby at_44) rfl (by decide) k) ?_
    obtain ⟨T15, h15, X15, e15, E15, A15, D15, -, st15⟩ := newO X11 hx hZ hown (tw hw 0 rfl) (tw hw 1 rfl) (tw hw 2 rfl) rfl (g := (mkF m 47 L13 [])) rfl (hb hby at_47) (by decide) (by decide)
    obtain ⟨b15, gq15⟩ : ∃ z, z = T11.heap.size := ⟨_, rfl⟩
    rw [← gq15] at A15 D15 st15
    have g_b15 : n0 ≤ b15 := Nat.le_trans Zc12 (Nat.le_of_eq gq15.symm)
    have lt_b15 := A15.lt
    have Zc16 : n0 ≤ h15.size := Nat.le_trans Zc12 E15.1
    have F15_value : Fld Z h15 b15 "com/example/stale_to_safe/staletosafe/policy/Atom$Bool" "value" "Z" (.int (0 : Int32)) := D15 (Or.inr (tw hw 15 rfl)) (ty := .boolean) (by decide)
    refine Gl.st (B := (T15.setTop (mkF m 50 L13 [(.ref b15)]))) st15 ?_
    refine Gl.st (B := (T15.setTop (mkF m 51 L13 [(.ref b15), (.ref b15)]))) (fun t k => XS.dup X15.here hx rfl (hb hby at_50) rfl rfl k) ?_
    refine Gl.st (B := (T15.setTop (mkF m 53 L13 [(.int v24_s0_5), (.ref b15), (.ref b15)]))) (fun t k => XS.iload X15.here hx rfl (hb hby at_51) (ldAt hL13 rfl) k) ?_
    obtain ⟨_, _, ⟨T17, L17q, k17, n17⟩, -, X17, ⟨Lc17, hQ17, l17, y17, z17⟩, st17⟩ := X15.specialBack hx (y := (⟨"com/example/stale_to_safe/staletosafe/policy/Atom$Bool", "<init>", "(Z)V"⟩ : MethodName)) rfl hown (mvT hZ (tw hw 3 rfl)) (mvT hZ (tw hw 4 rfl)) (mvT hZ (tw hw 5 rfl)) (by decide) (backOf (W := 1) (rm1 l Z a0 hw [] b15 v24_s0_5 ((.int (0 : Int32))) h15 n0 Zc16 F15_value A15 g_b15) hZ (tw hw 5 rfl) (tw hw 2 rfl) (by decide) (by decide)) (g := (mkF m 53 L13 [(.int v24_s0_5), (.ref b15), (.ref b15)])) rfl (szAt hml hL13 rfl) (Steps.refl _) (a := b15) (argsL := [(.int v24_s0_5)]) (rest := [(.ref b15)]) (lenOf pd_0_0 rfl) rfl (by show 2 * 0 + _ ≤ _; exact Nat.le_of_eq rfl) (hb hby at_53) (fun _ _ => ⟨rfl, e15, (by decide : 2 + 0 ≤ _), (by decide : 2 + 0 ≤ _)⟩)
    dsimp only [Pt.U, Pt.locs, Pt.cells, Pt.slots] at X17 l17 y17 z17 st17 hQ17
    subst l17 y17 z17
    obtain ⟨rfl, N17q, Kc17, fq17_0, fq17_1⟩ := hQ17
    have Zc18 : n0 ≤ T17.heap.size := Nat.le_trans Zc16 Kc17.1
    have N17 := Fr.app N11 N17q
    refine Gl.st (B := (T17.setTop (mkF m 56 L13 [(.ref b15)]))) (fun t k => st17.trans k) ?_
    obtain ⟨L19, hL19⟩ : ∃ z : Array Slot, z = #[.val (.int p1), .val (.int p2), .val (.int p3), .val (.int p4), .val (.int v11_s0_2), .val (.int v24_s0_5), .val (.int (0 : Int32)), .val (.ref b9), .val (.ref b15), .unset] := ⟨_, rfl⟩
    refine Gl.st (B := (T17.setTop (mkF m 58 L19 []))) (fun t k => XS.astore X17.here hx rfl (hb hby at_56) rfl rfl (l' := L19) (stAt hL13 hL19 rfl rfl) k) ?_
    refine Gl.st (B := (T17.setTop (mkF m 60 L19 [(.int v11_s0_2)]))) (fun t k => XS.iload X17.here hx rfl (hb hby at_58) (ldAt hL19 rfl) k) ?_
    obtain ⟨v83_s0_23, hv83_s0_23⟩ : ∃ z : Int32, z = (if v11_s0_2 = (0 : Int32) then (if v24_s0_5 = (0 : Int32) then (1 : Int32) else (0 : Int32)) else (if v24_s0_5 = (0 : Int32) then (0 : Int32) else (1 : Int32))) := ⟨_, rfl⟩
    refine Gl.join (A := (T17.setTop (mkF m 83 L19 [(.int v83_s0_23)]))) (fun J60_23 => ?_) ?_
    · by_cases hc60_20 : v11_s0_2 = (0 : Int32)
      · skip
        refine Gl.st (B := (T17.setTop (mkF m 68 L19 []))) (fun t k => XS.ifYes X17.here hx rfl (pc0 := 60) (pc' := 68) rfl (hb hby at_60) rfl ((if0 _ _).trans (teq hc60_20).1) (by decide) (by decide) k) ?_
        refine Gl.st (B := (T17.setTop (mkF m 70 L19 [(.int v11_s0_2)]))) (fun t k => XS.iload X17.here hx rfl (hb hby at_68) (ldAt hL19 rfl) k) ?_
        refine Gl.st (B := (T17.setTop (mkF m 73 L19 []))) (fun t k => XS.ifNo X17.here hx rfl (hb hby at_70) rfl ((if0 _ _).trans (teq hc60_20).2) k) ?_
        refine Gl.st (B := (T17.setTop (mkF m 75 L19 [(.int v24_s0_5)]))) (fun t k => XS.iload X17.here hx rfl (hb hby at_73) (ldAt hL19 rfl) k) ?_
        by_cases hc75_24 : v24_s0_5 = (0 : Int32)
        · skip
          refine Gl.st (B := (T17.setTop (mkF m 78 L19 []))) (fun t k => XS.ifNo X17.here hx rfl (hb hby at_75) rfl ((if0 _ _).trans (teq hc75_24).2) k) ?_
          refine Gl.st (B := (T17.setTop (mkF m 79 L19 [(.int (1 : Int32))]))) (fun t k => XS.iconst X17.here hx rfl (hb hby at_78) k) ?_
          refine Gl.st (B := (T17.setTop (mkF m 83 L19 [(.int (1 : Int32))]))) (fun t k => XS.goto X17.here hx rfl (pc0 := 79) (pc' := 83) rfl (hb hby at_79) (by decide) (by decide) k) ?_
          have ev83_s0_23 : v83_s0_23 = (1 : Int32) := by rw [hv83_s0_23, if_pos hc60_20, if_pos hc75_24]
          rw [ev83_s0_23] at J60_23
          exact J60_23
        · skip
          refine Gl.st (B := (T17.setTop (mkF m 82 L19 []))) (fun t k => XS.ifYes X17.here hx rfl (pc0 := 75) (pc' := 82) rfl (hb hby at_75) rfl ((if0 _ _).trans (feq hc75_24).2) (by decide) (by decide) k) ?_
          refine Gl.st (B := (T17.setTop (mkF m 83 L19 [(.int (0 : Int32))]))) (fun t k => XS.iconst X17.here hx rfl (hb hby at_82) k) ?_
          have ev83_s0_23 : v83_s0_23 = (0 : Int32) := by rw [hv83_s0_23, if_pos hc60_20, if_neg hc75_24]
          rw [ev83_s0_23] at J60_23
          exact J60_23
      · skip
        refine Gl.st (B := (T17.setTop (mkF m 63 L19 []))) (fun t k => XS.ifNo X17.here hx rfl (hb hby at_60) rfl ((if0 _ _).trans (feq hc60_20).1) k) ?_
        refine Gl.st (B := (T17.setTop (mkF m 65 L19 [(.int v24_s0_5)]))) (fun t k => XS.iload X17.here hx rfl (hb hby at_63) (ldAt hL19 rfl) k) ?_
        by_cases hc65_25 : v24_s0_5 = (0 : Int32)
        · skip
          refine Gl.st (B := (T17.setTop (mkF m 68 L19 []))) (fun t k => XS.ifNo X17.here hx rfl (hb hby at_65) rfl ((if0 _ _).trans (teq hc65_25).2) k) ?_
          refine Gl.st (B := (T17.setTop (mkF m 70 L19 [(.int v11_s0_2)]))) (fun t k => XS.iload X17.here hx rfl (hb hby at_68) (ldAt hL19 rfl) k) ?_
          refine Gl.st (B := (T17.setTop (mkF m 82 L19 []))) (fun t k => XS.ifYes X17.here hx rfl (pc0 := 70) (pc' := 82) rfl (hb hby at_70) rfl ((if0 _ _).trans (feq hc60_20).2) (by decide) (by decide) k) ?_
          refine Gl.st (B := (T17.setTop (mkF m 83 L19 [(.int (0 : Int32))]))) (fun t k => XS.iconst X17.here hx rfl (hb hby at_82) k) ?_
          have ev83_s0_23 : v83_s0_23 = (0 : Int32) := by rw [hv83_s0_23, if_neg hc60_20, if_pos hc65_25]
          rw [ev83_s0_23] at J60_23
          exact J60_23
        · skip
          refine Gl.st (B := (T17.setTop (mkF m 78 L19 []))) (fun t k => XS.ifYes X17.here hx rfl (pc0 := 65) (pc' := 78) rfl (hb hby at_65) rfl ((if0 _ _).trans (feq hc65_25).2) (by decide) (by decide) k) ?_
          refine Gl.st (B := (T17.setTop (mkF m 79 L19 [(.int (1 : Int32))]))) (fun t k => XS.iconst X17.here hx rfl (hb hby at_78) k) ?_
          refine Gl.st (B := (T17.setTop (mkF m 83 L19 [(.int (1 : Int32))]))) (fun t k => XS.goto X17.here hx rfl (pc0 := 79) (pc' := 83) rfl (hb hby at_79) (by decide) (by decide) k) ?_
          have ev83_s0_23 : v83_s0_23 = (1 : Int32) := by rw [hv83_s0_23, if_neg hc60_20, if_neg hc65_25]
          rw [ev83_s0_23] at J60_23
          exact J60_23
    obtain ⟨L26, hL26⟩ : ∃ z : Array Slot, z = #[.val (.int p1), .val (.int p2), .val (.int p3), .val (.int p4), .val (.int v11_s0_2), .val (.int v24_s0_5), .val (.int (0 : Int32)), .val (.ref b9), .val (.ref b15), .val (.int v83_s0_23)] := ⟨_, rfl⟩
    refine Gl.st (B := (T17.setTop (mkF m 85 L26 []))) (fun t k => XS.istore X17.here hx rfl (hb hby at_83) rfl (l' := L26) (stAt hL19 hL26 rfl rfl) k) ?_
    refine Gl.st (B := (T17.setTop (mkF m 87 L26 [(.ref b9)]))) (fun t k => XS.aload X17.here hx rfl (hb hby at_85) (ldAt hL26 rfl) rfl k) ?_
    refine Gl.st (B := (T17.setTop (mkF m 89 L26 [(.ref b15), (.ref b9)]))) (fun t k => XS.aload X17.here hx rfl (hb hby at_87) (ldAt hL26 rfl) rfl k) ?_
    have ne_b9_b15_28 : b9 ≠ b15 := Nat.ne_of_lt (Nat.lt_of_lt_of_le lt_b9 (Nat.le_trans Kc11.1 (Nat.le_of_eq gq15.symm)))
    have c29 := ((fq11_1.ext E15).keep Kc17 (ninS ne_b9_b15_28 nin0))
    have c30 := ((fq11_0.ext E15).keep Kc17)
    obtain ⟨cq27, kq27, q27a, q27b, q27c⟩ := isOf hZ rfl c30
    obtain ⟨_, _, ⟨T27, L27q, k27, n27⟩, -, X27, ⟨Lc27, hQ27, l27, y27, z27⟩, st27⟩ := X17.virtualBack hx (y := (⟨"com/example/stale_to_safe/staletosafe/policy/Atom$Bool", "equals", "(Ljava/lang/Object;)Z"⟩ : MethodName)) (z := (⟨"com/example/stale_to_safe/staletosafe/policy/Atom$Bool", "equals", "(Ljava/lang/Object;)Z"⟩ : MethodName)) hown (mvT hZ (tw hw 56 rfl)) (mvT hZ (tw hw 57 rfl)) (notFace_of_selects (args := #[]) (mvT hZ (tw hw 59 rfl))) (mvT hZ (tw hw 59 rfl)) (mvT hZ (tw hw 58 rfl)) (by decide) (backOf (W := 0) (rm10 l Z a0 hw [] b9 b15 (nar .boolean v11_s0_2) (nar .boolean v24_s0_5) T17.heap n0 Zc18 fq17_0 c29 fq17_1) hZ (tw hw 60 rfl) (tw hw 2 rfl) (by decide) (by decide)) q27a q27c (g := (mkF m 89 L26 [(.ref b15), (.ref b9)])) rfl (szAt hml hL26 rfl) (Steps.refl _) (argsL := [(.ref b15)]) (rest := []) (lenOf pd_0_1 rfl) rfl (by show 2 * 0 + _ ≤ _; exact Nat.le_of_eq rfl) (hb hby at_89) (fun _ _ => ⟨rfl, rfl, (by decide : 2 + 0 ≤ _), (by decide : 2 + 0 ≤ _)⟩)
    dsimp only [Pt.U, Pt.locs, Pt.cells, Pt.slots] at X27 l27 y27 z27 st27 hQ27
    subst l27 y27 z27
    obtain ⟨rfl, N27q, eh27⟩ := hQ27
    have N27 := Fr.app N17 N27q
    refine Gl.st (B := (T27.setTop (mkF m 92 L26 [(.int ((if (nar .boolean v11_s0_2) = (nar .boolean v24_s0_5) then (1 : Int32) else (0 : Int32))))]))) (fun t k => st27.trans k) ?_
    obtain ⟨r89_31, hr89_31⟩ : ∃ z : Int32, z = ((if (nar .boolean v11_s0_2) = (nar .boolean v24_s0_5) then (1 : Int32) else (0 : Int32))) := ⟨_, rfl⟩
    refine Gl.cast (B := (T27.setTop (mkF m 92 L26 [(.int r89_31)]))) (by rw [hr89_31]) ?_
    refine Gl.st (B := (T27.setTop (mkF m 94 L26 [(.int v83_s0_23), (.int r89_31)]))) (fun t k => XS.iload X27.here hx rfl (hb hby at_92) (ldAt hL26 rfl) k) ?_
    have hc94_32 : r89_31 = v83_s0_23 := own_0_hc94_32 p1 v11_s0_2 p2 v24_s0_5 r89_31 v83_s0_23 hv11_s0_2 hv24_s0_5 hr89_31 hv83_s0_23 
    refine Gl.st (B := (T27.setTop (mkF m 97 L26 []))) (fun t k => XS.icmpNo X27.here hx rfl (hb hby at_94) rfl (teq hc94_32).2 k) ?_
    refine Gl.st (B := (T27.setTop (mkF m 99 L26 [(.ref b15)]))) (fun t k => XS.aload X27.here hx rfl (hb hby at_97) (ldAt hL26 rfl) rfl k) ?_
    refine Gl.st (B := (T27.setTop (mkF m 101 L26 [(.ref b9), (.ref b15)]))) (fun t k => XS.aload X27.here hx rfl (hb hby at_99) (ldAt hL26 rfl) rfl k) ?_
    obtain ⟨cq33, kq33, q33a, q33b, q33c⟩ := isOf hZ eh27 fq17_0
    obtain ⟨_, _, ⟨T33, L33q, k33, n33⟩, -, X33, ⟨Lc33, hQ33, l33, y33, z33⟩, st33⟩ := X27.virtualBack hx (y := (⟨"com/example/stale_to_safe/staletosafe/policy/Atom$Bool", "equals", "(Ljava/lang/Object;)Z"⟩ : MethodName)) (z := (⟨"com/example/stale_to_safe/staletosafe/policy/Atom$Bool", "equals", "(Ljava/lang/Object;)Z"⟩ : MethodName)) hown (mvT hZ (tw hw 56 rfl)) (mvT hZ (tw hw 57 rfl)) (notFace_of_selects (args := #[]) (mvT hZ (tw hw 59 rfl))) (mvT hZ (tw hw 59 rfl)) (mvT hZ (tw hw 58 rfl)) (by decide) (backOf (W := 0) (rm10 l Z a0 hw [] b15 b9 (nar .boolean v24_s0_5) (nar .boolean v11_s0_2) T17.heap n0 Zc18 c30 fq17_1 c29) hZ (tw hw 60 rfl) (tw hw 2 rfl) (by decide) (by decide)) q33a q33c (g := (mkF m 101 L26 [(.ref b9), (.ref b15)])) rfl (szAt hml hL26 rfl) (Steps.refl _) (argsL := [(.ref b9)]) (rest := []) (lenOf pd_0_1 rfl) rfl (by show 2 * 0 + _ ≤ _; exact Nat.le_of_eq rfl) (hb hby at_101) (fun _ _ => ⟨rfl, eh27, (by decide : 2 + 0 ≤ _), (by decide : 2 + 0 ≤ _)⟩)
    dsimp only [Pt.U, Pt.locs, Pt.cells, Pt.slots] at X33 l33 y33 z33 st33 hQ33
    subst l33 y33 z33
    obtain ⟨rfl, N33q, eh33⟩ := hQ33
    have N33 := Fr.app N27 N33q
    refine Gl.st (B := (T33.setTop (mkF m 104 L26 [(.int ((if (nar .boolean v24_s0_5) = (nar .boolean v11_s0_2) then (1 : Int32) else (0 : Int32))))]))) (fun t k => st33.trans k) ?_
    obtain ⟨r101_34, hr101_34⟩ : ∃ z : Int32, z = ((if (nar .boolean v24_s0_5) = (nar .boolean v11_s0_2) then (1 : Int32) else (0 : Int32))) := ⟨_, rfl⟩
    refine Gl.cast (B := (T33.setTop (mkF m 104 L26 [(.int r101_34)]))) (by rw [hr101_34]) ?_
    refine Gl.st (B := (T33.setTop (mkF m 106 L26 [(.int v83_s0_23), (.int r101_34)]))) (fun t k => XS.iload X33.here hx rfl (hb hby at_104) (ldAt hL26 rfl) k) ?_
    have hc106_35 : r101_34 = v83_s0_23 := own_0_hc106_35 p2 v24_s0_5 p1 v11_s0_2 r101_34 v83_s0_23 hv24_s0_5 hv11_s0_2 hr101_34 hv83_s0_23 
    refine Gl.st (B := (T33.setTop (mkF m 109 L26 []))) (fun t k => XS.icmpNo X33.here hx rfl (hb hby at_106) rfl (teq hc106_35).2 k) ?_
    refine Gl.st (B := (T33.setTop (mkF m 110 L26 [(.int (1 : Int32))]))) (fun t k => XS.iconst X33.here hx rfl (hb hby at_109) k) ?_
    refine Gl.st (B := (T33.setTop (mkF m 114 L26 [(.int (1 : Int32))]))) (fun t k => XS.goto X33.here hx rfl (pc0 := 110) (pc' := 114) rfl (hb hby at_110) (by decide) (by decide) k) ?_
    obtain ⟨fs, hr, hrun, hended, hRW⟩ := X33.leaveW hS0 (by rw [eh33]; exact (Nat.le_trans (Nat.le_trans (Nat.le_trans (Nat.le_trans (Nat.zero_le _) E9.1) Kc11.1) E15.1) Kc17.1)) (v := some (.int (nar .boolean (1 : Int32)))) (fun h => by rw [Bd.returns] at h; cases h)
    refine Gl.fin (retN X33 hx (t := .boolean) Bd.returns (by simp) (hb hby at_114) hr) hrun hended ⟨_, _, rfl, ?_, hRW.1, hRW.2.1, hRW.2.2.1, hRW.2.2.2.mono (by decide) (by decide)⟩
    show Q0 Z p1 p2 p3 p4 z_COMP0 h0 n0 _ T33.heap _
    rw [eh33]
    exact ⟨rfl, N33⟩
  · skip
    subst hk
    refine Gl.st (B := (T11.setTop (mkF m 44 L13 [(.int (1 : Int32))]))) (fun t k => XS.iload X11.here hx rfl (hb hby at_42) (ldAt hL13 rfl) k) ?_
    refine Gl.st (B := (T11.setTop (mkF m 115 L13 []))) (fun t k => XS.ifYes X11.here hx rfl (pc0 := 44) (pc' := 115) rfl (hb hby at_44) rfl (by decide) (by decide) (by decide) k) ?_
    refine Gl.st (B := (T11.setTop (mkF m 117 L13 [(.int (1 : Int32))]))) (fun t k => XS.iload X11.here hx rfl (hb hby at_115) (ldAt hL13 rfl) k) ?_
    refine Gl.st (B := (T11.setTop (mkF m 118 L13 [(.int (1 : Int32)), (.int (1 : Int32))]))) (fun t k => XS.iconst X11.here hx rfl (hb hby at_117) k) ?_
    refine Gl.st (B := (T11.setTop (mkF m 121 L13 []))) (fun t k => XS.icmpNo X11.here hx rfl (hb hby at_118) rfl (by decide) k) ?_
    refine Gl.st (B := (T11.setTop (mkF m 123 L13 [(.ref b9)]))) (fun t k => XS.aload X11.here hx rfl (hb hby at_121) (ldAt hL13 rfl) rfl k) ?_
    refine Gl.st (B := (T11.setTop (mkF m 124 L13 [.null, (.ref b9)]))) (fun t k => XS.aconstNull X11.here hx rfl (hb hby at_123) k) ?_
    obtain ⟨cq36, kq36, q36a, q36b, q36c⟩ := isOf hZ rfl fq11_0
    obtain ⟨_, _, ⟨T36, L36q, k36, n36⟩, -, X36, ⟨Lc36, hQ36, l36, y36, z36⟩, st36⟩ := X11.virtualBack hx (y := (⟨"com/example/stale_to_safe/staletosafe/policy/Atom$Bool", "equals", "(Ljava/lang/Object;)Z"⟩ : MethodName)) (z := (⟨"com/example/stale_to_safe/staletosafe/policy/Atom$Bool", "equals", "(Ljava/lang/Object;)Z"⟩ : MethodName)) hown (mvT hZ (tw hw 56 rfl)) (mvT hZ (tw hw 57 rfl)) (notFace_of_selects (args := #[]) (mvT hZ (tw hw 59 rfl))) (mvT hZ (tw hw 59 rfl)) (mvT hZ (tw hw 58 rfl)) (by decide) (backOf (W := 0) (rm10n l Z a0 hw [] b9 T11.heap n0 Zc12) hZ (tw hw 60 rfl) (tw hw 2 rfl) (by decide) (by decide)) q36a q36c (g := (mkF m 124 L13 [.null, (.ref b9)])) rfl (szAt hml hL13 rfl) (Steps.refl _) (argsL := [.null]) (rest := []) (lenOf pd_0_1 rfl) rfl (by show 2 * 0 + _ ≤ _; exact Nat.le_of_eq rfl) (hb hby at_124) (fun _ _ => ⟨rfl, rfl, (by decide : 1 + 0 ≤ _), (by decide : 1 + 0 ≤ _)⟩)
    dsimp only [Pt.U, Pt.locs, Pt.cells, Pt.slots] at X36 l36 y36 z36 st36 hQ36
    subst l36 y36 z36
    obtain ⟨rfl, N36q, eh36⟩ := hQ36
    have N36 := Fr.app N11 N36q
    refine Gl.st (B := (T36.setTop (mkF m 127 L13 [(.int (0 : Int32))]))) (fun t k => st36.trans k) ?_
    refine Gl.st (B := (T36.setTop (mkF m 130 L13 []))) (fun t k => XS.ifNo X36.here hx rfl (hb hby at_127) rfl (by decide) k) ?_
    refine Gl.st (B := (T36.setTop (mkF m 131 L13 [(.int (1 : Int32))]))) (fun t k => XS.iconst X36.here hx rfl (hb hby at_130) k) ?_
    refine Gl.st (B := (T36.setTop (mkF m 135 L13 [(.int (1 : Int32))]))) (fun t k => XS.goto X36.here hx rfl (pc0 := 131) (pc' := 135) rfl (hb hby at_131) (by decide) (by decide) k) ?_
    obtain ⟨fs, hr, hrun, hended, hRW⟩ := X36.leaveW hS0 (by rw [eh36]; exact (Nat.le_trans (Nat.le_trans (Nat.zero_le _) E9.1) Kc11.1)) (v := some (.int (nar .boolean (1 : Int32)))) (fun h => by rw [Bd.returns] at h; cases h)
    refine Gl.fin (retN X36 hx (t := .boolean) Bd.returns (by simp) (hb hby at_135) hr) hrun hended ⟨_, _, rfl, ?_, hRW.1, hRW.2.1, hRW.2.2.1, hRW.2.2.2.mono (by decide) (by decide)⟩
    show Q0 Z p1 p2 p3 p4 z_COMP0 h0 n0 _ T36.heap _
    rw [eh36]
    exact ⟨rfl, N36⟩
  · skip
    subst hk
    refine Gl.st (B := (T11.setTop (mkF m 44 L13 [(.int (2 : Int32))]))) (fun t k => XS.iload X11.here hx rfl (hb hby at_42) (ldAt hL13 rfl) k) ?_
    refine Gl.st (B := (T11.setTop (mkF m 115 L13 []))) (fun t k => XS.ifYes X11.here hx rfl (pc0 := 44) (pc' := 115) rfl (hb hby at_44) rfl (by decide) (by decide) (by decide) k) ?_
    refine Gl.st (B := (T11.setTop (mkF m 117 L13 [(.int (2 : Int32))]))) (fun t k => XS.iload X11.here hx rfl (hb hby at_115) (ldAt hL13 rfl) k) ?_
    refine Gl.st (B := (T11.setTop (mkF m 118 L13 [(.int (1 : Int32)), (.int (2 : Int32))]))) (fun t k => XS.iconst X11.here hx rfl (hb hby at_117) k) ?_
    refine Gl.st (B := (T11.setTop (mkF m 136 L13 []))) (fun t k => XS.icmpYes X11.here hx rfl (pc0 := 118) (pc' := 136) rfl (hb hby at_118) rfl (by decide) (by decide) (by decide) k) ?_
    refine Gl.st (B := (T11.setTop (mkF m 138 L13 [(.int (2 : Int32))]))) (fun t k => XS.iload X11.here hx rfl (hb hby at_136) (ldAt hL13 rfl) k) ?_
    refine Gl.st (B := (T11.setTop (mkF m 139 L13 [(.int (2 : Int32)), (.int (2 : Int32))]))) (fun t k => XS.iconst X11.here hx rfl (hb hby at_138) k) ?_
    refine Gl.st (B := (T11.setTop (mkF m 142 L13 []))) (fun t k => XS.icmpNo X11.here hx rfl (hb hby at_139) rfl (by decide) k) ?_
    obtain ⟨T37, h37, X37, e37, E37, A37, D37, -, st37⟩ := newO X11 hx hZ hown (tw hw 16 rfl) (tw hw 17 rfl) (tw hw 18 rfl) rfl (g := (mkF m 142 L13 [])) rfl (hb hby at_142) (by decide) (by decide)
    obtain ⟨b37, gq37⟩ : ∃ z, z = T11.heap.size := ⟨_, rfl⟩
    rw [← gq37] at A37 D37 st37
    have g_b37 : n0 ≤ b37 := Nat.le_trans Zc12 (Nat.le_of_eq gq37.symm)
    have lt_b37 := A37.lt
    have Zc38 : n0 ≤ h37.size := Nat.le_trans Zc12 E37.1
    have F37_text : Fld Z h37 b37 "com/example/stale_to_safe/staletosafe/policy/Atom$Text" "text" "Ljava/lang/String;" .null := D37 (Or.inr (tw hw 55 rfl)) (ty := (.object "java/lang/String")) (by decide)
    refine Gl.st (B := (T37.setTop (mkF m 145 L13 [(.ref b37)]))) st37 ?_
    refine Gl.st (B := (T37.setTop (mkF m 146 L13 [(.ref b37), (.ref b37)]))) (fun t k => XS.dup X37.here hx rfl (hb hby at_145) rfl rfl k) ?_
    refine Gl.st (B := (T37.setTop (mkF m 147 L13 [(.int p4), (.ref b37), (.ref b37)]))) (fun t k => XS.iloadN X37.here hx rfl (hb hby at_146) (ldAt hL13 rfl) k) ?_
    refine Gl.st (B := (T37.setTop (mkF m 150 L13 [(.int (255 : Int32)), (.int p4), (.ref b37), (.ref b37)]))) (fun t k => XS.sipush X37.here hx rfl (hb hby at_147) k) ?_
    refine Gl.st (B := (T37.setTop (mkF m 151 L13 [(.int (p4 &&& (255 : Int32))), (.ref b37), (.ref b37)]))) (fun t k => XS.iand X37.here hx rfl (hb hby at_150) rfl k) ?_
    refine Gl.st (B := (T37.setTop (mkF m 152 L13 [(.int ((p4 &&& (255 : Int32)).toUInt32.toUInt16.toUInt32.toInt32)), (.ref b37), (.ref b37)]))) (fun t k => XS.i2c X37.here hx rfl (hb hby at_151) rfl k) ?_
    obtain ⟨x152_39, hx152_39⟩ : ∃ z : Int32, z = ((p4 &&& (255 : Int32)).toUInt32.toUInt16.toUInt32.toInt32) := ⟨_, rfl⟩
    refine Gl.cast (B := (T37.setTop (mkF m 152 L13 [(.int x152_39), (.ref b37), (.ref b37)]))) (by rw [hx152_39]) ?_
    have c41 := ((own_sta_keep (S_COMP0.ext E9) Kc11 (allS (own_exa_plain A9) all0)).ext E37)
    have hp152_42 : ¬ ((255 : Int32) < x152_39) := own_0_hp152_42 p4 x152_39 hx152_39 
    obtain ⟨_, _, ⟨T40, L40q, k40, n40⟩, -, X40, ⟨Lc40, hQ40, l40, y40, z40⟩, st40⟩ := Jvm.LawKit.callS X37 hx (y := (⟨"java/lang/String", "valueOf", "(C)Ljava/lang/String;"⟩ : MethodName)) hown (mvT hZ (tw hw 19 rfl)) (mvT hZ (tw hw 20 rfl)) (mvT hZ (tw hw 21 rfl)) (mvT hZ (tw hw 22 rfl)) (by decide) (backOf (W := 2) (rm4 l Z a0 hw [] x152_39 z_COMP0 h37 n0 Zc38 c41 hr152_hq3 hp152_42) hZ (tw hw 22 rfl) (tw hw 21 rfl) (by decide) (by decide)) (g := (mkF m 152 L13 [(.int x152_39), (.ref b37), (.ref b37)])) rfl (szAt hml hL13 rfl) (argsL := [(.int x152_39)]) (rest := [(.ref b37), (.ref b37)]) (lenOf pd_0_2 rfl) rfl (by show 2 * 0 + _ ≤ _; exact Nat.le_of_eq rfl) (hb hby at_152) (fun _ _ => ⟨rfl, e37, (by decide : 2 + 2 ≤ _), (by decide : 2 + 5 ≤ _)⟩)
    dsimp only [Pt.U, Pt.locs, Pt.cells, Pt.slots] at X40 l40 y40 z40 st40 hQ40
    subst l40 y40 z40
    obtain ⟨b40_t0, b40_t1, k40_kx_t1, rfl, N40q, Kc40, fq40_0, fq40_1, fq40_2, fq40_3, fq40_4, fq40_5, fq40_6⟩ := hQ40
    have g_b40_t0 : n0 ≤ b40_t0 := Nat.le_trans Zc38 fq40_0
    have lt_b40_t0 := fq40_2.lt
    have g_b40_t1 : n0 ≤ b40_t1 := Nat.le_trans Zc38 fq40_1
    have lt_b40_t1 := fq40_5.lt
    have Zc43 : n0 ≤ T40.heap.size := Nat.le_trans Zc38 Kc40.1
    have N40 := Fr.app N11 N40q
    refine Gl.st (B := (T40.setTop (mkF m 155 L13 [(.ref b40_t0), (.ref b37), (.ref b37)]))) (fun t k => st40 t k) ?_
    have c45 := (F37_text.keep Kc40 nin0)
    have c46 := (A37.keep Kc40)
    obtain ⟨_, _, ⟨T44, L44q, k44, n44⟩, -, X44, hs44, gr44, ⟨Lc44, hQ44, l44, y44, z44⟩, st44⟩ := X40.specialBackS hx (y := (⟨"com/example/stale_to_safe/staletosafe/policy/Atom$Text", "<init>", "(Ljava/lang/String;)V"⟩ : MethodName)) rfl hown (mvT hZ (tw hw 43 rfl)) (mvT hZ (tw hw 44 rfl)) (mvT hZ (tw hw 45 rfl)) (by decide) (backOfS (W := 1) (rm8 l Z a0 hw [] b37 b40_t0 .null T40.heap n0 Zc43 c45 c46 g_b37) hZ (tw hw 45 rfl) (tw hw 18 rfl) (by decide) (by decide)) (g := (mkF m 155 L13 [(.ref b40_t0), (.ref b37), (.ref b37)])) rfl (szAt hml hL13 rfl) (Steps.refl _) (a := b37) (argsL := [(.ref b40_t0)]) (rest := [(.ref b37)]) (lenOf pd_0_3 rfl) rfl (by show 2 * 0 + _ ≤ _; exact Nat.le_of_eq rfl) (hb hby at_155) (fun _ _ => ⟨rfl, rfl, (by decide : 4 + 2 ≤ _), (by decide : 7 + 20 ≤ _)⟩)
    dsimp only [Pt.U, Pt.locs, Pt.cells, Pt.slots] at X44 l44 y44 z44 st44 hQ44 hs44 gr44
    subst l44 y44 z44
    obtain ⟨X44, hS44, hZ, hown⟩ := rebS hS0 (n1 := T40.heap.size) (Nat.le_trans (Nat.le_trans (Nat.le_trans (Nat.le_trans (Nat.zero_le _) E9.1) Kc11.1) E37.1) Kc40.1) X44 hs44 gr44 hZ hown
    obtain ⟨rfl, N44q, Kc44, fq44_0, fq44_1⟩ := hQ44
    have Zc47 : n0 ≤ T44.heap.size := Nat.le_trans Zc43 Kc44.1
    have N44 := Fr.app N40 N44q
    refine Gl.st (B := (T44.setTop (mkF m 158 L13 [(.ref b37)]))) (fun t k => st44.trans k) ?_
    obtain ⟨L48, hL48⟩ : ∃ z : Array Slot, z = #[.val (.int p1), .val (.int p2), .val (.int p3), .val (.int p4), .val (.int v11_s0_2), .val (.int v24_s0_5), .val (.int (2 : Int32)), .val (.ref b9), .val (.ref b37), .unset] := ⟨_, rfl⟩
    refine Gl.st (B := (T44.setTop (mkF m 160 L48 []))) (fun t k => XS.astore X44.here hx rfl (hb hby at_158) rfl rfl (l' := L48) (stAt hL13 hL48 rfl rfl) k) ?_
    refine Gl.st (B := (T44.setTop (mkF m 162 L48 [(.ref b9)]))) (fun t k => XS.aload X44.here hx rfl (hb hby at_160) (ldAt hL48 rfl) rfl k) ?_
    refine Gl.st (B := (T44.setTop (mkF m 164 L48 [(.ref b37), (.ref b9)]))) (fun t k => XS.aload X44.here hx rfl (hb hby at_162) (ldAt hL48 rfl) rfl k) ?_
    have c50 := (((fq11_0.ext E37).keep Kc40).keep Kc44)
    obtain ⟨cq49, kq49, q49a, q49b, q49c⟩ := isOf hZ rfl c50
    obtain ⟨_, _, ⟨T49, L49q, k49, n49⟩, -, X49, ⟨Lc49, hQ49, l49, y49, z49⟩, st49⟩ := X44.virtualBack hx (y := (⟨"com/example/stale_to_safe/staletosafe/policy/Atom$Bool", "equals", "(Ljava/lang/Object;)Z"⟩ : MethodName)) (z := (⟨"com/example/stale_to_safe/staletosafe/policy/Atom$Bool", "equals", "(Ljava/lang/Object;)Z"⟩ : MethodName)) hown (mvT hZ (tw hw 56 rfl)) (mvT hZ (tw hw 57 rfl)) (notFace_of_selects (args := #[]) (mvT hZ (tw hw 59 rfl))) (mvT hZ (tw hw 59 rfl)) (mvT hZ (tw hw 58 rfl)) (by decide) (backOf (W := 0) (rm10t l Z a0 hw [] b9 b37 T44.heap n0 Zc47 fq44_0) hZ (tw hw 60 rfl) (tw hw 2 rfl) (by decide) (by decide)) q49a q49c (g := (mkF m 164 L48 [(.ref b37), (.ref b9)])) rfl (szAt hml hL48 rfl) (Steps.refl _) (argsL := [(.ref b37)]) (rest := []) (lenOf pd_0_1 rfl) rfl (by show 2 * 0 + _ ≤ _; exact Nat.le_of_eq rfl) (hb hby at_164) (fun _ _ => ⟨rfl, rfl, (by decide : 6 + 0 ≤ _), (by decide : 27 + 0 ≤ _)⟩)
    dsimp only [Pt.U, Pt.locs, Pt.cells, Pt.slots] at X49 l49 y49 z49 st49 hQ49
    subst l49 y49 z49
    obtain ⟨rfl, N49q, eh49⟩ := hQ49
    have N49 := Fr.app N44 N49q
    refine Gl.st (B := (T49.setTop (mkF m 167 L48 [(.int (0 : Int32))]))) (fun t k => st49.trans k) ?_
    refine Gl.st (B := (T49.setTop (mkF m 170 L48 []))) (fun t k => XS.ifNo X49.here hx rfl (hb hby at_167) rfl (by decide) k) ?_
    refine Gl.st (B := (T49.setTop (mkF m 171 L48 [(.int (1 : Int32))]))) (fun t k => XS.iconst X49.here hx rfl (hb hby at_170) k) ?_
    refine Gl.st (B := (T49.setTop (mkF m 175 L48 [(.int (1 : Int32))]))) (fun t k => XS.goto X49.here hx rfl (pc0 := 171) (pc' := 175) rfl (hb hby at_171) (by decide) (by decide) k) ?_
    obtain ⟨fs, hr, hrun, hended, hRW⟩ := X49.leaveW hS44 (by rw [eh49]; exact (Nat.le_refl _)) (v := some (.int (nar .boolean (1 : Int32)))) (fun h => by rw [Bd.returns] at h; cases h)
    refine Gl.fin (retN X49 hx (t := .boolean) Bd.returns (by simp) (hb hby at_175) hr) hrun hended ⟨_, _, rfl, ?_, hRW.1, hRW.2.1, hRW.2.2.1, hRW.2.2.2.mono (by decide) (by decide)⟩
    show Q0 Z p1 p2 p3 p4 z_COMP0 h0 n0 _ T49.heap _
    rw [eh49]
    exact ⟨rfl, N49⟩
  · skip
    subst hk
    refine Gl.st (B := (T11.setTop (mkF m 44 L13 [(.int (3 : Int32))]))) (fun t k => XS.iload X11.here hx rfl (hb hby at_42) (ldAt hL13 rfl) k) ?_
    refine Gl.st (B := (T11.setTop (mkF m 115 L13 []))) (fun t k => XS.ifYes X11.here hx rfl (pc0 := 44) (pc' := 115) rfl (hb hby at_44) rfl (by decide) (by decide) (by decide) k) ?_
    refine Gl.st (B := (T11.setTop (mkF m 117 L13 [(.int (3 : Int32))]))) (fun t k => XS.iload X11.here hx rfl (hb hby at_115) (ldAt hL13 rfl) k) ?_
    refine Gl.st (B := (T11.setTop (mkF m 118 L13 [(.int (1 : Int32)), (.int (3 : Int32))]))) (fun t k => XS.iconst X11.here hx rfl (hb hby at_117) k) ?_
    refine Gl.st (B := (T11.setTop (mkF m 136 L13 []))) (fun t k => XS.icmpYes X11.here hx rfl (pc0 := 118) (pc' := 136) rfl (hb hby at_118) rfl (by decide) (by decide) (by decide) k) ?_
    refine Gl.st (B := (T11.setTop (mkF m 138 L13 [(.int (3 : Int32))]))) (fun t k => XS.iload X11.here hx rfl (hb hby at_136) (ldAt hL13 rfl) k) ?_
    refine Gl.st (B := (T11.setTop (mkF m 139 L13 [(.int (2 : Int32)), (.int (3 : Int32))]))) (fun t k => XS.iconst X11.here hx rfl (hb hby at_138) k) ?_
    refine Gl.st (B := (T11.setTop (mkF m 176 L13 []))) (fun t k => XS.icmpYes X11.here hx rfl (pc0 := 139) (pc' := 176) rfl (hb hby at_139) rfl (by decide) (by decide) (by decide) k) ?_
    refine Gl.st (B := (T11.setTop (mkF m 178 L13 [(.ref b9)]))) (fun t k => XS.aload X11.here hx rfl (hb hby at_176) (ldAt hL13 rfl) rfl k) ?_
    refine Gl.st (B := (T11.setTop (mkF m 180 L13 [(.ref b9), (.ref b9)]))) (fun t k => XS.aload X11.here hx rfl (hb hby at_178) (ldAt hL13 rfl) rfl k) ?_
    obtain ⟨cq51, kq51, q51a, q51b, q51c⟩ := isOf hZ rfl fq11_0
    obtain ⟨_, _, ⟨T51, L51q, k51, n51⟩, -, X51, ⟨Lc51, hQ51, l51, y51, z51⟩, st51⟩ := X11.virtualBack hx (y := (⟨"com/example/stale_to_safe/staletosafe/policy/Atom$Bool", "equals", "(Ljava/lang/Object;)Z"⟩ : MethodName)) (z := (⟨"com/example/stale_to_safe/staletosafe/policy/Atom$Bool", "equals", "(Ljava/lang/Object;)Z"⟩ : MethodName)) hown (mvT hZ (tw hw 56 rfl)) (mvT hZ (tw hw 57 rfl)) (notFace_of_selects (args := #[]) (mvT hZ (tw hw 59 rfl))) (mvT hZ (tw hw 59 rfl)) (mvT hZ (tw hw 58 rfl)) (by decide) (backOf (W := 0) (rm10 l Z a0 hw [] b9 b9 (nar .boolean v11_s0_2) (nar .boolean v11_s0_2) T11.heap n0 Zc12 fq11_0 fq11_1 fq11_1) hZ (tw hw 60 rfl) (tw hw 2 rfl) (by decide) (by decide)) q51a q51c (g := (mkF m 180 L13 [(.ref b9), (.ref b9)])) rfl (szAt hml hL13 rfl) (Steps.refl _) (argsL := [(.ref b9)]) (rest := []) (lenOf pd_0_1 rfl) rfl (by show 2 * 0 + _ ≤ _; exact Nat.le_of_eq rfl) (hb hby at_180) (fun _ _ => ⟨rfl, rfl, (by decide : 1 + 0 ≤ _), (by decide : 1 + 0 ≤ _)⟩)
    dsimp only [Pt.U, Pt.locs, Pt.cells, Pt.slots] at X51 l51 y51 z51 st51 hQ51
    subst l51 y51 z51
    obtain ⟨rfl, N51q, eh51⟩ := hQ51
    have N51 := Fr.app N11 N51q
    refine Gl.st (B := (T51.setTop (mkF m 183 L13 [(.int ((if (nar .boolean v11_s0_2) = (nar .boolean v11_s0_2) then (1 : Int32) else (0 : Int32))))]))) (fun t k => st51.trans k) ?_
    obtain ⟨r180_52, hr180_52⟩ : ∃ z : Int32, z = ((if (nar .boolean v11_s0_2) = (nar .boolean v11_s0_2) then (1 : Int32) else (0 : Int32))) := ⟨_, rfl⟩
    refine Gl.cast (B := (T51.setTop (mkF m 183 L13 [(.int r180_52)]))) (by rw [hr180_52]) ?_
    obtain ⟨fs, hr, hrun, hended, hRW⟩ := X51.leaveW hS0 (by rw [eh51]; exact (Nat.le_trans (Nat.le_trans (Nat.zero_le _) E9.1) Kc11.1)) (v := some (.int (nar .boolean r180_52))) (fun h => by rw [Bd.returns] at h; cases h)
    refine Gl.fin (retN X51 hx (t := .boolean) Bd.returns (by simp) (hb hby at_183) hr) hrun hended ⟨_, _, rfl, ?_, hRW.1, hRW.2.1, hRW.2.2.1, hRW.2.2.2.mono (by decide) (by decide)⟩
    show Q0 Z p1 p2 p3 p4 z_COMP0 h0 n0 _ T51.heap _
    rw [eh51]
    exact ⟨(by rw [hr180_52, if_pos rfl]; rfl), N51⟩
set_option maxRecDepth 65536 in
set_option maxHeartbeats 40000000 in
theorem comes_1 {Post : Tables → Env → Array Value → State → Outcome → State → Prop} (hpost : ∀ tb e args s v u, (limb_1_1.after args s (.returned v) u = true ∧ limb_1_2.after args s (.returned v) u = true ∧ True) → ReturnedEndW s (.returned v) u (Jvm.fieldLocs frame_1_writes args s ++ Jvm.arrayLocs frame_1_arrays args s ++ Jvm.staticLocs frame_1_statics s) 24 1152 → Post tb e args s (.returned v) u) :
    ArmFor flags0 classFile x code maxLocals ret World_1 tables_1 room_1 Calls_1 rest_1 Pre_1 Post := by
  intro l hfl _ _ p e ha hc hk s m args below hf hA hF happ hP
  obtain ⟨hcalls, hrest, hpre⟩ := hP
  obtain ⟨-, -, -, hnamed, -, -, -, hat⟩ := (Spec.applies_iff hf).mp happ
  obtain ⟨hg, hn⟩ := and_e (Cond.before_iff.mp (show (Jvm.Cond.and given_1 narrow_1).before args s = true from hpre))
  obtain ⟨g1, g2⟩ := and_e hg
  obtain ⟨g3, g4⟩ := and_e g2
  obtain ⟨g5, g6⟩ := and_e g4
  obtain ⟨g7, g8⟩ := and_e g6
  obtain ⟨w0, w1, w2, w3, rfl⟩ : ∃ w0 w1 w2 w3 : Value, args = #[w0, w1, w2, w3] := by
    have hs : args.size = 4 := by simpa [Cond.value, given_1] using g1
    obtain ⟨L⟩ := args
    match L, hs with
    | [w0, w1, w2, w3], _ => exact ⟨w0, w1, w2, w3, rfl⟩
  have hw := fun d (hd : d ∈ tables_1) => atoms_spec (ws := Jvm.Cond.code x code maxLocals ret :: tables_1) hat d (List.mem_cons_of_mem _ hd)
  have hfit : Fit s := fun {y c} hc i hi => by
    obtain ⟨ha, rfl⟩ := Array.getElem?_eq_some_iff.mp hc
    have q := List.all_eq_true.mp ((Array.all_eq_true_iff_forall_mem.mp hF) _ (Array.getElem_mem ha)) i (List.mem_range.mpr hi)
    simpa [Array.getElem?_eq_getElem hi] using q
  obtain ⟨hsets, hown0⟩ := atoms_of _ (rest_1_c_eq ▸ (show rest_1_c.before _ s = true from hrest))
  have hr0 := Cond.before_iff.mp hown0
  obtain ⟨i0, ei0⟩ := is_v g3
  obtain rfl : w0 = (.int i0) := Option.some.inj ei0
  obtain ⟨i1, ei1⟩ := is_v g5
  obtain rfl : w1 = (.int i1) := Option.some.inj ei1
  obtain ⟨i2, ei2⟩ := is_v g7
  obtain rfl : w2 = (.int i2) := Option.some.inj ei2
  obtain ⟨i3, ei3⟩ := is_v g8
  obtain rfl : w3 = (.int i3) := Option.some.inj ei3
  have nzc := not_v (Cond.before_iff.mp (hsets _ (List.mem_of_getElem? (i := 2) rfl)))
  obtain ⟨zc, ezc⟩ := is_v (Cond.before_iff.mp (hsets _ (List.mem_of_getElem? (i := 1) rfl)))
  have Szc : Sta s s.heap "java/lang/String" "COMPACT_STRINGS" "Z" (.int zc) := Sta.start ezc (Or.inl (hsets _ (List.mem_of_getElem? (i := 0) rfl)))
  have czc : ¬ (zc = (0 : Int32)) := gotF (Cond.eq_ints ezc (Term.int_eval (0))) nzc
  obtain ⟨n, o, h1, h2, h3, _, L, rfl, ⟨rfl, N⟩, hq⟩ := rm0 l s _ hw tables_1 i0 i1 i2 i3 zc s.heap s.heap.size (Nat.le_refl _) Szc czc p e ha hc hk s m _ below hf ((Spec.applies_iff_loose hf).mp happ).1 ⟨rfl, State.Warmed39.refl s, rfl⟩ trivial
  refine ⟨n, _, h1, h2, h3, hpost _ _ _ _ _ _ ⟨Cond.after_iff.mpr rfl, Cond.after_iff.mpr (eq_i res_at (Term.int_eval (1)) rfl), trivial⟩ ⟨hq.1, hq.2.1, hq.2.2.1, (hq.2.2.2.sift fun y hy => Or.inr (N y hy)).mono (by decide) (by decide)⟩⟩
theorem main_1_1 : Claimed_1_1 := comes_1 fun _ _ _ _ _ _ h hF => ⟨h.1, hF⟩
theorem main_1_2 : Claimed_1_2 := comes_1 fun _ _ _ _ _ _ h hF => ⟨h.2.1, hF⟩
end Jvm.Pilot.@@N@@
namespace Jvm.Pilot.@@N@@
open Jvm Jvm.ClassFile Sem Op Lib Jvm.Free Jvm.Stand Jvm.Pilot.@@N@@.Jvm.D
/-! MADE BY PROGRAM (witnessworld.py) out of the Statement's table words and the real class files: 21 classes; the members and pool entries that the words name. The judged class is class 1, her method 1. -/
namespace start1
open Jvm.ClassFile
def u (s : String) : CpInfo := .utf8 (stringToUtf16 s)
/-- a pool by its gaps: so many unusable entries, then the entry; so many at the end -/
def gap : Nat → List CpInfo → List CpInfo
  | 0, r => r
  | n + 1, r => .unusable :: gap n r
def poolList (es : List (Nat × CpInfo)) (last : Nat) : List CpInfo := es.foldr (fun e r => gap e.1 (e.2 :: r)) (gap last [])
def pool (es : List (Nat × CpInfo)) (last : Nat) : Array CpInfo := ⟨poolList es last⟩
def fileOf (pool : Array CpInfo) (this : Nat) (attrs : Array Attribute := #[]) (ms : Array MethodInfo := #[]) (fl : Nat := 33) (sup : Nat := 0) (ifs : Array Nat := #[]) (fds : Array FieldInfo := #[]) : ClassFile where
  minorVersion := 0
  majorVersion := 65
  constantPool := pool
  accessFlags := fl
  thisClass := this
  superClass := sup
  interfaces := ifs
  fields := fds
  methods := ms
  attributes := attrs
def plain (name : String) (sup : Option ClassId) : Class where
  name := name
  kind := .ordinary
  loader := none
  accessFlags := 33
  super := sup
  interfaces := #[]
  cf := none
  fields := #[]
  methods := #[]
  instanceTypes := #[]
  staticTypes := #[]
  resolved := #[]
  callSites := []
  init := .initialized
  statics := none
  mirror := none

def pool0 : Array CpInfo := pool [(5, u "<init>"), (0, u "()V"), (1, .class_ 10), (1, u "java/lang/Object")] 113

def k0c0 : Code := { maxStack := 0, maxLocals := 1, code := object_method_1_code, exceptionTable := #[], attributes := #[] }
def k0m0 : Method := { name := "<init>", desc := "()V", sig := { parameters := [], returnType := none }, accessFlags := 1, code := some k0c0 }
/-- java/lang/Object -/
def k0 : Class := { plain "java/lang/Object" none with
  accessFlags := 33
  interfaces := #[]
  cf := some (fileOf pool0 8 #[] #[{ accessFlags := 1, nameIndex := 5, descriptorIndex := 6, attributes := #[] }] 33 0 #[] #[])
  fields := #[]
  methods := #[k0m0]
  instanceTypes := #[]
  staticTypes := #[]
  resolved := Array.replicate 124 none
  statics := none }

def pool1 : Array CpInfo := pool [(2, .class_ 4), (1, u "java/lang/Object"), (0, u "<init>"), (0, u "()V"), (0, .class_ 8), (0, u "com/example/stale_to_safe/staletosafe/policy/Atom$Bool"), (0, .methodref 7 10), (0, .nameAndType 5 11), (0, u "(Z)V"), (0, .methodref 7 13), (0, .nameAndType 14 15), (0, u "equals"), (0, u "(Ljava/lang/Object;)Z"), (0, .class_ 17), (0, u "com/example/stale_to_safe/staletosafe/policy/Atom$Text"), (0, .methodref 19 20), (0, .class_ 21), (0, .nameAndType 22 23), (0, u "java/lang/String"), (0, u "valueOf"), (0, u "(C)Ljava/lang/String;"), (0, .methodref 16 25), (0, .nameAndType 5 26), (0, u "(Ljava/lang/String;)V"), (0, .class_ 28), (0, u "com/example/stale_to_safe/staletosafe/policy/BoolEqualsPinLaw"), (2, u "law"), (0, u "(IIII)Z")] 8

def k1m0 : Method := { name := "<init>", desc := "()V", sig := { parameters := [], returnType := none }, accessFlags := 1, code := none }
def k1c1 : Code := { maxStack := 4, maxLocals := 10, code := code, exceptionTable := #[], attributes := #[] }
def k1m1 : Method := { name := "law", desc := "(IIII)Z", sig := { parameters := [.int, .int, .int, .int], returnType := some .boolean }, accessFlags := 9, code := some k1c1 }
/-- com/example/stale_to_safe/staletosafe/policy/BoolEqualsPinLaw -/
def k1 : Class := { plain "com/example/stale_to_safe/staletosafe/policy/BoolEqualsPinLaw" (some 0) with
  accessFlags := 49
  interfaces := #[]
  cf := some (fileOf pool1 27 #[] #[{ accessFlags := 1, nameIndex := 5, descriptorIndex := 6, attributes := #[] }, { accessFlags := 9, nameIndex := 31, descriptorIndex := 32, attributes := #[] }] 49 2 #[] #[])
  fields := #[]
  methods := #[k1m0, k1m1]
  instanceTypes := #[]
  staticTypes := #[]
  resolved := Array.replicate 41 none
  statics := none }

def pool2 : Array CpInfo := pool [(1, .methodref 2 3), (0, .class_ 4), (0, .nameAndType 5 6), (0, u "java/lang/Object"), (0, u "<init>"), (0, u "()V"), (0, .class_ 8), (0, u "java/lang/Record")] 13

def k2c0 : Code := { maxStack := 1, maxLocals := 1, code := jdk_30_method_1_code, exceptionTable := #[], attributes := #[] }
def k2m0 : Method := { name := "<init>", desc := "()V", sig := { parameters := [], returnType := none }, accessFlags := 4, code := some k2c0 }
/-- java/lang/Record -/
def k2 : Class := { plain "java/lang/Record" (some 0) with
  accessFlags := 1057
  interfaces := #[]
  cf := some (fileOf pool2 7 #[] #[{ accessFlags := 4, nameIndex := 5, descriptorIndex := 6, attributes := #[] }] 1057 2 #[] #[])
  fields := #[]
  methods := #[k2m0]
  instanceTypes := #[]
  staticTypes := #[]
  resolved := Array.replicate 22 none
  statics := none }

def pool3 : Array CpInfo := pool [(1, .class_ 2), (0, u "com/example/stale_to_safe/staletosafe/policy/Atom"), (0, .class_ 4), (0, u "java/lang/Object"), (3, .class_ 9), (0, u "com/example/stale_to_safe/staletosafe/policy/Atom$Bool"), (0, .class_ 11), (0, u "com/example/stale_to_safe/staletosafe/policy/Atom$Decimal"), (0, .class_ 13), (0, u "com/example/stale_to_safe/staletosafe/policy/Atom$Text")] 5

/-- com/example/stale_to_safe/staletosafe/policy/Atom -/
def k3 : Class := { plain "com/example/stale_to_safe/staletosafe/policy/Atom" (some 0) with
  accessFlags := 1537
  interfaces := #[]
  cf := some (fileOf pool3 1 #[.nestMembers #[8, 10, 12]] #[] 1537 3 #[] #[])
  fields := #[]
  methods := #[]
  instanceTypes := #[]
  staticTypes := #[]
  resolved := Array.replicate 19 none
  statics := none }

def pool4 : Array CpInfo := pool [(1, .methodref 2 3), (0, .class_ 4), (0, .nameAndType 5 6), (0, u "java/lang/Record"), (0, u "<init>"), (0, u "()V"), (0, .fieldref 8 9), (0, .class_ 10), (0, .nameAndType 11 12), (0, u "com/example/stale_to_safe/staletosafe/policy/Atom$Bool"), (0, u "value"), (0, u "Z"), (10, .class_ 24), (0, u "com/example/stale_to_safe/staletosafe/policy/Atom"), (0, u "(Z)V"), (3, u "equals"), (0, u "(Ljava/lang/Object;)Z")] 25

def k4c0 : Code := { maxStack := 2, maxLocals := 2, code := prog_25_method_1_code, exceptionTable := #[], attributes := #[] }
def k4m0 : Method := { name := "<init>", desc := "(Z)V", sig := { parameters := [.boolean], returnType := none }, accessFlags := 1, code := some k4c0 }
def k4c1 : Code := { maxStack := 2, maxLocals := 3, code := prog_25_method_2_code, exceptionTable := #[], attributes := #[] }
def k4m1 : Method := { name := "equals", desc := "(Ljava/lang/Object;)Z", sig := { parameters := [(.object "java/lang/Object")], returnType := some .boolean }, accessFlags := 1, code := some k4c1 }
/-- com/example/stale_to_safe/staletosafe/policy/Atom$Bool -/
def k4 : Class := { plain "com/example/stale_to_safe/staletosafe/policy/Atom$Bool" (some 2) with
  accessFlags := 49
  interfaces := #[3]
  cf := some (fileOf pool4 8 #[.nestHost 23] #[{ accessFlags := 1, nameIndex := 5, descriptorIndex := 25, attributes := #[] }, { accessFlags := 1, nameIndex := 29, descriptorIndex := 30, attributes := #[] }] 49 2 #[23] #[{ accessFlags := 18, nameIndex := 11, descriptorIndex := 12, attributes := #[] }])
  fields := #[{ name := "value", type := .boolean, accessFlags := 18, slot := 0, constantValue := 0 }]
  methods := #[k4m0, k4m1]
  instanceTypes := #[.boolean]
  staticTypes := #[]
  resolved := Array.replicate 56 none
  statics := none }

def pool5 : Array CpInfo := pool [(1, .methodref 2 3), (0, .class_ 4), (0, .nameAndType 5 6), (0, u "java/lang/Record"), (0, u "<init>"), (0, u "()V"), (0, .string 8), (0, u "text"), (0, .methodref 10 11), (0, .class_ 12), (0, .nameAndType 13 14), (0, u "java/util/Objects"), (0, u "requireNonNull"), (0, u "(Ljava/lang/Object;Ljava/lang/String;)Ljava/lang/Object;"), (0, .fieldref 16 17), (0, .class_ 18), (0, .nameAndType 8 19), (0, u "com/example/stale_to_safe/staletosafe/policy/Atom$Text"), (0, u "Ljava/lang/String;"), (14, .class_ 35), (0, u "com/example/stale_to_safe/staletosafe/policy/Atom"), (0, u "(Ljava/lang/String;)V")] 25

def k5c0 : Code := { maxStack := 2, maxLocals := 2, code := prog_27_method_1_code, exceptionTable := #[], attributes := #[] }
def k5m0 : Method := { name := "<init>", desc := "(Ljava/lang/String;)V", sig := { parameters := [(.object "java/lang/String")], returnType := none }, accessFlags := 1, code := some k5c0 }
/-- com/example/stale_to_safe/staletosafe/policy/Atom$Text -/
def k5 : Class := { plain "com/example/stale_to_safe/staletosafe/policy/Atom$Text" (some 2) with
  accessFlags := 49
  interfaces := #[3]
  cf := some (fileOf pool5 16 #[.nestHost 34] #[{ accessFlags := 1, nameIndex := 5, descriptorIndex := 36, attributes := #[] }] 49 2 #[34] #[{ accessFlags := 18, nameIndex := 8, descriptorIndex := 19, attributes := #[] }])
  fields := #[{ name := "text", type := (.object "java/lang/String"), accessFlags := 18, slot := 0, constantValue := 0 }]
  methods := #[k5m0]
  instanceTypes := #[(.object "java/lang/String")]
  staticTypes := #[]
  resolved := Array.replicate 62 none
  statics := none }

def pool6 : Array CpInfo := pool [(1, .class_ 2), (0, u "java/io/Serializable"), (0, .class_ 4), (0, u "java/lang/Object")] 2

/-- java/io/Serializable -/
def k6 : Class := { plain "java/io/Serializable" (some 0) with
  accessFlags := 1537
  interfaces := #[]
  cf := some (fileOf pool6 1 #[] #[] 1537 3 #[] #[])
  fields := #[]
  methods := #[]
  instanceTypes := #[]
  staticTypes := #[]
  resolved := Array.replicate 7 none
  statics := none }

def pool7 : Array CpInfo := pool [(1, .class_ 2), (0, u "java/lang/Comparable"), (0, .class_ 4), (0, u "java/lang/Object")] 7

/-- java/lang/Comparable -/
def k7 : Class := { plain "java/lang/Comparable" (some 0) with
  accessFlags := 1537
  interfaces := #[]
  cf := some (fileOf pool7 1 #[] #[] 1537 3 #[] #[])
  fields := #[]
  methods := #[]
  instanceTypes := #[]
  staticTypes := #[]
  resolved := Array.replicate 12 none
  statics := none }

def pool8 : Array CpInfo := pool [(2, .class_ 4), (1, u "java/lang/CharSequence"), (42, .class_ 48), (0, u "java/lang/CharSequence$1CodePointIterator"), (10, .class_ 60), (0, u "java/lang/CharSequence$1CharIterator"), (5, .class_ 67), (0, u "java/lang/Object")] 63

/-- java/lang/CharSequence -/
def k8 : Class := { plain "java/lang/CharSequence" (some 0) with
  accessFlags := 1537
  interfaces := #[]
  cf := some (fileOf pool8 2 #[.nestMembers #[47, 59]] #[] 1537 66 #[] #[])
  fields := #[]
  methods := #[]
  instanceTypes := #[]
  staticTypes := #[]
  resolved := Array.replicate 131 none
  statics := none }

def pool9 : Array CpInfo := pool [(1, .class_ 2), (0, u "java/lang/constant/Constable"), (0, .class_ 4), (0, u "java/lang/Object")] 6

/-- java/lang/constant/Constable -/
def k9 : Class := { plain "java/lang/constant/Constable" (some 0) with
  accessFlags := 1537
  interfaces := #[]
  cf := some (fileOf pool9 1 #[] #[] 1537 3 #[] #[])
  fields := #[]
  methods := #[]
  instanceTypes := #[]
  staticTypes := #[]
  resolved := Array.replicate 11 none
  statics := none }

def pool10 : Array CpInfo := pool [(1, .class_ 2), (0, u "java/lang/constant/ConstantDesc"), (0, .class_ 4), (0, u "java/lang/Object")] 32

/-- java/lang/constant/ConstantDesc -/
def k10 : Class := { plain "java/lang/constant/ConstantDesc" (some 0) with
  accessFlags := 1537
  interfaces := #[]
  cf := some (fileOf pool10 1 #[] #[] 1537 3 #[] #[])
  fields := #[]
  methods := #[]
  instanceTypes := #[]
  staticTypes := #[]
  resolved := Array.replicate 37 none
  statics := none }

def pool11 : Array CpInfo := pool [(1, .methodref 2 3), (0, .class_ 4), (0, .nameAndType 5 6), (0, u "java/lang/Object"), (0, u "<init>"), (0, u "()V"), (2, .fieldref 10 11), (0, .class_ 12), (0, .nameAndType 13 14), (0, u "java/lang/String"), (0, u "value"), (0, u "[B"), (0, .fieldref 10 16), (0, .nameAndType 17 18), (0, u "coder"), (0, u "B"), (2, u "hash"), (0, u "I"), (2, u "hashIsZero"), (0, u "Z"), (11, .fieldref 10 39), (0, .nameAndType 40 26), (0, u "COMPACT_STRINGS"), (12, u "toBytes"), (53, .class_ 109), (1, u "java/lang/StringLatin1"), (99, .methodref 10 210), (0, .nameAndType 5 211), (0, u "([BB)V"), (157, u "(C)Z"), (205, .class_ 576), (0, u "java/lang/CharSequence"), (22, u "CASE_INSENSITIVE_ORDER"), (0, u "Ljava/util/Comparator;"), (181, u "valueOf"), (0, u "(C)Ljava/lang/String;"), (231, .methodref 107 1016), (0, .nameAndType 1017 369), (0, u "canEncode"), (0, .methodref 107 1019), (0, .nameAndType 53 1020), (0, u "(C)[B"), (80, u "serialPersistentFields"), (0, u "[Ljava/io/ObjectStreamField;"), (0, .class_ 1104), (0, u "java/lang/String$CaseInsensitiveComparator"), (1, .class_ 1107), (0, u "java/io/Serializable"), (0, .class_ 1109), (0, u "java/lang/Comparable"), (0, .class_ 1111), (0, u "java/lang/constant/Constable"), (0, .class_ 1113), (0, u "java/lang/constant/ConstantDesc"), (2, u "serialVersionUID"), (0, u "J"), (3, u "REPL"), (0, u "C"), (2, u "LATIN1"), (1, u "UTF16")] 323

def k11m0 : Method := { name := "<init>", desc := "()V", sig := { parameters := [], returnType := none }, accessFlags := 1, code := none }
def k11c1 : Code := { maxStack := 4, maxLocals := 1, code := jdk_42_method_139_code, exceptionTable := #[], attributes := #[] }
def k11m1 : Method := { name := "valueOf", desc := "(C)Ljava/lang/String;", sig := { parameters := [.char], returnType := some (.object "java/lang/String") }, accessFlags := 9, code := some k11c1 }
def k11c2 : Code := { maxStack := 2, maxLocals := 3, code := jdk_42_method_151_code, exceptionTable := #[], attributes := #[] }
def k11m2 : Method := { name := "<init>", desc := "([BB)V", sig := { parameters := [(.array .byte), .byte], returnType := none }, accessFlags := 0, code := some k11c2 }
/-- java/lang/String -/
def k11 : Class := { plain "java/lang/String" (some 0) with
  accessFlags := 49
  interfaces := #[6, 7, 8, 9, 10]
  cf := some (fileOf pool11 10 #[.nestMembers #[1103]] #[{ accessFlags := 1, nameIndex := 5, descriptorIndex := 6, attributes := #[] }, { accessFlags := 9, nameIndex := 782, descriptorIndex := 783, attributes := #[] }, { accessFlags := 0, nameIndex := 5, descriptorIndex := 211, attributes := #[] }] 49 2 #[1106, 1108, 575, 1110, 1112] #[{ accessFlags := 18, nameIndex := 13, descriptorIndex := 14, attributes := #[] }, { accessFlags := 18, nameIndex := 17, descriptorIndex := 18, attributes := #[] }, { accessFlags := 2, nameIndex := 21, descriptorIndex := 22, attributes := #[] }, { accessFlags := 2, nameIndex := 25, descriptorIndex := 26, attributes := #[] }, { accessFlags := 26, nameIndex := 1116, descriptorIndex := 1117, attributes := #[] }, { accessFlags := 24, nameIndex := 40, descriptorIndex := 26, attributes := #[] }, { accessFlags := 26, nameIndex := 1101, descriptorIndex := 1102, attributes := #[] }, { accessFlags := 26, nameIndex := 1121, descriptorIndex := 1122, attributes := #[] }, { accessFlags := 25, nameIndex := 599, descriptorIndex := 600, attributes := #[] }, { accessFlags := 24, nameIndex := 1125, descriptorIndex := 18, attributes := #[] }, { accessFlags := 24, nameIndex := 1127, descriptorIndex := 18, attributes := #[] }])
  fields := #[{ name := "value", type := (.array .byte), accessFlags := 18, slot := 0, constantValue := 0 }, { name := "coder", type := .byte, accessFlags := 18, slot := 1, constantValue := 0 }, { name := "hash", type := .int, accessFlags := 2, slot := 2, constantValue := 0 }, { name := "hashIsZero", type := .boolean, accessFlags := 2, slot := 3, constantValue := 0 }, { name := "serialVersionUID", type := .long, accessFlags := 26, slot := 0, constantValue := 0 }, { name := "COMPACT_STRINGS", type := .boolean, accessFlags := 24, slot := 1, constantValue := 0 }, { name := "serialPersistentFields", type := (.array (.object "java/io/ObjectStreamField")), accessFlags := 26, slot := 2, constantValue := 0 }, { name := "REPL", type := .char, accessFlags := 26, slot := 3, constantValue := 0 }, { name := "CASE_INSENSITIVE_ORDER", type := (.object "java/util/Comparator"), accessFlags := 25, slot := 4, constantValue := 0 }, { name := "LATIN1", type := .byte, accessFlags := 24, slot := 5, constantValue := 0 }, { name := "UTF16", type := .byte, accessFlags := 24, slot := 6, constantValue := 0 }]
  methods := #[k11m0, k11m1, k11m2]
  instanceTypes := #[(.array .byte), .byte, .int, .boolean]
  staticTypes := #[.long, .boolean, (.array (.object "java/io/ObjectStreamField")), .char, (.object "java/util/Comparator"), .byte, .byte]
  resolved := Array.replicate 1451 none
  statics := some 0 }

def pool12 : Array CpInfo := pool [(4, .class_ 6), (1, u "java/lang/Object"), (0, u "<init>"), (0, u "()V"), (5, .class_ 16), (1, u "java/lang/StringLatin1"), (73, u "canEncode"), (14, u "(C)Z"), (15, u "$assertionsDisabled"), (0, u "Z"), (98, .class_ 223), (1, u "java/lang/StringLatin1$LinesSpliterator"), (156, u "toBytes"), (1, u "(C)[B"), (7, .class_ 391), (0, u "java/lang/StringLatin1$CharsSpliterator")] 3

def k12m0 : Method := { name := "<init>", desc := "()V", sig := { parameters := [], returnType := none }, accessFlags := 0, code := none }
def k12c1 : Code := { maxStack := 2, maxLocals := 1, code := jdk_43_method_3_code, exceptionTable := #[], attributes := #[] }
def k12m1 : Method := { name := "canEncode", desc := "(C)Z", sig := { parameters := [.char], returnType := some .boolean }, accessFlags := 9, code := some k12c1 }
def k12c2 : Code := { maxStack := 4, maxLocals := 1, code := jdk_43_method_46_code, exceptionTable := #[], attributes := #[] }
def k12m2 : Method := { name := "toBytes", desc := "(C)[B", sig := { parameters := [.char], returnType := some (.array .byte) }, accessFlags := 9, code := some k12c2 }
/-- java/lang/StringLatin1 -/
def k12 : Class := { plain "java/lang/StringLatin1" (some 0) with
  accessFlags := 48
  interfaces := #[]
  cf := some (fileOf pool12 14 #[.nestMembers #[390, 221]] #[{ accessFlags := 0, nameIndex := 7, descriptorIndex := 8, attributes := #[] }, { accessFlags := 9, nameIndex := 90, descriptorIndex := 105, attributes := #[] }, { accessFlags := 9, nameIndex := 380, descriptorIndex := 382, attributes := #[] }] 48 4 #[] #[{ accessFlags := 4120, nameIndex := 121, descriptorIndex := 122, attributes := #[] }])
  fields := #[{ name := "$assertionsDisabled", type := .boolean, accessFlags := 4120, slot := 0, constantValue := 0 }]
  methods := #[k12m0, k12m1, k12m2]
  instanceTypes := #[]
  staticTypes := #[.boolean]
  resolved := Array.replicate 395 none
  statics := none }

def pool13 : Array CpInfo := pool [(2, .class_ 4), (1, u "java/lang/Object"), (0, u "<init>"), (0, u "()V"), (35, .class_ 44), (1, u "java/util/Objects"), (0, u "requireNonNull"), (48, u "(Ljava/lang/Object;Ljava/lang/String;)Ljava/lang/Object;")] 89

def k13m0 : Method := { name := "<init>", desc := "()V", sig := { parameters := [], returnType := none }, accessFlags := 2, code := none }
def k13c1 : Code := { maxStack := 3, maxLocals := 2, code := jdk_31_method_11_code, exceptionTable := #[], attributes := #[] }
def k13m1 : Method := { name := "requireNonNull", desc := "(Ljava/lang/Object;Ljava/lang/String;)Ljava/lang/Object;", sig := { parameters := [(.object "java/lang/Object"), (.object "java/lang/String")], returnType := some (.object "java/lang/Object") }, accessFlags := 9, code := some k13c1 }
/-- java/util/Objects -/
def k13 : Class := { plain "java/util/Objects" (some 0) with
  accessFlags := 49
  interfaces := #[]
  cf := some (fileOf pool13 42 #[] #[{ accessFlags := 2, nameIndex := 5, descriptorIndex := 6, attributes := #[] }, { accessFlags := 9, nameIndex := 45, descriptorIndex := 94, attributes := #[] }] 49 2 #[] #[])
  fields := #[]
  methods := #[k13m0, k13m1]
  instanceTypes := #[]
  staticTypes := #[]
  resolved := Array.replicate 184 none
  statics := none }

def pool14 : Array CpInfo := pool [(2, .class_ 4), (1, u "java/lang/Object"), (0, u "<init>"), (0, u "()V"), (17, .class_ 26), (1, u "jdk/internal/util/Preconditions"), (28, .class_ 56), (0, u "jdk/internal/util/Preconditions$4"), (57, .class_ 115), (0, u "jdk/internal/util/Preconditions$1"), (7, u "SIOOBE_FORMATTER"), (0, u "Ljava/util/function/BiFunction;"), (0, .class_ 126), (0, u "jdk/internal/util/Preconditions$2"), (3, u "AIOOBE_FORMATTER"), (0, .class_ 132), (0, u "jdk/internal/util/Preconditions$3"), (3, u "IOOBE_FORMATTER")] 57

def k14m0 : Method := { name := "<init>", desc := "()V", sig := { parameters := [], returnType := none }, accessFlags := 1, code := none }
/-- jdk/internal/util/Preconditions -/
def k14 : Class := { plain "jdk/internal/util/Preconditions" (some 0) with
  accessFlags := 33
  interfaces := #[]
  cf := some (fileOf pool14 24 #[.nestMembers #[55, 131, 125, 114]] #[{ accessFlags := 1, nameIndex := 5, descriptorIndex := 6, attributes := #[] }] 33 2 #[] #[{ accessFlags := 25, nameIndex := 123, descriptorIndex := 124, attributes := #[] }, { accessFlags := 25, nameIndex := 130, descriptorIndex := 124, attributes := #[] }, { accessFlags := 25, nameIndex := 136, descriptorIndex := 124, attributes := #[] }])
  fields := #[{ name := "SIOOBE_FORMATTER", type := (.object "java/util/function/BiFunction"), accessFlags := 25, slot := 0, constantValue := 0 }, { name := "AIOOBE_FORMATTER", type := (.object "java/util/function/BiFunction"), accessFlags := 25, slot := 1, constantValue := 0 }, { name := "IOOBE_FORMATTER", type := (.object "java/util/function/BiFunction"), accessFlags := 25, slot := 2, constantValue := 0 }]
  methods := #[k14m0]
  instanceTypes := #[]
  staticTypes := #[(.object "java/util/function/BiFunction"), (.object "java/util/function/BiFunction"), (.object "java/util/function/BiFunction")]
  resolved := Array.replicate 194 none
  statics := some 1 }

def pool15 : Array CpInfo := pool [(9, u "<init>"), (6, .class_ 18), (1, u "java/lang/Object"), (0, u "()V"), (1, .class_ 23), (1, u "jdk/internal/util/ArraysSupport"), (0, u "LOG2_ARRAY_LONG_INDEX_SCALE"), (0, u "I"), (2, u "U"), (0, u "Ljdk/internal/misc/Unsafe;"), (8, u "BIG_ENDIAN"), (0, u "Z"), (8, u "LOG2_BYTE_BIT_SIZE"), (4, u "LOG2_ARRAY_INT_INDEX_SCALE"), (54, u "JLA"), (0, u "Ljdk/internal/access/JavaLangAccess;"), (11, u "LOG2_ARRAY_BOOLEAN_INDEX_SCALE"), (9, u "LOG2_ARRAY_BYTE_INDEX_SCALE"), (5, u "LOG2_ARRAY_CHAR_INDEX_SCALE"), (5, u "LOG2_ARRAY_SHORT_INDEX_SCALE"), (18, u "LOG2_ARRAY_FLOAT_INDEX_SCALE"), (24, u "LOG2_ARRAY_DOUBLE_INDEX_SCALE"), (89, u "T_BOOLEAN"), (2, u "T_CHAR"), (1, u "T_FLOAT"), (1, u "T_DOUBLE"), (1, u "T_BYTE"), (1, u "T_SHORT"), (1, u "T_INT"), (1, u "T_LONG"), (1, u "SOFT_MAX_ARRAY_LENGTH")] 83

def k15m0 : Method := { name := "<init>", desc := "()V", sig := { parameters := [], returnType := none }, accessFlags := 2, code := none }
/-- jdk/internal/util/ArraysSupport -/
def k15 : Class := { plain "jdk/internal/util/ArraysSupport" (some 0) with
  accessFlags := 33
  interfaces := #[]
  cf := some (fileOf pool15 21 #[] #[{ accessFlags := 2, nameIndex := 9, descriptorIndex := 19, attributes := #[] }] 33 16 #[] #[{ accessFlags := 24, nameIndex := 28, descriptorIndex := 29, attributes := #[] }, { accessFlags := 26, nameIndex := 38, descriptorIndex := 39, attributes := #[] }, { accessFlags := 25, nameIndex := 121, descriptorIndex := 25, attributes := #[] }, { accessFlags := 25, nameIndex := 131, descriptorIndex := 25, attributes := #[] }, { accessFlags := 25, nameIndex := 137, descriptorIndex := 25, attributes := #[] }, { accessFlags := 25, nameIndex := 143, descriptorIndex := 25, attributes := #[] }, { accessFlags := 25, nameIndex := 53, descriptorIndex := 25, attributes := #[] }, { accessFlags := 25, nameIndex := 24, descriptorIndex := 25, attributes := #[] }, { accessFlags := 25, nameIndex := 162, descriptorIndex := 25, attributes := #[] }, { accessFlags := 25, nameIndex := 187, descriptorIndex := 25, attributes := #[] }, { accessFlags := 26, nameIndex := 48, descriptorIndex := 25, attributes := #[] }, { accessFlags := 25, nameIndex := 277, descriptorIndex := 25, attributes := #[] }, { accessFlags := 25, nameIndex := 280, descriptorIndex := 25, attributes := #[] }, { accessFlags := 25, nameIndex := 282, descriptorIndex := 25, attributes := #[] }, { accessFlags := 25, nameIndex := 284, descriptorIndex := 25, attributes := #[] }, { accessFlags := 25, nameIndex := 286, descriptorIndex := 25, attributes := #[] }, { accessFlags := 25, nameIndex := 288, descriptorIndex := 25, attributes := #[] }, { accessFlags := 25, nameIndex := 290, descriptorIndex := 25, attributes := #[] }, { accessFlags := 25, nameIndex := 292, descriptorIndex := 25, attributes := #[] }, { accessFlags := 26, nameIndex := 108, descriptorIndex := 109, attributes := #[] }, { accessFlags := 25, nameIndex := 294, descriptorIndex := 25, attributes := #[] }])
  fields := #[{ name := "U", type := (.object "jdk/internal/misc/Unsafe"), accessFlags := 24, slot := 0, constantValue := 0 }, { name := "BIG_ENDIAN", type := .boolean, accessFlags := 26, slot := 1, constantValue := 0 }, { name := "LOG2_ARRAY_BOOLEAN_INDEX_SCALE", type := .int, accessFlags := 25, slot := 2, constantValue := 0 }, { name := "LOG2_ARRAY_BYTE_INDEX_SCALE", type := .int, accessFlags := 25, slot := 3, constantValue := 0 }, { name := "LOG2_ARRAY_CHAR_INDEX_SCALE", type := .int, accessFlags := 25, slot := 4, constantValue := 0 }, { name := "LOG2_ARRAY_SHORT_INDEX_SCALE", type := .int, accessFlags := 25, slot := 5, constantValue := 0 }, { name := "LOG2_ARRAY_INT_INDEX_SCALE", type := .int, accessFlags := 25, slot := 6, constantValue := 0 }, { name := "LOG2_ARRAY_LONG_INDEX_SCALE", type := .int, accessFlags := 25, slot := 7, constantValue := 0 }, { name := "LOG2_ARRAY_FLOAT_INDEX_SCALE", type := .int, accessFlags := 25, slot := 8, constantValue := 0 }, { name := "LOG2_ARRAY_DOUBLE_INDEX_SCALE", type := .int, accessFlags := 25, slot := 9, constantValue := 0 }, { name := "LOG2_BYTE_BIT_SIZE", type := .int, accessFlags := 26, slot := 10, constantValue := 0 }, { name := "T_BOOLEAN", type := .int, accessFlags := 25, slot := 11, constantValue := 0 }, { name := "T_CHAR", type := .int, accessFlags := 25, slot := 12, constantValue := 0 }, { name := "T_FLOAT", type := .int, accessFlags := 25, slot := 13, constantValue := 0 }, { name := "T_DOUBLE", type := .int, accessFlags := 25, slot := 14, constantValue := 0 }, { name := "T_BYTE", type := .int, accessFlags := 25, slot := 15, constantValue := 0 }, { name := "T_SHORT", type := .int, accessFlags := 25, slot := 16, constantValue := 0 }, { name := "T_INT", type := .int, accessFlags := 25, slot := 17, constantValue := 0 }, { name := "T_LONG", type := .int, accessFlags := 25, slot := 18, constantValue := 0 }, { name := "JLA", type := (.object "jdk/internal/access/JavaLangAccess"), accessFlags := 26, slot := 19, constantValue := 0 }, { name := "SOFT_MAX_ARRAY_LENGTH", type := .int, accessFlags := 25, slot := 20, constantValue := 0 }]
  methods := #[k15m0]
  instanceTypes := #[]
  staticTypes := #[(.object "jdk/internal/misc/Unsafe"), .boolean, .int, .int, .int, .int, .int, .int, .int, .int, .int, .int, .int, .int, .int, .int, .int, .int, .int, (.object "jdk/internal/access/JavaLangAccess"), .int]
  resolved := Array.replicate 378 none
  statics := none }

def pool16 : Array CpInfo := pool [(1, u "java/lang/Cloneable"), (0, .class_ 1), (0, u "java/lang/Object"), (0, .class_ 3)] 3

/-- java/lang/Cloneable -/
def k16 : Class := { plain "java/lang/Cloneable" (some 0) with
  accessFlags := 1537
  interfaces := #[]
  cf := some (fileOf pool16 2 #[] #[] 1537 4 #[] #[])
  fields := #[]
  methods := #[]
  instanceTypes := #[]
  staticTypes := #[]
  resolved := Array.replicate 8 none
  statics := none }

/-- the primitive byte -/
def k17 : Class := { plain "byte" none with kind := .primitive 'B', accessFlags := 0x411 }
/-- [B -/
def k18 : Class := { plain "[B" (some 0) with kind := .array 17 .byte, interfaces := #[16, 6], accessFlags := 1041 }

/-- the primitive int -/
def k19 : Class := { plain "int" none with kind := .primitive 'I', accessFlags := 0x411 }
/-- [I -/
def k20 : Class := { plain "[I" (some 0) with kind := .array 19 .int, interfaces := #[16, 6], accessFlags := 1041 }

def heap : Heap := #[{ cls := 11, slots := #[.long 0, .int 1, .null, .int 0, .null, .int 0, .int 0], vm := .statics 11 },
  { cls := 14, slots := #[.null, .null, .null], vm := .statics 14 }]
def classes : Array Class := #[k0, k1, k2, k3, k4, k5, k6, k7, k8, k9, k10, k11, k12, k13, k14, k15, k16, k17, k18, k19, k20]
def interned : List (Array UInt16 × Addr) := []
def slotsUsed : Nat := 10
def theMethod : MethodId := ⟨1, 1⟩
def args0 : Array Value := #[.int 5, .int 5, .int 5, .int 5]
def aboutOver (below : List Frame) : State where
  vm := { classes := classes, interned := interned.toArray }
  heap := heap
  slotsUsed := slotsUsed
  threads := #[{ frames := .invoking theMethod args0 :: below }]
def below0 : List Frame := [.native { method := ⟨0, 0⟩, args := #[] }]
def about1 : State := aboutOver below0
def p0 : Program := .bare "" "" ""
def e0 : Env := launch0.env 0 0 0
theorem w_frames : about1.frames = Frame.invoking theMethod args0 :: below0 := rfl
set_option maxRecDepth 65536 in
theorem w_args : argsFit about1.vm theMethod args0 = true := by decide +kernel
set_option maxRecDepth 65536 in
theorem w_heap : heapFits about1 = true := by decide +kernel
set_option maxRecDepth 65536 in
theorem w_runnable : about1.curStatus? = some .runnable := by decide +kernel
set_option maxRecDepth 65536 in
theorem w_alone : about1.alone = true := by decide +kernel
set_option maxRecDepth 65536 in
theorem w_named : about1.methodNamed? x = some theMethod := by decide +kernel
set_option maxRecDepth 65536 in
theorem w_hears : about1.hears theMethod below0 = true := by decide +kernel
set_option maxRecDepth 65536 in
theorem w_ripe : about1.ripe theMethod args0 below0 = true := by decide +kernel
theorem w_running : about1.status = .running := rfl
set_option maxRecDepth 65536 in
theorem w_room : about1.hasRoom e0.platform room_1 = true :=
  launch0.hasRoom_least _ room_1 (by decide +kernel) (by decide +kernel) (by decide +kernel) (by decide +kernel) (by decide +kernel) (by decide +kernel)
theorem allAtoms_all (ts : List Jvm.Cond) (a : Array Jvm.Value) (st : Jvm.State) : (allAtoms ts).before a st = ts.all (fun c => c.before a st) := by
  induction ts with
  | nil => rfl
  | cons c t ih =>
    show (Jvm.Cond.and c (allAtoms t)).before a st = _
    rw [Jvm.Cond.before_and, ih, List.all_cons]
def words1 : List Jvm.Cond := Jvm.Cond.code x code maxLocals ret :: tables_1
/-- a 'code' word, met by the world's own term for the bytes: nothing is compared byte by byte -/
theorem code_word {y : MethodName} {bytes : ByteArray} {mx : Nat} {rt : Option FieldType} {a : Array Value} {s : State} {m : MethodId} {meth : Method} {c : Code} (h1 : s.methodNamed? y = some m) (h2 : s.vm.method? m = some meth) (h3 : meth.code = some c) (h4 : c.code = bytes)
    (h5 : (c.maxLocals == mx && c.exceptionTable.isEmpty && decide (c.maxStack ≤ mostOperands) && decide (meth.sig.returnType = rt) && !meth.locks && decide (parseMethodDescriptor y.desc = some meth.sig)) = true) : (Jvm.Cond.code y bytes mx rt).before a s = true := by
  simp only [Bool.and_eq_true, beq_iff_eq, Bool.not_eq_true', decide_eq_true_eq] at h5
  obtain ⟨⟨⟨⟨⟨g1, g2⟩, g3⟩, g4⟩, g5⟩, g6⟩ := h5
  simp [Cond.before, Cond.holds, Cond.value, h1, h2, h3, h4, g1, g2, g3, g4, g5, g6]
def isCode : Jvm.Cond → Bool
  | .code _ _ _ _ => true
  | _ => false
theorem all_split {L : List Jvm.Cond} {P : Jvm.Cond → Bool} (h1 : L.all (fun c => isCode c || P c) = true) (h2 : ∀ c ∈ L.filter isCode, P c = true) : L.all P = true := by
  refine List.all_eq_true.mpr fun c hc => ?_
  have h := List.all_eq_true.mp h1 c hc
  rcases Bool.eq_false_or_eq_true (isCode c) with hi | hi
  · exact h2 c (List.mem_filter.mpr ⟨hc, hi⟩)
  · simpa [hi] using h
set_option maxRecDepth 65536 in
theorem w_c0 : (Jvm.Cond.code x code maxLocals ret).before args0 about1 = true := code_word (m := ⟨1, 1⟩) (meth := k1m1) (c := k1c1) (by decide +kernel) rfl rfl rfl (by decide +kernel)
set_option maxRecDepth 65536 in
theorem w_c1 : (Jvm.Cond.code ({ cls := "com/example/stale_to_safe/staletosafe/policy/Atom$Bool", name := "<init>", desc := "(Z)V" } : Jvm.MethodName) prog_25_method_1_code (2 : Nat) (Option.none : Option Jvm.ClassFile.FieldType)).before args0 about1 = true := code_word (m := ⟨4, 0⟩) (meth := k4m0) (c := k4c0) (by decide +kernel) rfl rfl rfl (by decide +kernel)
set_option maxRecDepth 65536 in
theorem w_c2 : (Jvm.Cond.code ({ cls := "java/lang/Record", name := "<init>", desc := "()V" } : Jvm.MethodName) jdk_30_method_1_code (1 : Nat) (Option.none : Option Jvm.ClassFile.FieldType)).before args0 about1 = true := code_word (m := ⟨2, 0⟩) (meth := k2m0) (c := k2c0) (by decide +kernel) rfl rfl rfl (by decide +kernel)
set_option maxRecDepth 65536 in
theorem w_c3 : (Jvm.Cond.code ({ cls := "java/lang/Object", name := "<init>", desc := "()V" } : Jvm.MethodName) object_method_1_code (1 : Nat) (Option.none : Option Jvm.ClassFile.FieldType)).before args0 about1 = true := code_word (m := ⟨0, 0⟩) (meth := k0m0) (c := k0c0) (by decide +kernel) rfl rfl rfl (by decide +kernel)
set_option maxRecDepth 65536 in
theorem w_c4 : (Jvm.Cond.code ({ cls := "java/lang/String", name := "valueOf", desc := "(C)Ljava/lang/String;" } : Jvm.MethodName) jdk_42_method_139_code (1 : Nat) (Option.some (Jvm.ClassFile.FieldType.object "java/lang/String"))).before args0 about1 = true := code_word (m := ⟨11, 1⟩) (meth := k11m1) (c := k11c1) (by decide +kernel) rfl rfl rfl (by decide +kernel)
set_option maxRecDepth 65536 in
theorem w_c5 : (Jvm.Cond.code ({ cls := "java/lang/StringLatin1", name := "canEncode", desc := "(C)Z" } : Jvm.MethodName) jdk_43_method_3_code (1 : Nat) (Option.some Jvm.ClassFile.FieldType.boolean)).before args0 about1 = true := code_word (m := ⟨12, 1⟩) (meth := k12m1) (c := k12c1) (by decide +kernel) rfl rfl rfl (by decide +kernel)
set_option maxRecDepth 65536 in
theorem w_c6 : (Jvm.Cond.code ({ cls := "java/lang/StringLatin1", name := "toBytes", desc := "(C)[B" } : Jvm.MethodName) jdk_43_method_46_code (1 : Nat) (Option.some (Jvm.ClassFile.FieldType.array Jvm.ClassFile.FieldType.byte))).before args0 about1 = true := code_word (m := ⟨12, 2⟩) (meth := k12m2) (c := k12c2) (by decide +kernel) rfl rfl rfl (by decide +kernel)
set_option maxRecDepth 65536 in
theorem w_c7 : (Jvm.Cond.code ({ cls := "java/lang/String", name := "<init>", desc := "([BB)V" } : Jvm.MethodName) jdk_42_method_151_code (3 : Nat) (Option.none : Option Jvm.ClassFile.FieldType)).before args0 about1 = true := code_word (m := ⟨11, 2⟩) (meth := k11m2) (c := k11c2) (by decide +kernel) rfl rfl rfl (by decide +kernel)
set_option maxRecDepth 65536 in
theorem w_c8 : (Jvm.Cond.code ({ cls := "com/example/stale_to_safe/staletosafe/policy/Atom$Text", name := "<init>", desc := "(Ljava/lang/String;)V" } : Jvm.MethodName) prog_27_method_1_code (2 : Nat) (Option.none : Option Jvm.ClassFile.FieldType)).before args0 about1 = true := code_word (m := ⟨5, 0⟩) (meth := k5m0) (c := k5c0) (by decide +kernel) rfl rfl rfl (by decide +kernel)
set_option maxRecDepth 65536 in
theorem w_c9 : (Jvm.Cond.code ({ cls := "java/util/Objects", name := "requireNonNull", desc := "(Ljava/lang/Object;Ljava/lang/String;)Ljava/lang/Object;" } : Jvm.MethodName) jdk_31_method_11_code (2 : Nat) (Option.some (Jvm.ClassFile.FieldType.object "java/lang/Object"))).before args0 about1 = true := code_word (m := ⟨13, 1⟩) (meth := k13m1) (c := k13c1) (by decide +kernel) rfl rfl rfl (by decide +kernel)
set_option maxRecDepth 65536 in
theorem w_c10 : (Jvm.Cond.code ({ cls := "com/example/stale_to_safe/staletosafe/policy/Atom$Bool", name := "equals", desc := "(Ljava/lang/Object;)Z" } : Jvm.MethodName) prog_25_method_2_code (3 : Nat) (Option.some Jvm.ClassFile.FieldType.boolean)).before args0 about1 = true := code_word (m := ⟨4, 1⟩) (meth := k4m1) (c := k4c1) (by decide +kernel) rfl rfl rfl (by decide +kernel)
def codes1 : List Jvm.Cond := [Jvm.Cond.code x code maxLocals ret, Jvm.Cond.code ({ cls := "com/example/stale_to_safe/staletosafe/policy/Atom$Bool", name := "<init>", desc := "(Z)V" } : Jvm.MethodName) prog_25_method_1_code (2 : Nat) (Option.none : Option Jvm.ClassFile.FieldType), Jvm.Cond.code ({ cls := "java/lang/Record", name := "<init>", desc := "()V" } : Jvm.MethodName) jdk_30_method_1_code (1 : Nat) (Option.none : Option Jvm.ClassFile.FieldType), Jvm.Cond.code ({ cls := "java/lang/Object", name := "<init>", desc := "()V" } : Jvm.MethodName) object_method_1_code (1 : Nat) (Option.none : Option Jvm.ClassFile.FieldType), Jvm.Cond.code ({ cls := "java/lang/String", name := "valueOf", desc := "(C)Ljava/lang/String;" } : Jvm.MethodName) jdk_42_method_139_code (1 : Nat) (Option.some (Jvm.ClassFile.FieldType.object "java/lang/String")), Jvm.Cond.code ({ cls := "java/lang/StringLatin1", name := "canEncode", desc := "(C)Z" } : Jvm.MethodName) jdk_43_method_3_code (1 : Nat) (Option.some Jvm.ClassFile.FieldType.boolean), Jvm.Cond.code ({ cls := "java/lang/StringLatin1", name := "toBytes", desc := "(C)[B" } : Jvm.MethodName) jdk_43_method_46_code (1 : Nat) (Option.some (Jvm.ClassFile.FieldType.array Jvm.ClassFile.FieldType.byte)), Jvm.Cond.code ({ cls := "java/lang/String", name := "<init>", desc := "([BB)V" } : Jvm.MethodName) jdk_42_method_151_code (3 : Nat) (Option.none : Option Jvm.ClassFile.FieldType), Jvm.Cond.code ({ cls := "com/example/stale_to_safe/staletosafe/policy/Atom$Text", name := "<init>", desc := "(Ljava/lang/String;)V" } : Jvm.MethodName) prog_27_method_1_code (2 : Nat) (Option.none : Option Jvm.ClassFile.FieldType), Jvm.Cond.code ({ cls := "java/util/Objects", name := "requireNonNull", desc := "(Ljava/lang/Object;Ljava/lang/String;)Ljava/lang/Object;" } : Jvm.MethodName) jdk_31_method_11_code (2 : Nat) (Option.some (Jvm.ClassFile.FieldType.object "java/lang/Object")), Jvm.Cond.code ({ cls := "com/example/stale_to_safe/staletosafe/policy/Atom$Bool", name := "equals", desc := "(Ljava/lang/Object;)Z" } : Jvm.MethodName) prog_25_method_2_code (3 : Nat) (Option.some Jvm.ClassFile.FieldType.boolean)]
set_option maxRecDepth 65536 in
theorem codes_eq : words1.filter isCode = codes1 := rfl
theorem w_codes : ∀ c ∈ words1.filter isCode, c.before args0 about1 = true := by
  rw [codes_eq]
  intro c hc
  simp only [codes1, List.mem_cons, List.not_mem_nil, or_false] at hc
  rcases hc with rfl | rfl | rfl | rfl | rfl | rfl | rfl | rfl | rfl | rfl | rfl
  · exact w_c0
  · exact w_c1
  · exact w_c2
  · exact w_c3
  · exact w_c4
  · exact w_c5
  · exact w_c6
  · exact w_c7
  · exact w_c8
  · exact w_c9
  · exact w_c10
set_option maxRecDepth 65536 in
theorem w_t1 : (words1.take 24).all (fun c => isCode c || c.before args0 about1) = true := by decide +kernel
set_option maxRecDepth 65536 in
theorem w_t2 : ((words1.drop 24).take 24).all (fun c => isCode c || c.before args0 about1) = true := by decide +kernel
set_option maxRecDepth 65536 in
theorem w_t3 : ((words1.drop 24).drop 24).all (fun c => isCode c || c.before args0 about1) = true := by decide +kernel
theorem w_tables : (allAtoms (Jvm.Cond.code x code maxLocals ret :: tables_1)).before args0 about1 = true := by
  rw [allAtoms_all]
  show words1.all (fun c => c.before args0 about1) = true
  refine all_split ?_ w_codes
  rw [← List.take_append_drop 24 words1, List.all_append, w_t1, ← List.take_append_drop 24 (words1.drop 24), List.all_append, w_t2, w_t3]
  rfl
set_option maxRecDepth 65536 in
theorem w_rest : rest_1_c.before args0 about1 = true := by decide +kernel
set_option maxRecDepth 65536 in
theorem w_case : (Jvm.Cond.and given_1 narrow_1).before args0 about1 = true := by decide +kernel
theorem w_applies : (headSpec (Jvm.Cond.code x code maxLocals ret :: tables_1) room_1).applies x e0.platform about1 = true :=
  (Spec.applies_iff w_frames).mpr ⟨w_running, w_runnable, w_alone, w_named, w_hears, w_ripe, w_room, w_tables⟩
theorem atStart : AtStart classFile x code maxLocals ret World_1 tables_1 room_1 Calls_1 rest_1 Pre_1 launch0 p0 e0 about1 theMethod args0 below0 :=
  ⟨lists_1, trivial, launch0.admits_env _ _ _, launch0.least_env, fairChoices_fair.cas, fairChoices_fair.clock, w_frames, w_args, w_heap, w_applies, trivial, w_rest, w_case⟩
end start1
theorem witness_1 : WitnessClaimed_1 := ⟨start1.p0, start1.e0, start1.about1, start1.theMethod, start1.args0, start1.below0, start1.atStart⟩
end Jvm.Pilot.@@N@@
