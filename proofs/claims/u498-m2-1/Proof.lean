import JvmDerived
import JvmDerived.Pilot.@@N@@Statement
import JvmDerived.Pilot.@@N@@Code
set_option linter.unusedVariables false
set_option linter.unusedSimpArgs false
namespace Jvm.RoadKit
open Sem ClassFile Op Lib Jvm.Stand Jvm.Free Jvm.LawKit
section New
variable {p : Program} {l : Launch} {e : Env} {R : Room} {s : State} {m : MethodId} {args : Array Value} {below : List Frame} {meth : Method} {c : Code} {T : State} {locs : List Loc} {cells slots : Nat}
theorem retI (X : Stand p l e R s m args below meth c T locs cells slots) (hx : p.tables.exec = Jvm.exec) {pc : Nat} {Ls : Array Slot} {z : Int32} {rest : List Value} (hret : meth.sig.returnType = some .int) (hd : decode c.code pc = .ok (.ireturn, 1)) {fs : List Frame}
    (hl : ∀ (f : JFrame) (acts : List Action), f.method = m → f.locked = none → f.entered = [] → (doReturn e (T.setTop f) acts (some (.int z))).1 = T.setFrames fs) : Steps p.tables e below (T.setTop (mkF m pc Ls (.int z :: rest))) (T.setFrames fs) := by
  have hm' : T.vm.method? m = some meth := X.method'
  have hn : narrow .int (.int z) = .int z := rfl
  show Steps p.tables e below (T.setTop { method := m, pc := pc, locals := Ls, stack := _ :: rest, locked := none }) _
  jvm_step X.here [X.here.top, hx, hd, hm', hret, hn]
  first | (intro acts; rw [hl _ acts rfl rfl rfl]) | rw [hl _ _ rfl rfl rfl]
  exact Steps.refl _
end New
end Jvm.RoadKit
namespace Jvm.Pilot.@@N@@
open Jvm Jvm.ClassFile Sem Op Lib Jvm.Free Jvm.Stand Jvm.LawKit Jvm.RoadKit Bundle Jvm.Pilot.@@N@@.Jvm.D
def Gl (p : Program) (e : Env) (below : List Frame) (Q : Outcome → State → Prop) (A : State) : Prop := ∃ t o, Steps p.tables e below A t ∧ t.status = .running ∧ Ended t below o ∧ Q o t
theorem Gl.st {p : Program} {e : Env} {below : List Frame} {Q : Outcome → State → Prop} {A B : State} (k : ∀ t, Steps p.tables e below B t → Steps p.tables e below A t) (h : Gl p e below Q B) : Gl p e below Q A := by
  obtain ⟨t, o, h1, r⟩ := h
  exact ⟨t, o, k t h1, r⟩
theorem Gl.cast {p : Program} {e : Env} {below : List Frame} {Q : Outcome → State → Prop} {A B : State} (k : A = B) (h : Gl p e below Q B) : Gl p e below Q A := k ▸ h
theorem Gl.join {p : Program} {e : Env} {below : List Frame} {Q : Outcome → State → Prop} {A B : State} (k : Gl p e below Q A → Gl p e below Q B) (h : Gl p e below Q A) : Gl p e below Q B := k h
theorem Gl.fin {p : Program} {e : Env} {below : List Frame} {Q : Outcome → State → Prop} {A t : State} {o : Outcome} (h1 : Steps p.tables e below A t) (h2 : t.status = .running) (h3 : Ended t below o) (h4 : Q o t) : Gl p e below Q A := ⟨t, o, h1, h2, h3, h4⟩
theorem tw {a0 : Array Value} {Z : State} (hw : ∀ d ∈ tables_1, d.before a0 Z = true) (i : Nat) {d : Jvm.Cond} (h : tables_1[i]? = some d) : d.before a0 Z = true := hw _ (List.mem_of_getElem? h)
theorem ldAt {L M : Array Slot} (h : L = M) {k : Nat} {v : Slot} (q : M[k]? = some v) : L[k]? = some v := h ▸ q
theorem stAt {L M L' M' : Array Slot} {k : Nat} {v w : Value} (h : L = M) (h' : L' = M') (e : w = v) (q : storeLocals M k v = some M') : storeLocals L k w = some L' := by subst h h' e; exact q
theorem stAt' {L M L' M' : Array Slot} {k : Nat} {v w : Value} (h : L = M) (h' : L' = M') (e : w = v) (q : storeLocals M k v = some M') : storeLocals L k w = some L' := by subst h h' e; exact q
theorem szAt {L M : Array Slot} {k n : Nat} (h : k = n) (h' : L = M) (q : M.size = n) : L.size = k := by subst h h'; exact q
theorem efAt {m : MethodId} {L M : Array Slot} {f : JFrame} (h : L = M) (q : f = mkF m 0 M []) : f = mkF m 0 L [] := h ▸ q
theorem own_nb {c : Prop} [Decidable c] {a b : Int32} (ha : nar .boolean a = a) (hb : nar .boolean b = b) : nar .boolean (if c then a else b) = if c then a else b := by split <;> assumption
theorem own_eqL {args : Array Value} {s : State} {t : Term} {z : Int64} (h : (Jvm.Cond.eq t (.long z)).value args s none s [] = some true) : t.eval args s none [] s = some (.long z) := by
  obtain ⟨x, y, ha, hb, k1, k2⟩ := cmp_v (Or.inl h)
  obtain rfl : y = .long z := Option.some.inj (hb.symm.trans (long_at z))
  obtain ⟨w, rfl⟩ : ∃ w, x = .long w := k2
  rw [ha, gotT (eq_L ha hb) h]
theorem own_eqI {args : Array Value} {s : State} {t : Term} {z : Int32} (h : (Jvm.Cond.eq t (.int z)).value args s none s [] = some true) : t.eval args s none [] s = some (.int z) := by
  obtain ⟨x, y, ha, hb, k1, k2⟩ := cmp_v (Or.inl h)
  obtain rfl : y = .int z := Option.some.inj (hb.symm.trans (Term.int_eval z))
  obtain ⟨w, rfl⟩ : ∃ w, x = .int w := k2
  rw [ha, gotT (Cond.eq_ints ha hb) h]
theorem own_sta_keep {Z : State} {h h' : Heap} {C n d : String} {v : Value} {ws : List Addr} (F : Sta Z h C n d v) (K : Keep h h' ws) (q : ∀ x ∈ ws, ∀ cell : Cell, h[x]? = some cell → cell.vm.isStatics = false) : Sta Z h' C n d v := by
  obtain ⟨cf, i, k, f, a, cell, h1, h2, h3, h4, h5, h6, r⟩ := F
  exact ⟨cf, i, k, f, a, cell, h1, h2, h3, h4, K.2.1 a cell h5 (fun y => by have := q a y cell h5; rw [h6] at this; cases this), h6, r⟩
theorem own_exa_plain {Z : State} {h : Heap} {a : Addr} {C : String} (F : Exa Z h a C) : ∀ cell : Cell, h[a]? = some cell → cell.vm.isStatics = false := fun cell hc => by
  obtain ⟨c', k, h1, -, -, h4, -⟩ := F
  rw [h1] at hc; cases hc; exact h4
theorem own_arv_plain {Z : State} {h : Heap} {a : Addr} {k : ClassId} {ty : FieldType} {z : Int32} {vs : List Value} {dv : Value} (F : Arv Z h a k ty z vs dv) : ∀ cell : Cell, h[a]? = some cell → cell.vm.isStatics = false := fun cell hc => by
  obtain ⟨c', A, -⟩ := F
  have := A.1; rw [this] at hc; cases hc; exact A.plain
theorem own_rng (p1 p2 lo sp hi : Int32) (hlo : lo = p1 &&& (32767 : Int32)) (hsp : sp = (32768 : Int32) - lo) (hhi : hi = lo + ((p2 &&& (2147483647 : Int32)) % sp)) : 0 ≤ lo.toInt ∧ lo.toInt ≤ hi.toInt ∧ hi.toInt ≤ 32767 ∧ sp.toInt = 32768 - lo.toInt := by
  have a1 : lo.toInt = p1.toInt % 32768 := by rw [hlo]; exact c_mask p1 (32767 : Int32) 15 (by decide) (by decide)
  have a2 := c_isub (32768 : Int32) lo
  rw [← hsp] at a2
  have a3 : (p2 &&& (2147483647 : Int32)).toInt = p2.toInt % 2147483648 := c_mask p2 (2147483647 : Int32) 31 (by decide) (by decide)
  have a4 := (c_iremV (p2 &&& (2147483647 : Int32)) sp).1
  have a5 := c_iadd lo ((p2 &&& (2147483647 : Int32)) % sp)
  rw [← hhi] at a5
  have z1 := rng32 sp
  have z2 := rng32 hi
  clear hlo hsp hhi
  simp only [Int32.reduceToInt] at *
  omega
theorem d2_0 : decode jdk_30_method_1_code 0 = .ok (.aload_n 0, 1) := by decide +kernel
theorem d2_1 : decode jdk_30_method_1_code 1 = .ok (.invokespecial 1, 3) := by decide +kernel
theorem d2_4 : decode jdk_30_method_1_code 4 = .ok (.return_, 1) := by decide +kernel
theorem pn_2 : plainName "java/lang/Record" = true := by first | (simp [plainName, overriddenIn]; done) | decide +kernel
theorem ef_2 (m : MethodId) (a1 : Addr) : entryFrame m #[(.ref a1)] 1 = mkF m 0 #[.val (.ref a1)] [] := by first | (simp [entryFrame, mkF, argsToLocals, Value.category]; done) | rfl
def Q2 (Z : State) (a1 : Addr) (h0 : Heap) (n0 : Nat) (v : Option Value) (h : Heap) (L : List Loc) : Prop := v = none ∧ Fr n0 L ∧ h = h0
set_option maxRecDepth 65536 in
set_option maxHeartbeats 40000000 in
theorem rm2 (l : Launch) (Z : State) (a0 : Array Value) (hw : ∀ d ∈ tables_1, d.before a0 Z = true) (ws : List Jvm.Cond) (a1 : Addr) (h0 : Heap) (n0 : Nat) (Z0 : n0 ≤ h0.size) :
    MetFree l (⟨"java/lang/Record", "<init>", "()V"⟩ : MethodName) (head1 (Jvm.Cond.code (⟨"java/lang/Record", "<init>", "()V"⟩ : MethodName) jdk_30_method_1_code 1 none :: ws) ({ frames := 1, cells := 0, slots := 0, locals := 12 } : Room)) (fun a U => a = #[(.ref a1)] ∧ Z.Warmed39 U.vm ∧ U.heap = h0) (fun _ _ _ _ _ => True) (fun _ U o U' => ∃ v L, o = .returned v ∧ Q2 Z a1 h0 n0 v U'.heap L ∧ FrameEnd U o U' L ({ frames := 1, cells := 0, slots := 0, locals := 12 } : Room).cells ({ frames := 1, cells := 0, slots := 0, locals := 12 } : Room).slots) := by
  refine MetFree.of_bodySF (plainFor_of_name pn_2) hisR ?_
  intro p e s m args below meth c s₁ Bd hml0 hP hK
  obtain ⟨rfl, hZ, hh⟩ := hP
  have hx := Bd.exec
  have hby := Bd.bytes
  have hml : c.maxLocals = 1 := hml0
  have hown : s.vm.findClass "java/lang/Record" = some m.cls := findClass_of_methodNamed Bd.named
  have hnm := (name_of_methodNamed Bd.named Bd.method).1
  have X0 : Stand p l e ({ frames := 1, cells := 0, slots := 0, locals := 12 } : Room) s m #[(.ref a1)] below meth c s₁ [] 0 0 := Stand.of_body Bd
  have e0 : s₁.heap = h0 := by rw [← hh, Bd.state]; rfl
  have N0 := Fr.nil n0
  have K0 : Keep h0 h0 [] := Keep.refl h0 _
  refine (show Gl p e below (fun o U' => ∃ v L, o = .returned v ∧ Q2 Z a1 h0 n0 v U'.heap L ∧ FrameEnd s o U' L ({ frames := 1, cells := 0, slots := 0, locals := 12 } : Room).cells ({ frames := 1, cells := 0, slots := 0, locals := 12 } : Room).slots) (s₁.setTop (entryFrame m #[(.ref a1)] 1)) from ?_)
  obtain ⟨L0, hL0⟩ : ∃ z : Array Slot, z = #[.val (.ref a1)] := ⟨_, rfl⟩
  refine Gl.st (B := (s₁.setTop (mkF m 0 L0 []))) (fun t k => castTop (efAt hL0 (ef_2 m a1)) k) ?_
  refine Gl.st (B := (s₁.setTop (mkF m 1 L0 [(.ref a1)]))) (fun t k => XS.aloadN X0.here hx rfl (hb hby d2_0) (ldAt hL0 rfl) rfl k) ?_
  obtain ⟨T1, X1, e1, st1⟩ := initO X0 hx hZ hown (tw hw 13 rfl) (tw hw 14 rfl) (tw hw 15 rfl) e0 (g := (mkF m 1 L0 [(.ref a1)])) rfl (szAt hml hL0 rfl) rfl (hb hby d2_1) (by decide) (W := 0) (by show 2 * 0 + _ ≤ _; exact Nat.le_of_eq rfl) (by decide)
  refine Gl.st (B := (T1.setTop (mkF m 4 L0 []))) st1 ?_
  obtain ⟨fs, hr, hrun, hended, hW, hsame⟩ := X1.leave (v := none) (fun _ => rfl)
  refine Gl.fin (X1.returnOut hx Bd.returns (hb hby d2_4) hr) hrun hended ⟨_, _, rfl, ?_, ⟨_, rfl⟩, hW, hsame.mono (by decide) (by decide)⟩
  show Q2 Z a1 h0 n0 _ T1.heap _
  rw [e1]
  exact ⟨rfl, N0, rfl⟩
theorem sn0 {Z : State} {a0 : Array Value} (hw : ∀ d ∈ tables_1, d.before a0 Z = true) : Jvm.RoadKit.slotOf Z "com/example/limpet/limpet/protocol/VersionRange" "max" "S" ≠ Jvm.RoadKit.slotOf Z "com/example/limpet/limpet/protocol/VersionRange" "min" "S" := slot_ne (Or.inr (tw hw 19 rfl)) (Or.inr (tw hw 17 rfl)) (by decide) (t := .short) (t' := .short) (by decide) (by decide)
theorem sn1 {Z : State} {a0 : Array Value} (hw : ∀ d ∈ tables_1, d.before a0 Z = true) : Jvm.RoadKit.slotOf Z "com/example/limpet/limpet/protocol/VersionRange" "min" "S" ≠ Jvm.RoadKit.slotOf Z "com/example/limpet/limpet/protocol/VersionRange" "max" "S" := slot_ne (Or.inr (tw hw 17 rfl)) (Or.inr (tw hw 19 rfl)) (by decide) (t := .short) (t' := .short) (by decide) (by decide)
theorem d1_0 : decode prog_62_method_1_code 0 = .ok (.aload_n 0, 1) := by decide +kernel
theorem d1_1 : decode prog_62_method_1_code 1 = .ok (.invokespecial 1, 3) := by decide +kernel
theorem d1_4 : decode prog_62_method_1_code 4 = .ok (.iload_n 1, 1) := by decide +kernel
theorem d1_5 : decode prog_62_method_1_code 5 = .ok (.ifCond .lt 8, 3) := by decide +kernel
theorem d1_8 : decode prog_62_method_1_code 8 = .ok (.iload_n 2, 1) := by decide +kernel
theorem d1_9 : decode prog_62_method_1_code 9 = .ok (.iload_n 1, 1) := by decide +kernel
theorem d1_10 : decode prog_62_method_1_code 10 = .ok (.if_icmp .ge 18, 3) := by decide +kernel
theorem d1_28 : decode prog_62_method_1_code 28 = .ok (.aload_n 0, 1) := by decide +kernel
theorem d1_29 : decode prog_62_method_1_code 29 = .ok (.iload_n 1, 1) := by decide +kernel
theorem d1_30 : decode prog_62_method_1_code 30 = .ok (.putfield 16, 3) := by decide +kernel
theorem d1_33 : decode prog_62_method_1_code 33 = .ok (.aload_n 0, 1) := by decide +kernel
theorem d1_34 : decode prog_62_method_1_code 34 = .ok (.iload_n 2, 1) := by decide +kernel
theorem d1_35 : decode prog_62_method_1_code 35 = .ok (.putfield 22, 3) := by decide +kernel
theorem d1_38 : decode prog_62_method_1_code 38 = .ok (.return_, 1) := by decide +kernel
theorem pn_1 : plainName "com/example/limpet/limpet/protocol/VersionRange" = true := by first | (simp [plainName, overriddenIn]; done) | decide +kernel
theorem pd_1_0 : parseMethodDescriptor "()V" = some ⟨[], none⟩ := by decide +kernel
theorem ef_1 (m : MethodId) (a1 : Addr) (p2 : Int32) (p3 : Int32) : entryFrame m #[(.ref a1), (.int p2), (.int p3)] 3 = mkF m 0 #[.val (.ref a1), .val (.int p2), .val (.int p3)] [] := by first | (simp [entryFrame, mkF, argsToLocals, Value.category]; done) | rfl
def Q1 (Z : State) (a1 : Addr) (p2 : Int32) (p3 : Int32) (u_min_a1 : Value) (u_max_a1 : Value) (h0 : Heap) (n0 : Nat) (v : Option Value) (h : Heap) (L : List Loc) : Prop := v = none ∧ Fr n0 L ∧ Keep h0 h [a1] ∧ Exa Z h a1 "com/example/limpet/limpet/protocol/VersionRange" ∧ Fld Z h a1 "com/example/limpet/limpet/protocol/VersionRange" "min" "S" (.int (nar .short p2)) ∧ Fld Z h a1 "com/example/limpet/limpet/protocol/VersionRange" "max" "S" (.int (nar .short p3))
set_option maxRecDepth 65536 in
set_option maxHeartbeats 40000000 in
theorem rm1 (l : Launch) (Z : State) (a0 : Array Value) (hw : ∀ d ∈ tables_1, d.before a0 Z = true) (ws : List Jvm.Cond) (a1 : Addr) (p2 : Int32) (p3 : Int32) (u_min_a1 : Value) (u_max_a1 : Value) (h0 : Heap) (n0 : Nat) (Z0 : n0 ≤ h0.size) (hq5 : ¬ (p2 < (0 : Int32))) (hq10 : ¬ (p3 < p2)) (E_a1 : Exa Z h0 a1 "com/example/limpet/limpet/protocol/VersionRange") (F_min_a1 : Fld Z h0 a1 "com/example/limpet/limpet/protocol/VersionRange" "min" "S" u_min_a1) (g_a1 : n0 ≤ a1) (F_max_a1 : Fld Z h0 a1 "com/example/limpet/limpet/protocol/VersionRange" "max" "S" u_max_a1) :
    MetFree l (⟨"com/example/limpet/limpet/protocol/VersionRange", "<init>", "(SS)V"⟩ : MethodName) (head1 (Jvm.Cond.code (⟨"com/example/limpet/limpet/protocol/VersionRange", "<init>", "(SS)V"⟩ : MethodName) prog_62_method_1_code 3 none :: ws) ({ frames := 2, cells := 0, slots := 0, locals := 24 } : Room)) (fun a U => a = #[(.ref a1), (.int p2), (.int p3)] ∧ Z.Warmed39 U.vm ∧ U.heap = h0) (fun _ _ _ _ _ => True) (fun _ U o U' => ∃ v L, o = .returned v ∧ Q1 Z a1 p2 p3 u_min_a1 u_max_a1 h0 n0 v U'.heap L ∧ FrameEnd U o U' L ({ frames := 2, cells := 0, slots := 0, locals := 24 } : Room).cells ({ frames := 2, cells := 0, slots := 0, locals := 24 } : Room).slots) := by
  refine MetFree.of_bodySF (plainFor_of_name pn_1) hisR ?_
  intro p e s m args below meth c s₁ Bd hml0 hP hK
  obtain ⟨rfl, hZ, hh⟩ := hP
  have hx := Bd.exec
  have hby := Bd.bytes
  have hml : c.maxLocals = 3 := hml0
  have hown : s.vm.findClass "com/example/limpet/limpet/protocol/VersionRange" = some m.cls := findClass_of_methodNamed Bd.named
  have hnm := (name_of_methodNamed Bd.named Bd.method).1
  have X0 : Stand p l e ({ frames := 2, cells := 0, slots := 0, locals := 24 } : Room) s m #[(.ref a1), (.int p2), (.int p3)] below meth c s₁ [] 0 0 := Stand.of_body Bd
  have e0 : s₁.heap = h0 := by rw [← hh, Bd.state]; rfl
  have N0 := Fr.nil n0
  have K0 : Keep h0 h0 [a1] := Keep.refl h0 _
  refine (show Gl p e below (fun o U' => ∃ v L, o = .returned v ∧ Q1 Z a1 p2 p3 u_min_a1 u_max_a1 h0 n0 v U'.heap L ∧ FrameEnd s o U' L ({ frames := 2, cells := 0, slots := 0, locals := 24 } : Room).cells ({ frames := 2, cells := 0, slots := 0, locals := 24 } : Room).slots) (s₁.setTop (entryFrame m #[(.ref a1), (.int p2), (.int p3)] 3)) from ?_)
  obtain ⟨L0, hL0⟩ : ∃ z : Array Slot, z = #[.val (.ref a1), .val (.int p2), .val (.int p3)] := ⟨_, rfl⟩
  refine Gl.st (B := (s₁.setTop (mkF m 0 L0 []))) (fun t k => castTop (efAt hL0 (ef_1 m a1 p2 p3)) k) ?_
  refine Gl.st (B := (s₁.setTop (mkF m 1 L0 [(.ref a1)]))) (fun t k => XS.aloadN X0.here hx rfl (hb hby d1_0) (ldAt hL0 rfl) rfl k) ?_
  obtain ⟨_, _, ⟨T1, L1q, k1, n1⟩, -, X1, ⟨Lc1, hQ1, l1, y1, z1⟩, st1⟩ := X0.specialBack hx (y := (⟨"java/lang/Record", "<init>", "()V"⟩ : MethodName)) rfl hown (mvT hZ (tw hw 8 rfl)) (mvT hZ (tw hw 9 rfl)) (mvT hZ (tw hw 12 rfl)) (by decide) (backOf (W := 0) (rm2 l Z a0 hw [] a1 h0 n0 Z0) hZ (tw hw 12 rfl) (tw hw 11 rfl) (by decide) (by decide)) (g := (mkF m 1 L0 [(.ref a1)])) rfl (szAt hml hL0 rfl) (Steps.refl _) (a := a1) (argsL := []) (rest := []) (lenOf pd_1_0 rfl) rfl (by show 2 * 0 + _ ≤ _; exact Nat.le_of_eq rfl) (hb hby d1_1) (fun _ _ => ⟨rfl, e0, (by decide : 0 + 0 ≤ _), (by decide : 0 + 0 ≤ _)⟩)
  dsimp only [Pt.U, Pt.locs, Pt.cells, Pt.slots] at X1 l1 y1 z1 st1 hQ1
  subst l1 y1 z1
  obtain ⟨rfl, N1q, eh1⟩ := hQ1
  have N1 := Fr.app N0 N1q
  refine Gl.st (B := (T1.setTop (mkF m 4 L0 []))) (fun t k => st1.trans k) ?_
  refine Gl.st (B := (T1.setTop (mkF m 5 L0 [(.int p2)]))) (fun t k => XS.iloadN X1.here hx rfl (hb hby d1_4) (ldAt hL0 rfl) k) ?_
  refine Gl.st (B := (T1.setTop (mkF m 8 L0 []))) (fun t k => XS.ifNo X1.here hx rfl (hb hby d1_5) rfl ((if0 _ _).trans (flt hq5).1) k) ?_
  refine Gl.st (B := (T1.setTop (mkF m 9 L0 [(.int p3)]))) (fun t k => XS.iloadN X1.here hx rfl (hb hby d1_8) (ldAt hL0 rfl) k) ?_
  refine Gl.st (B := (T1.setTop (mkF m 10 L0 [(.int p2), (.int p3)]))) (fun t k => XS.iloadN X1.here hx rfl (hb hby d1_9) (ldAt hL0 rfl) k) ?_
  refine Gl.st (B := (T1.setTop (mkF m 28 L0 []))) (fun t k => XS.icmpYes X1.here hx rfl (pc0 := 10) (pc' := 28) rfl (hb hby d1_10) rfl (flt hq10).2.1 (by decide) (by decide) k) ?_
  refine Gl.st (B := (T1.setTop (mkF m 29 L0 [(.ref a1)]))) (fun t k => XS.aloadN X1.here hx rfl (hb hby d1_28) (ldAt hL0 rfl) rfl k) ?_
  refine Gl.st (B := (T1.setTop (mkF m 30 L0 [(.int p2), (.ref a1)]))) (fun t k => XS.iloadN X1.here hx rfl (hb hby d1_29) (ldAt hL0 rfl) k) ?_
  obtain ⟨T4, h4, X4, e4, W4, st4⟩ := putFN X1 hx hZ hown (tw hw 16 rfl) Via.refl eh1 F_min_a1 E_a1 (Or.inr ⟨(tw hw 17 rfl), rfl, hnm⟩) (tw hw 3 rfl) (ty := .short) (v' := (.int (nar .short p2))) (by decide) rfl (fits_nar_short _) (g := (mkF m 30 L0 [(.int p2), (.ref a1)])) rfl rfl (hb hby d1_30)
  have Fw4 := F_min_a1.same W4
  have Zc5 : n0 ≤ h4.size := Nat.le_trans Z0 (Nat.le_of_eq W4.size.symm)
  have K6 : Keep h0 h4 [a1] := K0.wr W4 (Or.inl (List.mem_of_getElem? (i := 0) rfl))
  have N4 := Fr.snoc X4 N1 g_a1
  refine Gl.st (B := (T4.setTop (mkF m 33 L0 []))) st4 ?_
  refine Gl.st (B := (T4.setTop (mkF m 34 L0 [(.ref a1)]))) (fun t k => XS.aloadN X4.here hx rfl (hb hby d1_33) (ldAt hL0 rfl) rfl k) ?_
  refine Gl.st (B := (T4.setTop (mkF m 35 L0 [(.int p3), (.ref a1)]))) (fun t k => XS.iloadN X4.here hx rfl (hb hby d1_34) (ldAt hL0 rfl) k) ?_
  have c7 := (E_a1.wr W4)
  have c8 := (F_max_a1.other W4 (Or.inr (sn0 hw)))
  obtain ⟨T9, h9, X9, e9, W9, st9⟩ := putFN X4 hx hZ hown (tw hw 18 rfl) Via.refl e4 c8 c7 (Or.inr ⟨(tw hw 19 rfl), rfl, hnm⟩) (tw hw 3 rfl) (ty := .short) (v' := (.int (nar .short p3))) (by decide) rfl (fits_nar_short _) (g := (mkF m 35 L0 [(.int p3), (.ref a1)])) rfl rfl (hb hby d1_35)
  have Fw9 := c8.same W9
  have Zc10 : n0 ≤ h9.size := Nat.le_trans Zc5 (Nat.le_of_eq W9.size.symm)
  have K11 : Keep h0 h9 [a1] := K6.wr W9 (Or.inl (List.mem_of_getElem? (i := 0) rfl))
  have N9 := Fr.snoc X9 N4 g_a1
  refine Gl.st (B := (T9.setTop (mkF m 38 L0 []))) st9 ?_
  obtain ⟨fs, hr, hrun, hended, hW, hsame⟩ := X9.leave (v := none) (fun _ => rfl)
  refine Gl.fin (X9.returnOut hx Bd.returns (hb hby d1_38) hr) hrun hended ⟨_, _, rfl, ?_, ⟨_, rfl⟩, hW, hsame.mono (by decide) (by decide)⟩
  show Q1 Z a1 p2 p3 u_min_a1 u_max_a1 h0 n0 _ T9.heap _
  rw [e9]
  have c12 := (c7.wr W9)
  have c13 := (Fw4.other W9 (Or.inr (sn1 hw)))
  exact ⟨rfl, N9, K11, c12, c13, Fw9⟩
theorem d4_0 : decode prog_62_method_3_code 0 = .ok (.iload_n 1, 1) := by decide +kernel
theorem d4_1 : decode prog_62_method_3_code 1 = .ok (.aload_n 0, 1) := by decide +kernel
theorem d4_2 : decode prog_62_method_3_code 2 = .ok (.getfield 16, 3) := by decide +kernel
theorem d4_5 : decode prog_62_method_3_code 5 = .ok (.if_icmp .lt 15, 3) := by decide +kernel
theorem d4_8 : decode prog_62_method_3_code 8 = .ok (.iload_n 1, 1) := by decide +kernel
theorem d4_9 : decode prog_62_method_3_code 9 = .ok (.aload_n 0, 1) := by decide +kernel
theorem d4_10 : decode prog_62_method_3_code 10 = .ok (.getfield 22, 3) := by decide +kernel
theorem d4_13 : decode prog_62_method_3_code 13 = .ok (.if_icmp .gt 7, 3) := by decide +kernel
theorem d4_16 : decode prog_62_method_3_code 16 = .ok (.iconst 1, 1) := by decide +kernel
theorem d4_17 : decode prog_62_method_3_code 17 = .ok (.goto 4, 3) := by decide +kernel
theorem d4_20 : decode prog_62_method_3_code 20 = .ok (.iconst 0, 1) := by decide +kernel
theorem d4_21 : decode prog_62_method_3_code 21 = .ok (.ireturn, 1) := by decide +kernel
theorem pn_4 : plainName "com/example/limpet/limpet/protocol/VersionRange" = true := by first | (simp [plainName, overriddenIn]; done) | decide +kernel
theorem ef_4 (m : MethodId) (a1 : Addr) (p2 : Int32) : entryFrame m #[(.ref a1), (.int p2)] 2 = mkF m 0 #[.val (.ref a1), .val (.int p2)] [] := by first | (simp [entryFrame, mkF, argsToLocals, Value.category]; done) | rfl
def Q4 (Z : State) (a1 : Addr) (p2 : Int32) (w_min_a1 : Int32) (w_max_a1 : Int32) (h0 : Heap) (n0 : Nat) (v : Option Value) (h : Heap) (L : List Loc) : Prop := v = some (.int (if p2 < w_min_a1 then (0 : Int32) else ((if w_max_a1 < p2 then (0 : Int32) else (1 : Int32))))) ∧ Fr n0 L ∧ h = h0
set_option maxRecDepth 65536 in
set_option maxHeartbeats 40000000 in
theorem rm4 (l : Launch) (Z : State) (a0 : Array Value) (hw : ∀ d ∈ tables_1, d.before a0 Z = true) (ws : List Jvm.Cond) (a1 : Addr) (p2 : Int32) (w_min_a1 : Int32) (w_max_a1 : Int32) (h0 : Heap) (n0 : Nat) (Z0 : n0 ≤ h0.size) (F_min_a1 : Fld Z h0 a1 "com/example/limpet/limpet/protocol/VersionRange" "min" "S" (.int w_min_a1)) (F_max_a1 : Fld Z h0 a1 "com/example/limpet/limpet/protocol/VersionRange" "max" "S" (.int w_max_a1)) :
    MetFree l (⟨"com/example/limpet/limpet/protocol/VersionRange", "contains", "(S)Z"⟩ : MethodName) (head1 (Jvm.Cond.code (⟨"com/example/limpet/limpet/protocol/VersionRange", "contains", "(S)Z"⟩ : MethodName) prog_62_method_3_code 2 (some .boolean) :: ws) ({ frames := 0, cells := 0, slots := 0, locals := 0 } : Room)) (fun a U => a = #[(.ref a1), (.int p2)] ∧ Z.Warmed39 U.vm ∧ U.heap = h0) (fun _ _ _ _ _ => True) (fun _ U o U' => ∃ v L, o = .returned v ∧ Q4 Z a1 p2 w_min_a1 w_max_a1 h0 n0 v U'.heap L ∧ FrameEnd U o U' L ({ frames := 0, cells := 0, slots := 0, locals := 0 } : Room).cells ({ frames := 0, cells := 0, slots := 0, locals := 0 } : Room).slots) := by
  refine MetFree.of_bodySF (plainFor_of_name pn_4) hisR ?_
  intro p e s m args below meth c s₁ Bd hml0 hP hK
  obtain ⟨rfl, hZ, hh⟩ := hP
  have hx := Bd.exec
  have hby := Bd.bytes
  have hml : c.maxLocals = 2 := hml0
  have hown : s.vm.findClass "com/example/limpet/limpet/protocol/VersionRange" = some m.cls := findClass_of_methodNamed Bd.named
  have hnm := (name_of_methodNamed Bd.named Bd.method).1
  have X0 : Stand p l e ({ frames := 0, cells := 0, slots := 0, locals := 0 } : Room) s m #[(.ref a1), (.int p2)] below meth c s₁ [] 0 0 := Stand.of_body Bd
  have e0 : s₁.heap = h0 := by rw [← hh, Bd.state]; rfl
  have N0 := Fr.nil n0
  have K0 : Keep h0 h0 [] := Keep.refl h0 _
  refine (show Gl p e below (fun o U' => ∃ v L, o = .returned v ∧ Q4 Z a1 p2 w_min_a1 w_max_a1 h0 n0 v U'.heap L ∧ FrameEnd s o U' L ({ frames := 0, cells := 0, slots := 0, locals := 0 } : Room).cells ({ frames := 0, cells := 0, slots := 0, locals := 0 } : Room).slots) (s₁.setTop (entryFrame m #[(.ref a1), (.int p2)] 2)) from ?_)
  obtain ⟨L0, hL0⟩ : ∃ z : Array Slot, z = #[.val (.ref a1), .val (.int p2)] := ⟨_, rfl⟩
  refine Gl.st (B := (s₁.setTop (mkF m 0 L0 []))) (fun t k => castTop (efAt hL0 (ef_4 m a1 p2)) k) ?_
  refine Gl.st (B := (s₁.setTop (mkF m 1 L0 [(.int p2)]))) (fun t k => XS.iloadN X0.here hx rfl (hb hby d4_0) (ldAt hL0 rfl) k) ?_
  refine Gl.st (B := (s₁.setTop (mkF m 2 L0 [(.ref a1), (.int p2)]))) (fun t k => XS.aloadN X0.here hx rfl (hb hby d4_1) (ldAt hL0 rfl) rfl k) ?_
  obtain ⟨T1, X1, e1, st1⟩ := getF X0 hx hZ hown (host := "") (Or.inl (tw hw 16 rfl)) Via.refl e0 F_min_a1 (g := (mkF m 2 L0 [(.ref a1), (.int p2)])) rfl rfl (hb hby d4_2)
  refine Gl.st (B := (T1.setTop (mkF m 5 L0 [(.int w_min_a1), (.int p2)]))) st1 ?_
  by_cases hc5_2 : p2 < w_min_a1
  · skip
    refine Gl.st (B := (T1.setTop (mkF m 20 L0 []))) (fun t k => XS.icmpYes X1.here hx rfl (pc0 := 5) (pc' := 20) rfl (hb hby d4_5) rfl (tlt hc5_2).1 (by decide) (by decide) k) ?_
    refine Gl.st (B := (T1.setTop (mkF m 21 L0 [(.int (0 : Int32))]))) (fun t k => XS.iconst X1.here hx rfl (hb hby d4_20) k) ?_
    obtain ⟨fs, hr, hrun, hended, hW, hsame⟩ := X1.leave (v := some (.int (nar .boolean (0 : Int32)))) (fun h => by rw [Bd.returns] at h; cases h)
    refine Gl.fin (retN X1 hx (t := .boolean) Bd.returns (by simp) (hb hby d4_21) hr) hrun hended ⟨_, _, rfl, ?_, ⟨_, rfl⟩, hW, hsame.mono (by decide) (by decide)⟩
    show Q4 Z a1 p2 w_min_a1 w_max_a1 h0 n0 _ T1.heap _
    rw [e1]
    exact ⟨(by rw [if_pos hc5_2]; rfl), N0, rfl⟩
  · skip
    refine Gl.st (B := (T1.setTop (mkF m 8 L0 []))) (fun t k => XS.icmpNo X1.here hx rfl (hb hby d4_5) rfl (flt hc5_2).1 k) ?_
    refine Gl.st (B := (T1.setTop (mkF m 9 L0 [(.int p2)]))) (fun t k => XS.iloadN X1.here hx rfl (hb hby d4_8) (ldAt hL0 rfl) k) ?_
    refine Gl.st (B := (T1.setTop (mkF m 10 L0 [(.ref a1), (.int p2)]))) (fun t k => XS.aloadN X1.here hx rfl (hb hby d4_9) (ldAt hL0 rfl) rfl k) ?_
    obtain ⟨T3, X3, e3, st3⟩ := getF X1 hx hZ hown (host := "") (Or.inl (tw hw 18 rfl)) Via.refl e1 F_max_a1 (g := (mkF m 10 L0 [(.ref a1), (.int p2)])) rfl rfl (hb hby d4_10)
    refine Gl.st (B := (T3.setTop (mkF m 13 L0 [(.int w_max_a1), (.int p2)]))) st3 ?_
    obtain ⟨v21_s0_5, hv21_s0_5⟩ : ∃ z : Int32, z = (if w_max_a1 < p2 then (0 : Int32) else (1 : Int32)) := ⟨_, rfl⟩
    refine Gl.join (A := (T3.setTop (mkF m 21 L0 [(.int v21_s0_5)]))) (fun J13_5 => ?_) ?_
    · by_cases hc13_4 : w_max_a1 < p2
      · skip
        refine Gl.st (B := (T3.setTop (mkF m 20 L0 []))) (fun t k => XS.icmpYes X3.here hx rfl (pc0 := 13) (pc' := 20) rfl (hb hby d4_13) rfl (tlt hc13_4).2.2.1 (by decide) (by decide) k) ?_
        refine Gl.st (B := (T3.setTop (mkF m 21 L0 [(.int (0 : Int32))]))) (fun t k => XS.iconst X3.here hx rfl (hb hby d4_20) k) ?_
        have ev21_s0_5 : v21_s0_5 = (0 : Int32) := by rw [hv21_s0_5, if_pos hc13_4]
        rw [ev21_s0_5] at J13_5
        exact J13_5
      · skip
        refine Gl.st (B := (T3.setTop (mkF m 16 L0 []))) (fun t k => XS.icmpNo X3.here hx rfl (hb hby d4_13) rfl (flt hc13_4).2.2.1 k) ?_
        refine Gl.st (B := (T3.setTop (mkF m 17 L0 [(.int (1 : Int32))]))) (fun t k => XS.iconst X3.here hx rfl (hb hby d4_16) k) ?_
        refine Gl.st (B := (T3.setTop (mkF m 21 L0 [(.int (1 : Int32))]))) (fun t k => XS.goto X3.here hx rfl (pc0 := 17) (pc' := 21) rfl (hb hby d4_17) (by decide) (by decide) k) ?_
        have ev21_s0_5 : v21_s0_5 = (1 : Int32) := by rw [hv21_s0_5, if_neg hc13_4]
        rw [ev21_s0_5] at J13_5
        exact J13_5
    obtain ⟨fs, hr, hrun, hended, hW, hsame⟩ := X3.leave (v := some (.int (nar .boolean v21_s0_5))) (fun h => by rw [Bd.returns] at h; cases h)
    refine Gl.fin (retN X3 hx (t := .boolean) Bd.returns (by simp) (hb hby d4_21) hr) hrun hended ⟨_, _, rfl, ?_, ⟨_, rfl⟩, hW, hsame.mono (by decide) (by decide)⟩
    show Q4 Z a1 p2 w_min_a1 w_max_a1 h0 n0 _ T3.heap _
    rw [e3]
    exact ⟨(by subst hv21_s0_5; rw [if_neg hc5_2]; exact congrArg (fun z => some (Value.int z)) (own_nb rfl rfl)), N0, rfl⟩
theorem d5_0 : decode jdk_29_method_69_code 0 = .ok (.iload_n 0, 1) := by decide +kernel
theorem d5_1 : decode jdk_29_method_69_code 1 = .ok (.iload_n 1, 1) := by decide +kernel
theorem d5_2 : decode jdk_29_method_69_code 2 = .ok (.if_icmp .gt 7, 3) := by decide +kernel
theorem d5_5 : decode jdk_29_method_69_code 5 = .ok (.iload_n 0, 1) := by decide +kernel
theorem d5_6 : decode jdk_29_method_69_code 6 = .ok (.goto 4, 3) := by decide +kernel
theorem d5_9 : decode jdk_29_method_69_code 9 = .ok (.iload_n 1, 1) := by decide +kernel
theorem d5_10 : decode jdk_29_method_69_code 10 = .ok (.ireturn, 1) := by decide +kernel
theorem ef_5 (m : MethodId) (p1 : Int32) (p2 : Int32) : entryFrame m #[(.int p1), (.int p2)] 2 = mkF m 0 #[.val (.int p1), .val (.int p2)] [] := by first | (simp [entryFrame, mkF, argsToLocals, Value.category]; done) | rfl
def Q5 (Z : State) (p1 : Int32) (p2 : Int32) (h0 : Heap) (n0 : Nat) (v : Option Value) (h : Heap) (L : List Loc) : Prop := v = some (.int ((if p2 < p1 then p2 else p1))) ∧ Fr n0 L ∧ h = h0
set_option maxRecDepth 65536 in
set_option maxHeartbeats 40000000 in
theorem rm5 (l : Launch) (Z : State) (a0 : Array Value) (hw : ∀ d ∈ tables_1, d.before a0 Z = true) (ws : List Jvm.Cond) (p1 : Int32) (p2 : Int32) (h0 : Heap) (n0 : Nat) (Z0 : n0 ≤ h0.size) :
    MetFree l (⟨"java/lang/Math", "min", "(II)I"⟩ : MethodName) (head1 (Jvm.Cond.code (⟨"java/lang/Math", "min", "(II)I"⟩ : MethodName) jdk_29_method_69_code 2 (some .int) :: ws) ({ frames := 0, cells := 0, slots := 0, locals := 0 } : Room)) (fun a U => a = #[(.int p1), (.int p2)] ∧ Z.Warmed39 U.vm ∧ U.heap = h0) (fun _ _ _ _ _ => True) (fun _ U o U' => ∃ v L, o = .returned v ∧ Q5 Z p1 p2 h0 n0 v U'.heap L ∧ FrameEnd U o U' L ({ frames := 0, cells := 0, slots := 0, locals := 0 } : Room).cells ({ frames := 0, cells := 0, slots := 0, locals := 0 } : Room).slots) := by
  refine MetFree.of_bodySF (Jvm.Free.JP.mathPlain rfl (by decide +kernel)) hisR ?_
  intro p e s m args below meth c s₁ Bd hml0 hP hK
  obtain ⟨rfl, hZ, hh⟩ := hP
  have hx := Bd.exec
  have hby := Bd.bytes
  have hml : c.maxLocals = 2 := hml0
  have hown : s.vm.findClass "java/lang/Math" = some m.cls := findClass_of_methodNamed Bd.named
  have hnm := (name_of_methodNamed Bd.named Bd.method).1
  have X0 : Stand p l e ({ frames := 0, cells := 0, slots := 0, locals := 0 } : Room) s m #[(.int p1), (.int p2)] below meth c s₁ [] 0 0 := Stand.of_body Bd
  have e0 : s₁.heap = h0 := by rw [← hh, Bd.state]; rfl
  have N0 := Fr.nil n0
  have K0 : Keep h0 h0 [] := Keep.refl h0 _
  refine (show Gl p e below (fun o U' => ∃ v L, o = .returned v ∧ Q5 Z p1 p2 h0 n0 v U'.heap L ∧ FrameEnd s o U' L ({ frames := 0, cells := 0, slots := 0, locals := 0 } : Room).cells ({ frames := 0, cells := 0, slots := 0, locals := 0 } : Room).slots) (s₁.setTop (entryFrame m #[(.int p1), (.int p2)] 2)) from ?_)
  obtain ⟨L0, hL0⟩ : ∃ z : Array Slot, z = #[.val (.int p1), .val (.int p2)] := ⟨_, rfl⟩
  refine Gl.st (B := (s₁.setTop (mkF m 0 L0 []))) (fun t k => castTop (efAt hL0 (ef_5 m p1 p2)) k) ?_
  refine Gl.st (B := (s₁.setTop (mkF m 1 L0 [(.int p1)]))) (fun t k => XS.iloadN X0.here hx rfl (hb hby d5_0) (ldAt hL0 rfl) k) ?_
  refine Gl.st (B := (s₁.setTop (mkF m 2 L0 [(.int p2), (.int p1)]))) (fun t k => XS.iloadN X0.here hx rfl (hb hby d5_1) (ldAt hL0 rfl) k) ?_
  obtain ⟨v10_s0_2, hv10_s0_2⟩ : ∃ z : Int32, z = (if p2 < p1 then p2 else p1) := ⟨_, rfl⟩
  refine Gl.join (A := (s₁.setTop (mkF m 10 L0 [(.int v10_s0_2)]))) (fun J2_2 => ?_) ?_
  · by_cases hc2_1 : p2 < p1
    · skip
      refine Gl.st (B := (s₁.setTop (mkF m 9 L0 []))) (fun t k => XS.icmpYes X0.here hx rfl (pc0 := 2) (pc' := 9) rfl (hb hby d5_2) rfl (tlt hc2_1).2.2.1 (by decide) (by decide) k) ?_
      refine Gl.st (B := (s₁.setTop (mkF m 10 L0 [(.int p2)]))) (fun t k => XS.iloadN X0.here hx rfl (hb hby d5_9) (ldAt hL0 rfl) k) ?_
      have ev10_s0_2 : v10_s0_2 = p2 := by rw [hv10_s0_2, if_pos hc2_1]
      rw [ev10_s0_2] at J2_2
      exact J2_2
    · skip
      refine Gl.st (B := (s₁.setTop (mkF m 5 L0 []))) (fun t k => XS.icmpNo X0.here hx rfl (hb hby d5_2) rfl (flt hc2_1).2.2.1 k) ?_
      refine Gl.st (B := (s₁.setTop (mkF m 6 L0 [(.int p1)]))) (fun t k => XS.iloadN X0.here hx rfl (hb hby d5_5) (ldAt hL0 rfl) k) ?_
      refine Gl.st (B := (s₁.setTop (mkF m 10 L0 [(.int p1)]))) (fun t k => XS.goto X0.here hx rfl (pc0 := 6) (pc' := 10) rfl (hb hby d5_6) (by decide) (by decide) k) ?_
      have ev10_s0_2 : v10_s0_2 = p1 := by rw [hv10_s0_2, if_neg hc2_1]
      rw [ev10_s0_2] at J2_2
      exact J2_2
  obtain ⟨fs, hr, hrun, hended, hW, hsame⟩ := X0.leave (v := some (.int v10_s0_2)) (fun h => by rw [Bd.returns] at h; cases h)
  refine Gl.fin (retI X0 hx Bd.returns (hb hby d5_10) hr) hrun hended ⟨_, _, rfl, ?_, ⟨_, rfl⟩, hW, hsame.mono (by decide) (by decide)⟩
  show Q5 Z p1 p2 h0 n0 _ s₁.heap _
  rw [e0]
  exact ⟨(by subst hv10_s0_2; rfl), N0, rfl⟩
theorem d6_0 : decode jdk_29_method_65_code 0 = .ok (.iload_n 0, 1) := by decide +kernel
theorem d6_1 : decode jdk_29_method_65_code 1 = .ok (.iload_n 1, 1) := by decide +kernel
theorem d6_2 : decode jdk_29_method_65_code 2 = .ok (.if_icmp .lt 7, 3) := by decide +kernel
theorem d6_5 : decode jdk_29_method_65_code 5 = .ok (.iload_n 0, 1) := by decide +kernel
theorem d6_6 : decode jdk_29_method_65_code 6 = .ok (.goto 4, 3) := by decide +kernel
theorem d6_9 : decode jdk_29_method_65_code 9 = .ok (.iload_n 1, 1) := by decide +kernel
theorem d6_10 : decode jdk_29_method_65_code 10 = .ok (.ireturn, 1) := by decide +kernel
theorem ef_6 (m : MethodId) (p1 : Int32) (p2 : Int32) : entryFrame m #[(.int p1), (.int p2)] 2 = mkF m 0 #[.val (.int p1), .val (.int p2)] [] := by first | (simp [entryFrame, mkF, argsToLocals, Value.category]; done) | rfl
def Q6 (Z : State) (p1 : Int32) (p2 : Int32) (h0 : Heap) (n0 : Nat) (v : Option Value) (h : Heap) (L : List Loc) : Prop := v = some (.int ((if p1 < p2 then p2 else p1))) ∧ Fr n0 L ∧ h = h0
set_option maxRecDepth 65536 in
set_option maxHeartbeats 40000000 in
theorem rm6 (l : Launch) (Z : State) (a0 : Array Value) (hw : ∀ d ∈ tables_1, d.before a0 Z = true) (ws : List Jvm.Cond) (p1 : Int32) (p2 : Int32) (h0 : Heap) (n0 : Nat) (Z0 : n0 ≤ h0.size) :
    MetFree l (⟨"java/lang/Math", "max", "(II)I"⟩ : MethodName) (head1 (Jvm.Cond.code (⟨"java/lang/Math", "max", "(II)I"⟩ : MethodName) jdk_29_method_65_code 2 (some .int) :: ws) ({ frames := 0, cells := 0, slots := 0, locals := 0 } : Room)) (fun a U => a = #[(.int p1), (.int p2)] ∧ Z.Warmed39 U.vm ∧ U.heap = h0) (fun _ _ _ _ _ => True) (fun _ U o U' => ∃ v L, o = .returned v ∧ Q6 Z p1 p2 h0 n0 v U'.heap L ∧ FrameEnd U o U' L ({ frames := 0, cells := 0, slots := 0, locals := 0 } : Room).cells ({ frames := 0, cells := 0, slots := 0, locals := 0 } : Room).slots) := by
  refine MetFree.of_bodySF (Jvm.Free.JP.mathPlain rfl (by decide +kernel)) hisR ?_
  intro p e s m args below meth c s₁ Bd hml0 hP hK
  obtain ⟨rfl, hZ, hh⟩ := hP
  have hx := Bd.exec
  have hby := Bd.bytes
  have hml : c.maxLocals = 2 := hml0
  have hown : s.vm.findClass "java/lang/Math" = some m.cls := findClass_of_methodNamed Bd.named
  have hnm := (name_of_methodNamed Bd.named Bd.method).1
  have X0 : Stand p l e ({ frames := 0, cells := 0, slots := 0, locals := 0 } : Room) s m #[(.int p1), (.int p2)] below meth c s₁ [] 0 0 := Stand.of_body Bd
  have e0 : s₁.heap = h0 := by rw [← hh, Bd.state]; rfl
  have N0 := Fr.nil n0
  have K0 : Keep h0 h0 [] := Keep.refl h0 _
  refine (show Gl p e below (fun o U' => ∃ v L, o = .returned v ∧ Q6 Z p1 p2 h0 n0 v U'.heap L ∧ FrameEnd s o U' L ({ frames := 0, cells := 0, slots := 0, locals := 0 } : Room).cells ({ frames := 0, cells := 0, slots := 0, locals := 0 } : Room).slots) (s₁.setTop (entryFrame m #[(.int p1), (.int p2)] 2)) from ?_)
  obtain ⟨L0, hL0⟩ : ∃ z : Array Slot, z = #[.val (.int p1), .val (.int p2)] := ⟨_, rfl⟩
  refine Gl.st (B := (s₁.setTop (mkF m 0 L0 []))) (fun t k => castTop (efAt hL0 (ef_6 m p1 p2)) k) ?_
  refine Gl.st (B := (s₁.setTop (mkF m 1 L0 [(.int p1)]))) (fun t k => XS.iloadN X0.here hx rfl (hb hby d6_0) (ldAt hL0 rfl) k) ?_
  refine Gl.st (B := (s₁.setTop (mkF m 2 L0 [(.int p2), (.int p1)]))) (fun t k => XS.iloadN X0.here hx rfl (hb hby d6_1) (ldAt hL0 rfl) k) ?_
  obtain ⟨v10_s0_2, hv10_s0_2⟩ : ∃ z : Int32, z = (if p1 < p2 then p2 else p1) := ⟨_, rfl⟩
  refine Gl.join (A := (s₁.setTop (mkF m 10 L0 [(.int v10_s0_2)]))) (fun J2_2 => ?_) ?_
  · by_cases hc2_1 : p1 < p2
    · skip
      refine Gl.st (B := (s₁.setTop (mkF m 9 L0 []))) (fun t k => XS.icmpYes X0.here hx rfl (pc0 := 2) (pc' := 9) rfl (hb hby d6_2) rfl (tlt hc2_1).1 (by decide) (by decide) k) ?_
      refine Gl.st (B := (s₁.setTop (mkF m 10 L0 [(.int p2)]))) (fun t k => XS.iloadN X0.here hx rfl (hb hby d6_9) (ldAt hL0 rfl) k) ?_
      have ev10_s0_2 : v10_s0_2 = p2 := by rw [hv10_s0_2, if_pos hc2_1]
      rw [ev10_s0_2] at J2_2
      exact J2_2
    · skip
      refine Gl.st (B := (s₁.setTop (mkF m 5 L0 []))) (fun t k => XS.icmpNo X0.here hx rfl (hb hby d6_2) rfl (flt hc2_1).1 k) ?_
      refine Gl.st (B := (s₁.setTop (mkF m 6 L0 [(.int p1)]))) (fun t k => XS.iloadN X0.here hx rfl (hb hby d6_5) (ldAt hL0 rfl) k) ?_
      refine Gl.st (B := (s₁.setTop (mkF m 10 L0 [(.int p1)]))) (fun t k => XS.goto X0.here hx rfl (pc0 := 6) (pc' := 10) rfl (hb hby d6_6) (by decide) (by decide) k) ?_
      have ev10_s0_2 : v10_s0_2 = p1 := by rw [hv10_s0_2, if_neg hc2_1]
      rw [ev10_s0_2] at J2_2
      exact J2_2
  obtain ⟨fs, hr, hrun, hended, hW, hsame⟩ := X0.leave (v := some (.int v10_s0_2)) (fun h => by rw [Bd.returns] at h; cases h)
  refine Gl.fin (retI X0 hx Bd.returns (hb hby d6_10) hr) hrun hended ⟨_, _, rfl, ?_, ⟨_, rfl⟩, hW, hsame.mono (by decide) (by decide)⟩
  show Q6 Z p1 p2 h0 n0 _ s₁.heap _
  rw [e0]
  exact ⟨(by subst hv10_s0_2; rfl), N0, rfl⟩
theorem pn_0 : plainName "com/example/limpet/limpet/protocol/VersionRangeContainsPinLaw" = true := by first | (simp [plainName, overriddenIn]; done) | decide +kernel
theorem pd_0_0 : parseMethodDescriptor "(SS)V" = some ⟨[.short, .short], none⟩ := by decide +kernel
theorem pd_0_1 : parseMethodDescriptor "(S)Z" = some ⟨[.short], some .boolean⟩ := by decide +kernel
theorem pd_0_2 : parseMethodDescriptor "(II)I" = some ⟨[.int, .int], some .int⟩ := by decide +kernel
theorem ef_0 (m : MethodId) (p1 : Int32) (p2 : Int32) (p3 : Int32) (p4 : Int32) : entryFrame m #[(.int p1), (.int p2), (.int p3), (.int p4)] maxLocals = mkF m 0 #[.val (.int p1), .val (.int p2), .val (.int p3), .val (.int p4), .unset, .unset, .unset, .unset, .unset, .unset, .unset, .unset, .unset, .unset] [] := by first | (simp [entryFrame, mkF, argsToLocals, Value.category, maxLocals]; done) | rfl
theorem own_0_nz22 (p1 : Int32) (y4_5_1 : Int32) (y5_12_3 : Int32) (hy4_5_1 : y4_5_1 = (p1 &&& (32767 : Int32))) (hy5_12_3 : y5_12_3 = ((32768 : Int32) - y4_5_1))  : y5_12_3 ≠ (0 : Int32) := by
  have r := own_rng p1 p1 y4_5_1 y5_12_3 _ hy4_5_1 hy5_12_3 rfl
  intro q
  rw [q] at r
  simp only [Int32.reduceToInt] at r
  omega
theorem own_0_nz107 (p1 : Int32) (y4_5_1 : Int32) (p2 : Int32) (y5_12_3 : Int32) (y6_24_5 : Int32) (hy4_5_1 : y4_5_1 = (p1 &&& (32767 : Int32))) (hy5_12_3 : y5_12_3 = ((32768 : Int32) - y4_5_1)) (hy6_24_5 : y6_24_5 = (y4_5_1 + ((p2 &&& (2147483647 : Int32)) % y5_12_3)))  : ((y6_24_5 - y4_5_1) + (1 : Int32)) ≠ (0 : Int32) := by
  have r := own_rng p1 p2 y4_5_1 y5_12_3 y6_24_5 hy4_5_1 hy5_12_3 hy6_24_5
  have b1 := c_isub y6_24_5 y4_5_1
  have b2 := c_iadd (y6_24_5 - y4_5_1) (1 : Int32)
  have z := rng32 (y6_24_5 - y4_5_1)
  intro q
  rw [q] at b2
  clear q hy4_5_1 hy5_12_3 hy6_24_5
  simp only [Int32.reduceToInt] at *
  omega
theorem own_0_hp132_39 (p1 : Int32) (y4_5_1 : Int32) (x132_37 : Int32) (hy4_5_1 : y4_5_1 = (p1 &&& (32767 : Int32))) (hx132_37 : x132_37 = (y4_5_1.toInt16.toInt32))  : ¬ (x132_37 < (0 : Int32)) := by
  have r := own_rng p1 p1 y4_5_1 _ _ hy4_5_1 rfl rfl
  have b := c_i2s y4_5_1
  rw [← hx132_37] at b
  rw [Int32.lt_iff_toInt_lt]
  simp only [Int32.reduceToInt]
  omega
theorem own_0_hp132_40 (p1 : Int32) (y4_5_1 : Int32) (p2 : Int32) (y5_12_3 : Int32) (y6_24_5 : Int32) (x132_36 : Int32) (x132_37 : Int32) (hy4_5_1 : y4_5_1 = (p1 &&& (32767 : Int32))) (hy5_12_3 : y5_12_3 = ((32768 : Int32) - y4_5_1)) (hy6_24_5 : y6_24_5 = (y4_5_1 + ((p2 &&& (2147483647 : Int32)) % y5_12_3))) (hx132_36 : x132_36 = (y6_24_5.toInt16.toInt32)) (hx132_37 : x132_37 = (y4_5_1.toInt16.toInt32))  : ¬ (x132_36 < x132_37) := by
  have r := own_rng p1 p2 y4_5_1 y5_12_3 y6_24_5 hy4_5_1 hy5_12_3 hy6_24_5
  have b := c_i2s y4_5_1
  rw [← hx132_37] at b
  have b2 := c_i2s y6_24_5
  rw [← hx132_36] at b2
  rw [Int32.lt_iff_toInt_lt]
  omega
theorem own_0_hc178_54 (p4 : Int32) (y7_30_7 : Int32) (p1 : Int32) (y4_5_1 : Int32) (p2 : Int32) (y5_12_3 : Int32) (y6_24_5 : Int32) (p3 : Int32) (v117_8_20 : Int32) (y9_120_32 : Int32) (x132_37 : Int32) (x132_36 : Int32) (r141_44 : Int32) (r156_48 : Int32) (r159_50 : Int32) (v172_s0_52 : Int32) (hy7_30_7 : y7_30_7 = (p4 &&& (7 : Int32))) (hy4_5_1 : y4_5_1 = (p1 &&& (32767 : Int32))) (hy5_12_3 : y5_12_3 = ((32768 : Int32) - y4_5_1)) (hy6_24_5 : y6_24_5 = (y4_5_1 + ((p2 &&& (2147483647 : Int32)) % y5_12_3))) (hv117_8_20 : v117_8_20 = (if y7_30_7 = (1 : Int32) then y4_5_1 else (if y7_30_7 = (2 : Int32) then y6_24_5 else (if y7_30_7 = (3 : Int32) then (y4_5_1 - (1 : Int32)) else (if y7_30_7 = (4 : Int32) then (y6_24_5 + (1 : Int32)) else (if y7_30_7 = (5 : Int32) then (y4_5_1 + ((p3 &&& (2147483647 : Int32)) % ((y6_24_5 - y4_5_1) + (1 : Int32)))) else p3)))))) (hy9_120_32 : y9_120_32 = (v117_8_20.toInt16.toInt32)) (hx132_37 : x132_37 = (y4_5_1.toInt16.toInt32)) (hx132_36 : x132_36 = (y6_24_5.toInt16.toInt32)) (hr141_44 : r141_44 = (if y9_120_32 < (nar .short x132_37) then (0 : Int32) else ((if (nar .short x132_36) < y9_120_32 then (0 : Int32) else (1 : Int32))))) (hr156_48 : r156_48 = ((if y6_24_5 < y9_120_32 then y6_24_5 else y9_120_32))) (hr159_50 : r159_50 = ((if y4_5_1 < r156_48 then r156_48 else y4_5_1))) (hv172_s0_52 : v172_s0_52 = (if r159_50 = y9_120_32 then (1 : Int32) else (0 : Int32)))  : r141_44 = v172_s0_52 := by
  have r := own_rng p1 p2 y4_5_1 y5_12_3 y6_24_5 hy4_5_1 hy5_12_3 hy6_24_5
  have b1 := c_i2s y4_5_1
  rw [← hx132_37] at b1
  have b2 := c_i2s y6_24_5
  rw [← hx132_36] at b2
  have b3 := c_i2s x132_37
  have b4 := c_i2s x132_36
  have n1 : nar .short x132_37 = y4_5_1 := by
    rw [← Int32.toInt_inj]
    show x132_37.toInt16.toInt32.toInt = _
    omega
  have n2 : nar .short x132_36 = y6_24_5 := by
    rw [← Int32.toInt_inj]
    show x132_36.toInt16.toInt32.toInt = _
    omega
  rw [n1, n2] at hr141_44
  clear b1 b2 b3 b4 n1 n2 hx132_37 hx132_36 hy4_5_1 hy5_12_3 hy6_24_5 hy9_120_32 hv117_8_20
  split at hr156_48
  all_goals split at hr159_50
  all_goals split at hv172_s0_52
  all_goals repeat' split at hr141_44
  all_goals (simp only [← Int32.toInt_inj, Int32.lt_iff_toInt_lt, Int32.reduceToInt] at * <;> omega)
def Q0 (Z : State) (p1 : Int32) (p2 : Int32) (p3 : Int32) (p4 : Int32) (h0 : Heap) (n0 : Nat) (v : Option Value) (h : Heap) (L : List Loc) : Prop := v = some (.int (1 : Int32)) ∧ Fr n0 L
set_option maxRecDepth 65536 in
set_option maxHeartbeats 40000000 in
theorem rm0 (l : Launch) (Z : State) (a0 : Array Value) (hw : ∀ d ∈ tables_1, d.before a0 Z = true) (ws : List Jvm.Cond) (p1 : Int32) (p2 : Int32) (p3 : Int32) (p4 : Int32) (h0 : Heap) (n0 : Nat) (Z0 : n0 ≤ h0.size) :
    MetFree l x (head1 (Jvm.Cond.code x code maxLocals ret :: ws) room_1) (fun a U => a = #[(.int p1), (.int p2), (.int p3), (.int p4)] ∧ Z.Warmed39 U.vm ∧ U.heap = h0) (fun _ _ _ _ _ => True) (fun _ U o U' => ∃ v L, o = .returned v ∧ Q0 Z p1 p2 p3 p4 h0 n0 v U'.heap L ∧ FrameEnd U o U' L room_1.cells room_1.slots) := by
  refine MetFree.of_bodySF (plainFor_of_name pn_0) hisR ?_
  intro p e s m args below meth c s₁ Bd hml0 hP hK
  obtain ⟨rfl, hZ, hh⟩ := hP
  have hx := Bd.exec
  have hby := Bd.bytes
  have hml : c.maxLocals = 14 := hml0
  have hown : s.vm.findClass "com/example/limpet/limpet/protocol/VersionRangeContainsPinLaw" = some m.cls := findClass_of_methodNamed Bd.named
  have hnm := (name_of_methodNamed Bd.named Bd.method).1
  have X0 : Stand p l e room_1 s m #[(.int p1), (.int p2), (.int p3), (.int p4)] below meth c s₁ [] 0 0 := Stand.of_body Bd
  have e0 : s₁.heap = h0 := by rw [← hh, Bd.state]; rfl
  have N0 := Fr.nil n0
  refine (show Gl p e below (fun o U' => ∃ v L, o = .returned v ∧ Q0 Z p1 p2 p3 p4 h0 n0 v U'.heap L ∧ FrameEnd s o U' L room_1.cells room_1.slots) (s₁.setTop (entryFrame m #[(.int p1), (.int p2), (.int p3), (.int p4)] maxLocals)) from ?_)
  obtain ⟨L0, hL0⟩ : ∃ z : Array Slot, z = #[.val (.int p1), .val (.int p2), .val (.int p3), .val (.int p4), .unset, .unset, .unset, .unset, .unset, .unset, .unset, .unset, .unset, .unset] := ⟨_, rfl⟩
  refine Gl.st (B := (s₁.setTop (mkF m 0 L0 []))) (fun t k => castTop (efAt hL0 (ef_0 m p1 p2 p3 p4)) k) ?_
  refine Gl.st (B := (s₁.setTop (mkF m 1 L0 [(.int p1)]))) (fun t k => XS.iloadN X0.here hx rfl (hb hby at_0) (ldAt hL0 rfl) k) ?_
  refine Gl.st (B := (s₁.setTop (mkF m 4 L0 [(.int (32767 : Int32)), (.int p1)]))) (fun t k => XS.sipush X0.here hx rfl (hb hby at_1) k) ?_
  refine Gl.st (B := (s₁.setTop (mkF m 5 L0 [(.int (p1 &&& (32767 : Int32)))]))) (fun t k => XS.iand X0.here hx rfl (hb hby at_4) rfl k) ?_
  obtain ⟨y4_5_1, hy4_5_1⟩ : ∃ z : Int32, z = (p1 &&& (32767 : Int32)) := ⟨_, rfl⟩
  refine Gl.cast (B := (s₁.setTop (mkF m 5 L0 [(.int y4_5_1)]))) (by rw [hy4_5_1]) ?_
  obtain ⟨L2, hL2⟩ : ∃ z : Array Slot, z = #[.val (.int p1), .val (.int p2), .val (.int p3), .val (.int p4), .val (.int y4_5_1), .unset, .unset, .unset, .unset, .unset, .unset, .unset, .unset, .unset] := ⟨_, rfl⟩
  refine Gl.st (B := (s₁.setTop (mkF m 7 L2 []))) (fun t k => XS.istore X0.here hx rfl (hb hby at_5) rfl (l' := L2) (stAt hL0 hL2 rfl rfl) k) ?_
  refine Gl.st (B := (s₁.setTop (mkF m 9 L2 [(.int (32768 : Int32))]))) (fun t k => X0.ldcInt hx hown (mvT hZ (tw hw 0 rfl)) (g := (mkF m 7 L2 [])) rfl (hb hby at_7) _ k) ?_
  refine Gl.st (B := (s₁.setTop (mkF m 11 L2 [(.int y4_5_1), (.int (32768 : Int32))]))) (fun t k => XS.iload X0.here hx rfl (hb hby at_9) (ldAt hL2 rfl) k) ?_
  refine Gl.st (B := (s₁.setTop (mkF m 12 L2 [(.int ((32768 : Int32) - y4_5_1))]))) (fun t k => XS.isub X0.here hx rfl (hb hby at_11) rfl k) ?_
  obtain ⟨y5_12_3, hy5_12_3⟩ : ∃ z : Int32, z = ((32768 : Int32) - y4_5_1) := ⟨_, rfl⟩
  refine Gl.cast (B := (s₁.setTop (mkF m 12 L2 [(.int y5_12_3)]))) (by rw [hy5_12_3]) ?_
  obtain ⟨L4, hL4⟩ : ∃ z : Array Slot, z = #[.val (.int p1), .val (.int p2), .val (.int p3), .val (.int p4), .val (.int y4_5_1), .val (.int y5_12_3), .unset, .unset, .unset, .unset, .unset, .unset, .unset, .unset] := ⟨_, rfl⟩
  refine Gl.st (B := (s₁.setTop (mkF m 14 L4 []))) (fun t k => XS.istore X0.here hx rfl (hb hby at_12) rfl (l' := L4) (stAt hL2 hL4 rfl rfl) k) ?_
  refine Gl.st (B := (s₁.setTop (mkF m 16 L4 [(.int y4_5_1)]))) (fun t k => XS.iload X0.here hx rfl (hb hby at_14) (ldAt hL4 rfl) k) ?_
  refine Gl.st (B := (s₁.setTop (mkF m 17 L4 [(.int p2), (.int y4_5_1)]))) (fun t k => XS.iloadN X0.here hx rfl (hb hby at_16) (ldAt hL4 rfl) k) ?_
  refine Gl.st (B := (s₁.setTop (mkF m 19 L4 [(.int (2147483647 : Int32)), (.int p2), (.int y4_5_1)]))) (fun t k => X0.ldcInt hx hown (mvT hZ (tw hw 1 rfl)) (g := (mkF m 17 L4 [(.int p2), (.int y4_5_1)])) rfl (hb hby at_17) _ k) ?_
  refine Gl.st (B := (s₁.setTop (mkF m 20 L4 [(.int (p2 &&& (2147483647 : Int32))), (.int y4_5_1)]))) (fun t k => XS.iand X0.here hx rfl (hb hby at_19) rfl k) ?_
  refine Gl.st (B := (s₁.setTop (mkF m 22 L4 [(.int y5_12_3), (.int (p2 &&& (2147483647 : Int32))), (.int y4_5_1)]))) (fun t k => XS.iload X0.here hx rfl (hb hby at_20) (ldAt hL4 rfl) k) ?_
  have nz22 : y5_12_3 ≠ (0 : Int32) := own_0_nz22 p1 y4_5_1 y5_12_3 hy4_5_1 hy5_12_3 
  refine Gl.st (B := (s₁.setTop (mkF m 23 L4 [(.int ((p2 &&& (2147483647 : Int32)) % y5_12_3)), (.int y4_5_1)]))) (fun t k => iremM X0 hx rfl (hb hby at_22) rfl nz22 k) ?_
  refine Gl.st (B := (s₁.setTop (mkF m 24 L4 [(.int (y4_5_1 + ((p2 &&& (2147483647 : Int32)) % y5_12_3)))]))) (fun t k => XS.iadd X0.here hx rfl (hb hby at_23) rfl k) ?_
  obtain ⟨y6_24_5, hy6_24_5⟩ : ∃ z : Int32, z = (y4_5_1 + ((p2 &&& (2147483647 : Int32)) % y5_12_3)) := ⟨_, rfl⟩
  refine Gl.cast (B := (s₁.setTop (mkF m 24 L4 [(.int y6_24_5)]))) (by rw [hy6_24_5]) ?_
  obtain ⟨L6, hL6⟩ : ∃ z : Array Slot, z = #[.val (.int p1), .val (.int p2), .val (.int p3), .val (.int p4), .val (.int y4_5_1), .val (.int y5_12_3), .val (.int y6_24_5), .unset, .unset, .unset, .unset, .unset, .unset, .unset] := ⟨_, rfl⟩
  refine Gl.st (B := (s₁.setTop (mkF m 26 L6 []))) (fun t k => XS.istore X0.here hx rfl (hb hby at_24) rfl (l' := L6) (stAt hL4 hL6 rfl rfl) k) ?_
  refine Gl.st (B := (s₁.setTop (mkF m 27 L6 [(.int p4)]))) (fun t k => XS.iloadN X0.here hx rfl (hb hby at_26) (ldAt hL6 rfl) k) ?_
  refine Gl.st (B := (s₁.setTop (mkF m 29 L6 [(.int (7 : Int32)), (.int p4)]))) (fun t k => XS.bipush X0.here hx rfl (hb hby at_27) k) ?_
  refine Gl.st (B := (s₁.setTop (mkF m 30 L6 [(.int (p4 &&& (7 : Int32)))]))) (fun t k => XS.iand X0.here hx rfl (hb hby at_29) rfl k) ?_
  obtain ⟨y7_30_7, hy7_30_7⟩ : ∃ z : Int32, z = (p4 &&& (7 : Int32)) := ⟨_, rfl⟩
  refine Gl.cast (B := (s₁.setTop (mkF m 30 L6 [(.int y7_30_7)]))) (by rw [hy7_30_7]) ?_
  obtain ⟨L8, hL8⟩ : ∃ z : Array Slot, z = #[.val (.int p1), .val (.int p2), .val (.int p3), .val (.int p4), .val (.int y4_5_1), .val (.int y5_12_3), .val (.int y6_24_5), .val (.int y7_30_7), .unset, .unset, .unset, .unset, .unset, .unset] := ⟨_, rfl⟩
  refine Gl.st (B := (s₁.setTop (mkF m 32 L8 []))) (fun t k => XS.istore X0.here hx rfl (hb hby at_30) rfl (l' := L8) (stAt hL6 hL8 rfl rfl) k) ?_
  refine Gl.st (B := (s₁.setTop (mkF m 34 L8 [(.int y7_30_7)]))) (fun t k => XS.iload X0.here hx rfl (hb hby at_32) (ldAt hL8 rfl) k) ?_
  refine Gl.st (B := (s₁.setTop (mkF m 35 L8 [(.int (1 : Int32)), (.int y7_30_7)]))) (fun t k => XS.iconst X0.here hx rfl (hb hby at_34) k) ?_
  obtain ⟨v117_8_20, hv117_8_20⟩ : ∃ z : Int32, z = (if y7_30_7 = (1 : Int32) then y4_5_1 else (if y7_30_7 = (2 : Int32) then y6_24_5 else (if y7_30_7 = (3 : Int32) then (y4_5_1 - (1 : Int32)) else (if y7_30_7 = (4 : Int32) then (y6_24_5 + (1 : Int32)) else (if y7_30_7 = (5 : Int32) then (y4_5_1 + ((p3 &&& (2147483647 : Int32)) % ((y6_24_5 - y4_5_1) + (1 : Int32)))) else p3))))) := ⟨_, rfl⟩
  obtain ⟨L21, hL21⟩ : ∃ z : Array Slot, z = #[.val (.int p1), .val (.int p2), .val (.int p3), .val (.int p4), .val (.int y4_5_1), .val (.int y5_12_3), .val (.int y6_24_5), .val (.int y7_30_7), .val (.int v117_8_20), .unset, .unset, .unset, .unset, .unset] := ⟨_, rfl⟩
  refine Gl.join (A := (s₁.setTop (mkF m 117 L21 []))) (fun J35_20 => ?_) ?_
  · by_cases hc35_9 : y7_30_7 = (1 : Int32)
    · skip
      refine Gl.st (B := (s₁.setTop (mkF m 38 L8 []))) (fun t k => XS.icmpNo X0.here hx rfl (hb hby at_35) rfl (teq hc35_9).2 k) ?_
      refine Gl.st (B := (s₁.setTop (mkF m 40 L8 [(.int y4_5_1)]))) (fun t k => XS.iload X0.here hx rfl (hb hby at_38) (ldAt hL8 rfl) k) ?_
      obtain ⟨L22, hL22⟩ : ∃ z : Array Slot, z = #[.val (.int p1), .val (.int p2), .val (.int p3), .val (.int p4), .val (.int y4_5_1), .val (.int y5_12_3), .val (.int y6_24_5), .val (.int y7_30_7), .val (.int y4_5_1), .unset, .unset, .unset, .unset, .unset] := ⟨_, rfl⟩
      refine Gl.st (B := (s₁.setTop (mkF m 42 L22 []))) (fun t k => XS.istore X0.here hx rfl (hb hby at_40) rfl (l' := L22) (stAt hL8 hL22 rfl rfl) k) ?_
      refine Gl.st (B := (s₁.setTop (mkF m 117 L22 []))) (fun t k => XS.goto X0.here hx rfl (pc0 := 42) (pc' := 117) rfl (hb hby at_42) (by decide) (by decide) k) ?_
      have ev117_8_20 : v117_8_20 = y4_5_1 := by rw [hv117_8_20, if_pos hc35_9]
      rw [hL21, ev117_8_20] at J35_20
      rw [hL22]
      exact J35_20
    · skip
      refine Gl.st (B := (s₁.setTop (mkF m 45 L8 []))) (fun t k => XS.icmpYes X0.here hx rfl (pc0 := 35) (pc' := 45) rfl (hb hby at_35) rfl (feq hc35_9).2 (by decide) (by decide) k) ?_
      refine Gl.st (B := (s₁.setTop (mkF m 47 L8 [(.int y7_30_7)]))) (fun t k => XS.iload X0.here hx rfl (hb hby at_45) (ldAt hL8 rfl) k) ?_
      refine Gl.st (B := (s₁.setTop (mkF m 48 L8 [(.int (2 : Int32)), (.int y7_30_7)]))) (fun t k => XS.iconst X0.here hx rfl (hb hby at_47) k) ?_
      by_cases hc48_23 : y7_30_7 = (2 : Int32)
      · skip
        refine Gl.st (B := (s₁.setTop (mkF m 51 L8 []))) (fun t k => XS.icmpNo X0.here hx rfl (hb hby at_48) rfl (teq hc48_23).2 k) ?_
        refine Gl.st (B := (s₁.setTop (mkF m 53 L8 [(.int y6_24_5)]))) (fun t k => XS.iload X0.here hx rfl (hb hby at_51) (ldAt hL8 rfl) k) ?_
        obtain ⟨L24, hL24⟩ : ∃ z : Array Slot, z = #[.val (.int p1), .val (.int p2), .val (.int p3), .val (.int p4), .val (.int y4_5_1), .val (.int y5_12_3), .val (.int y6_24_5), .val (.int y7_30_7), .val (.int y6_24_5), .unset, .unset, .unset, .unset, .unset] := ⟨_, rfl⟩
        refine Gl.st (B := (s₁.setTop (mkF m 55 L24 []))) (fun t k => XS.istore X0.here hx rfl (hb hby at_53) rfl (l' := L24) (stAt hL8 hL24 rfl rfl) k) ?_
        refine Gl.st (B := (s₁.setTop (mkF m 117 L24 []))) (fun t k => XS.goto X0.here hx rfl (pc0 := 55) (pc' := 117) rfl (hb hby at_55) (by decide) (by decide) k) ?_
        have ev117_8_20 : v117_8_20 = y6_24_5 := by rw [hv117_8_20, if_neg hc35_9, if_pos hc48_23]
        rw [hL21, ev117_8_20] at J35_20
        rw [hL24]
        exact J35_20
      · skip
        refine Gl.st (B := (s₁.setTop (mkF m 58 L8 []))) (fun t k => XS.icmpYes X0.here hx rfl (pc0 := 48) (pc' := 58) rfl (hb hby at_48) rfl (feq hc48_23).2 (by decide) (by decide) k) ?_
        refine Gl.st (B := (s₁.setTop (mkF m 60 L8 [(.int y7_30_7)]))) (fun t k => XS.iload X0.here hx rfl (hb hby at_58) (ldAt hL8 rfl) k) ?_
        refine Gl.st (B := (s₁.setTop (mkF m 61 L8 [(.int (3 : Int32)), (.int y7_30_7)]))) (fun t k => XS.iconst X0.here hx rfl (hb hby at_60) k) ?_
        by_cases hc61_25 : y7_30_7 = (3 : Int32)
        · skip
          refine Gl.st (B := (s₁.setTop (mkF m 64 L8 []))) (fun t k => XS.icmpNo X0.here hx rfl (hb hby at_61) rfl (teq hc61_25).2 k) ?_
          refine Gl.st (B := (s₁.setTop (mkF m 66 L8 [(.int y4_5_1)]))) (fun t k => XS.iload X0.here hx rfl (hb hby at_64) (ldAt hL8 rfl) k) ?_
          refine Gl.st (B := (s₁.setTop (mkF m 67 L8 [(.int (1 : Int32)), (.int y4_5_1)]))) (fun t k => XS.iconst X0.here hx rfl (hb hby at_66) k) ?_
          refine Gl.st (B := (s₁.setTop (mkF m 68 L8 [(.int (y4_5_1 - (1 : Int32)))]))) (fun t k => XS.isub X0.here hx rfl (hb hby at_67) rfl k) ?_
          obtain ⟨L26, hL26⟩ : ∃ z : Array Slot, z = #[.val (.int p1), .val (.int p2), .val (.int p3), .val (.int p4), .val (.int y4_5_1), .val (.int y5_12_3), .val (.int y6_24_5), .val (.int y7_30_7), .val (.int (y4_5_1 - (1 : Int32))), .unset, .unset, .unset, .unset, .unset] := ⟨_, rfl⟩
          refine Gl.st (B := (s₁.setTop (mkF m 70 L26 []))) (fun t k => XS.istore X0.here hx rfl (hb hby at_68) rfl (l' := L26) (stAt hL8 hL26 rfl rfl) k) ?_
          refine Gl.st (B := (s₁.setTop (mkF m 117 L26 []))) (fun t k => XS.goto X0.here hx rfl (pc0 := 70) (pc' := 117) rfl (hb hby at_70) (by decide) (by decide) k) ?_
          have ev117_8_20 : v117_8_20 = (y4_5_1 - (1 : Int32)) := by rw [hv117_8_20, if_neg hc35_9, if_neg hc48_23, if_pos hc61_25]
          rw [hL21, ev117_8_20] at J35_20
          rw [hL26]
          exact J35_20
        · skip
          refine Gl.st (B := (s₁.setTop (mkF m 73 L8 []))) (fun t k => XS.icmpYes X0.here hx rfl (pc0 := 61) (pc' := 73) rfl (hb hby at_61) rfl (feq hc61_25).2 (by decide) (by decide) k) ?_
          refine Gl.st (B := (s₁.setTop (mkF m 75 L8 [(.int y7_30_7)]))) (fun t k => XS.iload X0.here hx rfl (hb hby at_73) (ldAt hL8 rfl) k) ?_
          refine Gl.st (B := (s₁.setTop (mkF m 76 L8 [(.int (4 : Int32)), (.int y7_30_7)]))) (fun t k => XS.iconst X0.here hx rfl (hb hby at_75) k) ?_
          by_cases hc76_27 : y7_30_7 = (4 : Int32)
          · skip
            refine Gl.st (B := (s₁.setTop (mkF m 79 L8 []))) (fun t k => XS.icmpNo X0.here hx rfl (hb hby at_76) rfl (teq hc76_27).2 k) ?_
            refine Gl.st (B := (s₁.setTop (mkF m 81 L8 [(.int y6_24_5)]))) (fun t k => XS.iload X0.here hx rfl (hb hby at_79) (ldAt hL8 rfl) k) ?_
            refine Gl.st (B := (s₁.setTop (mkF m 82 L8 [(.int (1 : Int32)), (.int y6_24_5)]))) (fun t k => XS.iconst X0.here hx rfl (hb hby at_81) k) ?_
            refine Gl.st (B := (s₁.setTop (mkF m 83 L8 [(.int (y6_24_5 + (1 : Int32)))]))) (fun t k => XS.iadd X0.here hx rfl (hb hby at_82) rfl k) ?_
            obtain ⟨L28, hL28⟩ : ∃ z : Array Slot, z = #[.val (.int p1), .val (.int p2), .val (.int p3), .val (.int p4), .val (.int y4_5_1), .val (.int y5_12_3), .val (.int y6_24_5), .val (.int y7_30_7), .val (.int (y6_24_5 + (1 : Int32))), .unset, .unset, .unset, .unset, .unset] := ⟨_, rfl⟩
            refine Gl.st (B := (s₁.setTop (mkF m 85 L28 []))) (fun t k => XS.istore X0.here hx rfl (hb hby at_83) rfl (l' := L28) (stAt hL8 hL28 rfl rfl) k) ?_
            refine Gl.st (B := (s₁.setTop (mkF m 117 L28 []))) (fun t k => XS.goto X0.here hx rfl (pc0 := 85) (pc' := 117) rfl (hb hby at_85) (by decide) (by decide) k) ?_
            have ev117_8_20 : v117_8_20 = (y6_24_5 + (1 : Int32)) := by rw [hv117_8_20, if_neg hc35_9, if_neg hc48_23, if_neg hc61_25, if_pos hc76_27]
            rw [hL21, ev117_8_20] at J35_20
            rw [hL28]
            exact J35_20
          · skip
            refine Gl.st (B := (s₁.setTop (mkF m 88 L8 []))) (fun t k => XS.icmpYes X0.here hx rfl (pc0 := 76) (pc' := 88) rfl (hb hby at_76) rfl (feq hc76_27).2 (by decide) (by decide) k) ?_
            refine Gl.st (B := (s₁.setTop (mkF m 90 L8 [(.int y7_30_7)]))) (fun t k => XS.iload X0.here hx rfl (hb hby at_88) (ldAt hL8 rfl) k) ?_
            refine Gl.st (B := (s₁.setTop (mkF m 91 L8 [(.int (5 : Int32)), (.int y7_30_7)]))) (fun t k => XS.iconst X0.here hx rfl (hb hby at_90) k) ?_
            by_cases hc91_29 : y7_30_7 = (5 : Int32)
            · skip
              refine Gl.st (B := (s₁.setTop (mkF m 94 L8 []))) (fun t k => XS.icmpNo X0.here hx rfl (hb hby at_91) rfl (teq hc91_29).2 k) ?_
              refine Gl.st (B := (s₁.setTop (mkF m 96 L8 [(.int y4_5_1)]))) (fun t k => XS.iload X0.here hx rfl (hb hby at_94) (ldAt hL8 rfl) k) ?_
              refine Gl.st (B := (s₁.setTop (mkF m 97 L8 [(.int p3), (.int y4_5_1)]))) (fun t k => XS.iloadN X0.here hx rfl (hb hby at_96) (ldAt hL8 rfl) k) ?_
              refine Gl.st (B := (s₁.setTop (mkF m 99 L8 [(.int (2147483647 : Int32)), (.int p3), (.int y4_5_1)]))) (fun t k => X0.ldcInt hx hown (mvT hZ (tw hw 1 rfl)) (g := (mkF m 97 L8 [(.int p3), (.int y4_5_1)])) rfl (hb hby at_97) _ k) ?_
              refine Gl.st (B := (s₁.setTop (mkF m 100 L8 [(.int (p3 &&& (2147483647 : Int32))), (.int y4_5_1)]))) (fun t k => XS.iand X0.here hx rfl (hb hby at_99) rfl k) ?_
              refine Gl.st (B := (s₁.setTop (mkF m 102 L8 [(.int y6_24_5), (.int (p3 &&& (2147483647 : Int32))), (.int y4_5_1)]))) (fun t k => XS.iload X0.here hx rfl (hb hby at_100) (ldAt hL8 rfl) k) ?_
              refine Gl.st (B := (s₁.setTop (mkF m 104 L8 [(.int y4_5_1), (.int y6_24_5), (.int (p3 &&& (2147483647 : Int32))), (.int y4_5_1)]))) (fun t k => XS.iload X0.here hx rfl (hb hby at_102) (ldAt hL8 rfl) k) ?_
              refine Gl.st (B := (s₁.setTop (mkF m 105 L8 [(.int (y6_24_5 - y4_5_1)), (.int (p3 &&& (2147483647 : Int32))), (.int y4_5_1)]))) (fun t k => XS.isub X0.here hx rfl (hb hby at_104) rfl k) ?_
              refine Gl.st (B := (s₁.setTop (mkF m 106 L8 [(.int (1 : Int32)), (.int (y6_24_5 - y4_5_1)), (.int (p3 &&& (2147483647 : Int32))), (.int y4_5_1)]))) (fun t k => XS.iconst X0.here hx rfl (hb hby at_105) k) ?_
              refine Gl.st (B := (s₁.setTop (mkF m 107 L8 [(.int ((y6_24_5 - y4_5_1) + (1 : Int32))), (.int (p3 &&& (2147483647 : Int32))), (.int y4_5_1)]))) (fun t k => XS.iadd X0.here hx rfl (hb hby at_106) rfl k) ?_
              have nz107 : ((y6_24_5 - y4_5_1) + (1 : Int32)) ≠ (0 : Int32) := own_0_nz107 p1 y4_5_1 p2 y5_12_3 y6_24_5 hy4_5_1 hy5_12_3 hy6_24_5 
              refine Gl.st (B := (s₁.setTop (mkF m 108 L8 [(.int ((p3 &&& (2147483647 : Int32)) % ((y6_24_5 - y4_5_1) + (1 : Int32)))), (.int y4_5_1)]))) (fun t k => iremM X0 hx rfl (hb hby at_107) rfl nz107 k) ?_
              refine Gl.st (B := (s₁.setTop (mkF m 109 L8 [(.int (y4_5_1 + ((p3 &&& (2147483647 : Int32)) % ((y6_24_5 - y4_5_1) + (1 : Int32)))))]))) (fun t k => XS.iadd X0.here hx rfl (hb hby at_108) rfl k) ?_
              obtain ⟨L30, hL30⟩ : ∃ z : Array Slot, z = #[.val (.int p1), .val (.int p2), .val (.int p3), .val (.int p4), .val (.int y4_5_1), .val (.int y5_12_3), .val (.int y6_24_5), .val (.int y7_30_7), .val (.int (y4_5_1 + ((p3 &&& (2147483647 : Int32)) % ((y6_24_5 - y4_5_1) + (1 : Int32))))), .unset, .unset, .unset, .unset, .unset] := ⟨_, rfl⟩
              refine Gl.st (B := (s₁.setTop (mkF m 111 L30 []))) (fun t k => XS.istore X0.here hx rfl (hb hby at_109) rfl (l' := L30) (stAt hL8 hL30 rfl rfl) k) ?_
              refine Gl.st (B := (s₁.setTop (mkF m 117 L30 []))) (fun t k => XS.goto X0.here hx rfl (pc0 := 111) (pc' := 117) rfl (hb hby at_111) (by decide) (by decide) k) ?_
              have ev117_8_20 : v117_8_20 = (y4_5_1 + ((p3 &&& (2147483647 : Int32)) % ((y6_24_5 - y4_5_1) + (1 : Int32)))) := by rw [hv117_8_20, if_neg hc35_9, if_neg hc48_23, if_neg hc61_25, if_neg hc76_27, if_pos hc91_29]
              rw [hL21, ev117_8_20] at J35_20
              rw [hL30]
              exact J35_20
            · skip
              refine Gl.st (B := (s₁.setTop (mkF m 114 L8 []))) (fun t k => XS.icmpYes X0.here hx rfl (pc0 := 91) (pc' := 114) rfl (hb hby at_91) rfl (feq hc91_29).2 (by decide) (by decide) k) ?_
              refine Gl.st (B := (s₁.setTop (mkF m 115 L8 [(.int p3)]))) (fun t k => XS.iloadN X0.here hx rfl (hb hby at_114) (ldAt hL8 rfl) k) ?_
              obtain ⟨L31, hL31⟩ : ∃ z : Array Slot, z = #[.val (.int p1), .val (.int p2), .val (.int p3), .val (.int p4), .val (.int y4_5_1), .val (.int y5_12_3), .val (.int y6_24_5), .val (.int y7_30_7), .val (.int p3), .unset, .unset, .unset, .unset, .unset] := ⟨_, rfl⟩
              refine Gl.st (B := (s₁.setTop (mkF m 117 L31 []))) (fun t k => XS.istore X0.here hx rfl (hb hby at_115) rfl (l' := L31) (stAt hL8 hL31 rfl rfl) k) ?_
              have ev117_8_20 : v117_8_20 = p3 := by rw [hv117_8_20, if_neg hc35_9, if_neg hc48_23, if_neg hc61_25, if_neg hc76_27, if_neg hc91_29]
              rw [hL21, ev117_8_20] at J35_20
              rw [hL31]
              exact J35_20
  refine Gl.st (B := (s₁.setTop (mkF m 119 L21 [(.int v117_8_20)]))) (fun t k => XS.iload X0.here hx rfl (hb hby at_117) (ldAt hL21 rfl) k) ?_
  refine Gl.st (B := (s₁.setTop (mkF m 120 L21 [(.int (v117_8_20.toInt16.toInt32))]))) (fun t k => XS.i2s X0.here hx rfl (hb hby at_119) rfl k) ?_
  obtain ⟨y9_120_32, hy9_120_32⟩ : ∃ z : Int32, z = (v117_8_20.toInt16.toInt32) := ⟨_, rfl⟩
  refine Gl.cast (B := (s₁.setTop (mkF m 120 L21 [(.int y9_120_32)]))) (by rw [hy9_120_32]) ?_
  obtain ⟨L33, hL33⟩ : ∃ z : Array Slot, z = #[.val (.int p1), .val (.int p2), .val (.int p3), .val (.int p4), .val (.int y4_5_1), .val (.int y5_12_3), .val (.int y6_24_5), .val (.int y7_30_7), .val (.int v117_8_20), .val (.int y9_120_32), .unset, .unset, .unset, .unset] := ⟨_, rfl⟩
  refine Gl.st (B := (s₁.setTop (mkF m 122 L33 []))) (fun t k => XS.istore X0.here hx rfl (hb hby at_120) rfl (l' := L33) (stAt hL21 hL33 rfl rfl) k) ?_
  obtain ⟨T34, h34, X34, e34, E34, A34, D34, -, st34⟩ := newO X0 hx hZ hown (tw hw 2 rfl) (tw hw 3 rfl) (tw hw 4 rfl) e0 (g := (mkF m 122 L33 [])) rfl (hb hby at_122) (by decide) (by decide)
  obtain ⟨b34, gq34⟩ : ∃ z, z = h0.size := ⟨_, rfl⟩
  rw [← gq34] at A34 D34 st34
  have g_b34 : n0 ≤ b34 := Nat.le_trans Z0 (Nat.le_of_eq gq34.symm)
  have Zc35 : n0 ≤ h34.size := Nat.le_trans Z0 E34.1
  have F34_min : Fld Z h34 b34 "com/example/limpet/limpet/protocol/VersionRange" "min" "S" (.int (0 : Int32)) := D34 (Or.inr (tw hw 17 rfl)) (ty := .short) (by decide)
  have F34_max : Fld Z h34 b34 "com/example/limpet/limpet/protocol/VersionRange" "max" "S" (.int (0 : Int32)) := D34 (Or.inr (tw hw 19 rfl)) (ty := .short) (by decide)
  refine Gl.st (B := (T34.setTop (mkF m 125 L33 [(.ref b34)]))) st34 ?_
  refine Gl.st (B := (T34.setTop (mkF m 126 L33 [(.ref b34), (.ref b34)]))) (fun t k => XS.dup X34.here hx rfl (hb hby at_125) rfl rfl k) ?_
  refine Gl.st (B := (T34.setTop (mkF m 128 L33 [(.int y4_5_1), (.ref b34), (.ref b34)]))) (fun t k => XS.iload X34.here hx rfl (hb hby at_126) (ldAt hL33 rfl) k) ?_
  refine Gl.st (B := (T34.setTop (mkF m 129 L33 [(.int (y4_5_1.toInt16.toInt32)), (.ref b34), (.ref b34)]))) (fun t k => XS.i2s X34.here hx rfl (hb hby at_128) rfl k) ?_
  refine Gl.st (B := (T34.setTop (mkF m 131 L33 [(.int y6_24_5), (.int (y4_5_1.toInt16.toInt32)), (.ref b34), (.ref b34)]))) (fun t k => XS.iload X34.here hx rfl (hb hby at_129) (ldAt hL33 rfl) k) ?_
  refine Gl.st (B := (T34.setTop (mkF m 132 L33 [(.int (y6_24_5.toInt16.toInt32)), (.int (y4_5_1.toInt16.toInt32)), (.ref b34), (.ref b34)]))) (fun t k => XS.i2s X34.here hx rfl (hb hby at_131) rfl k) ?_
  obtain ⟨x132_36, hx132_36⟩ : ∃ z : Int32, z = (y6_24_5.toInt16.toInt32) := ⟨_, rfl⟩
  refine Gl.cast (B := (T34.setTop (mkF m 132 L33 [(.int x132_36), (.int (y4_5_1.toInt16.toInt32)), (.ref b34), (.ref b34)]))) (by rw [hx132_36]) ?_
  obtain ⟨x132_37, hx132_37⟩ : ∃ z : Int32, z = (y4_5_1.toInt16.toInt32) := ⟨_, rfl⟩
  refine Gl.cast (B := (T34.setTop (mkF m 132 L33 [(.int x132_36), (.int x132_37), (.ref b34), (.ref b34)]))) (by rw [hx132_37]) ?_
  have hp132_39 : ¬ (x132_37 < (0 : Int32)) := own_0_hp132_39 p1 y4_5_1 x132_37 hy4_5_1 hx132_37 
  have hp132_40 : ¬ (x132_36 < x132_37) := own_0_hp132_40 p1 y4_5_1 p2 y5_12_3 y6_24_5 x132_36 x132_37 hy4_5_1 hy5_12_3 hy6_24_5 hx132_36 hx132_37 
  obtain ⟨_, _, ⟨T38, L38q, k38, n38⟩, -, X38, ⟨Lc38, hQ38, l38, y38, z38⟩, st38⟩ := X34.specialBack hx (y := (⟨"com/example/limpet/limpet/protocol/VersionRange", "<init>", "(SS)V"⟩ : MethodName)) rfl hown (mvT hZ (tw hw 5 rfl)) (mvT hZ (tw hw 6 rfl)) (mvT hZ (tw hw 7 rfl)) (by decide) (backOf (W := 1) (rm1 l Z a0 hw [] b34 x132_37 x132_36 ((.int (0 : Int32))) ((.int (0 : Int32))) h34 n0 Zc35 hp132_39 hp132_40 A34 F34_min g_b34 F34_max) hZ (tw hw 7 rfl) (tw hw 4 rfl) (by decide) (by decide)) (g := (mkF m 132 L33 [(.int x132_36), (.int x132_37), (.ref b34), (.ref b34)])) rfl (szAt hml hL33 rfl) (Steps.refl _) (a := b34) (argsL := [(.int x132_37), (.int x132_36)]) (rest := [(.ref b34)]) (lenOf pd_0_0 rfl) rfl (by show 2 * 0 + _ ≤ _; exact Nat.le_of_eq rfl) (hb hby at_132) (fun _ _ => ⟨rfl, e34, (by decide : 1 + 0 ≤ _), (by decide : 2 + 0 ≤ _)⟩)
  dsimp only [Pt.U, Pt.locs, Pt.cells, Pt.slots] at X38 l38 y38 z38 st38 hQ38
  subst l38 y38 z38
  obtain ⟨rfl, N38q, Kc38, fq38_0, fq38_1, fq38_2⟩ := hQ38
  have Zc41 : n0 ≤ T38.heap.size := Nat.le_trans Zc35 Kc38.1
  have N38 := Fr.app N0 N38q
  refine Gl.st (B := (T38.setTop (mkF m 135 L33 [(.ref b34)]))) (fun t k => st38.trans k) ?_
  obtain ⟨L42, hL42⟩ : ∃ z : Array Slot, z = #[.val (.int p1), .val (.int p2), .val (.int p3), .val (.int p4), .val (.int y4_5_1), .val (.int y5_12_3), .val (.int y6_24_5), .val (.int y7_30_7), .val (.int v117_8_20), .val (.int y9_120_32), .val (.ref b34), .unset, .unset, .unset] := ⟨_, rfl⟩
  refine Gl.st (B := (T38.setTop (mkF m 137 L42 []))) (fun t k => XS.astore X38.here hx rfl (hb hby at_135) rfl rfl (l' := L42) (stAt hL33 hL42 rfl rfl) k) ?_
  refine Gl.st (B := (T38.setTop (mkF m 139 L42 [(.ref b34)]))) (fun t k => XS.aload X38.here hx rfl (hb hby at_137) (ldAt hL42 rfl) rfl k) ?_
  refine Gl.st (B := (T38.setTop (mkF m 141 L42 [(.int y9_120_32), (.ref b34)]))) (fun t k => XS.iload X38.here hx rfl (hb hby at_139) (ldAt hL42 rfl) k) ?_
  obtain ⟨cq43, kq43, q43a, q43b, q43c⟩ := isOf hZ rfl fq38_0
  obtain ⟨_, _, ⟨T43, L43q, k43, n43⟩, -, X43, ⟨Lc43, hQ43, l43, y43, z43⟩, st43⟩ := X38.virtualBack hx (y := (⟨"com/example/limpet/limpet/protocol/VersionRange", "contains", "(S)Z"⟩ : MethodName)) (z := (⟨"com/example/limpet/limpet/protocol/VersionRange", "contains", "(S)Z"⟩ : MethodName)) hown (mvT hZ (tw hw 20 rfl)) (mvT hZ (tw hw 21 rfl)) (notFace_of_selects (args := #[]) (mvT hZ (tw hw 23 rfl))) (mvT hZ (tw hw 23 rfl)) (mvT hZ (tw hw 22 rfl)) (by decide) (backOf (W := 0) (rm4 l Z a0 hw [] b34 y9_120_32 (nar .short x132_37) (nar .short x132_36) T38.heap n0 Zc41 fq38_1 fq38_2) hZ (tw hw 24 rfl) (tw hw 4 rfl) (by decide) (by decide)) q43a q43c (g := (mkF m 141 L42 [(.int y9_120_32), (.ref b34)])) rfl (szAt hml hL42 rfl) (Steps.refl _) (argsL := [(.int y9_120_32)]) (rest := []) (lenOf pd_0_1 rfl) rfl (by show 2 * 0 + _ ≤ _; exact Nat.le_of_eq rfl) (hb hby at_141) (fun _ _ => ⟨rfl, rfl, (by decide : 1 + 0 ≤ _), (by decide : 2 + 0 ≤ _)⟩)
  dsimp only [Pt.U, Pt.locs, Pt.cells, Pt.slots] at X43 l43 y43 z43 st43 hQ43
  subst l43 y43 z43
  obtain ⟨rfl, N43q, eh43⟩ := hQ43
  have N43 := Fr.app N38 N43q
  refine Gl.st (B := (T43.setTop (mkF m 144 L42 [(.int (if y9_120_32 < (nar .short x132_37) then (0 : Int32) else ((if (nar .short x132_36) < y9_120_32 then (0 : Int32) else (1 : Int32)))))]))) (fun t k => st43.trans k) ?_
  obtain ⟨r141_44, hr141_44⟩ : ∃ z : Int32, z = (if y9_120_32 < (nar .short x132_37) then (0 : Int32) else ((if (nar .short x132_36) < y9_120_32 then (0 : Int32) else (1 : Int32)))) := ⟨_, rfl⟩
  refine Gl.cast (B := (T43.setTop (mkF m 144 L42 [(.int r141_44)]))) (by rw [hr141_44]) ?_
  obtain ⟨L45, hL45⟩ : ∃ z : Array Slot, z = #[.val (.int p1), .val (.int p2), .val (.int p3), .val (.int p4), .val (.int y4_5_1), .val (.int y5_12_3), .val (.int y6_24_5), .val (.int y7_30_7), .val (.int v117_8_20), .val (.int y9_120_32), .val (.ref b34), .val (.int r141_44), .unset, .unset] := ⟨_, rfl⟩
  refine Gl.st (B := (T43.setTop (mkF m 146 L45 []))) (fun t k => XS.istore X43.here hx rfl (hb hby at_144) rfl (l' := L45) (stAt hL42 hL45 rfl rfl) k) ?_
  refine Gl.st (B := (T43.setTop (mkF m 148 L45 [(.int y9_120_32)]))) (fun t k => XS.iload X43.here hx rfl (hb hby at_146) (ldAt hL45 rfl) k) ?_
  obtain ⟨L46, hL46⟩ : ∃ z : Array Slot, z = #[.val (.int p1), .val (.int p2), .val (.int p3), .val (.int p4), .val (.int y4_5_1), .val (.int y5_12_3), .val (.int y6_24_5), .val (.int y7_30_7), .val (.int v117_8_20), .val (.int y9_120_32), .val (.ref b34), .val (.int r141_44), .val (.int y9_120_32), .unset] := ⟨_, rfl⟩
  refine Gl.st (B := (T43.setTop (mkF m 150 L46 []))) (fun t k => XS.istore X43.here hx rfl (hb hby at_148) rfl (l' := L46) (stAt hL45 hL46 rfl rfl) k) ?_
  refine Gl.st (B := (T43.setTop (mkF m 152 L46 [(.int y4_5_1)]))) (fun t k => XS.iload X43.here hx rfl (hb hby at_150) (ldAt hL46 rfl) k) ?_
  refine Gl.st (B := (T43.setTop (mkF m 154 L46 [(.int y9_120_32), (.int y4_5_1)]))) (fun t k => XS.iload X43.here hx rfl (hb hby at_152) (ldAt hL46 rfl) k) ?_
  refine Gl.st (B := (T43.setTop (mkF m 156 L46 [(.int y6_24_5), (.int y9_120_32), (.int y4_5_1)]))) (fun t k => XS.iload X43.here hx rfl (hb hby at_154) (ldAt hL46 rfl) k) ?_
  obtain ⟨_, _, ⟨T47, L47q, k47, n47⟩, -, X47, ⟨Lc47, hQ47, l47, y47, z47⟩, st47⟩ := Jvm.LawKit.callS X43 hx (y := (⟨"java/lang/Math", "min", "(II)I"⟩ : MethodName)) hown (mvT hZ (tw hw 25 rfl)) (mvT hZ (tw hw 26 rfl)) (mvT hZ (tw hw 27 rfl)) (mvT hZ (tw hw 28 rfl)) (by decide) (backOf (W := 1) (rm5 l Z a0 hw [] y9_120_32 y6_24_5 T38.heap n0 Zc41) hZ (tw hw 28 rfl) (tw hw 27 rfl) (by decide) (by decide)) (g := (mkF m 156 L46 [(.int y6_24_5), (.int y9_120_32), (.int y4_5_1)])) rfl (szAt hml hL46 rfl) (argsL := [(.int y9_120_32), (.int y6_24_5)]) (rest := [(.int y4_5_1)]) (lenOf pd_0_2 rfl) rfl (by show 2 * 0 + _ ≤ _; exact Nat.le_of_eq rfl) (hb hby at_156) (fun _ _ => ⟨rfl, eh43, (by decide : 1 + 0 ≤ _), (by decide : 2 + 0 ≤ _)⟩)
  dsimp only [Pt.U, Pt.locs, Pt.cells, Pt.slots] at X47 l47 y47 z47 st47 hQ47
  subst l47 y47 z47
  obtain ⟨rfl, N47q, eh47⟩ := hQ47
  have N47 := Fr.app N43 N47q
  refine Gl.st (B := (T47.setTop (mkF m 159 L46 [(.int ((if y6_24_5 < y9_120_32 then y6_24_5 else y9_120_32))), (.int y4_5_1)]))) (fun t k => st47 t k) ?_
  obtain ⟨r156_48, hr156_48⟩ : ∃ z : Int32, z = ((if y6_24_5 < y9_120_32 then y6_24_5 else y9_120_32)) := ⟨_, rfl⟩
  refine Gl.cast (B := (T47.setTop (mkF m 159 L46 [(.int r156_48), (.int y4_5_1)]))) (by rw [hr156_48]) ?_
  obtain ⟨_, _, ⟨T49, L49q, k49, n49⟩, -, X49, ⟨Lc49, hQ49, l49, y49, z49⟩, st49⟩ := Jvm.LawKit.callS X47 hx (y := (⟨"java/lang/Math", "max", "(II)I"⟩ : MethodName)) hown (mvT hZ (tw hw 29 rfl)) (mvT hZ (tw hw 30 rfl)) (mvT hZ (tw hw 27 rfl)) (mvT hZ (tw hw 31 rfl)) (by decide) (backOf (W := 0) (rm6 l Z a0 hw [] y4_5_1 r156_48 T38.heap n0 Zc41) hZ (tw hw 31 rfl) (tw hw 27 rfl) (by decide) (by decide)) (g := (mkF m 159 L46 [(.int r156_48), (.int y4_5_1)])) rfl (szAt hml hL46 rfl) (argsL := [(.int y4_5_1), (.int r156_48)]) (rest := []) (lenOf pd_0_2 rfl) rfl (by show 2 * 0 + _ ≤ _; exact Nat.le_of_eq rfl) (hb hby at_159) (fun _ _ => ⟨rfl, eh47, (by decide : 1 + 0 ≤ _), (by decide : 2 + 0 ≤ _)⟩)
  dsimp only [Pt.U, Pt.locs, Pt.cells, Pt.slots] at X49 l49 y49 z49 st49 hQ49
  subst l49 y49 z49
  obtain ⟨rfl, N49q, eh49⟩ := hQ49
  have N49 := Fr.app N47 N49q
  refine Gl.st (B := (T49.setTop (mkF m 162 L46 [(.int ((if y4_5_1 < r156_48 then r156_48 else y4_5_1)))]))) (fun t k => st49 t k) ?_
  obtain ⟨r159_50, hr159_50⟩ : ∃ z : Int32, z = ((if y4_5_1 < r156_48 then r156_48 else y4_5_1)) := ⟨_, rfl⟩
  refine Gl.cast (B := (T49.setTop (mkF m 162 L46 [(.int r159_50)]))) (by rw [hr159_50]) ?_
  refine Gl.st (B := (T49.setTop (mkF m 164 L46 [(.int y9_120_32), (.int r159_50)]))) (fun t k => XS.iload X49.here hx rfl (hb hby at_162) (ldAt hL46 rfl) k) ?_
  obtain ⟨v172_s0_52, hv172_s0_52⟩ : ∃ z : Int32, z = (if r159_50 = y9_120_32 then (1 : Int32) else (0 : Int32)) := ⟨_, rfl⟩
  refine Gl.join (A := (T49.setTop (mkF m 172 L46 [(.int v172_s0_52)]))) (fun J164_52 => ?_) ?_
  · by_cases hc164_51 : r159_50 = y9_120_32
    · skip
      refine Gl.st (B := (T49.setTop (mkF m 167 L46 []))) (fun t k => XS.icmpNo X49.here hx rfl (hb hby at_164) rfl (teq hc164_51).2 k) ?_
      refine Gl.st (B := (T49.setTop (mkF m 168 L46 [(.int (1 : Int32))]))) (fun t k => XS.iconst X49.here hx rfl (hb hby at_167) k) ?_
      refine Gl.st (B := (T49.setTop (mkF m 172 L46 [(.int (1 : Int32))]))) (fun t k => XS.goto X49.here hx rfl (pc0 := 168) (pc' := 172) rfl (hb hby at_168) (by decide) (by decide) k) ?_
      have ev172_s0_52 : v172_s0_52 = (1 : Int32) := by rw [hv172_s0_52, if_pos hc164_51]
      rw [ev172_s0_52] at J164_52
      exact J164_52
    · skip
      refine Gl.st (B := (T49.setTop (mkF m 171 L46 []))) (fun t k => XS.icmpYes X49.here hx rfl (pc0 := 164) (pc' := 171) rfl (hb hby at_164) rfl (feq hc164_51).2 (by decide) (by decide) k) ?_
      refine Gl.st (B := (T49.setTop (mkF m 172 L46 [(.int (0 : Int32))]))) (fun t k => XS.iconst X49.here hx rfl (hb hby at_171) k) ?_
      have ev172_s0_52 : v172_s0_52 = (0 : Int32) := by rw [hv172_s0_52, if_neg hc164_51]
      rw [ev172_s0_52] at J164_52
      exact J164_52
  obtain ⟨L53, hL53⟩ : ∃ z : Array Slot, z = #[.val (.int p1), .val (.int p2), .val (.int p3), .val (.int p4), .val (.int y4_5_1), .val (.int y5_12_3), .val (.int y6_24_5), .val (.int y7_30_7), .val (.int v117_8_20), .val (.int y9_120_32), .val (.ref b34), .val (.int r141_44), .val (.int y9_120_32), .val (.int v172_s0_52)] := ⟨_, rfl⟩
  refine Gl.st (B := (T49.setTop (mkF m 174 L53 []))) (fun t k => XS.istore X49.here hx rfl (hb hby at_172) rfl (l' := L53) (stAt hL46 hL53 rfl rfl) k) ?_
  refine Gl.st (B := (T49.setTop (mkF m 176 L53 [(.int r141_44)]))) (fun t k => XS.iload X49.here hx rfl (hb hby at_174) (ldAt hL53 rfl) k) ?_
  refine Gl.st (B := (T49.setTop (mkF m 178 L53 [(.int v172_s0_52), (.int r141_44)]))) (fun t k => XS.iload X49.here hx rfl (hb hby at_176) (ldAt hL53 rfl) k) ?_
  have hc178_54 : r141_44 = v172_s0_52 := own_0_hc178_54 p4 y7_30_7 p1 y4_5_1 p2 y5_12_3 y6_24_5 p3 v117_8_20 y9_120_32 x132_37 x132_36 r141_44 r156_48 r159_50 v172_s0_52 hy7_30_7 hy4_5_1 hy5_12_3 hy6_24_5 hv117_8_20 hy9_120_32 hx132_37 hx132_36 hr141_44 hr156_48 hr159_50 hv172_s0_52 
  refine Gl.st (B := (T49.setTop (mkF m 181 L53 []))) (fun t k => XS.icmpNo X49.here hx rfl (hb hby at_178) rfl (teq hc178_54).2 k) ?_
  refine Gl.st (B := (T49.setTop (mkF m 182 L53 [(.int (1 : Int32))]))) (fun t k => XS.iconst X49.here hx rfl (hb hby at_181) k) ?_
  refine Gl.st (B := (T49.setTop (mkF m 186 L53 [(.int (1 : Int32))]))) (fun t k => XS.goto X49.here hx rfl (pc0 := 182) (pc' := 186) rfl (hb hby at_182) (by decide) (by decide) k) ?_
  obtain ⟨fs, hr, hrun, hended, hW, hsame⟩ := X49.leave (v := some (.int (nar .boolean (1 : Int32)))) (fun h => by rw [Bd.returns] at h; cases h)
  refine Gl.fin (retN X49 hx (t := .boolean) Bd.returns (by simp) (hb hby at_186) hr) hrun hended ⟨_, _, rfl, ?_, ⟨_, rfl⟩, hW, hsame.mono (by decide) (by decide)⟩
  show Q0 Z p1 p2 p3 p4 h0 n0 _ T49.heap _
  rw [eh49]
  exact ⟨rfl, N49⟩
set_option maxRecDepth 65536 in
set_option maxHeartbeats 40000000 in
theorem comes_1 {Post : Tables → Env → Array Value → State → Outcome → State → Prop} (hpost : ∀ tb e args s v u, (limb_1_1.after args s (.returned v) u = true ∧ limb_1_2.after args s (.returned v) u = true ∧ True) → FrameEnd s (.returned v) u (Jvm.fieldLocs frame_1_writes args s ++ Jvm.arrayLocs frame_1_arrays args s ++ Jvm.staticLocs frame_1_statics s) 16 128 → Post tb e args s (.returned v) u) :
    ArmFor flags0 classFile x code maxLocals ret World_1 tables_1 room_1 Calls_1 rest_1 Pre_1 Post := by
  intro l hfl _ _ p e ha hc hk s m args below hf hA hF happ hP
  obtain ⟨hcalls, hrest, hpre⟩ := hP
  obtain ⟨-, -, -, hnamed, -, -, -, hat⟩ := (Spec.applies_iff hf).mp happ
  obtain ⟨hg, hn⟩ := and_e (Cond.before_iff.mp (show (Jvm.Cond.and given_1 narrow_1).before args s = true from hpre))
  obtain ⟨g1, g2⟩ := and_e hg
  obtain ⟨g3, g4⟩ := and_e g2
  obtain ⟨g5, g6⟩ := and_e g4
  obtain ⟨g7, g8⟩ := and_e g6
  obtain ⟨w0, w1, w2, w3, rfl⟩ : ∃ w0 w1 w2 w3 : Value, args = #[w0, w1, w2, w3] := by
    have hs : args.size = 4 := by simpa [Cond.value, given_1] using g1
    obtain ⟨L⟩ := args
    match L, hs with
    | [w0, w1, w2, w3], _ => exact ⟨w0, w1, w2, w3, rfl⟩
  have hw := fun d (hd : d ∈ tables_1) => atoms_spec (ws := Jvm.Cond.code x code maxLocals ret :: tables_1) hat d (List.mem_cons_of_mem _ hd)
  have hfit : Fit s := fun {y c} hc i hi => by
    obtain ⟨ha, rfl⟩ := Array.getElem?_eq_some_iff.mp hc
    have q := List.all_eq_true.mp ((Array.all_eq_true_iff_forall_mem.mp hF) _ (Array.getElem_mem ha)) i (List.mem_range.mpr hi)
    simpa [Array.getElem?_eq_getElem hi] using q
  obtain ⟨i0, ei0⟩ := is_v g3
  obtain rfl : w0 = (.int i0) := Option.some.inj ei0
  obtain ⟨i1, ei1⟩ := is_v g5
  obtain rfl : w1 = (.int i1) := Option.some.inj ei1
  obtain ⟨i2, ei2⟩ := is_v g7
  obtain rfl : w2 = (.int i2) := Option.some.inj ei2
  obtain ⟨i3, ei3⟩ := is_v g8
  obtain rfl : w3 = (.int i3) := Option.some.inj ei3
  obtain ⟨n, o, h1, h2, h3, _, L, rfl, ⟨rfl, N⟩, hq⟩ := rm0 l s _ hw tables_1 i0 i1 i2 i3 s.heap s.heap.size (Nat.le_refl _) p e ha hc hk s m _ below hf ((Spec.applies_iff_loose hf).mp happ).1 ⟨rfl, State.Warmed39.refl s, rfl⟩ trivial
  refine ⟨n, _, h1, h2, h3, hpost _ _ _ _ _ _ ⟨Cond.after_iff.mpr rfl, Cond.after_iff.mpr (eq_i res_at (Term.int_eval (1)) rfl), trivial⟩ ⟨hq.1, hq.2.1, (hq.2.2.sift fun y hy => Or.inr (N y hy)).mono (by decide) (by decide)⟩⟩
theorem main_1_1 : Claimed_1_1 := comes_1 fun _ _ _ _ _ _ h hF => ⟨h.1, hF⟩
theorem main_1_2 : Claimed_1_2 := comes_1 fun _ _ _ _ _ _ h hF => ⟨h.2.1, hF⟩
end Jvm.Pilot.@@N@@
namespace Jvm.Pilot.@@N@@
open Jvm Jvm.ClassFile Sem Op Lib Jvm.Free Jvm.Stand Jvm.Pilot.@@N@@.Jvm.D
/-! MADE BY PROGRAM (witnessworld.py) out of the Statement's table words and the real class files: 11 classes; the members and pool entries that the words name. The judged class is class 1, her method 1. -/
namespace start1
open Jvm.ClassFile
def u (s : String) : CpInfo := .utf8 (stringToUtf16 s)
/-- a pool by its gaps: so many unusable entries, then the entry; so many at the end -/
def gap : Nat → List CpInfo → List CpInfo
  | 0, r => r
  | n + 1, r => .unusable :: gap n r
def poolList (es : List (Nat × CpInfo)) (last : Nat) : List CpInfo := es.foldr (fun e r => gap e.1 (e.2 :: r)) (gap last [])
def pool (es : List (Nat × CpInfo)) (last : Nat) : Array CpInfo := ⟨poolList es last⟩
def fileOf (pool : Array CpInfo) (this : Nat) (attrs : Array Attribute := #[]) (ms : Array MethodInfo := #[]) (fl : Nat := 33) (sup : Nat := 0) (ifs : Array Nat := #[]) (fds : Array FieldInfo := #[]) : ClassFile where
  minorVersion := 0
  majorVersion := 65
  constantPool := pool
  accessFlags := fl
  thisClass := this
  superClass := sup
  interfaces := ifs
  fields := fds
  methods := ms
  attributes := attrs
def plain (name : String) (sup : Option ClassId) : Class where
  name := name
  kind := .ordinary
  loader := none
  accessFlags := 33
  super := sup
  interfaces := #[]
  cf := none
  fields := #[]
  methods := #[]
  instanceTypes := #[]
  staticTypes := #[]
  resolved := #[]
  callSites := []
  init := .initialized
  statics := none
  mirror := none

def pool0 : Array CpInfo := pool [(5, u "<init>"), (0, u "()V"), (1, .class_ 10), (1, u "java/lang/Object")] 113

def k0c0 : Code := { maxStack := 0, maxLocals := 1, code := object_method_1_code, exceptionTable := #[], attributes := #[] }
def k0m0 : Method := { name := "<init>", desc := "()V", sig := { parameters := [], returnType := none }, accessFlags := 1, code := some k0c0 }
/-- java/lang/Object -/
def k0 : Class := { plain "java/lang/Object" none with
  accessFlags := 33
  interfaces := #[]
  cf := some (fileOf pool0 8 #[] #[{ accessFlags := 1, nameIndex := 5, descriptorIndex := 6, attributes := #[] }] 33 0 #[] #[])
  fields := #[]
  methods := #[k0m0]
  instanceTypes := #[]
  staticTypes := #[]
  resolved := Array.replicate 124 none
  statics := none }

def pool1 : Array CpInfo := pool [(2, .class_ 4), (1, u "java/lang/Object"), (0, u "<init>"), (0, u "()V"), (0, .integer 32768), (0, .integer 2147483647), (0, .class_ 10), (0, u "com/example/limpet/limpet/protocol/VersionRange"), (0, .methodref 9 12), (0, .nameAndType 5 13), (0, u "(SS)V"), (0, .methodref 9 15), (0, .nameAndType 16 17), (0, u "contains"), (0, u "(S)Z"), (0, .methodref 19 20), (0, .class_ 21), (0, .nameAndType 22 23), (0, u "java/lang/Math"), (0, u "min"), (0, u "(II)I"), (0, .methodref 19 25), (0, .nameAndType 26 23), (0, u "max"), (0, .class_ 28), (0, u "com/example/limpet/limpet/protocol/VersionRangeContainsPinLaw"), (2, u "law"), (0, u "(IIII)Z")] 3

def k1m0 : Method := { name := "<init>", desc := "()V", sig := { parameters := [], returnType := none }, accessFlags := 1, code := none }
def k1c1 : Code := { maxStack := 4, maxLocals := 14, code := code, exceptionTable := #[], attributes := #[] }
def k1m1 : Method := { name := "law", desc := "(IIII)Z", sig := { parameters := [.int, .int, .int, .int], returnType := some .boolean }, accessFlags := 9, code := some k1c1 }
/-- com/example/limpet/limpet/protocol/VersionRangeContainsPinLaw -/
def k1 : Class := { plain "com/example/limpet/limpet/protocol/VersionRangeContainsPinLaw" (some 0) with
  accessFlags := 49
  interfaces := #[]
  cf := some (fileOf pool1 27 #[] #[{ accessFlags := 1, nameIndex := 5, descriptorIndex := 6, attributes := #[] }, { accessFlags := 9, nameIndex := 31, descriptorIndex := 32, attributes := #[] }] 49 2 #[] #[])
  fields := #[]
  methods := #[k1m0, k1m1]
  instanceTypes := #[]
  staticTypes := #[]
  resolved := Array.replicate 36 none
  statics := none }

def pool2 : Array CpInfo := pool [(1, .methodref 2 3), (0, .class_ 4), (0, .nameAndType 5 6), (0, u "java/lang/Object"), (0, u "<init>"), (0, u "()V"), (0, .class_ 8), (0, u "java/lang/Record")] 13

def k2c0 : Code := { maxStack := 1, maxLocals := 1, code := jdk_30_method_1_code, exceptionTable := #[], attributes := #[] }
def k2m0 : Method := { name := "<init>", desc := "()V", sig := { parameters := [], returnType := none }, accessFlags := 4, code := some k2c0 }
/-- java/lang/Record -/
def k2 : Class := { plain "java/lang/Record" (some 0) with
  accessFlags := 1057
  interfaces := #[]
  cf := some (fileOf pool2 7 #[] #[{ accessFlags := 4, nameIndex := 5, descriptorIndex := 6, attributes := #[] }] 1057 2 #[] #[])
  fields := #[]
  methods := #[k2m0]
  instanceTypes := #[]
  staticTypes := #[]
  resolved := Array.replicate 22 none
  statics := none }

def pool3 : Array CpInfo := pool [(1, .methodref 2 3), (0, .class_ 4), (0, .nameAndType 5 6), (0, u "java/lang/Record"), (0, u "<init>"), (0, u "()V"), (9, .fieldref 17 18), (0, .class_ 19), (0, .nameAndType 20 21), (0, u "com/example/limpet/limpet/protocol/VersionRange"), (0, u "min"), (0, u "S"), (0, .fieldref 17 23), (0, .nameAndType 24 21), (0, u "max"), (2, u "(SS)V"), (2, u "contains"), (0, u "(S)Z")] 64

def k3c0 : Code := { maxStack := 4, maxLocals := 3, code := prog_62_method_1_code, exceptionTable := #[], attributes := #[] }
def k3m0 : Method := { name := "<init>", desc := "(SS)V", sig := { parameters := [.short, .short], returnType := none }, accessFlags := 1, code := some k3c0 }
def k3c1 : Code := { maxStack := 2, maxLocals := 2, code := prog_62_method_3_code, exceptionTable := #[], attributes := #[] }
def k3m1 : Method := { name := "contains", desc := "(S)Z", sig := { parameters := [.short], returnType := some .boolean }, accessFlags := 1, code := some k3c1 }
/-- com/example/limpet/limpet/protocol/VersionRange -/
def k3 : Class := { plain "com/example/limpet/limpet/protocol/VersionRange" (some 2) with
  accessFlags := 49
  interfaces := #[]
  cf := some (fileOf pool3 17 #[] #[{ accessFlags := 1, nameIndex := 5, descriptorIndex := 27, attributes := #[] }, { accessFlags := 1, nameIndex := 30, descriptorIndex := 31, attributes := #[] }] 49 2 #[] #[{ accessFlags := 18, nameIndex := 20, descriptorIndex := 21, attributes := #[] }, { accessFlags := 18, nameIndex := 24, descriptorIndex := 21, attributes := #[] }])
  fields := #[{ name := "min", type := .short, accessFlags := 18, slot := 0, constantValue := 0 }, { name := "max", type := .short, accessFlags := 18, slot := 1, constantValue := 0 }]
  methods := #[k3m0, k3m1]
  instanceTypes := #[.short, .short]
  staticTypes := #[]
  resolved := Array.replicate 96 none
  statics := none }

def pool4 : Array CpInfo := pool [(1, .class_ 2), (0, u "java/lang/Math"), (1, .class_ 6), (1, u "java/lang/Object"), (0, u "<init>"), (0, u "()V"), (89, .class_ 100), (1, u "java/lang/Math$RandomNumberGeneratorHolder"), (71, u "negativeZeroFloatBits"), (0, u "J"), (2, u "negativeZeroDoubleBits"), (21, u "max"), (2, u "min"), (43, u "$assertionsDisabled"), (0, u "Z"), (88, u "(II)I"), (2, u "twoToTheDoubleScaleDown"), (0, u "D"), (4, u "twoToTheDoubleScaleUp"), (9, u "E"), (3, u "PI"), (2, u "TAU"), (2, u "DEGREES_TO_RADIANS"), (0, u "RADIANS_TO_DEGREES")] 94

def k4m0 : Method := { name := "<init>", desc := "()V", sig := { parameters := [], returnType := none }, accessFlags := 2, code := none }
def k4c1 : Code := { maxStack := 2, maxLocals := 2, code := jdk_29_method_65_code, exceptionTable := #[], attributes := #[] }
def k4m1 : Method := { name := "max", desc := "(II)I", sig := { parameters := [.int, .int], returnType := some .int }, accessFlags := 9, code := some k4c1 }
def k4c2 : Code := { maxStack := 2, maxLocals := 2, code := jdk_29_method_69_code, exceptionTable := #[], attributes := #[] }
def k4m2 : Method := { name := "min", desc := "(II)I", sig := { parameters := [.int, .int], returnType := some .int }, accessFlags := 9, code := some k4c2 }
/-- java/lang/Math -/
def k4 : Class := { plain "java/lang/Math" (some 0) with
  accessFlags := 49
  interfaces := #[]
  cf := some (fileOf pool4 1 #[.nestMembers #[98]] #[{ accessFlags := 2, nameIndex := 7, descriptorIndex := 8, attributes := #[] }, { accessFlags := 9, nameIndex := 198, descriptorIndex := 335, attributes := #[] }, { accessFlags := 9, nameIndex := 201, descriptorIndex := 335, attributes := #[] }] 49 4 #[] #[{ accessFlags := 25, nameIndex := 354, descriptorIndex := 339, attributes := #[] }, { accessFlags := 25, nameIndex := 358, descriptorIndex := 339, attributes := #[] }, { accessFlags := 25, nameIndex := 361, descriptorIndex := 339, attributes := #[] }, { accessFlags := 26, nameIndex := 364, descriptorIndex := 339, attributes := #[] }, { accessFlags := 26, nameIndex := 365, descriptorIndex := 339, attributes := #[] }, { accessFlags := 26, nameIndex := 172, descriptorIndex := 173, attributes := #[] }, { accessFlags := 26, nameIndex := 176, descriptorIndex := 173, attributes := #[] }, { accessFlags := 8, nameIndex := 344, descriptorIndex := 339, attributes := #[] }, { accessFlags := 8, nameIndex := 338, descriptorIndex := 339, attributes := #[] }, { accessFlags := 4120, nameIndex := 245, descriptorIndex := 246, attributes := #[] }])
  fields := #[{ name := "E", type := .double, accessFlags := 25, slot := 0, constantValue := 0 }, { name := "PI", type := .double, accessFlags := 25, slot := 1, constantValue := 0 }, { name := "TAU", type := .double, accessFlags := 25, slot := 2, constantValue := 0 }, { name := "DEGREES_TO_RADIANS", type := .double, accessFlags := 26, slot := 3, constantValue := 0 }, { name := "RADIANS_TO_DEGREES", type := .double, accessFlags := 26, slot := 4, constantValue := 0 }, { name := "negativeZeroFloatBits", type := .long, accessFlags := 26, slot := 5, constantValue := 0 }, { name := "negativeZeroDoubleBits", type := .long, accessFlags := 26, slot := 6, constantValue := 0 }, { name := "twoToTheDoubleScaleUp", type := .double, accessFlags := 8, slot := 7, constantValue := 0 }, { name := "twoToTheDoubleScaleDown", type := .double, accessFlags := 8, slot := 8, constantValue := 0 }, { name := "$assertionsDisabled", type := .boolean, accessFlags := 4120, slot := 9, constantValue := 0 }]
  methods := #[k4m0, k4m1, k4m2]
  instanceTypes := #[]
  staticTypes := #[.double, .double, .double, .double, .double, .long, .long, .double, .double, .boolean]
  resolved := Array.replicate 460 none
  statics := none }

def pool5 : Array CpInfo := pool [(1, u "java/lang/Cloneable"), (0, .class_ 1), (0, u "java/lang/Object"), (0, .class_ 3)] 3

/-- java/lang/Cloneable -/
def k5 : Class := { plain "java/lang/Cloneable" (some 0) with
  accessFlags := 1537
  interfaces := #[]
  cf := some (fileOf pool5 2 #[] #[] 1537 4 #[] #[])
  fields := #[]
  methods := #[]
  instanceTypes := #[]
  staticTypes := #[]
  resolved := Array.replicate 8 none
  statics := none }

def pool6 : Array CpInfo := pool [(1, u "java/io/Serializable"), (0, .class_ 1), (0, u "java/lang/Object"), (0, .class_ 3)] 3

/-- java/io/Serializable -/
def k6 : Class := { plain "java/io/Serializable" (some 0) with
  accessFlags := 1537
  interfaces := #[]
  cf := some (fileOf pool6 2 #[] #[] 1537 4 #[] #[])
  fields := #[]
  methods := #[]
  instanceTypes := #[]
  staticTypes := #[]
  resolved := Array.replicate 8 none
  statics := none }

/-- the primitive byte -/
def k7 : Class := { plain "byte" none with kind := .primitive 'B', accessFlags := 0x411 }
/-- [B -/
def k8 : Class := { plain "[B" (some 0) with kind := .array 7 .byte, interfaces := #[5, 6], accessFlags := 1041 }

/-- the primitive int -/
def k9 : Class := { plain "int" none with kind := .primitive 'I', accessFlags := 0x411 }
/-- [I -/
def k10 : Class := { plain "[I" (some 0) with kind := .array 9 .int, interfaces := #[5, 6], accessFlags := 1041 }

def heap : Heap := #[]
def classes : Array Class := #[k0, k1, k2, k3, k4, k5, k6, k7, k8, k9, k10]
def interned : List (Array UInt16 × Addr) := []
def slotsUsed : Nat := 0
def theMethod : MethodId := ⟨1, 1⟩
def args0 : Array Value := #[.int 5, .int 5, .int 5, .int 5]
def aboutOver (below : List Frame) : State where
  vm := { classes := classes, interned := interned.toArray }
  heap := heap
  slotsUsed := slotsUsed
  threads := #[{ frames := .invoking theMethod args0 :: below }]
def below0 : List Frame := [.native { method := ⟨0, 0⟩, args := #[] }]
def about1 : State := aboutOver below0
def p0 : Program := .bare "" "" ""
def e0 : Env := launch0.env 0 0 0
theorem w_frames : about1.frames = Frame.invoking theMethod args0 :: below0 := rfl
set_option maxRecDepth 65536 in
theorem w_args : argsFit about1.vm theMethod args0 = true := by decide +kernel
set_option maxRecDepth 65536 in
theorem w_heap : heapFits about1 = true := by decide +kernel
set_option maxRecDepth 65536 in
theorem w_runnable : about1.curStatus? = some .runnable := by decide +kernel
set_option maxRecDepth 65536 in
theorem w_alone : about1.alone = true := by decide +kernel
set_option maxRecDepth 65536 in
theorem w_named : about1.methodNamed? x = some theMethod := by decide +kernel
set_option maxRecDepth 65536 in
theorem w_hears : about1.hears theMethod below0 = true := by decide +kernel
set_option maxRecDepth 65536 in
theorem w_ripe : about1.ripe theMethod args0 below0 = true := by decide +kernel
theorem w_running : about1.status = .running := rfl
set_option maxRecDepth 65536 in
theorem w_room : about1.hasRoom e0.platform room_1 = true :=
  launch0.hasRoom_least _ room_1 (by decide +kernel) (by decide +kernel) (by decide +kernel) (by decide +kernel) (by decide +kernel) (by decide +kernel)
theorem allAtoms_all (ts : List Jvm.Cond) (a : Array Jvm.Value) (st : Jvm.State) : (allAtoms ts).before a st = ts.all (fun c => c.before a st) := by
  induction ts with
  | nil => rfl
  | cons c t ih =>
    show (Jvm.Cond.and c (allAtoms t)).before a st = _
    rw [Jvm.Cond.before_and, ih, List.all_cons]
def words1 : List Jvm.Cond := Jvm.Cond.code x code maxLocals ret :: tables_1
/-- a 'code' word, met by the world's own term for the bytes: nothing is compared byte by byte -/
theorem code_word {y : MethodName} {bytes : ByteArray} {mx : Nat} {rt : Option FieldType} {a : Array Value} {s : State} {m : MethodId} {meth : Method} {c : Code} (h1 : s.methodNamed? y = some m) (h2 : s.vm.method? m = some meth) (h3 : meth.code = some c) (h4 : c.code = bytes)
    (h5 : (c.maxLocals == mx && c.exceptionTable.isEmpty && decide (c.maxStack ≤ mostOperands) && decide (meth.sig.returnType = rt) && !meth.locks && decide (parseMethodDescriptor y.desc = some meth.sig)) = true) : (Jvm.Cond.code y bytes mx rt).before a s = true := by
  simp only [Bool.and_eq_true, beq_iff_eq, Bool.not_eq_true', decide_eq_true_eq] at h5
  obtain ⟨⟨⟨⟨⟨g1, g2⟩, g3⟩, g4⟩, g5⟩, g6⟩ := h5
  simp [Cond.before, Cond.holds, Cond.value, h1, h2, h3, h4, g1, g2, g3, g4, g5, g6]
def isCode : Jvm.Cond → Bool
  | .code _ _ _ _ => true
  | _ => false
theorem all_split {L : List Jvm.Cond} {P : Jvm.Cond → Bool} (h1 : L.all (fun c => isCode c || P c) = true) (h2 : ∀ c ∈ L.filter isCode, P c = true) : L.all P = true := by
  refine List.all_eq_true.mpr fun c hc => ?_
  have h := List.all_eq_true.mp h1 c hc
  rcases Bool.eq_false_or_eq_true (isCode c) with hi | hi
  · exact h2 c (List.mem_filter.mpr ⟨hc, hi⟩)
  · simpa [hi] using h
set_option maxRecDepth 65536 in
theorem w_c0 : (Jvm.Cond.code x code maxLocals ret).before args0 about1 = true := code_word (m := ⟨1, 1⟩) (meth := k1m1) (c := k1c1) (by decide +kernel) rfl rfl rfl (by decide +kernel)
set_option maxRecDepth 65536 in
theorem w_c1 : (Jvm.Cond.code ({ cls := "com/example/limpet/limpet/protocol/VersionRange", name := "<init>", desc := "(SS)V" } : Jvm.MethodName) prog_62_method_1_code (3 : Nat) (Option.none : Option Jvm.ClassFile.FieldType)).before args0 about1 = true := code_word (m := ⟨3, 0⟩) (meth := k3m0) (c := k3c0) (by decide +kernel) rfl rfl rfl (by decide +kernel)
set_option maxRecDepth 65536 in
theorem w_c2 : (Jvm.Cond.code ({ cls := "java/lang/Record", name := "<init>", desc := "()V" } : Jvm.MethodName) jdk_30_method_1_code (1 : Nat) (Option.none : Option Jvm.ClassFile.FieldType)).before args0 about1 = true := code_word (m := ⟨2, 0⟩) (meth := k2m0) (c := k2c0) (by decide +kernel) rfl rfl rfl (by decide +kernel)
set_option maxRecDepth 65536 in
theorem w_c3 : (Jvm.Cond.code ({ cls := "java/lang/Object", name := "<init>", desc := "()V" } : Jvm.MethodName) object_method_1_code (1 : Nat) (Option.none : Option Jvm.ClassFile.FieldType)).before args0 about1 = true := code_word (m := ⟨0, 0⟩) (meth := k0m0) (c := k0c0) (by decide +kernel) rfl rfl rfl (by decide +kernel)
set_option maxRecDepth 65536 in
theorem w_c4 : (Jvm.Cond.code ({ cls := "com/example/limpet/limpet/protocol/VersionRange", name := "contains", desc := "(S)Z" } : Jvm.MethodName) prog_62_method_3_code (2 : Nat) (Option.some Jvm.ClassFile.FieldType.boolean)).before args0 about1 = true := code_word (m := ⟨3, 1⟩) (meth := k3m1) (c := k3c1) (by decide +kernel) rfl rfl rfl (by decide +kernel)
set_option maxRecDepth 65536 in
theorem w_c5 : (Jvm.Cond.code ({ cls := "java/lang/Math", name := "min", desc := "(II)I" } : Jvm.MethodName) jdk_29_method_69_code (2 : Nat) (Option.some Jvm.ClassFile.FieldType.int)).before args0 about1 = true := code_word (m := ⟨4, 2⟩) (meth := k4m2) (c := k4c2) (by decide +kernel) rfl rfl rfl (by decide +kernel)
set_option maxRecDepth 65536 in
theorem w_c6 : (Jvm.Cond.code ({ cls := "java/lang/Math", name := "max", desc := "(II)I" } : Jvm.MethodName) jdk_29_method_65_code (2 : Nat) (Option.some Jvm.ClassFile.FieldType.int)).before args0 about1 = true := code_word (m := ⟨4, 1⟩) (meth := k4m1) (c := k4c1) (by decide +kernel) rfl rfl rfl (by decide +kernel)
def codes1 : List Jvm.Cond := [Jvm.Cond.code x code maxLocals ret, Jvm.Cond.code ({ cls := "com/example/limpet/limpet/protocol/VersionRange", name := "<init>", desc := "(SS)V" } : Jvm.MethodName) prog_62_method_1_code (3 : Nat) (Option.none : Option Jvm.ClassFile.FieldType), Jvm.Cond.code ({ cls := "java/lang/Record", name := "<init>", desc := "()V" } : Jvm.MethodName) jdk_30_method_1_code (1 : Nat) (Option.none : Option Jvm.ClassFile.FieldType), Jvm.Cond.code ({ cls := "java/lang/Object", name := "<init>", desc := "()V" } : Jvm.MethodName) object_method_1_code (1 : Nat) (Option.none : Option Jvm.ClassFile.FieldType), Jvm.Cond.code ({ cls := "com/example/limpet/limpet/protocol/VersionRange", name := "contains", desc := "(S)Z" } : Jvm.MethodName) prog_62_method_3_code (2 : Nat) (Option.some Jvm.ClassFile.FieldType.boolean), Jvm.Cond.code ({ cls := "java/lang/Math", name := "min", desc := "(II)I" } : Jvm.MethodName) jdk_29_method_69_code (2 : Nat) (Option.some Jvm.ClassFile.FieldType.int), Jvm.Cond.code ({ cls := "java/lang/Math", name := "max", desc := "(II)I" } : Jvm.MethodName) jdk_29_method_65_code (2 : Nat) (Option.some Jvm.ClassFile.FieldType.int)]
set_option maxRecDepth 65536 in
theorem codes_eq : words1.filter isCode = codes1 := rfl
theorem w_codes : ∀ c ∈ words1.filter isCode, c.before args0 about1 = true := by
  rw [codes_eq]
  intro c hc
  simp only [codes1, List.mem_cons, List.not_mem_nil, or_false] at hc
  rcases hc with rfl | rfl | rfl | rfl | rfl | rfl | rfl
  · exact w_c0
  · exact w_c1
  · exact w_c2
  · exact w_c3
  · exact w_c4
  · exact w_c5
  · exact w_c6
set_option maxRecDepth 65536 in
theorem w_t1 : (words1.take 24).all (fun c => isCode c || c.before args0 about1) = true := by decide +kernel
set_option maxRecDepth 65536 in
theorem w_t2 : (words1.drop 24).all (fun c => isCode c || c.before args0 about1) = true := by decide +kernel
theorem w_tables : (allAtoms (Jvm.Cond.code x code maxLocals ret :: tables_1)).before args0 about1 = true := by
  rw [allAtoms_all]
  show words1.all (fun c => c.before args0 about1) = true
  refine all_split ?_ w_codes
  rw [← List.take_append_drop 24 words1, List.all_append, w_t1, w_t2]
  rfl
set_option maxRecDepth 65536 in
theorem w_case : (Jvm.Cond.and given_1 narrow_1).before args0 about1 = true := by decide +kernel
theorem w_applies : (headSpec (Jvm.Cond.code x code maxLocals ret :: tables_1) room_1).applies x e0.platform about1 = true :=
  (Spec.applies_iff w_frames).mpr ⟨w_running, w_runnable, w_alone, w_named, w_hears, w_ripe, w_room, w_tables⟩
theorem atStart : AtStart classFile x code maxLocals ret World_1 tables_1 room_1 Calls_1 rest_1 Pre_1 launch0 p0 e0 about1 theMethod args0 below0 :=
  ⟨lists_1, trivial, launch0.admits_env _ _ _, launch0.least_env, fairChoices_fair.cas, fairChoices_fair.clock, w_frames, w_args, w_heap, w_applies, trivial, trivial, w_case⟩
end start1
theorem witness_1 : WitnessClaimed_1 := ⟨start1.p0, start1.e0, start1.about1, start1.theMethod, start1.args0, start1.below0, start1.atStart⟩
end Jvm.Pilot.@@N@@
