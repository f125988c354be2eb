import JvmDerived
import JvmDerived.Pilot.@@N@@Statement
import JvmDerived.Pilot.@@N@@Code
set_option linter.unusedVariables false
set_option linter.unusedSimpArgs false
namespace Jvm.RoadKit
open Sem ClassFile Op Lib Jvm.Stand Jvm.Free Jvm.LawKit
section New
variable {p : Program} {l : Launch} {e : Env} {R : Room} {s : State} {m : MethodId} {args : Array Value} {below : List Frame} {meth : Method} {c : Code} {T : State} {locs : List Loc} {cells slots : Nat}
theorem retI (X : Stand p l e R s m args below meth c T locs cells slots) (hx : p.tables.exec = Jvm.exec) {pc : Nat} {Ls : Array Slot} {z : Int32} {rest : List Value} (hret : meth.sig.returnType = some .int) (hd : decode c.code pc = .ok (.ireturn, 1)) {fs : List Frame}
    (hl : ∀ (f : JFrame) (acts : List Action), f.method = m → f.locked = none → f.entered = [] → (doReturn e (T.setTop f) acts (some (.int z))).1 = T.setFrames fs) : Steps p.tables e below (T.setTop (mkF m pc Ls (.int z :: rest))) (T.setFrames fs) := by
  have hm' : T.vm.method? m = some meth := X.method'
  have hn : narrow .int (.int z) = .int z := rfl
  show Steps p.tables e below (T.setTop { method := m, pc := pc, locals := Ls, stack := _ :: rest, locked := none }) _
  jvm_step X.here [X.here.top, hx, hd, hm', hret, hn]
  first | (intro acts; rw [hl _ acts rfl rfl rfl]) | rw [hl _ _ rfl rfl rfl]
  exact Steps.refl _
end New
end Jvm.RoadKit
namespace Jvm.Pilot.@@N@@
open Jvm Jvm.ClassFile Sem Op Lib Jvm.Free Jvm.Stand Jvm.LawKit Jvm.RoadKit Bundle Jvm.Pilot.@@N@@.Jvm.D
def Gl (p : Program) (e : Env) (below : List Frame) (Q : Outcome → State → Prop) (A : State) : Prop := ∃ t o, Steps p.tables e below A t ∧ t.status = .running ∧ Ended t below o ∧ Q o t
theorem Gl.st {p : Program} {e : Env} {below : List Frame} {Q : Outcome → State → Prop} {A B : State} (k : ∀ t, Steps p.tables e below B t → Steps p.tables e below A t) (h : Gl p e below Q B) : Gl p e below Q A := by
  obtain ⟨t, o, h1, r⟩ := h
  exact ⟨t, o, k t h1, r⟩
theorem Gl.cast {p : Program} {e : Env} {below : List Frame} {Q : Outcome → State → Prop} {A B : State} (k : A = B) (h : Gl p e below Q B) : Gl p e below Q A := k ▸ h
theorem Gl.join {p : Program} {e : Env} {below : List Frame} {Q : Outcome → State → Prop} {A B : State} (k : Gl p e below Q A → Gl p e below Q B) (h : Gl p e below Q A) : Gl p e below Q B := k h
theorem Gl.fin {p : Program} {e : Env} {below : List Frame} {Q : Outcome → State → Prop} {A t : State} {o : Outcome} (h1 : Steps p.tables e below A t) (h2 : t.status = .running) (h3 : Ended t below o) (h4 : Q o t) : Gl p e below Q A := ⟨t, o, h1, h2, h3, h4⟩
theorem tw {a0 : Array Value} {Z : State} (hw : ∀ d ∈ tables_1, d.before a0 Z = true) (i : Nat) {d : Jvm.Cond} (h : tables_1[i]? = some d) : d.before a0 Z = true := hw _ (List.mem_of_getElem? h)
theorem ldAt {L M : Array Slot} (h : L = M) {k : Nat} {v : Slot} (q : M[k]? = some v) : L[k]? = some v := h ▸ q
theorem stAt {L M L' M' : Array Slot} {k : Nat} {v w : Value} (h : L = M) (h' : L' = M') (e : w = v) (q : storeLocals M k v = some M') : storeLocals L k w = some L' := by subst h h' e; exact q
theorem stAt' {L M L' M' : Array Slot} {k : Nat} {v w : Value} (h : L = M) (h' : L' = M') (e : w = v) (q : storeLocals M k v = some M') : storeLocals L k w = some L' := by subst h h' e; exact q
theorem szAt {L M : Array Slot} {k n : Nat} (h : k = n) (h' : L = M) (q : M.size = n) : L.size = k := by subst h h'; exact q
theorem efAt {m : MethodId} {L M : Array Slot} {f : JFrame} (h : L = M) (q : f = mkF m 0 M []) : f = mkF m 0 L [] := h ▸ q
theorem own_nb {c : Prop} [Decidable c] {a b : Int32} (ha : nar .boolean a = a) (hb : nar .boolean b = b) : nar .boolean (if c then a else b) = if c then a else b := by split <;> assumption
theorem own_eqL {args : Array Value} {s : State} {t : Term} {z : Int64} (h : (Jvm.Cond.eq t (.long z)).value args s none s [] = some true) : t.eval args s none [] s = some (.long z) := by
  obtain ⟨x, y, ha, hb, k1, k2⟩ := cmp_v (Or.inl h)
  obtain rfl : y = .long z := Option.some.inj (hb.symm.trans (long_at z))
  obtain ⟨w, rfl⟩ : ∃ w, x = .long w := k2
  rw [ha, gotT (eq_L ha hb) h]
theorem own_eqI {args : Array Value} {s : State} {t : Term} {z : Int32} (h : (Jvm.Cond.eq t (.int z)).value args s none s [] = some true) : t.eval args s none [] s = some (.int z) := by
  obtain ⟨x, y, ha, hb, k1, k2⟩ := cmp_v (Or.inl h)
  obtain rfl : y = .int z := Option.some.inj (hb.symm.trans (Term.int_eval z))
  obtain ⟨w, rfl⟩ : ∃ w, x = .int w := k2
  rw [ha, gotT (Cond.eq_ints ha hb) h]
theorem own_sta_keep {Z : State} {h h' : Heap} {C n d : String} {v : Value} {ws : List Addr} (F : Sta Z h C n d v) (K : Keep h h' ws) (q : ∀ x ∈ ws, ∀ cell : Cell, h[x]? = some cell → cell.vm.isStatics = false) : Sta Z h' C n d v := by
  obtain ⟨cf, i, k, f, a, cell, h1, h2, h3, h4, h5, h6, r⟩ := F
  exact ⟨cf, i, k, f, a, cell, h1, h2, h3, h4, K.2.1 a cell h5 (fun y => by have := q a y cell h5; rw [h6] at this; cases this), h6, r⟩
theorem own_exa_plain {Z : State} {h : Heap} {a : Addr} {C : String} (F : Exa Z h a C) : ∀ cell : Cell, h[a]? = some cell → cell.vm.isStatics = false := fun cell hc => by
  obtain ⟨c', k, h1, -, -, h4, -⟩ := F
  rw [h1] at hc; cases hc; exact h4
theorem own_arv_plain {Z : State} {h : Heap} {a : Addr} {k : ClassId} {ty : FieldType} {z : Int32} {vs : List Value} {dv : Value} (F : Arv Z h a k ty z vs dv) : ∀ cell : Cell, h[a]? = some cell → cell.vm.isStatics = false := fun cell hc => by
  obtain ⟨c', A, -⟩ := F
  have := A.1; rw [this] at hc; cases hc; exact A.plain
theorem d2_0 : decode jdk_30_method_1_code 0 = .ok (.aload_n 0, 1) := by decide +kernel
theorem d2_1 : decode jdk_30_method_1_code 1 = .ok (.invokespecial 1, 3) := by decide +kernel
theorem d2_4 : decode jdk_30_method_1_code 4 = .ok (.return_, 1) := by decide +kernel
theorem pn_2 : plainName "java/lang/Record" = true := by first | (simp [plainName, overriddenIn]; done) | decide +kernel
theorem ef_2 (m : MethodId) (a1 : Addr) : entryFrame m #[(.ref a1)] 1 = mkF m 0 #[.val (.ref a1)] [] := by first | (simp [entryFrame, mkF, argsToLocals, Value.category]; done) | rfl
def Q2 (Z : State) (a1 : Addr) (h0 : Heap) (n0 : Nat) (v : Option Value) (h : Heap) (L : List Loc) : Prop := v = none ∧ Fr n0 L ∧ h = h0
set_option maxRecDepth 65536 in
set_option maxHeartbeats 40000000 in
theorem rm2 (l : Launch) (Z : State) (a0 : Array Value) (hw : ∀ d ∈ tables_1, d.before a0 Z = true) (ws : List Jvm.Cond) (a1 : Addr) (h0 : Heap) (n0 : Nat) (Z0 : n0 ≤ h0.size) :
    MetFree l (⟨"java/lang/Record", "<init>", "()V"⟩ : MethodName) (head1 (Jvm.Cond.code (⟨"java/lang/Record", "<init>", "()V"⟩ : MethodName) jdk_30_method_1_code 1 none :: ws) ({ frames := 1, cells := 0, slots := 0, locals := 12 } : Room)) (fun a U => a = #[(.ref a1)] ∧ Z.Warmed39 U.vm ∧ U.heap = h0) (fun _ _ _ _ _ => True) (fun _ U o U' => ∃ v L, o = .returned v ∧ Q2 Z a1 h0 n0 v U'.heap L ∧ FrameEnd U o U' L ({ frames := 1, cells := 0, slots := 0, locals := 12 } : Room).cells ({ frames := 1, cells := 0, slots := 0, locals := 12 } : Room).slots) := by
  refine MetFree.of_bodySF (plainFor_of_name pn_2) hisR ?_
  intro p e s m args below meth c s₁ Bd hml0 hP hK
  obtain ⟨rfl, hZ, hh⟩ := hP
  have hx := Bd.exec
  have hby := Bd.bytes
  have hml : c.maxLocals = 1 := hml0
  have hown : s.vm.findClass "java/lang/Record" = some m.cls := findClass_of_methodNamed Bd.named
  have hnm := (name_of_methodNamed Bd.named Bd.method).1
  have X0 : Stand p l e ({ frames := 1, cells := 0, slots := 0, locals := 12 } : Room) s m #[(.ref a1)] below meth c s₁ [] 0 0 := Stand.of_body Bd
  have e0 : s₁.heap = h0 := by rw [← hh, Bd.state]; rfl
  have N0 := Fr.nil n0
  have K0 : Keep h0 h0 [] := Keep.refl h0 _
  refine (show Gl p e below (fun o U' => ∃ v L, o = .returned v ∧ Q2 Z a1 h0 n0 v U'.heap L ∧ FrameEnd s o U' L ({ frames := 1, cells := 0, slots := 0, locals := 12 } : Room).cells ({ frames := 1, cells := 0, slots := 0, locals := 12 } : Room).slots) (s₁.setTop (entryFrame m #[(.ref a1)] 1)) from ?_)
  obtain ⟨L0, hL0⟩ : ∃ z : Array Slot, z = #[.val (.ref a1)] := ⟨_, rfl⟩
  refine Gl.st (B := (s₁.setTop (mkF m 0 L0 []))) (fun t k => castTop (efAt hL0 (ef_2 m a1)) k) ?_
  refine Gl.st (B := (s₁.setTop (mkF m 1 L0 [(.ref a1)]))) (fun t k => XS.aloadN X0.here hx rfl (hb hby d2_0) (ldAt hL0 rfl) rfl k) ?_
  obtain ⟨T1, X1, e1, st1⟩ := initO X0 hx hZ hown (tw hw 11 rfl) (tw hw 12 rfl) (tw hw 13 rfl) e0 (g := (mkF m 1 L0 [(.ref a1)])) rfl (szAt hml hL0 rfl) rfl (hb hby d2_1) (by decide) (W := 0) (by show 2 * 0 + _ ≤ _; exact Nat.le_of_eq rfl) (by decide)
  refine Gl.st (B := (T1.setTop (mkF m 4 L0 []))) st1 ?_
  obtain ⟨fs, hr, hrun, hended, hW, hsame⟩ := X1.leave (v := none) (fun _ => rfl)
  refine Gl.fin (X1.returnOut hx Bd.returns (hb hby d2_4) hr) hrun hended ⟨_, _, rfl, ?_, ⟨_, rfl⟩, hW, hsame.mono (by decide) (by decide)⟩
  show Q2 Z a1 h0 n0 _ T1.heap _
  rw [e1]
  exact ⟨rfl, N0, rfl⟩
theorem sn0 {Z : State} {a0 : Array Value} (hw : ∀ d ∈ tables_1, d.before a0 Z = true) : Jvm.RoadKit.slotOf Z "com/example/covenant_atlas/covenantatlas/model/Tally" "failed" "I" ≠ Jvm.RoadKit.slotOf Z "com/example/covenant_atlas/covenantatlas/model/Tally" "passed" "I" := slot_ne (Or.inr (tw hw 17 rfl)) (Or.inr (tw hw 15 rfl)) (by decide) (t := .int) (t' := .int) (by decide) (by decide)
theorem sn1 {Z : State} {a0 : Array Value} (hw : ∀ d ∈ tables_1, d.before a0 Z = true) : Jvm.RoadKit.slotOf Z "com/example/covenant_atlas/covenantatlas/model/Tally" "missing" "I" ≠ Jvm.RoadKit.slotOf Z "com/example/covenant_atlas/covenantatlas/model/Tally" "passed" "I" := slot_ne (Or.inr (tw hw 19 rfl)) (Or.inr (tw hw 15 rfl)) (by decide) (t := .int) (t' := .int) (by decide) (by decide)
theorem sn2 {Z : State} {a0 : Array Value} (hw : ∀ d ∈ tables_1, d.before a0 Z = true) : Jvm.RoadKit.slotOf Z "com/example/covenant_atlas/covenantatlas/model/Tally" "missing" "I" ≠ Jvm.RoadKit.slotOf Z "com/example/covenant_atlas/covenantatlas/model/Tally" "failed" "I" := slot_ne (Or.inr (tw hw 19 rfl)) (Or.inr (tw hw 17 rfl)) (by decide) (t := .int) (t' := .int) (by decide) (by decide)
theorem sn3 {Z : State} {a0 : Array Value} (hw : ∀ d ∈ tables_1, d.before a0 Z = true) : Jvm.RoadKit.slotOf Z "com/example/covenant_atlas/covenantatlas/model/Tally" "notDue" "I" ≠ Jvm.RoadKit.slotOf Z "com/example/covenant_atlas/covenantatlas/model/Tally" "passed" "I" := slot_ne (Or.inr (tw hw 21 rfl)) (Or.inr (tw hw 15 rfl)) (by decide) (t := .int) (t' := .int) (by decide) (by decide)
theorem sn4 {Z : State} {a0 : Array Value} (hw : ∀ d ∈ tables_1, d.before a0 Z = true) : Jvm.RoadKit.slotOf Z "com/example/covenant_atlas/covenantatlas/model/Tally" "notDue" "I" ≠ Jvm.RoadKit.slotOf Z "com/example/covenant_atlas/covenantatlas/model/Tally" "failed" "I" := slot_ne (Or.inr (tw hw 21 rfl)) (Or.inr (tw hw 17 rfl)) (by decide) (t := .int) (t' := .int) (by decide) (by decide)
theorem sn5 {Z : State} {a0 : Array Value} (hw : ∀ d ∈ tables_1, d.before a0 Z = true) : Jvm.RoadKit.slotOf Z "com/example/covenant_atlas/covenantatlas/model/Tally" "notDue" "I" ≠ Jvm.RoadKit.slotOf Z "com/example/covenant_atlas/covenantatlas/model/Tally" "missing" "I" := slot_ne (Or.inr (tw hw 21 rfl)) (Or.inr (tw hw 19 rfl)) (by decide) (t := .int) (t' := .int) (by decide) (by decide)
theorem sn6 {Z : State} {a0 : Array Value} (hw : ∀ d ∈ tables_1, d.before a0 Z = true) : Jvm.RoadKit.slotOf Z "com/example/covenant_atlas/covenantatlas/model/Tally" "unread" "I" ≠ Jvm.RoadKit.slotOf Z "com/example/covenant_atlas/covenantatlas/model/Tally" "passed" "I" := slot_ne (Or.inr (tw hw 23 rfl)) (Or.inr (tw hw 15 rfl)) (by decide) (t := .int) (t' := .int) (by decide) (by decide)
theorem sn7 {Z : State} {a0 : Array Value} (hw : ∀ d ∈ tables_1, d.before a0 Z = true) : Jvm.RoadKit.slotOf Z "com/example/covenant_atlas/covenantatlas/model/Tally" "unread" "I" ≠ Jvm.RoadKit.slotOf Z "com/example/covenant_atlas/covenantatlas/model/Tally" "failed" "I" := slot_ne (Or.inr (tw hw 23 rfl)) (Or.inr (tw hw 17 rfl)) (by decide) (t := .int) (t' := .int) (by decide) (by decide)
theorem sn8 {Z : State} {a0 : Array Value} (hw : ∀ d ∈ tables_1, d.before a0 Z = true) : Jvm.RoadKit.slotOf Z "com/example/covenant_atlas/covenantatlas/model/Tally" "unread" "I" ≠ Jvm.RoadKit.slotOf Z "com/example/covenant_atlas/covenantatlas/model/Tally" "missing" "I" := slot_ne (Or.inr (tw hw 23 rfl)) (Or.inr (tw hw 19 rfl)) (by decide) (t := .int) (t' := .int) (by decide) (by decide)
theorem sn9 {Z : State} {a0 : Array Value} (hw : ∀ d ∈ tables_1, d.before a0 Z = true) : Jvm.RoadKit.slotOf Z "com/example/covenant_atlas/covenantatlas/model/Tally" "unread" "I" ≠ Jvm.RoadKit.slotOf Z "com/example/covenant_atlas/covenantatlas/model/Tally" "notDue" "I" := slot_ne (Or.inr (tw hw 23 rfl)) (Or.inr (tw hw 21 rfl)) (by decide) (t := .int) (t' := .int) (by decide) (by decide)
theorem sn10 {Z : State} {a0 : Array Value} (hw : ∀ d ∈ tables_1, d.before a0 Z = true) : Jvm.RoadKit.slotOf Z "com/example/covenant_atlas/covenantatlas/model/Tally" "passed" "I" ≠ Jvm.RoadKit.slotOf Z "com/example/covenant_atlas/covenantatlas/model/Tally" "failed" "I" := slot_ne (Or.inr (tw hw 15 rfl)) (Or.inr (tw hw 17 rfl)) (by decide) (t := .int) (t' := .int) (by decide) (by decide)
theorem sn11 {Z : State} {a0 : Array Value} (hw : ∀ d ∈ tables_1, d.before a0 Z = true) : Jvm.RoadKit.slotOf Z "com/example/covenant_atlas/covenantatlas/model/Tally" "passed" "I" ≠ Jvm.RoadKit.slotOf Z "com/example/covenant_atlas/covenantatlas/model/Tally" "missing" "I" := slot_ne (Or.inr (tw hw 15 rfl)) (Or.inr (tw hw 19 rfl)) (by decide) (t := .int) (t' := .int) (by decide) (by decide)
theorem sn12 {Z : State} {a0 : Array Value} (hw : ∀ d ∈ tables_1, d.before a0 Z = true) : Jvm.RoadKit.slotOf Z "com/example/covenant_atlas/covenantatlas/model/Tally" "passed" "I" ≠ Jvm.RoadKit.slotOf Z "com/example/covenant_atlas/covenantatlas/model/Tally" "notDue" "I" := slot_ne (Or.inr (tw hw 15 rfl)) (Or.inr (tw hw 21 rfl)) (by decide) (t := .int) (t' := .int) (by decide) (by decide)
theorem sn13 {Z : State} {a0 : Array Value} (hw : ∀ d ∈ tables_1, d.before a0 Z = true) : Jvm.RoadKit.slotOf Z "com/example/covenant_atlas/covenantatlas/model/Tally" "passed" "I" ≠ Jvm.RoadKit.slotOf Z "com/example/covenant_atlas/covenantatlas/model/Tally" "unread" "I" := slot_ne (Or.inr (tw hw 15 rfl)) (Or.inr (tw hw 23 rfl)) (by decide) (t := .int) (t' := .int) (by decide) (by decide)
theorem sn14 {Z : State} {a0 : Array Value} (hw : ∀ d ∈ tables_1, d.before a0 Z = true) : Jvm.RoadKit.slotOf Z "com/example/covenant_atlas/covenantatlas/model/Tally" "failed" "I" ≠ Jvm.RoadKit.slotOf Z "com/example/covenant_atlas/covenantatlas/model/Tally" "missing" "I" := slot_ne (Or.inr (tw hw 17 rfl)) (Or.inr (tw hw 19 rfl)) (by decide) (t := .int) (t' := .int) (by decide) (by decide)
theorem sn15 {Z : State} {a0 : Array Value} (hw : ∀ d ∈ tables_1, d.before a0 Z = true) : Jvm.RoadKit.slotOf Z "com/example/covenant_atlas/covenantatlas/model/Tally" "failed" "I" ≠ Jvm.RoadKit.slotOf Z "com/example/covenant_atlas/covenantatlas/model/Tally" "notDue" "I" := slot_ne (Or.inr (tw hw 17 rfl)) (Or.inr (tw hw 21 rfl)) (by decide) (t := .int) (t' := .int) (by decide) (by decide)
theorem sn16 {Z : State} {a0 : Array Value} (hw : ∀ d ∈ tables_1, d.before a0 Z = true) : Jvm.RoadKit.slotOf Z "com/example/covenant_atlas/covenantatlas/model/Tally" "failed" "I" ≠ Jvm.RoadKit.slotOf Z "com/example/covenant_atlas/covenantatlas/model/Tally" "unread" "I" := slot_ne (Or.inr (tw hw 17 rfl)) (Or.inr (tw hw 23 rfl)) (by decide) (t := .int) (t' := .int) (by decide) (by decide)
theorem sn17 {Z : State} {a0 : Array Value} (hw : ∀ d ∈ tables_1, d.before a0 Z = true) : Jvm.RoadKit.slotOf Z "com/example/covenant_atlas/covenantatlas/model/Tally" "missing" "I" ≠ Jvm.RoadKit.slotOf Z "com/example/covenant_atlas/covenantatlas/model/Tally" "notDue" "I" := slot_ne (Or.inr (tw hw 19 rfl)) (Or.inr (tw hw 21 rfl)) (by decide) (t := .int) (t' := .int) (by decide) (by decide)
theorem sn18 {Z : State} {a0 : Array Value} (hw : ∀ d ∈ tables_1, d.before a0 Z = true) : Jvm.RoadKit.slotOf Z "com/example/covenant_atlas/covenantatlas/model/Tally" "missing" "I" ≠ Jvm.RoadKit.slotOf Z "com/example/covenant_atlas/covenantatlas/model/Tally" "unread" "I" := slot_ne (Or.inr (tw hw 19 rfl)) (Or.inr (tw hw 23 rfl)) (by decide) (t := .int) (t' := .int) (by decide) (by decide)
theorem sn19 {Z : State} {a0 : Array Value} (hw : ∀ d ∈ tables_1, d.before a0 Z = true) : Jvm.RoadKit.slotOf Z "com/example/covenant_atlas/covenantatlas/model/Tally" "notDue" "I" ≠ Jvm.RoadKit.slotOf Z "com/example/covenant_atlas/covenantatlas/model/Tally" "unread" "I" := slot_ne (Or.inr (tw hw 21 rfl)) (Or.inr (tw hw 23 rfl)) (by decide) (t := .int) (t' := .int) (by decide) (by decide)
theorem d1_0 : decode prog_87_method_1_code 0 = .ok (.aload_n 0, 1) := by decide +kernel
theorem d1_1 : decode prog_87_method_1_code 1 = .ok (.invokespecial 1, 3) := by decide +kernel
theorem d1_4 : decode prog_87_method_1_code 4 = .ok (.aload_n 0, 1) := by decide +kernel
theorem d1_5 : decode prog_87_method_1_code 5 = .ok (.iload_n 1, 1) := by decide +kernel
theorem d1_6 : decode prog_87_method_1_code 6 = .ok (.putfield 7, 3) := by decide +kernel
theorem d1_9 : decode prog_87_method_1_code 9 = .ok (.aload_n 0, 1) := by decide +kernel
theorem d1_10 : decode prog_87_method_1_code 10 = .ok (.iload_n 2, 1) := by decide +kernel
theorem d1_11 : decode prog_87_method_1_code 11 = .ok (.putfield 13, 3) := by decide +kernel
theorem d1_14 : decode prog_87_method_1_code 14 = .ok (.aload_n 0, 1) := by decide +kernel
theorem d1_15 : decode prog_87_method_1_code 15 = .ok (.iload_n 3, 1) := by decide +kernel
theorem d1_16 : decode prog_87_method_1_code 16 = .ok (.putfield 16, 3) := by decide +kernel
theorem d1_19 : decode prog_87_method_1_code 19 = .ok (.aload_n 0, 1) := by decide +kernel
theorem d1_20 : decode prog_87_method_1_code 20 = .ok (.iload 4, 2) := by decide +kernel
theorem d1_22 : decode prog_87_method_1_code 22 = .ok (.putfield 19, 3) := by decide +kernel
theorem d1_25 : decode prog_87_method_1_code 25 = .ok (.aload_n 0, 1) := by decide +kernel
theorem d1_26 : decode prog_87_method_1_code 26 = .ok (.iload 5, 2) := by decide +kernel
theorem d1_28 : decode prog_87_method_1_code 28 = .ok (.putfield 22, 3) := by decide +kernel
theorem d1_31 : decode prog_87_method_1_code 31 = .ok (.return_, 1) := by decide +kernel
theorem pn_1 : plainName "com/example/covenant_atlas/covenantatlas/model/Tally" = true := by first | (simp [plainName, overriddenIn]; done) | decide +kernel
theorem pd_1_0 : parseMethodDescriptor "()V" = some ⟨[], none⟩ := by decide +kernel
theorem ef_1 (m : MethodId) (a1 : Addr) (p2 : Int32) (p3 : Int32) (p4 : Int32) (p5 : Int32) (p6 : Int32) : entryFrame m #[(.ref a1), (.int p2), (.int p3), (.int p4), (.int p5), (.int p6)] 6 = mkF m 0 #[.val (.ref a1), .val (.int p2), .val (.int p3), .val (.int p4), .val (.int p5), .val (.int p6)] [] := by first | (simp [entryFrame, mkF, argsToLocals, Value.category]; done) | rfl
def Q1 (Z : State) (a1 : Addr) (p2 : Int32) (p3 : Int32) (p4 : Int32) (p5 : Int32) (p6 : Int32) (u_passed_a1 : Value) (u_failed_a1 : Value) (u_missing_a1 : Value) (u_notDue_a1 : Value) (u_unread_a1 : Value) (h0 : Heap) (n0 : Nat) (v : Option Value) (h : Heap) (L : List Loc) : Prop := v = none ∧ Fr n0 L ∧ Keep h0 h [a1] ∧ Exa Z h a1 "com/example/covenant_atlas/covenantatlas/model/Tally" ∧ Fld Z h a1 "com/example/covenant_atlas/covenantatlas/model/Tally" "passed" "I" (.int p2) ∧ Fld Z h a1 "com/example/covenant_atlas/covenantatlas/model/Tally" "failed" "I" (.int p3) ∧ Fld Z h a1 "com/example/covenant_atlas/covenantatlas/model/Tally" "missing" "I" (.int p4) ∧ Fld Z h a1 "com/example/covenant_atlas/covenantatlas/model/Tally" "notDue" "I" (.int p5) ∧ Fld Z h a1 "com/example/covenant_atlas/covenantatlas/model/Tally" "unread" "I" (.int p6)
set_option maxRecDepth 65536 in
set_option maxHeartbeats 40000000 in
theorem rm1 (l : Launch) (Z : State) (a0 : Array Value) (hw : ∀ d ∈ tables_1, d.before a0 Z = true) (ws : List Jvm.Cond) (a1 : Addr) (p2 : Int32) (p3 : Int32) (p4 : Int32) (p5 : Int32) (p6 : Int32) (u_passed_a1 : Value) (u_failed_a1 : Value) (u_missing_a1 : Value) (u_notDue_a1 : Value) (u_unread_a1 : Value) (h0 : Heap) (n0 : Nat) (Z0 : n0 ≤ h0.size) (E_a1 : Exa Z h0 a1 "com/example/covenant_atlas/covenantatlas/model/Tally") (F_passed_a1 : Fld Z h0 a1 "com/example/covenant_atlas/covenantatlas/model/Tally" "passed" "I" u_passed_a1) (g_a1 : n0 ≤ a1) (F_failed_a1 : Fld Z h0 a1 "com/example/covenant_atlas/covenantatlas/model/Tally" "failed" "I" u_failed_a1) (F_missing_a1 : Fld Z h0 a1 "com/example/covenant_atlas/covenantatlas/model/Tally" "missing" "I" u_missing_a1) (F_notDue_a1 : Fld Z h0 a1 "com/example/covenant_atlas/covenantatlas/model/Tally" "notDue" "I" u_notDue_a1) (F_unread_a1 : Fld Z h0 a1 "com/example/covenant_atlas/covenantatlas/model/Tally" "unread" "I" u_unread_a1) :
    MetFree l (⟨"com/example/covenant_atlas/covenantatlas/model/Tally", "<init>", "(IIIII)V"⟩ : MethodName) (head1 (Jvm.Cond.code (⟨"com/example/covenant_atlas/covenantatlas/model/Tally", "<init>", "(IIIII)V"⟩ : MethodName) prog_87_method_1_code 6 none :: ws) ({ frames := 2, cells := 0, slots := 0, locals := 24 } : Room)) (fun a U => a = #[(.ref a1), (.int p2), (.int p3), (.int p4), (.int p5), (.int p6)] ∧ Z.Warmed39 U.vm ∧ U.heap = h0) (fun _ _ _ _ _ => True) (fun _ U o U' => ∃ v L, o = .returned v ∧ Q1 Z a1 p2 p3 p4 p5 p6 u_passed_a1 u_failed_a1 u_missing_a1 u_notDue_a1 u_unread_a1 h0 n0 v U'.heap L ∧ FrameEnd U o U' L ({ frames := 2, cells := 0, slots := 0, locals := 24 } : Room).cells ({ frames := 2, cells := 0, slots := 0, locals := 24 } : Room).slots) := by
  refine MetFree.of_bodySF (plainFor_of_name pn_1) hisR ?_
  intro p e s m args below meth c s₁ Bd hml0 hP hK
  obtain ⟨rfl, hZ, hh⟩ := hP
  have hx := Bd.exec
  have hby := Bd.bytes
  have hml : c.maxLocals = 6 := hml0
  have hown : s.vm.findClass "com/example/covenant_atlas/covenantatlas/model/Tally" = some m.cls := findClass_of_methodNamed Bd.named
  have hnm := (name_of_methodNamed Bd.named Bd.method).1
  have X0 : Stand p l e ({ frames := 2, cells := 0, slots := 0, locals := 24 } : Room) s m #[(.ref a1), (.int p2), (.int p3), (.int p4), (.int p5), (.int p6)] below meth c s₁ [] 0 0 := Stand.of_body Bd
  have e0 : s₁.heap = h0 := by rw [← hh, Bd.state]; rfl
  have N0 := Fr.nil n0
  have K0 : Keep h0 h0 [a1] := Keep.refl h0 _
  refine (show Gl p e below (fun o U' => ∃ v L, o = .returned v ∧ Q1 Z a1 p2 p3 p4 p5 p6 u_passed_a1 u_failed_a1 u_missing_a1 u_notDue_a1 u_unread_a1 h0 n0 v U'.heap L ∧ FrameEnd s o U' L ({ frames := 2, cells := 0, slots := 0, locals := 24 } : Room).cells ({ frames := 2, cells := 0, slots := 0, locals := 24 } : Room).slots) (s₁.setTop (entryFrame m #[(.ref a1), (.int p2), (.int p3), (.int p4), (.int p5), (.int p6)] 6)) from ?_)
  obtain ⟨L0, hL0⟩ : ∃ z : Array Slot, z = #[.val (.ref a1), .val (.int p2), .val (.int p3), .val (.int p4), .val (.int p5), .val (.int p6)] := ⟨_, rfl⟩
  refine Gl.st (B := (s₁.setTop (mkF m 0 L0 []))) (fun t k => castTop (efAt hL0 (ef_1 m a1 p2 p3 p4 p5 p6)) k) ?_
  refine Gl.st (B := (s₁.setTop (mkF m 1 L0 [(.ref a1)]))) (fun t k => XS.aloadN X0.here hx rfl (hb hby d1_0) (ldAt hL0 rfl) rfl k) ?_
  obtain ⟨_, _, ⟨T1, L1q, k1, n1⟩, -, X1, ⟨Lc1, hQ1, l1, y1, z1⟩, st1⟩ := X0.specialBack hx (y := (⟨"java/lang/Record", "<init>", "()V"⟩ : MethodName)) rfl hown (mvT hZ (tw hw 6 rfl)) (mvT hZ (tw hw 7 rfl)) (mvT hZ (tw hw 10 rfl)) (by decide) (backOf (W := 0) (rm2 l Z a0 hw [] a1 h0 n0 Z0) hZ (tw hw 10 rfl) (tw hw 9 rfl) (by decide) (by decide)) (g := (mkF m 1 L0 [(.ref a1)])) rfl (szAt hml hL0 rfl) (Steps.refl _) (a := a1) (argsL := []) (rest := []) (lenOf pd_1_0 rfl) rfl (by show 2 * 0 + _ ≤ _; exact Nat.le_of_eq rfl) (hb hby d1_1) (fun _ _ => ⟨rfl, e0, (by decide : 0 + 0 ≤ _), (by decide : 0 + 0 ≤ _)⟩)
  dsimp only [Pt.U, Pt.locs, Pt.cells, Pt.slots] at X1 l1 y1 z1 st1 hQ1
  subst l1 y1 z1
  obtain ⟨rfl, N1q, eh1⟩ := hQ1
  have N1 := Fr.app N0 N1q
  refine Gl.st (B := (T1.setTop (mkF m 4 L0 []))) (fun t k => st1.trans k) ?_
  refine Gl.st (B := (T1.setTop (mkF m 5 L0 [(.ref a1)]))) (fun t k => XS.aloadN X1.here hx rfl (hb hby d1_4) (ldAt hL0 rfl) rfl k) ?_
  refine Gl.st (B := (T1.setTop (mkF m 6 L0 [(.int p2), (.ref a1)]))) (fun t k => XS.iloadN X1.here hx rfl (hb hby d1_5) (ldAt hL0 rfl) k) ?_
  obtain ⟨T2, h2, X2, e2, W2, st2⟩ := putF X1 hx hZ hown (host := "") (Or.inl (tw hw 14 rfl)) Via.refl eh1 F_passed_a1 E_a1 (Or.inr ⟨(tw hw 15 rfl), rfl, hnm⟩) (tw hw 1 rfl) (ty := .int) (by decide) rfl rfl (g := (mkF m 6 L0 [(.int p2), (.ref a1)])) rfl rfl (hb hby d1_6)
  have Fw2 := F_passed_a1.same W2
  have Zc3 : n0 ≤ h2.size := Nat.le_trans Z0 (Nat.le_of_eq W2.size.symm)
  have K4 : Keep h0 h2 [a1] := K0.wr W2 (Or.inl (List.mem_of_getElem? (i := 0) rfl))
  have N2 := Fr.snoc X2 N1 g_a1
  refine Gl.st (B := (T2.setTop (mkF m 9 L0 []))) st2 ?_
  refine Gl.st (B := (T2.setTop (mkF m 10 L0 [(.ref a1)]))) (fun t k => XS.aloadN X2.here hx rfl (hb hby d1_9) (ldAt hL0 rfl) rfl k) ?_
  refine Gl.st (B := (T2.setTop (mkF m 11 L0 [(.int p3), (.ref a1)]))) (fun t k => XS.iloadN X2.here hx rfl (hb hby d1_10) (ldAt hL0 rfl) k) ?_
  have c5 := (E_a1.wr W2)
  have c6 := (F_failed_a1.other W2 (Or.inr (sn0 hw)))
  obtain ⟨T7, h7, X7, e7, W7, st7⟩ := putF X2 hx hZ hown (host := "") (Or.inl (tw hw 16 rfl)) Via.refl e2 c6 c5 (Or.inr ⟨(tw hw 17 rfl), rfl, hnm⟩) (tw hw 1 rfl) (ty := .int) (by decide) rfl rfl (g := (mkF m 11 L0 [(.int p3), (.ref a1)])) rfl rfl (hb hby d1_11)
  have Fw7 := c6.same W7
  have Zc8 : n0 ≤ h7.size := Nat.le_trans Zc3 (Nat.le_of_eq W7.size.symm)
  have K9 : Keep h0 h7 [a1] := K4.wr W7 (Or.inl (List.mem_of_getElem? (i := 0) rfl))
  have N7 := Fr.snoc X7 N2 g_a1
  refine Gl.st (B := (T7.setTop (mkF m 14 L0 []))) st7 ?_
  refine Gl.st (B := (T7.setTop (mkF m 15 L0 [(.ref a1)]))) (fun t k => XS.aloadN X7.here hx rfl (hb hby d1_14) (ldAt hL0 rfl) rfl k) ?_
  refine Gl.st (B := (T7.setTop (mkF m 16 L0 [(.int p4), (.ref a1)]))) (fun t k => XS.iloadN X7.here hx rfl (hb hby d1_15) (ldAt hL0 rfl) k) ?_
  have c10 := (c5.wr W7)
  have c11 := ((F_missing_a1.other W2 (Or.inr (sn1 hw))).other W7 (Or.inr (sn2 hw)))
  obtain ⟨T12, h12, X12, e12, W12, st12⟩ := putF X7 hx hZ hown (host := "") (Or.inl (tw hw 18 rfl)) Via.refl e7 c11 c10 (Or.inr ⟨(tw hw 19 rfl), rfl, hnm⟩) (tw hw 1 rfl) (ty := .int) (by decide) rfl rfl (g := (mkF m 16 L0 [(.int p4), (.ref a1)])) rfl rfl (hb hby d1_16)
  have Fw12 := c11.same W12
  have Zc13 : n0 ≤ h12.size := Nat.le_trans Zc8 (Nat.le_of_eq W12.size.symm)
  have K14 : Keep h0 h12 [a1] := K9.wr W12 (Or.inl (List.mem_of_getElem? (i := 0) rfl))
  have N12 := Fr.snoc X12 N7 g_a1
  refine Gl.st (B := (T12.setTop (mkF m 19 L0 []))) st12 ?_
  refine Gl.st (B := (T12.setTop (mkF m 20 L0 [(.ref a1)]))) (fun t k => XS.aloadN X12.here hx rfl (hb hby d1_19) (ldAt hL0 rfl) rfl k) ?_
  refine Gl.st (B := (T12.setTop (mkF m 22 L0 [(.int p5), (.ref a1)]))) (fun t k => XS.iload X12.here hx rfl (hb hby d1_20) (ldAt hL0 rfl) k) ?_
  have c15 := (c10.wr W12)
  have c16 := (((F_notDue_a1.other W2 (Or.inr (sn3 hw))).other W7 (Or.inr (sn4 hw))).other W12 (Or.inr (sn5 hw)))
  obtain ⟨T17, h17, X17, e17, W17, st17⟩ := putF X12 hx hZ hown (host := "") (Or.inl (tw hw 20 rfl)) Via.refl e12 c16 c15 (Or.inr ⟨(tw hw 21 rfl), rfl, hnm⟩) (tw hw 1 rfl) (ty := .int) (by decide) rfl rfl (g := (mkF m 22 L0 [(.int p5), (.ref a1)])) rfl rfl (hb hby d1_22)
  have Fw17 := c16.same W17
  have Zc18 : n0 ≤ h17.size := Nat.le_trans Zc13 (Nat.le_of_eq W17.size.symm)
  have K19 : Keep h0 h17 [a1] := K14.wr W17 (Or.inl (List.mem_of_getElem? (i := 0) rfl))
  have N17 := Fr.snoc X17 N12 g_a1
  refine Gl.st (B := (T17.setTop (mkF m 25 L0 []))) st17 ?_
  refine Gl.st (B := (T17.setTop (mkF m 26 L0 [(.ref a1)]))) (fun t k => XS.aloadN X17.here hx rfl (hb hby d1_25) (ldAt hL0 rfl) rfl k) ?_
  refine Gl.st (B := (T17.setTop (mkF m 28 L0 [(.int p6), (.ref a1)]))) (fun t k => XS.iload X17.here hx rfl (hb hby d1_26) (ldAt hL0 rfl) k) ?_
  have c20 := (c15.wr W17)
  have c21 := ((((F_unread_a1.other W2 (Or.inr (sn6 hw))).other W7 (Or.inr (sn7 hw))).other W12 (Or.inr (sn8 hw))).other W17 (Or.inr (sn9 hw)))
  obtain ⟨T22, h22, X22, e22, W22, st22⟩ := putF X17 hx hZ hown (host := "") (Or.inl (tw hw 22 rfl)) Via.refl e17 c21 c20 (Or.inr ⟨(tw hw 23 rfl), rfl, hnm⟩) (tw hw 1 rfl) (ty := .int) (by decide) rfl rfl (g := (mkF m 28 L0 [(.int p6), (.ref a1)])) rfl rfl (hb hby d1_28)
  have Fw22 := c21.same W22
  have Zc23 : n0 ≤ h22.size := Nat.le_trans Zc18 (Nat.le_of_eq W22.size.symm)
  have K24 : Keep h0 h22 [a1] := K19.wr W22 (Or.inl (List.mem_of_getElem? (i := 0) rfl))
  have N22 := Fr.snoc X22 N17 g_a1
  refine Gl.st (B := (T22.setTop (mkF m 31 L0 []))) st22 ?_
  obtain ⟨fs, hr, hrun, hended, hW, hsame⟩ := X22.leave (v := none) (fun _ => rfl)
  refine Gl.fin (X22.returnOut hx Bd.returns (hb hby d1_31) hr) hrun hended ⟨_, _, rfl, ?_, ⟨_, rfl⟩, hW, hsame.mono (by decide) (by decide)⟩
  show Q1 Z a1 p2 p3 p4 p5 p6 u_passed_a1 u_failed_a1 u_missing_a1 u_notDue_a1 u_unread_a1 h0 n0 _ T22.heap _
  rw [e22]
  have c25 := (c20.wr W22)
  have c26 := ((((Fw2.other W7 (Or.inr (sn10 hw))).other W12 (Or.inr (sn11 hw))).other W17 (Or.inr (sn12 hw))).other W22 (Or.inr (sn13 hw)))
  have c27 := (((Fw7.other W12 (Or.inr (sn14 hw))).other W17 (Or.inr (sn15 hw))).other W22 (Or.inr (sn16 hw)))
  have c28 := ((Fw12.other W17 (Or.inr (sn17 hw))).other W22 (Or.inr (sn18 hw)))
  have c29 := (Fw17.other W22 (Or.inr (sn19 hw)))
  exact ⟨rfl, N22, K24, c25, c26, c27, c28, c29, Fw22⟩
theorem d5_0 : decode prog_87_method_3_code 0 = .ok (.aload_n 0, 1) := by decide +kernel
theorem d5_1 : decode prog_87_method_3_code 1 = .ok (.getfield 16, 3) := by decide +kernel
theorem d5_4 : decode prog_87_method_3_code 4 = .ok (.aload_n 0, 1) := by decide +kernel
theorem d5_5 : decode prog_87_method_3_code 5 = .ok (.getfield 22, 3) := by decide +kernel
theorem d5_8 : decode prog_87_method_3_code 8 = .ok (.iadd, 1) := by decide +kernel
theorem d5_9 : decode prog_87_method_3_code 9 = .ok (.ireturn, 1) := by decide +kernel
theorem pn_5 : plainName "com/example/covenant_atlas/covenantatlas/model/Tally" = true := by first | (simp [plainName, overriddenIn]; done) | decide +kernel
theorem ef_5 (m : MethodId) (a1 : Addr) : entryFrame m #[(.ref a1)] 1 = mkF m 0 #[.val (.ref a1)] [] := by first | (simp [entryFrame, mkF, argsToLocals, Value.category]; done) | rfl
def Q5 (Z : State) (a1 : Addr) (w_missing_a1 : Int32) (w_unread_a1 : Int32) (h0 : Heap) (n0 : Nat) (v : Option Value) (h : Heap) (L : List Loc) : Prop := v = some (.int (w_missing_a1 + w_unread_a1)) ∧ Fr n0 L ∧ h = h0
set_option maxRecDepth 65536 in
set_option maxHeartbeats 40000000 in
theorem rm5 (l : Launch) (Z : State) (a0 : Array Value) (hw : ∀ d ∈ tables_1, d.before a0 Z = true) (ws : List Jvm.Cond) (a1 : Addr) (w_missing_a1 : Int32) (w_unread_a1 : Int32) (h0 : Heap) (n0 : Nat) (Z0 : n0 ≤ h0.size) (F_missing_a1 : Fld Z h0 a1 "com/example/covenant_atlas/covenantatlas/model/Tally" "missing" "I" (.int w_missing_a1)) (F_unread_a1 : Fld Z h0 a1 "com/example/covenant_atlas/covenantatlas/model/Tally" "unread" "I" (.int w_unread_a1)) :
    MetFree l (⟨"com/example/covenant_atlas/covenantatlas/model/Tally", "untested", "()I"⟩ : MethodName) (head1 (Jvm.Cond.code (⟨"com/example/covenant_atlas/covenantatlas/model/Tally", "untested", "()I"⟩ : MethodName) prog_87_method_3_code 1 (some .int) :: ws) ({ frames := 0, cells := 0, slots := 0, locals := 0 } : Room)) (fun a U => a = #[(.ref a1)] ∧ Z.Warmed39 U.vm ∧ U.heap = h0) (fun _ _ _ _ _ => True) (fun _ U o U' => ∃ v L, o = .returned v ∧ Q5 Z a1 w_missing_a1 w_unread_a1 h0 n0 v U'.heap L ∧ FrameEnd U o U' L ({ frames := 0, cells := 0, slots := 0, locals := 0 } : Room).cells ({ frames := 0, cells := 0, slots := 0, locals := 0 } : Room).slots) := by
  refine MetFree.of_bodySF (plainFor_of_name pn_5) hisR ?_
  intro p e s m args below meth c s₁ Bd hml0 hP hK
  obtain ⟨rfl, hZ, hh⟩ := hP
  have hx := Bd.exec
  have hby := Bd.bytes
  have hml : c.maxLocals = 1 := hml0
  have hown : s.vm.findClass "com/example/covenant_atlas/covenantatlas/model/Tally" = some m.cls := findClass_of_methodNamed Bd.named
  have hnm := (name_of_methodNamed Bd.named Bd.method).1
  have X0 : Stand p l e ({ frames := 0, cells := 0, slots := 0, locals := 0 } : Room) s m #[(.ref a1)] below meth c s₁ [] 0 0 := Stand.of_body Bd
  have e0 : s₁.heap = h0 := by rw [← hh, Bd.state]; rfl
  have N0 := Fr.nil n0
  have K0 : Keep h0 h0 [] := Keep.refl h0 _
  refine (show Gl p e below (fun o U' => ∃ v L, o = .returned v ∧ Q5 Z a1 w_missing_a1 w_unread_a1 h0 n0 v U'.heap L ∧ FrameEnd s o U' L ({ frames := 0, cells := 0, slots := 0, locals := 0 } : Room).cells ({ frames := 0, cells := 0, slots := 0, locals := 0 } : Room).slots) (s₁.setTop (entryFrame m #[(.ref a1)] 1)) from ?_)
  obtain ⟨L0, hL0⟩ : ∃ z : Array Slot, z = #[.val (.ref a1)] := ⟨_, rfl⟩
  refine Gl.st (B := (s₁.setTop (mkF m 0 L0 []))) (fun t k => castTop (efAt hL0 (ef_5 m a1)) k) ?_
  refine Gl.st (B := (s₁.setTop (mkF m 1 L0 [(.ref a1)]))) (fun t k => XS.aloadN X0.here hx rfl (hb hby d5_0) (ldAt hL0 rfl) rfl k) ?_
  obtain ⟨T1, X1, e1, st1⟩ := getF X0 hx hZ hown (host := "") (Or.inl (tw hw 18 rfl)) Via.refl e0 F_missing_a1 (g := (mkF m 1 L0 [(.ref a1)])) rfl rfl (hb hby d5_1)
  refine Gl.st (B := (T1.setTop (mkF m 4 L0 [(.int w_missing_a1)]))) st1 ?_
  refine Gl.st (B := (T1.setTop (mkF m 5 L0 [(.ref a1), (.int w_missing_a1)]))) (fun t k => XS.aloadN X1.here hx rfl (hb hby d5_4) (ldAt hL0 rfl) rfl k) ?_
  obtain ⟨T2, X2, e2, st2⟩ := getF X1 hx hZ hown (host := "") (Or.inl (tw hw 22 rfl)) Via.refl e1 F_unread_a1 (g := (mkF m 5 L0 [(.ref a1), (.int w_missing_a1)])) rfl rfl (hb hby d5_5)
  refine Gl.st (B := (T2.setTop (mkF m 8 L0 [(.int w_unread_a1), (.int w_missing_a1)]))) st2 ?_
  refine Gl.st (B := (T2.setTop (mkF m 9 L0 [(.int (w_missing_a1 + w_unread_a1))]))) (fun t k => XS.iadd X2.here hx rfl (hb hby d5_8) rfl k) ?_
  obtain ⟨fs, hr, hrun, hended, hW, hsame⟩ := X2.leave (v := some (.int (w_missing_a1 + w_unread_a1))) (fun h => by rw [Bd.returns] at h; cases h)
  refine Gl.fin (retI X2 hx Bd.returns (hb hby d5_9) hr) hrun hended ⟨_, _, rfl, ?_, ⟨_, rfl⟩, hW, hsame.mono (by decide) (by decide)⟩
  show Q5 Z a1 w_missing_a1 w_unread_a1 h0 n0 _ T2.heap _
  rw [e2]
  exact ⟨rfl, N0, rfl⟩
theorem d4_0 : decode prog_87_method_4_code 0 = .ok (.aload_n 0, 1) := by decide +kernel
theorem d4_1 : decode prog_87_method_4_code 1 = .ok (.getfield 7, 3) := by decide +kernel
theorem d4_4 : decode prog_87_method_4_code 4 = .ok (.aload_n 0, 1) := by decide +kernel
theorem d4_5 : decode prog_87_method_4_code 5 = .ok (.getfield 13, 3) := by decide +kernel
theorem d4_8 : decode prog_87_method_4_code 8 = .ok (.iadd, 1) := by decide +kernel
theorem d4_9 : decode prog_87_method_4_code 9 = .ok (.aload_n 0, 1) := by decide +kernel
theorem d4_10 : decode prog_87_method_4_code 10 = .ok (.invokevirtual 62, 3) := by decide +kernel
theorem d4_13 : decode prog_87_method_4_code 13 = .ok (.iadd, 1) := by decide +kernel
theorem d4_14 : decode prog_87_method_4_code 14 = .ok (.aload_n 0, 1) := by decide +kernel
theorem d4_15 : decode prog_87_method_4_code 15 = .ok (.getfield 19, 3) := by decide +kernel
theorem d4_18 : decode prog_87_method_4_code 18 = .ok (.iadd, 1) := by decide +kernel
theorem d4_19 : decode prog_87_method_4_code 19 = .ok (.ireturn, 1) := by decide +kernel
theorem pn_4 : plainName "com/example/covenant_atlas/covenantatlas/model/Tally" = true := by first | (simp [plainName, overriddenIn]; done) | decide +kernel
theorem pd_4_0 : parseMethodDescriptor "()I" = some ⟨[], some .int⟩ := by decide +kernel
theorem ef_4 (m : MethodId) (a1 : Addr) : entryFrame m #[(.ref a1)] 1 = mkF m 0 #[.val (.ref a1)] [] := by first | (simp [entryFrame, mkF, argsToLocals, Value.category]; done) | rfl
def Q4 (Z : State) (a1 : Addr) (w_passed_a1 : Int32) (w_failed_a1 : Int32) (w_missing_a1 : Int32) (w_unread_a1 : Int32) (w_notDue_a1 : Int32) (h0 : Heap) (n0 : Nat) (v : Option Value) (h : Heap) (L : List Loc) : Prop := v = some (.int (((w_passed_a1 + w_failed_a1) + ((w_missing_a1 + w_unread_a1))) + w_notDue_a1)) ∧ Fr n0 L ∧ h = h0
set_option maxRecDepth 65536 in
set_option maxHeartbeats 40000000 in
theorem rm4 (l : Launch) (Z : State) (a0 : Array Value) (hw : ∀ d ∈ tables_1, d.before a0 Z = true) (ws : List Jvm.Cond) (a1 : Addr) (w_passed_a1 : Int32) (w_failed_a1 : Int32) (w_missing_a1 : Int32) (w_unread_a1 : Int32) (w_notDue_a1 : Int32) (h0 : Heap) (n0 : Nat) (Z0 : n0 ≤ h0.size) (F_passed_a1 : Fld Z h0 a1 "com/example/covenant_atlas/covenantatlas/model/Tally" "passed" "I" (.int w_passed_a1)) (F_failed_a1 : Fld Z h0 a1 "com/example/covenant_atlas/covenantatlas/model/Tally" "failed" "I" (.int w_failed_a1)) (F_missing_a1 : Fld Z h0 a1 "com/example/covenant_atlas/covenantatlas/model/Tally" "missing" "I" (.int w_missing_a1)) (F_unread_a1 : Fld Z h0 a1 "com/example/covenant_atlas/covenantatlas/model/Tally" "unread" "I" (.int w_unread_a1)) (E_a1 : Exa Z h0 a1 "com/example/covenant_atlas/covenantatlas/model/Tally") (F_notDue_a1 : Fld Z h0 a1 "com/example/covenant_atlas/covenantatlas/model/Tally" "notDue" "I" (.int w_notDue_a1)) :
    MetFree l (⟨"com/example/covenant_atlas/covenantatlas/model/Tally", "covenants", "()I"⟩ : MethodName) (head1 (Jvm.Cond.code (⟨"com/example/covenant_atlas/covenantatlas/model/Tally", "covenants", "()I"⟩ : MethodName) prog_87_method_4_code 1 (some .int) :: ws) ({ frames := 1, cells := 0, slots := 0, locals := 13 } : Room)) (fun a U => a = #[(.ref a1)] ∧ Z.Warmed39 U.vm ∧ U.heap = h0) (fun _ _ _ _ _ => True) (fun _ U o U' => ∃ v L, o = .returned v ∧ Q4 Z a1 w_passed_a1 w_failed_a1 w_missing_a1 w_unread_a1 w_notDue_a1 h0 n0 v U'.heap L ∧ FrameEnd U o U' L ({ frames := 1, cells := 0, slots := 0, locals := 13 } : Room).cells ({ frames := 1, cells := 0, slots := 0, locals := 13 } : Room).slots) := by
  refine MetFree.of_bodySF (plainFor_of_name pn_4) hisR ?_
  intro p e s m args below meth c s₁ Bd hml0 hP hK
  obtain ⟨rfl, hZ, hh⟩ := hP
  have hx := Bd.exec
  have hby := Bd.bytes
  have hml : c.maxLocals = 1 := hml0
  have hown : s.vm.findClass "com/example/covenant_atlas/covenantatlas/model/Tally" = some m.cls := findClass_of_methodNamed Bd.named
  have hnm := (name_of_methodNamed Bd.named Bd.method).1
  have X0 : Stand p l e ({ frames := 1, cells := 0, slots := 0, locals := 13 } : Room) s m #[(.ref a1)] below meth c s₁ [] 0 0 := Stand.of_body Bd
  have e0 : s₁.heap = h0 := by rw [← hh, Bd.state]; rfl
  have N0 := Fr.nil n0
  have K0 : Keep h0 h0 [] := Keep.refl h0 _
  refine (show Gl p e below (fun o U' => ∃ v L, o = .returned v ∧ Q4 Z a1 w_passed_a1 w_failed_a1 w_missing_a1 w_unread_a1 w_notDue_a1 h0 n0 v U'.heap L ∧ FrameEnd s o U' L ({ frames := 1, cells := 0, slots := 0, locals := 13 } : Room).cells ({ frames := 1, cells := 0, slots := 0, locals := 13 } : Room).slots) (s₁.setTop (entryFrame m #[(.ref a1)] 1)) from ?_)
  obtain ⟨L0, hL0⟩ : ∃ z : Array Slot, z = #[.val (.ref a1)] := ⟨_, rfl⟩
  refine Gl.st (B := (s₁.setTop (mkF m 0 L0 []))) (fun t k => castTop (efAt hL0 (ef_4 m a1)) k) ?_
  refine Gl.st (B := (s₁.setTop (mkF m 1 L0 [(.ref a1)]))) (fun t k => XS.aloadN X0.here hx rfl (hb hby d4_0) (ldAt hL0 rfl) rfl k) ?_
  obtain ⟨T1, X1, e1, st1⟩ := getF X0 hx hZ hown (host := "") (Or.inl (tw hw 14 rfl)) Via.refl e0 F_passed_a1 (g := (mkF m 1 L0 [(.ref a1)])) rfl rfl (hb hby d4_1)
  refine Gl.st (B := (T1.setTop (mkF m 4 L0 [(.int w_passed_a1)]))) st1 ?_
  refine Gl.st (B := (T1.setTop (mkF m 5 L0 [(.ref a1), (.int w_passed_a1)]))) (fun t k => XS.aloadN X1.here hx rfl (hb hby d4_4) (ldAt hL0 rfl) rfl k) ?_
  obtain ⟨T2, X2, e2, st2⟩ := getF X1 hx hZ hown (host := "") (Or.inl (tw hw 16 rfl)) Via.refl e1 F_failed_a1 (g := (mkF m 5 L0 [(.ref a1), (.int w_passed_a1)])) rfl rfl (hb hby d4_5)
  refine Gl.st (B := (T2.setTop (mkF m 8 L0 [(.int w_failed_a1), (.int w_passed_a1)]))) st2 ?_
  refine Gl.st (B := (T2.setTop (mkF m 9 L0 [(.int (w_passed_a1 + w_failed_a1))]))) (fun t k => XS.iadd X2.here hx rfl (hb hby d4_8) rfl k) ?_
  refine Gl.st (B := (T2.setTop (mkF m 10 L0 [(.ref a1), (.int (w_passed_a1 + w_failed_a1))]))) (fun t k => XS.aloadN X2.here hx rfl (hb hby d4_9) (ldAt hL0 rfl) rfl k) ?_
  obtain ⟨cq3, kq3, q3a, q3b, q3c⟩ := isOf hZ e2 E_a1
  obtain ⟨_, _, ⟨T3, L3q, k3, n3⟩, -, X3, ⟨Lc3, hQ3, l3, y3, z3⟩, st3⟩ := X2.virtualBack hx (y := (⟨"com/example/covenant_atlas/covenantatlas/model/Tally", "untested", "()I"⟩ : MethodName)) (z := (⟨"com/example/covenant_atlas/covenantatlas/model/Tally", "untested", "()I"⟩ : MethodName)) hown (mvT hZ (tw hw 29 rfl)) (mvT hZ (tw hw 30 rfl)) (notFace_of_selects (args := #[]) (mvT hZ (tw hw 32 rfl))) (mvT hZ (tw hw 32 rfl)) (mvT hZ (tw hw 31 rfl)) (by decide) (backOf (W := 1) (rm5 l Z a0 hw [] a1 w_missing_a1 w_unread_a1 h0 n0 Z0 F_missing_a1 F_unread_a1) hZ (tw hw 33 rfl) (tw hw 2 rfl) (by decide) (by decide)) q3a q3c (g := (mkF m 10 L0 [(.ref a1), (.int (w_passed_a1 + w_failed_a1))])) rfl (szAt hml hL0 rfl) (Steps.refl _) (argsL := []) (rest := [(.int (w_passed_a1 + w_failed_a1))]) (lenOf pd_4_0 rfl) rfl (by show 2 * 0 + _ ≤ _; exact Nat.le_of_eq rfl) (hb hby d4_10) (fun _ _ => ⟨rfl, e2, (by decide : 0 + 0 ≤ _), (by decide : 0 + 0 ≤ _)⟩)
  dsimp only [Pt.U, Pt.locs, Pt.cells, Pt.slots] at X3 l3 y3 z3 st3 hQ3
  subst l3 y3 z3
  obtain ⟨rfl, N3q, eh3⟩ := hQ3
  have N3 := Fr.app N0 N3q
  refine Gl.st (B := (T3.setTop (mkF m 13 L0 [(.int (w_missing_a1 + w_unread_a1)), (.int (w_passed_a1 + w_failed_a1))]))) (fun t k => st3.trans k) ?_
  obtain ⟨r10_4, hr10_4⟩ : ∃ z : Int32, z = (w_missing_a1 + w_unread_a1) := ⟨_, rfl⟩
  refine Gl.cast (B := (T3.setTop (mkF m 13 L0 [(.int r10_4), (.int (w_passed_a1 + w_failed_a1))]))) (by rw [hr10_4]) ?_
  refine Gl.st (B := (T3.setTop (mkF m 14 L0 [(.int ((w_passed_a1 + w_failed_a1) + r10_4))]))) (fun t k => XS.iadd X3.here hx rfl (hb hby d4_13) rfl k) ?_
  refine Gl.st (B := (T3.setTop (mkF m 15 L0 [(.ref a1), (.int ((w_passed_a1 + w_failed_a1) + r10_4))]))) (fun t k => XS.aloadN X3.here hx rfl (hb hby d4_14) (ldAt hL0 rfl) rfl k) ?_
  obtain ⟨T5, X5, e5, st5⟩ := getF X3 hx hZ hown (host := "") (Or.inl (tw hw 20 rfl)) Via.refl eh3 F_notDue_a1 (g := (mkF m 15 L0 [(.ref a1), (.int ((w_passed_a1 + w_failed_a1) + r10_4))])) rfl rfl (hb hby d4_15)
  refine Gl.st (B := (T5.setTop (mkF m 18 L0 [(.int w_notDue_a1), (.int ((w_passed_a1 + w_failed_a1) + r10_4))]))) st5 ?_
  refine Gl.st (B := (T5.setTop (mkF m 19 L0 [(.int (((w_passed_a1 + w_failed_a1) + r10_4) + w_notDue_a1))]))) (fun t k => XS.iadd X5.here hx rfl (hb hby d4_18) rfl k) ?_
  obtain ⟨fs, hr, hrun, hended, hW, hsame⟩ := X5.leave (v := some (.int (((w_passed_a1 + w_failed_a1) + r10_4) + w_notDue_a1))) (fun h => by rw [Bd.returns] at h; cases h)
  refine Gl.fin (retI X5 hx Bd.returns (hb hby d4_19) hr) hrun hended ⟨_, _, rfl, ?_, ⟨_, rfl⟩, hW, hsame.mono (by decide) (by decide)⟩
  show Q4 Z a1 w_passed_a1 w_failed_a1 w_missing_a1 w_unread_a1 w_notDue_a1 h0 n0 _ T5.heap _
  rw [e5]
  exact ⟨(by subst hr10_4; rfl), N3, rfl⟩
theorem pn_0 : plainName "com/example/covenant_atlas/covenantatlas/model/TallyCovenantsPinLaw" = true := by first | (simp [plainName, overriddenIn]; done) | decide +kernel
theorem pd_0_0 : parseMethodDescriptor "(IIIII)V" = some ⟨[.int, .int, .int, .int, .int], none⟩ := by decide +kernel
theorem pd_0_1 : parseMethodDescriptor "()I" = some ⟨[], some .int⟩ := by decide +kernel
theorem ef_0 (m : MethodId) (p1 : Int32) (p2 : Int32) (p3 : Int32) (p4 : Int32) (p5 : Int32) : entryFrame m #[(.int p1), (.int p2), (.int p3), (.int p4), (.int p5)] maxLocals = mkF m 0 #[.val (.int p1), .val (.int p2), .val (.int p3), .val (.int p4), .val (.int p5), .unset, .unset, .unset, .unset] [] := by first | (simp [entryFrame, mkF, argsToLocals, Value.category, maxLocals]; done) | rfl
theorem own_0_hc44_12 (p1 : Int32) (p2 : Int32) (p3 : Int32) (p5 : Int32) (p4 : Int32) (r39_11 : Int32) (y6_30_6 : Int64) (y8_35_8 : Int32) (hr39_11 : r39_11 = (((p1 + p2) + ((p3 + p5))) + p4)) (hy6_30_6 : y6_30_6 = (((((p1.toInt64) + (p2.toInt64)) + (p3.toInt64)) + (p4.toInt64)) + (p5.toInt64))) (hy8_35_8 : y8_35_8 = (y6_30_6.toInt32))  : r39_11 = y8_35_8 := by
  have a1 := c_iadd p1 p2
  have a2 := c_iadd p3 p5
  have a3 := c_iadd (p1 + p2) (p3 + p5)
  have a4 := c_iadd ((p1 + p2) + (p3 + p5)) p4
  have b1 := c_i2l p1
  have b2 := c_i2l p2
  have b3 := c_i2l p3
  have b4 := c_i2l p4
  have b5 := c_i2l p5
  have d1 := c_ladd p1.toInt64 p2.toInt64
  have d2 := c_ladd (p1.toInt64 + p2.toInt64) p3.toInt64
  have d3 := c_ladd (p1.toInt64 + p2.toInt64 + p3.toInt64) p4.toInt64
  have d4 := c_ladd (p1.toInt64 + p2.toInt64 + p3.toInt64 + p4.toInt64) p5.toInt64
  have d5 := c_l2i y6_30_6
  rw [← hy6_30_6] at d4
  rw [← hy8_35_8] at d5
  rw [← hr39_11] at a4
  have z1 := rng32 r39_11
  have z2 := rng32 y8_35_8
  rw [← Int32.toInt_inj]
  clear hy6_30_6 hr39_11 hy8_35_8
  omega
def Q0 (Z : State) (p1 : Int32) (p2 : Int32) (p3 : Int32) (p4 : Int32) (p5 : Int32) (h0 : Heap) (n0 : Nat) (v : Option Value) (h : Heap) (L : List Loc) : Prop := v = some (.int (1 : Int32)) ∧ Fr n0 L
set_option maxRecDepth 65536 in
set_option maxHeartbeats 40000000 in
theorem rm0 (l : Launch) (Z : State) (a0 : Array Value) (hw : ∀ d ∈ tables_1, d.before a0 Z = true) (ws : List Jvm.Cond) (p1 : Int32) (p2 : Int32) (p3 : Int32) (p4 : Int32) (p5 : Int32) (h0 : Heap) (n0 : Nat) (Z0 : n0 ≤ h0.size) :
    MetFree l x (head1 (Jvm.Cond.code x code maxLocals ret :: ws) room_1) (fun a U => a = #[(.int p1), (.int p2), (.int p3), (.int p4), (.int p5)] ∧ Z.Warmed39 U.vm ∧ U.heap = h0) (fun _ _ _ _ _ => True) (fun _ U o U' => ∃ v L, o = .returned v ∧ Q0 Z p1 p2 p3 p4 p5 h0 n0 v U'.heap L ∧ FrameEnd U o U' L room_1.cells room_1.slots) := by
  refine MetFree.of_bodySF (plainFor_of_name pn_0) hisR ?_
  intro p e s m args below meth c s₁ Bd hml0 hP hK
  obtain ⟨rfl, hZ, hh⟩ := hP
  have hx := Bd.exec
  have hby := Bd.bytes
  have hml : c.maxLocals = 9 := hml0
  have hown : s.vm.findClass "com/example/covenant_atlas/covenantatlas/model/TallyCovenantsPinLaw" = some m.cls := findClass_of_methodNamed Bd.named
  have hnm := (name_of_methodNamed Bd.named Bd.method).1
  have X0 : Stand p l e room_1 s m #[(.int p1), (.int p2), (.int p3), (.int p4), (.int p5)] below meth c s₁ [] 0 0 := Stand.of_body Bd
  have e0 : s₁.heap = h0 := by rw [← hh, Bd.state]; rfl
  have N0 := Fr.nil n0
  refine (show Gl p e below (fun o U' => ∃ v L, o = .returned v ∧ Q0 Z p1 p2 p3 p4 p5 h0 n0 v U'.heap L ∧ FrameEnd s o U' L room_1.cells room_1.slots) (s₁.setTop (entryFrame m #[(.int p1), (.int p2), (.int p3), (.int p4), (.int p5)] maxLocals)) from ?_)
  obtain ⟨L0, hL0⟩ : ∃ z : Array Slot, z = #[.val (.int p1), .val (.int p2), .val (.int p3), .val (.int p4), .val (.int p5), .unset, .unset, .unset, .unset] := ⟨_, rfl⟩
  refine Gl.st (B := (s₁.setTop (mkF m 0 L0 []))) (fun t k => castTop (efAt hL0 (ef_0 m p1 p2 p3 p4 p5)) k) ?_
  obtain ⟨T1, h1, X1, e1, E1, A1, D1, -, st1⟩ := newO X0 hx hZ hown (tw hw 0 rfl) (tw hw 1 rfl) (tw hw 2 rfl) e0 (g := (mkF m 0 L0 [])) rfl (hb hby at_0) (by decide) (by decide)
  obtain ⟨b1, gq1⟩ : ∃ z, z = h0.size := ⟨_, rfl⟩
  rw [← gq1] at A1 D1 st1
  have g_b1 : n0 ≤ b1 := Nat.le_trans Z0 (Nat.le_of_eq gq1.symm)
  have Zc2 : n0 ≤ h1.size := Nat.le_trans Z0 E1.1
  have F1_passed : Fld Z h1 b1 "com/example/covenant_atlas/covenantatlas/model/Tally" "passed" "I" (.int (0 : Int32)) := D1 (Or.inr (tw hw 15 rfl)) (ty := .int) (by decide)
  have F1_failed : Fld Z h1 b1 "com/example/covenant_atlas/covenantatlas/model/Tally" "failed" "I" (.int (0 : Int32)) := D1 (Or.inr (tw hw 17 rfl)) (ty := .int) (by decide)
  have F1_missing : Fld Z h1 b1 "com/example/covenant_atlas/covenantatlas/model/Tally" "missing" "I" (.int (0 : Int32)) := D1 (Or.inr (tw hw 19 rfl)) (ty := .int) (by decide)
  have F1_notDue : Fld Z h1 b1 "com/example/covenant_atlas/covenantatlas/model/Tally" "notDue" "I" (.int (0 : Int32)) := D1 (Or.inr (tw hw 21 rfl)) (ty := .int) (by decide)
  have F1_unread : Fld Z h1 b1 "com/example/covenant_atlas/covenantatlas/model/Tally" "unread" "I" (.int (0 : Int32)) := D1 (Or.inr (tw hw 23 rfl)) (ty := .int) (by decide)
  refine Gl.st (B := (T1.setTop (mkF m 3 L0 [(.ref b1)]))) st1 ?_
  refine Gl.st (B := (T1.setTop (mkF m 4 L0 [(.ref b1), (.ref b1)]))) (fun t k => XS.dup X1.here hx rfl (hb hby at_3) rfl rfl k) ?_
  refine Gl.st (B := (T1.setTop (mkF m 5 L0 [(.int p1), (.ref b1), (.ref b1)]))) (fun t k => XS.iloadN X1.here hx rfl (hb hby at_4) (ldAt hL0 rfl) k) ?_
  refine Gl.st (B := (T1.setTop (mkF m 6 L0 [(.int p2), (.int p1), (.ref b1), (.ref b1)]))) (fun t k => XS.iloadN X1.here hx rfl (hb hby at_5) (ldAt hL0 rfl) k) ?_
  refine Gl.st (B := (T1.setTop (mkF m 7 L0 [(.int p3), (.int p2), (.int p1), (.ref b1), (.ref b1)]))) (fun t k => XS.iloadN X1.here hx rfl (hb hby at_6) (ldAt hL0 rfl) k) ?_
  refine Gl.st (B := (T1.setTop (mkF m 8 L0 [(.int p4), (.int p3), (.int p2), (.int p1), (.ref b1), (.ref b1)]))) (fun t k => XS.iloadN X1.here hx rfl (hb hby at_7) (ldAt hL0 rfl) k) ?_
  refine Gl.st (B := (T1.setTop (mkF m 10 L0 [(.int p5), (.int p4), (.int p3), (.int p2), (.int p1), (.ref b1), (.ref b1)]))) (fun t k => XS.iload X1.here hx rfl (hb hby at_8) (ldAt hL0 rfl) k) ?_
  obtain ⟨_, _, ⟨T3, L3q, k3, n3⟩, -, X3, ⟨Lc3, hQ3, l3, y3, z3⟩, st3⟩ := X1.specialBack hx (y := (⟨"com/example/covenant_atlas/covenantatlas/model/Tally", "<init>", "(IIIII)V"⟩ : MethodName)) rfl hown (mvT hZ (tw hw 3 rfl)) (mvT hZ (tw hw 4 rfl)) (mvT hZ (tw hw 5 rfl)) (by decide) (backOf (W := 1) (rm1 l Z a0 hw [] b1 p1 p2 p3 p4 p5 ((.int (0 : Int32))) ((.int (0 : Int32))) ((.int (0 : Int32))) ((.int (0 : Int32))) ((.int (0 : Int32))) h1 n0 Zc2 A1 F1_passed g_b1 F1_failed F1_missing F1_notDue F1_unread) hZ (tw hw 5 rfl) (tw hw 2 rfl) (by decide) (by decide)) (g := (mkF m 10 L0 [(.int p5), (.int p4), (.int p3), (.int p2), (.int p1), (.ref b1), (.ref b1)])) rfl (szAt hml hL0 rfl) (Steps.refl _) (a := b1) (argsL := [(.int p1), (.int p2), (.int p3), (.int p4), (.int p5)]) (rest := [(.ref b1)]) (lenOf pd_0_0 rfl) rfl (by show 2 * 0 + _ ≤ _; exact Nat.le_of_eq rfl) (hb hby at_10) (fun _ _ => ⟨rfl, e1, (by decide : 1 + 0 ≤ _), (by decide : 5 + 0 ≤ _)⟩)
  dsimp only [Pt.U, Pt.locs, Pt.cells, Pt.slots] at X3 l3 y3 z3 st3 hQ3
  subst l3 y3 z3
  obtain ⟨rfl, N3q, Kc3, fq3_0, fq3_1, fq3_2, fq3_3, fq3_4, fq3_5⟩ := hQ3
  have Zc4 : n0 ≤ T3.heap.size := Nat.le_trans Zc2 Kc3.1
  have N3 := Fr.app N0 N3q
  refine Gl.st (B := (T3.setTop (mkF m 13 L0 [(.ref b1)]))) (fun t k => st3.trans k) ?_
  obtain ⟨L5, hL5⟩ : ∃ z : Array Slot, z = #[.val (.int p1), .val (.int p2), .val (.int p3), .val (.int p4), .val (.int p5), .val (.ref b1), .unset, .unset, .unset] := ⟨_, rfl⟩
  refine Gl.st (B := (T3.setTop (mkF m 15 L5 []))) (fun t k => XS.astore X3.here hx rfl (hb hby at_13) rfl rfl (l' := L5) (stAt hL0 hL5 rfl rfl) k) ?_
  refine Gl.st (B := (T3.setTop (mkF m 16 L5 [(.int p1)]))) (fun t k => XS.iloadN X3.here hx rfl (hb hby at_15) (ldAt hL5 rfl) k) ?_
  refine Gl.st (B := (T3.setTop (mkF m 17 L5 [(.long (p1.toInt64))]))) (fun t k => XS.i2l X3.here hx rfl (hb hby at_16) rfl k) ?_
  refine Gl.st (B := (T3.setTop (mkF m 18 L5 [(.int p2), (.long (p1.toInt64))]))) (fun t k => XS.iloadN X3.here hx rfl (hb hby at_17) (ldAt hL5 rfl) k) ?_
  refine Gl.st (B := (T3.setTop (mkF m 19 L5 [(.long (p2.toInt64)), (.long (p1.toInt64))]))) (fun t k => XS.i2l X3.here hx rfl (hb hby at_18) rfl k) ?_
  refine Gl.st (B := (T3.setTop (mkF m 20 L5 [(.long ((p1.toInt64) + (p2.toInt64)))]))) (fun t k => XS.ladd X3.here hx rfl (hb hby at_19) rfl k) ?_
  refine Gl.st (B := (T3.setTop (mkF m 21 L5 [(.int p3), (.long ((p1.toInt64) + (p2.toInt64)))]))) (fun t k => XS.iloadN X3.here hx rfl (hb hby at_20) (ldAt hL5 rfl) k) ?_
  refine Gl.st (B := (T3.setTop (mkF m 22 L5 [(.long (p3.toInt64)), (.long ((p1.toInt64) + (p2.toInt64)))]))) (fun t k => XS.i2l X3.here hx rfl (hb hby at_21) rfl k) ?_
  refine Gl.st (B := (T3.setTop (mkF m 23 L5 [(.long (((p1.toInt64) + (p2.toInt64)) + (p3.toInt64)))]))) (fun t k => XS.ladd X3.here hx rfl (hb hby at_22) rfl k) ?_
  refine Gl.st (B := (T3.setTop (mkF m 24 L5 [(.int p4), (.long (((p1.toInt64) + (p2.toInt64)) + (p3.toInt64)))]))) (fun t k => XS.iloadN X3.here hx rfl (hb hby at_23) (ldAt hL5 rfl) k) ?_
  refine Gl.st (B := (T3.setTop (mkF m 25 L5 [(.long (p4.toInt64)), (.long (((p1.toInt64) + (p2.toInt64)) + (p3.toInt64)))]))) (fun t k => XS.i2l X3.here hx rfl (hb hby at_24) rfl k) ?_
  refine Gl.st (B := (T3.setTop (mkF m 26 L5 [(.long ((((p1.toInt64) + (p2.toInt64)) + (p3.toInt64)) + (p4.toInt64)))]))) (fun t k => XS.ladd X3.here hx rfl (hb hby at_25) rfl k) ?_
  refine Gl.st (B := (T3.setTop (mkF m 28 L5 [(.int p5), (.long ((((p1.toInt64) + (p2.toInt64)) + (p3.toInt64)) + (p4.toInt64)))]))) (fun t k => XS.iload X3.here hx rfl (hb hby at_26) (ldAt hL5 rfl) k) ?_
  refine Gl.st (B := (T3.setTop (mkF m 29 L5 [(.long (p5.toInt64)), (.long ((((p1.toInt64) + (p2.toInt64)) + (p3.toInt64)) + (p4.toInt64)))]))) (fun t k => XS.i2l X3.here hx rfl (hb hby at_28) rfl k) ?_
  refine Gl.st (B := (T3.setTop (mkF m 30 L5 [(.long (((((p1.toInt64) + (p2.toInt64)) + (p3.toInt64)) + (p4.toInt64)) + (p5.toInt64)))]))) (fun t k => XS.ladd X3.here hx rfl (hb hby at_29) rfl k) ?_
  obtain ⟨y6_30_6, hy6_30_6⟩ : ∃ z : Int64, z = (((((p1.toInt64) + (p2.toInt64)) + (p3.toInt64)) + (p4.toInt64)) + (p5.toInt64)) := ⟨_, rfl⟩
  refine Gl.cast (B := (T3.setTop (mkF m 30 L5 [(.long y6_30_6)]))) (by rw [hy6_30_6]) ?_
  obtain ⟨L7, hL7⟩ : ∃ z : Array Slot, z = #[.val (.int p1), .val (.int p2), .val (.int p3), .val (.int p4), .val (.int p5), .val (.ref b1), .val (.long y6_30_6), .second, .unset] := ⟨_, rfl⟩
  refine Gl.st (B := (T3.setTop (mkF m 32 L7 []))) (fun t k => XS.lstore X3.here hx rfl (hb hby at_30) rfl (l' := L7) (stAt hL5 hL7 rfl rfl) k) ?_
  refine Gl.st (B := (T3.setTop (mkF m 34 L7 [(.long y6_30_6)]))) (fun t k => XS.lload X3.here hx rfl (hb hby at_32) (ldAt hL7 rfl) k) ?_
  refine Gl.st (B := (T3.setTop (mkF m 35 L7 [(.int (y6_30_6.toInt32))]))) (fun t k => XS.l2i X3.here hx rfl (hb hby at_34) rfl k) ?_
  obtain ⟨y8_35_8, hy8_35_8⟩ : ∃ z : Int32, z = (y6_30_6.toInt32) := ⟨_, rfl⟩
  refine Gl.cast (B := (T3.setTop (mkF m 35 L7 [(.int y8_35_8)]))) (by rw [hy8_35_8]) ?_
  obtain ⟨L9, hL9⟩ : ∃ z : Array Slot, z = #[.val (.int p1), .val (.int p2), .val (.int p3), .val (.int p4), .val (.int p5), .val (.ref b1), .val (.long y6_30_6), .second, .val (.int y8_35_8)] := ⟨_, rfl⟩
  refine Gl.st (B := (T3.setTop (mkF m 37 L9 []))) (fun t k => XS.istore X3.here hx rfl (hb hby at_35) rfl (l' := L9) (stAt hL7 hL9 rfl rfl) k) ?_
  refine Gl.st (B := (T3.setTop (mkF m 39 L9 [(.ref b1)]))) (fun t k => XS.aload X3.here hx rfl (hb hby at_37) (ldAt hL9 rfl) rfl k) ?_
  obtain ⟨cq10, kq10, q10a, q10b, q10c⟩ := isOf hZ rfl fq3_0
  obtain ⟨_, _, ⟨T10, L10q, k10, n10⟩, -, X10, ⟨Lc10, hQ10, l10, y10, z10⟩, st10⟩ := X3.virtualBack hx (y := (⟨"com/example/covenant_atlas/covenantatlas/model/Tally", "covenants", "()I"⟩ : MethodName)) (z := (⟨"com/example/covenant_atlas/covenantatlas/model/Tally", "covenants", "()I"⟩ : MethodName)) hown (mvT hZ (tw hw 24 rfl)) (mvT hZ (tw hw 25 rfl)) (notFace_of_selects (args := #[]) (mvT hZ (tw hw 27 rfl))) (mvT hZ (tw hw 27 rfl)) (mvT hZ (tw hw 26 rfl)) (by decide) (backOf (W := 0) (rm4 l Z a0 hw [] b1 p1 p2 p3 p5 p4 T3.heap n0 Zc4 fq3_1 fq3_2 fq3_3 fq3_5 fq3_0 fq3_4) hZ (tw hw 28 rfl) (tw hw 2 rfl) (by decide) (by decide)) q10a q10c (g := (mkF m 39 L9 [(.ref b1)])) rfl (szAt hml hL9 rfl) (Steps.refl _) (argsL := []) (rest := []) (lenOf pd_0_1 rfl) rfl (by show 2 * 0 + _ ≤ _; exact Nat.le_of_eq rfl) (hb hby at_39) (fun _ _ => ⟨rfl, rfl, (by decide : 1 + 0 ≤ _), (by decide : 5 + 0 ≤ _)⟩)
  dsimp only [Pt.U, Pt.locs, Pt.cells, Pt.slots] at X10 l10 y10 z10 st10 hQ10
  subst l10 y10 z10
  obtain ⟨rfl, N10q, eh10⟩ := hQ10
  have N10 := Fr.app N3 N10q
  refine Gl.st (B := (T10.setTop (mkF m 42 L9 [(.int (((p1 + p2) + ((p3 + p5))) + p4))]))) (fun t k => st10.trans k) ?_
  obtain ⟨r39_11, hr39_11⟩ : ∃ z : Int32, z = (((p1 + p2) + ((p3 + p5))) + p4) := ⟨_, rfl⟩
  refine Gl.cast (B := (T10.setTop (mkF m 42 L9 [(.int r39_11)]))) (by rw [hr39_11]) ?_
  refine Gl.st (B := (T10.setTop (mkF m 44 L9 [(.int y8_35_8), (.int r39_11)]))) (fun t k => XS.iload X10.here hx rfl (hb hby at_42) (ldAt hL9 rfl) k) ?_
  have hc44_12 : r39_11 = y8_35_8 := own_0_hc44_12 p1 p2 p3 p5 p4 r39_11 y6_30_6 y8_35_8 hr39_11 hy6_30_6 hy8_35_8 
  refine Gl.st (B := (T10.setTop (mkF m 47 L9 []))) (fun t k => XS.icmpNo X10.here hx rfl (hb hby at_44) rfl (teq hc44_12).2 k) ?_
  refine Gl.st (B := (T10.setTop (mkF m 48 L9 [(.int (1 : Int32))]))) (fun t k => XS.iconst X10.here hx rfl (hb hby at_47) k) ?_
  refine Gl.st (B := (T10.setTop (mkF m 52 L9 [(.int (1 : Int32))]))) (fun t k => XS.goto X10.here hx rfl (pc0 := 48) (pc' := 52) rfl (hb hby at_48) (by decide) (by decide) k) ?_
  obtain ⟨fs, hr, hrun, hended, hW, hsame⟩ := X10.leave (v := some (.int (nar .boolean (1 : Int32)))) (fun h => by rw [Bd.returns] at h; cases h)
  refine Gl.fin (retN X10 hx (t := .boolean) Bd.returns (by simp) (hb hby at_52) hr) hrun hended ⟨_, _, rfl, ?_, ⟨_, rfl⟩, hW, hsame.mono (by decide) (by decide)⟩
  show Q0 Z p1 p2 p3 p4 p5 h0 n0 _ T10.heap _
  rw [eh10]
  exact ⟨rfl, N10⟩
set_option maxRecDepth 65536 in
set_option maxHeartbeats 40000000 in
theorem comes_1 {Post : Tables → Env → Array Value → State → Outcome → State → Prop} (hpost : ∀ tb e args s v u, (limb_1_1.after args s (.returned v) u = true ∧ limb_1_2.after args s (.returned v) u = true ∧ True) → FrameEnd s (.returned v) u (Jvm.fieldLocs frame_1_writes args s ++ Jvm.arrayLocs frame_1_arrays args s ++ Jvm.staticLocs frame_1_statics s) 16 128 → Post tb e args s (.returned v) u) :
    ArmFor flags0 classFile x code maxLocals ret World_1 tables_1 room_1 Calls_1 rest_1 Pre_1 Post := by
  intro l hfl _ _ p e ha hc hk s m args below hf hA hF happ hP
  obtain ⟨hcalls, hrest, hpre⟩ := hP
  obtain ⟨-, -, -, hnamed, -, -, -, hat⟩ := (Spec.applies_iff hf).mp happ
  obtain ⟨hg, hn⟩ := and_e (Cond.before_iff.mp (show (Jvm.Cond.and given_1 narrow_1).before args s = true from hpre))
  obtain ⟨g1, g2⟩ := and_e hg
  obtain ⟨g3, g4⟩ := and_e g2
  obtain ⟨g5, g6⟩ := and_e g4
  obtain ⟨g7, g8⟩ := and_e g6
  obtain ⟨g9, g10⟩ := and_e g8
  obtain ⟨w0, w1, w2, w3, w4, rfl⟩ : ∃ w0 w1 w2 w3 w4 : Value, args = #[w0, w1, w2, w3, w4] := by
    have hs : args.size = 5 := by simpa [Cond.value, given_1] using g1
    obtain ⟨L⟩ := args
    match L, hs with
    | [w0, w1, w2, w3, w4], _ => exact ⟨w0, w1, w2, w3, w4, rfl⟩
  have hw := fun d (hd : d ∈ tables_1) => atoms_spec (ws := Jvm.Cond.code x code maxLocals ret :: tables_1) hat d (List.mem_cons_of_mem _ hd)
  have hfit : Fit s := fun {y c} hc i hi => by
    obtain ⟨ha, rfl⟩ := Array.getElem?_eq_some_iff.mp hc
    have q := List.all_eq_true.mp ((Array.all_eq_true_iff_forall_mem.mp hF) _ (Array.getElem_mem ha)) i (List.mem_range.mpr hi)
    simpa [Array.getElem?_eq_getElem hi] using q
  obtain ⟨i0, ei0⟩ := is_v g3
  obtain rfl : w0 = (.int i0) := Option.some.inj ei0
  obtain ⟨i1, ei1⟩ := is_v g5
  obtain rfl : w1 = (.int i1) := Option.some.inj ei1
  obtain ⟨i2, ei2⟩ := is_v g7
  obtain rfl : w2 = (.int i2) := Option.some.inj ei2
  obtain ⟨i3, ei3⟩ := is_v g9
  obtain rfl : w3 = (.int i3) := Option.some.inj ei3
  obtain ⟨i4, ei4⟩ := is_v g10
  obtain rfl : w4 = (.int i4) := Option.some.inj ei4
  obtain ⟨n, o, h1, h2, h3, _, L, rfl, ⟨rfl, N⟩, hq⟩ := rm0 l s _ hw tables_1 i0 i1 i2 i3 i4 s.heap s.heap.size (Nat.le_refl _) p e ha hc hk s m _ below hf ((Spec.applies_iff_loose hf).mp happ).1 ⟨rfl, State.Warmed39.refl s, rfl⟩ trivial
  refine ⟨n, _, h1, h2, h3, hpost _ _ _ _ _ _ ⟨Cond.after_iff.mpr rfl, Cond.after_iff.mpr (eq_i res_at (Term.int_eval (1)) rfl), trivial⟩ ⟨hq.1, hq.2.1, (hq.2.2.sift fun y hy => Or.inr (N y hy)).mono (by decide) (by decide)⟩⟩
theorem main_1_1 : Claimed_1_1 := comes_1 fun _ _ _ _ _ _ h hF => ⟨h.1, hF⟩
theorem main_1_2 : Claimed_1_2 := comes_1 fun _ _ _ _ _ _ h hF => ⟨h.2.1, hF⟩
end Jvm.Pilot.@@N@@
namespace Jvm.Pilot.@@N@@
open Jvm Jvm.ClassFile Sem Op Lib Jvm.Free Jvm.Stand Jvm.Pilot.@@N@@.Jvm.D
/-! MADE BY PROGRAM (witnessworld.py) out of the Statement's table words and the real class files: 10 classes; the members and pool entries that the words name. The judged class is class 1, her method 1. -/
namespace start1
open Jvm.ClassFile
def u (s : String) : CpInfo := .utf8 (stringToUtf16 s)
/-- a pool by its gaps: so many unusable entries, then the entry; so many at the end -/
def gap : Nat → List CpInfo → List CpInfo
  | 0, r => r
  | n + 1, r => .unusable :: gap n r
def poolList (es : List (Nat × CpInfo)) (last : Nat) : List CpInfo := es.foldr (fun e r => gap e.1 (e.2 :: r)) (gap last [])
def pool (es : List (Nat × CpInfo)) (last : Nat) : Array CpInfo := ⟨poolList es last⟩
def fileOf (pool : Array CpInfo) (this : Nat) (attrs : Array Attribute := #[]) (ms : Array MethodInfo := #[]) (fl : Nat := 33) (sup : Nat := 0) (ifs : Array Nat := #[]) (fds : Array FieldInfo := #[]) : ClassFile where
  minorVersion := 0
  majorVersion := 65
  constantPool := pool
  accessFlags := fl
  thisClass := this
  superClass := sup
  interfaces := ifs
  fields := fds
  methods := ms
  attributes := attrs
def plain (name : String) (sup : Option ClassId) : Class where
  name := name
  kind := .ordinary
  loader := none
  accessFlags := 33
  super := sup
  interfaces := #[]
  cf := none
  fields := #[]
  methods := #[]
  instanceTypes := #[]
  staticTypes := #[]
  resolved := #[]
  callSites := []
  init := .initialized
  statics := none
  mirror := none

def pool0 : Array CpInfo := pool [(5, u "<init>"), (0, u "()V"), (1, .class_ 10), (1, u "java/lang/Object")] 113

def k0c0 : Code := { maxStack := 0, maxLocals := 1, code := object_method_1_code, exceptionTable := #[], attributes := #[] }
def k0m0 : Method := { name := "<init>", desc := "()V", sig := { parameters := [], returnType := none }, accessFlags := 1, code := some k0c0 }
/-- java/lang/Object -/
def k0 : Class := { plain "java/lang/Object" none with
  accessFlags := 33
  interfaces := #[]
  cf := some (fileOf pool0 8 #[] #[{ accessFlags := 1, nameIndex := 5, descriptorIndex := 6, attributes := #[] }] 33 0 #[] #[])
  fields := #[]
  methods := #[k0m0]
  instanceTypes := #[]
  staticTypes := #[]
  resolved := Array.replicate 124 none
  statics := none }

def pool1 : Array CpInfo := pool [(2, .class_ 4), (1, u "java/lang/Object"), (0, u "<init>"), (0, u "()V"), (0, .class_ 8), (0, u "com/example/covenant_atlas/covenantatlas/model/Tally"), (0, .methodref 7 10), (0, .nameAndType 5 11), (0, u "(IIIII)V"), (0, .methodref 7 13), (0, .nameAndType 14 15), (0, u "covenants"), (0, u "()I"), (0, .class_ 17), (0, u "com/example/covenant_atlas/covenantatlas/model/TallyCovenantsPinLaw"), (2, u "law"), (0, u "(IIIII)Z")] 3

def k1m0 : Method := { name := "<init>", desc := "()V", sig := { parameters := [], returnType := none }, accessFlags := 2, code := none }
def k1c1 : Code := { maxStack := 7, maxLocals := 9, code := code, exceptionTable := #[], attributes := #[] }
def k1m1 : Method := { name := "law", desc := "(IIIII)Z", sig := { parameters := [.int, .int, .int, .int, .int], returnType := some .boolean }, accessFlags := 9, code := some k1c1 }
/-- com/example/covenant_atlas/covenantatlas/model/TallyCovenantsPinLaw -/
def k1 : Class := { plain "com/example/covenant_atlas/covenantatlas/model/TallyCovenantsPinLaw" (some 0) with
  accessFlags := 49
  interfaces := #[]
  cf := some (fileOf pool1 16 #[] #[{ accessFlags := 2, nameIndex := 5, descriptorIndex := 6, attributes := #[] }, { accessFlags := 9, nameIndex := 20, descriptorIndex := 21, attributes := #[] }] 49 2 #[] #[])
  fields := #[]
  methods := #[k1m0, k1m1]
  instanceTypes := #[]
  staticTypes := #[]
  resolved := Array.replicate 25 none
  statics := none }

def pool2 : Array CpInfo := pool [(1, .methodref 2 3), (0, .class_ 4), (0, .nameAndType 5 6), (0, u "java/lang/Object"), (0, u "<init>"), (0, u "()V"), (0, .class_ 8), (0, u "java/lang/Record")] 13

def k2c0 : Code := { maxStack := 1, maxLocals := 1, code := jdk_30_method_1_code, exceptionTable := #[], attributes := #[] }
def k2m0 : Method := { name := "<init>", desc := "()V", sig := { parameters := [], returnType := none }, accessFlags := 4, code := some k2c0 }
/-- java/lang/Record -/
def k2 : Class := { plain "java/lang/Record" (some 0) with
  accessFlags := 1057
  interfaces := #[]
  cf := some (fileOf pool2 7 #[] #[{ accessFlags := 4, nameIndex := 5, descriptorIndex := 6, attributes := #[] }] 1057 2 #[] #[])
  fields := #[]
  methods := #[k2m0]
  instanceTypes := #[]
  staticTypes := #[]
  resolved := Array.replicate 22 none
  statics := none }

def pool3 : Array CpInfo := pool [(1, .methodref 2 3), (0, .class_ 4), (0, .nameAndType 5 6), (0, u "java/lang/Record"), (0, u "<init>"), (0, u "()V"), (0, .fieldref 8 9), (0, .class_ 10), (0, .nameAndType 11 12), (0, u "com/example/covenant_atlas/covenantatlas/model/Tally"), (0, u "passed"), (0, u "I"), (0, .fieldref 8 14), (0, .nameAndType 15 12), (0, u "failed"), (0, .fieldref 8 17), (0, .nameAndType 18 12), (0, u "missing"), (0, .fieldref 8 20), (0, .nameAndType 21 12), (0, u "notDue"), (0, .fieldref 8 23), (0, .nameAndType 24 12), (0, u "unread"), (19, .class_ 46), (1, u "com/example/covenant_atlas/covenantatlas/model/Tally$1"), (11, u "()I"), (2, u "(IIIII)V"), (0, .methodref 8 63), (0, .nameAndType 64 58), (0, u "untested"), (20, u "covenants")] 28

def k3c0 : Code := { maxStack := 2, maxLocals := 6, code := prog_87_method_1_code, exceptionTable := #[], attributes := #[] }
def k3m0 : Method := { name := "<init>", desc := "(IIIII)V", sig := { parameters := [.int, .int, .int, .int, .int], returnType := none }, accessFlags := 1, code := some k3c0 }
def k3c1 : Code := { maxStack := 2, maxLocals := 1, code := prog_87_method_3_code, exceptionTable := #[], attributes := #[] }
def k3m1 : Method := { name := "untested", desc := "()I", sig := { parameters := [], returnType := some .int }, accessFlags := 1, code := some k3c1 }
def k3c2 : Code := { maxStack := 2, maxLocals := 1, code := prog_87_method_4_code, exceptionTable := #[], attributes := #[] }
def k3m2 : Method := { name := "covenants", desc := "()I", sig := { parameters := [], returnType := some .int }, accessFlags := 1, code := some k3c2 }
/-- com/example/covenant_atlas/covenantatlas/model/Tally -/
def k3 : Class := { plain "com/example/covenant_atlas/covenantatlas/model/Tally" (some 2) with
  accessFlags := 49
  interfaces := #[]
  cf := some (fileOf pool3 8 #[.nestMembers #[44]] #[{ accessFlags := 1, nameIndex := 5, descriptorIndex := 61, attributes := #[] }, { accessFlags := 1, nameIndex := 64, descriptorIndex := 58, attributes := #[] }, { accessFlags := 1, nameIndex := 85, descriptorIndex := 58, attributes := #[] }] 49 2 #[] #[{ accessFlags := 18, nameIndex := 11, descriptorIndex := 12, attributes := #[] }, { accessFlags := 18, nameIndex := 15, descriptorIndex := 12, attributes := #[] }, { accessFlags := 18, nameIndex := 18, descriptorIndex := 12, attributes := #[] }, { accessFlags := 18, nameIndex := 21, descriptorIndex := 12, attributes := #[] }, { accessFlags := 18, nameIndex := 24, descriptorIndex := 12, attributes := #[] }])
  fields := #[{ name := "passed", type := .int, accessFlags := 18, slot := 0, constantValue := 0 }, { name := "failed", type := .int, accessFlags := 18, slot := 1, constantValue := 0 }, { name := "missing", type := .int, accessFlags := 18, slot := 2, constantValue := 0 }, { name := "notDue", type := .int, accessFlags := 18, slot := 3, constantValue := 0 }, { name := "unread", type := .int, accessFlags := 18, slot := 4, constantValue := 0 }]
  methods := #[k3m0, k3m1, k3m2]
  instanceTypes := #[.int, .int, .int, .int, .int]
  staticTypes := #[]
  resolved := Array.replicate 114 none
  statics := none }

def pool4 : Array CpInfo := pool [(1, u "java/lang/Cloneable"), (0, .class_ 1), (0, u "java/lang/Object"), (0, .class_ 3)] 3

/-- java/lang/Cloneable -/
def k4 : Class := { plain "java/lang/Cloneable" (some 0) with
  accessFlags := 1537
  interfaces := #[]
  cf := some (fileOf pool4 2 #[] #[] 1537 4 #[] #[])
  fields := #[]
  methods := #[]
  instanceTypes := #[]
  staticTypes := #[]
  resolved := Array.replicate 8 none
  statics := none }

def pool5 : Array CpInfo := pool [(1, u "java/io/Serializable"), (0, .class_ 1), (0, u "java/lang/Object"), (0, .class_ 3)] 3

/-- java/io/Serializable -/
def k5 : Class := { plain "java/io/Serializable" (some 0) with
  accessFlags := 1537
  interfaces := #[]
  cf := some (fileOf pool5 2 #[] #[] 1537 4 #[] #[])
  fields := #[]
  methods := #[]
  instanceTypes := #[]
  staticTypes := #[]
  resolved := Array.replicate 8 none
  statics := none }

/-- the primitive byte -/
def k6 : Class := { plain "byte" none with kind := .primitive 'B', accessFlags := 0x411 }
/-- [B -/
def k7 : Class := { plain "[B" (some 0) with kind := .array 6 .byte, interfaces := #[4, 5], accessFlags := 1041 }

/-- the primitive int -/
def k8 : Class := { plain "int" none with kind := .primitive 'I', accessFlags := 0x411 }
/-- [I -/
def k9 : Class := { plain "[I" (some 0) with kind := .array 8 .int, interfaces := #[4, 5], accessFlags := 1041 }

def heap : Heap := #[]
def classes : Array Class := #[k0, k1, k2, k3, k4, k5, k6, k7, k8, k9]
def interned : List (Array UInt16 × Addr) := []
def slotsUsed : Nat := 0
def theMethod : MethodId := ⟨1, 1⟩
def args0 : Array Value := #[.int 5, .int 5, .int 5, .int 5, .int 5]
def aboutOver (below : List Frame) : State where
  vm := { classes := classes, interned := interned.toArray }
  heap := heap
  slotsUsed := slotsUsed
  threads := #[{ frames := .invoking theMethod args0 :: below }]
def below0 : List Frame := [.native { method := ⟨0, 0⟩, args := #[] }]
def about1 : State := aboutOver below0
def p0 : Program := .bare "" "" ""
def e0 : Env := launch0.env 0 0 0
theorem w_frames : about1.frames = Frame.invoking theMethod args0 :: below0 := rfl
set_option maxRecDepth 65536 in
theorem w_args : argsFit about1.vm theMethod args0 = true := by decide +kernel
set_option maxRecDepth 65536 in
theorem w_heap : heapFits about1 = true := by decide +kernel
set_option maxRecDepth 65536 in
theorem w_runnable : about1.curStatus? = some .runnable := by decide +kernel
set_option maxRecDepth 65536 in
theorem w_alone : about1.alone = true := by decide +kernel
set_option maxRecDepth 65536 in
theorem w_named : about1.methodNamed? x = some theMethod := by decide +kernel
set_option maxRecDepth 65536 in
theorem w_hears : about1.hears theMethod below0 = true := by decide +kernel
set_option maxRecDepth 65536 in
theorem w_ripe : about1.ripe theMethod args0 below0 = true := by decide +kernel
theorem w_running : about1.status = .running := rfl
set_option maxRecDepth 65536 in
theorem w_room : about1.hasRoom e0.platform room_1 = true :=
  launch0.hasRoom_least _ room_1 (by decide +kernel) (by decide +kernel) (by decide +kernel) (by decide +kernel) (by decide +kernel) (by decide +kernel)
theorem allAtoms_all (ts : List Jvm.Cond) (a : Array Jvm.Value) (st : Jvm.State) : (allAtoms ts).before a st = ts.all (fun c => c.before a st) := by
  induction ts with
  | nil => rfl
  | cons c t ih =>
    show (Jvm.Cond.and c (allAtoms t)).before a st = _
    rw [Jvm.Cond.before_and, ih, List.all_cons]
def words1 : List Jvm.Cond := Jvm.Cond.code x code maxLocals ret :: tables_1
/-- a 'code' word, met by the world's own term for the bytes: nothing is compared byte by byte -/
theorem code_word {y : MethodName} {bytes : ByteArray} {mx : Nat} {rt : Option FieldType} {a : Array Value} {s : State} {m : MethodId} {meth : Method} {c : Code} (h1 : s.methodNamed? y = some m) (h2 : s.vm.method? m = some meth) (h3 : meth.code = some c) (h4 : c.code = bytes)
    (h5 : (c.maxLocals == mx && c.exceptionTable.isEmpty && decide (c.maxStack ≤ mostOperands) && decide (meth.sig.returnType = rt) && !meth.locks && decide (parseMethodDescriptor y.desc = some meth.sig)) = true) : (Jvm.Cond.code y bytes mx rt).before a s = true := by
  simp only [Bool.and_eq_true, beq_iff_eq, Bool.not_eq_true', decide_eq_true_eq] at h5
  obtain ⟨⟨⟨⟨⟨g1, g2⟩, g3⟩, g4⟩, g5⟩, g6⟩ := h5
  simp [Cond.before, Cond.holds, Cond.value, h1, h2, h3, h4, g1, g2, g3, g4, g5, g6]
def isCode : Jvm.Cond → Bool
  | .code _ _ _ _ => true
  | _ => false
theorem all_split {L : List Jvm.Cond} {P : Jvm.Cond → Bool} (h1 : L.all (fun c => isCode c || P c) = true) (h2 : ∀ c ∈ L.filter isCode, P c = true) : L.all P = true := by
  refine List.all_eq_true.mpr fun c hc => ?_
  have h := List.all_eq_true.mp h1 c hc
  rcases Bool.eq_false_or_eq_true (isCode c) with hi | hi
  · exact h2 c (List.mem_filter.mpr ⟨hc, hi⟩)
  · simpa [hi] using h
set_option maxRecDepth 65536 in
theorem w_c0 : (Jvm.Cond.code x code maxLocals ret).before args0 about1 = true := code_word (m := ⟨1, 1⟩) (meth := k1m1) (c := k1c1) (by decide +kernel) rfl rfl rfl (by decide +kernel)
set_option maxRecDepth 65536 in
theorem w_c1 : (Jvm.Cond.code ({ cls := "com/example/covenant_atlas/covenantatlas/model/Tally", name := "<init>", desc := "(IIIII)V" } : Jvm.MethodName) prog_87_method_1_code (6 : Nat) (Option.none : Option Jvm.ClassFile.FieldType)).before args0 about1 = true := code_word (m := ⟨3, 0⟩) (meth := k3m0) (c := k3c0) (by decide +kernel) rfl rfl rfl (by decide +kernel)
set_option maxRecDepth 65536 in
theorem w_c2 : (Jvm.Cond.code ({ cls := "java/lang/Record", name := "<init>", desc := "()V" } : Jvm.MethodName) jdk_30_method_1_code (1 : Nat) (Option.none : Option Jvm.ClassFile.FieldType)).before args0 about1 = true := code_word (m := ⟨2, 0⟩) (meth := k2m0) (c := k2c0) (by decide +kernel) rfl rfl rfl (by decide +kernel)
set_option maxRecDepth 65536 in
theorem w_c3 : (Jvm.Cond.code ({ cls := "java/lang/Object", name := "<init>", desc := "()V" } : Jvm.MethodName) object_method_1_code (1 : Nat) (Option.none : Option Jvm.ClassFile.FieldType)).before args0 about1 = true := code_word (m := ⟨0, 0⟩) (meth := k0m0) (c := k0c0) (by decide +kernel) rfl rfl rfl (by decide +kernel)
set_option maxRecDepth 65536 in
theorem w_c4 : (Jvm.Cond.code ({ cls := "com/example/covenant_atlas/covenantatlas/model/Tally", name := "covenants", desc := "()I" } : Jvm.MethodName) prog_87_method_4_code (1 : Nat) (Option.some Jvm.ClassFile.FieldType.int)).before args0 about1 = true := code_word (m := ⟨3, 2⟩) (meth := k3m2) (c := k3c2) (by decide +kernel) rfl rfl rfl (by decide +kernel)
set_option maxRecDepth 65536 in
theorem w_c5 : (Jvm.Cond.code ({ cls := "com/example/covenant_atlas/covenantatlas/model/Tally", name := "untested", desc := "()I" } : Jvm.MethodName) prog_87_method_3_code (1 : Nat) (Option.some Jvm.ClassFile.FieldType.int)).before args0 about1 = true := code_word (m := ⟨3, 1⟩) (meth := k3m1) (c := k3c1) (by decide +kernel) rfl rfl rfl (by decide +kernel)
def codes1 : List Jvm.Cond := [Jvm.Cond.code x code maxLocals ret, Jvm.Cond.code ({ cls := "com/example/covenant_atlas/covenantatlas/model/Tally", name := "<init>", desc := "(IIIII)V" } : Jvm.MethodName) prog_87_method_1_code (6 : Nat) (Option.none : Option Jvm.ClassFile.FieldType), Jvm.Cond.code ({ cls := "java/lang/Record", name := "<init>", desc := "()V" } : Jvm.MethodName) jdk_30_method_1_code (1 : Nat) (Option.none : Option Jvm.ClassFile.FieldType), Jvm.Cond.code ({ cls := "java/lang/Object", name := "<init>", desc := "()V" } : Jvm.MethodName) object_method_1_code (1 : Nat) (Option.none : Option Jvm.ClassFile.FieldType), Jvm.Cond.code ({ cls := "com/example/covenant_atlas/covenantatlas/model/Tally", name := "covenants", desc := "()I" } : Jvm.MethodName) prog_87_method_4_code (1 : Nat) (Option.some Jvm.ClassFile.FieldType.int), Jvm.Cond.code ({ cls := "com/example/covenant_atlas/covenantatlas/model/Tally", name := "untested", desc := "()I" } : Jvm.MethodName) prog_87_method_3_code (1 : Nat) (Option.some Jvm.ClassFile.FieldType.int)]
set_option maxRecDepth 65536 in
theorem codes_eq : words1.filter isCode = codes1 := rfl
theorem w_codes : ∀ c ∈ words1.filter isCode, c.before args0 about1 = true := by
  rw [codes_eq]
  intro c hc
  simp only [codes1, List.mem_cons, List.not_mem_nil, or_false] at hc
  rcases hc with rfl | rfl | rfl | rfl | rfl | rfl
  · exact w_c0
  · exact w_c1
  · exact w_c2
  · exact w_c3
  · exact w_c4
  · exact w_c5
set_option maxRecDepth 65536 in
theorem w_t1 : (words1.take 24).all (fun c => isCode c || c.before args0 about1) = true := by decide +kernel
set_option maxRecDepth 65536 in
theorem w_t2 : (words1.drop 24).all (fun c => isCode c || c.before args0 about1) = true := by decide +kernel
theorem w_tables : (allAtoms (Jvm.Cond.code x code maxLocals ret :: tables_1)).before args0 about1 = true := by
  rw [allAtoms_all]
  show words1.all (fun c => c.before args0 about1) = true
  refine all_split ?_ w_codes
  rw [← List.take_append_drop 24 words1, List.all_append, w_t1, w_t2]
  rfl
set_option maxRecDepth 65536 in
theorem w_case : (Jvm.Cond.and given_1 narrow_1).before args0 about1 = true := by decide +kernel
theorem w_applies : (headSpec (Jvm.Cond.code x code maxLocals ret :: tables_1) room_1).applies x e0.platform about1 = true :=
  (Spec.applies_iff w_frames).mpr ⟨w_running, w_runnable, w_alone, w_named, w_hears, w_ripe, w_room, w_tables⟩
theorem atStart : AtStart classFile x code maxLocals ret World_1 tables_1 room_1 Calls_1 rest_1 Pre_1 launch0 p0 e0 about1 theMethod args0 below0 :=
  ⟨lists_1, trivial, launch0.admits_env _ _ _, launch0.least_env, fairChoices_fair.cas, fairChoices_fair.clock, w_frames, w_args, w_heap, w_applies, trivial, trivial, w_case⟩
end start1
theorem witness_1 : WitnessClaimed_1 := ⟨start1.p0, start1.e0, start1.about1, start1.theMethod, start1.args0, start1.below0, start1.atStart⟩
end Jvm.Pilot.@@N@@
