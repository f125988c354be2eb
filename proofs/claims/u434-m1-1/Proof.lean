import JvmDerived
import JvmDerived.Pilot.@@N@@Statement
import JvmDerived.Pilot.@@N@@Code
set_option linter.unusedVariables false
set_option linter.unusedSimpArgs false
namespace Jvm.RoadKit
open Sem ClassFile Op Lib Jvm.Stand Jvm.Free Jvm.LawKit
section New
variable {p : Program} {l : Launch} {e : Env} {R : Room} {s : State} {m : MethodId} {args : Array Value} {below : List Frame} {meth : Method} {c : Code} {T : State} {locs : List Loc} {cells slots : Nat}
theorem retI (X : Stand p l e R s m args below meth c T locs cells slots) (hx : p.tables.exec = Jvm.exec) {pc : Nat} {Ls : Array Slot} {z : Int32} {rest : List Value} (hret : meth.sig.returnType = some .int) (hd : decode c.code pc = .ok (.ireturn, 1)) {fs : List Frame}
    (hl : ∀ (f : JFrame) (acts : List Action), f.method = m → f.locked = none → f.entered = [] → (doReturn e (T.setTop f) acts (some (.int z))).1 = T.setFrames fs) : Steps p.tables e below (T.setTop (mkF m pc Ls (.int z :: rest))) (T.setFrames fs) := by
  have hm' : T.vm.method? m = some meth := X.method'
  have hn : narrow .int (.int z) = .int z := rfl
  show Steps p.tables e below (T.setTop { method := m, pc := pc, locals := Ls, stack := _ :: rest, locked := none }) _
  jvm_step X.here [X.here.top, hx, hd, hm', hret, hn]
  first | (intro acts; rw [hl _ acts rfl rfl rfl]) | rw [hl _ _ rfl rfl rfl]
  exact Steps.refl _
end New
end Jvm.RoadKit
namespace Jvm.Pilot.@@N@@
open Jvm Jvm.ClassFile Sem Op Lib Jvm.Free Jvm.Stand Jvm.LawKit Jvm.RoadKit Bundle Jvm.Pilot.@@N@@.Jvm.D
def Gl (p : Program) (e : Env) (below : List Frame) (Q : Outcome → State → Prop) (A : State) : Prop := ∃ t o, Steps p.tables e below A t ∧ t.status = .running ∧ Ended t below o ∧ Q o t
theorem Gl.st {p : Program} {e : Env} {below : List Frame} {Q : Outcome → State → Prop} {A B : State} (k : ∀ t, Steps p.tables e below B t → Steps p.tables e below A t) (h : Gl p e below Q B) : Gl p e below Q A := by
  obtain ⟨t, o, h1, r⟩ := h
  exact ⟨t, o, k t h1, r⟩
theorem Gl.cast {p : Program} {e : Env} {below : List Frame} {Q : Outcome → State → Prop} {A B : State} (k : A = B) (h : Gl p e below Q B) : Gl p e below Q A := k ▸ h
theorem Gl.join {p : Program} {e : Env} {below : List Frame} {Q : Outcome → State → Prop} {A B : State} (k : Gl p e below Q A → Gl p e below Q B) (h : Gl p e below Q A) : Gl p e below Q B := k h
theorem Gl.fin {p : Program} {e : Env} {below : List Frame} {Q : Outcome → State → Prop} {A t : State} {o : Outcome} (h1 : Steps p.tables e below A t) (h2 : t.status = .running) (h3 : Ended t below o) (h4 : Q o t) : Gl p e below Q A := ⟨t, o, h1, h2, h3, h4⟩
theorem tw {a0 : Array Value} {Z : State} (hw : ∀ d ∈ tables_1, d.before a0 Z = true) (i : Nat) {d : Jvm.Cond} (h : tables_1[i]? = some d) : d.before a0 Z = true := hw _ (List.mem_of_getElem? h)
theorem ldAt {L M : Array Slot} (h : L = M) {k : Nat} {v : Slot} (q : M[k]? = some v) : L[k]? = some v := h ▸ q
theorem stAt {L M L' M' : Array Slot} {k : Nat} {v w : Value} (h : L = M) (h' : L' = M') (e : w = v) (q : storeLocals M k v = some M') : storeLocals L k w = some L' := by subst h h' e; exact q
theorem stAt' {L M L' M' : Array Slot} {k : Nat} {v w : Value} (h : L = M) (h' : L' = M') (e : w = v) (q : storeLocals M k v = some M') : storeLocals L k w = some L' := by subst h h' e; exact q
theorem szAt {L M : Array Slot} {k n : Nat} (h : k = n) (h' : L = M) (q : M.size = n) : L.size = k := by subst h h'; exact q
theorem efAt {m : MethodId} {L M : Array Slot} {f : JFrame} (h : L = M) (q : f = mkF m 0 M []) : f = mkF m 0 L [] := h ▸ q
theorem own_nb {c : Prop} [Decidable c] {a b : Int32} (ha : nar .boolean a = a) (hb : nar .boolean b = b) : nar .boolean (if c then a else b) = if c then a else b := by split <;> assumption
theorem own_arr_keep {Z : State} {h h' : Heap} {a : Addr} {c : Cell} {ty : FieldType} {ws : List Addr} (F : Arr Z h a c ty) (K : Keep h h' ws) (q : a ∉ ws) : Arr Z h' a c ty := ⟨K.2.1 a c F.1 q, F.2⟩
theorem own_eqL {args : Array Value} {s : State} {t : Term} {z : Int64} (h : (Jvm.Cond.eq t (.long z)).value args s none s [] = some true) : t.eval args s none [] s = some (.long z) := by
  obtain ⟨x, y, ha, hb, k1, k2⟩ := cmp_v (Or.inl h)
  obtain rfl : y = .long z := Option.some.inj (hb.symm.trans (long_at z))
  obtain ⟨w, rfl⟩ : ∃ w, x = .long w := k2
  rw [ha, gotT (eq_L ha hb) h]
theorem own_eqI {args : Array Value} {s : State} {t : Term} {z : Int32} (h : (Jvm.Cond.eq t (.int z)).value args s none s [] = some true) : t.eval args s none [] s = some (.int z) := by
  obtain ⟨x, y, ha, hb, k1, k2⟩ := cmp_v (Or.inl h)
  obtain rfl : y = .int z := Option.some.inj (hb.symm.trans (Term.int_eval z))
  obtain ⟨w, rfl⟩ : ∃ w, x = .int w := k2
  rw [ha, gotT (Cond.eq_ints ha hb) h]
theorem own_sta_keep {Z : State} {h h' : Heap} {C n d : String} {v : Value} {ws : List Addr} (F : Sta Z h C n d v) (K : Keep h h' ws) (q : ∀ x ∈ ws, ∀ cell : Cell, h[x]? = some cell → cell.vm.isStatics = false) : Sta Z h' C n d v := by
  obtain ⟨cf, i, k, f, a, cell, h1, h2, h3, h4, h5, h6, r⟩ := F
  exact ⟨cf, i, k, f, a, cell, h1, h2, h3, h4, K.2.1 a cell h5 (fun y => by have := q a y cell h5; rw [h6] at this; cases this), h6, r⟩
theorem own_exa_plain {Z : State} {h : Heap} {a : Addr} {C : String} (F : Exa Z h a C) : ∀ cell : Cell, h[a]? = some cell → cell.vm.isStatics = false := fun cell hc => by
  obtain ⟨c', k, h1, -, -, h4, -⟩ := F
  rw [h1] at hc; cases hc; exact h4
theorem own_arv_plain {Z : State} {h : Heap} {a : Addr} {k : ClassId} {ty : FieldType} {z : Int32} {vs : List Value} {dv : Value} (F : Arv Z h a k ty z vs dv) : ∀ cell : Cell, h[a]? = some cell → cell.vm.isStatics = false := fun cell hc => by
  obtain ⟨c', A, -⟩ := F
  have := A.1; rw [this] at hc; cases hc; exact A.plain
theorem own_and3 (x y : Int32) (h : y = x &&& (3 : Int32)) : y = 0 ∨ y = 1 ∨ y = 2 ∨ y = 3 := by
  have a : y.toInt = x.toInt % 4 := by rw [h]; exact c_mask x (3 : Int32) 2 (by decide) (by decide)
  clear h
  simp only [← Int32.toInt_inj, Int32.reduceToInt]
  omega
theorem own_cnt (p c : Int32) (h : c = (((p.toUInt32 >>> ((2 : Int32) &&& 31).toUInt32).toInt32) % (5 : Int32))) : c = 0 ∨ c = 1 ∨ c = 2 ∨ c = 3 ∨ c = 4 := by
  have a1 := c_iushr p (2 : Int32) 2 (by decide) (by decide)
  have a2 := (c_irem ((p.toUInt32 >>> ((2 : Int32) &&& 31).toUInt32).toInt32) (5 : Int32) 5 (by decide)).1
  rw [← h] at a2
  clear h
  generalize ((p.toUInt32 >>> ((2 : Int32) &&& 31).toUInt32).toInt32).toInt = q at *
  simp only [← Int32.toInt_inj, Int32.reduceToInt]
  omega
theorem own_byte (p x : Int32) (h : x = p.toInt8.toInt32) : ((((nar .byte x) &&& (255 : Int32)).toInt64)).toInt = p.toInt % 256 := by
  rw [c_i2l]
  have a : ((nar .byte x) &&& (255 : Int32)).toInt = (nar .byte x).toInt % 256 := c_mask (nar .byte x) (255 : Int32) 8 (by decide) (by decide)
  have b := c_i2b x
  have d := c_i2b p
  rw [← h] at d
  have e : (nar .byte x).toInt = x.toInt8.toInt32.toInt := rfl
  omega
theorem own_bl (p : Int32) : ((p.toInt64) &&& (255 : Int64)).toInt = p.toInt % 256 := by
  have a : ((p.toInt64) &&& (255 : Int64)).toInt = p.toInt64.toInt % 256 := c_maskL p.toInt64 (255 : Int64) 8 (by decide) (by decide)
  rw [a, c_i2l]
theorem d1_0 : decode prog_8_method_7_code 0 = .ok (.lconst 0, 1) := by decide +kernel
theorem d1_1 : decode prog_8_method_7_code 1 = .ok (.lstore_n 3, 1) := by decide +kernel
theorem d1_2 : decode prog_8_method_7_code 2 = .ok (.iconst 0, 1) := by decide +kernel
theorem d1_3 : decode prog_8_method_7_code 3 = .ok (.istore 5, 2) := by decide +kernel
theorem d1_5 : decode prog_8_method_7_code 5 = .ok (.iload 5, 2) := by decide +kernel
theorem d1_7 : decode prog_8_method_7_code 7 = .ok (.iload_n 2, 1) := by decide +kernel
theorem d1_8 : decode prog_8_method_7_code 8 = .ok (.if_icmp .ge 29, 3) := by decide +kernel
theorem d1_11 : decode prog_8_method_7_code 11 = .ok (.lload_n 3, 1) := by decide +kernel
theorem d1_12 : decode prog_8_method_7_code 12 = .ok (.aload_n 0, 1) := by decide +kernel
theorem d1_13 : decode prog_8_method_7_code 13 = .ok (.iload_n 1, 1) := by decide +kernel
theorem d1_14 : decode prog_8_method_7_code 14 = .ok (.iload 5, 2) := by decide +kernel
theorem d1_16 : decode prog_8_method_7_code 16 = .ok (.iadd, 1) := by decide +kernel
theorem d1_17 : decode prog_8_method_7_code 17 = .ok (.baload, 1) := by decide +kernel
theorem d1_18 : decode prog_8_method_7_code 18 = .ok (.sipush 255, 3) := by decide +kernel
theorem d1_21 : decode prog_8_method_7_code 21 = .ok (.iand, 1) := by decide +kernel
theorem d1_22 : decode prog_8_method_7_code 22 = .ok (.i2l, 1) := by decide +kernel
theorem d1_23 : decode prog_8_method_7_code 23 = .ok (.bipush 8, 2) := by decide +kernel
theorem d1_25 : decode prog_8_method_7_code 25 = .ok (.iload 5, 2) := by decide +kernel
theorem d1_27 : decode prog_8_method_7_code 27 = .ok (.imul, 1) := by decide +kernel
theorem d1_28 : decode prog_8_method_7_code 28 = .ok (.lshl, 1) := by decide +kernel
theorem d1_29 : decode prog_8_method_7_code 29 = .ok (.lor, 1) := by decide +kernel
theorem d1_30 : decode prog_8_method_7_code 30 = .ok (.lstore_n 3, 1) := by decide +kernel
theorem d1_31 : decode prog_8_method_7_code 31 = .ok (.iinc 5 1, 3) := by decide +kernel
theorem d1_34 : decode prog_8_method_7_code 34 = .ok (.goto (-29), 3) := by decide +kernel
theorem d1_37 : decode prog_8_method_7_code 37 = .ok (.lload_n 3, 1) := by decide +kernel
theorem d1_38 : decode prog_8_method_7_code 38 = .ok (.lreturn, 1) := by decide +kernel
theorem pn_1 : plainName "com/example/requeue/requeue/connection/SnappyBlock" = true := by first | (simp [plainName, overriddenIn]; done) | decide +kernel
theorem ef_1o0 (m : MethodId) (a1 : Addr) (p3 : Int32) : entryFrame m #[(.ref a1), (.int (0 : Int32)), (.int p3)] 6 = mkF m 0 #[.val (.ref a1), .val (.int (0 : Int32)), .val (.int p3), .unset, .unset, .unset] [] := by first | (simp [entryFrame, mkF, argsToLocals, Value.category]; done) | rfl
def Q1o0 (Z : State) (a1 : Addr) (p3 : Int32) (kx_a1 : ClassId) (el0 : Int32) (el1 : Int32) (el2 : Int32) (el3 : Int32) (el4 : Int32) (el5 : Int32) (el6 : Int32) (el7 : Int32) (h0 : Heap) (n0 : Nat) (v : Option Value) (h : Heap) (L : List Loc) : Prop := v = some (.long (if (0 : Int32) < p3 then (if (1 : Int32) < p3 then (if (2 : Int32) < p3 then (if (3 : Int32) < p3 then (((((((((0 : Int64) ||| (((el0 &&& (255 : Int32)).toInt64) <<< ((0 : Int32) &&& 0x3f).toInt64))) ||| (((el1 &&& (255 : Int32)).toInt64) <<< ((8 : Int32) &&& 0x3f).toInt64))) ||| (((el2 &&& (255 : Int32)).toInt64) <<< ((16 : Int32) &&& 0x3f).toInt64))) ||| (((el3 &&& (255 : Int32)).toInt64) <<< ((24 : Int32) &&& 0x3f).toInt64))) else (((((((0 : Int64) ||| (((el0 &&& (255 : Int32)).toInt64) <<< ((0 : Int32) &&& 0x3f).toInt64))) ||| (((el1 &&& (255 : Int32)).toInt64) <<< ((8 : Int32) &&& 0x3f).toInt64))) ||| (((el2 &&& (255 : Int32)).toInt64) <<< ((16 : Int32) &&& 0x3f).toInt64)))) else (((((0 : Int64) ||| (((el0 &&& (255 : Int32)).toInt64) <<< ((0 : Int32) &&& 0x3f).toInt64))) ||| (((el1 &&& (255 : Int32)).toInt64) <<< ((8 : Int32) &&& 0x3f).toInt64)))) else (((0 : Int64) ||| (((el0 &&& (255 : Int32)).toInt64) <<< ((0 : Int32) &&& 0x3f).toInt64)))) else (0 : Int64))) ∧ Fr n0 L ∧ h = h0
set_option maxRecDepth 65536 in
set_option maxHeartbeats 40000000 in
theorem rm1o0 (l : Launch) (Z : State) (a0 : Array Value) (hw : ∀ d ∈ tables_1, d.before a0 Z = true) (ws : List Jvm.Cond) (a1 : Addr) (p3 : Int32) (kx_a1 : ClassId) (el0 : Int32) (el1 : Int32) (el2 : Int32) (el3 : Int32) (el4 : Int32) (el5 : Int32) (el6 : Int32) (el7 : Int32) (h0 : Heap) (n0 : Nat) (Z0 : n0 ≤ h0.size) (V_a1 : Arv Z h0 a1 kx_a1 .byte (8 : Int32) [(.int el0), (.int el1), (.int el2), (.int el3), (.int el4), (.int el5), (.int el6), (.int el7)] (.int (0 : Int32))) (hq8_5 : ¬ ((4 : Int32) < p3)) :
    MetFree l (⟨"com/example/requeue/requeue/connection/SnappyBlock", "readLittleEndian", "([BII)J"⟩ : MethodName) (head1 (Jvm.Cond.code (⟨"com/example/requeue/requeue/connection/SnappyBlock", "readLittleEndian", "([BII)J"⟩ : MethodName) prog_8_method_7_code 6 (some .long) :: ws) ({ frames := 0, cells := 0, slots := 0, locals := 0 } : Room)) (fun a U => a = #[(.ref a1), (.int (0 : Int32)), (.int p3)] ∧ Z.Warmed39 U.vm ∧ U.heap = h0) (fun _ _ _ _ _ => True) (fun _ U o U' => ∃ v L, o = .returned v ∧ Q1o0 Z a1 p3 kx_a1 el0 el1 el2 el3 el4 el5 el6 el7 h0 n0 v U'.heap L ∧ FrameEnd U o U' L ({ frames := 0, cells := 0, slots := 0, locals := 0 } : Room).cells ({ frames := 0, cells := 0, slots := 0, locals := 0 } : Room).slots) := by
  refine MetFree.of_bodySF (plainFor_of_name pn_1) hisR ?_
  intro p e s m args below meth c s₁ Bd hml0 hP hK
  obtain ⟨rfl, hZ, hh⟩ := hP
  have hx := Bd.exec
  have hby := Bd.bytes
  have hml : c.maxLocals = 6 := hml0
  have hown : s.vm.findClass "com/example/requeue/requeue/connection/SnappyBlock" = some m.cls := findClass_of_methodNamed Bd.named
  have hnm := (name_of_methodNamed Bd.named Bd.method).1
  have X0 : Stand p l e ({ frames := 0, cells := 0, slots := 0, locals := 0 } : Room) s m #[(.ref a1), (.int (0 : Int32)), (.int p3)] below meth c s₁ [] 0 0 := Stand.of_body Bd
  have e0 : s₁.heap = h0 := by rw [← hh, Bd.state]; rfl
  have N0 := Fr.nil n0
  have K0 : Keep h0 h0 [] := Keep.refl h0 _
  refine (show Gl p e below (fun o U' => ∃ v L, o = .returned v ∧ Q1o0 Z a1 p3 kx_a1 el0 el1 el2 el3 el4 el5 el6 el7 h0 n0 v U'.heap L ∧ FrameEnd s o U' L ({ frames := 0, cells := 0, slots := 0, locals := 0 } : Room).cells ({ frames := 0, cells := 0, slots := 0, locals := 0 } : Room).slots) (s₁.setTop (entryFrame m #[(.ref a1), (.int (0 : Int32)), (.int p3)] 6)) from ?_)
  obtain ⟨L0, hL0⟩ : ∃ z : Array Slot, z = #[.val (.ref a1), .val (.int (0 : Int32)), .val (.int p3), .unset, .unset, .unset] := ⟨_, rfl⟩
  refine Gl.st (B := (s₁.setTop (mkF m 0 L0 []))) (fun t k => castTop (efAt hL0 (ef_1o0 m a1 p3)) k) ?_
  refine Gl.st (B := (s₁.setTop (mkF m 1 L0 [(.long (0 : Int64))]))) (fun t k => XS.lconst X0.here hx rfl (hb hby d1_0) k) ?_
  obtain ⟨L1, hL1⟩ : ∃ z : Array Slot, z = #[.val (.ref a1), .val (.int (0 : Int32)), .val (.int p3), .val (.long (0 : Int64)), .second, .unset] := ⟨_, rfl⟩
  refine Gl.st (B := (s₁.setTop (mkF m 2 L1 []))) (fun t k => XS.lstoreN X0.here hx rfl (hb hby d1_1) rfl (l' := L1) (stAt hL0 hL1 rfl rfl) k) ?_
  refine Gl.st (B := (s₁.setTop (mkF m 3 L1 [(.int (0 : Int32))]))) (fun t k => XS.iconst X0.here hx rfl (hb hby d1_2) k) ?_
  obtain ⟨L2, hL2⟩ : ∃ z : Array Slot, z = #[.val (.ref a1), .val (.int (0 : Int32)), .val (.int p3), .val (.long (0 : Int64)), .second, .val (.int (0 : Int32))] := ⟨_, rfl⟩
  refine Gl.st (B := (s₁.setTop (mkF m 5 L2 []))) (fun t k => XS.istore X0.here hx rfl (hb hby d1_3) rfl (l' := L2) (stAt hL1 hL2 rfl rfl) k) ?_
  refine Gl.st (B := (s₁.setTop (mkF m 7 L2 [(.int (0 : Int32))]))) (fun t k => XS.iload X0.here hx rfl (hb hby d1_5) (ldAt hL2 rfl) k) ?_
  refine Gl.st (B := (s₁.setTop (mkF m 8 L2 [(.int p3), (.int (0 : Int32))]))) (fun t k => XS.iloadN X0.here hx rfl (hb hby d1_7) (ldAt hL2 rfl) k) ?_
  by_cases hc8_3 : (0 : Int32) < p3
  · skip
    refine Gl.st (B := (s₁.setTop (mkF m 11 L2 []))) (fun t k => XS.icmpNo X0.here hx rfl (hb hby d1_8) rfl (tlt hc8_3).2.1 k) ?_
    refine Gl.st (B := (s₁.setTop (mkF m 12 L2 [(.long (0 : Int64))]))) (fun t k => XS.lloadN X0.here hx rfl (hb hby d1_11) (ldAt hL2 rfl) k) ?_
    refine Gl.st (B := (s₁.setTop (mkF m 13 L2 [(.ref a1), (.long (0 : Int64))]))) (fun t k => XS.aloadN X0.here hx rfl (hb hby d1_12) (ldAt hL2 rfl) rfl k) ?_
    refine Gl.st (B := (s₁.setTop (mkF m 14 L2 [(.int (0 : Int32)), (.ref a1), (.long (0 : Int64))]))) (fun t k => XS.iloadN X0.here hx rfl (hb hby d1_13) (ldAt hL2 rfl) k) ?_
    refine Gl.st (B := (s₁.setTop (mkF m 16 L2 [(.int (0 : Int32)), (.int (0 : Int32)), (.ref a1), (.long (0 : Int64))]))) (fun t k => XS.iload X0.here hx rfl (hb hby d1_14) (ldAt hL2 rfl) k) ?_
    refine Gl.st (B := (s₁.setTop (mkF m 17 L2 [(.int (0 : Int32)), (.ref a1), (.long (0 : Int64))]))) (fun t k => XS.iadd X0.here hx rfl (hb hby d1_16) rfl k) ?_
    obtain ⟨cl4, Ar4, q4, S4, P4, H4, G4⟩ := (id V_a1)
    have hin17_4 : ¬ ((0 : Int32) < 0 ∨ cl4.slots.size ≤ ((0 : Int32)).toNatClampNeg) := inb_of S4 ⟨by decide, by decide⟩
    have hat4 := Has.at H4 hin17_4 (v := (.int el0)) rfl
    refine Gl.st (B := (s₁.setTop (mkF m 18 L2 [(.int el0), (.long (0 : Int64))]))) (fun t k => X0.baloadBytes hx (j := (0 : Int32)) (v := (.int el0)) (by rw [e0]; exact Ar4.1) (State.isArrayOf_alike hZ.alike Ar4.2.1) Ar4.2.2 hin17_4 hat4 (g := (mkF m 17 L2 [(.int (0 : Int32)), (.ref a1), (.long (0 : Int64))])) rfl rfl (hb hby d1_17) _ k) ?_
    refine Gl.st (B := (s₁.setTop (mkF m 21 L2 [(.int (255 : Int32)), (.int el0), (.long (0 : Int64))]))) (fun t k => XS.sipush X0.here hx rfl (hb hby d1_18) k) ?_
    refine Gl.st (B := (s₁.setTop (mkF m 22 L2 [(.int (el0 &&& (255 : Int32))), (.long (0 : Int64))]))) (fun t k => XS.iand X0.here hx rfl (hb hby d1_21) rfl k) ?_
    refine Gl.st (B := (s₁.setTop (mkF m 23 L2 [(.long ((el0 &&& (255 : Int32)).toInt64)), (.long (0 : Int64))]))) (fun t k => XS.i2l X0.here hx rfl (hb hby d1_22) rfl k) ?_
    refine Gl.st (B := (s₁.setTop (mkF m 25 L2 [(.int (8 : Int32)), (.long ((el0 &&& (255 : Int32)).toInt64)), (.long (0 : Int64))]))) (fun t k => XS.bipush X0.here hx rfl (hb hby d1_23) k) ?_
    refine Gl.st (B := (s₁.setTop (mkF m 27 L2 [(.int (0 : Int32)), (.int (8 : Int32)), (.long ((el0 &&& (255 : Int32)).toInt64)), (.long (0 : Int64))]))) (fun t k => XS.iload X0.here hx rfl (hb hby d1_25) (ldAt hL2 rfl) k) ?_
    refine Gl.st (B := (s₁.setTop (mkF m 28 L2 [(.int (0 : Int32)), (.long ((el0 &&& (255 : Int32)).toInt64)), (.long (0 : Int64))]))) (fun t k => XS.imul X0.here hx rfl (hb hby d1_27) rfl k) ?_
    refine Gl.st (B := (s₁.setTop (mkF m 29 L2 [(.long (((el0 &&& (255 : Int32)).toInt64) <<< ((0 : Int32) &&& 0x3f).toInt64)), (.long (0 : Int64))]))) (fun t k => XS.lshl X0.here hx rfl (hb hby d1_28) rfl k) ?_
    refine Gl.st (B := (s₁.setTop (mkF m 30 L2 [(.long ((0 : Int64) ||| (((el0 &&& (255 : Int32)).toInt64) <<< ((0 : Int32) &&& 0x3f).toInt64)))]))) (fun t k => XS.lor X0.here hx rfl (hb hby d1_29) rfl k) ?_
    obtain ⟨y3_30_5, hy3_30_5⟩ : ∃ z : Int64, z = ((0 : Int64) ||| (((el0 &&& (255 : Int32)).toInt64) <<< ((0 : Int32) &&& 0x3f).toInt64)) := ⟨_, rfl⟩
    refine Gl.cast (B := (s₁.setTop (mkF m 30 L2 [(.long y3_30_5)]))) (by rw [hy3_30_5]) ?_
    obtain ⟨L6, hL6⟩ : ∃ z : Array Slot, z = #[.val (.ref a1), .val (.int (0 : Int32)), .val (.int p3), .val (.long y3_30_5), .second, .val (.int (0 : Int32))] := ⟨_, rfl⟩
    refine Gl.st (B := (s₁.setTop (mkF m 31 L6 []))) (fun t k => XS.lstoreN X0.here hx rfl (hb hby d1_30) rfl (l' := L6) (stAt hL2 hL6 rfl rfl) k) ?_
    obtain ⟨L7, hL7⟩ : ∃ z : Array Slot, z = #[.val (.ref a1), .val (.int (0 : Int32)), .val (.int p3), .val (.long y3_30_5), .second, .val (.int (1 : Int32))] := ⟨_, rfl⟩
    refine Gl.st (B := (s₁.setTop (mkF m 34 L7 []))) (fun t k => XS.iinc X0.here hx rfl (hb hby d1_31) (ldAt hL6 rfl) (l' := L7) (stAt' hL6 hL7 rfl rfl) k) ?_
    refine Gl.st (B := (s₁.setTop (mkF m 5 L7 []))) (fun t k => XS.goto X0.here hx rfl (pc0 := 34) (pc' := 5) rfl (hb hby d1_34) (by decide) (by decide) k) ?_
    refine Gl.st (B := (s₁.setTop (mkF m 7 L7 [(.int (1 : Int32))]))) (fun t k => XS.iload X0.here hx rfl (hb hby d1_5) (ldAt hL7 rfl) k) ?_
    refine Gl.st (B := (s₁.setTop (mkF m 8 L7 [(.int p3), (.int (1 : Int32))]))) (fun t k => XS.iloadN X0.here hx rfl (hb hby d1_7) (ldAt hL7 rfl) k) ?_
    by_cases hc8_8 : (1 : Int32) < p3
    · skip
      refine Gl.st (B := (s₁.setTop (mkF m 11 L7 []))) (fun t k => XS.icmpNo X0.here hx rfl (hb hby d1_8) rfl (tlt hc8_8).2.1 k) ?_
      refine Gl.st (B := (s₁.setTop (mkF m 12 L7 [(.long y3_30_5)]))) (fun t k => XS.lloadN X0.here hx rfl (hb hby d1_11) (ldAt hL7 rfl) k) ?_
      refine Gl.st (B := (s₁.setTop (mkF m 13 L7 [(.ref a1), (.long y3_30_5)]))) (fun t k => XS.aloadN X0.here hx rfl (hb hby d1_12) (ldAt hL7 rfl) rfl k) ?_
      refine Gl.st (B := (s₁.setTop (mkF m 14 L7 [(.int (0 : Int32)), (.ref a1), (.long y3_30_5)]))) (fun t k => XS.iloadN X0.here hx rfl (hb hby d1_13) (ldAt hL7 rfl) k) ?_
      refine Gl.st (B := (s₁.setTop (mkF m 16 L7 [(.int (1 : Int32)), (.int (0 : Int32)), (.ref a1), (.long y3_30_5)]))) (fun t k => XS.iload X0.here hx rfl (hb hby d1_14) (ldAt hL7 rfl) k) ?_
      refine Gl.st (B := (s₁.setTop (mkF m 17 L7 [(.int (1 : Int32)), (.ref a1), (.long y3_30_5)]))) (fun t k => XS.iadd X0.here hx rfl (hb hby d1_16) rfl k) ?_
      obtain ⟨cl9, Ar9, q9, S9, P9, H9, G9⟩ := (id V_a1)
      have hin17_9 : ¬ ((1 : Int32) < 0 ∨ cl9.slots.size ≤ ((1 : Int32)).toNatClampNeg) := inb_of S9 ⟨by decide, by decide⟩
      have hat9 := Has.at H9 hin17_9 (v := (.int el1)) rfl
      refine Gl.st (B := (s₁.setTop (mkF m 18 L7 [(.int el1), (.long y3_30_5)]))) (fun t k => X0.baloadBytes hx (j := (1 : Int32)) (v := (.int el1)) (by rw [e0]; exact Ar9.1) (State.isArrayOf_alike hZ.alike Ar9.2.1) Ar9.2.2 hin17_9 hat9 (g := (mkF m 17 L7 [(.int (1 : Int32)), (.ref a1), (.long y3_30_5)])) rfl rfl (hb hby d1_17) _ k) ?_
      refine Gl.st (B := (s₁.setTop (mkF m 21 L7 [(.int (255 : Int32)), (.int el1), (.long y3_30_5)]))) (fun t k => XS.sipush X0.here hx rfl (hb hby d1_18) k) ?_
      refine Gl.st (B := (s₁.setTop (mkF m 22 L7 [(.int (el1 &&& (255 : Int32))), (.long y3_30_5)]))) (fun t k => XS.iand X0.here hx rfl (hb hby d1_21) rfl k) ?_
      refine Gl.st (B := (s₁.setTop (mkF m 23 L7 [(.long ((el1 &&& (255 : Int32)).toInt64)), (.long y3_30_5)]))) (fun t k => XS.i2l X0.here hx rfl (hb hby d1_22) rfl k) ?_
      refine Gl.st (B := (s₁.setTop (mkF m 25 L7 [(.int (8 : Int32)), (.long ((el1 &&& (255 : Int32)).toInt64)), (.long y3_30_5)]))) (fun t k => XS.bipush X0.here hx rfl (hb hby d1_23) k) ?_
      refine Gl.st (B := (s₁.setTop (mkF m 27 L7 [(.int (1 : Int32)), (.int (8 : Int32)), (.long ((el1 &&& (255 : Int32)).toInt64)), (.long y3_30_5)]))) (fun t k => XS.iload X0.here hx rfl (hb hby d1_25) (ldAt hL7 rfl) k) ?_
      refine Gl.st (B := (s₁.setTop (mkF m 28 L7 [(.int (8 : Int32)), (.long ((el1 &&& (255 : Int32)).toInt64)), (.long y3_30_5)]))) (fun t k => XS.imul X0.here hx rfl (hb hby d1_27) rfl k) ?_
      refine Gl.st (B := (s₁.setTop (mkF m 29 L7 [(.long (((el1 &&& (255 : Int32)).toInt64) <<< ((8 : Int32) &&& 0x3f).toInt64)), (.long y3_30_5)]))) (fun t k => XS.lshl X0.here hx rfl (hb hby d1_28) rfl k) ?_
      refine Gl.st (B := (s₁.setTop (mkF m 30 L7 [(.long (y3_30_5 ||| (((el1 &&& (255 : Int32)).toInt64) <<< ((8 : Int32) &&& 0x3f).toInt64)))]))) (fun t k => XS.lor X0.here hx rfl (hb hby d1_29) rfl k) ?_
      obtain ⟨y3_30_10, hy3_30_10⟩ : ∃ z : Int64, z = (y3_30_5 ||| (((el1 &&& (255 : Int32)).toInt64) <<< ((8 : Int32) &&& 0x3f).toInt64)) := ⟨_, rfl⟩
      refine Gl.cast (B := (s₁.setTop (mkF m 30 L7 [(.long y3_30_10)]))) (by rw [hy3_30_10]) ?_
      obtain ⟨L11, hL11⟩ : ∃ z : Array Slot, z = #[.val (.ref a1), .val (.int (0 : Int32)), .val (.int p3), .val (.long y3_30_10), .second, .val (.int (1 : Int32))] := ⟨_, rfl⟩
      refine Gl.st (B := (s₁.setTop (mkF m 31 L11 []))) (fun t k => XS.lstoreN X0.here hx rfl (hb hby d1_30) rfl (l' := L11) (stAt hL7 hL11 rfl rfl) k) ?_
      obtain ⟨L12, hL12⟩ : ∃ z : Array Slot, z = #[.val (.ref a1), .val (.int (0 : Int32)), .val (.int p3), .val (.long y3_30_10), .second, .val (.int (2 : Int32))] := ⟨_, rfl⟩
      refine Gl.st (B := (s₁.setTop (mkF m 34 L12 []))) (fun t k => XS.iinc X0.here hx rfl (hb hby d1_31) (ldAt hL11 rfl) (l' := L12) (stAt' hL11 hL12 rfl rfl) k) ?_
      refine Gl.st (B := (s₁.setTop (mkF m 5 L12 []))) (fun t k => XS.goto X0.here hx rfl (pc0 := 34) (pc' := 5) rfl (hb hby d1_34) (by decide) (by decide) k) ?_
      refine Gl.st (B := (s₁.setTop (mkF m 7 L12 [(.int (2 : Int32))]))) (fun t k => XS.iload X0.here hx rfl (hb hby d1_5) (ldAt hL12 rfl) k) ?_
      refine Gl.st (B := (s₁.setTop (mkF m 8 L12 [(.int p3), (.int (2 : Int32))]))) (fun t k => XS.iloadN X0.here hx rfl (hb hby d1_7) (ldAt hL12 rfl) k) ?_
      by_cases hc8_13 : (2 : Int32) < p3
      · skip
        refine Gl.st (B := (s₁.setTop (mkF m 11 L12 []))) (fun t k => XS.icmpNo X0.here hx rfl (hb hby d1_8) rfl (tlt hc8_13).2.1 k) ?_
        refine Gl.st (B := (s₁.setTop (mkF m 12 L12 [(.long y3_30_10)]))) (fun t k => XS.lloadN X0.here hx rfl (hb hby d1_11) (ldAt hL12 rfl) k) ?_
        refine Gl.st (B := (s₁.setTop (mkF m 13 L12 [(.ref a1), (.long y3_30_10)]))) (fun t k => XS.aloadN X0.here hx rfl (hb hby d1_12) (ldAt hL12 rfl) rfl k) ?_
        refine Gl.st (B := (s₁.setTop (mkF m 14 L12 [(.int (0 : Int32)), (.ref a1), (.long y3_30_10)]))) (fun t k => XS.iloadN X0.here hx rfl (hb hby d1_13) (ldAt hL12 rfl) k) ?_
        refine Gl.st (B := (s₁.setTop (mkF m 16 L12 [(.int (2 : Int32)), (.int (0 : Int32)), (.ref a1), (.long y3_30_10)]))) (fun t k => XS.iload X0.here hx rfl (hb hby d1_14) (ldAt hL12 rfl) k) ?_
        refine Gl.st (B := (s₁.setTop (mkF m 17 L12 [(.int (2 : Int32)), (.ref a1), (.long y3_30_10)]))) (fun t k => XS.iadd X0.here hx rfl (hb hby d1_16) rfl k) ?_
        obtain ⟨cl14, Ar14, q14, S14, P14, H14, G14⟩ := (id V_a1)
        have hin17_14 : ¬ ((2 : Int32) < 0 ∨ cl14.slots.size ≤ ((2 : Int32)).toNatClampNeg) := inb_of S14 ⟨by decide, by decide⟩
        have hat14 := Has.at H14 hin17_14 (v := (.int el2)) rfl
        refine Gl.st (B := (s₁.setTop (mkF m 18 L12 [(.int el2), (.long y3_30_10)]))) (fun t k => X0.baloadBytes hx (j := (2 : Int32)) (v := (.int el2)) (by rw [e0]; exact Ar14.1) (State.isArrayOf_alike hZ.alike Ar14.2.1) Ar14.2.2 hin17_14 hat14 (g := (mkF m 17 L12 [(.int (2 : Int32)), (.ref a1), (.long y3_30_10)])) rfl rfl (hb hby d1_17) _ k) ?_
        refine Gl.st (B := (s₁.setTop (mkF m 21 L12 [(.int (255 : Int32)), (.int el2), (.long y3_30_10)]))) (fun t k => XS.sipush X0.here hx rfl (hb hby d1_18) k) ?_
        refine Gl.st (B := (s₁.setTop (mkF m 22 L12 [(.int (el2 &&& (255 : Int32))), (.long y3_30_10)]))) (fun t k => XS.iand X0.here hx rfl (hb hby d1_21) rfl k) ?_
        refine Gl.st (B := (s₁.setTop (mkF m 23 L12 [(.long ((el2 &&& (255 : Int32)).toInt64)), (.long y3_30_10)]))) (fun t k => XS.i2l X0.here hx rfl (hb hby d1_22) rfl k) ?_
        refine Gl.st (B := (s₁.setTop (mkF m 25 L12 [(.int (8 : Int32)), (.long ((el2 &&& (255 : Int32)).toInt64)), (.long y3_30_10)]))) (fun t k => XS.bipush X0.here hx rfl (hb hby d1_23) k) ?_
        refine Gl.st (B := (s₁.setTop (mkF m 27 L12 [(.int (2 : Int32)), (.int (8 : Int32)), (.long ((el2 &&& (255 : Int32)).toInt64)), (.long y3_30_10)]))) (fun t k => XS.iload X0.here hx rfl (hb hby d1_25) (ldAt hL12 rfl) k) ?_
        refine Gl.st (B := (s₁.setTop (mkF m 28 L12 [(.int (16 : Int32)), (.long ((el2 &&& (255 : Int32)).toInt64)), (.long y3_30_10)]))) (fun t k => XS.imul X0.here hx rfl (hb hby d1_27) rfl k) ?_
        refine Gl.st (B := (s₁.setTop (mkF m 29 L12 [(.long (((el2 &&& (255 : Int32)).toInt64) <<< ((16 : Int32) &&& 0x3f).toInt64)), (.long y3_30_10)]))) (fun t k => XS.lshl X0.here hx rfl (hb hby d1_28) rfl k) ?_
        refine Gl.st (B := (s₁.setTop (mkF m 30 L12 [(.long (y3_30_10 ||| (((el2 &&& (255 : Int32)).toInt64) <<< ((16 : Int32) &&& 0x3f).toInt64)))]))) (fun t k => XS.lor X0.here hx rfl (hb hby d1_29) rfl k) ?_
        obtain ⟨y3_30_15, hy3_30_15⟩ : ∃ z : Int64, z = (y3_30_10 ||| (((el2 &&& (255 : Int32)).toInt64) <<< ((16 : Int32) &&& 0x3f).toInt64)) := ⟨_, rfl⟩
        refine Gl.cast (B := (s₁.setTop (mkF m 30 L12 [(.long y3_30_15)]))) (by rw [hy3_30_15]) ?_
        obtain ⟨L16, hL16⟩ : ∃ z : Array Slot, z = #[.val (.ref a1), .val (.int (0 : Int32)), .val (.int p3), .val (.long y3_30_15), .second, .val (.int (2 : Int32))] := ⟨_, rfl⟩
        refine Gl.st (B := (s₁.setTop (mkF m 31 L16 []))) (fun t k => XS.lstoreN X0.here hx rfl (hb hby d1_30) rfl (l' := L16) (stAt hL12 hL16 rfl rfl) k) ?_
        obtain ⟨L17, hL17⟩ : ∃ z : Array Slot, z = #[.val (.ref a1), .val (.int (0 : Int32)), .val (.int p3), .val (.long y3_30_15), .second, .val (.int (3 : Int32))] := ⟨_, rfl⟩
        refine Gl.st (B := (s₁.setTop (mkF m 34 L17 []))) (fun t k => XS.iinc X0.here hx rfl (hb hby d1_31) (ldAt hL16 rfl) (l' := L17) (stAt' hL16 hL17 rfl rfl) k) ?_
        refine Gl.st (B := (s₁.setTop (mkF m 5 L17 []))) (fun t k => XS.goto X0.here hx rfl (pc0 := 34) (pc' := 5) rfl (hb hby d1_34) (by decide) (by decide) k) ?_
        refine Gl.st (B := (s₁.setTop (mkF m 7 L17 [(.int (3 : Int32))]))) (fun t k => XS.iload X0.here hx rfl (hb hby d1_5) (ldAt hL17 rfl) k) ?_
        refine Gl.st (B := (s₁.setTop (mkF m 8 L17 [(.int p3), (.int (3 : Int32))]))) (fun t k => XS.iloadN X0.here hx rfl (hb hby d1_7) (ldAt hL17 rfl) k) ?_
        by_cases hc8_18 : (3 : Int32) < p3
        · skip
          refine Gl.st (B := (s₁.setTop (mkF m 11 L17 []))) (fun t k => XS.icmpNo X0.here hx rfl (hb hby d1_8) rfl (tlt hc8_18).2.1 k) ?_
          refine Gl.st (B := (s₁.setTop (mkF m 12 L17 [(.long y3_30_15)]))) (fun t k => XS.lloadN X0.here hx rfl (hb hby d1_11) (ldAt hL17 rfl) k) ?_
          refine Gl.st (B := (s₁.setTop (mkF m 13 L17 [(.ref a1), (.long y3_30_15)]))) (fun t k => XS.aloadN X0.here hx rfl (hb hby d1_12) (ldAt hL17 rfl) rfl k) ?_
          refine Gl.st (B := (s₁.setTop (mkF m 14 L17 [(.int (0 : Int32)), (.ref a1), (.long y3_30_15)]))) (fun t k => XS.iloadN X0.here hx rfl (hb hby d1_13) (ldAt hL17 rfl) k) ?_
          refine Gl.st (B := (s₁.setTop (mkF m 16 L17 [(.int (3 : Int32)), (.int (0 : Int32)), (.ref a1), (.long y3_30_15)]))) (fun t k => XS.iload X0.here hx rfl (hb hby d1_14) (ldAt hL17 rfl) k) ?_
          refine Gl.st (B := (s₁.setTop (mkF m 17 L17 [(.int (3 : Int32)), (.ref a1), (.long y3_30_15)]))) (fun t k => XS.iadd X0.here hx rfl (hb hby d1_16) rfl k) ?_
          obtain ⟨cl19, Ar19, q19, S19, P19, H19, G19⟩ := (id V_a1)
          have hin17_19 : ¬ ((3 : Int32) < 0 ∨ cl19.slots.size ≤ ((3 : Int32)).toNatClampNeg) := inb_of S19 ⟨by decide, by decide⟩
          have hat19 := Has.at H19 hin17_19 (v := (.int el3)) rfl
          refine Gl.st (B := (s₁.setTop (mkF m 18 L17 [(.int el3), (.long y3_30_15)]))) (fun t k => X0.baloadBytes hx (j := (3 : Int32)) (v := (.int el3)) (by rw [e0]; exact Ar19.1) (State.isArrayOf_alike hZ.alike Ar19.2.1) Ar19.2.2 hin17_19 hat19 (g := (mkF m 17 L17 [(.int (3 : Int32)), (.ref a1), (.long y3_30_15)])) rfl rfl (hb hby d1_17) _ k) ?_
          refine Gl.st (B := (s₁.setTop (mkF m 21 L17 [(.int (255 : Int32)), (.int el3), (.long y3_30_15)]))) (fun t k => XS.sipush X0.here hx rfl (hb hby d1_18) k) ?_
          refine Gl.st (B := (s₁.setTop (mkF m 22 L17 [(.int (el3 &&& (255 : Int32))), (.long y3_30_15)]))) (fun t k => XS.iand X0.here hx rfl (hb hby d1_21) rfl k) ?_
          refine Gl.st (B := (s₁.setTop (mkF m 23 L17 [(.long ((el3 &&& (255 : Int32)).toInt64)), (.long y3_30_15)]))) (fun t k => XS.i2l X0.here hx rfl (hb hby d1_22) rfl k) ?_
          refine Gl.st (B := (s₁.setTop (mkF m 25 L17 [(.int (8 : Int32)), (.long ((el3 &&& (255 : Int32)).toInt64)), (.long y3_30_15)]))) (fun t k => XS.bipush X0.here hx rfl (hb hby d1_23) k) ?_
          refine Gl.st (B := (s₁.setTop (mkF m 27 L17 [(.int (3 : Int32)), (.int (8 : Int32)), (.long ((el3 &&& (255 : Int32)).toInt64)), (.long y3_30_15)]))) (fun t k => XS.iload X0.here hx rfl (hb hby d1_25) (ldAt hL17 rfl) k) ?_
          refine Gl.st (B := (s₁.setTop (mkF m 28 L17 [(.int (24 : Int32)), (.long ((el3 &&& (255 : Int32)).toInt64)), (.long y3_30_15)]))) (fun t k => XS.imul X0.here hx rfl (hb hby d1_27) rfl k) ?_
          refine Gl.st (B := (s₁.setTop (mkF m 29 L17 [(.long (((el3 &&& (255 : Int32)).toInt64) <<< ((24 : Int32) &&& 0x3f).toInt64)), (.long y3_30_15)]))) (fun t k => XS.lshl X0.here hx rfl (hb hby d1_28) rfl k) ?_
          refine Gl.st (B := (s₁.setTop (mkF m 30 L17 [(.long (y3_30_15 ||| (((el3 &&& (255 : Int32)).toInt64) <<< ((24 : Int32) &&& 0x3f).toInt64)))]))) (fun t k => XS.lor X0.here hx rfl (hb hby d1_29) rfl k) ?_
          obtain ⟨y3_30_20, hy3_30_20⟩ : ∃ z : Int64, z = (y3_30_15 ||| (((el3 &&& (255 : Int32)).toInt64) <<< ((24 : Int32) &&& 0x3f).toInt64)) := ⟨_, rfl⟩
          refine Gl.cast (B := (s₁.setTop (mkF m 30 L17 [(.long y3_30_20)]))) (by rw [hy3_30_20]) ?_
          obtain ⟨L21, hL21⟩ : ∃ z : Array Slot, z = #[.val (.ref a1), .val (.int (0 : Int32)), .val (.int p3), .val (.long y3_30_20), .second, .val (.int (3 : Int32))] := ⟨_, rfl⟩
          refine Gl.st (B := (s₁.setTop (mkF m 31 L21 []))) (fun t k => XS.lstoreN X0.here hx rfl (hb hby d1_30) rfl (l' := L21) (stAt hL17 hL21 rfl rfl) k) ?_
          obtain ⟨L22, hL22⟩ : ∃ z : Array Slot, z = #[.val (.ref a1), .val (.int (0 : Int32)), .val (.int p3), .val (.long y3_30_20), .second, .val (.int (4 : Int32))] := ⟨_, rfl⟩
          refine Gl.st (B := (s₁.setTop (mkF m 34 L22 []))) (fun t k => XS.iinc X0.here hx rfl (hb hby d1_31) (ldAt hL21 rfl) (l' := L22) (stAt' hL21 hL22 rfl rfl) k) ?_
          refine Gl.st (B := (s₁.setTop (mkF m 5 L22 []))) (fun t k => XS.goto X0.here hx rfl (pc0 := 34) (pc' := 5) rfl (hb hby d1_34) (by decide) (by decide) k) ?_
          refine Gl.st (B := (s₁.setTop (mkF m 7 L22 [(.int (4 : Int32))]))) (fun t k => XS.iload X0.here hx rfl (hb hby d1_5) (ldAt hL22 rfl) k) ?_
          refine Gl.st (B := (s₁.setTop (mkF m 8 L22 [(.int p3), (.int (4 : Int32))]))) (fun t k => XS.iloadN X0.here hx rfl (hb hby d1_7) (ldAt hL22 rfl) k) ?_
          refine Gl.st (B := (s₁.setTop (mkF m 37 L22 []))) (fun t k => XS.icmpYes X0.here hx rfl (pc0 := 8) (pc' := 37) rfl (hb hby d1_8) rfl (flt hq8_5).2.1 (by decide) (by decide) k) ?_
          refine Gl.st (B := (s₁.setTop (mkF m 38 L22 [(.long y3_30_20)]))) (fun t k => XS.lloadN X0.here hx rfl (hb hby d1_37) (ldAt hL22 rfl) k) ?_
          obtain ⟨fs, hr, hrun, hended, hW, hsame⟩ := X0.leave (v := some (.long y3_30_20)) (fun h => by rw [Bd.returns] at h; cases h)
          refine Gl.fin (X0.lreturnOut hx Bd.returns (hb hby d1_38) hr) hrun hended ⟨_, _, rfl, ?_, ⟨_, rfl⟩, hW, hsame.mono (by decide) (by decide)⟩
          show Q1o0 Z a1 p3 kx_a1 el0 el1 el2 el3 el4 el5 el6 el7 h0 n0 _ s₁.heap _
          rw [e0]
          exact ⟨(by subst hy3_30_20; subst hy3_30_15; subst hy3_30_10; subst hy3_30_5; rw [if_pos hc8_3, if_pos hc8_8, if_pos hc8_13, if_pos hc8_18]), N0, rfl⟩
        · skip
          refine Gl.st (B := (s₁.setTop (mkF m 37 L17 []))) (fun t k => XS.icmpYes X0.here hx rfl (pc0 := 8) (pc' := 37) rfl (hb hby d1_8) rfl (flt hc8_18).2.1 (by decide) (by decide) k) ?_
          refine Gl.st (B := (s₁.setTop (mkF m 38 L17 [(.long y3_30_15)]))) (fun t k => XS.lloadN X0.here hx rfl (hb hby d1_37) (ldAt hL17 rfl) k) ?_
          obtain ⟨fs, hr, hrun, hended, hW, hsame⟩ := X0.leave (v := some (.long y3_30_15)) (fun h => by rw [Bd.returns] at h; cases h)
          refine Gl.fin (X0.lreturnOut hx Bd.returns (hb hby d1_38) hr) hrun hended ⟨_, _, rfl, ?_, ⟨_, rfl⟩, hW, hsame.mono (by decide) (by decide)⟩
          show Q1o0 Z a1 p3 kx_a1 el0 el1 el2 el3 el4 el5 el6 el7 h0 n0 _ s₁.heap _
          rw [e0]
          exact ⟨(by subst hy3_30_15; subst hy3_30_10; subst hy3_30_5; rw [if_pos hc8_3, if_pos hc8_8, if_pos hc8_13, if_neg hc8_18]), N0, rfl⟩
      · skip
        refine Gl.st (B := (s₁.setTop (mkF m 37 L12 []))) (fun t k => XS.icmpYes X0.here hx rfl (pc0 := 8) (pc' := 37) rfl (hb hby d1_8) rfl (flt hc8_13).2.1 (by decide) (by decide) k) ?_
        refine Gl.st (B := (s₁.setTop (mkF m 38 L12 [(.long y3_30_10)]))) (fun t k => XS.lloadN X0.here hx rfl (hb hby d1_37) (ldAt hL12 rfl) k) ?_
        obtain ⟨fs, hr, hrun, hended, hW, hsame⟩ := X0.leave (v := some (.long y3_30_10)) (fun h => by rw [Bd.returns] at h; cases h)
        refine Gl.fin (X0.lreturnOut hx Bd.returns (hb hby d1_38) hr) hrun hended ⟨_, _, rfl, ?_, ⟨_, rfl⟩, hW, hsame.mono (by decide) (by decide)⟩
        show Q1o0 Z a1 p3 kx_a1 el0 el1 el2 el3 el4 el5 el6 el7 h0 n0 _ s₁.heap _
        rw [e0]
        exact ⟨(by subst hy3_30_10; subst hy3_30_5; rw [if_pos hc8_3, if_pos hc8_8, if_neg hc8_13]), N0, rfl⟩
    · skip
      refine Gl.st (B := (s₁.setTop (mkF m 37 L7 []))) (fun t k => XS.icmpYes X0.here hx rfl (pc0 := 8) (pc' := 37) rfl (hb hby d1_8) rfl (flt hc8_8).2.1 (by decide) (by decide) k) ?_
      refine Gl.st (B := (s₁.setTop (mkF m 38 L7 [(.long y3_30_5)]))) (fun t k => XS.lloadN X0.here hx rfl (hb hby d1_37) (ldAt hL7 rfl) k) ?_
      obtain ⟨fs, hr, hrun, hended, hW, hsame⟩ := X0.leave (v := some (.long y3_30_5)) (fun h => by rw [Bd.returns] at h; cases h)
      refine Gl.fin (X0.lreturnOut hx Bd.returns (hb hby d1_38) hr) hrun hended ⟨_, _, rfl, ?_, ⟨_, rfl⟩, hW, hsame.mono (by decide) (by decide)⟩
      show Q1o0 Z a1 p3 kx_a1 el0 el1 el2 el3 el4 el5 el6 el7 h0 n0 _ s₁.heap _
      rw [e0]
      exact ⟨(by subst hy3_30_5; rw [if_pos hc8_3, if_neg hc8_8]), N0, rfl⟩
  · skip
    refine Gl.st (B := (s₁.setTop (mkF m 37 L2 []))) (fun t k => XS.icmpYes X0.here hx rfl (pc0 := 8) (pc' := 37) rfl (hb hby d1_8) rfl (flt hc8_3).2.1 (by decide) (by decide) k) ?_
    refine Gl.st (B := (s₁.setTop (mkF m 38 L2 [(.long (0 : Int64))]))) (fun t k => XS.lloadN X0.here hx rfl (hb hby d1_37) (ldAt hL2 rfl) k) ?_
    obtain ⟨fs, hr, hrun, hended, hW, hsame⟩ := X0.leave (v := some (.long (0 : Int64))) (fun h => by rw [Bd.returns] at h; cases h)
    refine Gl.fin (X0.lreturnOut hx Bd.returns (hb hby d1_38) hr) hrun hended ⟨_, _, rfl, ?_, ⟨_, rfl⟩, hW, hsame.mono (by decide) (by decide)⟩
    show Q1o0 Z a1 p3 kx_a1 el0 el1 el2 el3 el4 el5 el6 el7 h0 n0 _ s₁.heap _
    rw [e0]
    exact ⟨(by rw [if_neg hc8_3]), N0, rfl⟩
theorem ef_1o1 (m : MethodId) (a1 : Addr) (p3 : Int32) : entryFrame m #[(.ref a1), (.int (1 : Int32)), (.int p3)] 6 = mkF m 0 #[.val (.ref a1), .val (.int (1 : Int32)), .val (.int p3), .unset, .unset, .unset] [] := by first | (simp [entryFrame, mkF, argsToLocals, Value.category]; done) | rfl
def Q1o1 (Z : State) (a1 : Addr) (p3 : Int32) (kx_a1 : ClassId) (el0 : Int32) (el1 : Int32) (el2 : Int32) (el3 : Int32) (el4 : Int32) (el5 : Int32) (el6 : Int32) (el7 : Int32) (h0 : Heap) (n0 : Nat) (v : Option Value) (h : Heap) (L : List Loc) : Prop := v = some (.long (if (0 : Int32) < p3 then (if (1 : Int32) < p3 then (if (2 : Int32) < p3 then (if (3 : Int32) < p3 then (((((((((0 : Int64) ||| (((el1 &&& (255 : Int32)).toInt64) <<< ((0 : Int32) &&& 0x3f).toInt64))) ||| (((el2 &&& (255 : Int32)).toInt64) <<< ((8 : Int32) &&& 0x3f).toInt64))) ||| (((el3 &&& (255 : Int32)).toInt64) <<< ((16 : Int32) &&& 0x3f).toInt64))) ||| (((el4 &&& (255 : Int32)).toInt64) <<< ((24 : Int32) &&& 0x3f).toInt64))) else (((((((0 : Int64) ||| (((el1 &&& (255 : Int32)).toInt64) <<< ((0 : Int32) &&& 0x3f).toInt64))) ||| (((el2 &&& (255 : Int32)).toInt64) <<< ((8 : Int32) &&& 0x3f).toInt64))) ||| (((el3 &&& (255 : Int32)).toInt64) <<< ((16 : Int32) &&& 0x3f).toInt64)))) else (((((0 : Int64) ||| (((el1 &&& (255 : Int32)).toInt64) <<< ((0 : Int32) &&& 0x3f).toInt64))) ||| (((el2 &&& (255 : Int32)).toInt64) <<< ((8 : Int32) &&& 0x3f).toInt64)))) else (((0 : Int64) ||| (((el1 &&& (255 : Int32)).toInt64) <<< ((0 : Int32) &&& 0x3f).toInt64)))) else (0 : Int64))) ∧ Fr n0 L ∧ h = h0
set_option maxRecDepth 65536 in
set_option maxHeartbeats 40000000 in
theorem rm1o1 (l : Launch) (Z : State) (a0 : Array Value) (hw : ∀ d ∈ tables_1, d.before a0 Z = true) (ws : List Jvm.Cond) (a1 : Addr) (p3 : Int32) (kx_a1 : ClassId) (el0 : Int32) (el1 : Int32) (el2 : Int32) (el3 : Int32) (el4 : Int32) (el5 : Int32) (el6 : Int32) (el7 : Int32) (h0 : Heap) (n0 : Nat) (Z0 : n0 ≤ h0.size) (V_a1 : Arv Z h0 a1 kx_a1 .byte (8 : Int32) [(.int el0), (.int el1), (.int el2), (.int el3), (.int el4), (.int el5), (.int el6), (.int el7)] (.int (0 : Int32))) (hq8_5 : ¬ ((4 : Int32) < p3)) :
    MetFree l (⟨"com/example/requeue/requeue/connection/SnappyBlock", "readLittleEndian", "([BII)J"⟩ : MethodName) (head1 (Jvm.Cond.code (⟨"com/example/requeue/requeue/connection/SnappyBlock", "readLittleEndian", "([BII)J"⟩ : MethodName) prog_8_method_7_code 6 (some .long) :: ws) ({ frames := 0, cells := 0, slots := 0, locals := 0 } : Room)) (fun a U => a = #[(.ref a1), (.int (1 : Int32)), (.int p3)] ∧ Z.Warmed39 U.vm ∧ U.heap = h0) (fun _ _ _ _ _ => True) (fun _ U o U' => ∃ v L, o = .returned v ∧ Q1o1 Z a1 p3 kx_a1 el0 el1 el2 el3 el4 el5 el6 el7 h0 n0 v U'.heap L ∧ FrameEnd U o U' L ({ frames := 0, cells := 0, slots := 0, locals := 0 } : Room).cells ({ frames := 0, cells := 0, slots := 0, locals := 0 } : Room).slots) := by
  refine MetFree.of_bodySF (plainFor_of_name pn_1) hisR ?_
  intro p e s m args below meth c s₁ Bd hml0 hP hK
  obtain ⟨rfl, hZ, hh⟩ := hP
  have hx := Bd.exec
  have hby := Bd.bytes
  have hml : c.maxLocals = 6 := hml0
  have hown : s.vm.findClass "com/example/requeue/requeue/connection/SnappyBlock" = some m.cls := findClass_of_methodNamed Bd.named
  have hnm := (name_of_methodNamed Bd.named Bd.method).1
  have X0 : Stand p l e ({ frames := 0, cells := 0, slots := 0, locals := 0 } : Room) s m #[(.ref a1), (.int (1 : Int32)), (.int p3)] below meth c s₁ [] 0 0 := Stand.of_body Bd
  have e0 : s₁.heap = h0 := by rw [← hh, Bd.state]; rfl
  have N0 := Fr.nil n0
  have K0 : Keep h0 h0 [] := Keep.refl h0 _
  refine (show Gl p e below (fun o U' => ∃ v L, o = .returned v ∧ Q1o1 Z a1 p3 kx_a1 el0 el1 el2 el3 el4 el5 el6 el7 h0 n0 v U'.heap L ∧ FrameEnd s o U' L ({ frames := 0, cells := 0, slots := 0, locals := 0 } : Room).cells ({ frames := 0, cells := 0, slots := 0, locals := 0 } : Room).slots) (s₁.setTop (entryFrame m #[(.ref a1), (.int (1 : Int32)), (.int p3)] 6)) from ?_)
  obtain ⟨L0, hL0⟩ : ∃ z : Array Slot, z = #[.val (.ref a1), .val (.int (1 : Int32)), .val (.int p3), .unset, .unset, .unset] := ⟨_, rfl⟩
  refine Gl.st (B := (s₁.setTop (mkF m 0 L0 []))) (fun t k => castTop (efAt hL0 (ef_1o1 m a1 p3)) k) ?_
  refine Gl.st (B := (s₁.setTop (mkF m 1 L0 [(.long (0 : Int64))]))) (fun t k => XS.lconst X0.here hx rfl (hb hby d1_0) k) ?_
  obtain ⟨L1, hL1⟩ : ∃ z : Array Slot, z = #[.val (.ref a1), .val (.int (1 : Int32)), .val (.int p3), .val (.long (0 : Int64)), .second, .unset] := ⟨_, rfl⟩
  refine Gl.st (B := (s₁.setTop (mkF m 2 L1 []))) (fun t k => XS.lstoreN X0.here hx rfl (hb hby d1_1) rfl (l' := L1) (stAt hL0 hL1 rfl rfl) k) ?_
  refine Gl.st (B := (s₁.setTop (mkF m 3 L1 [(.int (0 : Int32))]))) (fun t k => XS.iconst X0.here hx rfl (hb hby d1_2) k) ?_
  obtain ⟨L2, hL2⟩ : ∃ z : Array Slot, z = #[.val (.ref a1), .val (.int (1 : Int32)), .val (.int p3), .val (.long (0 : Int64)), .second, .val (.int (0 : Int32))] := ⟨_, rfl⟩
  refine Gl.st (B := (s₁.setTop (mkF m 5 L2 []))) (fun t k => XS.istore X0.here hx rfl (hb hby d1_3) rfl (l' := L2) (stAt hL1 hL2 rfl rfl) k) ?_
  refine Gl.st (B := (s₁.setTop (mkF m 7 L2 [(.int (0 : Int32))]))) (fun t k => XS.iload X0.here hx rfl (hb hby d1_5) (ldAt hL2 rfl) k) ?_
  refine Gl.st (B := (s₁.setTop (mkF m 8 L2 [(.int p3), (.int (0 : Int32))]))) (fun t k => XS.iloadN X0.here hx rfl (hb hby d1_7) (ldAt hL2 rfl) k) ?_
  by_cases hc8_3 : (0 : Int32) < p3
  · skip
    refine Gl.st (B := (s₁.setTop (mkF m 11 L2 []))) (fun t k => XS.icmpNo X0.here hx rfl (hb hby d1_8) rfl (tlt hc8_3).2.1 k) ?_
    refine Gl.st (B := (s₁.setTop (mkF m 12 L2 [(.long (0 : Int64))]))) (fun t k => XS.lloadN X0.here hx rfl (hb hby d1_11) (ldAt hL2 rfl) k) ?_
    refine Gl.st (B := (s₁.setTop (mkF m 13 L2 [(.ref a1), (.long (0 : Int64))]))) (fun t k => XS.aloadN X0.here hx rfl (hb hby d1_12) (ldAt hL2 rfl) rfl k) ?_
    refine Gl.st (B := (s₁.setTop (mkF m 14 L2 [(.int (1 : Int32)), (.ref a1), (.long (0 : Int64))]))) (fun t k => XS.iloadN X0.here hx rfl (hb hby d1_13) (ldAt hL2 rfl) k) ?_
    refine Gl.st (B := (s₁.setTop (mkF m 16 L2 [(.int (0 : Int32)), (.int (1 : Int32)), (.ref a1), (.long (0 : Int64))]))) (fun t k => XS.iload X0.here hx rfl (hb hby d1_14) (ldAt hL2 rfl) k) ?_
    refine Gl.st (B := (s₁.setTop (mkF m 17 L2 [(.int (1 : Int32)), (.ref a1), (.long (0 : Int64))]))) (fun t k => XS.iadd X0.here hx rfl (hb hby d1_16) rfl k) ?_
    obtain ⟨cl4, Ar4, q4, S4, P4, H4, G4⟩ := (id V_a1)
    have hin17_4 : ¬ ((1 : Int32) < 0 ∨ cl4.slots.size ≤ ((1 : Int32)).toNatClampNeg) := inb_of S4 ⟨by decide, by decide⟩
    have hat4 := Has.at H4 hin17_4 (v := (.int el1)) rfl
    refine Gl.st (B := (s₁.setTop (mkF m 18 L2 [(.int el1), (.long (0 : Int64))]))) (fun t k => X0.baloadBytes hx (j := (1 : Int32)) (v := (.int el1)) (by rw [e0]; exact Ar4.1) (State.isArrayOf_alike hZ.alike Ar4.2.1) Ar4.2.2 hin17_4 hat4 (g := (mkF m 17 L2 [(.int (1 : Int32)), (.ref a1), (.long (0 : Int64))])) rfl rfl (hb hby d1_17) _ k) ?_
    refine Gl.st (B := (s₁.setTop (mkF m 21 L2 [(.int (255 : Int32)), (.int el1), (.long (0 : Int64))]))) (fun t k => XS.sipush X0.here hx rfl (hb hby d1_18) k) ?_
    refine Gl.st (B := (s₁.setTop (mkF m 22 L2 [(.int (el1 &&& (255 : Int32))), (.long (0 : Int64))]))) (fun t k => XS.iand X0.here hx rfl (hb hby d1_21) rfl k) ?_
    refine Gl.st (B := (s₁.setTop (mkF m 23 L2 [(.long ((el1 &&& (255 : Int32)).toInt64)), (.long (0 : Int64))]))) (fun t k => XS.i2l X0.here hx rfl (hb hby d1_22) rfl k) ?_
    refine Gl.st (B := (s₁.setTop (mkF m 25 L2 [(.int (8 : Int32)), (.long ((el1 &&& (255 : Int32)).toInt64)), (.long (0 : Int64))]))) (fun t k => XS.bipush X0.here hx rfl (hb hby d1_23) k) ?_
    refine Gl.st (B := (s₁.setTop (mkF m 27 L2 [(.int (0 : Int32)), (.int (8 : Int32)), (.long ((el1 &&& (255 : Int32)).toInt64)), (.long (0 : Int64))]))) (fun t k => XS.iload X0.here hx rfl (hb hby d1_25) (ldAt hL2 rfl) k) ?_
    refine Gl.st (B := (s₁.setTop (mkF m 28 L2 [(.int (0 : Int32)), (.long ((el1 &&& (255 : Int32)).toInt64)), (.long (0 : Int64))]))) (fun t k => XS.imul X0.here hx rfl (hb hby d1_27) rfl k) ?_
    refine Gl.st (B := (s₁.setTop (mkF m 29 L2 [(.long (((el1 &&& (255 : Int32)).toInt64) <<< ((0 : Int32) &&& 0x3f).toInt64)), (.long (0 : Int64))]))) (fun t k => XS.lshl X0.here hx rfl (hb hby d1_28) rfl k) ?_
    refine Gl.st (B := (s₁.setTop (mkF m 30 L2 [(.long ((0 : Int64) ||| (((el1 &&& (255 : Int32)).toInt64) <<< ((0 : Int32) &&& 0x3f).toInt64)))]))) (fun t k => XS.lor X0.here hx rfl (hb hby d1_29) rfl k) ?_
    obtain ⟨y3_30_5, hy3_30_5⟩ : ∃ z : Int64, z = ((0 : Int64) ||| (((el1 &&& (255 : Int32)).toInt64) <<< ((0 : Int32) &&& 0x3f).toInt64)) := ⟨_, rfl⟩
    refine Gl.cast (B := (s₁.setTop (mkF m 30 L2 [(.long y3_30_5)]))) (by rw [hy3_30_5]) ?_
    obtain ⟨L6, hL6⟩ : ∃ z : Array Slot, z = #[.val (.ref a1), .val (.int (1 : Int32)), .val (.int p3), .val (.long y3_30_5), .second, .val (.int (0 : Int32))] := ⟨_, rfl⟩
    refine Gl.st (B := (s₁.setTop (mkF m 31 L6 []))) (fun t k => XS.lstoreN X0.here hx rfl (hb hby d1_30) rfl (l' := L6) (stAt hL2 hL6 rfl rfl) k) ?_
    obtain ⟨L7, hL7⟩ : ∃ z : Array Slot, z = #[.val (.ref a1), .val (.int (1 : Int32)), .val (.int p3), .val (.long y3_30_5), .second, .val (.int (1 : Int32))] := ⟨_, rfl⟩
    refine Gl.st (B := (s₁.setTop (mkF m 34 L7 []))) (fun t k => XS.iinc X0.here hx rfl (hb hby d1_31) (ldAt hL6 rfl) (l' := L7) (stAt' hL6 hL7 rfl rfl) k) ?_
    refine Gl.st (B := (s₁.setTop (mkF m 5 L7 []))) (fun t k => XS.goto X0.here hx rfl (pc0 := 34) (pc' := 5) rfl (hb hby d1_34) (by decide) (by decide) k) ?_
    refine Gl.st (B := (s₁.setTop (mkF m 7 L7 [(.int (1 : Int32))]))) (fun t k => XS.iload X0.here hx rfl (hb hby d1_5) (ldAt hL7 rfl) k) ?_
    refine Gl.st (B := (s₁.setTop (mkF m 8 L7 [(.int p3), (.int (1 : Int32))]))) (fun t k => XS.iloadN X0.here hx rfl (hb hby d1_7) (ldAt hL7 rfl) k) ?_
    by_cases hc8_8 : (1 : Int32) < p3
    · skip
      refine Gl.st (B := (s₁.setTop (mkF m 11 L7 []))) (fun t k => XS.icmpNo X0.here hx rfl (hb hby d1_8) rfl (tlt hc8_8).2.1 k) ?_
      refine Gl.st (B := (s₁.setTop (mkF m 12 L7 [(.long y3_30_5)]))) (fun t k => XS.lloadN X0.here hx rfl (hb hby d1_11) (ldAt hL7 rfl) k) ?_
      refine Gl.st (B := (s₁.setTop (mkF m 13 L7 [(.ref a1), (.long y3_30_5)]))) (fun t k => XS.aloadN X0.here hx rfl (hb hby d1_12) (ldAt hL7 rfl) rfl k) ?_
      refine Gl.st (B := (s₁.setTop (mkF m 14 L7 [(.int (1 : Int32)), (.ref a1), (.long y3_30_5)]))) (fun t k => XS.iloadN X0.here hx rfl (hb hby d1_13) (ldAt hL7 rfl) k) ?_
      refine Gl.st (B := (s₁.setTop (mkF m 16 L7 [(.int (1 : Int32)), (.int (1 : Int32)), (.ref a1), (.long y3_30_5)]))) (fun t k => XS.iload X0.here hx rfl (hb hby d1_14) (ldAt hL7 rfl) k) ?_
      refine Gl.st (B := (s₁.setTop (mkF m 17 L7 [(.int (2 : Int32)), (.ref a1), (.long y3_30_5)]))) (fun t k => XS.iadd X0.here hx rfl (hb hby d1_16) rfl k) ?_
      obtain ⟨cl9, Ar9, q9, S9, P9, H9, G9⟩ := (id V_a1)
      have hin17_9 : ¬ ((2 : Int32) < 0 ∨ cl9.slots.size ≤ ((2 : Int32)).toNatClampNeg) := inb_of S9 ⟨by decide, by decide⟩
      have hat9 := Has.at H9 hin17_9 (v := (.int el2)) rfl
      refine Gl.st (B := (s₁.setTop (mkF m 18 L7 [(.int el2), (.long y3_30_5)]))) (fun t k => X0.baloadBytes hx (j := (2 : Int32)) (v := (.int el2)) (by rw [e0]; exact Ar9.1) (State.isArrayOf_alike hZ.alike Ar9.2.1) Ar9.2.2 hin17_9 hat9 (g := (mkF m 17 L7 [(.int (2 : Int32)), (.ref a1), (.long y3_30_5)])) rfl rfl (hb hby d1_17) _ k) ?_
      refine Gl.st (B := (s₁.setTop (mkF m 21 L7 [(.int (255 : Int32)), (.int el2), (.long y3_30_5)]))) (fun t k => XS.sipush X0.here hx rfl (hb hby d1_18) k) ?_
      refine Gl.st (B := (s₁.setTop (mkF m 22 L7 [(.int (el2 &&& (255 : Int32))), (.long y3_30_5)]))) (fun t k => XS.iand X0.here hx rfl (hb hby d1_21) rfl k) ?_
      refine Gl.st (B := (s₁.setTop (mkF m 23 L7 [(.long ((el2 &&& (255 : Int32)).toInt64)), (.long y3_30_5)]))) (fun t k => XS.i2l X0.here hx rfl (hb hby d1_22) rfl k) ?_
      refine Gl.st (B := (s₁.setTop (mkF m 25 L7 [(.int (8 : Int32)), (.long ((el2 &&& (255 : Int32)).toInt64)), (.long y3_30_5)]))) (fun t k => XS.bipush X0.here hx rfl (hb hby d1_23) k) ?_
      refine Gl.st (B := (s₁.setTop (mkF m 27 L7 [(.int (1 : Int32)), (.int (8 : Int32)), (.long ((el2 &&& (255 : Int32)).toInt64)), (.long y3_30_5)]))) (fun t k => XS.iload X0.here hx rfl (hb hby d1_25) (ldAt hL7 rfl) k) ?_
      refine Gl.st (B := (s₁.setTop (mkF m 28 L7 [(.int (8 : Int32)), (.long ((el2 &&& (255 : Int32)).toInt64)), (.long y3_30_5)]))) (fun t k => XS.imul X0.here hx rfl (hb hby d1_27) rfl k) ?_
      refine Gl.st (B := (s₁.setTop (mkF m 29 L7 [(.long (((el2 &&& (255 : Int32)).toInt64) <<< ((8 : Int32) &&& 0x3f).toInt64)), (.long y3_30_5)]))) (fun t k => XS.lshl X0.here hx rfl (hb hby d1_28) rfl k) ?_
      refine Gl.st (B := (s₁.setTop (mkF m 30 L7 [(.long (y3_30_5 ||| (((el2 &&& (255 : Int32)).toInt64) <<< ((8 : Int32) &&& 0x3f).toInt64)))]))) (fun t k => XS.lor X0.here hx rfl (hb hby d1_29) rfl k) ?_
      obtain ⟨y3_30_10, hy3_30_10⟩ : ∃ z : Int64, z = (y3_30_5 ||| (((el2 &&& (255 : Int32)).toInt64) <<< ((8 : Int32) &&& 0x3f).toInt64)) := ⟨_, rfl⟩
      refine Gl.cast (B := (s₁.setTop (mkF m 30 L7 [(.long y3_30_10)]))) (by rw [hy3_30_10]) ?_
      obtain ⟨L11, hL11⟩ : ∃ z : Array Slot, z = #[.val (.ref a1), .val (.int (1 : Int32)), .val (.int p3), .val (.long y3_30_10), .second, .val (.int (1 : Int32))] := ⟨_, rfl⟩
      refine Gl.st (B := (s₁.setTop (mkF m 31 L11 []))) (fun t k => XS.lstoreN X0.here hx rfl (hb hby d1_30) rfl (l' := L11) (stAt hL7 hL11 rfl rfl) k) ?_
      obtain ⟨L12, hL12⟩ : ∃ z : Array Slot, z = #[.val (.ref a1), .val (.int (1 : Int32)), .val (.int p3), .val (.long y3_30_10), .second, .val (.int (2 : Int32))] := ⟨_, rfl⟩
      refine Gl.st (B := (s₁.setTop (mkF m 34 L12 []))) (fun t k => XS.iinc X0.here hx rfl (hb hby d1_31) (ldAt hL11 rfl) (l' := L12) (stAt' hL11 hL12 rfl rfl) k) ?_
      refine Gl.st (B := (s₁.setTop (mkF m 5 L12 []))) (fun t k => XS.goto X0.here hx rfl (pc0 := 34) (pc' := 5) rfl (hb hby d1_34) (by decide) (by decide) k) ?_
      refine Gl.st (B := (s₁.setTop (mkF m 7 L12 [(.int (2 : Int32))]))) (fun t k => XS.iload X0.here hx rfl (hb hby d1_5) (ldAt hL12 rfl) k) ?_
      refine Gl.st (B := (s₁.setTop (mkF m 8 L12 [(.int p3), (.int (2 : Int32))]))) (fun t k => XS.iloadN X0.here hx rfl (hb hby d1_7) (ldAt hL12 rfl) k) ?_
      by_cases hc8_13 : (2 : Int32) < p3
      · skip
        refine Gl.st (B := (s₁.setTop (mkF m 11 L12 []))) (fun t k => XS.icmpNo X0.here hx rfl (hb hby d1_8) rfl (tlt hc8_13).2.1 k) ?_
        refine Gl.st (B := (s₁.setTop (mkF m 12 L12 [(.long y3_30_10)]))) (fun t k => XS.lloadN X0.here hx rfl (hb hby d1_11) (ldAt hL12 rfl) k) ?_
        refine Gl.st (B := (s₁.setTop (mkF m 13 L12 [(.ref a1), (.long y3_30_10)]))) (fun t k => XS.aloadN X0.here hx rfl (hb hby d1_12) (ldAt hL12 rfl) rfl k) ?_
        refine Gl.st (B := (s₁.setTop (mkF m 14 L12 [(.int (1 : Int32)), (.ref a1), (.long y3_30_10)]))) (fun t k => XS.iloadN X0.here hx rfl (hb hby d1_13) (ldAt hL12 rfl) k) ?_
        refine Gl.st (B := (s₁.setTop (mkF m 16 L12 [(.int (2 : Int32)), (.int (1 : Int32)), (.ref a1), (.long y3_30_10)]))) (fun t k => XS.iload X0.here hx rfl (hb hby d1_14) (ldAt hL12 rfl) k) ?_
        refine Gl.st (B := (s₁.setTop (mkF m 17 L12 [(.int (3 : Int32)), (.ref a1), (.long y3_30_10)]))) (fun t k => XS.iadd X0.here hx rfl (hb hby d1_16) rfl k) ?_
        obtain ⟨cl14, Ar14, q14, S14, P14, H14, G14⟩ := (id V_a1)
        have hin17_14 : ¬ ((3 : Int32) < 0 ∨ cl14.slots.size ≤ ((3 : Int32)).toNatClampNeg) := inb_of S14 ⟨by decide, by decide⟩
        have hat14 := Has.at H14 hin17_14 (v := (.int el3)) rfl
        refine Gl.st (B := (s₁.setTop (mkF m 18 L12 [(.int el3), (.long y3_30_10)]))) (fun t k => X0.baloadBytes hx (j := (3 : Int32)) (v := (.int el3)) (by rw [e0]; exact Ar14.1) (State.isArrayOf_alike hZ.alike Ar14.2.1) Ar14.2.2 hin17_14 hat14 (g := (mkF m 17 L12 [(.int (3 : Int32)), (.ref a1), (.long y3_30_10)])) rfl rfl (hb hby d1_17) _ k) ?_
        refine Gl.st (B := (s₁.setTop (mkF m 21 L12 [(.int (255 : Int32)), (.int el3), (.long y3_30_10)]))) (fun t k => XS.sipush X0.here hx rfl (hb hby d1_18) k) ?_
        refine Gl.st (B := (s₁.setTop (mkF m 22 L12 [(.int (el3 &&& (255 : Int32))), (.long y3_30_10)]))) (fun t k => XS.iand X0.here hx rfl (hb hby d1_21) rfl k) ?_
        refine Gl.st (B := (s₁.setTop (mkF m 23 L12 [(.long ((el3 &&& (255 : Int32)).toInt64)), (.long y3_30_10)]))) (fun t k => XS.i2l X0.here hx rfl (hb hby d1_22) rfl k) ?_
        refine Gl.st (B := (s₁.setTop (mkF m 25 L12 [(.int (8 : Int32)), (.long ((el3 &&& (255 : Int32)).toInt64)), (.long y3_30_10)]))) (fun t k => XS.bipush X0.here hx rfl (hb hby d1_23) k) ?_
        refine Gl.st (B := (s₁.setTop (mkF m 27 L12 [(.int (2 : Int32)), (.int (8 : Int32)), (.long ((el3 &&& (255 : Int32)).toInt64)), (.long y3_30_10)]))) (fun t k => XS.iload X0.here hx rfl (hb hby d1_25) (ldAt hL12 rfl) k) ?_
        refine Gl.st (B := (s₁.setTop (mkF m 28 L12 [(.int (16 : Int32)), (.long ((el3 &&& (255 : Int32)).toInt64)), (.long y3_30_10)]))) (fun t k => XS.imul X0.here hx rfl (hb hby d1_27) rfl k) ?_
        refine Gl.st (B := (s₁.setTop (mkF m 29 L12 [(.long (((el3 &&& (255 : Int32)).toInt64) <<< ((16 : Int32) &&& 0x3f).toInt64)), (.long y3_30_10)]))) (fun t k => XS.lshl X0.here hx rfl (hb hby d1_28) rfl k) ?_
        refine Gl.st (B := (s₁.setTop (mkF m 30 L12 [(.long (y3_30_10 ||| (((el3 &&& (255 : Int32)).toInt64) <<< ((16 : Int32) &&& 0x3f).toInt64)))]))) (fun t k => XS.lor X0.here hx rfl (hb hby d1_29) rfl k) ?_
        obtain ⟨y3_30_15, hy3_30_15⟩ : ∃ z : Int64, z = (y3_30_10 ||| (((el3 &&& (255 : Int32)).toInt64) <<< ((16 : Int32) &&& 0x3f).toInt64)) := ⟨_, rfl⟩
        refine Gl.cast (B := (s₁.setTop (mkF m 30 L12 [(.long y3_30_15)]))) (by rw [hy3_30_15]) ?_
        obtain ⟨L16, hL16⟩ : ∃ z : Array Slot, z = #[.val (.ref a1), .val (.int (1 : Int32)), .val (.int p3), .val (.long y3_30_15), .second, .val (.int (2 : Int32))] := ⟨_, rfl⟩
        refine Gl.st (B := (s₁.setTop (mkF m 31 L16 []))) (fun t k => XS.lstoreN X0.here hx rfl (hb hby d1_30) rfl (l' := L16) (stAt hL12 hL16 rfl rfl) k) ?_
        obtain ⟨L17, hL17⟩ : ∃ z : Array Slot, z = #[.val (.ref a1), .val (.int (1 : Int32)), .val (.int p3), .val (.long y3_30_15), .second, .val (.int (3 : Int32))] := ⟨_, rfl⟩
        refine Gl.st (B := (s₁.setTop (mkF m 34 L17 []))) (fun t k => XS.iinc X0.here hx rfl (hb hby d1_31) (ldAt hL16 rfl) (l' := L17) (stAt' hL16 hL17 rfl rfl) k) ?_
        refine Gl.st (B := (s₁.setTop (mkF m 5 L17 []))) (fun t k => XS.goto X0.here hx rfl (pc0 := 34) (pc' := 5) rfl (hb hby d1_34) (by decide) (by decide) k) ?_
        refine Gl.st (B := (s₁.setTop (mkF m 7 L17 [(.int (3 : Int32))]))) (fun t k => XS.iload X0.here hx rfl (hb hby d1_5) (ldAt hL17 rfl) k) ?_
        refine Gl.st (B := (s₁.setTop (mkF m 8 L17 [(.int p3), (.int (3 : Int32))]))) (fun t k => XS.iloadN X0.here hx rfl (hb hby d1_7) (ldAt hL17 rfl) k) ?_
        by_cases hc8_18 : (3 : Int32) < p3
        · skip
          refine Gl.st (B := (s₁.setTop (mkF m 11 L17 []))) (fun t k => XS.icmpNo X0.here hx rfl (hb hby d1_8) rfl (tlt hc8_18).2.1 k) ?_
          refine Gl.st (B := (s₁.setTop (mkF m 12 L17 [(.long y3_30_15)]))) (fun t k => XS.lloadN X0.here hx rfl (hb hby d1_11) (ldAt hL17 rfl) k) ?_
          refine Gl.st (B := (s₁.setTop (mkF m 13 L17 [(.ref a1), (.long y3_30_15)]))) (fun t k => XS.aloadN X0.here hx rfl (hb hby d1_12) (ldAt hL17 rfl) rfl k) ?_
          refine Gl.st (B := (s₁.setTop (mkF m 14 L17 [(.int (1 : Int32)), (.ref a1), (.long y3_30_15)]))) (fun t k => XS.iloadN X0.here hx rfl (hb hby d1_13) (ldAt hL17 rfl) k) ?_
          refine Gl.st (B := (s₁.setTop (mkF m 16 L17 [(.int (3 : Int32)), (.int (1 : Int32)), (.ref a1), (.long y3_30_15)]))) (fun t k => XS.iload X0.here hx rfl (hb hby d1_14) (ldAt hL17 rfl) k) ?_
          refine Gl.st (B := (s₁.setTop (mkF m 17 L17 [(.int (4 : Int32)), (.ref a1), (.long y3_30_15)]))) (fun t k => XS.iadd X0.here hx rfl (hb hby d1_16) rfl k) ?_
          obtain ⟨cl19, Ar19, q19, S19, P19, H19, G19⟩ := (id V_a1)
          have hin17_19 : ¬ ((4 : Int32) < 0 ∨ cl19.slots.size ≤ ((4 : Int32)).toNatClampNeg) := inb_of S19 ⟨by decide, by decide⟩
          have hat19 := Has.at H19 hin17_19 (v := (.int el4)) rfl
          refine Gl.st (B := (s₁.setTop (mkF m 18 L17 [(.int el4), (.long y3_30_15)]))) (fun t k => X0.baloadBytes hx (j := (4 : Int32)) (v := (.int el4)) (by rw [e0]; exact Ar19.1) (State.isArrayOf_alike hZ.alike Ar19.2.1) Ar19.2.2 hin17_19 hat19 (g := (mkF m 17 L17 [(.int (4 : Int32)), (.ref a1), (.long y3_30_15)])) rfl rfl (hb hby d1_17) _ k) ?_
          refine Gl.st (B := (s₁.setTop (mkF m 21 L17 [(.int (255 : Int32)), (.int el4), (.long y3_30_15)]))) (fun t k => XS.sipush X0.here hx rfl (hb hby d1_18) k) ?_
          refine Gl.st (B := (s₁.setTop (mkF m 22 L17 [(.int (el4 &&& (255 : Int32))), (.long y3_30_15)]))) (fun t k => XS.iand X0.here hx rfl (hb hby d1_21) rfl k) ?_
          refine Gl.st (B := (s₁.setTop (mkF m 23 L17 [(.long ((el4 &&& (255 : Int32)).toInt64)), (.long y3_30_15)]))) (fun t k => XS.i2l X0.here hx rfl (hb hby d1_22) rfl k) ?_
          refine Gl.st (B := (s₁.setTop (mkF m 25 L17 [(.int (8 : Int32)), (.long ((el4 &&& (255 : Int32)).toInt64)), (.long y3_30_15)]))) (fun t k => XS.bipush X0.here hx rfl (hb hby d1_23) k) ?_
          refine Gl.st (B := (s₁.setTop (mkF m 27 L17 [(.int (3 : Int32)), (.int (8 : Int32)), (.long ((el4 &&& (255 : Int32)).toInt64)), (.long y3_30_15)]))) (fun t k => XS.iload X0.here hx rfl (hb hby d1_25) (ldAt hL17 rfl) k) ?_
          refine Gl.st (B := (s₁.setTop (mkF m 28 L17 [(.int (24 : Int32)), (.long ((el4 &&& (255 : Int32)).toInt64)), (.long y3_30_15)]))) (fun t k => XS.imul X0.here hx rfl (hb hby d1_27) rfl k) ?_
          refine Gl.st (B := (s₁.setTop (mkF m 29 L17 [(.long (((el4 &&& (255 : Int32)).toInt64) <<< ((24 : Int32) &&& 0x3f).toInt64)), (.long y3_30_15)]))) (fun t k => XS.lshl X0.here hx rfl (hb hby d1_28) rfl k) ?_
          refine Gl.st (B := (s₁.setTop (mkF m 30 L17 [(.long (y3_30_15 ||| (((el4 &&& (255 : Int32)).toInt64) <<< ((24 : Int32) &&& 0x3f).toInt64)))]))) (fun t k => XS.lor X0.here hx rfl (hb hby d1_29) rfl k) ?_
          obtain ⟨y3_30_20, hy3_30_20⟩ : ∃ z : Int64, z = (y3_30_15 ||| (((el4 &&& (255 : Int32)).toInt64) <<< ((24 : Int32) &&& 0x3f).toInt64)) := ⟨_, rfl⟩
          refine Gl.cast (B := (s₁.setTop (mkF m 30 L17 [(.long y3_30_20)]))) (by rw [hy3_30_20]) ?_
          obtain ⟨L21, hL21⟩ : ∃ z : Array Slot, z = #[.val (.ref a1), .val (.int (1 : Int32)), .val (.int p3), .val (.long y3_30_20), .second, .val (.int (3 : Int32))] := ⟨_, rfl⟩
          refine Gl.st (B := (s₁.setTop (mkF m 31 L21 []))) (fun t k => XS.lstoreN X0.here hx rfl (hb hby d1_30) rfl (l' := L21) (stAt hL17 hL21 rfl rfl) k) ?_
          obtain ⟨L22, hL22⟩ : ∃ z : Array Slot, z = #[.val (.ref a1), .val (.int (1 : Int32)), .val (.int p3), .val (.long y3_30_20), .second, .val (.int (4 : Int32))] := ⟨_, rfl⟩
          refine Gl.st (B := (s₁.setTop (mkF m 34 L22 []))) (fun t k => XS.iinc X0.here hx rfl (hb hby d1_31) (ldAt hL21 rfl) (l' := L22) (stAt' hL21 hL22 rfl rfl) k) ?_
          refine Gl.st (B := (s₁.setTop (mkF m 5 L22 []))) (fun t k => XS.goto X0.here hx rfl (pc0 := 34) (pc' := 5) rfl (hb hby d1_34) (by decide) (by decide) k) ?_
          refine Gl.st (B := (s₁.setTop (mkF m 7 L22 [(.int (4 : Int32))]))) (fun t k => XS.iload X0.here hx rfl (hb hby d1_5) (ldAt hL22 rfl) k) ?_
          refine Gl.st (B := (s₁.setTop (mkF m 8 L22 [(.int p3), (.int (4 : Int32))]))) (fun t k => XS.iloadN X0.here hx rfl (hb hby d1_7) (ldAt hL22 rfl) k) ?_
          refine Gl.st (B := (s₁.setTop (mkF m 37 L22 []))) (fun t k => XS.icmpYes X0.here hx rfl (pc0 := 8) (pc' := 37) rfl (hb hby d1_8) rfl (flt hq8_5).2.1 (by decide) (by decide) k) ?_
          refine Gl.st (B := (s₁.setTop (mkF m 38 L22 [(.long y3_30_20)]))) (fun t k => XS.lloadN X0.here hx rfl (hb hby d1_37) (ldAt hL22 rfl) k) ?_
          obtain ⟨fs, hr, hrun, hended, hW, hsame⟩ := X0.leave (v := some (.long y3_30_20)) (fun h => by rw [Bd.returns] at h; cases h)
          refine Gl.fin (X0.lreturnOut hx Bd.returns (hb hby d1_38) hr) hrun hended ⟨_, _, rfl, ?_, ⟨_, rfl⟩, hW, hsame.mono (by decide) (by decide)⟩
          show Q1o1 Z a1 p3 kx_a1 el0 el1 el2 el3 el4 el5 el6 el7 h0 n0 _ s₁.heap _
          rw [e0]
          exact ⟨(by subst hy3_30_20; subst hy3_30_15; subst hy3_30_10; subst hy3_30_5; rw [if_pos hc8_3, if_pos hc8_8, if_pos hc8_13, if_pos hc8_18]), N0, rfl⟩
        · skip
          refine Gl.st (B := (s₁.setTop (mkF m 37 L17 []))) (fun t k => XS.icmpYes X0.here hx rfl (pc0 := 8) (pc' := 37) rfl (hb hby d1_8) rfl (flt hc8_18).2.1 (by decide) (by decide) k) ?_
          refine Gl.st (B := (s₁.setTop (mkF m 38 L17 [(.long y3_30_15)]))) (fun t k => XS.lloadN X0.here hx rfl (hb hby d1_37) (ldAt hL17 rfl) k) ?_
          obtain ⟨fs, hr, hrun, hended, hW, hsame⟩ := X0.leave (v := some (.long y3_30_15)) (fun h => by rw [Bd.returns] at h; cases h)
          refine Gl.fin (X0.lreturnOut hx Bd.returns (hb hby d1_38) hr) hrun hended ⟨_, _, rfl, ?_, ⟨_, rfl⟩, hW, hsame.mono (by decide) (by decide)⟩
          show Q1o1 Z a1 p3 kx_a1 el0 el1 el2 el3 el4 el5 el6 el7 h0 n0 _ s₁.heap _
          rw [e0]
          exact ⟨(by subst hy3_30_15; subst hy3_30_10; subst hy3_30_5; rw [if_pos hc8_3, if_pos hc8_8, if_pos hc8_13, if_neg hc8_18]), N0, rfl⟩
      · skip
        refine Gl.st (B := (s₁.setTop (mkF m 37 L12 []))) (fun t k => XS.icmpYes X0.here hx rfl (pc0 := 8) (pc' := 37) rfl (hb hby d1_8) rfl (flt hc8_13).2.1 (by decide) (by decide) k) ?_
        refine Gl.st (B := (s₁.setTop (mkF m 38 L12 [(.long y3_30_10)]))) (fun t k => XS.lloadN X0.here hx rfl (hb hby d1_37) (ldAt hL12 rfl) k) ?_
        obtain ⟨fs, hr, hrun, hended, hW, hsame⟩ := X0.leave (v := some (.long y3_30_10)) (fun h => by rw [Bd.returns] at h; cases h)
        refine Gl.fin (X0.lreturnOut hx Bd.returns (hb hby d1_38) hr) hrun hended ⟨_, _, rfl, ?_, ⟨_, rfl⟩, hW, hsame.mono (by decide) (by decide)⟩
        show Q1o1 Z a1 p3 kx_a1 el0 el1 el2 el3 el4 el5 el6 el7 h0 n0 _ s₁.heap _
        rw [e0]
        exact ⟨(by subst hy3_30_10; subst hy3_30_5; rw [if_pos hc8_3, if_pos hc8_8, if_neg hc8_13]), N0, rfl⟩
    · skip
      refine Gl.st (B := (s₁.setTop (mkF m 37 L7 []))) (fun t k => XS.icmpYes X0.here hx rfl (pc0 := 8) (pc' := 37) rfl (hb hby d1_8) rfl (flt hc8_8).2.1 (by decide) (by decide) k) ?_
      refine Gl.st (B := (s₁.setTop (mkF m 38 L7 [(.long y3_30_5)]))) (fun t k => XS.lloadN X0.here hx rfl (hb hby d1_37) (ldAt hL7 rfl) k) ?_
      obtain ⟨fs, hr, hrun, hended, hW, hsame⟩ := X0.leave (v := some (.long y3_30_5)) (fun h => by rw [Bd.returns] at h; cases h)
      refine Gl.fin (X0.lreturnOut hx Bd.returns (hb hby d1_38) hr) hrun hended ⟨_, _, rfl, ?_, ⟨_, rfl⟩, hW, hsame.mono (by decide) (by decide)⟩
      show Q1o1 Z a1 p3 kx_a1 el0 el1 el2 el3 el4 el5 el6 el7 h0 n0 _ s₁.heap _
      rw [e0]
      exact ⟨(by subst hy3_30_5; rw [if_pos hc8_3, if_neg hc8_8]), N0, rfl⟩
  · skip
    refine Gl.st (B := (s₁.setTop (mkF m 37 L2 []))) (fun t k => XS.icmpYes X0.here hx rfl (pc0 := 8) (pc' := 37) rfl (hb hby d1_8) rfl (flt hc8_3).2.1 (by decide) (by decide) k) ?_
    refine Gl.st (B := (s₁.setTop (mkF m 38 L2 [(.long (0 : Int64))]))) (fun t k => XS.lloadN X0.here hx rfl (hb hby d1_37) (ldAt hL2 rfl) k) ?_
    obtain ⟨fs, hr, hrun, hended, hW, hsame⟩ := X0.leave (v := some (.long (0 : Int64))) (fun h => by rw [Bd.returns] at h; cases h)
    refine Gl.fin (X0.lreturnOut hx Bd.returns (hb hby d1_38) hr) hrun hended ⟨_, _, rfl, ?_, ⟨_, rfl⟩, hW, hsame.mono (by decide) (by decide)⟩
    show Q1o1 Z a1 p3 kx_a1 el0 el1 el2 el3 el4 el5 el6 el7 h0 n0 _ s₁.heap _
    rw [e0]
    exact ⟨(by rw [if_neg hc8_3]), N0, rfl⟩
theorem ef_1o2 (m : MethodId) (a1 : Addr) (p3 : Int32) : entryFrame m #[(.ref a1), (.int (2 : Int32)), (.int p3)] 6 = mkF m 0 #[.val (.ref a1), .val (.int (2 : Int32)), .val (.int p3), .unset, .unset, .unset] [] := by first | (simp [entryFrame, mkF, argsToLocals, Value.category]; done) | rfl
def Q1o2 (Z : State) (a1 : Addr) (p3 : Int32) (kx_a1 : ClassId) (el0 : Int32) (el1 : Int32) (el2 : Int32) (el3 : Int32) (el4 : Int32) (el5 : Int32) (el6 : Int32) (el7 : Int32) (h0 : Heap) (n0 : Nat) (v : Option Value) (h : Heap) (L : List Loc) : Prop := v = some (.long (if (0 : Int32) < p3 then (if (1 : Int32) < p3 then (if (2 : Int32) < p3 then (if (3 : Int32) < p3 then (((((((((0 : Int64) ||| (((el2 &&& (255 : Int32)).toInt64) <<< ((0 : Int32) &&& 0x3f).toInt64))) ||| (((el3 &&& (255 : Int32)).toInt64) <<< ((8 : Int32) &&& 0x3f).toInt64))) ||| (((el4 &&& (255 : Int32)).toInt64) <<< ((16 : Int32) &&& 0x3f).toInt64))) ||| (((el5 &&& (255 : Int32)).toInt64) <<< ((24 : Int32) &&& 0x3f).toInt64))) else (((((((0 : Int64) ||| (((el2 &&& (255 : Int32)).toInt64) <<< ((0 : Int32) &&& 0x3f).toInt64))) ||| (((el3 &&& (255 : Int32)).toInt64) <<< ((8 : Int32) &&& 0x3f).toInt64))) ||| (((el4 &&& (255 : Int32)).toInt64) <<< ((16 : Int32) &&& 0x3f).toInt64)))) else (((((0 : Int64) ||| (((el2 &&& (255 : Int32)).toInt64) <<< ((0 : Int32) &&& 0x3f).toInt64))) ||| (((el3 &&& (255 : Int32)).toInt64) <<< ((8 : Int32) &&& 0x3f).toInt64)))) else (((0 : Int64) ||| (((el2 &&& (255 : Int32)).toInt64) <<< ((0 : Int32) &&& 0x3f).toInt64)))) else (0 : Int64))) ∧ Fr n0 L ∧ h = h0
set_option maxRecDepth 65536 in
set_option maxHeartbeats 40000000 in
theorem rm1o2 (l : Launch) (Z : State) (a0 : Array Value) (hw : ∀ d ∈ tables_1, d.before a0 Z = true) (ws : List Jvm.Cond) (a1 : Addr) (p3 : Int32) (kx_a1 : ClassId) (el0 : Int32) (el1 : Int32) (el2 : Int32) (el3 : Int32) (el4 : Int32) (el5 : Int32) (el6 : Int32) (el7 : Int32) (h0 : Heap) (n0 : Nat) (Z0 : n0 ≤ h0.size) (V_a1 : Arv Z h0 a1 kx_a1 .byte (8 : Int32) [(.int el0), (.int el1), (.int el2), (.int el3), (.int el4), (.int el5), (.int el6), (.int el7)] (.int (0 : Int32))) (hq8_5 : ¬ ((4 : Int32) < p3)) :
    MetFree l (⟨"com/example/requeue/requeue/connection/SnappyBlock", "readLittleEndian", "([BII)J"⟩ : MethodName) (head1 (Jvm.Cond.code (⟨"com/example/requeue/requeue/connection/SnappyBlock", "readLittleEndian", "([BII)J"⟩ : MethodName) prog_8_method_7_code 6 (some .long) :: ws) ({ frames := 0, cells := 0, slots := 0, locals := 0 } : Room)) (fun a U => a = #[(.ref a1), (.int (2 : Int32)), (.int p3)] ∧ Z.Warmed39 U.vm ∧ U.heap = h0) (fun _ _ _ _ _ => True) (fun _ U o U' => ∃ v L, o = .returned v ∧ Q1o2 Z a1 p3 kx_a1 el0 el1 el2 el3 el4 el5 el6 el7 h0 n0 v U'.heap L ∧ FrameEnd U o U' L ({ frames := 0, cells := 0, slots := 0, locals := 0 } : Room).cells ({ frames := 0, cells := 0, slots := 0, locals := 0 } : Room).slots) := by
  refine MetFree.of_bodySF (plainFor_of_name pn_1) hisR ?_
  intro p e s m args below meth c s₁ Bd hml0 hP hK
  obtain ⟨rfl, hZ, hh⟩ := hP
  have hx := Bd.exec
  have hby := Bd.bytes
  have hml : c.maxLocals = 6 := hml0
  have hown : s.vm.findClass "com/example/requeue/requeue/connection/SnappyBlock" = some m.cls := findClass_of_methodNamed Bd.named
  have hnm := (name_of_methodNamed Bd.named Bd.method).1
  have X0 : Stand p l e ({ frames := 0, cells := 0, slots := 0, locals := 0 } : Room) s m #[(.ref a1), (.int (2 : Int32)), (.int p3)] below meth c s₁ [] 0 0 := Stand.of_body Bd
  have e0 : s₁.heap = h0 := by rw [← hh, Bd.state]; rfl
  have N0 := Fr.nil n0
  have K0 : Keep h0 h0 [] := Keep.refl h0 _
  refine (show Gl p e below (fun o U' => ∃ v L, o = .returned v ∧ Q1o2 Z a1 p3 kx_a1 el0 el1 el2 el3 el4 el5 el6 el7 h0 n0 v U'.heap L ∧ FrameEnd s o U' L ({ frames := 0, cells := 0, slots := 0, locals := 0 } : Room).cells ({ frames := 0, cells := 0, slots := 0, locals := 0 } : Room).slots) (s₁.setTop (entryFrame m #[(.ref a1), (.int (2 : Int32)), (.int p3)] 6)) from ?_)
  obtain ⟨L0, hL0⟩ : ∃ z : Array Slot, z = #[.val (.ref a1), .val (.int (2 : Int32)), .val (.int p3), .unset, .unset, .unset] := ⟨_, rfl⟩
  refine Gl.st (B := (s₁.setTop (mkF m 0 L0 []))) (fun t k => castTop (efAt hL0 (ef_1o2 m a1 p3)) k) ?_
  refine Gl.st (B := (s₁.setTop (mkF m 1 L0 [(.long (0 : Int64))]))) (fun t k => XS.lconst X0.here hx rfl (hb hby d1_0) k) ?_
  obtain ⟨L1, hL1⟩ : ∃ z : Array Slot, z = #[.val (.ref a1), .val (.int (2 : Int32)), .val (.int p3), .val (.long (0 : Int64)), .second, .unset] := ⟨_, rfl⟩
  refine Gl.st (B := (s₁.setTop (mkF m 2 L1 []))) (fun t k => XS.lstoreN X0.here hx rfl (hb hby d1_1) rfl (l' := L1) (stAt hL0 hL1 rfl rfl) k) ?_
  refine Gl.st (B := (s₁.setTop (mkF m 3 L1 [(.int (0 : Int32))]))) (fun t k => XS.iconst X0.here hx rfl (hb hby d1_2) k) ?_
  obtain ⟨L2, hL2⟩ : ∃ z : Array Slot, z = #[.val (.ref a1), .val (.int (2 : Int32)), .val (.int p3), .val (.long (0 : Int64)), .second, .val (.int (0 : Int32))] := ⟨_, rfl⟩
  refine Gl.st (B := (s₁.setTop (mkF m 5 L2 []))) (fun t k => XS.istore X0.here hx rfl (hb hby d1_3) rfl (l' := L2) (stAt hL1 hL2 rfl rfl) k) ?_
  refine Gl.st (B := (s₁.setTop (mkF m 7 L2 [(.int (0 : Int32))]))) (fun t k => XS.iload X0.here hx rfl (hb hby d1_5) (ldAt hL2 rfl) k) ?_
  refine Gl.st (B := (s₁.setTop (mkF m 8 L2 [(.int p3), (.int (0 : Int32))]))) (fun t k => XS.iloadN X0.here hx rfl (hb hby d1_7) (ldAt hL2 rfl) k) ?_
  by_cases hc8_3 : (0 : Int32) < p3
  · skip
    refine Gl.st (B := (s₁.setTop (mkF m 11 L2 []))) (fun t k => XS.icmpNo X0.here hx rfl (hb hby d1_8) rfl (tlt hc8_3).2.1 k) ?_
    refine Gl.st (B := (s₁.setTop (mkF m 12 L2 [(.long (0 : Int64))]))) (fun t k => XS.lloadN X0.here hx rfl (hb hby d1_11) (ldAt hL2 rfl) k) ?_
    refine Gl.st (B := (s₁.setTop (mkF m 13 L2 [(.ref a1), (.long (0 : Int64))]))) (fun t k => XS.aloadN X0.here hx rfl (hb hby d1_12) (ldAt hL2 rfl) rfl k) ?_
    refine Gl.st (B := (s₁.setTop (mkF m 14 L2 [(.int (2 : Int32)), (.ref a1), (.long (0 : Int64))]))) (fun t k => XS.iloadN X0.here hx rfl (hb hby d1_13) (ldAt hL2 rfl) k) ?_
    refine Gl.st (B := (s₁.setTop (mkF m 16 L2 [(.int (0 : Int32)), (.int (2 : Int32)), (.ref a1), (.long (0 : Int64))]))) (fun t k => XS.iload X0.here hx rfl (hb hby d1_14) (ldAt hL2 rfl) k) ?_
    refine Gl.st (B := (s₁.setTop (mkF m 17 L2 [(.int (2 : Int32)), (.ref a1), (.long (0 : Int64))]))) (fun t k => XS.iadd X0.here hx rfl (hb hby d1_16) rfl k) ?_
    obtain ⟨cl4, Ar4, q4, S4, P4, H4, G4⟩ := (id V_a1)
    have hin17_4 : ¬ ((2 : Int32) < 0 ∨ cl4.slots.size ≤ ((2 : Int32)).toNatClampNeg) := inb_of S4 ⟨by decide, by decide⟩
    have hat4 := Has.at H4 hin17_4 (v := (.int el2)) rfl
    refine Gl.st (B := (s₁.setTop (mkF m 18 L2 [(.int el2), (.long (0 : Int64))]))) (fun t k => X0.baloadBytes hx (j := (2 : Int32)) (v := (.int el2)) (by rw [e0]; exact Ar4.1) (State.isArrayOf_alike hZ.alike Ar4.2.1) Ar4.2.2 hin17_4 hat4 (g := (mkF m 17 L2 [(.int (2 : Int32)), (.ref a1), (.long (0 : Int64))])) rfl rfl (hb hby d1_17) _ k) ?_
    refine Gl.st (B := (s₁.setTop (mkF m 21 L2 [(.int (255 : Int32)), (.int el2), (.long (0 : Int64))]))) (fun t k => XS.sipush X0.here hx rfl (hb hby d1_18) k) ?_
    refine Gl.st (B := (s₁.setTop (mkF m 22 L2 [(.int (el2 &&& (255 : Int32))), (.long (0 : Int64))]))) (fun t k => XS.iand X0.here hx rfl (hb hby d1_21) rfl k) ?_
    refine Gl.st (B := (s₁.setTop (mkF m 23 L2 [(.long ((el2 &&& (255 : Int32)).toInt64)), (.long (0 : Int64))]))) (fun t k => XS.i2l X0.here hx rfl (hb hby d1_22) rfl k) ?_
    refine Gl.st (B := (s₁.setTop (mkF m 25 L2 [(.int (8 : Int32)), (.long ((el2 &&& (255 : Int32)).toInt64)), (.long (0 : Int64))]))) (fun t k => XS.bipush X0.here hx rfl (hb hby d1_23) k) ?_
    refine Gl.st (B := (s₁.setTop (mkF m 27 L2 [(.int (0 : Int32)), (.int (8 : Int32)), (.long ((el2 &&& (255 : Int32)).toInt64)), (.long (0 : Int64))]))) (fun t k => XS.iload X0.here hx rfl (hb hby d1_25) (ldAt hL2 rfl) k) ?_
    refine Gl.st (B := (s₁.setTop (mkF m 28 L2 [(.int (0 : Int32)), (.long ((el2 &&& (255 : Int32)).toInt64)), (.long (0 : Int64))]))) (fun t k => XS.imul X0.here hx rfl (hb hby d1_27) rfl k) ?_
    refine Gl.st (B := (s₁.setTop (mkF m 29 L2 [(.long (((el2 &&& (255 : Int32)).toInt64) <<< ((0 : Int32) &&& 0x3f).toInt64)), (.long (0 : Int64))]))) (fun t k => XS.lshl X0.here hx rfl (hb hby d1_28) rfl k) ?_
    refine Gl.st (B := (s₁.setTop (mkF m 30 L2 [(.long ((0 : Int64) ||| (((el2 &&& (255 : Int32)).toInt64) <<< ((0 : Int32) &&& 0x3f).toInt64)))]))) (fun t k => XS.lor X0.here hx rfl (hb hby d1_29) rfl k) ?_
    obtain ⟨y3_30_5, hy3_30_5⟩ : ∃ z : Int64, z = ((0 : Int64) ||| (((el2 &&& (255 : Int32)).toInt64) <<< ((0 : Int32) &&& 0x3f).toInt64)) := ⟨_, rfl⟩
    refine Gl.cast (B := (s₁.setTop (mkF m 30 L2 [(.long y3_30_5)]))) (by rw [hy3_30_5]) ?_
    obtain ⟨L6, hL6⟩ : ∃ z : Array Slot, z = #[.val (.ref a1), .val (.int (2 : Int32)), .val (.int p3), .val (.long y3_30_5), .second, .val (.int (0 : Int32))] := ⟨_, rfl⟩
    refine Gl.st (B := (s₁.setTop (mkF m 31 L6 []))) (fun t k => XS.lstoreN X0.here hx rfl (hb hby d1_30) rfl (l' := L6) (stAt hL2 hL6 rfl rfl) k) ?_
    obtain ⟨L7, hL7⟩ : ∃ z : Array Slot, z = #[.val (.ref a1), .val (.int (2 : Int32)), .val (.int p3), .val (.long y3_30_5), .second, .val (.int (1 : Int32))] := ⟨_, rfl⟩
    refine Gl.st (B := (s₁.setTop (mkF m 34 L7 []))) (fun t k => XS.iinc X0.here hx rfl (hb hby d1_31) (ldAt hL6 rfl) (l' := L7) (stAt' hL6 hL7 rfl rfl) k) ?_
    refine Gl.st (B := (s₁.setTop (mkF m 5 L7 []))) (fun t k => XS.goto X0.here hx rfl (pc0 := 34) (pc' := 5) rfl (hb hby d1_34) (by decide) (by decide) k) ?_
    refine Gl.st (B := (s₁.setTop (mkF m 7 L7 [(.int (1 : Int32))]))) (fun t k => XS.iload X0.here hx rfl (hb hby d1_5) (ldAt hL7 rfl) k) ?_
    refine Gl.st (B := (s₁.setTop (mkF m 8 L7 [(.int p3), (.int (1 : Int32))]))) (fun t k => XS.iloadN X0.here hx rfl (hb hby d1_7) (ldAt hL7 rfl) k) ?_
    by_cases hc8_8 : (1 : Int32) < p3
    · skip
      refine Gl.st (B := (s₁.setTop (mkF m 11 L7 []))) (fun t k => XS.icmpNo X0.here hx rfl (hb hby d1_8) rfl (tlt hc8_8).2.1 k) ?_
      refine Gl.st (B := (s₁.setTop (mkF m 12 L7 [(.long y3_30_5)]))) (fun t k => XS.lloadN X0.here hx rfl (hb hby d1_11) (ldAt hL7 rfl) k) ?_
      refine Gl.st (B := (s₁.setTop (mkF m 13 L7 [(.ref a1), (.long y3_30_5)]))) (fun t k => XS.aloadN X0.here hx rfl (hb hby d1_12) (ldAt hL7 rfl) rfl k) ?_
      refine Gl.st (B := (s₁.setTop (mkF m 14 L7 [(.int (2 : Int32)), (.ref a1), (.long y3_30_5)]))) (fun t k => XS.iloadN X0.here hx rfl (hb hby d1_13) (ldAt hL7 rfl) k) ?_
      refine Gl.st (B := (s₁.setTop (mkF m 16 L7 [(.int (1 : Int32)), (.int (2 : Int32)), (.ref a1), (.long y3_30_5)]))) (fun t k => XS.iload X0.here hx rfl (hb hby d1_14) (ldAt hL7 rfl) k) ?_
      refine Gl.st (B := (s₁.setTop (mkF m 17 L7 [(.int (3 : Int32)), (.ref a1), (.long y3_30_5)]))) (fun t k => XS.iadd X0.here hx rfl (hb hby d1_16) rfl k) ?_
      obtain ⟨cl9, Ar9, q9, S9, P9, H9, G9⟩ := (id V_a1)
      have hin17_9 : ¬ ((3 : Int32) < 0 ∨ cl9.slots.size ≤ ((3 : Int32)).toNatClampNeg) := inb_of S9 ⟨by decide, by decide⟩
      have hat9 := Has.at H9 hin17_9 (v := (.int el3)) rfl
      refine Gl.st (B := (s₁.setTop (mkF m 18 L7 [(.int el3), (.long y3_30_5)]))) (fun t k => X0.baloadBytes hx (j := (3 : Int32)) (v := (.int el3)) (by rw [e0]; exact Ar9.1) (State.isArrayOf_alike hZ.alike Ar9.2.1) Ar9.2.2 hin17_9 hat9 (g := (mkF m 17 L7 [(.int (3 : Int32)), (.ref a1), (.long y3_30_5)])) rfl rfl (hb hby d1_17) _ k) ?_
      refine Gl.st (B := (s₁.setTop (mkF m 21 L7 [(.int (255 : Int32)), (.int el3), (.long y3_30_5)]))) (fun t k => XS.sipush X0.here hx rfl (hb hby d1_18) k) ?_
      refine Gl.st (B := (s₁.setTop (mkF m 22 L7 [(.int (el3 &&& (255 : Int32))), (.long y3_30_5)]))) (fun t k => XS.iand X0.here hx rfl (hb hby d1_21) rfl k) ?_
      refine Gl.st (B := (s₁.setTop (mkF m 23 L7 [(.long ((el3 &&& (255 : Int32)).toInt64)), (.long y3_30_5)]))) (fun t k => XS.i2l X0.here hx rfl (hb hby d1_22) rfl k) ?_
      refine Gl.st (B := (s₁.setTop (mkF m 25 L7 [(.int (8 : Int32)), (.long ((el3 &&& (255 : Int32)).toInt64)), (.long y3_30_5)]))) (fun t k => XS.bipush X0.here hx rfl (hb hby d1_23) k) ?_
      refine Gl.st (B := (s₁.setTop (mkF m 27 L7 [(.int (1 : Int32)), (.int (8 : Int32)), (.long ((el3 &&& (255 : Int32)).toInt64)), (.long y3_30_5)]))) (fun t k => XS.iload X0.here hx rfl (hb hby d1_25) (ldAt hL7 rfl) k) ?_
      refine Gl.st (B := (s₁.setTop (mkF m 28 L7 [(.int (8 : Int32)), (.long ((el3 &&& (255 : Int32)).toInt64)), (.long y3_30_5)]))) (fun t k => XS.imul X0.here hx rfl (hb hby d1_27) rfl k) ?_
      refine Gl.st (B := (s₁.setTop (mkF m 29 L7 [(.long (((el3 &&& (255 : Int32)).toInt64) <<< ((8 : Int32) &&& 0x3f).toInt64)), (.long y3_30_5)]))) (fun t k => XS.lshl X0.here hx rfl (hb hby d1_28) rfl k) ?_
      refine Gl.st (B := (s₁.setTop (mkF m 30 L7 [(.long (y3_30_5 ||| (((el3 &&& (255 : Int32)).toInt64) <<< ((8 : Int32) &&& 0x3f).toInt64)))]))) (fun t k => XS.lor X0.here hx rfl (hb hby d1_29) rfl k) ?_
      obtain ⟨y3_30_10, hy3_30_10⟩ : ∃ z : Int64, z = (y3_30_5 ||| (((el3 &&& (255 : Int32)).toInt64) <<< ((8 : Int32) &&& 0x3f).toInt64)) := ⟨_, rfl⟩
      refine Gl.cast (B := (s₁.setTop (mkF m 30 L7 [(.long y3_30_10)]))) (by rw [hy3_30_10]) ?_
      obtain ⟨L11, hL11⟩ : ∃ z : Array Slot, z = #[.val (.ref a1), .val (.int (2 : Int32)), .val (.int p3), .val (.long y3_30_10), .second, .val (.int (1 : Int32))] := ⟨_, rfl⟩
      refine Gl.st (B := (s₁.setTop (mkF m 31 L11 []))) (fun t k => XS.lstoreN X0.here hx rfl (hb hby d1_30) rfl (l' := L11) (stAt hL7 hL11 rfl rfl) k) ?_
      obtain ⟨L12, hL12⟩ : ∃ z : Array Slot, z = #[.val (.ref a1), .val (.int (2 : Int32)), .val (.int p3), .val (.long y3_30_10), .second, .val (.int (2 : Int32))] := ⟨_, rfl⟩
      refine Gl.st (B := (s₁.setTop (mkF m 34 L12 []))) (fun t k => XS.iinc X0.here hx rfl (hb hby d1_31) (ldAt hL11 rfl) (l' := L12) (stAt' hL11 hL12 rfl rfl) k) ?_
      refine Gl.st (B := (s₁.setTop (mkF m 5 L12 []))) (fun t k => XS.goto X0.here hx rfl (pc0 := 34) (pc' := 5) rfl (hb hby d1_34) (by decide) (by decide) k) ?_
      refine Gl.st (B := (s₁.setTop (mkF m 7 L12 [(.int (2 : Int32))]))) (fun t k => XS.iload X0.here hx rfl (hb hby d1_5) (ldAt hL12 rfl) k) ?_
      refine Gl.st (B := (s₁.setTop (mkF m 8 L12 [(.int p3), (.int (2 : Int32))]))) (fun t k => XS.iloadN X0.here hx rfl (hb hby d1_7) (ldAt hL12 rfl) k) ?_
      by_cases hc8_13 : (2 : Int32) < p3
      · skip
        refine Gl.st (B := (s₁.setTop (mkF m 11 L12 []))) (fun t k => XS.icmpNo X0.here hx rfl (hb hby d1_8) rfl (tlt hc8_13).2.1 k) ?_
        refine Gl.st (B := (s₁.setTop (mkF m 12 L12 [(.long y3_30_10)]))) (fun t k => XS.lloadN X0.here hx rfl (hb hby d1_11) (ldAt hL12 rfl) k) ?_
        refine Gl.st (B := (s₁.setTop (mkF m 13 L12 [(.ref a1), (.long y3_30_10)]))) (fun t k => XS.aloadN X0.here hx rfl (hb hby d1_12) (ldAt hL12 rfl) rfl k) ?_
        refine Gl.st (B := (s₁.setTop (mkF m 14 L12 [(.int (2 : Int32)), (.ref a1), (.long y3_30_10)]))) (fun t k => XS.iloadN X0.here hx rfl (hb hby d1_13) (ldAt hL12 rfl) k) ?_
        refine Gl.st (B := (s₁.setTop (mkF m 16 L12 [(.int (2 : Int32)), (.int (2 : Int32)), (.ref a1), (.long y3_30_10)]))) (fun t k => XS.iload X0.here hx rfl (hb hby d1_14) (ldAt hL12 rfl) k) ?_
        refine Gl.st (B := (s₁.setTop (mkF m 17 L12 [(.int (4 : Int32)), (.ref a1), (.long y3_30_10)]))) (fun t k => XS.iadd X0.here hx rfl (hb hby d1_16) rfl k) ?_
        obtain ⟨cl14, Ar14, q14, S14, P14, H14, G14⟩ := (id V_a1)
        have hin17_14 : ¬ ((4 : Int32) < 0 ∨ cl14.slots.size ≤ ((4 : Int32)).toNatClampNeg) := inb_of S14 ⟨by decide, by decide⟩
        have hat14 := Has.at H14 hin17_14 (v := (.int el4)) rfl
        refine Gl.st (B := (s₁.setTop (mkF m 18 L12 [(.int el4), (.long y3_30_10)]))) (fun t k => X0.baloadBytes hx (j := (4 : Int32)) (v := (.int el4)) (by rw [e0]; exact Ar14.1) (State.isArrayOf_alike hZ.alike Ar14.2.1) Ar14.2.2 hin17_14 hat14 (g := (mkF m 17 L12 [(.int (4 : Int32)), (.ref a1), (.long y3_30_10)])) rfl rfl (hb hby d1_17) _ k) ?_
        refine Gl.st (B := (s₁.setTop (mkF m 21 L12 [(.int (255 : Int32)), (.int el4), (.long y3_30_10)]))) (fun t k => XS.sipush X0.here hx rfl (hb hby d1_18) k) ?_
        refine Gl.st (B := (s₁.setTop (mkF m 22 L12 [(.int (el4 &&& (255 : Int32))), (.long y3_30_10)]))) (fun t k => XS.iand X0.here hx rfl (hb hby d1_21) rfl k) ?_
        refine Gl.st (B := (s₁.setTop (mkF m 23 L12 [(.long ((el4 &&& (255 : Int32)).toInt64)), (.long y3_30_10)]))) (fun t k => XS.i2l X0.here hx rfl (hb hby d1_22) rfl k) ?_
        refine Gl.st (B := (s₁.setTop (mkF m 25 L12 [(.int (8 : Int32)), (.long ((el4 &&& (255 : Int32)).toInt64)), (.long y3_30_10)]))) (fun t k => XS.bipush X0.here hx rfl (hb hby d1_23) k) ?_
        refine Gl.st (B := (s₁.setTop (mkF m 27 L12 [(.int (2 : Int32)), (.int (8 : Int32)), (.long ((el4 &&& (255 : Int32)).toInt64)), (.long y3_30_10)]))) (fun t k => XS.iload X0.here hx rfl (hb hby d1_25) (ldAt hL12 rfl) k) ?_
        refine Gl.st (B := (s₁.setTop (mkF m 28 L12 [(.int (16 : Int32)), (.long ((el4 &&& (255 : Int32)).toInt64)), (.long y3_30_10)]))) (fun t k => XS.imul X0.here hx rfl (hb hby d1_27) rfl k) ?_
        refine Gl.st (B := (s₁.setTop (mkF m 29 L12 [(.long (((el4 &&& (255 : Int32)).toInt64) <<< ((16 : Int32) &&& 0x3f).toInt64)), (.long y3_30_10)]))) (fun t k => XS.lshl X0.here hx rfl (hb hby d1_28) rfl k) ?_
        refine Gl.st (B := (s₁.setTop (mkF m 30 L12 [(.long (y3_30_10 ||| (((el4 &&& (255 : Int32)).toInt64) <<< ((16 : Int32) &&& 0x3f).toInt64)))]))) (fun t k => XS.lor X0.here hx rfl (hb hby d1_29) rfl k) ?_
        obtain ⟨y3_30_15, hy3_30_15⟩ : ∃ z : Int64, z = (y3_30_10 ||| (((el4 &&& (255 : Int32)).toInt64) <<< ((16 : Int32) &&& 0x3f).toInt64)) := ⟨_, rfl⟩
        refine Gl.cast (B := (s₁.setTop (mkF m 30 L12 [(.long y3_30_15)]))) (by rw [hy3_30_15]) ?_
        obtain ⟨L16, hL16⟩ : ∃ z : Array Slot, z = #[.val (.ref a1), .val (.int (2 : Int32)), .val (.int p3), .val (.long y3_30_15), .second, .val (.int (2 : Int32))] := ⟨_, rfl⟩
        refine Gl.st (B := (s₁.setTop (mkF m 31 L16 []))) (fun t k => XS.lstoreN X0.here hx rfl (hb hby d1_30) rfl (l' := L16) (stAt hL12 hL16 rfl rfl) k) ?_
        obtain ⟨L17, hL17⟩ : ∃ z : Array Slot, z = #[.val (.ref a1), .val (.int (2 : Int32)), .val (.int p3), .val (.long y3_30_15), .second, .val (.int (3 : Int32))] := ⟨_, rfl⟩
        refine Gl.st (B := (s₁.setTop (mkF m 34 L17 []))) (fun t k => XS.iinc X0.here hx rfl (hb hby d1_31) (ldAt hL16 rfl) (l' := L17) (stAt' hL16 hL17 rfl rfl) k) ?_
        refine Gl.st (B := (s₁.setTop (mkF m 5 L17 []))) (fun t k => XS.goto X0.here hx rfl (pc0 := 34) (pc' := 5) rfl (hb hby d1_34) (by decide) (by decide) k) ?_
        refine Gl.st (B := (s₁.setTop (mkF m 7 L17 [(.int (3 : Int32))]))) (fun t k => XS.iload X0.here hx rfl (hb hby d1_5) (ldAt hL17 rfl) k) ?_
        refine Gl.st (B := (s₁.setTop (mkF m 8 L17 [(.int p3), (.int (3 : Int32))]))) (fun t k => XS.iloadN X0.here hx rfl (hb hby d1_7) (ldAt hL17 rfl) k) ?_
        by_cases hc8_18 : (3 : Int32) < p3
        · skip
          refine Gl.st (B := (s₁.setTop (mkF m 11 L17 []))) (fun t k => XS.icmpNo X0.here hx rfl (hb hby d1_8) rfl (tlt hc8_18).2.1 k) ?_
          refine Gl.st (B := (s₁.setTop (mkF m 12 L17 [(.long y3_30_15)]))) (fun t k => XS.lloadN X0.here hx rfl (hb hby d1_11) (ldAt hL17 rfl) k) ?_
          refine Gl.st (B := (s₁.setTop (mkF m 13 L17 [(.ref a1), (.long y3_30_15)]))) (fun t k => XS.aloadN X0.here hx rfl (hb hby d1_12) (ldAt hL17 rfl) rfl k) ?_
          refine Gl.st (B := (s₁.setTop (mkF m 14 L17 [(.int (2 : Int32)), (.ref a1), (.long y3_30_15)]))) (fun t k => XS.iloadN X0.here hx rfl (hb hby d1_13) (ldAt hL17 rfl) k) ?_
          refine Gl.st (B := (s₁.setTop (mkF m 16 L17 [(.int (3 : Int32)), (.int (2 : Int32)), (.ref a1), (.long y3_30_15)]))) (fun t k => XS.iload X0.here hx rfl (hb hby d1_14) (ldAt hL17 rfl) k) ?_
          refine Gl.st (B := (s₁.setTop (mkF m 17 L17 [(.int (5 : Int32)), (.ref a1), (.long y3_30_15)]))) (fun t k => XS.iadd X0.here hx rfl (hb hby d1_16) rfl k) ?_
          obtain ⟨cl19, Ar19, q19, S19, P19, H19, G19⟩ := (id V_a1)
          have hin17_19 : ¬ ((5 : Int32) < 0 ∨ cl19.slots.size ≤ ((5 : Int32)).toNatClampNeg) := inb_of S19 ⟨by decide, by decide⟩
          have hat19 := Has.at H19 hin17_19 (v := (.int el5)) rfl
          refine Gl.st (B := (s₁.setTop (mkF m 18 L17 [(.int el5), (.long y3_30_15)]))) (fun t k => X0.baloadBytes hx (j := (5 : Int32)) (v := (.int el5)) (by rw [e0]; exact Ar19.1) (State.isArrayOf_alike hZ.alike Ar19.2.1) Ar19.2.2 hin17_19 hat19 (g := (mkF m 17 L17 [(.int (5 : Int32)), (.ref a1), (.long y3_30_15)])) rfl rfl (hb hby d1_17) _ k) ?_
          refine Gl.st (B := (s₁.setTop (mkF m 21 L17 [(.int (255 : Int32)), (.int el5), (.long y3_30_15)]))) (fun t k => XS.sipush X0.here hx rfl (hb hby d1_18) k) ?_
          refine Gl.st (B := (s₁.setTop (mkF m 22 L17 [(.int (el5 &&& (255 : Int32))), (.long y3_30_15)]))) (fun t k => XS.iand X0.here hx rfl (hb hby d1_21) rfl k) ?_
          refine Gl.st (B := (s₁.setTop (mkF m 23 L17 [(.long ((el5 &&& (255 : Int32)).toInt64)), (.long y3_30_15)]))) (fun t k => XS.i2l X0.here hx rfl (hb hby d1_22) rfl k) ?_
          refine Gl.st (B := (s₁.setTop (mkF m 25 L17 [(.int (8 : Int32)), (.long ((el5 &&& (255 : Int32)).toInt64)), (.long y3_30_15)]))) (fun t k => XS.bipush X0.here hx rfl (hb hby d1_23) k) ?_
          refine Gl.st (B := (s₁.setTop (mkF m 27 L17 [(.int (3 : Int32)), (.int (8 : Int32)), (.long ((el5 &&& (255 : Int32)).toInt64)), (.long y3_30_15)]))) (fun t k => XS.iload X0.here hx rfl (hb hby d1_25) (ldAt hL17 rfl) k) ?_
          refine Gl.st (B := (s₁.setTop (mkF m 28 L17 [(.int (24 : Int32)), (.long ((el5 &&& (255 : Int32)).toInt64)), (.long y3_30_15)]))) (fun t k => XS.imul X0.here hx rfl (hb hby d1_27) rfl k) ?_
          refine Gl.st (B := (s₁.setTop (mkF m 29 L17 [(.long (((el5 &&& (255 : Int32)).toInt64) <<< ((24 : Int32) &&& 0x3f).toInt64)), (.long y3_30_15)]))) (fun t k => XS.lshl X0.here hx rfl (hb hby d1_28) rfl k) ?_
          refine Gl.st (B := (s₁.setTop (mkF m 30 L17 [(.long (y3_30_15 ||| (((el5 &&& (255 : Int32)).toInt64) <<< ((24 : Int32) &&& 0x3f).toInt64)))]))) (fun t k => XS.lor X0.here hx rfl (hb hby d1_29) rfl k) ?_
          obtain ⟨y3_30_20, hy3_30_20⟩ : ∃ z : Int64, z = (y3_30_15 ||| (((el5 &&& (255 : Int32)).toInt64) <<< ((24 : Int32) &&& 0x3f).toInt64)) := ⟨_, rfl⟩
          refine Gl.cast (B := (s₁.setTop (mkF m 30 L17 [(.long y3_30_20)]))) (by rw [hy3_30_20]) ?_
          obtain ⟨L21, hL21⟩ : ∃ z : Array Slot, z = #[.val (.ref a1), .val (.int (2 : Int32)), .val (.int p3), .val (.long y3_30_20), .second, .val (.int (3 : Int32))] := ⟨_, rfl⟩
          refine Gl.st (B := (s₁.setTop (mkF m 31 L21 []))) (fun t k => XS.lstoreN X0.here hx rfl (hb hby d1_30) rfl (l' := L21) (stAt hL17 hL21 rfl rfl) k) ?_
          obtain ⟨L22, hL22⟩ : ∃ z : Array Slot, z = #[.val (.ref a1), .val (.int (2 : Int32)), .val (.int p3), .val (.long y3_30_20), .second, .val (.int (4 : Int32))] := ⟨_, rfl⟩
          refine Gl.st (B := (s₁.setTop (mkF m 34 L22 []))) (fun t k => XS.iinc X0.here hx rfl (hb hby d1_31) (ldAt hL21 rfl) (l' := L22) (stAt' hL21 hL22 rfl rfl) k) ?_
          refine Gl.st (B := (s₁.setTop (mkF m 5 L22 []))) (fun t k => XS.goto X0.here hx rfl (pc0 := 34) (pc' := 5) rfl (hb hby d1_34) (by decide) (by decide) k) ?_
          refine Gl.st (B := (s₁.setTop (mkF m 7 L22 [(.int (4 : Int32))]))) (fun t k => XS.iload X0.here hx rfl (hb hby d1_5) (ldAt hL22 rfl) k) ?_
          refine Gl.st (B := (s₁.setTop (mkF m 8 L22 [(.int p3), (.int (4 : Int32))]))) (fun t k => XS.iloadN X0.here hx rfl (hb hby d1_7) (ldAt hL22 rfl) k) ?_
          refine Gl.st (B := (s₁.setTop (mkF m 37 L22 []))) (fun t k => XS.icmpYes X0.here hx rfl (pc0 := 8) (pc' := 37) rfl (hb hby d1_8) rfl (flt hq8_5).2.1 (by decide) (by decide) k) ?_
          refine Gl.st (B := (s₁.setTop (mkF m 38 L22 [(.long y3_30_20)]))) (fun t k => XS.lloadN X0.here hx rfl (hb hby d1_37) (ldAt hL22 rfl) k) ?_
          obtain ⟨fs, hr, hrun, hended, hW, hsame⟩ := X0.leave (v := some (.long y3_30_20)) (fun h => by rw [Bd.returns] at h; cases h)
          refine Gl.fin (X0.lreturnOut hx Bd.returns (hb hby d1_38) hr) hrun hended ⟨_, _, rfl, ?_, ⟨_, rfl⟩, hW, hsame.mono (by decide) (by decide)⟩
          show Q1o2 Z a1 p3 kx_a1 el0 el1 el2 el3 el4 el5 el6 el7 h0 n0 _ s₁.heap _
          rw [e0]
          exact ⟨(by subst hy3_30_20; subst hy3_30_15; subst hy3_30_10; subst hy3_30_5; rw [if_pos hc8_3, if_pos hc8_8, if_pos hc8_13, if_pos hc8_18]), N0, rfl⟩
        · skip
          refine Gl.st (B := (s₁.setTop (mkF m 37 L17 []))) (fun t k => XS.icmpYes X0.here hx rfl (pc0 := 8) (pc' := 37) rfl (hb hby d1_8) rfl (flt hc8_18).2.1 (by decide) (by decide) k) ?_
          refine Gl.st (B := (s₁.setTop (mkF m 38 L17 [(.long y3_30_15)]))) (fun t k => XS.lloadN X0.here hx rfl (hb hby d1_37) (ldAt hL17 rfl) k) ?_
          obtain ⟨fs, hr, hrun, hended, hW, hsame⟩ := X0.leave (v := some (.long y3_30_15)) (fun h => by rw [Bd.returns] at h; cases h)
          refine Gl.fin (X0.lreturnOut hx Bd.returns (hb hby d1_38) hr) hrun hended ⟨_, _, rfl, ?_, ⟨_, rfl⟩, hW, hsame.mono (by decide) (by decide)⟩
          show Q1o2 Z a1 p3 kx_a1 el0 el1 el2 el3 el4 el5 el6 el7 h0 n0 _ s₁.heap _
          rw [e0]
          exact ⟨(by subst hy3_30_15; subst hy3_30_10; subst hy3_30_5; rw [if_pos hc8_3, if_pos hc8_8, if_pos hc8_13, if_neg hc8_18]), N0, rfl⟩
      · skip
        refine Gl.st (B := (s₁.setTop (mkF m 37 L12 []))) (fun t k => XS.icmpYes X0.here hx rfl (pc0 := 8) (pc' := 37) rfl (hb hby d1_8) rfl (flt hc8_13).2.1 (by decide) (by decide) k) ?_
        refine Gl.st (B := (s₁.setTop (mkF m 38 L12 [(.long y3_30_10)]))) (fun t k => XS.lloadN X0.here hx rfl (hb hby d1_37) (ldAt hL12 rfl) k) ?_
        obtain ⟨fs, hr, hrun, hended, hW, hsame⟩ := X0.leave (v := some (.long y3_30_10)) (fun h => by rw [Bd.returns] at h; cases h)
        refine Gl.fin (X0.lreturnOut hx Bd.returns (hb hby d1_38) hr) hrun hended ⟨_, _, rfl, ?_, ⟨_, rfl⟩, hW, hsame.mono (by decide) (by decide)⟩
        show Q1o2 Z a1 p3 kx_a1 el0 el1 el2 el3 el4 el5 el6 el7 h0 n0 _ s₁.heap _
        rw [e0]
        exact ⟨(by subst hy3_30_10; subst hy3_30_5; rw [if_pos hc8_3, if_pos hc8_8, if_neg hc8_13]), N0, rfl⟩
    · skip
      refine Gl.st (B := (s₁.setTop (mkF m 37 L7 []))) (fun t k => XS.icmpYes X0.here hx rfl (pc0 := 8) (pc' := 37) rfl (hb hby d1_8) rfl (flt hc8_8).2.1 (by decide) (by decide) k) ?_
      refine Gl.st (B := (s₁.setTop (mkF m 38 L7 [(.long y3_30_5)]))) (fun t k => XS.lloadN X0.here hx rfl (hb hby d1_37) (ldAt hL7 rfl) k) ?_
      obtain ⟨fs, hr, hrun, hended, hW, hsame⟩ := X0.leave (v := some (.long y3_30_5)) (fun h => by rw [Bd.returns] at h; cases h)
      refine Gl.fin (X0.lreturnOut hx Bd.returns (hb hby d1_38) hr) hrun hended ⟨_, _, rfl, ?_, ⟨_, rfl⟩, hW, hsame.mono (by decide) (by decide)⟩
      show Q1o2 Z a1 p3 kx_a1 el0 el1 el2 el3 el4 el5 el6 el7 h0 n0 _ s₁.heap _
      rw [e0]
      exact ⟨(by subst hy3_30_5; rw [if_pos hc8_3, if_neg hc8_8]), N0, rfl⟩
  · skip
    refine Gl.st (B := (s₁.setTop (mkF m 37 L2 []))) (fun t k => XS.icmpYes X0.here hx rfl (pc0 := 8) (pc' := 37) rfl (hb hby d1_8) rfl (flt hc8_3).2.1 (by decide) (by decide) k) ?_
    refine Gl.st (B := (s₁.setTop (mkF m 38 L2 [(.long (0 : Int64))]))) (fun t k => XS.lloadN X0.here hx rfl (hb hby d1_37) (ldAt hL2 rfl) k) ?_
    obtain ⟨fs, hr, hrun, hended, hW, hsame⟩ := X0.leave (v := some (.long (0 : Int64))) (fun h => by rw [Bd.returns] at h; cases h)
    refine Gl.fin (X0.lreturnOut hx Bd.returns (hb hby d1_38) hr) hrun hended ⟨_, _, rfl, ?_, ⟨_, rfl⟩, hW, hsame.mono (by decide) (by decide)⟩
    show Q1o2 Z a1 p3 kx_a1 el0 el1 el2 el3 el4 el5 el6 el7 h0 n0 _ s₁.heap _
    rw [e0]
    exact ⟨(by rw [if_neg hc8_3]), N0, rfl⟩
theorem ef_1o3 (m : MethodId) (a1 : Addr) (p3 : Int32) : entryFrame m #[(.ref a1), (.int (3 : Int32)), (.int p3)] 6 = mkF m 0 #[.val (.ref a1), .val (.int (3 : Int32)), .val (.int p3), .unset, .unset, .unset] [] := by first | (simp [entryFrame, mkF, argsToLocals, Value.category]; done) | rfl
def Q1o3 (Z : State) (a1 : Addr) (p3 : Int32) (kx_a1 : ClassId) (el0 : Int32) (el1 : Int32) (el2 : Int32) (el3 : Int32) (el4 : Int32) (el5 : Int32) (el6 : Int32) (el7 : Int32) (h0 : Heap) (n0 : Nat) (v : Option Value) (h : Heap) (L : List Loc) : Prop := v = some (.long (if (0 : Int32) < p3 then (if (1 : Int32) < p3 then (if (2 : Int32) < p3 then (if (3 : Int32) < p3 then (((((((((0 : Int64) ||| (((el3 &&& (255 : Int32)).toInt64) <<< ((0 : Int32) &&& 0x3f).toInt64))) ||| (((el4 &&& (255 : Int32)).toInt64) <<< ((8 : Int32) &&& 0x3f).toInt64))) ||| (((el5 &&& (255 : Int32)).toInt64) <<< ((16 : Int32) &&& 0x3f).toInt64))) ||| (((el6 &&& (255 : Int32)).toInt64) <<< ((24 : Int32) &&& 0x3f).toInt64))) else (((((((0 : Int64) ||| (((el3 &&& (255 : Int32)).toInt64) <<< ((0 : Int32) &&& 0x3f).toInt64))) ||| (((el4 &&& (255 : Int32)).toInt64) <<< ((8 : Int32) &&& 0x3f).toInt64))) ||| (((el5 &&& (255 : Int32)).toInt64) <<< ((16 : Int32) &&& 0x3f).toInt64)))) else (((((0 : Int64) ||| (((el3 &&& (255 : Int32)).toInt64) <<< ((0 : Int32) &&& 0x3f).toInt64))) ||| (((el4 &&& (255 : Int32)).toInt64) <<< ((8 : Int32) &&& 0x3f).toInt64)))) else (((0 : Int64) ||| (((el3 &&& (255 : Int32)).toInt64) <<< ((0 : Int32) &&& 0x3f).toInt64)))) else (0 : Int64))) ∧ Fr n0 L ∧ h = h0
set_option maxRecDepth 65536 in
set_option maxHeartbeats 40000000 in
theorem rm1o3 (l : Launch) (Z : State) (a0 : Array Value) (hw : ∀ d ∈ tables_1, d.before a0 Z = true) (ws : List Jvm.Cond) (a1 : Addr) (p3 : Int32) (kx_a1 : ClassId) (el0 : Int32) (el1 : Int32) (el2 : Int32) (el3 : Int32) (el4 : Int32) (el5 : Int32) (el6 : Int32) (el7 : Int32) (h0 : Heap) (n0 : Nat) (Z0 : n0 ≤ h0.size) (V_a1 : Arv Z h0 a1 kx_a1 .byte (8 : Int32) [(.int el0), (.int el1), (.int el2), (.int el3), (.int el4), (.int el5), (.int el6), (.int el7)] (.int (0 : Int32))) (hq8_5 : ¬ ((4 : Int32) < p3)) :
    MetFree l (⟨"com/example/requeue/requeue/connection/SnappyBlock", "readLittleEndian", "([BII)J"⟩ : MethodName) (head1 (Jvm.Cond.code (⟨"com/example/requeue/requeue/connection/SnappyBlock", "readLittleEndian", "([BII)J"⟩ : MethodName) prog_8_method_7_code 6 (some .long) :: ws) ({ frames := 0, cells := 0, slots := 0, locals := 0 } : Room)) (fun a U => a = #[(.ref a1), (.int (3 : Int32)), (.int p3)] ∧ Z.Warmed39 U.vm ∧ U.heap = h0) (fun _ _ _ _ _ => True) (fun _ U o U' => ∃ v L, o = .returned v ∧ Q1o3 Z a1 p3 kx_a1 el0 el1 el2 el3 el4 el5 el6 el7 h0 n0 v U'.heap L ∧ FrameEnd U o U' L ({ frames := 0, cells := 0, slots := 0, locals := 0 } : Room).cells ({ frames := 0, cells := 0, slots := 0, locals := 0 } : Room).slots) := by
  refine MetFree.of_bodySF (plainFor_of_name pn_1) hisR ?_
  intro p e s m args below meth c s₁ Bd hml0 hP hK
  obtain ⟨rfl, hZ, hh⟩ := hP
  have hx := Bd.exec
  have hby := Bd.bytes
  have hml : c.maxLocals = 6 := hml0
  have hown : s.vm.findClass "com/example/requeue/requeue/connection/SnappyBlock" = some m.cls := findClass_of_methodNamed Bd.named
  have hnm := (name_of_methodNamed Bd.named Bd.method).1
  have X0 : Stand p l e ({ frames := 0, cells := 0, slots := 0, locals := 0 } : Room) s m #[(.ref a1), (.int (3 : Int32)), (.int p3)] below meth c s₁ [] 0 0 := Stand.of_body Bd
  have e0 : s₁.heap = h0 := by rw [← hh, Bd.state]; rfl
  have N0 := Fr.nil n0
  have K0 : Keep h0 h0 [] := Keep.refl h0 _
  refine (show Gl p e below (fun o U' => ∃ v L, o = .returned v ∧ Q1o3 Z a1 p3 kx_a1 el0 el1 el2 el3 el4 el5 el6 el7 h0 n0 v U'.heap L ∧ FrameEnd s o U' L ({ frames := 0, cells := 0, slots := 0, locals := 0 } : Room).cells ({ frames := 0, cells := 0, slots := 0, locals := 0 } : Room).slots) (s₁.setTop (entryFrame m #[(.ref a1), (.int (3 : Int32)), (.int p3)] 6)) from ?_)
  obtain ⟨L0, hL0⟩ : ∃ z : Array Slot, z = #[.val (.ref a1), .val (.int (3 : Int32)), .val (.int p3), .unset, .unset, .unset] := ⟨_, rfl⟩
  refine Gl.st (B := (s₁.setTop (mkF m 0 L0 []))) (fun t k => castTop (efAt hL0 (ef_1o3 m a1 p3)) k) ?_
  refine Gl.st (B := (s₁.setTop (mkF m 1 L0 [(.long (0 : Int64))]))) (fun t k => XS.lconst X0.here hx rfl (hb hby d1_0) k) ?_
  obtain ⟨L1, hL1⟩ : ∃ z : Array Slot, z = #[.val (.ref a1), .val (.int (3 : Int32)), .val (.int p3), .val (.long (0 : Int64)), .second, .unset] := ⟨_, rfl⟩
  refine Gl.st (B := (s₁.setTop (mkF m 2 L1 []))) (fun t k => XS.lstoreN X0.here hx rfl (hb hby d1_1) rfl (l' := L1) (stAt hL0 hL1 rfl rfl) k) ?_
  refine Gl.st (B := (s₁.setTop (mkF m 3 L1 [(.int (0 : Int32))]))) (fun t k => XS.iconst X0.here hx rfl (hb hby d1_2) k) ?_
  obtain ⟨L2, hL2⟩ : ∃ z : Array Slot, z = #[.val (.ref a1), .val (.int (3 : Int32)), .val (.int p3), .val (.long (0 : Int64)), .second, .val (.int (0 : Int32))] := ⟨_, rfl⟩
  refine Gl.st (B := (s₁.setTop (mkF m 5 L2 []))) (fun t k => XS.istore X0.here hx rfl (hb hby d1_3) rfl (l' := L2) (stAt hL1 hL2 rfl rfl) k) ?_
  refine Gl.st (B := (s₁.setTop (mkF m 7 L2 [(.int (0 : Int32))]))) (fun t k => XS.iload X0.here hx rfl (hb hby d1_5) (ldAt hL2 rfl) k) ?_
  refine Gl.st (B := (s₁.setTop (mkF m 8 L2 [(.int p3), (.int (0 : Int32))]))) (fun t k => XS.iloadN X0.here hx rfl (hb hby d1_7) (ldAt hL2 rfl) k) ?_
  by_cases hc8_3 : (0 : Int32) < p3
  · skip
    refine Gl.st (B := (s₁.setTop (mkF m 11 L2 []))) (fun t k => XS.icmpNo X0.here hx rfl (hb hby d1_8) rfl (tlt hc8_3).2.1 k) ?_
    refine Gl.st (B := (s₁.setTop (mkF m 12 L2 [(.long (0 : Int64))]))) (fun t k => XS.lloadN X0.here hx rfl (hb hby d1_11) (ldAt hL2 rfl) k) ?_
    refine Gl.st (B := (s₁.setTop (mkF m 13 L2 [(.ref a1), (.long (0 : Int64))]))) (fun t k => XS.aloadN X0.here hx rfl (hb hby d1_12) (ldAt hL2 rfl) rfl k) ?_
    refine Gl.st (B := (s₁.setTop (mkF m 14 L2 [(.int (3 : Int32)), (.ref a1), (.long (0 : Int64))]))) (fun t k => XS.iloadN X0.here hx rfl (hb hby d1_13) (ldAt hL2 rfl) k) ?_
    refine Gl.st (B := (s₁.setTop (mkF m 16 L2 [(.int (0 : Int32)), (.int (3 : Int32)), (.ref a1), (.long (0 : Int64))]))) (fun t k => XS.iload X0.here hx rfl (hb hby d1_14) (ldAt hL2 rfl) k) ?_
    refine Gl.st (B := (s₁.setTop (mkF m 17 L2 [(.int (3 : Int32)), (.ref a1), (.long (0 : Int64))]))) (fun t k => XS.iadd X0.here hx rfl (hb hby d1_16) rfl k) ?_
    obtain ⟨cl4, Ar4, q4, S4, P4, H4, G4⟩ := (id V_a1)
    have hin17_4 : ¬ ((3 : Int32) < 0 ∨ cl4.slots.size ≤ ((3 : Int32)).toNatClampNeg) := inb_of S4 ⟨by decide, by decide⟩
    have hat4 := Has.at H4 hin17_4 (v := (.int el3)) rfl
    refine Gl.st (B := (s₁.setTop (mkF m 18 L2 [(.int el3), (.long (0 : Int64))]))) (fun t k => X0.baloadBytes hx (j := (3 : Int32)) (v := (.int el3)) (by rw [e0]; exact Ar4.1) (State.isArrayOf_alike hZ.alike Ar4.2.1) Ar4.2.2 hin17_4 hat4 (g := (mkF m 17 L2 [(.int (3 : Int32)), (.ref a1), (.long (0 : Int64))])) rfl rfl (hb hby d1_17) _ k) ?_
    refine Gl.st (B := (s₁.setTop (mkF m 21 L2 [(.int (255 : Int32)), (.int el3), (.long (0 : Int64))]))) (fun t k => XS.sipush X0.here hx rfl (hb hby d1_18) k) ?_
    refine Gl.st (B := (s₁.setTop (mkF m 22 L2 [(.int (el3 &&& (255 : Int32))), (.long (0 : Int64))]))) (fun t k => XS.iand X0.here hx rfl (hb hby d1_21) rfl k) ?_
    refine Gl.st (B := (s₁.setTop (mkF m 23 L2 [(.long ((el3 &&& (255 : Int32)).toInt64)), (.long (0 : Int64))]))) (fun t k => XS.i2l X0.here hx rfl (hb hby d1_22) rfl k) ?_
    refine Gl.st (B := (s₁.setTop (mkF m 25 L2 [(.int (8 : Int32)), (.long ((el3 &&& (255 : Int32)).toInt64)), (.long (0 : Int64))]))) (fun t k => XS.bipush X0.here hx rfl (hb hby d1_23) k) ?_
    refine Gl.st (B := (s₁.setTop (mkF m 27 L2 [(.int (0 : Int32)), (.int (8 : Int32)), (.long ((el3 &&& (255 : Int32)).toInt64)), (.long (0 : Int64))]))) (fun t k => XS.iload X0.here hx rfl (hb hby d1_25) (ldAt hL2 rfl) k) ?_
    refine Gl.st (B := (s₁.setTop (mkF m 28 L2 [(.int (0 : Int32)), (.long ((el3 &&& (255 : Int32)).toInt64)), (.long (0 : Int64))]))) (fun t k => XS.imul X0.here hx rfl (hb hby d1_27) rfl k) ?_
    refine Gl.st (B := (s₁.setTop (mkF m 29 L2 [(.long (((el3 &&& (255 : Int32)).toInt64) <<< ((0 : Int32) &&& 0x3f).toInt64)), (.long (0 : Int64))]))) (fun t k => XS.lshl X0.here hx rfl (hb hby d1_28) rfl k) ?_
    refine Gl.st (B := (s₁.setTop (mkF m 30 L2 [(.long ((0 : Int64) ||| (((el3 &&& (255 : Int32)).toInt64) <<< ((0 : Int32) &&& 0x3f).toInt64)))]))) (fun t k => XS.lor X0.here hx rfl (hb hby d1_29) rfl k) ?_
    obtain ⟨y3_30_5, hy3_30_5⟩ : ∃ z : Int64, z = ((0 : Int64) ||| (((el3 &&& (255 : Int32)).toInt64) <<< ((0 : Int32) &&& 0x3f).toInt64)) := ⟨_, rfl⟩
    refine Gl.cast (B := (s₁.setTop (mkF m 30 L2 [(.long y3_30_5)]))) (by rw [hy3_30_5]) ?_
    obtain ⟨L6, hL6⟩ : ∃ z : Array Slot, z = #[.val (.ref a1), .val (.int (3 : Int32)), .val (.int p3), .val (.long y3_30_5), .second, .val (.int (0 : Int32))] := ⟨_, rfl⟩
    refine Gl.st (B := (s₁.setTop (mkF m 31 L6 []))) (fun t k => XS.lstoreN X0.here hx rfl (hb hby d1_30) rfl (l' := L6) (stAt hL2 hL6 rfl rfl) k) ?_
    obtain ⟨L7, hL7⟩ : ∃ z : Array Slot, z = #[.val (.ref a1), .val (.int (3 : Int32)), .val (.int p3), .val (.long y3_30_5), .second, .val (.int (1 : Int32))] := ⟨_, rfl⟩
    refine Gl.st (B := (s₁.setTop (mkF m 34 L7 []))) (fun t k => XS.iinc X0.here hx rfl (hb hby d1_31) (ldAt hL6 rfl) (l' := L7) (stAt' hL6 hL7 rfl rfl) k) ?_
    refine Gl.st (B := (s₁.setTop (mkF m 5 L7 []))) (fun t k => XS.goto X0.here hx rfl (pc0 := 34) (pc' := 5) rfl (hb hby d1_34) (by decide) (by decide) k) ?_
    refine Gl.st (B := (s₁.setTop (mkF m 7 L7 [(.int (1 : Int32))]))) (fun t k => XS.iload X0.here hx rfl (hb hby d1_5) (ldAt hL7 rfl) k) ?_
    refine Gl.st (B := (s₁.setTop (mkF m 8 L7 [(.int p3), (.int (1 : Int32))]))) (fun t k => XS.iloadN X0.here hx rfl (hb hby d1_7) (ldAt hL7 rfl) k) ?_
    by_cases hc8_8 : (1 : Int32) < p3
    · skip
      refine Gl.st (B := (s₁.setTop (mkF m 11 L7 []))) (fun t k => XS.icmpNo X0.here hx rfl (hb hby d1_8) rfl (tlt hc8_8).2.1 k) ?_
      refine Gl.st (B := (s₁.setTop (mkF m 12 L7 [(.long y3_30_5)]))) (fun t k => XS.lloadN X0.here hx rfl (hb hby d1_11) (ldAt hL7 rfl) k) ?_
      refine Gl.st (B := (s₁.setTop (mkF m 13 L7 [(.ref a1), (.long y3_30_5)]))) (fun t k => XS.aloadN X0.here hx rfl (hb hby d1_12) (ldAt hL7 rfl) rfl k) ?_
      refine Gl.st (B := (s₁.setTop (mkF m 14 L7 [(.int (3 : Int32)), (.ref a1), (.long y3_30_5)]))) (fun t k => XS.iloadN X0.here hx rfl (hb hby d1_13) (ldAt hL7 rfl) k) ?_
      refine Gl.st (B := (s₁.setTop (mkF m 16 L7 [(.int (1 : Int32)), (.int (3 : Int32)), (.ref a1), (.long y3_30_5)]))) (fun t k => XS.iload X0.here hx rfl (hb hby d1_14) (ldAt hL7 rfl) k) ?_
      refine Gl.st (B := (s₁.setTop (mkF m 17 L7 [(.int (4 : Int32)), (.ref a1), (.long y3_30_5)]))) (fun t k => XS.iadd X0.here hx rfl (hb hby d1_16) rfl k) ?_
      obtain ⟨cl9, Ar9, q9, S9, P9, H9, G9⟩ := (id V_a1)
      have hin17_9 : ¬ ((4 : Int32) < 0 ∨ cl9.slots.size ≤ ((4 : Int32)).toNatClampNeg) := inb_of S9 ⟨by decide, by decide⟩
      have hat9 := Has.at H9 hin17_9 (v := (.int el4)) rfl
      refine Gl.st (B := (s₁.setTop (mkF m 18 L7 [(.int el4), (.long y3_30_5)]))) (fun t k => X0.baloadBytes hx (j := (4 : Int32)) (v := (.int el4)) (by rw [e0]; exact Ar9.1) (State.isArrayOf_alike hZ.alike Ar9.2.1) Ar9.2.2 hin17_9 hat9 (g := (mkF m 17 L7 [(.int (4 : Int32)), (.ref a1), (.long y3_30_5)])) rfl rfl (hb hby d1_17) _ k) ?_
      refine Gl.st (B := (s₁.setTop (mkF m 21 L7 [(.int (255 : Int32)), (.int el4), (.long y3_30_5)]))) (fun t k => XS.sipush X0.here hx rfl (hb hby d1_18) k) ?_
      refine Gl.st (B := (s₁.setTop (mkF m 22 L7 [(.int (el4 &&& (255 : Int32))), (.long y3_30_5)]))) (fun t k => XS.iand X0.here hx rfl (hb hby d1_21) rfl k) ?_
      refine Gl.st (B := (s₁.setTop (mkF m 23 L7 [(.long ((el4 &&& (255 : Int32)).toInt64)), (.long y3_30_5)]))) (fun t k => XS.i2l X0.here hx rfl (hb hby d1_22) rfl k) ?_
      refine Gl.st (B := (s₁.setTop (mkF m 25 L7 [(.int (8 : Int32)), (.long ((el4 &&& (255 : Int32)).toInt64)), (.long y3_30_5)]))) (fun t k => XS.bipush X0.here hx rfl (hb hby d1_23) k) ?_
      refine Gl.st (B := (s₁.setTop (mkF m 27 L7 [(.int (1 : Int32)), (.int (8 : Int32)), (.long ((el4 &&& (255 : Int32)).toInt64)), (.long y3_30_5)]))) (fun t k => XS.iload X0.here hx rfl (hb hby d1_25) (ldAt hL7 rfl) k) ?_
      refine Gl.st (B := (s₁.setTop (mkF m 28 L7 [(.int (8 : Int32)), (.long ((el4 &&& (255 : Int32)).toInt64)), (.long y3_30_5)]))) (fun t k => XS.imul X0.here hx rfl (hb hby d1_27) rfl k) ?_
      refine Gl.st (B := (s₁.setTop (mkF m 29 L7 [(.long (((el4 &&& (255 : Int32)).toInt64) <<< ((8 : Int32) &&& 0x3f).toInt64)), (.long y3_30_5)]))) (fun t k => XS.lshl X0.here hx rfl (hb hby d1_28) rfl k) ?_
      refine Gl.st (B := (s₁.setTop (mkF m 30 L7 [(.long (y3_30_5 ||| (((el4 &&& (255 : Int32)).toInt64) <<< ((8 : Int32) &&& 0x3f).toInt64)))]))) (fun t k => XS.lor X0.here hx rfl (hb hby d1_29) rfl k) ?_
      obtain ⟨y3_30_10, hy3_30_10⟩ : ∃ z : Int64, z = (y3_30_5 ||| (((el4 &&& (255 : Int32)).toInt64) <<< ((8 : Int32) &&& 0x3f).toInt64)) := ⟨_, rfl⟩
      refine Gl.cast (B := (s₁.setTop (mkF m 30 L7 [(.long y3_30_10)]))) (by rw [hy3_30_10]) ?_
      obtain ⟨L11, hL11⟩ : ∃ z : Array Slot, z = #[.val (.ref a1), .val (.int (3 : Int32)), .val (.int p3), .val (.long y3_30_10), .second, .val (.int (1 : Int32))] := ⟨_, rfl⟩
      refine Gl.st (B := (s₁.setTop (mkF m 31 L11 []))) (fun t k => XS.lstoreN X0.here hx rfl (hb hby d1_30) rfl (l' := L11) (stAt hL7 hL11 rfl rfl) k) ?_
      obtain ⟨L12, hL12⟩ : ∃ z : Array Slot, z = #[.val (.ref a1), .val (.int (3 : Int32)), .val (.int p3), .val (.long y3_30_10), .second, .val (.int (2 : Int32))] := ⟨_, rfl⟩
      refine Gl.st (B := (s₁.setTop (mkF m 34 L12 []))) (fun t k => XS.iinc X0.here hx rfl (hb hby d1_31) (ldAt hL11 rfl) (l' := L12) (stAt' hL11 hL12 rfl rfl) k) ?_
      refine Gl.st (B := (s₁.setTop (mkF m 5 L12 []))) (fun t k => XS.goto X0.here hx rfl (pc0 := 34) (pc' := 5) rfl (hb hby d1_34) (by decide) (by decide) k) ?_
      refine Gl.st (B := (s₁.setTop (mkF m 7 L12 [(.int (2 : Int32))]))) (fun t k => XS.iload X0.here hx rfl (hb hby d1_5) (ldAt hL12 rfl) k) ?_
      refine Gl.st (B := (s₁.setTop (mkF m 8 L12 [(.int p3), (.int (2 : Int32))]))) (fun t k => XS.iloadN X0.here hx rfl (hb hby d1_7) (ldAt hL12 rfl) k) ?_
      by_cases hc8_13 : (2 : Int32) < p3
      · skip
        refine Gl.st (B := (s₁.setTop (mkF m 11 L12 []))) (fun t k => XS.icmpNo X0.here hx rfl (hb hby d1_8) rfl (tlt hc8_13).2.1 k) ?_
        refine Gl.st (B := (s₁.setTop (mkF m 12 L12 [(.long y3_30_10)]))) (fun t k => XS.lloadN X0.here hx rfl (hb hby d1_11) (ldAt hL12 rfl) k) ?_
        refine Gl.st (B := (s₁.setTop (mkF m 13 L12 [(.ref a1), (.long y3_30_10)]))) (fun t k => XS.aloadN X0.here hx rfl (hb hby d1_12) (ldAt hL12 rfl) rfl k) ?_
        refine Gl.st (B := (s₁.setTop (mkF m 14 L12 [(.int (3 : Int32)), (.ref a1), (.long y3_30_10)]))) (fun t k => XS.iloadN X0.here hx rfl (hb hby d1_13) (ldAt hL12 rfl) k) ?_
        refine Gl.st (B := (s₁.setTop (mkF m 16 L12 [(.int (2 : Int32)), (.int (3 : Int32)), (.ref a1), (.long y3_30_10)]))) (fun t k => XS.iload X0.here hx rfl (hb hby d1_14) (ldAt hL12 rfl) k) ?_
        refine Gl.st (B := (s₁.setTop (mkF m 17 L12 [(.int (5 : Int32)), (.ref a1), (.long y3_30_10)]))) (fun t k => XS.iadd X0.here hx rfl (hb hby d1_16) rfl k) ?_
        obtain ⟨cl14, Ar14, q14, S14, P14, H14, G14⟩ := (id V_a1)
        have hin17_14 : ¬ ((5 : Int32) < 0 ∨ cl14.slots.size ≤ ((5 : Int32)).toNatClampNeg) := inb_of S14 ⟨by decide, by decide⟩
        have hat14 := Has.at H14 hin17_14 (v := (.int el5)) rfl
        refine Gl.st (B := (s₁.setTop (mkF m 18 L12 [(.int el5), (.long y3_30_10)]))) (fun t k => X0.baloadBytes hx (j := (5 : Int32)) (v := (.int el5)) (by rw [e0]; exact Ar14.1) (State.isArrayOf_alike hZ.alike Ar14.2.1) Ar14.2.2 hin17_14 hat14 (g := (mkF m 17 L12 [(.int (5 : Int32)), (.ref a1), (.long y3_30_10)])) rfl rfl (hb hby d1_17) _ k) ?_
        refine Gl.st (B := (s₁.setTop (mkF m 21 L12 [(.int (255 : Int32)), (.int el5), (.long y3_30_10)]))) (fun t k => XS.sipush X0.here hx rfl (hb hby d1_18) k) ?_
        refine Gl.st (B := (s₁.setTop (mkF m 22 L12 [(.int (el5 &&& (255 : Int32))), (.long y3_30_10)]))) (fun t k => XS.iand X0.here hx rfl (hb hby d1_21) rfl k) ?_
        refine Gl.st (B := (s₁.setTop (mkF m 23 L12 [(.long ((el5 &&& (255 : Int32)).toInt64)), (.long y3_30_10)]))) (fun t k => XS.i2l X0.here hx rfl (hb hby d1_22) rfl k) ?_
        refine Gl.st (B := (s₁.setTop (mkF m 25 L12 [(.int (8 : Int32)), (.long ((el5 &&& (255 : Int32)).toInt64)), (.long y3_30_10)]))) (fun t k => XS.bipush X0.here hx rfl (hb hby d1_23) k) ?_
        refine Gl.st (B := (s₁.setTop (mkF m 27 L12 [(.int (2 : Int32)), (.int (8 : Int32)), (.long ((el5 &&& (255 : Int32)).toInt64)), (.long y3_30_10)]))) (fun t k => XS.iload X0.here hx rfl (hb hby d1_25) (ldAt hL12 rfl) k) ?_
        refine Gl.st (B := (s₁.setTop (mkF m 28 L12 [(.int (16 : Int32)), (.long ((el5 &&& (255 : Int32)).toInt64)), (.long y3_30_10)]))) (fun t k => XS.imul X0.here hx rfl (hb hby d1_27) rfl k) ?_
        refine Gl.st (B := (s₁.setTop (mkF m 29 L12 [(.long (((el5 &&& (255 : Int32)).toInt64) <<< ((16 : Int32) &&& 0x3f).toInt64)), (.long y3_30_10)]))) (fun t k => XS.lshl X0.here hx rfl (hb hby d1_28) rfl k) ?_
        refine Gl.st (B := (s₁.setTop (mkF m 30 L12 [(.long (y3_30_10 ||| (((el5 &&& (255 : Int32)).toInt64) <<< ((16 : Int32) &&& 0x3f).toInt64)))]))) (fun t k => XS.lor X0.here hx rfl (hb hby d1_29) rfl k) ?_
        obtain ⟨y3_30_15, hy3_30_15⟩ : ∃ z : Int64, z = (y3_30_10 ||| (((el5 &&& (255 : Int32)).toInt64) <<< ((16 : Int32) &&& 0x3f).toInt64)) := ⟨_, rfl⟩
        refine Gl.cast (B := (s₁.setTop (mkF m 30 L12 [(.long y3_30_15)]))) (by rw [hy3_30_15]) ?_
        obtain ⟨L16, hL16⟩ : ∃ z : Array Slot, z = #[.val (.ref a1), .val (.int (3 : Int32)), .val (.int p3), .val (.long y3_30_15), .second, .val (.int (2 : Int32))] := ⟨_, rfl⟩
        refine Gl.st (B := (s₁.setTop (mkF m 31 L16 []))) (fun t k => XS.lstoreN X0.here hx rfl (hb hby d1_30) rfl (l' := L16) (stAt hL12 hL16 rfl rfl) k) ?_
        obtain ⟨L17, hL17⟩ : ∃ z : Array Slot, z = #[.val (.ref a1), .val (.int (3 : Int32)), .val (.int p3), .val (.long y3_30_15), .second, .val (.int (3 : Int32))] := ⟨_, rfl⟩
        refine Gl.st (B := (s₁.setTop (mkF m 34 L17 []))) (fun t k => XS.iinc X0.here hx rfl (hb hby d1_31) (ldAt hL16 rfl) (l' := L17) (stAt' hL16 hL17 rfl rfl) k) ?_
        refine Gl.st (B := (s₁.setTop (mkF m 5 L17 []))) (fun t k => XS.goto X0.here hx rfl (pc0 := 34) (pc' := 5) rfl (hb hby d1_34) (by decide) (by decide) k) ?_
        refine Gl.st (B := (s₁.setTop (mkF m 7 L17 [(.int (3 : Int32))]))) (fun t k => XS.iload X0.here hx rfl (hb hby d1_5) (ldAt hL17 rfl) k) ?_
        refine Gl.st (B := (s₁.setTop (mkF m 8 L17 [(.int p3), (.int (3 : Int32))]))) (fun t k => XS.iloadN X0.here hx rfl (hb hby d1_7) (ldAt hL17 rfl) k) ?_
        by_cases hc8_18 : (3 : Int32) < p3
        · skip
          refine Gl.st (B := (s₁.setTop (mkF m 11 L17 []))) (fun t k => XS.icmpNo X0.here hx rfl (hb hby d1_8) rfl (tlt hc8_18).2.1 k) ?_
          refine Gl.st (B := (s₁.setTop (mkF m 12 L17 [(.long y3_30_15)]))) (fun t k => XS.lloadN X0.here hx rfl (hb hby d1_11) (ldAt hL17 rfl) k) ?_
          refine Gl.st (B := (s₁.setTop (mkF m 13 L17 [(.ref a1), (.long y3_30_15)]))) (fun t k => XS.aloadN X0.here hx rfl (hb hby d1_12) (ldAt hL17 rfl) rfl k) ?_
          refine Gl.st (B := (s₁.setTop (mkF m 14 L17 [(.int (3 : Int32)), (.ref a1), (.long y3_30_15)]))) (fun t k => XS.iloadN X0.here hx rfl (hb hby d1_13) (ldAt hL17 rfl) k) ?_
          refine Gl.st (B := (s₁.setTop (mkF m 16 L17 [(.int (3 : Int32)), (.int (3 : Int32)), (.ref a1), (.long y3_30_15)]))) (fun t k => XS.iload X0.here hx rfl (hb hby d1_14) (ldAt hL17 rfl) k) ?_
          refine Gl.st (B := (s₁.setTop (mkF m 17 L17 [(.int (6 : Int32)), (.ref a1), (.long y3_30_15)]))) (fun t k => XS.iadd X0.here hx rfl (hb hby d1_16) rfl k) ?_
          obtain ⟨cl19, Ar19, q19, S19, P19, H19, G19⟩ := (id V_a1)
          have hin17_19 : ¬ ((6 : Int32) < 0 ∨ cl19.slots.size ≤ ((6 : Int32)).toNatClampNeg) := inb_of S19 ⟨by decide, by decide⟩
          have hat19 := Has.at H19 hin17_19 (v := (.int el6)) rfl
          refine Gl.st (B := (s₁.setTop (mkF m 18 L17 [(.int el6), (.long y3_30_15)]))) (fun t k => X0.baloadBytes hx (j := (6 : Int32)) (v := (.int el6)) (by rw [e0]; exact Ar19.1) (State.isArrayOf_alike hZ.alike Ar19.2.1) Ar19.2.2 hin17_19 hat19 (g := (mkF m 17 L17 [(.int (6 : Int32)), (.ref a1), (.long y3_30_15)])) rfl rfl (hb hby d1_17) _ k) ?_
          refine Gl.st (B := (s₁.setTop (mkF m 21 L17 [(.int (255 : Int32)), (.int el6), (.long y3_30_15)]))) (fun t k => XS.sipush X0.here hx rfl (hb hby d1_18) k) ?_
          refine Gl.st (B := (s₁.setTop (mkF m 22 L17 [(.int (el6 &&& (255 : Int32))), (.long y3_30_15)]))) (fun t k => XS.iand X0.here hx rfl (hb hby d1_21) rfl k) ?_
          refine Gl.st (B := (s₁.setTop (mkF m 23 L17 [(.long ((el6 &&& (255 : Int32)).toInt64)), (.long y3_30_15)]))) (fun t k => XS.i2l X0.here hx rfl (hb hby d1_22) rfl k) ?_
          refine Gl.st (B := (s₁.setTop (mkF m 25 L17 [(.int (8 : Int32)), (.long ((el6 &&& (255 : Int32)).toInt64)), (.long y3_30_15)]))) (fun t k => XS.bipush X0.here hx rfl (hb hby d1_23) k) ?_
          refine Gl.st (B := (s₁.setTop (mkF m 27 L17 [(.int (3 : Int32)), (.int (8 : Int32)), (.long ((el6 &&& (255 : Int32)).toInt64)), (.long y3_30_15)]))) (fun t k => XS.iload X0.here hx rfl (hb hby d1_25) (ldAt hL17 rfl) k) ?_
          refine Gl.st (B := (s₁.setTop (mkF m 28 L17 [(.int (24 : Int32)), (.long ((el6 &&& (255 : Int32)).toInt64)), (.long y3_30_15)]))) (fun t k => XS.imul X0.here hx rfl (hb hby d1_27) rfl k) ?_
          refine Gl.st (B := (s₁.setTop (mkF m 29 L17 [(.long (((el6 &&& (255 : Int32)).toInt64) <<< ((24 : Int32) &&& 0x3f).toInt64)), (.long y3_30_15)]))) (fun t k => XS.lshl X0.here hx rfl (hb hby d1_28) rfl k) ?_
          refine Gl.st (B := (s₁.setTop (mkF m 30 L17 [(.long (y3_30_15 ||| (((el6 &&& (255 : Int32)).toInt64) <<< ((24 : Int32) &&& 0x3f).toInt64)))]))) (fun t k => XS.lor X0.here hx rfl (hb hby d1_29) rfl k) ?_
          obtain ⟨y3_30_20, hy3_30_20⟩ : ∃ z : Int64, z = (y3_30_15 ||| (((el6 &&& (255 : Int32)).toInt64) <<< ((24 : Int32) &&& 0x3f).toInt64)) := ⟨_, rfl⟩
          refine Gl.cast (B := (s₁.setTop (mkF m 30 L17 [(.long y3_30_20)]))) (by rw [hy3_30_20]) ?_
          obtain ⟨L21, hL21⟩ : ∃ z : Array Slot, z = #[.val (.ref a1), .val (.int (3 : Int32)), .val (.int p3), .val (.long y3_30_20), .second, .val (.int (3 : Int32))] := ⟨_, rfl⟩
          refine Gl.st (B := (s₁.setTop (mkF m 31 L21 []))) (fun t k => XS.lstoreN X0.here hx rfl (hb hby d1_30) rfl (l' := L21) (stAt hL17 hL21 rfl rfl) k) ?_
          obtain ⟨L22, hL22⟩ : ∃ z : Array Slot, z = #[.val (.ref a1), .val (.int (3 : Int32)), .val (.int p3), .val (.long y3_30_20), .second, .val (.int (4 : Int32))] := ⟨_, rfl⟩
          refine Gl.st (B := (s₁.setTop (mkF m 34 L22 []))) (fun t k => XS.iinc X0.here hx rfl (hb hby d1_31) (ldAt hL21 rfl) (l' := L22) (stAt' hL21 hL22 rfl rfl) k) ?_
          refine Gl.st (B := (s₁.setTop (mkF m 5 L22 []))) (fun t k => XS.goto X0.here hx rfl (pc0 := 34) (pc' := 5) rfl (hb hby d1_34) (by decide) (by decide) k) ?_
          refine Gl.st (B := (s₁.setTop (mkF m 7 L22 [(.int (4 : Int32))]))) (fun t k => XS.iload X0.here hx rfl (hb hby d1_5) (ldAt hL22 rfl) k) ?_
          refine Gl.st (B := (s₁.setTop (mkF m 8 L22 [(.int p3), (.int (4 : Int32))]))) (fun t k => XS.iloadN X0.here hx rfl (hb hby d1_7) (ldAt hL22 rfl) k) ?_
          refine Gl.st (B := (s₁.setTop (mkF m 37 L22 []))) (fun t k => XS.icmpYes X0.here hx rfl (pc0 := 8) (pc' := 37) rfl (hb hby d1_8) rfl (flt hq8_5).2.1 (by decide) (by decide) k) ?_
          refine Gl.st (B := (s₁.setTop (mkF m 38 L22 [(.long y3_30_20)]))) (fun t k => XS.lloadN X0.here hx rfl (hb hby d1_37) (ldAt hL22 rfl) k) ?_
          obtain ⟨fs, hr, hrun, hended, hW, hsame⟩ := X0.leave (v := some (.long y3_30_20)) (fun h => by rw [Bd.returns] at h; cases h)
          refine Gl.fin (X0.lreturnOut hx Bd.returns (hb hby d1_38) hr) hrun hended ⟨_, _, rfl, ?_, ⟨_, rfl⟩, hW, hsame.mono (by decide) (by decide)⟩
          show Q1o3 Z a1 p3 kx_a1 el0 el1 el2 el3 el4 el5 el6 el7 h0 n0 _ s₁.heap _
          rw [e0]
          exact ⟨(by subst hy3_30_20; subst hy3_30_15; subst hy3_30_10; subst hy3_30_5; rw [if_pos hc8_3, if_pos hc8_8, if_pos hc8_13, if_pos hc8_18]), N0, rfl⟩
        · skip
          refine Gl.st (B := (s₁.setTop (mkF m 37 L17 []))) (fun t k => XS.icmpYes X0.here hx rfl (pc0 := 8) (pc' := 37) rfl (hb hby d1_8) rfl (flt hc8_18).2.1 (by decide) (by decide) k) ?_
          refine Gl.st (B := (s₁.setTop (mkF m 38 L17 [(.long y3_30_15)]))) (fun t k => XS.lloadN X0.here hx rfl (hb hby d1_37) (ldAt hL17 rfl) k) ?_
          obtain ⟨fs, hr, hrun, hended, hW, hsame⟩ := X0.leave (v := some (.long y3_30_15)) (fun h => by rw [Bd.returns] at h; cases h)
          refine Gl.fin (X0.lreturnOut hx Bd.returns (hb hby d1_38) hr) hrun hended ⟨_, _, rfl, ?_, ⟨_, rfl⟩, hW, hsame.mono (by decide) (by decide)⟩
          show Q1o3 Z a1 p3 kx_a1 el0 el1 el2 el3 el4 el5 el6 el7 h0 n0 _ s₁.heap _
          rw [e0]
          exact ⟨(by subst hy3_30_15; subst hy3_30_10; subst hy3_30_5; rw [if_pos hc8_3, if_pos hc8_8, if_pos hc8_13, if_neg hc8_18]), N0, rfl⟩
      · skip
        refine Gl.st (B := (s₁.setTop (mkF m 37 L12 []))) (fun t k => XS.icmpYes X0.here hx rfl (pc0 := 8) (pc' := 37) rfl (hb hby d1_8) rfl (flt hc8_13).2.1 (by decide) (by decide) k) ?_
        refine Gl.st (B := (s₁.setTop (mkF m 38 L12 [(.long y3_30_10)]))) (fun t k => XS.lloadN X0.here hx rfl (hb hby d1_37) (ldAt hL12 rfl) k) ?_
        obtain ⟨fs, hr, hrun, hended, hW, hsame⟩ := X0.leave (v := some (.long y3_30_10)) (fun h => by rw [Bd.returns] at h; cases h)
        refine Gl.fin (X0.lreturnOut hx Bd.returns (hb hby d1_38) hr) hrun hended ⟨_, _, rfl, ?_, ⟨_, rfl⟩, hW, hsame.mono (by decide) (by decide)⟩
        show Q1o3 Z a1 p3 kx_a1 el0 el1 el2 el3 el4 el5 el6 el7 h0 n0 _ s₁.heap _
        rw [e0]
        exact ⟨(by subst hy3_30_10; subst hy3_30_5; rw [if_pos hc8_3, if_pos hc8_8, if_neg hc8_13]), N0, rfl⟩
    · skip
      refine Gl.st (B := (s₁.setTop (mkF m 37 L7 []))) (fun t k => XS.icmpYes X0.here hx rfl (pc0 := 8) (pc' := 37) rfl (hb hby d1_8) rfl (flt hc8_8).2.1 (by decide) (by decide) k) ?_
      refine Gl.st (B := (s₁.setTop (mkF m 38 L7 [(.long y3_30_5)]))) (fun t k => XS.lloadN X0.here hx rfl (hb hby d1_37) (ldAt hL7 rfl) k) ?_
      obtain ⟨fs, hr, hrun, hended, hW, hsame⟩ := X0.leave (v := some (.long y3_30_5)) (fun h => by rw [Bd.returns] at h; cases h)
      refine Gl.fin (X0.lreturnOut hx Bd.returns (hb hby d1_38) hr) hrun hended ⟨_, _, rfl, ?_, ⟨_, rfl⟩, hW, hsame.mono (by decide) (by decide)⟩
      show Q1o3 Z a1 p3 kx_a1 el0 el1 el2 el3 el4 el5 el6 el7 h0 n0 _ s₁.heap _
      rw [e0]
      exact ⟨(by subst hy3_30_5; rw [if_pos hc8_3, if_neg hc8_8]), N0, rfl⟩
  · skip
    refine Gl.st (B := (s₁.setTop (mkF m 37 L2 []))) (fun t k => XS.icmpYes X0.here hx rfl (pc0 := 8) (pc' := 37) rfl (hb hby d1_8) rfl (flt hc8_3).2.1 (by decide) (by decide) k) ?_
    refine Gl.st (B := (s₁.setTop (mkF m 38 L2 [(.long (0 : Int64))]))) (fun t k => XS.lloadN X0.here hx rfl (hb hby d1_37) (ldAt hL2 rfl) k) ?_
    obtain ⟨fs, hr, hrun, hended, hW, hsame⟩ := X0.leave (v := some (.long (0 : Int64))) (fun h => by rw [Bd.returns] at h; cases h)
    refine Gl.fin (X0.lreturnOut hx Bd.returns (hb hby d1_38) hr) hrun hended ⟨_, _, rfl, ?_, ⟨_, rfl⟩, hW, hsame.mono (by decide) (by decide)⟩
    show Q1o3 Z a1 p3 kx_a1 el0 el1 el2 el3 el4 el5 el6 el7 h0 n0 _ s₁.heap _
    rw [e0]
    exact ⟨(by rw [if_neg hc8_3]), N0, rfl⟩
theorem pn_0 : plainName "com/example/requeue/requeue/connection/SnappyBlockReadLittleEndianPinLaw" = true := by first | (simp [plainName, overriddenIn]; done) | decide +kernel
theorem pd_0_0 : parseMethodDescriptor "([BII)J" = some ⟨[(.array .byte), .int, .int], some .long⟩ := by decide +kernel
theorem ef_0 (m : MethodId) (p1 : Int32) (p2 : Int32) (p3 : Int32) (p4 : Int32) (p5 : Int32) (p6 : Int32) : entryFrame m #[(.int p1), (.int p2), (.int p3), (.int p4), (.int p5), (.int p6)] maxLocals = mkF m 0 #[.val (.int p1), .val (.int p2), .val (.int p3), .val (.int p4), .val (.int p5), .val (.int p6), .unset, .unset, .unset, .unset, .unset, .unset, .unset, .unset] [] := by first | (simp [entryFrame, mkF, argsToLocals, Value.category, maxLocals]; done) | rfl
theorem own_0_hp190_61 (p6 : Int32) (y7_12_3 : Int32) (hy7_12_3 : y7_12_3 = (((p6.toUInt32 >>> ((2 : Int32) &&& 31).toUInt32).toInt32) % (5 : Int32)))  : ¬ ((4 : Int32) < y7_12_3) := by
  rcases own_cnt _ _ hy7_12_3 with h | h | h | h | h <;> rw [h] <;> decide
theorem own_0_hc200_64 (p6 : Int32) (y7_12_3 : Int32) (p1 : Int32) (x73_27 : Int32) (p2 : Int32) (x82_30 : Int32) (p3 : Int32) (x91_33 : Int32) (p4 : Int32) (x100_36 : Int32) (r190_62 : Int64) (v121_10_42 : Int64) (v142_10_47 : Int64) (v163_10_52 : Int64) (v184_10_57 : Int64) (hy7_12_3 : y7_12_3 = (((p6.toUInt32 >>> ((2 : Int32) &&& 31).toUInt32).toInt32) % (5 : Int32))) (hx73_27 : x73_27 = (p1.toInt8.toInt32)) (hx82_30 : x82_30 = (p2.toInt8.toInt32)) (hx91_33 : x91_33 = (p3.toInt8.toInt32)) (hx100_36 : x100_36 = (p4.toInt8.toInt32)) (hr190_62 : r190_62 = (if (0 : Int32) < y7_12_3 then (if (1 : Int32) < y7_12_3 then (if (2 : Int32) < y7_12_3 then (if (3 : Int32) < y7_12_3 then (((((((((0 : Int64) ||| ((((nar .byte x73_27) &&& (255 : Int32)).toInt64) <<< ((0 : Int32) &&& 0x3f).toInt64))) ||| ((((nar .byte x82_30) &&& (255 : Int32)).toInt64) <<< ((8 : Int32) &&& 0x3f).toInt64))) ||| ((((nar .byte x91_33) &&& (255 : Int32)).toInt64) <<< ((16 : Int32) &&& 0x3f).toInt64))) ||| ((((nar .byte x100_36) &&& (255 : Int32)).toInt64) <<< ((24 : Int32) &&& 0x3f).toInt64))) else (((((((0 : Int64) ||| ((((nar .byte x73_27) &&& (255 : Int32)).toInt64) <<< ((0 : Int32) &&& 0x3f).toInt64))) ||| ((((nar .byte x82_30) &&& (255 : Int32)).toInt64) <<< ((8 : Int32) &&& 0x3f).toInt64))) ||| ((((nar .byte x91_33) &&& (255 : Int32)).toInt64) <<< ((16 : Int32) &&& 0x3f).toInt64)))) else (((((0 : Int64) ||| ((((nar .byte x73_27) &&& (255 : Int32)).toInt64) <<< ((0 : Int32) &&& 0x3f).toInt64))) ||| ((((nar .byte x82_30) &&& (255 : Int32)).toInt64) <<< ((8 : Int32) &&& 0x3f).toInt64)))) else (((0 : Int64) ||| ((((nar .byte x73_27) &&& (255 : Int32)).toInt64) <<< ((0 : Int32) &&& 0x3f).toInt64)))) else (0 : Int64))) (hv121_10_42 : v121_10_42 = (if y7_12_3 < (1 : Int32) then (0 : Int64) else ((0 : Int64) + ((p1.toInt64) &&& (255 : Int64))))) (hv142_10_47 : v142_10_47 = (if y7_12_3 < (2 : Int32) then v121_10_42 else (v121_10_42 + (((p2.toInt64) &&& (255 : Int64)) * (256 : Int64))))) (hv163_10_52 : v163_10_52 = (if y7_12_3 < (3 : Int32) then v142_10_47 else (v142_10_47 + (((p3.toInt64) &&& (255 : Int64)) * (65536 : Int64))))) (hv184_10_57 : v184_10_57 = (if y7_12_3 < (4 : Int32) then v163_10_52 else (v163_10_52 + (((p4.toInt64) &&& (255 : Int64)) * (16777216 : Int64)))))  : r190_62 = v184_10_57 := by
  have n1 := own_byte p1 x73_27 hx73_27
  have m1 := own_bl p1
  generalize (((nar .byte x73_27) &&& (255 : Int32)).toInt64) = A1 at *
  generalize ((p1.toInt64) &&& (255 : Int64)) = B1 at *
  have s1 := c_lshl A1 (0 : Int32) 0 (by decide)
  generalize (A1 <<< ((0 : Int32) &&& 0x3f).toInt64) = S1 at *
  have g1 := rng64 S1
  have e1 : S1.toInt = (p1.toInt % 256) * 1 := by omega
  clear s1 g1 n1 hx73_27
  have o1 := c_orL' (0 : Int64) S1 0 (by decide) 1 rfl (by omega) (by first | decide | omega) (by first | decide | omega)
  generalize ((0 : Int64) ||| S1) = O1 at *
  have f1 := rng64 O1
  have d1 : O1.toInt = p1.toInt % 256 := by simp only [Int64.reduceToInt] at o1; omega
  clear o1 f1 e1
  have n2 := own_byte p2 x82_30 hx82_30
  have m2 := own_bl p2
  generalize (((nar .byte x82_30) &&& (255 : Int32)).toInt64) = A2 at *
  generalize ((p2.toInt64) &&& (255 : Int64)) = B2 at *
  have s2 := c_lshl A2 (8 : Int32) 8 (by decide)
  generalize (A2 <<< ((8 : Int32) &&& 0x3f).toInt64) = S2 at *
  have g2 := rng64 S2
  have e2 : S2.toInt = (p2.toInt % 256) * 256 := by omega
  clear s2 g2 n2 hx82_30
  have o2 := c_orL' O1 S2 8 (by decide) 256 rfl (by omega) (by first | decide | omega) (by first | decide | omega)
  generalize (O1 ||| S2) = O2 at *
  have f2 := rng64 O2
  have d2 : O2.toInt = O1.toInt + (p2.toInt % 256) * 256 := by omega
  clear o2 f2 e2
  have t2 := c_lmul B2 (256 : Int64)
  simp only [Int64.reduceToInt] at t2
  generalize (B2 * (256 : Int64)) = M2 at *
  have u2 := rng64 M2
  have w2 : M2.toInt = (p2.toInt % 256) * 256 := by omega
  clear t2 u2 m2
  have n3 := own_byte p3 x91_33 hx91_33
  have m3 := own_bl p3
  generalize (((nar .byte x91_33) &&& (255 : Int32)).toInt64) = A3 at *
  generalize ((p3.toInt64) &&& (255 : Int64)) = B3 at *
  have s3 := c_lshl A3 (16 : Int32) 16 (by decide)
  generalize (A3 <<< ((16 : Int32) &&& 0x3f).toInt64) = S3 at *
  have g3 := rng64 S3
  have e3 : S3.toInt = (p3.toInt % 256) * 65536 := by omega
  clear s3 g3 n3 hx91_33
  have o3 := c_orL' O2 S3 16 (by decide) 65536 rfl (by omega) (by first | decide | omega) (by first | decide | omega)
  generalize (O2 ||| S3) = O3 at *
  have f3 := rng64 O3
  have d3 : O3.toInt = O2.toInt + (p3.toInt % 256) * 65536 := by omega
  clear o3 f3 e3
  have t3 := c_lmul B3 (65536 : Int64)
  simp only [Int64.reduceToInt] at t3
  generalize (B3 * (65536 : Int64)) = M3 at *
  have u3 := rng64 M3
  have w3 : M3.toInt = (p3.toInt % 256) * 65536 := by omega
  clear t3 u3 m3
  have n4 := own_byte p4 x100_36 hx100_36
  have m4 := own_bl p4
  generalize (((nar .byte x100_36) &&& (255 : Int32)).toInt64) = A4 at *
  generalize ((p4.toInt64) &&& (255 : Int64)) = B4 at *
  have s4 := c_lshl A4 (24 : Int32) 24 (by decide)
  generalize (A4 <<< ((24 : Int32) &&& 0x3f).toInt64) = S4 at *
  have g4 := rng64 S4
  have e4 : S4.toInt = (p4.toInt % 256) * 16777216 := by omega
  clear s4 g4 n4 hx100_36
  have o4 := c_orL' O3 S4 24 (by decide) 16777216 rfl (by omega) (by first | decide | omega) (by first | decide | omega)
  generalize (O3 ||| S4) = O4 at *
  have f4 := rng64 O4
  have d4 : O4.toInt = O3.toInt + (p4.toInt % 256) * 16777216 := by omega
  clear o4 f4 e4
  have t4 := c_lmul B4 (16777216 : Int64)
  simp only [Int64.reduceToInt] at t4
  generalize (B4 * (16777216 : Int64)) = M4 at *
  have u4 := rng64 M4
  have w4 : M4.toInt = (p4.toInt % 256) * 16777216 := by omega
  clear t4 u4 m4
  have q1 := c_ladd (0 : Int64) B1
  simp only [Int64.reduceToInt] at q1
  generalize ((0 : Int64) + B1) = V1 at *
  have j1 := rng64 V1
  have z1 : V1.toInt = p1.toInt % 256 := by omega
  clear q1 j1 m1
  rcases own_cnt _ _ hy7_12_3 with h | h | h | h | h
  all_goals clear hy7_12_3
  all_goals subst h
  all_goals simp only [Int32.reduceLT, ↓reduceIte] at hr190_62 hv121_10_42 hv142_10_47 hv163_10_52 hv184_10_57
  all_goals have y0 := c_ladd v121_10_42 M2
  all_goals have k0 := rng64 (v121_10_42 + M2)
  all_goals have y1 := c_ladd v142_10_47 M3
  all_goals have k1 := rng64 (v142_10_47 + M3)
  all_goals have y2 := c_ladd v163_10_52 M4
  all_goals have k2 := rng64 (v163_10_52 + M4)
  all_goals subst hv184_10_57 hv163_10_52 hv142_10_47 hv121_10_42 hr190_62
  all_goals rw [← Int64.toInt_inj]
  all_goals try simp only [Int64.reduceToInt] at *
  all_goals omega
theorem own_0_hp190_99 (p6 : Int32) (y7_12_3 : Int32) (hy7_12_3 : y7_12_3 = (((p6.toUInt32 >>> ((2 : Int32) &&& 31).toUInt32).toInt32) % (5 : Int32)))  : ¬ ((4 : Int32) < y7_12_3) := by
  rcases own_cnt _ _ hy7_12_3 with h | h | h | h | h <;> rw [h] <;> decide
theorem own_0_hc200_102 (p6 : Int32) (y7_12_3 : Int32) (p1 : Int32) (x73_65 : Int32) (p2 : Int32) (x82_68 : Int32) (p3 : Int32) (x91_71 : Int32) (p4 : Int32) (x100_74 : Int32) (r190_100 : Int64) (v121_10_80 : Int64) (v142_10_85 : Int64) (v163_10_90 : Int64) (v184_10_95 : Int64) (hy7_12_3 : y7_12_3 = (((p6.toUInt32 >>> ((2 : Int32) &&& 31).toUInt32).toInt32) % (5 : Int32))) (hx73_65 : x73_65 = (p1.toInt8.toInt32)) (hx82_68 : x82_68 = (p2.toInt8.toInt32)) (hx91_71 : x91_71 = (p3.toInt8.toInt32)) (hx100_74 : x100_74 = (p4.toInt8.toInt32)) (hr190_100 : r190_100 = (if (0 : Int32) < y7_12_3 then (if (1 : Int32) < y7_12_3 then (if (2 : Int32) < y7_12_3 then (if (3 : Int32) < y7_12_3 then (((((((((0 : Int64) ||| ((((nar .byte x73_65) &&& (255 : Int32)).toInt64) <<< ((0 : Int32) &&& 0x3f).toInt64))) ||| ((((nar .byte x82_68) &&& (255 : Int32)).toInt64) <<< ((8 : Int32) &&& 0x3f).toInt64))) ||| ((((nar .byte x91_71) &&& (255 : Int32)).toInt64) <<< ((16 : Int32) &&& 0x3f).toInt64))) ||| ((((nar .byte x100_74) &&& (255 : Int32)).toInt64) <<< ((24 : Int32) &&& 0x3f).toInt64))) else (((((((0 : Int64) ||| ((((nar .byte x73_65) &&& (255 : Int32)).toInt64) <<< ((0 : Int32) &&& 0x3f).toInt64))) ||| ((((nar .byte x82_68) &&& (255 : Int32)).toInt64) <<< ((8 : Int32) &&& 0x3f).toInt64))) ||| ((((nar .byte x91_71) &&& (255 : Int32)).toInt64) <<< ((16 : Int32) &&& 0x3f).toInt64)))) else (((((0 : Int64) ||| ((((nar .byte x73_65) &&& (255 : Int32)).toInt64) <<< ((0 : Int32) &&& 0x3f).toInt64))) ||| ((((nar .byte x82_68) &&& (255 : Int32)).toInt64) <<< ((8 : Int32) &&& 0x3f).toInt64)))) else (((0 : Int64) ||| ((((nar .byte x73_65) &&& (255 : Int32)).toInt64) <<< ((0 : Int32) &&& 0x3f).toInt64)))) else (0 : Int64))) (hv121_10_80 : v121_10_80 = (if y7_12_3 < (1 : Int32) then (0 : Int64) else ((0 : Int64) + ((p1.toInt64) &&& (255 : Int64))))) (hv142_10_85 : v142_10_85 = (if y7_12_3 < (2 : Int32) then v121_10_80 else (v121_10_80 + (((p2.toInt64) &&& (255 : Int64)) * (256 : Int64))))) (hv163_10_90 : v163_10_90 = (if y7_12_3 < (3 : Int32) then v142_10_85 else (v142_10_85 + (((p3.toInt64) &&& (255 : Int64)) * (65536 : Int64))))) (hv184_10_95 : v184_10_95 = (if y7_12_3 < (4 : Int32) then v163_10_90 else (v163_10_90 + (((p4.toInt64) &&& (255 : Int64)) * (16777216 : Int64)))))  : r190_100 = v184_10_95 := by
  have n1 := own_byte p1 x73_65 hx73_65
  have m1 := own_bl p1
  generalize (((nar .byte x73_65) &&& (255 : Int32)).toInt64) = A1 at *
  generalize ((p1.toInt64) &&& (255 : Int64)) = B1 at *
  have s1 := c_lshl A1 (0 : Int32) 0 (by decide)
  generalize (A1 <<< ((0 : Int32) &&& 0x3f).toInt64) = S1 at *
  have g1 := rng64 S1
  have e1 : S1.toInt = (p1.toInt % 256) * 1 := by omega
  clear s1 g1 n1 hx73_65
  have o1 := c_orL' (0 : Int64) S1 0 (by decide) 1 rfl (by omega) (by first | decide | omega) (by first | decide | omega)
  generalize ((0 : Int64) ||| S1) = O1 at *
  have f1 := rng64 O1
  have d1 : O1.toInt = p1.toInt % 256 := by simp only [Int64.reduceToInt] at o1; omega
  clear o1 f1 e1
  have n2 := own_byte p2 x82_68 hx82_68
  have m2 := own_bl p2
  generalize (((nar .byte x82_68) &&& (255 : Int32)).toInt64) = A2 at *
  generalize ((p2.toInt64) &&& (255 : Int64)) = B2 at *
  have s2 := c_lshl A2 (8 : Int32) 8 (by decide)
  generalize (A2 <<< ((8 : Int32) &&& 0x3f).toInt64) = S2 at *
  have g2 := rng64 S2
  have e2 : S2.toInt = (p2.toInt % 256) * 256 := by omega
  clear s2 g2 n2 hx82_68
  have o2 := c_orL' O1 S2 8 (by decide) 256 rfl (by omega) (by first | decide | omega) (by first | decide | omega)
  generalize (O1 ||| S2) = O2 at *
  have f2 := rng64 O2
  have d2 : O2.toInt = O1.toInt + (p2.toInt % 256) * 256 := by omega
  clear o2 f2 e2
  have t2 := c_lmul B2 (256 : Int64)
  simp only [Int64.reduceToInt] at t2
  generalize (B2 * (256 : Int64)) = M2 at *
  have u2 := rng64 M2
  have w2 : M2.toInt = (p2.toInt % 256) * 256 := by omega
  clear t2 u2 m2
  have n3 := own_byte p3 x91_71 hx91_71
  have m3 := own_bl p3
  generalize (((nar .byte x91_71) &&& (255 : Int32)).toInt64) = A3 at *
  generalize ((p3.toInt64) &&& (255 : Int64)) = B3 at *
  have s3 := c_lshl A3 (16 : Int32) 16 (by decide)
  generalize (A3 <<< ((16 : Int32) &&& 0x3f).toInt64) = S3 at *
  have g3 := rng64 S3
  have e3 : S3.toInt = (p3.toInt % 256) * 65536 := by omega
  clear s3 g3 n3 hx91_71
  have o3 := c_orL' O2 S3 16 (by decide) 65536 rfl (by omega) (by first | decide | omega) (by first | decide | omega)
  generalize (O2 ||| S3) = O3 at *
  have f3 := rng64 O3
  have d3 : O3.toInt = O2.toInt + (p3.toInt % 256) * 65536 := by omega
  clear o3 f3 e3
  have t3 := c_lmul B3 (65536 : Int64)
  simp only [Int64.reduceToInt] at t3
  generalize (B3 * (65536 : Int64)) = M3 at *
  have u3 := rng64 M3
  have w3 : M3.toInt = (p3.toInt % 256) * 65536 := by omega
  clear t3 u3 m3
  have n4 := own_byte p4 x100_74 hx100_74
  have m4 := own_bl p4
  generalize (((nar .byte x100_74) &&& (255 : Int32)).toInt64) = A4 at *
  generalize ((p4.toInt64) &&& (255 : Int64)) = B4 at *
  have s4 := c_lshl A4 (24 : Int32) 24 (by decide)
  generalize (A4 <<< ((24 : Int32) &&& 0x3f).toInt64) = S4 at *
  have g4 := rng64 S4
  have e4 : S4.toInt = (p4.toInt % 256) * 16777216 := by omega
  clear s4 g4 n4 hx100_74
  have o4 := c_orL' O3 S4 24 (by decide) 16777216 rfl (by omega) (by first | decide | omega) (by first | decide | omega)
  generalize (O3 ||| S4) = O4 at *
  have f4 := rng64 O4
  have d4 : O4.toInt = O3.toInt + (p4.toInt % 256) * 16777216 := by omega
  clear o4 f4 e4
  have t4 := c_lmul B4 (16777216 : Int64)
  simp only [Int64.reduceToInt] at t4
  generalize (B4 * (16777216 : Int64)) = M4 at *
  have u4 := rng64 M4
  have w4 : M4.toInt = (p4.toInt % 256) * 16777216 := by omega
  clear t4 u4 m4
  have q1 := c_ladd (0 : Int64) B1
  simp only [Int64.reduceToInt] at q1
  generalize ((0 : Int64) + B1) = V1 at *
  have j1 := rng64 V1
  have z1 : V1.toInt = p1.toInt % 256 := by omega
  clear q1 j1 m1
  rcases own_cnt _ _ hy7_12_3 with h | h | h | h | h
  all_goals clear hy7_12_3
  all_goals subst h
  all_goals simp only [Int32.reduceLT, ↓reduceIte] at hr190_100 hv121_10_80 hv142_10_85 hv163_10_90 hv184_10_95
  all_goals have y0 := c_ladd v121_10_80 M2
  all_goals have k0 := rng64 (v121_10_80 + M2)
  all_goals have y1 := c_ladd v142_10_85 M3
  all_goals have k1 := rng64 (v142_10_85 + M3)
  all_goals have y2 := c_ladd v163_10_90 M4
  all_goals have k2 := rng64 (v163_10_90 + M4)
  all_goals subst hv184_10_95 hv163_10_90 hv142_10_85 hv121_10_80 hr190_100
  all_goals rw [← Int64.toInt_inj]
  all_goals try simp only [Int64.reduceToInt] at *
  all_goals omega
theorem own_0_hp190_137 (p6 : Int32) (y7_12_3 : Int32) (hy7_12_3 : y7_12_3 = (((p6.toUInt32 >>> ((2 : Int32) &&& 31).toUInt32).toInt32) % (5 : Int32)))  : ¬ ((4 : Int32) < y7_12_3) := by
  rcases own_cnt _ _ hy7_12_3 with h | h | h | h | h <;> rw [h] <;> decide
theorem own_0_hc200_140 (p6 : Int32) (y7_12_3 : Int32) (p1 : Int32) (x73_103 : Int32) (p2 : Int32) (x82_106 : Int32) (p3 : Int32) (x91_109 : Int32) (p4 : Int32) (x100_112 : Int32) (r190_138 : Int64) (v121_10_118 : Int64) (v142_10_123 : Int64) (v163_10_128 : Int64) (v184_10_133 : Int64) (hy7_12_3 : y7_12_3 = (((p6.toUInt32 >>> ((2 : Int32) &&& 31).toUInt32).toInt32) % (5 : Int32))) (hx73_103 : x73_103 = (p1.toInt8.toInt32)) (hx82_106 : x82_106 = (p2.toInt8.toInt32)) (hx91_109 : x91_109 = (p3.toInt8.toInt32)) (hx100_112 : x100_112 = (p4.toInt8.toInt32)) (hr190_138 : r190_138 = (if (0 : Int32) < y7_12_3 then (if (1 : Int32) < y7_12_3 then (if (2 : Int32) < y7_12_3 then (if (3 : Int32) < y7_12_3 then (((((((((0 : Int64) ||| ((((nar .byte x73_103) &&& (255 : Int32)).toInt64) <<< ((0 : Int32) &&& 0x3f).toInt64))) ||| ((((nar .byte x82_106) &&& (255 : Int32)).toInt64) <<< ((8 : Int32) &&& 0x3f).toInt64))) ||| ((((nar .byte x91_109) &&& (255 : Int32)).toInt64) <<< ((16 : Int32) &&& 0x3f).toInt64))) ||| ((((nar .byte x100_112) &&& (255 : Int32)).toInt64) <<< ((24 : Int32) &&& 0x3f).toInt64))) else (((((((0 : Int64) ||| ((((nar .byte x73_103) &&& (255 : Int32)).toInt64) <<< ((0 : Int32) &&& 0x3f).toInt64))) ||| ((((nar .byte x82_106) &&& (255 : Int32)).toInt64) <<< ((8 : Int32) &&& 0x3f).toInt64))) ||| ((((nar .byte x91_109) &&& (255 : Int32)).toInt64) <<< ((16 : Int32) &&& 0x3f).toInt64)))) else (((((0 : Int64) ||| ((((nar .byte x73_103) &&& (255 : Int32)).toInt64) <<< ((0 : Int32) &&& 0x3f).toInt64))) ||| ((((nar .byte x82_106) &&& (255 : Int32)).toInt64) <<< ((8 : Int32) &&& 0x3f).toInt64)))) else (((0 : Int64) ||| ((((nar .byte x73_103) &&& (255 : Int32)).toInt64) <<< ((0 : Int32) &&& 0x3f).toInt64)))) else (0 : Int64))) (hv121_10_118 : v121_10_118 = (if y7_12_3 < (1 : Int32) then (0 : Int64) else ((0 : Int64) + ((p1.toInt64) &&& (255 : Int64))))) (hv142_10_123 : v142_10_123 = (if y7_12_3 < (2 : Int32) then v121_10_118 else (v121_10_118 + (((p2.toInt64) &&& (255 : Int64)) * (256 : Int64))))) (hv163_10_128 : v163_10_128 = (if y7_12_3 < (3 : Int32) then v142_10_123 else (v142_10_123 + (((p3.toInt64) &&& (255 : Int64)) * (65536 : Int64))))) (hv184_10_133 : v184_10_133 = (if y7_12_3 < (4 : Int32) then v163_10_128 else (v163_10_128 + (((p4.toInt64) &&& (255 : Int64)) * (16777216 : Int64)))))  : r190_138 = v184_10_133 := by
  have n1 := own_byte p1 x73_103 hx73_103
  have m1 := own_bl p1
  generalize (((nar .byte x73_103) &&& (255 : Int32)).toInt64) = A1 at *
  generalize ((p1.toInt64) &&& (255 : Int64)) = B1 at *
  have s1 := c_lshl A1 (0 : Int32) 0 (by decide)
  generalize (A1 <<< ((0 : Int32) &&& 0x3f).toInt64) = S1 at *
  have g1 := rng64 S1
  have e1 : S1.toInt = (p1.toInt % 256) * 1 := by omega
  clear s1 g1 n1 hx73_103
  have o1 := c_orL' (0 : Int64) S1 0 (by decide) 1 rfl (by omega) (by first | decide | omega) (by first | decide | omega)
  generalize ((0 : Int64) ||| S1) = O1 at *
  have f1 := rng64 O1
  have d1 : O1.toInt = p1.toInt % 256 := by simp only [Int64.reduceToInt] at o1; omega
  clear o1 f1 e1
  have n2 := own_byte p2 x82_106 hx82_106
  have m2 := own_bl p2
  generalize (((nar .byte x82_106) &&& (255 : Int32)).toInt64) = A2 at *
  generalize ((p2.toInt64) &&& (255 : Int64)) = B2 at *
  have s2 := c_lshl A2 (8 : Int32) 8 (by decide)
  generalize (A2 <<< ((8 : Int32) &&& 0x3f).toInt64) = S2 at *
  have g2 := rng64 S2
  have e2 : S2.toInt = (p2.toInt % 256) * 256 := by omega
  clear s2 g2 n2 hx82_106
  have o2 := c_orL' O1 S2 8 (by decide) 256 rfl (by omega) (by first | decide | omega) (by first | decide | omega)
  generalize (O1 ||| S2) = O2 at *
  have f2 := rng64 O2
  have d2 : O2.toInt = O1.toInt + (p2.toInt % 256) * 256 := by omega
  clear o2 f2 e2
  have t2 := c_lmul B2 (256 : Int64)
  simp only [Int64.reduceToInt] at t2
  generalize (B2 * (256 : Int64)) = M2 at *
  have u2 := rng64 M2
  have w2 : M2.toInt = (p2.toInt % 256) * 256 := by omega
  clear t2 u2 m2
  have n3 := own_byte p3 x91_109 hx91_109
  have m3 := own_bl p3
  generalize (((nar .byte x91_109) &&& (255 : Int32)).toInt64) = A3 at *
  generalize ((p3.toInt64) &&& (255 : Int64)) = B3 at *
  have s3 := c_lshl A3 (16 : Int32) 16 (by decide)
  generalize (A3 <<< ((16 : Int32) &&& 0x3f).toInt64) = S3 at *
  have g3 := rng64 S3
  have e3 : S3.toInt = (p3.toInt % 256) * 65536 := by omega
  clear s3 g3 n3 hx91_109
  have o3 := c_orL' O2 S3 16 (by decide) 65536 rfl (by omega) (by first | decide | omega) (by first | decide | omega)
  generalize (O2 ||| S3) = O3 at *
  have f3 := rng64 O3
  have d3 : O3.toInt = O2.toInt + (p3.toInt % 256) * 65536 := by omega
  clear o3 f3 e3
  have t3 := c_lmul B3 (65536 : Int64)
  simp only [Int64.reduceToInt] at t3
  generalize (B3 * (65536 : Int64)) = M3 at *
  have u3 := rng64 M3
  have w3 : M3.toInt = (p3.toInt % 256) * 65536 := by omega
  clear t3 u3 m3
  have n4 := own_byte p4 x100_112 hx100_112
  have m4 := own_bl p4
  generalize (((nar .byte x100_112) &&& (255 : Int32)).toInt64) = A4 at *
  generalize ((p4.toInt64) &&& (255 : Int64)) = B4 at *
  have s4 := c_lshl A4 (24 : Int32) 24 (by decide)
  generalize (A4 <<< ((24 : Int32) &&& 0x3f).toInt64) = S4 at *
  have g4 := rng64 S4
  have e4 : S4.toInt = (p4.toInt % 256) * 16777216 := by omega
  clear s4 g4 n4 hx100_112
  have o4 := c_orL' O3 S4 24 (by decide) 16777216 rfl (by omega) (by first | decide | omega) (by first | decide | omega)
  generalize (O3 ||| S4) = O4 at *
  have f4 := rng64 O4
  have d4 : O4.toInt = O3.toInt + (p4.toInt % 256) * 16777216 := by omega
  clear o4 f4 e4
  have t4 := c_lmul B4 (16777216 : Int64)
  simp only [Int64.reduceToInt] at t4
  generalize (B4 * (16777216 : Int64)) = M4 at *
  have u4 := rng64 M4
  have w4 : M4.toInt = (p4.toInt % 256) * 16777216 := by omega
  clear t4 u4 m4
  have q1 := c_ladd (0 : Int64) B1
  simp only [Int64.reduceToInt] at q1
  generalize ((0 : Int64) + B1) = V1 at *
  have j1 := rng64 V1
  have z1 : V1.toInt = p1.toInt % 256 := by omega
  clear q1 j1 m1
  rcases own_cnt _ _ hy7_12_3 with h | h | h | h | h
  all_goals clear hy7_12_3
  all_goals subst h
  all_goals simp only [Int32.reduceLT, ↓reduceIte] at hr190_138 hv121_10_118 hv142_10_123 hv163_10_128 hv184_10_133
  all_goals have y0 := c_ladd v121_10_118 M2
  all_goals have k0 := rng64 (v121_10_118 + M2)
  all_goals have y1 := c_ladd v142_10_123 M3
  all_goals have k1 := rng64 (v142_10_123 + M3)
  all_goals have y2 := c_ladd v163_10_128 M4
  all_goals have k2 := rng64 (v163_10_128 + M4)
  all_goals subst hv184_10_133 hv163_10_128 hv142_10_123 hv121_10_118 hr190_138
  all_goals rw [← Int64.toInt_inj]
  all_goals try simp only [Int64.reduceToInt] at *
  all_goals omega
theorem own_0_hp190_175 (p6 : Int32) (y7_12_3 : Int32) (hy7_12_3 : y7_12_3 = (((p6.toUInt32 >>> ((2 : Int32) &&& 31).toUInt32).toInt32) % (5 : Int32)))  : ¬ ((4 : Int32) < y7_12_3) := by
  rcases own_cnt _ _ hy7_12_3 with h | h | h | h | h <;> rw [h] <;> decide
theorem own_0_hc200_178 (p6 : Int32) (y7_12_3 : Int32) (p1 : Int32) (x73_141 : Int32) (p2 : Int32) (x82_144 : Int32) (p3 : Int32) (x91_147 : Int32) (p4 : Int32) (x100_150 : Int32) (r190_176 : Int64) (v121_10_156 : Int64) (v142_10_161 : Int64) (v163_10_166 : Int64) (v184_10_171 : Int64) (hy7_12_3 : y7_12_3 = (((p6.toUInt32 >>> ((2 : Int32) &&& 31).toUInt32).toInt32) % (5 : Int32))) (hx73_141 : x73_141 = (p1.toInt8.toInt32)) (hx82_144 : x82_144 = (p2.toInt8.toInt32)) (hx91_147 : x91_147 = (p3.toInt8.toInt32)) (hx100_150 : x100_150 = (p4.toInt8.toInt32)) (hr190_176 : r190_176 = (if (0 : Int32) < y7_12_3 then (if (1 : Int32) < y7_12_3 then (if (2 : Int32) < y7_12_3 then (if (3 : Int32) < y7_12_3 then (((((((((0 : Int64) ||| ((((nar .byte x73_141) &&& (255 : Int32)).toInt64) <<< ((0 : Int32) &&& 0x3f).toInt64))) ||| ((((nar .byte x82_144) &&& (255 : Int32)).toInt64) <<< ((8 : Int32) &&& 0x3f).toInt64))) ||| ((((nar .byte x91_147) &&& (255 : Int32)).toInt64) <<< ((16 : Int32) &&& 0x3f).toInt64))) ||| ((((nar .byte x100_150) &&& (255 : Int32)).toInt64) <<< ((24 : Int32) &&& 0x3f).toInt64))) else (((((((0 : Int64) ||| ((((nar .byte x73_141) &&& (255 : Int32)).toInt64) <<< ((0 : Int32) &&& 0x3f).toInt64))) ||| ((((nar .byte x82_144) &&& (255 : Int32)).toInt64) <<< ((8 : Int32) &&& 0x3f).toInt64))) ||| ((((nar .byte x91_147) &&& (255 : Int32)).toInt64) <<< ((16 : Int32) &&& 0x3f).toInt64)))) else (((((0 : Int64) ||| ((((nar .byte x73_141) &&& (255 : Int32)).toInt64) <<< ((0 : Int32) &&& 0x3f).toInt64))) ||| ((((nar .byte x82_144) &&& (255 : Int32)).toInt64) <<< ((8 : Int32) &&& 0x3f).toInt64)))) else (((0 : Int64) ||| ((((nar .byte x73_141) &&& (255 : Int32)).toInt64) <<< ((0 : Int32) &&& 0x3f).toInt64)))) else (0 : Int64))) (hv121_10_156 : v121_10_156 = (if y7_12_3 < (1 : Int32) then (0 : Int64) else ((0 : Int64) + ((p1.toInt64) &&& (255 : Int64))))) (hv142_10_161 : v142_10_161 = (if y7_12_3 < (2 : Int32) then v121_10_156 else (v121_10_156 + (((p2.toInt64) &&& (255 : Int64)) * (256 : Int64))))) (hv163_10_166 : v163_10_166 = (if y7_12_3 < (3 : Int32) then v142_10_161 else (v142_10_161 + (((p3.toInt64) &&& (255 : Int64)) * (65536 : Int64))))) (hv184_10_171 : v184_10_171 = (if y7_12_3 < (4 : Int32) then v163_10_166 else (v163_10_166 + (((p4.toInt64) &&& (255 : Int64)) * (16777216 : Int64)))))  : r190_176 = v184_10_171 := by
  have n1 := own_byte p1 x73_141 hx73_141
  have m1 := own_bl p1
  generalize (((nar .byte x73_141) &&& (255 : Int32)).toInt64) = A1 at *
  generalize ((p1.toInt64) &&& (255 : Int64)) = B1 at *
  have s1 := c_lshl A1 (0 : Int32) 0 (by decide)
  generalize (A1 <<< ((0 : Int32) &&& 0x3f).toInt64) = S1 at *
  have g1 := rng64 S1
  have e1 : S1.toInt = (p1.toInt % 256) * 1 := by omega
  clear s1 g1 n1 hx73_141
  have o1 := c_orL' (0 : Int64) S1 0 (by decide) 1 rfl (by omega) (by first | decide | omega) (by first | decide | omega)
  generalize ((0 : Int64) ||| S1) = O1 at *
  have f1 := rng64 O1
  have d1 : O1.toInt = p1.toInt % 256 := by simp only [Int64.reduceToInt] at o1; omega
  clear o1 f1 e1
  have n2 := own_byte p2 x82_144 hx82_144
  have m2 := own_bl p2
  generalize (((nar .byte x82_144) &&& (255 : Int32)).toInt64) = A2 at *
  generalize ((p2.toInt64) &&& (255 : Int64)) = B2 at *
  have s2 := c_lshl A2 (8 : Int32) 8 (by decide)
  generalize (A2 <<< ((8 : Int32) &&& 0x3f).toInt64) = S2 at *
  have g2 := rng64 S2
  have e2 : S2.toInt = (p2.toInt % 256) * 256 := by omega
  clear s2 g2 n2 hx82_144
  have o2 := c_orL' O1 S2 8 (by decide) 256 rfl (by omega) (by first | decide | omega) (by first | decide | omega)
  generalize (O1 ||| S2) = O2 at *
  have f2 := rng64 O2
  have d2 : O2.toInt = O1.toInt + (p2.toInt % 256) * 256 := by omega
  clear o2 f2 e2
  have t2 := c_lmul B2 (256 : Int64)
  simp only [Int64.reduceToInt] at t2
  generalize (B2 * (256 : Int64)) = M2 at *
  have u2 := rng64 M2
  have w2 : M2.toInt = (p2.toInt % 256) * 256 := by omega
  clear t2 u2 m2
  have n3 := own_byte p3 x91_147 hx91_147
  have m3 := own_bl p3
  generalize (((nar .byte x91_147) &&& (255 : Int32)).toInt64) = A3 at *
  generalize ((p3.toInt64) &&& (255 : Int64)) = B3 at *
  have s3 := c_lshl A3 (16 : Int32) 16 (by decide)
  generalize (A3 <<< ((16 : Int32) &&& 0x3f).toInt64) = S3 at *
  have g3 := rng64 S3
  have e3 : S3.toInt = (p3.toInt % 256) * 65536 := by omega
  clear s3 g3 n3 hx91_147
  have o3 := c_orL' O2 S3 16 (by decide) 65536 rfl (by omega) (by first | decide | omega) (by first | decide | omega)
  generalize (O2 ||| S3) = O3 at *
  have f3 := rng64 O3
  have d3 : O3.toInt = O2.toInt + (p3.toInt % 256) * 65536 := by omega
  clear o3 f3 e3
  have t3 := c_lmul B3 (65536 : Int64)
  simp only [Int64.reduceToInt] at t3
  generalize (B3 * (65536 : Int64)) = M3 at *
  have u3 := rng64 M3
  have w3 : M3.toInt = (p3.toInt % 256) * 65536 := by omega
  clear t3 u3 m3
  have n4 := own_byte p4 x100_150 hx100_150
  have m4 := own_bl p4
  generalize (((nar .byte x100_150) &&& (255 : Int32)).toInt64) = A4 at *
  generalize ((p4.toInt64) &&& (255 : Int64)) = B4 at *
  have s4 := c_lshl A4 (24 : Int32) 24 (by decide)
  generalize (A4 <<< ((24 : Int32) &&& 0x3f).toInt64) = S4 at *
  have g4 := rng64 S4
  have e4 : S4.toInt = (p4.toInt % 256) * 16777216 := by omega
  clear s4 g4 n4 hx100_150
  have o4 := c_orL' O3 S4 24 (by decide) 16777216 rfl (by omega) (by first | decide | omega) (by first | decide | omega)
  generalize (O3 ||| S4) = O4 at *
  have f4 := rng64 O4
  have d4 : O4.toInt = O3.toInt + (p4.toInt % 256) * 16777216 := by omega
  clear o4 f4 e4
  have t4 := c_lmul B4 (16777216 : Int64)
  simp only [Int64.reduceToInt] at t4
  generalize (B4 * (16777216 : Int64)) = M4 at *
  have u4 := rng64 M4
  have w4 : M4.toInt = (p4.toInt % 256) * 16777216 := by omega
  clear t4 u4 m4
  have q1 := c_ladd (0 : Int64) B1
  simp only [Int64.reduceToInt] at q1
  generalize ((0 : Int64) + B1) = V1 at *
  have j1 := rng64 V1
  have z1 : V1.toInt = p1.toInt % 256 := by omega
  clear q1 j1 m1
  rcases own_cnt _ _ hy7_12_3 with h | h | h | h | h
  all_goals clear hy7_12_3
  all_goals subst h
  all_goals simp only [Int32.reduceLT, ↓reduceIte] at hr190_176 hv121_10_156 hv142_10_161 hv163_10_166 hv184_10_171
  all_goals have y0 := c_ladd v121_10_156 M2
  all_goals have k0 := rng64 (v121_10_156 + M2)
  all_goals have y1 := c_ladd v142_10_161 M3
  all_goals have k1 := rng64 (v142_10_161 + M3)
  all_goals have y2 := c_ladd v163_10_166 M4
  all_goals have k2 := rng64 (v163_10_166 + M4)
  all_goals subst hv184_10_171 hv163_10_166 hv142_10_161 hv121_10_156 hr190_176
  all_goals rw [← Int64.toInt_inj]
  all_goals try simp only [Int64.reduceToInt] at *
  all_goals omega
def Q0 (Z : State) (p1 : Int32) (p2 : Int32) (p3 : Int32) (p4 : Int32) (p5 : Int32) (p6 : Int32) (h0 : Heap) (n0 : Nat) (v : Option Value) (h : Heap) (L : List Loc) : Prop := v = some (.int (1 : Int32)) ∧ Fr n0 L
set_option maxRecDepth 65536 in
set_option maxHeartbeats 40000000 in
theorem rm0 (l : Launch) (Z : State) (a0 : Array Value) (hw : ∀ d ∈ tables_1, d.before a0 Z = true) (ws : List Jvm.Cond) (p1 : Int32) (p2 : Int32) (p3 : Int32) (p4 : Int32) (p5 : Int32) (p6 : Int32) (h0 : Heap) (n0 : Nat) (Z0 : n0 ≤ h0.size) :
    MetFree l x (head1 (Jvm.Cond.code x code maxLocals ret :: ws) room_1) (fun a U => a = #[(.int p1), (.int p2), (.int p3), (.int p4), (.int p5), (.int p6)] ∧ Z.Warmed39 U.vm ∧ U.heap = h0) (fun _ _ _ _ _ => True) (fun _ U o U' => ∃ v L, o = .returned v ∧ Q0 Z p1 p2 p3 p4 p5 p6 h0 n0 v U'.heap L ∧ FrameEnd U o U' L room_1.cells room_1.slots) := by
  refine MetFree.of_bodySF (plainFor_of_name pn_0) hisR ?_
  intro p e s m args below meth c s₁ Bd hml0 hP hK
  obtain ⟨rfl, hZ, hh⟩ := hP
  have hx := Bd.exec
  have hby := Bd.bytes
  have hml : c.maxLocals = 14 := hml0
  have hown : s.vm.findClass "com/example/requeue/requeue/connection/SnappyBlockReadLittleEndianPinLaw" = some m.cls := findClass_of_methodNamed Bd.named
  have hnm := (name_of_methodNamed Bd.named Bd.method).1
  have X0 : Stand p l e room_1 s m #[(.int p1), (.int p2), (.int p3), (.int p4), (.int p5), (.int p6)] below meth c s₁ [] 0 0 := Stand.of_body Bd
  have e0 : s₁.heap = h0 := by rw [← hh, Bd.state]; rfl
  have N0 := Fr.nil n0
  refine (show Gl p e below (fun o U' => ∃ v L, o = .returned v ∧ Q0 Z p1 p2 p3 p4 p5 p6 h0 n0 v U'.heap L ∧ FrameEnd s o U' L room_1.cells room_1.slots) (s₁.setTop (entryFrame m #[(.int p1), (.int p2), (.int p3), (.int p4), (.int p5), (.int p6)] maxLocals)) from ?_)
  obtain ⟨L0, hL0⟩ : ∃ z : Array Slot, z = #[.val (.int p1), .val (.int p2), .val (.int p3), .val (.int p4), .val (.int p5), .val (.int p6), .unset, .unset, .unset, .unset, .unset, .unset, .unset, .unset] := ⟨_, rfl⟩
  refine Gl.st (B := (s₁.setTop (mkF m 0 L0 []))) (fun t k => castTop (efAt hL0 (ef_0 m p1 p2 p3 p4 p5 p6)) k) ?_
  refine Gl.st (B := (s₁.setTop (mkF m 2 L0 [(.int p6)]))) (fun t k => XS.iload X0.here hx rfl (hb hby at_0) (ldAt hL0 rfl) k) ?_
  refine Gl.st (B := (s₁.setTop (mkF m 3 L0 [(.int (3 : Int32)), (.int p6)]))) (fun t k => XS.iconst X0.here hx rfl (hb hby at_2) k) ?_
  refine Gl.st (B := (s₁.setTop (mkF m 4 L0 [(.int (p6 &&& (3 : Int32)))]))) (fun t k => XS.iand X0.here hx rfl (hb hby at_3) rfl k) ?_
  obtain ⟨y6_4_1, hy6_4_1⟩ : ∃ z : Int32, z = (p6 &&& (3 : Int32)) := ⟨_, rfl⟩
  refine Gl.cast (B := (s₁.setTop (mkF m 4 L0 [(.int y6_4_1)]))) (by rw [hy6_4_1]) ?_
  obtain ⟨L2, hL2⟩ : ∃ z : Array Slot, z = #[.val (.int p1), .val (.int p2), .val (.int p3), .val (.int p4), .val (.int p5), .val (.int p6), .val (.int y6_4_1), .unset, .unset, .unset, .unset, .unset, .unset, .unset] := ⟨_, rfl⟩
  refine Gl.st (B := (s₁.setTop (mkF m 6 L2 []))) (fun t k => XS.istore X0.here hx rfl (hb hby at_4) rfl (l' := L2) (stAt hL0 hL2 rfl rfl) k) ?_
  refine Gl.st (B := (s₁.setTop (mkF m 8 L2 [(.int p6)]))) (fun t k => XS.iload X0.here hx rfl (hb hby at_6) (ldAt hL2 rfl) k) ?_
  refine Gl.st (B := (s₁.setTop (mkF m 9 L2 [(.int (2 : Int32)), (.int p6)]))) (fun t k => XS.iconst X0.here hx rfl (hb hby at_8) k) ?_
  refine Gl.st (B := (s₁.setTop (mkF m 10 L2 [(.int ((p6.toUInt32 >>> ((2 : Int32) &&& 31).toUInt32).toInt32))]))) (fun t k => XS.iushr X0.here hx rfl (hb hby at_9) rfl k) ?_
  refine Gl.st (B := (s₁.setTop (mkF m 11 L2 [(.int (5 : Int32)), (.int ((p6.toUInt32 >>> ((2 : Int32) &&& 31).toUInt32).toInt32))]))) (fun t k => XS.iconst X0.here hx rfl (hb hby at_10) k) ?_
  refine Gl.st (B := (s₁.setTop (mkF m 12 L2 [(.int (((p6.toUInt32 >>> ((2 : Int32) &&& 31).toUInt32).toInt32) % (5 : Int32)))]))) (fun t k => iremM X0 hx rfl (hb hby at_11) rfl (by decide) k) ?_
  obtain ⟨y7_12_3, hy7_12_3⟩ : ∃ z : Int32, z = (((p6.toUInt32 >>> ((2 : Int32) &&& 31).toUInt32).toInt32) % (5 : Int32)) := ⟨_, rfl⟩
  refine Gl.cast (B := (s₁.setTop (mkF m 12 L2 [(.int y7_12_3)]))) (by rw [hy7_12_3]) ?_
  obtain ⟨L4, hL4⟩ : ∃ z : Array Slot, z = #[.val (.int p1), .val (.int p2), .val (.int p3), .val (.int p4), .val (.int p5), .val (.int p6), .val (.int y6_4_1), .val (.int y7_12_3), .unset, .unset, .unset, .unset, .unset, .unset] := ⟨_, rfl⟩
  refine Gl.st (B := (s₁.setTop (mkF m 14 L4 []))) (fun t k => XS.istore X0.here hx rfl (hb hby at_12) rfl (l' := L4) (stAt hL2 hL4 rfl rfl) k) ?_
  refine Gl.st (B := (s₁.setTop (mkF m 16 L4 [(.int p5)]))) (fun t k => XS.iload X0.here hx rfl (hb hby at_14) (ldAt hL4 rfl) k) ?_
  refine Gl.st (B := (s₁.setTop (mkF m 17 L4 [(.int (p5.toInt8.toInt32))]))) (fun t k => XS.i2b X0.here hx rfl (hb hby at_16) rfl k) ?_
  obtain ⟨y8_17_5, hy8_17_5⟩ : ∃ z : Int32, z = (p5.toInt8.toInt32) := ⟨_, rfl⟩
  refine Gl.cast (B := (s₁.setTop (mkF m 17 L4 [(.int y8_17_5)]))) (by rw [hy8_17_5]) ?_
  obtain ⟨L6, hL6⟩ : ∃ z : Array Slot, z = #[.val (.int p1), .val (.int p2), .val (.int p3), .val (.int p4), .val (.int p5), .val (.int p6), .val (.int y6_4_1), .val (.int y7_12_3), .val (.int y8_17_5), .unset, .unset, .unset, .unset, .unset] := ⟨_, rfl⟩
  refine Gl.st (B := (s₁.setTop (mkF m 19 L6 []))) (fun t k => XS.istore X0.here hx rfl (hb hby at_17) rfl (l' := L6) (stAt hL4 hL6 rfl rfl) k) ?_
  refine Gl.st (B := (s₁.setTop (mkF m 21 L6 [(.int (8 : Int32))]))) (fun t k => XS.bipush X0.here hx rfl (hb hby at_19) k) ?_
  obtain ⟨T7, h7, k7, X7, e7, E7, A7, Ex7, st7⟩ := newPE X0 hx hZ (tw hw 0 rfl) e0 (g := (mkF m 21 L6 [(.int (8 : Int32))])) rfl (hb hby at_21) rfl (by decide) (cap := 8) (by decide) (by decide) (by decide) (by decide) (ad := "[B") rfl
  obtain ⟨b7, gq7⟩ : ∃ z, z = h0.size := ⟨_, rfl⟩
  rw [← gq7] at A7 Ex7 st7
  have V7 : Arv Z h7 b7 k7 .byte (8 : Int32) [(.int (0 : Int32)), (.int (0 : Int32)), (.int (0 : Int32)), (.int (0 : Int32)), (.int (0 : Int32)), (.int (0 : Int32)), (.int (0 : Int32)), (.int (0 : Int32))] (.int (0 : Int32)) := (Arv.new A7 (by decide)).pad (pad_rep [] (.int (0 : Int32)) 8)
  have g_b7 : n0 ≤ b7 := Nat.le_trans Z0 (Nat.le_of_eq gq7.symm)
  have lt_b7 := V7.lt
  have Zc8 : n0 ≤ h7.size := Nat.le_trans Z0 E7.1
  refine Gl.st (B := (T7.setTop (mkF m 23 L6 [(.ref b7)]))) st7 ?_
  refine Gl.st (B := (T7.setTop (mkF m 24 L6 [(.ref b7), (.ref b7)]))) (fun t k => XS.dup X7.here hx rfl (hb hby at_23) rfl rfl k) ?_
  refine Gl.st (B := (T7.setTop (mkF m 25 L6 [(.int (0 : Int32)), (.ref b7), (.ref b7)]))) (fun t k => XS.iconst X7.here hx rfl (hb hby at_24) k) ?_
  refine Gl.st (B := (T7.setTop (mkF m 27 L6 [(.int y8_17_5), (.int (0 : Int32)), (.ref b7), (.ref b7)]))) (fun t k => XS.iload X7.here hx rfl (hb hby at_25) (ldAt hL6 rfl) k) ?_
  obtain ⟨cl9, Ar9, q9, S9, P9, H9, G9⟩ := (id V7)
  have hin27_9 : ¬ ((0 : Int32) < 0 ∨ cl9.slots.size ≤ ((0 : Int32)).toNatClampNeg) := inb_of S9 ⟨by decide, by decide⟩
  obtain ⟨T9, h9, X9, e9, W9, st9⟩ := stB X7 hx hZ e7 Ar9 (j := (0 : Int32)) hin27_9 (g := (mkF m 27 L6 [(.int y8_17_5), (.int (0 : Int32)), (.ref b7), (.ref b7)])) rfl rfl (hb hby at_27)
  have V9 : Arv Z h9 b7 k7 .byte (8 : Int32) [(.int (nar .byte y8_17_5)), (.int (0 : Int32)), (.int (0 : Int32)), (.int (0 : Int32)), (.int (0 : Int32)), (.int (0 : Int32)), (.int (0 : Int32)), (.int (0 : Int32))] (.int (0 : Int32)) := Arv.set Ar9 q9 S9 P9 H9 G9 (fits_nar_byte _) W9 0 rfl (Nat.le_of_ble_eq_true rfl)
  have Zc10 : n0 ≤ h9.size := Nat.le_trans Zc8 (Nat.le_of_eq W9.size.symm)
  have N9 := Fr.snoc X9 N0 g_b7
  refine Gl.st (B := (T9.setTop (mkF m 28 L6 [(.ref b7)]))) st9 ?_
  refine Gl.st (B := (T9.setTop (mkF m 29 L6 [(.ref b7), (.ref b7)]))) (fun t k => XS.dup X9.here hx rfl (hb hby at_28) rfl rfl k) ?_
  refine Gl.st (B := (T9.setTop (mkF m 30 L6 [(.int (1 : Int32)), (.ref b7), (.ref b7)]))) (fun t k => XS.iconst X9.here hx rfl (hb hby at_29) k) ?_
  refine Gl.st (B := (T9.setTop (mkF m 32 L6 [(.int y8_17_5), (.int (1 : Int32)), (.ref b7), (.ref b7)]))) (fun t k => XS.iload X9.here hx rfl (hb hby at_30) (ldAt hL6 rfl) k) ?_
  obtain ⟨cl11, Ar11, q11, S11, P11, H11, G11⟩ := (id V9)
  have hin32_11 : ¬ ((1 : Int32) < 0 ∨ cl11.slots.size ≤ ((1 : Int32)).toNatClampNeg) := inb_of S11 ⟨by decide, by decide⟩
  obtain ⟨T11, h11, X11, e11, W11, st11⟩ := stB X9 hx hZ e9 Ar11 (j := (1 : Int32)) hin32_11 (g := (mkF m 32 L6 [(.int y8_17_5), (.int (1 : Int32)), (.ref b7), (.ref b7)])) rfl rfl (hb hby at_32)
  have V11 : Arv Z h11 b7 k7 .byte (8 : Int32) [(.int (nar .byte y8_17_5)), (.int (nar .byte y8_17_5)), (.int (0 : Int32)), (.int (0 : Int32)), (.int (0 : Int32)), (.int (0 : Int32)), (.int (0 : Int32)), (.int (0 : Int32))] (.int (0 : Int32)) := Arv.set Ar11 q11 S11 P11 H11 G11 (fits_nar_byte _) W11 1 rfl (Nat.le_of_ble_eq_true rfl)
  have Zc12 : n0 ≤ h11.size := Nat.le_trans Zc10 (Nat.le_of_eq W11.size.symm)
  have N11 := Fr.snoc X11 N9 g_b7
  refine Gl.st (B := (T11.setTop (mkF m 33 L6 [(.ref b7)]))) st11 ?_
  refine Gl.st (B := (T11.setTop (mkF m 34 L6 [(.ref b7), (.ref b7)]))) (fun t k => XS.dup X11.here hx rfl (hb hby at_33) rfl rfl k) ?_
  refine Gl.st (B := (T11.setTop (mkF m 35 L6 [(.int (2 : Int32)), (.ref b7), (.ref b7)]))) (fun t k => XS.iconst X11.here hx rfl (hb hby at_34) k) ?_
  refine Gl.st (B := (T11.setTop (mkF m 37 L6 [(.int y8_17_5), (.int (2 : Int32)), (.ref b7), (.ref b7)]))) (fun t k => XS.iload X11.here hx rfl (hb hby at_35) (ldAt hL6 rfl) k) ?_
  obtain ⟨cl13, Ar13, q13, S13, P13, H13, G13⟩ := (id V11)
  have hin37_13 : ¬ ((2 : Int32) < 0 ∨ cl13.slots.size ≤ ((2 : Int32)).toNatClampNeg) := inb_of S13 ⟨by decide, by decide⟩
  obtain ⟨T13, h13, X13, e13, W13, st13⟩ := stB X11 hx hZ e11 Ar13 (j := (2 : Int32)) hin37_13 (g := (mkF m 37 L6 [(.int y8_17_5), (.int (2 : Int32)), (.ref b7), (.ref b7)])) rfl rfl (hb hby at_37)
  have V13 : Arv Z h13 b7 k7 .byte (8 : Int32) [(.int (nar .byte y8_17_5)), (.int (nar .byte y8_17_5)), (.int (nar .byte y8_17_5)), (.int (0 : Int32)), (.int (0 : Int32)), (.int (0 : Int32)), (.int (0 : Int32)), (.int (0 : Int32))] (.int (0 : Int32)) := Arv.set Ar13 q13 S13 P13 H13 G13 (fits_nar_byte _) W13 2 rfl (Nat.le_of_ble_eq_true rfl)
  have Zc14 : n0 ≤ h13.size := Nat.le_trans Zc12 (Nat.le_of_eq W13.size.symm)
  have N13 := Fr.snoc X13 N11 g_b7
  refine Gl.st (B := (T13.setTop (mkF m 38 L6 [(.ref b7)]))) st13 ?_
  refine Gl.st (B := (T13.setTop (mkF m 39 L6 [(.ref b7), (.ref b7)]))) (fun t k => XS.dup X13.here hx rfl (hb hby at_38) rfl rfl k) ?_
  refine Gl.st (B := (T13.setTop (mkF m 40 L6 [(.int (3 : Int32)), (.ref b7), (.ref b7)]))) (fun t k => XS.iconst X13.here hx rfl (hb hby at_39) k) ?_
  refine Gl.st (B := (T13.setTop (mkF m 42 L6 [(.int y8_17_5), (.int (3 : Int32)), (.ref b7), (.ref b7)]))) (fun t k => XS.iload X13.here hx rfl (hb hby at_40) (ldAt hL6 rfl) k) ?_
  obtain ⟨cl15, Ar15, q15, S15, P15, H15, G15⟩ := (id V13)
  have hin42_15 : ¬ ((3 : Int32) < 0 ∨ cl15.slots.size ≤ ((3 : Int32)).toNatClampNeg) := inb_of S15 ⟨by decide, by decide⟩
  obtain ⟨T15, h15, X15, e15, W15, st15⟩ := stB X13 hx hZ e13 Ar15 (j := (3 : Int32)) hin42_15 (g := (mkF m 42 L6 [(.int y8_17_5), (.int (3 : Int32)), (.ref b7), (.ref b7)])) rfl rfl (hb hby at_42)
  have V15 : Arv Z h15 b7 k7 .byte (8 : Int32) [(.int (nar .byte y8_17_5)), (.int (nar .byte y8_17_5)), (.int (nar .byte y8_17_5)), (.int (nar .byte y8_17_5)), (.int (0 : Int32)), (.int (0 : Int32)), (.int (0 : Int32)), (.int (0 : Int32))] (.int (0 : Int32)) := Arv.set Ar15 q15 S15 P15 H15 G15 (fits_nar_byte _) W15 3 rfl (Nat.le_of_ble_eq_true rfl)
  have Zc16 : n0 ≤ h15.size := Nat.le_trans Zc14 (Nat.le_of_eq W15.size.symm)
  have N15 := Fr.snoc X15 N13 g_b7
  refine Gl.st (B := (T15.setTop (mkF m 43 L6 [(.ref b7)]))) st15 ?_
  refine Gl.st (B := (T15.setTop (mkF m 44 L6 [(.ref b7), (.ref b7)]))) (fun t k => XS.dup X15.here hx rfl (hb hby at_43) rfl rfl k) ?_
  refine Gl.st (B := (T15.setTop (mkF m 45 L6 [(.int (4 : Int32)), (.ref b7), (.ref b7)]))) (fun t k => XS.iconst X15.here hx rfl (hb hby at_44) k) ?_
  refine Gl.st (B := (T15.setTop (mkF m 47 L6 [(.int y8_17_5), (.int (4 : Int32)), (.ref b7), (.ref b7)]))) (fun t k => XS.iload X15.here hx rfl (hb hby at_45) (ldAt hL6 rfl) k) ?_
  obtain ⟨cl17, Ar17, q17, S17, P17, H17, G17⟩ := (id V15)
  have hin47_17 : ¬ ((4 : Int32) < 0 ∨ cl17.slots.size ≤ ((4 : Int32)).toNatClampNeg) := inb_of S17 ⟨by decide, by decide⟩
  obtain ⟨T17, h17, X17, e17, W17, st17⟩ := stB X15 hx hZ e15 Ar17 (j := (4 : Int32)) hin47_17 (g := (mkF m 47 L6 [(.int y8_17_5), (.int (4 : Int32)), (.ref b7), (.ref b7)])) rfl rfl (hb hby at_47)
  have V17 : Arv Z h17 b7 k7 .byte (8 : Int32) [(.int (nar .byte y8_17_5)), (.int (nar .byte y8_17_5)), (.int (nar .byte y8_17_5)), (.int (nar .byte y8_17_5)), (.int (nar .byte y8_17_5)), (.int (0 : Int32)), (.int (0 : Int32)), (.int (0 : Int32))] (.int (0 : Int32)) := Arv.set Ar17 q17 S17 P17 H17 G17 (fits_nar_byte _) W17 4 rfl (Nat.le_of_ble_eq_true rfl)
  have Zc18 : n0 ≤ h17.size := Nat.le_trans Zc16 (Nat.le_of_eq W17.size.symm)
  have N17 := Fr.snoc X17 N15 g_b7
  refine Gl.st (B := (T17.setTop (mkF m 48 L6 [(.ref b7)]))) st17 ?_
  refine Gl.st (B := (T17.setTop (mkF m 49 L6 [(.ref b7), (.ref b7)]))) (fun t k => XS.dup X17.here hx rfl (hb hby at_48) rfl rfl k) ?_
  refine Gl.st (B := (T17.setTop (mkF m 50 L6 [(.int (5 : Int32)), (.ref b7), (.ref b7)]))) (fun t k => XS.iconst X17.here hx rfl (hb hby at_49) k) ?_
  refine Gl.st (B := (T17.setTop (mkF m 52 L6 [(.int y8_17_5), (.int (5 : Int32)), (.ref b7), (.ref b7)]))) (fun t k => XS.iload X17.here hx rfl (hb hby at_50) (ldAt hL6 rfl) k) ?_
  obtain ⟨cl19, Ar19, q19, S19, P19, H19, G19⟩ := (id V17)
  have hin52_19 : ¬ ((5 : Int32) < 0 ∨ cl19.slots.size ≤ ((5 : Int32)).toNatClampNeg) := inb_of S19 ⟨by decide, by decide⟩
  obtain ⟨T19, h19, X19, e19, W19, st19⟩ := stB X17 hx hZ e17 Ar19 (j := (5 : Int32)) hin52_19 (g := (mkF m 52 L6 [(.int y8_17_5), (.int (5 : Int32)), (.ref b7), (.ref b7)])) rfl rfl (hb hby at_52)
  have V19 : Arv Z h19 b7 k7 .byte (8 : Int32) [(.int (nar .byte y8_17_5)), (.int (nar .byte y8_17_5)), (.int (nar .byte y8_17_5)), (.int (nar .byte y8_17_5)), (.int (nar .byte y8_17_5)), (.int (nar .byte y8_17_5)), (.int (0 : Int32)), (.int (0 : Int32))] (.int (0 : Int32)) := Arv.set Ar19 q19 S19 P19 H19 G19 (fits_nar_byte _) W19 5 rfl (Nat.le_of_ble_eq_true rfl)
  have Zc20 : n0 ≤ h19.size := Nat.le_trans Zc18 (Nat.le_of_eq W19.size.symm)
  have N19 := Fr.snoc X19 N17 g_b7
  refine Gl.st (B := (T19.setTop (mkF m 53 L6 [(.ref b7)]))) st19 ?_
  refine Gl.st (B := (T19.setTop (mkF m 54 L6 [(.ref b7), (.ref b7)]))) (fun t k => XS.dup X19.here hx rfl (hb hby at_53) rfl rfl k) ?_
  refine Gl.st (B := (T19.setTop (mkF m 56 L6 [(.int (6 : Int32)), (.ref b7), (.ref b7)]))) (fun t k => XS.bipush X19.here hx rfl (hb hby at_54) k) ?_
  refine Gl.st (B := (T19.setTop (mkF m 58 L6 [(.int y8_17_5), (.int (6 : Int32)), (.ref b7), (.ref b7)]))) (fun t k => XS.iload X19.here hx rfl (hb hby at_56) (ldAt hL6 rfl) k) ?_
  obtain ⟨cl21, Ar21, q21, S21, P21, H21, G21⟩ := (id V19)
  have hin58_21 : ¬ ((6 : Int32) < 0 ∨ cl21.slots.size ≤ ((6 : Int32)).toNatClampNeg) := inb_of S21 ⟨by decide, by decide⟩
  obtain ⟨T21, h21, X21, e21, W21, st21⟩ := stB X19 hx hZ e19 Ar21 (j := (6 : Int32)) hin58_21 (g := (mkF m 58 L6 [(.int y8_17_5), (.int (6 : Int32)), (.ref b7), (.ref b7)])) rfl rfl (hb hby at_58)
  have V21 : Arv Z h21 b7 k7 .byte (8 : Int32) [(.int (nar .byte y8_17_5)), (.int (nar .byte y8_17_5)), (.int (nar .byte y8_17_5)), (.int (nar .byte y8_17_5)), (.int (nar .byte y8_17_5)), (.int (nar .byte y8_17_5)), (.int (nar .byte y8_17_5)), (.int (0 : Int32))] (.int (0 : Int32)) := Arv.set Ar21 q21 S21 P21 H21 G21 (fits_nar_byte _) W21 6 rfl (Nat.le_of_ble_eq_true rfl)
  have Zc22 : n0 ≤ h21.size := Nat.le_trans Zc20 (Nat.le_of_eq W21.size.symm)
  have N21 := Fr.snoc X21 N19 g_b7
  refine Gl.st (B := (T21.setTop (mkF m 59 L6 [(.ref b7)]))) st21 ?_
  refine Gl.st (B := (T21.setTop (mkF m 60 L6 [(.ref b7), (.ref b7)]))) (fun t k => XS.dup X21.here hx rfl (hb hby at_59) rfl rfl k) ?_
  refine Gl.st (B := (T21.setTop (mkF m 62 L6 [(.int (7 : Int32)), (.ref b7), (.ref b7)]))) (fun t k => XS.bipush X21.here hx rfl (hb hby at_60) k) ?_
  refine Gl.st (B := (T21.setTop (mkF m 64 L6 [(.int y8_17_5), (.int (7 : Int32)), (.ref b7), (.ref b7)]))) (fun t k => XS.iload X21.here hx rfl (hb hby at_62) (ldAt hL6 rfl) k) ?_
  obtain ⟨cl23, Ar23, q23, S23, P23, H23, G23⟩ := (id V21)
  have hin64_23 : ¬ ((7 : Int32) < 0 ∨ cl23.slots.size ≤ ((7 : Int32)).toNatClampNeg) := inb_of S23 ⟨by decide, by decide⟩
  obtain ⟨T23, h23, X23, e23, W23, st23⟩ := stB X21 hx hZ e21 Ar23 (j := (7 : Int32)) hin64_23 (g := (mkF m 64 L6 [(.int y8_17_5), (.int (7 : Int32)), (.ref b7), (.ref b7)])) rfl rfl (hb hby at_64)
  have V23 : Arv Z h23 b7 k7 .byte (8 : Int32) [(.int (nar .byte y8_17_5)), (.int (nar .byte y8_17_5)), (.int (nar .byte y8_17_5)), (.int (nar .byte y8_17_5)), (.int (nar .byte y8_17_5)), (.int (nar .byte y8_17_5)), (.int (nar .byte y8_17_5)), (.int (nar .byte y8_17_5))] (.int (0 : Int32)) := Arv.set Ar23 q23 S23 P23 H23 G23 (fits_nar_byte _) W23 7 rfl (Nat.le_of_ble_eq_true rfl)
  have Zc24 : n0 ≤ h23.size := Nat.le_trans Zc22 (Nat.le_of_eq W23.size.symm)
  have N23 := Fr.snoc X23 N21 g_b7
  refine Gl.st (B := (T23.setTop (mkF m 65 L6 [(.ref b7)]))) st23 ?_
  obtain ⟨L25, hL25⟩ : ∃ z : Array Slot, z = #[.val (.int p1), .val (.int p2), .val (.int p3), .val (.int p4), .val (.int p5), .val (.int p6), .val (.int y6_4_1), .val (.int y7_12_3), .val (.int y8_17_5), .val (.ref b7), .unset, .unset, .unset, .unset] := ⟨_, rfl⟩
  refine Gl.st (B := (T23.setTop (mkF m 67 L25 []))) (fun t k => XS.astore X23.here hx rfl (hb hby at_65) rfl rfl (l' := L25) (stAt hL6 hL25 rfl rfl) k) ?_
  refine Gl.st (B := (T23.setTop (mkF m 69 L25 [(.ref b7)]))) (fun t k => XS.aload X23.here hx rfl (hb hby at_67) (ldAt hL25 rfl) rfl k) ?_
  refine Gl.st (B := (T23.setTop (mkF m 71 L25 [(.int y6_4_1), (.ref b7)]))) (fun t k => XS.iload X23.here hx rfl (hb hby at_69) (ldAt hL25 rfl) k) ?_
  refine Gl.st (B := (T23.setTop (mkF m 72 L25 [(.int p1), (.int y6_4_1), (.ref b7)]))) (fun t k => XS.iloadN X23.here hx rfl (hb hby at_71) (ldAt hL25 rfl) k) ?_
  refine Gl.st (B := (T23.setTop (mkF m 73 L25 [(.int (p1.toInt8.toInt32)), (.int y6_4_1), (.ref b7)]))) (fun t k => XS.i2b X23.here hx rfl (hb hby at_72) rfl k) ?_
  have hs26 : y6_4_1 = (0 : Int32) ∨ y6_4_1 = (1 : Int32) ∨ y6_4_1 = (2 : Int32) ∨ y6_4_1 = (3 : Int32) := by
    exact own_and3 _ _ hy6_4_1
  rcases hs26 with hk | hk | hk | hk
  · skip
    subst hk
    obtain ⟨x73_27, hx73_27⟩ : ∃ z : Int32, z = (p1.toInt8.toInt32) := ⟨_, rfl⟩
    refine Gl.cast (B := (T23.setTop (mkF m 73 L25 [(.int x73_27), (.int (0 : Int32)), (.ref b7)]))) (by rw [hx73_27]) ?_
    obtain ⟨cl28, Ar28, q28, S28, P28, H28, G28⟩ := (id V23)
    have hin73_28 : ¬ ((0 : Int32) < 0 ∨ cl28.slots.size ≤ ((0 : Int32)).toNatClampNeg) := inb_of S28 ⟨by decide, by decide⟩
    obtain ⟨T28, h28, X28, e28, W28, st28⟩ := stB X23 hx hZ e23 Ar28 (j := (0 : Int32)) hin73_28 (g := (mkF m 73 L25 [(.int x73_27), (.int (0 : Int32)), (.ref b7)])) rfl rfl (hb hby at_73)
    have V28 : Arv Z h28 b7 k7 .byte (8 : Int32) [(.int (nar .byte x73_27)), (.int (nar .byte y8_17_5)), (.int (nar .byte y8_17_5)), (.int (nar .byte y8_17_5)), (.int (nar .byte y8_17_5)), (.int (nar .byte y8_17_5)), (.int (nar .byte y8_17_5)), (.int (nar .byte y8_17_5))] (.int (0 : Int32)) := Arv.set Ar28 q28 S28 P28 H28 G28 (fits_nar_byte _) W28 0 rfl (Nat.le_of_ble_eq_true rfl)
    have Zc29 : n0 ≤ h28.size := Nat.le_trans Zc24 (Nat.le_of_eq W28.size.symm)
    have N28 := Fr.snoc X28 N23 g_b7
    refine Gl.st (B := (T28.setTop (mkF m 74 L25 []))) st28 ?_
    refine Gl.st (B := (T28.setTop (mkF m 76 L25 [(.ref b7)]))) (fun t k => XS.aload X28.here hx rfl (hb hby at_74) (ldAt hL25 rfl) rfl k) ?_
    refine Gl.st (B := (T28.setTop (mkF m 78 L25 [(.int (0 : Int32)), (.ref b7)]))) (fun t k => XS.iload X28.here hx rfl (hb hby at_76) (ldAt hL25 rfl) k) ?_
    refine Gl.st (B := (T28.setTop (mkF m 79 L25 [(.int (1 : Int32)), (.int (0 : Int32)), (.ref b7)]))) (fun t k => XS.iconst X28.here hx rfl (hb hby at_78) k) ?_
    refine Gl.st (B := (T28.setTop (mkF m 80 L25 [(.int (1 : Int32)), (.ref b7)]))) (fun t k => XS.iadd X28.here hx rfl (hb hby at_79) rfl k) ?_
    refine Gl.st (B := (T28.setTop (mkF m 81 L25 [(.int p2), (.int (1 : Int32)), (.ref b7)]))) (fun t k => XS.iloadN X28.here hx rfl (hb hby at_80) (ldAt hL25 rfl) k) ?_
    refine Gl.st (B := (T28.setTop (mkF m 82 L25 [(.int (p2.toInt8.toInt32)), (.int (1 : Int32)), (.ref b7)]))) (fun t k => XS.i2b X28.here hx rfl (hb hby at_81) rfl k) ?_
    obtain ⟨x82_30, hx82_30⟩ : ∃ z : Int32, z = (p2.toInt8.toInt32) := ⟨_, rfl⟩
    refine Gl.cast (B := (T28.setTop (mkF m 82 L25 [(.int x82_30), (.int (1 : Int32)), (.ref b7)]))) (by rw [hx82_30]) ?_
    obtain ⟨cl31, Ar31, q31, S31, P31, H31, G31⟩ := (id V28)
    have hin82_31 : ¬ ((1 : Int32) < 0 ∨ cl31.slots.size ≤ ((1 : Int32)).toNatClampNeg) := inb_of S31 ⟨by decide, by decide⟩
    obtain ⟨T31, h31, X31, e31, W31, st31⟩ := stB X28 hx hZ e28 Ar31 (j := (1 : Int32)) hin82_31 (g := (mkF m 82 L25 [(.int x82_30), (.int (1 : Int32)), (.ref b7)])) rfl rfl (hb hby at_82)
    have V31 : Arv Z h31 b7 k7 .byte (8 : Int32) [(.int (nar .byte x73_27)), (.int (nar .byte x82_30)), (.int (nar .byte y8_17_5)), (.int (nar .byte y8_17_5)), (.int (nar .byte y8_17_5)), (.int (nar .byte y8_17_5)), (.int (nar .byte y8_17_5)), (.int (nar .byte y8_17_5))] (.int (0 : Int32)) := Arv.set Ar31 q31 S31 P31 H31 G31 (fits_nar_byte _) W31 1 rfl (Nat.le_of_ble_eq_true rfl)
    have Zc32 : n0 ≤ h31.size := Nat.le_trans Zc29 (Nat.le_of_eq W31.size.symm)
    have N31 := Fr.snoc X31 N28 g_b7
    refine Gl.st (B := (T31.setTop (mkF m 83 L25 []))) st31 ?_
    refine Gl.st (B := (T31.setTop (mkF m 85 L25 [(.ref b7)]))) (fun t k => XS.aload X31.here hx rfl (hb hby at_83) (ldAt hL25 rfl) rfl k) ?_
    refine Gl.st (B := (T31.setTop (mkF m 87 L25 [(.int (0 : Int32)), (.ref b7)]))) (fun t k => XS.iload X31.here hx rfl (hb hby at_85) (ldAt hL25 rfl) k) ?_
    refine Gl.st (B := (T31.setTop (mkF m 88 L25 [(.int (2 : Int32)), (.int (0 : Int32)), (.ref b7)]))) (fun t k => XS.iconst X31.here hx rfl (hb hby at_87) k) ?_
    refine Gl.st (B := (T31.setTop (mkF m 89 L25 [(.int (2 : Int32)), (.ref b7)]))) (fun t k => XS.iadd X31.here hx rfl (hb hby at_88) rfl k) ?_
    refine Gl.st (B := (T31.setTop (mkF m 90 L25 [(.int p3), (.int (2 : Int32)), (.ref b7)]))) (fun t k => XS.iloadN X31.here hx rfl (hb hby at_89) (ldAt hL25 rfl) k) ?_
    refine Gl.st (B := (T31.setTop (mkF m 91 L25 [(.int (p3.toInt8.toInt32)), (.int (2 : Int32)), (.ref b7)]))) (fun t k => XS.i2b X31.here hx rfl (hb hby at_90) rfl k) ?_
    obtain ⟨x91_33, hx91_33⟩ : ∃ z : Int32, z = (p3.toInt8.toInt32) := ⟨_, rfl⟩
    refine Gl.cast (B := (T31.setTop (mkF m 91 L25 [(.int x91_33), (.int (2 : Int32)), (.ref b7)]))) (by rw [hx91_33]) ?_
    obtain ⟨cl34, Ar34, q34, S34, P34, H34, G34⟩ := (id V31)
    have hin91_34 : ¬ ((2 : Int32) < 0 ∨ cl34.slots.size ≤ ((2 : Int32)).toNatClampNeg) := inb_of S34 ⟨by decide, by decide⟩
    obtain ⟨T34, h34, X34, e34, W34, st34⟩ := stB X31 hx hZ e31 Ar34 (j := (2 : Int32)) hin91_34 (g := (mkF m 91 L25 [(.int x91_33), (.int (2 : Int32)), (.ref b7)])) rfl rfl (hb hby at_91)
    have V34 : Arv Z h34 b7 k7 .byte (8 : Int32) [(.int (nar .byte x73_27)), (.int (nar .byte x82_30)), (.int (nar .byte x91_33)), (.int (nar .byte y8_17_5)), (.int (nar .byte y8_17_5)), (.int (nar .byte y8_17_5)), (.int (nar .byte y8_17_5)), (.int (nar .byte y8_17_5))] (.int (0 : Int32)) := Arv.set Ar34 q34 S34 P34 H34 G34 (fits_nar_byte _) W34 2 rfl (Nat.le_of_ble_eq_true rfl)
    have Zc35 : n0 ≤ h34.size := Nat.le_trans Zc32 (Nat.le_of_eq W34.size.symm)
    have N34 := Fr.snoc X34 N31 g_b7
    refine Gl.st (B := (T34.setTop (mkF m 92 L25 []))) st34 ?_
    refine Gl.st (B := (T34.setTop (mkF m 94 L25 [(.ref b7)]))) (fun t k => XS.aload X34.here hx rfl (hb hby at_92) (ldAt hL25 rfl) rfl k) ?_
    refine Gl.st (B := (T34.setTop (mkF m 96 L25 [(.int (0 : Int32)), (.ref b7)]))) (fun t k => XS.iload X34.here hx rfl (hb hby at_94) (ldAt hL25 rfl) k) ?_
    refine Gl.st (B := (T34.setTop (mkF m 97 L25 [(.int (3 : Int32)), (.int (0 : Int32)), (.ref b7)]))) (fun t k => XS.iconst X34.here hx rfl (hb hby at_96) k) ?_
    refine Gl.st (B := (T34.setTop (mkF m 98 L25 [(.int (3 : Int32)), (.ref b7)]))) (fun t k => XS.iadd X34.here hx rfl (hb hby at_97) rfl k) ?_
    refine Gl.st (B := (T34.setTop (mkF m 99 L25 [(.int p4), (.int (3 : Int32)), (.ref b7)]))) (fun t k => XS.iloadN X34.here hx rfl (hb hby at_98) (ldAt hL25 rfl) k) ?_
    refine Gl.st (B := (T34.setTop (mkF m 100 L25 [(.int (p4.toInt8.toInt32)), (.int (3 : Int32)), (.ref b7)]))) (fun t k => XS.i2b X34.here hx rfl (hb hby at_99) rfl k) ?_
    obtain ⟨x100_36, hx100_36⟩ : ∃ z : Int32, z = (p4.toInt8.toInt32) := ⟨_, rfl⟩
    refine Gl.cast (B := (T34.setTop (mkF m 100 L25 [(.int x100_36), (.int (3 : Int32)), (.ref b7)]))) (by rw [hx100_36]) ?_
    obtain ⟨cl37, Ar37, q37, S37, P37, H37, G37⟩ := (id V34)
    have hin100_37 : ¬ ((3 : Int32) < 0 ∨ cl37.slots.size ≤ ((3 : Int32)).toNatClampNeg) := inb_of S37 ⟨by decide, by decide⟩
    obtain ⟨T37, h37, X37, e37, W37, st37⟩ := stB X34 hx hZ e34 Ar37 (j := (3 : Int32)) hin100_37 (g := (mkF m 100 L25 [(.int x100_36), (.int (3 : Int32)), (.ref b7)])) rfl rfl (hb hby at_100)
    have V37 : Arv Z h37 b7 k7 .byte (8 : Int32) [(.int (nar .byte x73_27)), (.int (nar .byte x82_30)), (.int (nar .byte x91_33)), (.int (nar .byte x100_36)), (.int (nar .byte y8_17_5)), (.int (nar .byte y8_17_5)), (.int (nar .byte y8_17_5)), (.int (nar .byte y8_17_5))] (.int (0 : Int32)) := Arv.set Ar37 q37 S37 P37 H37 G37 (fits_nar_byte _) W37 3 rfl (Nat.le_of_ble_eq_true rfl)
    have Zc38 : n0 ≤ h37.size := Nat.le_trans Zc35 (Nat.le_of_eq W37.size.symm)
    have N37 := Fr.snoc X37 N34 g_b7
    refine Gl.st (B := (T37.setTop (mkF m 101 L25 []))) st37 ?_
    refine Gl.st (B := (T37.setTop (mkF m 102 L25 [(.long (0 : Int64))]))) (fun t k => XS.lconst X37.here hx rfl (hb hby at_101) k) ?_
    obtain ⟨L39, hL39⟩ : ∃ z : Array Slot, z = #[.val (.int p1), .val (.int p2), .val (.int p3), .val (.int p4), .val (.int p5), .val (.int p6), .val (.int (0 : Int32)), .val (.int y7_12_3), .val (.int y8_17_5), .val (.ref b7), .val (.long (0 : Int64)), .second, .unset, .unset] := ⟨_, rfl⟩
    refine Gl.st (B := (T37.setTop (mkF m 104 L39 []))) (fun t k => XS.lstore X37.here hx rfl (hb hby at_102) rfl (l' := L39) (stAt hL25 hL39 rfl rfl) k) ?_
    refine Gl.st (B := (T37.setTop (mkF m 106 L39 [(.int y7_12_3)]))) (fun t k => XS.iload X37.here hx rfl (hb hby at_104) (ldAt hL39 rfl) k) ?_
    refine Gl.st (B := (T37.setTop (mkF m 107 L39 [(.int (1 : Int32)), (.int y7_12_3)]))) (fun t k => XS.iconst X37.here hx rfl (hb hby at_106) k) ?_
    obtain ⟨v121_10_42, hv121_10_42⟩ : ∃ z : Int64, z = (if y7_12_3 < (1 : Int32) then (0 : Int64) else ((0 : Int64) + ((p1.toInt64) &&& (255 : Int64)))) := ⟨_, rfl⟩
    obtain ⟨L43, hL43⟩ : ∃ z : Array Slot, z = #[.val (.int p1), .val (.int p2), .val (.int p3), .val (.int p4), .val (.int p5), .val (.int p6), .val (.int (0 : Int32)), .val (.int y7_12_3), .val (.int y8_17_5), .val (.ref b7), .val (.long v121_10_42), .second, .unset, .unset] := ⟨_, rfl⟩
    refine Gl.join (A := (T37.setTop (mkF m 121 L43 []))) (fun J107_42 => ?_) ?_
    · by_cases hc107_40 : y7_12_3 < (1 : Int32)
      · skip
        refine Gl.st (B := (T37.setTop (mkF m 121 L39 []))) (fun t k => XS.icmpYes X37.here hx rfl (pc0 := 107) (pc' := 121) rfl (hb hby at_107) rfl (tlt hc107_40).1 (by decide) (by decide) k) ?_
        have ev121_10_42 : v121_10_42 = (0 : Int64) := by rw [hv121_10_42, if_pos hc107_40]
        rw [hL43, ev121_10_42] at J107_42
        rw [hL39]
        exact J107_42
      · skip
        refine Gl.st (B := (T37.setTop (mkF m 110 L39 []))) (fun t k => XS.icmpNo X37.here hx rfl (hb hby at_107) rfl (flt hc107_40).1 k) ?_
        refine Gl.st (B := (T37.setTop (mkF m 112 L39 [(.long (0 : Int64))]))) (fun t k => XS.lload X37.here hx rfl (hb hby at_110) (ldAt hL39 rfl) k) ?_
        refine Gl.st (B := (T37.setTop (mkF m 113 L39 [(.int p1), (.long (0 : Int64))]))) (fun t k => XS.iloadN X37.here hx rfl (hb hby at_112) (ldAt hL39 rfl) k) ?_
        refine Gl.st (B := (T37.setTop (mkF m 114 L39 [(.long (p1.toInt64)), (.long (0 : Int64))]))) (fun t k => XS.i2l X37.here hx rfl (hb hby at_113) rfl k) ?_
        refine Gl.st (B := (T37.setTop (mkF m 117 L39 [(.long (255 : Int64)), (.long (p1.toInt64)), (.long (0 : Int64))]))) (fun t k => X37.ldc2Long hx hown (mvT hZ (tw hw 5 rfl)) (g := (mkF m 114 L39 [(.long (p1.toInt64)), (.long (0 : Int64))])) rfl (hb hby at_114) _ k) ?_
        refine Gl.st (B := (T37.setTop (mkF m 118 L39 [(.long ((p1.toInt64) &&& (255 : Int64))), (.long (0 : Int64))]))) (fun t k => XS.land X37.here hx rfl (hb hby at_117) rfl k) ?_
        refine Gl.st (B := (T37.setTop (mkF m 119 L39 [(.long ((0 : Int64) + ((p1.toInt64) &&& (255 : Int64))))]))) (fun t k => XS.ladd X37.here hx rfl (hb hby at_118) rfl k) ?_
        obtain ⟨L44, hL44⟩ : ∃ z : Array Slot, z = #[.val (.int p1), .val (.int p2), .val (.int p3), .val (.int p4), .val (.int p5), .val (.int p6), .val (.int (0 : Int32)), .val (.int y7_12_3), .val (.int y8_17_5), .val (.ref b7), .val (.long ((0 : Int64) + ((p1.toInt64) &&& (255 : Int64)))), .second, .unset, .unset] := ⟨_, rfl⟩
        refine Gl.st (B := (T37.setTop (mkF m 121 L44 []))) (fun t k => XS.lstore X37.here hx rfl (hb hby at_119) rfl (l' := L44) (stAt hL39 hL44 rfl rfl) k) ?_
        have ev121_10_42 : v121_10_42 = ((0 : Int64) + ((p1.toInt64) &&& (255 : Int64))) := by rw [hv121_10_42, if_neg hc107_40]
        rw [hL43, ev121_10_42] at J107_42
        rw [hL44]
        exact J107_42
    refine Gl.st (B := (T37.setTop (mkF m 123 L43 [(.int y7_12_3)]))) (fun t k => XS.iload X37.here hx rfl (hb hby at_121) (ldAt hL43 rfl) k) ?_
    refine Gl.st (B := (T37.setTop (mkF m 124 L43 [(.int (2 : Int32)), (.int y7_12_3)]))) (fun t k => XS.iconst X37.here hx rfl (hb hby at_123) k) ?_
    obtain ⟨v142_10_47, hv142_10_47⟩ : ∃ z : Int64, z = (if y7_12_3 < (2 : Int32) then v121_10_42 else (v121_10_42 + (((p2.toInt64) &&& (255 : Int64)) * (256 : Int64)))) := ⟨_, rfl⟩
    obtain ⟨L48, hL48⟩ : ∃ z : Array Slot, z = #[.val (.int p1), .val (.int p2), .val (.int p3), .val (.int p4), .val (.int p5), .val (.int p6), .val (.int (0 : Int32)), .val (.int y7_12_3), .val (.int y8_17_5), .val (.ref b7), .val (.long v142_10_47), .second, .unset, .unset] := ⟨_, rfl⟩
    refine Gl.join (A := (T37.setTop (mkF m 142 L48 []))) (fun J124_47 => ?_) ?_
    · by_cases hc124_45 : y7_12_3 < (2 : Int32)
      · skip
        refine Gl.st (B := (T37.setTop (mkF m 142 L43 []))) (fun t k => XS.icmpYes X37.here hx rfl (pc0 := 124) (pc' := 142) rfl (hb hby at_124) rfl (tlt hc124_45).1 (by decide) (by decide) k) ?_
        have ev142_10_47 : v142_10_47 = v121_10_42 := by rw [hv142_10_47, if_pos hc124_45]
        rw [hL48, ev142_10_47] at J124_47
        rw [hL43]
        exact J124_47
      · skip
        refine Gl.st (B := (T37.setTop (mkF m 127 L43 []))) (fun t k => XS.icmpNo X37.here hx rfl (hb hby at_124) rfl (flt hc124_45).1 k) ?_
        refine Gl.st (B := (T37.setTop (mkF m 129 L43 [(.long v121_10_42)]))) (fun t k => XS.lload X37.here hx rfl (hb hby at_127) (ldAt hL43 rfl) k) ?_
        refine Gl.st (B := (T37.setTop (mkF m 130 L43 [(.int p2), (.long v121_10_42)]))) (fun t k => XS.iloadN X37.here hx rfl (hb hby at_129) (ldAt hL43 rfl) k) ?_
        refine Gl.st (B := (T37.setTop (mkF m 131 L43 [(.long (p2.toInt64)), (.long v121_10_42)]))) (fun t k => XS.i2l X37.here hx rfl (hb hby at_130) rfl k) ?_
        refine Gl.st (B := (T37.setTop (mkF m 134 L43 [(.long (255 : Int64)), (.long (p2.toInt64)), (.long v121_10_42)]))) (fun t k => X37.ldc2Long hx hown (mvT hZ (tw hw 5 rfl)) (g := (mkF m 131 L43 [(.long (p2.toInt64)), (.long v121_10_42)])) rfl (hb hby at_131) _ k) ?_
        refine Gl.st (B := (T37.setTop (mkF m 135 L43 [(.long ((p2.toInt64) &&& (255 : Int64))), (.long v121_10_42)]))) (fun t k => XS.land X37.here hx rfl (hb hby at_134) rfl k) ?_
        refine Gl.st (B := (T37.setTop (mkF m 138 L43 [(.long (256 : Int64)), (.long ((p2.toInt64) &&& (255 : Int64))), (.long v121_10_42)]))) (fun t k => X37.ldc2Long hx hown (mvT hZ (tw hw 6 rfl)) (g := (mkF m 135 L43 [(.long ((p2.toInt64) &&& (255 : Int64))), (.long v121_10_42)])) rfl (hb hby at_135) _ k) ?_
        refine Gl.st (B := (T37.setTop (mkF m 139 L43 [(.long (((p2.toInt64) &&& (255 : Int64)) * (256 : Int64))), (.long v121_10_42)]))) (fun t k => XS.lmul X37.here hx rfl (hb hby at_138) rfl k) ?_
        refine Gl.st (B := (T37.setTop (mkF m 140 L43 [(.long (v121_10_42 + (((p2.toInt64) &&& (255 : Int64)) * (256 : Int64))))]))) (fun t k => XS.ladd X37.here hx rfl (hb hby at_139) rfl k) ?_
        obtain ⟨L49, hL49⟩ : ∃ z : Array Slot, z = #[.val (.int p1), .val (.int p2), .val (.int p3), .val (.int p4), .val (.int p5), .val (.int p6), .val (.int (0 : Int32)), .val (.int y7_12_3), .val (.int y8_17_5), .val (.ref b7), .val (.long (v121_10_42 + (((p2.toInt64) &&& (255 : Int64)) * (256 : Int64)))), .second, .unset, .unset] := ⟨_, rfl⟩
        refine Gl.st (B := (T37.setTop (mkF m 142 L49 []))) (fun t k => XS.lstore X37.here hx rfl (hb hby at_140) rfl (l' := L49) (stAt hL43 hL49 rfl rfl) k) ?_
        have ev142_10_47 : v142_10_47 = (v121_10_42 + (((p2.toInt64) &&& (255 : Int64)) * (256 : Int64))) := by rw [hv142_10_47, if_neg hc124_45]
        rw [hL48, ev142_10_47] at J124_47
        rw [hL49]
        exact J124_47
    refine Gl.st (B := (T37.setTop (mkF m 144 L48 [(.int y7_12_3)]))) (fun t k => XS.iload X37.here hx rfl (hb hby at_142) (ldAt hL48 rfl) k) ?_
    refine Gl.st (B := (T37.setTop (mkF m 145 L48 [(.int (3 : Int32)), (.int y7_12_3)]))) (fun t k => XS.iconst X37.here hx rfl (hb hby at_144) k) ?_
    obtain ⟨v163_10_52, hv163_10_52⟩ : ∃ z : Int64, z = (if y7_12_3 < (3 : Int32) then v142_10_47 else (v142_10_47 + (((p3.toInt64) &&& (255 : Int64)) * (65536 : Int64)))) := ⟨_, rfl⟩
    obtain ⟨L53, hL53⟩ : ∃ z : Array Slot, z = #[.val (.int p1), .val (.int p2), .val (.int p3), .val (.int p4), .val (.int p5), .val (.int p6), .val (.int (0 : Int32)), .val (.int y7_12_3), .val (.int y8_17_5), .val (.ref b7), .val (.long v163_10_52), .second, .unset, .unset] := ⟨_, rfl⟩
    refine Gl.join (A := (T37.setTop (mkF m 163 L53 []))) (fun J145_52 => ?_) ?_
    · by_cases hc145_50 : y7_12_3 < (3 : Int32)
      · skip
        refine Gl.st (B := (T37.setTop (mkF m 163 L48 []))) (fun t k => XS.icmpYes X37.here hx rfl (pc0 := 145) (pc' := 163) rfl (hb hby at_145) rfl (tlt hc145_50).1 (by decide) (by decide) k) ?_
        have ev163_10_52 : v163_10_52 = v142_10_47 := by rw [hv163_10_52, if_pos hc145_50]
        rw [hL53, ev163_10_52] at J145_52
        rw [hL48]
        exact J145_52
      · skip
        refine Gl.st (B := (T37.setTop (mkF m 148 L48 []))) (fun t k => XS.icmpNo X37.here hx rfl (hb hby at_145) rfl (flt hc145_50).1 k) ?_
        refine Gl.st (B := (T37.setTop (mkF m 150 L48 [(.long v142_10_47)]))) (fun t k => XS.lload X37.here hx rfl (hb hby at_148) (ldAt hL48 rfl) k) ?_
        refine Gl.st (B := (T37.setTop (mkF m 151 L48 [(.int p3), (.long v142_10_47)]))) (fun t k => XS.iloadN X37.here hx rfl (hb hby at_150) (ldAt hL48 rfl) k) ?_
        refine Gl.st (B := (T37.setTop (mkF m 152 L48 [(.long (p3.toInt64)), (.long v142_10_47)]))) (fun t k => XS.i2l X37.here hx rfl (hb hby at_151) rfl k) ?_
        refine Gl.st (B := (T37.setTop (mkF m 155 L48 [(.long (255 : Int64)), (.long (p3.toInt64)), (.long v142_10_47)]))) (fun t k => X37.ldc2Long hx hown (mvT hZ (tw hw 5 rfl)) (g := (mkF m 152 L48 [(.long (p3.toInt64)), (.long v142_10_47)])) rfl (hb hby at_152) _ k) ?_
        refine Gl.st (B := (T37.setTop (mkF m 156 L48 [(.long ((p3.toInt64) &&& (255 : Int64))), (.long v142_10_47)]))) (fun t k => XS.land X37.here hx rfl (hb hby at_155) rfl k) ?_
        refine Gl.st (B := (T37.setTop (mkF m 159 L48 [(.long (65536 : Int64)), (.long ((p3.toInt64) &&& (255 : Int64))), (.long v142_10_47)]))) (fun t k => X37.ldc2Long hx hown (mvT hZ (tw hw 7 rfl)) (g := (mkF m 156 L48 [(.long ((p3.toInt64) &&& (255 : Int64))), (.long v142_10_47)])) rfl (hb hby at_156) _ k) ?_
        refine Gl.st (B := (T37.setTop (mkF m 160 L48 [(.long (((p3.toInt64) &&& (255 : Int64)) * (65536 : Int64))), (.long v142_10_47)]))) (fun t k => XS.lmul X37.here hx rfl (hb hby at_159) rfl k) ?_
        refine Gl.st (B := (T37.setTop (mkF m 161 L48 [(.long (v142_10_47 + (((p3.toInt64) &&& (255 : Int64)) * (65536 : Int64))))]))) (fun t k => XS.ladd X37.here hx rfl (hb hby at_160) rfl k) ?_
        obtain ⟨L54, hL54⟩ : ∃ z : Array Slot, z = #[.val (.int p1), .val (.int p2), .val (.int p3), .val (.int p4), .val (.int p5), .val (.int p6), .val (.int (0 : Int32)), .val (.int y7_12_3), .val (.int y8_17_5), .val (.ref b7), .val (.long (v142_10_47 + (((p3.toInt64) &&& (255 : Int64)) * (65536 : Int64)))), .second, .unset, .unset] := ⟨_, rfl⟩
        refine Gl.st (B := (T37.setTop (mkF m 163 L54 []))) (fun t k => XS.lstore X37.here hx rfl (hb hby at_161) rfl (l' := L54) (stAt hL48 hL54 rfl rfl) k) ?_
        have ev163_10_52 : v163_10_52 = (v142_10_47 + (((p3.toInt64) &&& (255 : Int64)) * (65536 : Int64))) := by rw [hv163_10_52, if_neg hc145_50]
        rw [hL53, ev163_10_52] at J145_52
        rw [hL54]
        exact J145_52
    refine Gl.st (B := (T37.setTop (mkF m 165 L53 [(.int y7_12_3)]))) (fun t k => XS.iload X37.here hx rfl (hb hby at_163) (ldAt hL53 rfl) k) ?_
    refine Gl.st (B := (T37.setTop (mkF m 166 L53 [(.int (4 : Int32)), (.int y7_12_3)]))) (fun t k => XS.iconst X37.here hx rfl (hb hby at_165) k) ?_
    obtain ⟨v184_10_57, hv184_10_57⟩ : ∃ z : Int64, z = (if y7_12_3 < (4 : Int32) then v163_10_52 else (v163_10_52 + (((p4.toInt64) &&& (255 : Int64)) * (16777216 : Int64)))) := ⟨_, rfl⟩
    obtain ⟨L58, hL58⟩ : ∃ z : Array Slot, z = #[.val (.int p1), .val (.int p2), .val (.int p3), .val (.int p4), .val (.int p5), .val (.int p6), .val (.int (0 : Int32)), .val (.int y7_12_3), .val (.int y8_17_5), .val (.ref b7), .val (.long v184_10_57), .second, .unset, .unset] := ⟨_, rfl⟩
    refine Gl.join (A := (T37.setTop (mkF m 184 L58 []))) (fun J166_57 => ?_) ?_
    · by_cases hc166_55 : y7_12_3 < (4 : Int32)
      · skip
        refine Gl.st (B := (T37.setTop (mkF m 184 L53 []))) (fun t k => XS.icmpYes X37.here hx rfl (pc0 := 166) (pc' := 184) rfl (hb hby at_166) rfl (tlt hc166_55).1 (by decide) (by decide) k) ?_
        have ev184_10_57 : v184_10_57 = v163_10_52 := by rw [hv184_10_57, if_pos hc166_55]
        rw [hL58, ev184_10_57] at J166_57
        rw [hL53]
        exact J166_57
      · skip
        refine Gl.st (B := (T37.setTop (mkF m 169 L53 []))) (fun t k => XS.icmpNo X37.here hx rfl (hb hby at_166) rfl (flt hc166_55).1 k) ?_
        refine Gl.st (B := (T37.setTop (mkF m 171 L53 [(.long v163_10_52)]))) (fun t k => XS.lload X37.here hx rfl (hb hby at_169) (ldAt hL53 rfl) k) ?_
        refine Gl.st (B := (T37.setTop (mkF m 172 L53 [(.int p4), (.long v163_10_52)]))) (fun t k => XS.iloadN X37.here hx rfl (hb hby at_171) (ldAt hL53 rfl) k) ?_
        refine Gl.st (B := (T37.setTop (mkF m 173 L53 [(.long (p4.toInt64)), (.long v163_10_52)]))) (fun t k => XS.i2l X37.here hx rfl (hb hby at_172) rfl k) ?_
        refine Gl.st (B := (T37.setTop (mkF m 176 L53 [(.long (255 : Int64)), (.long (p4.toInt64)), (.long v163_10_52)]))) (fun t k => X37.ldc2Long hx hown (mvT hZ (tw hw 5 rfl)) (g := (mkF m 173 L53 [(.long (p4.toInt64)), (.long v163_10_52)])) rfl (hb hby at_173) _ k) ?_
        refine Gl.st (B := (T37.setTop (mkF m 177 L53 [(.long ((p4.toInt64) &&& (255 : Int64))), (.long v163_10_52)]))) (fun t k => XS.land X37.here hx rfl (hb hby at_176) rfl k) ?_
        refine Gl.st (B := (T37.setTop (mkF m 180 L53 [(.long (16777216 : Int64)), (.long ((p4.toInt64) &&& (255 : Int64))), (.long v163_10_52)]))) (fun t k => X37.ldc2Long hx hown (mvT hZ (tw hw 8 rfl)) (g := (mkF m 177 L53 [(.long ((p4.toInt64) &&& (255 : Int64))), (.long v163_10_52)])) rfl (hb hby at_177) _ k) ?_
        refine Gl.st (B := (T37.setTop (mkF m 181 L53 [(.long (((p4.toInt64) &&& (255 : Int64)) * (16777216 : Int64))), (.long v163_10_52)]))) (fun t k => XS.lmul X37.here hx rfl (hb hby at_180) rfl k) ?_
        refine Gl.st (B := (T37.setTop (mkF m 182 L53 [(.long (v163_10_52 + (((p4.toInt64) &&& (255 : Int64)) * (16777216 : Int64))))]))) (fun t k => XS.ladd X37.here hx rfl (hb hby at_181) rfl k) ?_
        obtain ⟨L59, hL59⟩ : ∃ z : Array Slot, z = #[.val (.int p1), .val (.int p2), .val (.int p3), .val (.int p4), .val (.int p5), .val (.int p6), .val (.int (0 : Int32)), .val (.int y7_12_3), .val (.int y8_17_5), .val (.ref b7), .val (.long (v163_10_52 + (((p4.toInt64) &&& (255 : Int64)) * (16777216 : Int64)))), .second, .unset, .unset] := ⟨_, rfl⟩
        refine Gl.st (B := (T37.setTop (mkF m 184 L59 []))) (fun t k => XS.lstore X37.here hx rfl (hb hby at_182) rfl (l' := L59) (stAt hL53 hL59 rfl rfl) k) ?_
        have ev184_10_57 : v184_10_57 = (v163_10_52 + (((p4.toInt64) &&& (255 : Int64)) * (16777216 : Int64))) := by rw [hv184_10_57, if_neg hc166_55]
        rw [hL58, ev184_10_57] at J166_57
        rw [hL59]
        exact J166_57
    refine Gl.st (B := (T37.setTop (mkF m 186 L58 [(.ref b7)]))) (fun t k => XS.aload X37.here hx rfl (hb hby at_184) (ldAt hL58 rfl) rfl k) ?_
    refine Gl.st (B := (T37.setTop (mkF m 188 L58 [(.int (0 : Int32)), (.ref b7)]))) (fun t k => XS.iload X37.here hx rfl (hb hby at_186) (ldAt hL58 rfl) k) ?_
    refine Gl.st (B := (T37.setTop (mkF m 190 L58 [(.int y7_12_3), (.int (0 : Int32)), (.ref b7)]))) (fun t k => XS.iload X37.here hx rfl (hb hby at_188) (ldAt hL58 rfl) k) ?_
    have hp190_61 : ¬ ((4 : Int32) < y7_12_3) := own_0_hp190_61 p6 y7_12_3 hy7_12_3 
    obtain ⟨_, _, ⟨T60, L60q, k60, n60⟩, -, X60, ⟨Lc60, hQ60, l60, y60, z60⟩, st60⟩ := Jvm.LawKit.callS X37 hx (y := (⟨"com/example/requeue/requeue/connection/SnappyBlock", "readLittleEndian", "([BII)J"⟩ : MethodName)) hown (mvT hZ (tw hw 1 rfl)) (mvT hZ (tw hw 2 rfl)) (mvT hZ (tw hw 3 rfl)) (mvT hZ (tw hw 4 rfl)) (by decide) (backOf (W := 0) (rm1o0 l Z a0 hw [] b7 y7_12_3 k7 (nar .byte x73_27) (nar .byte x82_30) (nar .byte x91_33) (nar .byte x100_36) (nar .byte y8_17_5) (nar .byte y8_17_5) (nar .byte y8_17_5) (nar .byte y8_17_5) h37 n0 Zc38 V37 hp190_61) hZ (tw hw 4 rfl) (tw hw 3 rfl) (by decide) (by decide)) (g := (mkF m 190 L58 [(.int y7_12_3), (.int (0 : Int32)), (.ref b7)])) rfl (szAt hml hL58 rfl) (argsL := [(.ref b7), (.int (0 : Int32)), (.int y7_12_3)]) (rest := []) (lenOf pd_0_0 rfl) rfl (by show 2 * 0 + _ ≤ _; exact Nat.le_of_eq rfl) (hb hby at_190) (fun _ _ => ⟨rfl, e37, (by decide : 1 + 0 ≤ _), (by decide : 8 + 0 ≤ _)⟩)
    dsimp only [Pt.U, Pt.locs, Pt.cells, Pt.slots] at X60 l60 y60 z60 st60 hQ60
    subst l60 y60 z60
    obtain ⟨rfl, N60q, eh60⟩ := hQ60
    have N60 := Fr.app N37 N60q
    refine Gl.st (B := (T60.setTop (mkF m 193 L58 [(.long (if (0 : Int32) < y7_12_3 then (if (1 : Int32) < y7_12_3 then (if (2 : Int32) < y7_12_3 then (if (3 : Int32) < y7_12_3 then (((((((((0 : Int64) ||| ((((nar .byte x73_27) &&& (255 : Int32)).toInt64) <<< ((0 : Int32) &&& 0x3f).toInt64))) ||| ((((nar .byte x82_30) &&& (255 : Int32)).toInt64) <<< ((8 : Int32) &&& 0x3f).toInt64))) ||| ((((nar .byte x91_33) &&& (255 : Int32)).toInt64) <<< ((16 : Int32) &&& 0x3f).toInt64))) ||| ((((nar .byte x100_36) &&& (255 : Int32)).toInt64) <<< ((24 : Int32) &&& 0x3f).toInt64))) else (((((((0 : Int64) ||| ((((nar .byte x73_27) &&& (255 : Int32)).toInt64) <<< ((0 : Int32) &&& 0x3f).toInt64))) ||| ((((nar .byte x82_30) &&& (255 : Int32)).toInt64) <<< ((8 : Int32) &&& 0x3f).toInt64))) ||| ((((nar .byte x91_33) &&& (255 : Int32)).toInt64) <<< ((16 : Int32) &&& 0x3f).toInt64)))) else (((((0 : Int64) ||| ((((nar .byte x73_27) &&& (255 : Int32)).toInt64) <<< ((0 : Int32) &&& 0x3f).toInt64))) ||| ((((nar .byte x82_30) &&& (255 : Int32)).toInt64) <<< ((8 : Int32) &&& 0x3f).toInt64)))) else (((0 : Int64) ||| ((((nar .byte x73_27) &&& (255 : Int32)).toInt64) <<< ((0 : Int32) &&& 0x3f).toInt64)))) else (0 : Int64)))]))) (fun t k => st60 t k) ?_
    obtain ⟨r190_62, hr190_62⟩ : ∃ z : Int64, z = (if (0 : Int32) < y7_12_3 then (if (1 : Int32) < y7_12_3 then (if (2 : Int32) < y7_12_3 then (if (3 : Int32) < y7_12_3 then (((((((((0 : Int64) ||| ((((nar .byte x73_27) &&& (255 : Int32)).toInt64) <<< ((0 : Int32) &&& 0x3f).toInt64))) ||| ((((nar .byte x82_30) &&& (255 : Int32)).toInt64) <<< ((8 : Int32) &&& 0x3f).toInt64))) ||| ((((nar .byte x91_33) &&& (255 : Int32)).toInt64) <<< ((16 : Int32) &&& 0x3f).toInt64))) ||| ((((nar .byte x100_36) &&& (255 : Int32)).toInt64) <<< ((24 : Int32) &&& 0x3f).toInt64))) else (((((((0 : Int64) ||| ((((nar .byte x73_27) &&& (255 : Int32)).toInt64) <<< ((0 : Int32) &&& 0x3f).toInt64))) ||| ((((nar .byte x82_30) &&& (255 : Int32)).toInt64) <<< ((8 : Int32) &&& 0x3f).toInt64))) ||| ((((nar .byte x91_33) &&& (255 : Int32)).toInt64) <<< ((16 : Int32) &&& 0x3f).toInt64)))) else (((((0 : Int64) ||| ((((nar .byte x73_27) &&& (255 : Int32)).toInt64) <<< ((0 : Int32) &&& 0x3f).toInt64))) ||| ((((nar .byte x82_30) &&& (255 : Int32)).toInt64) <<< ((8 : Int32) &&& 0x3f).toInt64)))) else (((0 : Int64) ||| ((((nar .byte x73_27) &&& (255 : Int32)).toInt64) <<< ((0 : Int32) &&& 0x3f).toInt64)))) else (0 : Int64)) := ⟨_, rfl⟩
    refine Gl.cast (B := (T60.setTop (mkF m 193 L58 [(.long r190_62)]))) (by rw [hr190_62]) ?_
    obtain ⟨L63, hL63⟩ : ∃ z : Array Slot, z = #[.val (.int p1), .val (.int p2), .val (.int p3), .val (.int p4), .val (.int p5), .val (.int p6), .val (.int (0 : Int32)), .val (.int y7_12_3), .val (.int y8_17_5), .val (.ref b7), .val (.long v184_10_57), .second, .val (.long r190_62), .second] := ⟨_, rfl⟩
    refine Gl.st (B := (T60.setTop (mkF m 195 L63 []))) (fun t k => XS.lstore X60.here hx rfl (hb hby at_193) rfl (l' := L63) (stAt hL58 hL63 rfl rfl) k) ?_
    refine Gl.st (B := (T60.setTop (mkF m 197 L63 [(.long r190_62)]))) (fun t k => XS.lload X60.here hx rfl (hb hby at_195) (ldAt hL63 rfl) k) ?_
    refine Gl.st (B := (T60.setTop (mkF m 199 L63 [(.long v184_10_57), (.long r190_62)]))) (fun t k => XS.lload X60.here hx rfl (hb hby at_197) (ldAt hL63 rfl) k) ?_
    refine Gl.st (B := (T60.setTop (mkF m 200 L63 [(.int (lcmpW r190_62 v184_10_57))]))) (fun t k => XS.lcmp X60.here hx rfl (hb hby at_199) rfl k) ?_
    have hc200_64 : r190_62 = v184_10_57 := own_0_hc200_64 p6 y7_12_3 p1 x73_27 p2 x82_30 p3 x91_33 p4 x100_36 r190_62 v121_10_42 v142_10_47 v163_10_52 v184_10_57 hy7_12_3 hx73_27 hx82_30 hx91_33 hx100_36 hr190_62 hv121_10_42 hv142_10_47 hv163_10_52 hv184_10_57 
    refine Gl.st (B := (T60.setTop (mkF m 203 L63 []))) (fun t k => XS.ifNo X60.here hx rfl (hb hby at_200) rfl ((if0 _ _).trans (teq ((lw_eq r190_62 v184_10_57).mpr hc200_64)).2) k) ?_
    refine Gl.st (B := (T60.setTop (mkF m 204 L63 [(.int (1 : Int32))]))) (fun t k => XS.iconst X60.here hx rfl (hb hby at_203) k) ?_
    refine Gl.st (B := (T60.setTop (mkF m 208 L63 [(.int (1 : Int32))]))) (fun t k => XS.goto X60.here hx rfl (pc0 := 204) (pc' := 208) rfl (hb hby at_204) (by decide) (by decide) k) ?_
    obtain ⟨fs, hr, hrun, hended, hW, hsame⟩ := X60.leave (v := some (.int (nar .boolean (1 : Int32)))) (fun h => by rw [Bd.returns] at h; cases h)
    refine Gl.fin (retN X60 hx (t := .boolean) Bd.returns (by simp) (hb hby at_208) hr) hrun hended ⟨_, _, rfl, ?_, ⟨_, rfl⟩, hW, hsame.mono (by decide) (by decide)⟩
    show Q0 Z p1 p2 p3 p4 p5 p6 h0 n0 _ T60.heap _
    rw [eh60]
    exact ⟨rfl, N60⟩
  · skip
    subst hk
    obtain ⟨x73_65, hx73_65⟩ : ∃ z : Int32, z = (p1.toInt8.toInt32) := ⟨_, rfl⟩
    refine Gl.cast (B := (T23.setTop (mkF m 73 L25 [(.int x73_65), (.int (1 : Int32)), (.ref b7)]))) (by rw [hx73_65]) ?_
    obtain ⟨cl66, Ar66, q66, S66, P66, H66, G66⟩ := (id V23)
    have hin73_66 : ¬ ((1 : Int32) < 0 ∨ cl66.slots.size ≤ ((1 : Int32)).toNatClampNeg) := inb_of S66 ⟨by decide, by decide⟩
    obtain ⟨T66, h66, X66, e66, W66, st66⟩ := stB X23 hx hZ e23 Ar66 (j := (1 : Int32)) hin73_66 (g := (mkF m 73 L25 [(.int x73_65), (.int (1 : Int32)), (.ref b7)])) rfl rfl (hb hby at_73)
    have V66 : Arv Z h66 b7 k7 .byte (8 : Int32) [(.int (nar .byte y8_17_5)), (.int (nar .byte x73_65)), (.int (nar .byte y8_17_5)), (.int (nar .byte y8_17_5)), (.int (nar .byte y8_17_5)), (.int (nar .byte y8_17_5)), (.int (nar .byte y8_17_5)), (.int (nar .byte y8_17_5))] (.int (0 : Int32)) := Arv.set Ar66 q66 S66 P66 H66 G66 (fits_nar_byte _) W66 1 rfl (Nat.le_of_ble_eq_true rfl)
    have Zc67 : n0 ≤ h66.size := Nat.le_trans Zc24 (Nat.le_of_eq W66.size.symm)
    have N66 := Fr.snoc X66 N23 g_b7
    refine Gl.st (B := (T66.setTop (mkF m 74 L25 []))) st66 ?_
    refine Gl.st (B := (T66.setTop (mkF m 76 L25 [(.ref b7)]))) (fun t k => XS.aload X66.here hx rfl (hb hby at_74) (ldAt hL25 rfl) rfl k) ?_
    refine Gl.st (B := (T66.setTop (mkF m 78 L25 [(.int (1 : Int32)), (.ref b7)]))) (fun t k => XS.iload X66.here hx rfl (hb hby at_76) (ldAt hL25 rfl) k) ?_
    refine Gl.st (B := (T66.setTop (mkF m 79 L25 [(.int (1 : Int32)), (.int (1 : Int32)), (.ref b7)]))) (fun t k => XS.iconst X66.here hx rfl (hb hby at_78) k) ?_
    refine Gl.st (B := (T66.setTop (mkF m 80 L25 [(.int (2 : Int32)), (.ref b7)]))) (fun t k => XS.iadd X66.here hx rfl (hb hby at_79) rfl k) ?_
    refine Gl.st (B := (T66.setTop (mkF m 81 L25 [(.int p2), (.int (2 : Int32)), (.ref b7)]))) (fun t k => XS.iloadN X66.here hx rfl (hb hby at_80) (ldAt hL25 rfl) k) ?_
    refine Gl.st (B := (T66.setTop (mkF m 82 L25 [(.int (p2.toInt8.toInt32)), (.int (2 : Int32)), (.ref b7)]))) (fun t k => XS.i2b X66.here hx rfl (hb hby at_81) rfl k) ?_
    obtain ⟨x82_68, hx82_68⟩ : ∃ z : Int32, z = (p2.toInt8.toInt32) := ⟨_, rfl⟩
    refine Gl.cast (B := (T66.setTop (mkF m 82 L25 [(.int x82_68), (.int (2 : Int32)), (.ref b7)]))) (by rw [hx82_68]) ?_
    obtain ⟨cl69, Ar69, q69, S69, P69, H69, G69⟩ := (id V66)
    have hin82_69 : ¬ ((2 : Int32) < 0 ∨ cl69.slots.size ≤ ((2 : Int32)).toNatClampNeg) := inb_of S69 ⟨by decide, by decide⟩
    obtain ⟨T69, h69, X69, e69, W69, st69⟩ := stB X66 hx hZ e66 Ar69 (j := (2 : Int32)) hin82_69 (g := (mkF m 82 L25 [(.int x82_68), (.int (2 : Int32)), (.ref b7)])) rfl rfl (hb hby at_82)
    have V69 : Arv Z h69 b7 k7 .byte (8 : Int32) [(.int (nar .byte y8_17_5)), (.int (nar .byte x73_65)), (.int (nar .byte x82_68)), (.int (nar .byte y8_17_5)), (.int (nar .byte y8_17_5)), (.int (nar .byte y8_17_5)), (.int (nar .byte y8_17_5)), (.int (nar .byte y8_17_5))] (.int (0 : Int32)) := Arv.set Ar69 q69 S69 P69 H69 G69 (fits_nar_byte _) W69 2 rfl (Nat.le_of_ble_eq_true rfl)
    have Zc70 : n0 ≤ h69.size := Nat.le_trans Zc67 (Nat.le_of_eq W69.size.symm)
    have N69 := Fr.snoc X69 N66 g_b7
    refine Gl.st (B := (T69.setTop (mkF m 83 L25 []))) st69 ?_
    refine Gl.st (B := (T69.setTop (mkF m 85 L25 [(.ref b7)]))) (fun t k => XS.aload X69.here hx rfl (hb hby at_83) (ldAt hL25 rfl) rfl k) ?_
    refine Gl.st (B := (T69.setTop (mkF m 87 L25 [(.int (1 : Int32)), (.ref b7)]))) (fun t k => XS.iload X69.here hx rfl (hb hby at_85) (ldAt hL25 rfl) k) ?_
    refine Gl.st (B := (T69.setTop (mkF m 88 L25 [(.int (2 : Int32)), (.int (1 : Int32)), (.ref b7)]))) (fun t k => XS.iconst X69.here hx rfl (hb hby at_87) k) ?_
    refine Gl.st (B := (T69.setTop (mkF m 89 L25 [(.int (3 : Int32)), (.ref b7)]))) (fun t k => XS.iadd X69.here hx rfl (hb hby at_88) rfl k) ?_
    refine Gl.st (B := (T69.setTop (mkF m 90 L25 [(.int p3), (.int (3 : Int32)), (.ref b7)]))) (fun t k => XS.iloadN X69.here hx rfl (hb hby at_89) (ldAt hL25 rfl) k) ?_
    refine Gl.st (B := (T69.setTop (mkF m 91 L25 [(.int (p3.toInt8.toInt32)), (.int (3 : Int32)), (.ref b7)]))) (fun t k => XS.i2b X69.here hx rfl (hb hby at_90) rfl k) ?_
    obtain ⟨x91_71, hx91_71⟩ : ∃ z : Int32, z = (p3.toInt8.toInt32) := ⟨_, rfl⟩
    refine Gl.cast (B := (T69.setTop (mkF m 91 L25 [(.int x91_71), (.int (3 : Int32)), (.ref b7)]))) (by rw [hx91_71]) ?_
    obtain ⟨cl72, Ar72, q72, S72, P72, H72, G72⟩ := (id V69)
    have hin91_72 : ¬ ((3 : Int32) < 0 ∨ cl72.slots.size ≤ ((3 : Int32)).toNatClampNeg) := inb_of S72 ⟨by decide, by decide⟩
    obtain ⟨T72, h72, X72, e72, W72, st72⟩ := stB X69 hx hZ e69 Ar72 (j := (3 : Int32)) hin91_72 (g := (mkF m 91 L25 [(.int x91_71), (.int (3 : Int32)), (.ref b7)])) rfl rfl (hb hby at_91)
    have V72 : Arv Z h72 b7 k7 .byte (8 : Int32) [(.int (nar .byte y8_17_5)), (.int (nar .byte x73_65)), (.int (nar .byte x82_68)), (.int (nar .byte x91_71)), (.int (nar .byte y8_17_5)), (.int (nar .byte y8_17_5)), (.int (nar .byte y8_17_5)), (.int (nar .byte y8_17_5))] (.int (0 : Int32)) := Arv.set Ar72 q72 S72 P72 H72 G72 (fits_nar_byte _) W72 3 rfl (Nat.le_of_ble_eq_true rfl)
    have Zc73 : n0 ≤ h72.size := Nat.le_trans Zc70 (Nat.le_of_eq W72.size.symm)
    have N72 := Fr.snoc X72 N69 g_b7
    refine Gl.st (B := (T72.setTop (mkF m 92 L25 []))) st72 ?_
    refine Gl.st (B := (T72.setTop (mkF m 94 L25 [(.ref b7)]))) (fun t k => XS.aload X72.here hx rfl (hb hby at_92) (ldAt hL25 rfl) rfl k) ?_
    refine Gl.st (B := (T72.setTop (mkF m 96 L25 [(.int (1 : Int32)), (.ref b7)]))) (fun t k => XS.iload X72.here hx rfl (hb hby at_94) (ldAt hL25 rfl) k) ?_
    refine Gl.st (B := (T72.setTop (mkF m 97 L25 [(.int (3 : Int32)), (.int (1 : Int32)), (.ref b7)]))) (fun t k => XS.iconst X72.here hx rfl (hb hby at_96) k) ?_
    refine Gl.st (B := (T72.setTop (mkF m 98 L25 [(.int (4 : Int32)), (.ref b7)]))) (fun t k => XS.iadd X72.here hx rfl (hb hby at_97) rfl k) ?_
    refine Gl.st (B := (T72.setTop (mkF m 99 L25 [(.int p4), (.int (4 : Int32)), (.ref b7)]))) (fun t k => XS.iloadN X72.here hx rfl (hb hby at_98) (ldAt hL25 rfl) k) ?_
    refine Gl.st (B := (T72.setTop (mkF m 100 L25 [(.int (p4.toInt8.toInt32)), (.int (4 : Int32)), (.ref b7)]))) (fun t k => XS.i2b X72.here hx rfl (hb hby at_99) rfl k) ?_
    obtain ⟨x100_74, hx100_74⟩ : ∃ z : Int32, z = (p4.toInt8.toInt32) := ⟨_, rfl⟩
    refine Gl.cast (B := (T72.setTop (mkF m 100 L25 [(.int x100_74), (.int (4 : Int32)), (.ref b7)]))) (by rw [hx100_74]) ?_
    obtain ⟨cl75, Ar75, q75, S75, P75, H75, G75⟩ := (id V72)
    have hin100_75 : ¬ ((4 : Int32) < 0 ∨ cl75.slots.size ≤ ((4 : Int32)).toNatClampNeg) := inb_of S75 ⟨by decide, by decide⟩
    obtain ⟨T75, h75, X75, e75, W75, st75⟩ := stB X72 hx hZ e72 Ar75 (j := (4 : Int32)) hin100_75 (g := (mkF m 100 L25 [(.int x100_74), (.int (4 : Int32)), (.ref b7)])) rfl rfl (hb hby at_100)
    have V75 : Arv Z h75 b7 k7 .byte (8 : Int32) [(.int (nar .byte y8_17_5)), (.int (nar .byte x73_65)), (.int (nar .byte x82_68)), (.int (nar .byte x91_71)), (.int (nar .byte x100_74)), (.int (nar .byte y8_17_5)), (.int (nar .byte y8_17_5)), (.int (nar .byte y8_17_5))] (.int (0 : Int32)) := Arv.set Ar75 q75 S75 P75 H75 G75 (fits_nar_byte _) W75 4 rfl (Nat.le_of_ble_eq_true rfl)
    have Zc76 : n0 ≤ h75.size := Nat.le_trans Zc73 (Nat.le_of_eq W75.size.symm)
    have N75 := Fr.snoc X75 N72 g_b7
    refine Gl.st (B := (T75.setTop (mkF m 101 L25 []))) st75 ?_
    refine Gl.st (B := (T75.setTop (mkF m 102 L25 [(.long (0 : Int64))]))) (fun t k => XS.lconst X75.here hx rfl (hb hby at_101) k) ?_
    obtain ⟨L77, hL77⟩ : ∃ z : Array Slot, z = #[.val (.int p1), .val (.int p2), .val (.int p3), .val (.int p4), .val (.int p5), .val (.int p6), .val (.int (1 : Int32)), .val (.int y7_12_3), .val (.int y8_17_5), .val (.ref b7), .val (.long (0 : Int64)), .second, .unset, .unset] := ⟨_, rfl⟩
    refine Gl.st (B := (T75.setTop (mkF m 104 L77 []))) (fun t k => XS.lstore X75.here hx rfl (hb hby at_102) rfl (l' := L77) (stAt hL25 hL77 rfl rfl) k) ?_
    refine Gl.st (B := (T75.setTop (mkF m 106 L77 [(.int y7_12_3)]))) (fun t k => XS.iload X75.here hx rfl (hb hby at_104) (ldAt hL77 rfl) k) ?_
    refine Gl.st (B := (T75.setTop (mkF m 107 L77 [(.int (1 : Int32)), (.int y7_12_3)]))) (fun t k => XS.iconst X75.here hx rfl (hb hby at_106) k) ?_
    obtain ⟨v121_10_80, hv121_10_80⟩ : ∃ z : Int64, z = (if y7_12_3 < (1 : Int32) then (0 : Int64) else ((0 : Int64) + ((p1.toInt64) &&& (255 : Int64)))) := ⟨_, rfl⟩
    obtain ⟨L81, hL81⟩ : ∃ z : Array Slot, z = #[.val (.int p1), .val (.int p2), .val (.int p3), .val (.int p4), .val (.int p5), .val (.int p6), .val (.int (1 : Int32)), .val (.int y7_12_3), .val (.int y8_17_5), .val (.ref b7), .val (.long v121_10_80), .second, .unset, .unset] := ⟨_, rfl⟩
    refine Gl.join (A := (T75.setTop (mkF m 121 L81 []))) (fun J107_80 => ?_) ?_
    · by_cases hc107_78 : y7_12_3 < (1 : Int32)
      · skip
        refine Gl.st (B := (T75.setTop (mkF m 121 L77 []))) (fun t k => XS.icmpYes X75.here hx rfl (pc0 := 107) (pc' := 121) rfl (hb hby at_107) rfl (tlt hc107_78).1 (by decide) (by decide) k) ?_
        have ev121_10_80 : v121_10_80 = (0 : Int64) := by rw [hv121_10_80, if_pos hc107_78]
        rw [hL81, ev121_10_80] at J107_80
        rw [hL77]
        exact J107_80
      · skip
        refine Gl.st (B := (T75.setTop (mkF m 110 L77 []))) (fun t k => XS.icmpNo X75.here hx rfl (hb hby at_107) rfl (flt hc107_78).1 k) ?_
        refine Gl.st (B := (T75.setTop (mkF m 112 L77 [(.long (0 : Int64))]))) (fun t k => XS.lload X75.here hx rfl (hb hby at_110) (ldAt hL77 rfl) k) ?_
        refine Gl.st (B := (T75.setTop (mkF m 113 L77 [(.int p1), (.long (0 : Int64))]))) (fun t k => XS.iloadN X75.here hx rfl (hb hby at_112) (ldAt hL77 rfl) k) ?_
        refine Gl.st (B := (T75.setTop (mkF m 114 L77 [(.long (p1.toInt64)), (.long (0 : Int64))]))) (fun t k => XS.i2l X75.here hx rfl (hb hby at_113) rfl k) ?_
        refine Gl.st (B := (T75.setTop (mkF m 117 L77 [(.long (255 : Int64)), (.long (p1.toInt64)), (.long (0 : Int64))]))) (fun t k => X75.ldc2Long hx hown (mvT hZ (tw hw 5 rfl)) (g := (mkF m 114 L77 [(.long (p1.toInt64)), (.long (0 : Int64))])) rfl (hb hby at_114) _ k) ?_
        refine Gl.st (B := (T75.setTop (mkF m 118 L77 [(.long ((p1.toInt64) &&& (255 : Int64))), (.long (0 : Int64))]))) (fun t k => XS.land X75.here hx rfl (hb hby at_117) rfl k) ?_
        refine Gl.st (B := (T75.setTop (mkF m 119 L77 [(.long ((0 : Int64) + ((p1.toInt64) &&& (255 : Int64))))]))) (fun t k => XS.ladd X75.here hx rfl (hb hby at_118) rfl k) ?_
        obtain ⟨L82, hL82⟩ : ∃ z : Array Slot, z = #[.val (.int p1), .val (.int p2), .val (.int p3), .val (.int p4), .val (.int p5), .val (.int p6), .val (.int (1 : Int32)), .val (.int y7_12_3), .val (.int y8_17_5), .val (.ref b7), .val (.long ((0 : Int64) + ((p1.toInt64) &&& (255 : Int64)))), .second, .unset, .unset] := ⟨_, rfl⟩
        refine Gl.st (B := (T75.setTop (mkF m 121 L82 []))) (fun t k => XS.lstore X75.here hx rfl (hb hby at_119) rfl (l' := L82) (stAt hL77 hL82 rfl rfl) k) ?_
        have ev121_10_80 : v121_10_80 = ((0 : Int64) + ((p1.toInt64) &&& (255 : Int64))) := by rw [hv121_10_80, if_neg hc107_78]
        rw [hL81, ev121_10_80] at J107_80
        rw [hL82]
        exact J107_80
    refine Gl.st (B := (T75.setTop (mkF m 123 L81 [(.int y7_12_3)]))) (fun t k => XS.iload X75.here hx rfl (hb hby at_121) (ldAt hL81 rfl) k) ?_
    refine Gl.st (B := (T75.setTop (mkF m 124 L81 [(.int (2 : Int32)), (.int y7_12_3)]))) (fun t k => XS.iconst X75.here hx rfl (hb hby at_123) k) ?_
    obtain ⟨v142_10_85, hv142_10_85⟩ : ∃ z : Int64, z = (if y7_12_3 < (2 : Int32) then v121_10_80 else (v121_10_80 + (((p2.toInt64) &&& (255 : Int64)) * (256 : Int64)))) := ⟨_, rfl⟩
    obtain ⟨L86, hL86⟩ : ∃ z : Array Slot, z = #[.val (.int p1), .val (.int p2), .val (.int p3), .val (.int p4), .val (.int p5), .val (.int p6), .val (.int (1 : Int32)), .val (.int y7_12_3), .val (.int y8_17_5), .val (.ref b7), .val (.long v142_10_85), .second, .unset, .unset] := ⟨_, rfl⟩
    refine Gl.join (A := (T75.setTop (mkF m 142 L86 []))) (fun J124_85 => ?_) ?_
    · by_cases hc124_83 : y7_12_3 < (2 : Int32)
      · skip
        refine Gl.st (B := (T75.setTop (mkF m 142 L81 []))) (fun t k => XS.icmpYes X75.here hx rfl (pc0 := 124) (pc' := 142) rfl (hb hby at_124) rfl (tlt hc124_83).1 (by decide) (by decide) k) ?_
        have ev142_10_85 : v142_10_85 = v121_10_80 := by rw [hv142_10_85, if_pos hc124_83]
        rw [hL86, ev142_10_85] at J124_85
        rw [hL81]
        exact J124_85
      · skip
        refine Gl.st (B := (T75.setTop (mkF m 127 L81 []))) (fun t k => XS.icmpNo X75.here hx rfl (hb hby at_124) rfl (flt hc124_83).1 k) ?_
        refine Gl.st (B := (T75.setTop (mkF m 129 L81 [(.long v121_10_80)]))) (fun t k => XS.lload X75.here hx rfl (hb hby at_127) (ldAt hL81 rfl) k) ?_
        refine Gl.st (B := (T75.setTop (mkF m 130 L81 [(.int p2), (.long v121_10_80)]))) (fun t k => XS.iloadN X75.here hx rfl (hb hby at_129) (ldAt hL81 rfl) k) ?_
        refine Gl.st (B := (T75.setTop (mkF m 131 L81 [(.long (p2.toInt64)), (.long v121_10_80)]))) (fun t k => XS.i2l X75.here hx rfl (hb hby at_130) rfl k) ?_
        refine Gl.st (B := (T75.setTop (mkF m 134 L81 [(.long (255 : Int64)), (.long (p2.toInt64)), (.long v121_10_80)]))) (fun t k => X75.ldc2Long hx hown (mvT hZ (tw hw 5 rfl)) (g := (mkF m 131 L81 [(.long (p2.toInt64)), (.long v121_10_80)])) rfl (hb hby at_131) _ k) ?_
        refine Gl.st (B := (T75.setTop (mkF m 135 L81 [(.long ((p2.toInt64) &&& (255 : Int64))), (.long v121_10_80)]))) (fun t k => XS.land X75.here hx rfl (hb hby at_134) rfl k) ?_
        refine Gl.st (B := (T75.setTop (mkF m 138 L81 [(.long (256 : Int64)), (.long ((p2.toInt64) &&& (255 : Int64))), (.long v121_10_80)]))) (fun t k => X75.ldc2Long hx hown (mvT hZ (tw hw 6 rfl)) (g := (mkF m 135 L81 [(.long ((p2.toInt64) &&& (255 : Int64))), (.long v121_10_80)])) rfl (hb hby at_135) _ k) ?_
        refine Gl.st (B := (T75.setTop (mkF m 139 L81 [(.long (((p2.toInt64) &&& (255 : Int64)) * (256 : Int64))), (.long v121_10_80)]))) (fun t k => XS.lmul X75.here hx rfl (hb hby at_138) rfl k) ?_
        refine Gl.st (B := (T75.setTop (mkF m 140 L81 [(.long (v121_10_80 + (((p2.toInt64) &&& (255 : Int64)) * (256 : Int64))))]))) (fun t k => XS.ladd X75.here hx rfl (hb hby at_139) rfl k) ?_
        obtain ⟨L87, hL87⟩ : ∃ z : Array Slot, z = #[.val (.int p1), .val (.int p2), .val (.int p3), .val (.int p4), .val (.int p5), .val (.int p6), .val (.int (1 : Int32)), .val (.int y7_12_3), .val (.int y8_17_5), .val (.ref b7), .val (.long (v121_10_80 + (((p2.toInt64) &&& (255 : Int64)) * (256 : Int64)))), .second, .unset, .unset] := ⟨_, rfl⟩
        refine Gl.st (B := (T75.setTop (mkF m 142 L87 []))) (fun t k => XS.lstore X75.here hx rfl (hb hby at_140) rfl (l' := L87) (stAt hL81 hL87 rfl rfl) k) ?_
        have ev142_10_85 : v142_10_85 = (v121_10_80 + (((p2.toInt64) &&& (255 : Int64)) * (256 : Int64))) := by rw [hv142_10_85, if_neg hc124_83]
        rw [hL86, ev142_10_85] at J124_85
        rw [hL87]
        exact J124_85
    refine Gl.st (B := (T75.setTop (mkF m 144 L86 [(.int y7_12_3)]))) (fun t k => XS.iload X75.here hx rfl (hb hby at_142) (ldAt hL86 rfl) k) ?_
    refine Gl.st (B := (T75.setTop (mkF m 145 L86 [(.int (3 : Int32)), (.int y7_12_3)]))) (fun t k => XS.iconst X75.here hx rfl (hb hby at_144) k) ?_
    obtain ⟨v163_10_90, hv163_10_90⟩ : ∃ z : Int64, z = (if y7_12_3 < (3 : Int32) then v142_10_85 else (v142_10_85 + (((p3.toInt64) &&& (255 : Int64)) * (65536 : Int64)))) := ⟨_, rfl⟩
    obtain ⟨L91, hL91⟩ : ∃ z : Array Slot, z = #[.val (.int p1), .val (.int p2), .val (.int p3), .val (.int p4), .val (.int p5), .val (.int p6), .val (.int (1 : Int32)), .val (.int y7_12_3), .val (.int y8_17_5), .val (.ref b7), .val (.long v163_10_90), .second, .unset, .unset] := ⟨_, rfl⟩
    refine Gl.join (A := (T75.setTop (mkF m 163 L91 []))) (fun J145_90 => ?_) ?_
    · by_cases hc145_88 : y7_12_3 < (3 : Int32)
      · skip
        refine Gl.st (B := (T75.setTop (mkF m 163 L86 []))) (fun t k => XS.icmpYes X75.here hx rfl (pc0 := 145) (pc' := 163) rfl (hb hby at_145) rfl (tlt hc145_88).1 (by decide) (by decide) k) ?_
        have ev163_10_90 : v163_10_90 = v142_10_85 := by rw [hv163_10_90, if_pos hc145_88]
        rw [hL91, ev163_10_90] at J145_90
        rw [hL86]
        exact J145_90
      · skip
        refine Gl.st (B := (T75.setTop (mkF m 148 L86 []))) (fun t k => XS.icmpNo X75.here hx rfl (hb hby at_145) rfl (flt hc145_88).1 k) ?_
        refine Gl.st (B := (T75.setTop (mkF m 150 L86 [(.long v142_10_85)]))) (fun t k => XS.lload X75.here hx rfl (hb hby at_148) (ldAt hL86 rfl) k) ?_
        refine Gl.st (B := (T75.setTop (mkF m 151 L86 [(.int p3), (.long v142_10_85)]))) (fun t k => XS.iloadN X75.here hx rfl (hb hby at_150) (ldAt hL86 rfl) k) ?_
        refine Gl.st (B := (T75.setTop (mkF m 152 L86 [(.long (p3.toInt64)), (.long v142_10_85)]))) (fun t k => XS.i2l X75.here hx rfl (hb hby at_151) rfl k) ?_
        refine Gl.st (B := (T75.setTop (mkF m 155 L86 [(.long (255 : Int64)), (.long (p3.toInt64)), (.long v142_10_85)]))) (fun t k => X75.ldc2Long hx hown (mvT hZ (tw hw 5 rfl)) (g := (mkF m 152 L86 [(.long (p3.toInt64)), (.long v142_10_85)])) rfl (hb hby at_152) _ k) ?_
        refine Gl.st (B := (T75.setTop (mkF m 156 L86 [(.long ((p3.toInt64) &&& (255 : Int64))), (.long v142_10_85)]))) (fun t k => XS.land X75.here hx rfl (hb hby at_155) rfl k) ?_
        refine Gl.st (B := (T75.setTop (mkF m 159 L86 [(.long (65536 : Int64)), (.long ((p3.toInt64) &&& (255 : Int64))), (.long v142_10_85)]))) (fun t k => X75.ldc2Long hx hown (mvT hZ (tw hw 7 rfl)) (g := (mkF m 156 L86 [(.long ((p3.toInt64) &&& (255 : Int64))), (.long v142_10_85)])) rfl (hb hby at_156) _ k) ?_
        refine Gl.st (B := (T75.setTop (mkF m 160 L86 [(.long (((p3.toInt64) &&& (255 : Int64)) * (65536 : Int64))), (.long v142_10_85)]))) (fun t k => XS.lmul X75.here hx rfl (hb hby at_159) rfl k) ?_
        refine Gl.st (B := (T75.setTop (mkF m 161 L86 [(.long (v142_10_85 + (((p3.toInt64) &&& (255 : Int64)) * (65536 : Int64))))]))) (fun t k => XS.ladd X75.here hx rfl (hb hby at_160) rfl k) ?_
        obtain ⟨L92, hL92⟩ : ∃ z : Array Slot, z = #[.val (.int p1), .val (.int p2), .val (.int p3), .val (.int p4), .val (.int p5), .val (.int p6), .val (.int (1 : Int32)), .val (.int y7_12_3), .val (.int y8_17_5), .val (.ref b7), .val (.long (v142_10_85 + (((p3.toInt64) &&& (255 : Int64)) * (65536 : Int64)))), .second, .unset, .unset] := ⟨_, rfl⟩
        refine Gl.st (B := (T75.setTop (mkF m 163 L92 []))) (fun t k => XS.lstore X75.here hx rfl (hb hby at_161) rfl (l' := L92) (stAt hL86 hL92 rfl rfl) k) ?_
        have ev163_10_90 : v163_10_90 = (v142_10_85 + (((p3.toInt64) &&& (255 : Int64)) * (65536 : Int64))) := by rw [hv163_10_90, if_neg hc145_88]
        rw [hL91, ev163_10_90] at J145_90
        rw [hL92]
        exact J145_90
    refine Gl.st (B := (T75.setTop (mkF m 165 L91 [(.int y7_12_3)]))) (fun t k => XS.iload X75.here hx rfl (hb hby at_163) (ldAt hL91 rfl) k) ?_
    refine Gl.st (B := (T75.setTop (mkF m 166 L91 [(.int (4 : Int32)), (.int y7_12_3)]))) (fun t k => XS.iconst X75.here hx rfl (hb hby at_165) k) ?_
    obtain ⟨v184_10_95, hv184_10_95⟩ : ∃ z : Int64, z = (if y7_12_3 < (4 : Int32) then v163_10_90 else (v163_10_90 + (((p4.toInt64) &&& (255 : Int64)) * (16777216 : Int64)))) := ⟨_, rfl⟩
    obtain ⟨L96, hL96⟩ : ∃ z : Array Slot, z = #[.val (.int p1), .val (.int p2), .val (.int p3), .val (.int p4), .val (.int p5), .val (.int p6), .val (.int (1 : Int32)), .val (.int y7_12_3), .val (.int y8_17_5), .val (.ref b7), .val (.long v184_10_95), .second, .unset, .unset] := ⟨_, rfl⟩
    refine Gl.join (A := (T75.setTop (mkF m 184 L96 []))) (fun J166_95 => ?_) ?_
    · by_cases hc166_93 : y7_12_3 < (4 : Int32)
      · skip
        refine Gl.st (B := (T75.setTop (mkF m 184 L91 []))) (fun t k => XS.icmpYes X75.here hx rfl (pc0 := 166) (pc' := 184) rfl (hb hby at_166) rfl (tlt hc166_93).1 (by decide) (by decide) k) ?_
        have ev184_10_95 : v184_10_95 = v163_10_90 := by rw [hv184_10_95, if_pos hc166_93]
        rw [hL96, ev184_10_95] at J166_95
        rw [hL91]
        exact J166_95
      · skip
        refine Gl.st (B := (T75.setTop (mkF m 169 L91 []))) (fun t k => XS.icmpNo X75.here hx rfl (hb hby at_166) rfl (flt hc166_93).1 k) ?_
        refine Gl.st (B := (T75.setTop (mkF m 171 L91 [(.long v163_10_90)]))) (fun t k => XS.lload X75.here hx rfl (hb hby at_169) (ldAt hL91 rfl) k) ?_
        refine Gl.st (B := (T75.setTop (mkF m 172 L91 [(.int p4), (.long v163_10_90)]))) (fun t k => XS.iloadN X75.here hx rfl (hb hby at_171) (ldAt hL91 rfl) k) ?_
        refine Gl.st (B := (T75.setTop (mkF m 173 L91 [(.long (p4.toInt64)), (.long v163_10_90)]))) (fun t k => XS.i2l X75.here hx rfl (hb hby at_172) rfl k) ?_
        refine Gl.st (B := (T75.setTop (mkF m 176 L91 [(.long (255 : Int64)), (.long (p4.toInt64)), (.long v163_10_90)]))) (fun t k => X75.ldc2Long hx hown (mvT hZ (tw hw 5 rfl)) (g := (mkF m 173 L91 [(.long (p4.toInt64)), (.long v163_10_90)])) rfl (hb hby at_173) _ k) ?_
        refine Gl.st (B := (T75.setTop (mkF m 177 L91 [(.long ((p4.toInt64) &&& (255 : Int64))), (.long v163_10_90)]))) (fun t k => XS.land X75.here hx rfl (hb hby at_176) rfl k) ?_
        refine Gl.st (B := (T75.setTop (mkF m 180 L91 [(.long (16777216 : Int64)), (.long ((p4.toInt64) &&& (255 : Int64))), (.long v163_10_90)]))) (fun t k => X75.ldc2Long hx hown (mvT hZ (tw hw 8 rfl)) (g := (mkF m 177 L91 [(.long ((p4.toInt64) &&& (255 : Int64))), (.long v163_10_90)])) rfl (hb hby at_177) _ k) ?_
        refine Gl.st (B := (T75.setTop (mkF m 181 L91 [(.long (((p4.toInt64) &&& (255 : Int64)) * (16777216 : Int64))), (.long v163_10_90)]))) (fun t k => XS.lmul X75.here hx rfl (hb hby at_180) rfl k) ?_
        refine Gl.st (B := (T75.setTop (mkF m 182 L91 [(.long (v163_10_90 + (((p4.toInt64) &&& (255 : Int64)) * (16777216 : Int64))))]))) (fun t k => XS.ladd X75.here hx rfl (hb hby at_181) rfl k) ?_
        obtain ⟨L97, hL97⟩ : ∃ z : Array Slot, z = #[.val (.int p1), .val (.int p2), .val (.int p3), .val (.int p4), .val (.int p5), .val (.int p6), .val (.int (1 : Int32)), .val (.int y7_12_3), .val (.int y8_17_5), .val (.ref b7), .val (.long (v163_10_90 + (((p4.toInt64) &&& (255 : Int64)) * (16777216 : Int64)))), .second, .unset, .unset] := ⟨_, rfl⟩
        refine Gl.st (B := (T75.setTop (mkF m 184 L97 []))) (fun t k => XS.lstore X75.here hx rfl (hb hby at_182) rfl (l' := L97) (stAt hL91 hL97 rfl rfl) k) ?_
        have ev184_10_95 : v184_10_95 = (v163_10_90 + (((p4.toInt64) &&& (255 : Int64)) * (16777216 : Int64))) := by rw [hv184_10_95, if_neg hc166_93]
        rw [hL96, ev184_10_95] at J166_95
        rw [hL97]
        exact J166_95
    refine Gl.st (B := (T75.setTop (mkF m 186 L96 [(.ref b7)]))) (fun t k => XS.aload X75.here hx rfl (hb hby at_184) (ldAt hL96 rfl) rfl k) ?_
    refine Gl.st (B := (T75.setTop (mkF m 188 L96 [(.int (1 : Int32)), (.ref b7)]))) (fun t k => XS.iload X75.here hx rfl (hb hby at_186) (ldAt hL96 rfl) k) ?_
    refine Gl.st (B := (T75.setTop (mkF m 190 L96 [(.int y7_12_3), (.int (1 : Int32)), (.ref b7)]))) (fun t k => XS.iload X75.here hx rfl (hb hby at_188) (ldAt hL96 rfl) k) ?_
    have hp190_99 : ¬ ((4 : Int32) < y7_12_3) := own_0_hp190_99 p6 y7_12_3 hy7_12_3 
    obtain ⟨_, _, ⟨T98, L98q, k98, n98⟩, -, X98, ⟨Lc98, hQ98, l98, y98, z98⟩, st98⟩ := Jvm.LawKit.callS X75 hx (y := (⟨"com/example/requeue/requeue/connection/SnappyBlock", "readLittleEndian", "([BII)J"⟩ : MethodName)) hown (mvT hZ (tw hw 1 rfl)) (mvT hZ (tw hw 2 rfl)) (mvT hZ (tw hw 3 rfl)) (mvT hZ (tw hw 4 rfl)) (by decide) (backOf (W := 0) (rm1o1 l Z a0 hw [] b7 y7_12_3 k7 (nar .byte y8_17_5) (nar .byte x73_65) (nar .byte x82_68) (nar .byte x91_71) (nar .byte x100_74) (nar .byte y8_17_5) (nar .byte y8_17_5) (nar .byte y8_17_5) h75 n0 Zc76 V75 hp190_99) hZ (tw hw 4 rfl) (tw hw 3 rfl) (by decide) (by decide)) (g := (mkF m 190 L96 [(.int y7_12_3), (.int (1 : Int32)), (.ref b7)])) rfl (szAt hml hL96 rfl) (argsL := [(.ref b7), (.int (1 : Int32)), (.int y7_12_3)]) (rest := []) (lenOf pd_0_0 rfl) rfl (by show 2 * 0 + _ ≤ _; exact Nat.le_of_eq rfl) (hb hby at_190) (fun _ _ => ⟨rfl, e75, (by decide : 1 + 0 ≤ _), (by decide : 8 + 0 ≤ _)⟩)
    dsimp only [Pt.U, Pt.locs, Pt.cells, Pt.slots] at X98 l98 y98 z98 st98 hQ98
    subst l98 y98 z98
    obtain ⟨rfl, N98q, eh98⟩ := hQ98
    have N98 := Fr.app N75 N98q
    refine Gl.st (B := (T98.setTop (mkF m 193 L96 [(.long (if (0 : Int32) < y7_12_3 then (if (1 : Int32) < y7_12_3 then (if (2 : Int32) < y7_12_3 then (if (3 : Int32) < y7_12_3 then (((((((((0 : Int64) ||| ((((nar .byte x73_65) &&& (255 : Int32)).toInt64) <<< ((0 : Int32) &&& 0x3f).toInt64))) ||| ((((nar .byte x82_68) &&& (255 : Int32)).toInt64) <<< ((8 : Int32) &&& 0x3f).toInt64))) ||| ((((nar .byte x91_71) &&& (255 : Int32)).toInt64) <<< ((16 : Int32) &&& 0x3f).toInt64))) ||| ((((nar .byte x100_74) &&& (255 : Int32)).toInt64) <<< ((24 : Int32) &&& 0x3f).toInt64))) else (((((((0 : Int64) ||| ((((nar .byte x73_65) &&& (255 : Int32)).toInt64) <<< ((0 : Int32) &&& 0x3f).toInt64))) ||| ((((nar .byte x82_68) &&& (255 : Int32)).toInt64) <<< ((8 : Int32) &&& 0x3f).toInt64))) ||| ((((nar .byte x91_71) &&& (255 : Int32)).toInt64) <<< ((16 : Int32) &&& 0x3f).toInt64)))) else (((((0 : Int64) ||| ((((nar .byte x73_65) &&& (255 : Int32)).toInt64) <<< ((0 : Int32) &&& 0x3f).toInt64))) ||| ((((nar .byte x82_68) &&& (255 : Int32)).toInt64) <<< ((8 : Int32) &&& 0x3f).toInt64)))) else (((0 : Int64) ||| ((((nar .byte x73_65) &&& (255 : Int32)).toInt64) <<< ((0 : Int32) &&& 0x3f).toInt64)))) else (0 : Int64)))]))) (fun t k => st98 t k) ?_
    obtain ⟨r190_100, hr190_100⟩ : ∃ z : Int64, z = (if (0 : Int32) < y7_12_3 then (if (1 : Int32) < y7_12_3 then (if (2 : Int32) < y7_12_3 then (if (3 : Int32) < y7_12_3 then (((((((((0 : Int64) ||| ((((nar .byte x73_65) &&& (255 : Int32)).toInt64) <<< ((0 : Int32) &&& 0x3f).toInt64))) ||| ((((nar .byte x82_68) &&& (255 : Int32)).toInt64) <<< ((8 : Int32) &&& 0x3f).toInt64))) ||| ((((nar .byte x91_71) &&& (255 : Int32)).toInt64) <<< ((16 : Int32) &&& 0x3f).toInt64))) ||| ((((nar .byte x100_74) &&& (255 : Int32)).toInt64) <<< ((24 : Int32) &&& 0x3f).toInt64))) else (((((((0 : Int64) ||| ((((nar .byte x73_65) &&& (255 : Int32)).toInt64) <<< ((0 : Int32) &&& 0x3f).toInt64))) ||| ((((nar .byte x82_68) &&& (255 : Int32)).toInt64) <<< ((8 : Int32) &&& 0x3f).toInt64))) ||| ((((nar .byte x91_71) &&& (255 : Int32)).toInt64) <<< ((16 : Int32) &&& 0x3f).toInt64)))) else (((((0 : Int64) ||| ((((nar .byte x73_65) &&& (255 : Int32)).toInt64) <<< ((0 : Int32) &&& 0x3f).toInt64))) ||| ((((nar .byte x82_68) &&& (255 : Int32)).toInt64) <<< ((8 : Int32) &&& 0x3f).toInt64)))) else (((0 : Int64) ||| ((((nar .byte x73_65) &&& (255 : Int32)).toInt64) <<< ((0 : Int32) &&& 0x3f).toInt64)))) else (0 : Int64)) := ⟨_, rfl⟩
    refine Gl.cast (B := (T98.setTop (mkF m 193 L96 [(.long r190_100)]))) (by rw [hr190_100]) ?_
    obtain ⟨L101, hL101⟩ : ∃ z : Array Slot, z = #[.val (.int p1), .val (.int p2), .val (.int p3), .val (.int p4), .val (.int p5), .val (.int p6), .val (.int (1 : Int32)), .val (.int y7_12_3), .val (.int y8_17_5), .val (.ref b7), .val (.long v184_10_95), .second, .val (.long r190_100), .second] := ⟨_, rfl⟩
    refine Gl.st (B := (T98.setTop (mkF m 195 L101 []))) (fun t k => XS.lstore X98.here hx rfl (hb hby at_193) rfl (l' := L101) (stAt hL96 hL101 rfl rfl) k) ?_
    refine Gl.st (B := (T98.setTop (mkF m 197 L101 [(.long r190_100)]))) (fun t k => XS.lload X98.here hx rfl (hb hby at_195) (ldAt hL101 rfl) k) ?_
    refine Gl.st (B := (T98.setTop (mkF m 199 L101 [(.long v184_10_95), (.long r190_100)]))) (fun t k => XS.lload X98.here hx rfl (hb hby at_197) (ldAt hL101 rfl) k) ?_
    refine Gl.st (B := (T98.setTop (mkF m 200 L101 [(.int (lcmpW r190_100 v184_10_95))]))) (fun t k => XS.lcmp X98.here hx rfl (hb hby at_199) rfl k) ?_
    have hc200_102 : r190_100 = v184_10_95 := own_0_hc200_102 p6 y7_12_3 p1 x73_65 p2 x82_68 p3 x91_71 p4 x100_74 r190_100 v121_10_80 v142_10_85 v163_10_90 v184_10_95 hy7_12_3 hx73_65 hx82_68 hx91_71 hx100_74 hr190_100 hv121_10_80 hv142_10_85 hv163_10_90 hv184_10_95 
    refine Gl.st (B := (T98.setTop (mkF m 203 L101 []))) (fun t k => XS.ifNo X98.here hx rfl (hb hby at_200) rfl ((if0 _ _).trans (teq ((lw_eq r190_100 v184_10_95).mpr hc200_102)).2) k) ?_
    refine Gl.st (B := (T98.setTop (mkF m 204 L101 [(.int (1 : Int32))]))) (fun t k => XS.iconst X98.here hx rfl (hb hby at_203) k) ?_
    refine Gl.st (B := (T98.setTop (mkF m 208 L101 [(.int (1 : Int32))]))) (fun t k => XS.goto X98.here hx rfl (pc0 := 204) (pc' := 208) rfl (hb hby at_204) (by decide) (by decide) k) ?_
    obtain ⟨fs, hr, hrun, hended, hW, hsame⟩ := X98.leave (v := some (.int (nar .boolean (1 : Int32)))) (fun h => by rw [Bd.returns] at h; cases h)
    refine Gl.fin (retN X98 hx (t := .boolean) Bd.returns (by simp) (hb hby at_208) hr) hrun hended ⟨_, _, rfl, ?_, ⟨_, rfl⟩, hW, hsame.mono (by decide) (by decide)⟩
    show Q0 Z p1 p2 p3 p4 p5 p6 h0 n0 _ T98.heap _
    rw [eh98]
    exact ⟨rfl, N98⟩
  · skip
    subst hk
    obtain ⟨x73_103, hx73_103⟩ : ∃ z : Int32, z = (p1.toInt8.toInt32) := ⟨_, rfl⟩
    refine Gl.cast (B := (T23.setTop (mkF m 73 L25 [(.int x73_103), (.int (2 : Int32)), (.ref b7)]))) (by rw [hx73_103]) ?_
    obtain ⟨cl104, Ar104, q104, S104, P104, H104, G104⟩ := (id V23)
    have hin73_104 : ¬ ((2 : Int32) < 0 ∨ cl104.slots.size ≤ ((2 : Int32)).toNatClampNeg) := inb_of S104 ⟨by decide, by decide⟩
    obtain ⟨T104, h104, X104, e104, W104, st104⟩ := stB X23 hx hZ e23 Ar104 (j := (2 : Int32)) hin73_104 (g := (mkF m 73 L25 [(.int x73_103), (.int (2 : Int32)), (.ref b7)])) rfl rfl (hb hby at_73)
    have V104 : Arv Z h104 b7 k7 .byte (8 : Int32) [(.int (nar .byte y8_17_5)), (.int (nar .byte y8_17_5)), (.int (nar .byte x73_103)), (.int (nar .byte y8_17_5)), (.int (nar .byte y8_17_5)), (.int (nar .byte y8_17_5)), (.int (nar .byte y8_17_5)), (.int (nar .byte y8_17_5))] (.int (0 : Int32)) := Arv.set Ar104 q104 S104 P104 H104 G104 (fits_nar_byte _) W104 2 rfl (Nat.le_of_ble_eq_true rfl)
    have Zc105 : n0 ≤ h104.size := Nat.le_trans Zc24 (Nat.le_of_eq W104.size.symm)
    have N104 := Fr.snoc X104 N23 g_b7
    refine Gl.st (B := (T104.setTop (mkF m 74 L25 []))) st104 ?_
    refine Gl.st (B := (T104.setTop (mkF m 76 L25 [(.ref b7)]))) (fun t k => XS.aload X104.here hx rfl (hb hby at_74) (ldAt hL25 rfl) rfl k) ?_
    refine Gl.st (B := (T104.setTop (mkF m 78 L25 [(.int (2 : Int32)), (.ref b7)]))) (fun t k => XS.iload X104.here hx rfl (hb hby at_76) (ldAt hL25 rfl) k) ?_
    refine Gl.st (B := (T104.setTop (mkF m 79 L25 [(.int (1 : Int32)), (.int (2 : Int32)), (.ref b7)]))) (fun t k => XS.iconst X104.here hx rfl (hb hby at_78) k) ?_
    refine Gl.st (B := (T104.setTop (mkF m 80 L25 [(.int (3 : Int32)), (.ref b7)]))) (fun t k => XS.iadd X104.here hx rfl (hb hby at_79) rfl k) ?_
    refine Gl.st (B := (T104.setTop (mkF m 81 L25 [(.int p2), (.int (3 : Int32)), (.ref b7)]))) (fun t k => XS.iloadN X104.here hx rfl (hb hby at_80) (ldAt hL25 rfl) k) ?_
    refine Gl.st (B := (T104.setTop (mkF m 82 L25 [(.int (p2.toInt8.toInt32)), (.int (3 : Int32)), (.ref b7)]))) (fun t k => XS.i2b X104.here hx rfl (hb hby at_81) rfl k) ?_
    obtain ⟨x82_106, hx82_106⟩ : ∃ z : Int32, z = (p2.toInt8.toInt32) := ⟨_, rfl⟩
    refine Gl.cast (B := (T104.setTop (mkF m 82 L25 [(.int x82_106), (.int (3 : Int32)), (.ref b7)]))) (by rw [hx82_106]) ?_
    obtain ⟨cl107, Ar107, q107, S107, P107, H107, G107⟩ := (id V104)
    have hin82_107 : ¬ ((3 : Int32) < 0 ∨ cl107.slots.size ≤ ((3 : Int32)).toNatClampNeg) := inb_of S107 ⟨by decide, by decide⟩
    obtain ⟨T107, h107, X107, e107, W107, st107⟩ := stB X104 hx hZ e104 Ar107 (j := (3 : Int32)) hin82_107 (g := (mkF m 82 L25 [(.int x82_106), (.int (3 : Int32)), (.ref b7)])) rfl rfl (hb hby at_82)
    have V107 : Arv Z h107 b7 k7 .byte (8 : Int32) [(.int (nar .byte y8_17_5)), (.int (nar .byte y8_17_5)), (.int (nar .byte x73_103)), (.int (nar .byte x82_106)), (.int (nar .byte y8_17_5)), (.int (nar .byte y8_17_5)), (.int (nar .byte y8_17_5)), (.int (nar .byte y8_17_5))] (.int (0 : Int32)) := Arv.set Ar107 q107 S107 P107 H107 G107 (fits_nar_byte _) W107 3 rfl (Nat.le_of_ble_eq_true rfl)
    have Zc108 : n0 ≤ h107.size := Nat.le_trans Zc105 (Nat.le_of_eq W107.size.symm)
    have N107 := Fr.snoc X107 N104 g_b7
    refine Gl.st (B := (T107.setTop (mkF m 83 L25 []))) st107 ?_
    refine Gl.st (B := (T107.setTop (mkF m 85 L25 [(.ref b7)]))) (fun t k => XS.aload X107.here hx rfl (hb hby at_83) (ldAt hL25 rfl) rfl k) ?_
    refine Gl.st (B := (T107.setTop (mkF m 87 L25 [(.int (2 : Int32)), (.ref b7)]))) (fun t k => XS.iload X107.here hx rfl (hb hby at_85) (ldAt hL25 rfl) k) ?_
    refine Gl.st (B := (T107.setTop (mkF m 88 L25 [(.int (2 : Int32)), (.int (2 : Int32)), (.ref b7)]))) (fun t k => XS.iconst X107.here hx rfl (hb hby at_87) k) ?_
    refine Gl.st (B := (T107.setTop (mkF m 89 L25 [(.int (4 : Int32)), (.ref b7)]))) (fun t k => XS.iadd X107.here hx rfl (hb hby at_88) rfl k) ?_
    refine Gl.st (B := (T107.setTop (mkF m 90 L25 [(.int p3), (.int (4 : Int32)), (.ref b7)]))) (fun t k => XS.iloadN X107.here hx rfl (hb hby at_89) (ldAt hL25 rfl) k) ?_
    refine Gl.st (B := (T107.setTop (mkF m 91 L25 [(.int (p3.toInt8.toInt32)), (.int (4 : Int32)), (.ref b7)]))) (fun t k => XS.i2b X107.here hx rfl (hb hby at_90) rfl k) ?_
    obtain ⟨x91_109, hx91_109⟩ : ∃ z : Int32, z = (p3.toInt8.toInt32) := ⟨_, rfl⟩
    refine Gl.cast (B := (T107.setTop (mkF m 91 L25 [(.int x91_109), (.int (4 : Int32)), (.ref b7)]))) (by rw [hx91_109]) ?_
    obtain ⟨cl110, Ar110, q110, S110, P110, H110, G110⟩ := (id V107)
    have hin91_110 : ¬ ((4 : Int32) < 0 ∨ cl110.slots.size ≤ ((4 : Int32)).toNatClampNeg) := inb_of S110 ⟨by decide, by decide⟩
    obtain ⟨T110, h110, X110, e110, W110, st110⟩ := stB X107 hx hZ e107 Ar110 (j := (4 : Int32)) hin91_110 (g := (mkF m 91 L25 [(.int x91_109), (.int (4 : Int32)), (.ref b7)])) rfl rfl (hb hby at_91)
    have V110 : Arv Z h110 b7 k7 .byte (8 : Int32) [(.int (nar .byte y8_17_5)), (.int (nar .byte y8_17_5)), (.int (nar .byte x73_103)), (.int (nar .byte x82_106)), (.int (nar .byte x91_109)), (.int (nar .byte y8_17_5)), (.int (nar .byte y8_17_5)), (.int (nar .byte y8_17_5))] (.int (0 : Int32)) := Arv.set Ar110 q110 S110 P110 H110 G110 (fits_nar_byte _) W110 4 rfl (Nat.le_of_ble_eq_true rfl)
    have Zc111 : n0 ≤ h110.size := Nat.le_trans Zc108 (Nat.le_of_eq W110.size.symm)
    have N110 := Fr.snoc X110 N107 g_b7
    refine Gl.st (B := (T110.setTop (mkF m 92 L25 []))) st110 ?_
    refine Gl.st (B := (T110.setTop (mkF m 94 L25 [(.ref b7)]))) (fun t k => XS.aload X110.here hx rfl (hb hby at_92) (ldAt hL25 rfl) rfl k) ?_
    refine Gl.st (B := (T110.setTop (mkF m 96 L25 [(.int (2 : Int32)), (.ref b7)]))) (fun t k => XS.iload X110.here hx rfl (hb hby at_94) (ldAt hL25 rfl) k) ?_
    refine Gl.st (B := (T110.setTop (mkF m 97 L25 [(.int (3 : Int32)), (.int (2 : Int32)), (.ref b7)]))) (fun t k => XS.iconst X110.here hx rfl (hb hby at_96) k) ?_
    refine Gl.st (B := (T110.setTop (mkF m 98 L25 [(.int (5 : Int32)), (.ref b7)]))) (fun t k => XS.iadd X110.here hx rfl (hb hby at_97) rfl k) ?_
    refine Gl.st (B := (T110.setTop (mkF m 99 L25 [(.int p4), (.int (5 : Int32)), (.ref b7)]))) (fun t k => XS.iloadN X110.here hx rfl (hb hby at_98) (ldAt hL25 rfl) k) ?_
    refine Gl.st (B := (T110.setTop (mkF m 100 L25 [(.int (p4.toInt8.toInt32)), (.int (5 : Int32)), (.ref b7)]))) (fun t k => XS.i2b X110.here hx rfl (hb hby at_99) rfl k) ?_
    obtain ⟨x100_112, hx100_112⟩ : ∃ z : Int32, z = (p4.toInt8.toInt32) := ⟨_, rfl⟩
    refine Gl.cast (B := (T110.setTop (mkF m 100 L25 [(.int x100_112), (.int (5 : Int32)), (.ref b7)]))) (by rw [hx100_112]) ?_
    obtain ⟨cl113, Ar113, q113, S113, P113, H113, G113⟩ := (id V110)
    have hin100_113 : ¬ ((5 : Int32) < 0 ∨ cl113.slots.size ≤ ((5 : Int32)).toNatClampNeg) := inb_of S113 ⟨by decide, by decide⟩
    obtain ⟨T113, h113, X113, e113, W113, st113⟩ := stB X110 hx hZ e110 Ar113 (j := (5 : Int32)) hin100_113 (g := (mkF m 100 L25 [(.int x100_112), (.int (5 : Int32)), (.ref b7)])) rfl rfl (hb hby at_100)
    have V113 : Arv Z h113 b7 k7 .byte (8 : Int32) [(.int (nar .byte y8_17_5)), (.int (nar .byte y8_17_5)), (.int (nar .byte x73_103)), (.int (nar .byte x82_106)), (.int (nar .byte x91_109)), (.int (nar .byte x100_112)), (.int (nar .byte y8_17_5)), (.int (nar .byte y8_17_5))] (.int (0 : Int32)) := Arv.set Ar113 q113 S113 P113 H113 G113 (fits_nar_byte _) W113 5 rfl (Nat.le_of_ble_eq_true rfl)
    have Zc114 : n0 ≤ h113.size := Nat.le_trans Zc111 (Nat.le_of_eq W113.size.symm)
    have N113 := Fr.snoc X113 N110 g_b7
    refine Gl.st (B := (T113.setTop (mkF m 101 L25 []))) st113 ?_
    refine Gl.st (B := (T113.setTop (mkF m 102 L25 [(.long (0 : Int64))]))) (fun t k => XS.lconst X113.here hx rfl (hb hby at_101) k) ?_
    obtain ⟨L115, hL115⟩ : ∃ z : Array Slot, z = #[.val (.int p1), .val (.int p2), .val (.int p3), .val (.int p4), .val (.int p5), .val (.int p6), .val (.int (2 : Int32)), .val (.int y7_12_3), .val (.int y8_17_5), .val (.ref b7), .val (.long (0 : Int64)), .second, .unset, .unset] := ⟨_, rfl⟩
    refine Gl.st (B := (T113.setTop (mkF m 104 L115 []))) (fun t k => XS.lstore X113.here hx rfl (hb hby at_102) rfl (l' := L115) (stAt hL25 hL115 rfl rfl) k) ?_
    refine Gl.st (B := (T113.setTop (mkF m 106 L115 [(.int y7_12_3)]))) (fun t k => XS.iload X113.here hx rfl (hb hby at_104) (ldAt hL115 rfl) k) ?_
    refine Gl.st (B := (T113.setTop (mkF m 107 L115 [(.int (1 : Int32)), (.int y7_12_3)]))) (fun t k => XS.iconst X113.here hx rfl (hb hby at_106) k) ?_
    obtain ⟨v121_10_118, hv121_10_118⟩ : ∃ z : Int64, z = (if y7_12_3 < (1 : Int32) then (0 : Int64) else ((0 : Int64) + ((p1.toInt64) &&& (255 : Int64)))) := ⟨_, rfl⟩
    obtain ⟨L119, hL119⟩ : ∃ z : Array Slot, z = #[.val (.int p1), .val (.int p2), .val (.int p3), .val (.int p4), .val (.int p5), .val (.int p6), .val (.int (2 : Int32)), .val (.int y7_12_3), .val (.int y8_17_5), .val (.ref b7), .val (.long v121_10_118), .second, .unset, .unset] := ⟨_, rfl⟩
    refine Gl.join (A := (T113.setTop (mkF m 121 L119 []))) (fun J107_118 => ?_) ?_
    · by_cases hc107_116 : y7_12_3 < (1 : Int32)
      · skip
        refine Gl.st (B := (T113.setTop (mkF m 121 L115 []))) (fun t k => XS.icmpYes X113.here hx rfl (pc0 := 107) (pc' := 121) rfl (hb hby at_107) rfl (tlt hc107_116).1 (by decide) (by decide) k) ?_
        have ev121_10_118 : v121_10_118 = (0 : Int64) := by rw [hv121_10_118, if_pos hc107_116]
        rw [hL119, ev121_10_118] at J107_118
        rw [hL115]
        exact J107_118
      · skip
        refine Gl.st (B := (T113.setTop (mkF m 110 L115 []))) (fun t k => XS.icmpNo X113.here hx rfl (hb hby at_107) rfl (flt hc107_116).1 k) ?_
        refine Gl.st (B := (T113.setTop (mkF m 112 L115 [(.long (0 : Int64))]))) (fun t k => XS.lload X113.here hx rfl (hb hby at_110) (ldAt hL115 rfl) k) ?_
        refine Gl.st (B := (T113.setTop (mkF m 113 L115 [(.int p1), (.long (0 : Int64))]))) (fun t k => XS.iloadN X113.here hx rfl (hb hby at_112) (ldAt hL115 rfl) k) ?_
        refine Gl.st (B := (T113.setTop (mkF m 114 L115 [(.long (p1.toInt64)), (.long (0 : Int64))]))) (fun t k => XS.i2l X113.here hx rfl (hb hby at_113) rfl k) ?_
        refine Gl.st (B := (T113.setTop (mkF m 117 L115 [(.long (255 : Int64)), (.long (p1.toInt64)), (.long (0 : Int64))]))) (fun t k => X113.ldc2Long hx hown (mvT hZ (tw hw 5 rfl)) (g := (mkF m 114 L115 [(.long (p1.toInt64)), (.long (0 : Int64))])) rfl (hb hby at_114) _ k) ?_
        refine Gl.st (B := (T113.setTop (mkF m 118 L115 [(.long ((p1.toInt64) &&& (255 : Int64))), (.long (0 : Int64))]))) (fun t k => XS.land X113.here hx rfl (hb hby at_117) rfl k) ?_
        refine Gl.st (B := (T113.setTop (mkF m 119 L115 [(.long ((0 : Int64) + ((p1.toInt64) &&& (255 : Int64))))]))) (fun t k => XS.ladd X113.here hx rfl (hb hby at_118) rfl k) ?_
        obtain ⟨L120, hL120⟩ : ∃ z : Array Slot, z = #[.val (.int p1), .val (.int p2), .val (.int p3), .val (.int p4), .val (.int p5), .val (.int p6), .val (.int (2 : Int32)), .val (.int y7_12_3), .val (.int y8_17_5), .val (.ref b7), .val (.long ((0 : Int64) + ((p1.toInt64) &&& (255 : Int64)))), .second, .unset, .unset] := ⟨_, rfl⟩
        refine Gl.st (B := (T113.setTop (mkF m 121 L120 []))) (fun t k => XS.lstore X113.here hx rfl (hb hby at_119) rfl (l' := L120) (stAt hL115 hL120 rfl rfl) k) ?_
        have ev121_10_118 : v121_10_118 = ((0 : Int64) + ((p1.toInt64) &&& (255 : Int64))) := by rw [hv121_10_118, if_neg hc107_116]
        rw [hL119, ev121_10_118] at J107_118
        rw [hL120]
        exact J107_118
    refine Gl.st (B := (T113.setTop (mkF m 123 L119 [(.int y7_12_3)]))) (fun t k => XS.iload X113.here hx rfl (hb hby at_121) (ldAt hL119 rfl) k) ?_
    refine Gl.st (B := (T113.setTop (mkF m 124 L119 [(.int (2 : Int32)), (.int y7_12_3)]))) (fun t k => XS.iconst X113.here hx rfl (hb hby at_123) k) ?_
    obtain ⟨v142_10_123, hv142_10_123⟩ : ∃ z : Int64, z = (if y7_12_3 < (2 : Int32) then v121_10_118 else (v121_10_118 + (((p2.toInt64) &&& (255 : Int64)) * (256 : Int64)))) := ⟨_, rfl⟩
    obtain ⟨L124, hL124⟩ : ∃ z : Array Slot, z = #[.val (.int p1), .val (.int p2), .val (.int p3), .val (.int p4), .val (.int p5), .val (.int p6), .val (.int (2 : Int32)), .val (.int y7_12_3), .val (.int y8_17_5), .val (.ref b7), .val (.long v142_10_123), .second, .unset, .unset] := ⟨_, rfl⟩
    refine Gl.join (A := (T113.setTop (mkF m 142 L124 []))) (fun J124_123 => ?_) ?_
    · by_cases hc124_121 : y7_12_3 < (2 : Int32)
      · skip
        refine Gl.st (B := (T113.setTop (mkF m 142 L119 []))) (fun t k => XS.icmpYes X113.here hx rfl (pc0 := 124) (pc' := 142) rfl (hb hby at_124) rfl (tlt hc124_121).1 (by decide) (by decide) k) ?_
        have ev142_10_123 : v142_10_123 = v121_10_118 := by rw [hv142_10_123, if_pos hc124_121]
        rw [hL124, ev142_10_123] at J124_123
        rw [hL119]
        exact J124_123
      · skip
        refine Gl.st (B := (T113.setTop (mkF m 127 L119 []))) (fun t k => XS.icmpNo X113.here hx rfl (hb hby at_124) rfl (flt hc124_121).1 k) ?_
        refine Gl.st (B := (T113.setTop (mkF m 129 L119 [(.long v121_10_118)]))) (fun t k => XS.lload X113.here hx rfl (hb hby at_127) (ldAt hL119 rfl) k) ?_
        refine Gl.st (B := (T113.setTop (mkF m 130 L119 [(.int p2), (.long v121_10_118)]))) (fun t k => XS.iloadN X113.here hx rfl (hb hby at_129) (ldAt hL119 rfl) k) ?_
        refine Gl.st (B := (T113.setTop (mkF m 131 L119 [(.long (p2.toInt64)), (.long v121_10_118)]))) (fun t k => XS.i2l X113.here hx rfl (hb hby at_130) rfl k) ?_
        refine Gl.st (B := (T113.setTop (mkF m 134 L119 [(.long (255 : Int64)), (.long (p2.toInt64)), (.long v121_10_118)]))) (fun t k => X113.ldc2Long hx hown (mvT hZ (tw hw 5 rfl)) (g := (mkF m 131 L119 [(.long (p2.toInt64)), (.long v121_10_118)])) rfl (hb hby at_131) _ k) ?_
        refine Gl.st (B := (T113.setTop (mkF m 135 L119 [(.long ((p2.toInt64) &&& (255 : Int64))), (.long v121_10_118)]))) (fun t k => XS.land X113.here hx rfl (hb hby at_134) rfl k) ?_
        refine Gl.st (B := (T113.setTop (mkF m 138 L119 [(.long (256 : Int64)), (.long ((p2.toInt64) &&& (255 : Int64))), (.long v121_10_118)]))) (fun t k => X113.ldc2Long hx hown (mvT hZ (tw hw 6 rfl)) (g := (mkF m 135 L119 [(.long ((p2.toInt64) &&& (255 : Int64))), (.long v121_10_118)])) rfl (hb hby at_135) _ k) ?_
        refine Gl.st (B := (T113.setTop (mkF m 139 L119 [(.long (((p2.toInt64) &&& (255 : Int64)) * (256 : Int64))), (.long v121_10_118)]))) (fun t k => XS.lmul X113.here hx rfl (hb hby at_138) rfl k) ?_
        refine Gl.st (B := (T113.setTop (mkF m 140 L119 [(.long (v121_10_118 + (((p2.toInt64) &&& (255 : Int64)) * (256 : Int64))))]))) (fun t k => XS.ladd X113.here hx rfl (hb hby at_139) rfl k) ?_
        obtain ⟨L125, hL125⟩ : ∃ z : Array Slot, z = #[.val (.int p1), .val (.int p2), .val (.int p3), .val (.int p4), .val (.int p5), .val (.int p6), .val (.int (2 : Int32)), .val (.int y7_12_3), .val (.int y8_17_5), .val (.ref b7), .val (.long (v121_10_118 + (((p2.toInt64) &&& (255 : Int64)) * (256 : Int64)))), .second, .unset, .unset] := ⟨_, rfl⟩
        refine Gl.st (B := (T113.setTop (mkF m 142 L125 []))) (fun t k => XS.lstore X113.here hx rfl (hb hby at_140) rfl (l' := L125) (stAt hL119 hL125 rfl rfl) k) ?_
        have ev142_10_123 : v142_10_123 = (v121_10_118 + (((p2.toInt64) &&& (255 : Int64)) * (256 : Int64))) := by rw [hv142_10_123, if_neg hc124_121]
        rw [hL124, ev142_10_123] at J124_123
        rw [hL125]
        exact J124_123
    refine Gl.st (B := (T113.setTop (mkF m 144 L124 [(.int y7_12_3)]))) (fun t k => XS.iload X113.here hx rfl (hb hby at_142) (ldAt hL124 rfl) k) ?_
    refine Gl.st (B := (T113.setTop (mkF m 145 L124 [(.int (3 : Int32)), (.int y7_12_3)]))) (fun t k => XS.iconst X113.here hx rfl (hb hby at_144) k) ?_
    obtain ⟨v163_10_128, hv163_10_128⟩ : ∃ z : Int64, z = (if y7_12_3 < (3 : Int32) then v142_10_123 else (v142_10_123 + (((p3.toInt64) &&& (255 : Int64)) * (65536 : Int64)))) := ⟨_, rfl⟩
    obtain ⟨L129, hL129⟩ : ∃ z : Array Slot, z = #[.val (.int p1), .val (.int p2), .val (.int p3), .val (.int p4), .val (.int p5), .val (.int p6), .val (.int (2 : Int32)), .val (.int y7_12_3), .val (.int y8_17_5), .val (.ref b7), .val (.long v163_10_128), .second, .unset, .unset] := ⟨_, rfl⟩
    refine Gl.join (A := (T113.setTop (mkF m 163 L129 []))) (fun J145_128 => ?_) ?_
    · by_cases hc145_126 : y7_12_3 < (3 : Int32)
      · skip
        refine Gl.st (B := (T113.setTop (mkF m 163 L124 []))) (fun t k => XS.icmpYes X113.here hx rfl (pc0 := 145) (pc' := 163) rfl (hb hby at_145) rfl (tlt hc145_126).1 (by decide) (by decide) k) ?_
        have ev163_10_128 : v163_10_128 = v142_10_123 := by rw [hv163_10_128, if_pos hc145_126]
        rw [hL129, ev163_10_128] at J145_128
        rw [hL124]
        exact J145_128
      · skip
        refine Gl.st (B := (T113.setTop (mkF m 148 L124 []))) (fun t k => XS.icmpNo X113.here hx rfl (hb hby at_145) rfl (flt hc145_126).1 k) ?_
        refine Gl.st (B := (T113.setTop (mkF m 150 L124 [(.long v142_10_123)]))) (fun t k => XS.lload X113.here hx rfl (hb hby at_148) (ldAt hL124 rfl) k) ?_
        refine Gl.st (B := (T113.setTop (mkF m 151 L124 [(.int p3), (.long v142_10_123)]))) (fun t k => XS.iloadN X113.here hx rfl (hb hby at_150) (ldAt hL124 rfl) k) ?_
        refine Gl.st (B := (T113.setTop (mkF m 152 L124 [(.long (p3.toInt64)), (.long v142_10_123)]))) (fun t k => XS.i2l X113.here hx rfl (hb hby at_151) rfl k) ?_
        refine Gl.st (B := (T113.setTop (mkF m 155 L124 [(.long (255 : Int64)), (.long (p3.toInt64)), (.long v142_10_123)]))) (fun t k => X113.ldc2Long hx hown (mvT hZ (tw hw 5 rfl)) (g := (mkF m 152 L124 [(.long (p3.toInt64)), (.long v142_10_123)])) rfl (hb hby at_152) _ k) ?_
        refine Gl.st (B := (T113.setTop (mkF m 156 L124 [(.long ((p3.toInt64) &&& (255 : Int64))), (.long v142_10_123)]))) (fun t k => XS.land X113.here hx rfl (hb hby at_155) rfl k) ?_
        refine Gl.st (B := (T113.setTop (mkF m 159 L124 [(.long (65536 : Int64)), (.long ((p3.toInt64) &&& (255 : Int64))), (.long v142_10_123)]))) (fun t k => X113.ldc2Long hx hown (mvT hZ (tw hw 7 rfl)) (g := (mkF m 156 L124 [(.long ((p3.toInt64) &&& (255 : Int64))), (.long v142_10_123)])) rfl (hb hby at_156) _ k) ?_
        refine Gl.st (B := (T113.setTop (mkF m 160 L124 [(.long (((p3.toInt64) &&& (255 : Int64)) * (65536 : Int64))), (.long v142_10_123)]))) (fun t k => XS.lmul X113.here hx rfl (hb hby at_159) rfl k) ?_
        refine Gl.st (B := (T113.setTop (mkF m 161 L124 [(.long (v142_10_123 + (((p3.toInt64) &&& (255 : Int64)) * (65536 : Int64))))]))) (fun t k => XS.ladd X113.here hx rfl (hb hby at_160) rfl k) ?_
        obtain ⟨L130, hL130⟩ : ∃ z : Array Slot, z = #[.val (.int p1), .val (.int p2), .val (.int p3), .val (.int p4), .val (.int p5), .val (.int p6), .val (.int (2 : Int32)), .val (.int y7_12_3), .val (.int y8_17_5), .val (.ref b7), .val (.long (v142_10_123 + (((p3.toInt64) &&& (255 : Int64)) * (65536 : Int64)))), .second, .unset, .unset] := ⟨_, rfl⟩
        refine Gl.st (B := (T113.setTop (mkF m 163 L130 []))) (fun t k => XS.lstore X113.here hx rfl (hb hby at_161) rfl (l' := L130) (stAt hL124 hL130 rfl rfl) k) ?_
        have ev163_10_128 : v163_10_128 = (v142_10_123 + (((p3.toInt64) &&& (255 : Int64)) * (65536 : Int64))) := by rw [hv163_10_128, if_neg hc145_126]
        rw [hL129, ev163_10_128] at J145_128
        rw [hL130]
        exact J145_128
    refine Gl.st (B := (T113.setTop (mkF m 165 L129 [(.int y7_12_3)]))) (fun t k => XS.iload X113.here hx rfl (hb hby at_163) (ldAt hL129 rfl) k) ?_
    refine Gl.st (B := (T113.setTop (mkF m 166 L129 [(.int (4 : Int32)), (.int y7_12_3)]))) (fun t k => XS.iconst X113.here hx rfl (hb hby at_165) k) ?_
    obtain ⟨v184_10_133, hv184_10_133⟩ : ∃ z : Int64, z = (if y7_12_3 < (4 : Int32) then v163_10_128 else (v163_10_128 + (((p4.toInt64) &&& (255 : Int64)) * (16777216 : Int64)))) := ⟨_, rfl⟩
    obtain ⟨L134, hL134⟩ : ∃ z : Array Slot, z = #[.val (.int p1), .val (.int p2), .val (.int p3), .val (.int p4), .val (.int p5), .val (.int p6), .val (.int (2 : Int32)), .val (.int y7_12_3), .val (.int y8_17_5), .val (.ref b7), .val (.long v184_10_133), .second, .unset, .unset] := ⟨_, rfl⟩
    refine Gl.join (A := (T113.setTop (mkF m 184 L134 []))) (fun J166_133 => ?_) ?_
    · by_cases hc166_131 : y7_12_3 < (4 : Int32)
      · skip
        refine Gl.st (B := (T113.setTop (mkF m 184 L129 []))) (fun t k => XS.icmpYes X113.here hx rfl (pc0 := 166) (pc' := 184) rfl (hb hby at_166) rfl (tlt hc166_131).1 (by decide) (by decide) k) ?_
        have ev184_10_133 : v184_10_133 = v163_10_128 := by rw [hv184_10_133, if_pos hc166_131]
        rw [hL134, ev184_10_133] at J166_133
        rw [hL129]
        exact J166_133
      · skip
        refine Gl.st (B := (T113.setTop (mkF m 169 L129 []))) (fun t k => XS.icmpNo X113.here hx rfl (hb hby at_166) rfl (flt hc166_131).1 k) ?_
        refine Gl.st (B := (T113.setTop (mkF m 171 L129 [(.long v163_10_128)]))) (fun t k => XS.lload X113.here hx rfl (hb hby at_169) (ldAt hL129 rfl) k) ?_
        refine Gl.st (B := (T113.setTop (mkF m 172 L129 [(.int p4), (.long v163_10_128)]))) (fun t k => XS.iloadN X113.here hx rfl (hb hby at_171) (ldAt hL129 rfl) k) ?_
        refine Gl.st (B := (T113.setTop (mkF m 173 L129 [(.long (p4.toInt64)), (.long v163_10_128)]))) (fun t k => XS.i2l X113.here hx rfl (hb hby at_172) rfl k) ?_
        refine Gl.st (B := (T113.setTop (mkF m 176 L129 [(.long (255 : Int64)), (.long (p4.toInt64)), (.long v163_10_128)]))) (fun t k => X113.ldc2Long hx hown (mvT hZ (tw hw 5 rfl)) (g := (mkF m 173 L129 [(.long (p4.toInt64)), (.long v163_10_128)])) rfl (hb hby at_173) _ k) ?_
        refine Gl.st (B := (T113.setTop (mkF m 177 L129 [(.long ((p4.toInt64) &&& (255 : Int64))), (.long v163_10_128)]))) (fun t k => XS.land X113.here hx rfl (hb hby at_176) rfl k) ?_
        refine Gl.st (B := (T113.setTop (mkF m 180 L129 [(.long (16777216 : Int64)), (.long ((p4.toInt64) &&& (255 : Int64))), (.long v163_10_128)]))) (fun t k => X113.ldc2Long hx hown (mvT hZ (tw hw 8 rfl)) (g := (mkF m 177 L129 [(.long ((p4.toInt64) &&& (255 : Int64))), (.long v163_10_128)])) rfl (hb hby at_177) _ k) ?_
        refine Gl.st (B := (T113.setTop (mkF m 181 L129 [(.long (((p4.toInt64) &&& (255 : Int64)) * (16777216 : Int64))), (.long v163_10_128)]))) (fun t k => XS.lmul X113.here hx rfl (hb hby at_180) rfl k) ?_
        refine Gl.st (B := (T113.setTop (mkF m 182 L129 [(.long (v163_10_128 + (((p4.toInt64) &&& (255 : Int64)) * (16777216 : Int64))))]))) (fun t k => XS.ladd X113.here hx rfl (hb hby at_181) rfl k) ?_
        obtain ⟨L135, hL135⟩ : ∃ z : Array Slot, z = #[.val (.int p1), .val (.int p2), .val (.int p3), .val (.int p4), .val (.int p5), .val (.int p6), .val (.int (2 : Int32)), .val (.int y7_12_3), .val (.int y8_17_5), .val (.ref b7), .val (.long (v163_10_128 + (((p4.toInt64) &&& (255 : Int64)) * (16777216 : Int64)))), .second, .unset, .unset] := ⟨_, rfl⟩
        refine Gl.st (B := (T113.setTop (mkF m 184 L135 []))) (fun t k => XS.lstore X113.here hx rfl (hb hby at_182) rfl (l' := L135) (stAt hL129 hL135 rfl rfl) k) ?_
        have ev184_10_133 : v184_10_133 = (v163_10_128 + (((p4.toInt64) &&& (255 : Int64)) * (16777216 : Int64))) := by rw [hv184_10_133, if_neg hc166_131]
        rw [hL134, ev184_10_133] at J166_133
        rw [hL135]
        exact J166_133
    refine Gl.st (B := (T113.setTop (mkF m 186 L134 [(.ref b7)]))) (fun t k => XS.aload X113.here hx rfl (hb hby at_184) (ldAt hL134 rfl) rfl k) ?_
    refine Gl.st (B := (T113.setTop (mkF m 188 L134 [(.int (2 : Int32)), (.ref b7)]))) (fun t k => XS.iload X113.here hx rfl (hb hby at_186) (ldAt hL134 rfl) k) ?_
    refine Gl.st (B := (T113.setTop (mkF m 190 L134 [(.int y7_12_3), (.int (2 : Int32)), (.ref b7)]))) (fun t k => XS.iload X113.here hx rfl (hb hby at_188) (ldAt hL134 rfl) k) ?_
    have hp190_137 : ¬ ((4 : Int32) < y7_12_3) := own_0_hp190_137 p6 y7_12_3 hy7_12_3 
    obtain ⟨_, _, ⟨T136, L136q, k136, n136⟩, -, X136, ⟨Lc136, hQ136, l136, y136, z136⟩, st136⟩ := Jvm.LawKit.callS X113 hx (y := (⟨"com/example/requeue/requeue/connection/SnappyBlock", "readLittleEndian", "([BII)J"⟩ : MethodName)) hown (mvT hZ (tw hw 1 rfl)) (mvT hZ (tw hw 2 rfl)) (mvT hZ (tw hw 3 rfl)) (mvT hZ (tw hw 4 rfl)) (by decide) (backOf (W := 0) (rm1o2 l Z a0 hw [] b7 y7_12_3 k7 (nar .byte y8_17_5) (nar .byte y8_17_5) (nar .byte x73_103) (nar .byte x82_106) (nar .byte x91_109) (nar .byte x100_112) (nar .byte y8_17_5) (nar .byte y8_17_5) h113 n0 Zc114 V113 hp190_137) hZ (tw hw 4 rfl) (tw hw 3 rfl) (by decide) (by decide)) (g := (mkF m 190 L134 [(.int y7_12_3), (.int (2 : Int32)), (.ref b7)])) rfl (szAt hml hL134 rfl) (argsL := [(.ref b7), (.int (2 : Int32)), (.int y7_12_3)]) (rest := []) (lenOf pd_0_0 rfl) rfl (by show 2 * 0 + _ ≤ _; exact Nat.le_of_eq rfl) (hb hby at_190) (fun _ _ => ⟨rfl, e113, (by decide : 1 + 0 ≤ _), (by decide : 8 + 0 ≤ _)⟩)
    dsimp only [Pt.U, Pt.locs, Pt.cells, Pt.slots] at X136 l136 y136 z136 st136 hQ136
    subst l136 y136 z136
    obtain ⟨rfl, N136q, eh136⟩ := hQ136
    have N136 := Fr.app N113 N136q
    refine Gl.st (B := (T136.setTop (mkF m 193 L134 [(.long (if (0 : Int32) < y7_12_3 then (if (1 : Int32) < y7_12_3 then (if (2 : Int32) < y7_12_3 then (if (3 : Int32) < y7_12_3 then (((((((((0 : Int64) ||| ((((nar .byte x73_103) &&& (255 : Int32)).toInt64) <<< ((0 : Int32) &&& 0x3f).toInt64))) ||| ((((nar .byte x82_106) &&& (255 : Int32)).toInt64) <<< ((8 : Int32) &&& 0x3f).toInt64))) ||| ((((nar .byte x91_109) &&& (255 : Int32)).toInt64) <<< ((16 : Int32) &&& 0x3f).toInt64))) ||| ((((nar .byte x100_112) &&& (255 : Int32)).toInt64) <<< ((24 : Int32) &&& 0x3f).toInt64))) else (((((((0 : Int64) ||| ((((nar .byte x73_103) &&& (255 : Int32)).toInt64) <<< ((0 : Int32) &&& 0x3f).toInt64))) ||| ((((nar .byte x82_106) &&& (255 : Int32)).toInt64) <<< ((8 : Int32) &&& 0x3f).toInt64))) ||| ((((nar .byte x91_109) &&& (255 : Int32)).toInt64) <<< ((16 : Int32) &&& 0x3f).toInt64)))) else (((((0 : Int64) ||| ((((nar .byte x73_103) &&& (255 : Int32)).toInt64) <<< ((0 : Int32) &&& 0x3f).toInt64))) ||| ((((nar .byte x82_106) &&& (255 : Int32)).toInt64) <<< ((8 : Int32) &&& 0x3f).toInt64)))) else (((0 : Int64) ||| ((((nar .byte x73_103) &&& (255 : Int32)).toInt64) <<< ((0 : Int32) &&& 0x3f).toInt64)))) else (0 : Int64)))]))) (fun t k => st136 t k) ?_
    obtain ⟨r190_138, hr190_138⟩ : ∃ z : Int64, z = (if (0 : Int32) < y7_12_3 then (if (1 : Int32) < y7_12_3 then (if (2 : Int32) < y7_12_3 then (if (3 : Int32) < y7_12_3 then (((((((((0 : Int64) ||| ((((nar .byte x73_103) &&& (255 : Int32)).toInt64) <<< ((0 : Int32) &&& 0x3f).toInt64))) ||| ((((nar .byte x82_106) &&& (255 : Int32)).toInt64) <<< ((8 : Int32) &&& 0x3f).toInt64))) ||| ((((nar .byte x91_109) &&& (255 : Int32)).toInt64) <<< ((16 : Int32) &&& 0x3f).toInt64))) ||| ((((nar .byte x100_112) &&& (255 : Int32)).toInt64) <<< ((24 : Int32) &&& 0x3f).toInt64))) else (((((((0 : Int64) ||| ((((nar .byte x73_103) &&& (255 : Int32)).toInt64) <<< ((0 : Int32) &&& 0x3f).toInt64))) ||| ((((nar .byte x82_106) &&& (255 : Int32)).toInt64) <<< ((8 : Int32) &&& 0x3f).toInt64))) ||| ((((nar .byte x91_109) &&& (255 : Int32)).toInt64) <<< ((16 : Int32) &&& 0x3f).toInt64)))) else (((((0 : Int64) ||| ((((nar .byte x73_103) &&& (255 : Int32)).toInt64) <<< ((0 : Int32) &&& 0x3f).toInt64))) ||| ((((nar .byte x82_106) &&& (255 : Int32)).toInt64) <<< ((8 : Int32) &&& 0x3f).toInt64)))) else (((0 : Int64) ||| ((((nar .byte x73_103) &&& (255 : Int32)).toInt64) <<< ((0 : Int32) &&& 0x3f).toInt64)))) else (0 : Int64)) := ⟨_, rfl⟩
    refine Gl.cast (B := (T136.setTop (mkF m 193 L134 [(.long r190_138)]))) (by rw [hr190_138]) ?_
    obtain ⟨L139, hL139⟩ : ∃ z : Array Slot, z = #[.val (.int p1), .val (.int p2), .val (.int p3), .val (.int p4), .val (.int p5), .val (.int p6), .val (.int (2 : Int32)), .val (.int y7_12_3), .val (.int y8_17_5), .val (.ref b7), .val (.long v184_10_133), .second, .val (.long r190_138), .second] := ⟨_, rfl⟩
    refine Gl.st (B := (T136.setTop (mkF m 195 L139 []))) (fun t k => XS.lstore X136.here hx rfl (hb hby at_193) rfl (l' := L139) (stAt hL134 hL139 rfl rfl) k) ?_
    refine Gl.st (B := (T136.setTop (mkF m 197 L139 [(.long r190_138)]))) (fun t k => XS.lload X136.here hx rfl (hb hby at_195) (ldAt hL139 rfl) k) ?_
    refine Gl.st (B := (T136.setTop (mkF m 199 L139 [(.long v184_10_133), (.long r190_138)]))) (fun t k => XS.lload X136.here hx rfl (hb hby at_197) (ldAt hL139 rfl) k) ?_
    refine Gl.st (B := (T136.setTop (mkF m 200 L139 [(.int (lcmpW r190_138 v184_10_133))]))) (fun t k => XS.lcmp X136.here hx rfl (hb hby at_199) rfl k) ?_
    have hc200_140 : r190_138 = v184_10_133 := own_0_hc200_140 p6 y7_12_3 p1 x73_103 p2 x82_106 p3 x91_109 p4 x100_112 r190_138 v121_10_118 v142_10_123 v163_10_128 v184_10_133 hy7_12_3 hx73_103 hx82_106 hx91_109 hx100_112 hr190_138 hv121_10_118 hv142_10_123 hv163_10_128 hv184_10_133 
    refine Gl.st (B := (T136.setTop (mkF m 203 L139 []))) (fun t k => XS.ifNo X136.here hx rfl (hb hby at_200) rfl ((if0 _ _).trans (teq ((lw_eq r190_138 v184_10_133).mpr hc200_140)).2) k) ?_
    refine Gl.st (B := (T136.setTop (mkF m 204 L139 [(.int (1 : Int32))]))) (fun t k => XS.iconst X136.here hx rfl (hb hby at_203) k) ?_
    refine Gl.st (B := (T136.setTop (mkF m 208 L139 [(.int (1 : Int32))]))) (fun t k => XS.goto X136.here hx rfl (pc0 := 204) (pc' := 208) rfl (hb hby at_204) (by decide) (by decide) k) ?_
    obtain ⟨fs, hr, hrun, hended, hW, hsame⟩ := X136.leave (v := some (.int (nar .boolean (1 : Int32)))) (fun h => by rw [Bd.returns] at h; cases h)
    refine Gl.fin (retN X136 hx (t := .boolean) Bd.returns (by simp) (hb hby at_208) hr) hrun hended ⟨_, _, rfl, ?_, ⟨_, rfl⟩, hW, hsame.mono (by decide) (by decide)⟩
    show Q0 Z p1 p2 p3 p4 p5 p6 h0 n0 _ T136.heap _
    rw [eh136]
    exact ⟨rfl, N136⟩
  · skip
    subst hk
    obtain ⟨x73_141, hx73_141⟩ : ∃ z : Int32, z = (p1.toInt8.toInt32) := ⟨_, rfl⟩
    refine Gl.cast (B := (T23.setTop (mkF m 73 L25 [(.int x73_141), (.int (3 : Int32)), (.ref b7)]))) (by rw [hx73_141]) ?_
    obtain ⟨cl142, Ar142, q142, S142, P142, H142, G142⟩ := (id V23)
    have hin73_142 : ¬ ((3 : Int32) < 0 ∨ cl142.slots.size ≤ ((3 : Int32)).toNatClampNeg) := inb_of S142 ⟨by decide, by decide⟩
    obtain ⟨T142, h142, X142, e142, W142, st142⟩ := stB X23 hx hZ e23 Ar142 (j := (3 : Int32)) hin73_142 (g := (mkF m 73 L25 [(.int x73_141), (.int (3 : Int32)), (.ref b7)])) rfl rfl (hb hby at_73)
    have V142 : Arv Z h142 b7 k7 .byte (8 : Int32) [(.int (nar .byte y8_17_5)), (.int (nar .byte y8_17_5)), (.int (nar .byte y8_17_5)), (.int (nar .byte x73_141)), (.int (nar .byte y8_17_5)), (.int (nar .byte y8_17_5)), (.int (nar .byte y8_17_5)), (.int (nar .byte y8_17_5))] (.int (0 : Int32)) := Arv.set Ar142 q142 S142 P142 H142 G142 (fits_nar_byte _) W142 3 rfl (Nat.le_of_ble_eq_true rfl)
    have Zc143 : n0 ≤ h142.size := Nat.le_trans Zc24 (Nat.le_of_eq W142.size.symm)
    have N142 := Fr.snoc X142 N23 g_b7
    refine Gl.st (B := (T142.setTop (mkF m 74 L25 []))) st142 ?_
    refine Gl.st (B := (T142.setTop (mkF m 76 L25 [(.ref b7)]))) (fun t k => XS.aload X142.here hx rfl (hb hby at_74) (ldAt hL25 rfl) rfl k) ?_
    refine Gl.st (B := (T142.setTop (mkF m 78 L25 [(.int (3 : Int32)), (.ref b7)]))) (fun t k => XS.iload X142.here hx rfl (hb hby at_76) (ldAt hL25 rfl) k) ?_
    refine Gl.st (B := (T142.setTop (mkF m 79 L25 [(.int (1 : Int32)), (.int (3 : Int32)), (.ref b7)]))) (fun t k => XS.iconst X142.here hx rfl (hb hby at_78) k) ?_
    refine Gl.st (B := (T142.setTop (mkF m 80 L25 [(.int (4 : Int32)), (.ref b7)]))) (fun t k => XS.iadd X142.here hx rfl (hb hby at_79) rfl k) ?_
    refine Gl.st (B := (T142.setTop (mkF m 81 L25 [(.int p2), (.int (4 : Int32)), (.ref b7)]))) (fun t k => XS.iloadN X142.here hx rfl (hb hby at_80) (ldAt hL25 rfl) k) ?_
    refine Gl.st (B := (T142.setTop (mkF m 82 L25 [(.int (p2.toInt8.toInt32)), (.int (4 : Int32)), (.ref b7)]))) (fun t k => XS.i2b X142.here hx rfl (hb hby at_81) rfl k) ?_
    obtain ⟨x82_144, hx82_144⟩ : ∃ z : Int32, z = (p2.toInt8.toInt32) := ⟨_, rfl⟩
    refine Gl.cast (B := (T142.setTop (mkF m 82 L25 [(.int x82_144), (.int (4 : Int32)), (.ref b7)]))) (by rw [hx82_144]) ?_
    obtain ⟨cl145, Ar145, q145, S145, P145, H145, G145⟩ := (id V142)
    have hin82_145 : ¬ ((4 : Int32) < 0 ∨ cl145.slots.size ≤ ((4 : Int32)).toNatClampNeg) := inb_of S145 ⟨by decide, by decide⟩
    obtain ⟨T145, h145, X145, e145, W145, st145⟩ := stB X142 hx hZ e142 Ar145 (j := (4 : Int32)) hin82_145 (g := (mkF m 82 L25 [(.int x82_144), (.int (4 : Int32)), (.ref b7)])) rfl rfl (hb hby at_82)
    have V145 : Arv Z h145 b7 k7 .byte (8 : Int32) [(.int (nar .byte y8_17_5)), (.int (nar .byte y8_17_5)), (.int (nar .byte y8_17_5)), (.int (nar .byte x73_141)), (.int (nar .byte x82_144)), (.int (nar .byte y8_17_5)), (.int (nar .byte y8_17_5)), (.int (nar .byte y8_17_5))] (.int (0 : Int32)) := Arv.set Ar145 q145 S145 P145 H145 G145 (fits_nar_byte _) W145 4 rfl (Nat.le_of_ble_eq_true rfl)
    have Zc146 : n0 ≤ h145.size := Nat.le_trans Zc143 (Nat.le_of_eq W145.size.symm)
    have N145 := Fr.snoc X145 N142 g_b7
    refine Gl.st (B := (T145.setTop (mkF m 83 L25 []))) st145 ?_
    refine Gl.st (B := (T145.setTop (mkF m 85 L25 [(.ref b7)]))) (fun t k => XS.aload X145.here hx rfl (hb hby at_83) (ldAt hL25 rfl) rfl k) ?_
    refine Gl.st (B := (T145.setTop (mkF m 87 L25 [(.int (3 : Int32)), (.ref b7)]))) (fun t k => XS.iload X145.here hx rfl (hb hby at_85) (ldAt hL25 rfl) k) ?_
    refine Gl.st (B := (T145.setTop (mkF m 88 L25 [(.int (2 : Int32)), (.int (3 : Int32)), (.ref b7)]))) (fun t k => XS.iconst X145.here hx rfl (hb hby at_87) k) ?_
    refine Gl.st (B := (T145.setTop (mkF m 89 L25 [(.int (5 : Int32)), (.ref b7)]))) (fun t k => XS.iadd X145.here hx rfl (hb hby at_88) rfl k) ?_
    refine Gl.st (B := (T145.setTop (mkF m 90 L25 [(.int p3), (.int (5 : Int32)), (.ref b7)]))) (fun t k => XS.iloadN X145.here hx rfl (hb hby at_89) (ldAt hL25 rfl) k) ?_
    refine Gl.st (B := (T145.setTop (mkF m 91 L25 [(.int (p3.toInt8.toInt32)), (.int (5 : Int32)), (.ref b7)]))) (fun t k => XS.i2b X145.here hx rfl (hb hby at_90) rfl k) ?_
    obtain ⟨x91_147, hx91_147⟩ : ∃ z : Int32, z = (p3.toInt8.toInt32) := ⟨_, rfl⟩
    refine Gl.cast (B := (T145.setTop (mkF m 91 L25 [(.int x91_147), (.int (5 : Int32)), (.ref b7)]))) (by rw [hx91_147]) ?_
    obtain ⟨cl148, Ar148, q148, S148, P148, H148, G148⟩ := (id V145)
    have hin91_148 : ¬ ((5 : Int32) < 0 ∨ cl148.slots.size ≤ ((5 : Int32)).toNatClampNeg) := inb_of S148 ⟨by decide, by decide⟩
    obtain ⟨T148, h148, X148, e148, W148, st148⟩ := stB X145 hx hZ e145 Ar148 (j := (5 : Int32)) hin91_148 (g := (mkF m 91 L25 [(.int x91_147), (.int (5 : Int32)), (.ref b7)])) rfl rfl (hb hby at_91)
    have V148 : Arv Z h148 b7 k7 .byte (8 : Int32) [(.int (nar .byte y8_17_5)), (.int (nar .byte y8_17_5)), (.int (nar .byte y8_17_5)), (.int (nar .byte x73_141)), (.int (nar .byte x82_144)), (.int (nar .byte x91_147)), (.int (nar .byte y8_17_5)), (.int (nar .byte y8_17_5))] (.int (0 : Int32)) := Arv.set Ar148 q148 S148 P148 H148 G148 (fits_nar_byte _) W148 5 rfl (Nat.le_of_ble_eq_true rfl)
    have Zc149 : n0 ≤ h148.size := Nat.le_trans Zc146 (Nat.le_of_eq W148.size.symm)
    have N148 := Fr.snoc X148 N145 g_b7
    refine Gl.st (B := (T148.setTop (mkF m 92 L25 []))) st148 ?_
    refine Gl.st (B := (T148.setTop (mkF m 94 L25 [(.ref b7)]))) (fun t k => XS.aload X148.here hx rfl (hb hby at_92) (ldAt hL25 rfl) rfl k) ?_
    refine Gl.st (B := (T148.setTop (mkF m 96 L25 [(.int (3 : Int32)), (.ref b7)]))) (fun t k => XS.iload X148.here hx rfl (hb hby at_94) (ldAt hL25 rfl) k) ?_
    refine Gl.st (B := (T148.setTop (mkF m 97 L25 [(.int (3 : Int32)), (.int (3 : Int32)), (.ref b7)]))) (fun t k => XS.iconst X148.here hx rfl (hb hby at_96) k) ?_
    refine Gl.st (B := (T148.setTop (mkF m 98 L25 [(.int (6 : Int32)), (.ref b7)]))) (fun t k => XS.iadd X148.here hx rfl (hb hby at_97) rfl k) ?_
    refine Gl.st (B := (T148.setTop (mkF m 99 L25 [(.int p4), (.int (6 : Int32)), (.ref b7)]))) (fun t k => XS.iloadN X148.here hx rfl (hb hby at_98) (ldAt hL25 rfl) k) ?_
    refine Gl.st (B := (T148.setTop (mkF m 100 L25 [(.int (p4.toInt8.toInt32)), (.int (6 : Int32)), (.ref b7)]))) (fun t k => XS.i2b X148.here hx rfl (hb hby at_99) rfl k) ?_
    obtain ⟨x100_150, hx100_150⟩ : ∃ z : Int32, z = (p4.toInt8.toInt32) := ⟨_, rfl⟩
    refine Gl.cast (B := (T148.setTop (mkF m 100 L25 [(.int x100_150), (.int (6 : Int32)), (.ref b7)]))) (by rw [hx100_150]) ?_
    obtain ⟨cl151, Ar151, q151, S151, P151, H151, G151⟩ := (id V148)
    have hin100_151 : ¬ ((6 : Int32) < 0 ∨ cl151.slots.size ≤ ((6 : Int32)).toNatClampNeg) := inb_of S151 ⟨by decide, by decide⟩
    obtain ⟨T151, h151, X151, e151, W151, st151⟩ := stB X148 hx hZ e148 Ar151 (j := (6 : Int32)) hin100_151 (g := (mkF m 100 L25 [(.int x100_150), (.int (6 : Int32)), (.ref b7)])) rfl rfl (hb hby at_100)
    have V151 : Arv Z h151 b7 k7 .byte (8 : Int32) [(.int (nar .byte y8_17_5)), (.int (nar .byte y8_17_5)), (.int (nar .byte y8_17_5)), (.int (nar .byte x73_141)), (.int (nar .byte x82_144)), (.int (nar .byte x91_147)), (.int (nar .byte x100_150)), (.int (nar .byte y8_17_5))] (.int (0 : Int32)) := Arv.set Ar151 q151 S151 P151 H151 G151 (fits_nar_byte _) W151 6 rfl (Nat.le_of_ble_eq_true rfl)
    have Zc152 : n0 ≤ h151.size := Nat.le_trans Zc149 (Nat.le_of_eq W151.size.symm)
    have N151 := Fr.snoc X151 N148 g_b7
    refine Gl.st (B := (T151.setTop (mkF m 101 L25 []))) st151 ?_
    refine Gl.st (B := (T151.setTop (mkF m 102 L25 [(.long (0 : Int64))]))) (fun t k => XS.lconst X151.here hx rfl (hb hby at_101) k) ?_
    obtain ⟨L153, hL153⟩ : ∃ z : Array Slot, z = #[.val (.int p1), .val (.int p2), .val (.int p3), .val (.int p4), .val (.int p5), .val (.int p6), .val (.int (3 : Int32)), .val (.int y7_12_3), .val (.int y8_17_5), .val (.ref b7), .val (.long (0 : Int64)), .second, .unset, .unset] := ⟨_, rfl⟩
    refine Gl.st (B := (T151.setTop (mkF m 104 L153 []))) (fun t k => XS.lstore X151.here hx rfl (hb hby at_102) rfl (l' := L153) (stAt hL25 hL153 rfl rfl) k) ?_
    refine Gl.st (B := (T151.setTop (mkF m 106 L153 [(.int y7_12_3)]))) (fun t k => XS.iload X151.here hx rfl (hb hby at_104) (ldAt hL153 rfl) k) ?_
    refine Gl.st (B := (T151.setTop (mkF m 107 L153 [(.int (1 : Int32)), (.int y7_12_3)]))) (fun t k => XS.iconst X151.here hx rfl (hb hby at_106) k) ?_
    obtain ⟨v121_10_156, hv121_10_156⟩ : ∃ z : Int64, z = (if y7_12_3 < (1 : Int32) then (0 : Int64) else ((0 : Int64) + ((p1.toInt64) &&& (255 : Int64)))) := ⟨_, rfl⟩
    obtain ⟨L157, hL157⟩ : ∃ z : Array Slot, z = #[.val (.int p1), .val (.int p2), .val (.int p3), .val (.int p4), .val (.int p5), .val (.int p6), .val (.int (3 : Int32)), .val (.int y7_12_3), .val (.int y8_17_5), .val (.ref b7), .val (.long v121_10_156), .second, .unset, .unset] := ⟨_, rfl⟩
    refine Gl.join (A := (T151.setTop (mkF m 121 L157 []))) (fun J107_156 => ?_) ?_
    · by_cases hc107_154 : y7_12_3 < (1 : Int32)
      · skip
        refine Gl.st (B := (T151.setTop (mkF m 121 L153 []))) (fun t k => XS.icmpYes X151.here hx rfl (pc0 := 107) (pc' := 121) rfl (hb hby at_107) rfl (tlt hc107_154).1 (by decide) (by decide) k) ?_
        have ev121_10_156 : v121_10_156 = (0 : Int64) := by rw [hv121_10_156, if_pos hc107_154]
        rw [hL157, ev121_10_156] at J107_156
        rw [hL153]
        exact J107_156
      · skip
        refine Gl.st (B := (T151.setTop (mkF m 110 L153 []))) (fun t k => XS.icmpNo X151.here hx rfl (hb hby at_107) rfl (flt hc107_154).1 k) ?_
        refine Gl.st (B := (T151.setTop (mkF m 112 L153 [(.long (0 : Int64))]))) (fun t k => XS.lload X151.here hx rfl (hb hby at_110) (ldAt hL153 rfl) k) ?_
        refine Gl.st (B := (T151.setTop (mkF m 113 L153 [(.int p1), (.long (0 : Int64))]))) (fun t k => XS.iloadN X151.here hx rfl (hb hby at_112) (ldAt hL153 rfl) k) ?_
        refine Gl.st (B := (T151.setTop (mkF m 114 L153 [(.long (p1.toInt64)), (.long (0 : Int64))]))) (fun t k => XS.i2l X151.here hx rfl (hb hby at_113) rfl k) ?_
        refine Gl.st (B := (T151.setTop (mkF m 117 L153 [(.long (255 : Int64)), (.long (p1.toInt64)), (.long (0 : Int64))]))) (fun t k => X151.ldc2Long hx hown (mvT hZ (tw hw 5 rfl)) (g := (mkF m 114 L153 [(.long (p1.toInt64)), (.long (0 : Int64))])) rfl (hb hby at_114) _ k) ?_
        refine Gl.st (B := (T151.setTop (mkF m 118 L153 [(.long ((p1.toInt64) &&& (255 : Int64))), (.long (0 : Int64))]))) (fun t k => XS.land X151.here hx rfl (hb hby at_117) rfl k) ?_
        refine Gl.st (B := (T151.setTop (mkF m 119 L153 [(.long ((0 : Int64) + ((p1.toInt64) &&& (255 : Int64))))]))) (fun t k => XS.ladd X151.here hx rfl (hb hby at_118) rfl k) ?_
        obtain ⟨L158, hL158⟩ : ∃ z : Array Slot, z = #[.val (.int p1), .val (.int p2), .val (.int p3), .val (.int p4), .val (.int p5), .val (.int p6), .val (.int (3 : Int32)), .val (.int y7_12_3), .val (.int y8_17_5), .val (.ref b7), .val (.long ((0 : Int64) + ((p1.toInt64) &&& (255 : Int64)))), .second, .unset, .unset] := ⟨_, rfl⟩
        refine Gl.st (B := (T151.setTop (mkF m 121 L158 []))) (fun t k => XS.lstore X151.here hx rfl (hb hby at_119) rfl (l' := L158) (stAt hL153 hL158 rfl rfl) k) ?_
        have ev121_10_156 : v121_10_156 = ((0 : Int64) + ((p1.toInt64) &&& (255 : Int64))) := by rw [hv121_10_156, if_neg hc107_154]
        rw [hL157, ev121_10_156] at J107_156
        rw [hL158]
        exact J107_156
    refine Gl.st (B := (T151.setTop (mkF m 123 L157 [(.int y7_12_3)]))) (fun t k => XS.iload X151.here hx rfl (hb hby at_121) (ldAt hL157 rfl) k) ?_
    refine Gl.st (B := (T151.setTop (mkF m 124 L157 [(.int (2 : Int32)), (.int y7_12_3)]))) (fun t k => XS.iconst X151.here hx rfl (hb hby at_123) k) ?_
    obtain ⟨v142_10_161, hv142_10_161⟩ : ∃ z : Int64, z = (if y7_12_3 < (2 : Int32) then v121_10_156 else (v121_10_156 + (((p2.toInt64) &&& (255 : Int64)) * (256 : Int64)))) := ⟨_, rfl⟩
    obtain ⟨L162, hL162⟩ : ∃ z : Array Slot, z = #[.val (.int p1), .val (.int p2), .val (.int p3), .val (.int p4), .val (.int p5), .val (.int p6), .val (.int (3 : Int32)), .val (.int y7_12_3), .val (.int y8_17_5), .val (.ref b7), .val (.long v142_10_161), .second, .unset, .unset] := ⟨_, rfl⟩
    refine Gl.join (A := (T151.setTop (mkF m 142 L162 []))) (fun J124_161 => ?_) ?_
    · by_cases hc124_159 : y7_12_3 < (2 : Int32)
      · skip
        refine Gl.st (B := (T151.setTop (mkF m 142 L157 []))) (fun t k => XS.icmpYes X151.here hx rfl (pc0 := 124) (pc' := 142) rfl (hb hby at_124) rfl (tlt hc124_159).1 (by decide) (by decide) k) ?_
        have ev142_10_161 : v142_10_161 = v121_10_156 := by rw [hv142_10_161, if_pos hc124_159]
        rw [hL162, ev142_10_161] at J124_161
        rw [hL157]
        exact J124_161
      · skip
        refine Gl.st (B := (T151.setTop (mkF m 127 L157 []))) (fun t k => XS.icmpNo X151.here hx rfl (hb hby at_124) rfl (flt hc124_159).1 k) ?_
        refine Gl.st (B := (T151.setTop (mkF m 129 L157 [(.long v121_10_156)]))) (fun t k => XS.lload X151.here hx rfl (hb hby at_127) (ldAt hL157 rfl) k) ?_
        refine Gl.st (B := (T151.setTop (mkF m 130 L157 [(.int p2), (.long v121_10_156)]))) (fun t k => XS.iloadN X151.here hx rfl (hb hby at_129) (ldAt hL157 rfl) k) ?_
        refine Gl.st (B := (T151.setTop (mkF m 131 L157 [(.long (p2.toInt64)), (.long v121_10_156)]))) (fun t k => XS.i2l X151.here hx rfl (hb hby at_130) rfl k) ?_
        refine Gl.st (B := (T151.setTop (mkF m 134 L157 [(.long (255 : Int64)), (.long (p2.toInt64)), (.long v121_10_156)]))) (fun t k => X151.ldc2Long hx hown (mvT hZ (tw hw 5 rfl)) (g := (mkF m 131 L157 [(.long (p2.toInt64)), (.long v121_10_156)])) rfl (hb hby at_131) _ k) ?_
        refine Gl.st (B := (T151.setTop (mkF m 135 L157 [(.long ((p2.toInt64) &&& (255 : Int64))), (.long v121_10_156)]))) (fun t k => XS.land X151.here hx rfl (hb hby at_134) rfl k) ?_
        refine Gl.st (B := (T151.setTop (mkF m 138 L157 [(.long (256 : Int64)), (.long ((p2.toInt64) &&& (255 : Int64))), (.long v121_10_156)]))) (fun t k => X151.ldc2Long hx hown (mvT hZ (tw hw 6 rfl)) (g := (mkF m 135 L157 [(.long ((p2.toInt64) &&& (255 : Int64))), (.long v121_10_156)])) rfl (hb hby at_135) _ k) ?_
        refine Gl.st (B := (T151.setTop (mkF m 139 L157 [(.long (((p2.toInt64) &&& (255 : Int64)) * (256 : Int64))), (.long v121_10_156)]))) (fun t k => XS.lmul X151.here hx rfl (hb hby at_138) rfl k) ?_
        refine Gl.st (B := (T151.setTop (mkF m 140 L157 [(.long (v121_10_156 + (((p2.toInt64) &&& (255 : Int64)) * (256 : Int64))))]))) (fun t k => XS.ladd X151.here hx rfl (hb hby at_139) rfl k) ?_
        obtain ⟨L163, hL163⟩ : ∃ z : Array Slot, z = #[.val (.int p1), .val (.int p2), .val (.int p3), .val (.int p4), .val (.int p5), .val (.int p6), .val (.int (3 : Int32)), .val (.int y7_12_3), .val (.int y8_17_5), .val (.ref b7), .val (.long (v121_10_156 + (((p2.toInt64) &&& (255 : Int64)) * (256 : Int64)))), .second, .unset, .unset] := ⟨_, rfl⟩
        refine Gl.st (B := (T151.setTop (mkF m 142 L163 []))) (fun t k => XS.lstore X151.here hx rfl (hb hby at_140) rfl (l' := L163) (stAt hL157 hL163 rfl rfl) k) ?_
        have ev142_10_161 : v142_10_161 = (v121_10_156 + (((p2.toInt64) &&& (255 : Int64)) * (256 : Int64))) := by rw [hv142_10_161, if_neg hc124_159]
        rw [hL162, ev142_10_161] at J124_161
        rw [hL163]
        exact J124_161
    refine Gl.st (B := (T151.setTop (mkF m 144 L162 [(.int y7_12_3)]))) (fun t k => XS.iload X151.here hx rfl (hb hby at_142) (ldAt hL162 rfl) k) ?_
    refine Gl.st (B := (T151.setTop (mkF m 145 L162 [(.int (3 : Int32)), (.int y7_12_3)]))) (fun t k => XS.iconst X151.here hx rfl (hb hby at_144) k) ?_
    obtain ⟨v163_10_166, hv163_10_166⟩ : ∃ z : Int64, z = (if y7_12_3 < (3 : Int32) then v142_10_161 else (v142_10_161 + (((p3.toInt64) &&& (255 : Int64)) * (65536 : Int64)))) := ⟨_, rfl⟩
    obtain ⟨L167, hL167⟩ : ∃ z : Array Slot, z = #[.val (.int p1), .val (.int p2), .val (.int p3), .val (.int p4), .val (.int p5), .val (.int p6), .val (.int (3 : Int32)), .val (.int y7_12_3), .val (.int y8_17_5), .val (.ref b7), .val (.long v163_10_166), .second, .unset, .unset] := ⟨_, rfl⟩
    refine Gl.join (A := (T151.setTop (mkF m 163 L167 []))) (fun J145_166 => ?_) ?_
    · by_cases hc145_164 : y7_12_3 < (3 : Int32)
      · skip
        refine Gl.st (B := (T151.setTop (mkF m 163 L162 []))) (fun t k => XS.icmpYes X151.here hx rfl (pc0 := 145) (pc' := 163) rfl (hb hby at_145) rfl (tlt hc145_164).1 (by decide) (by decide) k) ?_
        have ev163_10_166 : v163_10_166 = v142_10_161 := by rw [hv163_10_166, if_pos hc145_164]
        rw [hL167, ev163_10_166] at J145_166
        rw [hL162]
        exact J145_166
      · skip
        refine Gl.st (B := (T151.setTop (mkF m 148 L162 []))) (fun t k => XS.icmpNo X151.here hx rfl (hb hby at_145) rfl (flt hc145_164).1 k) ?_
        refine Gl.st (B := (T151.setTop (mkF m 150 L162 [(.long v142_10_161)]))) (fun t k => XS.lload X151.here hx rfl (hb hby at_148) (ldAt hL162 rfl) k) ?_
        refine Gl.st (B := (T151.setTop (mkF m 151 L162 [(.int p3), (.long v142_10_161)]))) (fun t k => XS.iloadN X151.here hx rfl (hb hby at_150) (ldAt hL162 rfl) k) ?_
        refine Gl.st (B := (T151.setTop (mkF m 152 L162 [(.long (p3.toInt64)), (.long v142_10_161)]))) (fun t k => XS.i2l X151.here hx rfl (hb hby at_151) rfl k) ?_
        refine Gl.st (B := (T151.setTop (mkF m 155 L162 [(.long (255 : Int64)), (.long (p3.toInt64)), (.long v142_10_161)]))) (fun t k => X151.ldc2Long hx hown (mvT hZ (tw hw 5 rfl)) (g := (mkF m 152 L162 [(.long (p3.toInt64)), (.long v142_10_161)])) rfl (hb hby at_152) _ k) ?_
        refine Gl.st (B := (T151.setTop (mkF m 156 L162 [(.long ((p3.toInt64) &&& (255 : Int64))), (.long v142_10_161)]))) (fun t k => XS.land X151.here hx rfl (hb hby at_155) rfl k) ?_
        refine Gl.st (B := (T151.setTop (mkF m 159 L162 [(.long (65536 : Int64)), (.long ((p3.toInt64) &&& (255 : Int64))), (.long v142_10_161)]))) (fun t k => X151.ldc2Long hx hown (mvT hZ (tw hw 7 rfl)) (g := (mkF m 156 L162 [(.long ((p3.toInt64) &&& (255 : Int64))), (.long v142_10_161)])) rfl (hb hby at_156) _ k) ?_
        refine Gl.st (B := (T151.setTop (mkF m 160 L162 [(.long (((p3.toInt64) &&& (255 : Int64)) * (65536 : Int64))), (.long v142_10_161)]))) (fun t k => XS.lmul X151.here hx rfl (hb hby at_159) rfl k) ?_
        refine Gl.st (B := (T151.setTop (mkF m 161 L162 [(.long (v142_10_161 + (((p3.toInt64) &&& (255 : Int64)) * (65536 : Int64))))]))) (fun t k => XS.ladd X151.here hx rfl (hb hby at_160) rfl k) ?_
        obtain ⟨L168, hL168⟩ : ∃ z : Array Slot, z = #[.val (.int p1), .val (.int p2), .val (.int p3), .val (.int p4), .val (.int p5), .val (.int p6), .val (.int (3 : Int32)), .val (.int y7_12_3), .val (.int y8_17_5), .val (.ref b7), .val (.long (v142_10_161 + (((p3.toInt64) &&& (255 : Int64)) * (65536 : Int64)))), .second, .unset, .unset] := ⟨_, rfl⟩
        refine Gl.st (B := (T151.setTop (mkF m 163 L168 []))) (fun t k => XS.lstore X151.here hx rfl (hb hby at_161) rfl (l' := L168) (stAt hL162 hL168 rfl rfl) k) ?_
        have ev163_10_166 : v163_10_166 = (v142_10_161 + (((p3.toInt64) &&& (255 : Int64)) * (65536 : Int64))) := by rw [hv163_10_166, if_neg hc145_164]
        rw [hL167, ev163_10_166] at J145_166
        rw [hL168]
        exact J145_166
    refine Gl.st (B := (T151.setTop (mkF m 165 L167 [(.int y7_12_3)]))) (fun t k => XS.iload X151.here hx rfl (hb hby at_163) (ldAt hL167 rfl) k) ?_
    refine Gl.st (B := (T151.setTop (mkF m 166 L167 [(.int (4 : Int32)), (.int y7_12_3)]))) (fun t k => XS.iconst X151.here hx rfl (hb hby at_165) k) ?_
    obtain ⟨v184_10_171, hv184_10_171⟩ : ∃ z : Int64, z = (if y7_12_3 < (4 : Int32) then v163_10_166 else (v163_10_166 + (((p4.toInt64) &&& (255 : Int64)) * (16777216 : Int64)))) := ⟨_, rfl⟩
    obtain ⟨L172, hL172⟩ : ∃ z : Array Slot, z = #[.val (.int p1), .val (.int p2), .val (.int p3), .val (.int p4), .val (.int p5), .val (.int p6), .val (.int (3 : Int32)), .val (.int y7_12_3), .val (.int y8_17_5), .val (.ref b7), .val (.long v184_10_171), .second, .unset, .unset] := ⟨_, rfl⟩
    refine Gl.join (A := (T151.setTop (mkF m 184 L172 []))) (fun J166_171 => ?_) ?_
    · by_cases hc166_169 : y7_12_3 < (4 : Int32)
      · skip
        refine Gl.st (B := (T151.setTop (mkF m 184 L167 []))) (fun t k => XS.icmpYes X151.here hx rfl (pc0 := 166) (pc' := 184) rfl (hb hby at_166) rfl (tlt hc166_169).1 (by decide) (by decide) k) ?_
        have ev184_10_171 : v184_10_171 = v163_10_166 := by rw [hv184_10_171, if_pos hc166_169]
        rw [hL172, ev184_10_171] at J166_171
        rw [hL167]
        exact J166_171
      · skip
        refine Gl.st (B := (T151.setTop (mkF m 169 L167 []))) (fun t k => XS.icmpNo X151.here hx rfl (hb hby at_166) rfl (flt hc166_169).1 k) ?_
        refine Gl.st (B := (T151.setTop (mkF m 171 L167 [(.long v163_10_166)]))) (fun t k => XS.lload X151.here hx rfl (hb hby at_169) (ldAt hL167 rfl) k) ?_
        refine Gl.st (B := (T151.setTop (mkF m 172 L167 [(.int p4), (.long v163_10_166)]))) (fun t k => XS.iloadN X151.here hx rfl (hb hby at_171) (ldAt hL167 rfl) k) ?_
        refine Gl.st (B := (T151.setTop (mkF m 173 L167 [(.long (p4.toInt64)), (.long v163_10_166)]))) (fun t k => XS.i2l X151.here hx rfl (hb hby at_172) rfl k) ?_
        refine Gl.st (B := (T151.setTop (mkF m 176 L167 [(.long (255 : Int64)), (.long (p4.toInt64)), (.long v163_10_166)]))) (fun t k => X151.ldc2Long hx hown (mvT hZ (tw hw 5 rfl)) (g := (mkF m 173 L167 [(.long (p4.toInt64)), (.long v163_10_166)])) rfl (hb hby at_173) _ k) ?_
        refine Gl.st (B := (T151.setTop (mkF m 177 L167 [(.long ((p4.toInt64) &&& (255 : Int64))), (.long v163_10_166)]))) (fun t k => XS.land X151.here hx rfl (hb hby at_176) rfl k) ?_
        refine Gl.st (B := (T151.setTop (mkF m 180 L167 [(.long (16777216 : Int64)), (.long ((p4.toInt64) &&& (255 : Int64))), (.long v163_10_166)]))) (fun t k => X151.ldc2Long hx hown (mvT hZ (tw hw 8 rfl)) (g := (mkF m 177 L167 [(.long ((p4.toInt64) &&& (255 : Int64))), (.long v163_10_166)])) rfl (hb hby at_177) _ k) ?_
        refine Gl.st (B := (T151.setTop (mkF m 181 L167 [(.long (((p4.toInt64) &&& (255 : Int64)) * (16777216 : Int64))), (.long v163_10_166)]))) (fun t k => XS.lmul X151.here hx rfl (hb hby at_180) rfl k) ?_
        refine Gl.st (B := (T151.setTop (mkF m 182 L167 [(.long (v163_10_166 + (((p4.toInt64) &&& (255 : Int64)) * (16777216 : Int64))))]))) (fun t k => XS.ladd X151.here hx rfl (hb hby at_181) rfl k) ?_
        obtain ⟨L173, hL173⟩ : ∃ z : Array Slot, z = #[.val (.int p1), .val (.int p2), .val (.int p3), .val (.int p4), .val (.int p5), .val (.int p6), .val (.int (3 : Int32)), .val (.int y7_12_3), .val (.int y8_17_5), .val (.ref b7), .val (.long (v163_10_166 + (((p4.toInt64) &&& (255 : Int64)) * (16777216 : Int64)))), .second, .unset, .unset] := ⟨_, rfl⟩
        refine Gl.st (B := (T151.setTop (mkF m 184 L173 []))) (fun t k => XS.lstore X151.here hx rfl (hb hby at_182) rfl (l' := L173) (stAt hL167 hL173 rfl rfl) k) ?_
        have ev184_10_171 : v184_10_171 = (v163_10_166 + (((p4.toInt64) &&& (255 : Int64)) * (16777216 : Int64))) := by rw [hv184_10_171, if_neg hc166_169]
        rw [hL172, ev184_10_171] at J166_171
        rw [hL173]
        exact J166_171
    refine Gl.st (B := (T151.setTop (mkF m 186 L172 [(.ref b7)]))) (fun t k => XS.aload X151.here hx rfl (hb hby at_184) (ldAt hL172 rfl) rfl k) ?_
    refine Gl.st (B := (T151.setTop (mkF m 188 L172 [(.int (3 : Int32)), (.ref b7)]))) (fun t k => XS.iload X151.here hx rfl (hb hby at_186) (ldAt hL172 rfl) k) ?_
    refine Gl.st (B := (T151.setTop (mkF m 190 L172 [(.int y7_12_3), (.int (3 : Int32)), (.ref b7)]))) (fun t k => XS.iload X151.here hx rfl (hb hby at_188) (ldAt hL172 rfl) k) ?_
    have hp190_175 : ¬ ((4 : Int32) < y7_12_3) := own_0_hp190_175 p6 y7_12_3 hy7_12_3 
    obtain ⟨_, _, ⟨T174, L174q, k174, n174⟩, -, X174, ⟨Lc174, hQ174, l174, y174, z174⟩, st174⟩ := Jvm.LawKit.callS X151 hx (y := (⟨"com/example/requeue/requeue/connection/SnappyBlock", "readLittleEndian", "([BII)J"⟩ : MethodName)) hown (mvT hZ (tw hw 1 rfl)) (mvT hZ (tw hw 2 rfl)) (mvT hZ (tw hw 3 rfl)) (mvT hZ (tw hw 4 rfl)) (by decide) (backOf (W := 0) (rm1o3 l Z a0 hw [] b7 y7_12_3 k7 (nar .byte y8_17_5) (nar .byte y8_17_5) (nar .byte y8_17_5) (nar .byte x73_141) (nar .byte x82_144) (nar .byte x91_147) (nar .byte x100_150) (nar .byte y8_17_5) h151 n0 Zc152 V151 hp190_175) hZ (tw hw 4 rfl) (tw hw 3 rfl) (by decide) (by decide)) (g := (mkF m 190 L172 [(.int y7_12_3), (.int (3 : Int32)), (.ref b7)])) rfl (szAt hml hL172 rfl) (argsL := [(.ref b7), (.int (3 : Int32)), (.int y7_12_3)]) (rest := []) (lenOf pd_0_0 rfl) rfl (by show 2 * 0 + _ ≤ _; exact Nat.le_of_eq rfl) (hb hby at_190) (fun _ _ => ⟨rfl, e151, (by decide : 1 + 0 ≤ _), (by decide : 8 + 0 ≤ _)⟩)
    dsimp only [Pt.U, Pt.locs, Pt.cells, Pt.slots] at X174 l174 y174 z174 st174 hQ174
    subst l174 y174 z174
    obtain ⟨rfl, N174q, eh174⟩ := hQ174
    have N174 := Fr.app N151 N174q
    refine Gl.st (B := (T174.setTop (mkF m 193 L172 [(.long (if (0 : Int32) < y7_12_3 then (if (1 : Int32) < y7_12_3 then (if (2 : Int32) < y7_12_3 then (if (3 : Int32) < y7_12_3 then (((((((((0 : Int64) ||| ((((nar .byte x73_141) &&& (255 : Int32)).toInt64) <<< ((0 : Int32) &&& 0x3f).toInt64))) ||| ((((nar .byte x82_144) &&& (255 : Int32)).toInt64) <<< ((8 : Int32) &&& 0x3f).toInt64))) ||| ((((nar .byte x91_147) &&& (255 : Int32)).toInt64) <<< ((16 : Int32) &&& 0x3f).toInt64))) ||| ((((nar .byte x100_150) &&& (255 : Int32)).toInt64) <<< ((24 : Int32) &&& 0x3f).toInt64))) else (((((((0 : Int64) ||| ((((nar .byte x73_141) &&& (255 : Int32)).toInt64) <<< ((0 : Int32) &&& 0x3f).toInt64))) ||| ((((nar .byte x82_144) &&& (255 : Int32)).toInt64) <<< ((8 : Int32) &&& 0x3f).toInt64))) ||| ((((nar .byte x91_147) &&& (255 : Int32)).toInt64) <<< ((16 : Int32) &&& 0x3f).toInt64)))) else (((((0 : Int64) ||| ((((nar .byte x73_141) &&& (255 : Int32)).toInt64) <<< ((0 : Int32) &&& 0x3f).toInt64))) ||| ((((nar .byte x82_144) &&& (255 : Int32)).toInt64) <<< ((8 : Int32) &&& 0x3f).toInt64)))) else (((0 : Int64) ||| ((((nar .byte x73_141) &&& (255 : Int32)).toInt64) <<< ((0 : Int32) &&& 0x3f).toInt64)))) else (0 : Int64)))]))) (fun t k => st174 t k) ?_
    obtain ⟨r190_176, hr190_176⟩ : ∃ z : Int64, z = (if (0 : Int32) < y7_12_3 then (if (1 : Int32) < y7_12_3 then (if (2 : Int32) < y7_12_3 then (if (3 : Int32) < y7_12_3 then (((((((((0 : Int64) ||| ((((nar .byte x73_141) &&& (255 : Int32)).toInt64) <<< ((0 : Int32) &&& 0x3f).toInt64))) ||| ((((nar .byte x82_144) &&& (255 : Int32)).toInt64) <<< ((8 : Int32) &&& 0x3f).toInt64))) ||| ((((nar .byte x91_147) &&& (255 : Int32)).toInt64) <<< ((16 : Int32) &&& 0x3f).toInt64))) ||| ((((nar .byte x100_150) &&& (255 : Int32)).toInt64) <<< ((24 : Int32) &&& 0x3f).toInt64))) else (((((((0 : Int64) ||| ((((nar .byte x73_141) &&& (255 : Int32)).toInt64) <<< ((0 : Int32) &&& 0x3f).toInt64))) ||| ((((nar .byte x82_144) &&& (255 : Int32)).toInt64) <<< ((8 : Int32) &&& 0x3f).toInt64))) ||| ((((nar .byte x91_147) &&& (255 : Int32)).toInt64) <<< ((16 : Int32) &&& 0x3f).toInt64)))) else (((((0 : Int64) ||| ((((nar .byte x73_141) &&& (255 : Int32)).toInt64) <<< ((0 : Int32) &&& 0x3f).toInt64))) ||| ((((nar .byte x82_144) &&& (255 : Int32)).toInt64) <<< ((8 : Int32) &&& 0x3f).toInt64)))) else (((0 : Int64) ||| ((((nar .byte x73_141) &&& (255 : Int32)).toInt64) <<< ((0 : Int32) &&& 0x3f).toInt64)))) else (0 : Int64)) := ⟨_, rfl⟩
    refine Gl.cast (B := (T174.setTop (mkF m 193 L172 [(.long r190_176)]))) (by rw [hr190_176]) ?_
    obtain ⟨L177, hL177⟩ : ∃ z : Array Slot, z = #[.val (.int p1), .val (.int p2), .val (.int p3), .val (.int p4), .val (.int p5), .val (.int p6), .val (.int (3 : Int32)), .val (.int y7_12_3), .val (.int y8_17_5), .val (.ref b7), .val (.long v184_10_171), .second, .val (.long r190_176), .second] := ⟨_, rfl⟩
    refine Gl.st (B := (T174.setTop (mkF m 195 L177 []))) (fun t k => XS.lstore X174.here hx rfl (hb hby at_193) rfl (l' := L177) (stAt hL172 hL177 rfl rfl) k) ?_
    refine Gl.st (B := (T174.setTop (mkF m 197 L177 [(.long r190_176)]))) (fun t k => XS.lload X174.here hx rfl (hb hby at_195) (ldAt hL177 rfl) k) ?_
    refine Gl.st (B := (T174.setTop (mkF m 199 L177 [(.long v184_10_171), (.long r190_176)]))) (fun t k => XS.lload X174.here hx rfl (hb hby at_197) (ldAt hL177 rfl) k) ?_
    refine Gl.st (B := (T174.setTop (mkF m 200 L177 [(.int (lcmpW r190_176 v184_10_171))]))) (fun t k => XS.lcmp X174.here hx rfl (hb hby at_199) rfl k) ?_
    have hc200_178 : r190_176 = v184_10_171 := own_0_hc200_178 p6 y7_12_3 p1 x73_141 p2 x82_144 p3 x91_147 p4 x100_150 r190_176 v121_10_156 v142_10_161 v163_10_166 v184_10_171 hy7_12_3 hx73_141 hx82_144 hx91_147 hx100_150 hr190_176 hv121_10_156 hv142_10_161 hv163_10_166 hv184_10_171 
    refine Gl.st (B := (T174.setTop (mkF m 203 L177 []))) (fun t k => XS.ifNo X174.here hx rfl (hb hby at_200) rfl ((if0 _ _).trans (teq ((lw_eq r190_176 v184_10_171).mpr hc200_178)).2) k) ?_
    refine Gl.st (B := (T174.setTop (mkF m 204 L177 [(.int (1 : Int32))]))) (fun t k => XS.iconst X174.here hx rfl (hb hby at_203) k) ?_
    refine Gl.st (B := (T174.setTop (mkF m 208 L177 [(.int (1 : Int32))]))) (fun t k => XS.goto X174.here hx rfl (pc0 := 204) (pc' := 208) rfl (hb hby at_204) (by decide) (by decide) k) ?_
    obtain ⟨fs, hr, hrun, hended, hW, hsame⟩ := X174.leave (v := some (.int (nar .boolean (1 : Int32)))) (fun h => by rw [Bd.returns] at h; cases h)
    refine Gl.fin (retN X174 hx (t := .boolean) Bd.returns (by simp) (hb hby at_208) hr) hrun hended ⟨_, _, rfl, ?_, ⟨_, rfl⟩, hW, hsame.mono (by decide) (by decide)⟩
    show Q0 Z p1 p2 p3 p4 p5 p6 h0 n0 _ T174.heap _
    rw [eh174]
    exact ⟨rfl, N174⟩
set_option maxRecDepth 65536 in
set_option maxHeartbeats 40000000 in
theorem comes_1 {Post : Tables → Env → Array Value → State → Outcome → State → Prop} (hpost : ∀ tb e args s v u, (limb_1_1.after args s (.returned v) u = true ∧ limb_1_2.after args s (.returned v) u = true ∧ True) → FrameEnd s (.returned v) u (Jvm.fieldLocs frame_1_writes args s ++ Jvm.arrayLocs frame_1_arrays args s ++ Jvm.staticLocs frame_1_statics s) 16 128 → Post tb e args s (.returned v) u) :
    ArmFor flags0 classFile x code maxLocals ret World_1 tables_1 room_1 Calls_1 rest_1 Pre_1 Post := by
  intro l hfl _ _ p e ha hc hk s m args below hf hA hF happ hP
  obtain ⟨hcalls, hrest, hpre⟩ := hP
  obtain ⟨-, -, -, hnamed, -, -, -, hat⟩ := (Spec.applies_iff hf).mp happ
  obtain ⟨hg, hn⟩ := and_e (Cond.before_iff.mp (show (Jvm.Cond.and given_1 narrow_1).before args s = true from hpre))
  obtain ⟨g1, g2⟩ := and_e hg
  obtain ⟨g3, g4⟩ := and_e g2
  obtain ⟨g5, g6⟩ := and_e g4
  obtain ⟨g7, g8⟩ := and_e g6
  obtain ⟨g9, g10⟩ := and_e g8
  obtain ⟨g11, g12⟩ := and_e g10
  obtain ⟨w0, w1, w2, w3, w4, w5, rfl⟩ : ∃ w0 w1 w2 w3 w4 w5 : Value, args = #[w0, w1, w2, w3, w4, w5] := by
    have hs : args.size = 6 := by simpa [Cond.value, given_1] using g1
    obtain ⟨L⟩ := args
    match L, hs with
    | [w0, w1, w2, w3, w4, w5], _ => exact ⟨w0, w1, w2, w3, w4, w5, rfl⟩
  have hw := fun d (hd : d ∈ tables_1) => atoms_spec (ws := Jvm.Cond.code x code maxLocals ret :: tables_1) hat d (List.mem_cons_of_mem _ hd)
  have hfit : Fit s := fun {y c} hc i hi => by
    obtain ⟨ha, rfl⟩ := Array.getElem?_eq_some_iff.mp hc
    have q := List.all_eq_true.mp ((Array.all_eq_true_iff_forall_mem.mp hF) _ (Array.getElem_mem ha)) i (List.mem_range.mpr hi)
    simpa [Array.getElem?_eq_getElem hi] using q
  obtain ⟨i0, ei0⟩ := is_v g3
  obtain rfl : w0 = (.int i0) := Option.some.inj ei0
  obtain ⟨i1, ei1⟩ := is_v g5
  obtain rfl : w1 = (.int i1) := Option.some.inj ei1
  obtain ⟨i2, ei2⟩ := is_v g7
  obtain rfl : w2 = (.int i2) := Option.some.inj ei2
  obtain ⟨i3, ei3⟩ := is_v g9
  obtain rfl : w3 = (.int i3) := Option.some.inj ei3
  obtain ⟨i4, ei4⟩ := is_v g11
  obtain rfl : w4 = (.int i4) := Option.some.inj ei4
  obtain ⟨i5, ei5⟩ := is_v g12
  obtain rfl : w5 = (.int i5) := Option.some.inj ei5
  obtain ⟨n, o, h1, h2, h3, _, L, rfl, ⟨rfl, N⟩, hq⟩ := rm0 l s _ hw tables_1 i0 i1 i2 i3 i4 i5 s.heap s.heap.size (Nat.le_refl _) p e ha hc hk s m _ below hf ((Spec.applies_iff_loose hf).mp happ).1 ⟨rfl, State.Warmed39.refl s, rfl⟩ trivial
  refine ⟨n, _, h1, h2, h3, hpost _ _ _ _ _ _ ⟨Cond.after_iff.mpr rfl, Cond.after_iff.mpr (eq_i res_at (Term.int_eval (1)) rfl), trivial⟩ ⟨hq.1, hq.2.1, (hq.2.2.sift fun y hy => Or.inr (N y hy)).mono (by decide) (by decide)⟩⟩
theorem main_1_1 : Claimed_1_1 := comes_1 fun _ _ _ _ _ _ h hF => ⟨h.1, hF⟩
theorem main_1_2 : Claimed_1_2 := comes_1 fun _ _ _ _ _ _ h hF => ⟨h.2.1, hF⟩
end Jvm.Pilot.@@N@@
namespace Jvm.Pilot.@@N@@
open Jvm Jvm.ClassFile Sem Op Lib Jvm.Free Jvm.Stand Jvm.Pilot.@@N@@.Jvm.D
/-! MADE BY PROGRAM (witnessworld.py) out of the Statement's table words and the real class files: 9 classes; the members and pool entries that the words name. The judged class is class 1, her method 1. -/
namespace start1
open Jvm.ClassFile
def u (s : String) : CpInfo := .utf8 (stringToUtf16 s)
/-- a pool by its gaps: so many unusable entries, then the entry; so many at the end -/
def gap : Nat → List CpInfo → List CpInfo
  | 0, r => r
  | n + 1, r => .unusable :: gap n r
def poolList (es : List (Nat × CpInfo)) (last : Nat) : List CpInfo := es.foldr (fun e r => gap e.1 (e.2 :: r)) (gap last [])
def pool (es : List (Nat × CpInfo)) (last : Nat) : Array CpInfo := ⟨poolList es last⟩
def fileOf (pool : Array CpInfo) (this : Nat) (attrs : Array Attribute := #[]) (ms : Array MethodInfo := #[]) (fl : Nat := 33) (sup : Nat := 0) (ifs : Array Nat := #[]) (fds : Array FieldInfo := #[]) : ClassFile where
  minorVersion := 0
  majorVersion := 65
  constantPool := pool
  accessFlags := fl
  thisClass := this
  superClass := sup
  interfaces := ifs
  fields := fds
  methods := ms
  attributes := attrs
def plain (name : String) (sup : Option ClassId) : Class where
  name := name
  kind := .ordinary
  loader := none
  accessFlags := 33
  super := sup
  interfaces := #[]
  cf := none
  fields := #[]
  methods := #[]
  instanceTypes := #[]
  staticTypes := #[]
  resolved := #[]
  callSites := []
  init := .initialized
  statics := none
  mirror := none

def pool0 : Array CpInfo := pool [(5, u "<init>"), (0, u "()V"), (1, .class_ 10), (1, u "java/lang/Object")] 113

def k0m0 : Method := { name := "<init>", desc := "()V", sig := { parameters := [], returnType := none }, accessFlags := 1, code := none }
/-- java/lang/Object -/
def k0 : Class := { plain "java/lang/Object" none with
  accessFlags := 33
  interfaces := #[]
  cf := some (fileOf pool0 8 #[] #[{ accessFlags := 1, nameIndex := 5, descriptorIndex := 6, attributes := #[] }] 33 0 #[] #[])
  fields := #[]
  methods := #[k0m0]
  instanceTypes := #[]
  staticTypes := #[]
  resolved := Array.replicate 124 none
  statics := none }

def pool1 : Array CpInfo := pool [(2, .class_ 4), (1, u "java/lang/Object"), (0, u "<init>"), (0, u "()V"), (0, .long 255), (1, .long 256), (1, .long 65536), (1, .long 16777216), (1, .methodref 16 17), (0, .class_ 18), (0, .nameAndType 19 20), (0, u "com/example/requeue/requeue/connection/SnappyBlock"), (0, u "readLittleEndian"), (0, u "([BII)J"), (0, .class_ 22), (0, u "com/example/requeue/requeue/connection/SnappyBlockReadLittleEndianPinLaw"), (2, u "law"), (0, u "(IIIIII)Z")] 5

def k1m0 : Method := { name := "<init>", desc := "()V", sig := { parameters := [], returnType := none }, accessFlags := 2, code := none }
def k1c1 : Code := { maxStack := 6, maxLocals := 14, code := code, exceptionTable := #[], attributes := #[] }
def k1m1 : Method := { name := "law", desc := "(IIIIII)Z", sig := { parameters := [.int, .int, .int, .int, .int, .int], returnType := some .boolean }, accessFlags := 9, code := some k1c1 }
/-- com/example/requeue/requeue/connection/SnappyBlockReadLittleEndianPinLaw -/
def k1 : Class := { plain "com/example/requeue/requeue/connection/SnappyBlockReadLittleEndianPinLaw" (some 0) with
  accessFlags := 49
  interfaces := #[]
  cf := some (fileOf pool1 21 #[] #[{ accessFlags := 2, nameIndex := 5, descriptorIndex := 6, attributes := #[] }, { accessFlags := 9, nameIndex := 25, descriptorIndex := 26, attributes := #[] }] 49 2 #[] #[])
  fields := #[]
  methods := #[k1m0, k1m1]
  instanceTypes := #[]
  staticTypes := #[]
  resolved := Array.replicate 32 none
  statics := none }

def pool2 : Array CpInfo := pool [(2, .class_ 4), (1, u "java/lang/Object"), (0, u "<init>"), (0, u "()V"), (7, .class_ 16), (1, u "com/example/requeue/requeue/connection/SnappyBlock"), (45, u "LITTLE_ENDIAN_INT"), (0, u "Ljava/lang/invoke/VarHandle;"), (23, u "([BII)J"), (11, u "readLittleEndian"), (25, u "MAX_COMPRESSED_LENGTH"), (0, u "I"), (14, u "MAX_LENGTH"), (1, u "HASH_TABLE_SIZE"), (1, u "LITERAL"), (1, u "COPY_1"), (1, u "COPY_2"), (1, u "MIN_MATCH"), (1, u "MIN_MATCHED_INPUT"), (1, u "LONG_LITERAL"), (1, u "MAX_COPY_1_LENGTH"), (1, u "MAX_COPY_1_OFFSET"), (1, u "MAX_COPY_2_LENGTH"), (1, u "HASH_MULTIPLIER")] 33

def k2m0 : Method := { name := "<init>", desc := "()V", sig := { parameters := [], returnType := none }, accessFlags := 2, code := none }
def k2c1 : Code := { maxStack := 6, maxLocals := 6, code := prog_8_method_7_code, exceptionTable := #[], attributes := #[] }
def k2m1 : Method := { name := "readLittleEndian", desc := "([BII)J", sig := { parameters := [(.array .byte), .int, .int], returnType := some .long }, accessFlags := 8, code := some k2c1 }
/-- com/example/requeue/requeue/connection/SnappyBlock -/
def k2 : Class := { plain "com/example/requeue/requeue/connection/SnappyBlock" (some 0) with
  accessFlags := 48
  interfaces := #[]
  cf := some (fileOf pool2 14 #[] #[{ accessFlags := 2, nameIndex := 5, descriptorIndex := 6, attributes := #[] }, { accessFlags := 8, nameIndex := 99, descriptorIndex := 87, attributes := #[] }] 48 2 #[] #[{ accessFlags := 24, nameIndex := 141, descriptorIndex := 126, attributes := #[] }, { accessFlags := 24, nameIndex := 125, descriptorIndex := 126, attributes := #[] }, { accessFlags := 24, nameIndex := 143, descriptorIndex := 126, attributes := #[] }, { accessFlags := 26, nameIndex := 145, descriptorIndex := 126, attributes := #[] }, { accessFlags := 26, nameIndex := 147, descriptorIndex := 126, attributes := #[] }, { accessFlags := 26, nameIndex := 149, descriptorIndex := 126, attributes := #[] }, { accessFlags := 26, nameIndex := 151, descriptorIndex := 126, attributes := #[] }, { accessFlags := 26, nameIndex := 153, descriptorIndex := 126, attributes := #[] }, { accessFlags := 26, nameIndex := 155, descriptorIndex := 126, attributes := #[] }, { accessFlags := 26, nameIndex := 157, descriptorIndex := 126, attributes := #[] }, { accessFlags := 26, nameIndex := 159, descriptorIndex := 126, attributes := #[] }, { accessFlags := 26, nameIndex := 161, descriptorIndex := 126, attributes := #[] }, { accessFlags := 26, nameIndex := 163, descriptorIndex := 126, attributes := #[] }, { accessFlags := 26, nameIndex := 62, descriptorIndex := 63, attributes := #[] }])
  fields := #[{ name := "MAX_LENGTH", type := .int, accessFlags := 24, slot := 0, constantValue := 0 }, { name := "MAX_COMPRESSED_LENGTH", type := .int, accessFlags := 24, slot := 1, constantValue := 0 }, { name := "HASH_TABLE_SIZE", type := .int, accessFlags := 24, slot := 2, constantValue := 0 }, { name := "LITERAL", type := .int, accessFlags := 26, slot := 3, constantValue := 0 }, { name := "COPY_1", type := .int, accessFlags := 26, slot := 4, constantValue := 0 }, { name := "COPY_2", type := .int, accessFlags := 26, slot := 5, constantValue := 0 }, { name := "MIN_MATCH", type := .int, accessFlags := 26, slot := 6, constantValue := 0 }, { name := "MIN_MATCHED_INPUT", type := .int, accessFlags := 26, slot := 7, constantValue := 0 }, { name := "LONG_LITERAL", type := .int, accessFlags := 26, slot := 8, constantValue := 0 }, { name := "MAX_COPY_1_LENGTH", type := .int, accessFlags := 26, slot := 9, constantValue := 0 }, { name := "MAX_COPY_1_OFFSET", type := .int, accessFlags := 26, slot := 10, constantValue := 0 }, { name := "MAX_COPY_2_LENGTH", type := .int, accessFlags := 26, slot := 11, constantValue := 0 }, { name := "HASH_MULTIPLIER", type := .int, accessFlags := 26, slot := 12, constantValue := 0 }, { name := "LITTLE_ENDIAN_INT", type := (.object "java/lang/invoke/VarHandle"), accessFlags := 26, slot := 13, constantValue := 0 }]
  methods := #[k2m0, k2m1]
  instanceTypes := #[]
  staticTypes := #[.int, .int, .int, .int, .int, .int, .int, .int, .int, .int, .int, .int, .int, (.object "java/lang/invoke/VarHandle")]
  resolved := Array.replicate 197 none
  statics := none }

def pool3 : Array CpInfo := pool [(1, u "java/lang/Cloneable"), (0, .class_ 1), (0, u "java/lang/Object"), (0, .class_ 3)] 3

/-- java/lang/Cloneable -/
def k3 : Class := { plain "java/lang/Cloneable" (some 0) with
  accessFlags := 1537
  interfaces := #[]
  cf := some (fileOf pool3 2 #[] #[] 1537 4 #[] #[])
  fields := #[]
  methods := #[]
  instanceTypes := #[]
  staticTypes := #[]
  resolved := Array.replicate 8 none
  statics := none }

def pool4 : Array CpInfo := pool [(1, u "java/io/Serializable"), (0, .class_ 1), (0, u "java/lang/Object"), (0, .class_ 3)] 3

/-- java/io/Serializable -/
def k4 : Class := { plain "java/io/Serializable" (some 0) with
  accessFlags := 1537
  interfaces := #[]
  cf := some (fileOf pool4 2 #[] #[] 1537 4 #[] #[])
  fields := #[]
  methods := #[]
  instanceTypes := #[]
  staticTypes := #[]
  resolved := Array.replicate 8 none
  statics := none }

/-- the primitive byte -/
def k5 : Class := { plain "byte" none with kind := .primitive 'B', accessFlags := 0x411 }
/-- [B -/
def k6 : Class := { plain "[B" (some 0) with kind := .array 5 .byte, interfaces := #[3, 4], accessFlags := 1041 }

/-- the primitive int -/
def k7 : Class := { plain "int" none with kind := .primitive 'I', accessFlags := 0x411 }
/-- [I -/
def k8 : Class := { plain "[I" (some 0) with kind := .array 7 .int, interfaces := #[3, 4], accessFlags := 1041 }

def heap : Heap := #[]
def classes : Array Class := #[k0, k1, k2, k3, k4, k5, k6, k7, k8]
def interned : List (Array UInt16 × Addr) := []
def slotsUsed : Nat := 0
def theMethod : MethodId := ⟨1, 1⟩
def args0 : Array Value := #[.int 5, .int 5, .int 5, .int 5, .int 5, .int 5]
def aboutOver (below : List Frame) : State where
  vm := { classes := classes, interned := interned.toArray }
  heap := heap
  slotsUsed := slotsUsed
  threads := #[{ frames := .invoking theMethod args0 :: below }]
def below0 : List Frame := [.native { method := ⟨0, 0⟩, args := #[] }]
def about1 : State := aboutOver below0
def p0 : Program := .bare "" "" ""
def e0 : Env := launch0.env 0 0 0
theorem w_frames : about1.frames = Frame.invoking theMethod args0 :: below0 := rfl
set_option maxRecDepth 65536 in
theorem w_args : argsFit about1.vm theMethod args0 = true := by decide +kernel
set_option maxRecDepth 65536 in
theorem w_heap : heapFits about1 = true := by decide +kernel
set_option maxRecDepth 65536 in
theorem w_runnable : about1.curStatus? = some .runnable := by decide +kernel
set_option maxRecDepth 65536 in
theorem w_alone : about1.alone = true := by decide +kernel
set_option maxRecDepth 65536 in
theorem w_named : about1.methodNamed? x = some theMethod := by decide +kernel
set_option maxRecDepth 65536 in
theorem w_hears : about1.hears theMethod below0 = true := by decide +kernel
set_option maxRecDepth 65536 in
theorem w_ripe : about1.ripe theMethod args0 below0 = true := by decide +kernel
theorem w_running : about1.status = .running := rfl
set_option maxRecDepth 65536 in
theorem w_room : about1.hasRoom e0.platform room_1 = true :=
  launch0.hasRoom_least _ room_1 (by decide +kernel) (by decide +kernel) (by decide +kernel) (by decide +kernel) (by decide +kernel) (by decide +kernel)
theorem allAtoms_all (ts : List Jvm.Cond) (a : Array Jvm.Value) (st : Jvm.State) : (allAtoms ts).before a st = ts.all (fun c => c.before a st) := by
  induction ts with
  | nil => rfl
  | cons c t ih =>
    show (Jvm.Cond.and c (allAtoms t)).before a st = _
    rw [Jvm.Cond.before_and, ih, List.all_cons]
def words1 : List Jvm.Cond := Jvm.Cond.code x code maxLocals ret :: tables_1
/-- a 'code' word, met by the world's own term for the bytes: nothing is compared byte by byte -/
theorem code_word {y : MethodName} {bytes : ByteArray} {mx : Nat} {rt : Option FieldType} {a : Array Value} {s : State} {m : MethodId} {meth : Method} {c : Code} (h1 : s.methodNamed? y = some m) (h2 : s.vm.method? m = some meth) (h3 : meth.code = some c) (h4 : c.code = bytes)
    (h5 : (c.maxLocals == mx && c.exceptionTable.isEmpty && decide (c.maxStack ≤ mostOperands) && decide (meth.sig.returnType = rt) && !meth.locks && decide (parseMethodDescriptor y.desc = some meth.sig)) = true) : (Jvm.Cond.code y bytes mx rt).before a s = true := by
  simp only [Bool.and_eq_true, beq_iff_eq, Bool.not_eq_true', decide_eq_true_eq] at h5
  obtain ⟨⟨⟨⟨⟨g1, g2⟩, g3⟩, g4⟩, g5⟩, g6⟩ := h5
  simp [Cond.before, Cond.holds, Cond.value, h1, h2, h3, h4, g1, g2, g3, g4, g5, g6]
def isCode : Jvm.Cond → Bool
  | .code _ _ _ _ => true
  | _ => false
theorem all_split {L : List Jvm.Cond} {P : Jvm.Cond → Bool} (h1 : L.all (fun c => isCode c || P c) = true) (h2 : ∀ c ∈ L.filter isCode, P c = true) : L.all P = true := by
  refine List.all_eq_true.mpr fun c hc => ?_
  have h := List.all_eq_true.mp h1 c hc
  rcases Bool.eq_false_or_eq_true (isCode c) with hi | hi
  · exact h2 c (List.mem_filter.mpr ⟨hc, hi⟩)
  · simpa [hi] using h
set_option maxRecDepth 65536 in
theorem w_c0 : (Jvm.Cond.code x code maxLocals ret).before args0 about1 = true := code_word (m := ⟨1, 1⟩) (meth := k1m1) (c := k1c1) (by decide +kernel) rfl rfl rfl (by decide +kernel)
set_option maxRecDepth 65536 in
theorem w_c1 : (Jvm.Cond.code ({ cls := "com/example/requeue/requeue/connection/SnappyBlock", name := "readLittleEndian", desc := "([BII)J" } : Jvm.MethodName) prog_8_method_7_code (6 : Nat) (Option.some Jvm.ClassFile.FieldType.long)).before args0 about1 = true := code_word (m := ⟨2, 1⟩) (meth := k2m1) (c := k2c1) (by decide +kernel) rfl rfl rfl (by decide +kernel)
def codes1 : List Jvm.Cond := [Jvm.Cond.code x code maxLocals ret, Jvm.Cond.code ({ cls := "com/example/requeue/requeue/connection/SnappyBlock", name := "readLittleEndian", desc := "([BII)J" } : Jvm.MethodName) prog_8_method_7_code (6 : Nat) (Option.some Jvm.ClassFile.FieldType.long)]
set_option maxRecDepth 65536 in
theorem codes_eq : words1.filter isCode = codes1 := rfl
theorem w_codes : ∀ c ∈ words1.filter isCode, c.before args0 about1 = true := by
  rw [codes_eq]
  intro c hc
  simp only [codes1, List.mem_cons, List.not_mem_nil, or_false] at hc
  rcases hc with rfl | rfl
  · exact w_c0
  · exact w_c1
set_option maxRecDepth 65536 in
theorem w_t1 : words1.all (fun c => isCode c || c.before args0 about1) = true := by decide +kernel
theorem w_tables : (allAtoms (Jvm.Cond.code x code maxLocals ret :: tables_1)).before args0 about1 = true := by
  rw [allAtoms_all]
  show words1.all (fun c => c.before args0 about1) = true
  refine all_split ?_ w_codes
  rw [w_t1]
set_option maxRecDepth 65536 in
theorem w_case : (Jvm.Cond.and given_1 narrow_1).before args0 about1 = true := by decide +kernel
theorem w_applies : (headSpec (Jvm.Cond.code x code maxLocals ret :: tables_1) room_1).applies x e0.platform about1 = true :=
  (Spec.applies_iff w_frames).mpr ⟨w_running, w_runnable, w_alone, w_named, w_hears, w_ripe, w_room, w_tables⟩
theorem atStart : AtStart classFile x code maxLocals ret World_1 tables_1 room_1 Calls_1 rest_1 Pre_1 launch0 p0 e0 about1 theMethod args0 below0 :=
  ⟨lists_1, trivial, launch0.admits_env _ _ _, launch0.least_env, fairChoices_fair.cas, fairChoices_fair.clock, w_frames, w_args, w_heap, w_applies, trivial, trivial, w_case⟩
end start1
theorem witness_1 : WitnessClaimed_1 := ⟨start1.p0, start1.e0, start1.about1, start1.theMethod, start1.args0, start1.below0, start1.atStart⟩
end Jvm.Pilot.@@N@@
