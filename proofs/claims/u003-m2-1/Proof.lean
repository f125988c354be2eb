import JvmDerived
import JvmDerived.Pilot.@@N@@Statement
import JvmDerived.Pilot.@@N@@Code
set_option linter.unusedVariables false
set_option linter.unusedSimpArgs false
namespace Jvm.RoadKit
open Sem ClassFile Op Lib Jvm.Stand Jvm.Free Jvm.LawKit
section New
variable {p : Program} {l : Launch} {e : Env} {R : Room} {s : State} {m : MethodId} {args : Array Value} {below : List Frame} {meth : Method} {c : Code} {T : State} {locs : List Loc} {cells slots : Nat}
theorem retI (X : Stand p l e R s m args below meth c T locs cells slots) (hx : p.tables.exec = Jvm.exec) {pc : Nat} {Ls : Array Slot} {z : Int32} {rest : List Value} (hret : meth.sig.returnType = some .int) (hd : decode c.code pc = .ok (.ireturn, 1)) {fs : List Frame}
    (hl : ∀ (f : JFrame) (acts : List Action), f.method = m → f.locked = none → f.entered = [] → (doReturn e (T.setTop f) acts (some (.int z))).1 = T.setFrames fs) : Steps p.tables e below (T.setTop (mkF m pc Ls (.int z :: rest))) (T.setFrames fs) := by
  have hm' : T.vm.method? m = some meth := X.method'
  have hn : narrow .int (.int z) = .int z := rfl
  show Steps p.tables e below (T.setTop { method := m, pc := pc, locals := Ls, stack := _ :: rest, locked := none }) _
  jvm_step X.here [X.here.top, hx, hd, hm', hret, hn]
  first | (intro acts; rw [hl _ acts rfl rfl rfl]) | rw [hl _ _ rfl rfl rfl]
  exact Steps.refl _
end New
end Jvm.RoadKit
namespace Jvm.Pilot.@@N@@
open Jvm Jvm.ClassFile Sem Op Lib Jvm.Free Jvm.Stand Jvm.LawKit Jvm.RoadKit Bundle Jvm.Pilot.@@N@@.Jvm.D
def Gl (p : Program) (e : Env) (below : List Frame) (Q : Outcome → State → Prop) (A : State) : Prop := ∃ t o, Steps p.tables e below A t ∧ t.status = .running ∧ Ended t below o ∧ Q o t
theorem Gl.st {p : Program} {e : Env} {below : List Frame} {Q : Outcome → State → Prop} {A B : State} (k : ∀ t, Steps p.tables e below B t → Steps p.tables e below A t) (h : Gl p e below Q B) : Gl p e below Q A := by
  obtain ⟨t, o, h1, r⟩ := h
  exact ⟨t, o, k t h1, r⟩
theorem Gl.cast {p : Program} {e : Env} {below : List Frame} {Q : Outcome → State → Prop} {A B : State} (k : A = B) (h : Gl p e below Q B) : Gl p e below Q A := k ▸ h
theorem Gl.join {p : Program} {e : Env} {below : List Frame} {Q : Outcome → State → Prop} {A B : State} (k : Gl p e below Q A → Gl p e below Q B) (h : Gl p e below Q A) : Gl p e below Q B := k h
theorem Gl.fin {p : Program} {e : Env} {below : List Frame} {Q : Outcome → State → Prop} {A t : State} {o : Outcome} (h1 : Steps p.tables e below A t) (h2 : t.status = .running) (h3 : Ended t below o) (h4 : Q o t) : Gl p e below Q A := ⟨t, o, h1, h2, h3, h4⟩
theorem tw {a0 : Array Value} {Z : State} (hw : ∀ d ∈ tables_1, d.before a0 Z = true) (i : Nat) {d : Jvm.Cond} (h : tables_1[i]? = some d) : d.before a0 Z = true := hw _ (List.mem_of_getElem? h)
theorem ldAt {L M : Array Slot} (h : L = M) {k : Nat} {v : Slot} (q : M[k]? = some v) : L[k]? = some v := h ▸ q
theorem stAt {L M L' M' : Array Slot} {k : Nat} {v w : Value} (h : L = M) (h' : L' = M') (e : w = v) (q : storeLocals M k v = some M') : storeLocals L k w = some L' := by subst h h' e; exact q
theorem stAt' {L M L' M' : Array Slot} {k : Nat} {v w : Value} (h : L = M) (h' : L' = M') (e : w = v) (q : storeLocals M k v = some M') : storeLocals L k w = some L' := by subst h h' e; exact q
theorem szAt {L M : Array Slot} {k n : Nat} (h : k = n) (h' : L = M) (q : M.size = n) : L.size = k := by subst h h'; exact q
theorem efAt {m : MethodId} {L M : Array Slot} {f : JFrame} (h : L = M) (q : f = mkF m 0 M []) : f = mkF m 0 L [] := h ▸ q
theorem own_nb {c : Prop} [Decidable c] {a b : Int32} (ha : nar .boolean a = a) (hb : nar .boolean b = b) : nar .boolean (if c then a else b) = if c then a else b := by split <;> assumption
theorem own_arr_keep {Z : State} {h h' : Heap} {a : Addr} {c : Cell} {ty : FieldType} {ws : List Addr} (F : Arr Z h a c ty) (K : Keep h h' ws) (q : a ∉ ws) : Arr Z h' a c ty := ⟨K.2.1 a c F.1 q, F.2⟩
theorem own_selp {s : State} {args : Array Value} {y : MethodName} {n : Nat} (wi : (Jvm.Cond.instantiable y.cls n).before args s = true) (wp : (Jvm.Cond.privateMethod y).before args s = true) (wn : (Jvm.Cond.instanceMethod y).before args s = true) (hy : y.cls ≠ "java/lang/invoke/MethodHandle" ∧ y.cls ≠ "java/lang/invoke/VarHandle") : (Jvm.Cond.selects y.cls y y).before args s = true := by
  obtain ⟨c, k, h1, h2, -, h4, -⟩ := Cond.instantiable_spec wi
  have h5 : k.isInterface = false := by
    cases hi : k.isInterface with
    | false => rfl
    | true => rw [hi] at h4; cases h4
  exact Jvm.Stand.selects_self_of_private h1 h2 h5 (Cond.privateMethod_at wp) wn hy
theorem own_push {Z : State} {h h' : Heap} {a : Addr} {k : ClassId} {ty : FieldType} {z j : Int32} {vs : List Value} {dv v : Value} {c : Cell} (A : Arr Z h a c ty) (q1 : c.cls = k) (S : c.slots.size = z.toNatClampNeg) (q3 : ¬ z < 0) (H : Has c vs dv) (G : ∀ i, i < c.slots.size → fits ty (vs.getD i dv) = true) (hv : fits ty v = true) (W : Wr h h' a j.toNatClampNeg v) (hj : j.toNatClampNeg = vs.length) : Arv Z h' a k ty z (vs ++ [v]) dv := by
  have q : ∀ i, (vs ++ [dv]).getD i dv = vs.getD i dv := pad_rep vs dv 1
  have r := Arv.set (vs := vs ++ [dv]) A q1 S q3 (fun i hi => by rw [q]; exact H i hi) (fun i hi => by rw [q]; exact G i hi) hv W vs.length hj (by simp)
  have e : (vs ++ [dv]).set vs.length v = vs ++ [v] := by simp
  rw [e] at r
  exact r
theorem own_eqL {args : Array Value} {s : State} {t : Term} {z : Int64} (h : (Jvm.Cond.eq t (.long z)).value args s none s [] = some true) : t.eval args s none [] s = some (.long z) := by
  obtain ⟨x, y, ha, hb, k1, k2⟩ := cmp_v (Or.inl h)
  obtain rfl : y = .long z := Option.some.inj (hb.symm.trans (long_at z))
  obtain ⟨w, rfl⟩ : ∃ w, x = .long w := k2
  rw [ha, gotT (eq_L ha hb) h]
theorem own_eqI {args : Array Value} {s : State} {t : Term} {z : Int32} (h : (Jvm.Cond.eq t (.int z)).value args s none s [] = some true) : t.eval args s none [] s = some (.int z) := by
  obtain ⟨x, y, ha, hb, k1, k2⟩ := cmp_v (Or.inl h)
  obtain rfl : y = .int z := Option.some.inj (hb.symm.trans (Term.int_eval z))
  obtain ⟨w, rfl⟩ : ∃ w, x = .int w := k2
  rw [ha, gotT (Cond.eq_ints ha hb) h]
theorem own_sta_keep {Z : State} {h h' : Heap} {C n d : String} {v : Value} {ws : List Addr} (F : Sta Z h C n d v) (K : Keep h h' ws) (q : ∀ x ∈ ws, ∀ cell : Cell, h[x]? = some cell → cell.vm.isStatics = false) : Sta Z h' C n d v := by
  obtain ⟨cf, i, k, f, a, cell, h1, h2, h3, h4, h5, h6, r⟩ := F
  exact ⟨cf, i, k, f, a, cell, h1, h2, h3, h4, K.2.1 a cell h5 (fun y => by have := q a y cell h5; rw [h6] at this; cases this), h6, r⟩
theorem own_exa_plain {Z : State} {h : Heap} {a : Addr} {C : String} (F : Exa Z h a C) : ∀ cell : Cell, h[a]? = some cell → cell.vm.isStatics = false := fun cell hc => by
  obtain ⟨c', k, h1, -, -, h4, -⟩ := F
  rw [h1] at hc; cases hc; exact h4
theorem own_arv_plain {Z : State} {h : Heap} {a : Addr} {k : ClassId} {ty : FieldType} {z : Int32} {vs : List Value} {dv : Value} (F : Arv Z h a k ty z vs dv) : ∀ cell : Cell, h[a]? = some cell → cell.vm.isStatics = false := fun cell hc => by
  obtain ⟨c', A, -⟩ := F
  have := A.1; rw [this] at hc; cases hc; exact A.plain
theorem own_suc (w : Int32) (h0 : ¬ w < 0) (h1 : w < 100) : (w + 1).toNatClampNeg = w.toNatClampNeg + 1 := by
  have a := nat_of h0
  have b := c_iadd w 1
  have z := rng32 (w + 1)
  rw [Int32.lt_iff_toInt_lt] at h0 h1
  have h2 : ¬ (w + 1) < 0 := by
    rw [Int32.lt_iff_toInt_lt]
    simp only [Int32.reduceToInt] at *
    omega
  have d := nat_of h2
  simp only [Int32.reduceToInt] at *
  omega
theorem own_hi0 (w y : Int32) (h0 : ¬ w < 0) (h1 : w < 65536) (h : y = ((w.toUInt32 >>> ((16 : Int32) &&& 31).toUInt32).toInt32)) : y = (0 : Int32) := by
  have a := c_iushr w (16 : Int32) 16 (by decide) (by decide)
  rw [← h] at a
  rw [Int32.lt_iff_toInt_lt] at h0 h1
  rw [← Int32.toInt_inj]
  clear h
  simp only [Int32.reduceToInt] at *
  omega
theorem own_lo0 (w y : Int32) (h0 : ¬ w < 0) (h1 : w < 65536) (h : y = (w &&& (65535 : Int32))) : w = y := by
  have a : y.toInt = w.toInt % 65536 := by rw [h]; exact c_mask w (65535 : Int32) 16 (by decide) (by decide)
  rw [Int32.lt_iff_toInt_lt] at h0 h1
  rw [← Int32.toInt_inj]
  clear h
  simp only [Int32.reduceToInt] at *
  omega
theorem own_lt (w : Int32) {a b : Int32} (h : w < a) (q : a.toInt ≤ b.toInt) : w < b := by
  rw [Int32.lt_iff_toInt_lt] at *
  omega
theorem sn0 {Z : State} {a0 : Array Value} (hw : ∀ d ∈ tables_1, d.before a0 Z = true) : Jvm.RoadKit.slotOf Z "com/example/outcomery/outcomery/PackedNumbers" "length" "I" ≠ Jvm.RoadKit.slotOf Z "com/example/outcomery/outcomery/PackedNumbers" "pieces" "[[B" := slot_ne (Or.inl (tw hw 35 rfl)) (Or.inl (tw hw 13 rfl)) (by decide) (t := .int) (t' := (.array (.array .byte))) (by decide) (by decide)
theorem d1_0 : decode prog_23_method_1_code 0 = .ok (.aload_n 0, 1) := by decide +kernel
theorem d1_1 : decode prog_23_method_1_code 1 = .ok (.invokespecial 3, 3) := by decide +kernel
theorem d1_4 : decode prog_23_method_1_code 4 = .ok (.aload_n 0, 1) := by decide +kernel
theorem d1_5 : decode prog_23_method_1_code 5 = .ok (.iconst 1, 1) := by decide +kernel
theorem d1_6 : decode prog_23_method_1_code 6 = .ok (.anewarray 9, 3) := by decide +kernel
theorem d1_9 : decode prog_23_method_1_code 9 = .ok (.putfield 11, 3) := by decide +kernel
theorem d1_12 : decode prog_23_method_1_code 12 = .ok (.return_, 1) := by decide +kernel
theorem pn_1 : plainName "com/example/outcomery/outcomery/PackedNumbers" = true := by first | (simp [plainName, overriddenIn]; done) | decide +kernel
theorem ef_1 (m : MethodId) (a1 : Addr) : entryFrame m #[(.ref a1)] 1 = mkF m 0 #[.val (.ref a1)] [] := by first | (simp [entryFrame, mkF, argsToLocals, Value.category]; done) | rfl
def Q1 (Z : State) (a1 : Addr) (u_pieces_a1 : Value) (u_length_a1 : Value) (h0 : Heap) (n0 : Nat) (v : Option Value) (h : Heap) (L : List Loc) : Prop := ∃ (t0 : Addr) (kx_t0 : ClassId), v = none ∧ Fr n0 L ∧ Keep h0 h [a1] ∧ h0.size ≤ t0 ∧ Exa Z h a1 "com/example/outcomery/outcomery/PackedNumbers" ∧ Fld Z h a1 "com/example/outcomery/outcomery/PackedNumbers" "length" "I" u_length_a1 ∧ Fld Z h a1 "com/example/outcomery/outcomery/PackedNumbers" "pieces" "[[B" (.ref t0) ∧ Exa Z h t0 "[[B" ∧ Arv Z h t0 kx_t0 (.array .byte) (1 : Int32) [.null] .null ∧ OvrA Z kx_t0 .byte "[B"
set_option maxRecDepth 65536 in
set_option maxHeartbeats 40000000 in
theorem rm1 (l : Launch) (Z : State) (a0 : Array Value) (hw : ∀ d ∈ tables_1, d.before a0 Z = true) (ws : List Jvm.Cond) (a1 : Addr) (u_pieces_a1 : Value) (u_length_a1 : Value) (h0 : Heap) (n0 : Nat) (Z0 : n0 ≤ h0.size) (F_pieces_a1 : Fld Z h0 a1 "com/example/outcomery/outcomery/PackedNumbers" "pieces" "[[B" u_pieces_a1) (F_length_a1 : Fld Z h0 a1 "com/example/outcomery/outcomery/PackedNumbers" "length" "I" u_length_a1) (E_a1 : Exa Z h0 a1 "com/example/outcomery/outcomery/PackedNumbers") (g_a1 : n0 ≤ a1) :
    MetFree l (⟨"com/example/outcomery/outcomery/PackedNumbers", "<init>", "()V"⟩ : MethodName) (head1 (Jvm.Cond.code (⟨"com/example/outcomery/outcomery/PackedNumbers", "<init>", "()V"⟩ : MethodName) prog_23_method_1_code 1 none :: ws) ({ frames := 1, cells := 1, slots := 1, locals := 12 } : Room)) (fun a U => a = #[(.ref a1)] ∧ Z.Warmed39 U.vm ∧ U.heap = h0) (fun _ _ _ _ _ => True) (fun _ U o U' => ∃ v L, o = .returned v ∧ Q1 Z a1 u_pieces_a1 u_length_a1 h0 n0 v U'.heap L ∧ FrameEnd U o U' L ({ frames := 1, cells := 1, slots := 1, locals := 12 } : Room).cells ({ frames := 1, cells := 1, slots := 1, locals := 12 } : Room).slots) := by
  refine MetFree.of_bodySF (plainFor_of_name pn_1) hisR ?_
  intro p e s m args below meth c s₁ Bd hml0 hP hK
  obtain ⟨rfl, hZ, hh⟩ := hP
  have hx := Bd.exec
  have hby := Bd.bytes
  have hml : c.maxLocals = 1 := hml0
  have hown : s.vm.findClass "com/example/outcomery/outcomery/PackedNumbers" = some m.cls := findClass_of_methodNamed Bd.named
  have hnm := (name_of_methodNamed Bd.named Bd.method).1
  have X0 : Stand p l e ({ frames := 1, cells := 1, slots := 1, locals := 12 } : Room) s m #[(.ref a1)] below meth c s₁ [] 0 0 := Stand.of_body Bd
  have e0 : s₁.heap = h0 := by rw [← hh, Bd.state]; rfl
  have N0 := Fr.nil n0
  have K0 : Keep h0 h0 [a1] := Keep.refl h0 _
  refine (show Gl p e below (fun o U' => ∃ v L, o = .returned v ∧ Q1 Z a1 u_pieces_a1 u_length_a1 h0 n0 v U'.heap L ∧ FrameEnd s o U' L ({ frames := 1, cells := 1, slots := 1, locals := 12 } : Room).cells ({ frames := 1, cells := 1, slots := 1, locals := 12 } : Room).slots) (s₁.setTop (entryFrame m #[(.ref a1)] 1)) from ?_)
  obtain ⟨L0, hL0⟩ : ∃ z : Array Slot, z = #[.val (.ref a1)] := ⟨_, rfl⟩
  refine Gl.st (B := (s₁.setTop (mkF m 0 L0 []))) (fun t k => castTop (efAt hL0 (ef_1 m a1)) k) ?_
  refine Gl.st (B := (s₁.setTop (mkF m 1 L0 [(.ref a1)]))) (fun t k => XS.aloadN X0.here hx rfl (hb hby d1_0) (ldAt hL0 rfl) rfl k) ?_
  obtain ⟨T1, X1, e1, st1⟩ := initO X0 hx hZ hown (tw hw 7 rfl) (tw hw 8 rfl) (tw hw 9 rfl) e0 (g := (mkF m 1 L0 [(.ref a1)])) rfl (szAt hml hL0 rfl) rfl (hb hby d1_1) (by decide) (W := 0) (by show 2 * 0 + _ ≤ _; exact Nat.le_of_eq rfl) (by decide)
  refine Gl.st (B := (T1.setTop (mkF m 4 L0 []))) st1 ?_
  refine Gl.st (B := (T1.setTop (mkF m 5 L0 [(.ref a1)]))) (fun t k => XS.aloadN X1.here hx rfl (hb hby d1_4) (ldAt hL0 rfl) rfl k) ?_
  refine Gl.st (B := (T1.setTop (mkF m 6 L0 [(.int (1 : Int32)), (.ref a1)]))) (fun t k => XS.iconst X1.here hx rfl (hb hby d1_5) k) ?_
  obtain ⟨T2, h2, k2, X2, e2, E2, A2, Ex2, O2, st2⟩ := newRA X1 hx hZ hown (C := "[B") (ty := .byte) rfl (tw hw 10 rfl) (tw hw 11 rfl) e1 (g := (mkF m 6 L0 [(.int (1 : Int32)), (.ref a1)])) rfl (hb hby d1_6) rfl (by decide) (cap := 1) (by decide) (by decide) (by decide) (by decide) (ad := "[[B") rfl
  obtain ⟨b2, gq2⟩ : ∃ z, z = h0.size := ⟨_, rfl⟩
  rw [← gq2] at A2 Ex2 st2
  have V2 : Arv Z h2 b2 k2 (.array .byte) (1 : Int32) [.null] .null := (Arv.new A2 (by decide)).pad (pad_rep [] .null 1)
  have g_b2 : n0 ≤ b2 := Nat.le_trans Z0 (Nat.le_of_eq gq2.symm)
  have sz_b2 : h0.size ≤ b2 := Nat.le_trans K0.1 (Nat.le_of_eq gq2.symm)
  have lt_b2 := V2.lt
  have Zc3 : n0 ≤ h2.size := Nat.le_trans Z0 E2.1
  have K4 : Keep h0 h2 [a1] := K0.ext E2
  refine Gl.st (B := (T2.setTop (mkF m 9 L0 [(.ref b2), (.ref a1)]))) st2 ?_
  have c5 := (E_a1.ext E2)
  have c6 := (F_pieces_a1.ext E2)
  obtain ⟨T7, h7, X7, e7, W7, st7⟩ := putF X2 hx hZ hown (host := "") (Or.inl (tw hw 12 rfl)) Via.refl e2 c6 c5 (Or.inl (tw hw 13 rfl)) (tw hw 2 rfl) (ty := (.array (.array .byte))) (by decide) rfl rfl (g := (mkF m 9 L0 [(.ref b2), (.ref a1)])) rfl rfl (hb hby d1_9)
  have Fw7 := c6.same W7
  have Zc8 : n0 ≤ h7.size := Nat.le_trans Zc3 (Nat.le_of_eq W7.size.symm)
  have K9 : Keep h0 h7 [a1] := K4.wr W7 (Or.inl (List.mem_of_getElem? (i := 0) rfl))
  have N7 := Fr.snoc X7 N0 g_a1
  refine Gl.st (B := (T7.setTop (mkF m 12 L0 []))) st7 ?_
  obtain ⟨fs, hr, hrun, hended, hW, hsame⟩ := X7.leave (v := none) (fun _ => rfl)
  refine Gl.fin (X7.returnOut hx Bd.returns (hb hby d1_12) hr) hrun hended ⟨_, _, rfl, ?_, ⟨_, rfl⟩, hW, hsame.mono (by decide) (by decide)⟩
  show Q1 Z a1 u_pieces_a1 u_length_a1 h0 n0 _ T7.heap _
  rw [e7]
  have c10 := (c5.wr W7)
  have c11 := ((F_length_a1.ext E2).other W7 (Or.inr (sn0 hw)))
  have c12 := (Ex2.wr W7)
  have ne_a1_b2_13 : a1 ≠ b2 := Nat.ne_of_lt (Nat.lt_of_lt_of_le F_pieces_a1.lt (Nat.le_of_eq gq2.symm))
  have c14 := (V2.other W7 (Ne.symm ne_a1_b2_13))
  exact ⟨b2, k2, rfl, N7, K9, sz_b2, c10, c11, Fw7, c12, c14, O2⟩
theorem sn1 {Z : State} {a0 : Array Value} (hw : ∀ d ∈ tables_1, d.before a0 Z = true) : Jvm.RoadKit.slotOf Z "com/example/outcomery/outcomery/PackedNumbers" "pieces" "[[B" ≠ Jvm.RoadKit.slotOf Z "com/example/outcomery/outcomery/PackedNumbers" "length" "I" := slot_ne (Or.inl (tw hw 13 rfl)) (Or.inl (tw hw 35 rfl)) (by decide) (t := (.array (.array .byte))) (t' := .int) (by decide) (by decide)
theorem d7_0 : decode prog_23_method_6_code 0 = .ok (.aload_n 0, 1) := by decide +kernel
theorem d7_1 : decode prog_23_method_6_code 1 = .ok (.getfield 19, 3) := by decide +kernel
theorem d7_4 : decode prog_23_method_6_code 4 = .ok (.bipush 16, 2) := by decide +kernel
theorem d7_6 : decode prog_23_method_6_code 6 = .ok (.iushr, 1) := by decide +kernel
theorem d7_7 : decode prog_23_method_6_code 7 = .ok (.istore_n 2, 1) := by decide +kernel
theorem d7_8 : decode prog_23_method_6_code 8 = .ok (.aload_n 0, 1) := by decide +kernel
theorem d7_9 : decode prog_23_method_6_code 9 = .ok (.getfield 19, 3) := by decide +kernel
theorem d7_12 : decode prog_23_method_6_code 12 = .ok (.ldc 23, 2) := by decide +kernel
theorem d7_14 : decode prog_23_method_6_code 14 = .ok (.iand, 1) := by decide +kernel
theorem d7_15 : decode prog_23_method_6_code 15 = .ok (.istore_n 3, 1) := by decide +kernel
theorem d7_16 : decode prog_23_method_6_code 16 = .ok (.iload_n 2, 1) := by decide +kernel
theorem d7_17 : decode prog_23_method_6_code 17 = .ok (.aload_n 0, 1) := by decide +kernel
theorem d7_18 : decode prog_23_method_6_code 18 = .ok (.getfield 11, 3) := by decide +kernel
theorem d7_21 : decode prog_23_method_6_code 21 = .ok (.arraylength, 1) := by decide +kernel
theorem d7_22 : decode prog_23_method_6_code 22 = .ok (.if_icmp .ne 20, 3) := by decide +kernel
theorem d7_42 : decode prog_23_method_6_code 42 = .ok (.aload_n 0, 1) := by decide +kernel
theorem d7_43 : decode prog_23_method_6_code 43 = .ok (.getfield 11, 3) := by decide +kernel
theorem d7_46 : decode prog_23_method_6_code 46 = .ok (.iload_n 2, 1) := by decide +kernel
theorem d7_47 : decode prog_23_method_6_code 47 = .ok (.aaload, 1) := by decide +kernel
theorem d7_48 : decode prog_23_method_6_code 48 = .ok (.astore 4, 2) := by decide +kernel
theorem d7_50 : decode prog_23_method_6_code 50 = .ok (.aload 4, 2) := by decide +kernel
theorem d7_52 : decode prog_23_method_6_code 52 = .ok (.ifnonnull 29, 3) := by decide +kernel
theorem d7_55 : decode prog_23_method_6_code 55 = .ok (.iload_n 2, 1) := by decide +kernel
theorem d7_56 : decode prog_23_method_6_code 56 = .ok (.ifCond .ne 8, 3) := by decide +kernel
theorem d7_59 : decode prog_23_method_6_code 59 = .ok (.bipush 64, 2) := by decide +kernel
theorem d7_61 : decode prog_23_method_6_code 61 = .ok (.goto 5, 3) := by decide +kernel
theorem d7_66 : decode prog_23_method_6_code 66 = .ok (.newarray .byte, 2) := by decide +kernel
theorem d7_68 : decode prog_23_method_6_code 68 = .ok (.astore 4, 2) := by decide +kernel
theorem d7_70 : decode prog_23_method_6_code 70 = .ok (.aload_n 0, 1) := by decide +kernel
theorem d7_71 : decode prog_23_method_6_code 71 = .ok (.getfield 11, 3) := by decide +kernel
theorem d7_74 : decode prog_23_method_6_code 74 = .ok (.iload_n 2, 1) := by decide +kernel
theorem d7_75 : decode prog_23_method_6_code 75 = .ok (.aload 4, 2) := by decide +kernel
theorem d7_77 : decode prog_23_method_6_code 77 = .ok (.aastore, 1) := by decide +kernel
theorem d7_78 : decode prog_23_method_6_code 78 = .ok (.goto 30, 3) := by decide +kernel
theorem d7_108 : decode prog_23_method_6_code 108 = .ok (.aload 4, 2) := by decide +kernel
theorem d7_110 : decode prog_23_method_6_code 110 = .ok (.iload_n 3, 1) := by decide +kernel
theorem d7_111 : decode prog_23_method_6_code 111 = .ok (.iload_n 1, 1) := by decide +kernel
theorem d7_112 : decode prog_23_method_6_code 112 = .ok (.i2b, 1) := by decide +kernel
theorem d7_113 : decode prog_23_method_6_code 113 = .ok (.bastore, 1) := by decide +kernel
theorem d7_114 : decode prog_23_method_6_code 114 = .ok (.aload_n 0, 1) := by decide +kernel
theorem d7_115 : decode prog_23_method_6_code 115 = .ok (.dup, 1) := by decide +kernel
theorem d7_116 : decode prog_23_method_6_code 116 = .ok (.getfield 19, 3) := by decide +kernel
theorem d7_119 : decode prog_23_method_6_code 119 = .ok (.iconst 1, 1) := by decide +kernel
theorem d7_120 : decode prog_23_method_6_code 120 = .ok (.iadd, 1) := by decide +kernel
theorem d7_121 : decode prog_23_method_6_code 121 = .ok (.putfield 19, 3) := by decide +kernel
theorem d7_124 : decode prog_23_method_6_code 124 = .ok (.return_, 1) := by decide +kernel
theorem pn_7 : plainName "com/example/outcomery/outcomery/PackedNumbers" = true := by first | (simp [plainName, overriddenIn]; done) | decide +kernel
theorem ef_7f (m : MethodId) (a1 : Addr) (p2 : Int32) : entryFrame m #[(.ref a1), (.int p2)] 5 = mkF m 0 #[.val (.ref a1), .val (.int p2), .unset, .unset, .unset] [] := by first | (simp [entryFrame, mkF, argsToLocals, Value.category]; done) | rfl
def Q7f (Z : State) (a1 : Addr) (p2 : Int32) (kx_w_pieces_a1 : ClassId) (w_pieces_a1 : Addr) (h0 : Heap) (n0 : Nat) (v : Option Value) (h : Heap) (L : List Loc) : Prop := ∃ (t0 : Addr) (kx_t0 : ClassId), v = none ∧ Fr n0 L ∧ Keep h0 h [w_pieces_a1, a1] ∧ h0.size ≤ t0 ∧ Arv Z h w_pieces_a1 kx_w_pieces_a1 (.array .byte) (1 : Int32) [(.ref t0)] .null ∧ OvrA Z kx_w_pieces_a1 .byte "[B" ∧ Exa Z h a1 "com/example/outcomery/outcomery/PackedNumbers" ∧ Fld Z h a1 "com/example/outcomery/outcomery/PackedNumbers" "length" "I" (.int (1 : Int32)) ∧ Fld Z h a1 "com/example/outcomery/outcomery/PackedNumbers" "pieces" "[[B" (.ref w_pieces_a1) ∧ Exa Z h t0 "[B" ∧ Arv Z h t0 kx_t0 .byte (64 : Int32) [(.int (nar .byte ((p2.toInt8.toInt32))))] (.int (0 : Int32))
set_option maxRecDepth 65536 in
set_option maxHeartbeats 40000000 in
theorem rm7f (l : Launch) (Z : State) (a0 : Array Value) (hw : ∀ d ∈ tables_1, d.before a0 Z = true) (ws : List Jvm.Cond) (a1 : Addr) (p2 : Int32) (kx_w_pieces_a1 : ClassId) (w_pieces_a1 : Addr) (h0 : Heap) (n0 : Nat) (Z0 : n0 ≤ h0.size) (V_w_pieces_a1 : Arv Z h0 w_pieces_a1 kx_w_pieces_a1 (.array .byte) (1 : Int32) [.null] .null) (O_w_pieces_a1 : OvrA Z kx_w_pieces_a1 .byte "[B") (F_pieces_a1 : Fld Z h0 a1 "com/example/outcomery/outcomery/PackedNumbers" "pieces" "[[B" (.ref w_pieces_a1)) (F_length_a1 : Fld Z h0 a1 "com/example/outcomery/outcomery/PackedNumbers" "length" "I" (.int (0 : Int32))) (g_w_pieces_a1 : n0 ≤ w_pieces_a1) (ne_a1_w_pieces_a1 : a1 ≠ w_pieces_a1) (E_a1 : Exa Z h0 a1 "com/example/outcomery/outcomery/PackedNumbers") (g_a1 : n0 ≤ a1) :
    MetFree l (⟨"com/example/outcomery/outcomery/PackedNumbers", "put", "(I)V"⟩ : MethodName) (head1 (Jvm.Cond.code (⟨"com/example/outcomery/outcomery/PackedNumbers", "put", "(I)V"⟩ : MethodName) prog_23_method_6_code 5 none :: ws) ({ frames := 0, cells := 1, slots := 64, locals := 0 } : Room)) (fun a U => a = #[(.ref a1), (.int p2)] ∧ Z.Warmed39 U.vm ∧ U.heap = h0) (fun _ _ _ _ _ => True) (fun _ U o U' => ∃ v L, o = .returned v ∧ Q7f Z a1 p2 kx_w_pieces_a1 w_pieces_a1 h0 n0 v U'.heap L ∧ FrameEnd U o U' L ({ frames := 0, cells := 1, slots := 64, locals := 0 } : Room).cells ({ frames := 0, cells := 1, slots := 64, locals := 0 } : Room).slots) := by
  refine MetFree.of_bodySF (plainFor_of_name pn_7) hisR ?_
  intro p e s m args below meth c s₁ Bd hml0 hP hK
  obtain ⟨rfl, hZ, hh⟩ := hP
  have hx := Bd.exec
  have hby := Bd.bytes
  have hml : c.maxLocals = 5 := hml0
  have hown : s.vm.findClass "com/example/outcomery/outcomery/PackedNumbers" = some m.cls := findClass_of_methodNamed Bd.named
  have hnm := (name_of_methodNamed Bd.named Bd.method).1
  have X0 : Stand p l e ({ frames := 0, cells := 1, slots := 64, locals := 0 } : Room) s m #[(.ref a1), (.int p2)] below meth c s₁ [] 0 0 := Stand.of_body Bd
  have e0 : s₁.heap = h0 := by rw [← hh, Bd.state]; rfl
  have N0 := Fr.nil n0
  have K0 : Keep h0 h0 [w_pieces_a1, a1] := Keep.refl h0 _
  refine (show Gl p e below (fun o U' => ∃ v L, o = .returned v ∧ Q7f Z a1 p2 kx_w_pieces_a1 w_pieces_a1 h0 n0 v U'.heap L ∧ FrameEnd s o U' L ({ frames := 0, cells := 1, slots := 64, locals := 0 } : Room).cells ({ frames := 0, cells := 1, slots := 64, locals := 0 } : Room).slots) (s₁.setTop (entryFrame m #[(.ref a1), (.int p2)] 5)) from ?_)
  obtain ⟨L0, hL0⟩ : ∃ z : Array Slot, z = #[.val (.ref a1), .val (.int p2), .unset, .unset, .unset] := ⟨_, rfl⟩
  refine Gl.st (B := (s₁.setTop (mkF m 0 L0 []))) (fun t k => castTop (efAt hL0 (ef_7f m a1 p2)) k) ?_
  refine Gl.st (B := (s₁.setTop (mkF m 1 L0 [(.ref a1)]))) (fun t k => XS.aloadN X0.here hx rfl (hb hby d7_0) (ldAt hL0 rfl) rfl k) ?_
  obtain ⟨T1, X1, e1, st1⟩ := getF X0 hx hZ hown (host := "") (Or.inl (tw hw 45 rfl)) Via.refl e0 F_length_a1 (g := (mkF m 1 L0 [(.ref a1)])) rfl rfl (hb hby d7_1)
  refine Gl.st (B := (T1.setTop (mkF m 4 L0 [(.int (0 : Int32))]))) st1 ?_
  refine Gl.st (B := (T1.setTop (mkF m 6 L0 [(.int (16 : Int32)), (.int (0 : Int32))]))) (fun t k => XS.bipush X1.here hx rfl (hb hby d7_4) k) ?_
  refine Gl.st (B := (T1.setTop (mkF m 7 L0 [(.int (0 : Int32))]))) (fun t k => XS.iushr X1.here hx rfl (hb hby d7_6) rfl k) ?_
  obtain ⟨L2, hL2⟩ : ∃ z : Array Slot, z = #[.val (.ref a1), .val (.int p2), .val (.int (0 : Int32)), .unset, .unset] := ⟨_, rfl⟩
  refine Gl.st (B := (T1.setTop (mkF m 8 L2 []))) (fun t k => XS.istoreN X1.here hx rfl (hb hby d7_7) rfl (l' := L2) (stAt hL0 hL2 rfl rfl) k) ?_
  refine Gl.st (B := (T1.setTop (mkF m 9 L2 [(.ref a1)]))) (fun t k => XS.aloadN X1.here hx rfl (hb hby d7_8) (ldAt hL2 rfl) rfl k) ?_
  obtain ⟨T3, X3, e3, st3⟩ := getF X1 hx hZ hown (host := "") (Or.inl (tw hw 45 rfl)) Via.refl e1 F_length_a1 (g := (mkF m 9 L2 [(.ref a1)])) rfl rfl (hb hby d7_9)
  refine Gl.st (B := (T3.setTop (mkF m 12 L2 [(.int (0 : Int32))]))) st3 ?_
  refine Gl.st (B := (T3.setTop (mkF m 14 L2 [(.int (65535 : Int32)), (.int (0 : Int32))]))) (fun t k => X3.ldcInt hx hown (mvT hZ (tw hw 46 rfl)) (g := (mkF m 12 L2 [(.int (0 : Int32))])) rfl (hb hby d7_12) _ k) ?_
  refine Gl.st (B := (T3.setTop (mkF m 15 L2 [(.int (0 : Int32))]))) (fun t k => XS.iand X3.here hx rfl (hb hby d7_14) rfl k) ?_
  obtain ⟨L4, hL4⟩ : ∃ z : Array Slot, z = #[.val (.ref a1), .val (.int p2), .val (.int (0 : Int32)), .val (.int (0 : Int32)), .unset] := ⟨_, rfl⟩
  refine Gl.st (B := (T3.setTop (mkF m 16 L4 []))) (fun t k => XS.istoreN X3.here hx rfl (hb hby d7_15) rfl (l' := L4) (stAt hL2 hL4 rfl rfl) k) ?_
  refine Gl.st (B := (T3.setTop (mkF m 17 L4 [(.int (0 : Int32))]))) (fun t k => XS.iloadN X3.here hx rfl (hb hby d7_16) (ldAt hL4 rfl) k) ?_
  refine Gl.st (B := (T3.setTop (mkF m 18 L4 [(.ref a1), (.int (0 : Int32))]))) (fun t k => XS.aloadN X3.here hx rfl (hb hby d7_17) (ldAt hL4 rfl) rfl k) ?_
  obtain ⟨T5, X5, e5, st5⟩ := getF X3 hx hZ hown (host := "") (Or.inl (tw hw 12 rfl)) Via.refl e3 F_pieces_a1 (g := (mkF m 18 L4 [(.ref a1), (.int (0 : Int32))])) rfl rfl (hb hby d7_18)
  refine Gl.st (B := (T5.setTop (mkF m 21 L4 [(.ref w_pieces_a1), (.int (0 : Int32))]))) st5 ?_
  obtain ⟨cl6, Ar6, q6, S6, P6, H6, G6⟩ := (id V_w_pieces_a1)
  refine Gl.st (B := (T5.setTop (mkF m 22 L4 [(.int cl6.slots.size.toInt32), (.int (0 : Int32))]))) (fun t k => X5.arraylength hx (by rw [e5]; exact Ar6.1) (State.isArrayOf_alike hZ.alike Ar6.2.1) (g := (mkF m 21 L4 [(.ref w_pieces_a1), (.int (0 : Int32))])) rfl rfl (hb hby d7_21) _ k) ?_
  refine Gl.cast (B := (T5.setTop (mkF m 22 L4 [(.int (1 : Int32)), (.int (0 : Int32))]))) (by rw [len_of S6 P6]) ?_
  refine Gl.st (B := (T5.setTop (mkF m 42 L4 []))) (fun t k => XS.icmpYes X5.here hx rfl (pc0 := 22) (pc' := 42) rfl (hb hby d7_22) rfl (by decide) (by decide) (by decide) k) ?_
  refine Gl.st (B := (T5.setTop (mkF m 43 L4 [(.ref a1)]))) (fun t k => XS.aloadN X5.here hx rfl (hb hby d7_42) (ldAt hL4 rfl) rfl k) ?_
  obtain ⟨T7, X7, e7, st7⟩ := getF X5 hx hZ hown (host := "") (Or.inl (tw hw 12 rfl)) Via.refl e5 F_pieces_a1 (g := (mkF m 43 L4 [(.ref a1)])) rfl rfl (hb hby d7_43)
  refine Gl.st (B := (T7.setTop (mkF m 46 L4 [(.ref w_pieces_a1)]))) st7 ?_
  refine Gl.st (B := (T7.setTop (mkF m 47 L4 [(.int (0 : Int32)), (.ref w_pieces_a1)]))) (fun t k => XS.iloadN X7.here hx rfl (hb hby d7_46) (ldAt hL4 rfl) k) ?_
  obtain ⟨cl8, Ar8, q8, S8, P8, H8, G8⟩ := (id V_w_pieces_a1)
  have hin47_8 : ¬ ((0 : Int32) < 0 ∨ cl8.slots.size ≤ ((0 : Int32)).toNatClampNeg) := inb_of S8 ⟨by decide, by decide⟩
  have hat8 := Has.at H8 hin47_8 (v := .null) rfl
  refine Gl.st (B := (T7.setTop (mkF m 48 L4 [.null]))) (fun t k => X7.aaload hx (j := (0 : Int32)) (v := .null) (by rw [e7]; exact Ar8.1) (State.isArrayOf_alike hZ.alike Ar8.2.1) rfl Ar8.2.2 hin47_8 hat8 (g := (mkF m 47 L4 [(.int (0 : Int32)), (.ref w_pieces_a1)])) rfl rfl (hb hby d7_47) _ k) ?_
  obtain ⟨L9, hL9⟩ : ∃ z : Array Slot, z = #[.val (.ref a1), .val (.int p2), .val (.int (0 : Int32)), .val (.int (0 : Int32)), .val .null] := ⟨_, rfl⟩
  refine Gl.st (B := (T7.setTop (mkF m 50 L9 []))) (fun t k => XS.astore X7.here hx rfl (hb hby d7_48) rfl rfl (l' := L9) (stAt hL4 hL9 rfl rfl) k) ?_
  refine Gl.st (B := (T7.setTop (mkF m 52 L9 [.null]))) (fun t k => XS.aload X7.here hx rfl (hb hby d7_50) (ldAt hL9 rfl) rfl k) ?_
  refine Gl.st (B := (T7.setTop (mkF m 55 L9 []))) (fun t k => XS.ifnonnullNo X7.here hx rfl (hb hby d7_52) rfl k) ?_
  refine Gl.st (B := (T7.setTop (mkF m 56 L9 [(.int (0 : Int32))]))) (fun t k => XS.iloadN X7.here hx rfl (hb hby d7_55) (ldAt hL9 rfl) k) ?_
  refine Gl.st (B := (T7.setTop (mkF m 59 L9 []))) (fun t k => XS.ifNo X7.here hx rfl (hb hby d7_56) rfl (by decide) k) ?_
  refine Gl.st (B := (T7.setTop (mkF m 61 L9 [(.int (64 : Int32))]))) (fun t k => XS.bipush X7.here hx rfl (hb hby d7_59) k) ?_
  refine Gl.st (B := (T7.setTop (mkF m 66 L9 [(.int (64 : Int32))]))) (fun t k => XS.goto X7.here hx rfl (pc0 := 61) (pc' := 66) rfl (hb hby d7_61) (by decide) (by decide) k) ?_
  obtain ⟨T10, h10, k10, X10, e10, E10, A10, Ex10, st10⟩ := newPE X7 hx hZ (tw hw 47 rfl) e7 (g := (mkF m 66 L9 [(.int (64 : Int32))])) rfl (hb hby d7_66) rfl (by decide) (cap := 64) (by decide) (by decide) (by decide) (by decide) (ad := "[B") rfl
  obtain ⟨b10, gq10⟩ : ∃ z, z = h0.size := ⟨_, rfl⟩
  rw [← gq10] at A10 Ex10 st10
  have V10 : Arv Z h10 b10 k10 .byte (64 : Int32) [] (.int (0 : Int32)) := Arv.new A10 (by decide)
  have g_b10 : n0 ≤ b10 := Nat.le_trans Z0 (Nat.le_of_eq gq10.symm)
  have sz_b10 : h0.size ≤ b10 := Nat.le_trans K0.1 (Nat.le_of_eq gq10.symm)
  have lt_b10 := V10.lt
  have Zc11 : n0 ≤ h10.size := Nat.le_trans Z0 E10.1
  have K12 : Keep h0 h10 [w_pieces_a1, a1] := K0.ext E10
  refine Gl.st (B := (T10.setTop (mkF m 68 L9 [(.ref b10)]))) st10 ?_
  obtain ⟨L13, hL13⟩ : ∃ z : Array Slot, z = #[.val (.ref a1), .val (.int p2), .val (.int (0 : Int32)), .val (.int (0 : Int32)), .val (.ref b10)] := ⟨_, rfl⟩
  refine Gl.st (B := (T10.setTop (mkF m 70 L13 []))) (fun t k => XS.astore X10.here hx rfl (hb hby d7_68) rfl rfl (l' := L13) (stAt hL9 hL13 rfl rfl) k) ?_
  refine Gl.st (B := (T10.setTop (mkF m 71 L13 [(.ref a1)]))) (fun t k => XS.aloadN X10.here hx rfl (hb hby d7_70) (ldAt hL13 rfl) rfl k) ?_
  have c14 := (F_pieces_a1.ext E10)
  obtain ⟨T15, X15, e15, st15⟩ := getF X10 hx hZ hown (host := "") (Or.inl (tw hw 12 rfl)) Via.refl e10 c14 (g := (mkF m 71 L13 [(.ref a1)])) rfl rfl (hb hby d7_71)
  refine Gl.st (B := (T15.setTop (mkF m 74 L13 [(.ref w_pieces_a1)]))) st15 ?_
  refine Gl.st (B := (T15.setTop (mkF m 75 L13 [(.int (0 : Int32)), (.ref w_pieces_a1)]))) (fun t k => XS.iloadN X15.here hx rfl (hb hby d7_74) (ldAt hL13 rfl) k) ?_
  refine Gl.st (B := (T15.setTop (mkF m 77 L13 [(.ref b10), (.int (0 : Int32)), (.ref w_pieces_a1)]))) (fun t k => XS.aload X15.here hx rfl (hb hby d7_75) (ldAt hL13 rfl) rfl k) ?_
  have c16 := (V_w_pieces_a1.ext E10)
  obtain ⟨cl17, Ar17, q17, S17, P17, H17, G17⟩ := (id c16)
  have hin77_17 : ¬ ((0 : Int32) < 0 ∨ cl17.slots.size ≤ ((0 : Int32)).toNatClampNeg) := inb_of S17 ⟨by decide, by decide⟩
  obtain ⟨T17, h17, X17, e17, W17, st17⟩ := stR X15 hx hZ e15 Ar17 (j := (0 : Int32)) hin77_17 rfl (Sto.ofVA Ar17 q17 O_w_pieces_a1 (Ins.self Ex10)) (g := (mkF m 77 L13 [(.ref b10), (.int (0 : Int32)), (.ref w_pieces_a1)])) rfl rfl (hb hby d7_77)
  have V17 : Arv Z h17 w_pieces_a1 kx_w_pieces_a1 (.array .byte) (1 : Int32) [(.ref b10)] .null := Arv.set Ar17 q17 S17 P17 H17 G17 rfl W17 0 rfl (Nat.le_of_ble_eq_true rfl)
  have Zc18 : n0 ≤ h17.size := Nat.le_trans Zc11 (Nat.le_of_eq W17.size.symm)
  have K19 : Keep h0 h17 [w_pieces_a1, a1] := K12.wr W17 (Or.inl (List.mem_of_getElem? (i := 0) rfl))
  have N17 := Fr.snoc X17 N0 g_w_pieces_a1
  refine Gl.st (B := (T17.setTop (mkF m 78 L13 []))) st17 ?_
  refine Gl.st (B := (T17.setTop (mkF m 108 L13 []))) (fun t k => XS.goto X17.here hx rfl (pc0 := 78) (pc' := 108) rfl (hb hby d7_78) (by decide) (by decide) k) ?_
  refine Gl.st (B := (T17.setTop (mkF m 110 L13 [(.ref b10)]))) (fun t k => XS.aload X17.here hx rfl (hb hby d7_108) (ldAt hL13 rfl) rfl k) ?_
  refine Gl.st (B := (T17.setTop (mkF m 111 L13 [(.int (0 : Int32)), (.ref b10)]))) (fun t k => XS.iloadN X17.here hx rfl (hb hby d7_110) (ldAt hL13 rfl) k) ?_
  refine Gl.st (B := (T17.setTop (mkF m 112 L13 [(.int p2), (.int (0 : Int32)), (.ref b10)]))) (fun t k => XS.iloadN X17.here hx rfl (hb hby d7_111) (ldAt hL13 rfl) k) ?_
  refine Gl.st (B := (T17.setTop (mkF m 113 L13 [(.int (p2.toInt8.toInt32)), (.int (0 : Int32)), (.ref b10)]))) (fun t k => XS.i2b X17.here hx rfl (hb hby d7_112) rfl k) ?_
  obtain ⟨x113_20, hx113_20⟩ : ∃ z : Int32, z = (p2.toInt8.toInt32) := ⟨_, rfl⟩
  refine Gl.cast (B := (T17.setTop (mkF m 113 L13 [(.int x113_20), (.int (0 : Int32)), (.ref b10)]))) (by rw [hx113_20]) ?_
  have ne_w_pieces_a1_b10_21 : w_pieces_a1 ≠ b10 := Nat.ne_of_lt (Nat.lt_of_lt_of_le V_w_pieces_a1.lt (Nat.le_of_eq gq10.symm))
  have c22 := (V10.other W17 (Ne.symm ne_w_pieces_a1_b10_21))
  have Vp23 : Arv Z h17 b10 k10 .byte (64 : Int32) [(.int (0 : Int32))] (.int (0 : Int32)) := (c22).pad (pad_rep [] (.int (0 : Int32)) 1)
  obtain ⟨cl24, Ar24, q24, S24, P24, H24, G24⟩ := (id Vp23)
  have hin113_24 : ¬ ((0 : Int32) < 0 ∨ cl24.slots.size ≤ ((0 : Int32)).toNatClampNeg) := inb_of S24 ⟨by decide, by decide⟩
  obtain ⟨T24, h24, X24, e24, W24, st24⟩ := stB X17 hx hZ e17 Ar24 (j := (0 : Int32)) hin113_24 (g := (mkF m 113 L13 [(.int x113_20), (.int (0 : Int32)), (.ref b10)])) rfl rfl (hb hby d7_113)
  have V24 : Arv Z h24 b10 k10 .byte (64 : Int32) [(.int (nar .byte x113_20))] (.int (0 : Int32)) := Arv.set Ar24 q24 S24 P24 H24 G24 (fits_nar_byte _) W24 0 rfl (Nat.le_of_ble_eq_true rfl)
  have Zc25 : n0 ≤ h24.size := Nat.le_trans Zc18 (Nat.le_of_eq W24.size.symm)
  have K26 : Keep h0 h24 [w_pieces_a1, a1] := K19.wr W24 (Or.inr sz_b10)
  have N24 := Fr.snoc X24 N17 g_b10
  refine Gl.st (B := (T24.setTop (mkF m 114 L13 []))) st24 ?_
  refine Gl.st (B := (T24.setTop (mkF m 115 L13 [(.ref a1)]))) (fun t k => XS.aloadN X24.here hx rfl (hb hby d7_114) (ldAt hL13 rfl) rfl k) ?_
  refine Gl.st (B := (T24.setTop (mkF m 116 L13 [(.ref a1), (.ref a1)]))) (fun t k => XS.dup X24.here hx rfl (hb hby d7_115) rfl rfl k) ?_
  have ne_a1_b10_27 : a1 ≠ b10 := Nat.ne_of_lt (Nat.lt_of_lt_of_le F_pieces_a1.lt (Nat.le_of_eq gq10.symm))
  have c28 := (((F_length_a1.ext E10).other W17 (Or.inl ne_a1_w_pieces_a1)).other W24 (Or.inl ne_a1_b10_27))
  obtain ⟨T29, X29, e29, st29⟩ := getF X24 hx hZ hown (host := "") (Or.inl (tw hw 45 rfl)) Via.refl e24 c28 (g := (mkF m 116 L13 [(.ref a1), (.ref a1)])) rfl rfl (hb hby d7_116)
  refine Gl.st (B := (T29.setTop (mkF m 119 L13 [(.int (0 : Int32)), (.ref a1)]))) st29 ?_
  refine Gl.st (B := (T29.setTop (mkF m 120 L13 [(.int (1 : Int32)), (.int (0 : Int32)), (.ref a1)]))) (fun t k => XS.iconst X29.here hx rfl (hb hby d7_119) k) ?_
  refine Gl.st (B := (T29.setTop (mkF m 121 L13 [(.int (1 : Int32)), (.ref a1)]))) (fun t k => XS.iadd X29.here hx rfl (hb hby d7_120) rfl k) ?_
  have c30 := (((E_a1.ext E10).wr W17).wr W24)
  obtain ⟨T31, h31, X31, e31, W31, st31⟩ := putF X29 hx hZ hown (host := "") (Or.inl (tw hw 45 rfl)) Via.refl e29 c28 c30 (Or.inl (tw hw 35 rfl)) (tw hw 2 rfl) (ty := .int) (by decide) rfl rfl (g := (mkF m 121 L13 [(.int (1 : Int32)), (.ref a1)])) rfl rfl (hb hby d7_121)
  have Fw31 := c28.same W31
  have Zc32 : n0 ≤ h31.size := Nat.le_trans Zc25 (Nat.le_of_eq W31.size.symm)
  have K33 : Keep h0 h31 [w_pieces_a1, a1] := K26.wr W31 (Or.inl (List.mem_of_getElem? (i := 1) rfl))
  have N31 := Fr.snoc X31 N24 g_a1
  refine Gl.st (B := (T31.setTop (mkF m 124 L13 []))) st31 ?_
  obtain ⟨fs, hr, hrun, hended, hW, hsame⟩ := X31.leave (v := none) (fun _ => rfl)
  refine Gl.fin (X31.returnOut hx Bd.returns (hb hby d7_124) hr) hrun hended ⟨_, _, rfl, ?_, ⟨_, rfl⟩, hW, hsame.mono (by decide) (by decide)⟩
  show Q7f Z a1 p2 kx_w_pieces_a1 w_pieces_a1 h0 n0 _ T31.heap _
  rw [e31]
  have c34 := ((V17.other W24 ne_w_pieces_a1_b10_21).other W31 (Ne.symm ne_a1_w_pieces_a1))
  have c35 := (c30.wr W31)
  have c36 := (((c14.other W17 (Or.inl ne_a1_w_pieces_a1)).other W24 (Or.inl ne_a1_b10_27)).other W31 (Or.inr (sn1 hw)))
  have c37 := (((Ex10.wr W17).wr W24).wr W31)
  have c38 := (V24.other W31 (Ne.symm ne_a1_b10_27))
  exact ⟨b10, k10, rfl, N31, K33, sz_b10, c34, O_w_pieces_a1, c35, Fw31, c36, c37, (by subst hx113_20; exact c38)⟩
theorem d7_81 : decode prog_23_method_6_code 81 = .ok (.iload_n 3, 1) := by decide +kernel
theorem d7_82 : decode prog_23_method_6_code 82 = .ok (.aload 4, 2) := by decide +kernel
theorem d7_84 : decode prog_23_method_6_code 84 = .ok (.arraylength, 1) := by decide +kernel
theorem d7_85 : decode prog_23_method_6_code 85 = .ok (.if_icmp .ne 23, 3) := by decide +kernel
theorem ef_7n (m : MethodId) (a1 : Addr) (p2 : Int32) : entryFrame m #[(.ref a1), (.int p2)] 5 = mkF m 0 #[.val (.ref a1), .val (.int p2), .unset, .unset, .unset] [] := by first | (simp [entryFrame, mkF, argsToLocals, Value.category]; done) | rfl
def Q7n (Z : State) (a1 : Addr) (p2 : Int32) (kx_w_pieces_a1 : ClassId) (bk : Addr) (kx_bk : ClassId) (vs : List Value) (w_pieces_a1 : Addr) (w_length_a1 : Int32) (h0 : Heap) (n0 : Nat) (v : Option Value) (h : Heap) (L : List Loc) : Prop := v = none ∧ Fr n0 L ∧ Keep h0 h [bk, a1] ∧ Arv Z h bk kx_bk .byte (64 : Int32) (vs ++ [(.int (nar .byte ((p2.toInt8.toInt32))))]) (.int (0 : Int32)) ∧ Exa Z h a1 "com/example/outcomery/outcomery/PackedNumbers" ∧ Fld Z h a1 "com/example/outcomery/outcomery/PackedNumbers" "length" "I" (.int ((w_length_a1 + (1 : Int32)))) ∧ Fld Z h a1 "com/example/outcomery/outcomery/PackedNumbers" "pieces" "[[B" (.ref w_pieces_a1)
set_option maxRecDepth 65536 in
set_option maxHeartbeats 40000000 in
theorem rm7n (l : Launch) (Z : State) (a0 : Array Value) (hw : ∀ d ∈ tables_1, d.before a0 Z = true) (ws : List Jvm.Cond) (a1 : Addr) (p2 : Int32) (kx_w_pieces_a1 : ClassId) (bk : Addr) (kx_bk : ClassId) (vs : List Value) (w_pieces_a1 : Addr) (w_length_a1 : Int32) (h0 : Heap) (n0 : Nat) (Z0 : n0 ≤ h0.size) (V_w_pieces_a1 : Arv Z h0 w_pieces_a1 kx_w_pieces_a1 (.array .byte) (1 : Int32) [(.ref bk)] .null) (O_w_pieces_a1 : OvrA Z kx_w_pieces_a1 .byte "[B") (V_bk : Arv Z h0 bk kx_bk .byte (64 : Int32) vs (.int (0 : Int32))) (F_pieces_a1 : Fld Z h0 a1 "com/example/outcomery/outcomery/PackedNumbers" "pieces" "[[B" (.ref w_pieces_a1)) (F_length_a1 : Fld Z h0 a1 "com/example/outcomery/outcomery/PackedNumbers" "length" "I" (.int w_length_a1)) (hw0 : ¬ w_length_a1 < 0) (hw1 : w_length_a1 < 63) (hvl : vs.length = w_length_a1.toNatClampNeg) (g_bk : n0 ≤ bk) (ne_a1_bk : a1 ≠ bk) (E_a1 : Exa Z h0 a1 "com/example/outcomery/outcomery/PackedNumbers") (g_a1 : n0 ≤ a1) :
    MetFree l (⟨"com/example/outcomery/outcomery/PackedNumbers", "put", "(I)V"⟩ : MethodName) (head1 (Jvm.Cond.code (⟨"com/example/outcomery/outcomery/PackedNumbers", "put", "(I)V"⟩ : MethodName) prog_23_method_6_code 5 none :: ws) ({ frames := 0, cells := 0, slots := 0, locals := 0 } : Room)) (fun a U => a = #[(.ref a1), (.int p2)] ∧ Z.Warmed39 U.vm ∧ U.heap = h0) (fun _ _ _ _ _ => True) (fun _ U o U' => ∃ v L, o = .returned v ∧ Q7n Z a1 p2 kx_w_pieces_a1 bk kx_bk vs w_pieces_a1 w_length_a1 h0 n0 v U'.heap L ∧ FrameEnd U o U' L ({ frames := 0, cells := 0, slots := 0, locals := 0 } : Room).cells ({ frames := 0, cells := 0, slots := 0, locals := 0 } : Room).slots) := by
  refine MetFree.of_bodySF (plainFor_of_name pn_7) hisR ?_
  intro p e s m args below meth c s₁ Bd hml0 hP hK
  obtain ⟨rfl, hZ, hh⟩ := hP
  have hx := Bd.exec
  have hby := Bd.bytes
  have hml : c.maxLocals = 5 := hml0
  have hown : s.vm.findClass "com/example/outcomery/outcomery/PackedNumbers" = some m.cls := findClass_of_methodNamed Bd.named
  have hnm := (name_of_methodNamed Bd.named Bd.method).1
  have X0 : Stand p l e ({ frames := 0, cells := 0, slots := 0, locals := 0 } : Room) s m #[(.ref a1), (.int p2)] below meth c s₁ [] 0 0 := Stand.of_body Bd
  have e0 : s₁.heap = h0 := by rw [← hh, Bd.state]; rfl
  have N0 := Fr.nil n0
  have K0 : Keep h0 h0 [bk, a1] := Keep.refl h0 _
  refine (show Gl p e below (fun o U' => ∃ v L, o = .returned v ∧ Q7n Z a1 p2 kx_w_pieces_a1 bk kx_bk vs w_pieces_a1 w_length_a1 h0 n0 v U'.heap L ∧ FrameEnd s o U' L ({ frames := 0, cells := 0, slots := 0, locals := 0 } : Room).cells ({ frames := 0, cells := 0, slots := 0, locals := 0 } : Room).slots) (s₁.setTop (entryFrame m #[(.ref a1), (.int p2)] 5)) from ?_)
  obtain ⟨L0, hL0⟩ : ∃ z : Array Slot, z = #[.val (.ref a1), .val (.int p2), .unset, .unset, .unset] := ⟨_, rfl⟩
  refine Gl.st (B := (s₁.setTop (mkF m 0 L0 []))) (fun t k => castTop (efAt hL0 (ef_7n m a1 p2)) k) ?_
  refine Gl.st (B := (s₁.setTop (mkF m 1 L0 [(.ref a1)]))) (fun t k => XS.aloadN X0.here hx rfl (hb hby d7_0) (ldAt hL0 rfl) rfl k) ?_
  obtain ⟨T1, X1, e1, st1⟩ := getF X0 hx hZ hown (host := "") (Or.inl (tw hw 45 rfl)) Via.refl e0 F_length_a1 (g := (mkF m 1 L0 [(.ref a1)])) rfl rfl (hb hby d7_1)
  refine Gl.st (B := (T1.setTop (mkF m 4 L0 [(.int w_length_a1)]))) st1 ?_
  refine Gl.st (B := (T1.setTop (mkF m 6 L0 [(.int (16 : Int32)), (.int w_length_a1)]))) (fun t k => XS.bipush X1.here hx rfl (hb hby d7_4) k) ?_
  refine Gl.st (B := (T1.setTop (mkF m 7 L0 [(.int ((w_length_a1.toUInt32 >>> ((16 : Int32) &&& 31).toUInt32).toInt32))]))) (fun t k => XS.iushr X1.here hx rfl (hb hby d7_6) rfl k) ?_
  obtain ⟨y2_7_2, hy2_7_2⟩ : ∃ z : Int32, z = ((w_length_a1.toUInt32 >>> ((16 : Int32) &&& 31).toUInt32).toInt32) := ⟨_, rfl⟩
  refine Gl.cast (B := (T1.setTop (mkF m 7 L0 [(.int y2_7_2)]))) (by rw [hy2_7_2]) ?_
  obtain ⟨L3, hL3⟩ : ∃ z : Array Slot, z = #[.val (.ref a1), .val (.int p2), .val (.int y2_7_2), .unset, .unset] := ⟨_, rfl⟩
  refine Gl.st (B := (T1.setTop (mkF m 8 L3 []))) (fun t k => XS.istoreN X1.here hx rfl (hb hby d7_7) rfl (l' := L3) (stAt hL0 hL3 rfl rfl) k) ?_
  refine Gl.st (B := (T1.setTop (mkF m 9 L3 [(.ref a1)]))) (fun t k => XS.aloadN X1.here hx rfl (hb hby d7_8) (ldAt hL3 rfl) rfl k) ?_
  obtain ⟨T4, X4, e4, st4⟩ := getF X1 hx hZ hown (host := "") (Or.inl (tw hw 45 rfl)) Via.refl e1 F_length_a1 (g := (mkF m 9 L3 [(.ref a1)])) rfl rfl (hb hby d7_9)
  refine Gl.st (B := (T4.setTop (mkF m 12 L3 [(.int w_length_a1)]))) st4 ?_
  refine Gl.st (B := (T4.setTop (mkF m 14 L3 [(.int (65535 : Int32)), (.int w_length_a1)]))) (fun t k => X4.ldcInt hx hown (mvT hZ (tw hw 46 rfl)) (g := (mkF m 12 L3 [(.int w_length_a1)])) rfl (hb hby d7_12) _ k) ?_
  refine Gl.st (B := (T4.setTop (mkF m 15 L3 [(.int (w_length_a1 &&& (65535 : Int32)))]))) (fun t k => XS.iand X4.here hx rfl (hb hby d7_14) rfl k) ?_
  obtain ⟨y3_15_5, hy3_15_5⟩ : ∃ z : Int32, z = (w_length_a1 &&& (65535 : Int32)) := ⟨_, rfl⟩
  refine Gl.cast (B := (T4.setTop (mkF m 15 L3 [(.int y3_15_5)]))) (by rw [hy3_15_5]) ?_
  obtain ⟨L6, hL6⟩ : ∃ z : Array Slot, z = #[.val (.ref a1), .val (.int p2), .val (.int y2_7_2), .val (.int y3_15_5), .unset] := ⟨_, rfl⟩
  refine Gl.st (B := (T4.setTop (mkF m 16 L6 []))) (fun t k => XS.istoreN X4.here hx rfl (hb hby d7_15) rfl (l' := L6) (stAt hL3 hL6 rfl rfl) k) ?_
  have hn7 : y2_7_2 = (0 : Int32) := by
    exact own_hi0 w_length_a1 _ hw0 (own_lt _ hw1 (by decide)) hy2_7_2
  subst hn7
  have hn8 : w_length_a1 = y3_15_5 := by
    exact own_lo0 w_length_a1 _ hw0 (own_lt _ hw1 (by decide)) hy3_15_5
  subst hn8
  refine Gl.st (B := (T4.setTop (mkF m 17 L6 [(.int (0 : Int32))]))) (fun t k => XS.iloadN X4.here hx rfl (hb hby d7_16) (ldAt hL6 rfl) k) ?_
  refine Gl.st (B := (T4.setTop (mkF m 18 L6 [(.ref a1), (.int (0 : Int32))]))) (fun t k => XS.aloadN X4.here hx rfl (hb hby d7_17) (ldAt hL6 rfl) rfl k) ?_
  obtain ⟨T9, X9, e9, st9⟩ := getF X4 hx hZ hown (host := "") (Or.inl (tw hw 12 rfl)) Via.refl e4 F_pieces_a1 (g := (mkF m 18 L6 [(.ref a1), (.int (0 : Int32))])) rfl rfl (hb hby d7_18)
  refine Gl.st (B := (T9.setTop (mkF m 21 L6 [(.ref w_pieces_a1), (.int (0 : Int32))]))) st9 ?_
  obtain ⟨cl10, Ar10, q10, S10, P10, H10, G10⟩ := (id V_w_pieces_a1)
  refine Gl.st (B := (T9.setTop (mkF m 22 L6 [(.int cl10.slots.size.toInt32), (.int (0 : Int32))]))) (fun t k => X9.arraylength hx (by rw [e9]; exact Ar10.1) (State.isArrayOf_alike hZ.alike Ar10.2.1) (g := (mkF m 21 L6 [(.ref w_pieces_a1), (.int (0 : Int32))])) rfl rfl (hb hby d7_21) _ k) ?_
  refine Gl.cast (B := (T9.setTop (mkF m 22 L6 [(.int (1 : Int32)), (.int (0 : Int32))]))) (by rw [len_of S10 P10]) ?_
  refine Gl.st (B := (T9.setTop (mkF m 42 L6 []))) (fun t k => XS.icmpYes X9.here hx rfl (pc0 := 22) (pc' := 42) rfl (hb hby d7_22) rfl (by decide) (by decide) (by decide) k) ?_
  refine Gl.st (B := (T9.setTop (mkF m 43 L6 [(.ref a1)]))) (fun t k => XS.aloadN X9.here hx rfl (hb hby d7_42) (ldAt hL6 rfl) rfl k) ?_
  obtain ⟨T11, X11, e11, st11⟩ := getF X9 hx hZ hown (host := "") (Or.inl (tw hw 12 rfl)) Via.refl e9 F_pieces_a1 (g := (mkF m 43 L6 [(.ref a1)])) rfl rfl (hb hby d7_43)
  refine Gl.st (B := (T11.setTop (mkF m 46 L6 [(.ref w_pieces_a1)]))) st11 ?_
  refine Gl.st (B := (T11.setTop (mkF m 47 L6 [(.int (0 : Int32)), (.ref w_pieces_a1)]))) (fun t k => XS.iloadN X11.here hx rfl (hb hby d7_46) (ldAt hL6 rfl) k) ?_
  obtain ⟨cl12, Ar12, q12, S12, P12, H12, G12⟩ := (id V_w_pieces_a1)
  have hin47_12 : ¬ ((0 : Int32) < 0 ∨ cl12.slots.size ≤ ((0 : Int32)).toNatClampNeg) := inb_of S12 ⟨by decide, by decide⟩
  have hat12 := Has.at H12 hin47_12 (v := (.ref bk)) rfl
  refine Gl.st (B := (T11.setTop (mkF m 48 L6 [(.ref bk)]))) (fun t k => X11.aaload hx (j := (0 : Int32)) (v := (.ref bk)) (by rw [e11]; exact Ar12.1) (State.isArrayOf_alike hZ.alike Ar12.2.1) rfl Ar12.2.2 hin47_12 hat12 (g := (mkF m 47 L6 [(.int (0 : Int32)), (.ref w_pieces_a1)])) rfl rfl (hb hby d7_47) _ k) ?_
  obtain ⟨L13, hL13⟩ : ∃ z : Array Slot, z = #[.val (.ref a1), .val (.int p2), .val (.int (0 : Int32)), .val (.int w_length_a1), .val (.ref bk)] := ⟨_, rfl⟩
  refine Gl.st (B := (T11.setTop (mkF m 50 L13 []))) (fun t k => XS.astore X11.here hx rfl (hb hby d7_48) rfl rfl (l' := L13) (stAt hL6 hL13 rfl rfl) k) ?_
  refine Gl.st (B := (T11.setTop (mkF m 52 L13 [(.ref bk)]))) (fun t k => XS.aload X11.here hx rfl (hb hby d7_50) (ldAt hL13 rfl) rfl k) ?_
  refine Gl.st (B := (T11.setTop (mkF m 81 L13 []))) (fun t k => XS.ifnonnullYes X11.here hx rfl (pc0 := 52) (pc' := 81) rfl (hb hby d7_52) rfl (by decide) (by decide) k) ?_
  refine Gl.st (B := (T11.setTop (mkF m 82 L13 [(.int w_length_a1)]))) (fun t k => XS.iloadN X11.here hx rfl (hb hby d7_81) (ldAt hL13 rfl) k) ?_
  refine Gl.st (B := (T11.setTop (mkF m 84 L13 [(.ref bk), (.int w_length_a1)]))) (fun t k => XS.aload X11.here hx rfl (hb hby d7_82) (ldAt hL13 rfl) rfl k) ?_
  obtain ⟨cl14, Ar14, q14, S14, P14, H14, G14⟩ := (id V_bk)
  refine Gl.st (B := (T11.setTop (mkF m 85 L13 [(.int cl14.slots.size.toInt32), (.int w_length_a1)]))) (fun t k => X11.arraylength hx (by rw [e11]; exact Ar14.1) (State.isArrayOf_alike hZ.alike Ar14.2.1) (g := (mkF m 84 L13 [(.ref bk), (.int w_length_a1)])) rfl rfl (hb hby d7_84) _ k) ?_
  refine Gl.cast (B := (T11.setTop (mkF m 85 L13 [(.int (64 : Int32)), (.int w_length_a1)]))) (by rw [len_of S14 P14]) ?_
  have hc85_15 : ¬ (w_length_a1 = (64 : Int32)) := by
    intro q
    rw [q] at hw1
    exact absurd hw1 (by decide)
  refine Gl.st (B := (T11.setTop (mkF m 108 L13 []))) (fun t k => XS.icmpYes X11.here hx rfl (pc0 := 85) (pc' := 108) rfl (hb hby d7_85) rfl (feq hc85_15).2 (by decide) (by decide) k) ?_
  refine Gl.st (B := (T11.setTop (mkF m 110 L13 [(.ref bk)]))) (fun t k => XS.aload X11.here hx rfl (hb hby d7_108) (ldAt hL13 rfl) rfl k) ?_
  refine Gl.st (B := (T11.setTop (mkF m 111 L13 [(.int w_length_a1), (.ref bk)]))) (fun t k => XS.iloadN X11.here hx rfl (hb hby d7_110) (ldAt hL13 rfl) k) ?_
  refine Gl.st (B := (T11.setTop (mkF m 112 L13 [(.int p2), (.int w_length_a1), (.ref bk)]))) (fun t k => XS.iloadN X11.here hx rfl (hb hby d7_111) (ldAt hL13 rfl) k) ?_
  refine Gl.st (B := (T11.setTop (mkF m 113 L13 [(.int (p2.toInt8.toInt32)), (.int w_length_a1), (.ref bk)]))) (fun t k => XS.i2b X11.here hx rfl (hb hby d7_112) rfl k) ?_
  obtain ⟨x113_16, hx113_16⟩ : ∃ z : Int32, z = (p2.toInt8.toInt32) := ⟨_, rfl⟩
  refine Gl.cast (B := (T11.setTop (mkF m 113 L13 [(.int x113_16), (.int w_length_a1), (.ref bk)]))) (by rw [hx113_16]) ?_
  obtain ⟨cl17, Ar17, q17, S17, P17, H17, G17⟩ := (id V_bk)
  have hin113_17 : ¬ (w_length_a1 < 0 ∨ cl17.slots.size ≤ (w_length_a1).toNatClampNeg) := inb_of S17 ⟨hw0, own_lt _ hw1 (by decide)⟩
  obtain ⟨T17, h17, X17, e17, W17, st17⟩ := stB X11 hx hZ e11 Ar17 (j := w_length_a1) hin113_17 (g := (mkF m 113 L13 [(.int x113_16), (.int w_length_a1), (.ref bk)])) rfl rfl (hb hby d7_113)
  have V17 : Arv Z h17 bk kx_bk .byte (64 : Int32) (vs ++ [(.int (nar .byte x113_16))]) (.int (0 : Int32)) := own_push Ar17 q17 S17 P17 H17 G17 (fits_nar_byte _) W17 hvl.symm
  have Zc18 : n0 ≤ h17.size := Nat.le_trans Z0 (Nat.le_of_eq W17.size.symm)
  have K19 : Keep h0 h17 [bk, a1] := K0.wr W17 (Or.inl (List.mem_of_getElem? (i := 0) rfl))
  have N17 := Fr.snoc X17 N0 g_bk
  refine Gl.st (B := (T17.setTop (mkF m 114 L13 []))) st17 ?_
  refine Gl.st (B := (T17.setTop (mkF m 115 L13 [(.ref a1)]))) (fun t k => XS.aloadN X17.here hx rfl (hb hby d7_114) (ldAt hL13 rfl) rfl k) ?_
  refine Gl.st (B := (T17.setTop (mkF m 116 L13 [(.ref a1), (.ref a1)]))) (fun t k => XS.dup X17.here hx rfl (hb hby d7_115) rfl rfl k) ?_
  have c20 := (F_length_a1.other W17 (Or.inl ne_a1_bk))
  obtain ⟨T21, X21, e21, st21⟩ := getF X17 hx hZ hown (host := "") (Or.inl (tw hw 45 rfl)) Via.refl e17 c20 (g := (mkF m 116 L13 [(.ref a1), (.ref a1)])) rfl rfl (hb hby d7_116)
  refine Gl.st (B := (T21.setTop (mkF m 119 L13 [(.int w_length_a1), (.ref a1)]))) st21 ?_
  refine Gl.st (B := (T21.setTop (mkF m 120 L13 [(.int (1 : Int32)), (.int w_length_a1), (.ref a1)]))) (fun t k => XS.iconst X21.here hx rfl (hb hby d7_119) k) ?_
  refine Gl.st (B := (T21.setTop (mkF m 121 L13 [(.int (w_length_a1 + (1 : Int32))), (.ref a1)]))) (fun t k => XS.iadd X21.here hx rfl (hb hby d7_120) rfl k) ?_
  obtain ⟨x121_22, hx121_22⟩ : ∃ z : Int32, z = (w_length_a1 + (1 : Int32)) := ⟨_, rfl⟩
  refine Gl.cast (B := (T21.setTop (mkF m 121 L13 [(.int x121_22), (.ref a1)]))) (by rw [hx121_22]) ?_
  have c23 := (E_a1.wr W17)
  obtain ⟨T24, h24, X24, e24, W24, st24⟩ := putF X21 hx hZ hown (host := "") (Or.inl (tw hw 45 rfl)) Via.refl e21 c20 c23 (Or.inl (tw hw 35 rfl)) (tw hw 2 rfl) (ty := .int) (by decide) rfl rfl (g := (mkF m 121 L13 [(.int x121_22), (.ref a1)])) rfl rfl (hb hby d7_121)
  have Fw24 := c20.same W24
  have Zc25 : n0 ≤ h24.size := Nat.le_trans Zc18 (Nat.le_of_eq W24.size.symm)
  have K26 : Keep h0 h24 [bk, a1] := K19.wr W24 (Or.inl (List.mem_of_getElem? (i := 1) rfl))
  have N24 := Fr.snoc X24 N17 g_a1
  refine Gl.st (B := (T24.setTop (mkF m 124 L13 []))) st24 ?_
  obtain ⟨fs, hr, hrun, hended, hW, hsame⟩ := X24.leave (v := none) (fun _ => rfl)
  refine Gl.fin (X24.returnOut hx Bd.returns (hb hby d7_124) hr) hrun hended ⟨_, _, rfl, ?_, ⟨_, rfl⟩, hW, hsame.mono (by decide) (by decide)⟩
  show Q7n Z a1 p2 kx_w_pieces_a1 bk kx_bk vs w_pieces_a1 w_length_a1 h0 n0 _ T24.heap _
  rw [e24]
  have c27 := (V17.other W24 (Ne.symm ne_a1_bk))
  have c28 := (c23.wr W24)
  have c29 := ((F_pieces_a1.other W17 (Or.inl ne_a1_bk)).other W24 (Or.inr (sn1 hw)))
  exact ⟨rfl, N24, K26, (by subst hx113_16; exact c27), c28, (by subst hx121_22; exact Fw24), c29⟩
theorem d6_0 : decode prog_23_method_2_code 0 = .ok (.iload_n 1, 1) := by decide +kernel
theorem d6_1 : decode prog_23_method_2_code 1 = .ok (.istore_n 2, 1) := by decide +kernel
theorem d6_2 : decode prog_23_method_2_code 2 = .ok (.iload_n 2, 1) := by decide +kernel
theorem d6_3 : decode prog_23_method_2_code 3 = .ok (.sipush 128, 3) := by decide +kernel
theorem d6_6 : decode prog_23_method_2_code 6 = .ok (.if_icmp .lt 23, 3) := by decide +kernel
theorem d6_9 : decode prog_23_method_2_code 9 = .ok (.aload_n 0, 1) := by decide +kernel
theorem d6_10 : decode prog_23_method_2_code 10 = .ok (.iload_n 2, 1) := by decide +kernel
theorem d6_11 : decode prog_23_method_2_code 11 = .ok (.bipush 127, 2) := by decide +kernel
theorem d6_13 : decode prog_23_method_2_code 13 = .ok (.iand, 1) := by decide +kernel
theorem d6_14 : decode prog_23_method_2_code 14 = .ok (.sipush 128, 3) := by decide +kernel
theorem d6_17 : decode prog_23_method_2_code 17 = .ok (.ior, 1) := by decide +kernel
theorem d6_18 : decode prog_23_method_2_code 18 = .ok (.invokevirtual 15, 3) := by decide +kernel
theorem d6_21 : decode prog_23_method_2_code 21 = .ok (.iload_n 2, 1) := by decide +kernel
theorem d6_22 : decode prog_23_method_2_code 22 = .ok (.bipush 7, 2) := by decide +kernel
theorem d6_24 : decode prog_23_method_2_code 24 = .ok (.iushr, 1) := by decide +kernel
theorem d6_25 : decode prog_23_method_2_code 25 = .ok (.istore_n 2, 1) := by decide +kernel
theorem d6_26 : decode prog_23_method_2_code 26 = .ok (.goto (-24), 3) := by decide +kernel
theorem d6_29 : decode prog_23_method_2_code 29 = .ok (.aload_n 0, 1) := by decide +kernel
theorem d6_30 : decode prog_23_method_2_code 30 = .ok (.iload_n 2, 1) := by decide +kernel
theorem d6_31 : decode prog_23_method_2_code 31 = .ok (.invokevirtual 15, 3) := by decide +kernel
theorem d6_34 : decode prog_23_method_2_code 34 = .ok (.return_, 1) := by decide +kernel
theorem pn_6 : plainName "com/example/outcomery/outcomery/PackedNumbers" = true := by first | (simp [plainName, overriddenIn]; done) | decide +kernel
theorem pd_6n_0 : parseMethodDescriptor "(I)V" = some ⟨[.int], none⟩ := by decide +kernel
theorem ef_6n (m : MethodId) (a1 : Addr) (p2 : Int32) : entryFrame m #[(.ref a1), (.int p2)] 3 = mkF m 0 #[.val (.ref a1), .val (.int p2), .unset] [] := by first | (simp [entryFrame, mkF, argsToLocals, Value.category]; done) | rfl
theorem own_6n_hp31_4 (w_length_a1 : Int32) (vs : List Value)  (hw0 : ¬ w_length_a1 < 0) (hw1 : w_length_a1 < 58) (hvl : vs.length = w_length_a1.toNatClampNeg) : ¬ w_length_a1 < 0 := by
  have nb : ¬ w_length_a1 < 0 := hw0
  have tb : w_length_a1.toInt ≤ 58 := by
    have q := Int32.lt_iff_toInt_lt.mp hw1
    simp only [Int32.reduceToInt] at q
    omega
  have t0b : 0 ≤ w_length_a1.toInt := by
    have q := nb
    rw [Int32.lt_iff_toInt_lt] at q
    simp only [Int32.reduceToInt] at q
    omega
  exact nb
theorem own_6n_hp31_5 (w_length_a1 : Int32) (vs : List Value)  (hw0 : ¬ w_length_a1 < 0) (hw1 : w_length_a1 < 58) (hvl : vs.length = w_length_a1.toNatClampNeg) : w_length_a1 < 63 := by
  have nb : ¬ w_length_a1 < 0 := hw0
  have tb : w_length_a1.toInt ≤ 58 := by
    have q := Int32.lt_iff_toInt_lt.mp hw1
    simp only [Int32.reduceToInt] at q
    omega
  have t0b : 0 ≤ w_length_a1.toInt := by
    have q := nb
    rw [Int32.lt_iff_toInt_lt] at q
    simp only [Int32.reduceToInt] at q
    omega
  rw [Int32.lt_iff_toInt_lt]
  simp only [Int32.reduceToInt]
  omega
theorem own_6n_hp18_13 (w_length_a1 : Int32) (vs : List Value)  (hw0 : ¬ w_length_a1 < 0) (hw1 : w_length_a1 < 58) (hvl : vs.length = w_length_a1.toNatClampNeg) : ¬ w_length_a1 < 0 := by
  have nb : ¬ w_length_a1 < 0 := hw0
  have tb : w_length_a1.toInt ≤ 58 := by
    have q := Int32.lt_iff_toInt_lt.mp hw1
    simp only [Int32.reduceToInt] at q
    omega
  have t0b : 0 ≤ w_length_a1.toInt := by
    have q := nb
    rw [Int32.lt_iff_toInt_lt] at q
    simp only [Int32.reduceToInt] at q
    omega
  exact nb
theorem own_6n_hp18_14 (w_length_a1 : Int32) (vs : List Value)  (hw0 : ¬ w_length_a1 < 0) (hw1 : w_length_a1 < 58) (hvl : vs.length = w_length_a1.toNatClampNeg) : w_length_a1 < 63 := by
  have nb : ¬ w_length_a1 < 0 := hw0
  have tb : w_length_a1.toInt ≤ 58 := by
    have q := Int32.lt_iff_toInt_lt.mp hw1
    simp only [Int32.reduceToInt] at q
    omega
  have t0b : 0 ≤ w_length_a1.toInt := by
    have q := nb
    rw [Int32.lt_iff_toInt_lt] at q
    simp only [Int32.reduceToInt] at q
    omega
  rw [Int32.lt_iff_toInt_lt]
  simp only [Int32.reduceToInt]
  omega
theorem own_6n_hp31_25 (w_length_a1 : Int32) (f18_19 : Int32) (vs : List Value) (hf18_19 : f18_19 = ((w_length_a1 + (1 : Int32)))) (hw0 : ¬ w_length_a1 < 0) (hw1 : w_length_a1 < 58) (hvl : vs.length = w_length_a1.toNatClampNeg) : ¬ f18_19 < 0 := by
  have nb : ¬ w_length_a1 < 0 := hw0
  have tb : w_length_a1.toInt ≤ 58 := by
    have q := Int32.lt_iff_toInt_lt.mp hw1
    simp only [Int32.reduceToInt] at q
    omega
  have t0b : 0 ≤ w_length_a1.toInt := by
    have q := nb
    rw [Int32.lt_iff_toInt_lt] at q
    simp only [Int32.reduceToInt] at q
    omega
  have a0 := c_iadd w_length_a1 1
  rw [← hf18_19] at a0
  simp only [Int32.reduceToInt] at a0
  have r0 := rng32 f18_19
  have t0 : f18_19.toInt = w_length_a1.toInt + 1 := by omega
  have s0 : f18_19.toNatClampNeg = w_length_a1.toNatClampNeg + 1 := by rw [hf18_19]; exact own_suc w_length_a1 nb (by rw [Int32.lt_iff_toInt_lt]; simp only [Int32.reduceToInt]; omega)
  have n0 : ¬ f18_19 < 0 := by
    rw [Int32.lt_iff_toInt_lt]
    simp only [Int32.reduceToInt]
    omega
  exact n0
theorem own_6n_hp31_26 (w_length_a1 : Int32) (f18_19 : Int32) (vs : List Value) (hf18_19 : f18_19 = ((w_length_a1 + (1 : Int32)))) (hw0 : ¬ w_length_a1 < 0) (hw1 : w_length_a1 < 58) (hvl : vs.length = w_length_a1.toNatClampNeg) : f18_19 < 63 := by
  have nb : ¬ w_length_a1 < 0 := hw0
  have tb : w_length_a1.toInt ≤ 58 := by
    have q := Int32.lt_iff_toInt_lt.mp hw1
    simp only [Int32.reduceToInt] at q
    omega
  have t0b : 0 ≤ w_length_a1.toInt := by
    have q := nb
    rw [Int32.lt_iff_toInt_lt] at q
    simp only [Int32.reduceToInt] at q
    omega
  have a0 := c_iadd w_length_a1 1
  rw [← hf18_19] at a0
  simp only [Int32.reduceToInt] at a0
  have r0 := rng32 f18_19
  have t0 : f18_19.toInt = w_length_a1.toInt + 1 := by omega
  have s0 : f18_19.toNatClampNeg = w_length_a1.toNatClampNeg + 1 := by rw [hf18_19]; exact own_suc w_length_a1 nb (by rw [Int32.lt_iff_toInt_lt]; simp only [Int32.reduceToInt]; omega)
  have n0 : ¬ f18_19 < 0 := by
    rw [Int32.lt_iff_toInt_lt]
    simp only [Int32.reduceToInt]
    omega
  rw [Int32.lt_iff_toInt_lt]
  simp only [Int32.reduceToInt]
  omega
theorem own_6n_hp31_27 (vs : List Value) (p2 : Int32) (x18_11 : Int32) (vl18_18 : List Value) (w_length_a1 : Int32) (f18_19 : Int32) (hx18_11 : x18_11 = ((p2 &&& (127 : Int32)) ||| (128 : Int32))) (hvl18_18 : vl18_18 = (vs ++ [(.int (nar .byte ((x18_11.toInt8.toInt32))))])) (hf18_19 : f18_19 = ((w_length_a1 + (1 : Int32)))) (hc6_2 : ¬ (p2 < (128 : Int32))) (hp0 : ¬ p2 < 0) (hw0 : ¬ w_length_a1 < 0) (hw1 : w_length_a1 < 58) (hvl : vs.length = w_length_a1.toNatClampNeg) : vl18_18.length = f18_19.toNatClampNeg := by
  have nb : ¬ w_length_a1 < 0 := hw0
  have tb : w_length_a1.toInt ≤ 58 := by
    have q := Int32.lt_iff_toInt_lt.mp hw1
    simp only [Int32.reduceToInt] at q
    omega
  have t0b : 0 ≤ w_length_a1.toInt := by
    have q := nb
    rw [Int32.lt_iff_toInt_lt] at q
    simp only [Int32.reduceToInt] at q
    omega
  have a0 := c_iadd w_length_a1 1
  rw [← hf18_19] at a0
  simp only [Int32.reduceToInt] at a0
  have r0 := rng32 f18_19
  have t0 : f18_19.toInt = w_length_a1.toInt + 1 := by omega
  have s0 : f18_19.toNatClampNeg = w_length_a1.toNatClampNeg + 1 := by rw [hf18_19]; exact own_suc w_length_a1 nb (by rw [Int32.lt_iff_toInt_lt]; simp only [Int32.reduceToInt]; omega)
  have n0 : ¬ f18_19 < 0 := by
    rw [Int32.lt_iff_toInt_lt]
    simp only [Int32.reduceToInt]
    omega
  rw [hvl18_18]
  simp only [List.length_append, List.length_cons, List.length_nil]
  have e := hvl
  omega
theorem own_6n_hp18_35 (w_length_a1 : Int32) (f18_19 : Int32) (vs : List Value) (hf18_19 : f18_19 = ((w_length_a1 + (1 : Int32)))) (hw0 : ¬ w_length_a1 < 0) (hw1 : w_length_a1 < 58) (hvl : vs.length = w_length_a1.toNatClampNeg) : ¬ f18_19 < 0 := by
  have nb : ¬ w_length_a1 < 0 := hw0
  have tb : w_length_a1.toInt ≤ 58 := by
    have q := Int32.lt_iff_toInt_lt.mp hw1
    simp only [Int32.reduceToInt] at q
    omega
  have t0b : 0 ≤ w_length_a1.toInt := by
    have q := nb
    rw [Int32.lt_iff_toInt_lt] at q
    simp only [Int32.reduceToInt] at q
    omega
  have a0 := c_iadd w_length_a1 1
  rw [← hf18_19] at a0
  simp only [Int32.reduceToInt] at a0
  have r0 := rng32 f18_19
  have t0 : f18_19.toInt = w_length_a1.toInt + 1 := by omega
  have s0 : f18_19.toNatClampNeg = w_length_a1.toNatClampNeg + 1 := by rw [hf18_19]; exact own_suc w_length_a1 nb (by rw [Int32.lt_iff_toInt_lt]; simp only [Int32.reduceToInt]; omega)
  have n0 : ¬ f18_19 < 0 := by
    rw [Int32.lt_iff_toInt_lt]
    simp only [Int32.reduceToInt]
    omega
  exact n0
theorem own_6n_hp18_36 (w_length_a1 : Int32) (f18_19 : Int32) (vs : List Value) (hf18_19 : f18_19 = ((w_length_a1 + (1 : Int32)))) (hw0 : ¬ w_length_a1 < 0) (hw1 : w_length_a1 < 58) (hvl : vs.length = w_length_a1.toNatClampNeg) : f18_19 < 63 := by
  have nb : ¬ w_length_a1 < 0 := hw0
  have tb : w_length_a1.toInt ≤ 58 := by
    have q := Int32.lt_iff_toInt_lt.mp hw1
    simp only [Int32.reduceToInt] at q
    omega
  have t0b : 0 ≤ w_length_a1.toInt := by
    have q := nb
    rw [Int32.lt_iff_toInt_lt] at q
    simp only [Int32.reduceToInt] at q
    omega
  have a0 := c_iadd w_length_a1 1
  rw [← hf18_19] at a0
  simp only [Int32.reduceToInt] at a0
  have r0 := rng32 f18_19
  have t0 : f18_19.toInt = w_length_a1.toInt + 1 := by omega
  have s0 : f18_19.toNatClampNeg = w_length_a1.toNatClampNeg + 1 := by rw [hf18_19]; exact own_suc w_length_a1 nb (by rw [Int32.lt_iff_toInt_lt]; simp only [Int32.reduceToInt]; omega)
  have n0 : ¬ f18_19 < 0 := by
    rw [Int32.lt_iff_toInt_lt]
    simp only [Int32.reduceToInt]
    omega
  rw [Int32.lt_iff_toInt_lt]
  simp only [Int32.reduceToInt]
  omega
theorem own_6n_hp18_37 (vs : List Value) (p2 : Int32) (x18_11 : Int32) (vl18_18 : List Value) (w_length_a1 : Int32) (f18_19 : Int32) (hx18_11 : x18_11 = ((p2 &&& (127 : Int32)) ||| (128 : Int32))) (hvl18_18 : vl18_18 = (vs ++ [(.int (nar .byte ((x18_11.toInt8.toInt32))))])) (hf18_19 : f18_19 = ((w_length_a1 + (1 : Int32)))) (hc6_2 : ¬ (p2 < (128 : Int32))) (hp0 : ¬ p2 < 0) (hw0 : ¬ w_length_a1 < 0) (hw1 : w_length_a1 < 58) (hvl : vs.length = w_length_a1.toNatClampNeg) : vl18_18.length = f18_19.toNatClampNeg := by
  have nb : ¬ w_length_a1 < 0 := hw0
  have tb : w_length_a1.toInt ≤ 58 := by
    have q := Int32.lt_iff_toInt_lt.mp hw1
    simp only [Int32.reduceToInt] at q
    omega
  have t0b : 0 ≤ w_length_a1.toInt := by
    have q := nb
    rw [Int32.lt_iff_toInt_lt] at q
    simp only [Int32.reduceToInt] at q
    omega
  have a0 := c_iadd w_length_a1 1
  rw [← hf18_19] at a0
  simp only [Int32.reduceToInt] at a0
  have r0 := rng32 f18_19
  have t0 : f18_19.toInt = w_length_a1.toInt + 1 := by omega
  have s0 : f18_19.toNatClampNeg = w_length_a1.toNatClampNeg + 1 := by rw [hf18_19]; exact own_suc w_length_a1 nb (by rw [Int32.lt_iff_toInt_lt]; simp only [Int32.reduceToInt]; omega)
  have n0 : ¬ f18_19 < 0 := by
    rw [Int32.lt_iff_toInt_lt]
    simp only [Int32.reduceToInt]
    omega
  rw [hvl18_18]
  simp only [List.length_append, List.length_cons, List.length_nil]
  have e := hvl
  omega
theorem own_6n_hp31_47 (w_length_a1 : Int32) (f18_19 : Int32) (f18_41 : Int32) (vs : List Value) (hf18_19 : f18_19 = ((w_length_a1 + (1 : Int32)))) (hf18_41 : f18_41 = ((f18_19 + (1 : Int32)))) (hw0 : ¬ w_length_a1 < 0) (hw1 : w_length_a1 < 58) (hvl : vs.length = w_length_a1.toNatClampNeg) : ¬ f18_41 < 0 := by
  have nb : ¬ w_length_a1 < 0 := hw0
  have tb : w_length_a1.toInt ≤ 58 := by
    have q := Int32.lt_iff_toInt_lt.mp hw1
    simp only [Int32.reduceToInt] at q
    omega
  have t0b : 0 ≤ w_length_a1.toInt := by
    have q := nb
    rw [Int32.lt_iff_toInt_lt] at q
    simp only [Int32.reduceToInt] at q
    omega
  have a0 := c_iadd w_length_a1 1
  rw [← hf18_19] at a0
  simp only [Int32.reduceToInt] at a0
  have r0 := rng32 f18_19
  have t0 : f18_19.toInt = w_length_a1.toInt + 1 := by omega
  have s0 : f18_19.toNatClampNeg = w_length_a1.toNatClampNeg + 1 := by rw [hf18_19]; exact own_suc w_length_a1 nb (by rw [Int32.lt_iff_toInt_lt]; simp only [Int32.reduceToInt]; omega)
  have n0 : ¬ f18_19 < 0 := by
    rw [Int32.lt_iff_toInt_lt]
    simp only [Int32.reduceToInt]
    omega
  have a1 := c_iadd f18_19 1
  rw [← hf18_41] at a1
  simp only [Int32.reduceToInt] at a1
  have r1 := rng32 f18_41
  have t1 : f18_41.toInt = f18_19.toInt + 1 := by omega
  have s1 : f18_41.toNatClampNeg = f18_19.toNatClampNeg + 1 := by rw [hf18_41]; exact own_suc f18_19 n0 (by rw [Int32.lt_iff_toInt_lt]; simp only [Int32.reduceToInt]; omega)
  have n1 : ¬ f18_41 < 0 := by
    rw [Int32.lt_iff_toInt_lt]
    simp only [Int32.reduceToInt]
    omega
  exact n1
theorem own_6n_hp31_48 (w_length_a1 : Int32) (f18_19 : Int32) (f18_41 : Int32) (vs : List Value) (hf18_19 : f18_19 = ((w_length_a1 + (1 : Int32)))) (hf18_41 : f18_41 = ((f18_19 + (1 : Int32)))) (hw0 : ¬ w_length_a1 < 0) (hw1 : w_length_a1 < 58) (hvl : vs.length = w_length_a1.toNatClampNeg) : f18_41 < 63 := by
  have nb : ¬ w_length_a1 < 0 := hw0
  have tb : w_length_a1.toInt ≤ 58 := by
    have q := Int32.lt_iff_toInt_lt.mp hw1
    simp only [Int32.reduceToInt] at q
    omega
  have t0b : 0 ≤ w_length_a1.toInt := by
    have q := nb
    rw [Int32.lt_iff_toInt_lt] at q
    simp only [Int32.reduceToInt] at q
    omega
  have a0 := c_iadd w_length_a1 1
  rw [← hf18_19] at a0
  simp only [Int32.reduceToInt] at a0
  have r0 := rng32 f18_19
  have t0 : f18_19.toInt = w_length_a1.toInt + 1 := by omega
  have s0 : f18_19.toNatClampNeg = w_length_a1.toNatClampNeg + 1 := by rw [hf18_19]; exact own_suc w_length_a1 nb (by rw [Int32.lt_iff_toInt_lt]; simp only [Int32.reduceToInt]; omega)
  have n0 : ¬ f18_19 < 0 := by
    rw [Int32.lt_iff_toInt_lt]
    simp only [Int32.reduceToInt]
    omega
  have a1 := c_iadd f18_19 1
  rw [← hf18_41] at a1
  simp only [Int32.reduceToInt] at a1
  have r1 := rng32 f18_41
  have t1 : f18_41.toInt = f18_19.toInt + 1 := by omega
  have s1 : f18_41.toNatClampNeg = f18_19.toNatClampNeg + 1 := by rw [hf18_41]; exact own_suc f18_19 n0 (by rw [Int32.lt_iff_toInt_lt]; simp only [Int32.reduceToInt]; omega)
  have n1 : ¬ f18_41 < 0 := by
    rw [Int32.lt_iff_toInt_lt]
    simp only [Int32.reduceToInt]
    omega
  rw [Int32.lt_iff_toInt_lt]
  simp only [Int32.reduceToInt]
  omega
theorem own_6n_hp31_49 (vs : List Value) (p2 : Int32) (x18_11 : Int32) (vl18_18 : List Value) (y2_25_20 : Int32) (x18_32 : Int32) (vl18_40 : List Value) (w_length_a1 : Int32) (f18_19 : Int32) (f18_41 : Int32) (hx18_11 : x18_11 = ((p2 &&& (127 : Int32)) ||| (128 : Int32))) (hvl18_18 : vl18_18 = (vs ++ [(.int (nar .byte ((x18_11.toInt8.toInt32))))])) (hy2_25_20 : y2_25_20 = ((p2.toUInt32 >>> ((7 : Int32) &&& 31).toUInt32).toInt32)) (hx18_32 : x18_32 = ((y2_25_20 &&& (127 : Int32)) ||| (128 : Int32))) (hvl18_40 : vl18_40 = (vl18_18 ++ [(.int (nar .byte ((x18_32.toInt8.toInt32))))])) (hf18_19 : f18_19 = ((w_length_a1 + (1 : Int32)))) (hf18_41 : f18_41 = ((f18_19 + (1 : Int32)))) (hc6_2 : ¬ (p2 < (128 : Int32))) (hc6_22 : ¬ (y2_25_20 < (128 : Int32))) (hp0 : ¬ p2 < 0) (hw0 : ¬ w_length_a1 < 0) (hw1 : w_length_a1 < 58) (hvl : vs.length = w_length_a1.toNatClampNeg) : vl18_40.length = f18_41.toNatClampNeg := by
  have nb : ¬ w_length_a1 < 0 := hw0
  have tb : w_length_a1.toInt ≤ 58 := by
    have q := Int32.lt_iff_toInt_lt.mp hw1
    simp only [Int32.reduceToInt] at q
    omega
  have t0b : 0 ≤ w_length_a1.toInt := by
    have q := nb
    rw [Int32.lt_iff_toInt_lt] at q
    simp only [Int32.reduceToInt] at q
    omega
  have a0 := c_iadd w_length_a1 1
  rw [← hf18_19] at a0
  simp only [Int32.reduceToInt] at a0
  have r0 := rng32 f18_19
  have t0 : f18_19.toInt = w_length_a1.toInt + 1 := by omega
  have s0 : f18_19.toNatClampNeg = w_length_a1.toNatClampNeg + 1 := by rw [hf18_19]; exact own_suc w_length_a1 nb (by rw [Int32.lt_iff_toInt_lt]; simp only [Int32.reduceToInt]; omega)
  have n0 : ¬ f18_19 < 0 := by
    rw [Int32.lt_iff_toInt_lt]
    simp only [Int32.reduceToInt]
    omega
  have a1 := c_iadd f18_19 1
  rw [← hf18_41] at a1
  simp only [Int32.reduceToInt] at a1
  have r1 := rng32 f18_41
  have t1 : f18_41.toInt = f18_19.toInt + 1 := by omega
  have s1 : f18_41.toNatClampNeg = f18_19.toNatClampNeg + 1 := by rw [hf18_41]; exact own_suc f18_19 n0 (by rw [Int32.lt_iff_toInt_lt]; simp only [Int32.reduceToInt]; omega)
  have n1 : ¬ f18_41 < 0 := by
    rw [Int32.lt_iff_toInt_lt]
    simp only [Int32.reduceToInt]
    omega
  rw [hvl18_40, hvl18_18]
  simp only [List.length_append, List.length_cons, List.length_nil]
  have e := hvl
  omega
theorem own_6n_hp18_57 (w_length_a1 : Int32) (f18_19 : Int32) (f18_41 : Int32) (vs : List Value) (hf18_19 : f18_19 = ((w_length_a1 + (1 : Int32)))) (hf18_41 : f18_41 = ((f18_19 + (1 : Int32)))) (hw0 : ¬ w_length_a1 < 0) (hw1 : w_length_a1 < 58) (hvl : vs.length = w_length_a1.toNatClampNeg) : ¬ f18_41 < 0 := by
  have nb : ¬ w_length_a1 < 0 := hw0
  have tb : w_length_a1.toInt ≤ 58 := by
    have q := Int32.lt_iff_toInt_lt.mp hw1
    simp only [Int32.reduceToInt] at q
    omega
  have t0b : 0 ≤ w_length_a1.toInt := by
    have q := nb
    rw [Int32.lt_iff_toInt_lt] at q
    simp only [Int32.reduceToInt] at q
    omega
  have a0 := c_iadd w_length_a1 1
  rw [← hf18_19] at a0
  simp only [Int32.reduceToInt] at a0
  have r0 := rng32 f18_19
  have t0 : f18_19.toInt = w_length_a1.toInt + 1 := by omega
  have s0 : f18_19.toNatClampNeg = w_length_a1.toNatClampNeg + 1 := by rw [hf18_19]; exact own_suc w_length_a1 nb (by rw [Int32.lt_iff_toInt_lt]; simp only [Int32.reduceToInt]; omega)
  have n0 : ¬ f18_19 < 0 := by
    rw [Int32.lt_iff_toInt_lt]
    simp only [Int32.reduceToInt]
    omega
  have a1 := c_iadd f18_19 1
  rw [← hf18_41] at a1
  simp only [Int32.reduceToInt] at a1
  have r1 := rng32 f18_41
  have t1 : f18_41.toInt = f18_19.toInt + 1 := by omega
  have s1 : f18_41.toNatClampNeg = f18_19.toNatClampNeg + 1 := by rw [hf18_41]; exact own_suc f18_19 n0 (by rw [Int32.lt_iff_toInt_lt]; simp only [Int32.reduceToInt]; omega)
  have n1 : ¬ f18_41 < 0 := by
    rw [Int32.lt_iff_toInt_lt]
    simp only [Int32.reduceToInt]
    omega
  exact n1
theorem own_6n_hp18_58 (w_length_a1 : Int32) (f18_19 : Int32) (f18_41 : Int32) (vs : List Value) (hf18_19 : f18_19 = ((w_length_a1 + (1 : Int32)))) (hf18_41 : f18_41 = ((f18_19 + (1 : Int32)))) (hw0 : ¬ w_length_a1 < 0) (hw1 : w_length_a1 < 58) (hvl : vs.length = w_length_a1.toNatClampNeg) : f18_41 < 63 := by
  have nb : ¬ w_length_a1 < 0 := hw0
  have tb : w_length_a1.toInt ≤ 58 := by
    have q := Int32.lt_iff_toInt_lt.mp hw1
    simp only [Int32.reduceToInt] at q
    omega
  have t0b : 0 ≤ w_length_a1.toInt := by
    have q := nb
    rw [Int32.lt_iff_toInt_lt] at q
    simp only [Int32.reduceToInt] at q
    omega
  have a0 := c_iadd w_length_a1 1
  rw [← hf18_19] at a0
  simp only [Int32.reduceToInt] at a0
  have r0 := rng32 f18_19
  have t0 : f18_19.toInt = w_length_a1.toInt + 1 := by omega
  have s0 : f18_19.toNatClampNeg = w_length_a1.toNatClampNeg + 1 := by rw [hf18_19]; exact own_suc w_length_a1 nb (by rw [Int32.lt_iff_toInt_lt]; simp only [Int32.reduceToInt]; omega)
  have n0 : ¬ f18_19 < 0 := by
    rw [Int32.lt_iff_toInt_lt]
    simp only [Int32.reduceToInt]
    omega
  have a1 := c_iadd f18_19 1
  rw [← hf18_41] at a1
  simp only [Int32.reduceToInt] at a1
  have r1 := rng32 f18_41
  have t1 : f18_41.toInt = f18_19.toInt + 1 := by omega
  have s1 : f18_41.toNatClampNeg = f18_19.toNatClampNeg + 1 := by rw [hf18_41]; exact own_suc f18_19 n0 (by rw [Int32.lt_iff_toInt_lt]; simp only [Int32.reduceToInt]; omega)
  have n1 : ¬ f18_41 < 0 := by
    rw [Int32.lt_iff_toInt_lt]
    simp only [Int32.reduceToInt]
    omega
  rw [Int32.lt_iff_toInt_lt]
  simp only [Int32.reduceToInt]
  omega
theorem own_6n_hp18_59 (vs : List Value) (p2 : Int32) (x18_11 : Int32) (vl18_18 : List Value) (y2_25_20 : Int32) (x18_32 : Int32) (vl18_40 : List Value) (w_length_a1 : Int32) (f18_19 : Int32) (f18_41 : Int32) (hx18_11 : x18_11 = ((p2 &&& (127 : Int32)) ||| (128 : Int32))) (hvl18_18 : vl18_18 = (vs ++ [(.int (nar .byte ((x18_11.toInt8.toInt32))))])) (hy2_25_20 : y2_25_20 = ((p2.toUInt32 >>> ((7 : Int32) &&& 31).toUInt32).toInt32)) (hx18_32 : x18_32 = ((y2_25_20 &&& (127 : Int32)) ||| (128 : Int32))) (hvl18_40 : vl18_40 = (vl18_18 ++ [(.int (nar .byte ((x18_32.toInt8.toInt32))))])) (hf18_19 : f18_19 = ((w_length_a1 + (1 : Int32)))) (hf18_41 : f18_41 = ((f18_19 + (1 : Int32)))) (hc6_2 : ¬ (p2 < (128 : Int32))) (hc6_22 : ¬ (y2_25_20 < (128 : Int32))) (hp0 : ¬ p2 < 0) (hw0 : ¬ w_length_a1 < 0) (hw1 : w_length_a1 < 58) (hvl : vs.length = w_length_a1.toNatClampNeg) : vl18_40.length = f18_41.toNatClampNeg := by
  have nb : ¬ w_length_a1 < 0 := hw0
  have tb : w_length_a1.toInt ≤ 58 := by
    have q := Int32.lt_iff_toInt_lt.mp hw1
    simp only [Int32.reduceToInt] at q
    omega
  have t0b : 0 ≤ w_length_a1.toInt := by
    have q := nb
    rw [Int32.lt_iff_toInt_lt] at q
    simp only [Int32.reduceToInt] at q
    omega
  have a0 := c_iadd w_length_a1 1
  rw [← hf18_19] at a0
  simp only [Int32.reduceToInt] at a0
  have r0 := rng32 f18_19
  have t0 : f18_19.toInt = w_length_a1.toInt + 1 := by omega
  have s0 : f18_19.toNatClampNeg = w_length_a1.toNatClampNeg + 1 := by rw [hf18_19]; exact own_suc w_length_a1 nb (by rw [Int32.lt_iff_toInt_lt]; simp only [Int32.reduceToInt]; omega)
  have n0 : ¬ f18_19 < 0 := by
    rw [Int32.lt_iff_toInt_lt]
    simp only [Int32.reduceToInt]
    omega
  have a1 := c_iadd f18_19 1
  rw [← hf18_41] at a1
  simp only [Int32.reduceToInt] at a1
  have r1 := rng32 f18_41
  have t1 : f18_41.toInt = f18_19.toInt + 1 := by omega
  have s1 : f18_41.toNatClampNeg = f18_19.toNatClampNeg + 1 := by rw [hf18_41]; exact own_suc f18_19 n0 (by rw [Int32.lt_iff_toInt_lt]; simp only [Int32.reduceToInt]; omega)
  have n1 : ¬ f18_41 < 0 := by
    rw [Int32.lt_iff_toInt_lt]
    simp only [Int32.reduceToInt]
    omega
  rw [hvl18_40, hvl18_18]
  simp only [List.length_append, List.length_cons, List.length_nil]
  have e := hvl
  omega
theorem own_6n_hp31_69 (w_length_a1 : Int32) (f18_19 : Int32) (f18_41 : Int32) (f18_63 : Int32) (vs : List Value) (hf18_19 : f18_19 = ((w_length_a1 + (1 : Int32)))) (hf18_41 : f18_41 = ((f18_19 + (1 : Int32)))) (hf18_63 : f18_63 = ((f18_41 + (1 : Int32)))) (hw0 : ¬ w_length_a1 < 0) (hw1 : w_length_a1 < 58) (hvl : vs.length = w_length_a1.toNatClampNeg) : ¬ f18_63 < 0 := by
  have nb : ¬ w_length_a1 < 0 := hw0
  have tb : w_length_a1.toInt ≤ 58 := by
    have q := Int32.lt_iff_toInt_lt.mp hw1
    simp only [Int32.reduceToInt] at q
    omega
  have t0b : 0 ≤ w_length_a1.toInt := by
    have q := nb
    rw [Int32.lt_iff_toInt_lt] at q
    simp only [Int32.reduceToInt] at q
    omega
  have a0 := c_iadd w_length_a1 1
  rw [← hf18_19] at a0
  simp only [Int32.reduceToInt] at a0
  have r0 := rng32 f18_19
  have t0 : f18_19.toInt = w_length_a1.toInt + 1 := by omega
  have s0 : f18_19.toNatClampNeg = w_length_a1.toNatClampNeg + 1 := by rw [hf18_19]; exact own_suc w_length_a1 nb (by rw [Int32.lt_iff_toInt_lt]; simp only [Int32.reduceToInt]; omega)
  have n0 : ¬ f18_19 < 0 := by
    rw [Int32.lt_iff_toInt_lt]
    simp only [Int32.reduceToInt]
    omega
  have a1 := c_iadd f18_19 1
  rw [← hf18_41] at a1
  simp only [Int32.reduceToInt] at a1
  have r1 := rng32 f18_41
  have t1 : f18_41.toInt = f18_19.toInt + 1 := by omega
  have s1 : f18_41.toNatClampNeg = f18_19.toNatClampNeg + 1 := by rw [hf18_41]; exact own_suc f18_19 n0 (by rw [Int32.lt_iff_toInt_lt]; simp only [Int32.reduceToInt]; omega)
  have n1 : ¬ f18_41 < 0 := by
    rw [Int32.lt_iff_toInt_lt]
    simp only [Int32.reduceToInt]
    omega
  have a2 := c_iadd f18_41 1
  rw [← hf18_63] at a2
  simp only [Int32.reduceToInt] at a2
  have r2 := rng32 f18_63
  have t2 : f18_63.toInt = f18_41.toInt + 1 := by omega
  have s2 : f18_63.toNatClampNeg = f18_41.toNatClampNeg + 1 := by rw [hf18_63]; exact own_suc f18_41 n1 (by rw [Int32.lt_iff_toInt_lt]; simp only [Int32.reduceToInt]; omega)
  have n2 : ¬ f18_63 < 0 := by
    rw [Int32.lt_iff_toInt_lt]
    simp only [Int32.reduceToInt]
    omega
  exact n2
theorem own_6n_hp31_70 (w_length_a1 : Int32) (f18_19 : Int32) (f18_41 : Int32) (f18_63 : Int32) (vs : List Value) (hf18_19 : f18_19 = ((w_length_a1 + (1 : Int32)))) (hf18_41 : f18_41 = ((f18_19 + (1 : Int32)))) (hf18_63 : f18_63 = ((f18_41 + (1 : Int32)))) (hw0 : ¬ w_length_a1 < 0) (hw1 : w_length_a1 < 58) (hvl : vs.length = w_length_a1.toNatClampNeg) : f18_63 < 63 := by
  have nb : ¬ w_length_a1 < 0 := hw0
  have tb : w_length_a1.toInt ≤ 58 := by
    have q := Int32.lt_iff_toInt_lt.mp hw1
    simp only [Int32.reduceToInt] at q
    omega
  have t0b : 0 ≤ w_length_a1.toInt := by
    have q := nb
    rw [Int32.lt_iff_toInt_lt] at q
    simp only [Int32.reduceToInt] at q
    omega
  have a0 := c_iadd w_length_a1 1
  rw [← hf18_19] at a0
  simp only [Int32.reduceToInt] at a0
  have r0 := rng32 f18_19
  have t0 : f18_19.toInt = w_length_a1.toInt + 1 := by omega
  have s0 : f18_19.toNatClampNeg = w_length_a1.toNatClampNeg + 1 := by rw [hf18_19]; exact own_suc w_length_a1 nb (by rw [Int32.lt_iff_toInt_lt]; simp only [Int32.reduceToInt]; omega)
  have n0 : ¬ f18_19 < 0 := by
    rw [Int32.lt_iff_toInt_lt]
    simp only [Int32.reduceToInt]
    omega
  have a1 := c_iadd f18_19 1
  rw [← hf18_41] at a1
  simp only [Int32.reduceToInt] at a1
  have r1 := rng32 f18_41
  have t1 : f18_41.toInt = f18_19.toInt + 1 := by omega
  have s1 : f18_41.toNatClampNeg = f18_19.toNatClampNeg + 1 := by rw [hf18_41]; exact own_suc f18_19 n0 (by rw [Int32.lt_iff_toInt_lt]; simp only [Int32.reduceToInt]; omega)
  have n1 : ¬ f18_41 < 0 := by
    rw [Int32.lt_iff_toInt_lt]
    simp only [Int32.reduceToInt]
    omega
  have a2 := c_iadd f18_41 1
  rw [← hf18_63] at a2
  simp only [Int32.reduceToInt] at a2
  have r2 := rng32 f18_63
  have t2 : f18_63.toInt = f18_41.toInt + 1 := by omega
  have s2 : f18_63.toNatClampNeg = f18_41.toNatClampNeg + 1 := by rw [hf18_63]; exact own_suc f18_41 n1 (by rw [Int32.lt_iff_toInt_lt]; simp only [Int32.reduceToInt]; omega)
  have n2 : ¬ f18_63 < 0 := by
    rw [Int32.lt_iff_toInt_lt]
    simp only [Int32.reduceToInt]
    omega
  rw [Int32.lt_iff_toInt_lt]
  simp only [Int32.reduceToInt]
  omega
theorem own_6n_hp31_71 (vs : List Value) (p2 : Int32) (x18_11 : Int32) (vl18_18 : List Value) (y2_25_20 : Int32) (x18_32 : Int32) (vl18_40 : List Value) (y2_25_42 : Int32) (x18_54 : Int32) (vl18_62 : List Value) (w_length_a1 : Int32) (f18_19 : Int32) (f18_41 : Int32) (f18_63 : Int32) (hx18_11 : x18_11 = ((p2 &&& (127 : Int32)) ||| (128 : Int32))) (hvl18_18 : vl18_18 = (vs ++ [(.int (nar .byte ((x18_11.toInt8.toInt32))))])) (hy2_25_20 : y2_25_20 = ((p2.toUInt32 >>> ((7 : Int32) &&& 31).toUInt32).toInt32)) (hx18_32 : x18_32 = ((y2_25_20 &&& (127 : Int32)) ||| (128 : Int32))) (hvl18_40 : vl18_40 = (vl18_18 ++ [(.int (nar .byte ((x18_32.toInt8.toInt32))))])) (hy2_25_42 : y2_25_42 = ((y2_25_20.toUInt32 >>> ((7 : Int32) &&& 31).toUInt32).toInt32)) (hx18_54 : x18_54 = ((y2_25_42 &&& (127 : Int32)) ||| (128 : Int32))) (hvl18_62 : vl18_62 = (vl18_40 ++ [(.int (nar .byte ((x18_54.toInt8.toInt32))))])) (hf18_19 : f18_19 = ((w_length_a1 + (1 : Int32)))) (hf18_41 : f18_41 = ((f18_19 + (1 : Int32)))) (hf18_63 : f18_63 = ((f18_41 + (1 : Int32)))) (hc6_2 : ¬ (p2 < (128 : Int32))) (hc6_22 : ¬ (y2_25_20 < (128 : Int32))) (hc6_44 : ¬ (y2_25_42 < (128 : Int32))) (hp0 : ¬ p2 < 0) (hw0 : ¬ w_length_a1 < 0) (hw1 : w_length_a1 < 58) (hvl : vs.length = w_length_a1.toNatClampNeg) : vl18_62.length = f18_63.toNatClampNeg := by
  have nb : ¬ w_length_a1 < 0 := hw0
  have tb : w_length_a1.toInt ≤ 58 := by
    have q := Int32.lt_iff_toInt_lt.mp hw1
    simp only [Int32.reduceToInt] at q
    omega
  have t0b : 0 ≤ w_length_a1.toInt := by
    have q := nb
    rw [Int32.lt_iff_toInt_lt] at q
    simp only [Int32.reduceToInt] at q
    omega
  have a0 := c_iadd w_length_a1 1
  rw [← hf18_19] at a0
  simp only [Int32.reduceToInt] at a0
  have r0 := rng32 f18_19
  have t0 : f18_19.toInt = w_length_a1.toInt + 1 := by omega
  have s0 : f18_19.toNatClampNeg = w_length_a1.toNatClampNeg + 1 := by rw [hf18_19]; exact own_suc w_length_a1 nb (by rw [Int32.lt_iff_toInt_lt]; simp only [Int32.reduceToInt]; omega)
  have n0 : ¬ f18_19 < 0 := by
    rw [Int32.lt_iff_toInt_lt]
    simp only [Int32.reduceToInt]
    omega
  have a1 := c_iadd f18_19 1
  rw [← hf18_41] at a1
  simp only [Int32.reduceToInt] at a1
  have r1 := rng32 f18_41
  have t1 : f18_41.toInt = f18_19.toInt + 1 := by omega
  have s1 : f18_41.toNatClampNeg = f18_19.toNatClampNeg + 1 := by rw [hf18_41]; exact own_suc f18_19 n0 (by rw [Int32.lt_iff_toInt_lt]; simp only [Int32.reduceToInt]; omega)
  have n1 : ¬ f18_41 < 0 := by
    rw [Int32.lt_iff_toInt_lt]
    simp only [Int32.reduceToInt]
    omega
  have a2 := c_iadd f18_41 1
  rw [← hf18_63] at a2
  simp only [Int32.reduceToInt] at a2
  have r2 := rng32 f18_63
  have t2 : f18_63.toInt = f18_41.toInt + 1 := by omega
  have s2 : f18_63.toNatClampNeg = f18_41.toNatClampNeg + 1 := by rw [hf18_63]; exact own_suc f18_41 n1 (by rw [Int32.lt_iff_toInt_lt]; simp only [Int32.reduceToInt]; omega)
  have n2 : ¬ f18_63 < 0 := by
    rw [Int32.lt_iff_toInt_lt]
    simp only [Int32.reduceToInt]
    omega
  rw [hvl18_62, hvl18_40, hvl18_18]
  simp only [List.length_append, List.length_cons, List.length_nil]
  have e := hvl
  omega
theorem own_6n_hp18_79 (w_length_a1 : Int32) (f18_19 : Int32) (f18_41 : Int32) (f18_63 : Int32) (vs : List Value) (hf18_19 : f18_19 = ((w_length_a1 + (1 : Int32)))) (hf18_41 : f18_41 = ((f18_19 + (1 : Int32)))) (hf18_63 : f18_63 = ((f18_41 + (1 : Int32)))) (hw0 : ¬ w_length_a1 < 0) (hw1 : w_length_a1 < 58) (hvl : vs.length = w_length_a1.toNatClampNeg) : ¬ f18_63 < 0 := by
  have nb : ¬ w_length_a1 < 0 := hw0
  have tb : w_length_a1.toInt ≤ 58 := by
    have q := Int32.lt_iff_toInt_lt.mp hw1
    simp only [Int32.reduceToInt] at q
    omega
  have t0b : 0 ≤ w_length_a1.toInt := by
    have q := nb
    rw [Int32.lt_iff_toInt_lt] at q
    simp only [Int32.reduceToInt] at q
    omega
  have a0 := c_iadd w_length_a1 1
  rw [← hf18_19] at a0
  simp only [Int32.reduceToInt] at a0
  have r0 := rng32 f18_19
  have t0 : f18_19.toInt = w_length_a1.toInt + 1 := by omega
  have s0 : f18_19.toNatClampNeg = w_length_a1.toNatClampNeg + 1 := by rw [hf18_19]; exact own_suc w_length_a1 nb (by rw [Int32.lt_iff_toInt_lt]; simp only [Int32.reduceToInt]; omega)
  have n0 : ¬ f18_19 < 0 := by
    rw [Int32.lt_iff_toInt_lt]
    simp only [Int32.reduceToInt]
    omega
  have a1 := c_iadd f18_19 1
  rw [← hf18_41] at a1
  simp only [Int32.reduceToInt] at a1
  have r1 := rng32 f18_41
  have t1 : f18_41.toInt = f18_19.toInt + 1 := by omega
  have s1 : f18_41.toNatClampNeg = f18_19.toNatClampNeg + 1 := by rw [hf18_41]; exact own_suc f18_19 n0 (by rw [Int32.lt_iff_toInt_lt]; simp only [Int32.reduceToInt]; omega)
  have n1 : ¬ f18_41 < 0 := by
    rw [Int32.lt_iff_toInt_lt]
    simp only [Int32.reduceToInt]
    omega
  have a2 := c_iadd f18_41 1
  rw [← hf18_63] at a2
  simp only [Int32.reduceToInt] at a2
  have r2 := rng32 f18_63
  have t2 : f18_63.toInt = f18_41.toInt + 1 := by omega
  have s2 : f18_63.toNatClampNeg = f18_41.toNatClampNeg + 1 := by rw [hf18_63]; exact own_suc f18_41 n1 (by rw [Int32.lt_iff_toInt_lt]; simp only [Int32.reduceToInt]; omega)
  have n2 : ¬ f18_63 < 0 := by
    rw [Int32.lt_iff_toInt_lt]
    simp only [Int32.reduceToInt]
    omega
  exact n2
theorem own_6n_hp18_80 (w_length_a1 : Int32) (f18_19 : Int32) (f18_41 : Int32) (f18_63 : Int32) (vs : List Value) (hf18_19 : f18_19 = ((w_length_a1 + (1 : Int32)))) (hf18_41 : f18_41 = ((f18_19 + (1 : Int32)))) (hf18_63 : f18_63 = ((f18_41 + (1 : Int32)))) (hw0 : ¬ w_length_a1 < 0) (hw1 : w_length_a1 < 58) (hvl : vs.length = w_length_a1.toNatClampNeg) : f18_63 < 63 := by
  have nb : ¬ w_length_a1 < 0 := hw0
  have tb : w_length_a1.toInt ≤ 58 := by
    have q := Int32.lt_iff_toInt_lt.mp hw1
    simp only [Int32.reduceToInt] at q
    omega
  have t0b : 0 ≤ w_length_a1.toInt := by
    have q := nb
    rw [Int32.lt_iff_toInt_lt] at q
    simp only [Int32.reduceToInt] at q
    omega
  have a0 := c_iadd w_length_a1 1
  rw [← hf18_19] at a0
  simp only [Int32.reduceToInt] at a0
  have r0 := rng32 f18_19
  have t0 : f18_19.toInt = w_length_a1.toInt + 1 := by omega
  have s0 : f18_19.toNatClampNeg = w_length_a1.toNatClampNeg + 1 := by rw [hf18_19]; exact own_suc w_length_a1 nb (by rw [Int32.lt_iff_toInt_lt]; simp only [Int32.reduceToInt]; omega)
  have n0 : ¬ f18_19 < 0 := by
    rw [Int32.lt_iff_toInt_lt]
    simp only [Int32.reduceToInt]
    omega
  have a1 := c_iadd f18_19 1
  rw [← hf18_41] at a1
  simp only [Int32.reduceToInt] at a1
  have r1 := rng32 f18_41
  have t1 : f18_41.toInt = f18_19.toInt + 1 := by omega
  have s1 : f18_41.toNatClampNeg = f18_19.toNatClampNeg + 1 := by rw [hf18_41]; exact own_suc f18_19 n0 (by rw [Int32.lt_iff_toInt_lt]; simp only [Int32.reduceToInt]; omega)
  have n1 : ¬ f18_41 < 0 := by
    rw [Int32.lt_iff_toInt_lt]
    simp only [Int32.reduceToInt]
    omega
  have a2 := c_iadd f18_41 1
  rw [← hf18_63] at a2
  simp only [Int32.reduceToInt] at a2
  have r2 := rng32 f18_63
  have t2 : f18_63.toInt = f18_41.toInt + 1 := by omega
  have s2 : f18_63.toNatClampNeg = f18_41.toNatClampNeg + 1 := by rw [hf18_63]; exact own_suc f18_41 n1 (by rw [Int32.lt_iff_toInt_lt]; simp only [Int32.reduceToInt]; omega)
  have n2 : ¬ f18_63 < 0 := by
    rw [Int32.lt_iff_toInt_lt]
    simp only [Int32.reduceToInt]
    omega
  rw [Int32.lt_iff_toInt_lt]
  simp only [Int32.reduceToInt]
  omega
theorem own_6n_hp18_81 (vs : List Value) (p2 : Int32) (x18_11 : Int32) (vl18_18 : List Value) (y2_25_20 : Int32) (x18_32 : Int32) (vl18_40 : List Value) (y2_25_42 : Int32) (x18_54 : Int32) (vl18_62 : List Value) (w_length_a1 : Int32) (f18_19 : Int32) (f18_41 : Int32) (f18_63 : Int32) (hx18_11 : x18_11 = ((p2 &&& (127 : Int32)) ||| (128 : Int32))) (hvl18_18 : vl18_18 = (vs ++ [(.int (nar .byte ((x18_11.toInt8.toInt32))))])) (hy2_25_20 : y2_25_20 = ((p2.toUInt32 >>> ((7 : Int32) &&& 31).toUInt32).toInt32)) (hx18_32 : x18_32 = ((y2_25_20 &&& (127 : Int32)) ||| (128 : Int32))) (hvl18_40 : vl18_40 = (vl18_18 ++ [(.int (nar .byte ((x18_32.toInt8.toInt32))))])) (hy2_25_42 : y2_25_42 = ((y2_25_20.toUInt32 >>> ((7 : Int32) &&& 31).toUInt32).toInt32)) (hx18_54 : x18_54 = ((y2_25_42 &&& (127 : Int32)) ||| (128 : Int32))) (hvl18_62 : vl18_62 = (vl18_40 ++ [(.int (nar .byte ((x18_54.toInt8.toInt32))))])) (hf18_19 : f18_19 = ((w_length_a1 + (1 : Int32)))) (hf18_41 : f18_41 = ((f18_19 + (1 : Int32)))) (hf18_63 : f18_63 = ((f18_41 + (1 : Int32)))) (hc6_2 : ¬ (p2 < (128 : Int32))) (hc6_22 : ¬ (y2_25_20 < (128 : Int32))) (hc6_44 : ¬ (y2_25_42 < (128 : Int32))) (hp0 : ¬ p2 < 0) (hw0 : ¬ w_length_a1 < 0) (hw1 : w_length_a1 < 58) (hvl : vs.length = w_length_a1.toNatClampNeg) : vl18_62.length = f18_63.toNatClampNeg := by
  have nb : ¬ w_length_a1 < 0 := hw0
  have tb : w_length_a1.toInt ≤ 58 := by
    have q := Int32.lt_iff_toInt_lt.mp hw1
    simp only [Int32.reduceToInt] at q
    omega
  have t0b : 0 ≤ w_length_a1.toInt := by
    have q := nb
    rw [Int32.lt_iff_toInt_lt] at q
    simp only [Int32.reduceToInt] at q
    omega
  have a0 := c_iadd w_length_a1 1
  rw [← hf18_19] at a0
  simp only [Int32.reduceToInt] at a0
  have r0 := rng32 f18_19
  have t0 : f18_19.toInt = w_length_a1.toInt + 1 := by omega
  have s0 : f18_19.toNatClampNeg = w_length_a1.toNatClampNeg + 1 := by rw [hf18_19]; exact own_suc w_length_a1 nb (by rw [Int32.lt_iff_toInt_lt]; simp only [Int32.reduceToInt]; omega)
  have n0 : ¬ f18_19 < 0 := by
    rw [Int32.lt_iff_toInt_lt]
    simp only [Int32.reduceToInt]
    omega
  have a1 := c_iadd f18_19 1
  rw [← hf18_41] at a1
  simp only [Int32.reduceToInt] at a1
  have r1 := rng32 f18_41
  have t1 : f18_41.toInt = f18_19.toInt + 1 := by omega
  have s1 : f18_41.toNatClampNeg = f18_19.toNatClampNeg + 1 := by rw [hf18_41]; exact own_suc f18_19 n0 (by rw [Int32.lt_iff_toInt_lt]; simp only [Int32.reduceToInt]; omega)
  have n1 : ¬ f18_41 < 0 := by
    rw [Int32.lt_iff_toInt_lt]
    simp only [Int32.reduceToInt]
    omega
  have a2 := c_iadd f18_41 1
  rw [← hf18_63] at a2
  simp only [Int32.reduceToInt] at a2
  have r2 := rng32 f18_63
  have t2 : f18_63.toInt = f18_41.toInt + 1 := by omega
  have s2 : f18_63.toNatClampNeg = f18_41.toNatClampNeg + 1 := by rw [hf18_63]; exact own_suc f18_41 n1 (by rw [Int32.lt_iff_toInt_lt]; simp only [Int32.reduceToInt]; omega)
  have n2 : ¬ f18_63 < 0 := by
    rw [Int32.lt_iff_toInt_lt]
    simp only [Int32.reduceToInt]
    omega
  rw [hvl18_62, hvl18_40, hvl18_18]
  simp only [List.length_append, List.length_cons, List.length_nil]
  have e := hvl
  omega
theorem own_6n_hc6_88 (p2 : Int32) (y2_25_20 : Int32) (y2_25_42 : Int32) (y2_25_64 : Int32) (y2_25_86 : Int32) (hy2_25_20 : y2_25_20 = ((p2.toUInt32 >>> ((7 : Int32) &&& 31).toUInt32).toInt32)) (hy2_25_42 : y2_25_42 = ((y2_25_20.toUInt32 >>> ((7 : Int32) &&& 31).toUInt32).toInt32)) (hy2_25_64 : y2_25_64 = ((y2_25_42.toUInt32 >>> ((7 : Int32) &&& 31).toUInt32).toInt32)) (hy2_25_86 : y2_25_86 = ((y2_25_64.toUInt32 >>> ((7 : Int32) &&& 31).toUInt32).toInt32)) (hp0 : ¬ p2 < 0) : y2_25_86 < (128 : Int32) := by
  rw [Int32.lt_iff_toInt_lt] at *
  have z := rng32 p2
  have a0 : y2_25_20.toInt = (p2.toInt % 4294967296) / 128 := by rw [hy2_25_20]; exact c_iushr p2 (7 : Int32) 7 (by decide) (by decide)
  have a1 : y2_25_42.toInt = (y2_25_20.toInt % 4294967296) / 128 := by rw [hy2_25_42]; exact c_iushr y2_25_20 (7 : Int32) 7 (by decide) (by decide)
  have a2 : y2_25_64.toInt = (y2_25_42.toInt % 4294967296) / 128 := by rw [hy2_25_64]; exact c_iushr y2_25_42 (7 : Int32) 7 (by decide) (by decide)
  have a3 : y2_25_86.toInt = (y2_25_64.toInt % 4294967296) / 128 := by rw [hy2_25_86]; exact c_iushr y2_25_64 (7 : Int32) 7 (by decide) (by decide)
  simp only [Int32.reduceToInt] at *
  omega
theorem own_6n_hp31_91 (w_length_a1 : Int32) (f18_19 : Int32) (f18_41 : Int32) (f18_63 : Int32) (f18_85 : Int32) (vs : List Value) (hf18_19 : f18_19 = ((w_length_a1 + (1 : Int32)))) (hf18_41 : f18_41 = ((f18_19 + (1 : Int32)))) (hf18_63 : f18_63 = ((f18_41 + (1 : Int32)))) (hf18_85 : f18_85 = ((f18_63 + (1 : Int32)))) (hw0 : ¬ w_length_a1 < 0) (hw1 : w_length_a1 < 58) (hvl : vs.length = w_length_a1.toNatClampNeg) : ¬ f18_85 < 0 := by
  have nb : ¬ w_length_a1 < 0 := hw0
  have tb : w_length_a1.toInt ≤ 58 := by
    have q := Int32.lt_iff_toInt_lt.mp hw1
    simp only [Int32.reduceToInt] at q
    omega
  have t0b : 0 ≤ w_length_a1.toInt := by
    have q := nb
    rw [Int32.lt_iff_toInt_lt] at q
    simp only [Int32.reduceToInt] at q
    omega
  have a0 := c_iadd w_length_a1 1
  rw [← hf18_19] at a0
  simp only [Int32.reduceToInt] at a0
  have r0 := rng32 f18_19
  have t0 : f18_19.toInt = w_length_a1.toInt + 1 := by omega
  have s0 : f18_19.toNatClampNeg = w_length_a1.toNatClampNeg + 1 := by rw [hf18_19]; exact own_suc w_length_a1 nb (by rw [Int32.lt_iff_toInt_lt]; simp only [Int32.reduceToInt]; omega)
  have n0 : ¬ f18_19 < 0 := by
    rw [Int32.lt_iff_toInt_lt]
    simp only [Int32.reduceToInt]
    omega
  have a1 := c_iadd f18_19 1
  rw [← hf18_41] at a1
  simp only [Int32.reduceToInt] at a1
  have r1 := rng32 f18_41
  have t1 : f18_41.toInt = f18_19.toInt + 1 := by omega
  have s1 : f18_41.toNatClampNeg = f18_19.toNatClampNeg + 1 := by rw [hf18_41]; exact own_suc f18_19 n0 (by rw [Int32.lt_iff_toInt_lt]; simp only [Int32.reduceToInt]; omega)
  have n1 : ¬ f18_41 < 0 := by
    rw [Int32.lt_iff_toInt_lt]
    simp only [Int32.reduceToInt]
    omega
  have a2 := c_iadd f18_41 1
  rw [← hf18_63] at a2
  simp only [Int32.reduceToInt] at a2
  have r2 := rng32 f18_63
  have t2 : f18_63.toInt = f18_41.toInt + 1 := by omega
  have s2 : f18_63.toNatClampNeg = f18_41.toNatClampNeg + 1 := by rw [hf18_63]; exact own_suc f18_41 n1 (by rw [Int32.lt_iff_toInt_lt]; simp only [Int32.reduceToInt]; omega)
  have n2 : ¬ f18_63 < 0 := by
    rw [Int32.lt_iff_toInt_lt]
    simp only [Int32.reduceToInt]
    omega
  have a3 := c_iadd f18_63 1
  rw [← hf18_85] at a3
  simp only [Int32.reduceToInt] at a3
  have r3 := rng32 f18_85
  have t3 : f18_85.toInt = f18_63.toInt + 1 := by omega
  have s3 : f18_85.toNatClampNeg = f18_63.toNatClampNeg + 1 := by rw [hf18_85]; exact own_suc f18_63 n2 (by rw [Int32.lt_iff_toInt_lt]; simp only [Int32.reduceToInt]; omega)
  have n3 : ¬ f18_85 < 0 := by
    rw [Int32.lt_iff_toInt_lt]
    simp only [Int32.reduceToInt]
    omega
  exact n3
theorem own_6n_hp31_92 (w_length_a1 : Int32) (f18_19 : Int32) (f18_41 : Int32) (f18_63 : Int32) (f18_85 : Int32) (vs : List Value) (hf18_19 : f18_19 = ((w_length_a1 + (1 : Int32)))) (hf18_41 : f18_41 = ((f18_19 + (1 : Int32)))) (hf18_63 : f18_63 = ((f18_41 + (1 : Int32)))) (hf18_85 : f18_85 = ((f18_63 + (1 : Int32)))) (hw0 : ¬ w_length_a1 < 0) (hw1 : w_length_a1 < 58) (hvl : vs.length = w_length_a1.toNatClampNeg) : f18_85 < 63 := by
  have nb : ¬ w_length_a1 < 0 := hw0
  have tb : w_length_a1.toInt ≤ 58 := by
    have q := Int32.lt_iff_toInt_lt.mp hw1
    simp only [Int32.reduceToInt] at q
    omega
  have t0b : 0 ≤ w_length_a1.toInt := by
    have q := nb
    rw [Int32.lt_iff_toInt_lt] at q
    simp only [Int32.reduceToInt] at q
    omega
  have a0 := c_iadd w_length_a1 1
  rw [← hf18_19] at a0
  simp only [Int32.reduceToInt] at a0
  have r0 := rng32 f18_19
  have t0 : f18_19.toInt = w_length_a1.toInt + 1 := by omega
  have s0 : f18_19.toNatClampNeg = w_length_a1.toNatClampNeg + 1 := by rw [hf18_19]; exact own_suc w_length_a1 nb (by rw [Int32.lt_iff_toInt_lt]; simp only [Int32.reduceToInt]; omega)
  have n0 : ¬ f18_19 < 0 := by
    rw [Int32.lt_iff_toInt_lt]
    simp only [Int32.reduceToInt]
    omega
  have a1 := c_iadd f18_19 1
  rw [← hf18_41] at a1
  simp only [Int32.reduceToInt] at a1
  have r1 := rng32 f18_41
  have t1 : f18_41.toInt = f18_19.toInt + 1 := by omega
  have s1 : f18_41.toNatClampNeg = f18_19.toNatClampNeg + 1 := by rw [hf18_41]; exact own_suc f18_19 n0 (by rw [Int32.lt_iff_toInt_lt]; simp only [Int32.reduceToInt]; omega)
  have n1 : ¬ f18_41 < 0 := by
    rw [Int32.lt_iff_toInt_lt]
    simp only [Int32.reduceToInt]
    omega
  have a2 := c_iadd f18_41 1
  rw [← hf18_63] at a2
  simp only [Int32.reduceToInt] at a2
  have r2 := rng32 f18_63
  have t2 : f18_63.toInt = f18_41.toInt + 1 := by omega
  have s2 : f18_63.toNatClampNeg = f18_41.toNatClampNeg + 1 := by rw [hf18_63]; exact own_suc f18_41 n1 (by rw [Int32.lt_iff_toInt_lt]; simp only [Int32.reduceToInt]; omega)
  have n2 : ¬ f18_63 < 0 := by
    rw [Int32.lt_iff_toInt_lt]
    simp only [Int32.reduceToInt]
    omega
  have a3 := c_iadd f18_63 1
  rw [← hf18_85] at a3
  simp only [Int32.reduceToInt] at a3
  have r3 := rng32 f18_85
  have t3 : f18_85.toInt = f18_63.toInt + 1 := by omega
  have s3 : f18_85.toNatClampNeg = f18_63.toNatClampNeg + 1 := by rw [hf18_85]; exact own_suc f18_63 n2 (by rw [Int32.lt_iff_toInt_lt]; simp only [Int32.reduceToInt]; omega)
  have n3 : ¬ f18_85 < 0 := by
    rw [Int32.lt_iff_toInt_lt]
    simp only [Int32.reduceToInt]
    omega
  rw [Int32.lt_iff_toInt_lt]
  simp only [Int32.reduceToInt]
  omega
theorem own_6n_hp31_93 (vs : List Value) (p2 : Int32) (x18_11 : Int32) (vl18_18 : List Value) (y2_25_20 : Int32) (x18_32 : Int32) (vl18_40 : List Value) (y2_25_42 : Int32) (x18_54 : Int32) (vl18_62 : List Value) (y2_25_64 : Int32) (x18_76 : Int32) (vl18_84 : List Value) (w_length_a1 : Int32) (f18_19 : Int32) (f18_41 : Int32) (f18_63 : Int32) (f18_85 : Int32) (hx18_11 : x18_11 = ((p2 &&& (127 : Int32)) ||| (128 : Int32))) (hvl18_18 : vl18_18 = (vs ++ [(.int (nar .byte ((x18_11.toInt8.toInt32))))])) (hy2_25_20 : y2_25_20 = ((p2.toUInt32 >>> ((7 : Int32) &&& 31).toUInt32).toInt32)) (hx18_32 : x18_32 = ((y2_25_20 &&& (127 : Int32)) ||| (128 : Int32))) (hvl18_40 : vl18_40 = (vl18_18 ++ [(.int (nar .byte ((x18_32.toInt8.toInt32))))])) (hy2_25_42 : y2_25_42 = ((y2_25_20.toUInt32 >>> ((7 : Int32) &&& 31).toUInt32).toInt32)) (hx18_54 : x18_54 = ((y2_25_42 &&& (127 : Int32)) ||| (128 : Int32))) (hvl18_62 : vl18_62 = (vl18_40 ++ [(.int (nar .byte ((x18_54.toInt8.toInt32))))])) (hy2_25_64 : y2_25_64 = ((y2_25_42.toUInt32 >>> ((7 : Int32) &&& 31).toUInt32).toInt32)) (hx18_76 : x18_76 = ((y2_25_64 &&& (127 : Int32)) ||| (128 : Int32))) (hvl18_84 : vl18_84 = (vl18_62 ++ [(.int (nar .byte ((x18_76.toInt8.toInt32))))])) (hf18_19 : f18_19 = ((w_length_a1 + (1 : Int32)))) (hf18_41 : f18_41 = ((f18_19 + (1 : Int32)))) (hf18_63 : f18_63 = ((f18_41 + (1 : Int32)))) (hf18_85 : f18_85 = ((f18_63 + (1 : Int32)))) (hc6_2 : ¬ (p2 < (128 : Int32))) (hc6_22 : ¬ (y2_25_20 < (128 : Int32))) (hc6_44 : ¬ (y2_25_42 < (128 : Int32))) (hc6_66 : ¬ (y2_25_64 < (128 : Int32))) (hp0 : ¬ p2 < 0) (hw0 : ¬ w_length_a1 < 0) (hw1 : w_length_a1 < 58) (hvl : vs.length = w_length_a1.toNatClampNeg) : vl18_84.length = f18_85.toNatClampNeg := by
  have nb : ¬ w_length_a1 < 0 := hw0
  have tb : w_length_a1.toInt ≤ 58 := by
    have q := Int32.lt_iff_toInt_lt.mp hw1
    simp only [Int32.reduceToInt] at q
    omega
  have t0b : 0 ≤ w_length_a1.toInt := by
    have q := nb
    rw [Int32.lt_iff_toInt_lt] at q
    simp only [Int32.reduceToInt] at q
    omega
  have a0 := c_iadd w_length_a1 1
  rw [← hf18_19] at a0
  simp only [Int32.reduceToInt] at a0
  have r0 := rng32 f18_19
  have t0 : f18_19.toInt = w_length_a1.toInt + 1 := by omega
  have s0 : f18_19.toNatClampNeg = w_length_a1.toNatClampNeg + 1 := by rw [hf18_19]; exact own_suc w_length_a1 nb (by rw [Int32.lt_iff_toInt_lt]; simp only [Int32.reduceToInt]; omega)
  have n0 : ¬ f18_19 < 0 := by
    rw [Int32.lt_iff_toInt_lt]
    simp only [Int32.reduceToInt]
    omega
  have a1 := c_iadd f18_19 1
  rw [← hf18_41] at a1
  simp only [Int32.reduceToInt] at a1
  have r1 := rng32 f18_41
  have t1 : f18_41.toInt = f18_19.toInt + 1 := by omega
  have s1 : f18_41.toNatClampNeg = f18_19.toNatClampNeg + 1 := by rw [hf18_41]; exact own_suc f18_19 n0 (by rw [Int32.lt_iff_toInt_lt]; simp only [Int32.reduceToInt]; omega)
  have n1 : ¬ f18_41 < 0 := by
    rw [Int32.lt_iff_toInt_lt]
    simp only [Int32.reduceToInt]
    omega
  have a2 := c_iadd f18_41 1
  rw [← hf18_63] at a2
  simp only [Int32.reduceToInt] at a2
  have r2 := rng32 f18_63
  have t2 : f18_63.toInt = f18_41.toInt + 1 := by omega
  have s2 : f18_63.toNatClampNeg = f18_41.toNatClampNeg + 1 := by rw [hf18_63]; exact own_suc f18_41 n1 (by rw [Int32.lt_iff_toInt_lt]; simp only [Int32.reduceToInt]; omega)
  have n2 : ¬ f18_63 < 0 := by
    rw [Int32.lt_iff_toInt_lt]
    simp only [Int32.reduceToInt]
    omega
  have a3 := c_iadd f18_63 1
  rw [← hf18_85] at a3
  simp only [Int32.reduceToInt] at a3
  have r3 := rng32 f18_85
  have t3 : f18_85.toInt = f18_63.toInt + 1 := by omega
  have s3 : f18_85.toNatClampNeg = f18_63.toNatClampNeg + 1 := by rw [hf18_85]; exact own_suc f18_63 n2 (by rw [Int32.lt_iff_toInt_lt]; simp only [Int32.reduceToInt]; omega)
  have n3 : ¬ f18_85 < 0 := by
    rw [Int32.lt_iff_toInt_lt]
    simp only [Int32.reduceToInt]
    omega
  rw [hvl18_84, hvl18_62, hvl18_40, hvl18_18]
  simp only [List.length_append, List.length_cons, List.length_nil]
  have e := hvl
  omega
def own_F (w_length_a1 : Int32) (p2 : Int32) : Int32 := (if p2 < (128 : Int32) then (((w_length_a1 + (1 : Int32)))) else (if (((p2.toUInt32 >>> ((7 : Int32) &&& 31).toUInt32).toInt32)) < (128 : Int32) then ((((((w_length_a1 + (1 : Int32)))) + (1 : Int32)))) else (if ((((((p2.toUInt32 >>> ((7 : Int32) &&& 31).toUInt32).toInt32)).toUInt32 >>> ((7 : Int32) &&& 31).toUInt32).toInt32)) < (128 : Int32) then (((((((((w_length_a1 + (1 : Int32)))) + (1 : Int32)))) + (1 : Int32)))) else (if (((((((((p2.toUInt32 >>> ((7 : Int32) &&& 31).toUInt32).toInt32)).toUInt32 >>> ((7 : Int32) &&& 31).toUInt32).toInt32)).toUInt32 >>> ((7 : Int32) &&& 31).toUInt32).toInt32)) < (128 : Int32) then ((((((((((((w_length_a1 + (1 : Int32)))) + (1 : Int32)))) + (1 : Int32)))) + (1 : Int32)))) else (((((((((((((((w_length_a1 + (1 : Int32)))) + (1 : Int32)))) + (1 : Int32)))) + (1 : Int32)))) + (1 : Int32))))))))
theorem own_F_eq (w_length_a1 : Int32) (p2 : Int32) : own_F w_length_a1 p2 = (if p2 < (128 : Int32) then (((w_length_a1 + (1 : Int32)))) else (if (((p2.toUInt32 >>> ((7 : Int32) &&& 31).toUInt32).toInt32)) < (128 : Int32) then ((((((w_length_a1 + (1 : Int32)))) + (1 : Int32)))) else (if ((((((p2.toUInt32 >>> ((7 : Int32) &&& 31).toUInt32).toInt32)).toUInt32 >>> ((7 : Int32) &&& 31).toUInt32).toInt32)) < (128 : Int32) then (((((((((w_length_a1 + (1 : Int32)))) + (1 : Int32)))) + (1 : Int32)))) else (if (((((((((p2.toUInt32 >>> ((7 : Int32) &&& 31).toUInt32).toInt32)).toUInt32 >>> ((7 : Int32) &&& 31).toUInt32).toInt32)).toUInt32 >>> ((7 : Int32) &&& 31).toUInt32).toInt32)) < (128 : Int32) then ((((((((((((w_length_a1 + (1 : Int32)))) + (1 : Int32)))) + (1 : Int32)))) + (1 : Int32)))) else (((((((((((((((w_length_a1 + (1 : Int32)))) + (1 : Int32)))) + (1 : Int32)))) + (1 : Int32)))) + (1 : Int32)))))))) := rfl
def own_E (vs : List Value) (p2 : Int32) : List Value := (if p2 < (128 : Int32) then ((vs ++ [(.int (nar .byte ((p2.toInt8.toInt32))))])) else (if (((p2.toUInt32 >>> ((7 : Int32) &&& 31).toUInt32).toInt32)) < (128 : Int32) then ((((vs ++ [(.int (nar .byte (((((p2 &&& (127 : Int32)) ||| (128 : Int32))).toInt8.toInt32))))])) ++ [(.int (nar .byte (((((p2.toUInt32 >>> ((7 : Int32) &&& 31).toUInt32).toInt32)).toInt8.toInt32))))])) else (if ((((((p2.toUInt32 >>> ((7 : Int32) &&& 31).toUInt32).toInt32)).toUInt32 >>> ((7 : Int32) &&& 31).toUInt32).toInt32)) < (128 : Int32) then ((((((vs ++ [(.int (nar .byte (((((p2 &&& (127 : Int32)) ||| (128 : Int32))).toInt8.toInt32))))])) ++ [(.int (nar .byte ((((((((p2.toUInt32 >>> ((7 : Int32) &&& 31).toUInt32).toInt32)) &&& (127 : Int32)) ||| (128 : Int32))).toInt8.toInt32))))])) ++ [(.int (nar .byte ((((((((p2.toUInt32 >>> ((7 : Int32) &&& 31).toUInt32).toInt32)).toUInt32 >>> ((7 : Int32) &&& 31).toUInt32).toInt32)).toInt8.toInt32))))])) else (if (((((((((p2.toUInt32 >>> ((7 : Int32) &&& 31).toUInt32).toInt32)).toUInt32 >>> ((7 : Int32) &&& 31).toUInt32).toInt32)).toUInt32 >>> ((7 : Int32) &&& 31).toUInt32).toInt32)) < (128 : Int32) then ((((((((vs ++ [(.int (nar .byte (((((p2 &&& (127 : Int32)) ||| (128 : Int32))).toInt8.toInt32))))])) ++ [(.int (nar .byte ((((((((p2.toUInt32 >>> ((7 : Int32) &&& 31).toUInt32).toInt32)) &&& (127 : Int32)) ||| (128 : Int32))).toInt8.toInt32))))])) ++ [(.int (nar .byte (((((((((((p2.toUInt32 >>> ((7 : Int32) &&& 31).toUInt32).toInt32)).toUInt32 >>> ((7 : Int32) &&& 31).toUInt32).toInt32)) &&& (127 : Int32)) ||| (128 : Int32))).toInt8.toInt32))))])) ++ [(.int (nar .byte (((((((((((p2.toUInt32 >>> ((7 : Int32) &&& 31).toUInt32).toInt32)).toUInt32 >>> ((7 : Int32) &&& 31).toUInt32).toInt32)).toUInt32 >>> ((7 : Int32) &&& 31).toUInt32).toInt32)).toInt8.toInt32))))])) else ((((((((((vs ++ [(.int (nar .byte (((((p2 &&& (127 : Int32)) ||| (128 : Int32))).toInt8.toInt32))))])) ++ [(.int (nar .byte ((((((((p2.toUInt32 >>> ((7 : Int32) &&& 31).toUInt32).toInt32)) &&& (127 : Int32)) ||| (128 : Int32))).toInt8.toInt32))))])) ++ [(.int (nar .byte (((((((((((p2.toUInt32 >>> ((7 : Int32) &&& 31).toUInt32).toInt32)).toUInt32 >>> ((7 : Int32) &&& 31).toUInt32).toInt32)) &&& (127 : Int32)) ||| (128 : Int32))).toInt8.toInt32))))])) ++ [(.int (nar .byte ((((((((((((((p2.toUInt32 >>> ((7 : Int32) &&& 31).toUInt32).toInt32)).toUInt32 >>> ((7 : Int32) &&& 31).toUInt32).toInt32)).toUInt32 >>> ((7 : Int32) &&& 31).toUInt32).toInt32)) &&& (127 : Int32)) ||| (128 : Int32))).toInt8.toInt32))))])) ++ [(.int (nar .byte ((((((((((((((p2.toUInt32 >>> ((7 : Int32) &&& 31).toUInt32).toInt32)).toUInt32 >>> ((7 : Int32) &&& 31).toUInt32).toInt32)).toUInt32 >>> ((7 : Int32) &&& 31).toUInt32).toInt32)).toUInt32 >>> ((7 : Int32) &&& 31).toUInt32).toInt32)).toInt8.toInt32))))]))))))
theorem own_E_eq (vs : List Value) (p2 : Int32) : own_E vs p2 = (if p2 < (128 : Int32) then ((vs ++ [(.int (nar .byte ((p2.toInt8.toInt32))))])) else (if (((p2.toUInt32 >>> ((7 : Int32) &&& 31).toUInt32).toInt32)) < (128 : Int32) then ((((vs ++ [(.int (nar .byte (((((p2 &&& (127 : Int32)) ||| (128 : Int32))).toInt8.toInt32))))])) ++ [(.int (nar .byte (((((p2.toUInt32 >>> ((7 : Int32) &&& 31).toUInt32).toInt32)).toInt8.toInt32))))])) else (if ((((((p2.toUInt32 >>> ((7 : Int32) &&& 31).toUInt32).toInt32)).toUInt32 >>> ((7 : Int32) &&& 31).toUInt32).toInt32)) < (128 : Int32) then ((((((vs ++ [(.int (nar .byte (((((p2 &&& (127 : Int32)) ||| (128 : Int32))).toInt8.toInt32))))])) ++ [(.int (nar .byte ((((((((p2.toUInt32 >>> ((7 : Int32) &&& 31).toUInt32).toInt32)) &&& (127 : Int32)) ||| (128 : Int32))).toInt8.toInt32))))])) ++ [(.int (nar .byte ((((((((p2.toUInt32 >>> ((7 : Int32) &&& 31).toUInt32).toInt32)).toUInt32 >>> ((7 : Int32) &&& 31).toUInt32).toInt32)).toInt8.toInt32))))])) else (if (((((((((p2.toUInt32 >>> ((7 : Int32) &&& 31).toUInt32).toInt32)).toUInt32 >>> ((7 : Int32) &&& 31).toUInt32).toInt32)).toUInt32 >>> ((7 : Int32) &&& 31).toUInt32).toInt32)) < (128 : Int32) then ((((((((vs ++ [(.int (nar .byte (((((p2 &&& (127 : Int32)) ||| (128 : Int32))).toInt8.toInt32))))])) ++ [(.int (nar .byte ((((((((p2.toUInt32 >>> ((7 : Int32) &&& 31).toUInt32).toInt32)) &&& (127 : Int32)) ||| (128 : Int32))).toInt8.toInt32))))])) ++ [(.int (nar .byte (((((((((((p2.toUInt32 >>> ((7 : Int32) &&& 31).toUInt32).toInt32)).toUInt32 >>> ((7 : Int32) &&& 31).toUInt32).toInt32)) &&& (127 : Int32)) ||| (128 : Int32))).toInt8.toInt32))))])) ++ [(.int (nar .byte (((((((((((p2.toUInt32 >>> ((7 : Int32) &&& 31).toUInt32).toInt32)).toUInt32 >>> ((7 : Int32) &&& 31).toUInt32).toInt32)).toUInt32 >>> ((7 : Int32) &&& 31).toUInt32).toInt32)).toInt8.toInt32))))])) else ((((((((((vs ++ [(.int (nar .byte (((((p2 &&& (127 : Int32)) ||| (128 : Int32))).toInt8.toInt32))))])) ++ [(.int (nar .byte ((((((((p2.toUInt32 >>> ((7 : Int32) &&& 31).toUInt32).toInt32)) &&& (127 : Int32)) ||| (128 : Int32))).toInt8.toInt32))))])) ++ [(.int (nar .byte (((((((((((p2.toUInt32 >>> ((7 : Int32) &&& 31).toUInt32).toInt32)).toUInt32 >>> ((7 : Int32) &&& 31).toUInt32).toInt32)) &&& (127 : Int32)) ||| (128 : Int32))).toInt8.toInt32))))])) ++ [(.int (nar .byte ((((((((((((((p2.toUInt32 >>> ((7 : Int32) &&& 31).toUInt32).toInt32)).toUInt32 >>> ((7 : Int32) &&& 31).toUInt32).toInt32)).toUInt32 >>> ((7 : Int32) &&& 31).toUInt32).toInt32)) &&& (127 : Int32)) ||| (128 : Int32))).toInt8.toInt32))))])) ++ [(.int (nar .byte ((((((((((((((p2.toUInt32 >>> ((7 : Int32) &&& 31).toUInt32).toInt32)).toUInt32 >>> ((7 : Int32) &&& 31).toUInt32).toInt32)).toUInt32 >>> ((7 : Int32) &&& 31).toUInt32).toInt32)).toUInt32 >>> ((7 : Int32) &&& 31).toUInt32).toInt32)).toInt8.toInt32))))])))))) := rfl
def Q6n (Z : State) (a1 : Addr) (p2 : Int32) (kx_w_pieces_a1 : ClassId) (bk : Addr) (kx_bk : ClassId) (vs : List Value) (w_pieces_a1 : Addr) (w_length_a1 : Int32) (h0 : Heap) (n0 : Nat) (v : Option Value) (h : Heap) (L : List Loc) : Prop := v = none ∧ Fr n0 L ∧ Keep h0 h [a1, bk] ∧ Exa Z h a1 "com/example/outcomery/outcomery/PackedNumbers" ∧ Fld Z h a1 "com/example/outcomery/outcomery/PackedNumbers" "length" "I" (.int (own_F w_length_a1 p2)) ∧ Fld Z h a1 "com/example/outcomery/outcomery/PackedNumbers" "pieces" "[[B" (.ref w_pieces_a1) ∧ Arv Z h bk kx_bk .byte (64 : Int32) (own_E vs p2) (.int (0 : Int32))
set_option maxRecDepth 65536 in
set_option maxHeartbeats 40000000 in
theorem rm6n (l : Launch) (Z : State) (a0 : Array Value) (hw : ∀ d ∈ tables_1, d.before a0 Z = true) (ws : List Jvm.Cond) (a1 : Addr) (p2 : Int32) (kx_w_pieces_a1 : ClassId) (bk : Addr) (kx_bk : ClassId) (vs : List Value) (w_pieces_a1 : Addr) (w_length_a1 : Int32) (h0 : Heap) (n0 : Nat) (Z0 : n0 ≤ h0.size) (V_w_pieces_a1 : Arv Z h0 w_pieces_a1 kx_w_pieces_a1 (.array .byte) (1 : Int32) [(.ref bk)] .null) (O_w_pieces_a1 : OvrA Z kx_w_pieces_a1 .byte "[B") (V_bk : Arv Z h0 bk kx_bk .byte (64 : Int32) vs (.int (0 : Int32))) (F_pieces_a1 : Fld Z h0 a1 "com/example/outcomery/outcomery/PackedNumbers" "pieces" "[[B" (.ref w_pieces_a1)) (F_length_a1 : Fld Z h0 a1 "com/example/outcomery/outcomery/PackedNumbers" "length" "I" (.int w_length_a1)) (hp0 : ¬ p2 < 0) (hw0 : ¬ w_length_a1 < 0) (hw1 : w_length_a1 < 58) (hvl : vs.length = w_length_a1.toNatClampNeg) (g_bk : n0 ≤ bk) (ne_a1_bk : a1 ≠ bk) (E_a1 : Exa Z h0 a1 "com/example/outcomery/outcomery/PackedNumbers") (g_a1 : n0 ≤ a1) (ne_a1_w_pieces_a1 : a1 ≠ w_pieces_a1) (ne_bk_w_pieces_a1 : bk ≠ w_pieces_a1) :
    MetFree l (⟨"com/example/outcomery/outcomery/PackedNumbers", "add", "(I)V"⟩ : MethodName) (head1 (Jvm.Cond.code (⟨"com/example/outcomery/outcomery/PackedNumbers", "add", "(I)V"⟩ : MethodName) prog_23_method_2_code 3 none :: ws) ({ frames := 1, cells := 0, slots := 0, locals := 16 } : Room)) (fun a U => a = #[(.ref a1), (.int p2)] ∧ Z.Warmed39 U.vm ∧ U.heap = h0) (fun _ _ _ _ _ => True) (fun _ U o U' => ∃ v L, o = .returned v ∧ Q6n Z a1 p2 kx_w_pieces_a1 bk kx_bk vs w_pieces_a1 w_length_a1 h0 n0 v U'.heap L ∧ FrameEnd U o U' L ({ frames := 1, cells := 0, slots := 0, locals := 16 } : Room).cells ({ frames := 1, cells := 0, slots := 0, locals := 16 } : Room).slots) := by
  refine MetFree.of_bodySF (plainFor_of_name pn_6) hisR ?_
  intro p e s m args below meth c s₁ Bd hml0 hP hK
  obtain ⟨rfl, hZ, hh⟩ := hP
  have hx := Bd.exec
  have hby := Bd.bytes
  have hml : c.maxLocals = 3 := hml0
  have hown : s.vm.findClass "com/example/outcomery/outcomery/PackedNumbers" = some m.cls := findClass_of_methodNamed Bd.named
  have hnm := (name_of_methodNamed Bd.named Bd.method).1
  have X0 : Stand p l e ({ frames := 1, cells := 0, slots := 0, locals := 16 } : Room) s m #[(.ref a1), (.int p2)] below meth c s₁ [] 0 0 := Stand.of_body Bd
  have e0 : s₁.heap = h0 := by rw [← hh, Bd.state]; rfl
  have N0 := Fr.nil n0
  have K0 : Keep h0 h0 [a1, bk] := Keep.refl h0 _
  refine (show Gl p e below (fun o U' => ∃ v L, o = .returned v ∧ Q6n Z a1 p2 kx_w_pieces_a1 bk kx_bk vs w_pieces_a1 w_length_a1 h0 n0 v U'.heap L ∧ FrameEnd s o U' L ({ frames := 1, cells := 0, slots := 0, locals := 16 } : Room).cells ({ frames := 1, cells := 0, slots := 0, locals := 16 } : Room).slots) (s₁.setTop (entryFrame m #[(.ref a1), (.int p2)] 3)) from ?_)
  obtain ⟨L0, hL0⟩ : ∃ z : Array Slot, z = #[.val (.ref a1), .val (.int p2), .unset] := ⟨_, rfl⟩
  refine Gl.st (B := (s₁.setTop (mkF m 0 L0 []))) (fun t k => castTop (efAt hL0 (ef_6n m a1 p2)) k) ?_
  refine Gl.st (B := (s₁.setTop (mkF m 1 L0 [(.int p2)]))) (fun t k => XS.iloadN X0.here hx rfl (hb hby d6_0) (ldAt hL0 rfl) k) ?_
  obtain ⟨L1, hL1⟩ : ∃ z : Array Slot, z = #[.val (.ref a1), .val (.int p2), .val (.int p2)] := ⟨_, rfl⟩
  refine Gl.st (B := (s₁.setTop (mkF m 2 L1 []))) (fun t k => XS.istoreN X0.here hx rfl (hb hby d6_1) rfl (l' := L1) (stAt hL0 hL1 rfl rfl) k) ?_
  refine Gl.st (B := (s₁.setTop (mkF m 3 L1 [(.int p2)]))) (fun t k => XS.iloadN X0.here hx rfl (hb hby d6_2) (ldAt hL1 rfl) k) ?_
  refine Gl.st (B := (s₁.setTop (mkF m 6 L1 [(.int (128 : Int32)), (.int p2)]))) (fun t k => XS.sipush X0.here hx rfl (hb hby d6_3) k) ?_
  by_cases hc6_2 : p2 < (128 : Int32)
  · skip
    refine Gl.st (B := (s₁.setTop (mkF m 29 L1 []))) (fun t k => XS.icmpYes X0.here hx rfl (pc0 := 6) (pc' := 29) rfl (hb hby d6_6) rfl (tlt hc6_2).1 (by decide) (by decide) k) ?_
    refine Gl.st (B := (s₁.setTop (mkF m 30 L1 [(.ref a1)]))) (fun t k => XS.aloadN X0.here hx rfl (hb hby d6_29) (ldAt hL1 rfl) rfl k) ?_
    refine Gl.st (B := (s₁.setTop (mkF m 31 L1 [(.int p2), (.ref a1)]))) (fun t k => XS.iloadN X0.here hx rfl (hb hby d6_30) (ldAt hL1 rfl) k) ?_
    have hp31_4 : ¬ w_length_a1 < 0 := own_6n_hp31_4 w_length_a1 vs  hw0 hw1 hvl
    have hp31_5 : w_length_a1 < 63 := own_6n_hp31_5 w_length_a1 vs  hw0 hw1 hvl
    have hp31_6 : vs.length = w_length_a1.toNatClampNeg := by
      exact hvl
    obtain ⟨cq3, q3, q3'⟩ := E_a1.cell
    obtain ⟨_, _, ⟨T3, L3q, k3, n3⟩, -, X3, ⟨Lc3, hQ3, l3, y3, z3⟩, st3⟩ := X0.privateBack hx (y := (⟨"com/example/outcomery/outcomery/PackedNumbers", "put", "(I)V"⟩ : MethodName)) hown (mvT hZ (tw hw 41 rfl)) (mvT hZ (tw hw 42 rfl)) (own_selp (mvT hZ (tw hw 2 rfl)) (mvP hZ (tw hw 43 rfl)) (mvT hZ (tw hw 42 rfl)) (by decide)) (Cond.privateMethod_at (mvP hZ (tw hw 43 rfl) (args := #[]))) (mvT hZ (tw hw 44 rfl)) (by decide) (backOf (W := 0) (rm7n l Z a0 hw [] a1 p2 kx_w_pieces_a1 bk kx_bk vs w_pieces_a1 w_length_a1 h0 n0 Z0 V_w_pieces_a1 O_w_pieces_a1 V_bk F_pieces_a1 F_length_a1 hp31_4 hp31_5 hp31_6 g_bk ne_a1_bk E_a1 g_a1) hZ (tw hw 44 rfl) (tw hw 3 rfl) (by decide) (by decide)) (g := (mkF m 31 L1 [(.int p2), (.ref a1)])) rfl (szAt hml hL1 rfl) (Steps.refl _) (a := a1) (by rw [e0]; exact q3) q3' (argsL := [(.int p2)]) (rest := []) (lenOf pd_6n_0 rfl) rfl (by show 2 * 0 + _ ≤ _; exact Nat.le_of_eq rfl) (hb hby d6_31) (fun _ _ => ⟨rfl, e0, (by decide : 0 + 0 ≤ _), (by decide : 0 + 0 ≤ _)⟩)
    dsimp only [Pt.U, Pt.locs, Pt.cells, Pt.slots] at X3 l3 y3 z3 st3 hQ3
    subst l3 y3 z3
    obtain ⟨rfl, N3q, Kc3, fq3_0, fq3_1, fq3_2, fq3_3⟩ := hQ3
    have Zc7 : n0 ≤ T3.heap.size := Nat.le_trans Z0 Kc3.1
    have K8 : Keep h0 T3.heap [a1, bk] := K0.trans Kc3 (allS (Or.inl (List.mem_of_getElem? (i := 1) rfl)) (allS (Or.inl (List.mem_of_getElem? (i := 0) rfl)) all0))
    obtain ⟨vl31_9, hvl31_9⟩ : ∃ z : List Value, z = (vs ++ [(.int (nar .byte ((p2.toInt8.toInt32))))]) := ⟨_, rfl⟩
    rw [← hvl31_9] at fq3_0
    obtain ⟨f31_10, hf31_10⟩ : ∃ z : Int32, z = ((w_length_a1 + (1 : Int32))) := ⟨_, rfl⟩
    rw [← hf31_10] at fq3_2
    have N3 := Fr.app N0 N3q
    refine Gl.st (B := (T3.setTop (mkF m 34 L1 []))) (fun t k => st3.trans k) ?_
    obtain ⟨fs, hr, hrun, hended, hW, hsame⟩ := X3.leave (v := none) (fun _ => rfl)
    refine Gl.fin (X3.returnOut hx Bd.returns (hb hby d6_34) hr) hrun hended ⟨_, _, rfl, ?_, ⟨_, rfl⟩, hW, hsame.mono (by decide) (by decide)⟩
    show Q6n Z a1 p2 kx_w_pieces_a1 bk kx_bk vs w_pieces_a1 w_length_a1 h0 n0 _ T3.heap _
    exact ⟨rfl, N3, K8, fq3_1, (by subst hf31_10; rw [own_F_eq, if_pos hc6_2]; exact fq3_2), fq3_3, (by subst hvl31_9; rw [own_E_eq, if_pos hc6_2]; exact fq3_0)⟩
  · skip
    refine Gl.st (B := (s₁.setTop (mkF m 9 L1 []))) (fun t k => XS.icmpNo X0.here hx rfl (hb hby d6_6) rfl (flt hc6_2).1 k) ?_
    refine Gl.st (B := (s₁.setTop (mkF m 10 L1 [(.ref a1)]))) (fun t k => XS.aloadN X0.here hx rfl (hb hby d6_9) (ldAt hL1 rfl) rfl k) ?_
    refine Gl.st (B := (s₁.setTop (mkF m 11 L1 [(.int p2), (.ref a1)]))) (fun t k => XS.iloadN X0.here hx rfl (hb hby d6_10) (ldAt hL1 rfl) k) ?_
    refine Gl.st (B := (s₁.setTop (mkF m 13 L1 [(.int (127 : Int32)), (.int p2), (.ref a1)]))) (fun t k => XS.bipush X0.here hx rfl (hb hby d6_11) k) ?_
    refine Gl.st (B := (s₁.setTop (mkF m 14 L1 [(.int (p2 &&& (127 : Int32))), (.ref a1)]))) (fun t k => XS.iand X0.here hx rfl (hb hby d6_13) rfl k) ?_
    refine Gl.st (B := (s₁.setTop (mkF m 17 L1 [(.int (128 : Int32)), (.int (p2 &&& (127 : Int32))), (.ref a1)]))) (fun t k => XS.sipush X0.here hx rfl (hb hby d6_14) k) ?_
    refine Gl.st (B := (s₁.setTop (mkF m 18 L1 [(.int ((p2 &&& (127 : Int32)) ||| (128 : Int32))), (.ref a1)]))) (fun t k => XS.ior X0.here hx rfl (hb hby d6_17) rfl k) ?_
    obtain ⟨x18_11, hx18_11⟩ : ∃ z : Int32, z = ((p2 &&& (127 : Int32)) ||| (128 : Int32)) := ⟨_, rfl⟩
    refine Gl.cast (B := (s₁.setTop (mkF m 18 L1 [(.int x18_11), (.ref a1)]))) (by rw [hx18_11]) ?_
    have hp18_13 : ¬ w_length_a1 < 0 := own_6n_hp18_13 w_length_a1 vs  hw0 hw1 hvl
    have hp18_14 : w_length_a1 < 63 := own_6n_hp18_14 w_length_a1 vs  hw0 hw1 hvl
    have hp18_15 : vs.length = w_length_a1.toNatClampNeg := by
      exact hvl
    obtain ⟨cq12, q12, q12'⟩ := E_a1.cell
    obtain ⟨_, _, ⟨T12, L12q, k12, n12⟩, -, X12, ⟨Lc12, hQ12, l12, y12, z12⟩, st12⟩ := X0.privateBack hx (y := (⟨"com/example/outcomery/outcomery/PackedNumbers", "put", "(I)V"⟩ : MethodName)) hown (mvT hZ (tw hw 41 rfl)) (mvT hZ (tw hw 42 rfl)) (own_selp (mvT hZ (tw hw 2 rfl)) (mvP hZ (tw hw 43 rfl)) (mvT hZ (tw hw 42 rfl)) (by decide)) (Cond.privateMethod_at (mvP hZ (tw hw 43 rfl) (args := #[]))) (mvT hZ (tw hw 44 rfl)) (by decide) (backOf (W := 0) (rm7n l Z a0 hw [] a1 x18_11 kx_w_pieces_a1 bk kx_bk vs w_pieces_a1 w_length_a1 h0 n0 Z0 V_w_pieces_a1 O_w_pieces_a1 V_bk F_pieces_a1 F_length_a1 hp18_13 hp18_14 hp18_15 g_bk ne_a1_bk E_a1 g_a1) hZ (tw hw 44 rfl) (tw hw 3 rfl) (by decide) (by decide)) (g := (mkF m 18 L1 [(.int x18_11), (.ref a1)])) rfl (szAt hml hL1 rfl) (Steps.refl _) (a := a1) (by rw [e0]; exact q12) q12' (argsL := [(.int x18_11)]) (rest := []) (lenOf pd_6n_0 rfl) rfl (by show 2 * 0 + _ ≤ _; exact Nat.le_of_eq rfl) (hb hby d6_18) (fun _ _ => ⟨rfl, e0, (by decide : 0 + 0 ≤ _), (by decide : 0 + 0 ≤ _)⟩)
    dsimp only [Pt.U, Pt.locs, Pt.cells, Pt.slots] at X12 l12 y12 z12 st12 hQ12
    subst l12 y12 z12
    obtain ⟨rfl, N12q, Kc12, fq12_0, fq12_1, fq12_2, fq12_3⟩ := hQ12
    have Zc16 : n0 ≤ T12.heap.size := Nat.le_trans Z0 Kc12.1
    have K17 : Keep h0 T12.heap [a1, bk] := K0.trans Kc12 (allS (Or.inl (List.mem_of_getElem? (i := 1) rfl)) (allS (Or.inl (List.mem_of_getElem? (i := 0) rfl)) all0))
    obtain ⟨vl18_18, hvl18_18⟩ : ∃ z : List Value, z = (vs ++ [(.int (nar .byte ((x18_11.toInt8.toInt32))))]) := ⟨_, rfl⟩
    rw [← hvl18_18] at fq12_0
    obtain ⟨f18_19, hf18_19⟩ : ∃ z : Int32, z = ((w_length_a1 + (1 : Int32))) := ⟨_, rfl⟩
    rw [← hf18_19] at fq12_2
    have N12 := Fr.app N0 N12q
    refine Gl.st (B := (T12.setTop (mkF m 21 L1 []))) (fun t k => st12.trans k) ?_
    refine Gl.st (B := (T12.setTop (mkF m 22 L1 [(.int p2)]))) (fun t k => XS.iloadN X12.here hx rfl (hb hby d6_21) (ldAt hL1 rfl) k) ?_
    refine Gl.st (B := (T12.setTop (mkF m 24 L1 [(.int (7 : Int32)), (.int p2)]))) (fun t k => XS.bipush X12.here hx rfl (hb hby d6_22) k) ?_
    refine Gl.st (B := (T12.setTop (mkF m 25 L1 [(.int ((p2.toUInt32 >>> ((7 : Int32) &&& 31).toUInt32).toInt32))]))) (fun t k => XS.iushr X12.here hx rfl (hb hby d6_24) rfl k) ?_
    obtain ⟨y2_25_20, hy2_25_20⟩ : ∃ z : Int32, z = ((p2.toUInt32 >>> ((7 : Int32) &&& 31).toUInt32).toInt32) := ⟨_, rfl⟩
    refine Gl.cast (B := (T12.setTop (mkF m 25 L1 [(.int y2_25_20)]))) (by rw [hy2_25_20]) ?_
    obtain ⟨L21, hL21⟩ : ∃ z : Array Slot, z = #[.val (.ref a1), .val (.int p2), .val (.int y2_25_20)] := ⟨_, rfl⟩
    refine Gl.st (B := (T12.setTop (mkF m 26 L21 []))) (fun t k => XS.istoreN X12.here hx rfl (hb hby d6_25) rfl (l' := L21) (stAt hL1 hL21 rfl rfl) k) ?_
    refine Gl.st (B := (T12.setTop (mkF m 2 L21 []))) (fun t k => XS.goto X12.here hx rfl (pc0 := 26) (pc' := 2) rfl (hb hby d6_26) (by decide) (by decide) k) ?_
    refine Gl.st (B := (T12.setTop (mkF m 3 L21 [(.int y2_25_20)]))) (fun t k => XS.iloadN X12.here hx rfl (hb hby d6_2) (ldAt hL21 rfl) k) ?_
    refine Gl.st (B := (T12.setTop (mkF m 6 L21 [(.int (128 : Int32)), (.int y2_25_20)]))) (fun t k => XS.sipush X12.here hx rfl (hb hby d6_3) k) ?_
    by_cases hc6_22 : y2_25_20 < (128 : Int32)
    · skip
      refine Gl.st (B := (T12.setTop (mkF m 29 L21 []))) (fun t k => XS.icmpYes X12.here hx rfl (pc0 := 6) (pc' := 29) rfl (hb hby d6_6) rfl (tlt hc6_22).1 (by decide) (by decide) k) ?_
      refine Gl.st (B := (T12.setTop (mkF m 30 L21 [(.ref a1)]))) (fun t k => XS.aloadN X12.here hx rfl (hb hby d6_29) (ldAt hL21 rfl) rfl k) ?_
      refine Gl.st (B := (T12.setTop (mkF m 31 L21 [(.int y2_25_20), (.ref a1)]))) (fun t k => XS.iloadN X12.here hx rfl (hb hby d6_30) (ldAt hL21 rfl) k) ?_
      have c24 := (V_w_pieces_a1.keep Kc12 (ninS (Ne.symm ne_bk_w_pieces_a1) (ninS (Ne.symm ne_a1_w_pieces_a1) nin0)))
      have hp31_25 : ¬ f18_19 < 0 := own_6n_hp31_25 w_length_a1 f18_19 vs hf18_19 hw0 hw1 hvl
      have hp31_26 : f18_19 < 63 := own_6n_hp31_26 w_length_a1 f18_19 vs hf18_19 hw0 hw1 hvl
      have hp31_27 : vl18_18.length = f18_19.toNatClampNeg := own_6n_hp31_27 vs p2 x18_11 vl18_18 w_length_a1 f18_19 hx18_11 hvl18_18 hf18_19 hc6_2 hp0 hw0 hw1 hvl
      obtain ⟨cq23, q23, q23'⟩ := fq12_1.cell
      obtain ⟨_, _, ⟨T23, L23q, k23, n23⟩, -, X23, ⟨Lc23, hQ23, l23, y23, z23⟩, st23⟩ := X12.privateBack hx (y := (⟨"com/example/outcomery/outcomery/PackedNumbers", "put", "(I)V"⟩ : MethodName)) hown (mvT hZ (tw hw 41 rfl)) (mvT hZ (tw hw 42 rfl)) (own_selp (mvT hZ (tw hw 2 rfl)) (mvP hZ (tw hw 43 rfl)) (mvT hZ (tw hw 42 rfl)) (by decide)) (Cond.privateMethod_at (mvP hZ (tw hw 43 rfl) (args := #[]))) (mvT hZ (tw hw 44 rfl)) (by decide) (backOf (W := 0) (rm7n l Z a0 hw [] a1 y2_25_20 kx_w_pieces_a1 bk kx_bk vl18_18 w_pieces_a1 f18_19 T12.heap n0 Zc16 c24 O_w_pieces_a1 fq12_0 fq12_3 fq12_2 hp31_25 hp31_26 hp31_27 g_bk ne_a1_bk fq12_1 g_a1) hZ (tw hw 44 rfl) (tw hw 3 rfl) (by decide) (by decide)) (g := (mkF m 31 L21 [(.int y2_25_20), (.ref a1)])) rfl (szAt hml hL21 rfl) (Steps.refl _) (a := a1) q23 q23' (argsL := [(.int y2_25_20)]) (rest := []) (lenOf pd_6n_0 rfl) rfl (by show 2 * 0 + _ ≤ _; exact Nat.le_of_eq rfl) (hb hby d6_31) (fun _ _ => ⟨rfl, rfl, (by decide : 0 + 0 ≤ _), (by decide : 0 + 0 ≤ _)⟩)
      dsimp only [Pt.U, Pt.locs, Pt.cells, Pt.slots] at X23 l23 y23 z23 st23 hQ23
      subst l23 y23 z23
      obtain ⟨rfl, N23q, Kc23, fq23_0, fq23_1, fq23_2, fq23_3⟩ := hQ23
      have Zc28 : n0 ≤ T23.heap.size := Nat.le_trans Zc16 Kc23.1
      have K29 : Keep h0 T23.heap [a1, bk] := K17.trans Kc23 (allS (Or.inl (List.mem_of_getElem? (i := 1) rfl)) (allS (Or.inl (List.mem_of_getElem? (i := 0) rfl)) all0))
      obtain ⟨vl31_30, hvl31_30⟩ : ∃ z : List Value, z = (vl18_18 ++ [(.int (nar .byte ((y2_25_20.toInt8.toInt32))))]) := ⟨_, rfl⟩
      rw [← hvl31_30] at fq23_0
      obtain ⟨f31_31, hf31_31⟩ : ∃ z : Int32, z = ((f18_19 + (1 : Int32))) := ⟨_, rfl⟩
      rw [← hf31_31] at fq23_2
      have N23 := Fr.app N12 N23q
      refine Gl.st (B := (T23.setTop (mkF m 34 L21 []))) (fun t k => st23.trans k) ?_
      obtain ⟨fs, hr, hrun, hended, hW, hsame⟩ := X23.leave (v := none) (fun _ => rfl)
      refine Gl.fin (X23.returnOut hx Bd.returns (hb hby d6_34) hr) hrun hended ⟨_, _, rfl, ?_, ⟨_, rfl⟩, hW, hsame.mono (by decide) (by decide)⟩
      show Q6n Z a1 p2 kx_w_pieces_a1 bk kx_bk vs w_pieces_a1 w_length_a1 h0 n0 _ T23.heap _
      exact ⟨rfl, N23, K29, fq23_1, (by subst hf31_31; subst hf18_19; subst hy2_25_20; rw [own_F_eq, if_neg hc6_2, if_pos hc6_22]; exact fq23_2), fq23_3, (by subst hvl31_30; subst hvl18_18; subst hx18_11; subst hy2_25_20; rw [own_E_eq, if_neg hc6_2, if_pos hc6_22]; exact fq23_0)⟩
    · skip
      refine Gl.st (B := (T12.setTop (mkF m 9 L21 []))) (fun t k => XS.icmpNo X12.here hx rfl (hb hby d6_6) rfl (flt hc6_22).1 k) ?_
      refine Gl.st (B := (T12.setTop (mkF m 10 L21 [(.ref a1)]))) (fun t k => XS.aloadN X12.here hx rfl (hb hby d6_9) (ldAt hL21 rfl) rfl k) ?_
      refine Gl.st (B := (T12.setTop (mkF m 11 L21 [(.int y2_25_20), (.ref a1)]))) (fun t k => XS.iloadN X12.here hx rfl (hb hby d6_10) (ldAt hL21 rfl) k) ?_
      refine Gl.st (B := (T12.setTop (mkF m 13 L21 [(.int (127 : Int32)), (.int y2_25_20), (.ref a1)]))) (fun t k => XS.bipush X12.here hx rfl (hb hby d6_11) k) ?_
      refine Gl.st (B := (T12.setTop (mkF m 14 L21 [(.int (y2_25_20 &&& (127 : Int32))), (.ref a1)]))) (fun t k => XS.iand X12.here hx rfl (hb hby d6_13) rfl k) ?_
      refine Gl.st (B := (T12.setTop (mkF m 17 L21 [(.int (128 : Int32)), (.int (y2_25_20 &&& (127 : Int32))), (.ref a1)]))) (fun t k => XS.sipush X12.here hx rfl (hb hby d6_14) k) ?_
      refine Gl.st (B := (T12.setTop (mkF m 18 L21 [(.int ((y2_25_20 &&& (127 : Int32)) ||| (128 : Int32))), (.ref a1)]))) (fun t k => XS.ior X12.here hx rfl (hb hby d6_17) rfl k) ?_
      obtain ⟨x18_32, hx18_32⟩ : ∃ z : Int32, z = ((y2_25_20 &&& (127 : Int32)) ||| (128 : Int32)) := ⟨_, rfl⟩
      refine Gl.cast (B := (T12.setTop (mkF m 18 L21 [(.int x18_32), (.ref a1)]))) (by rw [hx18_32]) ?_
      have c34 := (V_w_pieces_a1.keep Kc12 (ninS (Ne.symm ne_bk_w_pieces_a1) (ninS (Ne.symm ne_a1_w_pieces_a1) nin0)))
      have hp18_35 : ¬ f18_19 < 0 := own_6n_hp18_35 w_length_a1 f18_19 vs hf18_19 hw0 hw1 hvl
      have hp18_36 : f18_19 < 63 := own_6n_hp18_36 w_length_a1 f18_19 vs hf18_19 hw0 hw1 hvl
      have hp18_37 : vl18_18.length = f18_19.toNatClampNeg := own_6n_hp18_37 vs p2 x18_11 vl18_18 w_length_a1 f18_19 hx18_11 hvl18_18 hf18_19 hc6_2 hp0 hw0 hw1 hvl
      obtain ⟨cq33, q33, q33'⟩ := fq12_1.cell
      obtain ⟨_, _, ⟨T33, L33q, k33, n33⟩, -, X33, ⟨Lc33, hQ33, l33, y33, z33⟩, st33⟩ := X12.privateBack hx (y := (⟨"com/example/outcomery/outcomery/PackedNumbers", "put", "(I)V"⟩ : MethodName)) hown (mvT hZ (tw hw 41 rfl)) (mvT hZ (tw hw 42 rfl)) (own_selp (mvT hZ (tw hw 2 rfl)) (mvP hZ (tw hw 43 rfl)) (mvT hZ (tw hw 42 rfl)) (by decide)) (Cond.privateMethod_at (mvP hZ (tw hw 43 rfl) (args := #[]))) (mvT hZ (tw hw 44 rfl)) (by decide) (backOf (W := 0) (rm7n l Z a0 hw [] a1 x18_32 kx_w_pieces_a1 bk kx_bk vl18_18 w_pieces_a1 f18_19 T12.heap n0 Zc16 c34 O_w_pieces_a1 fq12_0 fq12_3 fq12_2 hp18_35 hp18_36 hp18_37 g_bk ne_a1_bk fq12_1 g_a1) hZ (tw hw 44 rfl) (tw hw 3 rfl) (by decide) (by decide)) (g := (mkF m 18 L21 [(.int x18_32), (.ref a1)])) rfl (szAt hml hL21 rfl) (Steps.refl _) (a := a1) q33 q33' (argsL := [(.int x18_32)]) (rest := []) (lenOf pd_6n_0 rfl) rfl (by show 2 * 0 + _ ≤ _; exact Nat.le_of_eq rfl) (hb hby d6_18) (fun _ _ => ⟨rfl, rfl, (by decide : 0 + 0 ≤ _), (by decide : 0 + 0 ≤ _)⟩)
      dsimp only [Pt.U, Pt.locs, Pt.cells, Pt.slots] at X33 l33 y33 z33 st33 hQ33
      subst l33 y33 z33
      obtain ⟨rfl, N33q, Kc33, fq33_0, fq33_1, fq33_2, fq33_3⟩ := hQ33
      have Zc38 : n0 ≤ T33.heap.size := Nat.le_trans Zc16 Kc33.1
      have K39 : Keep h0 T33.heap [a1, bk] := K17.trans Kc33 (allS (Or.inl (List.mem_of_getElem? (i := 1) rfl)) (allS (Or.inl (List.mem_of_getElem? (i := 0) rfl)) all0))
      obtain ⟨vl18_40, hvl18_40⟩ : ∃ z : List Value, z = (vl18_18 ++ [(.int (nar .byte ((x18_32.toInt8.toInt32))))]) := ⟨_, rfl⟩
      rw [← hvl18_40] at fq33_0
      obtain ⟨f18_41, hf18_41⟩ : ∃ z : Int32, z = ((f18_19 + (1 : Int32))) := ⟨_, rfl⟩
      rw [← hf18_41] at fq33_2
      have N33 := Fr.app N12 N33q
      refine Gl.st (B := (T33.setTop (mkF m 21 L21 []))) (fun t k => st33.trans k) ?_
      refine Gl.st (B := (T33.setTop (mkF m 22 L21 [(.int y2_25_20)]))) (fun t k => XS.iloadN X33.here hx rfl (hb hby d6_21) (ldAt hL21 rfl) k) ?_
      refine Gl.st (B := (T33.setTop (mkF m 24 L21 [(.int (7 : Int32)), (.int y2_25_20)]))) (fun t k => XS.bipush X33.here hx rfl (hb hby d6_22) k) ?_
      refine Gl.st (B := (T33.setTop (mkF m 25 L21 [(.int ((y2_25_20.toUInt32 >>> ((7 : Int32) &&& 31).toUInt32).toInt32))]))) (fun t k => XS.iushr X33.here hx rfl (hb hby d6_24) rfl k) ?_
      obtain ⟨y2_25_42, hy2_25_42⟩ : ∃ z : Int32, z = ((y2_25_20.toUInt32 >>> ((7 : Int32) &&& 31).toUInt32).toInt32) := ⟨_, rfl⟩
      refine Gl.cast (B := (T33.setTop (mkF m 25 L21 [(.int y2_25_42)]))) (by rw [hy2_25_42]) ?_
      obtain ⟨L43, hL43⟩ : ∃ z : Array Slot, z = #[.val (.ref a1), .val (.int p2), .val (.int y2_25_42)] := ⟨_, rfl⟩
      refine Gl.st (B := (T33.setTop (mkF m 26 L43 []))) (fun t k => XS.istoreN X33.here hx rfl (hb hby d6_25) rfl (l' := L43) (stAt hL21 hL43 rfl rfl) k) ?_
      refine Gl.st (B := (T33.setTop (mkF m 2 L43 []))) (fun t k => XS.goto X33.here hx rfl (pc0 := 26) (pc' := 2) rfl (hb hby d6_26) (by decide) (by decide) k) ?_
      refine Gl.st (B := (T33.setTop (mkF m 3 L43 [(.int y2_25_42)]))) (fun t k => XS.iloadN X33.here hx rfl (hb hby d6_2) (ldAt hL43 rfl) k) ?_
      refine Gl.st (B := (T33.setTop (mkF m 6 L43 [(.int (128 : Int32)), (.int y2_25_42)]))) (fun t k => XS.sipush X33.here hx rfl (hb hby d6_3) k) ?_
      by_cases hc6_44 : y2_25_42 < (128 : Int32)
      · skip
        refine Gl.st (B := (T33.setTop (mkF m 29 L43 []))) (fun t k => XS.icmpYes X33.here hx rfl (pc0 := 6) (pc' := 29) rfl (hb hby d6_6) rfl (tlt hc6_44).1 (by decide) (by decide) k) ?_
        refine Gl.st (B := (T33.setTop (mkF m 30 L43 [(.ref a1)]))) (fun t k => XS.aloadN X33.here hx rfl (hb hby d6_29) (ldAt hL43 rfl) rfl k) ?_
        refine Gl.st (B := (T33.setTop (mkF m 31 L43 [(.int y2_25_42), (.ref a1)]))) (fun t k => XS.iloadN X33.here hx rfl (hb hby d6_30) (ldAt hL43 rfl) k) ?_
        have c46 := (c34.keep Kc33 (ninS (Ne.symm ne_bk_w_pieces_a1) (ninS (Ne.symm ne_a1_w_pieces_a1) nin0)))
        have hp31_47 : ¬ f18_41 < 0 := own_6n_hp31_47 w_length_a1 f18_19 f18_41 vs hf18_19 hf18_41 hw0 hw1 hvl
        have hp31_48 : f18_41 < 63 := own_6n_hp31_48 w_length_a1 f18_19 f18_41 vs hf18_19 hf18_41 hw0 hw1 hvl
        have hp31_49 : vl18_40.length = f18_41.toNatClampNeg := own_6n_hp31_49 vs p2 x18_11 vl18_18 y2_25_20 x18_32 vl18_40 w_length_a1 f18_19 f18_41 hx18_11 hvl18_18 hy2_25_20 hx18_32 hvl18_40 hf18_19 hf18_41 hc6_2 hc6_22 hp0 hw0 hw1 hvl
        obtain ⟨cq45, q45, q45'⟩ := fq33_1.cell
        obtain ⟨_, _, ⟨T45, L45q, k45, n45⟩, -, X45, ⟨Lc45, hQ45, l45, y45, z45⟩, st45⟩ := X33.privateBack hx (y := (⟨"com/example/outcomery/outcomery/PackedNumbers", "put", "(I)V"⟩ : MethodName)) hown (mvT hZ (tw hw 41 rfl)) (mvT hZ (tw hw 42 rfl)) (own_selp (mvT hZ (tw hw 2 rfl)) (mvP hZ (tw hw 43 rfl)) (mvT hZ (tw hw 42 rfl)) (by decide)) (Cond.privateMethod_at (mvP hZ (tw hw 43 rfl) (args := #[]))) (mvT hZ (tw hw 44 rfl)) (by decide) (backOf (W := 0) (rm7n l Z a0 hw [] a1 y2_25_42 kx_w_pieces_a1 bk kx_bk vl18_40 w_pieces_a1 f18_41 T33.heap n0 Zc38 c46 O_w_pieces_a1 fq33_0 fq33_3 fq33_2 hp31_47 hp31_48 hp31_49 g_bk ne_a1_bk fq33_1 g_a1) hZ (tw hw 44 rfl) (tw hw 3 rfl) (by decide) (by decide)) (g := (mkF m 31 L43 [(.int y2_25_42), (.ref a1)])) rfl (szAt hml hL43 rfl) (Steps.refl _) (a := a1) q45 q45' (argsL := [(.int y2_25_42)]) (rest := []) (lenOf pd_6n_0 rfl) rfl (by show 2 * 0 + _ ≤ _; exact Nat.le_of_eq rfl) (hb hby d6_31) (fun _ _ => ⟨rfl, rfl, (by decide : 0 + 0 ≤ _), (by decide : 0 + 0 ≤ _)⟩)
        dsimp only [Pt.U, Pt.locs, Pt.cells, Pt.slots] at X45 l45 y45 z45 st45 hQ45
        subst l45 y45 z45
        obtain ⟨rfl, N45q, Kc45, fq45_0, fq45_1, fq45_2, fq45_3⟩ := hQ45
        have Zc50 : n0 ≤ T45.heap.size := Nat.le_trans Zc38 Kc45.1
        have K51 : Keep h0 T45.heap [a1, bk] := K39.trans Kc45 (allS (Or.inl (List.mem_of_getElem? (i := 1) rfl)) (allS (Or.inl (List.mem_of_getElem? (i := 0) rfl)) all0))
        obtain ⟨vl31_52, hvl31_52⟩ : ∃ z : List Value, z = (vl18_40 ++ [(.int (nar .byte ((y2_25_42.toInt8.toInt32))))]) := ⟨_, rfl⟩
        rw [← hvl31_52] at fq45_0
        obtain ⟨f31_53, hf31_53⟩ : ∃ z : Int32, z = ((f18_41 + (1 : Int32))) := ⟨_, rfl⟩
        rw [← hf31_53] at fq45_2
        have N45 := Fr.app N33 N45q
        refine Gl.st (B := (T45.setTop (mkF m 34 L43 []))) (fun t k => st45.trans k) ?_
        obtain ⟨fs, hr, hrun, hended, hW, hsame⟩ := X45.leave (v := none) (fun _ => rfl)
        refine Gl.fin (X45.returnOut hx Bd.returns (hb hby d6_34) hr) hrun hended ⟨_, _, rfl, ?_, ⟨_, rfl⟩, hW, hsame.mono (by decide) (by decide)⟩
        show Q6n Z a1 p2 kx_w_pieces_a1 bk kx_bk vs w_pieces_a1 w_length_a1 h0 n0 _ T45.heap _
        exact ⟨rfl, N45, K51, fq45_1, (by subst hf31_53; subst hf18_41; subst hf18_19; subst hy2_25_20; subst hy2_25_42; rw [own_F_eq, if_neg hc6_2, if_neg hc6_22, if_pos hc6_44]; exact fq45_2), fq45_3, (by subst hvl31_52; subst hvl18_40; subst hvl18_18; subst hx18_11; subst hx18_32; subst hy2_25_20; subst hy2_25_42; rw [own_E_eq, if_neg hc6_2, if_neg hc6_22, if_pos hc6_44]; exact fq45_0)⟩
      · skip
        refine Gl.st (B := (T33.setTop (mkF m 9 L43 []))) (fun t k => XS.icmpNo X33.here hx rfl (hb hby d6_6) rfl (flt hc6_44).1 k) ?_
        refine Gl.st (B := (T33.setTop (mkF m 10 L43 [(.ref a1)]))) (fun t k => XS.aloadN X33.here hx rfl (hb hby d6_9) (ldAt hL43 rfl) rfl k) ?_
        refine Gl.st (B := (T33.setTop (mkF m 11 L43 [(.int y2_25_42), (.ref a1)]))) (fun t k => XS.iloadN X33.here hx rfl (hb hby d6_10) (ldAt hL43 rfl) k) ?_
        refine Gl.st (B := (T33.setTop (mkF m 13 L43 [(.int (127 : Int32)), (.int y2_25_42), (.ref a1)]))) (fun t k => XS.bipush X33.here hx rfl (hb hby d6_11) k) ?_
        refine Gl.st (B := (T33.setTop (mkF m 14 L43 [(.int (y2_25_42 &&& (127 : Int32))), (.ref a1)]))) (fun t k => XS.iand X33.here hx rfl (hb hby d6_13) rfl k) ?_
        refine Gl.st (B := (T33.setTop (mkF m 17 L43 [(.int (128 : Int32)), (.int (y2_25_42 &&& (127 : Int32))), (.ref a1)]))) (fun t k => XS.sipush X33.here hx rfl (hb hby d6_14) k) ?_
        refine Gl.st (B := (T33.setTop (mkF m 18 L43 [(.int ((y2_25_42 &&& (127 : Int32)) ||| (128 : Int32))), (.ref a1)]))) (fun t k => XS.ior X33.here hx rfl (hb hby d6_17) rfl k) ?_
        obtain ⟨x18_54, hx18_54⟩ : ∃ z : Int32, z = ((y2_25_42 &&& (127 : Int32)) ||| (128 : Int32)) := ⟨_, rfl⟩
        refine Gl.cast (B := (T33.setTop (mkF m 18 L43 [(.int x18_54), (.ref a1)]))) (by rw [hx18_54]) ?_
        have c56 := (c34.keep Kc33 (ninS (Ne.symm ne_bk_w_pieces_a1) (ninS (Ne.symm ne_a1_w_pieces_a1) nin0)))
        have hp18_57 : ¬ f18_41 < 0 := own_6n_hp18_57 w_length_a1 f18_19 f18_41 vs hf18_19 hf18_41 hw0 hw1 hvl
        have hp18_58 : f18_41 < 63 := own_6n_hp18_58 w_length_a1 f18_19 f18_41 vs hf18_19 hf18_41 hw0 hw1 hvl
        have hp18_59 : vl18_40.length = f18_41.toNatClampNeg := own_6n_hp18_59 vs p2 x18_11 vl18_18 y2_25_20 x18_32 vl18_40 w_length_a1 f18_19 f18_41 hx18_11 hvl18_18 hy2_25_20 hx18_32 hvl18_40 hf18_19 hf18_41 hc6_2 hc6_22 hp0 hw0 hw1 hvl
        obtain ⟨cq55, q55, q55'⟩ := fq33_1.cell
        obtain ⟨_, _, ⟨T55, L55q, k55, n55⟩, -, X55, ⟨Lc55, hQ55, l55, y55, z55⟩, st55⟩ := X33.privateBack hx (y := (⟨"com/example/outcomery/outcomery/PackedNumbers", "put", "(I)V"⟩ : MethodName)) hown (mvT hZ (tw hw 41 rfl)) (mvT hZ (tw hw 42 rfl)) (own_selp (mvT hZ (tw hw 2 rfl)) (mvP hZ (tw hw 43 rfl)) (mvT hZ (tw hw 42 rfl)) (by decide)) (Cond.privateMethod_at (mvP hZ (tw hw 43 rfl) (args := #[]))) (mvT hZ (tw hw 44 rfl)) (by decide) (backOf (W := 0) (rm7n l Z a0 hw [] a1 x18_54 kx_w_pieces_a1 bk kx_bk vl18_40 w_pieces_a1 f18_41 T33.heap n0 Zc38 c56 O_w_pieces_a1 fq33_0 fq33_3 fq33_2 hp18_57 hp18_58 hp18_59 g_bk ne_a1_bk fq33_1 g_a1) hZ (tw hw 44 rfl) (tw hw 3 rfl) (by decide) (by decide)) (g := (mkF m 18 L43 [(.int x18_54), (.ref a1)])) rfl (szAt hml hL43 rfl) (Steps.refl _) (a := a1) q55 q55' (argsL := [(.int x18_54)]) (rest := []) (lenOf pd_6n_0 rfl) rfl (by show 2 * 0 + _ ≤ _; exact Nat.le_of_eq rfl) (hb hby d6_18) (fun _ _ => ⟨rfl, rfl, (by decide : 0 + 0 ≤ _), (by decide : 0 + 0 ≤ _)⟩)
        dsimp only [Pt.U, Pt.locs, Pt.cells, Pt.slots] at X55 l55 y55 z55 st55 hQ55
        subst l55 y55 z55
        obtain ⟨rfl, N55q, Kc55, fq55_0, fq55_1, fq55_2, fq55_3⟩ := hQ55
        have Zc60 : n0 ≤ T55.heap.size := Nat.le_trans Zc38 Kc55.1
        have K61 : Keep h0 T55.heap [a1, bk] := K39.trans Kc55 (allS (Or.inl (List.mem_of_getElem? (i := 1) rfl)) (allS (Or.inl (List.mem_of_getElem? (i := 0) rfl)) all0))
        obtain ⟨vl18_62, hvl18_62⟩ : ∃ z : List Value, z = (vl18_40 ++ [(.int (nar .byte ((x18_54.toInt8.toInt32))))]) := ⟨_, rfl⟩
        rw [← hvl18_62] at fq55_0
        obtain ⟨f18_63, hf18_63⟩ : ∃ z : Int32, z = ((f18_41 + (1 : Int32))) := ⟨_, rfl⟩
        rw [← hf18_63] at fq55_2
        have N55 := Fr.app N33 N55q
        refine Gl.st (B := (T55.setTop (mkF m 21 L43 []))) (fun t k => st55.trans k) ?_
        refine Gl.st (B := (T55.setTop (mkF m 22 L43 [(.int y2_25_42)]))) (fun t k => XS.iloadN X55.here hx rfl (hb hby d6_21) (ldAt hL43 rfl) k) ?_
        refine Gl.st (B := (T55.setTop (mkF m 24 L43 [(.int (7 : Int32)), (.int y2_25_42)]))) (fun t k => XS.bipush X55.here hx rfl (hb hby d6_22) k) ?_
        refine Gl.st (B := (T55.setTop (mkF m 25 L43 [(.int ((y2_25_42.toUInt32 >>> ((7 : Int32) &&& 31).toUInt32).toInt32))]))) (fun t k => XS.iushr X55.here hx rfl (hb hby d6_24) rfl k) ?_
        obtain ⟨y2_25_64, hy2_25_64⟩ : ∃ z : Int32, z = ((y2_25_42.toUInt32 >>> ((7 : Int32) &&& 31).toUInt32).toInt32) := ⟨_, rfl⟩
        refine Gl.cast (B := (T55.setTop (mkF m 25 L43 [(.int y2_25_64)]))) (by rw [hy2_25_64]) ?_
        obtain ⟨L65, hL65⟩ : ∃ z : Array Slot, z = #[.val (.ref a1), .val (.int p2), .val (.int y2_25_64)] := ⟨_, rfl⟩
        refine Gl.st (B := (T55.setTop (mkF m 26 L65 []))) (fun t k => XS.istoreN X55.here hx rfl (hb hby d6_25) rfl (l' := L65) (stAt hL43 hL65 rfl rfl) k) ?_
        refine Gl.st (B := (T55.setTop (mkF m 2 L65 []))) (fun t k => XS.goto X55.here hx rfl (pc0 := 26) (pc' := 2) rfl (hb hby d6_26) (by decide) (by decide) k) ?_
        refine Gl.st (B := (T55.setTop (mkF m 3 L65 [(.int y2_25_64)]))) (fun t k => XS.iloadN X55.here hx rfl (hb hby d6_2) (ldAt hL65 rfl) k) ?_
        refine Gl.st (B := (T55.setTop (mkF m 6 L65 [(.int (128 : Int32)), (.int y2_25_64)]))) (fun t k => XS.sipush X55.here hx rfl (hb hby d6_3) k) ?_
        by_cases hc6_66 : y2_25_64 < (128 : Int32)
        · skip
          refine Gl.st (B := (T55.setTop (mkF m 29 L65 []))) (fun t k => XS.icmpYes X55.here hx rfl (pc0 := 6) (pc' := 29) rfl (hb hby d6_6) rfl (tlt hc6_66).1 (by decide) (by decide) k) ?_
          refine Gl.st (B := (T55.setTop (mkF m 30 L65 [(.ref a1)]))) (fun t k => XS.aloadN X55.here hx rfl (hb hby d6_29) (ldAt hL65 rfl) rfl k) ?_
          refine Gl.st (B := (T55.setTop (mkF m 31 L65 [(.int y2_25_64), (.ref a1)]))) (fun t k => XS.iloadN X55.here hx rfl (hb hby d6_30) (ldAt hL65 rfl) k) ?_
          have c68 := (c56.keep Kc55 (ninS (Ne.symm ne_bk_w_pieces_a1) (ninS (Ne.symm ne_a1_w_pieces_a1) nin0)))
          have hp31_69 : ¬ f18_63 < 0 := own_6n_hp31_69 w_length_a1 f18_19 f18_41 f18_63 vs hf18_19 hf18_41 hf18_63 hw0 hw1 hvl
          have hp31_70 : f18_63 < 63 := own_6n_hp31_70 w_length_a1 f18_19 f18_41 f18_63 vs hf18_19 hf18_41 hf18_63 hw0 hw1 hvl
          have hp31_71 : vl18_62.length = f18_63.toNatClampNeg := own_6n_hp31_71 vs p2 x18_11 vl18_18 y2_25_20 x18_32 vl18_40 y2_25_42 x18_54 vl18_62 w_length_a1 f18_19 f18_41 f18_63 hx18_11 hvl18_18 hy2_25_20 hx18_32 hvl18_40 hy2_25_42 hx18_54 hvl18_62 hf18_19 hf18_41 hf18_63 hc6_2 hc6_22 hc6_44 hp0 hw0 hw1 hvl
          obtain ⟨cq67, q67, q67'⟩ := fq55_1.cell
          obtain ⟨_, _, ⟨T67, L67q, k67, n67⟩, -, X67, ⟨Lc67, hQ67, l67, y67, z67⟩, st67⟩ := X55.privateBack hx (y := (⟨"com/example/outcomery/outcomery/PackedNumbers", "put", "(I)V"⟩ : MethodName)) hown (mvT hZ (tw hw 41 rfl)) (mvT hZ (tw hw 42 rfl)) (own_selp (mvT hZ (tw hw 2 rfl)) (mvP hZ (tw hw 43 rfl)) (mvT hZ (tw hw 42 rfl)) (by decide)) (Cond.privateMethod_at (mvP hZ (tw hw 43 rfl) (args := #[]))) (mvT hZ (tw hw 44 rfl)) (by decide) (backOf (W := 0) (rm7n l Z a0 hw [] a1 y2_25_64 kx_w_pieces_a1 bk kx_bk vl18_62 w_pieces_a1 f18_63 T55.heap n0 Zc60 c68 O_w_pieces_a1 fq55_0 fq55_3 fq55_2 hp31_69 hp31_70 hp31_71 g_bk ne_a1_bk fq55_1 g_a1) hZ (tw hw 44 rfl) (tw hw 3 rfl) (by decide) (by decide)) (g := (mkF m 31 L65 [(.int y2_25_64), (.ref a1)])) rfl (szAt hml hL65 rfl) (Steps.refl _) (a := a1) q67 q67' (argsL := [(.int y2_25_64)]) (rest := []) (lenOf pd_6n_0 rfl) rfl (by show 2 * 0 + _ ≤ _; exact Nat.le_of_eq rfl) (hb hby d6_31) (fun _ _ => ⟨rfl, rfl, (by decide : 0 + 0 ≤ _), (by decide : 0 + 0 ≤ _)⟩)
          dsimp only [Pt.U, Pt.locs, Pt.cells, Pt.slots] at X67 l67 y67 z67 st67 hQ67
          subst l67 y67 z67
          obtain ⟨rfl, N67q, Kc67, fq67_0, fq67_1, fq67_2, fq67_3⟩ := hQ67
          have Zc72 : n0 ≤ T67.heap.size := Nat.le_trans Zc60 Kc67.1
          have K73 : Keep h0 T67.heap [a1, bk] := K61.trans Kc67 (allS (Or.inl (List.mem_of_getElem? (i := 1) rfl)) (allS (Or.inl (List.mem_of_getElem? (i := 0) rfl)) all0))
          obtain ⟨vl31_74, hvl31_74⟩ : ∃ z : List Value, z = (vl18_62 ++ [(.int (nar .byte ((y2_25_64.toInt8.toInt32))))]) := ⟨_, rfl⟩
          rw [← hvl31_74] at fq67_0
          obtain ⟨f31_75, hf31_75⟩ : ∃ z : Int32, z = ((f18_63 + (1 : Int32))) := ⟨_, rfl⟩
          rw [← hf31_75] at fq67_2
          have N67 := Fr.app N55 N67q
          refine Gl.st (B := (T67.setTop (mkF m 34 L65 []))) (fun t k => st67.trans k) ?_
          obtain ⟨fs, hr, hrun, hended, hW, hsame⟩ := X67.leave (v := none) (fun _ => rfl)
          refine Gl.fin (X67.returnOut hx Bd.returns (hb hby d6_34) hr) hrun hended ⟨_, _, rfl, ?_, ⟨_, rfl⟩, hW, hsame.mono (by decide) (by decide)⟩
          show Q6n Z a1 p2 kx_w_pieces_a1 bk kx_bk vs w_pieces_a1 w_length_a1 h0 n0 _ T67.heap _
          exact ⟨rfl, N67, K73, fq67_1, (by subst hf31_75; subst hf18_63; subst hf18_41; subst hf18_19; subst hy2_25_20; subst hy2_25_42; subst hy2_25_64; rw [own_F_eq, if_neg hc6_2, if_neg hc6_22, if_neg hc6_44, if_pos hc6_66]; exact fq67_2), fq67_3, (by subst hvl31_74; subst hvl18_62; subst hvl18_40; subst hvl18_18; subst hx18_11; subst hx18_32; subst hy2_25_20; subst hx18_54; subst hy2_25_42; subst hy2_25_64; rw [own_E_eq, if_neg hc6_2, if_neg hc6_22, if_neg hc6_44, if_pos hc6_66]; exact fq67_0)⟩
        · skip
          refine Gl.st (B := (T55.setTop (mkF m 9 L65 []))) (fun t k => XS.icmpNo X55.here hx rfl (hb hby d6_6) rfl (flt hc6_66).1 k) ?_
          refine Gl.st (B := (T55.setTop (mkF m 10 L65 [(.ref a1)]))) (fun t k => XS.aloadN X55.here hx rfl (hb hby d6_9) (ldAt hL65 rfl) rfl k) ?_
          refine Gl.st (B := (T55.setTop (mkF m 11 L65 [(.int y2_25_64), (.ref a1)]))) (fun t k => XS.iloadN X55.here hx rfl (hb hby d6_10) (ldAt hL65 rfl) k) ?_
          refine Gl.st (B := (T55.setTop (mkF m 13 L65 [(.int (127 : Int32)), (.int y2_25_64), (.ref a1)]))) (fun t k => XS.bipush X55.here hx rfl (hb hby d6_11) k) ?_
          refine Gl.st (B := (T55.setTop (mkF m 14 L65 [(.int (y2_25_64 &&& (127 : Int32))), (.ref a1)]))) (fun t k => XS.iand X55.here hx rfl (hb hby d6_13) rfl k) ?_
          refine Gl.st (B := (T55.setTop (mkF m 17 L65 [(.int (128 : Int32)), (.int (y2_25_64 &&& (127 : Int32))), (.ref a1)]))) (fun t k => XS.sipush X55.here hx rfl (hb hby d6_14) k) ?_
          refine Gl.st (B := (T55.setTop (mkF m 18 L65 [(.int ((y2_25_64 &&& (127 : Int32)) ||| (128 : Int32))), (.ref a1)]))) (fun t k => XS.ior X55.here hx rfl (hb hby d6_17) rfl k) ?_
          obtain ⟨x18_76, hx18_76⟩ : ∃ z : Int32, z = ((y2_25_64 &&& (127 : Int32)) ||| (128 : Int32)) := ⟨_, rfl⟩
          refine Gl.cast (B := (T55.setTop (mkF m 18 L65 [(.int x18_76), (.ref a1)]))) (by rw [hx18_76]) ?_
          have c78 := (c56.keep Kc55 (ninS (Ne.symm ne_bk_w_pieces_a1) (ninS (Ne.symm ne_a1_w_pieces_a1) nin0)))
          have hp18_79 : ¬ f18_63 < 0 := own_6n_hp18_79 w_length_a1 f18_19 f18_41 f18_63 vs hf18_19 hf18_41 hf18_63 hw0 hw1 hvl
          have hp18_80 : f18_63 < 63 := own_6n_hp18_80 w_length_a1 f18_19 f18_41 f18_63 vs hf18_19 hf18_41 hf18_63 hw0 hw1 hvl
          have hp18_81 : vl18_62.length = f18_63.toNatClampNeg := own_6n_hp18_81 vs p2 x18_11 vl18_18 y2_25_20 x18_32 vl18_40 y2_25_42 x18_54 vl18_62 w_length_a1 f18_19 f18_41 f18_63 hx18_11 hvl18_18 hy2_25_20 hx18_32 hvl18_40 hy2_25_42 hx18_54 hvl18_62 hf18_19 hf18_41 hf18_63 hc6_2 hc6_22 hc6_44 hp0 hw0 hw1 hvl
          obtain ⟨cq77, q77, q77'⟩ := fq55_1.cell
          obtain ⟨_, _, ⟨T77, L77q, k77, n77⟩, -, X77, ⟨Lc77, hQ77, l77, y77, z77⟩, st77⟩ := X55.privateBack hx (y := (⟨"com/example/outcomery/outcomery/PackedNumbers", "put", "(I)V"⟩ : MethodName)) hown (mvT hZ (tw hw 41 rfl)) (mvT hZ (tw hw 42 rfl)) (own_selp (mvT hZ (tw hw 2 rfl)) (mvP hZ (tw hw 43 rfl)) (mvT hZ (tw hw 42 rfl)) (by decide)) (Cond.privateMethod_at (mvP hZ (tw hw 43 rfl) (args := #[]))) (mvT hZ (tw hw 44 rfl)) (by decide) (backOf (W := 0) (rm7n l Z a0 hw [] a1 x18_76 kx_w_pieces_a1 bk kx_bk vl18_62 w_pieces_a1 f18_63 T55.heap n0 Zc60 c78 O_w_pieces_a1 fq55_0 fq55_3 fq55_2 hp18_79 hp18_80 hp18_81 g_bk ne_a1_bk fq55_1 g_a1) hZ (tw hw 44 rfl) (tw hw 3 rfl) (by decide) (by decide)) (g := (mkF m 18 L65 [(.int x18_76), (.ref a1)])) rfl (szAt hml hL65 rfl) (Steps.refl _) (a := a1) q77 q77' (argsL := [(.int x18_76)]) (rest := []) (lenOf pd_6n_0 rfl) rfl (by show 2 * 0 + _ ≤ _; exact Nat.le_of_eq rfl) (hb hby d6_18) (fun _ _ => ⟨rfl, rfl, (by decide : 0 + 0 ≤ _), (by decide : 0 + 0 ≤ _)⟩)
          dsimp only [Pt.U, Pt.locs, Pt.cells, Pt.slots] at X77 l77 y77 z77 st77 hQ77
          subst l77 y77 z77
          obtain ⟨rfl, N77q, Kc77, fq77_0, fq77_1, fq77_2, fq77_3⟩ := hQ77
          have Zc82 : n0 ≤ T77.heap.size := Nat.le_trans Zc60 Kc77.1
          have K83 : Keep h0 T77.heap [a1, bk] := K61.trans Kc77 (allS (Or.inl (List.mem_of_getElem? (i := 1) rfl)) (allS (Or.inl (List.mem_of_getElem? (i := 0) rfl)) all0))
          obtain ⟨vl18_84, hvl18_84⟩ : ∃ z : List Value, z = (vl18_62 ++ [(.int (nar .byte ((x18_76.toInt8.toInt32))))]) := ⟨_, rfl⟩
          rw [← hvl18_84] at fq77_0
          obtain ⟨f18_85, hf18_85⟩ : ∃ z : Int32, z = ((f18_63 + (1 : Int32))) := ⟨_, rfl⟩
          rw [← hf18_85] at fq77_2
          have N77 := Fr.app N55 N77q
          refine Gl.st (B := (T77.setTop (mkF m 21 L65 []))) (fun t k => st77.trans k) ?_
          refine Gl.st (B := (T77.setTop (mkF m 22 L65 [(.int y2_25_64)]))) (fun t k => XS.iloadN X77.here hx rfl (hb hby d6_21) (ldAt hL65 rfl) k) ?_
          refine Gl.st (B := (T77.setTop (mkF m 24 L65 [(.int (7 : Int32)), (.int y2_25_64)]))) (fun t k => XS.bipush X77.here hx rfl (hb hby d6_22) k) ?_
          refine Gl.st (B := (T77.setTop (mkF m 25 L65 [(.int ((y2_25_64.toUInt32 >>> ((7 : Int32) &&& 31).toUInt32).toInt32))]))) (fun t k => XS.iushr X77.here hx rfl (hb hby d6_24) rfl k) ?_
          obtain ⟨y2_25_86, hy2_25_86⟩ : ∃ z : Int32, z = ((y2_25_64.toUInt32 >>> ((7 : Int32) &&& 31).toUInt32).toInt32) := ⟨_, rfl⟩
          refine Gl.cast (B := (T77.setTop (mkF m 25 L65 [(.int y2_25_86)]))) (by rw [hy2_25_86]) ?_
          obtain ⟨L87, hL87⟩ : ∃ z : Array Slot, z = #[.val (.ref a1), .val (.int p2), .val (.int y2_25_86)] := ⟨_, rfl⟩
          refine Gl.st (B := (T77.setTop (mkF m 26 L87 []))) (fun t k => XS.istoreN X77.here hx rfl (hb hby d6_25) rfl (l' := L87) (stAt hL65 hL87 rfl rfl) k) ?_
          refine Gl.st (B := (T77.setTop (mkF m 2 L87 []))) (fun t k => XS.goto X77.here hx rfl (pc0 := 26) (pc' := 2) rfl (hb hby d6_26) (by decide) (by decide) k) ?_
          refine Gl.st (B := (T77.setTop (mkF m 3 L87 [(.int y2_25_86)]))) (fun t k => XS.iloadN X77.here hx rfl (hb hby d6_2) (ldAt hL87 rfl) k) ?_
          refine Gl.st (B := (T77.setTop (mkF m 6 L87 [(.int (128 : Int32)), (.int y2_25_86)]))) (fun t k => XS.sipush X77.here hx rfl (hb hby d6_3) k) ?_
          have hc6_88 : y2_25_86 < (128 : Int32) := own_6n_hc6_88 p2 y2_25_20 y2_25_42 y2_25_64 y2_25_86 hy2_25_20 hy2_25_42 hy2_25_64 hy2_25_86 hp0
          refine Gl.st (B := (T77.setTop (mkF m 29 L87 []))) (fun t k => XS.icmpYes X77.here hx rfl (pc0 := 6) (pc' := 29) rfl (hb hby d6_6) rfl (tlt hc6_88).1 (by decide) (by decide) k) ?_
          refine Gl.st (B := (T77.setTop (mkF m 30 L87 [(.ref a1)]))) (fun t k => XS.aloadN X77.here hx rfl (hb hby d6_29) (ldAt hL87 rfl) rfl k) ?_
          refine Gl.st (B := (T77.setTop (mkF m 31 L87 [(.int y2_25_86), (.ref a1)]))) (fun t k => XS.iloadN X77.here hx rfl (hb hby d6_30) (ldAt hL87 rfl) k) ?_
          have c90 := (c78.keep Kc77 (ninS (Ne.symm ne_bk_w_pieces_a1) (ninS (Ne.symm ne_a1_w_pieces_a1) nin0)))
          have hp31_91 : ¬ f18_85 < 0 := own_6n_hp31_91 w_length_a1 f18_19 f18_41 f18_63 f18_85 vs hf18_19 hf18_41 hf18_63 hf18_85 hw0 hw1 hvl
          have hp31_92 : f18_85 < 63 := own_6n_hp31_92 w_length_a1 f18_19 f18_41 f18_63 f18_85 vs hf18_19 hf18_41 hf18_63 hf18_85 hw0 hw1 hvl
          have hp31_93 : vl18_84.length = f18_85.toNatClampNeg := own_6n_hp31_93 vs p2 x18_11 vl18_18 y2_25_20 x18_32 vl18_40 y2_25_42 x18_54 vl18_62 y2_25_64 x18_76 vl18_84 w_length_a1 f18_19 f18_41 f18_63 f18_85 hx18_11 hvl18_18 hy2_25_20 hx18_32 hvl18_40 hy2_25_42 hx18_54 hvl18_62 hy2_25_64 hx18_76 hvl18_84 hf18_19 hf18_41 hf18_63 hf18_85 hc6_2 hc6_22 hc6_44 hc6_66 hp0 hw0 hw1 hvl
          obtain ⟨cq89, q89, q89'⟩ := fq77_1.cell
          obtain ⟨_, _, ⟨T89, L89q, k89, n89⟩, -, X89, ⟨Lc89, hQ89, l89, y89, z89⟩, st89⟩ := X77.privateBack hx (y := (⟨"com/example/outcomery/outcomery/PackedNumbers", "put", "(I)V"⟩ : MethodName)) hown (mvT hZ (tw hw 41 rfl)) (mvT hZ (tw hw 42 rfl)) (own_selp (mvT hZ (tw hw 2 rfl)) (mvP hZ (tw hw 43 rfl)) (mvT hZ (tw hw 42 rfl)) (by decide)) (Cond.privateMethod_at (mvP hZ (tw hw 43 rfl) (args := #[]))) (mvT hZ (tw hw 44 rfl)) (by decide) (backOf (W := 0) (rm7n l Z a0 hw [] a1 y2_25_86 kx_w_pieces_a1 bk kx_bk vl18_84 w_pieces_a1 f18_85 T77.heap n0 Zc82 c90 O_w_pieces_a1 fq77_0 fq77_3 fq77_2 hp31_91 hp31_92 hp31_93 g_bk ne_a1_bk fq77_1 g_a1) hZ (tw hw 44 rfl) (tw hw 3 rfl) (by decide) (by decide)) (g := (mkF m 31 L87 [(.int y2_25_86), (.ref a1)])) rfl (szAt hml hL87 rfl) (Steps.refl _) (a := a1) q89 q89' (argsL := [(.int y2_25_86)]) (rest := []) (lenOf pd_6n_0 rfl) rfl (by show 2 * 0 + _ ≤ _; exact Nat.le_of_eq rfl) (hb hby d6_31) (fun _ _ => ⟨rfl, rfl, (by decide : 0 + 0 ≤ _), (by decide : 0 + 0 ≤ _)⟩)
          dsimp only [Pt.U, Pt.locs, Pt.cells, Pt.slots] at X89 l89 y89 z89 st89 hQ89
          subst l89 y89 z89
          obtain ⟨rfl, N89q, Kc89, fq89_0, fq89_1, fq89_2, fq89_3⟩ := hQ89
          have Zc94 : n0 ≤ T89.heap.size := Nat.le_trans Zc82 Kc89.1
          have K95 : Keep h0 T89.heap [a1, bk] := K83.trans Kc89 (allS (Or.inl (List.mem_of_getElem? (i := 1) rfl)) (allS (Or.inl (List.mem_of_getElem? (i := 0) rfl)) all0))
          obtain ⟨vl31_96, hvl31_96⟩ : ∃ z : List Value, z = (vl18_84 ++ [(.int (nar .byte ((y2_25_86.toInt8.toInt32))))]) := ⟨_, rfl⟩
          rw [← hvl31_96] at fq89_0
          obtain ⟨f31_97, hf31_97⟩ : ∃ z : Int32, z = ((f18_85 + (1 : Int32))) := ⟨_, rfl⟩
          rw [← hf31_97] at fq89_2
          have N89 := Fr.app N77 N89q
          refine Gl.st (B := (T89.setTop (mkF m 34 L87 []))) (fun t k => st89.trans k) ?_
          obtain ⟨fs, hr, hrun, hended, hW, hsame⟩ := X89.leave (v := none) (fun _ => rfl)
          refine Gl.fin (X89.returnOut hx Bd.returns (hb hby d6_34) hr) hrun hended ⟨_, _, rfl, ?_, ⟨_, rfl⟩, hW, hsame.mono (by decide) (by decide)⟩
          show Q6n Z a1 p2 kx_w_pieces_a1 bk kx_bk vs w_pieces_a1 w_length_a1 h0 n0 _ T89.heap _
          exact ⟨rfl, N89, K95, fq89_1, (by subst hf31_97; subst hf18_85; subst hf18_63; subst hf18_41; subst hf18_19; subst hy2_25_20; subst hy2_25_42; subst hy2_25_64; rw [own_F_eq, if_neg hc6_2, if_neg hc6_22, if_neg hc6_44, if_neg hc6_66]; exact fq89_2), fq89_3, (by subst hvl31_96; subst hvl18_84; subst hvl18_62; subst hvl18_40; subst hvl18_18; subst hx18_11; subst hx18_32; subst hy2_25_20; subst hx18_54; subst hy2_25_42; subst hx18_76; subst hy2_25_64; subst hy2_25_86; rw [own_E_eq, if_neg hc6_2, if_neg hc6_22, if_neg hc6_44, if_neg hc6_66]; exact fq89_0)⟩
theorem pd_6f_0 : parseMethodDescriptor "(I)V" = some ⟨[.int], none⟩ := by decide +kernel
theorem ef_6f (m : MethodId) (a1 : Addr) (p2 : Int32) : entryFrame m #[(.ref a1), (.int p2)] 3 = mkF m 0 #[.val (.ref a1), .val (.int p2), .unset] [] := by first | (simp [entryFrame, mkF, argsToLocals, Value.category]; done) | rfl
theorem own_6f_hp31_38 (f18_31 : Int32) (hf18_31 : f18_31 = (((1 : Int32) + (1 : Int32))))  : ¬ f18_31 < 0 := by
  have nb : ¬ (1 : Int32) < 0 := by decide
  have tb : (1 : Int32).toInt = 1 := by decide
  have t0b := tb
  have a0 := c_iadd (1 : Int32) 1
  rw [← hf18_31] at a0
  simp only [Int32.reduceToInt] at a0
  have r0 := rng32 f18_31
  have t0 : f18_31.toInt = (1 : Int32).toInt + 1 := by omega
  have s0 : f18_31.toNatClampNeg = (1 : Int32).toNatClampNeg + 1 := by rw [hf18_31]; exact own_suc (1 : Int32) nb (by rw [Int32.lt_iff_toInt_lt]; simp only [Int32.reduceToInt]; omega)
  have n0 : ¬ f18_31 < 0 := by
    rw [Int32.lt_iff_toInt_lt]
    simp only [Int32.reduceToInt]
    omega
  exact n0
theorem own_6f_hp31_39 (f18_31 : Int32) (hf18_31 : f18_31 = (((1 : Int32) + (1 : Int32))))  : f18_31 < 63 := by
  have nb : ¬ (1 : Int32) < 0 := by decide
  have tb : (1 : Int32).toInt = 1 := by decide
  have t0b := tb
  have a0 := c_iadd (1 : Int32) 1
  rw [← hf18_31] at a0
  simp only [Int32.reduceToInt] at a0
  have r0 := rng32 f18_31
  have t0 : f18_31.toInt = (1 : Int32).toInt + 1 := by omega
  have s0 : f18_31.toNatClampNeg = (1 : Int32).toNatClampNeg + 1 := by rw [hf18_31]; exact own_suc (1 : Int32) nb (by rw [Int32.lt_iff_toInt_lt]; simp only [Int32.reduceToInt]; omega)
  have n0 : ¬ f18_31 < 0 := by
    rw [Int32.lt_iff_toInt_lt]
    simp only [Int32.reduceToInt]
    omega
  rw [Int32.lt_iff_toInt_lt]
  simp only [Int32.reduceToInt]
  omega
theorem own_6f_hp31_40 (p2 : Int32) (x18_6 : Int32) (y2_25_10 : Int32) (x18_22 : Int32) (vl18_30 : List Value) (f18_31 : Int32) (hx18_6 : x18_6 = ((p2 &&& (127 : Int32)) ||| (128 : Int32))) (hy2_25_10 : y2_25_10 = ((p2.toUInt32 >>> ((7 : Int32) &&& 31).toUInt32).toInt32)) (hx18_22 : x18_22 = ((y2_25_10 &&& (127 : Int32)) ||| (128 : Int32))) (hvl18_30 : vl18_30 = (([(.int (nar .byte ((x18_6.toInt8.toInt32))))] : List Value) ++ [(.int (nar .byte ((x18_22.toInt8.toInt32))))])) (hf18_31 : f18_31 = (((1 : Int32) + (1 : Int32)))) (hc6_2 : ¬ (p2 < (128 : Int32))) (hc6_12 : ¬ (y2_25_10 < (128 : Int32))) (hp0 : ¬ p2 < 0) : vl18_30.length = f18_31.toNatClampNeg := by
  have nb : ¬ (1 : Int32) < 0 := by decide
  have tb : (1 : Int32).toInt = 1 := by decide
  have t0b := tb
  have a0 := c_iadd (1 : Int32) 1
  rw [← hf18_31] at a0
  simp only [Int32.reduceToInt] at a0
  have r0 := rng32 f18_31
  have t0 : f18_31.toInt = (1 : Int32).toInt + 1 := by omega
  have s0 : f18_31.toNatClampNeg = (1 : Int32).toNatClampNeg + 1 := by rw [hf18_31]; exact own_suc (1 : Int32) nb (by rw [Int32.lt_iff_toInt_lt]; simp only [Int32.reduceToInt]; omega)
  have n0 : ¬ f18_31 < 0 := by
    rw [Int32.lt_iff_toInt_lt]
    simp only [Int32.reduceToInt]
    omega
  rw [hvl18_30]
  simp only [List.length_append, List.length_cons, List.length_nil]
  have e : (1 : Int32).toNatClampNeg = 1 := by decide
  omega
theorem own_6f_hp18_50 (f18_31 : Int32) (hf18_31 : f18_31 = (((1 : Int32) + (1 : Int32))))  : ¬ f18_31 < 0 := by
  have nb : ¬ (1 : Int32) < 0 := by decide
  have tb : (1 : Int32).toInt = 1 := by decide
  have t0b := tb
  have a0 := c_iadd (1 : Int32) 1
  rw [← hf18_31] at a0
  simp only [Int32.reduceToInt] at a0
  have r0 := rng32 f18_31
  have t0 : f18_31.toInt = (1 : Int32).toInt + 1 := by omega
  have s0 : f18_31.toNatClampNeg = (1 : Int32).toNatClampNeg + 1 := by rw [hf18_31]; exact own_suc (1 : Int32) nb (by rw [Int32.lt_iff_toInt_lt]; simp only [Int32.reduceToInt]; omega)
  have n0 : ¬ f18_31 < 0 := by
    rw [Int32.lt_iff_toInt_lt]
    simp only [Int32.reduceToInt]
    omega
  exact n0
theorem own_6f_hp18_51 (f18_31 : Int32) (hf18_31 : f18_31 = (((1 : Int32) + (1 : Int32))))  : f18_31 < 63 := by
  have nb : ¬ (1 : Int32) < 0 := by decide
  have tb : (1 : Int32).toInt = 1 := by decide
  have t0b := tb
  have a0 := c_iadd (1 : Int32) 1
  rw [← hf18_31] at a0
  simp only [Int32.reduceToInt] at a0
  have r0 := rng32 f18_31
  have t0 : f18_31.toInt = (1 : Int32).toInt + 1 := by omega
  have s0 : f18_31.toNatClampNeg = (1 : Int32).toNatClampNeg + 1 := by rw [hf18_31]; exact own_suc (1 : Int32) nb (by rw [Int32.lt_iff_toInt_lt]; simp only [Int32.reduceToInt]; omega)
  have n0 : ¬ f18_31 < 0 := by
    rw [Int32.lt_iff_toInt_lt]
    simp only [Int32.reduceToInt]
    omega
  rw [Int32.lt_iff_toInt_lt]
  simp only [Int32.reduceToInt]
  omega
theorem own_6f_hp18_52 (p2 : Int32) (x18_6 : Int32) (y2_25_10 : Int32) (x18_22 : Int32) (vl18_30 : List Value) (f18_31 : Int32) (hx18_6 : x18_6 = ((p2 &&& (127 : Int32)) ||| (128 : Int32))) (hy2_25_10 : y2_25_10 = ((p2.toUInt32 >>> ((7 : Int32) &&& 31).toUInt32).toInt32)) (hx18_22 : x18_22 = ((y2_25_10 &&& (127 : Int32)) ||| (128 : Int32))) (hvl18_30 : vl18_30 = (([(.int (nar .byte ((x18_6.toInt8.toInt32))))] : List Value) ++ [(.int (nar .byte ((x18_22.toInt8.toInt32))))])) (hf18_31 : f18_31 = (((1 : Int32) + (1 : Int32)))) (hc6_2 : ¬ (p2 < (128 : Int32))) (hc6_12 : ¬ (y2_25_10 < (128 : Int32))) (hp0 : ¬ p2 < 0) : vl18_30.length = f18_31.toNatClampNeg := by
  have nb : ¬ (1 : Int32) < 0 := by decide
  have tb : (1 : Int32).toInt = 1 := by decide
  have t0b := tb
  have a0 := c_iadd (1 : Int32) 1
  rw [← hf18_31] at a0
  simp only [Int32.reduceToInt] at a0
  have r0 := rng32 f18_31
  have t0 : f18_31.toInt = (1 : Int32).toInt + 1 := by omega
  have s0 : f18_31.toNatClampNeg = (1 : Int32).toNatClampNeg + 1 := by rw [hf18_31]; exact own_suc (1 : Int32) nb (by rw [Int32.lt_iff_toInt_lt]; simp only [Int32.reduceToInt]; omega)
  have n0 : ¬ f18_31 < 0 := by
    rw [Int32.lt_iff_toInt_lt]
    simp only [Int32.reduceToInt]
    omega
  rw [hvl18_30]
  simp only [List.length_append, List.length_cons, List.length_nil]
  have e : (1 : Int32).toNatClampNeg = 1 := by decide
  omega
theorem own_6f_hp31_63 (f18_31 : Int32) (f18_57 : Int32) (hf18_31 : f18_31 = (((1 : Int32) + (1 : Int32)))) (hf18_57 : f18_57 = ((f18_31 + (1 : Int32))))  : ¬ f18_57 < 0 := by
  have nb : ¬ (1 : Int32) < 0 := by decide
  have tb : (1 : Int32).toInt = 1 := by decide
  have t0b := tb
  have a0 := c_iadd (1 : Int32) 1
  rw [← hf18_31] at a0
  simp only [Int32.reduceToInt] at a0
  have r0 := rng32 f18_31
  have t0 : f18_31.toInt = (1 : Int32).toInt + 1 := by omega
  have s0 : f18_31.toNatClampNeg = (1 : Int32).toNatClampNeg + 1 := by rw [hf18_31]; exact own_suc (1 : Int32) nb (by rw [Int32.lt_iff_toInt_lt]; simp only [Int32.reduceToInt]; omega)
  have n0 : ¬ f18_31 < 0 := by
    rw [Int32.lt_iff_toInt_lt]
    simp only [Int32.reduceToInt]
    omega
  have a1 := c_iadd f18_31 1
  rw [← hf18_57] at a1
  simp only [Int32.reduceToInt] at a1
  have r1 := rng32 f18_57
  have t1 : f18_57.toInt = f18_31.toInt + 1 := by omega
  have s1 : f18_57.toNatClampNeg = f18_31.toNatClampNeg + 1 := by rw [hf18_57]; exact own_suc f18_31 n0 (by rw [Int32.lt_iff_toInt_lt]; simp only [Int32.reduceToInt]; omega)
  have n1 : ¬ f18_57 < 0 := by
    rw [Int32.lt_iff_toInt_lt]
    simp only [Int32.reduceToInt]
    omega
  exact n1
theorem own_6f_hp31_64 (f18_31 : Int32) (f18_57 : Int32) (hf18_31 : f18_31 = (((1 : Int32) + (1 : Int32)))) (hf18_57 : f18_57 = ((f18_31 + (1 : Int32))))  : f18_57 < 63 := by
  have nb : ¬ (1 : Int32) < 0 := by decide
  have tb : (1 : Int32).toInt = 1 := by decide
  have t0b := tb
  have a0 := c_iadd (1 : Int32) 1
  rw [← hf18_31] at a0
  simp only [Int32.reduceToInt] at a0
  have r0 := rng32 f18_31
  have t0 : f18_31.toInt = (1 : Int32).toInt + 1 := by omega
  have s0 : f18_31.toNatClampNeg = (1 : Int32).toNatClampNeg + 1 := by rw [hf18_31]; exact own_suc (1 : Int32) nb (by rw [Int32.lt_iff_toInt_lt]; simp only [Int32.reduceToInt]; omega)
  have n0 : ¬ f18_31 < 0 := by
    rw [Int32.lt_iff_toInt_lt]
    simp only [Int32.reduceToInt]
    omega
  have a1 := c_iadd f18_31 1
  rw [← hf18_57] at a1
  simp only [Int32.reduceToInt] at a1
  have r1 := rng32 f18_57
  have t1 : f18_57.toInt = f18_31.toInt + 1 := by omega
  have s1 : f18_57.toNatClampNeg = f18_31.toNatClampNeg + 1 := by rw [hf18_57]; exact own_suc f18_31 n0 (by rw [Int32.lt_iff_toInt_lt]; simp only [Int32.reduceToInt]; omega)
  have n1 : ¬ f18_57 < 0 := by
    rw [Int32.lt_iff_toInt_lt]
    simp only [Int32.reduceToInt]
    omega
  rw [Int32.lt_iff_toInt_lt]
  simp only [Int32.reduceToInt]
  omega
theorem own_6f_hp31_65 (p2 : Int32) (x18_6 : Int32) (y2_25_10 : Int32) (x18_22 : Int32) (vl18_30 : List Value) (y2_25_32 : Int32) (x18_46 : Int32) (vl18_56 : List Value) (f18_31 : Int32) (f18_57 : Int32) (hx18_6 : x18_6 = ((p2 &&& (127 : Int32)) ||| (128 : Int32))) (hy2_25_10 : y2_25_10 = ((p2.toUInt32 >>> ((7 : Int32) &&& 31).toUInt32).toInt32)) (hx18_22 : x18_22 = ((y2_25_10 &&& (127 : Int32)) ||| (128 : Int32))) (hvl18_30 : vl18_30 = (([(.int (nar .byte ((x18_6.toInt8.toInt32))))] : List Value) ++ [(.int (nar .byte ((x18_22.toInt8.toInt32))))])) (hy2_25_32 : y2_25_32 = ((y2_25_10.toUInt32 >>> ((7 : Int32) &&& 31).toUInt32).toInt32)) (hx18_46 : x18_46 = ((y2_25_32 &&& (127 : Int32)) ||| (128 : Int32))) (hvl18_56 : vl18_56 = (vl18_30 ++ [(.int (nar .byte ((x18_46.toInt8.toInt32))))])) (hf18_31 : f18_31 = (((1 : Int32) + (1 : Int32)))) (hf18_57 : f18_57 = ((f18_31 + (1 : Int32)))) (hc6_2 : ¬ (p2 < (128 : Int32))) (hc6_12 : ¬ (y2_25_10 < (128 : Int32))) (hc6_34 : ¬ (y2_25_32 < (128 : Int32))) (hp0 : ¬ p2 < 0) : vl18_56.length = f18_57.toNatClampNeg := by
  have nb : ¬ (1 : Int32) < 0 := by decide
  have tb : (1 : Int32).toInt = 1 := by decide
  have t0b := tb
  have a0 := c_iadd (1 : Int32) 1
  rw [← hf18_31] at a0
  simp only [Int32.reduceToInt] at a0
  have r0 := rng32 f18_31
  have t0 : f18_31.toInt = (1 : Int32).toInt + 1 := by omega
  have s0 : f18_31.toNatClampNeg = (1 : Int32).toNatClampNeg + 1 := by rw [hf18_31]; exact own_suc (1 : Int32) nb (by rw [Int32.lt_iff_toInt_lt]; simp only [Int32.reduceToInt]; omega)
  have n0 : ¬ f18_31 < 0 := by
    rw [Int32.lt_iff_toInt_lt]
    simp only [Int32.reduceToInt]
    omega
  have a1 := c_iadd f18_31 1
  rw [← hf18_57] at a1
  simp only [Int32.reduceToInt] at a1
  have r1 := rng32 f18_57
  have t1 : f18_57.toInt = f18_31.toInt + 1 := by omega
  have s1 : f18_57.toNatClampNeg = f18_31.toNatClampNeg + 1 := by rw [hf18_57]; exact own_suc f18_31 n0 (by rw [Int32.lt_iff_toInt_lt]; simp only [Int32.reduceToInt]; omega)
  have n1 : ¬ f18_57 < 0 := by
    rw [Int32.lt_iff_toInt_lt]
    simp only [Int32.reduceToInt]
    omega
  rw [hvl18_56, hvl18_30]
  simp only [List.length_append, List.length_cons, List.length_nil]
  have e : (1 : Int32).toNatClampNeg = 1 := by decide
  omega
theorem own_6f_hp18_74 (f18_31 : Int32) (f18_57 : Int32) (hf18_31 : f18_31 = (((1 : Int32) + (1 : Int32)))) (hf18_57 : f18_57 = ((f18_31 + (1 : Int32))))  : ¬ f18_57 < 0 := by
  have nb : ¬ (1 : Int32) < 0 := by decide
  have tb : (1 : Int32).toInt = 1 := by decide
  have t0b := tb
  have a0 := c_iadd (1 : Int32) 1
  rw [← hf18_31] at a0
  simp only [Int32.reduceToInt] at a0
  have r0 := rng32 f18_31
  have t0 : f18_31.toInt = (1 : Int32).toInt + 1 := by omega
  have s0 : f18_31.toNatClampNeg = (1 : Int32).toNatClampNeg + 1 := by rw [hf18_31]; exact own_suc (1 : Int32) nb (by rw [Int32.lt_iff_toInt_lt]; simp only [Int32.reduceToInt]; omega)
  have n0 : ¬ f18_31 < 0 := by
    rw [Int32.lt_iff_toInt_lt]
    simp only [Int32.reduceToInt]
    omega
  have a1 := c_iadd f18_31 1
  rw [← hf18_57] at a1
  simp only [Int32.reduceToInt] at a1
  have r1 := rng32 f18_57
  have t1 : f18_57.toInt = f18_31.toInt + 1 := by omega
  have s1 : f18_57.toNatClampNeg = f18_31.toNatClampNeg + 1 := by rw [hf18_57]; exact own_suc f18_31 n0 (by rw [Int32.lt_iff_toInt_lt]; simp only [Int32.reduceToInt]; omega)
  have n1 : ¬ f18_57 < 0 := by
    rw [Int32.lt_iff_toInt_lt]
    simp only [Int32.reduceToInt]
    omega
  exact n1
theorem own_6f_hp18_75 (f18_31 : Int32) (f18_57 : Int32) (hf18_31 : f18_31 = (((1 : Int32) + (1 : Int32)))) (hf18_57 : f18_57 = ((f18_31 + (1 : Int32))))  : f18_57 < 63 := by
  have nb : ¬ (1 : Int32) < 0 := by decide
  have tb : (1 : Int32).toInt = 1 := by decide
  have t0b := tb
  have a0 := c_iadd (1 : Int32) 1
  rw [← hf18_31] at a0
  simp only [Int32.reduceToInt] at a0
  have r0 := rng32 f18_31
  have t0 : f18_31.toInt = (1 : Int32).toInt + 1 := by omega
  have s0 : f18_31.toNatClampNeg = (1 : Int32).toNatClampNeg + 1 := by rw [hf18_31]; exact own_suc (1 : Int32) nb (by rw [Int32.lt_iff_toInt_lt]; simp only [Int32.reduceToInt]; omega)
  have n0 : ¬ f18_31 < 0 := by
    rw [Int32.lt_iff_toInt_lt]
    simp only [Int32.reduceToInt]
    omega
  have a1 := c_iadd f18_31 1
  rw [← hf18_57] at a1
  simp only [Int32.reduceToInt] at a1
  have r1 := rng32 f18_57
  have t1 : f18_57.toInt = f18_31.toInt + 1 := by omega
  have s1 : f18_57.toNatClampNeg = f18_31.toNatClampNeg + 1 := by rw [hf18_57]; exact own_suc f18_31 n0 (by rw [Int32.lt_iff_toInt_lt]; simp only [Int32.reduceToInt]; omega)
  have n1 : ¬ f18_57 < 0 := by
    rw [Int32.lt_iff_toInt_lt]
    simp only [Int32.reduceToInt]
    omega
  rw [Int32.lt_iff_toInt_lt]
  simp only [Int32.reduceToInt]
  omega
theorem own_6f_hp18_76 (p2 : Int32) (x18_6 : Int32) (y2_25_10 : Int32) (x18_22 : Int32) (vl18_30 : List Value) (y2_25_32 : Int32) (x18_46 : Int32) (vl18_56 : List Value) (f18_31 : Int32) (f18_57 : Int32) (hx18_6 : x18_6 = ((p2 &&& (127 : Int32)) ||| (128 : Int32))) (hy2_25_10 : y2_25_10 = ((p2.toUInt32 >>> ((7 : Int32) &&& 31).toUInt32).toInt32)) (hx18_22 : x18_22 = ((y2_25_10 &&& (127 : Int32)) ||| (128 : Int32))) (hvl18_30 : vl18_30 = (([(.int (nar .byte ((x18_6.toInt8.toInt32))))] : List Value) ++ [(.int (nar .byte ((x18_22.toInt8.toInt32))))])) (hy2_25_32 : y2_25_32 = ((y2_25_10.toUInt32 >>> ((7 : Int32) &&& 31).toUInt32).toInt32)) (hx18_46 : x18_46 = ((y2_25_32 &&& (127 : Int32)) ||| (128 : Int32))) (hvl18_56 : vl18_56 = (vl18_30 ++ [(.int (nar .byte ((x18_46.toInt8.toInt32))))])) (hf18_31 : f18_31 = (((1 : Int32) + (1 : Int32)))) (hf18_57 : f18_57 = ((f18_31 + (1 : Int32)))) (hc6_2 : ¬ (p2 < (128 : Int32))) (hc6_12 : ¬ (y2_25_10 < (128 : Int32))) (hc6_34 : ¬ (y2_25_32 < (128 : Int32))) (hp0 : ¬ p2 < 0) : vl18_56.length = f18_57.toNatClampNeg := by
  have nb : ¬ (1 : Int32) < 0 := by decide
  have tb : (1 : Int32).toInt = 1 := by decide
  have t0b := tb
  have a0 := c_iadd (1 : Int32) 1
  rw [← hf18_31] at a0
  simp only [Int32.reduceToInt] at a0
  have r0 := rng32 f18_31
  have t0 : f18_31.toInt = (1 : Int32).toInt + 1 := by omega
  have s0 : f18_31.toNatClampNeg = (1 : Int32).toNatClampNeg + 1 := by rw [hf18_31]; exact own_suc (1 : Int32) nb (by rw [Int32.lt_iff_toInt_lt]; simp only [Int32.reduceToInt]; omega)
  have n0 : ¬ f18_31 < 0 := by
    rw [Int32.lt_iff_toInt_lt]
    simp only [Int32.reduceToInt]
    omega
  have a1 := c_iadd f18_31 1
  rw [← hf18_57] at a1
  simp only [Int32.reduceToInt] at a1
  have r1 := rng32 f18_57
  have t1 : f18_57.toInt = f18_31.toInt + 1 := by omega
  have s1 : f18_57.toNatClampNeg = f18_31.toNatClampNeg + 1 := by rw [hf18_57]; exact own_suc f18_31 n0 (by rw [Int32.lt_iff_toInt_lt]; simp only [Int32.reduceToInt]; omega)
  have n1 : ¬ f18_57 < 0 := by
    rw [Int32.lt_iff_toInt_lt]
    simp only [Int32.reduceToInt]
    omega
  rw [hvl18_56, hvl18_30]
  simp only [List.length_append, List.length_cons, List.length_nil]
  have e : (1 : Int32).toNatClampNeg = 1 := by decide
  omega
theorem own_6f_hc6_84 (p2 : Int32) (y2_25_10 : Int32) (y2_25_32 : Int32) (y2_25_58 : Int32) (y2_25_82 : Int32) (hy2_25_10 : y2_25_10 = ((p2.toUInt32 >>> ((7 : Int32) &&& 31).toUInt32).toInt32)) (hy2_25_32 : y2_25_32 = ((y2_25_10.toUInt32 >>> ((7 : Int32) &&& 31).toUInt32).toInt32)) (hy2_25_58 : y2_25_58 = ((y2_25_32.toUInt32 >>> ((7 : Int32) &&& 31).toUInt32).toInt32)) (hy2_25_82 : y2_25_82 = ((y2_25_58.toUInt32 >>> ((7 : Int32) &&& 31).toUInt32).toInt32)) (hp0 : ¬ p2 < 0) : y2_25_82 < (128 : Int32) := by
  rw [Int32.lt_iff_toInt_lt] at *
  have z := rng32 p2
  have a0 : y2_25_10.toInt = (p2.toInt % 4294967296) / 128 := by rw [hy2_25_10]; exact c_iushr p2 (7 : Int32) 7 (by decide) (by decide)
  have a1 : y2_25_32.toInt = (y2_25_10.toInt % 4294967296) / 128 := by rw [hy2_25_32]; exact c_iushr y2_25_10 (7 : Int32) 7 (by decide) (by decide)
  have a2 : y2_25_58.toInt = (y2_25_32.toInt % 4294967296) / 128 := by rw [hy2_25_58]; exact c_iushr y2_25_32 (7 : Int32) 7 (by decide) (by decide)
  have a3 : y2_25_82.toInt = (y2_25_58.toInt % 4294967296) / 128 := by rw [hy2_25_82]; exact c_iushr y2_25_58 (7 : Int32) 7 (by decide) (by decide)
  simp only [Int32.reduceToInt] at *
  omega
theorem own_6f_hp31_87 (f18_31 : Int32) (f18_57 : Int32) (f18_81 : Int32) (hf18_31 : f18_31 = (((1 : Int32) + (1 : Int32)))) (hf18_57 : f18_57 = ((f18_31 + (1 : Int32)))) (hf18_81 : f18_81 = ((f18_57 + (1 : Int32))))  : ¬ f18_81 < 0 := by
  have nb : ¬ (1 : Int32) < 0 := by decide
  have tb : (1 : Int32).toInt = 1 := by decide
  have t0b := tb
  have a0 := c_iadd (1 : Int32) 1
  rw [← hf18_31] at a0
  simp only [Int32.reduceToInt] at a0
  have r0 := rng32 f18_31
  have t0 : f18_31.toInt = (1 : Int32).toInt + 1 := by omega
  have s0 : f18_31.toNatClampNeg = (1 : Int32).toNatClampNeg + 1 := by rw [hf18_31]; exact own_suc (1 : Int32) nb (by rw [Int32.lt_iff_toInt_lt]; simp only [Int32.reduceToInt]; omega)
  have n0 : ¬ f18_31 < 0 := by
    rw [Int32.lt_iff_toInt_lt]
    simp only [Int32.reduceToInt]
    omega
  have a1 := c_iadd f18_31 1
  rw [← hf18_57] at a1
  simp only [Int32.reduceToInt] at a1
  have r1 := rng32 f18_57
  have t1 : f18_57.toInt = f18_31.toInt + 1 := by omega
  have s1 : f18_57.toNatClampNeg = f18_31.toNatClampNeg + 1 := by rw [hf18_57]; exact own_suc f18_31 n0 (by rw [Int32.lt_iff_toInt_lt]; simp only [Int32.reduceToInt]; omega)
  have n1 : ¬ f18_57 < 0 := by
    rw [Int32.lt_iff_toInt_lt]
    simp only [Int32.reduceToInt]
    omega
  have a2 := c_iadd f18_57 1
  rw [← hf18_81] at a2
  simp only [Int32.reduceToInt] at a2
  have r2 := rng32 f18_81
  have t2 : f18_81.toInt = f18_57.toInt + 1 := by omega
  have s2 : f18_81.toNatClampNeg = f18_57.toNatClampNeg + 1 := by rw [hf18_81]; exact own_suc f18_57 n1 (by rw [Int32.lt_iff_toInt_lt]; simp only [Int32.reduceToInt]; omega)
  have n2 : ¬ f18_81 < 0 := by
    rw [Int32.lt_iff_toInt_lt]
    simp only [Int32.reduceToInt]
    omega
  exact n2
theorem own_6f_hp31_88 (f18_31 : Int32) (f18_57 : Int32) (f18_81 : Int32) (hf18_31 : f18_31 = (((1 : Int32) + (1 : Int32)))) (hf18_57 : f18_57 = ((f18_31 + (1 : Int32)))) (hf18_81 : f18_81 = ((f18_57 + (1 : Int32))))  : f18_81 < 63 := by
  have nb : ¬ (1 : Int32) < 0 := by decide
  have tb : (1 : Int32).toInt = 1 := by decide
  have t0b := tb
  have a0 := c_iadd (1 : Int32) 1
  rw [← hf18_31] at a0
  simp only [Int32.reduceToInt] at a0
  have r0 := rng32 f18_31
  have t0 : f18_31.toInt = (1 : Int32).toInt + 1 := by omega
  have s0 : f18_31.toNatClampNeg = (1 : Int32).toNatClampNeg + 1 := by rw [hf18_31]; exact own_suc (1 : Int32) nb (by rw [Int32.lt_iff_toInt_lt]; simp only [Int32.reduceToInt]; omega)
  have n0 : ¬ f18_31 < 0 := by
    rw [Int32.lt_iff_toInt_lt]
    simp only [Int32.reduceToInt]
    omega
  have a1 := c_iadd f18_31 1
  rw [← hf18_57] at a1
  simp only [Int32.reduceToInt] at a1
  have r1 := rng32 f18_57
  have t1 : f18_57.toInt = f18_31.toInt + 1 := by omega
  have s1 : f18_57.toNatClampNeg = f18_31.toNatClampNeg + 1 := by rw [hf18_57]; exact own_suc f18_31 n0 (by rw [Int32.lt_iff_toInt_lt]; simp only [Int32.reduceToInt]; omega)
  have n1 : ¬ f18_57 < 0 := by
    rw [Int32.lt_iff_toInt_lt]
    simp only [Int32.reduceToInt]
    omega
  have a2 := c_iadd f18_57 1
  rw [← hf18_81] at a2
  simp only [Int32.reduceToInt] at a2
  have r2 := rng32 f18_81
  have t2 : f18_81.toInt = f18_57.toInt + 1 := by omega
  have s2 : f18_81.toNatClampNeg = f18_57.toNatClampNeg + 1 := by rw [hf18_81]; exact own_suc f18_57 n1 (by rw [Int32.lt_iff_toInt_lt]; simp only [Int32.reduceToInt]; omega)
  have n2 : ¬ f18_81 < 0 := by
    rw [Int32.lt_iff_toInt_lt]
    simp only [Int32.reduceToInt]
    omega
  rw [Int32.lt_iff_toInt_lt]
  simp only [Int32.reduceToInt]
  omega
theorem own_6f_hp31_89 (p2 : Int32) (x18_6 : Int32) (y2_25_10 : Int32) (x18_22 : Int32) (vl18_30 : List Value) (y2_25_32 : Int32) (x18_46 : Int32) (vl18_56 : List Value) (y2_25_58 : Int32) (x18_71 : Int32) (vl18_80 : List Value) (f18_31 : Int32) (f18_57 : Int32) (f18_81 : Int32) (hx18_6 : x18_6 = ((p2 &&& (127 : Int32)) ||| (128 : Int32))) (hy2_25_10 : y2_25_10 = ((p2.toUInt32 >>> ((7 : Int32) &&& 31).toUInt32).toInt32)) (hx18_22 : x18_22 = ((y2_25_10 &&& (127 : Int32)) ||| (128 : Int32))) (hvl18_30 : vl18_30 = (([(.int (nar .byte ((x18_6.toInt8.toInt32))))] : List Value) ++ [(.int (nar .byte ((x18_22.toInt8.toInt32))))])) (hy2_25_32 : y2_25_32 = ((y2_25_10.toUInt32 >>> ((7 : Int32) &&& 31).toUInt32).toInt32)) (hx18_46 : x18_46 = ((y2_25_32 &&& (127 : Int32)) ||| (128 : Int32))) (hvl18_56 : vl18_56 = (vl18_30 ++ [(.int (nar .byte ((x18_46.toInt8.toInt32))))])) (hy2_25_58 : y2_25_58 = ((y2_25_32.toUInt32 >>> ((7 : Int32) &&& 31).toUInt32).toInt32)) (hx18_71 : x18_71 = ((y2_25_58 &&& (127 : Int32)) ||| (128 : Int32))) (hvl18_80 : vl18_80 = (vl18_56 ++ [(.int (nar .byte ((x18_71.toInt8.toInt32))))])) (hf18_31 : f18_31 = (((1 : Int32) + (1 : Int32)))) (hf18_57 : f18_57 = ((f18_31 + (1 : Int32)))) (hf18_81 : f18_81 = ((f18_57 + (1 : Int32)))) (hc6_2 : ¬ (p2 < (128 : Int32))) (hc6_12 : ¬ (y2_25_10 < (128 : Int32))) (hc6_34 : ¬ (y2_25_32 < (128 : Int32))) (hc6_60 : ¬ (y2_25_58 < (128 : Int32))) (hp0 : ¬ p2 < 0) : vl18_80.length = f18_81.toNatClampNeg := by
  have nb : ¬ (1 : Int32) < 0 := by decide
  have tb : (1 : Int32).toInt = 1 := by decide
  have t0b := tb
  have a0 := c_iadd (1 : Int32) 1
  rw [← hf18_31] at a0
  simp only [Int32.reduceToInt] at a0
  have r0 := rng32 f18_31
  have t0 : f18_31.toInt = (1 : Int32).toInt + 1 := by omega
  have s0 : f18_31.toNatClampNeg = (1 : Int32).toNatClampNeg + 1 := by rw [hf18_31]; exact own_suc (1 : Int32) nb (by rw [Int32.lt_iff_toInt_lt]; simp only [Int32.reduceToInt]; omega)
  have n0 : ¬ f18_31 < 0 := by
    rw [Int32.lt_iff_toInt_lt]
    simp only [Int32.reduceToInt]
    omega
  have a1 := c_iadd f18_31 1
  rw [← hf18_57] at a1
  simp only [Int32.reduceToInt] at a1
  have r1 := rng32 f18_57
  have t1 : f18_57.toInt = f18_31.toInt + 1 := by omega
  have s1 : f18_57.toNatClampNeg = f18_31.toNatClampNeg + 1 := by rw [hf18_57]; exact own_suc f18_31 n0 (by rw [Int32.lt_iff_toInt_lt]; simp only [Int32.reduceToInt]; omega)
  have n1 : ¬ f18_57 < 0 := by
    rw [Int32.lt_iff_toInt_lt]
    simp only [Int32.reduceToInt]
    omega
  have a2 := c_iadd f18_57 1
  rw [← hf18_81] at a2
  simp only [Int32.reduceToInt] at a2
  have r2 := rng32 f18_81
  have t2 : f18_81.toInt = f18_57.toInt + 1 := by omega
  have s2 : f18_81.toNatClampNeg = f18_57.toNatClampNeg + 1 := by rw [hf18_81]; exact own_suc f18_57 n1 (by rw [Int32.lt_iff_toInt_lt]; simp only [Int32.reduceToInt]; omega)
  have n2 : ¬ f18_81 < 0 := by
    rw [Int32.lt_iff_toInt_lt]
    simp only [Int32.reduceToInt]
    omega
  rw [hvl18_80, hvl18_56, hvl18_30]
  simp only [List.length_append, List.length_cons, List.length_nil]
  have e : (1 : Int32).toNatClampNeg = 1 := by decide
  omega
def Q6f (Z : State) (a1 : Addr) (p2 : Int32) (kx_w_pieces_a1 : ClassId) (w_pieces_a1 : Addr) (h0 : Heap) (n0 : Nat) (v : Option Value) (h : Heap) (L : List Loc) : Prop := ∃ (t0 : Addr) (kx_t0 : ClassId), v = none ∧ Fr n0 L ∧ Keep h0 h [a1, w_pieces_a1] ∧ h0.size ≤ t0 ∧ Exa Z h a1 "com/example/outcomery/outcomery/PackedNumbers" ∧ Fld Z h a1 "com/example/outcomery/outcomery/PackedNumbers" "length" "I" (.int (own_F (0 : Int32) p2)) ∧ Fld Z h a1 "com/example/outcomery/outcomery/PackedNumbers" "pieces" "[[B" (.ref w_pieces_a1) ∧ Arv Z h w_pieces_a1 kx_w_pieces_a1 (.array .byte) (1 : Int32) [(.ref t0)] .null ∧ OvrA Z kx_w_pieces_a1 .byte "[B" ∧ Exa Z h t0 "[B" ∧ Arv Z h t0 kx_t0 .byte (64 : Int32) (own_E [] p2) (.int (0 : Int32))
set_option maxRecDepth 65536 in
set_option maxHeartbeats 40000000 in
theorem rm6f (l : Launch) (Z : State) (a0 : Array Value) (hw : ∀ d ∈ tables_1, d.before a0 Z = true) (ws : List Jvm.Cond) (a1 : Addr) (p2 : Int32) (kx_w_pieces_a1 : ClassId) (w_pieces_a1 : Addr) (h0 : Heap) (n0 : Nat) (Z0 : n0 ≤ h0.size) (V_w_pieces_a1 : Arv Z h0 w_pieces_a1 kx_w_pieces_a1 (.array .byte) (1 : Int32) [.null] .null) (O_w_pieces_a1 : OvrA Z kx_w_pieces_a1 .byte "[B") (F_pieces_a1 : Fld Z h0 a1 "com/example/outcomery/outcomery/PackedNumbers" "pieces" "[[B" (.ref w_pieces_a1)) (hp0 : ¬ p2 < 0) (F_length_a1 : Fld Z h0 a1 "com/example/outcomery/outcomery/PackedNumbers" "length" "I" (.int (0 : Int32))) (g_w_pieces_a1 : n0 ≤ w_pieces_a1) (ne_a1_w_pieces_a1 : a1 ≠ w_pieces_a1) (E_a1 : Exa Z h0 a1 "com/example/outcomery/outcomery/PackedNumbers") (g_a1 : n0 ≤ a1) :
    MetFree l (⟨"com/example/outcomery/outcomery/PackedNumbers", "add", "(I)V"⟩ : MethodName) (head1 (Jvm.Cond.code (⟨"com/example/outcomery/outcomery/PackedNumbers", "add", "(I)V"⟩ : MethodName) prog_23_method_2_code 3 none :: ws) ({ frames := 1, cells := 1, slots := 64, locals := 16 } : Room)) (fun a U => a = #[(.ref a1), (.int p2)] ∧ Z.Warmed39 U.vm ∧ U.heap = h0) (fun _ _ _ _ _ => True) (fun _ U o U' => ∃ v L, o = .returned v ∧ Q6f Z a1 p2 kx_w_pieces_a1 w_pieces_a1 h0 n0 v U'.heap L ∧ FrameEnd U o U' L ({ frames := 1, cells := 1, slots := 64, locals := 16 } : Room).cells ({ frames := 1, cells := 1, slots := 64, locals := 16 } : Room).slots) := by
  refine MetFree.of_bodySF (plainFor_of_name pn_6) hisR ?_
  intro p e s m args below meth c s₁ Bd hml0 hP hK
  obtain ⟨rfl, hZ, hh⟩ := hP
  have hx := Bd.exec
  have hby := Bd.bytes
  have hml : c.maxLocals = 3 := hml0
  have hown : s.vm.findClass "com/example/outcomery/outcomery/PackedNumbers" = some m.cls := findClass_of_methodNamed Bd.named
  have hnm := (name_of_methodNamed Bd.named Bd.method).1
  have X0 : Stand p l e ({ frames := 1, cells := 1, slots := 64, locals := 16 } : Room) s m #[(.ref a1), (.int p2)] below meth c s₁ [] 0 0 := Stand.of_body Bd
  have e0 : s₁.heap = h0 := by rw [← hh, Bd.state]; rfl
  have N0 := Fr.nil n0
  have K0 : Keep h0 h0 [a1, w_pieces_a1] := Keep.refl h0 _
  refine (show Gl p e below (fun o U' => ∃ v L, o = .returned v ∧ Q6f Z a1 p2 kx_w_pieces_a1 w_pieces_a1 h0 n0 v U'.heap L ∧ FrameEnd s o U' L ({ frames := 1, cells := 1, slots := 64, locals := 16 } : Room).cells ({ frames := 1, cells := 1, slots := 64, locals := 16 } : Room).slots) (s₁.setTop (entryFrame m #[(.ref a1), (.int p2)] 3)) from ?_)
  obtain ⟨L0, hL0⟩ : ∃ z : Array Slot, z = #[.val (.ref a1), .val (.int p2), .unset] := ⟨_, rfl⟩
  refine Gl.st (B := (s₁.setTop (mkF m 0 L0 []))) (fun t k => castTop (efAt hL0 (ef_6f m a1 p2)) k) ?_
  refine Gl.st (B := (s₁.setTop (mkF m 1 L0 [(.int p2)]))) (fun t k => XS.iloadN X0.here hx rfl (hb hby d6_0) (ldAt hL0 rfl) k) ?_
  obtain ⟨L1, hL1⟩ : ∃ z : Array Slot, z = #[.val (.ref a1), .val (.int p2), .val (.int p2)] := ⟨_, rfl⟩
  refine Gl.st (B := (s₁.setTop (mkF m 2 L1 []))) (fun t k => XS.istoreN X0.here hx rfl (hb hby d6_1) rfl (l' := L1) (stAt hL0 hL1 rfl rfl) k) ?_
  refine Gl.st (B := (s₁.setTop (mkF m 3 L1 [(.int p2)]))) (fun t k => XS.iloadN X0.here hx rfl (hb hby d6_2) (ldAt hL1 rfl) k) ?_
  refine Gl.st (B := (s₁.setTop (mkF m 6 L1 [(.int (128 : Int32)), (.int p2)]))) (fun t k => XS.sipush X0.here hx rfl (hb hby d6_3) k) ?_
  by_cases hc6_2 : p2 < (128 : Int32)
  · skip
    refine Gl.st (B := (s₁.setTop (mkF m 29 L1 []))) (fun t k => XS.icmpYes X0.here hx rfl (pc0 := 6) (pc' := 29) rfl (hb hby d6_6) rfl (tlt hc6_2).1 (by decide) (by decide) k) ?_
    refine Gl.st (B := (s₁.setTop (mkF m 30 L1 [(.ref a1)]))) (fun t k => XS.aloadN X0.here hx rfl (hb hby d6_29) (ldAt hL1 rfl) rfl k) ?_
    refine Gl.st (B := (s₁.setTop (mkF m 31 L1 [(.int p2), (.ref a1)]))) (fun t k => XS.iloadN X0.here hx rfl (hb hby d6_30) (ldAt hL1 rfl) k) ?_
    obtain ⟨cq3, q3, q3'⟩ := E_a1.cell
    obtain ⟨_, _, ⟨T3, L3q, k3, n3⟩, -, X3, ⟨Lc3, hQ3, l3, y3, z3⟩, st3⟩ := X0.privateBack hx (y := (⟨"com/example/outcomery/outcomery/PackedNumbers", "put", "(I)V"⟩ : MethodName)) hown (mvT hZ (tw hw 41 rfl)) (mvT hZ (tw hw 42 rfl)) (own_selp (mvT hZ (tw hw 2 rfl)) (mvP hZ (tw hw 43 rfl)) (mvT hZ (tw hw 42 rfl)) (by decide)) (Cond.privateMethod_at (mvP hZ (tw hw 43 rfl) (args := #[]))) (mvT hZ (tw hw 44 rfl)) (by decide) (backOf (W := 0) (rm7f l Z a0 hw [] a1 p2 kx_w_pieces_a1 w_pieces_a1 h0 n0 Z0 V_w_pieces_a1 O_w_pieces_a1 F_pieces_a1 F_length_a1 g_w_pieces_a1 ne_a1_w_pieces_a1 E_a1 g_a1) hZ (tw hw 44 rfl) (tw hw 3 rfl) (by decide) (by decide)) (g := (mkF m 31 L1 [(.int p2), (.ref a1)])) rfl (szAt hml hL1 rfl) (Steps.refl _) (a := a1) (by rw [e0]; exact q3) q3' (argsL := [(.int p2)]) (rest := []) (lenOf pd_6f_0 rfl) rfl (by show 2 * 0 + _ ≤ _; exact Nat.le_of_eq rfl) (hb hby d6_31) (fun _ _ => ⟨rfl, e0, (by decide : 0 + 1 ≤ _), (by decide : 0 + 64 ≤ _)⟩)
    dsimp only [Pt.U, Pt.locs, Pt.cells, Pt.slots] at X3 l3 y3 z3 st3 hQ3
    subst l3 y3 z3
    obtain ⟨b3_t0, k3_kx_t0, rfl, N3q, Kc3, fq3_0, fq3_1, fq3_2, fq3_3, fq3_4, fq3_5, fq3_6, fq3_7⟩ := hQ3
    have g_b3_t0 : n0 ≤ b3_t0 := Nat.le_trans Z0 fq3_0
    have sz_b3_t0 : h0.size ≤ b3_t0 := Nat.le_trans K0.1 fq3_0
    have lt_b3_t0 := fq3_6.lt
    have Zc4 : n0 ≤ T3.heap.size := Nat.le_trans Z0 Kc3.1
    have K5 : Keep h0 T3.heap [a1, w_pieces_a1] := K0.trans Kc3 (allS (Or.inl (List.mem_of_getElem? (i := 1) rfl)) (allS (Or.inl (List.mem_of_getElem? (i := 0) rfl)) all0))
    have N3 := Fr.app N0 N3q
    refine Gl.st (B := (T3.setTop (mkF m 34 L1 []))) (fun t k => st3.trans k) ?_
    obtain ⟨fs, hr, hrun, hended, hW, hsame⟩ := X3.leave (v := none) (fun _ => rfl)
    refine Gl.fin (X3.returnOut hx Bd.returns (hb hby d6_34) hr) hrun hended ⟨_, _, rfl, ?_, ⟨_, rfl⟩, hW, hsame.mono (by decide) (by decide)⟩
    show Q6f Z a1 p2 kx_w_pieces_a1 w_pieces_a1 h0 n0 _ T3.heap _
    exact ⟨b3_t0, k3_kx_t0, rfl, N3, K5, sz_b3_t0, fq3_3, (by rw [own_F_eq, if_pos hc6_2]; exact fq3_4), fq3_5, fq3_1, fq3_2, fq3_6, (by rw [own_E_eq, if_pos hc6_2]; exact fq3_7)⟩
  · skip
    refine Gl.st (B := (s₁.setTop (mkF m 9 L1 []))) (fun t k => XS.icmpNo X0.here hx rfl (hb hby d6_6) rfl (flt hc6_2).1 k) ?_
    refine Gl.st (B := (s₁.setTop (mkF m 10 L1 [(.ref a1)]))) (fun t k => XS.aloadN X0.here hx rfl (hb hby d6_9) (ldAt hL1 rfl) rfl k) ?_
    refine Gl.st (B := (s₁.setTop (mkF m 11 L1 [(.int p2), (.ref a1)]))) (fun t k => XS.iloadN X0.here hx rfl (hb hby d6_10) (ldAt hL1 rfl) k) ?_
    refine Gl.st (B := (s₁.setTop (mkF m 13 L1 [(.int (127 : Int32)), (.int p2), (.ref a1)]))) (fun t k => XS.bipush X0.here hx rfl (hb hby d6_11) k) ?_
    refine Gl.st (B := (s₁.setTop (mkF m 14 L1 [(.int (p2 &&& (127 : Int32))), (.ref a1)]))) (fun t k => XS.iand X0.here hx rfl (hb hby d6_13) rfl k) ?_
    refine Gl.st (B := (s₁.setTop (mkF m 17 L1 [(.int (128 : Int32)), (.int (p2 &&& (127 : Int32))), (.ref a1)]))) (fun t k => XS.sipush X0.here hx rfl (hb hby d6_14) k) ?_
    refine Gl.st (B := (s₁.setTop (mkF m 18 L1 [(.int ((p2 &&& (127 : Int32)) ||| (128 : Int32))), (.ref a1)]))) (fun t k => XS.ior X0.here hx rfl (hb hby d6_17) rfl k) ?_
    obtain ⟨x18_6, hx18_6⟩ : ∃ z : Int32, z = ((p2 &&& (127 : Int32)) ||| (128 : Int32)) := ⟨_, rfl⟩
    refine Gl.cast (B := (s₁.setTop (mkF m 18 L1 [(.int x18_6), (.ref a1)]))) (by rw [hx18_6]) ?_
    obtain ⟨cq7, q7, q7'⟩ := E_a1.cell
    obtain ⟨_, _, ⟨T7, L7q, k7, n7⟩, -, X7, ⟨Lc7, hQ7, l7, y7, z7⟩, st7⟩ := X0.privateBack hx (y := (⟨"com/example/outcomery/outcomery/PackedNumbers", "put", "(I)V"⟩ : MethodName)) hown (mvT hZ (tw hw 41 rfl)) (mvT hZ (tw hw 42 rfl)) (own_selp (mvT hZ (tw hw 2 rfl)) (mvP hZ (tw hw 43 rfl)) (mvT hZ (tw hw 42 rfl)) (by decide)) (Cond.privateMethod_at (mvP hZ (tw hw 43 rfl) (args := #[]))) (mvT hZ (tw hw 44 rfl)) (by decide) (backOf (W := 0) (rm7f l Z a0 hw [] a1 x18_6 kx_w_pieces_a1 w_pieces_a1 h0 n0 Z0 V_w_pieces_a1 O_w_pieces_a1 F_pieces_a1 F_length_a1 g_w_pieces_a1 ne_a1_w_pieces_a1 E_a1 g_a1) hZ (tw hw 44 rfl) (tw hw 3 rfl) (by decide) (by decide)) (g := (mkF m 18 L1 [(.int x18_6), (.ref a1)])) rfl (szAt hml hL1 rfl) (Steps.refl _) (a := a1) (by rw [e0]; exact q7) q7' (argsL := [(.int x18_6)]) (rest := []) (lenOf pd_6f_0 rfl) rfl (by show 2 * 0 + _ ≤ _; exact Nat.le_of_eq rfl) (hb hby d6_18) (fun _ _ => ⟨rfl, e0, (by decide : 0 + 1 ≤ _), (by decide : 0 + 64 ≤ _)⟩)
    dsimp only [Pt.U, Pt.locs, Pt.cells, Pt.slots] at X7 l7 y7 z7 st7 hQ7
    subst l7 y7 z7
    obtain ⟨b7_t0, k7_kx_t0, rfl, N7q, Kc7, fq7_0, fq7_1, fq7_2, fq7_3, fq7_4, fq7_5, fq7_6, fq7_7⟩ := hQ7
    have g_b7_t0 : n0 ≤ b7_t0 := Nat.le_trans Z0 fq7_0
    have sz_b7_t0 : h0.size ≤ b7_t0 := Nat.le_trans K0.1 fq7_0
    have lt_b7_t0 := fq7_6.lt
    have Zc8 : n0 ≤ T7.heap.size := Nat.le_trans Z0 Kc7.1
    have K9 : Keep h0 T7.heap [a1, w_pieces_a1] := K0.trans Kc7 (allS (Or.inl (List.mem_of_getElem? (i := 1) rfl)) (allS (Or.inl (List.mem_of_getElem? (i := 0) rfl)) all0))
    have N7 := Fr.app N0 N7q
    refine Gl.st (B := (T7.setTop (mkF m 21 L1 []))) (fun t k => st7.trans k) ?_
    refine Gl.st (B := (T7.setTop (mkF m 22 L1 [(.int p2)]))) (fun t k => XS.iloadN X7.here hx rfl (hb hby d6_21) (ldAt hL1 rfl) k) ?_
    refine Gl.st (B := (T7.setTop (mkF m 24 L1 [(.int (7 : Int32)), (.int p2)]))) (fun t k => XS.bipush X7.here hx rfl (hb hby d6_22) k) ?_
    refine Gl.st (B := (T7.setTop (mkF m 25 L1 [(.int ((p2.toUInt32 >>> ((7 : Int32) &&& 31).toUInt32).toInt32))]))) (fun t k => XS.iushr X7.here hx rfl (hb hby d6_24) rfl k) ?_
    obtain ⟨y2_25_10, hy2_25_10⟩ : ∃ z : Int32, z = ((p2.toUInt32 >>> ((7 : Int32) &&& 31).toUInt32).toInt32) := ⟨_, rfl⟩
    refine Gl.cast (B := (T7.setTop (mkF m 25 L1 [(.int y2_25_10)]))) (by rw [hy2_25_10]) ?_
    obtain ⟨L11, hL11⟩ : ∃ z : Array Slot, z = #[.val (.ref a1), .val (.int p2), .val (.int y2_25_10)] := ⟨_, rfl⟩
    refine Gl.st (B := (T7.setTop (mkF m 26 L11 []))) (fun t k => XS.istoreN X7.here hx rfl (hb hby d6_25) rfl (l' := L11) (stAt hL1 hL11 rfl rfl) k) ?_
    refine Gl.st (B := (T7.setTop (mkF m 2 L11 []))) (fun t k => XS.goto X7.here hx rfl (pc0 := 26) (pc' := 2) rfl (hb hby d6_26) (by decide) (by decide) k) ?_
    refine Gl.st (B := (T7.setTop (mkF m 3 L11 [(.int y2_25_10)]))) (fun t k => XS.iloadN X7.here hx rfl (hb hby d6_2) (ldAt hL11 rfl) k) ?_
    refine Gl.st (B := (T7.setTop (mkF m 6 L11 [(.int (128 : Int32)), (.int y2_25_10)]))) (fun t k => XS.sipush X7.here hx rfl (hb hby d6_3) k) ?_
    by_cases hc6_12 : y2_25_10 < (128 : Int32)
    · skip
      refine Gl.st (B := (T7.setTop (mkF m 29 L11 []))) (fun t k => XS.icmpYes X7.here hx rfl (pc0 := 6) (pc' := 29) rfl (hb hby d6_6) rfl (tlt hc6_12).1 (by decide) (by decide) k) ?_
      refine Gl.st (B := (T7.setTop (mkF m 30 L11 [(.ref a1)]))) (fun t k => XS.aloadN X7.here hx rfl (hb hby d6_29) (ldAt hL11 rfl) rfl k) ?_
      refine Gl.st (B := (T7.setTop (mkF m 31 L11 [(.int y2_25_10), (.ref a1)]))) (fun t k => XS.iloadN X7.here hx rfl (hb hby d6_30) (ldAt hL11 rfl) k) ?_
      have hp31_14 : ¬ (1 : Int32) < 0 := by
        decide
      have hp31_15 : (1 : Int32) < 63 := by
        decide
      have hp31_16 : ([(.int (nar .byte ((x18_6.toInt8.toInt32))))] : List Value).length = (1 : Int32).toNatClampNeg := by
        rfl
      have ne_a1_b7_t0_17 : a1 ≠ b7_t0 := Nat.ne_of_lt (Nat.lt_of_lt_of_le F_pieces_a1.lt fq7_0)
      obtain ⟨cq13, q13, q13'⟩ := fq7_3.cell
      obtain ⟨_, _, ⟨T13, L13q, k13, n13⟩, -, X13, ⟨Lc13, hQ13, l13, y13, z13⟩, st13⟩ := X7.privateBack hx (y := (⟨"com/example/outcomery/outcomery/PackedNumbers", "put", "(I)V"⟩ : MethodName)) hown (mvT hZ (tw hw 41 rfl)) (mvT hZ (tw hw 42 rfl)) (own_selp (mvT hZ (tw hw 2 rfl)) (mvP hZ (tw hw 43 rfl)) (mvT hZ (tw hw 42 rfl)) (by decide)) (Cond.privateMethod_at (mvP hZ (tw hw 43 rfl) (args := #[]))) (mvT hZ (tw hw 44 rfl)) (by decide) (backOf (W := 0) (rm7n l Z a0 hw [] a1 y2_25_10 kx_w_pieces_a1 b7_t0 k7_kx_t0 ([(.int (nar .byte ((x18_6.toInt8.toInt32))))] : List Value) w_pieces_a1 (1 : Int32) T7.heap n0 Zc8 fq7_1 fq7_2 fq7_7 fq7_5 fq7_4 hp31_14 hp31_15 hp31_16 g_b7_t0 ne_a1_b7_t0_17 fq7_3 g_a1) hZ (tw hw 44 rfl) (tw hw 3 rfl) (by decide) (by decide)) (g := (mkF m 31 L11 [(.int y2_25_10), (.ref a1)])) rfl (szAt hml hL11 rfl) (Steps.refl _) (a := a1) q13 q13' (argsL := [(.int y2_25_10)]) (rest := []) (lenOf pd_6f_0 rfl) rfl (by show 2 * 0 + _ ≤ _; exact Nat.le_of_eq rfl) (hb hby d6_31) (fun _ _ => ⟨rfl, rfl, (by decide : 1 + 0 ≤ _), (by decide : 64 + 0 ≤ _)⟩)
      dsimp only [Pt.U, Pt.locs, Pt.cells, Pt.slots] at X13 l13 y13 z13 st13 hQ13
      subst l13 y13 z13
      obtain ⟨rfl, N13q, Kc13, fq13_0, fq13_1, fq13_2, fq13_3⟩ := hQ13
      have Zc18 : n0 ≤ T13.heap.size := Nat.le_trans Zc8 Kc13.1
      have K19 : Keep h0 T13.heap [a1, w_pieces_a1] := K9.trans Kc13 (allS (Or.inr sz_b7_t0) (allS (Or.inl (List.mem_of_getElem? (i := 0) rfl)) all0))
      obtain ⟨vl31_20, hvl31_20⟩ : ∃ z : List Value, z = (([(.int (nar .byte ((x18_6.toInt8.toInt32))))] : List Value) ++ [(.int (nar .byte ((y2_25_10.toInt8.toInt32))))]) := ⟨_, rfl⟩
      rw [← hvl31_20] at fq13_0
      obtain ⟨f31_21, hf31_21⟩ : ∃ z : Int32, z = (((1 : Int32) + (1 : Int32))) := ⟨_, rfl⟩
      rw [← hf31_21] at fq13_2
      have N13 := Fr.app N7 N13q
      refine Gl.st (B := (T13.setTop (mkF m 34 L11 []))) (fun t k => st13.trans k) ?_
      obtain ⟨fs, hr, hrun, hended, hW, hsame⟩ := X13.leave (v := none) (fun _ => rfl)
      refine Gl.fin (X13.returnOut hx Bd.returns (hb hby d6_34) hr) hrun hended ⟨_, _, rfl, ?_, ⟨_, rfl⟩, hW, hsame.mono (by decide) (by decide)⟩
      show Q6f Z a1 p2 kx_w_pieces_a1 w_pieces_a1 h0 n0 _ T13.heap _
      have ne_w_pieces_a1_b7_t0_22 : w_pieces_a1 ≠ b7_t0 := Nat.ne_of_lt (Nat.lt_of_lt_of_le V_w_pieces_a1.lt fq7_0)
      have c23 := (fq7_1.keep Kc13 (ninS ne_w_pieces_a1_b7_t0_22 (ninS (Ne.symm ne_a1_w_pieces_a1) nin0)))
      have c24 := (fq7_6.keep Kc13)
      exact ⟨b7_t0, k7_kx_t0, rfl, N13, K19, sz_b7_t0, fq13_1, (by subst hf31_21; subst hy2_25_10; rw [own_F_eq, if_neg hc6_2, if_pos hc6_12]; exact fq13_2), fq13_3, c23, fq7_2, c24, (by subst hvl31_20; subst hx18_6; subst hy2_25_10; rw [own_E_eq, if_neg hc6_2, if_pos hc6_12]; exact fq13_0)⟩
    · skip
      refine Gl.st (B := (T7.setTop (mkF m 9 L11 []))) (fun t k => XS.icmpNo X7.here hx rfl (hb hby d6_6) rfl (flt hc6_12).1 k) ?_
      refine Gl.st (B := (T7.setTop (mkF m 10 L11 [(.ref a1)]))) (fun t k => XS.aloadN X7.here hx rfl (hb hby d6_9) (ldAt hL11 rfl) rfl k) ?_
      refine Gl.st (B := (T7.setTop (mkF m 11 L11 [(.int y2_25_10), (.ref a1)]))) (fun t k => XS.iloadN X7.here hx rfl (hb hby d6_10) (ldAt hL11 rfl) k) ?_
      refine Gl.st (B := (T7.setTop (mkF m 13 L11 [(.int (127 : Int32)), (.int y2_25_10), (.ref a1)]))) (fun t k => XS.bipush X7.here hx rfl (hb hby d6_11) k) ?_
      refine Gl.st (B := (T7.setTop (mkF m 14 L11 [(.int (y2_25_10 &&& (127 : Int32))), (.ref a1)]))) (fun t k => XS.iand X7.here hx rfl (hb hby d6_13) rfl k) ?_
      refine Gl.st (B := (T7.setTop (mkF m 17 L11 [(.int (128 : Int32)), (.int (y2_25_10 &&& (127 : Int32))), (.ref a1)]))) (fun t k => XS.sipush X7.here hx rfl (hb hby d6_14) k) ?_
      refine Gl.st (B := (T7.setTop (mkF m 18 L11 [(.int ((y2_25_10 &&& (127 : Int32)) ||| (128 : Int32))), (.ref a1)]))) (fun t k => XS.ior X7.here hx rfl (hb hby d6_17) rfl k) ?_
      obtain ⟨x18_22, hx18_22⟩ : ∃ z : Int32, z = ((y2_25_10 &&& (127 : Int32)) ||| (128 : Int32)) := ⟨_, rfl⟩
      refine Gl.cast (B := (T7.setTop (mkF m 18 L11 [(.int x18_22), (.ref a1)]))) (by rw [hx18_22]) ?_
      have hp18_24 : ¬ (1 : Int32) < 0 := by
        decide
      have hp18_25 : (1 : Int32) < 63 := by
        decide
      have hp18_26 : ([(.int (nar .byte ((x18_6.toInt8.toInt32))))] : List Value).length = (1 : Int32).toNatClampNeg := by
        rfl
      have ne_a1_b7_t0_27 : a1 ≠ b7_t0 := Nat.ne_of_lt (Nat.lt_of_lt_of_le F_pieces_a1.lt fq7_0)
      obtain ⟨cq23, q23, q23'⟩ := fq7_3.cell
      obtain ⟨_, _, ⟨T23, L23q, k23, n23⟩, -, X23, ⟨Lc23, hQ23, l23, y23, z23⟩, st23⟩ := X7.privateBack hx (y := (⟨"com/example/outcomery/outcomery/PackedNumbers", "put", "(I)V"⟩ : MethodName)) hown (mvT hZ (tw hw 41 rfl)) (mvT hZ (tw hw 42 rfl)) (own_selp (mvT hZ (tw hw 2 rfl)) (mvP hZ (tw hw 43 rfl)) (mvT hZ (tw hw 42 rfl)) (by decide)) (Cond.privateMethod_at (mvP hZ (tw hw 43 rfl) (args := #[]))) (mvT hZ (tw hw 44 rfl)) (by decide) (backOf (W := 0) (rm7n l Z a0 hw [] a1 x18_22 kx_w_pieces_a1 b7_t0 k7_kx_t0 ([(.int (nar .byte ((x18_6.toInt8.toInt32))))] : List Value) w_pieces_a1 (1 : Int32) T7.heap n0 Zc8 fq7_1 fq7_2 fq7_7 fq7_5 fq7_4 hp18_24 hp18_25 hp18_26 g_b7_t0 ne_a1_b7_t0_27 fq7_3 g_a1) hZ (tw hw 44 rfl) (tw hw 3 rfl) (by decide) (by decide)) (g := (mkF m 18 L11 [(.int x18_22), (.ref a1)])) rfl (szAt hml hL11 rfl) (Steps.refl _) (a := a1) q23 q23' (argsL := [(.int x18_22)]) (rest := []) (lenOf pd_6f_0 rfl) rfl (by show 2 * 0 + _ ≤ _; exact Nat.le_of_eq rfl) (hb hby d6_18) (fun _ _ => ⟨rfl, rfl, (by decide : 1 + 0 ≤ _), (by decide : 64 + 0 ≤ _)⟩)
      dsimp only [Pt.U, Pt.locs, Pt.cells, Pt.slots] at X23 l23 y23 z23 st23 hQ23
      subst l23 y23 z23
      obtain ⟨rfl, N23q, Kc23, fq23_0, fq23_1, fq23_2, fq23_3⟩ := hQ23
      have Zc28 : n0 ≤ T23.heap.size := Nat.le_trans Zc8 Kc23.1
      have K29 : Keep h0 T23.heap [a1, w_pieces_a1] := K9.trans Kc23 (allS (Or.inr sz_b7_t0) (allS (Or.inl (List.mem_of_getElem? (i := 0) rfl)) all0))
      obtain ⟨vl18_30, hvl18_30⟩ : ∃ z : List Value, z = (([(.int (nar .byte ((x18_6.toInt8.toInt32))))] : List Value) ++ [(.int (nar .byte ((x18_22.toInt8.toInt32))))]) := ⟨_, rfl⟩
      rw [← hvl18_30] at fq23_0
      obtain ⟨f18_31, hf18_31⟩ : ∃ z : Int32, z = (((1 : Int32) + (1 : Int32))) := ⟨_, rfl⟩
      rw [← hf18_31] at fq23_2
      have N23 := Fr.app N7 N23q
      refine Gl.st (B := (T23.setTop (mkF m 21 L11 []))) (fun t k => st23.trans k) ?_
      refine Gl.st (B := (T23.setTop (mkF m 22 L11 [(.int y2_25_10)]))) (fun t k => XS.iloadN X23.here hx rfl (hb hby d6_21) (ldAt hL11 rfl) k) ?_
      refine Gl.st (B := (T23.setTop (mkF m 24 L11 [(.int (7 : Int32)), (.int y2_25_10)]))) (fun t k => XS.bipush X23.here hx rfl (hb hby d6_22) k) ?_
      refine Gl.st (B := (T23.setTop (mkF m 25 L11 [(.int ((y2_25_10.toUInt32 >>> ((7 : Int32) &&& 31).toUInt32).toInt32))]))) (fun t k => XS.iushr X23.here hx rfl (hb hby d6_24) rfl k) ?_
      obtain ⟨y2_25_32, hy2_25_32⟩ : ∃ z : Int32, z = ((y2_25_10.toUInt32 >>> ((7 : Int32) &&& 31).toUInt32).toInt32) := ⟨_, rfl⟩
      refine Gl.cast (B := (T23.setTop (mkF m 25 L11 [(.int y2_25_32)]))) (by rw [hy2_25_32]) ?_
      obtain ⟨L33, hL33⟩ : ∃ z : Array Slot, z = #[.val (.ref a1), .val (.int p2), .val (.int y2_25_32)] := ⟨_, rfl⟩
      refine Gl.st (B := (T23.setTop (mkF m 26 L33 []))) (fun t k => XS.istoreN X23.here hx rfl (hb hby d6_25) rfl (l' := L33) (stAt hL11 hL33 rfl rfl) k) ?_
      refine Gl.st (B := (T23.setTop (mkF m 2 L33 []))) (fun t k => XS.goto X23.here hx rfl (pc0 := 26) (pc' := 2) rfl (hb hby d6_26) (by decide) (by decide) k) ?_
      refine Gl.st (B := (T23.setTop (mkF m 3 L33 [(.int y2_25_32)]))) (fun t k => XS.iloadN X23.here hx rfl (hb hby d6_2) (ldAt hL33 rfl) k) ?_
      refine Gl.st (B := (T23.setTop (mkF m 6 L33 [(.int (128 : Int32)), (.int y2_25_32)]))) (fun t k => XS.sipush X23.here hx rfl (hb hby d6_3) k) ?_
      by_cases hc6_34 : y2_25_32 < (128 : Int32)
      · skip
        refine Gl.st (B := (T23.setTop (mkF m 29 L33 []))) (fun t k => XS.icmpYes X23.here hx rfl (pc0 := 6) (pc' := 29) rfl (hb hby d6_6) rfl (tlt hc6_34).1 (by decide) (by decide) k) ?_
        refine Gl.st (B := (T23.setTop (mkF m 30 L33 [(.ref a1)]))) (fun t k => XS.aloadN X23.here hx rfl (hb hby d6_29) (ldAt hL33 rfl) rfl k) ?_
        refine Gl.st (B := (T23.setTop (mkF m 31 L33 [(.int y2_25_32), (.ref a1)]))) (fun t k => XS.iloadN X23.here hx rfl (hb hby d6_30) (ldAt hL33 rfl) k) ?_
        have ne_w_pieces_a1_b7_t0_36 : w_pieces_a1 ≠ b7_t0 := Nat.ne_of_lt (Nat.lt_of_lt_of_le V_w_pieces_a1.lt fq7_0)
        have c37 := (fq7_1.keep Kc23 (ninS ne_w_pieces_a1_b7_t0_36 (ninS (Ne.symm ne_a1_w_pieces_a1) nin0)))
        have hp31_38 : ¬ f18_31 < 0 := own_6f_hp31_38 f18_31 hf18_31 
        have hp31_39 : f18_31 < 63 := own_6f_hp31_39 f18_31 hf18_31 
        have hp31_40 : vl18_30.length = f18_31.toNatClampNeg := own_6f_hp31_40 p2 x18_6 y2_25_10 x18_22 vl18_30 f18_31 hx18_6 hy2_25_10 hx18_22 hvl18_30 hf18_31 hc6_2 hc6_12 hp0
        obtain ⟨cq35, q35, q35'⟩ := fq23_1.cell
        obtain ⟨_, _, ⟨T35, L35q, k35, n35⟩, -, X35, ⟨Lc35, hQ35, l35, y35, z35⟩, st35⟩ := X23.privateBack hx (y := (⟨"com/example/outcomery/outcomery/PackedNumbers", "put", "(I)V"⟩ : MethodName)) hown (mvT hZ (tw hw 41 rfl)) (mvT hZ (tw hw 42 rfl)) (own_selp (mvT hZ (tw hw 2 rfl)) (mvP hZ (tw hw 43 rfl)) (mvT hZ (tw hw 42 rfl)) (by decide)) (Cond.privateMethod_at (mvP hZ (tw hw 43 rfl) (args := #[]))) (mvT hZ (tw hw 44 rfl)) (by decide) (backOf (W := 0) (rm7n l Z a0 hw [] a1 y2_25_32 kx_w_pieces_a1 b7_t0 k7_kx_t0 vl18_30 w_pieces_a1 f18_31 T23.heap n0 Zc28 c37 fq7_2 fq23_0 fq23_3 fq23_2 hp31_38 hp31_39 hp31_40 g_b7_t0 ne_a1_b7_t0_27 fq23_1 g_a1) hZ (tw hw 44 rfl) (tw hw 3 rfl) (by decide) (by decide)) (g := (mkF m 31 L33 [(.int y2_25_32), (.ref a1)])) rfl (szAt hml hL33 rfl) (Steps.refl _) (a := a1) q35 q35' (argsL := [(.int y2_25_32)]) (rest := []) (lenOf pd_6f_0 rfl) rfl (by show 2 * 0 + _ ≤ _; exact Nat.le_of_eq rfl) (hb hby d6_31) (fun _ _ => ⟨rfl, rfl, (by decide : 1 + 0 ≤ _), (by decide : 64 + 0 ≤ _)⟩)
        dsimp only [Pt.U, Pt.locs, Pt.cells, Pt.slots] at X35 l35 y35 z35 st35 hQ35
        subst l35 y35 z35
        obtain ⟨rfl, N35q, Kc35, fq35_0, fq35_1, fq35_2, fq35_3⟩ := hQ35
        have c41 := (fq7_6.keep Kc23)
        have Zc42 : n0 ≤ T35.heap.size := Nat.le_trans Zc28 Kc35.1
        have K43 : Keep h0 T35.heap [a1, w_pieces_a1] := K29.trans Kc35 (allS (Or.inr sz_b7_t0) (allS (Or.inl (List.mem_of_getElem? (i := 0) rfl)) all0))
        obtain ⟨vl31_44, hvl31_44⟩ : ∃ z : List Value, z = (vl18_30 ++ [(.int (nar .byte ((y2_25_32.toInt8.toInt32))))]) := ⟨_, rfl⟩
        rw [← hvl31_44] at fq35_0
        obtain ⟨f31_45, hf31_45⟩ : ∃ z : Int32, z = ((f18_31 + (1 : Int32))) := ⟨_, rfl⟩
        rw [← hf31_45] at fq35_2
        have N35 := Fr.app N23 N35q
        refine Gl.st (B := (T35.setTop (mkF m 34 L33 []))) (fun t k => st35.trans k) ?_
        obtain ⟨fs, hr, hrun, hended, hW, hsame⟩ := X35.leave (v := none) (fun _ => rfl)
        refine Gl.fin (X35.returnOut hx Bd.returns (hb hby d6_34) hr) hrun hended ⟨_, _, rfl, ?_, ⟨_, rfl⟩, hW, hsame.mono (by decide) (by decide)⟩
        show Q6f Z a1 p2 kx_w_pieces_a1 w_pieces_a1 h0 n0 _ T35.heap _
        have c46 := (c37.keep Kc35 (ninS ne_w_pieces_a1_b7_t0_36 (ninS (Ne.symm ne_a1_w_pieces_a1) nin0)))
        have c47 := (c41.keep Kc35)
        exact ⟨b7_t0, k7_kx_t0, rfl, N35, K43, sz_b7_t0, fq35_1, (by subst hf31_45; subst hf18_31; subst hy2_25_10; subst hy2_25_32; rw [own_F_eq, if_neg hc6_2, if_neg hc6_12, if_pos hc6_34]; exact fq35_2), fq35_3, c46, fq7_2, c47, (by subst hvl31_44; subst hvl18_30; subst hx18_6; subst hx18_22; subst hy2_25_10; subst hy2_25_32; rw [own_E_eq, if_neg hc6_2, if_neg hc6_12, if_pos hc6_34]; exact fq35_0)⟩
      · skip
        refine Gl.st (B := (T23.setTop (mkF m 9 L33 []))) (fun t k => XS.icmpNo X23.here hx rfl (hb hby d6_6) rfl (flt hc6_34).1 k) ?_
        refine Gl.st (B := (T23.setTop (mkF m 10 L33 [(.ref a1)]))) (fun t k => XS.aloadN X23.here hx rfl (hb hby d6_9) (ldAt hL33 rfl) rfl k) ?_
        refine Gl.st (B := (T23.setTop (mkF m 11 L33 [(.int y2_25_32), (.ref a1)]))) (fun t k => XS.iloadN X23.here hx rfl (hb hby d6_10) (ldAt hL33 rfl) k) ?_
        refine Gl.st (B := (T23.setTop (mkF m 13 L33 [(.int (127 : Int32)), (.int y2_25_32), (.ref a1)]))) (fun t k => XS.bipush X23.here hx rfl (hb hby d6_11) k) ?_
        refine Gl.st (B := (T23.setTop (mkF m 14 L33 [(.int (y2_25_32 &&& (127 : Int32))), (.ref a1)]))) (fun t k => XS.iand X23.here hx rfl (hb hby d6_13) rfl k) ?_
        refine Gl.st (B := (T23.setTop (mkF m 17 L33 [(.int (128 : Int32)), (.int (y2_25_32 &&& (127 : Int32))), (.ref a1)]))) (fun t k => XS.sipush X23.here hx rfl (hb hby d6_14) k) ?_
        refine Gl.st (B := (T23.setTop (mkF m 18 L33 [(.int ((y2_25_32 &&& (127 : Int32)) ||| (128 : Int32))), (.ref a1)]))) (fun t k => XS.ior X23.here hx rfl (hb hby d6_17) rfl k) ?_
        obtain ⟨x18_46, hx18_46⟩ : ∃ z : Int32, z = ((y2_25_32 &&& (127 : Int32)) ||| (128 : Int32)) := ⟨_, rfl⟩
        refine Gl.cast (B := (T23.setTop (mkF m 18 L33 [(.int x18_46), (.ref a1)]))) (by rw [hx18_46]) ?_
        have ne_w_pieces_a1_b7_t0_48 : w_pieces_a1 ≠ b7_t0 := Nat.ne_of_lt (Nat.lt_of_lt_of_le V_w_pieces_a1.lt fq7_0)
        have c49 := (fq7_1.keep Kc23 (ninS ne_w_pieces_a1_b7_t0_48 (ninS (Ne.symm ne_a1_w_pieces_a1) nin0)))
        have hp18_50 : ¬ f18_31 < 0 := own_6f_hp18_50 f18_31 hf18_31 
        have hp18_51 : f18_31 < 63 := own_6f_hp18_51 f18_31 hf18_31 
        have hp18_52 : vl18_30.length = f18_31.toNatClampNeg := own_6f_hp18_52 p2 x18_6 y2_25_10 x18_22 vl18_30 f18_31 hx18_6 hy2_25_10 hx18_22 hvl18_30 hf18_31 hc6_2 hc6_12 hp0
        obtain ⟨cq47, q47, q47'⟩ := fq23_1.cell
        obtain ⟨_, _, ⟨T47, L47q, k47, n47⟩, -, X47, ⟨Lc47, hQ47, l47, y47, z47⟩, st47⟩ := X23.privateBack hx (y := (⟨"com/example/outcomery/outcomery/PackedNumbers", "put", "(I)V"⟩ : MethodName)) hown (mvT hZ (tw hw 41 rfl)) (mvT hZ (tw hw 42 rfl)) (own_selp (mvT hZ (tw hw 2 rfl)) (mvP hZ (tw hw 43 rfl)) (mvT hZ (tw hw 42 rfl)) (by decide)) (Cond.privateMethod_at (mvP hZ (tw hw 43 rfl) (args := #[]))) (mvT hZ (tw hw 44 rfl)) (by decide) (backOf (W := 0) (rm7n l Z a0 hw [] a1 x18_46 kx_w_pieces_a1 b7_t0 k7_kx_t0 vl18_30 w_pieces_a1 f18_31 T23.heap n0 Zc28 c49 fq7_2 fq23_0 fq23_3 fq23_2 hp18_50 hp18_51 hp18_52 g_b7_t0 ne_a1_b7_t0_27 fq23_1 g_a1) hZ (tw hw 44 rfl) (tw hw 3 rfl) (by decide) (by decide)) (g := (mkF m 18 L33 [(.int x18_46), (.ref a1)])) rfl (szAt hml hL33 rfl) (Steps.refl _) (a := a1) q47 q47' (argsL := [(.int x18_46)]) (rest := []) (lenOf pd_6f_0 rfl) rfl (by show 2 * 0 + _ ≤ _; exact Nat.le_of_eq rfl) (hb hby d6_18) (fun _ _ => ⟨rfl, rfl, (by decide : 1 + 0 ≤ _), (by decide : 64 + 0 ≤ _)⟩)
        dsimp only [Pt.U, Pt.locs, Pt.cells, Pt.slots] at X47 l47 y47 z47 st47 hQ47
        subst l47 y47 z47
        obtain ⟨rfl, N47q, Kc47, fq47_0, fq47_1, fq47_2, fq47_3⟩ := hQ47
        have c53 := (fq7_6.keep Kc23)
        have Zc54 : n0 ≤ T47.heap.size := Nat.le_trans Zc28 Kc47.1
        have K55 : Keep h0 T47.heap [a1, w_pieces_a1] := K29.trans Kc47 (allS (Or.inr sz_b7_t0) (allS (Or.inl (List.mem_of_getElem? (i := 0) rfl)) all0))
        obtain ⟨vl18_56, hvl18_56⟩ : ∃ z : List Value, z = (vl18_30 ++ [(.int (nar .byte ((x18_46.toInt8.toInt32))))]) := ⟨_, rfl⟩
        rw [← hvl18_56] at fq47_0
        obtain ⟨f18_57, hf18_57⟩ : ∃ z : Int32, z = ((f18_31 + (1 : Int32))) := ⟨_, rfl⟩
        rw [← hf18_57] at fq47_2
        have N47 := Fr.app N23 N47q
        refine Gl.st (B := (T47.setTop (mkF m 21 L33 []))) (fun t k => st47.trans k) ?_
        refine Gl.st (B := (T47.setTop (mkF m 22 L33 [(.int y2_25_32)]))) (fun t k => XS.iloadN X47.here hx rfl (hb hby d6_21) (ldAt hL33 rfl) k) ?_
        refine Gl.st (B := (T47.setTop (mkF m 24 L33 [(.int (7 : Int32)), (.int y2_25_32)]))) (fun t k => XS.bipush X47.here hx rfl (hb hby d6_22) k) ?_
        refine Gl.st (B := (T47.setTop (mkF m 25 L33 [(.int ((y2_25_32.toUInt32 >>> ((7 : Int32) &&& 31).toUInt32).toInt32))]))) (fun t k => XS.iushr X47.here hx rfl (hb hby d6_24) rfl k) ?_
        obtain ⟨y2_25_58, hy2_25_58⟩ : ∃ z : Int32, z = ((y2_25_32.toUInt32 >>> ((7 : Int32) &&& 31).toUInt32).toInt32) := ⟨_, rfl⟩
        refine Gl.cast (B := (T47.setTop (mkF m 25 L33 [(.int y2_25_58)]))) (by rw [hy2_25_58]) ?_
        obtain ⟨L59, hL59⟩ : ∃ z : Array Slot, z = #[.val (.ref a1), .val (.int p2), .val (.int y2_25_58)] := ⟨_, rfl⟩
        refine Gl.st (B := (T47.setTop (mkF m 26 L59 []))) (fun t k => XS.istoreN X47.here hx rfl (hb hby d6_25) rfl (l' := L59) (stAt hL33 hL59 rfl rfl) k) ?_
        refine Gl.st (B := (T47.setTop (mkF m 2 L59 []))) (fun t k => XS.goto X47.here hx rfl (pc0 := 26) (pc' := 2) rfl (hb hby d6_26) (by decide) (by decide) k) ?_
        refine Gl.st (B := (T47.setTop (mkF m 3 L59 [(.int y2_25_58)]))) (fun t k => XS.iloadN X47.here hx rfl (hb hby d6_2) (ldAt hL59 rfl) k) ?_
        refine Gl.st (B := (T47.setTop (mkF m 6 L59 [(.int (128 : Int32)), (.int y2_25_58)]))) (fun t k => XS.sipush X47.here hx rfl (hb hby d6_3) k) ?_
        by_cases hc6_60 : y2_25_58 < (128 : Int32)
        · skip
          refine Gl.st (B := (T47.setTop (mkF m 29 L59 []))) (fun t k => XS.icmpYes X47.here hx rfl (pc0 := 6) (pc' := 29) rfl (hb hby d6_6) rfl (tlt hc6_60).1 (by decide) (by decide) k) ?_
          refine Gl.st (B := (T47.setTop (mkF m 30 L59 [(.ref a1)]))) (fun t k => XS.aloadN X47.here hx rfl (hb hby d6_29) (ldAt hL59 rfl) rfl k) ?_
          refine Gl.st (B := (T47.setTop (mkF m 31 L59 [(.int y2_25_58), (.ref a1)]))) (fun t k => XS.iloadN X47.here hx rfl (hb hby d6_30) (ldAt hL59 rfl) k) ?_
          have c62 := (c49.keep Kc47 (ninS ne_w_pieces_a1_b7_t0_48 (ninS (Ne.symm ne_a1_w_pieces_a1) nin0)))
          have hp31_63 : ¬ f18_57 < 0 := own_6f_hp31_63 f18_31 f18_57 hf18_31 hf18_57 
          have hp31_64 : f18_57 < 63 := own_6f_hp31_64 f18_31 f18_57 hf18_31 hf18_57 
          have hp31_65 : vl18_56.length = f18_57.toNatClampNeg := own_6f_hp31_65 p2 x18_6 y2_25_10 x18_22 vl18_30 y2_25_32 x18_46 vl18_56 f18_31 f18_57 hx18_6 hy2_25_10 hx18_22 hvl18_30 hy2_25_32 hx18_46 hvl18_56 hf18_31 hf18_57 hc6_2 hc6_12 hc6_34 hp0
          obtain ⟨cq61, q61, q61'⟩ := fq47_1.cell
          obtain ⟨_, _, ⟨T61, L61q, k61, n61⟩, -, X61, ⟨Lc61, hQ61, l61, y61, z61⟩, st61⟩ := X47.privateBack hx (y := (⟨"com/example/outcomery/outcomery/PackedNumbers", "put", "(I)V"⟩ : MethodName)) hown (mvT hZ (tw hw 41 rfl)) (mvT hZ (tw hw 42 rfl)) (own_selp (mvT hZ (tw hw 2 rfl)) (mvP hZ (tw hw 43 rfl)) (mvT hZ (tw hw 42 rfl)) (by decide)) (Cond.privateMethod_at (mvP hZ (tw hw 43 rfl) (args := #[]))) (mvT hZ (tw hw 44 rfl)) (by decide) (backOf (W := 0) (rm7n l Z a0 hw [] a1 y2_25_58 kx_w_pieces_a1 b7_t0 k7_kx_t0 vl18_56 w_pieces_a1 f18_57 T47.heap n0 Zc54 c62 fq7_2 fq47_0 fq47_3 fq47_2 hp31_63 hp31_64 hp31_65 g_b7_t0 ne_a1_b7_t0_27 fq47_1 g_a1) hZ (tw hw 44 rfl) (tw hw 3 rfl) (by decide) (by decide)) (g := (mkF m 31 L59 [(.int y2_25_58), (.ref a1)])) rfl (szAt hml hL59 rfl) (Steps.refl _) (a := a1) q61 q61' (argsL := [(.int y2_25_58)]) (rest := []) (lenOf pd_6f_0 rfl) rfl (by show 2 * 0 + _ ≤ _; exact Nat.le_of_eq rfl) (hb hby d6_31) (fun _ _ => ⟨rfl, rfl, (by decide : 1 + 0 ≤ _), (by decide : 64 + 0 ≤ _)⟩)
          dsimp only [Pt.U, Pt.locs, Pt.cells, Pt.slots] at X61 l61 y61 z61 st61 hQ61
          subst l61 y61 z61
          obtain ⟨rfl, N61q, Kc61, fq61_0, fq61_1, fq61_2, fq61_3⟩ := hQ61
          have c66 := (c53.keep Kc47)
          have Zc67 : n0 ≤ T61.heap.size := Nat.le_trans Zc54 Kc61.1
          have K68 : Keep h0 T61.heap [a1, w_pieces_a1] := K55.trans Kc61 (allS (Or.inr sz_b7_t0) (allS (Or.inl (List.mem_of_getElem? (i := 0) rfl)) all0))
          obtain ⟨vl31_69, hvl31_69⟩ : ∃ z : List Value, z = (vl18_56 ++ [(.int (nar .byte ((y2_25_58.toInt8.toInt32))))]) := ⟨_, rfl⟩
          rw [← hvl31_69] at fq61_0
          obtain ⟨f31_70, hf31_70⟩ : ∃ z : Int32, z = ((f18_57 + (1 : Int32))) := ⟨_, rfl⟩
          rw [← hf31_70] at fq61_2
          have N61 := Fr.app N47 N61q
          refine Gl.st (B := (T61.setTop (mkF m 34 L59 []))) (fun t k => st61.trans k) ?_
          obtain ⟨fs, hr, hrun, hended, hW, hsame⟩ := X61.leave (v := none) (fun _ => rfl)
          refine Gl.fin (X61.returnOut hx Bd.returns (hb hby d6_34) hr) hrun hended ⟨_, _, rfl, ?_, ⟨_, rfl⟩, hW, hsame.mono (by decide) (by decide)⟩
          show Q6f Z a1 p2 kx_w_pieces_a1 w_pieces_a1 h0 n0 _ T61.heap _
          have c71 := (c62.keep Kc61 (ninS ne_w_pieces_a1_b7_t0_48 (ninS (Ne.symm ne_a1_w_pieces_a1) nin0)))
          have c72 := (c66.keep Kc61)
          exact ⟨b7_t0, k7_kx_t0, rfl, N61, K68, sz_b7_t0, fq61_1, (by subst hf31_70; subst hf18_57; subst hf18_31; subst hy2_25_10; subst hy2_25_32; subst hy2_25_58; rw [own_F_eq, if_neg hc6_2, if_neg hc6_12, if_neg hc6_34, if_pos hc6_60]; exact fq61_2), fq61_3, c71, fq7_2, c72, (by subst hvl31_69; subst hvl18_56; subst hvl18_30; subst hx18_6; subst hx18_22; subst hy2_25_10; subst hx18_46; subst hy2_25_32; subst hy2_25_58; rw [own_E_eq, if_neg hc6_2, if_neg hc6_12, if_neg hc6_34, if_pos hc6_60]; exact fq61_0)⟩
        · skip
          refine Gl.st (B := (T47.setTop (mkF m 9 L59 []))) (fun t k => XS.icmpNo X47.here hx rfl (hb hby d6_6) rfl (flt hc6_60).1 k) ?_
          refine Gl.st (B := (T47.setTop (mkF m 10 L59 [(.ref a1)]))) (fun t k => XS.aloadN X47.here hx rfl (hb hby d6_9) (ldAt hL59 rfl) rfl k) ?_
          refine Gl.st (B := (T47.setTop (mkF m 11 L59 [(.int y2_25_58), (.ref a1)]))) (fun t k => XS.iloadN X47.here hx rfl (hb hby d6_10) (ldAt hL59 rfl) k) ?_
          refine Gl.st (B := (T47.setTop (mkF m 13 L59 [(.int (127 : Int32)), (.int y2_25_58), (.ref a1)]))) (fun t k => XS.bipush X47.here hx rfl (hb hby d6_11) k) ?_
          refine Gl.st (B := (T47.setTop (mkF m 14 L59 [(.int (y2_25_58 &&& (127 : Int32))), (.ref a1)]))) (fun t k => XS.iand X47.here hx rfl (hb hby d6_13) rfl k) ?_
          refine Gl.st (B := (T47.setTop (mkF m 17 L59 [(.int (128 : Int32)), (.int (y2_25_58 &&& (127 : Int32))), (.ref a1)]))) (fun t k => XS.sipush X47.here hx rfl (hb hby d6_14) k) ?_
          refine Gl.st (B := (T47.setTop (mkF m 18 L59 [(.int ((y2_25_58 &&& (127 : Int32)) ||| (128 : Int32))), (.ref a1)]))) (fun t k => XS.ior X47.here hx rfl (hb hby d6_17) rfl k) ?_
          obtain ⟨x18_71, hx18_71⟩ : ∃ z : Int32, z = ((y2_25_58 &&& (127 : Int32)) ||| (128 : Int32)) := ⟨_, rfl⟩
          refine Gl.cast (B := (T47.setTop (mkF m 18 L59 [(.int x18_71), (.ref a1)]))) (by rw [hx18_71]) ?_
          have c73 := (c49.keep Kc47 (ninS ne_w_pieces_a1_b7_t0_48 (ninS (Ne.symm ne_a1_w_pieces_a1) nin0)))
          have hp18_74 : ¬ f18_57 < 0 := own_6f_hp18_74 f18_31 f18_57 hf18_31 hf18_57 
          have hp18_75 : f18_57 < 63 := own_6f_hp18_75 f18_31 f18_57 hf18_31 hf18_57 
          have hp18_76 : vl18_56.length = f18_57.toNatClampNeg := own_6f_hp18_76 p2 x18_6 y2_25_10 x18_22 vl18_30 y2_25_32 x18_46 vl18_56 f18_31 f18_57 hx18_6 hy2_25_10 hx18_22 hvl18_30 hy2_25_32 hx18_46 hvl18_56 hf18_31 hf18_57 hc6_2 hc6_12 hc6_34 hp0
          obtain ⟨cq72, q72, q72'⟩ := fq47_1.cell
          obtain ⟨_, _, ⟨T72, L72q, k72, n72⟩, -, X72, ⟨Lc72, hQ72, l72, y72, z72⟩, st72⟩ := X47.privateBack hx (y := (⟨"com/example/outcomery/outcomery/PackedNumbers", "put", "(I)V"⟩ : MethodName)) hown (mvT hZ (tw hw 41 rfl)) (mvT hZ (tw hw 42 rfl)) (own_selp (mvT hZ (tw hw 2 rfl)) (mvP hZ (tw hw 43 rfl)) (mvT hZ (tw hw 42 rfl)) (by decide)) (Cond.privateMethod_at (mvP hZ (tw hw 43 rfl) (args := #[]))) (mvT hZ (tw hw 44 rfl)) (by decide) (backOf (W := 0) (rm7n l Z a0 hw [] a1 x18_71 kx_w_pieces_a1 b7_t0 k7_kx_t0 vl18_56 w_pieces_a1 f18_57 T47.heap n0 Zc54 c73 fq7_2 fq47_0 fq47_3 fq47_2 hp18_74 hp18_75 hp18_76 g_b7_t0 ne_a1_b7_t0_27 fq47_1 g_a1) hZ (tw hw 44 rfl) (tw hw 3 rfl) (by decide) (by decide)) (g := (mkF m 18 L59 [(.int x18_71), (.ref a1)])) rfl (szAt hml hL59 rfl) (Steps.refl _) (a := a1) q72 q72' (argsL := [(.int x18_71)]) (rest := []) (lenOf pd_6f_0 rfl) rfl (by show 2 * 0 + _ ≤ _; exact Nat.le_of_eq rfl) (hb hby d6_18) (fun _ _ => ⟨rfl, rfl, (by decide : 1 + 0 ≤ _), (by decide : 64 + 0 ≤ _)⟩)
          dsimp only [Pt.U, Pt.locs, Pt.cells, Pt.slots] at X72 l72 y72 z72 st72 hQ72
          subst l72 y72 z72
          obtain ⟨rfl, N72q, Kc72, fq72_0, fq72_1, fq72_2, fq72_3⟩ := hQ72
          have c77 := (c53.keep Kc47)
          have Zc78 : n0 ≤ T72.heap.size := Nat.le_trans Zc54 Kc72.1
          have K79 : Keep h0 T72.heap [a1, w_pieces_a1] := K55.trans Kc72 (allS (Or.inr sz_b7_t0) (allS (Or.inl (List.mem_of_getElem? (i := 0) rfl)) all0))
          obtain ⟨vl18_80, hvl18_80⟩ : ∃ z : List Value, z = (vl18_56 ++ [(.int (nar .byte ((x18_71.toInt8.toInt32))))]) := ⟨_, rfl⟩
          rw [← hvl18_80] at fq72_0
          obtain ⟨f18_81, hf18_81⟩ : ∃ z : Int32, z = ((f18_57 + (1 : Int32))) := ⟨_, rfl⟩
          rw [← hf18_81] at fq72_2
          have N72 := Fr.app N47 N72q
          refine Gl.st (B := (T72.setTop (mkF m 21 L59 []))) (fun t k => st72.trans k) ?_
          refine Gl.st (B := (T72.setTop (mkF m 22 L59 [(.int y2_25_58)]))) (fun t k => XS.iloadN X72.here hx rfl (hb hby d6_21) (ldAt hL59 rfl) k) ?_
          refine Gl.st (B := (T72.setTop (mkF m 24 L59 [(.int (7 : Int32)), (.int y2_25_58)]))) (fun t k => XS.bipush X72.here hx rfl (hb hby d6_22) k) ?_
          refine Gl.st (B := (T72.setTop (mkF m 25 L59 [(.int ((y2_25_58.toUInt32 >>> ((7 : Int32) &&& 31).toUInt32).toInt32))]))) (fun t k => XS.iushr X72.here hx rfl (hb hby d6_24) rfl k) ?_
          obtain ⟨y2_25_82, hy2_25_82⟩ : ∃ z : Int32, z = ((y2_25_58.toUInt32 >>> ((7 : Int32) &&& 31).toUInt32).toInt32) := ⟨_, rfl⟩
          refine Gl.cast (B := (T72.setTop (mkF m 25 L59 [(.int y2_25_82)]))) (by rw [hy2_25_82]) ?_
          obtain ⟨L83, hL83⟩ : ∃ z : Array Slot, z = #[.val (.ref a1), .val (.int p2), .val (.int y2_25_82)] := ⟨_, rfl⟩
          refine Gl.st (B := (T72.setTop (mkF m 26 L83 []))) (fun t k => XS.istoreN X72.here hx rfl (hb hby d6_25) rfl (l' := L83) (stAt hL59 hL83 rfl rfl) k) ?_
          refine Gl.st (B := (T72.setTop (mkF m 2 L83 []))) (fun t k => XS.goto X72.here hx rfl (pc0 := 26) (pc' := 2) rfl (hb hby d6_26) (by decide) (by decide) k) ?_
          refine Gl.st (B := (T72.setTop (mkF m 3 L83 [(.int y2_25_82)]))) (fun t k => XS.iloadN X72.here hx rfl (hb hby d6_2) (ldAt hL83 rfl) k) ?_
          refine Gl.st (B := (T72.setTop (mkF m 6 L83 [(.int (128 : Int32)), (.int y2_25_82)]))) (fun t k => XS.sipush X72.here hx rfl (hb hby d6_3) k) ?_
          have hc6_84 : y2_25_82 < (128 : Int32) := own_6f_hc6_84 p2 y2_25_10 y2_25_32 y2_25_58 y2_25_82 hy2_25_10 hy2_25_32 hy2_25_58 hy2_25_82 hp0
          refine Gl.st (B := (T72.setTop (mkF m 29 L83 []))) (fun t k => XS.icmpYes X72.here hx rfl (pc0 := 6) (pc' := 29) rfl (hb hby d6_6) rfl (tlt hc6_84).1 (by decide) (by decide) k) ?_
          refine Gl.st (B := (T72.setTop (mkF m 30 L83 [(.ref a1)]))) (fun t k => XS.aloadN X72.here hx rfl (hb hby d6_29) (ldAt hL83 rfl) rfl k) ?_
          refine Gl.st (B := (T72.setTop (mkF m 31 L83 [(.int y2_25_82), (.ref a1)]))) (fun t k => XS.iloadN X72.here hx rfl (hb hby d6_30) (ldAt hL83 rfl) k) ?_
          have c86 := (c73.keep Kc72 (ninS ne_w_pieces_a1_b7_t0_48 (ninS (Ne.symm ne_a1_w_pieces_a1) nin0)))
          have hp31_87 : ¬ f18_81 < 0 := own_6f_hp31_87 f18_31 f18_57 f18_81 hf18_31 hf18_57 hf18_81 
          have hp31_88 : f18_81 < 63 := own_6f_hp31_88 f18_31 f18_57 f18_81 hf18_31 hf18_57 hf18_81 
          have hp31_89 : vl18_80.length = f18_81.toNatClampNeg := own_6f_hp31_89 p2 x18_6 y2_25_10 x18_22 vl18_30 y2_25_32 x18_46 vl18_56 y2_25_58 x18_71 vl18_80 f18_31 f18_57 f18_81 hx18_6 hy2_25_10 hx18_22 hvl18_30 hy2_25_32 hx18_46 hvl18_56 hy2_25_58 hx18_71 hvl18_80 hf18_31 hf18_57 hf18_81 hc6_2 hc6_12 hc6_34 hc6_60 hp0
          obtain ⟨cq85, q85, q85'⟩ := fq72_1.cell
          obtain ⟨_, _, ⟨T85, L85q, k85, n85⟩, -, X85, ⟨Lc85, hQ85, l85, y85, z85⟩, st85⟩ := X72.privateBack hx (y := (⟨"com/example/outcomery/outcomery/PackedNumbers", "put", "(I)V"⟩ : MethodName)) hown (mvT hZ (tw hw 41 rfl)) (mvT hZ (tw hw 42 rfl)) (own_selp (mvT hZ (tw hw 2 rfl)) (mvP hZ (tw hw 43 rfl)) (mvT hZ (tw hw 42 rfl)) (by decide)) (Cond.privateMethod_at (mvP hZ (tw hw 43 rfl) (args := #[]))) (mvT hZ (tw hw 44 rfl)) (by decide) (backOf (W := 0) (rm7n l Z a0 hw [] a1 y2_25_82 kx_w_pieces_a1 b7_t0 k7_kx_t0 vl18_80 w_pieces_a1 f18_81 T72.heap n0 Zc78 c86 fq7_2 fq72_0 fq72_3 fq72_2 hp31_87 hp31_88 hp31_89 g_b7_t0 ne_a1_b7_t0_27 fq72_1 g_a1) hZ (tw hw 44 rfl) (tw hw 3 rfl) (by decide) (by decide)) (g := (mkF m 31 L83 [(.int y2_25_82), (.ref a1)])) rfl (szAt hml hL83 rfl) (Steps.refl _) (a := a1) q85 q85' (argsL := [(.int y2_25_82)]) (rest := []) (lenOf pd_6f_0 rfl) rfl (by show 2 * 0 + _ ≤ _; exact Nat.le_of_eq rfl) (hb hby d6_31) (fun _ _ => ⟨rfl, rfl, (by decide : 1 + 0 ≤ _), (by decide : 64 + 0 ≤ _)⟩)
          dsimp only [Pt.U, Pt.locs, Pt.cells, Pt.slots] at X85 l85 y85 z85 st85 hQ85
          subst l85 y85 z85
          obtain ⟨rfl, N85q, Kc85, fq85_0, fq85_1, fq85_2, fq85_3⟩ := hQ85
          have c90 := (c77.keep Kc72)
          have Zc91 : n0 ≤ T85.heap.size := Nat.le_trans Zc78 Kc85.1
          have K92 : Keep h0 T85.heap [a1, w_pieces_a1] := K79.trans Kc85 (allS (Or.inr sz_b7_t0) (allS (Or.inl (List.mem_of_getElem? (i := 0) rfl)) all0))
          obtain ⟨vl31_93, hvl31_93⟩ : ∃ z : List Value, z = (vl18_80 ++ [(.int (nar .byte ((y2_25_82.toInt8.toInt32))))]) := ⟨_, rfl⟩
          rw [← hvl31_93] at fq85_0
          obtain ⟨f31_94, hf31_94⟩ : ∃ z : Int32, z = ((f18_81 + (1 : Int32))) := ⟨_, rfl⟩
          rw [← hf31_94] at fq85_2
          have N85 := Fr.app N72 N85q
          refine Gl.st (B := (T85.setTop (mkF m 34 L83 []))) (fun t k => st85.trans k) ?_
          obtain ⟨fs, hr, hrun, hended, hW, hsame⟩ := X85.leave (v := none) (fun _ => rfl)
          refine Gl.fin (X85.returnOut hx Bd.returns (hb hby d6_34) hr) hrun hended ⟨_, _, rfl, ?_, ⟨_, rfl⟩, hW, hsame.mono (by decide) (by decide)⟩
          show Q6f Z a1 p2 kx_w_pieces_a1 w_pieces_a1 h0 n0 _ T85.heap _
          have c95 := (c86.keep Kc85 (ninS ne_w_pieces_a1_b7_t0_48 (ninS (Ne.symm ne_a1_w_pieces_a1) nin0)))
          have c96 := (c90.keep Kc85)
          exact ⟨b7_t0, k7_kx_t0, rfl, N85, K92, sz_b7_t0, fq85_1, (by subst hf31_94; subst hf18_81; subst hf18_57; subst hf18_31; subst hy2_25_10; subst hy2_25_32; subst hy2_25_58; rw [own_F_eq, if_neg hc6_2, if_neg hc6_12, if_neg hc6_34, if_neg hc6_60]; exact fq85_2), fq85_3, c95, fq7_2, c96, (by subst hvl31_93; subst hvl18_80; subst hvl18_56; subst hvl18_30; subst hx18_6; subst hx18_22; subst hy2_25_10; subst hx18_46; subst hy2_25_32; subst hx18_71; subst hy2_25_58; subst hy2_25_82; rw [own_E_eq, if_neg hc6_2, if_neg hc6_12, if_neg hc6_34, if_neg hc6_60]; exact fq85_0)⟩
abbrev own_S (n : Int32) : Int32 := ((n.toUInt32 >>> ((7 : Int32) &&& 31).toUInt32).toInt32)
def own_at (vs : List Value) (j : Int32) : Int32 := match vs.getD j.toNatClampNeg (.int (0 : Int32)) with
  | .int x => x
  | _ => 0
def own_L (n : Int32) : Int32 := (if n < (128 : Int32) then (1 : Int32) else (if n < (16384 : Int32) then (2 : Int32) else (if n < (2097152 : Int32) then (3 : Int32) else (if n < (268435456 : Int32) then (4 : Int32) else (5 : Int32)))))
theorem own_L_eq (n : Int32) : own_L n = (if n < (128 : Int32) then (1 : Int32) else (if n < (16384 : Int32) then (2 : Int32) else (if n < (2097152 : Int32) then (3 : Int32) else (if n < (268435456 : Int32) then (4 : Int32) else (5 : Int32))))) := rfl
def own_B (n k l : Int32) : Int32 := (if k < (l - (1 : Int32)) then (((((n.toUInt32 >>> (((7 : Int32) * k) &&& 31).toUInt32).toInt32) &&& (127 : Int32))) ||| (128 : Int32)) else ((((n.toUInt32 >>> (((7 : Int32) * k) &&& 31).toUInt32).toInt32) &&& (127 : Int32))))
theorem own_B_eq (n k l : Int32) : own_B n k l = (if k < (l - (1 : Int32)) then (((((n.toUInt32 >>> (((7 : Int32) * k) &&& 31).toUInt32).toInt32) &&& (127 : Int32))) ||| (128 : Int32)) else ((((n.toUInt32 >>> (((7 : Int32) * k) &&& 31).toUInt32).toInt32) &&& (127 : Int32)))) := rfl
theorem own_nn {n : Int32} (h : ¬ n < 0) : 0 ≤ n.toInt := by
  rw [Int32.lt_iff_toInt_lt] at h
  simp only [Int32.reduceToInt] at h
  omega
theorem own_S_toInt (n : Int32) (h : 0 ≤ n.toInt) : (own_S n).toInt = n.toInt / 128 := by
  have a : (own_S n).toInt = (n.toInt % 4294967296) / 128 := c_iushr n (7 : Int32) 7 (by decide) (by decide)
  have z := rng32 n
  rw [a]
  omega
theorem own_ltI (x : Int32) (l : Int32) (v : Int) (hl : l.toInt = v) : x < l ↔ x.toInt < v := by rw [Int32.lt_iff_toInt_lt, hl]
theorem own_five (n : Int32) (h : ¬ n < 0) {P : Prop}
    (c0 : n < (128 : Int32) → 0 ≤ n.toInt → n.toInt < 128 → P)
    (c1 : ¬ n < (128 : Int32) → (own_S n) < (128 : Int32) → n < (16384 : Int32) → 0 ≤ (own_S n).toInt → (own_S n).toInt < 128 → P)
    (c2 : ¬ n < (128 : Int32) → ¬ (own_S n) < (128 : Int32) → (own_S (own_S n)) < (128 : Int32) → ¬ n < (16384 : Int32) → n < (2097152 : Int32) → 0 ≤ (own_S (own_S n)).toInt → (own_S (own_S n)).toInt < 128 → P)
    (c3 : ¬ n < (128 : Int32) → ¬ (own_S n) < (128 : Int32) → ¬ (own_S (own_S n)) < (128 : Int32) → (own_S (own_S (own_S n))) < (128 : Int32) → ¬ n < (16384 : Int32) → ¬ n < (2097152 : Int32) → n < (268435456 : Int32) → 0 ≤ (own_S (own_S (own_S n))).toInt → (own_S (own_S (own_S n))).toInt < 128 → P)
    (c4 : ¬ n < (128 : Int32) → ¬ (own_S n) < (128 : Int32) → ¬ (own_S (own_S n)) < (128 : Int32) → ¬ (own_S (own_S (own_S n))) < (128 : Int32) → ¬ n < (16384 : Int32) → ¬ n < (2097152 : Int32) → ¬ n < (268435456 : Int32) → 0 ≤ (own_S (own_S (own_S (own_S n)))).toInt → (own_S (own_S (own_S (own_S n)))).toInt < 128 → P)
    : P := by
  have a0 := own_nn h
  have z := rng32 n
  have a1 := own_S_toInt n (by omega)
  have a2 := own_S_toInt (own_S n) (by omega)
  have a3 := own_S_toInt (own_S (own_S n)) (by omega)
  have a4 := own_S_toInt (own_S (own_S (own_S n))) (by omega)
  by_cases q0 : n < (128 : Int32)
  · have q := (own_ltI _ (128 : Int32) 128 (by decide)).mp q0
    exact c0 q0 (by omega) (by omega)
  · skip
    by_cases q1 : (own_S n) < (128 : Int32)
    · have q := (own_ltI _ (128 : Int32) 128 (by decide)).mp q1
      have r0 := fun z => q0 ((own_ltI _ (128 : Int32) 128 (by decide)).mpr z)
      have u0 : ¬ (n.toInt < 128) := r0
      exact c1 q0 q1 ((own_ltI _ (16384 : Int32) 16384 (by decide)).mpr (by omega)) (by omega) (by omega)
    · skip
      by_cases q2 : (own_S (own_S n)) < (128 : Int32)
      · have q := (own_ltI _ (128 : Int32) 128 (by decide)).mp q2
        have r0 := fun z => q0 ((own_ltI _ (128 : Int32) 128 (by decide)).mpr z)
        have r1 := fun z => q1 ((own_ltI _ (128 : Int32) 128 (by decide)).mpr z)
        have u0 : ¬ (n.toInt < 128) := r0
        have u1 : ¬ ((own_S n).toInt < 128) := r1
        exact c2 q0 q1 q2 (fun z => absurd ((own_ltI _ (16384 : Int32) 16384 (by decide)).mp z) (by omega)) ((own_ltI _ (2097152 : Int32) 2097152 (by decide)).mpr (by omega)) (by omega) (by omega)
      · skip
        by_cases q3 : (own_S (own_S (own_S n))) < (128 : Int32)
        · have q := (own_ltI _ (128 : Int32) 128 (by decide)).mp q3
          have r0 := fun z => q0 ((own_ltI _ (128 : Int32) 128 (by decide)).mpr z)
          have r1 := fun z => q1 ((own_ltI _ (128 : Int32) 128 (by decide)).mpr z)
          have r2 := fun z => q2 ((own_ltI _ (128 : Int32) 128 (by decide)).mpr z)
          have u0 : ¬ (n.toInt < 128) := r0
          have u1 : ¬ ((own_S n).toInt < 128) := r1
          have u2 : ¬ ((own_S (own_S n)).toInt < 128) := r2
          exact c3 q0 q1 q2 q3 (fun z => absurd ((own_ltI _ (16384 : Int32) 16384 (by decide)).mp z) (by omega)) (fun z => absurd ((own_ltI _ (2097152 : Int32) 2097152 (by decide)).mp z) (by omega)) ((own_ltI _ (268435456 : Int32) 268435456 (by decide)).mpr (by omega)) (by omega) (by omega)
        · skip
          have u0 : ¬ (n.toInt < 128) := fun z => q0 ((own_ltI _ (128 : Int32) 128 (by decide)).mpr z)
          have u1 : ¬ ((own_S n).toInt < 128) := fun z => q1 ((own_ltI _ (128 : Int32) 128 (by decide)).mpr z)
          have u2 : ¬ ((own_S (own_S n)).toInt < 128) := fun z => q2 ((own_ltI _ (128 : Int32) 128 (by decide)).mpr z)
          have u3 : ¬ ((own_S (own_S (own_S n))).toInt < 128) := fun z => q3 ((own_ltI _ (128 : Int32) 128 (by decide)).mpr z)
          exact c4 q0 q1 q2 q3 (fun z => absurd ((own_ltI _ (16384 : Int32) 16384 (by decide)).mp z) (by omega)) (fun z => absurd ((own_ltI _ (2097152 : Int32) 2097152 (by decide)).mp z) (by omega)) (fun z => absurd ((own_ltI _ (268435456 : Int32) 268435456 (by decide)).mp z) (by omega)) (by omega) (by omega)
theorem own_FL (n w : Int32) (h : ¬ n < 0) : own_F w n = w + own_L n := by
  refine own_five n h ?_ ?_ ?_ ?_ ?_
  · intro g0 lo hi
    rw [own_F_eq, own_L_eq, if_pos g0, if_pos g0]
  · intro g0 g1 e1 lo hi
    rw [own_F_eq, own_L_eq, if_neg g0, if_pos g1, if_neg g0, if_pos e1]
    simp only [Int32.add_assoc]
    rfl
  · intro g0 g1 g2 e1 e2 lo hi
    rw [own_F_eq, own_L_eq, if_neg g0, if_neg g1, if_pos g2, if_neg g0, if_neg e1, if_pos e2]
    simp only [Int32.add_assoc]
    rfl
  · intro g0 g1 g2 g3 e1 e2 e3 lo hi
    rw [own_F_eq, own_L_eq, if_neg g0, if_neg g1, if_neg g2, if_pos g3, if_neg g0, if_neg e1, if_neg e2, if_pos e3]
    simp only [Int32.add_assoc]
    rfl
  · intro g0 g1 g2 g3 e1 e2 e3 lo hi
    rw [own_F_eq, own_L_eq, if_neg g0, if_neg g1, if_neg g2, if_neg g3, if_neg g0, if_neg e1, if_neg e2, if_neg e3]
    simp only [Int32.add_assoc]
    rfl
theorem own_EE (n : Int32) (vs : List Value) (h : ¬ n < 0) : own_E vs n = vs ++ own_E [] n := by
  refine own_five n h ?_ ?_ ?_ ?_ ?_
  · intro g0 lo hi
    rw [own_E_eq, own_E_eq, if_pos g0, if_pos g0]
    simp only [List.append_assoc, List.nil_append]
  · intro g0 g1 e1 lo hi
    rw [own_E_eq, own_E_eq, if_neg g0, if_pos g1, if_neg g0, if_pos g1]
    simp only [List.append_assoc, List.nil_append]
  · intro g0 g1 g2 e1 e2 lo hi
    rw [own_E_eq, own_E_eq, if_neg g0, if_neg g1, if_pos g2, if_neg g0, if_neg g1, if_pos g2]
    simp only [List.append_assoc, List.nil_append]
  · intro g0 g1 g2 g3 e1 e2 e3 lo hi
    rw [own_E_eq, own_E_eq, if_neg g0, if_neg g1, if_neg g2, if_pos g3, if_neg g0, if_neg g1, if_neg g2, if_pos g3]
    simp only [List.append_assoc, List.nil_append]
  · intro g0 g1 g2 g3 e1 e2 e3 lo hi
    rw [own_E_eq, own_E_eq, if_neg g0, if_neg g1, if_neg g2, if_neg g3, if_neg g0, if_neg g1, if_neg g2, if_neg g3]
    simp only [List.append_assoc, List.nil_append]
theorem own_EL (n : Int32) (h : ¬ n < 0) : (own_E [] n).length = (own_L n).toNatClampNeg := by
  refine own_five n h ?_ ?_ ?_ ?_ ?_
  · intro g0 lo hi
    rw [own_E_eq, own_L_eq, if_pos g0, if_pos g0]
    rfl
  · intro g0 g1 e1 lo hi
    rw [own_E_eq, own_L_eq, if_neg g0, if_pos g1, if_neg g0, if_pos e1]
    rfl
  · intro g0 g1 g2 e1 e2 lo hi
    rw [own_E_eq, own_L_eq, if_neg g0, if_neg g1, if_pos g2, if_neg g0, if_neg e1, if_pos e2]
    rfl
  · intro g0 g1 g2 g3 e1 e2 e3 lo hi
    rw [own_E_eq, own_L_eq, if_neg g0, if_neg g1, if_neg g2, if_pos g3, if_neg g0, if_neg e1, if_neg e2, if_pos e3]
    rfl
  · intro g0 g1 g2 g3 e1 e2 e3 lo hi
    rw [own_E_eq, own_L_eq, if_neg g0, if_neg g1, if_neg g2, if_neg g3, if_neg g0, if_neg e1, if_neg e2, if_neg e3]
    rfl
theorem own_Lr (n : Int32) (h : ¬ n < 0) : 1 ≤ (own_L n).toInt ∧ (own_L n).toInt ≤ 5 := by
  refine own_five n h ?_ ?_ ?_ ?_ ?_
  · intro g0 lo hi
    rw [own_L_eq, if_pos g0]
    decide
  · intro g0 g1 e1 lo hi
    rw [own_L_eq, if_neg g0, if_pos e1]
    decide
  · intro g0 g1 g2 e1 e2 lo hi
    rw [own_L_eq, if_neg g0, if_neg e1, if_pos e2]
    decide
  · intro g0 g1 g2 g3 e1 e2 e3 lo hi
    rw [own_L_eq, if_neg g0, if_neg e1, if_neg e2, if_pos e3]
    decide
  · intro g0 g1 g2 g3 e1 e2 e3 lo hi
    rw [own_L_eq, if_neg g0, if_neg e1, if_neg e2, if_neg e3]
    decide
theorem own_bhi (y : Int32) : (nar .byte ((((y &&& (127 : Int32)) ||| (128 : Int32))).toInt8.toInt32)) &&& (255 : Int32) = (y &&& (127 : Int32)) ||| (128 : Int32) := by
  have m : (y &&& (127 : Int32)).toInt = y.toInt % 128 := c_mask y (127 : Int32) 7 (by decide) (by decide)
  have a := c_or' (y &&& (127 : Int32)) (128 : Int32) 7 (by decide) 128 rfl (by decide) (by omega) (by omega)
  generalize (y &&& (127 : Int32)) ||| (128 : Int32) = v at *
  have b := c_i2b v
  have d := c_i2b v.toInt8.toInt32
  have e : ((nar .byte v.toInt8.toInt32) &&& (255 : Int32)).toInt = (nar .byte v.toInt8.toInt32).toInt % 256 := c_mask (nar .byte v.toInt8.toInt32) (255 : Int32) 8 (by decide) (by decide)
  have f : (nar .byte v.toInt8.toInt32).toInt = v.toInt8.toInt32.toInt8.toInt32.toInt := rfl
  have z := rng32 v
  rw [← Int32.toInt_inj]
  simp only [Int32.reduceToInt] at *
  omega
theorem own_blo (v : Int32) (h0 : 0 ≤ v.toInt) (h1 : v.toInt < 128) : (nar .byte (v.toInt8.toInt32)) &&& (255 : Int32) = v := by
  have b := c_i2b v
  have d := c_i2b v.toInt8.toInt32
  have e : ((nar .byte v.toInt8.toInt32) &&& (255 : Int32)).toInt = (nar .byte v.toInt8.toInt32).toInt % 256 := c_mask (nar .byte v.toInt8.toInt32) (255 : Int32) 8 (by decide) (by decide)
  have f : (nar .byte v.toInt8.toInt32).toInt = v.toInt8.toInt32.toInt8.toInt32.toInt := rfl
  rw [← Int32.toInt_inj]
  omega
theorem own_m7 (v : Int32) (h0 : 0 ≤ v.toInt) (h1 : v.toInt < 128) : v &&& (127 : Int32) = v := by
  have m : (v &&& (127 : Int32)).toInt = v.toInt % 128 := c_mask v (127 : Int32) 7 (by decide) (by decide)
  rw [← Int32.toInt_inj]
  omega
theorem own_D0 (n : Int32) : ((n.toUInt32 >>> (((7 : Int32) * (0 : Int32)) &&& 31).toUInt32).toInt32) = n := by
  have e : (((7 : Int32) * (0 : Int32)) &&& 31).toUInt32 = 0 := by decide
  rw [e]
  simp
theorem own_D1 (n : Int32) (h : 0 ≤ n.toInt) : ((n.toUInt32 >>> (((7 : Int32) * (1 : Int32)) &&& 31).toUInt32).toInt32) = (own_S n) := by
  have a : ((n.toUInt32 >>> (((7 : Int32) * (1 : Int32)) &&& 31).toUInt32).toInt32).toInt = (n.toInt % 4294967296) / 128 := c_iushr n ((7 : Int32) * (1 : Int32)) 7 (by decide) (by decide)
  have b1 := own_S_toInt n (by omega)
  have z := rng32 n
  rw [← Int32.toInt_inj, a]
  omega
theorem own_D2 (n : Int32) (h : 0 ≤ n.toInt) : ((n.toUInt32 >>> (((7 : Int32) * (2 : Int32)) &&& 31).toUInt32).toInt32) = (own_S (own_S n)) := by
  have a : ((n.toUInt32 >>> (((7 : Int32) * (2 : Int32)) &&& 31).toUInt32).toInt32).toInt = (n.toInt % 4294967296) / 16384 := c_iushr n ((7 : Int32) * (2 : Int32)) 14 (by decide) (by decide)
  have b1 := own_S_toInt n (by omega)
  have b2 := own_S_toInt (own_S n) (by omega)
  have z := rng32 n
  rw [← Int32.toInt_inj, a]
  omega
theorem own_D3 (n : Int32) (h : 0 ≤ n.toInt) : ((n.toUInt32 >>> (((7 : Int32) * (3 : Int32)) &&& 31).toUInt32).toInt32) = (own_S (own_S (own_S n))) := by
  have a : ((n.toUInt32 >>> (((7 : Int32) * (3 : Int32)) &&& 31).toUInt32).toInt32).toInt = (n.toInt % 4294967296) / 2097152 := c_iushr n ((7 : Int32) * (3 : Int32)) 21 (by decide) (by decide)
  have b1 := own_S_toInt n (by omega)
  have b2 := own_S_toInt (own_S n) (by omega)
  have b3 := own_S_toInt (own_S (own_S n)) (by omega)
  have z := rng32 n
  rw [← Int32.toInt_inj, a]
  omega
theorem own_D4 (n : Int32) (h : 0 ≤ n.toInt) : ((n.toUInt32 >>> (((7 : Int32) * (4 : Int32)) &&& 31).toUInt32).toInt32) = (own_S (own_S (own_S (own_S n)))) := by
  have a : ((n.toUInt32 >>> (((7 : Int32) * (4 : Int32)) &&& 31).toUInt32).toInt32).toInt = (n.toInt % 4294967296) / 268435456 := c_iushr n ((7 : Int32) * (4 : Int32)) 28 (by decide) (by decide)
  have b1 := own_S_toInt n (by omega)
  have b2 := own_S_toInt (own_S n) (by omega)
  have b3 := own_S_toInt (own_S (own_S n)) (by omega)
  have b4 := own_S_toInt (own_S (own_S (own_S n))) (by omega)
  have z := rng32 n
  rw [← Int32.toInt_inj, a]
  omega
theorem own_EI (n j : Int32) (h : ¬ n < 0) (hj : ¬ j < 0) (hk : j < own_L n) : own_at (own_E [] n) j &&& (255 : Int32) = own_B n j (own_L n) := by
  refine own_five n h ?_ ?_ ?_ ?_ ?_
  · intro g0 lo hi
    have n0 := own_nn h
    rw [own_L_eq, if_pos g0] at hk
    rw [own_L_eq, own_E_eq, if_pos g0, if_pos g0]
    have z0 := own_nn hj
    have z1 := (own_ltI _ (1 : Int32) 1 (by decide)).mp hk
    have hc : j = (0 : Int32) := by
      simp only [← Int32.toInt_inj, Int32.reduceToInt]
      omega
    subst hc
    · rw [own_B_eq, if_neg (by decide), own_D0 n, own_m7 _ lo hi]
      exact own_blo n lo hi
  · intro g0 g1 e1 lo hi
    have n0 := own_nn h
    rw [own_L_eq, if_neg g0, if_pos e1] at hk
    rw [own_L_eq, own_E_eq, if_neg g0, if_pos e1, if_neg g0, if_pos g1]
    have z0 := own_nn hj
    have z1 := (own_ltI _ (2 : Int32) 2 (by decide)).mp hk
    have hc : j = (0 : Int32) ∨ j = (1 : Int32) := by
      simp only [← Int32.toInt_inj, Int32.reduceToInt]
      omega
    rcases hc with rfl | rfl
    · rw [own_B_eq, if_pos (by decide), own_D0 n]
      exact own_bhi n
    · rw [own_B_eq, if_neg (by decide), own_D1 n n0, own_m7 _ lo hi]
      exact own_blo (own_S n) lo hi
  · intro g0 g1 g2 e1 e2 lo hi
    have n0 := own_nn h
    rw [own_L_eq, if_neg g0, if_neg e1, if_pos e2] at hk
    rw [own_L_eq, own_E_eq, if_neg g0, if_neg e1, if_pos e2, if_neg g0, if_neg g1, if_pos g2]
    have z0 := own_nn hj
    have z1 := (own_ltI _ (3 : Int32) 3 (by decide)).mp hk
    have hc : j = (0 : Int32) ∨ j = (1 : Int32) ∨ j = (2 : Int32) := by
      simp only [← Int32.toInt_inj, Int32.reduceToInt]
      omega
    rcases hc with rfl | rfl | rfl
    · rw [own_B_eq, if_pos (by decide), own_D0 n]
      exact own_bhi n
    · rw [own_B_eq, if_pos (by decide), own_D1 n n0]
      exact own_bhi (own_S n)
    · rw [own_B_eq, if_neg (by decide), own_D2 n n0, own_m7 _ lo hi]
      exact own_blo (own_S (own_S n)) lo hi
  · intro g0 g1 g2 g3 e1 e2 e3 lo hi
    have n0 := own_nn h
    rw [own_L_eq, if_neg g0, if_neg e1, if_neg e2, if_pos e3] at hk
    rw [own_L_eq, own_E_eq, if_neg g0, if_neg e1, if_neg e2, if_pos e3, if_neg g0, if_neg g1, if_neg g2, if_pos g3]
    have z0 := own_nn hj
    have z1 := (own_ltI _ (4 : Int32) 4 (by decide)).mp hk
    have hc : j = (0 : Int32) ∨ j = (1 : Int32) ∨ j = (2 : Int32) ∨ j = (3 : Int32) := by
      simp only [← Int32.toInt_inj, Int32.reduceToInt]
      omega
    rcases hc with rfl | rfl | rfl | rfl
    · rw [own_B_eq, if_pos (by decide), own_D0 n]
      exact own_bhi n
    · rw [own_B_eq, if_pos (by decide), own_D1 n n0]
      exact own_bhi (own_S n)
    · rw [own_B_eq, if_pos (by decide), own_D2 n n0]
      exact own_bhi (own_S (own_S n))
    · rw [own_B_eq, if_neg (by decide), own_D3 n n0, own_m7 _ lo hi]
      exact own_blo (own_S (own_S (own_S n))) lo hi
  · intro g0 g1 g2 g3 e1 e2 e3 lo hi
    have n0 := own_nn h
    rw [own_L_eq, if_neg g0, if_neg e1, if_neg e2, if_neg e3] at hk
    rw [own_L_eq, own_E_eq, if_neg g0, if_neg e1, if_neg e2, if_neg e3, if_neg g0, if_neg g1, if_neg g2, if_neg g3]
    have z0 := own_nn hj
    have z1 := (own_ltI _ (5 : Int32) 5 (by decide)).mp hk
    have hc : j = (0 : Int32) ∨ j = (1 : Int32) ∨ j = (2 : Int32) ∨ j = (3 : Int32) ∨ j = (4 : Int32) := by
      simp only [← Int32.toInt_inj, Int32.reduceToInt]
      omega
    rcases hc with rfl | rfl | rfl | rfl | rfl
    · rw [own_B_eq, if_pos (by decide), own_D0 n]
      exact own_bhi n
    · rw [own_B_eq, if_pos (by decide), own_D1 n n0]
      exact own_bhi (own_S n)
    · rw [own_B_eq, if_pos (by decide), own_D2 n n0]
      exact own_bhi (own_S (own_S n))
    · rw [own_B_eq, if_pos (by decide), own_D3 n n0]
      exact own_bhi (own_S (own_S (own_S n)))
    · rw [own_B_eq, if_neg (by decide), own_D4 n n0, own_m7 _ lo hi]
      exact own_blo (own_S (own_S (own_S (own_S n)))) lo hi
theorem own_isI (vs : List Value) (h : ∀ v ∈ vs, ∃ x, v = .int x) (j : Int32) : vs.getD j.toNatClampNeg (.int (0 : Int32)) = .int (own_at vs j) := by
  unfold own_at
  have q : ∃ x, vs.getD j.toNatClampNeg (.int (0 : Int32)) = .int x := by
    by_cases hl : j.toNatClampNeg < vs.length
    · rw [List.getD_eq_getElem?_getD, List.getElem?_eq_getElem hl]
      exact h _ (List.getElem_mem hl)
    · rw [List.getD_eq_getElem?_getD, List.getElem?_eq_none (by omega)]
      exact ⟨0, rfl⟩
  obtain ⟨x, hx⟩ := q
  rw [hx]
theorem own_atA (A B : List Value) (j : Int32) (h : j.toNatClampNeg < A.length) : own_at (A ++ B) j = own_at A j := by
  unfold own_at
  rw [List.getD_eq_getElem?_getD, List.getD_eq_getElem?_getD, List.getElem?_append_left h]
theorem own_atB (A B : List Value) (j i : Int32) (h : j.toNatClampNeg = A.length + i.toNatClampNeg) : own_at (A ++ B) j = own_at B i := by
  unfold own_at
  rw [List.getD_eq_getElem?_getD, List.getD_eq_getElem?_getD, List.getElem?_append_right (by omega), show j.toNatClampNeg - A.length = i.toNatClampNeg by omega]
theorem own_EV (n : Int32) (h : ¬ n < 0) : ∀ v ∈ own_E [] n, ∃ x, v = .int x := by
  refine own_five n h ?_ ?_ ?_ ?_ ?_
  · intro g0 lo hi
    rw [own_E_eq, if_pos g0]
    simp
  · intro g0 g1 e1 lo hi
    rw [own_E_eq, if_neg g0, if_pos g1]
    simp
  · intro g0 g1 g2 e1 e2 lo hi
    rw [own_E_eq, if_neg g0, if_neg g1, if_pos g2]
    simp
  · intro g0 g1 g2 g3 e1 e2 e3 lo hi
    rw [own_E_eq, if_neg g0, if_neg g1, if_neg g2, if_pos g3]
    simp
  · intro g0 g1 g2 g3 e1 e2 e3 lo hi
    rw [own_E_eq, if_neg g0, if_neg g1, if_neg g2, if_neg g3]
    simp
theorem own_sn (p q y : Int32) (h : y = (((p &&& (2147483647 : Int32)).toUInt32 >>> ((q &&& (31 : Int32)) &&& 31).toUInt32).toInt32)) : ¬ y < 0 := by
  have a : (p &&& (2147483647 : Int32)).toInt = p.toInt % 2147483648 := c_mask p (2147483647 : Int32) 31 (by decide) (by decide)
  generalize p &&& (2147483647 : Int32) = v at *
  generalize q &&& (31 : Int32) = r at *
  have hn : (r &&& 31).toBitVec.toNat = r.toBitVec.toNat % 32 := by
    rw [Int32.toBitVec_and, BitVec.toNat_and]
    exact Nat.and_two_pow_sub_one_eq_mod _ 5
  rw [Int32.lt_iff_toInt_lt]
  simp only [Int32.reduceToInt]
  rcases Nat.eq_zero_or_pos (r.toBitVec.toNat % 32) with e | e
  · have e2 : r &&& 31 = 0 := by
      rw [← Int32.toBitVec_inj]
      apply BitVec.eq_of_toNat_eq
      rw [hn, e]
      rfl
    rw [e2] at h
    have e4 : (0 : Int32).toUInt32 = 0 := by decide
    have e3 : y = v := by rw [h, e4]; simp
    rw [e3]
    omega
  · have b := c_iushr v r _ rfl e
    rw [← h] at b
    rw [b]
    have z := rng32 v
    have d : 0 ≤ v.toInt % 4294967296 / ((2 ^ (r.toBitVec.toNat % 32) : Nat) : Int) := Int.ediv_nonneg (by omega) (Int.natCast_nonneg _)
    omega
theorem own_sum (a b : Int32) (ha : 1 ≤ a.toInt ∧ a.toInt ≤ 5) (hb : 1 ≤ b.toInt ∧ b.toInt ≤ 5) : (a + b).toInt = a.toInt + b.toInt := by
  have q := c_iadd a b
  have z := rng32 (a + b)
  omega
theorem own_pl (p a b y : Int32) (ha : 1 ≤ a.toInt ∧ a.toInt ≤ 5) (hb : 1 ≤ b.toInt ∧ b.toInt ≤ 5) (h : y = ((p &&& (2147483647 : Int32)) % (a + b))) : 0 ≤ y.toInt ∧ y.toInt < a.toInt + b.toInt := by
  have q := own_sum a b ha hb
  have m : (p &&& (2147483647 : Int32)).toInt = p.toInt % 2147483648 := c_mask p (2147483647 : Int32) 31 (by decide) (by decide)
  have r := (c_iremV (p &&& (2147483647 : Int32)) (a + b)).1
  rw [← h] at r
  clear h
  omega
theorem own_le0 {x : Int32} (h : 0 ≤ x.toInt) : ¬ x < 0 := by
  rw [Int32.lt_iff_toInt_lt]
  simp only [Int32.reduceToInt]
  omega
theorem own_cl {x : Int32} (h : 0 ≤ x.toInt) : (x.toNatClampNeg : Int) = x.toInt := (nat_of (own_le0 h)).symm
theorem d9_0 : decode prog_23_method_4_code 0 = .ok (.aload_n 0, 1) := by decide +kernel
theorem d9_1 : decode prog_23_method_4_code 1 = .ok (.getfield 11, 3) := by decide +kernel
theorem d9_4 : decode prog_23_method_4_code 4 = .ok (.iload_n 1, 1) := by decide +kernel
theorem d9_5 : decode prog_23_method_4_code 5 = .ok (.bipush 16, 2) := by decide +kernel
theorem d9_7 : decode prog_23_method_4_code 7 = .ok (.iushr, 1) := by decide +kernel
theorem d9_8 : decode prog_23_method_4_code 8 = .ok (.aaload, 1) := by decide +kernel
theorem d9_9 : decode prog_23_method_4_code 9 = .ok (.iload_n 1, 1) := by decide +kernel
theorem d9_10 : decode prog_23_method_4_code 10 = .ok (.ldc 23, 2) := by decide +kernel
theorem d9_12 : decode prog_23_method_4_code 12 = .ok (.iand, 1) := by decide +kernel
theorem d9_13 : decode prog_23_method_4_code 13 = .ok (.baload, 1) := by decide +kernel
theorem d9_14 : decode prog_23_method_4_code 14 = .ok (.sipush 255, 3) := by decide +kernel
theorem d9_17 : decode prog_23_method_4_code 17 = .ok (.iand, 1) := by decide +kernel
theorem d9_18 : decode prog_23_method_4_code 18 = .ok (.ireturn, 1) := by decide +kernel
theorem pn_9 : plainName "com/example/outcomery/outcomery/PackedNumbers" = true := by first | (simp [plainName, overriddenIn]; done) | decide +kernel
theorem ef_9 (m : MethodId) (a1 : Addr) (p2 : Int32) : entryFrame m #[(.ref a1), (.int p2)] 2 = mkF m 0 #[.val (.ref a1), .val (.int p2)] [] := by first | (simp [entryFrame, mkF, argsToLocals, Value.category]; done) | rfl
def Q9 (Z : State) (a1 : Addr) (p2 : Int32) (kx_w_pieces_a1 : ClassId) (bk : Addr) (kx_bk : ClassId) (vs : List Value) (elx : Int32) (w_pieces_a1 : Addr) (h0 : Heap) (n0 : Nat) (v : Option Value) (h : Heap) (L : List Loc) : Prop := v = some (.int (elx &&& (255 : Int32))) ∧ Fr n0 L ∧ h = h0
set_option maxRecDepth 65536 in
set_option maxHeartbeats 40000000 in
theorem rm9 (l : Launch) (Z : State) (a0 : Array Value) (hw : ∀ d ∈ tables_1, d.before a0 Z = true) (ws : List Jvm.Cond) (a1 : Addr) (p2 : Int32) (kx_w_pieces_a1 : ClassId) (bk : Addr) (kx_bk : ClassId) (vs : List Value) (elx : Int32) (w_pieces_a1 : Addr) (h0 : Heap) (n0 : Nat) (Z0 : n0 ≤ h0.size) (V_w_pieces_a1 : Arv Z h0 w_pieces_a1 kx_w_pieces_a1 (.array .byte) (1 : Int32) [(.ref bk)] .null) (V_bk : Arv Z h0 bk kx_bk .byte (64 : Int32) vs (.int (0 : Int32))) (hq0 : ¬ p2 < 0) (hq1 : p2 < 64) (hel : vs.getD p2.toNatClampNeg (.int (0 : Int32)) = .int elx) (F_pieces_a1 : Fld Z h0 a1 "com/example/outcomery/outcomery/PackedNumbers" "pieces" "[[B" (.ref w_pieces_a1)) :
    MetFree l (⟨"com/example/outcomery/outcomery/PackedNumbers", "byteAt", "(I)I"⟩ : MethodName) (head1 (Jvm.Cond.code (⟨"com/example/outcomery/outcomery/PackedNumbers", "byteAt", "(I)I"⟩ : MethodName) prog_23_method_4_code 2 (some .int) :: ws) ({ frames := 0, cells := 0, slots := 0, locals := 0 } : Room)) (fun a U => a = #[(.ref a1), (.int p2)] ∧ Z.Warmed39 U.vm ∧ U.heap = h0) (fun _ _ _ _ _ => True) (fun _ U o U' => ∃ v L, o = .returned v ∧ Q9 Z a1 p2 kx_w_pieces_a1 bk kx_bk vs elx w_pieces_a1 h0 n0 v U'.heap L ∧ FrameEnd U o U' L ({ frames := 0, cells := 0, slots := 0, locals := 0 } : Room).cells ({ frames := 0, cells := 0, slots := 0, locals := 0 } : Room).slots) := by
  refine MetFree.of_bodySF (plainFor_of_name pn_9) hisR ?_
  intro p e s m args below meth c s₁ Bd hml0 hP hK
  obtain ⟨rfl, hZ, hh⟩ := hP
  have hx := Bd.exec
  have hby := Bd.bytes
  have hml : c.maxLocals = 2 := hml0
  have hown : s.vm.findClass "com/example/outcomery/outcomery/PackedNumbers" = some m.cls := findClass_of_methodNamed Bd.named
  have hnm := (name_of_methodNamed Bd.named Bd.method).1
  have X0 : Stand p l e ({ frames := 0, cells := 0, slots := 0, locals := 0 } : Room) s m #[(.ref a1), (.int p2)] below meth c s₁ [] 0 0 := Stand.of_body Bd
  have e0 : s₁.heap = h0 := by rw [← hh, Bd.state]; rfl
  have N0 := Fr.nil n0
  have K0 : Keep h0 h0 [] := Keep.refl h0 _
  refine (show Gl p e below (fun o U' => ∃ v L, o = .returned v ∧ Q9 Z a1 p2 kx_w_pieces_a1 bk kx_bk vs elx w_pieces_a1 h0 n0 v U'.heap L ∧ FrameEnd s o U' L ({ frames := 0, cells := 0, slots := 0, locals := 0 } : Room).cells ({ frames := 0, cells := 0, slots := 0, locals := 0 } : Room).slots) (s₁.setTop (entryFrame m #[(.ref a1), (.int p2)] 2)) from ?_)
  obtain ⟨L0, hL0⟩ : ∃ z : Array Slot, z = #[.val (.ref a1), .val (.int p2)] := ⟨_, rfl⟩
  refine Gl.st (B := (s₁.setTop (mkF m 0 L0 []))) (fun t k => castTop (efAt hL0 (ef_9 m a1 p2)) k) ?_
  refine Gl.st (B := (s₁.setTop (mkF m 1 L0 [(.ref a1)]))) (fun t k => XS.aloadN X0.here hx rfl (hb hby d9_0) (ldAt hL0 rfl) rfl k) ?_
  obtain ⟨T1, X1, e1, st1⟩ := getF X0 hx hZ hown (host := "") (Or.inl (tw hw 12 rfl)) Via.refl e0 F_pieces_a1 (g := (mkF m 1 L0 [(.ref a1)])) rfl rfl (hb hby d9_1)
  refine Gl.st (B := (T1.setTop (mkF m 4 L0 [(.ref w_pieces_a1)]))) st1 ?_
  refine Gl.st (B := (T1.setTop (mkF m 5 L0 [(.int p2), (.ref w_pieces_a1)]))) (fun t k => XS.iloadN X1.here hx rfl (hb hby d9_4) (ldAt hL0 rfl) k) ?_
  refine Gl.st (B := (T1.setTop (mkF m 7 L0 [(.int (16 : Int32)), (.int p2), (.ref w_pieces_a1)]))) (fun t k => XS.bipush X1.here hx rfl (hb hby d9_5) k) ?_
  refine Gl.st (B := (T1.setTop (mkF m 8 L0 [(.int ((p2.toUInt32 >>> ((16 : Int32) &&& 31).toUInt32).toInt32)), (.ref w_pieces_a1)]))) (fun t k => XS.iushr X1.here hx rfl (hb hby d9_7) rfl k) ?_
  obtain ⟨ix8, hix8⟩ : ∃ z : Int32, z = ((p2.toUInt32 >>> ((16 : Int32) &&& 31).toUInt32).toInt32) := ⟨_, rfl⟩
  refine Gl.cast (B := (T1.setTop (mkF m 8 L0 [(.int ix8), (.ref w_pieces_a1)]))) (by rw [hix8]) ?_
  have hn2 : ix8 = (0 : Int32) := by
    exact own_hi0 p2 _ hq0 (own_lt _ hq1 (by decide)) hix8
  subst hn2
  obtain ⟨cl3, Ar3, q3, S3, P3, H3, G3⟩ := (id V_w_pieces_a1)
  have hin8_3 : ¬ ((0 : Int32) < 0 ∨ cl3.slots.size ≤ ((0 : Int32)).toNatClampNeg) := inb_of S3 ⟨by decide, by decide⟩
  have hat3 := Has.at H3 hin8_3 (v := (.ref bk)) rfl
  refine Gl.st (B := (T1.setTop (mkF m 9 L0 [(.ref bk)]))) (fun t k => X1.aaload hx (j := (0 : Int32)) (v := (.ref bk)) (by rw [e1]; exact Ar3.1) (State.isArrayOf_alike hZ.alike Ar3.2.1) rfl Ar3.2.2 hin8_3 hat3 (g := (mkF m 8 L0 [(.int (0 : Int32)), (.ref w_pieces_a1)])) rfl rfl (hb hby d9_8) _ k) ?_
  refine Gl.st (B := (T1.setTop (mkF m 10 L0 [(.int p2), (.ref bk)]))) (fun t k => XS.iloadN X1.here hx rfl (hb hby d9_9) (ldAt hL0 rfl) k) ?_
  refine Gl.st (B := (T1.setTop (mkF m 12 L0 [(.int (65535 : Int32)), (.int p2), (.ref bk)]))) (fun t k => X1.ldcInt hx hown (mvT hZ (tw hw 46 rfl)) (g := (mkF m 10 L0 [(.int p2), (.ref bk)])) rfl (hb hby d9_10) _ k) ?_
  refine Gl.st (B := (T1.setTop (mkF m 13 L0 [(.int (p2 &&& (65535 : Int32))), (.ref bk)]))) (fun t k => XS.iand X1.here hx rfl (hb hby d9_12) rfl k) ?_
  obtain ⟨ix13, hix13⟩ : ∃ z : Int32, z = (p2 &&& (65535 : Int32)) := ⟨_, rfl⟩
  refine Gl.cast (B := (T1.setTop (mkF m 13 L0 [(.int ix13), (.ref bk)]))) (by rw [hix13]) ?_
  have hn4 : p2 = ix13 := by
    exact own_lo0 p2 _ hq0 (own_lt _ hq1 (by decide)) hix13
  subst hn4
  obtain ⟨cl5, Ar5, q5, S5, P5, H5, G5⟩ := (id V_bk)
  have hin13_5 : ¬ (p2 < 0 ∨ cl5.slots.size ≤ (p2).toNatClampNeg) := inb_of S5 ⟨hq0, own_lt _ hq1 (by decide)⟩
  have hat5 := Has.at H5 hin13_5 (v := (.int elx)) hel
  refine Gl.st (B := (T1.setTop (mkF m 14 L0 [(.int elx)]))) (fun t k => X1.baloadBytes hx (j := p2) (v := (.int elx)) (by rw [e1]; exact Ar5.1) (State.isArrayOf_alike hZ.alike Ar5.2.1) Ar5.2.2 hin13_5 hat5 (g := (mkF m 13 L0 [(.int p2), (.ref bk)])) rfl rfl (hb hby d9_13) _ k) ?_
  refine Gl.st (B := (T1.setTop (mkF m 17 L0 [(.int (255 : Int32)), (.int elx)]))) (fun t k => XS.sipush X1.here hx rfl (hb hby d9_14) k) ?_
  refine Gl.st (B := (T1.setTop (mkF m 18 L0 [(.int (elx &&& (255 : Int32)))]))) (fun t k => XS.iand X1.here hx rfl (hb hby d9_17) rfl k) ?_
  obtain ⟨fs, hr, hrun, hended, hW, hsame⟩ := X1.leave (v := some (.int (elx &&& (255 : Int32)))) (fun h => by rw [Bd.returns] at h; cases h)
  refine Gl.fin (retI X1 hx Bd.returns (hb hby d9_18) hr) hrun hended ⟨_, _, rfl, ?_, ⟨_, rfl⟩, hW, hsame.mono (by decide) (by decide)⟩
  show Q9 Z a1 p2 kx_w_pieces_a1 bk kx_bk vs elx w_pieces_a1 h0 n0 _ T1.heap _
  rw [e1]
  exact ⟨rfl, N0, rfl⟩
theorem sn2 {Z : State} {a0 : Array Value} (hw : ∀ d ∈ tables_1, d.before a0 Z = true) : Jvm.RoadKit.slotOf Z "com/example/outcomery/outcomery/PackedNumbers$Reader" "this$0" "Lcom/example/outcomery/outcomery/PackedNumbers;" ≠ Jvm.RoadKit.slotOf Z "com/example/outcomery/outcomery/PackedNumbers$Reader" "place" "I" := slot_ne (Or.inr (tw hw 25 rfl)) (Or.inl (tw hw 33 rfl)) (by decide) (t := (.object "com/example/outcomery/outcomery/PackedNumbers")) (t' := .int) (by decide) (by decide)
theorem d8_0 : decode prog_24_method_3_code 0 = .ok (.iconst 0, 1) := by decide +kernel
theorem d8_1 : decode prog_24_method_3_code 1 = .ok (.istore_n 1, 1) := by decide +kernel
theorem d8_2 : decode prog_24_method_3_code 2 = .ok (.iconst 0, 1) := by decide +kernel
theorem d8_3 : decode prog_24_method_3_code 3 = .ok (.istore_n 2, 1) := by decide +kernel
theorem d8_4 : decode prog_24_method_3_code 4 = .ok (.aload_n 0, 1) := by decide +kernel
theorem d8_5 : decode prog_24_method_3_code 5 = .ok (.getfield 1, 3) := by decide +kernel
theorem d8_8 : decode prog_24_method_3_code 8 = .ok (.aload_n 0, 1) := by decide +kernel
theorem d8_9 : decode prog_24_method_3_code 9 = .ok (.getfield 13, 3) := by decide +kernel
theorem d8_12 : decode prog_24_method_3_code 12 = .ok (.invokevirtual 22, 3) := by decide +kernel
theorem d8_15 : decode prog_24_method_3_code 15 = .ok (.istore_n 3, 1) := by decide +kernel
theorem d8_16 : decode prog_24_method_3_code 16 = .ok (.aload_n 0, 1) := by decide +kernel
theorem d8_17 : decode prog_24_method_3_code 17 = .ok (.dup, 1) := by decide +kernel
theorem d8_18 : decode prog_24_method_3_code 18 = .ok (.getfield 13, 3) := by decide +kernel
theorem d8_21 : decode prog_24_method_3_code 21 = .ok (.iconst 1, 1) := by decide +kernel
theorem d8_22 : decode prog_24_method_3_code 22 = .ok (.iadd, 1) := by decide +kernel
theorem d8_23 : decode prog_24_method_3_code 23 = .ok (.putfield 13, 3) := by decide +kernel
theorem d8_26 : decode prog_24_method_3_code 26 = .ok (.iload_n 1, 1) := by decide +kernel
theorem d8_27 : decode prog_24_method_3_code 27 = .ok (.iload_n 3, 1) := by decide +kernel
theorem d8_28 : decode prog_24_method_3_code 28 = .ok (.bipush 127, 2) := by decide +kernel
theorem d8_30 : decode prog_24_method_3_code 30 = .ok (.iand, 1) := by decide +kernel
theorem d8_31 : decode prog_24_method_3_code 31 = .ok (.iload_n 2, 1) := by decide +kernel
theorem d8_32 : decode prog_24_method_3_code 32 = .ok (.ishl, 1) := by decide +kernel
theorem d8_33 : decode prog_24_method_3_code 33 = .ok (.ior, 1) := by decide +kernel
theorem d8_34 : decode prog_24_method_3_code 34 = .ok (.istore_n 1, 1) := by decide +kernel
theorem d8_35 : decode prog_24_method_3_code 35 = .ok (.iinc 2 7, 3) := by decide +kernel
theorem d8_38 : decode prog_24_method_3_code 38 = .ok (.iload_n 3, 1) := by decide +kernel
theorem d8_39 : decode prog_24_method_3_code 39 = .ok (.sipush 128, 3) := by decide +kernel
theorem d8_42 : decode prog_24_method_3_code 42 = .ok (.if_icmp .ge (-38), 3) := by decide +kernel
theorem d8_45 : decode prog_24_method_3_code 45 = .ok (.iload_n 1, 1) := by decide +kernel
theorem d8_46 : decode prog_24_method_3_code 46 = .ok (.ireturn, 1) := by decide +kernel
theorem pn_8 : plainName "com/example/outcomery/outcomery/PackedNumbers$Reader" = true := by first | (simp [plainName, overriddenIn]; done) | decide +kernel
theorem pd_8_0 : parseMethodDescriptor "(I)I" = some ⟨[.int], some .int⟩ := by decide +kernel
theorem ef_8 (m : MethodId) (a1 : Addr) : entryFrame m #[(.ref a1)] 4 = mkF m 0 #[.val (.ref a1), .unset, .unset, .unset] [] := by first | (simp [entryFrame, mkF, argsToLocals, Value.category]; done) | rfl
theorem own_8_hp12_6 (w_place_a1 : Int32)  (hw0 : ¬ w_place_a1 < 0) (hw1 : w_place_a1 < 58) : ¬ w_place_a1 < 0 := by
  have nb : ¬ w_place_a1 < 0 := hw0
  have tb : w_place_a1.toInt ≤ 58 := by
    have q := Int32.lt_iff_toInt_lt.mp hw1
    simp only [Int32.reduceToInt] at q
    omega
  have t0b : 0 ≤ w_place_a1.toInt := by
    have q := nb
    rw [Int32.lt_iff_toInt_lt] at q
    simp only [Int32.reduceToInt] at q
    omega
  exact nb
theorem own_8_hp12_7 (w_place_a1 : Int32)  (hw0 : ¬ w_place_a1 < 0) (hw1 : w_place_a1 < 58) : w_place_a1 < 64 := by
  have nb : ¬ w_place_a1 < 0 := hw0
  have tb : w_place_a1.toInt ≤ 58 := by
    have q := Int32.lt_iff_toInt_lt.mp hw1
    simp only [Int32.reduceToInt] at q
    omega
  have t0b : 0 ≤ w_place_a1.toInt := by
    have q := nb
    rw [Int32.lt_iff_toInt_lt] at q
    simp only [Int32.reduceToInt] at q
    omega
  rw [Int32.lt_iff_toInt_lt]
  simp only [Int32.reduceToInt]
  omega
theorem own_8_hp12_27 (w_place_a1 : Int32) (x23_12 : Int32) (hx23_12 : x23_12 = (w_place_a1 + (1 : Int32))) (hw0 : ¬ w_place_a1 < 0) (hw1 : w_place_a1 < 58) : ¬ x23_12 < 0 := by
  have nb : ¬ w_place_a1 < 0 := hw0
  have tb : w_place_a1.toInt ≤ 58 := by
    have q := Int32.lt_iff_toInt_lt.mp hw1
    simp only [Int32.reduceToInt] at q
    omega
  have t0b : 0 ≤ w_place_a1.toInt := by
    have q := nb
    rw [Int32.lt_iff_toInt_lt] at q
    simp only [Int32.reduceToInt] at q
    omega
  have a0 := c_iadd w_place_a1 1
  rw [← hx23_12] at a0
  simp only [Int32.reduceToInt] at a0
  have r0 := rng32 x23_12
  have t0 : x23_12.toInt = w_place_a1.toInt + 1 := by omega
  have s0 : x23_12.toNatClampNeg = w_place_a1.toNatClampNeg + 1 := by rw [hx23_12]; exact own_suc w_place_a1 nb (by rw [Int32.lt_iff_toInt_lt]; simp only [Int32.reduceToInt]; omega)
  have n0 : ¬ x23_12 < 0 := by
    rw [Int32.lt_iff_toInt_lt]
    simp only [Int32.reduceToInt]
    omega
  exact n0
theorem own_8_hp12_28 (w_place_a1 : Int32) (x23_12 : Int32) (hx23_12 : x23_12 = (w_place_a1 + (1 : Int32))) (hw0 : ¬ w_place_a1 < 0) (hw1 : w_place_a1 < 58) : x23_12 < 64 := by
  have nb : ¬ w_place_a1 < 0 := hw0
  have tb : w_place_a1.toInt ≤ 58 := by
    have q := Int32.lt_iff_toInt_lt.mp hw1
    simp only [Int32.reduceToInt] at q
    omega
  have t0b : 0 ≤ w_place_a1.toInt := by
    have q := nb
    rw [Int32.lt_iff_toInt_lt] at q
    simp only [Int32.reduceToInt] at q
    omega
  have a0 := c_iadd w_place_a1 1
  rw [← hx23_12] at a0
  simp only [Int32.reduceToInt] at a0
  have r0 := rng32 x23_12
  have t0 : x23_12.toInt = w_place_a1.toInt + 1 := by omega
  have s0 : x23_12.toNatClampNeg = w_place_a1.toNatClampNeg + 1 := by rw [hx23_12]; exact own_suc w_place_a1 nb (by rw [Int32.lt_iff_toInt_lt]; simp only [Int32.reduceToInt]; omega)
  have n0 : ¬ x23_12 < 0 := by
    rw [Int32.lt_iff_toInt_lt]
    simp only [Int32.reduceToInt]
    omega
  rw [Int32.lt_iff_toInt_lt]
  simp only [Int32.reduceToInt]
  omega
theorem own_8_hp12_50 (w_place_a1 : Int32) (x23_12 : Int32) (x23_34 : Int32) (hx23_12 : x23_12 = (w_place_a1 + (1 : Int32))) (hx23_34 : x23_34 = (x23_12 + (1 : Int32))) (hw0 : ¬ w_place_a1 < 0) (hw1 : w_place_a1 < 58) : ¬ x23_34 < 0 := by
  have nb : ¬ w_place_a1 < 0 := hw0
  have tb : w_place_a1.toInt ≤ 58 := by
    have q := Int32.lt_iff_toInt_lt.mp hw1
    simp only [Int32.reduceToInt] at q
    omega
  have t0b : 0 ≤ w_place_a1.toInt := by
    have q := nb
    rw [Int32.lt_iff_toInt_lt] at q
    simp only [Int32.reduceToInt] at q
    omega
  have a0 := c_iadd w_place_a1 1
  rw [← hx23_12] at a0
  simp only [Int32.reduceToInt] at a0
  have r0 := rng32 x23_12
  have t0 : x23_12.toInt = w_place_a1.toInt + 1 := by omega
  have s0 : x23_12.toNatClampNeg = w_place_a1.toNatClampNeg + 1 := by rw [hx23_12]; exact own_suc w_place_a1 nb (by rw [Int32.lt_iff_toInt_lt]; simp only [Int32.reduceToInt]; omega)
  have n0 : ¬ x23_12 < 0 := by
    rw [Int32.lt_iff_toInt_lt]
    simp only [Int32.reduceToInt]
    omega
  have a1 := c_iadd x23_12 1
  rw [← hx23_34] at a1
  simp only [Int32.reduceToInt] at a1
  have r1 := rng32 x23_34
  have t1 : x23_34.toInt = x23_12.toInt + 1 := by omega
  have s1 : x23_34.toNatClampNeg = x23_12.toNatClampNeg + 1 := by rw [hx23_34]; exact own_suc x23_12 n0 (by rw [Int32.lt_iff_toInt_lt]; simp only [Int32.reduceToInt]; omega)
  have n1 : ¬ x23_34 < 0 := by
    rw [Int32.lt_iff_toInt_lt]
    simp only [Int32.reduceToInt]
    omega
  exact n1
theorem own_8_hp12_51 (w_place_a1 : Int32) (x23_12 : Int32) (x23_34 : Int32) (hx23_12 : x23_12 = (w_place_a1 + (1 : Int32))) (hx23_34 : x23_34 = (x23_12 + (1 : Int32))) (hw0 : ¬ w_place_a1 < 0) (hw1 : w_place_a1 < 58) : x23_34 < 64 := by
  have nb : ¬ w_place_a1 < 0 := hw0
  have tb : w_place_a1.toInt ≤ 58 := by
    have q := Int32.lt_iff_toInt_lt.mp hw1
    simp only [Int32.reduceToInt] at q
    omega
  have t0b : 0 ≤ w_place_a1.toInt := by
    have q := nb
    rw [Int32.lt_iff_toInt_lt] at q
    simp only [Int32.reduceToInt] at q
    omega
  have a0 := c_iadd w_place_a1 1
  rw [← hx23_12] at a0
  simp only [Int32.reduceToInt] at a0
  have r0 := rng32 x23_12
  have t0 : x23_12.toInt = w_place_a1.toInt + 1 := by omega
  have s0 : x23_12.toNatClampNeg = w_place_a1.toNatClampNeg + 1 := by rw [hx23_12]; exact own_suc w_place_a1 nb (by rw [Int32.lt_iff_toInt_lt]; simp only [Int32.reduceToInt]; omega)
  have n0 : ¬ x23_12 < 0 := by
    rw [Int32.lt_iff_toInt_lt]
    simp only [Int32.reduceToInt]
    omega
  have a1 := c_iadd x23_12 1
  rw [← hx23_34] at a1
  simp only [Int32.reduceToInt] at a1
  have r1 := rng32 x23_34
  have t1 : x23_34.toInt = x23_12.toInt + 1 := by omega
  have s1 : x23_34.toNatClampNeg = x23_12.toNatClampNeg + 1 := by rw [hx23_34]; exact own_suc x23_12 n0 (by rw [Int32.lt_iff_toInt_lt]; simp only [Int32.reduceToInt]; omega)
  have n1 : ¬ x23_34 < 0 := by
    rw [Int32.lt_iff_toInt_lt]
    simp only [Int32.reduceToInt]
    omega
  rw [Int32.lt_iff_toInt_lt]
  simp only [Int32.reduceToInt]
  omega
theorem own_8_hp12_73 (w_place_a1 : Int32) (x23_12 : Int32) (x23_34 : Int32) (x23_57 : Int32) (hx23_12 : x23_12 = (w_place_a1 + (1 : Int32))) (hx23_34 : x23_34 = (x23_12 + (1 : Int32))) (hx23_57 : x23_57 = (x23_34 + (1 : Int32))) (hw0 : ¬ w_place_a1 < 0) (hw1 : w_place_a1 < 58) : ¬ x23_57 < 0 := by
  have nb : ¬ w_place_a1 < 0 := hw0
  have tb : w_place_a1.toInt ≤ 58 := by
    have q := Int32.lt_iff_toInt_lt.mp hw1
    simp only [Int32.reduceToInt] at q
    omega
  have t0b : 0 ≤ w_place_a1.toInt := by
    have q := nb
    rw [Int32.lt_iff_toInt_lt] at q
    simp only [Int32.reduceToInt] at q
    omega
  have a0 := c_iadd w_place_a1 1
  rw [← hx23_12] at a0
  simp only [Int32.reduceToInt] at a0
  have r0 := rng32 x23_12
  have t0 : x23_12.toInt = w_place_a1.toInt + 1 := by omega
  have s0 : x23_12.toNatClampNeg = w_place_a1.toNatClampNeg + 1 := by rw [hx23_12]; exact own_suc w_place_a1 nb (by rw [Int32.lt_iff_toInt_lt]; simp only [Int32.reduceToInt]; omega)
  have n0 : ¬ x23_12 < 0 := by
    rw [Int32.lt_iff_toInt_lt]
    simp only [Int32.reduceToInt]
    omega
  have a1 := c_iadd x23_12 1
  rw [← hx23_34] at a1
  simp only [Int32.reduceToInt] at a1
  have r1 := rng32 x23_34
  have t1 : x23_34.toInt = x23_12.toInt + 1 := by omega
  have s1 : x23_34.toNatClampNeg = x23_12.toNatClampNeg + 1 := by rw [hx23_34]; exact own_suc x23_12 n0 (by rw [Int32.lt_iff_toInt_lt]; simp only [Int32.reduceToInt]; omega)
  have n1 : ¬ x23_34 < 0 := by
    rw [Int32.lt_iff_toInt_lt]
    simp only [Int32.reduceToInt]
    omega
  have a2 := c_iadd x23_34 1
  rw [← hx23_57] at a2
  simp only [Int32.reduceToInt] at a2
  have r2 := rng32 x23_57
  have t2 : x23_57.toInt = x23_34.toInt + 1 := by omega
  have s2 : x23_57.toNatClampNeg = x23_34.toNatClampNeg + 1 := by rw [hx23_57]; exact own_suc x23_34 n1 (by rw [Int32.lt_iff_toInt_lt]; simp only [Int32.reduceToInt]; omega)
  have n2 : ¬ x23_57 < 0 := by
    rw [Int32.lt_iff_toInt_lt]
    simp only [Int32.reduceToInt]
    omega
  exact n2
theorem own_8_hp12_74 (w_place_a1 : Int32) (x23_12 : Int32) (x23_34 : Int32) (x23_57 : Int32) (hx23_12 : x23_12 = (w_place_a1 + (1 : Int32))) (hx23_34 : x23_34 = (x23_12 + (1 : Int32))) (hx23_57 : x23_57 = (x23_34 + (1 : Int32))) (hw0 : ¬ w_place_a1 < 0) (hw1 : w_place_a1 < 58) : x23_57 < 64 := by
  have nb : ¬ w_place_a1 < 0 := hw0
  have tb : w_place_a1.toInt ≤ 58 := by
    have q := Int32.lt_iff_toInt_lt.mp hw1
    simp only [Int32.reduceToInt] at q
    omega
  have t0b : 0 ≤ w_place_a1.toInt := by
    have q := nb
    rw [Int32.lt_iff_toInt_lt] at q
    simp only [Int32.reduceToInt] at q
    omega
  have a0 := c_iadd w_place_a1 1
  rw [← hx23_12] at a0
  simp only [Int32.reduceToInt] at a0
  have r0 := rng32 x23_12
  have t0 : x23_12.toInt = w_place_a1.toInt + 1 := by omega
  have s0 : x23_12.toNatClampNeg = w_place_a1.toNatClampNeg + 1 := by rw [hx23_12]; exact own_suc w_place_a1 nb (by rw [Int32.lt_iff_toInt_lt]; simp only [Int32.reduceToInt]; omega)
  have n0 : ¬ x23_12 < 0 := by
    rw [Int32.lt_iff_toInt_lt]
    simp only [Int32.reduceToInt]
    omega
  have a1 := c_iadd x23_12 1
  rw [← hx23_34] at a1
  simp only [Int32.reduceToInt] at a1
  have r1 := rng32 x23_34
  have t1 : x23_34.toInt = x23_12.toInt + 1 := by omega
  have s1 : x23_34.toNatClampNeg = x23_12.toNatClampNeg + 1 := by rw [hx23_34]; exact own_suc x23_12 n0 (by rw [Int32.lt_iff_toInt_lt]; simp only [Int32.reduceToInt]; omega)
  have n1 : ¬ x23_34 < 0 := by
    rw [Int32.lt_iff_toInt_lt]
    simp only [Int32.reduceToInt]
    omega
  have a2 := c_iadd x23_34 1
  rw [← hx23_57] at a2
  simp only [Int32.reduceToInt] at a2
  have r2 := rng32 x23_57
  have t2 : x23_57.toInt = x23_34.toInt + 1 := by omega
  have s2 : x23_57.toNatClampNeg = x23_34.toNatClampNeg + 1 := by rw [hx23_57]; exact own_suc x23_34 n1 (by rw [Int32.lt_iff_toInt_lt]; simp only [Int32.reduceToInt]; omega)
  have n2 : ¬ x23_57 < 0 := by
    rw [Int32.lt_iff_toInt_lt]
    simp only [Int32.reduceToInt]
    omega
  rw [Int32.lt_iff_toInt_lt]
  simp only [Int32.reduceToInt]
  omega
theorem own_8_hp12_96 (w_place_a1 : Int32) (x23_12 : Int32) (x23_34 : Int32) (x23_57 : Int32) (x23_80 : Int32) (hx23_12 : x23_12 = (w_place_a1 + (1 : Int32))) (hx23_34 : x23_34 = (x23_12 + (1 : Int32))) (hx23_57 : x23_57 = (x23_34 + (1 : Int32))) (hx23_80 : x23_80 = (x23_57 + (1 : Int32))) (hw0 : ¬ w_place_a1 < 0) (hw1 : w_place_a1 < 58) : ¬ x23_80 < 0 := by
  have nb : ¬ w_place_a1 < 0 := hw0
  have tb : w_place_a1.toInt ≤ 58 := by
    have q := Int32.lt_iff_toInt_lt.mp hw1
    simp only [Int32.reduceToInt] at q
    omega
  have t0b : 0 ≤ w_place_a1.toInt := by
    have q := nb
    rw [Int32.lt_iff_toInt_lt] at q
    simp only [Int32.reduceToInt] at q
    omega
  have a0 := c_iadd w_place_a1 1
  rw [← hx23_12] at a0
  simp only [Int32.reduceToInt] at a0
  have r0 := rng32 x23_12
  have t0 : x23_12.toInt = w_place_a1.toInt + 1 := by omega
  have s0 : x23_12.toNatClampNeg = w_place_a1.toNatClampNeg + 1 := by rw [hx23_12]; exact own_suc w_place_a1 nb (by rw [Int32.lt_iff_toInt_lt]; simp only [Int32.reduceToInt]; omega)
  have n0 : ¬ x23_12 < 0 := by
    rw [Int32.lt_iff_toInt_lt]
    simp only [Int32.reduceToInt]
    omega
  have a1 := c_iadd x23_12 1
  rw [← hx23_34] at a1
  simp only [Int32.reduceToInt] at a1
  have r1 := rng32 x23_34
  have t1 : x23_34.toInt = x23_12.toInt + 1 := by omega
  have s1 : x23_34.toNatClampNeg = x23_12.toNatClampNeg + 1 := by rw [hx23_34]; exact own_suc x23_12 n0 (by rw [Int32.lt_iff_toInt_lt]; simp only [Int32.reduceToInt]; omega)
  have n1 : ¬ x23_34 < 0 := by
    rw [Int32.lt_iff_toInt_lt]
    simp only [Int32.reduceToInt]
    omega
  have a2 := c_iadd x23_34 1
  rw [← hx23_57] at a2
  simp only [Int32.reduceToInt] at a2
  have r2 := rng32 x23_57
  have t2 : x23_57.toInt = x23_34.toInt + 1 := by omega
  have s2 : x23_57.toNatClampNeg = x23_34.toNatClampNeg + 1 := by rw [hx23_57]; exact own_suc x23_34 n1 (by rw [Int32.lt_iff_toInt_lt]; simp only [Int32.reduceToInt]; omega)
  have n2 : ¬ x23_57 < 0 := by
    rw [Int32.lt_iff_toInt_lt]
    simp only [Int32.reduceToInt]
    omega
  have a3 := c_iadd x23_57 1
  rw [← hx23_80] at a3
  simp only [Int32.reduceToInt] at a3
  have r3 := rng32 x23_80
  have t3 : x23_80.toInt = x23_57.toInt + 1 := by omega
  have s3 : x23_80.toNatClampNeg = x23_57.toNatClampNeg + 1 := by rw [hx23_80]; exact own_suc x23_57 n2 (by rw [Int32.lt_iff_toInt_lt]; simp only [Int32.reduceToInt]; omega)
  have n3 : ¬ x23_80 < 0 := by
    rw [Int32.lt_iff_toInt_lt]
    simp only [Int32.reduceToInt]
    omega
  exact n3
theorem own_8_hp12_97 (w_place_a1 : Int32) (x23_12 : Int32) (x23_34 : Int32) (x23_57 : Int32) (x23_80 : Int32) (hx23_12 : x23_12 = (w_place_a1 + (1 : Int32))) (hx23_34 : x23_34 = (x23_12 + (1 : Int32))) (hx23_57 : x23_57 = (x23_34 + (1 : Int32))) (hx23_80 : x23_80 = (x23_57 + (1 : Int32))) (hw0 : ¬ w_place_a1 < 0) (hw1 : w_place_a1 < 58) : x23_80 < 64 := by
  have nb : ¬ w_place_a1 < 0 := hw0
  have tb : w_place_a1.toInt ≤ 58 := by
    have q := Int32.lt_iff_toInt_lt.mp hw1
    simp only [Int32.reduceToInt] at q
    omega
  have t0b : 0 ≤ w_place_a1.toInt := by
    have q := nb
    rw [Int32.lt_iff_toInt_lt] at q
    simp only [Int32.reduceToInt] at q
    omega
  have a0 := c_iadd w_place_a1 1
  rw [← hx23_12] at a0
  simp only [Int32.reduceToInt] at a0
  have r0 := rng32 x23_12
  have t0 : x23_12.toInt = w_place_a1.toInt + 1 := by omega
  have s0 : x23_12.toNatClampNeg = w_place_a1.toNatClampNeg + 1 := by rw [hx23_12]; exact own_suc w_place_a1 nb (by rw [Int32.lt_iff_toInt_lt]; simp only [Int32.reduceToInt]; omega)
  have n0 : ¬ x23_12 < 0 := by
    rw [Int32.lt_iff_toInt_lt]
    simp only [Int32.reduceToInt]
    omega
  have a1 := c_iadd x23_12 1
  rw [← hx23_34] at a1
  simp only [Int32.reduceToInt] at a1
  have r1 := rng32 x23_34
  have t1 : x23_34.toInt = x23_12.toInt + 1 := by omega
  have s1 : x23_34.toNatClampNeg = x23_12.toNatClampNeg + 1 := by rw [hx23_34]; exact own_suc x23_12 n0 (by rw [Int32.lt_iff_toInt_lt]; simp only [Int32.reduceToInt]; omega)
  have n1 : ¬ x23_34 < 0 := by
    rw [Int32.lt_iff_toInt_lt]
    simp only [Int32.reduceToInt]
    omega
  have a2 := c_iadd x23_34 1
  rw [← hx23_57] at a2
  simp only [Int32.reduceToInt] at a2
  have r2 := rng32 x23_57
  have t2 : x23_57.toInt = x23_34.toInt + 1 := by omega
  have s2 : x23_57.toNatClampNeg = x23_34.toNatClampNeg + 1 := by rw [hx23_57]; exact own_suc x23_34 n1 (by rw [Int32.lt_iff_toInt_lt]; simp only [Int32.reduceToInt]; omega)
  have n2 : ¬ x23_57 < 0 := by
    rw [Int32.lt_iff_toInt_lt]
    simp only [Int32.reduceToInt]
    omega
  have a3 := c_iadd x23_57 1
  rw [← hx23_80] at a3
  simp only [Int32.reduceToInt] at a3
  have r3 := rng32 x23_80
  have t3 : x23_80.toInt = x23_57.toInt + 1 := by omega
  have s3 : x23_80.toNatClampNeg = x23_57.toNatClampNeg + 1 := by rw [hx23_80]; exact own_suc x23_57 n2 (by rw [Int32.lt_iff_toInt_lt]; simp only [Int32.reduceToInt]; omega)
  have n3 : ¬ x23_80 < 0 := by
    rw [Int32.lt_iff_toInt_lt]
    simp only [Int32.reduceToInt]
    omega
  rw [Int32.lt_iff_toInt_lt]
  simp only [Int32.reduceToInt]
  omega
theorem own_8_hc42_111 (vs : List Value) (w_place_a1 : Int32) (x23_12 : Int32) (x23_34 : Int32) (x23_57 : Int32) (x23_80 : Int32) (r12_100 : Int32) (r12_9 : Int32) (r12_31 : Int32) (r12_54 : Int32) (r12_77 : Int32) (hx23_12 : x23_12 = (w_place_a1 + (1 : Int32))) (hx23_34 : x23_34 = (x23_12 + (1 : Int32))) (hx23_57 : x23_57 = (x23_34 + (1 : Int32))) (hx23_80 : x23_80 = (x23_57 + (1 : Int32))) (hr12_100 : r12_100 = ((own_at vs x23_80) &&& (255 : Int32))) (hr12_9 : r12_9 = ((own_at vs w_place_a1) &&& (255 : Int32))) (hr12_31 : r12_31 = ((own_at vs x23_12) &&& (255 : Int32))) (hr12_54 : r12_54 = ((own_at vs x23_34) &&& (255 : Int32))) (hr12_77 : r12_77 = ((own_at vs x23_57) &&& (255 : Int32))) (hc42_19 : ¬ (r12_9 < (128 : Int32))) (hc42_42 : ¬ (r12_31 < (128 : Int32))) (hc42_65 : ¬ (r12_54 < (128 : Int32))) (hc42_88 : ¬ (r12_77 < (128 : Int32))) (hmax : ¬ ((own_at vs w_place_a1 &&& (255 : Int32)) < (128 : Int32)) → ¬ ((own_at vs (w_place_a1 + (1 : Int32)) &&& (255 : Int32)) < (128 : Int32)) → ¬ ((own_at vs ((w_place_a1 + (1 : Int32)) + (1 : Int32)) &&& (255 : Int32)) < (128 : Int32)) → ¬ ((own_at vs (((w_place_a1 + (1 : Int32)) + (1 : Int32)) + (1 : Int32)) &&& (255 : Int32)) < (128 : Int32)) → (own_at vs ((((w_place_a1 + (1 : Int32)) + (1 : Int32)) + (1 : Int32)) + (1 : Int32)) &&& (255 : Int32)) < (128 : Int32)) : r12_100 < (128 : Int32) := by
  subst hr12_100
  subst hx23_80
  subst hx23_57
  subst hx23_34
  subst hx23_12
  subst hr12_9
  subst hr12_31
  subst hr12_54
  subst hr12_77
  exact hmax hc42_19 hc42_42 hc42_65 hc42_88
def own_N (vs : List Value) (w_place_a1 : Int32) : Int32 := (if (((own_at vs w_place_a1) &&& (255 : Int32))) < (128 : Int32) then (((0 : Int32) ||| (((((own_at vs w_place_a1) &&& (255 : Int32))) &&& (127 : Int32)) <<< ((0 : Int32) &&& 31)))) else (if (((own_at vs ((w_place_a1 + (1 : Int32)))) &&& (255 : Int32))) < (128 : Int32) then (((((0 : Int32) ||| (((((own_at vs w_place_a1) &&& (255 : Int32))) &&& (127 : Int32)) <<< ((0 : Int32) &&& 31)))) ||| (((((own_at vs ((w_place_a1 + (1 : Int32)))) &&& (255 : Int32))) &&& (127 : Int32)) <<< ((7 : Int32) &&& 31)))) else (if (((own_at vs ((((w_place_a1 + (1 : Int32))) + (1 : Int32)))) &&& (255 : Int32))) < (128 : Int32) then (((((((0 : Int32) ||| (((((own_at vs w_place_a1) &&& (255 : Int32))) &&& (127 : Int32)) <<< ((0 : Int32) &&& 31)))) ||| (((((own_at vs ((w_place_a1 + (1 : Int32)))) &&& (255 : Int32))) &&& (127 : Int32)) <<< ((7 : Int32) &&& 31)))) ||| (((((own_at vs ((((w_place_a1 + (1 : Int32))) + (1 : Int32)))) &&& (255 : Int32))) &&& (127 : Int32)) <<< ((14 : Int32) &&& 31)))) else (if (((own_at vs ((((((w_place_a1 + (1 : Int32))) + (1 : Int32))) + (1 : Int32)))) &&& (255 : Int32))) < (128 : Int32) then (((((((((0 : Int32) ||| (((((own_at vs w_place_a1) &&& (255 : Int32))) &&& (127 : Int32)) <<< ((0 : Int32) &&& 31)))) ||| (((((own_at vs ((w_place_a1 + (1 : Int32)))) &&& (255 : Int32))) &&& (127 : Int32)) <<< ((7 : Int32) &&& 31)))) ||| (((((own_at vs ((((w_place_a1 + (1 : Int32))) + (1 : Int32)))) &&& (255 : Int32))) &&& (127 : Int32)) <<< ((14 : Int32) &&& 31)))) ||| (((((own_at vs ((((((w_place_a1 + (1 : Int32))) + (1 : Int32))) + (1 : Int32)))) &&& (255 : Int32))) &&& (127 : Int32)) <<< ((21 : Int32) &&& 31)))) else (((((((((((0 : Int32) ||| (((((own_at vs w_place_a1) &&& (255 : Int32))) &&& (127 : Int32)) <<< ((0 : Int32) &&& 31)))) ||| (((((own_at vs ((w_place_a1 + (1 : Int32)))) &&& (255 : Int32))) &&& (127 : Int32)) <<< ((7 : Int32) &&& 31)))) ||| (((((own_at vs ((((w_place_a1 + (1 : Int32))) + (1 : Int32)))) &&& (255 : Int32))) &&& (127 : Int32)) <<< ((14 : Int32) &&& 31)))) ||| (((((own_at vs ((((((w_place_a1 + (1 : Int32))) + (1 : Int32))) + (1 : Int32)))) &&& (255 : Int32))) &&& (127 : Int32)) <<< ((21 : Int32) &&& 31)))) ||| (((((own_at vs ((((((((w_place_a1 + (1 : Int32))) + (1 : Int32))) + (1 : Int32))) + (1 : Int32)))) &&& (255 : Int32))) &&& (127 : Int32)) <<< ((28 : Int32) &&& 31))))))))
theorem own_N_eq (vs : List Value) (w_place_a1 : Int32) : own_N vs w_place_a1 = (if (((own_at vs w_place_a1) &&& (255 : Int32))) < (128 : Int32) then (((0 : Int32) ||| (((((own_at vs w_place_a1) &&& (255 : Int32))) &&& (127 : Int32)) <<< ((0 : Int32) &&& 31)))) else (if (((own_at vs ((w_place_a1 + (1 : Int32)))) &&& (255 : Int32))) < (128 : Int32) then (((((0 : Int32) ||| (((((own_at vs w_place_a1) &&& (255 : Int32))) &&& (127 : Int32)) <<< ((0 : Int32) &&& 31)))) ||| (((((own_at vs ((w_place_a1 + (1 : Int32)))) &&& (255 : Int32))) &&& (127 : Int32)) <<< ((7 : Int32) &&& 31)))) else (if (((own_at vs ((((w_place_a1 + (1 : Int32))) + (1 : Int32)))) &&& (255 : Int32))) < (128 : Int32) then (((((((0 : Int32) ||| (((((own_at vs w_place_a1) &&& (255 : Int32))) &&& (127 : Int32)) <<< ((0 : Int32) &&& 31)))) ||| (((((own_at vs ((w_place_a1 + (1 : Int32)))) &&& (255 : Int32))) &&& (127 : Int32)) <<< ((7 : Int32) &&& 31)))) ||| (((((own_at vs ((((w_place_a1 + (1 : Int32))) + (1 : Int32)))) &&& (255 : Int32))) &&& (127 : Int32)) <<< ((14 : Int32) &&& 31)))) else (if (((own_at vs ((((((w_place_a1 + (1 : Int32))) + (1 : Int32))) + (1 : Int32)))) &&& (255 : Int32))) < (128 : Int32) then (((((((((0 : Int32) ||| (((((own_at vs w_place_a1) &&& (255 : Int32))) &&& (127 : Int32)) <<< ((0 : Int32) &&& 31)))) ||| (((((own_at vs ((w_place_a1 + (1 : Int32)))) &&& (255 : Int32))) &&& (127 : Int32)) <<< ((7 : Int32) &&& 31)))) ||| (((((own_at vs ((((w_place_a1 + (1 : Int32))) + (1 : Int32)))) &&& (255 : Int32))) &&& (127 : Int32)) <<< ((14 : Int32) &&& 31)))) ||| (((((own_at vs ((((((w_place_a1 + (1 : Int32))) + (1 : Int32))) + (1 : Int32)))) &&& (255 : Int32))) &&& (127 : Int32)) <<< ((21 : Int32) &&& 31)))) else (((((((((((0 : Int32) ||| (((((own_at vs w_place_a1) &&& (255 : Int32))) &&& (127 : Int32)) <<< ((0 : Int32) &&& 31)))) ||| (((((own_at vs ((w_place_a1 + (1 : Int32)))) &&& (255 : Int32))) &&& (127 : Int32)) <<< ((7 : Int32) &&& 31)))) ||| (((((own_at vs ((((w_place_a1 + (1 : Int32))) + (1 : Int32)))) &&& (255 : Int32))) &&& (127 : Int32)) <<< ((14 : Int32) &&& 31)))) ||| (((((own_at vs ((((((w_place_a1 + (1 : Int32))) + (1 : Int32))) + (1 : Int32)))) &&& (255 : Int32))) &&& (127 : Int32)) <<< ((21 : Int32) &&& 31)))) ||| (((((own_at vs ((((((((w_place_a1 + (1 : Int32))) + (1 : Int32))) + (1 : Int32))) + (1 : Int32)))) &&& (255 : Int32))) &&& (127 : Int32)) <<< ((28 : Int32) &&& 31)))))))) := rfl
def own_P (vs : List Value) (w_place_a1 : Int32) : Int32 := (if (((own_at vs w_place_a1) &&& (255 : Int32))) < (128 : Int32) then ((w_place_a1 + (1 : Int32))) else (if (((own_at vs ((w_place_a1 + (1 : Int32)))) &&& (255 : Int32))) < (128 : Int32) then ((((w_place_a1 + (1 : Int32))) + (1 : Int32))) else (if (((own_at vs ((((w_place_a1 + (1 : Int32))) + (1 : Int32)))) &&& (255 : Int32))) < (128 : Int32) then ((((((w_place_a1 + (1 : Int32))) + (1 : Int32))) + (1 : Int32))) else (if (((own_at vs ((((((w_place_a1 + (1 : Int32))) + (1 : Int32))) + (1 : Int32)))) &&& (255 : Int32))) < (128 : Int32) then ((((((((w_place_a1 + (1 : Int32))) + (1 : Int32))) + (1 : Int32))) + (1 : Int32))) else ((((((((((w_place_a1 + (1 : Int32))) + (1 : Int32))) + (1 : Int32))) + (1 : Int32))) + (1 : Int32)))))))
theorem own_P_eq (vs : List Value) (w_place_a1 : Int32) : own_P vs w_place_a1 = (if (((own_at vs w_place_a1) &&& (255 : Int32))) < (128 : Int32) then ((w_place_a1 + (1 : Int32))) else (if (((own_at vs ((w_place_a1 + (1 : Int32)))) &&& (255 : Int32))) < (128 : Int32) then ((((w_place_a1 + (1 : Int32))) + (1 : Int32))) else (if (((own_at vs ((((w_place_a1 + (1 : Int32))) + (1 : Int32)))) &&& (255 : Int32))) < (128 : Int32) then ((((((w_place_a1 + (1 : Int32))) + (1 : Int32))) + (1 : Int32))) else (if (((own_at vs ((((((w_place_a1 + (1 : Int32))) + (1 : Int32))) + (1 : Int32)))) &&& (255 : Int32))) < (128 : Int32) then ((((((((w_place_a1 + (1 : Int32))) + (1 : Int32))) + (1 : Int32))) + (1 : Int32))) else ((((((((((w_place_a1 + (1 : Int32))) + (1 : Int32))) + (1 : Int32))) + (1 : Int32))) + (1 : Int32))))))) := rfl
def Q8 (Z : State) (a1 : Addr) (kx_w_pieces_w_this_0_a1 : ClassId) (bk : Addr) (kx_bk : ClassId) (vs : List Value) (w_this_0_a1 : Addr) (w_place_a1 : Int32) (w_pieces_w_this_0_a1 : Addr) (h0 : Heap) (n0 : Nat) (v : Option Value) (h : Heap) (L : List Loc) : Prop := v = some (.int (own_N vs w_place_a1)) ∧ Fr n0 L ∧ Keep h0 h [a1] ∧ Exa Z h a1 "com/example/outcomery/outcomery/PackedNumbers$Reader" ∧ Fld Z h a1 "com/example/outcomery/outcomery/PackedNumbers$Reader" "place" "I" (.int (own_P vs w_place_a1)) ∧ Fld Z h a1 "com/example/outcomery/outcomery/PackedNumbers$Reader" "this$0" "Lcom/example/outcomery/outcomery/PackedNumbers;" (.ref w_this_0_a1)
set_option maxRecDepth 65536 in
set_option maxHeartbeats 40000000 in
theorem rm8 (l : Launch) (Z : State) (a0 : Array Value) (hw : ∀ d ∈ tables_1, d.before a0 Z = true) (ws : List Jvm.Cond) (a1 : Addr) (kx_w_pieces_w_this_0_a1 : ClassId) (bk : Addr) (kx_bk : ClassId) (vs : List Value) (w_this_0_a1 : Addr) (w_place_a1 : Int32) (w_pieces_w_this_0_a1 : Addr) (h0 : Heap) (n0 : Nat) (Z0 : n0 ≤ h0.size) (V_w_pieces_w_this_0_a1 : Arv Z h0 w_pieces_w_this_0_a1 kx_w_pieces_w_this_0_a1 (.array .byte) (1 : Int32) [(.ref bk)] .null) (V_bk : Arv Z h0 bk kx_bk .byte (64 : Int32) vs (.int (0 : Int32))) (F_this_0_a1 : Fld Z h0 a1 "com/example/outcomery/outcomery/PackedNumbers$Reader" "this$0" "Lcom/example/outcomery/outcomery/PackedNumbers;" (.ref w_this_0_a1)) (F_place_a1 : Fld Z h0 a1 "com/example/outcomery/outcomery/PackedNumbers$Reader" "place" "I" (.int w_place_a1)) (hw0 : ¬ w_place_a1 < 0) (hw1 : w_place_a1 < 58) (hall : ∀ v ∈ vs, ∃ x, v = .int x) (hmax : ¬ ((own_at vs w_place_a1 &&& (255 : Int32)) < (128 : Int32)) → ¬ ((own_at vs (w_place_a1 + (1 : Int32)) &&& (255 : Int32)) < (128 : Int32)) → ¬ ((own_at vs ((w_place_a1 + (1 : Int32)) + (1 : Int32)) &&& (255 : Int32)) < (128 : Int32)) → ¬ ((own_at vs (((w_place_a1 + (1 : Int32)) + (1 : Int32)) + (1 : Int32)) &&& (255 : Int32)) < (128 : Int32)) → (own_at vs ((((w_place_a1 + (1 : Int32)) + (1 : Int32)) + (1 : Int32)) + (1 : Int32)) &&& (255 : Int32)) < (128 : Int32)) (F_pieces_w_this_0_a1 : Fld Z h0 w_this_0_a1 "com/example/outcomery/outcomery/PackedNumbers" "pieces" "[[B" (.ref w_pieces_w_this_0_a1)) (E_w_this_0_a1 : Exa Z h0 w_this_0_a1 "com/example/outcomery/outcomery/PackedNumbers") (E_a1 : Exa Z h0 a1 "com/example/outcomery/outcomery/PackedNumbers$Reader") (g_a1 : n0 ≤ a1) (ne_a1_w_this_0_a1 : a1 ≠ w_this_0_a1) (ne_a1_w_pieces_w_this_0_a1 : a1 ≠ w_pieces_w_this_0_a1) (ne_a1_bk : a1 ≠ bk) :
    MetFree l (⟨"com/example/outcomery/outcomery/PackedNumbers$Reader", "next", "()I"⟩ : MethodName) (head1 (Jvm.Cond.code (⟨"com/example/outcomery/outcomery/PackedNumbers$Reader", "next", "()I"⟩ : MethodName) prog_24_method_3_code 4 (some .int) :: ws) ({ frames := 1, cells := 0, slots := 0, locals := 13 } : Room)) (fun a U => a = #[(.ref a1)] ∧ Z.Warmed39 U.vm ∧ U.heap = h0) (fun _ _ _ _ _ => True) (fun _ U o U' => ∃ v L, o = .returned v ∧ Q8 Z a1 kx_w_pieces_w_this_0_a1 bk kx_bk vs w_this_0_a1 w_place_a1 w_pieces_w_this_0_a1 h0 n0 v U'.heap L ∧ FrameEnd U o U' L ({ frames := 1, cells := 0, slots := 0, locals := 13 } : Room).cells ({ frames := 1, cells := 0, slots := 0, locals := 13 } : Room).slots) := by
  refine MetFree.of_bodySF (plainFor_of_name pn_8) hisR ?_
  intro p e s m args below meth c s₁ Bd hml0 hP hK
  obtain ⟨rfl, hZ, hh⟩ := hP
  have hx := Bd.exec
  have hby := Bd.bytes
  have hml : c.maxLocals = 4 := hml0
  have hown : s.vm.findClass "com/example/outcomery/outcomery/PackedNumbers$Reader" = some m.cls := findClass_of_methodNamed Bd.named
  have hnm := (name_of_methodNamed Bd.named Bd.method).1
  have X0 : Stand p l e ({ frames := 1, cells := 0, slots := 0, locals := 13 } : Room) s m #[(.ref a1)] below meth c s₁ [] 0 0 := Stand.of_body Bd
  have e0 : s₁.heap = h0 := by rw [← hh, Bd.state]; rfl
  have N0 := Fr.nil n0
  have K0 : Keep h0 h0 [a1] := Keep.refl h0 _
  refine (show Gl p e below (fun o U' => ∃ v L, o = .returned v ∧ Q8 Z a1 kx_w_pieces_w_this_0_a1 bk kx_bk vs w_this_0_a1 w_place_a1 w_pieces_w_this_0_a1 h0 n0 v U'.heap L ∧ FrameEnd s o U' L ({ frames := 1, cells := 0, slots := 0, locals := 13 } : Room).cells ({ frames := 1, cells := 0, slots := 0, locals := 13 } : Room).slots) (s₁.setTop (entryFrame m #[(.ref a1)] 4)) from ?_)
  obtain ⟨L0, hL0⟩ : ∃ z : Array Slot, z = #[.val (.ref a1), .unset, .unset, .unset] := ⟨_, rfl⟩
  refine Gl.st (B := (s₁.setTop (mkF m 0 L0 []))) (fun t k => castTop (efAt hL0 (ef_8 m a1)) k) ?_
  refine Gl.st (B := (s₁.setTop (mkF m 1 L0 [(.int (0 : Int32))]))) (fun t k => XS.iconst X0.here hx rfl (hb hby d8_0) k) ?_
  obtain ⟨L1, hL1⟩ : ∃ z : Array Slot, z = #[.val (.ref a1), .val (.int (0 : Int32)), .unset, .unset] := ⟨_, rfl⟩
  refine Gl.st (B := (s₁.setTop (mkF m 2 L1 []))) (fun t k => XS.istoreN X0.here hx rfl (hb hby d8_1) rfl (l' := L1) (stAt hL0 hL1 rfl rfl) k) ?_
  refine Gl.st (B := (s₁.setTop (mkF m 3 L1 [(.int (0 : Int32))]))) (fun t k => XS.iconst X0.here hx rfl (hb hby d8_2) k) ?_
  obtain ⟨L2, hL2⟩ : ∃ z : Array Slot, z = #[.val (.ref a1), .val (.int (0 : Int32)), .val (.int (0 : Int32)), .unset] := ⟨_, rfl⟩
  refine Gl.st (B := (s₁.setTop (mkF m 4 L2 []))) (fun t k => XS.istoreN X0.here hx rfl (hb hby d8_3) rfl (l' := L2) (stAt hL1 hL2 rfl rfl) k) ?_
  refine Gl.st (B := (s₁.setTop (mkF m 5 L2 [(.ref a1)]))) (fun t k => XS.aloadN X0.here hx rfl (hb hby d8_4) (ldAt hL2 rfl) rfl k) ?_
  obtain ⟨T3, X3, e3, st3⟩ := getF X0 hx hZ hown (host := "") (Or.inl (tw hw 24 rfl)) Via.refl e0 F_this_0_a1 (g := (mkF m 5 L2 [(.ref a1)])) rfl rfl (hb hby d8_5)
  refine Gl.st (B := (T3.setTop (mkF m 8 L2 [(.ref w_this_0_a1)]))) st3 ?_
  refine Gl.st (B := (T3.setTop (mkF m 9 L2 [(.ref a1), (.ref w_this_0_a1)]))) (fun t k => XS.aloadN X3.here hx rfl (hb hby d8_8) (ldAt hL2 rfl) rfl k) ?_
  obtain ⟨T4, X4, e4, st4⟩ := getF X3 hx hZ hown (host := "") (Or.inl (tw hw 32 rfl)) Via.refl e3 F_place_a1 (g := (mkF m 9 L2 [(.ref a1), (.ref w_this_0_a1)])) rfl rfl (hb hby d8_9)
  refine Gl.st (B := (T4.setTop (mkF m 12 L2 [(.int w_place_a1), (.ref w_this_0_a1)]))) st4 ?_
  have hp12_6 : ¬ w_place_a1 < 0 := own_8_hp12_6 w_place_a1  hw0 hw1
  have hp12_7 : w_place_a1 < 64 := own_8_hp12_7 w_place_a1  hw0 hw1
  have hp12_8 : vs.getD w_place_a1.toNatClampNeg (.int (0 : Int32)) = .int (own_at vs w_place_a1) := by
    exact own_isI vs hall _
  obtain ⟨cq5, kq5, q5a, q5b, q5c⟩ := isOf hZ e4 E_w_this_0_a1
  obtain ⟨_, _, ⟨T5, L5q, k5, n5⟩, -, X5, ⟨Lc5, hQ5, l5, y5, z5⟩, st5⟩ := X4.virtualBack hx (y := (⟨"com/example/outcomery/outcomery/PackedNumbers", "byteAt", "(I)I"⟩ : MethodName)) (z := (⟨"com/example/outcomery/outcomery/PackedNumbers", "byteAt", "(I)I"⟩ : MethodName)) hown (mvT hZ (tw hw 54 rfl)) (mvT hZ (tw hw 55 rfl)) (notFace_of_selects (args := #[]) (mvT hZ (tw hw 57 rfl))) (mvT hZ (tw hw 57 rfl)) (mvT hZ (tw hw 56 rfl)) (by decide) (backOf (W := 0) (rm9 l Z a0 hw [] w_this_0_a1 w_place_a1 kx_w_pieces_w_this_0_a1 bk kx_bk vs (own_at vs w_place_a1) w_pieces_w_this_0_a1 h0 n0 Z0 V_w_pieces_w_this_0_a1 V_bk hp12_6 hp12_7 hp12_8 F_pieces_w_this_0_a1) hZ (tw hw 58 rfl) (tw hw 3 rfl) (by decide) (by decide)) q5a q5c (g := (mkF m 12 L2 [(.int w_place_a1), (.ref w_this_0_a1)])) rfl (szAt hml hL2 rfl) (Steps.refl _) (argsL := [(.int w_place_a1)]) (rest := []) (lenOf pd_8_0 rfl) rfl (by show 2 * 0 + _ ≤ _; exact Nat.le_of_eq rfl) (hb hby d8_12) (fun _ _ => ⟨rfl, e4, (by decide : 0 + 0 ≤ _), (by decide : 0 + 0 ≤ _)⟩)
  dsimp only [Pt.U, Pt.locs, Pt.cells, Pt.slots] at X5 l5 y5 z5 st5 hQ5
  subst l5 y5 z5
  obtain ⟨rfl, N5q, eh5⟩ := hQ5
  have N5 := Fr.app N0 N5q
  refine Gl.st (B := (T5.setTop (mkF m 15 L2 [(.int ((own_at vs w_place_a1) &&& (255 : Int32)))]))) (fun t k => st5.trans k) ?_
  obtain ⟨r12_9, hr12_9⟩ : ∃ z : Int32, z = ((own_at vs w_place_a1) &&& (255 : Int32)) := ⟨_, rfl⟩
  refine Gl.cast (B := (T5.setTop (mkF m 15 L2 [(.int r12_9)]))) (by rw [hr12_9]) ?_
  obtain ⟨L10, hL10⟩ : ∃ z : Array Slot, z = #[.val (.ref a1), .val (.int (0 : Int32)), .val (.int (0 : Int32)), .val (.int r12_9)] := ⟨_, rfl⟩
  refine Gl.st (B := (T5.setTop (mkF m 16 L10 []))) (fun t k => XS.istoreN X5.here hx rfl (hb hby d8_15) rfl (l' := L10) (stAt hL2 hL10 rfl rfl) k) ?_
  refine Gl.st (B := (T5.setTop (mkF m 17 L10 [(.ref a1)]))) (fun t k => XS.aloadN X5.here hx rfl (hb hby d8_16) (ldAt hL10 rfl) rfl k) ?_
  refine Gl.st (B := (T5.setTop (mkF m 18 L10 [(.ref a1), (.ref a1)]))) (fun t k => XS.dup X5.here hx rfl (hb hby d8_17) rfl rfl k) ?_
  obtain ⟨T11, X11, e11, st11⟩ := getF X5 hx hZ hown (host := "") (Or.inl (tw hw 32 rfl)) Via.refl eh5 F_place_a1 (g := (mkF m 18 L10 [(.ref a1), (.ref a1)])) rfl rfl (hb hby d8_18)
  refine Gl.st (B := (T11.setTop (mkF m 21 L10 [(.int w_place_a1), (.ref a1)]))) st11 ?_
  refine Gl.st (B := (T11.setTop (mkF m 22 L10 [(.int (1 : Int32)), (.int w_place_a1), (.ref a1)]))) (fun t k => XS.iconst X11.here hx rfl (hb hby d8_21) k) ?_
  refine Gl.st (B := (T11.setTop (mkF m 23 L10 [(.int (w_place_a1 + (1 : Int32))), (.ref a1)]))) (fun t k => XS.iadd X11.here hx rfl (hb hby d8_22) rfl k) ?_
  obtain ⟨x23_12, hx23_12⟩ : ∃ z : Int32, z = (w_place_a1 + (1 : Int32)) := ⟨_, rfl⟩
  refine Gl.cast (B := (T11.setTop (mkF m 23 L10 [(.int x23_12), (.ref a1)]))) (by rw [hx23_12]) ?_
  obtain ⟨T13, h13, X13, e13, W13, st13⟩ := putF X11 hx hZ hown (host := "") (Or.inl (tw hw 32 rfl)) Via.refl e11 F_place_a1 E_a1 (Or.inl (tw hw 33 rfl)) (tw hw 15 rfl) (ty := .int) (by decide) rfl rfl (g := (mkF m 23 L10 [(.int x23_12), (.ref a1)])) rfl rfl (hb hby d8_23)
  have Fw13 := F_place_a1.same W13
  have Zc14 : n0 ≤ h13.size := Nat.le_trans Z0 (Nat.le_of_eq W13.size.symm)
  have K15 : Keep h0 h13 [a1] := K0.wr W13 (Or.inl (List.mem_of_getElem? (i := 0) rfl))
  have N13 := Fr.snoc X13 N5 g_a1
  refine Gl.st (B := (T13.setTop (mkF m 26 L10 []))) st13 ?_
  refine Gl.st (B := (T13.setTop (mkF m 27 L10 [(.int (0 : Int32))]))) (fun t k => XS.iloadN X13.here hx rfl (hb hby d8_26) (ldAt hL10 rfl) k) ?_
  refine Gl.st (B := (T13.setTop (mkF m 28 L10 [(.int r12_9), (.int (0 : Int32))]))) (fun t k => XS.iloadN X13.here hx rfl (hb hby d8_27) (ldAt hL10 rfl) k) ?_
  refine Gl.st (B := (T13.setTop (mkF m 30 L10 [(.int (127 : Int32)), (.int r12_9), (.int (0 : Int32))]))) (fun t k => XS.bipush X13.here hx rfl (hb hby d8_28) k) ?_
  refine Gl.st (B := (T13.setTop (mkF m 31 L10 [(.int (r12_9 &&& (127 : Int32))), (.int (0 : Int32))]))) (fun t k => XS.iand X13.here hx rfl (hb hby d8_30) rfl k) ?_
  refine Gl.st (B := (T13.setTop (mkF m 32 L10 [(.int (0 : Int32)), (.int (r12_9 &&& (127 : Int32))), (.int (0 : Int32))]))) (fun t k => XS.iloadN X13.here hx rfl (hb hby d8_31) (ldAt hL10 rfl) k) ?_
  refine Gl.st (B := (T13.setTop (mkF m 33 L10 [(.int ((r12_9 &&& (127 : Int32)) <<< ((0 : Int32) &&& 31))), (.int (0 : Int32))]))) (fun t k => XS.ishl X13.here hx rfl (hb hby d8_32) rfl k) ?_
  refine Gl.st (B := (T13.setTop (mkF m 34 L10 [(.int ((0 : Int32) ||| ((r12_9 &&& (127 : Int32)) <<< ((0 : Int32) &&& 31))))]))) (fun t k => XS.ior X13.here hx rfl (hb hby d8_33) rfl k) ?_
  obtain ⟨y1_34_16, hy1_34_16⟩ : ∃ z : Int32, z = ((0 : Int32) ||| ((r12_9 &&& (127 : Int32)) <<< ((0 : Int32) &&& 31))) := ⟨_, rfl⟩
  refine Gl.cast (B := (T13.setTop (mkF m 34 L10 [(.int y1_34_16)]))) (by rw [hy1_34_16]) ?_
  obtain ⟨L17, hL17⟩ : ∃ z : Array Slot, z = #[.val (.ref a1), .val (.int y1_34_16), .val (.int (0 : Int32)), .val (.int r12_9)] := ⟨_, rfl⟩
  refine Gl.st (B := (T13.setTop (mkF m 35 L17 []))) (fun t k => XS.istoreN X13.here hx rfl (hb hby d8_34) rfl (l' := L17) (stAt hL10 hL17 rfl rfl) k) ?_
  obtain ⟨L18, hL18⟩ : ∃ z : Array Slot, z = #[.val (.ref a1), .val (.int y1_34_16), .val (.int (7 : Int32)), .val (.int r12_9)] := ⟨_, rfl⟩
  refine Gl.st (B := (T13.setTop (mkF m 38 L18 []))) (fun t k => XS.iinc X13.here hx rfl (hb hby d8_35) (ldAt hL17 rfl) (l' := L18) (stAt' hL17 hL18 rfl rfl) k) ?_
  refine Gl.st (B := (T13.setTop (mkF m 39 L18 [(.int r12_9)]))) (fun t k => XS.iloadN X13.here hx rfl (hb hby d8_38) (ldAt hL18 rfl) k) ?_
  refine Gl.st (B := (T13.setTop (mkF m 42 L18 [(.int (128 : Int32)), (.int r12_9)]))) (fun t k => XS.sipush X13.here hx rfl (hb hby d8_39) k) ?_
  by_cases hc42_19 : r12_9 < (128 : Int32)
  · skip
    refine Gl.st (B := (T13.setTop (mkF m 45 L18 []))) (fun t k => XS.icmpNo X13.here hx rfl (hb hby d8_42) rfl (tlt hc42_19).2.1 k) ?_
    refine Gl.st (B := (T13.setTop (mkF m 46 L18 [(.int y1_34_16)]))) (fun t k => XS.iloadN X13.here hx rfl (hb hby d8_45) (ldAt hL18 rfl) k) ?_
    obtain ⟨fs, hr, hrun, hended, hW, hsame⟩ := X13.leave (v := some (.int y1_34_16)) (fun h => by rw [Bd.returns] at h; cases h)
    refine Gl.fin (retI X13 hx Bd.returns (hb hby d8_46) hr) hrun hended ⟨_, _, rfl, ?_, ⟨_, rfl⟩, hW, hsame.mono (by decide) (by decide)⟩
    show Q8 Z a1 kx_w_pieces_w_this_0_a1 bk kx_bk vs w_this_0_a1 w_place_a1 w_pieces_w_this_0_a1 h0 n0 _ T13.heap _
    rw [e13]
    have c20 := (E_a1.wr W13)
    have c21 := (F_this_0_a1.other W13 (Or.inr (sn2 hw)))
    exact ⟨(by subst hy1_34_16; subst hr12_9; rw [own_N_eq, if_pos hc42_19]), N13, K15, c20, (by subst hx23_12; subst hr12_9; rw [own_P_eq, if_pos hc42_19]; exact Fw13), c21⟩
  · skip
    refine Gl.st (B := (T13.setTop (mkF m 4 L18 []))) (fun t k => XS.icmpYes X13.here hx rfl (pc0 := 42) (pc' := 4) rfl (hb hby d8_42) rfl (flt hc42_19).2.1 (by decide) (by decide) k) ?_
    refine Gl.st (B := (T13.setTop (mkF m 5 L18 [(.ref a1)]))) (fun t k => XS.aloadN X13.here hx rfl (hb hby d8_4) (ldAt hL18 rfl) rfl k) ?_
    have c20 := (F_this_0_a1.other W13 (Or.inr (sn2 hw)))
    obtain ⟨T21, X21, e21, st21⟩ := getF X13 hx hZ hown (host := "") (Or.inl (tw hw 24 rfl)) Via.refl e13 c20 (g := (mkF m 5 L18 [(.ref a1)])) rfl rfl (hb hby d8_5)
    refine Gl.st (B := (T21.setTop (mkF m 8 L18 [(.ref w_this_0_a1)]))) st21 ?_
    refine Gl.st (B := (T21.setTop (mkF m 9 L18 [(.ref a1), (.ref w_this_0_a1)]))) (fun t k => XS.aloadN X21.here hx rfl (hb hby d8_8) (ldAt hL18 rfl) rfl k) ?_
    obtain ⟨T22, X22, e22, st22⟩ := getF X21 hx hZ hown (host := "") (Or.inl (tw hw 32 rfl)) Via.refl e21 Fw13 (g := (mkF m 9 L18 [(.ref a1), (.ref w_this_0_a1)])) rfl rfl (hb hby d8_9)
    refine Gl.st (B := (T22.setTop (mkF m 12 L18 [(.int x23_12), (.ref w_this_0_a1)]))) st22 ?_
    have c24 := (F_pieces_w_this_0_a1.other W13 (Or.inl (Ne.symm ne_a1_w_this_0_a1)))
    have c25 := (V_w_pieces_w_this_0_a1.other W13 (Ne.symm ne_a1_w_pieces_w_this_0_a1))
    have c26 := (V_bk.other W13 (Ne.symm ne_a1_bk))
    have hp12_27 : ¬ x23_12 < 0 := own_8_hp12_27 w_place_a1 x23_12 hx23_12 hw0 hw1
    have hp12_28 : x23_12 < 64 := own_8_hp12_28 w_place_a1 x23_12 hx23_12 hw0 hw1
    have hp12_29 : vs.getD x23_12.toNatClampNeg (.int (0 : Int32)) = .int (own_at vs x23_12) := by
      exact own_isI vs hall _
    have c30 := (E_w_this_0_a1.wr W13)
    obtain ⟨cq23, kq23, q23a, q23b, q23c⟩ := isOf hZ e22 c30
    obtain ⟨_, _, ⟨T23, L23q, k23, n23⟩, -, X23, ⟨Lc23, hQ23, l23, y23, z23⟩, st23⟩ := X22.virtualBack hx (y := (⟨"com/example/outcomery/outcomery/PackedNumbers", "byteAt", "(I)I"⟩ : MethodName)) (z := (⟨"com/example/outcomery/outcomery/PackedNumbers", "byteAt", "(I)I"⟩ : MethodName)) hown (mvT hZ (tw hw 54 rfl)) (mvT hZ (tw hw 55 rfl)) (notFace_of_selects (args := #[]) (mvT hZ (tw hw 57 rfl))) (mvT hZ (tw hw 57 rfl)) (mvT hZ (tw hw 56 rfl)) (by decide) (backOf (W := 0) (rm9 l Z a0 hw [] w_this_0_a1 x23_12 kx_w_pieces_w_this_0_a1 bk kx_bk vs (own_at vs x23_12) w_pieces_w_this_0_a1 h13 n0 Zc14 c25 c26 hp12_27 hp12_28 hp12_29 c24) hZ (tw hw 58 rfl) (tw hw 3 rfl) (by decide) (by decide)) q23a q23c (g := (mkF m 12 L18 [(.int x23_12), (.ref w_this_0_a1)])) rfl (szAt hml hL18 rfl) (Steps.refl _) (argsL := [(.int x23_12)]) (rest := []) (lenOf pd_8_0 rfl) rfl (by show 2 * 0 + _ ≤ _; exact Nat.le_of_eq rfl) (hb hby d8_12) (fun _ _ => ⟨rfl, e22, (by decide : 0 + 0 ≤ _), (by decide : 0 + 0 ≤ _)⟩)
    dsimp only [Pt.U, Pt.locs, Pt.cells, Pt.slots] at X23 l23 y23 z23 st23 hQ23
    subst l23 y23 z23
    obtain ⟨rfl, N23q, eh23⟩ := hQ23
    have N23 := Fr.app N13 N23q
    refine Gl.st (B := (T23.setTop (mkF m 15 L18 [(.int ((own_at vs x23_12) &&& (255 : Int32)))]))) (fun t k => st23.trans k) ?_
    obtain ⟨r12_31, hr12_31⟩ : ∃ z : Int32, z = ((own_at vs x23_12) &&& (255 : Int32)) := ⟨_, rfl⟩
    refine Gl.cast (B := (T23.setTop (mkF m 15 L18 [(.int r12_31)]))) (by rw [hr12_31]) ?_
    obtain ⟨L32, hL32⟩ : ∃ z : Array Slot, z = #[.val (.ref a1), .val (.int y1_34_16), .val (.int (7 : Int32)), .val (.int r12_31)] := ⟨_, rfl⟩
    refine Gl.st (B := (T23.setTop (mkF m 16 L32 []))) (fun t k => XS.istoreN X23.here hx rfl (hb hby d8_15) rfl (l' := L32) (stAt hL18 hL32 rfl rfl) k) ?_
    refine Gl.st (B := (T23.setTop (mkF m 17 L32 [(.ref a1)]))) (fun t k => XS.aloadN X23.here hx rfl (hb hby d8_16) (ldAt hL32 rfl) rfl k) ?_
    refine Gl.st (B := (T23.setTop (mkF m 18 L32 [(.ref a1), (.ref a1)]))) (fun t k => XS.dup X23.here hx rfl (hb hby d8_17) rfl rfl k) ?_
    obtain ⟨T33, X33, e33, st33⟩ := getF X23 hx hZ hown (host := "") (Or.inl (tw hw 32 rfl)) Via.refl eh23 Fw13 (g := (mkF m 18 L32 [(.ref a1), (.ref a1)])) rfl rfl (hb hby d8_18)
    refine Gl.st (B := (T33.setTop (mkF m 21 L32 [(.int x23_12), (.ref a1)]))) st33 ?_
    refine Gl.st (B := (T33.setTop (mkF m 22 L32 [(.int (1 : Int32)), (.int x23_12), (.ref a1)]))) (fun t k => XS.iconst X33.here hx rfl (hb hby d8_21) k) ?_
    refine Gl.st (B := (T33.setTop (mkF m 23 L32 [(.int (x23_12 + (1 : Int32))), (.ref a1)]))) (fun t k => XS.iadd X33.here hx rfl (hb hby d8_22) rfl k) ?_
    obtain ⟨x23_34, hx23_34⟩ : ∃ z : Int32, z = (x23_12 + (1 : Int32)) := ⟨_, rfl⟩
    refine Gl.cast (B := (T33.setTop (mkF m 23 L32 [(.int x23_34), (.ref a1)]))) (by rw [hx23_34]) ?_
    have c35 := (E_a1.wr W13)
    obtain ⟨T36, h36, X36, e36, W36, st36⟩ := putF X33 hx hZ hown (host := "") (Or.inl (tw hw 32 rfl)) Via.refl e33 Fw13 c35 (Or.inl (tw hw 33 rfl)) (tw hw 15 rfl) (ty := .int) (by decide) rfl rfl (g := (mkF m 23 L32 [(.int x23_34), (.ref a1)])) rfl rfl (hb hby d8_23)
    have Fw36 := Fw13.same W36
    have Zc37 : n0 ≤ h36.size := Nat.le_trans Zc14 (Nat.le_of_eq W36.size.symm)
    have K38 : Keep h0 h36 [a1] := K15.wr W36 (Or.inl (List.mem_of_getElem? (i := 0) rfl))
    have N36 := Fr.snoc X36 N23 g_a1
    refine Gl.st (B := (T36.setTop (mkF m 26 L32 []))) st36 ?_
    refine Gl.st (B := (T36.setTop (mkF m 27 L32 [(.int y1_34_16)]))) (fun t k => XS.iloadN X36.here hx rfl (hb hby d8_26) (ldAt hL32 rfl) k) ?_
    refine Gl.st (B := (T36.setTop (mkF m 28 L32 [(.int r12_31), (.int y1_34_16)]))) (fun t k => XS.iloadN X36.here hx rfl (hb hby d8_27) (ldAt hL32 rfl) k) ?_
    refine Gl.st (B := (T36.setTop (mkF m 30 L32 [(.int (127 : Int32)), (.int r12_31), (.int y1_34_16)]))) (fun t k => XS.bipush X36.here hx rfl (hb hby d8_28) k) ?_
    refine Gl.st (B := (T36.setTop (mkF m 31 L32 [(.int (r12_31 &&& (127 : Int32))), (.int y1_34_16)]))) (fun t k => XS.iand X36.here hx rfl (hb hby d8_30) rfl k) ?_
    refine Gl.st (B := (T36.setTop (mkF m 32 L32 [(.int (7 : Int32)), (.int (r12_31 &&& (127 : Int32))), (.int y1_34_16)]))) (fun t k => XS.iloadN X36.here hx rfl (hb hby d8_31) (ldAt hL32 rfl) k) ?_
    refine Gl.st (B := (T36.setTop (mkF m 33 L32 [(.int ((r12_31 &&& (127 : Int32)) <<< ((7 : Int32) &&& 31))), (.int y1_34_16)]))) (fun t k => XS.ishl X36.here hx rfl (hb hby d8_32) rfl k) ?_
    refine Gl.st (B := (T36.setTop (mkF m 34 L32 [(.int (y1_34_16 ||| ((r12_31 &&& (127 : Int32)) <<< ((7 : Int32) &&& 31))))]))) (fun t k => XS.ior X36.here hx rfl (hb hby d8_33) rfl k) ?_
    obtain ⟨y1_34_39, hy1_34_39⟩ : ∃ z : Int32, z = (y1_34_16 ||| ((r12_31 &&& (127 : Int32)) <<< ((7 : Int32) &&& 31))) := ⟨_, rfl⟩
    refine Gl.cast (B := (T36.setTop (mkF m 34 L32 [(.int y1_34_39)]))) (by rw [hy1_34_39]) ?_
    obtain ⟨L40, hL40⟩ : ∃ z : Array Slot, z = #[.val (.ref a1), .val (.int y1_34_39), .val (.int (7 : Int32)), .val (.int r12_31)] := ⟨_, rfl⟩
    refine Gl.st (B := (T36.setTop (mkF m 35 L40 []))) (fun t k => XS.istoreN X36.here hx rfl (hb hby d8_34) rfl (l' := L40) (stAt hL32 hL40 rfl rfl) k) ?_
    obtain ⟨L41, hL41⟩ : ∃ z : Array Slot, z = #[.val (.ref a1), .val (.int y1_34_39), .val (.int (14 : Int32)), .val (.int r12_31)] := ⟨_, rfl⟩
    refine Gl.st (B := (T36.setTop (mkF m 38 L41 []))) (fun t k => XS.iinc X36.here hx rfl (hb hby d8_35) (ldAt hL40 rfl) (l' := L41) (stAt' hL40 hL41 rfl rfl) k) ?_
    refine Gl.st (B := (T36.setTop (mkF m 39 L41 [(.int r12_31)]))) (fun t k => XS.iloadN X36.here hx rfl (hb hby d8_38) (ldAt hL41 rfl) k) ?_
    refine Gl.st (B := (T36.setTop (mkF m 42 L41 [(.int (128 : Int32)), (.int r12_31)]))) (fun t k => XS.sipush X36.here hx rfl (hb hby d8_39) k) ?_
    by_cases hc42_42 : r12_31 < (128 : Int32)
    · skip
      refine Gl.st (B := (T36.setTop (mkF m 45 L41 []))) (fun t k => XS.icmpNo X36.here hx rfl (hb hby d8_42) rfl (tlt hc42_42).2.1 k) ?_
      refine Gl.st (B := (T36.setTop (mkF m 46 L41 [(.int y1_34_39)]))) (fun t k => XS.iloadN X36.here hx rfl (hb hby d8_45) (ldAt hL41 rfl) k) ?_
      obtain ⟨fs, hr, hrun, hended, hW, hsame⟩ := X36.leave (v := some (.int y1_34_39)) (fun h => by rw [Bd.returns] at h; cases h)
      refine Gl.fin (retI X36 hx Bd.returns (hb hby d8_46) hr) hrun hended ⟨_, _, rfl, ?_, ⟨_, rfl⟩, hW, hsame.mono (by decide) (by decide)⟩
      show Q8 Z a1 kx_w_pieces_w_this_0_a1 bk kx_bk vs w_this_0_a1 w_place_a1 w_pieces_w_this_0_a1 h0 n0 _ T36.heap _
      rw [e36]
      have c43 := (c35.wr W36)
      have c44 := (c20.other W36 (Or.inr (sn2 hw)))
      exact ⟨(by subst hy1_34_39; subst hy1_34_16; subst hr12_9; subst hr12_31; subst hx23_12; rw [own_N_eq, if_neg hc42_19, if_pos hc42_42]), N36, K38, c43, (by subst hx23_34; subst hx23_12; subst hr12_9; subst hr12_31; rw [own_P_eq, if_neg hc42_19, if_pos hc42_42]; exact Fw36), c44⟩
    · skip
      refine Gl.st (B := (T36.setTop (mkF m 4 L41 []))) (fun t k => XS.icmpYes X36.here hx rfl (pc0 := 42) (pc' := 4) rfl (hb hby d8_42) rfl (flt hc42_42).2.1 (by decide) (by decide) k) ?_
      refine Gl.st (B := (T36.setTop (mkF m 5 L41 [(.ref a1)]))) (fun t k => XS.aloadN X36.here hx rfl (hb hby d8_4) (ldAt hL41 rfl) rfl k) ?_
      have c43 := (c20.other W36 (Or.inr (sn2 hw)))
      obtain ⟨T44, X44, e44, st44⟩ := getF X36 hx hZ hown (host := "") (Or.inl (tw hw 24 rfl)) Via.refl e36 c43 (g := (mkF m 5 L41 [(.ref a1)])) rfl rfl (hb hby d8_5)
      refine Gl.st (B := (T44.setTop (mkF m 8 L41 [(.ref w_this_0_a1)]))) st44 ?_
      refine Gl.st (B := (T44.setTop (mkF m 9 L41 [(.ref a1), (.ref w_this_0_a1)]))) (fun t k => XS.aloadN X44.here hx rfl (hb hby d8_8) (ldAt hL41 rfl) rfl k) ?_
      obtain ⟨T45, X45, e45, st45⟩ := getF X44 hx hZ hown (host := "") (Or.inl (tw hw 32 rfl)) Via.refl e44 Fw36 (g := (mkF m 9 L41 [(.ref a1), (.ref w_this_0_a1)])) rfl rfl (hb hby d8_9)
      refine Gl.st (B := (T45.setTop (mkF m 12 L41 [(.int x23_34), (.ref w_this_0_a1)]))) st45 ?_
      have c47 := (c24.other W36 (Or.inl (Ne.symm ne_a1_w_this_0_a1)))
      have c48 := (c25.other W36 (Ne.symm ne_a1_w_pieces_w_this_0_a1))
      have c49 := (c26.other W36 (Ne.symm ne_a1_bk))
      have hp12_50 : ¬ x23_34 < 0 := own_8_hp12_50 w_place_a1 x23_12 x23_34 hx23_12 hx23_34 hw0 hw1
      have hp12_51 : x23_34 < 64 := own_8_hp12_51 w_place_a1 x23_12 x23_34 hx23_12 hx23_34 hw0 hw1
      have hp12_52 : vs.getD x23_34.toNatClampNeg (.int (0 : Int32)) = .int (own_at vs x23_34) := by
        exact own_isI vs hall _
      have c53 := (c30.wr W36)
      obtain ⟨cq46, kq46, q46a, q46b, q46c⟩ := isOf hZ e45 c53
      obtain ⟨_, _, ⟨T46, L46q, k46, n46⟩, -, X46, ⟨Lc46, hQ46, l46, y46, z46⟩, st46⟩ := X45.virtualBack hx (y := (⟨"com/example/outcomery/outcomery/PackedNumbers", "byteAt", "(I)I"⟩ : MethodName)) (z := (⟨"com/example/outcomery/outcomery/PackedNumbers", "byteAt", "(I)I"⟩ : MethodName)) hown (mvT hZ (tw hw 54 rfl)) (mvT hZ (tw hw 55 rfl)) (notFace_of_selects (args := #[]) (mvT hZ (tw hw 57 rfl))) (mvT hZ (tw hw 57 rfl)) (mvT hZ (tw hw 56 rfl)) (by decide) (backOf (W := 0) (rm9 l Z a0 hw [] w_this_0_a1 x23_34 kx_w_pieces_w_this_0_a1 bk kx_bk vs (own_at vs x23_34) w_pieces_w_this_0_a1 h36 n0 Zc37 c48 c49 hp12_50 hp12_51 hp12_52 c47) hZ (tw hw 58 rfl) (tw hw 3 rfl) (by decide) (by decide)) q46a q46c (g := (mkF m 12 L41 [(.int x23_34), (.ref w_this_0_a1)])) rfl (szAt hml hL41 rfl) (Steps.refl _) (argsL := [(.int x23_34)]) (rest := []) (lenOf pd_8_0 rfl) rfl (by show 2 * 0 + _ ≤ _; exact Nat.le_of_eq rfl) (hb hby d8_12) (fun _ _ => ⟨rfl, e45, (by decide : 0 + 0 ≤ _), (by decide : 0 + 0 ≤ _)⟩)
      dsimp only [Pt.U, Pt.locs, Pt.cells, Pt.slots] at X46 l46 y46 z46 st46 hQ46
      subst l46 y46 z46
      obtain ⟨rfl, N46q, eh46⟩ := hQ46
      have N46 := Fr.app N36 N46q
      refine Gl.st (B := (T46.setTop (mkF m 15 L41 [(.int ((own_at vs x23_34) &&& (255 : Int32)))]))) (fun t k => st46.trans k) ?_
      obtain ⟨r12_54, hr12_54⟩ : ∃ z : Int32, z = ((own_at vs x23_34) &&& (255 : Int32)) := ⟨_, rfl⟩
      refine Gl.cast (B := (T46.setTop (mkF m 15 L41 [(.int r12_54)]))) (by rw [hr12_54]) ?_
      obtain ⟨L55, hL55⟩ : ∃ z : Array Slot, z = #[.val (.ref a1), .val (.int y1_34_39), .val (.int (14 : Int32)), .val (.int r12_54)] := ⟨_, rfl⟩
      refine Gl.st (B := (T46.setTop (mkF m 16 L55 []))) (fun t k => XS.istoreN X46.here hx rfl (hb hby d8_15) rfl (l' := L55) (stAt hL41 hL55 rfl rfl) k) ?_
      refine Gl.st (B := (T46.setTop (mkF m 17 L55 [(.ref a1)]))) (fun t k => XS.aloadN X46.here hx rfl (hb hby d8_16) (ldAt hL55 rfl) rfl k) ?_
      refine Gl.st (B := (T46.setTop (mkF m 18 L55 [(.ref a1), (.ref a1)]))) (fun t k => XS.dup X46.here hx rfl (hb hby d8_17) rfl rfl k) ?_
      obtain ⟨T56, X56, e56, st56⟩ := getF X46 hx hZ hown (host := "") (Or.inl (tw hw 32 rfl)) Via.refl eh46 Fw36 (g := (mkF m 18 L55 [(.ref a1), (.ref a1)])) rfl rfl (hb hby d8_18)
      refine Gl.st (B := (T56.setTop (mkF m 21 L55 [(.int x23_34), (.ref a1)]))) st56 ?_
      refine Gl.st (B := (T56.setTop (mkF m 22 L55 [(.int (1 : Int32)), (.int x23_34), (.ref a1)]))) (fun t k => XS.iconst X56.here hx rfl (hb hby d8_21) k) ?_
      refine Gl.st (B := (T56.setTop (mkF m 23 L55 [(.int (x23_34 + (1 : Int32))), (.ref a1)]))) (fun t k => XS.iadd X56.here hx rfl (hb hby d8_22) rfl k) ?_
      obtain ⟨x23_57, hx23_57⟩ : ∃ z : Int32, z = (x23_34 + (1 : Int32)) := ⟨_, rfl⟩
      refine Gl.cast (B := (T56.setTop (mkF m 23 L55 [(.int x23_57), (.ref a1)]))) (by rw [hx23_57]) ?_
      have c58 := (c35.wr W36)
      obtain ⟨T59, h59, X59, e59, W59, st59⟩ := putF X56 hx hZ hown (host := "") (Or.inl (tw hw 32 rfl)) Via.refl e56 Fw36 c58 (Or.inl (tw hw 33 rfl)) (tw hw 15 rfl) (ty := .int) (by decide) rfl rfl (g := (mkF m 23 L55 [(.int x23_57), (.ref a1)])) rfl rfl (hb hby d8_23)
      have Fw59 := Fw36.same W59
      have Zc60 : n0 ≤ h59.size := Nat.le_trans Zc37 (Nat.le_of_eq W59.size.symm)
      have K61 : Keep h0 h59 [a1] := K38.wr W59 (Or.inl (List.mem_of_getElem? (i := 0) rfl))
      have N59 := Fr.snoc X59 N46 g_a1
      refine Gl.st (B := (T59.setTop (mkF m 26 L55 []))) st59 ?_
      refine Gl.st (B := (T59.setTop (mkF m 27 L55 [(.int y1_34_39)]))) (fun t k => XS.iloadN X59.here hx rfl (hb hby d8_26) (ldAt hL55 rfl) k) ?_
      refine Gl.st (B := (T59.setTop (mkF m 28 L55 [(.int r12_54), (.int y1_34_39)]))) (fun t k => XS.iloadN X59.here hx rfl (hb hby d8_27) (ldAt hL55 rfl) k) ?_
      refine Gl.st (B := (T59.setTop (mkF m 30 L55 [(.int (127 : Int32)), (.int r12_54), (.int y1_34_39)]))) (fun t k => XS.bipush X59.here hx rfl (hb hby d8_28) k) ?_
      refine Gl.st (B := (T59.setTop (mkF m 31 L55 [(.int (r12_54 &&& (127 : Int32))), (.int y1_34_39)]))) (fun t k => XS.iand X59.here hx rfl (hb hby d8_30) rfl k) ?_
      refine Gl.st (B := (T59.setTop (mkF m 32 L55 [(.int (14 : Int32)), (.int (r12_54 &&& (127 : Int32))), (.int y1_34_39)]))) (fun t k => XS.iloadN X59.here hx rfl (hb hby d8_31) (ldAt hL55 rfl) k) ?_
      refine Gl.st (B := (T59.setTop (mkF m 33 L55 [(.int ((r12_54 &&& (127 : Int32)) <<< ((14 : Int32) &&& 31))), (.int y1_34_39)]))) (fun t k => XS.ishl X59.here hx rfl (hb hby d8_32) rfl k) ?_
      refine Gl.st (B := (T59.setTop (mkF m 34 L55 [(.int (y1_34_39 ||| ((r12_54 &&& (127 : Int32)) <<< ((14 : Int32) &&& 31))))]))) (fun t k => XS.ior X59.here hx rfl (hb hby d8_33) rfl k) ?_
      obtain ⟨y1_34_62, hy1_34_62⟩ : ∃ z : Int32, z = (y1_34_39 ||| ((r12_54 &&& (127 : Int32)) <<< ((14 : Int32) &&& 31))) := ⟨_, rfl⟩
      refine Gl.cast (B := (T59.setTop (mkF m 34 L55 [(.int y1_34_62)]))) (by rw [hy1_34_62]) ?_
      obtain ⟨L63, hL63⟩ : ∃ z : Array Slot, z = #[.val (.ref a1), .val (.int y1_34_62), .val (.int (14 : Int32)), .val (.int r12_54)] := ⟨_, rfl⟩
      refine Gl.st (B := (T59.setTop (mkF m 35 L63 []))) (fun t k => XS.istoreN X59.here hx rfl (hb hby d8_34) rfl (l' := L63) (stAt hL55 hL63 rfl rfl) k) ?_
      obtain ⟨L64, hL64⟩ : ∃ z : Array Slot, z = #[.val (.ref a1), .val (.int y1_34_62), .val (.int (21 : Int32)), .val (.int r12_54)] := ⟨_, rfl⟩
      refine Gl.st (B := (T59.setTop (mkF m 38 L64 []))) (fun t k => XS.iinc X59.here hx rfl (hb hby d8_35) (ldAt hL63 rfl) (l' := L64) (stAt' hL63 hL64 rfl rfl) k) ?_
      refine Gl.st (B := (T59.setTop (mkF m 39 L64 [(.int r12_54)]))) (fun t k => XS.iloadN X59.here hx rfl (hb hby d8_38) (ldAt hL64 rfl) k) ?_
      refine Gl.st (B := (T59.setTop (mkF m 42 L64 [(.int (128 : Int32)), (.int r12_54)]))) (fun t k => XS.sipush X59.here hx rfl (hb hby d8_39) k) ?_
      by_cases hc42_65 : r12_54 < (128 : Int32)
      · skip
        refine Gl.st (B := (T59.setTop (mkF m 45 L64 []))) (fun t k => XS.icmpNo X59.here hx rfl (hb hby d8_42) rfl (tlt hc42_65).2.1 k) ?_
        refine Gl.st (B := (T59.setTop (mkF m 46 L64 [(.int y1_34_62)]))) (fun t k => XS.iloadN X59.here hx rfl (hb hby d8_45) (ldAt hL64 rfl) k) ?_
        obtain ⟨fs, hr, hrun, hended, hW, hsame⟩ := X59.leave (v := some (.int y1_34_62)) (fun h => by rw [Bd.returns] at h; cases h)
        refine Gl.fin (retI X59 hx Bd.returns (hb hby d8_46) hr) hrun hended ⟨_, _, rfl, ?_, ⟨_, rfl⟩, hW, hsame.mono (by decide) (by decide)⟩
        show Q8 Z a1 kx_w_pieces_w_this_0_a1 bk kx_bk vs w_this_0_a1 w_place_a1 w_pieces_w_this_0_a1 h0 n0 _ T59.heap _
        rw [e59]
        have c66 := (c58.wr W59)
        have c67 := (c43.other W59 (Or.inr (sn2 hw)))
        exact ⟨(by subst hy1_34_62; subst hy1_34_39; subst hy1_34_16; subst hr12_9; subst hr12_31; subst hx23_12; subst hr12_54; subst hx23_34; rw [own_N_eq, if_neg hc42_19, if_neg hc42_42, if_pos hc42_65]), N59, K61, c66, (by subst hx23_57; subst hx23_34; subst hx23_12; subst hr12_9; subst hr12_31; subst hr12_54; rw [own_P_eq, if_neg hc42_19, if_neg hc42_42, if_pos hc42_65]; exact Fw59), c67⟩
      · skip
        refine Gl.st (B := (T59.setTop (mkF m 4 L64 []))) (fun t k => XS.icmpYes X59.here hx rfl (pc0 := 42) (pc' := 4) rfl (hb hby d8_42) rfl (flt hc42_65).2.1 (by decide) (by decide) k) ?_
        refine Gl.st (B := (T59.setTop (mkF m 5 L64 [(.ref a1)]))) (fun t k => XS.aloadN X59.here hx rfl (hb hby d8_4) (ldAt hL64 rfl) rfl k) ?_
        have c66 := (c43.other W59 (Or.inr (sn2 hw)))
        obtain ⟨T67, X67, e67, st67⟩ := getF X59 hx hZ hown (host := "") (Or.inl (tw hw 24 rfl)) Via.refl e59 c66 (g := (mkF m 5 L64 [(.ref a1)])) rfl rfl (hb hby d8_5)
        refine Gl.st (B := (T67.setTop (mkF m 8 L64 [(.ref w_this_0_a1)]))) st67 ?_
        refine Gl.st (B := (T67.setTop (mkF m 9 L64 [(.ref a1), (.ref w_this_0_a1)]))) (fun t k => XS.aloadN X67.here hx rfl (hb hby d8_8) (ldAt hL64 rfl) rfl k) ?_
        obtain ⟨T68, X68, e68, st68⟩ := getF X67 hx hZ hown (host := "") (Or.inl (tw hw 32 rfl)) Via.refl e67 Fw59 (g := (mkF m 9 L64 [(.ref a1), (.ref w_this_0_a1)])) rfl rfl (hb hby d8_9)
        refine Gl.st (B := (T68.setTop (mkF m 12 L64 [(.int x23_57), (.ref w_this_0_a1)]))) st68 ?_
        have c70 := (c47.other W59 (Or.inl (Ne.symm ne_a1_w_this_0_a1)))
        have c71 := (c48.other W59 (Ne.symm ne_a1_w_pieces_w_this_0_a1))
        have c72 := (c49.other W59 (Ne.symm ne_a1_bk))
        have hp12_73 : ¬ x23_57 < 0 := own_8_hp12_73 w_place_a1 x23_12 x23_34 x23_57 hx23_12 hx23_34 hx23_57 hw0 hw1
        have hp12_74 : x23_57 < 64 := own_8_hp12_74 w_place_a1 x23_12 x23_34 x23_57 hx23_12 hx23_34 hx23_57 hw0 hw1
        have hp12_75 : vs.getD x23_57.toNatClampNeg (.int (0 : Int32)) = .int (own_at vs x23_57) := by
          exact own_isI vs hall _
        have c76 := (c53.wr W59)
        obtain ⟨cq69, kq69, q69a, q69b, q69c⟩ := isOf hZ e68 c76
        obtain ⟨_, _, ⟨T69, L69q, k69, n69⟩, -, X69, ⟨Lc69, hQ69, l69, y69, z69⟩, st69⟩ := X68.virtualBack hx (y := (⟨"com/example/outcomery/outcomery/PackedNumbers", "byteAt", "(I)I"⟩ : MethodName)) (z := (⟨"com/example/outcomery/outcomery/PackedNumbers", "byteAt", "(I)I"⟩ : MethodName)) hown (mvT hZ (tw hw 54 rfl)) (mvT hZ (tw hw 55 rfl)) (notFace_of_selects (args := #[]) (mvT hZ (tw hw 57 rfl))) (mvT hZ (tw hw 57 rfl)) (mvT hZ (tw hw 56 rfl)) (by decide) (backOf (W := 0) (rm9 l Z a0 hw [] w_this_0_a1 x23_57 kx_w_pieces_w_this_0_a1 bk kx_bk vs (own_at vs x23_57) w_pieces_w_this_0_a1 h59 n0 Zc60 c71 c72 hp12_73 hp12_74 hp12_75 c70) hZ (tw hw 58 rfl) (tw hw 3 rfl) (by decide) (by decide)) q69a q69c (g := (mkF m 12 L64 [(.int x23_57), (.ref w_this_0_a1)])) rfl (szAt hml hL64 rfl) (Steps.refl _) (argsL := [(.int x23_57)]) (rest := []) (lenOf pd_8_0 rfl) rfl (by show 2 * 0 + _ ≤ _; exact Nat.le_of_eq rfl) (hb hby d8_12) (fun _ _ => ⟨rfl, e68, (by decide : 0 + 0 ≤ _), (by decide : 0 + 0 ≤ _)⟩)
        dsimp only [Pt.U, Pt.locs, Pt.cells, Pt.slots] at X69 l69 y69 z69 st69 hQ69
        subst l69 y69 z69
        obtain ⟨rfl, N69q, eh69⟩ := hQ69
        have N69 := Fr.app N59 N69q
        refine Gl.st (B := (T69.setTop (mkF m 15 L64 [(.int ((own_at vs x23_57) &&& (255 : Int32)))]))) (fun t k => st69.trans k) ?_
        obtain ⟨r12_77, hr12_77⟩ : ∃ z : Int32, z = ((own_at vs x23_57) &&& (255 : Int32)) := ⟨_, rfl⟩
        refine Gl.cast (B := (T69.setTop (mkF m 15 L64 [(.int r12_77)]))) (by rw [hr12_77]) ?_
        obtain ⟨L78, hL78⟩ : ∃ z : Array Slot, z = #[.val (.ref a1), .val (.int y1_34_62), .val (.int (21 : Int32)), .val (.int r12_77)] := ⟨_, rfl⟩
        refine Gl.st (B := (T69.setTop (mkF m 16 L78 []))) (fun t k => XS.istoreN X69.here hx rfl (hb hby d8_15) rfl (l' := L78) (stAt hL64 hL78 rfl rfl) k) ?_
        refine Gl.st (B := (T69.setTop (mkF m 17 L78 [(.ref a1)]))) (fun t k => XS.aloadN X69.here hx rfl (hb hby d8_16) (ldAt hL78 rfl) rfl k) ?_
        refine Gl.st (B := (T69.setTop (mkF m 18 L78 [(.ref a1), (.ref a1)]))) (fun t k => XS.dup X69.here hx rfl (hb hby d8_17) rfl rfl k) ?_
        obtain ⟨T79, X79, e79, st79⟩ := getF X69 hx hZ hown (host := "") (Or.inl (tw hw 32 rfl)) Via.refl eh69 Fw59 (g := (mkF m 18 L78 [(.ref a1), (.ref a1)])) rfl rfl (hb hby d8_18)
        refine Gl.st (B := (T79.setTop (mkF m 21 L78 [(.int x23_57), (.ref a1)]))) st79 ?_
        refine Gl.st (B := (T79.setTop (mkF m 22 L78 [(.int (1 : Int32)), (.int x23_57), (.ref a1)]))) (fun t k => XS.iconst X79.here hx rfl (hb hby d8_21) k) ?_
        refine Gl.st (B := (T79.setTop (mkF m 23 L78 [(.int (x23_57 + (1 : Int32))), (.ref a1)]))) (fun t k => XS.iadd X79.here hx rfl (hb hby d8_22) rfl k) ?_
        obtain ⟨x23_80, hx23_80⟩ : ∃ z : Int32, z = (x23_57 + (1 : Int32)) := ⟨_, rfl⟩
        refine Gl.cast (B := (T79.setTop (mkF m 23 L78 [(.int x23_80), (.ref a1)]))) (by rw [hx23_80]) ?_
        have c81 := (c58.wr W59)
        obtain ⟨T82, h82, X82, e82, W82, st82⟩ := putF X79 hx hZ hown (host := "") (Or.inl (tw hw 32 rfl)) Via.refl e79 Fw59 c81 (Or.inl (tw hw 33 rfl)) (tw hw 15 rfl) (ty := .int) (by decide) rfl rfl (g := (mkF m 23 L78 [(.int x23_80), (.ref a1)])) rfl rfl (hb hby d8_23)
        have Fw82 := Fw59.same W82
        have Zc83 : n0 ≤ h82.size := Nat.le_trans Zc60 (Nat.le_of_eq W82.size.symm)
        have K84 : Keep h0 h82 [a1] := K61.wr W82 (Or.inl (List.mem_of_getElem? (i := 0) rfl))
        have N82 := Fr.snoc X82 N69 g_a1
        refine Gl.st (B := (T82.setTop (mkF m 26 L78 []))) st82 ?_
        refine Gl.st (B := (T82.setTop (mkF m 27 L78 [(.int y1_34_62)]))) (fun t k => XS.iloadN X82.here hx rfl (hb hby d8_26) (ldAt hL78 rfl) k) ?_
        refine Gl.st (B := (T82.setTop (mkF m 28 L78 [(.int r12_77), (.int y1_34_62)]))) (fun t k => XS.iloadN X82.here hx rfl (hb hby d8_27) (ldAt hL78 rfl) k) ?_
        refine Gl.st (B := (T82.setTop (mkF m 30 L78 [(.int (127 : Int32)), (.int r12_77), (.int y1_34_62)]))) (fun t k => XS.bipush X82.here hx rfl (hb hby d8_28) k) ?_
        refine Gl.st (B := (T82.setTop (mkF m 31 L78 [(.int (r12_77 &&& (127 : Int32))), (.int y1_34_62)]))) (fun t k => XS.iand X82.here hx rfl (hb hby d8_30) rfl k) ?_
        refine Gl.st (B := (T82.setTop (mkF m 32 L78 [(.int (21 : Int32)), (.int (r12_77 &&& (127 : Int32))), (.int y1_34_62)]))) (fun t k => XS.iloadN X82.here hx rfl (hb hby d8_31) (ldAt hL78 rfl) k) ?_
        refine Gl.st (B := (T82.setTop (mkF m 33 L78 [(.int ((r12_77 &&& (127 : Int32)) <<< ((21 : Int32) &&& 31))), (.int y1_34_62)]))) (fun t k => XS.ishl X82.here hx rfl (hb hby d8_32) rfl k) ?_
        refine Gl.st (B := (T82.setTop (mkF m 34 L78 [(.int (y1_34_62 ||| ((r12_77 &&& (127 : Int32)) <<< ((21 : Int32) &&& 31))))]))) (fun t k => XS.ior X82.here hx rfl (hb hby d8_33) rfl k) ?_
        obtain ⟨y1_34_85, hy1_34_85⟩ : ∃ z : Int32, z = (y1_34_62 ||| ((r12_77 &&& (127 : Int32)) <<< ((21 : Int32) &&& 31))) := ⟨_, rfl⟩
        refine Gl.cast (B := (T82.setTop (mkF m 34 L78 [(.int y1_34_85)]))) (by rw [hy1_34_85]) ?_
        obtain ⟨L86, hL86⟩ : ∃ z : Array Slot, z = #[.val (.ref a1), .val (.int y1_34_85), .val (.int (21 : Int32)), .val (.int r12_77)] := ⟨_, rfl⟩
        refine Gl.st (B := (T82.setTop (mkF m 35 L86 []))) (fun t k => XS.istoreN X82.here hx rfl (hb hby d8_34) rfl (l' := L86) (stAt hL78 hL86 rfl rfl) k) ?_
        obtain ⟨L87, hL87⟩ : ∃ z : Array Slot, z = #[.val (.ref a1), .val (.int y1_34_85), .val (.int (28 : Int32)), .val (.int r12_77)] := ⟨_, rfl⟩
        refine Gl.st (B := (T82.setTop (mkF m 38 L87 []))) (fun t k => XS.iinc X82.here hx rfl (hb hby d8_35) (ldAt hL86 rfl) (l' := L87) (stAt' hL86 hL87 rfl rfl) k) ?_
        refine Gl.st (B := (T82.setTop (mkF m 39 L87 [(.int r12_77)]))) (fun t k => XS.iloadN X82.here hx rfl (hb hby d8_38) (ldAt hL87 rfl) k) ?_
        refine Gl.st (B := (T82.setTop (mkF m 42 L87 [(.int (128 : Int32)), (.int r12_77)]))) (fun t k => XS.sipush X82.here hx rfl (hb hby d8_39) k) ?_
        by_cases hc42_88 : r12_77 < (128 : Int32)
        · skip
          refine Gl.st (B := (T82.setTop (mkF m 45 L87 []))) (fun t k => XS.icmpNo X82.here hx rfl (hb hby d8_42) rfl (tlt hc42_88).2.1 k) ?_
          refine Gl.st (B := (T82.setTop (mkF m 46 L87 [(.int y1_34_85)]))) (fun t k => XS.iloadN X82.here hx rfl (hb hby d8_45) (ldAt hL87 rfl) k) ?_
          obtain ⟨fs, hr, hrun, hended, hW, hsame⟩ := X82.leave (v := some (.int y1_34_85)) (fun h => by rw [Bd.returns] at h; cases h)
          refine Gl.fin (retI X82 hx Bd.returns (hb hby d8_46) hr) hrun hended ⟨_, _, rfl, ?_, ⟨_, rfl⟩, hW, hsame.mono (by decide) (by decide)⟩
          show Q8 Z a1 kx_w_pieces_w_this_0_a1 bk kx_bk vs w_this_0_a1 w_place_a1 w_pieces_w_this_0_a1 h0 n0 _ T82.heap _
          rw [e82]
          have c89 := (c81.wr W82)
          have c90 := (c66.other W82 (Or.inr (sn2 hw)))
          exact ⟨(by subst hy1_34_85; subst hy1_34_62; subst hy1_34_39; subst hy1_34_16; subst hr12_9; subst hr12_31; subst hx23_12; subst hr12_54; subst hx23_34; subst hr12_77; subst hx23_57; rw [own_N_eq, if_neg hc42_19, if_neg hc42_42, if_neg hc42_65, if_pos hc42_88]), N82, K84, c89, (by subst hx23_80; subst hx23_57; subst hx23_34; subst hx23_12; subst hr12_9; subst hr12_31; subst hr12_54; subst hr12_77; rw [own_P_eq, if_neg hc42_19, if_neg hc42_42, if_neg hc42_65, if_pos hc42_88]; exact Fw82), c90⟩
        · skip
          refine Gl.st (B := (T82.setTop (mkF m 4 L87 []))) (fun t k => XS.icmpYes X82.here hx rfl (pc0 := 42) (pc' := 4) rfl (hb hby d8_42) rfl (flt hc42_88).2.1 (by decide) (by decide) k) ?_
          refine Gl.st (B := (T82.setTop (mkF m 5 L87 [(.ref a1)]))) (fun t k => XS.aloadN X82.here hx rfl (hb hby d8_4) (ldAt hL87 rfl) rfl k) ?_
          have c89 := (c66.other W82 (Or.inr (sn2 hw)))
          obtain ⟨T90, X90, e90, st90⟩ := getF X82 hx hZ hown (host := "") (Or.inl (tw hw 24 rfl)) Via.refl e82 c89 (g := (mkF m 5 L87 [(.ref a1)])) rfl rfl (hb hby d8_5)
          refine Gl.st (B := (T90.setTop (mkF m 8 L87 [(.ref w_this_0_a1)]))) st90 ?_
          refine Gl.st (B := (T90.setTop (mkF m 9 L87 [(.ref a1), (.ref w_this_0_a1)]))) (fun t k => XS.aloadN X90.here hx rfl (hb hby d8_8) (ldAt hL87 rfl) rfl k) ?_
          obtain ⟨T91, X91, e91, st91⟩ := getF X90 hx hZ hown (host := "") (Or.inl (tw hw 32 rfl)) Via.refl e90 Fw82 (g := (mkF m 9 L87 [(.ref a1), (.ref w_this_0_a1)])) rfl rfl (hb hby d8_9)
          refine Gl.st (B := (T91.setTop (mkF m 12 L87 [(.int x23_80), (.ref w_this_0_a1)]))) st91 ?_
          have c93 := (c70.other W82 (Or.inl (Ne.symm ne_a1_w_this_0_a1)))
          have c94 := (c71.other W82 (Ne.symm ne_a1_w_pieces_w_this_0_a1))
          have c95 := (c72.other W82 (Ne.symm ne_a1_bk))
          have hp12_96 : ¬ x23_80 < 0 := own_8_hp12_96 w_place_a1 x23_12 x23_34 x23_57 x23_80 hx23_12 hx23_34 hx23_57 hx23_80 hw0 hw1
          have hp12_97 : x23_80 < 64 := own_8_hp12_97 w_place_a1 x23_12 x23_34 x23_57 x23_80 hx23_12 hx23_34 hx23_57 hx23_80 hw0 hw1
          have hp12_98 : vs.getD x23_80.toNatClampNeg (.int (0 : Int32)) = .int (own_at vs x23_80) := by
            exact own_isI vs hall _
          have c99 := (c76.wr W82)
          obtain ⟨cq92, kq92, q92a, q92b, q92c⟩ := isOf hZ e91 c99
          obtain ⟨_, _, ⟨T92, L92q, k92, n92⟩, -, X92, ⟨Lc92, hQ92, l92, y92, z92⟩, st92⟩ := X91.virtualBack hx (y := (⟨"com/example/outcomery/outcomery/PackedNumbers", "byteAt", "(I)I"⟩ : MethodName)) (z := (⟨"com/example/outcomery/outcomery/PackedNumbers", "byteAt", "(I)I"⟩ : MethodName)) hown (mvT hZ (tw hw 54 rfl)) (mvT hZ (tw hw 55 rfl)) (notFace_of_selects (args := #[]) (mvT hZ (tw hw 57 rfl))) (mvT hZ (tw hw 57 rfl)) (mvT hZ (tw hw 56 rfl)) (by decide) (backOf (W := 0) (rm9 l Z a0 hw [] w_this_0_a1 x23_80 kx_w_pieces_w_this_0_a1 bk kx_bk vs (own_at vs x23_80) w_pieces_w_this_0_a1 h82 n0 Zc83 c94 c95 hp12_96 hp12_97 hp12_98 c93) hZ (tw hw 58 rfl) (tw hw 3 rfl) (by decide) (by decide)) q92a q92c (g := (mkF m 12 L87 [(.int x23_80), (.ref w_this_0_a1)])) rfl (szAt hml hL87 rfl) (Steps.refl _) (argsL := [(.int x23_80)]) (rest := []) (lenOf pd_8_0 rfl) rfl (by show 2 * 0 + _ ≤ _; exact Nat.le_of_eq rfl) (hb hby d8_12) (fun _ _ => ⟨rfl, e91, (by decide : 0 + 0 ≤ _), (by decide : 0 + 0 ≤ _)⟩)
          dsimp only [Pt.U, Pt.locs, Pt.cells, Pt.slots] at X92 l92 y92 z92 st92 hQ92
          subst l92 y92 z92
          obtain ⟨rfl, N92q, eh92⟩ := hQ92
          have N92 := Fr.app N82 N92q
          refine Gl.st (B := (T92.setTop (mkF m 15 L87 [(.int ((own_at vs x23_80) &&& (255 : Int32)))]))) (fun t k => st92.trans k) ?_
          obtain ⟨r12_100, hr12_100⟩ : ∃ z : Int32, z = ((own_at vs x23_80) &&& (255 : Int32)) := ⟨_, rfl⟩
          refine Gl.cast (B := (T92.setTop (mkF m 15 L87 [(.int r12_100)]))) (by rw [hr12_100]) ?_
          obtain ⟨L101, hL101⟩ : ∃ z : Array Slot, z = #[.val (.ref a1), .val (.int y1_34_85), .val (.int (28 : Int32)), .val (.int r12_100)] := ⟨_, rfl⟩
          refine Gl.st (B := (T92.setTop (mkF m 16 L101 []))) (fun t k => XS.istoreN X92.here hx rfl (hb hby d8_15) rfl (l' := L101) (stAt hL87 hL101 rfl rfl) k) ?_
          refine Gl.st (B := (T92.setTop (mkF m 17 L101 [(.ref a1)]))) (fun t k => XS.aloadN X92.here hx rfl (hb hby d8_16) (ldAt hL101 rfl) rfl k) ?_
          refine Gl.st (B := (T92.setTop (mkF m 18 L101 [(.ref a1), (.ref a1)]))) (fun t k => XS.dup X92.here hx rfl (hb hby d8_17) rfl rfl k) ?_
          obtain ⟨T102, X102, e102, st102⟩ := getF X92 hx hZ hown (host := "") (Or.inl (tw hw 32 rfl)) Via.refl eh92 Fw82 (g := (mkF m 18 L101 [(.ref a1), (.ref a1)])) rfl rfl (hb hby d8_18)
          refine Gl.st (B := (T102.setTop (mkF m 21 L101 [(.int x23_80), (.ref a1)]))) st102 ?_
          refine Gl.st (B := (T102.setTop (mkF m 22 L101 [(.int (1 : Int32)), (.int x23_80), (.ref a1)]))) (fun t k => XS.iconst X102.here hx rfl (hb hby d8_21) k) ?_
          refine Gl.st (B := (T102.setTop (mkF m 23 L101 [(.int (x23_80 + (1 : Int32))), (.ref a1)]))) (fun t k => XS.iadd X102.here hx rfl (hb hby d8_22) rfl k) ?_
          obtain ⟨x23_103, hx23_103⟩ : ∃ z : Int32, z = (x23_80 + (1 : Int32)) := ⟨_, rfl⟩
          refine Gl.cast (B := (T102.setTop (mkF m 23 L101 [(.int x23_103), (.ref a1)]))) (by rw [hx23_103]) ?_
          have c104 := (c81.wr W82)
          obtain ⟨T105, h105, X105, e105, W105, st105⟩ := putF X102 hx hZ hown (host := "") (Or.inl (tw hw 32 rfl)) Via.refl e102 Fw82 c104 (Or.inl (tw hw 33 rfl)) (tw hw 15 rfl) (ty := .int) (by decide) rfl rfl (g := (mkF m 23 L101 [(.int x23_103), (.ref a1)])) rfl rfl (hb hby d8_23)
          have Fw105 := Fw82.same W105
          have Zc106 : n0 ≤ h105.size := Nat.le_trans Zc83 (Nat.le_of_eq W105.size.symm)
          have K107 : Keep h0 h105 [a1] := K84.wr W105 (Or.inl (List.mem_of_getElem? (i := 0) rfl))
          have N105 := Fr.snoc X105 N92 g_a1
          refine Gl.st (B := (T105.setTop (mkF m 26 L101 []))) st105 ?_
          refine Gl.st (B := (T105.setTop (mkF m 27 L101 [(.int y1_34_85)]))) (fun t k => XS.iloadN X105.here hx rfl (hb hby d8_26) (ldAt hL101 rfl) k) ?_
          refine Gl.st (B := (T105.setTop (mkF m 28 L101 [(.int r12_100), (.int y1_34_85)]))) (fun t k => XS.iloadN X105.here hx rfl (hb hby d8_27) (ldAt hL101 rfl) k) ?_
          refine Gl.st (B := (T105.setTop (mkF m 30 L101 [(.int (127 : Int32)), (.int r12_100), (.int y1_34_85)]))) (fun t k => XS.bipush X105.here hx rfl (hb hby d8_28) k) ?_
          refine Gl.st (B := (T105.setTop (mkF m 31 L101 [(.int (r12_100 &&& (127 : Int32))), (.int y1_34_85)]))) (fun t k => XS.iand X105.here hx rfl (hb hby d8_30) rfl k) ?_
          refine Gl.st (B := (T105.setTop (mkF m 32 L101 [(.int (28 : Int32)), (.int (r12_100 &&& (127 : Int32))), (.int y1_34_85)]))) (fun t k => XS.iloadN X105.here hx rfl (hb hby d8_31) (ldAt hL101 rfl) k) ?_
          refine Gl.st (B := (T105.setTop (mkF m 33 L101 [(.int ((r12_100 &&& (127 : Int32)) <<< ((28 : Int32) &&& 31))), (.int y1_34_85)]))) (fun t k => XS.ishl X105.here hx rfl (hb hby d8_32) rfl k) ?_
          refine Gl.st (B := (T105.setTop (mkF m 34 L101 [(.int (y1_34_85 ||| ((r12_100 &&& (127 : Int32)) <<< ((28 : Int32) &&& 31))))]))) (fun t k => XS.ior X105.here hx rfl (hb hby d8_33) rfl k) ?_
          obtain ⟨y1_34_108, hy1_34_108⟩ : ∃ z : Int32, z = (y1_34_85 ||| ((r12_100 &&& (127 : Int32)) <<< ((28 : Int32) &&& 31))) := ⟨_, rfl⟩
          refine Gl.cast (B := (T105.setTop (mkF m 34 L101 [(.int y1_34_108)]))) (by rw [hy1_34_108]) ?_
          obtain ⟨L109, hL109⟩ : ∃ z : Array Slot, z = #[.val (.ref a1), .val (.int y1_34_108), .val (.int (28 : Int32)), .val (.int r12_100)] := ⟨_, rfl⟩
          refine Gl.st (B := (T105.setTop (mkF m 35 L109 []))) (fun t k => XS.istoreN X105.here hx rfl (hb hby d8_34) rfl (l' := L109) (stAt hL101 hL109 rfl rfl) k) ?_
          obtain ⟨L110, hL110⟩ : ∃ z : Array Slot, z = #[.val (.ref a1), .val (.int y1_34_108), .val (.int (35 : Int32)), .val (.int r12_100)] := ⟨_, rfl⟩
          refine Gl.st (B := (T105.setTop (mkF m 38 L110 []))) (fun t k => XS.iinc X105.here hx rfl (hb hby d8_35) (ldAt hL109 rfl) (l' := L110) (stAt' hL109 hL110 rfl rfl) k) ?_
          refine Gl.st (B := (T105.setTop (mkF m 39 L110 [(.int r12_100)]))) (fun t k => XS.iloadN X105.here hx rfl (hb hby d8_38) (ldAt hL110 rfl) k) ?_
          refine Gl.st (B := (T105.setTop (mkF m 42 L110 [(.int (128 : Int32)), (.int r12_100)]))) (fun t k => XS.sipush X105.here hx rfl (hb hby d8_39) k) ?_
          have hc42_111 : r12_100 < (128 : Int32) := own_8_hc42_111 vs w_place_a1 x23_12 x23_34 x23_57 x23_80 r12_100 r12_9 r12_31 r12_54 r12_77 hx23_12 hx23_34 hx23_57 hx23_80 hr12_100 hr12_9 hr12_31 hr12_54 hr12_77 hc42_19 hc42_42 hc42_65 hc42_88 hmax
          refine Gl.st (B := (T105.setTop (mkF m 45 L110 []))) (fun t k => XS.icmpNo X105.here hx rfl (hb hby d8_42) rfl (tlt hc42_111).2.1 k) ?_
          refine Gl.st (B := (T105.setTop (mkF m 46 L110 [(.int y1_34_108)]))) (fun t k => XS.iloadN X105.here hx rfl (hb hby d8_45) (ldAt hL110 rfl) k) ?_
          obtain ⟨fs, hr, hrun, hended, hW, hsame⟩ := X105.leave (v := some (.int y1_34_108)) (fun h => by rw [Bd.returns] at h; cases h)
          refine Gl.fin (retI X105 hx Bd.returns (hb hby d8_46) hr) hrun hended ⟨_, _, rfl, ?_, ⟨_, rfl⟩, hW, hsame.mono (by decide) (by decide)⟩
          show Q8 Z a1 kx_w_pieces_w_this_0_a1 bk kx_bk vs w_this_0_a1 w_place_a1 w_pieces_w_this_0_a1 h0 n0 _ T105.heap _
          rw [e105]
          have c112 := (c104.wr W105)
          have c113 := (c89.other W105 (Or.inr (sn2 hw)))
          exact ⟨(by subst hy1_34_108; subst hy1_34_85; subst hy1_34_62; subst hy1_34_39; subst hy1_34_16; subst hr12_9; subst hr12_31; subst hx23_12; subst hr12_54; subst hx23_34; subst hr12_77; subst hx23_57; subst hr12_100; subst hx23_80; rw [own_N_eq, if_neg hc42_19, if_neg hc42_42, if_neg hc42_65, if_neg hc42_88]), N105, K107, c112, (by subst hx23_103; subst hx23_80; subst hx23_57; subst hx23_34; subst hx23_12; subst hr12_9; subst hr12_31; subst hr12_54; subst hr12_77; rw [own_P_eq, if_neg hc42_19, if_neg hc42_42, if_neg hc42_65, if_neg hc42_88]; exact Fw105), c113⟩
theorem own_h128 (y : Int32) : ¬ (((y &&& (127 : Int32)) ||| (128 : Int32)) < (128 : Int32)) := by
  have m : (y &&& (127 : Int32)).toInt = y.toInt % 128 := c_mask y (127 : Int32) 7 (by decide) (by decide)
  have a := c_or' (y &&& (127 : Int32)) (128 : Int32) 7 (by decide) 128 rfl (by decide) (by omega) (by omega)
  have z := rng32 ((y &&& (127 : Int32)) ||| (128 : Int32))
  rw [Int32.lt_iff_toInt_lt]
  simp only [Int32.reduceToInt] at *
  omega
theorem own_x127 (y : Int32) : ((y &&& (127 : Int32)) ||| (128 : Int32)) &&& (127 : Int32) = y &&& (127 : Int32) := by
  have m : (y &&& (127 : Int32)).toInt = y.toInt % 128 := c_mask y (127 : Int32) 7 (by decide) (by decide)
  have a := c_or' (y &&& (127 : Int32)) (128 : Int32) 7 (by decide) 128 rfl (by decide) (by omega) (by omega)
  have m2 : (((y &&& (127 : Int32)) ||| (128 : Int32)) &&& (127 : Int32)).toInt = ((y &&& (127 : Int32)) ||| (128 : Int32)).toInt % 128 := c_mask _ (127 : Int32) 7 (by decide) (by decide)
  rw [← Int32.toInt_inj]
  simp only [Int32.reduceToInt] at *
  omega
theorem own_J0 (d : Int32) : ((0 : Int32) ||| (d <<< ((0 : Int32) &&& 31))).toInt = d.toInt := by
  have s := c_ishl d (0 : Int32) 0 (by decide)
  have z := rng32 (d <<< ((0 : Int32) &&& 31))
  have y := rng32 d
  rw [Int32.zero_or]
  simp only [Nat.pow_zero, Int.natCast_one, Int.mul_one] at s
  omega
theorem own_J7 (v d : Int32) (hv : 0 ≤ v.toInt) (hv1 : v.toInt < 128) (hd : 0 ≤ d.toInt) (hd1 : d.toInt < 16777216) : (v ||| (d <<< ((7 : Int32) &&& 31))).toInt = v.toInt + d.toInt * 128 := by
  have s : ((d <<< ((7 : Int32) &&& 31)).toInt - d.toInt * 128) % 4294967296 = 0 := c_ishl d (7 : Int32) 7 (by decide)
  have z := rng32 (d <<< ((7 : Int32) &&& 31))
  have e : (d <<< ((7 : Int32) &&& 31)).toInt = d.toInt * 128 := by omega
  have a := c_or' v (d <<< ((7 : Int32) &&& 31)) 7 (by decide) 128 rfl (by omega) hv hv1
  have y := rng32 (v ||| (d <<< ((7 : Int32) &&& 31)))
  omega
theorem own_J14 (v d : Int32) (hv : 0 ≤ v.toInt) (hv1 : v.toInt < 16384) (hd : 0 ≤ d.toInt) (hd1 : d.toInt < 131072) : (v ||| (d <<< ((14 : Int32) &&& 31))).toInt = v.toInt + d.toInt * 16384 := by
  have s : ((d <<< ((14 : Int32) &&& 31)).toInt - d.toInt * 16384) % 4294967296 = 0 := c_ishl d (14 : Int32) 14 (by decide)
  have z := rng32 (d <<< ((14 : Int32) &&& 31))
  have e : (d <<< ((14 : Int32) &&& 31)).toInt = d.toInt * 16384 := by omega
  have a := c_or' v (d <<< ((14 : Int32) &&& 31)) 14 (by decide) 16384 rfl (by omega) hv hv1
  have y := rng32 (v ||| (d <<< ((14 : Int32) &&& 31)))
  omega
theorem own_J21 (v d : Int32) (hv : 0 ≤ v.toInt) (hv1 : v.toInt < 2097152) (hd : 0 ≤ d.toInt) (hd1 : d.toInt < 1024) : (v ||| (d <<< ((21 : Int32) &&& 31))).toInt = v.toInt + d.toInt * 2097152 := by
  have s : ((d <<< ((21 : Int32) &&& 31)).toInt - d.toInt * 2097152) % 4294967296 = 0 := c_ishl d (21 : Int32) 21 (by decide)
  have z := rng32 (d <<< ((21 : Int32) &&& 31))
  have e : (d <<< ((21 : Int32) &&& 31)).toInt = d.toInt * 2097152 := by omega
  have a := c_or' v (d <<< ((21 : Int32) &&& 31)) 21 (by decide) 2097152 rfl (by omega) hv hv1
  have y := rng32 (v ||| (d <<< ((21 : Int32) &&& 31)))
  omega
theorem own_J28 (v d : Int32) (hv : 0 ≤ v.toInt) (hv1 : v.toInt < 268435456) (hd : 0 ≤ d.toInt) (hd1 : d.toInt < 8) : (v ||| (d <<< ((28 : Int32) &&& 31))).toInt = v.toInt + d.toInt * 268435456 := by
  have s : ((d <<< ((28 : Int32) &&& 31)).toInt - d.toInt * 268435456) % 4294967296 = 0 := c_ishl d (28 : Int32) 28 (by decide)
  have z := rng32 (d <<< ((28 : Int32) &&& 31))
  have e : (d <<< ((28 : Int32) &&& 31)).toInt = d.toInt * 268435456 := by omega
  have a := c_or' v (d <<< ((28 : Int32) &&& 31)) 28 (by decide) 268435456 rfl (by omega) hv hv1
  have y := rng32 (v ||| (d <<< ((28 : Int32) &&& 31)))
  omega
theorem own_byte (vs pre post : List Value) (n w x j : Int32) (h : ¬ n < 0) (hv : vs = pre ++ (own_E [] n ++ post)) (hw : w.toInt = (pre.length : Int)) (hx : x.toInt = w.toInt + j.toInt) (hj : 0 ≤ j.toInt) (hk : j < own_L n) : own_at vs x &&& (255 : Int32) = own_B n j (own_L n) := by
  have cj := own_cl hj
  have cx := own_cl (x := x) (by omega)
  have lr := own_Lr n h
  have cL := own_cl (x := own_L n) (by omega)
  have q := Int32.lt_iff_toInt_lt.mp hk
  have el := own_EL n h
  rw [hv, own_atB pre _ x j (by omega), own_atA _ post j (by omega)]
  exact own_EI n j h (own_le0 hj) hk
theorem own_next (vs pre post : List Value) (n w : Int32) (h : ¬ n < 0) (hv : vs = pre ++ (own_E [] n ++ post)) (hw : w.toInt = (pre.length : Int)) (hb : w.toInt ≤ 50) : (¬ ((own_at vs w &&& (255 : Int32)) < (128 : Int32)) → ¬ ((own_at vs (w + (1 : Int32)) &&& (255 : Int32)) < (128 : Int32)) → ¬ ((own_at vs ((w + (1 : Int32)) + (1 : Int32)) &&& (255 : Int32)) < (128 : Int32)) → ¬ ((own_at vs (((w + (1 : Int32)) + (1 : Int32)) + (1 : Int32)) &&& (255 : Int32)) < (128 : Int32)) → (own_at vs ((((w + (1 : Int32)) + (1 : Int32)) + (1 : Int32)) + (1 : Int32)) &&& (255 : Int32)) < (128 : Int32)) ∧ own_N vs w = n ∧ own_P vs w = w + own_L n := by
  refine own_five n h ?_ ?_ ?_ ?_ ?_
  · intro g0 lo hi
    have n0 := own_nn h
    have zr := rng32 n
    have eL : own_L n = (1 : Int32) := by rw [own_L_eq, if_pos g0]
    have b0 := own_byte vs pre post n w w (0 : Int32) h hv hw (by simp only [Int32.reduceToInt]; omega) (by decide) (by rw [eL]; decide)
    rw [eL, own_B_eq, if_neg (by decide), own_D0 n, own_m7 _ lo hi] at b0
    refine ⟨?_, ?_, ?_⟩
    · intro e0 e1 e2 e3
      rw [b0] at e0
      exact absurd g0 e0
    · rw [own_N_eq, b0, if_pos g0]
      rw [own_m7 _ lo hi]
      have j0 := own_J0 n
      rw [← Int32.toInt_inj, j0]
    · rw [own_P_eq, eL, b0, if_pos g0]
  · intro g0 g1 e1 lo hi
    have n0 := own_nn h
    have zr := rng32 n
    have u1 := c_iadd w (1 : Int32)
    have v1 := rng32 (w + (1 : Int32))
    simp only [Int32.reduceToInt] at u1
    have t1 : (w + (1 : Int32)).toInt = w.toInt + 1 := by omega
    have eL : own_L n = (2 : Int32) := by rw [own_L_eq, if_neg g0, if_pos e1]
    have b0 := own_byte vs pre post n w w (0 : Int32) h hv hw (by simp only [Int32.reduceToInt]; omega) (by decide) (by rw [eL]; decide)
    rw [eL, own_B_eq, if_pos (by decide), own_D0 n] at b0
    have b1 := own_byte vs pre post n w (w + (1 : Int32)) (1 : Int32) h hv hw (by simp only [Int32.reduceToInt]; omega) (by decide) (by rw [eL]; decide)
    rw [eL, own_B_eq, if_neg (by decide), own_D1 n n0, own_m7 _ lo hi] at b1
    refine ⟨?_, ?_, ?_⟩
    · intro e0 e1 e2 e3
      rw [b1] at e1
      exact absurd g1 e1
    · rw [own_N_eq, b0, if_neg (own_h128 _), b1, if_pos g1]
      rw [own_x127 n]
      rw [own_m7 _ lo hi]
      have m0 : (n &&& (127 : Int32)).toInt = n.toInt % 128 := c_mask n (127 : Int32) 7 (by decide) (by decide)
      have a1 := own_S_toInt n (by omega)
      have j0 := own_J0 (n &&& (127 : Int32))
      have j1 := own_J7 ((0 : Int32) ||| ((n &&& (127 : Int32)) <<< ((0 : Int32) &&& 31))) (own_S n) (by omega) (by omega) (by omega) (by omega)
      rw [← Int32.toInt_inj, j1]
      omega
    · rw [own_P_eq, eL, b0, if_neg (own_h128 _), b1, if_pos g1]
      simp only [Int32.add_assoc]
      rfl
  · intro g0 g1 g2 e1 e2 lo hi
    have n0 := own_nn h
    have zr := rng32 n
    have u1 := c_iadd w (1 : Int32)
    have v1 := rng32 (w + (1 : Int32))
    simp only [Int32.reduceToInt] at u1
    have t1 : (w + (1 : Int32)).toInt = w.toInt + 1 := by omega
    have u2 := c_iadd (w + (1 : Int32)) (1 : Int32)
    have v2 := rng32 ((w + (1 : Int32)) + (1 : Int32))
    simp only [Int32.reduceToInt] at u2
    have t2 : ((w + (1 : Int32)) + (1 : Int32)).toInt = w.toInt + 2 := by omega
    have eL : own_L n = (3 : Int32) := by rw [own_L_eq, if_neg g0, if_neg e1, if_pos e2]
    have b0 := own_byte vs pre post n w w (0 : Int32) h hv hw (by simp only [Int32.reduceToInt]; omega) (by decide) (by rw [eL]; decide)
    rw [eL, own_B_eq, if_pos (by decide), own_D0 n] at b0
    have b1 := own_byte vs pre post n w (w + (1 : Int32)) (1 : Int32) h hv hw (by simp only [Int32.reduceToInt]; omega) (by decide) (by rw [eL]; decide)
    rw [eL, own_B_eq, if_pos (by decide), own_D1 n n0] at b1
    have b2 := own_byte vs pre post n w ((w + (1 : Int32)) + (1 : Int32)) (2 : Int32) h hv hw (by simp only [Int32.reduceToInt]; omega) (by decide) (by rw [eL]; decide)
    rw [eL, own_B_eq, if_neg (by decide), own_D2 n n0, own_m7 _ lo hi] at b2
    refine ⟨?_, ?_, ?_⟩
    · intro e0 e1 e2 e3
      rw [b2] at e2
      exact absurd g2 e2
    · rw [own_N_eq, b0, if_neg (own_h128 _), b1, if_neg (own_h128 _), b2, if_pos g2]
      rw [own_x127 n]
      rw [own_x127 (own_S n)]
      rw [own_m7 _ lo hi]
      have m0 : (n &&& (127 : Int32)).toInt = n.toInt % 128 := c_mask n (127 : Int32) 7 (by decide) (by decide)
      have m1 : ((own_S n) &&& (127 : Int32)).toInt = (own_S n).toInt % 128 := c_mask (own_S n) (127 : Int32) 7 (by decide) (by decide)
      have a1 := own_S_toInt n (by omega)
      have a2 := own_S_toInt (own_S n) (by omega)
      have j0 := own_J0 (n &&& (127 : Int32))
      have j1 := own_J7 ((0 : Int32) ||| ((n &&& (127 : Int32)) <<< ((0 : Int32) &&& 31))) ((own_S n) &&& (127 : Int32)) (by omega) (by omega) (by omega) (by omega)
      have j2 := own_J14 (((0 : Int32) ||| ((n &&& (127 : Int32)) <<< ((0 : Int32) &&& 31))) ||| (((own_S n) &&& (127 : Int32)) <<< ((7 : Int32) &&& 31))) (own_S (own_S n)) (by omega) (by omega) (by omega) (by omega)
      rw [← Int32.toInt_inj, j2]
      omega
    · rw [own_P_eq, eL, b0, if_neg (own_h128 _), b1, if_neg (own_h128 _), b2, if_pos g2]
      simp only [Int32.add_assoc]
      rfl
  · intro g0 g1 g2 g3 e1 e2 e3 lo hi
    have n0 := own_nn h
    have zr := rng32 n
    have u1 := c_iadd w (1 : Int32)
    have v1 := rng32 (w + (1 : Int32))
    simp only [Int32.reduceToInt] at u1
    have t1 : (w + (1 : Int32)).toInt = w.toInt + 1 := by omega
    have u2 := c_iadd (w + (1 : Int32)) (1 : Int32)
    have v2 := rng32 ((w + (1 : Int32)) + (1 : Int32))
    simp only [Int32.reduceToInt] at u2
    have t2 : ((w + (1 : Int32)) + (1 : Int32)).toInt = w.toInt + 2 := by omega
    have u3 := c_iadd ((w + (1 : Int32)) + (1 : Int32)) (1 : Int32)
    have v3 := rng32 (((w + (1 : Int32)) + (1 : Int32)) + (1 : Int32))
    simp only [Int32.reduceToInt] at u3
    have t3 : (((w + (1 : Int32)) + (1 : Int32)) + (1 : Int32)).toInt = w.toInt + 3 := by omega
    have eL : own_L n = (4 : Int32) := by rw [own_L_eq, if_neg g0, if_neg e1, if_neg e2, if_pos e3]
    have b0 := own_byte vs pre post n w w (0 : Int32) h hv hw (by simp only [Int32.reduceToInt]; omega) (by decide) (by rw [eL]; decide)
    rw [eL, own_B_eq, if_pos (by decide), own_D0 n] at b0
    have b1 := own_byte vs pre post n w (w + (1 : Int32)) (1 : Int32) h hv hw (by simp only [Int32.reduceToInt]; omega) (by decide) (by rw [eL]; decide)
    rw [eL, own_B_eq, if_pos (by decide), own_D1 n n0] at b1
    have b2 := own_byte vs pre post n w ((w + (1 : Int32)) + (1 : Int32)) (2 : Int32) h hv hw (by simp only [Int32.reduceToInt]; omega) (by decide) (by rw [eL]; decide)
    rw [eL, own_B_eq, if_pos (by decide), own_D2 n n0] at b2
    have b3 := own_byte vs pre post n w (((w + (1 : Int32)) + (1 : Int32)) + (1 : Int32)) (3 : Int32) h hv hw (by simp only [Int32.reduceToInt]; omega) (by decide) (by rw [eL]; decide)
    rw [eL, own_B_eq, if_neg (by decide), own_D3 n n0, own_m7 _ lo hi] at b3
    refine ⟨?_, ?_, ?_⟩
    · intro e0 e1 e2 e3
      rw [b3] at e3
      exact absurd g3 e3
    · rw [own_N_eq, b0, if_neg (own_h128 _), b1, if_neg (own_h128 _), b2, if_neg (own_h128 _), b3, if_pos g3]
      rw [own_x127 n]
      rw [own_x127 (own_S n)]
      rw [own_x127 (own_S (own_S n))]
      rw [own_m7 _ lo hi]
      have m0 : (n &&& (127 : Int32)).toInt = n.toInt % 128 := c_mask n (127 : Int32) 7 (by decide) (by decide)
      have m1 : ((own_S n) &&& (127 : Int32)).toInt = (own_S n).toInt % 128 := c_mask (own_S n) (127 : Int32) 7 (by decide) (by decide)
      have m2 : ((own_S (own_S n)) &&& (127 : Int32)).toInt = (own_S (own_S n)).toInt % 128 := c_mask (own_S (own_S n)) (127 : Int32) 7 (by decide) (by decide)
      have a1 := own_S_toInt n (by omega)
      have a2 := own_S_toInt (own_S n) (by omega)
      have a3 := own_S_toInt (own_S (own_S n)) (by omega)
      have j0 := own_J0 (n &&& (127 : Int32))
      have j1 := own_J7 ((0 : Int32) ||| ((n &&& (127 : Int32)) <<< ((0 : Int32) &&& 31))) ((own_S n) &&& (127 : Int32)) (by omega) (by omega) (by omega) (by omega)
      have j2 := own_J14 (((0 : Int32) ||| ((n &&& (127 : Int32)) <<< ((0 : Int32) &&& 31))) ||| (((own_S n) &&& (127 : Int32)) <<< ((7 : Int32) &&& 31))) ((own_S (own_S n)) &&& (127 : Int32)) (by omega) (by omega) (by omega) (by omega)
      have j3 := own_J21 ((((0 : Int32) ||| ((n &&& (127 : Int32)) <<< ((0 : Int32) &&& 31))) ||| (((own_S n) &&& (127 : Int32)) <<< ((7 : Int32) &&& 31))) ||| (((own_S (own_S n)) &&& (127 : Int32)) <<< ((14 : Int32) &&& 31))) (own_S (own_S (own_S n))) (by omega) (by omega) (by omega) (by omega)
      rw [← Int32.toInt_inj, j3]
      omega
    · rw [own_P_eq, eL, b0, if_neg (own_h128 _), b1, if_neg (own_h128 _), b2, if_neg (own_h128 _), b3, if_pos g3]
      simp only [Int32.add_assoc]
      rfl
  · intro g0 g1 g2 g3 e1 e2 e3 lo hi
    have n0 := own_nn h
    have zr := rng32 n
    have u1 := c_iadd w (1 : Int32)
    have v1 := rng32 (w + (1 : Int32))
    simp only [Int32.reduceToInt] at u1
    have t1 : (w + (1 : Int32)).toInt = w.toInt + 1 := by omega
    have u2 := c_iadd (w + (1 : Int32)) (1 : Int32)
    have v2 := rng32 ((w + (1 : Int32)) + (1 : Int32))
    simp only [Int32.reduceToInt] at u2
    have t2 : ((w + (1 : Int32)) + (1 : Int32)).toInt = w.toInt + 2 := by omega
    have u3 := c_iadd ((w + (1 : Int32)) + (1 : Int32)) (1 : Int32)
    have v3 := rng32 (((w + (1 : Int32)) + (1 : Int32)) + (1 : Int32))
    simp only [Int32.reduceToInt] at u3
    have t3 : (((w + (1 : Int32)) + (1 : Int32)) + (1 : Int32)).toInt = w.toInt + 3 := by omega
    have u4 := c_iadd (((w + (1 : Int32)) + (1 : Int32)) + (1 : Int32)) (1 : Int32)
    have v4 := rng32 ((((w + (1 : Int32)) + (1 : Int32)) + (1 : Int32)) + (1 : Int32))
    simp only [Int32.reduceToInt] at u4
    have t4 : ((((w + (1 : Int32)) + (1 : Int32)) + (1 : Int32)) + (1 : Int32)).toInt = w.toInt + 4 := by omega
    have eL : own_L n = (5 : Int32) := by rw [own_L_eq, if_neg g0, if_neg e1, if_neg e2, if_neg e3]
    have b0 := own_byte vs pre post n w w (0 : Int32) h hv hw (by simp only [Int32.reduceToInt]; omega) (by decide) (by rw [eL]; decide)
    rw [eL, own_B_eq, if_pos (by decide), own_D0 n] at b0
    have b1 := own_byte vs pre post n w (w + (1 : Int32)) (1 : Int32) h hv hw (by simp only [Int32.reduceToInt]; omega) (by decide) (by rw [eL]; decide)
    rw [eL, own_B_eq, if_pos (by decide), own_D1 n n0] at b1
    have b2 := own_byte vs pre post n w ((w + (1 : Int32)) + (1 : Int32)) (2 : Int32) h hv hw (by simp only [Int32.reduceToInt]; omega) (by decide) (by rw [eL]; decide)
    rw [eL, own_B_eq, if_pos (by decide), own_D2 n n0] at b2
    have b3 := own_byte vs pre post n w (((w + (1 : Int32)) + (1 : Int32)) + (1 : Int32)) (3 : Int32) h hv hw (by simp only [Int32.reduceToInt]; omega) (by decide) (by rw [eL]; decide)
    rw [eL, own_B_eq, if_pos (by decide), own_D3 n n0] at b3
    have b4 := own_byte vs pre post n w ((((w + (1 : Int32)) + (1 : Int32)) + (1 : Int32)) + (1 : Int32)) (4 : Int32) h hv hw (by simp only [Int32.reduceToInt]; omega) (by decide) (by rw [eL]; decide)
    rw [eL, own_B_eq, if_neg (by decide), own_D4 n n0, own_m7 _ lo hi] at b4
    refine ⟨?_, ?_, ?_⟩
    · intro _ _ _ _
      rw [b4]
      exact (own_ltI _ (128 : Int32) 128 (by decide)).mpr hi
    · rw [own_N_eq, b0, if_neg (own_h128 _), b1, if_neg (own_h128 _), b2, if_neg (own_h128 _), b3, if_neg (own_h128 _), b4]
      rw [own_x127 n]
      rw [own_x127 (own_S n)]
      rw [own_x127 (own_S (own_S n))]
      rw [own_x127 (own_S (own_S (own_S n)))]
      rw [own_m7 _ lo hi]
      have m0 : (n &&& (127 : Int32)).toInt = n.toInt % 128 := c_mask n (127 : Int32) 7 (by decide) (by decide)
      have m1 : ((own_S n) &&& (127 : Int32)).toInt = (own_S n).toInt % 128 := c_mask (own_S n) (127 : Int32) 7 (by decide) (by decide)
      have m2 : ((own_S (own_S n)) &&& (127 : Int32)).toInt = (own_S (own_S n)).toInt % 128 := c_mask (own_S (own_S n)) (127 : Int32) 7 (by decide) (by decide)
      have m3 : ((own_S (own_S (own_S n))) &&& (127 : Int32)).toInt = (own_S (own_S (own_S n))).toInt % 128 := c_mask (own_S (own_S (own_S n))) (127 : Int32) 7 (by decide) (by decide)
      have a1 := own_S_toInt n (by omega)
      have a2 := own_S_toInt (own_S n) (by omega)
      have a3 := own_S_toInt (own_S (own_S n)) (by omega)
      have a4 := own_S_toInt (own_S (own_S (own_S n))) (by omega)
      have j0 := own_J0 (n &&& (127 : Int32))
      have j1 := own_J7 ((0 : Int32) ||| ((n &&& (127 : Int32)) <<< ((0 : Int32) &&& 31))) ((own_S n) &&& (127 : Int32)) (by omega) (by omega) (by omega) (by omega)
      have j2 := own_J14 (((0 : Int32) ||| ((n &&& (127 : Int32)) <<< ((0 : Int32) &&& 31))) ||| (((own_S n) &&& (127 : Int32)) <<< ((7 : Int32) &&& 31))) ((own_S (own_S n)) &&& (127 : Int32)) (by omega) (by omega) (by omega) (by omega)
      have j3 := own_J21 ((((0 : Int32) ||| ((n &&& (127 : Int32)) <<< ((0 : Int32) &&& 31))) ||| (((own_S n) &&& (127 : Int32)) <<< ((7 : Int32) &&& 31))) ||| (((own_S (own_S n)) &&& (127 : Int32)) <<< ((14 : Int32) &&& 31))) ((own_S (own_S (own_S n))) &&& (127 : Int32)) (by omega) (by omega) (by omega) (by omega)
      have j4 := own_J28 (((((0 : Int32) ||| ((n &&& (127 : Int32)) <<< ((0 : Int32) &&& 31))) ||| (((own_S n) &&& (127 : Int32)) <<< ((7 : Int32) &&& 31))) ||| (((own_S (own_S n)) &&& (127 : Int32)) <<< ((14 : Int32) &&& 31))) ||| (((own_S (own_S (own_S n))) &&& (127 : Int32)) <<< ((21 : Int32) &&& 31))) (own_S (own_S (own_S (own_S n)))) (by omega) (by omega) (by omega) (by omega)
      rw [← Int32.toInt_inj, j4]
      omega
    · rw [own_P_eq, eL, b0, if_neg (own_h128 _), b1, if_neg (own_h128 _), b2, if_neg (own_h128 _), b3, if_neg (own_h128 _)]
      simp only [Int32.add_assoc]
      rfl
theorem own_and3 (x y : Int32) (h : y = x &&& (3 : Int32)) : y = 0 ∨ y = 1 ∨ y = 2 ∨ y = 3 := by
  have a : y.toInt = x.toInt % 4 := by rw [h]; exact c_mask x (3 : Int32) 2 (by decide) (by decide)
  clear h
  simp only [← Int32.toInt_inj, Int32.reduceToInt]
  omega
theorem own_m31 (p y : Int32) (h : y = (p &&& (2147483647 : Int32))) : ¬ y < 0 := by
  have a : (p &&& (2147483647 : Int32)).toInt = p.toInt % 2147483648 := c_mask p (2147483647 : Int32) 31 (by decide) (by decide)
  rw [← h] at a
  exact own_le0 (by omega)
theorem own_ln (a : Int32) (g : ¬ a < 0) : ((own_E [] a).length : Int) = (own_L a).toInt ∧ 1 ≤ (own_L a).toInt ∧ (own_L a).toInt ≤ 5 := by
  have l := own_Lr a g
  have c := own_cl (x := own_L a) (by omega)
  have e := own_EL a g
  omega
theorem own_t1 (a f : Int32) (g : ¬ a < 0) (hf : f = own_F (0 : Int32) a) : f.toInt = (own_L a).toInt := by rw [hf, own_FL _ _ g, Int32.zero_add]
theorem own_ad (f b : Int32) (h0 : 0 ≤ f.toInt) (h1 : f.toInt ≤ 50) (g : ¬ b < 0) : (f + own_L b).toInt = f.toInt + (own_L b).toInt := by
  have l := own_Lr b g
  have c := c_iadd f (own_L b)
  have z := rng32 (f + own_L b)
  omega
theorem own_t2 (f b f' : Int32) (h0 : 0 ≤ f.toInt) (h1 : f.toInt ≤ 50) (g : ¬ b < 0) (hf : f' = own_F f b) : f'.toInt = f.toInt + (own_L b).toInt := by rw [hf, own_FL _ _ g, own_ad f b h0 h1 g]
theorem d3_0 : decode jdk_31_method_10_code 0 = .ok (.aload_n 0, 1) := by decide +kernel
theorem d3_1 : decode jdk_31_method_10_code 1 = .ok (.ifnonnull 11, 3) := by decide +kernel
theorem d3_12 : decode jdk_31_method_10_code 12 = .ok (.aload_n 0, 1) := by decide +kernel
theorem d3_13 : decode jdk_31_method_10_code 13 = .ok (.areturn, 1) := by decide +kernel
theorem pn_3 : plainName "java/util/Objects" = true := by first | (simp [plainName, overriddenIn]; done) | decide +kernel
theorem ef_3 (m : MethodId) (a1 : Addr) : entryFrame m #[(.ref a1)] 1 = mkF m 0 #[.val (.ref a1)] [] := by first | (simp [entryFrame, mkF, argsToLocals, Value.category]; done) | rfl
def Q3 (Z : State) (a1 : Addr) (h0 : Heap) (n0 : Nat) (v : Option Value) (h : Heap) (L : List Loc) : Prop := v = some (.ref a1) ∧ Fr n0 L ∧ h = h0
set_option maxRecDepth 65536 in
set_option maxHeartbeats 40000000 in
theorem rm3 (l : Launch) (Z : State) (a0 : Array Value) (hw : ∀ d ∈ tables_1, d.before a0 Z = true) (ws : List Jvm.Cond) (a1 : Addr) (h0 : Heap) (n0 : Nat) (Z0 : n0 ≤ h0.size) :
    MetFree l (⟨"java/util/Objects", "requireNonNull", "(Ljava/lang/Object;)Ljava/lang/Object;"⟩ : MethodName) (head1 (Jvm.Cond.code (⟨"java/util/Objects", "requireNonNull", "(Ljava/lang/Object;)Ljava/lang/Object;"⟩ : MethodName) jdk_31_method_10_code 1 (some (.object "java/lang/Object")) :: ws) ({ frames := 0, cells := 0, slots := 0, locals := 0 } : Room)) (fun a U => a = #[(.ref a1)] ∧ Z.Warmed39 U.vm ∧ U.heap = h0) (fun _ _ _ _ _ => True) (fun _ U o U' => ∃ v L, o = .returned v ∧ Q3 Z a1 h0 n0 v U'.heap L ∧ FrameEnd U o U' L ({ frames := 0, cells := 0, slots := 0, locals := 0 } : Room).cells ({ frames := 0, cells := 0, slots := 0, locals := 0 } : Room).slots) := by
  refine MetFree.of_bodySF (plainFor_of_name pn_3) hisR ?_
  intro p e s m args below meth c s₁ Bd hml0 hP hK
  obtain ⟨rfl, hZ, hh⟩ := hP
  have hx := Bd.exec
  have hby := Bd.bytes
  have hml : c.maxLocals = 1 := hml0
  have hown : s.vm.findClass "java/util/Objects" = some m.cls := findClass_of_methodNamed Bd.named
  have hnm := (name_of_methodNamed Bd.named Bd.method).1
  have X0 : Stand p l e ({ frames := 0, cells := 0, slots := 0, locals := 0 } : Room) s m #[(.ref a1)] below meth c s₁ [] 0 0 := Stand.of_body Bd
  have e0 : s₁.heap = h0 := by rw [← hh, Bd.state]; rfl
  have N0 := Fr.nil n0
  have K0 : Keep h0 h0 [] := Keep.refl h0 _
  refine (show Gl p e below (fun o U' => ∃ v L, o = .returned v ∧ Q3 Z a1 h0 n0 v U'.heap L ∧ FrameEnd s o U' L ({ frames := 0, cells := 0, slots := 0, locals := 0 } : Room).cells ({ frames := 0, cells := 0, slots := 0, locals := 0 } : Room).slots) (s₁.setTop (entryFrame m #[(.ref a1)] 1)) from ?_)
  obtain ⟨L0, hL0⟩ : ∃ z : Array Slot, z = #[.val (.ref a1)] := ⟨_, rfl⟩
  refine Gl.st (B := (s₁.setTop (mkF m 0 L0 []))) (fun t k => castTop (efAt hL0 (ef_3 m a1)) k) ?_
  refine Gl.st (B := (s₁.setTop (mkF m 1 L0 [(.ref a1)]))) (fun t k => XS.aloadN X0.here hx rfl (hb hby d3_0) (ldAt hL0 rfl) rfl k) ?_
  refine Gl.st (B := (s₁.setTop (mkF m 12 L0 []))) (fun t k => XS.ifnonnullYes X0.here hx rfl (pc0 := 1) (pc' := 12) rfl (hb hby d3_1) rfl (by decide) (by decide) k) ?_
  refine Gl.st (B := (s₁.setTop (mkF m 13 L0 [(.ref a1)]))) (fun t k => XS.aloadN X0.here hx rfl (hb hby d3_12) (ldAt hL0 rfl) rfl k) ?_
  obtain ⟨fs, hr, hrun, hended, hW, hsame⟩ := X0.leave (v := some (.ref a1)) (fun h => by rw [Bd.returns] at h; cases h)
  refine Gl.fin (X0.areturnOut hx rfl Bd.returns rfl (hb hby d3_13) hr) hrun hended ⟨_, _, rfl, ?_, ⟨_, rfl⟩, hW, hsame.mono (by decide) (by decide)⟩
  show Q3 Z a1 h0 n0 _ s₁.heap _
  rw [e0]
  exact ⟨rfl, N0, rfl⟩
theorem sn3 {Z : State} {a0 : Array Value} (hw : ∀ d ∈ tables_1, d.before a0 Z = true) : Jvm.RoadKit.slotOf Z "com/example/outcomery/outcomery/PackedNumbers$Reader" "place" "I" ≠ Jvm.RoadKit.slotOf Z "com/example/outcomery/outcomery/PackedNumbers$Reader" "this$0" "Lcom/example/outcomery/outcomery/PackedNumbers;" := slot_ne (Or.inl (tw hw 33 rfl)) (Or.inr (tw hw 25 rfl)) (by decide) (t := .int) (t' := (.object "com/example/outcomery/outcomery/PackedNumbers")) (by decide) (by decide)
theorem d4_0 : decode prog_24_method_1_code 0 = .ok (.aload_n 0, 1) := by decide +kernel
theorem d4_1 : decode prog_24_method_1_code 1 = .ok (.aload_n 1, 1) := by decide +kernel
theorem d4_2 : decode prog_24_method_1_code 2 = .ok (.putfield 1, 3) := by decide +kernel
theorem d4_5 : decode prog_24_method_1_code 5 = .ok (.aload_n 0, 1) := by decide +kernel
theorem d4_6 : decode prog_24_method_1_code 6 = .ok (.invokespecial 7, 3) := by decide +kernel
theorem d4_9 : decode prog_24_method_1_code 9 = .ok (.return_, 1) := by decide +kernel
theorem pn_4 : plainName "com/example/outcomery/outcomery/PackedNumbers$Reader" = true := by first | (simp [plainName, overriddenIn]; done) | decide +kernel
theorem ef_4 (m : MethodId) (a1 : Addr) (a2 : Addr) : entryFrame m #[(.ref a1), (.ref a2)] 2 = mkF m 0 #[.val (.ref a1), .val (.ref a2)] [] := by first | (simp [entryFrame, mkF, argsToLocals, Value.category]; done) | rfl
def Q4 (Z : State) (a1 : Addr) (a2 : Addr) (u_this_0_a1 : Value) (u_place_a1 : Value) (h0 : Heap) (n0 : Nat) (v : Option Value) (h : Heap) (L : List Loc) : Prop := v = none ∧ Fr n0 L ∧ Keep h0 h [a1] ∧ Exa Z h a1 "com/example/outcomery/outcomery/PackedNumbers$Reader" ∧ Fld Z h a1 "com/example/outcomery/outcomery/PackedNumbers$Reader" "place" "I" u_place_a1 ∧ Fld Z h a1 "com/example/outcomery/outcomery/PackedNumbers$Reader" "this$0" "Lcom/example/outcomery/outcomery/PackedNumbers;" (.ref a2)
set_option maxRecDepth 65536 in
set_option maxHeartbeats 40000000 in
theorem rm4 (l : Launch) (Z : State) (a0 : Array Value) (hw : ∀ d ∈ tables_1, d.before a0 Z = true) (ws : List Jvm.Cond) (a1 : Addr) (a2 : Addr) (u_this_0_a1 : Value) (u_place_a1 : Value) (h0 : Heap) (n0 : Nat) (Z0 : n0 ≤ h0.size) (F_this_0_a1 : Fld Z h0 a1 "com/example/outcomery/outcomery/PackedNumbers$Reader" "this$0" "Lcom/example/outcomery/outcomery/PackedNumbers;" u_this_0_a1) (F_place_a1 : Fld Z h0 a1 "com/example/outcomery/outcomery/PackedNumbers$Reader" "place" "I" u_place_a1) (E_a1 : Exa Z h0 a1 "com/example/outcomery/outcomery/PackedNumbers$Reader") (g_a1 : n0 ≤ a1) :
    MetFree l (⟨"com/example/outcomery/outcomery/PackedNumbers$Reader", "<init>", "(Lcom/example/outcomery/outcomery/PackedNumbers;)V"⟩ : MethodName) (head1 (Jvm.Cond.code (⟨"com/example/outcomery/outcomery/PackedNumbers$Reader", "<init>", "(Lcom/example/outcomery/outcomery/PackedNumbers;)V"⟩ : MethodName) prog_24_method_1_code 2 none :: ws) ({ frames := 1, cells := 0, slots := 0, locals := 12 } : Room)) (fun a U => a = #[(.ref a1), (.ref a2)] ∧ Z.Warmed39 U.vm ∧ U.heap = h0) (fun _ _ _ _ _ => True) (fun _ U o U' => ∃ v L, o = .returned v ∧ Q4 Z a1 a2 u_this_0_a1 u_place_a1 h0 n0 v U'.heap L ∧ FrameEnd U o U' L ({ frames := 1, cells := 0, slots := 0, locals := 12 } : Room).cells ({ frames := 1, cells := 0, slots := 0, locals := 12 } : Room).slots) := by
  refine MetFree.of_bodySF (plainFor_of_name pn_4) hisR ?_
  intro p e s m args below meth c s₁ Bd hml0 hP hK
  obtain ⟨rfl, hZ, hh⟩ := hP
  have hx := Bd.exec
  have hby := Bd.bytes
  have hml : c.maxLocals = 2 := hml0
  have hown : s.vm.findClass "com/example/outcomery/outcomery/PackedNumbers$Reader" = some m.cls := findClass_of_methodNamed Bd.named
  have hnm := (name_of_methodNamed Bd.named Bd.method).1
  have X0 : Stand p l e ({ frames := 1, cells := 0, slots := 0, locals := 12 } : Room) s m #[(.ref a1), (.ref a2)] below meth c s₁ [] 0 0 := Stand.of_body Bd
  have e0 : s₁.heap = h0 := by rw [← hh, Bd.state]; rfl
  have N0 := Fr.nil n0
  have K0 : Keep h0 h0 [a1] := Keep.refl h0 _
  refine (show Gl p e below (fun o U' => ∃ v L, o = .returned v ∧ Q4 Z a1 a2 u_this_0_a1 u_place_a1 h0 n0 v U'.heap L ∧ FrameEnd s o U' L ({ frames := 1, cells := 0, slots := 0, locals := 12 } : Room).cells ({ frames := 1, cells := 0, slots := 0, locals := 12 } : Room).slots) (s₁.setTop (entryFrame m #[(.ref a1), (.ref a2)] 2)) from ?_)
  obtain ⟨L0, hL0⟩ : ∃ z : Array Slot, z = #[.val (.ref a1), .val (.ref a2)] := ⟨_, rfl⟩
  refine Gl.st (B := (s₁.setTop (mkF m 0 L0 []))) (fun t k => castTop (efAt hL0 (ef_4 m a1 a2)) k) ?_
  refine Gl.st (B := (s₁.setTop (mkF m 1 L0 [(.ref a1)]))) (fun t k => XS.aloadN X0.here hx rfl (hb hby d4_0) (ldAt hL0 rfl) rfl k) ?_
  refine Gl.st (B := (s₁.setTop (mkF m 2 L0 [(.ref a2), (.ref a1)]))) (fun t k => XS.aloadN X0.here hx rfl (hb hby d4_1) (ldAt hL0 rfl) rfl k) ?_
  obtain ⟨T1, h1, X1, e1, W1, st1⟩ := putF X0 hx hZ hown (host := "") (Or.inl (tw hw 24 rfl)) Via.refl e0 F_this_0_a1 E_a1 (Or.inr ⟨(tw hw 25 rfl), rfl, hnm⟩) (tw hw 15 rfl) (ty := (.object "com/example/outcomery/outcomery/PackedNumbers")) (by decide) rfl rfl (g := (mkF m 2 L0 [(.ref a2), (.ref a1)])) rfl rfl (hb hby d4_2)
  have Fw1 := F_this_0_a1.same W1
  have Zc2 : n0 ≤ h1.size := Nat.le_trans Z0 (Nat.le_of_eq W1.size.symm)
  have K3 : Keep h0 h1 [a1] := K0.wr W1 (Or.inl (List.mem_of_getElem? (i := 0) rfl))
  have N1 := Fr.snoc X1 N0 g_a1
  refine Gl.st (B := (T1.setTop (mkF m 5 L0 []))) st1 ?_
  refine Gl.st (B := (T1.setTop (mkF m 6 L0 [(.ref a1)]))) (fun t k => XS.aloadN X1.here hx rfl (hb hby d4_5) (ldAt hL0 rfl) rfl k) ?_
  obtain ⟨T4, X4, e4, st4⟩ := initO X1 hx hZ hown (tw hw 26 rfl) (tw hw 8 rfl) (tw hw 9 rfl) e1 (g := (mkF m 6 L0 [(.ref a1)])) rfl (szAt hml hL0 rfl) rfl (hb hby d4_6) (by decide) (W := 0) (by show 2 * 0 + _ ≤ _; exact Nat.le_of_eq rfl) (by decide)
  refine Gl.st (B := (T4.setTop (mkF m 9 L0 []))) st4 ?_
  obtain ⟨fs, hr, hrun, hended, hW, hsame⟩ := X4.leave (v := none) (fun _ => rfl)
  refine Gl.fin (X4.returnOut hx Bd.returns (hb hby d4_9) hr) hrun hended ⟨_, _, rfl, ?_, ⟨_, rfl⟩, hW, hsame.mono (by decide) (by decide)⟩
  show Q4 Z a1 a2 u_this_0_a1 u_place_a1 h0 n0 _ T4.heap _
  rw [e4]
  have c5 := (E_a1.wr W1)
  have c6 := (F_place_a1.other W1 (Or.inr (sn3 hw)))
  exact ⟨rfl, N1, K3, c5, c6, Fw1⟩
theorem d5_0 : decode prog_24_method_2_code 0 = .ok (.aload_n 0, 1) := by decide +kernel
theorem d5_1 : decode prog_24_method_2_code 1 = .ok (.getfield 13, 3) := by decide +kernel
theorem d5_4 : decode prog_24_method_2_code 4 = .ok (.aload_n 0, 1) := by decide +kernel
theorem d5_5 : decode prog_24_method_2_code 5 = .ok (.getfield 1, 3) := by decide +kernel
theorem d5_8 : decode prog_24_method_2_code 8 = .ok (.getfield 17, 3) := by decide +kernel
theorem d5_11 : decode prog_24_method_2_code 11 = .ok (.if_icmp .ge 7, 3) := by decide +kernel
theorem d5_14 : decode prog_24_method_2_code 14 = .ok (.iconst 1, 1) := by decide +kernel
theorem d5_15 : decode prog_24_method_2_code 15 = .ok (.goto 4, 3) := by decide +kernel
theorem d5_18 : decode prog_24_method_2_code 18 = .ok (.iconst 0, 1) := by decide +kernel
theorem d5_19 : decode prog_24_method_2_code 19 = .ok (.ireturn, 1) := by decide +kernel
theorem pn_5 : plainName "com/example/outcomery/outcomery/PackedNumbers$Reader" = true := by first | (simp [plainName, overriddenIn]; done) | decide +kernel
theorem ef_5 (m : MethodId) (a1 : Addr) : entryFrame m #[(.ref a1)] 1 = mkF m 0 #[.val (.ref a1)] [] := by first | (simp [entryFrame, mkF, argsToLocals, Value.category]; done) | rfl
def Q5 (Z : State) (a1 : Addr) (w_place_a1 : Int32) (w_this_0_a1 : Addr) (w_length_w_this_0_a1 : Int32) (h0 : Heap) (n0 : Nat) (v : Option Value) (h : Heap) (L : List Loc) : Prop := v = some (.int ((if w_place_a1 < w_length_w_this_0_a1 then (1 : Int32) else (0 : Int32)))) ∧ Fr n0 L ∧ h = h0
set_option maxRecDepth 65536 in
set_option maxHeartbeats 40000000 in
theorem rm5 (l : Launch) (Z : State) (a0 : Array Value) (hw : ∀ d ∈ tables_1, d.before a0 Z = true) (ws : List Jvm.Cond) (a1 : Addr) (w_place_a1 : Int32) (w_this_0_a1 : Addr) (w_length_w_this_0_a1 : Int32) (h0 : Heap) (n0 : Nat) (Z0 : n0 ≤ h0.size) (F_place_a1 : Fld Z h0 a1 "com/example/outcomery/outcomery/PackedNumbers$Reader" "place" "I" (.int w_place_a1)) (F_this_0_a1 : Fld Z h0 a1 "com/example/outcomery/outcomery/PackedNumbers$Reader" "this$0" "Lcom/example/outcomery/outcomery/PackedNumbers;" (.ref w_this_0_a1)) (F_length_w_this_0_a1 : Fld Z h0 w_this_0_a1 "com/example/outcomery/outcomery/PackedNumbers" "length" "I" (.int w_length_w_this_0_a1)) :
    MetFree l (⟨"com/example/outcomery/outcomery/PackedNumbers$Reader", "hasNext", "()Z"⟩ : MethodName) (head1 (Jvm.Cond.code (⟨"com/example/outcomery/outcomery/PackedNumbers$Reader", "hasNext", "()Z"⟩ : MethodName) prog_24_method_2_code 1 (some .boolean) :: ws) ({ frames := 0, cells := 0, slots := 0, locals := 0 } : Room)) (fun a U => a = #[(.ref a1)] ∧ Z.Warmed39 U.vm ∧ U.heap = h0) (fun _ _ _ _ _ => True) (fun _ U o U' => ∃ v L, o = .returned v ∧ Q5 Z a1 w_place_a1 w_this_0_a1 w_length_w_this_0_a1 h0 n0 v U'.heap L ∧ FrameEnd U o U' L ({ frames := 0, cells := 0, slots := 0, locals := 0 } : Room).cells ({ frames := 0, cells := 0, slots := 0, locals := 0 } : Room).slots) := by
  refine MetFree.of_bodySF (plainFor_of_name pn_5) hisR ?_
  intro p e s m args below meth c s₁ Bd hml0 hP hK
  obtain ⟨rfl, hZ, hh⟩ := hP
  have hx := Bd.exec
  have hby := Bd.bytes
  have hml : c.maxLocals = 1 := hml0
  have hown : s.vm.findClass "com/example/outcomery/outcomery/PackedNumbers$Reader" = some m.cls := findClass_of_methodNamed Bd.named
  have hnm := (name_of_methodNamed Bd.named Bd.method).1
  have X0 : Stand p l e ({ frames := 0, cells := 0, slots := 0, locals := 0 } : Room) s m #[(.ref a1)] below meth c s₁ [] 0 0 := Stand.of_body Bd
  have e0 : s₁.heap = h0 := by rw [← hh, Bd.state]; rfl
  have N0 := Fr.nil n0
  have K0 : Keep h0 h0 [] := Keep.refl h0 _
  refine (show Gl p e below (fun o U' => ∃ v L, o = .returned v ∧ Q5 Z a1 w_place_a1 w_this_0_a1 w_length_w_this_0_a1 h0 n0 v U'.heap L ∧ FrameEnd s o U' L ({ frames := 0, cells := 0, slots := 0, locals := 0 } : Room).cells ({ frames := 0, cells := 0, slots := 0, locals := 0 } : Room).slots) (s₁.setTop (entryFrame m #[(.ref a1)] 1)) from ?_)
  obtain ⟨L0, hL0⟩ : ∃ z : Array Slot, z = #[.val (.ref a1)] := ⟨_, rfl⟩
  refine Gl.st (B := (s₁.setTop (mkF m 0 L0 []))) (fun t k => castTop (efAt hL0 (ef_5 m a1)) k) ?_
  refine Gl.st (B := (s₁.setTop (mkF m 1 L0 [(.ref a1)]))) (fun t k => XS.aloadN X0.here hx rfl (hb hby d5_0) (ldAt hL0 rfl) rfl k) ?_
  obtain ⟨T1, X1, e1, st1⟩ := getF X0 hx hZ hown (host := "") (Or.inl (tw hw 32 rfl)) Via.refl e0 F_place_a1 (g := (mkF m 1 L0 [(.ref a1)])) rfl rfl (hb hby d5_1)
  refine Gl.st (B := (T1.setTop (mkF m 4 L0 [(.int w_place_a1)]))) st1 ?_
  refine Gl.st (B := (T1.setTop (mkF m 5 L0 [(.ref a1), (.int w_place_a1)]))) (fun t k => XS.aloadN X1.here hx rfl (hb hby d5_4) (ldAt hL0 rfl) rfl k) ?_
  obtain ⟨T2, X2, e2, st2⟩ := getF X1 hx hZ hown (host := "") (Or.inl (tw hw 24 rfl)) Via.refl e1 F_this_0_a1 (g := (mkF m 5 L0 [(.ref a1), (.int w_place_a1)])) rfl rfl (hb hby d5_5)
  refine Gl.st (B := (T2.setTop (mkF m 8 L0 [(.ref w_this_0_a1), (.int w_place_a1)]))) st2 ?_
  obtain ⟨T3, X3, e3, st3⟩ := getF X2 hx hZ hown (Or.inr (tw hw 34 rfl)) Via.refl e2 F_length_w_this_0_a1 (g := (mkF m 8 L0 [(.ref w_this_0_a1), (.int w_place_a1)])) rfl rfl (hb hby d5_8)
  refine Gl.st (B := (T3.setTop (mkF m 11 L0 [(.int w_length_w_this_0_a1), (.int w_place_a1)]))) st3 ?_
  obtain ⟨v19_s0_5, hv19_s0_5⟩ : ∃ z : Int32, z = (if w_place_a1 < w_length_w_this_0_a1 then (1 : Int32) else (0 : Int32)) := ⟨_, rfl⟩
  refine Gl.join (A := (T3.setTop (mkF m 19 L0 [(.int v19_s0_5)]))) (fun J11_5 => ?_) ?_
  · by_cases hc11_4 : w_place_a1 < w_length_w_this_0_a1
    · skip
      refine Gl.st (B := (T3.setTop (mkF m 14 L0 []))) (fun t k => XS.icmpNo X3.here hx rfl (hb hby d5_11) rfl (tlt hc11_4).2.1 k) ?_
      refine Gl.st (B := (T3.setTop (mkF m 15 L0 [(.int (1 : Int32))]))) (fun t k => XS.iconst X3.here hx rfl (hb hby d5_14) k) ?_
      refine Gl.st (B := (T3.setTop (mkF m 19 L0 [(.int (1 : Int32))]))) (fun t k => XS.goto X3.here hx rfl (pc0 := 15) (pc' := 19) rfl (hb hby d5_15) (by decide) (by decide) k) ?_
      have ev19_s0_5 : v19_s0_5 = (1 : Int32) := by rw [hv19_s0_5, if_pos hc11_4]
      rw [ev19_s0_5] at J11_5
      exact J11_5
    · skip
      refine Gl.st (B := (T3.setTop (mkF m 18 L0 []))) (fun t k => XS.icmpYes X3.here hx rfl (pc0 := 11) (pc' := 18) rfl (hb hby d5_11) rfl (flt hc11_4).2.1 (by decide) (by decide) k) ?_
      refine Gl.st (B := (T3.setTop (mkF m 19 L0 [(.int (0 : Int32))]))) (fun t k => XS.iconst X3.here hx rfl (hb hby d5_18) k) ?_
      have ev19_s0_5 : v19_s0_5 = (0 : Int32) := by rw [hv19_s0_5, if_neg hc11_4]
      rw [ev19_s0_5] at J11_5
      exact J11_5
  obtain ⟨fs, hr, hrun, hended, hW, hsame⟩ := X3.leave (v := some (.int (nar .boolean v19_s0_5))) (fun h => by rw [Bd.returns] at h; cases h)
  refine Gl.fin (retN X3 hx (t := .boolean) Bd.returns (by simp) (hb hby d5_19) hr) hrun hended ⟨_, _, rfl, ?_, ⟨_, rfl⟩, hW, hsame.mono (by decide) (by decide)⟩
  show Q5 Z a1 w_place_a1 w_this_0_a1 w_length_w_this_0_a1 h0 n0 _ T3.heap _
  rw [e3]
  exact ⟨(by subst hv19_s0_5; exact congrArg (fun z => some (Value.int z)) (own_nb rfl rfl)), N0, rfl⟩
theorem pn_0 : plainName "com/example/outcomery/outcomery/ReaderHasNextPinLaw" = true := by first | (simp [plainName, overriddenIn]; done) | decide +kernel
theorem pd_0_0 : parseMethodDescriptor "()V" = some ⟨[], none⟩ := by decide +kernel
theorem pd_0_1 : parseMethodDescriptor "(Ljava/lang/Object;)Ljava/lang/Object;" = some ⟨[(.object "java/lang/Object")], some (.object "java/lang/Object")⟩ := by decide +kernel
theorem pd_0_2 : parseMethodDescriptor "(Lcom/example/outcomery/outcomery/PackedNumbers;)V" = some ⟨[(.object "com/example/outcomery/outcomery/PackedNumbers")], none⟩ := by decide +kernel
theorem pd_0_3 : parseMethodDescriptor "()Z" = some ⟨[], some .boolean⟩ := by decide +kernel
theorem pd_0_4 : parseMethodDescriptor "(I)V" = some ⟨[.int], none⟩ := by decide +kernel
theorem pd_0_5 : parseMethodDescriptor "()I" = some ⟨[], some .int⟩ := by decide +kernel
theorem ef_0 (m : MethodId) (p1 : Int32) (p2 : Int32) (p3 : Int32) (p4 : Int32) : entryFrame m #[(.int p1), (.int p2), (.int p3), (.int p4)] maxLocals = mkF m 0 #[.val (.int p1), .val (.int p2), .val (.int p3), .val (.int p4), .unset, .unset, .unset, .unset, .unset, .unset] [] := by first | (simp [entryFrame, mkF, argsToLocals, Value.category, maxLocals]; done) | rfl
theorem own_0_hc103_52 (p2 : Int32) (y5_9_25 : Int32) (f42_40 : Int32) (r89_51 : Int32) (p3 : Int32) (y6_15_27 : Int32) (p4 : Int32) (y7_21_29 : Int32) (hy5_9_25 : y5_9_25 = (p2 &&& (2147483647 : Int32))) (hf42_40 : f42_40 = (own_F (0 : Int32) y5_9_25)) (hr89_51 : r89_51 = ((if (0 : Int32) < f42_40 then (1 : Int32) else (0 : Int32)))) (hy6_15_27 : y6_15_27 = (p3 &&& (2147483647 : Int32))) (hy7_21_29 : y7_21_29 = (p4 &&& (2147483647 : Int32))) (G0 : ¬ y5_9_25 < 0) (G1 : ¬ y6_15_27 < 0) (G2 : ¬ y7_21_29 < 0) (T0 : f42_40.toInt = (own_L y5_9_25).toInt) : r89_51 = (1 : Int32) := by
  have n0 := own_ln _ G0
  rw [hr89_51, if_pos (by rw [Int32.lt_iff_toInt_lt]; simp only [Int32.reduceToInt]; omega)]
theorem own_0_hc124_55 (p2 : Int32) (y5_9_25 : Int32) (f42_40 : Int32) (r110_54 : Int32) (p3 : Int32) (y6_15_27 : Int32) (p4 : Int32) (y7_21_29 : Int32) (hy5_9_25 : y5_9_25 = (p2 &&& (2147483647 : Int32))) (hf42_40 : f42_40 = (own_F (0 : Int32) y5_9_25)) (hr110_54 : r110_54 = ((if (0 : Int32) < f42_40 then (1 : Int32) else (0 : Int32)))) (hy6_15_27 : y6_15_27 = (p3 &&& (2147483647 : Int32))) (hy7_21_29 : y7_21_29 = (p4 &&& (2147483647 : Int32))) (G0 : ¬ y5_9_25 < 0) (G1 : ¬ y6_15_27 < 0) (G2 : ¬ y7_21_29 < 0) (T0 : f42_40.toInt = (own_L y5_9_25).toInt) : r110_54 = (1 : Int32) := by
  have n0 := own_ln _ G0
  rw [hr110_54, if_pos (by rw [Int32.lt_iff_toInt_lt]; simp only [Int32.reduceToInt]; omega)]
theorem own_0_hp137_64 (p2 : Int32) (y5_9_25 : Int32) (vl42_41 : List Value) (p3 : Int32) (y6_15_27 : Int32) (p4 : Int32) (y7_21_29 : Int32) (hy5_9_25 : y5_9_25 = (p2 &&& (2147483647 : Int32))) (hvl42_41 : vl42_41 = (own_E [] y5_9_25)) (hy6_15_27 : y6_15_27 = (p3 &&& (2147483647 : Int32))) (hy7_21_29 : y7_21_29 = (p4 &&& (2147483647 : Int32))) (G0 : ¬ y5_9_25 < 0) (G1 : ¬ y6_15_27 < 0) (G2 : ¬ y7_21_29 < 0) (X0 : vl42_41 = own_E [] y5_9_25) : ∀ v ∈ vl42_41, ∃ x, v = .int x := by
  rw [X0]
  exact own_EV _ G0
theorem own_0_hp137_65 (p2 : Int32) (y5_9_25 : Int32) (vl42_41 : List Value) (p3 : Int32) (y6_15_27 : Int32) (p4 : Int32) (y7_21_29 : Int32) (hy5_9_25 : y5_9_25 = (p2 &&& (2147483647 : Int32))) (hvl42_41 : vl42_41 = (own_E [] y5_9_25)) (hy6_15_27 : y6_15_27 = (p3 &&& (2147483647 : Int32))) (hy7_21_29 : y7_21_29 = (p4 &&& (2147483647 : Int32))) (G0 : ¬ y5_9_25 < 0) (G1 : ¬ y6_15_27 < 0) (G2 : ¬ y7_21_29 < 0) (X0 : vl42_41 = own_E [] y5_9_25) : ¬ ((own_at vl42_41 (0 : Int32) &&& (255 : Int32)) < (128 : Int32)) → ¬ ((own_at vl42_41 ((0 : Int32) + (1 : Int32)) &&& (255 : Int32)) < (128 : Int32)) → ¬ ((own_at vl42_41 (((0 : Int32) + (1 : Int32)) + (1 : Int32)) &&& (255 : Int32)) < (128 : Int32)) → ¬ ((own_at vl42_41 ((((0 : Int32) + (1 : Int32)) + (1 : Int32)) + (1 : Int32)) &&& (255 : Int32)) < (128 : Int32)) → (own_at vl42_41 (((((0 : Int32) + (1 : Int32)) + (1 : Int32)) + (1 : Int32)) + (1 : Int32)) &&& (255 : Int32)) < (128 : Int32) := by
  have n0 := own_ln _ G0
  have q := own_next vl42_41 [] [] y5_9_25 (0 : Int32) G0 (by rw [X0, List.nil_append, List.append_nil]) (by decide) (by decide)
  exact q.1
theorem own_0_U0 (p2 : Int32) (y5_9_25 : Int32) (vl42_41 : List Value) (f137_68 : Int32) (p3 : Int32) (y6_15_27 : Int32) (p4 : Int32) (y7_21_29 : Int32) (hy5_9_25 : y5_9_25 = (p2 &&& (2147483647 : Int32))) (hvl42_41 : vl42_41 = (own_E [] y5_9_25)) (hf137_68 : f137_68 = (own_P vl42_41 (0 : Int32))) (hy6_15_27 : y6_15_27 = (p3 &&& (2147483647 : Int32))) (hy7_21_29 : y7_21_29 = (p4 &&& (2147483647 : Int32))) (G0 : ¬ y5_9_25 < 0) (G1 : ¬ y6_15_27 < 0) (G2 : ¬ y7_21_29 < 0) (X0 : vl42_41 = own_E [] y5_9_25) : f137_68.toInt = (own_L y5_9_25).toInt := by
  have n0 := own_ln _ G0
  have q := own_next vl42_41 [] [] y5_9_25 (0 : Int32) G0 (by rw [X0, List.nil_append, List.append_nil]) (by decide) (by decide)
  rw [hf137_68, q.2.2, Int32.zero_add]
theorem own_0_hc142_70 (p2 : Int32) (y5_9_25 : Int32) (vl42_41 : List Value) (r137_69 : Int32) (p3 : Int32) (y6_15_27 : Int32) (p4 : Int32) (y7_21_29 : Int32) (hy5_9_25 : y5_9_25 = (p2 &&& (2147483647 : Int32))) (hvl42_41 : vl42_41 = (own_E [] y5_9_25)) (hr137_69 : r137_69 = (own_N vl42_41 (0 : Int32))) (hy6_15_27 : y6_15_27 = (p3 &&& (2147483647 : Int32))) (hy7_21_29 : y7_21_29 = (p4 &&& (2147483647 : Int32))) (G0 : ¬ y5_9_25 < 0) (G1 : ¬ y6_15_27 < 0) (G2 : ¬ y7_21_29 < 0) (X0 : vl42_41 = own_E [] y5_9_25) : r137_69 = y5_9_25 := by
  have n0 := own_ln _ G0
  have q := own_next vl42_41 [] [] y5_9_25 (0 : Int32) G0 (by rw [X0, List.nil_append, List.append_nil]) (by decide) (by decide)
  rw [hr137_69]
  exact q.2.1
theorem own_0_hc163_74 (p2 : Int32) (y5_9_25 : Int32) (vl42_41 : List Value) (f137_68 : Int32) (f42_40 : Int32) (r149_73 : Int32) (p3 : Int32) (y6_15_27 : Int32) (p4 : Int32) (y7_21_29 : Int32) (hy5_9_25 : y5_9_25 = (p2 &&& (2147483647 : Int32))) (hvl42_41 : vl42_41 = (own_E [] y5_9_25)) (hf137_68 : f137_68 = (own_P vl42_41 (0 : Int32))) (hf42_40 : f42_40 = (own_F (0 : Int32) y5_9_25)) (hr149_73 : r149_73 = ((if f137_68 < f42_40 then (1 : Int32) else (0 : Int32)))) (hy6_15_27 : y6_15_27 = (p3 &&& (2147483647 : Int32))) (hy7_21_29 : y7_21_29 = (p4 &&& (2147483647 : Int32))) (G0 : ¬ y5_9_25 < 0) (G1 : ¬ y6_15_27 < 0) (G2 : ¬ y7_21_29 < 0) (T0 : f42_40.toInt = (own_L y5_9_25).toInt) (U0 : f137_68.toInt = (own_L y5_9_25).toInt) : r149_73 = (0 : Int32) := by
  have n0 := own_ln _ G0
  rw [hr149_73, if_neg (by rw [Int32.lt_iff_toInt_lt]; omega)]
theorem own_0_hp55_94 (p2 : Int32) (y5_9_75 : Int32) (f42_90 : Int32) (p3 : Int32) (y6_15_77 : Int32) (p4 : Int32) (y7_21_79 : Int32) (vl42_91 : List Value) (hy5_9_75 : y5_9_75 = (p2 &&& (2147483647 : Int32))) (hf42_90 : f42_90 = (own_F (0 : Int32) y5_9_75)) (hy6_15_77 : y6_15_77 = (p3 &&& (2147483647 : Int32))) (hy7_21_79 : y7_21_79 = (p4 &&& (2147483647 : Int32))) (hvl42_91 : vl42_91 = (own_E [] y5_9_75)) (G0 : ¬ y5_9_75 < 0) (G1 : ¬ y6_15_77 < 0) (G2 : ¬ y7_21_79 < 0) (T0 : f42_90.toInt = (own_L y5_9_75).toInt) (X0 : vl42_91 = own_E [] y5_9_75) : ¬ f42_90 < 0 := by
  have n0 := own_ln _ G0
  exact own_le0 (by omega)
theorem own_0_hp55_95 (p2 : Int32) (y5_9_75 : Int32) (f42_90 : Int32) (p3 : Int32) (y6_15_77 : Int32) (p4 : Int32) (y7_21_79 : Int32) (vl42_91 : List Value) (hy5_9_75 : y5_9_75 = (p2 &&& (2147483647 : Int32))) (hf42_90 : f42_90 = (own_F (0 : Int32) y5_9_75)) (hy6_15_77 : y6_15_77 = (p3 &&& (2147483647 : Int32))) (hy7_21_79 : y7_21_79 = (p4 &&& (2147483647 : Int32))) (hvl42_91 : vl42_91 = (own_E [] y5_9_75)) (G0 : ¬ y5_9_75 < 0) (G1 : ¬ y6_15_77 < 0) (G2 : ¬ y7_21_79 < 0) (T0 : f42_90.toInt = (own_L y5_9_75).toInt) (X0 : vl42_91 = own_E [] y5_9_75) : f42_90 < 58 := by
  have n0 := own_ln _ G0
  rw [Int32.lt_iff_toInt_lt]
  simp only [Int32.reduceToInt]
  omega
theorem own_0_hp55_96 (p2 : Int32) (y5_9_75 : Int32) (vl42_91 : List Value) (f42_90 : Int32) (p3 : Int32) (y6_15_77 : Int32) (p4 : Int32) (y7_21_79 : Int32) (hy5_9_75 : y5_9_75 = (p2 &&& (2147483647 : Int32))) (hvl42_91 : vl42_91 = (own_E [] y5_9_75)) (hf42_90 : f42_90 = (own_F (0 : Int32) y5_9_75)) (hy6_15_77 : y6_15_77 = (p3 &&& (2147483647 : Int32))) (hy7_21_79 : y7_21_79 = (p4 &&& (2147483647 : Int32))) (G0 : ¬ y5_9_75 < 0) (G1 : ¬ y6_15_77 < 0) (G2 : ¬ y7_21_79 < 0) (T0 : f42_90.toInt = (own_L y5_9_75).toInt) (X0 : vl42_91 = own_E [] y5_9_75) : vl42_91.length = f42_90.toNatClampNeg := by
  have n0 := own_ln _ G0
  have c := own_cl (x := f42_90) (by omega)
  rw [X0]
  omega
theorem own_0_T1 (p2 : Int32) (y5_9_75 : Int32) (f42_90 : Int32) (p3 : Int32) (y6_15_77 : Int32) (f55_100 : Int32) (p4 : Int32) (y7_21_79 : Int32) (hy5_9_75 : y5_9_75 = (p2 &&& (2147483647 : Int32))) (hf42_90 : f42_90 = (own_F (0 : Int32) y5_9_75)) (hy6_15_77 : y6_15_77 = (p3 &&& (2147483647 : Int32))) (hf55_100 : f55_100 = (own_F f42_90 y6_15_77)) (hy7_21_79 : y7_21_79 = (p4 &&& (2147483647 : Int32))) (G0 : ¬ y5_9_75 < 0) (G1 : ¬ y6_15_77 < 0) (G2 : ¬ y7_21_79 < 0) (T0 : f42_90.toInt = (own_L y5_9_75).toInt) : f55_100.toInt = (own_L y5_9_75).toInt + (own_L y6_15_77).toInt := by
  have n0 := own_ln _ G0
  have n1 := own_ln _ G1
  have t := own_t2 _ _ _ (by omega) (by omega) G1 hf55_100
  omega
theorem own_0_X1 (p2 : Int32) (y5_9_75 : Int32) (vl42_91 : List Value) (p3 : Int32) (y6_15_77 : Int32) (vl55_101 : List Value) (p4 : Int32) (y7_21_79 : Int32) (hy5_9_75 : y5_9_75 = (p2 &&& (2147483647 : Int32))) (hvl42_91 : vl42_91 = (own_E [] y5_9_75)) (hy6_15_77 : y6_15_77 = (p3 &&& (2147483647 : Int32))) (hvl55_101 : vl55_101 = (own_E vl42_91 y6_15_77)) (hy7_21_79 : y7_21_79 = (p4 &&& (2147483647 : Int32))) (G0 : ¬ y5_9_75 < 0) (G1 : ¬ y6_15_77 < 0) (G2 : ¬ y7_21_79 < 0) (X0 : vl42_91 = own_E [] y5_9_75) : vl55_101 = own_E [] y5_9_75 ++ (own_E [] y6_15_77) := by
  rw [hvl55_101, own_EE _ _ G1, X0]
theorem own_0_hc103_112 (p2 : Int32) (y5_9_75 : Int32) (f42_90 : Int32) (p3 : Int32) (y6_15_77 : Int32) (f55_100 : Int32) (r89_111 : Int32) (p4 : Int32) (y7_21_79 : Int32) (hy5_9_75 : y5_9_75 = (p2 &&& (2147483647 : Int32))) (hf42_90 : f42_90 = (own_F (0 : Int32) y5_9_75)) (hy6_15_77 : y6_15_77 = (p3 &&& (2147483647 : Int32))) (hf55_100 : f55_100 = (own_F f42_90 y6_15_77)) (hr89_111 : r89_111 = ((if (0 : Int32) < f55_100 then (1 : Int32) else (0 : Int32)))) (hy7_21_79 : y7_21_79 = (p4 &&& (2147483647 : Int32))) (G0 : ¬ y5_9_75 < 0) (G1 : ¬ y6_15_77 < 0) (G2 : ¬ y7_21_79 < 0) (T1 : f55_100.toInt = (own_L y5_9_75).toInt + (own_L y6_15_77).toInt) : r89_111 = (1 : Int32) := by
  have n0 := own_ln _ G0
  have n1 := own_ln _ G1
  rw [hr89_111, if_pos (by rw [Int32.lt_iff_toInt_lt]; simp only [Int32.reduceToInt]; omega)]
theorem own_0_hc124_115 (p2 : Int32) (y5_9_75 : Int32) (f42_90 : Int32) (p3 : Int32) (y6_15_77 : Int32) (f55_100 : Int32) (r110_114 : Int32) (p4 : Int32) (y7_21_79 : Int32) (hy5_9_75 : y5_9_75 = (p2 &&& (2147483647 : Int32))) (hf42_90 : f42_90 = (own_F (0 : Int32) y5_9_75)) (hy6_15_77 : y6_15_77 = (p3 &&& (2147483647 : Int32))) (hf55_100 : f55_100 = (own_F f42_90 y6_15_77)) (hr110_114 : r110_114 = ((if (0 : Int32) < f55_100 then (1 : Int32) else (0 : Int32)))) (hy7_21_79 : y7_21_79 = (p4 &&& (2147483647 : Int32))) (G0 : ¬ y5_9_75 < 0) (G1 : ¬ y6_15_77 < 0) (G2 : ¬ y7_21_79 < 0) (T1 : f55_100.toInt = (own_L y5_9_75).toInt + (own_L y6_15_77).toInt) : r110_114 = (1 : Int32) := by
  have n0 := own_ln _ G0
  have n1 := own_ln _ G1
  rw [hr110_114, if_pos (by rw [Int32.lt_iff_toInt_lt]; simp only [Int32.reduceToInt]; omega)]
theorem own_0_hp137_124 (p2 : Int32) (y5_9_75 : Int32) (vl42_91 : List Value) (p3 : Int32) (y6_15_77 : Int32) (vl55_101 : List Value) (p4 : Int32) (y7_21_79 : Int32) (hy5_9_75 : y5_9_75 = (p2 &&& (2147483647 : Int32))) (hvl42_91 : vl42_91 = (own_E [] y5_9_75)) (hy6_15_77 : y6_15_77 = (p3 &&& (2147483647 : Int32))) (hvl55_101 : vl55_101 = (own_E vl42_91 y6_15_77)) (hy7_21_79 : y7_21_79 = (p4 &&& (2147483647 : Int32))) (G0 : ¬ y5_9_75 < 0) (G1 : ¬ y6_15_77 < 0) (G2 : ¬ y7_21_79 < 0) (X1 : vl55_101 = own_E [] y5_9_75 ++ (own_E [] y6_15_77)) : ∀ v ∈ vl55_101, ∃ x, v = .int x := by
  rw [X1]
  intro v hv
  simp only [List.mem_append] at hv
  rcases hv with q | q
  · exact own_EV _ G0 v q
  · exact own_EV _ G1 v q
theorem own_0_hp137_125 (p2 : Int32) (y5_9_75 : Int32) (vl42_91 : List Value) (p3 : Int32) (y6_15_77 : Int32) (vl55_101 : List Value) (p4 : Int32) (y7_21_79 : Int32) (hy5_9_75 : y5_9_75 = (p2 &&& (2147483647 : Int32))) (hvl42_91 : vl42_91 = (own_E [] y5_9_75)) (hy6_15_77 : y6_15_77 = (p3 &&& (2147483647 : Int32))) (hvl55_101 : vl55_101 = (own_E vl42_91 y6_15_77)) (hy7_21_79 : y7_21_79 = (p4 &&& (2147483647 : Int32))) (G0 : ¬ y5_9_75 < 0) (G1 : ¬ y6_15_77 < 0) (G2 : ¬ y7_21_79 < 0) (X1 : vl55_101 = own_E [] y5_9_75 ++ (own_E [] y6_15_77)) : ¬ ((own_at vl55_101 (0 : Int32) &&& (255 : Int32)) < (128 : Int32)) → ¬ ((own_at vl55_101 ((0 : Int32) + (1 : Int32)) &&& (255 : Int32)) < (128 : Int32)) → ¬ ((own_at vl55_101 (((0 : Int32) + (1 : Int32)) + (1 : Int32)) &&& (255 : Int32)) < (128 : Int32)) → ¬ ((own_at vl55_101 ((((0 : Int32) + (1 : Int32)) + (1 : Int32)) + (1 : Int32)) &&& (255 : Int32)) < (128 : Int32)) → (own_at vl55_101 (((((0 : Int32) + (1 : Int32)) + (1 : Int32)) + (1 : Int32)) + (1 : Int32)) &&& (255 : Int32)) < (128 : Int32) := by
  have n0 := own_ln _ G0
  have n1 := own_ln _ G1
  have q := own_next vl55_101 [] (own_E [] y6_15_77) y5_9_75 (0 : Int32) G0 (by rw [X1, List.nil_append]) (by decide) (by decide)
  exact q.1
theorem own_0_U0' (p2 : Int32) (y5_9_75 : Int32) (vl42_91 : List Value) (p3 : Int32) (y6_15_77 : Int32) (vl55_101 : List Value) (f137_128 : Int32) (p4 : Int32) (y7_21_79 : Int32) (hy5_9_75 : y5_9_75 = (p2 &&& (2147483647 : Int32))) (hvl42_91 : vl42_91 = (own_E [] y5_9_75)) (hy6_15_77 : y6_15_77 = (p3 &&& (2147483647 : Int32))) (hvl55_101 : vl55_101 = (own_E vl42_91 y6_15_77)) (hf137_128 : f137_128 = (own_P vl55_101 (0 : Int32))) (hy7_21_79 : y7_21_79 = (p4 &&& (2147483647 : Int32))) (G0 : ¬ y5_9_75 < 0) (G1 : ¬ y6_15_77 < 0) (G2 : ¬ y7_21_79 < 0) (X1 : vl55_101 = own_E [] y5_9_75 ++ (own_E [] y6_15_77)) : f137_128.toInt = (own_L y5_9_75).toInt := by
  have n0 := own_ln _ G0
  have n1 := own_ln _ G1
  have q := own_next vl55_101 [] (own_E [] y6_15_77) y5_9_75 (0 : Int32) G0 (by rw [X1, List.nil_append]) (by decide) (by decide)
  rw [hf137_128, q.2.2, Int32.zero_add]
theorem own_0_hc142_130 (p2 : Int32) (y5_9_75 : Int32) (vl42_91 : List Value) (p3 : Int32) (y6_15_77 : Int32) (vl55_101 : List Value) (r137_129 : Int32) (p4 : Int32) (y7_21_79 : Int32) (hy5_9_75 : y5_9_75 = (p2 &&& (2147483647 : Int32))) (hvl42_91 : vl42_91 = (own_E [] y5_9_75)) (hy6_15_77 : y6_15_77 = (p3 &&& (2147483647 : Int32))) (hvl55_101 : vl55_101 = (own_E vl42_91 y6_15_77)) (hr137_129 : r137_129 = (own_N vl55_101 (0 : Int32))) (hy7_21_79 : y7_21_79 = (p4 &&& (2147483647 : Int32))) (G0 : ¬ y5_9_75 < 0) (G1 : ¬ y6_15_77 < 0) (G2 : ¬ y7_21_79 < 0) (X1 : vl55_101 = own_E [] y5_9_75 ++ (own_E [] y6_15_77)) : r137_129 = y5_9_75 := by
  have n0 := own_ln _ G0
  have n1 := own_ln _ G1
  have q := own_next vl55_101 [] (own_E [] y6_15_77) y5_9_75 (0 : Int32) G0 (by rw [X1, List.nil_append]) (by decide) (by decide)
  rw [hr137_129]
  exact q.2.1
theorem own_0_hc163_134 (p2 : Int32) (y5_9_75 : Int32) (vl42_91 : List Value) (p3 : Int32) (y6_15_77 : Int32) (vl55_101 : List Value) (f137_128 : Int32) (f42_90 : Int32) (f55_100 : Int32) (r149_133 : Int32) (p4 : Int32) (y7_21_79 : Int32) (hy5_9_75 : y5_9_75 = (p2 &&& (2147483647 : Int32))) (hvl42_91 : vl42_91 = (own_E [] y5_9_75)) (hy6_15_77 : y6_15_77 = (p3 &&& (2147483647 : Int32))) (hvl55_101 : vl55_101 = (own_E vl42_91 y6_15_77)) (hf137_128 : f137_128 = (own_P vl55_101 (0 : Int32))) (hf42_90 : f42_90 = (own_F (0 : Int32) y5_9_75)) (hf55_100 : f55_100 = (own_F f42_90 y6_15_77)) (hr149_133 : r149_133 = ((if f137_128 < f55_100 then (1 : Int32) else (0 : Int32)))) (hy7_21_79 : y7_21_79 = (p4 &&& (2147483647 : Int32))) (G0 : ¬ y5_9_75 < 0) (G1 : ¬ y6_15_77 < 0) (G2 : ¬ y7_21_79 < 0) (T1 : f55_100.toInt = (own_L y5_9_75).toInt + (own_L y6_15_77).toInt) (U0 : f137_128.toInt = (own_L y5_9_75).toInt) : r149_133 = (1 : Int32) := by
  have n0 := own_ln _ G0
  have n1 := own_ln _ G1
  rw [hr149_133, if_pos (by rw [Int32.lt_iff_toInt_lt]; omega)]
theorem own_0_hp176_139 (p2 : Int32) (y5_9_75 : Int32) (vl42_91 : List Value) (p3 : Int32) (y6_15_77 : Int32) (vl55_101 : List Value) (f137_128 : Int32) (p4 : Int32) (y7_21_79 : Int32) (hy5_9_75 : y5_9_75 = (p2 &&& (2147483647 : Int32))) (hvl42_91 : vl42_91 = (own_E [] y5_9_75)) (hy6_15_77 : y6_15_77 = (p3 &&& (2147483647 : Int32))) (hvl55_101 : vl55_101 = (own_E vl42_91 y6_15_77)) (hf137_128 : f137_128 = (own_P vl55_101 (0 : Int32))) (hy7_21_79 : y7_21_79 = (p4 &&& (2147483647 : Int32))) (G0 : ¬ y5_9_75 < 0) (G1 : ¬ y6_15_77 < 0) (G2 : ¬ y7_21_79 < 0) (X1 : vl55_101 = own_E [] y5_9_75 ++ (own_E [] y6_15_77)) (U0 : f137_128.toInt = (own_L y5_9_75).toInt) : ¬ f137_128 < 0 := by
  have n0 := own_ln _ G0
  have n1 := own_ln _ G1
  exact own_le0 (by omega)
theorem own_0_hp176_140 (p2 : Int32) (y5_9_75 : Int32) (vl42_91 : List Value) (p3 : Int32) (y6_15_77 : Int32) (vl55_101 : List Value) (f137_128 : Int32) (p4 : Int32) (y7_21_79 : Int32) (hy5_9_75 : y5_9_75 = (p2 &&& (2147483647 : Int32))) (hvl42_91 : vl42_91 = (own_E [] y5_9_75)) (hy6_15_77 : y6_15_77 = (p3 &&& (2147483647 : Int32))) (hvl55_101 : vl55_101 = (own_E vl42_91 y6_15_77)) (hf137_128 : f137_128 = (own_P vl55_101 (0 : Int32))) (hy7_21_79 : y7_21_79 = (p4 &&& (2147483647 : Int32))) (G0 : ¬ y5_9_75 < 0) (G1 : ¬ y6_15_77 < 0) (G2 : ¬ y7_21_79 < 0) (X1 : vl55_101 = own_E [] y5_9_75 ++ (own_E [] y6_15_77)) (U0 : f137_128.toInt = (own_L y5_9_75).toInt) : f137_128 < 58 := by
  have n0 := own_ln _ G0
  have n1 := own_ln _ G1
  rw [Int32.lt_iff_toInt_lt]
  simp only [Int32.reduceToInt]
  omega
theorem own_0_hp176_141 (p2 : Int32) (y5_9_75 : Int32) (vl42_91 : List Value) (p3 : Int32) (y6_15_77 : Int32) (vl55_101 : List Value) (p4 : Int32) (y7_21_79 : Int32) (f137_128 : Int32) (hy5_9_75 : y5_9_75 = (p2 &&& (2147483647 : Int32))) (hvl42_91 : vl42_91 = (own_E [] y5_9_75)) (hy6_15_77 : y6_15_77 = (p3 &&& (2147483647 : Int32))) (hvl55_101 : vl55_101 = (own_E vl42_91 y6_15_77)) (hy7_21_79 : y7_21_79 = (p4 &&& (2147483647 : Int32))) (hf137_128 : f137_128 = (own_P vl55_101 (0 : Int32))) (G0 : ¬ y5_9_75 < 0) (G1 : ¬ y6_15_77 < 0) (G2 : ¬ y7_21_79 < 0) (X1 : vl55_101 = own_E [] y5_9_75 ++ (own_E [] y6_15_77)) (U0 : f137_128.toInt = (own_L y5_9_75).toInt) : ∀ v ∈ vl55_101, ∃ x, v = .int x := by
  rw [X1]
  intro v hv
  simp only [List.mem_append] at hv
  rcases hv with q | q
  · exact own_EV _ G0 v q
  · exact own_EV _ G1 v q
theorem own_0_hp176_142 (p2 : Int32) (y5_9_75 : Int32) (vl42_91 : List Value) (p3 : Int32) (y6_15_77 : Int32) (vl55_101 : List Value) (f137_128 : Int32) (p4 : Int32) (y7_21_79 : Int32) (hy5_9_75 : y5_9_75 = (p2 &&& (2147483647 : Int32))) (hvl42_91 : vl42_91 = (own_E [] y5_9_75)) (hy6_15_77 : y6_15_77 = (p3 &&& (2147483647 : Int32))) (hvl55_101 : vl55_101 = (own_E vl42_91 y6_15_77)) (hf137_128 : f137_128 = (own_P vl55_101 (0 : Int32))) (hy7_21_79 : y7_21_79 = (p4 &&& (2147483647 : Int32))) (G0 : ¬ y5_9_75 < 0) (G1 : ¬ y6_15_77 < 0) (G2 : ¬ y7_21_79 < 0) (X1 : vl55_101 = own_E [] y5_9_75 ++ (own_E [] y6_15_77)) (U0 : f137_128.toInt = (own_L y5_9_75).toInt) : ¬ ((own_at vl55_101 f137_128 &&& (255 : Int32)) < (128 : Int32)) → ¬ ((own_at vl55_101 (f137_128 + (1 : Int32)) &&& (255 : Int32)) < (128 : Int32)) → ¬ ((own_at vl55_101 ((f137_128 + (1 : Int32)) + (1 : Int32)) &&& (255 : Int32)) < (128 : Int32)) → ¬ ((own_at vl55_101 (((f137_128 + (1 : Int32)) + (1 : Int32)) + (1 : Int32)) &&& (255 : Int32)) < (128 : Int32)) → (own_at vl55_101 ((((f137_128 + (1 : Int32)) + (1 : Int32)) + (1 : Int32)) + (1 : Int32)) &&& (255 : Int32)) < (128 : Int32) := by
  have n0 := own_ln _ G0
  have n1 := own_ln _ G1
  have q := own_next vl55_101 (own_E [] y5_9_75) [] y6_15_77 f137_128 G1 (by rw [X1, List.append_nil]) (by omega) (by omega)
  exact q.1
theorem own_0_U1 (p2 : Int32) (y5_9_75 : Int32) (vl42_91 : List Value) (p3 : Int32) (y6_15_77 : Int32) (vl55_101 : List Value) (f137_128 : Int32) (f176_145 : Int32) (p4 : Int32) (y7_21_79 : Int32) (hy5_9_75 : y5_9_75 = (p2 &&& (2147483647 : Int32))) (hvl42_91 : vl42_91 = (own_E [] y5_9_75)) (hy6_15_77 : y6_15_77 = (p3 &&& (2147483647 : Int32))) (hvl55_101 : vl55_101 = (own_E vl42_91 y6_15_77)) (hf137_128 : f137_128 = (own_P vl55_101 (0 : Int32))) (hf176_145 : f176_145 = (own_P vl55_101 f137_128)) (hy7_21_79 : y7_21_79 = (p4 &&& (2147483647 : Int32))) (G0 : ¬ y5_9_75 < 0) (G1 : ¬ y6_15_77 < 0) (G2 : ¬ y7_21_79 < 0) (X1 : vl55_101 = own_E [] y5_9_75 ++ (own_E [] y6_15_77)) (U0 : f137_128.toInt = (own_L y5_9_75).toInt) : f176_145.toInt = (own_L y5_9_75).toInt + (own_L y6_15_77).toInt := by
  have n0 := own_ln _ G0
  have n1 := own_ln _ G1
  have q := own_next vl55_101 (own_E [] y5_9_75) [] y6_15_77 f137_128 G1 (by rw [X1, List.append_nil]) (by omega) (by omega)
  rw [hf176_145, q.2.2, own_ad _ _ (by omega) (by omega) G1]
  omega
theorem own_0_hc181_147 (p2 : Int32) (y5_9_75 : Int32) (vl42_91 : List Value) (p3 : Int32) (y6_15_77 : Int32) (vl55_101 : List Value) (f137_128 : Int32) (r176_146 : Int32) (p4 : Int32) (y7_21_79 : Int32) (hy5_9_75 : y5_9_75 = (p2 &&& (2147483647 : Int32))) (hvl42_91 : vl42_91 = (own_E [] y5_9_75)) (hy6_15_77 : y6_15_77 = (p3 &&& (2147483647 : Int32))) (hvl55_101 : vl55_101 = (own_E vl42_91 y6_15_77)) (hf137_128 : f137_128 = (own_P vl55_101 (0 : Int32))) (hr176_146 : r176_146 = (own_N vl55_101 f137_128)) (hy7_21_79 : y7_21_79 = (p4 &&& (2147483647 : Int32))) (G0 : ¬ y5_9_75 < 0) (G1 : ¬ y6_15_77 < 0) (G2 : ¬ y7_21_79 < 0) (X1 : vl55_101 = own_E [] y5_9_75 ++ (own_E [] y6_15_77)) (U0 : f137_128.toInt = (own_L y5_9_75).toInt) : r176_146 = y6_15_77 := by
  have n0 := own_ln _ G0
  have n1 := own_ln _ G1
  have q := own_next vl55_101 (own_E [] y5_9_75) [] y6_15_77 f137_128 G1 (by rw [X1, List.append_nil]) (by omega) (by omega)
  rw [hr176_146]
  exact q.2.1
theorem own_0_hc202_151 (p2 : Int32) (y5_9_75 : Int32) (vl42_91 : List Value) (p3 : Int32) (y6_15_77 : Int32) (vl55_101 : List Value) (f137_128 : Int32) (f176_145 : Int32) (f42_90 : Int32) (f55_100 : Int32) (r188_150 : Int32) (p4 : Int32) (y7_21_79 : Int32) (hy5_9_75 : y5_9_75 = (p2 &&& (2147483647 : Int32))) (hvl42_91 : vl42_91 = (own_E [] y5_9_75)) (hy6_15_77 : y6_15_77 = (p3 &&& (2147483647 : Int32))) (hvl55_101 : vl55_101 = (own_E vl42_91 y6_15_77)) (hf137_128 : f137_128 = (own_P vl55_101 (0 : Int32))) (hf176_145 : f176_145 = (own_P vl55_101 f137_128)) (hf42_90 : f42_90 = (own_F (0 : Int32) y5_9_75)) (hf55_100 : f55_100 = (own_F f42_90 y6_15_77)) (hr188_150 : r188_150 = ((if f176_145 < f55_100 then (1 : Int32) else (0 : Int32)))) (hy7_21_79 : y7_21_79 = (p4 &&& (2147483647 : Int32))) (G0 : ¬ y5_9_75 < 0) (G1 : ¬ y6_15_77 < 0) (G2 : ¬ y7_21_79 < 0) (T1 : f55_100.toInt = (own_L y5_9_75).toInt + (own_L y6_15_77).toInt) (U1 : f176_145.toInt = (own_L y5_9_75).toInt + (own_L y6_15_77).toInt) : r188_150 = (0 : Int32) := by
  have n0 := own_ln _ G0
  have n1 := own_ln _ G1
  rw [hr188_150, if_neg (by rw [Int32.lt_iff_toInt_lt]; omega)]
theorem own_0_hp55_171 (p2 : Int32) (y5_9_152 : Int32) (f42_167 : Int32) (p3 : Int32) (y6_15_154 : Int32) (p4 : Int32) (y7_21_156 : Int32) (vl42_168 : List Value) (hy5_9_152 : y5_9_152 = (p2 &&& (2147483647 : Int32))) (hf42_167 : f42_167 = (own_F (0 : Int32) y5_9_152)) (hy6_15_154 : y6_15_154 = (p3 &&& (2147483647 : Int32))) (hy7_21_156 : y7_21_156 = (p4 &&& (2147483647 : Int32))) (hvl42_168 : vl42_168 = (own_E [] y5_9_152)) (G0 : ¬ y5_9_152 < 0) (G1 : ¬ y6_15_154 < 0) (G2 : ¬ y7_21_156 < 0) (T0 : f42_167.toInt = (own_L y5_9_152).toInt) (X0 : vl42_168 = own_E [] y5_9_152) : ¬ f42_167 < 0 := by
  have n0 := own_ln _ G0
  exact own_le0 (by omega)
theorem own_0_hp55_172 (p2 : Int32) (y5_9_152 : Int32) (f42_167 : Int32) (p3 : Int32) (y6_15_154 : Int32) (p4 : Int32) (y7_21_156 : Int32) (vl42_168 : List Value) (hy5_9_152 : y5_9_152 = (p2 &&& (2147483647 : Int32))) (hf42_167 : f42_167 = (own_F (0 : Int32) y5_9_152)) (hy6_15_154 : y6_15_154 = (p3 &&& (2147483647 : Int32))) (hy7_21_156 : y7_21_156 = (p4 &&& (2147483647 : Int32))) (hvl42_168 : vl42_168 = (own_E [] y5_9_152)) (G0 : ¬ y5_9_152 < 0) (G1 : ¬ y6_15_154 < 0) (G2 : ¬ y7_21_156 < 0) (T0 : f42_167.toInt = (own_L y5_9_152).toInt) (X0 : vl42_168 = own_E [] y5_9_152) : f42_167 < 58 := by
  have n0 := own_ln _ G0
  rw [Int32.lt_iff_toInt_lt]
  simp only [Int32.reduceToInt]
  omega
theorem own_0_hp55_173 (p2 : Int32) (y5_9_152 : Int32) (vl42_168 : List Value) (f42_167 : Int32) (p3 : Int32) (y6_15_154 : Int32) (p4 : Int32) (y7_21_156 : Int32) (hy5_9_152 : y5_9_152 = (p2 &&& (2147483647 : Int32))) (hvl42_168 : vl42_168 = (own_E [] y5_9_152)) (hf42_167 : f42_167 = (own_F (0 : Int32) y5_9_152)) (hy6_15_154 : y6_15_154 = (p3 &&& (2147483647 : Int32))) (hy7_21_156 : y7_21_156 = (p4 &&& (2147483647 : Int32))) (G0 : ¬ y5_9_152 < 0) (G1 : ¬ y6_15_154 < 0) (G2 : ¬ y7_21_156 < 0) (T0 : f42_167.toInt = (own_L y5_9_152).toInt) (X0 : vl42_168 = own_E [] y5_9_152) : vl42_168.length = f42_167.toNatClampNeg := by
  have n0 := own_ln _ G0
  have c := own_cl (x := f42_167) (by omega)
  rw [X0]
  omega
theorem own_0_T1' (p2 : Int32) (y5_9_152 : Int32) (f42_167 : Int32) (p3 : Int32) (y6_15_154 : Int32) (f55_177 : Int32) (p4 : Int32) (y7_21_156 : Int32) (hy5_9_152 : y5_9_152 = (p2 &&& (2147483647 : Int32))) (hf42_167 : f42_167 = (own_F (0 : Int32) y5_9_152)) (hy6_15_154 : y6_15_154 = (p3 &&& (2147483647 : Int32))) (hf55_177 : f55_177 = (own_F f42_167 y6_15_154)) (hy7_21_156 : y7_21_156 = (p4 &&& (2147483647 : Int32))) (G0 : ¬ y5_9_152 < 0) (G1 : ¬ y6_15_154 < 0) (G2 : ¬ y7_21_156 < 0) (T0 : f42_167.toInt = (own_L y5_9_152).toInt) : f55_177.toInt = (own_L y5_9_152).toInt + (own_L y6_15_154).toInt := by
  have n0 := own_ln _ G0
  have n1 := own_ln _ G1
  have t := own_t2 _ _ _ (by omega) (by omega) G1 hf55_177
  omega
theorem own_0_X1' (p2 : Int32) (y5_9_152 : Int32) (vl42_168 : List Value) (p3 : Int32) (y6_15_154 : Int32) (vl55_178 : List Value) (p4 : Int32) (y7_21_156 : Int32) (hy5_9_152 : y5_9_152 = (p2 &&& (2147483647 : Int32))) (hvl42_168 : vl42_168 = (own_E [] y5_9_152)) (hy6_15_154 : y6_15_154 = (p3 &&& (2147483647 : Int32))) (hvl55_178 : vl55_178 = (own_E vl42_168 y6_15_154)) (hy7_21_156 : y7_21_156 = (p4 &&& (2147483647 : Int32))) (G0 : ¬ y5_9_152 < 0) (G1 : ¬ y6_15_154 < 0) (G2 : ¬ y7_21_156 < 0) (X0 : vl42_168 = own_E [] y5_9_152) : vl55_178 = own_E [] y5_9_152 ++ (own_E [] y6_15_154) := by
  rw [hvl55_178, own_EE _ _ G1, X0]
theorem own_0_hp68_182 (p2 : Int32) (y5_9_152 : Int32) (f42_167 : Int32) (p3 : Int32) (y6_15_154 : Int32) (f55_177 : Int32) (p4 : Int32) (y7_21_156 : Int32) (vl42_168 : List Value) (vl55_178 : List Value) (hy5_9_152 : y5_9_152 = (p2 &&& (2147483647 : Int32))) (hf42_167 : f42_167 = (own_F (0 : Int32) y5_9_152)) (hy6_15_154 : y6_15_154 = (p3 &&& (2147483647 : Int32))) (hf55_177 : f55_177 = (own_F f42_167 y6_15_154)) (hy7_21_156 : y7_21_156 = (p4 &&& (2147483647 : Int32))) (hvl42_168 : vl42_168 = (own_E [] y5_9_152)) (hvl55_178 : vl55_178 = (own_E vl42_168 y6_15_154)) (G0 : ¬ y5_9_152 < 0) (G1 : ¬ y6_15_154 < 0) (G2 : ¬ y7_21_156 < 0) (T1 : f55_177.toInt = (own_L y5_9_152).toInt + (own_L y6_15_154).toInt) (X1 : vl55_178 = own_E [] y5_9_152 ++ (own_E [] y6_15_154)) : ¬ f55_177 < 0 := by
  have n0 := own_ln _ G0
  have n1 := own_ln _ G1
  exact own_le0 (by omega)
theorem own_0_hp68_183 (p2 : Int32) (y5_9_152 : Int32) (f42_167 : Int32) (p3 : Int32) (y6_15_154 : Int32) (f55_177 : Int32) (p4 : Int32) (y7_21_156 : Int32) (vl42_168 : List Value) (vl55_178 : List Value) (hy5_9_152 : y5_9_152 = (p2 &&& (2147483647 : Int32))) (hf42_167 : f42_167 = (own_F (0 : Int32) y5_9_152)) (hy6_15_154 : y6_15_154 = (p3 &&& (2147483647 : Int32))) (hf55_177 : f55_177 = (own_F f42_167 y6_15_154)) (hy7_21_156 : y7_21_156 = (p4 &&& (2147483647 : Int32))) (hvl42_168 : vl42_168 = (own_E [] y5_9_152)) (hvl55_178 : vl55_178 = (own_E vl42_168 y6_15_154)) (G0 : ¬ y5_9_152 < 0) (G1 : ¬ y6_15_154 < 0) (G2 : ¬ y7_21_156 < 0) (T1 : f55_177.toInt = (own_L y5_9_152).toInt + (own_L y6_15_154).toInt) (X1 : vl55_178 = own_E [] y5_9_152 ++ (own_E [] y6_15_154)) : f55_177 < 58 := by
  have n0 := own_ln _ G0
  have n1 := own_ln _ G1
  rw [Int32.lt_iff_toInt_lt]
  simp only [Int32.reduceToInt]
  omega
theorem own_0_hp68_184 (p2 : Int32) (y5_9_152 : Int32) (vl42_168 : List Value) (p3 : Int32) (y6_15_154 : Int32) (vl55_178 : List Value) (f42_167 : Int32) (f55_177 : Int32) (p4 : Int32) (y7_21_156 : Int32) (hy5_9_152 : y5_9_152 = (p2 &&& (2147483647 : Int32))) (hvl42_168 : vl42_168 = (own_E [] y5_9_152)) (hy6_15_154 : y6_15_154 = (p3 &&& (2147483647 : Int32))) (hvl55_178 : vl55_178 = (own_E vl42_168 y6_15_154)) (hf42_167 : f42_167 = (own_F (0 : Int32) y5_9_152)) (hf55_177 : f55_177 = (own_F f42_167 y6_15_154)) (hy7_21_156 : y7_21_156 = (p4 &&& (2147483647 : Int32))) (G0 : ¬ y5_9_152 < 0) (G1 : ¬ y6_15_154 < 0) (G2 : ¬ y7_21_156 < 0) (T1 : f55_177.toInt = (own_L y5_9_152).toInt + (own_L y6_15_154).toInt) (X1 : vl55_178 = own_E [] y5_9_152 ++ (own_E [] y6_15_154)) : vl55_178.length = f55_177.toNatClampNeg := by
  have n0 := own_ln _ G0
  have n1 := own_ln _ G1
  have c := own_cl (x := f55_177) (by omega)
  rw [X1]
  simp only [List.length_append]
  omega
theorem own_0_T2 (p2 : Int32) (y5_9_152 : Int32) (f42_167 : Int32) (p3 : Int32) (y6_15_154 : Int32) (f55_177 : Int32) (p4 : Int32) (y7_21_156 : Int32) (f68_187 : Int32) (hy5_9_152 : y5_9_152 = (p2 &&& (2147483647 : Int32))) (hf42_167 : f42_167 = (own_F (0 : Int32) y5_9_152)) (hy6_15_154 : y6_15_154 = (p3 &&& (2147483647 : Int32))) (hf55_177 : f55_177 = (own_F f42_167 y6_15_154)) (hy7_21_156 : y7_21_156 = (p4 &&& (2147483647 : Int32))) (hf68_187 : f68_187 = (own_F f55_177 y7_21_156)) (G0 : ¬ y5_9_152 < 0) (G1 : ¬ y6_15_154 < 0) (G2 : ¬ y7_21_156 < 0) (T1 : f55_177.toInt = (own_L y5_9_152).toInt + (own_L y6_15_154).toInt) : f68_187.toInt = (own_L y5_9_152).toInt + (own_L y6_15_154).toInt + (own_L y7_21_156).toInt := by
  have n0 := own_ln _ G0
  have n1 := own_ln _ G1
  have n2 := own_ln _ G2
  have t := own_t2 _ _ _ (by omega) (by omega) G2 hf68_187
  omega
theorem own_0_X2 (p2 : Int32) (y5_9_152 : Int32) (vl42_168 : List Value) (p3 : Int32) (y6_15_154 : Int32) (vl55_178 : List Value) (p4 : Int32) (y7_21_156 : Int32) (vl68_188 : List Value) (hy5_9_152 : y5_9_152 = (p2 &&& (2147483647 : Int32))) (hvl42_168 : vl42_168 = (own_E [] y5_9_152)) (hy6_15_154 : y6_15_154 = (p3 &&& (2147483647 : Int32))) (hvl55_178 : vl55_178 = (own_E vl42_168 y6_15_154)) (hy7_21_156 : y7_21_156 = (p4 &&& (2147483647 : Int32))) (hvl68_188 : vl68_188 = (own_E vl55_178 y7_21_156)) (G0 : ¬ y5_9_152 < 0) (G1 : ¬ y6_15_154 < 0) (G2 : ¬ y7_21_156 < 0) (X1 : vl55_178 = own_E [] y5_9_152 ++ (own_E [] y6_15_154)) : vl68_188 = own_E [] y5_9_152 ++ (own_E [] y6_15_154 ++ (own_E [] y7_21_156)) := by
  rw [hvl68_188, own_EE _ _ G2, X1]
  simp only [List.append_assoc]
theorem own_0_hc103_199 (p2 : Int32) (y5_9_152 : Int32) (f42_167 : Int32) (p3 : Int32) (y6_15_154 : Int32) (f55_177 : Int32) (p4 : Int32) (y7_21_156 : Int32) (f68_187 : Int32) (r89_198 : Int32) (hy5_9_152 : y5_9_152 = (p2 &&& (2147483647 : Int32))) (hf42_167 : f42_167 = (own_F (0 : Int32) y5_9_152)) (hy6_15_154 : y6_15_154 = (p3 &&& (2147483647 : Int32))) (hf55_177 : f55_177 = (own_F f42_167 y6_15_154)) (hy7_21_156 : y7_21_156 = (p4 &&& (2147483647 : Int32))) (hf68_187 : f68_187 = (own_F f55_177 y7_21_156)) (hr89_198 : r89_198 = ((if (0 : Int32) < f68_187 then (1 : Int32) else (0 : Int32)))) (G0 : ¬ y5_9_152 < 0) (G1 : ¬ y6_15_154 < 0) (G2 : ¬ y7_21_156 < 0) (T2 : f68_187.toInt = (own_L y5_9_152).toInt + (own_L y6_15_154).toInt + (own_L y7_21_156).toInt) : r89_198 = (1 : Int32) := by
  have n0 := own_ln _ G0
  have n1 := own_ln _ G1
  have n2 := own_ln _ G2
  rw [hr89_198, if_pos (by rw [Int32.lt_iff_toInt_lt]; simp only [Int32.reduceToInt]; omega)]
theorem own_0_hc124_202 (p2 : Int32) (y5_9_152 : Int32) (f42_167 : Int32) (p3 : Int32) (y6_15_154 : Int32) (f55_177 : Int32) (p4 : Int32) (y7_21_156 : Int32) (f68_187 : Int32) (r110_201 : Int32) (hy5_9_152 : y5_9_152 = (p2 &&& (2147483647 : Int32))) (hf42_167 : f42_167 = (own_F (0 : Int32) y5_9_152)) (hy6_15_154 : y6_15_154 = (p3 &&& (2147483647 : Int32))) (hf55_177 : f55_177 = (own_F f42_167 y6_15_154)) (hy7_21_156 : y7_21_156 = (p4 &&& (2147483647 : Int32))) (hf68_187 : f68_187 = (own_F f55_177 y7_21_156)) (hr110_201 : r110_201 = ((if (0 : Int32) < f68_187 then (1 : Int32) else (0 : Int32)))) (G0 : ¬ y5_9_152 < 0) (G1 : ¬ y6_15_154 < 0) (G2 : ¬ y7_21_156 < 0) (T2 : f68_187.toInt = (own_L y5_9_152).toInt + (own_L y6_15_154).toInt + (own_L y7_21_156).toInt) : r110_201 = (1 : Int32) := by
  have n0 := own_ln _ G0
  have n1 := own_ln _ G1
  have n2 := own_ln _ G2
  rw [hr110_201, if_pos (by rw [Int32.lt_iff_toInt_lt]; simp only [Int32.reduceToInt]; omega)]
theorem own_0_hp137_211 (p2 : Int32) (y5_9_152 : Int32) (vl42_168 : List Value) (p3 : Int32) (y6_15_154 : Int32) (vl55_178 : List Value) (p4 : Int32) (y7_21_156 : Int32) (vl68_188 : List Value) (hy5_9_152 : y5_9_152 = (p2 &&& (2147483647 : Int32))) (hvl42_168 : vl42_168 = (own_E [] y5_9_152)) (hy6_15_154 : y6_15_154 = (p3 &&& (2147483647 : Int32))) (hvl55_178 : vl55_178 = (own_E vl42_168 y6_15_154)) (hy7_21_156 : y7_21_156 = (p4 &&& (2147483647 : Int32))) (hvl68_188 : vl68_188 = (own_E vl55_178 y7_21_156)) (G0 : ¬ y5_9_152 < 0) (G1 : ¬ y6_15_154 < 0) (G2 : ¬ y7_21_156 < 0) (X2 : vl68_188 = own_E [] y5_9_152 ++ (own_E [] y6_15_154 ++ (own_E [] y7_21_156))) : ∀ v ∈ vl68_188, ∃ x, v = .int x := by
  rw [X2]
  intro v hv
  simp only [List.mem_append] at hv
  rcases hv with q | q | q
  · exact own_EV _ G0 v q
  · exact own_EV _ G1 v q
  · exact own_EV _ G2 v q
theorem own_0_hp137_212 (p2 : Int32) (y5_9_152 : Int32) (vl42_168 : List Value) (p3 : Int32) (y6_15_154 : Int32) (vl55_178 : List Value) (p4 : Int32) (y7_21_156 : Int32) (vl68_188 : List Value) (hy5_9_152 : y5_9_152 = (p2 &&& (2147483647 : Int32))) (hvl42_168 : vl42_168 = (own_E [] y5_9_152)) (hy6_15_154 : y6_15_154 = (p3 &&& (2147483647 : Int32))) (hvl55_178 : vl55_178 = (own_E vl42_168 y6_15_154)) (hy7_21_156 : y7_21_156 = (p4 &&& (2147483647 : Int32))) (hvl68_188 : vl68_188 = (own_E vl55_178 y7_21_156)) (G0 : ¬ y5_9_152 < 0) (G1 : ¬ y6_15_154 < 0) (G2 : ¬ y7_21_156 < 0) (X2 : vl68_188 = own_E [] y5_9_152 ++ (own_E [] y6_15_154 ++ (own_E [] y7_21_156))) : ¬ ((own_at vl68_188 (0 : Int32) &&& (255 : Int32)) < (128 : Int32)) → ¬ ((own_at vl68_188 ((0 : Int32) + (1 : Int32)) &&& (255 : Int32)) < (128 : Int32)) → ¬ ((own_at vl68_188 (((0 : Int32) + (1 : Int32)) + (1 : Int32)) &&& (255 : Int32)) < (128 : Int32)) → ¬ ((own_at vl68_188 ((((0 : Int32) + (1 : Int32)) + (1 : Int32)) + (1 : Int32)) &&& (255 : Int32)) < (128 : Int32)) → (own_at vl68_188 (((((0 : Int32) + (1 : Int32)) + (1 : Int32)) + (1 : Int32)) + (1 : Int32)) &&& (255 : Int32)) < (128 : Int32) := by
  have n0 := own_ln _ G0
  have n1 := own_ln _ G1
  have n2 := own_ln _ G2
  have q := own_next vl68_188 [] (own_E [] y6_15_154 ++ (own_E [] y7_21_156)) y5_9_152 (0 : Int32) G0 (by rw [X2, List.nil_append]) (by decide) (by decide)
  exact q.1
theorem own_0_U0'' (p2 : Int32) (y5_9_152 : Int32) (vl42_168 : List Value) (p3 : Int32) (y6_15_154 : Int32) (vl55_178 : List Value) (p4 : Int32) (y7_21_156 : Int32) (vl68_188 : List Value) (f137_215 : Int32) (hy5_9_152 : y5_9_152 = (p2 &&& (2147483647 : Int32))) (hvl42_168 : vl42_168 = (own_E [] y5_9_152)) (hy6_15_154 : y6_15_154 = (p3 &&& (2147483647 : Int32))) (hvl55_178 : vl55_178 = (own_E vl42_168 y6_15_154)) (hy7_21_156 : y7_21_156 = (p4 &&& (2147483647 : Int32))) (hvl68_188 : vl68_188 = (own_E vl55_178 y7_21_156)) (hf137_215 : f137_215 = (own_P vl68_188 (0 : Int32))) (G0 : ¬ y5_9_152 < 0) (G1 : ¬ y6_15_154 < 0) (G2 : ¬ y7_21_156 < 0) (X2 : vl68_188 = own_E [] y5_9_152 ++ (own_E [] y6_15_154 ++ (own_E [] y7_21_156))) : f137_215.toInt = (own_L y5_9_152).toInt := by
  have n0 := own_ln _ G0
  have n1 := own_ln _ G1
  have n2 := own_ln _ G2
  have q := own_next vl68_188 [] (own_E [] y6_15_154 ++ (own_E [] y7_21_156)) y5_9_152 (0 : Int32) G0 (by rw [X2, List.nil_append]) (by decide) (by decide)
  rw [hf137_215, q.2.2, Int32.zero_add]
theorem own_0_hc142_217 (p2 : Int32) (y5_9_152 : Int32) (vl42_168 : List Value) (p3 : Int32) (y6_15_154 : Int32) (vl55_178 : List Value) (p4 : Int32) (y7_21_156 : Int32) (vl68_188 : List Value) (r137_216 : Int32) (hy5_9_152 : y5_9_152 = (p2 &&& (2147483647 : Int32))) (hvl42_168 : vl42_168 = (own_E [] y5_9_152)) (hy6_15_154 : y6_15_154 = (p3 &&& (2147483647 : Int32))) (hvl55_178 : vl55_178 = (own_E vl42_168 y6_15_154)) (hy7_21_156 : y7_21_156 = (p4 &&& (2147483647 : Int32))) (hvl68_188 : vl68_188 = (own_E vl55_178 y7_21_156)) (hr137_216 : r137_216 = (own_N vl68_188 (0 : Int32))) (G0 : ¬ y5_9_152 < 0) (G1 : ¬ y6_15_154 < 0) (G2 : ¬ y7_21_156 < 0) (X2 : vl68_188 = own_E [] y5_9_152 ++ (own_E [] y6_15_154 ++ (own_E [] y7_21_156))) : r137_216 = y5_9_152 := by
  have n0 := own_ln _ G0
  have n1 := own_ln _ G1
  have n2 := own_ln _ G2
  have q := own_next vl68_188 [] (own_E [] y6_15_154 ++ (own_E [] y7_21_156)) y5_9_152 (0 : Int32) G0 (by rw [X2, List.nil_append]) (by decide) (by decide)
  rw [hr137_216]
  exact q.2.1
theorem own_0_hc163_221 (p2 : Int32) (y5_9_152 : Int32) (vl42_168 : List Value) (p3 : Int32) (y6_15_154 : Int32) (vl55_178 : List Value) (p4 : Int32) (y7_21_156 : Int32) (vl68_188 : List Value) (f137_215 : Int32) (f42_167 : Int32) (f55_177 : Int32) (f68_187 : Int32) (r149_220 : Int32) (hy5_9_152 : y5_9_152 = (p2 &&& (2147483647 : Int32))) (hvl42_168 : vl42_168 = (own_E [] y5_9_152)) (hy6_15_154 : y6_15_154 = (p3 &&& (2147483647 : Int32))) (hvl55_178 : vl55_178 = (own_E vl42_168 y6_15_154)) (hy7_21_156 : y7_21_156 = (p4 &&& (2147483647 : Int32))) (hvl68_188 : vl68_188 = (own_E vl55_178 y7_21_156)) (hf137_215 : f137_215 = (own_P vl68_188 (0 : Int32))) (hf42_167 : f42_167 = (own_F (0 : Int32) y5_9_152)) (hf55_177 : f55_177 = (own_F f42_167 y6_15_154)) (hf68_187 : f68_187 = (own_F f55_177 y7_21_156)) (hr149_220 : r149_220 = ((if f137_215 < f68_187 then (1 : Int32) else (0 : Int32)))) (G0 : ¬ y5_9_152 < 0) (G1 : ¬ y6_15_154 < 0) (G2 : ¬ y7_21_156 < 0) (T2 : f68_187.toInt = (own_L y5_9_152).toInt + (own_L y6_15_154).toInt + (own_L y7_21_156).toInt) (U0 : f137_215.toInt = (own_L y5_9_152).toInt) : r149_220 = (1 : Int32) := by
  have n0 := own_ln _ G0
  have n1 := own_ln _ G1
  have n2 := own_ln _ G2
  rw [hr149_220, if_pos (by rw [Int32.lt_iff_toInt_lt]; omega)]
theorem own_0_hp176_226 (p2 : Int32) (y5_9_152 : Int32) (vl42_168 : List Value) (p3 : Int32) (y6_15_154 : Int32) (vl55_178 : List Value) (p4 : Int32) (y7_21_156 : Int32) (vl68_188 : List Value) (f137_215 : Int32) (hy5_9_152 : y5_9_152 = (p2 &&& (2147483647 : Int32))) (hvl42_168 : vl42_168 = (own_E [] y5_9_152)) (hy6_15_154 : y6_15_154 = (p3 &&& (2147483647 : Int32))) (hvl55_178 : vl55_178 = (own_E vl42_168 y6_15_154)) (hy7_21_156 : y7_21_156 = (p4 &&& (2147483647 : Int32))) (hvl68_188 : vl68_188 = (own_E vl55_178 y7_21_156)) (hf137_215 : f137_215 = (own_P vl68_188 (0 : Int32))) (G0 : ¬ y5_9_152 < 0) (G1 : ¬ y6_15_154 < 0) (G2 : ¬ y7_21_156 < 0) (X2 : vl68_188 = own_E [] y5_9_152 ++ (own_E [] y6_15_154 ++ (own_E [] y7_21_156))) (U0 : f137_215.toInt = (own_L y5_9_152).toInt) : ¬ f137_215 < 0 := by
  have n0 := own_ln _ G0
  have n1 := own_ln _ G1
  have n2 := own_ln _ G2
  exact own_le0 (by omega)
theorem own_0_hp176_227 (p2 : Int32) (y5_9_152 : Int32) (vl42_168 : List Value) (p3 : Int32) (y6_15_154 : Int32) (vl55_178 : List Value) (p4 : Int32) (y7_21_156 : Int32) (vl68_188 : List Value) (f137_215 : Int32) (hy5_9_152 : y5_9_152 = (p2 &&& (2147483647 : Int32))) (hvl42_168 : vl42_168 = (own_E [] y5_9_152)) (hy6_15_154 : y6_15_154 = (p3 &&& (2147483647 : Int32))) (hvl55_178 : vl55_178 = (own_E vl42_168 y6_15_154)) (hy7_21_156 : y7_21_156 = (p4 &&& (2147483647 : Int32))) (hvl68_188 : vl68_188 = (own_E vl55_178 y7_21_156)) (hf137_215 : f137_215 = (own_P vl68_188 (0 : Int32))) (G0 : ¬ y5_9_152 < 0) (G1 : ¬ y6_15_154 < 0) (G2 : ¬ y7_21_156 < 0) (X2 : vl68_188 = own_E [] y5_9_152 ++ (own_E [] y6_15_154 ++ (own_E [] y7_21_156))) (U0 : f137_215.toInt = (own_L y5_9_152).toInt) : f137_215 < 58 := by
  have n0 := own_ln _ G0
  have n1 := own_ln _ G1
  have n2 := own_ln _ G2
  rw [Int32.lt_iff_toInt_lt]
  simp only [Int32.reduceToInt]
  omega
theorem own_0_hp176_228 (p2 : Int32) (y5_9_152 : Int32) (vl42_168 : List Value) (p3 : Int32) (y6_15_154 : Int32) (vl55_178 : List Value) (p4 : Int32) (y7_21_156 : Int32) (vl68_188 : List Value) (f137_215 : Int32) (hy5_9_152 : y5_9_152 = (p2 &&& (2147483647 : Int32))) (hvl42_168 : vl42_168 = (own_E [] y5_9_152)) (hy6_15_154 : y6_15_154 = (p3 &&& (2147483647 : Int32))) (hvl55_178 : vl55_178 = (own_E vl42_168 y6_15_154)) (hy7_21_156 : y7_21_156 = (p4 &&& (2147483647 : Int32))) (hvl68_188 : vl68_188 = (own_E vl55_178 y7_21_156)) (hf137_215 : f137_215 = (own_P vl68_188 (0 : Int32))) (G0 : ¬ y5_9_152 < 0) (G1 : ¬ y6_15_154 < 0) (G2 : ¬ y7_21_156 < 0) (X2 : vl68_188 = own_E [] y5_9_152 ++ (own_E [] y6_15_154 ++ (own_E [] y7_21_156))) (U0 : f137_215.toInt = (own_L y5_9_152).toInt) : ∀ v ∈ vl68_188, ∃ x, v = .int x := by
  rw [X2]
  intro v hv
  simp only [List.mem_append] at hv
  rcases hv with q | q | q
  · exact own_EV _ G0 v q
  · exact own_EV _ G1 v q
  · exact own_EV _ G2 v q
theorem own_0_hp176_229 (p2 : Int32) (y5_9_152 : Int32) (vl42_168 : List Value) (p3 : Int32) (y6_15_154 : Int32) (vl55_178 : List Value) (p4 : Int32) (y7_21_156 : Int32) (vl68_188 : List Value) (f137_215 : Int32) (hy5_9_152 : y5_9_152 = (p2 &&& (2147483647 : Int32))) (hvl42_168 : vl42_168 = (own_E [] y5_9_152)) (hy6_15_154 : y6_15_154 = (p3 &&& (2147483647 : Int32))) (hvl55_178 : vl55_178 = (own_E vl42_168 y6_15_154)) (hy7_21_156 : y7_21_156 = (p4 &&& (2147483647 : Int32))) (hvl68_188 : vl68_188 = (own_E vl55_178 y7_21_156)) (hf137_215 : f137_215 = (own_P vl68_188 (0 : Int32))) (G0 : ¬ y5_9_152 < 0) (G1 : ¬ y6_15_154 < 0) (G2 : ¬ y7_21_156 < 0) (X2 : vl68_188 = own_E [] y5_9_152 ++ (own_E [] y6_15_154 ++ (own_E [] y7_21_156))) (U0 : f137_215.toInt = (own_L y5_9_152).toInt) : ¬ ((own_at vl68_188 f137_215 &&& (255 : Int32)) < (128 : Int32)) → ¬ ((own_at vl68_188 (f137_215 + (1 : Int32)) &&& (255 : Int32)) < (128 : Int32)) → ¬ ((own_at vl68_188 ((f137_215 + (1 : Int32)) + (1 : Int32)) &&& (255 : Int32)) < (128 : Int32)) → ¬ ((own_at vl68_188 (((f137_215 + (1 : Int32)) + (1 : Int32)) + (1 : Int32)) &&& (255 : Int32)) < (128 : Int32)) → (own_at vl68_188 ((((f137_215 + (1 : Int32)) + (1 : Int32)) + (1 : Int32)) + (1 : Int32)) &&& (255 : Int32)) < (128 : Int32) := by
  have n0 := own_ln _ G0
  have n1 := own_ln _ G1
  have n2 := own_ln _ G2
  have q := own_next vl68_188 (own_E [] y5_9_152) (own_E [] y7_21_156) y6_15_154 f137_215 G1 (by exact X2) (by omega) (by omega)
  exact q.1
theorem own_0_U1' (p2 : Int32) (y5_9_152 : Int32) (vl42_168 : List Value) (p3 : Int32) (y6_15_154 : Int32) (vl55_178 : List Value) (p4 : Int32) (y7_21_156 : Int32) (vl68_188 : List Value) (f137_215 : Int32) (f176_232 : Int32) (hy5_9_152 : y5_9_152 = (p2 &&& (2147483647 : Int32))) (hvl42_168 : vl42_168 = (own_E [] y5_9_152)) (hy6_15_154 : y6_15_154 = (p3 &&& (2147483647 : Int32))) (hvl55_178 : vl55_178 = (own_E vl42_168 y6_15_154)) (hy7_21_156 : y7_21_156 = (p4 &&& (2147483647 : Int32))) (hvl68_188 : vl68_188 = (own_E vl55_178 y7_21_156)) (hf137_215 : f137_215 = (own_P vl68_188 (0 : Int32))) (hf176_232 : f176_232 = (own_P vl68_188 f137_215)) (G0 : ¬ y5_9_152 < 0) (G1 : ¬ y6_15_154 < 0) (G2 : ¬ y7_21_156 < 0) (X2 : vl68_188 = own_E [] y5_9_152 ++ (own_E [] y6_15_154 ++ (own_E [] y7_21_156))) (U0 : f137_215.toInt = (own_L y5_9_152).toInt) : f176_232.toInt = (own_L y5_9_152).toInt + (own_L y6_15_154).toInt := by
  have n0 := own_ln _ G0
  have n1 := own_ln _ G1
  have n2 := own_ln _ G2
  have q := own_next vl68_188 (own_E [] y5_9_152) (own_E [] y7_21_156) y6_15_154 f137_215 G1 (by exact X2) (by omega) (by omega)
  rw [hf176_232, q.2.2, own_ad _ _ (by omega) (by omega) G1]
  omega
theorem own_0_hc181_234 (p2 : Int32) (y5_9_152 : Int32) (vl42_168 : List Value) (p3 : Int32) (y6_15_154 : Int32) (vl55_178 : List Value) (p4 : Int32) (y7_21_156 : Int32) (vl68_188 : List Value) (f137_215 : Int32) (r176_233 : Int32) (hy5_9_152 : y5_9_152 = (p2 &&& (2147483647 : Int32))) (hvl42_168 : vl42_168 = (own_E [] y5_9_152)) (hy6_15_154 : y6_15_154 = (p3 &&& (2147483647 : Int32))) (hvl55_178 : vl55_178 = (own_E vl42_168 y6_15_154)) (hy7_21_156 : y7_21_156 = (p4 &&& (2147483647 : Int32))) (hvl68_188 : vl68_188 = (own_E vl55_178 y7_21_156)) (hf137_215 : f137_215 = (own_P vl68_188 (0 : Int32))) (hr176_233 : r176_233 = (own_N vl68_188 f137_215)) (G0 : ¬ y5_9_152 < 0) (G1 : ¬ y6_15_154 < 0) (G2 : ¬ y7_21_156 < 0) (X2 : vl68_188 = own_E [] y5_9_152 ++ (own_E [] y6_15_154 ++ (own_E [] y7_21_156))) (U0 : f137_215.toInt = (own_L y5_9_152).toInt) : r176_233 = y6_15_154 := by
  have n0 := own_ln _ G0
  have n1 := own_ln _ G1
  have n2 := own_ln _ G2
  have q := own_next vl68_188 (own_E [] y5_9_152) (own_E [] y7_21_156) y6_15_154 f137_215 G1 (by exact X2) (by omega) (by omega)
  rw [hr176_233]
  exact q.2.1
theorem own_0_hc202_238 (p2 : Int32) (y5_9_152 : Int32) (vl42_168 : List Value) (p3 : Int32) (y6_15_154 : Int32) (vl55_178 : List Value) (p4 : Int32) (y7_21_156 : Int32) (vl68_188 : List Value) (f137_215 : Int32) (f176_232 : Int32) (f42_167 : Int32) (f55_177 : Int32) (f68_187 : Int32) (r188_237 : Int32) (hy5_9_152 : y5_9_152 = (p2 &&& (2147483647 : Int32))) (hvl42_168 : vl42_168 = (own_E [] y5_9_152)) (hy6_15_154 : y6_15_154 = (p3 &&& (2147483647 : Int32))) (hvl55_178 : vl55_178 = (own_E vl42_168 y6_15_154)) (hy7_21_156 : y7_21_156 = (p4 &&& (2147483647 : Int32))) (hvl68_188 : vl68_188 = (own_E vl55_178 y7_21_156)) (hf137_215 : f137_215 = (own_P vl68_188 (0 : Int32))) (hf176_232 : f176_232 = (own_P vl68_188 f137_215)) (hf42_167 : f42_167 = (own_F (0 : Int32) y5_9_152)) (hf55_177 : f55_177 = (own_F f42_167 y6_15_154)) (hf68_187 : f68_187 = (own_F f55_177 y7_21_156)) (hr188_237 : r188_237 = ((if f176_232 < f68_187 then (1 : Int32) else (0 : Int32)))) (G0 : ¬ y5_9_152 < 0) (G1 : ¬ y6_15_154 < 0) (G2 : ¬ y7_21_156 < 0) (T2 : f68_187.toInt = (own_L y5_9_152).toInt + (own_L y6_15_154).toInt + (own_L y7_21_156).toInt) (U1 : f176_232.toInt = (own_L y5_9_152).toInt + (own_L y6_15_154).toInt) : r188_237 = (1 : Int32) := by
  have n0 := own_ln _ G0
  have n1 := own_ln _ G1
  have n2 := own_ln _ G2
  rw [hr188_237, if_pos (by rw [Int32.lt_iff_toInt_lt]; omega)]
theorem own_0_hp215_243 (p2 : Int32) (y5_9_152 : Int32) (vl42_168 : List Value) (p3 : Int32) (y6_15_154 : Int32) (vl55_178 : List Value) (p4 : Int32) (y7_21_156 : Int32) (vl68_188 : List Value) (f137_215 : Int32) (f176_232 : Int32) (hy5_9_152 : y5_9_152 = (p2 &&& (2147483647 : Int32))) (hvl42_168 : vl42_168 = (own_E [] y5_9_152)) (hy6_15_154 : y6_15_154 = (p3 &&& (2147483647 : Int32))) (hvl55_178 : vl55_178 = (own_E vl42_168 y6_15_154)) (hy7_21_156 : y7_21_156 = (p4 &&& (2147483647 : Int32))) (hvl68_188 : vl68_188 = (own_E vl55_178 y7_21_156)) (hf137_215 : f137_215 = (own_P vl68_188 (0 : Int32))) (hf176_232 : f176_232 = (own_P vl68_188 f137_215)) (G0 : ¬ y5_9_152 < 0) (G1 : ¬ y6_15_154 < 0) (G2 : ¬ y7_21_156 < 0) (X2 : vl68_188 = own_E [] y5_9_152 ++ (own_E [] y6_15_154 ++ (own_E [] y7_21_156))) (U1 : f176_232.toInt = (own_L y5_9_152).toInt + (own_L y6_15_154).toInt) : ¬ f176_232 < 0 := by
  have n0 := own_ln _ G0
  have n1 := own_ln _ G1
  have n2 := own_ln _ G2
  exact own_le0 (by omega)
theorem own_0_hp215_244 (p2 : Int32) (y5_9_152 : Int32) (vl42_168 : List Value) (p3 : Int32) (y6_15_154 : Int32) (vl55_178 : List Value) (p4 : Int32) (y7_21_156 : Int32) (vl68_188 : List Value) (f137_215 : Int32) (f176_232 : Int32) (hy5_9_152 : y5_9_152 = (p2 &&& (2147483647 : Int32))) (hvl42_168 : vl42_168 = (own_E [] y5_9_152)) (hy6_15_154 : y6_15_154 = (p3 &&& (2147483647 : Int32))) (hvl55_178 : vl55_178 = (own_E vl42_168 y6_15_154)) (hy7_21_156 : y7_21_156 = (p4 &&& (2147483647 : Int32))) (hvl68_188 : vl68_188 = (own_E vl55_178 y7_21_156)) (hf137_215 : f137_215 = (own_P vl68_188 (0 : Int32))) (hf176_232 : f176_232 = (own_P vl68_188 f137_215)) (G0 : ¬ y5_9_152 < 0) (G1 : ¬ y6_15_154 < 0) (G2 : ¬ y7_21_156 < 0) (X2 : vl68_188 = own_E [] y5_9_152 ++ (own_E [] y6_15_154 ++ (own_E [] y7_21_156))) (U1 : f176_232.toInt = (own_L y5_9_152).toInt + (own_L y6_15_154).toInt) : f176_232 < 58 := by
  have n0 := own_ln _ G0
  have n1 := own_ln _ G1
  have n2 := own_ln _ G2
  rw [Int32.lt_iff_toInt_lt]
  simp only [Int32.reduceToInt]
  omega
theorem own_0_hp215_245 (p2 : Int32) (y5_9_152 : Int32) (vl42_168 : List Value) (p3 : Int32) (y6_15_154 : Int32) (vl55_178 : List Value) (p4 : Int32) (y7_21_156 : Int32) (vl68_188 : List Value) (f137_215 : Int32) (f176_232 : Int32) (hy5_9_152 : y5_9_152 = (p2 &&& (2147483647 : Int32))) (hvl42_168 : vl42_168 = (own_E [] y5_9_152)) (hy6_15_154 : y6_15_154 = (p3 &&& (2147483647 : Int32))) (hvl55_178 : vl55_178 = (own_E vl42_168 y6_15_154)) (hy7_21_156 : y7_21_156 = (p4 &&& (2147483647 : Int32))) (hvl68_188 : vl68_188 = (own_E vl55_178 y7_21_156)) (hf137_215 : f137_215 = (own_P vl68_188 (0 : Int32))) (hf176_232 : f176_232 = (own_P vl68_188 f137_215)) (G0 : ¬ y5_9_152 < 0) (G1 : ¬ y6_15_154 < 0) (G2 : ¬ y7_21_156 < 0) (X2 : vl68_188 = own_E [] y5_9_152 ++ (own_E [] y6_15_154 ++ (own_E [] y7_21_156))) (U1 : f176_232.toInt = (own_L y5_9_152).toInt + (own_L y6_15_154).toInt) : ∀ v ∈ vl68_188, ∃ x, v = .int x := by
  rw [X2]
  intro v hv
  simp only [List.mem_append] at hv
  rcases hv with q | q | q
  · exact own_EV _ G0 v q
  · exact own_EV _ G1 v q
  · exact own_EV _ G2 v q
theorem own_0_hp215_246 (p2 : Int32) (y5_9_152 : Int32) (vl42_168 : List Value) (p3 : Int32) (y6_15_154 : Int32) (vl55_178 : List Value) (p4 : Int32) (y7_21_156 : Int32) (vl68_188 : List Value) (f137_215 : Int32) (f176_232 : Int32) (hy5_9_152 : y5_9_152 = (p2 &&& (2147483647 : Int32))) (hvl42_168 : vl42_168 = (own_E [] y5_9_152)) (hy6_15_154 : y6_15_154 = (p3 &&& (2147483647 : Int32))) (hvl55_178 : vl55_178 = (own_E vl42_168 y6_15_154)) (hy7_21_156 : y7_21_156 = (p4 &&& (2147483647 : Int32))) (hvl68_188 : vl68_188 = (own_E vl55_178 y7_21_156)) (hf137_215 : f137_215 = (own_P vl68_188 (0 : Int32))) (hf176_232 : f176_232 = (own_P vl68_188 f137_215)) (G0 : ¬ y5_9_152 < 0) (G1 : ¬ y6_15_154 < 0) (G2 : ¬ y7_21_156 < 0) (X2 : vl68_188 = own_E [] y5_9_152 ++ (own_E [] y6_15_154 ++ (own_E [] y7_21_156))) (U1 : f176_232.toInt = (own_L y5_9_152).toInt + (own_L y6_15_154).toInt) : ¬ ((own_at vl68_188 f176_232 &&& (255 : Int32)) < (128 : Int32)) → ¬ ((own_at vl68_188 (f176_232 + (1 : Int32)) &&& (255 : Int32)) < (128 : Int32)) → ¬ ((own_at vl68_188 ((f176_232 + (1 : Int32)) + (1 : Int32)) &&& (255 : Int32)) < (128 : Int32)) → ¬ ((own_at vl68_188 (((f176_232 + (1 : Int32)) + (1 : Int32)) + (1 : Int32)) &&& (255 : Int32)) < (128 : Int32)) → (own_at vl68_188 ((((f176_232 + (1 : Int32)) + (1 : Int32)) + (1 : Int32)) + (1 : Int32)) &&& (255 : Int32)) < (128 : Int32) := by
  have n0 := own_ln _ G0
  have n1 := own_ln _ G1
  have n2 := own_ln _ G2
  have q := own_next vl68_188 (own_E [] y5_9_152 ++ (own_E [] y6_15_154)) [] y7_21_156 f176_232 G2 (by rw [X2, List.append_nil, List.append_assoc]) (by rw [List.length_append]; omega) (by omega)
  exact q.1
theorem own_0_U2 (p2 : Int32) (y5_9_152 : Int32) (vl42_168 : List Value) (p3 : Int32) (y6_15_154 : Int32) (vl55_178 : List Value) (p4 : Int32) (y7_21_156 : Int32) (vl68_188 : List Value) (f137_215 : Int32) (f176_232 : Int32) (f215_249 : Int32) (hy5_9_152 : y5_9_152 = (p2 &&& (2147483647 : Int32))) (hvl42_168 : vl42_168 = (own_E [] y5_9_152)) (hy6_15_154 : y6_15_154 = (p3 &&& (2147483647 : Int32))) (hvl55_178 : vl55_178 = (own_E vl42_168 y6_15_154)) (hy7_21_156 : y7_21_156 = (p4 &&& (2147483647 : Int32))) (hvl68_188 : vl68_188 = (own_E vl55_178 y7_21_156)) (hf137_215 : f137_215 = (own_P vl68_188 (0 : Int32))) (hf176_232 : f176_232 = (own_P vl68_188 f137_215)) (hf215_249 : f215_249 = (own_P vl68_188 f176_232)) (G0 : ¬ y5_9_152 < 0) (G1 : ¬ y6_15_154 < 0) (G2 : ¬ y7_21_156 < 0) (X2 : vl68_188 = own_E [] y5_9_152 ++ (own_E [] y6_15_154 ++ (own_E [] y7_21_156))) (U1 : f176_232.toInt = (own_L y5_9_152).toInt + (own_L y6_15_154).toInt) : f215_249.toInt = (own_L y5_9_152).toInt + (own_L y6_15_154).toInt + (own_L y7_21_156).toInt := by
  have n0 := own_ln _ G0
  have n1 := own_ln _ G1
  have n2 := own_ln _ G2
  have q := own_next vl68_188 (own_E [] y5_9_152 ++ (own_E [] y6_15_154)) [] y7_21_156 f176_232 G2 (by rw [X2, List.append_nil, List.append_assoc]) (by rw [List.length_append]; omega) (by omega)
  rw [hf215_249, q.2.2, own_ad _ _ (by omega) (by omega) G2]
  omega
theorem own_0_hc220_251 (p2 : Int32) (y5_9_152 : Int32) (vl42_168 : List Value) (p3 : Int32) (y6_15_154 : Int32) (vl55_178 : List Value) (p4 : Int32) (y7_21_156 : Int32) (vl68_188 : List Value) (f137_215 : Int32) (f176_232 : Int32) (r215_250 : Int32) (hy5_9_152 : y5_9_152 = (p2 &&& (2147483647 : Int32))) (hvl42_168 : vl42_168 = (own_E [] y5_9_152)) (hy6_15_154 : y6_15_154 = (p3 &&& (2147483647 : Int32))) (hvl55_178 : vl55_178 = (own_E vl42_168 y6_15_154)) (hy7_21_156 : y7_21_156 = (p4 &&& (2147483647 : Int32))) (hvl68_188 : vl68_188 = (own_E vl55_178 y7_21_156)) (hf137_215 : f137_215 = (own_P vl68_188 (0 : Int32))) (hf176_232 : f176_232 = (own_P vl68_188 f137_215)) (hr215_250 : r215_250 = (own_N vl68_188 f176_232)) (G0 : ¬ y5_9_152 < 0) (G1 : ¬ y6_15_154 < 0) (G2 : ¬ y7_21_156 < 0) (X2 : vl68_188 = own_E [] y5_9_152 ++ (own_E [] y6_15_154 ++ (own_E [] y7_21_156))) (U1 : f176_232.toInt = (own_L y5_9_152).toInt + (own_L y6_15_154).toInt) : r215_250 = y7_21_156 := by
  have n0 := own_ln _ G0
  have n1 := own_ln _ G1
  have n2 := own_ln _ G2
  have q := own_next vl68_188 (own_E [] y5_9_152 ++ (own_E [] y6_15_154)) [] y7_21_156 f176_232 G2 (by rw [X2, List.append_nil, List.append_assoc]) (by rw [List.length_append]; omega) (by omega)
  rw [hr215_250]
  exact q.2.1
theorem own_0_hc230_255 (p2 : Int32) (y5_9_152 : Int32) (vl42_168 : List Value) (p3 : Int32) (y6_15_154 : Int32) (vl55_178 : List Value) (p4 : Int32) (y7_21_156 : Int32) (vl68_188 : List Value) (f137_215 : Int32) (f176_232 : Int32) (f215_249 : Int32) (f42_167 : Int32) (f55_177 : Int32) (f68_187 : Int32) (r227_254 : Int32) (hy5_9_152 : y5_9_152 = (p2 &&& (2147483647 : Int32))) (hvl42_168 : vl42_168 = (own_E [] y5_9_152)) (hy6_15_154 : y6_15_154 = (p3 &&& (2147483647 : Int32))) (hvl55_178 : vl55_178 = (own_E vl42_168 y6_15_154)) (hy7_21_156 : y7_21_156 = (p4 &&& (2147483647 : Int32))) (hvl68_188 : vl68_188 = (own_E vl55_178 y7_21_156)) (hf137_215 : f137_215 = (own_P vl68_188 (0 : Int32))) (hf176_232 : f176_232 = (own_P vl68_188 f137_215)) (hf215_249 : f215_249 = (own_P vl68_188 f176_232)) (hf42_167 : f42_167 = (own_F (0 : Int32) y5_9_152)) (hf55_177 : f55_177 = (own_F f42_167 y6_15_154)) (hf68_187 : f68_187 = (own_F f55_177 y7_21_156)) (hr227_254 : r227_254 = ((if f215_249 < f68_187 then (1 : Int32) else (0 : Int32)))) (G0 : ¬ y5_9_152 < 0) (G1 : ¬ y6_15_154 < 0) (G2 : ¬ y7_21_156 < 0) (T2 : f68_187.toInt = (own_L y5_9_152).toInt + (own_L y6_15_154).toInt + (own_L y7_21_156).toInt) (U2 : f215_249.toInt = (own_L y5_9_152).toInt + (own_L y6_15_154).toInt + (own_L y7_21_156).toInt) : r227_254 = (0 : Int32) := by
  have n0 := own_ln _ G0
  have n1 := own_ln _ G1
  have n2 := own_ln _ G2
  rw [hr227_254, if_neg (by rw [Int32.lt_iff_toInt_lt]; omega)]
def Q0 (Z : State) (p1 : Int32) (p2 : Int32) (p3 : Int32) (p4 : Int32) (h0 : Heap) (n0 : Nat) (v : Option Value) (h : Heap) (L : List Loc) : Prop := v = some (.int (1 : Int32)) ∧ Fr n0 L
set_option maxRecDepth 65536 in
set_option maxHeartbeats 40000000 in
theorem rm0 (l : Launch) (Z : State) (a0 : Array Value) (hw : ∀ d ∈ tables_1, d.before a0 Z = true) (ws : List Jvm.Cond) (p1 : Int32) (p2 : Int32) (p3 : Int32) (p4 : Int32) (h0 : Heap) (n0 : Nat) (Z0 : n0 ≤ h0.size) :
    MetFree l x (head1 (Jvm.Cond.code x code maxLocals ret :: ws) room_1) (fun a U => a = #[(.int p1), (.int p2), (.int p3), (.int p4)] ∧ Z.Warmed39 U.vm ∧ U.heap = h0) (fun _ _ _ _ _ => True) (fun _ U o U' => ∃ v L, o = .returned v ∧ Q0 Z p1 p2 p3 p4 h0 n0 v U'.heap L ∧ FrameEnd U o U' L room_1.cells room_1.slots) := by
  refine MetFree.of_bodySF (plainFor_of_name pn_0) hisR ?_
  intro p e s m args below meth c s₁ Bd hml0 hP hK
  obtain ⟨rfl, hZ, hh⟩ := hP
  have hx := Bd.exec
  have hby := Bd.bytes
  have hml : c.maxLocals = 10 := hml0
  have hown : s.vm.findClass "com/example/outcomery/outcomery/ReaderHasNextPinLaw" = some m.cls := findClass_of_methodNamed Bd.named
  have hnm := (name_of_methodNamed Bd.named Bd.method).1
  have X0 : Stand p l e room_1 s m #[(.int p1), (.int p2), (.int p3), (.int p4)] below meth c s₁ [] 0 0 := Stand.of_body Bd
  have e0 : s₁.heap = h0 := by rw [← hh, Bd.state]; rfl
  have N0 := Fr.nil n0
  refine (show Gl p e below (fun o U' => ∃ v L, o = .returned v ∧ Q0 Z p1 p2 p3 p4 h0 n0 v U'.heap L ∧ FrameEnd s o U' L room_1.cells room_1.slots) (s₁.setTop (entryFrame m #[(.int p1), (.int p2), (.int p3), (.int p4)] maxLocals)) from ?_)
  obtain ⟨L0, hL0⟩ : ∃ z : Array Slot, z = #[.val (.int p1), .val (.int p2), .val (.int p3), .val (.int p4), .unset, .unset, .unset, .unset, .unset, .unset] := ⟨_, rfl⟩
  refine Gl.st (B := (s₁.setTop (mkF m 0 L0 []))) (fun t k => castTop (efAt hL0 (ef_0 m p1 p2 p3 p4)) k) ?_
  refine Gl.st (B := (s₁.setTop (mkF m 1 L0 [(.int p1)]))) (fun t k => XS.iloadN X0.here hx rfl (hb hby at_0) (ldAt hL0 rfl) k) ?_
  refine Gl.st (B := (s₁.setTop (mkF m 2 L0 [(.int (3 : Int32)), (.int p1)]))) (fun t k => XS.iconst X0.here hx rfl (hb hby at_1) k) ?_
  refine Gl.st (B := (s₁.setTop (mkF m 3 L0 [(.int (p1 &&& (3 : Int32)))]))) (fun t k => XS.iand X0.here hx rfl (hb hby at_2) rfl k) ?_
  obtain ⟨y4_3_1, hy4_3_1⟩ : ∃ z : Int32, z = (p1 &&& (3 : Int32)) := ⟨_, rfl⟩
  refine Gl.cast (B := (s₁.setTop (mkF m 3 L0 [(.int y4_3_1)]))) (by rw [hy4_3_1]) ?_
  obtain ⟨L2, hL2⟩ : ∃ z : Array Slot, z = #[.val (.int p1), .val (.int p2), .val (.int p3), .val (.int p4), .val (.int y4_3_1), .unset, .unset, .unset, .unset, .unset] := ⟨_, rfl⟩
  refine Gl.st (B := (s₁.setTop (mkF m 5 L2 []))) (fun t k => XS.istore X0.here hx rfl (hb hby at_3) rfl (l' := L2) (stAt hL0 hL2 rfl rfl) k) ?_
  have hs3 : y4_3_1 = (0 : Int32) ∨ y4_3_1 = (1 : Int32) ∨ y4_3_1 = (2 : Int32) ∨ y4_3_1 = (3 : Int32) := by
    exact own_and3 _ _ hy4_3_1
  rcases hs3 with hk | hk | hk | hk
  · skip
    subst hk
    refine Gl.st (B := (s₁.setTop (mkF m 6 L2 [(.int p2)]))) (fun t k => XS.iloadN X0.here hx rfl (hb hby at_5) (ldAt hL2 rfl) k) ?_
    refine Gl.st (B := (s₁.setTop (mkF m 8 L2 [(.int (2147483647 : Int32)), (.int p2)]))) (fun t k => X0.ldcInt hx hown (mvT hZ (tw hw 0 rfl)) (g := (mkF m 6 L2 [(.int p2)])) rfl (hb hby at_6) _ k) ?_
    refine Gl.st (B := (s₁.setTop (mkF m 9 L2 [(.int (p2 &&& (2147483647 : Int32)))]))) (fun t k => XS.iand X0.here hx rfl (hb hby at_8) rfl k) ?_
    obtain ⟨y5_9_4, hy5_9_4⟩ : ∃ z : Int32, z = (p2 &&& (2147483647 : Int32)) := ⟨_, rfl⟩
    refine Gl.cast (B := (s₁.setTop (mkF m 9 L2 [(.int y5_9_4)]))) (by rw [hy5_9_4]) ?_
    obtain ⟨L5, hL5⟩ : ∃ z : Array Slot, z = #[.val (.int p1), .val (.int p2), .val (.int p3), .val (.int p4), .val (.int (0 : Int32)), .val (.int y5_9_4), .unset, .unset, .unset, .unset] := ⟨_, rfl⟩
    refine Gl.st (B := (s₁.setTop (mkF m 11 L5 []))) (fun t k => XS.istore X0.here hx rfl (hb hby at_9) rfl (l' := L5) (stAt hL2 hL5 rfl rfl) k) ?_
    refine Gl.st (B := (s₁.setTop (mkF m 12 L5 [(.int p3)]))) (fun t k => XS.iloadN X0.here hx rfl (hb hby at_11) (ldAt hL5 rfl) k) ?_
    refine Gl.st (B := (s₁.setTop (mkF m 14 L5 [(.int (2147483647 : Int32)), (.int p3)]))) (fun t k => X0.ldcInt hx hown (mvT hZ (tw hw 0 rfl)) (g := (mkF m 12 L5 [(.int p3)])) rfl (hb hby at_12) _ k) ?_
    refine Gl.st (B := (s₁.setTop (mkF m 15 L5 [(.int (p3 &&& (2147483647 : Int32)))]))) (fun t k => XS.iand X0.here hx rfl (hb hby at_14) rfl k) ?_
    obtain ⟨y6_15_6, hy6_15_6⟩ : ∃ z : Int32, z = (p3 &&& (2147483647 : Int32)) := ⟨_, rfl⟩
    refine Gl.cast (B := (s₁.setTop (mkF m 15 L5 [(.int y6_15_6)]))) (by rw [hy6_15_6]) ?_
    obtain ⟨L7, hL7⟩ : ∃ z : Array Slot, z = #[.val (.int p1), .val (.int p2), .val (.int p3), .val (.int p4), .val (.int (0 : Int32)), .val (.int y5_9_4), .val (.int y6_15_6), .unset, .unset, .unset] := ⟨_, rfl⟩
    refine Gl.st (B := (s₁.setTop (mkF m 17 L7 []))) (fun t k => XS.istore X0.here hx rfl (hb hby at_15) rfl (l' := L7) (stAt hL5 hL7 rfl rfl) k) ?_
    refine Gl.st (B := (s₁.setTop (mkF m 18 L7 [(.int p4)]))) (fun t k => XS.iloadN X0.here hx rfl (hb hby at_17) (ldAt hL7 rfl) k) ?_
    refine Gl.st (B := (s₁.setTop (mkF m 20 L7 [(.int (2147483647 : Int32)), (.int p4)]))) (fun t k => X0.ldcInt hx hown (mvT hZ (tw hw 0 rfl)) (g := (mkF m 18 L7 [(.int p4)])) rfl (hb hby at_18) _ k) ?_
    refine Gl.st (B := (s₁.setTop (mkF m 21 L7 [(.int (p4 &&& (2147483647 : Int32)))]))) (fun t k => XS.iand X0.here hx rfl (hb hby at_20) rfl k) ?_
    obtain ⟨y7_21_8, hy7_21_8⟩ : ∃ z : Int32, z = (p4 &&& (2147483647 : Int32)) := ⟨_, rfl⟩
    refine Gl.cast (B := (s₁.setTop (mkF m 21 L7 [(.int y7_21_8)]))) (by rw [hy7_21_8]) ?_
    obtain ⟨L9, hL9⟩ : ∃ z : Array Slot, z = #[.val (.int p1), .val (.int p2), .val (.int p3), .val (.int p4), .val (.int (0 : Int32)), .val (.int y5_9_4), .val (.int y6_15_6), .val (.int y7_21_8), .unset, .unset] := ⟨_, rfl⟩
    refine Gl.st (B := (s₁.setTop (mkF m 23 L9 []))) (fun t k => XS.istore X0.here hx rfl (hb hby at_21) rfl (l' := L9) (stAt hL7 hL9 rfl rfl) k) ?_
    obtain ⟨T10, h10, X10, e10, E10, A10, D10, -, st10⟩ := newO X0 hx hZ hown (tw hw 1 rfl) (tw hw 2 rfl) (tw hw 3 rfl) e0 (g := (mkF m 23 L9 [])) rfl (hb hby at_23) (by decide) (by decide)
    obtain ⟨b10, gq10⟩ : ∃ z, z = h0.size := ⟨_, rfl⟩
    rw [← gq10] at A10 D10 st10
    have g_b10 : n0 ≤ b10 := Nat.le_trans Z0 (Nat.le_of_eq gq10.symm)
    have lt_b10 := A10.lt
    have Zc11 : n0 ≤ h10.size := Nat.le_trans Z0 E10.1
    have F10_pieces : Fld Z h10 b10 "com/example/outcomery/outcomery/PackedNumbers" "pieces" "[[B" .null := D10 (Or.inl (tw hw 13 rfl)) (ty := (.array (.array .byte))) (by decide)
    have F10_length : Fld Z h10 b10 "com/example/outcomery/outcomery/PackedNumbers" "length" "I" (.int (0 : Int32)) := D10 (Or.inl (tw hw 35 rfl)) (ty := .int) (by decide)
    refine Gl.st (B := (T10.setTop (mkF m 26 L9 [(.ref b10)]))) st10 ?_
    refine Gl.st (B := (T10.setTop (mkF m 27 L9 [(.ref b10), (.ref b10)]))) (fun t k => XS.dup X10.here hx rfl (hb hby at_26) rfl rfl k) ?_
    obtain ⟨_, _, ⟨T12, L12q, k12, n12⟩, -, X12, ⟨Lc12, hQ12, l12, y12, z12⟩, st12⟩ := X10.specialBack hx (y := (⟨"com/example/outcomery/outcomery/PackedNumbers", "<init>", "()V"⟩ : MethodName)) rfl hown (mvT hZ (tw hw 4 rfl)) (mvT hZ (tw hw 5 rfl)) (mvT hZ (tw hw 6 rfl)) (by decide) (backOf (W := 1) (rm1 l Z a0 hw [] b10 .null ((.int (0 : Int32))) h10 n0 Zc11 F10_pieces F10_length A10 g_b10) hZ (tw hw 6 rfl) (tw hw 3 rfl) (by decide) (by decide)) (g := (mkF m 27 L9 [(.ref b10), (.ref b10)])) rfl (szAt hml hL9 rfl) (Steps.refl _) (a := b10) (argsL := []) (rest := [(.ref b10)]) (lenOf pd_0_0 rfl) rfl (by show 2 * 0 + _ ≤ _; exact Nat.le_of_eq rfl) (hb hby at_27) (fun _ _ => ⟨rfl, e10, (by decide : 1 + 1 ≤ _), (by decide : 2 + 1 ≤ _)⟩)
    dsimp only [Pt.U, Pt.locs, Pt.cells, Pt.slots] at X12 l12 y12 z12 st12 hQ12
    subst l12 y12 z12
    obtain ⟨b12_t0, k12_kx_t0, rfl, N12q, Kc12, fq12_0, fq12_1, fq12_2, fq12_3, fq12_4, fq12_5, fq12_6⟩ := hQ12
    have g_b12_t0 : n0 ≤ b12_t0 := Nat.le_trans Zc11 fq12_0
    have lt_b12_t0 := fq12_4.lt
    have Zc13 : n0 ≤ T12.heap.size := Nat.le_trans Zc11 Kc12.1
    have N12 := Fr.app N0 N12q
    refine Gl.st (B := (T12.setTop (mkF m 30 L9 [(.ref b10)]))) (fun t k => st12.trans k) ?_
    obtain ⟨L14, hL14⟩ : ∃ z : Array Slot, z = #[.val (.int p1), .val (.int p2), .val (.int p3), .val (.int p4), .val (.int (0 : Int32)), .val (.int y5_9_4), .val (.int y6_15_6), .val (.int y7_21_8), .val (.ref b10), .unset] := ⟨_, rfl⟩
    refine Gl.st (B := (T12.setTop (mkF m 32 L14 []))) (fun t k => XS.astore X12.here hx rfl (hb hby at_30) rfl rfl (l' := L14) (stAt hL9 hL14 rfl rfl) k) ?_
    refine Gl.st (B := (T12.setTop (mkF m 34 L14 [(.int (0 : Int32))]))) (fun t k => XS.iload X12.here hx rfl (hb hby at_32) (ldAt hL14 rfl) k) ?_
    refine Gl.st (B := (T12.setTop (mkF m 35 L14 [(.int (1 : Int32)), (.int (0 : Int32))]))) (fun t k => XS.iconst X12.here hx rfl (hb hby at_34) k) ?_
    refine Gl.st (B := (T12.setTop (mkF m 45 L14 []))) (fun t k => XS.icmpYes X12.here hx rfl (pc0 := 35) (pc' := 45) rfl (hb hby at_35) rfl (by decide) (by decide) (by decide) k) ?_
    refine Gl.st (B := (T12.setTop (mkF m 47 L14 [(.int (0 : Int32))]))) (fun t k => XS.iload X12.here hx rfl (hb hby at_45) (ldAt hL14 rfl) k) ?_
    refine Gl.st (B := (T12.setTop (mkF m 48 L14 [(.int (2 : Int32)), (.int (0 : Int32))]))) (fun t k => XS.iconst X12.here hx rfl (hb hby at_47) k) ?_
    refine Gl.st (B := (T12.setTop (mkF m 58 L14 []))) (fun t k => XS.icmpYes X12.here hx rfl (pc0 := 48) (pc' := 58) rfl (hb hby at_48) rfl (by decide) (by decide) (by decide) k) ?_
    refine Gl.st (B := (T12.setTop (mkF m 60 L14 [(.int (0 : Int32))]))) (fun t k => XS.iload X12.here hx rfl (hb hby at_58) (ldAt hL14 rfl) k) ?_
    refine Gl.st (B := (T12.setTop (mkF m 61 L14 [(.int (3 : Int32)), (.int (0 : Int32))]))) (fun t k => XS.iconst X12.here hx rfl (hb hby at_60) k) ?_
    refine Gl.st (B := (T12.setTop (mkF m 71 L14 []))) (fun t k => XS.icmpYes X12.here hx rfl (pc0 := 61) (pc' := 71) rfl (hb hby at_61) rfl (by decide) (by decide) (by decide) k) ?_
    obtain ⟨T15, h15, X15, e15, E15, A15, D15, -, st15⟩ := newO X12 hx hZ hown (tw hw 14 rfl) (tw hw 15 rfl) (tw hw 16 rfl) rfl (g := (mkF m 71 L14 [])) rfl (hb hby at_71) (by decide) (by decide)
    obtain ⟨b15, gq15⟩ : ∃ z, z = T12.heap.size := ⟨_, rfl⟩
    rw [← gq15] at A15 D15 st15
    have g_b15 : n0 ≤ b15 := Nat.le_trans Zc13 (Nat.le_of_eq gq15.symm)
    have lt_b15 := A15.lt
    have Zc16 : n0 ≤ h15.size := Nat.le_trans Zc13 E15.1
    have F15_this_0 : Fld Z h15 b15 "com/example/outcomery/outcomery/PackedNumbers$Reader" "this$0" "Lcom/example/outcomery/outcomery/PackedNumbers;" .null := D15 (Or.inr (tw hw 25 rfl)) (ty := (.object "com/example/outcomery/outcomery/PackedNumbers")) (by decide)
    have F15_place : Fld Z h15 b15 "com/example/outcomery/outcomery/PackedNumbers$Reader" "place" "I" (.int (0 : Int32)) := D15 (Or.inl (tw hw 33 rfl)) (ty := .int) (by decide)
    refine Gl.st (B := (T15.setTop (mkF m 74 L14 [(.ref b15)]))) st15 ?_
    refine Gl.st (B := (T15.setTop (mkF m 75 L14 [(.ref b15), (.ref b15)]))) (fun t k => XS.dup X15.here hx rfl (hb hby at_74) rfl rfl k) ?_
    refine Gl.st (B := (T15.setTop (mkF m 77 L14 [(.ref b10), (.ref b15), (.ref b15)]))) (fun t k => XS.aload X15.here hx rfl (hb hby at_75) (ldAt hL14 rfl) rfl k) ?_
    refine Gl.st (B := (T15.setTop (mkF m 78 L14 [(.ref b10), (.ref b10), (.ref b15), (.ref b15)]))) (fun t k => XS.dup X15.here hx rfl (hb hby at_77) rfl rfl k) ?_
    obtain ⟨_, _, ⟨T17, L17q, k17, n17⟩, -, X17, ⟨Lc17, hQ17, l17, y17, z17⟩, st17⟩ := Jvm.LawKit.callS X15 hx (y := (⟨"java/util/Objects", "requireNonNull", "(Ljava/lang/Object;)Ljava/lang/Object;"⟩ : MethodName)) hown (mvT hZ (tw hw 17 rfl)) (mvT hZ (tw hw 18 rfl)) (mvT hZ (tw hw 19 rfl)) (mvT hZ (tw hw 20 rfl)) (by decide) (backOf (W := 3) (rm3 l Z a0 hw [] b10 h15 n0 Zc16) hZ (tw hw 20 rfl) (tw hw 19 rfl) (by decide) (by decide)) (g := (mkF m 78 L14 [(.ref b10), (.ref b10), (.ref b15), (.ref b15)])) rfl (szAt hml hL14 rfl) (argsL := [(.ref b10)]) (rest := [(.ref b10), (.ref b15), (.ref b15)]) (lenOf pd_0_1 rfl) rfl (by show 2 * 0 + _ ≤ _; exact Nat.le_of_eq rfl) (hb hby at_78) (fun _ _ => ⟨rfl, e15, (by decide : 3 + 0 ≤ _), (by decide : 5 + 0 ≤ _)⟩)
    dsimp only [Pt.U, Pt.locs, Pt.cells, Pt.slots] at X17 l17 y17 z17 st17 hQ17
    subst l17 y17 z17
    obtain ⟨rfl, N17q, eh17⟩ := hQ17
    have N17 := Fr.app N12 N17q
    refine Gl.st (B := (T17.setTop (mkF m 81 L14 [(.ref b10), (.ref b10), (.ref b15), (.ref b15)]))) (fun t k => st17 t k) ?_
    refine Gl.st (B := (T17.setTop (mkF m 82 L14 [(.ref b10), (.ref b15), (.ref b15)]))) (fun t k => XS.pop X17.here hx rfl (hb hby at_81) rfl rfl k) ?_
    obtain ⟨_, _, ⟨T18, L18q, k18, n18⟩, -, X18, ⟨Lc18, hQ18, l18, y18, z18⟩, st18⟩ := X17.specialBack hx (y := (⟨"com/example/outcomery/outcomery/PackedNumbers$Reader", "<init>", "(Lcom/example/outcomery/outcomery/PackedNumbers;)V"⟩ : MethodName)) rfl hown (mvT hZ (tw hw 21 rfl)) (mvT hZ (tw hw 22 rfl)) (mvT hZ (tw hw 23 rfl)) (by decide) (backOf (W := 1) (rm4 l Z a0 hw [] b15 b10 .null ((.int (0 : Int32))) h15 n0 Zc16 F15_this_0 F15_place A15 g_b15) hZ (tw hw 23 rfl) (tw hw 16 rfl) (by decide) (by decide)) (g := (mkF m 82 L14 [(.ref b10), (.ref b15), (.ref b15)])) rfl (szAt hml hL14 rfl) (Steps.refl _) (a := b15) (argsL := [(.ref b10)]) (rest := [(.ref b15)]) (lenOf pd_0_2 rfl) rfl (by show 2 * 0 + _ ≤ _; exact Nat.le_of_eq rfl) (hb hby at_82) (fun _ _ => ⟨rfl, eh17, (by decide : 3 + 0 ≤ _), (by decide : 5 + 0 ≤ _)⟩)
    dsimp only [Pt.U, Pt.locs, Pt.cells, Pt.slots] at X18 l18 y18 z18 st18 hQ18
    subst l18 y18 z18
    obtain ⟨rfl, N18q, Kc18, fq18_0, fq18_1, fq18_2⟩ := hQ18
    have Zc19 : n0 ≤ T18.heap.size := Nat.le_trans Zc16 Kc18.1
    have N18 := Fr.app N17 N18q
    refine Gl.st (B := (T18.setTop (mkF m 85 L14 [(.ref b15)]))) (fun t k => st18.trans k) ?_
    obtain ⟨L20, hL20⟩ : ∃ z : Array Slot, z = #[.val (.int p1), .val (.int p2), .val (.int p3), .val (.int p4), .val (.int (0 : Int32)), .val (.int y5_9_4), .val (.int y6_15_6), .val (.int y7_21_8), .val (.ref b10), .val (.ref b15)] := ⟨_, rfl⟩
    refine Gl.st (B := (T18.setTop (mkF m 87 L20 []))) (fun t k => XS.astore X18.here hx rfl (hb hby at_85) rfl rfl (l' := L20) (stAt hL14 hL20 rfl rfl) k) ?_
    refine Gl.st (B := (T18.setTop (mkF m 89 L20 [(.ref b15)]))) (fun t k => XS.aload X18.here hx rfl (hb hby at_87) (ldAt hL20 rfl) rfl k) ?_
    have ne_b10_b15_22 : b10 ≠ b15 := Nat.ne_of_lt (Nat.lt_of_lt_of_le lt_b10 (Nat.le_trans Kc12.1 (Nat.le_of_eq gq15.symm)))
    have c23 := ((fq12_2.ext E15).keep Kc18 (ninS ne_b10_b15_22 nin0))
    obtain ⟨cq21, kq21, q21a, q21b, q21c⟩ := isOf hZ rfl fq18_0
    obtain ⟨_, _, ⟨T21, L21q, k21, n21⟩, -, X21, ⟨Lc21, hQ21, l21, y21, z21⟩, st21⟩ := X18.virtualBack hx (y := (⟨"com/example/outcomery/outcomery/PackedNumbers$Reader", "hasNext", "()Z"⟩ : MethodName)) (z := (⟨"com/example/outcomery/outcomery/PackedNumbers$Reader", "hasNext", "()Z"⟩ : MethodName)) hown (mvT hZ (tw hw 27 rfl)) (mvT hZ (tw hw 28 rfl)) (notFace_of_selects (args := #[]) (mvT hZ (tw hw 30 rfl))) (mvT hZ (tw hw 30 rfl)) (mvT hZ (tw hw 29 rfl)) (by decide) (backOf (W := 0) (rm5 l Z a0 hw [] b15 (0 : Int32) b10 (0 : Int32) T18.heap n0 Zc19 fq18_1 fq18_2 c23) hZ (tw hw 31 rfl) (tw hw 16 rfl) (by decide) (by decide)) q21a q21c (g := (mkF m 89 L20 [(.ref b15)])) rfl (szAt hml hL20 rfl) (Steps.refl _) (argsL := []) (rest := []) (lenOf pd_0_3 rfl) rfl (by show 2 * 0 + _ ≤ _; exact Nat.le_of_eq rfl) (hb hby at_89) (fun _ _ => ⟨rfl, rfl, (by decide : 3 + 0 ≤ _), (by decide : 5 + 0 ≤ _)⟩)
    dsimp only [Pt.U, Pt.locs, Pt.cells, Pt.slots] at X21 l21 y21 z21 st21 hQ21
    subst l21 y21 z21
    obtain ⟨rfl, N21q, eh21⟩ := hQ21
    have N21 := Fr.app N18 N21q
    refine Gl.st (B := (T21.setTop (mkF m 92 L20 [(.int ((if (0 : Int32) < (0 : Int32) then (1 : Int32) else (0 : Int32))))]))) (fun t k => st21.trans k) ?_
    refine Gl.cast (B := (T21.setTop (mkF m 92 L20 [(.int (0 : Int32))]))) (by rw [if_neg (by decide : ¬ ((0 : Int32) < (0 : Int32)))]) ?_
    refine Gl.st (B := (T21.setTop (mkF m 94 L20 [(.int (0 : Int32)), (.int (0 : Int32))]))) (fun t k => XS.iload X21.here hx rfl (hb hby at_92) (ldAt hL20 rfl) k) ?_
    refine Gl.st (B := (T21.setTop (mkF m 95 L20 [(.int (1 : Int32)), (.int (0 : Int32)), (.int (0 : Int32))]))) (fun t k => XS.iconst X21.here hx rfl (hb hby at_94) k) ?_
    refine Gl.st (B := (T21.setTop (mkF m 102 L20 [(.int (0 : Int32))]))) (fun t k => XS.icmpYes X21.here hx rfl (pc0 := 95) (pc' := 102) rfl (hb hby at_95) rfl (by decide) (by decide) (by decide) k) ?_
    refine Gl.st (B := (T21.setTop (mkF m 103 L20 [(.int (0 : Int32)), (.int (0 : Int32))]))) (fun t k => XS.iconst X21.here hx rfl (hb hby at_102) k) ?_
    refine Gl.st (B := (T21.setTop (mkF m 108 L20 []))) (fun t k => XS.icmpYes X21.here hx rfl (pc0 := 103) (pc' := 108) rfl (hb hby at_103) rfl (by decide) (by decide) (by decide) k) ?_
    refine Gl.st (B := (T21.setTop (mkF m 110 L20 [(.ref b15)]))) (fun t k => XS.aload X21.here hx rfl (hb hby at_108) (ldAt hL20 rfl) rfl k) ?_
    obtain ⟨cq24, kq24, q24a, q24b, q24c⟩ := isOf hZ eh21 fq18_0
    obtain ⟨_, _, ⟨T24, L24q, k24, n24⟩, -, X24, ⟨Lc24, hQ24, l24, y24, z24⟩, st24⟩ := X21.virtualBack hx (y := (⟨"com/example/outcomery/outcomery/PackedNumbers$Reader", "hasNext", "()Z"⟩ : MethodName)) (z := (⟨"com/example/outcomery/outcomery/PackedNumbers$Reader", "hasNext", "()Z"⟩ : MethodName)) hown (mvT hZ (tw hw 27 rfl)) (mvT hZ (tw hw 28 rfl)) (notFace_of_selects (args := #[]) (mvT hZ (tw hw 30 rfl))) (mvT hZ (tw hw 30 rfl)) (mvT hZ (tw hw 29 rfl)) (by decide) (backOf (W := 0) (rm5 l Z a0 hw [] b15 (0 : Int32) b10 (0 : Int32) T18.heap n0 Zc19 fq18_1 fq18_2 c23) hZ (tw hw 31 rfl) (tw hw 16 rfl) (by decide) (by decide)) q24a q24c (g := (mkF m 110 L20 [(.ref b15)])) rfl (szAt hml hL20 rfl) (Steps.refl _) (argsL := []) (rest := []) (lenOf pd_0_3 rfl) rfl (by show 2 * 0 + _ ≤ _; exact Nat.le_of_eq rfl) (hb hby at_110) (fun _ _ => ⟨rfl, eh21, (by decide : 3 + 0 ≤ _), (by decide : 5 + 0 ≤ _)⟩)
    dsimp only [Pt.U, Pt.locs, Pt.cells, Pt.slots] at X24 l24 y24 z24 st24 hQ24
    subst l24 y24 z24
    obtain ⟨rfl, N24q, eh24⟩ := hQ24
    have N24 := Fr.app N21 N24q
    refine Gl.st (B := (T24.setTop (mkF m 113 L20 [(.int ((if (0 : Int32) < (0 : Int32) then (1 : Int32) else (0 : Int32))))]))) (fun t k => st24.trans k) ?_
    refine Gl.cast (B := (T24.setTop (mkF m 113 L20 [(.int (0 : Int32))]))) (by rw [if_neg (by decide : ¬ ((0 : Int32) < (0 : Int32)))]) ?_
    refine Gl.st (B := (T24.setTop (mkF m 115 L20 [(.int (0 : Int32)), (.int (0 : Int32))]))) (fun t k => XS.iload X24.here hx rfl (hb hby at_113) (ldAt hL20 rfl) k) ?_
    refine Gl.st (B := (T24.setTop (mkF m 116 L20 [(.int (1 : Int32)), (.int (0 : Int32)), (.int (0 : Int32))]))) (fun t k => XS.iconst X24.here hx rfl (hb hby at_115) k) ?_
    refine Gl.st (B := (T24.setTop (mkF m 123 L20 [(.int (0 : Int32))]))) (fun t k => XS.icmpYes X24.here hx rfl (pc0 := 116) (pc' := 123) rfl (hb hby at_116) rfl (by decide) (by decide) (by decide) k) ?_
    refine Gl.st (B := (T24.setTop (mkF m 124 L20 [(.int (0 : Int32)), (.int (0 : Int32))]))) (fun t k => XS.iconst X24.here hx rfl (hb hby at_123) k) ?_
    refine Gl.st (B := (T24.setTop (mkF m 129 L20 []))) (fun t k => XS.icmpYes X24.here hx rfl (pc0 := 124) (pc' := 129) rfl (hb hby at_124) rfl (by decide) (by decide) (by decide) k) ?_
    refine Gl.st (B := (T24.setTop (mkF m 131 L20 [(.int (0 : Int32))]))) (fun t k => XS.iload X24.here hx rfl (hb hby at_129) (ldAt hL20 rfl) k) ?_
    refine Gl.st (B := (T24.setTop (mkF m 132 L20 [(.int (1 : Int32)), (.int (0 : Int32))]))) (fun t k => XS.iconst X24.here hx rfl (hb hby at_131) k) ?_
    refine Gl.st (B := (T24.setTop (mkF m 168 L20 []))) (fun t k => XS.icmpYes X24.here hx rfl (pc0 := 132) (pc' := 168) rfl (hb hby at_132) rfl (by decide) (by decide) (by decide) k) ?_
    refine Gl.st (B := (T24.setTop (mkF m 170 L20 [(.int (0 : Int32))]))) (fun t k => XS.iload X24.here hx rfl (hb hby at_168) (ldAt hL20 rfl) k) ?_
    refine Gl.st (B := (T24.setTop (mkF m 171 L20 [(.int (2 : Int32)), (.int (0 : Int32))]))) (fun t k => XS.iconst X24.here hx rfl (hb hby at_170) k) ?_
    refine Gl.st (B := (T24.setTop (mkF m 207 L20 []))) (fun t k => XS.icmpYes X24.here hx rfl (pc0 := 171) (pc' := 207) rfl (hb hby at_171) rfl (by decide) (by decide) (by decide) k) ?_
    refine Gl.st (B := (T24.setTop (mkF m 209 L20 [(.int (0 : Int32))]))) (fun t k => XS.iload X24.here hx rfl (hb hby at_207) (ldAt hL20 rfl) k) ?_
    refine Gl.st (B := (T24.setTop (mkF m 210 L20 [(.int (3 : Int32)), (.int (0 : Int32))]))) (fun t k => XS.iconst X24.here hx rfl (hb hby at_209) k) ?_
    refine Gl.st (B := (T24.setTop (mkF m 235 L20 []))) (fun t k => XS.icmpYes X24.here hx rfl (pc0 := 210) (pc' := 235) rfl (hb hby at_210) rfl (by decide) (by decide) (by decide) k) ?_
    refine Gl.st (B := (T24.setTop (mkF m 236 L20 [(.int (1 : Int32))]))) (fun t k => XS.iconst X24.here hx rfl (hb hby at_235) k) ?_
    obtain ⟨fs, hr, hrun, hended, hW, hsame⟩ := X24.leave (v := some (.int (nar .boolean (1 : Int32)))) (fun h => by rw [Bd.returns] at h; cases h)
    refine Gl.fin (retN X24 hx (t := .boolean) Bd.returns (by simp) (hb hby at_236) hr) hrun hended ⟨_, _, rfl, ?_, ⟨_, rfl⟩, hW, hsame.mono (by decide) (by decide)⟩
    show Q0 Z p1 p2 p3 p4 h0 n0 _ T24.heap _
    rw [eh24]
    exact ⟨rfl, N24⟩
  · skip
    subst hk
    refine Gl.st (B := (s₁.setTop (mkF m 6 L2 [(.int p2)]))) (fun t k => XS.iloadN X0.here hx rfl (hb hby at_5) (ldAt hL2 rfl) k) ?_
    refine Gl.st (B := (s₁.setTop (mkF m 8 L2 [(.int (2147483647 : Int32)), (.int p2)]))) (fun t k => X0.ldcInt hx hown (mvT hZ (tw hw 0 rfl)) (g := (mkF m 6 L2 [(.int p2)])) rfl (hb hby at_6) _ k) ?_
    refine Gl.st (B := (s₁.setTop (mkF m 9 L2 [(.int (p2 &&& (2147483647 : Int32)))]))) (fun t k => XS.iand X0.here hx rfl (hb hby at_8) rfl k) ?_
    obtain ⟨y5_9_25, hy5_9_25⟩ : ∃ z : Int32, z = (p2 &&& (2147483647 : Int32)) := ⟨_, rfl⟩
    refine Gl.cast (B := (s₁.setTop (mkF m 9 L2 [(.int y5_9_25)]))) (by rw [hy5_9_25]) ?_
    obtain ⟨L26, hL26⟩ : ∃ z : Array Slot, z = #[.val (.int p1), .val (.int p2), .val (.int p3), .val (.int p4), .val (.int (1 : Int32)), .val (.int y5_9_25), .unset, .unset, .unset, .unset] := ⟨_, rfl⟩
    refine Gl.st (B := (s₁.setTop (mkF m 11 L26 []))) (fun t k => XS.istore X0.here hx rfl (hb hby at_9) rfl (l' := L26) (stAt hL2 hL26 rfl rfl) k) ?_
    refine Gl.st (B := (s₁.setTop (mkF m 12 L26 [(.int p3)]))) (fun t k => XS.iloadN X0.here hx rfl (hb hby at_11) (ldAt hL26 rfl) k) ?_
    refine Gl.st (B := (s₁.setTop (mkF m 14 L26 [(.int (2147483647 : Int32)), (.int p3)]))) (fun t k => X0.ldcInt hx hown (mvT hZ (tw hw 0 rfl)) (g := (mkF m 12 L26 [(.int p3)])) rfl (hb hby at_12) _ k) ?_
    refine Gl.st (B := (s₁.setTop (mkF m 15 L26 [(.int (p3 &&& (2147483647 : Int32)))]))) (fun t k => XS.iand X0.here hx rfl (hb hby at_14) rfl k) ?_
    obtain ⟨y6_15_27, hy6_15_27⟩ : ∃ z : Int32, z = (p3 &&& (2147483647 : Int32)) := ⟨_, rfl⟩
    refine Gl.cast (B := (s₁.setTop (mkF m 15 L26 [(.int y6_15_27)]))) (by rw [hy6_15_27]) ?_
    obtain ⟨L28, hL28⟩ : ∃ z : Array Slot, z = #[.val (.int p1), .val (.int p2), .val (.int p3), .val (.int p4), .val (.int (1 : Int32)), .val (.int y5_9_25), .val (.int y6_15_27), .unset, .unset, .unset] := ⟨_, rfl⟩
    refine Gl.st (B := (s₁.setTop (mkF m 17 L28 []))) (fun t k => XS.istore X0.here hx rfl (hb hby at_15) rfl (l' := L28) (stAt hL26 hL28 rfl rfl) k) ?_
    refine Gl.st (B := (s₁.setTop (mkF m 18 L28 [(.int p4)]))) (fun t k => XS.iloadN X0.here hx rfl (hb hby at_17) (ldAt hL28 rfl) k) ?_
    refine Gl.st (B := (s₁.setTop (mkF m 20 L28 [(.int (2147483647 : Int32)), (.int p4)]))) (fun t k => X0.ldcInt hx hown (mvT hZ (tw hw 0 rfl)) (g := (mkF m 18 L28 [(.int p4)])) rfl (hb hby at_18) _ k) ?_
    refine Gl.st (B := (s₁.setTop (mkF m 21 L28 [(.int (p4 &&& (2147483647 : Int32)))]))) (fun t k => XS.iand X0.here hx rfl (hb hby at_20) rfl k) ?_
    obtain ⟨y7_21_29, hy7_21_29⟩ : ∃ z : Int32, z = (p4 &&& (2147483647 : Int32)) := ⟨_, rfl⟩
    refine Gl.cast (B := (s₁.setTop (mkF m 21 L28 [(.int y7_21_29)]))) (by rw [hy7_21_29]) ?_
    obtain ⟨L30, hL30⟩ : ∃ z : Array Slot, z = #[.val (.int p1), .val (.int p2), .val (.int p3), .val (.int p4), .val (.int (1 : Int32)), .val (.int y5_9_25), .val (.int y6_15_27), .val (.int y7_21_29), .unset, .unset] := ⟨_, rfl⟩
    refine Gl.st (B := (s₁.setTop (mkF m 23 L30 []))) (fun t k => XS.istore X0.here hx rfl (hb hby at_21) rfl (l' := L30) (stAt hL28 hL30 rfl rfl) k) ?_
    obtain ⟨T31, h31, X31, e31, E31, A31, D31, -, st31⟩ := newO X0 hx hZ hown (tw hw 1 rfl) (tw hw 2 rfl) (tw hw 3 rfl) e0 (g := (mkF m 23 L30 [])) rfl (hb hby at_23) (by decide) (by decide)
    obtain ⟨b31, gq31⟩ : ∃ z, z = h0.size := ⟨_, rfl⟩
    rw [← gq31] at A31 D31 st31
    have g_b31 : n0 ≤ b31 := Nat.le_trans Z0 (Nat.le_of_eq gq31.symm)
    have lt_b31 := A31.lt
    have Zc32 : n0 ≤ h31.size := Nat.le_trans Z0 E31.1
    have F31_pieces : Fld Z h31 b31 "com/example/outcomery/outcomery/PackedNumbers" "pieces" "[[B" .null := D31 (Or.inl (tw hw 13 rfl)) (ty := (.array (.array .byte))) (by decide)
    have F31_length : Fld Z h31 b31 "com/example/outcomery/outcomery/PackedNumbers" "length" "I" (.int (0 : Int32)) := D31 (Or.inl (tw hw 35 rfl)) (ty := .int) (by decide)
    refine Gl.st (B := (T31.setTop (mkF m 26 L30 [(.ref b31)]))) st31 ?_
    refine Gl.st (B := (T31.setTop (mkF m 27 L30 [(.ref b31), (.ref b31)]))) (fun t k => XS.dup X31.here hx rfl (hb hby at_26) rfl rfl k) ?_
    obtain ⟨_, _, ⟨T33, L33q, k33, n33⟩, -, X33, ⟨Lc33, hQ33, l33, y33, z33⟩, st33⟩ := X31.specialBack hx (y := (⟨"com/example/outcomery/outcomery/PackedNumbers", "<init>", "()V"⟩ : MethodName)) rfl hown (mvT hZ (tw hw 4 rfl)) (mvT hZ (tw hw 5 rfl)) (mvT hZ (tw hw 6 rfl)) (by decide) (backOf (W := 1) (rm1 l Z a0 hw [] b31 .null ((.int (0 : Int32))) h31 n0 Zc32 F31_pieces F31_length A31 g_b31) hZ (tw hw 6 rfl) (tw hw 3 rfl) (by decide) (by decide)) (g := (mkF m 27 L30 [(.ref b31), (.ref b31)])) rfl (szAt hml hL30 rfl) (Steps.refl _) (a := b31) (argsL := []) (rest := [(.ref b31)]) (lenOf pd_0_0 rfl) rfl (by show 2 * 0 + _ ≤ _; exact Nat.le_of_eq rfl) (hb hby at_27) (fun _ _ => ⟨rfl, e31, (by decide : 1 + 1 ≤ _), (by decide : 2 + 1 ≤ _)⟩)
    dsimp only [Pt.U, Pt.locs, Pt.cells, Pt.slots] at X33 l33 y33 z33 st33 hQ33
    subst l33 y33 z33
    obtain ⟨b33_t0, k33_kx_t0, rfl, N33q, Kc33, fq33_0, fq33_1, fq33_2, fq33_3, fq33_4, fq33_5, fq33_6⟩ := hQ33
    have g_b33_t0 : n0 ≤ b33_t0 := Nat.le_trans Zc32 fq33_0
    have lt_b33_t0 := fq33_4.lt
    have Zc34 : n0 ≤ T33.heap.size := Nat.le_trans Zc32 Kc33.1
    have N33 := Fr.app N0 N33q
    refine Gl.st (B := (T33.setTop (mkF m 30 L30 [(.ref b31)]))) (fun t k => st33.trans k) ?_
    obtain ⟨L35, hL35⟩ : ∃ z : Array Slot, z = #[.val (.int p1), .val (.int p2), .val (.int p3), .val (.int p4), .val (.int (1 : Int32)), .val (.int y5_9_25), .val (.int y6_15_27), .val (.int y7_21_29), .val (.ref b31), .unset] := ⟨_, rfl⟩
    refine Gl.st (B := (T33.setTop (mkF m 32 L35 []))) (fun t k => XS.astore X33.here hx rfl (hb hby at_30) rfl rfl (l' := L35) (stAt hL30 hL35 rfl rfl) k) ?_
    refine Gl.st (B := (T33.setTop (mkF m 34 L35 [(.int (1 : Int32))]))) (fun t k => XS.iload X33.here hx rfl (hb hby at_32) (ldAt hL35 rfl) k) ?_
    refine Gl.st (B := (T33.setTop (mkF m 35 L35 [(.int (1 : Int32)), (.int (1 : Int32))]))) (fun t k => XS.iconst X33.here hx rfl (hb hby at_34) k) ?_
    refine Gl.st (B := (T33.setTop (mkF m 38 L35 []))) (fun t k => XS.icmpNo X33.here hx rfl (hb hby at_35) rfl (by decide) k) ?_
    refine Gl.st (B := (T33.setTop (mkF m 40 L35 [(.ref b31)]))) (fun t k => XS.aload X33.here hx rfl (hb hby at_38) (ldAt hL35 rfl) rfl k) ?_
    refine Gl.st (B := (T33.setTop (mkF m 42 L35 [(.int y5_9_25), (.ref b31)]))) (fun t k => XS.iload X33.here hx rfl (hb hby at_40) (ldAt hL35 rfl) k) ?_
    have G0 : ¬ y5_9_25 < 0 := by
      exact own_m31 _ _ hy5_9_25
    have G1 : ¬ y6_15_27 < 0 := by
      exact own_m31 _ _ hy6_15_27
    have G2 : ¬ y7_21_29 < 0 := by
      exact own_m31 _ _ hy7_21_29
    have hp42_37 : ¬ y5_9_25 < 0 := by
      exact G0
    have ne_b31_b33_t0_38 : b31 ≠ b33_t0 := Nat.ne_of_lt (Nat.lt_of_lt_of_le lt_b31 fq33_0)
    obtain ⟨cq36, kq36, q36a, q36b, q36c⟩ := isOf hZ rfl fq33_1
    obtain ⟨_, _, ⟨T36, L36q, k36, n36⟩, -, X36, ⟨Lc36, hQ36, l36, y36, z36⟩, st36⟩ := X33.virtualBack hx (y := (⟨"com/example/outcomery/outcomery/PackedNumbers", "add", "(I)V"⟩ : MethodName)) (z := (⟨"com/example/outcomery/outcomery/PackedNumbers", "add", "(I)V"⟩ : MethodName)) hown (mvT hZ (tw hw 36 rfl)) (mvT hZ (tw hw 37 rfl)) (notFace_of_selects (args := #[]) (mvT hZ (tw hw 39 rfl))) (mvT hZ (tw hw 39 rfl)) (mvT hZ (tw hw 38 rfl)) (by decide) (backOf (W := 0) (rm6f l Z a0 hw [] b31 y5_9_25 k33_kx_t0 b33_t0 T33.heap n0 Zc34 fq33_5 fq33_6 fq33_3 hp42_37 fq33_2 g_b33_t0 ne_b31_b33_t0_38 fq33_1 g_b31) hZ (tw hw 40 rfl) (tw hw 3 rfl) (by decide) (by decide)) q36a q36c (g := (mkF m 42 L35 [(.int y5_9_25), (.ref b31)])) rfl (szAt hml hL35 rfl) (Steps.refl _) (argsL := [(.int y5_9_25)]) (rest := []) (lenOf pd_0_4 rfl) rfl (by show 2 * 0 + _ ≤ _; exact Nat.le_of_eq rfl) (hb hby at_42) (fun _ _ => ⟨rfl, rfl, (by decide : 2 + 1 ≤ _), (by decide : 3 + 64 ≤ _)⟩)
    dsimp only [Pt.U, Pt.locs, Pt.cells, Pt.slots] at X36 l36 y36 z36 st36 hQ36
    subst l36 y36 z36
    obtain ⟨b36_t0, k36_kx_t0, rfl, N36q, Kc36, fq36_0, fq36_1, fq36_2, fq36_3, fq36_4, fq36_5, fq36_6, fq36_7⟩ := hQ36
    have g_b36_t0 : n0 ≤ b36_t0 := Nat.le_trans Zc34 fq36_0
    have lt_b36_t0 := fq36_6.lt
    have Zc39 : n0 ≤ T36.heap.size := Nat.le_trans Zc34 Kc36.1
    obtain ⟨f42_40, hf42_40⟩ : ∃ z : Int32, z = (own_F (0 : Int32) y5_9_25) := ⟨_, rfl⟩
    rw [← hf42_40] at fq36_2
    obtain ⟨vl42_41, hvl42_41⟩ : ∃ z : List Value, z = (own_E [] y5_9_25) := ⟨_, rfl⟩
    rw [← hvl42_41] at fq36_7
    have N36 := Fr.app N33 N36q
    refine Gl.st (B := (T36.setTop (mkF m 45 L35 []))) (fun t k => st36.trans k) ?_
    have T0 : f42_40.toInt = (own_L y5_9_25).toInt := by
      exact own_t1 _ _ G0 hf42_40
    have X0 : vl42_41 = own_E [] y5_9_25 := by
      exact hvl42_41
    refine Gl.st (B := (T36.setTop (mkF m 47 L35 [(.int (1 : Int32))]))) (fun t k => XS.iload X36.here hx rfl (hb hby at_45) (ldAt hL35 rfl) k) ?_
    refine Gl.st (B := (T36.setTop (mkF m 48 L35 [(.int (2 : Int32)), (.int (1 : Int32))]))) (fun t k => XS.iconst X36.here hx rfl (hb hby at_47) k) ?_
    refine Gl.st (B := (T36.setTop (mkF m 58 L35 []))) (fun t k => XS.icmpYes X36.here hx rfl (pc0 := 48) (pc' := 58) rfl (hb hby at_48) rfl (by decide) (by decide) (by decide) k) ?_
    refine Gl.st (B := (T36.setTop (mkF m 60 L35 [(.int (1 : Int32))]))) (fun t k => XS.iload X36.here hx rfl (hb hby at_58) (ldAt hL35 rfl) k) ?_
    refine Gl.st (B := (T36.setTop (mkF m 61 L35 [(.int (3 : Int32)), (.int (1 : Int32))]))) (fun t k => XS.iconst X36.here hx rfl (hb hby at_60) k) ?_
    refine Gl.st (B := (T36.setTop (mkF m 71 L35 []))) (fun t k => XS.icmpYes X36.here hx rfl (pc0 := 61) (pc' := 71) rfl (hb hby at_61) rfl (by decide) (by decide) (by decide) k) ?_
    obtain ⟨T42, h42, X42, e42, E42, A42, D42, -, st42⟩ := newO X36 hx hZ hown (tw hw 14 rfl) (tw hw 15 rfl) (tw hw 16 rfl) rfl (g := (mkF m 71 L35 [])) rfl (hb hby at_71) (by decide) (by decide)
    obtain ⟨b42, gq42⟩ : ∃ z, z = T36.heap.size := ⟨_, rfl⟩
    rw [← gq42] at A42 D42 st42
    have g_b42 : n0 ≤ b42 := Nat.le_trans Zc39 (Nat.le_of_eq gq42.symm)
    have lt_b42 := A42.lt
    have Zc43 : n0 ≤ h42.size := Nat.le_trans Zc39 E42.1
    have F42_this_0 : Fld Z h42 b42 "com/example/outcomery/outcomery/PackedNumbers$Reader" "this$0" "Lcom/example/outcomery/outcomery/PackedNumbers;" .null := D42 (Or.inr (tw hw 25 rfl)) (ty := (.object "com/example/outcomery/outcomery/PackedNumbers")) (by decide)
    have F42_place : Fld Z h42 b42 "com/example/outcomery/outcomery/PackedNumbers$Reader" "place" "I" (.int (0 : Int32)) := D42 (Or.inl (tw hw 33 rfl)) (ty := .int) (by decide)
    refine Gl.st (B := (T42.setTop (mkF m 74 L35 [(.ref b42)]))) st42 ?_
    refine Gl.st (B := (T42.setTop (mkF m 75 L35 [(.ref b42), (.ref b42)]))) (fun t k => XS.dup X42.here hx rfl (hb hby at_74) rfl rfl k) ?_
    refine Gl.st (B := (T42.setTop (mkF m 77 L35 [(.ref b31), (.ref b42), (.ref b42)]))) (fun t k => XS.aload X42.here hx rfl (hb hby at_75) (ldAt hL35 rfl) rfl k) ?_
    refine Gl.st (B := (T42.setTop (mkF m 78 L35 [(.ref b31), (.ref b31), (.ref b42), (.ref b42)]))) (fun t k => XS.dup X42.here hx rfl (hb hby at_77) rfl rfl k) ?_
    obtain ⟨_, _, ⟨T44, L44q, k44, n44⟩, -, X44, ⟨Lc44, hQ44, l44, y44, z44⟩, st44⟩ := Jvm.LawKit.callS X42 hx (y := (⟨"java/util/Objects", "requireNonNull", "(Ljava/lang/Object;)Ljava/lang/Object;"⟩ : MethodName)) hown (mvT hZ (tw hw 17 rfl)) (mvT hZ (tw hw 18 rfl)) (mvT hZ (tw hw 19 rfl)) (mvT hZ (tw hw 20 rfl)) (by decide) (backOf (W := 3) (rm3 l Z a0 hw [] b31 h42 n0 Zc43) hZ (tw hw 20 rfl) (tw hw 19 rfl) (by decide) (by decide)) (g := (mkF m 78 L35 [(.ref b31), (.ref b31), (.ref b42), (.ref b42)])) rfl (szAt hml hL35 rfl) (argsL := [(.ref b31)]) (rest := [(.ref b31), (.ref b42), (.ref b42)]) (lenOf pd_0_1 rfl) rfl (by show 2 * 0 + _ ≤ _; exact Nat.le_of_eq rfl) (hb hby at_78) (fun _ _ => ⟨rfl, e42, (by decide : 4 + 0 ≤ _), (by decide : 69 + 0 ≤ _)⟩)
    dsimp only [Pt.U, Pt.locs, Pt.cells, Pt.slots] at X44 l44 y44 z44 st44 hQ44
    subst l44 y44 z44
    obtain ⟨rfl, N44q, eh44⟩ := hQ44
    have N44 := Fr.app N36 N44q
    refine Gl.st (B := (T44.setTop (mkF m 81 L35 [(.ref b31), (.ref b31), (.ref b42), (.ref b42)]))) (fun t k => st44 t k) ?_
    refine Gl.st (B := (T44.setTop (mkF m 82 L35 [(.ref b31), (.ref b42), (.ref b42)]))) (fun t k => XS.pop X44.here hx rfl (hb hby at_81) rfl rfl k) ?_
    obtain ⟨_, _, ⟨T45, L45q, k45, n45⟩, -, X45, ⟨Lc45, hQ45, l45, y45, z45⟩, st45⟩ := X44.specialBack hx (y := (⟨"com/example/outcomery/outcomery/PackedNumbers$Reader", "<init>", "(Lcom/example/outcomery/outcomery/PackedNumbers;)V"⟩ : MethodName)) rfl hown (mvT hZ (tw hw 21 rfl)) (mvT hZ (tw hw 22 rfl)) (mvT hZ (tw hw 23 rfl)) (by decide) (backOf (W := 1) (rm4 l Z a0 hw [] b42 b31 .null ((.int (0 : Int32))) h42 n0 Zc43 F42_this_0 F42_place A42 g_b42) hZ (tw hw 23 rfl) (tw hw 16 rfl) (by decide) (by decide)) (g := (mkF m 82 L35 [(.ref b31), (.ref b42), (.ref b42)])) rfl (szAt hml hL35 rfl) (Steps.refl _) (a := b42) (argsL := [(.ref b31)]) (rest := [(.ref b42)]) (lenOf pd_0_2 rfl) rfl (by show 2 * 0 + _ ≤ _; exact Nat.le_of_eq rfl) (hb hby at_82) (fun _ _ => ⟨rfl, eh44, (by decide : 4 + 0 ≤ _), (by decide : 69 + 0 ≤ _)⟩)
    dsimp only [Pt.U, Pt.locs, Pt.cells, Pt.slots] at X45 l45 y45 z45 st45 hQ45
    subst l45 y45 z45
    obtain ⟨rfl, N45q, Kc45, fq45_0, fq45_1, fq45_2⟩ := hQ45
    have Zc46 : n0 ≤ T45.heap.size := Nat.le_trans Zc43 Kc45.1
    have N45 := Fr.app N44 N45q
    refine Gl.st (B := (T45.setTop (mkF m 85 L35 [(.ref b42)]))) (fun t k => st45.trans k) ?_
    obtain ⟨L47, hL47⟩ : ∃ z : Array Slot, z = #[.val (.int p1), .val (.int p2), .val (.int p3), .val (.int p4), .val (.int (1 : Int32)), .val (.int y5_9_25), .val (.int y6_15_27), .val (.int y7_21_29), .val (.ref b31), .val (.ref b42)] := ⟨_, rfl⟩
    refine Gl.st (B := (T45.setTop (mkF m 87 L47 []))) (fun t k => XS.astore X45.here hx rfl (hb hby at_85) rfl rfl (l' := L47) (stAt hL35 hL47 rfl rfl) k) ?_
    refine Gl.st (B := (T45.setTop (mkF m 89 L47 [(.ref b42)]))) (fun t k => XS.aload X45.here hx rfl (hb hby at_87) (ldAt hL47 rfl) rfl k) ?_
    have ne_b31_b42_49 : b31 ≠ b42 := Nat.ne_of_lt (Nat.lt_of_lt_of_le lt_b31 (Nat.le_trans Kc33.1 (Nat.le_trans Kc36.1 (Nat.le_of_eq gq42.symm))))
    have c50 := ((fq36_2.ext E42).keep Kc45 (ninS ne_b31_b42_49 nin0))
    obtain ⟨cq48, kq48, q48a, q48b, q48c⟩ := isOf hZ rfl fq45_0
    obtain ⟨_, _, ⟨T48, L48q, k48, n48⟩, -, X48, ⟨Lc48, hQ48, l48, y48, z48⟩, st48⟩ := X45.virtualBack hx (y := (⟨"com/example/outcomery/outcomery/PackedNumbers$Reader", "hasNext", "()Z"⟩ : MethodName)) (z := (⟨"com/example/outcomery/outcomery/PackedNumbers$Reader", "hasNext", "()Z"⟩ : MethodName)) hown (mvT hZ (tw hw 27 rfl)) (mvT hZ (tw hw 28 rfl)) (notFace_of_selects (args := #[]) (mvT hZ (tw hw 30 rfl))) (mvT hZ (tw hw 30 rfl)) (mvT hZ (tw hw 29 rfl)) (by decide) (backOf (W := 0) (rm5 l Z a0 hw [] b42 (0 : Int32) b31 f42_40 T45.heap n0 Zc46 fq45_1 fq45_2 c50) hZ (tw hw 31 rfl) (tw hw 16 rfl) (by decide) (by decide)) q48a q48c (g := (mkF m 89 L47 [(.ref b42)])) rfl (szAt hml hL47 rfl) (Steps.refl _) (argsL := []) (rest := []) (lenOf pd_0_3 rfl) rfl (by show 2 * 0 + _ ≤ _; exact Nat.le_of_eq rfl) (hb hby at_89) (fun _ _ => ⟨rfl, rfl, (by decide : 4 + 0 ≤ _), (by decide : 69 + 0 ≤ _)⟩)
    dsimp only [Pt.U, Pt.locs, Pt.cells, Pt.slots] at X48 l48 y48 z48 st48 hQ48
    subst l48 y48 z48
    obtain ⟨rfl, N48q, eh48⟩ := hQ48
    have N48 := Fr.app N45 N48q
    refine Gl.st (B := (T48.setTop (mkF m 92 L47 [(.int ((if (0 : Int32) < f42_40 then (1 : Int32) else (0 : Int32))))]))) (fun t k => st48.trans k) ?_
    obtain ⟨r89_51, hr89_51⟩ : ∃ z : Int32, z = ((if (0 : Int32) < f42_40 then (1 : Int32) else (0 : Int32))) := ⟨_, rfl⟩
    refine Gl.cast (B := (T48.setTop (mkF m 92 L47 [(.int r89_51)]))) (by rw [hr89_51]) ?_
    refine Gl.st (B := (T48.setTop (mkF m 94 L47 [(.int (1 : Int32)), (.int r89_51)]))) (fun t k => XS.iload X48.here hx rfl (hb hby at_92) (ldAt hL47 rfl) k) ?_
    refine Gl.st (B := (T48.setTop (mkF m 95 L47 [(.int (1 : Int32)), (.int (1 : Int32)), (.int r89_51)]))) (fun t k => XS.iconst X48.here hx rfl (hb hby at_94) k) ?_
    refine Gl.st (B := (T48.setTop (mkF m 98 L47 [(.int r89_51)]))) (fun t k => XS.icmpNo X48.here hx rfl (hb hby at_95) rfl (by decide) k) ?_
    refine Gl.st (B := (T48.setTop (mkF m 99 L47 [(.int (1 : Int32)), (.int r89_51)]))) (fun t k => XS.iconst X48.here hx rfl (hb hby at_98) k) ?_
    refine Gl.st (B := (T48.setTop (mkF m 103 L47 [(.int (1 : Int32)), (.int r89_51)]))) (fun t k => XS.goto X48.here hx rfl (pc0 := 99) (pc' := 103) rfl (hb hby at_99) (by decide) (by decide) k) ?_
    have hc103_52 : r89_51 = (1 : Int32) := own_0_hc103_52 p2 y5_9_25 f42_40 r89_51 p3 y6_15_27 p4 y7_21_29 hy5_9_25 hf42_40 hr89_51 hy6_15_27 hy7_21_29 G0 G1 G2 T0
    refine Gl.st (B := (T48.setTop (mkF m 108 L47 []))) (fun t k => XS.icmpYes X48.here hx rfl (pc0 := 103) (pc' := 108) rfl (hb hby at_103) rfl (teq hc103_52).1 (by decide) (by decide) k) ?_
    refine Gl.st (B := (T48.setTop (mkF m 110 L47 [(.ref b42)]))) (fun t k => XS.aload X48.here hx rfl (hb hby at_108) (ldAt hL47 rfl) rfl k) ?_
    obtain ⟨cq53, kq53, q53a, q53b, q53c⟩ := isOf hZ eh48 fq45_0
    obtain ⟨_, _, ⟨T53, L53q, k53, n53⟩, -, X53, ⟨Lc53, hQ53, l53, y53, z53⟩, st53⟩ := X48.virtualBack hx (y := (⟨"com/example/outcomery/outcomery/PackedNumbers$Reader", "hasNext", "()Z"⟩ : MethodName)) (z := (⟨"com/example/outcomery/outcomery/PackedNumbers$Reader", "hasNext", "()Z"⟩ : MethodName)) hown (mvT hZ (tw hw 27 rfl)) (mvT hZ (tw hw 28 rfl)) (notFace_of_selects (args := #[]) (mvT hZ (tw hw 30 rfl))) (mvT hZ (tw hw 30 rfl)) (mvT hZ (tw hw 29 rfl)) (by decide) (backOf (W := 0) (rm5 l Z a0 hw [] b42 (0 : Int32) b31 f42_40 T45.heap n0 Zc46 fq45_1 fq45_2 c50) hZ (tw hw 31 rfl) (tw hw 16 rfl) (by decide) (by decide)) q53a q53c (g := (mkF m 110 L47 [(.ref b42)])) rfl (szAt hml hL47 rfl) (Steps.refl _) (argsL := []) (rest := []) (lenOf pd_0_3 rfl) rfl (by show 2 * 0 + _ ≤ _; exact Nat.le_of_eq rfl) (hb hby at_110) (fun _ _ => ⟨rfl, eh48, (by decide : 4 + 0 ≤ _), (by decide : 69 + 0 ≤ _)⟩)
    dsimp only [Pt.U, Pt.locs, Pt.cells, Pt.slots] at X53 l53 y53 z53 st53 hQ53
    subst l53 y53 z53
    obtain ⟨rfl, N53q, eh53⟩ := hQ53
    have N53 := Fr.app N48 N53q
    refine Gl.st (B := (T53.setTop (mkF m 113 L47 [(.int ((if (0 : Int32) < f42_40 then (1 : Int32) else (0 : Int32))))]))) (fun t k => st53.trans k) ?_
    obtain ⟨r110_54, hr110_54⟩ : ∃ z : Int32, z = ((if (0 : Int32) < f42_40 then (1 : Int32) else (0 : Int32))) := ⟨_, rfl⟩
    refine Gl.cast (B := (T53.setTop (mkF m 113 L47 [(.int r110_54)]))) (by rw [hr110_54]) ?_
    refine Gl.st (B := (T53.setTop (mkF m 115 L47 [(.int (1 : Int32)), (.int r110_54)]))) (fun t k => XS.iload X53.here hx rfl (hb hby at_113) (ldAt hL47 rfl) k) ?_
    refine Gl.st (B := (T53.setTop (mkF m 116 L47 [(.int (1 : Int32)), (.int (1 : Int32)), (.int r110_54)]))) (fun t k => XS.iconst X53.here hx rfl (hb hby at_115) k) ?_
    refine Gl.st (B := (T53.setTop (mkF m 119 L47 [(.int r110_54)]))) (fun t k => XS.icmpNo X53.here hx rfl (hb hby at_116) rfl (by decide) k) ?_
    refine Gl.st (B := (T53.setTop (mkF m 120 L47 [(.int (1 : Int32)), (.int r110_54)]))) (fun t k => XS.iconst X53.here hx rfl (hb hby at_119) k) ?_
    refine Gl.st (B := (T53.setTop (mkF m 124 L47 [(.int (1 : Int32)), (.int r110_54)]))) (fun t k => XS.goto X53.here hx rfl (pc0 := 120) (pc' := 124) rfl (hb hby at_120) (by decide) (by decide) k) ?_
    have hc124_55 : r110_54 = (1 : Int32) := own_0_hc124_55 p2 y5_9_25 f42_40 r110_54 p3 y6_15_27 p4 y7_21_29 hy5_9_25 hf42_40 hr110_54 hy6_15_27 hy7_21_29 G0 G1 G2 T0
    refine Gl.st (B := (T53.setTop (mkF m 129 L47 []))) (fun t k => XS.icmpYes X53.here hx rfl (pc0 := 124) (pc' := 129) rfl (hb hby at_124) rfl (teq hc124_55).1 (by decide) (by decide) k) ?_
    refine Gl.st (B := (T53.setTop (mkF m 131 L47 [(.int (1 : Int32))]))) (fun t k => XS.iload X53.here hx rfl (hb hby at_129) (ldAt hL47 rfl) k) ?_
    refine Gl.st (B := (T53.setTop (mkF m 132 L47 [(.int (1 : Int32)), (.int (1 : Int32))]))) (fun t k => XS.iconst X53.here hx rfl (hb hby at_131) k) ?_
    refine Gl.st (B := (T53.setTop (mkF m 135 L47 []))) (fun t k => XS.icmpNo X53.here hx rfl (hb hby at_132) rfl (by decide) k) ?_
    refine Gl.st (B := (T53.setTop (mkF m 137 L47 [(.ref b42)]))) (fun t k => XS.aload X53.here hx rfl (hb hby at_135) (ldAt hL47 rfl) rfl k) ?_
    have c57 := ((fq36_3.ext E42).keep Kc45 (ninS ne_b31_b42_49 nin0))
    have ne_b33_t0_b42_58 : b33_t0 ≠ b42 := Nat.ne_of_lt (Nat.lt_of_lt_of_le lt_b33_t0 (Nat.le_trans Kc36.1 (Nat.le_of_eq gq42.symm)))
    have c59 := ((fq36_4.ext E42).keep Kc45 (ninS ne_b33_t0_b42_58 nin0))
    have ne_b36_t0_b42_60 : b36_t0 ≠ b42 := Nat.ne_of_lt (Nat.lt_of_lt_of_le lt_b36_t0 (Nat.le_of_eq gq42.symm))
    have c61 := ((fq36_7.ext E42).keep Kc45 (ninS ne_b36_t0_b42_60 nin0))
    have hp137_62 : ¬ (0 : Int32) < 0 := by
      decide
    have hp137_63 : (0 : Int32) < 58 := by
      decide
    have hp137_64 : ∀ v ∈ vl42_41, ∃ x, v = .int x := own_0_hp137_64 p2 y5_9_25 vl42_41 p3 y6_15_27 p4 y7_21_29 hy5_9_25 hvl42_41 hy6_15_27 hy7_21_29 G0 G1 G2 X0
    have hp137_65 : ¬ ((own_at vl42_41 (0 : Int32) &&& (255 : Int32)) < (128 : Int32)) → ¬ ((own_at vl42_41 ((0 : Int32) + (1 : Int32)) &&& (255 : Int32)) < (128 : Int32)) → ¬ ((own_at vl42_41 (((0 : Int32) + (1 : Int32)) + (1 : Int32)) &&& (255 : Int32)) < (128 : Int32)) → ¬ ((own_at vl42_41 ((((0 : Int32) + (1 : Int32)) + (1 : Int32)) + (1 : Int32)) &&& (255 : Int32)) < (128 : Int32)) → (own_at vl42_41 (((((0 : Int32) + (1 : Int32)) + (1 : Int32)) + (1 : Int32)) + (1 : Int32)) &&& (255 : Int32)) < (128 : Int32) := own_0_hp137_65 p2 y5_9_25 vl42_41 p3 y6_15_27 p4 y7_21_29 hy5_9_25 hvl42_41 hy6_15_27 hy7_21_29 G0 G1 G2 X0
    have c66 := ((fq36_1.ext E42).keep Kc45)
    obtain ⟨cq56, kq56, q56a, q56b, q56c⟩ := isOf hZ eh53 fq45_0
    obtain ⟨_, _, ⟨T56, L56q, k56, n56⟩, -, X56, ⟨Lc56, hQ56, l56, y56, z56⟩, st56⟩ := X53.virtualBack hx (y := (⟨"com/example/outcomery/outcomery/PackedNumbers$Reader", "next", "()I"⟩ : MethodName)) (z := (⟨"com/example/outcomery/outcomery/PackedNumbers$Reader", "next", "()I"⟩ : MethodName)) hown (mvT hZ (tw hw 49 rfl)) (mvT hZ (tw hw 50 rfl)) (notFace_of_selects (args := #[]) (mvT hZ (tw hw 52 rfl))) (mvT hZ (tw hw 52 rfl)) (mvT hZ (tw hw 51 rfl)) (by decide) (backOf (W := 0) (rm8 l Z a0 hw [] b42 k33_kx_t0 b36_t0 k36_kx_t0 vl42_41 b31 (0 : Int32) b33_t0 T45.heap n0 Zc46 c59 c61 fq45_2 fq45_1 hp137_62 hp137_63 hp137_64 hp137_65 c57 c66 fq45_0 g_b42 (Ne.symm ne_b31_b42_49) (Ne.symm ne_b33_t0_b42_58) (Ne.symm ne_b36_t0_b42_60)) hZ (tw hw 53 rfl) (tw hw 16 rfl) (by decide) (by decide)) q56a q56c (g := (mkF m 137 L47 [(.ref b42)])) rfl (szAt hml hL47 rfl) (Steps.refl _) (argsL := []) (rest := []) (lenOf pd_0_5 rfl) rfl (by show 2 * 0 + _ ≤ _; exact Nat.le_of_eq rfl) (hb hby at_137) (fun _ _ => ⟨rfl, eh53, (by decide : 4 + 0 ≤ _), (by decide : 69 + 0 ≤ _)⟩)
    dsimp only [Pt.U, Pt.locs, Pt.cells, Pt.slots] at X56 l56 y56 z56 st56 hQ56
    subst l56 y56 z56
    obtain ⟨rfl, N56q, Kc56, fq56_0, fq56_1, fq56_2⟩ := hQ56
    have Zc67 : n0 ≤ T56.heap.size := Nat.le_trans Zc46 Kc56.1
    obtain ⟨f137_68, hf137_68⟩ : ∃ z : Int32, z = (own_P vl42_41 (0 : Int32)) := ⟨_, rfl⟩
    rw [← hf137_68] at fq56_1
    have N56 := Fr.app N53 N56q
    refine Gl.st (B := (T56.setTop (mkF m 140 L47 [(.int (own_N vl42_41 (0 : Int32)))]))) (fun t k => st56.trans k) ?_
    obtain ⟨r137_69, hr137_69⟩ : ∃ z : Int32, z = (own_N vl42_41 (0 : Int32)) := ⟨_, rfl⟩
    refine Gl.cast (B := (T56.setTop (mkF m 140 L47 [(.int r137_69)]))) (by rw [hr137_69]) ?_
    have U0 : f137_68.toInt = (own_L y5_9_25).toInt := own_0_U0 p2 y5_9_25 vl42_41 f137_68 p3 y6_15_27 p4 y7_21_29 hy5_9_25 hvl42_41 hf137_68 hy6_15_27 hy7_21_29 G0 G1 G2 X0
    refine Gl.st (B := (T56.setTop (mkF m 142 L47 [(.int y5_9_25), (.int r137_69)]))) (fun t k => XS.iload X56.here hx rfl (hb hby at_140) (ldAt hL47 rfl) k) ?_
    have hc142_70 : r137_69 = y5_9_25 := own_0_hc142_70 p2 y5_9_25 vl42_41 r137_69 p3 y6_15_27 p4 y7_21_29 hy5_9_25 hvl42_41 hr137_69 hy6_15_27 hy7_21_29 G0 G1 G2 X0
    refine Gl.st (B := (T56.setTop (mkF m 147 L47 []))) (fun t k => XS.icmpYes X56.here hx rfl (pc0 := 142) (pc' := 147) rfl (hb hby at_142) rfl (teq hc142_70).1 (by decide) (by decide) k) ?_
    refine Gl.st (B := (T56.setTop (mkF m 149 L47 [(.ref b42)]))) (fun t k => XS.aload X56.here hx rfl (hb hby at_147) (ldAt hL47 rfl) rfl k) ?_
    have c72 := (c50.keep Kc56 (ninS ne_b31_b42_49 nin0))
    obtain ⟨cq71, kq71, q71a, q71b, q71c⟩ := isOf hZ rfl fq56_0
    obtain ⟨_, _, ⟨T71, L71q, k71, n71⟩, -, X71, ⟨Lc71, hQ71, l71, y71, z71⟩, st71⟩ := X56.virtualBack hx (y := (⟨"com/example/outcomery/outcomery/PackedNumbers$Reader", "hasNext", "()Z"⟩ : MethodName)) (z := (⟨"com/example/outcomery/outcomery/PackedNumbers$Reader", "hasNext", "()Z"⟩ : MethodName)) hown (mvT hZ (tw hw 27 rfl)) (mvT hZ (tw hw 28 rfl)) (notFace_of_selects (args := #[]) (mvT hZ (tw hw 30 rfl))) (mvT hZ (tw hw 30 rfl)) (mvT hZ (tw hw 29 rfl)) (by decide) (backOf (W := 0) (rm5 l Z a0 hw [] b42 f137_68 b31 f42_40 T56.heap n0 Zc67 fq56_1 fq56_2 c72) hZ (tw hw 31 rfl) (tw hw 16 rfl) (by decide) (by decide)) q71a q71c (g := (mkF m 149 L47 [(.ref b42)])) rfl (szAt hml hL47 rfl) (Steps.refl _) (argsL := []) (rest := []) (lenOf pd_0_3 rfl) rfl (by show 2 * 0 + _ ≤ _; exact Nat.le_of_eq rfl) (hb hby at_149) (fun _ _ => ⟨rfl, rfl, (by decide : 4 + 0 ≤ _), (by decide : 69 + 0 ≤ _)⟩)
    dsimp only [Pt.U, Pt.locs, Pt.cells, Pt.slots] at X71 l71 y71 z71 st71 hQ71
    subst l71 y71 z71
    obtain ⟨rfl, N71q, eh71⟩ := hQ71
    have N71 := Fr.app N56 N71q
    refine Gl.st (B := (T71.setTop (mkF m 152 L47 [(.int ((if f137_68 < f42_40 then (1 : Int32) else (0 : Int32))))]))) (fun t k => st71.trans k) ?_
    obtain ⟨r149_73, hr149_73⟩ : ∃ z : Int32, z = ((if f137_68 < f42_40 then (1 : Int32) else (0 : Int32))) := ⟨_, rfl⟩
    refine Gl.cast (B := (T71.setTop (mkF m 152 L47 [(.int r149_73)]))) (by rw [hr149_73]) ?_
    refine Gl.st (B := (T71.setTop (mkF m 154 L47 [(.int (1 : Int32)), (.int r149_73)]))) (fun t k => XS.iload X71.here hx rfl (hb hby at_152) (ldAt hL47 rfl) k) ?_
    refine Gl.st (B := (T71.setTop (mkF m 155 L47 [(.int (2 : Int32)), (.int (1 : Int32)), (.int r149_73)]))) (fun t k => XS.iconst X71.here hx rfl (hb hby at_154) k) ?_
    refine Gl.st (B := (T71.setTop (mkF m 162 L47 [(.int r149_73)]))) (fun t k => XS.icmpYes X71.here hx rfl (pc0 := 155) (pc' := 162) rfl (hb hby at_155) rfl (by decide) (by decide) (by decide) k) ?_
    refine Gl.st (B := (T71.setTop (mkF m 163 L47 [(.int (0 : Int32)), (.int r149_73)]))) (fun t k => XS.iconst X71.here hx rfl (hb hby at_162) k) ?_
    have hc163_74 : r149_73 = (0 : Int32) := own_0_hc163_74 p2 y5_9_25 vl42_41 f137_68 f42_40 r149_73 p3 y6_15_27 p4 y7_21_29 hy5_9_25 hvl42_41 hf137_68 hf42_40 hr149_73 hy6_15_27 hy7_21_29 G0 G1 G2 T0 U0
    refine Gl.st (B := (T71.setTop (mkF m 168 L47 []))) (fun t k => XS.icmpYes X71.here hx rfl (pc0 := 163) (pc' := 168) rfl (hb hby at_163) rfl (teq hc163_74).1 (by decide) (by decide) k) ?_
    refine Gl.st (B := (T71.setTop (mkF m 170 L47 [(.int (1 : Int32))]))) (fun t k => XS.iload X71.here hx rfl (hb hby at_168) (ldAt hL47 rfl) k) ?_
    refine Gl.st (B := (T71.setTop (mkF m 171 L47 [(.int (2 : Int32)), (.int (1 : Int32))]))) (fun t k => XS.iconst X71.here hx rfl (hb hby at_170) k) ?_
    refine Gl.st (B := (T71.setTop (mkF m 207 L47 []))) (fun t k => XS.icmpYes X71.here hx rfl (pc0 := 171) (pc' := 207) rfl (hb hby at_171) rfl (by decide) (by decide) (by decide) k) ?_
    refine Gl.st (B := (T71.setTop (mkF m 209 L47 [(.int (1 : Int32))]))) (fun t k => XS.iload X71.here hx rfl (hb hby at_207) (ldAt hL47 rfl) k) ?_
    refine Gl.st (B := (T71.setTop (mkF m 210 L47 [(.int (3 : Int32)), (.int (1 : Int32))]))) (fun t k => XS.iconst X71.here hx rfl (hb hby at_209) k) ?_
    refine Gl.st (B := (T71.setTop (mkF m 235 L47 []))) (fun t k => XS.icmpYes X71.here hx rfl (pc0 := 210) (pc' := 235) rfl (hb hby at_210) rfl (by decide) (by decide) (by decide) k) ?_
    refine Gl.st (B := (T71.setTop (mkF m 236 L47 [(.int (1 : Int32))]))) (fun t k => XS.iconst X71.here hx rfl (hb hby at_235) k) ?_
    obtain ⟨fs, hr, hrun, hended, hW, hsame⟩ := X71.leave (v := some (.int (nar .boolean (1 : Int32)))) (fun h => by rw [Bd.returns] at h; cases h)
    refine Gl.fin (retN X71 hx (t := .boolean) Bd.returns (by simp) (hb hby at_236) hr) hrun hended ⟨_, _, rfl, ?_, ⟨_, rfl⟩, hW, hsame.mono (by decide) (by decide)⟩
    show Q0 Z p1 p2 p3 p4 h0 n0 _ T71.heap _
    rw [eh71]
    exact ⟨rfl, N71⟩
  · skip
    subst hk
    refine Gl.st (B := (s₁.setTop (mkF m 6 L2 [(.int p2)]))) (fun t k => XS.iloadN X0.here hx rfl (hb hby at_5) (ldAt hL2 rfl) k) ?_
    refine Gl.st (B := (s₁.setTop (mkF m 8 L2 [(.int (2147483647 : Int32)), (.int p2)]))) (fun t k => X0.ldcInt hx hown (mvT hZ (tw hw 0 rfl)) (g := (mkF m 6 L2 [(.int p2)])) rfl (hb hby at_6) _ k) ?_
    refine Gl.st (B := (s₁.setTop (mkF m 9 L2 [(.int (p2 &&& (2147483647 : Int32)))]))) (fun t k => XS.iand X0.here hx rfl (hb hby at_8) rfl k) ?_
    obtain ⟨y5_9_75, hy5_9_75⟩ : ∃ z : Int32, z = (p2 &&& (2147483647 : Int32)) := ⟨_, rfl⟩
    refine Gl.cast (B := (s₁.setTop (mkF m 9 L2 [(.int y5_9_75)]))) (by rw [hy5_9_75]) ?_
    obtain ⟨L76, hL76⟩ : ∃ z : Array Slot, z = #[.val (.int p1), .val (.int p2), .val (.int p3), .val (.int p4), .val (.int (2 : Int32)), .val (.int y5_9_75), .unset, .unset, .unset, .unset] := ⟨_, rfl⟩
    refine Gl.st (B := (s₁.setTop (mkF m 11 L76 []))) (fun t k => XS.istore X0.here hx rfl (hb hby at_9) rfl (l' := L76) (stAt hL2 hL76 rfl rfl) k) ?_
    refine Gl.st (B := (s₁.setTop (mkF m 12 L76 [(.int p3)]))) (fun t k => XS.iloadN X0.here hx rfl (hb hby at_11) (ldAt hL76 rfl) k) ?_
    refine Gl.st (B := (s₁.setTop (mkF m 14 L76 [(.int (2147483647 : Int32)), (.int p3)]))) (fun t k => X0.ldcInt hx hown (mvT hZ (tw hw 0 rfl)) (g := (mkF m 12 L76 [(.int p3)])) rfl (hb hby at_12) _ k) ?_
    refine Gl.st (B := (s₁.setTop (mkF m 15 L76 [(.int (p3 &&& (2147483647 : Int32)))]))) (fun t k => XS.iand X0.here hx rfl (hb hby at_14) rfl k) ?_
    obtain ⟨y6_15_77, hy6_15_77⟩ : ∃ z : Int32, z = (p3 &&& (2147483647 : Int32)) := ⟨_, rfl⟩
    refine Gl.cast (B := (s₁.setTop (mkF m 15 L76 [(.int y6_15_77)]))) (by rw [hy6_15_77]) ?_
    obtain ⟨L78, hL78⟩ : ∃ z : Array Slot, z = #[.val (.int p1), .val (.int p2), .val (.int p3), .val (.int p4), .val (.int (2 : Int32)), .val (.int y5_9_75), .val (.int y6_15_77), .unset, .unset, .unset] := ⟨_, rfl⟩
    refine Gl.st (B := (s₁.setTop (mkF m 17 L78 []))) (fun t k => XS.istore X0.here hx rfl (hb hby at_15) rfl (l' := L78) (stAt hL76 hL78 rfl rfl) k) ?_
    refine Gl.st (B := (s₁.setTop (mkF m 18 L78 [(.int p4)]))) (fun t k => XS.iloadN X0.here hx rfl (hb hby at_17) (ldAt hL78 rfl) k) ?_
    refine Gl.st (B := (s₁.setTop (mkF m 20 L78 [(.int (2147483647 : Int32)), (.int p4)]))) (fun t k => X0.ldcInt hx hown (mvT hZ (tw hw 0 rfl)) (g := (mkF m 18 L78 [(.int p4)])) rfl (hb hby at_18) _ k) ?_
    refine Gl.st (B := (s₁.setTop (mkF m 21 L78 [(.int (p4 &&& (2147483647 : Int32)))]))) (fun t k => XS.iand X0.here hx rfl (hb hby at_20) rfl k) ?_
    obtain ⟨y7_21_79, hy7_21_79⟩ : ∃ z : Int32, z = (p4 &&& (2147483647 : Int32)) := ⟨_, rfl⟩
    refine Gl.cast (B := (s₁.setTop (mkF m 21 L78 [(.int y7_21_79)]))) (by rw [hy7_21_79]) ?_
    obtain ⟨L80, hL80⟩ : ∃ z : Array Slot, z = #[.val (.int p1), .val (.int p2), .val (.int p3), .val (.int p4), .val (.int (2 : Int32)), .val (.int y5_9_75), .val (.int y6_15_77), .val (.int y7_21_79), .unset, .unset] := ⟨_, rfl⟩
    refine Gl.st (B := (s₁.setTop (mkF m 23 L80 []))) (fun t k => XS.istore X0.here hx rfl (hb hby at_21) rfl (l' := L80) (stAt hL78 hL80 rfl rfl) k) ?_
    obtain ⟨T81, h81, X81, e81, E81, A81, D81, -, st81⟩ := newO X0 hx hZ hown (tw hw 1 rfl) (tw hw 2 rfl) (tw hw 3 rfl) e0 (g := (mkF m 23 L80 [])) rfl (hb hby at_23) (by decide) (by decide)
    obtain ⟨b81, gq81⟩ : ∃ z, z = h0.size := ⟨_, rfl⟩
    rw [← gq81] at A81 D81 st81
    have g_b81 : n0 ≤ b81 := Nat.le_trans Z0 (Nat.le_of_eq gq81.symm)
    have lt_b81 := A81.lt
    have Zc82 : n0 ≤ h81.size := Nat.le_trans Z0 E81.1
    have F81_pieces : Fld Z h81 b81 "com/example/outcomery/outcomery/PackedNumbers" "pieces" "[[B" .null := D81 (Or.inl (tw hw 13 rfl)) (ty := (.array (.array .byte))) (by decide)
    have F81_length : Fld Z h81 b81 "com/example/outcomery/outcomery/PackedNumbers" "length" "I" (.int (0 : Int32)) := D81 (Or.inl (tw hw 35 rfl)) (ty := .int) (by decide)
    refine Gl.st (B := (T81.setTop (mkF m 26 L80 [(.ref b81)]))) st81 ?_
    refine Gl.st (B := (T81.setTop (mkF m 27 L80 [(.ref b81), (.ref b81)]))) (fun t k => XS.dup X81.here hx rfl (hb hby at_26) rfl rfl k) ?_
    obtain ⟨_, _, ⟨T83, L83q, k83, n83⟩, -, X83, ⟨Lc83, hQ83, l83, y83, z83⟩, st83⟩ := X81.specialBack hx (y := (⟨"com/example/outcomery/outcomery/PackedNumbers", "<init>", "()V"⟩ : MethodName)) rfl hown (mvT hZ (tw hw 4 rfl)) (mvT hZ (tw hw 5 rfl)) (mvT hZ (tw hw 6 rfl)) (by decide) (backOf (W := 1) (rm1 l Z a0 hw [] b81 .null ((.int (0 : Int32))) h81 n0 Zc82 F81_pieces F81_length A81 g_b81) hZ (tw hw 6 rfl) (tw hw 3 rfl) (by decide) (by decide)) (g := (mkF m 27 L80 [(.ref b81), (.ref b81)])) rfl (szAt hml hL80 rfl) (Steps.refl _) (a := b81) (argsL := []) (rest := [(.ref b81)]) (lenOf pd_0_0 rfl) rfl (by show 2 * 0 + _ ≤ _; exact Nat.le_of_eq rfl) (hb hby at_27) (fun _ _ => ⟨rfl, e81, (by decide : 1 + 1 ≤ _), (by decide : 2 + 1 ≤ _)⟩)
    dsimp only [Pt.U, Pt.locs, Pt.cells, Pt.slots] at X83 l83 y83 z83 st83 hQ83
    subst l83 y83 z83
    obtain ⟨b83_t0, k83_kx_t0, rfl, N83q, Kc83, fq83_0, fq83_1, fq83_2, fq83_3, fq83_4, fq83_5, fq83_6⟩ := hQ83
    have g_b83_t0 : n0 ≤ b83_t0 := Nat.le_trans Zc82 fq83_0
    have lt_b83_t0 := fq83_4.lt
    have Zc84 : n0 ≤ T83.heap.size := Nat.le_trans Zc82 Kc83.1
    have N83 := Fr.app N0 N83q
    refine Gl.st (B := (T83.setTop (mkF m 30 L80 [(.ref b81)]))) (fun t k => st83.trans k) ?_
    obtain ⟨L85, hL85⟩ : ∃ z : Array Slot, z = #[.val (.int p1), .val (.int p2), .val (.int p3), .val (.int p4), .val (.int (2 : Int32)), .val (.int y5_9_75), .val (.int y6_15_77), .val (.int y7_21_79), .val (.ref b81), .unset] := ⟨_, rfl⟩
    refine Gl.st (B := (T83.setTop (mkF m 32 L85 []))) (fun t k => XS.astore X83.here hx rfl (hb hby at_30) rfl rfl (l' := L85) (stAt hL80 hL85 rfl rfl) k) ?_
    refine Gl.st (B := (T83.setTop (mkF m 34 L85 [(.int (2 : Int32))]))) (fun t k => XS.iload X83.here hx rfl (hb hby at_32) (ldAt hL85 rfl) k) ?_
    refine Gl.st (B := (T83.setTop (mkF m 35 L85 [(.int (1 : Int32)), (.int (2 : Int32))]))) (fun t k => XS.iconst X83.here hx rfl (hb hby at_34) k) ?_
    refine Gl.st (B := (T83.setTop (mkF m 38 L85 []))) (fun t k => XS.icmpNo X83.here hx rfl (hb hby at_35) rfl (by decide) k) ?_
    refine Gl.st (B := (T83.setTop (mkF m 40 L85 [(.ref b81)]))) (fun t k => XS.aload X83.here hx rfl (hb hby at_38) (ldAt hL85 rfl) rfl k) ?_
    refine Gl.st (B := (T83.setTop (mkF m 42 L85 [(.int y5_9_75), (.ref b81)]))) (fun t k => XS.iload X83.here hx rfl (hb hby at_40) (ldAt hL85 rfl) k) ?_
    have G0 : ¬ y5_9_75 < 0 := by
      exact own_m31 _ _ hy5_9_75
    have G1 : ¬ y6_15_77 < 0 := by
      exact own_m31 _ _ hy6_15_77
    have G2 : ¬ y7_21_79 < 0 := by
      exact own_m31 _ _ hy7_21_79
    have hp42_87 : ¬ y5_9_75 < 0 := by
      exact G0
    have ne_b81_b83_t0_88 : b81 ≠ b83_t0 := Nat.ne_of_lt (Nat.lt_of_lt_of_le lt_b81 fq83_0)
    obtain ⟨cq86, kq86, q86a, q86b, q86c⟩ := isOf hZ rfl fq83_1
    obtain ⟨_, _, ⟨T86, L86q, k86, n86⟩, -, X86, ⟨Lc86, hQ86, l86, y86, z86⟩, st86⟩ := X83.virtualBack hx (y := (⟨"com/example/outcomery/outcomery/PackedNumbers", "add", "(I)V"⟩ : MethodName)) (z := (⟨"com/example/outcomery/outcomery/PackedNumbers", "add", "(I)V"⟩ : MethodName)) hown (mvT hZ (tw hw 36 rfl)) (mvT hZ (tw hw 37 rfl)) (notFace_of_selects (args := #[]) (mvT hZ (tw hw 39 rfl))) (mvT hZ (tw hw 39 rfl)) (mvT hZ (tw hw 38 rfl)) (by decide) (backOf (W := 0) (rm6f l Z a0 hw [] b81 y5_9_75 k83_kx_t0 b83_t0 T83.heap n0 Zc84 fq83_5 fq83_6 fq83_3 hp42_87 fq83_2 g_b83_t0 ne_b81_b83_t0_88 fq83_1 g_b81) hZ (tw hw 40 rfl) (tw hw 3 rfl) (by decide) (by decide)) q86a q86c (g := (mkF m 42 L85 [(.int y5_9_75), (.ref b81)])) rfl (szAt hml hL85 rfl) (Steps.refl _) (argsL := [(.int y5_9_75)]) (rest := []) (lenOf pd_0_4 rfl) rfl (by show 2 * 0 + _ ≤ _; exact Nat.le_of_eq rfl) (hb hby at_42) (fun _ _ => ⟨rfl, rfl, (by decide : 2 + 1 ≤ _), (by decide : 3 + 64 ≤ _)⟩)
    dsimp only [Pt.U, Pt.locs, Pt.cells, Pt.slots] at X86 l86 y86 z86 st86 hQ86
    subst l86 y86 z86
    obtain ⟨b86_t0, k86_kx_t0, rfl, N86q, Kc86, fq86_0, fq86_1, fq86_2, fq86_3, fq86_4, fq86_5, fq86_6, fq86_7⟩ := hQ86
    have g_b86_t0 : n0 ≤ b86_t0 := Nat.le_trans Zc84 fq86_0
    have lt_b86_t0 := fq86_6.lt
    have Zc89 : n0 ≤ T86.heap.size := Nat.le_trans Zc84 Kc86.1
    obtain ⟨f42_90, hf42_90⟩ : ∃ z : Int32, z = (own_F (0 : Int32) y5_9_75) := ⟨_, rfl⟩
    rw [← hf42_90] at fq86_2
    obtain ⟨vl42_91, hvl42_91⟩ : ∃ z : List Value, z = (own_E [] y5_9_75) := ⟨_, rfl⟩
    rw [← hvl42_91] at fq86_7
    have N86 := Fr.app N83 N86q
    refine Gl.st (B := (T86.setTop (mkF m 45 L85 []))) (fun t k => st86.trans k) ?_
    have T0 : f42_90.toInt = (own_L y5_9_75).toInt := by
      exact own_t1 _ _ G0 hf42_90
    have X0 : vl42_91 = own_E [] y5_9_75 := by
      exact hvl42_91
    refine Gl.st (B := (T86.setTop (mkF m 47 L85 [(.int (2 : Int32))]))) (fun t k => XS.iload X86.here hx rfl (hb hby at_45) (ldAt hL85 rfl) k) ?_
    refine Gl.st (B := (T86.setTop (mkF m 48 L85 [(.int (2 : Int32)), (.int (2 : Int32))]))) (fun t k => XS.iconst X86.here hx rfl (hb hby at_47) k) ?_
    refine Gl.st (B := (T86.setTop (mkF m 51 L85 []))) (fun t k => XS.icmpNo X86.here hx rfl (hb hby at_48) rfl (by decide) k) ?_
    refine Gl.st (B := (T86.setTop (mkF m 53 L85 [(.ref b81)]))) (fun t k => XS.aload X86.here hx rfl (hb hby at_51) (ldAt hL85 rfl) rfl k) ?_
    refine Gl.st (B := (T86.setTop (mkF m 55 L85 [(.int y6_15_77), (.ref b81)]))) (fun t k => XS.iload X86.here hx rfl (hb hby at_53) (ldAt hL85 rfl) k) ?_
    have hp55_93 : ¬ y6_15_77 < 0 := by
      exact G1
    have hp55_94 : ¬ f42_90 < 0 := own_0_hp55_94 p2 y5_9_75 f42_90 p3 y6_15_77 p4 y7_21_79 vl42_91 hy5_9_75 hf42_90 hy6_15_77 hy7_21_79 hvl42_91 G0 G1 G2 T0 X0
    have hp55_95 : f42_90 < 58 := own_0_hp55_95 p2 y5_9_75 f42_90 p3 y6_15_77 p4 y7_21_79 vl42_91 hy5_9_75 hf42_90 hy6_15_77 hy7_21_79 hvl42_91 G0 G1 G2 T0 X0
    have hp55_96 : vl42_91.length = f42_90.toNatClampNeg := own_0_hp55_96 p2 y5_9_75 vl42_91 f42_90 p3 y6_15_77 p4 y7_21_79 hy5_9_75 hvl42_91 hf42_90 hy6_15_77 hy7_21_79 G0 G1 G2 T0 X0
    have ne_b81_b86_t0_97 : b81 ≠ b86_t0 := Nat.ne_of_lt (Nat.lt_of_lt_of_le lt_b81 (Nat.le_trans Kc83.1 fq86_0))
    have ne_b83_t0_b86_t0_98 : b83_t0 ≠ b86_t0 := Nat.ne_of_lt (Nat.lt_of_lt_of_le lt_b83_t0 fq86_0)
    obtain ⟨cq92, kq92, q92a, q92b, q92c⟩ := isOf hZ rfl fq86_1
    obtain ⟨_, _, ⟨T92, L92q, k92, n92⟩, -, X92, ⟨Lc92, hQ92, l92, y92, z92⟩, st92⟩ := X86.virtualBack hx (y := (⟨"com/example/outcomery/outcomery/PackedNumbers", "add", "(I)V"⟩ : MethodName)) (z := (⟨"com/example/outcomery/outcomery/PackedNumbers", "add", "(I)V"⟩ : MethodName)) hown (mvT hZ (tw hw 36 rfl)) (mvT hZ (tw hw 37 rfl)) (notFace_of_selects (args := #[]) (mvT hZ (tw hw 39 rfl))) (mvT hZ (tw hw 39 rfl)) (mvT hZ (tw hw 38 rfl)) (by decide) (backOf (W := 0) (rm6n l Z a0 hw [] b81 y6_15_77 k83_kx_t0 b86_t0 k86_kx_t0 vl42_91 b83_t0 f42_90 T86.heap n0 Zc89 fq86_4 fq86_5 fq86_7 fq86_3 fq86_2 hp55_93 hp55_94 hp55_95 hp55_96 g_b86_t0 ne_b81_b86_t0_97 fq86_1 g_b81 ne_b81_b83_t0_88 (Ne.symm ne_b83_t0_b86_t0_98)) hZ (tw hw 40 rfl) (tw hw 3 rfl) (by decide) (by decide)) q92a q92c (g := (mkF m 55 L85 [(.int y6_15_77), (.ref b81)])) rfl (szAt hml hL85 rfl) (Steps.refl _) (argsL := [(.int y6_15_77)]) (rest := []) (lenOf pd_0_4 rfl) rfl (by show 2 * 0 + _ ≤ _; exact Nat.le_of_eq rfl) (hb hby at_55) (fun _ _ => ⟨rfl, rfl, (by decide : 3 + 0 ≤ _), (by decide : 67 + 0 ≤ _)⟩)
    dsimp only [Pt.U, Pt.locs, Pt.cells, Pt.slots] at X92 l92 y92 z92 st92 hQ92
    subst l92 y92 z92
    obtain ⟨rfl, N92q, Kc92, fq92_0, fq92_1, fq92_2, fq92_3⟩ := hQ92
    have Zc99 : n0 ≤ T92.heap.size := Nat.le_trans Zc89 Kc92.1
    obtain ⟨f55_100, hf55_100⟩ : ∃ z : Int32, z = (own_F f42_90 y6_15_77) := ⟨_, rfl⟩
    rw [← hf55_100] at fq92_1
    obtain ⟨vl55_101, hvl55_101⟩ : ∃ z : List Value, z = (own_E vl42_91 y6_15_77) := ⟨_, rfl⟩
    rw [← hvl55_101] at fq92_3
    have N92 := Fr.app N86 N92q
    refine Gl.st (B := (T92.setTop (mkF m 58 L85 []))) (fun t k => st92.trans k) ?_
    have T1 : f55_100.toInt = (own_L y5_9_75).toInt + (own_L y6_15_77).toInt := own_0_T1 p2 y5_9_75 f42_90 p3 y6_15_77 f55_100 p4 y7_21_79 hy5_9_75 hf42_90 hy6_15_77 hf55_100 hy7_21_79 G0 G1 G2 T0
    have X1 : vl55_101 = own_E [] y5_9_75 ++ (own_E [] y6_15_77) := own_0_X1 p2 y5_9_75 vl42_91 p3 y6_15_77 vl55_101 p4 y7_21_79 hy5_9_75 hvl42_91 hy6_15_77 hvl55_101 hy7_21_79 G0 G1 G2 X0
    refine Gl.st (B := (T92.setTop (mkF m 60 L85 [(.int (2 : Int32))]))) (fun t k => XS.iload X92.here hx rfl (hb hby at_58) (ldAt hL85 rfl) k) ?_
    refine Gl.st (B := (T92.setTop (mkF m 61 L85 [(.int (3 : Int32)), (.int (2 : Int32))]))) (fun t k => XS.iconst X92.here hx rfl (hb hby at_60) k) ?_
    refine Gl.st (B := (T92.setTop (mkF m 71 L85 []))) (fun t k => XS.icmpYes X92.here hx rfl (pc0 := 61) (pc' := 71) rfl (hb hby at_61) rfl (by decide) (by decide) (by decide) k) ?_
    obtain ⟨T102, h102, X102, e102, E102, A102, D102, -, st102⟩ := newO X92 hx hZ hown (tw hw 14 rfl) (tw hw 15 rfl) (tw hw 16 rfl) rfl (g := (mkF m 71 L85 [])) rfl (hb hby at_71) (by decide) (by decide)
    obtain ⟨b102, gq102⟩ : ∃ z, z = T92.heap.size := ⟨_, rfl⟩
    rw [← gq102] at A102 D102 st102
    have g_b102 : n0 ≤ b102 := Nat.le_trans Zc99 (Nat.le_of_eq gq102.symm)
    have lt_b102 := A102.lt
    have Zc103 : n0 ≤ h102.size := Nat.le_trans Zc99 E102.1
    have F102_this_0 : Fld Z h102 b102 "com/example/outcomery/outcomery/PackedNumbers$Reader" "this$0" "Lcom/example/outcomery/outcomery/PackedNumbers;" .null := D102 (Or.inr (tw hw 25 rfl)) (ty := (.object "com/example/outcomery/outcomery/PackedNumbers")) (by decide)
    have F102_place : Fld Z h102 b102 "com/example/outcomery/outcomery/PackedNumbers$Reader" "place" "I" (.int (0 : Int32)) := D102 (Or.inl (tw hw 33 rfl)) (ty := .int) (by decide)
    refine Gl.st (B := (T102.setTop (mkF m 74 L85 [(.ref b102)]))) st102 ?_
    refine Gl.st (B := (T102.setTop (mkF m 75 L85 [(.ref b102), (.ref b102)]))) (fun t k => XS.dup X102.here hx rfl (hb hby at_74) rfl rfl k) ?_
    refine Gl.st (B := (T102.setTop (mkF m 77 L85 [(.ref b81), (.ref b102), (.ref b102)]))) (fun t k => XS.aload X102.here hx rfl (hb hby at_75) (ldAt hL85 rfl) rfl k) ?_
    refine Gl.st (B := (T102.setTop (mkF m 78 L85 [(.ref b81), (.ref b81), (.ref b102), (.ref b102)]))) (fun t k => XS.dup X102.here hx rfl (hb hby at_77) rfl rfl k) ?_
    obtain ⟨_, _, ⟨T104, L104q, k104, n104⟩, -, X104, ⟨Lc104, hQ104, l104, y104, z104⟩, st104⟩ := Jvm.LawKit.callS X102 hx (y := (⟨"java/util/Objects", "requireNonNull", "(Ljava/lang/Object;)Ljava/lang/Object;"⟩ : MethodName)) hown (mvT hZ (tw hw 17 rfl)) (mvT hZ (tw hw 18 rfl)) (mvT hZ (tw hw 19 rfl)) (mvT hZ (tw hw 20 rfl)) (by decide) (backOf (W := 3) (rm3 l Z a0 hw [] b81 h102 n0 Zc103) hZ (tw hw 20 rfl) (tw hw 19 rfl) (by decide) (by decide)) (g := (mkF m 78 L85 [(.ref b81), (.ref b81), (.ref b102), (.ref b102)])) rfl (szAt hml hL85 rfl) (argsL := [(.ref b81)]) (rest := [(.ref b81), (.ref b102), (.ref b102)]) (lenOf pd_0_1 rfl) rfl (by show 2 * 0 + _ ≤ _; exact Nat.le_of_eq rfl) (hb hby at_78) (fun _ _ => ⟨rfl, e102, (by decide : 4 + 0 ≤ _), (by decide : 69 + 0 ≤ _)⟩)
    dsimp only [Pt.U, Pt.locs, Pt.cells, Pt.slots] at X104 l104 y104 z104 st104 hQ104
    subst l104 y104 z104
    obtain ⟨rfl, N104q, eh104⟩ := hQ104
    have N104 := Fr.app N92 N104q
    refine Gl.st (B := (T104.setTop (mkF m 81 L85 [(.ref b81), (.ref b81), (.ref b102), (.ref b102)]))) (fun t k => st104 t k) ?_
    refine Gl.st (B := (T104.setTop (mkF m 82 L85 [(.ref b81), (.ref b102), (.ref b102)]))) (fun t k => XS.pop X104.here hx rfl (hb hby at_81) rfl rfl k) ?_
    obtain ⟨_, _, ⟨T105, L105q, k105, n105⟩, -, X105, ⟨Lc105, hQ105, l105, y105, z105⟩, st105⟩ := X104.specialBack hx (y := (⟨"com/example/outcomery/outcomery/PackedNumbers$Reader", "<init>", "(Lcom/example/outcomery/outcomery/PackedNumbers;)V"⟩ : MethodName)) rfl hown (mvT hZ (tw hw 21 rfl)) (mvT hZ (tw hw 22 rfl)) (mvT hZ (tw hw 23 rfl)) (by decide) (backOf (W := 1) (rm4 l Z a0 hw [] b102 b81 .null ((.int (0 : Int32))) h102 n0 Zc103 F102_this_0 F102_place A102 g_b102) hZ (tw hw 23 rfl) (tw hw 16 rfl) (by decide) (by decide)) (g := (mkF m 82 L85 [(.ref b81), (.ref b102), (.ref b102)])) rfl (szAt hml hL85 rfl) (Steps.refl _) (a := b102) (argsL := [(.ref b81)]) (rest := [(.ref b102)]) (lenOf pd_0_2 rfl) rfl (by show 2 * 0 + _ ≤ _; exact Nat.le_of_eq rfl) (hb hby at_82) (fun _ _ => ⟨rfl, eh104, (by decide : 4 + 0 ≤ _), (by decide : 69 + 0 ≤ _)⟩)
    dsimp only [Pt.U, Pt.locs, Pt.cells, Pt.slots] at X105 l105 y105 z105 st105 hQ105
    subst l105 y105 z105
    obtain ⟨rfl, N105q, Kc105, fq105_0, fq105_1, fq105_2⟩ := hQ105
    have Zc106 : n0 ≤ T105.heap.size := Nat.le_trans Zc103 Kc105.1
    have N105 := Fr.app N104 N105q
    refine Gl.st (B := (T105.setTop (mkF m 85 L85 [(.ref b102)]))) (fun t k => st105.trans k) ?_
    obtain ⟨L107, hL107⟩ : ∃ z : Array Slot, z = #[.val (.int p1), .val (.int p2), .val (.int p3), .val (.int p4), .val (.int (2 : Int32)), .val (.int y5_9_75), .val (.int y6_15_77), .val (.int y7_21_79), .val (.ref b81), .val (.ref b102)] := ⟨_, rfl⟩
    refine Gl.st (B := (T105.setTop (mkF m 87 L107 []))) (fun t k => XS.astore X105.here hx rfl (hb hby at_85) rfl rfl (l' := L107) (stAt hL85 hL107 rfl rfl) k) ?_
    refine Gl.st (B := (T105.setTop (mkF m 89 L107 [(.ref b102)]))) (fun t k => XS.aload X105.here hx rfl (hb hby at_87) (ldAt hL107 rfl) rfl k) ?_
    have ne_b81_b102_109 : b81 ≠ b102 := Nat.ne_of_lt (Nat.lt_of_lt_of_le lt_b81 (Nat.le_trans Kc83.1 (Nat.le_trans Kc86.1 (Nat.le_trans Kc92.1 (Nat.le_of_eq gq102.symm)))))
    have c110 := ((fq92_1.ext E102).keep Kc105 (ninS ne_b81_b102_109 nin0))
    obtain ⟨cq108, kq108, q108a, q108b, q108c⟩ := isOf hZ rfl fq105_0
    obtain ⟨_, _, ⟨T108, L108q, k108, n108⟩, -, X108, ⟨Lc108, hQ108, l108, y108, z108⟩, st108⟩ := X105.virtualBack hx (y := (⟨"com/example/outcomery/outcomery/PackedNumbers$Reader", "hasNext", "()Z"⟩ : MethodName)) (z := (⟨"com/example/outcomery/outcomery/PackedNumbers$Reader", "hasNext", "()Z"⟩ : MethodName)) hown (mvT hZ (tw hw 27 rfl)) (mvT hZ (tw hw 28 rfl)) (notFace_of_selects (args := #[]) (mvT hZ (tw hw 30 rfl))) (mvT hZ (tw hw 30 rfl)) (mvT hZ (tw hw 29 rfl)) (by decide) (backOf (W := 0) (rm5 l Z a0 hw [] b102 (0 : Int32) b81 f55_100 T105.heap n0 Zc106 fq105_1 fq105_2 c110) hZ (tw hw 31 rfl) (tw hw 16 rfl) (by decide) (by decide)) q108a q108c (g := (mkF m 89 L107 [(.ref b102)])) rfl (szAt hml hL107 rfl) (Steps.refl _) (argsL := []) (rest := []) (lenOf pd_0_3 rfl) rfl (by show 2 * 0 + _ ≤ _; exact Nat.le_of_eq rfl) (hb hby at_89) (fun _ _ => ⟨rfl, rfl, (by decide : 4 + 0 ≤ _), (by decide : 69 + 0 ≤ _)⟩)
    dsimp only [Pt.U, Pt.locs, Pt.cells, Pt.slots] at X108 l108 y108 z108 st108 hQ108
    subst l108 y108 z108
    obtain ⟨rfl, N108q, eh108⟩ := hQ108
    have N108 := Fr.app N105 N108q
    refine Gl.st (B := (T108.setTop (mkF m 92 L107 [(.int ((if (0 : Int32) < f55_100 then (1 : Int32) else (0 : Int32))))]))) (fun t k => st108.trans k) ?_
    obtain ⟨r89_111, hr89_111⟩ : ∃ z : Int32, z = ((if (0 : Int32) < f55_100 then (1 : Int32) else (0 : Int32))) := ⟨_, rfl⟩
    refine Gl.cast (B := (T108.setTop (mkF m 92 L107 [(.int r89_111)]))) (by rw [hr89_111]) ?_
    refine Gl.st (B := (T108.setTop (mkF m 94 L107 [(.int (2 : Int32)), (.int r89_111)]))) (fun t k => XS.iload X108.here hx rfl (hb hby at_92) (ldAt hL107 rfl) k) ?_
    refine Gl.st (B := (T108.setTop (mkF m 95 L107 [(.int (1 : Int32)), (.int (2 : Int32)), (.int r89_111)]))) (fun t k => XS.iconst X108.here hx rfl (hb hby at_94) k) ?_
    refine Gl.st (B := (T108.setTop (mkF m 98 L107 [(.int r89_111)]))) (fun t k => XS.icmpNo X108.here hx rfl (hb hby at_95) rfl (by decide) k) ?_
    refine Gl.st (B := (T108.setTop (mkF m 99 L107 [(.int (1 : Int32)), (.int r89_111)]))) (fun t k => XS.iconst X108.here hx rfl (hb hby at_98) k) ?_
    refine Gl.st (B := (T108.setTop (mkF m 103 L107 [(.int (1 : Int32)), (.int r89_111)]))) (fun t k => XS.goto X108.here hx rfl (pc0 := 99) (pc' := 103) rfl (hb hby at_99) (by decide) (by decide) k) ?_
    have hc103_112 : r89_111 = (1 : Int32) := own_0_hc103_112 p2 y5_9_75 f42_90 p3 y6_15_77 f55_100 r89_111 p4 y7_21_79 hy5_9_75 hf42_90 hy6_15_77 hf55_100 hr89_111 hy7_21_79 G0 G1 G2 T1
    refine Gl.st (B := (T108.setTop (mkF m 108 L107 []))) (fun t k => XS.icmpYes X108.here hx rfl (pc0 := 103) (pc' := 108) rfl (hb hby at_103) rfl (teq hc103_112).1 (by decide) (by decide) k) ?_
    refine Gl.st (B := (T108.setTop (mkF m 110 L107 [(.ref b102)]))) (fun t k => XS.aload X108.here hx rfl (hb hby at_108) (ldAt hL107 rfl) rfl k) ?_
    obtain ⟨cq113, kq113, q113a, q113b, q113c⟩ := isOf hZ eh108 fq105_0
    obtain ⟨_, _, ⟨T113, L113q, k113, n113⟩, -, X113, ⟨Lc113, hQ113, l113, y113, z113⟩, st113⟩ := X108.virtualBack hx (y := (⟨"com/example/outcomery/outcomery/PackedNumbers$Reader", "hasNext", "()Z"⟩ : MethodName)) (z := (⟨"com/example/outcomery/outcomery/PackedNumbers$Reader", "hasNext", "()Z"⟩ : MethodName)) hown (mvT hZ (tw hw 27 rfl)) (mvT hZ (tw hw 28 rfl)) (notFace_of_selects (args := #[]) (mvT hZ (tw hw 30 rfl))) (mvT hZ (tw hw 30 rfl)) (mvT hZ (tw hw 29 rfl)) (by decide) (backOf (W := 0) (rm5 l Z a0 hw [] b102 (0 : Int32) b81 f55_100 T105.heap n0 Zc106 fq105_1 fq105_2 c110) hZ (tw hw 31 rfl) (tw hw 16 rfl) (by decide) (by decide)) q113a q113c (g := (mkF m 110 L107 [(.ref b102)])) rfl (szAt hml hL107 rfl) (Steps.refl _) (argsL := []) (rest := []) (lenOf pd_0_3 rfl) rfl (by show 2 * 0 + _ ≤ _; exact Nat.le_of_eq rfl) (hb hby at_110) (fun _ _ => ⟨rfl, eh108, (by decide : 4 + 0 ≤ _), (by decide : 69 + 0 ≤ _)⟩)
    dsimp only [Pt.U, Pt.locs, Pt.cells, Pt.slots] at X113 l113 y113 z113 st113 hQ113
    subst l113 y113 z113
    obtain ⟨rfl, N113q, eh113⟩ := hQ113
    have N113 := Fr.app N108 N113q
    refine Gl.st (B := (T113.setTop (mkF m 113 L107 [(.int ((if (0 : Int32) < f55_100 then (1 : Int32) else (0 : Int32))))]))) (fun t k => st113.trans k) ?_
    obtain ⟨r110_114, hr110_114⟩ : ∃ z : Int32, z = ((if (0 : Int32) < f55_100 then (1 : Int32) else (0 : Int32))) := ⟨_, rfl⟩
    refine Gl.cast (B := (T113.setTop (mkF m 113 L107 [(.int r110_114)]))) (by rw [hr110_114]) ?_
    refine Gl.st (B := (T113.setTop (mkF m 115 L107 [(.int (2 : Int32)), (.int r110_114)]))) (fun t k => XS.iload X113.here hx rfl (hb hby at_113) (ldAt hL107 rfl) k) ?_
    refine Gl.st (B := (T113.setTop (mkF m 116 L107 [(.int (1 : Int32)), (.int (2 : Int32)), (.int r110_114)]))) (fun t k => XS.iconst X113.here hx rfl (hb hby at_115) k) ?_
    refine Gl.st (B := (T113.setTop (mkF m 119 L107 [(.int r110_114)]))) (fun t k => XS.icmpNo X113.here hx rfl (hb hby at_116) rfl (by decide) k) ?_
    refine Gl.st (B := (T113.setTop (mkF m 120 L107 [(.int (1 : Int32)), (.int r110_114)]))) (fun t k => XS.iconst X113.here hx rfl (hb hby at_119) k) ?_
    refine Gl.st (B := (T113.setTop (mkF m 124 L107 [(.int (1 : Int32)), (.int r110_114)]))) (fun t k => XS.goto X113.here hx rfl (pc0 := 120) (pc' := 124) rfl (hb hby at_120) (by decide) (by decide) k) ?_
    have hc124_115 : r110_114 = (1 : Int32) := own_0_hc124_115 p2 y5_9_75 f42_90 p3 y6_15_77 f55_100 r110_114 p4 y7_21_79 hy5_9_75 hf42_90 hy6_15_77 hf55_100 hr110_114 hy7_21_79 G0 G1 G2 T1
    refine Gl.st (B := (T113.setTop (mkF m 129 L107 []))) (fun t k => XS.icmpYes X113.here hx rfl (pc0 := 124) (pc' := 129) rfl (hb hby at_124) rfl (teq hc124_115).1 (by decide) (by decide) k) ?_
    refine Gl.st (B := (T113.setTop (mkF m 131 L107 [(.int (2 : Int32))]))) (fun t k => XS.iload X113.here hx rfl (hb hby at_129) (ldAt hL107 rfl) k) ?_
    refine Gl.st (B := (T113.setTop (mkF m 132 L107 [(.int (1 : Int32)), (.int (2 : Int32))]))) (fun t k => XS.iconst X113.here hx rfl (hb hby at_131) k) ?_
    refine Gl.st (B := (T113.setTop (mkF m 135 L107 []))) (fun t k => XS.icmpNo X113.here hx rfl (hb hby at_132) rfl (by decide) k) ?_
    refine Gl.st (B := (T113.setTop (mkF m 137 L107 [(.ref b102)]))) (fun t k => XS.aload X113.here hx rfl (hb hby at_135) (ldAt hL107 rfl) rfl k) ?_
    have c117 := ((fq92_2.ext E102).keep Kc105 (ninS ne_b81_b102_109 nin0))
    have ne_b83_t0_b102_118 : b83_t0 ≠ b102 := Nat.ne_of_lt (Nat.lt_of_lt_of_le lt_b83_t0 (Nat.le_trans Kc86.1 (Nat.le_trans Kc92.1 (Nat.le_of_eq gq102.symm))))
    have c119 := (((fq86_4.keep Kc92 (ninS (Ne.symm ne_b81_b83_t0_88) (ninS ne_b83_t0_b86_t0_98 nin0))).ext E102).keep Kc105 (ninS ne_b83_t0_b102_118 nin0))
    have ne_b86_t0_b102_120 : b86_t0 ≠ b102 := Nat.ne_of_lt (Nat.lt_of_lt_of_le lt_b86_t0 (Nat.le_trans Kc92.1 (Nat.le_of_eq gq102.symm)))
    have c121 := ((fq92_3.ext E102).keep Kc105 (ninS ne_b86_t0_b102_120 nin0))
    have hp137_122 : ¬ (0 : Int32) < 0 := by
      decide
    have hp137_123 : (0 : Int32) < 58 := by
      decide
    have hp137_124 : ∀ v ∈ vl55_101, ∃ x, v = .int x := own_0_hp137_124 p2 y5_9_75 vl42_91 p3 y6_15_77 vl55_101 p4 y7_21_79 hy5_9_75 hvl42_91 hy6_15_77 hvl55_101 hy7_21_79 G0 G1 G2 X1
    have hp137_125 : ¬ ((own_at vl55_101 (0 : Int32) &&& (255 : Int32)) < (128 : Int32)) → ¬ ((own_at vl55_101 ((0 : Int32) + (1 : Int32)) &&& (255 : Int32)) < (128 : Int32)) → ¬ ((own_at vl55_101 (((0 : Int32) + (1 : Int32)) + (1 : Int32)) &&& (255 : Int32)) < (128 : Int32)) → ¬ ((own_at vl55_101 ((((0 : Int32) + (1 : Int32)) + (1 : Int32)) + (1 : Int32)) &&& (255 : Int32)) < (128 : Int32)) → (own_at vl55_101 (((((0 : Int32) + (1 : Int32)) + (1 : Int32)) + (1 : Int32)) + (1 : Int32)) &&& (255 : Int32)) < (128 : Int32) := own_0_hp137_125 p2 y5_9_75 vl42_91 p3 y6_15_77 vl55_101 p4 y7_21_79 hy5_9_75 hvl42_91 hy6_15_77 hvl55_101 hy7_21_79 G0 G1 G2 X1
    have c126 := ((fq92_0.ext E102).keep Kc105)
    obtain ⟨cq116, kq116, q116a, q116b, q116c⟩ := isOf hZ eh113 fq105_0
    obtain ⟨_, _, ⟨T116, L116q, k116, n116⟩, -, X116, ⟨Lc116, hQ116, l116, y116, z116⟩, st116⟩ := X113.virtualBack hx (y := (⟨"com/example/outcomery/outcomery/PackedNumbers$Reader", "next", "()I"⟩ : MethodName)) (z := (⟨"com/example/outcomery/outcomery/PackedNumbers$Reader", "next", "()I"⟩ : MethodName)) hown (mvT hZ (tw hw 49 rfl)) (mvT hZ (tw hw 50 rfl)) (notFace_of_selects (args := #[]) (mvT hZ (tw hw 52 rfl))) (mvT hZ (tw hw 52 rfl)) (mvT hZ (tw hw 51 rfl)) (by decide) (backOf (W := 0) (rm8 l Z a0 hw [] b102 k83_kx_t0 b86_t0 k86_kx_t0 vl55_101 b81 (0 : Int32) b83_t0 T105.heap n0 Zc106 c119 c121 fq105_2 fq105_1 hp137_122 hp137_123 hp137_124 hp137_125 c117 c126 fq105_0 g_b102 (Ne.symm ne_b81_b102_109) (Ne.symm ne_b83_t0_b102_118) (Ne.symm ne_b86_t0_b102_120)) hZ (tw hw 53 rfl) (tw hw 16 rfl) (by decide) (by decide)) q116a q116c (g := (mkF m 137 L107 [(.ref b102)])) rfl (szAt hml hL107 rfl) (Steps.refl _) (argsL := []) (rest := []) (lenOf pd_0_5 rfl) rfl (by show 2 * 0 + _ ≤ _; exact Nat.le_of_eq rfl) (hb hby at_137) (fun _ _ => ⟨rfl, eh113, (by decide : 4 + 0 ≤ _), (by decide : 69 + 0 ≤ _)⟩)
    dsimp only [Pt.U, Pt.locs, Pt.cells, Pt.slots] at X116 l116 y116 z116 st116 hQ116
    subst l116 y116 z116
    obtain ⟨rfl, N116q, Kc116, fq116_0, fq116_1, fq116_2⟩ := hQ116
    have Zc127 : n0 ≤ T116.heap.size := Nat.le_trans Zc106 Kc116.1
    obtain ⟨f137_128, hf137_128⟩ : ∃ z : Int32, z = (own_P vl55_101 (0 : Int32)) := ⟨_, rfl⟩
    rw [← hf137_128] at fq116_1
    have N116 := Fr.app N113 N116q
    refine Gl.st (B := (T116.setTop (mkF m 140 L107 [(.int (own_N vl55_101 (0 : Int32)))]))) (fun t k => st116.trans k) ?_
    obtain ⟨r137_129, hr137_129⟩ : ∃ z : Int32, z = (own_N vl55_101 (0 : Int32)) := ⟨_, rfl⟩
    refine Gl.cast (B := (T116.setTop (mkF m 140 L107 [(.int r137_129)]))) (by rw [hr137_129]) ?_
    have U0 : f137_128.toInt = (own_L y5_9_75).toInt := own_0_U0' p2 y5_9_75 vl42_91 p3 y6_15_77 vl55_101 f137_128 p4 y7_21_79 hy5_9_75 hvl42_91 hy6_15_77 hvl55_101 hf137_128 hy7_21_79 G0 G1 G2 X1
    refine Gl.st (B := (T116.setTop (mkF m 142 L107 [(.int y5_9_75), (.int r137_129)]))) (fun t k => XS.iload X116.here hx rfl (hb hby at_140) (ldAt hL107 rfl) k) ?_
    have hc142_130 : r137_129 = y5_9_75 := own_0_hc142_130 p2 y5_9_75 vl42_91 p3 y6_15_77 vl55_101 r137_129 p4 y7_21_79 hy5_9_75 hvl42_91 hy6_15_77 hvl55_101 hr137_129 hy7_21_79 G0 G1 G2 X1
    refine Gl.st (B := (T116.setTop (mkF m 147 L107 []))) (fun t k => XS.icmpYes X116.here hx rfl (pc0 := 142) (pc' := 147) rfl (hb hby at_142) rfl (teq hc142_130).1 (by decide) (by decide) k) ?_
    refine Gl.st (B := (T116.setTop (mkF m 149 L107 [(.ref b102)]))) (fun t k => XS.aload X116.here hx rfl (hb hby at_147) (ldAt hL107 rfl) rfl k) ?_
    have c132 := (c110.keep Kc116 (ninS ne_b81_b102_109 nin0))
    obtain ⟨cq131, kq131, q131a, q131b, q131c⟩ := isOf hZ rfl fq116_0
    obtain ⟨_, _, ⟨T131, L131q, k131, n131⟩, -, X131, ⟨Lc131, hQ131, l131, y131, z131⟩, st131⟩ := X116.virtualBack hx (y := (⟨"com/example/outcomery/outcomery/PackedNumbers$Reader", "hasNext", "()Z"⟩ : MethodName)) (z := (⟨"com/example/outcomery/outcomery/PackedNumbers$Reader", "hasNext", "()Z"⟩ : MethodName)) hown (mvT hZ (tw hw 27 rfl)) (mvT hZ (tw hw 28 rfl)) (notFace_of_selects (args := #[]) (mvT hZ (tw hw 30 rfl))) (mvT hZ (tw hw 30 rfl)) (mvT hZ (tw hw 29 rfl)) (by decide) (backOf (W := 0) (rm5 l Z a0 hw [] b102 f137_128 b81 f55_100 T116.heap n0 Zc127 fq116_1 fq116_2 c132) hZ (tw hw 31 rfl) (tw hw 16 rfl) (by decide) (by decide)) q131a q131c (g := (mkF m 149 L107 [(.ref b102)])) rfl (szAt hml hL107 rfl) (Steps.refl _) (argsL := []) (rest := []) (lenOf pd_0_3 rfl) rfl (by show 2 * 0 + _ ≤ _; exact Nat.le_of_eq rfl) (hb hby at_149) (fun _ _ => ⟨rfl, rfl, (by decide : 4 + 0 ≤ _), (by decide : 69 + 0 ≤ _)⟩)
    dsimp only [Pt.U, Pt.locs, Pt.cells, Pt.slots] at X131 l131 y131 z131 st131 hQ131
    subst l131 y131 z131
    obtain ⟨rfl, N131q, eh131⟩ := hQ131
    have N131 := Fr.app N116 N131q
    refine Gl.st (B := (T131.setTop (mkF m 152 L107 [(.int ((if f137_128 < f55_100 then (1 : Int32) else (0 : Int32))))]))) (fun t k => st131.trans k) ?_
    obtain ⟨r149_133, hr149_133⟩ : ∃ z : Int32, z = ((if f137_128 < f55_100 then (1 : Int32) else (0 : Int32))) := ⟨_, rfl⟩
    refine Gl.cast (B := (T131.setTop (mkF m 152 L107 [(.int r149_133)]))) (by rw [hr149_133]) ?_
    refine Gl.st (B := (T131.setTop (mkF m 154 L107 [(.int (2 : Int32)), (.int r149_133)]))) (fun t k => XS.iload X131.here hx rfl (hb hby at_152) (ldAt hL107 rfl) k) ?_
    refine Gl.st (B := (T131.setTop (mkF m 155 L107 [(.int (2 : Int32)), (.int (2 : Int32)), (.int r149_133)]))) (fun t k => XS.iconst X131.here hx rfl (hb hby at_154) k) ?_
    refine Gl.st (B := (T131.setTop (mkF m 158 L107 [(.int r149_133)]))) (fun t k => XS.icmpNo X131.here hx rfl (hb hby at_155) rfl (by decide) k) ?_
    refine Gl.st (B := (T131.setTop (mkF m 159 L107 [(.int (1 : Int32)), (.int r149_133)]))) (fun t k => XS.iconst X131.here hx rfl (hb hby at_158) k) ?_
    refine Gl.st (B := (T131.setTop (mkF m 163 L107 [(.int (1 : Int32)), (.int r149_133)]))) (fun t k => XS.goto X131.here hx rfl (pc0 := 159) (pc' := 163) rfl (hb hby at_159) (by decide) (by decide) k) ?_
    have hc163_134 : r149_133 = (1 : Int32) := own_0_hc163_134 p2 y5_9_75 vl42_91 p3 y6_15_77 vl55_101 f137_128 f42_90 f55_100 r149_133 p4 y7_21_79 hy5_9_75 hvl42_91 hy6_15_77 hvl55_101 hf137_128 hf42_90 hf55_100 hr149_133 hy7_21_79 G0 G1 G2 T1 U0
    refine Gl.st (B := (T131.setTop (mkF m 168 L107 []))) (fun t k => XS.icmpYes X131.here hx rfl (pc0 := 163) (pc' := 168) rfl (hb hby at_163) rfl (teq hc163_134).1 (by decide) (by decide) k) ?_
    refine Gl.st (B := (T131.setTop (mkF m 170 L107 [(.int (2 : Int32))]))) (fun t k => XS.iload X131.here hx rfl (hb hby at_168) (ldAt hL107 rfl) k) ?_
    refine Gl.st (B := (T131.setTop (mkF m 171 L107 [(.int (2 : Int32)), (.int (2 : Int32))]))) (fun t k => XS.iconst X131.here hx rfl (hb hby at_170) k) ?_
    refine Gl.st (B := (T131.setTop (mkF m 174 L107 []))) (fun t k => XS.icmpNo X131.here hx rfl (hb hby at_171) rfl (by decide) k) ?_
    refine Gl.st (B := (T131.setTop (mkF m 176 L107 [(.ref b102)]))) (fun t k => XS.aload X131.here hx rfl (hb hby at_174) (ldAt hL107 rfl) rfl k) ?_
    have c136 := (c117.keep Kc116 (ninS ne_b81_b102_109 nin0))
    have c137 := (c119.keep Kc116 (ninS ne_b83_t0_b102_118 nin0))
    have c138 := (c121.keep Kc116 (ninS ne_b86_t0_b102_120 nin0))
    have hp176_139 : ¬ f137_128 < 0 := own_0_hp176_139 p2 y5_9_75 vl42_91 p3 y6_15_77 vl55_101 f137_128 p4 y7_21_79 hy5_9_75 hvl42_91 hy6_15_77 hvl55_101 hf137_128 hy7_21_79 G0 G1 G2 X1 U0
    have hp176_140 : f137_128 < 58 := own_0_hp176_140 p2 y5_9_75 vl42_91 p3 y6_15_77 vl55_101 f137_128 p4 y7_21_79 hy5_9_75 hvl42_91 hy6_15_77 hvl55_101 hf137_128 hy7_21_79 G0 G1 G2 X1 U0
    have hp176_141 : ∀ v ∈ vl55_101, ∃ x, v = .int x := own_0_hp176_141 p2 y5_9_75 vl42_91 p3 y6_15_77 vl55_101 p4 y7_21_79 f137_128 hy5_9_75 hvl42_91 hy6_15_77 hvl55_101 hy7_21_79 hf137_128 G0 G1 G2 X1 U0
    have hp176_142 : ¬ ((own_at vl55_101 f137_128 &&& (255 : Int32)) < (128 : Int32)) → ¬ ((own_at vl55_101 (f137_128 + (1 : Int32)) &&& (255 : Int32)) < (128 : Int32)) → ¬ ((own_at vl55_101 ((f137_128 + (1 : Int32)) + (1 : Int32)) &&& (255 : Int32)) < (128 : Int32)) → ¬ ((own_at vl55_101 (((f137_128 + (1 : Int32)) + (1 : Int32)) + (1 : Int32)) &&& (255 : Int32)) < (128 : Int32)) → (own_at vl55_101 ((((f137_128 + (1 : Int32)) + (1 : Int32)) + (1 : Int32)) + (1 : Int32)) &&& (255 : Int32)) < (128 : Int32) := own_0_hp176_142 p2 y5_9_75 vl42_91 p3 y6_15_77 vl55_101 f137_128 p4 y7_21_79 hy5_9_75 hvl42_91 hy6_15_77 hvl55_101 hf137_128 hy7_21_79 G0 G1 G2 X1 U0
    have c143 := (c126.keep Kc116)
    obtain ⟨cq135, kq135, q135a, q135b, q135c⟩ := isOf hZ eh131 fq116_0
    obtain ⟨_, _, ⟨T135, L135q, k135, n135⟩, -, X135, ⟨Lc135, hQ135, l135, y135, z135⟩, st135⟩ := X131.virtualBack hx (y := (⟨"com/example/outcomery/outcomery/PackedNumbers$Reader", "next", "()I"⟩ : MethodName)) (z := (⟨"com/example/outcomery/outcomery/PackedNumbers$Reader", "next", "()I"⟩ : MethodName)) hown (mvT hZ (tw hw 49 rfl)) (mvT hZ (tw hw 50 rfl)) (notFace_of_selects (args := #[]) (mvT hZ (tw hw 52 rfl))) (mvT hZ (tw hw 52 rfl)) (mvT hZ (tw hw 51 rfl)) (by decide) (backOf (W := 0) (rm8 l Z a0 hw [] b102 k83_kx_t0 b86_t0 k86_kx_t0 vl55_101 b81 f137_128 b83_t0 T116.heap n0 Zc127 c137 c138 fq116_2 fq116_1 hp176_139 hp176_140 hp176_141 hp176_142 c136 c143 fq116_0 g_b102 (Ne.symm ne_b81_b102_109) (Ne.symm ne_b83_t0_b102_118) (Ne.symm ne_b86_t0_b102_120)) hZ (tw hw 53 rfl) (tw hw 16 rfl) (by decide) (by decide)) q135a q135c (g := (mkF m 176 L107 [(.ref b102)])) rfl (szAt hml hL107 rfl) (Steps.refl _) (argsL := []) (rest := []) (lenOf pd_0_5 rfl) rfl (by show 2 * 0 + _ ≤ _; exact Nat.le_of_eq rfl) (hb hby at_176) (fun _ _ => ⟨rfl, eh131, (by decide : 4 + 0 ≤ _), (by decide : 69 + 0 ≤ _)⟩)
    dsimp only [Pt.U, Pt.locs, Pt.cells, Pt.slots] at X135 l135 y135 z135 st135 hQ135
    subst l135 y135 z135
    obtain ⟨rfl, N135q, Kc135, fq135_0, fq135_1, fq135_2⟩ := hQ135
    have Zc144 : n0 ≤ T135.heap.size := Nat.le_trans Zc127 Kc135.1
    obtain ⟨f176_145, hf176_145⟩ : ∃ z : Int32, z = (own_P vl55_101 f137_128) := ⟨_, rfl⟩
    rw [← hf176_145] at fq135_1
    have N135 := Fr.app N131 N135q
    refine Gl.st (B := (T135.setTop (mkF m 179 L107 [(.int (own_N vl55_101 f137_128))]))) (fun t k => st135.trans k) ?_
    obtain ⟨r176_146, hr176_146⟩ : ∃ z : Int32, z = (own_N vl55_101 f137_128) := ⟨_, rfl⟩
    refine Gl.cast (B := (T135.setTop (mkF m 179 L107 [(.int r176_146)]))) (by rw [hr176_146]) ?_
    have U1 : f176_145.toInt = (own_L y5_9_75).toInt + (own_L y6_15_77).toInt := own_0_U1 p2 y5_9_75 vl42_91 p3 y6_15_77 vl55_101 f137_128 f176_145 p4 y7_21_79 hy5_9_75 hvl42_91 hy6_15_77 hvl55_101 hf137_128 hf176_145 hy7_21_79 G0 G1 G2 X1 U0
    refine Gl.st (B := (T135.setTop (mkF m 181 L107 [(.int y6_15_77), (.int r176_146)]))) (fun t k => XS.iload X135.here hx rfl (hb hby at_179) (ldAt hL107 rfl) k) ?_
    have hc181_147 : r176_146 = y6_15_77 := own_0_hc181_147 p2 y5_9_75 vl42_91 p3 y6_15_77 vl55_101 f137_128 r176_146 p4 y7_21_79 hy5_9_75 hvl42_91 hy6_15_77 hvl55_101 hf137_128 hr176_146 hy7_21_79 G0 G1 G2 X1 U0
    refine Gl.st (B := (T135.setTop (mkF m 186 L107 []))) (fun t k => XS.icmpYes X135.here hx rfl (pc0 := 181) (pc' := 186) rfl (hb hby at_181) rfl (teq hc181_147).1 (by decide) (by decide) k) ?_
    refine Gl.st (B := (T135.setTop (mkF m 188 L107 [(.ref b102)]))) (fun t k => XS.aload X135.here hx rfl (hb hby at_186) (ldAt hL107 rfl) rfl k) ?_
    have c149 := (c132.keep Kc135 (ninS ne_b81_b102_109 nin0))
    obtain ⟨cq148, kq148, q148a, q148b, q148c⟩ := isOf hZ rfl fq135_0
    obtain ⟨_, _, ⟨T148, L148q, k148, n148⟩, -, X148, ⟨Lc148, hQ148, l148, y148, z148⟩, st148⟩ := X135.virtualBack hx (y := (⟨"com/example/outcomery/outcomery/PackedNumbers$Reader", "hasNext", "()Z"⟩ : MethodName)) (z := (⟨"com/example/outcomery/outcomery/PackedNumbers$Reader", "hasNext", "()Z"⟩ : MethodName)) hown (mvT hZ (tw hw 27 rfl)) (mvT hZ (tw hw 28 rfl)) (notFace_of_selects (args := #[]) (mvT hZ (tw hw 30 rfl))) (mvT hZ (tw hw 30 rfl)) (mvT hZ (tw hw 29 rfl)) (by decide) (backOf (W := 0) (rm5 l Z a0 hw [] b102 f176_145 b81 f55_100 T135.heap n0 Zc144 fq135_1 fq135_2 c149) hZ (tw hw 31 rfl) (tw hw 16 rfl) (by decide) (by decide)) q148a q148c (g := (mkF m 188 L107 [(.ref b102)])) rfl (szAt hml hL107 rfl) (Steps.refl _) (argsL := []) (rest := []) (lenOf pd_0_3 rfl) rfl (by show 2 * 0 + _ ≤ _; exact Nat.le_of_eq rfl) (hb hby at_188) (fun _ _ => ⟨rfl, rfl, (by decide : 4 + 0 ≤ _), (by decide : 69 + 0 ≤ _)⟩)
    dsimp only [Pt.U, Pt.locs, Pt.cells, Pt.slots] at X148 l148 y148 z148 st148 hQ148
    subst l148 y148 z148
    obtain ⟨rfl, N148q, eh148⟩ := hQ148
    have N148 := Fr.app N135 N148q
    refine Gl.st (B := (T148.setTop (mkF m 191 L107 [(.int ((if f176_145 < f55_100 then (1 : Int32) else (0 : Int32))))]))) (fun t k => st148.trans k) ?_
    obtain ⟨r188_150, hr188_150⟩ : ∃ z : Int32, z = ((if f176_145 < f55_100 then (1 : Int32) else (0 : Int32))) := ⟨_, rfl⟩
    refine Gl.cast (B := (T148.setTop (mkF m 191 L107 [(.int r188_150)]))) (by rw [hr188_150]) ?_
    refine Gl.st (B := (T148.setTop (mkF m 193 L107 [(.int (2 : Int32)), (.int r188_150)]))) (fun t k => XS.iload X148.here hx rfl (hb hby at_191) (ldAt hL107 rfl) k) ?_
    refine Gl.st (B := (T148.setTop (mkF m 194 L107 [(.int (3 : Int32)), (.int (2 : Int32)), (.int r188_150)]))) (fun t k => XS.iconst X148.here hx rfl (hb hby at_193) k) ?_
    refine Gl.st (B := (T148.setTop (mkF m 201 L107 [(.int r188_150)]))) (fun t k => XS.icmpYes X148.here hx rfl (pc0 := 194) (pc' := 201) rfl (hb hby at_194) rfl (by decide) (by decide) (by decide) k) ?_
    refine Gl.st (B := (T148.setTop (mkF m 202 L107 [(.int (0 : Int32)), (.int r188_150)]))) (fun t k => XS.iconst X148.here hx rfl (hb hby at_201) k) ?_
    have hc202_151 : r188_150 = (0 : Int32) := own_0_hc202_151 p2 y5_9_75 vl42_91 p3 y6_15_77 vl55_101 f137_128 f176_145 f42_90 f55_100 r188_150 p4 y7_21_79 hy5_9_75 hvl42_91 hy6_15_77 hvl55_101 hf137_128 hf176_145 hf42_90 hf55_100 hr188_150 hy7_21_79 G0 G1 G2 T1 U1
    refine Gl.st (B := (T148.setTop (mkF m 207 L107 []))) (fun t k => XS.icmpYes X148.here hx rfl (pc0 := 202) (pc' := 207) rfl (hb hby at_202) rfl (teq hc202_151).1 (by decide) (by decide) k) ?_
    refine Gl.st (B := (T148.setTop (mkF m 209 L107 [(.int (2 : Int32))]))) (fun t k => XS.iload X148.here hx rfl (hb hby at_207) (ldAt hL107 rfl) k) ?_
    refine Gl.st (B := (T148.setTop (mkF m 210 L107 [(.int (3 : Int32)), (.int (2 : Int32))]))) (fun t k => XS.iconst X148.here hx rfl (hb hby at_209) k) ?_
    refine Gl.st (B := (T148.setTop (mkF m 235 L107 []))) (fun t k => XS.icmpYes X148.here hx rfl (pc0 := 210) (pc' := 235) rfl (hb hby at_210) rfl (by decide) (by decide) (by decide) k) ?_
    refine Gl.st (B := (T148.setTop (mkF m 236 L107 [(.int (1 : Int32))]))) (fun t k => XS.iconst X148.here hx rfl (hb hby at_235) k) ?_
    obtain ⟨fs, hr, hrun, hended, hW, hsame⟩ := X148.leave (v := some (.int (nar .boolean (1 : Int32)))) (fun h => by rw [Bd.returns] at h; cases h)
    refine Gl.fin (retN X148 hx (t := .boolean) Bd.returns (by simp) (hb hby at_236) hr) hrun hended ⟨_, _, rfl, ?_, ⟨_, rfl⟩, hW, hsame.mono (by decide) (by decide)⟩
    show Q0 Z p1 p2 p3 p4 h0 n0 _ T148.heap _
    rw [eh148]
    exact ⟨rfl, N148⟩
  · skip
    subst hk
    refine Gl.st (B := (s₁.setTop (mkF m 6 L2 [(.int p2)]))) (fun t k => XS.iloadN X0.here hx rfl (hb hby at_5) (ldAt hL2 rfl) k) ?_
    refine Gl.st (B := (s₁.setTop (mkF m 8 L2 [(.int (2147483647 : Int32)), (.int p2)]))) (fun t k => X0.ldcInt hx hown (mvT hZ (tw hw 0 rfl)) (g := (mkF m 6 L2 [(.int p2)])) rfl (hb hby at_6) _ k) ?_
    refine Gl.st (B := (s₁.setTop (mkF m 9 L2 [(.int (p2 &&& (2147483647 : Int32)))]))) (fun t k => XS.iand X0.here hx rfl (hb hby at_8) rfl k) ?_
    obtain ⟨y5_9_152, hy5_9_152⟩ : ∃ z : Int32, z = (p2 &&& (2147483647 : Int32)) := ⟨_, rfl⟩
    refine Gl.cast (B := (s₁.setTop (mkF m 9 L2 [(.int y5_9_152)]))) (by rw [hy5_9_152]) ?_
    obtain ⟨L153, hL153⟩ : ∃ z : Array Slot, z = #[.val (.int p1), .val (.int p2), .val (.int p3), .val (.int p4), .val (.int (3 : Int32)), .val (.int y5_9_152), .unset, .unset, .unset, .unset] := ⟨_, rfl⟩
    refine Gl.st (B := (s₁.setTop (mkF m 11 L153 []))) (fun t k => XS.istore X0.here hx rfl (hb hby at_9) rfl (l' := L153) (stAt hL2 hL153 rfl rfl) k) ?_
    refine Gl.st (B := (s₁.setTop (mkF m 12 L153 [(.int p3)]))) (fun t k => XS.iloadN X0.here hx rfl (hb hby at_11) (ldAt hL153 rfl) k) ?_
    refine Gl.st (B := (s₁.setTop (mkF m 14 L153 [(.int (2147483647 : Int32)), (.int p3)]))) (fun t k => X0.ldcInt hx hown (mvT hZ (tw hw 0 rfl)) (g := (mkF m 12 L153 [(.int p3)])) rfl (hb hby at_12) _ k) ?_
    refine Gl.st (B := (s₁.setTop (mkF m 15 L153 [(.int (p3 &&& (2147483647 : Int32)))]))) (fun t k => XS.iand X0.here hx rfl (hb hby at_14) rfl k) ?_
    obtain ⟨y6_15_154, hy6_15_154⟩ : ∃ z : Int32, z = (p3 &&& (2147483647 : Int32)) := ⟨_, rfl⟩
    refine Gl.cast (B := (s₁.setTop (mkF m 15 L153 [(.int y6_15_154)]))) (by rw [hy6_15_154]) ?_
    obtain ⟨L155, hL155⟩ : ∃ z : Array Slot, z = #[.val (.int p1), .val (.int p2), .val (.int p3), .val (.int p4), .val (.int (3 : Int32)), .val (.int y5_9_152), .val (.int y6_15_154), .unset, .unset, .unset] := ⟨_, rfl⟩
    refine Gl.st (B := (s₁.setTop (mkF m 17 L155 []))) (fun t k => XS.istore X0.here hx rfl (hb hby at_15) rfl (l' := L155) (stAt hL153 hL155 rfl rfl) k) ?_
    refine Gl.st (B := (s₁.setTop (mkF m 18 L155 [(.int p4)]))) (fun t k => XS.iloadN X0.here hx rfl (hb hby at_17) (ldAt hL155 rfl) k) ?_
    refine Gl.st (B := (s₁.setTop (mkF m 20 L155 [(.int (2147483647 : Int32)), (.int p4)]))) (fun t k => X0.ldcInt hx hown (mvT hZ (tw hw 0 rfl)) (g := (mkF m 18 L155 [(.int p4)])) rfl (hb hby at_18) _ k) ?_
    refine Gl.st (B := (s₁.setTop (mkF m 21 L155 [(.int (p4 &&& (2147483647 : Int32)))]))) (fun t k => XS.iand X0.here hx rfl (hb hby at_20) rfl k) ?_
    obtain ⟨y7_21_156, hy7_21_156⟩ : ∃ z : Int32, z = (p4 &&& (2147483647 : Int32)) := ⟨_, rfl⟩
    refine Gl.cast (B := (s₁.setTop (mkF m 21 L155 [(.int y7_21_156)]))) (by rw [hy7_21_156]) ?_
    obtain ⟨L157, hL157⟩ : ∃ z : Array Slot, z = #[.val (.int p1), .val (.int p2), .val (.int p3), .val (.int p4), .val (.int (3 : Int32)), .val (.int y5_9_152), .val (.int y6_15_154), .val (.int y7_21_156), .unset, .unset] := ⟨_, rfl⟩
    refine Gl.st (B := (s₁.setTop (mkF m 23 L157 []))) (fun t k => XS.istore X0.here hx rfl (hb hby at_21) rfl (l' := L157) (stAt hL155 hL157 rfl rfl) k) ?_
    obtain ⟨T158, h158, X158, e158, E158, A158, D158, -, st158⟩ := newO X0 hx hZ hown (tw hw 1 rfl) (tw hw 2 rfl) (tw hw 3 rfl) e0 (g := (mkF m 23 L157 [])) rfl (hb hby at_23) (by decide) (by decide)
    obtain ⟨b158, gq158⟩ : ∃ z, z = h0.size := ⟨_, rfl⟩
    rw [← gq158] at A158 D158 st158
    have g_b158 : n0 ≤ b158 := Nat.le_trans Z0 (Nat.le_of_eq gq158.symm)
    have lt_b158 := A158.lt
    have Zc159 : n0 ≤ h158.size := Nat.le_trans Z0 E158.1
    have F158_pieces : Fld Z h158 b158 "com/example/outcomery/outcomery/PackedNumbers" "pieces" "[[B" .null := D158 (Or.inl (tw hw 13 rfl)) (ty := (.array (.array .byte))) (by decide)
    have F158_length : Fld Z h158 b158 "com/example/outcomery/outcomery/PackedNumbers" "length" "I" (.int (0 : Int32)) := D158 (Or.inl (tw hw 35 rfl)) (ty := .int) (by decide)
    refine Gl.st (B := (T158.setTop (mkF m 26 L157 [(.ref b158)]))) st158 ?_
    refine Gl.st (B := (T158.setTop (mkF m 27 L157 [(.ref b158), (.ref b158)]))) (fun t k => XS.dup X158.here hx rfl (hb hby at_26) rfl rfl k) ?_
    obtain ⟨_, _, ⟨T160, L160q, k160, n160⟩, -, X160, ⟨Lc160, hQ160, l160, y160, z160⟩, st160⟩ := X158.specialBack hx (y := (⟨"com/example/outcomery/outcomery/PackedNumbers", "<init>", "()V"⟩ : MethodName)) rfl hown (mvT hZ (tw hw 4 rfl)) (mvT hZ (tw hw 5 rfl)) (mvT hZ (tw hw 6 rfl)) (by decide) (backOf (W := 1) (rm1 l Z a0 hw [] b158 .null ((.int (0 : Int32))) h158 n0 Zc159 F158_pieces F158_length A158 g_b158) hZ (tw hw 6 rfl) (tw hw 3 rfl) (by decide) (by decide)) (g := (mkF m 27 L157 [(.ref b158), (.ref b158)])) rfl (szAt hml hL157 rfl) (Steps.refl _) (a := b158) (argsL := []) (rest := [(.ref b158)]) (lenOf pd_0_0 rfl) rfl (by show 2 * 0 + _ ≤ _; exact Nat.le_of_eq rfl) (hb hby at_27) (fun _ _ => ⟨rfl, e158, (by decide : 1 + 1 ≤ _), (by decide : 2 + 1 ≤ _)⟩)
    dsimp only [Pt.U, Pt.locs, Pt.cells, Pt.slots] at X160 l160 y160 z160 st160 hQ160
    subst l160 y160 z160
    obtain ⟨b160_t0, k160_kx_t0, rfl, N160q, Kc160, fq160_0, fq160_1, fq160_2, fq160_3, fq160_4, fq160_5, fq160_6⟩ := hQ160
    have g_b160_t0 : n0 ≤ b160_t0 := Nat.le_trans Zc159 fq160_0
    have lt_b160_t0 := fq160_4.lt
    have Zc161 : n0 ≤ T160.heap.size := Nat.le_trans Zc159 Kc160.1
    have N160 := Fr.app N0 N160q
    refine Gl.st (B := (T160.setTop (mkF m 30 L157 [(.ref b158)]))) (fun t k => st160.trans k) ?_
    obtain ⟨L162, hL162⟩ : ∃ z : Array Slot, z = #[.val (.int p1), .val (.int p2), .val (.int p3), .val (.int p4), .val (.int (3 : Int32)), .val (.int y5_9_152), .val (.int y6_15_154), .val (.int y7_21_156), .val (.ref b158), .unset] := ⟨_, rfl⟩
    refine Gl.st (B := (T160.setTop (mkF m 32 L162 []))) (fun t k => XS.astore X160.here hx rfl (hb hby at_30) rfl rfl (l' := L162) (stAt hL157 hL162 rfl rfl) k) ?_
    refine Gl.st (B := (T160.setTop (mkF m 34 L162 [(.int (3 : Int32))]))) (fun t k => XS.iload X160.here hx rfl (hb hby at_32) (ldAt hL162 rfl) k) ?_
    refine Gl.st (B := (T160.setTop (mkF m 35 L162 [(.int (1 : Int32)), (.int (3 : Int32))]))) (fun t k => XS.iconst X160.here hx rfl (hb hby at_34) k) ?_
    refine Gl.st (B := (T160.setTop (mkF m 38 L162 []))) (fun t k => XS.icmpNo X160.here hx rfl (hb hby at_35) rfl (by decide) k) ?_
    refine Gl.st (B := (T160.setTop (mkF m 40 L162 [(.ref b158)]))) (fun t k => XS.aload X160.here hx rfl (hb hby at_38) (ldAt hL162 rfl) rfl k) ?_
    refine Gl.st (B := (T160.setTop (mkF m 42 L162 [(.int y5_9_152), (.ref b158)]))) (fun t k => XS.iload X160.here hx rfl (hb hby at_40) (ldAt hL162 rfl) k) ?_
    have G0 : ¬ y5_9_152 < 0 := by
      exact own_m31 _ _ hy5_9_152
    have G1 : ¬ y6_15_154 < 0 := by
      exact own_m31 _ _ hy6_15_154
    have G2 : ¬ y7_21_156 < 0 := by
      exact own_m31 _ _ hy7_21_156
    have hp42_164 : ¬ y5_9_152 < 0 := by
      exact G0
    have ne_b158_b160_t0_165 : b158 ≠ b160_t0 := Nat.ne_of_lt (Nat.lt_of_lt_of_le lt_b158 fq160_0)
    obtain ⟨cq163, kq163, q163a, q163b, q163c⟩ := isOf hZ rfl fq160_1
    obtain ⟨_, _, ⟨T163, L163q, k163, n163⟩, -, X163, ⟨Lc163, hQ163, l163, y163, z163⟩, st163⟩ := X160.virtualBack hx (y := (⟨"com/example/outcomery/outcomery/PackedNumbers", "add", "(I)V"⟩ : MethodName)) (z := (⟨"com/example/outcomery/outcomery/PackedNumbers", "add", "(I)V"⟩ : MethodName)) hown (mvT hZ (tw hw 36 rfl)) (mvT hZ (tw hw 37 rfl)) (notFace_of_selects (args := #[]) (mvT hZ (tw hw 39 rfl))) (mvT hZ (tw hw 39 rfl)) (mvT hZ (tw hw 38 rfl)) (by decide) (backOf (W := 0) (rm6f l Z a0 hw [] b158 y5_9_152 k160_kx_t0 b160_t0 T160.heap n0 Zc161 fq160_5 fq160_6 fq160_3 hp42_164 fq160_2 g_b160_t0 ne_b158_b160_t0_165 fq160_1 g_b158) hZ (tw hw 40 rfl) (tw hw 3 rfl) (by decide) (by decide)) q163a q163c (g := (mkF m 42 L162 [(.int y5_9_152), (.ref b158)])) rfl (szAt hml hL162 rfl) (Steps.refl _) (argsL := [(.int y5_9_152)]) (rest := []) (lenOf pd_0_4 rfl) rfl (by show 2 * 0 + _ ≤ _; exact Nat.le_of_eq rfl) (hb hby at_42) (fun _ _ => ⟨rfl, rfl, (by decide : 2 + 1 ≤ _), (by decide : 3 + 64 ≤ _)⟩)
    dsimp only [Pt.U, Pt.locs, Pt.cells, Pt.slots] at X163 l163 y163 z163 st163 hQ163
    subst l163 y163 z163
    obtain ⟨b163_t0, k163_kx_t0, rfl, N163q, Kc163, fq163_0, fq163_1, fq163_2, fq163_3, fq163_4, fq163_5, fq163_6, fq163_7⟩ := hQ163
    have g_b163_t0 : n0 ≤ b163_t0 := Nat.le_trans Zc161 fq163_0
    have lt_b163_t0 := fq163_6.lt
    have Zc166 : n0 ≤ T163.heap.size := Nat.le_trans Zc161 Kc163.1
    obtain ⟨f42_167, hf42_167⟩ : ∃ z : Int32, z = (own_F (0 : Int32) y5_9_152) := ⟨_, rfl⟩
    rw [← hf42_167] at fq163_2
    obtain ⟨vl42_168, hvl42_168⟩ : ∃ z : List Value, z = (own_E [] y5_9_152) := ⟨_, rfl⟩
    rw [← hvl42_168] at fq163_7
    have N163 := Fr.app N160 N163q
    refine Gl.st (B := (T163.setTop (mkF m 45 L162 []))) (fun t k => st163.trans k) ?_
    have T0 : f42_167.toInt = (own_L y5_9_152).toInt := by
      exact own_t1 _ _ G0 hf42_167
    have X0 : vl42_168 = own_E [] y5_9_152 := by
      exact hvl42_168
    refine Gl.st (B := (T163.setTop (mkF m 47 L162 [(.int (3 : Int32))]))) (fun t k => XS.iload X163.here hx rfl (hb hby at_45) (ldAt hL162 rfl) k) ?_
    refine Gl.st (B := (T163.setTop (mkF m 48 L162 [(.int (2 : Int32)), (.int (3 : Int32))]))) (fun t k => XS.iconst X163.here hx rfl (hb hby at_47) k) ?_
    refine Gl.st (B := (T163.setTop (mkF m 51 L162 []))) (fun t k => XS.icmpNo X163.here hx rfl (hb hby at_48) rfl (by decide) k) ?_
    refine Gl.st (B := (T163.setTop (mkF m 53 L162 [(.ref b158)]))) (fun t k => XS.aload X163.here hx rfl (hb hby at_51) (ldAt hL162 rfl) rfl k) ?_
    refine Gl.st (B := (T163.setTop (mkF m 55 L162 [(.int y6_15_154), (.ref b158)]))) (fun t k => XS.iload X163.here hx rfl (hb hby at_53) (ldAt hL162 rfl) k) ?_
    have hp55_170 : ¬ y6_15_154 < 0 := by
      exact G1
    have hp55_171 : ¬ f42_167 < 0 := own_0_hp55_171 p2 y5_9_152 f42_167 p3 y6_15_154 p4 y7_21_156 vl42_168 hy5_9_152 hf42_167 hy6_15_154 hy7_21_156 hvl42_168 G0 G1 G2 T0 X0
    have hp55_172 : f42_167 < 58 := own_0_hp55_172 p2 y5_9_152 f42_167 p3 y6_15_154 p4 y7_21_156 vl42_168 hy5_9_152 hf42_167 hy6_15_154 hy7_21_156 hvl42_168 G0 G1 G2 T0 X0
    have hp55_173 : vl42_168.length = f42_167.toNatClampNeg := own_0_hp55_173 p2 y5_9_152 vl42_168 f42_167 p3 y6_15_154 p4 y7_21_156 hy5_9_152 hvl42_168 hf42_167 hy6_15_154 hy7_21_156 G0 G1 G2 T0 X0
    have ne_b158_b163_t0_174 : b158 ≠ b163_t0 := Nat.ne_of_lt (Nat.lt_of_lt_of_le lt_b158 (Nat.le_trans Kc160.1 fq163_0))
    have ne_b160_t0_b163_t0_175 : b160_t0 ≠ b163_t0 := Nat.ne_of_lt (Nat.lt_of_lt_of_le lt_b160_t0 fq163_0)
    obtain ⟨cq169, kq169, q169a, q169b, q169c⟩ := isOf hZ rfl fq163_1
    obtain ⟨_, _, ⟨T169, L169q, k169, n169⟩, -, X169, ⟨Lc169, hQ169, l169, y169, z169⟩, st169⟩ := X163.virtualBack hx (y := (⟨"com/example/outcomery/outcomery/PackedNumbers", "add", "(I)V"⟩ : MethodName)) (z := (⟨"com/example/outcomery/outcomery/PackedNumbers", "add", "(I)V"⟩ : MethodName)) hown (mvT hZ (tw hw 36 rfl)) (mvT hZ (tw hw 37 rfl)) (notFace_of_selects (args := #[]) (mvT hZ (tw hw 39 rfl))) (mvT hZ (tw hw 39 rfl)) (mvT hZ (tw hw 38 rfl)) (by decide) (backOf (W := 0) (rm6n l Z a0 hw [] b158 y6_15_154 k160_kx_t0 b163_t0 k163_kx_t0 vl42_168 b160_t0 f42_167 T163.heap n0 Zc166 fq163_4 fq163_5 fq163_7 fq163_3 fq163_2 hp55_170 hp55_171 hp55_172 hp55_173 g_b163_t0 ne_b158_b163_t0_174 fq163_1 g_b158 ne_b158_b160_t0_165 (Ne.symm ne_b160_t0_b163_t0_175)) hZ (tw hw 40 rfl) (tw hw 3 rfl) (by decide) (by decide)) q169a q169c (g := (mkF m 55 L162 [(.int y6_15_154), (.ref b158)])) rfl (szAt hml hL162 rfl) (Steps.refl _) (argsL := [(.int y6_15_154)]) (rest := []) (lenOf pd_0_4 rfl) rfl (by show 2 * 0 + _ ≤ _; exact Nat.le_of_eq rfl) (hb hby at_55) (fun _ _ => ⟨rfl, rfl, (by decide : 3 + 0 ≤ _), (by decide : 67 + 0 ≤ _)⟩)
    dsimp only [Pt.U, Pt.locs, Pt.cells, Pt.slots] at X169 l169 y169 z169 st169 hQ169
    subst l169 y169 z169
    obtain ⟨rfl, N169q, Kc169, fq169_0, fq169_1, fq169_2, fq169_3⟩ := hQ169
    have Zc176 : n0 ≤ T169.heap.size := Nat.le_trans Zc166 Kc169.1
    obtain ⟨f55_177, hf55_177⟩ : ∃ z : Int32, z = (own_F f42_167 y6_15_154) := ⟨_, rfl⟩
    rw [← hf55_177] at fq169_1
    obtain ⟨vl55_178, hvl55_178⟩ : ∃ z : List Value, z = (own_E vl42_168 y6_15_154) := ⟨_, rfl⟩
    rw [← hvl55_178] at fq169_3
    have N169 := Fr.app N163 N169q
    refine Gl.st (B := (T169.setTop (mkF m 58 L162 []))) (fun t k => st169.trans k) ?_
    have T1 : f55_177.toInt = (own_L y5_9_152).toInt + (own_L y6_15_154).toInt := own_0_T1' p2 y5_9_152 f42_167 p3 y6_15_154 f55_177 p4 y7_21_156 hy5_9_152 hf42_167 hy6_15_154 hf55_177 hy7_21_156 G0 G1 G2 T0
    have X1 : vl55_178 = own_E [] y5_9_152 ++ (own_E [] y6_15_154) := own_0_X1' p2 y5_9_152 vl42_168 p3 y6_15_154 vl55_178 p4 y7_21_156 hy5_9_152 hvl42_168 hy6_15_154 hvl55_178 hy7_21_156 G0 G1 G2 X0
    refine Gl.st (B := (T169.setTop (mkF m 60 L162 [(.int (3 : Int32))]))) (fun t k => XS.iload X169.here hx rfl (hb hby at_58) (ldAt hL162 rfl) k) ?_
    refine Gl.st (B := (T169.setTop (mkF m 61 L162 [(.int (3 : Int32)), (.int (3 : Int32))]))) (fun t k => XS.iconst X169.here hx rfl (hb hby at_60) k) ?_
    refine Gl.st (B := (T169.setTop (mkF m 64 L162 []))) (fun t k => XS.icmpNo X169.here hx rfl (hb hby at_61) rfl (by decide) k) ?_
    refine Gl.st (B := (T169.setTop (mkF m 66 L162 [(.ref b158)]))) (fun t k => XS.aload X169.here hx rfl (hb hby at_64) (ldAt hL162 rfl) rfl k) ?_
    refine Gl.st (B := (T169.setTop (mkF m 68 L162 [(.int y7_21_156), (.ref b158)]))) (fun t k => XS.iload X169.here hx rfl (hb hby at_66) (ldAt hL162 rfl) k) ?_
    have c180 := (fq163_4.keep Kc169 (ninS (Ne.symm ne_b158_b160_t0_165) (ninS ne_b160_t0_b163_t0_175 nin0)))
    have hp68_181 : ¬ y7_21_156 < 0 := by
      exact G2
    have hp68_182 : ¬ f55_177 < 0 := own_0_hp68_182 p2 y5_9_152 f42_167 p3 y6_15_154 f55_177 p4 y7_21_156 vl42_168 vl55_178 hy5_9_152 hf42_167 hy6_15_154 hf55_177 hy7_21_156 hvl42_168 hvl55_178 G0 G1 G2 T1 X1
    have hp68_183 : f55_177 < 58 := own_0_hp68_183 p2 y5_9_152 f42_167 p3 y6_15_154 f55_177 p4 y7_21_156 vl42_168 vl55_178 hy5_9_152 hf42_167 hy6_15_154 hf55_177 hy7_21_156 hvl42_168 hvl55_178 G0 G1 G2 T1 X1
    have hp68_184 : vl55_178.length = f55_177.toNatClampNeg := own_0_hp68_184 p2 y5_9_152 vl42_168 p3 y6_15_154 vl55_178 f42_167 f55_177 p4 y7_21_156 hy5_9_152 hvl42_168 hy6_15_154 hvl55_178 hf42_167 hf55_177 hy7_21_156 G0 G1 G2 T1 X1
    obtain ⟨cq179, kq179, q179a, q179b, q179c⟩ := isOf hZ rfl fq169_0
    obtain ⟨_, _, ⟨T179, L179q, k179, n179⟩, -, X179, ⟨Lc179, hQ179, l179, y179, z179⟩, st179⟩ := X169.virtualBack hx (y := (⟨"com/example/outcomery/outcomery/PackedNumbers", "add", "(I)V"⟩ : MethodName)) (z := (⟨"com/example/outcomery/outcomery/PackedNumbers", "add", "(I)V"⟩ : MethodName)) hown (mvT hZ (tw hw 36 rfl)) (mvT hZ (tw hw 37 rfl)) (notFace_of_selects (args := #[]) (mvT hZ (tw hw 39 rfl))) (mvT hZ (tw hw 39 rfl)) (mvT hZ (tw hw 38 rfl)) (by decide) (backOf (W := 0) (rm6n l Z a0 hw [] b158 y7_21_156 k160_kx_t0 b163_t0 k163_kx_t0 vl55_178 b160_t0 f55_177 T169.heap n0 Zc176 c180 fq163_5 fq169_3 fq169_2 fq169_1 hp68_181 hp68_182 hp68_183 hp68_184 g_b163_t0 ne_b158_b163_t0_174 fq169_0 g_b158 ne_b158_b160_t0_165 (Ne.symm ne_b160_t0_b163_t0_175)) hZ (tw hw 40 rfl) (tw hw 3 rfl) (by decide) (by decide)) q179a q179c (g := (mkF m 68 L162 [(.int y7_21_156), (.ref b158)])) rfl (szAt hml hL162 rfl) (Steps.refl _) (argsL := [(.int y7_21_156)]) (rest := []) (lenOf pd_0_4 rfl) rfl (by show 2 * 0 + _ ≤ _; exact Nat.le_of_eq rfl) (hb hby at_68) (fun _ _ => ⟨rfl, rfl, (by decide : 3 + 0 ≤ _), (by decide : 67 + 0 ≤ _)⟩)
    dsimp only [Pt.U, Pt.locs, Pt.cells, Pt.slots] at X179 l179 y179 z179 st179 hQ179
    subst l179 y179 z179
    obtain ⟨rfl, N179q, Kc179, fq179_0, fq179_1, fq179_2, fq179_3⟩ := hQ179
    have c185 := (fq163_6.keep Kc169)
    have Zc186 : n0 ≤ T179.heap.size := Nat.le_trans Zc176 Kc179.1
    obtain ⟨f68_187, hf68_187⟩ : ∃ z : Int32, z = (own_F f55_177 y7_21_156) := ⟨_, rfl⟩
    rw [← hf68_187] at fq179_1
    obtain ⟨vl68_188, hvl68_188⟩ : ∃ z : List Value, z = (own_E vl55_178 y7_21_156) := ⟨_, rfl⟩
    rw [← hvl68_188] at fq179_3
    have N179 := Fr.app N169 N179q
    refine Gl.st (B := (T179.setTop (mkF m 71 L162 []))) (fun t k => st179.trans k) ?_
    have T2 : f68_187.toInt = (own_L y5_9_152).toInt + (own_L y6_15_154).toInt + (own_L y7_21_156).toInt := own_0_T2 p2 y5_9_152 f42_167 p3 y6_15_154 f55_177 p4 y7_21_156 f68_187 hy5_9_152 hf42_167 hy6_15_154 hf55_177 hy7_21_156 hf68_187 G0 G1 G2 T1
    have X2 : vl68_188 = own_E [] y5_9_152 ++ (own_E [] y6_15_154 ++ (own_E [] y7_21_156)) := own_0_X2 p2 y5_9_152 vl42_168 p3 y6_15_154 vl55_178 p4 y7_21_156 vl68_188 hy5_9_152 hvl42_168 hy6_15_154 hvl55_178 hy7_21_156 hvl68_188 G0 G1 G2 X1
    obtain ⟨T189, h189, X189, e189, E189, A189, D189, -, st189⟩ := newO X179 hx hZ hown (tw hw 14 rfl) (tw hw 15 rfl) (tw hw 16 rfl) rfl (g := (mkF m 71 L162 [])) rfl (hb hby at_71) (by decide) (by decide)
    obtain ⟨b189, gq189⟩ : ∃ z, z = T179.heap.size := ⟨_, rfl⟩
    rw [← gq189] at A189 D189 st189
    have g_b189 : n0 ≤ b189 := Nat.le_trans Zc186 (Nat.le_of_eq gq189.symm)
    have lt_b189 := A189.lt
    have Zc190 : n0 ≤ h189.size := Nat.le_trans Zc186 E189.1
    have F189_this_0 : Fld Z h189 b189 "com/example/outcomery/outcomery/PackedNumbers$Reader" "this$0" "Lcom/example/outcomery/outcomery/PackedNumbers;" .null := D189 (Or.inr (tw hw 25 rfl)) (ty := (.object "com/example/outcomery/outcomery/PackedNumbers")) (by decide)
    have F189_place : Fld Z h189 b189 "com/example/outcomery/outcomery/PackedNumbers$Reader" "place" "I" (.int (0 : Int32)) := D189 (Or.inl (tw hw 33 rfl)) (ty := .int) (by decide)
    refine Gl.st (B := (T189.setTop (mkF m 74 L162 [(.ref b189)]))) st189 ?_
    refine Gl.st (B := (T189.setTop (mkF m 75 L162 [(.ref b189), (.ref b189)]))) (fun t k => XS.dup X189.here hx rfl (hb hby at_74) rfl rfl k) ?_
    refine Gl.st (B := (T189.setTop (mkF m 77 L162 [(.ref b158), (.ref b189), (.ref b189)]))) (fun t k => XS.aload X189.here hx rfl (hb hby at_75) (ldAt hL162 rfl) rfl k) ?_
    refine Gl.st (B := (T189.setTop (mkF m 78 L162 [(.ref b158), (.ref b158), (.ref b189), (.ref b189)]))) (fun t k => XS.dup X189.here hx rfl (hb hby at_77) rfl rfl k) ?_
    obtain ⟨_, _, ⟨T191, L191q, k191, n191⟩, -, X191, ⟨Lc191, hQ191, l191, y191, z191⟩, st191⟩ := Jvm.LawKit.callS X189 hx (y := (⟨"java/util/Objects", "requireNonNull", "(Ljava/lang/Object;)Ljava/lang/Object;"⟩ : MethodName)) hown (mvT hZ (tw hw 17 rfl)) (mvT hZ (tw hw 18 rfl)) (mvT hZ (tw hw 19 rfl)) (mvT hZ (tw hw 20 rfl)) (by decide) (backOf (W := 3) (rm3 l Z a0 hw [] b158 h189 n0 Zc190) hZ (tw hw 20 rfl) (tw hw 19 rfl) (by decide) (by decide)) (g := (mkF m 78 L162 [(.ref b158), (.ref b158), (.ref b189), (.ref b189)])) rfl (szAt hml hL162 rfl) (argsL := [(.ref b158)]) (rest := [(.ref b158), (.ref b189), (.ref b189)]) (lenOf pd_0_1 rfl) rfl (by show 2 * 0 + _ ≤ _; exact Nat.le_of_eq rfl) (hb hby at_78) (fun _ _ => ⟨rfl, e189, (by decide : 4 + 0 ≤ _), (by decide : 69 + 0 ≤ _)⟩)
    dsimp only [Pt.U, Pt.locs, Pt.cells, Pt.slots] at X191 l191 y191 z191 st191 hQ191
    subst l191 y191 z191
    obtain ⟨rfl, N191q, eh191⟩ := hQ191
    have N191 := Fr.app N179 N191q
    refine Gl.st (B := (T191.setTop (mkF m 81 L162 [(.ref b158), (.ref b158), (.ref b189), (.ref b189)]))) (fun t k => st191 t k) ?_
    refine Gl.st (B := (T191.setTop (mkF m 82 L162 [(.ref b158), (.ref b189), (.ref b189)]))) (fun t k => XS.pop X191.here hx rfl (hb hby at_81) rfl rfl k) ?_
    obtain ⟨_, _, ⟨T192, L192q, k192, n192⟩, -, X192, ⟨Lc192, hQ192, l192, y192, z192⟩, st192⟩ := X191.specialBack hx (y := (⟨"com/example/outcomery/outcomery/PackedNumbers$Reader", "<init>", "(Lcom/example/outcomery/outcomery/PackedNumbers;)V"⟩ : MethodName)) rfl hown (mvT hZ (tw hw 21 rfl)) (mvT hZ (tw hw 22 rfl)) (mvT hZ (tw hw 23 rfl)) (by decide) (backOf (W := 1) (rm4 l Z a0 hw [] b189 b158 .null ((.int (0 : Int32))) h189 n0 Zc190 F189_this_0 F189_place A189 g_b189) hZ (tw hw 23 rfl) (tw hw 16 rfl) (by decide) (by decide)) (g := (mkF m 82 L162 [(.ref b158), (.ref b189), (.ref b189)])) rfl (szAt hml hL162 rfl) (Steps.refl _) (a := b189) (argsL := [(.ref b158)]) (rest := [(.ref b189)]) (lenOf pd_0_2 rfl) rfl (by show 2 * 0 + _ ≤ _; exact Nat.le_of_eq rfl) (hb hby at_82) (fun _ _ => ⟨rfl, eh191, (by decide : 4 + 0 ≤ _), (by decide : 69 + 0 ≤ _)⟩)
    dsimp only [Pt.U, Pt.locs, Pt.cells, Pt.slots] at X192 l192 y192 z192 st192 hQ192
    subst l192 y192 z192
    obtain ⟨rfl, N192q, Kc192, fq192_0, fq192_1, fq192_2⟩ := hQ192
    have Zc193 : n0 ≤ T192.heap.size := Nat.le_trans Zc190 Kc192.1
    have N192 := Fr.app N191 N192q
    refine Gl.st (B := (T192.setTop (mkF m 85 L162 [(.ref b189)]))) (fun t k => st192.trans k) ?_
    obtain ⟨L194, hL194⟩ : ∃ z : Array Slot, z = #[.val (.int p1), .val (.int p2), .val (.int p3), .val (.int p4), .val (.int (3 : Int32)), .val (.int y5_9_152), .val (.int y6_15_154), .val (.int y7_21_156), .val (.ref b158), .val (.ref b189)] := ⟨_, rfl⟩
    refine Gl.st (B := (T192.setTop (mkF m 87 L194 []))) (fun t k => XS.astore X192.here hx rfl (hb hby at_85) rfl rfl (l' := L194) (stAt hL162 hL194 rfl rfl) k) ?_
    refine Gl.st (B := (T192.setTop (mkF m 89 L194 [(.ref b189)]))) (fun t k => XS.aload X192.here hx rfl (hb hby at_87) (ldAt hL194 rfl) rfl k) ?_
    have ne_b158_b189_196 : b158 ≠ b189 := Nat.ne_of_lt (Nat.lt_of_lt_of_le lt_b158 (Nat.le_trans Kc160.1 (Nat.le_trans Kc163.1 (Nat.le_trans Kc169.1 (Nat.le_trans Kc179.1 (Nat.le_of_eq gq189.symm))))))
    have c197 := ((fq179_1.ext E189).keep Kc192 (ninS ne_b158_b189_196 nin0))
    obtain ⟨cq195, kq195, q195a, q195b, q195c⟩ := isOf hZ rfl fq192_0
    obtain ⟨_, _, ⟨T195, L195q, k195, n195⟩, -, X195, ⟨Lc195, hQ195, l195, y195, z195⟩, st195⟩ := X192.virtualBack hx (y := (⟨"com/example/outcomery/outcomery/PackedNumbers$Reader", "hasNext", "()Z"⟩ : MethodName)) (z := (⟨"com/example/outcomery/outcomery/PackedNumbers$Reader", "hasNext", "()Z"⟩ : MethodName)) hown (mvT hZ (tw hw 27 rfl)) (mvT hZ (tw hw 28 rfl)) (notFace_of_selects (args := #[]) (mvT hZ (tw hw 30 rfl))) (mvT hZ (tw hw 30 rfl)) (mvT hZ (tw hw 29 rfl)) (by decide) (backOf (W := 0) (rm5 l Z a0 hw [] b189 (0 : Int32) b158 f68_187 T192.heap n0 Zc193 fq192_1 fq192_2 c197) hZ (tw hw 31 rfl) (tw hw 16 rfl) (by decide) (by decide)) q195a q195c (g := (mkF m 89 L194 [(.ref b189)])) rfl (szAt hml hL194 rfl) (Steps.refl _) (argsL := []) (rest := []) (lenOf pd_0_3 rfl) rfl (by show 2 * 0 + _ ≤ _; exact Nat.le_of_eq rfl) (hb hby at_89) (fun _ _ => ⟨rfl, rfl, (by decide : 4 + 0 ≤ _), (by decide : 69 + 0 ≤ _)⟩)
    dsimp only [Pt.U, Pt.locs, Pt.cells, Pt.slots] at X195 l195 y195 z195 st195 hQ195
    subst l195 y195 z195
    obtain ⟨rfl, N195q, eh195⟩ := hQ195
    have N195 := Fr.app N192 N195q
    refine Gl.st (B := (T195.setTop (mkF m 92 L194 [(.int ((if (0 : Int32) < f68_187 then (1 : Int32) else (0 : Int32))))]))) (fun t k => st195.trans k) ?_
    obtain ⟨r89_198, hr89_198⟩ : ∃ z : Int32, z = ((if (0 : Int32) < f68_187 then (1 : Int32) else (0 : Int32))) := ⟨_, rfl⟩
    refine Gl.cast (B := (T195.setTop (mkF m 92 L194 [(.int r89_198)]))) (by rw [hr89_198]) ?_
    refine Gl.st (B := (T195.setTop (mkF m 94 L194 [(.int (3 : Int32)), (.int r89_198)]))) (fun t k => XS.iload X195.here hx rfl (hb hby at_92) (ldAt hL194 rfl) k) ?_
    refine Gl.st (B := (T195.setTop (mkF m 95 L194 [(.int (1 : Int32)), (.int (3 : Int32)), (.int r89_198)]))) (fun t k => XS.iconst X195.here hx rfl (hb hby at_94) k) ?_
    refine Gl.st (B := (T195.setTop (mkF m 98 L194 [(.int r89_198)]))) (fun t k => XS.icmpNo X195.here hx rfl (hb hby at_95) rfl (by decide) k) ?_
    refine Gl.st (B := (T195.setTop (mkF m 99 L194 [(.int (1 : Int32)), (.int r89_198)]))) (fun t k => XS.iconst X195.here hx rfl (hb hby at_98) k) ?_
    refine Gl.st (B := (T195.setTop (mkF m 103 L194 [(.int (1 : Int32)), (.int r89_198)]))) (fun t k => XS.goto X195.here hx rfl (pc0 := 99) (pc' := 103) rfl (hb hby at_99) (by decide) (by decide) k) ?_
    have hc103_199 : r89_198 = (1 : Int32) := own_0_hc103_199 p2 y5_9_152 f42_167 p3 y6_15_154 f55_177 p4 y7_21_156 f68_187 r89_198 hy5_9_152 hf42_167 hy6_15_154 hf55_177 hy7_21_156 hf68_187 hr89_198 G0 G1 G2 T2
    refine Gl.st (B := (T195.setTop (mkF m 108 L194 []))) (fun t k => XS.icmpYes X195.here hx rfl (pc0 := 103) (pc' := 108) rfl (hb hby at_103) rfl (teq hc103_199).1 (by decide) (by decide) k) ?_
    refine Gl.st (B := (T195.setTop (mkF m 110 L194 [(.ref b189)]))) (fun t k => XS.aload X195.here hx rfl (hb hby at_108) (ldAt hL194 rfl) rfl k) ?_
    obtain ⟨cq200, kq200, q200a, q200b, q200c⟩ := isOf hZ eh195 fq192_0
    obtain ⟨_, _, ⟨T200, L200q, k200, n200⟩, -, X200, ⟨Lc200, hQ200, l200, y200, z200⟩, st200⟩ := X195.virtualBack hx (y := (⟨"com/example/outcomery/outcomery/PackedNumbers$Reader", "hasNext", "()Z"⟩ : MethodName)) (z := (⟨"com/example/outcomery/outcomery/PackedNumbers$Reader", "hasNext", "()Z"⟩ : MethodName)) hown (mvT hZ (tw hw 27 rfl)) (mvT hZ (tw hw 28 rfl)) (notFace_of_selects (args := #[]) (mvT hZ (tw hw 30 rfl))) (mvT hZ (tw hw 30 rfl)) (mvT hZ (tw hw 29 rfl)) (by decide) (backOf (W := 0) (rm5 l Z a0 hw [] b189 (0 : Int32) b158 f68_187 T192.heap n0 Zc193 fq192_1 fq192_2 c197) hZ (tw hw 31 rfl) (tw hw 16 rfl) (by decide) (by decide)) q200a q200c (g := (mkF m 110 L194 [(.ref b189)])) rfl (szAt hml hL194 rfl) (Steps.refl _) (argsL := []) (rest := []) (lenOf pd_0_3 rfl) rfl (by show 2 * 0 + _ ≤ _; exact Nat.le_of_eq rfl) (hb hby at_110) (fun _ _ => ⟨rfl, eh195, (by decide : 4 + 0 ≤ _), (by decide : 69 + 0 ≤ _)⟩)
    dsimp only [Pt.U, Pt.locs, Pt.cells, Pt.slots] at X200 l200 y200 z200 st200 hQ200
    subst l200 y200 z200
    obtain ⟨rfl, N200q, eh200⟩ := hQ200
    have N200 := Fr.app N195 N200q
    refine Gl.st (B := (T200.setTop (mkF m 113 L194 [(.int ((if (0 : Int32) < f68_187 then (1 : Int32) else (0 : Int32))))]))) (fun t k => st200.trans k) ?_
    obtain ⟨r110_201, hr110_201⟩ : ∃ z : Int32, z = ((if (0 : Int32) < f68_187 then (1 : Int32) else (0 : Int32))) := ⟨_, rfl⟩
    refine Gl.cast (B := (T200.setTop (mkF m 113 L194 [(.int r110_201)]))) (by rw [hr110_201]) ?_
    refine Gl.st (B := (T200.setTop (mkF m 115 L194 [(.int (3 : Int32)), (.int r110_201)]))) (fun t k => XS.iload X200.here hx rfl (hb hby at_113) (ldAt hL194 rfl) k) ?_
    refine Gl.st (B := (T200.setTop (mkF m 116 L194 [(.int (1 : Int32)), (.int (3 : Int32)), (.int r110_201)]))) (fun t k => XS.iconst X200.here hx rfl (hb hby at_115) k) ?_
    refine Gl.st (B := (T200.setTop (mkF m 119 L194 [(.int r110_201)]))) (fun t k => XS.icmpNo X200.here hx rfl (hb hby at_116) rfl (by decide) k) ?_
    refine Gl.st (B := (T200.setTop (mkF m 120 L194 [(.int (1 : Int32)), (.int r110_201)]))) (fun t k => XS.iconst X200.here hx rfl (hb hby at_119) k) ?_
    refine Gl.st (B := (T200.setTop (mkF m 124 L194 [(.int (1 : Int32)), (.int r110_201)]))) (fun t k => XS.goto X200.here hx rfl (pc0 := 120) (pc' := 124) rfl (hb hby at_120) (by decide) (by decide) k) ?_
    have hc124_202 : r110_201 = (1 : Int32) := own_0_hc124_202 p2 y5_9_152 f42_167 p3 y6_15_154 f55_177 p4 y7_21_156 f68_187 r110_201 hy5_9_152 hf42_167 hy6_15_154 hf55_177 hy7_21_156 hf68_187 hr110_201 G0 G1 G2 T2
    refine Gl.st (B := (T200.setTop (mkF m 129 L194 []))) (fun t k => XS.icmpYes X200.here hx rfl (pc0 := 124) (pc' := 129) rfl (hb hby at_124) rfl (teq hc124_202).1 (by decide) (by decide) k) ?_
    refine Gl.st (B := (T200.setTop (mkF m 131 L194 [(.int (3 : Int32))]))) (fun t k => XS.iload X200.here hx rfl (hb hby at_129) (ldAt hL194 rfl) k) ?_
    refine Gl.st (B := (T200.setTop (mkF m 132 L194 [(.int (1 : Int32)), (.int (3 : Int32))]))) (fun t k => XS.iconst X200.here hx rfl (hb hby at_131) k) ?_
    refine Gl.st (B := (T200.setTop (mkF m 135 L194 []))) (fun t k => XS.icmpNo X200.here hx rfl (hb hby at_132) rfl (by decide) k) ?_
    refine Gl.st (B := (T200.setTop (mkF m 137 L194 [(.ref b189)]))) (fun t k => XS.aload X200.here hx rfl (hb hby at_135) (ldAt hL194 rfl) rfl k) ?_
    have c204 := ((fq179_2.ext E189).keep Kc192 (ninS ne_b158_b189_196 nin0))
    have ne_b160_t0_b189_205 : b160_t0 ≠ b189 := Nat.ne_of_lt (Nat.lt_of_lt_of_le lt_b160_t0 (Nat.le_trans Kc163.1 (Nat.le_trans Kc169.1 (Nat.le_trans Kc179.1 (Nat.le_of_eq gq189.symm)))))
    have c206 := (((c180.keep Kc179 (ninS (Ne.symm ne_b158_b160_t0_165) (ninS ne_b160_t0_b163_t0_175 nin0))).ext E189).keep Kc192 (ninS ne_b160_t0_b189_205 nin0))
    have ne_b163_t0_b189_207 : b163_t0 ≠ b189 := Nat.ne_of_lt (Nat.lt_of_lt_of_le lt_b163_t0 (Nat.le_trans Kc169.1 (Nat.le_trans Kc179.1 (Nat.le_of_eq gq189.symm))))
    have c208 := ((fq179_3.ext E189).keep Kc192 (ninS ne_b163_t0_b189_207 nin0))
    have hp137_209 : ¬ (0 : Int32) < 0 := by
      decide
    have hp137_210 : (0 : Int32) < 58 := by
      decide
    have hp137_211 : ∀ v ∈ vl68_188, ∃ x, v = .int x := own_0_hp137_211 p2 y5_9_152 vl42_168 p3 y6_15_154 vl55_178 p4 y7_21_156 vl68_188 hy5_9_152 hvl42_168 hy6_15_154 hvl55_178 hy7_21_156 hvl68_188 G0 G1 G2 X2
    have hp137_212 : ¬ ((own_at vl68_188 (0 : Int32) &&& (255 : Int32)) < (128 : Int32)) → ¬ ((own_at vl68_188 ((0 : Int32) + (1 : Int32)) &&& (255 : Int32)) < (128 : Int32)) → ¬ ((own_at vl68_188 (((0 : Int32) + (1 : Int32)) + (1 : Int32)) &&& (255 : Int32)) < (128 : Int32)) → ¬ ((own_at vl68_188 ((((0 : Int32) + (1 : Int32)) + (1 : Int32)) + (1 : Int32)) &&& (255 : Int32)) < (128 : Int32)) → (own_at vl68_188 (((((0 : Int32) + (1 : Int32)) + (1 : Int32)) + (1 : Int32)) + (1 : Int32)) &&& (255 : Int32)) < (128 : Int32) := own_0_hp137_212 p2 y5_9_152 vl42_168 p3 y6_15_154 vl55_178 p4 y7_21_156 vl68_188 hy5_9_152 hvl42_168 hy6_15_154 hvl55_178 hy7_21_156 hvl68_188 G0 G1 G2 X2
    have c213 := ((fq179_0.ext E189).keep Kc192)
    obtain ⟨cq203, kq203, q203a, q203b, q203c⟩ := isOf hZ eh200 fq192_0
    obtain ⟨_, _, ⟨T203, L203q, k203, n203⟩, -, X203, ⟨Lc203, hQ203, l203, y203, z203⟩, st203⟩ := X200.virtualBack hx (y := (⟨"com/example/outcomery/outcomery/PackedNumbers$Reader", "next", "()I"⟩ : MethodName)) (z := (⟨"com/example/outcomery/outcomery/PackedNumbers$Reader", "next", "()I"⟩ : MethodName)) hown (mvT hZ (tw hw 49 rfl)) (mvT hZ (tw hw 50 rfl)) (notFace_of_selects (args := #[]) (mvT hZ (tw hw 52 rfl))) (mvT hZ (tw hw 52 rfl)) (mvT hZ (tw hw 51 rfl)) (by decide) (backOf (W := 0) (rm8 l Z a0 hw [] b189 k160_kx_t0 b163_t0 k163_kx_t0 vl68_188 b158 (0 : Int32) b160_t0 T192.heap n0 Zc193 c206 c208 fq192_2 fq192_1 hp137_209 hp137_210 hp137_211 hp137_212 c204 c213 fq192_0 g_b189 (Ne.symm ne_b158_b189_196) (Ne.symm ne_b160_t0_b189_205) (Ne.symm ne_b163_t0_b189_207)) hZ (tw hw 53 rfl) (tw hw 16 rfl) (by decide) (by decide)) q203a q203c (g := (mkF m 137 L194 [(.ref b189)])) rfl (szAt hml hL194 rfl) (Steps.refl _) (argsL := []) (rest := []) (lenOf pd_0_5 rfl) rfl (by show 2 * 0 + _ ≤ _; exact Nat.le_of_eq rfl) (hb hby at_137) (fun _ _ => ⟨rfl, eh200, (by decide : 4 + 0 ≤ _), (by decide : 69 + 0 ≤ _)⟩)
    dsimp only [Pt.U, Pt.locs, Pt.cells, Pt.slots] at X203 l203 y203 z203 st203 hQ203
    subst l203 y203 z203
    obtain ⟨rfl, N203q, Kc203, fq203_0, fq203_1, fq203_2⟩ := hQ203
    have Zc214 : n0 ≤ T203.heap.size := Nat.le_trans Zc193 Kc203.1
    obtain ⟨f137_215, hf137_215⟩ : ∃ z : Int32, z = (own_P vl68_188 (0 : Int32)) := ⟨_, rfl⟩
    rw [← hf137_215] at fq203_1
    have N203 := Fr.app N200 N203q
    refine Gl.st (B := (T203.setTop (mkF m 140 L194 [(.int (own_N vl68_188 (0 : Int32)))]))) (fun t k => st203.trans k) ?_
    obtain ⟨r137_216, hr137_216⟩ : ∃ z : Int32, z = (own_N vl68_188 (0 : Int32)) := ⟨_, rfl⟩
    refine Gl.cast (B := (T203.setTop (mkF m 140 L194 [(.int r137_216)]))) (by rw [hr137_216]) ?_
    have U0 : f137_215.toInt = (own_L y5_9_152).toInt := own_0_U0'' p2 y5_9_152 vl42_168 p3 y6_15_154 vl55_178 p4 y7_21_156 vl68_188 f137_215 hy5_9_152 hvl42_168 hy6_15_154 hvl55_178 hy7_21_156 hvl68_188 hf137_215 G0 G1 G2 X2
    refine Gl.st (B := (T203.setTop (mkF m 142 L194 [(.int y5_9_152), (.int r137_216)]))) (fun t k => XS.iload X203.here hx rfl (hb hby at_140) (ldAt hL194 rfl) k) ?_
    have hc142_217 : r137_216 = y5_9_152 := own_0_hc142_217 p2 y5_9_152 vl42_168 p3 y6_15_154 vl55_178 p4 y7_21_156 vl68_188 r137_216 hy5_9_152 hvl42_168 hy6_15_154 hvl55_178 hy7_21_156 hvl68_188 hr137_216 G0 G1 G2 X2
    refine Gl.st (B := (T203.setTop (mkF m 147 L194 []))) (fun t k => XS.icmpYes X203.here hx rfl (pc0 := 142) (pc' := 147) rfl (hb hby at_142) rfl (teq hc142_217).1 (by decide) (by decide) k) ?_
    refine Gl.st (B := (T203.setTop (mkF m 149 L194 [(.ref b189)]))) (fun t k => XS.aload X203.here hx rfl (hb hby at_147) (ldAt hL194 rfl) rfl k) ?_
    have c219 := (c197.keep Kc203 (ninS ne_b158_b189_196 nin0))
    obtain ⟨cq218, kq218, q218a, q218b, q218c⟩ := isOf hZ rfl fq203_0
    obtain ⟨_, _, ⟨T218, L218q, k218, n218⟩, -, X218, ⟨Lc218, hQ218, l218, y218, z218⟩, st218⟩ := X203.virtualBack hx (y := (⟨"com/example/outcomery/outcomery/PackedNumbers$Reader", "hasNext", "()Z"⟩ : MethodName)) (z := (⟨"com/example/outcomery/outcomery/PackedNumbers$Reader", "hasNext", "()Z"⟩ : MethodName)) hown (mvT hZ (tw hw 27 rfl)) (mvT hZ (tw hw 28 rfl)) (notFace_of_selects (args := #[]) (mvT hZ (tw hw 30 rfl))) (mvT hZ (tw hw 30 rfl)) (mvT hZ (tw hw 29 rfl)) (by decide) (backOf (W := 0) (rm5 l Z a0 hw [] b189 f137_215 b158 f68_187 T203.heap n0 Zc214 fq203_1 fq203_2 c219) hZ (tw hw 31 rfl) (tw hw 16 rfl) (by decide) (by decide)) q218a q218c (g := (mkF m 149 L194 [(.ref b189)])) rfl (szAt hml hL194 rfl) (Steps.refl _) (argsL := []) (rest := []) (lenOf pd_0_3 rfl) rfl (by show 2 * 0 + _ ≤ _; exact Nat.le_of_eq rfl) (hb hby at_149) (fun _ _ => ⟨rfl, rfl, (by decide : 4 + 0 ≤ _), (by decide : 69 + 0 ≤ _)⟩)
    dsimp only [Pt.U, Pt.locs, Pt.cells, Pt.slots] at X218 l218 y218 z218 st218 hQ218
    subst l218 y218 z218
    obtain ⟨rfl, N218q, eh218⟩ := hQ218
    have N218 := Fr.app N203 N218q
    refine Gl.st (B := (T218.setTop (mkF m 152 L194 [(.int ((if f137_215 < f68_187 then (1 : Int32) else (0 : Int32))))]))) (fun t k => st218.trans k) ?_
    obtain ⟨r149_220, hr149_220⟩ : ∃ z : Int32, z = ((if f137_215 < f68_187 then (1 : Int32) else (0 : Int32))) := ⟨_, rfl⟩
    refine Gl.cast (B := (T218.setTop (mkF m 152 L194 [(.int r149_220)]))) (by rw [hr149_220]) ?_
    refine Gl.st (B := (T218.setTop (mkF m 154 L194 [(.int (3 : Int32)), (.int r149_220)]))) (fun t k => XS.iload X218.here hx rfl (hb hby at_152) (ldAt hL194 rfl) k) ?_
    refine Gl.st (B := (T218.setTop (mkF m 155 L194 [(.int (2 : Int32)), (.int (3 : Int32)), (.int r149_220)]))) (fun t k => XS.iconst X218.here hx rfl (hb hby at_154) k) ?_
    refine Gl.st (B := (T218.setTop (mkF m 158 L194 [(.int r149_220)]))) (fun t k => XS.icmpNo X218.here hx rfl (hb hby at_155) rfl (by decide) k) ?_
    refine Gl.st (B := (T218.setTop (mkF m 159 L194 [(.int (1 : Int32)), (.int r149_220)]))) (fun t k => XS.iconst X218.here hx rfl (hb hby at_158) k) ?_
    refine Gl.st (B := (T218.setTop (mkF m 163 L194 [(.int (1 : Int32)), (.int r149_220)]))) (fun t k => XS.goto X218.here hx rfl (pc0 := 159) (pc' := 163) rfl (hb hby at_159) (by decide) (by decide) k) ?_
    have hc163_221 : r149_220 = (1 : Int32) := own_0_hc163_221 p2 y5_9_152 vl42_168 p3 y6_15_154 vl55_178 p4 y7_21_156 vl68_188 f137_215 f42_167 f55_177 f68_187 r149_220 hy5_9_152 hvl42_168 hy6_15_154 hvl55_178 hy7_21_156 hvl68_188 hf137_215 hf42_167 hf55_177 hf68_187 hr149_220 G0 G1 G2 T2 U0
    refine Gl.st (B := (T218.setTop (mkF m 168 L194 []))) (fun t k => XS.icmpYes X218.here hx rfl (pc0 := 163) (pc' := 168) rfl (hb hby at_163) rfl (teq hc163_221).1 (by decide) (by decide) k) ?_
    refine Gl.st (B := (T218.setTop (mkF m 170 L194 [(.int (3 : Int32))]))) (fun t k => XS.iload X218.here hx rfl (hb hby at_168) (ldAt hL194 rfl) k) ?_
    refine Gl.st (B := (T218.setTop (mkF m 171 L194 [(.int (2 : Int32)), (.int (3 : Int32))]))) (fun t k => XS.iconst X218.here hx rfl (hb hby at_170) k) ?_
    refine Gl.st (B := (T218.setTop (mkF m 174 L194 []))) (fun t k => XS.icmpNo X218.here hx rfl (hb hby at_171) rfl (by decide) k) ?_
    refine Gl.st (B := (T218.setTop (mkF m 176 L194 [(.ref b189)]))) (fun t k => XS.aload X218.here hx rfl (hb hby at_174) (ldAt hL194 rfl) rfl k) ?_
    have c223 := (c204.keep Kc203 (ninS ne_b158_b189_196 nin0))
    have c224 := (c206.keep Kc203 (ninS ne_b160_t0_b189_205 nin0))
    have c225 := (c208.keep Kc203 (ninS ne_b163_t0_b189_207 nin0))
    have hp176_226 : ¬ f137_215 < 0 := own_0_hp176_226 p2 y5_9_152 vl42_168 p3 y6_15_154 vl55_178 p4 y7_21_156 vl68_188 f137_215 hy5_9_152 hvl42_168 hy6_15_154 hvl55_178 hy7_21_156 hvl68_188 hf137_215 G0 G1 G2 X2 U0
    have hp176_227 : f137_215 < 58 := own_0_hp176_227 p2 y5_9_152 vl42_168 p3 y6_15_154 vl55_178 p4 y7_21_156 vl68_188 f137_215 hy5_9_152 hvl42_168 hy6_15_154 hvl55_178 hy7_21_156 hvl68_188 hf137_215 G0 G1 G2 X2 U0
    have hp176_228 : ∀ v ∈ vl68_188, ∃ x, v = .int x := own_0_hp176_228 p2 y5_9_152 vl42_168 p3 y6_15_154 vl55_178 p4 y7_21_156 vl68_188 f137_215 hy5_9_152 hvl42_168 hy6_15_154 hvl55_178 hy7_21_156 hvl68_188 hf137_215 G0 G1 G2 X2 U0
    have hp176_229 : ¬ ((own_at vl68_188 f137_215 &&& (255 : Int32)) < (128 : Int32)) → ¬ ((own_at vl68_188 (f137_215 + (1 : Int32)) &&& (255 : Int32)) < (128 : Int32)) → ¬ ((own_at vl68_188 ((f137_215 + (1 : Int32)) + (1 : Int32)) &&& (255 : Int32)) < (128 : Int32)) → ¬ ((own_at vl68_188 (((f137_215 + (1 : Int32)) + (1 : Int32)) + (1 : Int32)) &&& (255 : Int32)) < (128 : Int32)) → (own_at vl68_188 ((((f137_215 + (1 : Int32)) + (1 : Int32)) + (1 : Int32)) + (1 : Int32)) &&& (255 : Int32)) < (128 : Int32) := own_0_hp176_229 p2 y5_9_152 vl42_168 p3 y6_15_154 vl55_178 p4 y7_21_156 vl68_188 f137_215 hy5_9_152 hvl42_168 hy6_15_154 hvl55_178 hy7_21_156 hvl68_188 hf137_215 G0 G1 G2 X2 U0
    have c230 := (c213.keep Kc203)
    obtain ⟨cq222, kq222, q222a, q222b, q222c⟩ := isOf hZ eh218 fq203_0
    obtain ⟨_, _, ⟨T222, L222q, k222, n222⟩, -, X222, ⟨Lc222, hQ222, l222, y222, z222⟩, st222⟩ := X218.virtualBack hx (y := (⟨"com/example/outcomery/outcomery/PackedNumbers$Reader", "next", "()I"⟩ : MethodName)) (z := (⟨"com/example/outcomery/outcomery/PackedNumbers$Reader", "next", "()I"⟩ : MethodName)) hown (mvT hZ (tw hw 49 rfl)) (mvT hZ (tw hw 50 rfl)) (notFace_of_selects (args := #[]) (mvT hZ (tw hw 52 rfl))) (mvT hZ (tw hw 52 rfl)) (mvT hZ (tw hw 51 rfl)) (by decide) (backOf (W := 0) (rm8 l Z a0 hw [] b189 k160_kx_t0 b163_t0 k163_kx_t0 vl68_188 b158 f137_215 b160_t0 T203.heap n0 Zc214 c224 c225 fq203_2 fq203_1 hp176_226 hp176_227 hp176_228 hp176_229 c223 c230 fq203_0 g_b189 (Ne.symm ne_b158_b189_196) (Ne.symm ne_b160_t0_b189_205) (Ne.symm ne_b163_t0_b189_207)) hZ (tw hw 53 rfl) (tw hw 16 rfl) (by decide) (by decide)) q222a q222c (g := (mkF m 176 L194 [(.ref b189)])) rfl (szAt hml hL194 rfl) (Steps.refl _) (argsL := []) (rest := []) (lenOf pd_0_5 rfl) rfl (by show 2 * 0 + _ ≤ _; exact Nat.le_of_eq rfl) (hb hby at_176) (fun _ _ => ⟨rfl, eh218, (by decide : 4 + 0 ≤ _), (by decide : 69 + 0 ≤ _)⟩)
    dsimp only [Pt.U, Pt.locs, Pt.cells, Pt.slots] at X222 l222 y222 z222 st222 hQ222
    subst l222 y222 z222
    obtain ⟨rfl, N222q, Kc222, fq222_0, fq222_1, fq222_2⟩ := hQ222
    have Zc231 : n0 ≤ T222.heap.size := Nat.le_trans Zc214 Kc222.1
    obtain ⟨f176_232, hf176_232⟩ : ∃ z : Int32, z = (own_P vl68_188 f137_215) := ⟨_, rfl⟩
    rw [← hf176_232] at fq222_1
    have N222 := Fr.app N218 N222q
    refine Gl.st (B := (T222.setTop (mkF m 179 L194 [(.int (own_N vl68_188 f137_215))]))) (fun t k => st222.trans k) ?_
    obtain ⟨r176_233, hr176_233⟩ : ∃ z : Int32, z = (own_N vl68_188 f137_215) := ⟨_, rfl⟩
    refine Gl.cast (B := (T222.setTop (mkF m 179 L194 [(.int r176_233)]))) (by rw [hr176_233]) ?_
    have U1 : f176_232.toInt = (own_L y5_9_152).toInt + (own_L y6_15_154).toInt := own_0_U1' p2 y5_9_152 vl42_168 p3 y6_15_154 vl55_178 p4 y7_21_156 vl68_188 f137_215 f176_232 hy5_9_152 hvl42_168 hy6_15_154 hvl55_178 hy7_21_156 hvl68_188 hf137_215 hf176_232 G0 G1 G2 X2 U0
    refine Gl.st (B := (T222.setTop (mkF m 181 L194 [(.int y6_15_154), (.int r176_233)]))) (fun t k => XS.iload X222.here hx rfl (hb hby at_179) (ldAt hL194 rfl) k) ?_
    have hc181_234 : r176_233 = y6_15_154 := own_0_hc181_234 p2 y5_9_152 vl42_168 p3 y6_15_154 vl55_178 p4 y7_21_156 vl68_188 f137_215 r176_233 hy5_9_152 hvl42_168 hy6_15_154 hvl55_178 hy7_21_156 hvl68_188 hf137_215 hr176_233 G0 G1 G2 X2 U0
    refine Gl.st (B := (T222.setTop (mkF m 186 L194 []))) (fun t k => XS.icmpYes X222.here hx rfl (pc0 := 181) (pc' := 186) rfl (hb hby at_181) rfl (teq hc181_234).1 (by decide) (by decide) k) ?_
    refine Gl.st (B := (T222.setTop (mkF m 188 L194 [(.ref b189)]))) (fun t k => XS.aload X222.here hx rfl (hb hby at_186) (ldAt hL194 rfl) rfl k) ?_
    have c236 := (c219.keep Kc222 (ninS ne_b158_b189_196 nin0))
    obtain ⟨cq235, kq235, q235a, q235b, q235c⟩ := isOf hZ rfl fq222_0
    obtain ⟨_, _, ⟨T235, L235q, k235, n235⟩, -, X235, ⟨Lc235, hQ235, l235, y235, z235⟩, st235⟩ := X222.virtualBack hx (y := (⟨"com/example/outcomery/outcomery/PackedNumbers$Reader", "hasNext", "()Z"⟩ : MethodName)) (z := (⟨"com/example/outcomery/outcomery/PackedNumbers$Reader", "hasNext", "()Z"⟩ : MethodName)) hown (mvT hZ (tw hw 27 rfl)) (mvT hZ (tw hw 28 rfl)) (notFace_of_selects (args := #[]) (mvT hZ (tw hw 30 rfl))) (mvT hZ (tw hw 30 rfl)) (mvT hZ (tw hw 29 rfl)) (by decide) (backOf (W := 0) (rm5 l Z a0 hw [] b189 f176_232 b158 f68_187 T222.heap n0 Zc231 fq222_1 fq222_2 c236) hZ (tw hw 31 rfl) (tw hw 16 rfl) (by decide) (by decide)) q235a q235c (g := (mkF m 188 L194 [(.ref b189)])) rfl (szAt hml hL194 rfl) (Steps.refl _) (argsL := []) (rest := []) (lenOf pd_0_3 rfl) rfl (by show 2 * 0 + _ ≤ _; exact Nat.le_of_eq rfl) (hb hby at_188) (fun _ _ => ⟨rfl, rfl, (by decide : 4 + 0 ≤ _), (by decide : 69 + 0 ≤ _)⟩)
    dsimp only [Pt.U, Pt.locs, Pt.cells, Pt.slots] at X235 l235 y235 z235 st235 hQ235
    subst l235 y235 z235
    obtain ⟨rfl, N235q, eh235⟩ := hQ235
    have N235 := Fr.app N222 N235q
    refine Gl.st (B := (T235.setTop (mkF m 191 L194 [(.int ((if f176_232 < f68_187 then (1 : Int32) else (0 : Int32))))]))) (fun t k => st235.trans k) ?_
    obtain ⟨r188_237, hr188_237⟩ : ∃ z : Int32, z = ((if f176_232 < f68_187 then (1 : Int32) else (0 : Int32))) := ⟨_, rfl⟩
    refine Gl.cast (B := (T235.setTop (mkF m 191 L194 [(.int r188_237)]))) (by rw [hr188_237]) ?_
    refine Gl.st (B := (T235.setTop (mkF m 193 L194 [(.int (3 : Int32)), (.int r188_237)]))) (fun t k => XS.iload X235.here hx rfl (hb hby at_191) (ldAt hL194 rfl) k) ?_
    refine Gl.st (B := (T235.setTop (mkF m 194 L194 [(.int (3 : Int32)), (.int (3 : Int32)), (.int r188_237)]))) (fun t k => XS.iconst X235.here hx rfl (hb hby at_193) k) ?_
    refine Gl.st (B := (T235.setTop (mkF m 197 L194 [(.int r188_237)]))) (fun t k => XS.icmpNo X235.here hx rfl (hb hby at_194) rfl (by decide) k) ?_
    refine Gl.st (B := (T235.setTop (mkF m 198 L194 [(.int (1 : Int32)), (.int r188_237)]))) (fun t k => XS.iconst X235.here hx rfl (hb hby at_197) k) ?_
    refine Gl.st (B := (T235.setTop (mkF m 202 L194 [(.int (1 : Int32)), (.int r188_237)]))) (fun t k => XS.goto X235.here hx rfl (pc0 := 198) (pc' := 202) rfl (hb hby at_198) (by decide) (by decide) k) ?_
    have hc202_238 : r188_237 = (1 : Int32) := own_0_hc202_238 p2 y5_9_152 vl42_168 p3 y6_15_154 vl55_178 p4 y7_21_156 vl68_188 f137_215 f176_232 f42_167 f55_177 f68_187 r188_237 hy5_9_152 hvl42_168 hy6_15_154 hvl55_178 hy7_21_156 hvl68_188 hf137_215 hf176_232 hf42_167 hf55_177 hf68_187 hr188_237 G0 G1 G2 T2 U1
    refine Gl.st (B := (T235.setTop (mkF m 207 L194 []))) (fun t k => XS.icmpYes X235.here hx rfl (pc0 := 202) (pc' := 207) rfl (hb hby at_202) rfl (teq hc202_238).1 (by decide) (by decide) k) ?_
    refine Gl.st (B := (T235.setTop (mkF m 209 L194 [(.int (3 : Int32))]))) (fun t k => XS.iload X235.here hx rfl (hb hby at_207) (ldAt hL194 rfl) k) ?_
    refine Gl.st (B := (T235.setTop (mkF m 210 L194 [(.int (3 : Int32)), (.int (3 : Int32))]))) (fun t k => XS.iconst X235.here hx rfl (hb hby at_209) k) ?_
    refine Gl.st (B := (T235.setTop (mkF m 213 L194 []))) (fun t k => XS.icmpNo X235.here hx rfl (hb hby at_210) rfl (by decide) k) ?_
    refine Gl.st (B := (T235.setTop (mkF m 215 L194 [(.ref b189)]))) (fun t k => XS.aload X235.here hx rfl (hb hby at_213) (ldAt hL194 rfl) rfl k) ?_
    have c240 := (c223.keep Kc222 (ninS ne_b158_b189_196 nin0))
    have c241 := (c224.keep Kc222 (ninS ne_b160_t0_b189_205 nin0))
    have c242 := (c225.keep Kc222 (ninS ne_b163_t0_b189_207 nin0))
    have hp215_243 : ¬ f176_232 < 0 := own_0_hp215_243 p2 y5_9_152 vl42_168 p3 y6_15_154 vl55_178 p4 y7_21_156 vl68_188 f137_215 f176_232 hy5_9_152 hvl42_168 hy6_15_154 hvl55_178 hy7_21_156 hvl68_188 hf137_215 hf176_232 G0 G1 G2 X2 U1
    have hp215_244 : f176_232 < 58 := own_0_hp215_244 p2 y5_9_152 vl42_168 p3 y6_15_154 vl55_178 p4 y7_21_156 vl68_188 f137_215 f176_232 hy5_9_152 hvl42_168 hy6_15_154 hvl55_178 hy7_21_156 hvl68_188 hf137_215 hf176_232 G0 G1 G2 X2 U1
    have hp215_245 : ∀ v ∈ vl68_188, ∃ x, v = .int x := own_0_hp215_245 p2 y5_9_152 vl42_168 p3 y6_15_154 vl55_178 p4 y7_21_156 vl68_188 f137_215 f176_232 hy5_9_152 hvl42_168 hy6_15_154 hvl55_178 hy7_21_156 hvl68_188 hf137_215 hf176_232 G0 G1 G2 X2 U1
    have hp215_246 : ¬ ((own_at vl68_188 f176_232 &&& (255 : Int32)) < (128 : Int32)) → ¬ ((own_at vl68_188 (f176_232 + (1 : Int32)) &&& (255 : Int32)) < (128 : Int32)) → ¬ ((own_at vl68_188 ((f176_232 + (1 : Int32)) + (1 : Int32)) &&& (255 : Int32)) < (128 : Int32)) → ¬ ((own_at vl68_188 (((f176_232 + (1 : Int32)) + (1 : Int32)) + (1 : Int32)) &&& (255 : Int32)) < (128 : Int32)) → (own_at vl68_188 ((((f176_232 + (1 : Int32)) + (1 : Int32)) + (1 : Int32)) + (1 : Int32)) &&& (255 : Int32)) < (128 : Int32) := own_0_hp215_246 p2 y5_9_152 vl42_168 p3 y6_15_154 vl55_178 p4 y7_21_156 vl68_188 f137_215 f176_232 hy5_9_152 hvl42_168 hy6_15_154 hvl55_178 hy7_21_156 hvl68_188 hf137_215 hf176_232 G0 G1 G2 X2 U1
    have c247 := (c230.keep Kc222)
    obtain ⟨cq239, kq239, q239a, q239b, q239c⟩ := isOf hZ eh235 fq222_0
    obtain ⟨_, _, ⟨T239, L239q, k239, n239⟩, -, X239, ⟨Lc239, hQ239, l239, y239, z239⟩, st239⟩ := X235.virtualBack hx (y := (⟨"com/example/outcomery/outcomery/PackedNumbers$Reader", "next", "()I"⟩ : MethodName)) (z := (⟨"com/example/outcomery/outcomery/PackedNumbers$Reader", "next", "()I"⟩ : MethodName)) hown (mvT hZ (tw hw 49 rfl)) (mvT hZ (tw hw 50 rfl)) (notFace_of_selects (args := #[]) (mvT hZ (tw hw 52 rfl))) (mvT hZ (tw hw 52 rfl)) (mvT hZ (tw hw 51 rfl)) (by decide) (backOf (W := 0) (rm8 l Z a0 hw [] b189 k160_kx_t0 b163_t0 k163_kx_t0 vl68_188 b158 f176_232 b160_t0 T222.heap n0 Zc231 c241 c242 fq222_2 fq222_1 hp215_243 hp215_244 hp215_245 hp215_246 c240 c247 fq222_0 g_b189 (Ne.symm ne_b158_b189_196) (Ne.symm ne_b160_t0_b189_205) (Ne.symm ne_b163_t0_b189_207)) hZ (tw hw 53 rfl) (tw hw 16 rfl) (by decide) (by decide)) q239a q239c (g := (mkF m 215 L194 [(.ref b189)])) rfl (szAt hml hL194 rfl) (Steps.refl _) (argsL := []) (rest := []) (lenOf pd_0_5 rfl) rfl (by show 2 * 0 + _ ≤ _; exact Nat.le_of_eq rfl) (hb hby at_215) (fun _ _ => ⟨rfl, eh235, (by decide : 4 + 0 ≤ _), (by decide : 69 + 0 ≤ _)⟩)
    dsimp only [Pt.U, Pt.locs, Pt.cells, Pt.slots] at X239 l239 y239 z239 st239 hQ239
    subst l239 y239 z239
    obtain ⟨rfl, N239q, Kc239, fq239_0, fq239_1, fq239_2⟩ := hQ239
    have Zc248 : n0 ≤ T239.heap.size := Nat.le_trans Zc231 Kc239.1
    obtain ⟨f215_249, hf215_249⟩ : ∃ z : Int32, z = (own_P vl68_188 f176_232) := ⟨_, rfl⟩
    rw [← hf215_249] at fq239_1
    have N239 := Fr.app N235 N239q
    refine Gl.st (B := (T239.setTop (mkF m 218 L194 [(.int (own_N vl68_188 f176_232))]))) (fun t k => st239.trans k) ?_
    obtain ⟨r215_250, hr215_250⟩ : ∃ z : Int32, z = (own_N vl68_188 f176_232) := ⟨_, rfl⟩
    refine Gl.cast (B := (T239.setTop (mkF m 218 L194 [(.int r215_250)]))) (by rw [hr215_250]) ?_
    have U2 : f215_249.toInt = (own_L y5_9_152).toInt + (own_L y6_15_154).toInt + (own_L y7_21_156).toInt := own_0_U2 p2 y5_9_152 vl42_168 p3 y6_15_154 vl55_178 p4 y7_21_156 vl68_188 f137_215 f176_232 f215_249 hy5_9_152 hvl42_168 hy6_15_154 hvl55_178 hy7_21_156 hvl68_188 hf137_215 hf176_232 hf215_249 G0 G1 G2 X2 U1
    refine Gl.st (B := (T239.setTop (mkF m 220 L194 [(.int y7_21_156), (.int r215_250)]))) (fun t k => XS.iload X239.here hx rfl (hb hby at_218) (ldAt hL194 rfl) k) ?_
    have hc220_251 : r215_250 = y7_21_156 := own_0_hc220_251 p2 y5_9_152 vl42_168 p3 y6_15_154 vl55_178 p4 y7_21_156 vl68_188 f137_215 f176_232 r215_250 hy5_9_152 hvl42_168 hy6_15_154 hvl55_178 hy7_21_156 hvl68_188 hf137_215 hf176_232 hr215_250 G0 G1 G2 X2 U1
    refine Gl.st (B := (T239.setTop (mkF m 225 L194 []))) (fun t k => XS.icmpYes X239.here hx rfl (pc0 := 220) (pc' := 225) rfl (hb hby at_220) rfl (teq hc220_251).1 (by decide) (by decide) k) ?_
    refine Gl.st (B := (T239.setTop (mkF m 227 L194 [(.ref b189)]))) (fun t k => XS.aload X239.here hx rfl (hb hby at_225) (ldAt hL194 rfl) rfl k) ?_
    have c253 := (c236.keep Kc239 (ninS ne_b158_b189_196 nin0))
    obtain ⟨cq252, kq252, q252a, q252b, q252c⟩ := isOf hZ rfl fq239_0
    obtain ⟨_, _, ⟨T252, L252q, k252, n252⟩, -, X252, ⟨Lc252, hQ252, l252, y252, z252⟩, st252⟩ := X239.virtualBack hx (y := (⟨"com/example/outcomery/outcomery/PackedNumbers$Reader", "hasNext", "()Z"⟩ : MethodName)) (z := (⟨"com/example/outcomery/outcomery/PackedNumbers$Reader", "hasNext", "()Z"⟩ : MethodName)) hown (mvT hZ (tw hw 27 rfl)) (mvT hZ (tw hw 28 rfl)) (notFace_of_selects (args := #[]) (mvT hZ (tw hw 30 rfl))) (mvT hZ (tw hw 30 rfl)) (mvT hZ (tw hw 29 rfl)) (by decide) (backOf (W := 0) (rm5 l Z a0 hw [] b189 f215_249 b158 f68_187 T239.heap n0 Zc248 fq239_1 fq239_2 c253) hZ (tw hw 31 rfl) (tw hw 16 rfl) (by decide) (by decide)) q252a q252c (g := (mkF m 227 L194 [(.ref b189)])) rfl (szAt hml hL194 rfl) (Steps.refl _) (argsL := []) (rest := []) (lenOf pd_0_3 rfl) rfl (by show 2 * 0 + _ ≤ _; exact Nat.le_of_eq rfl) (hb hby at_227) (fun _ _ => ⟨rfl, rfl, (by decide : 4 + 0 ≤ _), (by decide : 69 + 0 ≤ _)⟩)
    dsimp only [Pt.U, Pt.locs, Pt.cells, Pt.slots] at X252 l252 y252 z252 st252 hQ252
    subst l252 y252 z252
    obtain ⟨rfl, N252q, eh252⟩ := hQ252
    have N252 := Fr.app N239 N252q
    refine Gl.st (B := (T252.setTop (mkF m 230 L194 [(.int ((if f215_249 < f68_187 then (1 : Int32) else (0 : Int32))))]))) (fun t k => st252.trans k) ?_
    obtain ⟨r227_254, hr227_254⟩ : ∃ z : Int32, z = ((if f215_249 < f68_187 then (1 : Int32) else (0 : Int32))) := ⟨_, rfl⟩
    refine Gl.cast (B := (T252.setTop (mkF m 230 L194 [(.int r227_254)]))) (by rw [hr227_254]) ?_
    have hc230_255 : r227_254 = (0 : Int32) := own_0_hc230_255 p2 y5_9_152 vl42_168 p3 y6_15_154 vl55_178 p4 y7_21_156 vl68_188 f137_215 f176_232 f215_249 f42_167 f55_177 f68_187 r227_254 hy5_9_152 hvl42_168 hy6_15_154 hvl55_178 hy7_21_156 hvl68_188 hf137_215 hf176_232 hf215_249 hf42_167 hf55_177 hf68_187 hr227_254 G0 G1 G2 T2 U2
    refine Gl.st (B := (T252.setTop (mkF m 235 L194 []))) (fun t k => XS.ifYes X252.here hx rfl (pc0 := 230) (pc' := 235) rfl (hb hby at_230) rfl ((if0 _ _).trans (teq hc230_255).1) (by decide) (by decide) k) ?_
    refine Gl.st (B := (T252.setTop (mkF m 236 L194 [(.int (1 : Int32))]))) (fun t k => XS.iconst X252.here hx rfl (hb hby at_235) k) ?_
    obtain ⟨fs, hr, hrun, hended, hW, hsame⟩ := X252.leave (v := some (.int (nar .boolean (1 : Int32)))) (fun h => by rw [Bd.returns] at h; cases h)
    refine Gl.fin (retN X252 hx (t := .boolean) Bd.returns (by simp) (hb hby at_236) hr) hrun hended ⟨_, _, rfl, ?_, ⟨_, rfl⟩, hW, hsame.mono (by decide) (by decide)⟩
    show Q0 Z p1 p2 p3 p4 h0 n0 _ T252.heap _
    rw [eh252]
    exact ⟨rfl, N252⟩
set_option maxRecDepth 65536 in
set_option maxHeartbeats 40000000 in
theorem comes_1 {Post : Tables → Env → Array Value → State → Outcome → State → Prop} (hpost : ∀ tb e args s v u, (limb_1_1.after args s (.returned v) u = true ∧ limb_1_2.after args s (.returned v) u = true ∧ True) → FrameEnd s (.returned v) u (Jvm.fieldLocs frame_1_writes args s ++ Jvm.arrayLocs frame_1_arrays args s ++ Jvm.staticLocs frame_1_statics s) 16 256 → Post tb e args s (.returned v) u) :
    ArmFor flags0 classFile x code maxLocals ret World_1 tables_1 room_1 Calls_1 rest_1 Pre_1 Post := by
  intro l hfl _ _ p e ha hc hk s m args below hf hA hF happ hP
  obtain ⟨hcalls, hrest, hpre⟩ := hP
  obtain ⟨-, -, -, hnamed, -, -, -, hat⟩ := (Spec.applies_iff hf).mp happ
  obtain ⟨hg, hn⟩ := and_e (Cond.before_iff.mp (show (Jvm.Cond.and given_1 narrow_1).before args s = true from hpre))
  obtain ⟨g1, g2⟩ := and_e hg
  obtain ⟨g3, g4⟩ := and_e g2
  obtain ⟨g5, g6⟩ := and_e g4
  obtain ⟨g7, g8⟩ := and_e g6
  obtain ⟨w0, w1, w2, w3, rfl⟩ : ∃ w0 w1 w2 w3 : Value, args = #[w0, w1, w2, w3] := by
    have hs : args.size = 4 := by simpa [Cond.value, given_1] using g1
    obtain ⟨L⟩ := args
    match L, hs with
    | [w0, w1, w2, w3], _ => exact ⟨w0, w1, w2, w3, rfl⟩
  have hw := fun d (hd : d ∈ tables_1) => atoms_spec (ws := Jvm.Cond.code x code maxLocals ret :: tables_1) hat d (List.mem_cons_of_mem _ hd)
  have hfit : Fit s := fun {y c} hc i hi => by
    obtain ⟨ha, rfl⟩ := Array.getElem?_eq_some_iff.mp hc
    have q := List.all_eq_true.mp ((Array.all_eq_true_iff_forall_mem.mp hF) _ (Array.getElem_mem ha)) i (List.mem_range.mpr hi)
    simpa [Array.getElem?_eq_getElem hi] using q
  obtain ⟨i0, ei0⟩ := is_v g3
  obtain rfl : w0 = (.int i0) := Option.some.inj ei0
  obtain ⟨i1, ei1⟩ := is_v g5
  obtain rfl : w1 = (.int i1) := Option.some.inj ei1
  obtain ⟨i2, ei2⟩ := is_v g7
  obtain rfl : w2 = (.int i2) := Option.some.inj ei2
  obtain ⟨i3, ei3⟩ := is_v g8
  obtain rfl : w3 = (.int i3) := Option.some.inj ei3
  obtain ⟨n, o, h1, h2, h3, _, L, rfl, ⟨rfl, N⟩, hq⟩ := rm0 l s _ hw tables_1 i0 i1 i2 i3 s.heap s.heap.size (Nat.le_refl _) p e ha hc hk s m _ below hf ((Spec.applies_iff_loose hf).mp happ).1 ⟨rfl, State.Warmed39.refl s, rfl⟩ trivial
  refine ⟨n, _, h1, h2, h3, hpost _ _ _ _ _ _ ⟨Cond.after_iff.mpr rfl, Cond.after_iff.mpr (eq_i res_at (Term.int_eval (1)) rfl), trivial⟩ ⟨hq.1, hq.2.1, (hq.2.2.sift fun y hy => Or.inr (N y hy)).mono (by decide) (by decide)⟩⟩
theorem main_1_1 : Claimed_1_1 := comes_1 fun _ _ _ _ _ _ h hF => ⟨h.1, hF⟩
theorem main_1_2 : Claimed_1_2 := comes_1 fun _ _ _ _ _ _ h hF => ⟨h.2.1, hF⟩
end Jvm.Pilot.@@N@@
namespace Jvm.Pilot.@@N@@
open Jvm Jvm.ClassFile Sem Op Lib Jvm.Free Jvm.Stand Jvm.Pilot.@@N@@.Jvm.D
/-! MADE BY PROGRAM (witnessworld.py) out of the Statement's table words and the real class files: 11 classes; the members and pool entries that the words name. The judged class is class 1, her method 1. -/
namespace start1
open Jvm.ClassFile
def u (s : String) : CpInfo := .utf8 (stringToUtf16 s)
/-- a pool by its gaps: so many unusable entries, then the entry; so many at the end -/
def gap : Nat → List CpInfo → List CpInfo
  | 0, r => r
  | n + 1, r => .unusable :: gap n r
def poolList (es : List (Nat × CpInfo)) (last : Nat) : List CpInfo := es.foldr (fun e r => gap e.1 (e.2 :: r)) (gap last [])
def pool (es : List (Nat × CpInfo)) (last : Nat) : Array CpInfo := ⟨poolList es last⟩
def fileOf (pool : Array CpInfo) (this : Nat) (attrs : Array Attribute := #[]) (ms : Array MethodInfo := #[]) (fl : Nat := 33) (sup : Nat := 0) (ifs : Array Nat := #[]) (fds : Array FieldInfo := #[]) : ClassFile where
  minorVersion := 0
  majorVersion := 65
  constantPool := pool
  accessFlags := fl
  thisClass := this
  superClass := sup
  interfaces := ifs
  fields := fds
  methods := ms
  attributes := attrs
def plain (name : String) (sup : Option ClassId) : Class where
  name := name
  kind := .ordinary
  loader := none
  accessFlags := 33
  super := sup
  interfaces := #[]
  cf := none
  fields := #[]
  methods := #[]
  instanceTypes := #[]
  staticTypes := #[]
  resolved := #[]
  callSites := []
  init := .initialized
  statics := none
  mirror := none

def pool0 : Array CpInfo := pool [(5, u "<init>"), (0, u "()V"), (1, .class_ 10), (1, u "java/lang/Object")] 113

def k0c0 : Code := { maxStack := 0, maxLocals := 1, code := object_method_1_code, exceptionTable := #[], attributes := #[] }
def k0m0 : Method := { name := "<init>", desc := "()V", sig := { parameters := [], returnType := none }, accessFlags := 1, code := some k0c0 }
/-- java/lang/Object -/
def k0 : Class := { plain "java/lang/Object" none with
  accessFlags := 33
  interfaces := #[]
  cf := some (fileOf pool0 8 #[] #[{ accessFlags := 1, nameIndex := 5, descriptorIndex := 6, attributes := #[] }] 33 0 #[] #[])
  fields := #[]
  methods := #[k0m0]
  instanceTypes := #[]
  staticTypes := #[]
  resolved := Array.replicate 124 none
  statics := none }

def pool1 : Array CpInfo := pool [(2, .class_ 4), (0, .nameAndType 5 6), (0, u "java/lang/Object"), (0, u "<init>"), (0, u "()V"), (0, .integer 2147483647), (0, .class_ 9), (0, u "com/example/outcomery/outcomery/PackedNumbers"), (0, .methodref 8 3), (0, .methodref 8 12), (0, .nameAndType 13 14), (0, u "add"), (0, u "(I)V"), (0, .class_ 16), (0, u "com/example/outcomery/outcomery/PackedNumbers$Reader"), (0, .methodref 18 19), (0, .class_ 20), (0, .nameAndType 21 22), (0, u "java/util/Objects"), (0, u "requireNonNull"), (0, u "(Ljava/lang/Object;)Ljava/lang/Object;"), (0, .methodref 15 24), (0, .nameAndType 5 25), (0, u "(Lcom/example/outcomery/outcomery/PackedNumbers;)V"), (0, .methodref 15 27), (0, .nameAndType 28 29), (0, u "hasNext"), (0, u "()Z"), (0, .methodref 15 31), (0, .nameAndType 32 33), (0, u "next"), (0, u "()I"), (0, .class_ 35), (0, u "com/example/outcomery/outcomery/ReaderHasNextPinLaw"), (2, u "law"), (0, u "(IIII)Z")] 5

def k1m0 : Method := { name := "<init>", desc := "()V", sig := { parameters := [], returnType := none }, accessFlags := 1, code := none }
def k1c1 : Code := { maxStack := 4, maxLocals := 10, code := code, exceptionTable := #[], attributes := #[] }
def k1m1 : Method := { name := "law", desc := "(IIII)Z", sig := { parameters := [.int, .int, .int, .int], returnType := some .boolean }, accessFlags := 9, code := some k1c1 }
/-- com/example/outcomery/outcomery/ReaderHasNextPinLaw -/
def k1 : Class := { plain "com/example/outcomery/outcomery/ReaderHasNextPinLaw" (some 0) with
  accessFlags := 49
  interfaces := #[]
  cf := some (fileOf pool1 34 #[] #[{ accessFlags := 1, nameIndex := 5, descriptorIndex := 6, attributes := #[] }, { accessFlags := 9, nameIndex := 38, descriptorIndex := 39, attributes := #[] }] 49 2 #[] #[])
  fields := #[]
  methods := #[k1m0, k1m1]
  instanceTypes := #[]
  staticTypes := #[]
  resolved := Array.replicate 45 none
  statics := none }

def pool2 : Array CpInfo := pool [(1, .class_ 2), (0, u "com/example/outcomery/outcomery/PackedNumbers"), (0, .methodref 4 5), (0, .class_ 6), (0, .nameAndType 7 8), (0, u "java/lang/Object"), (0, u "<init>"), (0, u "()V"), (0, .class_ 10), (0, u "[B"), (0, .fieldref 1 12), (0, .nameAndType 13 14), (0, u "pieces"), (0, u "[[B"), (0, .methodref 1 16), (0, .nameAndType 17 18), (0, u "put"), (0, u "(I)V"), (0, .fieldref 1 20), (0, .nameAndType 21 22), (0, u "length"), (0, u "I"), (0, .integer 65535), (0, .class_ 25), (0, u "com/example/outcomery/outcomery/PackedNumbers$Reader"), (10, .integer 65536), (3, u "PIECE_BITS"), (2, u "PIECE_SIZE"), (0, u "FIRST_SIZE"), (3, u "add"), (2, u "byteAt"), (0, u "(I)I")] 7

def k2c0 : Code := { maxStack := 2, maxLocals := 1, code := prog_23_method_1_code, exceptionTable := #[], attributes := #[] }
def k2m0 : Method := { name := "<init>", desc := "()V", sig := { parameters := [], returnType := none }, accessFlags := 0, code := some k2c0 }
def k2c1 : Code := { maxStack := 3, maxLocals := 3, code := prog_23_method_2_code, exceptionTable := #[], attributes := #[] }
def k2m1 : Method := { name := "add", desc := "(I)V", sig := { parameters := [.int], returnType := none }, accessFlags := 0, code := some k2c1 }
def k2c2 : Code := { maxStack := 3, maxLocals := 2, code := prog_23_method_4_code, exceptionTable := #[], attributes := #[] }
def k2m2 : Method := { name := "byteAt", desc := "(I)I", sig := { parameters := [.int], returnType := some .int }, accessFlags := 0, code := some k2c2 }
def k2c3 : Code := { maxStack := 4, maxLocals := 5, code := prog_23_method_6_code, exceptionTable := #[], attributes := #[] }
def k2m3 : Method := { name := "put", desc := "(I)V", sig := { parameters := [.int], returnType := none }, accessFlags := 2, code := some k2c3 }
/-- com/example/outcomery/outcomery/PackedNumbers -/
def k2 : Class := { plain "com/example/outcomery/outcomery/PackedNumbers" (some 0) with
  accessFlags := 48
  interfaces := #[]
  cf := some (fileOf pool2 1 #[.nestMembers #[24]] #[{ accessFlags := 0, nameIndex := 7, descriptorIndex := 8, attributes := #[] }, { accessFlags := 0, nameIndex := 48, descriptorIndex := 18, attributes := #[] }, { accessFlags := 0, nameIndex := 51, descriptorIndex := 52, attributes := #[] }, { accessFlags := 2, nameIndex := 17, descriptorIndex := 18, attributes := #[] }] 48 4 #[] #[{ accessFlags := 26, nameIndex := 40, descriptorIndex := 22, attributes := #[] }, { accessFlags := 26, nameIndex := 43, descriptorIndex := 22, attributes := #[] }, { accessFlags := 26, nameIndex := 44, descriptorIndex := 22, attributes := #[] }, { accessFlags := 2, nameIndex := 13, descriptorIndex := 14, attributes := #[] }, { accessFlags := 2, nameIndex := 21, descriptorIndex := 22, attributes := #[] }])
  fields := #[{ name := "PIECE_BITS", type := .int, accessFlags := 26, slot := 0, constantValue := 0 }, { name := "PIECE_SIZE", type := .int, accessFlags := 26, slot := 1, constantValue := 0 }, { name := "FIRST_SIZE", type := .int, accessFlags := 26, slot := 2, constantValue := 0 }, { name := "pieces", type := (.array (.array .byte)), accessFlags := 2, slot := 0, constantValue := 0 }, { name := "length", type := .int, accessFlags := 2, slot := 1, constantValue := 0 }]
  methods := #[k2m0, k2m1, k2m2, k2m3]
  instanceTypes := #[(.array (.array .byte)), .int]
  staticTypes := #[.int, .int, .int]
  resolved := Array.replicate 60 none
  statics := none }

def pool3 : Array CpInfo := pool [(1, .fieldref 2 3), (0, .class_ 4), (0, .nameAndType 5 6), (0, u "com/example/outcomery/outcomery/PackedNumbers$Reader"), (0, u "this$0"), (0, u "Lcom/example/outcomery/outcomery/PackedNumbers;"), (0, .methodref 8 9), (0, .class_ 10), (0, .nameAndType 11 12), (0, u "java/lang/Object"), (0, u "<init>"), (0, u "()V"), (0, .fieldref 2 14), (0, .nameAndType 15 16), (0, u "place"), (0, u "I"), (0, .fieldref 18 19), (0, .class_ 20), (0, .nameAndType 21 16), (0, u "com/example/outcomery/outcomery/PackedNumbers"), (0, u "length"), (0, .methodref 18 23), (0, .nameAndType 24 25), (0, u "byteAt"), (0, u "(I)I"), (0, u "(Lcom/example/outcomery/outcomery/PackedNumbers;)V"), (3, u "hasNext"), (0, u "()Z"), (1, u "next"), (0, u "()I")] 5

def k3c0 : Code := { maxStack := 2, maxLocals := 2, code := prog_24_method_1_code, exceptionTable := #[], attributes := #[] }
def k3m0 : Method := { name := "<init>", desc := "(Lcom/example/outcomery/outcomery/PackedNumbers;)V", sig := { parameters := [(.object "com/example/outcomery/outcomery/PackedNumbers")], returnType := none }, accessFlags := 0, code := some k3c0 }
def k3c1 : Code := { maxStack := 2, maxLocals := 1, code := prog_24_method_2_code, exceptionTable := #[], attributes := #[] }
def k3m1 : Method := { name := "hasNext", desc := "()Z", sig := { parameters := [], returnType := some .boolean }, accessFlags := 0, code := some k3c1 }
def k3c2 : Code := { maxStack := 3, maxLocals := 4, code := prog_24_method_3_code, exceptionTable := #[], attributes := #[] }
def k3m2 : Method := { name := "next", desc := "()I", sig := { parameters := [], returnType := some .int }, accessFlags := 0, code := some k3c2 }
/-- com/example/outcomery/outcomery/PackedNumbers$Reader -/
def k3 : Class := { plain "com/example/outcomery/outcomery/PackedNumbers$Reader" (some 0) with
  accessFlags := 48
  interfaces := #[]
  cf := some (fileOf pool3 2 #[.nestHost 18] #[{ accessFlags := 0, nameIndex := 11, descriptorIndex := 26, attributes := #[] }, { accessFlags := 0, nameIndex := 30, descriptorIndex := 31, attributes := #[] }, { accessFlags := 0, nameIndex := 33, descriptorIndex := 34, attributes := #[] }] 48 8 #[] #[{ accessFlags := 2, nameIndex := 15, descriptorIndex := 16, attributes := #[] }, { accessFlags := 4112, nameIndex := 5, descriptorIndex := 6, attributes := #[] }])
  fields := #[{ name := "place", type := .int, accessFlags := 2, slot := 0, constantValue := 0 }, { name := "this$0", type := (.object "com/example/outcomery/outcomery/PackedNumbers"), accessFlags := 4112, slot := 1, constantValue := 0 }]
  methods := #[k3m0, k3m1, k3m2]
  instanceTypes := #[.int, (.object "com/example/outcomery/outcomery/PackedNumbers")]
  staticTypes := #[]
  resolved := Array.replicate 40 none
  statics := none }

def pool4 : Array CpInfo := pool [(2, .class_ 4), (1, u "java/lang/Object"), (0, u "<init>"), (0, u "()V"), (35, .class_ 44), (1, u "java/util/Objects"), (0, u "requireNonNull"), (0, u "(Ljava/lang/Object;)Ljava/lang/Object;")] 137

def k4m0 : Method := { name := "<init>", desc := "()V", sig := { parameters := [], returnType := none }, accessFlags := 2, code := none }
def k4c1 : Code := { maxStack := 2, maxLocals := 1, code := jdk_31_method_10_code, exceptionTable := #[], attributes := #[] }
def k4m1 : Method := { name := "requireNonNull", desc := "(Ljava/lang/Object;)Ljava/lang/Object;", sig := { parameters := [(.object "java/lang/Object")], returnType := some (.object "java/lang/Object") }, accessFlags := 9, code := some k4c1 }
/-- java/util/Objects -/
def k4 : Class := { plain "java/util/Objects" (some 0) with
  accessFlags := 49
  interfaces := #[]
  cf := some (fileOf pool4 42 #[] #[{ accessFlags := 2, nameIndex := 5, descriptorIndex := 6, attributes := #[] }, { accessFlags := 9, nameIndex := 45, descriptorIndex := 46, attributes := #[] }] 49 2 #[] #[])
  fields := #[]
  methods := #[k4m0, k4m1]
  instanceTypes := #[]
  staticTypes := #[]
  resolved := Array.replicate 184 none
  statics := none }

def pool5 : Array CpInfo := pool [(1, u "java/lang/Cloneable"), (0, .class_ 1), (0, u "java/lang/Object"), (0, .class_ 3)] 3

/-- java/lang/Cloneable -/
def k5 : Class := { plain "java/lang/Cloneable" (some 0) with
  accessFlags := 1537
  interfaces := #[]
  cf := some (fileOf pool5 2 #[] #[] 1537 4 #[] #[])
  fields := #[]
  methods := #[]
  instanceTypes := #[]
  staticTypes := #[]
  resolved := Array.replicate 8 none
  statics := none }

def pool6 : Array CpInfo := pool [(1, u "java/io/Serializable"), (0, .class_ 1), (0, u "java/lang/Object"), (0, .class_ 3)] 3

/-- java/io/Serializable -/
def k6 : Class := { plain "java/io/Serializable" (some 0) with
  accessFlags := 1537
  interfaces := #[]
  cf := some (fileOf pool6 2 #[] #[] 1537 4 #[] #[])
  fields := #[]
  methods := #[]
  instanceTypes := #[]
  staticTypes := #[]
  resolved := Array.replicate 8 none
  statics := none }

/-- the primitive byte -/
def k7 : Class := { plain "byte" none with kind := .primitive 'B', accessFlags := 0x411 }
/-- [B -/
def k8 : Class := { plain "[B" (some 0) with kind := .array 7 .byte, interfaces := #[5, 6], accessFlags := 1041 }

/-- the primitive int -/
def k9 : Class := { plain "int" none with kind := .primitive 'I', accessFlags := 0x411 }
/-- [I -/
def k10 : Class := { plain "[I" (some 0) with kind := .array 9 .int, interfaces := #[5, 6], accessFlags := 1041 }

/-- [[B -/
def k11 : Class := { plain "[[B" (some 0) with kind := .array 8 (.array .byte), interfaces := #[5, 6], accessFlags := 1041 }
def heap : Heap := #[]
def classes : Array Class := #[k0, k1, k2, k3, k4, k5, k6, k7, k8, k9, k10, k11]
def interned : List (Array UInt16 × Addr) := []
def slotsUsed : Nat := 0
def theMethod : MethodId := ⟨1, 1⟩
def args0 : Array Value := #[.int 5, .int 5, .int 5, .int 5]
def aboutOver (below : List Frame) : State where
  vm := { classes := classes, interned := interned.toArray }
  heap := heap
  slotsUsed := slotsUsed
  threads := #[{ frames := .invoking theMethod args0 :: below }]
def below0 : List Frame := [.native { method := ⟨0, 0⟩, args := #[] }]
def about1 : State := aboutOver below0
def p0 : Program := .bare "" "" ""
def e0 : Env := launch0.env 0 0 0
theorem w_frames : about1.frames = Frame.invoking theMethod args0 :: below0 := rfl
set_option maxRecDepth 65536 in
theorem w_args : argsFit about1.vm theMethod args0 = true := by decide +kernel
set_option maxRecDepth 65536 in
theorem w_heap : heapFits about1 = true := by decide +kernel
set_option maxRecDepth 65536 in
theorem w_runnable : about1.curStatus? = some .runnable := by decide +kernel
set_option maxRecDepth 65536 in
theorem w_alone : about1.alone = true := by decide +kernel
set_option maxRecDepth 65536 in
theorem w_named : about1.methodNamed? x = some theMethod := by decide +kernel
set_option maxRecDepth 65536 in
theorem w_hears : about1.hears theMethod below0 = true := by decide +kernel
set_option maxRecDepth 65536 in
theorem w_ripe : about1.ripe theMethod args0 below0 = true := by decide +kernel
theorem w_running : about1.status = .running := rfl
set_option maxRecDepth 65536 in
theorem w_room : about1.hasRoom e0.platform room_1 = true :=
  launch0.hasRoom_least _ room_1 (by decide +kernel) (by decide +kernel) (by decide +kernel) (by decide +kernel) (by decide +kernel) (by decide +kernel)
theorem allAtoms_all (ts : List Jvm.Cond) (a : Array Jvm.Value) (st : Jvm.State) : (allAtoms ts).before a st = ts.all (fun c => c.before a st) := by
  induction ts with
  | nil => rfl
  | cons c t ih =>
    show (Jvm.Cond.and c (allAtoms t)).before a st = _
    rw [Jvm.Cond.before_and, ih, List.all_cons]
def words1 : List Jvm.Cond := Jvm.Cond.code x code maxLocals ret :: tables_1
/-- a 'code' word, met by the world's own term for the bytes: nothing is compared byte by byte -/
theorem code_word {y : MethodName} {bytes : ByteArray} {mx : Nat} {rt : Option FieldType} {a : Array Value} {s : State} {m : MethodId} {meth : Method} {c : Code} (h1 : s.methodNamed? y = some m) (h2 : s.vm.method? m = some meth) (h3 : meth.code = some c) (h4 : c.code = bytes)
    (h5 : (c.maxLocals == mx && c.exceptionTable.isEmpty && decide (c.maxStack ≤ mostOperands) && decide (meth.sig.returnType = rt) && !meth.locks && decide (parseMethodDescriptor y.desc = some meth.sig)) = true) : (Jvm.Cond.code y bytes mx rt).before a s = true := by
  simp only [Bool.and_eq_true, beq_iff_eq, Bool.not_eq_true', decide_eq_true_eq] at h5
  obtain ⟨⟨⟨⟨⟨g1, g2⟩, g3⟩, g4⟩, g5⟩, g6⟩ := h5
  simp [Cond.before, Cond.holds, Cond.value, h1, h2, h3, h4, g1, g2, g3, g4, g5, g6]
def isCode : Jvm.Cond → Bool
  | .code _ _ _ _ => true
  | _ => false
theorem all_split {L : List Jvm.Cond} {P : Jvm.Cond → Bool} (h1 : L.all (fun c => isCode c || P c) = true) (h2 : ∀ c ∈ L.filter isCode, P c = true) : L.all P = true := by
  refine List.all_eq_true.mpr fun c hc => ?_
  have h := List.all_eq_true.mp h1 c hc
  rcases Bool.eq_false_or_eq_true (isCode c) with hi | hi
  · exact h2 c (List.mem_filter.mpr ⟨hc, hi⟩)
  · simpa [hi] using h
set_option maxRecDepth 65536 in
theorem w_c0 : (Jvm.Cond.code x code maxLocals ret).before args0 about1 = true := code_word (m := ⟨1, 1⟩) (meth := k1m1) (c := k1c1) (by decide +kernel) rfl rfl rfl (by decide +kernel)
set_option maxRecDepth 65536 in
theorem w_c1 : (Jvm.Cond.code ({ cls := "com/example/outcomery/outcomery/PackedNumbers", name := "<init>", desc := "()V" } : Jvm.MethodName) prog_23_method_1_code (1 : Nat) (Option.none : Option Jvm.ClassFile.FieldType)).before args0 about1 = true := code_word (m := ⟨2, 0⟩) (meth := k2m0) (c := k2c0) (by decide +kernel) rfl rfl rfl (by decide +kernel)
set_option maxRecDepth 65536 in
theorem w_c2 : (Jvm.Cond.code ({ cls := "java/lang/Object", name := "<init>", desc := "()V" } : Jvm.MethodName) object_method_1_code (1 : Nat) (Option.none : Option Jvm.ClassFile.FieldType)).before args0 about1 = true := code_word (m := ⟨0, 0⟩) (meth := k0m0) (c := k0c0) (by decide +kernel) rfl rfl rfl (by decide +kernel)
set_option maxRecDepth 65536 in
theorem w_c3 : (Jvm.Cond.code ({ cls := "java/util/Objects", name := "requireNonNull", desc := "(Ljava/lang/Object;)Ljava/lang/Object;" } : Jvm.MethodName) jdk_31_method_10_code (1 : Nat) (Option.some (Jvm.ClassFile.FieldType.object "java/lang/Object"))).before args0 about1 = true := code_word (m := ⟨4, 1⟩) (meth := k4m1) (c := k4c1) (by decide +kernel) rfl rfl rfl (by decide +kernel)
set_option maxRecDepth 65536 in
theorem w_c4 : (Jvm.Cond.code ({ cls := "com/example/outcomery/outcomery/PackedNumbers$Reader", name := "<init>", desc := "(Lcom/example/outcomery/outcomery/PackedNumbers;)V" } : Jvm.MethodName) prog_24_method_1_code (2 : Nat) (Option.none : Option Jvm.ClassFile.FieldType)).before args0 about1 = true := code_word (m := ⟨3, 0⟩) (meth := k3m0) (c := k3c0) (by decide +kernel) rfl rfl rfl (by decide +kernel)
set_option maxRecDepth 65536 in
theorem w_c5 : (Jvm.Cond.code ({ cls := "com/example/outcomery/outcomery/PackedNumbers$Reader", name := "hasNext", desc := "()Z" } : Jvm.MethodName) prog_24_method_2_code (1 : Nat) (Option.some Jvm.ClassFile.FieldType.boolean)).before args0 about1 = true := code_word (m := ⟨3, 1⟩) (meth := k3m1) (c := k3c1) (by decide +kernel) rfl rfl rfl (by decide +kernel)
set_option maxRecDepth 65536 in
theorem w_c6 : (Jvm.Cond.code ({ cls := "com/example/outcomery/outcomery/PackedNumbers", name := "add", desc := "(I)V" } : Jvm.MethodName) prog_23_method_2_code (3 : Nat) (Option.none : Option Jvm.ClassFile.FieldType)).before args0 about1 = true := code_word (m := ⟨2, 1⟩) (meth := k2m1) (c := k2c1) (by decide +kernel) rfl rfl rfl (by decide +kernel)
set_option maxRecDepth 65536 in
theorem w_c7 : (Jvm.Cond.code ({ cls := "com/example/outcomery/outcomery/PackedNumbers", name := "put", desc := "(I)V" } : Jvm.MethodName) prog_23_method_6_code (5 : Nat) (Option.none : Option Jvm.ClassFile.FieldType)).before args0 about1 = true := code_word (m := ⟨2, 3⟩) (meth := k2m3) (c := k2c3) (by decide +kernel) rfl rfl rfl (by decide +kernel)
set_option maxRecDepth 65536 in
theorem w_c8 : (Jvm.Cond.code ({ cls := "com/example/outcomery/outcomery/PackedNumbers$Reader", name := "next", desc := "()I" } : Jvm.MethodName) prog_24_method_3_code (4 : Nat) (Option.some Jvm.ClassFile.FieldType.int)).before args0 about1 = true := code_word (m := ⟨3, 2⟩) (meth := k3m2) (c := k3c2) (by decide +kernel) rfl rfl rfl (by decide +kernel)
set_option maxRecDepth 65536 in
theorem w_c9 : (Jvm.Cond.code ({ cls := "com/example/outcomery/outcomery/PackedNumbers", name := "byteAt", desc := "(I)I" } : Jvm.MethodName) prog_23_method_4_code (2 : Nat) (Option.some Jvm.ClassFile.FieldType.int)).before args0 about1 = true := code_word (m := ⟨2, 2⟩) (meth := k2m2) (c := k2c2) (by decide +kernel) rfl rfl rfl (by decide +kernel)
def codes1 : List Jvm.Cond := [Jvm.Cond.code x code maxLocals ret, Jvm.Cond.code ({ cls := "com/example/outcomery/outcomery/PackedNumbers", name := "<init>", desc := "()V" } : Jvm.MethodName) prog_23_method_1_code (1 : Nat) (Option.none : Option Jvm.ClassFile.FieldType), Jvm.Cond.code ({ cls := "java/lang/Object", name := "<init>", desc := "()V" } : Jvm.MethodName) object_method_1_code (1 : Nat) (Option.none : Option Jvm.ClassFile.FieldType), Jvm.Cond.code ({ cls := "java/util/Objects", name := "requireNonNull", desc := "(Ljava/lang/Object;)Ljava/lang/Object;" } : Jvm.MethodName) jdk_31_method_10_code (1 : Nat) (Option.some (Jvm.ClassFile.FieldType.object "java/lang/Object")), Jvm.Cond.code ({ cls := "com/example/outcomery/outcomery/PackedNumbers$Reader", name := "<init>", desc := "(Lcom/example/outcomery/outcomery/PackedNumbers;)V" } : Jvm.MethodName) prog_24_method_1_code (2 : Nat) (Option.none : Option Jvm.ClassFile.FieldType), Jvm.Cond.code ({ cls := "com/example/outcomery/outcomery/PackedNumbers$Reader", name := "hasNext", desc := "()Z" } : Jvm.MethodName) prog_24_method_2_code (1 : Nat) (Option.some Jvm.ClassFile.FieldType.boolean), Jvm.Cond.code ({ cls := "com/example/outcomery/outcomery/PackedNumbers", name := "add", desc := "(I)V" } : Jvm.MethodName) prog_23_method_2_code (3 : Nat) (Option.none : Option Jvm.ClassFile.FieldType), Jvm.Cond.code ({ cls := "com/example/outcomery/outcomery/PackedNumbers", name := "put", desc := "(I)V" } : Jvm.MethodName) prog_23_method_6_code (5 : Nat) (Option.none : Option Jvm.ClassFile.FieldType), Jvm.Cond.code ({ cls := "com/example/outcomery/outcomery/PackedNumbers$Reader", name := "next", desc := "()I" } : Jvm.MethodName) prog_24_method_3_code (4 : Nat) (Option.some Jvm.ClassFile.FieldType.int), Jvm.Cond.code ({ cls := "com/example/outcomery/outcomery/PackedNumbers", name := "byteAt", desc := "(I)I" } : Jvm.MethodName) prog_23_method_4_code (2 : Nat) (Option.some Jvm.ClassFile.FieldType.int)]
set_option maxRecDepth 65536 in
theorem codes_eq : words1.filter isCode = codes1 := rfl
theorem w_codes : ∀ c ∈ words1.filter isCode, c.before args0 about1 = true := by
  rw [codes_eq]
  intro c hc
  simp only [codes1, List.mem_cons, List.not_mem_nil, or_false] at hc
  rcases hc with rfl | rfl | rfl | rfl | rfl | rfl | rfl | rfl | rfl | rfl
  · exact w_c0
  · exact w_c1
  · exact w_c2
  · exact w_c3
  · exact w_c4
  · exact w_c5
  · exact w_c6
  · exact w_c7
  · exact w_c8
  · exact w_c9
set_option maxRecDepth 65536 in
theorem w_t1 : (words1.take 24).all (fun c => isCode c || c.before args0 about1) = true := by decide +kernel
set_option maxRecDepth 65536 in
theorem w_t2 : ((words1.drop 24).take 24).all (fun c => isCode c || c.before args0 about1) = true := by decide +kernel
set_option maxRecDepth 65536 in
theorem w_t3 : ((words1.drop 24).drop 24).all (fun c => isCode c || c.before args0 about1) = true := by decide +kernel
theorem w_tables : (allAtoms (Jvm.Cond.code x code maxLocals ret :: tables_1)).before args0 about1 = true := by
  rw [allAtoms_all]
  show words1.all (fun c => c.before args0 about1) = true
  refine all_split ?_ w_codes
  rw [← List.take_append_drop 24 words1, List.all_append, w_t1, ← List.take_append_drop 24 (words1.drop 24), List.all_append, w_t2, w_t3]
  rfl
set_option maxRecDepth 65536 in
theorem w_case : (Jvm.Cond.and given_1 narrow_1).before args0 about1 = true := by decide +kernel
theorem w_applies : (headSpec (Jvm.Cond.code x code maxLocals ret :: tables_1) room_1).applies x e0.platform about1 = true :=
  (Spec.applies_iff w_frames).mpr ⟨w_running, w_runnable, w_alone, w_named, w_hears, w_ripe, w_room, w_tables⟩
theorem atStart : AtStart classFile x code maxLocals ret World_1 tables_1 room_1 Calls_1 rest_1 Pre_1 launch0 p0 e0 about1 theMethod args0 below0 :=
  ⟨lists_1, trivial, launch0.admits_env _ _ _, launch0.least_env, fairChoices_fair.cas, fairChoices_fair.clock, w_frames, w_args, w_heap, w_applies, trivial, trivial, w_case⟩
end start1
theorem witness_1 : WitnessClaimed_1 := ⟨start1.p0, start1.e0, start1.about1, start1.theMethod, start1.args0, start1.below0, start1.atStart⟩
end Jvm.Pilot.@@N@@
