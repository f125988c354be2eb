import JvmDerived
import JvmDerived.Pilot.@@N@@Statement
import JvmDerived.Pilot.@@N@@Code
set_option linter.unusedVariables false
set_option linter.unusedSimpArgs false
namespace Jvm.RoadKit
open Sem ClassFile Op Lib Jvm.Stand Jvm.Free Jvm.LawKit
section New
variable {p : Program} {l : Launch} {e : Env} {R : Room} {s : State} {m : MethodId} {args : Array Value} {below : List Frame} {meth : Method} {c : Code} {T : State} {locs : List Loc} {cells slots : Nat}
theorem retI (X : Stand p l e R s m args below meth c T locs cells slots) (hx : p.tables.exec = Jvm.exec) {pc : Nat} {Ls : Array Slot} {z : Int32} {rest : List Value} (hret : meth.sig.returnType = some .int) (hd : decode c.code pc = .ok (.ireturn, 1)) {fs : List Frame}
    (hl : ∀ (f : JFrame) (acts : List Action), f.method = m → f.locked = none → f.entered = [] → (doReturn e (T.setTop f) acts (some (.int z))).1 = T.setFrames fs) : Steps p.tables e below (T.setTop (mkF m pc Ls (.int z :: rest))) (T.setFrames fs) := by
  have hm' : T.vm.method? m = some meth := X.method'
  have hn : narrow .int (.int z) = .int z := rfl
  show Steps p.tables e below (T.setTop { method := m, pc := pc, locals := Ls, stack := _ :: rest, locked := none }) _
  jvm_step X.here [X.here.top, hx, hd, hm', hret, hn]
  first | (intro acts; rw [hl _ acts rfl rfl rfl]) | rw [hl _ _ rfl rfl rfl]
  exact Steps.refl _
end New
end Jvm.RoadKit
namespace Jvm.Pilot.@@N@@
open Jvm Jvm.ClassFile Sem Op Lib Jvm.Free Jvm.Stand Jvm.LawKit Jvm.RoadKit Bundle Jvm.Pilot.@@N@@.Jvm.D
def Gl (p : Program) (e : Env) (below : List Frame) (Q : Outcome → State → Prop) (A : State) : Prop := ∃ t o, Steps p.tables e below A t ∧ t.status = .running ∧ Ended t below o ∧ Q o t
theorem Gl.st {p : Program} {e : Env} {below : List Frame} {Q : Outcome → State → Prop} {A B : State} (k : ∀ t, Steps p.tables e below B t → Steps p.tables e below A t) (h : Gl p e below Q B) : Gl p e below Q A := by
  obtain ⟨t, o, h1, r⟩ := h
  exact ⟨t, o, k t h1, r⟩
theorem Gl.cast {p : Program} {e : Env} {below : List Frame} {Q : Outcome → State → Prop} {A B : State} (k : A = B) (h : Gl p e below Q B) : Gl p e below Q A := k ▸ h
theorem Gl.join {p : Program} {e : Env} {below : List Frame} {Q : Outcome → State → Prop} {A B : State} (k : Gl p e below Q A → Gl p e below Q B) (h : Gl p e below Q A) : Gl p e below Q B := k h
theorem Gl.fin {p : Program} {e : Env} {below : List Frame} {Q : Outcome → State → Prop} {A t : State} {o : Outcome} (h1 : Steps p.tables e below A t) (h2 : t.status = .running) (h3 : Ended t below o) (h4 : Q o t) : Gl p e below Q A := ⟨t, o, h1, h2, h3, h4⟩
theorem tw {a0 : Array Value} {Z : State} (hw : ∀ d ∈ tables_1, d.before a0 Z = true) (i : Nat) {d : Jvm.Cond} (h : tables_1[i]? = some d) : d.before a0 Z = true := hw _ (List.mem_of_getElem? h)
theorem ldAt {L M : Array Slot} (h : L = M) {k : Nat} {v : Slot} (q : M[k]? = some v) : L[k]? = some v := h ▸ q
theorem stAt {L M L' M' : Array Slot} {k : Nat} {v w : Value} (h : L = M) (h' : L' = M') (e : w = v) (q : storeLocals M k v = some M') : storeLocals L k w = some L' := by subst h h' e; exact q
theorem stAt' {L M L' M' : Array Slot} {k : Nat} {v w : Value} (h : L = M) (h' : L' = M') (e : w = v) (q : storeLocals M k v = some M') : storeLocals L k w = some L' := by subst h h' e; exact q
theorem szAt {L M : Array Slot} {k n : Nat} (h : k = n) (h' : L = M) (q : M.size = n) : L.size = k := by subst h h'; exact q
theorem efAt {m : MethodId} {L M : Array Slot} {f : JFrame} (h : L = M) (q : f = mkF m 0 M []) : f = mkF m 0 L [] := h ▸ q
theorem own_nb {c : Prop} [Decidable c] {a b : Int32} (ha : nar .boolean a = a) (hb : nar .boolean b = b) : nar .boolean (if c then a else b) = if c then a else b := by split <;> assumption
theorem own_arr_keep {Z : State} {h h' : Heap} {a : Addr} {c : Cell} {ty : FieldType} {ws : List Addr} (F : Arr Z h a c ty) (K : Keep h h' ws) (q : a ∉ ws) : Arr Z h' a c ty := ⟨K.2.1 a c F.1 q, F.2⟩
theorem own_selp {s : State} {args : Array Value} {y : MethodName} {n : Nat} (wi : (Jvm.Cond.instantiable y.cls n).before args s = true) (wp : (Jvm.Cond.privateMethod y).before args s = true) (wn : (Jvm.Cond.instanceMethod y).before args s = true) (hy : y.cls ≠ "java/lang/invoke/MethodHandle" ∧ y.cls ≠ "java/lang/invoke/VarHandle") : (Jvm.Cond.selects y.cls y y).before args s = true := by
  obtain ⟨c, k, h1, h2, -, h4, -⟩ := Cond.instantiable_spec wi
  have h5 : k.isInterface = false := by
    cases hi : k.isInterface with
    | false => rfl
    | true => rw [hi] at h4; cases h4
  exact Jvm.Stand.selects_self_of_private h1 h2 h5 (Cond.privateMethod_at wp) wn hy
theorem own_push {Z : State} {h h' : Heap} {a : Addr} {k : ClassId} {ty : FieldType} {z j : Int32} {vs : List Value} {dv v : Value} {c : Cell} (A : Arr Z h a c ty) (q1 : c.cls = k) (S : c.slots.size = z.toNatClampNeg) (q3 : ¬ z < 0) (H : Has c vs dv) (G : ∀ i, i < c.slots.size → fits ty (vs.getD i dv) = true) (hv : fits ty v = true) (W : Wr h h' a j.toNatClampNeg v) (hj : j.toNatClampNeg = vs.length) : Arv Z h' a k ty z (vs ++ [v]) dv := by
  have q : ∀ i, (vs ++ [dv]).getD i dv = vs.getD i dv := pad_rep vs dv 1
  have r := Arv.set (vs := vs ++ [dv]) A q1 S q3 (fun i hi => by rw [q]; exact H i hi) (fun i hi => by rw [q]; exact G i hi) hv W vs.length hj (by simp)
  have e : (vs ++ [dv]).set vs.length v = vs ++ [v] := by simp
  rw [e] at r
  exact r
theorem own_eqL {args : Array Value} {s : State} {t : Term} {z : Int64} (h : (Jvm.Cond.eq t (.long z)).value args s none s [] = some true) : t.eval args s none [] s = some (.long z) := by
  obtain ⟨x, y, ha, hb, k1, k2⟩ := cmp_v (Or.inl h)
  obtain rfl : y = .long z := Option.some.inj (hb.symm.trans (long_at z))
  obtain ⟨w, rfl⟩ : ∃ w, x = .long w := k2
  rw [ha, gotT (eq_L ha hb) h]
theorem own_eqI {args : Array Value} {s : State} {t : Term} {z : Int32} (h : (Jvm.Cond.eq t (.int z)).value args s none s [] = some true) : t.eval args s none [] s = some (.int z) := by
  obtain ⟨x, y, ha, hb, k1, k2⟩ := cmp_v (Or.inl h)
  obtain rfl : y = .int z := Option.some.inj (hb.symm.trans (Term.int_eval z))
  obtain ⟨w, rfl⟩ : ∃ w, x = .int w := k2
  rw [ha, gotT (Cond.eq_ints ha hb) h]
theorem own_sta_keep {Z : State} {h h' : Heap} {C n d : String} {v : Value} {ws : List Addr} (F : Sta Z h C n d v) (K : Keep h h' ws) (q : ∀ x ∈ ws, ∀ cell : Cell, h[x]? = some cell → cell.vm.isStatics = false) : Sta Z h' C n d v := by
  obtain ⟨cf, i, k, f, a, cell, h1, h2, h3, h4, h5, h6, r⟩ := F
  exact ⟨cf, i, k, f, a, cell, h1, h2, h3, h4, K.2.1 a cell h5 (fun y => by have := q a y cell h5; rw [h6] at this; cases this), h6, r⟩
theorem own_exa_plain {Z : State} {h : Heap} {a : Addr} {C : String} (F : Exa Z h a C) : ∀ cell : Cell, h[a]? = some cell → cell.vm.isStatics = false := fun cell hc => by
  obtain ⟨c', k, h1, -, -, h4, -⟩ := F
  rw [h1] at hc; cases hc; exact h4
theorem own_arv_plain {Z : State} {h : Heap} {a : Addr} {k : ClassId} {ty : FieldType} {z : Int32} {vs : List Value} {dv : Value} (F : Arv Z h a k ty z vs dv) : ∀ cell : Cell, h[a]? = some cell → cell.vm.isStatics = false := fun cell hc => by
  obtain ⟨c', A, -⟩ := F
  have := A.1; rw [this] at hc; cases hc; exact A.plain
theorem own_suc (w : Int32) (h0 : ¬ w < 0) (h1 : w < 100) : (w + 1).toNatClampNeg = w.toNatClampNeg + 1 := by
  have a := nat_of h0
  have b := c_iadd w 1
  have z := rng32 (w + 1)
  rw [Int32.lt_iff_toInt_lt] at h0 h1
  have h2 : ¬ (w + 1) < 0 := by
    rw [Int32.lt_iff_toInt_lt]
    simp only [Int32.reduceToInt] at *
    omega
  have d := nat_of h2
  simp only [Int32.reduceToInt] at *
  omega
theorem own_hi0 (w y : Int32) (h0 : ¬ w < 0) (h1 : w < 65536) (h : y = ((w.toUInt32 >>> ((16 : Int32) &&& 31).toUInt32).toInt32)) : y = (0 : Int32) := by
  have a := c_iushr w (16 : Int32) 16 (by decide) (by decide)
  rw [← h] at a
  rw [Int32.lt_iff_toInt_lt] at h0 h1
  rw [← Int32.toInt_inj]
  clear h
  simp only [Int32.reduceToInt] at *
  omega
theorem own_lo0 (w y : Int32) (h0 : ¬ w < 0) (h1 : w < 65536) (h : y = (w &&& (65535 : Int32))) : w = y := by
  have a : y.toInt = w.toInt % 65536 := by rw [h]; exact c_mask w (65535 : Int32) 16 (by decide) (by decide)
  rw [Int32.lt_iff_toInt_lt] at h0 h1
  rw [← Int32.toInt_inj]
  clear h
  simp only [Int32.reduceToInt] at *
  omega
theorem own_lt (w : Int32) {a b : Int32} (h : w < a) (q : a.toInt ≤ b.toInt) : w < b := by
  rw [Int32.lt_iff_toInt_lt] at *
  omega
theorem sn0 {Z : State} {a0 : Array Value} (hw : ∀ d ∈ tables_1, d.before a0 Z = true) : Jvm.RoadKit.slotOf Z "com/example/outcomery/outcomery/PackedNumbers" "length" "I" ≠ Jvm.RoadKit.slotOf Z "com/example/outcomery/outcomery/PackedNumbers" "pieces" "[[B" := slot_ne (Or.inl (tw hw 24 rfl)) (Or.inl (tw hw 13 rfl)) (by decide) (t := .int) (t' := (.array (.array .byte))) (by decide) (by decide)
theorem d1_0 : decode prog_23_method_1_code 0 = .ok (.aload_n 0, 1) := by decide +kernel
theorem d1_1 : decode prog_23_method_1_code 1 = .ok (.invokespecial 3, 3) := by decide +kernel
theorem d1_4 : decode prog_23_method_1_code 4 = .ok (.aload_n 0, 1) := by decide +kernel
theorem d1_5 : decode prog_23_method_1_code 5 = .ok (.iconst 1, 1) := by decide +kernel
theorem d1_6 : decode prog_23_method_1_code 6 = .ok (.anewarray 9, 3) := by decide +kernel
theorem d1_9 : decode prog_23_method_1_code 9 = .ok (.putfield 11, 3) := by decide +kernel
theorem d1_12 : decode prog_23_method_1_code 12 = .ok (.return_, 1) := by decide +kernel
theorem pn_1 : plainName "com/example/outcomery/outcomery/PackedNumbers" = true := by first | (simp [plainName, overriddenIn]; done) | decide +kernel
theorem ef_1 (m : MethodId) (a1 : Addr) : entryFrame m #[(.ref a1)] 1 = mkF m 0 #[.val (.ref a1)] [] := by first | (simp [entryFrame, mkF, argsToLocals, Value.category]; done) | rfl
def Q1 (Z : State) (a1 : Addr) (u_pieces_a1 : Value) (u_length_a1 : Value) (h0 : Heap) (n0 : Nat) (v : Option Value) (h : Heap) (L : List Loc) : Prop := ∃ (t0 : Addr) (kx_t0 : ClassId), v = none ∧ Fr n0 L ∧ Keep h0 h [a1] ∧ h0.size ≤ t0 ∧ Exa Z h a1 "com/example/outcomery/outcomery/PackedNumbers" ∧ Fld Z h a1 "com/example/outcomery/outcomery/PackedNumbers" "length" "I" u_length_a1 ∧ Fld Z h a1 "com/example/outcomery/outcomery/PackedNumbers" "pieces" "[[B" (.ref t0) ∧ Exa Z h t0 "[[B" ∧ Arv Z h t0 kx_t0 (.array .byte) (1 : Int32) [.null] .null ∧ OvrA Z kx_t0 .byte "[B"
set_option maxRecDepth 65536 in
set_option maxHeartbeats 40000000 in
theorem rm1 (l : Launch) (Z : State) (a0 : Array Value) (hw : ∀ d ∈ tables_1, d.before a0 Z = true) (ws : List Jvm.Cond) (a1 : Addr) (u_pieces_a1 : Value) (u_length_a1 : Value) (h0 : Heap) (n0 : Nat) (Z0 : n0 ≤ h0.size) (F_pieces_a1 : Fld Z h0 a1 "com/example/outcomery/outcomery/PackedNumbers" "pieces" "[[B" u_pieces_a1) (F_length_a1 : Fld Z h0 a1 "com/example/outcomery/outcomery/PackedNumbers" "length" "I" u_length_a1) (E_a1 : Exa Z h0 a1 "com/example/outcomery/outcomery/PackedNumbers") (g_a1 : n0 ≤ a1) :
    MetFree l (⟨"com/example/outcomery/outcomery/PackedNumbers", "<init>", "()V"⟩ : MethodName) (head1 (Jvm.Cond.code (⟨"com/example/outcomery/outcomery/PackedNumbers", "<init>", "()V"⟩ : MethodName) prog_23_method_1_code 1 none :: ws) ({ frames := 1, cells := 1, slots := 1, locals := 12 } : Room)) (fun a U => a = #[(.ref a1)] ∧ Z.Warmed39 U.vm ∧ U.heap = h0) (fun _ _ _ _ _ => True) (fun _ U o U' => ∃ v L, o = .returned v ∧ Q1 Z a1 u_pieces_a1 u_length_a1 h0 n0 v U'.heap L ∧ FrameEnd U o U' L ({ frames := 1, cells := 1, slots := 1, locals := 12 } : Room).cells ({ frames := 1, cells := 1, slots := 1, locals := 12 } : Room).slots) := by
  refine MetFree.of_bodySF (plainFor_of_name pn_1) hisR ?_
  intro p e s m args below meth c s₁ Bd hml0 hP hK
  obtain ⟨rfl, hZ, hh⟩ := hP
  have hx := Bd.exec
  have hby := Bd.bytes
  have hml : c.maxLocals = 1 := hml0
  have hown : s.vm.findClass "com/example/outcomery/outcomery/PackedNumbers" = some m.cls := findClass_of_methodNamed Bd.named
  have hnm := (name_of_methodNamed Bd.named Bd.method).1
  have X0 : Stand p l e ({ frames := 1, cells := 1, slots := 1, locals := 12 } : Room) s m #[(.ref a1)] below meth c s₁ [] 0 0 := Stand.of_body Bd
  have e0 : s₁.heap = h0 := by rw [← hh, Bd.state]; rfl
  have N0 := Fr.nil n0
  have K0 : Keep h0 h0 [a1] := Keep.refl h0 _
  refine (show Gl p e below (fun o U' => ∃ v L, o = .returned v ∧ Q1 Z a1 u_pieces_a1 u_length_a1 h0 n0 v U'.heap L ∧ FrameEnd s o U' L ({ frames := 1, cells := 1, slots := 1, locals := 12 } : Room).cells ({ frames := 1, cells := 1, slots := 1, locals := 12 } : Room).slots) (s₁.setTop (entryFrame m #[(.ref a1)] 1)) from ?_)
  obtain ⟨L0, hL0⟩ : ∃ z : Array Slot, z = #[.val (.ref a1)] := ⟨_, rfl⟩
  refine Gl.st (B := (s₁.setTop (mkF m 0 L0 []))) (fun t k => castTop (efAt hL0 (ef_1 m a1)) k) ?_
  refine Gl.st (B := (s₁.setTop (mkF m 1 L0 [(.ref a1)]))) (fun t k => XS.aloadN X0.here hx rfl (hb hby d1_0) (ldAt hL0 rfl) rfl k) ?_
  obtain ⟨T1, X1, e1, st1⟩ := initO X0 hx hZ hown (tw hw 7 rfl) (tw hw 8 rfl) (tw hw 9 rfl) e0 (g := (mkF m 1 L0 [(.ref a1)])) rfl (szAt hml hL0 rfl) rfl (hb hby d1_1) (by decide) (W := 0) (by show 2 * 0 + _ ≤ _; exact Nat.le_of_eq rfl) (by decide)
  refine Gl.st (B := (T1.setTop (mkF m 4 L0 []))) st1 ?_
  refine Gl.st (B := (T1.setTop (mkF m 5 L0 [(.ref a1)]))) (fun t k => XS.aloadN X1.here hx rfl (hb hby d1_4) (ldAt hL0 rfl) rfl k) ?_
  refine Gl.st (B := (T1.setTop (mkF m 6 L0 [(.int (1 : Int32)), (.ref a1)]))) (fun t k => XS.iconst X1.here hx rfl (hb hby d1_5) k) ?_
  obtain ⟨T2, h2, k2, X2, e2, E2, A2, Ex2, O2, st2⟩ := newRA X1 hx hZ hown (C := "[B") (ty := .byte) rfl (tw hw 10 rfl) (tw hw 11 rfl) e1 (g := (mkF m 6 L0 [(.int (1 : Int32)), (.ref a1)])) rfl (hb hby d1_6) rfl (by decide) (cap := 1) (by decide) (by decide) (by decide) (by decide) (ad := "[[B") rfl
  obtain ⟨b2, gq2⟩ : ∃ z, z = h0.size := ⟨_, rfl⟩
  rw [← gq2] at A2 Ex2 st2
  have V2 : Arv Z h2 b2 k2 (.array .byte) (1 : Int32) [.null] .null := (Arv.new A2 (by decide)).pad (pad_rep [] .null 1)
  have g_b2 : n0 ≤ b2 := Nat.le_trans Z0 (Nat.le_of_eq gq2.symm)
  have sz_b2 : h0.size ≤ b2 := Nat.le_trans K0.1 (Nat.le_of_eq gq2.symm)
  have lt_b2 := V2.lt
  have Zc3 : n0 ≤ h2.size := Nat.le_trans Z0 E2.1
  have K4 : Keep h0 h2 [a1] := K0.ext E2
  refine Gl.st (B := (T2.setTop (mkF m 9 L0 [(.ref b2), (.ref a1)]))) st2 ?_
  have c5 := (E_a1.ext E2)
  have c6 := (F_pieces_a1.ext E2)
  obtain ⟨T7, h7, X7, e7, W7, st7⟩ := putF X2 hx hZ hown (host := "") (Or.inl (tw hw 12 rfl)) Via.refl e2 c6 c5 (Or.inl (tw hw 13 rfl)) (tw hw 2 rfl) (ty := (.array (.array .byte))) (by decide) rfl rfl (g := (mkF m 9 L0 [(.ref b2), (.ref a1)])) rfl rfl (hb hby d1_9)
  have Fw7 := c6.same W7
  have Zc8 : n0 ≤ h7.size := Nat.le_trans Zc3 (Nat.le_of_eq W7.size.symm)
  have K9 : Keep h0 h7 [a1] := K4.wr W7 (Or.inl (List.mem_of_getElem? (i := 0) rfl))
  have N7 := Fr.snoc X7 N0 g_a1
  refine Gl.st (B := (T7.setTop (mkF m 12 L0 []))) st7 ?_
  obtain ⟨fs, hr, hrun, hended, hW, hsame⟩ := X7.leave (v := none) (fun _ => rfl)
  refine Gl.fin (X7.returnOut hx Bd.returns (hb hby d1_12) hr) hrun hended ⟨_, _, rfl, ?_, ⟨_, rfl⟩, hW, hsame.mono (by decide) (by decide)⟩
  show Q1 Z a1 u_pieces_a1 u_length_a1 h0 n0 _ T7.heap _
  rw [e7]
  have c10 := (c5.wr W7)
  have c11 := ((F_length_a1.ext E2).other W7 (Or.inr (sn0 hw)))
  have c12 := (Ex2.wr W7)
  have ne_a1_b2_13 : a1 ≠ b2 := Nat.ne_of_lt (Nat.lt_of_lt_of_le F_pieces_a1.lt (Nat.le_of_eq gq2.symm))
  have c14 := (V2.other W7 (Ne.symm ne_a1_b2_13))
  exact ⟨b2, k2, rfl, N7, K9, sz_b2, c10, c11, Fw7, c12, c14, O2⟩
theorem sn1 {Z : State} {a0 : Array Value} (hw : ∀ d ∈ tables_1, d.before a0 Z = true) : Jvm.RoadKit.slotOf Z "com/example/outcomery/outcomery/PackedNumbers" "pieces" "[[B" ≠ Jvm.RoadKit.slotOf Z "com/example/outcomery/outcomery/PackedNumbers" "length" "I" := slot_ne (Or.inl (tw hw 13 rfl)) (Or.inl (tw hw 24 rfl)) (by decide) (t := (.array (.array .byte))) (t' := .int) (by decide) (by decide)
theorem d4_0 : decode prog_23_method_6_code 0 = .ok (.aload_n 0, 1) := by decide +kernel
theorem d4_1 : decode prog_23_method_6_code 1 = .ok (.getfield 19, 3) := by decide +kernel
theorem d4_4 : decode prog_23_method_6_code 4 = .ok (.bipush 16, 2) := by decide +kernel
theorem d4_6 : decode prog_23_method_6_code 6 = .ok (.iushr, 1) := by decide +kernel
theorem d4_7 : decode prog_23_method_6_code 7 = .ok (.istore_n 2, 1) := by decide +kernel
theorem d4_8 : decode prog_23_method_6_code 8 = .ok (.aload_n 0, 1) := by decide +kernel
theorem d4_9 : decode prog_23_method_6_code 9 = .ok (.getfield 19, 3) := by decide +kernel
theorem d4_12 : decode prog_23_method_6_code 12 = .ok (.ldc 23, 2) := by decide +kernel
theorem d4_14 : decode prog_23_method_6_code 14 = .ok (.iand, 1) := by decide +kernel
theorem d4_15 : decode prog_23_method_6_code 15 = .ok (.istore_n 3, 1) := by decide +kernel
theorem d4_16 : decode prog_23_method_6_code 16 = .ok (.iload_n 2, 1) := by decide +kernel
theorem d4_17 : decode prog_23_method_6_code 17 = .ok (.aload_n 0, 1) := by decide +kernel
theorem d4_18 : decode prog_23_method_6_code 18 = .ok (.getfield 11, 3) := by decide +kernel
theorem d4_21 : decode prog_23_method_6_code 21 = .ok (.arraylength, 1) := by decide +kernel
theorem d4_22 : decode prog_23_method_6_code 22 = .ok (.if_icmp .ne 20, 3) := by decide +kernel
theorem d4_42 : decode prog_23_method_6_code 42 = .ok (.aload_n 0, 1) := by decide +kernel
theorem d4_43 : decode prog_23_method_6_code 43 = .ok (.getfield 11, 3) := by decide +kernel
theorem d4_46 : decode prog_23_method_6_code 46 = .ok (.iload_n 2, 1) := by decide +kernel
theorem d4_47 : decode prog_23_method_6_code 47 = .ok (.aaload, 1) := by decide +kernel
theorem d4_48 : decode prog_23_method_6_code 48 = .ok (.astore 4, 2) := by decide +kernel
theorem d4_50 : decode prog_23_method_6_code 50 = .ok (.aload 4, 2) := by decide +kernel
theorem d4_52 : decode prog_23_method_6_code 52 = .ok (.ifnonnull 29, 3) := by decide +kernel
theorem d4_55 : decode prog_23_method_6_code 55 = .ok (.iload_n 2, 1) := by decide +kernel
theorem d4_56 : decode prog_23_method_6_code 56 = .ok (.ifCond .ne 8, 3) := by decide +kernel
theorem d4_59 : decode prog_23_method_6_code 59 = .ok (.bipush 64, 2) := by decide +kernel
theorem d4_61 : decode prog_23_method_6_code 61 = .ok (.goto 5, 3) := by decide +kernel
theorem d4_66 : decode prog_23_method_6_code 66 = .ok (.newarray .byte, 2) := by decide +kernel
theorem d4_68 : decode prog_23_method_6_code 68 = .ok (.astore 4, 2) := by decide +kernel
theorem d4_70 : decode prog_23_method_6_code 70 = .ok (.aload_n 0, 1) := by decide +kernel
theorem d4_71 : decode prog_23_method_6_code 71 = .ok (.getfield 11, 3) := by decide +kernel
theorem d4_74 : decode prog_23_method_6_code 74 = .ok (.iload_n 2, 1) := by decide +kernel
theorem d4_75 : decode prog_23_method_6_code 75 = .ok (.aload 4, 2) := by decide +kernel
theorem d4_77 : decode prog_23_method_6_code 77 = .ok (.aastore, 1) := by decide +kernel
theorem d4_78 : decode prog_23_method_6_code 78 = .ok (.goto 30, 3) := by decide +kernel
theorem d4_108 : decode prog_23_method_6_code 108 = .ok (.aload 4, 2) := by decide +kernel
theorem d4_110 : decode prog_23_method_6_code 110 = .ok (.iload_n 3, 1) := by decide +kernel
theorem d4_111 : decode prog_23_method_6_code 111 = .ok (.iload_n 1, 1) := by decide +kernel
theorem d4_112 : decode prog_23_method_6_code 112 = .ok (.i2b, 1) := by decide +kernel
theorem d4_113 : decode prog_23_method_6_code 113 = .ok (.bastore, 1) := by decide +kernel
theorem d4_114 : decode prog_23_method_6_code 114 = .ok (.aload_n 0, 1) := by decide +kernel
theorem d4_115 : decode prog_23_method_6_code 115 = .ok (.dup, 1) := by decide +kernel
theorem d4_116 : decode prog_23_method_6_code 116 = .ok (.getfield 19, 3) := by decide +kernel
theorem d4_119 : decode prog_23_method_6_code 119 = .ok (.iconst 1, 1) := by decide +kernel
theorem d4_120 : decode prog_23_method_6_code 120 = .ok (.iadd, 1) := by decide +kernel
theorem d4_121 : decode prog_23_method_6_code 121 = .ok (.putfield 19, 3) := by decide +kernel
theorem d4_124 : decode prog_23_method_6_code 124 = .ok (.return_, 1) := by decide +kernel
theorem pn_4 : plainName "com/example/outcomery/outcomery/PackedNumbers" = true := by first | (simp [plainName, overriddenIn]; done) | decide +kernel
theorem ef_4f (m : MethodId) (a1 : Addr) (p2 : Int32) : entryFrame m #[(.ref a1), (.int p2)] 5 = mkF m 0 #[.val (.ref a1), .val (.int p2), .unset, .unset, .unset] [] := by first | (simp [entryFrame, mkF, argsToLocals, Value.category]; done) | rfl
def Q4f (Z : State) (a1 : Addr) (p2 : Int32) (kx_w_pieces_a1 : ClassId) (w_pieces_a1 : Addr) (h0 : Heap) (n0 : Nat) (v : Option Value) (h : Heap) (L : List Loc) : Prop := ∃ (t0 : Addr) (kx_t0 : ClassId), v = none ∧ Fr n0 L ∧ Keep h0 h [w_pieces_a1, a1] ∧ h0.size ≤ t0 ∧ Arv Z h w_pieces_a1 kx_w_pieces_a1 (.array .byte) (1 : Int32) [(.ref t0)] .null ∧ OvrA Z kx_w_pieces_a1 .byte "[B" ∧ Exa Z h a1 "com/example/outcomery/outcomery/PackedNumbers" ∧ Fld Z h a1 "com/example/outcomery/outcomery/PackedNumbers" "length" "I" (.int (1 : Int32)) ∧ Fld Z h a1 "com/example/outcomery/outcomery/PackedNumbers" "pieces" "[[B" (.ref w_pieces_a1) ∧ Exa Z h t0 "[B" ∧ Arv Z h t0 kx_t0 .byte (64 : Int32) [(.int (nar .byte ((p2.toInt8.toInt32))))] (.int (0 : Int32))
set_option maxRecDepth 65536 in
set_option maxHeartbeats 40000000 in
theorem rm4f (l : Launch) (Z : State) (a0 : Array Value) (hw : ∀ d ∈ tables_1, d.before a0 Z = true) (ws : List Jvm.Cond) (a1 : Addr) (p2 : Int32) (kx_w_pieces_a1 : ClassId) (w_pieces_a1 : Addr) (h0 : Heap) (n0 : Nat) (Z0 : n0 ≤ h0.size) (V_w_pieces_a1 : Arv Z h0 w_pieces_a1 kx_w_pieces_a1 (.array .byte) (1 : Int32) [.null] .null) (O_w_pieces_a1 : OvrA Z kx_w_pieces_a1 .byte "[B") (F_pieces_a1 : Fld Z h0 a1 "com/example/outcomery/outcomery/PackedNumbers" "pieces" "[[B" (.ref w_pieces_a1)) (F_length_a1 : Fld Z h0 a1 "com/example/outcomery/outcomery/PackedNumbers" "length" "I" (.int (0 : Int32))) (g_w_pieces_a1 : n0 ≤ w_pieces_a1) (ne_a1_w_pieces_a1 : a1 ≠ w_pieces_a1) (E_a1 : Exa Z h0 a1 "com/example/outcomery/outcomery/PackedNumbers") (g_a1 : n0 ≤ a1) :
    MetFree l (⟨"com/example/outcomery/outcomery/PackedNumbers", "put", "(I)V"⟩ : MethodName) (head1 (Jvm.Cond.code (⟨"com/example/outcomery/outcomery/PackedNumbers", "put", "(I)V"⟩ : MethodName) prog_23_method_6_code 5 none :: ws) ({ frames := 0, cells := 1, slots := 64, locals := 0 } : Room)) (fun a U => a = #[(.ref a1), (.int p2)] ∧ Z.Warmed39 U.vm ∧ U.heap = h0) (fun _ _ _ _ _ => True) (fun _ U o U' => ∃ v L, o = .returned v ∧ Q4f Z a1 p2 kx_w_pieces_a1 w_pieces_a1 h0 n0 v U'.heap L ∧ FrameEnd U o U' L ({ frames := 0, cells := 1, slots := 64, locals := 0 } : Room).cells ({ frames := 0, cells := 1, slots := 64, locals := 0 } : Room).slots) := by
  refine MetFree.of_bodySF (plainFor_of_name pn_4) hisR ?_
  intro p e s m args below meth c s₁ Bd hml0 hP hK
  obtain ⟨rfl, hZ, hh⟩ := hP
  have hx := Bd.exec
  have hby := Bd.bytes
  have hml : c.maxLocals = 5 := hml0
  have hown : s.vm.findClass "com/example/outcomery/outcomery/PackedNumbers" = some m.cls := findClass_of_methodNamed Bd.named
  have hnm := (name_of_methodNamed Bd.named Bd.method).1
  have X0 : Stand p l e ({ frames := 0, cells := 1, slots := 64, locals := 0 } : Room) s m #[(.ref a1), (.int p2)] below meth c s₁ [] 0 0 := Stand.of_body Bd
  have e0 : s₁.heap = h0 := by rw [← hh, Bd.state]; rfl
  have N0 := Fr.nil n0
  have K0 : Keep h0 h0 [w_pieces_a1, a1] := Keep.refl h0 _
  refine (show Gl p e below (fun o U' => ∃ v L, o = .returned v ∧ Q4f Z a1 p2 kx_w_pieces_a1 w_pieces_a1 h0 n0 v U'.heap L ∧ FrameEnd s o U' L ({ frames := 0, cells := 1, slots := 64, locals := 0 } : Room).cells ({ frames := 0, cells := 1, slots := 64, locals := 0 } : Room).slots) (s₁.setTop (entryFrame m #[(.ref a1), (.int p2)] 5)) from ?_)
  obtain ⟨L0, hL0⟩ : ∃ z : Array Slot, z = #[.val (.ref a1), .val (.int p2), .unset, .unset, .unset] := ⟨_, rfl⟩
  refine Gl.st (B := (s₁.setTop (mkF m 0 L0 []))) (fun t k => castTop (efAt hL0 (ef_4f m a1 p2)) k) ?_
  refine Gl.st (B := (s₁.setTop (mkF m 1 L0 [(.ref a1)]))) (fun t k => XS.aloadN X0.here hx rfl (hb hby d4_0) (ldAt hL0 rfl) rfl k) ?_
  obtain ⟨T1, X1, e1, st1⟩ := getF X0 hx hZ hown (host := "") (Or.inl (tw hw 23 rfl)) Via.refl e0 F_length_a1 (g := (mkF m 1 L0 [(.ref a1)])) rfl rfl (hb hby d4_1)
  refine Gl.st (B := (T1.setTop (mkF m 4 L0 [(.int (0 : Int32))]))) st1 ?_
  refine Gl.st (B := (T1.setTop (mkF m 6 L0 [(.int (16 : Int32)), (.int (0 : Int32))]))) (fun t k => XS.bipush X1.here hx rfl (hb hby d4_4) k) ?_
  refine Gl.st (B := (T1.setTop (mkF m 7 L0 [(.int (0 : Int32))]))) (fun t k => XS.iushr X1.here hx rfl (hb hby d4_6) rfl k) ?_
  obtain ⟨L2, hL2⟩ : ∃ z : Array Slot, z = #[.val (.ref a1), .val (.int p2), .val (.int (0 : Int32)), .unset, .unset] := ⟨_, rfl⟩
  refine Gl.st (B := (T1.setTop (mkF m 8 L2 []))) (fun t k => XS.istoreN X1.here hx rfl (hb hby d4_7) rfl (l' := L2) (stAt hL0 hL2 rfl rfl) k) ?_
  refine Gl.st (B := (T1.setTop (mkF m 9 L2 [(.ref a1)]))) (fun t k => XS.aloadN X1.here hx rfl (hb hby d4_8) (ldAt hL2 rfl) rfl k) ?_
  obtain ⟨T3, X3, e3, st3⟩ := getF X1 hx hZ hown (host := "") (Or.inl (tw hw 23 rfl)) Via.refl e1 F_length_a1 (g := (mkF m 9 L2 [(.ref a1)])) rfl rfl (hb hby d4_9)
  refine Gl.st (B := (T3.setTop (mkF m 12 L2 [(.int (0 : Int32))]))) st3 ?_
  refine Gl.st (B := (T3.setTop (mkF m 14 L2 [(.int (65535 : Int32)), (.int (0 : Int32))]))) (fun t k => X3.ldcInt hx hown (mvT hZ (tw hw 25 rfl)) (g := (mkF m 12 L2 [(.int (0 : Int32))])) rfl (hb hby d4_12) _ k) ?_
  refine Gl.st (B := (T3.setTop (mkF m 15 L2 [(.int (0 : Int32))]))) (fun t k => XS.iand X3.here hx rfl (hb hby d4_14) rfl k) ?_
  obtain ⟨L4, hL4⟩ : ∃ z : Array Slot, z = #[.val (.ref a1), .val (.int p2), .val (.int (0 : Int32)), .val (.int (0 : Int32)), .unset] := ⟨_, rfl⟩
  refine Gl.st (B := (T3.setTop (mkF m 16 L4 []))) (fun t k => XS.istoreN X3.here hx rfl (hb hby d4_15) rfl (l' := L4) (stAt hL2 hL4 rfl rfl) k) ?_
  refine Gl.st (B := (T3.setTop (mkF m 17 L4 [(.int (0 : Int32))]))) (fun t k => XS.iloadN X3.here hx rfl (hb hby d4_16) (ldAt hL4 rfl) k) ?_
  refine Gl.st (B := (T3.setTop (mkF m 18 L4 [(.ref a1), (.int (0 : Int32))]))) (fun t k => XS.aloadN X3.here hx rfl (hb hby d4_17) (ldAt hL4 rfl) rfl k) ?_
  obtain ⟨T5, X5, e5, st5⟩ := getF X3 hx hZ hown (host := "") (Or.inl (tw hw 12 rfl)) Via.refl e3 F_pieces_a1 (g := (mkF m 18 L4 [(.ref a1), (.int (0 : Int32))])) rfl rfl (hb hby d4_18)
  refine Gl.st (B := (T5.setTop (mkF m 21 L4 [(.ref w_pieces_a1), (.int (0 : Int32))]))) st5 ?_
  obtain ⟨cl6, Ar6, q6, S6, P6, H6, G6⟩ := (id V_w_pieces_a1)
  refine Gl.st (B := (T5.setTop (mkF m 22 L4 [(.int cl6.slots.size.toInt32), (.int (0 : Int32))]))) (fun t k => X5.arraylength hx (by rw [e5]; exact Ar6.1) (State.isArrayOf_alike hZ.alike Ar6.2.1) (g := (mkF m 21 L4 [(.ref w_pieces_a1), (.int (0 : Int32))])) rfl rfl (hb hby d4_21) _ k) ?_
  refine Gl.cast (B := (T5.setTop (mkF m 22 L4 [(.int (1 : Int32)), (.int (0 : Int32))]))) (by rw [len_of S6 P6]) ?_
  refine Gl.st (B := (T5.setTop (mkF m 42 L4 []))) (fun t k => XS.icmpYes X5.here hx rfl (pc0 := 22) (pc' := 42) rfl (hb hby d4_22) rfl (by decide) (by decide) (by decide) k) ?_
  refine Gl.st (B := (T5.setTop (mkF m 43 L4 [(.ref a1)]))) (fun t k => XS.aloadN X5.here hx rfl (hb hby d4_42) (ldAt hL4 rfl) rfl k) ?_
  obtain ⟨T7, X7, e7, st7⟩ := getF X5 hx hZ hown (host := "") (Or.inl (tw hw 12 rfl)) Via.refl e5 F_pieces_a1 (g := (mkF m 43 L4 [(.ref a1)])) rfl rfl (hb hby d4_43)
  refine Gl.st (B := (T7.setTop (mkF m 46 L4 [(.ref w_pieces_a1)]))) st7 ?_
  refine Gl.st (B := (T7.setTop (mkF m 47 L4 [(.int (0 : Int32)), (.ref w_pieces_a1)]))) (fun t k => XS.iloadN X7.here hx rfl (hb hby d4_46) (ldAt hL4 rfl) k) ?_
  obtain ⟨cl8, Ar8, q8, S8, P8, H8, G8⟩ := (id V_w_pieces_a1)
  have hin47_8 : ¬ ((0 : Int32) < 0 ∨ cl8.slots.size ≤ ((0 : Int32)).toNatClampNeg) := inb_of S8 ⟨by decide, by decide⟩
  have hat8 := Has.at H8 hin47_8 (v := .null) rfl
  refine Gl.st (B := (T7.setTop (mkF m 48 L4 [.null]))) (fun t k => X7.aaload hx (j := (0 : Int32)) (v := .null) (by rw [e7]; exact Ar8.1) (State.isArrayOf_alike hZ.alike Ar8.2.1) rfl Ar8.2.2 hin47_8 hat8 (g := (mkF m 47 L4 [(.int (0 : Int32)), (.ref w_pieces_a1)])) rfl rfl (hb hby d4_47) _ k) ?_
  obtain ⟨L9, hL9⟩ : ∃ z : Array Slot, z = #[.val (.ref a1), .val (.int p2), .val (.int (0 : Int32)), .val (.int (0 : Int32)), .val .null] := ⟨_, rfl⟩
  refine Gl.st (B := (T7.setTop (mkF m 50 L9 []))) (fun t k => XS.astore X7.here hx rfl (hb hby d4_48) rfl rfl (l' := L9) (stAt hL4 hL9 rfl rfl) k) ?_
  refine Gl.st (B := (T7.setTop (mkF m 52 L9 [.null]))) (fun t k => XS.aload X7.here hx rfl (hb hby d4_50) (ldAt hL9 rfl) rfl k) ?_
  refine Gl.st (B := (T7.setTop (mkF m 55 L9 []))) (fun t k => XS.ifnonnullNo X7.here hx rfl (hb hby d4_52) rfl k) ?_
  refine Gl.st (B := (T7.setTop (mkF m 56 L9 [(.int (0 : Int32))]))) (fun t k => XS.iloadN X7.here hx rfl (hb hby d4_55) (ldAt hL9 rfl) k) ?_
  refine Gl.st (B := (T7.setTop (mkF m 59 L9 []))) (fun t k => XS.ifNo X7.here hx rfl (hb hby d4_56) rfl (by decide) k) ?_
  refine Gl.st (B := (T7.setTop (mkF m 61 L9 [(.int (64 : Int32))]))) (fun t k => XS.bipush X7.here hx rfl (hb hby d4_59) k) ?_
  refine Gl.st (B := (T7.setTop (mkF m 66 L9 [(.int (64 : Int32))]))) (fun t k => XS.goto X7.here hx rfl (pc0 := 61) (pc' := 66) rfl (hb hby d4_61) (by decide) (by decide) k) ?_
  obtain ⟨T10, h10, k10, X10, e10, E10, A10, Ex10, st10⟩ := newPE X7 hx hZ (tw hw 26 rfl) e7 (g := (mkF m 66 L9 [(.int (64 : Int32))])) rfl (hb hby d4_66) rfl (by decide) (cap := 64) (by decide) (by decide) (by decide) (by decide) (ad := "[B") rfl
  obtain ⟨b10, gq10⟩ : ∃ z, z = h0.size := ⟨_, rfl⟩
  rw [← gq10] at A10 Ex10 st10
  have V10 : Arv Z h10 b10 k10 .byte (64 : Int32) [] (.int (0 : Int32)) := Arv.new A10 (by decide)
  have g_b10 : n0 ≤ b10 := Nat.le_trans Z0 (Nat.le_of_eq gq10.symm)
  have sz_b10 : h0.size ≤ b10 := Nat.le_trans K0.1 (Nat.le_of_eq gq10.symm)
  have lt_b10 := V10.lt
  have Zc11 : n0 ≤ h10.size := Nat.le_trans Z0 E10.1
  have K12 : Keep h0 h10 [w_pieces_a1, a1] := K0.ext E10
  refine Gl.st (B := (T10.setTop (mkF m 68 L9 [(.ref b10)]))) st10 ?_
  obtain ⟨L13, hL13⟩ : ∃ z : Array Slot, z = #[.val (.ref a1), .val (.int p2), .val (.int (0 : Int32)), .val (.int (0 : Int32)), .val (.ref b10)] := ⟨_, rfl⟩
  refine Gl.st (B := (T10.setTop (mkF m 70 L13 []))) (fun t k => XS.astore X10.here hx rfl (hb hby d4_68) rfl rfl (l' := L13) (stAt hL9 hL13 rfl rfl) k) ?_
  refine Gl.st (B := (T10.setTop (mkF m 71 L13 [(.ref a1)]))) (fun t k => XS.aloadN X10.here hx rfl (hb hby d4_70) (ldAt hL13 rfl) rfl k) ?_
  have c14 := (F_pieces_a1.ext E10)
  obtain ⟨T15, X15, e15, st15⟩ := getF X10 hx hZ hown (host := "") (Or.inl (tw hw 12 rfl)) Via.refl e10 c14 (g := (mkF m 71 L13 [(.ref a1)])) rfl rfl (hb hby d4_71)
  refine Gl.st (B := (T15.setTop (mkF m 74 L13 [(.ref w_pieces_a1)]))) st15 ?_
  refine Gl.st (B := (T15.setTop (mkF m 75 L13 [(.int (0 : Int32)), (.ref w_pieces_a1)]))) (fun t k => XS.iloadN X15.here hx rfl (hb hby d4_74) (ldAt hL13 rfl) k) ?_
  refine Gl.st (B := (T15.setTop (mkF m 77 L13 [(.ref b10), (.int (0 : Int32)), (.ref w_pieces_a1)]))) (fun t k => XS.aload X15.here hx rfl (hb hby d4_75) (ldAt hL13 rfl) rfl k) ?_
  have c16 := (V_w_pieces_a1.ext E10)
  obtain ⟨cl17, Ar17, q17, S17, P17, H17, G17⟩ := (id c16)
  have hin77_17 : ¬ ((0 : Int32) < 0 ∨ cl17.slots.size ≤ ((0 : Int32)).toNatClampNeg) := inb_of S17 ⟨by decide, by decide⟩
  obtain ⟨T17, h17, X17, e17, W17, st17⟩ := stR X15 hx hZ e15 Ar17 (j := (0 : Int32)) hin77_17 rfl (Sto.ofVA Ar17 q17 O_w_pieces_a1 (Ins.self Ex10)) (g := (mkF m 77 L13 [(.ref b10), (.int (0 : Int32)), (.ref w_pieces_a1)])) rfl rfl (hb hby d4_77)
  have V17 : Arv Z h17 w_pieces_a1 kx_w_pieces_a1 (.array .byte) (1 : Int32) [(.ref b10)] .null := Arv.set Ar17 q17 S17 P17 H17 G17 rfl W17 0 rfl (Nat.le_of_ble_eq_true rfl)
  have Zc18 : n0 ≤ h17.size := Nat.le_trans Zc11 (Nat.le_of_eq W17.size.symm)
  have K19 : Keep h0 h17 [w_pieces_a1, a1] := K12.wr W17 (Or.inl (List.mem_of_getElem? (i := 0) rfl))
  have N17 := Fr.snoc X17 N0 g_w_pieces_a1
  refine Gl.st (B := (T17.setTop (mkF m 78 L13 []))) st17 ?_
  refine Gl.st (B := (T17.setTop (mkF m 108 L13 []))) (fun t k => XS.goto X17.here hx rfl (pc0 := 78) (pc' := 108) rfl (hb hby d4_78) (by decide) (by decide) k) ?_
  refine Gl.st (B := (T17.setTop (mkF m 110 L13 [(.ref b10)]))) (fun t k => XS.aload X17.here hx rfl (hb hby d4_108) (ldAt hL13 rfl) rfl k) ?_
  refine Gl.st (B := (T17.setTop (mkF m 111 L13 [(.int (0 : Int32)), (.ref b10)]))) (fun t k => XS.iloadN X17.here hx rfl (hb hby d4_110) (ldAt hL13 rfl) k) ?_
  refine Gl.st (B := (T17.setTop (mkF m 112 L13 [(.int p2), (.int (0 : Int32)), (.ref b10)]))) (fun t k => XS.iloadN X17.here hx rfl (hb hby d4_111) (ldAt hL13 rfl) k) ?_
  refine Gl.st (B := (T17.setTop (mkF m 113 L13 [(.int (p2.toInt8.toInt32)), (.int (0 : Int32)), (.ref b10)]))) (fun t k => XS.i2b X17.here hx rfl (hb hby d4_112) rfl k) ?_
  obtain ⟨x113_20, hx113_20⟩ : ∃ z : Int32, z = (p2.toInt8.toInt32) := ⟨_, rfl⟩
  refine Gl.cast (B := (T17.setTop (mkF m 113 L13 [(.int x113_20), (.int (0 : Int32)), (.ref b10)]))) (by rw [hx113_20]) ?_
  have ne_w_pieces_a1_b10_21 : w_pieces_a1 ≠ b10 := Nat.ne_of_lt (Nat.lt_of_lt_of_le V_w_pieces_a1.lt (Nat.le_of_eq gq10.symm))
  have c22 := (V10.other W17 (Ne.symm ne_w_pieces_a1_b10_21))
  have Vp23 : Arv Z h17 b10 k10 .byte (64 : Int32) [(.int (0 : Int32))] (.int (0 : Int32)) := (c22).pad (pad_rep [] (.int (0 : Int32)) 1)
  obtain ⟨cl24, Ar24, q24, S24, P24, H24, G24⟩ := (id Vp23)
  have hin113_24 : ¬ ((0 : Int32) < 0 ∨ cl24.slots.size ≤ ((0 : Int32)).toNatClampNeg) := inb_of S24 ⟨by decide, by decide⟩
  obtain ⟨T24, h24, X24, e24, W24, st24⟩ := stB X17 hx hZ e17 Ar24 (j := (0 : Int32)) hin113_24 (g := (mkF m 113 L13 [(.int x113_20), (.int (0 : Int32)), (.ref b10)])) rfl rfl (hb hby d4_113)
  have V24 : Arv Z h24 b10 k10 .byte (64 : Int32) [(.int (nar .byte x113_20))] (.int (0 : Int32)) := Arv.set Ar24 q24 S24 P24 H24 G24 (fits_nar_byte _) W24 0 rfl (Nat.le_of_ble_eq_true rfl)
  have Zc25 : n0 ≤ h24.size := Nat.le_trans Zc18 (Nat.le_of_eq W24.size.symm)
  have K26 : Keep h0 h24 [w_pieces_a1, a1] := K19.wr W24 (Or.inr sz_b10)
  have N24 := Fr.snoc X24 N17 g_b10
  refine Gl.st (B := (T24.setTop (mkF m 114 L13 []))) st24 ?_
  refine Gl.st (B := (T24.setTop (mkF m 115 L13 [(.ref a1)]))) (fun t k => XS.aloadN X24.here hx rfl (hb hby d4_114) (ldAt hL13 rfl) rfl k) ?_
  refine Gl.st (B := (T24.setTop (mkF m 116 L13 [(.ref a1), (.ref a1)]))) (fun t k => XS.dup X24.here hx rfl (hb hby d4_115) rfl rfl k) ?_
  have ne_a1_b10_27 : a1 ≠ b10 := Nat.ne_of_lt (Nat.lt_of_lt_of_le F_pieces_a1.lt (Nat.le_of_eq gq10.symm))
  have c28 := (((F_length_a1.ext E10).other W17 (Or.inl ne_a1_w_pieces_a1)).other W24 (Or.inl ne_a1_b10_27))
  obtain ⟨T29, X29, e29, st29⟩ := getF X24 hx hZ hown (host := "") (Or.inl (tw hw 23 rfl)) Via.refl e24 c28 (g := (mkF m 116 L13 [(.ref a1), (.ref a1)])) rfl rfl (hb hby d4_116)
  refine Gl.st (B := (T29.setTop (mkF m 119 L13 [(.int (0 : Int32)), (.ref a1)]))) st29 ?_
  refine Gl.st (B := (T29.setTop (mkF m 120 L13 [(.int (1 : Int32)), (.int (0 : Int32)), (.ref a1)]))) (fun t k => XS.iconst X29.here hx rfl (hb hby d4_119) k) ?_
  refine Gl.st (B := (T29.setTop (mkF m 121 L13 [(.int (1 : Int32)), (.ref a1)]))) (fun t k => XS.iadd X29.here hx rfl (hb hby d4_120) rfl k) ?_
  have c30 := (((E_a1.ext E10).wr W17).wr W24)
  obtain ⟨T31, h31, X31, e31, W31, st31⟩ := putF X29 hx hZ hown (host := "") (Or.inl (tw hw 23 rfl)) Via.refl e29 c28 c30 (Or.inl (tw hw 24 rfl)) (tw hw 2 rfl) (ty := .int) (by decide) rfl rfl (g := (mkF m 121 L13 [(.int (1 : Int32)), (.ref a1)])) rfl rfl (hb hby d4_121)
  have Fw31 := c28.same W31
  have Zc32 : n0 ≤ h31.size := Nat.le_trans Zc25 (Nat.le_of_eq W31.size.symm)
  have K33 : Keep h0 h31 [w_pieces_a1, a1] := K26.wr W31 (Or.inl (List.mem_of_getElem? (i := 1) rfl))
  have N31 := Fr.snoc X31 N24 g_a1
  refine Gl.st (B := (T31.setTop (mkF m 124 L13 []))) st31 ?_
  obtain ⟨fs, hr, hrun, hended, hW, hsame⟩ := X31.leave (v := none) (fun _ => rfl)
  refine Gl.fin (X31.returnOut hx Bd.returns (hb hby d4_124) hr) hrun hended ⟨_, _, rfl, ?_, ⟨_, rfl⟩, hW, hsame.mono (by decide) (by decide)⟩
  show Q4f Z a1 p2 kx_w_pieces_a1 w_pieces_a1 h0 n0 _ T31.heap _
  rw [e31]
  have c34 := ((V17.other W24 ne_w_pieces_a1_b10_21).other W31 (Ne.symm ne_a1_w_pieces_a1))
  have c35 := (c30.wr W31)
  have c36 := (((c14.other W17 (Or.inl ne_a1_w_pieces_a1)).other W24 (Or.inl ne_a1_b10_27)).other W31 (Or.inr (sn1 hw)))
  have c37 := (((Ex10.wr W17).wr W24).wr W31)
  have c38 := (V24.other W31 (Ne.symm ne_a1_b10_27))
  exact ⟨b10, k10, rfl, N31, K33, sz_b10, c34, O_w_pieces_a1, c35, Fw31, c36, c37, (by subst hx113_20; exact c38)⟩
theorem d4_81 : decode prog_23_method_6_code 81 = .ok (.iload_n 3, 1) := by decide +kernel
theorem d4_82 : decode prog_23_method_6_code 82 = .ok (.aload 4, 2) := by decide +kernel
theorem d4_84 : decode prog_23_method_6_code 84 = .ok (.arraylength, 1) := by decide +kernel
theorem d4_85 : decode prog_23_method_6_code 85 = .ok (.if_icmp .ne 23, 3) := by decide +kernel
theorem ef_4n (m : MethodId) (a1 : Addr) (p2 : Int32) : entryFrame m #[(.ref a1), (.int p2)] 5 = mkF m 0 #[.val (.ref a1), .val (.int p2), .unset, .unset, .unset] [] := by first | (simp [entryFrame, mkF, argsToLocals, Value.category]; done) | rfl
def Q4n (Z : State) (a1 : Addr) (p2 : Int32) (kx_w_pieces_a1 : ClassId) (bk : Addr) (kx_bk : ClassId) (vs : List Value) (w_pieces_a1 : Addr) (w_length_a1 : Int32) (h0 : Heap) (n0 : Nat) (v : Option Value) (h : Heap) (L : List Loc) : Prop := v = none ∧ Fr n0 L ∧ Keep h0 h [bk, a1] ∧ Arv Z h bk kx_bk .byte (64 : Int32) (vs ++ [(.int (nar .byte ((p2.toInt8.toInt32))))]) (.int (0 : Int32)) ∧ Exa Z h a1 "com/example/outcomery/outcomery/PackedNumbers" ∧ Fld Z h a1 "com/example/outcomery/outcomery/PackedNumbers" "length" "I" (.int ((w_length_a1 + (1 : Int32)))) ∧ Fld Z h a1 "com/example/outcomery/outcomery/PackedNumbers" "pieces" "[[B" (.ref w_pieces_a1)
set_option maxRecDepth 65536 in
set_option maxHeartbeats 40000000 in
theorem rm4n (l : Launch) (Z : State) (a0 : Array Value) (hw : ∀ d ∈ tables_1, d.before a0 Z = true) (ws : List Jvm.Cond) (a1 : Addr) (p2 : Int32) (kx_w_pieces_a1 : ClassId) (bk : Addr) (kx_bk : ClassId) (vs : List Value) (w_pieces_a1 : Addr) (w_length_a1 : Int32) (h0 : Heap) (n0 : Nat) (Z0 : n0 ≤ h0.size) (V_w_pieces_a1 : Arv Z h0 w_pieces_a1 kx_w_pieces_a1 (.array .byte) (1 : Int32) [(.ref bk)] .null) (O_w_pieces_a1 : OvrA Z kx_w_pieces_a1 .byte "[B") (V_bk : Arv Z h0 bk kx_bk .byte (64 : Int32) vs (.int (0 : Int32))) (F_pieces_a1 : Fld Z h0 a1 "com/example/outcomery/outcomery/PackedNumbers" "pieces" "[[B" (.ref w_pieces_a1)) (F_length_a1 : Fld Z h0 a1 "com/example/outcomery/outcomery/PackedNumbers" "length" "I" (.int w_length_a1)) (hw0 : ¬ w_length_a1 < 0) (hw1 : w_length_a1 < 63) (hvl : vs.length = w_length_a1.toNatClampNeg) (g_bk : n0 ≤ bk) (ne_a1_bk : a1 ≠ bk) (E_a1 : Exa Z h0 a1 "com/example/outcomery/outcomery/PackedNumbers") (g_a1 : n0 ≤ a1) :
    MetFree l (⟨"com/example/outcomery/outcomery/PackedNumbers", "put", "(I)V"⟩ : MethodName) (head1 (Jvm.Cond.code (⟨"com/example/outcomery/outcomery/PackedNumbers", "put", "(I)V"⟩ : MethodName) prog_23_method_6_code 5 none :: ws) ({ frames := 0, cells := 0, slots := 0, locals := 0 } : Room)) (fun a U => a = #[(.ref a1), (.int p2)] ∧ Z.Warmed39 U.vm ∧ U.heap = h0) (fun _ _ _ _ _ => True) (fun _ U o U' => ∃ v L, o = .returned v ∧ Q4n Z a1 p2 kx_w_pieces_a1 bk kx_bk vs w_pieces_a1 w_length_a1 h0 n0 v U'.heap L ∧ FrameEnd U o U' L ({ frames := 0, cells := 0, slots := 0, locals := 0 } : Room).cells ({ frames := 0, cells := 0, slots := 0, locals := 0 } : Room).slots) := by
  refine MetFree.of_bodySF (plainFor_of_name pn_4) hisR ?_
  intro p e s m args below meth c s₁ Bd hml0 hP hK
  obtain ⟨rfl, hZ, hh⟩ := hP
  have hx := Bd.exec
  have hby := Bd.bytes
  have hml : c.maxLocals = 5 := hml0
  have hown : s.vm.findClass "com/example/outcomery/outcomery/PackedNumbers" = some m.cls := findClass_of_methodNamed Bd.named
  have hnm := (name_of_methodNamed Bd.named Bd.method).1
  have X0 : Stand p l e ({ frames := 0, cells := 0, slots := 0, locals := 0 } : Room) s m #[(.ref a1), (.int p2)] below meth c s₁ [] 0 0 := Stand.of_body Bd
  have e0 : s₁.heap = h0 := by rw [← hh, Bd.state]; rfl
  have N0 := Fr.nil n0
  have K0 : Keep h0 h0 [bk, a1] := Keep.refl h0 _
  refine (show Gl p e below (fun o U' => ∃ v L, o = .returned v ∧ Q4n Z a1 p2 kx_w_pieces_a1 bk kx_bk vs w_pieces_a1 w_length_a1 h0 n0 v U'.heap L ∧ FrameEnd s o U' L ({ frames := 0, cells := 0, slots := 0, locals := 0 } : Room).cells ({ frames := 0, cells := 0, slots := 0, locals := 0 } : Room).slots) (s₁.setTop (entryFrame m #[(.ref a1), (.int p2)] 5)) from ?_)
  obtain ⟨L0, hL0⟩ : ∃ z : Array Slot, z = #[.val (.ref a1), .val (.int p2), .unset, .unset, .unset] := ⟨_, rfl⟩
  refine Gl.st (B := (s₁.setTop (mkF m 0 L0 []))) (fun t k => castTop (efAt hL0 (ef_4n m a1 p2)) k) ?_
  refine Gl.st (B := (s₁.setTop (mkF m 1 L0 [(.ref a1)]))) (fun t k => XS.aloadN X0.here hx rfl (hb hby d4_0) (ldAt hL0 rfl) rfl k) ?_
  obtain ⟨T1, X1, e1, st1⟩ := getF X0 hx hZ hown (host := "") (Or.inl (tw hw 23 rfl)) Via.refl e0 F_length_a1 (g := (mkF m 1 L0 [(.ref a1)])) rfl rfl (hb hby d4_1)
  refine Gl.st (B := (T1.setTop (mkF m 4 L0 [(.int w_length_a1)]))) st1 ?_
  refine Gl.st (B := (T1.setTop (mkF m 6 L0 [(.int (16 : Int32)), (.int w_length_a1)]))) (fun t k => XS.bipush X1.here hx rfl (hb hby d4_4) k) ?_
  refine Gl.st (B := (T1.setTop (mkF m 7 L0 [(.int ((w_length_a1.toUInt32 >>> ((16 : Int32) &&& 31).toUInt32).toInt32))]))) (fun t k => XS.iushr X1.here hx rfl (hb hby d4_6) rfl k) ?_
  obtain ⟨y2_7_2, hy2_7_2⟩ : ∃ z : Int32, z = ((w_length_a1.toUInt32 >>> ((16 : Int32) &&& 31).toUInt32).toInt32) := ⟨_, rfl⟩
  refine Gl.cast (B := (T1.setTop (mkF m 7 L0 [(.int y2_7_2)]))) (by rw [hy2_7_2]) ?_
  obtain ⟨L3, hL3⟩ : ∃ z : Array Slot, z = #[.val (.ref a1), .val (.int p2), .val (.int y2_7_2), .unset, .unset] := ⟨_, rfl⟩
  refine Gl.st (B := (T1.setTop (mkF m 8 L3 []))) (fun t k => XS.istoreN X1.here hx rfl (hb hby d4_7) rfl (l' := L3) (stAt hL0 hL3 rfl rfl) k) ?_
  refine Gl.st (B := (T1.setTop (mkF m 9 L3 [(.ref a1)]))) (fun t k => XS.aloadN X1.here hx rfl (hb hby d4_8) (ldAt hL3 rfl) rfl k) ?_
  obtain ⟨T4, X4, e4, st4⟩ := getF X1 hx hZ hown (host := "") (Or.inl (tw hw 23 rfl)) Via.refl e1 F_length_a1 (g := (mkF m 9 L3 [(.ref a1)])) rfl rfl (hb hby d4_9)
  refine Gl.st (B := (T4.setTop (mkF m 12 L3 [(.int w_length_a1)]))) st4 ?_
  refine Gl.st (B := (T4.setTop (mkF m 14 L3 [(.int (65535 : Int32)), (.int w_length_a1)]))) (fun t k => X4.ldcInt hx hown (mvT hZ (tw hw 25 rfl)) (g := (mkF m 12 L3 [(.int w_length_a1)])) rfl (hb hby d4_12) _ k) ?_
  refine Gl.st (B := (T4.setTop (mkF m 15 L3 [(.int (w_length_a1 &&& (65535 : Int32)))]))) (fun t k => XS.iand X4.here hx rfl (hb hby d4_14) rfl k) ?_
  obtain ⟨y3_15_5, hy3_15_5⟩ : ∃ z : Int32, z = (w_length_a1 &&& (65535 : Int32)) := ⟨_, rfl⟩
  refine Gl.cast (B := (T4.setTop (mkF m 15 L3 [(.int y3_15_5)]))) (by rw [hy3_15_5]) ?_
  obtain ⟨L6, hL6⟩ : ∃ z : Array Slot, z = #[.val (.ref a1), .val (.int p2), .val (.int y2_7_2), .val (.int y3_15_5), .unset] := ⟨_, rfl⟩
  refine Gl.st (B := (T4.setTop (mkF m 16 L6 []))) (fun t k => XS.istoreN X4.here hx rfl (hb hby d4_15) rfl (l' := L6) (stAt hL3 hL6 rfl rfl) k) ?_
  have hn7 : y2_7_2 = (0 : Int32) := by
    exact own_hi0 w_length_a1 _ hw0 (own_lt _ hw1 (by decide)) hy2_7_2
  subst hn7
  have hn8 : w_length_a1 = y3_15_5 := by
    exact own_lo0 w_length_a1 _ hw0 (own_lt _ hw1 (by decide)) hy3_15_5
  subst hn8
  refine Gl.st (B := (T4.setTop (mkF m 17 L6 [(.int (0 : Int32))]))) (fun t k => XS.iloadN X4.here hx rfl (hb hby d4_16) (ldAt hL6 rfl) k) ?_
  refine Gl.st (B := (T4.setTop (mkF m 18 L6 [(.ref a1), (.int (0 : Int32))]))) (fun t k => XS.aloadN X4.here hx rfl (hb hby d4_17) (ldAt hL6 rfl) rfl k) ?_
  obtain ⟨T9, X9, e9, st9⟩ := getF X4 hx hZ hown (host := "") (Or.inl (tw hw 12 rfl)) Via.refl e4 F_pieces_a1 (g := (mkF m 18 L6 [(.ref a1), (.int (0 : Int32))])) rfl rfl (hb hby d4_18)
  refine Gl.st (B := (T9.setTop (mkF m 21 L6 [(.ref w_pieces_a1), (.int (0 : Int32))]))) st9 ?_
  obtain ⟨cl10, Ar10, q10, S10, P10, H10, G10⟩ := (id V_w_pieces_a1)
  refine Gl.st (B := (T9.setTop (mkF m 22 L6 [(.int cl10.slots.size.toInt32), (.int (0 : Int32))]))) (fun t k => X9.arraylength hx (by rw [e9]; exact Ar10.1) (State.isArrayOf_alike hZ.alike Ar10.2.1) (g := (mkF m 21 L6 [(.ref w_pieces_a1), (.int (0 : Int32))])) rfl rfl (hb hby d4_21) _ k) ?_
  refine Gl.cast (B := (T9.setTop (mkF m 22 L6 [(.int (1 : Int32)), (.int (0 : Int32))]))) (by rw [len_of S10 P10]) ?_
  refine Gl.st (B := (T9.setTop (mkF m 42 L6 []))) (fun t k => XS.icmpYes X9.here hx rfl (pc0 := 22) (pc' := 42) rfl (hb hby d4_22) rfl (by decide) (by decide) (by decide) k) ?_
  refine Gl.st (B := (T9.setTop (mkF m 43 L6 [(.ref a1)]))) (fun t k => XS.aloadN X9.here hx rfl (hb hby d4_42) (ldAt hL6 rfl) rfl k) ?_
  obtain ⟨T11, X11, e11, st11⟩ := getF X9 hx hZ hown (host := "") (Or.inl (tw hw 12 rfl)) Via.refl e9 F_pieces_a1 (g := (mkF m 43 L6 [(.ref a1)])) rfl rfl (hb hby d4_43)
  refine Gl.st (B := (T11.setTop (mkF m 46 L6 [(.ref w_pieces_a1)]))) st11 ?_
  refine Gl.st (B := (T11.setTop (mkF m 47 L6 [(.int (0 : Int32)), (.ref w_pieces_a1)]))) (fun t k => XS.iloadN X11.here hx rfl (hb hby d4_46) (ldAt hL6 rfl) k) ?_
  obtain ⟨cl12, Ar12, q12, S12, P12, H12, G12⟩ := (id V_w_pieces_a1)
  have hin47_12 : ¬ ((0 : Int32) < 0 ∨ cl12.slots.size ≤ ((0 : Int32)).toNatClampNeg) := inb_of S12 ⟨by decide, by decide⟩
  have hat12 := Has.at H12 hin47_12 (v := (.ref bk)) rfl
  refine Gl.st (B := (T11.setTop (mkF m 48 L6 [(.ref bk)]))) (fun t k => X11.aaload hx (j := (0 : Int32)) (v := (.ref bk)) (by rw [e11]; exact Ar12.1) (State.isArrayOf_alike hZ.alike Ar12.2.1) rfl Ar12.2.2 hin47_12 hat12 (g := (mkF m 47 L6 [(.int (0 : Int32)), (.ref w_pieces_a1)])) rfl rfl (hb hby d4_47) _ k) ?_
  obtain ⟨L13, hL13⟩ : ∃ z : Array Slot, z = #[.val (.ref a1), .val (.int p2), .val (.int (0 : Int32)), .val (.int w_length_a1), .val (.ref bk)] := ⟨_, rfl⟩
  refine Gl.st (B := (T11.setTop (mkF m 50 L13 []))) (fun t k => XS.astore X11.here hx rfl (hb hby d4_48) rfl rfl (l' := L13) (stAt hL6 hL13 rfl rfl) k) ?_
  refine Gl.st (B := (T11.setTop (mkF m 52 L13 [(.ref bk)]))) (fun t k => XS.aload X11.here hx rfl (hb hby d4_50) (ldAt hL13 rfl) rfl k) ?_
  refine Gl.st (B := (T11.setTop (mkF m 81 L13 []))) (fun t k => XS.ifnonnullYes X11.here hx rfl (pc0 := 52) (pc' := 81) rfl (hb hby d4_52) rfl (by decide) (by decide) k) ?_
  refine Gl.st (B := (T11.setTop (mkF m 82 L13 [(.int w_length_a1)]))) (fun t k => XS.iloadN X11.here hx rfl (hb hby d4_81) (ldAt hL13 rfl) k) ?_
  refine Gl.st (B := (T11.setTop (mkF m 84 L13 [(.ref bk), (.int w_length_a1)]))) (fun t k => XS.aload X11.here hx rfl (hb hby d4_82) (ldAt hL13 rfl) rfl k) ?_
  obtain ⟨cl14, Ar14, q14, S14, P14, H14, G14⟩ := (id V_bk)
  refine Gl.st (B := (T11.setTop (mkF m 85 L13 [(.int cl14.slots.size.toInt32), (.int w_length_a1)]))) (fun t k => X11.arraylength hx (by rw [e11]; exact Ar14.1) (State.isArrayOf_alike hZ.alike Ar14.2.1) (g := (mkF m 84 L13 [(.ref bk), (.int w_length_a1)])) rfl rfl (hb hby d4_84) _ k) ?_
  refine Gl.cast (B := (T11.setTop (mkF m 85 L13 [(.int (64 : Int32)), (.int w_length_a1)]))) (by rw [len_of S14 P14]) ?_
  have hc85_15 : ¬ (w_length_a1 = (64 : Int32)) := by
    intro q
    rw [q] at hw1
    exact absurd hw1 (by decide)
  refine Gl.st (B := (T11.setTop (mkF m 108 L13 []))) (fun t k => XS.icmpYes X11.here hx rfl (pc0 := 85) (pc' := 108) rfl (hb hby d4_85) rfl (feq hc85_15).2 (by decide) (by decide) k) ?_
  refine Gl.st (B := (T11.setTop (mkF m 110 L13 [(.ref bk)]))) (fun t k => XS.aload X11.here hx rfl (hb hby d4_108) (ldAt hL13 rfl) rfl k) ?_
  refine Gl.st (B := (T11.setTop (mkF m 111 L13 [(.int w_length_a1), (.ref bk)]))) (fun t k => XS.iloadN X11.here hx rfl (hb hby d4_110) (ldAt hL13 rfl) k) ?_
  refine Gl.st (B := (T11.setTop (mkF m 112 L13 [(.int p2), (.int w_length_a1), (.ref bk)]))) (fun t k => XS.iloadN X11.here hx rfl (hb hby d4_111) (ldAt hL13 rfl) k) ?_
  refine Gl.st (B := (T11.setTop (mkF m 113 L13 [(.int (p2.toInt8.toInt32)), (.int w_length_a1), (.ref bk)]))) (fun t k => XS.i2b X11.here hx rfl (hb hby d4_112) rfl k) ?_
  obtain ⟨x113_16, hx113_16⟩ : ∃ z : Int32, z = (p2.toInt8.toInt32) := ⟨_, rfl⟩
  refine Gl.cast (B := (T11.setTop (mkF m 113 L13 [(.int x113_16), (.int w_length_a1), (.ref bk)]))) (by rw [hx113_16]) ?_
  obtain ⟨cl17, Ar17, q17, S17, P17, H17, G17⟩ := (id V_bk)
  have hin113_17 : ¬ (w_length_a1 < 0 ∨ cl17.slots.size ≤ (w_length_a1).toNatClampNeg) := inb_of S17 ⟨hw0, own_lt _ hw1 (by decide)⟩
  obtain ⟨T17, h17, X17, e17, W17, st17⟩ := stB X11 hx hZ e11 Ar17 (j := w_length_a1) hin113_17 (g := (mkF m 113 L13 [(.int x113_16), (.int w_length_a1), (.ref bk)])) rfl rfl (hb hby d4_113)
  have V17 : Arv Z h17 bk kx_bk .byte (64 : Int32) (vs ++ [(.int (nar .byte x113_16))]) (.int (0 : Int32)) := own_push Ar17 q17 S17 P17 H17 G17 (fits_nar_byte _) W17 hvl.symm
  have Zc18 : n0 ≤ h17.size := Nat.le_trans Z0 (Nat.le_of_eq W17.size.symm)
  have K19 : Keep h0 h17 [bk, a1] := K0.wr W17 (Or.inl (List.mem_of_getElem? (i := 0) rfl))
  have N17 := Fr.snoc X17 N0 g_bk
  refine Gl.st (B := (T17.setTop (mkF m 114 L13 []))) st17 ?_
  refine Gl.st (B := (T17.setTop (mkF m 115 L13 [(.ref a1)]))) (fun t k => XS.aloadN X17.here hx rfl (hb hby d4_114) (ldAt hL13 rfl) rfl k) ?_
  refine Gl.st (B := (T17.setTop (mkF m 116 L13 [(.ref a1), (.ref a1)]))) (fun t k => XS.dup X17.here hx rfl (hb hby d4_115) rfl rfl k) ?_
  have c20 := (F_length_a1.other W17 (Or.inl ne_a1_bk))
  obtain ⟨T21, X21, e21, st21⟩ := getF X17 hx hZ hown (host := "") (Or.inl (tw hw 23 rfl)) Via.refl e17 c20 (g := (mkF m 116 L13 [(.ref a1), (.ref a1)])) rfl rfl (hb hby d4_116)
  refine Gl.st (B := (T21.setTop (mkF m 119 L13 [(.int w_length_a1), (.ref a1)]))) st21 ?_
  refine Gl.st (B := (T21.setTop (mkF m 120 L13 [(.int (1 : Int32)), (.int w_length_a1), (.ref a1)]))) (fun t k => XS.iconst X21.here hx rfl (hb hby d4_119) k) ?_
  refine Gl.st (B := (T21.setTop (mkF m 121 L13 [(.int (w_length_a1 + (1 : Int32))), (.ref a1)]))) (fun t k => XS.iadd X21.here hx rfl (hb hby d4_120) rfl k) ?_
  obtain ⟨x121_22, hx121_22⟩ : ∃ z : Int32, z = (w_length_a1 + (1 : Int32)) := ⟨_, rfl⟩
  refine Gl.cast (B := (T21.setTop (mkF m 121 L13 [(.int x121_22), (.ref a1)]))) (by rw [hx121_22]) ?_
  have c23 := (E_a1.wr W17)
  obtain ⟨T24, h24, X24, e24, W24, st24⟩ := putF X21 hx hZ hown (host := "") (Or.inl (tw hw 23 rfl)) Via.refl e21 c20 c23 (Or.inl (tw hw 24 rfl)) (tw hw 2 rfl) (ty := .int) (by decide) rfl rfl (g := (mkF m 121 L13 [(.int x121_22), (.ref a1)])) rfl rfl (hb hby d4_121)
  have Fw24 := c20.same W24
  have Zc25 : n0 ≤ h24.size := Nat.le_trans Zc18 (Nat.le_of_eq W24.size.symm)
  have K26 : Keep h0 h24 [bk, a1] := K19.wr W24 (Or.inl (List.mem_of_getElem? (i := 1) rfl))
  have N24 := Fr.snoc X24 N17 g_a1
  refine Gl.st (B := (T24.setTop (mkF m 124 L13 []))) st24 ?_
  obtain ⟨fs, hr, hrun, hended, hW, hsame⟩ := X24.leave (v := none) (fun _ => rfl)
  refine Gl.fin (X24.returnOut hx Bd.returns (hb hby d4_124) hr) hrun hended ⟨_, _, rfl, ?_, ⟨_, rfl⟩, hW, hsame.mono (by decide) (by decide)⟩
  show Q4n Z a1 p2 kx_w_pieces_a1 bk kx_bk vs w_pieces_a1 w_length_a1 h0 n0 _ T24.heap _
  rw [e24]
  have c27 := (V17.other W24 (Ne.symm ne_a1_bk))
  have c28 := (c23.wr W24)
  have c29 := ((F_pieces_a1.other W17 (Or.inl ne_a1_bk)).other W24 (Or.inr (sn1 hw)))
  exact ⟨rfl, N24, K26, (by subst hx113_16; exact c27), c28, (by subst hx121_22; exact Fw24), c29⟩
theorem d3_0 : decode prog_23_method_2_code 0 = .ok (.iload_n 1, 1) := by decide +kernel
theorem d3_1 : decode prog_23_method_2_code 1 = .ok (.istore_n 2, 1) := by decide +kernel
theorem d3_2 : decode prog_23_method_2_code 2 = .ok (.iload_n 2, 1) := by decide +kernel
theorem d3_3 : decode prog_23_method_2_code 3 = .ok (.sipush 128, 3) := by decide +kernel
theorem d3_6 : decode prog_23_method_2_code 6 = .ok (.if_icmp .lt 23, 3) := by decide +kernel
theorem d3_9 : decode prog_23_method_2_code 9 = .ok (.aload_n 0, 1) := by decide +kernel
theorem d3_10 : decode prog_23_method_2_code 10 = .ok (.iload_n 2, 1) := by decide +kernel
theorem d3_11 : decode prog_23_method_2_code 11 = .ok (.bipush 127, 2) := by decide +kernel
theorem d3_13 : decode prog_23_method_2_code 13 = .ok (.iand, 1) := by decide +kernel
theorem d3_14 : decode prog_23_method_2_code 14 = .ok (.sipush 128, 3) := by decide +kernel
theorem d3_17 : decode prog_23_method_2_code 17 = .ok (.ior, 1) := by decide +kernel
theorem d3_18 : decode prog_23_method_2_code 18 = .ok (.invokevirtual 15, 3) := by decide +kernel
theorem d3_21 : decode prog_23_method_2_code 21 = .ok (.iload_n 2, 1) := by decide +kernel
theorem d3_22 : decode prog_23_method_2_code 22 = .ok (.bipush 7, 2) := by decide +kernel
theorem d3_24 : decode prog_23_method_2_code 24 = .ok (.iushr, 1) := by decide +kernel
theorem d3_25 : decode prog_23_method_2_code 25 = .ok (.istore_n 2, 1) := by decide +kernel
theorem d3_26 : decode prog_23_method_2_code 26 = .ok (.goto (-24), 3) := by decide +kernel
theorem d3_29 : decode prog_23_method_2_code 29 = .ok (.aload_n 0, 1) := by decide +kernel
theorem d3_30 : decode prog_23_method_2_code 30 = .ok (.iload_n 2, 1) := by decide +kernel
theorem d3_31 : decode prog_23_method_2_code 31 = .ok (.invokevirtual 15, 3) := by decide +kernel
theorem d3_34 : decode prog_23_method_2_code 34 = .ok (.return_, 1) := by decide +kernel
theorem pn_3 : plainName "com/example/outcomery/outcomery/PackedNumbers" = true := by first | (simp [plainName, overriddenIn]; done) | decide +kernel
theorem pd_3n_0 : parseMethodDescriptor "(I)V" = some ⟨[.int], none⟩ := by decide +kernel
theorem ef_3n (m : MethodId) (a1 : Addr) (p2 : Int32) : entryFrame m #[(.ref a1), (.int p2)] 3 = mkF m 0 #[.val (.ref a1), .val (.int p2), .unset] [] := by first | (simp [entryFrame, mkF, argsToLocals, Value.category]; done) | rfl
theorem own_3n_hp31_4 (w_length_a1 : Int32) (vs : List Value)  (hw0 : ¬ w_length_a1 < 0) (hw1 : w_length_a1 < 58) (hvl : vs.length = w_length_a1.toNatClampNeg) : ¬ w_length_a1 < 0 := by
  have nb : ¬ w_length_a1 < 0 := hw0
  have tb : w_length_a1.toInt ≤ 58 := by
    have q := Int32.lt_iff_toInt_lt.mp hw1
    simp only [Int32.reduceToInt] at q
    omega
  have t0b : 0 ≤ w_length_a1.toInt := by
    have q := nb
    rw [Int32.lt_iff_toInt_lt] at q
    simp only [Int32.reduceToInt] at q
    omega
  exact nb
theorem own_3n_hp31_5 (w_length_a1 : Int32) (vs : List Value)  (hw0 : ¬ w_length_a1 < 0) (hw1 : w_length_a1 < 58) (hvl : vs.length = w_length_a1.toNatClampNeg) : w_length_a1 < 63 := by
  have nb : ¬ w_length_a1 < 0 := hw0
  have tb : w_length_a1.toInt ≤ 58 := by
    have q := Int32.lt_iff_toInt_lt.mp hw1
    simp only [Int32.reduceToInt] at q
    omega
  have t0b : 0 ≤ w_length_a1.toInt := by
    have q := nb
    rw [Int32.lt_iff_toInt_lt] at q
    simp only [Int32.reduceToInt] at q
    omega
  rw [Int32.lt_iff_toInt_lt]
  simp only [Int32.reduceToInt]
  omega
theorem own_3n_hp18_13 (w_length_a1 : Int32) (vs : List Value)  (hw0 : ¬ w_length_a1 < 0) (hw1 : w_length_a1 < 58) (hvl : vs.length = w_length_a1.toNatClampNeg) : ¬ w_length_a1 < 0 := by
  have nb : ¬ w_length_a1 < 0 := hw0
  have tb : w_length_a1.toInt ≤ 58 := by
    have q := Int32.lt_iff_toInt_lt.mp hw1
    simp only [Int32.reduceToInt] at q
    omega
  have t0b : 0 ≤ w_length_a1.toInt := by
    have q := nb
    rw [Int32.lt_iff_toInt_lt] at q
    simp only [Int32.reduceToInt] at q
    omega
  exact nb
theorem own_3n_hp18_14 (w_length_a1 : Int32) (vs : List Value)  (hw0 : ¬ w_length_a1 < 0) (hw1 : w_length_a1 < 58) (hvl : vs.length = w_length_a1.toNatClampNeg) : w_length_a1 < 63 := by
  have nb : ¬ w_length_a1 < 0 := hw0
  have tb : w_length_a1.toInt ≤ 58 := by
    have q := Int32.lt_iff_toInt_lt.mp hw1
    simp only [Int32.reduceToInt] at q
    omega
  have t0b : 0 ≤ w_length_a1.toInt := by
    have q := nb
    rw [Int32.lt_iff_toInt_lt] at q
    simp only [Int32.reduceToInt] at q
    omega
  rw [Int32.lt_iff_toInt_lt]
  simp only [Int32.reduceToInt]
  omega
theorem own_3n_hp31_25 (w_length_a1 : Int32) (f18_19 : Int32) (vs : List Value) (hf18_19 : f18_19 = ((w_length_a1 + (1 : Int32)))) (hw0 : ¬ w_length_a1 < 0) (hw1 : w_length_a1 < 58) (hvl : vs.length = w_length_a1.toNatClampNeg) : ¬ f18_19 < 0 := by
  have nb : ¬ w_length_a1 < 0 := hw0
  have tb : w_length_a1.toInt ≤ 58 := by
    have q := Int32.lt_iff_toInt_lt.mp hw1
    simp only [Int32.reduceToInt] at q
    omega
  have t0b : 0 ≤ w_length_a1.toInt := by
    have q := nb
    rw [Int32.lt_iff_toInt_lt] at q
    simp only [Int32.reduceToInt] at q
    omega
  have a0 := c_iadd w_length_a1 1
  rw [← hf18_19] at a0
  simp only [Int32.reduceToInt] at a0
  have r0 := rng32 f18_19
  have t0 : f18_19.toInt = w_length_a1.toInt + 1 := by omega
  have s0 : f18_19.toNatClampNeg = w_length_a1.toNatClampNeg + 1 := by rw [hf18_19]; exact own_suc w_length_a1 nb (by rw [Int32.lt_iff_toInt_lt]; simp only [Int32.reduceToInt]; omega)
  have n0 : ¬ f18_19 < 0 := by
    rw [Int32.lt_iff_toInt_lt]
    simp only [Int32.reduceToInt]
    omega
  exact n0
theorem own_3n_hp31_26 (w_length_a1 : Int32) (f18_19 : Int32) (vs : List Value) (hf18_19 : f18_19 = ((w_length_a1 + (1 : Int32)))) (hw0 : ¬ w_length_a1 < 0) (hw1 : w_length_a1 < 58) (hvl : vs.length = w_length_a1.toNatClampNeg) : f18_19 < 63 := by
  have nb : ¬ w_length_a1 < 0 := hw0
  have tb : w_length_a1.toInt ≤ 58 := by
    have q := Int32.lt_iff_toInt_lt.mp hw1
    simp only [Int32.reduceToInt] at q
    omega
  have t0b : 0 ≤ w_length_a1.toInt := by
    have q := nb
    rw [Int32.lt_iff_toInt_lt] at q
    simp only [Int32.reduceToInt] at q
    omega
  have a0 := c_iadd w_length_a1 1
  rw [← hf18_19] at a0
  simp only [Int32.reduceToInt] at a0
  have r0 := rng32 f18_19
  have t0 : f18_19.toInt = w_length_a1.toInt + 1 := by omega
  have s0 : f18_19.toNatClampNeg = w_length_a1.toNatClampNeg + 1 := by rw [hf18_19]; exact own_suc w_length_a1 nb (by rw [Int32.lt_iff_toInt_lt]; simp only [Int32.reduceToInt]; omega)
  have n0 : ¬ f18_19 < 0 := by
    rw [Int32.lt_iff_toInt_lt]
    simp only [Int32.reduceToInt]
    omega
  rw [Int32.lt_iff_toInt_lt]
  simp only [Int32.reduceToInt]
  omega
theorem own_3n_hp31_27 (vs : List Value) (p2 : Int32) (x18_11 : Int32) (vl18_18 : List Value) (w_length_a1 : Int32) (f18_19 : Int32) (hx18_11 : x18_11 = ((p2 &&& (127 : Int32)) ||| (128 : Int32))) (hvl18_18 : vl18_18 = (vs ++ [(.int (nar .byte ((x18_11.toInt8.toInt32))))])) (hf18_19 : f18_19 = ((w_length_a1 + (1 : Int32)))) (hc6_2 : ¬ (p2 < (128 : Int32))) (hp0 : ¬ p2 < 0) (hw0 : ¬ w_length_a1 < 0) (hw1 : w_length_a1 < 58) (hvl : vs.length = w_length_a1.toNatClampNeg) : vl18_18.length = f18_19.toNatClampNeg := by
  have nb : ¬ w_length_a1 < 0 := hw0
  have tb : w_length_a1.toInt ≤ 58 := by
    have q := Int32.lt_iff_toInt_lt.mp hw1
    simp only [Int32.reduceToInt] at q
    omega
  have t0b : 0 ≤ w_length_a1.toInt := by
    have q := nb
    rw [Int32.lt_iff_toInt_lt] at q
    simp only [Int32.reduceToInt] at q
    omega
  have a0 := c_iadd w_length_a1 1
  rw [← hf18_19] at a0
  simp only [Int32.reduceToInt] at a0
  have r0 := rng32 f18_19
  have t0 : f18_19.toInt = w_length_a1.toInt + 1 := by omega
  have s0 : f18_19.toNatClampNeg = w_length_a1.toNatClampNeg + 1 := by rw [hf18_19]; exact own_suc w_length_a1 nb (by rw [Int32.lt_iff_toInt_lt]; simp only [Int32.reduceToInt]; omega)
  have n0 : ¬ f18_19 < 0 := by
    rw [Int32.lt_iff_toInt_lt]
    simp only [Int32.reduceToInt]
    omega
  rw [hvl18_18]
  simp only [List.length_append, List.length_cons, List.length_nil]
  have e := hvl
  omega
theorem own_3n_hp18_35 (w_length_a1 : Int32) (f18_19 : Int32) (vs : List Value) (hf18_19 : f18_19 = ((w_length_a1 + (1 : Int32)))) (hw0 : ¬ w_length_a1 < 0) (hw1 : w_length_a1 < 58) (hvl : vs.length = w_length_a1.toNatClampNeg) : ¬ f18_19 < 0 := by
  have nb : ¬ w_length_a1 < 0 := hw0
  have tb : w_length_a1.toInt ≤ 58 := by
    have q := Int32.lt_iff_toInt_lt.mp hw1
    simp only [Int32.reduceToInt] at q
    omega
  have t0b : 0 ≤ w_length_a1.toInt := by
    have q := nb
    rw [Int32.lt_iff_toInt_lt] at q
    simp only [Int32.reduceToInt] at q
    omega
  have a0 := c_iadd w_length_a1 1
  rw [← hf18_19] at a0
  simp only [Int32.reduceToInt] at a0
  have r0 := rng32 f18_19
  have t0 : f18_19.toInt = w_length_a1.toInt + 1 := by omega
  have s0 : f18_19.toNatClampNeg = w_length_a1.toNatClampNeg + 1 := by rw [hf18_19]; exact own_suc w_length_a1 nb (by rw [Int32.lt_iff_toInt_lt]; simp only [Int32.reduceToInt]; omega)
  have n0 : ¬ f18_19 < 0 := by
    rw [Int32.lt_iff_toInt_lt]
    simp only [Int32.reduceToInt]
    omega
  exact n0
theorem own_3n_hp18_36 (w_length_a1 : Int32) (f18_19 : Int32) (vs : List Value) (hf18_19 : f18_19 = ((w_length_a1 + (1 : Int32)))) (hw0 : ¬ w_length_a1 < 0) (hw1 : w_length_a1 < 58) (hvl : vs.length = w_length_a1.toNatClampNeg) : f18_19 < 63 := by
  have nb : ¬ w_length_a1 < 0 := hw0
  have tb : w_length_a1.toInt ≤ 58 := by
    have q := Int32.lt_iff_toInt_lt.mp hw1
    simp only [Int32.reduceToInt] at q
    omega
  have t0b : 0 ≤ w_length_a1.toInt := by
    have q := nb
    rw [Int32.lt_iff_toInt_lt] at q
    simp only [Int32.reduceToInt] at q
    omega
  have a0 := c_iadd w_length_a1 1
  rw [← hf18_19] at a0
  simp only [Int32.reduceToInt] at a0
  have r0 := rng32 f18_19
  have t0 : f18_19.toInt = w_length_a1.toInt + 1 := by omega
  have s0 : f18_19.toNatClampNeg = w_length_a1.toNatClampNeg + 1 := by rw [hf18_19]; exact own_suc w_length_a1 nb (by rw [Int32.lt_iff_toInt_lt]; simp only [Int32.reduceToInt]; omega)
  have n0 : ¬ f18_19 < 0 := by
    rw [Int32.lt_iff_toInt_lt]
    simp only [Int32.reduceToInt]
    omega
  rw [Int32.lt_iff_toInt_lt]
  simp only [Int32.reduceToInt]
  omega
theorem own_3n_hp18_37 (vs : List Value) (p2 : Int32) (x18_11 : Int32) (vl18_18 : List Value) (w_length_a1 : Int32) (f18_19 : Int32) (hx18_11 : x18_11 = ((p2 &&& (127 : Int32)) ||| (128 : Int32))) (hvl18_18 : vl18_18 = (vs ++ [(.int (nar .byte ((x18_11.toInt8.toInt32))))])) (hf18_19 : f18_19 = ((w_length_a1 + (1 : Int32)))) (hc6_2 : ¬ (p2 < (128 : Int32))) (hp0 : ¬ p2 < 0) (hw0 : ¬ w_length_a1 < 0) (hw1 : w_length_a1 < 58) (hvl : vs.length = w_length_a1.toNatClampNeg) : vl18_18.length = f18_19.toNatClampNeg := by
  have nb : ¬ w_length_a1 < 0 := hw0
  have tb : w_length_a1.toInt ≤ 58 := by
    have q := Int32.lt_iff_toInt_lt.mp hw1
    simp only [Int32.reduceToInt] at q
    omega
  have t0b : 0 ≤ w_length_a1.toInt := by
    have q := nb
    rw [Int32.lt_iff_toInt_lt] at q
    simp only [Int32.reduceToInt] at q
    omega
  have a0 := c_iadd w_length_a1 1
  rw [← hf18_19] at a0
  simp only [Int32.reduceToInt] at a0
  have r0 := rng32 f18_19
  have t0 : f18_19.toInt = w_length_a1.toInt + 1 := by omega
  have s0 : f18_19.toNatClampNeg = w_length_a1.toNatClampNeg + 1 := by rw [hf18_19]; exact own_suc w_length_a1 nb (by rw [Int32.lt_iff_toInt_lt]; simp only [Int32.reduceToInt]; omega)
  have n0 : ¬ f18_19 < 0 := by
    rw [Int32.lt_iff_toInt_lt]
    simp only [Int32.reduceToInt]
    omega
  rw [hvl18_18]
  simp only [List.length_append, List.length_cons, List.length_nil]
  have e := hvl
  omega
theorem own_3n_hp31_47 (w_length_a1 : Int32) (f18_19 : Int32) (f18_41 : Int32) (vs : List Value) (hf18_19 : f18_19 = ((w_length_a1 + (1 : Int32)))) (hf18_41 : f18_41 = ((f18_19 + (1 : Int32)))) (hw0 : ¬ w_length_a1 < 0) (hw1 : w_length_a1 < 58) (hvl : vs.length = w_length_a1.toNatClampNeg) : ¬ f18_41 < 0 := by
  have nb : ¬ w_length_a1 < 0 := hw0
  have tb : w_length_a1.toInt ≤ 58 := by
    have q := Int32.lt_iff_toInt_lt.mp hw1
    simp only [Int32.reduceToInt] at q
    omega
  have t0b : 0 ≤ w_length_a1.toInt := by
    have q := nb
    rw [Int32.lt_iff_toInt_lt] at q
    simp only [Int32.reduceToInt] at q
    omega
  have a0 := c_iadd w_length_a1 1
  rw [← hf18_19] at a0
  simp only [Int32.reduceToInt] at a0
  have r0 := rng32 f18_19
  have t0 : f18_19.toInt = w_length_a1.toInt + 1 := by omega
  have s0 : f18_19.toNatClampNeg = w_length_a1.toNatClampNeg + 1 := by rw [hf18_19]; exact own_suc w_length_a1 nb (by rw [Int32.lt_iff_toInt_lt]; simp only [Int32.reduceToInt]; omega)
  have n0 : ¬ f18_19 < 0 := by
    rw [Int32.lt_iff_toInt_lt]
    simp only [Int32.reduceToInt]
    omega
  have a1 := c_iadd f18_19 1
  rw [← hf18_41] at a1
  simp only [Int32.reduceToInt] at a1
  have r1 := rng32 f18_41
  have t1 : f18_41.toInt = f18_19.toInt + 1 := by omega
  have s1 : f18_41.toNatClampNeg = f18_19.toNatClampNeg + 1 := by rw [hf18_41]; exact own_suc f18_19 n0 (by rw [Int32.lt_iff_toInt_lt]; simp only [Int32.reduceToInt]; omega)
  have n1 : ¬ f18_41 < 0 := by
    rw [Int32.lt_iff_toInt_lt]
    simp only [Int32.reduceToInt]
    omega
  exact n1
theorem own_3n_hp31_48 (w_length_a1 : Int32) (f18_19 : Int32) (f18_41 : Int32) (vs : List Value) (hf18_19 : f18_19 = ((w_length_a1 + (1 : Int32)))) (hf18_41 : f18_41 = ((f18_19 + (1 : Int32)))) (hw0 : ¬ w_length_a1 < 0) (hw1 : w_length_a1 < 58) (hvl : vs.length = w_length_a1.toNatClampNeg) : f18_41 < 63 := by
  have nb : ¬ w_length_a1 < 0 := hw0
  have tb : w_length_a1.toInt ≤ 58 := by
    have q := Int32.lt_iff_toInt_lt.mp hw1
    simp only [Int32.reduceToInt] at q
    omega
  have t0b : 0 ≤ w_length_a1.toInt := by
    have q := nb
    rw [Int32.lt_iff_toInt_lt] at q
    simp only [Int32.reduceToInt] at q
    omega
  have a0 := c_iadd w_length_a1 1
  rw [← hf18_19] at a0
  simp only [Int32.reduceToInt] at a0
  have r0 := rng32 f18_19
  have t0 : f18_19.toInt = w_length_a1.toInt + 1 := by omega
  have s0 : f18_19.toNatClampNeg = w_length_a1.toNatClampNeg + 1 := by rw [hf18_19]; exact own_suc w_length_a1 nb (by rw [Int32.lt_iff_toInt_lt]; simp only [Int32.reduceToInt]; omega)
  have n0 : ¬ f18_19 < 0 := by
    rw [Int32.lt_iff_toInt_lt]
    simp only [Int32.reduceToInt]
    omega
  have a1 := c_iadd f18_19 1
  rw [← hf18_41] at a1
  simp only [Int32.reduceToInt] at a1
  have r1 := rng32 f18_41
  have t1 : f18_41.toInt = f18_19.toInt + 1 := by omega
  have s1 : f18_41.toNatClampNeg = f18_19.toNatClampNeg + 1 := by rw [hf18_41]; exact own_suc f18_19 n0 (by rw [Int32.lt_iff_toInt_lt]; simp only [Int32.reduceToInt]; omega)
  have n1 : ¬ f18_41 < 0 := by
    rw [Int32.lt_iff_toInt_lt]
    simp only [Int32.reduceToInt]
    omega
  rw [Int32.lt_iff_toInt_lt]
  simp only [Int32.reduceToInt]
  omega
theorem own_3n_hp31_49 (vs : List Value) (p2 : Int32) (x18_11 : Int32) (vl18_18 : List Value) (y2_25_20 : Int32) (x18_32 : Int32) (vl18_40 : List Value) (w_length_a1 : Int32) (f18_19 : Int32) (f18_41 : Int32) (hx18_11 : x18_11 = ((p2 &&& (127 : Int32)) ||| (128 : Int32))) (hvl18_18 : vl18_18 = (vs ++ [(.int (nar .byte ((x18_11.toInt8.toInt32))))])) (hy2_25_20 : y2_25_20 = ((p2.toUInt32 >>> ((7 : Int32) &&& 31).toUInt32).toInt32)) (hx18_32 : x18_32 = ((y2_25_20 &&& (127 : Int32)) ||| (128 : Int32))) (hvl18_40 : vl18_40 = (vl18_18 ++ [(.int (nar .byte ((x18_32.toInt8.toInt32))))])) (hf18_19 : f18_19 = ((w_length_a1 + (1 : Int32)))) (hf18_41 : f18_41 = ((f18_19 + (1 : Int32)))) (hc6_2 : ¬ (p2 < (128 : Int32))) (hc6_22 : ¬ (y2_25_20 < (128 : Int32))) (hp0 : ¬ p2 < 0) (hw0 : ¬ w_length_a1 < 0) (hw1 : w_length_a1 < 58) (hvl : vs.length = w_length_a1.toNatClampNeg) : vl18_40.length = f18_41.toNatClampNeg := by
  have nb : ¬ w_length_a1 < 0 := hw0
  have tb : w_length_a1.toInt ≤ 58 := by
    have q := Int32.lt_iff_toInt_lt.mp hw1
    simp only [Int32.reduceToInt] at q
    omega
  have t0b : 0 ≤ w_length_a1.toInt := by
    have q := nb
    rw [Int32.lt_iff_toInt_lt] at q
    simp only [Int32.reduceToInt] at q
    omega
  have a0 := c_iadd w_length_a1 1
  rw [← hf18_19] at a0
  simp only [Int32.reduceToInt] at a0
  have r0 := rng32 f18_19
  have t0 : f18_19.toInt = w_length_a1.toInt + 1 := by omega
  have s0 : f18_19.toNatClampNeg = w_length_a1.toNatClampNeg + 1 := by rw [hf18_19]; exact own_suc w_length_a1 nb (by rw [Int32.lt_iff_toInt_lt]; simp only [Int32.reduceToInt]; omega)
  have n0 : ¬ f18_19 < 0 := by
    rw [Int32.lt_iff_toInt_lt]
    simp only [Int32.reduceToInt]
    omega
  have a1 := c_iadd f18_19 1
  rw [← hf18_41] at a1
  simp only [Int32.reduceToInt] at a1
  have r1 := rng32 f18_41
  have t1 : f18_41.toInt = f18_19.toInt + 1 := by omega
  have s1 : f18_41.toNatClampNeg = f18_19.toNatClampNeg + 1 := by rw [hf18_41]; exact own_suc f18_19 n0 (by rw [Int32.lt_iff_toInt_lt]; simp only [Int32.reduceToInt]; omega)
  have n1 : ¬ f18_41 < 0 := by
    rw [Int32.lt_iff_toInt_lt]
    simp only [Int32.reduceToInt]
    omega
  rw [hvl18_40, hvl18_18]
  simp only [List.length_append, List.length_cons, List.length_nil]
  have e := hvl
  omega
theorem own_3n_hp18_57 (w_length_a1 : Int32) (f18_19 : Int32) (f18_41 : Int32) (vs : List Value) (hf18_19 : f18_19 = ((w_length_a1 + (1 : Int32)))) (hf18_41 : f18_41 = ((f18_19 + (1 : Int32)))) (hw0 : ¬ w_length_a1 < 0) (hw1 : w_length_a1 < 58) (hvl : vs.length = w_length_a1.toNatClampNeg) : ¬ f18_41 < 0 := by
  have nb : ¬ w_length_a1 < 0 := hw0
  have tb : w_length_a1.toInt ≤ 58 := by
    have q := Int32.lt_iff_toInt_lt.mp hw1
    simp only [Int32.reduceToInt] at q
    omega
  have t0b : 0 ≤ w_length_a1.toInt := by
    have q := nb
    rw [Int32.lt_iff_toInt_lt] at q
    simp only [Int32.reduceToInt] at q
    omega
  have a0 := c_iadd w_length_a1 1
  rw [← hf18_19] at a0
  simp only [Int32.reduceToInt] at a0
  have r0 := rng32 f18_19
  have t0 : f18_19.toInt = w_length_a1.toInt + 1 := by omega
  have s0 : f18_19.toNatClampNeg = w_length_a1.toNatClampNeg + 1 := by rw [hf18_19]; exact own_suc w_length_a1 nb (by rw [Int32.lt_iff_toInt_lt]; simp only [Int32.reduceToInt]; omega)
  have n0 : ¬ f18_19 < 0 := by
    rw [Int32.lt_iff_toInt_lt]
    simp only [Int32.reduceToInt]
    omega
  have a1 := c_iadd f18_19 1
  rw [← hf18_41] at a1
  simp only [Int32.reduceToInt] at a1
  have r1 := rng32 f18_41
  have t1 : f18_41.toInt = f18_19.toInt + 1 := by omega
  have s1 : f18_41.toNatClampNeg = f18_19.toNatClampNeg + 1 := by rw [hf18_41]; exact own_suc f18_19 n0 (by rw [Int32.lt_iff_toInt_lt]; simp only [Int32.reduceToInt]; omega)
  have n1 : ¬ f18_41 < 0 := by
    rw [Int32.lt_iff_toInt_lt]
    simp only [Int32.reduceToInt]
    omega
  exact n1
theorem own_3n_hp18_58 (w_length_a1 : Int32) (f18_19 : Int32) (f18_41 : Int32) (vs : List Value) (hf18_19 : f18_19 = ((w_length_a1 + (1 : Int32)))) (hf18_41 : f18_41 = ((f18_19 + (1 : Int32)))) (hw0 : ¬ w_length_a1 < 0) (hw1 : w_length_a1 < 58) (hvl : vs.length = w_length_a1.toNatClampNeg) : f18_41 < 63 := by
  have nb : ¬ w_length_a1 < 0 := hw0
  have tb : w_length_a1.toInt ≤ 58 := by
    have q := Int32.lt_iff_toInt_lt.mp hw1
    simp only [Int32.reduceToInt] at q
    omega
  have t0b : 0 ≤ w_length_a1.toInt := by
    have q := nb
    rw [Int32.lt_iff_toInt_lt] at q
    simp only [Int32.reduceToInt] at q
    omega
  have a0 := c_iadd w_length_a1 1
  rw [← hf18_19] at a0
  simp only [Int32.reduceToInt] at a0
  have r0 := rng32 f18_19
  have t0 : f18_19.toInt = w_length_a1.toInt + 1 := by omega
  have s0 : f18_19.toNatClampNeg = w_length_a1.toNatClampNeg + 1 := by rw [hf18_19]; exact own_suc w_length_a1 nb (by rw [Int32.lt_iff_toInt_lt]; simp only [Int32.reduceToInt]; omega)
  have n0 : ¬ f18_19 < 0 := by
    rw [Int32.lt_iff_toInt_lt]
    simp only [Int32.reduceToInt]
    omega
  have a1 := c_iadd f18_19 1
  rw [← hf18_41] at a1
  simp only [Int32.reduceToInt] at a1
  have r1 := rng32 f18_41
  have t1 : f18_41.toInt = f18_19.toInt + 1 := by omega
  have s1 : f18_41.toNatClampNeg = f18_19.toNatClampNeg + 1 := by rw [hf18_41]; exact own_suc f18_19 n0 (by rw [Int32.lt_iff_toInt_lt]; simp only [Int32.reduceToInt]; omega)
  have n1 : ¬ f18_41 < 0 := by
    rw [Int32.lt_iff_toInt_lt]
    simp only [Int32.reduceToInt]
    omega
  rw [Int32.lt_iff_toInt_lt]
  simp only [Int32.reduceToInt]
  omega
theorem own_3n_hp18_59 (vs : List Value) (p2 : Int32) (x18_11 : Int32) (vl18_18 : List Value) (y2_25_20 : Int32) (x18_32 : Int32) (vl18_40 : List Value) (w_length_a1 : Int32) (f18_19 : Int32) (f18_41 : Int32) (hx18_11 : x18_11 = ((p2 &&& (127 : Int32)) ||| (128 : Int32))) (hvl18_18 : vl18_18 = (vs ++ [(.int (nar .byte ((x18_11.toInt8.toInt32))))])) (hy2_25_20 : y2_25_20 = ((p2.toUInt32 >>> ((7 : Int32) &&& 31).toUInt32).toInt32)) (hx18_32 : x18_32 = ((y2_25_20 &&& (127 : Int32)) ||| (128 : Int32))) (hvl18_40 : vl18_40 = (vl18_18 ++ [(.int (nar .byte ((x18_32.toInt8.toInt32))))])) (hf18_19 : f18_19 = ((w_length_a1 + (1 : Int32)))) (hf18_41 : f18_41 = ((f18_19 + (1 : Int32)))) (hc6_2 : ¬ (p2 < (128 : Int32))) (hc6_22 : ¬ (y2_25_20 < (128 : Int32))) (hp0 : ¬ p2 < 0) (hw0 : ¬ w_length_a1 < 0) (hw1 : w_length_a1 < 58) (hvl : vs.length = w_length_a1.toNatClampNeg) : vl18_40.length = f18_41.toNatClampNeg := by
  have nb : ¬ w_length_a1 < 0 := hw0
  have tb : w_length_a1.toInt ≤ 58 := by
    have q := Int32.lt_iff_toInt_lt.mp hw1
    simp only [Int32.reduceToInt] at q
    omega
  have t0b : 0 ≤ w_length_a1.toInt := by
    have q := nb
    rw [Int32.lt_iff_toInt_lt] at q
    simp only [Int32.reduceToInt] at q
    omega
  have a0 := c_iadd w_length_a1 1
  rw [← hf18_19] at a0
  simp only [Int32.reduceToInt] at a0
  have r0 := rng32 f18_19
  have t0 : f18_19.toInt = w_length_a1.toInt + 1 := by omega
  have s0 : f18_19.toNatClampNeg = w_length_a1.toNatClampNeg + 1 := by rw [hf18_19]; exact own_suc w_length_a1 nb (by rw [Int32.lt_iff_toInt_lt]; simp only [Int32.reduceToInt]; omega)
  have n0 : ¬ f18_19 < 0 := by
    rw [Int32.lt_iff_toInt_lt]
    simp only [Int32.reduceToInt]
    omega
  have a1 := c_iadd f18_19 1
  rw [← hf18_41] at a1
  simp only [Int32.reduceToInt] at a1
  have r1 := rng32 f18_41
  have t1 : f18_41.toInt = f18_19.toInt + 1 := by omega
  have s1 : f18_41.toNatClampNeg = f18_19.toNatClampNeg + 1 := by rw [hf18_41]; exact own_suc f18_19 n0 (by rw [Int32.lt_iff_toInt_lt]; simp only [Int32.reduceToInt]; omega)
  have n1 : ¬ f18_41 < 0 := by
    rw [Int32.lt_iff_toInt_lt]
    simp only [Int32.reduceToInt]
    omega
  rw [hvl18_40, hvl18_18]
  simp only [List.length_append, List.length_cons, List.length_nil]
  have e := hvl
  omega
theorem own_3n_hp31_69 (w_length_a1 : Int32) (f18_19 : Int32) (f18_41 : Int32) (f18_63 : Int32) (vs : List Value) (hf18_19 : f18_19 = ((w_length_a1 + (1 : Int32)))) (hf18_41 : f18_41 = ((f18_19 + (1 : Int32)))) (hf18_63 : f18_63 = ((f18_41 + (1 : Int32)))) (hw0 : ¬ w_length_a1 < 0) (hw1 : w_length_a1 < 58) (hvl : vs.length = w_length_a1.toNatClampNeg) : ¬ f18_63 < 0 := by
  have nb : ¬ w_length_a1 < 0 := hw0
  have tb : w_length_a1.toInt ≤ 58 := by
    have q := Int32.lt_iff_toInt_lt.mp hw1
    simp only [Int32.reduceToInt] at q
    omega
  have t0b : 0 ≤ w_length_a1.toInt := by
    have q := nb
    rw [Int32.lt_iff_toInt_lt] at q
    simp only [Int32.reduceToInt] at q
    omega
  have a0 := c_iadd w_length_a1 1
  rw [← hf18_19] at a0
  simp only [Int32.reduceToInt] at a0
  have r0 := rng32 f18_19
  have t0 : f18_19.toInt = w_length_a1.toInt + 1 := by omega
  have s0 : f18_19.toNatClampNeg = w_length_a1.toNatClampNeg + 1 := by rw [hf18_19]; exact own_suc w_length_a1 nb (by rw [Int32.lt_iff_toInt_lt]; simp only [Int32.reduceToInt]; omega)
  have n0 : ¬ f18_19 < 0 := by
    rw [Int32.lt_iff_toInt_lt]
    simp only [Int32.reduceToInt]
    omega
  have a1 := c_iadd f18_19 1
  rw [← hf18_41] at a1
  simp only [Int32.reduceToInt] at a1
  have r1 := rng32 f18_41
  have t1 : f18_41.toInt = f18_19.toInt + 1 := by omega
  have s1 : f18_41.toNatClampNeg = f18_19.toNatClampNeg + 1 := by rw [hf18_41]; exact own_suc f18_19 n0 (by rw [Int32.lt_iff_toInt_lt]; simp only [Int32.reduceToInt]; omega)
  have n1 : ¬ f18_41 < 0 := by
    rw [Int32.lt_iff_toInt_lt]
    simp only [Int32.reduceToInt]
    omega
  have a2 := c_iadd f18_41 1
  rw [← hf18_63] at a2
  simp only [Int32.reduceToInt] at a2
  have r2 := rng32 f18_63
  have t2 : f18_63.toInt = f18_41.toInt + 1 := by omega
  have s2 : f18_63.toNatClampNeg = f18_41.toNatClampNeg + 1 := by rw [hf18_63]; exact own_suc f18_41 n1 (by rw [Int32.lt_iff_toInt_lt]; simp only [Int32.reduceToInt]; omega)
  have n2 : ¬ f18_63 < 0 := by
    rw [Int32.lt_iff_toInt_lt]
    simp only [Int32.reduceToInt]
    omega
  exact n2
theorem own_3n_hp31_70 (w_length_a1 : Int32) (f18_19 : Int32) (f18_41 : Int32) (f18_63 : Int32) (vs : List Value) (hf18_19 : f18_19 = ((w_length_a1 + (1 : Int32)))) (hf18_41 : f18_41 = ((f18_19 + (1 : Int32)))) (hf18_63 : f18_63 = ((f18_41 + (1 : Int32)))) (hw0 : ¬ w_length_a1 < 0) (hw1 : w_length_a1 < 58) (hvl : vs.length = w_length_a1.toNatClampNeg) : f18_63 < 63 := by
  have nb : ¬ w_length_a1 < 0 := hw0
  have tb : w_length_a1.toInt ≤ 58 := by
    have q := Int32.lt_iff_toInt_lt.mp hw1
    simp only [Int32.reduceToInt] at q
    omega
  have t0b : 0 ≤ w_length_a1.toInt := by
    have q := nb
    rw [Int32.lt_iff_toInt_lt] at q
    simp only [Int32.reduceToInt] at q
    omega
  have a0 := c_iadd w_length_a1 1
  rw [← hf18_19] at a0
  simp only [Int32.reduceToInt] at a0
  have r0 := rng32 f18_19
  have t0 : f18_19.toInt = w_length_a1.toInt + 1 := by omega
  have s0 : f18_19.toNatClampNeg = w_length_a1.toNatClampNeg + 1 := by rw [hf18_19]; exact own_suc w_length_a1 nb (by rw [Int32.lt_iff_toInt_lt]; simp only [Int32.reduceToInt]; omega)
  have n0 : ¬ f18_19 < 0 := by
    rw [Int32.lt_iff_toInt_lt]
    simp only [Int32.reduceToInt]
    omega
  have a1 := c_iadd f18_19 1
  rw [← hf18_41] at a1
  simp only [Int32.reduceToInt] at a1
  have r1 := rng32 f18_41
  have t1 : f18_41.toInt = f18_19.toInt + 1 := by omega
  have s1 : f18_41.toNatClampNeg = f18_19.toNatClampNeg + 1 := by rw [hf18_41]; exact own_suc f18_19 n0 (by rw [Int32.lt_iff_toInt_lt]; simp only [Int32.reduceToInt]; omega)
  have n1 : ¬ f18_41 < 0 := by
    rw [Int32.lt_iff_toInt_lt]
    simp only [Int32.reduceToInt]
    omega
  have a2 := c_iadd f18_41 1
  rw [← hf18_63] at a2
  simp only [Int32.reduceToInt] at a2
  have r2 := rng32 f18_63
  have t2 : f18_63.toInt = f18_41.toInt + 1 := by omega
  have s2 : f18_63.toNatClampNeg = f18_41.toNatClampNeg + 1 := by rw [hf18_63]; exact own_suc f18_41 n1 (by rw [Int32.lt_iff_toInt_lt]; simp only [Int32.reduceToInt]; omega)
  have n2 : ¬ f18_63 < 0 := by
    rw [Int32.lt_iff_toInt_lt]
    simp only [Int32.reduceToInt]
    omega
  rw [Int32.lt_iff_toInt_lt]
  simp only [Int32.reduceToInt]
  omega
theorem own_3n_hp31_71 (vs : List Value) (p2 : Int32) (x18_11 : Int32) (vl18_18 : List Value) (y2_25_20 : Int32) (x18_32 : Int32) (vl18_40 : List Value) (y2_25_42 : Int32) (x18_54 : Int32) (vl18_62 : List Value) (w_length_a1 : Int32) (f18_19 : Int32) (f18_41 : Int32) (f18_63 : Int32) (hx18_11 : x18_11 = ((p2 &&& (127 : Int32)) ||| (128 : Int32))) (hvl18_18 : vl18_18 = (vs ++ [(.int (nar .byte ((x18_11.toInt8.toInt32))))])) (hy2_25_20 : y2_25_20 = ((p2.toUInt32 >>> ((7 : Int32) &&& 31).toUInt32).toInt32)) (hx18_32 : x18_32 = ((y2_25_20 &&& (127 : Int32)) ||| (128 : Int32))) (hvl18_40 : vl18_40 = (vl18_18 ++ [(.int (nar .byte ((x18_32.toInt8.toInt32))))])) (hy2_25_42 : y2_25_42 = ((y2_25_20.toUInt32 >>> ((7 : Int32) &&& 31).toUInt32).toInt32)) (hx18_54 : x18_54 = ((y2_25_42 &&& (127 : Int32)) ||| (128 : Int32))) (hvl18_62 : vl18_62 = (vl18_40 ++ [(.int (nar .byte ((x18_54.toInt8.toInt32))))])) (hf18_19 : f18_19 = ((w_length_a1 + (1 : Int32)))) (hf18_41 : f18_41 = ((f18_19 + (1 : Int32)))) (hf18_63 : f18_63 = ((f18_41 + (1 : Int32)))) (hc6_2 : ¬ (p2 < (128 : Int32))) (hc6_22 : ¬ (y2_25_20 < (128 : Int32))) (hc6_44 : ¬ (y2_25_42 < (128 : Int32))) (hp0 : ¬ p2 < 0) (hw0 : ¬ w_length_a1 < 0) (hw1 : w_length_a1 < 58) (hvl : vs.length = w_length_a1.toNatClampNeg) : vl18_62.length = f18_63.toNatClampNeg := by
  have nb : ¬ w_length_a1 < 0 := hw0
  have tb : w_length_a1.toInt ≤ 58 := by
    have q := Int32.lt_iff_toInt_lt.mp hw1
    simp only [Int32.reduceToInt] at q
    omega
  have t0b : 0 ≤ w_length_a1.toInt := by
    have q := nb
    rw [Int32.lt_iff_toInt_lt] at q
    simp only [Int32.reduceToInt] at q
    omega
  have a0 := c_iadd w_length_a1 1
  rw [← hf18_19] at a0
  simp only [Int32.reduceToInt] at a0
  have r0 := rng32 f18_19
  have t0 : f18_19.toInt = w_length_a1.toInt + 1 := by omega
  have s0 : f18_19.toNatClampNeg = w_length_a1.toNatClampNeg + 1 := by rw [hf18_19]; exact own_suc w_length_a1 nb (by rw [Int32.lt_iff_toInt_lt]; simp only [Int32.reduceToInt]; omega)
  have n0 : ¬ f18_19 < 0 := by
    rw [Int32.lt_iff_toInt_lt]
    simp only [Int32.reduceToInt]
    omega
  have a1 := c_iadd f18_19 1
  rw [← hf18_41] at a1
  simp only [Int32.reduceToInt] at a1
  have r1 := rng32 f18_41
  have t1 : f18_41.toInt = f18_19.toInt + 1 := by omega
  have s1 : f18_41.toNatClampNeg = f18_19.toNatClampNeg + 1 := by rw [hf18_41]; exact own_suc f18_19 n0 (by rw [Int32.lt_iff_toInt_lt]; simp only [Int32.reduceToInt]; omega)
  have n1 : ¬ f18_41 < 0 := by
    rw [Int32.lt_iff_toInt_lt]
    simp only [Int32.reduceToInt]
    omega
  have a2 := c_iadd f18_41 1
  rw [← hf18_63] at a2
  simp only [Int32.reduceToInt] at a2
  have r2 := rng32 f18_63
  have t2 : f18_63.toInt = f18_41.toInt + 1 := by omega
  have s2 : f18_63.toNatClampNeg = f18_41.toNatClampNeg + 1 := by rw [hf18_63]; exact own_suc f18_41 n1 (by rw [Int32.lt_iff_toInt_lt]; simp only [Int32.reduceToInt]; omega)
  have n2 : ¬ f18_63 < 0 := by
    rw [Int32.lt_iff_toInt_lt]
    simp only [Int32.reduceToInt]
    omega
  rw [hvl18_62, hvl18_40, hvl18_18]
  simp only [List.length_append, List.length_cons, List.length_nil]
  have e := hvl
  omega
theorem own_3n_hp18_79 (w_length_a1 : Int32) (f18_19 : Int32) (f18_41 : Int32) (f18_63 : Int32) (vs : List Value) (hf18_19 : f18_19 = ((w_length_a1 + (1 : Int32)))) (hf18_41 : f18_41 = ((f18_19 + (1 : Int32)))) (hf18_63 : f18_63 = ((f18_41 + (1 : Int32)))) (hw0 : ¬ w_length_a1 < 0) (hw1 : w_length_a1 < 58) (hvl : vs.length = w_length_a1.toNatClampNeg) : ¬ f18_63 < 0 := by
  have nb : ¬ w_length_a1 < 0 := hw0
  have tb : w_length_a1.toInt ≤ 58 := by
    have q := Int32.lt_iff_toInt_lt.mp hw1
    simp only [Int32.reduceToInt] at q
    omega
  have t0b : 0 ≤ w_length_a1.toInt := by
    have q := nb
    rw [Int32.lt_iff_toInt_lt] at q
    simp only [Int32.reduceToInt] at q
    omega
  have a0 := c_iadd w_length_a1 1
  rw [← hf18_19] at a0
  simp only [Int32.reduceToInt] at a0
  have r0 := rng32 f18_19
  have t0 : f18_19.toInt = w_length_a1.toInt + 1 := by omega
  have s0 : f18_19.toNatClampNeg = w_length_a1.toNatClampNeg + 1 := by rw [hf18_19]; exact own_suc w_length_a1 nb (by rw [Int32.lt_iff_toInt_lt]; simp only [Int32.reduceToInt]; omega)
  have n0 : ¬ f18_19 < 0 := by
    rw [Int32.lt_iff_toInt_lt]
    simp only [Int32.reduceToInt]
    omega
  have a1 := c_iadd f18_19 1
  rw [← hf18_41] at a1
  simp only [Int32.reduceToInt] at a1
  have r1 := rng32 f18_41
  have t1 : f18_41.toInt = f18_19.toInt + 1 := by omega
  have s1 : f18_41.toNatClampNeg = f18_19.toNatClampNeg + 1 := by rw [hf18_41]; exact own_suc f18_19 n0 (by rw [Int32.lt_iff_toInt_lt]; simp only [Int32.reduceToInt]; omega)
  have n1 : ¬ f18_41 < 0 := by
    rw [Int32.lt_iff_toInt_lt]
    simp only [Int32.reduceToInt]
    omega
  have a2 := c_iadd f18_41 1
  rw [← hf18_63] at a2
  simp only [Int32.reduceToInt] at a2
  have r2 := rng32 f18_63
  have t2 : f18_63.toInt = f18_41.toInt + 1 := by omega
  have s2 : f18_63.toNatClampNeg = f18_41.toNatClampNeg + 1 := by rw [hf18_63]; exact own_suc f18_41 n1 (by rw [Int32.lt_iff_toInt_lt]; simp only [Int32.reduceToInt]; omega)
  have n2 : ¬ f18_63 < 0 := by
    rw [Int32.lt_iff_toInt_lt]
    simp only [Int32.reduceToInt]
    omega
  exact n2
theorem own_3n_hp18_80 (w_length_a1 : Int32) (f18_19 : Int32) (f18_41 : Int32) (f18_63 : Int32) (vs : List Value) (hf18_19 : f18_19 = ((w_length_a1 + (1 : Int32)))) (hf18_41 : f18_41 = ((f18_19 + (1 : Int32)))) (hf18_63 : f18_63 = ((f18_41 + (1 : Int32)))) (hw0 : ¬ w_length_a1 < 0) (hw1 : w_length_a1 < 58) (hvl : vs.length = w_length_a1.toNatClampNeg) : f18_63 < 63 := by
  have nb : ¬ w_length_a1 < 0 := hw0
  have tb : w_length_a1.toInt ≤ 58 := by
    have q := Int32.lt_iff_toInt_lt.mp hw1
    simp only [Int32.reduceToInt] at q
    omega
  have t0b : 0 ≤ w_length_a1.toInt := by
    have q := nb
    rw [Int32.lt_iff_toInt_lt] at q
    simp only [Int32.reduceToInt] at q
    omega
  have a0 := c_iadd w_length_a1 1
  rw [← hf18_19] at a0
  simp only [Int32.reduceToInt] at a0
  have r0 := rng32 f18_19
  have t0 : f18_19.toInt = w_length_a1.toInt + 1 := by omega
  have s0 : f18_19.toNatClampNeg = w_length_a1.toNatClampNeg + 1 := by rw [hf18_19]; exact own_suc w_length_a1 nb (by rw [Int32.lt_iff_toInt_lt]; simp only [Int32.reduceToInt]; omega)
  have n0 : ¬ f18_19 < 0 := by
    rw [Int32.lt_iff_toInt_lt]
    simp only [Int32.reduceToInt]
    omega
  have a1 := c_iadd f18_19 1
  rw [← hf18_41] at a1
  simp only [Int32.reduceToInt] at a1
  have r1 := rng32 f18_41
  have t1 : f18_41.toInt = f18_19.toInt + 1 := by omega
  have s1 : f18_41.toNatClampNeg = f18_19.toNatClampNeg + 1 := by rw [hf18_41]; exact own_suc f18_19 n0 (by rw [Int32.lt_iff_toInt_lt]; simp only [Int32.reduceToInt]; omega)
  have n1 : ¬ f18_41 < 0 := by
    rw [Int32.lt_iff_toInt_lt]
    simp only [Int32.reduceToInt]
    omega
  have a2 := c_iadd f18_41 1
  rw [← hf18_63] at a2
  simp only [Int32.reduceToInt] at a2
  have r2 := rng32 f18_63
  have t2 : f18_63.toInt = f18_41.toInt + 1 := by omega
  have s2 : f18_63.toNatClampNeg = f18_41.toNatClampNeg + 1 := by rw [hf18_63]; exact own_suc f18_41 n1 (by rw [Int32.lt_iff_toInt_lt]; simp only [Int32.reduceToInt]; omega)
  have n2 : ¬ f18_63 < 0 := by
    rw [Int32.lt_iff_toInt_lt]
    simp only [Int32.reduceToInt]
    omega
  rw [Int32.lt_iff_toInt_lt]
  simp only [Int32.reduceToInt]
  omega
theorem own_3n_hp18_81 (vs : List Value) (p2 : Int32) (x18_11 : Int32) (vl18_18 : List Value) (y2_25_20 : Int32) (x18_32 : Int32) (vl18_40 : List Value) (y2_25_42 : Int32) (x18_54 : Int32) (vl18_62 : List Value) (w_length_a1 : Int32) (f18_19 : Int32) (f18_41 : Int32) (f18_63 : Int32) (hx18_11 : x18_11 = ((p2 &&& (127 : Int32)) ||| (128 : Int32))) (hvl18_18 : vl18_18 = (vs ++ [(.int (nar .byte ((x18_11.toInt8.toInt32))))])) (hy2_25_20 : y2_25_20 = ((p2.toUInt32 >>> ((7 : Int32) &&& 31).toUInt32).toInt32)) (hx18_32 : x18_32 = ((y2_25_20 &&& (127 : Int32)) ||| (128 : Int32))) (hvl18_40 : vl18_40 = (vl18_18 ++ [(.int (nar .byte ((x18_32.toInt8.toInt32))))])) (hy2_25_42 : y2_25_42 = ((y2_25_20.toUInt32 >>> ((7 : Int32) &&& 31).toUInt32).toInt32)) (hx18_54 : x18_54 = ((y2_25_42 &&& (127 : Int32)) ||| (128 : Int32))) (hvl18_62 : vl18_62 = (vl18_40 ++ [(.int (nar .byte ((x18_54.toInt8.toInt32))))])) (hf18_19 : f18_19 = ((w_length_a1 + (1 : Int32)))) (hf18_41 : f18_41 = ((f18_19 + (1 : Int32)))) (hf18_63 : f18_63 = ((f18_41 + (1 : Int32)))) (hc6_2 : ¬ (p2 < (128 : Int32))) (hc6_22 : ¬ (y2_25_20 < (128 : Int32))) (hc6_44 : ¬ (y2_25_42 < (128 : Int32))) (hp0 : ¬ p2 < 0) (hw0 : ¬ w_length_a1 < 0) (hw1 : w_length_a1 < 58) (hvl : vs.length = w_length_a1.toNatClampNeg) : vl18_62.length = f18_63.toNatClampNeg := by
  have nb : ¬ w_length_a1 < 0 := hw0
  have tb : w_length_a1.toInt ≤ 58 := by
    have q := Int32.lt_iff_toInt_lt.mp hw1
    simp only [Int32.reduceToInt] at q
    omega
  have t0b : 0 ≤ w_length_a1.toInt := by
    have q := nb
    rw [Int32.lt_iff_toInt_lt] at q
    simp only [Int32.reduceToInt] at q
    omega
  have a0 := c_iadd w_length_a1 1
  rw [← hf18_19] at a0
  simp only [Int32.reduceToInt] at a0
  have r0 := rng32 f18_19
  have t0 : f18_19.toInt = w_length_a1.toInt + 1 := by omega
  have s0 : f18_19.toNatClampNeg = w_length_a1.toNatClampNeg + 1 := by rw [hf18_19]; exact own_suc w_length_a1 nb (by rw [Int32.lt_iff_toInt_lt]; simp only [Int32.reduceToInt]; omega)
  have n0 : ¬ f18_19 < 0 := by
    rw [Int32.lt_iff_toInt_lt]
    simp only [Int32.reduceToInt]
    omega
  have a1 := c_iadd f18_19 1
  rw [← hf18_41] at a1
  simp only [Int32.reduceToInt] at a1
  have r1 := rng32 f18_41
  have t1 : f18_41.toInt = f18_19.toInt + 1 := by omega
  have s1 : f18_41.toNatClampNeg = f18_19.toNatClampNeg + 1 := by rw [hf18_41]; exact own_suc f18_19 n0 (by rw [Int32.lt_iff_toInt_lt]; simp only [Int32.reduceToInt]; omega)
  have n1 : ¬ f18_41 < 0 := by
    rw [Int32.lt_iff_toInt_lt]
    simp only [Int32.reduceToInt]
    omega
  have a2 := c_iadd f18_41 1
  rw [← hf18_63] at a2
  simp only [Int32.reduceToInt] at a2
  have r2 := rng32 f18_63
  have t2 : f18_63.toInt = f18_41.toInt + 1 := by omega
  have s2 : f18_63.toNatClampNeg = f18_41.toNatClampNeg + 1 := by rw [hf18_63]; exact own_suc f18_41 n1 (by rw [Int32.lt_iff_toInt_lt]; simp only [Int32.reduceToInt]; omega)
  have n2 : ¬ f18_63 < 0 := by
    rw [Int32.lt_iff_toInt_lt]
    simp only [Int32.reduceToInt]
    omega
  rw [hvl18_62, hvl18_40, hvl18_18]
  simp only [List.length_append, List.length_cons, List.length_nil]
  have e := hvl
  omega
theorem own_3n_hc6_88 (p2 : Int32) (y2_25_20 : Int32) (y2_25_42 : Int32) (y2_25_64 : Int32) (y2_25_86 : Int32) (hy2_25_20 : y2_25_20 = ((p2.toUInt32 >>> ((7 : Int32) &&& 31).toUInt32).toInt32)) (hy2_25_42 : y2_25_42 = ((y2_25_20.toUInt32 >>> ((7 : Int32) &&& 31).toUInt32).toInt32)) (hy2_25_64 : y2_25_64 = ((y2_25_42.toUInt32 >>> ((7 : Int32) &&& 31).toUInt32).toInt32)) (hy2_25_86 : y2_25_86 = ((y2_25_64.toUInt32 >>> ((7 : Int32) &&& 31).toUInt32).toInt32)) (hp0 : ¬ p2 < 0) : y2_25_86 < (128 : Int32) := by
  rw [Int32.lt_iff_toInt_lt] at *
  have z := rng32 p2
  have a0 : y2_25_20.toInt = (p2.toInt % 4294967296) / 128 := by rw [hy2_25_20]; exact c_iushr p2 (7 : Int32) 7 (by decide) (by decide)
  have a1 : y2_25_42.toInt = (y2_25_20.toInt % 4294967296) / 128 := by rw [hy2_25_42]; exact c_iushr y2_25_20 (7 : Int32) 7 (by decide) (by decide)
  have a2 : y2_25_64.toInt = (y2_25_42.toInt % 4294967296) / 128 := by rw [hy2_25_64]; exact c_iushr y2_25_42 (7 : Int32) 7 (by decide) (by decide)
  have a3 : y2_25_86.toInt = (y2_25_64.toInt % 4294967296) / 128 := by rw [hy2_25_86]; exact c_iushr y2_25_64 (7 : Int32) 7 (by decide) (by decide)
  simp only [Int32.reduceToInt] at *
  omega
theorem own_3n_hp31_91 (w_length_a1 : Int32) (f18_19 : Int32) (f18_41 : Int32) (f18_63 : Int32) (f18_85 : Int32) (vs : List Value) (hf18_19 : f18_19 = ((w_length_a1 + (1 : Int32)))) (hf18_41 : f18_41 = ((f18_19 + (1 : Int32)))) (hf18_63 : f18_63 = ((f18_41 + (1 : Int32)))) (hf18_85 : f18_85 = ((f18_63 + (1 : Int32)))) (hw0 : ¬ w_length_a1 < 0) (hw1 : w_length_a1 < 58) (hvl : vs.length = w_length_a1.toNatClampNeg) : ¬ f18_85 < 0 := by
  have nb : ¬ w_length_a1 < 0 := hw0
  have tb : w_length_a1.toInt ≤ 58 := by
    have q := Int32.lt_iff_toInt_lt.mp hw1
    simp only [Int32.reduceToInt] at q
    omega
  have t0b : 0 ≤ w_length_a1.toInt := by
    have q := nb
    rw [Int32.lt_iff_toInt_lt] at q
    simp only [Int32.reduceToInt] at q
    omega
  have a0 := c_iadd w_length_a1 1
  rw [← hf18_19] at a0
  simp only [Int32.reduceToInt] at a0
  have r0 := rng32 f18_19
  have t0 : f18_19.toInt = w_length_a1.toInt + 1 := by omega
  have s0 : f18_19.toNatClampNeg = w_length_a1.toNatClampNeg + 1 := by rw [hf18_19]; exact own_suc w_length_a1 nb (by rw [Int32.lt_iff_toInt_lt]; simp only [Int32.reduceToInt]; omega)
  have n0 : ¬ f18_19 < 0 := by
    rw [Int32.lt_iff_toInt_lt]
    simp only [Int32.reduceToInt]
    omega
  have a1 := c_iadd f18_19 1
  rw [← hf18_41] at a1
  simp only [Int32.reduceToInt] at a1
  have r1 := rng32 f18_41
  have t1 : f18_41.toInt = f18_19.toInt + 1 := by omega
  have s1 : f18_41.toNatClampNeg = f18_19.toNatClampNeg + 1 := by rw [hf18_41]; exact own_suc f18_19 n0 (by rw [Int32.lt_iff_toInt_lt]; simp only [Int32.reduceToInt]; omega)
  have n1 : ¬ f18_41 < 0 := by
    rw [Int32.lt_iff_toInt_lt]
    simp only [Int32.reduceToInt]
    omega
  have a2 := c_iadd f18_41 1
  rw [← hf18_63] at a2
  simp only [Int32.reduceToInt] at a2
  have r2 := rng32 f18_63
  have t2 : f18_63.toInt = f18_41.toInt + 1 := by omega
  have s2 : f18_63.toNatClampNeg = f18_41.toNatClampNeg + 1 := by rw [hf18_63]; exact own_suc f18_41 n1 (by rw [Int32.lt_iff_toInt_lt]; simp only [Int32.reduceToInt]; omega)
  have n2 : ¬ f18_63 < 0 := by
    rw [Int32.lt_iff_toInt_lt]
    simp only [Int32.reduceToInt]
    omega
  have a3 := c_iadd f18_63 1
  rw [← hf18_85] at a3
  simp only [Int32.reduceToInt] at a3
  have r3 := rng32 f18_85
  have t3 : f18_85.toInt = f18_63.toInt + 1 := by omega
  have s3 : f18_85.toNatClampNeg = f18_63.toNatClampNeg + 1 := by rw [hf18_85]; exact own_suc f18_63 n2 (by rw [Int32.lt_iff_toInt_lt]; simp only [Int32.reduceToInt]; omega)
  have n3 : ¬ f18_85 < 0 := by
    rw [Int32.lt_iff_toInt_lt]
    simp only [Int32.reduceToInt]
    omega
  exact n3
theorem own_3n_hp31_92 (w_length_a1 : Int32) (f18_19 : Int32) (f18_41 : Int32) (f18_63 : Int32) (f18_85 : Int32) (vs : List Value) (hf18_19 : f18_19 = ((w_length_a1 + (1 : Int32)))) (hf18_41 : f18_41 = ((f18_19 + (1 : Int32)))) (hf18_63 : f18_63 = ((f18_41 + (1 : Int32)))) (hf18_85 : f18_85 = ((f18_63 + (1 : Int32)))) (hw0 : ¬ w_length_a1 < 0) (hw1 : w_length_a1 < 58) (hvl : vs.length = w_length_a1.toNatClampNeg) : f18_85 < 63 := by
  have nb : ¬ w_length_a1 < 0 := hw0
  have tb : w_length_a1.toInt ≤ 58 := by
    have q := Int32.lt_iff_toInt_lt.mp hw1
    simp only [Int32.reduceToInt] at q
    omega
  have t0b : 0 ≤ w_length_a1.toInt := by
    have q := nb
    rw [Int32.lt_iff_toInt_lt] at q
    simp only [Int32.reduceToInt] at q
    omega
  have a0 := c_iadd w_length_a1 1
  rw [← hf18_19] at a0
  simp only [Int32.reduceToInt] at a0
  have r0 := rng32 f18_19
  have t0 : f18_19.toInt = w_length_a1.toInt + 1 := by omega
  have s0 : f18_19.toNatClampNeg = w_length_a1.toNatClampNeg + 1 := by rw [hf18_19]; exact own_suc w_length_a1 nb (by rw [Int32.lt_iff_toInt_lt]; simp only [Int32.reduceToInt]; omega)
  have n0 : ¬ f18_19 < 0 := by
    rw [Int32.lt_iff_toInt_lt]
    simp only [Int32.reduceToInt]
    omega
  have a1 := c_iadd f18_19 1
  rw [← hf18_41] at a1
  simp only [Int32.reduceToInt] at a1
  have r1 := rng32 f18_41
  have t1 : f18_41.toInt = f18_19.toInt + 1 := by omega
  have s1 : f18_41.toNatClampNeg = f18_19.toNatClampNeg + 1 := by rw [hf18_41]; exact own_suc f18_19 n0 (by rw [Int32.lt_iff_toInt_lt]; simp only [Int32.reduceToInt]; omega)
  have n1 : ¬ f18_41 < 0 := by
    rw [Int32.lt_iff_toInt_lt]
    simp only [Int32.reduceToInt]
    omega
  have a2 := c_iadd f18_41 1
  rw [← hf18_63] at a2
  simp only [Int32.reduceToInt] at a2
  have r2 := rng32 f18_63
  have t2 : f18_63.toInt = f18_41.toInt + 1 := by omega
  have s2 : f18_63.toNatClampNeg = f18_41.toNatClampNeg + 1 := by rw [hf18_63]; exact own_suc f18_41 n1 (by rw [Int32.lt_iff_toInt_lt]; simp only [Int32.reduceToInt]; omega)
  have n2 : ¬ f18_63 < 0 := by
    rw [Int32.lt_iff_toInt_lt]
    simp only [Int32.reduceToInt]
    omega
  have a3 := c_iadd f18_63 1
  rw [← hf18_85] at a3
  simp only [Int32.reduceToInt] at a3
  have r3 := rng32 f18_85
  have t3 : f18_85.toInt = f18_63.toInt + 1 := by omega
  have s3 : f18_85.toNatClampNeg = f18_63.toNatClampNeg + 1 := by rw [hf18_85]; exact own_suc f18_63 n2 (by rw [Int32.lt_iff_toInt_lt]; simp only [Int32.reduceToInt]; omega)
  have n3 : ¬ f18_85 < 0 := by
    rw [Int32.lt_iff_toInt_lt]
    simp only [Int32.reduceToInt]
    omega
  rw [Int32.lt_iff_toInt_lt]
  simp only [Int32.reduceToInt]
  omega
theorem own_3n_hp31_93 (vs : List Value) (p2 : Int32) (x18_11 : Int32) (vl18_18 : List Value) (y2_25_20 : Int32) (x18_32 : Int32) (vl18_40 : List Value) (y2_25_42 : Int32) (x18_54 : Int32) (vl18_62 : List Value) (y2_25_64 : Int32) (x18_76 : Int32) (vl18_84 : List Value) (w_length_a1 : Int32) (f18_19 : Int32) (f18_41 : Int32) (f18_63 : Int32) (f18_85 : Int32) (hx18_11 : x18_11 = ((p2 &&& (127 : Int32)) ||| (128 : Int32))) (hvl18_18 : vl18_18 = (vs ++ [(.int (nar .byte ((x18_11.toInt8.toInt32))))])) (hy2_25_20 : y2_25_20 = ((p2.toUInt32 >>> ((7 : Int32) &&& 31).toUInt32).toInt32)) (hx18_32 : x18_32 = ((y2_25_20 &&& (127 : Int32)) ||| (128 : Int32))) (hvl18_40 : vl18_40 = (vl18_18 ++ [(.int (nar .byte ((x18_32.toInt8.toInt32))))])) (hy2_25_42 : y2_25_42 = ((y2_25_20.toUInt32 >>> ((7 : Int32) &&& 31).toUInt32).toInt32)) (hx18_54 : x18_54 = ((y2_25_42 &&& (127 : Int32)) ||| (128 : Int32))) (hvl18_62 : vl18_62 = (vl18_40 ++ [(.int (nar .byte ((x18_54.toInt8.toInt32))))])) (hy2_25_64 : y2_25_64 = ((y2_25_42.toUInt32 >>> ((7 : Int32) &&& 31).toUInt32).toInt32)) (hx18_76 : x18_76 = ((y2_25_64 &&& (127 : Int32)) ||| (128 : Int32))) (hvl18_84 : vl18_84 = (vl18_62 ++ [(.int (nar .byte ((x18_76.toInt8.toInt32))))])) (hf18_19 : f18_19 = ((w_length_a1 + (1 : Int32)))) (hf18_41 : f18_41 = ((f18_19 + (1 : Int32)))) (hf18_63 : f18_63 = ((f18_41 + (1 : Int32)))) (hf18_85 : f18_85 = ((f18_63 + (1 : Int32)))) (hc6_2 : ¬ (p2 < (128 : Int32))) (hc6_22 : ¬ (y2_25_20 < (128 : Int32))) (hc6_44 : ¬ (y2_25_42 < (128 : Int32))) (hc6_66 : ¬ (y2_25_64 < (128 : Int32))) (hp0 : ¬ p2 < 0) (hw0 : ¬ w_length_a1 < 0) (hw1 : w_length_a1 < 58) (hvl : vs.length = w_length_a1.toNatClampNeg) : vl18_84.length = f18_85.toNatClampNeg := by
  have nb : ¬ w_length_a1 < 0 := hw0
  have tb : w_length_a1.toInt ≤ 58 := by
    have q := Int32.lt_iff_toInt_lt.mp hw1
    simp only [Int32.reduceToInt] at q
    omega
  have t0b : 0 ≤ w_length_a1.toInt := by
    have q := nb
    rw [Int32.lt_iff_toInt_lt] at q
    simp only [Int32.reduceToInt] at q
    omega
  have a0 := c_iadd w_length_a1 1
  rw [← hf18_19] at a0
  simp only [Int32.reduceToInt] at a0
  have r0 := rng32 f18_19
  have t0 : f18_19.toInt = w_length_a1.toInt + 1 := by omega
  have s0 : f18_19.toNatClampNeg = w_length_a1.toNatClampNeg + 1 := by rw [hf18_19]; exact own_suc w_length_a1 nb (by rw [Int32.lt_iff_toInt_lt]; simp only [Int32.reduceToInt]; omega)
  have n0 : ¬ f18_19 < 0 := by
    rw [Int32.lt_iff_toInt_lt]
    simp only [Int32.reduceToInt]
    omega
  have a1 := c_iadd f18_19 1
  rw [← hf18_41] at a1
  simp only [Int32.reduceToInt] at a1
  have r1 := rng32 f18_41
  have t1 : f18_41.toInt = f18_19.toInt + 1 := by omega
  have s1 : f18_41.toNatClampNeg = f18_19.toNatClampNeg + 1 := by rw [hf18_41]; exact own_suc f18_19 n0 (by rw [Int32.lt_iff_toInt_lt]; simp only [Int32.reduceToInt]; omega)
  have n1 : ¬ f18_41 < 0 := by
    rw [Int32.lt_iff_toInt_lt]
    simp only [Int32.reduceToInt]
    omega
  have a2 := c_iadd f18_41 1
  rw [← hf18_63] at a2
  simp only [Int32.reduceToInt] at a2
  have r2 := rng32 f18_63
  have t2 : f18_63.toInt = f18_41.toInt + 1 := by omega
  have s2 : f18_63.toNatClampNeg = f18_41.toNatClampNeg + 1 := by rw [hf18_63]; exact own_suc f18_41 n1 (by rw [Int32.lt_iff_toInt_lt]; simp only [Int32.reduceToInt]; omega)
  have n2 : ¬ f18_63 < 0 := by
    rw [Int32.lt_iff_toInt_lt]
    simp only [Int32.reduceToInt]
    omega
  have a3 := c_iadd f18_63 1
  rw [← hf18_85] at a3
  simp only [Int32.reduceToInt] at a3
  have r3 := rng32 f18_85
  have t3 : f18_85.toInt = f18_63.toInt + 1 := by omega
  have s3 : f18_85.toNatClampNeg = f18_63.toNatClampNeg + 1 := by rw [hf18_85]; exact own_suc f18_63 n2 (by rw [Int32.lt_iff_toInt_lt]; simp only [Int32.reduceToInt]; omega)
  have n3 : ¬ f18_85 < 0 := by
    rw [Int32.lt_iff_toInt_lt]
    simp only [Int32.reduceToInt]
    omega
  rw [hvl18_84, hvl18_62, hvl18_40, hvl18_18]
  simp only [List.length_append, List.length_cons, List.length_nil]
  have e := hvl
  omega
def own_F (w_length_a1 : Int32) (p2 : Int32) : Int32 := (if p2 < (128 : Int32) then (((w_length_a1 + (1 : Int32)))) else (if (((p2.toUInt32 >>> ((7 : Int32) &&& 31).toUInt32).toInt32)) < (128 : Int32) then ((((((w_length_a1 + (1 : Int32)))) + (1 : Int32)))) else (if ((((((p2.toUInt32 >>> ((7 : Int32) &&& 31).toUInt32).toInt32)).toUInt32 >>> ((7 : Int32) &&& 31).toUInt32).toInt32)) < (128 : Int32) then (((((((((w_length_a1 + (1 : Int32)))) + (1 : Int32)))) + (1 : Int32)))) else (if (((((((((p2.toUInt32 >>> ((7 : Int32) &&& 31).toUInt32).toInt32)).toUInt32 >>> ((7 : Int32) &&& 31).toUInt32).toInt32)).toUInt32 >>> ((7 : Int32) &&& 31).toUInt32).toInt32)) < (128 : Int32) then ((((((((((((w_length_a1 + (1 : Int32)))) + (1 : Int32)))) + (1 : Int32)))) + (1 : Int32)))) else (((((((((((((((w_length_a1 + (1 : Int32)))) + (1 : Int32)))) + (1 : Int32)))) + (1 : Int32)))) + (1 : Int32))))))))
theorem own_F_eq (w_length_a1 : Int32) (p2 : Int32) : own_F w_length_a1 p2 = (if p2 < (128 : Int32) then (((w_length_a1 + (1 : Int32)))) else (if (((p2.toUInt32 >>> ((7 : Int32) &&& 31).toUInt32).toInt32)) < (128 : Int32) then ((((((w_length_a1 + (1 : Int32)))) + (1 : Int32)))) else (if ((((((p2.toUInt32 >>> ((7 : Int32) &&& 31).toUInt32).toInt32)).toUInt32 >>> ((7 : Int32) &&& 31).toUInt32).toInt32)) < (128 : Int32) then (((((((((w_length_a1 + (1 : Int32)))) + (1 : Int32)))) + (1 : Int32)))) else (if (((((((((p2.toUInt32 >>> ((7 : Int32) &&& 31).toUInt32).toInt32)).toUInt32 >>> ((7 : Int32) &&& 31).toUInt32).toInt32)).toUInt32 >>> ((7 : Int32) &&& 31).toUInt32).toInt32)) < (128 : Int32) then ((((((((((((w_length_a1 + (1 : Int32)))) + (1 : Int32)))) + (1 : Int32)))) + (1 : Int32)))) else (((((((((((((((w_length_a1 + (1 : Int32)))) + (1 : Int32)))) + (1 : Int32)))) + (1 : Int32)))) + (1 : Int32)))))))) := rfl
def own_E (vs : List Value) (p2 : Int32) : List Value := (if p2 < (128 : Int32) then ((vs ++ [(.int (nar .byte ((p2.toInt8.toInt32))))])) else (if (((p2.toUInt32 >>> ((7 : Int32) &&& 31).toUInt32).toInt32)) < (128 : Int32) then ((((vs ++ [(.int (nar .byte (((((p2 &&& (127 : Int32)) ||| (128 : Int32))).toInt8.toInt32))))])) ++ [(.int (nar .byte (((((p2.toUInt32 >>> ((7 : Int32) &&& 31).toUInt32).toInt32)).toInt8.toInt32))))])) else (if ((((((p2.toUInt32 >>> ((7 : Int32) &&& 31).toUInt32).toInt32)).toUInt32 >>> ((7 : Int32) &&& 31).toUInt32).toInt32)) < (128 : Int32) then ((((((vs ++ [(.int (nar .byte (((((p2 &&& (127 : Int32)) ||| (128 : Int32))).toInt8.toInt32))))])) ++ [(.int (nar .byte ((((((((p2.toUInt32 >>> ((7 : Int32) &&& 31).toUInt32).toInt32)) &&& (127 : Int32)) ||| (128 : Int32))).toInt8.toInt32))))])) ++ [(.int (nar .byte ((((((((p2.toUInt32 >>> ((7 : Int32) &&& 31).toUInt32).toInt32)).toUInt32 >>> ((7 : Int32) &&& 31).toUInt32).toInt32)).toInt8.toInt32))))])) else (if (((((((((p2.toUInt32 >>> ((7 : Int32) &&& 31).toUInt32).toInt32)).toUInt32 >>> ((7 : Int32) &&& 31).toUInt32).toInt32)).toUInt32 >>> ((7 : Int32) &&& 31).toUInt32).toInt32)) < (128 : Int32) then ((((((((vs ++ [(.int (nar .byte (((((p2 &&& (127 : Int32)) ||| (128 : Int32))).toInt8.toInt32))))])) ++ [(.int (nar .byte ((((((((p2.toUInt32 >>> ((7 : Int32) &&& 31).toUInt32).toInt32)) &&& (127 : Int32)) ||| (128 : Int32))).toInt8.toInt32))))])) ++ [(.int (nar .byte (((((((((((p2.toUInt32 >>> ((7 : Int32) &&& 31).toUInt32).toInt32)).toUInt32 >>> ((7 : Int32) &&& 31).toUInt32).toInt32)) &&& (127 : Int32)) ||| (128 : Int32))).toInt8.toInt32))))])) ++ [(.int (nar .byte (((((((((((p2.toUInt32 >>> ((7 : Int32) &&& 31).toUInt32).toInt32)).toUInt32 >>> ((7 : Int32) &&& 31).toUInt32).toInt32)).toUInt32 >>> ((7 : Int32) &&& 31).toUInt32).toInt32)).toInt8.toInt32))))])) else ((((((((((vs ++ [(.int (nar .byte (((((p2 &&& (127 : Int32)) ||| (128 : Int32))).toInt8.toInt32))))])) ++ [(.int (nar .byte ((((((((p2.toUInt32 >>> ((7 : Int32) &&& 31).toUInt32).toInt32)) &&& (127 : Int32)) ||| (128 : Int32))).toInt8.toInt32))))])) ++ [(.int (nar .byte (((((((((((p2.toUInt32 >>> ((7 : Int32) &&& 31).toUInt32).toInt32)).toUInt32 >>> ((7 : Int32) &&& 31).toUInt32).toInt32)) &&& (127 : Int32)) ||| (128 : Int32))).toInt8.toInt32))))])) ++ [(.int (nar .byte ((((((((((((((p2.toUInt32 >>> ((7 : Int32) &&& 31).toUInt32).toInt32)).toUInt32 >>> ((7 : Int32) &&& 31).toUInt32).toInt32)).toUInt32 >>> ((7 : Int32) &&& 31).toUInt32).toInt32)) &&& (127 : Int32)) ||| (128 : Int32))).toInt8.toInt32))))])) ++ [(.int (nar .byte ((((((((((((((p2.toUInt32 >>> ((7 : Int32) &&& 31).toUInt32).toInt32)).toUInt32 >>> ((7 : Int32) &&& 31).toUInt32).toInt32)).toUInt32 >>> ((7 : Int32) &&& 31).toUInt32).toInt32)).toUInt32 >>> ((7 : Int32) &&& 31).toUInt32).toInt32)).toInt8.toInt32))))]))))))
theorem own_E_eq (vs : List Value) (p2 : Int32) : own_E vs p2 = (if p2 < (128 : Int32) then ((vs ++ [(.int (nar .byte ((p2.toInt8.toInt32))))])) else (if (((p2.toUInt32 >>> ((7 : Int32) &&& 31).toUInt32).toInt32)) < (128 : Int32) then ((((vs ++ [(.int (nar .byte (((((p2 &&& (127 : Int32)) ||| (128 : Int32))).toInt8.toInt32))))])) ++ [(.int (nar .byte (((((p2.toUInt32 >>> ((7 : Int32) &&& 31).toUInt32).toInt32)).toInt8.toInt32))))])) else (if ((((((p2.toUInt32 >>> ((7 : Int32) &&& 31).toUInt32).toInt32)).toUInt32 >>> ((7 : Int32) &&& 31).toUInt32).toInt32)) < (128 : Int32) then ((((((vs ++ [(.int (nar .byte (((((p2 &&& (127 : Int32)) ||| (128 : Int32))).toInt8.toInt32))))])) ++ [(.int (nar .byte ((((((((p2.toUInt32 >>> ((7 : Int32) &&& 31).toUInt32).toInt32)) &&& (127 : Int32)) ||| (128 : Int32))).toInt8.toInt32))))])) ++ [(.int (nar .byte ((((((((p2.toUInt32 >>> ((7 : Int32) &&& 31).toUInt32).toInt32)).toUInt32 >>> ((7 : Int32) &&& 31).toUInt32).toInt32)).toInt8.toInt32))))])) else (if (((((((((p2.toUInt32 >>> ((7 : Int32) &&& 31).toUInt32).toInt32)).toUInt32 >>> ((7 : Int32) &&& 31).toUInt32).toInt32)).toUInt32 >>> ((7 : Int32) &&& 31).toUInt32).toInt32)) < (128 : Int32) then ((((((((vs ++ [(.int (nar .byte (((((p2 &&& (127 : Int32)) ||| (128 : Int32))).toInt8.toInt32))))])) ++ [(.int (nar .byte ((((((((p2.toUInt32 >>> ((7 : Int32) &&& 31).toUInt32).toInt32)) &&& (127 : Int32)) ||| (128 : Int32))).toInt8.toInt32))))])) ++ [(.int (nar .byte (((((((((((p2.toUInt32 >>> ((7 : Int32) &&& 31).toUInt32).toInt32)).toUInt32 >>> ((7 : Int32) &&& 31).toUInt32).toInt32)) &&& (127 : Int32)) ||| (128 : Int32))).toInt8.toInt32))))])) ++ [(.int (nar .byte (((((((((((p2.toUInt32 >>> ((7 : Int32) &&& 31).toUInt32).toInt32)).toUInt32 >>> ((7 : Int32) &&& 31).toUInt32).toInt32)).toUInt32 >>> ((7 : Int32) &&& 31).toUInt32).toInt32)).toInt8.toInt32))))])) else ((((((((((vs ++ [(.int (nar .byte (((((p2 &&& (127 : Int32)) ||| (128 : Int32))).toInt8.toInt32))))])) ++ [(.int (nar .byte ((((((((p2.toUInt32 >>> ((7 : Int32) &&& 31).toUInt32).toInt32)) &&& (127 : Int32)) ||| (128 : Int32))).toInt8.toInt32))))])) ++ [(.int (nar .byte (((((((((((p2.toUInt32 >>> ((7 : Int32) &&& 31).toUInt32).toInt32)).toUInt32 >>> ((7 : Int32) &&& 31).toUInt32).toInt32)) &&& (127 : Int32)) ||| (128 : Int32))).toInt8.toInt32))))])) ++ [(.int (nar .byte ((((((((((((((p2.toUInt32 >>> ((7 : Int32) &&& 31).toUInt32).toInt32)).toUInt32 >>> ((7 : Int32) &&& 31).toUInt32).toInt32)).toUInt32 >>> ((7 : Int32) &&& 31).toUInt32).toInt32)) &&& (127 : Int32)) ||| (128 : Int32))).toInt8.toInt32))))])) ++ [(.int (nar .byte ((((((((((((((p2.toUInt32 >>> ((7 : Int32) &&& 31).toUInt32).toInt32)).toUInt32 >>> ((7 : Int32) &&& 31).toUInt32).toInt32)).toUInt32 >>> ((7 : Int32) &&& 31).toUInt32).toInt32)).toUInt32 >>> ((7 : Int32) &&& 31).toUInt32).toInt32)).toInt8.toInt32))))])))))) := rfl
def Q3n (Z : State) (a1 : Addr) (p2 : Int32) (kx_w_pieces_a1 : ClassId) (bk : Addr) (kx_bk : ClassId) (vs : List Value) (w_pieces_a1 : Addr) (w_length_a1 : Int32) (h0 : Heap) (n0 : Nat) (v : Option Value) (h : Heap) (L : List Loc) : Prop := v = none ∧ Fr n0 L ∧ Keep h0 h [a1, bk] ∧ Exa Z h a1 "com/example/outcomery/outcomery/PackedNumbers" ∧ Fld Z h a1 "com/example/outcomery/outcomery/PackedNumbers" "length" "I" (.int (own_F w_length_a1 p2)) ∧ Fld Z h a1 "com/example/outcomery/outcomery/PackedNumbers" "pieces" "[[B" (.ref w_pieces_a1) ∧ Arv Z h bk kx_bk .byte (64 : Int32) (own_E vs p2) (.int (0 : Int32))
set_option maxRecDepth 65536 in
set_option maxHeartbeats 40000000 in
theorem rm3n (l : Launch) (Z : State) (a0 : Array Value) (hw : ∀ d ∈ tables_1, d.before a0 Z = true) (ws : List Jvm.Cond) (a1 : Addr) (p2 : Int32) (kx_w_pieces_a1 : ClassId) (bk : Addr) (kx_bk : ClassId) (vs : List Value) (w_pieces_a1 : Addr) (w_length_a1 : Int32) (h0 : Heap) (n0 : Nat) (Z0 : n0 ≤ h0.size) (V_w_pieces_a1 : Arv Z h0 w_pieces_a1 kx_w_pieces_a1 (.array .byte) (1 : Int32) [(.ref bk)] .null) (O_w_pieces_a1 : OvrA Z kx_w_pieces_a1 .byte "[B") (V_bk : Arv Z h0 bk kx_bk .byte (64 : Int32) vs (.int (0 : Int32))) (F_pieces_a1 : Fld Z h0 a1 "com/example/outcomery/outcomery/PackedNumbers" "pieces" "[[B" (.ref w_pieces_a1)) (F_length_a1 : Fld Z h0 a1 "com/example/outcomery/outcomery/PackedNumbers" "length" "I" (.int w_length_a1)) (hp0 : ¬ p2 < 0) (hw0 : ¬ w_length_a1 < 0) (hw1 : w_length_a1 < 58) (hvl : vs.length = w_length_a1.toNatClampNeg) (g_bk : n0 ≤ bk) (ne_a1_bk : a1 ≠ bk) (E_a1 : Exa Z h0 a1 "com/example/outcomery/outcomery/PackedNumbers") (g_a1 : n0 ≤ a1) (ne_a1_w_pieces_a1 : a1 ≠ w_pieces_a1) (ne_bk_w_pieces_a1 : bk ≠ w_pieces_a1) :
    MetFree l (⟨"com/example/outcomery/outcomery/PackedNumbers", "add", "(I)V"⟩ : MethodName) (head1 (Jvm.Cond.code (⟨"com/example/outcomery/outcomery/PackedNumbers", "add", "(I)V"⟩ : MethodName) prog_23_method_2_code 3 none :: ws) ({ frames := 1, cells := 0, slots := 0, locals := 16 } : Room)) (fun a U => a = #[(.ref a1), (.int p2)] ∧ Z.Warmed39 U.vm ∧ U.heap = h0) (fun _ _ _ _ _ => True) (fun _ U o U' => ∃ v L, o = .returned v ∧ Q3n Z a1 p2 kx_w_pieces_a1 bk kx_bk vs w_pieces_a1 w_length_a1 h0 n0 v U'.heap L ∧ FrameEnd U o U' L ({ frames := 1, cells := 0, slots := 0, locals := 16 } : Room).cells ({ frames := 1, cells := 0, slots := 0, locals := 16 } : Room).slots) := by
  refine MetFree.of_bodySF (plainFor_of_name pn_3) hisR ?_
  intro p e s m args below meth c s₁ Bd hml0 hP hK
  obtain ⟨rfl, hZ, hh⟩ := hP
  have hx := Bd.exec
  have hby := Bd.bytes
  have hml : c.maxLocals = 3 := hml0
  have hown : s.vm.findClass "com/example/outcomery/outcomery/PackedNumbers" = some m.cls := findClass_of_methodNamed Bd.named
  have hnm := (name_of_methodNamed Bd.named Bd.method).1
  have X0 : Stand p l e ({ frames := 1, cells := 0, slots := 0, locals := 16 } : Room) s m #[(.ref a1), (.int p2)] below meth c s₁ [] 0 0 := Stand.of_body Bd
  have e0 : s₁.heap = h0 := by rw [← hh, Bd.state]; rfl
  have N0 := Fr.nil n0
  have K0 : Keep h0 h0 [a1, bk] := Keep.refl h0 _
  refine (show Gl p e below (fun o U' => ∃ v L, o = .returned v ∧ Q3n Z a1 p2 kx_w_pieces_a1 bk kx_bk vs w_pieces_a1 w_length_a1 h0 n0 v U'.heap L ∧ FrameEnd s o U' L ({ frames := 1, cells := 0, slots := 0, locals := 16 } : Room).cells ({ frames := 1, cells := 0, slots := 0, locals := 16 } : Room).slots) (s₁.setTop (entryFrame m #[(.ref a1), (.int p2)] 3)) from ?_)
  obtain ⟨L0, hL0⟩ : ∃ z : Array Slot, z = #[.val (.ref a1), .val (.int p2), .unset] := ⟨_, rfl⟩
  refine Gl.st (B := (s₁.setTop (mkF m 0 L0 []))) (fun t k => castTop (efAt hL0 (ef_3n m a1 p2)) k) ?_
  refine Gl.st (B := (s₁.setTop (mkF m 1 L0 [(.int p2)]))) (fun t k => XS.iloadN X0.here hx rfl (hb hby d3_0) (ldAt hL0 rfl) k) ?_
  obtain ⟨L1, hL1⟩ : ∃ z : Array Slot, z = #[.val (.ref a1), .val (.int p2), .val (.int p2)] := ⟨_, rfl⟩
  refine Gl.st (B := (s₁.setTop (mkF m 2 L1 []))) (fun t k => XS.istoreN X0.here hx rfl (hb hby d3_1) rfl (l' := L1) (stAt hL0 hL1 rfl rfl) k) ?_
  refine Gl.st (B := (s₁.setTop (mkF m 3 L1 [(.int p2)]))) (fun t k => XS.iloadN X0.here hx rfl (hb hby d3_2) (ldAt hL1 rfl) k) ?_
  refine Gl.st (B := (s₁.setTop (mkF m 6 L1 [(.int (128 : Int32)), (.int p2)]))) (fun t k => XS.sipush X0.here hx rfl (hb hby d3_3) k) ?_
  by_cases hc6_2 : p2 < (128 : Int32)
  · skip
    refine Gl.st (B := (s₁.setTop (mkF m 29 L1 []))) (fun t k => XS.icmpYes X0.here hx rfl (pc0 := 6) (pc' := 29) rfl (hb hby d3_6) rfl (tlt hc6_2).1 (by decide) (by decide) k) ?_
    refine Gl.st (B := (s₁.setTop (mkF m 30 L1 [(.ref a1)]))) (fun t k => XS.aloadN X0.here hx rfl (hb hby d3_29) (ldAt hL1 rfl) rfl k) ?_
    refine Gl.st (B := (s₁.setTop (mkF m 31 L1 [(.int p2), (.ref a1)]))) (fun t k => XS.iloadN X0.here hx rfl (hb hby d3_30) (ldAt hL1 rfl) k) ?_
    have hp31_4 : ¬ w_length_a1 < 0 := own_3n_hp31_4 w_length_a1 vs  hw0 hw1 hvl
    have hp31_5 : w_length_a1 < 63 := own_3n_hp31_5 w_length_a1 vs  hw0 hw1 hvl
    have hp31_6 : vs.length = w_length_a1.toNatClampNeg := by
      exact hvl
    obtain ⟨cq3, q3, q3'⟩ := E_a1.cell
    obtain ⟨_, _, ⟨T3, L3q, k3, n3⟩, -, X3, ⟨Lc3, hQ3, l3, y3, z3⟩, st3⟩ := X0.privateBack hx (y := (⟨"com/example/outcomery/outcomery/PackedNumbers", "put", "(I)V"⟩ : MethodName)) hown (mvT hZ (tw hw 19 rfl)) (mvT hZ (tw hw 20 rfl)) (own_selp (mvT hZ (tw hw 2 rfl)) (mvP hZ (tw hw 21 rfl)) (mvT hZ (tw hw 20 rfl)) (by decide)) (Cond.privateMethod_at (mvP hZ (tw hw 21 rfl) (args := #[]))) (mvT hZ (tw hw 22 rfl)) (by decide) (backOf (W := 0) (rm4n l Z a0 hw [] a1 p2 kx_w_pieces_a1 bk kx_bk vs w_pieces_a1 w_length_a1 h0 n0 Z0 V_w_pieces_a1 O_w_pieces_a1 V_bk F_pieces_a1 F_length_a1 hp31_4 hp31_5 hp31_6 g_bk ne_a1_bk E_a1 g_a1) hZ (tw hw 22 rfl) (tw hw 3 rfl) (by decide) (by decide)) (g := (mkF m 31 L1 [(.int p2), (.ref a1)])) rfl (szAt hml hL1 rfl) (Steps.refl _) (a := a1) (by rw [e0]; exact q3) q3' (argsL := [(.int p2)]) (rest := []) (lenOf pd_3n_0 rfl) rfl (by show 2 * 0 + _ ≤ _; exact Nat.le_of_eq rfl) (hb hby d3_31) (fun _ _ => ⟨rfl, e0, (by decide : 0 + 0 ≤ _), (by decide : 0 + 0 ≤ _)⟩)
    dsimp only [Pt.U, Pt.locs, Pt.cells, Pt.slots] at X3 l3 y3 z3 st3 hQ3
    subst l3 y3 z3
    obtain ⟨rfl, N3q, Kc3, fq3_0, fq3_1, fq3_2, fq3_3⟩ := hQ3
    have Zc7 : n0 ≤ T3.heap.size := Nat.le_trans Z0 Kc3.1
    have K8 : Keep h0 T3.heap [a1, bk] := K0.trans Kc3 (allS (Or.inl (List.mem_of_getElem? (i := 1) rfl)) (allS (Or.inl (List.mem_of_getElem? (i := 0) rfl)) all0))
    obtain ⟨vl31_9, hvl31_9⟩ : ∃ z : List Value, z = (vs ++ [(.int (nar .byte ((p2.toInt8.toInt32))))]) := ⟨_, rfl⟩
    rw [← hvl31_9] at fq3_0
    obtain ⟨f31_10, hf31_10⟩ : ∃ z : Int32, z = ((w_length_a1 + (1 : Int32))) := ⟨_, rfl⟩
    rw [← hf31_10] at fq3_2
    have N3 := Fr.app N0 N3q
    refine Gl.st (B := (T3.setTop (mkF m 34 L1 []))) (fun t k => st3.trans k) ?_
    obtain ⟨fs, hr, hrun, hended, hW, hsame⟩ := X3.leave (v := none) (fun _ => rfl)
    refine Gl.fin (X3.returnOut hx Bd.returns (hb hby d3_34) hr) hrun hended ⟨_, _, rfl, ?_, ⟨_, rfl⟩, hW, hsame.mono (by decide) (by decide)⟩
    show Q3n Z a1 p2 kx_w_pieces_a1 bk kx_bk vs w_pieces_a1 w_length_a1 h0 n0 _ T3.heap _
    exact ⟨rfl, N3, K8, fq3_1, (by subst hf31_10; rw [own_F_eq, if_pos hc6_2]; exact fq3_2), fq3_3, (by subst hvl31_9; rw [own_E_eq, if_pos hc6_2]; exact fq3_0)⟩
  · skip
    refine Gl.st (B := (s₁.setTop (mkF m 9 L1 []))) (fun t k => XS.icmpNo X0.here hx rfl (hb hby d3_6) rfl (flt hc6_2).1 k) ?_
    refine Gl.st (B := (s₁.setTop (mkF m 10 L1 [(.ref a1)]))) (fun t k => XS.aloadN X0.here hx rfl (hb hby d3_9) (ldAt hL1 rfl) rfl k) ?_
    refine Gl.st (B := (s₁.setTop (mkF m 11 L1 [(.int p2), (.ref a1)]))) (fun t k => XS.iloadN X0.here hx rfl (hb hby d3_10) (ldAt hL1 rfl) k) ?_
    refine Gl.st (B := (s₁.setTop (mkF m 13 L1 [(.int (127 : Int32)), (.int p2), (.ref a1)]))) (fun t k => XS.bipush X0.here hx rfl (hb hby d3_11) k) ?_
    refine Gl.st (B := (s₁.setTop (mkF m 14 L1 [(.int (p2 &&& (127 : Int32))), (.ref a1)]))) (fun t k => XS.iand X0.here hx rfl (hb hby d3_13) rfl k) ?_
    refine Gl.st (B := (s₁.setTop (mkF m 17 L1 [(.int (128 : Int32)), (.int (p2 &&& (127 : Int32))), (.ref a1)]))) (fun t k => XS.sipush X0.here hx rfl (hb hby d3_14) k) ?_
    refine Gl.st (B := (s₁.setTop (mkF m 18 L1 [(.int ((p2 &&& (127 : Int32)) ||| (128 : Int32))), (.ref a1)]))) (fun t k => XS.ior X0.here hx rfl (hb hby d3_17) rfl k) ?_
    obtain ⟨x18_11, hx18_11⟩ : ∃ z : Int32, z = ((p2 &&& (127 : Int32)) ||| (128 : Int32)) := ⟨_, rfl⟩
    refine Gl.cast (B := (s₁.setTop (mkF m 18 L1 [(.int x18_11), (.ref a1)]))) (by rw [hx18_11]) ?_
    have hp18_13 : ¬ w_length_a1 < 0 := own_3n_hp18_13 w_length_a1 vs  hw0 hw1 hvl
    have hp18_14 : w_length_a1 < 63 := own_3n_hp18_14 w_length_a1 vs  hw0 hw1 hvl
    have hp18_15 : vs.length = w_length_a1.toNatClampNeg := by
      exact hvl
    obtain ⟨cq12, q12, q12'⟩ := E_a1.cell
    obtain ⟨_, _, ⟨T12, L12q, k12, n12⟩, -, X12, ⟨Lc12, hQ12, l12, y12, z12⟩, st12⟩ := X0.privateBack hx (y := (⟨"com/example/outcomery/outcomery/PackedNumbers", "put", "(I)V"⟩ : MethodName)) hown (mvT hZ (tw hw 19 rfl)) (mvT hZ (tw hw 20 rfl)) (own_selp (mvT hZ (tw hw 2 rfl)) (mvP hZ (tw hw 21 rfl)) (mvT hZ (tw hw 20 rfl)) (by decide)) (Cond.privateMethod_at (mvP hZ (tw hw 21 rfl) (args := #[]))) (mvT hZ (tw hw 22 rfl)) (by decide) (backOf (W := 0) (rm4n l Z a0 hw [] a1 x18_11 kx_w_pieces_a1 bk kx_bk vs w_pieces_a1 w_length_a1 h0 n0 Z0 V_w_pieces_a1 O_w_pieces_a1 V_bk F_pieces_a1 F_length_a1 hp18_13 hp18_14 hp18_15 g_bk ne_a1_bk E_a1 g_a1) hZ (tw hw 22 rfl) (tw hw 3 rfl) (by decide) (by decide)) (g := (mkF m 18 L1 [(.int x18_11), (.ref a1)])) rfl (szAt hml hL1 rfl) (Steps.refl _) (a := a1) (by rw [e0]; exact q12) q12' (argsL := [(.int x18_11)]) (rest := []) (lenOf pd_3n_0 rfl) rfl (by show 2 * 0 + _ ≤ _; exact Nat.le_of_eq rfl) (hb hby d3_18) (fun _ _ => ⟨rfl, e0, (by decide : 0 + 0 ≤ _), (by decide : 0 + 0 ≤ _)⟩)
    dsimp only [Pt.U, Pt.locs, Pt.cells, Pt.slots] at X12 l12 y12 z12 st12 hQ12
    subst l12 y12 z12
    obtain ⟨rfl, N12q, Kc12, fq12_0, fq12_1, fq12_2, fq12_3⟩ := hQ12
    have Zc16 : n0 ≤ T12.heap.size := Nat.le_trans Z0 Kc12.1
    have K17 : Keep h0 T12.heap [a1, bk] := K0.trans Kc12 (allS (Or.inl (List.mem_of_getElem? (i := 1) rfl)) (allS (Or.inl (List.mem_of_getElem? (i := 0) rfl)) all0))
    obtain ⟨vl18_18, hvl18_18⟩ : ∃ z : List Value, z = (vs ++ [(.int (nar .byte ((x18_11.toInt8.toInt32))))]) := ⟨_, rfl⟩
    rw [← hvl18_18] at fq12_0
    obtain ⟨f18_19, hf18_19⟩ : ∃ z : Int32, z = ((w_length_a1 + (1 : Int32))) := ⟨_, rfl⟩
    rw [← hf18_19] at fq12_2
    have N12 := Fr.app N0 N12q
    refine Gl.st (B := (T12.setTop (mkF m 21 L1 []))) (fun t k => st12.trans k) ?_
    refine Gl.st (B := (T12.setTop (mkF m 22 L1 [(.int p2)]))) (fun t k => XS.iloadN X12.here hx rfl (hb hby d3_21) (ldAt hL1 rfl) k) ?_
    refine Gl.st (B := (T12.setTop (mkF m 24 L1 [(.int (7 : Int32)), (.int p2)]))) (fun t k => XS.bipush X12.here hx rfl (hb hby d3_22) k) ?_
    refine Gl.st (B := (T12.setTop (mkF m 25 L1 [(.int ((p2.toUInt32 >>> ((7 : Int32) &&& 31).toUInt32).toInt32))]))) (fun t k => XS.iushr X12.here hx rfl (hb hby d3_24) rfl k) ?_
    obtain ⟨y2_25_20, hy2_25_20⟩ : ∃ z : Int32, z = ((p2.toUInt32 >>> ((7 : Int32) &&& 31).toUInt32).toInt32) := ⟨_, rfl⟩
    refine Gl.cast (B := (T12.setTop (mkF m 25 L1 [(.int y2_25_20)]))) (by rw [hy2_25_20]) ?_
    obtain ⟨L21, hL21⟩ : ∃ z : Array Slot, z = #[.val (.ref a1), .val (.int p2), .val (.int y2_25_20)] := ⟨_, rfl⟩
    refine Gl.st (B := (T12.setTop (mkF m 26 L21 []))) (fun t k => XS.istoreN X12.here hx rfl (hb hby d3_25) rfl (l' := L21) (stAt hL1 hL21 rfl rfl) k) ?_
    refine Gl.st (B := (T12.setTop (mkF m 2 L21 []))) (fun t k => XS.goto X12.here hx rfl (pc0 := 26) (pc' := 2) rfl (hb hby d3_26) (by decide) (by decide) k) ?_
    refine Gl.st (B := (T12.setTop (mkF m 3 L21 [(.int y2_25_20)]))) (fun t k => XS.iloadN X12.here hx rfl (hb hby d3_2) (ldAt hL21 rfl) k) ?_
    refine Gl.st (B := (T12.setTop (mkF m 6 L21 [(.int (128 : Int32)), (.int y2_25_20)]))) (fun t k => XS.sipush X12.here hx rfl (hb hby d3_3) k) ?_
    by_cases hc6_22 : y2_25_20 < (128 : Int32)
    · skip
      refine Gl.st (B := (T12.setTop (mkF m 29 L21 []))) (fun t k => XS.icmpYes X12.here hx rfl (pc0 := 6) (pc' := 29) rfl (hb hby d3_6) rfl (tlt hc6_22).1 (by decide) (by decide) k) ?_
      refine Gl.st (B := (T12.setTop (mkF m 30 L21 [(.ref a1)]))) (fun t k => XS.aloadN X12.here hx rfl (hb hby d3_29) (ldAt hL21 rfl) rfl k) ?_
      refine Gl.st (B := (T12.setTop (mkF m 31 L21 [(.int y2_25_20), (.ref a1)]))) (fun t k => XS.iloadN X12.here hx rfl (hb hby d3_30) (ldAt hL21 rfl) k) ?_
      have c24 := (V_w_pieces_a1.keep Kc12 (ninS (Ne.symm ne_bk_w_pieces_a1) (ninS (Ne.symm ne_a1_w_pieces_a1) nin0)))
      have hp31_25 : ¬ f18_19 < 0 := own_3n_hp31_25 w_length_a1 f18_19 vs hf18_19 hw0 hw1 hvl
      have hp31_26 : f18_19 < 63 := own_3n_hp31_26 w_length_a1 f18_19 vs hf18_19 hw0 hw1 hvl
      have hp31_27 : vl18_18.length = f18_19.toNatClampNeg := own_3n_hp31_27 vs p2 x18_11 vl18_18 w_length_a1 f18_19 hx18_11 hvl18_18 hf18_19 hc6_2 hp0 hw0 hw1 hvl
      obtain ⟨cq23, q23, q23'⟩ := fq12_1.cell
      obtain ⟨_, _, ⟨T23, L23q, k23, n23⟩, -, X23, ⟨Lc23, hQ23, l23, y23, z23⟩, st23⟩ := X12.privateBack hx (y := (⟨"com/example/outcomery/outcomery/PackedNumbers", "put", "(I)V"⟩ : MethodName)) hown (mvT hZ (tw hw 19 rfl)) (mvT hZ (tw hw 20 rfl)) (own_selp (mvT hZ (tw hw 2 rfl)) (mvP hZ (tw hw 21 rfl)) (mvT hZ (tw hw 20 rfl)) (by decide)) (Cond.privateMethod_at (mvP hZ (tw hw 21 rfl) (args := #[]))) (mvT hZ (tw hw 22 rfl)) (by decide) (backOf (W := 0) (rm4n l Z a0 hw [] a1 y2_25_20 kx_w_pieces_a1 bk kx_bk vl18_18 w_pieces_a1 f18_19 T12.heap n0 Zc16 c24 O_w_pieces_a1 fq12_0 fq12_3 fq12_2 hp31_25 hp31_26 hp31_27 g_bk ne_a1_bk fq12_1 g_a1) hZ (tw hw 22 rfl) (tw hw 3 rfl) (by decide) (by decide)) (g := (mkF m 31 L21 [(.int y2_25_20), (.ref a1)])) rfl (szAt hml hL21 rfl) (Steps.refl _) (a := a1) q23 q23' (argsL := [(.int y2_25_20)]) (rest := []) (lenOf pd_3n_0 rfl) rfl (by show 2 * 0 + _ ≤ _; exact Nat.le_of_eq rfl) (hb hby d3_31) (fun _ _ => ⟨rfl, rfl, (by decide : 0 + 0 ≤ _), (by decide : 0 + 0 ≤ _)⟩)
      dsimp only [Pt.U, Pt.locs, Pt.cells, Pt.slots] at X23 l23 y23 z23 st23 hQ23
      subst l23 y23 z23
      obtain ⟨rfl, N23q, Kc23, fq23_0, fq23_1, fq23_2, fq23_3⟩ := hQ23
      have Zc28 : n0 ≤ T23.heap.size := Nat.le_trans Zc16 Kc23.1
      have K29 : Keep h0 T23.heap [a1, bk] := K17.trans Kc23 (allS (Or.inl (List.mem_of_getElem? (i := 1) rfl)) (allS (Or.inl (List.mem_of_getElem? (i := 0) rfl)) all0))
      obtain ⟨vl31_30, hvl31_30⟩ : ∃ z : List Value, z = (vl18_18 ++ [(.int (nar .byte ((y2_25_20.toInt8.toInt32))))]) := ⟨_, rfl⟩
      rw [← hvl31_30] at fq23_0
      obtain ⟨f31_31, hf31_31⟩ : ∃ z : Int32, z = ((f18_19 + (1 : Int32))) := ⟨_, rfl⟩
      rw [← hf31_31] at fq23_2
      have N23 := Fr.app N12 N23q
      refine Gl.st (B := (T23.setTop (mkF m 34 L21 []))) (fun t k => st23.trans k) ?_
      obtain ⟨fs, hr, hrun, hended, hW, hsame⟩ := X23.leave (v := none) (fun _ => rfl)
      refine Gl.fin (X23.returnOut hx Bd.returns (hb hby d3_34) hr) hrun hended ⟨_, _, rfl, ?_, ⟨_, rfl⟩, hW, hsame.mono (by decide) (by decide)⟩
      show Q3n Z a1 p2 kx_w_pieces_a1 bk kx_bk vs w_pieces_a1 w_length_a1 h0 n0 _ T23.heap _
      exact ⟨rfl, N23, K29, fq23_1, (by subst hf31_31; subst hf18_19; subst hy2_25_20; rw [own_F_eq, if_neg hc6_2, if_pos hc6_22]; exact fq23_2), fq23_3, (by subst hvl31_30; subst hvl18_18; subst hx18_11; subst hy2_25_20; rw [own_E_eq, if_neg hc6_2, if_pos hc6_22]; exact fq23_0)⟩
    · skip
      refine Gl.st (B := (T12.setTop (mkF m 9 L21 []))) (fun t k => XS.icmpNo X12.here hx rfl (hb hby d3_6) rfl (flt hc6_22).1 k) ?_
      refine Gl.st (B := (T12.setTop (mkF m 10 L21 [(.ref a1)]))) (fun t k => XS.aloadN X12.here hx rfl (hb hby d3_9) (ldAt hL21 rfl) rfl k) ?_
      refine Gl.st (B := (T12.setTop (mkF m 11 L21 [(.int y2_25_20), (.ref a1)]))) (fun t k => XS.iloadN X12.here hx rfl (hb hby d3_10) (ldAt hL21 rfl) k) ?_
      refine Gl.st (B := (T12.setTop (mkF m 13 L21 [(.int (127 : Int32)), (.int y2_25_20), (.ref a1)]))) (fun t k => XS.bipush X12.here hx rfl (hb hby d3_11) k) ?_
      refine Gl.st (B := (T12.setTop (mkF m 14 L21 [(.int (y2_25_20 &&& (127 : Int32))), (.ref a1)]))) (fun t k => XS.iand X12.here hx rfl (hb hby d3_13) rfl k) ?_
      refine Gl.st (B := (T12.setTop (mkF m 17 L21 [(.int (128 : Int32)), (.int (y2_25_20 &&& (127 : Int32))), (.ref a1)]))) (fun t k => XS.sipush X12.here hx rfl (hb hby d3_14) k) ?_
      refine Gl.st (B := (T12.setTop (mkF m 18 L21 [(.int ((y2_25_20 &&& (127 : Int32)) ||| (128 : Int32))), (.ref a1)]))) (fun t k => XS.ior X12.here hx rfl (hb hby d3_17) rfl k) ?_
      obtain ⟨x18_32, hx18_32⟩ : ∃ z : Int32, z = ((y2_25_20 &&& (127 : Int32)) ||| (128 : Int32)) := ⟨_, rfl⟩
      refine Gl.cast (B := (T12.setTop (mkF m 18 L21 [(.int x18_32), (.ref a1)]))) (by rw [hx18_32]) ?_
      have c34 := (V_w_pieces_a1.keep Kc12 (ninS (Ne.symm ne_bk_w_pieces_a1) (ninS (Ne.symm ne_a1_w_pieces_a1) nin0)))
      have hp18_35 : ¬ f18_19 < 0 := own_3n_hp18_35 w_length_a1 f18_19 vs hf18_19 hw0 hw1 hvl
      have hp18_36 : f18_19 < 63 := own_3n_hp18_36 w_length_a1 f18_19 vs hf18_19 hw0 hw1 hvl
      have hp18_37 : vl18_18.length = f18_19.toNatClampNeg := own_3n_hp18_37 vs p2 x18_11 vl18_18 w_length_a1 f18_19 hx18_11 hvl18_18 hf18_19 hc6_2 hp0 hw0 hw1 hvl
      obtain ⟨cq33, q33, q33'⟩ := fq12_1.cell
      obtain ⟨_, _, ⟨T33, L33q, k33, n33⟩, -, X33, ⟨Lc33, hQ33, l33, y33, z33⟩, st33⟩ := X12.privateBack hx (y := (⟨"com/example/outcomery/outcomery/PackedNumbers", "put", "(I)V"⟩ : MethodName)) hown (mvT hZ (tw hw 19 rfl)) (mvT hZ (tw hw 20 rfl)) (own_selp (mvT hZ (tw hw 2 rfl)) (mvP hZ (tw hw 21 rfl)) (mvT hZ (tw hw 20 rfl)) (by decide)) (Cond.privateMethod_at (mvP hZ (tw hw 21 rfl) (args := #[]))) (mvT hZ (tw hw 22 rfl)) (by decide) (backOf (W := 0) (rm4n l Z a0 hw [] a1 x18_32 kx_w_pieces_a1 bk kx_bk vl18_18 w_pieces_a1 f18_19 T12.heap n0 Zc16 c34 O_w_pieces_a1 fq12_0 fq12_3 fq12_2 hp18_35 hp18_36 hp18_37 g_bk ne_a1_bk fq12_1 g_a1) hZ (tw hw 22 rfl) (tw hw 3 rfl) (by decide) (by decide)) (g := (mkF m 18 L21 [(.int x18_32), (.ref a1)])) rfl (szAt hml hL21 rfl) (Steps.refl _) (a := a1) q33 q33' (argsL := [(.int x18_32)]) (rest := []) (lenOf pd_3n_0 rfl) rfl (by show 2 * 0 + _ ≤ _; exact Nat.le_of_eq rfl) (hb hby d3_18) (fun _ _ => ⟨rfl, rfl, (by decide : 0 + 0 ≤ _), (by decide : 0 + 0 ≤ _)⟩)
      dsimp only [Pt.U, Pt.locs, Pt.cells, Pt.slots] at X33 l33 y33 z33 st33 hQ33
      subst l33 y33 z33
      obtain ⟨rfl, N33q, Kc33, fq33_0, fq33_1, fq33_2, fq33_3⟩ := hQ33
      have Zc38 : n0 ≤ T33.heap.size := Nat.le_trans Zc16 Kc33.1
      have K39 : Keep h0 T33.heap [a1, bk] := K17.trans Kc33 (allS (Or.inl (List.mem_of_getElem? (i := 1) rfl)) (allS (Or.inl (List.mem_of_getElem? (i := 0) rfl)) all0))
      obtain ⟨vl18_40, hvl18_40⟩ : ∃ z : List Value, z = (vl18_18 ++ [(.int (nar .byte ((x18_32.toInt8.toInt32))))]) := ⟨_, rfl⟩
      rw [← hvl18_40] at fq33_0
      obtain ⟨f18_41, hf18_41⟩ : ∃ z : Int32, z = ((f18_19 + (1 : Int32))) := ⟨_, rfl⟩
      rw [← hf18_41] at fq33_2
      have N33 := Fr.app N12 N33q
      refine Gl.st (B := (T33.setTop (mkF m 21 L21 []))) (fun t k => st33.trans k) ?_
      refine Gl.st (B := (T33.setTop (mkF m 22 L21 [(.int y2_25_20)]))) (fun t k => XS.iloadN X33.here hx rfl (hb hby d3_21) (ldAt hL21 rfl) k) ?_
      refine Gl.st (B := (T33.setTop (mkF m 24 L21 [(.int (7 : Int32)), (.int y2_25_20)]))) (fun t k => XS.bipush X33.here hx rfl (hb hby d3_22) k) ?_
      refine Gl.st (B := (T33.setTop (mkF m 25 L21 [(.int ((y2_25_20.toUInt32 >>> ((7 : Int32) &&& 31).toUInt32).toInt32))]))) (fun t k => XS.iushr X33.here hx rfl (hb hby d3_24) rfl k) ?_
      obtain ⟨y2_25_42, hy2_25_42⟩ : ∃ z : Int32, z = ((y2_25_20.toUInt32 >>> ((7 : Int32) &&& 31).toUInt32).toInt32) := ⟨_, rfl⟩
      refine Gl.cast (B := (T33.setTop (mkF m 25 L21 [(.int y2_25_42)]))) (by rw [hy2_25_42]) ?_
      obtain ⟨L43, hL43⟩ : ∃ z : Array Slot, z = #[.val (.ref a1), .val (.int p2), .val (.int y2_25_42)] := ⟨_, rfl⟩
      refine Gl.st (B := (T33.setTop (mkF m 26 L43 []))) (fun t k => XS.istoreN X33.here hx rfl (hb hby d3_25) rfl (l' := L43) (stAt hL21 hL43 rfl rfl) k) ?_
      refine Gl.st (B := (T33.setTop (mkF m 2 L43 []))) (fun t k => XS.goto X33.here hx rfl (pc0 := 26) (pc' := 2) rfl (hb hby d3_26) (by decide) (by decide) k) ?_
      refine Gl.st (B := (T33.setTop (mkF m 3 L43 [(.int y2_25_42)]))) (fun t k => XS.iloadN X33.here hx rfl (hb hby d3_2) (ldAt hL43 rfl) k) ?_
      refine Gl.st (B := (T33.setTop (mkF m 6 L43 [(.int (128 : Int32)), (.int y2_25_42)]))) (fun t k => XS.sipush X33.here hx rfl (hb hby d3_3) k) ?_
      by_cases hc6_44 : y2_25_42 < (128 : Int32)
      · skip
        refine Gl.st (B := (T33.setTop (mkF m 29 L43 []))) (fun t k => XS.icmpYes X33.here hx rfl (pc0 := 6) (pc' := 29) rfl (hb hby d3_6) rfl (tlt hc6_44).1 (by decide) (by decide) k) ?_
        refine Gl.st (B := (T33.setTop (mkF m 30 L43 [(.ref a1)]))) (fun t k => XS.aloadN X33.here hx rfl (hb hby d3_29) (ldAt hL43 rfl) rfl k) ?_
        refine Gl.st (B := (T33.setTop (mkF m 31 L43 [(.int y2_25_42), (.ref a1)]))) (fun t k => XS.iloadN X33.here hx rfl (hb hby d3_30) (ldAt hL43 rfl) k) ?_
        have c46 := (c34.keep Kc33 (ninS (Ne.symm ne_bk_w_pieces_a1) (ninS (Ne.symm ne_a1_w_pieces_a1) nin0)))
        have hp31_47 : ¬ f18_41 < 0 := own_3n_hp31_47 w_length_a1 f18_19 f18_41 vs hf18_19 hf18_41 hw0 hw1 hvl
        have hp31_48 : f18_41 < 63 := own_3n_hp31_48 w_length_a1 f18_19 f18_41 vs hf18_19 hf18_41 hw0 hw1 hvl
        have hp31_49 : vl18_40.length = f18_41.toNatClampNeg := own_3n_hp31_49 vs p2 x18_11 vl18_18 y2_25_20 x18_32 vl18_40 w_length_a1 f18_19 f18_41 hx18_11 hvl18_18 hy2_25_20 hx18_32 hvl18_40 hf18_19 hf18_41 hc6_2 hc6_22 hp0 hw0 hw1 hvl
        obtain ⟨cq45, q45, q45'⟩ := fq33_1.cell
        obtain ⟨_, _, ⟨T45, L45q, k45, n45⟩, -, X45, ⟨Lc45, hQ45, l45, y45, z45⟩, st45⟩ := X33.privateBack hx (y := (⟨"com/example/outcomery/outcomery/PackedNumbers", "put", "(I)V"⟩ : MethodName)) hown (mvT hZ (tw hw 19 rfl)) (mvT hZ (tw hw 20 rfl)) (own_selp (mvT hZ (tw hw 2 rfl)) (mvP hZ (tw hw 21 rfl)) (mvT hZ (tw hw 20 rfl)) (by decide)) (Cond.privateMethod_at (mvP hZ (tw hw 21 rfl) (args := #[]))) (mvT hZ (tw hw 22 rfl)) (by decide) (backOf (W := 0) (rm4n l Z a0 hw [] a1 y2_25_42 kx_w_pieces_a1 bk kx_bk vl18_40 w_pieces_a1 f18_41 T33.heap n0 Zc38 c46 O_w_pieces_a1 fq33_0 fq33_3 fq33_2 hp31_47 hp31_48 hp31_49 g_bk ne_a1_bk fq33_1 g_a1) hZ (tw hw 22 rfl) (tw hw 3 rfl) (by decide) (by decide)) (g := (mkF m 31 L43 [(.int y2_25_42), (.ref a1)])) rfl (szAt hml hL43 rfl) (Steps.refl _) (a := a1) q45 q45' (argsL := [(.int y2_25_42)]) (rest := []) (lenOf pd_3n_0 rfl) rfl (by show 2 * 0 + _ ≤ _; exact Nat.le_of_eq rfl) (hb hby d3_31) (fun _ _ => ⟨rfl, rfl, (by decide : 0 + 0 ≤ _), (by decide : 0 + 0 ≤ _)⟩)
        dsimp only [Pt.U, Pt.locs, Pt.cells, Pt.slots] at X45 l45 y45 z45 st45 hQ45
        subst l45 y45 z45
        obtain ⟨rfl, N45q, Kc45, fq45_0, fq45_1, fq45_2, fq45_3⟩ := hQ45
        have Zc50 : n0 ≤ T45.heap.size := Nat.le_trans Zc38 Kc45.1
        have K51 : Keep h0 T45.heap [a1, bk] := K39.trans Kc45 (allS (Or.inl (List.mem_of_getElem? (i := 1) rfl)) (allS (Or.inl (List.mem_of_getElem? (i := 0) rfl)) all0))
        obtain ⟨vl31_52, hvl31_52⟩ : ∃ z : List Value, z = (vl18_40 ++ [(.int (nar .byte ((y2_25_42.toInt8.toInt32))))]) := ⟨_, rfl⟩
        rw [← hvl31_52] at fq45_0
        obtain ⟨f31_53, hf31_53⟩ : ∃ z : Int32, z = ((f18_41 + (1 : Int32))) := ⟨_, rfl⟩
        rw [← hf31_53] at fq45_2
        have N45 := Fr.app N33 N45q
        refine Gl.st (B := (T45.setTop (mkF m 34 L43 []))) (fun t k => st45.trans k) ?_
        obtain ⟨fs, hr, hrun, hended, hW, hsame⟩ := X45.leave (v := none) (fun _ => rfl)
        refine Gl.fin (X45.returnOut hx Bd.returns (hb hby d3_34) hr) hrun hended ⟨_, _, rfl, ?_, ⟨_, rfl⟩, hW, hsame.mono (by decide) (by decide)⟩
        show Q3n Z a1 p2 kx_w_pieces_a1 bk kx_bk vs w_pieces_a1 w_length_a1 h0 n0 _ T45.heap _
        exact ⟨rfl, N45, K51, fq45_1, (by subst hf31_53; subst hf18_41; subst hf18_19; subst hy2_25_20; subst hy2_25_42; rw [own_F_eq, if_neg hc6_2, if_neg hc6_22, if_pos hc6_44]; exact fq45_2), fq45_3, (by subst hvl31_52; subst hvl18_40; subst hvl18_18; subst hx18_11; subst hx18_32; subst hy2_25_20; subst hy2_25_42; rw [own_E_eq, if_neg hc6_2, if_neg hc6_22, if_pos hc6_44]; exact fq45_0)⟩
      · skip
        refine Gl.st (B := (T33.setTop (mkF m 9 L43 []))) (fun t k => XS.icmpNo X33.here hx rfl (hb hby d3_6) rfl (flt hc6_44).1 k) ?_
        refine Gl.st (B := (T33.setTop (mkF m 10 L43 [(.ref a1)]))) (fun t k => XS.aloadN X33.here hx rfl (hb hby d3_9) (ldAt hL43 rfl) rfl k) ?_
        refine Gl.st (B := (T33.setTop (mkF m 11 L43 [(.int y2_25_42), (.ref a1)]))) (fun t k => XS.iloadN X33.here hx rfl (hb hby d3_10) (ldAt hL43 rfl) k) ?_
        refine Gl.st (B := (T33.setTop (mkF m 13 L43 [(.int (127 : Int32)), (.int y2_25_42), (.ref a1)]))) (fun t k => XS.bipush X33.here hx rfl (hb hby d3_11) k) ?_
        refine Gl.st (B := (T33.setTop (mkF m 14 L43 [(.int (y2_25_42 &&& (127 : Int32))), (.ref a1)]))) (fun t k => XS.iand X33.here hx rfl (hb hby d3_13) rfl k) ?_
        refine Gl.st (B := (T33.setTop (mkF m 17 L43 [(.int (128 : Int32)), (.int (y2_25_42 &&& (127 : Int32))), (.ref a1)]))) (fun t k => XS.sipush X33.here hx rfl (hb hby d3_14) k) ?_
        refine Gl.st (B := (T33.setTop (mkF m 18 L43 [(.int ((y2_25_42 &&& (127 : Int32)) ||| (128 : Int32))), (.ref a1)]))) (fun t k => XS.ior X33.here hx rfl (hb hby d3_17) rfl k) ?_
        obtain ⟨x18_54, hx18_54⟩ : ∃ z : Int32, z = ((y2_25_42 &&& (127 : Int32)) ||| (128 : Int32)) := ⟨_, rfl⟩
        refine Gl.cast (B := (T33.setTop (mkF m 18 L43 [(.int x18_54), (.ref a1)]))) (by rw [hx18_54]) ?_
        have c56 := (c34.keep Kc33 (ninS (Ne.symm ne_bk_w_pieces_a1) (ninS (Ne.symm ne_a1_w_pieces_a1) nin0)))
        have hp18_57 : ¬ f18_41 < 0 := own_3n_hp18_57 w_length_a1 f18_19 f18_41 vs hf18_19 hf18_41 hw0 hw1 hvl
        have hp18_58 : f18_41 < 63 := own_3n_hp18_58 w_length_a1 f18_19 f18_41 vs hf18_19 hf18_41 hw0 hw1 hvl
        have hp18_59 : vl18_40.length = f18_41.toNatClampNeg := own_3n_hp18_59 vs p2 x18_11 vl18_18 y2_25_20 x18_32 vl18_40 w_length_a1 f18_19 f18_41 hx18_11 hvl18_18 hy2_25_20 hx18_32 hvl18_40 hf18_19 hf18_41 hc6_2 hc6_22 hp0 hw0 hw1 hvl
        obtain ⟨cq55, q55, q55'⟩ := fq33_1.cell
        obtain ⟨_, _, ⟨T55, L55q, k55, n55⟩, -, X55, ⟨Lc55, hQ55, l55, y55, z55⟩, st55⟩ := X33.privateBack hx (y := (⟨"com/example/outcomery/outcomery/PackedNumbers", "put", "(I)V"⟩ : MethodName)) hown (mvT hZ (tw hw 19 rfl)) (mvT hZ (tw hw 20 rfl)) (own_selp (mvT hZ (tw hw 2 rfl)) (mvP hZ (tw hw 21 rfl)) (mvT hZ (tw hw 20 rfl)) (by decide)) (Cond.privateMethod_at (mvP hZ (tw hw 21 rfl) (args := #[]))) (mvT hZ (tw hw 22 rfl)) (by decide) (backOf (W := 0) (rm4n l Z a0 hw [] a1 x18_54 kx_w_pieces_a1 bk kx_bk vl18_40 w_pieces_a1 f18_41 T33.heap n0 Zc38 c56 O_w_pieces_a1 fq33_0 fq33_3 fq33_2 hp18_57 hp18_58 hp18_59 g_bk ne_a1_bk fq33_1 g_a1) hZ (tw hw 22 rfl) (tw hw 3 rfl) (by decide) (by decide)) (g := (mkF m 18 L43 [(.int x18_54), (.ref a1)])) rfl (szAt hml hL43 rfl) (Steps.refl _) (a := a1) q55 q55' (argsL := [(.int x18_54)]) (rest := []) (lenOf pd_3n_0 rfl) rfl (by show 2 * 0 + _ ≤ _; exact Nat.le_of_eq rfl) (hb hby d3_18) (fun _ _ => ⟨rfl, rfl, (by decide : 0 + 0 ≤ _), (by decide : 0 + 0 ≤ _)⟩)
        dsimp only [Pt.U, Pt.locs, Pt.cells, Pt.slots] at X55 l55 y55 z55 st55 hQ55
        subst l55 y55 z55
        obtain ⟨rfl, N55q, Kc55, fq55_0, fq55_1, fq55_2, fq55_3⟩ := hQ55
        have Zc60 : n0 ≤ T55.heap.size := Nat.le_trans Zc38 Kc55.1
        have K61 : Keep h0 T55.heap [a1, bk] := K39.trans Kc55 (allS (Or.inl (List.mem_of_getElem? (i := 1) rfl)) (allS (Or.inl (List.mem_of_getElem? (i := 0) rfl)) all0))
        obtain ⟨vl18_62, hvl18_62⟩ : ∃ z : List Value, z = (vl18_40 ++ [(.int (nar .byte ((x18_54.toInt8.toInt32))))]) := ⟨_, rfl⟩
        rw [← hvl18_62] at fq55_0
        obtain ⟨f18_63, hf18_63⟩ : ∃ z : Int32, z = ((f18_41 + (1 : Int32))) := ⟨_, rfl⟩
        rw [← hf18_63] at fq55_2
        have N55 := Fr.app N33 N55q
        refine Gl.st (B := (T55.setTop (mkF m 21 L43 []))) (fun t k => st55.trans k) ?_
        refine Gl.st (B := (T55.setTop (mkF m 22 L43 [(.int y2_25_42)]))) (fun t k => XS.iloadN X55.here hx rfl (hb hby d3_21) (ldAt hL43 rfl) k) ?_
        refine Gl.st (B := (T55.setTop (mkF m 24 L43 [(.int (7 : Int32)), (.int y2_25_42)]))) (fun t k => XS.bipush X55.here hx rfl (hb hby d3_22) k) ?_
        refine Gl.st (B := (T55.setTop (mkF m 25 L43 [(.int ((y2_25_42.toUInt32 >>> ((7 : Int32) &&& 31).toUInt32).toInt32))]))) (fun t k => XS.iushr X55.here hx rfl (hb hby d3_24) rfl k) ?_
        obtain ⟨y2_25_64, hy2_25_64⟩ : ∃ z : Int32, z = ((y2_25_42.toUInt32 >>> ((7 : Int32) &&& 31).toUInt32).toInt32) := ⟨_, rfl⟩
        refine Gl.cast (B := (T55.setTop (mkF m 25 L43 [(.int y2_25_64)]))) (by rw [hy2_25_64]) ?_
        obtain ⟨L65, hL65⟩ : ∃ z : Array Slot, z = #[.val (.ref a1), .val (.int p2), .val (.int y2_25_64)] := ⟨_, rfl⟩
        refine Gl.st (B := (T55.setTop (mkF m 26 L65 []))) (fun t k => XS.istoreN X55.here hx rfl (hb hby d3_25) rfl (l' := L65) (stAt hL43 hL65 rfl rfl) k) ?_
        refine Gl.st (B := (T55.setTop (mkF m 2 L65 []))) (fun t k => XS.goto X55.here hx rfl (pc0 := 26) (pc' := 2) rfl (hb hby d3_26) (by decide) (by decide) k) ?_
        refine Gl.st (B := (T55.setTop (mkF m 3 L65 [(.int y2_25_64)]))) (fun t k => XS.iloadN X55.here hx rfl (hb hby d3_2) (ldAt hL65 rfl) k) ?_
        refine Gl.st (B := (T55.setTop (mkF m 6 L65 [(.int (128 : Int32)), (.int y2_25_64)]))) (fun t k => XS.sipush X55.here hx rfl (hb hby d3_3) k) ?_
        by_cases hc6_66 : y2_25_64 < (128 : Int32)
        · skip
          refine Gl.st (B := (T55.setTop (mkF m 29 L65 []))) (fun t k => XS.icmpYes X55.here hx rfl (pc0 := 6) (pc' := 29) rfl (hb hby d3_6) rfl (tlt hc6_66).1 (by decide) (by decide) k) ?_
          refine Gl.st (B := (T55.setTop (mkF m 30 L65 [(.ref a1)]))) (fun t k => XS.aloadN X55.here hx rfl (hb hby d3_29) (ldAt hL65 rfl) rfl k) ?_
          refine Gl.st (B := (T55.setTop (mkF m 31 L65 [(.int y2_25_64), (.ref a1)]))) (fun t k => XS.iloadN X55.here hx rfl (hb hby d3_30) (ldAt hL65 rfl) k) ?_
          have c68 := (c56.keep Kc55 (ninS (Ne.symm ne_bk_w_pieces_a1) (ninS (Ne.symm ne_a1_w_pieces_a1) nin0)))
          have hp31_69 : ¬ f18_63 < 0 := own_3n_hp31_69 w_length_a1 f18_19 f18_41 f18_63 vs hf18_19 hf18_41 hf18_63 hw0 hw1 hvl
          have hp31_70 : f18_63 < 63 := own_3n_hp31_70 w_length_a1 f18_19 f18_41 f18_63 vs hf18_19 hf18_41 hf18_63 hw0 hw1 hvl
          have hp31_71 : vl18_62.length = f18_63.toNatClampNeg := own_3n_hp31_71 vs p2 x18_11 vl18_18 y2_25_20 x18_32 vl18_40 y2_25_42 x18_54 vl18_62 w_length_a1 f18_19 f18_41 f18_63 hx18_11 hvl18_18 hy2_25_20 hx18_32 hvl18_40 hy2_25_42 hx18_54 hvl18_62 hf18_19 hf18_41 hf18_63 hc6_2 hc6_22 hc6_44 hp0 hw0 hw1 hvl
          obtain ⟨cq67, q67, q67'⟩ := fq55_1.cell
          obtain ⟨_, _, ⟨T67, L67q, k67, n67⟩, -, X67, ⟨Lc67, hQ67, l67, y67, z67⟩, st67⟩ := X55.privateBack hx (y := (⟨"com/example/outcomery/outcomery/PackedNumbers", "put", "(I)V"⟩ : MethodName)) hown (mvT hZ (tw hw 19 rfl)) (mvT hZ (tw hw 20 rfl)) (own_selp (mvT hZ (tw hw 2 rfl)) (mvP hZ (tw hw 21 rfl)) (mvT hZ (tw hw 20 rfl)) (by decide)) (Cond.privateMethod_at (mvP hZ (tw hw 21 rfl) (args := #[]))) (mvT hZ (tw hw 22 rfl)) (by decide) (backOf (W := 0) (rm4n l Z a0 hw [] a1 y2_25_64 kx_w_pieces_a1 bk kx_bk vl18_62 w_pieces_a1 f18_63 T55.heap n0 Zc60 c68 O_w_pieces_a1 fq55_0 fq55_3 fq55_2 hp31_69 hp31_70 hp31_71 g_bk ne_a1_bk fq55_1 g_a1) hZ (tw hw 22 rfl) (tw hw 3 rfl) (by decide) (by decide)) (g := (mkF m 31 L65 [(.int y2_25_64), (.ref a1)])) rfl (szAt hml hL65 rfl) (Steps.refl _) (a := a1) q67 q67' (argsL := [(.int y2_25_64)]) (rest := []) (lenOf pd_3n_0 rfl) rfl (by show 2 * 0 + _ ≤ _; exact Nat.le_of_eq rfl) (hb hby d3_31) (fun _ _ => ⟨rfl, rfl, (by decide : 0 + 0 ≤ _), (by decide : 0 + 0 ≤ _)⟩)
          dsimp only [Pt.U, Pt.locs, Pt.cells, Pt.slots] at X67 l67 y67 z67 st67 hQ67
          subst l67 y67 z67
          obtain ⟨rfl, N67q, Kc67, fq67_0, fq67_1, fq67_2, fq67_3⟩ := hQ67
          have Zc72 : n0 ≤ T67.heap.size := Nat.le_trans Zc60 Kc67.1
          have K73 : Keep h0 T67.heap [a1, bk] := K61.trans Kc67 (allS (Or.inl (List.mem_of_getElem? (i := 1) rfl)) (allS (Or.inl (List.mem_of_getElem? (i := 0) rfl)) all0))
          obtain ⟨vl31_74, hvl31_74⟩ : ∃ z : List Value, z = (vl18_62 ++ [(.int (nar .byte ((y2_25_64.toInt8.toInt32))))]) := ⟨_, rfl⟩
          rw [← hvl31_74] at fq67_0
          obtain ⟨f31_75, hf31_75⟩ : ∃ z : Int32, z = ((f18_63 + (1 : Int32))) := ⟨_, rfl⟩
          rw [← hf31_75] at fq67_2
          have N67 := Fr.app N55 N67q
          refine Gl.st (B := (T67.setTop (mkF m 34 L65 []))) (fun t k => st67.trans k) ?_
          obtain ⟨fs, hr, hrun, hended, hW, hsame⟩ := X67.leave (v := none) (fun _ => rfl)
          refine Gl.fin (X67.returnOut hx Bd.returns (hb hby d3_34) hr) hrun hended ⟨_, _, rfl, ?_, ⟨_, rfl⟩, hW, hsame.mono (by decide) (by decide)⟩
          show Q3n Z a1 p2 kx_w_pieces_a1 bk kx_bk vs w_pieces_a1 w_length_a1 h0 n0 _ T67.heap _
          exact ⟨rfl, N67, K73, fq67_1, (by subst hf31_75; subst hf18_63; subst hf18_41; subst hf18_19; subst hy2_25_20; subst hy2_25_42; subst hy2_25_64; rw [own_F_eq, if_neg hc6_2, if_neg hc6_22, if_neg hc6_44, if_pos hc6_66]; exact fq67_2), fq67_3, (by subst hvl31_74; subst hvl18_62; subst hvl18_40; subst hvl18_18; subst hx18_11; subst hx18_32; subst hy2_25_20; subst hx18_54; subst hy2_25_42; subst hy2_25_64; rw [own_E_eq, if_neg hc6_2, if_neg hc6_22, if_neg hc6_44, if_pos hc6_66]; exact fq67_0)⟩
        · skip
          refine Gl.st (B := (T55.setTop (mkF m 9 L65 []))) (fun t k => XS.icmpNo X55.here hx rfl (hb hby d3_6) rfl (flt hc6_66).1 k) ?_
          refine Gl.st (B := (T55.setTop (mkF m 10 L65 [(.ref a1)]))) (fun t k => XS.aloadN X55.here hx rfl (hb hby d3_9) (ldAt hL65 rfl) rfl k) ?_
          refine Gl.st (B := (T55.setTop (mkF m 11 L65 [(.int y2_25_64), (.ref a1)]))) (fun t k => XS.iloadN X55.here hx rfl (hb hby d3_10) (ldAt hL65 rfl) k) ?_
          refine Gl.st (B := (T55.setTop (mkF m 13 L65 [(.int (127 : Int32)), (.int y2_25_64), (.ref a1)]))) (fun t k => XS.bipush X55.here hx rfl (hb hby d3_11) k) ?_
          refine Gl.st (B := (T55.setTop (mkF m 14 L65 [(.int (y2_25_64 &&& (127 : Int32))), (.ref a1)]))) (fun t k => XS.iand X55.here hx rfl (hb hby d3_13) rfl k) ?_
          refine Gl.st (B := (T55.setTop (mkF m 17 L65 [(.int (128 : Int32)), (.int (y2_25_64 &&& (127 : Int32))), (.ref a1)]))) (fun t k => XS.sipush X55.here hx rfl (hb hby d3_14) k) ?_
          refine Gl.st (B := (T55.setTop (mkF m 18 L65 [(.int ((y2_25_64 &&& (127 : Int32)) ||| (128 : Int32))), (.ref a1)]))) (fun t k => XS.ior X55.here hx rfl (hb hby d3_17) rfl k) ?_
          obtain ⟨x18_76, hx18_76⟩ : ∃ z : Int32, z = ((y2_25_64 &&& (127 : Int32)) ||| (128 : Int32)) := ⟨_, rfl⟩
          refine Gl.cast (B := (T55.setTop (mkF m 18 L65 [(.int x18_76), (.ref a1)]))) (by rw [hx18_76]) ?_
          have c78 := (c56.keep Kc55 (ninS (Ne.symm ne_bk_w_pieces_a1) (ninS (Ne.symm ne_a1_w_pieces_a1) nin0)))
          have hp18_79 : ¬ f18_63 < 0 := own_3n_hp18_79 w_length_a1 f18_19 f18_41 f18_63 vs hf18_19 hf18_41 hf18_63 hw0 hw1 hvl
          have hp18_80 : f18_63 < 63 := own_3n_hp18_80 w_length_a1 f18_19 f18_41 f18_63 vs hf18_19 hf18_41 hf18_63 hw0 hw1 hvl
          have hp18_81 : vl18_62.length = f18_63.toNatClampNeg := own_3n_hp18_81 vs p2 x18_11 vl18_18 y2_25_20 x18_32 vl18_40 y2_25_42 x18_54 vl18_62 w_length_a1 f18_19 f18_41 f18_63 hx18_11 hvl18_18 hy2_25_20 hx18_32 hvl18_40 hy2_25_42 hx18_54 hvl18_62 hf18_19 hf18_41 hf18_63 hc6_2 hc6_22 hc6_44 hp0 hw0 hw1 hvl
          obtain ⟨cq77, q77, q77'⟩ := fq55_1.cell
          obtain ⟨_, _, ⟨T77, L77q, k77, n77⟩, -, X77, ⟨Lc77, hQ77, l77, y77, z77⟩, st77⟩ := X55.privateBack hx (y := (⟨"com/example/outcomery/outcomery/PackedNumbers", "put", "(I)V"⟩ : MethodName)) hown (mvT hZ (tw hw 19 rfl)) (mvT hZ (tw hw 20 rfl)) (own_selp (mvT hZ (tw hw 2 rfl)) (mvP hZ (tw hw 21 rfl)) (mvT hZ (tw hw 20 rfl)) (by decide)) (Cond.privateMethod_at (mvP hZ (tw hw 21 rfl) (args := #[]))) (mvT hZ (tw hw 22 rfl)) (by decide) (backOf (W := 0) (rm4n l Z a0 hw [] a1 x18_76 kx_w_pieces_a1 bk kx_bk vl18_62 w_pieces_a1 f18_63 T55.heap n0 Zc60 c78 O_w_pieces_a1 fq55_0 fq55_3 fq55_2 hp18_79 hp18_80 hp18_81 g_bk ne_a1_bk fq55_1 g_a1) hZ (tw hw 22 rfl) (tw hw 3 rfl) (by decide) (by decide)) (g := (mkF m 18 L65 [(.int x18_76), (.ref a1)])) rfl (szAt hml hL65 rfl) (Steps.refl _) (a := a1) q77 q77' (argsL := [(.int x18_76)]) (rest := []) (lenOf pd_3n_0 rfl) rfl (by show 2 * 0 + _ ≤ _; exact Nat.le_of_eq rfl) (hb hby d3_18) (fun _ _ => ⟨rfl, rfl, (by decide : 0 + 0 ≤ _), (by decide : 0 + 0 ≤ _)⟩)
          dsimp only [Pt.U, Pt.locs, Pt.cells, Pt.slots] at X77 l77 y77 z77 st77 hQ77
          subst l77 y77 z77
          obtain ⟨rfl, N77q, Kc77, fq77_0, fq77_1, fq77_2, fq77_3⟩ := hQ77
          have Zc82 : n0 ≤ T77.heap.size := Nat.le_trans Zc60 Kc77.1
          have K83 : Keep h0 T77.heap [a1, bk] := K61.trans Kc77 (allS (Or.inl (List.mem_of_getElem? (i := 1) rfl)) (allS (Or.inl (List.mem_of_getElem? (i := 0) rfl)) all0))
          obtain ⟨vl18_84, hvl18_84⟩ : ∃ z : List Value, z = (vl18_62 ++ [(.int (nar .byte ((x18_76.toInt8.toInt32))))]) := ⟨_, rfl⟩
          rw [← hvl18_84] at fq77_0
          obtain ⟨f18_85, hf18_85⟩ : ∃ z : Int32, z = ((f18_63 + (1 : Int32))) := ⟨_, rfl⟩
          rw [← hf18_85] at fq77_2
          have N77 := Fr.app N55 N77q
          refine Gl.st (B := (T77.setTop (mkF m 21 L65 []))) (fun t k => st77.trans k) ?_
          refine Gl.st (B := (T77.setTop (mkF m 22 L65 [(.int y2_25_64)]))) (fun t k => XS.iloadN X77.here hx rfl (hb hby d3_21) (ldAt hL65 rfl) k) ?_
          refine Gl.st (B := (T77.setTop (mkF m 24 L65 [(.int (7 : Int32)), (.int y2_25_64)]))) (fun t k => XS.bipush X77.here hx rfl (hb hby d3_22) k) ?_
          refine Gl.st (B := (T77.setTop (mkF m 25 L65 [(.int ((y2_25_64.toUInt32 >>> ((7 : Int32) &&& 31).toUInt32).toInt32))]))) (fun t k => XS.iushr X77.here hx rfl (hb hby d3_24) rfl k) ?_
          obtain ⟨y2_25_86, hy2_25_86⟩ : ∃ z : Int32, z = ((y2_25_64.toUInt32 >>> ((7 : Int32) &&& 31).toUInt32).toInt32) := ⟨_, rfl⟩
          refine Gl.cast (B := (T77.setTop (mkF m 25 L65 [(.int y2_25_86)]))) (by rw [hy2_25_86]) ?_
          obtain ⟨L87, hL87⟩ : ∃ z : Array Slot, z = #[.val (.ref a1), .val (.int p2), .val (.int y2_25_86)] := ⟨_, rfl⟩
          refine Gl.st (B := (T77.setTop (mkF m 26 L87 []))) (fun t k => XS.istoreN X77.here hx rfl (hb hby d3_25) rfl (l' := L87) (stAt hL65 hL87 rfl rfl) k) ?_
          refine Gl.st (B := (T77.setTop (mkF m 2 L87 []))) (fun t k => XS.goto X77.here hx rfl (pc0 := 26) (pc' := 2) rfl (hb hby d3_26) (by decide) (by decide) k) ?_
          refine Gl.st (B := (T77.setTop (mkF m 3 L87 [(.int y2_25_86)]))) (fun t k => XS.iloadN X77.here hx rfl (hb hby d3_2) (ldAt hL87 rfl) k) ?_
          refine Gl.st (B := (T77.setTop (mkF m 6 L87 [(.int (128 : Int32)), (.int y2_25_86)]))) (fun t k => XS.sipush X77.here hx rfl (hb hby d3_3) k) ?_
          have hc6_88 : y2_25_86 < (128 : Int32) := own_3n_hc6_88 p2 y2_25_20 y2_25_42 y2_25_64 y2_25_86 hy2_25_20 hy2_25_42 hy2_25_64 hy2_25_86 hp0
          refine Gl.st (B := (T77.setTop (mkF m 29 L87 []))) (fun t k => XS.icmpYes X77.here hx rfl (pc0 := 6) (pc' := 29) rfl (hb hby d3_6) rfl (tlt hc6_88).1 (by decide) (by decide) k) ?_
          refine Gl.st (B := (T77.setTop (mkF m 30 L87 [(.ref a1)]))) (fun t k => XS.aloadN X77.here hx rfl (hb hby d3_29) (ldAt hL87 rfl) rfl k) ?_
          refine Gl.st (B := (T77.setTop (mkF m 31 L87 [(.int y2_25_86), (.ref a1)]))) (fun t k => XS.iloadN X77.here hx rfl (hb hby d3_30) (ldAt hL87 rfl) k) ?_
          have c90 := (c78.keep Kc77 (ninS (Ne.symm ne_bk_w_pieces_a1) (ninS (Ne.symm ne_a1_w_pieces_a1) nin0)))
          have hp31_91 : ¬ f18_85 < 0 := own_3n_hp31_91 w_length_a1 f18_19 f18_41 f18_63 f18_85 vs hf18_19 hf18_41 hf18_63 hf18_85 hw0 hw1 hvl
          have hp31_92 : f18_85 < 63 := own_3n_hp31_92 w_length_a1 f18_19 f18_41 f18_63 f18_85 vs hf18_19 hf18_41 hf18_63 hf18_85 hw0 hw1 hvl
          have hp31_93 : vl18_84.length = f18_85.toNatClampNeg := own_3n_hp31_93 vs p2 x18_11 vl18_18 y2_25_20 x18_32 vl18_40 y2_25_42 x18_54 vl18_62 y2_25_64 x18_76 vl18_84 w_length_a1 f18_19 f18_41 f18_63 f18_85 hx18_11 hvl18_18 hy2_25_20 hx18_32 hvl18_40 hy2_25_42 hx18_54 hvl18_62 hy2_25_64 hx18_76 hvl18_84 hf18_19 hf18_41 hf18_63 hf18_85 hc6_2 hc6_22 hc6_44 hc6_66 hp0 hw0 hw1 hvl
          obtain ⟨cq89, q89, q89'⟩ := fq77_1.cell
          obtain ⟨_, _, ⟨T89, L89q, k89, n89⟩, -, X89, ⟨Lc89, hQ89, l89, y89, z89⟩, st89⟩ := X77.privateBack hx (y := (⟨"com/example/outcomery/outcomery/PackedNumbers", "put", "(I)V"⟩ : MethodName)) hown (mvT hZ (tw hw 19 rfl)) (mvT hZ (tw hw 20 rfl)) (own_selp (mvT hZ (tw hw 2 rfl)) (mvP hZ (tw hw 21 rfl)) (mvT hZ (tw hw 20 rfl)) (by decide)) (Cond.privateMethod_at (mvP hZ (tw hw 21 rfl) (args := #[]))) (mvT hZ (tw hw 22 rfl)) (by decide) (backOf (W := 0) (rm4n l Z a0 hw [] a1 y2_25_86 kx_w_pieces_a1 bk kx_bk vl18_84 w_pieces_a1 f18_85 T77.heap n0 Zc82 c90 O_w_pieces_a1 fq77_0 fq77_3 fq77_2 hp31_91 hp31_92 hp31_93 g_bk ne_a1_bk fq77_1 g_a1) hZ (tw hw 22 rfl) (tw hw 3 rfl) (by decide) (by decide)) (g := (mkF m 31 L87 [(.int y2_25_86), (.ref a1)])) rfl (szAt hml hL87 rfl) (Steps.refl _) (a := a1) q89 q89' (argsL := [(.int y2_25_86)]) (rest := []) (lenOf pd_3n_0 rfl) rfl (by show 2 * 0 + _ ≤ _; exact Nat.le_of_eq rfl) (hb hby d3_31) (fun _ _ => ⟨rfl, rfl, (by decide : 0 + 0 ≤ _), (by decide : 0 + 0 ≤ _)⟩)
          dsimp only [Pt.U, Pt.locs, Pt.cells, Pt.slots] at X89 l89 y89 z89 st89 hQ89
          subst l89 y89 z89
          obtain ⟨rfl, N89q, Kc89, fq89_0, fq89_1, fq89_2, fq89_3⟩ := hQ89
          have Zc94 : n0 ≤ T89.heap.size := Nat.le_trans Zc82 Kc89.1
          have K95 : Keep h0 T89.heap [a1, bk] := K83.trans Kc89 (allS (Or.inl (List.mem_of_getElem? (i := 1) rfl)) (allS (Or.inl (List.mem_of_getElem? (i := 0) rfl)) all0))
          obtain ⟨vl31_96, hvl31_96⟩ : ∃ z : List Value, z = (vl18_84 ++ [(.int (nar .byte ((y2_25_86.toInt8.toInt32))))]) := ⟨_, rfl⟩
          rw [← hvl31_96] at fq89_0
          obtain ⟨f31_97, hf31_97⟩ : ∃ z : Int32, z = ((f18_85 + (1 : Int32))) := ⟨_, rfl⟩
          rw [← hf31_97] at fq89_2
          have N89 := Fr.app N77 N89q
          refine Gl.st (B := (T89.setTop (mkF m 34 L87 []))) (fun t k => st89.trans k) ?_
          obtain ⟨fs, hr, hrun, hended, hW, hsame⟩ := X89.leave (v := none) (fun _ => rfl)
          refine Gl.fin (X89.returnOut hx Bd.returns (hb hby d3_34) hr) hrun hended ⟨_, _, rfl, ?_, ⟨_, rfl⟩, hW, hsame.mono (by decide) (by decide)⟩
          show Q3n Z a1 p2 kx_w_pieces_a1 bk kx_bk vs w_pieces_a1 w_length_a1 h0 n0 _ T89.heap _
          exact ⟨rfl, N89, K95, fq89_1, (by subst hf31_97; subst hf18_85; subst hf18_63; subst hf18_41; subst hf18_19; subst hy2_25_20; subst hy2_25_42; subst hy2_25_64; rw [own_F_eq, if_neg hc6_2, if_neg hc6_22, if_neg hc6_44, if_neg hc6_66]; exact fq89_2), fq89_3, (by subst hvl31_96; subst hvl18_84; subst hvl18_62; subst hvl18_40; subst hvl18_18; subst hx18_11; subst hx18_32; subst hy2_25_20; subst hx18_54; subst hy2_25_42; subst hx18_76; subst hy2_25_64; subst hy2_25_86; rw [own_E_eq, if_neg hc6_2, if_neg hc6_22, if_neg hc6_44, if_neg hc6_66]; exact fq89_0)⟩
theorem pd_3f_0 : parseMethodDescriptor "(I)V" = some ⟨[.int], none⟩ := by decide +kernel
theorem ef_3f (m : MethodId) (a1 : Addr) (p2 : Int32) : entryFrame m #[(.ref a1), (.int p2)] 3 = mkF m 0 #[.val (.ref a1), .val (.int p2), .unset] [] := by first | (simp [entryFrame, mkF, argsToLocals, Value.category]; done) | rfl
theorem own_3f_hp31_38 (f18_31 : Int32) (hf18_31 : f18_31 = (((1 : Int32) + (1 : Int32))))  : ¬ f18_31 < 0 := by
  have nb : ¬ (1 : Int32) < 0 := by decide
  have tb : (1 : Int32).toInt = 1 := by decide
  have t0b := tb
  have a0 := c_iadd (1 : Int32) 1
  rw [← hf18_31] at a0
  simp only [Int32.reduceToInt] at a0
  have r0 := rng32 f18_31
  have t0 : f18_31.toInt = (1 : Int32).toInt + 1 := by omega
  have s0 : f18_31.toNatClampNeg = (1 : Int32).toNatClampNeg + 1 := by rw [hf18_31]; exact own_suc (1 : Int32) nb (by rw [Int32.lt_iff_toInt_lt]; simp only [Int32.reduceToInt]; omega)
  have n0 : ¬ f18_31 < 0 := by
    rw [Int32.lt_iff_toInt_lt]
    simp only [Int32.reduceToInt]
    omega
  exact n0
theorem own_3f_hp31_39 (f18_31 : Int32) (hf18_31 : f18_31 = (((1 : Int32) + (1 : Int32))))  : f18_31 < 63 := by
  have nb : ¬ (1 : Int32) < 0 := by decide
  have tb : (1 : Int32).toInt = 1 := by decide
  have t0b := tb
  have a0 := c_iadd (1 : Int32) 1
  rw [← hf18_31] at a0
  simp only [Int32.reduceToInt] at a0
  have r0 := rng32 f18_31
  have t0 : f18_31.toInt = (1 : Int32).toInt + 1 := by omega
  have s0 : f18_31.toNatClampNeg = (1 : Int32).toNatClampNeg + 1 := by rw [hf18_31]; exact own_suc (1 : Int32) nb (by rw [Int32.lt_iff_toInt_lt]; simp only [Int32.reduceToInt]; omega)
  have n0 : ¬ f18_31 < 0 := by
    rw [Int32.lt_iff_toInt_lt]
    simp only [Int32.reduceToInt]
    omega
  rw [Int32.lt_iff_toInt_lt]
  simp only [Int32.reduceToInt]
  omega
theorem own_3f_hp31_40 (p2 : Int32) (x18_6 : Int32) (y2_25_10 : Int32) (x18_22 : Int32) (vl18_30 : List Value) (f18_31 : Int32) (hx18_6 : x18_6 = ((p2 &&& (127 : Int32)) ||| (128 : Int32))) (hy2_25_10 : y2_25_10 = ((p2.toUInt32 >>> ((7 : Int32) &&& 31).toUInt32).toInt32)) (hx18_22 : x18_22 = ((y2_25_10 &&& (127 : Int32)) ||| (128 : Int32))) (hvl18_30 : vl18_30 = (([(.int (nar .byte ((x18_6.toInt8.toInt32))))] : List Value) ++ [(.int (nar .byte ((x18_22.toInt8.toInt32))))])) (hf18_31 : f18_31 = (((1 : Int32) + (1 : Int32)))) (hc6_2 : ¬ (p2 < (128 : Int32))) (hc6_12 : ¬ (y2_25_10 < (128 : Int32))) (hp0 : ¬ p2 < 0) : vl18_30.length = f18_31.toNatClampNeg := by
  have nb : ¬ (1 : Int32) < 0 := by decide
  have tb : (1 : Int32).toInt = 1 := by decide
  have t0b := tb
  have a0 := c_iadd (1 : Int32) 1
  rw [← hf18_31] at a0
  simp only [Int32.reduceToInt] at a0
  have r0 := rng32 f18_31
  have t0 : f18_31.toInt = (1 : Int32).toInt + 1 := by omega
  have s0 : f18_31.toNatClampNeg = (1 : Int32).toNatClampNeg + 1 := by rw [hf18_31]; exact own_suc (1 : Int32) nb (by rw [Int32.lt_iff_toInt_lt]; simp only [Int32.reduceToInt]; omega)
  have n0 : ¬ f18_31 < 0 := by
    rw [Int32.lt_iff_toInt_lt]
    simp only [Int32.reduceToInt]
    omega
  rw [hvl18_30]
  simp only [List.length_append, List.length_cons, List.length_nil]
  have e : (1 : Int32).toNatClampNeg = 1 := by decide
  omega
theorem own_3f_hp18_50 (f18_31 : Int32) (hf18_31 : f18_31 = (((1 : Int32) + (1 : Int32))))  : ¬ f18_31 < 0 := by
  have nb : ¬ (1 : Int32) < 0 := by decide
  have tb : (1 : Int32).toInt = 1 := by decide
  have t0b := tb
  have a0 := c_iadd (1 : Int32) 1
  rw [← hf18_31] at a0
  simp only [Int32.reduceToInt] at a0
  have r0 := rng32 f18_31
  have t0 : f18_31.toInt = (1 : Int32).toInt + 1 := by omega
  have s0 : f18_31.toNatClampNeg = (1 : Int32).toNatClampNeg + 1 := by rw [hf18_31]; exact own_suc (1 : Int32) nb (by rw [Int32.lt_iff_toInt_lt]; simp only [Int32.reduceToInt]; omega)
  have n0 : ¬ f18_31 < 0 := by
    rw [Int32.lt_iff_toInt_lt]
    simp only [Int32.reduceToInt]
    omega
  exact n0
theorem own_3f_hp18_51 (f18_31 : Int32) (hf18_31 : f18_31 = (((1 : Int32) + (1 : Int32))))  : f18_31 < 63 := by
  have nb : ¬ (1 : Int32) < 0 := by decide
  have tb : (1 : Int32).toInt = 1 := by decide
  have t0b := tb
  have a0 := c_iadd (1 : Int32) 1
  rw [← hf18_31] at a0
  simp only [Int32.reduceToInt] at a0
  have r0 := rng32 f18_31
  have t0 : f18_31.toInt = (1 : Int32).toInt + 1 := by omega
  have s0 : f18_31.toNatClampNeg = (1 : Int32).toNatClampNeg + 1 := by rw [hf18_31]; exact own_suc (1 : Int32) nb (by rw [Int32.lt_iff_toInt_lt]; simp only [Int32.reduceToInt]; omega)
  have n0 : ¬ f18_31 < 0 := by
    rw [Int32.lt_iff_toInt_lt]
    simp only [Int32.reduceToInt]
    omega
  rw [Int32.lt_iff_toInt_lt]
  simp only [Int32.reduceToInt]
  omega
theorem own_3f_hp18_52 (p2 : Int32) (x18_6 : Int32) (y2_25_10 : Int32) (x18_22 : Int32) (vl18_30 : List Value) (f18_31 : Int32) (hx18_6 : x18_6 = ((p2 &&& (127 : Int32)) ||| (128 : Int32))) (hy2_25_10 : y2_25_10 = ((p2.toUInt32 >>> ((7 : Int32) &&& 31).toUInt32).toInt32)) (hx18_22 : x18_22 = ((y2_25_10 &&& (127 : Int32)) ||| (128 : Int32))) (hvl18_30 : vl18_30 = (([(.int (nar .byte ((x18_6.toInt8.toInt32))))] : List Value) ++ [(.int (nar .byte ((x18_22.toInt8.toInt32))))])) (hf18_31 : f18_31 = (((1 : Int32) + (1 : Int32)))) (hc6_2 : ¬ (p2 < (128 : Int32))) (hc6_12 : ¬ (y2_25_10 < (128 : Int32))) (hp0 : ¬ p2 < 0) : vl18_30.length = f18_31.toNatClampNeg := by
  have nb : ¬ (1 : Int32) < 0 := by decide
  have tb : (1 : Int32).toInt = 1 := by decide
  have t0b := tb
  have a0 := c_iadd (1 : Int32) 1
  rw [← hf18_31] at a0
  simp only [Int32.reduceToInt] at a0
  have r0 := rng32 f18_31
  have t0 : f18_31.toInt = (1 : Int32).toInt + 1 := by omega
  have s0 : f18_31.toNatClampNeg = (1 : Int32).toNatClampNeg + 1 := by rw [hf18_31]; exact own_suc (1 : Int32) nb (by rw [Int32.lt_iff_toInt_lt]; simp only [Int32.reduceToInt]; omega)
  have n0 : ¬ f18_31 < 0 := by
    rw [Int32.lt_iff_toInt_lt]
    simp only [Int32.reduceToInt]
    omega
  rw [hvl18_30]
  simp only [List.length_append, List.length_cons, List.length_nil]
  have e : (1 : Int32).toNatClampNeg = 1 := by decide
  omega
theorem own_3f_hp31_63 (f18_31 : Int32) (f18_57 : Int32) (hf18_31 : f18_31 = (((1 : Int32) + (1 : Int32)))) (hf18_57 : f18_57 = ((f18_31 + (1 : Int32))))  : ¬ f18_57 < 0 := by
  have nb : ¬ (1 : Int32) < 0 := by decide
  have tb : (1 : Int32).toInt = 1 := by decide
  have t0b := tb
  have a0 := c_iadd (1 : Int32) 1
  rw [← hf18_31] at a0
  simp only [Int32.reduceToInt] at a0
  have r0 := rng32 f18_31
  have t0 : f18_31.toInt = (1 : Int32).toInt + 1 := by omega
  have s0 : f18_31.toNatClampNeg = (1 : Int32).toNatClampNeg + 1 := by rw [hf18_31]; exact own_suc (1 : Int32) nb (by rw [Int32.lt_iff_toInt_lt]; simp only [Int32.reduceToInt]; omega)
  have n0 : ¬ f18_31 < 0 := by
    rw [Int32.lt_iff_toInt_lt]
    simp only [Int32.reduceToInt]
    omega
  have a1 := c_iadd f18_31 1
  rw [← hf18_57] at a1
  simp only [Int32.reduceToInt] at a1
  have r1 := rng32 f18_57
  have t1 : f18_57.toInt = f18_31.toInt + 1 := by omega
  have s1 : f18_57.toNatClampNeg = f18_31.toNatClampNeg + 1 := by rw [hf18_57]; exact own_suc f18_31 n0 (by rw [Int32.lt_iff_toInt_lt]; simp only [Int32.reduceToInt]; omega)
  have n1 : ¬ f18_57 < 0 := by
    rw [Int32.lt_iff_toInt_lt]
    simp only [Int32.reduceToInt]
    omega
  exact n1
theorem own_3f_hp31_64 (f18_31 : Int32) (f18_57 : Int32) (hf18_31 : f18_31 = (((1 : Int32) + (1 : Int32)))) (hf18_57 : f18_57 = ((f18_31 + (1 : Int32))))  : f18_57 < 63 := by
  have nb : ¬ (1 : Int32) < 0 := by decide
  have tb : (1 : Int32).toInt = 1 := by decide
  have t0b := tb
  have a0 := c_iadd (1 : Int32) 1
  rw [← hf18_31] at a0
  simp only [Int32.reduceToInt] at a0
  have r0 := rng32 f18_31
  have t0 : f18_31.toInt = (1 : Int32).toInt + 1 := by omega
  have s0 : f18_31.toNatClampNeg = (1 : Int32).toNatClampNeg + 1 := by rw [hf18_31]; exact own_suc (1 : Int32) nb (by rw [Int32.lt_iff_toInt_lt]; simp only [Int32.reduceToInt]; omega)
  have n0 : ¬ f18_31 < 0 := by
    rw [Int32.lt_iff_toInt_lt]
    simp only [Int32.reduceToInt]
    omega
  have a1 := c_iadd f18_31 1
  rw [← hf18_57] at a1
  simp only [Int32.reduceToInt] at a1
  have r1 := rng32 f18_57
  have t1 : f18_57.toInt = f18_31.toInt + 1 := by omega
  have s1 : f18_57.toNatClampNeg = f18_31.toNatClampNeg + 1 := by rw [hf18_57]; exact own_suc f18_31 n0 (by rw [Int32.lt_iff_toInt_lt]; simp only [Int32.reduceToInt]; omega)
  have n1 : ¬ f18_57 < 0 := by
    rw [Int32.lt_iff_toInt_lt]
    simp only [Int32.reduceToInt]
    omega
  rw [Int32.lt_iff_toInt_lt]
  simp only [Int32.reduceToInt]
  omega
theorem own_3f_hp31_65 (p2 : Int32) (x18_6 : Int32) (y2_25_10 : Int32) (x18_22 : Int32) (vl18_30 : List Value) (y2_25_32 : Int32) (x18_46 : Int32) (vl18_56 : List Value) (f18_31 : Int32) (f18_57 : Int32) (hx18_6 : x18_6 = ((p2 &&& (127 : Int32)) ||| (128 : Int32))) (hy2_25_10 : y2_25_10 = ((p2.toUInt32 >>> ((7 : Int32) &&& 31).toUInt32).toInt32)) (hx18_22 : x18_22 = ((y2_25_10 &&& (127 : Int32)) ||| (128 : Int32))) (hvl18_30 : vl18_30 = (([(.int (nar .byte ((x18_6.toInt8.toInt32))))] : List Value) ++ [(.int (nar .byte ((x18_22.toInt8.toInt32))))])) (hy2_25_32 : y2_25_32 = ((y2_25_10.toUInt32 >>> ((7 : Int32) &&& 31).toUInt32).toInt32)) (hx18_46 : x18_46 = ((y2_25_32 &&& (127 : Int32)) ||| (128 : Int32))) (hvl18_56 : vl18_56 = (vl18_30 ++ [(.int (nar .byte ((x18_46.toInt8.toInt32))))])) (hf18_31 : f18_31 = (((1 : Int32) + (1 : Int32)))) (hf18_57 : f18_57 = ((f18_31 + (1 : Int32)))) (hc6_2 : ¬ (p2 < (128 : Int32))) (hc6_12 : ¬ (y2_25_10 < (128 : Int32))) (hc6_34 : ¬ (y2_25_32 < (128 : Int32))) (hp0 : ¬ p2 < 0) : vl18_56.length = f18_57.toNatClampNeg := by
  have nb : ¬ (1 : Int32) < 0 := by decide
  have tb : (1 : Int32).toInt = 1 := by decide
  have t0b := tb
  have a0 := c_iadd (1 : Int32) 1
  rw [← hf18_31] at a0
  simp only [Int32.reduceToInt] at a0
  have r0 := rng32 f18_31
  have t0 : f18_31.toInt = (1 : Int32).toInt + 1 := by omega
  have s0 : f18_31.toNatClampNeg = (1 : Int32).toNatClampNeg + 1 := by rw [hf18_31]; exact own_suc (1 : Int32) nb (by rw [Int32.lt_iff_toInt_lt]; simp only [Int32.reduceToInt]; omega)
  have n0 : ¬ f18_31 < 0 := by
    rw [Int32.lt_iff_toInt_lt]
    simp only [Int32.reduceToInt]
    omega
  have a1 := c_iadd f18_31 1
  rw [← hf18_57] at a1
  simp only [Int32.reduceToInt] at a1
  have r1 := rng32 f18_57
  have t1 : f18_57.toInt = f18_31.toInt + 1 := by omega
  have s1 : f18_57.toNatClampNeg = f18_31.toNatClampNeg + 1 := by rw [hf18_57]; exact own_suc f18_31 n0 (by rw [Int32.lt_iff_toInt_lt]; simp only [Int32.reduceToInt]; omega)
  have n1 : ¬ f18_57 < 0 := by
    rw [Int32.lt_iff_toInt_lt]
    simp only [Int32.reduceToInt]
    omega
  rw [hvl18_56, hvl18_30]
  simp only [List.length_append, List.length_cons, List.length_nil]
  have e : (1 : Int32).toNatClampNeg = 1 := by decide
  omega
theorem own_3f_hp18_74 (f18_31 : Int32) (f18_57 : Int32) (hf18_31 : f18_31 = (((1 : Int32) + (1 : Int32)))) (hf18_57 : f18_57 = ((f18_31 + (1 : Int32))))  : ¬ f18_57 < 0 := by
  have nb : ¬ (1 : Int32) < 0 := by decide
  have tb : (1 : Int32).toInt = 1 := by decide
  have t0b := tb
  have a0 := c_iadd (1 : Int32) 1
  rw [← hf18_31] at a0
  simp only [Int32.reduceToInt] at a0
  have r0 := rng32 f18_31
  have t0 : f18_31.toInt = (1 : Int32).toInt + 1 := by omega
  have s0 : f18_31.toNatClampNeg = (1 : Int32).toNatClampNeg + 1 := by rw [hf18_31]; exact own_suc (1 : Int32) nb (by rw [Int32.lt_iff_toInt_lt]; simp only [Int32.reduceToInt]; omega)
  have n0 : ¬ f18_31 < 0 := by
    rw [Int32.lt_iff_toInt_lt]
    simp only [Int32.reduceToInt]
    omega
  have a1 := c_iadd f18_31 1
  rw [← hf18_57] at a1
  simp only [Int32.reduceToInt] at a1
  have r1 := rng32 f18_57
  have t1 : f18_57.toInt = f18_31.toInt + 1 := by omega
  have s1 : f18_57.toNatClampNeg = f18_31.toNatClampNeg + 1 := by rw [hf18_57]; exact own_suc f18_31 n0 (by rw [Int32.lt_iff_toInt_lt]; simp only [Int32.reduceToInt]; omega)
  have n1 : ¬ f18_57 < 0 := by
    rw [Int32.lt_iff_toInt_lt]
    simp only [Int32.reduceToInt]
    omega
  exact n1
theorem own_3f_hp18_75 (f18_31 : Int32) (f18_57 : Int32) (hf18_31 : f18_31 = (((1 : Int32) + (1 : Int32)))) (hf18_57 : f18_57 = ((f18_31 + (1 : Int32))))  : f18_57 < 63 := by
  have nb : ¬ (1 : Int32) < 0 := by decide
  have tb : (1 : Int32).toInt = 1 := by decide
  have t0b := tb
  have a0 := c_iadd (1 : Int32) 1
  rw [← hf18_31] at a0
  simp only [Int32.reduceToInt] at a0
  have r0 := rng32 f18_31
  have t0 : f18_31.toInt = (1 : Int32).toInt + 1 := by omega
  have s0 : f18_31.toNatClampNeg = (1 : Int32).toNatClampNeg + 1 := by rw [hf18_31]; exact own_suc (1 : Int32) nb (by rw [Int32.lt_iff_toInt_lt]; simp only [Int32.reduceToInt]; omega)
  have n0 : ¬ f18_31 < 0 := by
    rw [Int32.lt_iff_toInt_lt]
    simp only [Int32.reduceToInt]
    omega
  have a1 := c_iadd f18_31 1
  rw [← hf18_57] at a1
  simp only [Int32.reduceToInt] at a1
  have r1 := rng32 f18_57
  have t1 : f18_57.toInt = f18_31.toInt + 1 := by omega
  have s1 : f18_57.toNatClampNeg = f18_31.toNatClampNeg + 1 := by rw [hf18_57]; exact own_suc f18_31 n0 (by rw [Int32.lt_iff_toInt_lt]; simp only [Int32.reduceToInt]; omega)
  have n1 : ¬ f18_57 < 0 := by
    rw [Int32.lt_iff_toInt_lt]
    simp only [Int32.reduceToInt]
    omega
  rw [Int32.lt_iff_toInt_lt]
  simp only [Int32.reduceToInt]
  omega
theorem own_3f_hp18_76 (p2 : Int32) (x18_6 : Int32) (y2_25_10 : Int32) (x18_22 : Int32) (vl18_30 : List Value) (y2_25_32 : Int32) (x18_46 : Int32) (vl18_56 : List Value) (f18_31 : Int32) (f18_57 : Int32) (hx18_6 : x18_6 = ((p2 &&& (127 : Int32)) ||| (128 : Int32))) (hy2_25_10 : y2_25_10 = ((p2.toUInt32 >>> ((7 : Int32) &&& 31).toUInt32).toInt32)) (hx18_22 : x18_22 = ((y2_25_10 &&& (127 : Int32)) ||| (128 : Int32))) (hvl18_30 : vl18_30 = (([(.int (nar .byte ((x18_6.toInt8.toInt32))))] : List Value) ++ [(.int (nar .byte ((x18_22.toInt8.toInt32))))])) (hy2_25_32 : y2_25_32 = ((y2_25_10.toUInt32 >>> ((7 : Int32) &&& 31).toUInt32).toInt32)) (hx18_46 : x18_46 = ((y2_25_32 &&& (127 : Int32)) ||| (128 : Int32))) (hvl18_56 : vl18_56 = (vl18_30 ++ [(.int (nar .byte ((x18_46.toInt8.toInt32))))])) (hf18_31 : f18_31 = (((1 : Int32) + (1 : Int32)))) (hf18_57 : f18_57 = ((f18_31 + (1 : Int32)))) (hc6_2 : ¬ (p2 < (128 : Int32))) (hc6_12 : ¬ (y2_25_10 < (128 : Int32))) (hc6_34 : ¬ (y2_25_32 < (128 : Int32))) (hp0 : ¬ p2 < 0) : vl18_56.length = f18_57.toNatClampNeg := by
  have nb : ¬ (1 : Int32) < 0 := by decide
  have tb : (1 : Int32).toInt = 1 := by decide
  have t0b := tb
  have a0 := c_iadd (1 : Int32) 1
  rw [← hf18_31] at a0
  simp only [Int32.reduceToInt] at a0
  have r0 := rng32 f18_31
  have t0 : f18_31.toInt = (1 : Int32).toInt + 1 := by omega
  have s0 : f18_31.toNatClampNeg = (1 : Int32).toNatClampNeg + 1 := by rw [hf18_31]; exact own_suc (1 : Int32) nb (by rw [Int32.lt_iff_toInt_lt]; simp only [Int32.reduceToInt]; omega)
  have n0 : ¬ f18_31 < 0 := by
    rw [Int32.lt_iff_toInt_lt]
    simp only [Int32.reduceToInt]
    omega
  have a1 := c_iadd f18_31 1
  rw [← hf18_57] at a1
  simp only [Int32.reduceToInt] at a1
  have r1 := rng32 f18_57
  have t1 : f18_57.toInt = f18_31.toInt + 1 := by omega
  have s1 : f18_57.toNatClampNeg = f18_31.toNatClampNeg + 1 := by rw [hf18_57]; exact own_suc f18_31 n0 (by rw [Int32.lt_iff_toInt_lt]; simp only [Int32.reduceToInt]; omega)
  have n1 : ¬ f18_57 < 0 := by
    rw [Int32.lt_iff_toInt_lt]
    simp only [Int32.reduceToInt]
    omega
  rw [hvl18_56, hvl18_30]
  simp only [List.length_append, List.length_cons, List.length_nil]
  have e : (1 : Int32).toNatClampNeg = 1 := by decide
  omega
theorem own_3f_hc6_84 (p2 : Int32) (y2_25_10 : Int32) (y2_25_32 : Int32) (y2_25_58 : Int32) (y2_25_82 : Int32) (hy2_25_10 : y2_25_10 = ((p2.toUInt32 >>> ((7 : Int32) &&& 31).toUInt32).toInt32)) (hy2_25_32 : y2_25_32 = ((y2_25_10.toUInt32 >>> ((7 : Int32) &&& 31).toUInt32).toInt32)) (hy2_25_58 : y2_25_58 = ((y2_25_32.toUInt32 >>> ((7 : Int32) &&& 31).toUInt32).toInt32)) (hy2_25_82 : y2_25_82 = ((y2_25_58.toUInt32 >>> ((7 : Int32) &&& 31).toUInt32).toInt32)) (hp0 : ¬ p2 < 0) : y2_25_82 < (128 : Int32) := by
  rw [Int32.lt_iff_toInt_lt] at *
  have z := rng32 p2
  have a0 : y2_25_10.toInt = (p2.toInt % 4294967296) / 128 := by rw [hy2_25_10]; exact c_iushr p2 (7 : Int32) 7 (by decide) (by decide)
  have a1 : y2_25_32.toInt = (y2_25_10.toInt % 4294967296) / 128 := by rw [hy2_25_32]; exact c_iushr y2_25_10 (7 : Int32) 7 (by decide) (by decide)
  have a2 : y2_25_58.toInt = (y2_25_32.toInt % 4294967296) / 128 := by rw [hy2_25_58]; exact c_iushr y2_25_32 (7 : Int32) 7 (by decide) (by decide)
  have a3 : y2_25_82.toInt = (y2_25_58.toInt % 4294967296) / 128 := by rw [hy2_25_82]; exact c_iushr y2_25_58 (7 : Int32) 7 (by decide) (by decide)
  simp only [Int32.reduceToInt] at *
  omega
theorem own_3f_hp31_87 (f18_31 : Int32) (f18_57 : Int32) (f18_81 : Int32) (hf18_31 : f18_31 = (((1 : Int32) + (1 : Int32)))) (hf18_57 : f18_57 = ((f18_31 + (1 : Int32)))) (hf18_81 : f18_81 = ((f18_57 + (1 : Int32))))  : ¬ f18_81 < 0 := by
  have nb : ¬ (1 : Int32) < 0 := by decide
  have tb : (1 : Int32).toInt = 1 := by decide
  have t0b := tb
  have a0 := c_iadd (1 : Int32) 1
  rw [← hf18_31] at a0
  simp only [Int32.reduceToInt] at a0
  have r0 := rng32 f18_31
  have t0 : f18_31.toInt = (1 : Int32).toInt + 1 := by omega
  have s0 : f18_31.toNatClampNeg = (1 : Int32).toNatClampNeg + 1 := by rw [hf18_31]; exact own_suc (1 : Int32) nb (by rw [Int32.lt_iff_toInt_lt]; simp only [Int32.reduceToInt]; omega)
  have n0 : ¬ f18_31 < 0 := by
    rw [Int32.lt_iff_toInt_lt]
    simp only [Int32.reduceToInt]
    omega
  have a1 := c_iadd f18_31 1
  rw [← hf18_57] at a1
  simp only [Int32.reduceToInt] at a1
  have r1 := rng32 f18_57
  have t1 : f18_57.toInt = f18_31.toInt + 1 := by omega
  have s1 : f18_57.toNatClampNeg = f18_31.toNatClampNeg + 1 := by rw [hf18_57]; exact own_suc f18_31 n0 (by rw [Int32.lt_iff_toInt_lt]; simp only [Int32.reduceToInt]; omega)
  have n1 : ¬ f18_57 < 0 := by
    rw [Int32.lt_iff_toInt_lt]
    simp only [Int32.reduceToInt]
    omega
  have a2 := c_iadd f18_57 1
  rw [← hf18_81] at a2
  simp only [Int32.reduceToInt] at a2
  have r2 := rng32 f18_81
  have t2 : f18_81.toInt = f18_57.toInt + 1 := by omega
  have s2 : f18_81.toNatClampNeg = f18_57.toNatClampNeg + 1 := by rw [hf18_81]; exact own_suc f18_57 n1 (by rw [Int32.lt_iff_toInt_lt]; simp only [Int32.reduceToInt]; omega)
  have n2 : ¬ f18_81 < 0 := by
    rw [Int32.lt_iff_toInt_lt]
    simp only [Int32.reduceToInt]
    omega
  exact n2
theorem own_3f_hp31_88 (f18_31 : Int32) (f18_57 : Int32) (f18_81 : Int32) (hf18_31 : f18_31 = (((1 : Int32) + (1 : Int32)))) (hf18_57 : f18_57 = ((f18_31 + (1 : Int32)))) (hf18_81 : f18_81 = ((f18_57 + (1 : Int32))))  : f18_81 < 63 := by
  have nb : ¬ (1 : Int32) < 0 := by decide
  have tb : (1 : Int32).toInt = 1 := by decide
  have t0b := tb
  have a0 := c_iadd (1 : Int32) 1
  rw [← hf18_31] at a0
  simp only [Int32.reduceToInt] at a0
  have r0 := rng32 f18_31
  have t0 : f18_31.toInt = (1 : Int32).toInt + 1 := by omega
  have s0 : f18_31.toNatClampNeg = (1 : Int32).toNatClampNeg + 1 := by rw [hf18_31]; exact own_suc (1 : Int32) nb (by rw [Int32.lt_iff_toInt_lt]; simp only [Int32.reduceToInt]; omega)
  have n0 : ¬ f18_31 < 0 := by
    rw [Int32.lt_iff_toInt_lt]
    simp only [Int32.reduceToInt]
    omega
  have a1 := c_iadd f18_31 1
  rw [← hf18_57] at a1
  simp only [Int32.reduceToInt] at a1
  have r1 := rng32 f18_57
  have t1 : f18_57.toInt = f18_31.toInt + 1 := by omega
  have s1 : f18_57.toNatClampNeg = f18_31.toNatClampNeg + 1 := by rw [hf18_57]; exact own_suc f18_31 n0 (by rw [Int32.lt_iff_toInt_lt]; simp only [Int32.reduceToInt]; omega)
  have n1 : ¬ f18_57 < 0 := by
    rw [Int32.lt_iff_toInt_lt]
    simp only [Int32.reduceToInt]
    omega
  have a2 := c_iadd f18_57 1
  rw [← hf18_81] at a2
  simp only [Int32.reduceToInt] at a2
  have r2 := rng32 f18_81
  have t2 : f18_81.toInt = f18_57.toInt + 1 := by omega
  have s2 : f18_81.toNatClampNeg = f18_57.toNatClampNeg + 1 := by rw [hf18_81]; exact own_suc f18_57 n1 (by rw [Int32.lt_iff_toInt_lt]; simp only [Int32.reduceToInt]; omega)
  have n2 : ¬ f18_81 < 0 := by
    rw [Int32.lt_iff_toInt_lt]
    simp only [Int32.reduceToInt]
    omega
  rw [Int32.lt_iff_toInt_lt]
  simp only [Int32.reduceToInt]
  omega
theorem own_3f_hp31_89 (p2 : Int32) (x18_6 : Int32) (y2_25_10 : Int32) (x18_22 : Int32) (vl18_30 : List Value) (y2_25_32 : Int32) (x18_46 : Int32) (vl18_56 : List Value) (y2_25_58 : Int32) (x18_71 : Int32) (vl18_80 : List Value) (f18_31 : Int32) (f18_57 : Int32) (f18_81 : Int32) (hx18_6 : x18_6 = ((p2 &&& (127 : Int32)) ||| (128 : Int32))) (hy2_25_10 : y2_25_10 = ((p2.toUInt32 >>> ((7 : Int32) &&& 31).toUInt32).toInt32)) (hx18_22 : x18_22 = ((y2_25_10 &&& (127 : Int32)) ||| (128 : Int32))) (hvl18_30 : vl18_30 = (([(.int (nar .byte ((x18_6.toInt8.toInt32))))] : List Value) ++ [(.int (nar .byte ((x18_22.toInt8.toInt32))))])) (hy2_25_32 : y2_25_32 = ((y2_25_10.toUInt32 >>> ((7 : Int32) &&& 31).toUInt32).toInt32)) (hx18_46 : x18_46 = ((y2_25_32 &&& (127 : Int32)) ||| (128 : Int32))) (hvl18_56 : vl18_56 = (vl18_30 ++ [(.int (nar .byte ((x18_46.toInt8.toInt32))))])) (hy2_25_58 : y2_25_58 = ((y2_25_32.toUInt32 >>> ((7 : Int32) &&& 31).toUInt32).toInt32)) (hx18_71 : x18_71 = ((y2_25_58 &&& (127 : Int32)) ||| (128 : Int32))) (hvl18_80 : vl18_80 = (vl18_56 ++ [(.int (nar .byte ((x18_71.toInt8.toInt32))))])) (hf18_31 : f18_31 = (((1 : Int32) + (1 : Int32)))) (hf18_57 : f18_57 = ((f18_31 + (1 : Int32)))) (hf18_81 : f18_81 = ((f18_57 + (1 : Int32)))) (hc6_2 : ¬ (p2 < (128 : Int32))) (hc6_12 : ¬ (y2_25_10 < (128 : Int32))) (hc6_34 : ¬ (y2_25_32 < (128 : Int32))) (hc6_60 : ¬ (y2_25_58 < (128 : Int32))) (hp0 : ¬ p2 < 0) : vl18_80.length = f18_81.toNatClampNeg := by
  have nb : ¬ (1 : Int32) < 0 := by decide
  have tb : (1 : Int32).toInt = 1 := by decide
  have t0b := tb
  have a0 := c_iadd (1 : Int32) 1
  rw [← hf18_31] at a0
  simp only [Int32.reduceToInt] at a0
  have r0 := rng32 f18_31
  have t0 : f18_31.toInt = (1 : Int32).toInt + 1 := by omega
  have s0 : f18_31.toNatClampNeg = (1 : Int32).toNatClampNeg + 1 := by rw [hf18_31]; exact own_suc (1 : Int32) nb (by rw [Int32.lt_iff_toInt_lt]; simp only [Int32.reduceToInt]; omega)
  have n0 : ¬ f18_31 < 0 := by
    rw [Int32.lt_iff_toInt_lt]
    simp only [Int32.reduceToInt]
    omega
  have a1 := c_iadd f18_31 1
  rw [← hf18_57] at a1
  simp only [Int32.reduceToInt] at a1
  have r1 := rng32 f18_57
  have t1 : f18_57.toInt = f18_31.toInt + 1 := by omega
  have s1 : f18_57.toNatClampNeg = f18_31.toNatClampNeg + 1 := by rw [hf18_57]; exact own_suc f18_31 n0 (by rw [Int32.lt_iff_toInt_lt]; simp only [Int32.reduceToInt]; omega)
  have n1 : ¬ f18_57 < 0 := by
    rw [Int32.lt_iff_toInt_lt]
    simp only [Int32.reduceToInt]
    omega
  have a2 := c_iadd f18_57 1
  rw [← hf18_81] at a2
  simp only [Int32.reduceToInt] at a2
  have r2 := rng32 f18_81
  have t2 : f18_81.toInt = f18_57.toInt + 1 := by omega
  have s2 : f18_81.toNatClampNeg = f18_57.toNatClampNeg + 1 := by rw [hf18_81]; exact own_suc f18_57 n1 (by rw [Int32.lt_iff_toInt_lt]; simp only [Int32.reduceToInt]; omega)
  have n2 : ¬ f18_81 < 0 := by
    rw [Int32.lt_iff_toInt_lt]
    simp only [Int32.reduceToInt]
    omega
  rw [hvl18_80, hvl18_56, hvl18_30]
  simp only [List.length_append, List.length_cons, List.length_nil]
  have e : (1 : Int32).toNatClampNeg = 1 := by decide
  omega
def Q3f (Z : State) (a1 : Addr) (p2 : Int32) (kx_w_pieces_a1 : ClassId) (w_pieces_a1 : Addr) (h0 : Heap) (n0 : Nat) (v : Option Value) (h : Heap) (L : List Loc) : Prop := ∃ (t0 : Addr) (kx_t0 : ClassId), v = none ∧ Fr n0 L ∧ Keep h0 h [a1, w_pieces_a1] ∧ h0.size ≤ t0 ∧ Exa Z h a1 "com/example/outcomery/outcomery/PackedNumbers" ∧ Fld Z h a1 "com/example/outcomery/outcomery/PackedNumbers" "length" "I" (.int (own_F (0 : Int32) p2)) ∧ Fld Z h a1 "com/example/outcomery/outcomery/PackedNumbers" "pieces" "[[B" (.ref w_pieces_a1) ∧ Arv Z h w_pieces_a1 kx_w_pieces_a1 (.array .byte) (1 : Int32) [(.ref t0)] .null ∧ OvrA Z kx_w_pieces_a1 .byte "[B" ∧ Exa Z h t0 "[B" ∧ Arv Z h t0 kx_t0 .byte (64 : Int32) (own_E [] p2) (.int (0 : Int32))
set_option maxRecDepth 65536 in
set_option maxHeartbeats 40000000 in
theorem rm3f (l : Launch) (Z : State) (a0 : Array Value) (hw : ∀ d ∈ tables_1, d.before a0 Z = true) (ws : List Jvm.Cond) (a1 : Addr) (p2 : Int32) (kx_w_pieces_a1 : ClassId) (w_pieces_a1 : Addr) (h0 : Heap) (n0 : Nat) (Z0 : n0 ≤ h0.size) (V_w_pieces_a1 : Arv Z h0 w_pieces_a1 kx_w_pieces_a1 (.array .byte) (1 : Int32) [.null] .null) (O_w_pieces_a1 : OvrA Z kx_w_pieces_a1 .byte "[B") (F_pieces_a1 : Fld Z h0 a1 "com/example/outcomery/outcomery/PackedNumbers" "pieces" "[[B" (.ref w_pieces_a1)) (hp0 : ¬ p2 < 0) (F_length_a1 : Fld Z h0 a1 "com/example/outcomery/outcomery/PackedNumbers" "length" "I" (.int (0 : Int32))) (g_w_pieces_a1 : n0 ≤ w_pieces_a1) (ne_a1_w_pieces_a1 : a1 ≠ w_pieces_a1) (E_a1 : Exa Z h0 a1 "com/example/outcomery/outcomery/PackedNumbers") (g_a1 : n0 ≤ a1) :
    MetFree l (⟨"com/example/outcomery/outcomery/PackedNumbers", "add", "(I)V"⟩ : MethodName) (head1 (Jvm.Cond.code (⟨"com/example/outcomery/outcomery/PackedNumbers", "add", "(I)V"⟩ : MethodName) prog_23_method_2_code 3 none :: ws) ({ frames := 1, cells := 1, slots := 64, locals := 16 } : Room)) (fun a U => a = #[(.ref a1), (.int p2)] ∧ Z.Warmed39 U.vm ∧ U.heap = h0) (fun _ _ _ _ _ => True) (fun _ U o U' => ∃ v L, o = .returned v ∧ Q3f Z a1 p2 kx_w_pieces_a1 w_pieces_a1 h0 n0 v U'.heap L ∧ FrameEnd U o U' L ({ frames := 1, cells := 1, slots := 64, locals := 16 } : Room).cells ({ frames := 1, cells := 1, slots := 64, locals := 16 } : Room).slots) := by
  refine MetFree.of_bodySF (plainFor_of_name pn_3) hisR ?_
  intro p e s m args below meth c s₁ Bd hml0 hP hK
  obtain ⟨rfl, hZ, hh⟩ := hP
  have hx := Bd.exec
  have hby := Bd.bytes
  have hml : c.maxLocals = 3 := hml0
  have hown : s.vm.findClass "com/example/outcomery/outcomery/PackedNumbers" = some m.cls := findClass_of_methodNamed Bd.named
  have hnm := (name_of_methodNamed Bd.named Bd.method).1
  have X0 : Stand p l e ({ frames := 1, cells := 1, slots := 64, locals := 16 } : Room) s m #[(.ref a1), (.int p2)] below meth c s₁ [] 0 0 := Stand.of_body Bd
  have e0 : s₁.heap = h0 := by rw [← hh, Bd.state]; rfl
  have N0 := Fr.nil n0
  have K0 : Keep h0 h0 [a1, w_pieces_a1] := Keep.refl h0 _
  refine (show Gl p e below (fun o U' => ∃ v L, o = .returned v ∧ Q3f Z a1 p2 kx_w_pieces_a1 w_pieces_a1 h0 n0 v U'.heap L ∧ FrameEnd s o U' L ({ frames := 1, cells := 1, slots := 64, locals := 16 } : Room).cells ({ frames := 1, cells := 1, slots := 64, locals := 16 } : Room).slots) (s₁.setTop (entryFrame m #[(.ref a1), (.int p2)] 3)) from ?_)
  obtain ⟨L0, hL0⟩ : ∃ z : Array Slot, z = #[.val (.ref a1), .val (.int p2), .unset] := ⟨_, rfl⟩
  refine Gl.st (B := (s₁.setTop (mkF m 0 L0 []))) (fun t k => castTop (efAt hL0 (ef_3f m a1 p2)) k) ?_
  refine Gl.st (B := (s₁.setTop (mkF m 1 L0 [(.int p2)]))) (fun t k => XS.iloadN X0.here hx rfl (hb hby d3_0) (ldAt hL0 rfl) k) ?_
  obtain ⟨L1, hL1⟩ : ∃ z : Array Slot, z = #[.val (.ref a1), .val (.int p2), .val (.int p2)] := ⟨_, rfl⟩
  refine Gl.st (B := (s₁.setTop (mkF m 2 L1 []))) (fun t k => XS.istoreN X0.here hx rfl (hb hby d3_1) rfl (l' := L1) (stAt hL0 hL1 rfl rfl) k) ?_
  refine Gl.st (B := (s₁.setTop (mkF m 3 L1 [(.int p2)]))) (fun t k => XS.iloadN X0.here hx rfl (hb hby d3_2) (ldAt hL1 rfl) k) ?_
  refine Gl.st (B := (s₁.setTop (mkF m 6 L1 [(.int (128 : Int32)), (.int p2)]))) (fun t k => XS.sipush X0.here hx rfl (hb hby d3_3) k) ?_
  by_cases hc6_2 : p2 < (128 : Int32)
  · skip
    refine Gl.st (B := (s₁.setTop (mkF m 29 L1 []))) (fun t k => XS.icmpYes X0.here hx rfl (pc0 := 6) (pc' := 29) rfl (hb hby d3_6) rfl (tlt hc6_2).1 (by decide) (by decide) k) ?_
    refine Gl.st (B := (s₁.setTop (mkF m 30 L1 [(.ref a1)]))) (fun t k => XS.aloadN X0.here hx rfl (hb hby d3_29) (ldAt hL1 rfl) rfl k) ?_
    refine Gl.st (B := (s₁.setTop (mkF m 31 L1 [(.int p2), (.ref a1)]))) (fun t k => XS.iloadN X0.here hx rfl (hb hby d3_30) (ldAt hL1 rfl) k) ?_
    obtain ⟨cq3, q3, q3'⟩ := E_a1.cell
    obtain ⟨_, _, ⟨T3, L3q, k3, n3⟩, -, X3, ⟨Lc3, hQ3, l3, y3, z3⟩, st3⟩ := X0.privateBack hx (y := (⟨"com/example/outcomery/outcomery/PackedNumbers", "put", "(I)V"⟩ : MethodName)) hown (mvT hZ (tw hw 19 rfl)) (mvT hZ (tw hw 20 rfl)) (own_selp (mvT hZ (tw hw 2 rfl)) (mvP hZ (tw hw 21 rfl)) (mvT hZ (tw hw 20 rfl)) (by decide)) (Cond.privateMethod_at (mvP hZ (tw hw 21 rfl) (args := #[]))) (mvT hZ (tw hw 22 rfl)) (by decide) (backOf (W := 0) (rm4f l Z a0 hw [] a1 p2 kx_w_pieces_a1 w_pieces_a1 h0 n0 Z0 V_w_pieces_a1 O_w_pieces_a1 F_pieces_a1 F_length_a1 g_w_pieces_a1 ne_a1_w_pieces_a1 E_a1 g_a1) hZ (tw hw 22 rfl) (tw hw 3 rfl) (by decide) (by decide)) (g := (mkF m 31 L1 [(.int p2), (.ref a1)])) rfl (szAt hml hL1 rfl) (Steps.refl _) (a := a1) (by rw [e0]; exact q3) q3' (argsL := [(.int p2)]) (rest := []) (lenOf pd_3f_0 rfl) rfl (by show 2 * 0 + _ ≤ _; exact Nat.le_of_eq rfl) (hb hby d3_31) (fun _ _ => ⟨rfl, e0, (by decide : 0 + 1 ≤ _), (by decide : 0 + 64 ≤ _)⟩)
    dsimp only [Pt.U, Pt.locs, Pt.cells, Pt.slots] at X3 l3 y3 z3 st3 hQ3
    subst l3 y3 z3
    obtain ⟨b3_t0, k3_kx_t0, rfl, N3q, Kc3, fq3_0, fq3_1, fq3_2, fq3_3, fq3_4, fq3_5, fq3_6, fq3_7⟩ := hQ3
    have g_b3_t0 : n0 ≤ b3_t0 := Nat.le_trans Z0 fq3_0
    have sz_b3_t0 : h0.size ≤ b3_t0 := Nat.le_trans K0.1 fq3_0
    have lt_b3_t0 := fq3_6.lt
    have Zc4 : n0 ≤ T3.heap.size := Nat.le_trans Z0 Kc3.1
    have K5 : Keep h0 T3.heap [a1, w_pieces_a1] := K0.trans Kc3 (allS (Or.inl (List.mem_of_getElem? (i := 1) rfl)) (allS (Or.inl (List.mem_of_getElem? (i := 0) rfl)) all0))
    have N3 := Fr.app N0 N3q
    refine Gl.st (B := (T3.setTop (mkF m 34 L1 []))) (fun t k => st3.trans k) ?_
    obtain ⟨fs, hr, hrun, hended, hW, hsame⟩ := X3.leave (v := none) (fun _ => rfl)
    refine Gl.fin (X3.returnOut hx Bd.returns (hb hby d3_34) hr) hrun hended ⟨_, _, rfl, ?_, ⟨_, rfl⟩, hW, hsame.mono (by decide) (by decide)⟩
    show Q3f Z a1 p2 kx_w_pieces_a1 w_pieces_a1 h0 n0 _ T3.heap _
    exact ⟨b3_t0, k3_kx_t0, rfl, N3, K5, sz_b3_t0, fq3_3, (by rw [own_F_eq, if_pos hc6_2]; exact fq3_4), fq3_5, fq3_1, fq3_2, fq3_6, (by rw [own_E_eq, if_pos hc6_2]; exact fq3_7)⟩
  · skip
    refine Gl.st (B := (s₁.setTop (mkF m 9 L1 []))) (fun t k => XS.icmpNo X0.here hx rfl (hb hby d3_6) rfl (flt hc6_2).1 k) ?_
    refine Gl.st (B := (s₁.setTop (mkF m 10 L1 [(.ref a1)]))) (fun t k => XS.aloadN X0.here hx rfl (hb hby d3_9) (ldAt hL1 rfl) rfl k) ?_
    refine Gl.st (B := (s₁.setTop (mkF m 11 L1 [(.int p2), (.ref a1)]))) (fun t k => XS.iloadN X0.here hx rfl (hb hby d3_10) (ldAt hL1 rfl) k) ?_
    refine Gl.st (B := (s₁.setTop (mkF m 13 L1 [(.int (127 : Int32)), (.int p2), (.ref a1)]))) (fun t k => XS.bipush X0.here hx rfl (hb hby d3_11) k) ?_
    refine Gl.st (B := (s₁.setTop (mkF m 14 L1 [(.int (p2 &&& (127 : Int32))), (.ref a1)]))) (fun t k => XS.iand X0.here hx rfl (hb hby d3_13) rfl k) ?_
    refine Gl.st (B := (s₁.setTop (mkF m 17 L1 [(.int (128 : Int32)), (.int (p2 &&& (127 : Int32))), (.ref a1)]))) (fun t k => XS.sipush X0.here hx rfl (hb hby d3_14) k) ?_
    refine Gl.st (B := (s₁.setTop (mkF m 18 L1 [(.int ((p2 &&& (127 : Int32)) ||| (128 : Int32))), (.ref a1)]))) (fun t k => XS.ior X0.here hx rfl (hb hby d3_17) rfl k) ?_
    obtain ⟨x18_6, hx18_6⟩ : ∃ z : Int32, z = ((p2 &&& (127 : Int32)) ||| (128 : Int32)) := ⟨_, rfl⟩
    refine Gl.cast (B := (s₁.setTop (mkF m 18 L1 [(.int x18_6), (.ref a1)]))) (by rw [hx18_6]) ?_
    obtain ⟨cq7, q7, q7'⟩ := E_a1.cell
    obtain ⟨_, _, ⟨T7, L7q, k7, n7⟩, -, X7, ⟨Lc7, hQ7, l7, y7, z7⟩, st7⟩ := X0.privateBack hx (y := (⟨"com/example/outcomery/outcomery/PackedNumbers", "put", "(I)V"⟩ : MethodName)) hown (mvT hZ (tw hw 19 rfl)) (mvT hZ (tw hw 20 rfl)) (own_selp (mvT hZ (tw hw 2 rfl)) (mvP hZ (tw hw 21 rfl)) (mvT hZ (tw hw 20 rfl)) (by decide)) (Cond.privateMethod_at (mvP hZ (tw hw 21 rfl) (args := #[]))) (mvT hZ (tw hw 22 rfl)) (by decide) (backOf (W := 0) (rm4f l Z a0 hw [] a1 x18_6 kx_w_pieces_a1 w_pieces_a1 h0 n0 Z0 V_w_pieces_a1 O_w_pieces_a1 F_pieces_a1 F_length_a1 g_w_pieces_a1 ne_a1_w_pieces_a1 E_a1 g_a1) hZ (tw hw 22 rfl) (tw hw 3 rfl) (by decide) (by decide)) (g := (mkF m 18 L1 [(.int x18_6), (.ref a1)])) rfl (szAt hml hL1 rfl) (Steps.refl _) (a := a1) (by rw [e0]; exact q7) q7' (argsL := [(.int x18_6)]) (rest := []) (lenOf pd_3f_0 rfl) rfl (by show 2 * 0 + _ ≤ _; exact Nat.le_of_eq rfl) (hb hby d3_18) (fun _ _ => ⟨rfl, e0, (by decide : 0 + 1 ≤ _), (by decide : 0 + 64 ≤ _)⟩)
    dsimp only [Pt.U, Pt.locs, Pt.cells, Pt.slots] at X7 l7 y7 z7 st7 hQ7
    subst l7 y7 z7
    obtain ⟨b7_t0, k7_kx_t0, rfl, N7q, Kc7, fq7_0, fq7_1, fq7_2, fq7_3, fq7_4, fq7_5, fq7_6, fq7_7⟩ := hQ7
    have g_b7_t0 : n0 ≤ b7_t0 := Nat.le_trans Z0 fq7_0
    have sz_b7_t0 : h0.size ≤ b7_t0 := Nat.le_trans K0.1 fq7_0
    have lt_b7_t0 := fq7_6.lt
    have Zc8 : n0 ≤ T7.heap.size := Nat.le_trans Z0 Kc7.1
    have K9 : Keep h0 T7.heap [a1, w_pieces_a1] := K0.trans Kc7 (allS (Or.inl (List.mem_of_getElem? (i := 1) rfl)) (allS (Or.inl (List.mem_of_getElem? (i := 0) rfl)) all0))
    have N7 := Fr.app N0 N7q
    refine Gl.st (B := (T7.setTop (mkF m 21 L1 []))) (fun t k => st7.trans k) ?_
    refine Gl.st (B := (T7.setTop (mkF m 22 L1 [(.int p2)]))) (fun t k => XS.iloadN X7.here hx rfl (hb hby d3_21) (ldAt hL1 rfl) k) ?_
    refine Gl.st (B := (T7.setTop (mkF m 24 L1 [(.int (7 : Int32)), (.int p2)]))) (fun t k => XS.bipush X7.here hx rfl (hb hby d3_22) k) ?_
    refine Gl.st (B := (T7.setTop (mkF m 25 L1 [(.int ((p2.toUInt32 >>> ((7 : Int32) &&& 31).toUInt32).toInt32))]))) (fun t k => XS.iushr X7.here hx rfl (hb hby d3_24) rfl k) ?_
    obtain ⟨y2_25_10, hy2_25_10⟩ : ∃ z : Int32, z = ((p2.toUInt32 >>> ((7 : Int32) &&& 31).toUInt32).toInt32) := ⟨_, rfl⟩
    refine Gl.cast (B := (T7.setTop (mkF m 25 L1 [(.int y2_25_10)]))) (by rw [hy2_25_10]) ?_
    obtain ⟨L11, hL11⟩ : ∃ z : Array Slot, z = #[.val (.ref a1), .val (.int p2), .val (.int y2_25_10)] := ⟨_, rfl⟩
    refine Gl.st (B := (T7.setTop (mkF m 26 L11 []))) (fun t k => XS.istoreN X7.here hx rfl (hb hby d3_25) rfl (l' := L11) (stAt hL1 hL11 rfl rfl) k) ?_
    refine Gl.st (B := (T7.setTop (mkF m 2 L11 []))) (fun t k => XS.goto X7.here hx rfl (pc0 := 26) (pc' := 2) rfl (hb hby d3_26) (by decide) (by decide) k) ?_
    refine Gl.st (B := (T7.setTop (mkF m 3 L11 [(.int y2_25_10)]))) (fun t k => XS.iloadN X7.here hx rfl (hb hby d3_2) (ldAt hL11 rfl) k) ?_
    refine Gl.st (B := (T7.setTop (mkF m 6 L11 [(.int (128 : Int32)), (.int y2_25_10)]))) (fun t k => XS.sipush X7.here hx rfl (hb hby d3_3) k) ?_
    by_cases hc6_12 : y2_25_10 < (128 : Int32)
    · skip
      refine Gl.st (B := (T7.setTop (mkF m 29 L11 []))) (fun t k => XS.icmpYes X7.here hx rfl (pc0 := 6) (pc' := 29) rfl (hb hby d3_6) rfl (tlt hc6_12).1 (by decide) (by decide) k) ?_
      refine Gl.st (B := (T7.setTop (mkF m 30 L11 [(.ref a1)]))) (fun t k => XS.aloadN X7.here hx rfl (hb hby d3_29) (ldAt hL11 rfl) rfl k) ?_
      refine Gl.st (B := (T7.setTop (mkF m 31 L11 [(.int y2_25_10), (.ref a1)]))) (fun t k => XS.iloadN X7.here hx rfl (hb hby d3_30) (ldAt hL11 rfl) k) ?_
      have hp31_14 : ¬ (1 : Int32) < 0 := by
        decide
      have hp31_15 : (1 : Int32) < 63 := by
        decide
      have hp31_16 : ([(.int (nar .byte ((x18_6.toInt8.toInt32))))] : List Value).length = (1 : Int32).toNatClampNeg := by
        rfl
      have ne_a1_b7_t0_17 : a1 ≠ b7_t0 := Nat.ne_of_lt (Nat.lt_of_lt_of_le F_pieces_a1.lt fq7_0)
      obtain ⟨cq13, q13, q13'⟩ := fq7_3.cell
      obtain ⟨_, _, ⟨T13, L13q, k13, n13⟩, -, X13, ⟨Lc13, hQ13, l13, y13, z13⟩, st13⟩ := X7.privateBack hx (y := (⟨"com/example/outcomery/outcomery/PackedNumbers", "put", "(I)V"⟩ : MethodName)) hown (mvT hZ (tw hw 19 rfl)) (mvT hZ (tw hw 20 rfl)) (own_selp (mvT hZ (tw hw 2 rfl)) (mvP hZ (tw hw 21 rfl)) (mvT hZ (tw hw 20 rfl)) (by decide)) (Cond.privateMethod_at (mvP hZ (tw hw 21 rfl) (args := #[]))) (mvT hZ (tw hw 22 rfl)) (by decide) (backOf (W := 0) (rm4n l Z a0 hw [] a1 y2_25_10 kx_w_pieces_a1 b7_t0 k7_kx_t0 ([(.int (nar .byte ((x18_6.toInt8.toInt32))))] : List Value) w_pieces_a1 (1 : Int32) T7.heap n0 Zc8 fq7_1 fq7_2 fq7_7 fq7_5 fq7_4 hp31_14 hp31_15 hp31_16 g_b7_t0 ne_a1_b7_t0_17 fq7_3 g_a1) hZ (tw hw 22 rfl) (tw hw 3 rfl) (by decide) (by decide)) (g := (mkF m 31 L11 [(.int y2_25_10), (.ref a1)])) rfl (szAt hml hL11 rfl) (Steps.refl _) (a := a1) q13 q13' (argsL := [(.int y2_25_10)]) (rest := []) (lenOf pd_3f_0 rfl) rfl (by show 2 * 0 + _ ≤ _; exact Nat.le_of_eq rfl) (hb hby d3_31) (fun _ _ => ⟨rfl, rfl, (by decide : 1 + 0 ≤ _), (by decide : 64 + 0 ≤ _)⟩)
      dsimp only [Pt.U, Pt.locs, Pt.cells, Pt.slots] at X13 l13 y13 z13 st13 hQ13
      subst l13 y13 z13
      obtain ⟨rfl, N13q, Kc13, fq13_0, fq13_1, fq13_2, fq13_3⟩ := hQ13
      have Zc18 : n0 ≤ T13.heap.size := Nat.le_trans Zc8 Kc13.1
      have K19 : Keep h0 T13.heap [a1, w_pieces_a1] := K9.trans Kc13 (allS (Or.inr sz_b7_t0) (allS (Or.inl (List.mem_of_getElem? (i := 0) rfl)) all0))
      obtain ⟨vl31_20, hvl31_20⟩ : ∃ z : List Value, z = (([(.int (nar .byte ((x18_6.toInt8.toInt32))))] : List Value) ++ [(.int (nar .byte ((y2_25_10.toInt8.toInt32))))]) := ⟨_, rfl⟩
      rw [← hvl31_20] at fq13_0
      obtain ⟨f31_21, hf31_21⟩ : ∃ z : Int32, z = (((1 : Int32) + (1 : Int32))) := ⟨_, rfl⟩
      rw [← hf31_21] at fq13_2
      have N13 := Fr.app N7 N13q
      refine Gl.st (B := (T13.setTop (mkF m 34 L11 []))) (fun t k => st13.trans k) ?_
      obtain ⟨fs, hr, hrun, hended, hW, hsame⟩ := X13.leave (v := none) (fun _ => rfl)
      refine Gl.fin (X13.returnOut hx Bd.returns (hb hby d3_34) hr) hrun hended ⟨_, _, rfl, ?_, ⟨_, rfl⟩, hW, hsame.mono (by decide) (by decide)⟩
      show Q3f Z a1 p2 kx_w_pieces_a1 w_pieces_a1 h0 n0 _ T13.heap _
      have ne_w_pieces_a1_b7_t0_22 : w_pieces_a1 ≠ b7_t0 := Nat.ne_of_lt (Nat.lt_of_lt_of_le V_w_pieces_a1.lt fq7_0)
      have c23 := (fq7_1.keep Kc13 (ninS ne_w_pieces_a1_b7_t0_22 (ninS (Ne.symm ne_a1_w_pieces_a1) nin0)))
      have c24 := (fq7_6.keep Kc13)
      exact ⟨b7_t0, k7_kx_t0, rfl, N13, K19, sz_b7_t0, fq13_1, (by subst hf31_21; subst hy2_25_10; rw [own_F_eq, if_neg hc6_2, if_pos hc6_12]; exact fq13_2), fq13_3, c23, fq7_2, c24, (by subst hvl31_20; subst hx18_6; subst hy2_25_10; rw [own_E_eq, if_neg hc6_2, if_pos hc6_12]; exact fq13_0)⟩
    · skip
      refine Gl.st (B := (T7.setTop (mkF m 9 L11 []))) (fun t k => XS.icmpNo X7.here hx rfl (hb hby d3_6) rfl (flt hc6_12).1 k) ?_
      refine Gl.st (B := (T7.setTop (mkF m 10 L11 [(.ref a1)]))) (fun t k => XS.aloadN X7.here hx rfl (hb hby d3_9) (ldAt hL11 rfl) rfl k) ?_
      refine Gl.st (B := (T7.setTop (mkF m 11 L11 [(.int y2_25_10), (.ref a1)]))) (fun t k => XS.iloadN X7.here hx rfl (hb hby d3_10) (ldAt hL11 rfl) k) ?_
      refine Gl.st (B := (T7.setTop (mkF m 13 L11 [(.int (127 : Int32)), (.int y2_25_10), (.ref a1)]))) (fun t k => XS.bipush X7.here hx rfl (hb hby d3_11) k) ?_
      refine Gl.st (B := (T7.setTop (mkF m 14 L11 [(.int (y2_25_10 &&& (127 : Int32))), (.ref a1)]))) (fun t k => XS.iand X7.here hx rfl (hb hby d3_13) rfl k) ?_
      refine Gl.st (B := (T7.setTop (mkF m 17 L11 [(.int (128 : Int32)), (.int (y2_25_10 &&& (127 : Int32))), (.ref a1)]))) (fun t k => XS.sipush X7.here hx rfl (hb hby d3_14) k) ?_
      refine Gl.st (B := (T7.setTop (mkF m 18 L11 [(.int ((y2_25_10 &&& (127 : Int32)) ||| (128 : Int32))), (.ref a1)]))) (fun t k => XS.ior X7.here hx rfl (hb hby d3_17) rfl k) ?_
      obtain ⟨x18_22, hx18_22⟩ : ∃ z : Int32, z = ((y2_25_10 &&& (127 : Int32)) ||| (128 : Int32)) := ⟨_, rfl⟩
      refine Gl.cast (B := (T7.setTop (mkF m 18 L11 [(.int x18_22), (.ref a1)]))) (by rw [hx18_22]) ?_
      have hp18_24 : ¬ (1 : Int32) < 0 := by
        decide
      have hp18_25 : (1 : Int32) < 63 := by
        decide
      have hp18_26 : ([(.int (nar .byte ((x18_6.toInt8.toInt32))))] : List Value).length = (1 : Int32).toNatClampNeg := by
        rfl
      have ne_a1_b7_t0_27 : a1 ≠ b7_t0 := Nat.ne_of_lt (Nat.lt_of_lt_of_le F_pieces_a1.lt fq7_0)
      obtain ⟨cq23, q23, q23'⟩ := fq7_3.cell
      obtain ⟨_, _, ⟨T23, L23q, k23, n23⟩, -, X23, ⟨Lc23, hQ23, l23, y23, z23⟩, st23⟩ := X7.privateBack hx (y := (⟨"com/example/outcomery/outcomery/PackedNumbers", "put", "(I)V"⟩ : MethodName)) hown (mvT hZ (tw hw 19 rfl)) (mvT hZ (tw hw 20 rfl)) (own_selp (mvT hZ (tw hw 2 rfl)) (mvP hZ (tw hw 21 rfl)) (mvT hZ (tw hw 20 rfl)) (by decide)) (Cond.privateMethod_at (mvP hZ (tw hw 21 rfl) (args := #[]))) (mvT hZ (tw hw 22 rfl)) (by decide) (backOf (W := 0) (rm4n l Z a0 hw [] a1 x18_22 kx_w_pieces_a1 b7_t0 k7_kx_t0 ([(.int (nar .byte ((x18_6.toInt8.toInt32))))] : List Value) w_pieces_a1 (1 : Int32) T7.heap n0 Zc8 fq7_1 fq7_2 fq7_7 fq7_5 fq7_4 hp18_24 hp18_25 hp18_26 g_b7_t0 ne_a1_b7_t0_27 fq7_3 g_a1) hZ (tw hw 22 rfl) (tw hw 3 rfl) (by decide) (by decide)) (g := (mkF m 18 L11 [(.int x18_22), (.ref a1)])) rfl (szAt hml hL11 rfl) (Steps.refl _) (a := a1) q23 q23' (argsL := [(.int x18_22)]) (rest := []) (lenOf pd_3f_0 rfl) rfl (by show 2 * 0 + _ ≤ _; exact Nat.le_of_eq rfl) (hb hby d3_18) (fun _ _ => ⟨rfl, rfl, (by decide : 1 + 0 ≤ _), (by decide : 64 + 0 ≤ _)⟩)
      dsimp only [Pt.U, Pt.locs, Pt.cells, Pt.slots] at X23 l23 y23 z23 st23 hQ23
      subst l23 y23 z23
      obtain ⟨rfl, N23q, Kc23, fq23_0, fq23_1, fq23_2, fq23_3⟩ := hQ23
      have Zc28 : n0 ≤ T23.heap.size := Nat.le_trans Zc8 Kc23.1
      have K29 : Keep h0 T23.heap [a1, w_pieces_a1] := K9.trans Kc23 (allS (Or.inr sz_b7_t0) (allS (Or.inl (List.mem_of_getElem? (i := 0) rfl)) all0))
      obtain ⟨vl18_30, hvl18_30⟩ : ∃ z : List Value, z = (([(.int (nar .byte ((x18_6.toInt8.toInt32))))] : List Value) ++ [(.int (nar .byte ((x18_22.toInt8.toInt32))))]) := ⟨_, rfl⟩
      rw [← hvl18_30] at fq23_0
      obtain ⟨f18_31, hf18_31⟩ : ∃ z : Int32, z = (((1 : Int32) + (1 : Int32))) := ⟨_, rfl⟩
      rw [← hf18_31] at fq23_2
      have N23 := Fr.app N7 N23q
      refine Gl.st (B := (T23.setTop (mkF m 21 L11 []))) (fun t k => st23.trans k) ?_
      refine Gl.st (B := (T23.setTop (mkF m 22 L11 [(.int y2_25_10)]))) (fun t k => XS.iloadN X23.here hx rfl (hb hby d3_21) (ldAt hL11 rfl) k) ?_
      refine Gl.st (B := (T23.setTop (mkF m 24 L11 [(.int (7 : Int32)), (.int y2_25_10)]))) (fun t k => XS.bipush X23.here hx rfl (hb hby d3_22) k) ?_
      refine Gl.st (B := (T23.setTop (mkF m 25 L11 [(.int ((y2_25_10.toUInt32 >>> ((7 : Int32) &&& 31).toUInt32).toInt32))]))) (fun t k => XS.iushr X23.here hx rfl (hb hby d3_24) rfl k) ?_
      obtain ⟨y2_25_32, hy2_25_32⟩ : ∃ z : Int32, z = ((y2_25_10.toUInt32 >>> ((7 : Int32) &&& 31).toUInt32).toInt32) := ⟨_, rfl⟩
      refine Gl.cast (B := (T23.setTop (mkF m 25 L11 [(.int y2_25_32)]))) (by rw [hy2_25_32]) ?_
      obtain ⟨L33, hL33⟩ : ∃ z : Array Slot, z = #[.val (.ref a1), .val (.int p2), .val (.int y2_25_32)] := ⟨_, rfl⟩
      refine Gl.st (B := (T23.setTop (mkF m 26 L33 []))) (fun t k => XS.istoreN X23.here hx rfl (hb hby d3_25) rfl (l' := L33) (stAt hL11 hL33 rfl rfl) k) ?_
      refine Gl.st (B := (T23.setTop (mkF m 2 L33 []))) (fun t k => XS.goto X23.here hx rfl (pc0 := 26) (pc' := 2) rfl (hb hby d3_26) (by decide) (by decide) k) ?_
      refine Gl.st (B := (T23.setTop (mkF m 3 L33 [(.int y2_25_32)]))) (fun t k => XS.iloadN X23.here hx rfl (hb hby d3_2) (ldAt hL33 rfl) k) ?_
      refine Gl.st (B := (T23.setTop (mkF m 6 L33 [(.int (128 : Int32)), (.int y2_25_32)]))) (fun t k => XS.sipush X23.here hx rfl (hb hby d3_3) k) ?_
      by_cases hc6_34 : y2_25_32 < (128 : Int32)
      · skip
        refine Gl.st (B := (T23.setTop (mkF m 29 L33 []))) (fun t k => XS.icmpYes X23.here hx rfl (pc0 := 6) (pc' := 29) rfl (hb hby d3_6) rfl (tlt hc6_34).1 (by decide) (by decide) k) ?_
        refine Gl.st (B := (T23.setTop (mkF m 30 L33 [(.ref a1)]))) (fun t k => XS.aloadN X23.here hx rfl (hb hby d3_29) (ldAt hL33 rfl) rfl k) ?_
        refine Gl.st (B := (T23.setTop (mkF m 31 L33 [(.int y2_25_32), (.ref a1)]))) (fun t k => XS.iloadN X23.here hx rfl (hb hby d3_30) (ldAt hL33 rfl) k) ?_
        have ne_w_pieces_a1_b7_t0_36 : w_pieces_a1 ≠ b7_t0 := Nat.ne_of_lt (Nat.lt_of_lt_of_le V_w_pieces_a1.lt fq7_0)
        have c37 := (fq7_1.keep Kc23 (ninS ne_w_pieces_a1_b7_t0_36 (ninS (Ne.symm ne_a1_w_pieces_a1) nin0)))
        have hp31_38 : ¬ f18_31 < 0 := own_3f_hp31_38 f18_31 hf18_31 
        have hp31_39 : f18_31 < 63 := own_3f_hp31_39 f18_31 hf18_31 
        have hp31_40 : vl18_30.length = f18_31.toNatClampNeg := own_3f_hp31_40 p2 x18_6 y2_25_10 x18_22 vl18_30 f18_31 hx18_6 hy2_25_10 hx18_22 hvl18_30 hf18_31 hc6_2 hc6_12 hp0
        obtain ⟨cq35, q35, q35'⟩ := fq23_1.cell
        obtain ⟨_, _, ⟨T35, L35q, k35, n35⟩, -, X35, ⟨Lc35, hQ35, l35, y35, z35⟩, st35⟩ := X23.privateBack hx (y := (⟨"com/example/outcomery/outcomery/PackedNumbers", "put", "(I)V"⟩ : MethodName)) hown (mvT hZ (tw hw 19 rfl)) (mvT hZ (tw hw 20 rfl)) (own_selp (mvT hZ (tw hw 2 rfl)) (mvP hZ (tw hw 21 rfl)) (mvT hZ (tw hw 20 rfl)) (by decide)) (Cond.privateMethod_at (mvP hZ (tw hw 21 rfl) (args := #[]))) (mvT hZ (tw hw 22 rfl)) (by decide) (backOf (W := 0) (rm4n l Z a0 hw [] a1 y2_25_32 kx_w_pieces_a1 b7_t0 k7_kx_t0 vl18_30 w_pieces_a1 f18_31 T23.heap n0 Zc28 c37 fq7_2 fq23_0 fq23_3 fq23_2 hp31_38 hp31_39 hp31_40 g_b7_t0 ne_a1_b7_t0_27 fq23_1 g_a1) hZ (tw hw 22 rfl) (tw hw 3 rfl) (by decide) (by decide)) (g := (mkF m 31 L33 [(.int y2_25_32), (.ref a1)])) rfl (szAt hml hL33 rfl) (Steps.refl _) (a := a1) q35 q35' (argsL := [(.int y2_25_32)]) (rest := []) (lenOf pd_3f_0 rfl) rfl (by show 2 * 0 + _ ≤ _; exact Nat.le_of_eq rfl) (hb hby d3_31) (fun _ _ => ⟨rfl, rfl, (by decide : 1 + 0 ≤ _), (by decide : 64 + 0 ≤ _)⟩)
        dsimp only [Pt.U, Pt.locs, Pt.cells, Pt.slots] at X35 l35 y35 z35 st35 hQ35
        subst l35 y35 z35
        obtain ⟨rfl, N35q, Kc35, fq35_0, fq35_1, fq35_2, fq35_3⟩ := hQ35
        have c41 := (fq7_6.keep Kc23)
        have Zc42 : n0 ≤ T35.heap.size := Nat.le_trans Zc28 Kc35.1
        have K43 : Keep h0 T35.heap [a1, w_pieces_a1] := K29.trans Kc35 (allS (Or.inr sz_b7_t0) (allS (Or.inl (List.mem_of_getElem? (i := 0) rfl)) all0))
        obtain ⟨vl31_44, hvl31_44⟩ : ∃ z : List Value, z = (vl18_30 ++ [(.int (nar .byte ((y2_25_32.toInt8.toInt32))))]) := ⟨_, rfl⟩
        rw [← hvl31_44] at fq35_0
        obtain ⟨f31_45, hf31_45⟩ : ∃ z : Int32, z = ((f18_31 + (1 : Int32))) := ⟨_, rfl⟩
        rw [← hf31_45] at fq35_2
        have N35 := Fr.app N23 N35q
        refine Gl.st (B := (T35.setTop (mkF m 34 L33 []))) (fun t k => st35.trans k) ?_
        obtain ⟨fs, hr, hrun, hended, hW, hsame⟩ := X35.leave (v := none) (fun _ => rfl)
        refine Gl.fin (X35.returnOut hx Bd.returns (hb hby d3_34) hr) hrun hended ⟨_, _, rfl, ?_, ⟨_, rfl⟩, hW, hsame.mono (by decide) (by decide)⟩
        show Q3f Z a1 p2 kx_w_pieces_a1 w_pieces_a1 h0 n0 _ T35.heap _
        have c46 := (c37.keep Kc35 (ninS ne_w_pieces_a1_b7_t0_36 (ninS (Ne.symm ne_a1_w_pieces_a1) nin0)))
        have c47 := (c41.keep Kc35)
        exact ⟨b7_t0, k7_kx_t0, rfl, N35, K43, sz_b7_t0, fq35_1, (by subst hf31_45; subst hf18_31; subst hy2_25_10; subst hy2_25_32; rw [own_F_eq, if_neg hc6_2, if_neg hc6_12, if_pos hc6_34]; exact fq35_2), fq35_3, c46, fq7_2, c47, (by subst hvl31_44; subst hvl18_30; subst hx18_6; subst hx18_22; subst hy2_25_10; subst hy2_25_32; rw [own_E_eq, if_neg hc6_2, if_neg hc6_12, if_pos hc6_34]; exact fq35_0)⟩
      · skip
        refine Gl.st (B := (T23.setTop (mkF m 9 L33 []))) (fun t k => XS.icmpNo X23.here hx rfl (hb hby d3_6) rfl (flt hc6_34).1 k) ?_
        refine Gl.st (B := (T23.setTop (mkF m 10 L33 [(.ref a1)]))) (fun t k => XS.aloadN X23.here hx rfl (hb hby d3_9) (ldAt hL33 rfl) rfl k) ?_
        refine Gl.st (B := (T23.setTop (mkF m 11 L33 [(.int y2_25_32), (.ref a1)]))) (fun t k => XS.iloadN X23.here hx rfl (hb hby d3_10) (ldAt hL33 rfl) k) ?_
        refine Gl.st (B := (T23.setTop (mkF m 13 L33 [(.int (127 : Int32)), (.int y2_25_32), (.ref a1)]))) (fun t k => XS.bipush X23.here hx rfl (hb hby d3_11) k) ?_
        refine Gl.st (B := (T23.setTop (mkF m 14 L33 [(.int (y2_25_32 &&& (127 : Int32))), (.ref a1)]))) (fun t k => XS.iand X23.here hx rfl (hb hby d3_13) rfl k) ?_
        refine Gl.st (B := (T23.setTop (mkF m 17 L33 [(.int (128 : Int32)), (.int (y2_25_32 &&& (127 : Int32))), (.ref a1)]))) (fun t k => XS.sipush X23.here hx rfl (hb hby d3_14) k) ?_
        refine Gl.st (B := (T23.setTop (mkF m 18 L33 [(.int ((y2_25_32 &&& (127 : Int32)) ||| (128 : Int32))), (.ref a1)]))) (fun t k => XS.ior X23.here hx rfl (hb hby d3_17) rfl k) ?_
        obtain ⟨x18_46, hx18_46⟩ : ∃ z : Int32, z = ((y2_25_32 &&& (127 : Int32)) ||| (128 : Int32)) := ⟨_, rfl⟩
        refine Gl.cast (B := (T23.setTop (mkF m 18 L33 [(.int x18_46), (.ref a1)]))) (by rw [hx18_46]) ?_
        have ne_w_pieces_a1_b7_t0_48 : w_pieces_a1 ≠ b7_t0 := Nat.ne_of_lt (Nat.lt_of_lt_of_le V_w_pieces_a1.lt fq7_0)
        have c49 := (fq7_1.keep Kc23 (ninS ne_w_pieces_a1_b7_t0_48 (ninS (Ne.symm ne_a1_w_pieces_a1) nin0)))
        have hp18_50 : ¬ f18_31 < 0 := own_3f_hp18_50 f18_31 hf18_31 
        have hp18_51 : f18_31 < 63 := own_3f_hp18_51 f18_31 hf18_31 
        have hp18_52 : vl18_30.length = f18_31.toNatClampNeg := own_3f_hp18_52 p2 x18_6 y2_25_10 x18_22 vl18_30 f18_31 hx18_6 hy2_25_10 hx18_22 hvl18_30 hf18_31 hc6_2 hc6_12 hp0
        obtain ⟨cq47, q47, q47'⟩ := fq23_1.cell
        obtain ⟨_, _, ⟨T47, L47q, k47, n47⟩, -, X47, ⟨Lc47, hQ47, l47, y47, z47⟩, st47⟩ := X23.privateBack hx (y := (⟨"com/example/outcomery/outcomery/PackedNumbers", "put", "(I)V"⟩ : MethodName)) hown (mvT hZ (tw hw 19 rfl)) (mvT hZ (tw hw 20 rfl)) (own_selp (mvT hZ (tw hw 2 rfl)) (mvP hZ (tw hw 21 rfl)) (mvT hZ (tw hw 20 rfl)) (by decide)) (Cond.privateMethod_at (mvP hZ (tw hw 21 rfl) (args := #[]))) (mvT hZ (tw hw 22 rfl)) (by decide) (backOf (W := 0) (rm4n l Z a0 hw [] a1 x18_46 kx_w_pieces_a1 b7_t0 k7_kx_t0 vl18_30 w_pieces_a1 f18_31 T23.heap n0 Zc28 c49 fq7_2 fq23_0 fq23_3 fq23_2 hp18_50 hp18_51 hp18_52 g_b7_t0 ne_a1_b7_t0_27 fq23_1 g_a1) hZ (tw hw 22 rfl) (tw hw 3 rfl) (by decide) (by decide)) (g := (mkF m 18 L33 [(.int x18_46), (.ref a1)])) rfl (szAt hml hL33 rfl) (Steps.refl _) (a := a1) q47 q47' (argsL := [(.int x18_46)]) (rest := []) (lenOf pd_3f_0 rfl) rfl (by show 2 * 0 + _ ≤ _; exact Nat.le_of_eq rfl) (hb hby d3_18) (fun _ _ => ⟨rfl, rfl, (by decide : 1 + 0 ≤ _), (by decide : 64 + 0 ≤ _)⟩)
        dsimp only [Pt.U, Pt.locs, Pt.cells, Pt.slots] at X47 l47 y47 z47 st47 hQ47
        subst l47 y47 z47
        obtain ⟨rfl, N47q, Kc47, fq47_0, fq47_1, fq47_2, fq47_3⟩ := hQ47
        have c53 := (fq7_6.keep Kc23)
        have Zc54 : n0 ≤ T47.heap.size := Nat.le_trans Zc28 Kc47.1
        have K55 : Keep h0 T47.heap [a1, w_pieces_a1] := K29.trans Kc47 (allS (Or.inr sz_b7_t0) (allS (Or.inl (List.mem_of_getElem? (i := 0) rfl)) all0))
        obtain ⟨vl18_56, hvl18_56⟩ : ∃ z : List Value, z = (vl18_30 ++ [(.int (nar .byte ((x18_46.toInt8.toInt32))))]) := ⟨_, rfl⟩
        rw [← hvl18_56] at fq47_0
        obtain ⟨f18_57, hf18_57⟩ : ∃ z : Int32, z = ((f18_31 + (1 : Int32))) := ⟨_, rfl⟩
        rw [← hf18_57] at fq47_2
        have N47 := Fr.app N23 N47q
        refine Gl.st (B := (T47.setTop (mkF m 21 L33 []))) (fun t k => st47.trans k) ?_
        refine Gl.st (B := (T47.setTop (mkF m 22 L33 [(.int y2_25_32)]))) (fun t k => XS.iloadN X47.here hx rfl (hb hby d3_21) (ldAt hL33 rfl) k) ?_
        refine Gl.st (B := (T47.setTop (mkF m 24 L33 [(.int (7 : Int32)), (.int y2_25_32)]))) (fun t k => XS.bipush X47.here hx rfl (hb hby d3_22) k) ?_
        refine Gl.st (B := (T47.setTop (mkF m 25 L33 [(.int ((y2_25_32.toUInt32 >>> ((7 : Int32) &&& 31).toUInt32).toInt32))]))) (fun t k => XS.iushr X47.here hx rfl (hb hby d3_24) rfl k) ?_
        obtain ⟨y2_25_58, hy2_25_58⟩ : ∃ z : Int32, z = ((y2_25_32.toUInt32 >>> ((7 : Int32) &&& 31).toUInt32).toInt32) := ⟨_, rfl⟩
        refine Gl.cast (B := (T47.setTop (mkF m 25 L33 [(.int y2_25_58)]))) (by rw [hy2_25_58]) ?_
        obtain ⟨L59, hL59⟩ : ∃ z : Array Slot, z = #[.val (.ref a1), .val (.int p2), .val (.int y2_25_58)] := ⟨_, rfl⟩
        refine Gl.st (B := (T47.setTop (mkF m 26 L59 []))) (fun t k => XS.istoreN X47.here hx rfl (hb hby d3_25) rfl (l' := L59) (stAt hL33 hL59 rfl rfl) k) ?_
        refine Gl.st (B := (T47.setTop (mkF m 2 L59 []))) (fun t k => XS.goto X47.here hx rfl (pc0 := 26) (pc' := 2) rfl (hb hby d3_26) (by decide) (by decide) k) ?_
        refine Gl.st (B := (T47.setTop (mkF m 3 L59 [(.int y2_25_58)]))) (fun t k => XS.iloadN X47.here hx rfl (hb hby d3_2) (ldAt hL59 rfl) k) ?_
        refine Gl.st (B := (T47.setTop (mkF m 6 L59 [(.int (128 : Int32)), (.int y2_25_58)]))) (fun t k => XS.sipush X47.here hx rfl (hb hby d3_3) k) ?_
        by_cases hc6_60 : y2_25_58 < (128 : Int32)
        · skip
          refine Gl.st (B := (T47.setTop (mkF m 29 L59 []))) (fun t k => XS.icmpYes X47.here hx rfl (pc0 := 6) (pc' := 29) rfl (hb hby d3_6) rfl (tlt hc6_60).1 (by decide) (by decide) k) ?_
          refine Gl.st (B := (T47.setTop (mkF m 30 L59 [(.ref a1)]))) (fun t k => XS.aloadN X47.here hx rfl (hb hby d3_29) (ldAt hL59 rfl) rfl k) ?_
          refine Gl.st (B := (T47.setTop (mkF m 31 L59 [(.int y2_25_58), (.ref a1)]))) (fun t k => XS.iloadN X47.here hx rfl (hb hby d3_30) (ldAt hL59 rfl) k) ?_
          have c62 := (c49.keep Kc47 (ninS ne_w_pieces_a1_b7_t0_48 (ninS (Ne.symm ne_a1_w_pieces_a1) nin0)))
          have hp31_63 : ¬ f18_57 < 0 := own_3f_hp31_63 f18_31 f18_57 hf18_31 hf18_57 
          have hp31_64 : f18_57 < 63 := own_3f_hp31_64 f18_31 f18_57 hf18_31 hf18_57 
          have hp31_65 : vl18_56.length = f18_57.toNatClampNeg := own_3f_hp31_65 p2 x18_6 y2_25_10 x18_22 vl18_30 y2_25_32 x18_46 vl18_56 f18_31 f18_57 hx18_6 hy2_25_10 hx18_22 hvl18_30 hy2_25_32 hx18_46 hvl18_56 hf18_31 hf18_57 hc6_2 hc6_12 hc6_34 hp0
          obtain ⟨cq61, q61, q61'⟩ := fq47_1.cell
          obtain ⟨_, _, ⟨T61, L61q, k61, n61⟩, -, X61, ⟨Lc61, hQ61, l61, y61, z61⟩, st61⟩ := X47.privateBack hx (y := (⟨"com/example/outcomery/outcomery/PackedNumbers", "put", "(I)V"⟩ : MethodName)) hown (mvT hZ (tw hw 19 rfl)) (mvT hZ (tw hw 20 rfl)) (own_selp (mvT hZ (tw hw 2 rfl)) (mvP hZ (tw hw 21 rfl)) (mvT hZ (tw hw 20 rfl)) (by decide)) (Cond.privateMethod_at (mvP hZ (tw hw 21 rfl) (args := #[]))) (mvT hZ (tw hw 22 rfl)) (by decide) (backOf (W := 0) (rm4n l Z a0 hw [] a1 y2_25_58 kx_w_pieces_a1 b7_t0 k7_kx_t0 vl18_56 w_pieces_a1 f18_57 T47.heap n0 Zc54 c62 fq7_2 fq47_0 fq47_3 fq47_2 hp31_63 hp31_64 hp31_65 g_b7_t0 ne_a1_b7_t0_27 fq47_1 g_a1) hZ (tw hw 22 rfl) (tw hw 3 rfl) (by decide) (by decide)) (g := (mkF m 31 L59 [(.int y2_25_58), (.ref a1)])) rfl (szAt hml hL59 rfl) (Steps.refl _) (a := a1) q61 q61' (argsL := [(.int y2_25_58)]) (rest := []) (lenOf pd_3f_0 rfl) rfl (by show 2 * 0 + _ ≤ _; exact Nat.le_of_eq rfl) (hb hby d3_31) (fun _ _ => ⟨rfl, rfl, (by decide : 1 + 0 ≤ _), (by decide : 64 + 0 ≤ _)⟩)
          dsimp only [Pt.U, Pt.locs, Pt.cells, Pt.slots] at X61 l61 y61 z61 st61 hQ61
          subst l61 y61 z61
          obtain ⟨rfl, N61q, Kc61, fq61_0, fq61_1, fq61_2, fq61_3⟩ := hQ61
          have c66 := (c53.keep Kc47)
          have Zc67 : n0 ≤ T61.heap.size := Nat.le_trans Zc54 Kc61.1
          have K68 : Keep h0 T61.heap [a1, w_pieces_a1] := K55.trans Kc61 (allS (Or.inr sz_b7_t0) (allS (Or.inl (List.mem_of_getElem? (i := 0) rfl)) all0))
          obtain ⟨vl31_69, hvl31_69⟩ : ∃ z : List Value, z = (vl18_56 ++ [(.int (nar .byte ((y2_25_58.toInt8.toInt32))))]) := ⟨_, rfl⟩
          rw [← hvl31_69] at fq61_0
          obtain ⟨f31_70, hf31_70⟩ : ∃ z : Int32, z = ((f18_57 + (1 : Int32))) := ⟨_, rfl⟩
          rw [← hf31_70] at fq61_2
          have N61 := Fr.app N47 N61q
          refine Gl.st (B := (T61.setTop (mkF m 34 L59 []))) (fun t k => st61.trans k) ?_
          obtain ⟨fs, hr, hrun, hended, hW, hsame⟩ := X61.leave (v := none) (fun _ => rfl)
          refine Gl.fin (X61.returnOut hx Bd.returns (hb hby d3_34) hr) hrun hended ⟨_, _, rfl, ?_, ⟨_, rfl⟩, hW, hsame.mono (by decide) (by decide)⟩
          show Q3f Z a1 p2 kx_w_pieces_a1 w_pieces_a1 h0 n0 _ T61.heap _
          have c71 := (c62.keep Kc61 (ninS ne_w_pieces_a1_b7_t0_48 (ninS (Ne.symm ne_a1_w_pieces_a1) nin0)))
          have c72 := (c66.keep Kc61)
          exact ⟨b7_t0, k7_kx_t0, rfl, N61, K68, sz_b7_t0, fq61_1, (by subst hf31_70; subst hf18_57; subst hf18_31; subst hy2_25_10; subst hy2_25_32; subst hy2_25_58; rw [own_F_eq, if_neg hc6_2, if_neg hc6_12, if_neg hc6_34, if_pos hc6_60]; exact fq61_2), fq61_3, c71, fq7_2, c72, (by subst hvl31_69; subst hvl18_56; subst hvl18_30; subst hx18_6; subst hx18_22; subst hy2_25_10; subst hx18_46; subst hy2_25_32; subst hy2_25_58; rw [own_E_eq, if_neg hc6_2, if_neg hc6_12, if_neg hc6_34, if_pos hc6_60]; exact fq61_0)⟩
        · skip
          refine Gl.st (B := (T47.setTop (mkF m 9 L59 []))) (fun t k => XS.icmpNo X47.here hx rfl (hb hby d3_6) rfl (flt hc6_60).1 k) ?_
          refine Gl.st (B := (T47.setTop (mkF m 10 L59 [(.ref a1)]))) (fun t k => XS.aloadN X47.here hx rfl (hb hby d3_9) (ldAt hL59 rfl) rfl k) ?_
          refine Gl.st (B := (T47.setTop (mkF m 11 L59 [(.int y2_25_58), (.ref a1)]))) (fun t k => XS.iloadN X47.here hx rfl (hb hby d3_10) (ldAt hL59 rfl) k) ?_
          refine Gl.st (B := (T47.setTop (mkF m 13 L59 [(.int (127 : Int32)), (.int y2_25_58), (.ref a1)]))) (fun t k => XS.bipush X47.here hx rfl (hb hby d3_11) k) ?_
          refine Gl.st (B := (T47.setTop (mkF m 14 L59 [(.int (y2_25_58 &&& (127 : Int32))), (.ref a1)]))) (fun t k => XS.iand X47.here hx rfl (hb hby d3_13) rfl k) ?_
          refine Gl.st (B := (T47.setTop (mkF m 17 L59 [(.int (128 : Int32)), (.int (y2_25_58 &&& (127 : Int32))), (.ref a1)]))) (fun t k => XS.sipush X47.here hx rfl (hb hby d3_14) k) ?_
          refine Gl.st (B := (T47.setTop (mkF m 18 L59 [(.int ((y2_25_58 &&& (127 : Int32)) ||| (128 : Int32))), (.ref a1)]))) (fun t k => XS.ior X47.here hx rfl (hb hby d3_17) rfl k) ?_
          obtain ⟨x18_71, hx18_71⟩ : ∃ z : Int32, z = ((y2_25_58 &&& (127 : Int32)) ||| (128 : Int32)) := ⟨_, rfl⟩
          refine Gl.cast (B := (T47.setTop (mkF m 18 L59 [(.int x18_71), (.ref a1)]))) (by rw [hx18_71]) ?_
          have c73 := (c49.keep Kc47 (ninS ne_w_pieces_a1_b7_t0_48 (ninS (Ne.symm ne_a1_w_pieces_a1) nin0)))
          have hp18_74 : ¬ f18_57 < 0 := own_3f_hp18_74 f18_31 f18_57 hf18_31 hf18_57 
          have hp18_75 : f18_57 < 63 := own_3f_hp18_75 f18_31 f18_57 hf18_31 hf18_57 
          have hp18_76 : vl18_56.length = f18_57.toNatClampNeg := own_3f_hp18_76 p2 x18_6 y2_25_10 x18_22 vl18_30 y2_25_32 x18_46 vl18_56 f18_31 f18_57 hx18_6 hy2_25_10 hx18_22 hvl18_30 hy2_25_32 hx18_46 hvl18_56 hf18_31 hf18_57 hc6_2 hc6_12 hc6_34 hp0
          obtain ⟨cq72, q72, q72'⟩ := fq47_1.cell
          obtain ⟨_, _, ⟨T72, L72q, k72, n72⟩, -, X72, ⟨Lc72, hQ72, l72, y72, z72⟩, st72⟩ := X47.privateBack hx (y := (⟨"com/example/outcomery/outcomery/PackedNumbers", "put", "(I)V"⟩ : MethodName)) hown (mvT hZ (tw hw 19 rfl)) (mvT hZ (tw hw 20 rfl)) (own_selp (mvT hZ (tw hw 2 rfl)) (mvP hZ (tw hw 21 rfl)) (mvT hZ (tw hw 20 rfl)) (by decide)) (Cond.privateMethod_at (mvP hZ (tw hw 21 rfl) (args := #[]))) (mvT hZ (tw hw 22 rfl)) (by decide) (backOf (W := 0) (rm4n l Z a0 hw [] a1 x18_71 kx_w_pieces_a1 b7_t0 k7_kx_t0 vl18_56 w_pieces_a1 f18_57 T47.heap n0 Zc54 c73 fq7_2 fq47_0 fq47_3 fq47_2 hp18_74 hp18_75 hp18_76 g_b7_t0 ne_a1_b7_t0_27 fq47_1 g_a1) hZ (tw hw 22 rfl) (tw hw 3 rfl) (by decide) (by decide)) (g := (mkF m 18 L59 [(.int x18_71), (.ref a1)])) rfl (szAt hml hL59 rfl) (Steps.refl _) (a := a1) q72 q72' (argsL := [(.int x18_71)]) (rest := []) (lenOf pd_3f_0 rfl) rfl (by show 2 * 0 + _ ≤ _; exact Nat.le_of_eq rfl) (hb hby d3_18) (fun _ _ => ⟨rfl, rfl, (by decide : 1 + 0 ≤ _), (by decide : 64 + 0 ≤ _)⟩)
          dsimp only [Pt.U, Pt.locs, Pt.cells, Pt.slots] at X72 l72 y72 z72 st72 hQ72
          subst l72 y72 z72
          obtain ⟨rfl, N72q, Kc72, fq72_0, fq72_1, fq72_2, fq72_3⟩ := hQ72
          have c77 := (c53.keep Kc47)
          have Zc78 : n0 ≤ T72.heap.size := Nat.le_trans Zc54 Kc72.1
          have K79 : Keep h0 T72.heap [a1, w_pieces_a1] := K55.trans Kc72 (allS (Or.inr sz_b7_t0) (allS (Or.inl (List.mem_of_getElem? (i := 0) rfl)) all0))
          obtain ⟨vl18_80, hvl18_80⟩ : ∃ z : List Value, z = (vl18_56 ++ [(.int (nar .byte ((x18_71.toInt8.toInt32))))]) := ⟨_, rfl⟩
          rw [← hvl18_80] at fq72_0
          obtain ⟨f18_81, hf18_81⟩ : ∃ z : Int32, z = ((f18_57 + (1 : Int32))) := ⟨_, rfl⟩
          rw [← hf18_81] at fq72_2
          have N72 := Fr.app N47 N72q
          refine Gl.st (B := (T72.setTop (mkF m 21 L59 []))) (fun t k => st72.trans k) ?_
          refine Gl.st (B := (T72.setTop (mkF m 22 L59 [(.int y2_25_58)]))) (fun t k => XS.iloadN X72.here hx rfl (hb hby d3_21) (ldAt hL59 rfl) k) ?_
          refine Gl.st (B := (T72.setTop (mkF m 24 L59 [(.int (7 : Int32)), (.int y2_25_58)]))) (fun t k => XS.bipush X72.here hx rfl (hb hby d3_22) k) ?_
          refine Gl.st (B := (T72.setTop (mkF m 25 L59 [(.int ((y2_25_58.toUInt32 >>> ((7 : Int32) &&& 31).toUInt32).toInt32))]))) (fun t k => XS.iushr X72.here hx rfl (hb hby d3_24) rfl k) ?_
          obtain ⟨y2_25_82, hy2_25_82⟩ : ∃ z : Int32, z = ((y2_25_58.toUInt32 >>> ((7 : Int32) &&& 31).toUInt32).toInt32) := ⟨_, rfl⟩
          refine Gl.cast (B := (T72.setTop (mkF m 25 L59 [(.int y2_25_82)]))) (by rw [hy2_25_82]) ?_
          obtain ⟨L83, hL83⟩ : ∃ z : Array Slot, z = #[.val (.ref a1), .val (.int p2), .val (.int y2_25_82)] := ⟨_, rfl⟩
          refine Gl.st (B := (T72.setTop (mkF m 26 L83 []))) (fun t k => XS.istoreN X72.here hx rfl (hb hby d3_25) rfl (l' := L83) (stAt hL59 hL83 rfl rfl) k) ?_
          refine Gl.st (B := (T72.setTop (mkF m 2 L83 []))) (fun t k => XS.goto X72.here hx rfl (pc0 := 26) (pc' := 2) rfl (hb hby d3_26) (by decide) (by decide) k) ?_
          refine Gl.st (B := (T72.setTop (mkF m 3 L83 [(.int y2_25_82)]))) (fun t k => XS.iloadN X72.here hx rfl (hb hby d3_2) (ldAt hL83 rfl) k) ?_
          refine Gl.st (B := (T72.setTop (mkF m 6 L83 [(.int (128 : Int32)), (.int y2_25_82)]))) (fun t k => XS.sipush X72.here hx rfl (hb hby d3_3) k) ?_
          have hc6_84 : y2_25_82 < (128 : Int32) := own_3f_hc6_84 p2 y2_25_10 y2_25_32 y2_25_58 y2_25_82 hy2_25_10 hy2_25_32 hy2_25_58 hy2_25_82 hp0
          refine Gl.st (B := (T72.setTop (mkF m 29 L83 []))) (fun t k => XS.icmpYes X72.here hx rfl (pc0 := 6) (pc' := 29) rfl (hb hby d3_6) rfl (tlt hc6_84).1 (by decide) (by decide) k) ?_
          refine Gl.st (B := (T72.setTop (mkF m 30 L83 [(.ref a1)]))) (fun t k => XS.aloadN X72.here hx rfl (hb hby d3_29) (ldAt hL83 rfl) rfl k) ?_
          refine Gl.st (B := (T72.setTop (mkF m 31 L83 [(.int y2_25_82), (.ref a1)]))) (fun t k => XS.iloadN X72.here hx rfl (hb hby d3_30) (ldAt hL83 rfl) k) ?_
          have c86 := (c73.keep Kc72 (ninS ne_w_pieces_a1_b7_t0_48 (ninS (Ne.symm ne_a1_w_pieces_a1) nin0)))
          have hp31_87 : ¬ f18_81 < 0 := own_3f_hp31_87 f18_31 f18_57 f18_81 hf18_31 hf18_57 hf18_81 
          have hp31_88 : f18_81 < 63 := own_3f_hp31_88 f18_31 f18_57 f18_81 hf18_31 hf18_57 hf18_81 
          have hp31_89 : vl18_80.length = f18_81.toNatClampNeg := own_3f_hp31_89 p2 x18_6 y2_25_10 x18_22 vl18_30 y2_25_32 x18_46 vl18_56 y2_25_58 x18_71 vl18_80 f18_31 f18_57 f18_81 hx18_6 hy2_25_10 hx18_22 hvl18_30 hy2_25_32 hx18_46 hvl18_56 hy2_25_58 hx18_71 hvl18_80 hf18_31 hf18_57 hf18_81 hc6_2 hc6_12 hc6_34 hc6_60 hp0
          obtain ⟨cq85, q85, q85'⟩ := fq72_1.cell
          obtain ⟨_, _, ⟨T85, L85q, k85, n85⟩, -, X85, ⟨Lc85, hQ85, l85, y85, z85⟩, st85⟩ := X72.privateBack hx (y := (⟨"com/example/outcomery/outcomery/PackedNumbers", "put", "(I)V"⟩ : MethodName)) hown (mvT hZ (tw hw 19 rfl)) (mvT hZ (tw hw 20 rfl)) (own_selp (mvT hZ (tw hw 2 rfl)) (mvP hZ (tw hw 21 rfl)) (mvT hZ (tw hw 20 rfl)) (by decide)) (Cond.privateMethod_at (mvP hZ (tw hw 21 rfl) (args := #[]))) (mvT hZ (tw hw 22 rfl)) (by decide) (backOf (W := 0) (rm4n l Z a0 hw [] a1 y2_25_82 kx_w_pieces_a1 b7_t0 k7_kx_t0 vl18_80 w_pieces_a1 f18_81 T72.heap n0 Zc78 c86 fq7_2 fq72_0 fq72_3 fq72_2 hp31_87 hp31_88 hp31_89 g_b7_t0 ne_a1_b7_t0_27 fq72_1 g_a1) hZ (tw hw 22 rfl) (tw hw 3 rfl) (by decide) (by decide)) (g := (mkF m 31 L83 [(.int y2_25_82), (.ref a1)])) rfl (szAt hml hL83 rfl) (Steps.refl _) (a := a1) q85 q85' (argsL := [(.int y2_25_82)]) (rest := []) (lenOf pd_3f_0 rfl) rfl (by show 2 * 0 + _ ≤ _; exact Nat.le_of_eq rfl) (hb hby d3_31) (fun _ _ => ⟨rfl, rfl, (by decide : 1 + 0 ≤ _), (by decide : 64 + 0 ≤ _)⟩)
          dsimp only [Pt.U, Pt.locs, Pt.cells, Pt.slots] at X85 l85 y85 z85 st85 hQ85
          subst l85 y85 z85
          obtain ⟨rfl, N85q, Kc85, fq85_0, fq85_1, fq85_2, fq85_3⟩ := hQ85
          have c90 := (c77.keep Kc72)
          have Zc91 : n0 ≤ T85.heap.size := Nat.le_trans Zc78 Kc85.1
          have K92 : Keep h0 T85.heap [a1, w_pieces_a1] := K79.trans Kc85 (allS (Or.inr sz_b7_t0) (allS (Or.inl (List.mem_of_getElem? (i := 0) rfl)) all0))
          obtain ⟨vl31_93, hvl31_93⟩ : ∃ z : List Value, z = (vl18_80 ++ [(.int (nar .byte ((y2_25_82.toInt8.toInt32))))]) := ⟨_, rfl⟩
          rw [← hvl31_93] at fq85_0
          obtain ⟨f31_94, hf31_94⟩ : ∃ z : Int32, z = ((f18_81 + (1 : Int32))) := ⟨_, rfl⟩
          rw [← hf31_94] at fq85_2
          have N85 := Fr.app N72 N85q
          refine Gl.st (B := (T85.setTop (mkF m 34 L83 []))) (fun t k => st85.trans k) ?_
          obtain ⟨fs, hr, hrun, hended, hW, hsame⟩ := X85.leave (v := none) (fun _ => rfl)
          refine Gl.fin (X85.returnOut hx Bd.returns (hb hby d3_34) hr) hrun hended ⟨_, _, rfl, ?_, ⟨_, rfl⟩, hW, hsame.mono (by decide) (by decide)⟩
          show Q3f Z a1 p2 kx_w_pieces_a1 w_pieces_a1 h0 n0 _ T85.heap _
          have c95 := (c86.keep Kc85 (ninS ne_w_pieces_a1_b7_t0_48 (ninS (Ne.symm ne_a1_w_pieces_a1) nin0)))
          have c96 := (c90.keep Kc85)
          exact ⟨b7_t0, k7_kx_t0, rfl, N85, K92, sz_b7_t0, fq85_1, (by subst hf31_94; subst hf18_81; subst hf18_57; subst hf18_31; subst hy2_25_10; subst hy2_25_32; subst hy2_25_58; rw [own_F_eq, if_neg hc6_2, if_neg hc6_12, if_neg hc6_34, if_neg hc6_60]; exact fq85_2), fq85_3, c95, fq7_2, c96, (by subst hvl31_93; subst hvl18_80; subst hvl18_56; subst hvl18_30; subst hx18_6; subst hx18_22; subst hy2_25_10; subst hx18_46; subst hy2_25_32; subst hx18_71; subst hy2_25_58; subst hy2_25_82; rw [own_E_eq, if_neg hc6_2, if_neg hc6_12, if_neg hc6_34, if_neg hc6_60]; exact fq85_0)⟩
abbrev own_S (n : Int32) : Int32 := ((n.toUInt32 >>> ((7 : Int32) &&& 31).toUInt32).toInt32)
def own_at (vs : List Value) (j : Int32) : Int32 := match vs.getD j.toNatClampNeg (.int (0 : Int32)) with
  | .int x => x
  | _ => 0
def own_L (n : Int32) : Int32 := (if n < (128 : Int32) then (1 : Int32) else (if n < (16384 : Int32) then (2 : Int32) else (if n < (2097152 : Int32) then (3 : Int32) else (if n < (268435456 : Int32) then (4 : Int32) else (5 : Int32)))))
theorem own_L_eq (n : Int32) : own_L n = (if n < (128 : Int32) then (1 : Int32) else (if n < (16384 : Int32) then (2 : Int32) else (if n < (2097152 : Int32) then (3 : Int32) else (if n < (268435456 : Int32) then (4 : Int32) else (5 : Int32))))) := rfl
def own_B (n k l : Int32) : Int32 := (if k < (l - (1 : Int32)) then (((((n.toUInt32 >>> (((7 : Int32) * k) &&& 31).toUInt32).toInt32) &&& (127 : Int32))) ||| (128 : Int32)) else ((((n.toUInt32 >>> (((7 : Int32) * k) &&& 31).toUInt32).toInt32) &&& (127 : Int32))))
theorem own_B_eq (n k l : Int32) : own_B n k l = (if k < (l - (1 : Int32)) then (((((n.toUInt32 >>> (((7 : Int32) * k) &&& 31).toUInt32).toInt32) &&& (127 : Int32))) ||| (128 : Int32)) else ((((n.toUInt32 >>> (((7 : Int32) * k) &&& 31).toUInt32).toInt32) &&& (127 : Int32)))) := rfl
theorem own_nn {n : Int32} (h : ¬ n < 0) : 0 ≤ n.toInt := by
  rw [Int32.lt_iff_toInt_lt] at h
  simp only [Int32.reduceToInt] at h
  omega
theorem own_S_toInt (n : Int32) (h : 0 ≤ n.toInt) : (own_S n).toInt = n.toInt / 128 := by
  have a : (own_S n).toInt = (n.toInt % 4294967296) / 128 := c_iushr n (7 : Int32) 7 (by decide) (by decide)
  have z := rng32 n
  rw [a]
  omega
theorem own_ltI (x : Int32) (l : Int32) (v : Int) (hl : l.toInt = v) : x < l ↔ x.toInt < v := by rw [Int32.lt_iff_toInt_lt, hl]
theorem own_five (n : Int32) (h : ¬ n < 0) {P : Prop}
    (c0 : n < (128 : Int32) → 0 ≤ n.toInt → n.toInt < 128 → P)
    (c1 : ¬ n < (128 : Int32) → (own_S n) < (128 : Int32) → n < (16384 : Int32) → 0 ≤ (own_S n).toInt → (own_S n).toInt < 128 → P)
    (c2 : ¬ n < (128 : Int32) → ¬ (own_S n) < (128 : Int32) → (own_S (own_S n)) < (128 : Int32) → ¬ n < (16384 : Int32) → n < (2097152 : Int32) → 0 ≤ (own_S (own_S n)).toInt → (own_S (own_S n)).toInt < 128 → P)
    (c3 : ¬ n < (128 : Int32) → ¬ (own_S n) < (128 : Int32) → ¬ (own_S (own_S n)) < (128 : Int32) → (own_S (own_S (own_S n))) < (128 : Int32) → ¬ n < (16384 : Int32) → ¬ n < (2097152 : Int32) → n < (268435456 : Int32) → 0 ≤ (own_S (own_S (own_S n))).toInt → (own_S (own_S (own_S n))).toInt < 128 → P)
    (c4 : ¬ n < (128 : Int32) → ¬ (own_S n) < (128 : Int32) → ¬ (own_S (own_S n)) < (128 : Int32) → ¬ (own_S (own_S (own_S n))) < (128 : Int32) → ¬ n < (16384 : Int32) → ¬ n < (2097152 : Int32) → ¬ n < (268435456 : Int32) → 0 ≤ (own_S (own_S (own_S (own_S n)))).toInt → (own_S (own_S (own_S (own_S n)))).toInt < 128 → P)
    : P := by
  have a0 := own_nn h
  have z := rng32 n
  have a1 := own_S_toInt n (by omega)
  have a2 := own_S_toInt (own_S n) (by omega)
  have a3 := own_S_toInt (own_S (own_S n)) (by omega)
  have a4 := own_S_toInt (own_S (own_S (own_S n))) (by omega)
  by_cases q0 : n < (128 : Int32)
  · have q := (own_ltI _ (128 : Int32) 128 (by decide)).mp q0
    exact c0 q0 (by omega) (by omega)
  · skip
    by_cases q1 : (own_S n) < (128 : Int32)
    · have q := (own_ltI _ (128 : Int32) 128 (by decide)).mp q1
      have r0 := fun z => q0 ((own_ltI _ (128 : Int32) 128 (by decide)).mpr z)
      have u0 : ¬ (n.toInt < 128) := r0
      exact c1 q0 q1 ((own_ltI _ (16384 : Int32) 16384 (by decide)).mpr (by omega)) (by omega) (by omega)
    · skip
      by_cases q2 : (own_S (own_S n)) < (128 : Int32)
      · have q := (own_ltI _ (128 : Int32) 128 (by decide)).mp q2
        have r0 := fun z => q0 ((own_ltI _ (128 : Int32) 128 (by decide)).mpr z)
        have r1 := fun z => q1 ((own_ltI _ (128 : Int32) 128 (by decide)).mpr z)
        have u0 : ¬ (n.toInt < 128) := r0
        have u1 : ¬ ((own_S n).toInt < 128) := r1
        exact c2 q0 q1 q2 (fun z => absurd ((own_ltI _ (16384 : Int32) 16384 (by decide)).mp z) (by omega)) ((own_ltI _ (2097152 : Int32) 2097152 (by decide)).mpr (by omega)) (by omega) (by omega)
      · skip
        by_cases q3 : (own_S (own_S (own_S n))) < (128 : Int32)
        · have q := (own_ltI _ (128 : Int32) 128 (by decide)).mp q3
          have r0 := fun z => q0 ((own_ltI _ (128 : Int32) 128 (by decide)).mpr z)
          have r1 := fun z => q1 ((own_ltI _ (128 : Int32) 128 (by decide)).mpr z)
          have r2 := fun z => q2 ((own_ltI _ (128 : Int32) 128 (by decide)).mpr z)
          have u0 : ¬ (n.toInt < 128) := r0
          have u1 : ¬ ((own_S n).toInt < 128) := r1
          have u2 : ¬ ((own_S (own_S n)).toInt < 128) := r2
          exact c3 q0 q1 q2 q3 (fun z => absurd ((own_ltI _ (16384 : Int32) 16384 (by decide)).mp z) (by omega)) (fun z => absurd ((own_ltI _ (2097152 : Int32) 2097152 (by decide)).mp z) (by omega)) ((own_ltI _ (268435456 : Int32) 268435456 (by decide)).mpr (by omega)) (by omega) (by omega)
        · skip
          have u0 : ¬ (n.toInt < 128) := fun z => q0 ((own_ltI _ (128 : Int32) 128 (by decide)).mpr z)
          have u1 : ¬ ((own_S n).toInt < 128) := fun z => q1 ((own_ltI _ (128 : Int32) 128 (by decide)).mpr z)
          have u2 : ¬ ((own_S (own_S n)).toInt < 128) := fun z => q2 ((own_ltI _ (128 : Int32) 128 (by decide)).mpr z)
          have u3 : ¬ ((own_S (own_S (own_S n))).toInt < 128) := fun z => q3 ((own_ltI _ (128 : Int32) 128 (by decide)).mpr z)
          exact c4 q0 q1 q2 q3 (fun z => absurd ((own_ltI _ (16384 : Int32) 16384 (by decide)).mp z) (by omega)) (fun z => absurd ((own_ltI _ (2097152 : Int32) 2097152 (by decide)).mp z) (by omega)) (fun z => absurd ((own_ltI _ (268435456 : Int32) 268435456 (by decide)).mp z) (by omega)) (by omega) (by omega)
theorem own_FL (n w : Int32) (h : ¬ n < 0) : own_F w n = w + own_L n := by
  refine own_five n h ?_ ?_ ?_ ?_ ?_
  · intro g0 lo hi
    rw [own_F_eq, own_L_eq, if_pos g0, if_pos g0]
  · intro g0 g1 e1 lo hi
    rw [own_F_eq, own_L_eq, if_neg g0, if_pos g1, if_neg g0, if_pos e1]
    simp only [Int32.add_assoc]
    rfl
  · intro g0 g1 g2 e1 e2 lo hi
    rw [own_F_eq, own_L_eq, if_neg g0, if_neg g1, if_pos g2, if_neg g0, if_neg e1, if_pos e2]
    simp only [Int32.add_assoc]
    rfl
  · intro g0 g1 g2 g3 e1 e2 e3 lo hi
    rw [own_F_eq, own_L_eq, if_neg g0, if_neg g1, if_neg g2, if_pos g3, if_neg g0, if_neg e1, if_neg e2, if_pos e3]
    simp only [Int32.add_assoc]
    rfl
  · intro g0 g1 g2 g3 e1 e2 e3 lo hi
    rw [own_F_eq, own_L_eq, if_neg g0, if_neg g1, if_neg g2, if_neg g3, if_neg g0, if_neg e1, if_neg e2, if_neg e3]
    simp only [Int32.add_assoc]
    rfl
theorem own_EE (n : Int32) (vs : List Value) (h : ¬ n < 0) : own_E vs n = vs ++ own_E [] n := by
  refine own_five n h ?_ ?_ ?_ ?_ ?_
  · intro g0 lo hi
    rw [own_E_eq, own_E_eq, if_pos g0, if_pos g0]
    simp only [List.append_assoc, List.nil_append]
  · intro g0 g1 e1 lo hi
    rw [own_E_eq, own_E_eq, if_neg g0, if_pos g1, if_neg g0, if_pos g1]
    simp only [List.append_assoc, List.nil_append]
  · intro g0 g1 g2 e1 e2 lo hi
    rw [own_E_eq, own_E_eq, if_neg g0, if_neg g1, if_pos g2, if_neg g0, if_neg g1, if_pos g2]
    simp only [List.append_assoc, List.nil_append]
  · intro g0 g1 g2 g3 e1 e2 e3 lo hi
    rw [own_E_eq, own_E_eq, if_neg g0, if_neg g1, if_neg g2, if_pos g3, if_neg g0, if_neg g1, if_neg g2, if_pos g3]
    simp only [List.append_assoc, List.nil_append]
  · intro g0 g1 g2 g3 e1 e2 e3 lo hi
    rw [own_E_eq, own_E_eq, if_neg g0, if_neg g1, if_neg g2, if_neg g3, if_neg g0, if_neg g1, if_neg g2, if_neg g3]
    simp only [List.append_assoc, List.nil_append]
theorem own_EL (n : Int32) (h : ¬ n < 0) : (own_E [] n).length = (own_L n).toNatClampNeg := by
  refine own_five n h ?_ ?_ ?_ ?_ ?_
  · intro g0 lo hi
    rw [own_E_eq, own_L_eq, if_pos g0, if_pos g0]
    rfl
  · intro g0 g1 e1 lo hi
    rw [own_E_eq, own_L_eq, if_neg g0, if_pos g1, if_neg g0, if_pos e1]
    rfl
  · intro g0 g1 g2 e1 e2 lo hi
    rw [own_E_eq, own_L_eq, if_neg g0, if_neg g1, if_pos g2, if_neg g0, if_neg e1, if_pos e2]
    rfl
  · intro g0 g1 g2 g3 e1 e2 e3 lo hi
    rw [own_E_eq, own_L_eq, if_neg g0, if_neg g1, if_neg g2, if_pos g3, if_neg g0, if_neg e1, if_neg e2, if_pos e3]
    rfl
  · intro g0 g1 g2 g3 e1 e2 e3 lo hi
    rw [own_E_eq, own_L_eq, if_neg g0, if_neg g1, if_neg g2, if_neg g3, if_neg g0, if_neg e1, if_neg e2, if_neg e3]
    rfl
theorem own_Lr (n : Int32) (h : ¬ n < 0) : 1 ≤ (own_L n).toInt ∧ (own_L n).toInt ≤ 5 := by
  refine own_five n h ?_ ?_ ?_ ?_ ?_
  · intro g0 lo hi
    rw [own_L_eq, if_pos g0]
    decide
  · intro g0 g1 e1 lo hi
    rw [own_L_eq, if_neg g0, if_pos e1]
    decide
  · intro g0 g1 g2 e1 e2 lo hi
    rw [own_L_eq, if_neg g0, if_neg e1, if_pos e2]
    decide
  · intro g0 g1 g2 g3 e1 e2 e3 lo hi
    rw [own_L_eq, if_neg g0, if_neg e1, if_neg e2, if_pos e3]
    decide
  · intro g0 g1 g2 g3 e1 e2 e3 lo hi
    rw [own_L_eq, if_neg g0, if_neg e1, if_neg e2, if_neg e3]
    decide
theorem own_bhi (y : Int32) : (nar .byte ((((y &&& (127 : Int32)) ||| (128 : Int32))).toInt8.toInt32)) &&& (255 : Int32) = (y &&& (127 : Int32)) ||| (128 : Int32) := by
  have m : (y &&& (127 : Int32)).toInt = y.toInt % 128 := c_mask y (127 : Int32) 7 (by decide) (by decide)
  have a := c_or' (y &&& (127 : Int32)) (128 : Int32) 7 (by decide) 128 rfl (by decide) (by omega) (by omega)
  generalize (y &&& (127 : Int32)) ||| (128 : Int32) = v at *
  have b := c_i2b v
  have d := c_i2b v.toInt8.toInt32
  have e : ((nar .byte v.toInt8.toInt32) &&& (255 : Int32)).toInt = (nar .byte v.toInt8.toInt32).toInt % 256 := c_mask (nar .byte v.toInt8.toInt32) (255 : Int32) 8 (by decide) (by decide)
  have f : (nar .byte v.toInt8.toInt32).toInt = v.toInt8.toInt32.toInt8.toInt32.toInt := rfl
  have z := rng32 v
  rw [← Int32.toInt_inj]
  simp only [Int32.reduceToInt] at *
  omega
theorem own_blo (v : Int32) (h0 : 0 ≤ v.toInt) (h1 : v.toInt < 128) : (nar .byte (v.toInt8.toInt32)) &&& (255 : Int32) = v := by
  have b := c_i2b v
  have d := c_i2b v.toInt8.toInt32
  have e : ((nar .byte v.toInt8.toInt32) &&& (255 : Int32)).toInt = (nar .byte v.toInt8.toInt32).toInt % 256 := c_mask (nar .byte v.toInt8.toInt32) (255 : Int32) 8 (by decide) (by decide)
  have f : (nar .byte v.toInt8.toInt32).toInt = v.toInt8.toInt32.toInt8.toInt32.toInt := rfl
  rw [← Int32.toInt_inj]
  omega
theorem own_m7 (v : Int32) (h0 : 0 ≤ v.toInt) (h1 : v.toInt < 128) : v &&& (127 : Int32) = v := by
  have m : (v &&& (127 : Int32)).toInt = v.toInt % 128 := c_mask v (127 : Int32) 7 (by decide) (by decide)
  rw [← Int32.toInt_inj]
  omega
theorem own_D0 (n : Int32) : ((n.toUInt32 >>> (((7 : Int32) * (0 : Int32)) &&& 31).toUInt32).toInt32) = n := by
  have e : (((7 : Int32) * (0 : Int32)) &&& 31).toUInt32 = 0 := by decide
  rw [e]
  simp
theorem own_D1 (n : Int32) (h : 0 ≤ n.toInt) : ((n.toUInt32 >>> (((7 : Int32) * (1 : Int32)) &&& 31).toUInt32).toInt32) = (own_S n) := by
  have a : ((n.toUInt32 >>> (((7 : Int32) * (1 : Int32)) &&& 31).toUInt32).toInt32).toInt = (n.toInt % 4294967296) / 128 := c_iushr n ((7 : Int32) * (1 : Int32)) 7 (by decide) (by decide)
  have b1 := own_S_toInt n (by omega)
  have z := rng32 n
  rw [← Int32.toInt_inj, a]
  omega
theorem own_D2 (n : Int32) (h : 0 ≤ n.toInt) : ((n.toUInt32 >>> (((7 : Int32) * (2 : Int32)) &&& 31).toUInt32).toInt32) = (own_S (own_S n)) := by
  have a : ((n.toUInt32 >>> (((7 : Int32) * (2 : Int32)) &&& 31).toUInt32).toInt32).toInt = (n.toInt % 4294967296) / 16384 := c_iushr n ((7 : Int32) * (2 : Int32)) 14 (by decide) (by decide)
  have b1 := own_S_toInt n (by omega)
  have b2 := own_S_toInt (own_S n) (by omega)
  have z := rng32 n
  rw [← Int32.toInt_inj, a]
  omega
theorem own_D3 (n : Int32) (h : 0 ≤ n.toInt) : ((n.toUInt32 >>> (((7 : Int32) * (3 : Int32)) &&& 31).toUInt32).toInt32) = (own_S (own_S (own_S n))) := by
  have a : ((n.toUInt32 >>> (((7 : Int32) * (3 : Int32)) &&& 31).toUInt32).toInt32).toInt = (n.toInt % 4294967296) / 2097152 := c_iushr n ((7 : Int32) * (3 : Int32)) 21 (by decide) (by decide)
  have b1 := own_S_toInt n (by omega)
  have b2 := own_S_toInt (own_S n) (by omega)
  have b3 := own_S_toInt (own_S (own_S n)) (by omega)
  have z := rng32 n
  rw [← Int32.toInt_inj, a]
  omega
theorem own_D4 (n : Int32) (h : 0 ≤ n.toInt) : ((n.toUInt32 >>> (((7 : Int32) * (4 : Int32)) &&& 31).toUInt32).toInt32) = (own_S (own_S (own_S (own_S n)))) := by
  have a : ((n.toUInt32 >>> (((7 : Int32) * (4 : Int32)) &&& 31).toUInt32).toInt32).toInt = (n.toInt % 4294967296) / 268435456 := c_iushr n ((7 : Int32) * (4 : Int32)) 28 (by decide) (by decide)
  have b1 := own_S_toInt n (by omega)
  have b2 := own_S_toInt (own_S n) (by omega)
  have b3 := own_S_toInt (own_S (own_S n)) (by omega)
  have b4 := own_S_toInt (own_S (own_S (own_S n))) (by omega)
  have z := rng32 n
  rw [← Int32.toInt_inj, a]
  omega
theorem own_EI (n j : Int32) (h : ¬ n < 0) (hj : ¬ j < 0) (hk : j < own_L n) : own_at (own_E [] n) j &&& (255 : Int32) = own_B n j (own_L n) := by
  refine own_five n h ?_ ?_ ?_ ?_ ?_
  · intro g0 lo hi
    have n0 := own_nn h
    rw [own_L_eq, if_pos g0] at hk
    rw [own_L_eq, own_E_eq, if_pos g0, if_pos g0]
    have z0 := own_nn hj
    have z1 := (own_ltI _ (1 : Int32) 1 (by decide)).mp hk
    have hc : j = (0 : Int32) := by
      simp only [← Int32.toInt_inj, Int32.reduceToInt]
      omega
    subst hc
    · rw [own_B_eq, if_neg (by decide), own_D0 n, own_m7 _ lo hi]
      exact own_blo n lo hi
  · intro g0 g1 e1 lo hi
    have n0 := own_nn h
    rw [own_L_eq, if_neg g0, if_pos e1] at hk
    rw [own_L_eq, own_E_eq, if_neg g0, if_pos e1, if_neg g0, if_pos g1]
    have z0 := own_nn hj
    have z1 := (own_ltI _ (2 : Int32) 2 (by decide)).mp hk
    have hc : j = (0 : Int32) ∨ j = (1 : Int32) := by
      simp only [← Int32.toInt_inj, Int32.reduceToInt]
      omega
    rcases hc with rfl | rfl
    · rw [own_B_eq, if_pos (by decide), own_D0 n]
      exact own_bhi n
    · rw [own_B_eq, if_neg (by decide), own_D1 n n0, own_m7 _ lo hi]
      exact own_blo (own_S n) lo hi
  · intro g0 g1 g2 e1 e2 lo hi
    have n0 := own_nn h
    rw [own_L_eq, if_neg g0, if_neg e1, if_pos e2] at hk
    rw [own_L_eq, own_E_eq, if_neg g0, if_neg e1, if_pos e2, if_neg g0, if_neg g1, if_pos g2]
    have z0 := own_nn hj
    have z1 := (own_ltI _ (3 : Int32) 3 (by decide)).mp hk
    have hc : j = (0 : Int32) ∨ j = (1 : Int32) ∨ j = (2 : Int32) := by
      simp only [← Int32.toInt_inj, Int32.reduceToInt]
      omega
    rcases hc with rfl | rfl | rfl
    · rw [own_B_eq, if_pos (by decide), own_D0 n]
      exact own_bhi n
    · rw [own_B_eq, if_pos (by decide), own_D1 n n0]
      exact own_bhi (own_S n)
    · rw [own_B_eq, if_neg (by decide), own_D2 n n0, own_m7 _ lo hi]
      exact own_blo (own_S (own_S n)) lo hi
  · intro g0 g1 g2 g3 e1 e2 e3 lo hi
    have n0 := own_nn h
    rw [own_L_eq, if_neg g0, if_neg e1, if_neg e2, if_pos e3] at hk
    rw [own_L_eq, own_E_eq, if_neg g0, if_neg e1, if_neg e2, if_pos e3, if_neg g0, if_neg g1, if_neg g2, if_pos g3]
    have z0 := own_nn hj
    have z1 := (own_ltI _ (4 : Int32) 4 (by decide)).mp hk
    have hc : j = (0 : Int32) ∨ j = (1 : Int32) ∨ j = (2 : Int32) ∨ j = (3 : Int32) := by
      simp only [← Int32.toInt_inj, Int32.reduceToInt]
      omega
    rcases hc with rfl | rfl | rfl | rfl
    · rw [own_B_eq, if_pos (by decide), own_D0 n]
      exact own_bhi n
    · rw [own_B_eq, if_pos (by decide), own_D1 n n0]
      exact own_bhi (own_S n)
    · rw [own_B_eq, if_pos (by decide), own_D2 n n0]
      exact own_bhi (own_S (own_S n))
    · rw [own_B_eq, if_neg (by decide), own_D3 n n0, own_m7 _ lo hi]
      exact own_blo (own_S (own_S (own_S n))) lo hi
  · intro g0 g1 g2 g3 e1 e2 e3 lo hi
    have n0 := own_nn h
    rw [own_L_eq, if_neg g0, if_neg e1, if_neg e2, if_neg e3] at hk
    rw [own_L_eq, own_E_eq, if_neg g0, if_neg e1, if_neg e2, if_neg e3, if_neg g0, if_neg g1, if_neg g2, if_neg g3]
    have z0 := own_nn hj
    have z1 := (own_ltI _ (5 : Int32) 5 (by decide)).mp hk
    have hc : j = (0 : Int32) ∨ j = (1 : Int32) ∨ j = (2 : Int32) ∨ j = (3 : Int32) ∨ j = (4 : Int32) := by
      simp only [← Int32.toInt_inj, Int32.reduceToInt]
      omega
    rcases hc with rfl | rfl | rfl | rfl | rfl
    · rw [own_B_eq, if_pos (by decide), own_D0 n]
      exact own_bhi n
    · rw [own_B_eq, if_pos (by decide), own_D1 n n0]
      exact own_bhi (own_S n)
    · rw [own_B_eq, if_pos (by decide), own_D2 n n0]
      exact own_bhi (own_S (own_S n))
    · rw [own_B_eq, if_pos (by decide), own_D3 n n0]
      exact own_bhi (own_S (own_S (own_S n)))
    · rw [own_B_eq, if_neg (by decide), own_D4 n n0, own_m7 _ lo hi]
      exact own_blo (own_S (own_S (own_S (own_S n)))) lo hi
theorem own_isI (vs : List Value) (h : ∀ v ∈ vs, ∃ x, v = .int x) (j : Int32) : vs.getD j.toNatClampNeg (.int (0 : Int32)) = .int (own_at vs j) := by
  unfold own_at
  have q : ∃ x, vs.getD j.toNatClampNeg (.int (0 : Int32)) = .int x := by
    by_cases hl : j.toNatClampNeg < vs.length
    · rw [List.getD_eq_getElem?_getD, List.getElem?_eq_getElem hl]
      exact h _ (List.getElem_mem hl)
    · rw [List.getD_eq_getElem?_getD, List.getElem?_eq_none (by omega)]
      exact ⟨0, rfl⟩
  obtain ⟨x, hx⟩ := q
  rw [hx]
theorem own_atA (A B : List Value) (j : Int32) (h : j.toNatClampNeg < A.length) : own_at (A ++ B) j = own_at A j := by
  unfold own_at
  rw [List.getD_eq_getElem?_getD, List.getD_eq_getElem?_getD, List.getElem?_append_left h]
theorem own_atB (A B : List Value) (j i : Int32) (h : j.toNatClampNeg = A.length + i.toNatClampNeg) : own_at (A ++ B) j = own_at B i := by
  unfold own_at
  rw [List.getD_eq_getElem?_getD, List.getD_eq_getElem?_getD, List.getElem?_append_right (by omega), show j.toNatClampNeg - A.length = i.toNatClampNeg by omega]
theorem own_EV (n : Int32) (h : ¬ n < 0) : ∀ v ∈ own_E [] n, ∃ x, v = .int x := by
  refine own_five n h ?_ ?_ ?_ ?_ ?_
  · intro g0 lo hi
    rw [own_E_eq, if_pos g0]
    simp
  · intro g0 g1 e1 lo hi
    rw [own_E_eq, if_neg g0, if_pos g1]
    simp
  · intro g0 g1 g2 e1 e2 lo hi
    rw [own_E_eq, if_neg g0, if_neg g1, if_pos g2]
    simp
  · intro g0 g1 g2 g3 e1 e2 e3 lo hi
    rw [own_E_eq, if_neg g0, if_neg g1, if_neg g2, if_pos g3]
    simp
  · intro g0 g1 g2 g3 e1 e2 e3 lo hi
    rw [own_E_eq, if_neg g0, if_neg g1, if_neg g2, if_neg g3]
    simp
theorem own_sn (p q y : Int32) (h : y = (((p &&& (2147483647 : Int32)).toUInt32 >>> ((q &&& (31 : Int32)) &&& 31).toUInt32).toInt32)) : ¬ y < 0 := by
  have a : (p &&& (2147483647 : Int32)).toInt = p.toInt % 2147483648 := c_mask p (2147483647 : Int32) 31 (by decide) (by decide)
  generalize p &&& (2147483647 : Int32) = v at *
  generalize q &&& (31 : Int32) = r at *
  have hn : (r &&& 31).toBitVec.toNat = r.toBitVec.toNat % 32 := by
    rw [Int32.toBitVec_and, BitVec.toNat_and]
    exact Nat.and_two_pow_sub_one_eq_mod _ 5
  rw [Int32.lt_iff_toInt_lt]
  simp only [Int32.reduceToInt]
  rcases Nat.eq_zero_or_pos (r.toBitVec.toNat % 32) with e | e
  · have e2 : r &&& 31 = 0 := by
      rw [← Int32.toBitVec_inj]
      apply BitVec.eq_of_toNat_eq
      rw [hn, e]
      rfl
    rw [e2] at h
    have e4 : (0 : Int32).toUInt32 = 0 := by decide
    have e3 : y = v := by rw [h, e4]; simp
    rw [e3]
    omega
  · have b := c_iushr v r _ rfl e
    rw [← h] at b
    rw [b]
    have z := rng32 v
    have d : 0 ≤ v.toInt % 4294967296 / ((2 ^ (r.toBitVec.toNat % 32) : Nat) : Int) := Int.ediv_nonneg (by omega) (Int.natCast_nonneg _)
    omega
theorem own_sum (a b : Int32) (ha : 1 ≤ a.toInt ∧ a.toInt ≤ 5) (hb : 1 ≤ b.toInt ∧ b.toInt ≤ 5) : (a + b).toInt = a.toInt + b.toInt := by
  have q := c_iadd a b
  have z := rng32 (a + b)
  omega
theorem own_pl (p a b y : Int32) (ha : 1 ≤ a.toInt ∧ a.toInt ≤ 5) (hb : 1 ≤ b.toInt ∧ b.toInt ≤ 5) (h : y = ((p &&& (2147483647 : Int32)) % (a + b))) : 0 ≤ y.toInt ∧ y.toInt < a.toInt + b.toInt := by
  have q := own_sum a b ha hb
  have m : (p &&& (2147483647 : Int32)).toInt = p.toInt % 2147483648 := c_mask p (2147483647 : Int32) 31 (by decide) (by decide)
  have r := (c_iremV (p &&& (2147483647 : Int32)) (a + b)).1
  rw [← h] at r
  clear h
  omega
theorem own_le0 {x : Int32} (h : 0 ≤ x.toInt) : ¬ x < 0 := by
  rw [Int32.lt_iff_toInt_lt]
  simp only [Int32.reduceToInt]
  omega
theorem own_cl {x : Int32} (h : 0 ≤ x.toInt) : (x.toNatClampNeg : Int) = x.toInt := (nat_of (own_le0 h)).symm
theorem d5_0 : decode method_2_code 0 = .ok (.iload_n 0, 1) := by decide +kernel
theorem d5_1 : decode method_2_code 1 = .ok (.sipush 128, 3) := by decide +kernel
theorem d5_4 : decode method_2_code 4 = .ok (.if_icmp .ge 5, 3) := by decide +kernel
theorem d5_7 : decode method_2_code 7 = .ok (.iconst 1, 1) := by decide +kernel
theorem d5_8 : decode method_2_code 8 = .ok (.ireturn, 1) := by decide +kernel
theorem d5_9 : decode method_2_code 9 = .ok (.iload_n 0, 1) := by decide +kernel
theorem d5_10 : decode method_2_code 10 = .ok (.sipush 16384, 3) := by decide +kernel
theorem d5_13 : decode method_2_code 13 = .ok (.if_icmp .ge 5, 3) := by decide +kernel
theorem d5_16 : decode method_2_code 16 = .ok (.iconst 2, 1) := by decide +kernel
theorem d5_17 : decode method_2_code 17 = .ok (.ireturn, 1) := by decide +kernel
theorem d5_18 : decode method_2_code 18 = .ok (.iload_n 0, 1) := by decide +kernel
theorem d5_19 : decode method_2_code 19 = .ok (.ldc 7, 2) := by decide +kernel
theorem d5_21 : decode method_2_code 21 = .ok (.if_icmp .ge 5, 3) := by decide +kernel
theorem d5_24 : decode method_2_code 24 = .ok (.iconst 3, 1) := by decide +kernel
theorem d5_25 : decode method_2_code 25 = .ok (.ireturn, 1) := by decide +kernel
theorem d5_26 : decode method_2_code 26 = .ok (.iload_n 0, 1) := by decide +kernel
theorem d5_27 : decode method_2_code 27 = .ok (.ldc 8, 2) := by decide +kernel
theorem d5_29 : decode method_2_code 29 = .ok (.if_icmp .ge 5, 3) := by decide +kernel
theorem d5_32 : decode method_2_code 32 = .ok (.iconst 4, 1) := by decide +kernel
theorem d5_33 : decode method_2_code 33 = .ok (.ireturn, 1) := by decide +kernel
theorem d5_34 : decode method_2_code 34 = .ok (.iconst 5, 1) := by decide +kernel
theorem d5_35 : decode method_2_code 35 = .ok (.ireturn, 1) := by decide +kernel
theorem pn_5 : plainName "com/example/outcomery/outcomery/PackedNumbersByteAtPinLaw" = true := by first | (simp [plainName, overriddenIn]; done) | decide +kernel
theorem ef_5 (m : MethodId) (p1 : Int32) : entryFrame m #[(.int p1)] 1 = mkF m 0 #[.val (.int p1)] [] := by first | (simp [entryFrame, mkF, argsToLocals, Value.category]; done) | rfl
def Q5 (Z : State) (p1 : Int32) (h0 : Heap) (n0 : Nat) (v : Option Value) (h : Heap) (L : List Loc) : Prop := v = some (.int (if p1 < (128 : Int32) then (1 : Int32) else (if p1 < (16384 : Int32) then (2 : Int32) else (if p1 < (2097152 : Int32) then (3 : Int32) else (if p1 < (268435456 : Int32) then (4 : Int32) else (5 : Int32)))))) ∧ Fr n0 L ∧ h = h0
set_option maxRecDepth 65536 in
set_option maxHeartbeats 40000000 in
theorem rm5 (l : Launch) (Z : State) (a0 : Array Value) (hw : ∀ d ∈ tables_1, d.before a0 Z = true) (ws : List Jvm.Cond) (p1 : Int32) (h0 : Heap) (n0 : Nat) (Z0 : n0 ≤ h0.size) :
    MetFree l (⟨"com/example/outcomery/outcomery/PackedNumbersByteAtPinLaw", "len", "(I)I"⟩ : MethodName) (head1 (Jvm.Cond.code (⟨"com/example/outcomery/outcomery/PackedNumbersByteAtPinLaw", "len", "(I)I"⟩ : MethodName) method_2_code 1 (some .int) :: ws) ({ frames := 0, cells := 0, slots := 0, locals := 0 } : Room)) (fun a U => a = #[(.int p1)] ∧ Z.Warmed39 U.vm ∧ U.heap = h0) (fun _ _ _ _ _ => True) (fun _ U o U' => ∃ v L, o = .returned v ∧ Q5 Z p1 h0 n0 v U'.heap L ∧ FrameEnd U o U' L ({ frames := 0, cells := 0, slots := 0, locals := 0 } : Room).cells ({ frames := 0, cells := 0, slots := 0, locals := 0 } : Room).slots) := by
  refine MetFree.of_bodySF (plainFor_of_name pn_5) hisR ?_
  intro p e s m args below meth c s₁ Bd hml0 hP hK
  obtain ⟨rfl, hZ, hh⟩ := hP
  have hx := Bd.exec
  have hby := Bd.bytes
  have hml : c.maxLocals = 1 := hml0
  have hown : s.vm.findClass "com/example/outcomery/outcomery/PackedNumbersByteAtPinLaw" = some m.cls := findClass_of_methodNamed Bd.named
  have hnm := (name_of_methodNamed Bd.named Bd.method).1
  have X0 : Stand p l e ({ frames := 0, cells := 0, slots := 0, locals := 0 } : Room) s m #[(.int p1)] below meth c s₁ [] 0 0 := Stand.of_body Bd
  have e0 : s₁.heap = h0 := by rw [← hh, Bd.state]; rfl
  have N0 := Fr.nil n0
  have K0 : Keep h0 h0 [] := Keep.refl h0 _
  refine (show Gl p e below (fun o U' => ∃ v L, o = .returned v ∧ Q5 Z p1 h0 n0 v U'.heap L ∧ FrameEnd s o U' L ({ frames := 0, cells := 0, slots := 0, locals := 0 } : Room).cells ({ frames := 0, cells := 0, slots := 0, locals := 0 } : Room).slots) (s₁.setTop (entryFrame m #[(.int p1)] 1)) from ?_)
  obtain ⟨L0, hL0⟩ : ∃ z : Array Slot, z = #[.val (.int p1)] := ⟨_, rfl⟩
  refine Gl.st (B := (s₁.setTop (mkF m 0 L0 []))) (fun t k => castTop (efAt hL0 (ef_5 m p1)) k) ?_
  refine Gl.st (B := (s₁.setTop (mkF m 1 L0 [(.int p1)]))) (fun t k => XS.iloadN X0.here hx rfl (hb hby d5_0) (ldAt hL0 rfl) k) ?_
  refine Gl.st (B := (s₁.setTop (mkF m 4 L0 [(.int (128 : Int32)), (.int p1)]))) (fun t k => XS.sipush X0.here hx rfl (hb hby d5_1) k) ?_
  by_cases hc4_1 : p1 < (128 : Int32)
  · skip
    refine Gl.st (B := (s₁.setTop (mkF m 7 L0 []))) (fun t k => XS.icmpNo X0.here hx rfl (hb hby d5_4) rfl (tlt hc4_1).2.1 k) ?_
    refine Gl.st (B := (s₁.setTop (mkF m 8 L0 [(.int (1 : Int32))]))) (fun t k => XS.iconst X0.here hx rfl (hb hby d5_7) k) ?_
    obtain ⟨fs, hr, hrun, hended, hW, hsame⟩ := X0.leave (v := some (.int (1 : Int32))) (fun h => by rw [Bd.returns] at h; cases h)
    refine Gl.fin (retI X0 hx Bd.returns (hb hby d5_8) hr) hrun hended ⟨_, _, rfl, ?_, ⟨_, rfl⟩, hW, hsame.mono (by decide) (by decide)⟩
    show Q5 Z p1 h0 n0 _ s₁.heap _
    rw [e0]
    exact ⟨(by rw [if_pos hc4_1]), N0, rfl⟩
  · skip
    refine Gl.st (B := (s₁.setTop (mkF m 9 L0 []))) (fun t k => XS.icmpYes X0.here hx rfl (pc0 := 4) (pc' := 9) rfl (hb hby d5_4) rfl (flt hc4_1).2.1 (by decide) (by decide) k) ?_
    refine Gl.st (B := (s₁.setTop (mkF m 10 L0 [(.int p1)]))) (fun t k => XS.iloadN X0.here hx rfl (hb hby d5_9) (ldAt hL0 rfl) k) ?_
    refine Gl.st (B := (s₁.setTop (mkF m 13 L0 [(.int (16384 : Int32)), (.int p1)]))) (fun t k => XS.sipush X0.here hx rfl (hb hby d5_10) k) ?_
    by_cases hc13_2 : p1 < (16384 : Int32)
    · skip
      refine Gl.st (B := (s₁.setTop (mkF m 16 L0 []))) (fun t k => XS.icmpNo X0.here hx rfl (hb hby d5_13) rfl (tlt hc13_2).2.1 k) ?_
      refine Gl.st (B := (s₁.setTop (mkF m 17 L0 [(.int (2 : Int32))]))) (fun t k => XS.iconst X0.here hx rfl (hb hby d5_16) k) ?_
      obtain ⟨fs, hr, hrun, hended, hW, hsame⟩ := X0.leave (v := some (.int (2 : Int32))) (fun h => by rw [Bd.returns] at h; cases h)
      refine Gl.fin (retI X0 hx Bd.returns (hb hby d5_17) hr) hrun hended ⟨_, _, rfl, ?_, ⟨_, rfl⟩, hW, hsame.mono (by decide) (by decide)⟩
      show Q5 Z p1 h0 n0 _ s₁.heap _
      rw [e0]
      exact ⟨(by rw [if_neg hc4_1, if_pos hc13_2]), N0, rfl⟩
    · skip
      refine Gl.st (B := (s₁.setTop (mkF m 18 L0 []))) (fun t k => XS.icmpYes X0.here hx rfl (pc0 := 13) (pc' := 18) rfl (hb hby d5_13) rfl (flt hc13_2).2.1 (by decide) (by decide) k) ?_
      refine Gl.st (B := (s₁.setTop (mkF m 19 L0 [(.int p1)]))) (fun t k => XS.iloadN X0.here hx rfl (hb hby d5_18) (ldAt hL0 rfl) k) ?_
      refine Gl.st (B := (s₁.setTop (mkF m 21 L0 [(.int (2097152 : Int32)), (.int p1)]))) (fun t k => X0.ldcInt hx hown (mvT hZ (tw hw 45 rfl)) (g := (mkF m 19 L0 [(.int p1)])) rfl (hb hby d5_19) _ k) ?_
      by_cases hc21_3 : p1 < (2097152 : Int32)
      · skip
        refine Gl.st (B := (s₁.setTop (mkF m 24 L0 []))) (fun t k => XS.icmpNo X0.here hx rfl (hb hby d5_21) rfl (tlt hc21_3).2.1 k) ?_
        refine Gl.st (B := (s₁.setTop (mkF m 25 L0 [(.int (3 : Int32))]))) (fun t k => XS.iconst X0.here hx rfl (hb hby d5_24) k) ?_
        obtain ⟨fs, hr, hrun, hended, hW, hsame⟩ := X0.leave (v := some (.int (3 : Int32))) (fun h => by rw [Bd.returns] at h; cases h)
        refine Gl.fin (retI X0 hx Bd.returns (hb hby d5_25) hr) hrun hended ⟨_, _, rfl, ?_, ⟨_, rfl⟩, hW, hsame.mono (by decide) (by decide)⟩
        show Q5 Z p1 h0 n0 _ s₁.heap _
        rw [e0]
        exact ⟨(by rw [if_neg hc4_1, if_neg hc13_2, if_pos hc21_3]), N0, rfl⟩
      · skip
        refine Gl.st (B := (s₁.setTop (mkF m 26 L0 []))) (fun t k => XS.icmpYes X0.here hx rfl (pc0 := 21) (pc' := 26) rfl (hb hby d5_21) rfl (flt hc21_3).2.1 (by decide) (by decide) k) ?_
        refine Gl.st (B := (s₁.setTop (mkF m 27 L0 [(.int p1)]))) (fun t k => XS.iloadN X0.here hx rfl (hb hby d5_26) (ldAt hL0 rfl) k) ?_
        refine Gl.st (B := (s₁.setTop (mkF m 29 L0 [(.int (268435456 : Int32)), (.int p1)]))) (fun t k => X0.ldcInt hx hown (mvT hZ (tw hw 46 rfl)) (g := (mkF m 27 L0 [(.int p1)])) rfl (hb hby d5_27) _ k) ?_
        by_cases hc29_4 : p1 < (268435456 : Int32)
        · skip
          refine Gl.st (B := (s₁.setTop (mkF m 32 L0 []))) (fun t k => XS.icmpNo X0.here hx rfl (hb hby d5_29) rfl (tlt hc29_4).2.1 k) ?_
          refine Gl.st (B := (s₁.setTop (mkF m 33 L0 [(.int (4 : Int32))]))) (fun t k => XS.iconst X0.here hx rfl (hb hby d5_32) k) ?_
          obtain ⟨fs, hr, hrun, hended, hW, hsame⟩ := X0.leave (v := some (.int (4 : Int32))) (fun h => by rw [Bd.returns] at h; cases h)
          refine Gl.fin (retI X0 hx Bd.returns (hb hby d5_33) hr) hrun hended ⟨_, _, rfl, ?_, ⟨_, rfl⟩, hW, hsame.mono (by decide) (by decide)⟩
          show Q5 Z p1 h0 n0 _ s₁.heap _
          rw [e0]
          exact ⟨(by rw [if_neg hc4_1, if_neg hc13_2, if_neg hc21_3, if_pos hc29_4]), N0, rfl⟩
        · skip
          refine Gl.st (B := (s₁.setTop (mkF m 34 L0 []))) (fun t k => XS.icmpYes X0.here hx rfl (pc0 := 29) (pc' := 34) rfl (hb hby d5_29) rfl (flt hc29_4).2.1 (by decide) (by decide) k) ?_
          refine Gl.st (B := (s₁.setTop (mkF m 35 L0 [(.int (5 : Int32))]))) (fun t k => XS.iconst X0.here hx rfl (hb hby d5_34) k) ?_
          obtain ⟨fs, hr, hrun, hended, hW, hsame⟩ := X0.leave (v := some (.int (5 : Int32))) (fun h => by rw [Bd.returns] at h; cases h)
          refine Gl.fin (retI X0 hx Bd.returns (hb hby d5_35) hr) hrun hended ⟨_, _, rfl, ?_, ⟨_, rfl⟩, hW, hsame.mono (by decide) (by decide)⟩
          show Q5 Z p1 h0 n0 _ s₁.heap _
          rw [e0]
          exact ⟨(by rw [if_neg hc4_1, if_neg hc13_2, if_neg hc21_3, if_neg hc29_4]), N0, rfl⟩
theorem d6_0 : decode prog_23_method_3_code 0 = .ok (.aload_n 0, 1) := by decide +kernel
theorem d6_1 : decode prog_23_method_3_code 1 = .ok (.getfield 19, 3) := by decide +kernel
theorem d6_4 : decode prog_23_method_3_code 4 = .ok (.ireturn, 1) := by decide +kernel
theorem pn_6 : plainName "com/example/outcomery/outcomery/PackedNumbers" = true := by first | (simp [plainName, overriddenIn]; done) | decide +kernel
theorem ef_6 (m : MethodId) (a1 : Addr) : entryFrame m #[(.ref a1)] 1 = mkF m 0 #[.val (.ref a1)] [] := by first | (simp [entryFrame, mkF, argsToLocals, Value.category]; done) | rfl
def Q6 (Z : State) (a1 : Addr) (w_length_a1 : Int32) (h0 : Heap) (n0 : Nat) (v : Option Value) (h : Heap) (L : List Loc) : Prop := v = some (.int w_length_a1) ∧ Fr n0 L ∧ h = h0
set_option maxRecDepth 65536 in
set_option maxHeartbeats 40000000 in
theorem rm6 (l : Launch) (Z : State) (a0 : Array Value) (hw : ∀ d ∈ tables_1, d.before a0 Z = true) (ws : List Jvm.Cond) (a1 : Addr) (w_length_a1 : Int32) (h0 : Heap) (n0 : Nat) (Z0 : n0 ≤ h0.size) (F_length_a1 : Fld Z h0 a1 "com/example/outcomery/outcomery/PackedNumbers" "length" "I" (.int w_length_a1)) :
    MetFree l (⟨"com/example/outcomery/outcomery/PackedNumbers", "length", "()I"⟩ : MethodName) (head1 (Jvm.Cond.code (⟨"com/example/outcomery/outcomery/PackedNumbers", "length", "()I"⟩ : MethodName) prog_23_method_3_code 1 (some .int) :: ws) ({ frames := 0, cells := 0, slots := 0, locals := 0 } : Room)) (fun a U => a = #[(.ref a1)] ∧ Z.Warmed39 U.vm ∧ U.heap = h0) (fun _ _ _ _ _ => True) (fun _ U o U' => ∃ v L, o = .returned v ∧ Q6 Z a1 w_length_a1 h0 n0 v U'.heap L ∧ FrameEnd U o U' L ({ frames := 0, cells := 0, slots := 0, locals := 0 } : Room).cells ({ frames := 0, cells := 0, slots := 0, locals := 0 } : Room).slots) := by
  refine MetFree.of_bodySF (plainFor_of_name pn_6) hisR ?_
  intro p e s m args below meth c s₁ Bd hml0 hP hK
  obtain ⟨rfl, hZ, hh⟩ := hP
  have hx := Bd.exec
  have hby := Bd.bytes
  have hml : c.maxLocals = 1 := hml0
  have hown : s.vm.findClass "com/example/outcomery/outcomery/PackedNumbers" = some m.cls := findClass_of_methodNamed Bd.named
  have hnm := (name_of_methodNamed Bd.named Bd.method).1
  have X0 : Stand p l e ({ frames := 0, cells := 0, slots := 0, locals := 0 } : Room) s m #[(.ref a1)] below meth c s₁ [] 0 0 := Stand.of_body Bd
  have e0 : s₁.heap = h0 := by rw [← hh, Bd.state]; rfl
  have N0 := Fr.nil n0
  have K0 : Keep h0 h0 [] := Keep.refl h0 _
  refine (show Gl p e below (fun o U' => ∃ v L, o = .returned v ∧ Q6 Z a1 w_length_a1 h0 n0 v U'.heap L ∧ FrameEnd s o U' L ({ frames := 0, cells := 0, slots := 0, locals := 0 } : Room).cells ({ frames := 0, cells := 0, slots := 0, locals := 0 } : Room).slots) (s₁.setTop (entryFrame m #[(.ref a1)] 1)) from ?_)
  obtain ⟨L0, hL0⟩ : ∃ z : Array Slot, z = #[.val (.ref a1)] := ⟨_, rfl⟩
  refine Gl.st (B := (s₁.setTop (mkF m 0 L0 []))) (fun t k => castTop (efAt hL0 (ef_6 m a1)) k) ?_
  refine Gl.st (B := (s₁.setTop (mkF m 1 L0 [(.ref a1)]))) (fun t k => XS.aloadN X0.here hx rfl (hb hby d6_0) (ldAt hL0 rfl) rfl k) ?_
  obtain ⟨T1, X1, e1, st1⟩ := getF X0 hx hZ hown (host := "") (Or.inl (tw hw 23 rfl)) Via.refl e0 F_length_a1 (g := (mkF m 1 L0 [(.ref a1)])) rfl rfl (hb hby d6_1)
  refine Gl.st (B := (T1.setTop (mkF m 4 L0 [(.int w_length_a1)]))) st1 ?_
  obtain ⟨fs, hr, hrun, hended, hW, hsame⟩ := X1.leave (v := some (.int w_length_a1)) (fun h => by rw [Bd.returns] at h; cases h)
  refine Gl.fin (retI X1 hx Bd.returns (hb hby d6_4) hr) hrun hended ⟨_, _, rfl, ?_, ⟨_, rfl⟩, hW, hsame.mono (by decide) (by decide)⟩
  show Q6 Z a1 w_length_a1 h0 n0 _ T1.heap _
  rw [e1]
  exact ⟨rfl, N0, rfl⟩
theorem d7_0 : decode method_3_code 0 = .ok (.iload_n 0, 1) := by decide +kernel
theorem d7_1 : decode method_3_code 1 = .ok (.bipush 7, 2) := by decide +kernel
theorem d7_3 : decode method_3_code 3 = .ok (.iload_n 1, 1) := by decide +kernel
theorem d7_4 : decode method_3_code 4 = .ok (.imul, 1) := by decide +kernel
theorem d7_5 : decode method_3_code 5 = .ok (.iushr, 1) := by decide +kernel
theorem d7_6 : decode method_3_code 6 = .ok (.bipush 127, 2) := by decide +kernel
theorem d7_8 : decode method_3_code 8 = .ok (.iand, 1) := by decide +kernel
theorem d7_9 : decode method_3_code 9 = .ok (.istore_n 3, 1) := by decide +kernel
theorem d7_10 : decode method_3_code 10 = .ok (.iload_n 1, 1) := by decide +kernel
theorem d7_11 : decode method_3_code 11 = .ok (.iload_n 2, 1) := by decide +kernel
theorem d7_12 : decode method_3_code 12 = .ok (.iconst 1, 1) := by decide +kernel
theorem d7_13 : decode method_3_code 13 = .ok (.isub, 1) := by decide +kernel
theorem d7_14 : decode method_3_code 14 = .ok (.if_icmp .ge 9, 3) := by decide +kernel
theorem d7_17 : decode method_3_code 17 = .ok (.iload_n 3, 1) := by decide +kernel
theorem d7_18 : decode method_3_code 18 = .ok (.sipush 128, 3) := by decide +kernel
theorem d7_21 : decode method_3_code 21 = .ok (.ior, 1) := by decide +kernel
theorem d7_22 : decode method_3_code 22 = .ok (.ireturn, 1) := by decide +kernel
theorem d7_23 : decode method_3_code 23 = .ok (.iload_n 3, 1) := by decide +kernel
theorem d7_24 : decode method_3_code 24 = .ok (.ireturn, 1) := by decide +kernel
theorem pn_7 : plainName "com/example/outcomery/outcomery/PackedNumbersByteAtPinLaw" = true := by first | (simp [plainName, overriddenIn]; done) | decide +kernel
theorem ef_7 (m : MethodId) (p1 : Int32) (p2 : Int32) (p3 : Int32) : entryFrame m #[(.int p1), (.int p2), (.int p3)] 4 = mkF m 0 #[.val (.int p1), .val (.int p2), .val (.int p3), .unset] [] := by first | (simp [entryFrame, mkF, argsToLocals, Value.category]; done) | rfl
def Q7 (Z : State) (p1 : Int32) (p2 : Int32) (p3 : Int32) (h0 : Heap) (n0 : Nat) (v : Option Value) (h : Heap) (L : List Loc) : Prop := v = some (.int (if p2 < (p3 - (1 : Int32)) then (((((p1.toUInt32 >>> (((7 : Int32) * p2) &&& 31).toUInt32).toInt32) &&& (127 : Int32))) ||| (128 : Int32)) else ((((p1.toUInt32 >>> (((7 : Int32) * p2) &&& 31).toUInt32).toInt32) &&& (127 : Int32))))) ∧ Fr n0 L ∧ h = h0
set_option maxRecDepth 65536 in
set_option maxHeartbeats 40000000 in
theorem rm7 (l : Launch) (Z : State) (a0 : Array Value) (hw : ∀ d ∈ tables_1, d.before a0 Z = true) (ws : List Jvm.Cond) (p1 : Int32) (p2 : Int32) (p3 : Int32) (h0 : Heap) (n0 : Nat) (Z0 : n0 ≤ h0.size) :
    MetFree l (⟨"com/example/outcomery/outcomery/PackedNumbersByteAtPinLaw", "byteOf", "(III)I"⟩ : MethodName) (head1 (Jvm.Cond.code (⟨"com/example/outcomery/outcomery/PackedNumbersByteAtPinLaw", "byteOf", "(III)I"⟩ : MethodName) method_3_code 4 (some .int) :: ws) ({ frames := 0, cells := 0, slots := 0, locals := 0 } : Room)) (fun a U => a = #[(.int p1), (.int p2), (.int p3)] ∧ Z.Warmed39 U.vm ∧ U.heap = h0) (fun _ _ _ _ _ => True) (fun _ U o U' => ∃ v L, o = .returned v ∧ Q7 Z p1 p2 p3 h0 n0 v U'.heap L ∧ FrameEnd U o U' L ({ frames := 0, cells := 0, slots := 0, locals := 0 } : Room).cells ({ frames := 0, cells := 0, slots := 0, locals := 0 } : Room).slots) := by
  refine MetFree.of_bodySF (plainFor_of_name pn_7) hisR ?_
  intro p e s m args below meth c s₁ Bd hml0 hP hK
  obtain ⟨rfl, hZ, hh⟩ := hP
  have hx := Bd.exec
  have hby := Bd.bytes
  have hml : c.maxLocals = 4 := hml0
  have hown : s.vm.findClass "com/example/outcomery/outcomery/PackedNumbersByteAtPinLaw" = some m.cls := findClass_of_methodNamed Bd.named
  have hnm := (name_of_methodNamed Bd.named Bd.method).1
  have X0 : Stand p l e ({ frames := 0, cells := 0, slots := 0, locals := 0 } : Room) s m #[(.int p1), (.int p2), (.int p3)] below meth c s₁ [] 0 0 := Stand.of_body Bd
  have e0 : s₁.heap = h0 := by rw [← hh, Bd.state]; rfl
  have N0 := Fr.nil n0
  have K0 : Keep h0 h0 [] := Keep.refl h0 _
  refine (show Gl p e below (fun o U' => ∃ v L, o = .returned v ∧ Q7 Z p1 p2 p3 h0 n0 v U'.heap L ∧ FrameEnd s o U' L ({ frames := 0, cells := 0, slots := 0, locals := 0 } : Room).cells ({ frames := 0, cells := 0, slots := 0, locals := 0 } : Room).slots) (s₁.setTop (entryFrame m #[(.int p1), (.int p2), (.int p3)] 4)) from ?_)
  obtain ⟨L0, hL0⟩ : ∃ z : Array Slot, z = #[.val (.int p1), .val (.int p2), .val (.int p3), .unset] := ⟨_, rfl⟩
  refine Gl.st (B := (s₁.setTop (mkF m 0 L0 []))) (fun t k => castTop (efAt hL0 (ef_7 m p1 p2 p3)) k) ?_
  refine Gl.st (B := (s₁.setTop (mkF m 1 L0 [(.int p1)]))) (fun t k => XS.iloadN X0.here hx rfl (hb hby d7_0) (ldAt hL0 rfl) k) ?_
  refine Gl.st (B := (s₁.setTop (mkF m 3 L0 [(.int (7 : Int32)), (.int p1)]))) (fun t k => XS.bipush X0.here hx rfl (hb hby d7_1) k) ?_
  refine Gl.st (B := (s₁.setTop (mkF m 4 L0 [(.int p2), (.int (7 : Int32)), (.int p1)]))) (fun t k => XS.iloadN X0.here hx rfl (hb hby d7_3) (ldAt hL0 rfl) k) ?_
  refine Gl.st (B := (s₁.setTop (mkF m 5 L0 [(.int ((7 : Int32) * p2)), (.int p1)]))) (fun t k => XS.imul X0.here hx rfl (hb hby d7_4) rfl k) ?_
  refine Gl.st (B := (s₁.setTop (mkF m 6 L0 [(.int ((p1.toUInt32 >>> (((7 : Int32) * p2) &&& 31).toUInt32).toInt32))]))) (fun t k => XS.iushr X0.here hx rfl (hb hby d7_5) rfl k) ?_
  refine Gl.st (B := (s₁.setTop (mkF m 8 L0 [(.int (127 : Int32)), (.int ((p1.toUInt32 >>> (((7 : Int32) * p2) &&& 31).toUInt32).toInt32))]))) (fun t k => XS.bipush X0.here hx rfl (hb hby d7_6) k) ?_
  refine Gl.st (B := (s₁.setTop (mkF m 9 L0 [(.int (((p1.toUInt32 >>> (((7 : Int32) * p2) &&& 31).toUInt32).toInt32) &&& (127 : Int32)))]))) (fun t k => XS.iand X0.here hx rfl (hb hby d7_8) rfl k) ?_
  obtain ⟨y3_9_1, hy3_9_1⟩ : ∃ z : Int32, z = (((p1.toUInt32 >>> (((7 : Int32) * p2) &&& 31).toUInt32).toInt32) &&& (127 : Int32)) := ⟨_, rfl⟩
  refine Gl.cast (B := (s₁.setTop (mkF m 9 L0 [(.int y3_9_1)]))) (by rw [hy3_9_1]) ?_
  obtain ⟨L2, hL2⟩ : ∃ z : Array Slot, z = #[.val (.int p1), .val (.int p2), .val (.int p3), .val (.int y3_9_1)] := ⟨_, rfl⟩
  refine Gl.st (B := (s₁.setTop (mkF m 10 L2 []))) (fun t k => XS.istoreN X0.here hx rfl (hb hby d7_9) rfl (l' := L2) (stAt hL0 hL2 rfl rfl) k) ?_
  refine Gl.st (B := (s₁.setTop (mkF m 11 L2 [(.int p2)]))) (fun t k => XS.iloadN X0.here hx rfl (hb hby d7_10) (ldAt hL2 rfl) k) ?_
  refine Gl.st (B := (s₁.setTop (mkF m 12 L2 [(.int p3), (.int p2)]))) (fun t k => XS.iloadN X0.here hx rfl (hb hby d7_11) (ldAt hL2 rfl) k) ?_
  refine Gl.st (B := (s₁.setTop (mkF m 13 L2 [(.int (1 : Int32)), (.int p3), (.int p2)]))) (fun t k => XS.iconst X0.here hx rfl (hb hby d7_12) k) ?_
  refine Gl.st (B := (s₁.setTop (mkF m 14 L2 [(.int (p3 - (1 : Int32))), (.int p2)]))) (fun t k => XS.isub X0.here hx rfl (hb hby d7_13) rfl k) ?_
  by_cases hc14_3 : p2 < (p3 - (1 : Int32))
  · skip
    refine Gl.st (B := (s₁.setTop (mkF m 17 L2 []))) (fun t k => XS.icmpNo X0.here hx rfl (hb hby d7_14) rfl (tlt hc14_3).2.1 k) ?_
    refine Gl.st (B := (s₁.setTop (mkF m 18 L2 [(.int y3_9_1)]))) (fun t k => XS.iloadN X0.here hx rfl (hb hby d7_17) (ldAt hL2 rfl) k) ?_
    refine Gl.st (B := (s₁.setTop (mkF m 21 L2 [(.int (128 : Int32)), (.int y3_9_1)]))) (fun t k => XS.sipush X0.here hx rfl (hb hby d7_18) k) ?_
    refine Gl.st (B := (s₁.setTop (mkF m 22 L2 [(.int (y3_9_1 ||| (128 : Int32)))]))) (fun t k => XS.ior X0.here hx rfl (hb hby d7_21) rfl k) ?_
    obtain ⟨fs, hr, hrun, hended, hW, hsame⟩ := X0.leave (v := some (.int (y3_9_1 ||| (128 : Int32)))) (fun h => by rw [Bd.returns] at h; cases h)
    refine Gl.fin (retI X0 hx Bd.returns (hb hby d7_22) hr) hrun hended ⟨_, _, rfl, ?_, ⟨_, rfl⟩, hW, hsame.mono (by decide) (by decide)⟩
    show Q7 Z p1 p2 p3 h0 n0 _ s₁.heap _
    rw [e0]
    exact ⟨(by subst hy3_9_1; rw [if_pos hc14_3]), N0, rfl⟩
  · skip
    refine Gl.st (B := (s₁.setTop (mkF m 23 L2 []))) (fun t k => XS.icmpYes X0.here hx rfl (pc0 := 14) (pc' := 23) rfl (hb hby d7_14) rfl (flt hc14_3).2.1 (by decide) (by decide) k) ?_
    refine Gl.st (B := (s₁.setTop (mkF m 24 L2 [(.int y3_9_1)]))) (fun t k => XS.iloadN X0.here hx rfl (hb hby d7_23) (ldAt hL2 rfl) k) ?_
    obtain ⟨fs, hr, hrun, hended, hW, hsame⟩ := X0.leave (v := some (.int y3_9_1)) (fun h => by rw [Bd.returns] at h; cases h)
    refine Gl.fin (retI X0 hx Bd.returns (hb hby d7_24) hr) hrun hended ⟨_, _, rfl, ?_, ⟨_, rfl⟩, hW, hsame.mono (by decide) (by decide)⟩
    show Q7 Z p1 p2 p3 h0 n0 _ s₁.heap _
    rw [e0]
    exact ⟨(by subst hy3_9_1; rw [if_neg hc14_3]), N0, rfl⟩
theorem d8_0 : decode prog_23_method_4_code 0 = .ok (.aload_n 0, 1) := by decide +kernel
theorem d8_1 : decode prog_23_method_4_code 1 = .ok (.getfield 11, 3) := by decide +kernel
theorem d8_4 : decode prog_23_method_4_code 4 = .ok (.iload_n 1, 1) := by decide +kernel
theorem d8_5 : decode prog_23_method_4_code 5 = .ok (.bipush 16, 2) := by decide +kernel
theorem d8_7 : decode prog_23_method_4_code 7 = .ok (.iushr, 1) := by decide +kernel
theorem d8_8 : decode prog_23_method_4_code 8 = .ok (.aaload, 1) := by decide +kernel
theorem d8_9 : decode prog_23_method_4_code 9 = .ok (.iload_n 1, 1) := by decide +kernel
theorem d8_10 : decode prog_23_method_4_code 10 = .ok (.ldc 23, 2) := by decide +kernel
theorem d8_12 : decode prog_23_method_4_code 12 = .ok (.iand, 1) := by decide +kernel
theorem d8_13 : decode prog_23_method_4_code 13 = .ok (.baload, 1) := by decide +kernel
theorem d8_14 : decode prog_23_method_4_code 14 = .ok (.sipush 255, 3) := by decide +kernel
theorem d8_17 : decode prog_23_method_4_code 17 = .ok (.iand, 1) := by decide +kernel
theorem d8_18 : decode prog_23_method_4_code 18 = .ok (.ireturn, 1) := by decide +kernel
theorem pn_8 : plainName "com/example/outcomery/outcomery/PackedNumbers" = true := by first | (simp [plainName, overriddenIn]; done) | decide +kernel
theorem ef_8 (m : MethodId) (a1 : Addr) (p2 : Int32) : entryFrame m #[(.ref a1), (.int p2)] 2 = mkF m 0 #[.val (.ref a1), .val (.int p2)] [] := by first | (simp [entryFrame, mkF, argsToLocals, Value.category]; done) | rfl
def Q8 (Z : State) (a1 : Addr) (p2 : Int32) (kx_w_pieces_a1 : ClassId) (bk : Addr) (kx_bk : ClassId) (vs : List Value) (elx : Int32) (w_pieces_a1 : Addr) (h0 : Heap) (n0 : Nat) (v : Option Value) (h : Heap) (L : List Loc) : Prop := v = some (.int (elx &&& (255 : Int32))) ∧ Fr n0 L ∧ h = h0
set_option maxRecDepth 65536 in
set_option maxHeartbeats 40000000 in
theorem rm8 (l : Launch) (Z : State) (a0 : Array Value) (hw : ∀ d ∈ tables_1, d.before a0 Z = true) (ws : List Jvm.Cond) (a1 : Addr) (p2 : Int32) (kx_w_pieces_a1 : ClassId) (bk : Addr) (kx_bk : ClassId) (vs : List Value) (elx : Int32) (w_pieces_a1 : Addr) (h0 : Heap) (n0 : Nat) (Z0 : n0 ≤ h0.size) (V_w_pieces_a1 : Arv Z h0 w_pieces_a1 kx_w_pieces_a1 (.array .byte) (1 : Int32) [(.ref bk)] .null) (O_w_pieces_a1 : OvrA Z kx_w_pieces_a1 .byte "[B") (V_bk : Arv Z h0 bk kx_bk .byte (64 : Int32) vs (.int (0 : Int32))) (hq0 : ¬ p2 < 0) (hq1 : p2 < 64) (hel : vs.getD p2.toNatClampNeg (.int (0 : Int32)) = .int elx) (F_pieces_a1 : Fld Z h0 a1 "com/example/outcomery/outcomery/PackedNumbers" "pieces" "[[B" (.ref w_pieces_a1)) :
    MetFree l (⟨"com/example/outcomery/outcomery/PackedNumbers", "byteAt", "(I)I"⟩ : MethodName) (head1 (Jvm.Cond.code (⟨"com/example/outcomery/outcomery/PackedNumbers", "byteAt", "(I)I"⟩ : MethodName) prog_23_method_4_code 2 (some .int) :: ws) ({ frames := 0, cells := 0, slots := 0, locals := 0 } : Room)) (fun a U => a = #[(.ref a1), (.int p2)] ∧ Z.Warmed39 U.vm ∧ U.heap = h0) (fun _ _ _ _ _ => True) (fun _ U o U' => ∃ v L, o = .returned v ∧ Q8 Z a1 p2 kx_w_pieces_a1 bk kx_bk vs elx w_pieces_a1 h0 n0 v U'.heap L ∧ FrameEnd U o U' L ({ frames := 0, cells := 0, slots := 0, locals := 0 } : Room).cells ({ frames := 0, cells := 0, slots := 0, locals := 0 } : Room).slots) := by
  refine MetFree.of_bodySF (plainFor_of_name pn_8) hisR ?_
  intro p e s m args below meth c s₁ Bd hml0 hP hK
  obtain ⟨rfl, hZ, hh⟩ := hP
  have hx := Bd.exec
  have hby := Bd.bytes
  have hml : c.maxLocals = 2 := hml0
  have hown : s.vm.findClass "com/example/outcomery/outcomery/PackedNumbers" = some m.cls := findClass_of_methodNamed Bd.named
  have hnm := (name_of_methodNamed Bd.named Bd.method).1
  have X0 : Stand p l e ({ frames := 0, cells := 0, slots := 0, locals := 0 } : Room) s m #[(.ref a1), (.int p2)] below meth c s₁ [] 0 0 := Stand.of_body Bd
  have e0 : s₁.heap = h0 := by rw [← hh, Bd.state]; rfl
  have N0 := Fr.nil n0
  have K0 : Keep h0 h0 [] := Keep.refl h0 _
  refine (show Gl p e below (fun o U' => ∃ v L, o = .returned v ∧ Q8 Z a1 p2 kx_w_pieces_a1 bk kx_bk vs elx w_pieces_a1 h0 n0 v U'.heap L ∧ FrameEnd s o U' L ({ frames := 0, cells := 0, slots := 0, locals := 0 } : Room).cells ({ frames := 0, cells := 0, slots := 0, locals := 0 } : Room).slots) (s₁.setTop (entryFrame m #[(.ref a1), (.int p2)] 2)) from ?_)
  obtain ⟨L0, hL0⟩ : ∃ z : Array Slot, z = #[.val (.ref a1), .val (.int p2)] := ⟨_, rfl⟩
  refine Gl.st (B := (s₁.setTop (mkF m 0 L0 []))) (fun t k => castTop (efAt hL0 (ef_8 m a1 p2)) k) ?_
  refine Gl.st (B := (s₁.setTop (mkF m 1 L0 [(.ref a1)]))) (fun t k => XS.aloadN X0.here hx rfl (hb hby d8_0) (ldAt hL0 rfl) rfl k) ?_
  obtain ⟨T1, X1, e1, st1⟩ := getF X0 hx hZ hown (host := "") (Or.inl (tw hw 12 rfl)) Via.refl e0 F_pieces_a1 (g := (mkF m 1 L0 [(.ref a1)])) rfl rfl (hb hby d8_1)
  refine Gl.st (B := (T1.setTop (mkF m 4 L0 [(.ref w_pieces_a1)]))) st1 ?_
  refine Gl.st (B := (T1.setTop (mkF m 5 L0 [(.int p2), (.ref w_pieces_a1)]))) (fun t k => XS.iloadN X1.here hx rfl (hb hby d8_4) (ldAt hL0 rfl) k) ?_
  refine Gl.st (B := (T1.setTop (mkF m 7 L0 [(.int (16 : Int32)), (.int p2), (.ref w_pieces_a1)]))) (fun t k => XS.bipush X1.here hx rfl (hb hby d8_5) k) ?_
  refine Gl.st (B := (T1.setTop (mkF m 8 L0 [(.int ((p2.toUInt32 >>> ((16 : Int32) &&& 31).toUInt32).toInt32)), (.ref w_pieces_a1)]))) (fun t k => XS.iushr X1.here hx rfl (hb hby d8_7) rfl k) ?_
  obtain ⟨ix8, hix8⟩ : ∃ z : Int32, z = ((p2.toUInt32 >>> ((16 : Int32) &&& 31).toUInt32).toInt32) := ⟨_, rfl⟩
  refine Gl.cast (B := (T1.setTop (mkF m 8 L0 [(.int ix8), (.ref w_pieces_a1)]))) (by rw [hix8]) ?_
  have hn2 : ix8 = (0 : Int32) := by
    exact own_hi0 p2 _ hq0 (own_lt _ hq1 (by decide)) hix8
  subst hn2
  obtain ⟨cl3, Ar3, q3, S3, P3, H3, G3⟩ := (id V_w_pieces_a1)
  have hin8_3 : ¬ ((0 : Int32) < 0 ∨ cl3.slots.size ≤ ((0 : Int32)).toNatClampNeg) := inb_of S3 ⟨by decide, by decide⟩
  have hat3 := Has.at H3 hin8_3 (v := (.ref bk)) rfl
  refine Gl.st (B := (T1.setTop (mkF m 9 L0 [(.ref bk)]))) (fun t k => X1.aaload hx (j := (0 : Int32)) (v := (.ref bk)) (by rw [e1]; exact Ar3.1) (State.isArrayOf_alike hZ.alike Ar3.2.1) rfl Ar3.2.2 hin8_3 hat3 (g := (mkF m 8 L0 [(.int (0 : Int32)), (.ref w_pieces_a1)])) rfl rfl (hb hby d8_8) _ k) ?_
  refine Gl.st (B := (T1.setTop (mkF m 10 L0 [(.int p2), (.ref bk)]))) (fun t k => XS.iloadN X1.here hx rfl (hb hby d8_9) (ldAt hL0 rfl) k) ?_
  refine Gl.st (B := (T1.setTop (mkF m 12 L0 [(.int (65535 : Int32)), (.int p2), (.ref bk)]))) (fun t k => X1.ldcInt hx hown (mvT hZ (tw hw 25 rfl)) (g := (mkF m 10 L0 [(.int p2), (.ref bk)])) rfl (hb hby d8_10) _ k) ?_
  refine Gl.st (B := (T1.setTop (mkF m 13 L0 [(.int (p2 &&& (65535 : Int32))), (.ref bk)]))) (fun t k => XS.iand X1.here hx rfl (hb hby d8_12) rfl k) ?_
  obtain ⟨ix13, hix13⟩ : ∃ z : Int32, z = (p2 &&& (65535 : Int32)) := ⟨_, rfl⟩
  refine Gl.cast (B := (T1.setTop (mkF m 13 L0 [(.int ix13), (.ref bk)]))) (by rw [hix13]) ?_
  have hn4 : p2 = ix13 := by
    exact own_lo0 p2 _ hq0 (own_lt _ hq1 (by decide)) hix13
  subst hn4
  obtain ⟨cl5, Ar5, q5, S5, P5, H5, G5⟩ := (id V_bk)
  have hin13_5 : ¬ (p2 < 0 ∨ cl5.slots.size ≤ (p2).toNatClampNeg) := inb_of S5 ⟨hq0, own_lt _ hq1 (by decide)⟩
  have hat5 := Has.at H5 hin13_5 (v := (.int elx)) hel
  refine Gl.st (B := (T1.setTop (mkF m 14 L0 [(.int elx)]))) (fun t k => X1.baloadBytes hx (j := p2) (v := (.int elx)) (by rw [e1]; exact Ar5.1) (State.isArrayOf_alike hZ.alike Ar5.2.1) Ar5.2.2 hin13_5 hat5 (g := (mkF m 13 L0 [(.int p2), (.ref bk)])) rfl rfl (hb hby d8_13) _ k) ?_
  refine Gl.st (B := (T1.setTop (mkF m 17 L0 [(.int (255 : Int32)), (.int elx)]))) (fun t k => XS.sipush X1.here hx rfl (hb hby d8_14) k) ?_
  refine Gl.st (B := (T1.setTop (mkF m 18 L0 [(.int (elx &&& (255 : Int32)))]))) (fun t k => XS.iand X1.here hx rfl (hb hby d8_17) rfl k) ?_
  obtain ⟨fs, hr, hrun, hended, hW, hsame⟩ := X1.leave (v := some (.int (elx &&& (255 : Int32)))) (fun h => by rw [Bd.returns] at h; cases h)
  refine Gl.fin (retI X1 hx Bd.returns (hb hby d8_18) hr) hrun hended ⟨_, _, rfl, ?_, ⟨_, rfl⟩, hW, hsame.mono (by decide) (by decide)⟩
  show Q8 Z a1 p2 kx_w_pieces_a1 bk kx_bk vs elx w_pieces_a1 h0 n0 _ T1.heap _
  rw [e1]
  exact ⟨rfl, N0, rfl⟩
theorem pn_0 : plainName "com/example/outcomery/outcomery/PackedNumbersByteAtPinLaw" = true := by first | (simp [plainName, overriddenIn]; done) | decide +kernel
theorem pd_0_0 : parseMethodDescriptor "()V" = some ⟨[], none⟩ := by decide +kernel
theorem pd_0_1 : parseMethodDescriptor "(I)V" = some ⟨[.int], none⟩ := by decide +kernel
theorem pd_0_2 : parseMethodDescriptor "(I)I" = some ⟨[.int], some .int⟩ := by decide +kernel
theorem pd_0_3 : parseMethodDescriptor "()I" = some ⟨[], some .int⟩ := by decide +kernel
theorem pd_0_4 : parseMethodDescriptor "(III)I" = some ⟨[.int, .int, .int], some .int⟩ := by decide +kernel
theorem ef_0 (m : MethodId) (p1 : Int32) (p2 : Int32) (p3 : Int32) (p4 : Int32) (p5 : Int32) : entryFrame m #[(.int p1), (.int p2), (.int p3), (.int p4), (.int p5)] maxLocals = mkF m 0 #[.val (.int p1), .val (.int p2), .val (.int p3), .val (.int p4), .val (.int p5), .unset, .unset, .unset, .unset, .unset, .unset, .unset] [] := by first | (simp [entryFrame, mkF, argsToLocals, Value.category, maxLocals]; done) | rfl
theorem own_0_hp35_11 (p1 : Int32) (p3 : Int32) (y5_9_1 : Int32) (hy5_9_1 : y5_9_1 = (((p1 &&& (2147483647 : Int32)).toUInt32 >>> ((p3 &&& (31 : Int32)) &&& 31).toUInt32).toInt32))  : ¬ y5_9_1 < 0 := by
  exact own_sn _ _ _ hy5_9_1
theorem own_0_hp42_17 (p2 : Int32) (p4 : Int32) (y6_20_3 : Int32) (hy6_20_3 : y6_20_3 = (((p2 &&& (2147483647 : Int32)).toUInt32 >>> ((p4 &&& (31 : Int32)) &&& 31).toUInt32).toInt32))  : ¬ y6_20_3 < 0 := by
  exact own_sn _ _ _ hy6_20_3
theorem own_0_hp42_18 (p1 : Int32) (p3 : Int32) (y5_9_1 : Int32) (f35_14 : Int32) (hy5_9_1 : y5_9_1 = (((p1 &&& (2147483647 : Int32)).toUInt32 >>> ((p3 &&& (31 : Int32)) &&& 31).toUInt32).toInt32)) (hf35_14 : f35_14 = (own_F (0 : Int32) y5_9_1))  : ¬ f35_14 < 0 := by
  have h5 := own_sn _ _ _ hy5_9_1
  clear hy5_9_1
  have l5 := own_Lr _ h5
  have e : f35_14 = own_L y5_9_1 := by rw [hf35_14, own_FL _ _ h5, Int32.zero_add]
  rw [e, Int32.lt_iff_toInt_lt]
  simp only [Int32.reduceToInt]
  omega
theorem own_0_hp42_19 (p1 : Int32) (p3 : Int32) (y5_9_1 : Int32) (f35_14 : Int32) (hy5_9_1 : y5_9_1 = (((p1 &&& (2147483647 : Int32)).toUInt32 >>> ((p3 &&& (31 : Int32)) &&& 31).toUInt32).toInt32)) (hf35_14 : f35_14 = (own_F (0 : Int32) y5_9_1))  : f35_14 < 58 := by
  have h5 := own_sn _ _ _ hy5_9_1
  clear hy5_9_1
  have l5 := own_Lr _ h5
  have e : f35_14 = own_L y5_9_1 := by rw [hf35_14, own_FL _ _ h5, Int32.zero_add]
  rw [e, Int32.lt_iff_toInt_lt]
  simp only [Int32.reduceToInt]
  omega
theorem own_0_hp42_20 (p1 : Int32) (p3 : Int32) (y5_9_1 : Int32) (vl35_15 : List Value) (f35_14 : Int32) (hy5_9_1 : y5_9_1 = (((p1 &&& (2147483647 : Int32)).toUInt32 >>> ((p3 &&& (31 : Int32)) &&& 31).toUInt32).toInt32)) (hvl35_15 : vl35_15 = (own_E [] y5_9_1)) (hf35_14 : f35_14 = (own_F (0 : Int32) y5_9_1))  : vl35_15.length = f35_14.toNatClampNeg := by
  have h5 := own_sn _ _ _ hy5_9_1
  clear hy5_9_1
  have l5 := own_Lr _ h5
  have e : f35_14 = own_L y5_9_1 := by rw [hf35_14, own_FL _ _ h5, Int32.zero_add]
  rw [e, hvl35_15]
  exact own_EL _ h5
theorem own_0_hc69_33 (p1 : Int32) (p3 : Int32) (y5_9_1 : Int32) (f35_14 : Int32) (p2 : Int32) (p4 : Int32) (y6_20_3 : Int32) (f42_24 : Int32) (r47_27 : Int32) (r54_30 : Int32) (hy5_9_1 : y5_9_1 = (((p1 &&& (2147483647 : Int32)).toUInt32 >>> ((p3 &&& (31 : Int32)) &&& 31).toUInt32).toInt32)) (hf35_14 : f35_14 = (own_F (0 : Int32) y5_9_1)) (hy6_20_3 : y6_20_3 = (((p2 &&& (2147483647 : Int32)).toUInt32 >>> ((p4 &&& (31 : Int32)) &&& 31).toUInt32).toInt32)) (hf42_24 : f42_24 = (own_F f35_14 y6_20_3)) (hr47_27 : r47_27 = (if y5_9_1 < (128 : Int32) then (1 : Int32) else (if y5_9_1 < (16384 : Int32) then (2 : Int32) else (if y5_9_1 < (2097152 : Int32) then (3 : Int32) else (if y5_9_1 < (268435456 : Int32) then (4 : Int32) else (5 : Int32)))))) (hr54_30 : r54_30 = (if y6_20_3 < (128 : Int32) then (1 : Int32) else (if y6_20_3 < (16384 : Int32) then (2 : Int32) else (if y6_20_3 < (2097152 : Int32) then (3 : Int32) else (if y6_20_3 < (268435456 : Int32) then (4 : Int32) else (5 : Int32))))))  : f42_24 = (r47_27 + r54_30) := by
  have h5 := own_sn _ _ _ hy5_9_1
  clear hy5_9_1
  have h6 := own_sn _ _ _ hy6_20_3
  clear hy6_20_3
  have l5 := own_Lr _ h5
  have l6 := own_Lr _ h6
  have e5 : r47_27 = own_L y5_9_1 := hr47_27
  have e6 : r54_30 = own_L y6_20_3 := hr54_30
  clear hr47_27 hr54_30
  rw [hf42_24, own_FL _ _ h6, hf35_14, own_FL _ _ h5, Int32.zero_add, e5, e6]
theorem own_0_nz84 (p1 : Int32) (p3 : Int32) (y5_9_1 : Int32) (r47_27 : Int32) (p2 : Int32) (p4 : Int32) (y6_20_3 : Int32) (r54_30 : Int32) (hy5_9_1 : y5_9_1 = (((p1 &&& (2147483647 : Int32)).toUInt32 >>> ((p3 &&& (31 : Int32)) &&& 31).toUInt32).toInt32)) (hr47_27 : r47_27 = (if y5_9_1 < (128 : Int32) then (1 : Int32) else (if y5_9_1 < (16384 : Int32) then (2 : Int32) else (if y5_9_1 < (2097152 : Int32) then (3 : Int32) else (if y5_9_1 < (268435456 : Int32) then (4 : Int32) else (5 : Int32)))))) (hy6_20_3 : y6_20_3 = (((p2 &&& (2147483647 : Int32)).toUInt32 >>> ((p4 &&& (31 : Int32)) &&& 31).toUInt32).toInt32)) (hr54_30 : r54_30 = (if y6_20_3 < (128 : Int32) then (1 : Int32) else (if y6_20_3 < (16384 : Int32) then (2 : Int32) else (if y6_20_3 < (2097152 : Int32) then (3 : Int32) else (if y6_20_3 < (268435456 : Int32) then (4 : Int32) else (5 : Int32))))))  : (r47_27 + r54_30) ≠ (0 : Int32) := by
  have h5 := own_sn _ _ _ hy5_9_1
  clear hy5_9_1
  have h6 := own_sn _ _ _ hy6_20_3
  clear hy6_20_3
  have l5 := own_Lr _ h5
  have l6 := own_Lr _ h6
  have e5 : r47_27 = own_L y5_9_1 := hr47_27
  have e6 : r54_30 = own_L y6_20_3 := hr54_30
  clear hr47_27 hr54_30
  rw [e5, e6]
  intro q
  have s := own_sum _ _ l5 l6
  rw [q] at s
  simp only [Int32.reduceToInt] at s
  omega
theorem own_0_hp126_42 (p5 : Int32) (p1 : Int32) (p3 : Int32) (y5_9_1 : Int32) (r47_27 : Int32) (p2 : Int32) (p4 : Int32) (y6_20_3 : Int32) (r54_30 : Int32) (y10_85_34 : Int32) (hy5_9_1 : y5_9_1 = (((p1 &&& (2147483647 : Int32)).toUInt32 >>> ((p3 &&& (31 : Int32)) &&& 31).toUInt32).toInt32)) (hr47_27 : r47_27 = (if y5_9_1 < (128 : Int32) then (1 : Int32) else (if y5_9_1 < (16384 : Int32) then (2 : Int32) else (if y5_9_1 < (2097152 : Int32) then (3 : Int32) else (if y5_9_1 < (268435456 : Int32) then (4 : Int32) else (5 : Int32)))))) (hy6_20_3 : y6_20_3 = (((p2 &&& (2147483647 : Int32)).toUInt32 >>> ((p4 &&& (31 : Int32)) &&& 31).toUInt32).toInt32)) (hr54_30 : r54_30 = (if y6_20_3 < (128 : Int32) then (1 : Int32) else (if y6_20_3 < (16384 : Int32) then (2 : Int32) else (if y6_20_3 < (2097152 : Int32) then (3 : Int32) else (if y6_20_3 < (268435456 : Int32) then (4 : Int32) else (5 : Int32)))))) (hy10_85_34 : y10_85_34 = ((p5 &&& (2147483647 : Int32)) % (r47_27 + r54_30)))  : ¬ y10_85_34 < 0 := by
  have h5 := own_sn _ _ _ hy5_9_1
  clear hy5_9_1
  have h6 := own_sn _ _ _ hy6_20_3
  clear hy6_20_3
  have l5 := own_Lr _ h5
  have l6 := own_Lr _ h6
  have e5 : r47_27 = own_L y5_9_1 := hr47_27
  have e6 : r54_30 = own_L y6_20_3 := hr54_30
  clear hr47_27 hr54_30
  subst e5 e6
  have b := own_pl _ _ _ _ l5 l6 hy10_85_34
  exact own_le0 b.1
theorem own_0_hp126_43 (p5 : Int32) (p1 : Int32) (p3 : Int32) (y5_9_1 : Int32) (r47_27 : Int32) (p2 : Int32) (p4 : Int32) (y6_20_3 : Int32) (r54_30 : Int32) (y10_85_34 : Int32) (hy5_9_1 : y5_9_1 = (((p1 &&& (2147483647 : Int32)).toUInt32 >>> ((p3 &&& (31 : Int32)) &&& 31).toUInt32).toInt32)) (hr47_27 : r47_27 = (if y5_9_1 < (128 : Int32) then (1 : Int32) else (if y5_9_1 < (16384 : Int32) then (2 : Int32) else (if y5_9_1 < (2097152 : Int32) then (3 : Int32) else (if y5_9_1 < (268435456 : Int32) then (4 : Int32) else (5 : Int32)))))) (hy6_20_3 : y6_20_3 = (((p2 &&& (2147483647 : Int32)).toUInt32 >>> ((p4 &&& (31 : Int32)) &&& 31).toUInt32).toInt32)) (hr54_30 : r54_30 = (if y6_20_3 < (128 : Int32) then (1 : Int32) else (if y6_20_3 < (16384 : Int32) then (2 : Int32) else (if y6_20_3 < (2097152 : Int32) then (3 : Int32) else (if y6_20_3 < (268435456 : Int32) then (4 : Int32) else (5 : Int32)))))) (hy10_85_34 : y10_85_34 = ((p5 &&& (2147483647 : Int32)) % (r47_27 + r54_30)))  : y10_85_34 < 64 := by
  have h5 := own_sn _ _ _ hy5_9_1
  clear hy5_9_1
  have h6 := own_sn _ _ _ hy6_20_3
  clear hy6_20_3
  have l5 := own_Lr _ h5
  have l6 := own_Lr _ h6
  have e5 : r47_27 = own_L y5_9_1 := hr47_27
  have e6 : r54_30 = own_L y6_20_3 := hr54_30
  clear hr47_27 hr54_30
  subst e5 e6
  have b := own_pl _ _ _ _ l5 l6 hy10_85_34
  rw [Int32.lt_iff_toInt_lt]
  simp only [Int32.reduceToInt]
  omega
theorem own_0_hp126_44 (p1 : Int32) (p3 : Int32) (y5_9_1 : Int32) (vl35_15 : List Value) (p2 : Int32) (p4 : Int32) (y6_20_3 : Int32) (vl42_25 : List Value) (p5 : Int32) (r47_27 : Int32) (r54_30 : Int32) (y10_85_34 : Int32) (hy5_9_1 : y5_9_1 = (((p1 &&& (2147483647 : Int32)).toUInt32 >>> ((p3 &&& (31 : Int32)) &&& 31).toUInt32).toInt32)) (hvl35_15 : vl35_15 = (own_E [] y5_9_1)) (hy6_20_3 : y6_20_3 = (((p2 &&& (2147483647 : Int32)).toUInt32 >>> ((p4 &&& (31 : Int32)) &&& 31).toUInt32).toInt32)) (hvl42_25 : vl42_25 = (own_E vl35_15 y6_20_3)) (hr47_27 : r47_27 = (if y5_9_1 < (128 : Int32) then (1 : Int32) else (if y5_9_1 < (16384 : Int32) then (2 : Int32) else (if y5_9_1 < (2097152 : Int32) then (3 : Int32) else (if y5_9_1 < (268435456 : Int32) then (4 : Int32) else (5 : Int32)))))) (hr54_30 : r54_30 = (if y6_20_3 < (128 : Int32) then (1 : Int32) else (if y6_20_3 < (16384 : Int32) then (2 : Int32) else (if y6_20_3 < (2097152 : Int32) then (3 : Int32) else (if y6_20_3 < (268435456 : Int32) then (4 : Int32) else (5 : Int32)))))) (hy10_85_34 : y10_85_34 = ((p5 &&& (2147483647 : Int32)) % (r47_27 + r54_30)))  : vl42_25.getD y10_85_34.toNatClampNeg (.int (0 : Int32)) = .int (own_at vl42_25 y10_85_34) := by
  have h5 := own_sn _ _ _ hy5_9_1
  clear hy5_9_1
  have h6 := own_sn _ _ _ hy6_20_3
  clear hy6_20_3
  have l5 := own_Lr _ h5
  have l6 := own_Lr _ h6
  have e5 : r47_27 = own_L y5_9_1 := hr47_27
  have e6 : r54_30 = own_L y6_20_3 := hr54_30
  clear hr47_27 hr54_30
  subst e5 e6
  have b := own_pl _ _ _ _ l5 l6 hy10_85_34
  apply own_isI
  rw [hvl42_25, own_EE _ _ h6, hvl35_15]
  intro v hv
  rcases List.mem_append.mp hv with q | q
  · exact own_EV _ h5 v q
  · exact own_EV _ h6 v q
theorem own_0_hc131_46 (p1 : Int32) (p3 : Int32) (y5_9_1 : Int32) (vl35_15 : List Value) (p2 : Int32) (p4 : Int32) (y6_20_3 : Int32) (vl42_25 : List Value) (p5 : Int32) (r47_27 : Int32) (r54_30 : Int32) (y10_85_34 : Int32) (r126_45 : Int32) (r100_38 : Int32) (hy5_9_1 : y5_9_1 = (((p1 &&& (2147483647 : Int32)).toUInt32 >>> ((p3 &&& (31 : Int32)) &&& 31).toUInt32).toInt32)) (hvl35_15 : vl35_15 = (own_E [] y5_9_1)) (hy6_20_3 : y6_20_3 = (((p2 &&& (2147483647 : Int32)).toUInt32 >>> ((p4 &&& (31 : Int32)) &&& 31).toUInt32).toInt32)) (hvl42_25 : vl42_25 = (own_E vl35_15 y6_20_3)) (hr47_27 : r47_27 = (if y5_9_1 < (128 : Int32) then (1 : Int32) else (if y5_9_1 < (16384 : Int32) then (2 : Int32) else (if y5_9_1 < (2097152 : Int32) then (3 : Int32) else (if y5_9_1 < (268435456 : Int32) then (4 : Int32) else (5 : Int32)))))) (hr54_30 : r54_30 = (if y6_20_3 < (128 : Int32) then (1 : Int32) else (if y6_20_3 < (16384 : Int32) then (2 : Int32) else (if y6_20_3 < (2097152 : Int32) then (3 : Int32) else (if y6_20_3 < (268435456 : Int32) then (4 : Int32) else (5 : Int32)))))) (hy10_85_34 : y10_85_34 = ((p5 &&& (2147483647 : Int32)) % (r47_27 + r54_30))) (hr126_45 : r126_45 = ((own_at vl42_25 y10_85_34) &&& (255 : Int32))) (hr100_38 : r100_38 = (if y10_85_34 < (r47_27 - (1 : Int32)) then (((((y5_9_1.toUInt32 >>> (((7 : Int32) * y10_85_34) &&& 31).toUInt32).toInt32) &&& (127 : Int32))) ||| (128 : Int32)) else ((((y5_9_1.toUInt32 >>> (((7 : Int32) * y10_85_34) &&& 31).toUInt32).toInt32) &&& (127 : Int32))))) (hc91_36 : y10_85_34 < r47_27) : r126_45 = r100_38 := by
  have h5 := own_sn _ _ _ hy5_9_1
  clear hy5_9_1
  have h6 := own_sn _ _ _ hy6_20_3
  clear hy6_20_3
  have l5 := own_Lr _ h5
  have l6 := own_Lr _ h6
  have e5 : r47_27 = own_L y5_9_1 := hr47_27
  have e6 : r54_30 = own_L y6_20_3 := hr54_30
  clear hr47_27 hr54_30
  subst e5 e6
  have b := own_pl _ _ _ _ l5 l6 hy10_85_34
  have b0 := own_le0 b.1
  have en := own_EL _ h5
  have c5 := own_cl (x := own_L y5_9_1) (by omega)
  have c10 := own_cl b.1
  have q := Int32.lt_iff_toInt_lt.mp hc91_36
  rw [hr126_45, hvl42_25, own_EE _ _ h6, own_atA _ _ _ (by rw [hvl35_15, en]; omega), hvl35_15]
  rw [own_EI _ _ h5 b0 hc91_36, hr100_38]
  rfl
theorem own_0_hp126_53 (p5 : Int32) (p1 : Int32) (p3 : Int32) (y5_9_1 : Int32) (r47_27 : Int32) (p2 : Int32) (p4 : Int32) (y6_20_3 : Int32) (r54_30 : Int32) (y10_85_34 : Int32) (hy5_9_1 : y5_9_1 = (((p1 &&& (2147483647 : Int32)).toUInt32 >>> ((p3 &&& (31 : Int32)) &&& 31).toUInt32).toInt32)) (hr47_27 : r47_27 = (if y5_9_1 < (128 : Int32) then (1 : Int32) else (if y5_9_1 < (16384 : Int32) then (2 : Int32) else (if y5_9_1 < (2097152 : Int32) then (3 : Int32) else (if y5_9_1 < (268435456 : Int32) then (4 : Int32) else (5 : Int32)))))) (hy6_20_3 : y6_20_3 = (((p2 &&& (2147483647 : Int32)).toUInt32 >>> ((p4 &&& (31 : Int32)) &&& 31).toUInt32).toInt32)) (hr54_30 : r54_30 = (if y6_20_3 < (128 : Int32) then (1 : Int32) else (if y6_20_3 < (16384 : Int32) then (2 : Int32) else (if y6_20_3 < (2097152 : Int32) then (3 : Int32) else (if y6_20_3 < (268435456 : Int32) then (4 : Int32) else (5 : Int32)))))) (hy10_85_34 : y10_85_34 = ((p5 &&& (2147483647 : Int32)) % (r47_27 + r54_30)))  : ¬ y10_85_34 < 0 := by
  have h5 := own_sn _ _ _ hy5_9_1
  clear hy5_9_1
  have h6 := own_sn _ _ _ hy6_20_3
  clear hy6_20_3
  have l5 := own_Lr _ h5
  have l6 := own_Lr _ h6
  have e5 : r47_27 = own_L y5_9_1 := hr47_27
  have e6 : r54_30 = own_L y6_20_3 := hr54_30
  clear hr47_27 hr54_30
  subst e5 e6
  have b := own_pl _ _ _ _ l5 l6 hy10_85_34
  exact own_le0 b.1
theorem own_0_hp126_54 (p5 : Int32) (p1 : Int32) (p3 : Int32) (y5_9_1 : Int32) (r47_27 : Int32) (p2 : Int32) (p4 : Int32) (y6_20_3 : Int32) (r54_30 : Int32) (y10_85_34 : Int32) (hy5_9_1 : y5_9_1 = (((p1 &&& (2147483647 : Int32)).toUInt32 >>> ((p3 &&& (31 : Int32)) &&& 31).toUInt32).toInt32)) (hr47_27 : r47_27 = (if y5_9_1 < (128 : Int32) then (1 : Int32) else (if y5_9_1 < (16384 : Int32) then (2 : Int32) else (if y5_9_1 < (2097152 : Int32) then (3 : Int32) else (if y5_9_1 < (268435456 : Int32) then (4 : Int32) else (5 : Int32)))))) (hy6_20_3 : y6_20_3 = (((p2 &&& (2147483647 : Int32)).toUInt32 >>> ((p4 &&& (31 : Int32)) &&& 31).toUInt32).toInt32)) (hr54_30 : r54_30 = (if y6_20_3 < (128 : Int32) then (1 : Int32) else (if y6_20_3 < (16384 : Int32) then (2 : Int32) else (if y6_20_3 < (2097152 : Int32) then (3 : Int32) else (if y6_20_3 < (268435456 : Int32) then (4 : Int32) else (5 : Int32)))))) (hy10_85_34 : y10_85_34 = ((p5 &&& (2147483647 : Int32)) % (r47_27 + r54_30)))  : y10_85_34 < 64 := by
  have h5 := own_sn _ _ _ hy5_9_1
  clear hy5_9_1
  have h6 := own_sn _ _ _ hy6_20_3
  clear hy6_20_3
  have l5 := own_Lr _ h5
  have l6 := own_Lr _ h6
  have e5 : r47_27 = own_L y5_9_1 := hr47_27
  have e6 : r54_30 = own_L y6_20_3 := hr54_30
  clear hr47_27 hr54_30
  subst e5 e6
  have b := own_pl _ _ _ _ l5 l6 hy10_85_34
  rw [Int32.lt_iff_toInt_lt]
  simp only [Int32.reduceToInt]
  omega
theorem own_0_hp126_55 (p1 : Int32) (p3 : Int32) (y5_9_1 : Int32) (vl35_15 : List Value) (p2 : Int32) (p4 : Int32) (y6_20_3 : Int32) (vl42_25 : List Value) (p5 : Int32) (r47_27 : Int32) (r54_30 : Int32) (y10_85_34 : Int32) (hy5_9_1 : y5_9_1 = (((p1 &&& (2147483647 : Int32)).toUInt32 >>> ((p3 &&& (31 : Int32)) &&& 31).toUInt32).toInt32)) (hvl35_15 : vl35_15 = (own_E [] y5_9_1)) (hy6_20_3 : y6_20_3 = (((p2 &&& (2147483647 : Int32)).toUInt32 >>> ((p4 &&& (31 : Int32)) &&& 31).toUInt32).toInt32)) (hvl42_25 : vl42_25 = (own_E vl35_15 y6_20_3)) (hr47_27 : r47_27 = (if y5_9_1 < (128 : Int32) then (1 : Int32) else (if y5_9_1 < (16384 : Int32) then (2 : Int32) else (if y5_9_1 < (2097152 : Int32) then (3 : Int32) else (if y5_9_1 < (268435456 : Int32) then (4 : Int32) else (5 : Int32)))))) (hr54_30 : r54_30 = (if y6_20_3 < (128 : Int32) then (1 : Int32) else (if y6_20_3 < (16384 : Int32) then (2 : Int32) else (if y6_20_3 < (2097152 : Int32) then (3 : Int32) else (if y6_20_3 < (268435456 : Int32) then (4 : Int32) else (5 : Int32)))))) (hy10_85_34 : y10_85_34 = ((p5 &&& (2147483647 : Int32)) % (r47_27 + r54_30)))  : vl42_25.getD y10_85_34.toNatClampNeg (.int (0 : Int32)) = .int (own_at vl42_25 y10_85_34) := by
  have h5 := own_sn _ _ _ hy5_9_1
  clear hy5_9_1
  have h6 := own_sn _ _ _ hy6_20_3
  clear hy6_20_3
  have l5 := own_Lr _ h5
  have l6 := own_Lr _ h6
  have e5 : r47_27 = own_L y5_9_1 := hr47_27
  have e6 : r54_30 = own_L y6_20_3 := hr54_30
  clear hr47_27 hr54_30
  subst e5 e6
  have b := own_pl _ _ _ _ l5 l6 hy10_85_34
  apply own_isI
  rw [hvl42_25, own_EE _ _ h6, hvl35_15]
  intro v hv
  rcases List.mem_append.mp hv with q | q
  · exact own_EV _ h5 v q
  · exact own_EV _ h6 v q
theorem own_0_hc131_57 (p1 : Int32) (p3 : Int32) (y5_9_1 : Int32) (vl35_15 : List Value) (p2 : Int32) (p4 : Int32) (y6_20_3 : Int32) (vl42_25 : List Value) (p5 : Int32) (r47_27 : Int32) (r54_30 : Int32) (y10_85_34 : Int32) (r126_56 : Int32) (x117_47 : Int32) (r117_49 : Int32) (hy5_9_1 : y5_9_1 = (((p1 &&& (2147483647 : Int32)).toUInt32 >>> ((p3 &&& (31 : Int32)) &&& 31).toUInt32).toInt32)) (hvl35_15 : vl35_15 = (own_E [] y5_9_1)) (hy6_20_3 : y6_20_3 = (((p2 &&& (2147483647 : Int32)).toUInt32 >>> ((p4 &&& (31 : Int32)) &&& 31).toUInt32).toInt32)) (hvl42_25 : vl42_25 = (own_E vl35_15 y6_20_3)) (hr47_27 : r47_27 = (if y5_9_1 < (128 : Int32) then (1 : Int32) else (if y5_9_1 < (16384 : Int32) then (2 : Int32) else (if y5_9_1 < (2097152 : Int32) then (3 : Int32) else (if y5_9_1 < (268435456 : Int32) then (4 : Int32) else (5 : Int32)))))) (hr54_30 : r54_30 = (if y6_20_3 < (128 : Int32) then (1 : Int32) else (if y6_20_3 < (16384 : Int32) then (2 : Int32) else (if y6_20_3 < (2097152 : Int32) then (3 : Int32) else (if y6_20_3 < (268435456 : Int32) then (4 : Int32) else (5 : Int32)))))) (hy10_85_34 : y10_85_34 = ((p5 &&& (2147483647 : Int32)) % (r47_27 + r54_30))) (hr126_56 : r126_56 = ((own_at vl42_25 y10_85_34) &&& (255 : Int32))) (hx117_47 : x117_47 = (y10_85_34 - r47_27)) (hr117_49 : r117_49 = (if x117_47 < (r54_30 - (1 : Int32)) then (((((y6_20_3.toUInt32 >>> (((7 : Int32) * x117_47) &&& 31).toUInt32).toInt32) &&& (127 : Int32))) ||| (128 : Int32)) else ((((y6_20_3.toUInt32 >>> (((7 : Int32) * x117_47) &&& 31).toUInt32).toInt32) &&& (127 : Int32))))) (hc91_36 : ¬ (y10_85_34 < r47_27)) : r126_56 = r117_49 := by
  have h5 := own_sn _ _ _ hy5_9_1
  clear hy5_9_1
  have h6 := own_sn _ _ _ hy6_20_3
  clear hy6_20_3
  have l5 := own_Lr _ h5
  have l6 := own_Lr _ h6
  have e5 : r47_27 = own_L y5_9_1 := hr47_27
  have e6 : r54_30 = own_L y6_20_3 := hr54_30
  clear hr47_27 hr54_30
  subst e5 e6
  have b := own_pl _ _ _ _ l5 l6 hy10_85_34
  have b0 := own_le0 b.1
  have en := own_EL _ h5
  have c5 := own_cl (x := own_L y5_9_1) (by omega)
  have c10 := own_cl b.1
  have q : ¬ (y10_85_34.toInt < (own_L y5_9_1).toInt) := fun z => hc91_36 (Int32.lt_iff_toInt_lt.mpr z)
  have s := c_isub y10_85_34 (own_L y5_9_1)
  rw [← hx117_47] at s
  have z := rng32 x117_47
  have t : x117_47.toInt = y10_85_34.toInt - (own_L y5_9_1).toInt := by omega
  have cx := own_cl (x := x117_47) (by omega)
  rw [hr126_56, hvl42_25, own_EE _ _ h6, own_atB _ _ _ x117_47 (by rw [hvl35_15, en]; omega)]
  rw [own_EI _ _ h6 (own_le0 (by omega)) (by rw [Int32.lt_iff_toInt_lt]; omega), hr117_49]
  rfl
def Q0 (Z : State) (p1 : Int32) (p2 : Int32) (p3 : Int32) (p4 : Int32) (p5 : Int32) (h0 : Heap) (n0 : Nat) (v : Option Value) (h : Heap) (L : List Loc) : Prop := v = some (.int (1 : Int32)) ∧ Fr n0 L
set_option maxRecDepth 65536 in
set_option maxHeartbeats 40000000 in
theorem rm0 (l : Launch) (Z : State) (a0 : Array Value) (hw : ∀ d ∈ tables_1, d.before a0 Z = true) (ws : List Jvm.Cond) (p1 : Int32) (p2 : Int32) (p3 : Int32) (p4 : Int32) (p5 : Int32) (h0 : Heap) (n0 : Nat) (Z0 : n0 ≤ h0.size) :
    MetFree l x (head1 (Jvm.Cond.code x code maxLocals ret :: ws) room_1) (fun a U => a = #[(.int p1), (.int p2), (.int p3), (.int p4), (.int p5)] ∧ Z.Warmed39 U.vm ∧ U.heap = h0) (fun _ _ _ _ _ => True) (fun _ U o U' => ∃ v L, o = .returned v ∧ Q0 Z p1 p2 p3 p4 p5 h0 n0 v U'.heap L ∧ FrameEnd U o U' L room_1.cells room_1.slots) := by
  refine MetFree.of_bodySF (plainFor_of_name pn_0) hisR ?_
  intro p e s m args below meth c s₁ Bd hml0 hP hK
  obtain ⟨rfl, hZ, hh⟩ := hP
  have hx := Bd.exec
  have hby := Bd.bytes
  have hml : c.maxLocals = 12 := hml0
  have hown : s.vm.findClass "com/example/outcomery/outcomery/PackedNumbersByteAtPinLaw" = some m.cls := findClass_of_methodNamed Bd.named
  have hnm := (name_of_methodNamed Bd.named Bd.method).1
  have X0 : Stand p l e room_1 s m #[(.int p1), (.int p2), (.int p3), (.int p4), (.int p5)] below meth c s₁ [] 0 0 := Stand.of_body Bd
  have e0 : s₁.heap = h0 := by rw [← hh, Bd.state]; rfl
  have N0 := Fr.nil n0
  refine (show Gl p e below (fun o U' => ∃ v L, o = .returned v ∧ Q0 Z p1 p2 p3 p4 p5 h0 n0 v U'.heap L ∧ FrameEnd s o U' L room_1.cells room_1.slots) (s₁.setTop (entryFrame m #[(.int p1), (.int p2), (.int p3), (.int p4), (.int p5)] maxLocals)) from ?_)
  obtain ⟨L0, hL0⟩ : ∃ z : Array Slot, z = #[.val (.int p1), .val (.int p2), .val (.int p3), .val (.int p4), .val (.int p5), .unset, .unset, .unset, .unset, .unset, .unset, .unset] := ⟨_, rfl⟩
  refine Gl.st (B := (s₁.setTop (mkF m 0 L0 []))) (fun t k => castTop (efAt hL0 (ef_0 m p1 p2 p3 p4 p5)) k) ?_
  refine Gl.st (B := (s₁.setTop (mkF m 1 L0 [(.int p1)]))) (fun t k => XS.iloadN X0.here hx rfl (hb hby at_0) (ldAt hL0 rfl) k) ?_
  refine Gl.st (B := (s₁.setTop (mkF m 3 L0 [(.int (2147483647 : Int32)), (.int p1)]))) (fun t k => X0.ldcInt hx hown (mvT hZ (tw hw 0 rfl)) (g := (mkF m 1 L0 [(.int p1)])) rfl (hb hby at_1) _ k) ?_
  refine Gl.st (B := (s₁.setTop (mkF m 4 L0 [(.int (p1 &&& (2147483647 : Int32)))]))) (fun t k => XS.iand X0.here hx rfl (hb hby at_3) rfl k) ?_
  refine Gl.st (B := (s₁.setTop (mkF m 5 L0 [(.int p3), (.int (p1 &&& (2147483647 : Int32)))]))) (fun t k => XS.iloadN X0.here hx rfl (hb hby at_4) (ldAt hL0 rfl) k) ?_
  refine Gl.st (B := (s₁.setTop (mkF m 7 L0 [(.int (31 : Int32)), (.int p3), (.int (p1 &&& (2147483647 : Int32)))]))) (fun t k => XS.bipush X0.here hx rfl (hb hby at_5) k) ?_
  refine Gl.st (B := (s₁.setTop (mkF m 8 L0 [(.int (p3 &&& (31 : Int32))), (.int (p1 &&& (2147483647 : Int32)))]))) (fun t k => XS.iand X0.here hx rfl (hb hby at_7) rfl k) ?_
  refine Gl.st (B := (s₁.setTop (mkF m 9 L0 [(.int (((p1 &&& (2147483647 : Int32)).toUInt32 >>> ((p3 &&& (31 : Int32)) &&& 31).toUInt32).toInt32))]))) (fun t k => XS.iushr X0.here hx rfl (hb hby at_8) rfl k) ?_
  obtain ⟨y5_9_1, hy5_9_1⟩ : ∃ z : Int32, z = (((p1 &&& (2147483647 : Int32)).toUInt32 >>> ((p3 &&& (31 : Int32)) &&& 31).toUInt32).toInt32) := ⟨_, rfl⟩
  refine Gl.cast (B := (s₁.setTop (mkF m 9 L0 [(.int y5_9_1)]))) (by rw [hy5_9_1]) ?_
  obtain ⟨L2, hL2⟩ : ∃ z : Array Slot, z = #[.val (.int p1), .val (.int p2), .val (.int p3), .val (.int p4), .val (.int p5), .val (.int y5_9_1), .unset, .unset, .unset, .unset, .unset, .unset] := ⟨_, rfl⟩
  refine Gl.st (B := (s₁.setTop (mkF m 11 L2 []))) (fun t k => XS.istore X0.here hx rfl (hb hby at_9) rfl (l' := L2) (stAt hL0 hL2 rfl rfl) k) ?_
  refine Gl.st (B := (s₁.setTop (mkF m 12 L2 [(.int p2)]))) (fun t k => XS.iloadN X0.here hx rfl (hb hby at_11) (ldAt hL2 rfl) k) ?_
  refine Gl.st (B := (s₁.setTop (mkF m 14 L2 [(.int (2147483647 : Int32)), (.int p2)]))) (fun t k => X0.ldcInt hx hown (mvT hZ (tw hw 0 rfl)) (g := (mkF m 12 L2 [(.int p2)])) rfl (hb hby at_12) _ k) ?_
  refine Gl.st (B := (s₁.setTop (mkF m 15 L2 [(.int (p2 &&& (2147483647 : Int32)))]))) (fun t k => XS.iand X0.here hx rfl (hb hby at_14) rfl k) ?_
  refine Gl.st (B := (s₁.setTop (mkF m 16 L2 [(.int p4), (.int (p2 &&& (2147483647 : Int32)))]))) (fun t k => XS.iloadN X0.here hx rfl (hb hby at_15) (ldAt hL2 rfl) k) ?_
  refine Gl.st (B := (s₁.setTop (mkF m 18 L2 [(.int (31 : Int32)), (.int p4), (.int (p2 &&& (2147483647 : Int32)))]))) (fun t k => XS.bipush X0.here hx rfl (hb hby at_16) k) ?_
  refine Gl.st (B := (s₁.setTop (mkF m 19 L2 [(.int (p4 &&& (31 : Int32))), (.int (p2 &&& (2147483647 : Int32)))]))) (fun t k => XS.iand X0.here hx rfl (hb hby at_18) rfl k) ?_
  refine Gl.st (B := (s₁.setTop (mkF m 20 L2 [(.int (((p2 &&& (2147483647 : Int32)).toUInt32 >>> ((p4 &&& (31 : Int32)) &&& 31).toUInt32).toInt32))]))) (fun t k => XS.iushr X0.here hx rfl (hb hby at_19) rfl k) ?_
  obtain ⟨y6_20_3, hy6_20_3⟩ : ∃ z : Int32, z = (((p2 &&& (2147483647 : Int32)).toUInt32 >>> ((p4 &&& (31 : Int32)) &&& 31).toUInt32).toInt32) := ⟨_, rfl⟩
  refine Gl.cast (B := (s₁.setTop (mkF m 20 L2 [(.int y6_20_3)]))) (by rw [hy6_20_3]) ?_
  obtain ⟨L4, hL4⟩ : ∃ z : Array Slot, z = #[.val (.int p1), .val (.int p2), .val (.int p3), .val (.int p4), .val (.int p5), .val (.int y5_9_1), .val (.int y6_20_3), .unset, .unset, .unset, .unset, .unset] := ⟨_, rfl⟩
  refine Gl.st (B := (s₁.setTop (mkF m 22 L4 []))) (fun t k => XS.istore X0.here hx rfl (hb hby at_20) rfl (l' := L4) (stAt hL2 hL4 rfl rfl) k) ?_
  obtain ⟨T5, h5, X5, e5, E5, A5, D5, -, st5⟩ := newO X0 hx hZ hown (tw hw 1 rfl) (tw hw 2 rfl) (tw hw 3 rfl) e0 (g := (mkF m 22 L4 [])) rfl (hb hby at_22) (by decide) (by decide)
  obtain ⟨b5, gq5⟩ : ∃ z, z = h0.size := ⟨_, rfl⟩
  rw [← gq5] at A5 D5 st5
  have g_b5 : n0 ≤ b5 := Nat.le_trans Z0 (Nat.le_of_eq gq5.symm)
  have lt_b5 := A5.lt
  have Zc6 : n0 ≤ h5.size := Nat.le_trans Z0 E5.1
  have F5_pieces : Fld Z h5 b5 "com/example/outcomery/outcomery/PackedNumbers" "pieces" "[[B" .null := D5 (Or.inl (tw hw 13 rfl)) (ty := (.array (.array .byte))) (by decide)
  have F5_length : Fld Z h5 b5 "com/example/outcomery/outcomery/PackedNumbers" "length" "I" (.int (0 : Int32)) := D5 (Or.inl (tw hw 24 rfl)) (ty := .int) (by decide)
  refine Gl.st (B := (T5.setTop (mkF m 25 L4 [(.ref b5)]))) st5 ?_
  refine Gl.st (B := (T5.setTop (mkF m 26 L4 [(.ref b5), (.ref b5)]))) (fun t k => XS.dup X5.here hx rfl (hb hby at_25) rfl rfl k) ?_
  obtain ⟨_, _, ⟨T7, L7q, k7, n7⟩, -, X7, ⟨Lc7, hQ7, l7, y7, z7⟩, st7⟩ := X5.specialBack hx (y := (⟨"com/example/outcomery/outcomery/PackedNumbers", "<init>", "()V"⟩ : MethodName)) rfl hown (mvT hZ (tw hw 4 rfl)) (mvT hZ (tw hw 5 rfl)) (mvT hZ (tw hw 6 rfl)) (by decide) (backOf (W := 1) (rm1 l Z a0 hw [] b5 .null ((.int (0 : Int32))) h5 n0 Zc6 F5_pieces F5_length A5 g_b5) hZ (tw hw 6 rfl) (tw hw 3 rfl) (by decide) (by decide)) (g := (mkF m 26 L4 [(.ref b5), (.ref b5)])) rfl (szAt hml hL4 rfl) (Steps.refl _) (a := b5) (argsL := []) (rest := [(.ref b5)]) (lenOf pd_0_0 rfl) rfl (by show 2 * 0 + _ ≤ _; exact Nat.le_of_eq rfl) (hb hby at_26) (fun _ _ => ⟨rfl, e5, (by decide : 1 + 1 ≤ _), (by decide : 2 + 1 ≤ _)⟩)
  dsimp only [Pt.U, Pt.locs, Pt.cells, Pt.slots] at X7 l7 y7 z7 st7 hQ7
  subst l7 y7 z7
  obtain ⟨b7_t0, k7_kx_t0, rfl, N7q, Kc7, fq7_0, fq7_1, fq7_2, fq7_3, fq7_4, fq7_5, fq7_6⟩ := hQ7
  have g_b7_t0 : n0 ≤ b7_t0 := Nat.le_trans Zc6 fq7_0
  have lt_b7_t0 := fq7_4.lt
  have Zc8 : n0 ≤ T7.heap.size := Nat.le_trans Zc6 Kc7.1
  have N7 := Fr.app N0 N7q
  refine Gl.st (B := (T7.setTop (mkF m 29 L4 [(.ref b5)]))) (fun t k => st7.trans k) ?_
  obtain ⟨L9, hL9⟩ : ∃ z : Array Slot, z = #[.val (.int p1), .val (.int p2), .val (.int p3), .val (.int p4), .val (.int p5), .val (.int y5_9_1), .val (.int y6_20_3), .val (.ref b5), .unset, .unset, .unset, .unset] := ⟨_, rfl⟩
  refine Gl.st (B := (T7.setTop (mkF m 31 L9 []))) (fun t k => XS.astore X7.here hx rfl (hb hby at_29) rfl rfl (l' := L9) (stAt hL4 hL9 rfl rfl) k) ?_
  refine Gl.st (B := (T7.setTop (mkF m 33 L9 [(.ref b5)]))) (fun t k => XS.aload X7.here hx rfl (hb hby at_31) (ldAt hL9 rfl) rfl k) ?_
  refine Gl.st (B := (T7.setTop (mkF m 35 L9 [(.int y5_9_1), (.ref b5)]))) (fun t k => XS.iload X7.here hx rfl (hb hby at_33) (ldAt hL9 rfl) k) ?_
  have hp35_11 : ¬ y5_9_1 < 0 := own_0_hp35_11 p1 p3 y5_9_1 hy5_9_1 
  have ne_b5_b7_t0_12 : b5 ≠ b7_t0 := Nat.ne_of_lt (Nat.lt_of_lt_of_le lt_b5 fq7_0)
  obtain ⟨cq10, kq10, q10a, q10b, q10c⟩ := isOf hZ rfl fq7_1
  obtain ⟨_, _, ⟨T10, L10q, k10, n10⟩, -, X10, ⟨Lc10, hQ10, l10, y10, z10⟩, st10⟩ := X7.virtualBack hx (y := (⟨"com/example/outcomery/outcomery/PackedNumbers", "add", "(I)V"⟩ : MethodName)) (z := (⟨"com/example/outcomery/outcomery/PackedNumbers", "add", "(I)V"⟩ : MethodName)) hown (mvT hZ (tw hw 14 rfl)) (mvT hZ (tw hw 15 rfl)) (notFace_of_selects (args := #[]) (mvT hZ (tw hw 17 rfl))) (mvT hZ (tw hw 17 rfl)) (mvT hZ (tw hw 16 rfl)) (by decide) (backOf (W := 0) (rm3f l Z a0 hw [] b5 y5_9_1 k7_kx_t0 b7_t0 T7.heap n0 Zc8 fq7_5 fq7_6 fq7_3 hp35_11 fq7_2 g_b7_t0 ne_b5_b7_t0_12 fq7_1 g_b5) hZ (tw hw 18 rfl) (tw hw 3 rfl) (by decide) (by decide)) q10a q10c (g := (mkF m 35 L9 [(.int y5_9_1), (.ref b5)])) rfl (szAt hml hL9 rfl) (Steps.refl _) (argsL := [(.int y5_9_1)]) (rest := []) (lenOf pd_0_1 rfl) rfl (by show 2 * 0 + _ ≤ _; exact Nat.le_of_eq rfl) (hb hby at_35) (fun _ _ => ⟨rfl, rfl, (by decide : 2 + 1 ≤ _), (by decide : 3 + 64 ≤ _)⟩)
  dsimp only [Pt.U, Pt.locs, Pt.cells, Pt.slots] at X10 l10 y10 z10 st10 hQ10
  subst l10 y10 z10
  obtain ⟨b10_t0, k10_kx_t0, rfl, N10q, Kc10, fq10_0, fq10_1, fq10_2, fq10_3, fq10_4, fq10_5, fq10_6, fq10_7⟩ := hQ10
  have g_b10_t0 : n0 ≤ b10_t0 := Nat.le_trans Zc8 fq10_0
  have lt_b10_t0 := fq10_6.lt
  have Zc13 : n0 ≤ T10.heap.size := Nat.le_trans Zc8 Kc10.1
  obtain ⟨f35_14, hf35_14⟩ : ∃ z : Int32, z = (own_F (0 : Int32) y5_9_1) := ⟨_, rfl⟩
  rw [← hf35_14] at fq10_2
  obtain ⟨vl35_15, hvl35_15⟩ : ∃ z : List Value, z = (own_E [] y5_9_1) := ⟨_, rfl⟩
  rw [← hvl35_15] at fq10_7
  have N10 := Fr.app N7 N10q
  refine Gl.st (B := (T10.setTop (mkF m 38 L9 []))) (fun t k => st10.trans k) ?_
  refine Gl.st (B := (T10.setTop (mkF m 40 L9 [(.ref b5)]))) (fun t k => XS.aload X10.here hx rfl (hb hby at_38) (ldAt hL9 rfl) rfl k) ?_
  refine Gl.st (B := (T10.setTop (mkF m 42 L9 [(.int y6_20_3), (.ref b5)]))) (fun t k => XS.iload X10.here hx rfl (hb hby at_40) (ldAt hL9 rfl) k) ?_
  have hp42_17 : ¬ y6_20_3 < 0 := own_0_hp42_17 p2 p4 y6_20_3 hy6_20_3 
  have hp42_18 : ¬ f35_14 < 0 := own_0_hp42_18 p1 p3 y5_9_1 f35_14 hy5_9_1 hf35_14 
  have hp42_19 : f35_14 < 58 := own_0_hp42_19 p1 p3 y5_9_1 f35_14 hy5_9_1 hf35_14 
  have hp42_20 : vl35_15.length = f35_14.toNatClampNeg := own_0_hp42_20 p1 p3 y5_9_1 vl35_15 f35_14 hy5_9_1 hvl35_15 hf35_14 
  have ne_b5_b10_t0_21 : b5 ≠ b10_t0 := Nat.ne_of_lt (Nat.lt_of_lt_of_le lt_b5 (Nat.le_trans Kc7.1 fq10_0))
  have ne_b7_t0_b10_t0_22 : b7_t0 ≠ b10_t0 := Nat.ne_of_lt (Nat.lt_of_lt_of_le lt_b7_t0 fq10_0)
  obtain ⟨cq16, kq16, q16a, q16b, q16c⟩ := isOf hZ rfl fq10_1
  obtain ⟨_, _, ⟨T16, L16q, k16, n16⟩, -, X16, ⟨Lc16, hQ16, l16, y16, z16⟩, st16⟩ := X10.virtualBack hx (y := (⟨"com/example/outcomery/outcomery/PackedNumbers", "add", "(I)V"⟩ : MethodName)) (z := (⟨"com/example/outcomery/outcomery/PackedNumbers", "add", "(I)V"⟩ : MethodName)) hown (mvT hZ (tw hw 14 rfl)) (mvT hZ (tw hw 15 rfl)) (notFace_of_selects (args := #[]) (mvT hZ (tw hw 17 rfl))) (mvT hZ (tw hw 17 rfl)) (mvT hZ (tw hw 16 rfl)) (by decide) (backOf (W := 0) (rm3n l Z a0 hw [] b5 y6_20_3 k7_kx_t0 b10_t0 k10_kx_t0 vl35_15 b7_t0 f35_14 T10.heap n0 Zc13 fq10_4 fq10_5 fq10_7 fq10_3 fq10_2 hp42_17 hp42_18 hp42_19 hp42_20 g_b10_t0 ne_b5_b10_t0_21 fq10_1 g_b5 ne_b5_b7_t0_12 (Ne.symm ne_b7_t0_b10_t0_22)) hZ (tw hw 18 rfl) (tw hw 3 rfl) (by decide) (by decide)) q16a q16c (g := (mkF m 42 L9 [(.int y6_20_3), (.ref b5)])) rfl (szAt hml hL9 rfl) (Steps.refl _) (argsL := [(.int y6_20_3)]) (rest := []) (lenOf pd_0_1 rfl) rfl (by show 2 * 0 + _ ≤ _; exact Nat.le_of_eq rfl) (hb hby at_42) (fun _ _ => ⟨rfl, rfl, (by decide : 3 + 0 ≤ _), (by decide : 67 + 0 ≤ _)⟩)
  dsimp only [Pt.U, Pt.locs, Pt.cells, Pt.slots] at X16 l16 y16 z16 st16 hQ16
  subst l16 y16 z16
  obtain ⟨rfl, N16q, Kc16, fq16_0, fq16_1, fq16_2, fq16_3⟩ := hQ16
  have Zc23 : n0 ≤ T16.heap.size := Nat.le_trans Zc13 Kc16.1
  obtain ⟨f42_24, hf42_24⟩ : ∃ z : Int32, z = (own_F f35_14 y6_20_3) := ⟨_, rfl⟩
  rw [← hf42_24] at fq16_1
  obtain ⟨vl42_25, hvl42_25⟩ : ∃ z : List Value, z = (own_E vl35_15 y6_20_3) := ⟨_, rfl⟩
  rw [← hvl42_25] at fq16_3
  have N16 := Fr.app N10 N16q
  refine Gl.st (B := (T16.setTop (mkF m 45 L9 []))) (fun t k => st16.trans k) ?_
  refine Gl.st (B := (T16.setTop (mkF m 47 L9 [(.int y5_9_1)]))) (fun t k => XS.iload X16.here hx rfl (hb hby at_45) (ldAt hL9 rfl) k) ?_
  obtain ⟨_, _, ⟨T26, L26q, k26, n26⟩, -, X26, ⟨Lc26, hQ26, l26, y26, z26⟩, st26⟩ := Jvm.LawKit.callS X16 hx (y := (⟨"com/example/outcomery/outcomery/PackedNumbersByteAtPinLaw", "len", "(I)I"⟩ : MethodName)) hown (mvT hZ (tw hw 28 rfl)) (mvT hZ (tw hw 29 rfl)) (mvT hZ (tw hw 30 rfl)) (mvT hZ (tw hw 31 rfl)) (by decide) (backOf (W := 0) (rm5 l Z a0 hw [] y5_9_1 T16.heap n0 Zc23) hZ (tw hw 31 rfl) (tw hw 30 rfl) (by decide) (by decide)) (g := (mkF m 47 L9 [(.int y5_9_1)])) rfl (szAt hml hL9 rfl) (argsL := [(.int y5_9_1)]) (rest := []) (lenOf pd_0_2 rfl) rfl (by show 2 * 0 + _ ≤ _; exact Nat.le_of_eq rfl) (hb hby at_47) (fun _ _ => ⟨rfl, rfl, (by decide : 3 + 0 ≤ _), (by decide : 67 + 0 ≤ _)⟩)
  dsimp only [Pt.U, Pt.locs, Pt.cells, Pt.slots] at X26 l26 y26 z26 st26 hQ26
  subst l26 y26 z26
  obtain ⟨rfl, N26q, eh26⟩ := hQ26
  have N26 := Fr.app N16 N26q
  refine Gl.st (B := (T26.setTop (mkF m 50 L9 [(.int (if y5_9_1 < (128 : Int32) then (1 : Int32) else (if y5_9_1 < (16384 : Int32) then (2 : Int32) else (if y5_9_1 < (2097152 : Int32) then (3 : Int32) else (if y5_9_1 < (268435456 : Int32) then (4 : Int32) else (5 : Int32))))))]))) (fun t k => st26 t k) ?_
  obtain ⟨r47_27, hr47_27⟩ : ∃ z : Int32, z = (if y5_9_1 < (128 : Int32) then (1 : Int32) else (if y5_9_1 < (16384 : Int32) then (2 : Int32) else (if y5_9_1 < (2097152 : Int32) then (3 : Int32) else (if y5_9_1 < (268435456 : Int32) then (4 : Int32) else (5 : Int32))))) := ⟨_, rfl⟩
  refine Gl.cast (B := (T26.setTop (mkF m 50 L9 [(.int r47_27)]))) (by rw [hr47_27]) ?_
  obtain ⟨L28, hL28⟩ : ∃ z : Array Slot, z = #[.val (.int p1), .val (.int p2), .val (.int p3), .val (.int p4), .val (.int p5), .val (.int y5_9_1), .val (.int y6_20_3), .val (.ref b5), .val (.int r47_27), .unset, .unset, .unset] := ⟨_, rfl⟩
  refine Gl.st (B := (T26.setTop (mkF m 52 L28 []))) (fun t k => XS.istore X26.here hx rfl (hb hby at_50) rfl (l' := L28) (stAt hL9 hL28 rfl rfl) k) ?_
  refine Gl.st (B := (T26.setTop (mkF m 54 L28 [(.int y6_20_3)]))) (fun t k => XS.iload X26.here hx rfl (hb hby at_52) (ldAt hL28 rfl) k) ?_
  obtain ⟨_, _, ⟨T29, L29q, k29, n29⟩, -, X29, ⟨Lc29, hQ29, l29, y29, z29⟩, st29⟩ := Jvm.LawKit.callS X26 hx (y := (⟨"com/example/outcomery/outcomery/PackedNumbersByteAtPinLaw", "len", "(I)I"⟩ : MethodName)) hown (mvT hZ (tw hw 28 rfl)) (mvT hZ (tw hw 29 rfl)) (mvT hZ (tw hw 30 rfl)) (mvT hZ (tw hw 31 rfl)) (by decide) (backOf (W := 0) (rm5 l Z a0 hw [] y6_20_3 T16.heap n0 Zc23) hZ (tw hw 31 rfl) (tw hw 30 rfl) (by decide) (by decide)) (g := (mkF m 54 L28 [(.int y6_20_3)])) rfl (szAt hml hL28 rfl) (argsL := [(.int y6_20_3)]) (rest := []) (lenOf pd_0_2 rfl) rfl (by show 2 * 0 + _ ≤ _; exact Nat.le_of_eq rfl) (hb hby at_54) (fun _ _ => ⟨rfl, eh26, (by decide : 3 + 0 ≤ _), (by decide : 67 + 0 ≤ _)⟩)
  dsimp only [Pt.U, Pt.locs, Pt.cells, Pt.slots] at X29 l29 y29 z29 st29 hQ29
  subst l29 y29 z29
  obtain ⟨rfl, N29q, eh29⟩ := hQ29
  have N29 := Fr.app N26 N29q
  refine Gl.st (B := (T29.setTop (mkF m 57 L28 [(.int (if y6_20_3 < (128 : Int32) then (1 : Int32) else (if y6_20_3 < (16384 : Int32) then (2 : Int32) else (if y6_20_3 < (2097152 : Int32) then (3 : Int32) else (if y6_20_3 < (268435456 : Int32) then (4 : Int32) else (5 : Int32))))))]))) (fun t k => st29 t k) ?_
  obtain ⟨r54_30, hr54_30⟩ : ∃ z : Int32, z = (if y6_20_3 < (128 : Int32) then (1 : Int32) else (if y6_20_3 < (16384 : Int32) then (2 : Int32) else (if y6_20_3 < (2097152 : Int32) then (3 : Int32) else (if y6_20_3 < (268435456 : Int32) then (4 : Int32) else (5 : Int32))))) := ⟨_, rfl⟩
  refine Gl.cast (B := (T29.setTop (mkF m 57 L28 [(.int r54_30)]))) (by rw [hr54_30]) ?_
  obtain ⟨L31, hL31⟩ : ∃ z : Array Slot, z = #[.val (.int p1), .val (.int p2), .val (.int p3), .val (.int p4), .val (.int p5), .val (.int y5_9_1), .val (.int y6_20_3), .val (.ref b5), .val (.int r47_27), .val (.int r54_30), .unset, .unset] := ⟨_, rfl⟩
  refine Gl.st (B := (T29.setTop (mkF m 59 L31 []))) (fun t k => XS.istore X29.here hx rfl (hb hby at_57) rfl (l' := L31) (stAt hL28 hL31 rfl rfl) k) ?_
  refine Gl.st (B := (T29.setTop (mkF m 61 L31 [(.ref b5)]))) (fun t k => XS.aload X29.here hx rfl (hb hby at_59) (ldAt hL31 rfl) rfl k) ?_
  obtain ⟨cq32, kq32, q32a, q32b, q32c⟩ := isOf hZ eh29 fq16_0
  obtain ⟨_, _, ⟨T32, L32q, k32, n32⟩, -, X32, ⟨Lc32, hQ32, l32, y32, z32⟩, st32⟩ := X29.virtualBack hx (y := (⟨"com/example/outcomery/outcomery/PackedNumbers", "length", "()I"⟩ : MethodName)) (z := (⟨"com/example/outcomery/outcomery/PackedNumbers", "length", "()I"⟩ : MethodName)) hown (mvT hZ (tw hw 32 rfl)) (mvT hZ (tw hw 33 rfl)) (notFace_of_selects (args := #[]) (mvT hZ (tw hw 35 rfl))) (mvT hZ (tw hw 35 rfl)) (mvT hZ (tw hw 34 rfl)) (by decide) (backOf (W := 0) (rm6 l Z a0 hw [] b5 f42_24 T16.heap n0 Zc23 fq16_1) hZ (tw hw 36 rfl) (tw hw 3 rfl) (by decide) (by decide)) q32a q32c (g := (mkF m 61 L31 [(.ref b5)])) rfl (szAt hml hL31 rfl) (Steps.refl _) (argsL := []) (rest := []) (lenOf pd_0_3 rfl) rfl (by show 2 * 0 + _ ≤ _; exact Nat.le_of_eq rfl) (hb hby at_61) (fun _ _ => ⟨rfl, eh29, (by decide : 3 + 0 ≤ _), (by decide : 67 + 0 ≤ _)⟩)
  dsimp only [Pt.U, Pt.locs, Pt.cells, Pt.slots] at X32 l32 y32 z32 st32 hQ32
  subst l32 y32 z32
  obtain ⟨rfl, N32q, eh32⟩ := hQ32
  have N32 := Fr.app N29 N32q
  refine Gl.st (B := (T32.setTop (mkF m 64 L31 [(.int f42_24)]))) (fun t k => st32.trans k) ?_
  refine Gl.st (B := (T32.setTop (mkF m 66 L31 [(.int r47_27), (.int f42_24)]))) (fun t k => XS.iload X32.here hx rfl (hb hby at_64) (ldAt hL31 rfl) k) ?_
  refine Gl.st (B := (T32.setTop (mkF m 68 L31 [(.int r54_30), (.int r47_27), (.int f42_24)]))) (fun t k => XS.iload X32.here hx rfl (hb hby at_66) (ldAt hL31 rfl) k) ?_
  refine Gl.st (B := (T32.setTop (mkF m 69 L31 [(.int (r47_27 + r54_30)), (.int f42_24)]))) (fun t k => XS.iadd X32.here hx rfl (hb hby at_68) rfl k) ?_
  have hc69_33 : f42_24 = (r47_27 + r54_30) := own_0_hc69_33 p1 p3 y5_9_1 f35_14 p2 p4 y6_20_3 f42_24 r47_27 r54_30 hy5_9_1 hf35_14 hy6_20_3 hf42_24 hr47_27 hr54_30 
  refine Gl.st (B := (T32.setTop (mkF m 74 L31 []))) (fun t k => XS.icmpYes X32.here hx rfl (pc0 := 69) (pc' := 74) rfl (hb hby at_69) rfl (teq hc69_33).1 (by decide) (by decide) k) ?_
  refine Gl.st (B := (T32.setTop (mkF m 76 L31 [(.int p5)]))) (fun t k => XS.iload X32.here hx rfl (hb hby at_74) (ldAt hL31 rfl) k) ?_
  refine Gl.st (B := (T32.setTop (mkF m 78 L31 [(.int (2147483647 : Int32)), (.int p5)]))) (fun t k => X32.ldcInt hx hown (mvT hZ (tw hw 0 rfl)) (g := (mkF m 76 L31 [(.int p5)])) rfl (hb hby at_76) _ k) ?_
  refine Gl.st (B := (T32.setTop (mkF m 79 L31 [(.int (p5 &&& (2147483647 : Int32)))]))) (fun t k => XS.iand X32.here hx rfl (hb hby at_78) rfl k) ?_
  refine Gl.st (B := (T32.setTop (mkF m 81 L31 [(.int r47_27), (.int (p5 &&& (2147483647 : Int32)))]))) (fun t k => XS.iload X32.here hx rfl (hb hby at_79) (ldAt hL31 rfl) k) ?_
  refine Gl.st (B := (T32.setTop (mkF m 83 L31 [(.int r54_30), (.int r47_27), (.int (p5 &&& (2147483647 : Int32)))]))) (fun t k => XS.iload X32.here hx rfl (hb hby at_81) (ldAt hL31 rfl) k) ?_
  refine Gl.st (B := (T32.setTop (mkF m 84 L31 [(.int (r47_27 + r54_30)), (.int (p5 &&& (2147483647 : Int32)))]))) (fun t k => XS.iadd X32.here hx rfl (hb hby at_83) rfl k) ?_
  have nz84 : (r47_27 + r54_30) ≠ (0 : Int32) := own_0_nz84 p1 p3 y5_9_1 r47_27 p2 p4 y6_20_3 r54_30 hy5_9_1 hr47_27 hy6_20_3 hr54_30 
  refine Gl.st (B := (T32.setTop (mkF m 85 L31 [(.int ((p5 &&& (2147483647 : Int32)) % (r47_27 + r54_30)))]))) (fun t k => iremM X32 hx rfl (hb hby at_84) rfl nz84 k) ?_
  obtain ⟨y10_85_34, hy10_85_34⟩ : ∃ z : Int32, z = ((p5 &&& (2147483647 : Int32)) % (r47_27 + r54_30)) := ⟨_, rfl⟩
  refine Gl.cast (B := (T32.setTop (mkF m 85 L31 [(.int y10_85_34)]))) (by rw [hy10_85_34]) ?_
  obtain ⟨L35, hL35⟩ : ∃ z : Array Slot, z = #[.val (.int p1), .val (.int p2), .val (.int p3), .val (.int p4), .val (.int p5), .val (.int y5_9_1), .val (.int y6_20_3), .val (.ref b5), .val (.int r47_27), .val (.int r54_30), .val (.int y10_85_34), .unset] := ⟨_, rfl⟩
  refine Gl.st (B := (T32.setTop (mkF m 87 L35 []))) (fun t k => XS.istore X32.here hx rfl (hb hby at_85) rfl (l' := L35) (stAt hL31 hL35 rfl rfl) k) ?_
  refine Gl.st (B := (T32.setTop (mkF m 89 L35 [(.int y10_85_34)]))) (fun t k => XS.iload X32.here hx rfl (hb hby at_87) (ldAt hL35 rfl) k) ?_
  refine Gl.st (B := (T32.setTop (mkF m 91 L35 [(.int r47_27), (.int y10_85_34)]))) (fun t k => XS.iload X32.here hx rfl (hb hby at_89) (ldAt hL35 rfl) k) ?_
  by_cases hc91_36 : y10_85_34 < r47_27
  · skip
    refine Gl.st (B := (T32.setTop (mkF m 94 L35 []))) (fun t k => XS.icmpNo X32.here hx rfl (hb hby at_91) rfl (tlt hc91_36).2.1 k) ?_
    refine Gl.st (B := (T32.setTop (mkF m 96 L35 [(.int y5_9_1)]))) (fun t k => XS.iload X32.here hx rfl (hb hby at_94) (ldAt hL35 rfl) k) ?_
    refine Gl.st (B := (T32.setTop (mkF m 98 L35 [(.int y10_85_34), (.int y5_9_1)]))) (fun t k => XS.iload X32.here hx rfl (hb hby at_96) (ldAt hL35 rfl) k) ?_
    refine Gl.st (B := (T32.setTop (mkF m 100 L35 [(.int r47_27), (.int y10_85_34), (.int y5_9_1)]))) (fun t k => XS.iload X32.here hx rfl (hb hby at_98) (ldAt hL35 rfl) k) ?_
    obtain ⟨_, _, ⟨T37, L37q, k37, n37⟩, -, X37, ⟨Lc37, hQ37, l37, y37, z37⟩, st37⟩ := Jvm.LawKit.callS X32 hx (y := (⟨"com/example/outcomery/outcomery/PackedNumbersByteAtPinLaw", "byteOf", "(III)I"⟩ : MethodName)) hown (mvT hZ (tw hw 37 rfl)) (mvT hZ (tw hw 38 rfl)) (mvT hZ (tw hw 30 rfl)) (mvT hZ (tw hw 39 rfl)) (by decide) (backOf (W := 0) (rm7 l Z a0 hw [] y5_9_1 y10_85_34 r47_27 T16.heap n0 Zc23) hZ (tw hw 39 rfl) (tw hw 30 rfl) (by decide) (by decide)) (g := (mkF m 100 L35 [(.int r47_27), (.int y10_85_34), (.int y5_9_1)])) rfl (szAt hml hL35 rfl) (argsL := [(.int y5_9_1), (.int y10_85_34), (.int r47_27)]) (rest := []) (lenOf pd_0_4 rfl) rfl (by show 2 * 0 + _ ≤ _; exact Nat.le_of_eq rfl) (hb hby at_100) (fun _ _ => ⟨rfl, eh32, (by decide : 3 + 0 ≤ _), (by decide : 67 + 0 ≤ _)⟩)
    dsimp only [Pt.U, Pt.locs, Pt.cells, Pt.slots] at X37 l37 y37 z37 st37 hQ37
    subst l37 y37 z37
    obtain ⟨rfl, N37q, eh37⟩ := hQ37
    have N37 := Fr.app N32 N37q
    refine Gl.st (B := (T37.setTop (mkF m 103 L35 [(.int (if y10_85_34 < (r47_27 - (1 : Int32)) then (((((y5_9_1.toUInt32 >>> (((7 : Int32) * y10_85_34) &&& 31).toUInt32).toInt32) &&& (127 : Int32))) ||| (128 : Int32)) else ((((y5_9_1.toUInt32 >>> (((7 : Int32) * y10_85_34) &&& 31).toUInt32).toInt32) &&& (127 : Int32)))))]))) (fun t k => st37 t k) ?_
    obtain ⟨r100_38, hr100_38⟩ : ∃ z : Int32, z = (if y10_85_34 < (r47_27 - (1 : Int32)) then (((((y5_9_1.toUInt32 >>> (((7 : Int32) * y10_85_34) &&& 31).toUInt32).toInt32) &&& (127 : Int32))) ||| (128 : Int32)) else ((((y5_9_1.toUInt32 >>> (((7 : Int32) * y10_85_34) &&& 31).toUInt32).toInt32) &&& (127 : Int32)))) := ⟨_, rfl⟩
    refine Gl.cast (B := (T37.setTop (mkF m 103 L35 [(.int r100_38)]))) (by rw [hr100_38]) ?_
    obtain ⟨L39, hL39⟩ : ∃ z : Array Slot, z = #[.val (.int p1), .val (.int p2), .val (.int p3), .val (.int p4), .val (.int p5), .val (.int y5_9_1), .val (.int y6_20_3), .val (.ref b5), .val (.int r47_27), .val (.int r54_30), .val (.int y10_85_34), .val (.int r100_38)] := ⟨_, rfl⟩
    refine Gl.st (B := (T37.setTop (mkF m 105 L39 []))) (fun t k => XS.istore X37.here hx rfl (hb hby at_103) rfl (l' := L39) (stAt hL35 hL39 rfl rfl) k) ?_
    refine Gl.st (B := (T37.setTop (mkF m 122 L39 []))) (fun t k => XS.goto X37.here hx rfl (pc0 := 105) (pc' := 122) rfl (hb hby at_105) (by decide) (by decide) k) ?_
    refine Gl.st (B := (T37.setTop (mkF m 124 L39 [(.ref b5)]))) (fun t k => XS.aload X37.here hx rfl (hb hby at_122) (ldAt hL39 rfl) rfl k) ?_
    refine Gl.st (B := (T37.setTop (mkF m 126 L39 [(.int y10_85_34), (.ref b5)]))) (fun t k => XS.iload X37.here hx rfl (hb hby at_124) (ldAt hL39 rfl) k) ?_
    have c41 := (fq10_4.keep Kc16 (ninS (Ne.symm ne_b5_b7_t0_12) (ninS ne_b7_t0_b10_t0_22 nin0)))
    have hp126_42 : ¬ y10_85_34 < 0 := own_0_hp126_42 p5 p1 p3 y5_9_1 r47_27 p2 p4 y6_20_3 r54_30 y10_85_34 hy5_9_1 hr47_27 hy6_20_3 hr54_30 hy10_85_34 
    have hp126_43 : y10_85_34 < 64 := own_0_hp126_43 p5 p1 p3 y5_9_1 r47_27 p2 p4 y6_20_3 r54_30 y10_85_34 hy5_9_1 hr47_27 hy6_20_3 hr54_30 hy10_85_34 
    have hp126_44 : vl42_25.getD y10_85_34.toNatClampNeg (.int (0 : Int32)) = .int (own_at vl42_25 y10_85_34) := own_0_hp126_44 p1 p3 y5_9_1 vl35_15 p2 p4 y6_20_3 vl42_25 p5 r47_27 r54_30 y10_85_34 hy5_9_1 hvl35_15 hy6_20_3 hvl42_25 hr47_27 hr54_30 hy10_85_34 
    obtain ⟨cq40, kq40, q40a, q40b, q40c⟩ := isOf hZ eh37 fq16_0
    obtain ⟨_, _, ⟨T40, L40q, k40, n40⟩, -, X40, ⟨Lc40, hQ40, l40, y40, z40⟩, st40⟩ := X37.virtualBack hx (y := (⟨"com/example/outcomery/outcomery/PackedNumbers", "byteAt", "(I)I"⟩ : MethodName)) (z := (⟨"com/example/outcomery/outcomery/PackedNumbers", "byteAt", "(I)I"⟩ : MethodName)) hown (mvT hZ (tw hw 40 rfl)) (mvT hZ (tw hw 41 rfl)) (notFace_of_selects (args := #[]) (mvT hZ (tw hw 43 rfl))) (mvT hZ (tw hw 43 rfl)) (mvT hZ (tw hw 42 rfl)) (by decide) (backOf (W := 0) (rm8 l Z a0 hw [] b5 y10_85_34 k7_kx_t0 b10_t0 k10_kx_t0 vl42_25 (own_at vl42_25 y10_85_34) b7_t0 T16.heap n0 Zc23 c41 fq10_5 fq16_3 hp126_42 hp126_43 hp126_44 fq16_2) hZ (tw hw 44 rfl) (tw hw 3 rfl) (by decide) (by decide)) q40a q40c (g := (mkF m 126 L39 [(.int y10_85_34), (.ref b5)])) rfl (szAt hml hL39 rfl) (Steps.refl _) (argsL := [(.int y10_85_34)]) (rest := []) (lenOf pd_0_2 rfl) rfl (by show 2 * 0 + _ ≤ _; exact Nat.le_of_eq rfl) (hb hby at_126) (fun _ _ => ⟨rfl, eh37, (by decide : 3 + 0 ≤ _), (by decide : 67 + 0 ≤ _)⟩)
    dsimp only [Pt.U, Pt.locs, Pt.cells, Pt.slots] at X40 l40 y40 z40 st40 hQ40
    subst l40 y40 z40
    obtain ⟨rfl, N40q, eh40⟩ := hQ40
    have N40 := Fr.app N37 N40q
    refine Gl.st (B := (T40.setTop (mkF m 129 L39 [(.int ((own_at vl42_25 y10_85_34) &&& (255 : Int32)))]))) (fun t k => st40.trans k) ?_
    obtain ⟨r126_45, hr126_45⟩ : ∃ z : Int32, z = ((own_at vl42_25 y10_85_34) &&& (255 : Int32)) := ⟨_, rfl⟩
    refine Gl.cast (B := (T40.setTop (mkF m 129 L39 [(.int r126_45)]))) (by rw [hr126_45]) ?_
    refine Gl.st (B := (T40.setTop (mkF m 131 L39 [(.int r100_38), (.int r126_45)]))) (fun t k => XS.iload X40.here hx rfl (hb hby at_129) (ldAt hL39 rfl) k) ?_
    have hc131_46 : r126_45 = r100_38 := own_0_hc131_46 p1 p3 y5_9_1 vl35_15 p2 p4 y6_20_3 vl42_25 p5 r47_27 r54_30 y10_85_34 r126_45 r100_38 hy5_9_1 hvl35_15 hy6_20_3 hvl42_25 hr47_27 hr54_30 hy10_85_34 hr126_45 hr100_38 hc91_36
    refine Gl.st (B := (T40.setTop (mkF m 134 L39 []))) (fun t k => XS.icmpNo X40.here hx rfl (hb hby at_131) rfl (teq hc131_46).2 k) ?_
    refine Gl.st (B := (T40.setTop (mkF m 135 L39 [(.int (1 : Int32))]))) (fun t k => XS.iconst X40.here hx rfl (hb hby at_134) k) ?_
    refine Gl.st (B := (T40.setTop (mkF m 139 L39 [(.int (1 : Int32))]))) (fun t k => XS.goto X40.here hx rfl (pc0 := 135) (pc' := 139) rfl (hb hby at_135) (by decide) (by decide) k) ?_
    obtain ⟨fs, hr, hrun, hended, hW, hsame⟩ := X40.leave (v := some (.int (nar .boolean (1 : Int32)))) (fun h => by rw [Bd.returns] at h; cases h)
    refine Gl.fin (retN X40 hx (t := .boolean) Bd.returns (by simp) (hb hby at_139) hr) hrun hended ⟨_, _, rfl, ?_, ⟨_, rfl⟩, hW, hsame.mono (by decide) (by decide)⟩
    show Q0 Z p1 p2 p3 p4 p5 h0 n0 _ T40.heap _
    rw [eh40]
    exact ⟨rfl, N40⟩
  · skip
    refine Gl.st (B := (T32.setTop (mkF m 108 L35 []))) (fun t k => XS.icmpYes X32.here hx rfl (pc0 := 91) (pc' := 108) rfl (hb hby at_91) rfl (flt hc91_36).2.1 (by decide) (by decide) k) ?_
    refine Gl.st (B := (T32.setTop (mkF m 110 L35 [(.int y6_20_3)]))) (fun t k => XS.iload X32.here hx rfl (hb hby at_108) (ldAt hL35 rfl) k) ?_
    refine Gl.st (B := (T32.setTop (mkF m 112 L35 [(.int y10_85_34), (.int y6_20_3)]))) (fun t k => XS.iload X32.here hx rfl (hb hby at_110) (ldAt hL35 rfl) k) ?_
    refine Gl.st (B := (T32.setTop (mkF m 114 L35 [(.int r47_27), (.int y10_85_34), (.int y6_20_3)]))) (fun t k => XS.iload X32.here hx rfl (hb hby at_112) (ldAt hL35 rfl) k) ?_
    refine Gl.st (B := (T32.setTop (mkF m 115 L35 [(.int (y10_85_34 - r47_27)), (.int y6_20_3)]))) (fun t k => XS.isub X32.here hx rfl (hb hby at_114) rfl k) ?_
    refine Gl.st (B := (T32.setTop (mkF m 117 L35 [(.int r54_30), (.int (y10_85_34 - r47_27)), (.int y6_20_3)]))) (fun t k => XS.iload X32.here hx rfl (hb hby at_115) (ldAt hL35 rfl) k) ?_
    obtain ⟨x117_47, hx117_47⟩ : ∃ z : Int32, z = (y10_85_34 - r47_27) := ⟨_, rfl⟩
    refine Gl.cast (B := (T32.setTop (mkF m 117 L35 [(.int r54_30), (.int x117_47), (.int y6_20_3)]))) (by rw [hx117_47]) ?_
    obtain ⟨_, _, ⟨T48, L48q, k48, n48⟩, -, X48, ⟨Lc48, hQ48, l48, y48, z48⟩, st48⟩ := Jvm.LawKit.callS X32 hx (y := (⟨"com/example/outcomery/outcomery/PackedNumbersByteAtPinLaw", "byteOf", "(III)I"⟩ : MethodName)) hown (mvT hZ (tw hw 37 rfl)) (mvT hZ (tw hw 38 rfl)) (mvT hZ (tw hw 30 rfl)) (mvT hZ (tw hw 39 rfl)) (by decide) (backOf (W := 0) (rm7 l Z a0 hw [] y6_20_3 x117_47 r54_30 T16.heap n0 Zc23) hZ (tw hw 39 rfl) (tw hw 30 rfl) (by decide) (by decide)) (g := (mkF m 117 L35 [(.int r54_30), (.int x117_47), (.int y6_20_3)])) rfl (szAt hml hL35 rfl) (argsL := [(.int y6_20_3), (.int x117_47), (.int r54_30)]) (rest := []) (lenOf pd_0_4 rfl) rfl (by show 2 * 0 + _ ≤ _; exact Nat.le_of_eq rfl) (hb hby at_117) (fun _ _ => ⟨rfl, eh32, (by decide : 3 + 0 ≤ _), (by decide : 67 + 0 ≤ _)⟩)
    dsimp only [Pt.U, Pt.locs, Pt.cells, Pt.slots] at X48 l48 y48 z48 st48 hQ48
    subst l48 y48 z48
    obtain ⟨rfl, N48q, eh48⟩ := hQ48
    have N48 := Fr.app N32 N48q
    refine Gl.st (B := (T48.setTop (mkF m 120 L35 [(.int (if x117_47 < (r54_30 - (1 : Int32)) then (((((y6_20_3.toUInt32 >>> (((7 : Int32) * x117_47) &&& 31).toUInt32).toInt32) &&& (127 : Int32))) ||| (128 : Int32)) else ((((y6_20_3.toUInt32 >>> (((7 : Int32) * x117_47) &&& 31).toUInt32).toInt32) &&& (127 : Int32)))))]))) (fun t k => st48 t k) ?_
    obtain ⟨r117_49, hr117_49⟩ : ∃ z : Int32, z = (if x117_47 < (r54_30 - (1 : Int32)) then (((((y6_20_3.toUInt32 >>> (((7 : Int32) * x117_47) &&& 31).toUInt32).toInt32) &&& (127 : Int32))) ||| (128 : Int32)) else ((((y6_20_3.toUInt32 >>> (((7 : Int32) * x117_47) &&& 31).toUInt32).toInt32) &&& (127 : Int32)))) := ⟨_, rfl⟩
    refine Gl.cast (B := (T48.setTop (mkF m 120 L35 [(.int r117_49)]))) (by rw [hr117_49]) ?_
    obtain ⟨L50, hL50⟩ : ∃ z : Array Slot, z = #[.val (.int p1), .val (.int p2), .val (.int p3), .val (.int p4), .val (.int p5), .val (.int y5_9_1), .val (.int y6_20_3), .val (.ref b5), .val (.int r47_27), .val (.int r54_30), .val (.int y10_85_34), .val (.int r117_49)] := ⟨_, rfl⟩
    refine Gl.st (B := (T48.setTop (mkF m 122 L50 []))) (fun t k => XS.istore X48.here hx rfl (hb hby at_120) rfl (l' := L50) (stAt hL35 hL50 rfl rfl) k) ?_
    refine Gl.st (B := (T48.setTop (mkF m 124 L50 [(.ref b5)]))) (fun t k => XS.aload X48.here hx rfl (hb hby at_122) (ldAt hL50 rfl) rfl k) ?_
    refine Gl.st (B := (T48.setTop (mkF m 126 L50 [(.int y10_85_34), (.ref b5)]))) (fun t k => XS.iload X48.here hx rfl (hb hby at_124) (ldAt hL50 rfl) k) ?_
    have c52 := (fq10_4.keep Kc16 (ninS (Ne.symm ne_b5_b7_t0_12) (ninS ne_b7_t0_b10_t0_22 nin0)))
    have hp126_53 : ¬ y10_85_34 < 0 := own_0_hp126_53 p5 p1 p3 y5_9_1 r47_27 p2 p4 y6_20_3 r54_30 y10_85_34 hy5_9_1 hr47_27 hy6_20_3 hr54_30 hy10_85_34 
    have hp126_54 : y10_85_34 < 64 := own_0_hp126_54 p5 p1 p3 y5_9_1 r47_27 p2 p4 y6_20_3 r54_30 y10_85_34 hy5_9_1 hr47_27 hy6_20_3 hr54_30 hy10_85_34 
    have hp126_55 : vl42_25.getD y10_85_34.toNatClampNeg (.int (0 : Int32)) = .int (own_at vl42_25 y10_85_34) := own_0_hp126_55 p1 p3 y5_9_1 vl35_15 p2 p4 y6_20_3 vl42_25 p5 r47_27 r54_30 y10_85_34 hy5_9_1 hvl35_15 hy6_20_3 hvl42_25 hr47_27 hr54_30 hy10_85_34 
    obtain ⟨cq51, kq51, q51a, q51b, q51c⟩ := isOf hZ eh48 fq16_0
    obtain ⟨_, _, ⟨T51, L51q, k51, n51⟩, -, X51, ⟨Lc51, hQ51, l51, y51, z51⟩, st51⟩ := X48.virtualBack hx (y := (⟨"com/example/outcomery/outcomery/PackedNumbers", "byteAt", "(I)I"⟩ : MethodName)) (z := (⟨"com/example/outcomery/outcomery/PackedNumbers", "byteAt", "(I)I"⟩ : MethodName)) hown (mvT hZ (tw hw 40 rfl)) (mvT hZ (tw hw 41 rfl)) (notFace_of_selects (args := #[]) (mvT hZ (tw hw 43 rfl))) (mvT hZ (tw hw 43 rfl)) (mvT hZ (tw hw 42 rfl)) (by decide) (backOf (W := 0) (rm8 l Z a0 hw [] b5 y10_85_34 k7_kx_t0 b10_t0 k10_kx_t0 vl42_25 (own_at vl42_25 y10_85_34) b7_t0 T16.heap n0 Zc23 c52 fq10_5 fq16_3 hp126_53 hp126_54 hp126_55 fq16_2) hZ (tw hw 44 rfl) (tw hw 3 rfl) (by decide) (by decide)) q51a q51c (g := (mkF m 126 L50 [(.int y10_85_34), (.ref b5)])) rfl (szAt hml hL50 rfl) (Steps.refl _) (argsL := [(.int y10_85_34)]) (rest := []) (lenOf pd_0_2 rfl) rfl (by show 2 * 0 + _ ≤ _; exact Nat.le_of_eq rfl) (hb hby at_126) (fun _ _ => ⟨rfl, eh48, (by decide : 3 + 0 ≤ _), (by decide : 67 + 0 ≤ _)⟩)
    dsimp only [Pt.U, Pt.locs, Pt.cells, Pt.slots] at X51 l51 y51 z51 st51 hQ51
    subst l51 y51 z51
    obtain ⟨rfl, N51q, eh51⟩ := hQ51
    have N51 := Fr.app N48 N51q
    refine Gl.st (B := (T51.setTop (mkF m 129 L50 [(.int ((own_at vl42_25 y10_85_34) &&& (255 : Int32)))]))) (fun t k => st51.trans k) ?_
    obtain ⟨r126_56, hr126_56⟩ : ∃ z : Int32, z = ((own_at vl42_25 y10_85_34) &&& (255 : Int32)) := ⟨_, rfl⟩
    refine Gl.cast (B := (T51.setTop (mkF m 129 L50 [(.int r126_56)]))) (by rw [hr126_56]) ?_
    refine Gl.st (B := (T51.setTop (mkF m 131 L50 [(.int r117_49), (.int r126_56)]))) (fun t k => XS.iload X51.here hx rfl (hb hby at_129) (ldAt hL50 rfl) k) ?_
    have hc131_57 : r126_56 = r117_49 := own_0_hc131_57 p1 p3 y5_9_1 vl35_15 p2 p4 y6_20_3 vl42_25 p5 r47_27 r54_30 y10_85_34 r126_56 x117_47 r117_49 hy5_9_1 hvl35_15 hy6_20_3 hvl42_25 hr47_27 hr54_30 hy10_85_34 hr126_56 hx117_47 hr117_49 hc91_36
    refine Gl.st (B := (T51.setTop (mkF m 134 L50 []))) (fun t k => XS.icmpNo X51.here hx rfl (hb hby at_131) rfl (teq hc131_57).2 k) ?_
    refine Gl.st (B := (T51.setTop (mkF m 135 L50 [(.int (1 : Int32))]))) (fun t k => XS.iconst X51.here hx rfl (hb hby at_134) k) ?_
    refine Gl.st (B := (T51.setTop (mkF m 139 L50 [(.int (1 : Int32))]))) (fun t k => XS.goto X51.here hx rfl (pc0 := 135) (pc' := 139) rfl (hb hby at_135) (by decide) (by decide) k) ?_
    obtain ⟨fs, hr, hrun, hended, hW, hsame⟩ := X51.leave (v := some (.int (nar .boolean (1 : Int32)))) (fun h => by rw [Bd.returns] at h; cases h)
    refine Gl.fin (retN X51 hx (t := .boolean) Bd.returns (by simp) (hb hby at_139) hr) hrun hended ⟨_, _, rfl, ?_, ⟨_, rfl⟩, hW, hsame.mono (by decide) (by decide)⟩
    show Q0 Z p1 p2 p3 p4 p5 h0 n0 _ T51.heap _
    rw [eh51]
    exact ⟨rfl, N51⟩
set_option maxRecDepth 65536 in
set_option maxHeartbeats 40000000 in
theorem comes_1 {Post : Tables → Env → Array Value → State → Outcome → State → Prop} (hpost : ∀ tb e args s v u, (limb_1_1.after args s (.returned v) u = true ∧ limb_1_2.after args s (.returned v) u = true ∧ True) → FrameEnd s (.returned v) u (Jvm.fieldLocs frame_1_writes args s ++ Jvm.arrayLocs frame_1_arrays args s ++ Jvm.staticLocs frame_1_statics s) 16 256 → Post tb e args s (.returned v) u) :
    ArmFor flags0 classFile x code maxLocals ret World_1 tables_1 room_1 Calls_1 rest_1 Pre_1 Post := by
  intro l hfl _ _ p e ha hc hk s m args below hf hA hF happ hP
  obtain ⟨hcalls, hrest, hpre⟩ := hP
  obtain ⟨-, -, -, hnamed, -, -, -, hat⟩ := (Spec.applies_iff hf).mp happ
  obtain ⟨hg, hn⟩ := and_e (Cond.before_iff.mp (show (Jvm.Cond.and given_1 narrow_1).before args s = true from hpre))
  obtain ⟨g1, g2⟩ := and_e hg
  obtain ⟨g3, g4⟩ := and_e g2
  obtain ⟨g5, g6⟩ := and_e g4
  obtain ⟨g7, g8⟩ := and_e g6
  obtain ⟨g9, g10⟩ := and_e g8
  obtain ⟨w0, w1, w2, w3, w4, rfl⟩ : ∃ w0 w1 w2 w3 w4 : Value, args = #[w0, w1, w2, w3, w4] := by
    have hs : args.size = 5 := by simpa [Cond.value, given_1] using g1
    obtain ⟨L⟩ := args
    match L, hs with
    | [w0, w1, w2, w3, w4], _ => exact ⟨w0, w1, w2, w3, w4, rfl⟩
  have hw := fun d (hd : d ∈ tables_1) => atoms_spec (ws := Jvm.Cond.code x code maxLocals ret :: tables_1) hat d (List.mem_cons_of_mem _ hd)
  have hfit : Fit s := fun {y c} hc i hi => by
    obtain ⟨ha, rfl⟩ := Array.getElem?_eq_some_iff.mp hc
    have q := List.all_eq_true.mp ((Array.all_eq_true_iff_forall_mem.mp hF) _ (Array.getElem_mem ha)) i (List.mem_range.mpr hi)
    simpa [Array.getElem?_eq_getElem hi] using q
  obtain ⟨i0, ei0⟩ := is_v g3
  obtain rfl : w0 = (.int i0) := Option.some.inj ei0
  obtain ⟨i1, ei1⟩ := is_v g5
  obtain rfl : w1 = (.int i1) := Option.some.inj ei1
  obtain ⟨i2, ei2⟩ := is_v g7
  obtain rfl : w2 = (.int i2) := Option.some.inj ei2
  obtain ⟨i3, ei3⟩ := is_v g9
  obtain rfl : w3 = (.int i3) := Option.some.inj ei3
  obtain ⟨i4, ei4⟩ := is_v g10
  obtain rfl : w4 = (.int i4) := Option.some.inj ei4
  obtain ⟨n, o, h1, h2, h3, _, L, rfl, ⟨rfl, N⟩, hq⟩ := rm0 l s _ hw tables_1 i0 i1 i2 i3 i4 s.heap s.heap.size (Nat.le_refl _) p e ha hc hk s m _ below hf ((Spec.applies_iff_loose hf).mp happ).1 ⟨rfl, State.Warmed39.refl s, rfl⟩ trivial
  refine ⟨n, _, h1, h2, h3, hpost _ _ _ _ _ _ ⟨Cond.after_iff.mpr rfl, Cond.after_iff.mpr (eq_i res_at (Term.int_eval (1)) rfl), trivial⟩ ⟨hq.1, hq.2.1, (hq.2.2.sift fun y hy => Or.inr (N y hy)).mono (by decide) (by decide)⟩⟩
theorem main_1_1 : Claimed_1_1 := comes_1 fun _ _ _ _ _ _ h hF => ⟨h.1, hF⟩
theorem main_1_2 : Claimed_1_2 := comes_1 fun _ _ _ _ _ _ h hF => ⟨h.2.1, hF⟩
end Jvm.Pilot.@@N@@
namespace Jvm.Pilot.@@N@@
open Jvm Jvm.ClassFile Sem Op Lib Jvm.Free Jvm.Stand Jvm.Pilot.@@N@@.Jvm.D
/-! MADE BY PROGRAM (witnessworld.py) out of the Statement's table words and the real class files: 9 classes; the members and pool entries that the words name. The judged class is class 1, her method 3. -/
namespace start1
open Jvm.ClassFile
def u (s : String) : CpInfo := .utf8 (stringToUtf16 s)
/-- a pool by its gaps: so many unusable entries, then the entry; so many at the end -/
def gap : Nat → List CpInfo → List CpInfo
  | 0, r => r
  | n + 1, r => .unusable :: gap n r
def poolList (es : List (Nat × CpInfo)) (last : Nat) : List CpInfo := es.foldr (fun e r => gap e.1 (e.2 :: r)) (gap last [])
def pool (es : List (Nat × CpInfo)) (last : Nat) : Array CpInfo := ⟨poolList es last⟩
def fileOf (pool : Array CpInfo) (this : Nat) (attrs : Array Attribute := #[]) (ms : Array MethodInfo := #[]) (fl : Nat := 33) (sup : Nat := 0) (ifs : Array Nat := #[]) (fds : Array FieldInfo := #[]) : ClassFile where
  minorVersion := 0
  majorVersion := 65
  constantPool := pool
  accessFlags := fl
  thisClass := this
  superClass := sup
  interfaces := ifs
  fields := fds
  methods := ms
  attributes := attrs
def plain (name : String) (sup : Option ClassId) : Class where
  name := name
  kind := .ordinary
  loader := none
  accessFlags := 33
  super := sup
  interfaces := #[]
  cf := none
  fields := #[]
  methods := #[]
  instanceTypes := #[]
  staticTypes := #[]
  resolved := #[]
  callSites := []
  init := .initialized
  statics := none
  mirror := none

def pool0 : Array CpInfo := pool [(5, u "<init>"), (0, u "()V"), (1, .class_ 10), (1, u "java/lang/Object")] 113

def k0c0 : Code := { maxStack := 0, maxLocals := 1, code := object_method_1_code, exceptionTable := #[], attributes := #[] }
def k0m0 : Method := { name := "<init>", desc := "()V", sig := { parameters := [], returnType := none }, accessFlags := 1, code := some k0c0 }
/-- java/lang/Object -/
def k0 : Class := { plain "java/lang/Object" none with
  accessFlags := 33
  interfaces := #[]
  cf := some (fileOf pool0 8 #[] #[{ accessFlags := 1, nameIndex := 5, descriptorIndex := 6, attributes := #[] }] 33 0 #[] #[])
  fields := #[]
  methods := #[k0m0]
  instanceTypes := #[]
  staticTypes := #[]
  resolved := Array.replicate 124 none
  statics := none }

def pool1 : Array CpInfo := pool [(2, .class_ 4), (0, .nameAndType 5 6), (0, u "java/lang/Object"), (0, u "<init>"), (0, u "()V"), (0, .integer 2097152), (0, .integer 268435456), (0, .integer 2147483647), (0, .class_ 11), (0, u "com/example/outcomery/outcomery/PackedNumbers"), (0, .methodref 10 3), (0, .methodref 10 14), (0, .nameAndType 15 16), (0, u "add"), (0, u "(I)V"), (0, .methodref 18 19), (0, .class_ 20), (0, .nameAndType 21 22), (0, u "com/example/outcomery/outcomery/PackedNumbersByteAtPinLaw"), (0, u "len"), (0, u "(I)I"), (0, .methodref 10 24), (0, .nameAndType 25 26), (0, u "length"), (0, u "()I"), (0, .methodref 18 28), (0, .nameAndType 29 30), (0, u "byteOf"), (0, u "(III)I"), (0, .methodref 10 32), (0, .nameAndType 33 22), (0, u "byteAt"), (3, u "law"), (0, u "(IIIII)Z")] 2

def k1m0 : Method := { name := "<init>", desc := "()V", sig := { parameters := [], returnType := none }, accessFlags := 1, code := none }
def k1c1 : Code := { maxStack := 2, maxLocals := 1, code := method_2_code, exceptionTable := #[], attributes := #[] }
def k1m1 : Method := { name := "len", desc := "(I)I", sig := { parameters := [.int], returnType := some .int }, accessFlags := 10, code := some k1c1 }
def k1c2 : Code := { maxStack := 3, maxLocals := 4, code := method_3_code, exceptionTable := #[], attributes := #[] }
def k1m2 : Method := { name := "byteOf", desc := "(III)I", sig := { parameters := [.int, .int, .int], returnType := some .int }, accessFlags := 10, code := some k1c2 }
def k1c3 : Code := { maxStack := 3, maxLocals := 12, code := code, exceptionTable := #[], attributes := #[] }
def k1m3 : Method := { name := "law", desc := "(IIIII)Z", sig := { parameters := [.int, .int, .int, .int, .int], returnType := some .boolean }, accessFlags := 9, code := some k1c3 }
/-- com/example/outcomery/outcomery/PackedNumbersByteAtPinLaw -/
def k1 : Class := { plain "com/example/outcomery/outcomery/PackedNumbersByteAtPinLaw" (some 0) with
  accessFlags := 49
  interfaces := #[]
  cf := some (fileOf pool1 18 #[] #[{ accessFlags := 1, nameIndex := 5, descriptorIndex := 6, attributes := #[] }, { accessFlags := 10, nameIndex := 21, descriptorIndex := 22, attributes := #[] }, { accessFlags := 10, nameIndex := 29, descriptorIndex := 30, attributes := #[] }, { accessFlags := 9, nameIndex := 37, descriptorIndex := 38, attributes := #[] }] 49 2 #[] #[])
  fields := #[]
  methods := #[k1m0, k1m1, k1m2, k1m3]
  instanceTypes := #[]
  staticTypes := #[]
  resolved := Array.replicate 41 none
  statics := none }

def pool2 : Array CpInfo := pool [(1, .class_ 2), (0, u "com/example/outcomery/outcomery/PackedNumbers"), (0, .methodref 4 5), (0, .class_ 6), (0, .nameAndType 7 8), (0, u "java/lang/Object"), (0, u "<init>"), (0, u "()V"), (0, .class_ 10), (0, u "[B"), (0, .fieldref 1 12), (0, .nameAndType 13 14), (0, u "pieces"), (0, u "[[B"), (0, .methodref 1 16), (0, .nameAndType 17 18), (0, u "put"), (0, u "(I)V"), (0, .fieldref 1 20), (0, .nameAndType 21 22), (0, u "length"), (0, u "I"), (0, .integer 65535), (0, .class_ 25), (0, u "com/example/outcomery/outcomery/PackedNumbers$Reader"), (10, .integer 65536), (3, u "PIECE_BITS"), (2, u "PIECE_SIZE"), (0, u "FIRST_SIZE"), (3, u "add"), (1, u "()I"), (0, u "byteAt"), (0, u "(I)I")] 7

def k2c0 : Code := { maxStack := 2, maxLocals := 1, code := prog_23_method_1_code, exceptionTable := #[], attributes := #[] }
def k2m0 : Method := { name := "<init>", desc := "()V", sig := { parameters := [], returnType := none }, accessFlags := 0, code := some k2c0 }
def k2c1 : Code := { maxStack := 3, maxLocals := 3, code := prog_23_method_2_code, exceptionTable := #[], attributes := #[] }
def k2m1 : Method := { name := "add", desc := "(I)V", sig := { parameters := [.int], returnType := none }, accessFlags := 0, code := some k2c1 }
def k2c2 : Code := { maxStack := 1, maxLocals := 1, code := prog_23_method_3_code, exceptionTable := #[], attributes := #[] }
def k2m2 : Method := { name := "length", desc := "()I", sig := { parameters := [], returnType := some .int }, accessFlags := 0, code := some k2c2 }
def k2c3 : Code := { maxStack := 3, maxLocals := 2, code := prog_23_method_4_code, exceptionTable := #[], attributes := #[] }
def k2m3 : Method := { name := "byteAt", desc := "(I)I", sig := { parameters := [.int], returnType := some .int }, accessFlags := 0, code := some k2c3 }
def k2c4 : Code := { maxStack := 4, maxLocals := 5, code := prog_23_method_6_code, exceptionTable := #[], attributes := #[] }
def k2m4 : Method := { name := "put", desc := "(I)V", sig := { parameters := [.int], returnType := none }, accessFlags := 2, code := some k2c4 }
/-- com/example/outcomery/outcomery/PackedNumbers -/
def k2 : Class := { plain "com/example/outcomery/outcomery/PackedNumbers" (some 0) with
  accessFlags := 48
  interfaces := #[]
  cf := some (fileOf pool2 1 #[.nestMembers #[24]] #[{ accessFlags := 0, nameIndex := 7, descriptorIndex := 8, attributes := #[] }, { accessFlags := 0, nameIndex := 48, descriptorIndex := 18, attributes := #[] }, { accessFlags := 0, nameIndex := 21, descriptorIndex := 50, attributes := #[] }, { accessFlags := 0, nameIndex := 51, descriptorIndex := 52, attributes := #[] }, { accessFlags := 2, nameIndex := 17, descriptorIndex := 18, attributes := #[] }] 48 4 #[] #[{ accessFlags := 26, nameIndex := 40, descriptorIndex := 22, attributes := #[] }, { accessFlags := 26, nameIndex := 43, descriptorIndex := 22, attributes := #[] }, { accessFlags := 26, nameIndex := 44, descriptorIndex := 22, attributes := #[] }, { accessFlags := 2, nameIndex := 13, descriptorIndex := 14, attributes := #[] }, { accessFlags := 2, nameIndex := 21, descriptorIndex := 22, attributes := #[] }])
  fields := #[{ name := "PIECE_BITS", type := .int, accessFlags := 26, slot := 0, constantValue := 0 }, { name := "PIECE_SIZE", type := .int, accessFlags := 26, slot := 1, constantValue := 0 }, { name := "FIRST_SIZE", type := .int, accessFlags := 26, slot := 2, constantValue := 0 }, { name := "pieces", type := (.array (.array .byte)), accessFlags := 2, slot := 0, constantValue := 0 }, { name := "length", type := .int, accessFlags := 2, slot := 1, constantValue := 0 }]
  methods := #[k2m0, k2m1, k2m2, k2m3, k2m4]
  instanceTypes := #[(.array (.array .byte)), .int]
  staticTypes := #[.int, .int, .int]
  resolved := Array.replicate 60 none
  statics := none }

def pool3 : Array CpInfo := pool [(1, u "java/lang/Cloneable"), (0, .class_ 1), (0, u "java/lang/Object"), (0, .class_ 3)] 3

/-- java/lang/Cloneable -/
def k3 : Class := { plain "java/lang/Cloneable" (some 0) with
  accessFlags := 1537
  interfaces := #[]
  cf := some (fileOf pool3 2 #[] #[] 1537 4 #[] #[])
  fields := #[]
  methods := #[]
  instanceTypes := #[]
  staticTypes := #[]
  resolved := Array.replicate 8 none
  statics := none }

def pool4 : Array CpInfo := pool [(1, u "java/io/Serializable"), (0, .class_ 1), (0, u "java/lang/Object"), (0, .class_ 3)] 3

/-- java/io/Serializable -/
def k4 : Class := { plain "java/io/Serializable" (some 0) with
  accessFlags := 1537
  interfaces := #[]
  cf := some (fileOf pool4 2 #[] #[] 1537 4 #[] #[])
  fields := #[]
  methods := #[]
  instanceTypes := #[]
  staticTypes := #[]
  resolved := Array.replicate 8 none
  statics := none }

/-- the primitive byte -/
def k5 : Class := { plain "byte" none with kind := .primitive 'B', accessFlags := 0x411 }
/-- [B -/
def k6 : Class := { plain "[B" (some 0) with kind := .array 5 .byte, interfaces := #[3, 4], accessFlags := 1041 }

/-- the primitive int -/
def k7 : Class := { plain "int" none with kind := .primitive 'I', accessFlags := 0x411 }
/-- [I -/
def k8 : Class := { plain "[I" (some 0) with kind := .array 7 .int, interfaces := #[3, 4], accessFlags := 1041 }

/-- [[B -/
def k9 : Class := { plain "[[B" (some 0) with kind := .array 6 (.array .byte), interfaces := #[3, 4], accessFlags := 1041 }
def heap : Heap := #[]
def classes : Array Class := #[k0, k1, k2, k3, k4, k5, k6, k7, k8, k9]
def interned : List (Array UInt16 × Addr) := []
def slotsUsed : Nat := 0
def theMethod : MethodId := ⟨1, 3⟩
def args0 : Array Value := #[.int 5, .int 5, .int 5, .int 5, .int 5]
def aboutOver (below : List Frame) : State where
  vm := { classes := classes, interned := interned.toArray }
  heap := heap
  slotsUsed := slotsUsed
  threads := #[{ frames := .invoking theMethod args0 :: below }]
def below0 : List Frame := [.native { method := ⟨0, 0⟩, args := #[] }]
def about1 : State := aboutOver below0
def p0 : Program := .bare "" "" ""
def e0 : Env := launch0.env 0 0 0
theorem w_frames : about1.frames = Frame.invoking theMethod args0 :: below0 := rfl
set_option maxRecDepth 65536 in
theorem w_args : argsFit about1.vm theMethod args0 = true := by decide +kernel
set_option maxRecDepth 65536 in
theorem w_heap : heapFits about1 = true := by decide +kernel
set_option maxRecDepth 65536 in
theorem w_runnable : about1.curStatus? = some .runnable := by decide +kernel
set_option maxRecDepth 65536 in
theorem w_alone : about1.alone = true := by decide +kernel
set_option maxRecDepth 65536 in
theorem w_named : about1.methodNamed? x = some theMethod := by decide +kernel
set_option maxRecDepth 65536 in
theorem w_hears : about1.hears theMethod below0 = true := by decide +kernel
set_option maxRecDepth 65536 in
theorem w_ripe : about1.ripe theMethod args0 below0 = true := by decide +kernel
theorem w_running : about1.status = .running := rfl
set_option maxRecDepth 65536 in
theorem w_room : about1.hasRoom e0.platform room_1 = true :=
  launch0.hasRoom_least _ room_1 (by decide +kernel) (by decide +kernel) (by decide +kernel) (by decide +kernel) (by decide +kernel) (by decide +kernel)
theorem allAtoms_all (ts : List Jvm.Cond) (a : Array Jvm.Value) (st : Jvm.State) : (allAtoms ts).before a st = ts.all (fun c => c.before a st) := by
  induction ts with
  | nil => rfl
  | cons c t ih =>
    show (Jvm.Cond.and c (allAtoms t)).before a st = _
    rw [Jvm.Cond.before_and, ih, List.all_cons]
def words1 : List Jvm.Cond := Jvm.Cond.code x code maxLocals ret :: tables_1
/-- a 'code' word, met by the world's own term for the bytes: nothing is compared byte by byte -/
theorem code_word {y : MethodName} {bytes : ByteArray} {mx : Nat} {rt : Option FieldType} {a : Array Value} {s : State} {m : MethodId} {meth : Method} {c : Code} (h1 : s.methodNamed? y = some m) (h2 : s.vm.method? m = some meth) (h3 : meth.code = some c) (h4 : c.code = bytes)
    (h5 : (c.maxLocals == mx && c.exceptionTable.isEmpty && decide (c.maxStack ≤ mostOperands) && decide (meth.sig.returnType = rt) && !meth.locks && decide (parseMethodDescriptor y.desc = some meth.sig)) = true) : (Jvm.Cond.code y bytes mx rt).before a s = true := by
  simp only [Bool.and_eq_true, beq_iff_eq, Bool.not_eq_true', decide_eq_true_eq] at h5
  obtain ⟨⟨⟨⟨⟨g1, g2⟩, g3⟩, g4⟩, g5⟩, g6⟩ := h5
  simp [Cond.before, Cond.holds, Cond.value, h1, h2, h3, h4, g1, g2, g3, g4, g5, g6]
def isCode : Jvm.Cond → Bool
  | .code _ _ _ _ => true
  | _ => false
theorem all_split {L : List Jvm.Cond} {P : Jvm.Cond → Bool} (h1 : L.all (fun c => isCode c || P c) = true) (h2 : ∀ c ∈ L.filter isCode, P c = true) : L.all P = true := by
  refine List.all_eq_true.mpr fun c hc => ?_
  have h := List.all_eq_true.mp h1 c hc
  rcases Bool.eq_false_or_eq_true (isCode c) with hi | hi
  · exact h2 c (List.mem_filter.mpr ⟨hc, hi⟩)
  · simpa [hi] using h
set_option maxRecDepth 65536 in
theorem w_c0 : (Jvm.Cond.code x code maxLocals ret).before args0 about1 = true := code_word (m := ⟨1, 3⟩) (meth := k1m3) (c := k1c3) (by decide +kernel) rfl rfl rfl (by decide +kernel)
set_option maxRecDepth 65536 in
theorem w_c1 : (Jvm.Cond.code ({ cls := "com/example/outcomery/outcomery/PackedNumbers", name := "<init>", desc := "()V" } : Jvm.MethodName) prog_23_method_1_code (1 : Nat) (Option.none : Option Jvm.ClassFile.FieldType)).before args0 about1 = true := code_word (m := ⟨2, 0⟩) (meth := k2m0) (c := k2c0) (by decide +kernel) rfl rfl rfl (by decide +kernel)
set_option maxRecDepth 65536 in
theorem w_c2 : (Jvm.Cond.code ({ cls := "java/lang/Object", name := "<init>", desc := "()V" } : Jvm.MethodName) object_method_1_code (1 : Nat) (Option.none : Option Jvm.ClassFile.FieldType)).before args0 about1 = true := code_word (m := ⟨0, 0⟩) (meth := k0m0) (c := k0c0) (by decide +kernel) rfl rfl rfl (by decide +kernel)
set_option maxRecDepth 65536 in
theorem w_c3 : (Jvm.Cond.code ({ cls := "com/example/outcomery/outcomery/PackedNumbers", name := "add", desc := "(I)V" } : Jvm.MethodName) prog_23_method_2_code (3 : Nat) (Option.none : Option Jvm.ClassFile.FieldType)).before args0 about1 = true := code_word (m := ⟨2, 1⟩) (meth := k2m1) (c := k2c1) (by decide +kernel) rfl rfl rfl (by decide +kernel)
set_option maxRecDepth 65536 in
theorem w_c4 : (Jvm.Cond.code ({ cls := "com/example/outcomery/outcomery/PackedNumbers", name := "put", desc := "(I)V" } : Jvm.MethodName) prog_23_method_6_code (5 : Nat) (Option.none : Option Jvm.ClassFile.FieldType)).before args0 about1 = true := code_word (m := ⟨2, 4⟩) (meth := k2m4) (c := k2c4) (by decide +kernel) rfl rfl rfl (by decide +kernel)
set_option maxRecDepth 65536 in
theorem w_c5 : (Jvm.Cond.code ({ cls := "com/example/outcomery/outcomery/PackedNumbersByteAtPinLaw", name := "len", desc := "(I)I" } : Jvm.MethodName) method_2_code (1 : Nat) (Option.some Jvm.ClassFile.FieldType.int)).before args0 about1 = true := code_word (m := ⟨1, 1⟩) (meth := k1m1) (c := k1c1) (by decide +kernel) rfl rfl rfl (by decide +kernel)
set_option maxRecDepth 65536 in
theorem w_c6 : (Jvm.Cond.code ({ cls := "com/example/outcomery/outcomery/PackedNumbers", name := "length", desc := "()I" } : Jvm.MethodName) prog_23_method_3_code (1 : Nat) (Option.some Jvm.ClassFile.FieldType.int)).before args0 about1 = true := code_word (m := ⟨2, 2⟩) (meth := k2m2) (c := k2c2) (by decide +kernel) rfl rfl rfl (by decide +kernel)
set_option maxRecDepth 65536 in
theorem w_c7 : (Jvm.Cond.code ({ cls := "com/example/outcomery/outcomery/PackedNumbersByteAtPinLaw", name := "byteOf", desc := "(III)I" } : Jvm.MethodName) method_3_code (4 : Nat) (Option.some Jvm.ClassFile.FieldType.int)).before args0 about1 = true := code_word (m := ⟨1, 2⟩) (meth := k1m2) (c := k1c2) (by decide +kernel) rfl rfl rfl (by decide +kernel)
set_option maxRecDepth 65536 in
theorem w_c8 : (Jvm.Cond.code ({ cls := "com/example/outcomery/outcomery/PackedNumbers", name := "byteAt", desc := "(I)I" } : Jvm.MethodName) prog_23_method_4_code (2 : Nat) (Option.some Jvm.ClassFile.FieldType.int)).before args0 about1 = true := code_word (m := ⟨2, 3⟩) (meth := k2m3) (c := k2c3) (by decide +kernel) rfl rfl rfl (by decide +kernel)
def codes1 : List Jvm.Cond := [Jvm.Cond.code x code maxLocals ret, Jvm.Cond.code ({ cls := "com/example/outcomery/outcomery/PackedNumbers", name := "<init>", desc := "()V" } : Jvm.MethodName) prog_23_method_1_code (1 : Nat) (Option.none : Option Jvm.ClassFile.FieldType), Jvm.Cond.code ({ cls := "java/lang/Object", name := "<init>", desc := "()V" } : Jvm.MethodName) object_method_1_code (1 : Nat) (Option.none : Option Jvm.ClassFile.FieldType), Jvm.Cond.code ({ cls := "com/example/outcomery/outcomery/PackedNumbers", name := "add", desc := "(I)V" } : Jvm.MethodName) prog_23_method_2_code (3 : Nat) (Option.none : Option Jvm.ClassFile.FieldType), Jvm.Cond.code ({ cls := "com/example/outcomery/outcomery/PackedNumbers", name := "put", desc := "(I)V" } : Jvm.MethodName) prog_23_method_6_code (5 : Nat) (Option.none : Option Jvm.ClassFile.FieldType), Jvm.Cond.code ({ cls := "com/example/outcomery/outcomery/PackedNumbersByteAtPinLaw", name := "len", desc := "(I)I" } : Jvm.MethodName) method_2_code (1 : Nat) (Option.some Jvm.ClassFile.FieldType.int), Jvm.Cond.code ({ cls := "com/example/outcomery/outcomery/PackedNumbers", name := "length", desc := "()I" } : Jvm.MethodName) prog_23_method_3_code (1 : Nat) (Option.some Jvm.ClassFile.FieldType.int), Jvm.Cond.code ({ cls := "com/example/outcomery/outcomery/PackedNumbersByteAtPinLaw", name := "byteOf", desc := "(III)I" } : Jvm.MethodName) method_3_code (4 : Nat) (Option.some Jvm.ClassFile.FieldType.int), Jvm.Cond.code ({ cls := "com/example/outcomery/outcomery/PackedNumbers", name := "byteAt", desc := "(I)I" } : Jvm.MethodName) prog_23_method_4_code (2 : Nat) (Option.some Jvm.ClassFile.FieldType.int)]
set_option maxRecDepth 65536 in
theorem codes_eq : words1.filter isCode = codes1 := rfl
theorem w_codes : ∀ c ∈ words1.filter isCode, c.before args0 about1 = true := by
  rw [codes_eq]
  intro c hc
  simp only [codes1, List.mem_cons, List.not_mem_nil, or_false] at hc
  rcases hc with rfl | rfl | rfl | rfl | rfl | rfl | rfl | rfl | rfl
  · exact w_c0
  · exact w_c1
  · exact w_c2
  · exact w_c3
  · exact w_c4
  · exact w_c5
  · exact w_c6
  · exact w_c7
  · exact w_c8
set_option maxRecDepth 65536 in
theorem w_t1 : (words1.take 24).all (fun c => isCode c || c.before args0 about1) = true := by decide +kernel
set_option maxRecDepth 65536 in
theorem w_t2 : ((words1.drop 24).take 24).all (fun c => isCode c || c.before args0 about1) = true := by decide +kernel
set_option maxRecDepth 65536 in
theorem w_t3 : ((words1.drop 24).drop 24).all (fun c => isCode c || c.before args0 about1) = true := by decide +kernel
theorem w_tables : (allAtoms (Jvm.Cond.code x code maxLocals ret :: tables_1)).before args0 about1 = true := by
  rw [allAtoms_all]
  show words1.all (fun c => c.before args0 about1) = true
  refine all_split ?_ w_codes
  rw [← List.take_append_drop 24 words1, List.all_append, w_t1, ← List.take_append_drop 24 (words1.drop 24), List.all_append, w_t2, w_t3]
  rfl
set_option maxRecDepth 65536 in
theorem w_case : (Jvm.Cond.and given_1 narrow_1).before args0 about1 = true := by decide +kernel
theorem w_applies : (headSpec (Jvm.Cond.code x code maxLocals ret :: tables_1) room_1).applies x e0.platform about1 = true :=
  (Spec.applies_iff w_frames).mpr ⟨w_running, w_runnable, w_alone, w_named, w_hears, w_ripe, w_room, w_tables⟩
theorem atStart : AtStart classFile x code maxLocals ret World_1 tables_1 room_1 Calls_1 rest_1 Pre_1 launch0 p0 e0 about1 theMethod args0 below0 :=
  ⟨lists_1, trivial, launch0.admits_env _ _ _, launch0.least_env, fairChoices_fair.cas, fairChoices_fair.clock, w_frames, w_args, w_heap, w_applies, trivial, trivial, w_case⟩
end start1
theorem witness_1 : WitnessClaimed_1 := ⟨start1.p0, start1.e0, start1.about1, start1.theMethod, start1.args0, start1.below0, start1.atStart⟩
end Jvm.Pilot.@@N@@
