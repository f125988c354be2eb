import JvmDerived
import JvmDerived.Pilot.@@N@@Statement
import JvmDerived.Pilot.@@N@@Code
set_option linter.unusedVariables false
set_option linter.unusedSimpArgs false
namespace Jvm.RoadKit
open Sem ClassFile Op Lib Jvm.Stand Jvm.Free Jvm.LawKit
section New
variable {p : Program} {l : Launch} {e : Env} {R : Room} {s : State} {m : MethodId} {args : Array Value} {below : List Frame} {meth : Method} {c : Code} {T : State} {locs : List Loc} {cells slots : Nat}
theorem retI (X : Stand p l e R s m args below meth c T locs cells slots) (hx : p.tables.exec = Jvm.exec) {pc : Nat} {Ls : Array Slot} {z : Int32} {rest : List Value} (hret : meth.sig.returnType = some .int) (hd : decode c.code pc = .ok (.ireturn, 1)) {fs : List Frame}
    (hl : ∀ (f : JFrame) (acts : List Action), f.method = m → f.locked = none → f.entered = [] → (doReturn e (T.setTop f) acts (some (.int z))).1 = T.setFrames fs) : Steps p.tables e below (T.setTop (mkF m pc Ls (.int z :: rest))) (T.setFrames fs) := by
  have hm' : T.vm.method? m = some meth := X.method'
  have hn : narrow .int (.int z) = .int z := rfl
  show Steps p.tables e below (T.setTop { method := m, pc := pc, locals := Ls, stack := _ :: rest, locked := none }) _
  jvm_step X.here [X.here.top, hx, hd, hm', hret, hn]
  first | (intro acts; rw [hl _ acts rfl rfl rfl]) | rw [hl _ _ rfl rfl rfl]
  exact Steps.refl _
end New
end Jvm.RoadKit
namespace Jvm.Pilot.@@N@@
open Jvm Jvm.ClassFile Sem Op Lib Jvm.Free Jvm.Stand Jvm.LawKit Jvm.RoadKit Bundle Jvm.Pilot.@@N@@.Jvm.D
def Gl (p : Program) (e : Env) (below : List Frame) (Q : Outcome → State → Prop) (A : State) : Prop := ∃ t o, Steps p.tables e below A t ∧ t.status = .running ∧ Ended t below o ∧ Q o t
theorem Gl.st {p : Program} {e : Env} {below : List Frame} {Q : Outcome → State → Prop} {A B : State} (k : ∀ t, Steps p.tables e below B t → Steps p.tables e below A t) (h : Gl p e below Q B) : Gl p e below Q A := by
  obtain ⟨t, o, h1, r⟩ := h
  exact ⟨t, o, k t h1, r⟩
theorem Gl.cast {p : Program} {e : Env} {below : List Frame} {Q : Outcome → State → Prop} {A B : State} (k : A = B) (h : Gl p e below Q B) : Gl p e below Q A := k ▸ h
theorem Gl.join {p : Program} {e : Env} {below : List Frame} {Q : Outcome → State → Prop} {A B : State} (k : Gl p e below Q A → Gl p e below Q B) (h : Gl p e below Q A) : Gl p e below Q B := k h
theorem Gl.fin {p : Program} {e : Env} {below : List Frame} {Q : Outcome → State → Prop} {A t : State} {o : Outcome} (h1 : Steps p.tables e below A t) (h2 : t.status = .running) (h3 : Ended t below o) (h4 : Q o t) : Gl p e below Q A := ⟨t, o, h1, h2, h3, h4⟩
theorem tw {a0 : Array Value} {Z : State} (hw : ∀ d ∈ tables_1, d.before a0 Z = true) (i : Nat) {d : Jvm.Cond} (h : tables_1[i]? = some d) : d.before a0 Z = true := hw _ (List.mem_of_getElem? h)
theorem ldAt {L M : Array Slot} (h : L = M) {k : Nat} {v : Slot} (q : M[k]? = some v) : L[k]? = some v := h ▸ q
theorem stAt {L M L' M' : Array Slot} {k : Nat} {v w : Value} (h : L = M) (h' : L' = M') (e : w = v) (q : storeLocals M k v = some M') : storeLocals L k w = some L' := by subst h h' e; exact q
theorem stAt' {L M L' M' : Array Slot} {k : Nat} {v w : Value} (h : L = M) (h' : L' = M') (e : w = v) (q : storeLocals M k v = some M') : storeLocals L k w = some L' := by subst h h' e; exact q
theorem szAt {L M : Array Slot} {k n : Nat} (h : k = n) (h' : L = M) (q : M.size = n) : L.size = k := by subst h h'; exact q
theorem efAt {m : MethodId} {L M : Array Slot} {f : JFrame} (h : L = M) (q : f = mkF m 0 M []) : f = mkF m 0 L [] := h ▸ q
theorem own_nb {c : Prop} [Decidable c] {a b : Int32} (ha : nar .boolean a = a) (hb : nar .boolean b = b) : nar .boolean (if c then a else b) = if c then a else b := by split <;> assumption
theorem own_arr_keep {Z : State} {h h' : Heap} {a : Addr} {c : Cell} {ty : FieldType} {ws : List Addr} (F : Arr Z h a c ty) (K : Keep h h' ws) (q : a ∉ ws) : Arr Z h' a c ty := ⟨K.2.1 a c F.1 q, F.2⟩
theorem own_eqL {args : Array Value} {s : State} {t : Term} {z : Int64} (h : (Jvm.Cond.eq t (.long z)).value args s none s [] = some true) : t.eval args s none [] s = some (.long z) := by
  obtain ⟨x, y, ha, hb, k1, k2⟩ := cmp_v (Or.inl h)
  obtain rfl : y = .long z := Option.some.inj (hb.symm.trans (long_at z))
  obtain ⟨w, rfl⟩ : ∃ w, x = .long w := k2
  rw [ha, gotT (eq_L ha hb) h]
theorem own_eqI {args : Array Value} {s : State} {t : Term} {z : Int32} (h : (Jvm.Cond.eq t (.int z)).value args s none s [] = some true) : t.eval args s none [] s = some (.int z) := by
  obtain ⟨x, y, ha, hb, k1, k2⟩ := cmp_v (Or.inl h)
  obtain rfl : y = .int z := Option.some.inj (hb.symm.trans (Term.int_eval z))
  obtain ⟨w, rfl⟩ : ∃ w, x = .int w := k2
  rw [ha, gotT (Cond.eq_ints ha hb) h]
theorem own_sta_keep {Z : State} {h h' : Heap} {C n d : String} {v : Value} {ws : List Addr} (F : Sta Z h C n d v) (K : Keep h h' ws) (q : ∀ x ∈ ws, ∀ cell : Cell, h[x]? = some cell → cell.vm.isStatics = false) : Sta Z h' C n d v := by
  obtain ⟨cf, i, k, f, a, cell, h1, h2, h3, h4, h5, h6, r⟩ := F
  exact ⟨cf, i, k, f, a, cell, h1, h2, h3, h4, K.2.1 a cell h5 (fun y => by have := q a y cell h5; rw [h6] at this; cases this), h6, r⟩
theorem own_exa_plain {Z : State} {h : Heap} {a : Addr} {C : String} (F : Exa Z h a C) : ∀ cell : Cell, h[a]? = some cell → cell.vm.isStatics = false := fun cell hc => by
  obtain ⟨c', k, h1, -, -, h4, -⟩ := F
  rw [h1] at hc; cases hc; exact h4
theorem own_arv_plain {Z : State} {h : Heap} {a : Addr} {k : ClassId} {ty : FieldType} {z : Int32} {vs : List Value} {dv : Value} (F : Arv Z h a k ty z vs dv) : ∀ cell : Cell, h[a]? = some cell → cell.vm.isStatics = false := fun cell hc => by
  obtain ⟨c', A, -⟩ := F
  have := A.1; rw [this] at hc; cases hc; exact A.plain
theorem own_off (p y : Int32) (h : y = (p &&& (2147483647 : Int32)) % (4 : Int32)) : y = 0 ∨ y = 1 ∨ y = 2 ∨ y = 3 := by
  have a1 : (p &&& (2147483647 : Int32)).toInt = p.toInt % 2147483648 := c_mask p (2147483647 : Int32) 31 (by decide) (by decide)
  have a2 := (c_irem (p &&& (2147483647 : Int32)) (4 : Int32) 4 (by decide)).1
  rw [← h] at a2
  clear h
  simp only [← Int32.toInt_inj, Int32.reduceToInt]
  omega
theorem own_k (p y : Int32) (h : y = (1 : Int32) + ((p &&& (2147483647 : Int32)) % (5 : Int32))) : y = 1 ∨ y = 2 ∨ y = 3 ∨ y = 4 ∨ y = 5 := by
  have a1 : (p &&& (2147483647 : Int32)).toInt = p.toInt % 2147483648 := c_mask p (2147483647 : Int32) 31 (by decide) (by decide)
  have a2 := (c_irem (p &&& (2147483647 : Int32)) (5 : Int32) 5 (by decide)).1
  have a3 := c_iadd (1 : Int32) ((p &&& (2147483647 : Int32)) % (5 : Int32))
  rw [← h] at a3
  have z := rng32 y
  clear h
  simp only [← Int32.toInt_inj, Int32.reduceToInt] at *
  omega
theorem own_len (p y : Int32) (o k d : Int32) (hd : d = ((11 : Int32) - o) - k) (h0 : 0 ≤ o.toInt ∧ o.toInt ≤ 3) (h1 : 1 ≤ k.toInt ∧ k.toInt ≤ 5) (h : y = k + ((p &&& (2147483647 : Int32)) % d)) : k.toInt ≤ y.toInt ∧ y.toInt ≤ 10 - o.toInt := by
  have a1 : (p &&& (2147483647 : Int32)).toInt = p.toInt % 2147483648 := c_mask p (2147483647 : Int32) 31 (by decide) (by decide)
  have b1 := c_isub (11 : Int32) o
  have b2 := c_isub ((11 : Int32) - o) k
  rw [← hd] at b2
  have a2 := (c_iremV (p &&& (2147483647 : Int32)) d).1
  have a3 := c_iadd k ((p &&& (2147483647 : Int32)) % d)
  rw [← h] at a3
  have z := rng32 y
  have z1 := rng32 ((11 : Int32) - o)
  have z2 := rng32 d
  clear h hd
  simp only [Int32.reduceToInt] at *
  omega
theorem own_hi (y x : Int32) (h0 : 0 ≤ y.toInt ∧ y.toInt < 128) (h : x = (y ||| (128 : Int32)).toInt8.toInt32) : ((nar .byte x) &&& (255 : Int32)).toInt = y.toInt + 128 := by
  have a := c_or' y (128 : Int32) 7 (by decide) 128 rfl (by decide) (by omega) (by omega)
  have b := c_i2b (y ||| (128 : Int32))
  rw [← h] at b
  have d := c_i2b x
  have e : ((nar .byte x) &&& (255 : Int32)).toInt = (nar .byte x).toInt % 256 := c_mask (nar .byte x) (255 : Int32) 8 (by decide) (by decide)
  have f : (nar .byte x).toInt = x.toInt8.toInt32.toInt := rfl
  have z := rng32 (y ||| (128 : Int32))
  clear h
  simp only [Int32.reduceToInt] at *
  omega
theorem own_lo (y x : Int32) (h0 : 0 ≤ y.toInt ∧ y.toInt < 128) (h : x = y.toInt8.toInt32) : ((nar .byte x) &&& (255 : Int32)).toInt = y.toInt := by
  have b := c_i2b y
  rw [← h] at b
  have d := c_i2b x
  have e : ((nar .byte x) &&& (255 : Int32)).toInt = (nar .byte x).toInt % 256 := c_mask (nar .byte x) (255 : Int32) 8 (by decide) (by decide)
  have f : (nar .byte x).toInt = x.toInt8.toInt32.toInt := rfl
  omega
theorem own_g0 (p y : Int32) (h : y = p &&& (127 : Int32)) : y.toInt = (p.toInt % 4294967296) % 128 := by
  have a : y.toInt = p.toInt % 128 := by rw [h]; exact c_mask p (127 : Int32) 7 (by decide) (by decide)
  omega
theorem own_g (p y s : Int32) (k : Nat) (hk : s.toBitVec.toNat % 32 = k) (h0 : 0 < k) (h : y = (((p.toUInt32 >>> (s &&& 31).toUInt32).toInt32) &&& (127 : Int32))) : y.toInt = ((p.toInt % 4294967296) / (2 ^ k : Nat)) % 128 := by
  have a := c_iushr p s k hk h0
  have b : y.toInt = ((p.toUInt32 >>> (s &&& 31).toUInt32).toInt32).toInt % 128 := by rw [h]; exact c_mask _ (127 : Int32) 7 (by decide) (by decide)
  rw [b, a]
theorem own_7 (z : Int32) : ((z &&& (127 : Int32)).toInt64).toInt = z.toInt % 128 := by
  rw [c_i2l]
  exact c_mask z (127 : Int32) 7 (by decide) (by decide)
theorem d3_0 : decode jdk_41_method_13_code 0 = .ok (.iload_n 2, 1) := by decide +kernel
theorem d3_1 : decode jdk_41_method_13_code 1 = .ok (.iload_n 0, 1) := by decide +kernel
theorem d3_2 : decode jdk_41_method_13_code 2 = .ok (.ior, 1) := by decide +kernel
theorem d3_3 : decode jdk_41_method_13_code 3 = .ok (.iload_n 1, 1) := by decide +kernel
theorem d3_4 : decode jdk_41_method_13_code 4 = .ok (.ior, 1) := by decide +kernel
theorem d3_5 : decode jdk_41_method_13_code 5 = .ok (.ifCond .lt 10, 3) := by decide +kernel
theorem d3_8 : decode jdk_41_method_13_code 8 = .ok (.iload_n 1, 1) := by decide +kernel
theorem d3_9 : decode jdk_41_method_13_code 9 = .ok (.iload_n 2, 1) := by decide +kernel
theorem d3_10 : decode jdk_41_method_13_code 10 = .ok (.iload_n 0, 1) := by decide +kernel
theorem d3_11 : decode jdk_41_method_13_code 11 = .ok (.isub, 1) := by decide +kernel
theorem d3_12 : decode jdk_41_method_13_code 12 = .ok (.if_icmp .le 11, 3) := by decide +kernel
theorem d3_23 : decode jdk_41_method_13_code 23 = .ok (.iload_n 0, 1) := by decide +kernel
theorem d3_24 : decode jdk_41_method_13_code 24 = .ok (.ireturn, 1) := by decide +kernel
theorem pn_3 : plainName "jdk/internal/util/Preconditions" = true := by first | (simp [plainName, overriddenIn]; done) | decide +kernel
theorem ef_3 (m : MethodId) (p1 : Int32) (p2 : Int32) (p3 : Int32) : entryFrame m #[(.int p1), (.int p2), (.int p3), .null] 4 = mkF m 0 #[.val (.int p1), .val (.int p2), .val (.int p3), .val .null] [] := by first | (simp [entryFrame, mkF, argsToLocals, Value.category]; done) | rfl
def Q3 (Z : State) (p1 : Int32) (p2 : Int32) (p3 : Int32) (h0 : Heap) (n0 : Nat) (v : Option Value) (h : Heap) (L : List Loc) : Prop := v = some (.int p1) ∧ Fr n0 L ∧ h = h0
set_option maxRecDepth 65536 in
set_option maxHeartbeats 40000000 in
theorem rm3 (l : Launch) (Z : State) (a0 : Array Value) (hw : ∀ d ∈ tables_1, d.before a0 Z = true) (ws : List Jvm.Cond) (p1 : Int32) (p2 : Int32) (p3 : Int32) (h0 : Heap) (n0 : Nat) (Z0 : n0 ≤ h0.size) (hq5 : ¬ (((p3 ||| p1) ||| p2) < (0 : Int32))) (hq12 : ¬ ((p3 - p1) < p2)) :
    MetFree l (⟨"jdk/internal/util/Preconditions", "checkFromIndexSize", "(IIILjava/util/function/BiFunction;)I"⟩ : MethodName) (head1 (Jvm.Cond.code (⟨"jdk/internal/util/Preconditions", "checkFromIndexSize", "(IIILjava/util/function/BiFunction;)I"⟩ : MethodName) jdk_41_method_13_code 4 (some .int) :: ws) ({ frames := 0, cells := 0, slots := 0, locals := 0 } : Room)) (fun a U => a = #[(.int p1), (.int p2), (.int p3), .null] ∧ Z.Warmed39 U.vm ∧ U.heap = h0) (fun _ _ _ _ _ => True) (fun _ U o U' => ∃ v L, o = .returned v ∧ Q3 Z p1 p2 p3 h0 n0 v U'.heap L ∧ FrameEnd U o U' L ({ frames := 0, cells := 0, slots := 0, locals := 0 } : Room).cells ({ frames := 0, cells := 0, slots := 0, locals := 0 } : Room).slots) := by
  refine MetFree.of_bodySF (plainFor_of_name pn_3) hisR ?_
  intro p e s m args below meth c s₁ Bd hml0 hP hK
  obtain ⟨rfl, hZ, hh⟩ := hP
  have hx := Bd.exec
  have hby := Bd.bytes
  have hml : c.maxLocals = 4 := hml0
  have hown : s.vm.findClass "jdk/internal/util/Preconditions" = some m.cls := findClass_of_methodNamed Bd.named
  have hnm := (name_of_methodNamed Bd.named Bd.method).1
  have X0 : Stand p l e ({ frames := 0, cells := 0, slots := 0, locals := 0 } : Room) s m #[(.int p1), (.int p2), (.int p3), .null] below meth c s₁ [] 0 0 := Stand.of_body Bd
  have e0 : s₁.heap = h0 := by rw [← hh, Bd.state]; rfl
  have N0 := Fr.nil n0
  have K0 : Keep h0 h0 [] := Keep.refl h0 _
  refine (show Gl p e below (fun o U' => ∃ v L, o = .returned v ∧ Q3 Z p1 p2 p3 h0 n0 v U'.heap L ∧ FrameEnd s o U' L ({ frames := 0, cells := 0, slots := 0, locals := 0 } : Room).cells ({ frames := 0, cells := 0, slots := 0, locals := 0 } : Room).slots) (s₁.setTop (entryFrame m #[(.int p1), (.int p2), (.int p3), .null] 4)) from ?_)
  obtain ⟨L0, hL0⟩ : ∃ z : Array Slot, z = #[.val (.int p1), .val (.int p2), .val (.int p3), .val .null] := ⟨_, rfl⟩
  refine Gl.st (B := (s₁.setTop (mkF m 0 L0 []))) (fun t k => castTop (efAt hL0 (ef_3 m p1 p2 p3)) k) ?_
  refine Gl.st (B := (s₁.setTop (mkF m 8 L0 []))) (fun t k => XS.iloadN X0.here hx rfl (hb hby d3_0) (ldAt hL0 rfl) (XS.iloadN X0.here hx rfl (hb hby d3_1) (ldAt hL0 rfl) (XS.ior X0.here hx rfl (hb hby d3_2) rfl (XS.iloadN X0.here hx rfl (hb hby d3_3) (ldAt hL0 rfl) (XS.ior X0.here hx rfl (hb hby d3_4) rfl (XS.ifNo X0.here hx rfl (hb hby d3_5) rfl ((if0 _ _).trans (flt hq5).1) k)))))) ?_
  refine Gl.st (B := (s₁.setTop (mkF m 24 L0 [(.int p1)]))) (fun t k => XS.iloadN X0.here hx rfl (hb hby d3_8) (ldAt hL0 rfl) (XS.iloadN X0.here hx rfl (hb hby d3_9) (ldAt hL0 rfl) (XS.iloadN X0.here hx rfl (hb hby d3_10) (ldAt hL0 rfl) (XS.isub X0.here hx rfl (hb hby d3_11) rfl (XS.icmpYes X0.here hx rfl (pc0 := 12) (pc' := 23) rfl (hb hby d3_12) rfl (flt hq12).2.2.2 (by decide) (by decide) (XS.iloadN X0.here hx rfl (hb hby d3_23) (ldAt hL0 rfl) k)))))) ?_
  obtain ⟨fs, hr, hrun, hended, hW, hsame⟩ := X0.leave (v := some (.int p1)) (fun h => by rw [Bd.returns] at h; cases h)
  refine Gl.fin (retI X0 hx Bd.returns (hb hby d3_24) hr) hrun hended ⟨_, _, rfl, ?_, ⟨_, rfl⟩, hW, hsame.mono (by decide) (by decide)⟩
  show Q3 Z p1 p2 p3 h0 n0 _ s₁.heap _
  rw [e0]
  exact ⟨rfl, N0, rfl⟩
theorem d2_0 : decode jdk_31_method_19_code 0 = .ok (.iload_n 0, 1) := by decide +kernel
theorem d2_1 : decode jdk_31_method_19_code 1 = .ok (.iload_n 1, 1) := by decide +kernel
theorem d2_2 : decode jdk_31_method_19_code 2 = .ok (.iload_n 2, 1) := by decide +kernel
theorem d2_3 : decode jdk_31_method_19_code 3 = .ok (.aconst_null, 1) := by decide +kernel
theorem d2_4 : decode jdk_31_method_19_code 4 = .ok (.invokestatic 115, 3) := by decide +kernel
theorem d2_7 : decode jdk_31_method_19_code 7 = .ok (.ireturn, 1) := by decide +kernel
theorem pn_2 : plainName "java/util/Objects" = true := by first | (simp [plainName, overriddenIn]; done) | decide +kernel
theorem pd_2_0 : parseMethodDescriptor "(IIILjava/util/function/BiFunction;)I" = some ⟨[.int, .int, .int, (.object "java/util/function/BiFunction")], some .int⟩ := by decide +kernel
theorem ef_2 (m : MethodId) (p1 : Int32) (p2 : Int32) (p3 : Int32) : entryFrame m #[(.int p1), (.int p2), (.int p3)] 3 = mkF m 0 #[.val (.int p1), .val (.int p2), .val (.int p3)] [] := by first | (simp [entryFrame, mkF, argsToLocals, Value.category]; done) | rfl
def Q2 (Z : State) (p1 : Int32) (p2 : Int32) (p3 : Int32) (h0 : Heap) (n0 : Nat) (v : Option Value) (h : Heap) (L : List Loc) : Prop := v = some (.int p1) ∧ Fr n0 L ∧ h = h0
set_option maxRecDepth 65536 in
set_option maxHeartbeats 40000000 in
theorem rm2 (l : Launch) (Z : State) (a0 : Array Value) (hw : ∀ d ∈ tables_1, d.before a0 Z = true) (ws : List Jvm.Cond) (p1 : Int32) (p2 : Int32) (p3 : Int32) (h0 : Heap) (n0 : Nat) (Z0 : n0 ≤ h0.size) (hr4_hq5 : ¬ (((p3 ||| p1) ||| p2) < (0 : Int32))) (hr4_hq12 : ¬ ((p3 - p1) < p2)) :
    MetFree l (⟨"java/util/Objects", "checkFromIndexSize", "(III)I"⟩ : MethodName) (head1 (Jvm.Cond.code (⟨"java/util/Objects", "checkFromIndexSize", "(III)I"⟩ : MethodName) jdk_31_method_19_code 3 (some .int) :: ws) ({ frames := 1, cells := 0, slots := 0, locals := 15 } : Room)) (fun a U => a = #[(.int p1), (.int p2), (.int p3)] ∧ Z.Warmed39 U.vm ∧ U.heap = h0) (fun _ _ _ _ _ => True) (fun _ U o U' => ∃ v L, o = .returned v ∧ Q2 Z p1 p2 p3 h0 n0 v U'.heap L ∧ FrameEnd U o U' L ({ frames := 1, cells := 0, slots := 0, locals := 15 } : Room).cells ({ frames := 1, cells := 0, slots := 0, locals := 15 } : Room).slots) := by
  refine MetFree.of_bodySF (plainFor_of_name pn_2) hisR ?_
  intro p e s m args below meth c s₁ Bd hml0 hP hK
  obtain ⟨rfl, hZ, hh⟩ := hP
  have hx := Bd.exec
  have hby := Bd.bytes
  have hml : c.maxLocals = 3 := hml0
  have hown : s.vm.findClass "java/util/Objects" = some m.cls := findClass_of_methodNamed Bd.named
  have hnm := (name_of_methodNamed Bd.named Bd.method).1
  have X0 : Stand p l e ({ frames := 1, cells := 0, slots := 0, locals := 15 } : Room) s m #[(.int p1), (.int p2), (.int p3)] below meth c s₁ [] 0 0 := Stand.of_body Bd
  have e0 : s₁.heap = h0 := by rw [← hh, Bd.state]; rfl
  have N0 := Fr.nil n0
  have K0 : Keep h0 h0 [] := Keep.refl h0 _
  refine (show Gl p e below (fun o U' => ∃ v L, o = .returned v ∧ Q2 Z p1 p2 p3 h0 n0 v U'.heap L ∧ FrameEnd s o U' L ({ frames := 1, cells := 0, slots := 0, locals := 15 } : Room).cells ({ frames := 1, cells := 0, slots := 0, locals := 15 } : Room).slots) (s₁.setTop (entryFrame m #[(.int p1), (.int p2), (.int p3)] 3)) from ?_)
  obtain ⟨L0, hL0⟩ : ∃ z : Array Slot, z = #[.val (.int p1), .val (.int p2), .val (.int p3)] := ⟨_, rfl⟩
  refine Gl.st (B := (s₁.setTop (mkF m 0 L0 []))) (fun t k => castTop (efAt hL0 (ef_2 m p1 p2 p3)) k) ?_
  refine Gl.st (B := (s₁.setTop (mkF m 4 L0 [.null, (.int p3), (.int p2), (.int p1)]))) (fun t k => XS.iloadN X0.here hx rfl (hb hby d2_0) (ldAt hL0 rfl) (XS.iloadN X0.here hx rfl (hb hby d2_1) (ldAt hL0 rfl) (XS.iloadN X0.here hx rfl (hb hby d2_2) (ldAt hL0 rfl) (XS.aconstNull X0.here hx rfl (hb hby d2_3) k)))) ?_
  obtain ⟨_, _, ⟨T1, L1q, k1, n1⟩, -, X1, ⟨Lc1, hQ1, l1, y1, z1⟩, st1⟩ := Jvm.LawKit.callS X0 hx (y := (⟨"jdk/internal/util/Preconditions", "checkFromIndexSize", "(IIILjava/util/function/BiFunction;)I"⟩ : MethodName)) hown (mvT hZ (tw hw 11 rfl)) (mvT hZ (tw hw 12 rfl)) (mvT hZ (tw hw 13 rfl)) (mvT hZ (tw hw 14 rfl)) (by decide) (backOf (W := 0) (rm3 l Z a0 hw [] p1 p2 p3 h0 n0 Z0 hr4_hq5 hr4_hq12) hZ (tw hw 14 rfl) (tw hw 13 rfl) (by decide) (by decide)) (g := (mkF m 4 L0 [.null, (.int p3), (.int p2), (.int p1)])) rfl (szAt hml hL0 rfl) (argsL := [(.int p1), (.int p2), (.int p3), .null]) (rest := []) (lenOf pd_2_0 rfl) rfl (by show 2 * 0 + _ ≤ _; exact Nat.le_of_eq rfl) (hb hby d2_4) (fun _ _ => ⟨rfl, e0, (by decide : 0 + 0 ≤ _), (by decide : 0 + 0 ≤ _)⟩)
  dsimp only [Pt.U, Pt.locs, Pt.cells, Pt.slots] at X1 l1 y1 z1 st1 hQ1
  subst l1 y1 z1
  obtain ⟨rfl, N1q, eh1⟩ := hQ1
  have N1 := Fr.app N0 N1q
  refine Gl.st (B := (T1.setTop (mkF m 7 L0 [(.int p1)]))) (fun t k => st1 t k) ?_
  obtain ⟨fs, hr, hrun, hended, hW, hsame⟩ := X1.leave (v := some (.int p1)) (fun h => by rw [Bd.returns] at h; cases h)
  refine Gl.fin (retI X1 hx Bd.returns (hb hby d2_7) hr) hrun hended ⟨_, _, rfl, ?_, ⟨_, rfl⟩, hW, hsame.mono (by decide) (by decide)⟩
  show Q2 Z p1 p2 p3 h0 n0 _ T1.heap _
  rw [eh1]
  exact ⟨rfl, N1, rfl⟩
theorem d1_0 : decode prog_8_method_4_code 0 = .ok (.iload_n 1, 1) := by decide +kernel
theorem d1_1 : decode prog_8_method_4_code 1 = .ok (.iload_n 2, 1) := by decide +kernel
theorem d1_2 : decode prog_8_method_4_code 2 = .ok (.aload_n 0, 1) := by decide +kernel
theorem d1_3 : decode prog_8_method_4_code 3 = .ok (.arraylength, 1) := by decide +kernel
theorem d1_4 : decode prog_8_method_4_code 4 = .ok (.invokestatic 7, 3) := by decide +kernel
theorem d1_7 : decode prog_8_method_4_code 7 = .ok (.pop, 1) := by decide +kernel
theorem d1_8 : decode prog_8_method_4_code 8 = .ok (.lconst 0, 1) := by decide +kernel
theorem d1_9 : decode prog_8_method_4_code 9 = .ok (.lstore_n 3, 1) := by decide +kernel
theorem d1_10 : decode prog_8_method_4_code 10 = .ok (.iconst 0, 1) := by decide +kernel
theorem d1_11 : decode prog_8_method_4_code 11 = .ok (.istore 5, 2) := by decide +kernel
theorem d1_13 : decode prog_8_method_4_code 13 = .ok (.iload 5, 2) := by decide +kernel
theorem d1_15 : decode prog_8_method_4_code 15 = .ok (.iconst 5, 1) := by decide +kernel
theorem d1_16 : decode prog_8_method_4_code 16 = .ok (.if_icmp .ge 73, 3) := by decide +kernel
theorem d1_19 : decode prog_8_method_4_code 19 = .ok (.iload 5, 2) := by decide +kernel
theorem d1_21 : decode prog_8_method_4_code 21 = .ok (.iload_n 2, 1) := by decide +kernel
theorem d1_22 : decode prog_8_method_4_code 22 = .ok (.if_icmp .ne 13, 3) := by decide +kernel
theorem d1_35 : decode prog_8_method_4_code 35 = .ok (.aload_n 0, 1) := by decide +kernel
theorem d1_36 : decode prog_8_method_4_code 36 = .ok (.iload_n 1, 1) := by decide +kernel
theorem d1_37 : decode prog_8_method_4_code 37 = .ok (.iload 5, 2) := by decide +kernel
theorem d1_39 : decode prog_8_method_4_code 39 = .ok (.iadd, 1) := by decide +kernel
theorem d1_40 : decode prog_8_method_4_code 40 = .ok (.baload, 1) := by decide +kernel
theorem d1_41 : decode prog_8_method_4_code 41 = .ok (.sipush 255, 3) := by decide +kernel
theorem d1_44 : decode prog_8_method_4_code 44 = .ok (.iand, 1) := by decide +kernel
theorem d1_45 : decode prog_8_method_4_code 45 = .ok (.istore 6, 2) := by decide +kernel
theorem d1_47 : decode prog_8_method_4_code 47 = .ok (.lload_n 3, 1) := by decide +kernel
theorem d1_48 : decode prog_8_method_4_code 48 = .ok (.iload 6, 2) := by decide +kernel
theorem d1_50 : decode prog_8_method_4_code 50 = .ok (.bipush 127, 2) := by decide +kernel
theorem d1_52 : decode prog_8_method_4_code 52 = .ok (.iand, 1) := by decide +kernel
theorem d1_53 : decode prog_8_method_4_code 53 = .ok (.i2l, 1) := by decide +kernel
theorem d1_54 : decode prog_8_method_4_code 54 = .ok (.bipush 7, 2) := by decide +kernel
theorem d1_56 : decode prog_8_method_4_code 56 = .ok (.iload 5, 2) := by decide +kernel
theorem d1_58 : decode prog_8_method_4_code 58 = .ok (.imul, 1) := by decide +kernel
theorem d1_59 : decode prog_8_method_4_code 59 = .ok (.lshl, 1) := by decide +kernel
theorem d1_60 : decode prog_8_method_4_code 60 = .ok (.lor, 1) := by decide +kernel
theorem d1_61 : decode prog_8_method_4_code 61 = .ok (.lstore_n 3, 1) := by decide +kernel
theorem d1_62 : decode prog_8_method_4_code 62 = .ok (.iload 6, 2) := by decide +kernel
theorem d1_64 : decode prog_8_method_4_code 64 = .ok (.sipush 128, 3) := by decide +kernel
theorem d1_67 : decode prog_8_method_4_code 67 = .ok (.if_icmp .ge 16, 3) := by decide +kernel
theorem d1_70 : decode prog_8_method_4_code 70 = .ok (.lload_n 3, 1) := by decide +kernel
theorem d1_71 : decode prog_8_method_4_code 71 = .ok (.ldc2_w 80, 3) := by decide +kernel
theorem d1_74 : decode prog_8_method_4_code 74 = .ok (.lcmp, 1) := by decide +kernel
theorem d1_75 : decode prog_8_method_4_code 75 = .ok (.ifCond .le 6, 3) := by decide +kernel
theorem d1_81 : decode prog_8_method_4_code 81 = .ok (.lload_n 3, 1) := by decide +kernel
theorem d1_82 : decode prog_8_method_4_code 82 = .ok (.lreturn, 1) := by decide +kernel
theorem pn_1 : plainName "com/example/requeue/requeue/connection/SnappyBlock" = true := by first | (simp [plainName, overriddenIn]; done) | decide +kernel
theorem pd_1k1_0 : parseMethodDescriptor "(III)I" = some ⟨[.int, .int, .int], some .int⟩ := by decide +kernel
theorem ef_1k1 (m : MethodId) (a1 : Addr) (p2 : Int32) (p3 : Int32) : entryFrame m #[(.ref a1), (.int p2), (.int p3)] 7 = mkF m 0 #[.val (.ref a1), .val (.int p2), .val (.int p3), .unset, .unset, .unset, .unset] [] := by first | (simp [entryFrame, mkF, argsToLocals, Value.category]; done) | rfl
def Q1k1 (Z : State) (a1 : Addr) (p2 : Int32) (p3 : Int32) (cl_a1 : Cell) (el1 : Int32) (h0 : Heap) (n0 : Nat) (v : Option Value) (h : Heap) (L : List Loc) : Prop := v = some (.long (((0 : Int64) ||| (((((el1 &&& (255 : Int32))) &&& (127 : Int32)).toInt64) <<< ((0 : Int32) &&& 0x3f).toInt64)))) ∧ Fr n0 L ∧ h = h0
set_option maxRecDepth 65536 in
set_option maxHeartbeats 40000000 in
theorem rm1k1 (l : Launch) (Z : State) (a0 : Array Value) (hw : ∀ d ∈ tables_1, d.before a0 Z = true) (ws : List Jvm.Cond) (a1 : Addr) (p2 : Int32) (p3 : Int32) (cl_a1 : Cell) (el1 : Int32) (h0 : Heap) (n0 : Nat) (Z0 : n0 ≤ h0.size) (Ar_a1 : Arr Z h0 a1 cl_a1 .byte) (S_a1 : cl_a1.slots.size = ((10 : Int32)).toNatClampNeg) (P_a1 : ¬ (10 : Int32) < 0) (hr4_hr4_hq5 : ¬ ((((10 : Int32) ||| p2) ||| p3) < (0 : Int32))) (hr4_hr4_hq12 : ¬ (((10 : Int32) - p2) < p3)) (hq22 : ¬ ((0 : Int32) = p3)) (hin40_1 : ¬ ((p2 + (0 : Int32)) < 0 ∨ cl_a1.slots.size ≤ ((p2 + (0 : Int32))).toNatClampNeg)) (hat40_1 : cl_a1.slots[((p2 + (0 : Int32))).toNatClampNeg]? = some (.int el1)) (hq67 : ((el1 &&& (255 : Int32))) < (128 : Int32)) (hq75 : ¬ ((4294967295 : Int64) < (((0 : Int64) ||| (((((el1 &&& (255 : Int32))) &&& (127 : Int32)).toInt64) <<< ((0 : Int32) &&& 0x3f).toInt64))))) :
    MetFree l (⟨"com/example/requeue/requeue/connection/SnappyBlock", "uncompressedLength", "([BII)J"⟩ : MethodName) (head1 (Jvm.Cond.code (⟨"com/example/requeue/requeue/connection/SnappyBlock", "uncompressedLength", "([BII)J"⟩ : MethodName) prog_8_method_4_code 7 (some .long) :: ws) ({ frames := 2, cells := 0, slots := 0, locals := 29 } : Room)) (fun a U => a = #[(.ref a1), (.int p2), (.int p3)] ∧ Z.Warmed39 U.vm ∧ U.heap = h0) (fun _ _ _ _ _ => True) (fun _ U o U' => ∃ v L, o = .returned v ∧ Q1k1 Z a1 p2 p3 cl_a1 el1 h0 n0 v U'.heap L ∧ FrameEnd U o U' L ({ frames := 2, cells := 0, slots := 0, locals := 29 } : Room).cells ({ frames := 2, cells := 0, slots := 0, locals := 29 } : Room).slots) := by
  refine MetFree.of_bodySF (plainFor_of_name pn_1) hisR ?_
  intro p e s m args below meth c s₁ Bd hml0 hP hK
  obtain ⟨rfl, hZ, hh⟩ := hP
  have hx := Bd.exec
  have hby := Bd.bytes
  have hml : c.maxLocals = 7 := hml0
  have hown : s.vm.findClass "com/example/requeue/requeue/connection/SnappyBlock" = some m.cls := findClass_of_methodNamed Bd.named
  have hnm := (name_of_methodNamed Bd.named Bd.method).1
  have X0 : Stand p l e ({ frames := 2, cells := 0, slots := 0, locals := 29 } : Room) s m #[(.ref a1), (.int p2), (.int p3)] below meth c s₁ [] 0 0 := Stand.of_body Bd
  have e0 : s₁.heap = h0 := by rw [← hh, Bd.state]; rfl
  have N0 := Fr.nil n0
  have K0 : Keep h0 h0 [] := Keep.refl h0 _
  refine (show Gl p e below (fun o U' => ∃ v L, o = .returned v ∧ Q1k1 Z a1 p2 p3 cl_a1 el1 h0 n0 v U'.heap L ∧ FrameEnd s o U' L ({ frames := 2, cells := 0, slots := 0, locals := 29 } : Room).cells ({ frames := 2, cells := 0, slots := 0, locals := 29 } : Room).slots) (s₁.setTop (entryFrame m #[(.ref a1), (.int p2), (.int p3)] 7)) from ?_)
  obtain ⟨L0, hL0⟩ : ∃ z : Array Slot, z = #[.val (.ref a1), .val (.int p2), .val (.int p3), .unset, .unset, .unset, .unset] := ⟨_, rfl⟩
  refine Gl.st (B := (s₁.setTop (mkF m 0 L0 []))) (fun t k => castTop (efAt hL0 (ef_1k1 m a1 p2 p3)) k) ?_
  refine Gl.st (B := (s₁.setTop (mkF m 4 L0 [(.int cl_a1.slots.size.toInt32), (.int p3), (.int p2)]))) (fun t k => XS.iloadN X0.here hx rfl (hb hby d1_0) (ldAt hL0 rfl) (XS.iloadN X0.here hx rfl (hb hby d1_1) (ldAt hL0 rfl) (XS.aloadN X0.here hx rfl (hb hby d1_2) (ldAt hL0 rfl) rfl (X0.arraylength hx (by rw [e0]; exact Ar_a1.1) (State.isArrayOf_alike hZ.alike Ar_a1.2.1) (g := (mkF m 3 L0 [(.ref a1), (.int p3), (.int p2)])) rfl rfl (hb hby d1_3) _ k)))) ?_
  refine Gl.cast (B := (s₁.setTop (mkF m 4 L0 [(.int (10 : Int32)), (.int p3), (.int p2)]))) (by rw [len_of S_a1 P_a1]) ?_
  obtain ⟨_, _, ⟨T1, L1q, k1, n1⟩, -, X1, ⟨Lc1, hQ1, l1, y1, z1⟩, st1⟩ := Jvm.LawKit.callS X0 hx (y := (⟨"java/util/Objects", "checkFromIndexSize", "(III)I"⟩ : MethodName)) hown (mvT hZ (tw hw 7 rfl)) (mvT hZ (tw hw 8 rfl)) (mvT hZ (tw hw 9 rfl)) (mvT hZ (tw hw 10 rfl)) (by decide) (backOf (W := 0) (rm2 l Z a0 hw [] p2 p3 (10 : Int32) h0 n0 Z0 hr4_hr4_hq5 hr4_hr4_hq12) hZ (tw hw 10 rfl) (tw hw 9 rfl) (by decide) (by decide)) (g := (mkF m 4 L0 [(.int (10 : Int32)), (.int p3), (.int p2)])) rfl (szAt hml hL0 rfl) (argsL := [(.int p2), (.int p3), (.int (10 : Int32))]) (rest := []) (lenOf pd_1k1_0 rfl) rfl (by show 2 * 0 + _ ≤ _; exact Nat.le_of_eq rfl) (hb hby d1_4) (fun _ _ => ⟨rfl, e0, (by decide : 0 + 0 ≤ _), (by decide : 0 + 0 ≤ _)⟩)
  dsimp only [Pt.U, Pt.locs, Pt.cells, Pt.slots] at X1 l1 y1 z1 st1 hQ1
  subst l1 y1 z1
  obtain ⟨rfl, N1q, eh1⟩ := hQ1
  have N1 := Fr.app N0 N1q
  refine Gl.st (B := (T1.setTop (mkF m 7 L0 [(.int p2)]))) (fun t k => st1 t k) ?_
  obtain ⟨L2, hL2⟩ : ∃ z : Array Slot, z = #[.val (.ref a1), .val (.int p2), .val (.int p3), .val (.long (0 : Int64)), .second, .unset, .unset] := ⟨_, rfl⟩
  obtain ⟨L3, hL3⟩ : ∃ z : Array Slot, z = #[.val (.ref a1), .val (.int p2), .val (.int p3), .val (.long (0 : Int64)), .second, .val (.int (0 : Int32)), .unset] := ⟨_, rfl⟩
  refine Gl.st (B := (T1.setTop (mkF m 15 L3 [(.int (0 : Int32))]))) (fun t k => XS.pop X1.here hx rfl (hb hby d1_7) rfl rfl (XS.lconst X1.here hx rfl (hb hby d1_8) (XS.lstoreN X1.here hx rfl (hb hby d1_9) rfl (l' := L2) (stAt hL0 hL2 rfl rfl) (XS.iconst X1.here hx rfl (hb hby d1_10) (XS.istore X1.here hx rfl (hb hby d1_11) rfl (l' := L3) (stAt hL2 hL3 rfl rfl) (XS.iload X1.here hx rfl (hb hby d1_13) (ldAt hL3 rfl) k)))))) ?_
  refine Gl.st (B := (T1.setTop (mkF m 36 L3 [(.ref a1)]))) (fun t k => XS.iconst X1.here hx rfl (hb hby d1_15) (XS.icmpNo X1.here hx rfl (hb hby d1_16) rfl (by decide) (XS.iload X1.here hx rfl (hb hby d1_19) (ldAt hL3 rfl) (XS.iloadN X1.here hx rfl (hb hby d1_21) (ldAt hL3 rfl) (XS.icmpYes X1.here hx rfl (pc0 := 22) (pc' := 35) rfl (hb hby d1_22) rfl (feq hq22).2 (by decide) (by decide) (XS.aloadN X1.here hx rfl (hb hby d1_35) (ldAt hL3 rfl) rfl k)))))) ?_
  refine Gl.st (B := (T1.setTop (mkF m 45 L3 [(.int (el1 &&& (255 : Int32)))]))) (fun t k => XS.iloadN X1.here hx rfl (hb hby d1_36) (ldAt hL3 rfl) (XS.iload X1.here hx rfl (hb hby d1_37) (ldAt hL3 rfl) (XS.iadd X1.here hx rfl (hb hby d1_39) rfl (X1.baloadBytes hx (j := (p2 + (0 : Int32))) (v := (.int el1)) (by rw [eh1]; exact Ar_a1.1) (State.isArrayOf_alike hZ.alike Ar_a1.2.1) Ar_a1.2.2 hin40_1 hat40_1 (g := (mkF m 40 L3 [(.int (p2 + (0 : Int32))), (.ref a1)])) rfl rfl (hb hby d1_40) _ (XS.sipush X1.here hx rfl (hb hby d1_41) (XS.iand X1.here hx rfl (hb hby d1_44) rfl k)))))) ?_
  obtain ⟨y6_45_5, hy6_45_5⟩ : ∃ z : Int32, z = (el1 &&& (255 : Int32)) := ⟨_, rfl⟩
  refine Gl.cast (B := (T1.setTop (mkF m 45 L3 [(.int y6_45_5)]))) (by rw [hy6_45_5]) ?_
  obtain ⟨L6, hL6⟩ : ∃ z : Array Slot, z = #[.val (.ref a1), .val (.int p2), .val (.int p3), .val (.long (0 : Int64)), .second, .val (.int (0 : Int32)), .val (.int y6_45_5)] := ⟨_, rfl⟩
  refine Gl.st (B := (T1.setTop (mkF m 54 L6 [(.long ((y6_45_5 &&& (127 : Int32)).toInt64)), (.long (0 : Int64))]))) (fun t k => XS.istore X1.here hx rfl (hb hby d1_45) rfl (l' := L6) (stAt hL3 hL6 rfl rfl) (XS.lloadN X1.here hx rfl (hb hby d1_47) (ldAt hL6 rfl) (XS.iload X1.here hx rfl (hb hby d1_48) (ldAt hL6 rfl) (XS.bipush X1.here hx rfl (hb hby d1_50) (XS.iand X1.here hx rfl (hb hby d1_52) rfl (XS.i2l X1.here hx rfl (hb hby d1_53) rfl k)))))) ?_
  refine Gl.st (B := (T1.setTop (mkF m 61 L6 [(.long ((0 : Int64) ||| (((y6_45_5 &&& (127 : Int32)).toInt64) <<< ((0 : Int32) &&& 0x3f).toInt64)))]))) (fun t k => XS.bipush X1.here hx rfl (hb hby d1_54) (XS.iload X1.here hx rfl (hb hby d1_56) (ldAt hL6 rfl) (XS.imul X1.here hx rfl (hb hby d1_58) rfl (XS.lshl X1.here hx rfl (hb hby d1_59) rfl (XS.lor X1.here hx rfl (hb hby d1_60) rfl k))))) ?_
  obtain ⟨y3_61_7, hy3_61_7⟩ : ∃ z : Int64, z = ((0 : Int64) ||| (((y6_45_5 &&& (127 : Int32)).toInt64) <<< ((0 : Int32) &&& 0x3f).toInt64)) := ⟨_, rfl⟩
  refine Gl.cast (B := (T1.setTop (mkF m 61 L6 [(.long y3_61_7)]))) (by rw [hy3_61_7]) ?_
  obtain ⟨L8, hL8⟩ : ∃ z : Array Slot, z = #[.val (.ref a1), .val (.int p2), .val (.int p3), .val (.long y3_61_7), .second, .val (.int (0 : Int32)), .val (.int y6_45_5)] := ⟨_, rfl⟩
  refine Gl.st (B := (T1.setTop (mkF m 67 L8 [(.int (128 : Int32)), (.int y6_45_5)]))) (fun t k => XS.lstoreN X1.here hx rfl (hb hby d1_61) rfl (l' := L8) (stAt hL6 hL8 rfl rfl) (XS.iload X1.here hx rfl (hb hby d1_62) (ldAt hL8 rfl) (XS.sipush X1.here hx rfl (hb hby d1_64) k))) ?_
  have hc67_10 : y6_45_5 < (128 : Int32) := by subst hy6_45_5; exact hq67
  refine Gl.st (B := (T1.setTop (mkF m 75 L8 [(.int (lcmpW y3_61_7 (4294967295 : Int64)))]))) (fun t k => XS.icmpNo X1.here hx rfl (hb hby d1_67) rfl (tlt hc67_10).2.1 (XS.lloadN X1.here hx rfl (hb hby d1_70) (ldAt hL8 rfl) (X1.ldc2Long hx hown (mvT hZ (tw hw 15 rfl)) (g := (mkF m 71 L8 [(.long y3_61_7)])) rfl (hb hby d1_71) _ (XS.lcmp X1.here hx rfl (hb hby d1_74) rfl k)))) ?_
  have hc75_12 : ¬ ((4294967295 : Int64) < y3_61_7) := by subst hy3_61_7; subst hy6_45_5; exact hq75
  refine Gl.st (B := (T1.setTop (mkF m 82 L8 [(.long y3_61_7)]))) (fun t k => XS.ifYes X1.here hx rfl (pc0 := 75) (pc' := 81) rfl (hb hby d1_75) rfl ((if0 _ _).trans (flt (mt (lw_gt y3_61_7 (4294967295 : Int64)).mp hc75_12)).2.2.2) (by decide) (by decide) (XS.lloadN X1.here hx rfl (hb hby d1_81) (ldAt hL8 rfl) k)) ?_
  obtain ⟨fs, hr, hrun, hended, hW, hsame⟩ := X1.leave (v := some (.long y3_61_7)) (fun h => by rw [Bd.returns] at h; cases h)
  refine Gl.fin (X1.lreturnOut hx Bd.returns (hb hby d1_82) hr) hrun hended ⟨_, _, rfl, ?_, ⟨_, rfl⟩, hW, hsame.mono (by decide) (by decide)⟩
  show Q1k1 Z a1 p2 p3 cl_a1 el1 h0 n0 _ T1.heap _
  rw [eh1]
  exact ⟨(by subst hy3_61_7; subst hy6_45_5; rfl), N1, rfl⟩
theorem d1_83 : decode prog_8_method_4_code 83 = .ok (.iinc 5 1, 3) := by decide +kernel
theorem d1_86 : decode prog_8_method_4_code 86 = .ok (.goto (-73), 3) := by decide +kernel
theorem pd_1k2_0 : parseMethodDescriptor "(III)I" = some ⟨[.int, .int, .int], some .int⟩ := by decide +kernel
theorem ef_1k2 (m : MethodId) (a1 : Addr) (p2 : Int32) (p3 : Int32) : entryFrame m #[(.ref a1), (.int p2), (.int p3)] 7 = mkF m 0 #[.val (.ref a1), .val (.int p2), .val (.int p3), .unset, .unset, .unset, .unset] [] := by first | (simp [entryFrame, mkF, argsToLocals, Value.category]; done) | rfl
def Q1k2 (Z : State) (a1 : Addr) (p2 : Int32) (p3 : Int32) (cl_a1 : Cell) (el1 : Int32) (el2 : Int32) (h0 : Heap) (n0 : Nat) (v : Option Value) (h : Heap) (L : List Loc) : Prop := v = some (.long (((((0 : Int64) ||| (((((el1 &&& (255 : Int32))) &&& (127 : Int32)).toInt64) <<< ((0 : Int32) &&& 0x3f).toInt64))) ||| (((((el2 &&& (255 : Int32))) &&& (127 : Int32)).toInt64) <<< ((7 : Int32) &&& 0x3f).toInt64)))) ∧ Fr n0 L ∧ h = h0
set_option maxRecDepth 65536 in
set_option maxHeartbeats 40000000 in
theorem rm1k2 (l : Launch) (Z : State) (a0 : Array Value) (hw : ∀ d ∈ tables_1, d.before a0 Z = true) (ws : List Jvm.Cond) (a1 : Addr) (p2 : Int32) (p3 : Int32) (cl_a1 : Cell) (el1 : Int32) (el2 : Int32) (h0 : Heap) (n0 : Nat) (Z0 : n0 ≤ h0.size) (Ar_a1 : Arr Z h0 a1 cl_a1 .byte) (S_a1 : cl_a1.slots.size = ((10 : Int32)).toNatClampNeg) (P_a1 : ¬ (10 : Int32) < 0) (hr4_hr4_hq5 : ¬ ((((10 : Int32) ||| p2) ||| p3) < (0 : Int32))) (hr4_hr4_hq12 : ¬ (((10 : Int32) - p2) < p3)) (hq22 : ¬ ((0 : Int32) = p3)) (hin40_1 : ¬ ((p2 + (0 : Int32)) < 0 ∨ cl_a1.slots.size ≤ ((p2 + (0 : Int32))).toNatClampNeg)) (hat40_1 : cl_a1.slots[((p2 + (0 : Int32))).toNatClampNeg]? = some (.int el1)) (hq67 : ¬ (((el1 &&& (255 : Int32))) < (128 : Int32))) (hq22_2 : ¬ ((1 : Int32) = p3)) (hin40_2 : ¬ ((p2 + (1 : Int32)) < 0 ∨ cl_a1.slots.size ≤ ((p2 + (1 : Int32))).toNatClampNeg)) (hat40_2 : cl_a1.slots[((p2 + (1 : Int32))).toNatClampNeg]? = some (.int el2)) (hq67_2 : ((el2 &&& (255 : Int32))) < (128 : Int32)) (hq75 : ¬ ((4294967295 : Int64) < (((((0 : Int64) ||| (((((el1 &&& (255 : Int32))) &&& (127 : Int32)).toInt64) <<< ((0 : Int32) &&& 0x3f).toInt64))) ||| (((((el2 &&& (255 : Int32))) &&& (127 : Int32)).toInt64) <<< ((7 : Int32) &&& 0x3f).toInt64))))) :
    MetFree l (⟨"com/example/requeue/requeue/connection/SnappyBlock", "uncompressedLength", "([BII)J"⟩ : MethodName) (head1 (Jvm.Cond.code (⟨"com/example/requeue/requeue/connection/SnappyBlock", "uncompressedLength", "([BII)J"⟩ : MethodName) prog_8_method_4_code 7 (some .long) :: ws) ({ frames := 2, cells := 0, slots := 0, locals := 29 } : Room)) (fun a U => a = #[(.ref a1), (.int p2), (.int p3)] ∧ Z.Warmed39 U.vm ∧ U.heap = h0) (fun _ _ _ _ _ => True) (fun _ U o U' => ∃ v L, o = .returned v ∧ Q1k2 Z a1 p2 p3 cl_a1 el1 el2 h0 n0 v U'.heap L ∧ FrameEnd U o U' L ({ frames := 2, cells := 0, slots := 0, locals := 29 } : Room).cells ({ frames := 2, cells := 0, slots := 0, locals := 29 } : Room).slots) := by
  refine MetFree.of_bodySF (plainFor_of_name pn_1) hisR ?_
  intro p e s m args below meth c s₁ Bd hml0 hP hK
  obtain ⟨rfl, hZ, hh⟩ := hP
  have hx := Bd.exec
  have hby := Bd.bytes
  have hml : c.maxLocals = 7 := hml0
  have hown : s.vm.findClass "com/example/requeue/requeue/connection/SnappyBlock" = some m.cls := findClass_of_methodNamed Bd.named
  have hnm := (name_of_methodNamed Bd.named Bd.method).1
  have X0 : Stand p l e ({ frames := 2, cells := 0, slots := 0, locals := 29 } : Room) s m #[(.ref a1), (.int p2), (.int p3)] below meth c s₁ [] 0 0 := Stand.of_body Bd
  have e0 : s₁.heap = h0 := by rw [← hh, Bd.state]; rfl
  have N0 := Fr.nil n0
  have K0 : Keep h0 h0 [] := Keep.refl h0 _
  refine (show Gl p e below (fun o U' => ∃ v L, o = .returned v ∧ Q1k2 Z a1 p2 p3 cl_a1 el1 el2 h0 n0 v U'.heap L ∧ FrameEnd s o U' L ({ frames := 2, cells := 0, slots := 0, locals := 29 } : Room).cells ({ frames := 2, cells := 0, slots := 0, locals := 29 } : Room).slots) (s₁.setTop (entryFrame m #[(.ref a1), (.int p2), (.int p3)] 7)) from ?_)
  obtain ⟨L0, hL0⟩ : ∃ z : Array Slot, z = #[.val (.ref a1), .val (.int p2), .val (.int p3), .unset, .unset, .unset, .unset] := ⟨_, rfl⟩
  refine Gl.st (B := (s₁.setTop (mkF m 0 L0 []))) (fun t k => castTop (efAt hL0 (ef_1k2 m a1 p2 p3)) k) ?_
  refine Gl.st (B := (s₁.setTop (mkF m 4 L0 [(.int cl_a1.slots.size.toInt32), (.int p3), (.int p2)]))) (fun t k => XS.iloadN X0.here hx rfl (hb hby d1_0) (ldAt hL0 rfl) (XS.iloadN X0.here hx rfl (hb hby d1_1) (ldAt hL0 rfl) (XS.aloadN X0.here hx rfl (hb hby d1_2) (ldAt hL0 rfl) rfl (X0.arraylength hx (by rw [e0]; exact Ar_a1.1) (State.isArrayOf_alike hZ.alike Ar_a1.2.1) (g := (mkF m 3 L0 [(.ref a1), (.int p3), (.int p2)])) rfl rfl (hb hby d1_3) _ k)))) ?_
  refine Gl.cast (B := (s₁.setTop (mkF m 4 L0 [(.int (10 : Int32)), (.int p3), (.int p2)]))) (by rw [len_of S_a1 P_a1]) ?_
  obtain ⟨_, _, ⟨T1, L1q, k1, n1⟩, -, X1, ⟨Lc1, hQ1, l1, y1, z1⟩, st1⟩ := Jvm.LawKit.callS X0 hx (y := (⟨"java/util/Objects", "checkFromIndexSize", "(III)I"⟩ : MethodName)) hown (mvT hZ (tw hw 7 rfl)) (mvT hZ (tw hw 8 rfl)) (mvT hZ (tw hw 9 rfl)) (mvT hZ (tw hw 10 rfl)) (by decide) (backOf (W := 0) (rm2 l Z a0 hw [] p2 p3 (10 : Int32) h0 n0 Z0 hr4_hr4_hq5 hr4_hr4_hq12) hZ (tw hw 10 rfl) (tw hw 9 rfl) (by decide) (by decide)) (g := (mkF m 4 L0 [(.int (10 : Int32)), (.int p3), (.int p2)])) rfl (szAt hml hL0 rfl) (argsL := [(.int p2), (.int p3), (.int (10 : Int32))]) (rest := []) (lenOf pd_1k2_0 rfl) rfl (by show 2 * 0 + _ ≤ _; exact Nat.le_of_eq rfl) (hb hby d1_4) (fun _ _ => ⟨rfl, e0, (by decide : 0 + 0 ≤ _), (by decide : 0 + 0 ≤ _)⟩)
  dsimp only [Pt.U, Pt.locs, Pt.cells, Pt.slots] at X1 l1 y1 z1 st1 hQ1
  subst l1 y1 z1
  obtain ⟨rfl, N1q, eh1⟩ := hQ1
  have N1 := Fr.app N0 N1q
  refine Gl.st (B := (T1.setTop (mkF m 7 L0 [(.int p2)]))) (fun t k => st1 t k) ?_
  obtain ⟨L2, hL2⟩ : ∃ z : Array Slot, z = #[.val (.ref a1), .val (.int p2), .val (.int p3), .val (.long (0 : Int64)), .second, .unset, .unset] := ⟨_, rfl⟩
  obtain ⟨L3, hL3⟩ : ∃ z : Array Slot, z = #[.val (.ref a1), .val (.int p2), .val (.int p3), .val (.long (0 : Int64)), .second, .val (.int (0 : Int32)), .unset] := ⟨_, rfl⟩
  refine Gl.st (B := (T1.setTop (mkF m 15 L3 [(.int (0 : Int32))]))) (fun t k => XS.pop X1.here hx rfl (hb hby d1_7) rfl rfl (XS.lconst X1.here hx rfl (hb hby d1_8) (XS.lstoreN X1.here hx rfl (hb hby d1_9) rfl (l' := L2) (stAt hL0 hL2 rfl rfl) (XS.iconst X1.here hx rfl (hb hby d1_10) (XS.istore X1.here hx rfl (hb hby d1_11) rfl (l' := L3) (stAt hL2 hL3 rfl rfl) (XS.iload X1.here hx rfl (hb hby d1_13) (ldAt hL3 rfl) k)))))) ?_
  refine Gl.st (B := (T1.setTop (mkF m 36 L3 [(.ref a1)]))) (fun t k => XS.iconst X1.here hx rfl (hb hby d1_15) (XS.icmpNo X1.here hx rfl (hb hby d1_16) rfl (by decide) (XS.iload X1.here hx rfl (hb hby d1_19) (ldAt hL3 rfl) (XS.iloadN X1.here hx rfl (hb hby d1_21) (ldAt hL3 rfl) (XS.icmpYes X1.here hx rfl (pc0 := 22) (pc' := 35) rfl (hb hby d1_22) rfl (feq hq22).2 (by decide) (by decide) (XS.aloadN X1.here hx rfl (hb hby d1_35) (ldAt hL3 rfl) rfl k)))))) ?_
  refine Gl.st (B := (T1.setTop (mkF m 45 L3 [(.int (el1 &&& (255 : Int32)))]))) (fun t k => XS.iloadN X1.here hx rfl (hb hby d1_36) (ldAt hL3 rfl) (XS.iload X1.here hx rfl (hb hby d1_37) (ldAt hL3 rfl) (XS.iadd X1.here hx rfl (hb hby d1_39) rfl (X1.baloadBytes hx (j := (p2 + (0 : Int32))) (v := (.int el1)) (by rw [eh1]; exact Ar_a1.1) (State.isArrayOf_alike hZ.alike Ar_a1.2.1) Ar_a1.2.2 hin40_1 hat40_1 (g := (mkF m 40 L3 [(.int (p2 + (0 : Int32))), (.ref a1)])) rfl rfl (hb hby d1_40) _ (XS.sipush X1.here hx rfl (hb hby d1_41) (XS.iand X1.here hx rfl (hb hby d1_44) rfl k)))))) ?_
  obtain ⟨y6_45_5, hy6_45_5⟩ : ∃ z : Int32, z = (el1 &&& (255 : Int32)) := ⟨_, rfl⟩
  refine Gl.cast (B := (T1.setTop (mkF m 45 L3 [(.int y6_45_5)]))) (by rw [hy6_45_5]) ?_
  obtain ⟨L6, hL6⟩ : ∃ z : Array Slot, z = #[.val (.ref a1), .val (.int p2), .val (.int p3), .val (.long (0 : Int64)), .second, .val (.int (0 : Int32)), .val (.int y6_45_5)] := ⟨_, rfl⟩
  refine Gl.st (B := (T1.setTop (mkF m 54 L6 [(.long ((y6_45_5 &&& (127 : Int32)).toInt64)), (.long (0 : Int64))]))) (fun t k => XS.istore X1.here hx rfl (hb hby d1_45) rfl (l' := L6) (stAt hL3 hL6 rfl rfl) (XS.lloadN X1.here hx rfl (hb hby d1_47) (ldAt hL6 rfl) (XS.iload X1.here hx rfl (hb hby d1_48) (ldAt hL6 rfl) (XS.bipush X1.here hx rfl (hb hby d1_50) (XS.iand X1.here hx rfl (hb hby d1_52) rfl (XS.i2l X1.here hx rfl (hb hby d1_53) rfl k)))))) ?_
  refine Gl.st (B := (T1.setTop (mkF m 61 L6 [(.long ((0 : Int64) ||| (((y6_45_5 &&& (127 : Int32)).toInt64) <<< ((0 : Int32) &&& 0x3f).toInt64)))]))) (fun t k => XS.bipush X1.here hx rfl (hb hby d1_54) (XS.iload X1.here hx rfl (hb hby d1_56) (ldAt hL6 rfl) (XS.imul X1.here hx rfl (hb hby d1_58) rfl (XS.lshl X1.here hx rfl (hb hby d1_59) rfl (XS.lor X1.here hx rfl (hb hby d1_60) rfl k))))) ?_
  obtain ⟨y3_61_7, hy3_61_7⟩ : ∃ z : Int64, z = ((0 : Int64) ||| (((y6_45_5 &&& (127 : Int32)).toInt64) <<< ((0 : Int32) &&& 0x3f).toInt64)) := ⟨_, rfl⟩
  refine Gl.cast (B := (T1.setTop (mkF m 61 L6 [(.long y3_61_7)]))) (by rw [hy3_61_7]) ?_
  obtain ⟨L8, hL8⟩ : ∃ z : Array Slot, z = #[.val (.ref a1), .val (.int p2), .val (.int p3), .val (.long y3_61_7), .second, .val (.int (0 : Int32)), .val (.int y6_45_5)] := ⟨_, rfl⟩
  refine Gl.st (B := (T1.setTop (mkF m 67 L8 [(.int (128 : Int32)), (.int y6_45_5)]))) (fun t k => XS.lstoreN X1.here hx rfl (hb hby d1_61) rfl (l' := L8) (stAt hL6 hL8 rfl rfl) (XS.iload X1.here hx rfl (hb hby d1_62) (ldAt hL8 rfl) (XS.sipush X1.here hx rfl (hb hby d1_64) k))) ?_
  have hc67_10 : ¬ (y6_45_5 < (128 : Int32)) := by subst hy6_45_5; exact hq67
  obtain ⟨L11, hL11⟩ : ∃ z : Array Slot, z = #[.val (.ref a1), .val (.int p2), .val (.int p3), .val (.long y3_61_7), .second, .val (.int (1 : Int32)), .val (.int y6_45_5)] := ⟨_, rfl⟩
  refine Gl.st (B := (T1.setTop (mkF m 19 L11 []))) (fun t k => XS.icmpYes X1.here hx rfl (pc0 := 67) (pc' := 83) rfl (hb hby d1_67) rfl (flt hc67_10).2.1 (by decide) (by decide) (XS.iinc X1.here hx rfl (hb hby d1_83) (ldAt hL8 rfl) (l' := L11) (stAt' hL8 hL11 rfl rfl) (XS.goto X1.here hx rfl (pc0 := 86) (pc' := 13) rfl (hb hby d1_86) (by decide) (by decide) (XS.iload X1.here hx rfl (hb hby d1_13) (ldAt hL11 rfl) (XS.iconst X1.here hx rfl (hb hby d1_15) (XS.icmpNo X1.here hx rfl (hb hby d1_16) rfl (by decide) k)))))) ?_
  refine Gl.st (B := (T1.setTop (mkF m 39 L11 [(.int (1 : Int32)), (.int p2), (.ref a1)]))) (fun t k => XS.iload X1.here hx rfl (hb hby d1_19) (ldAt hL11 rfl) (XS.iloadN X1.here hx rfl (hb hby d1_21) (ldAt hL11 rfl) (XS.icmpYes X1.here hx rfl (pc0 := 22) (pc' := 35) rfl (hb hby d1_22) rfl (feq hq22_2).2 (by decide) (by decide) (XS.aloadN X1.here hx rfl (hb hby d1_35) (ldAt hL11 rfl) rfl (XS.iloadN X1.here hx rfl (hb hby d1_36) (ldAt hL11 rfl) (XS.iload X1.here hx rfl (hb hby d1_37) (ldAt hL11 rfl) k)))))) ?_
  refine Gl.st (B := (T1.setTop (mkF m 45 L11 [(.int (el2 &&& (255 : Int32)))]))) (fun t k => XS.iadd X1.here hx rfl (hb hby d1_39) rfl (X1.baloadBytes hx (j := (p2 + (1 : Int32))) (v := (.int el2)) (by rw [eh1]; exact Ar_a1.1) (State.isArrayOf_alike hZ.alike Ar_a1.2.1) Ar_a1.2.2 hin40_2 hat40_2 (g := (mkF m 40 L11 [(.int (p2 + (1 : Int32))), (.ref a1)])) rfl rfl (hb hby d1_40) _ (XS.sipush X1.here hx rfl (hb hby d1_41) (XS.iand X1.here hx rfl (hb hby d1_44) rfl k)))) ?_
  obtain ⟨y6_45_13, hy6_45_13⟩ : ∃ z : Int32, z = (el2 &&& (255 : Int32)) := ⟨_, rfl⟩
  refine Gl.cast (B := (T1.setTop (mkF m 45 L11 [(.int y6_45_13)]))) (by rw [hy6_45_13]) ?_
  obtain ⟨L14, hL14⟩ : ∃ z : Array Slot, z = #[.val (.ref a1), .val (.int p2), .val (.int p3), .val (.long y3_61_7), .second, .val (.int (1 : Int32)), .val (.int y6_45_13)] := ⟨_, rfl⟩
  refine Gl.st (B := (T1.setTop (mkF m 54 L14 [(.long ((y6_45_13 &&& (127 : Int32)).toInt64)), (.long y3_61_7)]))) (fun t k => XS.istore X1.here hx rfl (hb hby d1_45) rfl (l' := L14) (stAt hL11 hL14 rfl rfl) (XS.lloadN X1.here hx rfl (hb hby d1_47) (ldAt hL14 rfl) (XS.iload X1.here hx rfl (hb hby d1_48) (ldAt hL14 rfl) (XS.bipush X1.here hx rfl (hb hby d1_50) (XS.iand X1.here hx rfl (hb hby d1_52) rfl (XS.i2l X1.here hx rfl (hb hby d1_53) rfl k)))))) ?_
  refine Gl.st (B := (T1.setTop (mkF m 61 L14 [(.long (y3_61_7 ||| (((y6_45_13 &&& (127 : Int32)).toInt64) <<< ((7 : Int32) &&& 0x3f).toInt64)))]))) (fun t k => XS.bipush X1.here hx rfl (hb hby d1_54) (XS.iload X1.here hx rfl (hb hby d1_56) (ldAt hL14 rfl) (XS.imul X1.here hx rfl (hb hby d1_58) rfl (XS.lshl X1.here hx rfl (hb hby d1_59) rfl (XS.lor X1.here hx rfl (hb hby d1_60) rfl k))))) ?_
  obtain ⟨y3_61_15, hy3_61_15⟩ : ∃ z : Int64, z = (y3_61_7 ||| (((y6_45_13 &&& (127 : Int32)).toInt64) <<< ((7 : Int32) &&& 0x3f).toInt64)) := ⟨_, rfl⟩
  refine Gl.cast (B := (T1.setTop (mkF m 61 L14 [(.long y3_61_15)]))) (by rw [hy3_61_15]) ?_
  obtain ⟨L16, hL16⟩ : ∃ z : Array Slot, z = #[.val (.ref a1), .val (.int p2), .val (.int p3), .val (.long y3_61_15), .second, .val (.int (1 : Int32)), .val (.int y6_45_13)] := ⟨_, rfl⟩
  refine Gl.st (B := (T1.setTop (mkF m 67 L16 [(.int (128 : Int32)), (.int y6_45_13)]))) (fun t k => XS.lstoreN X1.here hx rfl (hb hby d1_61) rfl (l' := L16) (stAt hL14 hL16 rfl rfl) (XS.iload X1.here hx rfl (hb hby d1_62) (ldAt hL16 rfl) (XS.sipush X1.here hx rfl (hb hby d1_64) k))) ?_
  have hc67_18 : y6_45_13 < (128 : Int32) := by subst hy6_45_13; exact hq67_2
  refine Gl.st (B := (T1.setTop (mkF m 75 L16 [(.int (lcmpW y3_61_15 (4294967295 : Int64)))]))) (fun t k => XS.icmpNo X1.here hx rfl (hb hby d1_67) rfl (tlt hc67_18).2.1 (XS.lloadN X1.here hx rfl (hb hby d1_70) (ldAt hL16 rfl) (X1.ldc2Long hx hown (mvT hZ (tw hw 15 rfl)) (g := (mkF m 71 L16 [(.long y3_61_15)])) rfl (hb hby d1_71) _ (XS.lcmp X1.here hx rfl (hb hby d1_74) rfl k)))) ?_
  have hc75_20 : ¬ ((4294967295 : Int64) < y3_61_15) := by subst hy3_61_15; subst hy3_61_7; subst hy6_45_5; subst hy6_45_13; exact hq75
  refine Gl.st (B := (T1.setTop (mkF m 82 L16 [(.long y3_61_15)]))) (fun t k => XS.ifYes X1.here hx rfl (pc0 := 75) (pc' := 81) rfl (hb hby d1_75) rfl ((if0 _ _).trans (flt (mt (lw_gt y3_61_15 (4294967295 : Int64)).mp hc75_20)).2.2.2) (by decide) (by decide) (XS.lloadN X1.here hx rfl (hb hby d1_81) (ldAt hL16 rfl) k)) ?_
  obtain ⟨fs, hr, hrun, hended, hW, hsame⟩ := X1.leave (v := some (.long y3_61_15)) (fun h => by rw [Bd.returns] at h; cases h)
  refine Gl.fin (X1.lreturnOut hx Bd.returns (hb hby d1_82) hr) hrun hended ⟨_, _, rfl, ?_, ⟨_, rfl⟩, hW, hsame.mono (by decide) (by decide)⟩
  show Q1k2 Z a1 p2 p3 cl_a1 el1 el2 h0 n0 _ T1.heap _
  rw [eh1]
  exact ⟨(by subst hy3_61_15; subst hy3_61_7; subst hy6_45_5; subst hy6_45_13; rfl), N1, rfl⟩
theorem pd_1k3_0 : parseMethodDescriptor "(III)I" = some ⟨[.int, .int, .int], some .int⟩ := by decide +kernel
theorem ef_1k3 (m : MethodId) (a1 : Addr) (p2 : Int32) (p3 : Int32) : entryFrame m #[(.ref a1), (.int p2), (.int p3)] 7 = mkF m 0 #[.val (.ref a1), .val (.int p2), .val (.int p3), .unset, .unset, .unset, .unset] [] := by first | (simp [entryFrame, mkF, argsToLocals, Value.category]; done) | rfl
def Q1k3 (Z : State) (a1 : Addr) (p2 : Int32) (p3 : Int32) (cl_a1 : Cell) (el1 : Int32) (el2 : Int32) (el3 : Int32) (h0 : Heap) (n0 : Nat) (v : Option Value) (h : Heap) (L : List Loc) : Prop := v = some (.long (((((((0 : Int64) ||| (((((el1 &&& (255 : Int32))) &&& (127 : Int32)).toInt64) <<< ((0 : Int32) &&& 0x3f).toInt64))) ||| (((((el2 &&& (255 : Int32))) &&& (127 : Int32)).toInt64) <<< ((7 : Int32) &&& 0x3f).toInt64))) ||| (((((el3 &&& (255 : Int32))) &&& (127 : Int32)).toInt64) <<< ((14 : Int32) &&& 0x3f).toInt64)))) ∧ Fr n0 L ∧ h = h0
set_option maxRecDepth 65536 in
set_option maxHeartbeats 40000000 in
theorem rm1k3 (l : Launch) (Z : State) (a0 : Array Value) (hw : ∀ d ∈ tables_1, d.before a0 Z = true) (ws : List Jvm.Cond) (a1 : Addr) (p2 : Int32) (p3 : Int32) (cl_a1 : Cell) (el1 : Int32) (el2 : Int32) (el3 : Int32) (h0 : Heap) (n0 : Nat) (Z0 : n0 ≤ h0.size) (Ar_a1 : Arr Z h0 a1 cl_a1 .byte) (S_a1 : cl_a1.slots.size = ((10 : Int32)).toNatClampNeg) (P_a1 : ¬ (10 : Int32) < 0) (hr4_hr4_hq5 : ¬ ((((10 : Int32) ||| p2) ||| p3) < (0 : Int32))) (hr4_hr4_hq12 : ¬ (((10 : Int32) - p2) < p3)) (hq22 : ¬ ((0 : Int32) = p3)) (hin40_1 : ¬ ((p2 + (0 : Int32)) < 0 ∨ cl_a1.slots.size ≤ ((p2 + (0 : Int32))).toNatClampNeg)) (hat40_1 : cl_a1.slots[((p2 + (0 : Int32))).toNatClampNeg]? = some (.int el1)) (hq67 : ¬ (((el1 &&& (255 : Int32))) < (128 : Int32))) (hq22_2 : ¬ ((1 : Int32) = p3)) (hin40_2 : ¬ ((p2 + (1 : Int32)) < 0 ∨ cl_a1.slots.size ≤ ((p2 + (1 : Int32))).toNatClampNeg)) (hat40_2 : cl_a1.slots[((p2 + (1 : Int32))).toNatClampNeg]? = some (.int el2)) (hq67_2 : ¬ (((el2 &&& (255 : Int32))) < (128 : Int32))) (hq22_3 : ¬ ((2 : Int32) = p3)) (hin40_3 : ¬ ((p2 + (2 : Int32)) < 0 ∨ cl_a1.slots.size ≤ ((p2 + (2 : Int32))).toNatClampNeg)) (hat40_3 : cl_a1.slots[((p2 + (2 : Int32))).toNatClampNeg]? = some (.int el3)) (hq67_3 : ((el3 &&& (255 : Int32))) < (128 : Int32)) (hq75 : ¬ ((4294967295 : Int64) < (((((((0 : Int64) ||| (((((el1 &&& (255 : Int32))) &&& (127 : Int32)).toInt64) <<< ((0 : Int32) &&& 0x3f).toInt64))) ||| (((((el2 &&& (255 : Int32))) &&& (127 : Int32)).toInt64) <<< ((7 : Int32) &&& 0x3f).toInt64))) ||| (((((el3 &&& (255 : Int32))) &&& (127 : Int32)).toInt64) <<< ((14 : Int32) &&& 0x3f).toInt64))))) :
    MetFree l (⟨"com/example/requeue/requeue/connection/SnappyBlock", "uncompressedLength", "([BII)J"⟩ : MethodName) (head1 (Jvm.Cond.code (⟨"com/example/requeue/requeue/connection/SnappyBlock", "uncompressedLength", "([BII)J"⟩ : MethodName) prog_8_method_4_code 7 (some .long) :: ws) ({ frames := 2, cells := 0, slots := 0, locals := 29 } : Room)) (fun a U => a = #[(.ref a1), (.int p2), (.int p3)] ∧ Z.Warmed39 U.vm ∧ U.heap = h0) (fun _ _ _ _ _ => True) (fun _ U o U' => ∃ v L, o = .returned v ∧ Q1k3 Z a1 p2 p3 cl_a1 el1 el2 el3 h0 n0 v U'.heap L ∧ FrameEnd U o U' L ({ frames := 2, cells := 0, slots := 0, locals := 29 } : Room).cells ({ frames := 2, cells := 0, slots := 0, locals := 29 } : Room).slots) := by
  refine MetFree.of_bodySF (plainFor_of_name pn_1) hisR ?_
  intro p e s m args below meth c s₁ Bd hml0 hP hK
  obtain ⟨rfl, hZ, hh⟩ := hP
  have hx := Bd.exec
  have hby := Bd.bytes
  have hml : c.maxLocals = 7 := hml0
  have hown : s.vm.findClass "com/example/requeue/requeue/connection/SnappyBlock" = some m.cls := findClass_of_methodNamed Bd.named
  have hnm := (name_of_methodNamed Bd.named Bd.method).1
  have X0 : Stand p l e ({ frames := 2, cells := 0, slots := 0, locals := 29 } : Room) s m #[(.ref a1), (.int p2), (.int p3)] below meth c s₁ [] 0 0 := Stand.of_body Bd
  have e0 : s₁.heap = h0 := by rw [← hh, Bd.state]; rfl
  have N0 := Fr.nil n0
  have K0 : Keep h0 h0 [] := Keep.refl h0 _
  refine (show Gl p e below (fun o U' => ∃ v L, o = .returned v ∧ Q1k3 Z a1 p2 p3 cl_a1 el1 el2 el3 h0 n0 v U'.heap L ∧ FrameEnd s o U' L ({ frames := 2, cells := 0, slots := 0, locals := 29 } : Room).cells ({ frames := 2, cells := 0, slots := 0, locals := 29 } : Room).slots) (s₁.setTop (entryFrame m #[(.ref a1), (.int p2), (.int p3)] 7)) from ?_)
  obtain ⟨L0, hL0⟩ : ∃ z : Array Slot, z = #[.val (.ref a1), .val (.int p2), .val (.int p3), .unset, .unset, .unset, .unset] := ⟨_, rfl⟩
  refine Gl.st (B := (s₁.setTop (mkF m 0 L0 []))) (fun t k => castTop (efAt hL0 (ef_1k3 m a1 p2 p3)) k) ?_
  refine Gl.st (B := (s₁.setTop (mkF m 4 L0 [(.int cl_a1.slots.size.toInt32), (.int p3), (.int p2)]))) (fun t k => XS.iloadN X0.here hx rfl (hb hby d1_0) (ldAt hL0 rfl) (XS.iloadN X0.here hx rfl (hb hby d1_1) (ldAt hL0 rfl) (XS.aloadN X0.here hx rfl (hb hby d1_2) (ldAt hL0 rfl) rfl (X0.arraylength hx (by rw [e0]; exact Ar_a1.1) (State.isArrayOf_alike hZ.alike Ar_a1.2.1) (g := (mkF m 3 L0 [(.ref a1), (.int p3), (.int p2)])) rfl rfl (hb hby d1_3) _ k)))) ?_
  refine Gl.cast (B := (s₁.setTop (mkF m 4 L0 [(.int (10 : Int32)), (.int p3), (.int p2)]))) (by rw [len_of S_a1 P_a1]) ?_
  obtain ⟨_, _, ⟨T1, L1q, k1, n1⟩, -, X1, ⟨Lc1, hQ1, l1, y1, z1⟩, st1⟩ := Jvm.LawKit.callS X0 hx (y := (⟨"java/util/Objects", "checkFromIndexSize", "(III)I"⟩ : MethodName)) hown (mvT hZ (tw hw 7 rfl)) (mvT hZ (tw hw 8 rfl)) (mvT hZ (tw hw 9 rfl)) (mvT hZ (tw hw 10 rfl)) (by decide) (backOf (W := 0) (rm2 l Z a0 hw [] p2 p3 (10 : Int32) h0 n0 Z0 hr4_hr4_hq5 hr4_hr4_hq12) hZ (tw hw 10 rfl) (tw hw 9 rfl) (by decide) (by decide)) (g := (mkF m 4 L0 [(.int (10 : Int32)), (.int p3), (.int p2)])) rfl (szAt hml hL0 rfl) (argsL := [(.int p2), (.int p3), (.int (10 : Int32))]) (rest := []) (lenOf pd_1k3_0 rfl) rfl (by show 2 * 0 + _ ≤ _; exact Nat.le_of_eq rfl) (hb hby d1_4) (fun _ _ => ⟨rfl, e0, (by decide : 0 + 0 ≤ _), (by decide : 0 + 0 ≤ _)⟩)
  dsimp only [Pt.U, Pt.locs, Pt.cells, Pt.slots] at X1 l1 y1 z1 st1 hQ1
  subst l1 y1 z1
  obtain ⟨rfl, N1q, eh1⟩ := hQ1
  have N1 := Fr.app N0 N1q
  refine Gl.st (B := (T1.setTop (mkF m 7 L0 [(.int p2)]))) (fun t k => st1 t k) ?_
  obtain ⟨L2, hL2⟩ : ∃ z : Array Slot, z = #[.val (.ref a1), .val (.int p2), .val (.int p3), .val (.long (0 : Int64)), .second, .unset, .unset] := ⟨_, rfl⟩
  obtain ⟨L3, hL3⟩ : ∃ z : Array Slot, z = #[.val (.ref a1), .val (.int p2), .val (.int p3), .val (.long (0 : Int64)), .second, .val (.int (0 : Int32)), .unset] := ⟨_, rfl⟩
  refine Gl.st (B := (T1.setTop (mkF m 15 L3 [(.int (0 : Int32))]))) (fun t k => XS.pop X1.here hx rfl (hb hby d1_7) rfl rfl (XS.lconst X1.here hx rfl (hb hby d1_8) (XS.lstoreN X1.here hx rfl (hb hby d1_9) rfl (l' := L2) (stAt hL0 hL2 rfl rfl) (XS.iconst X1.here hx rfl (hb hby d1_10) (XS.istore X1.here hx rfl (hb hby d1_11) rfl (l' := L3) (stAt hL2 hL3 rfl rfl) (XS.iload X1.here hx rfl (hb hby d1_13) (ldAt hL3 rfl) k)))))) ?_
  refine Gl.st (B := (T1.setTop (mkF m 36 L3 [(.ref a1)]))) (fun t k => XS.iconst X1.here hx rfl (hb hby d1_15) (XS.icmpNo X1.here hx rfl (hb hby d1_16) rfl (by decide) (XS.iload X1.here hx rfl (hb hby d1_19) (ldAt hL3 rfl) (XS.iloadN X1.here hx rfl (hb hby d1_21) (ldAt hL3 rfl) (XS.icmpYes X1.here hx rfl (pc0 := 22) (pc' := 35) rfl (hb hby d1_22) rfl (feq hq22).2 (by decide) (by decide) (XS.aloadN X1.here hx rfl (hb hby d1_35) (ldAt hL3 rfl) rfl k)))))) ?_
  refine Gl.st (B := (T1.setTop (mkF m 45 L3 [(.int (el1 &&& (255 : Int32)))]))) (fun t k => XS.iloadN X1.here hx rfl (hb hby d1_36) (ldAt hL3 rfl) (XS.iload X1.here hx rfl (hb hby d1_37) (ldAt hL3 rfl) (XS.iadd X1.here hx rfl (hb hby d1_39) rfl (X1.baloadBytes hx (j := (p2 + (0 : Int32))) (v := (.int el1)) (by rw [eh1]; exact Ar_a1.1) (State.isArrayOf_alike hZ.alike Ar_a1.2.1) Ar_a1.2.2 hin40_1 hat40_1 (g := (mkF m 40 L3 [(.int (p2 + (0 : Int32))), (.ref a1)])) rfl rfl (hb hby d1_40) _ (XS.sipush X1.here hx rfl (hb hby d1_41) (XS.iand X1.here hx rfl (hb hby d1_44) rfl k)))))) ?_
  obtain ⟨y6_45_5, hy6_45_5⟩ : ∃ z : Int32, z = (el1 &&& (255 : Int32)) := ⟨_, rfl⟩
  refine Gl.cast (B := (T1.setTop (mkF m 45 L3 [(.int y6_45_5)]))) (by rw [hy6_45_5]) ?_
  obtain ⟨L6, hL6⟩ : ∃ z : Array Slot, z = #[.val (.ref a1), .val (.int p2), .val (.int p3), .val (.long (0 : Int64)), .second, .val (.int (0 : Int32)), .val (.int y6_45_5)] := ⟨_, rfl⟩
  refine Gl.st (B := (T1.setTop (mkF m 54 L6 [(.long ((y6_45_5 &&& (127 : Int32)).toInt64)), (.long (0 : Int64))]))) (fun t k => XS.istore X1.here hx rfl (hb hby d1_45) rfl (l' := L6) (stAt hL3 hL6 rfl rfl) (XS.lloadN X1.here hx rfl (hb hby d1_47) (ldAt hL6 rfl) (XS.iload X1.here hx rfl (hb hby d1_48) (ldAt hL6 rfl) (XS.bipush X1.here hx rfl (hb hby d1_50) (XS.iand X1.here hx rfl (hb hby d1_52) rfl (XS.i2l X1.here hx rfl (hb hby d1_53) rfl k)))))) ?_
  refine Gl.st (B := (T1.setTop (mkF m 61 L6 [(.long ((0 : Int64) ||| (((y6_45_5 &&& (127 : Int32)).toInt64) <<< ((0 : Int32) &&& 0x3f).toInt64)))]))) (fun t k => XS.bipush X1.here hx rfl (hb hby d1_54) (XS.iload X1.here hx rfl (hb hby d1_56) (ldAt hL6 rfl) (XS.imul X1.here hx rfl (hb hby d1_58) rfl (XS.lshl X1.here hx rfl (hb hby d1_59) rfl (XS.lor X1.here hx rfl (hb hby d1_60) rfl k))))) ?_
  obtain ⟨y3_61_7, hy3_61_7⟩ : ∃ z : Int64, z = ((0 : Int64) ||| (((y6_45_5 &&& (127 : Int32)).toInt64) <<< ((0 : Int32) &&& 0x3f).toInt64)) := ⟨_, rfl⟩
  refine Gl.cast (B := (T1.setTop (mkF m 61 L6 [(.long y3_61_7)]))) (by rw [hy3_61_7]) ?_
  obtain ⟨L8, hL8⟩ : ∃ z : Array Slot, z = #[.val (.ref a1), .val (.int p2), .val (.int p3), .val (.long y3_61_7), .second, .val (.int (0 : Int32)), .val (.int y6_45_5)] := ⟨_, rfl⟩
  refine Gl.st (B := (T1.setTop (mkF m 67 L8 [(.int (128 : Int32)), (.int y6_45_5)]))) (fun t k => XS.lstoreN X1.here hx rfl (hb hby d1_61) rfl (l' := L8) (stAt hL6 hL8 rfl rfl) (XS.iload X1.here hx rfl (hb hby d1_62) (ldAt hL8 rfl) (XS.sipush X1.here hx rfl (hb hby d1_64) k))) ?_
  have hc67_10 : ¬ (y6_45_5 < (128 : Int32)) := by subst hy6_45_5; exact hq67
  obtain ⟨L11, hL11⟩ : ∃ z : Array Slot, z = #[.val (.ref a1), .val (.int p2), .val (.int p3), .val (.long y3_61_7), .second, .val (.int (1 : Int32)), .val (.int y6_45_5)] := ⟨_, rfl⟩
  refine Gl.st (B := (T1.setTop (mkF m 19 L11 []))) (fun t k => XS.icmpYes X1.here hx rfl (pc0 := 67) (pc' := 83) rfl (hb hby d1_67) rfl (flt hc67_10).2.1 (by decide) (by decide) (XS.iinc X1.here hx rfl (hb hby d1_83) (ldAt hL8 rfl) (l' := L11) (stAt' hL8 hL11 rfl rfl) (XS.goto X1.here hx rfl (pc0 := 86) (pc' := 13) rfl (hb hby d1_86) (by decide) (by decide) (XS.iload X1.here hx rfl (hb hby d1_13) (ldAt hL11 rfl) (XS.iconst X1.here hx rfl (hb hby d1_15) (XS.icmpNo X1.here hx rfl (hb hby d1_16) rfl (by decide) k)))))) ?_
  refine Gl.st (B := (T1.setTop (mkF m 39 L11 [(.int (1 : Int32)), (.int p2), (.ref a1)]))) (fun t k => XS.iload X1.here hx rfl (hb hby d1_19) (ldAt hL11 rfl) (XS.iloadN X1.here hx rfl (hb hby d1_21) (ldAt hL11 rfl) (XS.icmpYes X1.here hx rfl (pc0 := 22) (pc' := 35) rfl (hb hby d1_22) rfl (feq hq22_2).2 (by decide) (by decide) (XS.aloadN X1.here hx rfl (hb hby d1_35) (ldAt hL11 rfl) rfl (XS.iloadN X1.here hx rfl (hb hby d1_36) (ldAt hL11 rfl) (XS.iload X1.here hx rfl (hb hby d1_37) (ldAt hL11 rfl) k)))))) ?_
  refine Gl.st (B := (T1.setTop (mkF m 45 L11 [(.int (el2 &&& (255 : Int32)))]))) (fun t k => XS.iadd X1.here hx rfl (hb hby d1_39) rfl (X1.baloadBytes hx (j := (p2 + (1 : Int32))) (v := (.int el2)) (by rw [eh1]; exact Ar_a1.1) (State.isArrayOf_alike hZ.alike Ar_a1.2.1) Ar_a1.2.2 hin40_2 hat40_2 (g := (mkF m 40 L11 [(.int (p2 + (1 : Int32))), (.ref a1)])) rfl rfl (hb hby d1_40) _ (XS.sipush X1.here hx rfl (hb hby d1_41) (XS.iand X1.here hx rfl (hb hby d1_44) rfl k)))) ?_
  obtain ⟨y6_45_13, hy6_45_13⟩ : ∃ z : Int32, z = (el2 &&& (255 : Int32)) := ⟨_, rfl⟩
  refine Gl.cast (B := (T1.setTop (mkF m 45 L11 [(.int y6_45_13)]))) (by rw [hy6_45_13]) ?_
  obtain ⟨L14, hL14⟩ : ∃ z : Array Slot, z = #[.val (.ref a1), .val (.int p2), .val (.int p3), .val (.long y3_61_7), .second, .val (.int (1 : Int32)), .val (.int y6_45_13)] := ⟨_, rfl⟩
  refine Gl.st (B := (T1.setTop (mkF m 54 L14 [(.long ((y6_45_13 &&& (127 : Int32)).toInt64)), (.long y3_61_7)]))) (fun t k => XS.istore X1.here hx rfl (hb hby d1_45) rfl (l' := L14) (stAt hL11 hL14 rfl rfl) (XS.lloadN X1.here hx rfl (hb hby d1_47) (ldAt hL14 rfl) (XS.iload X1.here hx rfl (hb hby d1_48) (ldAt hL14 rfl) (XS.bipush X1.here hx rfl (hb hby d1_50) (XS.iand X1.here hx rfl (hb hby d1_52) rfl (XS.i2l X1.here hx rfl (hb hby d1_53) rfl k)))))) ?_
  refine Gl.st (B := (T1.setTop (mkF m 61 L14 [(.long (y3_61_7 ||| (((y6_45_13 &&& (127 : Int32)).toInt64) <<< ((7 : Int32) &&& 0x3f).toInt64)))]))) (fun t k => XS.bipush X1.here hx rfl (hb hby d1_54) (XS.iload X1.here hx rfl (hb hby d1_56) (ldAt hL14 rfl) (XS.imul X1.here hx rfl (hb hby d1_58) rfl (XS.lshl X1.here hx rfl (hb hby d1_59) rfl (XS.lor X1.here hx rfl (hb hby d1_60) rfl k))))) ?_
  obtain ⟨y3_61_15, hy3_61_15⟩ : ∃ z : Int64, z = (y3_61_7 ||| (((y6_45_13 &&& (127 : Int32)).toInt64) <<< ((7 : Int32) &&& 0x3f).toInt64)) := ⟨_, rfl⟩
  refine Gl.cast (B := (T1.setTop (mkF m 61 L14 [(.long y3_61_15)]))) (by rw [hy3_61_15]) ?_
  obtain ⟨L16, hL16⟩ : ∃ z : Array Slot, z = #[.val (.ref a1), .val (.int p2), .val (.int p3), .val (.long y3_61_15), .second, .val (.int (1 : Int32)), .val (.int y6_45_13)] := ⟨_, rfl⟩
  refine Gl.st (B := (T1.setTop (mkF m 67 L16 [(.int (128 : Int32)), (.int y6_45_13)]))) (fun t k => XS.lstoreN X1.here hx rfl (hb hby d1_61) rfl (l' := L16) (stAt hL14 hL16 rfl rfl) (XS.iload X1.here hx rfl (hb hby d1_62) (ldAt hL16 rfl) (XS.sipush X1.here hx rfl (hb hby d1_64) k))) ?_
  have hc67_18 : ¬ (y6_45_13 < (128 : Int32)) := by subst hy6_45_13; exact hq67_2
  obtain ⟨L19, hL19⟩ : ∃ z : Array Slot, z = #[.val (.ref a1), .val (.int p2), .val (.int p3), .val (.long y3_61_15), .second, .val (.int (2 : Int32)), .val (.int y6_45_13)] := ⟨_, rfl⟩
  refine Gl.st (B := (T1.setTop (mkF m 19 L19 []))) (fun t k => XS.icmpYes X1.here hx rfl (pc0 := 67) (pc' := 83) rfl (hb hby d1_67) rfl (flt hc67_18).2.1 (by decide) (by decide) (XS.iinc X1.here hx rfl (hb hby d1_83) (ldAt hL16 rfl) (l' := L19) (stAt' hL16 hL19 rfl rfl) (XS.goto X1.here hx rfl (pc0 := 86) (pc' := 13) rfl (hb hby d1_86) (by decide) (by decide) (XS.iload X1.here hx rfl (hb hby d1_13) (ldAt hL19 rfl) (XS.iconst X1.here hx rfl (hb hby d1_15) (XS.icmpNo X1.here hx rfl (hb hby d1_16) rfl (by decide) k)))))) ?_
  refine Gl.st (B := (T1.setTop (mkF m 39 L19 [(.int (2 : Int32)), (.int p2), (.ref a1)]))) (fun t k => XS.iload X1.here hx rfl (hb hby d1_19) (ldAt hL19 rfl) (XS.iloadN X1.here hx rfl (hb hby d1_21) (ldAt hL19 rfl) (XS.icmpYes X1.here hx rfl (pc0 := 22) (pc' := 35) rfl (hb hby d1_22) rfl (feq hq22_3).2 (by decide) (by decide) (XS.aloadN X1.here hx rfl (hb hby d1_35) (ldAt hL19 rfl) rfl (XS.iloadN X1.here hx rfl (hb hby d1_36) (ldAt hL19 rfl) (XS.iload X1.here hx rfl (hb hby d1_37) (ldAt hL19 rfl) k)))))) ?_
  refine Gl.st (B := (T1.setTop (mkF m 45 L19 [(.int (el3 &&& (255 : Int32)))]))) (fun t k => XS.iadd X1.here hx rfl (hb hby d1_39) rfl (X1.baloadBytes hx (j := (p2 + (2 : Int32))) (v := (.int el3)) (by rw [eh1]; exact Ar_a1.1) (State.isArrayOf_alike hZ.alike Ar_a1.2.1) Ar_a1.2.2 hin40_3 hat40_3 (g := (mkF m 40 L19 [(.int (p2 + (2 : Int32))), (.ref a1)])) rfl rfl (hb hby d1_40) _ (XS.sipush X1.here hx rfl (hb hby d1_41) (XS.iand X1.here hx rfl (hb hby d1_44) rfl k)))) ?_
  obtain ⟨y6_45_21, hy6_45_21⟩ : ∃ z : Int32, z = (el3 &&& (255 : Int32)) := ⟨_, rfl⟩
  refine Gl.cast (B := (T1.setTop (mkF m 45 L19 [(.int y6_45_21)]))) (by rw [hy6_45_21]) ?_
  obtain ⟨L22, hL22⟩ : ∃ z : Array Slot, z = #[.val (.ref a1), .val (.int p2), .val (.int p3), .val (.long y3_61_15), .second, .val (.int (2 : Int32)), .val (.int y6_45_21)] := ⟨_, rfl⟩
  refine Gl.st (B := (T1.setTop (mkF m 54 L22 [(.long ((y6_45_21 &&& (127 : Int32)).toInt64)), (.long y3_61_15)]))) (fun t k => XS.istore X1.here hx rfl (hb hby d1_45) rfl (l' := L22) (stAt hL19 hL22 rfl rfl) (XS.lloadN X1.here hx rfl (hb hby d1_47) (ldAt hL22 rfl) (XS.iload X1.here hx rfl (hb hby d1_48) (ldAt hL22 rfl) (XS.bipush X1.here hx rfl (hb hby d1_50) (XS.iand X1.here hx rfl (hb hby d1_52) rfl (XS.i2l X1.here hx rfl (hb hby d1_53) rfl k)))))) ?_
  refine Gl.st (B := (T1.setTop (mkF m 61 L22 [(.long (y3_61_15 ||| (((y6_45_21 &&& (127 : Int32)).toInt64) <<< ((14 : Int32) &&& 0x3f).toInt64)))]))) (fun t k => XS.bipush X1.here hx rfl (hb hby d1_54) (XS.iload X1.here hx rfl (hb hby d1_56) (ldAt hL22 rfl) (XS.imul X1.here hx rfl (hb hby d1_58) rfl (XS.lshl X1.here hx rfl (hb hby d1_59) rfl (XS.lor X1.here hx rfl (hb hby d1_60) rfl k))))) ?_
  obtain ⟨y3_61_23, hy3_61_23⟩ : ∃ z : Int64, z = (y3_61_15 ||| (((y6_45_21 &&& (127 : Int32)).toInt64) <<< ((14 : Int32) &&& 0x3f).toInt64)) := ⟨_, rfl⟩
  refine Gl.cast (B := (T1.setTop (mkF m 61 L22 [(.long y3_61_23)]))) (by rw [hy3_61_23]) ?_
  obtain ⟨L24, hL24⟩ : ∃ z : Array Slot, z = #[.val (.ref a1), .val (.int p2), .val (.int p3), .val (.long y3_61_23), .second, .val (.int (2 : Int32)), .val (.int y6_45_21)] := ⟨_, rfl⟩
  refine Gl.st (B := (T1.setTop (mkF m 67 L24 [(.int (128 : Int32)), (.int y6_45_21)]))) (fun t k => XS.lstoreN X1.here hx rfl (hb hby d1_61) rfl (l' := L24) (stAt hL22 hL24 rfl rfl) (XS.iload X1.here hx rfl (hb hby d1_62) (ldAt hL24 rfl) (XS.sipush X1.here hx rfl (hb hby d1_64) k))) ?_
  have hc67_26 : y6_45_21 < (128 : Int32) := by subst hy6_45_21; exact hq67_3
  refine Gl.st (B := (T1.setTop (mkF m 75 L24 [(.int (lcmpW y3_61_23 (4294967295 : Int64)))]))) (fun t k => XS.icmpNo X1.here hx rfl (hb hby d1_67) rfl (tlt hc67_26).2.1 (XS.lloadN X1.here hx rfl (hb hby d1_70) (ldAt hL24 rfl) (X1.ldc2Long hx hown (mvT hZ (tw hw 15 rfl)) (g := (mkF m 71 L24 [(.long y3_61_23)])) rfl (hb hby d1_71) _ (XS.lcmp X1.here hx rfl (hb hby d1_74) rfl k)))) ?_
  have hc75_28 : ¬ ((4294967295 : Int64) < y3_61_23) := by subst hy3_61_23; subst hy3_61_15; subst hy3_61_7; subst hy6_45_5; subst hy6_45_13; subst hy6_45_21; exact hq75
  refine Gl.st (B := (T1.setTop (mkF m 82 L24 [(.long y3_61_23)]))) (fun t k => XS.ifYes X1.here hx rfl (pc0 := 75) (pc' := 81) rfl (hb hby d1_75) rfl ((if0 _ _).trans (flt (mt (lw_gt y3_61_23 (4294967295 : Int64)).mp hc75_28)).2.2.2) (by decide) (by decide) (XS.lloadN X1.here hx rfl (hb hby d1_81) (ldAt hL24 rfl) k)) ?_
  obtain ⟨fs, hr, hrun, hended, hW, hsame⟩ := X1.leave (v := some (.long y3_61_23)) (fun h => by rw [Bd.returns] at h; cases h)
  refine Gl.fin (X1.lreturnOut hx Bd.returns (hb hby d1_82) hr) hrun hended ⟨_, _, rfl, ?_, ⟨_, rfl⟩, hW, hsame.mono (by decide) (by decide)⟩
  show Q1k3 Z a1 p2 p3 cl_a1 el1 el2 el3 h0 n0 _ T1.heap _
  rw [eh1]
  exact ⟨(by subst hy3_61_23; subst hy3_61_15; subst hy3_61_7; subst hy6_45_5; subst hy6_45_13; subst hy6_45_21; rfl), N1, rfl⟩
theorem pd_1k4_0 : parseMethodDescriptor "(III)I" = some ⟨[.int, .int, .int], some .int⟩ := by decide +kernel
theorem ef_1k4 (m : MethodId) (a1 : Addr) (p2 : Int32) (p3 : Int32) : entryFrame m #[(.ref a1), (.int p2), (.int p3)] 7 = mkF m 0 #[.val (.ref a1), .val (.int p2), .val (.int p3), .unset, .unset, .unset, .unset] [] := by first | (simp [entryFrame, mkF, argsToLocals, Value.category]; done) | rfl
def Q1k4 (Z : State) (a1 : Addr) (p2 : Int32) (p3 : Int32) (cl_a1 : Cell) (el1 : Int32) (el2 : Int32) (el3 : Int32) (el4 : Int32) (h0 : Heap) (n0 : Nat) (v : Option Value) (h : Heap) (L : List Loc) : Prop := v = some (.long (((((((((0 : Int64) ||| (((((el1 &&& (255 : Int32))) &&& (127 : Int32)).toInt64) <<< ((0 : Int32) &&& 0x3f).toInt64))) ||| (((((el2 &&& (255 : Int32))) &&& (127 : Int32)).toInt64) <<< ((7 : Int32) &&& 0x3f).toInt64))) ||| (((((el3 &&& (255 : Int32))) &&& (127 : Int32)).toInt64) <<< ((14 : Int32) &&& 0x3f).toInt64))) ||| (((((el4 &&& (255 : Int32))) &&& (127 : Int32)).toInt64) <<< ((21 : Int32) &&& 0x3f).toInt64)))) ∧ Fr n0 L ∧ h = h0
set_option maxRecDepth 65536 in
set_option maxHeartbeats 40000000 in
theorem rm1k4 (l : Launch) (Z : State) (a0 : Array Value) (hw : ∀ d ∈ tables_1, d.before a0 Z = true) (ws : List Jvm.Cond) (a1 : Addr) (p2 : Int32) (p3 : Int32) (cl_a1 : Cell) (el1 : Int32) (el2 : Int32) (el3 : Int32) (el4 : Int32) (h0 : Heap) (n0 : Nat) (Z0 : n0 ≤ h0.size) (Ar_a1 : Arr Z h0 a1 cl_a1 .byte) (S_a1 : cl_a1.slots.size = ((10 : Int32)).toNatClampNeg) (P_a1 : ¬ (10 : Int32) < 0) (hr4_hr4_hq5 : ¬ ((((10 : Int32) ||| p2) ||| p3) < (0 : Int32))) (hr4_hr4_hq12 : ¬ (((10 : Int32) - p2) < p3)) (hq22 : ¬ ((0 : Int32) = p3)) (hin40_1 : ¬ ((p2 + (0 : Int32)) < 0 ∨ cl_a1.slots.size ≤ ((p2 + (0 : Int32))).toNatClampNeg)) (hat40_1 : cl_a1.slots[((p2 + (0 : Int32))).toNatClampNeg]? = some (.int el1)) (hq67 : ¬ (((el1 &&& (255 : Int32))) < (128 : Int32))) (hq22_2 : ¬ ((1 : Int32) = p3)) (hin40_2 : ¬ ((p2 + (1 : Int32)) < 0 ∨ cl_a1.slots.size ≤ ((p2 + (1 : Int32))).toNatClampNeg)) (hat40_2 : cl_a1.slots[((p2 + (1 : Int32))).toNatClampNeg]? = some (.int el2)) (hq67_2 : ¬ (((el2 &&& (255 : Int32))) < (128 : Int32))) (hq22_3 : ¬ ((2 : Int32) = p3)) (hin40_3 : ¬ ((p2 + (2 : Int32)) < 0 ∨ cl_a1.slots.size ≤ ((p2 + (2 : Int32))).toNatClampNeg)) (hat40_3 : cl_a1.slots[((p2 + (2 : Int32))).toNatClampNeg]? = some (.int el3)) (hq67_3 : ¬ (((el3 &&& (255 : Int32))) < (128 : Int32))) (hq22_4 : ¬ ((3 : Int32) = p3)) (hin40_4 : ¬ ((p2 + (3 : Int32)) < 0 ∨ cl_a1.slots.size ≤ ((p2 + (3 : Int32))).toNatClampNeg)) (hat40_4 : cl_a1.slots[((p2 + (3 : Int32))).toNatClampNeg]? = some (.int el4)) (hq67_4 : ((el4 &&& (255 : Int32))) < (128 : Int32)) (hq75 : ¬ ((4294967295 : Int64) < (((((((((0 : Int64) ||| (((((el1 &&& (255 : Int32))) &&& (127 : Int32)).toInt64) <<< ((0 : Int32) &&& 0x3f).toInt64))) ||| (((((el2 &&& (255 : Int32))) &&& (127 : Int32)).toInt64) <<< ((7 : Int32) &&& 0x3f).toInt64))) ||| (((((el3 &&& (255 : Int32))) &&& (127 : Int32)).toInt64) <<< ((14 : Int32) &&& 0x3f).toInt64))) ||| (((((el4 &&& (255 : Int32))) &&& (127 : Int32)).toInt64) <<< ((21 : Int32) &&& 0x3f).toInt64))))) :
    MetFree l (⟨"com/example/requeue/requeue/connection/SnappyBlock", "uncompressedLength", "([BII)J"⟩ : MethodName) (head1 (Jvm.Cond.code (⟨"com/example/requeue/requeue/connection/SnappyBlock", "uncompressedLength", "([BII)J"⟩ : MethodName) prog_8_method_4_code 7 (some .long) :: ws) ({ frames := 2, cells := 0, slots := 0, locals := 29 } : Room)) (fun a U => a = #[(.ref a1), (.int p2), (.int p3)] ∧ Z.Warmed39 U.vm ∧ U.heap = h0) (fun _ _ _ _ _ => True) (fun _ U o U' => ∃ v L, o = .returned v ∧ Q1k4 Z a1 p2 p3 cl_a1 el1 el2 el3 el4 h0 n0 v U'.heap L ∧ FrameEnd U o U' L ({ frames := 2, cells := 0, slots := 0, locals := 29 } : Room).cells ({ frames := 2, cells := 0, slots := 0, locals := 29 } : Room).slots) := by
  refine MetFree.of_bodySF (plainFor_of_name pn_1) hisR ?_
  intro p e s m args below meth c s₁ Bd hml0 hP hK
  obtain ⟨rfl, hZ, hh⟩ := hP
  have hx := Bd.exec
  have hby := Bd.bytes
  have hml : c.maxLocals = 7 := hml0
  have hown : s.vm.findClass "com/example/requeue/requeue/connection/SnappyBlock" = some m.cls := findClass_of_methodNamed Bd.named
  have hnm := (name_of_methodNamed Bd.named Bd.method).1
  have X0 : Stand p l e ({ frames := 2, cells := 0, slots := 0, locals := 29 } : Room) s m #[(.ref a1), (.int p2), (.int p3)] below meth c s₁ [] 0 0 := Stand.of_body Bd
  have e0 : s₁.heap = h0 := by rw [← hh, Bd.state]; rfl
  have N0 := Fr.nil n0
  have K0 : Keep h0 h0 [] := Keep.refl h0 _
  refine (show Gl p e below (fun o U' => ∃ v L, o = .returned v ∧ Q1k4 Z a1 p2 p3 cl_a1 el1 el2 el3 el4 h0 n0 v U'.heap L ∧ FrameEnd s o U' L ({ frames := 2, cells := 0, slots := 0, locals := 29 } : Room).cells ({ frames := 2, cells := 0, slots := 0, locals := 29 } : Room).slots) (s₁.setTop (entryFrame m #[(.ref a1), (.int p2), (.int p3)] 7)) from ?_)
  obtain ⟨L0, hL0⟩ : ∃ z : Array Slot, z = #[.val (.ref a1), .val (.int p2), .val (.int p3), .unset, .unset, .unset, .unset] := ⟨_, rfl⟩
  refine Gl.st (B := (s₁.setTop (mkF m 0 L0 []))) (fun t k => castTop (efAt hL0 (ef_1k4 m a1 p2 p3)) k) ?_
  refine Gl.st (B := (s₁.setTop (mkF m 4 L0 [(.int cl_a1.slots.size.toInt32), (.int p3), (.int p2)]))) (fun t k => XS.iloadN X0.here hx rfl (hb hby d1_0) (ldAt hL0 rfl) (XS.iloadN X0.here hx rfl (hb hby d1_1) (ldAt hL0 rfl) (XS.aloadN X0.here hx rfl (hb hby d1_2) (ldAt hL0 rfl) rfl (X0.arraylength hx (by rw [e0]; exact Ar_a1.1) (State.isArrayOf_alike hZ.alike Ar_a1.2.1) (g := (mkF m 3 L0 [(.ref a1), (.int p3), (.int p2)])) rfl rfl (hb hby d1_3) _ k)))) ?_
  refine Gl.cast (B := (s₁.setTop (mkF m 4 L0 [(.int (10 : Int32)), (.int p3), (.int p2)]))) (by rw [len_of S_a1 P_a1]) ?_
  obtain ⟨_, _, ⟨T1, L1q, k1, n1⟩, -, X1, ⟨Lc1, hQ1, l1, y1, z1⟩, st1⟩ := Jvm.LawKit.callS X0 hx (y := (⟨"java/util/Objects", "checkFromIndexSize", "(III)I"⟩ : MethodName)) hown (mvT hZ (tw hw 7 rfl)) (mvT hZ (tw hw 8 rfl)) (mvT hZ (tw hw 9 rfl)) (mvT hZ (tw hw 10 rfl)) (by decide) (backOf (W := 0) (rm2 l Z a0 hw [] p2 p3 (10 : Int32) h0 n0 Z0 hr4_hr4_hq5 hr4_hr4_hq12) hZ (tw hw 10 rfl) (tw hw 9 rfl) (by decide) (by decide)) (g := (mkF m 4 L0 [(.int (10 : Int32)), (.int p3), (.int p2)])) rfl (szAt hml hL0 rfl) (argsL := [(.int p2), (.int p3), (.int (10 : Int32))]) (rest := []) (lenOf pd_1k4_0 rfl) rfl (by show 2 * 0 + _ ≤ _; exact Nat.le_of_eq rfl) (hb hby d1_4) (fun _ _ => ⟨rfl, e0, (by decide : 0 + 0 ≤ _), (by decide : 0 + 0 ≤ _)⟩)
  dsimp only [Pt.U, Pt.locs, Pt.cells, Pt.slots] at X1 l1 y1 z1 st1 hQ1
  subst l1 y1 z1
  obtain ⟨rfl, N1q, eh1⟩ := hQ1
  have N1 := Fr.app N0 N1q
  refine Gl.st (B := (T1.setTop (mkF m 7 L0 [(.int p2)]))) (fun t k => st1 t k) ?_
  obtain ⟨L2, hL2⟩ : ∃ z : Array Slot, z = #[.val (.ref a1), .val (.int p2), .val (.int p3), .val (.long (0 : Int64)), .second, .unset, .unset] := ⟨_, rfl⟩
  obtain ⟨L3, hL3⟩ : ∃ z : Array Slot, z = #[.val (.ref a1), .val (.int p2), .val (.int p3), .val (.long (0 : Int64)), .second, .val (.int (0 : Int32)), .unset] := ⟨_, rfl⟩
  refine Gl.st (B := (T1.setTop (mkF m 15 L3 [(.int (0 : Int32))]))) (fun t k => XS.pop X1.here hx rfl (hb hby d1_7) rfl rfl (XS.lconst X1.here hx rfl (hb hby d1_8) (XS.lstoreN X1.here hx rfl (hb hby d1_9) rfl (l' := L2) (stAt hL0 hL2 rfl rfl) (XS.iconst X1.here hx rfl (hb hby d1_10) (XS.istore X1.here hx rfl (hb hby d1_11) rfl (l' := L3) (stAt hL2 hL3 rfl rfl) (XS.iload X1.here hx rfl (hb hby d1_13) (ldAt hL3 rfl) k)))))) ?_
  refine Gl.st (B := (T1.setTop (mkF m 36 L3 [(.ref a1)]))) (fun t k => XS.iconst X1.here hx rfl (hb hby d1_15) (XS.icmpNo X1.here hx rfl (hb hby d1_16) rfl (by decide) (XS.iload X1.here hx rfl (hb hby d1_19) (ldAt hL3 rfl) (XS.iloadN X1.here hx rfl (hb hby d1_21) (ldAt hL3 rfl) (XS.icmpYes X1.here hx rfl (pc0 := 22) (pc' := 35) rfl (hb hby d1_22) rfl (feq hq22).2 (by decide) (by decide) (XS.aloadN X1.here hx rfl (hb hby d1_35) (ldAt hL3 rfl) rfl k)))))) ?_
  refine Gl.st (B := (T1.setTop (mkF m 45 L3 [(.int (el1 &&& (255 : Int32)))]))) (fun t k => XS.iloadN X1.here hx rfl (hb hby d1_36) (ldAt hL3 rfl) (XS.iload X1.here hx rfl (hb hby d1_37) (ldAt hL3 rfl) (XS.iadd X1.here hx rfl (hb hby d1_39) rfl (X1.baloadBytes hx (j := (p2 + (0 : Int32))) (v := (.int el1)) (by rw [eh1]; exact Ar_a1.1) (State.isArrayOf_alike hZ.alike Ar_a1.2.1) Ar_a1.2.2 hin40_1 hat40_1 (g := (mkF m 40 L3 [(.int (p2 + (0 : Int32))), (.ref a1)])) rfl rfl (hb hby d1_40) _ (XS.sipush X1.here hx rfl (hb hby d1_41) (XS.iand X1.here hx rfl (hb hby d1_44) rfl k)))))) ?_
  obtain ⟨y6_45_5, hy6_45_5⟩ : ∃ z : Int32, z = (el1 &&& (255 : Int32)) := ⟨_, rfl⟩
  refine Gl.cast (B := (T1.setTop (mkF m 45 L3 [(.int y6_45_5)]))) (by rw [hy6_45_5]) ?_
  obtain ⟨L6, hL6⟩ : ∃ z : Array Slot, z = #[.val (.ref a1), .val (.int p2), .val (.int p3), .val (.long (0 : Int64)), .second, .val (.int (0 : Int32)), .val (.int y6_45_5)] := ⟨_, rfl⟩
  refine Gl.st (B := (T1.setTop (mkF m 54 L6 [(.long ((y6_45_5 &&& (127 : Int32)).toInt64)), (.long (0 : Int64))]))) (fun t k => XS.istore X1.here hx rfl (hb hby d1_45) rfl (l' := L6) (stAt hL3 hL6 rfl rfl) (XS.lloadN X1.here hx rfl (hb hby d1_47) (ldAt hL6 rfl) (XS.iload X1.here hx rfl (hb hby d1_48) (ldAt hL6 rfl) (XS.bipush X1.here hx rfl (hb hby d1_50) (XS.iand X1.here hx rfl (hb hby d1_52) rfl (XS.i2l X1.here hx rfl (hb hby d1_53) rfl k)))))) ?_
  refine Gl.st (B := (T1.setTop (mkF m 61 L6 [(.long ((0 : Int64) ||| (((y6_45_5 &&& (127 : Int32)).toInt64) <<< ((0 : Int32) &&& 0x3f).toInt64)))]))) (fun t k => XS.bipush X1.here hx rfl (hb hby d1_54) (XS.iload X1.here hx rfl (hb hby d1_56) (ldAt hL6 rfl) (XS.imul X1.here hx rfl (hb hby d1_58) rfl (XS.lshl X1.here hx rfl (hb hby d1_59) rfl (XS.lor X1.here hx rfl (hb hby d1_60) rfl k))))) ?_
  obtain ⟨y3_61_7, hy3_61_7⟩ : ∃ z : Int64, z = ((0 : Int64) ||| (((y6_45_5 &&& (127 : Int32)).toInt64) <<< ((0 : Int32) &&& 0x3f).toInt64)) := ⟨_, rfl⟩
  refine Gl.cast (B := (T1.setTop (mkF m 61 L6 [(.long y3_61_7)]))) (by rw [hy3_61_7]) ?_
  obtain ⟨L8, hL8⟩ : ∃ z : Array Slot, z = #[.val (.ref a1), .val (.int p2), .val (.int p3), .val (.long y3_61_7), .second, .val (.int (0 : Int32)), .val (.int y6_45_5)] := ⟨_, rfl⟩
  refine Gl.st (B := (T1.setTop (mkF m 67 L8 [(.int (128 : Int32)), (.int y6_45_5)]))) (fun t k => XS.lstoreN X1.here hx rfl (hb hby d1_61) rfl (l' := L8) (stAt hL6 hL8 rfl rfl) (XS.iload X1.here hx rfl (hb hby d1_62) (ldAt hL8 rfl) (XS.sipush X1.here hx rfl (hb hby d1_64) k))) ?_
  have hc67_10 : ¬ (y6_45_5 < (128 : Int32)) := by subst hy6_45_5; exact hq67
  obtain ⟨L11, hL11⟩ : ∃ z : Array Slot, z = #[.val (.ref a1), .val (.int p2), .val (.int p3), .val (.long y3_61_7), .second, .val (.int (1 : Int32)), .val (.int y6_45_5)] := ⟨_, rfl⟩
  refine Gl.st (B := (T1.setTop (mkF m 19 L11 []))) (fun t k => XS.icmpYes X1.here hx rfl (pc0 := 67) (pc' := 83) rfl (hb hby d1_67) rfl (flt hc67_10).2.1 (by decide) (by decide) (XS.iinc X1.here hx rfl (hb hby d1_83) (ldAt hL8 rfl) (l' := L11) (stAt' hL8 hL11 rfl rfl) (XS.goto X1.here hx rfl (pc0 := 86) (pc' := 13) rfl (hb hby d1_86) (by decide) (by decide) (XS.iload X1.here hx rfl (hb hby d1_13) (ldAt hL11 rfl) (XS.iconst X1.here hx rfl (hb hby d1_15) (XS.icmpNo X1.here hx rfl (hb hby d1_16) rfl (by decide) k)))))) ?_
  refine Gl.st (B := (T1.setTop (mkF m 39 L11 [(.int (1 : Int32)), (.int p2), (.ref a1)]))) (fun t k => XS.iload X1.here hx rfl (hb hby d1_19) (ldAt hL11 rfl) (XS.iloadN X1.here hx rfl (hb hby d1_21) (ldAt hL11 rfl) (XS.icmpYes X1.here hx rfl (pc0 := 22) (pc' := 35) rfl (hb hby d1_22) rfl (feq hq22_2).2 (by decide) (by decide) (XS.aloadN X1.here hx rfl (hb hby d1_35) (ldAt hL11 rfl) rfl (XS.iloadN X1.here hx rfl (hb hby d1_36) (ldAt hL11 rfl) (XS.iload X1.here hx rfl (hb hby d1_37) (ldAt hL11 rfl) k)))))) ?_
  refine Gl.st (B := (T1.setTop (mkF m 45 L11 [(.int (el2 &&& (255 : Int32)))]))) (fun t k => XS.iadd X1.here hx rfl (hb hby d1_39) rfl (X1.baloadBytes hx (j := (p2 + (1 : Int32))) (v := (.int el2)) (by rw [eh1]; exact Ar_a1.1) (State.isArrayOf_alike hZ.alike Ar_a1.2.1) Ar_a1.2.2 hin40_2 hat40_2 (g := (mkF m 40 L11 [(.int (p2 + (1 : Int32))), (.ref a1)])) rfl rfl (hb hby d1_40) _ (XS.sipush X1.here hx rfl (hb hby d1_41) (XS.iand X1.here hx rfl (hb hby d1_44) rfl k)))) ?_
  obtain ⟨y6_45_13, hy6_45_13⟩ : ∃ z : Int32, z = (el2 &&& (255 : Int32)) := ⟨_, rfl⟩
  refine Gl.cast (B := (T1.setTop (mkF m 45 L11 [(.int y6_45_13)]))) (by rw [hy6_45_13]) ?_
  obtain ⟨L14, hL14⟩ : ∃ z : Array Slot, z = #[.val (.ref a1), .val (.int p2), .val (.int p3), .val (.long y3_61_7), .second, .val (.int (1 : Int32)), .val (.int y6_45_13)] := ⟨_, rfl⟩
  refine Gl.st (B := (T1.setTop (mkF m 54 L14 [(.long ((y6_45_13 &&& (127 : Int32)).toInt64)), (.long y3_61_7)]))) (fun t k => XS.istore X1.here hx rfl (hb hby d1_45) rfl (l' := L14) (stAt hL11 hL14 rfl rfl) (XS.lloadN X1.here hx rfl (hb hby d1_47) (ldAt hL14 rfl) (XS.iload X1.here hx rfl (hb hby d1_48) (ldAt hL14 rfl) (XS.bipush X1.here hx rfl (hb hby d1_50) (XS.iand X1.here hx rfl (hb hby d1_52) rfl (XS.i2l X1.here hx rfl (hb hby d1_53) rfl k)))))) ?_
  refine Gl.st (B := (T1.setTop (mkF m 61 L14 [(.long (y3_61_7 ||| (((y6_45_13 &&& (127 : Int32)).toInt64) <<< ((7 : Int32) &&& 0x3f).toInt64)))]))) (fun t k => XS.bipush X1.here hx rfl (hb hby d1_54) (XS.iload X1.here hx rfl (hb hby d1_56) (ldAt hL14 rfl) (XS.imul X1.here hx rfl (hb hby d1_58) rfl (XS.lshl X1.here hx rfl (hb hby d1_59) rfl (XS.lor X1.here hx rfl (hb hby d1_60) rfl k))))) ?_
  obtain ⟨y3_61_15, hy3_61_15⟩ : ∃ z : Int64, z = (y3_61_7 ||| (((y6_45_13 &&& (127 : Int32)).toInt64) <<< ((7 : Int32) &&& 0x3f).toInt64)) := ⟨_, rfl⟩
  refine Gl.cast (B := (T1.setTop (mkF m 61 L14 [(.long y3_61_15)]))) (by rw [hy3_61_15]) ?_
  obtain ⟨L16, hL16⟩ : ∃ z : Array Slot, z = #[.val (.ref a1), .val (.int p2), .val (.int p3), .val (.long y3_61_15), .second, .val (.int (1 : Int32)), .val (.int y6_45_13)] := ⟨_, rfl⟩
  refine Gl.st (B := (T1.setTop (mkF m 67 L16 [(.int (128 : Int32)), (.int y6_45_13)]))) (fun t k => XS.lstoreN X1.here hx rfl (hb hby d1_61) rfl (l' := L16) (stAt hL14 hL16 rfl rfl) (XS.iload X1.here hx rfl (hb hby d1_62) (ldAt hL16 rfl) (XS.sipush X1.here hx rfl (hb hby d1_64) k))) ?_
  have hc67_18 : ¬ (y6_45_13 < (128 : Int32)) := by subst hy6_45_13; exact hq67_2
  obtain ⟨L19, hL19⟩ : ∃ z : Array Slot, z = #[.val (.ref a1), .val (.int p2), .val (.int p3), .val (.long y3_61_15), .second, .val (.int (2 : Int32)), .val (.int y6_45_13)] := ⟨_, rfl⟩
  refine Gl.st (B := (T1.setTop (mkF m 19 L19 []))) (fun t k => XS.icmpYes X1.here hx rfl (pc0 := 67) (pc' := 83) rfl (hb hby d1_67) rfl (flt hc67_18).2.1 (by decide) (by decide) (XS.iinc X1.here hx rfl (hb hby d1_83) (ldAt hL16 rfl) (l' := L19) (stAt' hL16 hL19 rfl rfl) (XS.goto X1.here hx rfl (pc0 := 86) (pc' := 13) rfl (hb hby d1_86) (by decide) (by decide) (XS.iload X1.here hx rfl (hb hby d1_13) (ldAt hL19 rfl) (XS.iconst X1.here hx rfl (hb hby d1_15) (XS.icmpNo X1.here hx rfl (hb hby d1_16) rfl (by decide) k)))))) ?_
  refine Gl.st (B := (T1.setTop (mkF m 39 L19 [(.int (2 : Int32)), (.int p2), (.ref a1)]))) (fun t k => XS.iload X1.here hx rfl (hb hby d1_19) (ldAt hL19 rfl) (XS.iloadN X1.here hx rfl (hb hby d1_21) (ldAt hL19 rfl) (XS.icmpYes X1.here hx rfl (pc0 := 22) (pc' := 35) rfl (hb hby d1_22) rfl (feq hq22_3).2 (by decide) (by decide) (XS.aloadN X1.here hx rfl (hb hby d1_35) (ldAt hL19 rfl) rfl (XS.iloadN X1.here hx rfl (hb hby d1_36) (ldAt hL19 rfl) (XS.iload X1.here hx rfl (hb hby d1_37) (ldAt hL19 rfl) k)))))) ?_
  refine Gl.st (B := (T1.setTop (mkF m 45 L19 [(.int (el3 &&& (255 : Int32)))]))) (fun t k => XS.iadd X1.here hx rfl (hb hby d1_39) rfl (X1.baloadBytes hx (j := (p2 + (2 : Int32))) (v := (.int el3)) (by rw [eh1]; exact Ar_a1.1) (State.isArrayOf_alike hZ.alike Ar_a1.2.1) Ar_a1.2.2 hin40_3 hat40_3 (g := (mkF m 40 L19 [(.int (p2 + (2 : Int32))), (.ref a1)])) rfl rfl (hb hby d1_40) _ (XS.sipush X1.here hx rfl (hb hby d1_41) (XS.iand X1.here hx rfl (hb hby d1_44) rfl k)))) ?_
  obtain ⟨y6_45_21, hy6_45_21⟩ : ∃ z : Int32, z = (el3 &&& (255 : Int32)) := ⟨_, rfl⟩
  refine Gl.cast (B := (T1.setTop (mkF m 45 L19 [(.int y6_45_21)]))) (by rw [hy6_45_21]) ?_
  obtain ⟨L22, hL22⟩ : ∃ z : Array Slot, z = #[.val (.ref a1), .val (.int p2), .val (.int p3), .val (.long y3_61_15), .second, .val (.int (2 : Int32)), .val (.int y6_45_21)] := ⟨_, rfl⟩
  refine Gl.st (B := (T1.setTop (mkF m 54 L22 [(.long ((y6_45_21 &&& (127 : Int32)).toInt64)), (.long y3_61_15)]))) (fun t k => XS.istore X1.here hx rfl (hb hby d1_45) rfl (l' := L22) (stAt hL19 hL22 rfl rfl) (XS.lloadN X1.here hx rfl (hb hby d1_47) (ldAt hL22 rfl) (XS.iload X1.here hx rfl (hb hby d1_48) (ldAt hL22 rfl) (XS.bipush X1.here hx rfl (hb hby d1_50) (XS.iand X1.here hx rfl (hb hby d1_52) rfl (XS.i2l X1.here hx rfl (hb hby d1_53) rfl k)))))) ?_
  refine Gl.st (B := (T1.setTop (mkF m 61 L22 [(.long (y3_61_15 ||| (((y6_45_21 &&& (127 : Int32)).toInt64) <<< ((14 : Int32) &&& 0x3f).toInt64)))]))) (fun t k => XS.bipush X1.here hx rfl (hb hby d1_54) (XS.iload X1.here hx rfl (hb hby d1_56) (ldAt hL22 rfl) (XS.imul X1.here hx rfl (hb hby d1_58) rfl (XS.lshl X1.here hx rfl (hb hby d1_59) rfl (XS.lor X1.here hx rfl (hb hby d1_60) rfl k))))) ?_
  obtain ⟨y3_61_23, hy3_61_23⟩ : ∃ z : Int64, z = (y3_61_15 ||| (((y6_45_21 &&& (127 : Int32)).toInt64) <<< ((14 : Int32) &&& 0x3f).toInt64)) := ⟨_, rfl⟩
  refine Gl.cast (B := (T1.setTop (mkF m 61 L22 [(.long y3_61_23)]))) (by rw [hy3_61_23]) ?_
  obtain ⟨L24, hL24⟩ : ∃ z : Array Slot, z = #[.val (.ref a1), .val (.int p2), .val (.int p3), .val (.long y3_61_23), .second, .val (.int (2 : Int32)), .val (.int y6_45_21)] := ⟨_, rfl⟩
  refine Gl.st (B := (T1.setTop (mkF m 67 L24 [(.int (128 : Int32)), (.int y6_45_21)]))) (fun t k => XS.lstoreN X1.here hx rfl (hb hby d1_61) rfl (l' := L24) (stAt hL22 hL24 rfl rfl) (XS.iload X1.here hx rfl (hb hby d1_62) (ldAt hL24 rfl) (XS.sipush X1.here hx rfl (hb hby d1_64) k))) ?_
  have hc67_26 : ¬ (y6_45_21 < (128 : Int32)) := by subst hy6_45_21; exact hq67_3
  obtain ⟨L27, hL27⟩ : ∃ z : Array Slot, z = #[.val (.ref a1), .val (.int p2), .val (.int p3), .val (.long y3_61_23), .second, .val (.int (3 : Int32)), .val (.int y6_45_21)] := ⟨_, rfl⟩
  refine Gl.st (B := (T1.setTop (mkF m 19 L27 []))) (fun t k => XS.icmpYes X1.here hx rfl (pc0 := 67) (pc' := 83) rfl (hb hby d1_67) rfl (flt hc67_26).2.1 (by decide) (by decide) (XS.iinc X1.here hx rfl (hb hby d1_83) (ldAt hL24 rfl) (l' := L27) (stAt' hL24 hL27 rfl rfl) (XS.goto X1.here hx rfl (pc0 := 86) (pc' := 13) rfl (hb hby d1_86) (by decide) (by decide) (XS.iload X1.here hx rfl (hb hby d1_13) (ldAt hL27 rfl) (XS.iconst X1.here hx rfl (hb hby d1_15) (XS.icmpNo X1.here hx rfl (hb hby d1_16) rfl (by decide) k)))))) ?_
  refine Gl.st (B := (T1.setTop (mkF m 39 L27 [(.int (3 : Int32)), (.int p2), (.ref a1)]))) (fun t k => XS.iload X1.here hx rfl (hb hby d1_19) (ldAt hL27 rfl) (XS.iloadN X1.here hx rfl (hb hby d1_21) (ldAt hL27 rfl) (XS.icmpYes X1.here hx rfl (pc0 := 22) (pc' := 35) rfl (hb hby d1_22) rfl (feq hq22_4).2 (by decide) (by decide) (XS.aloadN X1.here hx rfl (hb hby d1_35) (ldAt hL27 rfl) rfl (XS.iloadN X1.here hx rfl (hb hby d1_36) (ldAt hL27 rfl) (XS.iload X1.here hx rfl (hb hby d1_37) (ldAt hL27 rfl) k)))))) ?_
  refine Gl.st (B := (T1.setTop (mkF m 45 L27 [(.int (el4 &&& (255 : Int32)))]))) (fun t k => XS.iadd X1.here hx rfl (hb hby d1_39) rfl (X1.baloadBytes hx (j := (p2 + (3 : Int32))) (v := (.int el4)) (by rw [eh1]; exact Ar_a1.1) (State.isArrayOf_alike hZ.alike Ar_a1.2.1) Ar_a1.2.2 hin40_4 hat40_4 (g := (mkF m 40 L27 [(.int (p2 + (3 : Int32))), (.ref a1)])) rfl rfl (hb hby d1_40) _ (XS.sipush X1.here hx rfl (hb hby d1_41) (XS.iand X1.here hx rfl (hb hby d1_44) rfl k)))) ?_
  obtain ⟨y6_45_29, hy6_45_29⟩ : ∃ z : Int32, z = (el4 &&& (255 : Int32)) := ⟨_, rfl⟩
  refine Gl.cast (B := (T1.setTop (mkF m 45 L27 [(.int y6_45_29)]))) (by rw [hy6_45_29]) ?_
  obtain ⟨L30, hL30⟩ : ∃ z : Array Slot, z = #[.val (.ref a1), .val (.int p2), .val (.int p3), .val (.long y3_61_23), .second, .val (.int (3 : Int32)), .val (.int y6_45_29)] := ⟨_, rfl⟩
  refine Gl.st (B := (T1.setTop (mkF m 54 L30 [(.long ((y6_45_29 &&& (127 : Int32)).toInt64)), (.long y3_61_23)]))) (fun t k => XS.istore X1.here hx rfl (hb hby d1_45) rfl (l' := L30) (stAt hL27 hL30 rfl rfl) (XS.lloadN X1.here hx rfl (hb hby d1_47) (ldAt hL30 rfl) (XS.iload X1.here hx rfl (hb hby d1_48) (ldAt hL30 rfl) (XS.bipush X1.here hx rfl (hb hby d1_50) (XS.iand X1.here hx rfl (hb hby d1_52) rfl (XS.i2l X1.here hx rfl (hb hby d1_53) rfl k)))))) ?_
  refine Gl.st (B := (T1.setTop (mkF m 61 L30 [(.long (y3_61_23 ||| (((y6_45_29 &&& (127 : Int32)).toInt64) <<< ((21 : Int32) &&& 0x3f).toInt64)))]))) (fun t k => XS.bipush X1.here hx rfl (hb hby d1_54) (XS.iload X1.here hx rfl (hb hby d1_56) (ldAt hL30 rfl) (XS.imul X1.here hx rfl (hb hby d1_58) rfl (XS.lshl X1.here hx rfl (hb hby d1_59) rfl (XS.lor X1.here hx rfl (hb hby d1_60) rfl k))))) ?_
  obtain ⟨y3_61_31, hy3_61_31⟩ : ∃ z : Int64, z = (y3_61_23 ||| (((y6_45_29 &&& (127 : Int32)).toInt64) <<< ((21 : Int32) &&& 0x3f).toInt64)) := ⟨_, rfl⟩
  refine Gl.cast (B := (T1.setTop (mkF m 61 L30 [(.long y3_61_31)]))) (by rw [hy3_61_31]) ?_
  obtain ⟨L32, hL32⟩ : ∃ z : Array Slot, z = #[.val (.ref a1), .val (.int p2), .val (.int p3), .val (.long y3_61_31), .second, .val (.int (3 : Int32)), .val (.int y6_45_29)] := ⟨_, rfl⟩
  refine Gl.st (B := (T1.setTop (mkF m 67 L32 [(.int (128 : Int32)), (.int y6_45_29)]))) (fun t k => XS.lstoreN X1.here hx rfl (hb hby d1_61) rfl (l' := L32) (stAt hL30 hL32 rfl rfl) (XS.iload X1.here hx rfl (hb hby d1_62) (ldAt hL32 rfl) (XS.sipush X1.here hx rfl (hb hby d1_64) k))) ?_
  have hc67_34 : y6_45_29 < (128 : Int32) := by subst hy6_45_29; exact hq67_4
  refine Gl.st (B := (T1.setTop (mkF m 75 L32 [(.int (lcmpW y3_61_31 (4294967295 : Int64)))]))) (fun t k => XS.icmpNo X1.here hx rfl (hb hby d1_67) rfl (tlt hc67_34).2.1 (XS.lloadN X1.here hx rfl (hb hby d1_70) (ldAt hL32 rfl) (X1.ldc2Long hx hown (mvT hZ (tw hw 15 rfl)) (g := (mkF m 71 L32 [(.long y3_61_31)])) rfl (hb hby d1_71) _ (XS.lcmp X1.here hx rfl (hb hby d1_74) rfl k)))) ?_
  have hc75_36 : ¬ ((4294967295 : Int64) < y3_61_31) := by subst hy3_61_31; subst hy3_61_23; subst hy3_61_15; subst hy3_61_7; subst hy6_45_5; subst hy6_45_13; subst hy6_45_21; subst hy6_45_29; exact hq75
  refine Gl.st (B := (T1.setTop (mkF m 82 L32 [(.long y3_61_31)]))) (fun t k => XS.ifYes X1.here hx rfl (pc0 := 75) (pc' := 81) rfl (hb hby d1_75) rfl ((if0 _ _).trans (flt (mt (lw_gt y3_61_31 (4294967295 : Int64)).mp hc75_36)).2.2.2) (by decide) (by decide) (XS.lloadN X1.here hx rfl (hb hby d1_81) (ldAt hL32 rfl) k)) ?_
  obtain ⟨fs, hr, hrun, hended, hW, hsame⟩ := X1.leave (v := some (.long y3_61_31)) (fun h => by rw [Bd.returns] at h; cases h)
  refine Gl.fin (X1.lreturnOut hx Bd.returns (hb hby d1_82) hr) hrun hended ⟨_, _, rfl, ?_, ⟨_, rfl⟩, hW, hsame.mono (by decide) (by decide)⟩
  show Q1k4 Z a1 p2 p3 cl_a1 el1 el2 el3 el4 h0 n0 _ T1.heap _
  rw [eh1]
  exact ⟨(by subst hy3_61_31; subst hy3_61_23; subst hy3_61_15; subst hy3_61_7; subst hy6_45_5; subst hy6_45_13; subst hy6_45_21; subst hy6_45_29; rfl), N1, rfl⟩
theorem pd_1k5_0 : parseMethodDescriptor "(III)I" = some ⟨[.int, .int, .int], some .int⟩ := by decide +kernel
theorem ef_1k5 (m : MethodId) (a1 : Addr) (p2 : Int32) (p3 : Int32) : entryFrame m #[(.ref a1), (.int p2), (.int p3)] 7 = mkF m 0 #[.val (.ref a1), .val (.int p2), .val (.int p3), .unset, .unset, .unset, .unset] [] := by first | (simp [entryFrame, mkF, argsToLocals, Value.category]; done) | rfl
def Q1k5 (Z : State) (a1 : Addr) (p2 : Int32) (p3 : Int32) (cl_a1 : Cell) (el1 : Int32) (el2 : Int32) (el3 : Int32) (el4 : Int32) (el5 : Int32) (h0 : Heap) (n0 : Nat) (v : Option Value) (h : Heap) (L : List Loc) : Prop := v = some (.long (((((((((((0 : Int64) ||| (((((el1 &&& (255 : Int32))) &&& (127 : Int32)).toInt64) <<< ((0 : Int32) &&& 0x3f).toInt64))) ||| (((((el2 &&& (255 : Int32))) &&& (127 : Int32)).toInt64) <<< ((7 : Int32) &&& 0x3f).toInt64))) ||| (((((el3 &&& (255 : Int32))) &&& (127 : Int32)).toInt64) <<< ((14 : Int32) &&& 0x3f).toInt64))) ||| (((((el4 &&& (255 : Int32))) &&& (127 : Int32)).toInt64) <<< ((21 : Int32) &&& 0x3f).toInt64))) ||| (((((el5 &&& (255 : Int32))) &&& (127 : Int32)).toInt64) <<< ((28 : Int32) &&& 0x3f).toInt64)))) ∧ Fr n0 L ∧ h = h0
set_option maxRecDepth 65536 in
set_option maxHeartbeats 40000000 in
theorem rm1k5 (l : Launch) (Z : State) (a0 : Array Value) (hw : ∀ d ∈ tables_1, d.before a0 Z = true) (ws : List Jvm.Cond) (a1 : Addr) (p2 : Int32) (p3 : Int32) (cl_a1 : Cell) (el1 : Int32) (el2 : Int32) (el3 : Int32) (el4 : Int32) (el5 : Int32) (h0 : Heap) (n0 : Nat) (Z0 : n0 ≤ h0.size) (Ar_a1 : Arr Z h0 a1 cl_a1 .byte) (S_a1 : cl_a1.slots.size = ((10 : Int32)).toNatClampNeg) (P_a1 : ¬ (10 : Int32) < 0) (hr4_hr4_hq5 : ¬ ((((10 : Int32) ||| p2) ||| p3) < (0 : Int32))) (hr4_hr4_hq12 : ¬ (((10 : Int32) - p2) < p3)) (hq22 : ¬ ((0 : Int32) = p3)) (hin40_1 : ¬ ((p2 + (0 : Int32)) < 0 ∨ cl_a1.slots.size ≤ ((p2 + (0 : Int32))).toNatClampNeg)) (hat40_1 : cl_a1.slots[((p2 + (0 : Int32))).toNatClampNeg]? = some (.int el1)) (hq67 : ¬ (((el1 &&& (255 : Int32))) < (128 : Int32))) (hq22_2 : ¬ ((1 : Int32) = p3)) (hin40_2 : ¬ ((p2 + (1 : Int32)) < 0 ∨ cl_a1.slots.size ≤ ((p2 + (1 : Int32))).toNatClampNeg)) (hat40_2 : cl_a1.slots[((p2 + (1 : Int32))).toNatClampNeg]? = some (.int el2)) (hq67_2 : ¬ (((el2 &&& (255 : Int32))) < (128 : Int32))) (hq22_3 : ¬ ((2 : Int32) = p3)) (hin40_3 : ¬ ((p2 + (2 : Int32)) < 0 ∨ cl_a1.slots.size ≤ ((p2 + (2 : Int32))).toNatClampNeg)) (hat40_3 : cl_a1.slots[((p2 + (2 : Int32))).toNatClampNeg]? = some (.int el3)) (hq67_3 : ¬ (((el3 &&& (255 : Int32))) < (128 : Int32))) (hq22_4 : ¬ ((3 : Int32) = p3)) (hin40_4 : ¬ ((p2 + (3 : Int32)) < 0 ∨ cl_a1.slots.size ≤ ((p2 + (3 : Int32))).toNatClampNeg)) (hat40_4 : cl_a1.slots[((p2 + (3 : Int32))).toNatClampNeg]? = some (.int el4)) (hq67_4 : ¬ (((el4 &&& (255 : Int32))) < (128 : Int32))) (hq22_5 : ¬ ((4 : Int32) = p3)) (hin40_5 : ¬ ((p2 + (4 : Int32)) < 0 ∨ cl_a1.slots.size ≤ ((p2 + (4 : Int32))).toNatClampNeg)) (hat40_5 : cl_a1.slots[((p2 + (4 : Int32))).toNatClampNeg]? = some (.int el5)) (hq67_5 : ((el5 &&& (255 : Int32))) < (128 : Int32)) (hq75 : ¬ ((4294967295 : Int64) < (((((((((((0 : Int64) ||| (((((el1 &&& (255 : Int32))) &&& (127 : Int32)).toInt64) <<< ((0 : Int32) &&& 0x3f).toInt64))) ||| (((((el2 &&& (255 : Int32))) &&& (127 : Int32)).toInt64) <<< ((7 : Int32) &&& 0x3f).toInt64))) ||| (((((el3 &&& (255 : Int32))) &&& (127 : Int32)).toInt64) <<< ((14 : Int32) &&& 0x3f).toInt64))) ||| (((((el4 &&& (255 : Int32))) &&& (127 : Int32)).toInt64) <<< ((21 : Int32) &&& 0x3f).toInt64))) ||| (((((el5 &&& (255 : Int32))) &&& (127 : Int32)).toInt64) <<< ((28 : Int32) &&& 0x3f).toInt64))))) :
    MetFree l (⟨"com/example/requeue/requeue/connection/SnappyBlock", "uncompressedLength", "([BII)J"⟩ : MethodName) (head1 (Jvm.Cond.code (⟨"com/example/requeue/requeue/connection/SnappyBlock", "uncompressedLength", "([BII)J"⟩ : MethodName) prog_8_method_4_code 7 (some .long) :: ws) ({ frames := 2, cells := 0, slots := 0, locals := 29 } : Room)) (fun a U => a = #[(.ref a1), (.int p2), (.int p3)] ∧ Z.Warmed39 U.vm ∧ U.heap = h0) (fun _ _ _ _ _ => True) (fun _ U o U' => ∃ v L, o = .returned v ∧ Q1k5 Z a1 p2 p3 cl_a1 el1 el2 el3 el4 el5 h0 n0 v U'.heap L ∧ FrameEnd U o U' L ({ frames := 2, cells := 0, slots := 0, locals := 29 } : Room).cells ({ frames := 2, cells := 0, slots := 0, locals := 29 } : Room).slots) := by
  refine MetFree.of_bodySF (plainFor_of_name pn_1) hisR ?_
  intro p e s m args below meth c s₁ Bd hml0 hP hK
  obtain ⟨rfl, hZ, hh⟩ := hP
  have hx := Bd.exec
  have hby := Bd.bytes
  have hml : c.maxLocals = 7 := hml0
  have hown : s.vm.findClass "com/example/requeue/requeue/connection/SnappyBlock" = some m.cls := findClass_of_methodNamed Bd.named
  have hnm := (name_of_methodNamed Bd.named Bd.method).1
  have X0 : Stand p l e ({ frames := 2, cells := 0, slots := 0, locals := 29 } : Room) s m #[(.ref a1), (.int p2), (.int p3)] below meth c s₁ [] 0 0 := Stand.of_body Bd
  have e0 : s₁.heap = h0 := by rw [← hh, Bd.state]; rfl
  have N0 := Fr.nil n0
  have K0 : Keep h0 h0 [] := Keep.refl h0 _
  refine (show Gl p e below (fun o U' => ∃ v L, o = .returned v ∧ Q1k5 Z a1 p2 p3 cl_a1 el1 el2 el3 el4 el5 h0 n0 v U'.heap L ∧ FrameEnd s o U' L ({ frames := 2, cells := 0, slots := 0, locals := 29 } : Room).cells ({ frames := 2, cells := 0, slots := 0, locals := 29 } : Room).slots) (s₁.setTop (entryFrame m #[(.ref a1), (.int p2), (.int p3)] 7)) from ?_)
  obtain ⟨L0, hL0⟩ : ∃ z : Array Slot, z = #[.val (.ref a1), .val (.int p2), .val (.int p3), .unset, .unset, .unset, .unset] := ⟨_, rfl⟩
  refine Gl.st (B := (s₁.setTop (mkF m 0 L0 []))) (fun t k => castTop (efAt hL0 (ef_1k5 m a1 p2 p3)) k) ?_
  refine Gl.st (B := (s₁.setTop (mkF m 4 L0 [(.int cl_a1.slots.size.toInt32), (.int p3), (.int p2)]))) (fun t k => XS.iloadN X0.here hx rfl (hb hby d1_0) (ldAt hL0 rfl) (XS.iloadN X0.here hx rfl (hb hby d1_1) (ldAt hL0 rfl) (XS.aloadN X0.here hx rfl (hb hby d1_2) (ldAt hL0 rfl) rfl (X0.arraylength hx (by rw [e0]; exact Ar_a1.1) (State.isArrayOf_alike hZ.alike Ar_a1.2.1) (g := (mkF m 3 L0 [(.ref a1), (.int p3), (.int p2)])) rfl rfl (hb hby d1_3) _ k)))) ?_
  refine Gl.cast (B := (s₁.setTop (mkF m 4 L0 [(.int (10 : Int32)), (.int p3), (.int p2)]))) (by rw [len_of S_a1 P_a1]) ?_
  obtain ⟨_, _, ⟨T1, L1q, k1, n1⟩, -, X1, ⟨Lc1, hQ1, l1, y1, z1⟩, st1⟩ := Jvm.LawKit.callS X0 hx (y := (⟨"java/util/Objects", "checkFromIndexSize", "(III)I"⟩ : MethodName)) hown (mvT hZ (tw hw 7 rfl)) (mvT hZ (tw hw 8 rfl)) (mvT hZ (tw hw 9 rfl)) (mvT hZ (tw hw 10 rfl)) (by decide) (backOf (W := 0) (rm2 l Z a0 hw [] p2 p3 (10 : Int32) h0 n0 Z0 hr4_hr4_hq5 hr4_hr4_hq12) hZ (tw hw 10 rfl) (tw hw 9 rfl) (by decide) (by decide)) (g := (mkF m 4 L0 [(.int (10 : Int32)), (.int p3), (.int p2)])) rfl (szAt hml hL0 rfl) (argsL := [(.int p2), (.int p3), (.int (10 : Int32))]) (rest := []) (lenOf pd_1k5_0 rfl) rfl (by show 2 * 0 + _ ≤ _; exact Nat.le_of_eq rfl) (hb hby d1_4) (fun _ _ => ⟨rfl, e0, (by decide : 0 + 0 ≤ _), (by decide : 0 + 0 ≤ _)⟩)
  dsimp only [Pt.U, Pt.locs, Pt.cells, Pt.slots] at X1 l1 y1 z1 st1 hQ1
  subst l1 y1 z1
  obtain ⟨rfl, N1q, eh1⟩ := hQ1
  have N1 := Fr.app N0 N1q
  refine Gl.st (B := (T1.setTop (mkF m 7 L0 [(.int p2)]))) (fun t k => st1 t k) ?_
  obtain ⟨L2, hL2⟩ : ∃ z : Array Slot, z = #[.val (.ref a1), .val (.int p2), .val (.int p3), .val (.long (0 : Int64)), .second, .unset, .unset] := ⟨_, rfl⟩
  obtain ⟨L3, hL3⟩ : ∃ z : Array Slot, z = #[.val (.ref a1), .val (.int p2), .val (.int p3), .val (.long (0 : Int64)), .second, .val (.int (0 : Int32)), .unset] := ⟨_, rfl⟩
  refine Gl.st (B := (T1.setTop (mkF m 15 L3 [(.int (0 : Int32))]))) (fun t k => XS.pop X1.here hx rfl (hb hby d1_7) rfl rfl (XS.lconst X1.here hx rfl (hb hby d1_8) (XS.lstoreN X1.here hx rfl (hb hby d1_9) rfl (l' := L2) (stAt hL0 hL2 rfl rfl) (XS.iconst X1.here hx rfl (hb hby d1_10) (XS.istore X1.here hx rfl (hb hby d1_11) rfl (l' := L3) (stAt hL2 hL3 rfl rfl) (XS.iload X1.here hx rfl (hb hby d1_13) (ldAt hL3 rfl) k)))))) ?_
  refine Gl.st (B := (T1.setTop (mkF m 36 L3 [(.ref a1)]))) (fun t k => XS.iconst X1.here hx rfl (hb hby d1_15) (XS.icmpNo X1.here hx rfl (hb hby d1_16) rfl (by decide) (XS.iload X1.here hx rfl (hb hby d1_19) (ldAt hL3 rfl) (XS.iloadN X1.here hx rfl (hb hby d1_21) (ldAt hL3 rfl) (XS.icmpYes X1.here hx rfl (pc0 := 22) (pc' := 35) rfl (hb hby d1_22) rfl (feq hq22).2 (by decide) (by decide) (XS.aloadN X1.here hx rfl (hb hby d1_35) (ldAt hL3 rfl) rfl k)))))) ?_
  refine Gl.st (B := (T1.setTop (mkF m 45 L3 [(.int (el1 &&& (255 : Int32)))]))) (fun t k => XS.iloadN X1.here hx rfl (hb hby d1_36) (ldAt hL3 rfl) (XS.iload X1.here hx rfl (hb hby d1_37) (ldAt hL3 rfl) (XS.iadd X1.here hx rfl (hb hby d1_39) rfl (X1.baloadBytes hx (j := (p2 + (0 : Int32))) (v := (.int el1)) (by rw [eh1]; exact Ar_a1.1) (State.isArrayOf_alike hZ.alike Ar_a1.2.1) Ar_a1.2.2 hin40_1 hat40_1 (g := (mkF m 40 L3 [(.int (p2 + (0 : Int32))), (.ref a1)])) rfl rfl (hb hby d1_40) _ (XS.sipush X1.here hx rfl (hb hby d1_41) (XS.iand X1.here hx rfl (hb hby d1_44) rfl k)))))) ?_
  obtain ⟨y6_45_5, hy6_45_5⟩ : ∃ z : Int32, z = (el1 &&& (255 : Int32)) := ⟨_, rfl⟩
  refine Gl.cast (B := (T1.setTop (mkF m 45 L3 [(.int y6_45_5)]))) (by rw [hy6_45_5]) ?_
  obtain ⟨L6, hL6⟩ : ∃ z : Array Slot, z = #[.val (.ref a1), .val (.int p2), .val (.int p3), .val (.long (0 : Int64)), .second, .val (.int (0 : Int32)), .val (.int y6_45_5)] := ⟨_, rfl⟩
  refine Gl.st (B := (T1.setTop (mkF m 54 L6 [(.long ((y6_45_5 &&& (127 : Int32)).toInt64)), (.long (0 : Int64))]))) (fun t k => XS.istore X1.here hx rfl (hb hby d1_45) rfl (l' := L6) (stAt hL3 hL6 rfl rfl) (XS.lloadN X1.here hx rfl (hb hby d1_47) (ldAt hL6 rfl) (XS.iload X1.here hx rfl (hb hby d1_48) (ldAt hL6 rfl) (XS.bipush X1.here hx rfl (hb hby d1_50) (XS.iand X1.here hx rfl (hb hby d1_52) rfl (XS.i2l X1.here hx rfl (hb hby d1_53) rfl k)))))) ?_
  refine Gl.st (B := (T1.setTop (mkF m 61 L6 [(.long ((0 : Int64) ||| (((y6_45_5 &&& (127 : Int32)).toInt64) <<< ((0 : Int32) &&& 0x3f).toInt64)))]))) (fun t k => XS.bipush X1.here hx rfl (hb hby d1_54) (XS.iload X1.here hx rfl (hb hby d1_56) (ldAt hL6 rfl) (XS.imul X1.here hx rfl (hb hby d1_58) rfl (XS.lshl X1.here hx rfl (hb hby d1_59) rfl (XS.lor X1.here hx rfl (hb hby d1_60) rfl k))))) ?_
  obtain ⟨y3_61_7, hy3_61_7⟩ : ∃ z : Int64, z = ((0 : Int64) ||| (((y6_45_5 &&& (127 : Int32)).toInt64) <<< ((0 : Int32) &&& 0x3f).toInt64)) := ⟨_, rfl⟩
  refine Gl.cast (B := (T1.setTop (mkF m 61 L6 [(.long y3_61_7)]))) (by rw [hy3_61_7]) ?_
  obtain ⟨L8, hL8⟩ : ∃ z : Array Slot, z = #[.val (.ref a1), .val (.int p2), .val (.int p3), .val (.long y3_61_7), .second, .val (.int (0 : Int32)), .val (.int y6_45_5)] := ⟨_, rfl⟩
  refine Gl.st (B := (T1.setTop (mkF m 67 L8 [(.int (128 : Int32)), (.int y6_45_5)]))) (fun t k => XS.lstoreN X1.here hx rfl (hb hby d1_61) rfl (l' := L8) (stAt hL6 hL8 rfl rfl) (XS.iload X1.here hx rfl (hb hby d1_62) (ldAt hL8 rfl) (XS.sipush X1.here hx rfl (hb hby d1_64) k))) ?_
  have hc67_10 : ¬ (y6_45_5 < (128 : Int32)) := by subst hy6_45_5; exact hq67
  obtain ⟨L11, hL11⟩ : ∃ z : Array Slot, z = #[.val (.ref a1), .val (.int p2), .val (.int p3), .val (.long y3_61_7), .second, .val (.int (1 : Int32)), .val (.int y6_45_5)] := ⟨_, rfl⟩
  refine Gl.st (B := (T1.setTop (mkF m 19 L11 []))) (fun t k => XS.icmpYes X1.here hx rfl (pc0 := 67) (pc' := 83) rfl (hb hby d1_67) rfl (flt hc67_10).2.1 (by decide) (by decide) (XS.iinc X1.here hx rfl (hb hby d1_83) (ldAt hL8 rfl) (l' := L11) (stAt' hL8 hL11 rfl rfl) (XS.goto X1.here hx rfl (pc0 := 86) (pc' := 13) rfl (hb hby d1_86) (by decide) (by decide) (XS.iload X1.here hx rfl (hb hby d1_13) (ldAt hL11 rfl) (XS.iconst X1.here hx rfl (hb hby d1_15) (XS.icmpNo X1.here hx rfl (hb hby d1_16) rfl (by decide) k)))))) ?_
  refine Gl.st (B := (T1.setTop (mkF m 39 L11 [(.int (1 : Int32)), (.int p2), (.ref a1)]))) (fun t k => XS.iload X1.here hx rfl (hb hby d1_19) (ldAt hL11 rfl) (XS.iloadN X1.here hx rfl (hb hby d1_21) (ldAt hL11 rfl) (XS.icmpYes X1.here hx rfl (pc0 := 22) (pc' := 35) rfl (hb hby d1_22) rfl (feq hq22_2).2 (by decide) (by decide) (XS.aloadN X1.here hx rfl (hb hby d1_35) (ldAt hL11 rfl) rfl (XS.iloadN X1.here hx rfl (hb hby d1_36) (ldAt hL11 rfl) (XS.iload X1.here hx rfl (hb hby d1_37) (ldAt hL11 rfl) k)))))) ?_
  refine Gl.st (B := (T1.setTop (mkF m 45 L11 [(.int (el2 &&& (255 : Int32)))]))) (fun t k => XS.iadd X1.here hx rfl (hb hby d1_39) rfl (X1.baloadBytes hx (j := (p2 + (1 : Int32))) (v := (.int el2)) (by rw [eh1]; exact Ar_a1.1) (State.isArrayOf_alike hZ.alike Ar_a1.2.1) Ar_a1.2.2 hin40_2 hat40_2 (g := (mkF m 40 L11 [(.int (p2 + (1 : Int32))), (.ref a1)])) rfl rfl (hb hby d1_40) _ (XS.sipush X1.here hx rfl (hb hby d1_41) (XS.iand X1.here hx rfl (hb hby d1_44) rfl k)))) ?_
  obtain ⟨y6_45_13, hy6_45_13⟩ : ∃ z : Int32, z = (el2 &&& (255 : Int32)) := ⟨_, rfl⟩
  refine Gl.cast (B := (T1.setTop (mkF m 45 L11 [(.int y6_45_13)]))) (by rw [hy6_45_13]) ?_
  obtain ⟨L14, hL14⟩ : ∃ z : Array Slot, z = #[.val (.ref a1), .val (.int p2), .val (.int p3), .val (.long y3_61_7), .second, .val (.int (1 : Int32)), .val (.int y6_45_13)] := ⟨_, rfl⟩
  refine Gl.st (B := (T1.setTop (mkF m 54 L14 [(.long ((y6_45_13 &&& (127 : Int32)).toInt64)), (.long y3_61_7)]))) (fun t k => XS.istore X1.here hx rfl (hb hby d1_45) rfl (l' := L14) (stAt hL11 hL14 rfl rfl) (XS.lloadN X1.here hx rfl (hb hby d1_47) (ldAt hL14 rfl) (XS.iload X1.here hx rfl (hb hby d1_48) (ldAt hL14 rfl) (XS.bipush X1.here hx rfl (hb hby d1_50) (XS.iand X1.here hx rfl (hb hby d1_52) rfl (XS.i2l X1.here hx rfl (hb hby d1_53) rfl k)))))) ?_
  refine Gl.st (B := (T1.setTop (mkF m 61 L14 [(.long (y3_61_7 ||| (((y6_45_13 &&& (127 : Int32)).toInt64) <<< ((7 : Int32) &&& 0x3f).toInt64)))]))) (fun t k => XS.bipush X1.here hx rfl (hb hby d1_54) (XS.iload X1.here hx rfl (hb hby d1_56) (ldAt hL14 rfl) (XS.imul X1.here hx rfl (hb hby d1_58) rfl (XS.lshl X1.here hx rfl (hb hby d1_59) rfl (XS.lor X1.here hx rfl (hb hby d1_60) rfl k))))) ?_
  obtain ⟨y3_61_15, hy3_61_15⟩ : ∃ z : Int64, z = (y3_61_7 ||| (((y6_45_13 &&& (127 : Int32)).toInt64) <<< ((7 : Int32) &&& 0x3f).toInt64)) := ⟨_, rfl⟩
  refine Gl.cast (B := (T1.setTop (mkF m 61 L14 [(.long y3_61_15)]))) (by rw [hy3_61_15]) ?_
  obtain ⟨L16, hL16⟩ : ∃ z : Array Slot, z = #[.val (.ref a1), .val (.int p2), .val (.int p3), .val (.long y3_61_15), .second, .val (.int (1 : Int32)), .val (.int y6_45_13)] := ⟨_, rfl⟩
  refine Gl.st (B := (T1.setTop (mkF m 67 L16 [(.int (128 : Int32)), (.int y6_45_13)]))) (fun t k => XS.lstoreN X1.here hx rfl (hb hby d1_61) rfl (l' := L16) (stAt hL14 hL16 rfl rfl) (XS.iload X1.here hx rfl (hb hby d1_62) (ldAt hL16 rfl) (XS.sipush X1.here hx rfl (hb hby d1_64) k))) ?_
  have hc67_18 : ¬ (y6_45_13 < (128 : Int32)) := by subst hy6_45_13; exact hq67_2
  obtain ⟨L19, hL19⟩ : ∃ z : Array Slot, z = #[.val (.ref a1), .val (.int p2), .val (.int p3), .val (.long y3_61_15), .second, .val (.int (2 : Int32)), .val (.int y6_45_13)] := ⟨_, rfl⟩
  refine Gl.st (B := (T1.setTop (mkF m 19 L19 []))) (fun t k => XS.icmpYes X1.here hx rfl (pc0 := 67) (pc' := 83) rfl (hb hby d1_67) rfl (flt hc67_18).2.1 (by decide) (by decide) (XS.iinc X1.here hx rfl (hb hby d1_83) (ldAt hL16 rfl) (l' := L19) (stAt' hL16 hL19 rfl rfl) (XS.goto X1.here hx rfl (pc0 := 86) (pc' := 13) rfl (hb hby d1_86) (by decide) (by decide) (XS.iload X1.here hx rfl (hb hby d1_13) (ldAt hL19 rfl) (XS.iconst X1.here hx rfl (hb hby d1_15) (XS.icmpNo X1.here hx rfl (hb hby d1_16) rfl (by decide) k)))))) ?_
  refine Gl.st (B := (T1.setTop (mkF m 39 L19 [(.int (2 : Int32)), (.int p2), (.ref a1)]))) (fun t k => XS.iload X1.here hx rfl (hb hby d1_19) (ldAt hL19 rfl) (XS.iloadN X1.here hx rfl (hb hby d1_21) (ldAt hL19 rfl) (XS.icmpYes X1.here hx rfl (pc0 := 22) (pc' := 35) rfl (hb hby d1_22) rfl (feq hq22_3).2 (by decide) (by decide) (XS.aloadN X1.here hx rfl (hb hby d1_35) (ldAt hL19 rfl) rfl (XS.iloadN X1.here hx rfl (hb hby d1_36) (ldAt hL19 rfl) (XS.iload X1.here hx rfl (hb hby d1_37) (ldAt hL19 rfl) k)))))) ?_
  refine Gl.st (B := (T1.setTop (mkF m 45 L19 [(.int (el3 &&& (255 : Int32)))]))) (fun t k => XS.iadd X1.here hx rfl (hb hby d1_39) rfl (X1.baloadBytes hx (j := (p2 + (2 : Int32))) (v := (.int el3)) (by rw [eh1]; exact Ar_a1.1) (State.isArrayOf_alike hZ.alike Ar_a1.2.1) Ar_a1.2.2 hin40_3 hat40_3 (g := (mkF m 40 L19 [(.int (p2 + (2 : Int32))), (.ref a1)])) rfl rfl (hb hby d1_40) _ (XS.sipush X1.here hx rfl (hb hby d1_41) (XS.iand X1.here hx rfl (hb hby d1_44) rfl k)))) ?_
  obtain ⟨y6_45_21, hy6_45_21⟩ : ∃ z : Int32, z = (el3 &&& (255 : Int32)) := ⟨_, rfl⟩
  refine Gl.cast (B := (T1.setTop (mkF m 45 L19 [(.int y6_45_21)]))) (by rw [hy6_45_21]) ?_
  obtain ⟨L22, hL22⟩ : ∃ z : Array Slot, z = #[.val (.ref a1), .val (.int p2), .val (.int p3), .val (.long y3_61_15), .second, .val (.int (2 : Int32)), .val (.int y6_45_21)] := ⟨_, rfl⟩
  refine Gl.st (B := (T1.setTop (mkF m 54 L22 [(.long ((y6_45_21 &&& (127 : Int32)).toInt64)), (.long y3_61_15)]))) (fun t k => XS.istore X1.here hx rfl (hb hby d1_45) rfl (l' := L22) (stAt hL19 hL22 rfl rfl) (XS.lloadN X1.here hx rfl (hb hby d1_47) (ldAt hL22 rfl) (XS.iload X1.here hx rfl (hb hby d1_48) (ldAt hL22 rfl) (XS.bipush X1.here hx rfl (hb hby d1_50) (XS.iand X1.here hx rfl (hb hby d1_52) rfl (XS.i2l X1.here hx rfl (hb hby d1_53) rfl k)))))) ?_
  refine Gl.st (B := (T1.setTop (mkF m 61 L22 [(.long (y3_61_15 ||| (((y6_45_21 &&& (127 : Int32)).toInt64) <<< ((14 : Int32) &&& 0x3f).toInt64)))]))) (fun t k => XS.bipush X1.here hx rfl (hb hby d1_54) (XS.iload X1.here hx rfl (hb hby d1_56) (ldAt hL22 rfl) (XS.imul X1.here hx rfl (hb hby d1_58) rfl (XS.lshl X1.here hx rfl (hb hby d1_59) rfl (XS.lor X1.here hx rfl (hb hby d1_60) rfl k))))) ?_
  obtain ⟨y3_61_23, hy3_61_23⟩ : ∃ z : Int64, z = (y3_61_15 ||| (((y6_45_21 &&& (127 : Int32)).toInt64) <<< ((14 : Int32) &&& 0x3f).toInt64)) := ⟨_, rfl⟩
  refine Gl.cast (B := (T1.setTop (mkF m 61 L22 [(.long y3_61_23)]))) (by rw [hy3_61_23]) ?_
  obtain ⟨L24, hL24⟩ : ∃ z : Array Slot, z = #[.val (.ref a1), .val (.int p2), .val (.int p3), .val (.long y3_61_23), .second, .val (.int (2 : Int32)), .val (.int y6_45_21)] := ⟨_, rfl⟩
  refine Gl.st (B := (T1.setTop (mkF m 67 L24 [(.int (128 : Int32)), (.int y6_45_21)]))) (fun t k => XS.lstoreN X1.here hx rfl (hb hby d1_61) rfl (l' := L24) (stAt hL22 hL24 rfl rfl) (XS.iload X1.here hx rfl (hb hby d1_62) (ldAt hL24 rfl) (XS.sipush X1.here hx rfl (hb hby d1_64) k))) ?_
  have hc67_26 : ¬ (y6_45_21 < (128 : Int32)) := by subst hy6_45_21; exact hq67_3
  obtain ⟨L27, hL27⟩ : ∃ z : Array Slot, z = #[.val (.ref a1), .val (.int p2), .val (.int p3), .val (.long y3_61_23), .second, .val (.int (3 : Int32)), .val (.int y6_45_21)] := ⟨_, rfl⟩
  refine Gl.st (B := (T1.setTop (mkF m 19 L27 []))) (fun t k => XS.icmpYes X1.here hx rfl (pc0 := 67) (pc' := 83) rfl (hb hby d1_67) rfl (flt hc67_26).2.1 (by decide) (by decide) (XS.iinc X1.here hx rfl (hb hby d1_83) (ldAt hL24 rfl) (l' := L27) (stAt' hL24 hL27 rfl rfl) (XS.goto X1.here hx rfl (pc0 := 86) (pc' := 13) rfl (hb hby d1_86) (by decide) (by decide) (XS.iload X1.here hx rfl (hb hby d1_13) (ldAt hL27 rfl) (XS.iconst X1.here hx rfl (hb hby d1_15) (XS.icmpNo X1.here hx rfl (hb hby d1_16) rfl (by decide) k)))))) ?_
  refine Gl.st (B := (T1.setTop (mkF m 39 L27 [(.int (3 : Int32)), (.int p2), (.ref a1)]))) (fun t k => XS.iload X1.here hx rfl (hb hby d1_19) (ldAt hL27 rfl) (XS.iloadN X1.here hx rfl (hb hby d1_21) (ldAt hL27 rfl) (XS.icmpYes X1.here hx rfl (pc0 := 22) (pc' := 35) rfl (hb hby d1_22) rfl (feq hq22_4).2 (by decide) (by decide) (XS.aloadN X1.here hx rfl (hb hby d1_35) (ldAt hL27 rfl) rfl (XS.iloadN X1.here hx rfl (hb hby d1_36) (ldAt hL27 rfl) (XS.iload X1.here hx rfl (hb hby d1_37) (ldAt hL27 rfl) k)))))) ?_
  refine Gl.st (B := (T1.setTop (mkF m 45 L27 [(.int (el4 &&& (255 : Int32)))]))) (fun t k => XS.iadd X1.here hx rfl (hb hby d1_39) rfl (X1.baloadBytes hx (j := (p2 + (3 : Int32))) (v := (.int el4)) (by rw [eh1]; exact Ar_a1.1) (State.isArrayOf_alike hZ.alike Ar_a1.2.1) Ar_a1.2.2 hin40_4 hat40_4 (g := (mkF m 40 L27 [(.int (p2 + (3 : Int32))), (.ref a1)])) rfl rfl (hb hby d1_40) _ (XS.sipush X1.here hx rfl (hb hby d1_41) (XS.iand X1.here hx rfl (hb hby d1_44) rfl k)))) ?_
  obtain ⟨y6_45_29, hy6_45_29⟩ : ∃ z : Int32, z = (el4 &&& (255 : Int32)) := ⟨_, rfl⟩
  refine Gl.cast (B := (T1.setTop (mkF m 45 L27 [(.int y6_45_29)]))) (by rw [hy6_45_29]) ?_
  obtain ⟨L30, hL30⟩ : ∃ z : Array Slot, z = #[.val (.ref a1), .val (.int p2), .val (.int p3), .val (.long y3_61_23), .second, .val (.int (3 : Int32)), .val (.int y6_45_29)] := ⟨_, rfl⟩
  refine Gl.st (B := (T1.setTop (mkF m 54 L30 [(.long ((y6_45_29 &&& (127 : Int32)).toInt64)), (.long y3_61_23)]))) (fun t k => XS.istore X1.here hx rfl (hb hby d1_45) rfl (l' := L30) (stAt hL27 hL30 rfl rfl) (XS.lloadN X1.here hx rfl (hb hby d1_47) (ldAt hL30 rfl) (XS.iload X1.here hx rfl (hb hby d1_48) (ldAt hL30 rfl) (XS.bipush X1.here hx rfl (hb hby d1_50) (XS.iand X1.here hx rfl (hb hby d1_52) rfl (XS.i2l X1.here hx rfl (hb hby d1_53) rfl k)))))) ?_
  refine Gl.st (B := (T1.setTop (mkF m 61 L30 [(.long (y3_61_23 ||| (((y6_45_29 &&& (127 : Int32)).toInt64) <<< ((21 : Int32) &&& 0x3f).toInt64)))]))) (fun t k => XS.bipush X1.here hx rfl (hb hby d1_54) (XS.iload X1.here hx rfl (hb hby d1_56) (ldAt hL30 rfl) (XS.imul X1.here hx rfl (hb hby d1_58) rfl (XS.lshl X1.here hx rfl (hb hby d1_59) rfl (XS.lor X1.here hx rfl (hb hby d1_60) rfl k))))) ?_
  obtain ⟨y3_61_31, hy3_61_31⟩ : ∃ z : Int64, z = (y3_61_23 ||| (((y6_45_29 &&& (127 : Int32)).toInt64) <<< ((21 : Int32) &&& 0x3f).toInt64)) := ⟨_, rfl⟩
  refine Gl.cast (B := (T1.setTop (mkF m 61 L30 [(.long y3_61_31)]))) (by rw [hy3_61_31]) ?_
  obtain ⟨L32, hL32⟩ : ∃ z : Array Slot, z = #[.val (.ref a1), .val (.int p2), .val (.int p3), .val (.long y3_61_31), .second, .val (.int (3 : Int32)), .val (.int y6_45_29)] := ⟨_, rfl⟩
  refine Gl.st (B := (T1.setTop (mkF m 67 L32 [(.int (128 : Int32)), (.int y6_45_29)]))) (fun t k => XS.lstoreN X1.here hx rfl (hb hby d1_61) rfl (l' := L32) (stAt hL30 hL32 rfl rfl) (XS.iload X1.here hx rfl (hb hby d1_62) (ldAt hL32 rfl) (XS.sipush X1.here hx rfl (hb hby d1_64) k))) ?_
  have hc67_34 : ¬ (y6_45_29 < (128 : Int32)) := by subst hy6_45_29; exact hq67_4
  obtain ⟨L35, hL35⟩ : ∃ z : Array Slot, z = #[.val (.ref a1), .val (.int p2), .val (.int p3), .val (.long y3_61_31), .second, .val (.int (4 : Int32)), .val (.int y6_45_29)] := ⟨_, rfl⟩
  refine Gl.st (B := (T1.setTop (mkF m 19 L35 []))) (fun t k => XS.icmpYes X1.here hx rfl (pc0 := 67) (pc' := 83) rfl (hb hby d1_67) rfl (flt hc67_34).2.1 (by decide) (by decide) (XS.iinc X1.here hx rfl (hb hby d1_83) (ldAt hL32 rfl) (l' := L35) (stAt' hL32 hL35 rfl rfl) (XS.goto X1.here hx rfl (pc0 := 86) (pc' := 13) rfl (hb hby d1_86) (by decide) (by decide) (XS.iload X1.here hx rfl (hb hby d1_13) (ldAt hL35 rfl) (XS.iconst X1.here hx rfl (hb hby d1_15) (XS.icmpNo X1.here hx rfl (hb hby d1_16) rfl (by decide) k)))))) ?_
  refine Gl.st (B := (T1.setTop (mkF m 39 L35 [(.int (4 : Int32)), (.int p2), (.ref a1)]))) (fun t k => XS.iload X1.here hx rfl (hb hby d1_19) (ldAt hL35 rfl) (XS.iloadN X1.here hx rfl (hb hby d1_21) (ldAt hL35 rfl) (XS.icmpYes X1.here hx rfl (pc0 := 22) (pc' := 35) rfl (hb hby d1_22) rfl (feq hq22_5).2 (by decide) (by decide) (XS.aloadN X1.here hx rfl (hb hby d1_35) (ldAt hL35 rfl) rfl (XS.iloadN X1.here hx rfl (hb hby d1_36) (ldAt hL35 rfl) (XS.iload X1.here hx rfl (hb hby d1_37) (ldAt hL35 rfl) k)))))) ?_
  refine Gl.st (B := (T1.setTop (mkF m 45 L35 [(.int (el5 &&& (255 : Int32)))]))) (fun t k => XS.iadd X1.here hx rfl (hb hby d1_39) rfl (X1.baloadBytes hx (j := (p2 + (4 : Int32))) (v := (.int el5)) (by rw [eh1]; exact Ar_a1.1) (State.isArrayOf_alike hZ.alike Ar_a1.2.1) Ar_a1.2.2 hin40_5 hat40_5 (g := (mkF m 40 L35 [(.int (p2 + (4 : Int32))), (.ref a1)])) rfl rfl (hb hby d1_40) _ (XS.sipush X1.here hx rfl (hb hby d1_41) (XS.iand X1.here hx rfl (hb hby d1_44) rfl k)))) ?_
  obtain ⟨y6_45_37, hy6_45_37⟩ : ∃ z : Int32, z = (el5 &&& (255 : Int32)) := ⟨_, rfl⟩
  refine Gl.cast (B := (T1.setTop (mkF m 45 L35 [(.int y6_45_37)]))) (by rw [hy6_45_37]) ?_
  obtain ⟨L38, hL38⟩ : ∃ z : Array Slot, z = #[.val (.ref a1), .val (.int p2), .val (.int p3), .val (.long y3_61_31), .second, .val (.int (4 : Int32)), .val (.int y6_45_37)] := ⟨_, rfl⟩
  refine Gl.st (B := (T1.setTop (mkF m 54 L38 [(.long ((y6_45_37 &&& (127 : Int32)).toInt64)), (.long y3_61_31)]))) (fun t k => XS.istore X1.here hx rfl (hb hby d1_45) rfl (l' := L38) (stAt hL35 hL38 rfl rfl) (XS.lloadN X1.here hx rfl (hb hby d1_47) (ldAt hL38 rfl) (XS.iload X1.here hx rfl (hb hby d1_48) (ldAt hL38 rfl) (XS.bipush X1.here hx rfl (hb hby d1_50) (XS.iand X1.here hx rfl (hb hby d1_52) rfl (XS.i2l X1.here hx rfl (hb hby d1_53) rfl k)))))) ?_
  refine Gl.st (B := (T1.setTop (mkF m 61 L38 [(.long (y3_61_31 ||| (((y6_45_37 &&& (127 : Int32)).toInt64) <<< ((28 : Int32) &&& 0x3f).toInt64)))]))) (fun t k => XS.bipush X1.here hx rfl (hb hby d1_54) (XS.iload X1.here hx rfl (hb hby d1_56) (ldAt hL38 rfl) (XS.imul X1.here hx rfl (hb hby d1_58) rfl (XS.lshl X1.here hx rfl (hb hby d1_59) rfl (XS.lor X1.here hx rfl (hb hby d1_60) rfl k))))) ?_
  obtain ⟨y3_61_39, hy3_61_39⟩ : ∃ z : Int64, z = (y3_61_31 ||| (((y6_45_37 &&& (127 : Int32)).toInt64) <<< ((28 : Int32) &&& 0x3f).toInt64)) := ⟨_, rfl⟩
  refine Gl.cast (B := (T1.setTop (mkF m 61 L38 [(.long y3_61_39)]))) (by rw [hy3_61_39]) ?_
  obtain ⟨L40, hL40⟩ : ∃ z : Array Slot, z = #[.val (.ref a1), .val (.int p2), .val (.int p3), .val (.long y3_61_39), .second, .val (.int (4 : Int32)), .val (.int y6_45_37)] := ⟨_, rfl⟩
  refine Gl.st (B := (T1.setTop (mkF m 67 L40 [(.int (128 : Int32)), (.int y6_45_37)]))) (fun t k => XS.lstoreN X1.here hx rfl (hb hby d1_61) rfl (l' := L40) (stAt hL38 hL40 rfl rfl) (XS.iload X1.here hx rfl (hb hby d1_62) (ldAt hL40 rfl) (XS.sipush X1.here hx rfl (hb hby d1_64) k))) ?_
  have hc67_42 : y6_45_37 < (128 : Int32) := by subst hy6_45_37; exact hq67_5
  refine Gl.st (B := (T1.setTop (mkF m 75 L40 [(.int (lcmpW y3_61_39 (4294967295 : Int64)))]))) (fun t k => XS.icmpNo X1.here hx rfl (hb hby d1_67) rfl (tlt hc67_42).2.1 (XS.lloadN X1.here hx rfl (hb hby d1_70) (ldAt hL40 rfl) (X1.ldc2Long hx hown (mvT hZ (tw hw 15 rfl)) (g := (mkF m 71 L40 [(.long y3_61_39)])) rfl (hb hby d1_71) _ (XS.lcmp X1.here hx rfl (hb hby d1_74) rfl k)))) ?_
  have hc75_44 : ¬ ((4294967295 : Int64) < y3_61_39) := by subst hy3_61_39; subst hy3_61_31; subst hy3_61_23; subst hy3_61_15; subst hy3_61_7; subst hy6_45_5; subst hy6_45_13; subst hy6_45_21; subst hy6_45_29; subst hy6_45_37; exact hq75
  refine Gl.st (B := (T1.setTop (mkF m 82 L40 [(.long y3_61_39)]))) (fun t k => XS.ifYes X1.here hx rfl (pc0 := 75) (pc' := 81) rfl (hb hby d1_75) rfl ((if0 _ _).trans (flt (mt (lw_gt y3_61_39 (4294967295 : Int64)).mp hc75_44)).2.2.2) (by decide) (by decide) (XS.lloadN X1.here hx rfl (hb hby d1_81) (ldAt hL40 rfl) k)) ?_
  obtain ⟨fs, hr, hrun, hended, hW, hsame⟩ := X1.leave (v := some (.long y3_61_39)) (fun h => by rw [Bd.returns] at h; cases h)
  refine Gl.fin (X1.lreturnOut hx Bd.returns (hb hby d1_82) hr) hrun hended ⟨_, _, rfl, ?_, ⟨_, rfl⟩, hW, hsame.mono (by decide) (by decide)⟩
  show Q1k5 Z a1 p2 p3 cl_a1 el1 el2 el3 el4 el5 h0 n0 _ T1.heap _
  rw [eh1]
  exact ⟨(by subst hy3_61_39; subst hy3_61_31; subst hy3_61_23; subst hy3_61_15; subst hy3_61_7; subst hy6_45_5; subst hy6_45_13; subst hy6_45_21; subst hy6_45_29; subst hy6_45_37; rfl), N1, rfl⟩
theorem pn_0 : plainName "com/example/requeue/requeue/connection/SnappyBlockUncompressedLengthPinLaw" = true := by first | (simp [plainName, overriddenIn]; done) | decide +kernel
theorem pd_0_0 : parseMethodDescriptor "([BII)J" = some ⟨[(.array .byte), .int, .int], some .long⟩ := by decide +kernel
theorem ef_0 (m : MethodId) (p1 : Int32) (p2 : Int32) (p3 : Int32) (p4 : Int32) (q5 : Int64) (p6 : Int32) : entryFrame m #[(.int p1), (.int p2), (.int p3), (.int p4), (.long q5), (.int p6)] maxLocals = mkF m 0 #[.val (.int p1), .val (.int p2), .val (.int p3), .val (.int p4), .val (.long q5), .second, .val (.int p6), .unset, .unset, .unset, .unset, .unset, .unset, .unset, .unset, .unset, .unset, .unset, .unset, .unset] [] := by first | (simp [entryFrame, mkF, argsToLocals, Value.category, maxLocals]; done) | rfl
theorem own_0_nz32 (p3 : Int32) (y8_16_3 : Int32) (p2 : Int32) (y7_8_1 : Int32) (hy8_16_3 : y8_16_3 = ((p3 &&& (2147483647 : Int32)) % (4 : Int32))) (hy7_8_1 : y7_8_1 = ((1 : Int32) + ((p2 &&& (2147483647 : Int32)) % (5 : Int32))))  : (((11 : Int32) - y8_16_3) - y7_8_1) ≠ (0 : Int32) := by
  rcases own_off _ _ hy8_16_3 with h | h | h | h <;> rcases own_k _ _ hy7_8_1 with q | q | q | q | q <;> rw [h, q] <;> decide
theorem own_0_hp358_62 (p4 : Int32) (y9_34_5 : Int32) (hy9_34_5 : y9_34_5 = ((1 : Int32) + ((p4 &&& (2147483647 : Int32)) % (((11 : Int32) - (0 : Int32)) - (1 : Int32)))))  : ¬ ((((10 : Int32) ||| (0 : Int32)) ||| y9_34_5) < (0 : Int32)) := by
  have r := own_len p4 y9_34_5 (0 : Int32) (1 : Int32) _ rfl (by decide) (by decide) hy9_34_5
  clear hy9_34_5
  simp only [Int32.reduceToInt] at r
  have a := (c_orS ((10 : Int32) ||| (0 : Int32)) y9_34_5).1 (by decide) (by omega)
  rw [Int32.lt_iff_toInt_lt]
  simp only [Int32.reduceToInt] at *
  omega
theorem own_0_hp358_63 (p4 : Int32) (y9_34_5 : Int32) (hy9_34_5 : y9_34_5 = ((1 : Int32) + ((p4 &&& (2147483647 : Int32)) % (((11 : Int32) - (0 : Int32)) - (1 : Int32)))))  : ¬ (((10 : Int32) - (0 : Int32)) < y9_34_5) := by
  have r := own_len p4 y9_34_5 (0 : Int32) (1 : Int32) _ rfl (by decide) (by decide) hy9_34_5
  clear hy9_34_5
  simp only [Int32.reduceToInt] at r
  have e : (((10 : Int32) - (0 : Int32))) = (10 : Int32) := by decide
  rw [e, Int32.lt_iff_toInt_lt]
  simp only [Int32.reduceToInt]
  omega
theorem own_0_hp358_64 (p4 : Int32) (y9_34_5 : Int32) (hy9_34_5 : y9_34_5 = ((1 : Int32) + ((p4 &&& (2147483647 : Int32)) % (((11 : Int32) - (0 : Int32)) - (1 : Int32)))))  : ¬ ((0 : Int32) = y9_34_5) := by
  have r := own_len p4 y9_34_5 (0 : Int32) (1 : Int32) _ rfl (by decide) (by decide) hy9_34_5
  clear hy9_34_5
  simp only [Int32.reduceToInt] at r
  rw [← Int32.toInt_inj]
  simp only [Int32.reduceToInt]
  omega
theorem own_0_hp358_65 (p1 : Int32) (y11_152_40 : Int32) (x209_52 : Int32) (hy11_152_40 : y11_152_40 = (p1 &&& (127 : Int32))) (hx209_52 : x209_52 = (y11_152_40.toInt8.toInt32))  : (((nar .byte x209_52) &&& (255 : Int32))) < (128 : Int32) := by
  have g := own_g0 p1 y11_152_40 hy11_152_40
  have b := own_lo y11_152_40 x209_52 (by omega) hx209_52
  rw [Int32.lt_iff_toInt_lt, b]
  simp only [Int32.reduceToInt]
  omega
theorem own_0_hp358_66 (p1 : Int32) (y11_152_40 : Int32) (x209_52 : Int32) (hy11_152_40 : y11_152_40 = (p1 &&& (127 : Int32))) (hx209_52 : x209_52 = (y11_152_40.toInt8.toInt32))  : ¬ ((4294967295 : Int64) < (((0 : Int64) ||| ((((((nar .byte x209_52) &&& (255 : Int32))) &&& (127 : Int32)).toInt64) <<< ((0 : Int32) &&& 0x3f).toInt64)))) := by
  have g0 := own_g0 p1 y11_152_40 hy11_152_40
  have b0 := own_lo y11_152_40 x209_52 (by omega) hx209_52
  have n0 := own_7 ((nar .byte x209_52) &&& (255 : Int32))
  rw [b0] at n0
  generalize ((((nar .byte x209_52) &&& (255 : Int32)) &&& (127 : Int32)).toInt64) = A0 at *
  have s0 := c_lshl A0 (0 : Int32) 0 (by decide)
  generalize (A0 <<< ((0 : Int32) &&& 0x3f).toInt64) = S0 at *
  have q0 := rng64 S0
  have e0 : S0.toInt = y11_152_40.toInt * 1 := by omega
  clear s0 q0 n0 b0
  have o0 := c_orL' (0 : Int64) S0 0 (by decide) 1 rfl (by omega) (by first | decide | omega) (by first | decide | omega)
  generalize ((0 : Int64) ||| S0) = O0 at *
  have f0 := rng64 O0
  have d0 : O0.toInt = y11_152_40.toInt := by simp only [Int64.reduceToInt] at o0; omega
  clear o0 f0 e0
  rw [Int64.lt_iff_toInt_lt]
  simp only [Int64.reduceToInt]
  omega
theorem own_0_hc364_68 (p1 : Int32) (y11_152_40 : Int32) (x209_52 : Int32) (r358_67 : Int64) (y16_325_55 : Int64) (y18_350_57 : Int64) (hy11_152_40 : y11_152_40 = (p1 &&& (127 : Int32))) (hx209_52 : x209_52 = (y11_152_40.toInt8.toInt32)) (hr358_67 : r358_67 = (((0 : Int64) ||| ((((((nar .byte x209_52) &&& (255 : Int32))) &&& (127 : Int32)).toInt64) <<< ((0 : Int32) &&& 0x3f).toInt64)))) (hy16_325_55 : y16_325_55 = ((p1.toInt64) &&& (4294967295 : Int64))) (hy18_350_57 : y18_350_57 = (y16_325_55 &&& (((1 : Int64) <<< ((7 : Int32) &&& 0x3f).toInt64) - (1 : Int64))))  : r358_67 = y18_350_57 := by
  have g0 := own_g0 p1 y11_152_40 hy11_152_40
  have b0 := own_lo y11_152_40 x209_52 (by omega) hx209_52
  have n0 := own_7 ((nar .byte x209_52) &&& (255 : Int32))
  rw [b0] at n0
  generalize ((((nar .byte x209_52) &&& (255 : Int32)) &&& (127 : Int32)).toInt64) = A0 at *
  have s0 := c_lshl A0 (0 : Int32) 0 (by decide)
  generalize (A0 <<< ((0 : Int32) &&& 0x3f).toInt64) = S0 at *
  have q0 := rng64 S0
  have e0 : S0.toInt = y11_152_40.toInt * 1 := by omega
  clear s0 q0 n0 b0
  have o0 := c_orL' (0 : Int64) S0 0 (by decide) 1 rfl (by omega) (by first | decide | omega) (by first | decide | omega)
  generalize ((0 : Int64) ||| S0) = O0 at *
  have f0 := rng64 O0
  have d0 : O0.toInt = y11_152_40.toInt := by simp only [Int64.reduceToInt] at o0; omega
  clear o0 f0 e0
  have u1 : y16_325_55.toInt = p1.toInt % 4294967296 := by rw [hy16_325_55, ← c_i2l p1]; exact c_maskL p1.toInt64 (4294967295 : Int64) 32 (by decide) (by decide)
  have u2 : y18_350_57.toInt = y16_325_55.toInt % 128 := by rw [hy18_350_57]; exact c_maskL y16_325_55 _ 7 (by decide) (by decide)
  rw [← Int64.toInt_inj, hr358_67]
  omega
theorem own_0_hp358_83 (p4 : Int32) (y9_34_5 : Int32) (hy9_34_5 : y9_34_5 = ((2 : Int32) + ((p4 &&& (2147483647 : Int32)) % (((11 : Int32) - (0 : Int32)) - (2 : Int32)))))  : ¬ ((((10 : Int32) ||| (0 : Int32)) ||| y9_34_5) < (0 : Int32)) := by
  have r := own_len p4 y9_34_5 (0 : Int32) (2 : Int32) _ rfl (by decide) (by decide) hy9_34_5
  clear hy9_34_5
  simp only [Int32.reduceToInt] at r
  have a := (c_orS ((10 : Int32) ||| (0 : Int32)) y9_34_5).1 (by decide) (by omega)
  rw [Int32.lt_iff_toInt_lt]
  simp only [Int32.reduceToInt] at *
  omega
theorem own_0_hp358_84 (p4 : Int32) (y9_34_5 : Int32) (hy9_34_5 : y9_34_5 = ((2 : Int32) + ((p4 &&& (2147483647 : Int32)) % (((11 : Int32) - (0 : Int32)) - (2 : Int32)))))  : ¬ (((10 : Int32) - (0 : Int32)) < y9_34_5) := by
  have r := own_len p4 y9_34_5 (0 : Int32) (2 : Int32) _ rfl (by decide) (by decide) hy9_34_5
  clear hy9_34_5
  simp only [Int32.reduceToInt] at r
  have e : (((10 : Int32) - (0 : Int32))) = (10 : Int32) := by decide
  rw [e, Int32.lt_iff_toInt_lt]
  simp only [Int32.reduceToInt]
  omega
theorem own_0_hp358_85 (p4 : Int32) (y9_34_5 : Int32) (hy9_34_5 : y9_34_5 = ((2 : Int32) + ((p4 &&& (2147483647 : Int32)) % (((11 : Int32) - (0 : Int32)) - (2 : Int32)))))  : ¬ ((0 : Int32) = y9_34_5) := by
  have r := own_len p4 y9_34_5 (0 : Int32) (2 : Int32) _ rfl (by decide) (by decide) hy9_34_5
  clear hy9_34_5
  simp only [Int32.reduceToInt] at r
  rw [← Int32.toInt_inj]
  simp only [Int32.reduceToInt]
  omega
theorem own_0_hp358_86 (p1 : Int32) (y11_152_40 : Int32) (x209_69 : Int32) (hy11_152_40 : y11_152_40 = (p1 &&& (127 : Int32))) (hx209_69 : x209_69 = ((y11_152_40 ||| (128 : Int32)).toInt8.toInt32))  : ¬ ((((nar .byte x209_69) &&& (255 : Int32))) < (128 : Int32)) := by
  have g := own_g0 p1 y11_152_40 hy11_152_40
  have b := own_hi y11_152_40 x209_69 (by omega) hx209_69
  rw [Int32.lt_iff_toInt_lt, b]
  simp only [Int32.reduceToInt]
  omega
theorem own_0_hp358_87 (p4 : Int32) (y9_34_5 : Int32) (hy9_34_5 : y9_34_5 = ((2 : Int32) + ((p4 &&& (2147483647 : Int32)) % (((11 : Int32) - (0 : Int32)) - (2 : Int32)))))  : ¬ ((1 : Int32) = y9_34_5) := by
  have r := own_len p4 y9_34_5 (0 : Int32) (2 : Int32) _ rfl (by decide) (by decide) hy9_34_5
  clear hy9_34_5
  simp only [Int32.reduceToInt] at r
  rw [← Int32.toInt_inj]
  simp only [Int32.reduceToInt]
  omega
theorem own_0_hp358_88 (p1 : Int32) (y12_161_42 : Int32) (x240_72 : Int32) (hy12_161_42 : y12_161_42 = (((p1.toUInt32 >>> ((7 : Int32) &&& 31).toUInt32).toInt32) &&& (127 : Int32))) (hx240_72 : x240_72 = (y12_161_42.toInt8.toInt32))  : (((nar .byte x240_72) &&& (255 : Int32))) < (128 : Int32) := by
  have g : y12_161_42.toInt = ((p1.toInt % 4294967296) / 128) % 128 := own_g p1 y12_161_42 (7 : Int32) 7 (by decide) (by decide) hy12_161_42
  have b := own_lo y12_161_42 x240_72 (by omega) hx240_72
  rw [Int32.lt_iff_toInt_lt, b]
  simp only [Int32.reduceToInt]
  omega
theorem own_0_hp358_89 (p1 : Int32) (y11_152_40 : Int32) (x209_69 : Int32) (y12_161_42 : Int32) (x240_72 : Int32) (hy11_152_40 : y11_152_40 = (p1 &&& (127 : Int32))) (hx209_69 : x209_69 = ((y11_152_40 ||| (128 : Int32)).toInt8.toInt32)) (hy12_161_42 : y12_161_42 = (((p1.toUInt32 >>> ((7 : Int32) &&& 31).toUInt32).toInt32) &&& (127 : Int32))) (hx240_72 : x240_72 = (y12_161_42.toInt8.toInt32))  : ¬ ((4294967295 : Int64) < (((((0 : Int64) ||| ((((((nar .byte x209_69) &&& (255 : Int32))) &&& (127 : Int32)).toInt64) <<< ((0 : Int32) &&& 0x3f).toInt64))) ||| ((((((nar .byte x240_72) &&& (255 : Int32))) &&& (127 : Int32)).toInt64) <<< ((7 : Int32) &&& 0x3f).toInt64)))) := by
  have g0 := own_g0 p1 y11_152_40 hy11_152_40
  have b0 := own_hi y11_152_40 x209_69 (by omega) hx209_69
  have g1 : y12_161_42.toInt = ((p1.toInt % 4294967296) / 128) % 128 := own_g p1 y12_161_42 (7 : Int32) 7 (by decide) (by decide) hy12_161_42
  have b1 := own_lo y12_161_42 x240_72 (by omega) hx240_72
  have n0 := own_7 ((nar .byte x209_69) &&& (255 : Int32))
  rw [b0] at n0
  generalize ((((nar .byte x209_69) &&& (255 : Int32)) &&& (127 : Int32)).toInt64) = A0 at *
  have s0 := c_lshl A0 (0 : Int32) 0 (by decide)
  generalize (A0 <<< ((0 : Int32) &&& 0x3f).toInt64) = S0 at *
  have q0 := rng64 S0
  have e0 : S0.toInt = y11_152_40.toInt * 1 := by omega
  clear s0 q0 n0 b0
  have o0 := c_orL' (0 : Int64) S0 0 (by decide) 1 rfl (by omega) (by first | decide | omega) (by first | decide | omega)
  generalize ((0 : Int64) ||| S0) = O0 at *
  have f0 := rng64 O0
  have d0 : O0.toInt = y11_152_40.toInt := by simp only [Int64.reduceToInt] at o0; omega
  clear o0 f0 e0
  have n1 := own_7 ((nar .byte x240_72) &&& (255 : Int32))
  rw [b1] at n1
  generalize ((((nar .byte x240_72) &&& (255 : Int32)) &&& (127 : Int32)).toInt64) = A1 at *
  have s1 := c_lshl A1 (7 : Int32) 7 (by decide)
  generalize (A1 <<< ((7 : Int32) &&& 0x3f).toInt64) = S1 at *
  have q1 := rng64 S1
  have e1 : S1.toInt = y12_161_42.toInt * 128 := by omega
  clear s1 q1 n1 b1
  have o1 := c_orL' O0 S1 7 (by decide) 128 rfl (by omega) (by first | decide | omega) (by first | decide | omega)
  generalize (O0 ||| S1) = O1 at *
  have f1 := rng64 O1
  have d1 : O1.toInt = O0.toInt + y12_161_42.toInt * 128 := by omega
  clear o1 f1 e1
  rw [Int64.lt_iff_toInt_lt]
  simp only [Int64.reduceToInt]
  omega
theorem own_0_hc364_91 (p1 : Int32) (y11_152_40 : Int32) (x209_69 : Int32) (y12_161_42 : Int32) (x240_72 : Int32) (r358_90 : Int64) (y16_325_75 : Int64) (y18_350_77 : Int64) (hy11_152_40 : y11_152_40 = (p1 &&& (127 : Int32))) (hx209_69 : x209_69 = ((y11_152_40 ||| (128 : Int32)).toInt8.toInt32)) (hy12_161_42 : y12_161_42 = (((p1.toUInt32 >>> ((7 : Int32) &&& 31).toUInt32).toInt32) &&& (127 : Int32))) (hx240_72 : x240_72 = (y12_161_42.toInt8.toInt32)) (hr358_90 : r358_90 = (((((0 : Int64) ||| ((((((nar .byte x209_69) &&& (255 : Int32))) &&& (127 : Int32)).toInt64) <<< ((0 : Int32) &&& 0x3f).toInt64))) ||| ((((((nar .byte x240_72) &&& (255 : Int32))) &&& (127 : Int32)).toInt64) <<< ((7 : Int32) &&& 0x3f).toInt64)))) (hy16_325_75 : y16_325_75 = ((p1.toInt64) &&& (4294967295 : Int64))) (hy18_350_77 : y18_350_77 = (y16_325_75 &&& (((1 : Int64) <<< ((14 : Int32) &&& 0x3f).toInt64) - (1 : Int64))))  : r358_90 = y18_350_77 := by
  have g0 := own_g0 p1 y11_152_40 hy11_152_40
  have b0 := own_hi y11_152_40 x209_69 (by omega) hx209_69
  have g1 : y12_161_42.toInt = ((p1.toInt % 4294967296) / 128) % 128 := own_g p1 y12_161_42 (7 : Int32) 7 (by decide) (by decide) hy12_161_42
  have b1 := own_lo y12_161_42 x240_72 (by omega) hx240_72
  have n0 := own_7 ((nar .byte x209_69) &&& (255 : Int32))
  rw [b0] at n0
  generalize ((((nar .byte x209_69) &&& (255 : Int32)) &&& (127 : Int32)).toInt64) = A0 at *
  have s0 := c_lshl A0 (0 : Int32) 0 (by decide)
  generalize (A0 <<< ((0 : Int32) &&& 0x3f).toInt64) = S0 at *
  have q0 := rng64 S0
  have e0 : S0.toInt = y11_152_40.toInt * 1 := by omega
  clear s0 q0 n0 b0
  have o0 := c_orL' (0 : Int64) S0 0 (by decide) 1 rfl (by omega) (by first | decide | omega) (by first | decide | omega)
  generalize ((0 : Int64) ||| S0) = O0 at *
  have f0 := rng64 O0
  have d0 : O0.toInt = y11_152_40.toInt := by simp only [Int64.reduceToInt] at o0; omega
  clear o0 f0 e0
  have n1 := own_7 ((nar .byte x240_72) &&& (255 : Int32))
  rw [b1] at n1
  generalize ((((nar .byte x240_72) &&& (255 : Int32)) &&& (127 : Int32)).toInt64) = A1 at *
  have s1 := c_lshl A1 (7 : Int32) 7 (by decide)
  generalize (A1 <<< ((7 : Int32) &&& 0x3f).toInt64) = S1 at *
  have q1 := rng64 S1
  have e1 : S1.toInt = y12_161_42.toInt * 128 := by omega
  clear s1 q1 n1 b1
  have o1 := c_orL' O0 S1 7 (by decide) 128 rfl (by omega) (by first | decide | omega) (by first | decide | omega)
  generalize (O0 ||| S1) = O1 at *
  have f1 := rng64 O1
  have d1 : O1.toInt = O0.toInt + y12_161_42.toInt * 128 := by omega
  clear o1 f1 e1
  have u1 : y16_325_75.toInt = p1.toInt % 4294967296 := by rw [hy16_325_75, ← c_i2l p1]; exact c_maskL p1.toInt64 (4294967295 : Int64) 32 (by decide) (by decide)
  have u2 : y18_350_77.toInt = y16_325_75.toInt % 16384 := by rw [hy18_350_77]; exact c_maskL y16_325_75 _ 14 (by decide) (by decide)
  rw [← Int64.toInt_inj, hr358_90]
  omega
theorem own_0_hp358_110 (p4 : Int32) (y9_34_5 : Int32) (hy9_34_5 : y9_34_5 = ((3 : Int32) + ((p4 &&& (2147483647 : Int32)) % (((11 : Int32) - (0 : Int32)) - (3 : Int32)))))  : ¬ ((((10 : Int32) ||| (0 : Int32)) ||| y9_34_5) < (0 : Int32)) := by
  have r := own_len p4 y9_34_5 (0 : Int32) (3 : Int32) _ rfl (by decide) (by decide) hy9_34_5
  clear hy9_34_5
  simp only [Int32.reduceToInt] at r
  have a := (c_orS ((10 : Int32) ||| (0 : Int32)) y9_34_5).1 (by decide) (by omega)
  rw [Int32.lt_iff_toInt_lt]
  simp only [Int32.reduceToInt] at *
  omega
theorem own_0_hp358_111 (p4 : Int32) (y9_34_5 : Int32) (hy9_34_5 : y9_34_5 = ((3 : Int32) + ((p4 &&& (2147483647 : Int32)) % (((11 : Int32) - (0 : Int32)) - (3 : Int32)))))  : ¬ (((10 : Int32) - (0 : Int32)) < y9_34_5) := by
  have r := own_len p4 y9_34_5 (0 : Int32) (3 : Int32) _ rfl (by decide) (by decide) hy9_34_5
  clear hy9_34_5
  simp only [Int32.reduceToInt] at r
  have e : (((10 : Int32) - (0 : Int32))) = (10 : Int32) := by decide
  rw [e, Int32.lt_iff_toInt_lt]
  simp only [Int32.reduceToInt]
  omega
theorem own_0_hp358_112 (p4 : Int32) (y9_34_5 : Int32) (hy9_34_5 : y9_34_5 = ((3 : Int32) + ((p4 &&& (2147483647 : Int32)) % (((11 : Int32) - (0 : Int32)) - (3 : Int32)))))  : ¬ ((0 : Int32) = y9_34_5) := by
  have r := own_len p4 y9_34_5 (0 : Int32) (3 : Int32) _ rfl (by decide) (by decide) hy9_34_5
  clear hy9_34_5
  simp only [Int32.reduceToInt] at r
  rw [← Int32.toInt_inj]
  simp only [Int32.reduceToInt]
  omega
theorem own_0_hp358_113 (p1 : Int32) (y11_152_40 : Int32) (x209_92 : Int32) (hy11_152_40 : y11_152_40 = (p1 &&& (127 : Int32))) (hx209_92 : x209_92 = ((y11_152_40 ||| (128 : Int32)).toInt8.toInt32))  : ¬ ((((nar .byte x209_92) &&& (255 : Int32))) < (128 : Int32)) := by
  have g := own_g0 p1 y11_152_40 hy11_152_40
  have b := own_hi y11_152_40 x209_92 (by omega) hx209_92
  rw [Int32.lt_iff_toInt_lt, b]
  simp only [Int32.reduceToInt]
  omega
theorem own_0_hp358_114 (p4 : Int32) (y9_34_5 : Int32) (hy9_34_5 : y9_34_5 = ((3 : Int32) + ((p4 &&& (2147483647 : Int32)) % (((11 : Int32) - (0 : Int32)) - (3 : Int32)))))  : ¬ ((1 : Int32) = y9_34_5) := by
  have r := own_len p4 y9_34_5 (0 : Int32) (3 : Int32) _ rfl (by decide) (by decide) hy9_34_5
  clear hy9_34_5
  simp only [Int32.reduceToInt] at r
  rw [← Int32.toInt_inj]
  simp only [Int32.reduceToInt]
  omega
theorem own_0_hp358_115 (p1 : Int32) (y12_161_42 : Int32) (x240_95 : Int32) (hy12_161_42 : y12_161_42 = (((p1.toUInt32 >>> ((7 : Int32) &&& 31).toUInt32).toInt32) &&& (127 : Int32))) (hx240_95 : x240_95 = ((y12_161_42 ||| (128 : Int32)).toInt8.toInt32))  : ¬ ((((nar .byte x240_95) &&& (255 : Int32))) < (128 : Int32)) := by
  have g : y12_161_42.toInt = ((p1.toInt % 4294967296) / 128) % 128 := own_g p1 y12_161_42 (7 : Int32) 7 (by decide) (by decide) hy12_161_42
  have b := own_hi y12_161_42 x240_95 (by omega) hx240_95
  rw [Int32.lt_iff_toInt_lt, b]
  simp only [Int32.reduceToInt]
  omega
theorem own_0_hp358_116 (p4 : Int32) (y9_34_5 : Int32) (hy9_34_5 : y9_34_5 = ((3 : Int32) + ((p4 &&& (2147483647 : Int32)) % (((11 : Int32) - (0 : Int32)) - (3 : Int32)))))  : ¬ ((2 : Int32) = y9_34_5) := by
  have r := own_len p4 y9_34_5 (0 : Int32) (3 : Int32) _ rfl (by decide) (by decide) hy9_34_5
  clear hy9_34_5
  simp only [Int32.reduceToInt] at r
  rw [← Int32.toInt_inj]
  simp only [Int32.reduceToInt]
  omega
theorem own_0_hp358_117 (p1 : Int32) (y13_170_44 : Int32) (x271_98 : Int32) (hy13_170_44 : y13_170_44 = (((p1.toUInt32 >>> ((14 : Int32) &&& 31).toUInt32).toInt32) &&& (127 : Int32))) (hx271_98 : x271_98 = (y13_170_44.toInt8.toInt32))  : (((nar .byte x271_98) &&& (255 : Int32))) < (128 : Int32) := by
  have g : y13_170_44.toInt = ((p1.toInt % 4294967296) / 16384) % 128 := own_g p1 y13_170_44 (14 : Int32) 14 (by decide) (by decide) hy13_170_44
  have b := own_lo y13_170_44 x271_98 (by omega) hx271_98
  rw [Int32.lt_iff_toInt_lt, b]
  simp only [Int32.reduceToInt]
  omega
theorem own_0_hp358_118 (p1 : Int32) (y11_152_40 : Int32) (x209_92 : Int32) (y12_161_42 : Int32) (x240_95 : Int32) (y13_170_44 : Int32) (x271_98 : Int32) (hy11_152_40 : y11_152_40 = (p1 &&& (127 : Int32))) (hx209_92 : x209_92 = ((y11_152_40 ||| (128 : Int32)).toInt8.toInt32)) (hy12_161_42 : y12_161_42 = (((p1.toUInt32 >>> ((7 : Int32) &&& 31).toUInt32).toInt32) &&& (127 : Int32))) (hx240_95 : x240_95 = ((y12_161_42 ||| (128 : Int32)).toInt8.toInt32)) (hy13_170_44 : y13_170_44 = (((p1.toUInt32 >>> ((14 : Int32) &&& 31).toUInt32).toInt32) &&& (127 : Int32))) (hx271_98 : x271_98 = (y13_170_44.toInt8.toInt32))  : ¬ ((4294967295 : Int64) < (((((((0 : Int64) ||| ((((((nar .byte x209_92) &&& (255 : Int32))) &&& (127 : Int32)).toInt64) <<< ((0 : Int32) &&& 0x3f).toInt64))) ||| ((((((nar .byte x240_95) &&& (255 : Int32))) &&& (127 : Int32)).toInt64) <<< ((7 : Int32) &&& 0x3f).toInt64))) ||| ((((((nar .byte x271_98) &&& (255 : Int32))) &&& (127 : Int32)).toInt64) <<< ((14 : Int32) &&& 0x3f).toInt64)))) := by
  have g0 := own_g0 p1 y11_152_40 hy11_152_40
  have b0 := own_hi y11_152_40 x209_92 (by omega) hx209_92
  have g1 : y12_161_42.toInt = ((p1.toInt % 4294967296) / 128) % 128 := own_g p1 y12_161_42 (7 : Int32) 7 (by decide) (by decide) hy12_161_42
  have b1 := own_hi y12_161_42 x240_95 (by omega) hx240_95
  have g2 : y13_170_44.toInt = ((p1.toInt % 4294967296) / 16384) % 128 := own_g p1 y13_170_44 (14 : Int32) 14 (by decide) (by decide) hy13_170_44
  have b2 := own_lo y13_170_44 x271_98 (by omega) hx271_98
  have n0 := own_7 ((nar .byte x209_92) &&& (255 : Int32))
  rw [b0] at n0
  generalize ((((nar .byte x209_92) &&& (255 : Int32)) &&& (127 : Int32)).toInt64) = A0 at *
  have s0 := c_lshl A0 (0 : Int32) 0 (by decide)
  generalize (A0 <<< ((0 : Int32) &&& 0x3f).toInt64) = S0 at *
  have q0 := rng64 S0
  have e0 : S0.toInt = y11_152_40.toInt * 1 := by omega
  clear s0 q0 n0 b0
  have o0 := c_orL' (0 : Int64) S0 0 (by decide) 1 rfl (by omega) (by first | decide | omega) (by first | decide | omega)
  generalize ((0 : Int64) ||| S0) = O0 at *
  have f0 := rng64 O0
  have d0 : O0.toInt = y11_152_40.toInt := by simp only [Int64.reduceToInt] at o0; omega
  clear o0 f0 e0
  have n1 := own_7 ((nar .byte x240_95) &&& (255 : Int32))
  rw [b1] at n1
  generalize ((((nar .byte x240_95) &&& (255 : Int32)) &&& (127 : Int32)).toInt64) = A1 at *
  have s1 := c_lshl A1 (7 : Int32) 7 (by decide)
  generalize (A1 <<< ((7 : Int32) &&& 0x3f).toInt64) = S1 at *
  have q1 := rng64 S1
  have e1 : S1.toInt = y12_161_42.toInt * 128 := by omega
  clear s1 q1 n1 b1
  have o1 := c_orL' O0 S1 7 (by decide) 128 rfl (by omega) (by first | decide | omega) (by first | decide | omega)
  generalize (O0 ||| S1) = O1 at *
  have f1 := rng64 O1
  have d1 : O1.toInt = O0.toInt + y12_161_42.toInt * 128 := by omega
  clear o1 f1 e1
  have n2 := own_7 ((nar .byte x271_98) &&& (255 : Int32))
  rw [b2] at n2
  generalize ((((nar .byte x271_98) &&& (255 : Int32)) &&& (127 : Int32)).toInt64) = A2 at *
  have s2 := c_lshl A2 (14 : Int32) 14 (by decide)
  generalize (A2 <<< ((14 : Int32) &&& 0x3f).toInt64) = S2 at *
  have q2 := rng64 S2
  have e2 : S2.toInt = y13_170_44.toInt * 16384 := by omega
  clear s2 q2 n2 b2
  have o2 := c_orL' O1 S2 14 (by decide) 16384 rfl (by omega) (by first | decide | omega) (by first | decide | omega)
  generalize (O1 ||| S2) = O2 at *
  have f2 := rng64 O2
  have d2 : O2.toInt = O1.toInt + y13_170_44.toInt * 16384 := by omega
  clear o2 f2 e2
  rw [Int64.lt_iff_toInt_lt]
  simp only [Int64.reduceToInt]
  omega
theorem own_0_hc364_120 (p1 : Int32) (y11_152_40 : Int32) (x209_92 : Int32) (y12_161_42 : Int32) (x240_95 : Int32) (y13_170_44 : Int32) (x271_98 : Int32) (r358_119 : Int64) (y16_325_101 : Int64) (y18_350_103 : Int64) (hy11_152_40 : y11_152_40 = (p1 &&& (127 : Int32))) (hx209_92 : x209_92 = ((y11_152_40 ||| (128 : Int32)).toInt8.toInt32)) (hy12_161_42 : y12_161_42 = (((p1.toUInt32 >>> ((7 : Int32) &&& 31).toUInt32).toInt32) &&& (127 : Int32))) (hx240_95 : x240_95 = ((y12_161_42 ||| (128 : Int32)).toInt8.toInt32)) (hy13_170_44 : y13_170_44 = (((p1.toUInt32 >>> ((14 : Int32) &&& 31).toUInt32).toInt32) &&& (127 : Int32))) (hx271_98 : x271_98 = (y13_170_44.toInt8.toInt32)) (hr358_119 : r358_119 = (((((((0 : Int64) ||| ((((((nar .byte x209_92) &&& (255 : Int32))) &&& (127 : Int32)).toInt64) <<< ((0 : Int32) &&& 0x3f).toInt64))) ||| ((((((nar .byte x240_95) &&& (255 : Int32))) &&& (127 : Int32)).toInt64) <<< ((7 : Int32) &&& 0x3f).toInt64))) ||| ((((((nar .byte x271_98) &&& (255 : Int32))) &&& (127 : Int32)).toInt64) <<< ((14 : Int32) &&& 0x3f).toInt64)))) (hy16_325_101 : y16_325_101 = ((p1.toInt64) &&& (4294967295 : Int64))) (hy18_350_103 : y18_350_103 = (y16_325_101 &&& (((1 : Int64) <<< ((21 : Int32) &&& 0x3f).toInt64) - (1 : Int64))))  : r358_119 = y18_350_103 := by
  have g0 := own_g0 p1 y11_152_40 hy11_152_40
  have b0 := own_hi y11_152_40 x209_92 (by omega) hx209_92
  have g1 : y12_161_42.toInt = ((p1.toInt % 4294967296) / 128) % 128 := own_g p1 y12_161_42 (7 : Int32) 7 (by decide) (by decide) hy12_161_42
  have b1 := own_hi y12_161_42 x240_95 (by omega) hx240_95
  have g2 : y13_170_44.toInt = ((p1.toInt % 4294967296) / 16384) % 128 := own_g p1 y13_170_44 (14 : Int32) 14 (by decide) (by decide) hy13_170_44
  have b2 := own_lo y13_170_44 x271_98 (by omega) hx271_98
  have n0 := own_7 ((nar .byte x209_92) &&& (255 : Int32))
  rw [b0] at n0
  generalize ((((nar .byte x209_92) &&& (255 : Int32)) &&& (127 : Int32)).toInt64) = A0 at *
  have s0 := c_lshl A0 (0 : Int32) 0 (by decide)
  generalize (A0 <<< ((0 : Int32) &&& 0x3f).toInt64) = S0 at *
  have q0 := rng64 S0
  have e0 : S0.toInt = y11_152_40.toInt * 1 := by omega
  clear s0 q0 n0 b0
  have o0 := c_orL' (0 : Int64) S0 0 (by decide) 1 rfl (by omega) (by first | decide | omega) (by first | decide | omega)
  generalize ((0 : Int64) ||| S0) = O0 at *
  have f0 := rng64 O0
  have d0 : O0.toInt = y11_152_40.toInt := by simp only [Int64.reduceToInt] at o0; omega
  clear o0 f0 e0
  have n1 := own_7 ((nar .byte x240_95) &&& (255 : Int32))
  rw [b1] at n1
  generalize ((((nar .byte x240_95) &&& (255 : Int32)) &&& (127 : Int32)).toInt64) = A1 at *
  have s1 := c_lshl A1 (7 : Int32) 7 (by decide)
  generalize (A1 <<< ((7 : Int32) &&& 0x3f).toInt64) = S1 at *
  have q1 := rng64 S1
  have e1 : S1.toInt = y12_161_42.toInt * 128 := by omega
  clear s1 q1 n1 b1
  have o1 := c_orL' O0 S1 7 (by decide) 128 rfl (by omega) (by first | decide | omega) (by first | decide | omega)
  generalize (O0 ||| S1) = O1 at *
  have f1 := rng64 O1
  have d1 : O1.toInt = O0.toInt + y12_161_42.toInt * 128 := by omega
  clear o1 f1 e1
  have n2 := own_7 ((nar .byte x271_98) &&& (255 : Int32))
  rw [b2] at n2
  generalize ((((nar .byte x271_98) &&& (255 : Int32)) &&& (127 : Int32)).toInt64) = A2 at *
  have s2 := c_lshl A2 (14 : Int32) 14 (by decide)
  generalize (A2 <<< ((14 : Int32) &&& 0x3f).toInt64) = S2 at *
  have q2 := rng64 S2
  have e2 : S2.toInt = y13_170_44.toInt * 16384 := by omega
  clear s2 q2 n2 b2
  have o2 := c_orL' O1 S2 14 (by decide) 16384 rfl (by omega) (by first | decide | omega) (by first | decide | omega)
  generalize (O1 ||| S2) = O2 at *
  have f2 := rng64 O2
  have d2 : O2.toInt = O1.toInt + y13_170_44.toInt * 16384 := by omega
  clear o2 f2 e2
  have u1 : y16_325_101.toInt = p1.toInt % 4294967296 := by rw [hy16_325_101, ← c_i2l p1]; exact c_maskL p1.toInt64 (4294967295 : Int64) 32 (by decide) (by decide)
  have u2 : y18_350_103.toInt = y16_325_101.toInt % 2097152 := by rw [hy18_350_103]; exact c_maskL y16_325_101 _ 21 (by decide) (by decide)
  rw [← Int64.toInt_inj, hr358_119]
  omega
theorem own_0_hp358_143 (p4 : Int32) (y9_34_5 : Int32) (hy9_34_5 : y9_34_5 = ((4 : Int32) + ((p4 &&& (2147483647 : Int32)) % (((11 : Int32) - (0 : Int32)) - (4 : Int32)))))  : ¬ ((((10 : Int32) ||| (0 : Int32)) ||| y9_34_5) < (0 : Int32)) := by
  have r := own_len p4 y9_34_5 (0 : Int32) (4 : Int32) _ rfl (by decide) (by decide) hy9_34_5
  clear hy9_34_5
  simp only [Int32.reduceToInt] at r
  have a := (c_orS ((10 : Int32) ||| (0 : Int32)) y9_34_5).1 (by decide) (by omega)
  rw [Int32.lt_iff_toInt_lt]
  simp only [Int32.reduceToInt] at *
  omega
theorem own_0_hp358_144 (p4 : Int32) (y9_34_5 : Int32) (hy9_34_5 : y9_34_5 = ((4 : Int32) + ((p4 &&& (2147483647 : Int32)) % (((11 : Int32) - (0 : Int32)) - (4 : Int32)))))  : ¬ (((10 : Int32) - (0 : Int32)) < y9_34_5) := by
  have r := own_len p4 y9_34_5 (0 : Int32) (4 : Int32) _ rfl (by decide) (by decide) hy9_34_5
  clear hy9_34_5
  simp only [Int32.reduceToInt] at r
  have e : (((10 : Int32) - (0 : Int32))) = (10 : Int32) := by decide
  rw [e, Int32.lt_iff_toInt_lt]
  simp only [Int32.reduceToInt]
  omega
theorem own_0_hp358_145 (p4 : Int32) (y9_34_5 : Int32) (hy9_34_5 : y9_34_5 = ((4 : Int32) + ((p4 &&& (2147483647 : Int32)) % (((11 : Int32) - (0 : Int32)) - (4 : Int32)))))  : ¬ ((0 : Int32) = y9_34_5) := by
  have r := own_len p4 y9_34_5 (0 : Int32) (4 : Int32) _ rfl (by decide) (by decide) hy9_34_5
  clear hy9_34_5
  simp only [Int32.reduceToInt] at r
  rw [← Int32.toInt_inj]
  simp only [Int32.reduceToInt]
  omega
theorem own_0_hp358_146 (p1 : Int32) (y11_152_40 : Int32) (x209_121 : Int32) (hy11_152_40 : y11_152_40 = (p1 &&& (127 : Int32))) (hx209_121 : x209_121 = ((y11_152_40 ||| (128 : Int32)).toInt8.toInt32))  : ¬ ((((nar .byte x209_121) &&& (255 : Int32))) < (128 : Int32)) := by
  have g := own_g0 p1 y11_152_40 hy11_152_40
  have b := own_hi y11_152_40 x209_121 (by omega) hx209_121
  rw [Int32.lt_iff_toInt_lt, b]
  simp only [Int32.reduceToInt]
  omega
theorem own_0_hp358_147 (p4 : Int32) (y9_34_5 : Int32) (hy9_34_5 : y9_34_5 = ((4 : Int32) + ((p4 &&& (2147483647 : Int32)) % (((11 : Int32) - (0 : Int32)) - (4 : Int32)))))  : ¬ ((1 : Int32) = y9_34_5) := by
  have r := own_len p4 y9_34_5 (0 : Int32) (4 : Int32) _ rfl (by decide) (by decide) hy9_34_5
  clear hy9_34_5
  simp only [Int32.reduceToInt] at r
  rw [← Int32.toInt_inj]
  simp only [Int32.reduceToInt]
  omega
theorem own_0_hp358_148 (p1 : Int32) (y12_161_42 : Int32) (x240_124 : Int32) (hy12_161_42 : y12_161_42 = (((p1.toUInt32 >>> ((7 : Int32) &&& 31).toUInt32).toInt32) &&& (127 : Int32))) (hx240_124 : x240_124 = ((y12_161_42 ||| (128 : Int32)).toInt8.toInt32))  : ¬ ((((nar .byte x240_124) &&& (255 : Int32))) < (128 : Int32)) := by
  have g : y12_161_42.toInt = ((p1.toInt % 4294967296) / 128) % 128 := own_g p1 y12_161_42 (7 : Int32) 7 (by decide) (by decide) hy12_161_42
  have b := own_hi y12_161_42 x240_124 (by omega) hx240_124
  rw [Int32.lt_iff_toInt_lt, b]
  simp only [Int32.reduceToInt]
  omega
theorem own_0_hp358_149 (p4 : Int32) (y9_34_5 : Int32) (hy9_34_5 : y9_34_5 = ((4 : Int32) + ((p4 &&& (2147483647 : Int32)) % (((11 : Int32) - (0 : Int32)) - (4 : Int32)))))  : ¬ ((2 : Int32) = y9_34_5) := by
  have r := own_len p4 y9_34_5 (0 : Int32) (4 : Int32) _ rfl (by decide) (by decide) hy9_34_5
  clear hy9_34_5
  simp only [Int32.reduceToInt] at r
  rw [← Int32.toInt_inj]
  simp only [Int32.reduceToInt]
  omega
theorem own_0_hp358_150 (p1 : Int32) (y13_170_44 : Int32) (x271_127 : Int32) (hy13_170_44 : y13_170_44 = (((p1.toUInt32 >>> ((14 : Int32) &&& 31).toUInt32).toInt32) &&& (127 : Int32))) (hx271_127 : x271_127 = ((y13_170_44 ||| (128 : Int32)).toInt8.toInt32))  : ¬ ((((nar .byte x271_127) &&& (255 : Int32))) < (128 : Int32)) := by
  have g : y13_170_44.toInt = ((p1.toInt % 4294967296) / 16384) % 128 := own_g p1 y13_170_44 (14 : Int32) 14 (by decide) (by decide) hy13_170_44
  have b := own_hi y13_170_44 x271_127 (by omega) hx271_127
  rw [Int32.lt_iff_toInt_lt, b]
  simp only [Int32.reduceToInt]
  omega
theorem own_0_hp358_151 (p4 : Int32) (y9_34_5 : Int32) (hy9_34_5 : y9_34_5 = ((4 : Int32) + ((p4 &&& (2147483647 : Int32)) % (((11 : Int32) - (0 : Int32)) - (4 : Int32)))))  : ¬ ((3 : Int32) = y9_34_5) := by
  have r := own_len p4 y9_34_5 (0 : Int32) (4 : Int32) _ rfl (by decide) (by decide) hy9_34_5
  clear hy9_34_5
  simp only [Int32.reduceToInt] at r
  rw [← Int32.toInt_inj]
  simp only [Int32.reduceToInt]
  omega
theorem own_0_hp358_152 (p1 : Int32) (y14_179_46 : Int32) (x302_130 : Int32) (hy14_179_46 : y14_179_46 = (((p1.toUInt32 >>> ((21 : Int32) &&& 31).toUInt32).toInt32) &&& (127 : Int32))) (hx302_130 : x302_130 = (y14_179_46.toInt8.toInt32))  : (((nar .byte x302_130) &&& (255 : Int32))) < (128 : Int32) := by
  have g : y14_179_46.toInt = ((p1.toInt % 4294967296) / 2097152) % 128 := own_g p1 y14_179_46 (21 : Int32) 21 (by decide) (by decide) hy14_179_46
  have b := own_lo y14_179_46 x302_130 (by omega) hx302_130
  rw [Int32.lt_iff_toInt_lt, b]
  simp only [Int32.reduceToInt]
  omega
theorem own_0_hp358_153 (p1 : Int32) (y11_152_40 : Int32) (x209_121 : Int32) (y12_161_42 : Int32) (x240_124 : Int32) (y13_170_44 : Int32) (x271_127 : Int32) (y14_179_46 : Int32) (x302_130 : Int32) (hy11_152_40 : y11_152_40 = (p1 &&& (127 : Int32))) (hx209_121 : x209_121 = ((y11_152_40 ||| (128 : Int32)).toInt8.toInt32)) (hy12_161_42 : y12_161_42 = (((p1.toUInt32 >>> ((7 : Int32) &&& 31).toUInt32).toInt32) &&& (127 : Int32))) (hx240_124 : x240_124 = ((y12_161_42 ||| (128 : Int32)).toInt8.toInt32)) (hy13_170_44 : y13_170_44 = (((p1.toUInt32 >>> ((14 : Int32) &&& 31).toUInt32).toInt32) &&& (127 : Int32))) (hx271_127 : x271_127 = ((y13_170_44 ||| (128 : Int32)).toInt8.toInt32)) (hy14_179_46 : y14_179_46 = (((p1.toUInt32 >>> ((21 : Int32) &&& 31).toUInt32).toInt32) &&& (127 : Int32))) (hx302_130 : x302_130 = (y14_179_46.toInt8.toInt32))  : ¬ ((4294967295 : Int64) < (((((((((0 : Int64) ||| ((((((nar .byte x209_121) &&& (255 : Int32))) &&& (127 : Int32)).toInt64) <<< ((0 : Int32) &&& 0x3f).toInt64))) ||| ((((((nar .byte x240_124) &&& (255 : Int32))) &&& (127 : Int32)).toInt64) <<< ((7 : Int32) &&& 0x3f).toInt64))) ||| ((((((nar .byte x271_127) &&& (255 : Int32))) &&& (127 : Int32)).toInt64) <<< ((14 : Int32) &&& 0x3f).toInt64))) ||| ((((((nar .byte x302_130) &&& (255 : Int32))) &&& (127 : Int32)).toInt64) <<< ((21 : Int32) &&& 0x3f).toInt64)))) := by
  have g0 := own_g0 p1 y11_152_40 hy11_152_40
  have b0 := own_hi y11_152_40 x209_121 (by omega) hx209_121
  have g1 : y12_161_42.toInt = ((p1.toInt % 4294967296) / 128) % 128 := own_g p1 y12_161_42 (7 : Int32) 7 (by decide) (by decide) hy12_161_42
  have b1 := own_hi y12_161_42 x240_124 (by omega) hx240_124
  have g2 : y13_170_44.toInt = ((p1.toInt % 4294967296) / 16384) % 128 := own_g p1 y13_170_44 (14 : Int32) 14 (by decide) (by decide) hy13_170_44
  have b2 := own_hi y13_170_44 x271_127 (by omega) hx271_127
  have g3 : y14_179_46.toInt = ((p1.toInt % 4294967296) / 2097152) % 128 := own_g p1 y14_179_46 (21 : Int32) 21 (by decide) (by decide) hy14_179_46
  have b3 := own_lo y14_179_46 x302_130 (by omega) hx302_130
  have n0 := own_7 ((nar .byte x209_121) &&& (255 : Int32))
  rw [b0] at n0
  generalize ((((nar .byte x209_121) &&& (255 : Int32)) &&& (127 : Int32)).toInt64) = A0 at *
  have s0 := c_lshl A0 (0 : Int32) 0 (by decide)
  generalize (A0 <<< ((0 : Int32) &&& 0x3f).toInt64) = S0 at *
  have q0 := rng64 S0
  have e0 : S0.toInt = y11_152_40.toInt * 1 := by omega
  clear s0 q0 n0 b0
  have o0 := c_orL' (0 : Int64) S0 0 (by decide) 1 rfl (by omega) (by first | decide | omega) (by first | decide | omega)
  generalize ((0 : Int64) ||| S0) = O0 at *
  have f0 := rng64 O0
  have d0 : O0.toInt = y11_152_40.toInt := by simp only [Int64.reduceToInt] at o0; omega
  clear o0 f0 e0
  have n1 := own_7 ((nar .byte x240_124) &&& (255 : Int32))
  rw [b1] at n1
  generalize ((((nar .byte x240_124) &&& (255 : Int32)) &&& (127 : Int32)).toInt64) = A1 at *
  have s1 := c_lshl A1 (7 : Int32) 7 (by decide)
  generalize (A1 <<< ((7 : Int32) &&& 0x3f).toInt64) = S1 at *
  have q1 := rng64 S1
  have e1 : S1.toInt = y12_161_42.toInt * 128 := by omega
  clear s1 q1 n1 b1
  have o1 := c_orL' O0 S1 7 (by decide) 128 rfl (by omega) (by first | decide | omega) (by first | decide | omega)
  generalize (O0 ||| S1) = O1 at *
  have f1 := rng64 O1
  have d1 : O1.toInt = O0.toInt + y12_161_42.toInt * 128 := by omega
  clear o1 f1 e1
  have n2 := own_7 ((nar .byte x271_127) &&& (255 : Int32))
  rw [b2] at n2
  generalize ((((nar .byte x271_127) &&& (255 : Int32)) &&& (127 : Int32)).toInt64) = A2 at *
  have s2 := c_lshl A2 (14 : Int32) 14 (by decide)
  generalize (A2 <<< ((14 : Int32) &&& 0x3f).toInt64) = S2 at *
  have q2 := rng64 S2
  have e2 : S2.toInt = y13_170_44.toInt * 16384 := by omega
  clear s2 q2 n2 b2
  have o2 := c_orL' O1 S2 14 (by decide) 16384 rfl (by omega) (by first | decide | omega) (by first | decide | omega)
  generalize (O1 ||| S2) = O2 at *
  have f2 := rng64 O2
  have d2 : O2.toInt = O1.toInt + y13_170_44.toInt * 16384 := by omega
  clear o2 f2 e2
  have n3 := own_7 ((nar .byte x302_130) &&& (255 : Int32))
  rw [b3] at n3
  generalize ((((nar .byte x302_130) &&& (255 : Int32)) &&& (127 : Int32)).toInt64) = A3 at *
  have s3 := c_lshl A3 (21 : Int32) 21 (by decide)
  generalize (A3 <<< ((21 : Int32) &&& 0x3f).toInt64) = S3 at *
  have q3 := rng64 S3
  have e3 : S3.toInt = y14_179_46.toInt * 2097152 := by omega
  clear s3 q3 n3 b3
  have o3 := c_orL' O2 S3 21 (by decide) 2097152 rfl (by omega) (by first | decide | omega) (by first | decide | omega)
  generalize (O2 ||| S3) = O3 at *
  have f3 := rng64 O3
  have d3 : O3.toInt = O2.toInt + y14_179_46.toInt * 2097152 := by omega
  clear o3 f3 e3
  rw [Int64.lt_iff_toInt_lt]
  simp only [Int64.reduceToInt]
  omega
theorem own_0_hc364_155 (p1 : Int32) (y11_152_40 : Int32) (x209_121 : Int32) (y12_161_42 : Int32) (x240_124 : Int32) (y13_170_44 : Int32) (x271_127 : Int32) (y14_179_46 : Int32) (x302_130 : Int32) (r358_154 : Int64) (y16_325_133 : Int64) (y18_350_135 : Int64) (hy11_152_40 : y11_152_40 = (p1 &&& (127 : Int32))) (hx209_121 : x209_121 = ((y11_152_40 ||| (128 : Int32)).toInt8.toInt32)) (hy12_161_42 : y12_161_42 = (((p1.toUInt32 >>> ((7 : Int32) &&& 31).toUInt32).toInt32) &&& (127 : Int32))) (hx240_124 : x240_124 = ((y12_161_42 ||| (128 : Int32)).toInt8.toInt32)) (hy13_170_44 : y13_170_44 = (((p1.toUInt32 >>> ((14 : Int32) &&& 31).toUInt32).toInt32) &&& (127 : Int32))) (hx271_127 : x271_127 = ((y13_170_44 ||| (128 : Int32)).toInt8.toInt32)) (hy14_179_46 : y14_179_46 = (((p1.toUInt32 >>> ((21 : Int32) &&& 31).toUInt32).toInt32) &&& (127 : Int32))) (hx302_130 : x302_130 = (y14_179_46.toInt8.toInt32)) (hr358_154 : r358_154 = (((((((((0 : Int64) ||| ((((((nar .byte x209_121) &&& (255 : Int32))) &&& (127 : Int32)).toInt64) <<< ((0 : Int32) &&& 0x3f).toInt64))) ||| ((((((nar .byte x240_124) &&& (255 : Int32))) &&& (127 : Int32)).toInt64) <<< ((7 : Int32) &&& 0x3f).toInt64))) ||| ((((((nar .byte x271_127) &&& (255 : Int32))) &&& (127 : Int32)).toInt64) <<< ((14 : Int32) &&& 0x3f).toInt64))) ||| ((((((nar .byte x302_130) &&& (255 : Int32))) &&& (127 : Int32)).toInt64) <<< ((21 : Int32) &&& 0x3f).toInt64)))) (hy16_325_133 : y16_325_133 = ((p1.toInt64) &&& (4294967295 : Int64))) (hy18_350_135 : y18_350_135 = (y16_325_133 &&& (((1 : Int64) <<< ((28 : Int32) &&& 0x3f).toInt64) - (1 : Int64))))  : r358_154 = y18_350_135 := by
  have g0 := own_g0 p1 y11_152_40 hy11_152_40
  have b0 := own_hi y11_152_40 x209_121 (by omega) hx209_121
  have g1 : y12_161_42.toInt = ((p1.toInt % 4294967296) / 128) % 128 := own_g p1 y12_161_42 (7 : Int32) 7 (by decide) (by decide) hy12_161_42
  have b1 := own_hi y12_161_42 x240_124 (by omega) hx240_124
  have g2 : y13_170_44.toInt = ((p1.toInt % 4294967296) / 16384) % 128 := own_g p1 y13_170_44 (14 : Int32) 14 (by decide) (by decide) hy13_170_44
  have b2 := own_hi y13_170_44 x271_127 (by omega) hx271_127
  have g3 : y14_179_46.toInt = ((p1.toInt % 4294967296) / 2097152) % 128 := own_g p1 y14_179_46 (21 : Int32) 21 (by decide) (by decide) hy14_179_46
  have b3 := own_lo y14_179_46 x302_130 (by omega) hx302_130
  have n0 := own_7 ((nar .byte x209_121) &&& (255 : Int32))
  rw [b0] at n0
  generalize ((((nar .byte x209_121) &&& (255 : Int32)) &&& (127 : Int32)).toInt64) = A0 at *
  have s0 := c_lshl A0 (0 : Int32) 0 (by decide)
  generalize (A0 <<< ((0 : Int32) &&& 0x3f).toInt64) = S0 at *
  have q0 := rng64 S0
  have e0 : S0.toInt = y11_152_40.toInt * 1 := by omega
  clear s0 q0 n0 b0
  have o0 := c_orL' (0 : Int64) S0 0 (by decide) 1 rfl (by omega) (by first | decide | omega) (by first | decide | omega)
  generalize ((0 : Int64) ||| S0) = O0 at *
  have f0 := rng64 O0
  have d0 : O0.toInt = y11_152_40.toInt := by simp only [Int64.reduceToInt] at o0; omega
  clear o0 f0 e0
  have n1 := own_7 ((nar .byte x240_124) &&& (255 : Int32))
  rw [b1] at n1
  generalize ((((nar .byte x240_124) &&& (255 : Int32)) &&& (127 : Int32)).toInt64) = A1 at *
  have s1 := c_lshl A1 (7 : Int32) 7 (by decide)
  generalize (A1 <<< ((7 : Int32) &&& 0x3f).toInt64) = S1 at *
  have q1 := rng64 S1
  have e1 : S1.toInt = y12_161_42.toInt * 128 := by omega
  clear s1 q1 n1 b1
  have o1 := c_orL' O0 S1 7 (by decide) 128 rfl (by omega) (by first | decide | omega) (by first | decide | omega)
  generalize (O0 ||| S1) = O1 at *
  have f1 := rng64 O1
  have d1 : O1.toInt = O0.toInt + y12_161_42.toInt * 128 := by omega
  clear o1 f1 e1
  have n2 := own_7 ((nar .byte x271_127) &&& (255 : Int32))
  rw [b2] at n2
  generalize ((((nar .byte x271_127) &&& (255 : Int32)) &&& (127 : Int32)).toInt64) = A2 at *
  have s2 := c_lshl A2 (14 : Int32) 14 (by decide)
  generalize (A2 <<< ((14 : Int32) &&& 0x3f).toInt64) = S2 at *
  have q2 := rng64 S2
  have e2 : S2.toInt = y13_170_44.toInt * 16384 := by omega
  clear s2 q2 n2 b2
  have o2 := c_orL' O1 S2 14 (by decide) 16384 rfl (by omega) (by first | decide | omega) (by first | decide | omega)
  generalize (O1 ||| S2) = O2 at *
  have f2 := rng64 O2
  have d2 : O2.toInt = O1.toInt + y13_170_44.toInt * 16384 := by omega
  clear o2 f2 e2
  have n3 := own_7 ((nar .byte x302_130) &&& (255 : Int32))
  rw [b3] at n3
  generalize ((((nar .byte x302_130) &&& (255 : Int32)) &&& (127 : Int32)).toInt64) = A3 at *
  have s3 := c_lshl A3 (21 : Int32) 21 (by decide)
  generalize (A3 <<< ((21 : Int32) &&& 0x3f).toInt64) = S3 at *
  have q3 := rng64 S3
  have e3 : S3.toInt = y14_179_46.toInt * 2097152 := by omega
  clear s3 q3 n3 b3
  have o3 := c_orL' O2 S3 21 (by decide) 2097152 rfl (by omega) (by first | decide | omega) (by first | decide | omega)
  generalize (O2 ||| S3) = O3 at *
  have f3 := rng64 O3
  have d3 : O3.toInt = O2.toInt + y14_179_46.toInt * 2097152 := by omega
  clear o3 f3 e3
  have u1 : y16_325_133.toInt = p1.toInt % 4294967296 := by rw [hy16_325_133, ← c_i2l p1]; exact c_maskL p1.toInt64 (4294967295 : Int64) 32 (by decide) (by decide)
  have u2 : y18_350_135.toInt = y16_325_133.toInt % 268435456 := by rw [hy18_350_135]; exact c_maskL y16_325_133 _ 28 (by decide) (by decide)
  rw [← Int64.toInt_inj, hr358_154]
  omega
theorem own_0_hp358_181 (p4 : Int32) (y9_34_5 : Int32) (hy9_34_5 : y9_34_5 = ((5 : Int32) + ((p4 &&& (2147483647 : Int32)) % (((11 : Int32) - (0 : Int32)) - (5 : Int32)))))  : ¬ ((((10 : Int32) ||| (0 : Int32)) ||| y9_34_5) < (0 : Int32)) := by
  have r := own_len p4 y9_34_5 (0 : Int32) (5 : Int32) _ rfl (by decide) (by decide) hy9_34_5
  clear hy9_34_5
  simp only [Int32.reduceToInt] at r
  have a := (c_orS ((10 : Int32) ||| (0 : Int32)) y9_34_5).1 (by decide) (by omega)
  rw [Int32.lt_iff_toInt_lt]
  simp only [Int32.reduceToInt] at *
  omega
theorem own_0_hp358_182 (p4 : Int32) (y9_34_5 : Int32) (hy9_34_5 : y9_34_5 = ((5 : Int32) + ((p4 &&& (2147483647 : Int32)) % (((11 : Int32) - (0 : Int32)) - (5 : Int32)))))  : ¬ (((10 : Int32) - (0 : Int32)) < y9_34_5) := by
  have r := own_len p4 y9_34_5 (0 : Int32) (5 : Int32) _ rfl (by decide) (by decide) hy9_34_5
  clear hy9_34_5
  simp only [Int32.reduceToInt] at r
  have e : (((10 : Int32) - (0 : Int32))) = (10 : Int32) := by decide
  rw [e, Int32.lt_iff_toInt_lt]
  simp only [Int32.reduceToInt]
  omega
theorem own_0_hp358_183 (p4 : Int32) (y9_34_5 : Int32) (hy9_34_5 : y9_34_5 = ((5 : Int32) + ((p4 &&& (2147483647 : Int32)) % (((11 : Int32) - (0 : Int32)) - (5 : Int32)))))  : ¬ ((0 : Int32) = y9_34_5) := by
  have r := own_len p4 y9_34_5 (0 : Int32) (5 : Int32) _ rfl (by decide) (by decide) hy9_34_5
  clear hy9_34_5
  simp only [Int32.reduceToInt] at r
  rw [← Int32.toInt_inj]
  simp only [Int32.reduceToInt]
  omega
theorem own_0_hp358_184 (p1 : Int32) (y11_152_40 : Int32) (x209_156 : Int32) (hy11_152_40 : y11_152_40 = (p1 &&& (127 : Int32))) (hx209_156 : x209_156 = ((y11_152_40 ||| (128 : Int32)).toInt8.toInt32))  : ¬ ((((nar .byte x209_156) &&& (255 : Int32))) < (128 : Int32)) := by
  have g := own_g0 p1 y11_152_40 hy11_152_40
  have b := own_hi y11_152_40 x209_156 (by omega) hx209_156
  rw [Int32.lt_iff_toInt_lt, b]
  simp only [Int32.reduceToInt]
  omega
theorem own_0_hp358_185 (p4 : Int32) (y9_34_5 : Int32) (hy9_34_5 : y9_34_5 = ((5 : Int32) + ((p4 &&& (2147483647 : Int32)) % (((11 : Int32) - (0 : Int32)) - (5 : Int32)))))  : ¬ ((1 : Int32) = y9_34_5) := by
  have r := own_len p4 y9_34_5 (0 : Int32) (5 : Int32) _ rfl (by decide) (by decide) hy9_34_5
  clear hy9_34_5
  simp only [Int32.reduceToInt] at r
  rw [← Int32.toInt_inj]
  simp only [Int32.reduceToInt]
  omega
theorem own_0_hp358_186 (p1 : Int32) (y12_161_42 : Int32) (x240_159 : Int32) (hy12_161_42 : y12_161_42 = (((p1.toUInt32 >>> ((7 : Int32) &&& 31).toUInt32).toInt32) &&& (127 : Int32))) (hx240_159 : x240_159 = ((y12_161_42 ||| (128 : Int32)).toInt8.toInt32))  : ¬ ((((nar .byte x240_159) &&& (255 : Int32))) < (128 : Int32)) := by
  have g : y12_161_42.toInt = ((p1.toInt % 4294967296) / 128) % 128 := own_g p1 y12_161_42 (7 : Int32) 7 (by decide) (by decide) hy12_161_42
  have b := own_hi y12_161_42 x240_159 (by omega) hx240_159
  rw [Int32.lt_iff_toInt_lt, b]
  simp only [Int32.reduceToInt]
  omega
theorem own_0_hp358_187 (p4 : Int32) (y9_34_5 : Int32) (hy9_34_5 : y9_34_5 = ((5 : Int32) + ((p4 &&& (2147483647 : Int32)) % (((11 : Int32) - (0 : Int32)) - (5 : Int32)))))  : ¬ ((2 : Int32) = y9_34_5) := by
  have r := own_len p4 y9_34_5 (0 : Int32) (5 : Int32) _ rfl (by decide) (by decide) hy9_34_5
  clear hy9_34_5
  simp only [Int32.reduceToInt] at r
  rw [← Int32.toInt_inj]
  simp only [Int32.reduceToInt]
  omega
theorem own_0_hp358_188 (p1 : Int32) (y13_170_44 : Int32) (x271_162 : Int32) (hy13_170_44 : y13_170_44 = (((p1.toUInt32 >>> ((14 : Int32) &&& 31).toUInt32).toInt32) &&& (127 : Int32))) (hx271_162 : x271_162 = ((y13_170_44 ||| (128 : Int32)).toInt8.toInt32))  : ¬ ((((nar .byte x271_162) &&& (255 : Int32))) < (128 : Int32)) := by
  have g : y13_170_44.toInt = ((p1.toInt % 4294967296) / 16384) % 128 := own_g p1 y13_170_44 (14 : Int32) 14 (by decide) (by decide) hy13_170_44
  have b := own_hi y13_170_44 x271_162 (by omega) hx271_162
  rw [Int32.lt_iff_toInt_lt, b]
  simp only [Int32.reduceToInt]
  omega
theorem own_0_hp358_189 (p4 : Int32) (y9_34_5 : Int32) (hy9_34_5 : y9_34_5 = ((5 : Int32) + ((p4 &&& (2147483647 : Int32)) % (((11 : Int32) - (0 : Int32)) - (5 : Int32)))))  : ¬ ((3 : Int32) = y9_34_5) := by
  have r := own_len p4 y9_34_5 (0 : Int32) (5 : Int32) _ rfl (by decide) (by decide) hy9_34_5
  clear hy9_34_5
  simp only [Int32.reduceToInt] at r
  rw [← Int32.toInt_inj]
  simp only [Int32.reduceToInt]
  omega
theorem own_0_hp358_190 (p1 : Int32) (y14_179_46 : Int32) (x302_165 : Int32) (hy14_179_46 : y14_179_46 = (((p1.toUInt32 >>> ((21 : Int32) &&& 31).toUInt32).toInt32) &&& (127 : Int32))) (hx302_165 : x302_165 = ((y14_179_46 ||| (128 : Int32)).toInt8.toInt32))  : ¬ ((((nar .byte x302_165) &&& (255 : Int32))) < (128 : Int32)) := by
  have g : y14_179_46.toInt = ((p1.toInt % 4294967296) / 2097152) % 128 := own_g p1 y14_179_46 (21 : Int32) 21 (by decide) (by decide) hy14_179_46
  have b := own_hi y14_179_46 x302_165 (by omega) hx302_165
  rw [Int32.lt_iff_toInt_lt, b]
  simp only [Int32.reduceToInt]
  omega
theorem own_0_hp358_191 (p4 : Int32) (y9_34_5 : Int32) (hy9_34_5 : y9_34_5 = ((5 : Int32) + ((p4 &&& (2147483647 : Int32)) % (((11 : Int32) - (0 : Int32)) - (5 : Int32)))))  : ¬ ((4 : Int32) = y9_34_5) := by
  have r := own_len p4 y9_34_5 (0 : Int32) (5 : Int32) _ rfl (by decide) (by decide) hy9_34_5
  clear hy9_34_5
  simp only [Int32.reduceToInt] at r
  rw [← Int32.toInt_inj]
  simp only [Int32.reduceToInt]
  omega
theorem own_0_hp358_192 (p1 : Int32) (y15_185_48 : Int32) (x318_168 : Int32) (hy15_185_48 : y15_185_48 = ((p1.toUInt32 >>> ((28 : Int32) &&& 31).toUInt32).toInt32)) (hx318_168 : x318_168 = (y15_185_48.toInt8.toInt32))  : (((nar .byte x318_168) &&& (255 : Int32))) < (128 : Int32) := by
  have g : y15_185_48.toInt = (p1.toInt % 4294967296) / 268435456 := by rw [hy15_185_48]; exact c_iushr p1 (28 : Int32) 28 (by decide) (by decide)
  have b := own_lo y15_185_48 x318_168 (by omega) hx318_168
  rw [Int32.lt_iff_toInt_lt, b]
  simp only [Int32.reduceToInt]
  omega
theorem own_0_hp358_193 (p1 : Int32) (y11_152_40 : Int32) (x209_156 : Int32) (y12_161_42 : Int32) (x240_159 : Int32) (y13_170_44 : Int32) (x271_162 : Int32) (y14_179_46 : Int32) (x302_165 : Int32) (y15_185_48 : Int32) (x318_168 : Int32) (hy11_152_40 : y11_152_40 = (p1 &&& (127 : Int32))) (hx209_156 : x209_156 = ((y11_152_40 ||| (128 : Int32)).toInt8.toInt32)) (hy12_161_42 : y12_161_42 = (((p1.toUInt32 >>> ((7 : Int32) &&& 31).toUInt32).toInt32) &&& (127 : Int32))) (hx240_159 : x240_159 = ((y12_161_42 ||| (128 : Int32)).toInt8.toInt32)) (hy13_170_44 : y13_170_44 = (((p1.toUInt32 >>> ((14 : Int32) &&& 31).toUInt32).toInt32) &&& (127 : Int32))) (hx271_162 : x271_162 = ((y13_170_44 ||| (128 : Int32)).toInt8.toInt32)) (hy14_179_46 : y14_179_46 = (((p1.toUInt32 >>> ((21 : Int32) &&& 31).toUInt32).toInt32) &&& (127 : Int32))) (hx302_165 : x302_165 = ((y14_179_46 ||| (128 : Int32)).toInt8.toInt32)) (hy15_185_48 : y15_185_48 = ((p1.toUInt32 >>> ((28 : Int32) &&& 31).toUInt32).toInt32)) (hx318_168 : x318_168 = (y15_185_48.toInt8.toInt32))  : ¬ ((4294967295 : Int64) < (((((((((((0 : Int64) ||| ((((((nar .byte x209_156) &&& (255 : Int32))) &&& (127 : Int32)).toInt64) <<< ((0 : Int32) &&& 0x3f).toInt64))) ||| ((((((nar .byte x240_159) &&& (255 : Int32))) &&& (127 : Int32)).toInt64) <<< ((7 : Int32) &&& 0x3f).toInt64))) ||| ((((((nar .byte x271_162) &&& (255 : Int32))) &&& (127 : Int32)).toInt64) <<< ((14 : Int32) &&& 0x3f).toInt64))) ||| ((((((nar .byte x302_165) &&& (255 : Int32))) &&& (127 : Int32)).toInt64) <<< ((21 : Int32) &&& 0x3f).toInt64))) ||| ((((((nar .byte x318_168) &&& (255 : Int32))) &&& (127 : Int32)).toInt64) <<< ((28 : Int32) &&& 0x3f).toInt64)))) := by
  have g0 := own_g0 p1 y11_152_40 hy11_152_40
  have b0 := own_hi y11_152_40 x209_156 (by omega) hx209_156
  have g1 : y12_161_42.toInt = ((p1.toInt % 4294967296) / 128) % 128 := own_g p1 y12_161_42 (7 : Int32) 7 (by decide) (by decide) hy12_161_42
  have b1 := own_hi y12_161_42 x240_159 (by omega) hx240_159
  have g2 : y13_170_44.toInt = ((p1.toInt % 4294967296) / 16384) % 128 := own_g p1 y13_170_44 (14 : Int32) 14 (by decide) (by decide) hy13_170_44
  have b2 := own_hi y13_170_44 x271_162 (by omega) hx271_162
  have g3 : y14_179_46.toInt = ((p1.toInt % 4294967296) / 2097152) % 128 := own_g p1 y14_179_46 (21 : Int32) 21 (by decide) (by decide) hy14_179_46
  have b3 := own_hi y14_179_46 x302_165 (by omega) hx302_165
  have g4 : y15_185_48.toInt = (p1.toInt % 4294967296) / 268435456 := by rw [hy15_185_48]; exact c_iushr p1 (28 : Int32) 28 (by decide) (by decide)
  have b4 := own_lo y15_185_48 x318_168 (by omega) hx318_168
  have n0 := own_7 ((nar .byte x209_156) &&& (255 : Int32))
  rw [b0] at n0
  generalize ((((nar .byte x209_156) &&& (255 : Int32)) &&& (127 : Int32)).toInt64) = A0 at *
  have s0 := c_lshl A0 (0 : Int32) 0 (by decide)
  generalize (A0 <<< ((0 : Int32) &&& 0x3f).toInt64) = S0 at *
  have q0 := rng64 S0
  have e0 : S0.toInt = y11_152_40.toInt * 1 := by omega
  clear s0 q0 n0 b0
  have o0 := c_orL' (0 : Int64) S0 0 (by decide) 1 rfl (by omega) (by first | decide | omega) (by first | decide | omega)
  generalize ((0 : Int64) ||| S0) = O0 at *
  have f0 := rng64 O0
  have d0 : O0.toInt = y11_152_40.toInt := by simp only [Int64.reduceToInt] at o0; omega
  clear o0 f0 e0
  have n1 := own_7 ((nar .byte x240_159) &&& (255 : Int32))
  rw [b1] at n1
  generalize ((((nar .byte x240_159) &&& (255 : Int32)) &&& (127 : Int32)).toInt64) = A1 at *
  have s1 := c_lshl A1 (7 : Int32) 7 (by decide)
  generalize (A1 <<< ((7 : Int32) &&& 0x3f).toInt64) = S1 at *
  have q1 := rng64 S1
  have e1 : S1.toInt = y12_161_42.toInt * 128 := by omega
  clear s1 q1 n1 b1
  have o1 := c_orL' O0 S1 7 (by decide) 128 rfl (by omega) (by first | decide | omega) (by first | decide | omega)
  generalize (O0 ||| S1) = O1 at *
  have f1 := rng64 O1
  have d1 : O1.toInt = O0.toInt + y12_161_42.toInt * 128 := by omega
  clear o1 f1 e1
  have n2 := own_7 ((nar .byte x271_162) &&& (255 : Int32))
  rw [b2] at n2
  generalize ((((nar .byte x271_162) &&& (255 : Int32)) &&& (127 : Int32)).toInt64) = A2 at *
  have s2 := c_lshl A2 (14 : Int32) 14 (by decide)
  generalize (A2 <<< ((14 : Int32) &&& 0x3f).toInt64) = S2 at *
  have q2 := rng64 S2
  have e2 : S2.toInt = y13_170_44.toInt * 16384 := by omega
  clear s2 q2 n2 b2
  have o2 := c_orL' O1 S2 14 (by decide) 16384 rfl (by omega) (by first | decide | omega) (by first | decide | omega)
  generalize (O1 ||| S2) = O2 at *
  have f2 := rng64 O2
  have d2 : O2.toInt = O1.toInt + y13_170_44.toInt * 16384 := by omega
  clear o2 f2 e2
  have n3 := own_7 ((nar .byte x302_165) &&& (255 : Int32))
  rw [b3] at n3
  generalize ((((nar .byte x302_165) &&& (255 : Int32)) &&& (127 : Int32)).toInt64) = A3 at *
  have s3 := c_lshl A3 (21 : Int32) 21 (by decide)
  generalize (A3 <<< ((21 : Int32) &&& 0x3f).toInt64) = S3 at *
  have q3 := rng64 S3
  have e3 : S3.toInt = y14_179_46.toInt * 2097152 := by omega
  clear s3 q3 n3 b3
  have o3 := c_orL' O2 S3 21 (by decide) 2097152 rfl (by omega) (by first | decide | omega) (by first | decide | omega)
  generalize (O2 ||| S3) = O3 at *
  have f3 := rng64 O3
  have d3 : O3.toInt = O2.toInt + y14_179_46.toInt * 2097152 := by omega
  clear o3 f3 e3
  have n4 := own_7 ((nar .byte x318_168) &&& (255 : Int32))
  rw [b4] at n4
  generalize ((((nar .byte x318_168) &&& (255 : Int32)) &&& (127 : Int32)).toInt64) = A4 at *
  have s4 := c_lshl A4 (28 : Int32) 28 (by decide)
  generalize (A4 <<< ((28 : Int32) &&& 0x3f).toInt64) = S4 at *
  have q4 := rng64 S4
  have e4 : S4.toInt = y15_185_48.toInt * 268435456 := by omega
  clear s4 q4 n4 b4
  have o4 := c_orL' O3 S4 28 (by decide) 268435456 rfl (by omega) (by first | decide | omega) (by first | decide | omega)
  generalize (O3 ||| S4) = O4 at *
  have f4 := rng64 O4
  have d4 : O4.toInt = O3.toInt + y15_185_48.toInt * 268435456 := by omega
  clear o4 f4 e4
  rw [Int64.lt_iff_toInt_lt]
  simp only [Int64.reduceToInt]
  omega
theorem own_0_hc364_195 (p1 : Int32) (y11_152_40 : Int32) (x209_156 : Int32) (y12_161_42 : Int32) (x240_159 : Int32) (y13_170_44 : Int32) (x271_162 : Int32) (y14_179_46 : Int32) (x302_165 : Int32) (y15_185_48 : Int32) (x318_168 : Int32) (r358_194 : Int64) (y16_325_171 : Int64) (hy11_152_40 : y11_152_40 = (p1 &&& (127 : Int32))) (hx209_156 : x209_156 = ((y11_152_40 ||| (128 : Int32)).toInt8.toInt32)) (hy12_161_42 : y12_161_42 = (((p1.toUInt32 >>> ((7 : Int32) &&& 31).toUInt32).toInt32) &&& (127 : Int32))) (hx240_159 : x240_159 = ((y12_161_42 ||| (128 : Int32)).toInt8.toInt32)) (hy13_170_44 : y13_170_44 = (((p1.toUInt32 >>> ((14 : Int32) &&& 31).toUInt32).toInt32) &&& (127 : Int32))) (hx271_162 : x271_162 = ((y13_170_44 ||| (128 : Int32)).toInt8.toInt32)) (hy14_179_46 : y14_179_46 = (((p1.toUInt32 >>> ((21 : Int32) &&& 31).toUInt32).toInt32) &&& (127 : Int32))) (hx302_165 : x302_165 = ((y14_179_46 ||| (128 : Int32)).toInt8.toInt32)) (hy15_185_48 : y15_185_48 = ((p1.toUInt32 >>> ((28 : Int32) &&& 31).toUInt32).toInt32)) (hx318_168 : x318_168 = (y15_185_48.toInt8.toInt32)) (hr358_194 : r358_194 = (((((((((((0 : Int64) ||| ((((((nar .byte x209_156) &&& (255 : Int32))) &&& (127 : Int32)).toInt64) <<< ((0 : Int32) &&& 0x3f).toInt64))) ||| ((((((nar .byte x240_159) &&& (255 : Int32))) &&& (127 : Int32)).toInt64) <<< ((7 : Int32) &&& 0x3f).toInt64))) ||| ((((((nar .byte x271_162) &&& (255 : Int32))) &&& (127 : Int32)).toInt64) <<< ((14 : Int32) &&& 0x3f).toInt64))) ||| ((((((nar .byte x302_165) &&& (255 : Int32))) &&& (127 : Int32)).toInt64) <<< ((21 : Int32) &&& 0x3f).toInt64))) ||| ((((((nar .byte x318_168) &&& (255 : Int32))) &&& (127 : Int32)).toInt64) <<< ((28 : Int32) &&& 0x3f).toInt64)))) (hy16_325_171 : y16_325_171 = ((p1.toInt64) &&& (4294967295 : Int64)))  : r358_194 = y16_325_171 := by
  have g0 := own_g0 p1 y11_152_40 hy11_152_40
  have b0 := own_hi y11_152_40 x209_156 (by omega) hx209_156
  have g1 : y12_161_42.toInt = ((p1.toInt % 4294967296) / 128) % 128 := own_g p1 y12_161_42 (7 : Int32) 7 (by decide) (by decide) hy12_161_42
  have b1 := own_hi y12_161_42 x240_159 (by omega) hx240_159
  have g2 : y13_170_44.toInt = ((p1.toInt % 4294967296) / 16384) % 128 := own_g p1 y13_170_44 (14 : Int32) 14 (by decide) (by decide) hy13_170_44
  have b2 := own_hi y13_170_44 x271_162 (by omega) hx271_162
  have g3 : y14_179_46.toInt = ((p1.toInt % 4294967296) / 2097152) % 128 := own_g p1 y14_179_46 (21 : Int32) 21 (by decide) (by decide) hy14_179_46
  have b3 := own_hi y14_179_46 x302_165 (by omega) hx302_165
  have g4 : y15_185_48.toInt = (p1.toInt % 4294967296) / 268435456 := by rw [hy15_185_48]; exact c_iushr p1 (28 : Int32) 28 (by decide) (by decide)
  have b4 := own_lo y15_185_48 x318_168 (by omega) hx318_168
  have n0 := own_7 ((nar .byte x209_156) &&& (255 : Int32))
  rw [b0] at n0
  generalize ((((nar .byte x209_156) &&& (255 : Int32)) &&& (127 : Int32)).toInt64) = A0 at *
  have s0 := c_lshl A0 (0 : Int32) 0 (by decide)
  generalize (A0 <<< ((0 : Int32) &&& 0x3f).toInt64) = S0 at *
  have q0 := rng64 S0
  have e0 : S0.toInt = y11_152_40.toInt * 1 := by omega
  clear s0 q0 n0 b0
  have o0 := c_orL' (0 : Int64) S0 0 (by decide) 1 rfl (by omega) (by first | decide | omega) (by first | decide | omega)
  generalize ((0 : Int64) ||| S0) = O0 at *
  have f0 := rng64 O0
  have d0 : O0.toInt = y11_152_40.toInt := by simp only [Int64.reduceToInt] at o0; omega
  clear o0 f0 e0
  have n1 := own_7 ((nar .byte x240_159) &&& (255 : Int32))
  rw [b1] at n1
  generalize ((((nar .byte x240_159) &&& (255 : Int32)) &&& (127 : Int32)).toInt64) = A1 at *
  have s1 := c_lshl A1 (7 : Int32) 7 (by decide)
  generalize (A1 <<< ((7 : Int32) &&& 0x3f).toInt64) = S1 at *
  have q1 := rng64 S1
  have e1 : S1.toInt = y12_161_42.toInt * 128 := by omega
  clear s1 q1 n1 b1
  have o1 := c_orL' O0 S1 7 (by decide) 128 rfl (by omega) (by first | decide | omega) (by first | decide | omega)
  generalize (O0 ||| S1) = O1 at *
  have f1 := rng64 O1
  have d1 : O1.toInt = O0.toInt + y12_161_42.toInt * 128 := by omega
  clear o1 f1 e1
  have n2 := own_7 ((nar .byte x271_162) &&& (255 : Int32))
  rw [b2] at n2
  generalize ((((nar .byte x271_162) &&& (255 : Int32)) &&& (127 : Int32)).toInt64) = A2 at *
  have s2 := c_lshl A2 (14 : Int32) 14 (by decide)
  generalize (A2 <<< ((14 : Int32) &&& 0x3f).toInt64) = S2 at *
  have q2 := rng64 S2
  have e2 : S2.toInt = y13_170_44.toInt * 16384 := by omega
  clear s2 q2 n2 b2
  have o2 := c_orL' O1 S2 14 (by decide) 16384 rfl (by omega) (by first | decide | omega) (by first | decide | omega)
  generalize (O1 ||| S2) = O2 at *
  have f2 := rng64 O2
  have d2 : O2.toInt = O1.toInt + y13_170_44.toInt * 16384 := by omega
  clear o2 f2 e2
  have n3 := own_7 ((nar .byte x302_165) &&& (255 : Int32))
  rw [b3] at n3
  generalize ((((nar .byte x302_165) &&& (255 : Int32)) &&& (127 : Int32)).toInt64) = A3 at *
  have s3 := c_lshl A3 (21 : Int32) 21 (by decide)
  generalize (A3 <<< ((21 : Int32) &&& 0x3f).toInt64) = S3 at *
  have q3 := rng64 S3
  have e3 : S3.toInt = y14_179_46.toInt * 2097152 := by omega
  clear s3 q3 n3 b3
  have o3 := c_orL' O2 S3 21 (by decide) 2097152 rfl (by omega) (by first | decide | omega) (by first | decide | omega)
  generalize (O2 ||| S3) = O3 at *
  have f3 := rng64 O3
  have d3 : O3.toInt = O2.toInt + y14_179_46.toInt * 2097152 := by omega
  clear o3 f3 e3
  have n4 := own_7 ((nar .byte x318_168) &&& (255 : Int32))
  rw [b4] at n4
  generalize ((((nar .byte x318_168) &&& (255 : Int32)) &&& (127 : Int32)).toInt64) = A4 at *
  have s4 := c_lshl A4 (28 : Int32) 28 (by decide)
  generalize (A4 <<< ((28 : Int32) &&& 0x3f).toInt64) = S4 at *
  have q4 := rng64 S4
  have e4 : S4.toInt = y15_185_48.toInt * 268435456 := by omega
  clear s4 q4 n4 b4
  have o4 := c_orL' O3 S4 28 (by decide) 268435456 rfl (by omega) (by first | decide | omega) (by first | decide | omega)
  generalize (O3 ||| S4) = O4 at *
  have f4 := rng64 O4
  have d4 : O4.toInt = O3.toInt + y15_185_48.toInt * 268435456 := by omega
  clear o4 f4 e4
  have u2 : y16_325_171.toInt = p1.toInt % 4294967296 := by rw [hy16_325_171, ← c_i2l p1]; exact c_maskL p1.toInt64 (4294967295 : Int64) 32 (by decide) (by decide)
  rw [← Int64.toInt_inj, hr358_194]
  omega
theorem own_0_hp358_207 (p4 : Int32) (y9_34_5 : Int32) (hy9_34_5 : y9_34_5 = ((1 : Int32) + ((p4 &&& (2147483647 : Int32)) % (((11 : Int32) - (1 : Int32)) - (1 : Int32)))))  : ¬ ((((10 : Int32) ||| (1 : Int32)) ||| y9_34_5) < (0 : Int32)) := by
  have r := own_len p4 y9_34_5 (1 : Int32) (1 : Int32) _ rfl (by decide) (by decide) hy9_34_5
  clear hy9_34_5
  simp only [Int32.reduceToInt] at r
  have a := (c_orS ((10 : Int32) ||| (1 : Int32)) y9_34_5).1 (by decide) (by omega)
  rw [Int32.lt_iff_toInt_lt]
  simp only [Int32.reduceToInt] at *
  omega
theorem own_0_hp358_208 (p4 : Int32) (y9_34_5 : Int32) (hy9_34_5 : y9_34_5 = ((1 : Int32) + ((p4 &&& (2147483647 : Int32)) % (((11 : Int32) - (1 : Int32)) - (1 : Int32)))))  : ¬ (((10 : Int32) - (1 : Int32)) < y9_34_5) := by
  have r := own_len p4 y9_34_5 (1 : Int32) (1 : Int32) _ rfl (by decide) (by decide) hy9_34_5
  clear hy9_34_5
  simp only [Int32.reduceToInt] at r
  have e : (((10 : Int32) - (1 : Int32))) = (9 : Int32) := by decide
  rw [e, Int32.lt_iff_toInt_lt]
  simp only [Int32.reduceToInt]
  omega
theorem own_0_hp358_209 (p4 : Int32) (y9_34_5 : Int32) (hy9_34_5 : y9_34_5 = ((1 : Int32) + ((p4 &&& (2147483647 : Int32)) % (((11 : Int32) - (1 : Int32)) - (1 : Int32)))))  : ¬ ((0 : Int32) = y9_34_5) := by
  have r := own_len p4 y9_34_5 (1 : Int32) (1 : Int32) _ rfl (by decide) (by decide) hy9_34_5
  clear hy9_34_5
  simp only [Int32.reduceToInt] at r
  rw [← Int32.toInt_inj]
  simp only [Int32.reduceToInt]
  omega
theorem own_0_hp358_210 (p1 : Int32) (y11_152_40 : Int32) (x209_197 : Int32) (hy11_152_40 : y11_152_40 = (p1 &&& (127 : Int32))) (hx209_197 : x209_197 = (y11_152_40.toInt8.toInt32))  : (((nar .byte x209_197) &&& (255 : Int32))) < (128 : Int32) := by
  have g := own_g0 p1 y11_152_40 hy11_152_40
  have b := own_lo y11_152_40 x209_197 (by omega) hx209_197
  rw [Int32.lt_iff_toInt_lt, b]
  simp only [Int32.reduceToInt]
  omega
theorem own_0_hp358_211 (p1 : Int32) (y11_152_40 : Int32) (x209_197 : Int32) (hy11_152_40 : y11_152_40 = (p1 &&& (127 : Int32))) (hx209_197 : x209_197 = (y11_152_40.toInt8.toInt32))  : ¬ ((4294967295 : Int64) < (((0 : Int64) ||| ((((((nar .byte x209_197) &&& (255 : Int32))) &&& (127 : Int32)).toInt64) <<< ((0 : Int32) &&& 0x3f).toInt64)))) := by
  have g0 := own_g0 p1 y11_152_40 hy11_152_40
  have b0 := own_lo y11_152_40 x209_197 (by omega) hx209_197
  have n0 := own_7 ((nar .byte x209_197) &&& (255 : Int32))
  rw [b0] at n0
  generalize ((((nar .byte x209_197) &&& (255 : Int32)) &&& (127 : Int32)).toInt64) = A0 at *
  have s0 := c_lshl A0 (0 : Int32) 0 (by decide)
  generalize (A0 <<< ((0 : Int32) &&& 0x3f).toInt64) = S0 at *
  have q0 := rng64 S0
  have e0 : S0.toInt = y11_152_40.toInt * 1 := by omega
  clear s0 q0 n0 b0
  have o0 := c_orL' (0 : Int64) S0 0 (by decide) 1 rfl (by omega) (by first | decide | omega) (by first | decide | omega)
  generalize ((0 : Int64) ||| S0) = O0 at *
  have f0 := rng64 O0
  have d0 : O0.toInt = y11_152_40.toInt := by simp only [Int64.reduceToInt] at o0; omega
  clear o0 f0 e0
  rw [Int64.lt_iff_toInt_lt]
  simp only [Int64.reduceToInt]
  omega
theorem own_0_hc364_213 (p1 : Int32) (y11_152_40 : Int32) (x209_197 : Int32) (r358_212 : Int64) (y16_325_200 : Int64) (y18_350_202 : Int64) (hy11_152_40 : y11_152_40 = (p1 &&& (127 : Int32))) (hx209_197 : x209_197 = (y11_152_40.toInt8.toInt32)) (hr358_212 : r358_212 = (((0 : Int64) ||| ((((((nar .byte x209_197) &&& (255 : Int32))) &&& (127 : Int32)).toInt64) <<< ((0 : Int32) &&& 0x3f).toInt64)))) (hy16_325_200 : y16_325_200 = ((p1.toInt64) &&& (4294967295 : Int64))) (hy18_350_202 : y18_350_202 = (y16_325_200 &&& (((1 : Int64) <<< ((7 : Int32) &&& 0x3f).toInt64) - (1 : Int64))))  : r358_212 = y18_350_202 := by
  have g0 := own_g0 p1 y11_152_40 hy11_152_40
  have b0 := own_lo y11_152_40 x209_197 (by omega) hx209_197
  have n0 := own_7 ((nar .byte x209_197) &&& (255 : Int32))
  rw [b0] at n0
  generalize ((((nar .byte x209_197) &&& (255 : Int32)) &&& (127 : Int32)).toInt64) = A0 at *
  have s0 := c_lshl A0 (0 : Int32) 0 (by decide)
  generalize (A0 <<< ((0 : Int32) &&& 0x3f).toInt64) = S0 at *
  have q0 := rng64 S0
  have e0 : S0.toInt = y11_152_40.toInt * 1 := by omega
  clear s0 q0 n0 b0
  have o0 := c_orL' (0 : Int64) S0 0 (by decide) 1 rfl (by omega) (by first | decide | omega) (by first | decide | omega)
  generalize ((0 : Int64) ||| S0) = O0 at *
  have f0 := rng64 O0
  have d0 : O0.toInt = y11_152_40.toInt := by simp only [Int64.reduceToInt] at o0; omega
  clear o0 f0 e0
  have u1 : y16_325_200.toInt = p1.toInt % 4294967296 := by rw [hy16_325_200, ← c_i2l p1]; exact c_maskL p1.toInt64 (4294967295 : Int64) 32 (by decide) (by decide)
  have u2 : y18_350_202.toInt = y16_325_200.toInt % 128 := by rw [hy18_350_202]; exact c_maskL y16_325_200 _ 7 (by decide) (by decide)
  rw [← Int64.toInt_inj, hr358_212]
  omega
theorem own_0_hp358_228 (p4 : Int32) (y9_34_5 : Int32) (hy9_34_5 : y9_34_5 = ((2 : Int32) + ((p4 &&& (2147483647 : Int32)) % (((11 : Int32) - (1 : Int32)) - (2 : Int32)))))  : ¬ ((((10 : Int32) ||| (1 : Int32)) ||| y9_34_5) < (0 : Int32)) := by
  have r := own_len p4 y9_34_5 (1 : Int32) (2 : Int32) _ rfl (by decide) (by decide) hy9_34_5
  clear hy9_34_5
  simp only [Int32.reduceToInt] at r
  have a := (c_orS ((10 : Int32) ||| (1 : Int32)) y9_34_5).1 (by decide) (by omega)
  rw [Int32.lt_iff_toInt_lt]
  simp only [Int32.reduceToInt] at *
  omega
theorem own_0_hp358_229 (p4 : Int32) (y9_34_5 : Int32) (hy9_34_5 : y9_34_5 = ((2 : Int32) + ((p4 &&& (2147483647 : Int32)) % (((11 : Int32) - (1 : Int32)) - (2 : Int32)))))  : ¬ (((10 : Int32) - (1 : Int32)) < y9_34_5) := by
  have r := own_len p4 y9_34_5 (1 : Int32) (2 : Int32) _ rfl (by decide) (by decide) hy9_34_5
  clear hy9_34_5
  simp only [Int32.reduceToInt] at r
  have e : (((10 : Int32) - (1 : Int32))) = (9 : Int32) := by decide
  rw [e, Int32.lt_iff_toInt_lt]
  simp only [Int32.reduceToInt]
  omega
theorem own_0_hp358_230 (p4 : Int32) (y9_34_5 : Int32) (hy9_34_5 : y9_34_5 = ((2 : Int32) + ((p4 &&& (2147483647 : Int32)) % (((11 : Int32) - (1 : Int32)) - (2 : Int32)))))  : ¬ ((0 : Int32) = y9_34_5) := by
  have r := own_len p4 y9_34_5 (1 : Int32) (2 : Int32) _ rfl (by decide) (by decide) hy9_34_5
  clear hy9_34_5
  simp only [Int32.reduceToInt] at r
  rw [← Int32.toInt_inj]
  simp only [Int32.reduceToInt]
  omega
theorem own_0_hp358_231 (p1 : Int32) (y11_152_40 : Int32) (x209_214 : Int32) (hy11_152_40 : y11_152_40 = (p1 &&& (127 : Int32))) (hx209_214 : x209_214 = ((y11_152_40 ||| (128 : Int32)).toInt8.toInt32))  : ¬ ((((nar .byte x209_214) &&& (255 : Int32))) < (128 : Int32)) := by
  have g := own_g0 p1 y11_152_40 hy11_152_40
  have b := own_hi y11_152_40 x209_214 (by omega) hx209_214
  rw [Int32.lt_iff_toInt_lt, b]
  simp only [Int32.reduceToInt]
  omega
theorem own_0_hp358_232 (p4 : Int32) (y9_34_5 : Int32) (hy9_34_5 : y9_34_5 = ((2 : Int32) + ((p4 &&& (2147483647 : Int32)) % (((11 : Int32) - (1 : Int32)) - (2 : Int32)))))  : ¬ ((1 : Int32) = y9_34_5) := by
  have r := own_len p4 y9_34_5 (1 : Int32) (2 : Int32) _ rfl (by decide) (by decide) hy9_34_5
  clear hy9_34_5
  simp only [Int32.reduceToInt] at r
  rw [← Int32.toInt_inj]
  simp only [Int32.reduceToInt]
  omega
theorem own_0_hp358_233 (p1 : Int32) (y12_161_42 : Int32) (x240_217 : Int32) (hy12_161_42 : y12_161_42 = (((p1.toUInt32 >>> ((7 : Int32) &&& 31).toUInt32).toInt32) &&& (127 : Int32))) (hx240_217 : x240_217 = (y12_161_42.toInt8.toInt32))  : (((nar .byte x240_217) &&& (255 : Int32))) < (128 : Int32) := by
  have g : y12_161_42.toInt = ((p1.toInt % 4294967296) / 128) % 128 := own_g p1 y12_161_42 (7 : Int32) 7 (by decide) (by decide) hy12_161_42
  have b := own_lo y12_161_42 x240_217 (by omega) hx240_217
  rw [Int32.lt_iff_toInt_lt, b]
  simp only [Int32.reduceToInt]
  omega
theorem own_0_hp358_234 (p1 : Int32) (y11_152_40 : Int32) (x209_214 : Int32) (y12_161_42 : Int32) (x240_217 : Int32) (hy11_152_40 : y11_152_40 = (p1 &&& (127 : Int32))) (hx209_214 : x209_214 = ((y11_152_40 ||| (128 : Int32)).toInt8.toInt32)) (hy12_161_42 : y12_161_42 = (((p1.toUInt32 >>> ((7 : Int32) &&& 31).toUInt32).toInt32) &&& (127 : Int32))) (hx240_217 : x240_217 = (y12_161_42.toInt8.toInt32))  : ¬ ((4294967295 : Int64) < (((((0 : Int64) ||| ((((((nar .byte x209_214) &&& (255 : Int32))) &&& (127 : Int32)).toInt64) <<< ((0 : Int32) &&& 0x3f).toInt64))) ||| ((((((nar .byte x240_217) &&& (255 : Int32))) &&& (127 : Int32)).toInt64) <<< ((7 : Int32) &&& 0x3f).toInt64)))) := by
  have g0 := own_g0 p1 y11_152_40 hy11_152_40
  have b0 := own_hi y11_152_40 x209_214 (by omega) hx209_214
  have g1 : y12_161_42.toInt = ((p1.toInt % 4294967296) / 128) % 128 := own_g p1 y12_161_42 (7 : Int32) 7 (by decide) (by decide) hy12_161_42
  have b1 := own_lo y12_161_42 x240_217 (by omega) hx240_217
  have n0 := own_7 ((nar .byte x209_214) &&& (255 : Int32))
  rw [b0] at n0
  generalize ((((nar .byte x209_214) &&& (255 : Int32)) &&& (127 : Int32)).toInt64) = A0 at *
  have s0 := c_lshl A0 (0 : Int32) 0 (by decide)
  generalize (A0 <<< ((0 : Int32) &&& 0x3f).toInt64) = S0 at *
  have q0 := rng64 S0
  have e0 : S0.toInt = y11_152_40.toInt * 1 := by omega
  clear s0 q0 n0 b0
  have o0 := c_orL' (0 : Int64) S0 0 (by decide) 1 rfl (by omega) (by first | decide | omega) (by first | decide | omega)
  generalize ((0 : Int64) ||| S0) = O0 at *
  have f0 := rng64 O0
  have d0 : O0.toInt = y11_152_40.toInt := by simp only [Int64.reduceToInt] at o0; omega
  clear o0 f0 e0
  have n1 := own_7 ((nar .byte x240_217) &&& (255 : Int32))
  rw [b1] at n1
  generalize ((((nar .byte x240_217) &&& (255 : Int32)) &&& (127 : Int32)).toInt64) = A1 at *
  have s1 := c_lshl A1 (7 : Int32) 7 (by decide)
  generalize (A1 <<< ((7 : Int32) &&& 0x3f).toInt64) = S1 at *
  have q1 := rng64 S1
  have e1 : S1.toInt = y12_161_42.toInt * 128 := by omega
  clear s1 q1 n1 b1
  have o1 := c_orL' O0 S1 7 (by decide) 128 rfl (by omega) (by first | decide | omega) (by first | decide | omega)
  generalize (O0 ||| S1) = O1 at *
  have f1 := rng64 O1
  have d1 : O1.toInt = O0.toInt + y12_161_42.toInt * 128 := by omega
  clear o1 f1 e1
  rw [Int64.lt_iff_toInt_lt]
  simp only [Int64.reduceToInt]
  omega
theorem own_0_hc364_236 (p1 : Int32) (y11_152_40 : Int32) (x209_214 : Int32) (y12_161_42 : Int32) (x240_217 : Int32) (r358_235 : Int64) (y16_325_220 : Int64) (y18_350_222 : Int64) (hy11_152_40 : y11_152_40 = (p1 &&& (127 : Int32))) (hx209_214 : x209_214 = ((y11_152_40 ||| (128 : Int32)).toInt8.toInt32)) (hy12_161_42 : y12_161_42 = (((p1.toUInt32 >>> ((7 : Int32) &&& 31).toUInt32).toInt32) &&& (127 : Int32))) (hx240_217 : x240_217 = (y12_161_42.toInt8.toInt32)) (hr358_235 : r358_235 = (((((0 : Int64) ||| ((((((nar .byte x209_214) &&& (255 : Int32))) &&& (127 : Int32)).toInt64) <<< ((0 : Int32) &&& 0x3f).toInt64))) ||| ((((((nar .byte x240_217) &&& (255 : Int32))) &&& (127 : Int32)).toInt64) <<< ((7 : Int32) &&& 0x3f).toInt64)))) (hy16_325_220 : y16_325_220 = ((p1.toInt64) &&& (4294967295 : Int64))) (hy18_350_222 : y18_350_222 = (y16_325_220 &&& (((1 : Int64) <<< ((14 : Int32) &&& 0x3f).toInt64) - (1 : Int64))))  : r358_235 = y18_350_222 := by
  have g0 := own_g0 p1 y11_152_40 hy11_152_40
  have b0 := own_hi y11_152_40 x209_214 (by omega) hx209_214
  have g1 : y12_161_42.toInt = ((p1.toInt % 4294967296) / 128) % 128 := own_g p1 y12_161_42 (7 : Int32) 7 (by decide) (by decide) hy12_161_42
  have b1 := own_lo y12_161_42 x240_217 (by omega) hx240_217
  have n0 := own_7 ((nar .byte x209_214) &&& (255 : Int32))
  rw [b0] at n0
  generalize ((((nar .byte x209_214) &&& (255 : Int32)) &&& (127 : Int32)).toInt64) = A0 at *
  have s0 := c_lshl A0 (0 : Int32) 0 (by decide)
  generalize (A0 <<< ((0 : Int32) &&& 0x3f).toInt64) = S0 at *
  have q0 := rng64 S0
  have e0 : S0.toInt = y11_152_40.toInt * 1 := by omega
  clear s0 q0 n0 b0
  have o0 := c_orL' (0 : Int64) S0 0 (by decide) 1 rfl (by omega) (by first | decide | omega) (by first | decide | omega)
  generalize ((0 : Int64) ||| S0) = O0 at *
  have f0 := rng64 O0
  have d0 : O0.toInt = y11_152_40.toInt := by simp only [Int64.reduceToInt] at o0; omega
  clear o0 f0 e0
  have n1 := own_7 ((nar .byte x240_217) &&& (255 : Int32))
  rw [b1] at n1
  generalize ((((nar .byte x240_217) &&& (255 : Int32)) &&& (127 : Int32)).toInt64) = A1 at *
  have s1 := c_lshl A1 (7 : Int32) 7 (by decide)
  generalize (A1 <<< ((7 : Int32) &&& 0x3f).toInt64) = S1 at *
  have q1 := rng64 S1
  have e1 : S1.toInt = y12_161_42.toInt * 128 := by omega
  clear s1 q1 n1 b1
  have o1 := c_orL' O0 S1 7 (by decide) 128 rfl (by omega) (by first | decide | omega) (by first | decide | omega)
  generalize (O0 ||| S1) = O1 at *
  have f1 := rng64 O1
  have d1 : O1.toInt = O0.toInt + y12_161_42.toInt * 128 := by omega
  clear o1 f1 e1
  have u1 : y16_325_220.toInt = p1.toInt % 4294967296 := by rw [hy16_325_220, ← c_i2l p1]; exact c_maskL p1.toInt64 (4294967295 : Int64) 32 (by decide) (by decide)
  have u2 : y18_350_222.toInt = y16_325_220.toInt % 16384 := by rw [hy18_350_222]; exact c_maskL y16_325_220 _ 14 (by decide) (by decide)
  rw [← Int64.toInt_inj, hr358_235]
  omega
theorem own_0_hp358_255 (p4 : Int32) (y9_34_5 : Int32) (hy9_34_5 : y9_34_5 = ((3 : Int32) + ((p4 &&& (2147483647 : Int32)) % (((11 : Int32) - (1 : Int32)) - (3 : Int32)))))  : ¬ ((((10 : Int32) ||| (1 : Int32)) ||| y9_34_5) < (0 : Int32)) := by
  have r := own_len p4 y9_34_5 (1 : Int32) (3 : Int32) _ rfl (by decide) (by decide) hy9_34_5
  clear hy9_34_5
  simp only [Int32.reduceToInt] at r
  have a := (c_orS ((10 : Int32) ||| (1 : Int32)) y9_34_5).1 (by decide) (by omega)
  rw [Int32.lt_iff_toInt_lt]
  simp only [Int32.reduceToInt] at *
  omega
theorem own_0_hp358_256 (p4 : Int32) (y9_34_5 : Int32) (hy9_34_5 : y9_34_5 = ((3 : Int32) + ((p4 &&& (2147483647 : Int32)) % (((11 : Int32) - (1 : Int32)) - (3 : Int32)))))  : ¬ (((10 : Int32) - (1 : Int32)) < y9_34_5) := by
  have r := own_len p4 y9_34_5 (1 : Int32) (3 : Int32) _ rfl (by decide) (by decide) hy9_34_5
  clear hy9_34_5
  simp only [Int32.reduceToInt] at r
  have e : (((10 : Int32) - (1 : Int32))) = (9 : Int32) := by decide
  rw [e, Int32.lt_iff_toInt_lt]
  simp only [Int32.reduceToInt]
  omega
theorem own_0_hp358_257 (p4 : Int32) (y9_34_5 : Int32) (hy9_34_5 : y9_34_5 = ((3 : Int32) + ((p4 &&& (2147483647 : Int32)) % (((11 : Int32) - (1 : Int32)) - (3 : Int32)))))  : ¬ ((0 : Int32) = y9_34_5) := by
  have r := own_len p4 y9_34_5 (1 : Int32) (3 : Int32) _ rfl (by decide) (by decide) hy9_34_5
  clear hy9_34_5
  simp only [Int32.reduceToInt] at r
  rw [← Int32.toInt_inj]
  simp only [Int32.reduceToInt]
  omega
theorem own_0_hp358_258 (p1 : Int32) (y11_152_40 : Int32) (x209_237 : Int32) (hy11_152_40 : y11_152_40 = (p1 &&& (127 : Int32))) (hx209_237 : x209_237 = ((y11_152_40 ||| (128 : Int32)).toInt8.toInt32))  : ¬ ((((nar .byte x209_237) &&& (255 : Int32))) < (128 : Int32)) := by
  have g := own_g0 p1 y11_152_40 hy11_152_40
  have b := own_hi y11_152_40 x209_237 (by omega) hx209_237
  rw [Int32.lt_iff_toInt_lt, b]
  simp only [Int32.reduceToInt]
  omega
theorem own_0_hp358_259 (p4 : Int32) (y9_34_5 : Int32) (hy9_34_5 : y9_34_5 = ((3 : Int32) + ((p4 &&& (2147483647 : Int32)) % (((11 : Int32) - (1 : Int32)) - (3 : Int32)))))  : ¬ ((1 : Int32) = y9_34_5) := by
  have r := own_len p4 y9_34_5 (1 : Int32) (3 : Int32) _ rfl (by decide) (by decide) hy9_34_5
  clear hy9_34_5
  simp only [Int32.reduceToInt] at r
  rw [← Int32.toInt_inj]
  simp only [Int32.reduceToInt]
  omega
theorem own_0_hp358_260 (p1 : Int32) (y12_161_42 : Int32) (x240_240 : Int32) (hy12_161_42 : y12_161_42 = (((p1.toUInt32 >>> ((7 : Int32) &&& 31).toUInt32).toInt32) &&& (127 : Int32))) (hx240_240 : x240_240 = ((y12_161_42 ||| (128 : Int32)).toInt8.toInt32))  : ¬ ((((nar .byte x240_240) &&& (255 : Int32))) < (128 : Int32)) := by
  have g : y12_161_42.toInt = ((p1.toInt % 4294967296) / 128) % 128 := own_g p1 y12_161_42 (7 : Int32) 7 (by decide) (by decide) hy12_161_42
  have b := own_hi y12_161_42 x240_240 (by omega) hx240_240
  rw [Int32.lt_iff_toInt_lt, b]
  simp only [Int32.reduceToInt]
  omega
theorem own_0_hp358_261 (p4 : Int32) (y9_34_5 : Int32) (hy9_34_5 : y9_34_5 = ((3 : Int32) + ((p4 &&& (2147483647 : Int32)) % (((11 : Int32) - (1 : Int32)) - (3 : Int32)))))  : ¬ ((2 : Int32) = y9_34_5) := by
  have r := own_len p4 y9_34_5 (1 : Int32) (3 : Int32) _ rfl (by decide) (by decide) hy9_34_5
  clear hy9_34_5
  simp only [Int32.reduceToInt] at r
  rw [← Int32.toInt_inj]
  simp only [Int32.reduceToInt]
  omega
theorem own_0_hp358_262 (p1 : Int32) (y13_170_44 : Int32) (x271_243 : Int32) (hy13_170_44 : y13_170_44 = (((p1.toUInt32 >>> ((14 : Int32) &&& 31).toUInt32).toInt32) &&& (127 : Int32))) (hx271_243 : x271_243 = (y13_170_44.toInt8.toInt32))  : (((nar .byte x271_243) &&& (255 : Int32))) < (128 : Int32) := by
  have g : y13_170_44.toInt = ((p1.toInt % 4294967296) / 16384) % 128 := own_g p1 y13_170_44 (14 : Int32) 14 (by decide) (by decide) hy13_170_44
  have b := own_lo y13_170_44 x271_243 (by omega) hx271_243
  rw [Int32.lt_iff_toInt_lt, b]
  simp only [Int32.reduceToInt]
  omega
theorem own_0_hp358_263 (p1 : Int32) (y11_152_40 : Int32) (x209_237 : Int32) (y12_161_42 : Int32) (x240_240 : Int32) (y13_170_44 : Int32) (x271_243 : Int32) (hy11_152_40 : y11_152_40 = (p1 &&& (127 : Int32))) (hx209_237 : x209_237 = ((y11_152_40 ||| (128 : Int32)).toInt8.toInt32)) (hy12_161_42 : y12_161_42 = (((p1.toUInt32 >>> ((7 : Int32) &&& 31).toUInt32).toInt32) &&& (127 : Int32))) (hx240_240 : x240_240 = ((y12_161_42 ||| (128 : Int32)).toInt8.toInt32)) (hy13_170_44 : y13_170_44 = (((p1.toUInt32 >>> ((14 : Int32) &&& 31).toUInt32).toInt32) &&& (127 : Int32))) (hx271_243 : x271_243 = (y13_170_44.toInt8.toInt32))  : ¬ ((4294967295 : Int64) < (((((((0 : Int64) ||| ((((((nar .byte x209_237) &&& (255 : Int32))) &&& (127 : Int32)).toInt64) <<< ((0 : Int32) &&& 0x3f).toInt64))) ||| ((((((nar .byte x240_240) &&& (255 : Int32))) &&& (127 : Int32)).toInt64) <<< ((7 : Int32) &&& 0x3f).toInt64))) ||| ((((((nar .byte x271_243) &&& (255 : Int32))) &&& (127 : Int32)).toInt64) <<< ((14 : Int32) &&& 0x3f).toInt64)))) := by
  have g0 := own_g0 p1 y11_152_40 hy11_152_40
  have b0 := own_hi y11_152_40 x209_237 (by omega) hx209_237
  have g1 : y12_161_42.toInt = ((p1.toInt % 4294967296) / 128) % 128 := own_g p1 y12_161_42 (7 : Int32) 7 (by decide) (by decide) hy12_161_42
  have b1 := own_hi y12_161_42 x240_240 (by omega) hx240_240
  have g2 : y13_170_44.toInt = ((p1.toInt % 4294967296) / 16384) % 128 := own_g p1 y13_170_44 (14 : Int32) 14 (by decide) (by decide) hy13_170_44
  have b2 := own_lo y13_170_44 x271_243 (by omega) hx271_243
  have n0 := own_7 ((nar .byte x209_237) &&& (255 : Int32))
  rw [b0] at n0
  generalize ((((nar .byte x209_237) &&& (255 : Int32)) &&& (127 : Int32)).toInt64) = A0 at *
  have s0 := c_lshl A0 (0 : Int32) 0 (by decide)
  generalize (A0 <<< ((0 : Int32) &&& 0x3f).toInt64) = S0 at *
  have q0 := rng64 S0
  have e0 : S0.toInt = y11_152_40.toInt * 1 := by omega
  clear s0 q0 n0 b0
  have o0 := c_orL' (0 : Int64) S0 0 (by decide) 1 rfl (by omega) (by first | decide | omega) (by first | decide | omega)
  generalize ((0 : Int64) ||| S0) = O0 at *
  have f0 := rng64 O0
  have d0 : O0.toInt = y11_152_40.toInt := by simp only [Int64.reduceToInt] at o0; omega
  clear o0 f0 e0
  have n1 := own_7 ((nar .byte x240_240) &&& (255 : Int32))
  rw [b1] at n1
  generalize ((((nar .byte x240_240) &&& (255 : Int32)) &&& (127 : Int32)).toInt64) = A1 at *
  have s1 := c_lshl A1 (7 : Int32) 7 (by decide)
  generalize (A1 <<< ((7 : Int32) &&& 0x3f).toInt64) = S1 at *
  have q1 := rng64 S1
  have e1 : S1.toInt = y12_161_42.toInt * 128 := by omega
  clear s1 q1 n1 b1
  have o1 := c_orL' O0 S1 7 (by decide) 128 rfl (by omega) (by first | decide | omega) (by first | decide | omega)
  generalize (O0 ||| S1) = O1 at *
  have f1 := rng64 O1
  have d1 : O1.toInt = O0.toInt + y12_161_42.toInt * 128 := by omega
  clear o1 f1 e1
  have n2 := own_7 ((nar .byte x271_243) &&& (255 : Int32))
  rw [b2] at n2
  generalize ((((nar .byte x271_243) &&& (255 : Int32)) &&& (127 : Int32)).toInt64) = A2 at *
  have s2 := c_lshl A2 (14 : Int32) 14 (by decide)
  generalize (A2 <<< ((14 : Int32) &&& 0x3f).toInt64) = S2 at *
  have q2 := rng64 S2
  have e2 : S2.toInt = y13_170_44.toInt * 16384 := by omega
  clear s2 q2 n2 b2
  have o2 := c_orL' O1 S2 14 (by decide) 16384 rfl (by omega) (by first | decide | omega) (by first | decide | omega)
  generalize (O1 ||| S2) = O2 at *
  have f2 := rng64 O2
  have d2 : O2.toInt = O1.toInt + y13_170_44.toInt * 16384 := by omega
  clear o2 f2 e2
  rw [Int64.lt_iff_toInt_lt]
  simp only [Int64.reduceToInt]
  omega
theorem own_0_hc364_265 (p1 : Int32) (y11_152_40 : Int32) (x209_237 : Int32) (y12_161_42 : Int32) (x240_240 : Int32) (y13_170_44 : Int32) (x271_243 : Int32) (r358_264 : Int64) (y16_325_246 : Int64) (y18_350_248 : Int64) (hy11_152_40 : y11_152_40 = (p1 &&& (127 : Int32))) (hx209_237 : x209_237 = ((y11_152_40 ||| (128 : Int32)).toInt8.toInt32)) (hy12_161_42 : y12_161_42 = (((p1.toUInt32 >>> ((7 : Int32) &&& 31).toUInt32).toInt32) &&& (127 : Int32))) (hx240_240 : x240_240 = ((y12_161_42 ||| (128 : Int32)).toInt8.toInt32)) (hy13_170_44 : y13_170_44 = (((p1.toUInt32 >>> ((14 : Int32) &&& 31).toUInt32).toInt32) &&& (127 : Int32))) (hx271_243 : x271_243 = (y13_170_44.toInt8.toInt32)) (hr358_264 : r358_264 = (((((((0 : Int64) ||| ((((((nar .byte x209_237) &&& (255 : Int32))) &&& (127 : Int32)).toInt64) <<< ((0 : Int32) &&& 0x3f).toInt64))) ||| ((((((nar .byte x240_240) &&& (255 : Int32))) &&& (127 : Int32)).toInt64) <<< ((7 : Int32) &&& 0x3f).toInt64))) ||| ((((((nar .byte x271_243) &&& (255 : Int32))) &&& (127 : Int32)).toInt64) <<< ((14 : Int32) &&& 0x3f).toInt64)))) (hy16_325_246 : y16_325_246 = ((p1.toInt64) &&& (4294967295 : Int64))) (hy18_350_248 : y18_350_248 = (y16_325_246 &&& (((1 : Int64) <<< ((21 : Int32) &&& 0x3f).toInt64) - (1 : Int64))))  : r358_264 = y18_350_248 := by
  have g0 := own_g0 p1 y11_152_40 hy11_152_40
  have b0 := own_hi y11_152_40 x209_237 (by omega) hx209_237
  have g1 : y12_161_42.toInt = ((p1.toInt % 4294967296) / 128) % 128 := own_g p1 y12_161_42 (7 : Int32) 7 (by decide) (by decide) hy12_161_42
  have b1 := own_hi y12_161_42 x240_240 (by omega) hx240_240
  have g2 : y13_170_44.toInt = ((p1.toInt % 4294967296) / 16384) % 128 := own_g p1 y13_170_44 (14 : Int32) 14 (by decide) (by decide) hy13_170_44
  have b2 := own_lo y13_170_44 x271_243 (by omega) hx271_243
  have n0 := own_7 ((nar .byte x209_237) &&& (255 : Int32))
  rw [b0] at n0
  generalize ((((nar .byte x209_237) &&& (255 : Int32)) &&& (127 : Int32)).toInt64) = A0 at *
  have s0 := c_lshl A0 (0 : Int32) 0 (by decide)
  generalize (A0 <<< ((0 : Int32) &&& 0x3f).toInt64) = S0 at *
  have q0 := rng64 S0
  have e0 : S0.toInt = y11_152_40.toInt * 1 := by omega
  clear s0 q0 n0 b0
  have o0 := c_orL' (0 : Int64) S0 0 (by decide) 1 rfl (by omega) (by first | decide | omega) (by first | decide | omega)
  generalize ((0 : Int64) ||| S0) = O0 at *
  have f0 := rng64 O0
  have d0 : O0.toInt = y11_152_40.toInt := by simp only [Int64.reduceToInt] at o0; omega
  clear o0 f0 e0
  have n1 := own_7 ((nar .byte x240_240) &&& (255 : Int32))
  rw [b1] at n1
  generalize ((((nar .byte x240_240) &&& (255 : Int32)) &&& (127 : Int32)).toInt64) = A1 at *
  have s1 := c_lshl A1 (7 : Int32) 7 (by decide)
  generalize (A1 <<< ((7 : Int32) &&& 0x3f).toInt64) = S1 at *
  have q1 := rng64 S1
  have e1 : S1.toInt = y12_161_42.toInt * 128 := by omega
  clear s1 q1 n1 b1
  have o1 := c_orL' O0 S1 7 (by decide) 128 rfl (by omega) (by first | decide | omega) (by first | decide | omega)
  generalize (O0 ||| S1) = O1 at *
  have f1 := rng64 O1
  have d1 : O1.toInt = O0.toInt + y12_161_42.toInt * 128 := by omega
  clear o1 f1 e1
  have n2 := own_7 ((nar .byte x271_243) &&& (255 : Int32))
  rw [b2] at n2
  generalize ((((nar .byte x271_243) &&& (255 : Int32)) &&& (127 : Int32)).toInt64) = A2 at *
  have s2 := c_lshl A2 (14 : Int32) 14 (by decide)
  generalize (A2 <<< ((14 : Int32) &&& 0x3f).toInt64) = S2 at *
  have q2 := rng64 S2
  have e2 : S2.toInt = y13_170_44.toInt * 16384 := by omega
  clear s2 q2 n2 b2
  have o2 := c_orL' O1 S2 14 (by decide) 16384 rfl (by omega) (by first | decide | omega) (by first | decide | omega)
  generalize (O1 ||| S2) = O2 at *
  have f2 := rng64 O2
  have d2 : O2.toInt = O1.toInt + y13_170_44.toInt * 16384 := by omega
  clear o2 f2 e2
  have u1 : y16_325_246.toInt = p1.toInt % 4294967296 := by rw [hy16_325_246, ← c_i2l p1]; exact c_maskL p1.toInt64 (4294967295 : Int64) 32 (by decide) (by decide)
  have u2 : y18_350_248.toInt = y16_325_246.toInt % 2097152 := by rw [hy18_350_248]; exact c_maskL y16_325_246 _ 21 (by decide) (by decide)
  rw [← Int64.toInt_inj, hr358_264]
  omega
theorem own_0_hp358_288 (p4 : Int32) (y9_34_5 : Int32) (hy9_34_5 : y9_34_5 = ((4 : Int32) + ((p4 &&& (2147483647 : Int32)) % (((11 : Int32) - (1 : Int32)) - (4 : Int32)))))  : ¬ ((((10 : Int32) ||| (1 : Int32)) ||| y9_34_5) < (0 : Int32)) := by
  have r := own_len p4 y9_34_5 (1 : Int32) (4 : Int32) _ rfl (by decide) (by decide) hy9_34_5
  clear hy9_34_5
  simp only [Int32.reduceToInt] at r
  have a := (c_orS ((10 : Int32) ||| (1 : Int32)) y9_34_5).1 (by decide) (by omega)
  rw [Int32.lt_iff_toInt_lt]
  simp only [Int32.reduceToInt] at *
  omega
theorem own_0_hp358_289 (p4 : Int32) (y9_34_5 : Int32) (hy9_34_5 : y9_34_5 = ((4 : Int32) + ((p4 &&& (2147483647 : Int32)) % (((11 : Int32) - (1 : Int32)) - (4 : Int32)))))  : ¬ (((10 : Int32) - (1 : Int32)) < y9_34_5) := by
  have r := own_len p4 y9_34_5 (1 : Int32) (4 : Int32) _ rfl (by decide) (by decide) hy9_34_5
  clear hy9_34_5
  simp only [Int32.reduceToInt] at r
  have e : (((10 : Int32) - (1 : Int32))) = (9 : Int32) := by decide
  rw [e, Int32.lt_iff_toInt_lt]
  simp only [Int32.reduceToInt]
  omega
theorem own_0_hp358_290 (p4 : Int32) (y9_34_5 : Int32) (hy9_34_5 : y9_34_5 = ((4 : Int32) + ((p4 &&& (2147483647 : Int32)) % (((11 : Int32) - (1 : Int32)) - (4 : Int32)))))  : ¬ ((0 : Int32) = y9_34_5) := by
  have r := own_len p4 y9_34_5 (1 : Int32) (4 : Int32) _ rfl (by decide) (by decide) hy9_34_5
  clear hy9_34_5
  simp only [Int32.reduceToInt] at r
  rw [← Int32.toInt_inj]
  simp only [Int32.reduceToInt]
  omega
theorem own_0_hp358_291 (p1 : Int32) (y11_152_40 : Int32) (x209_266 : Int32) (hy11_152_40 : y11_152_40 = (p1 &&& (127 : Int32))) (hx209_266 : x209_266 = ((y11_152_40 ||| (128 : Int32)).toInt8.toInt32))  : ¬ ((((nar .byte x209_266) &&& (255 : Int32))) < (128 : Int32)) := by
  have g := own_g0 p1 y11_152_40 hy11_152_40
  have b := own_hi y11_152_40 x209_266 (by omega) hx209_266
  rw [Int32.lt_iff_toInt_lt, b]
  simp only [Int32.reduceToInt]
  omega
theorem own_0_hp358_292 (p4 : Int32) (y9_34_5 : Int32) (hy9_34_5 : y9_34_5 = ((4 : Int32) + ((p4 &&& (2147483647 : Int32)) % (((11 : Int32) - (1 : Int32)) - (4 : Int32)))))  : ¬ ((1 : Int32) = y9_34_5) := by
  have r := own_len p4 y9_34_5 (1 : Int32) (4 : Int32) _ rfl (by decide) (by decide) hy9_34_5
  clear hy9_34_5
  simp only [Int32.reduceToInt] at r
  rw [← Int32.toInt_inj]
  simp only [Int32.reduceToInt]
  omega
theorem own_0_hp358_293 (p1 : Int32) (y12_161_42 : Int32) (x240_269 : Int32) (hy12_161_42 : y12_161_42 = (((p1.toUInt32 >>> ((7 : Int32) &&& 31).toUInt32).toInt32) &&& (127 : Int32))) (hx240_269 : x240_269 = ((y12_161_42 ||| (128 : Int32)).toInt8.toInt32))  : ¬ ((((nar .byte x240_269) &&& (255 : Int32))) < (128 : Int32)) := by
  have g : y12_161_42.toInt = ((p1.toInt % 4294967296) / 128) % 128 := own_g p1 y12_161_42 (7 : Int32) 7 (by decide) (by decide) hy12_161_42
  have b := own_hi y12_161_42 x240_269 (by omega) hx240_269
  rw [Int32.lt_iff_toInt_lt, b]
  simp only [Int32.reduceToInt]
  omega
theorem own_0_hp358_294 (p4 : Int32) (y9_34_5 : Int32) (hy9_34_5 : y9_34_5 = ((4 : Int32) + ((p4 &&& (2147483647 : Int32)) % (((11 : Int32) - (1 : Int32)) - (4 : Int32)))))  : ¬ ((2 : Int32) = y9_34_5) := by
  have r := own_len p4 y9_34_5 (1 : Int32) (4 : Int32) _ rfl (by decide) (by decide) hy9_34_5
  clear hy9_34_5
  simp only [Int32.reduceToInt] at r
  rw [← Int32.toInt_inj]
  simp only [Int32.reduceToInt]
  omega
theorem own_0_hp358_295 (p1 : Int32) (y13_170_44 : Int32) (x271_272 : Int32) (hy13_170_44 : y13_170_44 = (((p1.toUInt32 >>> ((14 : Int32) &&& 31).toUInt32).toInt32) &&& (127 : Int32))) (hx271_272 : x271_272 = ((y13_170_44 ||| (128 : Int32)).toInt8.toInt32))  : ¬ ((((nar .byte x271_272) &&& (255 : Int32))) < (128 : Int32)) := by
  have g : y13_170_44.toInt = ((p1.toInt % 4294967296) / 16384) % 128 := own_g p1 y13_170_44 (14 : Int32) 14 (by decide) (by decide) hy13_170_44
  have b := own_hi y13_170_44 x271_272 (by omega) hx271_272
  rw [Int32.lt_iff_toInt_lt, b]
  simp only [Int32.reduceToInt]
  omega
theorem own_0_hp358_296 (p4 : Int32) (y9_34_5 : Int32) (hy9_34_5 : y9_34_5 = ((4 : Int32) + ((p4 &&& (2147483647 : Int32)) % (((11 : Int32) - (1 : Int32)) - (4 : Int32)))))  : ¬ ((3 : Int32) = y9_34_5) := by
  have r := own_len p4 y9_34_5 (1 : Int32) (4 : Int32) _ rfl (by decide) (by decide) hy9_34_5
  clear hy9_34_5
  simp only [Int32.reduceToInt] at r
  rw [← Int32.toInt_inj]
  simp only [Int32.reduceToInt]
  omega
theorem own_0_hp358_297 (p1 : Int32) (y14_179_46 : Int32) (x302_275 : Int32) (hy14_179_46 : y14_179_46 = (((p1.toUInt32 >>> ((21 : Int32) &&& 31).toUInt32).toInt32) &&& (127 : Int32))) (hx302_275 : x302_275 = (y14_179_46.toInt8.toInt32))  : (((nar .byte x302_275) &&& (255 : Int32))) < (128 : Int32) := by
  have g : y14_179_46.toInt = ((p1.toInt % 4294967296) / 2097152) % 128 := own_g p1 y14_179_46 (21 : Int32) 21 (by decide) (by decide) hy14_179_46
  have b := own_lo y14_179_46 x302_275 (by omega) hx302_275
  rw [Int32.lt_iff_toInt_lt, b]
  simp only [Int32.reduceToInt]
  omega
theorem own_0_hp358_298 (p1 : Int32) (y11_152_40 : Int32) (x209_266 : Int32) (y12_161_42 : Int32) (x240_269 : Int32) (y13_170_44 : Int32) (x271_272 : Int32) (y14_179_46 : Int32) (x302_275 : Int32) (hy11_152_40 : y11_152_40 = (p1 &&& (127 : Int32))) (hx209_266 : x209_266 = ((y11_152_40 ||| (128 : Int32)).toInt8.toInt32)) (hy12_161_42 : y12_161_42 = (((p1.toUInt32 >>> ((7 : Int32) &&& 31).toUInt32).toInt32) &&& (127 : Int32))) (hx240_269 : x240_269 = ((y12_161_42 ||| (128 : Int32)).toInt8.toInt32)) (hy13_170_44 : y13_170_44 = (((p1.toUInt32 >>> ((14 : Int32) &&& 31).toUInt32).toInt32) &&& (127 : Int32))) (hx271_272 : x271_272 = ((y13_170_44 ||| (128 : Int32)).toInt8.toInt32)) (hy14_179_46 : y14_179_46 = (((p1.toUInt32 >>> ((21 : Int32) &&& 31).toUInt32).toInt32) &&& (127 : Int32))) (hx302_275 : x302_275 = (y14_179_46.toInt8.toInt32))  : ¬ ((4294967295 : Int64) < (((((((((0 : Int64) ||| ((((((nar .byte x209_266) &&& (255 : Int32))) &&& (127 : Int32)).toInt64) <<< ((0 : Int32) &&& 0x3f).toInt64))) ||| ((((((nar .byte x240_269) &&& (255 : Int32))) &&& (127 : Int32)).toInt64) <<< ((7 : Int32) &&& 0x3f).toInt64))) ||| ((((((nar .byte x271_272) &&& (255 : Int32))) &&& (127 : Int32)).toInt64) <<< ((14 : Int32) &&& 0x3f).toInt64))) ||| ((((((nar .byte x302_275) &&& (255 : Int32))) &&& (127 : Int32)).toInt64) <<< ((21 : Int32) &&& 0x3f).toInt64)))) := by
  have g0 := own_g0 p1 y11_152_40 hy11_152_40
  have b0 := own_hi y11_152_40 x209_266 (by omega) hx209_266
  have g1 : y12_161_42.toInt = ((p1.toInt % 4294967296) / 128) % 128 := own_g p1 y12_161_42 (7 : Int32) 7 (by decide) (by decide) hy12_161_42
  have b1 := own_hi y12_161_42 x240_269 (by omega) hx240_269
  have g2 : y13_170_44.toInt = ((p1.toInt % 4294967296) / 16384) % 128 := own_g p1 y13_170_44 (14 : Int32) 14 (by decide) (by decide) hy13_170_44
  have b2 := own_hi y13_170_44 x271_272 (by omega) hx271_272
  have g3 : y14_179_46.toInt = ((p1.toInt % 4294967296) / 2097152) % 128 := own_g p1 y14_179_46 (21 : Int32) 21 (by decide) (by decide) hy14_179_46
  have b3 := own_lo y14_179_46 x302_275 (by omega) hx302_275
  have n0 := own_7 ((nar .byte x209_266) &&& (255 : Int32))
  rw [b0] at n0
  generalize ((((nar .byte x209_266) &&& (255 : Int32)) &&& (127 : Int32)).toInt64) = A0 at *
  have s0 := c_lshl A0 (0 : Int32) 0 (by decide)
  generalize (A0 <<< ((0 : Int32) &&& 0x3f).toInt64) = S0 at *
  have q0 := rng64 S0
  have e0 : S0.toInt = y11_152_40.toInt * 1 := by omega
  clear s0 q0 n0 b0
  have o0 := c_orL' (0 : Int64) S0 0 (by decide) 1 rfl (by omega) (by first | decide | omega) (by first | decide | omega)
  generalize ((0 : Int64) ||| S0) = O0 at *
  have f0 := rng64 O0
  have d0 : O0.toInt = y11_152_40.toInt := by simp only [Int64.reduceToInt] at o0; omega
  clear o0 f0 e0
  have n1 := own_7 ((nar .byte x240_269) &&& (255 : Int32))
  rw [b1] at n1
  generalize ((((nar .byte x240_269) &&& (255 : Int32)) &&& (127 : Int32)).toInt64) = A1 at *
  have s1 := c_lshl A1 (7 : Int32) 7 (by decide)
  generalize (A1 <<< ((7 : Int32) &&& 0x3f).toInt64) = S1 at *
  have q1 := rng64 S1
  have e1 : S1.toInt = y12_161_42.toInt * 128 := by omega
  clear s1 q1 n1 b1
  have o1 := c_orL' O0 S1 7 (by decide) 128 rfl (by omega) (by first | decide | omega) (by first | decide | omega)
  generalize (O0 ||| S1) = O1 at *
  have f1 := rng64 O1
  have d1 : O1.toInt = O0.toInt + y12_161_42.toInt * 128 := by omega
  clear o1 f1 e1
  have n2 := own_7 ((nar .byte x271_272) &&& (255 : Int32))
  rw [b2] at n2
  generalize ((((nar .byte x271_272) &&& (255 : Int32)) &&& (127 : Int32)).toInt64) = A2 at *
  have s2 := c_lshl A2 (14 : Int32) 14 (by decide)
  generalize (A2 <<< ((14 : Int32) &&& 0x3f).toInt64) = S2 at *
  have q2 := rng64 S2
  have e2 : S2.toInt = y13_170_44.toInt * 16384 := by omega
  clear s2 q2 n2 b2
  have o2 := c_orL' O1 S2 14 (by decide) 16384 rfl (by omega) (by first | decide | omega) (by first | decide | omega)
  generalize (O1 ||| S2) = O2 at *
  have f2 := rng64 O2
  have d2 : O2.toInt = O1.toInt + y13_170_44.toInt * 16384 := by omega
  clear o2 f2 e2
  have n3 := own_7 ((nar .byte x302_275) &&& (255 : Int32))
  rw [b3] at n3
  generalize ((((nar .byte x302_275) &&& (255 : Int32)) &&& (127 : Int32)).toInt64) = A3 at *
  have s3 := c_lshl A3 (21 : Int32) 21 (by decide)
  generalize (A3 <<< ((21 : Int32) &&& 0x3f).toInt64) = S3 at *
  have q3 := rng64 S3
  have e3 : S3.toInt = y14_179_46.toInt * 2097152 := by omega
  clear s3 q3 n3 b3
  have o3 := c_orL' O2 S3 21 (by decide) 2097152 rfl (by omega) (by first | decide | omega) (by first | decide | omega)
  generalize (O2 ||| S3) = O3 at *
  have f3 := rng64 O3
  have d3 : O3.toInt = O2.toInt + y14_179_46.toInt * 2097152 := by omega
  clear o3 f3 e3
  rw [Int64.lt_iff_toInt_lt]
  simp only [Int64.reduceToInt]
  omega
theorem own_0_hc364_300 (p1 : Int32) (y11_152_40 : Int32) (x209_266 : Int32) (y12_161_42 : Int32) (x240_269 : Int32) (y13_170_44 : Int32) (x271_272 : Int32) (y14_179_46 : Int32) (x302_275 : Int32) (r358_299 : Int64) (y16_325_278 : Int64) (y18_350_280 : Int64) (hy11_152_40 : y11_152_40 = (p1 &&& (127 : Int32))) (hx209_266 : x209_266 = ((y11_152_40 ||| (128 : Int32)).toInt8.toInt32)) (hy12_161_42 : y12_161_42 = (((p1.toUInt32 >>> ((7 : Int32) &&& 31).toUInt32).toInt32) &&& (127 : Int32))) (hx240_269 : x240_269 = ((y12_161_42 ||| (128 : Int32)).toInt8.toInt32)) (hy13_170_44 : y13_170_44 = (((p1.toUInt32 >>> ((14 : Int32) &&& 31).toUInt32).toInt32) &&& (127 : Int32))) (hx271_272 : x271_272 = ((y13_170_44 ||| (128 : Int32)).toInt8.toInt32)) (hy14_179_46 : y14_179_46 = (((p1.toUInt32 >>> ((21 : Int32) &&& 31).toUInt32).toInt32) &&& (127 : Int32))) (hx302_275 : x302_275 = (y14_179_46.toInt8.toInt32)) (hr358_299 : r358_299 = (((((((((0 : Int64) ||| ((((((nar .byte x209_266) &&& (255 : Int32))) &&& (127 : Int32)).toInt64) <<< ((0 : Int32) &&& 0x3f).toInt64))) ||| ((((((nar .byte x240_269) &&& (255 : Int32))) &&& (127 : Int32)).toInt64) <<< ((7 : Int32) &&& 0x3f).toInt64))) ||| ((((((nar .byte x271_272) &&& (255 : Int32))) &&& (127 : Int32)).toInt64) <<< ((14 : Int32) &&& 0x3f).toInt64))) ||| ((((((nar .byte x302_275) &&& (255 : Int32))) &&& (127 : Int32)).toInt64) <<< ((21 : Int32) &&& 0x3f).toInt64)))) (hy16_325_278 : y16_325_278 = ((p1.toInt64) &&& (4294967295 : Int64))) (hy18_350_280 : y18_350_280 = (y16_325_278 &&& (((1 : Int64) <<< ((28 : Int32) &&& 0x3f).toInt64) - (1 : Int64))))  : r358_299 = y18_350_280 := by
  have g0 := own_g0 p1 y11_152_40 hy11_152_40
  have b0 := own_hi y11_152_40 x209_266 (by omega) hx209_266
  have g1 : y12_161_42.toInt = ((p1.toInt % 4294967296) / 128) % 128 := own_g p1 y12_161_42 (7 : Int32) 7 (by decide) (by decide) hy12_161_42
  have b1 := own_hi y12_161_42 x240_269 (by omega) hx240_269
  have g2 : y13_170_44.toInt = ((p1.toInt % 4294967296) / 16384) % 128 := own_g p1 y13_170_44 (14 : Int32) 14 (by decide) (by decide) hy13_170_44
  have b2 := own_hi y13_170_44 x271_272 (by omega) hx271_272
  have g3 : y14_179_46.toInt = ((p1.toInt % 4294967296) / 2097152) % 128 := own_g p1 y14_179_46 (21 : Int32) 21 (by decide) (by decide) hy14_179_46
  have b3 := own_lo y14_179_46 x302_275 (by omega) hx302_275
  have n0 := own_7 ((nar .byte x209_266) &&& (255 : Int32))
  rw [b0] at n0
  generalize ((((nar .byte x209_266) &&& (255 : Int32)) &&& (127 : Int32)).toInt64) = A0 at *
  have s0 := c_lshl A0 (0 : Int32) 0 (by decide)
  generalize (A0 <<< ((0 : Int32) &&& 0x3f).toInt64) = S0 at *
  have q0 := rng64 S0
  have e0 : S0.toInt = y11_152_40.toInt * 1 := by omega
  clear s0 q0 n0 b0
  have o0 := c_orL' (0 : Int64) S0 0 (by decide) 1 rfl (by omega) (by first | decide | omega) (by first | decide | omega)
  generalize ((0 : Int64) ||| S0) = O0 at *
  have f0 := rng64 O0
  have d0 : O0.toInt = y11_152_40.toInt := by simp only [Int64.reduceToInt] at o0; omega
  clear o0 f0 e0
  have n1 := own_7 ((nar .byte x240_269) &&& (255 : Int32))
  rw [b1] at n1
  generalize ((((nar .byte x240_269) &&& (255 : Int32)) &&& (127 : Int32)).toInt64) = A1 at *
  have s1 := c_lshl A1 (7 : Int32) 7 (by decide)
  generalize (A1 <<< ((7 : Int32) &&& 0x3f).toInt64) = S1 at *
  have q1 := rng64 S1
  have e1 : S1.toInt = y12_161_42.toInt * 128 := by omega
  clear s1 q1 n1 b1
  have o1 := c_orL' O0 S1 7 (by decide) 128 rfl (by omega) (by first | decide | omega) (by first | decide | omega)
  generalize (O0 ||| S1) = O1 at *
  have f1 := rng64 O1
  have d1 : O1.toInt = O0.toInt + y12_161_42.toInt * 128 := by omega
  clear o1 f1 e1
  have n2 := own_7 ((nar .byte x271_272) &&& (255 : Int32))
  rw [b2] at n2
  generalize ((((nar .byte x271_272) &&& (255 : Int32)) &&& (127 : Int32)).toInt64) = A2 at *
  have s2 := c_lshl A2 (14 : Int32) 14 (by decide)
  generalize (A2 <<< ((14 : Int32) &&& 0x3f).toInt64) = S2 at *
  have q2 := rng64 S2
  have e2 : S2.toInt = y13_170_44.toInt * 16384 := by omega
  clear s2 q2 n2 b2
  have o2 := c_orL' O1 S2 14 (by decide) 16384 rfl (by omega) (by first | decide | omega) (by first | decide | omega)
  generalize (O1 ||| S2) = O2 at *
  have f2 := rng64 O2
  have d2 : O2.toInt = O1.toInt + y13_170_44.toInt * 16384 := by omega
  clear o2 f2 e2
  have n3 := own_7 ((nar .byte x302_275) &&& (255 : Int32))
  rw [b3] at n3
  generalize ((((nar .byte x302_275) &&& (255 : Int32)) &&& (127 : Int32)).toInt64) = A3 at *
  have s3 := c_lshl A3 (21 : Int32) 21 (by decide)
  generalize (A3 <<< ((21 : Int32) &&& 0x3f).toInt64) = S3 at *
  have q3 := rng64 S3
  have e3 : S3.toInt = y14_179_46.toInt * 2097152 := by omega
  clear s3 q3 n3 b3
  have o3 := c_orL' O2 S3 21 (by decide) 2097152 rfl (by omega) (by first | decide | omega) (by first | decide | omega)
  generalize (O2 ||| S3) = O3 at *
  have f3 := rng64 O3
  have d3 : O3.toInt = O2.toInt + y14_179_46.toInt * 2097152 := by omega
  clear o3 f3 e3
  have u1 : y16_325_278.toInt = p1.toInt % 4294967296 := by rw [hy16_325_278, ← c_i2l p1]; exact c_maskL p1.toInt64 (4294967295 : Int64) 32 (by decide) (by decide)
  have u2 : y18_350_280.toInt = y16_325_278.toInt % 268435456 := by rw [hy18_350_280]; exact c_maskL y16_325_278 _ 28 (by decide) (by decide)
  rw [← Int64.toInt_inj, hr358_299]
  omega
theorem own_0_hp358_326 (p4 : Int32) (y9_34_5 : Int32) (hy9_34_5 : y9_34_5 = ((5 : Int32) + ((p4 &&& (2147483647 : Int32)) % (((11 : Int32) - (1 : Int32)) - (5 : Int32)))))  : ¬ ((((10 : Int32) ||| (1 : Int32)) ||| y9_34_5) < (0 : Int32)) := by
  have r := own_len p4 y9_34_5 (1 : Int32) (5 : Int32) _ rfl (by decide) (by decide) hy9_34_5
  clear hy9_34_5
  simp only [Int32.reduceToInt] at r
  have a := (c_orS ((10 : Int32) ||| (1 : Int32)) y9_34_5).1 (by decide) (by omega)
  rw [Int32.lt_iff_toInt_lt]
  simp only [Int32.reduceToInt] at *
  omega
theorem own_0_hp358_327 (p4 : Int32) (y9_34_5 : Int32) (hy9_34_5 : y9_34_5 = ((5 : Int32) + ((p4 &&& (2147483647 : Int32)) % (((11 : Int32) - (1 : Int32)) - (5 : Int32)))))  : ¬ (((10 : Int32) - (1 : Int32)) < y9_34_5) := by
  have r := own_len p4 y9_34_5 (1 : Int32) (5 : Int32) _ rfl (by decide) (by decide) hy9_34_5
  clear hy9_34_5
  simp only [Int32.reduceToInt] at r
  have e : (((10 : Int32) - (1 : Int32))) = (9 : Int32) := by decide
  rw [e, Int32.lt_iff_toInt_lt]
  simp only [Int32.reduceToInt]
  omega
theorem own_0_hp358_328 (p4 : Int32) (y9_34_5 : Int32) (hy9_34_5 : y9_34_5 = ((5 : Int32) + ((p4 &&& (2147483647 : Int32)) % (((11 : Int32) - (1 : Int32)) - (5 : Int32)))))  : ¬ ((0 : Int32) = y9_34_5) := by
  have r := own_len p4 y9_34_5 (1 : Int32) (5 : Int32) _ rfl (by decide) (by decide) hy9_34_5
  clear hy9_34_5
  simp only [Int32.reduceToInt] at r
  rw [← Int32.toInt_inj]
  simp only [Int32.reduceToInt]
  omega
theorem own_0_hp358_329 (p1 : Int32) (y11_152_40 : Int32) (x209_301 : Int32) (hy11_152_40 : y11_152_40 = (p1 &&& (127 : Int32))) (hx209_301 : x209_301 = ((y11_152_40 ||| (128 : Int32)).toInt8.toInt32))  : ¬ ((((nar .byte x209_301) &&& (255 : Int32))) < (128 : Int32)) := by
  have g := own_g0 p1 y11_152_40 hy11_152_40
  have b := own_hi y11_152_40 x209_301 (by omega) hx209_301
  rw [Int32.lt_iff_toInt_lt, b]
  simp only [Int32.reduceToInt]
  omega
theorem own_0_hp358_330 (p4 : Int32) (y9_34_5 : Int32) (hy9_34_5 : y9_34_5 = ((5 : Int32) + ((p4 &&& (2147483647 : Int32)) % (((11 : Int32) - (1 : Int32)) - (5 : Int32)))))  : ¬ ((1 : Int32) = y9_34_5) := by
  have r := own_len p4 y9_34_5 (1 : Int32) (5 : Int32) _ rfl (by decide) (by decide) hy9_34_5
  clear hy9_34_5
  simp only [Int32.reduceToInt] at r
  rw [← Int32.toInt_inj]
  simp only [Int32.reduceToInt]
  omega
theorem own_0_hp358_331 (p1 : Int32) (y12_161_42 : Int32) (x240_304 : Int32) (hy12_161_42 : y12_161_42 = (((p1.toUInt32 >>> ((7 : Int32) &&& 31).toUInt32).toInt32) &&& (127 : Int32))) (hx240_304 : x240_304 = ((y12_161_42 ||| (128 : Int32)).toInt8.toInt32))  : ¬ ((((nar .byte x240_304) &&& (255 : Int32))) < (128 : Int32)) := by
  have g : y12_161_42.toInt = ((p1.toInt % 4294967296) / 128) % 128 := own_g p1 y12_161_42 (7 : Int32) 7 (by decide) (by decide) hy12_161_42
  have b := own_hi y12_161_42 x240_304 (by omega) hx240_304
  rw [Int32.lt_iff_toInt_lt, b]
  simp only [Int32.reduceToInt]
  omega
theorem own_0_hp358_332 (p4 : Int32) (y9_34_5 : Int32) (hy9_34_5 : y9_34_5 = ((5 : Int32) + ((p4 &&& (2147483647 : Int32)) % (((11 : Int32) - (1 : Int32)) - (5 : Int32)))))  : ¬ ((2 : Int32) = y9_34_5) := by
  have r := own_len p4 y9_34_5 (1 : Int32) (5 : Int32) _ rfl (by decide) (by decide) hy9_34_5
  clear hy9_34_5
  simp only [Int32.reduceToInt] at r
  rw [← Int32.toInt_inj]
  simp only [Int32.reduceToInt]
  omega
theorem own_0_hp358_333 (p1 : Int32) (y13_170_44 : Int32) (x271_307 : Int32) (hy13_170_44 : y13_170_44 = (((p1.toUInt32 >>> ((14 : Int32) &&& 31).toUInt32).toInt32) &&& (127 : Int32))) (hx271_307 : x271_307 = ((y13_170_44 ||| (128 : Int32)).toInt8.toInt32))  : ¬ ((((nar .byte x271_307) &&& (255 : Int32))) < (128 : Int32)) := by
  have g : y13_170_44.toInt = ((p1.toInt % 4294967296) / 16384) % 128 := own_g p1 y13_170_44 (14 : Int32) 14 (by decide) (by decide) hy13_170_44
  have b := own_hi y13_170_44 x271_307 (by omega) hx271_307
  rw [Int32.lt_iff_toInt_lt, b]
  simp only [Int32.reduceToInt]
  omega
theorem own_0_hp358_334 (p4 : Int32) (y9_34_5 : Int32) (hy9_34_5 : y9_34_5 = ((5 : Int32) + ((p4 &&& (2147483647 : Int32)) % (((11 : Int32) - (1 : Int32)) - (5 : Int32)))))  : ¬ ((3 : Int32) = y9_34_5) := by
  have r := own_len p4 y9_34_5 (1 : Int32) (5 : Int32) _ rfl (by decide) (by decide) hy9_34_5
  clear hy9_34_5
  simp only [Int32.reduceToInt] at r
  rw [← Int32.toInt_inj]
  simp only [Int32.reduceToInt]
  omega
theorem own_0_hp358_335 (p1 : Int32) (y14_179_46 : Int32) (x302_310 : Int32) (hy14_179_46 : y14_179_46 = (((p1.toUInt32 >>> ((21 : Int32) &&& 31).toUInt32).toInt32) &&& (127 : Int32))) (hx302_310 : x302_310 = ((y14_179_46 ||| (128 : Int32)).toInt8.toInt32))  : ¬ ((((nar .byte x302_310) &&& (255 : Int32))) < (128 : Int32)) := by
  have g : y14_179_46.toInt = ((p1.toInt % 4294967296) / 2097152) % 128 := own_g p1 y14_179_46 (21 : Int32) 21 (by decide) (by decide) hy14_179_46
  have b := own_hi y14_179_46 x302_310 (by omega) hx302_310
  rw [Int32.lt_iff_toInt_lt, b]
  simp only [Int32.reduceToInt]
  omega
theorem own_0_hp358_336 (p4 : Int32) (y9_34_5 : Int32) (hy9_34_5 : y9_34_5 = ((5 : Int32) + ((p4 &&& (2147483647 : Int32)) % (((11 : Int32) - (1 : Int32)) - (5 : Int32)))))  : ¬ ((4 : Int32) = y9_34_5) := by
  have r := own_len p4 y9_34_5 (1 : Int32) (5 : Int32) _ rfl (by decide) (by decide) hy9_34_5
  clear hy9_34_5
  simp only [Int32.reduceToInt] at r
  rw [← Int32.toInt_inj]
  simp only [Int32.reduceToInt]
  omega
theorem own_0_hp358_337 (p1 : Int32) (y15_185_48 : Int32) (x318_313 : Int32) (hy15_185_48 : y15_185_48 = ((p1.toUInt32 >>> ((28 : Int32) &&& 31).toUInt32).toInt32)) (hx318_313 : x318_313 = (y15_185_48.toInt8.toInt32))  : (((nar .byte x318_313) &&& (255 : Int32))) < (128 : Int32) := by
  have g : y15_185_48.toInt = (p1.toInt % 4294967296) / 268435456 := by rw [hy15_185_48]; exact c_iushr p1 (28 : Int32) 28 (by decide) (by decide)
  have b := own_lo y15_185_48 x318_313 (by omega) hx318_313
  rw [Int32.lt_iff_toInt_lt, b]
  simp only [Int32.reduceToInt]
  omega
theorem own_0_hp358_338 (p1 : Int32) (y11_152_40 : Int32) (x209_301 : Int32) (y12_161_42 : Int32) (x240_304 : Int32) (y13_170_44 : Int32) (x271_307 : Int32) (y14_179_46 : Int32) (x302_310 : Int32) (y15_185_48 : Int32) (x318_313 : Int32) (hy11_152_40 : y11_152_40 = (p1 &&& (127 : Int32))) (hx209_301 : x209_301 = ((y11_152_40 ||| (128 : Int32)).toInt8.toInt32)) (hy12_161_42 : y12_161_42 = (((p1.toUInt32 >>> ((7 : Int32) &&& 31).toUInt32).toInt32) &&& (127 : Int32))) (hx240_304 : x240_304 = ((y12_161_42 ||| (128 : Int32)).toInt8.toInt32)) (hy13_170_44 : y13_170_44 = (((p1.toUInt32 >>> ((14 : Int32) &&& 31).toUInt32).toInt32) &&& (127 : Int32))) (hx271_307 : x271_307 = ((y13_170_44 ||| (128 : Int32)).toInt8.toInt32)) (hy14_179_46 : y14_179_46 = (((p1.toUInt32 >>> ((21 : Int32) &&& 31).toUInt32).toInt32) &&& (127 : Int32))) (hx302_310 : x302_310 = ((y14_179_46 ||| (128 : Int32)).toInt8.toInt32)) (hy15_185_48 : y15_185_48 = ((p1.toUInt32 >>> ((28 : Int32) &&& 31).toUInt32).toInt32)) (hx318_313 : x318_313 = (y15_185_48.toInt8.toInt32))  : ¬ ((4294967295 : Int64) < (((((((((((0 : Int64) ||| ((((((nar .byte x209_301) &&& (255 : Int32))) &&& (127 : Int32)).toInt64) <<< ((0 : Int32) &&& 0x3f).toInt64))) ||| ((((((nar .byte x240_304) &&& (255 : Int32))) &&& (127 : Int32)).toInt64) <<< ((7 : Int32) &&& 0x3f).toInt64))) ||| ((((((nar .byte x271_307) &&& (255 : Int32))) &&& (127 : Int32)).toInt64) <<< ((14 : Int32) &&& 0x3f).toInt64))) ||| ((((((nar .byte x302_310) &&& (255 : Int32))) &&& (127 : Int32)).toInt64) <<< ((21 : Int32) &&& 0x3f).toInt64))) ||| ((((((nar .byte x318_313) &&& (255 : Int32))) &&& (127 : Int32)).toInt64) <<< ((28 : Int32) &&& 0x3f).toInt64)))) := by
  have g0 := own_g0 p1 y11_152_40 hy11_152_40
  have b0 := own_hi y11_152_40 x209_301 (by omega) hx209_301
  have g1 : y12_161_42.toInt = ((p1.toInt % 4294967296) / 128) % 128 := own_g p1 y12_161_42 (7 : Int32) 7 (by decide) (by decide) hy12_161_42
  have b1 := own_hi y12_161_42 x240_304 (by omega) hx240_304
  have g2 : y13_170_44.toInt = ((p1.toInt % 4294967296) / 16384) % 128 := own_g p1 y13_170_44 (14 : Int32) 14 (by decide) (by decide) hy13_170_44
  have b2 := own_hi y13_170_44 x271_307 (by omega) hx271_307
  have g3 : y14_179_46.toInt = ((p1.toInt % 4294967296) / 2097152) % 128 := own_g p1 y14_179_46 (21 : Int32) 21 (by decide) (by decide) hy14_179_46
  have b3 := own_hi y14_179_46 x302_310 (by omega) hx302_310
  have g4 : y15_185_48.toInt = (p1.toInt % 4294967296) / 268435456 := by rw [hy15_185_48]; exact c_iushr p1 (28 : Int32) 28 (by decide) (by decide)
  have b4 := own_lo y15_185_48 x318_313 (by omega) hx318_313
  have n0 := own_7 ((nar .byte x209_301) &&& (255 : Int32))
  rw [b0] at n0
  generalize ((((nar .byte x209_301) &&& (255 : Int32)) &&& (127 : Int32)).toInt64) = A0 at *
  have s0 := c_lshl A0 (0 : Int32) 0 (by decide)
  generalize (A0 <<< ((0 : Int32) &&& 0x3f).toInt64) = S0 at *
  have q0 := rng64 S0
  have e0 : S0.toInt = y11_152_40.toInt * 1 := by omega
  clear s0 q0 n0 b0
  have o0 := c_orL' (0 : Int64) S0 0 (by decide) 1 rfl (by omega) (by first | decide | omega) (by first | decide | omega)
  generalize ((0 : Int64) ||| S0) = O0 at *
  have f0 := rng64 O0
  have d0 : O0.toInt = y11_152_40.toInt := by simp only [Int64.reduceToInt] at o0; omega
  clear o0 f0 e0
  have n1 := own_7 ((nar .byte x240_304) &&& (255 : Int32))
  rw [b1] at n1
  generalize ((((nar .byte x240_304) &&& (255 : Int32)) &&& (127 : Int32)).toInt64) = A1 at *
  have s1 := c_lshl A1 (7 : Int32) 7 (by decide)
  generalize (A1 <<< ((7 : Int32) &&& 0x3f).toInt64) = S1 at *
  have q1 := rng64 S1
  have e1 : S1.toInt = y12_161_42.toInt * 128 := by omega
  clear s1 q1 n1 b1
  have o1 := c_orL' O0 S1 7 (by decide) 128 rfl (by omega) (by first | decide | omega) (by first | decide | omega)
  generalize (O0 ||| S1) = O1 at *
  have f1 := rng64 O1
  have d1 : O1.toInt = O0.toInt + y12_161_42.toInt * 128 := by omega
  clear o1 f1 e1
  have n2 := own_7 ((nar .byte x271_307) &&& (255 : Int32))
  rw [b2] at n2
  generalize ((((nar .byte x271_307) &&& (255 : Int32)) &&& (127 : Int32)).toInt64) = A2 at *
  have s2 := c_lshl A2 (14 : Int32) 14 (by decide)
  generalize (A2 <<< ((14 : Int32) &&& 0x3f).toInt64) = S2 at *
  have q2 := rng64 S2
  have e2 : S2.toInt = y13_170_44.toInt * 16384 := by omega
  clear s2 q2 n2 b2
  have o2 := c_orL' O1 S2 14 (by decide) 16384 rfl (by omega) (by first | decide | omega) (by first | decide | omega)
  generalize (O1 ||| S2) = O2 at *
  have f2 := rng64 O2
  have d2 : O2.toInt = O1.toInt + y13_170_44.toInt * 16384 := by omega
  clear o2 f2 e2
  have n3 := own_7 ((nar .byte x302_310) &&& (255 : Int32))
  rw [b3] at n3
  generalize ((((nar .byte x302_310) &&& (255 : Int32)) &&& (127 : Int32)).toInt64) = A3 at *
  have s3 := c_lshl A3 (21 : Int32) 21 (by decide)
  generalize (A3 <<< ((21 : Int32) &&& 0x3f).toInt64) = S3 at *
  have q3 := rng64 S3
  have e3 : S3.toInt = y14_179_46.toInt * 2097152 := by omega
  clear s3 q3 n3 b3
  have o3 := c_orL' O2 S3 21 (by decide) 2097152 rfl (by omega) (by first | decide | omega) (by first | decide | omega)
  generalize (O2 ||| S3) = O3 at *
  have f3 := rng64 O3
  have d3 : O3.toInt = O2.toInt + y14_179_46.toInt * 2097152 := by omega
  clear o3 f3 e3
  have n4 := own_7 ((nar .byte x318_313) &&& (255 : Int32))
  rw [b4] at n4
  generalize ((((nar .byte x318_313) &&& (255 : Int32)) &&& (127 : Int32)).toInt64) = A4 at *
  have s4 := c_lshl A4 (28 : Int32) 28 (by decide)
  generalize (A4 <<< ((28 : Int32) &&& 0x3f).toInt64) = S4 at *
  have q4 := rng64 S4
  have e4 : S4.toInt = y15_185_48.toInt * 268435456 := by omega
  clear s4 q4 n4 b4
  have o4 := c_orL' O3 S4 28 (by decide) 268435456 rfl (by omega) (by first | decide | omega) (by first | decide | omega)
  generalize (O3 ||| S4) = O4 at *
  have f4 := rng64 O4
  have d4 : O4.toInt = O3.toInt + y15_185_48.toInt * 268435456 := by omega
  clear o4 f4 e4
  rw [Int64.lt_iff_toInt_lt]
  simp only [Int64.reduceToInt]
  omega
theorem own_0_hc364_340 (p1 : Int32) (y11_152_40 : Int32) (x209_301 : Int32) (y12_161_42 : Int32) (x240_304 : Int32) (y13_170_44 : Int32) (x271_307 : Int32) (y14_179_46 : Int32) (x302_310 : Int32) (y15_185_48 : Int32) (x318_313 : Int32) (r358_339 : Int64) (y16_325_316 : Int64) (hy11_152_40 : y11_152_40 = (p1 &&& (127 : Int32))) (hx209_301 : x209_301 = ((y11_152_40 ||| (128 : Int32)).toInt8.toInt32)) (hy12_161_42 : y12_161_42 = (((p1.toUInt32 >>> ((7 : Int32) &&& 31).toUInt32).toInt32) &&& (127 : Int32))) (hx240_304 : x240_304 = ((y12_161_42 ||| (128 : Int32)).toInt8.toInt32)) (hy13_170_44 : y13_170_44 = (((p1.toUInt32 >>> ((14 : Int32) &&& 31).toUInt32).toInt32) &&& (127 : Int32))) (hx271_307 : x271_307 = ((y13_170_44 ||| (128 : Int32)).toInt8.toInt32)) (hy14_179_46 : y14_179_46 = (((p1.toUInt32 >>> ((21 : Int32) &&& 31).toUInt32).toInt32) &&& (127 : Int32))) (hx302_310 : x302_310 = ((y14_179_46 ||| (128 : Int32)).toInt8.toInt32)) (hy15_185_48 : y15_185_48 = ((p1.toUInt32 >>> ((28 : Int32) &&& 31).toUInt32).toInt32)) (hx318_313 : x318_313 = (y15_185_48.toInt8.toInt32)) (hr358_339 : r358_339 = (((((((((((0 : Int64) ||| ((((((nar .byte x209_301) &&& (255 : Int32))) &&& (127 : Int32)).toInt64) <<< ((0 : Int32) &&& 0x3f).toInt64))) ||| ((((((nar .byte x240_304) &&& (255 : Int32))) &&& (127 : Int32)).toInt64) <<< ((7 : Int32) &&& 0x3f).toInt64))) ||| ((((((nar .byte x271_307) &&& (255 : Int32))) &&& (127 : Int32)).toInt64) <<< ((14 : Int32) &&& 0x3f).toInt64))) ||| ((((((nar .byte x302_310) &&& (255 : Int32))) &&& (127 : Int32)).toInt64) <<< ((21 : Int32) &&& 0x3f).toInt64))) ||| ((((((nar .byte x318_313) &&& (255 : Int32))) &&& (127 : Int32)).toInt64) <<< ((28 : Int32) &&& 0x3f).toInt64)))) (hy16_325_316 : y16_325_316 = ((p1.toInt64) &&& (4294967295 : Int64)))  : r358_339 = y16_325_316 := by
  have g0 := own_g0 p1 y11_152_40 hy11_152_40
  have b0 := own_hi y11_152_40 x209_301 (by omega) hx209_301
  have g1 : y12_161_42.toInt = ((p1.toInt % 4294967296) / 128) % 128 := own_g p1 y12_161_42 (7 : Int32) 7 (by decide) (by decide) hy12_161_42
  have b1 := own_hi y12_161_42 x240_304 (by omega) hx240_304
  have g2 : y13_170_44.toInt = ((p1.toInt % 4294967296) / 16384) % 128 := own_g p1 y13_170_44 (14 : Int32) 14 (by decide) (by decide) hy13_170_44
  have b2 := own_hi y13_170_44 x271_307 (by omega) hx271_307
  have g3 : y14_179_46.toInt = ((p1.toInt % 4294967296) / 2097152) % 128 := own_g p1 y14_179_46 (21 : Int32) 21 (by decide) (by decide) hy14_179_46
  have b3 := own_hi y14_179_46 x302_310 (by omega) hx302_310
  have g4 : y15_185_48.toInt = (p1.toInt % 4294967296) / 268435456 := by rw [hy15_185_48]; exact c_iushr p1 (28 : Int32) 28 (by decide) (by decide)
  have b4 := own_lo y15_185_48 x318_313 (by omega) hx318_313
  have n0 := own_7 ((nar .byte x209_301) &&& (255 : Int32))
  rw [b0] at n0
  generalize ((((nar .byte x209_301) &&& (255 : Int32)) &&& (127 : Int32)).toInt64) = A0 at *
  have s0 := c_lshl A0 (0 : Int32) 0 (by decide)
  generalize (A0 <<< ((0 : Int32) &&& 0x3f).toInt64) = S0 at *
  have q0 := rng64 S0
  have e0 : S0.toInt = y11_152_40.toInt * 1 := by omega
  clear s0 q0 n0 b0
  have o0 := c_orL' (0 : Int64) S0 0 (by decide) 1 rfl (by omega) (by first | decide | omega) (by first | decide | omega)
  generalize ((0 : Int64) ||| S0) = O0 at *
  have f0 := rng64 O0
  have d0 : O0.toInt = y11_152_40.toInt := by simp only [Int64.reduceToInt] at o0; omega
  clear o0 f0 e0
  have n1 := own_7 ((nar .byte x240_304) &&& (255 : Int32))
  rw [b1] at n1
  generalize ((((nar .byte x240_304) &&& (255 : Int32)) &&& (127 : Int32)).toInt64) = A1 at *
  have s1 := c_lshl A1 (7 : Int32) 7 (by decide)
  generalize (A1 <<< ((7 : Int32) &&& 0x3f).toInt64) = S1 at *
  have q1 := rng64 S1
  have e1 : S1.toInt = y12_161_42.toInt * 128 := by omega
  clear s1 q1 n1 b1
  have o1 := c_orL' O0 S1 7 (by decide) 128 rfl (by omega) (by first | decide | omega) (by first | decide | omega)
  generalize (O0 ||| S1) = O1 at *
  have f1 := rng64 O1
  have d1 : O1.toInt = O0.toInt + y12_161_42.toInt * 128 := by omega
  clear o1 f1 e1
  have n2 := own_7 ((nar .byte x271_307) &&& (255 : Int32))
  rw [b2] at n2
  generalize ((((nar .byte x271_307) &&& (255 : Int32)) &&& (127 : Int32)).toInt64) = A2 at *
  have s2 := c_lshl A2 (14 : Int32) 14 (by decide)
  generalize (A2 <<< ((14 : Int32) &&& 0x3f).toInt64) = S2 at *
  have q2 := rng64 S2
  have e2 : S2.toInt = y13_170_44.toInt * 16384 := by omega
  clear s2 q2 n2 b2
  have o2 := c_orL' O1 S2 14 (by decide) 16384 rfl (by omega) (by first | decide | omega) (by first | decide | omega)
  generalize (O1 ||| S2) = O2 at *
  have f2 := rng64 O2
  have d2 : O2.toInt = O1.toInt + y13_170_44.toInt * 16384 := by omega
  clear o2 f2 e2
  have n3 := own_7 ((nar .byte x302_310) &&& (255 : Int32))
  rw [b3] at n3
  generalize ((((nar .byte x302_310) &&& (255 : Int32)) &&& (127 : Int32)).toInt64) = A3 at *
  have s3 := c_lshl A3 (21 : Int32) 21 (by decide)
  generalize (A3 <<< ((21 : Int32) &&& 0x3f).toInt64) = S3 at *
  have q3 := rng64 S3
  have e3 : S3.toInt = y14_179_46.toInt * 2097152 := by omega
  clear s3 q3 n3 b3
  have o3 := c_orL' O2 S3 21 (by decide) 2097152 rfl (by omega) (by first | decide | omega) (by first | decide | omega)
  generalize (O2 ||| S3) = O3 at *
  have f3 := rng64 O3
  have d3 : O3.toInt = O2.toInt + y14_179_46.toInt * 2097152 := by omega
  clear o3 f3 e3
  have n4 := own_7 ((nar .byte x318_313) &&& (255 : Int32))
  rw [b4] at n4
  generalize ((((nar .byte x318_313) &&& (255 : Int32)) &&& (127 : Int32)).toInt64) = A4 at *
  have s4 := c_lshl A4 (28 : Int32) 28 (by decide)
  generalize (A4 <<< ((28 : Int32) &&& 0x3f).toInt64) = S4 at *
  have q4 := rng64 S4
  have e4 : S4.toInt = y15_185_48.toInt * 268435456 := by omega
  clear s4 q4 n4 b4
  have o4 := c_orL' O3 S4 28 (by decide) 268435456 rfl (by omega) (by first | decide | omega) (by first | decide | omega)
  generalize (O3 ||| S4) = O4 at *
  have f4 := rng64 O4
  have d4 : O4.toInt = O3.toInt + y15_185_48.toInt * 268435456 := by omega
  clear o4 f4 e4
  have u2 : y16_325_316.toInt = p1.toInt % 4294967296 := by rw [hy16_325_316, ← c_i2l p1]; exact c_maskL p1.toInt64 (4294967295 : Int64) 32 (by decide) (by decide)
  rw [← Int64.toInt_inj, hr358_339]
  omega
theorem own_0_hp358_352 (p4 : Int32) (y9_34_5 : Int32) (hy9_34_5 : y9_34_5 = ((1 : Int32) + ((p4 &&& (2147483647 : Int32)) % (((11 : Int32) - (2 : Int32)) - (1 : Int32)))))  : ¬ ((((10 : Int32) ||| (2 : Int32)) ||| y9_34_5) < (0 : Int32)) := by
  have r := own_len p4 y9_34_5 (2 : Int32) (1 : Int32) _ rfl (by decide) (by decide) hy9_34_5
  clear hy9_34_5
  simp only [Int32.reduceToInt] at r
  have a := (c_orS ((10 : Int32) ||| (2 : Int32)) y9_34_5).1 (by decide) (by omega)
  rw [Int32.lt_iff_toInt_lt]
  simp only [Int32.reduceToInt] at *
  omega
theorem own_0_hp358_353 (p4 : Int32) (y9_34_5 : Int32) (hy9_34_5 : y9_34_5 = ((1 : Int32) + ((p4 &&& (2147483647 : Int32)) % (((11 : Int32) - (2 : Int32)) - (1 : Int32)))))  : ¬ (((10 : Int32) - (2 : Int32)) < y9_34_5) := by
  have r := own_len p4 y9_34_5 (2 : Int32) (1 : Int32) _ rfl (by decide) (by decide) hy9_34_5
  clear hy9_34_5
  simp only [Int32.reduceToInt] at r
  have e : (((10 : Int32) - (2 : Int32))) = (8 : Int32) := by decide
  rw [e, Int32.lt_iff_toInt_lt]
  simp only [Int32.reduceToInt]
  omega
theorem own_0_hp358_354 (p4 : Int32) (y9_34_5 : Int32) (hy9_34_5 : y9_34_5 = ((1 : Int32) + ((p4 &&& (2147483647 : Int32)) % (((11 : Int32) - (2 : Int32)) - (1 : Int32)))))  : ¬ ((0 : Int32) = y9_34_5) := by
  have r := own_len p4 y9_34_5 (2 : Int32) (1 : Int32) _ rfl (by decide) (by decide) hy9_34_5
  clear hy9_34_5
  simp only [Int32.reduceToInt] at r
  rw [← Int32.toInt_inj]
  simp only [Int32.reduceToInt]
  omega
theorem own_0_hp358_355 (p1 : Int32) (y11_152_40 : Int32) (x209_342 : Int32) (hy11_152_40 : y11_152_40 = (p1 &&& (127 : Int32))) (hx209_342 : x209_342 = (y11_152_40.toInt8.toInt32))  : (((nar .byte x209_342) &&& (255 : Int32))) < (128 : Int32) := by
  have g := own_g0 p1 y11_152_40 hy11_152_40
  have b := own_lo y11_152_40 x209_342 (by omega) hx209_342
  rw [Int32.lt_iff_toInt_lt, b]
  simp only [Int32.reduceToInt]
  omega
theorem own_0_hp358_356 (p1 : Int32) (y11_152_40 : Int32) (x209_342 : Int32) (hy11_152_40 : y11_152_40 = (p1 &&& (127 : Int32))) (hx209_342 : x209_342 = (y11_152_40.toInt8.toInt32))  : ¬ ((4294967295 : Int64) < (((0 : Int64) ||| ((((((nar .byte x209_342) &&& (255 : Int32))) &&& (127 : Int32)).toInt64) <<< ((0 : Int32) &&& 0x3f).toInt64)))) := by
  have g0 := own_g0 p1 y11_152_40 hy11_152_40
  have b0 := own_lo y11_152_40 x209_342 (by omega) hx209_342
  have n0 := own_7 ((nar .byte x209_342) &&& (255 : Int32))
  rw [b0] at n0
  generalize ((((nar .byte x209_342) &&& (255 : Int32)) &&& (127 : Int32)).toInt64) = A0 at *
  have s0 := c_lshl A0 (0 : Int32) 0 (by decide)
  generalize (A0 <<< ((0 : Int32) &&& 0x3f).toInt64) = S0 at *
  have q0 := rng64 S0
  have e0 : S0.toInt = y11_152_40.toInt * 1 := by omega
  clear s0 q0 n0 b0
  have o0 := c_orL' (0 : Int64) S0 0 (by decide) 1 rfl (by omega) (by first | decide | omega) (by first | decide | omega)
  generalize ((0 : Int64) ||| S0) = O0 at *
  have f0 := rng64 O0
  have d0 : O0.toInt = y11_152_40.toInt := by simp only [Int64.reduceToInt] at o0; omega
  clear o0 f0 e0
  rw [Int64.lt_iff_toInt_lt]
  simp only [Int64.reduceToInt]
  omega
theorem own_0_hc364_358 (p1 : Int32) (y11_152_40 : Int32) (x209_342 : Int32) (r358_357 : Int64) (y16_325_345 : Int64) (y18_350_347 : Int64) (hy11_152_40 : y11_152_40 = (p1 &&& (127 : Int32))) (hx209_342 : x209_342 = (y11_152_40.toInt8.toInt32)) (hr358_357 : r358_357 = (((0 : Int64) ||| ((((((nar .byte x209_342) &&& (255 : Int32))) &&& (127 : Int32)).toInt64) <<< ((0 : Int32) &&& 0x3f).toInt64)))) (hy16_325_345 : y16_325_345 = ((p1.toInt64) &&& (4294967295 : Int64))) (hy18_350_347 : y18_350_347 = (y16_325_345 &&& (((1 : Int64) <<< ((7 : Int32) &&& 0x3f).toInt64) - (1 : Int64))))  : r358_357 = y18_350_347 := by
  have g0 := own_g0 p1 y11_152_40 hy11_152_40
  have b0 := own_lo y11_152_40 x209_342 (by omega) hx209_342
  have n0 := own_7 ((nar .byte x209_342) &&& (255 : Int32))
  rw [b0] at n0
  generalize ((((nar .byte x209_342) &&& (255 : Int32)) &&& (127 : Int32)).toInt64) = A0 at *
  have s0 := c_lshl A0 (0 : Int32) 0 (by decide)
  generalize (A0 <<< ((0 : Int32) &&& 0x3f).toInt64) = S0 at *
  have q0 := rng64 S0
  have e0 : S0.toInt = y11_152_40.toInt * 1 := by omega
  clear s0 q0 n0 b0
  have o0 := c_orL' (0 : Int64) S0 0 (by decide) 1 rfl (by omega) (by first | decide | omega) (by first | decide | omega)
  generalize ((0 : Int64) ||| S0) = O0 at *
  have f0 := rng64 O0
  have d0 : O0.toInt = y11_152_40.toInt := by simp only [Int64.reduceToInt] at o0; omega
  clear o0 f0 e0
  have u1 : y16_325_345.toInt = p1.toInt % 4294967296 := by rw [hy16_325_345, ← c_i2l p1]; exact c_maskL p1.toInt64 (4294967295 : Int64) 32 (by decide) (by decide)
  have u2 : y18_350_347.toInt = y16_325_345.toInt % 128 := by rw [hy18_350_347]; exact c_maskL y16_325_345 _ 7 (by decide) (by decide)
  rw [← Int64.toInt_inj, hr358_357]
  omega
theorem own_0_hp358_373 (p4 : Int32) (y9_34_5 : Int32) (hy9_34_5 : y9_34_5 = ((2 : Int32) + ((p4 &&& (2147483647 : Int32)) % (((11 : Int32) - (2 : Int32)) - (2 : Int32)))))  : ¬ ((((10 : Int32) ||| (2 : Int32)) ||| y9_34_5) < (0 : Int32)) := by
  have r := own_len p4 y9_34_5 (2 : Int32) (2 : Int32) _ rfl (by decide) (by decide) hy9_34_5
  clear hy9_34_5
  simp only [Int32.reduceToInt] at r
  have a := (c_orS ((10 : Int32) ||| (2 : Int32)) y9_34_5).1 (by decide) (by omega)
  rw [Int32.lt_iff_toInt_lt]
  simp only [Int32.reduceToInt] at *
  omega
theorem own_0_hp358_374 (p4 : Int32) (y9_34_5 : Int32) (hy9_34_5 : y9_34_5 = ((2 : Int32) + ((p4 &&& (2147483647 : Int32)) % (((11 : Int32) - (2 : Int32)) - (2 : Int32)))))  : ¬ (((10 : Int32) - (2 : Int32)) < y9_34_5) := by
  have r := own_len p4 y9_34_5 (2 : Int32) (2 : Int32) _ rfl (by decide) (by decide) hy9_34_5
  clear hy9_34_5
  simp only [Int32.reduceToInt] at r
  have e : (((10 : Int32) - (2 : Int32))) = (8 : Int32) := by decide
  rw [e, Int32.lt_iff_toInt_lt]
  simp only [Int32.reduceToInt]
  omega
theorem own_0_hp358_375 (p4 : Int32) (y9_34_5 : Int32) (hy9_34_5 : y9_34_5 = ((2 : Int32) + ((p4 &&& (2147483647 : Int32)) % (((11 : Int32) - (2 : Int32)) - (2 : Int32)))))  : ¬ ((0 : Int32) = y9_34_5) := by
  have r := own_len p4 y9_34_5 (2 : Int32) (2 : Int32) _ rfl (by decide) (by decide) hy9_34_5
  clear hy9_34_5
  simp only [Int32.reduceToInt] at r
  rw [← Int32.toInt_inj]
  simp only [Int32.reduceToInt]
  omega
theorem own_0_hp358_376 (p1 : Int32) (y11_152_40 : Int32) (x209_359 : Int32) (hy11_152_40 : y11_152_40 = (p1 &&& (127 : Int32))) (hx209_359 : x209_359 = ((y11_152_40 ||| (128 : Int32)).toInt8.toInt32))  : ¬ ((((nar .byte x209_359) &&& (255 : Int32))) < (128 : Int32)) := by
  have g := own_g0 p1 y11_152_40 hy11_152_40
  have b := own_hi y11_152_40 x209_359 (by omega) hx209_359
  rw [Int32.lt_iff_toInt_lt, b]
  simp only [Int32.reduceToInt]
  omega
theorem own_0_hp358_377 (p4 : Int32) (y9_34_5 : Int32) (hy9_34_5 : y9_34_5 = ((2 : Int32) + ((p4 &&& (2147483647 : Int32)) % (((11 : Int32) - (2 : Int32)) - (2 : Int32)))))  : ¬ ((1 : Int32) = y9_34_5) := by
  have r := own_len p4 y9_34_5 (2 : Int32) (2 : Int32) _ rfl (by decide) (by decide) hy9_34_5
  clear hy9_34_5
  simp only [Int32.reduceToInt] at r
  rw [← Int32.toInt_inj]
  simp only [Int32.reduceToInt]
  omega
theorem own_0_hp358_378 (p1 : Int32) (y12_161_42 : Int32) (x240_362 : Int32) (hy12_161_42 : y12_161_42 = (((p1.toUInt32 >>> ((7 : Int32) &&& 31).toUInt32).toInt32) &&& (127 : Int32))) (hx240_362 : x240_362 = (y12_161_42.toInt8.toInt32))  : (((nar .byte x240_362) &&& (255 : Int32))) < (128 : Int32) := by
  have g : y12_161_42.toInt = ((p1.toInt % 4294967296) / 128) % 128 := own_g p1 y12_161_42 (7 : Int32) 7 (by decide) (by decide) hy12_161_42
  have b := own_lo y12_161_42 x240_362 (by omega) hx240_362
  rw [Int32.lt_iff_toInt_lt, b]
  simp only [Int32.reduceToInt]
  omega
theorem own_0_hp358_379 (p1 : Int32) (y11_152_40 : Int32) (x209_359 : Int32) (y12_161_42 : Int32) (x240_362 : Int32) (hy11_152_40 : y11_152_40 = (p1 &&& (127 : Int32))) (hx209_359 : x209_359 = ((y11_152_40 ||| (128 : Int32)).toInt8.toInt32)) (hy12_161_42 : y12_161_42 = (((p1.toUInt32 >>> ((7 : Int32) &&& 31).toUInt32).toInt32) &&& (127 : Int32))) (hx240_362 : x240_362 = (y12_161_42.toInt8.toInt32))  : ¬ ((4294967295 : Int64) < (((((0 : Int64) ||| ((((((nar .byte x209_359) &&& (255 : Int32))) &&& (127 : Int32)).toInt64) <<< ((0 : Int32) &&& 0x3f).toInt64))) ||| ((((((nar .byte x240_362) &&& (255 : Int32))) &&& (127 : Int32)).toInt64) <<< ((7 : Int32) &&& 0x3f).toInt64)))) := by
  have g0 := own_g0 p1 y11_152_40 hy11_152_40
  have b0 := own_hi y11_152_40 x209_359 (by omega) hx209_359
  have g1 : y12_161_42.toInt = ((p1.toInt % 4294967296) / 128) % 128 := own_g p1 y12_161_42 (7 : Int32) 7 (by decide) (by decide) hy12_161_42
  have b1 := own_lo y12_161_42 x240_362 (by omega) hx240_362
  have n0 := own_7 ((nar .byte x209_359) &&& (255 : Int32))
  rw [b0] at n0
  generalize ((((nar .byte x209_359) &&& (255 : Int32)) &&& (127 : Int32)).toInt64) = A0 at *
  have s0 := c_lshl A0 (0 : Int32) 0 (by decide)
  generalize (A0 <<< ((0 : Int32) &&& 0x3f).toInt64) = S0 at *
  have q0 := rng64 S0
  have e0 : S0.toInt = y11_152_40.toInt * 1 := by omega
  clear s0 q0 n0 b0
  have o0 := c_orL' (0 : Int64) S0 0 (by decide) 1 rfl (by omega) (by first | decide | omega) (by first | decide | omega)
  generalize ((0 : Int64) ||| S0) = O0 at *
  have f0 := rng64 O0
  have d0 : O0.toInt = y11_152_40.toInt := by simp only [Int64.reduceToInt] at o0; omega
  clear o0 f0 e0
  have n1 := own_7 ((nar .byte x240_362) &&& (255 : Int32))
  rw [b1] at n1
  generalize ((((nar .byte x240_362) &&& (255 : Int32)) &&& (127 : Int32)).toInt64) = A1 at *
  have s1 := c_lshl A1 (7 : Int32) 7 (by decide)
  generalize (A1 <<< ((7 : Int32) &&& 0x3f).toInt64) = S1 at *
  have q1 := rng64 S1
  have e1 : S1.toInt = y12_161_42.toInt * 128 := by omega
  clear s1 q1 n1 b1
  have o1 := c_orL' O0 S1 7 (by decide) 128 rfl (by omega) (by first | decide | omega) (by first | decide | omega)
  generalize (O0 ||| S1) = O1 at *
  have f1 := rng64 O1
  have d1 : O1.toInt = O0.toInt + y12_161_42.toInt * 128 := by omega
  clear o1 f1 e1
  rw [Int64.lt_iff_toInt_lt]
  simp only [Int64.reduceToInt]
  omega
theorem own_0_hc364_381 (p1 : Int32) (y11_152_40 : Int32) (x209_359 : Int32) (y12_161_42 : Int32) (x240_362 : Int32) (r358_380 : Int64) (y16_325_365 : Int64) (y18_350_367 : Int64) (hy11_152_40 : y11_152_40 = (p1 &&& (127 : Int32))) (hx209_359 : x209_359 = ((y11_152_40 ||| (128 : Int32)).toInt8.toInt32)) (hy12_161_42 : y12_161_42 = (((p1.toUInt32 >>> ((7 : Int32) &&& 31).toUInt32).toInt32) &&& (127 : Int32))) (hx240_362 : x240_362 = (y12_161_42.toInt8.toInt32)) (hr358_380 : r358_380 = (((((0 : Int64) ||| ((((((nar .byte x209_359) &&& (255 : Int32))) &&& (127 : Int32)).toInt64) <<< ((0 : Int32) &&& 0x3f).toInt64))) ||| ((((((nar .byte x240_362) &&& (255 : Int32))) &&& (127 : Int32)).toInt64) <<< ((7 : Int32) &&& 0x3f).toInt64)))) (hy16_325_365 : y16_325_365 = ((p1.toInt64) &&& (4294967295 : Int64))) (hy18_350_367 : y18_350_367 = (y16_325_365 &&& (((1 : Int64) <<< ((14 : Int32) &&& 0x3f).toInt64) - (1 : Int64))))  : r358_380 = y18_350_367 := by
  have g0 := own_g0 p1 y11_152_40 hy11_152_40
  have b0 := own_hi y11_152_40 x209_359 (by omega) hx209_359
  have g1 : y12_161_42.toInt = ((p1.toInt % 4294967296) / 128) % 128 := own_g p1 y12_161_42 (7 : Int32) 7 (by decide) (by decide) hy12_161_42
  have b1 := own_lo y12_161_42 x240_362 (by omega) hx240_362
  have n0 := own_7 ((nar .byte x209_359) &&& (255 : Int32))
  rw [b0] at n0
  generalize ((((nar .byte x209_359) &&& (255 : Int32)) &&& (127 : Int32)).toInt64) = A0 at *
  have s0 := c_lshl A0 (0 : Int32) 0 (by decide)
  generalize (A0 <<< ((0 : Int32) &&& 0x3f).toInt64) = S0 at *
  have q0 := rng64 S0
  have e0 : S0.toInt = y11_152_40.toInt * 1 := by omega
  clear s0 q0 n0 b0
  have o0 := c_orL' (0 : Int64) S0 0 (by decide) 1 rfl (by omega) (by first | decide | omega) (by first | decide | omega)
  generalize ((0 : Int64) ||| S0) = O0 at *
  have f0 := rng64 O0
  have d0 : O0.toInt = y11_152_40.toInt := by simp only [Int64.reduceToInt] at o0; omega
  clear o0 f0 e0
  have n1 := own_7 ((nar .byte x240_362) &&& (255 : Int32))
  rw [b1] at n1
  generalize ((((nar .byte x240_362) &&& (255 : Int32)) &&& (127 : Int32)).toInt64) = A1 at *
  have s1 := c_lshl A1 (7 : Int32) 7 (by decide)
  generalize (A1 <<< ((7 : Int32) &&& 0x3f).toInt64) = S1 at *
  have q1 := rng64 S1
  have e1 : S1.toInt = y12_161_42.toInt * 128 := by omega
  clear s1 q1 n1 b1
  have o1 := c_orL' O0 S1 7 (by decide) 128 rfl (by omega) (by first | decide | omega) (by first | decide | omega)
  generalize (O0 ||| S1) = O1 at *
  have f1 := rng64 O1
  have d1 : O1.toInt = O0.toInt + y12_161_42.toInt * 128 := by omega
  clear o1 f1 e1
  have u1 : y16_325_365.toInt = p1.toInt % 4294967296 := by rw [hy16_325_365, ← c_i2l p1]; exact c_maskL p1.toInt64 (4294967295 : Int64) 32 (by decide) (by decide)
  have u2 : y18_350_367.toInt = y16_325_365.toInt % 16384 := by rw [hy18_350_367]; exact c_maskL y16_325_365 _ 14 (by decide) (by decide)
  rw [← Int64.toInt_inj, hr358_380]
  omega
theorem own_0_hp358_400 (p4 : Int32) (y9_34_5 : Int32) (hy9_34_5 : y9_34_5 = ((3 : Int32) + ((p4 &&& (2147483647 : Int32)) % (((11 : Int32) - (2 : Int32)) - (3 : Int32)))))  : ¬ ((((10 : Int32) ||| (2 : Int32)) ||| y9_34_5) < (0 : Int32)) := by
  have r := own_len p4 y9_34_5 (2 : Int32) (3 : Int32) _ rfl (by decide) (by decide) hy9_34_5
  clear hy9_34_5
  simp only [Int32.reduceToInt] at r
  have a := (c_orS ((10 : Int32) ||| (2 : Int32)) y9_34_5).1 (by decide) (by omega)
  rw [Int32.lt_iff_toInt_lt]
  simp only [Int32.reduceToInt] at *
  omega
theorem own_0_hp358_401 (p4 : Int32) (y9_34_5 : Int32) (hy9_34_5 : y9_34_5 = ((3 : Int32) + ((p4 &&& (2147483647 : Int32)) % (((11 : Int32) - (2 : Int32)) - (3 : Int32)))))  : ¬ (((10 : Int32) - (2 : Int32)) < y9_34_5) := by
  have r := own_len p4 y9_34_5 (2 : Int32) (3 : Int32) _ rfl (by decide) (by decide) hy9_34_5
  clear hy9_34_5
  simp only [Int32.reduceToInt] at r
  have e : (((10 : Int32) - (2 : Int32))) = (8 : Int32) := by decide
  rw [e, Int32.lt_iff_toInt_lt]
  simp only [Int32.reduceToInt]
  omega
theorem own_0_hp358_402 (p4 : Int32) (y9_34_5 : Int32) (hy9_34_5 : y9_34_5 = ((3 : Int32) + ((p4 &&& (2147483647 : Int32)) % (((11 : Int32) - (2 : Int32)) - (3 : Int32)))))  : ¬ ((0 : Int32) = y9_34_5) := by
  have r := own_len p4 y9_34_5 (2 : Int32) (3 : Int32) _ rfl (by decide) (by decide) hy9_34_5
  clear hy9_34_5
  simp only [Int32.reduceToInt] at r
  rw [← Int32.toInt_inj]
  simp only [Int32.reduceToInt]
  omega
theorem own_0_hp358_403 (p1 : Int32) (y11_152_40 : Int32) (x209_382 : Int32) (hy11_152_40 : y11_152_40 = (p1 &&& (127 : Int32))) (hx209_382 : x209_382 = ((y11_152_40 ||| (128 : Int32)).toInt8.toInt32))  : ¬ ((((nar .byte x209_382) &&& (255 : Int32))) < (128 : Int32)) := by
  have g := own_g0 p1 y11_152_40 hy11_152_40
  have b := own_hi y11_152_40 x209_382 (by omega) hx209_382
  rw [Int32.lt_iff_toInt_lt, b]
  simp only [Int32.reduceToInt]
  omega
theorem own_0_hp358_404 (p4 : Int32) (y9_34_5 : Int32) (hy9_34_5 : y9_34_5 = ((3 : Int32) + ((p4 &&& (2147483647 : Int32)) % (((11 : Int32) - (2 : Int32)) - (3 : Int32)))))  : ¬ ((1 : Int32) = y9_34_5) := by
  have r := own_len p4 y9_34_5 (2 : Int32) (3 : Int32) _ rfl (by decide) (by decide) hy9_34_5
  clear hy9_34_5
  simp only [Int32.reduceToInt] at r
  rw [← Int32.toInt_inj]
  simp only [Int32.reduceToInt]
  omega
theorem own_0_hp358_405 (p1 : Int32) (y12_161_42 : Int32) (x240_385 : Int32) (hy12_161_42 : y12_161_42 = (((p1.toUInt32 >>> ((7 : Int32) &&& 31).toUInt32).toInt32) &&& (127 : Int32))) (hx240_385 : x240_385 = ((y12_161_42 ||| (128 : Int32)).toInt8.toInt32))  : ¬ ((((nar .byte x240_385) &&& (255 : Int32))) < (128 : Int32)) := by
  have g : y12_161_42.toInt = ((p1.toInt % 4294967296) / 128) % 128 := own_g p1 y12_161_42 (7 : Int32) 7 (by decide) (by decide) hy12_161_42
  have b := own_hi y12_161_42 x240_385 (by omega) hx240_385
  rw [Int32.lt_iff_toInt_lt, b]
  simp only [Int32.reduceToInt]
  omega
theorem own_0_hp358_406 (p4 : Int32) (y9_34_5 : Int32) (hy9_34_5 : y9_34_5 = ((3 : Int32) + ((p4 &&& (2147483647 : Int32)) % (((11 : Int32) - (2 : Int32)) - (3 : Int32)))))  : ¬ ((2 : Int32) = y9_34_5) := by
  have r := own_len p4 y9_34_5 (2 : Int32) (3 : Int32) _ rfl (by decide) (by decide) hy9_34_5
  clear hy9_34_5
  simp only [Int32.reduceToInt] at r
  rw [← Int32.toInt_inj]
  simp only [Int32.reduceToInt]
  omega
theorem own_0_hp358_407 (p1 : Int32) (y13_170_44 : Int32) (x271_388 : Int32) (hy13_170_44 : y13_170_44 = (((p1.toUInt32 >>> ((14 : Int32) &&& 31).toUInt32).toInt32) &&& (127 : Int32))) (hx271_388 : x271_388 = (y13_170_44.toInt8.toInt32))  : (((nar .byte x271_388) &&& (255 : Int32))) < (128 : Int32) := by
  have g : y13_170_44.toInt = ((p1.toInt % 4294967296) / 16384) % 128 := own_g p1 y13_170_44 (14 : Int32) 14 (by decide) (by decide) hy13_170_44
  have b := own_lo y13_170_44 x271_388 (by omega) hx271_388
  rw [Int32.lt_iff_toInt_lt, b]
  simp only [Int32.reduceToInt]
  omega
theorem own_0_hp358_408 (p1 : Int32) (y11_152_40 : Int32) (x209_382 : Int32) (y12_161_42 : Int32) (x240_385 : Int32) (y13_170_44 : Int32) (x271_388 : Int32) (hy11_152_40 : y11_152_40 = (p1 &&& (127 : Int32))) (hx209_382 : x209_382 = ((y11_152_40 ||| (128 : Int32)).toInt8.toInt32)) (hy12_161_42 : y12_161_42 = (((p1.toUInt32 >>> ((7 : Int32) &&& 31).toUInt32).toInt32) &&& (127 : Int32))) (hx240_385 : x240_385 = ((y12_161_42 ||| (128 : Int32)).toInt8.toInt32)) (hy13_170_44 : y13_170_44 = (((p1.toUInt32 >>> ((14 : Int32) &&& 31).toUInt32).toInt32) &&& (127 : Int32))) (hx271_388 : x271_388 = (y13_170_44.toInt8.toInt32))  : ¬ ((4294967295 : Int64) < (((((((0 : Int64) ||| ((((((nar .byte x209_382) &&& (255 : Int32))) &&& (127 : Int32)).toInt64) <<< ((0 : Int32) &&& 0x3f).toInt64))) ||| ((((((nar .byte x240_385) &&& (255 : Int32))) &&& (127 : Int32)).toInt64) <<< ((7 : Int32) &&& 0x3f).toInt64))) ||| ((((((nar .byte x271_388) &&& (255 : Int32))) &&& (127 : Int32)).toInt64) <<< ((14 : Int32) &&& 0x3f).toInt64)))) := by
  have g0 := own_g0 p1 y11_152_40 hy11_152_40
  have b0 := own_hi y11_152_40 x209_382 (by omega) hx209_382
  have g1 : y12_161_42.toInt = ((p1.toInt % 4294967296) / 128) % 128 := own_g p1 y12_161_42 (7 : Int32) 7 (by decide) (by decide) hy12_161_42
  have b1 := own_hi y12_161_42 x240_385 (by omega) hx240_385
  have g2 : y13_170_44.toInt = ((p1.toInt % 4294967296) / 16384) % 128 := own_g p1 y13_170_44 (14 : Int32) 14 (by decide) (by decide) hy13_170_44
  have b2 := own_lo y13_170_44 x271_388 (by omega) hx271_388
  have n0 := own_7 ((nar .byte x209_382) &&& (255 : Int32))
  rw [b0] at n0
  generalize ((((nar .byte x209_382) &&& (255 : Int32)) &&& (127 : Int32)).toInt64) = A0 at *
  have s0 := c_lshl A0 (0 : Int32) 0 (by decide)
  generalize (A0 <<< ((0 : Int32) &&& 0x3f).toInt64) = S0 at *
  have q0 := rng64 S0
  have e0 : S0.toInt = y11_152_40.toInt * 1 := by omega
  clear s0 q0 n0 b0
  have o0 := c_orL' (0 : Int64) S0 0 (by decide) 1 rfl (by omega) (by first | decide | omega) (by first | decide | omega)
  generalize ((0 : Int64) ||| S0) = O0 at *
  have f0 := rng64 O0
  have d0 : O0.toInt = y11_152_40.toInt := by simp only [Int64.reduceToInt] at o0; omega
  clear o0 f0 e0
  have n1 := own_7 ((nar .byte x240_385) &&& (255 : Int32))
  rw [b1] at n1
  generalize ((((nar .byte x240_385) &&& (255 : Int32)) &&& (127 : Int32)).toInt64) = A1 at *
  have s1 := c_lshl A1 (7 : Int32) 7 (by decide)
  generalize (A1 <<< ((7 : Int32) &&& 0x3f).toInt64) = S1 at *
  have q1 := rng64 S1
  have e1 : S1.toInt = y12_161_42.toInt * 128 := by omega
  clear s1 q1 n1 b1
  have o1 := c_orL' O0 S1 7 (by decide) 128 rfl (by omega) (by first | decide | omega) (by first | decide | omega)
  generalize (O0 ||| S1) = O1 at *
  have f1 := rng64 O1
  have d1 : O1.toInt = O0.toInt + y12_161_42.toInt * 128 := by omega
  clear o1 f1 e1
  have n2 := own_7 ((nar .byte x271_388) &&& (255 : Int32))
  rw [b2] at n2
  generalize ((((nar .byte x271_388) &&& (255 : Int32)) &&& (127 : Int32)).toInt64) = A2 at *
  have s2 := c_lshl A2 (14 : Int32) 14 (by decide)
  generalize (A2 <<< ((14 : Int32) &&& 0x3f).toInt64) = S2 at *
  have q2 := rng64 S2
  have e2 : S2.toInt = y13_170_44.toInt * 16384 := by omega
  clear s2 q2 n2 b2
  have o2 := c_orL' O1 S2 14 (by decide) 16384 rfl (by omega) (by first | decide | omega) (by first | decide | omega)
  generalize (O1 ||| S2) = O2 at *
  have f2 := rng64 O2
  have d2 : O2.toInt = O1.toInt + y13_170_44.toInt * 16384 := by omega
  clear o2 f2 e2
  rw [Int64.lt_iff_toInt_lt]
  simp only [Int64.reduceToInt]
  omega
theorem own_0_hc364_410 (p1 : Int32) (y11_152_40 : Int32) (x209_382 : Int32) (y12_161_42 : Int32) (x240_385 : Int32) (y13_170_44 : Int32) (x271_388 : Int32) (r358_409 : Int64) (y16_325_391 : Int64) (y18_350_393 : Int64) (hy11_152_40 : y11_152_40 = (p1 &&& (127 : Int32))) (hx209_382 : x209_382 = ((y11_152_40 ||| (128 : Int32)).toInt8.toInt32)) (hy12_161_42 : y12_161_42 = (((p1.toUInt32 >>> ((7 : Int32) &&& 31).toUInt32).toInt32) &&& (127 : Int32))) (hx240_385 : x240_385 = ((y12_161_42 ||| (128 : Int32)).toInt8.toInt32)) (hy13_170_44 : y13_170_44 = (((p1.toUInt32 >>> ((14 : Int32) &&& 31).toUInt32).toInt32) &&& (127 : Int32))) (hx271_388 : x271_388 = (y13_170_44.toInt8.toInt32)) (hr358_409 : r358_409 = (((((((0 : Int64) ||| ((((((nar .byte x209_382) &&& (255 : Int32))) &&& (127 : Int32)).toInt64) <<< ((0 : Int32) &&& 0x3f).toInt64))) ||| ((((((nar .byte x240_385) &&& (255 : Int32))) &&& (127 : Int32)).toInt64) <<< ((7 : Int32) &&& 0x3f).toInt64))) ||| ((((((nar .byte x271_388) &&& (255 : Int32))) &&& (127 : Int32)).toInt64) <<< ((14 : Int32) &&& 0x3f).toInt64)))) (hy16_325_391 : y16_325_391 = ((p1.toInt64) &&& (4294967295 : Int64))) (hy18_350_393 : y18_350_393 = (y16_325_391 &&& (((1 : Int64) <<< ((21 : Int32) &&& 0x3f).toInt64) - (1 : Int64))))  : r358_409 = y18_350_393 := by
  have g0 := own_g0 p1 y11_152_40 hy11_152_40
  have b0 := own_hi y11_152_40 x209_382 (by omega) hx209_382
  have g1 : y12_161_42.toInt = ((p1.toInt % 4294967296) / 128) % 128 := own_g p1 y12_161_42 (7 : Int32) 7 (by decide) (by decide) hy12_161_42
  have b1 := own_hi y12_161_42 x240_385 (by omega) hx240_385
  have g2 : y13_170_44.toInt = ((p1.toInt % 4294967296) / 16384) % 128 := own_g p1 y13_170_44 (14 : Int32) 14 (by decide) (by decide) hy13_170_44
  have b2 := own_lo y13_170_44 x271_388 (by omega) hx271_388
  have n0 := own_7 ((nar .byte x209_382) &&& (255 : Int32))
  rw [b0] at n0
  generalize ((((nar .byte x209_382) &&& (255 : Int32)) &&& (127 : Int32)).toInt64) = A0 at *
  have s0 := c_lshl A0 (0 : Int32) 0 (by decide)
  generalize (A0 <<< ((0 : Int32) &&& 0x3f).toInt64) = S0 at *
  have q0 := rng64 S0
  have e0 : S0.toInt = y11_152_40.toInt * 1 := by omega
  clear s0 q0 n0 b0
  have o0 := c_orL' (0 : Int64) S0 0 (by decide) 1 rfl (by omega) (by first | decide | omega) (by first | decide | omega)
  generalize ((0 : Int64) ||| S0) = O0 at *
  have f0 := rng64 O0
  have d0 : O0.toInt = y11_152_40.toInt := by simp only [Int64.reduceToInt] at o0; omega
  clear o0 f0 e0
  have n1 := own_7 ((nar .byte x240_385) &&& (255 : Int32))
  rw [b1] at n1
  generalize ((((nar .byte x240_385) &&& (255 : Int32)) &&& (127 : Int32)).toInt64) = A1 at *
  have s1 := c_lshl A1 (7 : Int32) 7 (by decide)
  generalize (A1 <<< ((7 : Int32) &&& 0x3f).toInt64) = S1 at *
  have q1 := rng64 S1
  have e1 : S1.toInt = y12_161_42.toInt * 128 := by omega
  clear s1 q1 n1 b1
  have o1 := c_orL' O0 S1 7 (by decide) 128 rfl (by omega) (by first | decide | omega) (by first | decide | omega)
  generalize (O0 ||| S1) = O1 at *
  have f1 := rng64 O1
  have d1 : O1.toInt = O0.toInt + y12_161_42.toInt * 128 := by omega
  clear o1 f1 e1
  have n2 := own_7 ((nar .byte x271_388) &&& (255 : Int32))
  rw [b2] at n2
  generalize ((((nar .byte x271_388) &&& (255 : Int32)) &&& (127 : Int32)).toInt64) = A2 at *
  have s2 := c_lshl A2 (14 : Int32) 14 (by decide)
  generalize (A2 <<< ((14 : Int32) &&& 0x3f).toInt64) = S2 at *
  have q2 := rng64 S2
  have e2 : S2.toInt = y13_170_44.toInt * 16384 := by omega
  clear s2 q2 n2 b2
  have o2 := c_orL' O1 S2 14 (by decide) 16384 rfl (by omega) (by first | decide | omega) (by first | decide | omega)
  generalize (O1 ||| S2) = O2 at *
  have f2 := rng64 O2
  have d2 : O2.toInt = O1.toInt + y13_170_44.toInt * 16384 := by omega
  clear o2 f2 e2
  have u1 : y16_325_391.toInt = p1.toInt % 4294967296 := by rw [hy16_325_391, ← c_i2l p1]; exact c_maskL p1.toInt64 (4294967295 : Int64) 32 (by decide) (by decide)
  have u2 : y18_350_393.toInt = y16_325_391.toInt % 2097152 := by rw [hy18_350_393]; exact c_maskL y16_325_391 _ 21 (by decide) (by decide)
  rw [← Int64.toInt_inj, hr358_409]
  omega
theorem own_0_hp358_433 (p4 : Int32) (y9_34_5 : Int32) (hy9_34_5 : y9_34_5 = ((4 : Int32) + ((p4 &&& (2147483647 : Int32)) % (((11 : Int32) - (2 : Int32)) - (4 : Int32)))))  : ¬ ((((10 : Int32) ||| (2 : Int32)) ||| y9_34_5) < (0 : Int32)) := by
  have r := own_len p4 y9_34_5 (2 : Int32) (4 : Int32) _ rfl (by decide) (by decide) hy9_34_5
  clear hy9_34_5
  simp only [Int32.reduceToInt] at r
  have a := (c_orS ((10 : Int32) ||| (2 : Int32)) y9_34_5).1 (by decide) (by omega)
  rw [Int32.lt_iff_toInt_lt]
  simp only [Int32.reduceToInt] at *
  omega
theorem own_0_hp358_434 (p4 : Int32) (y9_34_5 : Int32) (hy9_34_5 : y9_34_5 = ((4 : Int32) + ((p4 &&& (2147483647 : Int32)) % (((11 : Int32) - (2 : Int32)) - (4 : Int32)))))  : ¬ (((10 : Int32) - (2 : Int32)) < y9_34_5) := by
  have r := own_len p4 y9_34_5 (2 : Int32) (4 : Int32) _ rfl (by decide) (by decide) hy9_34_5
  clear hy9_34_5
  simp only [Int32.reduceToInt] at r
  have e : (((10 : Int32) - (2 : Int32))) = (8 : Int32) := by decide
  rw [e, Int32.lt_iff_toInt_lt]
  simp only [Int32.reduceToInt]
  omega
theorem own_0_hp358_435 (p4 : Int32) (y9_34_5 : Int32) (hy9_34_5 : y9_34_5 = ((4 : Int32) + ((p4 &&& (2147483647 : Int32)) % (((11 : Int32) - (2 : Int32)) - (4 : Int32)))))  : ¬ ((0 : Int32) = y9_34_5) := by
  have r := own_len p4 y9_34_5 (2 : Int32) (4 : Int32) _ rfl (by decide) (by decide) hy9_34_5
  clear hy9_34_5
  simp only [Int32.reduceToInt] at r
  rw [← Int32.toInt_inj]
  simp only [Int32.reduceToInt]
  omega
theorem own_0_hp358_436 (p1 : Int32) (y11_152_40 : Int32) (x209_411 : Int32) (hy11_152_40 : y11_152_40 = (p1 &&& (127 : Int32))) (hx209_411 : x209_411 = ((y11_152_40 ||| (128 : Int32)).toInt8.toInt32))  : ¬ ((((nar .byte x209_411) &&& (255 : Int32))) < (128 : Int32)) := by
  have g := own_g0 p1 y11_152_40 hy11_152_40
  have b := own_hi y11_152_40 x209_411 (by omega) hx209_411
  rw [Int32.lt_iff_toInt_lt, b]
  simp only [Int32.reduceToInt]
  omega
theorem own_0_hp358_437 (p4 : Int32) (y9_34_5 : Int32) (hy9_34_5 : y9_34_5 = ((4 : Int32) + ((p4 &&& (2147483647 : Int32)) % (((11 : Int32) - (2 : Int32)) - (4 : Int32)))))  : ¬ ((1 : Int32) = y9_34_5) := by
  have r := own_len p4 y9_34_5 (2 : Int32) (4 : Int32) _ rfl (by decide) (by decide) hy9_34_5
  clear hy9_34_5
  simp only [Int32.reduceToInt] at r
  rw [← Int32.toInt_inj]
  simp only [Int32.reduceToInt]
  omega
theorem own_0_hp358_438 (p1 : Int32) (y12_161_42 : Int32) (x240_414 : Int32) (hy12_161_42 : y12_161_42 = (((p1.toUInt32 >>> ((7 : Int32) &&& 31).toUInt32).toInt32) &&& (127 : Int32))) (hx240_414 : x240_414 = ((y12_161_42 ||| (128 : Int32)).toInt8.toInt32))  : ¬ ((((nar .byte x240_414) &&& (255 : Int32))) < (128 : Int32)) := by
  have g : y12_161_42.toInt = ((p1.toInt % 4294967296) / 128) % 128 := own_g p1 y12_161_42 (7 : Int32) 7 (by decide) (by decide) hy12_161_42
  have b := own_hi y12_161_42 x240_414 (by omega) hx240_414
  rw [Int32.lt_iff_toInt_lt, b]
  simp only [Int32.reduceToInt]
  omega
theorem own_0_hp358_439 (p4 : Int32) (y9_34_5 : Int32) (hy9_34_5 : y9_34_5 = ((4 : Int32) + ((p4 &&& (2147483647 : Int32)) % (((11 : Int32) - (2 : Int32)) - (4 : Int32)))))  : ¬ ((2 : Int32) = y9_34_5) := by
  have r := own_len p4 y9_34_5 (2 : Int32) (4 : Int32) _ rfl (by decide) (by decide) hy9_34_5
  clear hy9_34_5
  simp only [Int32.reduceToInt] at r
  rw [← Int32.toInt_inj]
  simp only [Int32.reduceToInt]
  omega
theorem own_0_hp358_440 (p1 : Int32) (y13_170_44 : Int32) (x271_417 : Int32) (hy13_170_44 : y13_170_44 = (((p1.toUInt32 >>> ((14 : Int32) &&& 31).toUInt32).toInt32) &&& (127 : Int32))) (hx271_417 : x271_417 = ((y13_170_44 ||| (128 : Int32)).toInt8.toInt32))  : ¬ ((((nar .byte x271_417) &&& (255 : Int32))) < (128 : Int32)) := by
  have g : y13_170_44.toInt = ((p1.toInt % 4294967296) / 16384) % 128 := own_g p1 y13_170_44 (14 : Int32) 14 (by decide) (by decide) hy13_170_44
  have b := own_hi y13_170_44 x271_417 (by omega) hx271_417
  rw [Int32.lt_iff_toInt_lt, b]
  simp only [Int32.reduceToInt]
  omega
theorem own_0_hp358_441 (p4 : Int32) (y9_34_5 : Int32) (hy9_34_5 : y9_34_5 = ((4 : Int32) + ((p4 &&& (2147483647 : Int32)) % (((11 : Int32) - (2 : Int32)) - (4 : Int32)))))  : ¬ ((3 : Int32) = y9_34_5) := by
  have r := own_len p4 y9_34_5 (2 : Int32) (4 : Int32) _ rfl (by decide) (by decide) hy9_34_5
  clear hy9_34_5
  simp only [Int32.reduceToInt] at r
  rw [← Int32.toInt_inj]
  simp only [Int32.reduceToInt]
  omega
theorem own_0_hp358_442 (p1 : Int32) (y14_179_46 : Int32) (x302_420 : Int32) (hy14_179_46 : y14_179_46 = (((p1.toUInt32 >>> ((21 : Int32) &&& 31).toUInt32).toInt32) &&& (127 : Int32))) (hx302_420 : x302_420 = (y14_179_46.toInt8.toInt32))  : (((nar .byte x302_420) &&& (255 : Int32))) < (128 : Int32) := by
  have g : y14_179_46.toInt = ((p1.toInt % 4294967296) / 2097152) % 128 := own_g p1 y14_179_46 (21 : Int32) 21 (by decide) (by decide) hy14_179_46
  have b := own_lo y14_179_46 x302_420 (by omega) hx302_420
  rw [Int32.lt_iff_toInt_lt, b]
  simp only [Int32.reduceToInt]
  omega
theorem own_0_hp358_443 (p1 : Int32) (y11_152_40 : Int32) (x209_411 : Int32) (y12_161_42 : Int32) (x240_414 : Int32) (y13_170_44 : Int32) (x271_417 : Int32) (y14_179_46 : Int32) (x302_420 : Int32) (hy11_152_40 : y11_152_40 = (p1 &&& (127 : Int32))) (hx209_411 : x209_411 = ((y11_152_40 ||| (128 : Int32)).toInt8.toInt32)) (hy12_161_42 : y12_161_42 = (((p1.toUInt32 >>> ((7 : Int32) &&& 31).toUInt32).toInt32) &&& (127 : Int32))) (hx240_414 : x240_414 = ((y12_161_42 ||| (128 : Int32)).toInt8.toInt32)) (hy13_170_44 : y13_170_44 = (((p1.toUInt32 >>> ((14 : Int32) &&& 31).toUInt32).toInt32) &&& (127 : Int32))) (hx271_417 : x271_417 = ((y13_170_44 ||| (128 : Int32)).toInt8.toInt32)) (hy14_179_46 : y14_179_46 = (((p1.toUInt32 >>> ((21 : Int32) &&& 31).toUInt32).toInt32) &&& (127 : Int32))) (hx302_420 : x302_420 = (y14_179_46.toInt8.toInt32))  : ¬ ((4294967295 : Int64) < (((((((((0 : Int64) ||| ((((((nar .byte x209_411) &&& (255 : Int32))) &&& (127 : Int32)).toInt64) <<< ((0 : Int32) &&& 0x3f).toInt64))) ||| ((((((nar .byte x240_414) &&& (255 : Int32))) &&& (127 : Int32)).toInt64) <<< ((7 : Int32) &&& 0x3f).toInt64))) ||| ((((((nar .byte x271_417) &&& (255 : Int32))) &&& (127 : Int32)).toInt64) <<< ((14 : Int32) &&& 0x3f).toInt64))) ||| ((((((nar .byte x302_420) &&& (255 : Int32))) &&& (127 : Int32)).toInt64) <<< ((21 : Int32) &&& 0x3f).toInt64)))) := by
  have g0 := own_g0 p1 y11_152_40 hy11_152_40
  have b0 := own_hi y11_152_40 x209_411 (by omega) hx209_411
  have g1 : y12_161_42.toInt = ((p1.toInt % 4294967296) / 128) % 128 := own_g p1 y12_161_42 (7 : Int32) 7 (by decide) (by decide) hy12_161_42
  have b1 := own_hi y12_161_42 x240_414 (by omega) hx240_414
  have g2 : y13_170_44.toInt = ((p1.toInt % 4294967296) / 16384) % 128 := own_g p1 y13_170_44 (14 : Int32) 14 (by decide) (by decide) hy13_170_44
  have b2 := own_hi y13_170_44 x271_417 (by omega) hx271_417
  have g3 : y14_179_46.toInt = ((p1.toInt % 4294967296) / 2097152) % 128 := own_g p1 y14_179_46 (21 : Int32) 21 (by decide) (by decide) hy14_179_46
  have b3 := own_lo y14_179_46 x302_420 (by omega) hx302_420
  have n0 := own_7 ((nar .byte x209_411) &&& (255 : Int32))
  rw [b0] at n0
  generalize ((((nar .byte x209_411) &&& (255 : Int32)) &&& (127 : Int32)).toInt64) = A0 at *
  have s0 := c_lshl A0 (0 : Int32) 0 (by decide)
  generalize (A0 <<< ((0 : Int32) &&& 0x3f).toInt64) = S0 at *
  have q0 := rng64 S0
  have e0 : S0.toInt = y11_152_40.toInt * 1 := by omega
  clear s0 q0 n0 b0
  have o0 := c_orL' (0 : Int64) S0 0 (by decide) 1 rfl (by omega) (by first | decide | omega) (by first | decide | omega)
  generalize ((0 : Int64) ||| S0) = O0 at *
  have f0 := rng64 O0
  have d0 : O0.toInt = y11_152_40.toInt := by simp only [Int64.reduceToInt] at o0; omega
  clear o0 f0 e0
  have n1 := own_7 ((nar .byte x240_414) &&& (255 : Int32))
  rw [b1] at n1
  generalize ((((nar .byte x240_414) &&& (255 : Int32)) &&& (127 : Int32)).toInt64) = A1 at *
  have s1 := c_lshl A1 (7 : Int32) 7 (by decide)
  generalize (A1 <<< ((7 : Int32) &&& 0x3f).toInt64) = S1 at *
  have q1 := rng64 S1
  have e1 : S1.toInt = y12_161_42.toInt * 128 := by omega
  clear s1 q1 n1 b1
  have o1 := c_orL' O0 S1 7 (by decide) 128 rfl (by omega) (by first | decide | omega) (by first | decide | omega)
  generalize (O0 ||| S1) = O1 at *
  have f1 := rng64 O1
  have d1 : O1.toInt = O0.toInt + y12_161_42.toInt * 128 := by omega
  clear o1 f1 e1
  have n2 := own_7 ((nar .byte x271_417) &&& (255 : Int32))
  rw [b2] at n2
  generalize ((((nar .byte x271_417) &&& (255 : Int32)) &&& (127 : Int32)).toInt64) = A2 at *
  have s2 := c_lshl A2 (14 : Int32) 14 (by decide)
  generalize (A2 <<< ((14 : Int32) &&& 0x3f).toInt64) = S2 at *
  have q2 := rng64 S2
  have e2 : S2.toInt = y13_170_44.toInt * 16384 := by omega
  clear s2 q2 n2 b2
  have o2 := c_orL' O1 S2 14 (by decide) 16384 rfl (by omega) (by first | decide | omega) (by first | decide | omega)
  generalize (O1 ||| S2) = O2 at *
  have f2 := rng64 O2
  have d2 : O2.toInt = O1.toInt + y13_170_44.toInt * 16384 := by omega
  clear o2 f2 e2
  have n3 := own_7 ((nar .byte x302_420) &&& (255 : Int32))
  rw [b3] at n3
  generalize ((((nar .byte x302_420) &&& (255 : Int32)) &&& (127 : Int32)).toInt64) = A3 at *
  have s3 := c_lshl A3 (21 : Int32) 21 (by decide)
  generalize (A3 <<< ((21 : Int32) &&& 0x3f).toInt64) = S3 at *
  have q3 := rng64 S3
  have e3 : S3.toInt = y14_179_46.toInt * 2097152 := by omega
  clear s3 q3 n3 b3
  have o3 := c_orL' O2 S3 21 (by decide) 2097152 rfl (by omega) (by first | decide | omega) (by first | decide | omega)
  generalize (O2 ||| S3) = O3 at *
  have f3 := rng64 O3
  have d3 : O3.toInt = O2.toInt + y14_179_46.toInt * 2097152 := by omega
  clear o3 f3 e3
  rw [Int64.lt_iff_toInt_lt]
  simp only [Int64.reduceToInt]
  omega
theorem own_0_hc364_445 (p1 : Int32) (y11_152_40 : Int32) (x209_411 : Int32) (y12_161_42 : Int32) (x240_414 : Int32) (y13_170_44 : Int32) (x271_417 : Int32) (y14_179_46 : Int32) (x302_420 : Int32) (r358_444 : Int64) (y16_325_423 : Int64) (y18_350_425 : Int64) (hy11_152_40 : y11_152_40 = (p1 &&& (127 : Int32))) (hx209_411 : x209_411 = ((y11_152_40 ||| (128 : Int32)).toInt8.toInt32)) (hy12_161_42 : y12_161_42 = (((p1.toUInt32 >>> ((7 : Int32) &&& 31).toUInt32).toInt32) &&& (127 : Int32))) (hx240_414 : x240_414 = ((y12_161_42 ||| (128 : Int32)).toInt8.toInt32)) (hy13_170_44 : y13_170_44 = (((p1.toUInt32 >>> ((14 : Int32) &&& 31).toUInt32).toInt32) &&& (127 : Int32))) (hx271_417 : x271_417 = ((y13_170_44 ||| (128 : Int32)).toInt8.toInt32)) (hy14_179_46 : y14_179_46 = (((p1.toUInt32 >>> ((21 : Int32) &&& 31).toUInt32).toInt32) &&& (127 : Int32))) (hx302_420 : x302_420 = (y14_179_46.toInt8.toInt32)) (hr358_444 : r358_444 = (((((((((0 : Int64) ||| ((((((nar .byte x209_411) &&& (255 : Int32))) &&& (127 : Int32)).toInt64) <<< ((0 : Int32) &&& 0x3f).toInt64))) ||| ((((((nar .byte x240_414) &&& (255 : Int32))) &&& (127 : Int32)).toInt64) <<< ((7 : Int32) &&& 0x3f).toInt64))) ||| ((((((nar .byte x271_417) &&& (255 : Int32))) &&& (127 : Int32)).toInt64) <<< ((14 : Int32) &&& 0x3f).toInt64))) ||| ((((((nar .byte x302_420) &&& (255 : Int32))) &&& (127 : Int32)).toInt64) <<< ((21 : Int32) &&& 0x3f).toInt64)))) (hy16_325_423 : y16_325_423 = ((p1.toInt64) &&& (4294967295 : Int64))) (hy18_350_425 : y18_350_425 = (y16_325_423 &&& (((1 : Int64) <<< ((28 : Int32) &&& 0x3f).toInt64) - (1 : Int64))))  : r358_444 = y18_350_425 := by
  have g0 := own_g0 p1 y11_152_40 hy11_152_40
  have b0 := own_hi y11_152_40 x209_411 (by omega) hx209_411
  have g1 : y12_161_42.toInt = ((p1.toInt % 4294967296) / 128) % 128 := own_g p1 y12_161_42 (7 : Int32) 7 (by decide) (by decide) hy12_161_42
  have b1 := own_hi y12_161_42 x240_414 (by omega) hx240_414
  have g2 : y13_170_44.toInt = ((p1.toInt % 4294967296) / 16384) % 128 := own_g p1 y13_170_44 (14 : Int32) 14 (by decide) (by decide) hy13_170_44
  have b2 := own_hi y13_170_44 x271_417 (by omega) hx271_417
  have g3 : y14_179_46.toInt = ((p1.toInt % 4294967296) / 2097152) % 128 := own_g p1 y14_179_46 (21 : Int32) 21 (by decide) (by decide) hy14_179_46
  have b3 := own_lo y14_179_46 x302_420 (by omega) hx302_420
  have n0 := own_7 ((nar .byte x209_411) &&& (255 : Int32))
  rw [b0] at n0
  generalize ((((nar .byte x209_411) &&& (255 : Int32)) &&& (127 : Int32)).toInt64) = A0 at *
  have s0 := c_lshl A0 (0 : Int32) 0 (by decide)
  generalize (A0 <<< ((0 : Int32) &&& 0x3f).toInt64) = S0 at *
  have q0 := rng64 S0
  have e0 : S0.toInt = y11_152_40.toInt * 1 := by omega
  clear s0 q0 n0 b0
  have o0 := c_orL' (0 : Int64) S0 0 (by decide) 1 rfl (by omega) (by first | decide | omega) (by first | decide | omega)
  generalize ((0 : Int64) ||| S0) = O0 at *
  have f0 := rng64 O0
  have d0 : O0.toInt = y11_152_40.toInt := by simp only [Int64.reduceToInt] at o0; omega
  clear o0 f0 e0
  have n1 := own_7 ((nar .byte x240_414) &&& (255 : Int32))
  rw [b1] at n1
  generalize ((((nar .byte x240_414) &&& (255 : Int32)) &&& (127 : Int32)).toInt64) = A1 at *
  have s1 := c_lshl A1 (7 : Int32) 7 (by decide)
  generalize (A1 <<< ((7 : Int32) &&& 0x3f).toInt64) = S1 at *
  have q1 := rng64 S1
  have e1 : S1.toInt = y12_161_42.toInt * 128 := by omega
  clear s1 q1 n1 b1
  have o1 := c_orL' O0 S1 7 (by decide) 128 rfl (by omega) (by first | decide | omega) (by first | decide | omega)
  generalize (O0 ||| S1) = O1 at *
  have f1 := rng64 O1
  have d1 : O1.toInt = O0.toInt + y12_161_42.toInt * 128 := by omega
  clear o1 f1 e1
  have n2 := own_7 ((nar .byte x271_417) &&& (255 : Int32))
  rw [b2] at n2
  generalize ((((nar .byte x271_417) &&& (255 : Int32)) &&& (127 : Int32)).toInt64) = A2 at *
  have s2 := c_lshl A2 (14 : Int32) 14 (by decide)
  generalize (A2 <<< ((14 : Int32) &&& 0x3f).toInt64) = S2 at *
  have q2 := rng64 S2
  have e2 : S2.toInt = y13_170_44.toInt * 16384 := by omega
  clear s2 q2 n2 b2
  have o2 := c_orL' O1 S2 14 (by decide) 16384 rfl (by omega) (by first | decide | omega) (by first | decide | omega)
  generalize (O1 ||| S2) = O2 at *
  have f2 := rng64 O2
  have d2 : O2.toInt = O1.toInt + y13_170_44.toInt * 16384 := by omega
  clear o2 f2 e2
  have n3 := own_7 ((nar .byte x302_420) &&& (255 : Int32))
  rw [b3] at n3
  generalize ((((nar .byte x302_420) &&& (255 : Int32)) &&& (127 : Int32)).toInt64) = A3 at *
  have s3 := c_lshl A3 (21 : Int32) 21 (by decide)
  generalize (A3 <<< ((21 : Int32) &&& 0x3f).toInt64) = S3 at *
  have q3 := rng64 S3
  have e3 : S3.toInt = y14_179_46.toInt * 2097152 := by omega
  clear s3 q3 n3 b3
  have o3 := c_orL' O2 S3 21 (by decide) 2097152 rfl (by omega) (by first | decide | omega) (by first | decide | omega)
  generalize (O2 ||| S3) = O3 at *
  have f3 := rng64 O3
  have d3 : O3.toInt = O2.toInt + y14_179_46.toInt * 2097152 := by omega
  clear o3 f3 e3
  have u1 : y16_325_423.toInt = p1.toInt % 4294967296 := by rw [hy16_325_423, ← c_i2l p1]; exact c_maskL p1.toInt64 (4294967295 : Int64) 32 (by decide) (by decide)
  have u2 : y18_350_425.toInt = y16_325_423.toInt % 268435456 := by rw [hy18_350_425]; exact c_maskL y16_325_423 _ 28 (by decide) (by decide)
  rw [← Int64.toInt_inj, hr358_444]
  omega
theorem own_0_hp358_471 (p4 : Int32) (y9_34_5 : Int32) (hy9_34_5 : y9_34_5 = ((5 : Int32) + ((p4 &&& (2147483647 : Int32)) % (((11 : Int32) - (2 : Int32)) - (5 : Int32)))))  : ¬ ((((10 : Int32) ||| (2 : Int32)) ||| y9_34_5) < (0 : Int32)) := by
  have r := own_len p4 y9_34_5 (2 : Int32) (5 : Int32) _ rfl (by decide) (by decide) hy9_34_5
  clear hy9_34_5
  simp only [Int32.reduceToInt] at r
  have a := (c_orS ((10 : Int32) ||| (2 : Int32)) y9_34_5).1 (by decide) (by omega)
  rw [Int32.lt_iff_toInt_lt]
  simp only [Int32.reduceToInt] at *
  omega
theorem own_0_hp358_472 (p4 : Int32) (y9_34_5 : Int32) (hy9_34_5 : y9_34_5 = ((5 : Int32) + ((p4 &&& (2147483647 : Int32)) % (((11 : Int32) - (2 : Int32)) - (5 : Int32)))))  : ¬ (((10 : Int32) - (2 : Int32)) < y9_34_5) := by
  have r := own_len p4 y9_34_5 (2 : Int32) (5 : Int32) _ rfl (by decide) (by decide) hy9_34_5
  clear hy9_34_5
  simp only [Int32.reduceToInt] at r
  have e : (((10 : Int32) - (2 : Int32))) = (8 : Int32) := by decide
  rw [e, Int32.lt_iff_toInt_lt]
  simp only [Int32.reduceToInt]
  omega
theorem own_0_hp358_473 (p4 : Int32) (y9_34_5 : Int32) (hy9_34_5 : y9_34_5 = ((5 : Int32) + ((p4 &&& (2147483647 : Int32)) % (((11 : Int32) - (2 : Int32)) - (5 : Int32)))))  : ¬ ((0 : Int32) = y9_34_5) := by
  have r := own_len p4 y9_34_5 (2 : Int32) (5 : Int32) _ rfl (by decide) (by decide) hy9_34_5
  clear hy9_34_5
  simp only [Int32.reduceToInt] at r
  rw [← Int32.toInt_inj]
  simp only [Int32.reduceToInt]
  omega
theorem own_0_hp358_474 (p1 : Int32) (y11_152_40 : Int32) (x209_446 : Int32) (hy11_152_40 : y11_152_40 = (p1 &&& (127 : Int32))) (hx209_446 : x209_446 = ((y11_152_40 ||| (128 : Int32)).toInt8.toInt32))  : ¬ ((((nar .byte x209_446) &&& (255 : Int32))) < (128 : Int32)) := by
  have g := own_g0 p1 y11_152_40 hy11_152_40
  have b := own_hi y11_152_40 x209_446 (by omega) hx209_446
  rw [Int32.lt_iff_toInt_lt, b]
  simp only [Int32.reduceToInt]
  omega
theorem own_0_hp358_475 (p4 : Int32) (y9_34_5 : Int32) (hy9_34_5 : y9_34_5 = ((5 : Int32) + ((p4 &&& (2147483647 : Int32)) % (((11 : Int32) - (2 : Int32)) - (5 : Int32)))))  : ¬ ((1 : Int32) = y9_34_5) := by
  have r := own_len p4 y9_34_5 (2 : Int32) (5 : Int32) _ rfl (by decide) (by decide) hy9_34_5
  clear hy9_34_5
  simp only [Int32.reduceToInt] at r
  rw [← Int32.toInt_inj]
  simp only [Int32.reduceToInt]
  omega
theorem own_0_hp358_476 (p1 : Int32) (y12_161_42 : Int32) (x240_449 : Int32) (hy12_161_42 : y12_161_42 = (((p1.toUInt32 >>> ((7 : Int32) &&& 31).toUInt32).toInt32) &&& (127 : Int32))) (hx240_449 : x240_449 = ((y12_161_42 ||| (128 : Int32)).toInt8.toInt32))  : ¬ ((((nar .byte x240_449) &&& (255 : Int32))) < (128 : Int32)) := by
  have g : y12_161_42.toInt = ((p1.toInt % 4294967296) / 128) % 128 := own_g p1 y12_161_42 (7 : Int32) 7 (by decide) (by decide) hy12_161_42
  have b := own_hi y12_161_42 x240_449 (by omega) hx240_449
  rw [Int32.lt_iff_toInt_lt, b]
  simp only [Int32.reduceToInt]
  omega
theorem own_0_hp358_477 (p4 : Int32) (y9_34_5 : Int32) (hy9_34_5 : y9_34_5 = ((5 : Int32) + ((p4 &&& (2147483647 : Int32)) % (((11 : Int32) - (2 : Int32)) - (5 : Int32)))))  : ¬ ((2 : Int32) = y9_34_5) := by
  have r := own_len p4 y9_34_5 (2 : Int32) (5 : Int32) _ rfl (by decide) (by decide) hy9_34_5
  clear hy9_34_5
  simp only [Int32.reduceToInt] at r
  rw [← Int32.toInt_inj]
  simp only [Int32.reduceToInt]
  omega
theorem own_0_hp358_478 (p1 : Int32) (y13_170_44 : Int32) (x271_452 : Int32) (hy13_170_44 : y13_170_44 = (((p1.toUInt32 >>> ((14 : Int32) &&& 31).toUInt32).toInt32) &&& (127 : Int32))) (hx271_452 : x271_452 = ((y13_170_44 ||| (128 : Int32)).toInt8.toInt32))  : ¬ ((((nar .byte x271_452) &&& (255 : Int32))) < (128 : Int32)) := by
  have g : y13_170_44.toInt = ((p1.toInt % 4294967296) / 16384) % 128 := own_g p1 y13_170_44 (14 : Int32) 14 (by decide) (by decide) hy13_170_44
  have b := own_hi y13_170_44 x271_452 (by omega) hx271_452
  rw [Int32.lt_iff_toInt_lt, b]
  simp only [Int32.reduceToInt]
  omega
theorem own_0_hp358_479 (p4 : Int32) (y9_34_5 : Int32) (hy9_34_5 : y9_34_5 = ((5 : Int32) + ((p4 &&& (2147483647 : Int32)) % (((11 : Int32) - (2 : Int32)) - (5 : Int32)))))  : ¬ ((3 : Int32) = y9_34_5) := by
  have r := own_len p4 y9_34_5 (2 : Int32) (5 : Int32) _ rfl (by decide) (by decide) hy9_34_5
  clear hy9_34_5
  simp only [Int32.reduceToInt] at r
  rw [← Int32.toInt_inj]
  simp only [Int32.reduceToInt]
  omega
theorem own_0_hp358_480 (p1 : Int32) (y14_179_46 : Int32) (x302_455 : Int32) (hy14_179_46 : y14_179_46 = (((p1.toUInt32 >>> ((21 : Int32) &&& 31).toUInt32).toInt32) &&& (127 : Int32))) (hx302_455 : x302_455 = ((y14_179_46 ||| (128 : Int32)).toInt8.toInt32))  : ¬ ((((nar .byte x302_455) &&& (255 : Int32))) < (128 : Int32)) := by
  have g : y14_179_46.toInt = ((p1.toInt % 4294967296) / 2097152) % 128 := own_g p1 y14_179_46 (21 : Int32) 21 (by decide) (by decide) hy14_179_46
  have b := own_hi y14_179_46 x302_455 (by omega) hx302_455
  rw [Int32.lt_iff_toInt_lt, b]
  simp only [Int32.reduceToInt]
  omega
theorem own_0_hp358_481 (p4 : Int32) (y9_34_5 : Int32) (hy9_34_5 : y9_34_5 = ((5 : Int32) + ((p4 &&& (2147483647 : Int32)) % (((11 : Int32) - (2 : Int32)) - (5 : Int32)))))  : ¬ ((4 : Int32) = y9_34_5) := by
  have r := own_len p4 y9_34_5 (2 : Int32) (5 : Int32) _ rfl (by decide) (by decide) hy9_34_5
  clear hy9_34_5
  simp only [Int32.reduceToInt] at r
  rw [← Int32.toInt_inj]
  simp only [Int32.reduceToInt]
  omega
theorem own_0_hp358_482 (p1 : Int32) (y15_185_48 : Int32) (x318_458 : Int32) (hy15_185_48 : y15_185_48 = ((p1.toUInt32 >>> ((28 : Int32) &&& 31).toUInt32).toInt32)) (hx318_458 : x318_458 = (y15_185_48.toInt8.toInt32))  : (((nar .byte x318_458) &&& (255 : Int32))) < (128 : Int32) := by
  have g : y15_185_48.toInt = (p1.toInt % 4294967296) / 268435456 := by rw [hy15_185_48]; exact c_iushr p1 (28 : Int32) 28 (by decide) (by decide)
  have b := own_lo y15_185_48 x318_458 (by omega) hx318_458
  rw [Int32.lt_iff_toInt_lt, b]
  simp only [Int32.reduceToInt]
  omega
theorem own_0_hp358_483 (p1 : Int32) (y11_152_40 : Int32) (x209_446 : Int32) (y12_161_42 : Int32) (x240_449 : Int32) (y13_170_44 : Int32) (x271_452 : Int32) (y14_179_46 : Int32) (x302_455 : Int32) (y15_185_48 : Int32) (x318_458 : Int32) (hy11_152_40 : y11_152_40 = (p1 &&& (127 : Int32))) (hx209_446 : x209_446 = ((y11_152_40 ||| (128 : Int32)).toInt8.toInt32)) (hy12_161_42 : y12_161_42 = (((p1.toUInt32 >>> ((7 : Int32) &&& 31).toUInt32).toInt32) &&& (127 : Int32))) (hx240_449 : x240_449 = ((y12_161_42 ||| (128 : Int32)).toInt8.toInt32)) (hy13_170_44 : y13_170_44 = (((p1.toUInt32 >>> ((14 : Int32) &&& 31).toUInt32).toInt32) &&& (127 : Int32))) (hx271_452 : x271_452 = ((y13_170_44 ||| (128 : Int32)).toInt8.toInt32)) (hy14_179_46 : y14_179_46 = (((p1.toUInt32 >>> ((21 : Int32) &&& 31).toUInt32).toInt32) &&& (127 : Int32))) (hx302_455 : x302_455 = ((y14_179_46 ||| (128 : Int32)).toInt8.toInt32)) (hy15_185_48 : y15_185_48 = ((p1.toUInt32 >>> ((28 : Int32) &&& 31).toUInt32).toInt32)) (hx318_458 : x318_458 = (y15_185_48.toInt8.toInt32))  : ¬ ((4294967295 : Int64) < (((((((((((0 : Int64) ||| ((((((nar .byte x209_446) &&& (255 : Int32))) &&& (127 : Int32)).toInt64) <<< ((0 : Int32) &&& 0x3f).toInt64))) ||| ((((((nar .byte x240_449) &&& (255 : Int32))) &&& (127 : Int32)).toInt64) <<< ((7 : Int32) &&& 0x3f).toInt64))) ||| ((((((nar .byte x271_452) &&& (255 : Int32))) &&& (127 : Int32)).toInt64) <<< ((14 : Int32) &&& 0x3f).toInt64))) ||| ((((((nar .byte x302_455) &&& (255 : Int32))) &&& (127 : Int32)).toInt64) <<< ((21 : Int32) &&& 0x3f).toInt64))) ||| ((((((nar .byte x318_458) &&& (255 : Int32))) &&& (127 : Int32)).toInt64) <<< ((28 : Int32) &&& 0x3f).toInt64)))) := by
  have g0 := own_g0 p1 y11_152_40 hy11_152_40
  have b0 := own_hi y11_152_40 x209_446 (by omega) hx209_446
  have g1 : y12_161_42.toInt = ((p1.toInt % 4294967296) / 128) % 128 := own_g p1 y12_161_42 (7 : Int32) 7 (by decide) (by decide) hy12_161_42
  have b1 := own_hi y12_161_42 x240_449 (by omega) hx240_449
  have g2 : y13_170_44.toInt = ((p1.toInt % 4294967296) / 16384) % 128 := own_g p1 y13_170_44 (14 : Int32) 14 (by decide) (by decide) hy13_170_44
  have b2 := own_hi y13_170_44 x271_452 (by omega) hx271_452
  have g3 : y14_179_46.toInt = ((p1.toInt % 4294967296) / 2097152) % 128 := own_g p1 y14_179_46 (21 : Int32) 21 (by decide) (by decide) hy14_179_46
  have b3 := own_hi y14_179_46 x302_455 (by omega) hx302_455
  have g4 : y15_185_48.toInt = (p1.toInt % 4294967296) / 268435456 := by rw [hy15_185_48]; exact c_iushr p1 (28 : Int32) 28 (by decide) (by decide)
  have b4 := own_lo y15_185_48 x318_458 (by omega) hx318_458
  have n0 := own_7 ((nar .byte x209_446) &&& (255 : Int32))
  rw [b0] at n0
  generalize ((((nar .byte x209_446) &&& (255 : Int32)) &&& (127 : Int32)).toInt64) = A0 at *
  have s0 := c_lshl A0 (0 : Int32) 0 (by decide)
  generalize (A0 <<< ((0 : Int32) &&& 0x3f).toInt64) = S0 at *
  have q0 := rng64 S0
  have e0 : S0.toInt = y11_152_40.toInt * 1 := by omega
  clear s0 q0 n0 b0
  have o0 := c_orL' (0 : Int64) S0 0 (by decide) 1 rfl (by omega) (by first | decide | omega) (by first | decide | omega)
  generalize ((0 : Int64) ||| S0) = O0 at *
  have f0 := rng64 O0
  have d0 : O0.toInt = y11_152_40.toInt := by simp only [Int64.reduceToInt] at o0; omega
  clear o0 f0 e0
  have n1 := own_7 ((nar .byte x240_449) &&& (255 : Int32))
  rw [b1] at n1
  generalize ((((nar .byte x240_449) &&& (255 : Int32)) &&& (127 : Int32)).toInt64) = A1 at *
  have s1 := c_lshl A1 (7 : Int32) 7 (by decide)
  generalize (A1 <<< ((7 : Int32) &&& 0x3f).toInt64) = S1 at *
  have q1 := rng64 S1
  have e1 : S1.toInt = y12_161_42.toInt * 128 := by omega
  clear s1 q1 n1 b1
  have o1 := c_orL' O0 S1 7 (by decide) 128 rfl (by omega) (by first | decide | omega) (by first | decide | omega)
  generalize (O0 ||| S1) = O1 at *
  have f1 := rng64 O1
  have d1 : O1.toInt = O0.toInt + y12_161_42.toInt * 128 := by omega
  clear o1 f1 e1
  have n2 := own_7 ((nar .byte x271_452) &&& (255 : Int32))
  rw [b2] at n2
  generalize ((((nar .byte x271_452) &&& (255 : Int32)) &&& (127 : Int32)).toInt64) = A2 at *
  have s2 := c_lshl A2 (14 : Int32) 14 (by decide)
  generalize (A2 <<< ((14 : Int32) &&& 0x3f).toInt64) = S2 at *
  have q2 := rng64 S2
  have e2 : S2.toInt = y13_170_44.toInt * 16384 := by omega
  clear s2 q2 n2 b2
  have o2 := c_orL' O1 S2 14 (by decide) 16384 rfl (by omega) (by first | decide | omega) (by first | decide | omega)
  generalize (O1 ||| S2) = O2 at *
  have f2 := rng64 O2
  have d2 : O2.toInt = O1.toInt + y13_170_44.toInt * 16384 := by omega
  clear o2 f2 e2
  have n3 := own_7 ((nar .byte x302_455) &&& (255 : Int32))
  rw [b3] at n3
  generalize ((((nar .byte x302_455) &&& (255 : Int32)) &&& (127 : Int32)).toInt64) = A3 at *
  have s3 := c_lshl A3 (21 : Int32) 21 (by decide)
  generalize (A3 <<< ((21 : Int32) &&& 0x3f).toInt64) = S3 at *
  have q3 := rng64 S3
  have e3 : S3.toInt = y14_179_46.toInt * 2097152 := by omega
  clear s3 q3 n3 b3
  have o3 := c_orL' O2 S3 21 (by decide) 2097152 rfl (by omega) (by first | decide | omega) (by first | decide | omega)
  generalize (O2 ||| S3) = O3 at *
  have f3 := rng64 O3
  have d3 : O3.toInt = O2.toInt + y14_179_46.toInt * 2097152 := by omega
  clear o3 f3 e3
  have n4 := own_7 ((nar .byte x318_458) &&& (255 : Int32))
  rw [b4] at n4
  generalize ((((nar .byte x318_458) &&& (255 : Int32)) &&& (127 : Int32)).toInt64) = A4 at *
  have s4 := c_lshl A4 (28 : Int32) 28 (by decide)
  generalize (A4 <<< ((28 : Int32) &&& 0x3f).toInt64) = S4 at *
  have q4 := rng64 S4
  have e4 : S4.toInt = y15_185_48.toInt * 268435456 := by omega
  clear s4 q4 n4 b4
  have o4 := c_orL' O3 S4 28 (by decide) 268435456 rfl (by omega) (by first | decide | omega) (by first | decide | omega)
  generalize (O3 ||| S4) = O4 at *
  have f4 := rng64 O4
  have d4 : O4.toInt = O3.toInt + y15_185_48.toInt * 268435456 := by omega
  clear o4 f4 e4
  rw [Int64.lt_iff_toInt_lt]
  simp only [Int64.reduceToInt]
  omega
theorem own_0_hc364_485 (p1 : Int32) (y11_152_40 : Int32) (x209_446 : Int32) (y12_161_42 : Int32) (x240_449 : Int32) (y13_170_44 : Int32) (x271_452 : Int32) (y14_179_46 : Int32) (x302_455 : Int32) (y15_185_48 : Int32) (x318_458 : Int32) (r358_484 : Int64) (y16_325_461 : Int64) (hy11_152_40 : y11_152_40 = (p1 &&& (127 : Int32))) (hx209_446 : x209_446 = ((y11_152_40 ||| (128 : Int32)).toInt8.toInt32)) (hy12_161_42 : y12_161_42 = (((p1.toUInt32 >>> ((7 : Int32) &&& 31).toUInt32).toInt32) &&& (127 : Int32))) (hx240_449 : x240_449 = ((y12_161_42 ||| (128 : Int32)).toInt8.toInt32)) (hy13_170_44 : y13_170_44 = (((p1.toUInt32 >>> ((14 : Int32) &&& 31).toUInt32).toInt32) &&& (127 : Int32))) (hx271_452 : x271_452 = ((y13_170_44 ||| (128 : Int32)).toInt8.toInt32)) (hy14_179_46 : y14_179_46 = (((p1.toUInt32 >>> ((21 : Int32) &&& 31).toUInt32).toInt32) &&& (127 : Int32))) (hx302_455 : x302_455 = ((y14_179_46 ||| (128 : Int32)).toInt8.toInt32)) (hy15_185_48 : y15_185_48 = ((p1.toUInt32 >>> ((28 : Int32) &&& 31).toUInt32).toInt32)) (hx318_458 : x318_458 = (y15_185_48.toInt8.toInt32)) (hr358_484 : r358_484 = (((((((((((0 : Int64) ||| ((((((nar .byte x209_446) &&& (255 : Int32))) &&& (127 : Int32)).toInt64) <<< ((0 : Int32) &&& 0x3f).toInt64))) ||| ((((((nar .byte x240_449) &&& (255 : Int32))) &&& (127 : Int32)).toInt64) <<< ((7 : Int32) &&& 0x3f).toInt64))) ||| ((((((nar .byte x271_452) &&& (255 : Int32))) &&& (127 : Int32)).toInt64) <<< ((14 : Int32) &&& 0x3f).toInt64))) ||| ((((((nar .byte x302_455) &&& (255 : Int32))) &&& (127 : Int32)).toInt64) <<< ((21 : Int32) &&& 0x3f).toInt64))) ||| ((((((nar .byte x318_458) &&& (255 : Int32))) &&& (127 : Int32)).toInt64) <<< ((28 : Int32) &&& 0x3f).toInt64)))) (hy16_325_461 : y16_325_461 = ((p1.toInt64) &&& (4294967295 : Int64)))  : r358_484 = y16_325_461 := by
  have g0 := own_g0 p1 y11_152_40 hy11_152_40
  have b0 := own_hi y11_152_40 x209_446 (by omega) hx209_446
  have g1 : y12_161_42.toInt = ((p1.toInt % 4294967296) / 128) % 128 := own_g p1 y12_161_42 (7 : Int32) 7 (by decide) (by decide) hy12_161_42
  have b1 := own_hi y12_161_42 x240_449 (by omega) hx240_449
  have g2 : y13_170_44.toInt = ((p1.toInt % 4294967296) / 16384) % 128 := own_g p1 y13_170_44 (14 : Int32) 14 (by decide) (by decide) hy13_170_44
  have b2 := own_hi y13_170_44 x271_452 (by omega) hx271_452
  have g3 : y14_179_46.toInt = ((p1.toInt % 4294967296) / 2097152) % 128 := own_g p1 y14_179_46 (21 : Int32) 21 (by decide) (by decide) hy14_179_46
  have b3 := own_hi y14_179_46 x302_455 (by omega) hx302_455
  have g4 : y15_185_48.toInt = (p1.toInt % 4294967296) / 268435456 := by rw [hy15_185_48]; exact c_iushr p1 (28 : Int32) 28 (by decide) (by decide)
  have b4 := own_lo y15_185_48 x318_458 (by omega) hx318_458
  have n0 := own_7 ((nar .byte x209_446) &&& (255 : Int32))
  rw [b0] at n0
  generalize ((((nar .byte x209_446) &&& (255 : Int32)) &&& (127 : Int32)).toInt64) = A0 at *
  have s0 := c_lshl A0 (0 : Int32) 0 (by decide)
  generalize (A0 <<< ((0 : Int32) &&& 0x3f).toInt64) = S0 at *
  have q0 := rng64 S0
  have e0 : S0.toInt = y11_152_40.toInt * 1 := by omega
  clear s0 q0 n0 b0
  have o0 := c_orL' (0 : Int64) S0 0 (by decide) 1 rfl (by omega) (by first | decide | omega) (by first | decide | omega)
  generalize ((0 : Int64) ||| S0) = O0 at *
  have f0 := rng64 O0
  have d0 : O0.toInt = y11_152_40.toInt := by simp only [Int64.reduceToInt] at o0; omega
  clear o0 f0 e0
  have n1 := own_7 ((nar .byte x240_449) &&& (255 : Int32))
  rw [b1] at n1
  generalize ((((nar .byte x240_449) &&& (255 : Int32)) &&& (127 : Int32)).toInt64) = A1 at *
  have s1 := c_lshl A1 (7 : Int32) 7 (by decide)
  generalize (A1 <<< ((7 : Int32) &&& 0x3f).toInt64) = S1 at *
  have q1 := rng64 S1
  have e1 : S1.toInt = y12_161_42.toInt * 128 := by omega
  clear s1 q1 n1 b1
  have o1 := c_orL' O0 S1 7 (by decide) 128 rfl (by omega) (by first | decide | omega) (by first | decide | omega)
  generalize (O0 ||| S1) = O1 at *
  have f1 := rng64 O1
  have d1 : O1.toInt = O0.toInt + y12_161_42.toInt * 128 := by omega
  clear o1 f1 e1
  have n2 := own_7 ((nar .byte x271_452) &&& (255 : Int32))
  rw [b2] at n2
  generalize ((((nar .byte x271_452) &&& (255 : Int32)) &&& (127 : Int32)).toInt64) = A2 at *
  have s2 := c_lshl A2 (14 : Int32) 14 (by decide)
  generalize (A2 <<< ((14 : Int32) &&& 0x3f).toInt64) = S2 at *
  have q2 := rng64 S2
  have e2 : S2.toInt = y13_170_44.toInt * 16384 := by omega
  clear s2 q2 n2 b2
  have o2 := c_orL' O1 S2 14 (by decide) 16384 rfl (by omega) (by first | decide | omega) (by first | decide | omega)
  generalize (O1 ||| S2) = O2 at *
  have f2 := rng64 O2
  have d2 : O2.toInt = O1.toInt + y13_170_44.toInt * 16384 := by omega
  clear o2 f2 e2
  have n3 := own_7 ((nar .byte x302_455) &&& (255 : Int32))
  rw [b3] at n3
  generalize ((((nar .byte x302_455) &&& (255 : Int32)) &&& (127 : Int32)).toInt64) = A3 at *
  have s3 := c_lshl A3 (21 : Int32) 21 (by decide)
  generalize (A3 <<< ((21 : Int32) &&& 0x3f).toInt64) = S3 at *
  have q3 := rng64 S3
  have e3 : S3.toInt = y14_179_46.toInt * 2097152 := by omega
  clear s3 q3 n3 b3
  have o3 := c_orL' O2 S3 21 (by decide) 2097152 rfl (by omega) (by first | decide | omega) (by first | decide | omega)
  generalize (O2 ||| S3) = O3 at *
  have f3 := rng64 O3
  have d3 : O3.toInt = O2.toInt + y14_179_46.toInt * 2097152 := by omega
  clear o3 f3 e3
  have n4 := own_7 ((nar .byte x318_458) &&& (255 : Int32))
  rw [b4] at n4
  generalize ((((nar .byte x318_458) &&& (255 : Int32)) &&& (127 : Int32)).toInt64) = A4 at *
  have s4 := c_lshl A4 (28 : Int32) 28 (by decide)
  generalize (A4 <<< ((28 : Int32) &&& 0x3f).toInt64) = S4 at *
  have q4 := rng64 S4
  have e4 : S4.toInt = y15_185_48.toInt * 268435456 := by omega
  clear s4 q4 n4 b4
  have o4 := c_orL' O3 S4 28 (by decide) 268435456 rfl (by omega) (by first | decide | omega) (by first | decide | omega)
  generalize (O3 ||| S4) = O4 at *
  have f4 := rng64 O4
  have d4 : O4.toInt = O3.toInt + y15_185_48.toInt * 268435456 := by omega
  clear o4 f4 e4
  have u2 : y16_325_461.toInt = p1.toInt % 4294967296 := by rw [hy16_325_461, ← c_i2l p1]; exact c_maskL p1.toInt64 (4294967295 : Int64) 32 (by decide) (by decide)
  rw [← Int64.toInt_inj, hr358_484]
  omega
theorem own_0_hp358_497 (p4 : Int32) (y9_34_5 : Int32) (hy9_34_5 : y9_34_5 = ((1 : Int32) + ((p4 &&& (2147483647 : Int32)) % (((11 : Int32) - (3 : Int32)) - (1 : Int32)))))  : ¬ ((((10 : Int32) ||| (3 : Int32)) ||| y9_34_5) < (0 : Int32)) := by
  have r := own_len p4 y9_34_5 (3 : Int32) (1 : Int32) _ rfl (by decide) (by decide) hy9_34_5
  clear hy9_34_5
  simp only [Int32.reduceToInt] at r
  have a := (c_orS ((10 : Int32) ||| (3 : Int32)) y9_34_5).1 (by decide) (by omega)
  rw [Int32.lt_iff_toInt_lt]
  simp only [Int32.reduceToInt] at *
  omega
theorem own_0_hp358_498 (p4 : Int32) (y9_34_5 : Int32) (hy9_34_5 : y9_34_5 = ((1 : Int32) + ((p4 &&& (2147483647 : Int32)) % (((11 : Int32) - (3 : Int32)) - (1 : Int32)))))  : ¬ (((10 : Int32) - (3 : Int32)) < y9_34_5) := by
  have r := own_len p4 y9_34_5 (3 : Int32) (1 : Int32) _ rfl (by decide) (by decide) hy9_34_5
  clear hy9_34_5
  simp only [Int32.reduceToInt] at r
  have e : (((10 : Int32) - (3 : Int32))) = (7 : Int32) := by decide
  rw [e, Int32.lt_iff_toInt_lt]
  simp only [Int32.reduceToInt]
  omega
theorem own_0_hp358_499 (p4 : Int32) (y9_34_5 : Int32) (hy9_34_5 : y9_34_5 = ((1 : Int32) + ((p4 &&& (2147483647 : Int32)) % (((11 : Int32) - (3 : Int32)) - (1 : Int32)))))  : ¬ ((0 : Int32) = y9_34_5) := by
  have r := own_len p4 y9_34_5 (3 : Int32) (1 : Int32) _ rfl (by decide) (by decide) hy9_34_5
  clear hy9_34_5
  simp only [Int32.reduceToInt] at r
  rw [← Int32.toInt_inj]
  simp only [Int32.reduceToInt]
  omega
theorem own_0_hp358_500 (p1 : Int32) (y11_152_40 : Int32) (x209_487 : Int32) (hy11_152_40 : y11_152_40 = (p1 &&& (127 : Int32))) (hx209_487 : x209_487 = (y11_152_40.toInt8.toInt32))  : (((nar .byte x209_487) &&& (255 : Int32))) < (128 : Int32) := by
  have g := own_g0 p1 y11_152_40 hy11_152_40
  have b := own_lo y11_152_40 x209_487 (by omega) hx209_487
  rw [Int32.lt_iff_toInt_lt, b]
  simp only [Int32.reduceToInt]
  omega
theorem own_0_hp358_501 (p1 : Int32) (y11_152_40 : Int32) (x209_487 : Int32) (hy11_152_40 : y11_152_40 = (p1 &&& (127 : Int32))) (hx209_487 : x209_487 = (y11_152_40.toInt8.toInt32))  : ¬ ((4294967295 : Int64) < (((0 : Int64) ||| ((((((nar .byte x209_487) &&& (255 : Int32))) &&& (127 : Int32)).toInt64) <<< ((0 : Int32) &&& 0x3f).toInt64)))) := by
  have g0 := own_g0 p1 y11_152_40 hy11_152_40
  have b0 := own_lo y11_152_40 x209_487 (by omega) hx209_487
  have n0 := own_7 ((nar .byte x209_487) &&& (255 : Int32))
  rw [b0] at n0
  generalize ((((nar .byte x209_487) &&& (255 : Int32)) &&& (127 : Int32)).toInt64) = A0 at *
  have s0 := c_lshl A0 (0 : Int32) 0 (by decide)
  generalize (A0 <<< ((0 : Int32) &&& 0x3f).toInt64) = S0 at *
  have q0 := rng64 S0
  have e0 : S0.toInt = y11_152_40.toInt * 1 := by omega
  clear s0 q0 n0 b0
  have o0 := c_orL' (0 : Int64) S0 0 (by decide) 1 rfl (by omega) (by first | decide | omega) (by first | decide | omega)
  generalize ((0 : Int64) ||| S0) = O0 at *
  have f0 := rng64 O0
  have d0 : O0.toInt = y11_152_40.toInt := by simp only [Int64.reduceToInt] at o0; omega
  clear o0 f0 e0
  rw [Int64.lt_iff_toInt_lt]
  simp only [Int64.reduceToInt]
  omega
theorem own_0_hc364_503 (p1 : Int32) (y11_152_40 : Int32) (x209_487 : Int32) (r358_502 : Int64) (y16_325_490 : Int64) (y18_350_492 : Int64) (hy11_152_40 : y11_152_40 = (p1 &&& (127 : Int32))) (hx209_487 : x209_487 = (y11_152_40.toInt8.toInt32)) (hr358_502 : r358_502 = (((0 : Int64) ||| ((((((nar .byte x209_487) &&& (255 : Int32))) &&& (127 : Int32)).toInt64) <<< ((0 : Int32) &&& 0x3f).toInt64)))) (hy16_325_490 : y16_325_490 = ((p1.toInt64) &&& (4294967295 : Int64))) (hy18_350_492 : y18_350_492 = (y16_325_490 &&& (((1 : Int64) <<< ((7 : Int32) &&& 0x3f).toInt64) - (1 : Int64))))  : r358_502 = y18_350_492 := by
  have g0 := own_g0 p1 y11_152_40 hy11_152_40
  have b0 := own_lo y11_152_40 x209_487 (by omega) hx209_487
  have n0 := own_7 ((nar .byte x209_487) &&& (255 : Int32))
  rw [b0] at n0
  generalize ((((nar .byte x209_487) &&& (255 : Int32)) &&& (127 : Int32)).toInt64) = A0 at *
  have s0 := c_lshl A0 (0 : Int32) 0 (by decide)
  generalize (A0 <<< ((0 : Int32) &&& 0x3f).toInt64) = S0 at *
  have q0 := rng64 S0
  have e0 : S0.toInt = y11_152_40.toInt * 1 := by omega
  clear s0 q0 n0 b0
  have o0 := c_orL' (0 : Int64) S0 0 (by decide) 1 rfl (by omega) (by first | decide | omega) (by first | decide | omega)
  generalize ((0 : Int64) ||| S0) = O0 at *
  have f0 := rng64 O0
  have d0 : O0.toInt = y11_152_40.toInt := by simp only [Int64.reduceToInt] at o0; omega
  clear o0 f0 e0
  have u1 : y16_325_490.toInt = p1.toInt % 4294967296 := by rw [hy16_325_490, ← c_i2l p1]; exact c_maskL p1.toInt64 (4294967295 : Int64) 32 (by decide) (by decide)
  have u2 : y18_350_492.toInt = y16_325_490.toInt % 128 := by rw [hy18_350_492]; exact c_maskL y16_325_490 _ 7 (by decide) (by decide)
  rw [← Int64.toInt_inj, hr358_502]
  omega
theorem own_0_hp358_518 (p4 : Int32) (y9_34_5 : Int32) (hy9_34_5 : y9_34_5 = ((2 : Int32) + ((p4 &&& (2147483647 : Int32)) % (((11 : Int32) - (3 : Int32)) - (2 : Int32)))))  : ¬ ((((10 : Int32) ||| (3 : Int32)) ||| y9_34_5) < (0 : Int32)) := by
  have r := own_len p4 y9_34_5 (3 : Int32) (2 : Int32) _ rfl (by decide) (by decide) hy9_34_5
  clear hy9_34_5
  simp only [Int32.reduceToInt] at r
  have a := (c_orS ((10 : Int32) ||| (3 : Int32)) y9_34_5).1 (by decide) (by omega)
  rw [Int32.lt_iff_toInt_lt]
  simp only [Int32.reduceToInt] at *
  omega
theorem own_0_hp358_519 (p4 : Int32) (y9_34_5 : Int32) (hy9_34_5 : y9_34_5 = ((2 : Int32) + ((p4 &&& (2147483647 : Int32)) % (((11 : Int32) - (3 : Int32)) - (2 : Int32)))))  : ¬ (((10 : Int32) - (3 : Int32)) < y9_34_5) := by
  have r := own_len p4 y9_34_5 (3 : Int32) (2 : Int32) _ rfl (by decide) (by decide) hy9_34_5
  clear hy9_34_5
  simp only [Int32.reduceToInt] at r
  have e : (((10 : Int32) - (3 : Int32))) = (7 : Int32) := by decide
  rw [e, Int32.lt_iff_toInt_lt]
  simp only [Int32.reduceToInt]
  omega
theorem own_0_hp358_520 (p4 : Int32) (y9_34_5 : Int32) (hy9_34_5 : y9_34_5 = ((2 : Int32) + ((p4 &&& (2147483647 : Int32)) % (((11 : Int32) - (3 : Int32)) - (2 : Int32)))))  : ¬ ((0 : Int32) = y9_34_5) := by
  have r := own_len p4 y9_34_5 (3 : Int32) (2 : Int32) _ rfl (by decide) (by decide) hy9_34_5
  clear hy9_34_5
  simp only [Int32.reduceToInt] at r
  rw [← Int32.toInt_inj]
  simp only [Int32.reduceToInt]
  omega
theorem own_0_hp358_521 (p1 : Int32) (y11_152_40 : Int32) (x209_504 : Int32) (hy11_152_40 : y11_152_40 = (p1 &&& (127 : Int32))) (hx209_504 : x209_504 = ((y11_152_40 ||| (128 : Int32)).toInt8.toInt32))  : ¬ ((((nar .byte x209_504) &&& (255 : Int32))) < (128 : Int32)) := by
  have g := own_g0 p1 y11_152_40 hy11_152_40
  have b := own_hi y11_152_40 x209_504 (by omega) hx209_504
  rw [Int32.lt_iff_toInt_lt, b]
  simp only [Int32.reduceToInt]
  omega
theorem own_0_hp358_522 (p4 : Int32) (y9_34_5 : Int32) (hy9_34_5 : y9_34_5 = ((2 : Int32) + ((p4 &&& (2147483647 : Int32)) % (((11 : Int32) - (3 : Int32)) - (2 : Int32)))))  : ¬ ((1 : Int32) = y9_34_5) := by
  have r := own_len p4 y9_34_5 (3 : Int32) (2 : Int32) _ rfl (by decide) (by decide) hy9_34_5
  clear hy9_34_5
  simp only [Int32.reduceToInt] at r
  rw [← Int32.toInt_inj]
  simp only [Int32.reduceToInt]
  omega
theorem own_0_hp358_523 (p1 : Int32) (y12_161_42 : Int32) (x240_507 : Int32) (hy12_161_42 : y12_161_42 = (((p1.toUInt32 >>> ((7 : Int32) &&& 31).toUInt32).toInt32) &&& (127 : Int32))) (hx240_507 : x240_507 = (y12_161_42.toInt8.toInt32))  : (((nar .byte x240_507) &&& (255 : Int32))) < (128 : Int32) := by
  have g : y12_161_42.toInt = ((p1.toInt % 4294967296) / 128) % 128 := own_g p1 y12_161_42 (7 : Int32) 7 (by decide) (by decide) hy12_161_42
  have b := own_lo y12_161_42 x240_507 (by omega) hx240_507
  rw [Int32.lt_iff_toInt_lt, b]
  simp only [Int32.reduceToInt]
  omega
theorem own_0_hp358_524 (p1 : Int32) (y11_152_40 : Int32) (x209_504 : Int32) (y12_161_42 : Int32) (x240_507 : Int32) (hy11_152_40 : y11_152_40 = (p1 &&& (127 : Int32))) (hx209_504 : x209_504 = ((y11_152_40 ||| (128 : Int32)).toInt8.toInt32)) (hy12_161_42 : y12_161_42 = (((p1.toUInt32 >>> ((7 : Int32) &&& 31).toUInt32).toInt32) &&& (127 : Int32))) (hx240_507 : x240_507 = (y12_161_42.toInt8.toInt32))  : ¬ ((4294967295 : Int64) < (((((0 : Int64) ||| ((((((nar .byte x209_504) &&& (255 : Int32))) &&& (127 : Int32)).toInt64) <<< ((0 : Int32) &&& 0x3f).toInt64))) ||| ((((((nar .byte x240_507) &&& (255 : Int32))) &&& (127 : Int32)).toInt64) <<< ((7 : Int32) &&& 0x3f).toInt64)))) := by
  have g0 := own_g0 p1 y11_152_40 hy11_152_40
  have b0 := own_hi y11_152_40 x209_504 (by omega) hx209_504
  have g1 : y12_161_42.toInt = ((p1.toInt % 4294967296) / 128) % 128 := own_g p1 y12_161_42 (7 : Int32) 7 (by decide) (by decide) hy12_161_42
  have b1 := own_lo y12_161_42 x240_507 (by omega) hx240_507
  have n0 := own_7 ((nar .byte x209_504) &&& (255 : Int32))
  rw [b0] at n0
  generalize ((((nar .byte x209_504) &&& (255 : Int32)) &&& (127 : Int32)).toInt64) = A0 at *
  have s0 := c_lshl A0 (0 : Int32) 0 (by decide)
  generalize (A0 <<< ((0 : Int32) &&& 0x3f).toInt64) = S0 at *
  have q0 := rng64 S0
  have e0 : S0.toInt = y11_152_40.toInt * 1 := by omega
  clear s0 q0 n0 b0
  have o0 := c_orL' (0 : Int64) S0 0 (by decide) 1 rfl (by omega) (by first | decide | omega) (by first | decide | omega)
  generalize ((0 : Int64) ||| S0) = O0 at *
  have f0 := rng64 O0
  have d0 : O0.toInt = y11_152_40.toInt := by simp only [Int64.reduceToInt] at o0; omega
  clear o0 f0 e0
  have n1 := own_7 ((nar .byte x240_507) &&& (255 : Int32))
  rw [b1] at n1
  generalize ((((nar .byte x240_507) &&& (255 : Int32)) &&& (127 : Int32)).toInt64) = A1 at *
  have s1 := c_lshl A1 (7 : Int32) 7 (by decide)
  generalize (A1 <<< ((7 : Int32) &&& 0x3f).toInt64) = S1 at *
  have q1 := rng64 S1
  have e1 : S1.toInt = y12_161_42.toInt * 128 := by omega
  clear s1 q1 n1 b1
  have o1 := c_orL' O0 S1 7 (by decide) 128 rfl (by omega) (by first | decide | omega) (by first | decide | omega)
  generalize (O0 ||| S1) = O1 at *
  have f1 := rng64 O1
  have d1 : O1.toInt = O0.toInt + y12_161_42.toInt * 128 := by omega
  clear o1 f1 e1
  rw [Int64.lt_iff_toInt_lt]
  simp only [Int64.reduceToInt]
  omega
theorem own_0_hc364_526 (p1 : Int32) (y11_152_40 : Int32) (x209_504 : Int32) (y12_161_42 : Int32) (x240_507 : Int32) (r358_525 : Int64) (y16_325_510 : Int64) (y18_350_512 : Int64) (hy11_152_40 : y11_152_40 = (p1 &&& (127 : Int32))) (hx209_504 : x209_504 = ((y11_152_40 ||| (128 : Int32)).toInt8.toInt32)) (hy12_161_42 : y12_161_42 = (((p1.toUInt32 >>> ((7 : Int32) &&& 31).toUInt32).toInt32) &&& (127 : Int32))) (hx240_507 : x240_507 = (y12_161_42.toInt8.toInt32)) (hr358_525 : r358_525 = (((((0 : Int64) ||| ((((((nar .byte x209_504) &&& (255 : Int32))) &&& (127 : Int32)).toInt64) <<< ((0 : Int32) &&& 0x3f).toInt64))) ||| ((((((nar .byte x240_507) &&& (255 : Int32))) &&& (127 : Int32)).toInt64) <<< ((7 : Int32) &&& 0x3f).toInt64)))) (hy16_325_510 : y16_325_510 = ((p1.toInt64) &&& (4294967295 : Int64))) (hy18_350_512 : y18_350_512 = (y16_325_510 &&& (((1 : Int64) <<< ((14 : Int32) &&& 0x3f).toInt64) - (1 : Int64))))  : r358_525 = y18_350_512 := by
  have g0 := own_g0 p1 y11_152_40 hy11_152_40
  have b0 := own_hi y11_152_40 x209_504 (by omega) hx209_504
  have g1 : y12_161_42.toInt = ((p1.toInt % 4294967296) / 128) % 128 := own_g p1 y12_161_42 (7 : Int32) 7 (by decide) (by decide) hy12_161_42
  have b1 := own_lo y12_161_42 x240_507 (by omega) hx240_507
  have n0 := own_7 ((nar .byte x209_504) &&& (255 : Int32))
  rw [b0] at n0
  generalize ((((nar .byte x209_504) &&& (255 : Int32)) &&& (127 : Int32)).toInt64) = A0 at *
  have s0 := c_lshl A0 (0 : Int32) 0 (by decide)
  generalize (A0 <<< ((0 : Int32) &&& 0x3f).toInt64) = S0 at *
  have q0 := rng64 S0
  have e0 : S0.toInt = y11_152_40.toInt * 1 := by omega
  clear s0 q0 n0 b0
  have o0 := c_orL' (0 : Int64) S0 0 (by decide) 1 rfl (by omega) (by first | decide | omega) (by first | decide | omega)
  generalize ((0 : Int64) ||| S0) = O0 at *
  have f0 := rng64 O0
  have d0 : O0.toInt = y11_152_40.toInt := by simp only [Int64.reduceToInt] at o0; omega
  clear o0 f0 e0
  have n1 := own_7 ((nar .byte x240_507) &&& (255 : Int32))
  rw [b1] at n1
  generalize ((((nar .byte x240_507) &&& (255 : Int32)) &&& (127 : Int32)).toInt64) = A1 at *
  have s1 := c_lshl A1 (7 : Int32) 7 (by decide)
  generalize (A1 <<< ((7 : Int32) &&& 0x3f).toInt64) = S1 at *
  have q1 := rng64 S1
  have e1 : S1.toInt = y12_161_42.toInt * 128 := by omega
  clear s1 q1 n1 b1
  have o1 := c_orL' O0 S1 7 (by decide) 128 rfl (by omega) (by first | decide | omega) (by first | decide | omega)
  generalize (O0 ||| S1) = O1 at *
  have f1 := rng64 O1
  have d1 : O1.toInt = O0.toInt + y12_161_42.toInt * 128 := by omega
  clear o1 f1 e1
  have u1 : y16_325_510.toInt = p1.toInt % 4294967296 := by rw [hy16_325_510, ← c_i2l p1]; exact c_maskL p1.toInt64 (4294967295 : Int64) 32 (by decide) (by decide)
  have u2 : y18_350_512.toInt = y16_325_510.toInt % 16384 := by rw [hy18_350_512]; exact c_maskL y16_325_510 _ 14 (by decide) (by decide)
  rw [← Int64.toInt_inj, hr358_525]
  omega
theorem own_0_hp358_545 (p4 : Int32) (y9_34_5 : Int32) (hy9_34_5 : y9_34_5 = ((3 : Int32) + ((p4 &&& (2147483647 : Int32)) % (((11 : Int32) - (3 : Int32)) - (3 : Int32)))))  : ¬ ((((10 : Int32) ||| (3 : Int32)) ||| y9_34_5) < (0 : Int32)) := by
  have r := own_len p4 y9_34_5 (3 : Int32) (3 : Int32) _ rfl (by decide) (by decide) hy9_34_5
  clear hy9_34_5
  simp only [Int32.reduceToInt] at r
  have a := (c_orS ((10 : Int32) ||| (3 : Int32)) y9_34_5).1 (by decide) (by omega)
  rw [Int32.lt_iff_toInt_lt]
  simp only [Int32.reduceToInt] at *
  omega
theorem own_0_hp358_546 (p4 : Int32) (y9_34_5 : Int32) (hy9_34_5 : y9_34_5 = ((3 : Int32) + ((p4 &&& (2147483647 : Int32)) % (((11 : Int32) - (3 : Int32)) - (3 : Int32)))))  : ¬ (((10 : Int32) - (3 : Int32)) < y9_34_5) := by
  have r := own_len p4 y9_34_5 (3 : Int32) (3 : Int32) _ rfl (by decide) (by decide) hy9_34_5
  clear hy9_34_5
  simp only [Int32.reduceToInt] at r
  have e : (((10 : Int32) - (3 : Int32))) = (7 : Int32) := by decide
  rw [e, Int32.lt_iff_toInt_lt]
  simp only [Int32.reduceToInt]
  omega
theorem own_0_hp358_547 (p4 : Int32) (y9_34_5 : Int32) (hy9_34_5 : y9_34_5 = ((3 : Int32) + ((p4 &&& (2147483647 : Int32)) % (((11 : Int32) - (3 : Int32)) - (3 : Int32)))))  : ¬ ((0 : Int32) = y9_34_5) := by
  have r := own_len p4 y9_34_5 (3 : Int32) (3 : Int32) _ rfl (by decide) (by decide) hy9_34_5
  clear hy9_34_5
  simp only [Int32.reduceToInt] at r
  rw [← Int32.toInt_inj]
  simp only [Int32.reduceToInt]
  omega
theorem own_0_hp358_548 (p1 : Int32) (y11_152_40 : Int32) (x209_527 : Int32) (hy11_152_40 : y11_152_40 = (p1 &&& (127 : Int32))) (hx209_527 : x209_527 = ((y11_152_40 ||| (128 : Int32)).toInt8.toInt32))  : ¬ ((((nar .byte x209_527) &&& (255 : Int32))) < (128 : Int32)) := by
  have g := own_g0 p1 y11_152_40 hy11_152_40
  have b := own_hi y11_152_40 x209_527 (by omega) hx209_527
  rw [Int32.lt_iff_toInt_lt, b]
  simp only [Int32.reduceToInt]
  omega
theorem own_0_hp358_549 (p4 : Int32) (y9_34_5 : Int32) (hy9_34_5 : y9_34_5 = ((3 : Int32) + ((p4 &&& (2147483647 : Int32)) % (((11 : Int32) - (3 : Int32)) - (3 : Int32)))))  : ¬ ((1 : Int32) = y9_34_5) := by
  have r := own_len p4 y9_34_5 (3 : Int32) (3 : Int32) _ rfl (by decide) (by decide) hy9_34_5
  clear hy9_34_5
  simp only [Int32.reduceToInt] at r
  rw [← Int32.toInt_inj]
  simp only [Int32.reduceToInt]
  omega
theorem own_0_hp358_550 (p1 : Int32) (y12_161_42 : Int32) (x240_530 : Int32) (hy12_161_42 : y12_161_42 = (((p1.toUInt32 >>> ((7 : Int32) &&& 31).toUInt32).toInt32) &&& (127 : Int32))) (hx240_530 : x240_530 = ((y12_161_42 ||| (128 : Int32)).toInt8.toInt32))  : ¬ ((((nar .byte x240_530) &&& (255 : Int32))) < (128 : Int32)) := by
  have g : y12_161_42.toInt = ((p1.toInt % 4294967296) / 128) % 128 := own_g p1 y12_161_42 (7 : Int32) 7 (by decide) (by decide) hy12_161_42
  have b := own_hi y12_161_42 x240_530 (by omega) hx240_530
  rw [Int32.lt_iff_toInt_lt, b]
  simp only [Int32.reduceToInt]
  omega
theorem own_0_hp358_551 (p4 : Int32) (y9_34_5 : Int32) (hy9_34_5 : y9_34_5 = ((3 : Int32) + ((p4 &&& (2147483647 : Int32)) % (((11 : Int32) - (3 : Int32)) - (3 : Int32)))))  : ¬ ((2 : Int32) = y9_34_5) := by
  have r := own_len p4 y9_34_5 (3 : Int32) (3 : Int32) _ rfl (by decide) (by decide) hy9_34_5
  clear hy9_34_5
  simp only [Int32.reduceToInt] at r
  rw [← Int32.toInt_inj]
  simp only [Int32.reduceToInt]
  omega
theorem own_0_hp358_552 (p1 : Int32) (y13_170_44 : Int32) (x271_533 : Int32) (hy13_170_44 : y13_170_44 = (((p1.toUInt32 >>> ((14 : Int32) &&& 31).toUInt32).toInt32) &&& (127 : Int32))) (hx271_533 : x271_533 = (y13_170_44.toInt8.toInt32))  : (((nar .byte x271_533) &&& (255 : Int32))) < (128 : Int32) := by
  have g : y13_170_44.toInt = ((p1.toInt % 4294967296) / 16384) % 128 := own_g p1 y13_170_44 (14 : Int32) 14 (by decide) (by decide) hy13_170_44
  have b := own_lo y13_170_44 x271_533 (by omega) hx271_533
  rw [Int32.lt_iff_toInt_lt, b]
  simp only [Int32.reduceToInt]
  omega
theorem own_0_hp358_553 (p1 : Int32) (y11_152_40 : Int32) (x209_527 : Int32) (y12_161_42 : Int32) (x240_530 : Int32) (y13_170_44 : Int32) (x271_533 : Int32) (hy11_152_40 : y11_152_40 = (p1 &&& (127 : Int32))) (hx209_527 : x209_527 = ((y11_152_40 ||| (128 : Int32)).toInt8.toInt32)) (hy12_161_42 : y12_161_42 = (((p1.toUInt32 >>> ((7 : Int32) &&& 31).toUInt32).toInt32) &&& (127 : Int32))) (hx240_530 : x240_530 = ((y12_161_42 ||| (128 : Int32)).toInt8.toInt32)) (hy13_170_44 : y13_170_44 = (((p1.toUInt32 >>> ((14 : Int32) &&& 31).toUInt32).toInt32) &&& (127 : Int32))) (hx271_533 : x271_533 = (y13_170_44.toInt8.toInt32))  : ¬ ((4294967295 : Int64) < (((((((0 : Int64) ||| ((((((nar .byte x209_527) &&& (255 : Int32))) &&& (127 : Int32)).toInt64) <<< ((0 : Int32) &&& 0x3f).toInt64))) ||| ((((((nar .byte x240_530) &&& (255 : Int32))) &&& (127 : Int32)).toInt64) <<< ((7 : Int32) &&& 0x3f).toInt64))) ||| ((((((nar .byte x271_533) &&& (255 : Int32))) &&& (127 : Int32)).toInt64) <<< ((14 : Int32) &&& 0x3f).toInt64)))) := by
  have g0 := own_g0 p1 y11_152_40 hy11_152_40
  have b0 := own_hi y11_152_40 x209_527 (by omega) hx209_527
  have g1 : y12_161_42.toInt = ((p1.toInt % 4294967296) / 128) % 128 := own_g p1 y12_161_42 (7 : Int32) 7 (by decide) (by decide) hy12_161_42
  have b1 := own_hi y12_161_42 x240_530 (by omega) hx240_530
  have g2 : y13_170_44.toInt = ((p1.toInt % 4294967296) / 16384) % 128 := own_g p1 y13_170_44 (14 : Int32) 14 (by decide) (by decide) hy13_170_44
  have b2 := own_lo y13_170_44 x271_533 (by omega) hx271_533
  have n0 := own_7 ((nar .byte x209_527) &&& (255 : Int32))
  rw [b0] at n0
  generalize ((((nar .byte x209_527) &&& (255 : Int32)) &&& (127 : Int32)).toInt64) = A0 at *
  have s0 := c_lshl A0 (0 : Int32) 0 (by decide)
  generalize (A0 <<< ((0 : Int32) &&& 0x3f).toInt64) = S0 at *
  have q0 := rng64 S0
  have e0 : S0.toInt = y11_152_40.toInt * 1 := by omega
  clear s0 q0 n0 b0
  have o0 := c_orL' (0 : Int64) S0 0 (by decide) 1 rfl (by omega) (by first | decide | omega) (by first | decide | omega)
  generalize ((0 : Int64) ||| S0) = O0 at *
  have f0 := rng64 O0
  have d0 : O0.toInt = y11_152_40.toInt := by simp only [Int64.reduceToInt] at o0; omega
  clear o0 f0 e0
  have n1 := own_7 ((nar .byte x240_530) &&& (255 : Int32))
  rw [b1] at n1
  generalize ((((nar .byte x240_530) &&& (255 : Int32)) &&& (127 : Int32)).toInt64) = A1 at *
  have s1 := c_lshl A1 (7 : Int32) 7 (by decide)
  generalize (A1 <<< ((7 : Int32) &&& 0x3f).toInt64) = S1 at *
  have q1 := rng64 S1
  have e1 : S1.toInt = y12_161_42.toInt * 128 := by omega
  clear s1 q1 n1 b1
  have o1 := c_orL' O0 S1 7 (by decide) 128 rfl (by omega) (by first | decide | omega) (by first | decide | omega)
  generalize (O0 ||| S1) = O1 at *
  have f1 := rng64 O1
  have d1 : O1.toInt = O0.toInt + y12_161_42.toInt * 128 := by omega
  clear o1 f1 e1
  have n2 := own_7 ((nar .byte x271_533) &&& (255 : Int32))
  rw [b2] at n2
  generalize ((((nar .byte x271_533) &&& (255 : Int32)) &&& (127 : Int32)).toInt64) = A2 at *
  have s2 := c_lshl A2 (14 : Int32) 14 (by decide)
  generalize (A2 <<< ((14 : Int32) &&& 0x3f).toInt64) = S2 at *
  have q2 := rng64 S2
  have e2 : S2.toInt = y13_170_44.toInt * 16384 := by omega
  clear s2 q2 n2 b2
  have o2 := c_orL' O1 S2 14 (by decide) 16384 rfl (by omega) (by first | decide | omega) (by first | decide | omega)
  generalize (O1 ||| S2) = O2 at *
  have f2 := rng64 O2
  have d2 : O2.toInt = O1.toInt + y13_170_44.toInt * 16384 := by omega
  clear o2 f2 e2
  rw [Int64.lt_iff_toInt_lt]
  simp only [Int64.reduceToInt]
  omega
theorem own_0_hc364_555 (p1 : Int32) (y11_152_40 : Int32) (x209_527 : Int32) (y12_161_42 : Int32) (x240_530 : Int32) (y13_170_44 : Int32) (x271_533 : Int32) (r358_554 : Int64) (y16_325_536 : Int64) (y18_350_538 : Int64) (hy11_152_40 : y11_152_40 = (p1 &&& (127 : Int32))) (hx209_527 : x209_527 = ((y11_152_40 ||| (128 : Int32)).toInt8.toInt32)) (hy12_161_42 : y12_161_42 = (((p1.toUInt32 >>> ((7 : Int32) &&& 31).toUInt32).toInt32) &&& (127 : Int32))) (hx240_530 : x240_530 = ((y12_161_42 ||| (128 : Int32)).toInt8.toInt32)) (hy13_170_44 : y13_170_44 = (((p1.toUInt32 >>> ((14 : Int32) &&& 31).toUInt32).toInt32) &&& (127 : Int32))) (hx271_533 : x271_533 = (y13_170_44.toInt8.toInt32)) (hr358_554 : r358_554 = (((((((0 : Int64) ||| ((((((nar .byte x209_527) &&& (255 : Int32))) &&& (127 : Int32)).toInt64) <<< ((0 : Int32) &&& 0x3f).toInt64))) ||| ((((((nar .byte x240_530) &&& (255 : Int32))) &&& (127 : Int32)).toInt64) <<< ((7 : Int32) &&& 0x3f).toInt64))) ||| ((((((nar .byte x271_533) &&& (255 : Int32))) &&& (127 : Int32)).toInt64) <<< ((14 : Int32) &&& 0x3f).toInt64)))) (hy16_325_536 : y16_325_536 = ((p1.toInt64) &&& (4294967295 : Int64))) (hy18_350_538 : y18_350_538 = (y16_325_536 &&& (((1 : Int64) <<< ((21 : Int32) &&& 0x3f).toInt64) - (1 : Int64))))  : r358_554 = y18_350_538 := by
  have g0 := own_g0 p1 y11_152_40 hy11_152_40
  have b0 := own_hi y11_152_40 x209_527 (by omega) hx209_527
  have g1 : y12_161_42.toInt = ((p1.toInt % 4294967296) / 128) % 128 := own_g p1 y12_161_42 (7 : Int32) 7 (by decide) (by decide) hy12_161_42
  have b1 := own_hi y12_161_42 x240_530 (by omega) hx240_530
  have g2 : y13_170_44.toInt = ((p1.toInt % 4294967296) / 16384) % 128 := own_g p1 y13_170_44 (14 : Int32) 14 (by decide) (by decide) hy13_170_44
  have b2 := own_lo y13_170_44 x271_533 (by omega) hx271_533
  have n0 := own_7 ((nar .byte x209_527) &&& (255 : Int32))
  rw [b0] at n0
  generalize ((((nar .byte x209_527) &&& (255 : Int32)) &&& (127 : Int32)).toInt64) = A0 at *
  have s0 := c_lshl A0 (0 : Int32) 0 (by decide)
  generalize (A0 <<< ((0 : Int32) &&& 0x3f).toInt64) = S0 at *
  have q0 := rng64 S0
  have e0 : S0.toInt = y11_152_40.toInt * 1 := by omega
  clear s0 q0 n0 b0
  have o0 := c_orL' (0 : Int64) S0 0 (by decide) 1 rfl (by omega) (by first | decide | omega) (by first | decide | omega)
  generalize ((0 : Int64) ||| S0) = O0 at *
  have f0 := rng64 O0
  have d0 : O0.toInt = y11_152_40.toInt := by simp only [Int64.reduceToInt] at o0; omega
  clear o0 f0 e0
  have n1 := own_7 ((nar .byte x240_530) &&& (255 : Int32))
  rw [b1] at n1
  generalize ((((nar .byte x240_530) &&& (255 : Int32)) &&& (127 : Int32)).toInt64) = A1 at *
  have s1 := c_lshl A1 (7 : Int32) 7 (by decide)
  generalize (A1 <<< ((7 : Int32) &&& 0x3f).toInt64) = S1 at *
  have q1 := rng64 S1
  have e1 : S1.toInt = y12_161_42.toInt * 128 := by omega
  clear s1 q1 n1 b1
  have o1 := c_orL' O0 S1 7 (by decide) 128 rfl (by omega) (by first | decide | omega) (by first | decide | omega)
  generalize (O0 ||| S1) = O1 at *
  have f1 := rng64 O1
  have d1 : O1.toInt = O0.toInt + y12_161_42.toInt * 128 := by omega
  clear o1 f1 e1
  have n2 := own_7 ((nar .byte x271_533) &&& (255 : Int32))
  rw [b2] at n2
  generalize ((((nar .byte x271_533) &&& (255 : Int32)) &&& (127 : Int32)).toInt64) = A2 at *
  have s2 := c_lshl A2 (14 : Int32) 14 (by decide)
  generalize (A2 <<< ((14 : Int32) &&& 0x3f).toInt64) = S2 at *
  have q2 := rng64 S2
  have e2 : S2.toInt = y13_170_44.toInt * 16384 := by omega
  clear s2 q2 n2 b2
  have o2 := c_orL' O1 S2 14 (by decide) 16384 rfl (by omega) (by first | decide | omega) (by first | decide | omega)
  generalize (O1 ||| S2) = O2 at *
  have f2 := rng64 O2
  have d2 : O2.toInt = O1.toInt + y13_170_44.toInt * 16384 := by omega
  clear o2 f2 e2
  have u1 : y16_325_536.toInt = p1.toInt % 4294967296 := by rw [hy16_325_536, ← c_i2l p1]; exact c_maskL p1.toInt64 (4294967295 : Int64) 32 (by decide) (by decide)
  have u2 : y18_350_538.toInt = y16_325_536.toInt % 2097152 := by rw [hy18_350_538]; exact c_maskL y16_325_536 _ 21 (by decide) (by decide)
  rw [← Int64.toInt_inj, hr358_554]
  omega
theorem own_0_hp358_578 (p4 : Int32) (y9_34_5 : Int32) (hy9_34_5 : y9_34_5 = ((4 : Int32) + ((p4 &&& (2147483647 : Int32)) % (((11 : Int32) - (3 : Int32)) - (4 : Int32)))))  : ¬ ((((10 : Int32) ||| (3 : Int32)) ||| y9_34_5) < (0 : Int32)) := by
  have r := own_len p4 y9_34_5 (3 : Int32) (4 : Int32) _ rfl (by decide) (by decide) hy9_34_5
  clear hy9_34_5
  simp only [Int32.reduceToInt] at r
  have a := (c_orS ((10 : Int32) ||| (3 : Int32)) y9_34_5).1 (by decide) (by omega)
  rw [Int32.lt_iff_toInt_lt]
  simp only [Int32.reduceToInt] at *
  omega
theorem own_0_hp358_579 (p4 : Int32) (y9_34_5 : Int32) (hy9_34_5 : y9_34_5 = ((4 : Int32) + ((p4 &&& (2147483647 : Int32)) % (((11 : Int32) - (3 : Int32)) - (4 : Int32)))))  : ¬ (((10 : Int32) - (3 : Int32)) < y9_34_5) := by
  have r := own_len p4 y9_34_5 (3 : Int32) (4 : Int32) _ rfl (by decide) (by decide) hy9_34_5
  clear hy9_34_5
  simp only [Int32.reduceToInt] at r
  have e : (((10 : Int32) - (3 : Int32))) = (7 : Int32) := by decide
  rw [e, Int32.lt_iff_toInt_lt]
  simp only [Int32.reduceToInt]
  omega
theorem own_0_hp358_580 (p4 : Int32) (y9_34_5 : Int32) (hy9_34_5 : y9_34_5 = ((4 : Int32) + ((p4 &&& (2147483647 : Int32)) % (((11 : Int32) - (3 : Int32)) - (4 : Int32)))))  : ¬ ((0 : Int32) = y9_34_5) := by
  have r := own_len p4 y9_34_5 (3 : Int32) (4 : Int32) _ rfl (by decide) (by decide) hy9_34_5
  clear hy9_34_5
  simp only [Int32.reduceToInt] at r
  rw [← Int32.toInt_inj]
  simp only [Int32.reduceToInt]
  omega
theorem own_0_hp358_581 (p1 : Int32) (y11_152_40 : Int32) (x209_556 : Int32) (hy11_152_40 : y11_152_40 = (p1 &&& (127 : Int32))) (hx209_556 : x209_556 = ((y11_152_40 ||| (128 : Int32)).toInt8.toInt32))  : ¬ ((((nar .byte x209_556) &&& (255 : Int32))) < (128 : Int32)) := by
  have g := own_g0 p1 y11_152_40 hy11_152_40
  have b := own_hi y11_152_40 x209_556 (by omega) hx209_556
  rw [Int32.lt_iff_toInt_lt, b]
  simp only [Int32.reduceToInt]
  omega
theorem own_0_hp358_582 (p4 : Int32) (y9_34_5 : Int32) (hy9_34_5 : y9_34_5 = ((4 : Int32) + ((p4 &&& (2147483647 : Int32)) % (((11 : Int32) - (3 : Int32)) - (4 : Int32)))))  : ¬ ((1 : Int32) = y9_34_5) := by
  have r := own_len p4 y9_34_5 (3 : Int32) (4 : Int32) _ rfl (by decide) (by decide) hy9_34_5
  clear hy9_34_5
  simp only [Int32.reduceToInt] at r
  rw [← Int32.toInt_inj]
  simp only [Int32.reduceToInt]
  omega
theorem own_0_hp358_583 (p1 : Int32) (y12_161_42 : Int32) (x240_559 : Int32) (hy12_161_42 : y12_161_42 = (((p1.toUInt32 >>> ((7 : Int32) &&& 31).toUInt32).toInt32) &&& (127 : Int32))) (hx240_559 : x240_559 = ((y12_161_42 ||| (128 : Int32)).toInt8.toInt32))  : ¬ ((((nar .byte x240_559) &&& (255 : Int32))) < (128 : Int32)) := by
  have g : y12_161_42.toInt = ((p1.toInt % 4294967296) / 128) % 128 := own_g p1 y12_161_42 (7 : Int32) 7 (by decide) (by decide) hy12_161_42
  have b := own_hi y12_161_42 x240_559 (by omega) hx240_559
  rw [Int32.lt_iff_toInt_lt, b]
  simp only [Int32.reduceToInt]
  omega
theorem own_0_hp358_584 (p4 : Int32) (y9_34_5 : Int32) (hy9_34_5 : y9_34_5 = ((4 : Int32) + ((p4 &&& (2147483647 : Int32)) % (((11 : Int32) - (3 : Int32)) - (4 : Int32)))))  : ¬ ((2 : Int32) = y9_34_5) := by
  have r := own_len p4 y9_34_5 (3 : Int32) (4 : Int32) _ rfl (by decide) (by decide) hy9_34_5
  clear hy9_34_5
  simp only [Int32.reduceToInt] at r
  rw [← Int32.toInt_inj]
  simp only [Int32.reduceToInt]
  omega
theorem own_0_hp358_585 (p1 : Int32) (y13_170_44 : Int32) (x271_562 : Int32) (hy13_170_44 : y13_170_44 = (((p1.toUInt32 >>> ((14 : Int32) &&& 31).toUInt32).toInt32) &&& (127 : Int32))) (hx271_562 : x271_562 = ((y13_170_44 ||| (128 : Int32)).toInt8.toInt32))  : ¬ ((((nar .byte x271_562) &&& (255 : Int32))) < (128 : Int32)) := by
  have g : y13_170_44.toInt = ((p1.toInt % 4294967296) / 16384) % 128 := own_g p1 y13_170_44 (14 : Int32) 14 (by decide) (by decide) hy13_170_44
  have b := own_hi y13_170_44 x271_562 (by omega) hx271_562
  rw [Int32.lt_iff_toInt_lt, b]
  simp only [Int32.reduceToInt]
  omega
theorem own_0_hp358_586 (p4 : Int32) (y9_34_5 : Int32) (hy9_34_5 : y9_34_5 = ((4 : Int32) + ((p4 &&& (2147483647 : Int32)) % (((11 : Int32) - (3 : Int32)) - (4 : Int32)))))  : ¬ ((3 : Int32) = y9_34_5) := by
  have r := own_len p4 y9_34_5 (3 : Int32) (4 : Int32) _ rfl (by decide) (by decide) hy9_34_5
  clear hy9_34_5
  simp only [Int32.reduceToInt] at r
  rw [← Int32.toInt_inj]
  simp only [Int32.reduceToInt]
  omega
theorem own_0_hp358_587 (p1 : Int32) (y14_179_46 : Int32) (x302_565 : Int32) (hy14_179_46 : y14_179_46 = (((p1.toUInt32 >>> ((21 : Int32) &&& 31).toUInt32).toInt32) &&& (127 : Int32))) (hx302_565 : x302_565 = (y14_179_46.toInt8.toInt32))  : (((nar .byte x302_565) &&& (255 : Int32))) < (128 : Int32) := by
  have g : y14_179_46.toInt = ((p1.toInt % 4294967296) / 2097152) % 128 := own_g p1 y14_179_46 (21 : Int32) 21 (by decide) (by decide) hy14_179_46
  have b := own_lo y14_179_46 x302_565 (by omega) hx302_565
  rw [Int32.lt_iff_toInt_lt, b]
  simp only [Int32.reduceToInt]
  omega
theorem own_0_hp358_588 (p1 : Int32) (y11_152_40 : Int32) (x209_556 : Int32) (y12_161_42 : Int32) (x240_559 : Int32) (y13_170_44 : Int32) (x271_562 : Int32) (y14_179_46 : Int32) (x302_565 : Int32) (hy11_152_40 : y11_152_40 = (p1 &&& (127 : Int32))) (hx209_556 : x209_556 = ((y11_152_40 ||| (128 : Int32)).toInt8.toInt32)) (hy12_161_42 : y12_161_42 = (((p1.toUInt32 >>> ((7 : Int32) &&& 31).toUInt32).toInt32) &&& (127 : Int32))) (hx240_559 : x240_559 = ((y12_161_42 ||| (128 : Int32)).toInt8.toInt32)) (hy13_170_44 : y13_170_44 = (((p1.toUInt32 >>> ((14 : Int32) &&& 31).toUInt32).toInt32) &&& (127 : Int32))) (hx271_562 : x271_562 = ((y13_170_44 ||| (128 : Int32)).toInt8.toInt32)) (hy14_179_46 : y14_179_46 = (((p1.toUInt32 >>> ((21 : Int32) &&& 31).toUInt32).toInt32) &&& (127 : Int32))) (hx302_565 : x302_565 = (y14_179_46.toInt8.toInt32))  : ¬ ((4294967295 : Int64) < (((((((((0 : Int64) ||| ((((((nar .byte x209_556) &&& (255 : Int32))) &&& (127 : Int32)).toInt64) <<< ((0 : Int32) &&& 0x3f).toInt64))) ||| ((((((nar .byte x240_559) &&& (255 : Int32))) &&& (127 : Int32)).toInt64) <<< ((7 : Int32) &&& 0x3f).toInt64))) ||| ((((((nar .byte x271_562) &&& (255 : Int32))) &&& (127 : Int32)).toInt64) <<< ((14 : Int32) &&& 0x3f).toInt64))) ||| ((((((nar .byte x302_565) &&& (255 : Int32))) &&& (127 : Int32)).toInt64) <<< ((21 : Int32) &&& 0x3f).toInt64)))) := by
  have g0 := own_g0 p1 y11_152_40 hy11_152_40
  have b0 := own_hi y11_152_40 x209_556 (by omega) hx209_556
  have g1 : y12_161_42.toInt = ((p1.toInt % 4294967296) / 128) % 128 := own_g p1 y12_161_42 (7 : Int32) 7 (by decide) (by decide) hy12_161_42
  have b1 := own_hi y12_161_42 x240_559 (by omega) hx240_559
  have g2 : y13_170_44.toInt = ((p1.toInt % 4294967296) / 16384) % 128 := own_g p1 y13_170_44 (14 : Int32) 14 (by decide) (by decide) hy13_170_44
  have b2 := own_hi y13_170_44 x271_562 (by omega) hx271_562
  have g3 : y14_179_46.toInt = ((p1.toInt % 4294967296) / 2097152) % 128 := own_g p1 y14_179_46 (21 : Int32) 21 (by decide) (by decide) hy14_179_46
  have b3 := own_lo y14_179_46 x302_565 (by omega) hx302_565
  have n0 := own_7 ((nar .byte x209_556) &&& (255 : Int32))
  rw [b0] at n0
  generalize ((((nar .byte x209_556) &&& (255 : Int32)) &&& (127 : Int32)).toInt64) = A0 at *
  have s0 := c_lshl A0 (0 : Int32) 0 (by decide)
  generalize (A0 <<< ((0 : Int32) &&& 0x3f).toInt64) = S0 at *
  have q0 := rng64 S0
  have e0 : S0.toInt = y11_152_40.toInt * 1 := by omega
  clear s0 q0 n0 b0
  have o0 := c_orL' (0 : Int64) S0 0 (by decide) 1 rfl (by omega) (by first | decide | omega) (by first | decide | omega)
  generalize ((0 : Int64) ||| S0) = O0 at *
  have f0 := rng64 O0
  have d0 : O0.toInt = y11_152_40.toInt := by simp only [Int64.reduceToInt] at o0; omega
  clear o0 f0 e0
  have n1 := own_7 ((nar .byte x240_559) &&& (255 : Int32))
  rw [b1] at n1
  generalize ((((nar .byte x240_559) &&& (255 : Int32)) &&& (127 : Int32)).toInt64) = A1 at *
  have s1 := c_lshl A1 (7 : Int32) 7 (by decide)
  generalize (A1 <<< ((7 : Int32) &&& 0x3f).toInt64) = S1 at *
  have q1 := rng64 S1
  have e1 : S1.toInt = y12_161_42.toInt * 128 := by omega
  clear s1 q1 n1 b1
  have o1 := c_orL' O0 S1 7 (by decide) 128 rfl (by omega) (by first | decide | omega) (by first | decide | omega)
  generalize (O0 ||| S1) = O1 at *
  have f1 := rng64 O1
  have d1 : O1.toInt = O0.toInt + y12_161_42.toInt * 128 := by omega
  clear o1 f1 e1
  have n2 := own_7 ((nar .byte x271_562) &&& (255 : Int32))
  rw [b2] at n2
  generalize ((((nar .byte x271_562) &&& (255 : Int32)) &&& (127 : Int32)).toInt64) = A2 at *
  have s2 := c_lshl A2 (14 : Int32) 14 (by decide)
  generalize (A2 <<< ((14 : Int32) &&& 0x3f).toInt64) = S2 at *
  have q2 := rng64 S2
  have e2 : S2.toInt = y13_170_44.toInt * 16384 := by omega
  clear s2 q2 n2 b2
  have o2 := c_orL' O1 S2 14 (by decide) 16384 rfl (by omega) (by first | decide | omega) (by first | decide | omega)
  generalize (O1 ||| S2) = O2 at *
  have f2 := rng64 O2
  have d2 : O2.toInt = O1.toInt + y13_170_44.toInt * 16384 := by omega
  clear o2 f2 e2
  have n3 := own_7 ((nar .byte x302_565) &&& (255 : Int32))
  rw [b3] at n3
  generalize ((((nar .byte x302_565) &&& (255 : Int32)) &&& (127 : Int32)).toInt64) = A3 at *
  have s3 := c_lshl A3 (21 : Int32) 21 (by decide)
  generalize (A3 <<< ((21 : Int32) &&& 0x3f).toInt64) = S3 at *
  have q3 := rng64 S3
  have e3 : S3.toInt = y14_179_46.toInt * 2097152 := by omega
  clear s3 q3 n3 b3
  have o3 := c_orL' O2 S3 21 (by decide) 2097152 rfl (by omega) (by first | decide | omega) (by first | decide | omega)
  generalize (O2 ||| S3) = O3 at *
  have f3 := rng64 O3
  have d3 : O3.toInt = O2.toInt + y14_179_46.toInt * 2097152 := by omega
  clear o3 f3 e3
  rw [Int64.lt_iff_toInt_lt]
  simp only [Int64.reduceToInt]
  omega
theorem own_0_hc364_590 (p1 : Int32) (y11_152_40 : Int32) (x209_556 : Int32) (y12_161_42 : Int32) (x240_559 : Int32) (y13_170_44 : Int32) (x271_562 : Int32) (y14_179_46 : Int32) (x302_565 : Int32) (r358_589 : Int64) (y16_325_568 : Int64) (y18_350_570 : Int64) (hy11_152_40 : y11_152_40 = (p1 &&& (127 : Int32))) (hx209_556 : x209_556 = ((y11_152_40 ||| (128 : Int32)).toInt8.toInt32)) (hy12_161_42 : y12_161_42 = (((p1.toUInt32 >>> ((7 : Int32) &&& 31).toUInt32).toInt32) &&& (127 : Int32))) (hx240_559 : x240_559 = ((y12_161_42 ||| (128 : Int32)).toInt8.toInt32)) (hy13_170_44 : y13_170_44 = (((p1.toUInt32 >>> ((14 : Int32) &&& 31).toUInt32).toInt32) &&& (127 : Int32))) (hx271_562 : x271_562 = ((y13_170_44 ||| (128 : Int32)).toInt8.toInt32)) (hy14_179_46 : y14_179_46 = (((p1.toUInt32 >>> ((21 : Int32) &&& 31).toUInt32).toInt32) &&& (127 : Int32))) (hx302_565 : x302_565 = (y14_179_46.toInt8.toInt32)) (hr358_589 : r358_589 = (((((((((0 : Int64) ||| ((((((nar .byte x209_556) &&& (255 : Int32))) &&& (127 : Int32)).toInt64) <<< ((0 : Int32) &&& 0x3f).toInt64))) ||| ((((((nar .byte x240_559) &&& (255 : Int32))) &&& (127 : Int32)).toInt64) <<< ((7 : Int32) &&& 0x3f).toInt64))) ||| ((((((nar .byte x271_562) &&& (255 : Int32))) &&& (127 : Int32)).toInt64) <<< ((14 : Int32) &&& 0x3f).toInt64))) ||| ((((((nar .byte x302_565) &&& (255 : Int32))) &&& (127 : Int32)).toInt64) <<< ((21 : Int32) &&& 0x3f).toInt64)))) (hy16_325_568 : y16_325_568 = ((p1.toInt64) &&& (4294967295 : Int64))) (hy18_350_570 : y18_350_570 = (y16_325_568 &&& (((1 : Int64) <<< ((28 : Int32) &&& 0x3f).toInt64) - (1 : Int64))))  : r358_589 = y18_350_570 := by
  have g0 := own_g0 p1 y11_152_40 hy11_152_40
  have b0 := own_hi y11_152_40 x209_556 (by omega) hx209_556
  have g1 : y12_161_42.toInt = ((p1.toInt % 4294967296) / 128) % 128 := own_g p1 y12_161_42 (7 : Int32) 7 (by decide) (by decide) hy12_161_42
  have b1 := own_hi y12_161_42 x240_559 (by omega) hx240_559
  have g2 : y13_170_44.toInt = ((p1.toInt % 4294967296) / 16384) % 128 := own_g p1 y13_170_44 (14 : Int32) 14 (by decide) (by decide) hy13_170_44
  have b2 := own_hi y13_170_44 x271_562 (by omega) hx271_562
  have g3 : y14_179_46.toInt = ((p1.toInt % 4294967296) / 2097152) % 128 := own_g p1 y14_179_46 (21 : Int32) 21 (by decide) (by decide) hy14_179_46
  have b3 := own_lo y14_179_46 x302_565 (by omega) hx302_565
  have n0 := own_7 ((nar .byte x209_556) &&& (255 : Int32))
  rw [b0] at n0
  generalize ((((nar .byte x209_556) &&& (255 : Int32)) &&& (127 : Int32)).toInt64) = A0 at *
  have s0 := c_lshl A0 (0 : Int32) 0 (by decide)
  generalize (A0 <<< ((0 : Int32) &&& 0x3f).toInt64) = S0 at *
  have q0 := rng64 S0
  have e0 : S0.toInt = y11_152_40.toInt * 1 := by omega
  clear s0 q0 n0 b0
  have o0 := c_orL' (0 : Int64) S0 0 (by decide) 1 rfl (by omega) (by first | decide | omega) (by first | decide | omega)
  generalize ((0 : Int64) ||| S0) = O0 at *
  have f0 := rng64 O0
  have d0 : O0.toInt = y11_152_40.toInt := by simp only [Int64.reduceToInt] at o0; omega
  clear o0 f0 e0
  have n1 := own_7 ((nar .byte x240_559) &&& (255 : Int32))
  rw [b1] at n1
  generalize ((((nar .byte x240_559) &&& (255 : Int32)) &&& (127 : Int32)).toInt64) = A1 at *
  have s1 := c_lshl A1 (7 : Int32) 7 (by decide)
  generalize (A1 <<< ((7 : Int32) &&& 0x3f).toInt64) = S1 at *
  have q1 := rng64 S1
  have e1 : S1.toInt = y12_161_42.toInt * 128 := by omega
  clear s1 q1 n1 b1
  have o1 := c_orL' O0 S1 7 (by decide) 128 rfl (by omega) (by first | decide | omega) (by first | decide | omega)
  generalize (O0 ||| S1) = O1 at *
  have f1 := rng64 O1
  have d1 : O1.toInt = O0.toInt + y12_161_42.toInt * 128 := by omega
  clear o1 f1 e1
  have n2 := own_7 ((nar .byte x271_562) &&& (255 : Int32))
  rw [b2] at n2
  generalize ((((nar .byte x271_562) &&& (255 : Int32)) &&& (127 : Int32)).toInt64) = A2 at *
  have s2 := c_lshl A2 (14 : Int32) 14 (by decide)
  generalize (A2 <<< ((14 : Int32) &&& 0x3f).toInt64) = S2 at *
  have q2 := rng64 S2
  have e2 : S2.toInt = y13_170_44.toInt * 16384 := by omega
  clear s2 q2 n2 b2
  have o2 := c_orL' O1 S2 14 (by decide) 16384 rfl (by omega) (by first | decide | omega) (by first | decide | omega)
  generalize (O1 ||| S2) = O2 at *
  have f2 := rng64 O2
  have d2 : O2.toInt = O1.toInt + y13_170_44.toInt * 16384 := by omega
  clear o2 f2 e2
  have n3 := own_7 ((nar .byte x302_565) &&& (255 : Int32))
  rw [b3] at n3
  generalize ((((nar .byte x302_565) &&& (255 : Int32)) &&& (127 : Int32)).toInt64) = A3 at *
  have s3 := c_lshl A3 (21 : Int32) 21 (by decide)
  generalize (A3 <<< ((21 : Int32) &&& 0x3f).toInt64) = S3 at *
  have q3 := rng64 S3
  have e3 : S3.toInt = y14_179_46.toInt * 2097152 := by omega
  clear s3 q3 n3 b3
  have o3 := c_orL' O2 S3 21 (by decide) 2097152 rfl (by omega) (by first | decide | omega) (by first | decide | omega)
  generalize (O2 ||| S3) = O3 at *
  have f3 := rng64 O3
  have d3 : O3.toInt = O2.toInt + y14_179_46.toInt * 2097152 := by omega
  clear o3 f3 e3
  have u1 : y16_325_568.toInt = p1.toInt % 4294967296 := by rw [hy16_325_568, ← c_i2l p1]; exact c_maskL p1.toInt64 (4294967295 : Int64) 32 (by decide) (by decide)
  have u2 : y18_350_570.toInt = y16_325_568.toInt % 268435456 := by rw [hy18_350_570]; exact c_maskL y16_325_568 _ 28 (by decide) (by decide)
  rw [← Int64.toInt_inj, hr358_589]
  omega
theorem own_0_hp358_616 (p4 : Int32) (y9_34_5 : Int32) (hy9_34_5 : y9_34_5 = ((5 : Int32) + ((p4 &&& (2147483647 : Int32)) % (((11 : Int32) - (3 : Int32)) - (5 : Int32)))))  : ¬ ((((10 : Int32) ||| (3 : Int32)) ||| y9_34_5) < (0 : Int32)) := by
  have r := own_len p4 y9_34_5 (3 : Int32) (5 : Int32) _ rfl (by decide) (by decide) hy9_34_5
  clear hy9_34_5
  simp only [Int32.reduceToInt] at r
  have a := (c_orS ((10 : Int32) ||| (3 : Int32)) y9_34_5).1 (by decide) (by omega)
  rw [Int32.lt_iff_toInt_lt]
  simp only [Int32.reduceToInt] at *
  omega
theorem own_0_hp358_617 (p4 : Int32) (y9_34_5 : Int32) (hy9_34_5 : y9_34_5 = ((5 : Int32) + ((p4 &&& (2147483647 : Int32)) % (((11 : Int32) - (3 : Int32)) - (5 : Int32)))))  : ¬ (((10 : Int32) - (3 : Int32)) < y9_34_5) := by
  have r := own_len p4 y9_34_5 (3 : Int32) (5 : Int32) _ rfl (by decide) (by decide) hy9_34_5
  clear hy9_34_5
  simp only [Int32.reduceToInt] at r
  have e : (((10 : Int32) - (3 : Int32))) = (7 : Int32) := by decide
  rw [e, Int32.lt_iff_toInt_lt]
  simp only [Int32.reduceToInt]
  omega
theorem own_0_hp358_618 (p4 : Int32) (y9_34_5 : Int32) (hy9_34_5 : y9_34_5 = ((5 : Int32) + ((p4 &&& (2147483647 : Int32)) % (((11 : Int32) - (3 : Int32)) - (5 : Int32)))))  : ¬ ((0 : Int32) = y9_34_5) := by
  have r := own_len p4 y9_34_5 (3 : Int32) (5 : Int32) _ rfl (by decide) (by decide) hy9_34_5
  clear hy9_34_5
  simp only [Int32.reduceToInt] at r
  rw [← Int32.toInt_inj]
  simp only [Int32.reduceToInt]
  omega
theorem own_0_hp358_619 (p1 : Int32) (y11_152_40 : Int32) (x209_591 : Int32) (hy11_152_40 : y11_152_40 = (p1 &&& (127 : Int32))) (hx209_591 : x209_591 = ((y11_152_40 ||| (128 : Int32)).toInt8.toInt32))  : ¬ ((((nar .byte x209_591) &&& (255 : Int32))) < (128 : Int32)) := by
  have g := own_g0 p1 y11_152_40 hy11_152_40
  have b := own_hi y11_152_40 x209_591 (by omega) hx209_591
  rw [Int32.lt_iff_toInt_lt, b]
  simp only [Int32.reduceToInt]
  omega
theorem own_0_hp358_620 (p4 : Int32) (y9_34_5 : Int32) (hy9_34_5 : y9_34_5 = ((5 : Int32) + ((p4 &&& (2147483647 : Int32)) % (((11 : Int32) - (3 : Int32)) - (5 : Int32)))))  : ¬ ((1 : Int32) = y9_34_5) := by
  have r := own_len p4 y9_34_5 (3 : Int32) (5 : Int32) _ rfl (by decide) (by decide) hy9_34_5
  clear hy9_34_5
  simp only [Int32.reduceToInt] at r
  rw [← Int32.toInt_inj]
  simp only [Int32.reduceToInt]
  omega
theorem own_0_hp358_621 (p1 : Int32) (y12_161_42 : Int32) (x240_594 : Int32) (hy12_161_42 : y12_161_42 = (((p1.toUInt32 >>> ((7 : Int32) &&& 31).toUInt32).toInt32) &&& (127 : Int32))) (hx240_594 : x240_594 = ((y12_161_42 ||| (128 : Int32)).toInt8.toInt32))  : ¬ ((((nar .byte x240_594) &&& (255 : Int32))) < (128 : Int32)) := by
  have g : y12_161_42.toInt = ((p1.toInt % 4294967296) / 128) % 128 := own_g p1 y12_161_42 (7 : Int32) 7 (by decide) (by decide) hy12_161_42
  have b := own_hi y12_161_42 x240_594 (by omega) hx240_594
  rw [Int32.lt_iff_toInt_lt, b]
  simp only [Int32.reduceToInt]
  omega
theorem own_0_hp358_622 (p4 : Int32) (y9_34_5 : Int32) (hy9_34_5 : y9_34_5 = ((5 : Int32) + ((p4 &&& (2147483647 : Int32)) % (((11 : Int32) - (3 : Int32)) - (5 : Int32)))))  : ¬ ((2 : Int32) = y9_34_5) := by
  have r := own_len p4 y9_34_5 (3 : Int32) (5 : Int32) _ rfl (by decide) (by decide) hy9_34_5
  clear hy9_34_5
  simp only [Int32.reduceToInt] at r
  rw [← Int32.toInt_inj]
  simp only [Int32.reduceToInt]
  omega
theorem own_0_hp358_623 (p1 : Int32) (y13_170_44 : Int32) (x271_597 : Int32) (hy13_170_44 : y13_170_44 = (((p1.toUInt32 >>> ((14 : Int32) &&& 31).toUInt32).toInt32) &&& (127 : Int32))) (hx271_597 : x271_597 = ((y13_170_44 ||| (128 : Int32)).toInt8.toInt32))  : ¬ ((((nar .byte x271_597) &&& (255 : Int32))) < (128 : Int32)) := by
  have g : y13_170_44.toInt = ((p1.toInt % 4294967296) / 16384) % 128 := own_g p1 y13_170_44 (14 : Int32) 14 (by decide) (by decide) hy13_170_44
  have b := own_hi y13_170_44 x271_597 (by omega) hx271_597
  rw [Int32.lt_iff_toInt_lt, b]
  simp only [Int32.reduceToInt]
  omega
theorem own_0_hp358_624 (p4 : Int32) (y9_34_5 : Int32) (hy9_34_5 : y9_34_5 = ((5 : Int32) + ((p4 &&& (2147483647 : Int32)) % (((11 : Int32) - (3 : Int32)) - (5 : Int32)))))  : ¬ ((3 : Int32) = y9_34_5) := by
  have r := own_len p4 y9_34_5 (3 : Int32) (5 : Int32) _ rfl (by decide) (by decide) hy9_34_5
  clear hy9_34_5
  simp only [Int32.reduceToInt] at r
  rw [← Int32.toInt_inj]
  simp only [Int32.reduceToInt]
  omega
theorem own_0_hp358_625 (p1 : Int32) (y14_179_46 : Int32) (x302_600 : Int32) (hy14_179_46 : y14_179_46 = (((p1.toUInt32 >>> ((21 : Int32) &&& 31).toUInt32).toInt32) &&& (127 : Int32))) (hx302_600 : x302_600 = ((y14_179_46 ||| (128 : Int32)).toInt8.toInt32))  : ¬ ((((nar .byte x302_600) &&& (255 : Int32))) < (128 : Int32)) := by
  have g : y14_179_46.toInt = ((p1.toInt % 4294967296) / 2097152) % 128 := own_g p1 y14_179_46 (21 : Int32) 21 (by decide) (by decide) hy14_179_46
  have b := own_hi y14_179_46 x302_600 (by omega) hx302_600
  rw [Int32.lt_iff_toInt_lt, b]
  simp only [Int32.reduceToInt]
  omega
theorem own_0_hp358_626 (p4 : Int32) (y9_34_5 : Int32) (hy9_34_5 : y9_34_5 = ((5 : Int32) + ((p4 &&& (2147483647 : Int32)) % (((11 : Int32) - (3 : Int32)) - (5 : Int32)))))  : ¬ ((4 : Int32) = y9_34_5) := by
  have r := own_len p4 y9_34_5 (3 : Int32) (5 : Int32) _ rfl (by decide) (by decide) hy9_34_5
  clear hy9_34_5
  simp only [Int32.reduceToInt] at r
  rw [← Int32.toInt_inj]
  simp only [Int32.reduceToInt]
  omega
theorem own_0_hp358_627 (p1 : Int32) (y15_185_48 : Int32) (x318_603 : Int32) (hy15_185_48 : y15_185_48 = ((p1.toUInt32 >>> ((28 : Int32) &&& 31).toUInt32).toInt32)) (hx318_603 : x318_603 = (y15_185_48.toInt8.toInt32))  : (((nar .byte x318_603) &&& (255 : Int32))) < (128 : Int32) := by
  have g : y15_185_48.toInt = (p1.toInt % 4294967296) / 268435456 := by rw [hy15_185_48]; exact c_iushr p1 (28 : Int32) 28 (by decide) (by decide)
  have b := own_lo y15_185_48 x318_603 (by omega) hx318_603
  rw [Int32.lt_iff_toInt_lt, b]
  simp only [Int32.reduceToInt]
  omega
theorem own_0_hp358_628 (p1 : Int32) (y11_152_40 : Int32) (x209_591 : Int32) (y12_161_42 : Int32) (x240_594 : Int32) (y13_170_44 : Int32) (x271_597 : Int32) (y14_179_46 : Int32) (x302_600 : Int32) (y15_185_48 : Int32) (x318_603 : Int32) (hy11_152_40 : y11_152_40 = (p1 &&& (127 : Int32))) (hx209_591 : x209_591 = ((y11_152_40 ||| (128 : Int32)).toInt8.toInt32)) (hy12_161_42 : y12_161_42 = (((p1.toUInt32 >>> ((7 : Int32) &&& 31).toUInt32).toInt32) &&& (127 : Int32))) (hx240_594 : x240_594 = ((y12_161_42 ||| (128 : Int32)).toInt8.toInt32)) (hy13_170_44 : y13_170_44 = (((p1.toUInt32 >>> ((14 : Int32) &&& 31).toUInt32).toInt32) &&& (127 : Int32))) (hx271_597 : x271_597 = ((y13_170_44 ||| (128 : Int32)).toInt8.toInt32)) (hy14_179_46 : y14_179_46 = (((p1.toUInt32 >>> ((21 : Int32) &&& 31).toUInt32).toInt32) &&& (127 : Int32))) (hx302_600 : x302_600 = ((y14_179_46 ||| (128 : Int32)).toInt8.toInt32)) (hy15_185_48 : y15_185_48 = ((p1.toUInt32 >>> ((28 : Int32) &&& 31).toUInt32).toInt32)) (hx318_603 : x318_603 = (y15_185_48.toInt8.toInt32))  : ¬ ((4294967295 : Int64) < (((((((((((0 : Int64) ||| ((((((nar .byte x209_591) &&& (255 : Int32))) &&& (127 : Int32)).toInt64) <<< ((0 : Int32) &&& 0x3f).toInt64))) ||| ((((((nar .byte x240_594) &&& (255 : Int32))) &&& (127 : Int32)).toInt64) <<< ((7 : Int32) &&& 0x3f).toInt64))) ||| ((((((nar .byte x271_597) &&& (255 : Int32))) &&& (127 : Int32)).toInt64) <<< ((14 : Int32) &&& 0x3f).toInt64))) ||| ((((((nar .byte x302_600) &&& (255 : Int32))) &&& (127 : Int32)).toInt64) <<< ((21 : Int32) &&& 0x3f).toInt64))) ||| ((((((nar .byte x318_603) &&& (255 : Int32))) &&& (127 : Int32)).toInt64) <<< ((28 : Int32) &&& 0x3f).toInt64)))) := by
  have g0 := own_g0 p1 y11_152_40 hy11_152_40
  have b0 := own_hi y11_152_40 x209_591 (by omega) hx209_591
  have g1 : y12_161_42.toInt = ((p1.toInt % 4294967296) / 128) % 128 := own_g p1 y12_161_42 (7 : Int32) 7 (by decide) (by decide) hy12_161_42
  have b1 := own_hi y12_161_42 x240_594 (by omega) hx240_594
  have g2 : y13_170_44.toInt = ((p1.toInt % 4294967296) / 16384) % 128 := own_g p1 y13_170_44 (14 : Int32) 14 (by decide) (by decide) hy13_170_44
  have b2 := own_hi y13_170_44 x271_597 (by omega) hx271_597
  have g3 : y14_179_46.toInt = ((p1.toInt % 4294967296) / 2097152) % 128 := own_g p1 y14_179_46 (21 : Int32) 21 (by decide) (by decide) hy14_179_46
  have b3 := own_hi y14_179_46 x302_600 (by omega) hx302_600
  have g4 : y15_185_48.toInt = (p1.toInt % 4294967296) / 268435456 := by rw [hy15_185_48]; exact c_iushr p1 (28 : Int32) 28 (by decide) (by decide)
  have b4 := own_lo y15_185_48 x318_603 (by omega) hx318_603
  have n0 := own_7 ((nar .byte x209_591) &&& (255 : Int32))
  rw [b0] at n0
  generalize ((((nar .byte x209_591) &&& (255 : Int32)) &&& (127 : Int32)).toInt64) = A0 at *
  have s0 := c_lshl A0 (0 : Int32) 0 (by decide)
  generalize (A0 <<< ((0 : Int32) &&& 0x3f).toInt64) = S0 at *
  have q0 := rng64 S0
  have e0 : S0.toInt = y11_152_40.toInt * 1 := by omega
  clear s0 q0 n0 b0
  have o0 := c_orL' (0 : Int64) S0 0 (by decide) 1 rfl (by omega) (by first | decide | omega) (by first | decide | omega)
  generalize ((0 : Int64) ||| S0) = O0 at *
  have f0 := rng64 O0
  have d0 : O0.toInt = y11_152_40.toInt := by simp only [Int64.reduceToInt] at o0; omega
  clear o0 f0 e0
  have n1 := own_7 ((nar .byte x240_594) &&& (255 : Int32))
  rw [b1] at n1
  generalize ((((nar .byte x240_594) &&& (255 : Int32)) &&& (127 : Int32)).toInt64) = A1 at *
  have s1 := c_lshl A1 (7 : Int32) 7 (by decide)
  generalize (A1 <<< ((7 : Int32) &&& 0x3f).toInt64) = S1 at *
  have q1 := rng64 S1
  have e1 : S1.toInt = y12_161_42.toInt * 128 := by omega
  clear s1 q1 n1 b1
  have o1 := c_orL' O0 S1 7 (by decide) 128 rfl (by omega) (by first | decide | omega) (by first | decide | omega)
  generalize (O0 ||| S1) = O1 at *
  have f1 := rng64 O1
  have d1 : O1.toInt = O0.toInt + y12_161_42.toInt * 128 := by omega
  clear o1 f1 e1
  have n2 := own_7 ((nar .byte x271_597) &&& (255 : Int32))
  rw [b2] at n2
  generalize ((((nar .byte x271_597) &&& (255 : Int32)) &&& (127 : Int32)).toInt64) = A2 at *
  have s2 := c_lshl A2 (14 : Int32) 14 (by decide)
  generalize (A2 <<< ((14 : Int32) &&& 0x3f).toInt64) = S2 at *
  have q2 := rng64 S2
  have e2 : S2.toInt = y13_170_44.toInt * 16384 := by omega
  clear s2 q2 n2 b2
  have o2 := c_orL' O1 S2 14 (by decide) 16384 rfl (by omega) (by first | decide | omega) (by first | decide | omega)
  generalize (O1 ||| S2) = O2 at *
  have f2 := rng64 O2
  have d2 : O2.toInt = O1.toInt + y13_170_44.toInt * 16384 := by omega
  clear o2 f2 e2
  have n3 := own_7 ((nar .byte x302_600) &&& (255 : Int32))
  rw [b3] at n3
  generalize ((((nar .byte x302_600) &&& (255 : Int32)) &&& (127 : Int32)).toInt64) = A3 at *
  have s3 := c_lshl A3 (21 : Int32) 21 (by decide)
  generalize (A3 <<< ((21 : Int32) &&& 0x3f).toInt64) = S3 at *
  have q3 := rng64 S3
  have e3 : S3.toInt = y14_179_46.toInt * 2097152 := by omega
  clear s3 q3 n3 b3
  have o3 := c_orL' O2 S3 21 (by decide) 2097152 rfl (by omega) (by first | decide | omega) (by first | decide | omega)
  generalize (O2 ||| S3) = O3 at *
  have f3 := rng64 O3
  have d3 : O3.toInt = O2.toInt + y14_179_46.toInt * 2097152 := by omega
  clear o3 f3 e3
  have n4 := own_7 ((nar .byte x318_603) &&& (255 : Int32))
  rw [b4] at n4
  generalize ((((nar .byte x318_603) &&& (255 : Int32)) &&& (127 : Int32)).toInt64) = A4 at *
  have s4 := c_lshl A4 (28 : Int32) 28 (by decide)
  generalize (A4 <<< ((28 : Int32) &&& 0x3f).toInt64) = S4 at *
  have q4 := rng64 S4
  have e4 : S4.toInt = y15_185_48.toInt * 268435456 := by omega
  clear s4 q4 n4 b4
  have o4 := c_orL' O3 S4 28 (by decide) 268435456 rfl (by omega) (by first | decide | omega) (by first | decide | omega)
  generalize (O3 ||| S4) = O4 at *
  have f4 := rng64 O4
  have d4 : O4.toInt = O3.toInt + y15_185_48.toInt * 268435456 := by omega
  clear o4 f4 e4
  rw [Int64.lt_iff_toInt_lt]
  simp only [Int64.reduceToInt]
  omega
theorem own_0_hc364_630 (p1 : Int32) (y11_152_40 : Int32) (x209_591 : Int32) (y12_161_42 : Int32) (x240_594 : Int32) (y13_170_44 : Int32) (x271_597 : Int32) (y14_179_46 : Int32) (x302_600 : Int32) (y15_185_48 : Int32) (x318_603 : Int32) (r358_629 : Int64) (y16_325_606 : Int64) (hy11_152_40 : y11_152_40 = (p1 &&& (127 : Int32))) (hx209_591 : x209_591 = ((y11_152_40 ||| (128 : Int32)).toInt8.toInt32)) (hy12_161_42 : y12_161_42 = (((p1.toUInt32 >>> ((7 : Int32) &&& 31).toUInt32).toInt32) &&& (127 : Int32))) (hx240_594 : x240_594 = ((y12_161_42 ||| (128 : Int32)).toInt8.toInt32)) (hy13_170_44 : y13_170_44 = (((p1.toUInt32 >>> ((14 : Int32) &&& 31).toUInt32).toInt32) &&& (127 : Int32))) (hx271_597 : x271_597 = ((y13_170_44 ||| (128 : Int32)).toInt8.toInt32)) (hy14_179_46 : y14_179_46 = (((p1.toUInt32 >>> ((21 : Int32) &&& 31).toUInt32).toInt32) &&& (127 : Int32))) (hx302_600 : x302_600 = ((y14_179_46 ||| (128 : Int32)).toInt8.toInt32)) (hy15_185_48 : y15_185_48 = ((p1.toUInt32 >>> ((28 : Int32) &&& 31).toUInt32).toInt32)) (hx318_603 : x318_603 = (y15_185_48.toInt8.toInt32)) (hr358_629 : r358_629 = (((((((((((0 : Int64) ||| ((((((nar .byte x209_591) &&& (255 : Int32))) &&& (127 : Int32)).toInt64) <<< ((0 : Int32) &&& 0x3f).toInt64))) ||| ((((((nar .byte x240_594) &&& (255 : Int32))) &&& (127 : Int32)).toInt64) <<< ((7 : Int32) &&& 0x3f).toInt64))) ||| ((((((nar .byte x271_597) &&& (255 : Int32))) &&& (127 : Int32)).toInt64) <<< ((14 : Int32) &&& 0x3f).toInt64))) ||| ((((((nar .byte x302_600) &&& (255 : Int32))) &&& (127 : Int32)).toInt64) <<< ((21 : Int32) &&& 0x3f).toInt64))) ||| ((((((nar .byte x318_603) &&& (255 : Int32))) &&& (127 : Int32)).toInt64) <<< ((28 : Int32) &&& 0x3f).toInt64)))) (hy16_325_606 : y16_325_606 = ((p1.toInt64) &&& (4294967295 : Int64)))  : r358_629 = y16_325_606 := by
  have g0 := own_g0 p1 y11_152_40 hy11_152_40
  have b0 := own_hi y11_152_40 x209_591 (by omega) hx209_591
  have g1 : y12_161_42.toInt = ((p1.toInt % 4294967296) / 128) % 128 := own_g p1 y12_161_42 (7 : Int32) 7 (by decide) (by decide) hy12_161_42
  have b1 := own_hi y12_161_42 x240_594 (by omega) hx240_594
  have g2 : y13_170_44.toInt = ((p1.toInt % 4294967296) / 16384) % 128 := own_g p1 y13_170_44 (14 : Int32) 14 (by decide) (by decide) hy13_170_44
  have b2 := own_hi y13_170_44 x271_597 (by omega) hx271_597
  have g3 : y14_179_46.toInt = ((p1.toInt % 4294967296) / 2097152) % 128 := own_g p1 y14_179_46 (21 : Int32) 21 (by decide) (by decide) hy14_179_46
  have b3 := own_hi y14_179_46 x302_600 (by omega) hx302_600
  have g4 : y15_185_48.toInt = (p1.toInt % 4294967296) / 268435456 := by rw [hy15_185_48]; exact c_iushr p1 (28 : Int32) 28 (by decide) (by decide)
  have b4 := own_lo y15_185_48 x318_603 (by omega) hx318_603
  have n0 := own_7 ((nar .byte x209_591) &&& (255 : Int32))
  rw [b0] at n0
  generalize ((((nar .byte x209_591) &&& (255 : Int32)) &&& (127 : Int32)).toInt64) = A0 at *
  have s0 := c_lshl A0 (0 : Int32) 0 (by decide)
  generalize (A0 <<< ((0 : Int32) &&& 0x3f).toInt64) = S0 at *
  have q0 := rng64 S0
  have e0 : S0.toInt = y11_152_40.toInt * 1 := by omega
  clear s0 q0 n0 b0
  have o0 := c_orL' (0 : Int64) S0 0 (by decide) 1 rfl (by omega) (by first | decide | omega) (by first | decide | omega)
  generalize ((0 : Int64) ||| S0) = O0 at *
  have f0 := rng64 O0
  have d0 : O0.toInt = y11_152_40.toInt := by simp only [Int64.reduceToInt] at o0; omega
  clear o0 f0 e0
  have n1 := own_7 ((nar .byte x240_594) &&& (255 : Int32))
  rw [b1] at n1
  generalize ((((nar .byte x240_594) &&& (255 : Int32)) &&& (127 : Int32)).toInt64) = A1 at *
  have s1 := c_lshl A1 (7 : Int32) 7 (by decide)
  generalize (A1 <<< ((7 : Int32) &&& 0x3f).toInt64) = S1 at *
  have q1 := rng64 S1
  have e1 : S1.toInt = y12_161_42.toInt * 128 := by omega
  clear s1 q1 n1 b1
  have o1 := c_orL' O0 S1 7 (by decide) 128 rfl (by omega) (by first | decide | omega) (by first | decide | omega)
  generalize (O0 ||| S1) = O1 at *
  have f1 := rng64 O1
  have d1 : O1.toInt = O0.toInt + y12_161_42.toInt * 128 := by omega
  clear o1 f1 e1
  have n2 := own_7 ((nar .byte x271_597) &&& (255 : Int32))
  rw [b2] at n2
  generalize ((((nar .byte x271_597) &&& (255 : Int32)) &&& (127 : Int32)).toInt64) = A2 at *
  have s2 := c_lshl A2 (14 : Int32) 14 (by decide)
  generalize (A2 <<< ((14 : Int32) &&& 0x3f).toInt64) = S2 at *
  have q2 := rng64 S2
  have e2 : S2.toInt = y13_170_44.toInt * 16384 := by omega
  clear s2 q2 n2 b2
  have o2 := c_orL' O1 S2 14 (by decide) 16384 rfl (by omega) (by first | decide | omega) (by first | decide | omega)
  generalize (O1 ||| S2) = O2 at *
  have f2 := rng64 O2
  have d2 : O2.toInt = O1.toInt + y13_170_44.toInt * 16384 := by omega
  clear o2 f2 e2
  have n3 := own_7 ((nar .byte x302_600) &&& (255 : Int32))
  rw [b3] at n3
  generalize ((((nar .byte x302_600) &&& (255 : Int32)) &&& (127 : Int32)).toInt64) = A3 at *
  have s3 := c_lshl A3 (21 : Int32) 21 (by decide)
  generalize (A3 <<< ((21 : Int32) &&& 0x3f).toInt64) = S3 at *
  have q3 := rng64 S3
  have e3 : S3.toInt = y14_179_46.toInt * 2097152 := by omega
  clear s3 q3 n3 b3
  have o3 := c_orL' O2 S3 21 (by decide) 2097152 rfl (by omega) (by first | decide | omega) (by first | decide | omega)
  generalize (O2 ||| S3) = O3 at *
  have f3 := rng64 O3
  have d3 : O3.toInt = O2.toInt + y14_179_46.toInt * 2097152 := by omega
  clear o3 f3 e3
  have n4 := own_7 ((nar .byte x318_603) &&& (255 : Int32))
  rw [b4] at n4
  generalize ((((nar .byte x318_603) &&& (255 : Int32)) &&& (127 : Int32)).toInt64) = A4 at *
  have s4 := c_lshl A4 (28 : Int32) 28 (by decide)
  generalize (A4 <<< ((28 : Int32) &&& 0x3f).toInt64) = S4 at *
  have q4 := rng64 S4
  have e4 : S4.toInt = y15_185_48.toInt * 268435456 := by omega
  clear s4 q4 n4 b4
  have o4 := c_orL' O3 S4 28 (by decide) 268435456 rfl (by omega) (by first | decide | omega) (by first | decide | omega)
  generalize (O3 ||| S4) = O4 at *
  have f4 := rng64 O4
  have d4 : O4.toInt = O3.toInt + y15_185_48.toInt * 268435456 := by omega
  clear o4 f4 e4
  have u2 : y16_325_606.toInt = p1.toInt % 4294967296 := by rw [hy16_325_606, ← c_i2l p1]; exact c_maskL p1.toInt64 (4294967295 : Int64) 32 (by decide) (by decide)
  rw [← Int64.toInt_inj, hr358_629]
  omega
def Q0 (Z : State) (p1 : Int32) (p2 : Int32) (p3 : Int32) (p4 : Int32) (q5 : Int64) (p6 : Int32) (h0 : Heap) (n0 : Nat) (v : Option Value) (h : Heap) (L : List Loc) : Prop := v = some (.int (1 : Int32)) ∧ Fr n0 L
set_option maxRecDepth 65536 in
set_option maxHeartbeats 40000000 in
theorem rm0 (l : Launch) (Z : State) (a0 : Array Value) (hw : ∀ d ∈ tables_1, d.before a0 Z = true) (ws : List Jvm.Cond) (p1 : Int32) (p2 : Int32) (p3 : Int32) (p4 : Int32) (q5 : Int64) (p6 : Int32) (h0 : Heap) (n0 : Nat) (Z0 : n0 ≤ h0.size) :
    MetFree l x (head1 (Jvm.Cond.code x code maxLocals ret :: ws) room_1) (fun a U => a = #[(.int p1), (.int p2), (.int p3), (.int p4), (.long q5), (.int p6)] ∧ Z.Warmed39 U.vm ∧ U.heap = h0) (fun _ _ _ _ _ => True) (fun _ U o U' => ∃ v L, o = .returned v ∧ Q0 Z p1 p2 p3 p4 q5 p6 h0 n0 v U'.heap L ∧ FrameEnd U o U' L room_1.cells room_1.slots) := by
  refine MetFree.of_bodySF (plainFor_of_name pn_0) hisR ?_
  intro p e s m args below meth c s₁ Bd hml0 hP hK
  obtain ⟨rfl, hZ, hh⟩ := hP
  have hx := Bd.exec
  have hby := Bd.bytes
  have hml : c.maxLocals = 20 := hml0
  have hown : s.vm.findClass "com/example/requeue/requeue/connection/SnappyBlockUncompressedLengthPinLaw" = some m.cls := findClass_of_methodNamed Bd.named
  have hnm := (name_of_methodNamed Bd.named Bd.method).1
  have X0 : Stand p l e room_1 s m #[(.int p1), (.int p2), (.int p3), (.int p4), (.long q5), (.int p6)] below meth c s₁ [] 0 0 := Stand.of_body Bd
  have e0 : s₁.heap = h0 := by rw [← hh, Bd.state]; rfl
  have N0 := Fr.nil n0
  refine (show Gl p e below (fun o U' => ∃ v L, o = .returned v ∧ Q0 Z p1 p2 p3 p4 q5 p6 h0 n0 v U'.heap L ∧ FrameEnd s o U' L room_1.cells room_1.slots) (s₁.setTop (entryFrame m #[(.int p1), (.int p2), (.int p3), (.int p4), (.long q5), (.int p6)] maxLocals)) from ?_)
  obtain ⟨L0, hL0⟩ : ∃ z : Array Slot, z = #[.val (.int p1), .val (.int p2), .val (.int p3), .val (.int p4), .val (.long q5), .second, .val (.int p6), .unset, .unset, .unset, .unset, .unset, .unset, .unset, .unset, .unset, .unset, .unset, .unset, .unset] := ⟨_, rfl⟩
  refine Gl.st (B := (s₁.setTop (mkF m 0 L0 []))) (fun t k => castTop (efAt hL0 (ef_0 m p1 p2 p3 p4 q5 p6)) k) ?_
  refine Gl.st (B := (s₁.setTop (mkF m 7 L0 [(.int ((p2 &&& (2147483647 : Int32)) % (5 : Int32))), (.int (1 : Int32))]))) (fun t k => XS.iconst X0.here hx rfl (hb hby at_0) (XS.iloadN X0.here hx rfl (hb hby at_1) (ldAt hL0 rfl) (X0.ldcInt hx hown (mvT hZ (tw hw 0 rfl)) (g := (mkF m 2 L0 [(.int p2), (.int (1 : Int32))])) rfl (hb hby at_2) _ (XS.iand X0.here hx rfl (hb hby at_4) rfl (XS.iconst X0.here hx rfl (hb hby at_5) (iremM X0 hx rfl (hb hby at_6) rfl (by decide) k)))))) ?_
  refine Gl.st (B := (s₁.setTop (mkF m 8 L0 [(.int ((1 : Int32) + ((p2 &&& (2147483647 : Int32)) % (5 : Int32))))]))) (fun t k => XS.iadd X0.here hx rfl (hb hby at_7) rfl k) ?_
  obtain ⟨y7_8_1, hy7_8_1⟩ : ∃ z : Int32, z = ((1 : Int32) + ((p2 &&& (2147483647 : Int32)) % (5 : Int32))) := ⟨_, rfl⟩
  refine Gl.cast (B := (s₁.setTop (mkF m 8 L0 [(.int y7_8_1)]))) (by rw [hy7_8_1]) ?_
  obtain ⟨L2, hL2⟩ : ∃ z : Array Slot, z = #[.val (.int p1), .val (.int p2), .val (.int p3), .val (.int p4), .val (.long q5), .second, .val (.int p6), .val (.int y7_8_1), .unset, .unset, .unset, .unset, .unset, .unset, .unset, .unset, .unset, .unset, .unset, .unset] := ⟨_, rfl⟩
  refine Gl.st (B := (s₁.setTop (mkF m 16 L2 [(.int ((p3 &&& (2147483647 : Int32)) % (4 : Int32)))]))) (fun t k => XS.istore X0.here hx rfl (hb hby at_8) rfl (l' := L2) (stAt hL0 hL2 rfl rfl) (XS.iloadN X0.here hx rfl (hb hby at_10) (ldAt hL2 rfl) (X0.ldcInt hx hown (mvT hZ (tw hw 0 rfl)) (g := (mkF m 11 L2 [(.int p3)])) rfl (hb hby at_11) _ (XS.iand X0.here hx rfl (hb hby at_13) rfl (XS.iconst X0.here hx rfl (hb hby at_14) (iremM X0 hx rfl (hb hby at_15) rfl (by decide) k)))))) ?_
  obtain ⟨y8_16_3, hy8_16_3⟩ : ∃ z : Int32, z = ((p3 &&& (2147483647 : Int32)) % (4 : Int32)) := ⟨_, rfl⟩
  refine Gl.cast (B := (s₁.setTop (mkF m 16 L2 [(.int y8_16_3)]))) (by rw [hy8_16_3]) ?_
  obtain ⟨L4, hL4⟩ : ∃ z : Array Slot, z = #[.val (.int p1), .val (.int p2), .val (.int p3), .val (.int p4), .val (.long q5), .second, .val (.int p6), .val (.int y7_8_1), .val (.int y8_16_3), .unset, .unset, .unset, .unset, .unset, .unset, .unset, .unset, .unset, .unset, .unset] := ⟨_, rfl⟩
  refine Gl.st (B := (s₁.setTop (mkF m 26 L4 [(.int (11 : Int32)), (.int (p4 &&& (2147483647 : Int32))), (.int y7_8_1)]))) (fun t k => XS.istore X0.here hx rfl (hb hby at_16) rfl (l' := L4) (stAt hL2 hL4 rfl rfl) (XS.iload X0.here hx rfl (hb hby at_18) (ldAt hL4 rfl) (XS.iloadN X0.here hx rfl (hb hby at_20) (ldAt hL4 rfl) (X0.ldcInt hx hown (mvT hZ (tw hw 0 rfl)) (g := (mkF m 21 L4 [(.int p4), (.int y7_8_1)])) rfl (hb hby at_21) _ (XS.iand X0.here hx rfl (hb hby at_23) rfl (XS.bipush X0.here hx rfl (hb hby at_24) k)))))) ?_
  refine Gl.st (B := (s₁.setTop (mkF m 32 L4 [(.int (((11 : Int32) - y8_16_3) - y7_8_1)), (.int (p4 &&& (2147483647 : Int32))), (.int y7_8_1)]))) (fun t k => XS.iload X0.here hx rfl (hb hby at_26) (ldAt hL4 rfl) (XS.isub X0.here hx rfl (hb hby at_28) rfl (XS.iload X0.here hx rfl (hb hby at_29) (ldAt hL4 rfl) (XS.isub X0.here hx rfl (hb hby at_31) rfl k)))) ?_
  have nz32 : (((11 : Int32) - y8_16_3) - y7_8_1) ≠ (0 : Int32) := own_0_nz32 p3 y8_16_3 p2 y7_8_1 hy8_16_3 hy7_8_1 
  refine Gl.st (B := (s₁.setTop (mkF m 34 L4 [(.int (y7_8_1 + ((p4 &&& (2147483647 : Int32)) % (((11 : Int32) - y8_16_3) - y7_8_1))))]))) (fun t k => iremM X0 hx rfl (hb hby at_32) rfl nz32 (XS.iadd X0.here hx rfl (hb hby at_33) rfl k)) ?_
  obtain ⟨y9_34_5, hy9_34_5⟩ : ∃ z : Int32, z = (y7_8_1 + ((p4 &&& (2147483647 : Int32)) % (((11 : Int32) - y8_16_3) - y7_8_1))) := ⟨_, rfl⟩
  refine Gl.cast (B := (s₁.setTop (mkF m 34 L4 [(.int y9_34_5)]))) (by rw [hy9_34_5]) ?_
  obtain ⟨L6, hL6⟩ : ∃ z : Array Slot, z = #[.val (.int p1), .val (.int p2), .val (.int p3), .val (.int p4), .val (.long q5), .second, .val (.int p6), .val (.int y7_8_1), .val (.int y8_16_3), .val (.int y9_34_5), .unset, .unset, .unset, .unset, .unset, .unset, .unset, .unset, .unset, .unset] := ⟨_, rfl⟩
  refine Gl.st (B := (s₁.setTop (mkF m 38 L6 [(.int (10 : Int32))]))) (fun t k => XS.istore X0.here hx rfl (hb hby at_34) rfl (l' := L6) (stAt hL4 hL6 rfl rfl) (XS.bipush X0.here hx rfl (hb hby at_36) k)) ?_
  obtain ⟨T7, h7, k7, X7, e7, E7, A7, Ex7, st7⟩ := newPE X0 hx hZ (tw hw 1 rfl) e0 (g := (mkF m 38 L6 [(.int (10 : Int32))])) rfl (hb hby at_38) rfl (by decide) (cap := 10) (by decide) (by decide) (by decide) (by decide) (ad := "[B") rfl
  obtain ⟨b7, gq7⟩ : ∃ z, z = h0.size := ⟨_, rfl⟩
  rw [← gq7] at A7 Ex7 st7
  have V7 : Arv Z h7 b7 k7 .byte (10 : Int32) [(.int (0 : Int32)), (.int (0 : Int32)), (.int (0 : Int32)), (.int (0 : Int32)), (.int (0 : Int32)), (.int (0 : Int32)), (.int (0 : Int32)), (.int (0 : Int32)), (.int (0 : Int32)), (.int (0 : Int32))] (.int (0 : Int32)) := (Arv.new A7 (by decide)).pad (pad_rep [] (.int (0 : Int32)) 10)
  have g_b7 : n0 ≤ b7 := Nat.le_trans Z0 (Nat.le_of_eq gq7.symm)
  have lt_b7 := V7.lt
  have Zc8 : n0 ≤ h7.size := Nat.le_trans Z0 E7.1
  refine Gl.st (B := (T7.setTop (mkF m 40 L6 [(.ref b7)]))) st7 ?_
  obtain ⟨L9, hL9⟩ : ∃ z : Array Slot, z = #[.val (.int p1), .val (.int p2), .val (.int p3), .val (.int p4), .val (.long q5), .second, .val (.int p6), .val (.int y7_8_1), .val (.int y8_16_3), .val (.int y9_34_5), .val (.ref b7), .unset, .unset, .unset, .unset, .unset, .unset, .unset, .unset, .unset] := ⟨_, rfl⟩
  refine Gl.st (B := (T7.setTop (mkF m 49 L9 [(.int ((q5.toInt32).toInt8.toInt32)), (.int (0 : Int32)), (.ref b7)]))) (fun t k => XS.astore X7.here hx rfl (hb hby at_40) rfl rfl (l' := L9) (stAt hL6 hL9 rfl rfl) (XS.aload X7.here hx rfl (hb hby at_42) (ldAt hL9 rfl) rfl (XS.iconst X7.here hx rfl (hb hby at_44) (XS.lload X7.here hx rfl (hb hby at_45) (ldAt hL9 rfl) (XS.l2i X7.here hx rfl (hb hby at_47) rfl (XS.i2b X7.here hx rfl (hb hby at_48) rfl k)))))) ?_
  obtain ⟨x49_10, hx49_10⟩ : ∃ z : Int32, z = ((q5.toInt32).toInt8.toInt32) := ⟨_, rfl⟩
  refine Gl.cast (B := (T7.setTop (mkF m 49 L9 [(.int x49_10), (.int (0 : Int32)), (.ref b7)]))) (by rw [hx49_10]) ?_
  obtain ⟨cl11, Ar11, q11, S11, P11, H11, G11⟩ := (id V7)
  have hin49_11 : ¬ ((0 : Int32) < 0 ∨ cl11.slots.size ≤ ((0 : Int32)).toNatClampNeg) := inb_of S11 ⟨by decide, by decide⟩
  obtain ⟨T11, h11, X11, e11, W11, st11⟩ := stB X7 hx hZ e7 Ar11 (j := (0 : Int32)) hin49_11 (g := (mkF m 49 L9 [(.int x49_10), (.int (0 : Int32)), (.ref b7)])) rfl rfl (hb hby at_49)
  have V11 : Arv Z h11 b7 k7 .byte (10 : Int32) [(.int (nar .byte x49_10)), (.int (0 : Int32)), (.int (0 : Int32)), (.int (0 : Int32)), (.int (0 : Int32)), (.int (0 : Int32)), (.int (0 : Int32)), (.int (0 : Int32)), (.int (0 : Int32)), (.int (0 : Int32))] (.int (0 : Int32)) := Arv.set Ar11 q11 S11 P11 H11 G11 (fits_nar_byte _) W11 0 rfl (Nat.le_of_ble_eq_true rfl)
  have Zc12 : n0 ≤ h11.size := Nat.le_trans Zc8 (Nat.le_of_eq W11.size.symm)
  have N11 := Fr.snoc X11 N0 g_b7
  refine Gl.st (B := (T11.setTop (mkF m 50 L9 []))) st11 ?_
  refine Gl.st (B := (T11.setTop (mkF m 59 L9 [(.int (((q5.toUInt64 >>> ((8 : Int32) &&& 0x3f).toInt64.toUInt64).toInt64).toInt32)), (.int (1 : Int32)), (.ref b7)]))) (fun t k => XS.aload X11.here hx rfl (hb hby at_50) (ldAt hL9 rfl) rfl (XS.iconst X11.here hx rfl (hb hby at_52) (XS.lload X11.here hx rfl (hb hby at_53) (ldAt hL9 rfl) (XS.bipush X11.here hx rfl (hb hby at_55) (XS.lushr X11.here hx rfl (hb hby at_57) rfl (XS.l2i X11.here hx rfl (hb hby at_58) rfl k)))))) ?_
  refine Gl.st (B := (T11.setTop (mkF m 60 L9 [(.int ((((q5.toUInt64 >>> ((8 : Int32) &&& 0x3f).toInt64.toUInt64).toInt64).toInt32).toInt8.toInt32)), (.int (1 : Int32)), (.ref b7)]))) (fun t k => XS.i2b X11.here hx rfl (hb hby at_59) rfl k) ?_
  obtain ⟨x60_13, hx60_13⟩ : ∃ z : Int32, z = ((((q5.toUInt64 >>> ((8 : Int32) &&& 0x3f).toInt64.toUInt64).toInt64).toInt32).toInt8.toInt32) := ⟨_, rfl⟩
  refine Gl.cast (B := (T11.setTop (mkF m 60 L9 [(.int x60_13), (.int (1 : Int32)), (.ref b7)]))) (by rw [hx60_13]) ?_
  obtain ⟨cl14, Ar14, q14, S14, P14, H14, G14⟩ := (id V11)
  have hin60_14 : ¬ ((1 : Int32) < 0 ∨ cl14.slots.size ≤ ((1 : Int32)).toNatClampNeg) := inb_of S14 ⟨by decide, by decide⟩
  obtain ⟨T14, h14, X14, e14, W14, st14⟩ := stB X11 hx hZ e11 Ar14 (j := (1 : Int32)) hin60_14 (g := (mkF m 60 L9 [(.int x60_13), (.int (1 : Int32)), (.ref b7)])) rfl rfl (hb hby at_60)
  have V14 : Arv Z h14 b7 k7 .byte (10 : Int32) [(.int (nar .byte x49_10)), (.int (nar .byte x60_13)), (.int (0 : Int32)), (.int (0 : Int32)), (.int (0 : Int32)), (.int (0 : Int32)), (.int (0 : Int32)), (.int (0 : Int32)), (.int (0 : Int32)), (.int (0 : Int32))] (.int (0 : Int32)) := Arv.set Ar14 q14 S14 P14 H14 G14 (fits_nar_byte _) W14 1 rfl (Nat.le_of_ble_eq_true rfl)
  have Zc15 : n0 ≤ h14.size := Nat.le_trans Zc12 (Nat.le_of_eq W14.size.symm)
  have N14 := Fr.snoc X14 N11 g_b7
  refine Gl.st (B := (T14.setTop (mkF m 61 L9 []))) st14 ?_
  refine Gl.st (B := (T14.setTop (mkF m 70 L9 [(.int (((q5.toUInt64 >>> ((16 : Int32) &&& 0x3f).toInt64.toUInt64).toInt64).toInt32)), (.int (2 : Int32)), (.ref b7)]))) (fun t k => XS.aload X14.here hx rfl (hb hby at_61) (ldAt hL9 rfl) rfl (XS.iconst X14.here hx rfl (hb hby at_63) (XS.lload X14.here hx rfl (hb hby at_64) (ldAt hL9 rfl) (XS.bipush X14.here hx rfl (hb hby at_66) (XS.lushr X14.here hx rfl (hb hby at_68) rfl (XS.l2i X14.here hx rfl (hb hby at_69) rfl k)))))) ?_
  refine Gl.st (B := (T14.setTop (mkF m 71 L9 [(.int ((((q5.toUInt64 >>> ((16 : Int32) &&& 0x3f).toInt64.toUInt64).toInt64).toInt32).toInt8.toInt32)), (.int (2 : Int32)), (.ref b7)]))) (fun t k => XS.i2b X14.here hx rfl (hb hby at_70) rfl k) ?_
  obtain ⟨x71_16, hx71_16⟩ : ∃ z : Int32, z = ((((q5.toUInt64 >>> ((16 : Int32) &&& 0x3f).toInt64.toUInt64).toInt64).toInt32).toInt8.toInt32) := ⟨_, rfl⟩
  refine Gl.cast (B := (T14.setTop (mkF m 71 L9 [(.int x71_16), (.int (2 : Int32)), (.ref b7)]))) (by rw [hx71_16]) ?_
  obtain ⟨cl17, Ar17, q17, S17, P17, H17, G17⟩ := (id V14)
  have hin71_17 : ¬ ((2 : Int32) < 0 ∨ cl17.slots.size ≤ ((2 : Int32)).toNatClampNeg) := inb_of S17 ⟨by decide, by decide⟩
  obtain ⟨T17, h17, X17, e17, W17, st17⟩ := stB X14 hx hZ e14 Ar17 (j := (2 : Int32)) hin71_17 (g := (mkF m 71 L9 [(.int x71_16), (.int (2 : Int32)), (.ref b7)])) rfl rfl (hb hby at_71)
  have V17 : Arv Z h17 b7 k7 .byte (10 : Int32) [(.int (nar .byte x49_10)), (.int (nar .byte x60_13)), (.int (nar .byte x71_16)), (.int (0 : Int32)), (.int (0 : Int32)), (.int (0 : Int32)), (.int (0 : Int32)), (.int (0 : Int32)), (.int (0 : Int32)), (.int (0 : Int32))] (.int (0 : Int32)) := Arv.set Ar17 q17 S17 P17 H17 G17 (fits_nar_byte _) W17 2 rfl (Nat.le_of_ble_eq_true rfl)
  have Zc18 : n0 ≤ h17.size := Nat.le_trans Zc15 (Nat.le_of_eq W17.size.symm)
  have N17 := Fr.snoc X17 N14 g_b7
  refine Gl.st (B := (T17.setTop (mkF m 72 L9 []))) st17 ?_
  refine Gl.st (B := (T17.setTop (mkF m 81 L9 [(.int (((q5.toUInt64 >>> ((24 : Int32) &&& 0x3f).toInt64.toUInt64).toInt64).toInt32)), (.int (3 : Int32)), (.ref b7)]))) (fun t k => XS.aload X17.here hx rfl (hb hby at_72) (ldAt hL9 rfl) rfl (XS.iconst X17.here hx rfl (hb hby at_74) (XS.lload X17.here hx rfl (hb hby at_75) (ldAt hL9 rfl) (XS.bipush X17.here hx rfl (hb hby at_77) (XS.lushr X17.here hx rfl (hb hby at_79) rfl (XS.l2i X17.here hx rfl (hb hby at_80) rfl k)))))) ?_
  refine Gl.st (B := (T17.setTop (mkF m 82 L9 [(.int ((((q5.toUInt64 >>> ((24 : Int32) &&& 0x3f).toInt64.toUInt64).toInt64).toInt32).toInt8.toInt32)), (.int (3 : Int32)), (.ref b7)]))) (fun t k => XS.i2b X17.here hx rfl (hb hby at_81) rfl k) ?_
  obtain ⟨x82_19, hx82_19⟩ : ∃ z : Int32, z = ((((q5.toUInt64 >>> ((24 : Int32) &&& 0x3f).toInt64.toUInt64).toInt64).toInt32).toInt8.toInt32) := ⟨_, rfl⟩
  refine Gl.cast (B := (T17.setTop (mkF m 82 L9 [(.int x82_19), (.int (3 : Int32)), (.ref b7)]))) (by rw [hx82_19]) ?_
  obtain ⟨cl20, Ar20, q20, S20, P20, H20, G20⟩ := (id V17)
  have hin82_20 : ¬ ((3 : Int32) < 0 ∨ cl20.slots.size ≤ ((3 : Int32)).toNatClampNeg) := inb_of S20 ⟨by decide, by decide⟩
  obtain ⟨T20, h20, X20, e20, W20, st20⟩ := stB X17 hx hZ e17 Ar20 (j := (3 : Int32)) hin82_20 (g := (mkF m 82 L9 [(.int x82_19), (.int (3 : Int32)), (.ref b7)])) rfl rfl (hb hby at_82)
  have V20 : Arv Z h20 b7 k7 .byte (10 : Int32) [(.int (nar .byte x49_10)), (.int (nar .byte x60_13)), (.int (nar .byte x71_16)), (.int (nar .byte x82_19)), (.int (0 : Int32)), (.int (0 : Int32)), (.int (0 : Int32)), (.int (0 : Int32)), (.int (0 : Int32)), (.int (0 : Int32))] (.int (0 : Int32)) := Arv.set Ar20 q20 S20 P20 H20 G20 (fits_nar_byte _) W20 3 rfl (Nat.le_of_ble_eq_true rfl)
  have Zc21 : n0 ≤ h20.size := Nat.le_trans Zc18 (Nat.le_of_eq W20.size.symm)
  have N20 := Fr.snoc X20 N17 g_b7
  refine Gl.st (B := (T20.setTop (mkF m 83 L9 []))) st20 ?_
  refine Gl.st (B := (T20.setTop (mkF m 92 L9 [(.int (((q5.toUInt64 >>> ((32 : Int32) &&& 0x3f).toInt64.toUInt64).toInt64).toInt32)), (.int (4 : Int32)), (.ref b7)]))) (fun t k => XS.aload X20.here hx rfl (hb hby at_83) (ldAt hL9 rfl) rfl (XS.iconst X20.here hx rfl (hb hby at_85) (XS.lload X20.here hx rfl (hb hby at_86) (ldAt hL9 rfl) (XS.bipush X20.here hx rfl (hb hby at_88) (XS.lushr X20.here hx rfl (hb hby at_90) rfl (XS.l2i X20.here hx rfl (hb hby at_91) rfl k)))))) ?_
  refine Gl.st (B := (T20.setTop (mkF m 93 L9 [(.int ((((q5.toUInt64 >>> ((32 : Int32) &&& 0x3f).toInt64.toUInt64).toInt64).toInt32).toInt8.toInt32)), (.int (4 : Int32)), (.ref b7)]))) (fun t k => XS.i2b X20.here hx rfl (hb hby at_92) rfl k) ?_
  obtain ⟨x93_22, hx93_22⟩ : ∃ z : Int32, z = ((((q5.toUInt64 >>> ((32 : Int32) &&& 0x3f).toInt64.toUInt64).toInt64).toInt32).toInt8.toInt32) := ⟨_, rfl⟩
  refine Gl.cast (B := (T20.setTop (mkF m 93 L9 [(.int x93_22), (.int (4 : Int32)), (.ref b7)]))) (by rw [hx93_22]) ?_
  obtain ⟨cl23, Ar23, q23, S23, P23, H23, G23⟩ := (id V20)
  have hin93_23 : ¬ ((4 : Int32) < 0 ∨ cl23.slots.size ≤ ((4 : Int32)).toNatClampNeg) := inb_of S23 ⟨by decide, by decide⟩
  obtain ⟨T23, h23, X23, e23, W23, st23⟩ := stB X20 hx hZ e20 Ar23 (j := (4 : Int32)) hin93_23 (g := (mkF m 93 L9 [(.int x93_22), (.int (4 : Int32)), (.ref b7)])) rfl rfl (hb hby at_93)
  have V23 : Arv Z h23 b7 k7 .byte (10 : Int32) [(.int (nar .byte x49_10)), (.int (nar .byte x60_13)), (.int (nar .byte x71_16)), (.int (nar .byte x82_19)), (.int (nar .byte x93_22)), (.int (0 : Int32)), (.int (0 : Int32)), (.int (0 : Int32)), (.int (0 : Int32)), (.int (0 : Int32))] (.int (0 : Int32)) := Arv.set Ar23 q23 S23 P23 H23 G23 (fits_nar_byte _) W23 4 rfl (Nat.le_of_ble_eq_true rfl)
  have Zc24 : n0 ≤ h23.size := Nat.le_trans Zc21 (Nat.le_of_eq W23.size.symm)
  have N23 := Fr.snoc X23 N20 g_b7
  refine Gl.st (B := (T23.setTop (mkF m 94 L9 []))) st23 ?_
  refine Gl.st (B := (T23.setTop (mkF m 103 L9 [(.int (((q5.toUInt64 >>> ((40 : Int32) &&& 0x3f).toInt64.toUInt64).toInt64).toInt32)), (.int (5 : Int32)), (.ref b7)]))) (fun t k => XS.aload X23.here hx rfl (hb hby at_94) (ldAt hL9 rfl) rfl (XS.iconst X23.here hx rfl (hb hby at_96) (XS.lload X23.here hx rfl (hb hby at_97) (ldAt hL9 rfl) (XS.bipush X23.here hx rfl (hb hby at_99) (XS.lushr X23.here hx rfl (hb hby at_101) rfl (XS.l2i X23.here hx rfl (hb hby at_102) rfl k)))))) ?_
  refine Gl.st (B := (T23.setTop (mkF m 104 L9 [(.int ((((q5.toUInt64 >>> ((40 : Int32) &&& 0x3f).toInt64.toUInt64).toInt64).toInt32).toInt8.toInt32)), (.int (5 : Int32)), (.ref b7)]))) (fun t k => XS.i2b X23.here hx rfl (hb hby at_103) rfl k) ?_
  obtain ⟨x104_25, hx104_25⟩ : ∃ z : Int32, z = ((((q5.toUInt64 >>> ((40 : Int32) &&& 0x3f).toInt64.toUInt64).toInt64).toInt32).toInt8.toInt32) := ⟨_, rfl⟩
  refine Gl.cast (B := (T23.setTop (mkF m 104 L9 [(.int x104_25), (.int (5 : Int32)), (.ref b7)]))) (by rw [hx104_25]) ?_
  obtain ⟨cl26, Ar26, q26, S26, P26, H26, G26⟩ := (id V23)
  have hin104_26 : ¬ ((5 : Int32) < 0 ∨ cl26.slots.size ≤ ((5 : Int32)).toNatClampNeg) := inb_of S26 ⟨by decide, by decide⟩
  obtain ⟨T26, h26, X26, e26, W26, st26⟩ := stB X23 hx hZ e23 Ar26 (j := (5 : Int32)) hin104_26 (g := (mkF m 104 L9 [(.int x104_25), (.int (5 : Int32)), (.ref b7)])) rfl rfl (hb hby at_104)
  have V26 : Arv Z h26 b7 k7 .byte (10 : Int32) [(.int (nar .byte x49_10)), (.int (nar .byte x60_13)), (.int (nar .byte x71_16)), (.int (nar .byte x82_19)), (.int (nar .byte x93_22)), (.int (nar .byte x104_25)), (.int (0 : Int32)), (.int (0 : Int32)), (.int (0 : Int32)), (.int (0 : Int32))] (.int (0 : Int32)) := Arv.set Ar26 q26 S26 P26 H26 G26 (fits_nar_byte _) W26 5 rfl (Nat.le_of_ble_eq_true rfl)
  have Zc27 : n0 ≤ h26.size := Nat.le_trans Zc24 (Nat.le_of_eq W26.size.symm)
  have N26 := Fr.snoc X26 N23 g_b7
  refine Gl.st (B := (T26.setTop (mkF m 105 L9 []))) st26 ?_
  refine Gl.st (B := (T26.setTop (mkF m 115 L9 [(.int (((q5.toUInt64 >>> ((48 : Int32) &&& 0x3f).toInt64.toUInt64).toInt64).toInt32)), (.int (6 : Int32)), (.ref b7)]))) (fun t k => XS.aload X26.here hx rfl (hb hby at_105) (ldAt hL9 rfl) rfl (XS.bipush X26.here hx rfl (hb hby at_107) (XS.lload X26.here hx rfl (hb hby at_109) (ldAt hL9 rfl) (XS.bipush X26.here hx rfl (hb hby at_111) (XS.lushr X26.here hx rfl (hb hby at_113) rfl (XS.l2i X26.here hx rfl (hb hby at_114) rfl k)))))) ?_
  refine Gl.st (B := (T26.setTop (mkF m 116 L9 [(.int ((((q5.toUInt64 >>> ((48 : Int32) &&& 0x3f).toInt64.toUInt64).toInt64).toInt32).toInt8.toInt32)), (.int (6 : Int32)), (.ref b7)]))) (fun t k => XS.i2b X26.here hx rfl (hb hby at_115) rfl k) ?_
  obtain ⟨x116_28, hx116_28⟩ : ∃ z : Int32, z = ((((q5.toUInt64 >>> ((48 : Int32) &&& 0x3f).toInt64.toUInt64).toInt64).toInt32).toInt8.toInt32) := ⟨_, rfl⟩
  refine Gl.cast (B := (T26.setTop (mkF m 116 L9 [(.int x116_28), (.int (6 : Int32)), (.ref b7)]))) (by rw [hx116_28]) ?_
  obtain ⟨cl29, Ar29, q29, S29, P29, H29, G29⟩ := (id V26)
  have hin116_29 : ¬ ((6 : Int32) < 0 ∨ cl29.slots.size ≤ ((6 : Int32)).toNatClampNeg) := inb_of S29 ⟨by decide, by decide⟩
  obtain ⟨T29, h29, X29, e29, W29, st29⟩ := stB X26 hx hZ e26 Ar29 (j := (6 : Int32)) hin116_29 (g := (mkF m 116 L9 [(.int x116_28), (.int (6 : Int32)), (.ref b7)])) rfl rfl (hb hby at_116)
  have V29 : Arv Z h29 b7 k7 .byte (10 : Int32) [(.int (nar .byte x49_10)), (.int (nar .byte x60_13)), (.int (nar .byte x71_16)), (.int (nar .byte x82_19)), (.int (nar .byte x93_22)), (.int (nar .byte x104_25)), (.int (nar .byte x116_28)), (.int (0 : Int32)), (.int (0 : Int32)), (.int (0 : Int32))] (.int (0 : Int32)) := Arv.set Ar29 q29 S29 P29 H29 G29 (fits_nar_byte _) W29 6 rfl (Nat.le_of_ble_eq_true rfl)
  have Zc30 : n0 ≤ h29.size := Nat.le_trans Zc27 (Nat.le_of_eq W29.size.symm)
  have N29 := Fr.snoc X29 N26 g_b7
  refine Gl.st (B := (T29.setTop (mkF m 117 L9 []))) st29 ?_
  refine Gl.st (B := (T29.setTop (mkF m 127 L9 [(.int (((q5.toUInt64 >>> ((56 : Int32) &&& 0x3f).toInt64.toUInt64).toInt64).toInt32)), (.int (7 : Int32)), (.ref b7)]))) (fun t k => XS.aload X29.here hx rfl (hb hby at_117) (ldAt hL9 rfl) rfl (XS.bipush X29.here hx rfl (hb hby at_119) (XS.lload X29.here hx rfl (hb hby at_121) (ldAt hL9 rfl) (XS.bipush X29.here hx rfl (hb hby at_123) (XS.lushr X29.here hx rfl (hb hby at_125) rfl (XS.l2i X29.here hx rfl (hb hby at_126) rfl k)))))) ?_
  refine Gl.st (B := (T29.setTop (mkF m 128 L9 [(.int ((((q5.toUInt64 >>> ((56 : Int32) &&& 0x3f).toInt64.toUInt64).toInt64).toInt32).toInt8.toInt32)), (.int (7 : Int32)), (.ref b7)]))) (fun t k => XS.i2b X29.here hx rfl (hb hby at_127) rfl k) ?_
  obtain ⟨x128_31, hx128_31⟩ : ∃ z : Int32, z = ((((q5.toUInt64 >>> ((56 : Int32) &&& 0x3f).toInt64.toUInt64).toInt64).toInt32).toInt8.toInt32) := ⟨_, rfl⟩
  refine Gl.cast (B := (T29.setTop (mkF m 128 L9 [(.int x128_31), (.int (7 : Int32)), (.ref b7)]))) (by rw [hx128_31]) ?_
  obtain ⟨cl32, Ar32, q32, S32, P32, H32, G32⟩ := (id V29)
  have hin128_32 : ¬ ((7 : Int32) < 0 ∨ cl32.slots.size ≤ ((7 : Int32)).toNatClampNeg) := inb_of S32 ⟨by decide, by decide⟩
  obtain ⟨T32, h32, X32, e32, W32, st32⟩ := stB X29 hx hZ e29 Ar32 (j := (7 : Int32)) hin128_32 (g := (mkF m 128 L9 [(.int x128_31), (.int (7 : Int32)), (.ref b7)])) rfl rfl (hb hby at_128)
  have V32 : Arv Z h32 b7 k7 .byte (10 : Int32) [(.int (nar .byte x49_10)), (.int (nar .byte x60_13)), (.int (nar .byte x71_16)), (.int (nar .byte x82_19)), (.int (nar .byte x93_22)), (.int (nar .byte x104_25)), (.int (nar .byte x116_28)), (.int (nar .byte x128_31)), (.int (0 : Int32)), (.int (0 : Int32))] (.int (0 : Int32)) := Arv.set Ar32 q32 S32 P32 H32 G32 (fits_nar_byte _) W32 7 rfl (Nat.le_of_ble_eq_true rfl)
  have Zc33 : n0 ≤ h32.size := Nat.le_trans Zc30 (Nat.le_of_eq W32.size.symm)
  have N32 := Fr.snoc X32 N29 g_b7
  refine Gl.st (B := (T32.setTop (mkF m 129 L9 []))) st32 ?_
  refine Gl.st (B := (T32.setTop (mkF m 136 L9 [(.int (p6.toInt8.toInt32)), (.int (8 : Int32)), (.ref b7)]))) (fun t k => XS.aload X32.here hx rfl (hb hby at_129) (ldAt hL9 rfl) rfl (XS.bipush X32.here hx rfl (hb hby at_131) (XS.iload X32.here hx rfl (hb hby at_133) (ldAt hL9 rfl) (XS.i2b X32.here hx rfl (hb hby at_135) rfl k)))) ?_
  obtain ⟨x136_34, hx136_34⟩ : ∃ z : Int32, z = (p6.toInt8.toInt32) := ⟨_, rfl⟩
  refine Gl.cast (B := (T32.setTop (mkF m 136 L9 [(.int x136_34), (.int (8 : Int32)), (.ref b7)]))) (by rw [hx136_34]) ?_
  obtain ⟨cl35, Ar35, q35, S35, P35, H35, G35⟩ := (id V32)
  have hin136_35 : ¬ ((8 : Int32) < 0 ∨ cl35.slots.size ≤ ((8 : Int32)).toNatClampNeg) := inb_of S35 ⟨by decide, by decide⟩
  obtain ⟨T35, h35, X35, e35, W35, st35⟩ := stB X32 hx hZ e32 Ar35 (j := (8 : Int32)) hin136_35 (g := (mkF m 136 L9 [(.int x136_34), (.int (8 : Int32)), (.ref b7)])) rfl rfl (hb hby at_136)
  have V35 : Arv Z h35 b7 k7 .byte (10 : Int32) [(.int (nar .byte x49_10)), (.int (nar .byte x60_13)), (.int (nar .byte x71_16)), (.int (nar .byte x82_19)), (.int (nar .byte x93_22)), (.int (nar .byte x104_25)), (.int (nar .byte x116_28)), (.int (nar .byte x128_31)), (.int (nar .byte x136_34)), (.int (0 : Int32))] (.int (0 : Int32)) := Arv.set Ar35 q35 S35 P35 H35 G35 (fits_nar_byte _) W35 8 rfl (Nat.le_of_ble_eq_true rfl)
  have Zc36 : n0 ≤ h35.size := Nat.le_trans Zc33 (Nat.le_of_eq W35.size.symm)
  have N35 := Fr.snoc X35 N32 g_b7
  refine Gl.st (B := (T35.setTop (mkF m 137 L9 []))) st35 ?_
  refine Gl.st (B := (T35.setTop (mkF m 147 L9 [(.int (((p6.toUInt32 >>> ((8 : Int32) &&& 31).toUInt32).toInt32).toInt8.toInt32)), (.int (9 : Int32)), (.ref b7)]))) (fun t k => XS.aload X35.here hx rfl (hb hby at_137) (ldAt hL9 rfl) rfl (XS.bipush X35.here hx rfl (hb hby at_139) (XS.iload X35.here hx rfl (hb hby at_141) (ldAt hL9 rfl) (XS.bipush X35.here hx rfl (hb hby at_143) (XS.iushr X35.here hx rfl (hb hby at_145) rfl (XS.i2b X35.here hx rfl (hb hby at_146) rfl k)))))) ?_
  obtain ⟨x147_37, hx147_37⟩ : ∃ z : Int32, z = (((p6.toUInt32 >>> ((8 : Int32) &&& 31).toUInt32).toInt32).toInt8.toInt32) := ⟨_, rfl⟩
  refine Gl.cast (B := (T35.setTop (mkF m 147 L9 [(.int x147_37), (.int (9 : Int32)), (.ref b7)]))) (by rw [hx147_37]) ?_
  obtain ⟨cl38, Ar38, q38, S38, P38, H38, G38⟩ := (id V35)
  have hin147_38 : ¬ ((9 : Int32) < 0 ∨ cl38.slots.size ≤ ((9 : Int32)).toNatClampNeg) := inb_of S38 ⟨by decide, by decide⟩
  obtain ⟨T38, h38, X38, e38, W38, st38⟩ := stB X35 hx hZ e35 Ar38 (j := (9 : Int32)) hin147_38 (g := (mkF m 147 L9 [(.int x147_37), (.int (9 : Int32)), (.ref b7)])) rfl rfl (hb hby at_147)
  have V38 : Arv Z h38 b7 k7 .byte (10 : Int32) [(.int (nar .byte x49_10)), (.int (nar .byte x60_13)), (.int (nar .byte x71_16)), (.int (nar .byte x82_19)), (.int (nar .byte x93_22)), (.int (nar .byte x104_25)), (.int (nar .byte x116_28)), (.int (nar .byte x128_31)), (.int (nar .byte x136_34)), (.int (nar .byte x147_37))] (.int (0 : Int32)) := Arv.set Ar38 q38 S38 P38 H38 G38 (fits_nar_byte _) W38 9 rfl (Nat.le_of_ble_eq_true rfl)
  have Zc39 : n0 ≤ h38.size := Nat.le_trans Zc36 (Nat.le_of_eq W38.size.symm)
  have N38 := Fr.snoc X38 N35 g_b7
  refine Gl.st (B := (T38.setTop (mkF m 148 L9 []))) st38 ?_
  refine Gl.st (B := (T38.setTop (mkF m 152 L9 [(.int (p1 &&& (127 : Int32)))]))) (fun t k => XS.iloadN X38.here hx rfl (hb hby at_148) (ldAt hL9 rfl) (XS.bipush X38.here hx rfl (hb hby at_149) (XS.iand X38.here hx rfl (hb hby at_151) rfl k))) ?_
  obtain ⟨y11_152_40, hy11_152_40⟩ : ∃ z : Int32, z = (p1 &&& (127 : Int32)) := ⟨_, rfl⟩
  refine Gl.cast (B := (T38.setTop (mkF m 152 L9 [(.int y11_152_40)]))) (by rw [hy11_152_40]) ?_
  obtain ⟨L41, hL41⟩ : ∃ z : Array Slot, z = #[.val (.int p1), .val (.int p2), .val (.int p3), .val (.int p4), .val (.long q5), .second, .val (.int p6), .val (.int y7_8_1), .val (.int y8_16_3), .val (.int y9_34_5), .val (.ref b7), .val (.int y11_152_40), .unset, .unset, .unset, .unset, .unset, .unset, .unset, .unset] := ⟨_, rfl⟩
  refine Gl.st (B := (T38.setTop (mkF m 161 L41 [(.int (((p1.toUInt32 >>> ((7 : Int32) &&& 31).toUInt32).toInt32) &&& (127 : Int32)))]))) (fun t k => XS.istore X38.here hx rfl (hb hby at_152) rfl (l' := L41) (stAt hL9 hL41 rfl rfl) (XS.iloadN X38.here hx rfl (hb hby at_154) (ldAt hL41 rfl) (XS.bipush X38.here hx rfl (hb hby at_155) (XS.iushr X38.here hx rfl (hb hby at_157) rfl (XS.bipush X38.here hx rfl (hb hby at_158) (XS.iand X38.here hx rfl (hb hby at_160) rfl k)))))) ?_
  obtain ⟨y12_161_42, hy12_161_42⟩ : ∃ z : Int32, z = (((p1.toUInt32 >>> ((7 : Int32) &&& 31).toUInt32).toInt32) &&& (127 : Int32)) := ⟨_, rfl⟩
  refine Gl.cast (B := (T38.setTop (mkF m 161 L41 [(.int y12_161_42)]))) (by rw [hy12_161_42]) ?_
  obtain ⟨L43, hL43⟩ : ∃ z : Array Slot, z = #[.val (.int p1), .val (.int p2), .val (.int p3), .val (.int p4), .val (.long q5), .second, .val (.int p6), .val (.int y7_8_1), .val (.int y8_16_3), .val (.int y9_34_5), .val (.ref b7), .val (.int y11_152_40), .val (.int y12_161_42), .unset, .unset, .unset, .unset, .unset, .unset, .unset] := ⟨_, rfl⟩
  refine Gl.st (B := (T38.setTop (mkF m 170 L43 [(.int (((p1.toUInt32 >>> ((14 : Int32) &&& 31).toUInt32).toInt32) &&& (127 : Int32)))]))) (fun t k => XS.istore X38.here hx rfl (hb hby at_161) rfl (l' := L43) (stAt hL41 hL43 rfl rfl) (XS.iloadN X38.here hx rfl (hb hby at_163) (ldAt hL43 rfl) (XS.bipush X38.here hx rfl (hb hby at_164) (XS.iushr X38.here hx rfl (hb hby at_166) rfl (XS.bipush X38.here hx rfl (hb hby at_167) (XS.iand X38.here hx rfl (hb hby at_169) rfl k)))))) ?_
  obtain ⟨y13_170_44, hy13_170_44⟩ : ∃ z : Int32, z = (((p1.toUInt32 >>> ((14 : Int32) &&& 31).toUInt32).toInt32) &&& (127 : Int32)) := ⟨_, rfl⟩
  refine Gl.cast (B := (T38.setTop (mkF m 170 L43 [(.int y13_170_44)]))) (by rw [hy13_170_44]) ?_
  obtain ⟨L45, hL45⟩ : ∃ z : Array Slot, z = #[.val (.int p1), .val (.int p2), .val (.int p3), .val (.int p4), .val (.long q5), .second, .val (.int p6), .val (.int y7_8_1), .val (.int y8_16_3), .val (.int y9_34_5), .val (.ref b7), .val (.int y11_152_40), .val (.int y12_161_42), .val (.int y13_170_44), .unset, .unset, .unset, .unset, .unset, .unset] := ⟨_, rfl⟩
  refine Gl.st (B := (T38.setTop (mkF m 179 L45 [(.int (((p1.toUInt32 >>> ((21 : Int32) &&& 31).toUInt32).toInt32) &&& (127 : Int32)))]))) (fun t k => XS.istore X38.here hx rfl (hb hby at_170) rfl (l' := L45) (stAt hL43 hL45 rfl rfl) (XS.iloadN X38.here hx rfl (hb hby at_172) (ldAt hL45 rfl) (XS.bipush X38.here hx rfl (hb hby at_173) (XS.iushr X38.here hx rfl (hb hby at_175) rfl (XS.bipush X38.here hx rfl (hb hby at_176) (XS.iand X38.here hx rfl (hb hby at_178) rfl k)))))) ?_
  obtain ⟨y14_179_46, hy14_179_46⟩ : ∃ z : Int32, z = (((p1.toUInt32 >>> ((21 : Int32) &&& 31).toUInt32).toInt32) &&& (127 : Int32)) := ⟨_, rfl⟩
  refine Gl.cast (B := (T38.setTop (mkF m 179 L45 [(.int y14_179_46)]))) (by rw [hy14_179_46]) ?_
  obtain ⟨L47, hL47⟩ : ∃ z : Array Slot, z = #[.val (.int p1), .val (.int p2), .val (.int p3), .val (.int p4), .val (.long q5), .second, .val (.int p6), .val (.int y7_8_1), .val (.int y8_16_3), .val (.int y9_34_5), .val (.ref b7), .val (.int y11_152_40), .val (.int y12_161_42), .val (.int y13_170_44), .val (.int y14_179_46), .unset, .unset, .unset, .unset, .unset] := ⟨_, rfl⟩
  refine Gl.st (B := (T38.setTop (mkF m 185 L47 [(.int ((p1.toUInt32 >>> ((28 : Int32) &&& 31).toUInt32).toInt32))]))) (fun t k => XS.istore X38.here hx rfl (hb hby at_179) rfl (l' := L47) (stAt hL45 hL47 rfl rfl) (XS.iloadN X38.here hx rfl (hb hby at_181) (ldAt hL47 rfl) (XS.bipush X38.here hx rfl (hb hby at_182) (XS.iushr X38.here hx rfl (hb hby at_184) rfl k)))) ?_
  obtain ⟨y15_185_48, hy15_185_48⟩ : ∃ z : Int32, z = ((p1.toUInt32 >>> ((28 : Int32) &&& 31).toUInt32).toInt32) := ⟨_, rfl⟩
  refine Gl.cast (B := (T38.setTop (mkF m 185 L47 [(.int y15_185_48)]))) (by rw [hy15_185_48]) ?_
  obtain ⟨L49, hL49⟩ : ∃ z : Array Slot, z = #[.val (.int p1), .val (.int p2), .val (.int p3), .val (.int p4), .val (.long q5), .second, .val (.int p6), .val (.int y7_8_1), .val (.int y8_16_3), .val (.int y9_34_5), .val (.ref b7), .val (.int y11_152_40), .val (.int y12_161_42), .val (.int y13_170_44), .val (.int y14_179_46), .val (.int y15_185_48), .unset, .unset, .unset, .unset] := ⟨_, rfl⟩
  refine Gl.st (B := (T38.setTop (mkF m 187 L49 []))) (fun t k => XS.istore X38.here hx rfl (hb hby at_185) rfl (l' := L49) (stAt hL47 hL49 rfl rfl) k) ?_
  have hs50 : y8_16_3 = (0 : Int32) ∨ y8_16_3 = (1 : Int32) ∨ y8_16_3 = (2 : Int32) ∨ y8_16_3 = (3 : Int32) := by
    exact own_off _ _ hy8_16_3
  rcases hs50 with hk | hk | hk | hk
  · skip
    subst hk
    have hs51 : y7_8_1 = (1 : Int32) ∨ y7_8_1 = (2 : Int32) ∨ y7_8_1 = (3 : Int32) ∨ y7_8_1 = (4 : Int32) ∨ y7_8_1 = (5 : Int32) := by
      exact own_k _ _ hy7_8_1
    rcases hs51 with hk | hk | hk | hk | hk
    · skip
      subst hk
      refine Gl.st (B := (T38.setTop (mkF m 208 L49 [(.int y11_152_40), (.int (0 : Int32)), (.ref b7)]))) (fun t k => XS.aload X38.here hx rfl (hb hby at_187) (ldAt hL49 rfl) rfl (XS.iload X38.here hx rfl (hb hby at_189) (ldAt hL49 rfl) (XS.iload X38.here hx rfl (hb hby at_191) (ldAt hL49 rfl) (XS.iconst X38.here hx rfl (hb hby at_193) (XS.icmpYes X38.here hx rfl (pc0 := 194) (pc' := 206) rfl (hb hby at_194) rfl (by decide) (by decide) (by decide) (XS.iload X38.here hx rfl (hb hby at_206) (ldAt hL49 rfl) k)))))) ?_
      refine Gl.st (B := (T38.setTop (mkF m 209 L49 [(.int (y11_152_40.toInt8.toInt32)), (.int (0 : Int32)), (.ref b7)]))) (fun t k => XS.i2b X38.here hx rfl (hb hby at_208) rfl k) ?_
      obtain ⟨x209_52, hx209_52⟩ : ∃ z : Int32, z = (y11_152_40.toInt8.toInt32) := ⟨_, rfl⟩
      refine Gl.cast (B := (T38.setTop (mkF m 209 L49 [(.int x209_52), (.int (0 : Int32)), (.ref b7)]))) (by rw [hx209_52]) ?_
      obtain ⟨cl53, Ar53, q53, S53, P53, H53, G53⟩ := (id V38)
      have hin209_53 : ¬ ((0 : Int32) < 0 ∨ cl53.slots.size ≤ ((0 : Int32)).toNatClampNeg) := inb_of S53 ⟨by decide, by decide⟩
      obtain ⟨T53, h53, X53, e53, W53, st53⟩ := stB X38 hx hZ e38 Ar53 (j := (0 : Int32)) hin209_53 (g := (mkF m 209 L49 [(.int x209_52), (.int (0 : Int32)), (.ref b7)])) rfl rfl (hb hby at_209)
      have V53 : Arv Z h53 b7 k7 .byte (10 : Int32) [(.int (nar .byte x209_52)), (.int (nar .byte x60_13)), (.int (nar .byte x71_16)), (.int (nar .byte x82_19)), (.int (nar .byte x93_22)), (.int (nar .byte x104_25)), (.int (nar .byte x116_28)), (.int (nar .byte x128_31)), (.int (nar .byte x136_34)), (.int (nar .byte x147_37))] (.int (0 : Int32)) := Arv.set Ar53 q53 S53 P53 H53 G53 (fits_nar_byte _) W53 0 rfl (Nat.le_of_ble_eq_true rfl)
      have Zc54 : n0 ≤ h53.size := Nat.le_trans Zc39 (Nat.le_of_eq W53.size.symm)
      have N53 := Fr.snoc X53 N38 g_b7
      refine Gl.st (B := (T53.setTop (mkF m 210 L49 []))) st53 ?_
      refine Gl.st (B := (T53.setTop (mkF m 272 L49 []))) (fun t k => XS.iload X53.here hx rfl (hb hby at_210) (ldAt hL49 rfl) (XS.iconst X53.here hx rfl (hb hby at_212) (XS.icmpYes X53.here hx rfl (pc0 := 213) (pc' := 241) rfl (hb hby at_213) rfl (by decide) (by decide) (by decide) (XS.iload X53.here hx rfl (hb hby at_241) (ldAt hL49 rfl) (XS.iconst X53.here hx rfl (hb hby at_243) (XS.icmpYes X53.here hx rfl (pc0 := 244) (pc' := 272) rfl (hb hby at_244) rfl (by decide) (by decide) (by decide) k)))))) ?_
      refine Gl.st (B := (T53.setTop (mkF m 319 L49 []))) (fun t k => XS.iload X53.here hx rfl (hb hby at_272) (ldAt hL49 rfl) (XS.iconst X53.here hx rfl (hb hby at_274) (XS.icmpYes X53.here hx rfl (pc0 := 275) (pc' := 303) rfl (hb hby at_275) rfl (by decide) (by decide) (by decide) (XS.iload X53.here hx rfl (hb hby at_303) (ldAt hL49 rfl) (XS.iconst X53.here hx rfl (hb hby at_305) (XS.icmpYes X53.here hx rfl (pc0 := 306) (pc' := 319) rfl (hb hby at_306) rfl (by decide) (by decide) (by decide) k)))))) ?_
      refine Gl.st (B := (T53.setTop (mkF m 325 L49 [(.long ((p1.toInt64) &&& (4294967295 : Int64)))]))) (fun t k => XS.iloadN X53.here hx rfl (hb hby at_319) (ldAt hL49 rfl) (XS.i2l X53.here hx rfl (hb hby at_320) rfl (X53.ldc2Long hx hown (mvT hZ (tw hw 2 rfl)) (g := (mkF m 321 L49 [(.long (p1.toInt64))])) rfl (hb hby at_321) _ (XS.land X53.here hx rfl (hb hby at_324) rfl k)))) ?_
      obtain ⟨y16_325_55, hy16_325_55⟩ : ∃ z : Int64, z = ((p1.toInt64) &&& (4294967295 : Int64)) := ⟨_, rfl⟩
      refine Gl.cast (B := (T53.setTop (mkF m 325 L49 [(.long y16_325_55)]))) (by rw [hy16_325_55]) ?_
      obtain ⟨L56, hL56⟩ : ∃ z : Array Slot, z = #[.val (.int p1), .val (.int p2), .val (.int p3), .val (.int p4), .val (.long q5), .second, .val (.int p6), .val (.int (1 : Int32)), .val (.int (0 : Int32)), .val (.int y9_34_5), .val (.ref b7), .val (.int y11_152_40), .val (.int y12_161_42), .val (.int y13_170_44), .val (.int y14_179_46), .val (.int y15_185_48), .val (.long y16_325_55), .second, .unset, .unset] := ⟨_, rfl⟩
      refine Gl.st (B := (T53.setTop (mkF m 341 L56 [(.long (1 : Int64)), (.long y16_325_55)]))) (fun t k => XS.lstore X53.here hx rfl (hb hby at_325) rfl (l' := L56) (stAt hL49 hL56 rfl rfl) (XS.iload X53.here hx rfl (hb hby at_327) (ldAt hL56 rfl) (XS.iconst X53.here hx rfl (hb hby at_329) (XS.icmpYes X53.here hx rfl (pc0 := 330) (pc' := 338) rfl (hb hby at_330) rfl (by decide) (by decide) (by decide) (XS.lload X53.here hx rfl (hb hby at_338) (ldAt hL56 rfl) (XS.lconst X53.here hx rfl (hb hby at_340) k)))))) ?_
      refine Gl.st (B := (T53.setTop (mkF m 349 L56 [(.long (((1 : Int64) <<< ((7 : Int32) &&& 0x3f).toInt64) - (1 : Int64))), (.long y16_325_55)]))) (fun t k => XS.bipush X53.here hx rfl (hb hby at_341) (XS.iload X53.here hx rfl (hb hby at_343) (ldAt hL56 rfl) (XS.imul X53.here hx rfl (hb hby at_345) rfl (XS.lshl X53.here hx rfl (hb hby at_346) rfl (XS.lconst X53.here hx rfl (hb hby at_347) (XS.lsub X53.here hx rfl (hb hby at_348) rfl k)))))) ?_
      refine Gl.st (B := (T53.setTop (mkF m 350 L56 [(.long (y16_325_55 &&& (((1 : Int64) <<< ((7 : Int32) &&& 0x3f).toInt64) - (1 : Int64))))]))) (fun t k => XS.land X53.here hx rfl (hb hby at_349) rfl k) ?_
      obtain ⟨y18_350_57, hy18_350_57⟩ : ∃ z : Int64, z = (y16_325_55 &&& (((1 : Int64) <<< ((7 : Int32) &&& 0x3f).toInt64) - (1 : Int64))) := ⟨_, rfl⟩
      refine Gl.cast (B := (T53.setTop (mkF m 350 L56 [(.long y18_350_57)]))) (by rw [hy18_350_57]) ?_
      obtain ⟨L58, hL58⟩ : ∃ z : Array Slot, z = #[.val (.int p1), .val (.int p2), .val (.int p3), .val (.int p4), .val (.long q5), .second, .val (.int p6), .val (.int (1 : Int32)), .val (.int (0 : Int32)), .val (.int y9_34_5), .val (.ref b7), .val (.int y11_152_40), .val (.int y12_161_42), .val (.int y13_170_44), .val (.int y14_179_46), .val (.int y15_185_48), .val (.long y16_325_55), .second, .val (.long y18_350_57), .second] := ⟨_, rfl⟩
      refine Gl.st (B := (T53.setTop (mkF m 358 L58 [(.int y9_34_5), (.int (0 : Int32)), (.ref b7)]))) (fun t k => XS.lstore X53.here hx rfl (hb hby at_350) rfl (l' := L58) (stAt hL56 hL58 rfl rfl) (XS.aload X53.here hx rfl (hb hby at_352) (ldAt hL58 rfl) rfl (XS.iload X53.here hx rfl (hb hby at_354) (ldAt hL58 rfl) (XS.iload X53.here hx rfl (hb hby at_356) (ldAt hL58 rfl) k)))) ?_
      obtain ⟨cl60, Ar60, q60, S60, P60, H60, G60⟩ := (id V53)
      have hin40_1_61 : ¬ (((0 : Int32) + (0 : Int32)) < 0 ∨ cl60.slots.size ≤ (((0 : Int32) + (0 : Int32))).toNatClampNeg) := inb_of S60 ⟨by decide, by decide⟩
      have hp358_62 : ¬ ((((10 : Int32) ||| (0 : Int32)) ||| y9_34_5) < (0 : Int32)) := own_0_hp358_62 p4 y9_34_5 hy9_34_5 
      have hp358_63 : ¬ (((10 : Int32) - (0 : Int32)) < y9_34_5) := own_0_hp358_63 p4 y9_34_5 hy9_34_5 
      have hp358_64 : ¬ ((0 : Int32) = y9_34_5) := own_0_hp358_64 p4 y9_34_5 hy9_34_5 
      have hp358_65 : (((nar .byte x209_52) &&& (255 : Int32))) < (128 : Int32) := own_0_hp358_65 p1 y11_152_40 x209_52 hy11_152_40 hx209_52 
      have hp358_66 : ¬ ((4294967295 : Int64) < (((0 : Int64) ||| ((((((nar .byte x209_52) &&& (255 : Int32))) &&& (127 : Int32)).toInt64) <<< ((0 : Int32) &&& 0x3f).toInt64)))) := own_0_hp358_66 p1 y11_152_40 x209_52 hy11_152_40 hx209_52 
      obtain ⟨_, _, ⟨T59, L59q, k59, n59⟩, -, X59, ⟨Lc59, hQ59, l59, y59, z59⟩, st59⟩ := Jvm.LawKit.callS X53 hx (y := (⟨"com/example/requeue/requeue/connection/SnappyBlock", "uncompressedLength", "([BII)J"⟩ : MethodName)) hown (mvT hZ (tw hw 3 rfl)) (mvT hZ (tw hw 4 rfl)) (mvT hZ (tw hw 5 rfl)) (mvT hZ (tw hw 6 rfl)) (by decide) (backOf (W := 0) (rm1k1 l Z a0 hw [] b7 (0 : Int32) y9_34_5 cl60 (nar .byte x209_52) h53 n0 Zc54 Ar60 S60 P60 hp358_62 hp358_63 hp358_64 hin40_1_61 (Has.at H60 hin40_1_61 (v := (.int (nar .byte x209_52))) rfl) hp358_65 hp358_66) hZ (tw hw 6 rfl) (tw hw 5 rfl) (by decide) (by decide)) (g := (mkF m 358 L58 [(.int y9_34_5), (.int (0 : Int32)), (.ref b7)])) rfl (szAt hml hL58 rfl) (argsL := [(.ref b7), (.int (0 : Int32)), (.int y9_34_5)]) (rest := []) (lenOf pd_0_0 rfl) rfl (by show 2 * 0 + _ ≤ _; exact Nat.le_of_eq rfl) (hb hby at_358) (fun _ _ => ⟨rfl, e53, (by decide : 1 + 0 ≤ _), (by decide : 10 + 0 ≤ _)⟩)
      dsimp only [Pt.U, Pt.locs, Pt.cells, Pt.slots] at X59 l59 y59 z59 st59 hQ59
      subst l59 y59 z59
      obtain ⟨rfl, N59q, eh59⟩ := hQ59
      have N59 := Fr.app N53 N59q
      refine Gl.st (B := (T59.setTop (mkF m 361 L58 [(.long (((0 : Int64) ||| ((((((nar .byte x209_52) &&& (255 : Int32))) &&& (127 : Int32)).toInt64) <<< ((0 : Int32) &&& 0x3f).toInt64))))]))) (fun t k => st59 t k) ?_
      obtain ⟨r358_67, hr358_67⟩ : ∃ z : Int64, z = (((0 : Int64) ||| ((((((nar .byte x209_52) &&& (255 : Int32))) &&& (127 : Int32)).toInt64) <<< ((0 : Int32) &&& 0x3f).toInt64))) := ⟨_, rfl⟩
      refine Gl.cast (B := (T59.setTop (mkF m 361 L58 [(.long r358_67)]))) (by rw [hr358_67]) ?_
      refine Gl.st (B := (T59.setTop (mkF m 364 L58 [(.int (lcmpW r358_67 y18_350_57))]))) (fun t k => XS.lload X59.here hx rfl (hb hby at_361) (ldAt hL58 rfl) (XS.lcmp X59.here hx rfl (hb hby at_363) rfl k)) ?_
      have hc364_68 : r358_67 = y18_350_57 := own_0_hc364_68 p1 y11_152_40 x209_52 r358_67 y16_325_55 y18_350_57 hy11_152_40 hx209_52 hr358_67 hy16_325_55 hy18_350_57 
      refine Gl.st (B := (T59.setTop (mkF m 372 L58 [(.int (1 : Int32))]))) (fun t k => XS.ifNo X59.here hx rfl (hb hby at_364) rfl ((if0 _ _).trans (teq ((lw_eq r358_67 y18_350_57).mpr hc364_68)).2) (XS.iconst X59.here hx rfl (hb hby at_367) (XS.goto X59.here hx rfl (pc0 := 368) (pc' := 372) rfl (hb hby at_368) (by decide) (by decide) k))) ?_
      obtain ⟨fs, hr, hrun, hended, hW, hsame⟩ := X59.leave (v := some (.int (nar .boolean (1 : Int32)))) (fun h => by rw [Bd.returns] at h; cases h)
      refine Gl.fin (retN X59 hx (t := .boolean) Bd.returns (by simp) (hb hby at_372) hr) hrun hended ⟨_, _, rfl, ?_, ⟨_, rfl⟩, hW, hsame.mono (by decide) (by decide)⟩
      show Q0 Z p1 p2 p3 p4 q5 p6 h0 n0 _ T59.heap _
      rw [eh59]
      exact ⟨rfl, N59⟩
    · skip
      subst hk
      refine Gl.st (B := (T38.setTop (mkF m 199 L49 [(.int y11_152_40), (.int (0 : Int32)), (.ref b7)]))) (fun t k => XS.aload X38.here hx rfl (hb hby at_187) (ldAt hL49 rfl) rfl (XS.iload X38.here hx rfl (hb hby at_189) (ldAt hL49 rfl) (XS.iload X38.here hx rfl (hb hby at_191) (ldAt hL49 rfl) (XS.iconst X38.here hx rfl (hb hby at_193) (XS.icmpNo X38.here hx rfl (hb hby at_194) rfl (by decide) (XS.iload X38.here hx rfl (hb hby at_197) (ldAt hL49 rfl) k)))))) ?_
      refine Gl.st (B := (T38.setTop (mkF m 209 L49 [(.int ((y11_152_40 ||| (128 : Int32)).toInt8.toInt32)), (.int (0 : Int32)), (.ref b7)]))) (fun t k => XS.sipush X38.here hx rfl (hb hby at_199) (XS.ior X38.here hx rfl (hb hby at_202) rfl (XS.goto X38.here hx rfl (pc0 := 203) (pc' := 208) rfl (hb hby at_203) (by decide) (by decide) (XS.i2b X38.here hx rfl (hb hby at_208) rfl k)))) ?_
      obtain ⟨x209_69, hx209_69⟩ : ∃ z : Int32, z = ((y11_152_40 ||| (128 : Int32)).toInt8.toInt32) := ⟨_, rfl⟩
      refine Gl.cast (B := (T38.setTop (mkF m 209 L49 [(.int x209_69), (.int (0 : Int32)), (.ref b7)]))) (by rw [hx209_69]) ?_
      obtain ⟨cl70, Ar70, q70, S70, P70, H70, G70⟩ := (id V38)
      have hin209_70 : ¬ ((0 : Int32) < 0 ∨ cl70.slots.size ≤ ((0 : Int32)).toNatClampNeg) := inb_of S70 ⟨by decide, by decide⟩
      obtain ⟨T70, h70, X70, e70, W70, st70⟩ := stB X38 hx hZ e38 Ar70 (j := (0 : Int32)) hin209_70 (g := (mkF m 209 L49 [(.int x209_69), (.int (0 : Int32)), (.ref b7)])) rfl rfl (hb hby at_209)
      have V70 : Arv Z h70 b7 k7 .byte (10 : Int32) [(.int (nar .byte x209_69)), (.int (nar .byte x60_13)), (.int (nar .byte x71_16)), (.int (nar .byte x82_19)), (.int (nar .byte x93_22)), (.int (nar .byte x104_25)), (.int (nar .byte x116_28)), (.int (nar .byte x128_31)), (.int (nar .byte x136_34)), (.int (nar .byte x147_37))] (.int (0 : Int32)) := Arv.set Ar70 q70 S70 P70 H70 G70 (fits_nar_byte _) W70 0 rfl (Nat.le_of_ble_eq_true rfl)
      have Zc71 : n0 ≤ h70.size := Nat.le_trans Zc39 (Nat.le_of_eq W70.size.symm)
      have N70 := Fr.snoc X70 N38 g_b7
      refine Gl.st (B := (T70.setTop (mkF m 210 L49 []))) st70 ?_
      refine Gl.st (B := (T70.setTop (mkF m 221 L49 [(.int (1 : Int32)), (.int (0 : Int32)), (.ref b7)]))) (fun t k => XS.iload X70.here hx rfl (hb hby at_210) (ldAt hL49 rfl) (XS.iconst X70.here hx rfl (hb hby at_212) (XS.icmpNo X70.here hx rfl (hb hby at_213) rfl (by decide) (XS.aload X70.here hx rfl (hb hby at_216) (ldAt hL49 rfl) rfl (XS.iload X70.here hx rfl (hb hby at_218) (ldAt hL49 rfl) (XS.iconst X70.here hx rfl (hb hby at_220) k)))))) ?_
      refine Gl.st (B := (T70.setTop (mkF m 240 L49 [(.int (y12_161_42.toInt8.toInt32)), (.int (1 : Int32)), (.ref b7)]))) (fun t k => XS.iadd X70.here hx rfl (hb hby at_221) rfl (XS.iload X70.here hx rfl (hb hby at_222) (ldAt hL49 rfl) (XS.iconst X70.here hx rfl (hb hby at_224) (XS.icmpYes X70.here hx rfl (pc0 := 225) (pc' := 237) rfl (hb hby at_225) rfl (by decide) (by decide) (by decide) (XS.iload X70.here hx rfl (hb hby at_237) (ldAt hL49 rfl) (XS.i2b X70.here hx rfl (hb hby at_239) rfl k)))))) ?_
      obtain ⟨x240_72, hx240_72⟩ : ∃ z : Int32, z = (y12_161_42.toInt8.toInt32) := ⟨_, rfl⟩
      refine Gl.cast (B := (T70.setTop (mkF m 240 L49 [(.int x240_72), (.int (1 : Int32)), (.ref b7)]))) (by rw [hx240_72]) ?_
      obtain ⟨cl73, Ar73, q73, S73, P73, H73, G73⟩ := (id V70)
      have hin240_73 : ¬ ((1 : Int32) < 0 ∨ cl73.slots.size ≤ ((1 : Int32)).toNatClampNeg) := inb_of S73 ⟨by decide, by decide⟩
      obtain ⟨T73, h73, X73, e73, W73, st73⟩ := stB X70 hx hZ e70 Ar73 (j := (1 : Int32)) hin240_73 (g := (mkF m 240 L49 [(.int x240_72), (.int (1 : Int32)), (.ref b7)])) rfl rfl (hb hby at_240)
      have V73 : Arv Z h73 b7 k7 .byte (10 : Int32) [(.int (nar .byte x209_69)), (.int (nar .byte x240_72)), (.int (nar .byte x71_16)), (.int (nar .byte x82_19)), (.int (nar .byte x93_22)), (.int (nar .byte x104_25)), (.int (nar .byte x116_28)), (.int (nar .byte x128_31)), (.int (nar .byte x136_34)), (.int (nar .byte x147_37))] (.int (0 : Int32)) := Arv.set Ar73 q73 S73 P73 H73 G73 (fits_nar_byte _) W73 1 rfl (Nat.le_of_ble_eq_true rfl)
      have Zc74 : n0 ≤ h73.size := Nat.le_trans Zc71 (Nat.le_of_eq W73.size.symm)
      have N73 := Fr.snoc X73 N70 g_b7
      refine Gl.st (B := (T73.setTop (mkF m 241 L49 []))) st73 ?_
      refine Gl.st (B := (T73.setTop (mkF m 303 L49 []))) (fun t k => XS.iload X73.here hx rfl (hb hby at_241) (ldAt hL49 rfl) (XS.iconst X73.here hx rfl (hb hby at_243) (XS.icmpYes X73.here hx rfl (pc0 := 244) (pc' := 272) rfl (hb hby at_244) rfl (by decide) (by decide) (by decide) (XS.iload X73.here hx rfl (hb hby at_272) (ldAt hL49 rfl) (XS.iconst X73.here hx rfl (hb hby at_274) (XS.icmpYes X73.here hx rfl (pc0 := 275) (pc' := 303) rfl (hb hby at_275) rfl (by decide) (by decide) (by decide) k)))))) ?_
      refine Gl.st (B := (T73.setTop (mkF m 324 L49 [(.long (4294967295 : Int64)), (.long (p1.toInt64))]))) (fun t k => XS.iload X73.here hx rfl (hb hby at_303) (ldAt hL49 rfl) (XS.iconst X73.here hx rfl (hb hby at_305) (XS.icmpYes X73.here hx rfl (pc0 := 306) (pc' := 319) rfl (hb hby at_306) rfl (by decide) (by decide) (by decide) (XS.iloadN X73.here hx rfl (hb hby at_319) (ldAt hL49 rfl) (XS.i2l X73.here hx rfl (hb hby at_320) rfl (X73.ldc2Long hx hown (mvT hZ (tw hw 2 rfl)) (g := (mkF m 321 L49 [(.long (p1.toInt64))])) rfl (hb hby at_321) _ k)))))) ?_
      refine Gl.st (B := (T73.setTop (mkF m 325 L49 [(.long ((p1.toInt64) &&& (4294967295 : Int64)))]))) (fun t k => XS.land X73.here hx rfl (hb hby at_324) rfl k) ?_
      obtain ⟨y16_325_75, hy16_325_75⟩ : ∃ z : Int64, z = ((p1.toInt64) &&& (4294967295 : Int64)) := ⟨_, rfl⟩
      refine Gl.cast (B := (T73.setTop (mkF m 325 L49 [(.long y16_325_75)]))) (by rw [hy16_325_75]) ?_
      obtain ⟨L76, hL76⟩ : ∃ z : Array Slot, z = #[.val (.int p1), .val (.int p2), .val (.int p3), .val (.int p4), .val (.long q5), .second, .val (.int p6), .val (.int (2 : Int32)), .val (.int (0 : Int32)), .val (.int y9_34_5), .val (.ref b7), .val (.int y11_152_40), .val (.int y12_161_42), .val (.int y13_170_44), .val (.int y14_179_46), .val (.int y15_185_48), .val (.long y16_325_75), .second, .unset, .unset] := ⟨_, rfl⟩
      refine Gl.st (B := (T73.setTop (mkF m 341 L76 [(.long (1 : Int64)), (.long y16_325_75)]))) (fun t k => XS.lstore X73.here hx rfl (hb hby at_325) rfl (l' := L76) (stAt hL49 hL76 rfl rfl) (XS.iload X73.here hx rfl (hb hby at_327) (ldAt hL76 rfl) (XS.iconst X73.here hx rfl (hb hby at_329) (XS.icmpYes X73.here hx rfl (pc0 := 330) (pc' := 338) rfl (hb hby at_330) rfl (by decide) (by decide) (by decide) (XS.lload X73.here hx rfl (hb hby at_338) (ldAt hL76 rfl) (XS.lconst X73.here hx rfl (hb hby at_340) k)))))) ?_
      refine Gl.st (B := (T73.setTop (mkF m 349 L76 [(.long (((1 : Int64) <<< ((14 : Int32) &&& 0x3f).toInt64) - (1 : Int64))), (.long y16_325_75)]))) (fun t k => XS.bipush X73.here hx rfl (hb hby at_341) (XS.iload X73.here hx rfl (hb hby at_343) (ldAt hL76 rfl) (XS.imul X73.here hx rfl (hb hby at_345) rfl (XS.lshl X73.here hx rfl (hb hby at_346) rfl (XS.lconst X73.here hx rfl (hb hby at_347) (XS.lsub X73.here hx rfl (hb hby at_348) rfl k)))))) ?_
      refine Gl.st (B := (T73.setTop (mkF m 350 L76 [(.long (y16_325_75 &&& (((1 : Int64) <<< ((14 : Int32) &&& 0x3f).toInt64) - (1 : Int64))))]))) (fun t k => XS.land X73.here hx rfl (hb hby at_349) rfl k) ?_
      obtain ⟨y18_350_77, hy18_350_77⟩ : ∃ z : Int64, z = (y16_325_75 &&& (((1 : Int64) <<< ((14 : Int32) &&& 0x3f).toInt64) - (1 : Int64))) := ⟨_, rfl⟩
      refine Gl.cast (B := (T73.setTop (mkF m 350 L76 [(.long y18_350_77)]))) (by rw [hy18_350_77]) ?_
      obtain ⟨L78, hL78⟩ : ∃ z : Array Slot, z = #[.val (.int p1), .val (.int p2), .val (.int p3), .val (.int p4), .val (.long q5), .second, .val (.int p6), .val (.int (2 : Int32)), .val (.int (0 : Int32)), .val (.int y9_34_5), .val (.ref b7), .val (.int y11_152_40), .val (.int y12_161_42), .val (.int y13_170_44), .val (.int y14_179_46), .val (.int y15_185_48), .val (.long y16_325_75), .second, .val (.long y18_350_77), .second] := ⟨_, rfl⟩
      refine Gl.st (B := (T73.setTop (mkF m 358 L78 [(.int y9_34_5), (.int (0 : Int32)), (.ref b7)]))) (fun t k => XS.lstore X73.here hx rfl (hb hby at_350) rfl (l' := L78) (stAt hL76 hL78 rfl rfl) (XS.aload X73.here hx rfl (hb hby at_352) (ldAt hL78 rfl) rfl (XS.iload X73.here hx rfl (hb hby at_354) (ldAt hL78 rfl) (XS.iload X73.here hx rfl (hb hby at_356) (ldAt hL78 rfl) k)))) ?_
      obtain ⟨cl80, Ar80, q80, S80, P80, H80, G80⟩ := (id V73)
      have hin40_1_81 : ¬ (((0 : Int32) + (0 : Int32)) < 0 ∨ cl80.slots.size ≤ (((0 : Int32) + (0 : Int32))).toNatClampNeg) := inb_of S80 ⟨by decide, by decide⟩
      have hin40_2_82 : ¬ (((0 : Int32) + (1 : Int32)) < 0 ∨ cl80.slots.size ≤ (((0 : Int32) + (1 : Int32))).toNatClampNeg) := inb_of S80 ⟨by decide, by decide⟩
      have hp358_83 : ¬ ((((10 : Int32) ||| (0 : Int32)) ||| y9_34_5) < (0 : Int32)) := own_0_hp358_83 p4 y9_34_5 hy9_34_5 
      have hp358_84 : ¬ (((10 : Int32) - (0 : Int32)) < y9_34_5) := own_0_hp358_84 p4 y9_34_5 hy9_34_5 
      have hp358_85 : ¬ ((0 : Int32) = y9_34_5) := own_0_hp358_85 p4 y9_34_5 hy9_34_5 
      have hp358_86 : ¬ ((((nar .byte x209_69) &&& (255 : Int32))) < (128 : Int32)) := own_0_hp358_86 p1 y11_152_40 x209_69 hy11_152_40 hx209_69 
      have hp358_87 : ¬ ((1 : Int32) = y9_34_5) := own_0_hp358_87 p4 y9_34_5 hy9_34_5 
      have hp358_88 : (((nar .byte x240_72) &&& (255 : Int32))) < (128 : Int32) := own_0_hp358_88 p1 y12_161_42 x240_72 hy12_161_42 hx240_72 
      have hp358_89 : ¬ ((4294967295 : Int64) < (((((0 : Int64) ||| ((((((nar .byte x209_69) &&& (255 : Int32))) &&& (127 : Int32)).toInt64) <<< ((0 : Int32) &&& 0x3f).toInt64))) ||| ((((((nar .byte x240_72) &&& (255 : Int32))) &&& (127 : Int32)).toInt64) <<< ((7 : Int32) &&& 0x3f).toInt64)))) := own_0_hp358_89 p1 y11_152_40 x209_69 y12_161_42 x240_72 hy11_152_40 hx209_69 hy12_161_42 hx240_72 
      obtain ⟨_, _, ⟨T79, L79q, k79, n79⟩, -, X79, ⟨Lc79, hQ79, l79, y79, z79⟩, st79⟩ := Jvm.LawKit.callS X73 hx (y := (⟨"com/example/requeue/requeue/connection/SnappyBlock", "uncompressedLength", "([BII)J"⟩ : MethodName)) hown (mvT hZ (tw hw 3 rfl)) (mvT hZ (tw hw 4 rfl)) (mvT hZ (tw hw 5 rfl)) (mvT hZ (tw hw 6 rfl)) (by decide) (backOf (W := 0) (rm1k2 l Z a0 hw [] b7 (0 : Int32) y9_34_5 cl80 (nar .byte x209_69) (nar .byte x240_72) h73 n0 Zc74 Ar80 S80 P80 hp358_83 hp358_84 hp358_85 hin40_1_81 (Has.at H80 hin40_1_81 (v := (.int (nar .byte x209_69))) rfl) hp358_86 hp358_87 hin40_2_82 (Has.at H80 hin40_2_82 (v := (.int (nar .byte x240_72))) rfl) hp358_88 hp358_89) hZ (tw hw 6 rfl) (tw hw 5 rfl) (by decide) (by decide)) (g := (mkF m 358 L78 [(.int y9_34_5), (.int (0 : Int32)), (.ref b7)])) rfl (szAt hml hL78 rfl) (argsL := [(.ref b7), (.int (0 : Int32)), (.int y9_34_5)]) (rest := []) (lenOf pd_0_0 rfl) rfl (by show 2 * 0 + _ ≤ _; exact Nat.le_of_eq rfl) (hb hby at_358) (fun _ _ => ⟨rfl, e73, (by decide : 1 + 0 ≤ _), (by decide : 10 + 0 ≤ _)⟩)
      dsimp only [Pt.U, Pt.locs, Pt.cells, Pt.slots] at X79 l79 y79 z79 st79 hQ79
      subst l79 y79 z79
      obtain ⟨rfl, N79q, eh79⟩ := hQ79
      have N79 := Fr.app N73 N79q
      refine Gl.st (B := (T79.setTop (mkF m 361 L78 [(.long (((((0 : Int64) ||| ((((((nar .byte x209_69) &&& (255 : Int32))) &&& (127 : Int32)).toInt64) <<< ((0 : Int32) &&& 0x3f).toInt64))) ||| ((((((nar .byte x240_72) &&& (255 : Int32))) &&& (127 : Int32)).toInt64) <<< ((7 : Int32) &&& 0x3f).toInt64))))]))) (fun t k => st79 t k) ?_
      obtain ⟨r358_90, hr358_90⟩ : ∃ z : Int64, z = (((((0 : Int64) ||| ((((((nar .byte x209_69) &&& (255 : Int32))) &&& (127 : Int32)).toInt64) <<< ((0 : Int32) &&& 0x3f).toInt64))) ||| ((((((nar .byte x240_72) &&& (255 : Int32))) &&& (127 : Int32)).toInt64) <<< ((7 : Int32) &&& 0x3f).toInt64))) := ⟨_, rfl⟩
      refine Gl.cast (B := (T79.setTop (mkF m 361 L78 [(.long r358_90)]))) (by rw [hr358_90]) ?_
      refine Gl.st (B := (T79.setTop (mkF m 364 L78 [(.int (lcmpW r358_90 y18_350_77))]))) (fun t k => XS.lload X79.here hx rfl (hb hby at_361) (ldAt hL78 rfl) (XS.lcmp X79.here hx rfl (hb hby at_363) rfl k)) ?_
      have hc364_91 : r358_90 = y18_350_77 := own_0_hc364_91 p1 y11_152_40 x209_69 y12_161_42 x240_72 r358_90 y16_325_75 y18_350_77 hy11_152_40 hx209_69 hy12_161_42 hx240_72 hr358_90 hy16_325_75 hy18_350_77 
      refine Gl.st (B := (T79.setTop (mkF m 372 L78 [(.int (1 : Int32))]))) (fun t k => XS.ifNo X79.here hx rfl (hb hby at_364) rfl ((if0 _ _).trans (teq ((lw_eq r358_90 y18_350_77).mpr hc364_91)).2) (XS.iconst X79.here hx rfl (hb hby at_367) (XS.goto X79.here hx rfl (pc0 := 368) (pc' := 372) rfl (hb hby at_368) (by decide) (by decide) k))) ?_
      obtain ⟨fs, hr, hrun, hended, hW, hsame⟩ := X79.leave (v := some (.int (nar .boolean (1 : Int32)))) (fun h => by rw [Bd.returns] at h; cases h)
      refine Gl.fin (retN X79 hx (t := .boolean) Bd.returns (by simp) (hb hby at_372) hr) hrun hended ⟨_, _, rfl, ?_, ⟨_, rfl⟩, hW, hsame.mono (by decide) (by decide)⟩
      show Q0 Z p1 p2 p3 p4 q5 p6 h0 n0 _ T79.heap _
      rw [eh79]
      exact ⟨rfl, N79⟩
    · skip
      subst hk
      refine Gl.st (B := (T38.setTop (mkF m 199 L49 [(.int y11_152_40), (.int (0 : Int32)), (.ref b7)]))) (fun t k => XS.aload X38.here hx rfl (hb hby at_187) (ldAt hL49 rfl) rfl (XS.iload X38.here hx rfl (hb hby at_189) (ldAt hL49 rfl) (XS.iload X38.here hx rfl (hb hby at_191) (ldAt hL49 rfl) (XS.iconst X38.here hx rfl (hb hby at_193) (XS.icmpNo X38.here hx rfl (hb hby at_194) rfl (by decide) (XS.iload X38.here hx rfl (hb hby at_197) (ldAt hL49 rfl) k)))))) ?_
      refine Gl.st (B := (T38.setTop (mkF m 209 L49 [(.int ((y11_152_40 ||| (128 : Int32)).toInt8.toInt32)), (.int (0 : Int32)), (.ref b7)]))) (fun t k => XS.sipush X38.here hx rfl (hb hby at_199) (XS.ior X38.here hx rfl (hb hby at_202) rfl (XS.goto X38.here hx rfl (pc0 := 203) (pc' := 208) rfl (hb hby at_203) (by decide) (by decide) (XS.i2b X38.here hx rfl (hb hby at_208) rfl k)))) ?_
      obtain ⟨x209_92, hx209_92⟩ : ∃ z : Int32, z = ((y11_152_40 ||| (128 : Int32)).toInt8.toInt32) := ⟨_, rfl⟩
      refine Gl.cast (B := (T38.setTop (mkF m 209 L49 [(.int x209_92), (.int (0 : Int32)), (.ref b7)]))) (by rw [hx209_92]) ?_
      obtain ⟨cl93, Ar93, q93, S93, P93, H93, G93⟩ := (id V38)
      have hin209_93 : ¬ ((0 : Int32) < 0 ∨ cl93.slots.size ≤ ((0 : Int32)).toNatClampNeg) := inb_of S93 ⟨by decide, by decide⟩
      obtain ⟨T93, h93, X93, e93, W93, st93⟩ := stB X38 hx hZ e38 Ar93 (j := (0 : Int32)) hin209_93 (g := (mkF m 209 L49 [(.int x209_92), (.int (0 : Int32)), (.ref b7)])) rfl rfl (hb hby at_209)
      have V93 : Arv Z h93 b7 k7 .byte (10 : Int32) [(.int (nar .byte x209_92)), (.int (nar .byte x60_13)), (.int (nar .byte x71_16)), (.int (nar .byte x82_19)), (.int (nar .byte x93_22)), (.int (nar .byte x104_25)), (.int (nar .byte x116_28)), (.int (nar .byte x128_31)), (.int (nar .byte x136_34)), (.int (nar .byte x147_37))] (.int (0 : Int32)) := Arv.set Ar93 q93 S93 P93 H93 G93 (fits_nar_byte _) W93 0 rfl (Nat.le_of_ble_eq_true rfl)
      have Zc94 : n0 ≤ h93.size := Nat.le_trans Zc39 (Nat.le_of_eq W93.size.symm)
      have N93 := Fr.snoc X93 N38 g_b7
      refine Gl.st (B := (T93.setTop (mkF m 210 L49 []))) st93 ?_
      refine Gl.st (B := (T93.setTop (mkF m 221 L49 [(.int (1 : Int32)), (.int (0 : Int32)), (.ref b7)]))) (fun t k => XS.iload X93.here hx rfl (hb hby at_210) (ldAt hL49 rfl) (XS.iconst X93.here hx rfl (hb hby at_212) (XS.icmpNo X93.here hx rfl (hb hby at_213) rfl (by decide) (XS.aload X93.here hx rfl (hb hby at_216) (ldAt hL49 rfl) rfl (XS.iload X93.here hx rfl (hb hby at_218) (ldAt hL49 rfl) (XS.iconst X93.here hx rfl (hb hby at_220) k)))))) ?_
      refine Gl.st (B := (T93.setTop (mkF m 233 L49 [(.int (128 : Int32)), (.int y12_161_42), (.int (1 : Int32)), (.ref b7)]))) (fun t k => XS.iadd X93.here hx rfl (hb hby at_221) rfl (XS.iload X93.here hx rfl (hb hby at_222) (ldAt hL49 rfl) (XS.iconst X93.here hx rfl (hb hby at_224) (XS.icmpNo X93.here hx rfl (hb hby at_225) rfl (by decide) (XS.iload X93.here hx rfl (hb hby at_228) (ldAt hL49 rfl) (XS.sipush X93.here hx rfl (hb hby at_230) k)))))) ?_
      refine Gl.st (B := (T93.setTop (mkF m 240 L49 [(.int ((y12_161_42 ||| (128 : Int32)).toInt8.toInt32)), (.int (1 : Int32)), (.ref b7)]))) (fun t k => XS.ior X93.here hx rfl (hb hby at_233) rfl (XS.goto X93.here hx rfl (pc0 := 234) (pc' := 239) rfl (hb hby at_234) (by decide) (by decide) (XS.i2b X93.here hx rfl (hb hby at_239) rfl k))) ?_
      obtain ⟨x240_95, hx240_95⟩ : ∃ z : Int32, z = ((y12_161_42 ||| (128 : Int32)).toInt8.toInt32) := ⟨_, rfl⟩
      refine Gl.cast (B := (T93.setTop (mkF m 240 L49 [(.int x240_95), (.int (1 : Int32)), (.ref b7)]))) (by rw [hx240_95]) ?_
      obtain ⟨cl96, Ar96, q96, S96, P96, H96, G96⟩ := (id V93)
      have hin240_96 : ¬ ((1 : Int32) < 0 ∨ cl96.slots.size ≤ ((1 : Int32)).toNatClampNeg) := inb_of S96 ⟨by decide, by decide⟩
      obtain ⟨T96, h96, X96, e96, W96, st96⟩ := stB X93 hx hZ e93 Ar96 (j := (1 : Int32)) hin240_96 (g := (mkF m 240 L49 [(.int x240_95), (.int (1 : Int32)), (.ref b7)])) rfl rfl (hb hby at_240)
      have V96 : Arv Z h96 b7 k7 .byte (10 : Int32) [(.int (nar .byte x209_92)), (.int (nar .byte x240_95)), (.int (nar .byte x71_16)), (.int (nar .byte x82_19)), (.int (nar .byte x93_22)), (.int (nar .byte x104_25)), (.int (nar .byte x116_28)), (.int (nar .byte x128_31)), (.int (nar .byte x136_34)), (.int (nar .byte x147_37))] (.int (0 : Int32)) := Arv.set Ar96 q96 S96 P96 H96 G96 (fits_nar_byte _) W96 1 rfl (Nat.le_of_ble_eq_true rfl)
      have Zc97 : n0 ≤ h96.size := Nat.le_trans Zc94 (Nat.le_of_eq W96.size.symm)
      have N96 := Fr.snoc X96 N93 g_b7
      refine Gl.st (B := (T96.setTop (mkF m 241 L49 []))) st96 ?_
      refine Gl.st (B := (T96.setTop (mkF m 252 L49 [(.int (2 : Int32)), (.int (0 : Int32)), (.ref b7)]))) (fun t k => XS.iload X96.here hx rfl (hb hby at_241) (ldAt hL49 rfl) (XS.iconst X96.here hx rfl (hb hby at_243) (XS.icmpNo X96.here hx rfl (hb hby at_244) rfl (by decide) (XS.aload X96.here hx rfl (hb hby at_247) (ldAt hL49 rfl) rfl (XS.iload X96.here hx rfl (hb hby at_249) (ldAt hL49 rfl) (XS.iconst X96.here hx rfl (hb hby at_251) k)))))) ?_
      refine Gl.st (B := (T96.setTop (mkF m 271 L49 [(.int (y13_170_44.toInt8.toInt32)), (.int (2 : Int32)), (.ref b7)]))) (fun t k => XS.iadd X96.here hx rfl (hb hby at_252) rfl (XS.iload X96.here hx rfl (hb hby at_253) (ldAt hL49 rfl) (XS.iconst X96.here hx rfl (hb hby at_255) (XS.icmpYes X96.here hx rfl (pc0 := 256) (pc' := 268) rfl (hb hby at_256) rfl (by decide) (by decide) (by decide) (XS.iload X96.here hx rfl (hb hby at_268) (ldAt hL49 rfl) (XS.i2b X96.here hx rfl (hb hby at_270) rfl k)))))) ?_
      obtain ⟨x271_98, hx271_98⟩ : ∃ z : Int32, z = (y13_170_44.toInt8.toInt32) := ⟨_, rfl⟩
      refine Gl.cast (B := (T96.setTop (mkF m 271 L49 [(.int x271_98), (.int (2 : Int32)), (.ref b7)]))) (by rw [hx271_98]) ?_
      obtain ⟨cl99, Ar99, q99, S99, P99, H99, G99⟩ := (id V96)
      have hin271_99 : ¬ ((2 : Int32) < 0 ∨ cl99.slots.size ≤ ((2 : Int32)).toNatClampNeg) := inb_of S99 ⟨by decide, by decide⟩
      obtain ⟨T99, h99, X99, e99, W99, st99⟩ := stB X96 hx hZ e96 Ar99 (j := (2 : Int32)) hin271_99 (g := (mkF m 271 L49 [(.int x271_98), (.int (2 : Int32)), (.ref b7)])) rfl rfl (hb hby at_271)
      have V99 : Arv Z h99 b7 k7 .byte (10 : Int32) [(.int (nar .byte x209_92)), (.int (nar .byte x240_95)), (.int (nar .byte x271_98)), (.int (nar .byte x82_19)), (.int (nar .byte x93_22)), (.int (nar .byte x104_25)), (.int (nar .byte x116_28)), (.int (nar .byte x128_31)), (.int (nar .byte x136_34)), (.int (nar .byte x147_37))] (.int (0 : Int32)) := Arv.set Ar99 q99 S99 P99 H99 G99 (fits_nar_byte _) W99 2 rfl (Nat.le_of_ble_eq_true rfl)
      have Zc100 : n0 ≤ h99.size := Nat.le_trans Zc97 (Nat.le_of_eq W99.size.symm)
      have N99 := Fr.snoc X99 N96 g_b7
      refine Gl.st (B := (T99.setTop (mkF m 272 L49 []))) st99 ?_
      refine Gl.st (B := (T99.setTop (mkF m 319 L49 []))) (fun t k => XS.iload X99.here hx rfl (hb hby at_272) (ldAt hL49 rfl) (XS.iconst X99.here hx rfl (hb hby at_274) (XS.icmpYes X99.here hx rfl (pc0 := 275) (pc' := 303) rfl (hb hby at_275) rfl (by decide) (by decide) (by decide) (XS.iload X99.here hx rfl (hb hby at_303) (ldAt hL49 rfl) (XS.iconst X99.here hx rfl (hb hby at_305) (XS.icmpYes X99.here hx rfl (pc0 := 306) (pc' := 319) rfl (hb hby at_306) rfl (by decide) (by decide) (by decide) k)))))) ?_
      refine Gl.st (B := (T99.setTop (mkF m 325 L49 [(.long ((p1.toInt64) &&& (4294967295 : Int64)))]))) (fun t k => XS.iloadN X99.here hx rfl (hb hby at_319) (ldAt hL49 rfl) (XS.i2l X99.here hx rfl (hb hby at_320) rfl (X99.ldc2Long hx hown (mvT hZ (tw hw 2 rfl)) (g := (mkF m 321 L49 [(.long (p1.toInt64))])) rfl (hb hby at_321) _ (XS.land X99.here hx rfl (hb hby at_324) rfl k)))) ?_
      obtain ⟨y16_325_101, hy16_325_101⟩ : ∃ z : Int64, z = ((p1.toInt64) &&& (4294967295 : Int64)) := ⟨_, rfl⟩
      refine Gl.cast (B := (T99.setTop (mkF m 325 L49 [(.long y16_325_101)]))) (by rw [hy16_325_101]) ?_
      obtain ⟨L102, hL102⟩ : ∃ z : Array Slot, z = #[.val (.int p1), .val (.int p2), .val (.int p3), .val (.int p4), .val (.long q5), .second, .val (.int p6), .val (.int (3 : Int32)), .val (.int (0 : Int32)), .val (.int y9_34_5), .val (.ref b7), .val (.int y11_152_40), .val (.int y12_161_42), .val (.int y13_170_44), .val (.int y14_179_46), .val (.int y15_185_48), .val (.long y16_325_101), .second, .unset, .unset] := ⟨_, rfl⟩
      refine Gl.st (B := (T99.setTop (mkF m 341 L102 [(.long (1 : Int64)), (.long y16_325_101)]))) (fun t k => XS.lstore X99.here hx rfl (hb hby at_325) rfl (l' := L102) (stAt hL49 hL102 rfl rfl) (XS.iload X99.here hx rfl (hb hby at_327) (ldAt hL102 rfl) (XS.iconst X99.here hx rfl (hb hby at_329) (XS.icmpYes X99.here hx rfl (pc0 := 330) (pc' := 338) rfl (hb hby at_330) rfl (by decide) (by decide) (by decide) (XS.lload X99.here hx rfl (hb hby at_338) (ldAt hL102 rfl) (XS.lconst X99.here hx rfl (hb hby at_340) k)))))) ?_
      refine Gl.st (B := (T99.setTop (mkF m 349 L102 [(.long (((1 : Int64) <<< ((21 : Int32) &&& 0x3f).toInt64) - (1 : Int64))), (.long y16_325_101)]))) (fun t k => XS.bipush X99.here hx rfl (hb hby at_341) (XS.iload X99.here hx rfl (hb hby at_343) (ldAt hL102 rfl) (XS.imul X99.here hx rfl (hb hby at_345) rfl (XS.lshl X99.here hx rfl (hb hby at_346) rfl (XS.lconst X99.here hx rfl (hb hby at_347) (XS.lsub X99.here hx rfl (hb hby at_348) rfl k)))))) ?_
      refine Gl.st (B := (T99.setTop (mkF m 350 L102 [(.long (y16_325_101 &&& (((1 : Int64) <<< ((21 : Int32) &&& 0x3f).toInt64) - (1 : Int64))))]))) (fun t k => XS.land X99.here hx rfl (hb hby at_349) rfl k) ?_
      obtain ⟨y18_350_103, hy18_350_103⟩ : ∃ z : Int64, z = (y16_325_101 &&& (((1 : Int64) <<< ((21 : Int32) &&& 0x3f).toInt64) - (1 : Int64))) := ⟨_, rfl⟩
      refine Gl.cast (B := (T99.setTop (mkF m 350 L102 [(.long y18_350_103)]))) (by rw [hy18_350_103]) ?_
      obtain ⟨L104, hL104⟩ : ∃ z : Array Slot, z = #[.val (.int p1), .val (.int p2), .val (.int p3), .val (.int p4), .val (.long q5), .second, .val (.int p6), .val (.int (3 : Int32)), .val (.int (0 : Int32)), .val (.int y9_34_5), .val (.ref b7), .val (.int y11_152_40), .val (.int y12_161_42), .val (.int y13_170_44), .val (.int y14_179_46), .val (.int y15_185_48), .val (.long y16_325_101), .second, .val (.long y18_350_103), .second] := ⟨_, rfl⟩
      refine Gl.st (B := (T99.setTop (mkF m 358 L104 [(.int y9_34_5), (.int (0 : Int32)), (.ref b7)]))) (fun t k => XS.lstore X99.here hx rfl (hb hby at_350) rfl (l' := L104) (stAt hL102 hL104 rfl rfl) (XS.aload X99.here hx rfl (hb hby at_352) (ldAt hL104 rfl) rfl (XS.iload X99.here hx rfl (hb hby at_354) (ldAt hL104 rfl) (XS.iload X99.here hx rfl (hb hby at_356) (ldAt hL104 rfl) k)))) ?_
      obtain ⟨cl106, Ar106, q106, S106, P106, H106, G106⟩ := (id V99)
      have hin40_1_107 : ¬ (((0 : Int32) + (0 : Int32)) < 0 ∨ cl106.slots.size ≤ (((0 : Int32) + (0 : Int32))).toNatClampNeg) := inb_of S106 ⟨by decide, by decide⟩
      have hin40_2_108 : ¬ (((0 : Int32) + (1 : Int32)) < 0 ∨ cl106.slots.size ≤ (((0 : Int32) + (1 : Int32))).toNatClampNeg) := inb_of S106 ⟨by decide, by decide⟩
      have hin40_3_109 : ¬ (((0 : Int32) + (2 : Int32)) < 0 ∨ cl106.slots.size ≤ (((0 : Int32) + (2 : Int32))).toNatClampNeg) := inb_of S106 ⟨by decide, by decide⟩
      have hp358_110 : ¬ ((((10 : Int32) ||| (0 : Int32)) ||| y9_34_5) < (0 : Int32)) := own_0_hp358_110 p4 y9_34_5 hy9_34_5 
      have hp358_111 : ¬ (((10 : Int32) - (0 : Int32)) < y9_34_5) := own_0_hp358_111 p4 y9_34_5 hy9_34_5 
      have hp358_112 : ¬ ((0 : Int32) = y9_34_5) := own_0_hp358_112 p4 y9_34_5 hy9_34_5 
      have hp358_113 : ¬ ((((nar .byte x209_92) &&& (255 : Int32))) < (128 : Int32)) := own_0_hp358_113 p1 y11_152_40 x209_92 hy11_152_40 hx209_92 
      have hp358_114 : ¬ ((1 : Int32) = y9_34_5) := own_0_hp358_114 p4 y9_34_5 hy9_34_5 
      have hp358_115 : ¬ ((((nar .byte x240_95) &&& (255 : Int32))) < (128 : Int32)) := own_0_hp358_115 p1 y12_161_42 x240_95 hy12_161_42 hx240_95 
      have hp358_116 : ¬ ((2 : Int32) = y9_34_5) := own_0_hp358_116 p4 y9_34_5 hy9_34_5 
      have hp358_117 : (((nar .byte x271_98) &&& (255 : Int32))) < (128 : Int32) := own_0_hp358_117 p1 y13_170_44 x271_98 hy13_170_44 hx271_98 
      have hp358_118 : ¬ ((4294967295 : Int64) < (((((((0 : Int64) ||| ((((((nar .byte x209_92) &&& (255 : Int32))) &&& (127 : Int32)).toInt64) <<< ((0 : Int32) &&& 0x3f).toInt64))) ||| ((((((nar .byte x240_95) &&& (255 : Int32))) &&& (127 : Int32)).toInt64) <<< ((7 : Int32) &&& 0x3f).toInt64))) ||| ((((((nar .byte x271_98) &&& (255 : Int32))) &&& (127 : Int32)).toInt64) <<< ((14 : Int32) &&& 0x3f).toInt64)))) := own_0_hp358_118 p1 y11_152_40 x209_92 y12_161_42 x240_95 y13_170_44 x271_98 hy11_152_40 hx209_92 hy12_161_42 hx240_95 hy13_170_44 hx271_98 
      obtain ⟨_, _, ⟨T105, L105q, k105, n105⟩, -, X105, ⟨Lc105, hQ105, l105, y105, z105⟩, st105⟩ := Jvm.LawKit.callS X99 hx (y := (⟨"com/example/requeue/requeue/connection/SnappyBlock", "uncompressedLength", "([BII)J"⟩ : MethodName)) hown (mvT hZ (tw hw 3 rfl)) (mvT hZ (tw hw 4 rfl)) (mvT hZ (tw hw 5 rfl)) (mvT hZ (tw hw 6 rfl)) (by decide) (backOf (W := 0) (rm1k3 l Z a0 hw [] b7 (0 : Int32) y9_34_5 cl106 (nar .byte x209_92) (nar .byte x240_95) (nar .byte x271_98) h99 n0 Zc100 Ar106 S106 P106 hp358_110 hp358_111 hp358_112 hin40_1_107 (Has.at H106 hin40_1_107 (v := (.int (nar .byte x209_92))) rfl) hp358_113 hp358_114 hin40_2_108 (Has.at H106 hin40_2_108 (v := (.int (nar .byte x240_95))) rfl) hp358_115 hp358_116 hin40_3_109 (Has.at H106 hin40_3_109 (v := (.int (nar .byte x271_98))) rfl) hp358_117 hp358_118) hZ (tw hw 6 rfl) (tw hw 5 rfl) (by decide) (by decide)) (g := (mkF m 358 L104 [(.int y9_34_5), (.int (0 : Int32)), (.ref b7)])) rfl (szAt hml hL104 rfl) (argsL := [(.ref b7), (.int (0 : Int32)), (.int y9_34_5)]) (rest := []) (lenOf pd_0_0 rfl) rfl (by show 2 * 0 + _ ≤ _; exact Nat.le_of_eq rfl) (hb hby at_358) (fun _ _ => ⟨rfl, e99, (by decide : 1 + 0 ≤ _), (by decide : 10 + 0 ≤ _)⟩)
      dsimp only [Pt.U, Pt.locs, Pt.cells, Pt.slots] at X105 l105 y105 z105 st105 hQ105
      subst l105 y105 z105
      obtain ⟨rfl, N105q, eh105⟩ := hQ105
      have N105 := Fr.app N99 N105q
      refine Gl.st (B := (T105.setTop (mkF m 361 L104 [(.long (((((((0 : Int64) ||| ((((((nar .byte x209_92) &&& (255 : Int32))) &&& (127 : Int32)).toInt64) <<< ((0 : Int32) &&& 0x3f).toInt64))) ||| ((((((nar .byte x240_95) &&& (255 : Int32))) &&& (127 : Int32)).toInt64) <<< ((7 : Int32) &&& 0x3f).toInt64))) ||| ((((((nar .byte x271_98) &&& (255 : Int32))) &&& (127 : Int32)).toInt64) <<< ((14 : Int32) &&& 0x3f).toInt64))))]))) (fun t k => st105 t k) ?_
      obtain ⟨r358_119, hr358_119⟩ : ∃ z : Int64, z = (((((((0 : Int64) ||| ((((((nar .byte x209_92) &&& (255 : Int32))) &&& (127 : Int32)).toInt64) <<< ((0 : Int32) &&& 0x3f).toInt64))) ||| ((((((nar .byte x240_95) &&& (255 : Int32))) &&& (127 : Int32)).toInt64) <<< ((7 : Int32) &&& 0x3f).toInt64))) ||| ((((((nar .byte x271_98) &&& (255 : Int32))) &&& (127 : Int32)).toInt64) <<< ((14 : Int32) &&& 0x3f).toInt64))) := ⟨_, rfl⟩
      refine Gl.cast (B := (T105.setTop (mkF m 361 L104 [(.long r358_119)]))) (by rw [hr358_119]) ?_
      refine Gl.st (B := (T105.setTop (mkF m 364 L104 [(.int (lcmpW r358_119 y18_350_103))]))) (fun t k => XS.lload X105.here hx rfl (hb hby at_361) (ldAt hL104 rfl) (XS.lcmp X105.here hx rfl (hb hby at_363) rfl k)) ?_
      have hc364_120 : r358_119 = y18_350_103 := own_0_hc364_120 p1 y11_152_40 x209_92 y12_161_42 x240_95 y13_170_44 x271_98 r358_119 y16_325_101 y18_350_103 hy11_152_40 hx209_92 hy12_161_42 hx240_95 hy13_170_44 hx271_98 hr358_119 hy16_325_101 hy18_350_103 
      refine Gl.st (B := (T105.setTop (mkF m 372 L104 [(.int (1 : Int32))]))) (fun t k => XS.ifNo X105.here hx rfl (hb hby at_364) rfl ((if0 _ _).trans (teq ((lw_eq r358_119 y18_350_103).mpr hc364_120)).2) (XS.iconst X105.here hx rfl (hb hby at_367) (XS.goto X105.here hx rfl (pc0 := 368) (pc' := 372) rfl (hb hby at_368) (by decide) (by decide) k))) ?_
      obtain ⟨fs, hr, hrun, hended, hW, hsame⟩ := X105.leave (v := some (.int (nar .boolean (1 : Int32)))) (fun h => by rw [Bd.returns] at h; cases h)
      refine Gl.fin (retN X105 hx (t := .boolean) Bd.returns (by simp) (hb hby at_372) hr) hrun hended ⟨_, _, rfl, ?_, ⟨_, rfl⟩, hW, hsame.mono (by decide) (by decide)⟩
      show Q0 Z p1 p2 p3 p4 q5 p6 h0 n0 _ T105.heap _
      rw [eh105]
      exact ⟨rfl, N105⟩
    · skip
      subst hk
      refine Gl.st (B := (T38.setTop (mkF m 199 L49 [(.int y11_152_40), (.int (0 : Int32)), (.ref b7)]))) (fun t k => XS.aload X38.here hx rfl (hb hby at_187) (ldAt hL49 rfl) rfl (XS.iload X38.here hx rfl (hb hby at_189) (ldAt hL49 rfl) (XS.iload X38.here hx rfl (hb hby at_191) (ldAt hL49 rfl) (XS.iconst X38.here hx rfl (hb hby at_193) (XS.icmpNo X38.here hx rfl (hb hby at_194) rfl (by decide) (XS.iload X38.here hx rfl (hb hby at_197) (ldAt hL49 rfl) k)))))) ?_
      refine Gl.st (B := (T38.setTop (mkF m 209 L49 [(.int ((y11_152_40 ||| (128 : Int32)).toInt8.toInt32)), (.int (0 : Int32)), (.ref b7)]))) (fun t k => XS.sipush X38.here hx rfl (hb hby at_199) (XS.ior X38.here hx rfl (hb hby at_202) rfl (XS.goto X38.here hx rfl (pc0 := 203) (pc' := 208) rfl (hb hby at_203) (by decide) (by decide) (XS.i2b X38.here hx rfl (hb hby at_208) rfl k)))) ?_
      obtain ⟨x209_121, hx209_121⟩ : ∃ z : Int32, z = ((y11_152_40 ||| (128 : Int32)).toInt8.toInt32) := ⟨_, rfl⟩
      refine Gl.cast (B := (T38.setTop (mkF m 209 L49 [(.int x209_121), (.int (0 : Int32)), (.ref b7)]))) (by rw [hx209_121]) ?_
      obtain ⟨cl122, Ar122, q122, S122, P122, H122, G122⟩ := (id V38)
      have hin209_122 : ¬ ((0 : Int32) < 0 ∨ cl122.slots.size ≤ ((0 : Int32)).toNatClampNeg) := inb_of S122 ⟨by decide, by decide⟩
      obtain ⟨T122, h122, X122, e122, W122, st122⟩ := stB X38 hx hZ e38 Ar122 (j := (0 : Int32)) hin209_122 (g := (mkF m 209 L49 [(.int x209_121), (.int (0 : Int32)), (.ref b7)])) rfl rfl (hb hby at_209)
      have V122 : Arv Z h122 b7 k7 .byte (10 : Int32) [(.int (nar .byte x209_121)), (.int (nar .byte x60_13)), (.int (nar .byte x71_16)), (.int (nar .byte x82_19)), (.int (nar .byte x93_22)), (.int (nar .byte x104_25)), (.int (nar .byte x116_28)), (.int (nar .byte x128_31)), (.int (nar .byte x136_34)), (.int (nar .byte x147_37))] (.int (0 : Int32)) := Arv.set Ar122 q122 S122 P122 H122 G122 (fits_nar_byte _) W122 0 rfl (Nat.le_of_ble_eq_true rfl)
      have Zc123 : n0 ≤ h122.size := Nat.le_trans Zc39 (Nat.le_of_eq W122.size.symm)
      have N122 := Fr.snoc X122 N38 g_b7
      refine Gl.st (B := (T122.setTop (mkF m 210 L49 []))) st122 ?_
      refine Gl.st (B := (T122.setTop (mkF m 221 L49 [(.int (1 : Int32)), (.int (0 : Int32)), (.ref b7)]))) (fun t k => XS.iload X122.here hx rfl (hb hby at_210) (ldAt hL49 rfl) (XS.iconst X122.here hx rfl (hb hby at_212) (XS.icmpNo X122.here hx rfl (hb hby at_213) rfl (by decide) (XS.aload X122.here hx rfl (hb hby at_216) (ldAt hL49 rfl) rfl (XS.iload X122.here hx rfl (hb hby at_218) (ldAt hL49 rfl) (XS.iconst X122.here hx rfl (hb hby at_220) k)))))) ?_
      refine Gl.st (B := (T122.setTop (mkF m 233 L49 [(.int (128 : Int32)), (.int y12_161_42), (.int (1 : Int32)), (.ref b7)]))) (fun t k => XS.iadd X122.here hx rfl (hb hby at_221) rfl (XS.iload X122.here hx rfl (hb hby at_222) (ldAt hL49 rfl) (XS.iconst X122.here hx rfl (hb hby at_224) (XS.icmpNo X122.here hx rfl (hb hby at_225) rfl (by decide) (XS.iload X122.here hx rfl (hb hby at_228) (ldAt hL49 rfl) (XS.sipush X122.here hx rfl (hb hby at_230) k)))))) ?_
      refine Gl.st (B := (T122.setTop (mkF m 240 L49 [(.int ((y12_161_42 ||| (128 : Int32)).toInt8.toInt32)), (.int (1 : Int32)), (.ref b7)]))) (fun t k => XS.ior X122.here hx rfl (hb hby at_233) rfl (XS.goto X122.here hx rfl (pc0 := 234) (pc' := 239) rfl (hb hby at_234) (by decide) (by decide) (XS.i2b X122.here hx rfl (hb hby at_239) rfl k))) ?_
      obtain ⟨x240_124, hx240_124⟩ : ∃ z : Int32, z = ((y12_161_42 ||| (128 : Int32)).toInt8.toInt32) := ⟨_, rfl⟩
      refine Gl.cast (B := (T122.setTop (mkF m 240 L49 [(.int x240_124), (.int (1 : Int32)), (.ref b7)]))) (by rw [hx240_124]) ?_
      obtain ⟨cl125, Ar125, q125, S125, P125, H125, G125⟩ := (id V122)
      have hin240_125 : ¬ ((1 : Int32) < 0 ∨ cl125.slots.size ≤ ((1 : Int32)).toNatClampNeg) := inb_of S125 ⟨by decide, by decide⟩
      obtain ⟨T125, h125, X125, e125, W125, st125⟩ := stB X122 hx hZ e122 Ar125 (j := (1 : Int32)) hin240_125 (g := (mkF m 240 L49 [(.int x240_124), (.int (1 : Int32)), (.ref b7)])) rfl rfl (hb hby at_240)
      have V125 : Arv Z h125 b7 k7 .byte (10 : Int32) [(.int (nar .byte x209_121)), (.int (nar .byte x240_124)), (.int (nar .byte x71_16)), (.int (nar .byte x82_19)), (.int (nar .byte x93_22)), (.int (nar .byte x104_25)), (.int (nar .byte x116_28)), (.int (nar .byte x128_31)), (.int (nar .byte x136_34)), (.int (nar .byte x147_37))] (.int (0 : Int32)) := Arv.set Ar125 q125 S125 P125 H125 G125 (fits_nar_byte _) W125 1 rfl (Nat.le_of_ble_eq_true rfl)
      have Zc126 : n0 ≤ h125.size := Nat.le_trans Zc123 (Nat.le_of_eq W125.size.symm)
      have N125 := Fr.snoc X125 N122 g_b7
      refine Gl.st (B := (T125.setTop (mkF m 241 L49 []))) st125 ?_
      refine Gl.st (B := (T125.setTop (mkF m 252 L49 [(.int (2 : Int32)), (.int (0 : Int32)), (.ref b7)]))) (fun t k => XS.iload X125.here hx rfl (hb hby at_241) (ldAt hL49 rfl) (XS.iconst X125.here hx rfl (hb hby at_243) (XS.icmpNo X125.here hx rfl (hb hby at_244) rfl (by decide) (XS.aload X125.here hx rfl (hb hby at_247) (ldAt hL49 rfl) rfl (XS.iload X125.here hx rfl (hb hby at_249) (ldAt hL49 rfl) (XS.iconst X125.here hx rfl (hb hby at_251) k)))))) ?_
      refine Gl.st (B := (T125.setTop (mkF m 264 L49 [(.int (128 : Int32)), (.int y13_170_44), (.int (2 : Int32)), (.ref b7)]))) (fun t k => XS.iadd X125.here hx rfl (hb hby at_252) rfl (XS.iload X125.here hx rfl (hb hby at_253) (ldAt hL49 rfl) (XS.iconst X125.here hx rfl (hb hby at_255) (XS.icmpNo X125.here hx rfl (hb hby at_256) rfl (by decide) (XS.iload X125.here hx rfl (hb hby at_259) (ldAt hL49 rfl) (XS.sipush X125.here hx rfl (hb hby at_261) k)))))) ?_
      refine Gl.st (B := (T125.setTop (mkF m 271 L49 [(.int ((y13_170_44 ||| (128 : Int32)).toInt8.toInt32)), (.int (2 : Int32)), (.ref b7)]))) (fun t k => XS.ior X125.here hx rfl (hb hby at_264) rfl (XS.goto X125.here hx rfl (pc0 := 265) (pc' := 270) rfl (hb hby at_265) (by decide) (by decide) (XS.i2b X125.here hx rfl (hb hby at_270) rfl k))) ?_
      obtain ⟨x271_127, hx271_127⟩ : ∃ z : Int32, z = ((y13_170_44 ||| (128 : Int32)).toInt8.toInt32) := ⟨_, rfl⟩
      refine Gl.cast (B := (T125.setTop (mkF m 271 L49 [(.int x271_127), (.int (2 : Int32)), (.ref b7)]))) (by rw [hx271_127]) ?_
      obtain ⟨cl128, Ar128, q128, S128, P128, H128, G128⟩ := (id V125)
      have hin271_128 : ¬ ((2 : Int32) < 0 ∨ cl128.slots.size ≤ ((2 : Int32)).toNatClampNeg) := inb_of S128 ⟨by decide, by decide⟩
      obtain ⟨T128, h128, X128, e128, W128, st128⟩ := stB X125 hx hZ e125 Ar128 (j := (2 : Int32)) hin271_128 (g := (mkF m 271 L49 [(.int x271_127), (.int (2 : Int32)), (.ref b7)])) rfl rfl (hb hby at_271)
      have V128 : Arv Z h128 b7 k7 .byte (10 : Int32) [(.int (nar .byte x209_121)), (.int (nar .byte x240_124)), (.int (nar .byte x271_127)), (.int (nar .byte x82_19)), (.int (nar .byte x93_22)), (.int (nar .byte x104_25)), (.int (nar .byte x116_28)), (.int (nar .byte x128_31)), (.int (nar .byte x136_34)), (.int (nar .byte x147_37))] (.int (0 : Int32)) := Arv.set Ar128 q128 S128 P128 H128 G128 (fits_nar_byte _) W128 2 rfl (Nat.le_of_ble_eq_true rfl)
      have Zc129 : n0 ≤ h128.size := Nat.le_trans Zc126 (Nat.le_of_eq W128.size.symm)
      have N128 := Fr.snoc X128 N125 g_b7
      refine Gl.st (B := (T128.setTop (mkF m 272 L49 []))) st128 ?_
      refine Gl.st (B := (T128.setTop (mkF m 283 L49 [(.int (3 : Int32)), (.int (0 : Int32)), (.ref b7)]))) (fun t k => XS.iload X128.here hx rfl (hb hby at_272) (ldAt hL49 rfl) (XS.iconst X128.here hx rfl (hb hby at_274) (XS.icmpNo X128.here hx rfl (hb hby at_275) rfl (by decide) (XS.aload X128.here hx rfl (hb hby at_278) (ldAt hL49 rfl) rfl (XS.iload X128.here hx rfl (hb hby at_280) (ldAt hL49 rfl) (XS.iconst X128.here hx rfl (hb hby at_282) k)))))) ?_
      refine Gl.st (B := (T128.setTop (mkF m 302 L49 [(.int (y14_179_46.toInt8.toInt32)), (.int (3 : Int32)), (.ref b7)]))) (fun t k => XS.iadd X128.here hx rfl (hb hby at_283) rfl (XS.iload X128.here hx rfl (hb hby at_284) (ldAt hL49 rfl) (XS.iconst X128.here hx rfl (hb hby at_286) (XS.icmpYes X128.here hx rfl (pc0 := 287) (pc' := 299) rfl (hb hby at_287) rfl (by decide) (by decide) (by decide) (XS.iload X128.here hx rfl (hb hby at_299) (ldAt hL49 rfl) (XS.i2b X128.here hx rfl (hb hby at_301) rfl k)))))) ?_
      obtain ⟨x302_130, hx302_130⟩ : ∃ z : Int32, z = (y14_179_46.toInt8.toInt32) := ⟨_, rfl⟩
      refine Gl.cast (B := (T128.setTop (mkF m 302 L49 [(.int x302_130), (.int (3 : Int32)), (.ref b7)]))) (by rw [hx302_130]) ?_
      obtain ⟨cl131, Ar131, q131, S131, P131, H131, G131⟩ := (id V128)
      have hin302_131 : ¬ ((3 : Int32) < 0 ∨ cl131.slots.size ≤ ((3 : Int32)).toNatClampNeg) := inb_of S131 ⟨by decide, by decide⟩
      obtain ⟨T131, h131, X131, e131, W131, st131⟩ := stB X128 hx hZ e128 Ar131 (j := (3 : Int32)) hin302_131 (g := (mkF m 302 L49 [(.int x302_130), (.int (3 : Int32)), (.ref b7)])) rfl rfl (hb hby at_302)
      have V131 : Arv Z h131 b7 k7 .byte (10 : Int32) [(.int (nar .byte x209_121)), (.int (nar .byte x240_124)), (.int (nar .byte x271_127)), (.int (nar .byte x302_130)), (.int (nar .byte x93_22)), (.int (nar .byte x104_25)), (.int (nar .byte x116_28)), (.int (nar .byte x128_31)), (.int (nar .byte x136_34)), (.int (nar .byte x147_37))] (.int (0 : Int32)) := Arv.set Ar131 q131 S131 P131 H131 G131 (fits_nar_byte _) W131 3 rfl (Nat.le_of_ble_eq_true rfl)
      have Zc132 : n0 ≤ h131.size := Nat.le_trans Zc129 (Nat.le_of_eq W131.size.symm)
      have N131 := Fr.snoc X131 N128 g_b7
      refine Gl.st (B := (T131.setTop (mkF m 303 L49 []))) st131 ?_
      refine Gl.st (B := (T131.setTop (mkF m 324 L49 [(.long (4294967295 : Int64)), (.long (p1.toInt64))]))) (fun t k => XS.iload X131.here hx rfl (hb hby at_303) (ldAt hL49 rfl) (XS.iconst X131.here hx rfl (hb hby at_305) (XS.icmpYes X131.here hx rfl (pc0 := 306) (pc' := 319) rfl (hb hby at_306) rfl (by decide) (by decide) (by decide) (XS.iloadN X131.here hx rfl (hb hby at_319) (ldAt hL49 rfl) (XS.i2l X131.here hx rfl (hb hby at_320) rfl (X131.ldc2Long hx hown (mvT hZ (tw hw 2 rfl)) (g := (mkF m 321 L49 [(.long (p1.toInt64))])) rfl (hb hby at_321) _ k)))))) ?_
      refine Gl.st (B := (T131.setTop (mkF m 325 L49 [(.long ((p1.toInt64) &&& (4294967295 : Int64)))]))) (fun t k => XS.land X131.here hx rfl (hb hby at_324) rfl k) ?_
      obtain ⟨y16_325_133, hy16_325_133⟩ : ∃ z : Int64, z = ((p1.toInt64) &&& (4294967295 : Int64)) := ⟨_, rfl⟩
      refine Gl.cast (B := (T131.setTop (mkF m 325 L49 [(.long y16_325_133)]))) (by rw [hy16_325_133]) ?_
      obtain ⟨L134, hL134⟩ : ∃ z : Array Slot, z = #[.val (.int p1), .val (.int p2), .val (.int p3), .val (.int p4), .val (.long q5), .second, .val (.int p6), .val (.int (4 : Int32)), .val (.int (0 : Int32)), .val (.int y9_34_5), .val (.ref b7), .val (.int y11_152_40), .val (.int y12_161_42), .val (.int y13_170_44), .val (.int y14_179_46), .val (.int y15_185_48), .val (.long y16_325_133), .second, .unset, .unset] := ⟨_, rfl⟩
      refine Gl.st (B := (T131.setTop (mkF m 341 L134 [(.long (1 : Int64)), (.long y16_325_133)]))) (fun t k => XS.lstore X131.here hx rfl (hb hby at_325) rfl (l' := L134) (stAt hL49 hL134 rfl rfl) (XS.iload X131.here hx rfl (hb hby at_327) (ldAt hL134 rfl) (XS.iconst X131.here hx rfl (hb hby at_329) (XS.icmpYes X131.here hx rfl (pc0 := 330) (pc' := 338) rfl (hb hby at_330) rfl (by decide) (by decide) (by decide) (XS.lload X131.here hx rfl (hb hby at_338) (ldAt hL134 rfl) (XS.lconst X131.here hx rfl (hb hby at_340) k)))))) ?_
      refine Gl.st (B := (T131.setTop (mkF m 349 L134 [(.long (((1 : Int64) <<< ((28 : Int32) &&& 0x3f).toInt64) - (1 : Int64))), (.long y16_325_133)]))) (fun t k => XS.bipush X131.here hx rfl (hb hby at_341) (XS.iload X131.here hx rfl (hb hby at_343) (ldAt hL134 rfl) (XS.imul X131.here hx rfl (hb hby at_345) rfl (XS.lshl X131.here hx rfl (hb hby at_346) rfl (XS.lconst X131.here hx rfl (hb hby at_347) (XS.lsub X131.here hx rfl (hb hby at_348) rfl k)))))) ?_
      refine Gl.st (B := (T131.setTop (mkF m 350 L134 [(.long (y16_325_133 &&& (((1 : Int64) <<< ((28 : Int32) &&& 0x3f).toInt64) - (1 : Int64))))]))) (fun t k => XS.land X131.here hx rfl (hb hby at_349) rfl k) ?_
      obtain ⟨y18_350_135, hy18_350_135⟩ : ∃ z : Int64, z = (y16_325_133 &&& (((1 : Int64) <<< ((28 : Int32) &&& 0x3f).toInt64) - (1 : Int64))) := ⟨_, rfl⟩
      refine Gl.cast (B := (T131.setTop (mkF m 350 L134 [(.long y18_350_135)]))) (by rw [hy18_350_135]) ?_
      obtain ⟨L136, hL136⟩ : ∃ z : Array Slot, z = #[.val (.int p1), .val (.int p2), .val (.int p3), .val (.int p4), .val (.long q5), .second, .val (.int p6), .val (.int (4 : Int32)), .val (.int (0 : Int32)), .val (.int y9_34_5), .val (.ref b7), .val (.int y11_152_40), .val (.int y12_161_42), .val (.int y13_170_44), .val (.int y14_179_46), .val (.int y15_185_48), .val (.long y16_325_133), .second, .val (.long y18_350_135), .second] := ⟨_, rfl⟩
      refine Gl.st (B := (T131.setTop (mkF m 358 L136 [(.int y9_34_5), (.int (0 : Int32)), (.ref b7)]))) (fun t k => XS.lstore X131.here hx rfl (hb hby at_350) rfl (l' := L136) (stAt hL134 hL136 rfl rfl) (XS.aload X131.here hx rfl (hb hby at_352) (ldAt hL136 rfl) rfl (XS.iload X131.here hx rfl (hb hby at_354) (ldAt hL136 rfl) (XS.iload X131.here hx rfl (hb hby at_356) (ldAt hL136 rfl) k)))) ?_
      obtain ⟨cl138, Ar138, q138, S138, P138, H138, G138⟩ := (id V131)
      have hin40_1_139 : ¬ (((0 : Int32) + (0 : Int32)) < 0 ∨ cl138.slots.size ≤ (((0 : Int32) + (0 : Int32))).toNatClampNeg) := inb_of S138 ⟨by decide, by decide⟩
      have hin40_2_140 : ¬ (((0 : Int32) + (1 : Int32)) < 0 ∨ cl138.slots.size ≤ (((0 : Int32) + (1 : Int32))).toNatClampNeg) := inb_of S138 ⟨by decide, by decide⟩
      have hin40_3_141 : ¬ (((0 : Int32) + (2 : Int32)) < 0 ∨ cl138.slots.size ≤ (((0 : Int32) + (2 : Int32))).toNatClampNeg) := inb_of S138 ⟨by decide, by decide⟩
      have hin40_4_142 : ¬ (((0 : Int32) + (3 : Int32)) < 0 ∨ cl138.slots.size ≤ (((0 : Int32) + (3 : Int32))).toNatClampNeg) := inb_of S138 ⟨by decide, by decide⟩
      have hp358_143 : ¬ ((((10 : Int32) ||| (0 : Int32)) ||| y9_34_5) < (0 : Int32)) := own_0_hp358_143 p4 y9_34_5 hy9_34_5 
      have hp358_144 : ¬ (((10 : Int32) - (0 : Int32)) < y9_34_5) := own_0_hp358_144 p4 y9_34_5 hy9_34_5 
      have hp358_145 : ¬ ((0 : Int32) = y9_34_5) := own_0_hp358_145 p4 y9_34_5 hy9_34_5 
      have hp358_146 : ¬ ((((nar .byte x209_121) &&& (255 : Int32))) < (128 : Int32)) := own_0_hp358_146 p1 y11_152_40 x209_121 hy11_152_40 hx209_121 
      have hp358_147 : ¬ ((1 : Int32) = y9_34_5) := own_0_hp358_147 p4 y9_34_5 hy9_34_5 
      have hp358_148 : ¬ ((((nar .byte x240_124) &&& (255 : Int32))) < (128 : Int32)) := own_0_hp358_148 p1 y12_161_42 x240_124 hy12_161_42 hx240_124 
      have hp358_149 : ¬ ((2 : Int32) = y9_34_5) := own_0_hp358_149 p4 y9_34_5 hy9_34_5 
      have hp358_150 : ¬ ((((nar .byte x271_127) &&& (255 : Int32))) < (128 : Int32)) := own_0_hp358_150 p1 y13_170_44 x271_127 hy13_170_44 hx271_127 
      have hp358_151 : ¬ ((3 : Int32) = y9_34_5) := own_0_hp358_151 p4 y9_34_5 hy9_34_5 
      have hp358_152 : (((nar .byte x302_130) &&& (255 : Int32))) < (128 : Int32) := own_0_hp358_152 p1 y14_179_46 x302_130 hy14_179_46 hx302_130 
      have hp358_153 : ¬ ((4294967295 : Int64) < (((((((((0 : Int64) ||| ((((((nar .byte x209_121) &&& (255 : Int32))) &&& (127 : Int32)).toInt64) <<< ((0 : Int32) &&& 0x3f).toInt64))) ||| ((((((nar .byte x240_124) &&& (255 : Int32))) &&& (127 : Int32)).toInt64) <<< ((7 : Int32) &&& 0x3f).toInt64))) ||| ((((((nar .byte x271_127) &&& (255 : Int32))) &&& (127 : Int32)).toInt64) <<< ((14 : Int32) &&& 0x3f).toInt64))) ||| ((((((nar .byte x302_130) &&& (255 : Int32))) &&& (127 : Int32)).toInt64) <<< ((21 : Int32) &&& 0x3f).toInt64)))) := own_0_hp358_153 p1 y11_152_40 x209_121 y12_161_42 x240_124 y13_170_44 x271_127 y14_179_46 x302_130 hy11_152_40 hx209_121 hy12_161_42 hx240_124 hy13_170_44 hx271_127 hy14_179_46 hx302_130 
      obtain ⟨_, _, ⟨T137, L137q, k137, n137⟩, -, X137, ⟨Lc137, hQ137, l137, y137, z137⟩, st137⟩ := Jvm.LawKit.callS X131 hx (y := (⟨"com/example/requeue/requeue/connection/SnappyBlock", "uncompressedLength", "([BII)J"⟩ : MethodName)) hown (mvT hZ (tw hw 3 rfl)) (mvT hZ (tw hw 4 rfl)) (mvT hZ (tw hw 5 rfl)) (mvT hZ (tw hw 6 rfl)) (by decide) (backOf (W := 0) (rm1k4 l Z a0 hw [] b7 (0 : Int32) y9_34_5 cl138 (nar .byte x209_121) (nar .byte x240_124) (nar .byte x271_127) (nar .byte x302_130) h131 n0 Zc132 Ar138 S138 P138 hp358_143 hp358_144 hp358_145 hin40_1_139 (Has.at H138 hin40_1_139 (v := (.int (nar .byte x209_121))) rfl) hp358_146 hp358_147 hin40_2_140 (Has.at H138 hin40_2_140 (v := (.int (nar .byte x240_124))) rfl) hp358_148 hp358_149 hin40_3_141 (Has.at H138 hin40_3_141 (v := (.int (nar .byte x271_127))) rfl) hp358_150 hp358_151 hin40_4_142 (Has.at H138 hin40_4_142 (v := (.int (nar .byte x302_130))) rfl) hp358_152 hp358_153) hZ (tw hw 6 rfl) (tw hw 5 rfl) (by decide) (by decide)) (g := (mkF m 358 L136 [(.int y9_34_5), (.int (0 : Int32)), (.ref b7)])) rfl (szAt hml hL136 rfl) (argsL := [(.ref b7), (.int (0 : Int32)), (.int y9_34_5)]) (rest := []) (lenOf pd_0_0 rfl) rfl (by show 2 * 0 + _ ≤ _; exact Nat.le_of_eq rfl) (hb hby at_358) (fun _ _ => ⟨rfl, e131, (by decide : 1 + 0 ≤ _), (by decide : 10 + 0 ≤ _)⟩)
      dsimp only [Pt.U, Pt.locs, Pt.cells, Pt.slots] at X137 l137 y137 z137 st137 hQ137
      subst l137 y137 z137
      obtain ⟨rfl, N137q, eh137⟩ := hQ137
      have N137 := Fr.app N131 N137q
      refine Gl.st (B := (T137.setTop (mkF m 361 L136 [(.long (((((((((0 : Int64) ||| ((((((nar .byte x209_121) &&& (255 : Int32))) &&& (127 : Int32)).toInt64) <<< ((0 : Int32) &&& 0x3f).toInt64))) ||| ((((((nar .byte x240_124) &&& (255 : Int32))) &&& (127 : Int32)).toInt64) <<< ((7 : Int32) &&& 0x3f).toInt64))) ||| ((((((nar .byte x271_127) &&& (255 : Int32))) &&& (127 : Int32)).toInt64) <<< ((14 : Int32) &&& 0x3f).toInt64))) ||| ((((((nar .byte x302_130) &&& (255 : Int32))) &&& (127 : Int32)).toInt64) <<< ((21 : Int32) &&& 0x3f).toInt64))))]))) (fun t k => st137 t k) ?_
      obtain ⟨r358_154, hr358_154⟩ : ∃ z : Int64, z = (((((((((0 : Int64) ||| ((((((nar .byte x209_121) &&& (255 : Int32))) &&& (127 : Int32)).toInt64) <<< ((0 : Int32) &&& 0x3f).toInt64))) ||| ((((((nar .byte x240_124) &&& (255 : Int32))) &&& (127 : Int32)).toInt64) <<< ((7 : Int32) &&& 0x3f).toInt64))) ||| ((((((nar .byte x271_127) &&& (255 : Int32))) &&& (127 : Int32)).toInt64) <<< ((14 : Int32) &&& 0x3f).toInt64))) ||| ((((((nar .byte x302_130) &&& (255 : Int32))) &&& (127 : Int32)).toInt64) <<< ((21 : Int32) &&& 0x3f).toInt64))) := ⟨_, rfl⟩
      refine Gl.cast (B := (T137.setTop (mkF m 361 L136 [(.long r358_154)]))) (by rw [hr358_154]) ?_
      refine Gl.st (B := (T137.setTop (mkF m 364 L136 [(.int (lcmpW r358_154 y18_350_135))]))) (fun t k => XS.lload X137.here hx rfl (hb hby at_361) (ldAt hL136 rfl) (XS.lcmp X137.here hx rfl (hb hby at_363) rfl k)) ?_
      have hc364_155 : r358_154 = y18_350_135 := own_0_hc364_155 p1 y11_152_40 x209_121 y12_161_42 x240_124 y13_170_44 x271_127 y14_179_46 x302_130 r358_154 y16_325_133 y18_350_135 hy11_152_40 hx209_121 hy12_161_42 hx240_124 hy13_170_44 hx271_127 hy14_179_46 hx302_130 hr358_154 hy16_325_133 hy18_350_135 
      refine Gl.st (B := (T137.setTop (mkF m 372 L136 [(.int (1 : Int32))]))) (fun t k => XS.ifNo X137.here hx rfl (hb hby at_364) rfl ((if0 _ _).trans (teq ((lw_eq r358_154 y18_350_135).mpr hc364_155)).2) (XS.iconst X137.here hx rfl (hb hby at_367) (XS.goto X137.here hx rfl (pc0 := 368) (pc' := 372) rfl (hb hby at_368) (by decide) (by decide) k))) ?_
      obtain ⟨fs, hr, hrun, hended, hW, hsame⟩ := X137.leave (v := some (.int (nar .boolean (1 : Int32)))) (fun h => by rw [Bd.returns] at h; cases h)
      refine Gl.fin (retN X137 hx (t := .boolean) Bd.returns (by simp) (hb hby at_372) hr) hrun hended ⟨_, _, rfl, ?_, ⟨_, rfl⟩, hW, hsame.mono (by decide) (by decide)⟩
      show Q0 Z p1 p2 p3 p4 q5 p6 h0 n0 _ T137.heap _
      rw [eh137]
      exact ⟨rfl, N137⟩
    · skip
      subst hk
      refine Gl.st (B := (T38.setTop (mkF m 199 L49 [(.int y11_152_40), (.int (0 : Int32)), (.ref b7)]))) (fun t k => XS.aload X38.here hx rfl (hb hby at_187) (ldAt hL49 rfl) rfl (XS.iload X38.here hx rfl (hb hby at_189) (ldAt hL49 rfl) (XS.iload X38.here hx rfl (hb hby at_191) (ldAt hL49 rfl) (XS.iconst X38.here hx rfl (hb hby at_193) (XS.icmpNo X38.here hx rfl (hb hby at_194) rfl (by decide) (XS.iload X38.here hx rfl (hb hby at_197) (ldAt hL49 rfl) k)))))) ?_
      refine Gl.st (B := (T38.setTop (mkF m 209 L49 [(.int ((y11_152_40 ||| (128 : Int32)).toInt8.toInt32)), (.int (0 : Int32)), (.ref b7)]))) (fun t k => XS.sipush X38.here hx rfl (hb hby at_199) (XS.ior X38.here hx rfl (hb hby at_202) rfl (XS.goto X38.here hx rfl (pc0 := 203) (pc' := 208) rfl (hb hby at_203) (by decide) (by decide) (XS.i2b X38.here hx rfl (hb hby at_208) rfl k)))) ?_
      obtain ⟨x209_156, hx209_156⟩ : ∃ z : Int32, z = ((y11_152_40 ||| (128 : Int32)).toInt8.toInt32) := ⟨_, rfl⟩
      refine Gl.cast (B := (T38.setTop (mkF m 209 L49 [(.int x209_156), (.int (0 : Int32)), (.ref b7)]))) (by rw [hx209_156]) ?_
      obtain ⟨cl157, Ar157, q157, S157, P157, H157, G157⟩ := (id V38)
      have hin209_157 : ¬ ((0 : Int32) < 0 ∨ cl157.slots.size ≤ ((0 : Int32)).toNatClampNeg) := inb_of S157 ⟨by decide, by decide⟩
      obtain ⟨T157, h157, X157, e157, W157, st157⟩ := stB X38 hx hZ e38 Ar157 (j := (0 : Int32)) hin209_157 (g := (mkF m 209 L49 [(.int x209_156), (.int (0 : Int32)), (.ref b7)])) rfl rfl (hb hby at_209)
      have V157 : Arv Z h157 b7 k7 .byte (10 : Int32) [(.int (nar .byte x209_156)), (.int (nar .byte x60_13)), (.int (nar .byte x71_16)), (.int (nar .byte x82_19)), (.int (nar .byte x93_22)), (.int (nar .byte x104_25)), (.int (nar .byte x116_28)), (.int (nar .byte x128_31)), (.int (nar .byte x136_34)), (.int (nar .byte x147_37))] (.int (0 : Int32)) := Arv.set Ar157 q157 S157 P157 H157 G157 (fits_nar_byte _) W157 0 rfl (Nat.le_of_ble_eq_true rfl)
      have Zc158 : n0 ≤ h157.size := Nat.le_trans Zc39 (Nat.le_of_eq W157.size.symm)
      have N157 := Fr.snoc X157 N38 g_b7
      refine Gl.st (B := (T157.setTop (mkF m 210 L49 []))) st157 ?_
      refine Gl.st (B := (T157.setTop (mkF m 221 L49 [(.int (1 : Int32)), (.int (0 : Int32)), (.ref b7)]))) (fun t k => XS.iload X157.here hx rfl (hb hby at_210) (ldAt hL49 rfl) (XS.iconst X157.here hx rfl (hb hby at_212) (XS.icmpNo X157.here hx rfl (hb hby at_213) rfl (by decide) (XS.aload X157.here hx rfl (hb hby at_216) (ldAt hL49 rfl) rfl (XS.iload X157.here hx rfl (hb hby at_218) (ldAt hL49 rfl) (XS.iconst X157.here hx rfl (hb hby at_220) k)))))) ?_
      refine Gl.st (B := (T157.setTop (mkF m 233 L49 [(.int (128 : Int32)), (.int y12_161_42), (.int (1 : Int32)), (.ref b7)]))) (fun t k => XS.iadd X157.here hx rfl (hb hby at_221) rfl (XS.iload X157.here hx rfl (hb hby at_222) (ldAt hL49 rfl) (XS.iconst X157.here hx rfl (hb hby at_224) (XS.icmpNo X157.here hx rfl (hb hby at_225) rfl (by decide) (XS.iload X157.here hx rfl (hb hby at_228) (ldAt hL49 rfl) (XS.sipush X157.here hx rfl (hb hby at_230) k)))))) ?_
      refine Gl.st (B := (T157.setTop (mkF m 240 L49 [(.int ((y12_161_42 ||| (128 : Int32)).toInt8.toInt32)), (.int (1 : Int32)), (.ref b7)]))) (fun t k => XS.ior X157.here hx rfl (hb hby at_233) rfl (XS.goto X157.here hx rfl (pc0 := 234) (pc' := 239) rfl (hb hby at_234) (by decide) (by decide) (XS.i2b X157.here hx rfl (hb hby at_239) rfl k))) ?_
      obtain ⟨x240_159, hx240_159⟩ : ∃ z : Int32, z = ((y12_161_42 ||| (128 : Int32)).toInt8.toInt32) := ⟨_, rfl⟩
      refine Gl.cast (B := (T157.setTop (mkF m 240 L49 [(.int x240_159), (.int (1 : Int32)), (.ref b7)]))) (by rw [hx240_159]) ?_
      obtain ⟨cl160, Ar160, q160, S160, P160, H160, G160⟩ := (id V157)
      have hin240_160 : ¬ ((1 : Int32) < 0 ∨ cl160.slots.size ≤ ((1 : Int32)).toNatClampNeg) := inb_of S160 ⟨by decide, by decide⟩
      obtain ⟨T160, h160, X160, e160, W160, st160⟩ := stB X157 hx hZ e157 Ar160 (j := (1 : Int32)) hin240_160 (g := (mkF m 240 L49 [(.int x240_159), (.int (1 : Int32)), (.ref b7)])) rfl rfl (hb hby at_240)
      have V160 : Arv Z h160 b7 k7 .byte (10 : Int32) [(.int (nar .byte x209_156)), (.int (nar .byte x240_159)), (.int (nar .byte x71_16)), (.int (nar .byte x82_19)), (.int (nar .byte x93_22)), (.int (nar .byte x104_25)), (.int (nar .byte x116_28)), (.int (nar .byte x128_31)), (.int (nar .byte x136_34)), (.int (nar .byte x147_37))] (.int (0 : Int32)) := Arv.set Ar160 q160 S160 P160 H160 G160 (fits_nar_byte _) W160 1 rfl (Nat.le_of_ble_eq_true rfl)
      have Zc161 : n0 ≤ h160.size := Nat.le_trans Zc158 (Nat.le_of_eq W160.size.symm)
      have N160 := Fr.snoc X160 N157 g_b7
      refine Gl.st (B := (T160.setTop (mkF m 241 L49 []))) st160 ?_
      refine Gl.st (B := (T160.setTop (mkF m 252 L49 [(.int (2 : Int32)), (.int (0 : Int32)), (.ref b7)]))) (fun t k => XS.iload X160.here hx rfl (hb hby at_241) (ldAt hL49 rfl) (XS.iconst X160.here hx rfl (hb hby at_243) (XS.icmpNo X160.here hx rfl (hb hby at_244) rfl (by decide) (XS.aload X160.here hx rfl (hb hby at_247) (ldAt hL49 rfl) rfl (XS.iload X160.here hx rfl (hb hby at_249) (ldAt hL49 rfl) (XS.iconst X160.here hx rfl (hb hby at_251) k)))))) ?_
      refine Gl.st (B := (T160.setTop (mkF m 264 L49 [(.int (128 : Int32)), (.int y13_170_44), (.int (2 : Int32)), (.ref b7)]))) (fun t k => XS.iadd X160.here hx rfl (hb hby at_252) rfl (XS.iload X160.here hx rfl (hb hby at_253) (ldAt hL49 rfl) (XS.iconst X160.here hx rfl (hb hby at_255) (XS.icmpNo X160.here hx rfl (hb hby at_256) rfl (by decide) (XS.iload X160.here hx rfl (hb hby at_259) (ldAt hL49 rfl) (XS.sipush X160.here hx rfl (hb hby at_261) k)))))) ?_
      refine Gl.st (B := (T160.setTop (mkF m 271 L49 [(.int ((y13_170_44 ||| (128 : Int32)).toInt8.toInt32)), (.int (2 : Int32)), (.ref b7)]))) (fun t k => XS.ior X160.here hx rfl (hb hby at_264) rfl (XS.goto X160.here hx rfl (pc0 := 265) (pc' := 270) rfl (hb hby at_265) (by decide) (by decide) (XS.i2b X160.here hx rfl (hb hby at_270) rfl k))) ?_
      obtain ⟨x271_162, hx271_162⟩ : ∃ z : Int32, z = ((y13_170_44 ||| (128 : Int32)).toInt8.toInt32) := ⟨_, rfl⟩
      refine Gl.cast (B := (T160.setTop (mkF m 271 L49 [(.int x271_162), (.int (2 : Int32)), (.ref b7)]))) (by rw [hx271_162]) ?_
      obtain ⟨cl163, Ar163, q163, S163, P163, H163, G163⟩ := (id V160)
      have hin271_163 : ¬ ((2 : Int32) < 0 ∨ cl163.slots.size ≤ ((2 : Int32)).toNatClampNeg) := inb_of S163 ⟨by decide, by decide⟩
      obtain ⟨T163, h163, X163, e163, W163, st163⟩ := stB X160 hx hZ e160 Ar163 (j := (2 : Int32)) hin271_163 (g := (mkF m 271 L49 [(.int x271_162), (.int (2 : Int32)), (.ref b7)])) rfl rfl (hb hby at_271)
      have V163 : Arv Z h163 b7 k7 .byte (10 : Int32) [(.int (nar .byte x209_156)), (.int (nar .byte x240_159)), (.int (nar .byte x271_162)), (.int (nar .byte x82_19)), (.int (nar .byte x93_22)), (.int (nar .byte x104_25)), (.int (nar .byte x116_28)), (.int (nar .byte x128_31)), (.int (nar .byte x136_34)), (.int (nar .byte x147_37))] (.int (0 : Int32)) := Arv.set Ar163 q163 S163 P163 H163 G163 (fits_nar_byte _) W163 2 rfl (Nat.le_of_ble_eq_true rfl)
      have Zc164 : n0 ≤ h163.size := Nat.le_trans Zc161 (Nat.le_of_eq W163.size.symm)
      have N163 := Fr.snoc X163 N160 g_b7
      refine Gl.st (B := (T163.setTop (mkF m 272 L49 []))) st163 ?_
      refine Gl.st (B := (T163.setTop (mkF m 283 L49 [(.int (3 : Int32)), (.int (0 : Int32)), (.ref b7)]))) (fun t k => XS.iload X163.here hx rfl (hb hby at_272) (ldAt hL49 rfl) (XS.iconst X163.here hx rfl (hb hby at_274) (XS.icmpNo X163.here hx rfl (hb hby at_275) rfl (by decide) (XS.aload X163.here hx rfl (hb hby at_278) (ldAt hL49 rfl) rfl (XS.iload X163.here hx rfl (hb hby at_280) (ldAt hL49 rfl) (XS.iconst X163.here hx rfl (hb hby at_282) k)))))) ?_
      refine Gl.st (B := (T163.setTop (mkF m 295 L49 [(.int (128 : Int32)), (.int y14_179_46), (.int (3 : Int32)), (.ref b7)]))) (fun t k => XS.iadd X163.here hx rfl (hb hby at_283) rfl (XS.iload X163.here hx rfl (hb hby at_284) (ldAt hL49 rfl) (XS.iconst X163.here hx rfl (hb hby at_286) (XS.icmpNo X163.here hx rfl (hb hby at_287) rfl (by decide) (XS.iload X163.here hx rfl (hb hby at_290) (ldAt hL49 rfl) (XS.sipush X163.here hx rfl (hb hby at_292) k)))))) ?_
      refine Gl.st (B := (T163.setTop (mkF m 302 L49 [(.int ((y14_179_46 ||| (128 : Int32)).toInt8.toInt32)), (.int (3 : Int32)), (.ref b7)]))) (fun t k => XS.ior X163.here hx rfl (hb hby at_295) rfl (XS.goto X163.here hx rfl (pc0 := 296) (pc' := 301) rfl (hb hby at_296) (by decide) (by decide) (XS.i2b X163.here hx rfl (hb hby at_301) rfl k))) ?_
      obtain ⟨x302_165, hx302_165⟩ : ∃ z : Int32, z = ((y14_179_46 ||| (128 : Int32)).toInt8.toInt32) := ⟨_, rfl⟩
      refine Gl.cast (B := (T163.setTop (mkF m 302 L49 [(.int x302_165), (.int (3 : Int32)), (.ref b7)]))) (by rw [hx302_165]) ?_
      obtain ⟨cl166, Ar166, q166, S166, P166, H166, G166⟩ := (id V163)
      have hin302_166 : ¬ ((3 : Int32) < 0 ∨ cl166.slots.size ≤ ((3 : Int32)).toNatClampNeg) := inb_of S166 ⟨by decide, by decide⟩
      obtain ⟨T166, h166, X166, e166, W166, st166⟩ := stB X163 hx hZ e163 Ar166 (j := (3 : Int32)) hin302_166 (g := (mkF m 302 L49 [(.int x302_165), (.int (3 : Int32)), (.ref b7)])) rfl rfl (hb hby at_302)
      have V166 : Arv Z h166 b7 k7 .byte (10 : Int32) [(.int (nar .byte x209_156)), (.int (nar .byte x240_159)), (.int (nar .byte x271_162)), (.int (nar .byte x302_165)), (.int (nar .byte x93_22)), (.int (nar .byte x104_25)), (.int (nar .byte x116_28)), (.int (nar .byte x128_31)), (.int (nar .byte x136_34)), (.int (nar .byte x147_37))] (.int (0 : Int32)) := Arv.set Ar166 q166 S166 P166 H166 G166 (fits_nar_byte _) W166 3 rfl (Nat.le_of_ble_eq_true rfl)
      have Zc167 : n0 ≤ h166.size := Nat.le_trans Zc164 (Nat.le_of_eq W166.size.symm)
      have N166 := Fr.snoc X166 N163 g_b7
      refine Gl.st (B := (T166.setTop (mkF m 303 L49 []))) st166 ?_
      refine Gl.st (B := (T166.setTop (mkF m 314 L49 [(.int (4 : Int32)), (.int (0 : Int32)), (.ref b7)]))) (fun t k => XS.iload X166.here hx rfl (hb hby at_303) (ldAt hL49 rfl) (XS.iconst X166.here hx rfl (hb hby at_305) (XS.icmpNo X166.here hx rfl (hb hby at_306) rfl (by decide) (XS.aload X166.here hx rfl (hb hby at_309) (ldAt hL49 rfl) rfl (XS.iload X166.here hx rfl (hb hby at_311) (ldAt hL49 rfl) (XS.iconst X166.here hx rfl (hb hby at_313) k)))))) ?_
      refine Gl.st (B := (T166.setTop (mkF m 318 L49 [(.int (y15_185_48.toInt8.toInt32)), (.int (4 : Int32)), (.ref b7)]))) (fun t k => XS.iadd X166.here hx rfl (hb hby at_314) rfl (XS.iload X166.here hx rfl (hb hby at_315) (ldAt hL49 rfl) (XS.i2b X166.here hx rfl (hb hby at_317) rfl k))) ?_
      obtain ⟨x318_168, hx318_168⟩ : ∃ z : Int32, z = (y15_185_48.toInt8.toInt32) := ⟨_, rfl⟩
      refine Gl.cast (B := (T166.setTop (mkF m 318 L49 [(.int x318_168), (.int (4 : Int32)), (.ref b7)]))) (by rw [hx318_168]) ?_
      obtain ⟨cl169, Ar169, q169, S169, P169, H169, G169⟩ := (id V166)
      have hin318_169 : ¬ ((4 : Int32) < 0 ∨ cl169.slots.size ≤ ((4 : Int32)).toNatClampNeg) := inb_of S169 ⟨by decide, by decide⟩
      obtain ⟨T169, h169, X169, e169, W169, st169⟩ := stB X166 hx hZ e166 Ar169 (j := (4 : Int32)) hin318_169 (g := (mkF m 318 L49 [(.int x318_168), (.int (4 : Int32)), (.ref b7)])) rfl rfl (hb hby at_318)
      have V169 : Arv Z h169 b7 k7 .byte (10 : Int32) [(.int (nar .byte x209_156)), (.int (nar .byte x240_159)), (.int (nar .byte x271_162)), (.int (nar .byte x302_165)), (.int (nar .byte x318_168)), (.int (nar .byte x104_25)), (.int (nar .byte x116_28)), (.int (nar .byte x128_31)), (.int (nar .byte x136_34)), (.int (nar .byte x147_37))] (.int (0 : Int32)) := Arv.set Ar169 q169 S169 P169 H169 G169 (fits_nar_byte _) W169 4 rfl (Nat.le_of_ble_eq_true rfl)
      have Zc170 : n0 ≤ h169.size := Nat.le_trans Zc167 (Nat.le_of_eq W169.size.symm)
      have N169 := Fr.snoc X169 N166 g_b7
      refine Gl.st (B := (T169.setTop (mkF m 319 L49 []))) st169 ?_
      refine Gl.st (B := (T169.setTop (mkF m 325 L49 [(.long ((p1.toInt64) &&& (4294967295 : Int64)))]))) (fun t k => XS.iloadN X169.here hx rfl (hb hby at_319) (ldAt hL49 rfl) (XS.i2l X169.here hx rfl (hb hby at_320) rfl (X169.ldc2Long hx hown (mvT hZ (tw hw 2 rfl)) (g := (mkF m 321 L49 [(.long (p1.toInt64))])) rfl (hb hby at_321) _ (XS.land X169.here hx rfl (hb hby at_324) rfl k)))) ?_
      obtain ⟨y16_325_171, hy16_325_171⟩ : ∃ z : Int64, z = ((p1.toInt64) &&& (4294967295 : Int64)) := ⟨_, rfl⟩
      refine Gl.cast (B := (T169.setTop (mkF m 325 L49 [(.long y16_325_171)]))) (by rw [hy16_325_171]) ?_
      obtain ⟨L172, hL172⟩ : ∃ z : Array Slot, z = #[.val (.int p1), .val (.int p2), .val (.int p3), .val (.int p4), .val (.long q5), .second, .val (.int p6), .val (.int (5 : Int32)), .val (.int (0 : Int32)), .val (.int y9_34_5), .val (.ref b7), .val (.int y11_152_40), .val (.int y12_161_42), .val (.int y13_170_44), .val (.int y14_179_46), .val (.int y15_185_48), .val (.long y16_325_171), .second, .unset, .unset] := ⟨_, rfl⟩
      refine Gl.st (B := (T169.setTop (mkF m 350 L172 [(.long y16_325_171)]))) (fun t k => XS.lstore X169.here hx rfl (hb hby at_325) rfl (l' := L172) (stAt hL49 hL172 rfl rfl) (XS.iload X169.here hx rfl (hb hby at_327) (ldAt hL172 rfl) (XS.iconst X169.here hx rfl (hb hby at_329) (XS.icmpNo X169.here hx rfl (hb hby at_330) rfl (by decide) (XS.lload X169.here hx rfl (hb hby at_333) (ldAt hL172 rfl) (XS.goto X169.here hx rfl (pc0 := 335) (pc' := 350) rfl (hb hby at_335) (by decide) (by decide) k)))))) ?_
      obtain ⟨L173, hL173⟩ : ∃ z : Array Slot, z = #[.val (.int p1), .val (.int p2), .val (.int p3), .val (.int p4), .val (.long q5), .second, .val (.int p6), .val (.int (5 : Int32)), .val (.int (0 : Int32)), .val (.int y9_34_5), .val (.ref b7), .val (.int y11_152_40), .val (.int y12_161_42), .val (.int y13_170_44), .val (.int y14_179_46), .val (.int y15_185_48), .val (.long y16_325_171), .second, .val (.long y16_325_171), .second] := ⟨_, rfl⟩
      refine Gl.st (B := (T169.setTop (mkF m 358 L173 [(.int y9_34_5), (.int (0 : Int32)), (.ref b7)]))) (fun t k => XS.lstore X169.here hx rfl (hb hby at_350) rfl (l' := L173) (stAt hL172 hL173 rfl rfl) (XS.aload X169.here hx rfl (hb hby at_352) (ldAt hL173 rfl) rfl (XS.iload X169.here hx rfl (hb hby at_354) (ldAt hL173 rfl) (XS.iload X169.here hx rfl (hb hby at_356) (ldAt hL173 rfl) k)))) ?_
      obtain ⟨cl175, Ar175, q175, S175, P175, H175, G175⟩ := (id V169)
      have hin40_1_176 : ¬ (((0 : Int32) + (0 : Int32)) < 0 ∨ cl175.slots.size ≤ (((0 : Int32) + (0 : Int32))).toNatClampNeg) := inb_of S175 ⟨by decide, by decide⟩
      have hin40_2_177 : ¬ (((0 : Int32) + (1 : Int32)) < 0 ∨ cl175.slots.size ≤ (((0 : Int32) + (1 : Int32))).toNatClampNeg) := inb_of S175 ⟨by decide, by decide⟩
      have hin40_3_178 : ¬ (((0 : Int32) + (2 : Int32)) < 0 ∨ cl175.slots.size ≤ (((0 : Int32) + (2 : Int32))).toNatClampNeg) := inb_of S175 ⟨by decide, by decide⟩
      have hin40_4_179 : ¬ (((0 : Int32) + (3 : Int32)) < 0 ∨ cl175.slots.size ≤ (((0 : Int32) + (3 : Int32))).toNatClampNeg) := inb_of S175 ⟨by decide, by decide⟩
      have hin40_5_180 : ¬ (((0 : Int32) + (4 : Int32)) < 0 ∨ cl175.slots.size ≤ (((0 : Int32) + (4 : Int32))).toNatClampNeg) := inb_of S175 ⟨by decide, by decide⟩
      have hp358_181 : ¬ ((((10 : Int32) ||| (0 : Int32)) ||| y9_34_5) < (0 : Int32)) := own_0_hp358_181 p4 y9_34_5 hy9_34_5 
      have hp358_182 : ¬ (((10 : Int32) - (0 : Int32)) < y9_34_5) := own_0_hp358_182 p4 y9_34_5 hy9_34_5 
      have hp358_183 : ¬ ((0 : Int32) = y9_34_5) := own_0_hp358_183 p4 y9_34_5 hy9_34_5 
      have hp358_184 : ¬ ((((nar .byte x209_156) &&& (255 : Int32))) < (128 : Int32)) := own_0_hp358_184 p1 y11_152_40 x209_156 hy11_152_40 hx209_156 
      have hp358_185 : ¬ ((1 : Int32) = y9_34_5) := own_0_hp358_185 p4 y9_34_5 hy9_34_5 
      have hp358_186 : ¬ ((((nar .byte x240_159) &&& (255 : Int32))) < (128 : Int32)) := own_0_hp358_186 p1 y12_161_42 x240_159 hy12_161_42 hx240_159 
      have hp358_187 : ¬ ((2 : Int32) = y9_34_5) := own_0_hp358_187 p4 y9_34_5 hy9_34_5 
      have hp358_188 : ¬ ((((nar .byte x271_162) &&& (255 : Int32))) < (128 : Int32)) := own_0_hp358_188 p1 y13_170_44 x271_162 hy13_170_44 hx271_162 
      have hp358_189 : ¬ ((3 : Int32) = y9_34_5) := own_0_hp358_189 p4 y9_34_5 hy9_34_5 
      have hp358_190 : ¬ ((((nar .byte x302_165) &&& (255 : Int32))) < (128 : Int32)) := own_0_hp358_190 p1 y14_179_46 x302_165 hy14_179_46 hx302_165 
      have hp358_191 : ¬ ((4 : Int32) = y9_34_5) := own_0_hp358_191 p4 y9_34_5 hy9_34_5 
      have hp358_192 : (((nar .byte x318_168) &&& (255 : Int32))) < (128 : Int32) := own_0_hp358_192 p1 y15_185_48 x318_168 hy15_185_48 hx318_168 
      have hp358_193 : ¬ ((4294967295 : Int64) < (((((((((((0 : Int64) ||| ((((((nar .byte x209_156) &&& (255 : Int32))) &&& (127 : Int32)).toInt64) <<< ((0 : Int32) &&& 0x3f).toInt64))) ||| ((((((nar .byte x240_159) &&& (255 : Int32))) &&& (127 : Int32)).toInt64) <<< ((7 : Int32) &&& 0x3f).toInt64))) ||| ((((((nar .byte x271_162) &&& (255 : Int32))) &&& (127 : Int32)).toInt64) <<< ((14 : Int32) &&& 0x3f).toInt64))) ||| ((((((nar .byte x302_165) &&& (255 : Int32))) &&& (127 : Int32)).toInt64) <<< ((21 : Int32) &&& 0x3f).toInt64))) ||| ((((((nar .byte x318_168) &&& (255 : Int32))) &&& (127 : Int32)).toInt64) <<< ((28 : Int32) &&& 0x3f).toInt64)))) := own_0_hp358_193 p1 y11_152_40 x209_156 y12_161_42 x240_159 y13_170_44 x271_162 y14_179_46 x302_165 y15_185_48 x318_168 hy11_152_40 hx209_156 hy12_161_42 hx240_159 hy13_170_44 hx271_162 hy14_179_46 hx302_165 hy15_185_48 hx318_168 
      obtain ⟨_, _, ⟨T174, L174q, k174, n174⟩, -, X174, ⟨Lc174, hQ174, l174, y174, z174⟩, st174⟩ := Jvm.LawKit.callS X169 hx (y := (⟨"com/example/requeue/requeue/connection/SnappyBlock", "uncompressedLength", "([BII)J"⟩ : MethodName)) hown (mvT hZ (tw hw 3 rfl)) (mvT hZ (tw hw 4 rfl)) (mvT hZ (tw hw 5 rfl)) (mvT hZ (tw hw 6 rfl)) (by decide) (backOf (W := 0) (rm1k5 l Z a0 hw [] b7 (0 : Int32) y9_34_5 cl175 (nar .byte x209_156) (nar .byte x240_159) (nar .byte x271_162) (nar .byte x302_165) (nar .byte x318_168) h169 n0 Zc170 Ar175 S175 P175 hp358_181 hp358_182 hp358_183 hin40_1_176 (Has.at H175 hin40_1_176 (v := (.int (nar .byte x209_156))) rfl) hp358_184 hp358_185 hin40_2_177 (Has.at H175 hin40_2_177 (v := (.int (nar .byte x240_159))) rfl) hp358_186 hp358_187 hin40_3_178 (Has.at H175 hin40_3_178 (v := (.int (nar .byte x271_162))) rfl) hp358_188 hp358_189 hin40_4_179 (Has.at H175 hin40_4_179 (v := (.int (nar .byte x302_165))) rfl) hp358_190 hp358_191 hin40_5_180 (Has.at H175 hin40_5_180 (v := (.int (nar .byte x318_168))) rfl) hp358_192 hp358_193) hZ (tw hw 6 rfl) (tw hw 5 rfl) (by decide) (by decide)) (g := (mkF m 358 L173 [(.int y9_34_5), (.int (0 : Int32)), (.ref b7)])) rfl (szAt hml hL173 rfl) (argsL := [(.ref b7), (.int (0 : Int32)), (.int y9_34_5)]) (rest := []) (lenOf pd_0_0 rfl) rfl (by show 2 * 0 + _ ≤ _; exact Nat.le_of_eq rfl) (hb hby at_358) (fun _ _ => ⟨rfl, e169, (by decide : 1 + 0 ≤ _), (by decide : 10 + 0 ≤ _)⟩)
      dsimp only [Pt.U, Pt.locs, Pt.cells, Pt.slots] at X174 l174 y174 z174 st174 hQ174
      subst l174 y174 z174
      obtain ⟨rfl, N174q, eh174⟩ := hQ174
      have N174 := Fr.app N169 N174q
      refine Gl.st (B := (T174.setTop (mkF m 361 L173 [(.long (((((((((((0 : Int64) ||| ((((((nar .byte x209_156) &&& (255 : Int32))) &&& (127 : Int32)).toInt64) <<< ((0 : Int32) &&& 0x3f).toInt64))) ||| ((((((nar .byte x240_159) &&& (255 : Int32))) &&& (127 : Int32)).toInt64) <<< ((7 : Int32) &&& 0x3f).toInt64))) ||| ((((((nar .byte x271_162) &&& (255 : Int32))) &&& (127 : Int32)).toInt64) <<< ((14 : Int32) &&& 0x3f).toInt64))) ||| ((((((nar .byte x302_165) &&& (255 : Int32))) &&& (127 : Int32)).toInt64) <<< ((21 : Int32) &&& 0x3f).toInt64))) ||| ((((((nar .byte x318_168) &&& (255 : Int32))) &&& (127 : Int32)).toInt64) <<< ((28 : Int32) &&& 0x3f).toInt64))))]))) (fun t k => st174 t k) ?_
      obtain ⟨r358_194, hr358_194⟩ : ∃ z : Int64, z = (((((((((((0 : Int64) ||| ((((((nar .byte x209_156) &&& (255 : Int32))) &&& (127 : Int32)).toInt64) <<< ((0 : Int32) &&& 0x3f).toInt64))) ||| ((((((nar .byte x240_159) &&& (255 : Int32))) &&& (127 : Int32)).toInt64) <<< ((7 : Int32) &&& 0x3f).toInt64))) ||| ((((((nar .byte x271_162) &&& (255 : Int32))) &&& (127 : Int32)).toInt64) <<< ((14 : Int32) &&& 0x3f).toInt64))) ||| ((((((nar .byte x302_165) &&& (255 : Int32))) &&& (127 : Int32)).toInt64) <<< ((21 : Int32) &&& 0x3f).toInt64))) ||| ((((((nar .byte x318_168) &&& (255 : Int32))) &&& (127 : Int32)).toInt64) <<< ((28 : Int32) &&& 0x3f).toInt64))) := ⟨_, rfl⟩
      refine Gl.cast (B := (T174.setTop (mkF m 361 L173 [(.long r358_194)]))) (by rw [hr358_194]) ?_
      refine Gl.st (B := (T174.setTop (mkF m 364 L173 [(.int (lcmpW r358_194 y16_325_171))]))) (fun t k => XS.lload X174.here hx rfl (hb hby at_361) (ldAt hL173 rfl) (XS.lcmp X174.here hx rfl (hb hby at_363) rfl k)) ?_
      have hc364_195 : r358_194 = y16_325_171 := own_0_hc364_195 p1 y11_152_40 x209_156 y12_161_42 x240_159 y13_170_44 x271_162 y14_179_46 x302_165 y15_185_48 x318_168 r358_194 y16_325_171 hy11_152_40 hx209_156 hy12_161_42 hx240_159 hy13_170_44 hx271_162 hy14_179_46 hx302_165 hy15_185_48 hx318_168 hr358_194 hy16_325_171 
      refine Gl.st (B := (T174.setTop (mkF m 372 L173 [(.int (1 : Int32))]))) (fun t k => XS.ifNo X174.here hx rfl (hb hby at_364) rfl ((if0 _ _).trans (teq ((lw_eq r358_194 y16_325_171).mpr hc364_195)).2) (XS.iconst X174.here hx rfl (hb hby at_367) (XS.goto X174.here hx rfl (pc0 := 368) (pc' := 372) rfl (hb hby at_368) (by decide) (by decide) k))) ?_
      obtain ⟨fs, hr, hrun, hended, hW, hsame⟩ := X174.leave (v := some (.int (nar .boolean (1 : Int32)))) (fun h => by rw [Bd.returns] at h; cases h)
      refine Gl.fin (retN X174 hx (t := .boolean) Bd.returns (by simp) (hb hby at_372) hr) hrun hended ⟨_, _, rfl, ?_, ⟨_, rfl⟩, hW, hsame.mono (by decide) (by decide)⟩
      show Q0 Z p1 p2 p3 p4 q5 p6 h0 n0 _ T174.heap _
      rw [eh174]
      exact ⟨rfl, N174⟩
  · skip
    subst hk
    have hs196 : y7_8_1 = (1 : Int32) ∨ y7_8_1 = (2 : Int32) ∨ y7_8_1 = (3 : Int32) ∨ y7_8_1 = (4 : Int32) ∨ y7_8_1 = (5 : Int32) := by
      exact own_k _ _ hy7_8_1
    rcases hs196 with hk | hk | hk | hk | hk
    · skip
      subst hk
      refine Gl.st (B := (T38.setTop (mkF m 208 L49 [(.int y11_152_40), (.int (1 : Int32)), (.ref b7)]))) (fun t k => XS.aload X38.here hx rfl (hb hby at_187) (ldAt hL49 rfl) rfl (XS.iload X38.here hx rfl (hb hby at_189) (ldAt hL49 rfl) (XS.iload X38.here hx rfl (hb hby at_191) (ldAt hL49 rfl) (XS.iconst X38.here hx rfl (hb hby at_193) (XS.icmpYes X38.here hx rfl (pc0 := 194) (pc' := 206) rfl (hb hby at_194) rfl (by decide) (by decide) (by decide) (XS.iload X38.here hx rfl (hb hby at_206) (ldAt hL49 rfl) k)))))) ?_
      refine Gl.st (B := (T38.setTop (mkF m 209 L49 [(.int (y11_152_40.toInt8.toInt32)), (.int (1 : Int32)), (.ref b7)]))) (fun t k => XS.i2b X38.here hx rfl (hb hby at_208) rfl k) ?_
      obtain ⟨x209_197, hx209_197⟩ : ∃ z : Int32, z = (y11_152_40.toInt8.toInt32) := ⟨_, rfl⟩
      refine Gl.cast (B := (T38.setTop (mkF m 209 L49 [(.int x209_197), (.int (1 : Int32)), (.ref b7)]))) (by rw [hx209_197]) ?_
      obtain ⟨cl198, Ar198, q198, S198, P198, H198, G198⟩ := (id V38)
      have hin209_198 : ¬ ((1 : Int32) < 0 ∨ cl198.slots.size ≤ ((1 : Int32)).toNatClampNeg) := inb_of S198 ⟨by decide, by decide⟩
      obtain ⟨T198, h198, X198, e198, W198, st198⟩ := stB X38 hx hZ e38 Ar198 (j := (1 : Int32)) hin209_198 (g := (mkF m 209 L49 [(.int x209_197), (.int (1 : Int32)), (.ref b7)])) rfl rfl (hb hby at_209)
      have V198 : Arv Z h198 b7 k7 .byte (10 : Int32) [(.int (nar .byte x49_10)), (.int (nar .byte x209_197)), (.int (nar .byte x71_16)), (.int (nar .byte x82_19)), (.int (nar .byte x93_22)), (.int (nar .byte x104_25)), (.int (nar .byte x116_28)), (.int (nar .byte x128_31)), (.int (nar .byte x136_34)), (.int (nar .byte x147_37))] (.int (0 : Int32)) := Arv.set Ar198 q198 S198 P198 H198 G198 (fits_nar_byte _) W198 1 rfl (Nat.le_of_ble_eq_true rfl)
      have Zc199 : n0 ≤ h198.size := Nat.le_trans Zc39 (Nat.le_of_eq W198.size.symm)
      have N198 := Fr.snoc X198 N38 g_b7
      refine Gl.st (B := (T198.setTop (mkF m 210 L49 []))) st198 ?_
      refine Gl.st (B := (T198.setTop (mkF m 272 L49 []))) (fun t k => XS.iload X198.here hx rfl (hb hby at_210) (ldAt hL49 rfl) (XS.iconst X198.here hx rfl (hb hby at_212) (XS.icmpYes X198.here hx rfl (pc0 := 213) (pc' := 241) rfl (hb hby at_213) rfl (by decide) (by decide) (by decide) (XS.iload X198.here hx rfl (hb hby at_241) (ldAt hL49 rfl) (XS.iconst X198.here hx rfl (hb hby at_243) (XS.icmpYes X198.here hx rfl (pc0 := 244) (pc' := 272) rfl (hb hby at_244) rfl (by decide) (by decide) (by decide) k)))))) ?_
      refine Gl.st (B := (T198.setTop (mkF m 319 L49 []))) (fun t k => XS.iload X198.here hx rfl (hb hby at_272) (ldAt hL49 rfl) (XS.iconst X198.here hx rfl (hb hby at_274) (XS.icmpYes X198.here hx rfl (pc0 := 275) (pc' := 303) rfl (hb hby at_275) rfl (by decide) (by decide) (by decide) (XS.iload X198.here hx rfl (hb hby at_303) (ldAt hL49 rfl) (XS.iconst X198.here hx rfl (hb hby at_305) (XS.icmpYes X198.here hx rfl (pc0 := 306) (pc' := 319) rfl (hb hby at_306) rfl (by decide) (by decide) (by decide) k)))))) ?_
      refine Gl.st (B := (T198.setTop (mkF m 325 L49 [(.long ((p1.toInt64) &&& (4294967295 : Int64)))]))) (fun t k => XS.iloadN X198.here hx rfl (hb hby at_319) (ldAt hL49 rfl) (XS.i2l X198.here hx rfl (hb hby at_320) rfl (X198.ldc2Long hx hown (mvT hZ (tw hw 2 rfl)) (g := (mkF m 321 L49 [(.long (p1.toInt64))])) rfl (hb hby at_321) _ (XS.land X198.here hx rfl (hb hby at_324) rfl k)))) ?_
      obtain ⟨y16_325_200, hy16_325_200⟩ : ∃ z : Int64, z = ((p1.toInt64) &&& (4294967295 : Int64)) := ⟨_, rfl⟩
      refine Gl.cast (B := (T198.setTop (mkF m 325 L49 [(.long y16_325_200)]))) (by rw [hy16_325_200]) ?_
      obtain ⟨L201, hL201⟩ : ∃ z : Array Slot, z = #[.val (.int p1), .val (.int p2), .val (.int p3), .val (.int p4), .val (.long q5), .second, .val (.int p6), .val (.int (1 : Int32)), .val (.int (1 : Int32)), .val (.int y9_34_5), .val (.ref b7), .val (.int y11_152_40), .val (.int y12_161_42), .val (.int y13_170_44), .val (.int y14_179_46), .val (.int y15_185_48), .val (.long y16_325_200), .second, .unset, .unset] := ⟨_, rfl⟩
      refine Gl.st (B := (T198.setTop (mkF m 341 L201 [(.long (1 : Int64)), (.long y16_325_200)]))) (fun t k => XS.lstore X198.here hx rfl (hb hby at_325) rfl (l' := L201) (stAt hL49 hL201 rfl rfl) (XS.iload X198.here hx rfl (hb hby at_327) (ldAt hL201 rfl) (XS.iconst X198.here hx rfl (hb hby at_329) (XS.icmpYes X198.here hx rfl (pc0 := 330) (pc' := 338) rfl (hb hby at_330) rfl (by decide) (by decide) (by decide) (XS.lload X198.here hx rfl (hb hby at_338) (ldAt hL201 rfl) (XS.lconst X198.here hx rfl (hb hby at_340) k)))))) ?_
      refine Gl.st (B := (T198.setTop (mkF m 349 L201 [(.long (((1 : Int64) <<< ((7 : Int32) &&& 0x3f).toInt64) - (1 : Int64))), (.long y16_325_200)]))) (fun t k => XS.bipush X198.here hx rfl (hb hby at_341) (XS.iload X198.here hx rfl (hb hby at_343) (ldAt hL201 rfl) (XS.imul X198.here hx rfl (hb hby at_345) rfl (XS.lshl X198.here hx rfl (hb hby at_346) rfl (XS.lconst X198.here hx rfl (hb hby at_347) (XS.lsub X198.here hx rfl (hb hby at_348) rfl k)))))) ?_
      refine Gl.st (B := (T198.setTop (mkF m 350 L201 [(.long (y16_325_200 &&& (((1 : Int64) <<< ((7 : Int32) &&& 0x3f).toInt64) - (1 : Int64))))]))) (fun t k => XS.land X198.here hx rfl (hb hby at_349) rfl k) ?_
      obtain ⟨y18_350_202, hy18_350_202⟩ : ∃ z : Int64, z = (y16_325_200 &&& (((1 : Int64) <<< ((7 : Int32) &&& 0x3f).toInt64) - (1 : Int64))) := ⟨_, rfl⟩
      refine Gl.cast (B := (T198.setTop (mkF m 350 L201 [(.long y18_350_202)]))) (by rw [hy18_350_202]) ?_
      obtain ⟨L203, hL203⟩ : ∃ z : Array Slot, z = #[.val (.int p1), .val (.int p2), .val (.int p3), .val (.int p4), .val (.long q5), .second, .val (.int p6), .val (.int (1 : Int32)), .val (.int (1 : Int32)), .val (.int y9_34_5), .val (.ref b7), .val (.int y11_152_40), .val (.int y12_161_42), .val (.int y13_170_44), .val (.int y14_179_46), .val (.int y15_185_48), .val (.long y16_325_200), .second, .val (.long y18_350_202), .second] := ⟨_, rfl⟩
      refine Gl.st (B := (T198.setTop (mkF m 358 L203 [(.int y9_34_5), (.int (1 : Int32)), (.ref b7)]))) (fun t k => XS.lstore X198.here hx rfl (hb hby at_350) rfl (l' := L203) (stAt hL201 hL203 rfl rfl) (XS.aload X198.here hx rfl (hb hby at_352) (ldAt hL203 rfl) rfl (XS.iload X198.here hx rfl (hb hby at_354) (ldAt hL203 rfl) (XS.iload X198.here hx rfl (hb hby at_356) (ldAt hL203 rfl) k)))) ?_
      obtain ⟨cl205, Ar205, q205, S205, P205, H205, G205⟩ := (id V198)
      have hin40_1_206 : ¬ (((1 : Int32) + (0 : Int32)) < 0 ∨ cl205.slots.size ≤ (((1 : Int32) + (0 : Int32))).toNatClampNeg) := inb_of S205 ⟨by decide, by decide⟩
      have hp358_207 : ¬ ((((10 : Int32) ||| (1 : Int32)) ||| y9_34_5) < (0 : Int32)) := own_0_hp358_207 p4 y9_34_5 hy9_34_5 
      have hp358_208 : ¬ (((10 : Int32) - (1 : Int32)) < y9_34_5) := own_0_hp358_208 p4 y9_34_5 hy9_34_5 
      have hp358_209 : ¬ ((0 : Int32) = y9_34_5) := own_0_hp358_209 p4 y9_34_5 hy9_34_5 
      have hp358_210 : (((nar .byte x209_197) &&& (255 : Int32))) < (128 : Int32) := own_0_hp358_210 p1 y11_152_40 x209_197 hy11_152_40 hx209_197 
      have hp358_211 : ¬ ((4294967295 : Int64) < (((0 : Int64) ||| ((((((nar .byte x209_197) &&& (255 : Int32))) &&& (127 : Int32)).toInt64) <<< ((0 : Int32) &&& 0x3f).toInt64)))) := own_0_hp358_211 p1 y11_152_40 x209_197 hy11_152_40 hx209_197 
      obtain ⟨_, _, ⟨T204, L204q, k204, n204⟩, -, X204, ⟨Lc204, hQ204, l204, y204, z204⟩, st204⟩ := Jvm.LawKit.callS X198 hx (y := (⟨"com/example/requeue/requeue/connection/SnappyBlock", "uncompressedLength", "([BII)J"⟩ : MethodName)) hown (mvT hZ (tw hw 3 rfl)) (mvT hZ (tw hw 4 rfl)) (mvT hZ (tw hw 5 rfl)) (mvT hZ (tw hw 6 rfl)) (by decide) (backOf (W := 0) (rm1k1 l Z a0 hw [] b7 (1 : Int32) y9_34_5 cl205 (nar .byte x209_197) h198 n0 Zc199 Ar205 S205 P205 hp358_207 hp358_208 hp358_209 hin40_1_206 (Has.at H205 hin40_1_206 (v := (.int (nar .byte x209_197))) rfl) hp358_210 hp358_211) hZ (tw hw 6 rfl) (tw hw 5 rfl) (by decide) (by decide)) (g := (mkF m 358 L203 [(.int y9_34_5), (.int (1 : Int32)), (.ref b7)])) rfl (szAt hml hL203 rfl) (argsL := [(.ref b7), (.int (1 : Int32)), (.int y9_34_5)]) (rest := []) (lenOf pd_0_0 rfl) rfl (by show 2 * 0 + _ ≤ _; exact Nat.le_of_eq rfl) (hb hby at_358) (fun _ _ => ⟨rfl, e198, (by decide : 1 + 0 ≤ _), (by decide : 10 + 0 ≤ _)⟩)
      dsimp only [Pt.U, Pt.locs, Pt.cells, Pt.slots] at X204 l204 y204 z204 st204 hQ204
      subst l204 y204 z204
      obtain ⟨rfl, N204q, eh204⟩ := hQ204
      have N204 := Fr.app N198 N204q
      refine Gl.st (B := (T204.setTop (mkF m 361 L203 [(.long (((0 : Int64) ||| ((((((nar .byte x209_197) &&& (255 : Int32))) &&& (127 : Int32)).toInt64) <<< ((0 : Int32) &&& 0x3f).toInt64))))]))) (fun t k => st204 t k) ?_
      obtain ⟨r358_212, hr358_212⟩ : ∃ z : Int64, z = (((0 : Int64) ||| ((((((nar .byte x209_197) &&& (255 : Int32))) &&& (127 : Int32)).toInt64) <<< ((0 : Int32) &&& 0x3f).toInt64))) := ⟨_, rfl⟩
      refine Gl.cast (B := (T204.setTop (mkF m 361 L203 [(.long r358_212)]))) (by rw [hr358_212]) ?_
      refine Gl.st (B := (T204.setTop (mkF m 364 L203 [(.int (lcmpW r358_212 y18_350_202))]))) (fun t k => XS.lload X204.here hx rfl (hb hby at_361) (ldAt hL203 rfl) (XS.lcmp X204.here hx rfl (hb hby at_363) rfl k)) ?_
      have hc364_213 : r358_212 = y18_350_202 := own_0_hc364_213 p1 y11_152_40 x209_197 r358_212 y16_325_200 y18_350_202 hy11_152_40 hx209_197 hr358_212 hy16_325_200 hy18_350_202 
      refine Gl.st (B := (T204.setTop (mkF m 372 L203 [(.int (1 : Int32))]))) (fun t k => XS.ifNo X204.here hx rfl (hb hby at_364) rfl ((if0 _ _).trans (teq ((lw_eq r358_212 y18_350_202).mpr hc364_213)).2) (XS.iconst X204.here hx rfl (hb hby at_367) (XS.goto X204.here hx rfl (pc0 := 368) (pc' := 372) rfl (hb hby at_368) (by decide) (by decide) k))) ?_
      obtain ⟨fs, hr, hrun, hended, hW, hsame⟩ := X204.leave (v := some (.int (nar .boolean (1 : Int32)))) (fun h => by rw [Bd.returns] at h; cases h)
      refine Gl.fin (retN X204 hx (t := .boolean) Bd.returns (by simp) (hb hby at_372) hr) hrun hended ⟨_, _, rfl, ?_, ⟨_, rfl⟩, hW, hsame.mono (by decide) (by decide)⟩
      show Q0 Z p1 p2 p3 p4 q5 p6 h0 n0 _ T204.heap _
      rw [eh204]
      exact ⟨rfl, N204⟩
    · skip
      subst hk
      refine Gl.st (B := (T38.setTop (mkF m 199 L49 [(.int y11_152_40), (.int (1 : Int32)), (.ref b7)]))) (fun t k => XS.aload X38.here hx rfl (hb hby at_187) (ldAt hL49 rfl) rfl (XS.iload X38.here hx rfl (hb hby at_189) (ldAt hL49 rfl) (XS.iload X38.here hx rfl (hb hby at_191) (ldAt hL49 rfl) (XS.iconst X38.here hx rfl (hb hby at_193) (XS.icmpNo X38.here hx rfl (hb hby at_194) rfl (by decide) (XS.iload X38.here hx rfl (hb hby at_197) (ldAt hL49 rfl) k)))))) ?_
      refine Gl.st (B := (T38.setTop (mkF m 209 L49 [(.int ((y11_152_40 ||| (128 : Int32)).toInt8.toInt32)), (.int (1 : Int32)), (.ref b7)]))) (fun t k => XS.sipush X38.here hx rfl (hb hby at_199) (XS.ior X38.here hx rfl (hb hby at_202) rfl (XS.goto X38.here hx rfl (pc0 := 203) (pc' := 208) rfl (hb hby at_203) (by decide) (by decide) (XS.i2b X38.here hx rfl (hb hby at_208) rfl k)))) ?_
      obtain ⟨x209_214, hx209_214⟩ : ∃ z : Int32, z = ((y11_152_40 ||| (128 : Int32)).toInt8.toInt32) := ⟨_, rfl⟩
      refine Gl.cast (B := (T38.setTop (mkF m 209 L49 [(.int x209_214), (.int (1 : Int32)), (.ref b7)]))) (by rw [hx209_214]) ?_
      obtain ⟨cl215, Ar215, q215, S215, P215, H215, G215⟩ := (id V38)
      have hin209_215 : ¬ ((1 : Int32) < 0 ∨ cl215.slots.size ≤ ((1 : Int32)).toNatClampNeg) := inb_of S215 ⟨by decide, by decide⟩
      obtain ⟨T215, h215, X215, e215, W215, st215⟩ := stB X38 hx hZ e38 Ar215 (j := (1 : Int32)) hin209_215 (g := (mkF m 209 L49 [(.int x209_214), (.int (1 : Int32)), (.ref b7)])) rfl rfl (hb hby at_209)
      have V215 : Arv Z h215 b7 k7 .byte (10 : Int32) [(.int (nar .byte x49_10)), (.int (nar .byte x209_214)), (.int (nar .byte x71_16)), (.int (nar .byte x82_19)), (.int (nar .byte x93_22)), (.int (nar .byte x104_25)), (.int (nar .byte x116_28)), (.int (nar .byte x128_31)), (.int (nar .byte x136_34)), (.int (nar .byte x147_37))] (.int (0 : Int32)) := Arv.set Ar215 q215 S215 P215 H215 G215 (fits_nar_byte _) W215 1 rfl (Nat.le_of_ble_eq_true rfl)
      have Zc216 : n0 ≤ h215.size := Nat.le_trans Zc39 (Nat.le_of_eq W215.size.symm)
      have N215 := Fr.snoc X215 N38 g_b7
      refine Gl.st (B := (T215.setTop (mkF m 210 L49 []))) st215 ?_
      refine Gl.st (B := (T215.setTop (mkF m 221 L49 [(.int (1 : Int32)), (.int (1 : Int32)), (.ref b7)]))) (fun t k => XS.iload X215.here hx rfl (hb hby at_210) (ldAt hL49 rfl) (XS.iconst X215.here hx rfl (hb hby at_212) (XS.icmpNo X215.here hx rfl (hb hby at_213) rfl (by decide) (XS.aload X215.here hx rfl (hb hby at_216) (ldAt hL49 rfl) rfl (XS.iload X215.here hx rfl (hb hby at_218) (ldAt hL49 rfl) (XS.iconst X215.here hx rfl (hb hby at_220) k)))))) ?_
      refine Gl.st (B := (T215.setTop (mkF m 240 L49 [(.int (y12_161_42.toInt8.toInt32)), (.int (2 : Int32)), (.ref b7)]))) (fun t k => XS.iadd X215.here hx rfl (hb hby at_221) rfl (XS.iload X215.here hx rfl (hb hby at_222) (ldAt hL49 rfl) (XS.iconst X215.here hx rfl (hb hby at_224) (XS.icmpYes X215.here hx rfl (pc0 := 225) (pc' := 237) rfl (hb hby at_225) rfl (by decide) (by decide) (by decide) (XS.iload X215.here hx rfl (hb hby at_237) (ldAt hL49 rfl) (XS.i2b X215.here hx rfl (hb hby at_239) rfl k)))))) ?_
      obtain ⟨x240_217, hx240_217⟩ : ∃ z : Int32, z = (y12_161_42.toInt8.toInt32) := ⟨_, rfl⟩
      refine Gl.cast (B := (T215.setTop (mkF m 240 L49 [(.int x240_217), (.int (2 : Int32)), (.ref b7)]))) (by rw [hx240_217]) ?_
      obtain ⟨cl218, Ar218, q218, S218, P218, H218, G218⟩ := (id V215)
      have hin240_218 : ¬ ((2 : Int32) < 0 ∨ cl218.slots.size ≤ ((2 : Int32)).toNatClampNeg) := inb_of S218 ⟨by decide, by decide⟩
      obtain ⟨T218, h218, X218, e218, W218, st218⟩ := stB X215 hx hZ e215 Ar218 (j := (2 : Int32)) hin240_218 (g := (mkF m 240 L49 [(.int x240_217), (.int (2 : Int32)), (.ref b7)])) rfl rfl (hb hby at_240)
      have V218 : Arv Z h218 b7 k7 .byte (10 : Int32) [(.int (nar .byte x49_10)), (.int (nar .byte x209_214)), (.int (nar .byte x240_217)), (.int (nar .byte x82_19)), (.int (nar .byte x93_22)), (.int (nar .byte x104_25)), (.int (nar .byte x116_28)), (.int (nar .byte x128_31)), (.int (nar .byte x136_34)), (.int (nar .byte x147_37))] (.int (0 : Int32)) := Arv.set Ar218 q218 S218 P218 H218 G218 (fits_nar_byte _) W218 2 rfl (Nat.le_of_ble_eq_true rfl)
      have Zc219 : n0 ≤ h218.size := Nat.le_trans Zc216 (Nat.le_of_eq W218.size.symm)
      have N218 := Fr.snoc X218 N215 g_b7
      refine Gl.st (B := (T218.setTop (mkF m 241 L49 []))) st218 ?_
      refine Gl.st (B := (T218.setTop (mkF m 303 L49 []))) (fun t k => XS.iload X218.here hx rfl (hb hby at_241) (ldAt hL49 rfl) (XS.iconst X218.here hx rfl (hb hby at_243) (XS.icmpYes X218.here hx rfl (pc0 := 244) (pc' := 272) rfl (hb hby at_244) rfl (by decide) (by decide) (by decide) (XS.iload X218.here hx rfl (hb hby at_272) (ldAt hL49 rfl) (XS.iconst X218.here hx rfl (hb hby at_274) (XS.icmpYes X218.here hx rfl (pc0 := 275) (pc' := 303) rfl (hb hby at_275) rfl (by decide) (by decide) (by decide) k)))))) ?_
      refine Gl.st (B := (T218.setTop (mkF m 324 L49 [(.long (4294967295 : Int64)), (.long (p1.toInt64))]))) (fun t k => XS.iload X218.here hx rfl (hb hby at_303) (ldAt hL49 rfl) (XS.iconst X218.here hx rfl (hb hby at_305) (XS.icmpYes X218.here hx rfl (pc0 := 306) (pc' := 319) rfl (hb hby at_306) rfl (by decide) (by decide) (by decide) (XS.iloadN X218.here hx rfl (hb hby at_319) (ldAt hL49 rfl) (XS.i2l X218.here hx rfl (hb hby at_320) rfl (X218.ldc2Long hx hown (mvT hZ (tw hw 2 rfl)) (g := (mkF m 321 L49 [(.long (p1.toInt64))])) rfl (hb hby at_321) _ k)))))) ?_
      refine Gl.st (B := (T218.setTop (mkF m 325 L49 [(.long ((p1.toInt64) &&& (4294967295 : Int64)))]))) (fun t k => XS.land X218.here hx rfl (hb hby at_324) rfl k) ?_
      obtain ⟨y16_325_220, hy16_325_220⟩ : ∃ z : Int64, z = ((p1.toInt64) &&& (4294967295 : Int64)) := ⟨_, rfl⟩
      refine Gl.cast (B := (T218.setTop (mkF m 325 L49 [(.long y16_325_220)]))) (by rw [hy16_325_220]) ?_
      obtain ⟨L221, hL221⟩ : ∃ z : Array Slot, z = #[.val (.int p1), .val (.int p2), .val (.int p3), .val (.int p4), .val (.long q5), .second, .val (.int p6), .val (.int (2 : Int32)), .val (.int (1 : Int32)), .val (.int y9_34_5), .val (.ref b7), .val (.int y11_152_40), .val (.int y12_161_42), .val (.int y13_170_44), .val (.int y14_179_46), .val (.int y15_185_48), .val (.long y16_325_220), .second, .unset, .unset] := ⟨_, rfl⟩
      refine Gl.st (B := (T218.setTop (mkF m 341 L221 [(.long (1 : Int64)), (.long y16_325_220)]))) (fun t k => XS.lstore X218.here hx rfl (hb hby at_325) rfl (l' := L221) (stAt hL49 hL221 rfl rfl) (XS.iload X218.here hx rfl (hb hby at_327) (ldAt hL221 rfl) (XS.iconst X218.here hx rfl (hb hby at_329) (XS.icmpYes X218.here hx rfl (pc0 := 330) (pc' := 338) rfl (hb hby at_330) rfl (by decide) (by decide) (by decide) (XS.lload X218.here hx rfl (hb hby at_338) (ldAt hL221 rfl) (XS.lconst X218.here hx rfl (hb hby at_340) k)))))) ?_
      refine Gl.st (B := (T218.setTop (mkF m 349 L221 [(.long (((1 : Int64) <<< ((14 : Int32) &&& 0x3f).toInt64) - (1 : Int64))), (.long y16_325_220)]))) (fun t k => XS.bipush X218.here hx rfl (hb hby at_341) (XS.iload X218.here hx rfl (hb hby at_343) (ldAt hL221 rfl) (XS.imul X218.here hx rfl (hb hby at_345) rfl (XS.lshl X218.here hx rfl (hb hby at_346) rfl (XS.lconst X218.here hx rfl (hb hby at_347) (XS.lsub X218.here hx rfl (hb hby at_348) rfl k)))))) ?_
      refine Gl.st (B := (T218.setTop (mkF m 350 L221 [(.long (y16_325_220 &&& (((1 : Int64) <<< ((14 : Int32) &&& 0x3f).toInt64) - (1 : Int64))))]))) (fun t k => XS.land X218.here hx rfl (hb hby at_349) rfl k) ?_
      obtain ⟨y18_350_222, hy18_350_222⟩ : ∃ z : Int64, z = (y16_325_220 &&& (((1 : Int64) <<< ((14 : Int32) &&& 0x3f).toInt64) - (1 : Int64))) := ⟨_, rfl⟩
      refine Gl.cast (B := (T218.setTop (mkF m 350 L221 [(.long y18_350_222)]))) (by rw [hy18_350_222]) ?_
      obtain ⟨L223, hL223⟩ : ∃ z : Array Slot, z = #[.val (.int p1), .val (.int p2), .val (.int p3), .val (.int p4), .val (.long q5), .second, .val (.int p6), .val (.int (2 : Int32)), .val (.int (1 : Int32)), .val (.int y9_34_5), .val (.ref b7), .val (.int y11_152_40), .val (.int y12_161_42), .val (.int y13_170_44), .val (.int y14_179_46), .val (.int y15_185_48), .val (.long y16_325_220), .second, .val (.long y18_350_222), .second] := ⟨_, rfl⟩
      refine Gl.st (B := (T218.setTop (mkF m 358 L223 [(.int y9_34_5), (.int (1 : Int32)), (.ref b7)]))) (fun t k => XS.lstore X218.here hx rfl (hb hby at_350) rfl (l' := L223) (stAt hL221 hL223 rfl rfl) (XS.aload X218.here hx rfl (hb hby at_352) (ldAt hL223 rfl) rfl (XS.iload X218.here hx rfl (hb hby at_354) (ldAt hL223 rfl) (XS.iload X218.here hx rfl (hb hby at_356) (ldAt hL223 rfl) k)))) ?_
      obtain ⟨cl225, Ar225, q225, S225, P225, H225, G225⟩ := (id V218)
      have hin40_1_226 : ¬ (((1 : Int32) + (0 : Int32)) < 0 ∨ cl225.slots.size ≤ (((1 : Int32) + (0 : Int32))).toNatClampNeg) := inb_of S225 ⟨by decide, by decide⟩
      have hin40_2_227 : ¬ (((1 : Int32) + (1 : Int32)) < 0 ∨ cl225.slots.size ≤ (((1 : Int32) + (1 : Int32))).toNatClampNeg) := inb_of S225 ⟨by decide, by decide⟩
      have hp358_228 : ¬ ((((10 : Int32) ||| (1 : Int32)) ||| y9_34_5) < (0 : Int32)) := own_0_hp358_228 p4 y9_34_5 hy9_34_5 
      have hp358_229 : ¬ (((10 : Int32) - (1 : Int32)) < y9_34_5) := own_0_hp358_229 p4 y9_34_5 hy9_34_5 
      have hp358_230 : ¬ ((0 : Int32) = y9_34_5) := own_0_hp358_230 p4 y9_34_5 hy9_34_5 
      have hp358_231 : ¬ ((((nar .byte x209_214) &&& (255 : Int32))) < (128 : Int32)) := own_0_hp358_231 p1 y11_152_40 x209_214 hy11_152_40 hx209_214 
      have hp358_232 : ¬ ((1 : Int32) = y9_34_5) := own_0_hp358_232 p4 y9_34_5 hy9_34_5 
      have hp358_233 : (((nar .byte x240_217) &&& (255 : Int32))) < (128 : Int32) := own_0_hp358_233 p1 y12_161_42 x240_217 hy12_161_42 hx240_217 
      have hp358_234 : ¬ ((4294967295 : Int64) < (((((0 : Int64) ||| ((((((nar .byte x209_214) &&& (255 : Int32))) &&& (127 : Int32)).toInt64) <<< ((0 : Int32) &&& 0x3f).toInt64))) ||| ((((((nar .byte x240_217) &&& (255 : Int32))) &&& (127 : Int32)).toInt64) <<< ((7 : Int32) &&& 0x3f).toInt64)))) := own_0_hp358_234 p1 y11_152_40 x209_214 y12_161_42 x240_217 hy11_152_40 hx209_214 hy12_161_42 hx240_217 
      obtain ⟨_, _, ⟨T224, L224q, k224, n224⟩, -, X224, ⟨Lc224, hQ224, l224, y224, z224⟩, st224⟩ := Jvm.LawKit.callS X218 hx (y := (⟨"com/example/requeue/requeue/connection/SnappyBlock", "uncompressedLength", "([BII)J"⟩ : MethodName)) hown (mvT hZ (tw hw 3 rfl)) (mvT hZ (tw hw 4 rfl)) (mvT hZ (tw hw 5 rfl)) (mvT hZ (tw hw 6 rfl)) (by decide) (backOf (W := 0) (rm1k2 l Z a0 hw [] b7 (1 : Int32) y9_34_5 cl225 (nar .byte x209_214) (nar .byte x240_217) h218 n0 Zc219 Ar225 S225 P225 hp358_228 hp358_229 hp358_230 hin40_1_226 (Has.at H225 hin40_1_226 (v := (.int (nar .byte x209_214))) rfl) hp358_231 hp358_232 hin40_2_227 (Has.at H225 hin40_2_227 (v := (.int (nar .byte x240_217))) rfl) hp358_233 hp358_234) hZ (tw hw 6 rfl) (tw hw 5 rfl) (by decide) (by decide)) (g := (mkF m 358 L223 [(.int y9_34_5), (.int (1 : Int32)), (.ref b7)])) rfl (szAt hml hL223 rfl) (argsL := [(.ref b7), (.int (1 : Int32)), (.int y9_34_5)]) (rest := []) (lenOf pd_0_0 rfl) rfl (by show 2 * 0 + _ ≤ _; exact Nat.le_of_eq rfl) (hb hby at_358) (fun _ _ => ⟨rfl, e218, (by decide : 1 + 0 ≤ _), (by decide : 10 + 0 ≤ _)⟩)
      dsimp only [Pt.U, Pt.locs, Pt.cells, Pt.slots] at X224 l224 y224 z224 st224 hQ224
      subst l224 y224 z224
      obtain ⟨rfl, N224q, eh224⟩ := hQ224
      have N224 := Fr.app N218 N224q
      refine Gl.st (B := (T224.setTop (mkF m 361 L223 [(.long (((((0 : Int64) ||| ((((((nar .byte x209_214) &&& (255 : Int32))) &&& (127 : Int32)).toInt64) <<< ((0 : Int32) &&& 0x3f).toInt64))) ||| ((((((nar .byte x240_217) &&& (255 : Int32))) &&& (127 : Int32)).toInt64) <<< ((7 : Int32) &&& 0x3f).toInt64))))]))) (fun t k => st224 t k) ?_
      obtain ⟨r358_235, hr358_235⟩ : ∃ z : Int64, z = (((((0 : Int64) ||| ((((((nar .byte x209_214) &&& (255 : Int32))) &&& (127 : Int32)).toInt64) <<< ((0 : Int32) &&& 0x3f).toInt64))) ||| ((((((nar .byte x240_217) &&& (255 : Int32))) &&& (127 : Int32)).toInt64) <<< ((7 : Int32) &&& 0x3f).toInt64))) := ⟨_, rfl⟩
      refine Gl.cast (B := (T224.setTop (mkF m 361 L223 [(.long r358_235)]))) (by rw [hr358_235]) ?_
      refine Gl.st (B := (T224.setTop (mkF m 364 L223 [(.int (lcmpW r358_235 y18_350_222))]))) (fun t k => XS.lload X224.here hx rfl (hb hby at_361) (ldAt hL223 rfl) (XS.lcmp X224.here hx rfl (hb hby at_363) rfl k)) ?_
      have hc364_236 : r358_235 = y18_350_222 := own_0_hc364_236 p1 y11_152_40 x209_214 y12_161_42 x240_217 r358_235 y16_325_220 y18_350_222 hy11_152_40 hx209_214 hy12_161_42 hx240_217 hr358_235 hy16_325_220 hy18_350_222 
      refine Gl.st (B := (T224.setTop (mkF m 372 L223 [(.int (1 : Int32))]))) (fun t k => XS.ifNo X224.here hx rfl (hb hby at_364) rfl ((if0 _ _).trans (teq ((lw_eq r358_235 y18_350_222).mpr hc364_236)).2) (XS.iconst X224.here hx rfl (hb hby at_367) (XS.goto X224.here hx rfl (pc0 := 368) (pc' := 372) rfl (hb hby at_368) (by decide) (by decide) k))) ?_
      obtain ⟨fs, hr, hrun, hended, hW, hsame⟩ := X224.leave (v := some (.int (nar .boolean (1 : Int32)))) (fun h => by rw [Bd.returns] at h; cases h)
      refine Gl.fin (retN X224 hx (t := .boolean) Bd.returns (by simp) (hb hby at_372) hr) hrun hended ⟨_, _, rfl, ?_, ⟨_, rfl⟩, hW, hsame.mono (by decide) (by decide)⟩
      show Q0 Z p1 p2 p3 p4 q5 p6 h0 n0 _ T224.heap _
      rw [eh224]
      exact ⟨rfl, N224⟩
    · skip
      subst hk
      refine Gl.st (B := (T38.setTop (mkF m 199 L49 [(.int y11_152_40), (.int (1 : Int32)), (.ref b7)]))) (fun t k => XS.aload X38.here hx rfl (hb hby at_187) (ldAt hL49 rfl) rfl (XS.iload X38.here hx rfl (hb hby at_189) (ldAt hL49 rfl) (XS.iload X38.here hx rfl (hb hby at_191) (ldAt hL49 rfl) (XS.iconst X38.here hx rfl (hb hby at_193) (XS.icmpNo X38.here hx rfl (hb hby at_194) rfl (by decide) (XS.iload X38.here hx rfl (hb hby at_197) (ldAt hL49 rfl) k)))))) ?_
      refine Gl.st (B := (T38.setTop (mkF m 209 L49 [(.int ((y11_152_40 ||| (128 : Int32)).toInt8.toInt32)), (.int (1 : Int32)), (.ref b7)]))) (fun t k => XS.sipush X38.here hx rfl (hb hby at_199) (XS.ior X38.here hx rfl (hb hby at_202) rfl (XS.goto X38.here hx rfl (pc0 := 203) (pc' := 208) rfl (hb hby at_203) (by decide) (by decide) (XS.i2b X38.here hx rfl (hb hby at_208) rfl k)))) ?_
      obtain ⟨x209_237, hx209_237⟩ : ∃ z : Int32, z = ((y11_152_40 ||| (128 : Int32)).toInt8.toInt32) := ⟨_, rfl⟩
      refine Gl.cast (B := (T38.setTop (mkF m 209 L49 [(.int x209_237), (.int (1 : Int32)), (.ref b7)]))) (by rw [hx209_237]) ?_
      obtain ⟨cl238, Ar238, q238, S238, P238, H238, G238⟩ := (id V38)
      have hin209_238 : ¬ ((1 : Int32) < 0 ∨ cl238.slots.size ≤ ((1 : Int32)).toNatClampNeg) := inb_of S238 ⟨by decide, by decide⟩
      obtain ⟨T238, h238, X238, e238, W238, st238⟩ := stB X38 hx hZ e38 Ar238 (j := (1 : Int32)) hin209_238 (g := (mkF m 209 L49 [(.int x209_237), (.int (1 : Int32)), (.ref b7)])) rfl rfl (hb hby at_209)
      have V238 : Arv Z h238 b7 k7 .byte (10 : Int32) [(.int (nar .byte x49_10)), (.int (nar .byte x209_237)), (.int (nar .byte x71_16)), (.int (nar .byte x82_19)), (.int (nar .byte x93_22)), (.int (nar .byte x104_25)), (.int (nar .byte x116_28)), (.int (nar .byte x128_31)), (.int (nar .byte x136_34)), (.int (nar .byte x147_37))] (.int (0 : Int32)) := Arv.set Ar238 q238 S238 P238 H238 G238 (fits_nar_byte _) W238 1 rfl (Nat.le_of_ble_eq_true rfl)
      have Zc239 : n0 ≤ h238.size := Nat.le_trans Zc39 (Nat.le_of_eq W238.size.symm)
      have N238 := Fr.snoc X238 N38 g_b7
      refine Gl.st (B := (T238.setTop (mkF m 210 L49 []))) st238 ?_
      refine Gl.st (B := (T238.setTop (mkF m 221 L49 [(.int (1 : Int32)), (.int (1 : Int32)), (.ref b7)]))) (fun t k => XS.iload X238.here hx rfl (hb hby at_210) (ldAt hL49 rfl) (XS.iconst X238.here hx rfl (hb hby at_212) (XS.icmpNo X238.here hx rfl (hb hby at_213) rfl (by decide) (XS.aload X238.here hx rfl (hb hby at_216) (ldAt hL49 rfl) rfl (XS.iload X238.here hx rfl (hb hby at_218) (ldAt hL49 rfl) (XS.iconst X238.here hx rfl (hb hby at_220) k)))))) ?_
      refine Gl.st (B := (T238.setTop (mkF m 233 L49 [(.int (128 : Int32)), (.int y12_161_42), (.int (2 : Int32)), (.ref b7)]))) (fun t k => XS.iadd X238.here hx rfl (hb hby at_221) rfl (XS.iload X238.here hx rfl (hb hby at_222) (ldAt hL49 rfl) (XS.iconst X238.here hx rfl (hb hby at_224) (XS.icmpNo X238.here hx rfl (hb hby at_225) rfl (by decide) (XS.iload X238.here hx rfl (hb hby at_228) (ldAt hL49 rfl) (XS.sipush X238.here hx rfl (hb hby at_230) k)))))) ?_
      refine Gl.st (B := (T238.setTop (mkF m 240 L49 [(.int ((y12_161_42 ||| (128 : Int32)).toInt8.toInt32)), (.int (2 : Int32)), (.ref b7)]))) (fun t k => XS.ior X238.here hx rfl (hb hby at_233) rfl (XS.goto X238.here hx rfl (pc0 := 234) (pc' := 239) rfl (hb hby at_234) (by decide) (by decide) (XS.i2b X238.here hx rfl (hb hby at_239) rfl k))) ?_
      obtain ⟨x240_240, hx240_240⟩ : ∃ z : Int32, z = ((y12_161_42 ||| (128 : Int32)).toInt8.toInt32) := ⟨_, rfl⟩
      refine Gl.cast (B := (T238.setTop (mkF m 240 L49 [(.int x240_240), (.int (2 : Int32)), (.ref b7)]))) (by rw [hx240_240]) ?_
      obtain ⟨cl241, Ar241, q241, S241, P241, H241, G241⟩ := (id V238)
      have hin240_241 : ¬ ((2 : Int32) < 0 ∨ cl241.slots.size ≤ ((2 : Int32)).toNatClampNeg) := inb_of S241 ⟨by decide, by decide⟩
      obtain ⟨T241, h241, X241, e241, W241, st241⟩ := stB X238 hx hZ e238 Ar241 (j := (2 : Int32)) hin240_241 (g := (mkF m 240 L49 [(.int x240_240), (.int (2 : Int32)), (.ref b7)])) rfl rfl (hb hby at_240)
      have V241 : Arv Z h241 b7 k7 .byte (10 : Int32) [(.int (nar .byte x49_10)), (.int (nar .byte x209_237)), (.int (nar .byte x240_240)), (.int (nar .byte x82_19)), (.int (nar .byte x93_22)), (.int (nar .byte x104_25)), (.int (nar .byte x116_28)), (.int (nar .byte x128_31)), (.int (nar .byte x136_34)), (.int (nar .byte x147_37))] (.int (0 : Int32)) := Arv.set Ar241 q241 S241 P241 H241 G241 (fits_nar_byte _) W241 2 rfl (Nat.le_of_ble_eq_true rfl)
      have Zc242 : n0 ≤ h241.size := Nat.le_trans Zc239 (Nat.le_of_eq W241.size.symm)
      have N241 := Fr.snoc X241 N238 g_b7
      refine Gl.st (B := (T241.setTop (mkF m 241 L49 []))) st241 ?_
      refine Gl.st (B := (T241.setTop (mkF m 252 L49 [(.int (2 : Int32)), (.int (1 : Int32)), (.ref b7)]))) (fun t k => XS.iload X241.here hx rfl (hb hby at_241) (ldAt hL49 rfl) (XS.iconst X241.here hx rfl (hb hby at_243) (XS.icmpNo X241.here hx rfl (hb hby at_244) rfl (by decide) (XS.aload X241.here hx rfl (hb hby at_247) (ldAt hL49 rfl) rfl (XS.iload X241.here hx rfl (hb hby at_249) (ldAt hL49 rfl) (XS.iconst X241.here hx rfl (hb hby at_251) k)))))) ?_
      refine Gl.st (B := (T241.setTop (mkF m 271 L49 [(.int (y13_170_44.toInt8.toInt32)), (.int (3 : Int32)), (.ref b7)]))) (fun t k => XS.iadd X241.here hx rfl (hb hby at_252) rfl (XS.iload X241.here hx rfl (hb hby at_253) (ldAt hL49 rfl) (XS.iconst X241.here hx rfl (hb hby at_255) (XS.icmpYes X241.here hx rfl (pc0 := 256) (pc' := 268) rfl (hb hby at_256) rfl (by decide) (by decide) (by decide) (XS.iload X241.here hx rfl (hb hby at_268) (ldAt hL49 rfl) (XS.i2b X241.here hx rfl (hb hby at_270) rfl k)))))) ?_
      obtain ⟨x271_243, hx271_243⟩ : ∃ z : Int32, z = (y13_170_44.toInt8.toInt32) := ⟨_, rfl⟩
      refine Gl.cast (B := (T241.setTop (mkF m 271 L49 [(.int x271_243), (.int (3 : Int32)), (.ref b7)]))) (by rw [hx271_243]) ?_
      obtain ⟨cl244, Ar244, q244, S244, P244, H244, G244⟩ := (id V241)
      have hin271_244 : ¬ ((3 : Int32) < 0 ∨ cl244.slots.size ≤ ((3 : Int32)).toNatClampNeg) := inb_of S244 ⟨by decide, by decide⟩
      obtain ⟨T244, h244, X244, e244, W244, st244⟩ := stB X241 hx hZ e241 Ar244 (j := (3 : Int32)) hin271_244 (g := (mkF m 271 L49 [(.int x271_243), (.int (3 : Int32)), (.ref b7)])) rfl rfl (hb hby at_271)
      have V244 : Arv Z h244 b7 k7 .byte (10 : Int32) [(.int (nar .byte x49_10)), (.int (nar .byte x209_237)), (.int (nar .byte x240_240)), (.int (nar .byte x271_243)), (.int (nar .byte x93_22)), (.int (nar .byte x104_25)), (.int (nar .byte x116_28)), (.int (nar .byte x128_31)), (.int (nar .byte x136_34)), (.int (nar .byte x147_37))] (.int (0 : Int32)) := Arv.set Ar244 q244 S244 P244 H244 G244 (fits_nar_byte _) W244 3 rfl (Nat.le_of_ble_eq_true rfl)
      have Zc245 : n0 ≤ h244.size := Nat.le_trans Zc242 (Nat.le_of_eq W244.size.symm)
      have N244 := Fr.snoc X244 N241 g_b7
      refine Gl.st (B := (T244.setTop (mkF m 272 L49 []))) st244 ?_
      refine Gl.st (B := (T244.setTop (mkF m 319 L49 []))) (fun t k => XS.iload X244.here hx rfl (hb hby at_272) (ldAt hL49 rfl) (XS.iconst X244.here hx rfl (hb hby at_274) (XS.icmpYes X244.here hx rfl (pc0 := 275) (pc' := 303) rfl (hb hby at_275) rfl (by decide) (by decide) (by decide) (XS.iload X244.here hx rfl (hb hby at_303) (ldAt hL49 rfl) (XS.iconst X244.here hx rfl (hb hby at_305) (XS.icmpYes X244.here hx rfl (pc0 := 306) (pc' := 319) rfl (hb hby at_306) rfl (by decide) (by decide) (by decide) k)))))) ?_
      refine Gl.st (B := (T244.setTop (mkF m 325 L49 [(.long ((p1.toInt64) &&& (4294967295 : Int64)))]))) (fun t k => XS.iloadN X244.here hx rfl (hb hby at_319) (ldAt hL49 rfl) (XS.i2l X244.here hx rfl (hb hby at_320) rfl (X244.ldc2Long hx hown (mvT hZ (tw hw 2 rfl)) (g := (mkF m 321 L49 [(.long (p1.toInt64))])) rfl (hb hby at_321) _ (XS.land X244.here hx rfl (hb hby at_324) rfl k)))) ?_
      obtain ⟨y16_325_246, hy16_325_246⟩ : ∃ z : Int64, z = ((p1.toInt64) &&& (4294967295 : Int64)) := ⟨_, rfl⟩
      refine Gl.cast (B := (T244.setTop (mkF m 325 L49 [(.long y16_325_246)]))) (by rw [hy16_325_246]) ?_
      obtain ⟨L247, hL247⟩ : ∃ z : Array Slot, z = #[.val (.int p1), .val (.int p2), .val (.int p3), .val (.int p4), .val (.long q5), .second, .val (.int p6), .val (.int (3 : Int32)), .val (.int (1 : Int32)), .val (.int y9_34_5), .val (.ref b7), .val (.int y11_152_40), .val (.int y12_161_42), .val (.int y13_170_44), .val (.int y14_179_46), .val (.int y15_185_48), .val (.long y16_325_246), .second, .unset, .unset] := ⟨_, rfl⟩
      refine Gl.st (B := (T244.setTop (mkF m 341 L247 [(.long (1 : Int64)), (.long y16_325_246)]))) (fun t k => XS.lstore X244.here hx rfl (hb hby at_325) rfl (l' := L247) (stAt hL49 hL247 rfl rfl) (XS.iload X244.here hx rfl (hb hby at_327) (ldAt hL247 rfl) (XS.iconst X244.here hx rfl (hb hby at_329) (XS.icmpYes X244.here hx rfl (pc0 := 330) (pc' := 338) rfl (hb hby at_330) rfl (by decide) (by decide) (by decide) (XS.lload X244.here hx rfl (hb hby at_338) (ldAt hL247 rfl) (XS.lconst X244.here hx rfl (hb hby at_340) k)))))) ?_
      refine Gl.st (B := (T244.setTop (mkF m 349 L247 [(.long (((1 : Int64) <<< ((21 : Int32) &&& 0x3f).toInt64) - (1 : Int64))), (.long y16_325_246)]))) (fun t k => XS.bipush X244.here hx rfl (hb hby at_341) (XS.iload X244.here hx rfl (hb hby at_343) (ldAt hL247 rfl) (XS.imul X244.here hx rfl (hb hby at_345) rfl (XS.lshl X244.here hx rfl (hb hby at_346) rfl (XS.lconst X244.here hx rfl (hb hby at_347) (XS.lsub X244.here hx rfl (hb hby at_348) rfl k)))))) ?_
      refine Gl.st (B := (T244.setTop (mkF m 350 L247 [(.long (y16_325_246 &&& (((1 : Int64) <<< ((21 : Int32) &&& 0x3f).toInt64) - (1 : Int64))))]))) (fun t k => XS.land X244.here hx rfl (hb hby at_349) rfl k) ?_
      obtain ⟨y18_350_248, hy18_350_248⟩ : ∃ z : Int64, z = (y16_325_246 &&& (((1 : Int64) <<< ((21 : Int32) &&& 0x3f).toInt64) - (1 : Int64))) := ⟨_, rfl⟩
      refine Gl.cast (B := (T244.setTop (mkF m 350 L247 [(.long y18_350_248)]))) (by rw [hy18_350_248]) ?_
      obtain ⟨L249, hL249⟩ : ∃ z : Array Slot, z = #[.val (.int p1), .val (.int p2), .val (.int p3), .val (.int p4), .val (.long q5), .second, .val (.int p6), .val (.int (3 : Int32)), .val (.int (1 : Int32)), .val (.int y9_34_5), .val (.ref b7), .val (.int y11_152_40), .val (.int y12_161_42), .val (.int y13_170_44), .val (.int y14_179_46), .val (.int y15_185_48), .val (.long y16_325_246), .second, .val (.long y18_350_248), .second] := ⟨_, rfl⟩
      refine Gl.st (B := (T244.setTop (mkF m 358 L249 [(.int y9_34_5), (.int (1 : Int32)), (.ref b7)]))) (fun t k => XS.lstore X244.here hx rfl (hb hby at_350) rfl (l' := L249) (stAt hL247 hL249 rfl rfl) (XS.aload X244.here hx rfl (hb hby at_352) (ldAt hL249 rfl) rfl (XS.iload X244.here hx rfl (hb hby at_354) (ldAt hL249 rfl) (XS.iload X244.here hx rfl (hb hby at_356) (ldAt hL249 rfl) k)))) ?_
      obtain ⟨cl251, Ar251, q251, S251, P251, H251, G251⟩ := (id V244)
      have hin40_1_252 : ¬ (((1 : Int32) + (0 : Int32)) < 0 ∨ cl251.slots.size ≤ (((1 : Int32) + (0 : Int32))).toNatClampNeg) := inb_of S251 ⟨by decide, by decide⟩
      have hin40_2_253 : ¬ (((1 : Int32) + (1 : Int32)) < 0 ∨ cl251.slots.size ≤ (((1 : Int32) + (1 : Int32))).toNatClampNeg) := inb_of S251 ⟨by decide, by decide⟩
      have hin40_3_254 : ¬ (((1 : Int32) + (2 : Int32)) < 0 ∨ cl251.slots.size ≤ (((1 : Int32) + (2 : Int32))).toNatClampNeg) := inb_of S251 ⟨by decide, by decide⟩
      have hp358_255 : ¬ ((((10 : Int32) ||| (1 : Int32)) ||| y9_34_5) < (0 : Int32)) := own_0_hp358_255 p4 y9_34_5 hy9_34_5 
      have hp358_256 : ¬ (((10 : Int32) - (1 : Int32)) < y9_34_5) := own_0_hp358_256 p4 y9_34_5 hy9_34_5 
      have hp358_257 : ¬ ((0 : Int32) = y9_34_5) := own_0_hp358_257 p4 y9_34_5 hy9_34_5 
      have hp358_258 : ¬ ((((nar .byte x209_237) &&& (255 : Int32))) < (128 : Int32)) := own_0_hp358_258 p1 y11_152_40 x209_237 hy11_152_40 hx209_237 
      have hp358_259 : ¬ ((1 : Int32) = y9_34_5) := own_0_hp358_259 p4 y9_34_5 hy9_34_5 
      have hp358_260 : ¬ ((((nar .byte x240_240) &&& (255 : Int32))) < (128 : Int32)) := own_0_hp358_260 p1 y12_161_42 x240_240 hy12_161_42 hx240_240 
      have hp358_261 : ¬ ((2 : Int32) = y9_34_5) := own_0_hp358_261 p4 y9_34_5 hy9_34_5 
      have hp358_262 : (((nar .byte x271_243) &&& (255 : Int32))) < (128 : Int32) := own_0_hp358_262 p1 y13_170_44 x271_243 hy13_170_44 hx271_243 
      have hp358_263 : ¬ ((4294967295 : Int64) < (((((((0 : Int64) ||| ((((((nar .byte x209_237) &&& (255 : Int32))) &&& (127 : Int32)).toInt64) <<< ((0 : Int32) &&& 0x3f).toInt64))) ||| ((((((nar .byte x240_240) &&& (255 : Int32))) &&& (127 : Int32)).toInt64) <<< ((7 : Int32) &&& 0x3f).toInt64))) ||| ((((((nar .byte x271_243) &&& (255 : Int32))) &&& (127 : Int32)).toInt64) <<< ((14 : Int32) &&& 0x3f).toInt64)))) := own_0_hp358_263 p1 y11_152_40 x209_237 y12_161_42 x240_240 y13_170_44 x271_243 hy11_152_40 hx209_237 hy12_161_42 hx240_240 hy13_170_44 hx271_243 
      obtain ⟨_, _, ⟨T250, L250q, k250, n250⟩, -, X250, ⟨Lc250, hQ250, l250, y250, z250⟩, st250⟩ := Jvm.LawKit.callS X244 hx (y := (⟨"com/example/requeue/requeue/connection/SnappyBlock", "uncompressedLength", "([BII)J"⟩ : MethodName)) hown (mvT hZ (tw hw 3 rfl)) (mvT hZ (tw hw 4 rfl)) (mvT hZ (tw hw 5 rfl)) (mvT hZ (tw hw 6 rfl)) (by decide) (backOf (W := 0) (rm1k3 l Z a0 hw [] b7 (1 : Int32) y9_34_5 cl251 (nar .byte x209_237) (nar .byte x240_240) (nar .byte x271_243) h244 n0 Zc245 Ar251 S251 P251 hp358_255 hp358_256 hp358_257 hin40_1_252 (Has.at H251 hin40_1_252 (v := (.int (nar .byte x209_237))) rfl) hp358_258 hp358_259 hin40_2_253 (Has.at H251 hin40_2_253 (v := (.int (nar .byte x240_240))) rfl) hp358_260 hp358_261 hin40_3_254 (Has.at H251 hin40_3_254 (v := (.int (nar .byte x271_243))) rfl) hp358_262 hp358_263) hZ (tw hw 6 rfl) (tw hw 5 rfl) (by decide) (by decide)) (g := (mkF m 358 L249 [(.int y9_34_5), (.int (1 : Int32)), (.ref b7)])) rfl (szAt hml hL249 rfl) (argsL := [(.ref b7), (.int (1 : Int32)), (.int y9_34_5)]) (rest := []) (lenOf pd_0_0 rfl) rfl (by show 2 * 0 + _ ≤ _; exact Nat.le_of_eq rfl) (hb hby at_358) (fun _ _ => ⟨rfl, e244, (by decide : 1 + 0 ≤ _), (by decide : 10 + 0 ≤ _)⟩)
      dsimp only [Pt.U, Pt.locs, Pt.cells, Pt.slots] at X250 l250 y250 z250 st250 hQ250
      subst l250 y250 z250
      obtain ⟨rfl, N250q, eh250⟩ := hQ250
      have N250 := Fr.app N244 N250q
      refine Gl.st (B := (T250.setTop (mkF m 361 L249 [(.long (((((((0 : Int64) ||| ((((((nar .byte x209_237) &&& (255 : Int32))) &&& (127 : Int32)).toInt64) <<< ((0 : Int32) &&& 0x3f).toInt64))) ||| ((((((nar .byte x240_240) &&& (255 : Int32))) &&& (127 : Int32)).toInt64) <<< ((7 : Int32) &&& 0x3f).toInt64))) ||| ((((((nar .byte x271_243) &&& (255 : Int32))) &&& (127 : Int32)).toInt64) <<< ((14 : Int32) &&& 0x3f).toInt64))))]))) (fun t k => st250 t k) ?_
      obtain ⟨r358_264, hr358_264⟩ : ∃ z : Int64, z = (((((((0 : Int64) ||| ((((((nar .byte x209_237) &&& (255 : Int32))) &&& (127 : Int32)).toInt64) <<< ((0 : Int32) &&& 0x3f).toInt64))) ||| ((((((nar .byte x240_240) &&& (255 : Int32))) &&& (127 : Int32)).toInt64) <<< ((7 : Int32) &&& 0x3f).toInt64))) ||| ((((((nar .byte x271_243) &&& (255 : Int32))) &&& (127 : Int32)).toInt64) <<< ((14 : Int32) &&& 0x3f).toInt64))) := ⟨_, rfl⟩
      refine Gl.cast (B := (T250.setTop (mkF m 361 L249 [(.long r358_264)]))) (by rw [hr358_264]) ?_
      refine Gl.st (B := (T250.setTop (mkF m 364 L249 [(.int (lcmpW r358_264 y18_350_248))]))) (fun t k => XS.lload X250.here hx rfl (hb hby at_361) (ldAt hL249 rfl) (XS.lcmp X250.here hx rfl (hb hby at_363) rfl k)) ?_
      have hc364_265 : r358_264 = y18_350_248 := own_0_hc364_265 p1 y11_152_40 x209_237 y12_161_42 x240_240 y13_170_44 x271_243 r358_264 y16_325_246 y18_350_248 hy11_152_40 hx209_237 hy12_161_42 hx240_240 hy13_170_44 hx271_243 hr358_264 hy16_325_246 hy18_350_248 
      refine Gl.st (B := (T250.setTop (mkF m 372 L249 [(.int (1 : Int32))]))) (fun t k => XS.ifNo X250.here hx rfl (hb hby at_364) rfl ((if0 _ _).trans (teq ((lw_eq r358_264 y18_350_248).mpr hc364_265)).2) (XS.iconst X250.here hx rfl (hb hby at_367) (XS.goto X250.here hx rfl (pc0 := 368) (pc' := 372) rfl (hb hby at_368) (by decide) (by decide) k))) ?_
      obtain ⟨fs, hr, hrun, hended, hW, hsame⟩ := X250.leave (v := some (.int (nar .boolean (1 : Int32)))) (fun h => by rw [Bd.returns] at h; cases h)
      refine Gl.fin (retN X250 hx (t := .boolean) Bd.returns (by simp) (hb hby at_372) hr) hrun hended ⟨_, _, rfl, ?_, ⟨_, rfl⟩, hW, hsame.mono (by decide) (by decide)⟩
      show Q0 Z p1 p2 p3 p4 q5 p6 h0 n0 _ T250.heap _
      rw [eh250]
      exact ⟨rfl, N250⟩
    · skip
      subst hk
      refine Gl.st (B := (T38.setTop (mkF m 199 L49 [(.int y11_152_40), (.int (1 : Int32)), (.ref b7)]))) (fun t k => XS.aload X38.here hx rfl (hb hby at_187) (ldAt hL49 rfl) rfl (XS.iload X38.here hx rfl (hb hby at_189) (ldAt hL49 rfl) (XS.iload X38.here hx rfl (hb hby at_191) (ldAt hL49 rfl) (XS.iconst X38.here hx rfl (hb hby at_193) (XS.icmpNo X38.here hx rfl (hb hby at_194) rfl (by decide) (XS.iload X38.here hx rfl (hb hby at_197) (ldAt hL49 rfl) k)))))) ?_
      refine Gl.st (B := (T38.setTop (mkF m 209 L49 [(.int ((y11_152_40 ||| (128 : Int32)).toInt8.toInt32)), (.int (1 : Int32)), (.ref b7)]))) (fun t k => XS.sipush X38.here hx rfl (hb hby at_199) (XS.ior X38.here hx rfl (hb hby at_202) rfl (XS.goto X38.here hx rfl (pc0 := 203) (pc' := 208) rfl (hb hby at_203) (by decide) (by decide) (XS.i2b X38.here hx rfl (hb hby at_208) rfl k)))) ?_
      obtain ⟨x209_266, hx209_266⟩ : ∃ z : Int32, z = ((y11_152_40 ||| (128 : Int32)).toInt8.toInt32) := ⟨_, rfl⟩
      refine Gl.cast (B := (T38.setTop (mkF m 209 L49 [(.int x209_266), (.int (1 : Int32)), (.ref b7)]))) (by rw [hx209_266]) ?_
      obtain ⟨cl267, Ar267, q267, S267, P267, H267, G267⟩ := (id V38)
      have hin209_267 : ¬ ((1 : Int32) < 0 ∨ cl267.slots.size ≤ ((1 : Int32)).toNatClampNeg) := inb_of S267 ⟨by decide, by decide⟩
      obtain ⟨T267, h267, X267, e267, W267, st267⟩ := stB X38 hx hZ e38 Ar267 (j := (1 : Int32)) hin209_267 (g := (mkF m 209 L49 [(.int x209_266), (.int (1 : Int32)), (.ref b7)])) rfl rfl (hb hby at_209)
      have V267 : Arv Z h267 b7 k7 .byte (10 : Int32) [(.int (nar .byte x49_10)), (.int (nar .byte x209_266)), (.int (nar .byte x71_16)), (.int (nar .byte x82_19)), (.int (nar .byte x93_22)), (.int (nar .byte x104_25)), (.int (nar .byte x116_28)), (.int (nar .byte x128_31)), (.int (nar .byte x136_34)), (.int (nar .byte x147_37))] (.int (0 : Int32)) := Arv.set Ar267 q267 S267 P267 H267 G267 (fits_nar_byte _) W267 1 rfl (Nat.le_of_ble_eq_true rfl)
      have Zc268 : n0 ≤ h267.size := Nat.le_trans Zc39 (Nat.le_of_eq W267.size.symm)
      have N267 := Fr.snoc X267 N38 g_b7
      refine Gl.st (B := (T267.setTop (mkF m 210 L49 []))) st267 ?_
      refine Gl.st (B := (T267.setTop (mkF m 221 L49 [(.int (1 : Int32)), (.int (1 : Int32)), (.ref b7)]))) (fun t k => XS.iload X267.here hx rfl (hb hby at_210) (ldAt hL49 rfl) (XS.iconst X267.here hx rfl (hb hby at_212) (XS.icmpNo X267.here hx rfl (hb hby at_213) rfl (by decide) (XS.aload X267.here hx rfl (hb hby at_216) (ldAt hL49 rfl) rfl (XS.iload X267.here hx rfl (hb hby at_218) (ldAt hL49 rfl) (XS.iconst X267.here hx rfl (hb hby at_220) k)))))) ?_
      refine Gl.st (B := (T267.setTop (mkF m 233 L49 [(.int (128 : Int32)), (.int y12_161_42), (.int (2 : Int32)), (.ref b7)]))) (fun t k => XS.iadd X267.here hx rfl (hb hby at_221) rfl (XS.iload X267.here hx rfl (hb hby at_222) (ldAt hL49 rfl) (XS.iconst X267.here hx rfl (hb hby at_224) (XS.icmpNo X267.here hx rfl (hb hby at_225) rfl (by decide) (XS.iload X267.here hx rfl (hb hby at_228) (ldAt hL49 rfl) (XS.sipush X267.here hx rfl (hb hby at_230) k)))))) ?_
      refine Gl.st (B := (T267.setTop (mkF m 240 L49 [(.int ((y12_161_42 ||| (128 : Int32)).toInt8.toInt32)), (.int (2 : Int32)), (.ref b7)]))) (fun t k => XS.ior X267.here hx rfl (hb hby at_233) rfl (XS.goto X267.here hx rfl (pc0 := 234) (pc' := 239) rfl (hb hby at_234) (by decide) (by decide) (XS.i2b X267.here hx rfl (hb hby at_239) rfl k))) ?_
      obtain ⟨x240_269, hx240_269⟩ : ∃ z : Int32, z = ((y12_161_42 ||| (128 : Int32)).toInt8.toInt32) := ⟨_, rfl⟩
      refine Gl.cast (B := (T267.setTop (mkF m 240 L49 [(.int x240_269), (.int (2 : Int32)), (.ref b7)]))) (by rw [hx240_269]) ?_
      obtain ⟨cl270, Ar270, q270, S270, P270, H270, G270⟩ := (id V267)
      have hin240_270 : ¬ ((2 : Int32) < 0 ∨ cl270.slots.size ≤ ((2 : Int32)).toNatClampNeg) := inb_of S270 ⟨by decide, by decide⟩
      obtain ⟨T270, h270, X270, e270, W270, st270⟩ := stB X267 hx hZ e267 Ar270 (j := (2 : Int32)) hin240_270 (g := (mkF m 240 L49 [(.int x240_269), (.int (2 : Int32)), (.ref b7)])) rfl rfl (hb hby at_240)
      have V270 : Arv Z h270 b7 k7 .byte (10 : Int32) [(.int (nar .byte x49_10)), (.int (nar .byte x209_266)), (.int (nar .byte x240_269)), (.int (nar .byte x82_19)), (.int (nar .byte x93_22)), (.int (nar .byte x104_25)), (.int (nar .byte x116_28)), (.int (nar .byte x128_31)), (.int (nar .byte x136_34)), (.int (nar .byte x147_37))] (.int (0 : Int32)) := Arv.set Ar270 q270 S270 P270 H270 G270 (fits_nar_byte _) W270 2 rfl (Nat.le_of_ble_eq_true rfl)
      have Zc271 : n0 ≤ h270.size := Nat.le_trans Zc268 (Nat.le_of_eq W270.size.symm)
      have N270 := Fr.snoc X270 N267 g_b7
      refine Gl.st (B := (T270.setTop (mkF m 241 L49 []))) st270 ?_
      refine Gl.st (B := (T270.setTop (mkF m 252 L49 [(.int (2 : Int32)), (.int (1 : Int32)), (.ref b7)]))) (fun t k => XS.iload X270.here hx rfl (hb hby at_241) (ldAt hL49 rfl) (XS.iconst X270.here hx rfl (hb hby at_243) (XS.icmpNo X270.here hx rfl (hb hby at_244) rfl (by decide) (XS.aload X270.here hx rfl (hb hby at_247) (ldAt hL49 rfl) rfl (XS.iload X270.here hx rfl (hb hby at_249) (ldAt hL49 rfl) (XS.iconst X270.here hx rfl (hb hby at_251) k)))))) ?_
      refine Gl.st (B := (T270.setTop (mkF m 264 L49 [(.int (128 : Int32)), (.int y13_170_44), (.int (3 : Int32)), (.ref b7)]))) (fun t k => XS.iadd X270.here hx rfl (hb hby at_252) rfl (XS.iload X270.here hx rfl (hb hby at_253) (ldAt hL49 rfl) (XS.iconst X270.here hx rfl (hb hby at_255) (XS.icmpNo X270.here hx rfl (hb hby at_256) rfl (by decide) (XS.iload X270.here hx rfl (hb hby at_259) (ldAt hL49 rfl) (XS.sipush X270.here hx rfl (hb hby at_261) k)))))) ?_
      refine Gl.st (B := (T270.setTop (mkF m 271 L49 [(.int ((y13_170_44 ||| (128 : Int32)).toInt8.toInt32)), (.int (3 : Int32)), (.ref b7)]))) (fun t k => XS.ior X270.here hx rfl (hb hby at_264) rfl (XS.goto X270.here hx rfl (pc0 := 265) (pc' := 270) rfl (hb hby at_265) (by decide) (by decide) (XS.i2b X270.here hx rfl (hb hby at_270) rfl k))) ?_
      obtain ⟨x271_272, hx271_272⟩ : ∃ z : Int32, z = ((y13_170_44 ||| (128 : Int32)).toInt8.toInt32) := ⟨_, rfl⟩
      refine Gl.cast (B := (T270.setTop (mkF m 271 L49 [(.int x271_272), (.int (3 : Int32)), (.ref b7)]))) (by rw [hx271_272]) ?_
      obtain ⟨cl273, Ar273, q273, S273, P273, H273, G273⟩ := (id V270)
      have hin271_273 : ¬ ((3 : Int32) < 0 ∨ cl273.slots.size ≤ ((3 : Int32)).toNatClampNeg) := inb_of S273 ⟨by decide, by decide⟩
      obtain ⟨T273, h273, X273, e273, W273, st273⟩ := stB X270 hx hZ e270 Ar273 (j := (3 : Int32)) hin271_273 (g := (mkF m 271 L49 [(.int x271_272), (.int (3 : Int32)), (.ref b7)])) rfl rfl (hb hby at_271)
      have V273 : Arv Z h273 b7 k7 .byte (10 : Int32) [(.int (nar .byte x49_10)), (.int (nar .byte x209_266)), (.int (nar .byte x240_269)), (.int (nar .byte x271_272)), (.int (nar .byte x93_22)), (.int (nar .byte x104_25)), (.int (nar .byte x116_28)), (.int (nar .byte x128_31)), (.int (nar .byte x136_34)), (.int (nar .byte x147_37))] (.int (0 : Int32)) := Arv.set Ar273 q273 S273 P273 H273 G273 (fits_nar_byte _) W273 3 rfl (Nat.le_of_ble_eq_true rfl)
      have Zc274 : n0 ≤ h273.size := Nat.le_trans Zc271 (Nat.le_of_eq W273.size.symm)
      have N273 := Fr.snoc X273 N270 g_b7
      refine Gl.st (B := (T273.setTop (mkF m 272 L49 []))) st273 ?_
      refine Gl.st (B := (T273.setTop (mkF m 283 L49 [(.int (3 : Int32)), (.int (1 : Int32)), (.ref b7)]))) (fun t k => XS.iload X273.here hx rfl (hb hby at_272) (ldAt hL49 rfl) (XS.iconst X273.here hx rfl (hb hby at_274) (XS.icmpNo X273.here hx rfl (hb hby at_275) rfl (by decide) (XS.aload X273.here hx rfl (hb hby at_278) (ldAt hL49 rfl) rfl (XS.iload X273.here hx rfl (hb hby at_280) (ldAt hL49 rfl) (XS.iconst X273.here hx rfl (hb hby at_282) k)))))) ?_
      refine Gl.st (B := (T273.setTop (mkF m 302 L49 [(.int (y14_179_46.toInt8.toInt32)), (.int (4 : Int32)), (.ref b7)]))) (fun t k => XS.iadd X273.here hx rfl (hb hby at_283) rfl (XS.iload X273.here hx rfl (hb hby at_284) (ldAt hL49 rfl) (XS.iconst X273.here hx rfl (hb hby at_286) (XS.icmpYes X273.here hx rfl (pc0 := 287) (pc' := 299) rfl (hb hby at_287) rfl (by decide) (by decide) (by decide) (XS.iload X273.here hx rfl (hb hby at_299) (ldAt hL49 rfl) (XS.i2b X273.here hx rfl (hb hby at_301) rfl k)))))) ?_
      obtain ⟨x302_275, hx302_275⟩ : ∃ z : Int32, z = (y14_179_46.toInt8.toInt32) := ⟨_, rfl⟩
      refine Gl.cast (B := (T273.setTop (mkF m 302 L49 [(.int x302_275), (.int (4 : Int32)), (.ref b7)]))) (by rw [hx302_275]) ?_
      obtain ⟨cl276, Ar276, q276, S276, P276, H276, G276⟩ := (id V273)
      have hin302_276 : ¬ ((4 : Int32) < 0 ∨ cl276.slots.size ≤ ((4 : Int32)).toNatClampNeg) := inb_of S276 ⟨by decide, by decide⟩
      obtain ⟨T276, h276, X276, e276, W276, st276⟩ := stB X273 hx hZ e273 Ar276 (j := (4 : Int32)) hin302_276 (g := (mkF m 302 L49 [(.int x302_275), (.int (4 : Int32)), (.ref b7)])) rfl rfl (hb hby at_302)
      have V276 : Arv Z h276 b7 k7 .byte (10 : Int32) [(.int (nar .byte x49_10)), (.int (nar .byte x209_266)), (.int (nar .byte x240_269)), (.int (nar .byte x271_272)), (.int (nar .byte x302_275)), (.int (nar .byte x104_25)), (.int (nar .byte x116_28)), (.int (nar .byte x128_31)), (.int (nar .byte x136_34)), (.int (nar .byte x147_37))] (.int (0 : Int32)) := Arv.set Ar276 q276 S276 P276 H276 G276 (fits_nar_byte _) W276 4 rfl (Nat.le_of_ble_eq_true rfl)
      have Zc277 : n0 ≤ h276.size := Nat.le_trans Zc274 (Nat.le_of_eq W276.size.symm)
      have N276 := Fr.snoc X276 N273 g_b7
      refine Gl.st (B := (T276.setTop (mkF m 303 L49 []))) st276 ?_
      refine Gl.st (B := (T276.setTop (mkF m 324 L49 [(.long (4294967295 : Int64)), (.long (p1.toInt64))]))) (fun t k => XS.iload X276.here hx rfl (hb hby at_303) (ldAt hL49 rfl) (XS.iconst X276.here hx rfl (hb hby at_305) (XS.icmpYes X276.here hx rfl (pc0 := 306) (pc' := 319) rfl (hb hby at_306) rfl (by decide) (by decide) (by decide) (XS.iloadN X276.here hx rfl (hb hby at_319) (ldAt hL49 rfl) (XS.i2l X276.here hx rfl (hb hby at_320) rfl (X276.ldc2Long hx hown (mvT hZ (tw hw 2 rfl)) (g := (mkF m 321 L49 [(.long (p1.toInt64))])) rfl (hb hby at_321) _ k)))))) ?_
      refine Gl.st (B := (T276.setTop (mkF m 325 L49 [(.long ((p1.toInt64) &&& (4294967295 : Int64)))]))) (fun t k => XS.land X276.here hx rfl (hb hby at_324) rfl k) ?_
      obtain ⟨y16_325_278, hy16_325_278⟩ : ∃ z : Int64, z = ((p1.toInt64) &&& (4294967295 : Int64)) := ⟨_, rfl⟩
      refine Gl.cast (B := (T276.setTop (mkF m 325 L49 [(.long y16_325_278)]))) (by rw [hy16_325_278]) ?_
      obtain ⟨L279, hL279⟩ : ∃ z : Array Slot, z = #[.val (.int p1), .val (.int p2), .val (.int p3), .val (.int p4), .val (.long q5), .second, .val (.int p6), .val (.int (4 : Int32)), .val (.int (1 : Int32)), .val (.int y9_34_5), .val (.ref b7), .val (.int y11_152_40), .val (.int y12_161_42), .val (.int y13_170_44), .val (.int y14_179_46), .val (.int y15_185_48), .val (.long y16_325_278), .second, .unset, .unset] := ⟨_, rfl⟩
      refine Gl.st (B := (T276.setTop (mkF m 341 L279 [(.long (1 : Int64)), (.long y16_325_278)]))) (fun t k => XS.lstore X276.here hx rfl (hb hby at_325) rfl (l' := L279) (stAt hL49 hL279 rfl rfl) (XS.iload X276.here hx rfl (hb hby at_327) (ldAt hL279 rfl) (XS.iconst X276.here hx rfl (hb hby at_329) (XS.icmpYes X276.here hx rfl (pc0 := 330) (pc' := 338) rfl (hb hby at_330) rfl (by decide) (by decide) (by decide) (XS.lload X276.here hx rfl (hb hby at_338) (ldAt hL279 rfl) (XS.lconst X276.here hx rfl (hb hby at_340) k)))))) ?_
      refine Gl.st (B := (T276.setTop (mkF m 349 L279 [(.long (((1 : Int64) <<< ((28 : Int32) &&& 0x3f).toInt64) - (1 : Int64))), (.long y16_325_278)]))) (fun t k => XS.bipush X276.here hx rfl (hb hby at_341) (XS.iload X276.here hx rfl (hb hby at_343) (ldAt hL279 rfl) (XS.imul X276.here hx rfl (hb hby at_345) rfl (XS.lshl X276.here hx rfl (hb hby at_346) rfl (XS.lconst X276.here hx rfl (hb hby at_347) (XS.lsub X276.here hx rfl (hb hby at_348) rfl k)))))) ?_
      refine Gl.st (B := (T276.setTop (mkF m 350 L279 [(.long (y16_325_278 &&& (((1 : Int64) <<< ((28 : Int32) &&& 0x3f).toInt64) - (1 : Int64))))]))) (fun t k => XS.land X276.here hx rfl (hb hby at_349) rfl k) ?_
      obtain ⟨y18_350_280, hy18_350_280⟩ : ∃ z : Int64, z = (y16_325_278 &&& (((1 : Int64) <<< ((28 : Int32) &&& 0x3f).toInt64) - (1 : Int64))) := ⟨_, rfl⟩
      refine Gl.cast (B := (T276.setTop (mkF m 350 L279 [(.long y18_350_280)]))) (by rw [hy18_350_280]) ?_
      obtain ⟨L281, hL281⟩ : ∃ z : Array Slot, z = #[.val (.int p1), .val (.int p2), .val (.int p3), .val (.int p4), .val (.long q5), .second, .val (.int p6), .val (.int (4 : Int32)), .val (.int (1 : Int32)), .val (.int y9_34_5), .val (.ref b7), .val (.int y11_152_40), .val (.int y12_161_42), .val (.int y13_170_44), .val (.int y14_179_46), .val (.int y15_185_48), .val (.long y16_325_278), .second, .val (.long y18_350_280), .second] := ⟨_, rfl⟩
      refine Gl.st (B := (T276.setTop (mkF m 358 L281 [(.int y9_34_5), (.int (1 : Int32)), (.ref b7)]))) (fun t k => XS.lstore X276.here hx rfl (hb hby at_350) rfl (l' := L281) (stAt hL279 hL281 rfl rfl) (XS.aload X276.here hx rfl (hb hby at_352) (ldAt hL281 rfl) rfl (XS.iload X276.here hx rfl (hb hby at_354) (ldAt hL281 rfl) (XS.iload X276.here hx rfl (hb hby at_356) (ldAt hL281 rfl) k)))) ?_
      obtain ⟨cl283, Ar283, q283, S283, P283, H283, G283⟩ := (id V276)
      have hin40_1_284 : ¬ (((1 : Int32) + (0 : Int32)) < 0 ∨ cl283.slots.size ≤ (((1 : Int32) + (0 : Int32))).toNatClampNeg) := inb_of S283 ⟨by decide, by decide⟩
      have hin40_2_285 : ¬ (((1 : Int32) + (1 : Int32)) < 0 ∨ cl283.slots.size ≤ (((1 : Int32) + (1 : Int32))).toNatClampNeg) := inb_of S283 ⟨by decide, by decide⟩
      have hin40_3_286 : ¬ (((1 : Int32) + (2 : Int32)) < 0 ∨ cl283.slots.size ≤ (((1 : Int32) + (2 : Int32))).toNatClampNeg) := inb_of S283 ⟨by decide, by decide⟩
      have hin40_4_287 : ¬ (((1 : Int32) + (3 : Int32)) < 0 ∨ cl283.slots.size ≤ (((1 : Int32) + (3 : Int32))).toNatClampNeg) := inb_of S283 ⟨by decide, by decide⟩
      have hp358_288 : ¬ ((((10 : Int32) ||| (1 : Int32)) ||| y9_34_5) < (0 : Int32)) := own_0_hp358_288 p4 y9_34_5 hy9_34_5 
      have hp358_289 : ¬ (((10 : Int32) - (1 : Int32)) < y9_34_5) := own_0_hp358_289 p4 y9_34_5 hy9_34_5 
      have hp358_290 : ¬ ((0 : Int32) = y9_34_5) := own_0_hp358_290 p4 y9_34_5 hy9_34_5 
      have hp358_291 : ¬ ((((nar .byte x209_266) &&& (255 : Int32))) < (128 : Int32)) := own_0_hp358_291 p1 y11_152_40 x209_266 hy11_152_40 hx209_266 
      have hp358_292 : ¬ ((1 : Int32) = y9_34_5) := own_0_hp358_292 p4 y9_34_5 hy9_34_5 
      have hp358_293 : ¬ ((((nar .byte x240_269) &&& (255 : Int32))) < (128 : Int32)) := own_0_hp358_293 p1 y12_161_42 x240_269 hy12_161_42 hx240_269 
      have hp358_294 : ¬ ((2 : Int32) = y9_34_5) := own_0_hp358_294 p4 y9_34_5 hy9_34_5 
      have hp358_295 : ¬ ((((nar .byte x271_272) &&& (255 : Int32))) < (128 : Int32)) := own_0_hp358_295 p1 y13_170_44 x271_272 hy13_170_44 hx271_272 
      have hp358_296 : ¬ ((3 : Int32) = y9_34_5) := own_0_hp358_296 p4 y9_34_5 hy9_34_5 
      have hp358_297 : (((nar .byte x302_275) &&& (255 : Int32))) < (128 : Int32) := own_0_hp358_297 p1 y14_179_46 x302_275 hy14_179_46 hx302_275 
      have hp358_298 : ¬ ((4294967295 : Int64) < (((((((((0 : Int64) ||| ((((((nar .byte x209_266) &&& (255 : Int32))) &&& (127 : Int32)).toInt64) <<< ((0 : Int32) &&& 0x3f).toInt64))) ||| ((((((nar .byte x240_269) &&& (255 : Int32))) &&& (127 : Int32)).toInt64) <<< ((7 : Int32) &&& 0x3f).toInt64))) ||| ((((((nar .byte x271_272) &&& (255 : Int32))) &&& (127 : Int32)).toInt64) <<< ((14 : Int32) &&& 0x3f).toInt64))) ||| ((((((nar .byte x302_275) &&& (255 : Int32))) &&& (127 : Int32)).toInt64) <<< ((21 : Int32) &&& 0x3f).toInt64)))) := own_0_hp358_298 p1 y11_152_40 x209_266 y12_161_42 x240_269 y13_170_44 x271_272 y14_179_46 x302_275 hy11_152_40 hx209_266 hy12_161_42 hx240_269 hy13_170_44 hx271_272 hy14_179_46 hx302_275 
      obtain ⟨_, _, ⟨T282, L282q, k282, n282⟩, -, X282, ⟨Lc282, hQ282, l282, y282, z282⟩, st282⟩ := Jvm.LawKit.callS X276 hx (y := (⟨"com/example/requeue/requeue/connection/SnappyBlock", "uncompressedLength", "([BII)J"⟩ : MethodName)) hown (mvT hZ (tw hw 3 rfl)) (mvT hZ (tw hw 4 rfl)) (mvT hZ (tw hw 5 rfl)) (mvT hZ (tw hw 6 rfl)) (by decide) (backOf (W := 0) (rm1k4 l Z a0 hw [] b7 (1 : Int32) y9_34_5 cl283 (nar .byte x209_266) (nar .byte x240_269) (nar .byte x271_272) (nar .byte x302_275) h276 n0 Zc277 Ar283 S283 P283 hp358_288 hp358_289 hp358_290 hin40_1_284 (Has.at H283 hin40_1_284 (v := (.int (nar .byte x209_266))) rfl) hp358_291 hp358_292 hin40_2_285 (Has.at H283 hin40_2_285 (v := (.int (nar .byte x240_269))) rfl) hp358_293 hp358_294 hin40_3_286 (Has.at H283 hin40_3_286 (v := (.int (nar .byte x271_272))) rfl) hp358_295 hp358_296 hin40_4_287 (Has.at H283 hin40_4_287 (v := (.int (nar .byte x302_275))) rfl) hp358_297 hp358_298) hZ (tw hw 6 rfl) (tw hw 5 rfl) (by decide) (by decide)) (g := (mkF m 358 L281 [(.int y9_34_5), (.int (1 : Int32)), (.ref b7)])) rfl (szAt hml hL281 rfl) (argsL := [(.ref b7), (.int (1 : Int32)), (.int y9_34_5)]) (rest := []) (lenOf pd_0_0 rfl) rfl (by show 2 * 0 + _ ≤ _; exact Nat.le_of_eq rfl) (hb hby at_358) (fun _ _ => ⟨rfl, e276, (by decide : 1 + 0 ≤ _), (by decide : 10 + 0 ≤ _)⟩)
      dsimp only [Pt.U, Pt.locs, Pt.cells, Pt.slots] at X282 l282 y282 z282 st282 hQ282
      subst l282 y282 z282
      obtain ⟨rfl, N282q, eh282⟩ := hQ282
      have N282 := Fr.app N276 N282q
      refine Gl.st (B := (T282.setTop (mkF m 361 L281 [(.long (((((((((0 : Int64) ||| ((((((nar .byte x209_266) &&& (255 : Int32))) &&& (127 : Int32)).toInt64) <<< ((0 : Int32) &&& 0x3f).toInt64))) ||| ((((((nar .byte x240_269) &&& (255 : Int32))) &&& (127 : Int32)).toInt64) <<< ((7 : Int32) &&& 0x3f).toInt64))) ||| ((((((nar .byte x271_272) &&& (255 : Int32))) &&& (127 : Int32)).toInt64) <<< ((14 : Int32) &&& 0x3f).toInt64))) ||| ((((((nar .byte x302_275) &&& (255 : Int32))) &&& (127 : Int32)).toInt64) <<< ((21 : Int32) &&& 0x3f).toInt64))))]))) (fun t k => st282 t k) ?_
      obtain ⟨r358_299, hr358_299⟩ : ∃ z : Int64, z = (((((((((0 : Int64) ||| ((((((nar .byte x209_266) &&& (255 : Int32))) &&& (127 : Int32)).toInt64) <<< ((0 : Int32) &&& 0x3f).toInt64))) ||| ((((((nar .byte x240_269) &&& (255 : Int32))) &&& (127 : Int32)).toInt64) <<< ((7 : Int32) &&& 0x3f).toInt64))) ||| ((((((nar .byte x271_272) &&& (255 : Int32))) &&& (127 : Int32)).toInt64) <<< ((14 : Int32) &&& 0x3f).toInt64))) ||| ((((((nar .byte x302_275) &&& (255 : Int32))) &&& (127 : Int32)).toInt64) <<< ((21 : Int32) &&& 0x3f).toInt64))) := ⟨_, rfl⟩
      refine Gl.cast (B := (T282.setTop (mkF m 361 L281 [(.long r358_299)]))) (by rw [hr358_299]) ?_
      refine Gl.st (B := (T282.setTop (mkF m 364 L281 [(.int (lcmpW r358_299 y18_350_280))]))) (fun t k => XS.lload X282.here hx rfl (hb hby at_361) (ldAt hL281 rfl) (XS.lcmp X282.here hx rfl (hb hby at_363) rfl k)) ?_
      have hc364_300 : r358_299 = y18_350_280 := own_0_hc364_300 p1 y11_152_40 x209_266 y12_161_42 x240_269 y13_170_44 x271_272 y14_179_46 x302_275 r358_299 y16_325_278 y18_350_280 hy11_152_40 hx209_266 hy12_161_42 hx240_269 hy13_170_44 hx271_272 hy14_179_46 hx302_275 hr358_299 hy16_325_278 hy18_350_280 
      refine Gl.st (B := (T282.setTop (mkF m 372 L281 [(.int (1 : Int32))]))) (fun t k => XS.ifNo X282.here hx rfl (hb hby at_364) rfl ((if0 _ _).trans (teq ((lw_eq r358_299 y18_350_280).mpr hc364_300)).2) (XS.iconst X282.here hx rfl (hb hby at_367) (XS.goto X282.here hx rfl (pc0 := 368) (pc' := 372) rfl (hb hby at_368) (by decide) (by decide) k))) ?_
      obtain ⟨fs, hr, hrun, hended, hW, hsame⟩ := X282.leave (v := some (.int (nar .boolean (1 : Int32)))) (fun h => by rw [Bd.returns] at h; cases h)
      refine Gl.fin (retN X282 hx (t := .boolean) Bd.returns (by simp) (hb hby at_372) hr) hrun hended ⟨_, _, rfl, ?_, ⟨_, rfl⟩, hW, hsame.mono (by decide) (by decide)⟩
      show Q0 Z p1 p2 p3 p4 q5 p6 h0 n0 _ T282.heap _
      rw [eh282]
      exact ⟨rfl, N282⟩
    · skip
      subst hk
      refine Gl.st (B := (T38.setTop (mkF m 199 L49 [(.int y11_152_40), (.int (1 : Int32)), (.ref b7)]))) (fun t k => XS.aload X38.here hx rfl (hb hby at_187) (ldAt hL49 rfl) rfl (XS.iload X38.here hx rfl (hb hby at_189) (ldAt hL49 rfl) (XS.iload X38.here hx rfl (hb hby at_191) (ldAt hL49 rfl) (XS.iconst X38.here hx rfl (hb hby at_193) (XS.icmpNo X38.here hx rfl (hb hby at_194) rfl (by decide) (XS.iload X38.here hx rfl (hb hby at_197) (ldAt hL49 rfl) k)))))) ?_
      refine Gl.st (B := (T38.setTop (mkF m 209 L49 [(.int ((y11_152_40 ||| (128 : Int32)).toInt8.toInt32)), (.int (1 : Int32)), (.ref b7)]))) (fun t k => XS.sipush X38.here hx rfl (hb hby at_199) (XS.ior X38.here hx rfl (hb hby at_202) rfl (XS.goto X38.here hx rfl (pc0 := 203) (pc' := 208) rfl (hb hby at_203) (by decide) (by decide) (XS.i2b X38.here hx rfl (hb hby at_208) rfl k)))) ?_
      obtain ⟨x209_301, hx209_301⟩ : ∃ z : Int32, z = ((y11_152_40 ||| (128 : Int32)).toInt8.toInt32) := ⟨_, rfl⟩
      refine Gl.cast (B := (T38.setTop (mkF m 209 L49 [(.int x209_301), (.int (1 : Int32)), (.ref b7)]))) (by rw [hx209_301]) ?_
      obtain ⟨cl302, Ar302, q302, S302, P302, H302, G302⟩ := (id V38)
      have hin209_302 : ¬ ((1 : Int32) < 0 ∨ cl302.slots.size ≤ ((1 : Int32)).toNatClampNeg) := inb_of S302 ⟨by decide, by decide⟩
      obtain ⟨T302, h302, X302, e302, W302, st302⟩ := stB X38 hx hZ e38 Ar302 (j := (1 : Int32)) hin209_302 (g := (mkF m 209 L49 [(.int x209_301), (.int (1 : Int32)), (.ref b7)])) rfl rfl (hb hby at_209)
      have V302 : Arv Z h302 b7 k7 .byte (10 : Int32) [(.int (nar .byte x49_10)), (.int (nar .byte x209_301)), (.int (nar .byte x71_16)), (.int (nar .byte x82_19)), (.int (nar .byte x93_22)), (.int (nar .byte x104_25)), (.int (nar .byte x116_28)), (.int (nar .byte x128_31)), (.int (nar .byte x136_34)), (.int (nar .byte x147_37))] (.int (0 : Int32)) := Arv.set Ar302 q302 S302 P302 H302 G302 (fits_nar_byte _) W302 1 rfl (Nat.le_of_ble_eq_true rfl)
      have Zc303 : n0 ≤ h302.size := Nat.le_trans Zc39 (Nat.le_of_eq W302.size.symm)
      have N302 := Fr.snoc X302 N38 g_b7
      refine Gl.st (B := (T302.setTop (mkF m 210 L49 []))) st302 ?_
      refine Gl.st (B := (T302.setTop (mkF m 221 L49 [(.int (1 : Int32)), (.int (1 : Int32)), (.ref b7)]))) (fun t k => XS.iload X302.here hx rfl (hb hby at_210) (ldAt hL49 rfl) (XS.iconst X302.here hx rfl (hb hby at_212) (XS.icmpNo X302.here hx rfl (hb hby at_213) rfl (by decide) (XS.aload X302.here hx rfl (hb hby at_216) (ldAt hL49 rfl) rfl (XS.iload X302.here hx rfl (hb hby at_218) (ldAt hL49 rfl) (XS.iconst X302.here hx rfl (hb hby at_220) k)))))) ?_
      refine Gl.st (B := (T302.setTop (mkF m 233 L49 [(.int (128 : Int32)), (.int y12_161_42), (.int (2 : Int32)), (.ref b7)]))) (fun t k => XS.iadd X302.here hx rfl (hb hby at_221) rfl (XS.iload X302.here hx rfl (hb hby at_222) (ldAt hL49 rfl) (XS.iconst X302.here hx rfl (hb hby at_224) (XS.icmpNo X302.here hx rfl (hb hby at_225) rfl (by decide) (XS.iload X302.here hx rfl (hb hby at_228) (ldAt hL49 rfl) (XS.sipush X302.here hx rfl (hb hby at_230) k)))))) ?_
      refine Gl.st (B := (T302.setTop (mkF m 240 L49 [(.int ((y12_161_42 ||| (128 : Int32)).toInt8.toInt32)), (.int (2 : Int32)), (.ref b7)]))) (fun t k => XS.ior X302.here hx rfl (hb hby at_233) rfl (XS.goto X302.here hx rfl (pc0 := 234) (pc' := 239) rfl (hb hby at_234) (by decide) (by decide) (XS.i2b X302.here hx rfl (hb hby at_239) rfl k))) ?_
      obtain ⟨x240_304, hx240_304⟩ : ∃ z : Int32, z = ((y12_161_42 ||| (128 : Int32)).toInt8.toInt32) := ⟨_, rfl⟩
      refine Gl.cast (B := (T302.setTop (mkF m 240 L49 [(.int x240_304), (.int (2 : Int32)), (.ref b7)]))) (by rw [hx240_304]) ?_
      obtain ⟨cl305, Ar305, q305, S305, P305, H305, G305⟩ := (id V302)
      have hin240_305 : ¬ ((2 : Int32) < 0 ∨ cl305.slots.size ≤ ((2 : Int32)).toNatClampNeg) := inb_of S305 ⟨by decide, by decide⟩
      obtain ⟨T305, h305, X305, e305, W305, st305⟩ := stB X302 hx hZ e302 Ar305 (j := (2 : Int32)) hin240_305 (g := (mkF m 240 L49 [(.int x240_304), (.int (2 : Int32)), (.ref b7)])) rfl rfl (hb hby at_240)
      have V305 : Arv Z h305 b7 k7 .byte (10 : Int32) [(.int (nar .byte x49_10)), (.int (nar .byte x209_301)), (.int (nar .byte x240_304)), (.int (nar .byte x82_19)), (.int (nar .byte x93_22)), (.int (nar .byte x104_25)), (.int (nar .byte x116_28)), (.int (nar .byte x128_31)), (.int (nar .byte x136_34)), (.int (nar .byte x147_37))] (.int (0 : Int32)) := Arv.set Ar305 q305 S305 P305 H305 G305 (fits_nar_byte _) W305 2 rfl (Nat.le_of_ble_eq_true rfl)
      have Zc306 : n0 ≤ h305.size := Nat.le_trans Zc303 (Nat.le_of_eq W305.size.symm)
      have N305 := Fr.snoc X305 N302 g_b7
      refine Gl.st (B := (T305.setTop (mkF m 241 L49 []))) st305 ?_
      refine Gl.st (B := (T305.setTop (mkF m 252 L49 [(.int (2 : Int32)), (.int (1 : Int32)), (.ref b7)]))) (fun t k => XS.iload X305.here hx rfl (hb hby at_241) (ldAt hL49 rfl) (XS.iconst X305.here hx rfl (hb hby at_243) (XS.icmpNo X305.here hx rfl (hb hby at_244) rfl (by decide) (XS.aload X305.here hx rfl (hb hby at_247) (ldAt hL49 rfl) rfl (XS.iload X305.here hx rfl (hb hby at_249) (ldAt hL49 rfl) (XS.iconst X305.here hx rfl (hb hby at_251) k)))))) ?_
      refine Gl.st (B := (T305.setTop (mkF m 264 L49 [(.int (128 : Int32)), (.int y13_170_44), (.int (3 : Int32)), (.ref b7)]))) (fun t k => XS.iadd X305.here hx rfl (hb hby at_252) rfl (XS.iload X305.here hx rfl (hb hby at_253) (ldAt hL49 rfl) (XS.iconst X305.here hx rfl (hb hby at_255) (XS.icmpNo X305.here hx rfl (hb hby at_256) rfl (by decide) (XS.iload X305.here hx rfl (hb hby at_259) (ldAt hL49 rfl) (XS.sipush X305.here hx rfl (hb hby at_261) k)))))) ?_
      refine Gl.st (B := (T305.setTop (mkF m 271 L49 [(.int ((y13_170_44 ||| (128 : Int32)).toInt8.toInt32)), (.int (3 : Int32)), (.ref b7)]))) (fun t k => XS.ior X305.here hx rfl (hb hby at_264) rfl (XS.goto X305.here hx rfl (pc0 := 265) (pc' := 270) rfl (hb hby at_265) (by decide) (by decide) (XS.i2b X305.here hx rfl (hb hby at_270) rfl k))) ?_
      obtain ⟨x271_307, hx271_307⟩ : ∃ z : Int32, z = ((y13_170_44 ||| (128 : Int32)).toInt8.toInt32) := ⟨_, rfl⟩
      refine Gl.cast (B := (T305.setTop (mkF m 271 L49 [(.int x271_307), (.int (3 : Int32)), (.ref b7)]))) (by rw [hx271_307]) ?_
      obtain ⟨cl308, Ar308, q308, S308, P308, H308, G308⟩ := (id V305)
      have hin271_308 : ¬ ((3 : Int32) < 0 ∨ cl308.slots.size ≤ ((3 : Int32)).toNatClampNeg) := inb_of S308 ⟨by decide, by decide⟩
      obtain ⟨T308, h308, X308, e308, W308, st308⟩ := stB X305 hx hZ e305 Ar308 (j := (3 : Int32)) hin271_308 (g := (mkF m 271 L49 [(.int x271_307), (.int (3 : Int32)), (.ref b7)])) rfl rfl (hb hby at_271)
      have V308 : Arv Z h308 b7 k7 .byte (10 : Int32) [(.int (nar .byte x49_10)), (.int (nar .byte x209_301)), (.int (nar .byte x240_304)), (.int (nar .byte x271_307)), (.int (nar .byte x93_22)), (.int (nar .byte x104_25)), (.int (nar .byte x116_28)), (.int (nar .byte x128_31)), (.int (nar .byte x136_34)), (.int (nar .byte x147_37))] (.int (0 : Int32)) := Arv.set Ar308 q308 S308 P308 H308 G308 (fits_nar_byte _) W308 3 rfl (Nat.le_of_ble_eq_true rfl)
      have Zc309 : n0 ≤ h308.size := Nat.le_trans Zc306 (Nat.le_of_eq W308.size.symm)
      have N308 := Fr.snoc X308 N305 g_b7
      refine Gl.st (B := (T308.setTop (mkF m 272 L49 []))) st308 ?_
      refine Gl.st (B := (T308.setTop (mkF m 283 L49 [(.int (3 : Int32)), (.int (1 : Int32)), (.ref b7)]))) (fun t k => XS.iload X308.here hx rfl (hb hby at_272) (ldAt hL49 rfl) (XS.iconst X308.here hx rfl (hb hby at_274) (XS.icmpNo X308.here hx rfl (hb hby at_275) rfl (by decide) (XS.aload X308.here hx rfl (hb hby at_278) (ldAt hL49 rfl) rfl (XS.iload X308.here hx rfl (hb hby at_280) (ldAt hL49 rfl) (XS.iconst X308.here hx rfl (hb hby at_282) k)))))) ?_
      refine Gl.st (B := (T308.setTop (mkF m 295 L49 [(.int (128 : Int32)), (.int y14_179_46), (.int (4 : Int32)), (.ref b7)]))) (fun t k => XS.iadd X308.here hx rfl (hb hby at_283) rfl (XS.iload X308.here hx rfl (hb hby at_284) (ldAt hL49 rfl) (XS.iconst X308.here hx rfl (hb hby at_286) (XS.icmpNo X308.here hx rfl (hb hby at_287) rfl (by decide) (XS.iload X308.here hx rfl (hb hby at_290) (ldAt hL49 rfl) (XS.sipush X308.here hx rfl (hb hby at_292) k)))))) ?_
      refine Gl.st (B := (T308.setTop (mkF m 302 L49 [(.int ((y14_179_46 ||| (128 : Int32)).toInt8.toInt32)), (.int (4 : Int32)), (.ref b7)]))) (fun t k => XS.ior X308.here hx rfl (hb hby at_295) rfl (XS.goto X308.here hx rfl (pc0 := 296) (pc' := 301) rfl (hb hby at_296) (by decide) (by decide) (XS.i2b X308.here hx rfl (hb hby at_301) rfl k))) ?_
      obtain ⟨x302_310, hx302_310⟩ : ∃ z : Int32, z = ((y14_179_46 ||| (128 : Int32)).toInt8.toInt32) := ⟨_, rfl⟩
      refine Gl.cast (B := (T308.setTop (mkF m 302 L49 [(.int x302_310), (.int (4 : Int32)), (.ref b7)]))) (by rw [hx302_310]) ?_
      obtain ⟨cl311, Ar311, q311, S311, P311, H311, G311⟩ := (id V308)
      have hin302_311 : ¬ ((4 : Int32) < 0 ∨ cl311.slots.size ≤ ((4 : Int32)).toNatClampNeg) := inb_of S311 ⟨by decide, by decide⟩
      obtain ⟨T311, h311, X311, e311, W311, st311⟩ := stB X308 hx hZ e308 Ar311 (j := (4 : Int32)) hin302_311 (g := (mkF m 302 L49 [(.int x302_310), (.int (4 : Int32)), (.ref b7)])) rfl rfl (hb hby at_302)
      have V311 : Arv Z h311 b7 k7 .byte (10 : Int32) [(.int (nar .byte x49_10)), (.int (nar .byte x209_301)), (.int (nar .byte x240_304)), (.int (nar .byte x271_307)), (.int (nar .byte x302_310)), (.int (nar .byte x104_25)), (.int (nar .byte x116_28)), (.int (nar .byte x128_31)), (.int (nar .byte x136_34)), (.int (nar .byte x147_37))] (.int (0 : Int32)) := Arv.set Ar311 q311 S311 P311 H311 G311 (fits_nar_byte _) W311 4 rfl (Nat.le_of_ble_eq_true rfl)
      have Zc312 : n0 ≤ h311.size := Nat.le_trans Zc309 (Nat.le_of_eq W311.size.symm)
      have N311 := Fr.snoc X311 N308 g_b7
      refine Gl.st (B := (T311.setTop (mkF m 303 L49 []))) st311 ?_
      refine Gl.st (B := (T311.setTop (mkF m 314 L49 [(.int (4 : Int32)), (.int (1 : Int32)), (.ref b7)]))) (fun t k => XS.iload X311.here hx rfl (hb hby at_303) (ldAt hL49 rfl) (XS.iconst X311.here hx rfl (hb hby at_305) (XS.icmpNo X311.here hx rfl (hb hby at_306) rfl (by decide) (XS.aload X311.here hx rfl (hb hby at_309) (ldAt hL49 rfl) rfl (XS.iload X311.here hx rfl (hb hby at_311) (ldAt hL49 rfl) (XS.iconst X311.here hx rfl (hb hby at_313) k)))))) ?_
      refine Gl.st (B := (T311.setTop (mkF m 318 L49 [(.int (y15_185_48.toInt8.toInt32)), (.int (5 : Int32)), (.ref b7)]))) (fun t k => XS.iadd X311.here hx rfl (hb hby at_314) rfl (XS.iload X311.here hx rfl (hb hby at_315) (ldAt hL49 rfl) (XS.i2b X311.here hx rfl (hb hby at_317) rfl k))) ?_
      obtain ⟨x318_313, hx318_313⟩ : ∃ z : Int32, z = (y15_185_48.toInt8.toInt32) := ⟨_, rfl⟩
      refine Gl.cast (B := (T311.setTop (mkF m 318 L49 [(.int x318_313), (.int (5 : Int32)), (.ref b7)]))) (by rw [hx318_313]) ?_
      obtain ⟨cl314, Ar314, q314, S314, P314, H314, G314⟩ := (id V311)
      have hin318_314 : ¬ ((5 : Int32) < 0 ∨ cl314.slots.size ≤ ((5 : Int32)).toNatClampNeg) := inb_of S314 ⟨by decide, by decide⟩
      obtain ⟨T314, h314, X314, e314, W314, st314⟩ := stB X311 hx hZ e311 Ar314 (j := (5 : Int32)) hin318_314 (g := (mkF m 318 L49 [(.int x318_313), (.int (5 : Int32)), (.ref b7)])) rfl rfl (hb hby at_318)
      have V314 : Arv Z h314 b7 k7 .byte (10 : Int32) [(.int (nar .byte x49_10)), (.int (nar .byte x209_301)), (.int (nar .byte x240_304)), (.int (nar .byte x271_307)), (.int (nar .byte x302_310)), (.int (nar .byte x318_313)), (.int (nar .byte x116_28)), (.int (nar .byte x128_31)), (.int (nar .byte x136_34)), (.int (nar .byte x147_37))] (.int (0 : Int32)) := Arv.set Ar314 q314 S314 P314 H314 G314 (fits_nar_byte _) W314 5 rfl (Nat.le_of_ble_eq_true rfl)
      have Zc315 : n0 ≤ h314.size := Nat.le_trans Zc312 (Nat.le_of_eq W314.size.symm)
      have N314 := Fr.snoc X314 N311 g_b7
      refine Gl.st (B := (T314.setTop (mkF m 319 L49 []))) st314 ?_
      refine Gl.st (B := (T314.setTop (mkF m 325 L49 [(.long ((p1.toInt64) &&& (4294967295 : Int64)))]))) (fun t k => XS.iloadN X314.here hx rfl (hb hby at_319) (ldAt hL49 rfl) (XS.i2l X314.here hx rfl (hb hby at_320) rfl (X314.ldc2Long hx hown (mvT hZ (tw hw 2 rfl)) (g := (mkF m 321 L49 [(.long (p1.toInt64))])) rfl (hb hby at_321) _ (XS.land X314.here hx rfl (hb hby at_324) rfl k)))) ?_
      obtain ⟨y16_325_316, hy16_325_316⟩ : ∃ z : Int64, z = ((p1.toInt64) &&& (4294967295 : Int64)) := ⟨_, rfl⟩
      refine Gl.cast (B := (T314.setTop (mkF m 325 L49 [(.long y16_325_316)]))) (by rw [hy16_325_316]) ?_
      obtain ⟨L317, hL317⟩ : ∃ z : Array Slot, z = #[.val (.int p1), .val (.int p2), .val (.int p3), .val (.int p4), .val (.long q5), .second, .val (.int p6), .val (.int (5 : Int32)), .val (.int (1 : Int32)), .val (.int y9_34_5), .val (.ref b7), .val (.int y11_152_40), .val (.int y12_161_42), .val (.int y13_170_44), .val (.int y14_179_46), .val (.int y15_185_48), .val (.long y16_325_316), .second, .unset, .unset] := ⟨_, rfl⟩
      refine Gl.st (B := (T314.setTop (mkF m 350 L317 [(.long y16_325_316)]))) (fun t k => XS.lstore X314.here hx rfl (hb hby at_325) rfl (l' := L317) (stAt hL49 hL317 rfl rfl) (XS.iload X314.here hx rfl (hb hby at_327) (ldAt hL317 rfl) (XS.iconst X314.here hx rfl (hb hby at_329) (XS.icmpNo X314.here hx rfl (hb hby at_330) rfl (by decide) (XS.lload X314.here hx rfl (hb hby at_333) (ldAt hL317 rfl) (XS.goto X314.here hx rfl (pc0 := 335) (pc' := 350) rfl (hb hby at_335) (by decide) (by decide) k)))))) ?_
      obtain ⟨L318, hL318⟩ : ∃ z : Array Slot, z = #[.val (.int p1), .val (.int p2), .val (.int p3), .val (.int p4), .val (.long q5), .second, .val (.int p6), .val (.int (5 : Int32)), .val (.int (1 : Int32)), .val (.int y9_34_5), .val (.ref b7), .val (.int y11_152_40), .val (.int y12_161_42), .val (.int y13_170_44), .val (.int y14_179_46), .val (.int y15_185_48), .val (.long y16_325_316), .second, .val (.long y16_325_316), .second] := ⟨_, rfl⟩
      refine Gl.st (B := (T314.setTop (mkF m 358 L318 [(.int y9_34_5), (.int (1 : Int32)), (.ref b7)]))) (fun t k => XS.lstore X314.here hx rfl (hb hby at_350) rfl (l' := L318) (stAt hL317 hL318 rfl rfl) (XS.aload X314.here hx rfl (hb hby at_352) (ldAt hL318 rfl) rfl (XS.iload X314.here hx rfl (hb hby at_354) (ldAt hL318 rfl) (XS.iload X314.here hx rfl (hb hby at_356) (ldAt hL318 rfl) k)))) ?_
      obtain ⟨cl320, Ar320, q320, S320, P320, H320, G320⟩ := (id V314)
      have hin40_1_321 : ¬ (((1 : Int32) + (0 : Int32)) < 0 ∨ cl320.slots.size ≤ (((1 : Int32) + (0 : Int32))).toNatClampNeg) := inb_of S320 ⟨by decide, by decide⟩
      have hin40_2_322 : ¬ (((1 : Int32) + (1 : Int32)) < 0 ∨ cl320.slots.size ≤ (((1 : Int32) + (1 : Int32))).toNatClampNeg) := inb_of S320 ⟨by decide, by decide⟩
      have hin40_3_323 : ¬ (((1 : Int32) + (2 : Int32)) < 0 ∨ cl320.slots.size ≤ (((1 : Int32) + (2 : Int32))).toNatClampNeg) := inb_of S320 ⟨by decide, by decide⟩
      have hin40_4_324 : ¬ (((1 : Int32) + (3 : Int32)) < 0 ∨ cl320.slots.size ≤ (((1 : Int32) + (3 : Int32))).toNatClampNeg) := inb_of S320 ⟨by decide, by decide⟩
      have hin40_5_325 : ¬ (((1 : Int32) + (4 : Int32)) < 0 ∨ cl320.slots.size ≤ (((1 : Int32) + (4 : Int32))).toNatClampNeg) := inb_of S320 ⟨by decide, by decide⟩
      have hp358_326 : ¬ ((((10 : Int32) ||| (1 : Int32)) ||| y9_34_5) < (0 : Int32)) := own_0_hp358_326 p4 y9_34_5 hy9_34_5 
      have hp358_327 : ¬ (((10 : Int32) - (1 : Int32)) < y9_34_5) := own_0_hp358_327 p4 y9_34_5 hy9_34_5 
      have hp358_328 : ¬ ((0 : Int32) = y9_34_5) := own_0_hp358_328 p4 y9_34_5 hy9_34_5 
      have hp358_329 : ¬ ((((nar .byte x209_301) &&& (255 : Int32))) < (128 : Int32)) := own_0_hp358_329 p1 y11_152_40 x209_301 hy11_152_40 hx209_301 
      have hp358_330 : ¬ ((1 : Int32) = y9_34_5) := own_0_hp358_330 p4 y9_34_5 hy9_34_5 
      have hp358_331 : ¬ ((((nar .byte x240_304) &&& (255 : Int32))) < (128 : Int32)) := own_0_hp358_331 p1 y12_161_42 x240_304 hy12_161_42 hx240_304 
      have hp358_332 : ¬ ((2 : Int32) = y9_34_5) := own_0_hp358_332 p4 y9_34_5 hy9_34_5 
      have hp358_333 : ¬ ((((nar .byte x271_307) &&& (255 : Int32))) < (128 : Int32)) := own_0_hp358_333 p1 y13_170_44 x271_307 hy13_170_44 hx271_307 
      have hp358_334 : ¬ ((3 : Int32) = y9_34_5) := own_0_hp358_334 p4 y9_34_5 hy9_34_5 
      have hp358_335 : ¬ ((((nar .byte x302_310) &&& (255 : Int32))) < (128 : Int32)) := own_0_hp358_335 p1 y14_179_46 x302_310 hy14_179_46 hx302_310 
      have hp358_336 : ¬ ((4 : Int32) = y9_34_5) := own_0_hp358_336 p4 y9_34_5 hy9_34_5 
      have hp358_337 : (((nar .byte x318_313) &&& (255 : Int32))) < (128 : Int32) := own_0_hp358_337 p1 y15_185_48 x318_313 hy15_185_48 hx318_313 
      have hp358_338 : ¬ ((4294967295 : Int64) < (((((((((((0 : Int64) ||| ((((((nar .byte x209_301) &&& (255 : Int32))) &&& (127 : Int32)).toInt64) <<< ((0 : Int32) &&& 0x3f).toInt64))) ||| ((((((nar .byte x240_304) &&& (255 : Int32))) &&& (127 : Int32)).toInt64) <<< ((7 : Int32) &&& 0x3f).toInt64))) ||| ((((((nar .byte x271_307) &&& (255 : Int32))) &&& (127 : Int32)).toInt64) <<< ((14 : Int32) &&& 0x3f).toInt64))) ||| ((((((nar .byte x302_310) &&& (255 : Int32))) &&& (127 : Int32)).toInt64) <<< ((21 : Int32) &&& 0x3f).toInt64))) ||| ((((((nar .byte x318_313) &&& (255 : Int32))) &&& (127 : Int32)).toInt64) <<< ((28 : Int32) &&& 0x3f).toInt64)))) := own_0_hp358_338 p1 y11_152_40 x209_301 y12_161_42 x240_304 y13_170_44 x271_307 y14_179_46 x302_310 y15_185_48 x318_313 hy11_152_40 hx209_301 hy12_161_42 hx240_304 hy13_170_44 hx271_307 hy14_179_46 hx302_310 hy15_185_48 hx318_313 
      obtain ⟨_, _, ⟨T319, L319q, k319, n319⟩, -, X319, ⟨Lc319, hQ319, l319, y319, z319⟩, st319⟩ := Jvm.LawKit.callS X314 hx (y := (⟨"com/example/requeue/requeue/connection/SnappyBlock", "uncompressedLength", "([BII)J"⟩ : MethodName)) hown (mvT hZ (tw hw 3 rfl)) (mvT hZ (tw hw 4 rfl)) (mvT hZ (tw hw 5 rfl)) (mvT hZ (tw hw 6 rfl)) (by decide) (backOf (W := 0) (rm1k5 l Z a0 hw [] b7 (1 : Int32) y9_34_5 cl320 (nar .byte x209_301) (nar .byte x240_304) (nar .byte x271_307) (nar .byte x302_310) (nar .byte x318_313) h314 n0 Zc315 Ar320 S320 P320 hp358_326 hp358_327 hp358_328 hin40_1_321 (Has.at H320 hin40_1_321 (v := (.int (nar .byte x209_301))) rfl) hp358_329 hp358_330 hin40_2_322 (Has.at H320 hin40_2_322 (v := (.int (nar .byte x240_304))) rfl) hp358_331 hp358_332 hin40_3_323 (Has.at H320 hin40_3_323 (v := (.int (nar .byte x271_307))) rfl) hp358_333 hp358_334 hin40_4_324 (Has.at H320 hin40_4_324 (v := (.int (nar .byte x302_310))) rfl) hp358_335 hp358_336 hin40_5_325 (Has.at H320 hin40_5_325 (v := (.int (nar .byte x318_313))) rfl) hp358_337 hp358_338) hZ (tw hw 6 rfl) (tw hw 5 rfl) (by decide) (by decide)) (g := (mkF m 358 L318 [(.int y9_34_5), (.int (1 : Int32)), (.ref b7)])) rfl (szAt hml hL318 rfl) (argsL := [(.ref b7), (.int (1 : Int32)), (.int y9_34_5)]) (rest := []) (lenOf pd_0_0 rfl) rfl (by show 2 * 0 + _ ≤ _; exact Nat.le_of_eq rfl) (hb hby at_358) (fun _ _ => ⟨rfl, e314, (by decide : 1 + 0 ≤ _), (by decide : 10 + 0 ≤ _)⟩)
      dsimp only [Pt.U, Pt.locs, Pt.cells, Pt.slots] at X319 l319 y319 z319 st319 hQ319
      subst l319 y319 z319
      obtain ⟨rfl, N319q, eh319⟩ := hQ319
      have N319 := Fr.app N314 N319q
      refine Gl.st (B := (T319.setTop (mkF m 361 L318 [(.long (((((((((((0 : Int64) ||| ((((((nar .byte x209_301) &&& (255 : Int32))) &&& (127 : Int32)).toInt64) <<< ((0 : Int32) &&& 0x3f).toInt64))) ||| ((((((nar .byte x240_304) &&& (255 : Int32))) &&& (127 : Int32)).toInt64) <<< ((7 : Int32) &&& 0x3f).toInt64))) ||| ((((((nar .byte x271_307) &&& (255 : Int32))) &&& (127 : Int32)).toInt64) <<< ((14 : Int32) &&& 0x3f).toInt64))) ||| ((((((nar .byte x302_310) &&& (255 : Int32))) &&& (127 : Int32)).toInt64) <<< ((21 : Int32) &&& 0x3f).toInt64))) ||| ((((((nar .byte x318_313) &&& (255 : Int32))) &&& (127 : Int32)).toInt64) <<< ((28 : Int32) &&& 0x3f).toInt64))))]))) (fun t k => st319 t k) ?_
      obtain ⟨r358_339, hr358_339⟩ : ∃ z : Int64, z = (((((((((((0 : Int64) ||| ((((((nar .byte x209_301) &&& (255 : Int32))) &&& (127 : Int32)).toInt64) <<< ((0 : Int32) &&& 0x3f).toInt64))) ||| ((((((nar .byte x240_304) &&& (255 : Int32))) &&& (127 : Int32)).toInt64) <<< ((7 : Int32) &&& 0x3f).toInt64))) ||| ((((((nar .byte x271_307) &&& (255 : Int32))) &&& (127 : Int32)).toInt64) <<< ((14 : Int32) &&& 0x3f).toInt64))) ||| ((((((nar .byte x302_310) &&& (255 : Int32))) &&& (127 : Int32)).toInt64) <<< ((21 : Int32) &&& 0x3f).toInt64))) ||| ((((((nar .byte x318_313) &&& (255 : Int32))) &&& (127 : Int32)).toInt64) <<< ((28 : Int32) &&& 0x3f).toInt64))) := ⟨_, rfl⟩
      refine Gl.cast (B := (T319.setTop (mkF m 361 L318 [(.long r358_339)]))) (by rw [hr358_339]) ?_
      refine Gl.st (B := (T319.setTop (mkF m 364 L318 [(.int (lcmpW r358_339 y16_325_316))]))) (fun t k => XS.lload X319.here hx rfl (hb hby at_361) (ldAt hL318 rfl) (XS.lcmp X319.here hx rfl (hb hby at_363) rfl k)) ?_
      have hc364_340 : r358_339 = y16_325_316 := own_0_hc364_340 p1 y11_152_40 x209_301 y12_161_42 x240_304 y13_170_44 x271_307 y14_179_46 x302_310 y15_185_48 x318_313 r358_339 y16_325_316 hy11_152_40 hx209_301 hy12_161_42 hx240_304 hy13_170_44 hx271_307 hy14_179_46 hx302_310 hy15_185_48 hx318_313 hr358_339 hy16_325_316 
      refine Gl.st (B := (T319.setTop (mkF m 372 L318 [(.int (1 : Int32))]))) (fun t k => XS.ifNo X319.here hx rfl (hb hby at_364) rfl ((if0 _ _).trans (teq ((lw_eq r358_339 y16_325_316).mpr hc364_340)).2) (XS.iconst X319.here hx rfl (hb hby at_367) (XS.goto X319.here hx rfl (pc0 := 368) (pc' := 372) rfl (hb hby at_368) (by decide) (by decide) k))) ?_
      obtain ⟨fs, hr, hrun, hended, hW, hsame⟩ := X319.leave (v := some (.int (nar .boolean (1 : Int32)))) (fun h => by rw [Bd.returns] at h; cases h)
      refine Gl.fin (retN X319 hx (t := .boolean) Bd.returns (by simp) (hb hby at_372) hr) hrun hended ⟨_, _, rfl, ?_, ⟨_, rfl⟩, hW, hsame.mono (by decide) (by decide)⟩
      show Q0 Z p1 p2 p3 p4 q5 p6 h0 n0 _ T319.heap _
      rw [eh319]
      exact ⟨rfl, N319⟩
  · skip
    subst hk
    have hs341 : y7_8_1 = (1 : Int32) ∨ y7_8_1 = (2 : Int32) ∨ y7_8_1 = (3 : Int32) ∨ y7_8_1 = (4 : Int32) ∨ y7_8_1 = (5 : Int32) := by
      exact own_k _ _ hy7_8_1
    rcases hs341 with hk | hk | hk | hk | hk
    · skip
      subst hk
      refine Gl.st (B := (T38.setTop (mkF m 208 L49 [(.int y11_152_40), (.int (2 : Int32)), (.ref b7)]))) (fun t k => XS.aload X38.here hx rfl (hb hby at_187) (ldAt hL49 rfl) rfl (XS.iload X38.here hx rfl (hb hby at_189) (ldAt hL49 rfl) (XS.iload X38.here hx rfl (hb hby at_191) (ldAt hL49 rfl) (XS.iconst X38.here hx rfl (hb hby at_193) (XS.icmpYes X38.here hx rfl (pc0 := 194) (pc' := 206) rfl (hb hby at_194) rfl (by decide) (by decide) (by decide) (XS.iload X38.here hx rfl (hb hby at_206) (ldAt hL49 rfl) k)))))) ?_
      refine Gl.st (B := (T38.setTop (mkF m 209 L49 [(.int (y11_152_40.toInt8.toInt32)), (.int (2 : Int32)), (.ref b7)]))) (fun t k => XS.i2b X38.here hx rfl (hb hby at_208) rfl k) ?_
      obtain ⟨x209_342, hx209_342⟩ : ∃ z : Int32, z = (y11_152_40.toInt8.toInt32) := ⟨_, rfl⟩
      refine Gl.cast (B := (T38.setTop (mkF m 209 L49 [(.int x209_342), (.int (2 : Int32)), (.ref b7)]))) (by rw [hx209_342]) ?_
      obtain ⟨cl343, Ar343, q343, S343, P343, H343, G343⟩ := (id V38)
      have hin209_343 : ¬ ((2 : Int32) < 0 ∨ cl343.slots.size ≤ ((2 : Int32)).toNatClampNeg) := inb_of S343 ⟨by decide, by decide⟩
      obtain ⟨T343, h343, X343, e343, W343, st343⟩ := stB X38 hx hZ e38 Ar343 (j := (2 : Int32)) hin209_343 (g := (mkF m 209 L49 [(.int x209_342), (.int (2 : Int32)), (.ref b7)])) rfl rfl (hb hby at_209)
      have V343 : Arv Z h343 b7 k7 .byte (10 : Int32) [(.int (nar .byte x49_10)), (.int (nar .byte x60_13)), (.int (nar .byte x209_342)), (.int (nar .byte x82_19)), (.int (nar .byte x93_22)), (.int (nar .byte x104_25)), (.int (nar .byte x116_28)), (.int (nar .byte x128_31)), (.int (nar .byte x136_34)), (.int (nar .byte x147_37))] (.int (0 : Int32)) := Arv.set Ar343 q343 S343 P343 H343 G343 (fits_nar_byte _) W343 2 rfl (Nat.le_of_ble_eq_true rfl)
      have Zc344 : n0 ≤ h343.size := Nat.le_trans Zc39 (Nat.le_of_eq W343.size.symm)
      have N343 := Fr.snoc X343 N38 g_b7
      refine Gl.st (B := (T343.setTop (mkF m 210 L49 []))) st343 ?_
      refine Gl.st (B := (T343.setTop (mkF m 272 L49 []))) (fun t k => XS.iload X343.here hx rfl (hb hby at_210) (ldAt hL49 rfl) (XS.iconst X343.here hx rfl (hb hby at_212) (XS.icmpYes X343.here hx rfl (pc0 := 213) (pc' := 241) rfl (hb hby at_213) rfl (by decide) (by decide) (by decide) (XS.iload X343.here hx rfl (hb hby at_241) (ldAt hL49 rfl) (XS.iconst X343.here hx rfl (hb hby at_243) (XS.icmpYes X343.here hx rfl (pc0 := 244) (pc' := 272) rfl (hb hby at_244) rfl (by decide) (by decide) (by decide) k)))))) ?_
      refine Gl.st (B := (T343.setTop (mkF m 319 L49 []))) (fun t k => XS.iload X343.here hx rfl (hb hby at_272) (ldAt hL49 rfl) (XS.iconst X343.here hx rfl (hb hby at_274) (XS.icmpYes X343.here hx rfl (pc0 := 275) (pc' := 303) rfl (hb hby at_275) rfl (by decide) (by decide) (by decide) (XS.iload X343.here hx rfl (hb hby at_303) (ldAt hL49 rfl) (XS.iconst X343.here hx rfl (hb hby at_305) (XS.icmpYes X343.here hx rfl (pc0 := 306) (pc' := 319) rfl (hb hby at_306) rfl (by decide) (by decide) (by decide) k)))))) ?_
      refine Gl.st (B := (T343.setTop (mkF m 325 L49 [(.long ((p1.toInt64) &&& (4294967295 : Int64)))]))) (fun t k => XS.iloadN X343.here hx rfl (hb hby at_319) (ldAt hL49 rfl) (XS.i2l X343.here hx rfl (hb hby at_320) rfl (X343.ldc2Long hx hown (mvT hZ (tw hw 2 rfl)) (g := (mkF m 321 L49 [(.long (p1.toInt64))])) rfl (hb hby at_321) _ (XS.land X343.here hx rfl (hb hby at_324) rfl k)))) ?_
      obtain ⟨y16_325_345, hy16_325_345⟩ : ∃ z : Int64, z = ((p1.toInt64) &&& (4294967295 : Int64)) := ⟨_, rfl⟩
      refine Gl.cast (B := (T343.setTop (mkF m 325 L49 [(.long y16_325_345)]))) (by rw [hy16_325_345]) ?_
      obtain ⟨L346, hL346⟩ : ∃ z : Array Slot, z = #[.val (.int p1), .val (.int p2), .val (.int p3), .val (.int p4), .val (.long q5), .second, .val (.int p6), .val (.int (1 : Int32)), .val (.int (2 : Int32)), .val (.int y9_34_5), .val (.ref b7), .val (.int y11_152_40), .val (.int y12_161_42), .val (.int y13_170_44), .val (.int y14_179_46), .val (.int y15_185_48), .val (.long y16_325_345), .second, .unset, .unset] := ⟨_, rfl⟩
      refine Gl.st (B := (T343.setTop (mkF m 341 L346 [(.long (1 : Int64)), (.long y16_325_345)]))) (fun t k => XS.lstore X343.here hx rfl (hb hby at_325) rfl (l' := L346) (stAt hL49 hL346 rfl rfl) (XS.iload X343.here hx rfl (hb hby at_327) (ldAt hL346 rfl) (XS.iconst X343.here hx rfl (hb hby at_329) (XS.icmpYes X343.here hx rfl (pc0 := 330) (pc' := 338) rfl (hb hby at_330) rfl (by decide) (by decide) (by decide) (XS.lload X343.here hx rfl (hb hby at_338) (ldAt hL346 rfl) (XS.lconst X343.here hx rfl (hb hby at_340) k)))))) ?_
      refine Gl.st (B := (T343.setTop (mkF m 349 L346 [(.long (((1 : Int64) <<< ((7 : Int32) &&& 0x3f).toInt64) - (1 : Int64))), (.long y16_325_345)]))) (fun t k => XS.bipush X343.here hx rfl (hb hby at_341) (XS.iload X343.here hx rfl (hb hby at_343) (ldAt hL346 rfl) (XS.imul X343.here hx rfl (hb hby at_345) rfl (XS.lshl X343.here hx rfl (hb hby at_346) rfl (XS.lconst X343.here hx rfl (hb hby at_347) (XS.lsub X343.here hx rfl (hb hby at_348) rfl k)))))) ?_
      refine Gl.st (B := (T343.setTop (mkF m 350 L346 [(.long (y16_325_345 &&& (((1 : Int64) <<< ((7 : Int32) &&& 0x3f).toInt64) - (1 : Int64))))]))) (fun t k => XS.land X343.here hx rfl (hb hby at_349) rfl k) ?_
      obtain ⟨y18_350_347, hy18_350_347⟩ : ∃ z : Int64, z = (y16_325_345 &&& (((1 : Int64) <<< ((7 : Int32) &&& 0x3f).toInt64) - (1 : Int64))) := ⟨_, rfl⟩
      refine Gl.cast (B := (T343.setTop (mkF m 350 L346 [(.long y18_350_347)]))) (by rw [hy18_350_347]) ?_
      obtain ⟨L348, hL348⟩ : ∃ z : Array Slot, z = #[.val (.int p1), .val (.int p2), .val (.int p3), .val (.int p4), .val (.long q5), .second, .val (.int p6), .val (.int (1 : Int32)), .val (.int (2 : Int32)), .val (.int y9_34_5), .val (.ref b7), .val (.int y11_152_40), .val (.int y12_161_42), .val (.int y13_170_44), .val (.int y14_179_46), .val (.int y15_185_48), .val (.long y16_325_345), .second, .val (.long y18_350_347), .second] := ⟨_, rfl⟩
      refine Gl.st (B := (T343.setTop (mkF m 358 L348 [(.int y9_34_5), (.int (2 : Int32)), (.ref b7)]))) (fun t k => XS.lstore X343.here hx rfl (hb hby at_350) rfl (l' := L348) (stAt hL346 hL348 rfl rfl) (XS.aload X343.here hx rfl (hb hby at_352) (ldAt hL348 rfl) rfl (XS.iload X343.here hx rfl (hb hby at_354) (ldAt hL348 rfl) (XS.iload X343.here hx rfl (hb hby at_356) (ldAt hL348 rfl) k)))) ?_
      obtain ⟨cl350, Ar350, q350, S350, P350, H350, G350⟩ := (id V343)
      have hin40_1_351 : ¬ (((2 : Int32) + (0 : Int32)) < 0 ∨ cl350.slots.size ≤ (((2 : Int32) + (0 : Int32))).toNatClampNeg) := inb_of S350 ⟨by decide, by decide⟩
      have hp358_352 : ¬ ((((10 : Int32) ||| (2 : Int32)) ||| y9_34_5) < (0 : Int32)) := own_0_hp358_352 p4 y9_34_5 hy9_34_5 
      have hp358_353 : ¬ (((10 : Int32) - (2 : Int32)) < y9_34_5) := own_0_hp358_353 p4 y9_34_5 hy9_34_5 
      have hp358_354 : ¬ ((0 : Int32) = y9_34_5) := own_0_hp358_354 p4 y9_34_5 hy9_34_5 
      have hp358_355 : (((nar .byte x209_342) &&& (255 : Int32))) < (128 : Int32) := own_0_hp358_355 p1 y11_152_40 x209_342 hy11_152_40 hx209_342 
      have hp358_356 : ¬ ((4294967295 : Int64) < (((0 : Int64) ||| ((((((nar .byte x209_342) &&& (255 : Int32))) &&& (127 : Int32)).toInt64) <<< ((0 : Int32) &&& 0x3f).toInt64)))) := own_0_hp358_356 p1 y11_152_40 x209_342 hy11_152_40 hx209_342 
      obtain ⟨_, _, ⟨T349, L349q, k349, n349⟩, -, X349, ⟨Lc349, hQ349, l349, y349, z349⟩, st349⟩ := Jvm.LawKit.callS X343 hx (y := (⟨"com/example/requeue/requeue/connection/SnappyBlock", "uncompressedLength", "([BII)J"⟩ : MethodName)) hown (mvT hZ (tw hw 3 rfl)) (mvT hZ (tw hw 4 rfl)) (mvT hZ (tw hw 5 rfl)) (mvT hZ (tw hw 6 rfl)) (by decide) (backOf (W := 0) (rm1k1 l Z a0 hw [] b7 (2 : Int32) y9_34_5 cl350 (nar .byte x209_342) h343 n0 Zc344 Ar350 S350 P350 hp358_352 hp358_353 hp358_354 hin40_1_351 (Has.at H350 hin40_1_351 (v := (.int (nar .byte x209_342))) rfl) hp358_355 hp358_356) hZ (tw hw 6 rfl) (tw hw 5 rfl) (by decide) (by decide)) (g := (mkF m 358 L348 [(.int y9_34_5), (.int (2 : Int32)), (.ref b7)])) rfl (szAt hml hL348 rfl) (argsL := [(.ref b7), (.int (2 : Int32)), (.int y9_34_5)]) (rest := []) (lenOf pd_0_0 rfl) rfl (by show 2 * 0 + _ ≤ _; exact Nat.le_of_eq rfl) (hb hby at_358) (fun _ _ => ⟨rfl, e343, (by decide : 1 + 0 ≤ _), (by decide : 10 + 0 ≤ _)⟩)
      dsimp only [Pt.U, Pt.locs, Pt.cells, Pt.slots] at X349 l349 y349 z349 st349 hQ349
      subst l349 y349 z349
      obtain ⟨rfl, N349q, eh349⟩ := hQ349
      have N349 := Fr.app N343 N349q
      refine Gl.st (B := (T349.setTop (mkF m 361 L348 [(.long (((0 : Int64) ||| ((((((nar .byte x209_342) &&& (255 : Int32))) &&& (127 : Int32)).toInt64) <<< ((0 : Int32) &&& 0x3f).toInt64))))]))) (fun t k => st349 t k) ?_
      obtain ⟨r358_357, hr358_357⟩ : ∃ z : Int64, z = (((0 : Int64) ||| ((((((nar .byte x209_342) &&& (255 : Int32))) &&& (127 : Int32)).toInt64) <<< ((0 : Int32) &&& 0x3f).toInt64))) := ⟨_, rfl⟩
      refine Gl.cast (B := (T349.setTop (mkF m 361 L348 [(.long r358_357)]))) (by rw [hr358_357]) ?_
      refine Gl.st (B := (T349.setTop (mkF m 364 L348 [(.int (lcmpW r358_357 y18_350_347))]))) (fun t k => XS.lload X349.here hx rfl (hb hby at_361) (ldAt hL348 rfl) (XS.lcmp X349.here hx rfl (hb hby at_363) rfl k)) ?_
      have hc364_358 : r358_357 = y18_350_347 := own_0_hc364_358 p1 y11_152_40 x209_342 r358_357 y16_325_345 y18_350_347 hy11_152_40 hx209_342 hr358_357 hy16_325_345 hy18_350_347 
      refine Gl.st (B := (T349.setTop (mkF m 372 L348 [(.int (1 : Int32))]))) (fun t k => XS.ifNo X349.here hx rfl (hb hby at_364) rfl ((if0 _ _).trans (teq ((lw_eq r358_357 y18_350_347).mpr hc364_358)).2) (XS.iconst X349.here hx rfl (hb hby at_367) (XS.goto X349.here hx rfl (pc0 := 368) (pc' := 372) rfl (hb hby at_368) (by decide) (by decide) k))) ?_
      obtain ⟨fs, hr, hrun, hended, hW, hsame⟩ := X349.leave (v := some (.int (nar .boolean (1 : Int32)))) (fun h => by rw [Bd.returns] at h; cases h)
      refine Gl.fin (retN X349 hx (t := .boolean) Bd.returns (by simp) (hb hby at_372) hr) hrun hended ⟨_, _, rfl, ?_, ⟨_, rfl⟩, hW, hsame.mono (by decide) (by decide)⟩
      show Q0 Z p1 p2 p3 p4 q5 p6 h0 n0 _ T349.heap _
      rw [eh349]
      exact ⟨rfl, N349⟩
    · skip
      subst hk
      refine Gl.st (B := (T38.setTop (mkF m 199 L49 [(.int y11_152_40), (.int (2 : Int32)), (.ref b7)]))) (fun t k => XS.aload X38.here hx rfl (hb hby at_187) (ldAt hL49 rfl) rfl (XS.iload X38.here hx rfl (hb hby at_189) (ldAt hL49 rfl) (XS.iload X38.here hx rfl (hb hby at_191) (ldAt hL49 rfl) (XS.iconst X38.here hx rfl (hb hby at_193) (XS.icmpNo X38.here hx rfl (hb hby at_194) rfl (by decide) (XS.iload X38.here hx rfl (hb hby at_197) (ldAt hL49 rfl) k)))))) ?_
      refine Gl.st (B := (T38.setTop (mkF m 209 L49 [(.int ((y11_152_40 ||| (128 : Int32)).toInt8.toInt32)), (.int (2 : Int32)), (.ref b7)]))) (fun t k => XS.sipush X38.here hx rfl (hb hby at_199) (XS.ior X38.here hx rfl (hb hby at_202) rfl (XS.goto X38.here hx rfl (pc0 := 203) (pc' := 208) rfl (hb hby at_203) (by decide) (by decide) (XS.i2b X38.here hx rfl (hb hby at_208) rfl k)))) ?_
      obtain ⟨x209_359, hx209_359⟩ : ∃ z : Int32, z = ((y11_152_40 ||| (128 : Int32)).toInt8.toInt32) := ⟨_, rfl⟩
      refine Gl.cast (B := (T38.setTop (mkF m 209 L49 [(.int x209_359), (.int (2 : Int32)), (.ref b7)]))) (by rw [hx209_359]) ?_
      obtain ⟨cl360, Ar360, q360, S360, P360, H360, G360⟩ := (id V38)
      have hin209_360 : ¬ ((2 : Int32) < 0 ∨ cl360.slots.size ≤ ((2 : Int32)).toNatClampNeg) := inb_of S360 ⟨by decide, by decide⟩
      obtain ⟨T360, h360, X360, e360, W360, st360⟩ := stB X38 hx hZ e38 Ar360 (j := (2 : Int32)) hin209_360 (g := (mkF m 209 L49 [(.int x209_359), (.int (2 : Int32)), (.ref b7)])) rfl rfl (hb hby at_209)
      have V360 : Arv Z h360 b7 k7 .byte (10 : Int32) [(.int (nar .byte x49_10)), (.int (nar .byte x60_13)), (.int (nar .byte x209_359)), (.int (nar .byte x82_19)), (.int (nar .byte x93_22)), (.int (nar .byte x104_25)), (.int (nar .byte x116_28)), (.int (nar .byte x128_31)), (.int (nar .byte x136_34)), (.int (nar .byte x147_37))] (.int (0 : Int32)) := Arv.set Ar360 q360 S360 P360 H360 G360 (fits_nar_byte _) W360 2 rfl (Nat.le_of_ble_eq_true rfl)
      have Zc361 : n0 ≤ h360.size := Nat.le_trans Zc39 (Nat.le_of_eq W360.size.symm)
      have N360 := Fr.snoc X360 N38 g_b7
      refine Gl.st (B := (T360.setTop (mkF m 210 L49 []))) st360 ?_
      refine Gl.st (B := (T360.setTop (mkF m 221 L49 [(.int (1 : Int32)), (.int (2 : Int32)), (.ref b7)]))) (fun t k => XS.iload X360.here hx rfl (hb hby at_210) (ldAt hL49 rfl) (XS.iconst X360.here hx rfl (hb hby at_212) (XS.icmpNo X360.here hx rfl (hb hby at_213) rfl (by decide) (XS.aload X360.here hx rfl (hb hby at_216) (ldAt hL49 rfl) rfl (XS.iload X360.here hx rfl (hb hby at_218) (ldAt hL49 rfl) (XS.iconst X360.here hx rfl (hb hby at_220) k)))))) ?_
      refine Gl.st (B := (T360.setTop (mkF m 240 L49 [(.int (y12_161_42.toInt8.toInt32)), (.int (3 : Int32)), (.ref b7)]))) (fun t k => XS.iadd X360.here hx rfl (hb hby at_221) rfl (XS.iload X360.here hx rfl (hb hby at_222) (ldAt hL49 rfl) (XS.iconst X360.here hx rfl (hb hby at_224) (XS.icmpYes X360.here hx rfl (pc0 := 225) (pc' := 237) rfl (hb hby at_225) rfl (by decide) (by decide) (by decide) (XS.iload X360.here hx rfl (hb hby at_237) (ldAt hL49 rfl) (XS.i2b X360.here hx rfl (hb hby at_239) rfl k)))))) ?_
      obtain ⟨x240_362, hx240_362⟩ : ∃ z : Int32, z = (y12_161_42.toInt8.toInt32) := ⟨_, rfl⟩
      refine Gl.cast (B := (T360.setTop (mkF m 240 L49 [(.int x240_362), (.int (3 : Int32)), (.ref b7)]))) (by rw [hx240_362]) ?_
      obtain ⟨cl363, Ar363, q363, S363, P363, H363, G363⟩ := (id V360)
      have hin240_363 : ¬ ((3 : Int32) < 0 ∨ cl363.slots.size ≤ ((3 : Int32)).toNatClampNeg) := inb_of S363 ⟨by decide, by decide⟩
      obtain ⟨T363, h363, X363, e363, W363, st363⟩ := stB X360 hx hZ e360 Ar363 (j := (3 : Int32)) hin240_363 (g := (mkF m 240 L49 [(.int x240_362), (.int (3 : Int32)), (.ref b7)])) rfl rfl (hb hby at_240)
      have V363 : Arv Z h363 b7 k7 .byte (10 : Int32) [(.int (nar .byte x49_10)), (.int (nar .byte x60_13)), (.int (nar .byte x209_359)), (.int (nar .byte x240_362)), (.int (nar .byte x93_22)), (.int (nar .byte x104_25)), (.int (nar .byte x116_28)), (.int (nar .byte x128_31)), (.int (nar .byte x136_34)), (.int (nar .byte x147_37))] (.int (0 : Int32)) := Arv.set Ar363 q363 S363 P363 H363 G363 (fits_nar_byte _) W363 3 rfl (Nat.le_of_ble_eq_true rfl)
      have Zc364 : n0 ≤ h363.size := Nat.le_trans Zc361 (Nat.le_of_eq W363.size.symm)
      have N363 := Fr.snoc X363 N360 g_b7
      refine Gl.st (B := (T363.setTop (mkF m 241 L49 []))) st363 ?_
      refine Gl.st (B := (T363.setTop (mkF m 303 L49 []))) (fun t k => XS.iload X363.here hx rfl (hb hby at_241) (ldAt hL49 rfl) (XS.iconst X363.here hx rfl (hb hby at_243) (XS.icmpYes X363.here hx rfl (pc0 := 244) (pc' := 272) rfl (hb hby at_244) rfl (by decide) (by decide) (by decide) (XS.iload X363.here hx rfl (hb hby at_272) (ldAt hL49 rfl) (XS.iconst X363.here hx rfl (hb hby at_274) (XS.icmpYes X363.here hx rfl (pc0 := 275) (pc' := 303) rfl (hb hby at_275) rfl (by decide) (by decide) (by decide) k)))))) ?_
      refine Gl.st (B := (T363.setTop (mkF m 324 L49 [(.long (4294967295 : Int64)), (.long (p1.toInt64))]))) (fun t k => XS.iload X363.here hx rfl (hb hby at_303) (ldAt hL49 rfl) (XS.iconst X363.here hx rfl (hb hby at_305) (XS.icmpYes X363.here hx rfl (pc0 := 306) (pc' := 319) rfl (hb hby at_306) rfl (by decide) (by decide) (by decide) (XS.iloadN X363.here hx rfl (hb hby at_319) (ldAt hL49 rfl) (XS.i2l X363.here hx rfl (hb hby at_320) rfl (X363.ldc2Long hx hown (mvT hZ (tw hw 2 rfl)) (g := (mkF m 321 L49 [(.long (p1.toInt64))])) rfl (hb hby at_321) _ k)))))) ?_
      refine Gl.st (B := (T363.setTop (mkF m 325 L49 [(.long ((p1.toInt64) &&& (4294967295 : Int64)))]))) (fun t k => XS.land X363.here hx rfl (hb hby at_324) rfl k) ?_
      obtain ⟨y16_325_365, hy16_325_365⟩ : ∃ z : Int64, z = ((p1.toInt64) &&& (4294967295 : Int64)) := ⟨_, rfl⟩
      refine Gl.cast (B := (T363.setTop (mkF m 325 L49 [(.long y16_325_365)]))) (by rw [hy16_325_365]) ?_
      obtain ⟨L366, hL366⟩ : ∃ z : Array Slot, z = #[.val (.int p1), .val (.int p2), .val (.int p3), .val (.int p4), .val (.long q5), .second, .val (.int p6), .val (.int (2 : Int32)), .val (.int (2 : Int32)), .val (.int y9_34_5), .val (.ref b7), .val (.int y11_152_40), .val (.int y12_161_42), .val (.int y13_170_44), .val (.int y14_179_46), .val (.int y15_185_48), .val (.long y16_325_365), .second, .unset, .unset] := ⟨_, rfl⟩
      refine Gl.st (B := (T363.setTop (mkF m 341 L366 [(.long (1 : Int64)), (.long y16_325_365)]))) (fun t k => XS.lstore X363.here hx rfl (hb hby at_325) rfl (l' := L366) (stAt hL49 hL366 rfl rfl) (XS.iload X363.here hx rfl (hb hby at_327) (ldAt hL366 rfl) (XS.iconst X363.here hx rfl (hb hby at_329) (XS.icmpYes X363.here hx rfl (pc0 := 330) (pc' := 338) rfl (hb hby at_330) rfl (by decide) (by decide) (by decide) (XS.lload X363.here hx rfl (hb hby at_338) (ldAt hL366 rfl) (XS.lconst X363.here hx rfl (hb hby at_340) k)))))) ?_
      refine Gl.st (B := (T363.setTop (mkF m 349 L366 [(.long (((1 : Int64) <<< ((14 : Int32) &&& 0x3f).toInt64) - (1 : Int64))), (.long y16_325_365)]))) (fun t k => XS.bipush X363.here hx rfl (hb hby at_341) (XS.iload X363.here hx rfl (hb hby at_343) (ldAt hL366 rfl) (XS.imul X363.here hx rfl (hb hby at_345) rfl (XS.lshl X363.here hx rfl (hb hby at_346) rfl (XS.lconst X363.here hx rfl (hb hby at_347) (XS.lsub X363.here hx rfl (hb hby at_348) rfl k)))))) ?_
      refine Gl.st (B := (T363.setTop (mkF m 350 L366 [(.long (y16_325_365 &&& (((1 : Int64) <<< ((14 : Int32) &&& 0x3f).toInt64) - (1 : Int64))))]))) (fun t k => XS.land X363.here hx rfl (hb hby at_349) rfl k) ?_
      obtain ⟨y18_350_367, hy18_350_367⟩ : ∃ z : Int64, z = (y16_325_365 &&& (((1 : Int64) <<< ((14 : Int32) &&& 0x3f).toInt64) - (1 : Int64))) := ⟨_, rfl⟩
      refine Gl.cast (B := (T363.setTop (mkF m 350 L366 [(.long y18_350_367)]))) (by rw [hy18_350_367]) ?_
      obtain ⟨L368, hL368⟩ : ∃ z : Array Slot, z = #[.val (.int p1), .val (.int p2), .val (.int p3), .val (.int p4), .val (.long q5), .second, .val (.int p6), .val (.int (2 : Int32)), .val (.int (2 : Int32)), .val (.int y9_34_5), .val (.ref b7), .val (.int y11_152_40), .val (.int y12_161_42), .val (.int y13_170_44), .val (.int y14_179_46), .val (.int y15_185_48), .val (.long y16_325_365), .second, .val (.long y18_350_367), .second] := ⟨_, rfl⟩
      refine Gl.st (B := (T363.setTop (mkF m 358 L368 [(.int y9_34_5), (.int (2 : Int32)), (.ref b7)]))) (fun t k => XS.lstore X363.here hx rfl (hb hby at_350) rfl (l' := L368) (stAt hL366 hL368 rfl rfl) (XS.aload X363.here hx rfl (hb hby at_352) (ldAt hL368 rfl) rfl (XS.iload X363.here hx rfl (hb hby at_354) (ldAt hL368 rfl) (XS.iload X363.here hx rfl (hb hby at_356) (ldAt hL368 rfl) k)))) ?_
      obtain ⟨cl370, Ar370, q370, S370, P370, H370, G370⟩ := (id V363)
      have hin40_1_371 : ¬ (((2 : Int32) + (0 : Int32)) < 0 ∨ cl370.slots.size ≤ (((2 : Int32) + (0 : Int32))).toNatClampNeg) := inb_of S370 ⟨by decide, by decide⟩
      have hin40_2_372 : ¬ (((2 : Int32) + (1 : Int32)) < 0 ∨ cl370.slots.size ≤ (((2 : Int32) + (1 : Int32))).toNatClampNeg) := inb_of S370 ⟨by decide, by decide⟩
      have hp358_373 : ¬ ((((10 : Int32) ||| (2 : Int32)) ||| y9_34_5) < (0 : Int32)) := own_0_hp358_373 p4 y9_34_5 hy9_34_5 
      have hp358_374 : ¬ (((10 : Int32) - (2 : Int32)) < y9_34_5) := own_0_hp358_374 p4 y9_34_5 hy9_34_5 
      have hp358_375 : ¬ ((0 : Int32) = y9_34_5) := own_0_hp358_375 p4 y9_34_5 hy9_34_5 
      have hp358_376 : ¬ ((((nar .byte x209_359) &&& (255 : Int32))) < (128 : Int32)) := own_0_hp358_376 p1 y11_152_40 x209_359 hy11_152_40 hx209_359 
      have hp358_377 : ¬ ((1 : Int32) = y9_34_5) := own_0_hp358_377 p4 y9_34_5 hy9_34_5 
      have hp358_378 : (((nar .byte x240_362) &&& (255 : Int32))) < (128 : Int32) := own_0_hp358_378 p1 y12_161_42 x240_362 hy12_161_42 hx240_362 
      have hp358_379 : ¬ ((4294967295 : Int64) < (((((0 : Int64) ||| ((((((nar .byte x209_359) &&& (255 : Int32))) &&& (127 : Int32)).toInt64) <<< ((0 : Int32) &&& 0x3f).toInt64))) ||| ((((((nar .byte x240_362) &&& (255 : Int32))) &&& (127 : Int32)).toInt64) <<< ((7 : Int32) &&& 0x3f).toInt64)))) := own_0_hp358_379 p1 y11_152_40 x209_359 y12_161_42 x240_362 hy11_152_40 hx209_359 hy12_161_42 hx240_362 
      obtain ⟨_, _, ⟨T369, L369q, k369, n369⟩, -, X369, ⟨Lc369, hQ369, l369, y369, z369⟩, st369⟩ := Jvm.LawKit.callS X363 hx (y := (⟨"com/example/requeue/requeue/connection/SnappyBlock", "uncompressedLength", "([BII)J"⟩ : MethodName)) hown (mvT hZ (tw hw 3 rfl)) (mvT hZ (tw hw 4 rfl)) (mvT hZ (tw hw 5 rfl)) (mvT hZ (tw hw 6 rfl)) (by decide) (backOf (W := 0) (rm1k2 l Z a0 hw [] b7 (2 : Int32) y9_34_5 cl370 (nar .byte x209_359) (nar .byte x240_362) h363 n0 Zc364 Ar370 S370 P370 hp358_373 hp358_374 hp358_375 hin40_1_371 (Has.at H370 hin40_1_371 (v := (.int (nar .byte x209_359))) rfl) hp358_376 hp358_377 hin40_2_372 (Has.at H370 hin40_2_372 (v := (.int (nar .byte x240_362))) rfl) hp358_378 hp358_379) hZ (tw hw 6 rfl) (tw hw 5 rfl) (by decide) (by decide)) (g := (mkF m 358 L368 [(.int y9_34_5), (.int (2 : Int32)), (.ref b7)])) rfl (szAt hml hL368 rfl) (argsL := [(.ref b7), (.int (2 : Int32)), (.int y9_34_5)]) (rest := []) (lenOf pd_0_0 rfl) rfl (by show 2 * 0 + _ ≤ _; exact Nat.le_of_eq rfl) (hb hby at_358) (fun _ _ => ⟨rfl, e363, (by decide : 1 + 0 ≤ _), (by decide : 10 + 0 ≤ _)⟩)
      dsimp only [Pt.U, Pt.locs, Pt.cells, Pt.slots] at X369 l369 y369 z369 st369 hQ369
      subst l369 y369 z369
      obtain ⟨rfl, N369q, eh369⟩ := hQ369
      have N369 := Fr.app N363 N369q
      refine Gl.st (B := (T369.setTop (mkF m 361 L368 [(.long (((((0 : Int64) ||| ((((((nar .byte x209_359) &&& (255 : Int32))) &&& (127 : Int32)).toInt64) <<< ((0 : Int32) &&& 0x3f).toInt64))) ||| ((((((nar .byte x240_362) &&& (255 : Int32))) &&& (127 : Int32)).toInt64) <<< ((7 : Int32) &&& 0x3f).toInt64))))]))) (fun t k => st369 t k) ?_
      obtain ⟨r358_380, hr358_380⟩ : ∃ z : Int64, z = (((((0 : Int64) ||| ((((((nar .byte x209_359) &&& (255 : Int32))) &&& (127 : Int32)).toInt64) <<< ((0 : Int32) &&& 0x3f).toInt64))) ||| ((((((nar .byte x240_362) &&& (255 : Int32))) &&& (127 : Int32)).toInt64) <<< ((7 : Int32) &&& 0x3f).toInt64))) := ⟨_, rfl⟩
      refine Gl.cast (B := (T369.setTop (mkF m 361 L368 [(.long r358_380)]))) (by rw [hr358_380]) ?_
      refine Gl.st (B := (T369.setTop (mkF m 364 L368 [(.int (lcmpW r358_380 y18_350_367))]))) (fun t k => XS.lload X369.here hx rfl (hb hby at_361) (ldAt hL368 rfl) (XS.lcmp X369.here hx rfl (hb hby at_363) rfl k)) ?_
      have hc364_381 : r358_380 = y18_350_367 := own_0_hc364_381 p1 y11_152_40 x209_359 y12_161_42 x240_362 r358_380 y16_325_365 y18_350_367 hy11_152_40 hx209_359 hy12_161_42 hx240_362 hr358_380 hy16_325_365 hy18_350_367 
      refine Gl.st (B := (T369.setTop (mkF m 372 L368 [(.int (1 : Int32))]))) (fun t k => XS.ifNo X369.here hx rfl (hb hby at_364) rfl ((if0 _ _).trans (teq ((lw_eq r358_380 y18_350_367).mpr hc364_381)).2) (XS.iconst X369.here hx rfl (hb hby at_367) (XS.goto X369.here hx rfl (pc0 := 368) (pc' := 372) rfl (hb hby at_368) (by decide) (by decide) k))) ?_
      obtain ⟨fs, hr, hrun, hended, hW, hsame⟩ := X369.leave (v := some (.int (nar .boolean (1 : Int32)))) (fun h => by rw [Bd.returns] at h; cases h)
      refine Gl.fin (retN X369 hx (t := .boolean) Bd.returns (by simp) (hb hby at_372) hr) hrun hended ⟨_, _, rfl, ?_, ⟨_, rfl⟩, hW, hsame.mono (by decide) (by decide)⟩
      show Q0 Z p1 p2 p3 p4 q5 p6 h0 n0 _ T369.heap _
      rw [eh369]
      exact ⟨rfl, N369⟩
    · skip
      subst hk
      refine Gl.st (B := (T38.setTop (mkF m 199 L49 [(.int y11_152_40), (.int (2 : Int32)), (.ref b7)]))) (fun t k => XS.aload X38.here hx rfl (hb hby at_187) (ldAt hL49 rfl) rfl (XS.iload X38.here hx rfl (hb hby at_189) (ldAt hL49 rfl) (XS.iload X38.here hx rfl (hb hby at_191) (ldAt hL49 rfl) (XS.iconst X38.here hx rfl (hb hby at_193) (XS.icmpNo X38.here hx rfl (hb hby at_194) rfl (by decide) (XS.iload X38.here hx rfl (hb hby at_197) (ldAt hL49 rfl) k)))))) ?_
      refine Gl.st (B := (T38.setTop (mkF m 209 L49 [(.int ((y11_152_40 ||| (128 : Int32)).toInt8.toInt32)), (.int (2 : Int32)), (.ref b7)]))) (fun t k => XS.sipush X38.here hx rfl (hb hby at_199) (XS.ior X38.here hx rfl (hb hby at_202) rfl (XS.goto X38.here hx rfl (pc0 := 203) (pc' := 208) rfl (hb hby at_203) (by decide) (by decide) (XS.i2b X38.here hx rfl (hb hby at_208) rfl k)))) ?_
      obtain ⟨x209_382, hx209_382⟩ : ∃ z : Int32, z = ((y11_152_40 ||| (128 : Int32)).toInt8.toInt32) := ⟨_, rfl⟩
      refine Gl.cast (B := (T38.setTop (mkF m 209 L49 [(.int x209_382), (.int (2 : Int32)), (.ref b7)]))) (by rw [hx209_382]) ?_
      obtain ⟨cl383, Ar383, q383, S383, P383, H383, G383⟩ := (id V38)
      have hin209_383 : ¬ ((2 : Int32) < 0 ∨ cl383.slots.size ≤ ((2 : Int32)).toNatClampNeg) := inb_of S383 ⟨by decide, by decide⟩
      obtain ⟨T383, h383, X383, e383, W383, st383⟩ := stB X38 hx hZ e38 Ar383 (j := (2 : Int32)) hin209_383 (g := (mkF m 209 L49 [(.int x209_382), (.int (2 : Int32)), (.ref b7)])) rfl rfl (hb hby at_209)
      have V383 : Arv Z h383 b7 k7 .byte (10 : Int32) [(.int (nar .byte x49_10)), (.int (nar .byte x60_13)), (.int (nar .byte x209_382)), (.int (nar .byte x82_19)), (.int (nar .byte x93_22)), (.int (nar .byte x104_25)), (.int (nar .byte x116_28)), (.int (nar .byte x128_31)), (.int (nar .byte x136_34)), (.int (nar .byte x147_37))] (.int (0 : Int32)) := Arv.set Ar383 q383 S383 P383 H383 G383 (fits_nar_byte _) W383 2 rfl (Nat.le_of_ble_eq_true rfl)
      have Zc384 : n0 ≤ h383.size := Nat.le_trans Zc39 (Nat.le_of_eq W383.size.symm)
      have N383 := Fr.snoc X383 N38 g_b7
      refine Gl.st (B := (T383.setTop (mkF m 210 L49 []))) st383 ?_
      refine Gl.st (B := (T383.setTop (mkF m 221 L49 [(.int (1 : Int32)), (.int (2 : Int32)), (.ref b7)]))) (fun t k => XS.iload X383.here hx rfl (hb hby at_210) (ldAt hL49 rfl) (XS.iconst X383.here hx rfl (hb hby at_212) (XS.icmpNo X383.here hx rfl (hb hby at_213) rfl (by decide) (XS.aload X383.here hx rfl (hb hby at_216) (ldAt hL49 rfl) rfl (XS.iload X383.here hx rfl (hb hby at_218) (ldAt hL49 rfl) (XS.iconst X383.here hx rfl (hb hby at_220) k)))))) ?_
      refine Gl.st (B := (T383.setTop (mkF m 233 L49 [(.int (128 : Int32)), (.int y12_161_42), (.int (3 : Int32)), (.ref b7)]))) (fun t k => XS.iadd X383.here hx rfl (hb hby at_221) rfl (XS.iload X383.here hx rfl (hb hby at_222) (ldAt hL49 rfl) (XS.iconst X383.here hx rfl (hb hby at_224) (XS.icmpNo X383.here hx rfl (hb hby at_225) rfl (by decide) (XS.iload X383.here hx rfl (hb hby at_228) (ldAt hL49 rfl) (XS.sipush X383.here hx rfl (hb hby at_230) k)))))) ?_
      refine Gl.st (B := (T383.setTop (mkF m 240 L49 [(.int ((y12_161_42 ||| (128 : Int32)).toInt8.toInt32)), (.int (3 : Int32)), (.ref b7)]))) (fun t k => XS.ior X383.here hx rfl (hb hby at_233) rfl (XS.goto X383.here hx rfl (pc0 := 234) (pc' := 239) rfl (hb hby at_234) (by decide) (by decide) (XS.i2b X383.here hx rfl (hb hby at_239) rfl k))) ?_
      obtain ⟨x240_385, hx240_385⟩ : ∃ z : Int32, z = ((y12_161_42 ||| (128 : Int32)).toInt8.toInt32) := ⟨_, rfl⟩
      refine Gl.cast (B := (T383.setTop (mkF m 240 L49 [(.int x240_385), (.int (3 : Int32)), (.ref b7)]))) (by rw [hx240_385]) ?_
      obtain ⟨cl386, Ar386, q386, S386, P386, H386, G386⟩ := (id V383)
      have hin240_386 : ¬ ((3 : Int32) < 0 ∨ cl386.slots.size ≤ ((3 : Int32)).toNatClampNeg) := inb_of S386 ⟨by decide, by decide⟩
      obtain ⟨T386, h386, X386, e386, W386, st386⟩ := stB X383 hx hZ e383 Ar386 (j := (3 : Int32)) hin240_386 (g := (mkF m 240 L49 [(.int x240_385), (.int (3 : Int32)), (.ref b7)])) rfl rfl (hb hby at_240)
      have V386 : Arv Z h386 b7 k7 .byte (10 : Int32) [(.int (nar .byte x49_10)), (.int (nar .byte x60_13)), (.int (nar .byte x209_382)), (.int (nar .byte x240_385)), (.int (nar .byte x93_22)), (.int (nar .byte x104_25)), (.int (nar .byte x116_28)), (.int (nar .byte x128_31)), (.int (nar .byte x136_34)), (.int (nar .byte x147_37))] (.int (0 : Int32)) := Arv.set Ar386 q386 S386 P386 H386 G386 (fits_nar_byte _) W386 3 rfl (Nat.le_of_ble_eq_true rfl)
      have Zc387 : n0 ≤ h386.size := Nat.le_trans Zc384 (Nat.le_of_eq W386.size.symm)
      have N386 := Fr.snoc X386 N383 g_b7
      refine Gl.st (B := (T386.setTop (mkF m 241 L49 []))) st386 ?_
      refine Gl.st (B := (T386.setTop (mkF m 252 L49 [(.int (2 : Int32)), (.int (2 : Int32)), (.ref b7)]))) (fun t k => XS.iload X386.here hx rfl (hb hby at_241) (ldAt hL49 rfl) (XS.iconst X386.here hx rfl (hb hby at_243) (XS.icmpNo X386.here hx rfl (hb hby at_244) rfl (by decide) (XS.aload X386.here hx rfl (hb hby at_247) (ldAt hL49 rfl) rfl (XS.iload X386.here hx rfl (hb hby at_249) (ldAt hL49 rfl) (XS.iconst X386.here hx rfl (hb hby at_251) k)))))) ?_
      refine Gl.st (B := (T386.setTop (mkF m 271 L49 [(.int (y13_170_44.toInt8.toInt32)), (.int (4 : Int32)), (.ref b7)]))) (fun t k => XS.iadd X386.here hx rfl (hb hby at_252) rfl (XS.iload X386.here hx rfl (hb hby at_253) (ldAt hL49 rfl) (XS.iconst X386.here hx rfl (hb hby at_255) (XS.icmpYes X386.here hx rfl (pc0 := 256) (pc' := 268) rfl (hb hby at_256) rfl (by decide) (by decide) (by decide) (XS.iload X386.here hx rfl (hb hby at_268) (ldAt hL49 rfl) (XS.i2b X386.here hx rfl (hb hby at_270) rfl k)))))) ?_
      obtain ⟨x271_388, hx271_388⟩ : ∃ z : Int32, z = (y13_170_44.toInt8.toInt32) := ⟨_, rfl⟩
      refine Gl.cast (B := (T386.setTop (mkF m 271 L49 [(.int x271_388), (.int (4 : Int32)), (.ref b7)]))) (by rw [hx271_388]) ?_
      obtain ⟨cl389, Ar389, q389, S389, P389, H389, G389⟩ := (id V386)
      have hin271_389 : ¬ ((4 : Int32) < 0 ∨ cl389.slots.size ≤ ((4 : Int32)).toNatClampNeg) := inb_of S389 ⟨by decide, by decide⟩
      obtain ⟨T389, h389, X389, e389, W389, st389⟩ := stB X386 hx hZ e386 Ar389 (j := (4 : Int32)) hin271_389 (g := (mkF m 271 L49 [(.int x271_388), (.int (4 : Int32)), (.ref b7)])) rfl rfl (hb hby at_271)
      have V389 : Arv Z h389 b7 k7 .byte (10 : Int32) [(.int (nar .byte x49_10)), (.int (nar .byte x60_13)), (.int (nar .byte x209_382)), (.int (nar .byte x240_385)), (.int (nar .byte x271_388)), (.int (nar .byte x104_25)), (.int (nar .byte x116_28)), (.int (nar .byte x128_31)), (.int (nar .byte x136_34)), (.int (nar .byte x147_37))] (.int (0 : Int32)) := Arv.set Ar389 q389 S389 P389 H389 G389 (fits_nar_byte _) W389 4 rfl (Nat.le_of_ble_eq_true rfl)
      have Zc390 : n0 ≤ h389.size := Nat.le_trans Zc387 (Nat.le_of_eq W389.size.symm)
      have N389 := Fr.snoc X389 N386 g_b7
      refine Gl.st (B := (T389.setTop (mkF m 272 L49 []))) st389 ?_
      refine Gl.st (B := (T389.setTop (mkF m 319 L49 []))) (fun t k => XS.iload X389.here hx rfl (hb hby at_272) (ldAt hL49 rfl) (XS.iconst X389.here hx rfl (hb hby at_274) (XS.icmpYes X389.here hx rfl (pc0 := 275) (pc' := 303) rfl (hb hby at_275) rfl (by decide) (by decide) (by decide) (XS.iload X389.here hx rfl (hb hby at_303) (ldAt hL49 rfl) (XS.iconst X389.here hx rfl (hb hby at_305) (XS.icmpYes X389.here hx rfl (pc0 := 306) (pc' := 319) rfl (hb hby at_306) rfl (by decide) (by decide) (by decide) k)))))) ?_
      refine Gl.st (B := (T389.setTop (mkF m 325 L49 [(.long ((p1.toInt64) &&& (4294967295 : Int64)))]))) (fun t k => XS.iloadN X389.here hx rfl (hb hby at_319) (ldAt hL49 rfl) (XS.i2l X389.here hx rfl (hb hby at_320) rfl (X389.ldc2Long hx hown (mvT hZ (tw hw 2 rfl)) (g := (mkF m 321 L49 [(.long (p1.toInt64))])) rfl (hb hby at_321) _ (XS.land X389.here hx rfl (hb hby at_324) rfl k)))) ?_
      obtain ⟨y16_325_391, hy16_325_391⟩ : ∃ z : Int64, z = ((p1.toInt64) &&& (4294967295 : Int64)) := ⟨_, rfl⟩
      refine Gl.cast (B := (T389.setTop (mkF m 325 L49 [(.long y16_325_391)]))) (by rw [hy16_325_391]) ?_
      obtain ⟨L392, hL392⟩ : ∃ z : Array Slot, z = #[.val (.int p1), .val (.int p2), .val (.int p3), .val (.int p4), .val (.long q5), .second, .val (.int p6), .val (.int (3 : Int32)), .val (.int (2 : Int32)), .val (.int y9_34_5), .val (.ref b7), .val (.int y11_152_40), .val (.int y12_161_42), .val (.int y13_170_44), .val (.int y14_179_46), .val (.int y15_185_48), .val (.long y16_325_391), .second, .unset, .unset] := ⟨_, rfl⟩
      refine Gl.st (B := (T389.setTop (mkF m 341 L392 [(.long (1 : Int64)), (.long y16_325_391)]))) (fun t k => XS.lstore X389.here hx rfl (hb hby at_325) rfl (l' := L392) (stAt hL49 hL392 rfl rfl) (XS.iload X389.here hx rfl (hb hby at_327) (ldAt hL392 rfl) (XS.iconst X389.here hx rfl (hb hby at_329) (XS.icmpYes X389.here hx rfl (pc0 := 330) (pc' := 338) rfl (hb hby at_330) rfl (by decide) (by decide) (by decide) (XS.lload X389.here hx rfl (hb hby at_338) (ldAt hL392 rfl) (XS.lconst X389.here hx rfl (hb hby at_340) k)))))) ?_
      refine Gl.st (B := (T389.setTop (mkF m 349 L392 [(.long (((1 : Int64) <<< ((21 : Int32) &&& 0x3f).toInt64) - (1 : Int64))), (.long y16_325_391)]))) (fun t k => XS.bipush X389.here hx rfl (hb hby at_341) (XS.iload X389.here hx rfl (hb hby at_343) (ldAt hL392 rfl) (XS.imul X389.here hx rfl (hb hby at_345) rfl (XS.lshl X389.here hx rfl (hb hby at_346) rfl (XS.lconst X389.here hx rfl (hb hby at_347) (XS.lsub X389.here hx rfl (hb hby at_348) rfl k)))))) ?_
      refine Gl.st (B := (T389.setTop (mkF m 350 L392 [(.long (y16_325_391 &&& (((1 : Int64) <<< ((21 : Int32) &&& 0x3f).toInt64) - (1 : Int64))))]))) (fun t k => XS.land X389.here hx rfl (hb hby at_349) rfl k) ?_
      obtain ⟨y18_350_393, hy18_350_393⟩ : ∃ z : Int64, z = (y16_325_391 &&& (((1 : Int64) <<< ((21 : Int32) &&& 0x3f).toInt64) - (1 : Int64))) := ⟨_, rfl⟩
      refine Gl.cast (B := (T389.setTop (mkF m 350 L392 [(.long y18_350_393)]))) (by rw [hy18_350_393]) ?_
      obtain ⟨L394, hL394⟩ : ∃ z : Array Slot, z = #[.val (.int p1), .val (.int p2), .val (.int p3), .val (.int p4), .val (.long q5), .second, .val (.int p6), .val (.int (3 : Int32)), .val (.int (2 : Int32)), .val (.int y9_34_5), .val (.ref b7), .val (.int y11_152_40), .val (.int y12_161_42), .val (.int y13_170_44), .val (.int y14_179_46), .val (.int y15_185_48), .val (.long y16_325_391), .second, .val (.long y18_350_393), .second] := ⟨_, rfl⟩
      refine Gl.st (B := (T389.setTop (mkF m 358 L394 [(.int y9_34_5), (.int (2 : Int32)), (.ref b7)]))) (fun t k => XS.lstore X389.here hx rfl (hb hby at_350) rfl (l' := L394) (stAt hL392 hL394 rfl rfl) (XS.aload X389.here hx rfl (hb hby at_352) (ldAt hL394 rfl) rfl (XS.iload X389.here hx rfl (hb hby at_354) (ldAt hL394 rfl) (XS.iload X389.here hx rfl (hb hby at_356) (ldAt hL394 rfl) k)))) ?_
      obtain ⟨cl396, Ar396, q396, S396, P396, H396, G396⟩ := (id V389)
      have hin40_1_397 : ¬ (((2 : Int32) + (0 : Int32)) < 0 ∨ cl396.slots.size ≤ (((2 : Int32) + (0 : Int32))).toNatClampNeg) := inb_of S396 ⟨by decide, by decide⟩
      have hin40_2_398 : ¬ (((2 : Int32) + (1 : Int32)) < 0 ∨ cl396.slots.size ≤ (((2 : Int32) + (1 : Int32))).toNatClampNeg) := inb_of S396 ⟨by decide, by decide⟩
      have hin40_3_399 : ¬ (((2 : Int32) + (2 : Int32)) < 0 ∨ cl396.slots.size ≤ (((2 : Int32) + (2 : Int32))).toNatClampNeg) := inb_of S396 ⟨by decide, by decide⟩
      have hp358_400 : ¬ ((((10 : Int32) ||| (2 : Int32)) ||| y9_34_5) < (0 : Int32)) := own_0_hp358_400 p4 y9_34_5 hy9_34_5 
      have hp358_401 : ¬ (((10 : Int32) - (2 : Int32)) < y9_34_5) := own_0_hp358_401 p4 y9_34_5 hy9_34_5 
      have hp358_402 : ¬ ((0 : Int32) = y9_34_5) := own_0_hp358_402 p4 y9_34_5 hy9_34_5 
      have hp358_403 : ¬ ((((nar .byte x209_382) &&& (255 : Int32))) < (128 : Int32)) := own_0_hp358_403 p1 y11_152_40 x209_382 hy11_152_40 hx209_382 
      have hp358_404 : ¬ ((1 : Int32) = y9_34_5) := own_0_hp358_404 p4 y9_34_5 hy9_34_5 
      have hp358_405 : ¬ ((((nar .byte x240_385) &&& (255 : Int32))) < (128 : Int32)) := own_0_hp358_405 p1 y12_161_42 x240_385 hy12_161_42 hx240_385 
      have hp358_406 : ¬ ((2 : Int32) = y9_34_5) := own_0_hp358_406 p4 y9_34_5 hy9_34_5 
      have hp358_407 : (((nar .byte x271_388) &&& (255 : Int32))) < (128 : Int32) := own_0_hp358_407 p1 y13_170_44 x271_388 hy13_170_44 hx271_388 
      have hp358_408 : ¬ ((4294967295 : Int64) < (((((((0 : Int64) ||| ((((((nar .byte x209_382) &&& (255 : Int32))) &&& (127 : Int32)).toInt64) <<< ((0 : Int32) &&& 0x3f).toInt64))) ||| ((((((nar .byte x240_385) &&& (255 : Int32))) &&& (127 : Int32)).toInt64) <<< ((7 : Int32) &&& 0x3f).toInt64))) ||| ((((((nar .byte x271_388) &&& (255 : Int32))) &&& (127 : Int32)).toInt64) <<< ((14 : Int32) &&& 0x3f).toInt64)))) := own_0_hp358_408 p1 y11_152_40 x209_382 y12_161_42 x240_385 y13_170_44 x271_388 hy11_152_40 hx209_382 hy12_161_42 hx240_385 hy13_170_44 hx271_388 
      obtain ⟨_, _, ⟨T395, L395q, k395, n395⟩, -, X395, ⟨Lc395, hQ395, l395, y395, z395⟩, st395⟩ := Jvm.LawKit.callS X389 hx (y := (⟨"com/example/requeue/requeue/connection/SnappyBlock", "uncompressedLength", "([BII)J"⟩ : MethodName)) hown (mvT hZ (tw hw 3 rfl)) (mvT hZ (tw hw 4 rfl)) (mvT hZ (tw hw 5 rfl)) (mvT hZ (tw hw 6 rfl)) (by decide) (backOf (W := 0) (rm1k3 l Z a0 hw [] b7 (2 : Int32) y9_34_5 cl396 (nar .byte x209_382) (nar .byte x240_385) (nar .byte x271_388) h389 n0 Zc390 Ar396 S396 P396 hp358_400 hp358_401 hp358_402 hin40_1_397 (Has.at H396 hin40_1_397 (v := (.int (nar .byte x209_382))) rfl) hp358_403 hp358_404 hin40_2_398 (Has.at H396 hin40_2_398 (v := (.int (nar .byte x240_385))) rfl) hp358_405 hp358_406 hin40_3_399 (Has.at H396 hin40_3_399 (v := (.int (nar .byte x271_388))) rfl) hp358_407 hp358_408) hZ (tw hw 6 rfl) (tw hw 5 rfl) (by decide) (by decide)) (g := (mkF m 358 L394 [(.int y9_34_5), (.int (2 : Int32)), (.ref b7)])) rfl (szAt hml hL394 rfl) (argsL := [(.ref b7), (.int (2 : Int32)), (.int y9_34_5)]) (rest := []) (lenOf pd_0_0 rfl) rfl (by show 2 * 0 + _ ≤ _; exact Nat.le_of_eq rfl) (hb hby at_358) (fun _ _ => ⟨rfl, e389, (by decide : 1 + 0 ≤ _), (by decide : 10 + 0 ≤ _)⟩)
      dsimp only [Pt.U, Pt.locs, Pt.cells, Pt.slots] at X395 l395 y395 z395 st395 hQ395
      subst l395 y395 z395
      obtain ⟨rfl, N395q, eh395⟩ := hQ395
      have N395 := Fr.app N389 N395q
      refine Gl.st (B := (T395.setTop (mkF m 361 L394 [(.long (((((((0 : Int64) ||| ((((((nar .byte x209_382) &&& (255 : Int32))) &&& (127 : Int32)).toInt64) <<< ((0 : Int32) &&& 0x3f).toInt64))) ||| ((((((nar .byte x240_385) &&& (255 : Int32))) &&& (127 : Int32)).toInt64) <<< ((7 : Int32) &&& 0x3f).toInt64))) ||| ((((((nar .byte x271_388) &&& (255 : Int32))) &&& (127 : Int32)).toInt64) <<< ((14 : Int32) &&& 0x3f).toInt64))))]))) (fun t k => st395 t k) ?_
      obtain ⟨r358_409, hr358_409⟩ : ∃ z : Int64, z = (((((((0 : Int64) ||| ((((((nar .byte x209_382) &&& (255 : Int32))) &&& (127 : Int32)).toInt64) <<< ((0 : Int32) &&& 0x3f).toInt64))) ||| ((((((nar .byte x240_385) &&& (255 : Int32))) &&& (127 : Int32)).toInt64) <<< ((7 : Int32) &&& 0x3f).toInt64))) ||| ((((((nar .byte x271_388) &&& (255 : Int32))) &&& (127 : Int32)).toInt64) <<< ((14 : Int32) &&& 0x3f).toInt64))) := ⟨_, rfl⟩
      refine Gl.cast (B := (T395.setTop (mkF m 361 L394 [(.long r358_409)]))) (by rw [hr358_409]) ?_
      refine Gl.st (B := (T395.setTop (mkF m 364 L394 [(.int (lcmpW r358_409 y18_350_393))]))) (fun t k => XS.lload X395.here hx rfl (hb hby at_361) (ldAt hL394 rfl) (XS.lcmp X395.here hx rfl (hb hby at_363) rfl k)) ?_
      have hc364_410 : r358_409 = y18_350_393 := own_0_hc364_410 p1 y11_152_40 x209_382 y12_161_42 x240_385 y13_170_44 x271_388 r358_409 y16_325_391 y18_350_393 hy11_152_40 hx209_382 hy12_161_42 hx240_385 hy13_170_44 hx271_388 hr358_409 hy16_325_391 hy18_350_393 
      refine Gl.st (B := (T395.setTop (mkF m 372 L394 [(.int (1 : Int32))]))) (fun t k => XS.ifNo X395.here hx rfl (hb hby at_364) rfl ((if0 _ _).trans (teq ((lw_eq r358_409 y18_350_393).mpr hc364_410)).2) (XS.iconst X395.here hx rfl (hb hby at_367) (XS.goto X395.here hx rfl (pc0 := 368) (pc' := 372) rfl (hb hby at_368) (by decide) (by decide) k))) ?_
      obtain ⟨fs, hr, hrun, hended, hW, hsame⟩ := X395.leave (v := some (.int (nar .boolean (1 : Int32)))) (fun h => by rw [Bd.returns] at h; cases h)
      refine Gl.fin (retN X395 hx (t := .boolean) Bd.returns (by simp) (hb hby at_372) hr) hrun hended ⟨_, _, rfl, ?_, ⟨_, rfl⟩, hW, hsame.mono (by decide) (by decide)⟩
      show Q0 Z p1 p2 p3 p4 q5 p6 h0 n0 _ T395.heap _
      rw [eh395]
      exact ⟨rfl, N395⟩
    · skip
      subst hk
      refine Gl.st (B := (T38.setTop (mkF m 199 L49 [(.int y11_152_40), (.int (2 : Int32)), (.ref b7)]))) (fun t k => XS.aload X38.here hx rfl (hb hby at_187) (ldAt hL49 rfl) rfl (XS.iload X38.here hx rfl (hb hby at_189) (ldAt hL49 rfl) (XS.iload X38.here hx rfl (hb hby at_191) (ldAt hL49 rfl) (XS.iconst X38.here hx rfl (hb hby at_193) (XS.icmpNo X38.here hx rfl (hb hby at_194) rfl (by decide) (XS.iload X38.here hx rfl (hb hby at_197) (ldAt hL49 rfl) k)))))) ?_
      refine Gl.st (B := (T38.setTop (mkF m 209 L49 [(.int ((y11_152_40 ||| (128 : Int32)).toInt8.toInt32)), (.int (2 : Int32)), (.ref b7)]))) (fun t k => XS.sipush X38.here hx rfl (hb hby at_199) (XS.ior X38.here hx rfl (hb hby at_202) rfl (XS.goto X38.here hx rfl (pc0 := 203) (pc' := 208) rfl (hb hby at_203) (by decide) (by decide) (XS.i2b X38.here hx rfl (hb hby at_208) rfl k)))) ?_
      obtain ⟨x209_411, hx209_411⟩ : ∃ z : Int32, z = ((y11_152_40 ||| (128 : Int32)).toInt8.toInt32) := ⟨_, rfl⟩
      refine Gl.cast (B := (T38.setTop (mkF m 209 L49 [(.int x209_411), (.int (2 : Int32)), (.ref b7)]))) (by rw [hx209_411]) ?_
      obtain ⟨cl412, Ar412, q412, S412, P412, H412, G412⟩ := (id V38)
      have hin209_412 : ¬ ((2 : Int32) < 0 ∨ cl412.slots.size ≤ ((2 : Int32)).toNatClampNeg) := inb_of S412 ⟨by decide, by decide⟩
      obtain ⟨T412, h412, X412, e412, W412, st412⟩ := stB X38 hx hZ e38 Ar412 (j := (2 : Int32)) hin209_412 (g := (mkF m 209 L49 [(.int x209_411), (.int (2 : Int32)), (.ref b7)])) rfl rfl (hb hby at_209)
      have V412 : Arv Z h412 b7 k7 .byte (10 : Int32) [(.int (nar .byte x49_10)), (.int (nar .byte x60_13)), (.int (nar .byte x209_411)), (.int (nar .byte x82_19)), (.int (nar .byte x93_22)), (.int (nar .byte x104_25)), (.int (nar .byte x116_28)), (.int (nar .byte x128_31)), (.int (nar .byte x136_34)), (.int (nar .byte x147_37))] (.int (0 : Int32)) := Arv.set Ar412 q412 S412 P412 H412 G412 (fits_nar_byte _) W412 2 rfl (Nat.le_of_ble_eq_true rfl)
      have Zc413 : n0 ≤ h412.size := Nat.le_trans Zc39 (Nat.le_of_eq W412.size.symm)
      have N412 := Fr.snoc X412 N38 g_b7
      refine Gl.st (B := (T412.setTop (mkF m 210 L49 []))) st412 ?_
      refine Gl.st (B := (T412.setTop (mkF m 221 L49 [(.int (1 : Int32)), (.int (2 : Int32)), (.ref b7)]))) (fun t k => XS.iload X412.here hx rfl (hb hby at_210) (ldAt hL49 rfl) (XS.iconst X412.here hx rfl (hb hby at_212) (XS.icmpNo X412.here hx rfl (hb hby at_213) rfl (by decide) (XS.aload X412.here hx rfl (hb hby at_216) (ldAt hL49 rfl) rfl (XS.iload X412.here hx rfl (hb hby at_218) (ldAt hL49 rfl) (XS.iconst X412.here hx rfl (hb hby at_220) k)))))) ?_
      refine Gl.st (B := (T412.setTop (mkF m 233 L49 [(.int (128 : Int32)), (.int y12_161_42), (.int (3 : Int32)), (.ref b7)]))) (fun t k => XS.iadd X412.here hx rfl (hb hby at_221) rfl (XS.iload X412.here hx rfl (hb hby at_222) (ldAt hL49 rfl) (XS.iconst X412.here hx rfl (hb hby at_224) (XS.icmpNo X412.here hx rfl (hb hby at_225) rfl (by decide) (XS.iload X412.here hx rfl (hb hby at_228) (ldAt hL49 rfl) (XS.sipush X412.here hx rfl (hb hby at_230) k)))))) ?_
      refine Gl.st (B := (T412.setTop (mkF m 240 L49 [(.int ((y12_161_42 ||| (128 : Int32)).toInt8.toInt32)), (.int (3 : Int32)), (.ref b7)]))) (fun t k => XS.ior X412.here hx rfl (hb hby at_233) rfl (XS.goto X412.here hx rfl (pc0 := 234) (pc' := 239) rfl (hb hby at_234) (by decide) (by decide) (XS.i2b X412.here hx rfl (hb hby at_239) rfl k))) ?_
      obtain ⟨x240_414, hx240_414⟩ : ∃ z : Int32, z = ((y12_161_42 ||| (128 : Int32)).toInt8.toInt32) := ⟨_, rfl⟩
      refine Gl.cast (B := (T412.setTop (mkF m 240 L49 [(.int x240_414), (.int (3 : Int32)), (.ref b7)]))) (by rw [hx240_414]) ?_
      obtain ⟨cl415, Ar415, q415, S415, P415, H415, G415⟩ := (id V412)
      have hin240_415 : ¬ ((3 : Int32) < 0 ∨ cl415.slots.size ≤ ((3 : Int32)).toNatClampNeg) := inb_of S415 ⟨by decide, by decide⟩
      obtain ⟨T415, h415, X415, e415, W415, st415⟩ := stB X412 hx hZ e412 Ar415 (j := (3 : Int32)) hin240_415 (g := (mkF m 240 L49 [(.int x240_414), (.int (3 : Int32)), (.ref b7)])) rfl rfl (hb hby at_240)
      have V415 : Arv Z h415 b7 k7 .byte (10 : Int32) [(.int (nar .byte x49_10)), (.int (nar .byte x60_13)), (.int (nar .byte x209_411)), (.int (nar .byte x240_414)), (.int (nar .byte x93_22)), (.int (nar .byte x104_25)), (.int (nar .byte x116_28)), (.int (nar .byte x128_31)), (.int (nar .byte x136_34)), (.int (nar .byte x147_37))] (.int (0 : Int32)) := Arv.set Ar415 q415 S415 P415 H415 G415 (fits_nar_byte _) W415 3 rfl (Nat.le_of_ble_eq_true rfl)
      have Zc416 : n0 ≤ h415.size := Nat.le_trans Zc413 (Nat.le_of_eq W415.size.symm)
      have N415 := Fr.snoc X415 N412 g_b7
      refine Gl.st (B := (T415.setTop (mkF m 241 L49 []))) st415 ?_
      refine Gl.st (B := (T415.setTop (mkF m 252 L49 [(.int (2 : Int32)), (.int (2 : Int32)), (.ref b7)]))) (fun t k => XS.iload X415.here hx rfl (hb hby at_241) (ldAt hL49 rfl) (XS.iconst X415.here hx rfl (hb hby at_243) (XS.icmpNo X415.here hx rfl (hb hby at_244) rfl (by decide) (XS.aload X415.here hx rfl (hb hby at_247) (ldAt hL49 rfl) rfl (XS.iload X415.here hx rfl (hb hby at_249) (ldAt hL49 rfl) (XS.iconst X415.here hx rfl (hb hby at_251) k)))))) ?_
      refine Gl.st (B := (T415.setTop (mkF m 264 L49 [(.int (128 : Int32)), (.int y13_170_44), (.int (4 : Int32)), (.ref b7)]))) (fun t k => XS.iadd X415.here hx rfl (hb hby at_252) rfl (XS.iload X415.here hx rfl (hb hby at_253) (ldAt hL49 rfl) (XS.iconst X415.here hx rfl (hb hby at_255) (XS.icmpNo X415.here hx rfl (hb hby at_256) rfl (by decide) (XS.iload X415.here hx rfl (hb hby at_259) (ldAt hL49 rfl) (XS.sipush X415.here hx rfl (hb hby at_261) k)))))) ?_
      refine Gl.st (B := (T415.setTop (mkF m 271 L49 [(.int ((y13_170_44 ||| (128 : Int32)).toInt8.toInt32)), (.int (4 : Int32)), (.ref b7)]))) (fun t k => XS.ior X415.here hx rfl (hb hby at_264) rfl (XS.goto X415.here hx rfl (pc0 := 265) (pc' := 270) rfl (hb hby at_265) (by decide) (by decide) (XS.i2b X415.here hx rfl (hb hby at_270) rfl k))) ?_
      obtain ⟨x271_417, hx271_417⟩ : ∃ z : Int32, z = ((y13_170_44 ||| (128 : Int32)).toInt8.toInt32) := ⟨_, rfl⟩
      refine Gl.cast (B := (T415.setTop (mkF m 271 L49 [(.int x271_417), (.int (4 : Int32)), (.ref b7)]))) (by rw [hx271_417]) ?_
      obtain ⟨cl418, Ar418, q418, S418, P418, H418, G418⟩ := (id V415)
      have hin271_418 : ¬ ((4 : Int32) < 0 ∨ cl418.slots.size ≤ ((4 : Int32)).toNatClampNeg) := inb_of S418 ⟨by decide, by decide⟩
      obtain ⟨T418, h418, X418, e418, W418, st418⟩ := stB X415 hx hZ e415 Ar418 (j := (4 : Int32)) hin271_418 (g := (mkF m 271 L49 [(.int x271_417), (.int (4 : Int32)), (.ref b7)])) rfl rfl (hb hby at_271)
      have V418 : Arv Z h418 b7 k7 .byte (10 : Int32) [(.int (nar .byte x49_10)), (.int (nar .byte x60_13)), (.int (nar .byte x209_411)), (.int (nar .byte x240_414)), (.int (nar .byte x271_417)), (.int (nar .byte x104_25)), (.int (nar .byte x116_28)), (.int (nar .byte x128_31)), (.int (nar .byte x136_34)), (.int (nar .byte x147_37))] (.int (0 : Int32)) := Arv.set Ar418 q418 S418 P418 H418 G418 (fits_nar_byte _) W418 4 rfl (Nat.le_of_ble_eq_true rfl)
      have Zc419 : n0 ≤ h418.size := Nat.le_trans Zc416 (Nat.le_of_eq W418.size.symm)
      have N418 := Fr.snoc X418 N415 g_b7
      refine Gl.st (B := (T418.setTop (mkF m 272 L49 []))) st418 ?_
      refine Gl.st (B := (T418.setTop (mkF m 283 L49 [(.int (3 : Int32)), (.int (2 : Int32)), (.ref b7)]))) (fun t k => XS.iload X418.here hx rfl (hb hby at_272) (ldAt hL49 rfl) (XS.iconst X418.here hx rfl (hb hby at_274) (XS.icmpNo X418.here hx rfl (hb hby at_275) rfl (by decide) (XS.aload X418.here hx rfl (hb hby at_278) (ldAt hL49 rfl) rfl (XS.iload X418.here hx rfl (hb hby at_280) (ldAt hL49 rfl) (XS.iconst X418.here hx rfl (hb hby at_282) k)))))) ?_
      refine Gl.st (B := (T418.setTop (mkF m 302 L49 [(.int (y14_179_46.toInt8.toInt32)), (.int (5 : Int32)), (.ref b7)]))) (fun t k => XS.iadd X418.here hx rfl (hb hby at_283) rfl (XS.iload X418.here hx rfl (hb hby at_284) (ldAt hL49 rfl) (XS.iconst X418.here hx rfl (hb hby at_286) (XS.icmpYes X418.here hx rfl (pc0 := 287) (pc' := 299) rfl (hb hby at_287) rfl (by decide) (by decide) (by decide) (XS.iload X418.here hx rfl (hb hby at_299) (ldAt hL49 rfl) (XS.i2b X418.here hx rfl (hb hby at_301) rfl k)))))) ?_
      obtain ⟨x302_420, hx302_420⟩ : ∃ z : Int32, z = (y14_179_46.toInt8.toInt32) := ⟨_, rfl⟩
      refine Gl.cast (B := (T418.setTop (mkF m 302 L49 [(.int x302_420), (.int (5 : Int32)), (.ref b7)]))) (by rw [hx302_420]) ?_
      obtain ⟨cl421, Ar421, q421, S421, P421, H421, G421⟩ := (id V418)
      have hin302_421 : ¬ ((5 : Int32) < 0 ∨ cl421.slots.size ≤ ((5 : Int32)).toNatClampNeg) := inb_of S421 ⟨by decide, by decide⟩
      obtain ⟨T421, h421, X421, e421, W421, st421⟩ := stB X418 hx hZ e418 Ar421 (j := (5 : Int32)) hin302_421 (g := (mkF m 302 L49 [(.int x302_420), (.int (5 : Int32)), (.ref b7)])) rfl rfl (hb hby at_302)
      have V421 : Arv Z h421 b7 k7 .byte (10 : Int32) [(.int (nar .byte x49_10)), (.int (nar .byte x60_13)), (.int (nar .byte x209_411)), (.int (nar .byte x240_414)), (.int (nar .byte x271_417)), (.int (nar .byte x302_420)), (.int (nar .byte x116_28)), (.int (nar .byte x128_31)), (.int (nar .byte x136_34)), (.int (nar .byte x147_37))] (.int (0 : Int32)) := Arv.set Ar421 q421 S421 P421 H421 G421 (fits_nar_byte _) W421 5 rfl (Nat.le_of_ble_eq_true rfl)
      have Zc422 : n0 ≤ h421.size := Nat.le_trans Zc419 (Nat.le_of_eq W421.size.symm)
      have N421 := Fr.snoc X421 N418 g_b7
      refine Gl.st (B := (T421.setTop (mkF m 303 L49 []))) st421 ?_
      refine Gl.st (B := (T421.setTop (mkF m 324 L49 [(.long (4294967295 : Int64)), (.long (p1.toInt64))]))) (fun t k => XS.iload X421.here hx rfl (hb hby at_303) (ldAt hL49 rfl) (XS.iconst X421.here hx rfl (hb hby at_305) (XS.icmpYes X421.here hx rfl (pc0 := 306) (pc' := 319) rfl (hb hby at_306) rfl (by decide) (by decide) (by decide) (XS.iloadN X421.here hx rfl (hb hby at_319) (ldAt hL49 rfl) (XS.i2l X421.here hx rfl (hb hby at_320) rfl (X421.ldc2Long hx hown (mvT hZ (tw hw 2 rfl)) (g := (mkF m 321 L49 [(.long (p1.toInt64))])) rfl (hb hby at_321) _ k)))))) ?_
      refine Gl.st (B := (T421.setTop (mkF m 325 L49 [(.long ((p1.toInt64) &&& (4294967295 : Int64)))]))) (fun t k => XS.land X421.here hx rfl (hb hby at_324) rfl k) ?_
      obtain ⟨y16_325_423, hy16_325_423⟩ : ∃ z : Int64, z = ((p1.toInt64) &&& (4294967295 : Int64)) := ⟨_, rfl⟩
      refine Gl.cast (B := (T421.setTop (mkF m 325 L49 [(.long y16_325_423)]))) (by rw [hy16_325_423]) ?_
      obtain ⟨L424, hL424⟩ : ∃ z : Array Slot, z = #[.val (.int p1), .val (.int p2), .val (.int p3), .val (.int p4), .val (.long q5), .second, .val (.int p6), .val (.int (4 : Int32)), .val (.int (2 : Int32)), .val (.int y9_34_5), .val (.ref b7), .val (.int y11_152_40), .val (.int y12_161_42), .val (.int y13_170_44), .val (.int y14_179_46), .val (.int y15_185_48), .val (.long y16_325_423), .second, .unset, .unset] := ⟨_, rfl⟩
      refine Gl.st (B := (T421.setTop (mkF m 341 L424 [(.long (1 : Int64)), (.long y16_325_423)]))) (fun t k => XS.lstore X421.here hx rfl (hb hby at_325) rfl (l' := L424) (stAt hL49 hL424 rfl rfl) (XS.iload X421.here hx rfl (hb hby at_327) (ldAt hL424 rfl) (XS.iconst X421.here hx rfl (hb hby at_329) (XS.icmpYes X421.here hx rfl (pc0 := 330) (pc' := 338) rfl (hb hby at_330) rfl (by decide) (by decide) (by decide) (XS.lload X421.here hx rfl (hb hby at_338) (ldAt hL424 rfl) (XS.lconst X421.here hx rfl (hb hby at_340) k)))))) ?_
      refine Gl.st (B := (T421.setTop (mkF m 349 L424 [(.long (((1 : Int64) <<< ((28 : Int32) &&& 0x3f).toInt64) - (1 : Int64))), (.long y16_325_423)]))) (fun t k => XS.bipush X421.here hx rfl (hb hby at_341) (XS.iload X421.here hx rfl (hb hby at_343) (ldAt hL424 rfl) (XS.imul X421.here hx rfl (hb hby at_345) rfl (XS.lshl X421.here hx rfl (hb hby at_346) rfl (XS.lconst X421.here hx rfl (hb hby at_347) (XS.lsub X421.here hx rfl (hb hby at_348) rfl k)))))) ?_
      refine Gl.st (B := (T421.setTop (mkF m 350 L424 [(.long (y16_325_423 &&& (((1 : Int64) <<< ((28 : Int32) &&& 0x3f).toInt64) - (1 : Int64))))]))) (fun t k => XS.land X421.here hx rfl (hb hby at_349) rfl k) ?_
      obtain ⟨y18_350_425, hy18_350_425⟩ : ∃ z : Int64, z = (y16_325_423 &&& (((1 : Int64) <<< ((28 : Int32) &&& 0x3f).toInt64) - (1 : Int64))) := ⟨_, rfl⟩
      refine Gl.cast (B := (T421.setTop (mkF m 350 L424 [(.long y18_350_425)]))) (by rw [hy18_350_425]) ?_
      obtain ⟨L426, hL426⟩ : ∃ z : Array Slot, z = #[.val (.int p1), .val (.int p2), .val (.int p3), .val (.int p4), .val (.long q5), .second, .val (.int p6), .val (.int (4 : Int32)), .val (.int (2 : Int32)), .val (.int y9_34_5), .val (.ref b7), .val (.int y11_152_40), .val (.int y12_161_42), .val (.int y13_170_44), .val (.int y14_179_46), .val (.int y15_185_48), .val (.long y16_325_423), .second, .val (.long y18_350_425), .second] := ⟨_, rfl⟩
      refine Gl.st (B := (T421.setTop (mkF m 358 L426 [(.int y9_34_5), (.int (2 : Int32)), (.ref b7)]))) (fun t k => XS.lstore X421.here hx rfl (hb hby at_350) rfl (l' := L426) (stAt hL424 hL426 rfl rfl) (XS.aload X421.here hx rfl (hb hby at_352) (ldAt hL426 rfl) rfl (XS.iload X421.here hx rfl (hb hby at_354) (ldAt hL426 rfl) (XS.iload X421.here hx rfl (hb hby at_356) (ldAt hL426 rfl) k)))) ?_
      obtain ⟨cl428, Ar428, q428, S428, P428, H428, G428⟩ := (id V421)
      have hin40_1_429 : ¬ (((2 : Int32) + (0 : Int32)) < 0 ∨ cl428.slots.size ≤ (((2 : Int32) + (0 : Int32))).toNatClampNeg) := inb_of S428 ⟨by decide, by decide⟩
      have hin40_2_430 : ¬ (((2 : Int32) + (1 : Int32)) < 0 ∨ cl428.slots.size ≤ (((2 : Int32) + (1 : Int32))).toNatClampNeg) := inb_of S428 ⟨by decide, by decide⟩
      have hin40_3_431 : ¬ (((2 : Int32) + (2 : Int32)) < 0 ∨ cl428.slots.size ≤ (((2 : Int32) + (2 : Int32))).toNatClampNeg) := inb_of S428 ⟨by decide, by decide⟩
      have hin40_4_432 : ¬ (((2 : Int32) + (3 : Int32)) < 0 ∨ cl428.slots.size ≤ (((2 : Int32) + (3 : Int32))).toNatClampNeg) := inb_of S428 ⟨by decide, by decide⟩
      have hp358_433 : ¬ ((((10 : Int32) ||| (2 : Int32)) ||| y9_34_5) < (0 : Int32)) := own_0_hp358_433 p4 y9_34_5 hy9_34_5 
      have hp358_434 : ¬ (((10 : Int32) - (2 : Int32)) < y9_34_5) := own_0_hp358_434 p4 y9_34_5 hy9_34_5 
      have hp358_435 : ¬ ((0 : Int32) = y9_34_5) := own_0_hp358_435 p4 y9_34_5 hy9_34_5 
      have hp358_436 : ¬ ((((nar .byte x209_411) &&& (255 : Int32))) < (128 : Int32)) := own_0_hp358_436 p1 y11_152_40 x209_411 hy11_152_40 hx209_411 
      have hp358_437 : ¬ ((1 : Int32) = y9_34_5) := own_0_hp358_437 p4 y9_34_5 hy9_34_5 
      have hp358_438 : ¬ ((((nar .byte x240_414) &&& (255 : Int32))) < (128 : Int32)) := own_0_hp358_438 p1 y12_161_42 x240_414 hy12_161_42 hx240_414 
      have hp358_439 : ¬ ((2 : Int32) = y9_34_5) := own_0_hp358_439 p4 y9_34_5 hy9_34_5 
      have hp358_440 : ¬ ((((nar .byte x271_417) &&& (255 : Int32))) < (128 : Int32)) := own_0_hp358_440 p1 y13_170_44 x271_417 hy13_170_44 hx271_417 
      have hp358_441 : ¬ ((3 : Int32) = y9_34_5) := own_0_hp358_441 p4 y9_34_5 hy9_34_5 
      have hp358_442 : (((nar .byte x302_420) &&& (255 : Int32))) < (128 : Int32) := own_0_hp358_442 p1 y14_179_46 x302_420 hy14_179_46 hx302_420 
      have hp358_443 : ¬ ((4294967295 : Int64) < (((((((((0 : Int64) ||| ((((((nar .byte x209_411) &&& (255 : Int32))) &&& (127 : Int32)).toInt64) <<< ((0 : Int32) &&& 0x3f).toInt64))) ||| ((((((nar .byte x240_414) &&& (255 : Int32))) &&& (127 : Int32)).toInt64) <<< ((7 : Int32) &&& 0x3f).toInt64))) ||| ((((((nar .byte x271_417) &&& (255 : Int32))) &&& (127 : Int32)).toInt64) <<< ((14 : Int32) &&& 0x3f).toInt64))) ||| ((((((nar .byte x302_420) &&& (255 : Int32))) &&& (127 : Int32)).toInt64) <<< ((21 : Int32) &&& 0x3f).toInt64)))) := own_0_hp358_443 p1 y11_152_40 x209_411 y12_161_42 x240_414 y13_170_44 x271_417 y14_179_46 x302_420 hy11_152_40 hx209_411 hy12_161_42 hx240_414 hy13_170_44 hx271_417 hy14_179_46 hx302_420 
      obtain ⟨_, _, ⟨T427, L427q, k427, n427⟩, -, X427, ⟨Lc427, hQ427, l427, y427, z427⟩, st427⟩ := Jvm.LawKit.callS X421 hx (y := (⟨"com/example/requeue/requeue/connection/SnappyBlock", "uncompressedLength", "([BII)J"⟩ : MethodName)) hown (mvT hZ (tw hw 3 rfl)) (mvT hZ (tw hw 4 rfl)) (mvT hZ (tw hw 5 rfl)) (mvT hZ (tw hw 6 rfl)) (by decide) (backOf (W := 0) (rm1k4 l Z a0 hw [] b7 (2 : Int32) y9_34_5 cl428 (nar .byte x209_411) (nar .byte x240_414) (nar .byte x271_417) (nar .byte x302_420) h421 n0 Zc422 Ar428 S428 P428 hp358_433 hp358_434 hp358_435 hin40_1_429 (Has.at H428 hin40_1_429 (v := (.int (nar .byte x209_411))) rfl) hp358_436 hp358_437 hin40_2_430 (Has.at H428 hin40_2_430 (v := (.int (nar .byte x240_414))) rfl) hp358_438 hp358_439 hin40_3_431 (Has.at H428 hin40_3_431 (v := (.int (nar .byte x271_417))) rfl) hp358_440 hp358_441 hin40_4_432 (Has.at H428 hin40_4_432 (v := (.int (nar .byte x302_420))) rfl) hp358_442 hp358_443) hZ (tw hw 6 rfl) (tw hw 5 rfl) (by decide) (by decide)) (g := (mkF m 358 L426 [(.int y9_34_5), (.int (2 : Int32)), (.ref b7)])) rfl (szAt hml hL426 rfl) (argsL := [(.ref b7), (.int (2 : Int32)), (.int y9_34_5)]) (rest := []) (lenOf pd_0_0 rfl) rfl (by show 2 * 0 + _ ≤ _; exact Nat.le_of_eq rfl) (hb hby at_358) (fun _ _ => ⟨rfl, e421, (by decide : 1 + 0 ≤ _), (by decide : 10 + 0 ≤ _)⟩)
      dsimp only [Pt.U, Pt.locs, Pt.cells, Pt.slots] at X427 l427 y427 z427 st427 hQ427
      subst l427 y427 z427
      obtain ⟨rfl, N427q, eh427⟩ := hQ427
      have N427 := Fr.app N421 N427q
      refine Gl.st (B := (T427.setTop (mkF m 361 L426 [(.long (((((((((0 : Int64) ||| ((((((nar .byte x209_411) &&& (255 : Int32))) &&& (127 : Int32)).toInt64) <<< ((0 : Int32) &&& 0x3f).toInt64))) ||| ((((((nar .byte x240_414) &&& (255 : Int32))) &&& (127 : Int32)).toInt64) <<< ((7 : Int32) &&& 0x3f).toInt64))) ||| ((((((nar .byte x271_417) &&& (255 : Int32))) &&& (127 : Int32)).toInt64) <<< ((14 : Int32) &&& 0x3f).toInt64))) ||| ((((((nar .byte x302_420) &&& (255 : Int32))) &&& (127 : Int32)).toInt64) <<< ((21 : Int32) &&& 0x3f).toInt64))))]))) (fun t k => st427 t k) ?_
      obtain ⟨r358_444, hr358_444⟩ : ∃ z : Int64, z = (((((((((0 : Int64) ||| ((((((nar .byte x209_411) &&& (255 : Int32))) &&& (127 : Int32)).toInt64) <<< ((0 : Int32) &&& 0x3f).toInt64))) ||| ((((((nar .byte x240_414) &&& (255 : Int32))) &&& (127 : Int32)).toInt64) <<< ((7 : Int32) &&& 0x3f).toInt64))) ||| ((((((nar .byte x271_417) &&& (255 : Int32))) &&& (127 : Int32)).toInt64) <<< ((14 : Int32) &&& 0x3f).toInt64))) ||| ((((((nar .byte x302_420) &&& (255 : Int32))) &&& (127 : Int32)).toInt64) <<< ((21 : Int32) &&& 0x3f).toInt64))) := ⟨_, rfl⟩
      refine Gl.cast (B := (T427.setTop (mkF m 361 L426 [(.long r358_444)]))) (by rw [hr358_444]) ?_
      refine Gl.st (B := (T427.setTop (mkF m 364 L426 [(.int (lcmpW r358_444 y18_350_425))]))) (fun t k => XS.lload X427.here hx rfl (hb hby at_361) (ldAt hL426 rfl) (XS.lcmp X427.here hx rfl (hb hby at_363) rfl k)) ?_
      have hc364_445 : r358_444 = y18_350_425 := own_0_hc364_445 p1 y11_152_40 x209_411 y12_161_42 x240_414 y13_170_44 x271_417 y14_179_46 x302_420 r358_444 y16_325_423 y18_350_425 hy11_152_40 hx209_411 hy12_161_42 hx240_414 hy13_170_44 hx271_417 hy14_179_46 hx302_420 hr358_444 hy16_325_423 hy18_350_425 
      refine Gl.st (B := (T427.setTop (mkF m 372 L426 [(.int (1 : Int32))]))) (fun t k => XS.ifNo X427.here hx rfl (hb hby at_364) rfl ((if0 _ _).trans (teq ((lw_eq r358_444 y18_350_425).mpr hc364_445)).2) (XS.iconst X427.here hx rfl (hb hby at_367) (XS.goto X427.here hx rfl (pc0 := 368) (pc' := 372) rfl (hb hby at_368) (by decide) (by decide) k))) ?_
      obtain ⟨fs, hr, hrun, hended, hW, hsame⟩ := X427.leave (v := some (.int (nar .boolean (1 : Int32)))) (fun h => by rw [Bd.returns] at h; cases h)
      refine Gl.fin (retN X427 hx (t := .boolean) Bd.returns (by simp) (hb hby at_372) hr) hrun hended ⟨_, _, rfl, ?_, ⟨_, rfl⟩, hW, hsame.mono (by decide) (by decide)⟩
      show Q0 Z p1 p2 p3 p4 q5 p6 h0 n0 _ T427.heap _
      rw [eh427]
      exact ⟨rfl, N427⟩
    · skip
      subst hk
      refine Gl.st (B := (T38.setTop (mkF m 199 L49 [(.int y11_152_40), (.int (2 : Int32)), (.ref b7)]))) (fun t k => XS.aload X38.here hx rfl (hb hby at_187) (ldAt hL49 rfl) rfl (XS.iload X38.here hx rfl (hb hby at_189) (ldAt hL49 rfl) (XS.iload X38.here hx rfl (hb hby at_191) (ldAt hL49 rfl) (XS.iconst X38.here hx rfl (hb hby at_193) (XS.icmpNo X38.here hx rfl (hb hby at_194) rfl (by decide) (XS.iload X38.here hx rfl (hb hby at_197) (ldAt hL49 rfl) k)))))) ?_
      refine Gl.st (B := (T38.setTop (mkF m 209 L49 [(.int ((y11_152_40 ||| (128 : Int32)).toInt8.toInt32)), (.int (2 : Int32)), (.ref b7)]))) (fun t k => XS.sipush X38.here hx rfl (hb hby at_199) (XS.ior X38.here hx rfl (hb hby at_202) rfl (XS.goto X38.here hx rfl (pc0 := 203) (pc' := 208) rfl (hb hby at_203) (by decide) (by decide) (XS.i2b X38.here hx rfl (hb hby at_208) rfl k)))) ?_
      obtain ⟨x209_446, hx209_446⟩ : ∃ z : Int32, z = ((y11_152_40 ||| (128 : Int32)).toInt8.toInt32) := ⟨_, rfl⟩
      refine Gl.cast (B := (T38.setTop (mkF m 209 L49 [(.int x209_446), (.int (2 : Int32)), (.ref b7)]))) (by rw [hx209_446]) ?_
      obtain ⟨cl447, Ar447, q447, S447, P447, H447, G447⟩ := (id V38)
      have hin209_447 : ¬ ((2 : Int32) < 0 ∨ cl447.slots.size ≤ ((2 : Int32)).toNatClampNeg) := inb_of S447 ⟨by decide, by decide⟩
      obtain ⟨T447, h447, X447, e447, W447, st447⟩ := stB X38 hx hZ e38 Ar447 (j := (2 : Int32)) hin209_447 (g := (mkF m 209 L49 [(.int x209_446), (.int (2 : Int32)), (.ref b7)])) rfl rfl (hb hby at_209)
      have V447 : Arv Z h447 b7 k7 .byte (10 : Int32) [(.int (nar .byte x49_10)), (.int (nar .byte x60_13)), (.int (nar .byte x209_446)), (.int (nar .byte x82_19)), (.int (nar .byte x93_22)), (.int (nar .byte x104_25)), (.int (nar .byte x116_28)), (.int (nar .byte x128_31)), (.int (nar .byte x136_34)), (.int (nar .byte x147_37))] (.int (0 : Int32)) := Arv.set Ar447 q447 S447 P447 H447 G447 (fits_nar_byte _) W447 2 rfl (Nat.le_of_ble_eq_true rfl)
      have Zc448 : n0 ≤ h447.size := Nat.le_trans Zc39 (Nat.le_of_eq W447.size.symm)
      have N447 := Fr.snoc X447 N38 g_b7
      refine Gl.st (B := (T447.setTop (mkF m 210 L49 []))) st447 ?_
      refine Gl.st (B := (T447.setTop (mkF m 221 L49 [(.int (1 : Int32)), (.int (2 : Int32)), (.ref b7)]))) (fun t k => XS.iload X447.here hx rfl (hb hby at_210) (ldAt hL49 rfl) (XS.iconst X447.here hx rfl (hb hby at_212) (XS.icmpNo X447.here hx rfl (hb hby at_213) rfl (by decide) (XS.aload X447.here hx rfl (hb hby at_216) (ldAt hL49 rfl) rfl (XS.iload X447.here hx rfl (hb hby at_218) (ldAt hL49 rfl) (XS.iconst X447.here hx rfl (hb hby at_220) k)))))) ?_
      refine Gl.st (B := (T447.setTop (mkF m 233 L49 [(.int (128 : Int32)), (.int y12_161_42), (.int (3 : Int32)), (.ref b7)]))) (fun t k => XS.iadd X447.here hx rfl (hb hby at_221) rfl (XS.iload X447.here hx rfl (hb hby at_222) (ldAt hL49 rfl) (XS.iconst X447.here hx rfl (hb hby at_224) (XS.icmpNo X447.here hx rfl (hb hby at_225) rfl (by decide) (XS.iload X447.here hx rfl (hb hby at_228) (ldAt hL49 rfl) (XS.sipush X447.here hx rfl (hb hby at_230) k)))))) ?_
      refine Gl.st (B := (T447.setTop (mkF m 240 L49 [(.int ((y12_161_42 ||| (128 : Int32)).toInt8.toInt32)), (.int (3 : Int32)), (.ref b7)]))) (fun t k => XS.ior X447.here hx rfl (hb hby at_233) rfl (XS.goto X447.here hx rfl (pc0 := 234) (pc' := 239) rfl (hb hby at_234) (by decide) (by decide) (XS.i2b X447.here hx rfl (hb hby at_239) rfl k))) ?_
      obtain ⟨x240_449, hx240_449⟩ : ∃ z : Int32, z = ((y12_161_42 ||| (128 : Int32)).toInt8.toInt32) := ⟨_, rfl⟩
      refine Gl.cast (B := (T447.setTop (mkF m 240 L49 [(.int x240_449), (.int (3 : Int32)), (.ref b7)]))) (by rw [hx240_449]) ?_
      obtain ⟨cl450, Ar450, q450, S450, P450, H450, G450⟩ := (id V447)
      have hin240_450 : ¬ ((3 : Int32) < 0 ∨ cl450.slots.size ≤ ((3 : Int32)).toNatClampNeg) := inb_of S450 ⟨by decide, by decide⟩
      obtain ⟨T450, h450, X450, e450, W450, st450⟩ := stB X447 hx hZ e447 Ar450 (j := (3 : Int32)) hin240_450 (g := (mkF m 240 L49 [(.int x240_449), (.int (3 : Int32)), (.ref b7)])) rfl rfl (hb hby at_240)
      have V450 : Arv Z h450 b7 k7 .byte (10 : Int32) [(.int (nar .byte x49_10)), (.int (nar .byte x60_13)), (.int (nar .byte x209_446)), (.int (nar .byte x240_449)), (.int (nar .byte x93_22)), (.int (nar .byte x104_25)), (.int (nar .byte x116_28)), (.int (nar .byte x128_31)), (.int (nar .byte x136_34)), (.int (nar .byte x147_37))] (.int (0 : Int32)) := Arv.set Ar450 q450 S450 P450 H450 G450 (fits_nar_byte _) W450 3 rfl (Nat.le_of_ble_eq_true rfl)
      have Zc451 : n0 ≤ h450.size := Nat.le_trans Zc448 (Nat.le_of_eq W450.size.symm)
      have N450 := Fr.snoc X450 N447 g_b7
      refine Gl.st (B := (T450.setTop (mkF m 241 L49 []))) st450 ?_
      refine Gl.st (B := (T450.setTop (mkF m 252 L49 [(.int (2 : Int32)), (.int (2 : Int32)), (.ref b7)]))) (fun t k => XS.iload X450.here hx rfl (hb hby at_241) (ldAt hL49 rfl) (XS.iconst X450.here hx rfl (hb hby at_243) (XS.icmpNo X450.here hx rfl (hb hby at_244) rfl (by decide) (XS.aload X450.here hx rfl (hb hby at_247) (ldAt hL49 rfl) rfl (XS.iload X450.here hx rfl (hb hby at_249) (ldAt hL49 rfl) (XS.iconst X450.here hx rfl (hb hby at_251) k)))))) ?_
      refine Gl.st (B := (T450.setTop (mkF m 264 L49 [(.int (128 : Int32)), (.int y13_170_44), (.int (4 : Int32)), (.ref b7)]))) (fun t k => XS.iadd X450.here hx rfl (hb hby at_252) rfl (XS.iload X450.here hx rfl (hb hby at_253) (ldAt hL49 rfl) (XS.iconst X450.here hx rfl (hb hby at_255) (XS.icmpNo X450.here hx rfl (hb hby at_256) rfl (by decide) (XS.iload X450.here hx rfl (hb hby at_259) (ldAt hL49 rfl) (XS.sipush X450.here hx rfl (hb hby at_261) k)))))) ?_
      refine Gl.st (B := (T450.setTop (mkF m 271 L49 [(.int ((y13_170_44 ||| (128 : Int32)).toInt8.toInt32)), (.int (4 : Int32)), (.ref b7)]))) (fun t k => XS.ior X450.here hx rfl (hb hby at_264) rfl (XS.goto X450.here hx rfl (pc0 := 265) (pc' := 270) rfl (hb hby at_265) (by decide) (by decide) (XS.i2b X450.here hx rfl (hb hby at_270) rfl k))) ?_
      obtain ⟨x271_452, hx271_452⟩ : ∃ z : Int32, z = ((y13_170_44 ||| (128 : Int32)).toInt8.toInt32) := ⟨_, rfl⟩
      refine Gl.cast (B := (T450.setTop (mkF m 271 L49 [(.int x271_452), (.int (4 : Int32)), (.ref b7)]))) (by rw [hx271_452]) ?_
      obtain ⟨cl453, Ar453, q453, S453, P453, H453, G453⟩ := (id V450)
      have hin271_453 : ¬ ((4 : Int32) < 0 ∨ cl453.slots.size ≤ ((4 : Int32)).toNatClampNeg) := inb_of S453 ⟨by decide, by decide⟩
      obtain ⟨T453, h453, X453, e453, W453, st453⟩ := stB X450 hx hZ e450 Ar453 (j := (4 : Int32)) hin271_453 (g := (mkF m 271 L49 [(.int x271_452), (.int (4 : Int32)), (.ref b7)])) rfl rfl (hb hby at_271)
      have V453 : Arv Z h453 b7 k7 .byte (10 : Int32) [(.int (nar .byte x49_10)), (.int (nar .byte x60_13)), (.int (nar .byte x209_446)), (.int (nar .byte x240_449)), (.int (nar .byte x271_452)), (.int (nar .byte x104_25)), (.int (nar .byte x116_28)), (.int (nar .byte x128_31)), (.int (nar .byte x136_34)), (.int (nar .byte x147_37))] (.int (0 : Int32)) := Arv.set Ar453 q453 S453 P453 H453 G453 (fits_nar_byte _) W453 4 rfl (Nat.le_of_ble_eq_true rfl)
      have Zc454 : n0 ≤ h453.size := Nat.le_trans Zc451 (Nat.le_of_eq W453.size.symm)
      have N453 := Fr.snoc X453 N450 g_b7
      refine Gl.st (B := (T453.setTop (mkF m 272 L49 []))) st453 ?_
      refine Gl.st (B := (T453.setTop (mkF m 283 L49 [(.int (3 : Int32)), (.int (2 : Int32)), (.ref b7)]))) (fun t k => XS.iload X453.here hx rfl (hb hby at_272) (ldAt hL49 rfl) (XS.iconst X453.here hx rfl (hb hby at_274) (XS.icmpNo X453.here hx rfl (hb hby at_275) rfl (by decide) (XS.aload X453.here hx rfl (hb hby at_278) (ldAt hL49 rfl) rfl (XS.iload X453.here hx rfl (hb hby at_280) (ldAt hL49 rfl) (XS.iconst X453.here hx rfl (hb hby at_282) k)))))) ?_
      refine Gl.st (B := (T453.setTop (mkF m 295 L49 [(.int (128 : Int32)), (.int y14_179_46), (.int (5 : Int32)), (.ref b7)]))) (fun t k => XS.iadd X453.here hx rfl (hb hby at_283) rfl (XS.iload X453.here hx rfl (hb hby at_284) (ldAt hL49 rfl) (XS.iconst X453.here hx rfl (hb hby at_286) (XS.icmpNo X453.here hx rfl (hb hby at_287) rfl (by decide) (XS.iload X453.here hx rfl (hb hby at_290) (ldAt hL49 rfl) (XS.sipush X453.here hx rfl (hb hby at_292) k)))))) ?_
      refine Gl.st (B := (T453.setTop (mkF m 302 L49 [(.int ((y14_179_46 ||| (128 : Int32)).toInt8.toInt32)), (.int (5 : Int32)), (.ref b7)]))) (fun t k => XS.ior X453.here hx rfl (hb hby at_295) rfl (XS.goto X453.here hx rfl (pc0 := 296) (pc' := 301) rfl (hb hby at_296) (by decide) (by decide) (XS.i2b X453.here hx rfl (hb hby at_301) rfl k))) ?_
      obtain ⟨x302_455, hx302_455⟩ : ∃ z : Int32, z = ((y14_179_46 ||| (128 : Int32)).toInt8.toInt32) := ⟨_, rfl⟩
      refine Gl.cast (B := (T453.setTop (mkF m 302 L49 [(.int x302_455), (.int (5 : Int32)), (.ref b7)]))) (by rw [hx302_455]) ?_
      obtain ⟨cl456, Ar456, q456, S456, P456, H456, G456⟩ := (id V453)
      have hin302_456 : ¬ ((5 : Int32) < 0 ∨ cl456.slots.size ≤ ((5 : Int32)).toNatClampNeg) := inb_of S456 ⟨by decide, by decide⟩
      obtain ⟨T456, h456, X456, e456, W456, st456⟩ := stB X453 hx hZ e453 Ar456 (j := (5 : Int32)) hin302_456 (g := (mkF m 302 L49 [(.int x302_455), (.int (5 : Int32)), (.ref b7)])) rfl rfl (hb hby at_302)
      have V456 : Arv Z h456 b7 k7 .byte (10 : Int32) [(.int (nar .byte x49_10)), (.int (nar .byte x60_13)), (.int (nar .byte x209_446)), (.int (nar .byte x240_449)), (.int (nar .byte x271_452)), (.int (nar .byte x302_455)), (.int (nar .byte x116_28)), (.int (nar .byte x128_31)), (.int (nar .byte x136_34)), (.int (nar .byte x147_37))] (.int (0 : Int32)) := Arv.set Ar456 q456 S456 P456 H456 G456 (fits_nar_byte _) W456 5 rfl (Nat.le_of_ble_eq_true rfl)
      have Zc457 : n0 ≤ h456.size := Nat.le_trans Zc454 (Nat.le_of_eq W456.size.symm)
      have N456 := Fr.snoc X456 N453 g_b7
      refine Gl.st (B := (T456.setTop (mkF m 303 L49 []))) st456 ?_
      refine Gl.st (B := (T456.setTop (mkF m 314 L49 [(.int (4 : Int32)), (.int (2 : Int32)), (.ref b7)]))) (fun t k => XS.iload X456.here hx rfl (hb hby at_303) (ldAt hL49 rfl) (XS.iconst X456.here hx rfl (hb hby at_305) (XS.icmpNo X456.here hx rfl (hb hby at_306) rfl (by decide) (XS.aload X456.here hx rfl (hb hby at_309) (ldAt hL49 rfl) rfl (XS.iload X456.here hx rfl (hb hby at_311) (ldAt hL49 rfl) (XS.iconst X456.here hx rfl (hb hby at_313) k)))))) ?_
      refine Gl.st (B := (T456.setTop (mkF m 318 L49 [(.int (y15_185_48.toInt8.toInt32)), (.int (6 : Int32)), (.ref b7)]))) (fun t k => XS.iadd X456.here hx rfl (hb hby at_314) rfl (XS.iload X456.here hx rfl (hb hby at_315) (ldAt hL49 rfl) (XS.i2b X456.here hx rfl (hb hby at_317) rfl k))) ?_
      obtain ⟨x318_458, hx318_458⟩ : ∃ z : Int32, z = (y15_185_48.toInt8.toInt32) := ⟨_, rfl⟩
      refine Gl.cast (B := (T456.setTop (mkF m 318 L49 [(.int x318_458), (.int (6 : Int32)), (.ref b7)]))) (by rw [hx318_458]) ?_
      obtain ⟨cl459, Ar459, q459, S459, P459, H459, G459⟩ := (id V456)
      have hin318_459 : ¬ ((6 : Int32) < 0 ∨ cl459.slots.size ≤ ((6 : Int32)).toNatClampNeg) := inb_of S459 ⟨by decide, by decide⟩
      obtain ⟨T459, h459, X459, e459, W459, st459⟩ := stB X456 hx hZ e456 Ar459 (j := (6 : Int32)) hin318_459 (g := (mkF m 318 L49 [(.int x318_458), (.int (6 : Int32)), (.ref b7)])) rfl rfl (hb hby at_318)
      have V459 : Arv Z h459 b7 k7 .byte (10 : Int32) [(.int (nar .byte x49_10)), (.int (nar .byte x60_13)), (.int (nar .byte x209_446)), (.int (nar .byte x240_449)), (.int (nar .byte x271_452)), (.int (nar .byte x302_455)), (.int (nar .byte x318_458)), (.int (nar .byte x128_31)), (.int (nar .byte x136_34)), (.int (nar .byte x147_37))] (.int (0 : Int32)) := Arv.set Ar459 q459 S459 P459 H459 G459 (fits_nar_byte _) W459 6 rfl (Nat.le_of_ble_eq_true rfl)
      have Zc460 : n0 ≤ h459.size := Nat.le_trans Zc457 (Nat.le_of_eq W459.size.symm)
      have N459 := Fr.snoc X459 N456 g_b7
      refine Gl.st (B := (T459.setTop (mkF m 319 L49 []))) st459 ?_
      refine Gl.st (B := (T459.setTop (mkF m 325 L49 [(.long ((p1.toInt64) &&& (4294967295 : Int64)))]))) (fun t k => XS.iloadN X459.here hx rfl (hb hby at_319) (ldAt hL49 rfl) (XS.i2l X459.here hx rfl (hb hby at_320) rfl (X459.ldc2Long hx hown (mvT hZ (tw hw 2 rfl)) (g := (mkF m 321 L49 [(.long (p1.toInt64))])) rfl (hb hby at_321) _ (XS.land X459.here hx rfl (hb hby at_324) rfl k)))) ?_
      obtain ⟨y16_325_461, hy16_325_461⟩ : ∃ z : Int64, z = ((p1.toInt64) &&& (4294967295 : Int64)) := ⟨_, rfl⟩
      refine Gl.cast (B := (T459.setTop (mkF m 325 L49 [(.long y16_325_461)]))) (by rw [hy16_325_461]) ?_
      obtain ⟨L462, hL462⟩ : ∃ z : Array Slot, z = #[.val (.int p1), .val (.int p2), .val (.int p3), .val (.int p4), .val (.long q5), .second, .val (.int p6), .val (.int (5 : Int32)), .val (.int (2 : Int32)), .val (.int y9_34_5), .val (.ref b7), .val (.int y11_152_40), .val (.int y12_161_42), .val (.int y13_170_44), .val (.int y14_179_46), .val (.int y15_185_48), .val (.long y16_325_461), .second, .unset, .unset] := ⟨_, rfl⟩
      refine Gl.st (B := (T459.setTop (mkF m 350 L462 [(.long y16_325_461)]))) (fun t k => XS.lstore X459.here hx rfl (hb hby at_325) rfl (l' := L462) (stAt hL49 hL462 rfl rfl) (XS.iload X459.here hx rfl (hb hby at_327) (ldAt hL462 rfl) (XS.iconst X459.here hx rfl (hb hby at_329) (XS.icmpNo X459.here hx rfl (hb hby at_330) rfl (by decide) (XS.lload X459.here hx rfl (hb hby at_333) (ldAt hL462 rfl) (XS.goto X459.here hx rfl (pc0 := 335) (pc' := 350) rfl (hb hby at_335) (by decide) (by decide) k)))))) ?_
      obtain ⟨L463, hL463⟩ : ∃ z : Array Slot, z = #[.val (.int p1), .val (.int p2), .val (.int p3), .val (.int p4), .val (.long q5), .second, .val (.int p6), .val (.int (5 : Int32)), .val (.int (2 : Int32)), .val (.int y9_34_5), .val (.ref b7), .val (.int y11_152_40), .val (.int y12_161_42), .val (.int y13_170_44), .val (.int y14_179_46), .val (.int y15_185_48), .val (.long y16_325_461), .second, .val (.long y16_325_461), .second] := ⟨_, rfl⟩
      refine Gl.st (B := (T459.setTop (mkF m 358 L463 [(.int y9_34_5), (.int (2 : Int32)), (.ref b7)]))) (fun t k => XS.lstore X459.here hx rfl (hb hby at_350) rfl (l' := L463) (stAt hL462 hL463 rfl rfl) (XS.aload X459.here hx rfl (hb hby at_352) (ldAt hL463 rfl) rfl (XS.iload X459.here hx rfl (hb hby at_354) (ldAt hL463 rfl) (XS.iload X459.here hx rfl (hb hby at_356) (ldAt hL463 rfl) k)))) ?_
      obtain ⟨cl465, Ar465, q465, S465, P465, H465, G465⟩ := (id V459)
      have hin40_1_466 : ¬ (((2 : Int32) + (0 : Int32)) < 0 ∨ cl465.slots.size ≤ (((2 : Int32) + (0 : Int32))).toNatClampNeg) := inb_of S465 ⟨by decide, by decide⟩
      have hin40_2_467 : ¬ (((2 : Int32) + (1 : Int32)) < 0 ∨ cl465.slots.size ≤ (((2 : Int32) + (1 : Int32))).toNatClampNeg) := inb_of S465 ⟨by decide, by decide⟩
      have hin40_3_468 : ¬ (((2 : Int32) + (2 : Int32)) < 0 ∨ cl465.slots.size ≤ (((2 : Int32) + (2 : Int32))).toNatClampNeg) := inb_of S465 ⟨by decide, by decide⟩
      have hin40_4_469 : ¬ (((2 : Int32) + (3 : Int32)) < 0 ∨ cl465.slots.size ≤ (((2 : Int32) + (3 : Int32))).toNatClampNeg) := inb_of S465 ⟨by decide, by decide⟩
      have hin40_5_470 : ¬ (((2 : Int32) + (4 : Int32)) < 0 ∨ cl465.slots.size ≤ (((2 : Int32) + (4 : Int32))).toNatClampNeg) := inb_of S465 ⟨by decide, by decide⟩
      have hp358_471 : ¬ ((((10 : Int32) ||| (2 : Int32)) ||| y9_34_5) < (0 : Int32)) := own_0_hp358_471 p4 y9_34_5 hy9_34_5 
      have hp358_472 : ¬ (((10 : Int32) - (2 : Int32)) < y9_34_5) := own_0_hp358_472 p4 y9_34_5 hy9_34_5 
      have hp358_473 : ¬ ((0 : Int32) = y9_34_5) := own_0_hp358_473 p4 y9_34_5 hy9_34_5 
      have hp358_474 : ¬ ((((nar .byte x209_446) &&& (255 : Int32))) < (128 : Int32)) := own_0_hp358_474 p1 y11_152_40 x209_446 hy11_152_40 hx209_446 
      have hp358_475 : ¬ ((1 : Int32) = y9_34_5) := own_0_hp358_475 p4 y9_34_5 hy9_34_5 
      have hp358_476 : ¬ ((((nar .byte x240_449) &&& (255 : Int32))) < (128 : Int32)) := own_0_hp358_476 p1 y12_161_42 x240_449 hy12_161_42 hx240_449 
      have hp358_477 : ¬ ((2 : Int32) = y9_34_5) := own_0_hp358_477 p4 y9_34_5 hy9_34_5 
      have hp358_478 : ¬ ((((nar .byte x271_452) &&& (255 : Int32))) < (128 : Int32)) := own_0_hp358_478 p1 y13_170_44 x271_452 hy13_170_44 hx271_452 
      have hp358_479 : ¬ ((3 : Int32) = y9_34_5) := own_0_hp358_479 p4 y9_34_5 hy9_34_5 
      have hp358_480 : ¬ ((((nar .byte x302_455) &&& (255 : Int32))) < (128 : Int32)) := own_0_hp358_480 p1 y14_179_46 x302_455 hy14_179_46 hx302_455 
      have hp358_481 : ¬ ((4 : Int32) = y9_34_5) := own_0_hp358_481 p4 y9_34_5 hy9_34_5 
      have hp358_482 : (((nar .byte x318_458) &&& (255 : Int32))) < (128 : Int32) := own_0_hp358_482 p1 y15_185_48 x318_458 hy15_185_48 hx318_458 
      have hp358_483 : ¬ ((4294967295 : Int64) < (((((((((((0 : Int64) ||| ((((((nar .byte x209_446) &&& (255 : Int32))) &&& (127 : Int32)).toInt64) <<< ((0 : Int32) &&& 0x3f).toInt64))) ||| ((((((nar .byte x240_449) &&& (255 : Int32))) &&& (127 : Int32)).toInt64) <<< ((7 : Int32) &&& 0x3f).toInt64))) ||| ((((((nar .byte x271_452) &&& (255 : Int32))) &&& (127 : Int32)).toInt64) <<< ((14 : Int32) &&& 0x3f).toInt64))) ||| ((((((nar .byte x302_455) &&& (255 : Int32))) &&& (127 : Int32)).toInt64) <<< ((21 : Int32) &&& 0x3f).toInt64))) ||| ((((((nar .byte x318_458) &&& (255 : Int32))) &&& (127 : Int32)).toInt64) <<< ((28 : Int32) &&& 0x3f).toInt64)))) := own_0_hp358_483 p1 y11_152_40 x209_446 y12_161_42 x240_449 y13_170_44 x271_452 y14_179_46 x302_455 y15_185_48 x318_458 hy11_152_40 hx209_446 hy12_161_42 hx240_449 hy13_170_44 hx271_452 hy14_179_46 hx302_455 hy15_185_48 hx318_458 
      obtain ⟨_, _, ⟨T464, L464q, k464, n464⟩, -, X464, ⟨Lc464, hQ464, l464, y464, z464⟩, st464⟩ := Jvm.LawKit.callS X459 hx (y := (⟨"com/example/requeue/requeue/connection/SnappyBlock", "uncompressedLength", "([BII)J"⟩ : MethodName)) hown (mvT hZ (tw hw 3 rfl)) (mvT hZ (tw hw 4 rfl)) (mvT hZ (tw hw 5 rfl)) (mvT hZ (tw hw 6 rfl)) (by decide) (backOf (W := 0) (rm1k5 l Z a0 hw [] b7 (2 : Int32) y9_34_5 cl465 (nar .byte x209_446) (nar .byte x240_449) (nar .byte x271_452) (nar .byte x302_455) (nar .byte x318_458) h459 n0 Zc460 Ar465 S465 P465 hp358_471 hp358_472 hp358_473 hin40_1_466 (Has.at H465 hin40_1_466 (v := (.int (nar .byte x209_446))) rfl) hp358_474 hp358_475 hin40_2_467 (Has.at H465 hin40_2_467 (v := (.int (nar .byte x240_449))) rfl) hp358_476 hp358_477 hin40_3_468 (Has.at H465 hin40_3_468 (v := (.int (nar .byte x271_452))) rfl) hp358_478 hp358_479 hin40_4_469 (Has.at H465 hin40_4_469 (v := (.int (nar .byte x302_455))) rfl) hp358_480 hp358_481 hin40_5_470 (Has.at H465 hin40_5_470 (v := (.int (nar .byte x318_458))) rfl) hp358_482 hp358_483) hZ (tw hw 6 rfl) (tw hw 5 rfl) (by decide) (by decide)) (g := (mkF m 358 L463 [(.int y9_34_5), (.int (2 : Int32)), (.ref b7)])) rfl (szAt hml hL463 rfl) (argsL := [(.ref b7), (.int (2 : Int32)), (.int y9_34_5)]) (rest := []) (lenOf pd_0_0 rfl) rfl (by show 2 * 0 + _ ≤ _; exact Nat.le_of_eq rfl) (hb hby at_358) (fun _ _ => ⟨rfl, e459, (by decide : 1 + 0 ≤ _), (by decide : 10 + 0 ≤ _)⟩)
      dsimp only [Pt.U, Pt.locs, Pt.cells, Pt.slots] at X464 l464 y464 z464 st464 hQ464
      subst l464 y464 z464
      obtain ⟨rfl, N464q, eh464⟩ := hQ464
      have N464 := Fr.app N459 N464q
      refine Gl.st (B := (T464.setTop (mkF m 361 L463 [(.long (((((((((((0 : Int64) ||| ((((((nar .byte x209_446) &&& (255 : Int32))) &&& (127 : Int32)).toInt64) <<< ((0 : Int32) &&& 0x3f).toInt64))) ||| ((((((nar .byte x240_449) &&& (255 : Int32))) &&& (127 : Int32)).toInt64) <<< ((7 : Int32) &&& 0x3f).toInt64))) ||| ((((((nar .byte x271_452) &&& (255 : Int32))) &&& (127 : Int32)).toInt64) <<< ((14 : Int32) &&& 0x3f).toInt64))) ||| ((((((nar .byte x302_455) &&& (255 : Int32))) &&& (127 : Int32)).toInt64) <<< ((21 : Int32) &&& 0x3f).toInt64))) ||| ((((((nar .byte x318_458) &&& (255 : Int32))) &&& (127 : Int32)).toInt64) <<< ((28 : Int32) &&& 0x3f).toInt64))))]))) (fun t k => st464 t k) ?_
      obtain ⟨r358_484, hr358_484⟩ : ∃ z : Int64, z = (((((((((((0 : Int64) ||| ((((((nar .byte x209_446) &&& (255 : Int32))) &&& (127 : Int32)).toInt64) <<< ((0 : Int32) &&& 0x3f).toInt64))) ||| ((((((nar .byte x240_449) &&& (255 : Int32))) &&& (127 : Int32)).toInt64) <<< ((7 : Int32) &&& 0x3f).toInt64))) ||| ((((((nar .byte x271_452) &&& (255 : Int32))) &&& (127 : Int32)).toInt64) <<< ((14 : Int32) &&& 0x3f).toInt64))) ||| ((((((nar .byte x302_455) &&& (255 : Int32))) &&& (127 : Int32)).toInt64) <<< ((21 : Int32) &&& 0x3f).toInt64))) ||| ((((((nar .byte x318_458) &&& (255 : Int32))) &&& (127 : Int32)).toInt64) <<< ((28 : Int32) &&& 0x3f).toInt64))) := ⟨_, rfl⟩
      refine Gl.cast (B := (T464.setTop (mkF m 361 L463 [(.long r358_484)]))) (by rw [hr358_484]) ?_
      refine Gl.st (B := (T464.setTop (mkF m 364 L463 [(.int (lcmpW r358_484 y16_325_461))]))) (fun t k => XS.lload X464.here hx rfl (hb hby at_361) (ldAt hL463 rfl) (XS.lcmp X464.here hx rfl (hb hby at_363) rfl k)) ?_
      have hc364_485 : r358_484 = y16_325_461 := own_0_hc364_485 p1 y11_152_40 x209_446 y12_161_42 x240_449 y13_170_44 x271_452 y14_179_46 x302_455 y15_185_48 x318_458 r358_484 y16_325_461 hy11_152_40 hx209_446 hy12_161_42 hx240_449 hy13_170_44 hx271_452 hy14_179_46 hx302_455 hy15_185_48 hx318_458 hr358_484 hy16_325_461 
      refine Gl.st (B := (T464.setTop (mkF m 372 L463 [(.int (1 : Int32))]))) (fun t k => XS.ifNo X464.here hx rfl (hb hby at_364) rfl ((if0 _ _).trans (teq ((lw_eq r358_484 y16_325_461).mpr hc364_485)).2) (XS.iconst X464.here hx rfl (hb hby at_367) (XS.goto X464.here hx rfl (pc0 := 368) (pc' := 372) rfl (hb hby at_368) (by decide) (by decide) k))) ?_
      obtain ⟨fs, hr, hrun, hended, hW, hsame⟩ := X464.leave (v := some (.int (nar .boolean (1 : Int32)))) (fun h => by rw [Bd.returns] at h; cases h)
      refine Gl.fin (retN X464 hx (t := .boolean) Bd.returns (by simp) (hb hby at_372) hr) hrun hended ⟨_, _, rfl, ?_, ⟨_, rfl⟩, hW, hsame.mono (by decide) (by decide)⟩
      show Q0 Z p1 p2 p3 p4 q5 p6 h0 n0 _ T464.heap _
      rw [eh464]
      exact ⟨rfl, N464⟩
  · skip
    subst hk
    have hs486 : y7_8_1 = (1 : Int32) ∨ y7_8_1 = (2 : Int32) ∨ y7_8_1 = (3 : Int32) ∨ y7_8_1 = (4 : Int32) ∨ y7_8_1 = (5 : Int32) := by
      exact own_k _ _ hy7_8_1
    rcases hs486 with hk | hk | hk | hk | hk
    · skip
      subst hk
      refine Gl.st (B := (T38.setTop (mkF m 208 L49 [(.int y11_152_40), (.int (3 : Int32)), (.ref b7)]))) (fun t k => XS.aload X38.here hx rfl (hb hby at_187) (ldAt hL49 rfl) rfl (XS.iload X38.here hx rfl (hb hby at_189) (ldAt hL49 rfl) (XS.iload X38.here hx rfl (hb hby at_191) (ldAt hL49 rfl) (XS.iconst X38.here hx rfl (hb hby at_193) (XS.icmpYes X38.here hx rfl (pc0 := 194) (pc' := 206) rfl (hb hby at_194) rfl (by decide) (by decide) (by decide) (XS.iload X38.here hx rfl (hb hby at_206) (ldAt hL49 rfl) k)))))) ?_
      refine Gl.st (B := (T38.setTop (mkF m 209 L49 [(.int (y11_152_40.toInt8.toInt32)), (.int (3 : Int32)), (.ref b7)]))) (fun t k => XS.i2b X38.here hx rfl (hb hby at_208) rfl k) ?_
      obtain ⟨x209_487, hx209_487⟩ : ∃ z : Int32, z = (y11_152_40.toInt8.toInt32) := ⟨_, rfl⟩
      refine Gl.cast (B := (T38.setTop (mkF m 209 L49 [(.int x209_487), (.int (3 : Int32)), (.ref b7)]))) (by rw [hx209_487]) ?_
      obtain ⟨cl488, Ar488, q488, S488, P488, H488, G488⟩ := (id V38)
      have hin209_488 : ¬ ((3 : Int32) < 0 ∨ cl488.slots.size ≤ ((3 : Int32)).toNatClampNeg) := inb_of S488 ⟨by decide, by decide⟩
      obtain ⟨T488, h488, X488, e488, W488, st488⟩ := stB X38 hx hZ e38 Ar488 (j := (3 : Int32)) hin209_488 (g := (mkF m 209 L49 [(.int x209_487), (.int (3 : Int32)), (.ref b7)])) rfl rfl (hb hby at_209)
      have V488 : Arv Z h488 b7 k7 .byte (10 : Int32) [(.int (nar .byte x49_10)), (.int (nar .byte x60_13)), (.int (nar .byte x71_16)), (.int (nar .byte x209_487)), (.int (nar .byte x93_22)), (.int (nar .byte x104_25)), (.int (nar .byte x116_28)), (.int (nar .byte x128_31)), (.int (nar .byte x136_34)), (.int (nar .byte x147_37))] (.int (0 : Int32)) := Arv.set Ar488 q488 S488 P488 H488 G488 (fits_nar_byte _) W488 3 rfl (Nat.le_of_ble_eq_true rfl)
      have Zc489 : n0 ≤ h488.size := Nat.le_trans Zc39 (Nat.le_of_eq W488.size.symm)
      have N488 := Fr.snoc X488 N38 g_b7
      refine Gl.st (B := (T488.setTop (mkF m 210 L49 []))) st488 ?_
      refine Gl.st (B := (T488.setTop (mkF m 272 L49 []))) (fun t k => XS.iload X488.here hx rfl (hb hby at_210) (ldAt hL49 rfl) (XS.iconst X488.here hx rfl (hb hby at_212) (XS.icmpYes X488.here hx rfl (pc0 := 213) (pc' := 241) rfl (hb hby at_213) rfl (by decide) (by decide) (by decide) (XS.iload X488.here hx rfl (hb hby at_241) (ldAt hL49 rfl) (XS.iconst X488.here hx rfl (hb hby at_243) (XS.icmpYes X488.here hx rfl (pc0 := 244) (pc' := 272) rfl (hb hby at_244) rfl (by decide) (by decide) (by decide) k)))))) ?_
      refine Gl.st (B := (T488.setTop (mkF m 319 L49 []))) (fun t k => XS.iload X488.here hx rfl (hb hby at_272) (ldAt hL49 rfl) (XS.iconst X488.here hx rfl (hb hby at_274) (XS.icmpYes X488.here hx rfl (pc0 := 275) (pc' := 303) rfl (hb hby at_275) rfl (by decide) (by decide) (by decide) (XS.iload X488.here hx rfl (hb hby at_303) (ldAt hL49 rfl) (XS.iconst X488.here hx rfl (hb hby at_305) (XS.icmpYes X488.here hx rfl (pc0 := 306) (pc' := 319) rfl (hb hby at_306) rfl (by decide) (by decide) (by decide) k)))))) ?_
      refine Gl.st (B := (T488.setTop (mkF m 325 L49 [(.long ((p1.toInt64) &&& (4294967295 : Int64)))]))) (fun t k => XS.iloadN X488.here hx rfl (hb hby at_319) (ldAt hL49 rfl) (XS.i2l X488.here hx rfl (hb hby at_320) rfl (X488.ldc2Long hx hown (mvT hZ (tw hw 2 rfl)) (g := (mkF m 321 L49 [(.long (p1.toInt64))])) rfl (hb hby at_321) _ (XS.land X488.here hx rfl (hb hby at_324) rfl k)))) ?_
      obtain ⟨y16_325_490, hy16_325_490⟩ : ∃ z : Int64, z = ((p1.toInt64) &&& (4294967295 : Int64)) := ⟨_, rfl⟩
      refine Gl.cast (B := (T488.setTop (mkF m 325 L49 [(.long y16_325_490)]))) (by rw [hy16_325_490]) ?_
      obtain ⟨L491, hL491⟩ : ∃ z : Array Slot, z = #[.val (.int p1), .val (.int p2), .val (.int p3), .val (.int p4), .val (.long q5), .second, .val (.int p6), .val (.int (1 : Int32)), .val (.int (3 : Int32)), .val (.int y9_34_5), .val (.ref b7), .val (.int y11_152_40), .val (.int y12_161_42), .val (.int y13_170_44), .val (.int y14_179_46), .val (.int y15_185_48), .val (.long y16_325_490), .second, .unset, .unset] := ⟨_, rfl⟩
      refine Gl.st (B := (T488.setTop (mkF m 341 L491 [(.long (1 : Int64)), (.long y16_325_490)]))) (fun t k => XS.lstore X488.here hx rfl (hb hby at_325) rfl (l' := L491) (stAt hL49 hL491 rfl rfl) (XS.iload X488.here hx rfl (hb hby at_327) (ldAt hL491 rfl) (XS.iconst X488.here hx rfl (hb hby at_329) (XS.icmpYes X488.here hx rfl (pc0 := 330) (pc' := 338) rfl (hb hby at_330) rfl (by decide) (by decide) (by decide) (XS.lload X488.here hx rfl (hb hby at_338) (ldAt hL491 rfl) (XS.lconst X488.here hx rfl (hb hby at_340) k)))))) ?_
      refine Gl.st (B := (T488.setTop (mkF m 349 L491 [(.long (((1 : Int64) <<< ((7 : Int32) &&& 0x3f).toInt64) - (1 : Int64))), (.long y16_325_490)]))) (fun t k => XS.bipush X488.here hx rfl (hb hby at_341) (XS.iload X488.here hx rfl (hb hby at_343) (ldAt hL491 rfl) (XS.imul X488.here hx rfl (hb hby at_345) rfl (XS.lshl X488.here hx rfl (hb hby at_346) rfl (XS.lconst X488.here hx rfl (hb hby at_347) (XS.lsub X488.here hx rfl (hb hby at_348) rfl k)))))) ?_
      refine Gl.st (B := (T488.setTop (mkF m 350 L491 [(.long (y16_325_490 &&& (((1 : Int64) <<< ((7 : Int32) &&& 0x3f).toInt64) - (1 : Int64))))]))) (fun t k => XS.land X488.here hx rfl (hb hby at_349) rfl k) ?_
      obtain ⟨y18_350_492, hy18_350_492⟩ : ∃ z : Int64, z = (y16_325_490 &&& (((1 : Int64) <<< ((7 : Int32) &&& 0x3f).toInt64) - (1 : Int64))) := ⟨_, rfl⟩
      refine Gl.cast (B := (T488.setTop (mkF m 350 L491 [(.long y18_350_492)]))) (by rw [hy18_350_492]) ?_
      obtain ⟨L493, hL493⟩ : ∃ z : Array Slot, z = #[.val (.int p1), .val (.int p2), .val (.int p3), .val (.int p4), .val (.long q5), .second, .val (.int p6), .val (.int (1 : Int32)), .val (.int (3 : Int32)), .val (.int y9_34_5), .val (.ref b7), .val (.int y11_152_40), .val (.int y12_161_42), .val (.int y13_170_44), .val (.int y14_179_46), .val (.int y15_185_48), .val (.long y16_325_490), .second, .val (.long y18_350_492), .second] := ⟨_, rfl⟩
      refine Gl.st (B := (T488.setTop (mkF m 358 L493 [(.int y9_34_5), (.int (3 : Int32)), (.ref b7)]))) (fun t k => XS.lstore X488.here hx rfl (hb hby at_350) rfl (l' := L493) (stAt hL491 hL493 rfl rfl) (XS.aload X488.here hx rfl (hb hby at_352) (ldAt hL493 rfl) rfl (XS.iload X488.here hx rfl (hb hby at_354) (ldAt hL493 rfl) (XS.iload X488.here hx rfl (hb hby at_356) (ldAt hL493 rfl) k)))) ?_
      obtain ⟨cl495, Ar495, q495, S495, P495, H495, G495⟩ := (id V488)
      have hin40_1_496 : ¬ (((3 : Int32) + (0 : Int32)) < 0 ∨ cl495.slots.size ≤ (((3 : Int32) + (0 : Int32))).toNatClampNeg) := inb_of S495 ⟨by decide, by decide⟩
      have hp358_497 : ¬ ((((10 : Int32) ||| (3 : Int32)) ||| y9_34_5) < (0 : Int32)) := own_0_hp358_497 p4 y9_34_5 hy9_34_5 
      have hp358_498 : ¬ (((10 : Int32) - (3 : Int32)) < y9_34_5) := own_0_hp358_498 p4 y9_34_5 hy9_34_5 
      have hp358_499 : ¬ ((0 : Int32) = y9_34_5) := own_0_hp358_499 p4 y9_34_5 hy9_34_5 
      have hp358_500 : (((nar .byte x209_487) &&& (255 : Int32))) < (128 : Int32) := own_0_hp358_500 p1 y11_152_40 x209_487 hy11_152_40 hx209_487 
      have hp358_501 : ¬ ((4294967295 : Int64) < (((0 : Int64) ||| ((((((nar .byte x209_487) &&& (255 : Int32))) &&& (127 : Int32)).toInt64) <<< ((0 : Int32) &&& 0x3f).toInt64)))) := own_0_hp358_501 p1 y11_152_40 x209_487 hy11_152_40 hx209_487 
      obtain ⟨_, _, ⟨T494, L494q, k494, n494⟩, -, X494, ⟨Lc494, hQ494, l494, y494, z494⟩, st494⟩ := Jvm.LawKit.callS X488 hx (y := (⟨"com/example/requeue/requeue/connection/SnappyBlock", "uncompressedLength", "([BII)J"⟩ : MethodName)) hown (mvT hZ (tw hw 3 rfl)) (mvT hZ (tw hw 4 rfl)) (mvT hZ (tw hw 5 rfl)) (mvT hZ (tw hw 6 rfl)) (by decide) (backOf (W := 0) (rm1k1 l Z a0 hw [] b7 (3 : Int32) y9_34_5 cl495 (nar .byte x209_487) h488 n0 Zc489 Ar495 S495 P495 hp358_497 hp358_498 hp358_499 hin40_1_496 (Has.at H495 hin40_1_496 (v := (.int (nar .byte x209_487))) rfl) hp358_500 hp358_501) hZ (tw hw 6 rfl) (tw hw 5 rfl) (by decide) (by decide)) (g := (mkF m 358 L493 [(.int y9_34_5), (.int (3 : Int32)), (.ref b7)])) rfl (szAt hml hL493 rfl) (argsL := [(.ref b7), (.int (3 : Int32)), (.int y9_34_5)]) (rest := []) (lenOf pd_0_0 rfl) rfl (by show 2 * 0 + _ ≤ _; exact Nat.le_of_eq rfl) (hb hby at_358) (fun _ _ => ⟨rfl, e488, (by decide : 1 + 0 ≤ _), (by decide : 10 + 0 ≤ _)⟩)
      dsimp only [Pt.U, Pt.locs, Pt.cells, Pt.slots] at X494 l494 y494 z494 st494 hQ494
      subst l494 y494 z494
      obtain ⟨rfl, N494q, eh494⟩ := hQ494
      have N494 := Fr.app N488 N494q
      refine Gl.st (B := (T494.setTop (mkF m 361 L493 [(.long (((0 : Int64) ||| ((((((nar .byte x209_487) &&& (255 : Int32))) &&& (127 : Int32)).toInt64) <<< ((0 : Int32) &&& 0x3f).toInt64))))]))) (fun t k => st494 t k) ?_
      obtain ⟨r358_502, hr358_502⟩ : ∃ z : Int64, z = (((0 : Int64) ||| ((((((nar .byte x209_487) &&& (255 : Int32))) &&& (127 : Int32)).toInt64) <<< ((0 : Int32) &&& 0x3f).toInt64))) := ⟨_, rfl⟩
      refine Gl.cast (B := (T494.setTop (mkF m 361 L493 [(.long r358_502)]))) (by rw [hr358_502]) ?_
      refine Gl.st (B := (T494.setTop (mkF m 364 L493 [(.int (lcmpW r358_502 y18_350_492))]))) (fun t k => XS.lload X494.here hx rfl (hb hby at_361) (ldAt hL493 rfl) (XS.lcmp X494.here hx rfl (hb hby at_363) rfl k)) ?_
      have hc364_503 : r358_502 = y18_350_492 := own_0_hc364_503 p1 y11_152_40 x209_487 r358_502 y16_325_490 y18_350_492 hy11_152_40 hx209_487 hr358_502 hy16_325_490 hy18_350_492 
      refine Gl.st (B := (T494.setTop (mkF m 372 L493 [(.int (1 : Int32))]))) (fun t k => XS.ifNo X494.here hx rfl (hb hby at_364) rfl ((if0 _ _).trans (teq ((lw_eq r358_502 y18_350_492).mpr hc364_503)).2) (XS.iconst X494.here hx rfl (hb hby at_367) (XS.goto X494.here hx rfl (pc0 := 368) (pc' := 372) rfl (hb hby at_368) (by decide) (by decide) k))) ?_
      obtain ⟨fs, hr, hrun, hended, hW, hsame⟩ := X494.leave (v := some (.int (nar .boolean (1 : Int32)))) (fun h => by rw [Bd.returns] at h; cases h)
      refine Gl.fin (retN X494 hx (t := .boolean) Bd.returns (by simp) (hb hby at_372) hr) hrun hended ⟨_, _, rfl, ?_, ⟨_, rfl⟩, hW, hsame.mono (by decide) (by decide)⟩
      show Q0 Z p1 p2 p3 p4 q5 p6 h0 n0 _ T494.heap _
      rw [eh494]
      exact ⟨rfl, N494⟩
    · skip
      subst hk
      refine Gl.st (B := (T38.setTop (mkF m 199 L49 [(.int y11_152_40), (.int (3 : Int32)), (.ref b7)]))) (fun t k => XS.aload X38.here hx rfl (hb hby at_187) (ldAt hL49 rfl) rfl (XS.iload X38.here hx rfl (hb hby at_189) (ldAt hL49 rfl) (XS.iload X38.here hx rfl (hb hby at_191) (ldAt hL49 rfl) (XS.iconst X38.here hx rfl (hb hby at_193) (XS.icmpNo X38.here hx rfl (hb hby at_194) rfl (by decide) (XS.iload X38.here hx rfl (hb hby at_197) (ldAt hL49 rfl) k)))))) ?_
      refine Gl.st (B := (T38.setTop (mkF m 209 L49 [(.int ((y11_152_40 ||| (128 : Int32)).toInt8.toInt32)), (.int (3 : Int32)), (.ref b7)]))) (fun t k => XS.sipush X38.here hx rfl (hb hby at_199) (XS.ior X38.here hx rfl (hb hby at_202) rfl (XS.goto X38.here hx rfl (pc0 := 203) (pc' := 208) rfl (hb hby at_203) (by decide) (by decide) (XS.i2b X38.here hx rfl (hb hby at_208) rfl k)))) ?_
      obtain ⟨x209_504, hx209_504⟩ : ∃ z : Int32, z = ((y11_152_40 ||| (128 : Int32)).toInt8.toInt32) := ⟨_, rfl⟩
      refine Gl.cast (B := (T38.setTop (mkF m 209 L49 [(.int x209_504), (.int (3 : Int32)), (.ref b7)]))) (by rw [hx209_504]) ?_
      obtain ⟨cl505, Ar505, q505, S505, P505, H505, G505⟩ := (id V38)
      have hin209_505 : ¬ ((3 : Int32) < 0 ∨ cl505.slots.size ≤ ((3 : Int32)).toNatClampNeg) := inb_of S505 ⟨by decide, by decide⟩
      obtain ⟨T505, h505, X505, e505, W505, st505⟩ := stB X38 hx hZ e38 Ar505 (j := (3 : Int32)) hin209_505 (g := (mkF m 209 L49 [(.int x209_504), (.int (3 : Int32)), (.ref b7)])) rfl rfl (hb hby at_209)
      have V505 : Arv Z h505 b7 k7 .byte (10 : Int32) [(.int (nar .byte x49_10)), (.int (nar .byte x60_13)), (.int (nar .byte x71_16)), (.int (nar .byte x209_504)), (.int (nar .byte x93_22)), (.int (nar .byte x104_25)), (.int (nar .byte x116_28)), (.int (nar .byte x128_31)), (.int (nar .byte x136_34)), (.int (nar .byte x147_37))] (.int (0 : Int32)) := Arv.set Ar505 q505 S505 P505 H505 G505 (fits_nar_byte _) W505 3 rfl (Nat.le_of_ble_eq_true rfl)
      have Zc506 : n0 ≤ h505.size := Nat.le_trans Zc39 (Nat.le_of_eq W505.size.symm)
      have N505 := Fr.snoc X505 N38 g_b7
      refine Gl.st (B := (T505.setTop (mkF m 210 L49 []))) st505 ?_
      refine Gl.st (B := (T505.setTop (mkF m 221 L49 [(.int (1 : Int32)), (.int (3 : Int32)), (.ref b7)]))) (fun t k => XS.iload X505.here hx rfl (hb hby at_210) (ldAt hL49 rfl) (XS.iconst X505.here hx rfl (hb hby at_212) (XS.icmpNo X505.here hx rfl (hb hby at_213) rfl (by decide) (XS.aload X505.here hx rfl (hb hby at_216) (ldAt hL49 rfl) rfl (XS.iload X505.here hx rfl (hb hby at_218) (ldAt hL49 rfl) (XS.iconst X505.here hx rfl (hb hby at_220) k)))))) ?_
      refine Gl.st (B := (T505.setTop (mkF m 240 L49 [(.int (y12_161_42.toInt8.toInt32)), (.int (4 : Int32)), (.ref b7)]))) (fun t k => XS.iadd X505.here hx rfl (hb hby at_221) rfl (XS.iload X505.here hx rfl (hb hby at_222) (ldAt hL49 rfl) (XS.iconst X505.here hx rfl (hb hby at_224) (XS.icmpYes X505.here hx rfl (pc0 := 225) (pc' := 237) rfl (hb hby at_225) rfl (by decide) (by decide) (by decide) (XS.iload X505.here hx rfl (hb hby at_237) (ldAt hL49 rfl) (XS.i2b X505.here hx rfl (hb hby at_239) rfl k)))))) ?_
      obtain ⟨x240_507, hx240_507⟩ : ∃ z : Int32, z = (y12_161_42.toInt8.toInt32) := ⟨_, rfl⟩
      refine Gl.cast (B := (T505.setTop (mkF m 240 L49 [(.int x240_507), (.int (4 : Int32)), (.ref b7)]))) (by rw [hx240_507]) ?_
      obtain ⟨cl508, Ar508, q508, S508, P508, H508, G508⟩ := (id V505)
      have hin240_508 : ¬ ((4 : Int32) < 0 ∨ cl508.slots.size ≤ ((4 : Int32)).toNatClampNeg) := inb_of S508 ⟨by decide, by decide⟩
      obtain ⟨T508, h508, X508, e508, W508, st508⟩ := stB X505 hx hZ e505 Ar508 (j := (4 : Int32)) hin240_508 (g := (mkF m 240 L49 [(.int x240_507), (.int (4 : Int32)), (.ref b7)])) rfl rfl (hb hby at_240)
      have V508 : Arv Z h508 b7 k7 .byte (10 : Int32) [(.int (nar .byte x49_10)), (.int (nar .byte x60_13)), (.int (nar .byte x71_16)), (.int (nar .byte x209_504)), (.int (nar .byte x240_507)), (.int (nar .byte x104_25)), (.int (nar .byte x116_28)), (.int (nar .byte x128_31)), (.int (nar .byte x136_34)), (.int (nar .byte x147_37))] (.int (0 : Int32)) := Arv.set Ar508 q508 S508 P508 H508 G508 (fits_nar_byte _) W508 4 rfl (Nat.le_of_ble_eq_true rfl)
      have Zc509 : n0 ≤ h508.size := Nat.le_trans Zc506 (Nat.le_of_eq W508.size.symm)
      have N508 := Fr.snoc X508 N505 g_b7
      refine Gl.st (B := (T508.setTop (mkF m 241 L49 []))) st508 ?_
      refine Gl.st (B := (T508.setTop (mkF m 303 L49 []))) (fun t k => XS.iload X508.here hx rfl (hb hby at_241) (ldAt hL49 rfl) (XS.iconst X508.here hx rfl (hb hby at_243) (XS.icmpYes X508.here hx rfl (pc0 := 244) (pc' := 272) rfl (hb hby at_244) rfl (by decide) (by decide) (by decide) (XS.iload X508.here hx rfl (hb hby at_272) (ldAt hL49 rfl) (XS.iconst X508.here hx rfl (hb hby at_274) (XS.icmpYes X508.here hx rfl (pc0 := 275) (pc' := 303) rfl (hb hby at_275) rfl (by decide) (by decide) (by decide) k)))))) ?_
      refine Gl.st (B := (T508.setTop (mkF m 324 L49 [(.long (4294967295 : Int64)), (.long (p1.toInt64))]))) (fun t k => XS.iload X508.here hx rfl (hb hby at_303) (ldAt hL49 rfl) (XS.iconst X508.here hx rfl (hb hby at_305) (XS.icmpYes X508.here hx rfl (pc0 := 306) (pc' := 319) rfl (hb hby at_306) rfl (by decide) (by decide) (by decide) (XS.iloadN X508.here hx rfl (hb hby at_319) (ldAt hL49 rfl) (XS.i2l X508.here hx rfl (hb hby at_320) rfl (X508.ldc2Long hx hown (mvT hZ (tw hw 2 rfl)) (g := (mkF m 321 L49 [(.long (p1.toInt64))])) rfl (hb hby at_321) _ k)))))) ?_
      refine Gl.st (B := (T508.setTop (mkF m 325 L49 [(.long ((p1.toInt64) &&& (4294967295 : Int64)))]))) (fun t k => XS.land X508.here hx rfl (hb hby at_324) rfl k) ?_
      obtain ⟨y16_325_510, hy16_325_510⟩ : ∃ z : Int64, z = ((p1.toInt64) &&& (4294967295 : Int64)) := ⟨_, rfl⟩
      refine Gl.cast (B := (T508.setTop (mkF m 325 L49 [(.long y16_325_510)]))) (by rw [hy16_325_510]) ?_
      obtain ⟨L511, hL511⟩ : ∃ z : Array Slot, z = #[.val (.int p1), .val (.int p2), .val (.int p3), .val (.int p4), .val (.long q5), .second, .val (.int p6), .val (.int (2 : Int32)), .val (.int (3 : Int32)), .val (.int y9_34_5), .val (.ref b7), .val (.int y11_152_40), .val (.int y12_161_42), .val (.int y13_170_44), .val (.int y14_179_46), .val (.int y15_185_48), .val (.long y16_325_510), .second, .unset, .unset] := ⟨_, rfl⟩
      refine Gl.st (B := (T508.setTop (mkF m 341 L511 [(.long (1 : Int64)), (.long y16_325_510)]))) (fun t k => XS.lstore X508.here hx rfl (hb hby at_325) rfl (l' := L511) (stAt hL49 hL511 rfl rfl) (XS.iload X508.here hx rfl (hb hby at_327) (ldAt hL511 rfl) (XS.iconst X508.here hx rfl (hb hby at_329) (XS.icmpYes X508.here hx rfl (pc0 := 330) (pc' := 338) rfl (hb hby at_330) rfl (by decide) (by decide) (by decide) (XS.lload X508.here hx rfl (hb hby at_338) (ldAt hL511 rfl) (XS.lconst X508.here hx rfl (hb hby at_340) k)))))) ?_
      refine Gl.st (B := (T508.setTop (mkF m 349 L511 [(.long (((1 : Int64) <<< ((14 : Int32) &&& 0x3f).toInt64) - (1 : Int64))), (.long y16_325_510)]))) (fun t k => XS.bipush X508.here hx rfl (hb hby at_341) (XS.iload X508.here hx rfl (hb hby at_343) (ldAt hL511 rfl) (XS.imul X508.here hx rfl (hb hby at_345) rfl (XS.lshl X508.here hx rfl (hb hby at_346) rfl (XS.lconst X508.here hx rfl (hb hby at_347) (XS.lsub X508.here hx rfl (hb hby at_348) rfl k)))))) ?_
      refine Gl.st (B := (T508.setTop (mkF m 350 L511 [(.long (y16_325_510 &&& (((1 : Int64) <<< ((14 : Int32) &&& 0x3f).toInt64) - (1 : Int64))))]))) (fun t k => XS.land X508.here hx rfl (hb hby at_349) rfl k) ?_
      obtain ⟨y18_350_512, hy18_350_512⟩ : ∃ z : Int64, z = (y16_325_510 &&& (((1 : Int64) <<< ((14 : Int32) &&& 0x3f).toInt64) - (1 : Int64))) := ⟨_, rfl⟩
      refine Gl.cast (B := (T508.setTop (mkF m 350 L511 [(.long y18_350_512)]))) (by rw [hy18_350_512]) ?_
      obtain ⟨L513, hL513⟩ : ∃ z : Array Slot, z = #[.val (.int p1), .val (.int p2), .val (.int p3), .val (.int p4), .val (.long q5), .second, .val (.int p6), .val (.int (2 : Int32)), .val (.int (3 : Int32)), .val (.int y9_34_5), .val (.ref b7), .val (.int y11_152_40), .val (.int y12_161_42), .val (.int y13_170_44), .val (.int y14_179_46), .val (.int y15_185_48), .val (.long y16_325_510), .second, .val (.long y18_350_512), .second] := ⟨_, rfl⟩
      refine Gl.st (B := (T508.setTop (mkF m 358 L513 [(.int y9_34_5), (.int (3 : Int32)), (.ref b7)]))) (fun t k => XS.lstore X508.here hx rfl (hb hby at_350) rfl (l' := L513) (stAt hL511 hL513 rfl rfl) (XS.aload X508.here hx rfl (hb hby at_352) (ldAt hL513 rfl) rfl (XS.iload X508.here hx rfl (hb hby at_354) (ldAt hL513 rfl) (XS.iload X508.here hx rfl (hb hby at_356) (ldAt hL513 rfl) k)))) ?_
      obtain ⟨cl515, Ar515, q515, S515, P515, H515, G515⟩ := (id V508)
      have hin40_1_516 : ¬ (((3 : Int32) + (0 : Int32)) < 0 ∨ cl515.slots.size ≤ (((3 : Int32) + (0 : Int32))).toNatClampNeg) := inb_of S515 ⟨by decide, by decide⟩
      have hin40_2_517 : ¬ (((3 : Int32) + (1 : Int32)) < 0 ∨ cl515.slots.size ≤ (((3 : Int32) + (1 : Int32))).toNatClampNeg) := inb_of S515 ⟨by decide, by decide⟩
      have hp358_518 : ¬ ((((10 : Int32) ||| (3 : Int32)) ||| y9_34_5) < (0 : Int32)) := own_0_hp358_518 p4 y9_34_5 hy9_34_5 
      have hp358_519 : ¬ (((10 : Int32) - (3 : Int32)) < y9_34_5) := own_0_hp358_519 p4 y9_34_5 hy9_34_5 
      have hp358_520 : ¬ ((0 : Int32) = y9_34_5) := own_0_hp358_520 p4 y9_34_5 hy9_34_5 
      have hp358_521 : ¬ ((((nar .byte x209_504) &&& (255 : Int32))) < (128 : Int32)) := own_0_hp358_521 p1 y11_152_40 x209_504 hy11_152_40 hx209_504 
      have hp358_522 : ¬ ((1 : Int32) = y9_34_5) := own_0_hp358_522 p4 y9_34_5 hy9_34_5 
      have hp358_523 : (((nar .byte x240_507) &&& (255 : Int32))) < (128 : Int32) := own_0_hp358_523 p1 y12_161_42 x240_507 hy12_161_42 hx240_507 
      have hp358_524 : ¬ ((4294967295 : Int64) < (((((0 : Int64) ||| ((((((nar .byte x209_504) &&& (255 : Int32))) &&& (127 : Int32)).toInt64) <<< ((0 : Int32) &&& 0x3f).toInt64))) ||| ((((((nar .byte x240_507) &&& (255 : Int32))) &&& (127 : Int32)).toInt64) <<< ((7 : Int32) &&& 0x3f).toInt64)))) := own_0_hp358_524 p1 y11_152_40 x209_504 y12_161_42 x240_507 hy11_152_40 hx209_504 hy12_161_42 hx240_507 
      obtain ⟨_, _, ⟨T514, L514q, k514, n514⟩, -, X514, ⟨Lc514, hQ514, l514, y514, z514⟩, st514⟩ := Jvm.LawKit.callS X508 hx (y := (⟨"com/example/requeue/requeue/connection/SnappyBlock", "uncompressedLength", "([BII)J"⟩ : MethodName)) hown (mvT hZ (tw hw 3 rfl)) (mvT hZ (tw hw 4 rfl)) (mvT hZ (tw hw 5 rfl)) (mvT hZ (tw hw 6 rfl)) (by decide) (backOf (W := 0) (rm1k2 l Z a0 hw [] b7 (3 : Int32) y9_34_5 cl515 (nar .byte x209_504) (nar .byte x240_507) h508 n0 Zc509 Ar515 S515 P515 hp358_518 hp358_519 hp358_520 hin40_1_516 (Has.at H515 hin40_1_516 (v := (.int (nar .byte x209_504))) rfl) hp358_521 hp358_522 hin40_2_517 (Has.at H515 hin40_2_517 (v := (.int (nar .byte x240_507))) rfl) hp358_523 hp358_524) hZ (tw hw 6 rfl) (tw hw 5 rfl) (by decide) (by decide)) (g := (mkF m 358 L513 [(.int y9_34_5), (.int (3 : Int32)), (.ref b7)])) rfl (szAt hml hL513 rfl) (argsL := [(.ref b7), (.int (3 : Int32)), (.int y9_34_5)]) (rest := []) (lenOf pd_0_0 rfl) rfl (by show 2 * 0 + _ ≤ _; exact Nat.le_of_eq rfl) (hb hby at_358) (fun _ _ => ⟨rfl, e508, (by decide : 1 + 0 ≤ _), (by decide : 10 + 0 ≤ _)⟩)
      dsimp only [Pt.U, Pt.locs, Pt.cells, Pt.slots] at X514 l514 y514 z514 st514 hQ514
      subst l514 y514 z514
      obtain ⟨rfl, N514q, eh514⟩ := hQ514
      have N514 := Fr.app N508 N514q
      refine Gl.st (B := (T514.setTop (mkF m 361 L513 [(.long (((((0 : Int64) ||| ((((((nar .byte x209_504) &&& (255 : Int32))) &&& (127 : Int32)).toInt64) <<< ((0 : Int32) &&& 0x3f).toInt64))) ||| ((((((nar .byte x240_507) &&& (255 : Int32))) &&& (127 : Int32)).toInt64) <<< ((7 : Int32) &&& 0x3f).toInt64))))]))) (fun t k => st514 t k) ?_
      obtain ⟨r358_525, hr358_525⟩ : ∃ z : Int64, z = (((((0 : Int64) ||| ((((((nar .byte x209_504) &&& (255 : Int32))) &&& (127 : Int32)).toInt64) <<< ((0 : Int32) &&& 0x3f).toInt64))) ||| ((((((nar .byte x240_507) &&& (255 : Int32))) &&& (127 : Int32)).toInt64) <<< ((7 : Int32) &&& 0x3f).toInt64))) := ⟨_, rfl⟩
      refine Gl.cast (B := (T514.setTop (mkF m 361 L513 [(.long r358_525)]))) (by rw [hr358_525]) ?_
      refine Gl.st (B := (T514.setTop (mkF m 364 L513 [(.int (lcmpW r358_525 y18_350_512))]))) (fun t k => XS.lload X514.here hx rfl (hb hby at_361) (ldAt hL513 rfl) (XS.lcmp X514.here hx rfl (hb hby at_363) rfl k)) ?_
      have hc364_526 : r358_525 = y18_350_512 := own_0_hc364_526 p1 y11_152_40 x209_504 y12_161_42 x240_507 r358_525 y16_325_510 y18_350_512 hy11_152_40 hx209_504 hy12_161_42 hx240_507 hr358_525 hy16_325_510 hy18_350_512 
      refine Gl.st (B := (T514.setTop (mkF m 372 L513 [(.int (1 : Int32))]))) (fun t k => XS.ifNo X514.here hx rfl (hb hby at_364) rfl ((if0 _ _).trans (teq ((lw_eq r358_525 y18_350_512).mpr hc364_526)).2) (XS.iconst X514.here hx rfl (hb hby at_367) (XS.goto X514.here hx rfl (pc0 := 368) (pc' := 372) rfl (hb hby at_368) (by decide) (by decide) k))) ?_
      obtain ⟨fs, hr, hrun, hended, hW, hsame⟩ := X514.leave (v := some (.int (nar .boolean (1 : Int32)))) (fun h => by rw [Bd.returns] at h; cases h)
      refine Gl.fin (retN X514 hx (t := .boolean) Bd.returns (by simp) (hb hby at_372) hr) hrun hended ⟨_, _, rfl, ?_, ⟨_, rfl⟩, hW, hsame.mono (by decide) (by decide)⟩
      show Q0 Z p1 p2 p3 p4 q5 p6 h0 n0 _ T514.heap _
      rw [eh514]
      exact ⟨rfl, N514⟩
    · skip
      subst hk
      refine Gl.st (B := (T38.setTop (mkF m 199 L49 [(.int y11_152_40), (.int (3 : Int32)), (.ref b7)]))) (fun t k => XS.aload X38.here hx rfl (hb hby at_187) (ldAt hL49 rfl) rfl (XS.iload X38.here hx rfl (hb hby at_189) (ldAt hL49 rfl) (XS.iload X38.here hx rfl (hb hby at_191) (ldAt hL49 rfl) (XS.iconst X38.here hx rfl (hb hby at_193) (XS.icmpNo X38.here hx rfl (hb hby at_194) rfl (by decide) (XS.iload X38.here hx rfl (hb hby at_197) (ldAt hL49 rfl) k)))))) ?_
      refine Gl.st (B := (T38.setTop (mkF m 209 L49 [(.int ((y11_152_40 ||| (128 : Int32)).toInt8.toInt32)), (.int (3 : Int32)), (.ref b7)]))) (fun t k => XS.sipush X38.here hx rfl (hb hby at_199) (XS.ior X38.here hx rfl (hb hby at_202) rfl (XS.goto X38.here hx rfl (pc0 := 203) (pc' := 208) rfl (hb hby at_203) (by decide) (by decide) (XS.i2b X38.here hx rfl (hb hby at_208) rfl k)))) ?_
      obtain ⟨x209_527, hx209_527⟩ : ∃ z : Int32, z = ((y11_152_40 ||| (128 : Int32)).toInt8.toInt32) := ⟨_, rfl⟩
      refine Gl.cast (B := (T38.setTop (mkF m 209 L49 [(.int x209_527), (.int (3 : Int32)), (.ref b7)]))) (by rw [hx209_527]) ?_
      obtain ⟨cl528, Ar528, q528, S528, P528, H528, G528⟩ := (id V38)
      have hin209_528 : ¬ ((3 : Int32) < 0 ∨ cl528.slots.size ≤ ((3 : Int32)).toNatClampNeg) := inb_of S528 ⟨by decide, by decide⟩
      obtain ⟨T528, h528, X528, e528, W528, st528⟩ := stB X38 hx hZ e38 Ar528 (j := (3 : Int32)) hin209_528 (g := (mkF m 209 L49 [(.int x209_527), (.int (3 : Int32)), (.ref b7)])) rfl rfl (hb hby at_209)
      have V528 : Arv Z h528 b7 k7 .byte (10 : Int32) [(.int (nar .byte x49_10)), (.int (nar .byte x60_13)), (.int (nar .byte x71_16)), (.int (nar .byte x209_527)), (.int (nar .byte x93_22)), (.int (nar .byte x104_25)), (.int (nar .byte x116_28)), (.int (nar .byte x128_31)), (.int (nar .byte x136_34)), (.int (nar .byte x147_37))] (.int (0 : Int32)) := Arv.set Ar528 q528 S528 P528 H528 G528 (fits_nar_byte _) W528 3 rfl (Nat.le_of_ble_eq_true rfl)
      have Zc529 : n0 ≤ h528.size := Nat.le_trans Zc39 (Nat.le_of_eq W528.size.symm)
      have N528 := Fr.snoc X528 N38 g_b7
      refine Gl.st (B := (T528.setTop (mkF m 210 L49 []))) st528 ?_
      refine Gl.st (B := (T528.setTop (mkF m 221 L49 [(.int (1 : Int32)), (.int (3 : Int32)), (.ref b7)]))) (fun t k => XS.iload X528.here hx rfl (hb hby at_210) (ldAt hL49 rfl) (XS.iconst X528.here hx rfl (hb hby at_212) (XS.icmpNo X528.here hx rfl (hb hby at_213) rfl (by decide) (XS.aload X528.here hx rfl (hb hby at_216) (ldAt hL49 rfl) rfl (XS.iload X528.here hx rfl (hb hby at_218) (ldAt hL49 rfl) (XS.iconst X528.here hx rfl (hb hby at_220) k)))))) ?_
      refine Gl.st (B := (T528.setTop (mkF m 233 L49 [(.int (128 : Int32)), (.int y12_161_42), (.int (4 : Int32)), (.ref b7)]))) (fun t k => XS.iadd X528.here hx rfl (hb hby at_221) rfl (XS.iload X528.here hx rfl (hb hby at_222) (ldAt hL49 rfl) (XS.iconst X528.here hx rfl (hb hby at_224) (XS.icmpNo X528.here hx rfl (hb hby at_225) rfl (by decide) (XS.iload X528.here hx rfl (hb hby at_228) (ldAt hL49 rfl) (XS.sipush X528.here hx rfl (hb hby at_230) k)))))) ?_
      refine Gl.st (B := (T528.setTop (mkF m 240 L49 [(.int ((y12_161_42 ||| (128 : Int32)).toInt8.toInt32)), (.int (4 : Int32)), (.ref b7)]))) (fun t k => XS.ior X528.here hx rfl (hb hby at_233) rfl (XS.goto X528.here hx rfl (pc0 := 234) (pc' := 239) rfl (hb hby at_234) (by decide) (by decide) (XS.i2b X528.here hx rfl (hb hby at_239) rfl k))) ?_
      obtain ⟨x240_530, hx240_530⟩ : ∃ z : Int32, z = ((y12_161_42 ||| (128 : Int32)).toInt8.toInt32) := ⟨_, rfl⟩
      refine Gl.cast (B := (T528.setTop (mkF m 240 L49 [(.int x240_530), (.int (4 : Int32)), (.ref b7)]))) (by rw [hx240_530]) ?_
      obtain ⟨cl531, Ar531, q531, S531, P531, H531, G531⟩ := (id V528)
      have hin240_531 : ¬ ((4 : Int32) < 0 ∨ cl531.slots.size ≤ ((4 : Int32)).toNatClampNeg) := inb_of S531 ⟨by decide, by decide⟩
      obtain ⟨T531, h531, X531, e531, W531, st531⟩ := stB X528 hx hZ e528 Ar531 (j := (4 : Int32)) hin240_531 (g := (mkF m 240 L49 [(.int x240_530), (.int (4 : Int32)), (.ref b7)])) rfl rfl (hb hby at_240)
      have V531 : Arv Z h531 b7 k7 .byte (10 : Int32) [(.int (nar .byte x49_10)), (.int (nar .byte x60_13)), (.int (nar .byte x71_16)), (.int (nar .byte x209_527)), (.int (nar .byte x240_530)), (.int (nar .byte x104_25)), (.int (nar .byte x116_28)), (.int (nar .byte x128_31)), (.int (nar .byte x136_34)), (.int (nar .byte x147_37))] (.int (0 : Int32)) := Arv.set Ar531 q531 S531 P531 H531 G531 (fits_nar_byte _) W531 4 rfl (Nat.le_of_ble_eq_true rfl)
      have Zc532 : n0 ≤ h531.size := Nat.le_trans Zc529 (Nat.le_of_eq W531.size.symm)
      have N531 := Fr.snoc X531 N528 g_b7
      refine Gl.st (B := (T531.setTop (mkF m 241 L49 []))) st531 ?_
      refine Gl.st (B := (T531.setTop (mkF m 252 L49 [(.int (2 : Int32)), (.int (3 : Int32)), (.ref b7)]))) (fun t k => XS.iload X531.here hx rfl (hb hby at_241) (ldAt hL49 rfl) (XS.iconst X531.here hx rfl (hb hby at_243) (XS.icmpNo X531.here hx rfl (hb hby at_244) rfl (by decide) (XS.aload X531.here hx rfl (hb hby at_247) (ldAt hL49 rfl) rfl (XS.iload X531.here hx rfl (hb hby at_249) (ldAt hL49 rfl) (XS.iconst X531.here hx rfl (hb hby at_251) k)))))) ?_
      refine Gl.st (B := (T531.setTop (mkF m 271 L49 [(.int (y13_170_44.toInt8.toInt32)), (.int (5 : Int32)), (.ref b7)]))) (fun t k => XS.iadd X531.here hx rfl (hb hby at_252) rfl (XS.iload X531.here hx rfl (hb hby at_253) (ldAt hL49 rfl) (XS.iconst X531.here hx rfl (hb hby at_255) (XS.icmpYes X531.here hx rfl (pc0 := 256) (pc' := 268) rfl (hb hby at_256) rfl (by decide) (by decide) (by decide) (XS.iload X531.here hx rfl (hb hby at_268) (ldAt hL49 rfl) (XS.i2b X531.here hx rfl (hb hby at_270) rfl k)))))) ?_
      obtain ⟨x271_533, hx271_533⟩ : ∃ z : Int32, z = (y13_170_44.toInt8.toInt32) := ⟨_, rfl⟩
      refine Gl.cast (B := (T531.setTop (mkF m 271 L49 [(.int x271_533), (.int (5 : Int32)), (.ref b7)]))) (by rw [hx271_533]) ?_
      obtain ⟨cl534, Ar534, q534, S534, P534, H534, G534⟩ := (id V531)
      have hin271_534 : ¬ ((5 : Int32) < 0 ∨ cl534.slots.size ≤ ((5 : Int32)).toNatClampNeg) := inb_of S534 ⟨by decide, by decide⟩
      obtain ⟨T534, h534, X534, e534, W534, st534⟩ := stB X531 hx hZ e531 Ar534 (j := (5 : Int32)) hin271_534 (g := (mkF m 271 L49 [(.int x271_533), (.int (5 : Int32)), (.ref b7)])) rfl rfl (hb hby at_271)
      have V534 : Arv Z h534 b7 k7 .byte (10 : Int32) [(.int (nar .byte x49_10)), (.int (nar .byte x60_13)), (.int (nar .byte x71_16)), (.int (nar .byte x209_527)), (.int (nar .byte x240_530)), (.int (nar .byte x271_533)), (.int (nar .byte x116_28)), (.int (nar .byte x128_31)), (.int (nar .byte x136_34)), (.int (nar .byte x147_37))] (.int (0 : Int32)) := Arv.set Ar534 q534 S534 P534 H534 G534 (fits_nar_byte _) W534 5 rfl (Nat.le_of_ble_eq_true rfl)
      have Zc535 : n0 ≤ h534.size := Nat.le_trans Zc532 (Nat.le_of_eq W534.size.symm)
      have N534 := Fr.snoc X534 N531 g_b7
      refine Gl.st (B := (T534.setTop (mkF m 272 L49 []))) st534 ?_
      refine Gl.st (B := (T534.setTop (mkF m 319 L49 []))) (fun t k => XS.iload X534.here hx rfl (hb hby at_272) (ldAt hL49 rfl) (XS.iconst X534.here hx rfl (hb hby at_274) (XS.icmpYes X534.here hx rfl (pc0 := 275) (pc' := 303) rfl (hb hby at_275) rfl (by decide) (by decide) (by decide) (XS.iload X534.here hx rfl (hb hby at_303) (ldAt hL49 rfl) (XS.iconst X534.here hx rfl (hb hby at_305) (XS.icmpYes X534.here hx rfl (pc0 := 306) (pc' := 319) rfl (hb hby at_306) rfl (by decide) (by decide) (by decide) k)))))) ?_
      refine Gl.st (B := (T534.setTop (mkF m 325 L49 [(.long ((p1.toInt64) &&& (4294967295 : Int64)))]))) (fun t k => XS.iloadN X534.here hx rfl (hb hby at_319) (ldAt hL49 rfl) (XS.i2l X534.here hx rfl (hb hby at_320) rfl (X534.ldc2Long hx hown (mvT hZ (tw hw 2 rfl)) (g := (mkF m 321 L49 [(.long (p1.toInt64))])) rfl (hb hby at_321) _ (XS.land X534.here hx rfl (hb hby at_324) rfl k)))) ?_
      obtain ⟨y16_325_536, hy16_325_536⟩ : ∃ z : Int64, z = ((p1.toInt64) &&& (4294967295 : Int64)) := ⟨_, rfl⟩
      refine Gl.cast (B := (T534.setTop (mkF m 325 L49 [(.long y16_325_536)]))) (by rw [hy16_325_536]) ?_
      obtain ⟨L537, hL537⟩ : ∃ z : Array Slot, z = #[.val (.int p1), .val (.int p2), .val (.int p3), .val (.int p4), .val (.long q5), .second, .val (.int p6), .val (.int (3 : Int32)), .val (.int (3 : Int32)), .val (.int y9_34_5), .val (.ref b7), .val (.int y11_152_40), .val (.int y12_161_42), .val (.int y13_170_44), .val (.int y14_179_46), .val (.int y15_185_48), .val (.long y16_325_536), .second, .unset, .unset] := ⟨_, rfl⟩
      refine Gl.st (B := (T534.setTop (mkF m 341 L537 [(.long (1 : Int64)), (.long y16_325_536)]))) (fun t k => XS.lstore X534.here hx rfl (hb hby at_325) rfl (l' := L537) (stAt hL49 hL537 rfl rfl) (XS.iload X534.here hx rfl (hb hby at_327) (ldAt hL537 rfl) (XS.iconst X534.here hx rfl (hb hby at_329) (XS.icmpYes X534.here hx rfl (pc0 := 330) (pc' := 338) rfl (hb hby at_330) rfl (by decide) (by decide) (by decide) (XS.lload X534.here hx rfl (hb hby at_338) (ldAt hL537 rfl) (XS.lconst X534.here hx rfl (hb hby at_340) k)))))) ?_
      refine Gl.st (B := (T534.setTop (mkF m 349 L537 [(.long (((1 : Int64) <<< ((21 : Int32) &&& 0x3f).toInt64) - (1 : Int64))), (.long y16_325_536)]))) (fun t k => XS.bipush X534.here hx rfl (hb hby at_341) (XS.iload X534.here hx rfl (hb hby at_343) (ldAt hL537 rfl) (XS.imul X534.here hx rfl (hb hby at_345) rfl (XS.lshl X534.here hx rfl (hb hby at_346) rfl (XS.lconst X534.here hx rfl (hb hby at_347) (XS.lsub X534.here hx rfl (hb hby at_348) rfl k)))))) ?_
      refine Gl.st (B := (T534.setTop (mkF m 350 L537 [(.long (y16_325_536 &&& (((1 : Int64) <<< ((21 : Int32) &&& 0x3f).toInt64) - (1 : Int64))))]))) (fun t k => XS.land X534.here hx rfl (hb hby at_349) rfl k) ?_
      obtain ⟨y18_350_538, hy18_350_538⟩ : ∃ z : Int64, z = (y16_325_536 &&& (((1 : Int64) <<< ((21 : Int32) &&& 0x3f).toInt64) - (1 : Int64))) := ⟨_, rfl⟩
      refine Gl.cast (B := (T534.setTop (mkF m 350 L537 [(.long y18_350_538)]))) (by rw [hy18_350_538]) ?_
      obtain ⟨L539, hL539⟩ : ∃ z : Array Slot, z = #[.val (.int p1), .val (.int p2), .val (.int p3), .val (.int p4), .val (.long q5), .second, .val (.int p6), .val (.int (3 : Int32)), .val (.int (3 : Int32)), .val (.int y9_34_5), .val (.ref b7), .val (.int y11_152_40), .val (.int y12_161_42), .val (.int y13_170_44), .val (.int y14_179_46), .val (.int y15_185_48), .val (.long y16_325_536), .second, .val (.long y18_350_538), .second] := ⟨_, rfl⟩
      refine Gl.st (B := (T534.setTop (mkF m 358 L539 [(.int y9_34_5), (.int (3 : Int32)), (.ref b7)]))) (fun t k => XS.lstore X534.here hx rfl (hb hby at_350) rfl (l' := L539) (stAt hL537 hL539 rfl rfl) (XS.aload X534.here hx rfl (hb hby at_352) (ldAt hL539 rfl) rfl (XS.iload X534.here hx rfl (hb hby at_354) (ldAt hL539 rfl) (XS.iload X534.here hx rfl (hb hby at_356) (ldAt hL539 rfl) k)))) ?_
      obtain ⟨cl541, Ar541, q541, S541, P541, H541, G541⟩ := (id V534)
      have hin40_1_542 : ¬ (((3 : Int32) + (0 : Int32)) < 0 ∨ cl541.slots.size ≤ (((3 : Int32) + (0 : Int32))).toNatClampNeg) := inb_of S541 ⟨by decide, by decide⟩
      have hin40_2_543 : ¬ (((3 : Int32) + (1 : Int32)) < 0 ∨ cl541.slots.size ≤ (((3 : Int32) + (1 : Int32))).toNatClampNeg) := inb_of S541 ⟨by decide, by decide⟩
      have hin40_3_544 : ¬ (((3 : Int32) + (2 : Int32)) < 0 ∨ cl541.slots.size ≤ (((3 : Int32) + (2 : Int32))).toNatClampNeg) := inb_of S541 ⟨by decide, by decide⟩
      have hp358_545 : ¬ ((((10 : Int32) ||| (3 : Int32)) ||| y9_34_5) < (0 : Int32)) := own_0_hp358_545 p4 y9_34_5 hy9_34_5 
      have hp358_546 : ¬ (((10 : Int32) - (3 : Int32)) < y9_34_5) := own_0_hp358_546 p4 y9_34_5 hy9_34_5 
      have hp358_547 : ¬ ((0 : Int32) = y9_34_5) := own_0_hp358_547 p4 y9_34_5 hy9_34_5 
      have hp358_548 : ¬ ((((nar .byte x209_527) &&& (255 : Int32))) < (128 : Int32)) := own_0_hp358_548 p1 y11_152_40 x209_527 hy11_152_40 hx209_527 
      have hp358_549 : ¬ ((1 : Int32) = y9_34_5) := own_0_hp358_549 p4 y9_34_5 hy9_34_5 
      have hp358_550 : ¬ ((((nar .byte x240_530) &&& (255 : Int32))) < (128 : Int32)) := own_0_hp358_550 p1 y12_161_42 x240_530 hy12_161_42 hx240_530 
      have hp358_551 : ¬ ((2 : Int32) = y9_34_5) := own_0_hp358_551 p4 y9_34_5 hy9_34_5 
      have hp358_552 : (((nar .byte x271_533) &&& (255 : Int32))) < (128 : Int32) := own_0_hp358_552 p1 y13_170_44 x271_533 hy13_170_44 hx271_533 
      have hp358_553 : ¬ ((4294967295 : Int64) < (((((((0 : Int64) ||| ((((((nar .byte x209_527) &&& (255 : Int32))) &&& (127 : Int32)).toInt64) <<< ((0 : Int32) &&& 0x3f).toInt64))) ||| ((((((nar .byte x240_530) &&& (255 : Int32))) &&& (127 : Int32)).toInt64) <<< ((7 : Int32) &&& 0x3f).toInt64))) ||| ((((((nar .byte x271_533) &&& (255 : Int32))) &&& (127 : Int32)).toInt64) <<< ((14 : Int32) &&& 0x3f).toInt64)))) := own_0_hp358_553 p1 y11_152_40 x209_527 y12_161_42 x240_530 y13_170_44 x271_533 hy11_152_40 hx209_527 hy12_161_42 hx240_530 hy13_170_44 hx271_533 
      obtain ⟨_, _, ⟨T540, L540q, k540, n540⟩, -, X540, ⟨Lc540, hQ540, l540, y540, z540⟩, st540⟩ := Jvm.LawKit.callS X534 hx (y := (⟨"com/example/requeue/requeue/connection/SnappyBlock", "uncompressedLength", "([BII)J"⟩ : MethodName)) hown (mvT hZ (tw hw 3 rfl)) (mvT hZ (tw hw 4 rfl)) (mvT hZ (tw hw 5 rfl)) (mvT hZ (tw hw 6 rfl)) (by decide) (backOf (W := 0) (rm1k3 l Z a0 hw [] b7 (3 : Int32) y9_34_5 cl541 (nar .byte x209_527) (nar .byte x240_530) (nar .byte x271_533) h534 n0 Zc535 Ar541 S541 P541 hp358_545 hp358_546 hp358_547 hin40_1_542 (Has.at H541 hin40_1_542 (v := (.int (nar .byte x209_527))) rfl) hp358_548 hp358_549 hin40_2_543 (Has.at H541 hin40_2_543 (v := (.int (nar .byte x240_530))) rfl) hp358_550 hp358_551 hin40_3_544 (Has.at H541 hin40_3_544 (v := (.int (nar .byte x271_533))) rfl) hp358_552 hp358_553) hZ (tw hw 6 rfl) (tw hw 5 rfl) (by decide) (by decide)) (g := (mkF m 358 L539 [(.int y9_34_5), (.int (3 : Int32)), (.ref b7)])) rfl (szAt hml hL539 rfl) (argsL := [(.ref b7), (.int (3 : Int32)), (.int y9_34_5)]) (rest := []) (lenOf pd_0_0 rfl) rfl (by show 2 * 0 + _ ≤ _; exact Nat.le_of_eq rfl) (hb hby at_358) (fun _ _ => ⟨rfl, e534, (by decide : 1 + 0 ≤ _), (by decide : 10 + 0 ≤ _)⟩)
      dsimp only [Pt.U, Pt.locs, Pt.cells, Pt.slots] at X540 l540 y540 z540 st540 hQ540
      subst l540 y540 z540
      obtain ⟨rfl, N540q, eh540⟩ := hQ540
      have N540 := Fr.app N534 N540q
      refine Gl.st (B := (T540.setTop (mkF m 361 L539 [(.long (((((((0 : Int64) ||| ((((((nar .byte x209_527) &&& (255 : Int32))) &&& (127 : Int32)).toInt64) <<< ((0 : Int32) &&& 0x3f).toInt64))) ||| ((((((nar .byte x240_530) &&& (255 : Int32))) &&& (127 : Int32)).toInt64) <<< ((7 : Int32) &&& 0x3f).toInt64))) ||| ((((((nar .byte x271_533) &&& (255 : Int32))) &&& (127 : Int32)).toInt64) <<< ((14 : Int32) &&& 0x3f).toInt64))))]))) (fun t k => st540 t k) ?_
      obtain ⟨r358_554, hr358_554⟩ : ∃ z : Int64, z = (((((((0 : Int64) ||| ((((((nar .byte x209_527) &&& (255 : Int32))) &&& (127 : Int32)).toInt64) <<< ((0 : Int32) &&& 0x3f).toInt64))) ||| ((((((nar .byte x240_530) &&& (255 : Int32))) &&& (127 : Int32)).toInt64) <<< ((7 : Int32) &&& 0x3f).toInt64))) ||| ((((((nar .byte x271_533) &&& (255 : Int32))) &&& (127 : Int32)).toInt64) <<< ((14 : Int32) &&& 0x3f).toInt64))) := ⟨_, rfl⟩
      refine Gl.cast (B := (T540.setTop (mkF m 361 L539 [(.long r358_554)]))) (by rw [hr358_554]) ?_
      refine Gl.st (B := (T540.setTop (mkF m 364 L539 [(.int (lcmpW r358_554 y18_350_538))]))) (fun t k => XS.lload X540.here hx rfl (hb hby at_361) (ldAt hL539 rfl) (XS.lcmp X540.here hx rfl (hb hby at_363) rfl k)) ?_
      have hc364_555 : r358_554 = y18_350_538 := own_0_hc364_555 p1 y11_152_40 x209_527 y12_161_42 x240_530 y13_170_44 x271_533 r358_554 y16_325_536 y18_350_538 hy11_152_40 hx209_527 hy12_161_42 hx240_530 hy13_170_44 hx271_533 hr358_554 hy16_325_536 hy18_350_538 
      refine Gl.st (B := (T540.setTop (mkF m 372 L539 [(.int (1 : Int32))]))) (fun t k => XS.ifNo X540.here hx rfl (hb hby at_364) rfl ((if0 _ _).trans (teq ((lw_eq r358_554 y18_350_538).mpr hc364_555)).2) (XS.iconst X540.here hx rfl (hb hby at_367) (XS.goto X540.here hx rfl (pc0 := 368) (pc' := 372) rfl (hb hby at_368) (by decide) (by decide) k))) ?_
      obtain ⟨fs, hr, hrun, hended, hW, hsame⟩ := X540.leave (v := some (.int (nar .boolean (1 : Int32)))) (fun h => by rw [Bd.returns] at h; cases h)
      refine Gl.fin (retN X540 hx (t := .boolean) Bd.returns (by simp) (hb hby at_372) hr) hrun hended ⟨_, _, rfl, ?_, ⟨_, rfl⟩, hW, hsame.mono (by decide) (by decide)⟩
      show Q0 Z p1 p2 p3 p4 q5 p6 h0 n0 _ T540.heap _
      rw [eh540]
      exact ⟨rfl, N540⟩
    · skip
      subst hk
      refine Gl.st (B := (T38.setTop (mkF m 199 L49 [(.int y11_152_40), (.int (3 : Int32)), (.ref b7)]))) (fun t k => XS.aload X38.here hx rfl (hb hby at_187) (ldAt hL49 rfl) rfl (XS.iload X38.here hx rfl (hb hby at_189) (ldAt hL49 rfl) (XS.iload X38.here hx rfl (hb hby at_191) (ldAt hL49 rfl) (XS.iconst X38.here hx rfl (hb hby at_193) (XS.icmpNo X38.here hx rfl (hb hby at_194) rfl (by decide) (XS.iload X38.here hx rfl (hb hby at_197) (ldAt hL49 rfl) k)))))) ?_
      refine Gl.st (B := (T38.setTop (mkF m 209 L49 [(.int ((y11_152_40 ||| (128 : Int32)).toInt8.toInt32)), (.int (3 : Int32)), (.ref b7)]))) (fun t k => XS.sipush X38.here hx rfl (hb hby at_199) (XS.ior X38.here hx rfl (hb hby at_202) rfl (XS.goto X38.here hx rfl (pc0 := 203) (pc' := 208) rfl (hb hby at_203) (by decide) (by decide) (XS.i2b X38.here hx rfl (hb hby at_208) rfl k)))) ?_
      obtain ⟨x209_556, hx209_556⟩ : ∃ z : Int32, z = ((y11_152_40 ||| (128 : Int32)).toInt8.toInt32) := ⟨_, rfl⟩
      refine Gl.cast (B := (T38.setTop (mkF m 209 L49 [(.int x209_556), (.int (3 : Int32)), (.ref b7)]))) (by rw [hx209_556]) ?_
      obtain ⟨cl557, Ar557, q557, S557, P557, H557, G557⟩ := (id V38)
      have hin209_557 : ¬ ((3 : Int32) < 0 ∨ cl557.slots.size ≤ ((3 : Int32)).toNatClampNeg) := inb_of S557 ⟨by decide, by decide⟩
      obtain ⟨T557, h557, X557, e557, W557, st557⟩ := stB X38 hx hZ e38 Ar557 (j := (3 : Int32)) hin209_557 (g := (mkF m 209 L49 [(.int x209_556), (.int (3 : Int32)), (.ref b7)])) rfl rfl (hb hby at_209)
      have V557 : Arv Z h557 b7 k7 .byte (10 : Int32) [(.int (nar .byte x49_10)), (.int (nar .byte x60_13)), (.int (nar .byte x71_16)), (.int (nar .byte x209_556)), (.int (nar .byte x93_22)), (.int (nar .byte x104_25)), (.int (nar .byte x116_28)), (.int (nar .byte x128_31)), (.int (nar .byte x136_34)), (.int (nar .byte x147_37))] (.int (0 : Int32)) := Arv.set Ar557 q557 S557 P557 H557 G557 (fits_nar_byte _) W557 3 rfl (Nat.le_of_ble_eq_true rfl)
      have Zc558 : n0 ≤ h557.size := Nat.le_trans Zc39 (Nat.le_of_eq W557.size.symm)
      have N557 := Fr.snoc X557 N38 g_b7
      refine Gl.st (B := (T557.setTop (mkF m 210 L49 []))) st557 ?_
      refine Gl.st (B := (T557.setTop (mkF m 221 L49 [(.int (1 : Int32)), (.int (3 : Int32)), (.ref b7)]))) (fun t k => XS.iload X557.here hx rfl (hb hby at_210) (ldAt hL49 rfl) (XS.iconst X557.here hx rfl (hb hby at_212) (XS.icmpNo X557.here hx rfl (hb hby at_213) rfl (by decide) (XS.aload X557.here hx rfl (hb hby at_216) (ldAt hL49 rfl) rfl (XS.iload X557.here hx rfl (hb hby at_218) (ldAt hL49 rfl) (XS.iconst X557.here hx rfl (hb hby at_220) k)))))) ?_
      refine Gl.st (B := (T557.setTop (mkF m 233 L49 [(.int (128 : Int32)), (.int y12_161_42), (.int (4 : Int32)), (.ref b7)]))) (fun t k => XS.iadd X557.here hx rfl (hb hby at_221) rfl (XS.iload X557.here hx rfl (hb hby at_222) (ldAt hL49 rfl) (XS.iconst X557.here hx rfl (hb hby at_224) (XS.icmpNo X557.here hx rfl (hb hby at_225) rfl (by decide) (XS.iload X557.here hx rfl (hb hby at_228) (ldAt hL49 rfl) (XS.sipush X557.here hx rfl (hb hby at_230) k)))))) ?_
      refine Gl.st (B := (T557.setTop (mkF m 240 L49 [(.int ((y12_161_42 ||| (128 : Int32)).toInt8.toInt32)), (.int (4 : Int32)), (.ref b7)]))) (fun t k => XS.ior X557.here hx rfl (hb hby at_233) rfl (XS.goto X557.here hx rfl (pc0 := 234) (pc' := 239) rfl (hb hby at_234) (by decide) (by decide) (XS.i2b X557.here hx rfl (hb hby at_239) rfl k))) ?_
      obtain ⟨x240_559, hx240_559⟩ : ∃ z : Int32, z = ((y12_161_42 ||| (128 : Int32)).toInt8.toInt32) := ⟨_, rfl⟩
      refine Gl.cast (B := (T557.setTop (mkF m 240 L49 [(.int x240_559), (.int (4 : Int32)), (.ref b7)]))) (by rw [hx240_559]) ?_
      obtain ⟨cl560, Ar560, q560, S560, P560, H560, G560⟩ := (id V557)
      have hin240_560 : ¬ ((4 : Int32) < 0 ∨ cl560.slots.size ≤ ((4 : Int32)).toNatClampNeg) := inb_of S560 ⟨by decide, by decide⟩
      obtain ⟨T560, h560, X560, e560, W560, st560⟩ := stB X557 hx hZ e557 Ar560 (j := (4 : Int32)) hin240_560 (g := (mkF m 240 L49 [(.int x240_559), (.int (4 : Int32)), (.ref b7)])) rfl rfl (hb hby at_240)
      have V560 : Arv Z h560 b7 k7 .byte (10 : Int32) [(.int (nar .byte x49_10)), (.int (nar .byte x60_13)), (.int (nar .byte x71_16)), (.int (nar .byte x209_556)), (.int (nar .byte x240_559)), (.int (nar .byte x104_25)), (.int (nar .byte x116_28)), (.int (nar .byte x128_31)), (.int (nar .byte x136_34)), (.int (nar .byte x147_37))] (.int (0 : Int32)) := Arv.set Ar560 q560 S560 P560 H560 G560 (fits_nar_byte _) W560 4 rfl (Nat.le_of_ble_eq_true rfl)
      have Zc561 : n0 ≤ h560.size := Nat.le_trans Zc558 (Nat.le_of_eq W560.size.symm)
      have N560 := Fr.snoc X560 N557 g_b7
      refine Gl.st (B := (T560.setTop (mkF m 241 L49 []))) st560 ?_
      refine Gl.st (B := (T560.setTop (mkF m 252 L49 [(.int (2 : Int32)), (.int (3 : Int32)), (.ref b7)]))) (fun t k => XS.iload X560.here hx rfl (hb hby at_241) (ldAt hL49 rfl) (XS.iconst X560.here hx rfl (hb hby at_243) (XS.icmpNo X560.here hx rfl (hb hby at_244) rfl (by decide) (XS.aload X560.here hx rfl (hb hby at_247) (ldAt hL49 rfl) rfl (XS.iload X560.here hx rfl (hb hby at_249) (ldAt hL49 rfl) (XS.iconst X560.here hx rfl (hb hby at_251) k)))))) ?_
      refine Gl.st (B := (T560.setTop (mkF m 264 L49 [(.int (128 : Int32)), (.int y13_170_44), (.int (5 : Int32)), (.ref b7)]))) (fun t k => XS.iadd X560.here hx rfl (hb hby at_252) rfl (XS.iload X560.here hx rfl (hb hby at_253) (ldAt hL49 rfl) (XS.iconst X560.here hx rfl (hb hby at_255) (XS.icmpNo X560.here hx rfl (hb hby at_256) rfl (by decide) (XS.iload X560.here hx rfl (hb hby at_259) (ldAt hL49 rfl) (XS.sipush X560.here hx rfl (hb hby at_261) k)))))) ?_
      refine Gl.st (B := (T560.setTop (mkF m 271 L49 [(.int ((y13_170_44 ||| (128 : Int32)).toInt8.toInt32)), (.int (5 : Int32)), (.ref b7)]))) (fun t k => XS.ior X560.here hx rfl (hb hby at_264) rfl (XS.goto X560.here hx rfl (pc0 := 265) (pc' := 270) rfl (hb hby at_265) (by decide) (by decide) (XS.i2b X560.here hx rfl (hb hby at_270) rfl k))) ?_
      obtain ⟨x271_562, hx271_562⟩ : ∃ z : Int32, z = ((y13_170_44 ||| (128 : Int32)).toInt8.toInt32) := ⟨_, rfl⟩
      refine Gl.cast (B := (T560.setTop (mkF m 271 L49 [(.int x271_562), (.int (5 : Int32)), (.ref b7)]))) (by rw [hx271_562]) ?_
      obtain ⟨cl563, Ar563, q563, S563, P563, H563, G563⟩ := (id V560)
      have hin271_563 : ¬ ((5 : Int32) < 0 ∨ cl563.slots.size ≤ ((5 : Int32)).toNatClampNeg) := inb_of S563 ⟨by decide, by decide⟩
      obtain ⟨T563, h563, X563, e563, W563, st563⟩ := stB X560 hx hZ e560 Ar563 (j := (5 : Int32)) hin271_563 (g := (mkF m 271 L49 [(.int x271_562), (.int (5 : Int32)), (.ref b7)])) rfl rfl (hb hby at_271)
      have V563 : Arv Z h563 b7 k7 .byte (10 : Int32) [(.int (nar .byte x49_10)), (.int (nar .byte x60_13)), (.int (nar .byte x71_16)), (.int (nar .byte x209_556)), (.int (nar .byte x240_559)), (.int (nar .byte x271_562)), (.int (nar .byte x116_28)), (.int (nar .byte x128_31)), (.int (nar .byte x136_34)), (.int (nar .byte x147_37))] (.int (0 : Int32)) := Arv.set Ar563 q563 S563 P563 H563 G563 (fits_nar_byte _) W563 5 rfl (Nat.le_of_ble_eq_true rfl)
      have Zc564 : n0 ≤ h563.size := Nat.le_trans Zc561 (Nat.le_of_eq W563.size.symm)
      have N563 := Fr.snoc X563 N560 g_b7
      refine Gl.st (B := (T563.setTop (mkF m 272 L49 []))) st563 ?_
      refine Gl.st (B := (T563.setTop (mkF m 283 L49 [(.int (3 : Int32)), (.int (3 : Int32)), (.ref b7)]))) (fun t k => XS.iload X563.here hx rfl (hb hby at_272) (ldAt hL49 rfl) (XS.iconst X563.here hx rfl (hb hby at_274) (XS.icmpNo X563.here hx rfl (hb hby at_275) rfl (by decide) (XS.aload X563.here hx rfl (hb hby at_278) (ldAt hL49 rfl) rfl (XS.iload X563.here hx rfl (hb hby at_280) (ldAt hL49 rfl) (XS.iconst X563.here hx rfl (hb hby at_282) k)))))) ?_
      refine Gl.st (B := (T563.setTop (mkF m 302 L49 [(.int (y14_179_46.toInt8.toInt32)), (.int (6 : Int32)), (.ref b7)]))) (fun t k => XS.iadd X563.here hx rfl (hb hby at_283) rfl (XS.iload X563.here hx rfl (hb hby at_284) (ldAt hL49 rfl) (XS.iconst X563.here hx rfl (hb hby at_286) (XS.icmpYes X563.here hx rfl (pc0 := 287) (pc' := 299) rfl (hb hby at_287) rfl (by decide) (by decide) (by decide) (XS.iload X563.here hx rfl (hb hby at_299) (ldAt hL49 rfl) (XS.i2b X563.here hx rfl (hb hby at_301) rfl k)))))) ?_
      obtain ⟨x302_565, hx302_565⟩ : ∃ z : Int32, z = (y14_179_46.toInt8.toInt32) := ⟨_, rfl⟩
      refine Gl.cast (B := (T563.setTop (mkF m 302 L49 [(.int x302_565), (.int (6 : Int32)), (.ref b7)]))) (by rw [hx302_565]) ?_
      obtain ⟨cl566, Ar566, q566, S566, P566, H566, G566⟩ := (id V563)
      have hin302_566 : ¬ ((6 : Int32) < 0 ∨ cl566.slots.size ≤ ((6 : Int32)).toNatClampNeg) := inb_of S566 ⟨by decide, by decide⟩
      obtain ⟨T566, h566, X566, e566, W566, st566⟩ := stB X563 hx hZ e563 Ar566 (j := (6 : Int32)) hin302_566 (g := (mkF m 302 L49 [(.int x302_565), (.int (6 : Int32)), (.ref b7)])) rfl rfl (hb hby at_302)
      have V566 : Arv Z h566 b7 k7 .byte (10 : Int32) [(.int (nar .byte x49_10)), (.int (nar .byte x60_13)), (.int (nar .byte x71_16)), (.int (nar .byte x209_556)), (.int (nar .byte x240_559)), (.int (nar .byte x271_562)), (.int (nar .byte x302_565)), (.int (nar .byte x128_31)), (.int (nar .byte x136_34)), (.int (nar .byte x147_37))] (.int (0 : Int32)) := Arv.set Ar566 q566 S566 P566 H566 G566 (fits_nar_byte _) W566 6 rfl (Nat.le_of_ble_eq_true rfl)
      have Zc567 : n0 ≤ h566.size := Nat.le_trans Zc564 (Nat.le_of_eq W566.size.symm)
      have N566 := Fr.snoc X566 N563 g_b7
      refine Gl.st (B := (T566.setTop (mkF m 303 L49 []))) st566 ?_
      refine Gl.st (B := (T566.setTop (mkF m 324 L49 [(.long (4294967295 : Int64)), (.long (p1.toInt64))]))) (fun t k => XS.iload X566.here hx rfl (hb hby at_303) (ldAt hL49 rfl) (XS.iconst X566.here hx rfl (hb hby at_305) (XS.icmpYes X566.here hx rfl (pc0 := 306) (pc' := 319) rfl (hb hby at_306) rfl (by decide) (by decide) (by decide) (XS.iloadN X566.here hx rfl (hb hby at_319) (ldAt hL49 rfl) (XS.i2l X566.here hx rfl (hb hby at_320) rfl (X566.ldc2Long hx hown (mvT hZ (tw hw 2 rfl)) (g := (mkF m 321 L49 [(.long (p1.toInt64))])) rfl (hb hby at_321) _ k)))))) ?_
      refine Gl.st (B := (T566.setTop (mkF m 325 L49 [(.long ((p1.toInt64) &&& (4294967295 : Int64)))]))) (fun t k => XS.land X566.here hx rfl (hb hby at_324) rfl k) ?_
      obtain ⟨y16_325_568, hy16_325_568⟩ : ∃ z : Int64, z = ((p1.toInt64) &&& (4294967295 : Int64)) := ⟨_, rfl⟩
      refine Gl.cast (B := (T566.setTop (mkF m 325 L49 [(.long y16_325_568)]))) (by rw [hy16_325_568]) ?_
      obtain ⟨L569, hL569⟩ : ∃ z : Array Slot, z = #[.val (.int p1), .val (.int p2), .val (.int p3), .val (.int p4), .val (.long q5), .second, .val (.int p6), .val (.int (4 : Int32)), .val (.int (3 : Int32)), .val (.int y9_34_5), .val (.ref b7), .val (.int y11_152_40), .val (.int y12_161_42), .val (.int y13_170_44), .val (.int y14_179_46), .val (.int y15_185_48), .val (.long y16_325_568), .second, .unset, .unset] := ⟨_, rfl⟩
      refine Gl.st (B := (T566.setTop (mkF m 341 L569 [(.long (1 : Int64)), (.long y16_325_568)]))) (fun t k => XS.lstore X566.here hx rfl (hb hby at_325) rfl (l' := L569) (stAt hL49 hL569 rfl rfl) (XS.iload X566.here hx rfl (hb hby at_327) (ldAt hL569 rfl) (XS.iconst X566.here hx rfl (hb hby at_329) (XS.icmpYes X566.here hx rfl (pc0 := 330) (pc' := 338) rfl (hb hby at_330) rfl (by decide) (by decide) (by decide) (XS.lload X566.here hx rfl (hb hby at_338) (ldAt hL569 rfl) (XS.lconst X566.here hx rfl (hb hby at_340) k)))))) ?_
      refine Gl.st (B := (T566.setTop (mkF m 349 L569 [(.long (((1 : Int64) <<< ((28 : Int32) &&& 0x3f).toInt64) - (1 : Int64))), (.long y16_325_568)]))) (fun t k => XS.bipush X566.here hx rfl (hb hby at_341) (XS.iload X566.here hx rfl (hb hby at_343) (ldAt hL569 rfl) (XS.imul X566.here hx rfl (hb hby at_345) rfl (XS.lshl X566.here hx rfl (hb hby at_346) rfl (XS.lconst X566.here hx rfl (hb hby at_347) (XS.lsub X566.here hx rfl (hb hby at_348) rfl k)))))) ?_
      refine Gl.st (B := (T566.setTop (mkF m 350 L569 [(.long (y16_325_568 &&& (((1 : Int64) <<< ((28 : Int32) &&& 0x3f).toInt64) - (1 : Int64))))]))) (fun t k => XS.land X566.here hx rfl (hb hby at_349) rfl k) ?_
      obtain ⟨y18_350_570, hy18_350_570⟩ : ∃ z : Int64, z = (y16_325_568 &&& (((1 : Int64) <<< ((28 : Int32) &&& 0x3f).toInt64) - (1 : Int64))) := ⟨_, rfl⟩
      refine Gl.cast (B := (T566.setTop (mkF m 350 L569 [(.long y18_350_570)]))) (by rw [hy18_350_570]) ?_
      obtain ⟨L571, hL571⟩ : ∃ z : Array Slot, z = #[.val (.int p1), .val (.int p2), .val (.int p3), .val (.int p4), .val (.long q5), .second, .val (.int p6), .val (.int (4 : Int32)), .val (.int (3 : Int32)), .val (.int y9_34_5), .val (.ref b7), .val (.int y11_152_40), .val (.int y12_161_42), .val (.int y13_170_44), .val (.int y14_179_46), .val (.int y15_185_48), .val (.long y16_325_568), .second, .val (.long y18_350_570), .second] := ⟨_, rfl⟩
      refine Gl.st (B := (T566.setTop (mkF m 358 L571 [(.int y9_34_5), (.int (3 : Int32)), (.ref b7)]))) (fun t k => XS.lstore X566.here hx rfl (hb hby at_350) rfl (l' := L571) (stAt hL569 hL571 rfl rfl) (XS.aload X566.here hx rfl (hb hby at_352) (ldAt hL571 rfl) rfl (XS.iload X566.here hx rfl (hb hby at_354) (ldAt hL571 rfl) (XS.iload X566.here hx rfl (hb hby at_356) (ldAt hL571 rfl) k)))) ?_
      obtain ⟨cl573, Ar573, q573, S573, P573, H573, G573⟩ := (id V566)
      have hin40_1_574 : ¬ (((3 : Int32) + (0 : Int32)) < 0 ∨ cl573.slots.size ≤ (((3 : Int32) + (0 : Int32))).toNatClampNeg) := inb_of S573 ⟨by decide, by decide⟩
      have hin40_2_575 : ¬ (((3 : Int32) + (1 : Int32)) < 0 ∨ cl573.slots.size ≤ (((3 : Int32) + (1 : Int32))).toNatClampNeg) := inb_of S573 ⟨by decide, by decide⟩
      have hin40_3_576 : ¬ (((3 : Int32) + (2 : Int32)) < 0 ∨ cl573.slots.size ≤ (((3 : Int32) + (2 : Int32))).toNatClampNeg) := inb_of S573 ⟨by decide, by decide⟩
      have hin40_4_577 : ¬ (((3 : Int32) + (3 : Int32)) < 0 ∨ cl573.slots.size ≤ (((3 : Int32) + (3 : Int32))).toNatClampNeg) := inb_of S573 ⟨by decide, by decide⟩
      have hp358_578 : ¬ ((((10 : Int32) ||| (3 : Int32)) ||| y9_34_5) < (0 : Int32)) := own_0_hp358_578 p4 y9_34_5 hy9_34_5 
      have hp358_579 : ¬ (((10 : Int32) - (3 : Int32)) < y9_34_5) := own_0_hp358_579 p4 y9_34_5 hy9_34_5 
      have hp358_580 : ¬ ((0 : Int32) = y9_34_5) := own_0_hp358_580 p4 y9_34_5 hy9_34_5 
      have hp358_581 : ¬ ((((nar .byte x209_556) &&& (255 : Int32))) < (128 : Int32)) := own_0_hp358_581 p1 y11_152_40 x209_556 hy11_152_40 hx209_556 
      have hp358_582 : ¬ ((1 : Int32) = y9_34_5) := own_0_hp358_582 p4 y9_34_5 hy9_34_5 
      have hp358_583 : ¬ ((((nar .byte x240_559) &&& (255 : Int32))) < (128 : Int32)) := own_0_hp358_583 p1 y12_161_42 x240_559 hy12_161_42 hx240_559 
      have hp358_584 : ¬ ((2 : Int32) = y9_34_5) := own_0_hp358_584 p4 y9_34_5 hy9_34_5 
      have hp358_585 : ¬ ((((nar .byte x271_562) &&& (255 : Int32))) < (128 : Int32)) := own_0_hp358_585 p1 y13_170_44 x271_562 hy13_170_44 hx271_562 
      have hp358_586 : ¬ ((3 : Int32) = y9_34_5) := own_0_hp358_586 p4 y9_34_5 hy9_34_5 
      have hp358_587 : (((nar .byte x302_565) &&& (255 : Int32))) < (128 : Int32) := own_0_hp358_587 p1 y14_179_46 x302_565 hy14_179_46 hx302_565 
      have hp358_588 : ¬ ((4294967295 : Int64) < (((((((((0 : Int64) ||| ((((((nar .byte x209_556) &&& (255 : Int32))) &&& (127 : Int32)).toInt64) <<< ((0 : Int32) &&& 0x3f).toInt64))) ||| ((((((nar .byte x240_559) &&& (255 : Int32))) &&& (127 : Int32)).toInt64) <<< ((7 : Int32) &&& 0x3f).toInt64))) ||| ((((((nar .byte x271_562) &&& (255 : Int32))) &&& (127 : Int32)).toInt64) <<< ((14 : Int32) &&& 0x3f).toInt64))) ||| ((((((nar .byte x302_565) &&& (255 : Int32))) &&& (127 : Int32)).toInt64) <<< ((21 : Int32) &&& 0x3f).toInt64)))) := own_0_hp358_588 p1 y11_152_40 x209_556 y12_161_42 x240_559 y13_170_44 x271_562 y14_179_46 x302_565 hy11_152_40 hx209_556 hy12_161_42 hx240_559 hy13_170_44 hx271_562 hy14_179_46 hx302_565 
      obtain ⟨_, _, ⟨T572, L572q, k572, n572⟩, -, X572, ⟨Lc572, hQ572, l572, y572, z572⟩, st572⟩ := Jvm.LawKit.callS X566 hx (y := (⟨"com/example/requeue/requeue/connection/SnappyBlock", "uncompressedLength", "([BII)J"⟩ : MethodName)) hown (mvT hZ (tw hw 3 rfl)) (mvT hZ (tw hw 4 rfl)) (mvT hZ (tw hw 5 rfl)) (mvT hZ (tw hw 6 rfl)) (by decide) (backOf (W := 0) (rm1k4 l Z a0 hw [] b7 (3 : Int32) y9_34_5 cl573 (nar .byte x209_556) (nar .byte x240_559) (nar .byte x271_562) (nar .byte x302_565) h566 n0 Zc567 Ar573 S573 P573 hp358_578 hp358_579 hp358_580 hin40_1_574 (Has.at H573 hin40_1_574 (v := (.int (nar .byte x209_556))) rfl) hp358_581 hp358_582 hin40_2_575 (Has.at H573 hin40_2_575 (v := (.int (nar .byte x240_559))) rfl) hp358_583 hp358_584 hin40_3_576 (Has.at H573 hin40_3_576 (v := (.int (nar .byte x271_562))) rfl) hp358_585 hp358_586 hin40_4_577 (Has.at H573 hin40_4_577 (v := (.int (nar .byte x302_565))) rfl) hp358_587 hp358_588) hZ (tw hw 6 rfl) (tw hw 5 rfl) (by decide) (by decide)) (g := (mkF m 358 L571 [(.int y9_34_5), (.int (3 : Int32)), (.ref b7)])) rfl (szAt hml hL571 rfl) (argsL := [(.ref b7), (.int (3 : Int32)), (.int y9_34_5)]) (rest := []) (lenOf pd_0_0 rfl) rfl (by show 2 * 0 + _ ≤ _; exact Nat.le_of_eq rfl) (hb hby at_358) (fun _ _ => ⟨rfl, e566, (by decide : 1 + 0 ≤ _), (by decide : 10 + 0 ≤ _)⟩)
      dsimp only [Pt.U, Pt.locs, Pt.cells, Pt.slots] at X572 l572 y572 z572 st572 hQ572
      subst l572 y572 z572
      obtain ⟨rfl, N572q, eh572⟩ := hQ572
      have N572 := Fr.app N566 N572q
      refine Gl.st (B := (T572.setTop (mkF m 361 L571 [(.long (((((((((0 : Int64) ||| ((((((nar .byte x209_556) &&& (255 : Int32))) &&& (127 : Int32)).toInt64) <<< ((0 : Int32) &&& 0x3f).toInt64))) ||| ((((((nar .byte x240_559) &&& (255 : Int32))) &&& (127 : Int32)).toInt64) <<< ((7 : Int32) &&& 0x3f).toInt64))) ||| ((((((nar .byte x271_562) &&& (255 : Int32))) &&& (127 : Int32)).toInt64) <<< ((14 : Int32) &&& 0x3f).toInt64))) ||| ((((((nar .byte x302_565) &&& (255 : Int32))) &&& (127 : Int32)).toInt64) <<< ((21 : Int32) &&& 0x3f).toInt64))))]))) (fun t k => st572 t k) ?_
      obtain ⟨r358_589, hr358_589⟩ : ∃ z : Int64, z = (((((((((0 : Int64) ||| ((((((nar .byte x209_556) &&& (255 : Int32))) &&& (127 : Int32)).toInt64) <<< ((0 : Int32) &&& 0x3f).toInt64))) ||| ((((((nar .byte x240_559) &&& (255 : Int32))) &&& (127 : Int32)).toInt64) <<< ((7 : Int32) &&& 0x3f).toInt64))) ||| ((((((nar .byte x271_562) &&& (255 : Int32))) &&& (127 : Int32)).toInt64) <<< ((14 : Int32) &&& 0x3f).toInt64))) ||| ((((((nar .byte x302_565) &&& (255 : Int32))) &&& (127 : Int32)).toInt64) <<< ((21 : Int32) &&& 0x3f).toInt64))) := ⟨_, rfl⟩
      refine Gl.cast (B := (T572.setTop (mkF m 361 L571 [(.long r358_589)]))) (by rw [hr358_589]) ?_
      refine Gl.st (B := (T572.setTop (mkF m 364 L571 [(.int (lcmpW r358_589 y18_350_570))]))) (fun t k => XS.lload X572.here hx rfl (hb hby at_361) (ldAt hL571 rfl) (XS.lcmp X572.here hx rfl (hb hby at_363) rfl k)) ?_
      have hc364_590 : r358_589 = y18_350_570 := own_0_hc364_590 p1 y11_152_40 x209_556 y12_161_42 x240_559 y13_170_44 x271_562 y14_179_46 x302_565 r358_589 y16_325_568 y18_350_570 hy11_152_40 hx209_556 hy12_161_42 hx240_559 hy13_170_44 hx271_562 hy14_179_46 hx302_565 hr358_589 hy16_325_568 hy18_350_570 
      refine Gl.st (B := (T572.setTop (mkF m 372 L571 [(.int (1 : Int32))]))) (fun t k => XS.ifNo X572.here hx rfl (hb hby at_364) rfl ((if0 _ _).trans (teq ((lw_eq r358_589 y18_350_570).mpr hc364_590)).2) (XS.iconst X572.here hx rfl (hb hby at_367) (XS.goto X572.here hx rfl (pc0 := 368) (pc' := 372) rfl (hb hby at_368) (by decide) (by decide) k))) ?_
      obtain ⟨fs, hr, hrun, hended, hW, hsame⟩ := X572.leave (v := some (.int (nar .boolean (1 : Int32)))) (fun h => by rw [Bd.returns] at h; cases h)
      refine Gl.fin (retN X572 hx (t := .boolean) Bd.returns (by simp) (hb hby at_372) hr) hrun hended ⟨_, _, rfl, ?_, ⟨_, rfl⟩, hW, hsame.mono (by decide) (by decide)⟩
      show Q0 Z p1 p2 p3 p4 q5 p6 h0 n0 _ T572.heap _
      rw [eh572]
      exact ⟨rfl, N572⟩
    · skip
      subst hk
      refine Gl.st (B := (T38.setTop (mkF m 199 L49 [(.int y11_152_40), (.int (3 : Int32)), (.ref b7)]))) (fun t k => XS.aload X38.here hx rfl (hb hby at_187) (ldAt hL49 rfl) rfl (XS.iload X38.here hx rfl (hb hby at_189) (ldAt hL49 rfl) (XS.iload X38.here hx rfl (hb hby at_191) (ldAt hL49 rfl) (XS.iconst X38.here hx rfl (hb hby at_193) (XS.icmpNo X38.here hx rfl (hb hby at_194) rfl (by decide) (XS.iload X38.here hx rfl (hb hby at_197) (ldAt hL49 rfl) k)))))) ?_
      refine Gl.st (B := (T38.setTop (mkF m 209 L49 [(.int ((y11_152_40 ||| (128 : Int32)).toInt8.toInt32)), (.int (3 : Int32)), (.ref b7)]))) (fun t k => XS.sipush X38.here hx rfl (hb hby at_199) (XS.ior X38.here hx rfl (hb hby at_202) rfl (XS.goto X38.here hx rfl (pc0 := 203) (pc' := 208) rfl (hb hby at_203) (by decide) (by decide) (XS.i2b X38.here hx rfl (hb hby at_208) rfl k)))) ?_
      obtain ⟨x209_591, hx209_591⟩ : ∃ z : Int32, z = ((y11_152_40 ||| (128 : Int32)).toInt8.toInt32) := ⟨_, rfl⟩
      refine Gl.cast (B := (T38.setTop (mkF m 209 L49 [(.int x209_591), (.int (3 : Int32)), (.ref b7)]))) (by rw [hx209_591]) ?_
      obtain ⟨cl592, Ar592, q592, S592, P592, H592, G592⟩ := (id V38)
      have hin209_592 : ¬ ((3 : Int32) < 0 ∨ cl592.slots.size ≤ ((3 : Int32)).toNatClampNeg) := inb_of S592 ⟨by decide, by decide⟩
      obtain ⟨T592, h592, X592, e592, W592, st592⟩ := stB X38 hx hZ e38 Ar592 (j := (3 : Int32)) hin209_592 (g := (mkF m 209 L49 [(.int x209_591), (.int (3 : Int32)), (.ref b7)])) rfl rfl (hb hby at_209)
      have V592 : Arv Z h592 b7 k7 .byte (10 : Int32) [(.int (nar .byte x49_10)), (.int (nar .byte x60_13)), (.int (nar .byte x71_16)), (.int (nar .byte x209_591)), (.int (nar .byte x93_22)), (.int (nar .byte x104_25)), (.int (nar .byte x116_28)), (.int (nar .byte x128_31)), (.int (nar .byte x136_34)), (.int (nar .byte x147_37))] (.int (0 : Int32)) := Arv.set Ar592 q592 S592 P592 H592 G592 (fits_nar_byte _) W592 3 rfl (Nat.le_of_ble_eq_true rfl)
      have Zc593 : n0 ≤ h592.size := Nat.le_trans Zc39 (Nat.le_of_eq W592.size.symm)
      have N592 := Fr.snoc X592 N38 g_b7
      refine Gl.st (B := (T592.setTop (mkF m 210 L49 []))) st592 ?_
      refine Gl.st (B := (T592.setTop (mkF m 221 L49 [(.int (1 : Int32)), (.int (3 : Int32)), (.ref b7)]))) (fun t k => XS.iload X592.here hx rfl (hb hby at_210) (ldAt hL49 rfl) (XS.iconst X592.here hx rfl (hb hby at_212) (XS.icmpNo X592.here hx rfl (hb hby at_213) rfl (by decide) (XS.aload X592.here hx rfl (hb hby at_216) (ldAt hL49 rfl) rfl (XS.iload X592.here hx rfl (hb hby at_218) (ldAt hL49 rfl) (XS.iconst X592.here hx rfl (hb hby at_220) k)))))) ?_
      refine Gl.st (B := (T592.setTop (mkF m 233 L49 [(.int (128 : Int32)), (.int y12_161_42), (.int (4 : Int32)), (.ref b7)]))) (fun t k => XS.iadd X592.here hx rfl (hb hby at_221) rfl (XS.iload X592.here hx rfl (hb hby at_222) (ldAt hL49 rfl) (XS.iconst X592.here hx rfl (hb hby at_224) (XS.icmpNo X592.here hx rfl (hb hby at_225) rfl (by decide) (XS.iload X592.here hx rfl (hb hby at_228) (ldAt hL49 rfl) (XS.sipush X592.here hx rfl (hb hby at_230) k)))))) ?_
      refine Gl.st (B := (T592.setTop (mkF m 240 L49 [(.int ((y12_161_42 ||| (128 : Int32)).toInt8.toInt32)), (.int (4 : Int32)), (.ref b7)]))) (fun t k => XS.ior X592.here hx rfl (hb hby at_233) rfl (XS.goto X592.here hx rfl (pc0 := 234) (pc' := 239) rfl (hb hby at_234) (by decide) (by decide) (XS.i2b X592.here hx rfl (hb hby at_239) rfl k))) ?_
      obtain ⟨x240_594, hx240_594⟩ : ∃ z : Int32, z = ((y12_161_42 ||| (128 : Int32)).toInt8.toInt32) := ⟨_, rfl⟩
      refine Gl.cast (B := (T592.setTop (mkF m 240 L49 [(.int x240_594), (.int (4 : Int32)), (.ref b7)]))) (by rw [hx240_594]) ?_
      obtain ⟨cl595, Ar595, q595, S595, P595, H595, G595⟩ := (id V592)
      have hin240_595 : ¬ ((4 : Int32) < 0 ∨ cl595.slots.size ≤ ((4 : Int32)).toNatClampNeg) := inb_of S595 ⟨by decide, by decide⟩
      obtain ⟨T595, h595, X595, e595, W595, st595⟩ := stB X592 hx hZ e592 Ar595 (j := (4 : Int32)) hin240_595 (g := (mkF m 240 L49 [(.int x240_594), (.int (4 : Int32)), (.ref b7)])) rfl rfl (hb hby at_240)
      have V595 : Arv Z h595 b7 k7 .byte (10 : Int32) [(.int (nar .byte x49_10)), (.int (nar .byte x60_13)), (.int (nar .byte x71_16)), (.int (nar .byte x209_591)), (.int (nar .byte x240_594)), (.int (nar .byte x104_25)), (.int (nar .byte x116_28)), (.int (nar .byte x128_31)), (.int (nar .byte x136_34)), (.int (nar .byte x147_37))] (.int (0 : Int32)) := Arv.set Ar595 q595 S595 P595 H595 G595 (fits_nar_byte _) W595 4 rfl (Nat.le_of_ble_eq_true rfl)
      have Zc596 : n0 ≤ h595.size := Nat.le_trans Zc593 (Nat.le_of_eq W595.size.symm)
      have N595 := Fr.snoc X595 N592 g_b7
      refine Gl.st (B := (T595.setTop (mkF m 241 L49 []))) st595 ?_
      refine Gl.st (B := (T595.setTop (mkF m 252 L49 [(.int (2 : Int32)), (.int (3 : Int32)), (.ref b7)]))) (fun t k => XS.iload X595.here hx rfl (hb hby at_241) (ldAt hL49 rfl) (XS.iconst X595.here hx rfl (hb hby at_243) (XS.icmpNo X595.here hx rfl (hb hby at_244) rfl (by decide) (XS.aload X595.here hx rfl (hb hby at_247) (ldAt hL49 rfl) rfl (XS.iload X595.here hx rfl (hb hby at_249) (ldAt hL49 rfl) (XS.iconst X595.here hx rfl (hb hby at_251) k)))))) ?_
      refine Gl.st (B := (T595.setTop (mkF m 264 L49 [(.int (128 : Int32)), (.int y13_170_44), (.int (5 : Int32)), (.ref b7)]))) (fun t k => XS.iadd X595.here hx rfl (hb hby at_252) rfl (XS.iload X595.here hx rfl (hb hby at_253) (ldAt hL49 rfl) (XS.iconst X595.here hx rfl (hb hby at_255) (XS.icmpNo X595.here hx rfl (hb hby at_256) rfl (by decide) (XS.iload X595.here hx rfl (hb hby at_259) (ldAt hL49 rfl) (XS.sipush X595.here hx rfl (hb hby at_261) k)))))) ?_
      refine Gl.st (B := (T595.setTop (mkF m 271 L49 [(.int ((y13_170_44 ||| (128 : Int32)).toInt8.toInt32)), (.int (5 : Int32)), (.ref b7)]))) (fun t k => XS.ior X595.here hx rfl (hb hby at_264) rfl (XS.goto X595.here hx rfl (pc0 := 265) (pc' := 270) rfl (hb hby at_265) (by decide) (by decide) (XS.i2b X595.here hx rfl (hb hby at_270) rfl k))) ?_
      obtain ⟨x271_597, hx271_597⟩ : ∃ z : Int32, z = ((y13_170_44 ||| (128 : Int32)).toInt8.toInt32) := ⟨_, rfl⟩
      refine Gl.cast (B := (T595.setTop (mkF m 271 L49 [(.int x271_597), (.int (5 : Int32)), (.ref b7)]))) (by rw [hx271_597]) ?_
      obtain ⟨cl598, Ar598, q598, S598, P598, H598, G598⟩ := (id V595)
      have hin271_598 : ¬ ((5 : Int32) < 0 ∨ cl598.slots.size ≤ ((5 : Int32)).toNatClampNeg) := inb_of S598 ⟨by decide, by decide⟩
      obtain ⟨T598, h598, X598, e598, W598, st598⟩ := stB X595 hx hZ e595 Ar598 (j := (5 : Int32)) hin271_598 (g := (mkF m 271 L49 [(.int x271_597), (.int (5 : Int32)), (.ref b7)])) rfl rfl (hb hby at_271)
      have V598 : Arv Z h598 b7 k7 .byte (10 : Int32) [(.int (nar .byte x49_10)), (.int (nar .byte x60_13)), (.int (nar .byte x71_16)), (.int (nar .byte x209_591)), (.int (nar .byte x240_594)), (.int (nar .byte x271_597)), (.int (nar .byte x116_28)), (.int (nar .byte x128_31)), (.int (nar .byte x136_34)), (.int (nar .byte x147_37))] (.int (0 : Int32)) := Arv.set Ar598 q598 S598 P598 H598 G598 (fits_nar_byte _) W598 5 rfl (Nat.le_of_ble_eq_true rfl)
      have Zc599 : n0 ≤ h598.size := Nat.le_trans Zc596 (Nat.le_of_eq W598.size.symm)
      have N598 := Fr.snoc X598 N595 g_b7
      refine Gl.st (B := (T598.setTop (mkF m 272 L49 []))) st598 ?_
      refine Gl.st (B := (T598.setTop (mkF m 283 L49 [(.int (3 : Int32)), (.int (3 : Int32)), (.ref b7)]))) (fun t k => XS.iload X598.here hx rfl (hb hby at_272) (ldAt hL49 rfl) (XS.iconst X598.here hx rfl (hb hby at_274) (XS.icmpNo X598.here hx rfl (hb hby at_275) rfl (by decide) (XS.aload X598.here hx rfl (hb hby at_278) (ldAt hL49 rfl) rfl (XS.iload X598.here hx rfl (hb hby at_280) (ldAt hL49 rfl) (XS.iconst X598.here hx rfl (hb hby at_282) k)))))) ?_
      refine Gl.st (B := (T598.setTop (mkF m 295 L49 [(.int (128 : Int32)), (.int y14_179_46), (.int (6 : Int32)), (.ref b7)]))) (fun t k => XS.iadd X598.here hx rfl (hb hby at_283) rfl (XS.iload X598.here hx rfl (hb hby at_284) (ldAt hL49 rfl) (XS.iconst X598.here hx rfl (hb hby at_286) (XS.icmpNo X598.here hx rfl (hb hby at_287) rfl (by decide) (XS.iload X598.here hx rfl (hb hby at_290) (ldAt hL49 rfl) (XS.sipush X598.here hx rfl (hb hby at_292) k)))))) ?_
      refine Gl.st (B := (T598.setTop (mkF m 302 L49 [(.int ((y14_179_46 ||| (128 : Int32)).toInt8.toInt32)), (.int (6 : Int32)), (.ref b7)]))) (fun t k => XS.ior X598.here hx rfl (hb hby at_295) rfl (XS.goto X598.here hx rfl (pc0 := 296) (pc' := 301) rfl (hb hby at_296) (by decide) (by decide) (XS.i2b X598.here hx rfl (hb hby at_301) rfl k))) ?_
      obtain ⟨x302_600, hx302_600⟩ : ∃ z : Int32, z = ((y14_179_46 ||| (128 : Int32)).toInt8.toInt32) := ⟨_, rfl⟩
      refine Gl.cast (B := (T598.setTop (mkF m 302 L49 [(.int x302_600), (.int (6 : Int32)), (.ref b7)]))) (by rw [hx302_600]) ?_
      obtain ⟨cl601, Ar601, q601, S601, P601, H601, G601⟩ := (id V598)
      have hin302_601 : ¬ ((6 : Int32) < 0 ∨ cl601.slots.size ≤ ((6 : Int32)).toNatClampNeg) := inb_of S601 ⟨by decide, by decide⟩
      obtain ⟨T601, h601, X601, e601, W601, st601⟩ := stB X598 hx hZ e598 Ar601 (j := (6 : Int32)) hin302_601 (g := (mkF m 302 L49 [(.int x302_600), (.int (6 : Int32)), (.ref b7)])) rfl rfl (hb hby at_302)
      have V601 : Arv Z h601 b7 k7 .byte (10 : Int32) [(.int (nar .byte x49_10)), (.int (nar .byte x60_13)), (.int (nar .byte x71_16)), (.int (nar .byte x209_591)), (.int (nar .byte x240_594)), (.int (nar .byte x271_597)), (.int (nar .byte x302_600)), (.int (nar .byte x128_31)), (.int (nar .byte x136_34)), (.int (nar .byte x147_37))] (.int (0 : Int32)) := Arv.set Ar601 q601 S601 P601 H601 G601 (fits_nar_byte _) W601 6 rfl (Nat.le_of_ble_eq_true rfl)
      have Zc602 : n0 ≤ h601.size := Nat.le_trans Zc599 (Nat.le_of_eq W601.size.symm)
      have N601 := Fr.snoc X601 N598 g_b7
      refine Gl.st (B := (T601.setTop (mkF m 303 L49 []))) st601 ?_
      refine Gl.st (B := (T601.setTop (mkF m 314 L49 [(.int (4 : Int32)), (.int (3 : Int32)), (.ref b7)]))) (fun t k => XS.iload X601.here hx rfl (hb hby at_303) (ldAt hL49 rfl) (XS.iconst X601.here hx rfl (hb hby at_305) (XS.icmpNo X601.here hx rfl (hb hby at_306) rfl (by decide) (XS.aload X601.here hx rfl (hb hby at_309) (ldAt hL49 rfl) rfl (XS.iload X601.here hx rfl (hb hby at_311) (ldAt hL49 rfl) (XS.iconst X601.here hx rfl (hb hby at_313) k)))))) ?_
      refine Gl.st (B := (T601.setTop (mkF m 318 L49 [(.int (y15_185_48.toInt8.toInt32)), (.int (7 : Int32)), (.ref b7)]))) (fun t k => XS.iadd X601.here hx rfl (hb hby at_314) rfl (XS.iload X601.here hx rfl (hb hby at_315) (ldAt hL49 rfl) (XS.i2b X601.here hx rfl (hb hby at_317) rfl k))) ?_
      obtain ⟨x318_603, hx318_603⟩ : ∃ z : Int32, z = (y15_185_48.toInt8.toInt32) := ⟨_, rfl⟩
      refine Gl.cast (B := (T601.setTop (mkF m 318 L49 [(.int x318_603), (.int (7 : Int32)), (.ref b7)]))) (by rw [hx318_603]) ?_
      obtain ⟨cl604, Ar604, q604, S604, P604, H604, G604⟩ := (id V601)
      have hin318_604 : ¬ ((7 : Int32) < 0 ∨ cl604.slots.size ≤ ((7 : Int32)).toNatClampNeg) := inb_of S604 ⟨by decide, by decide⟩
      obtain ⟨T604, h604, X604, e604, W604, st604⟩ := stB X601 hx hZ e601 Ar604 (j := (7 : Int32)) hin318_604 (g := (mkF m 318 L49 [(.int x318_603), (.int (7 : Int32)), (.ref b7)])) rfl rfl (hb hby at_318)
      have V604 : Arv Z h604 b7 k7 .byte (10 : Int32) [(.int (nar .byte x49_10)), (.int (nar .byte x60_13)), (.int (nar .byte x71_16)), (.int (nar .byte x209_591)), (.int (nar .byte x240_594)), (.int (nar .byte x271_597)), (.int (nar .byte x302_600)), (.int (nar .byte x318_603)), (.int (nar .byte x136_34)), (.int (nar .byte x147_37))] (.int (0 : Int32)) := Arv.set Ar604 q604 S604 P604 H604 G604 (fits_nar_byte _) W604 7 rfl (Nat.le_of_ble_eq_true rfl)
      have Zc605 : n0 ≤ h604.size := Nat.le_trans Zc602 (Nat.le_of_eq W604.size.symm)
      have N604 := Fr.snoc X604 N601 g_b7
      refine Gl.st (B := (T604.setTop (mkF m 319 L49 []))) st604 ?_
      refine Gl.st (B := (T604.setTop (mkF m 325 L49 [(.long ((p1.toInt64) &&& (4294967295 : Int64)))]))) (fun t k => XS.iloadN X604.here hx rfl (hb hby at_319) (ldAt hL49 rfl) (XS.i2l X604.here hx rfl (hb hby at_320) rfl (X604.ldc2Long hx hown (mvT hZ (tw hw 2 rfl)) (g := (mkF m 321 L49 [(.long (p1.toInt64))])) rfl (hb hby at_321) _ (XS.land X604.here hx rfl (hb hby at_324) rfl k)))) ?_
      obtain ⟨y16_325_606, hy16_325_606⟩ : ∃ z : Int64, z = ((p1.toInt64) &&& (4294967295 : Int64)) := ⟨_, rfl⟩
      refine Gl.cast (B := (T604.setTop (mkF m 325 L49 [(.long y16_325_606)]))) (by rw [hy16_325_606]) ?_
      obtain ⟨L607, hL607⟩ : ∃ z : Array Slot, z = #[.val (.int p1), .val (.int p2), .val (.int p3), .val (.int p4), .val (.long q5), .second, .val (.int p6), .val (.int (5 : Int32)), .val (.int (3 : Int32)), .val (.int y9_34_5), .val (.ref b7), .val (.int y11_152_40), .val (.int y12_161_42), .val (.int y13_170_44), .val (.int y14_179_46), .val (.int y15_185_48), .val (.long y16_325_606), .second, .unset, .unset] := ⟨_, rfl⟩
      refine Gl.st (B := (T604.setTop (mkF m 350 L607 [(.long y16_325_606)]))) (fun t k => XS.lstore X604.here hx rfl (hb hby at_325) rfl (l' := L607) (stAt hL49 hL607 rfl rfl) (XS.iload X604.here hx rfl (hb hby at_327) (ldAt hL607 rfl) (XS.iconst X604.here hx rfl (hb hby at_329) (XS.icmpNo X604.here hx rfl (hb hby at_330) rfl (by decide) (XS.lload X604.here hx rfl (hb hby at_333) (ldAt hL607 rfl) (XS.goto X604.here hx rfl (pc0 := 335) (pc' := 350) rfl (hb hby at_335) (by decide) (by decide) k)))))) ?_
      obtain ⟨L608, hL608⟩ : ∃ z : Array Slot, z = #[.val (.int p1), .val (.int p2), .val (.int p3), .val (.int p4), .val (.long q5), .second, .val (.int p6), .val (.int (5 : Int32)), .val (.int (3 : Int32)), .val (.int y9_34_5), .val (.ref b7), .val (.int y11_152_40), .val (.int y12_161_42), .val (.int y13_170_44), .val (.int y14_179_46), .val (.int y15_185_48), .val (.long y16_325_606), .second, .val (.long y16_325_606), .second] := ⟨_, rfl⟩
      refine Gl.st (B := (T604.setTop (mkF m 358 L608 [(.int y9_34_5), (.int (3 : Int32)), (.ref b7)]))) (fun t k => XS.lstore X604.here hx rfl (hb hby at_350) rfl (l' := L608) (stAt hL607 hL608 rfl rfl) (XS.aload X604.here hx rfl (hb hby at_352) (ldAt hL608 rfl) rfl (XS.iload X604.here hx rfl (hb hby at_354) (ldAt hL608 rfl) (XS.iload X604.here hx rfl (hb hby at_356) (ldAt hL608 rfl) k)))) ?_
      obtain ⟨cl610, Ar610, q610, S610, P610, H610, G610⟩ := (id V604)
      have hin40_1_611 : ¬ (((3 : Int32) + (0 : Int32)) < 0 ∨ cl610.slots.size ≤ (((3 : Int32) + (0 : Int32))).toNatClampNeg) := inb_of S610 ⟨by decide, by decide⟩
      have hin40_2_612 : ¬ (((3 : Int32) + (1 : Int32)) < 0 ∨ cl610.slots.size ≤ (((3 : Int32) + (1 : Int32))).toNatClampNeg) := inb_of S610 ⟨by decide, by decide⟩
      have hin40_3_613 : ¬ (((3 : Int32) + (2 : Int32)) < 0 ∨ cl610.slots.size ≤ (((3 : Int32) + (2 : Int32))).toNatClampNeg) := inb_of S610 ⟨by decide, by decide⟩
      have hin40_4_614 : ¬ (((3 : Int32) + (3 : Int32)) < 0 ∨ cl610.slots.size ≤ (((3 : Int32) + (3 : Int32))).toNatClampNeg) := inb_of S610 ⟨by decide, by decide⟩
      have hin40_5_615 : ¬ (((3 : Int32) + (4 : Int32)) < 0 ∨ cl610.slots.size ≤ (((3 : Int32) + (4 : Int32))).toNatClampNeg) := inb_of S610 ⟨by decide, by decide⟩
      have hp358_616 : ¬ ((((10 : Int32) ||| (3 : Int32)) ||| y9_34_5) < (0 : Int32)) := own_0_hp358_616 p4 y9_34_5 hy9_34_5 
      have hp358_617 : ¬ (((10 : Int32) - (3 : Int32)) < y9_34_5) := own_0_hp358_617 p4 y9_34_5 hy9_34_5 
      have hp358_618 : ¬ ((0 : Int32) = y9_34_5) := own_0_hp358_618 p4 y9_34_5 hy9_34_5 
      have hp358_619 : ¬ ((((nar .byte x209_591) &&& (255 : Int32))) < (128 : Int32)) := own_0_hp358_619 p1 y11_152_40 x209_591 hy11_152_40 hx209_591 
      have hp358_620 : ¬ ((1 : Int32) = y9_34_5) := own_0_hp358_620 p4 y9_34_5 hy9_34_5 
      have hp358_621 : ¬ ((((nar .byte x240_594) &&& (255 : Int32))) < (128 : Int32)) := own_0_hp358_621 p1 y12_161_42 x240_594 hy12_161_42 hx240_594 
      have hp358_622 : ¬ ((2 : Int32) = y9_34_5) := own_0_hp358_622 p4 y9_34_5 hy9_34_5 
      have hp358_623 : ¬ ((((nar .byte x271_597) &&& (255 : Int32))) < (128 : Int32)) := own_0_hp358_623 p1 y13_170_44 x271_597 hy13_170_44 hx271_597 
      have hp358_624 : ¬ ((3 : Int32) = y9_34_5) := own_0_hp358_624 p4 y9_34_5 hy9_34_5 
      have hp358_625 : ¬ ((((nar .byte x302_600) &&& (255 : Int32))) < (128 : Int32)) := own_0_hp358_625 p1 y14_179_46 x302_600 hy14_179_46 hx302_600 
      have hp358_626 : ¬ ((4 : Int32) = y9_34_5) := own_0_hp358_626 p4 y9_34_5 hy9_34_5 
      have hp358_627 : (((nar .byte x318_603) &&& (255 : Int32))) < (128 : Int32) := own_0_hp358_627 p1 y15_185_48 x318_603 hy15_185_48 hx318_603 
      have hp358_628 : ¬ ((4294967295 : Int64) < (((((((((((0 : Int64) ||| ((((((nar .byte x209_591) &&& (255 : Int32))) &&& (127 : Int32)).toInt64) <<< ((0 : Int32) &&& 0x3f).toInt64))) ||| ((((((nar .byte x240_594) &&& (255 : Int32))) &&& (127 : Int32)).toInt64) <<< ((7 : Int32) &&& 0x3f).toInt64))) ||| ((((((nar .byte x271_597) &&& (255 : Int32))) &&& (127 : Int32)).toInt64) <<< ((14 : Int32) &&& 0x3f).toInt64))) ||| ((((((nar .byte x302_600) &&& (255 : Int32))) &&& (127 : Int32)).toInt64) <<< ((21 : Int32) &&& 0x3f).toInt64))) ||| ((((((nar .byte x318_603) &&& (255 : Int32))) &&& (127 : Int32)).toInt64) <<< ((28 : Int32) &&& 0x3f).toInt64)))) := own_0_hp358_628 p1 y11_152_40 x209_591 y12_161_42 x240_594 y13_170_44 x271_597 y14_179_46 x302_600 y15_185_48 x318_603 hy11_152_40 hx209_591 hy12_161_42 hx240_594 hy13_170_44 hx271_597 hy14_179_46 hx302_600 hy15_185_48 hx318_603 
      obtain ⟨_, _, ⟨T609, L609q, k609, n609⟩, -, X609, ⟨Lc609, hQ609, l609, y609, z609⟩, st609⟩ := Jvm.LawKit.callS X604 hx (y := (⟨"com/example/requeue/requeue/connection/SnappyBlock", "uncompressedLength", "([BII)J"⟩ : MethodName)) hown (mvT hZ (tw hw 3 rfl)) (mvT hZ (tw hw 4 rfl)) (mvT hZ (tw hw 5 rfl)) (mvT hZ (tw hw 6 rfl)) (by decide) (backOf (W := 0) (rm1k5 l Z a0 hw [] b7 (3 : Int32) y9_34_5 cl610 (nar .byte x209_591) (nar .byte x240_594) (nar .byte x271_597) (nar .byte x302_600) (nar .byte x318_603) h604 n0 Zc605 Ar610 S610 P610 hp358_616 hp358_617 hp358_618 hin40_1_611 (Has.at H610 hin40_1_611 (v := (.int (nar .byte x209_591))) rfl) hp358_619 hp358_620 hin40_2_612 (Has.at H610 hin40_2_612 (v := (.int (nar .byte x240_594))) rfl) hp358_621 hp358_622 hin40_3_613 (Has.at H610 hin40_3_613 (v := (.int (nar .byte x271_597))) rfl) hp358_623 hp358_624 hin40_4_614 (Has.at H610 hin40_4_614 (v := (.int (nar .byte x302_600))) rfl) hp358_625 hp358_626 hin40_5_615 (Has.at H610 hin40_5_615 (v := (.int (nar .byte x318_603))) rfl) hp358_627 hp358_628) hZ (tw hw 6 rfl) (tw hw 5 rfl) (by decide) (by decide)) (g := (mkF m 358 L608 [(.int y9_34_5), (.int (3 : Int32)), (.ref b7)])) rfl (szAt hml hL608 rfl) (argsL := [(.ref b7), (.int (3 : Int32)), (.int y9_34_5)]) (rest := []) (lenOf pd_0_0 rfl) rfl (by show 2 * 0 + _ ≤ _; exact Nat.le_of_eq rfl) (hb hby at_358) (fun _ _ => ⟨rfl, e604, (by decide : 1 + 0 ≤ _), (by decide : 10 + 0 ≤ _)⟩)
      dsimp only [Pt.U, Pt.locs, Pt.cells, Pt.slots] at X609 l609 y609 z609 st609 hQ609
      subst l609 y609 z609
      obtain ⟨rfl, N609q, eh609⟩ := hQ609
      have N609 := Fr.app N604 N609q
      refine Gl.st (B := (T609.setTop (mkF m 361 L608 [(.long (((((((((((0 : Int64) ||| ((((((nar .byte x209_591) &&& (255 : Int32))) &&& (127 : Int32)).toInt64) <<< ((0 : Int32) &&& 0x3f).toInt64))) ||| ((((((nar .byte x240_594) &&& (255 : Int32))) &&& (127 : Int32)).toInt64) <<< ((7 : Int32) &&& 0x3f).toInt64))) ||| ((((((nar .byte x271_597) &&& (255 : Int32))) &&& (127 : Int32)).toInt64) <<< ((14 : Int32) &&& 0x3f).toInt64))) ||| ((((((nar .byte x302_600) &&& (255 : Int32))) &&& (127 : Int32)).toInt64) <<< ((21 : Int32) &&& 0x3f).toInt64))) ||| ((((((nar .byte x318_603) &&& (255 : Int32))) &&& (127 : Int32)).toInt64) <<< ((28 : Int32) &&& 0x3f).toInt64))))]))) (fun t k => st609 t k) ?_
      obtain ⟨r358_629, hr358_629⟩ : ∃ z : Int64, z = (((((((((((0 : Int64) ||| ((((((nar .byte x209_591) &&& (255 : Int32))) &&& (127 : Int32)).toInt64) <<< ((0 : Int32) &&& 0x3f).toInt64))) ||| ((((((nar .byte x240_594) &&& (255 : Int32))) &&& (127 : Int32)).toInt64) <<< ((7 : Int32) &&& 0x3f).toInt64))) ||| ((((((nar .byte x271_597) &&& (255 : Int32))) &&& (127 : Int32)).toInt64) <<< ((14 : Int32) &&& 0x3f).toInt64))) ||| ((((((nar .byte x302_600) &&& (255 : Int32))) &&& (127 : Int32)).toInt64) <<< ((21 : Int32) &&& 0x3f).toInt64))) ||| ((((((nar .byte x318_603) &&& (255 : Int32))) &&& (127 : Int32)).toInt64) <<< ((28 : Int32) &&& 0x3f).toInt64))) := ⟨_, rfl⟩
      refine Gl.cast (B := (T609.setTop (mkF m 361 L608 [(.long r358_629)]))) (by rw [hr358_629]) ?_
      refine Gl.st (B := (T609.setTop (mkF m 364 L608 [(.int (lcmpW r358_629 y16_325_606))]))) (fun t k => XS.lload X609.here hx rfl (hb hby at_361) (ldAt hL608 rfl) (XS.lcmp X609.here hx rfl (hb hby at_363) rfl k)) ?_
      have hc364_630 : r358_629 = y16_325_606 := own_0_hc364_630 p1 y11_152_40 x209_591 y12_161_42 x240_594 y13_170_44 x271_597 y14_179_46 x302_600 y15_185_48 x318_603 r358_629 y16_325_606 hy11_152_40 hx209_591 hy12_161_42 hx240_594 hy13_170_44 hx271_597 hy14_179_46 hx302_600 hy15_185_48 hx318_603 hr358_629 hy16_325_606 
      refine Gl.st (B := (T609.setTop (mkF m 372 L608 [(.int (1 : Int32))]))) (fun t k => XS.ifNo X609.here hx rfl (hb hby at_364) rfl ((if0 _ _).trans (teq ((lw_eq r358_629 y16_325_606).mpr hc364_630)).2) (XS.iconst X609.here hx rfl (hb hby at_367) (XS.goto X609.here hx rfl (pc0 := 368) (pc' := 372) rfl (hb hby at_368) (by decide) (by decide) k))) ?_
      obtain ⟨fs, hr, hrun, hended, hW, hsame⟩ := X609.leave (v := some (.int (nar .boolean (1 : Int32)))) (fun h => by rw [Bd.returns] at h; cases h)
      refine Gl.fin (retN X609 hx (t := .boolean) Bd.returns (by simp) (hb hby at_372) hr) hrun hended ⟨_, _, rfl, ?_, ⟨_, rfl⟩, hW, hsame.mono (by decide) (by decide)⟩
      show Q0 Z p1 p2 p3 p4 q5 p6 h0 n0 _ T609.heap _
      rw [eh609]
      exact ⟨rfl, N609⟩
set_option maxRecDepth 65536 in
set_option maxHeartbeats 40000000 in
theorem comes_1 {Post : Tables → Env → Array Value → State → Outcome → State → Prop} (hpost : ∀ tb e args s v u, (limb_1_1.after args s (.returned v) u = true ∧ limb_1_2.after args s (.returned v) u = true ∧ True) → FrameEnd s (.returned v) u (Jvm.fieldLocs frame_1_writes args s ++ Jvm.arrayLocs frame_1_arrays args s ++ Jvm.staticLocs frame_1_statics s) 16 128 → Post tb e args s (.returned v) u) :
    ArmFor flags0 classFile x code maxLocals ret World_1 tables_1 room_1 Calls_1 rest_1 Pre_1 Post := by
  intro l hfl _ _ p e ha hc hk s m args below hf hA hF happ hP
  obtain ⟨hcalls, hrest, hpre⟩ := hP
  obtain ⟨-, -, -, hnamed, -, -, -, hat⟩ := (Spec.applies_iff hf).mp happ
  obtain ⟨hg, hn⟩ := and_e (Cond.before_iff.mp (show (Jvm.Cond.and given_1 narrow_1).before args s = true from hpre))
  obtain ⟨g1, g2⟩ := and_e hg
  obtain ⟨g3, g4⟩ := and_e g2
  obtain ⟨g5, g6⟩ := and_e g4
  obtain ⟨g7, g8⟩ := and_e g6
  obtain ⟨g9, g10⟩ := and_e g8
  obtain ⟨g11, g12⟩ := and_e g10
  obtain ⟨w0, w1, w2, w3, w4, w5, rfl⟩ : ∃ w0 w1 w2 w3 w4 w5 : Value, args = #[w0, w1, w2, w3, w4, w5] := by
    have hs : args.size = 6 := by simpa [Cond.value, given_1] using g1
    obtain ⟨L⟩ := args
    match L, hs with
    | [w0, w1, w2, w3, w4, w5], _ => exact ⟨w0, w1, w2, w3, w4, w5, rfl⟩
  have hw := fun d (hd : d ∈ tables_1) => atoms_spec (ws := Jvm.Cond.code x code maxLocals ret :: tables_1) hat d (List.mem_cons_of_mem _ hd)
  have hfit : Fit s := fun {y c} hc i hi => by
    obtain ⟨ha, rfl⟩ := Array.getElem?_eq_some_iff.mp hc
    have q := List.all_eq_true.mp ((Array.all_eq_true_iff_forall_mem.mp hF) _ (Array.getElem_mem ha)) i (List.mem_range.mpr hi)
    simpa [Array.getElem?_eq_getElem hi] using q
  obtain ⟨i0, ei0⟩ := is_v g3
  obtain rfl : w0 = (.int i0) := Option.some.inj ei0
  obtain ⟨i1, ei1⟩ := is_v g5
  obtain rfl : w1 = (.int i1) := Option.some.inj ei1
  obtain ⟨i2, ei2⟩ := is_v g7
  obtain rfl : w2 = (.int i2) := Option.some.inj ei2
  obtain ⟨i3, ei3⟩ := is_v g9
  obtain rfl : w3 = (.int i3) := Option.some.inj ei3
  obtain ⟨i4, ei4⟩ := isL_v g11
  obtain rfl : w4 = (.long i4) := Option.some.inj ei4
  obtain ⟨i5, ei5⟩ := is_v g12
  obtain rfl : w5 = (.int i5) := Option.some.inj ei5
  obtain ⟨n, o, h1, h2, h3, _, L, rfl, ⟨rfl, N⟩, hq⟩ := rm0 l s _ hw tables_1 i0 i1 i2 i3 i4 i5 s.heap s.heap.size (Nat.le_refl _) p e ha hc hk s m _ below hf ((Spec.applies_iff_loose hf).mp happ).1 ⟨rfl, State.Warmed39.refl s, rfl⟩ trivial
  refine ⟨n, _, h1, h2, h3, hpost _ _ _ _ _ _ ⟨Cond.after_iff.mpr rfl, Cond.after_iff.mpr (eq_i res_at (Term.int_eval (1)) rfl), trivial⟩ ⟨hq.1, hq.2.1, (hq.2.2.sift fun y hy => Or.inr (N y hy)).mono (by decide) (by decide)⟩⟩
theorem main_1_1 : Claimed_1_1 := comes_1 fun _ _ _ _ _ _ h hF => ⟨h.1, hF⟩
theorem main_1_2 : Claimed_1_2 := comes_1 fun _ _ _ _ _ _ h hF => ⟨h.2.1, hF⟩
end Jvm.Pilot.@@N@@
namespace Jvm.Pilot.@@N@@
open Jvm Jvm.ClassFile Sem Op Lib Jvm.Free Jvm.Stand Jvm.Pilot.@@N@@.Jvm.D
/-! MADE BY PROGRAM (witnessworld.py) out of the Statement's table words and the real class files: 11 classes; the members and pool entries that the words name. The judged class is class 1, her method 1. -/
namespace start1
open Jvm.ClassFile
def u (s : String) : CpInfo := .utf8 (stringToUtf16 s)
/-- a pool by its gaps: so many unusable entries, then the entry; so many at the end -/
def gap : Nat → List CpInfo → List CpInfo
  | 0, r => r
  | n + 1, r => .unusable :: gap n r
def poolList (es : List (Nat × CpInfo)) (last : Nat) : List CpInfo := es.foldr (fun e r => gap e.1 (e.2 :: r)) (gap last [])
def pool (es : List (Nat × CpInfo)) (last : Nat) : Array CpInfo := ⟨poolList es last⟩
def fileOf (pool : Array CpInfo) (this : Nat) (attrs : Array Attribute := #[]) (ms : Array MethodInfo := #[]) (fl : Nat := 33) (sup : Nat := 0) (ifs : Array Nat := #[]) (fds : Array FieldInfo := #[]) : ClassFile where
  minorVersion := 0
  majorVersion := 65
  constantPool := pool
  accessFlags := fl
  thisClass := this
  superClass := sup
  interfaces := ifs
  fields := fds
  methods := ms
  attributes := attrs
def plain (name : String) (sup : Option ClassId) : Class where
  name := name
  kind := .ordinary
  loader := none
  accessFlags := 33
  super := sup
  interfaces := #[]
  cf := none
  fields := #[]
  methods := #[]
  instanceTypes := #[]
  staticTypes := #[]
  resolved := #[]
  callSites := []
  init := .initialized
  statics := none
  mirror := none

def pool0 : Array CpInfo := pool [(5, u "<init>"), (0, u "()V"), (1, .class_ 10), (1, u "java/lang/Object")] 113

def k0m0 : Method := { name := "<init>", desc := "()V", sig := { parameters := [], returnType := none }, accessFlags := 1, code := none }
/-- java/lang/Object -/
def k0 : Class := { plain "java/lang/Object" none with
  accessFlags := 33
  interfaces := #[]
  cf := some (fileOf pool0 8 #[] #[{ accessFlags := 1, nameIndex := 5, descriptorIndex := 6, attributes := #[] }] 33 0 #[] #[])
  fields := #[]
  methods := #[k0m0]
  instanceTypes := #[]
  staticTypes := #[]
  resolved := Array.replicate 124 none
  statics := none }

def pool1 : Array CpInfo := pool [(2, .class_ 4), (1, u "java/lang/Object"), (0, u "<init>"), (0, u "()V"), (0, .integer 2147483647), (0, .long 4294967295), (1, .methodref 11 12), (0, .class_ 13), (0, .nameAndType 14 15), (0, u "com/example/requeue/requeue/connection/SnappyBlock"), (0, u "uncompressedLength"), (0, u "([BII)J"), (0, .class_ 17), (0, u "com/example/requeue/requeue/connection/SnappyBlockUncompressedLengthPinLaw"), (2, u "law"), (0, u "(IIIIJI)Z")] 8

def k1m0 : Method := { name := "<init>", desc := "()V", sig := { parameters := [], returnType := none }, accessFlags := 1, code := none }
def k1c1 : Code := { maxStack := 6, maxLocals := 20, code := code, exceptionTable := #[], attributes := #[] }
def k1m1 : Method := { name := "law", desc := "(IIIIJI)Z", sig := { parameters := [.int, .int, .int, .int, .long, .int], returnType := some .boolean }, accessFlags := 9, code := some k1c1 }
/-- com/example/requeue/requeue/connection/SnappyBlockUncompressedLengthPinLaw -/
def k1 : Class := { plain "com/example/requeue/requeue/connection/SnappyBlockUncompressedLengthPinLaw" (some 0) with
  accessFlags := 49
  interfaces := #[]
  cf := some (fileOf pool1 16 #[] #[{ accessFlags := 1, nameIndex := 5, descriptorIndex := 6, attributes := #[] }, { accessFlags := 9, nameIndex := 20, descriptorIndex := 21, attributes := #[] }] 49 2 #[] #[])
  fields := #[]
  methods := #[k1m0, k1m1]
  instanceTypes := #[]
  staticTypes := #[]
  resolved := Array.replicate 30 none
  statics := none }

def pool2 : Array CpInfo := pool [(2, .class_ 4), (1, u "java/lang/Object"), (0, u "<init>"), (0, u "()V"), (0, .methodref 8 9), (0, .class_ 10), (0, .nameAndType 11 12), (0, u "java/util/Objects"), (0, u "checkFromIndexSize"), (0, u "(III)I"), (1, .class_ 16), (1, u "com/example/requeue/requeue/connection/SnappyBlock"), (45, u "LITTLE_ENDIAN_INT"), (0, u "Ljava/lang/invoke/VarHandle;"), (16, .long 4294967295), (5, u "uncompressedLength"), (0, u "([BII)J"), (37, u "MAX_COMPRESSED_LENGTH"), (0, u "I"), (14, u "MAX_LENGTH"), (1, u "HASH_TABLE_SIZE"), (1, u "LITERAL"), (1, u "COPY_1"), (1, u "COPY_2"), (1, u "MIN_MATCH"), (1, u "MIN_MATCHED_INPUT"), (1, u "LONG_LITERAL"), (1, u "MAX_COPY_1_LENGTH"), (1, u "MAX_COPY_1_OFFSET"), (1, u "MAX_COPY_2_LENGTH"), (1, u "HASH_MULTIPLIER")] 33

def k2m0 : Method := { name := "<init>", desc := "()V", sig := { parameters := [], returnType := none }, accessFlags := 2, code := none }
def k2c1 : Code := { maxStack := 6, maxLocals := 7, code := prog_8_method_4_code, exceptionTable := #[], attributes := #[] }
def k2m1 : Method := { name := "uncompressedLength", desc := "([BII)J", sig := { parameters := [(.array .byte), .int, .int], returnType := some .long }, accessFlags := 8, code := some k2c1 }
/-- com/example/requeue/requeue/connection/SnappyBlock -/
def k2 : Class := { plain "com/example/requeue/requeue/connection/SnappyBlock" (some 0) with
  accessFlags := 48
  interfaces := #[]
  cf := some (fileOf pool2 14 #[] #[{ accessFlags := 2, nameIndex := 5, descriptorIndex := 6, attributes := #[] }, { accessFlags := 8, nameIndex := 86, descriptorIndex := 87, attributes := #[] }] 48 2 #[] #[{ accessFlags := 24, nameIndex := 141, descriptorIndex := 126, attributes := #[] }, { accessFlags := 24, nameIndex := 125, descriptorIndex := 126, attributes := #[] }, { accessFlags := 24, nameIndex := 143, descriptorIndex := 126, attributes := #[] }, { accessFlags := 26, nameIndex := 145, descriptorIndex := 126, attributes := #[] }, { accessFlags := 26, nameIndex := 147, descriptorIndex := 126, attributes := #[] }, { accessFlags := 26, nameIndex := 149, descriptorIndex := 126, attributes := #[] }, { accessFlags := 26, nameIndex := 151, descriptorIndex := 126, attributes := #[] }, { accessFlags := 26, nameIndex := 153, descriptorIndex := 126, attributes := #[] }, { accessFlags := 26, nameIndex := 155, descriptorIndex := 126, attributes := #[] }, { accessFlags := 26, nameIndex := 157, descriptorIndex := 126, attributes := #[] }, { accessFlags := 26, nameIndex := 159, descriptorIndex := 126, attributes := #[] }, { accessFlags := 26, nameIndex := 161, descriptorIndex := 126, attributes := #[] }, { accessFlags := 26, nameIndex := 163, descriptorIndex := 126, attributes := #[] }, { accessFlags := 26, nameIndex := 62, descriptorIndex := 63, attributes := #[] }])
  fields := #[{ name := "MAX_LENGTH", type := .int, accessFlags := 24, slot := 0, constantValue := 0 }, { name := "MAX_COMPRESSED_LENGTH", type := .int, accessFlags := 24, slot := 1, constantValue := 0 }, { name := "HASH_TABLE_SIZE", type := .int, accessFlags := 24, slot := 2, constantValue := 0 }, { name := "LITERAL", type := .int, accessFlags := 26, slot := 3, constantValue := 0 }, { name := "COPY_1", type := .int, accessFlags := 26, slot := 4, constantValue := 0 }, { name := "COPY_2", type := .int, accessFlags := 26, slot := 5, constantValue := 0 }, { name := "MIN_MATCH", type := .int, accessFlags := 26, slot := 6, constantValue := 0 }, { name := "MIN_MATCHED_INPUT", type := .int, accessFlags := 26, slot := 7, constantValue := 0 }, { name := "LONG_LITERAL", type := .int, accessFlags := 26, slot := 8, constantValue := 0 }, { name := "MAX_COPY_1_LENGTH", type := .int, accessFlags := 26, slot := 9, constantValue := 0 }, { name := "MAX_COPY_1_OFFSET", type := .int, accessFlags := 26, slot := 10, constantValue := 0 }, { name := "MAX_COPY_2_LENGTH", type := .int, accessFlags := 26, slot := 11, constantValue := 0 }, { name := "HASH_MULTIPLIER", type := .int, accessFlags := 26, slot := 12, constantValue := 0 }, { name := "LITTLE_ENDIAN_INT", type := (.object "java/lang/invoke/VarHandle"), accessFlags := 26, slot := 13, constantValue := 0 }]
  methods := #[k2m0, k2m1]
  instanceTypes := #[]
  staticTypes := #[.int, .int, .int, .int, .int, .int, .int, .int, .int, .int, .int, .int, .int, (.object "java/lang/invoke/VarHandle")]
  resolved := Array.replicate 197 none
  statics := none }

def pool3 : Array CpInfo := pool [(2, .class_ 4), (1, u "java/lang/Object"), (0, u "<init>"), (0, u "()V"), (35, .class_ 44), (1, u "java/util/Objects"), (61, .class_ 108), (1, u "jdk/internal/util/Preconditions"), (5, u "(IIILjava/util/function/BiFunction;)I"), (0, .methodref 106 116), (0, .nameAndType 117 114), (0, u "checkFromIndexSize"), (57, u "(III)I")] 8

def k3m0 : Method := { name := "<init>", desc := "()V", sig := { parameters := [], returnType := none }, accessFlags := 2, code := none }
def k3c1 : Code := { maxStack := 4, maxLocals := 3, code := jdk_31_method_19_code, exceptionTable := #[], attributes := #[] }
def k3m1 : Method := { name := "checkFromIndexSize", desc := "(III)I", sig := { parameters := [.int, .int, .int], returnType := some .int }, accessFlags := 9, code := some k3c1 }
/-- java/util/Objects -/
def k3 : Class := { plain "java/util/Objects" (some 0) with
  accessFlags := 49
  interfaces := #[]
  cf := some (fileOf pool3 42 #[] #[{ accessFlags := 2, nameIndex := 5, descriptorIndex := 6, attributes := #[] }, { accessFlags := 9, nameIndex := 117, descriptorIndex := 175, attributes := #[] }] 49 2 #[] #[])
  fields := #[]
  methods := #[k3m0, k3m1]
  instanceTypes := #[]
  staticTypes := #[]
  resolved := Array.replicate 184 none
  statics := none }

def pool4 : Array CpInfo := pool [(2, .class_ 4), (1, u "java/lang/Object"), (0, u "<init>"), (0, u "()V"), (17, .class_ 26), (1, u "jdk/internal/util/Preconditions"), (22, u "checkFromIndexSize"), (5, .class_ 56), (0, u "jdk/internal/util/Preconditions$4"), (57, .class_ 115), (0, u "jdk/internal/util/Preconditions$1"), (7, u "SIOOBE_FORMATTER"), (0, u "Ljava/util/function/BiFunction;"), (0, .class_ 126), (0, u "jdk/internal/util/Preconditions$2"), (3, u "AIOOBE_FORMATTER"), (0, .class_ 132), (0, u "jdk/internal/util/Preconditions$3"), (3, u "IOOBE_FORMATTER"), (46, u "(IIILjava/util/function/BiFunction;)I")] 10

def k4m0 : Method := { name := "<init>", desc := "()V", sig := { parameters := [], returnType := none }, accessFlags := 1, code := none }
def k4c1 : Code := { maxStack := 4, maxLocals := 4, code := jdk_41_method_13_code, exceptionTable := #[], attributes := #[] }
def k4m1 : Method := { name := "checkFromIndexSize", desc := "(IIILjava/util/function/BiFunction;)I", sig := { parameters := [.int, .int, .int, (.object "java/util/function/BiFunction")], returnType := some .int }, accessFlags := 9, code := some k4c1 }
/-- jdk/internal/util/Preconditions -/
def k4 : Class := { plain "jdk/internal/util/Preconditions" (some 0) with
  accessFlags := 33
  interfaces := #[]
  cf := some (fileOf pool4 24 #[.nestMembers #[55, 131, 125, 114]] #[{ accessFlags := 1, nameIndex := 5, descriptorIndex := 6, attributes := #[] }, { accessFlags := 9, nameIndex := 49, descriptorIndex := 183, attributes := #[] }] 33 2 #[] #[{ accessFlags := 25, nameIndex := 123, descriptorIndex := 124, attributes := #[] }, { accessFlags := 25, nameIndex := 130, descriptorIndex := 124, attributes := #[] }, { accessFlags := 25, nameIndex := 136, descriptorIndex := 124, attributes := #[] }])
  fields := #[{ name := "SIOOBE_FORMATTER", type := (.object "java/util/function/BiFunction"), accessFlags := 25, slot := 0, constantValue := 0 }, { name := "AIOOBE_FORMATTER", type := (.object "java/util/function/BiFunction"), accessFlags := 25, slot := 1, constantValue := 0 }, { name := "IOOBE_FORMATTER", type := (.object "java/util/function/BiFunction"), accessFlags := 25, slot := 2, constantValue := 0 }]
  methods := #[k4m0, k4m1]
  instanceTypes := #[]
  staticTypes := #[(.object "java/util/function/BiFunction"), (.object "java/util/function/BiFunction"), (.object "java/util/function/BiFunction")]
  resolved := Array.replicate 194 none
  statics := none }

def pool5 : Array CpInfo := pool [(1, u "java/lang/Cloneable"), (0, .class_ 1), (0, u "java/lang/Object"), (0, .class_ 3)] 3

/-- java/lang/Cloneable -/
def k5 : Class := { plain "java/lang/Cloneable" (some 0) with
  accessFlags := 1537
  interfaces := #[]
  cf := some (fileOf pool5 2 #[] #[] 1537 4 #[] #[])
  fields := #[]
  methods := #[]
  instanceTypes := #[]
  staticTypes := #[]
  resolved := Array.replicate 8 none
  statics := none }

def pool6 : Array CpInfo := pool [(1, u "java/io/Serializable"), (0, .class_ 1), (0, u "java/lang/Object"), (0, .class_ 3)] 3

/-- java/io/Serializable -/
def k6 : Class := { plain "java/io/Serializable" (some 0) with
  accessFlags := 1537
  interfaces := #[]
  cf := some (fileOf pool6 2 #[] #[] 1537 4 #[] #[])
  fields := #[]
  methods := #[]
  instanceTypes := #[]
  staticTypes := #[]
  resolved := Array.replicate 8 none
  statics := none }

/-- the primitive byte -/
def k7 : Class := { plain "byte" none with kind := .primitive 'B', accessFlags := 0x411 }
/-- [B -/
def k8 : Class := { plain "[B" (some 0) with kind := .array 7 .byte, interfaces := #[5, 6], accessFlags := 1041 }

/-- the primitive int -/
def k9 : Class := { plain "int" none with kind := .primitive 'I', accessFlags := 0x411 }
/-- [I -/
def k10 : Class := { plain "[I" (some 0) with kind := .array 9 .int, interfaces := #[5, 6], accessFlags := 1041 }

def heap : Heap := #[]
def classes : Array Class := #[k0, k1, k2, k3, k4, k5, k6, k7, k8, k9, k10]
def interned : List (Array UInt16 × Addr) := []
def slotsUsed : Nat := 0
def theMethod : MethodId := ⟨1, 1⟩
def args0 : Array Value := #[.int 5, .int 5, .int 5, .int 5, .long 5, .int 5]
def aboutOver (below : List Frame) : State where
  vm := { classes := classes, interned := interned.toArray }
  heap := heap
  slotsUsed := slotsUsed
  threads := #[{ frames := .invoking theMethod args0 :: below }]
def below0 : List Frame := [.native { method := ⟨0, 0⟩, args := #[] }]
def about1 : State := aboutOver below0
def p0 : Program := .bare "" "" ""
def e0 : Env := launch0.env 0 0 0
theorem w_frames : about1.frames = Frame.invoking theMethod args0 :: below0 := rfl
set_option maxRecDepth 65536 in
theorem w_args : argsFit about1.vm theMethod args0 = true := by decide +kernel
set_option maxRecDepth 65536 in
theorem w_heap : heapFits about1 = true := by decide +kernel
set_option maxRecDepth 65536 in
theorem w_runnable : about1.curStatus? = some .runnable := by decide +kernel
set_option maxRecDepth 65536 in
theorem w_alone : about1.alone = true := by decide +kernel
set_option maxRecDepth 65536 in
theorem w_named : about1.methodNamed? x = some theMethod := by decide +kernel
set_option maxRecDepth 65536 in
theorem w_hears : about1.hears theMethod below0 = true := by decide +kernel
set_option maxRecDepth 65536 in
theorem w_ripe : about1.ripe theMethod args0 below0 = true := by decide +kernel
theorem w_running : about1.status = .running := rfl
set_option maxRecDepth 65536 in
theorem w_room : about1.hasRoom e0.platform room_1 = true :=
  launch0.hasRoom_least _ room_1 (by decide +kernel) (by decide +kernel) (by decide +kernel) (by decide +kernel) (by decide +kernel) (by decide +kernel)
theorem allAtoms_all (ts : List Jvm.Cond) (a : Array Jvm.Value) (st : Jvm.State) : (allAtoms ts).before a st = ts.all (fun c => c.before a st) := by
  induction ts with
  | nil => rfl
  | cons c t ih =>
    show (Jvm.Cond.and c (allAtoms t)).before a st = _
    rw [Jvm.Cond.before_and, ih, List.all_cons]
def words1 : List Jvm.Cond := Jvm.Cond.code x code maxLocals ret :: tables_1
/-- a 'code' word, met by the world's own term for the bytes: nothing is compared byte by byte -/
theorem code_word {y : MethodName} {bytes : ByteArray} {mx : Nat} {rt : Option FieldType} {a : Array Value} {s : State} {m : MethodId} {meth : Method} {c : Code} (h1 : s.methodNamed? y = some m) (h2 : s.vm.method? m = some meth) (h3 : meth.code = some c) (h4 : c.code = bytes)
    (h5 : (c.maxLocals == mx && c.exceptionTable.isEmpty && decide (c.maxStack ≤ mostOperands) && decide (meth.sig.returnType = rt) && !meth.locks && decide (parseMethodDescriptor y.desc = some meth.sig)) = true) : (Jvm.Cond.code y bytes mx rt).before a s = true := by
  simp only [Bool.and_eq_true, beq_iff_eq, Bool.not_eq_true', decide_eq_true_eq] at h5
  obtain ⟨⟨⟨⟨⟨g1, g2⟩, g3⟩, g4⟩, g5⟩, g6⟩ := h5
  simp [Cond.before, Cond.holds, Cond.value, h1, h2, h3, h4, g1, g2, g3, g4, g5, g6]
def isCode : Jvm.Cond → Bool
  | .code _ _ _ _ => true
  | _ => false
theorem all_split {L : List Jvm.Cond} {P : Jvm.Cond → Bool} (h1 : L.all (fun c => isCode c || P c) = true) (h2 : ∀ c ∈ L.filter isCode, P c = true) : L.all P = true := by
  refine List.all_eq_true.mpr fun c hc => ?_
  have h := List.all_eq_true.mp h1 c hc
  rcases Bool.eq_false_or_eq_true (isCode c) with hi | hi
  · exact h2 c (List.mem_filter.mpr ⟨hc, hi⟩)
  · simpa [hi] using h
set_option maxRecDepth 65536 in
theorem w_c0 : (Jvm.Cond.code x code maxLocals ret).before args0 about1 = true := code_word (m := ⟨1, 1⟩) (meth := k1m1) (c := k1c1) (by decide +kernel) rfl rfl rfl (by decide +kernel)
set_option maxRecDepth 65536 in
theorem w_c1 : (Jvm.Cond.code ({ cls := "com/example/requeue/requeue/connection/SnappyBlock", name := "uncompressedLength", desc := "([BII)J" } : Jvm.MethodName) prog_8_method_4_code (7 : Nat) (Option.some Jvm.ClassFile.FieldType.long)).before args0 about1 = true := code_word (m := ⟨2, 1⟩) (meth := k2m1) (c := k2c1) (by decide +kernel) rfl rfl rfl (by decide +kernel)
set_option maxRecDepth 65536 in
theorem w_c2 : (Jvm.Cond.code ({ cls := "java/util/Objects", name := "checkFromIndexSize", desc := "(III)I" } : Jvm.MethodName) jdk_31_method_19_code (3 : Nat) (Option.some Jvm.ClassFile.FieldType.int)).before args0 about1 = true := code_word (m := ⟨3, 1⟩) (meth := k3m1) (c := k3c1) (by decide +kernel) rfl rfl rfl (by decide +kernel)
set_option maxRecDepth 65536 in
theorem w_c3 : (Jvm.Cond.code ({ cls := "jdk/internal/util/Preconditions", name := "checkFromIndexSize", desc := "(IIILjava/util/function/BiFunction;)I" } : Jvm.MethodName) jdk_41_method_13_code (4 : Nat) (Option.some Jvm.ClassFile.FieldType.int)).before args0 about1 = true := code_word (m := ⟨4, 1⟩) (meth := k4m1) (c := k4c1) (by decide +kernel) rfl rfl rfl (by decide +kernel)
def codes1 : List Jvm.Cond := [Jvm.Cond.code x code maxLocals ret, Jvm.Cond.code ({ cls := "com/example/requeue/requeue/connection/SnappyBlock", name := "uncompressedLength", desc := "([BII)J" } : Jvm.MethodName) prog_8_method_4_code (7 : Nat) (Option.some Jvm.ClassFile.FieldType.long), Jvm.Cond.code ({ cls := "java/util/Objects", name := "checkFromIndexSize", desc := "(III)I" } : Jvm.MethodName) jdk_31_method_19_code (3 : Nat) (Option.some Jvm.ClassFile.FieldType.int), Jvm.Cond.code ({ cls := "jdk/internal/util/Preconditions", name := "checkFromIndexSize", desc := "(IIILjava/util/function/BiFunction;)I" } : Jvm.MethodName) jdk_41_method_13_code (4 : Nat) (Option.some Jvm.ClassFile.FieldType.int)]
set_option maxRecDepth 65536 in
theorem codes_eq : words1.filter isCode = codes1 := rfl
theorem w_codes : ∀ c ∈ words1.filter isCode, c.before args0 about1 = true := by
  rw [codes_eq]
  intro c hc
  simp only [codes1, List.mem_cons, List.not_mem_nil, or_false] at hc
  rcases hc with rfl | rfl | rfl | rfl
  · exact w_c0
  · exact w_c1
  · exact w_c2
  · exact w_c3
set_option maxRecDepth 65536 in
theorem w_t1 : words1.all (fun c => isCode c || c.before args0 about1) = true := by decide +kernel
theorem w_tables : (allAtoms (Jvm.Cond.code x code maxLocals ret :: tables_1)).before args0 about1 = true := by
  rw [allAtoms_all]
  show words1.all (fun c => c.before args0 about1) = true
  refine all_split ?_ w_codes
  rw [w_t1]
set_option maxRecDepth 65536 in
theorem w_case : (Jvm.Cond.and given_1 narrow_1).before args0 about1 = true := by decide +kernel
theorem w_applies : (headSpec (Jvm.Cond.code x code maxLocals ret :: tables_1) room_1).applies x e0.platform about1 = true :=
  (Spec.applies_iff w_frames).mpr ⟨w_running, w_runnable, w_alone, w_named, w_hears, w_ripe, w_room, w_tables⟩
theorem atStart : AtStart classFile x code maxLocals ret World_1 tables_1 room_1 Calls_1 rest_1 Pre_1 launch0 p0 e0 about1 theMethod args0 below0 :=
  ⟨lists_1, trivial, launch0.admits_env _ _ _, launch0.least_env, fairChoices_fair.cas, fairChoices_fair.clock, w_frames, w_args, w_heap, w_applies, trivial, trivial, w_case⟩
end start1
theorem witness_1 : WitnessClaimed_1 := ⟨start1.p0, start1.e0, start1.about1, start1.theMethod, start1.args0, start1.below0, start1.atStart⟩
end Jvm.Pilot.@@N@@
